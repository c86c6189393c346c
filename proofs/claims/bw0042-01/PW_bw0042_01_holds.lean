import PyProof.Rows.All
import Wide.All
import OpenK.AllK
import Wide.FinOn
import PySem.Challenge.RW_bw0042_01
open PySem PySem.W PySem.Calls PyProof.Rows
set_option Elab.async false
set_option maxRecDepth 100000
set_option maxHeartbeats 8000000
set_option linter.unusedVariables false
namespace Mine
section
local macro_rules
  | `(tactic| o_head ($f:ident $a $b $c)) =>
    if f.getId.eraseMacroScopes == `kHook then `(tactic| o_head (kmHook $a $b $c [196, 310])) else Lean.Macro.throwUnsupported
set_option maxRecDepth 100000 in
set_option maxHeartbeats 8000000 in
open_top hd for PySem.Challenge.rw_bw0042_01
end
abbrev ar (dp un : Nat) (gd : Option (List Code)) (env : Env) (outer : List Env) : Around := { handled := none, depth := dp, frames := some (env :: outer), guards := gd, units := un }
section
local macro_rules | `(tactic| k_room) => `(tactic| ((try simp only [depth_under_make, depth_under_kw, depth_in1, depth_deeper, depth_caller]); (try dsimp only [ar]); omega))
local macro_rules | `(tactic| k_units) => `(tactic| ((have hcL9 := cLine_is); (try simp only [units_in1, units_deeper, Around.mark_units, units_caller]); (try dsimp only [ar]); omega))
local macro_rules | `(tactic| k_enter) => `(tactic| first
  | (refine' code_def ?k1 ?k2 ?k3 ?k4 ?k5 ?kA ?kF ?kK ?k6 ?k7 ?k8 ?k9 ?kB ?_ ?c2 ?c3 ?c4 ?c5; (case kA => exact rfl); (case kF => first | exact rfl | assumption); (case kK => first | exact rfl | assumption); (case k1 => k_asm); (case k2 => k_asm); (case k3 => k_asm); (case k4 => k_asm); (case k5 => k_asm); (case k6 => k_is); (case k7 => k_is); (case k8 => k_room); (case k9 => exact BindsTo.of_eq rfl); (case c5 => decide); (case kB => exact locs rfl); (case c2 => exact rfl); (case c3 => exact rfl); (case c4 => exact rfl); k_whole; intro g' L' h' FG' F' N' B' X' T'; (try dsimp only); (try k_lift B'); (try k_fold))
  | (refine' code_defC ?k1 ?k2 ?k3 ?k4 ?k5 ?kA ?kF ?kK ?k6 ?k7 ?k8 ?k9 ?kB ?kD ?_ ?c2 ?c3 ?c4; (case kA => exact rfl); (case kF => first | exact rfl | assumption); (case kK => first | exact rfl | assumption); (case k1 => k_asm); (case k2 => k_asm); (case k3 => k_asm); (case k4 => k_asm); (case k5 => k_asm); (case k6 => k_is); (case k7 => k_is); (case k8 => k_room); (case k9 => exact BindsTo.of_eq rfl); (case kB => exact rfl); (case kD => decide +kernel); (case c2 => exact rfl); (case c3 => exact rfl); (case c4 => exact rfl); k_whole; intro g' L' h' tk' cells' FG' F' N' Y' B' X' T' l1; (try k_lt l1); k_cells Y'; (try simp only [List.cons_append, List.nil_append] at N'); (try dsimp only); (try k_lift B'); (try k_fold)))
local macro_rules | `(tactic| k_mem) => `(tactic| first | exact List.Mem.head _ | (refine' List.Mem.tail _ ?_; k_mem) | assumption)
local macro_rules | `(tactic| mul_fits) => `(tactic| with_reducible assumption)
theorem fresh1 : True := by
  w_top off
  trivial
/-- the field element's dict -/
abbrev fqD (w : World) (p n : Int) (t1 t2 tp tn : Tok) : Obj := dictOf [⟨PyData.keyHash w.params (Str.ofString "field_modulus"), .str (Str.ofString "field_modulus") t1, .int p tp⟩, ⟨PyData.keyHash w.params (Str.ofString "n"), .str (Str.ofString "n") t2, .int n tn⟩] 2
abbrev FqRet (w : World) (h₀ : Heap) (L : Addr) (m : Str → Option Value) (news : List (Addr × Obj)) (p c : Int) (s : Shared) (Q : Value → Shared → Prop) : Prop :=
  ∀ r d t1 t2 tp tn h' tk', Fr h₀ L h' m → News h₀ L h' ((r, instObj 183 d) :: (d, fqD w p c t1 t2 tp tn) :: news) → (∀ q ∈ news, q.1 < d) → d < r → Q (.ref r) { s with heap := h', toks := tk' }
structure Cx (w : World) (A₀ : Around) (env : Env) (outer : List Env) (base h₀ : Heap) (L : Addr) (pr : Program) (loose : List Str) (mean : ExcName → Option Value) (mg mb : Str → Option Value) : Prop where
  B : Below A₀ base outer h₀
  X : (hd.heap_39 w.params).In h₀
  T : Top pr loose mean mg mb h₀
  f : env.frame = some L
  k : env.scope.kind = .function
abbrev Prg : Program := PySem.Challenge.rw_bw0042_01.row.prog
section
variable {w : World} {A₀ : Around} {dp un : Nat} {gd : Option (List Code)} {env : Env} {outer : List Env} {base h₀ : Heap} {L : Addr} {m : Str → Option Value} {news : List (Addr × Obj)} {s : Shared} {pr : Program} {loose : List Str} {mean : ExcName → Option Value} {mg mb : Str → Option Value}
  {p a b : Int} {Q E : Value → Shared → Prop} {x dx y dy : Addr} {t1 t2 t3 t4 t5 t6 t7 t8 : Tok}
theorem fq_new {tp ta : Tok} (C : Cx w A₀ env outer base h₀ L pr loose mean mg mb) (F : Fr h₀ L s.heap m) (N : News h₀ L s.heap news)
    (hdp : dp + 20 < recursionLimit) (hp : p ≠ 0) (ret : FqRet w h₀ L m news p (a.fmod p) s Q) :
    wpAny (model PySem.Challenge.rw_bw0042_01.row.prog w) (ar dp un gd env outer) (call (.ref 183) [.int a ta, .int p tp]) Q E s := by
  obtain ⟨B, X, T, hf, hk⟩ := C
  revert X; k_fill; intro X
  k_steps
  exact ret _ _ _ _ _ _ _ _ (by assumption) (by assumption) (by assumption) (by assumption)
theorem fq_copy {tp : Tok} {p' : Int} (C : Cx w A₀ env outer base h₀ L pr loose mean mg mb) (F : Fr h₀ L s.heap m) (N : News h₀ L s.heap news) (hx : (x, instObj 183 dx) ∈ news) (hdx : (dx, fqD w p' a t1 t2 t3 t4) ∈ news)
    (hdp : dp + 20 < recursionLimit) (hp : p ≠ 0) (ret : FqRet w h₀ L m news p a s Q) :
    wpAny (model PySem.Challenge.rw_bw0042_01.row.prog w) (ar dp un gd env outer) (call (.ref 183) [.ref x, .int p tp]) Q E s := by
  obtain ⟨B, X, T, hf, hk⟩ := C
  revert X; k_fill; intro X
  k_steps
  exact ret _ _ _ _ _ _ _ _ (by assumption) (by assumption) (by assumption) (by assumption)
end
local macro_rules | `(tactic| walk_at "call ref") => `(tactic| (k_here; (with_reducible show wpAny _ _ (call (Value.ref 183) _) _ _ _); k_dflt (first
  | (refine' fq_new ?C ?F ?N ?d ?p ?_; (case C => exact Cx.mk (by k_asm) (by k_asm) (by k_asm) (by first | exact rfl | assumption) (by first | exact rfl | assumption)); (case F => k_asm); (case N => k_asm); (case d => k_room); (case p => assumption); k_whole)
  | (refine' fq_copy ?C ?F ?N ?x ?dx ?d ?p ?_; (case C => exact Cx.mk (by k_asm) (by k_asm) (by k_asm) (by first | exact rfl | assumption) (by first | exact rfl | assumption)); (case F => k_asm); (case N => k_asm); (case x => k_mem); (case dx => k_mem); (case d => k_room); (case p => assumption); k_whole)); intro r' d' t1' t2' tp' tn' h' tk' F' N' l1' l2'; (try k_sweep)))
theorem fresh2 : True := by
  w_top off
  trivial
theorem fm1 {p a : Int} (hp : 0 < p) : a.fmod p = a % p := Int.fmod_eq_emod_of_nonneg _ (Int.le_of_lt hp)
theorem fm2 {p a : Int} (hp : 0 < p) : (a.fmod p).fmod p = a % p := by rw [fm1 hp, fm1 hp, Int.emod_emod]
section
variable {prog : Program} {w : World} {A : Around} {E : Value → Shared → Prop} {s : Shared} {K : Frag} {x C f : Addr} {ox : Obj} {od : Option Obj}
theorem kio_call {Q : Value → Shared → Prop} (X : K.In s.heap) (I : InstAt s.heap x ox C od) (hs : findIn K (.ref C) "__int__" = some (some (.ref f))) (hf : isFn K (.ref f) = true)
    (h : wpAny (model prog w) A.in1.in1 (call (.ref f) [.ref x]) (fun r s' => ∃ i t, r = .int i t ∧ Q r s') E s) : wpAny (model prog w) A (call (.type "int") [.ref x]) Q E s := by
  refine callType_codes (T := "int") (Bi := Builtin.«object.__init__») (Q₁ := fun r s₁ => ∃ y u, r = .int y u ∧ Q r s₁) PySem.F.called_int (PySem.F.typeCall_int_1 _) PySem.F.entry_object_init ?_ ?_
  · refine codeAny_of_tree ?_
    show wpAny _ A.in1.in1 (do checkBuiltinCall "int.__new__" ⟨[.type "int", .ref x], []⟩; again (.builtin "int.__new__" ⟨[.type "int", .ref x], []⟩)) _ _ s
    refine wpAny_bind (wpAny_of_eq (PySem.F.newCall_int_1 _) (wpAny_pure ⟨plainId_quiet (by decide +kernel) _, codeAny_builtin PySem.F.entry_int_new ?_⟩))
    rw [Around.under_plainId (by decide +kernel) _]
    have f1 := PySem.F.conv_sub_int
    have f2 := PySem.F.madeHere_int
    obtain ⟨hp, g, d, tk, os⟩ := s
    repeat (any_goals (first | assumption | ((with_reducible show wpAny _ _ (callSpecial? _ _ _ _) _ _ _); refine special_fn X I hs (beq_iff_eq.mp hf) (wpAny_mono h (fun r s' hr => ?_) fun _ _ y => y); obtain ⟨i, t, rfl, hq⟩ := hr) | wp_step))
    exact ⟨_, _, rfl, hq⟩
  · rintro obj s₁ ⟨y, u, rfl, hq⟩
    exact ⟨typeIs_int _ _ _, PySem.F.args_object_init_2 _ _, object_init_meets PySem.F.called_int.init.lookup PySem.F.called_int.made (by decide) prog w A.in1 _ s₁ ⟨typeIs_int _ _ _, rfl, hq⟩⟩
end
section
variable {w : World} {A₀ : Around} {dp un : Nat} {gd : Option (List Code)} {env : Env} {outer : List Env} {base h₀ : Heap} {L : Addr} {m : Str → Option Value} {news : List (Addr × Obj)} {s : Shared} {pr : Program} {loose : List Str} {mean : ExcName → Option Value} {mg mb : Str → Option Value}
  {p a b : Int} {Q E : Value → Shared → Prop} {x dx y dy : Addr} {t1 t2 t3 t4 t5 t6 t7 t8 : Tok}
theorem fq_add (C : Cx w A₀ env outer base h₀ L pr loose mean mg mb) (F : Fr h₀ L s.heap m) (N : News h₀ L s.heap news)
    (hx : (x, instObj 183 dx) ∈ news) (hdx : (dx, fqD w p a t1 t2 t3 t4) ∈ news) (hy : (y, instObj 183 dy) ∈ news) (hdy : (dy, fqD w p b t5 t6 t7 t8) ∈ news)
    (hdp : dp + 30 < recursionLimit) (hp : 0 < p) (ret : FqRet w h₀ L m news p ((a + b) % p) s Q) :
    wpAny (model PySem.Challenge.rw_bw0042_01.row.prog w) (ar dp un gd env outer) (call (.ref 61) [.ref x, .ref y]) Q E s := by
  obtain ⟨B, X, T, hf, hk⟩ := C
  have hp0 : p ≠ 0 := by omega
  have e := fm2 (a := a + b) hp
  revert X; k_fill; intro X
  k_steps
  exact ret _ _ _ _ _ _ _ _ (by assumption) (by rw [← e]; assumption) (by assumption) (by assumption)
theorem fq_mul (C : Cx w A₀ env outer base h₀ L pr loose mean mg mb) (F : Fr h₀ L s.heap m) (N : News h₀ L s.heap news)
    (hx : (x, instObj 183 dx) ∈ news) (hdx : (dx, fqD w p a t1 t2 t3 t4) ∈ news) (hy : (y, instObj 183 dy) ∈ news) (hdy : (dy, fqD w p b t5 t6 t7 t8) ∈ news)
    (hdp : dp + 30 < recursionLimit) (hp : 0 < p) (ha : 0 ≤ a) (ha' : a < 2 ^ 60) (ret : FqRet w h₀ L m news p ((a * b) % p) s Q) :
    wpAny (model PySem.Challenge.rw_bw0042_01.row.prog w) (ar dp un gd env outer) (call (.ref 68) [.ref x, .ref y]) Q E s := by
  obtain ⟨B, X, T, hf, hk⟩ := C
  have hp0 : p ≠ 0 := by omega
  have e := fm2 (a := a * b) hp
  have hM : IntMulOk a b := IntMulOk.of_left (intBits_le_64 (by omega) (by omega))
  revert X; k_fill; intro X
  k_steps
  exact ret _ _ _ _ _ _ _ _ (by assumption) (by rw [← e]; assumption) (by assumption) (by assumption)
theorem fq_sub (C : Cx w A₀ env outer base h₀ L pr loose mean mg mb) (F : Fr h₀ L s.heap m) (N : News h₀ L s.heap news)
    (hx : (x, instObj 183 dx) ∈ news) (hdx : (dx, fqD w p a t1 t2 t3 t4) ∈ news) (hy : (y, instObj 183 dy) ∈ news) (hdy : (dy, fqD w p b t5 t6 t7 t8) ∈ news)
    (hdp : dp + 30 < recursionLimit) (hp : 0 < p) (ret : FqRet w h₀ L m news p ((a - b) % p) s Q) :
    wpAny (model PySem.Challenge.rw_bw0042_01.row.prog w) (ar dp un gd env outer) (call (.ref 96) [.ref x, .ref y]) Q E s := by
  obtain ⟨B, X, T, hf, hk⟩ := C
  have hp0 : p ≠ 0 := by omega
  have e := fm2 (a := a - b) hp
  revert X; k_fill; intro X
  k_steps
  exact ret _ _ _ _ _ _ _ _ (by assumption) (by rw [← e]; assumption) (by assumption) (by assumption)
theorem fq_ne (C : Cx w A₀ env outer base h₀ L pr loose mean mg mb) (F : Fr h₀ L s.heap m) (N : News h₀ L s.heap news)
    (hx : (x, instObj 183 dx) ∈ news) (hdx : (dx, fqD w p a t1 t2 t3 t4) ∈ news) (hy : (y, instObj 183 dy) ∈ news) (hdy : (dy, fqD w p b t5 t6 t7 t8) ∈ news)
    (hdp : dp + 30 < recursionLimit) (hun : un + 100 < cLine) (ret : ∀ h' tk', Fr h₀ L h' m → News h₀ L h' news → Q (.bool (!(a == b))) { s with heap := h', toks := tk' }) :
    wpAny (model PySem.Challenge.rw_bw0042_01.row.prog w) (ar dp un gd env outer) (call (.ref 131) [.ref x, .ref y]) Q E s := by
  obtain ⟨B, X, T, hf, hk⟩ := C
  revert X; k_fill; intro X
  k_steps
  exact ret _ _ (by assumption) (by assumption)
theorem fq_int (C : Cx w A₀ env outer base h₀ L pr loose mean mg mb) (F : Fr h₀ L s.heap m) (N : News h₀ L s.heap news)
    (hx : (x, instObj 183 dx) ∈ news) (hdx : (dx, fqD w p a t1 t2 t3 t4) ∈ news)
    (hdp : dp + 30 < recursionLimit) (ret : ∀ h' tk' t, Fr h₀ L h' m → News h₀ L h' news → Q (.int a t) { s with heap := h', toks := tk' }) :
    wpAny (model PySem.Challenge.rw_bw0042_01.row.prog w) (ar dp un gd env outer) (call (.type "int") [.ref x]) Q E s := by
  obtain ⟨B, X, T, hf, hk⟩ := C
  revert X; k_fill; intro X
  refine kio_call (K := hd.heap_39 w.params) (C := 183) (f := 152) (ox := instObj 183 dx) (od := some (fqD w p a t1 t2 t3 t4)) (X.keeps F.keep) (InstAt.of_news N hx hdx) (by k_is) (by k_is) ?_
  k_steps
  exact ret _ _ _ (by assumption) (by assumption)
end
end
section
local macro_rules | `(tactic| walk_at "zzfresh") => `(tactic| skip)
local macro_rules | `(tactic| walk_at "zzfresh") => `(tactic| skip)
theorem fresh3 : True := by
  w_top off
  trivial
section
variable {prog : Program} {w : World} {A : Around} {E : Value → Shared → Prop} {s : Shared} {h₀ : Heap} {L : Addr} {m : Str → Option Value} {env : Env}
open PyProof.Rows.LCg in
theorem loop_comp {elt target iter : Expr} {ifs : List Expr} {scope : Scope} {pos : Pos} {it acc : Value} {env : Env} {R : Result → Shared → Prop} (I : Nat → Shared → Prop)
    (turn : ∀ n s, I n s → wpAny (model prog w) A (pyNext it) (fun r s₁ => match r with
      | none => R (.ok .next) s₁
      | some v => wpAny (model prog w) A (letOwnedTupleGo target it v) (fun _ s₁' => wpAny (model prog w) A (assign target env v) (fun _ s₂ =>
          wpAny (model prog w) A (forIn ifs true fun c r => if r = true then do let ok ← isTrue c env (eval c env); pure (ForInStep.yield ok) else pure (ForInStep.yield r)) (fun ok s₃ =>
            if ok = true then wpAny (model prog w) A (eval elt env) (fun x s₄ =>
              wpAny (model prog w) A (call (.builtin "list.append") [acc, x]) (fun _ s₅ => ∃ m, m < n ∧ I m s₅) (notedBy (model prog w) A env fun e s' => R (.error e) s') s₄) (notedBy (model prog w) A env fun e s' => R (.error e) s') s₃
            else ∃ m, m < n ∧ I m s₃) (notedBy (model prog w) A env fun e s' => R (.error e) s') s₂) (notedBy (model prog w) A env fun e s' => R (.error e) s') s₁') (notedBy (model prog w) A env fun e s' => R (.error e) s') s₁) (notedBy (model prog w) A env fun e s' => R (.error e) s') s)
    (n : Nat) (h : I n s) : codeAny (model prog w) A (.compLoop (.ListComp elt [⟨target, iter, ifs, 0⟩] scope pos) 0 it acc env) R s := by
  refine codeAny_loop rfl I (fun n s hI => ?_) n h
  show wpAny _ A ((compTurn (.ListComp elt [⟨target, iter, ifs, 0⟩] scope pos) 0 it acc env).onRaise (fun x => do noteFrame x env; theTreesLotGoes x)) _ _ s
  refine wpAny_noted ?_
  rw [compTurn_list]
  refine wpAny_bind (wpAny_standAt (wpAny_bind (wpAny_mono (turn n s hI) (fun r s₁ h₁ => ?_) fun _ _ h' => h')))
  cases r with
  | none => exact wpAny_pure h₁
  | some v =>
    refine wpAny_bind (wpAny_mono h₁ (fun _ s₁' h₁' => ?_) fun _ _ h' => h')
    refine wpAny_bind (wpAny_mono h₁' (fun _ s₂ h₂ => wpAny_bind (wpAny_mono h₂ (fun ok s₃ h₃ => ?_) fun _ _ h' => h')) fun _ _ h' => h')
    cases ok with
    | false => exact wpAny_pure ⟨rfl, h₃⟩
    | true => exact wpAny_bind (wpAny_bind (wpAny_mono h₃ (fun x s₄ h₄ => wpAny_bind (wpAny_mono h₄ (fun _ s₅ h₅ => wpAny_pure (wpAny_pure ⟨rfl, h₅⟩)) fun _ _ h' => h')) fun _ _ h' => h'))

/-- a turn's end: what stands at led stands, ex is new, J' holds -/
def CEnd (h₀ : Heap) (L : Addr) (m : Str → Option Value) (s₁ : Shared) (led tl : List (Addr × Obj)) (J' : List (Addr × Obj) → Prop) (s₄ : Shared) : Prop :=
  ∃ h' tk ex, s₄ = { s₁ with heap := h', toks := tk } ∧ Fr h₀ L h' m ∧ News h₀ L h' (ex ++ led) ∧ (∀ p ∈ ex, ∀ q ∈ led, q.1 < p.1) ∧ J' (ex ++ tl)

abbrev TestsOf (prog : Program) (w : World) (A : Around) (ifs : List Expr) (cenv : Env) (Q : Bool → Shared → Prop) (E : Value → Shared → Prop) (s : Shared) : Prop :=
  wpAny (model prog w) A (forIn ifs true fun c r => if r = true then do let ok ← isTrue c cenv (eval c cenv); pure (ForInStep.yield ok) else pure (ForInStep.yield r)) Q E s

structure CompB (prog : Program) (w : World) (A : Around) (h₀ : Heap) (L : Addr) (m : Str → Option Value) (env : Env) (elt target : Expr) (ifs : List Expr) (scope : Scope) (cl : List (Str × Addr)) (I : Addr) (s₂ : Shared)
    (fp wr : List Addr) (n : Nat) (P Md : Nat → Value → Heap → Prop) (St : Nat → Heap → Prop) (news : List (Addr × Obj)) (B : Nat → (Str → Option Value) → Prop) (J : Nat → List Value → List (Addr × Obj) → Prop) : Prop where
  W : KTurns prog w A target I fp wr n P Md St
  self : ∀ (s : Shared) (Q E : Value → Shared → Prop), St 0 s.heap → Q (.ref I) s → wpAny (model prog w) A (pyIter (.ref I)) Q E s
  size : n ≤ sizeLine
  len : ∀ i ys tl, J i ys tl → ys.length ≤ i
  hL : L ∉ fp
  hwr : ∀ b ∈ wr, h₀.get? b = none
  hnw : ∀ p ∈ news, p.1 ∉ wr
  hfp : ∀ b ∈ fp, b < s₂.heap.objs.size
  st : St 0 s₂.heap
  F : Fr h₀ L s₂.heap m
  N : News h₀ L s₂.heap news
  j0 : J 0 [] []
  asg : ∀ (C : Addr) i v (s : Shared) m₂ (Q' : Unit → Shared → Prop) (E' : Value → Shared → Prop), i < n → P i v s.heap → s.heap.Ns C m₂ →
    (∀ h' tk' m₃, h'.Ns C m₃ → B i m₃ → (∀ b o, b ≠ C → s.heap.get? b = some o → h'.get? b = some o) → Q' () { s with heap := h', toks := tk' }) → wpAny (model prog w) A (assign target (compEnvC scope cl C env) v) Q' E' s
  step : ∀ i ys tl C oC m₃ h tk led (E' : Value → Shared → Prop), i < n → J i ys tl → LCg.NsObj oC m₃ → B i m₃ → (C, oC) ∈ led → (∀ p ∈ tl ++ news, p ∈ led) → Fr h₀ L h m → News h₀ L h led →
    TestsOf prog w A ifs (compEnvC scope cl C env) (fun ok s₃ => if ok = true then wpAny (model prog w) A (eval elt (compEnvC scope cl C env)) (fun y s₄ => CEnd h₀ L m { s₂ with heap := h, toks := tk } led tl (J (i + 1) (ys ++ [y])) s₄) E' s₃
      else CEnd h₀ L m { s₂ with heap := h, toks := tk } led tl (J (i + 1) ys) s₃) E' { s₂ with heap := h, toks := tk }

open PyProof.Rows.LCg in
theorem comp_block {elt target iter : Expr} {ifs : List Expr} {scope : Scope} {cl : List (Str × Addr)} {pos : Pos} {s₂ : Shared} {I : Addr} {fp wr : List Addr} {n : Nat} {P Md : Nat → Value → Heap → Prop} {St : Nat → Heap → Prop} {news : List (Addr × Obj)}
    {B : Nat → (Str → Option Value) → Prop} {J : Nat → List Value → List (Addr × Obj) → Prop} {RR : Value → Addr → Result → Shared → Prop}
    (K : CompB prog w A h₀ L m env elt target ifs scope cl I s₂ fp wr n P Md St news B J) (hcell : ∀ y ∈ scope.names, y.2 ≠ .cell) (hkind : scope.kind = .function)
    (hRR : ∀ D C h tk m' ys tl, Fr h₀ L h m → News h₀ L h ((D, lst ys) :: (tl ++ news)) → (∀ p ∈ tl, D < p.1) → (∀ p ∈ tl, ∀ q ∈ news, q.1 < p.1) → (∀ q ∈ news, q.1 < D) → h.Ns C m' → h₀.get? C = none → h₀.get? D = none → C ≠ L → D ≠ L → C ≠ D → (∀ p ∈ tl ++ news, p.1 ≠ C) → J n ys tl →
      RR (.ref D) C (.ok .next) { s₂ with heap := h, toks := tk }) :
    wpAny (model prog w) A (newList []) (fun acc s₃ => wpAny (model prog w) A (newFunctionEnv scope env.globals cl [] env.qual none .none (some env)) (fun cenv s₄ =>
      codeAny (model prog w) A (.compStart (.ListComp elt [⟨target, iter, ifs, 0⟩] scope pos) 0 (.ref I) acc { cenv with scope := relabel scope env }) (RR acc cenv.locals) s₄) E s₃) E s₂ := by
  obtain ⟨W, hself, hsz, hlen, hLf, hwr, hnw, hfp, hst, F, N, j0, asg, step⟩ := K
  refine wpAny_newObj_type (wpAny_newFunctionEnv hcell (by intro y hy; simp at hy) (fun h₁ hns₁ hsb₁ => ?_) hkind)
  dsimp only at hns₁ hsb₁ ⊢
  generalize hH2 : s₂.heap.push { cls := .type "list", dict := none, data := .seq ([] : List Value).toArray } = H2 at hns₁ hsb₁ ⊢
  have hC : H2.objs.size = s₂.heap.objs.size + 1 := by rw [← hH2, Heap.size_push]
  have hDC : s₂.heap.objs.size ≠ H2.objs.size := by rw [hC]; exact Nat.ne_of_lt (Nat.lt_succ_self _)
  have below : ∀ b, b < s₂.heap.objs.size → b ≠ H2.objs.size ∧ b ≠ s₂.heap.objs.size := fun b hb => ⟨by rw [hC]; exact Nat.ne_of_lt (Nat.lt_succ_of_lt hb), Nat.ne_of_lt hb⟩
  have hDf : s₂.heap.objs.size ∉ fp := fun hm => Nat.lt_irrefl _ (hfp _ hm)
  have hCf : H2.objs.size ∉ fp := fun hm => by have := hfp _ hm; rw [hC] at this; exact Nat.lt_irrefl _ (Nat.lt_of_succ_lt this)
  have old : ∀ b o, s₂.heap.get? b = some o → h₁.get? b = some o := fun b o e => hsb₁.extBut b o (below b (Heap.lt_size e)).1 (Heap.get?_push_of_some _ (hH2 ▸ Heap.get?_push_of_some _ e))
  have hacc : h₁.get? s₂.heap.objs.size = some (lst []) := hsb₁.extBut _ _ hDC (Heap.get?_push_of_some _ (hH2 ▸ Heap.get?_push_size _ rfl))
  have hst₁ : St 0 h₁ := W.frame _ _ _ hst fun b _ o e => old b o e
  have fresh : ∀ a, s₂.heap.objs.size ≤ a → s₂.heap.get? a = none := fun a ha => by
    cases e : s₂.heap.get? a with
    | none => rfl
    | some o' => exact absurd (Heap.lt_size e) (Nat.not_lt.mpr ha)
  have fresh₀ : ∀ a, s₂.heap.objs.size ≤ a → h₀.get? a = none := fun a ha => by
    cases e : h₀.get? a with
    | none => rfl
    | some o' => have := F.keep a o' e; rw [fresh a ha] at this; cases this
  have hD₀ : h₀.get? s₂.heap.objs.size = none := fresh₀ _ (Nat.le_refl _)
  have hC₀ : h₀.get? H2.objs.size = none := fresh₀ _ (by rw [hC]; exact Nat.le_succ _)
  have hLlt : L < s₂.heap.objs.size := F.ns.lt
  have hDL : s₂.heap.objs.size ≠ L := Ne.symm (below L hLlt).2
  have hCL : H2.objs.size ≠ L := Ne.symm (below L hLlt).1
  have hLw : L ∉ wr := fun h => hLf (W.sub _ h)
  have hDw : s₂.heap.objs.size ∉ wr := fun h => hDf (W.sub _ h)
  have hCw : H2.objs.size ∉ wr := fun h => hCf (W.sub _ h)
  have ltD : ∀ a, H2.objs.size < a → s₂.heap.objs.size < a := fun a ha => Nat.lt_trans (by rw [hC]; exact Nat.lt_succ_self _) ha
  have nlt : ∀ q ∈ news, q.1 < s₂.heap.objs.size := fun q hq => Heap.lt_size (N q hq).1
  have old₀ : ∀ b o, h₀.get? b = some o → b ∉ wr := fun b o e hb => by rw [hwr b hb] at e; cases e
  have neC₀ : ∀ b o, h₀.get? b = some o → b ≠ H2.objs.size := fun b o e hb => by rw [hb, hC₀] at e; cases e
  have loop : ∀ s₃ : Shared, s₃ = { s₂ with heap := h₁, toks := s₂.toks + ([] : List (Str × Value)).length } →
      codeAny (model prog w) A (.compLoop (.ListComp elt [⟨target, iter, ifs, 0⟩] scope pos) 0 (.ref I) (.ref s₂.heap.objs.size) (compEnvC scope cl H2.objs.size env))
        (RR (.ref s₂.heap.objs.size) H2.objs.size) s₃ := by
    rintro s₃ rfl
    refine loop_comp
      (fun k s' => ∃ h' tk i ys tl m', s' = { s₂ with heap := h', toks := tk } ∧ i ≤ n ∧ k = n + 1 - i ∧ St i h' ∧ Fr h₀ L h' m ∧ h'.Ns H2.objs.size m' ∧ News h₀ L h' ((s₂.heap.objs.size, lst ys) :: (tl ++ news)) ∧
        (∀ p ∈ tl, H2.objs.size < p.1) ∧ J i ys tl) ?_ (n + 1)
      ⟨h₁, _, 0, [], [], _, rfl, Nat.zero_le _, rfl, hst₁, F.keeps old, hns₁, fun p hp => ?_, (fun p hp => nomatch hp), j0⟩
    · rintro k s' ⟨h', tk, i, ys, tl, m', rfl, hi, rfl, hst', F', hn', N', off', hJ⟩
      have tne : ∀ p ∈ tl ++ news, p.1 ∉ fp → p.1 ∉ wr := fun p _ h1 h2 => h1 (W.sub _ h2)
      have tnw : ∀ p ∈ tl ++ news, p.1 ∉ wr := fun p hp => (List.mem_append.mp hp).elim (fun h1 h2 => by
        have a1 := off' p h1
        have a2 := hfp _ (W.sub _ h2)
        rw [hC] at a1
        exact absurd (Nat.lt_trans (Nat.lt_trans (Nat.lt_succ_self _) a1) a2) (Nat.lt_irrefl _)) (hnw p)
      have tnC : ∀ p ∈ tl ++ news, p.1 ≠ H2.objs.size := fun p hp => (List.mem_append.mp hp).elim (fun h1 => Nat.ne_of_gt (off' p h1)) fun h1 => (below _ (nlt p h1)).1
      have tnD : ∀ p ∈ tl ++ news, p.1 ≠ s₂.heap.objs.size := fun p hp => (List.mem_append.mp hp).elim (fun h1 => Nat.ne_of_gt (by have := off' p h1; rw [hC] at this; exact Nat.lt_of_succ_lt this)) fun h1 => (below _ (nlt p h1)).2
      by_cases hlt : i < n
      · refine W.item i _ _ _ hlt hst' fun v ha tka hMd hka => ?_
        refine W.go i v _ _ _ hMd fun h₂ hP hst₂ hk₂ => ?_
        have hkb : ∀ b o, b ∉ wr → h'.get? b = some o → h₂.get? b = some o := fun b o hb e => hk₂ b o hb (hka b o hb e)
        refine asg H2.objs.size i v _ _ _ _ hlt hP (hn'.at' fun o e => hkb _ o hCw e) fun h₃ tk₃ m₃ hn₃ hB hk₃ => ?_
        have hst₃ : St (i + 1) h₃ := W.frame _ _ _ hst₂ fun b hb o e => hk₃ b o (fun q => hCf (q ▸ hb)) e
        obtain ⟨oC, heC, hoC⟩ := ns_obj hn₃
        have F₃ : Fr h₀ L h₃ m := ⟨F'.ns.at' fun o e => hk₃ L o (Ne.symm hCL) (hkb L o hLw e), fun b o e => hk₃ b o (neC₀ b o e) (hkb b o (old₀ b o e) (F'.keep b o e)), F'.above⟩
        have Nown : News h₀ L h₃ (ownOf h₀ fp h₃) := news_ownOf hLf
        have N₃ : News h₀ L h₃ ((H2.objs.size, oC) :: (s₂.heap.objs.size, lst ys) :: (ownOf h₀ fp h₃ ++ (tl ++ news))) := fun p hp => by
          rcases List.mem_cons.mp hp with rfl | hp
          · exact ⟨heC, hCL, hC₀⟩
          · rcases List.mem_cons.mp hp with rfl | hp
            · have z := N' _ List.mem_cons_self
              exact ⟨hk₃ _ _ hDC (hkb _ _ hDw z.1), z.2⟩
            · rcases List.mem_append.mp hp with hp | hp
              · exact Nown p hp
              · have z := N' p (List.mem_cons_of_mem _ hp)
                exact ⟨hk₃ _ _ (tnC p hp) (hkb _ _ (tnw p hp) z.1), z.2⟩
        have after : ∀ (h₄ : Heap) ex, Fr h₀ L h₄ m → News h₀ L h₄ (ex ++ ((H2.objs.size, oC) :: (s₂.heap.objs.size, lst ys) :: (ownOf h₀ fp h₃ ++ (tl ++ news)))) → St (i + 1) h₄ := fun h₄ ex F₄ N₄ => by
          refine W.frame _ _ _ hst₃ fun b hb o e => ?_
          cases hn : h₀.get? b with
          | some o₀ =>
            have : o₀ = o := by have q := F₃.keep b o₀ hn; rw [e] at q; exact (Option.some.inj q).symm
            exact this ▸ F₄.keep b o₀ hn
          | none => exact (N₄ _ (List.mem_append_right _ (List.mem_cons_of_mem _ (List.mem_cons_of_mem _ (List.mem_append_left _ (mem_ownOf hb hn e)))))).1
        have mC : ∀ ex : List (Addr × Obj), (H2.objs.size, oC) ∈ (ex ++ ((H2.objs.size, oC) :: (s₂.heap.objs.size, lst ys) :: (ownOf h₀ fp h₃ ++ (tl ++ news)))) := fun ex => List.mem_append_right _ List.mem_cons_self
        have mD : ∀ ex : List (Addr × Obj), (s₂.heap.objs.size, lst ys) ∈ (ex ++ ((H2.objs.size, oC) :: (s₂.heap.objs.size, lst ys) :: (ownOf h₀ fp h₃ ++ (tl ++ news)))) := fun ex => List.mem_append_right _ (List.mem_cons_of_mem _ List.mem_cons_self)
        have mT : ∀ ex : List (Addr × Obj), ∀ p ∈ (ex ++ tl) ++ news, p ∈ (ex ++ ((H2.objs.size, oC) :: (s₂.heap.objs.size, lst ys) :: (ownOf h₀ fp h₃ ++ (tl ++ news)))) := fun ex p hp => by
          rw [List.append_assoc] at hp
          rcases List.mem_append.mp hp with hp | hp
          · exact List.mem_append_left _ hp
          · exact List.mem_append_right _ (List.mem_cons_of_mem _ (List.mem_cons_of_mem _ (List.mem_append_right _ hp)))
        refine wpAny_mono (step i ys tl H2.objs.size oC m₃ h₃ tk₃ _ _ hlt hJ hoC hB List.mem_cons_self (fun p hp => List.mem_cons_of_mem _ (List.mem_cons_of_mem _ (List.mem_append_right _ hp))) F₃ N₃) (fun ok s₃ h₃' => ?_) fun _ _ e => e
        cases ok with
        | false =>
          obtain ⟨h₄, tk₄, ex, rfl, F₄, N₄, hex, hJ₄⟩ := h₃'
          refine ⟨n + 1 - (i + 1), by omega, h₄, tk₄, i + 1, ys, ex ++ tl, _, rfl, hlt, rfl, after h₄ ex F₄ N₄, F₄, hoC.ns (N₄ _ (mC ex)).1, fun p hp => ?_, fun p hp => ?_, hJ₄⟩
          · rcases List.mem_cons.mp hp with rfl | hp
            · exact N₄ _ (mD ex)
            · exact N₄ _ (mT ex p hp)
          · rcases List.mem_append.mp hp with hp | hp
            · exact hex p hp _ List.mem_cons_self
            · exact off' p hp
        | true =>
          refine wpAny_mono h₃' (fun y s₄ h₄' => ?_) fun _ _ e => e
          obtain ⟨h₄, tk₄, ex, rfl, F₄, N₄, hex, hJ₄⟩ := h₄'
          have zD := (N₄ _ (mD ex)).1
          refine append_at (hsz := by show ys.toArray.size ≤ sizeLine; rw [List.size_toArray]; exact Nat.le_trans (hlen i ys tl hJ) (Nat.le_trans hi hsz)) zD fun h₅ hs₅ hD₅ => ?_
          refine ⟨n + 1 - (i + 1), by omega, h₅, tk₄, i + 1, ys ++ [y], ex ++ tl, _, rfl, hlt, rfl, W.frame _ _ _ (after h₄ ex F₄ N₄) fun b hb o e => hs₅.extBut b o (fun q => hDf (q ▸ hb)) e, F₄.change hs₅ hDL hD₀,
            (hoC.ns (N₄ _ (mC ex)).1).sameBut hs₅ (Ne.symm hDC), fun p hp => ?_, fun p hp => ?_, hJ₄⟩
          · rcases List.mem_cons.mp hp with rfl | hp
            · exact ⟨hD₅.trans (congrArg some (lst_snoc ys y)), hDL, hD₀⟩
            · have z := N₄ _ (mT ex p hp)
              refine ⟨hs₅.extBut _ _ ?_ z.1, z.2⟩
              rw [List.append_assoc] at hp
              rcases List.mem_append.mp hp with hp | hp
              · exact Nat.ne_of_gt (hex p hp (s₂.heap.objs.size, lst ys) (List.mem_cons_of_mem _ List.mem_cons_self))
              · exact tnD p hp
          · rcases List.mem_append.mp hp with hp | hp
            · exact hex p hp _ List.mem_cons_self
            · exact off' p hp
      · obtain rfl : i = n := Nat.le_antisymm hi (Nat.not_lt.mp hlt)
        refine W.done _ _ _ hst' fun h₂ tk₂ hk₂ => ?_
        refine hRR _ _ h₂ tk₂ _ ys tl ⟨F'.ns.at' fun o e => hk₂ L o hLw e, fun b o e => hk₂ b o (old₀ b o e) (F'.keep b o e), F'.above⟩ (fun p hp => ?_) (fun p hp => ltD _ (off' p hp)) (fun p hp q hq => Nat.lt_trans (nlt q hq) (ltD _ (off' p hp))) nlt (hn'.at' fun o e => hk₂ _ o hCw e) hC₀ hD₀ hCL hDL (Ne.symm hDC) tnC hJ
        rcases List.mem_cons.mp hp with rfl | hp
        · exact ⟨hk₂ _ _ hDw (N' _ List.mem_cons_self).1, (N' _ List.mem_cons_self).2⟩
        · have z := N' p (List.mem_cons_of_mem _ hp)
          exact ⟨hk₂ _ _ (tnw p hp) z.1, z.2⟩
    · rcases List.mem_cons.mp hp with rfl | hp
      · exact ⟨hacc, hDL, hD₀⟩
      · exact ⟨old _ _ (N p hp).1, (N p hp).2⟩
  exact codeAny_compStart_list (loop _ rfl) (hself _ _ _ hst₁ (loop _ rfl))

abbrev CDone (h₀ : Heap) (L : Addr) (m : Str → Option Value) (s₂ : Shared) (n : Nat) (news : List (Addr × Obj)) (J : Nat → List Value → List (Addr × Obj) → Prop) (Q : Value → Shared → Prop) : Prop :=
  ∀ ys D h tk tl, J n ys tl → Fr h₀ L h m → News h₀ L h ((D, LCg.lst ys) :: (tl ++ news)) → (∀ p ∈ tl, D < p.1) → (∀ p ∈ tl, ∀ q ∈ news, q.1 < p.1) → (∀ q ∈ news, q.1 < D) → Q (.ref D) { s₂ with heap := h, toks := tk }

theorem comp_K {elt target iter : Expr} {ifs : List Expr} {scope : Scope} {cl : List (Str × Addr)} {pos : Pos} {Q : Value → Shared → Prop}
    (hclos : closureFor scope env = pure cl) (hcell : ∀ y ∈ scope.names, y.2 ≠ .cell) (hkind : scope.kind = .function)
    (hnames : ∀ y ∈ scope.names, y.2 = .local → scope.names.lookup y.1 = some .local)
    (h : wpAny (model prog w) A (eval iter env) (fun xv s₁ => wpAny (model prog w) A (pyIter xv) (fun it s₂ => ∃ I fp wr n P Md St news B J, it = .ref I ∧ CompB prog w A h₀ L m env elt target ifs scope cl I s₂ fp wr n P Md St news B J ∧ CDone h₀ L m s₂ n news J Q) E s₁) E s)
    (hs : ∀ x, foldedSetIterable iter env x = pure x := by intro _; rfl) :
    wpAny (model prog w) A (eval (.ListComp elt [⟨target, iter, ifs, 0⟩] scope pos) env) Q E s := by
  rw [eval_ListComp]
  refine wpAny_comprehension_free (use := none) rfl hs hclos hkind hnames (wpAny_mono h (fun xv s₁ h₁ => wpAny_mono h₁ (fun it s₂ h₂ => ?_) fun _ _ e => e) fun _ _ e => e)
  obtain ⟨I, fp, wr, n, P, Md, St, news, B, J, rfl, K, hQ⟩ := h₂
  refine comp_block K hcell hkind ?_
  intro D C h tk m' ys tl F' N' o1 o2 o3 hn hC₀ hD₀ hCL hDL hCD offC hJ
  refine ⟨m', hn, fun h'' hs'' => hQ ys D h'' tk tl hJ (F'.change hs'' hCL hC₀) (fun p hp => ?_) o1 o2 o3⟩
  refine ⟨hs''.extBut _ _ ?_ (N' p hp).1, (N' p hp).2⟩
  rcases List.mem_cons.mp hp with rfl | hp
  · exact Ne.symm hCD
  · exact offC p hp

theorem comp_A {elt target iter : Expr} {ifs : List Expr} {y : Str} {py : Pos} {scope : Scope} {cl : List (Str × Addr)} {pos spos : Pos} {Q : Flow → Shared → Prop} (hLe : env.locals = L)
    (hsw : swapsWith (.ListComp elt [⟨target, iter, ifs, 0⟩] scope pos) (some (.Name y py)) spos.line env = pure true)
    (hclos : closureFor scope env = pure cl) (hcell : ∀ z ∈ scope.names, z.2 ≠ .cell) (hkind : scope.kind = .function)
    (hnames : ∀ z ∈ scope.names, z.2 = .local → scope.names.lookup z.1 = some .local)
    (hy : env.kindOf y = some .local) (hp : (env.scope.kind == .class || (env.scope.kind == .module && env.locals != env.globals)) = false)
    (h : wpAny (model prog w) A (eval iter env) (fun xv s₁ => wpAny (model prog w) A (pyIter xv) (fun it s₂ => ∃ I fp wr n P Md St news B J, it = .ref I ∧ CompB prog w A h₀ L m env elt target ifs scope cl I s₂ fp wr n P Md St news B J ∧
      ∀ ys D h tk tl, J n ys tl → Fr h₀ L h (fun z => if z = y then some (.ref D) else m z) → News h₀ L h ((D, LCg.lst ys) :: (tl ++ news)) → (∀ p ∈ tl, D < p.1) → (∀ p ∈ tl, ∀ q ∈ news, q.1 < p.1) → (∀ q ∈ news, q.1 < D) → Q .next { s₂ with heap := h, toks := tk }) E s₁) E s)
    (hs : ∀ x, foldedSetIterable iter env x = pure x := by intro _; rfl) :
    wpAny (model prog w) A (exec (.Assign [.Name y py] (.ListComp elt [⟨target, iter, ifs, 0⟩] scope pos) spos) env) Q E s := by
  subst hLe
  rw [exec_Assign_Name_used _ _ _ _ hsw]
  refine wpAny_bind (wpAny_standAt (wpAny_bind ?_))
  show wpAny _ A (do let _ ← comprehension (.ListComp elt [⟨target, iter, ifs, 0⟩] scope pos) scope env _ (newList []) false (eval iter env) (some (assign (.Name y py) env))) _ _ s
  refine wpAny_bind (wpAny_mono (wpAny_comprehension_free (use := some (assign (.Name y py) env)) (Q := fun _ s' => Q .next s') rfl hs hclos hkind hnames
    (wpAny_mono h (fun xv s₁ h₁ => wpAny_mono h₁ (fun it s₂ h₂ => ?_) fun _ _ e => e) fun _ _ e => e)) (fun _ s' hq => wpAny_pure (wpAny_pure hq)) fun _ _ e => e)
  obtain ⟨I, fp, wr, n, P, Md, St, news, B, J, rfl, K, hQ⟩ := h₂
  refine comp_block K hcell hkind ?_
  intro D C h' tk m' ys tl F' N' o1 o2 o3 hn hC₀ hD₀ hCL hDL hCD offC hJ
  show wpAny _ A (assign (.Name y py) env (.ref D)) _ _ _
  refine wpAny_assign_Name (wpAny_storeName_local hy F'.ns (fun h₂ hn₂ hs₂ => ?_) hp)
  have hL₀ : h₀.get? env.locals = none := Heap.get?_none_of_le F'.above
  have F₂ : Fr h₀ env.locals h₂ (fun z => if z = y then some (.ref D) else m z) := ⟨hn₂, fun b o e => hs₂.extBut b o (fun q => by rw [q, hL₀] at e; cases e) (F'.keep b o e), F'.above⟩
  refine ⟨m', hn.sameBut hs₂ hCL, fun h'' hs'' => hQ ys D h'' _ tl hJ (F₂.change hs'' hCL hC₀) (fun p hp => ?_) o1 o2 o3⟩
  have z : h₂.get? p.1 = some p.2 := hs₂.extBut _ _ (N' p hp).2.1 (N' p hp).1
  refine ⟨hs''.extBut _ _ ?_ z, (N' p hp).2⟩
  rcases List.mem_cons.mp hp with rfl | hp
  · exact Ne.symm hCD
  · exact offC p hp
end
local macro_rules | `(tactic| walk_at "zzfresh") => `(tactic| skip)
theorem fresh4 : True := by
  w_top off
  trivial
theorem or2 {b i t z : Addr} (h : b = i ∨ b = t) (h1 : i ≠ z) (h2 : t ≠ z) : b ≠ z := by rcases h with rfl | rfl <;> assumption
/-- i draws the items of xs, which stand at t -/
structure Dr (prog : Program) (w : World) (i t : Addr) (xs : Array Value) (St : Nat → Heap → Prop) : Prop where
  frame : ∀ k h h', St k h → (∀ b, b = i ∨ b = t → ∀ o, h.get? b = some o → h'.get? b = some o) → St k h'
  here : ∀ k h, St k h → (∃ o, h.get? i = some o) ∧ ∃ o, h.get? t = some o
  item : ∀ (A : Around) (E : Value → Shared → Prop) (s : Shared) k x (Q : Value → Shared → Prop), St k s.heap → xs[k]? = some x → (∀ h', St (k + 1) h' → Heap.SameBut i s.heap h' → Q x { s with heap := h' }) →
    wpAny (model prog w) A (Builtin.SmallTypes.nextOf (.ref i)) Q E s
  fin : ∀ (A : Around) (E : Value → Shared → Prop) (s : Shared) k (Q : Value → Shared → Prop), A.handled = none → St k s.heap → xs[k]? = none →
    (∀ h' e, Heap.ExtBut i s.heap h' → (∃ o, h'.get? e = some o ∧ o.cls = .type "StopIteration") → E (.ref e) { s with heap := h' }) → wpAny (model prog w) A (Builtin.SmallTypes.nextOf (.ref i)) Q E s
section
variable {prog : Program} {w : World} {A : Around} {E : Value → Shared → Prop} {s : Shared}
theorem dr_tuple {i t : Addr} (hne : t ≠ i) (xs : Array Value) : Dr prog w i t xs (fun k h => h.IsTupleIter i t k ∧ h.IsTuple t xs) where
  frame := fun _ _ _ st hk => ⟨st.1.at fun o e => hk i (.inl rfl) o e, st.2.at fun o e => hk t (.inr rfl) o e⟩
  here := fun _ _ st => ⟨let ⟨o, ho, _⟩ := st.1; ⟨o, ho⟩, let ⟨o, ho, _⟩ := st.2; ⟨o, ho⟩⟩
  item := fun A E s k x Q st hx hQ => by
    obtain ⟨hit, ht⟩ := st
    obtain ⟨o, ho, hc, hd⟩ := id hit
    obtain ⟨ot, hot, hct, nt, hdt⟩ := id ht
    unfold Builtin.SmallTypes.nextOf
    refine wpAny_bind (wpAny_callSpecial?_slot (name := Str.ofString "__next__") hit.typeIs PySem.F.slot_tuple_iterator_next
      (wpAny_call_entry PySem.F.slot_tuple_iterator_next hit.typeIs PySem.F.entry_tuple_iterator_next ?_ (PySem.F.args_tuple_iterator_next_1 _)))
    show wpAny _ _ (field (.ref i) 0 >>= _) _ _ s
    refine wpAny_bind (wpAny_field ho hd (x := .ref t) rfl ?_)
    show wpAny _ _ (if (Value.ref t == Value.none) = true then _ else _) _ _ s
    rw [if_neg (show ¬ ((Value.ref t == Value.none) = true) from Bool.false_ne_true)]
    show wpAny _ _ (field (.ref i) 1 >>= _) _ _ s
    refine wpAny_bind (wpAny_field ho hd (x := .int k 0) rfl ?_)
    show wpAny _ _ (seqItems? (.ref t) >>= _) _ _ s
    refine wpAny_bind (wpAny_seqItems hot hdt ?_)
    simp only [Int.toNat_natCast, hx]
    refine wpAny_bind (wpAny_setField ho hd (by simp) (wpAny_pure ⟨x, rfl, wpAny_pure (hQ _ ⟨?_, ht.extBut (Heap.SameBut.update ..).extBut hne⟩ (Heap.SameBut.update ..))⟩))
    exact ⟨_, Heap.get?_update_self _ ho (Obj.isFreed_of_fields (Obj.data_mapFields hd _)), (Obj.cls_mapFields ..).trans hc, by
      rw [Obj.data_mapFields hd]; simp [rawInt]⟩
  fin := fun A E s k Q hh st hx hE => by
    obtain ⟨hit, ht⟩ := st
    obtain ⟨o, ho, hc, hd⟩ := id hit
    obtain ⟨ot, hot, hct, nt, hdt⟩ := id ht
    unfold Builtin.SmallTypes.nextOf
    refine wpAny_bind (wpAny_callSpecial?_slot (name := Str.ofString "__next__") hit.typeIs PySem.F.slot_tuple_iterator_next
      (wpAny_call_entry PySem.F.slot_tuple_iterator_next hit.typeIs PySem.F.entry_tuple_iterator_next ?_ (PySem.F.args_tuple_iterator_next_1 _)))
    show wpAny _ _ (field (.ref i) 0 >>= _) _ _ s
    refine wpAny_bind (wpAny_field ho hd (x := .ref t) rfl ?_)
    show wpAny _ _ (if (Value.ref t == Value.none) = true then _ else _) _ _ s
    rw [if_neg (show ¬ ((Value.ref t == Value.none) = true) from Bool.false_ne_true)]
    show wpAny _ _ (field (.ref i) 1 >>= _) _ _ s
    refine wpAny_bind (wpAny_field ho hd (x := .int k 0) rfl ?_)
    show wpAny _ _ (seqItems? (.ref t) >>= _) _ _ s
    refine wpAny_bind (wpAny_seqItems hot hdt ?_)
    simp only [Int.toNat_natCast, hx]
    refine wpAny_bind (wpAny_rule (wpAny_bind (wpAny_setField ho hd (by simp) ?_)))
    show wpAny _ _ (newExc (.type "StopIteration") [] >>= _) _ _ _
    refine wpAny_bind ?_
    simp only [newExc, newTuple]
    refine wpAny_bind (wpAny_newObj_type ?_ (by size_fits))
    refine wpAny_bind (m := firstArgMember _ _) (wpAny_of_eq (a := Value.none) (by first | rfl | (simp only [firstArgMember]; rfl)) ?_)
    refine wpAny_newObj_type ?_ (by size_fits)
    simp only [raiseNew]
    refine wpAny_bind (wpAny_handled ?_)
    first | rw [show A.in1.handled = none from hh] | rw [hh]
    refine wpAny_bind (wpAny_pure (wpAny_throw ?_))
    exact hE _ _ (((Heap.SameBut.update ..).extBut.push _).push _) ⟨_, Heap.get?_push_size _ rfl, rfl⟩

def ZSt (z TI TO i1 i2 : Addr) (S1 S2 : Nat → Heap → Prop) (k : Nat) (h : Heap) : Prop :=
  IsZip h z TI TO .none ∧ IsPair h TI (.ref i1) (.ref i2) ∧ (∃ a b, IsPair h TO a b) ∧ S1 k h ∧ S2 k h
def ZOut (xs ys : Array Value) (k : Nat) (v : Value) (h : Heap) : Prop := ∃ T x y, v = .ref T ∧ xs[k]? = some x ∧ ys[k]? = some y ∧ h.IsTuple T #[x, y]
def ZMd (z TI TO i1 i2 : Addr) (S1 S2 : Nat → Heap → Prop) (xs ys : Array Value) (k : Nat) (v : Value) (h : Heap) : Prop :=
  ∃ T x y, v = .ref T ∧ xs[k]? = some x ∧ ys[k]? = some y ∧ h.IsTuple T #[x, y] ∧ T ≠ z ∧ IsZip h z TI TO (rawInt T) ∧ IsPair h TI (.ref i1) (.ref i2) ∧ (∃ a b, IsPair h TO a b) ∧ S1 (k + 1) h ∧ S2 (k + 1) h

theorem zip_turns (hh : A.handled = none) {z TI TO i1 i2 l1 l2 : Addr} {xs ys : Array Value} {S1 S2 : Nat → Heap → Prop} (D : ZipApart z TI TO i1 i2 l1 l2) (D1 : Dr prog w i1 l1 xs S1) (D2 : Dr prog w i2 l2 ys S2) {elts : List Expr} {c : Nat} {pos : Pos} :
    KTurns prog w A (.Tuple elts c pos) z [z, TI, TO, i1, i2, l1, l2] [z, TO, i1, i2] (min xs.size ys.size) (ZOut xs ys) (ZMd z TI TO i1 i2 S1 S2 xs ys) (ZSt z TI TO i1 i2 S1 S2) where
  sub := fun b hb => by simp at hb ⊢; rcases hb with rfl | rfl | rfl | rfl <;> simp
  frame := fun k h h' st hk => by
    obtain ⟨hz, hTI, ⟨a, b, hTO⟩, s1, s2⟩ := st
    exact ⟨hk z (by simp) _ hz, hk TI (by simp) _ hTI, ⟨a, b, hk TO (by simp) _ hTO⟩, D1.frame _ _ _ s1 (fun b hb o e => hk b (by rcases hb with rfl | rfl <;> simp) o e), D2.frame _ _ _ s2 (fun b hb o e => hk b (by rcases hb with rfl | rfl <;> simp) o e)⟩
  item := fun k s Q E hi st hQ => by
    obtain ⟨hz, hTI, ⟨a, b, hTO⟩, s1, s2⟩ := st
    have hx : xs[k]? = some xs[k] := Array.getElem?_eq_getElem (Nat.lt_of_lt_of_le hi (Nat.min_le_left ..))
    have hy : ys[k]? = some ys[k] := Array.getElem?_eq_getElem (Nat.lt_of_lt_of_le hi (Nat.min_le_right ..))
    generalize xs[k] = x at hx
    generalize ys[k] = y at hy
    have hT : s.TypeIs (.ref z) "zip" := ⟨_, hz, rfl⟩
    unfold pyNext
    refine wpAny_bind (wpAny_attempt (wpAny_callSpecial?_slot (name := Str.ofString "__next__") hT PySem.F.slot_zip_next
      (wpAny_call_entry PySem.F.slot_zip_next hT PySem.F.entry_zip_next ?_ (PySem.F.args_zip_next_1 _))))
    show wpAny _ _ (field (.ref z) 2 >>= _) _ _ _
    refine wpAny_bind (wpAny_field hz rfl (x := .bool false) rfl ?_)
    show wpAny _ _ (field (.ref z) 3 >>= _) _ _ _
    refine wpAny_bind (wpAny_field hz rfl (x := .ref TI) rfl ?_)
    refine wpAny_bind (wpAny_seqItems hTI rfl ?_)
    show wpAny _ _ (Builtin.SmallTypes.ownedTupleIsFree (.ref z) >>= _) _ _ _
    refine wpAny_bind ?_
    unfold Builtin.SmallTypes.ownedTupleIsFree
    refine wpAny_bind (wpAny_field hz rfl (x := .none) rfl (wpAny_pure ?_))
    simp only [if_true]
    refine wpAny_bind (wpAny_rule ?_)
    refine wpAny_bind (wpAny_field hz rfl (x := .ref TO) rfl ?_)
    refine wpAny_bind (wpAny_setField_rec hz (by simp) fun h₁ hz₁ hs₁ => ?_)
    replace hz₁ : IsZip h₁ z TI TO .ellipsis := hz₁
    have q1 : S1 k h₁ := D1.frame _ _ _ s1 fun b hb o e => hs₁.extBut b o (or2 hb D.i1z D.l1z) e
    have q2 : S2 k h₁ := D2.frame _ _ _ s2 fun b hb o e => hs₁.extBut b o (or2 hb D.i2z D.l2z) e
    refine wpAny_bind ?_
    simp only [List.zipIdx_cons, List.zipIdx_nil, List.forIn_cons, List.forIn_nil]
    refine wpAny_bind (wpAny_bind (wpAny_onRaise ?_))
    show wpAny _ _ (Builtin.SmallTypes.nextOf (.ref i1) >>= _) _ _ _
    refine wpAny_bind (D1.item _ _ _ k x _ q1 hx fun h₂ r1 hs₂ => wpAny_pure ?_)
    have hTO₂ : IsPair h₂ TO a b := hs₂.extBut _ _ D.TOi1 (hs₁.extBut _ _ D.TOz hTO)
    refine wpAny_bind (wpAny_seqItems hTO₂ rfl ?_)
    refine wpAny_bind (wpAny_updateSeq_pair hTO₂ fun h₃ hTO₃ hs₃ => ?_)
    replace hTO₃ : IsPair h₃ TO x b := hTO₃
    refine wpAny_bind (wpAny_letGo (wpAny_pure ?_))
    have q3 : S2 k h₃ := D2.frame _ _ _ (D2.frame _ _ _ q2 fun b hb o e => hs₂.extBut b o (or2 hb D.i12.symm D.l2i1) e) fun b hb o e => hs₃.extBut b o (or2 hb D.TOi2.symm D.l2TO) e
    refine wpAny_bind (wpAny_bind (wpAny_onRaise ?_))
    show wpAny _ _ (Builtin.SmallTypes.nextOf (.ref i2) >>= _) _ _ _
    refine wpAny_bind (D2.item _ _ _ k y _ q3 hy fun h₄ r2 hs₄ => wpAny_pure ?_)
    have hTO₄ : IsPair h₄ TO x b := hs₄.extBut _ _ D.TOi2 hTO₃
    refine wpAny_bind (wpAny_seqItems hTO₄ rfl ?_)
    refine wpAny_bind (wpAny_updateSeq_pair hTO₄ fun h₅ hTO₅ hs₅ => ?_)
    replace hTO₅ : IsPair h₅ TO x y := hTO₅
    refine wpAny_bind (wpAny_letGo (wpAny_pure (wpAny_pure ?_)))
    refine wpAny_bind (wpAny_seqItems hTO₅ rfl ?_)
    refine wpAny_bind (wpAny_newTuple ?_)
    have hsz : h₅.objs.size = s.heap.objs.size := by rw [hs₅.1, hs₄.1, hs₃.1, hs₂.1, hs₁.1]
    have hz₅ : IsZip h₅ z TI TO .ellipsis := hs₅.extBut _ _ D.TOz.symm (hs₄.extBut _ _ D.i2z.symm (hs₃.extBut _ _ D.TOz.symm (hs₂.extBut _ _ D.i1z.symm hz₁)))
    have w1 : S1 (k + 1) h₅ := D1.frame _ _ _ r1 fun b hb o e => hs₅.extBut b o (or2 hb D.TOi1.symm D.l1TO) (hs₄.extBut b o (or2 hb D.i12 D.l1i2) (hs₃.extBut b o (or2 hb D.TOi1.symm D.l1TO) e))
    have w2 : S2 (k + 1) h₅ := D2.frame _ _ _ r2 fun b hb o e => hs₅.extBut b o (or2 hb D.TOi2.symm D.l2TO) e
    have keep₅ : ∀ c o, c ∉ [z, TO, i1, i2] → s.heap.get? c = some o → h₅.get? c = some o := fun c o hc e => by
      simp only [List.mem_cons, List.not_mem_nil, or_false, not_or] at hc
      exact hs₅.extBut _ _ hc.2.1 (hs₄.extBut _ _ hc.2.2.2 (hs₃.extBut _ _ hc.2.1 (hs₂.extBut _ _ hc.2.2.1 (hs₁.extBut _ _ hc.1 e))))
    have hTI₅ : IsPair h₅ TI (.ref i1) (.ref i2) := keep₅ _ _ (by simp [D.TIz, D.TITO, D.TIi1, D.TIi2]) hTI
    have hzlt : z < h₅.objs.size := Heap.lt_size hz₅
    show wpAny _ _ (Builtin.SmallTypes.ownedTupleHandOut (.ref z) (.ref h₅.objs.size) >>= _) _ _ _
    refine wpAny_bind ?_
    unfold Builtin.SmallTypes.ownedTupleHandOut
    have hz₆ : IsZip (h₅.push { cls := .type "tuple", data := .seq #[x, y] }) z TI TO .ellipsis := Heap.get?_push_of_some _ hz₅
    refine wpAny_bind (wpAny_setField_rec hz₆ (by simp) fun h₇ hz₇ hs₇ => ?_)
    replace hz₇ : IsZip h₇ z TI TO (rawInt h₅.objs.size) := hz₇
    refine wpAny_setField_rec hz₇ (by simp) fun h₈ hz₈ hs₈ => ?_
    replace hz₈ : IsZip h₈ z TI TO (rawInt h₅.objs.size) := hz₈
    have up : ∀ c o, c ≠ z → h₅.get? c = some o → h₈.get? c = some o := fun c o c1 e => hs₈.extBut _ _ c1 (hs₇.extBut _ _ c1 (Heap.get?_push_of_some _ e))
    have hT₈ : IsPair h₈ h₅.objs.size x y := hs₈.extBut _ _ (Nat.ne_of_gt hzlt) (hs₇.extBut _ _ (Nat.ne_of_gt hzlt) (Heap.get?_push_size _ rfl))
    refine wpAny_pure ⟨_, rfl, wpAny_pure (hQ (.ref h₅.objs.size) h₈ s.toks ⟨h₅.objs.size, x, y, rfl, hx, hy, ⟨_, hT₈, rfl, _, rfl⟩, Nat.ne_of_gt hzlt, hz₈, up _ _ D.TIz hTI₅, ⟨_, _, up _ _ D.TOz hTO₅⟩,
      D1.frame _ _ _ w1 fun b hb o e => up b o (or2 hb D.i1z D.l1z) e, D2.frame _ _ _ w2 fun b hb o e => up b o (or2 hb D.i2z D.l2z) e⟩
      fun c o hc e => up c o (fun q => hc (by simp [q])) (keep₅ c o hc e))⟩
  go := fun k v s Q E hm hQ => by
    obtain ⟨T, x, y, rfl, hx, hy, hT, hTz, hz, hTI, ⟨a, b, hTO⟩, s1, s2⟩ := hm
    refine wpAny_letOwnedTupleGo_zip hz fun h' hz' hs' => hQ h' ⟨T, x, y, rfl, hx, hy, hT.at fun o e => hs'.extBut _ _ hTz e⟩ ⟨hz', hs'.extBut _ _ D.TIz hTI, ⟨a, b, hs'.extBut _ _ D.TOz hTO⟩,
      D1.frame _ _ _ s1 fun b hb o e => hs'.extBut b o (or2 hb D.i1z D.l1z) e, D2.frame _ _ _ s2 fun b hb o e => hs'.extBut b o (or2 hb D.i2z D.l2z) e⟩ fun c o hc e => hs'.extBut _ _ (fun q => hc (by simp [q])) e
  done := fun s Q E st hQ => by
    obtain ⟨hz, hTI, ⟨a, b, hTO⟩, s1, s2⟩ := st
    generalize hn : min xs.size ys.size = n at s1 s2 ⊢
    have hT : s.TypeIs (.ref z) "zip" := ⟨_, hz, rfl⟩
    unfold pyNext
    refine wpAny_bind (wpAny_attempt (wpAny_callSpecial?_slot (name := Str.ofString "__next__") hT PySem.F.slot_zip_next
      (wpAny_call_entry PySem.F.slot_zip_next hT PySem.F.entry_zip_next ?_ (PySem.F.args_zip_next_1 _))))
    have close : ∀ (h' : Heap) (e : Addr), (∀ c o, c ∉ [z, TO, i1, i2] → s.heap.get? c = some o → h'.get? c = some o) → (∃ o, h'.get? e = some o ∧ o.cls = .type "StopIteration") →
        wpAny (model prog w) A (do if ← isInstance (.ref e) (.type "StopIteration") then pure none else throw (.ref e) : Sem (Option Value)) Q E { s with heap := h' } := fun h' e hk ⟨o, ho, hc⟩ => by
      refine wpAny_bind (wpAny_isInstance (T := "StopIteration") (b := true) ⟨o, ho, hc⟩ isSubtype_stop ?_)
      exact wpAny_pure (hQ h' s.toks hk)
    show wpAny _ _ (field (.ref z) 2 >>= _) _ _ _
    refine wpAny_bind (wpAny_field hz rfl (x := .bool false) rfl ?_)
    show wpAny _ _ (field (.ref z) 3 >>= _) _ _ _
    refine wpAny_bind (wpAny_field hz rfl (x := .ref TI) rfl ?_)
    refine wpAny_bind (wpAny_seqItems hTI rfl ?_)
    show wpAny _ _ (Builtin.SmallTypes.ownedTupleIsFree (.ref z) >>= _) _ _ _
    refine wpAny_bind ?_
    unfold Builtin.SmallTypes.ownedTupleIsFree
    refine wpAny_bind (wpAny_field hz rfl (x := .none) rfl (wpAny_pure ?_))
    simp only [if_true]
    refine wpAny_bind (wpAny_rule ?_)
    refine wpAny_bind (wpAny_field hz rfl (x := .ref TO) rfl ?_)
    refine wpAny_bind (wpAny_setField_rec hz (by simp) fun h₁ hz₁ hs₁ => ?_)
    replace hz₁ : IsZip h₁ z TI TO .ellipsis := hz₁
    have q1 : S1 n h₁ := D1.frame _ _ _ s1 fun b hb o e => hs₁.extBut b o (or2 hb D.i1z D.l1z) e
    have q2 : S2 n h₁ := D2.frame _ _ _ s2 fun b hb o e => hs₁.extBut b o (or2 hb D.i2z D.l2z) e
    refine wpAny_bind ?_
    simp only [List.zipIdx_cons, List.zipIdx_nil, List.forIn_cons, List.forIn_nil]
    refine wpAny_bind (wpAny_bind (wpAny_onRaise ?_))
    show wpAny _ _ (Builtin.SmallTypes.nextOf (.ref i1) >>= _) _ _ _
    cases hx : xs[n]? with
    | none =>
      refine wpAny_bind (D1.fin _ _ _ n _ hh q1 hx fun h₂ e hs₂ he => ?_)
      obtain ⟨oe, hoe, hce⟩ := he
      have hz₂ : IsZip h₂ z TI TO .ellipsis := hs₂ _ _ D.i1z.symm hz₁
      have hez : e ≠ z := fun q => by subst q; rw [hz₂] at hoe; cases hoe; simp at hce
      exact wpAny_setField_rec hz₂ (by simp) fun h₃ _ hs₃ => close h₃ e (fun c o hc x => by
        simp only [List.mem_cons, List.not_mem_nil, or_false, not_or] at hc
        exact hs₃.extBut _ _ hc.1 (hs₂ _ _ hc.2.2.1 (hs₁.extBut _ _ hc.1 x))) ⟨oe, hs₃.extBut _ _ hez hoe, hce⟩
    | some x =>
      have hy : ys[n]? = none := by
        rw [Array.getElem?_eq_none_iff]
        have h1 : n < xs.size := by
          rcases Array.getElem?_eq_some_iff.mp hx with ⟨h1, _⟩
          exact h1
        omega
      refine wpAny_bind (D1.item _ _ _ n x _ q1 hx fun h₂ r1 hs₂ => wpAny_pure ?_)
      have hTO₂ : IsPair h₂ TO a b := hs₂.extBut _ _ D.TOi1 (hs₁.extBut _ _ D.TOz hTO)
      refine wpAny_bind (wpAny_seqItems hTO₂ rfl ?_)
      refine wpAny_bind (wpAny_updateSeq_pair hTO₂ fun h₃ hTO₃ hs₃ => ?_)
      refine wpAny_bind (wpAny_letGo (wpAny_pure ?_))
      have q3 : S2 n h₃ := D2.frame _ _ _ (D2.frame _ _ _ q2 fun b hb o e => hs₂.extBut b o (or2 hb D.i12.symm D.l2i1) e) fun b hb o e => hs₃.extBut b o (or2 hb D.TOi2.symm D.l2TO) e
      refine wpAny_bind (wpAny_bind (wpAny_onRaise ?_))
      show wpAny _ _ (Builtin.SmallTypes.nextOf (.ref i2) >>= _) _ _ _
      refine wpAny_bind (D2.fin _ _ _ n _ hh q3 hy fun h₄ e hs₄ he => ?_)
      obtain ⟨oe, hoe, hce⟩ := he
      have hz₄ : IsZip h₄ z TI TO .ellipsis := hs₄ _ _ D.i2z.symm (hs₃.extBut _ _ D.TOz.symm (hs₂.extBut _ _ D.i1z.symm hz₁))
      have hez : e ≠ z := fun q => by subst q; rw [hz₄] at hoe; cases hoe; simp at hce
      exact wpAny_setField_rec hz₄ (by simp) fun h₅ _ hs₅ => close h₅ e (fun c o hc x => by
        simp only [List.mem_cons, List.not_mem_nil, or_false, not_or] at hc
        exact hs₅.extBut _ _ hc.1 (hs₄ _ _ hc.2.2.2 (hs₃.extBut _ _ hc.2.1 (hs₂.extBut _ _ hc.2.2.1 (hs₁.extBut _ _ hc.1 x))))) ⟨oe, hs₅.extBut _ _ hez hoe, hce⟩
end
local macro_rules | `(tactic| walk_at "zzfresh") => `(tactic| skip)
theorem fresh5 : True := by
  w_top off
  trivial
/-- what a piece of the call leaves of the state beside heap and tokens -/
def Sm (s s' : Shared) : Prop := s'.os = s.os ∧ s'.drawn = s.drawn ∧ (AllBare s.gens → AllBare s'.gens)
theorem Sm.refl (s : Shared) : Sm s s := ⟨rfl, rfl, id⟩
theorem Sm.trans {s s' s'' : Shared} (x : Sm s s') (y : Sm s' s'') : Sm s s'' := ⟨y.1.trans x.1, y.2.1.trans x.2.1, fun h => y.2.2 (x.2.2 h)⟩
theorem Sm.upd {s s' : Shared} {h : Heap} {t : Nat} (x : Sm s s') : Sm s { s' with heap := h, toks := t } := x
theorem Sm.of {s : Shared} {h : Heap} {t : Nat} : Sm s { s with heap := h, toks := t } := Sm.refl s
section
variable {prog : Program} {w : World} {A : Around} {E : Value → Shared → Prop} {s : Shared} {h₀ : Heap} {env : Env}
/-- a turn's end -/
def FEnd (h₀ : Heap) (L : Addr) (s₁ : Shared) (own news₁ : List (Addr × Obj)) (J' : (Str → Option Value) → List (Addr × Obj) → Prop) (s₄ : Shared) : Prop :=
  ∃ m' news', Fr h₀ L s₄.heap m' ∧ News h₀ L s₄.heap (own ++ news') ∧ (∀ p ∈ news', (∃ q ∈ news₁, q.1 = p.1) ∨ ∀ q ∈ own ++ news₁, q.1 < p.1) ∧ J' m' news' ∧ Sm s₁ s₄
def FPost (h₀ : Heap) (L : Addr) (s₁ : Shared) (own news₁ : List (Addr × Obj)) (J' : (Str → Option Value) → List (Addr × Obj) → Prop) (Q : Flow → Shared → Prop) (f : Flow) (s₄ : Shared) : Prop := match f with
  | .ret v => Q (.ret v) s₄
  | .brk => Q .next s₄
  | _ => FEnd h₀ L s₁ own news₁ J' s₄
structure ForB (prog : Program) (w : World) (A : Around) (h₀ : Heap) (env : Env) (target : Expr) (body : List Stmt) (I : Addr) (s₂ : Shared) (fp wr : List Addr) (n : Nat) (P Md : Nat → Value → Heap → Prop) (St : Nat → Heap → Prop)
    (m : Str → Option Value) (news : List (Addr × Obj)) (J : Nat → (Str → Option Value) → List (Addr × Obj) → Prop) (Q : Flow → Shared → Prop) : Prop where
  W : KTurns prog w A target I fp wr n P Md St
  hL : env.locals ∉ fp
  hwr : ∀ b ∈ wr, h₀.get? b = none
  wrIn : ∀ i h, St i h → ∀ b ∈ wr, ∃ o, h.get? b = some o
  hnw : ∀ p ∈ news, p.1 ∉ wr
  st : St 0 s₂.heap
  F : Fr h₀ env.locals s₂.heap m
  N : News h₀ env.locals s₂.heap news
  j0 : J 0 m news
  step : ∀ i v m₁ news₁ s₁ own (E' : Value → Shared → Prop), i < n → P i v s₁.heap → J i m₁ news₁ → (∀ p ∈ own, p.1 ∈ fp) → (∀ p ∈ news₁, p.1 ∉ wr) → Sm s₂ s₁ → Fr h₀ env.locals s₁.heap m₁ → News h₀ env.locals s₁.heap (own ++ news₁) →
    wpAny (model prog w) A (assign target env v) (fun _ s₃ => wpAny (model prog w) A (execs body env) (FPost h₀ env.locals s₁ own news₁ (J (i + 1)) Q) E' s₃) E' s₁
theorem for_K {target iter : Expr} {body : List Stmt} {pos : Pos} {Q : Flow → Shared → Prop}
    (h : wpAny (model prog w) A (eval iter env) (fun xv s₁ => wpAny (model prog w) A (pyIter xv) (fun it s₂ => ∃ I fp wr n P Md St m news J, it = .ref I ∧ ForB prog w A h₀ env target body I s₂ fp wr n P Md St m news J Q ∧
      ∀ s' m' news', J n m' news' → Sm s₂ s' → Fr h₀ env.locals s'.heap m' → News h₀ env.locals s'.heap news' → Q .next s') E s₁) E s)
    (hs : ∀ x, foldedSetIterable iter env x = pure x := by intro _; rfl) :
    wpAny (model prog w) A (exec (.For target iter body [] pos) env) Q E s := by
  refine wpAny_For (wpAny_mono h (fun xv s₁ h₁ => wpAny_mono h₁ (fun it s₂ h₂ => ?_) fun _ _ e => e) fun _ _ e => e) hs
  obtain ⟨I, fp, wr, n, P, Md, St, m, news, J, rfl, ⟨W, hLf, hwr, wrIn, hnw, hst, F, N, j0, step⟩, hQ⟩ := h₂
  have hLw : env.locals ∉ wr := fun h => hLf (W.sub _ h)
  have old : ∀ b o, h₀.get? b = some o → b ∉ wr := fun b o e hb => by rw [hwr b hb] at e; cases e
  refine codeAny_forLoop_any
    (fun k s' => ∃ i m' news', St i s'.heap ∧ Fr h₀ env.locals s'.heap m' ∧ News h₀ env.locals s'.heap news' ∧ (∀ p ∈ news', p.1 ∉ wr) ∧ J i m' news' ∧ Sm s₂ s' ∧ i ≤ n ∧ k = n + 1 - i) ?_ (n + 1)
    ⟨0, m, news, hst, F, N, hnw, j0, Sm.refl _, Nat.zero_le _, rfl⟩
  rintro k s' ⟨i, m', news', hst', F', N', hnw', hJ, hSm, hi, rfl⟩
  have next : ∀ h₁ : Heap, (∀ b o, b ∉ wr → s'.heap.get? b = some o → h₁.get? b = some o) → Fr h₀ env.locals h₁ m' ∧ News h₀ env.locals h₁ news' := fun h₁ hk₁ =>
    ⟨⟨F'.ns.at' fun o e => hk₁ _ o hLw e, fun b o e => hk₁ b o (old b o e) (F'.keep b o e), F'.above⟩, fun p hp => ⟨hk₁ _ _ (hnw' p hp) (N' p hp).1, (N' p hp).2⟩⟩
  by_cases hlt : i < n
  · refine W.item i _ _ _ hlt hst' fun v h₁ tk₁ hMd hk₁ => ?_
    refine W.go i v _ _ _ hMd fun h₂ hP hst₂ hk₂ => ?_
    obtain ⟨F₂, N₂⟩ := next h₂ fun b o hb x => hk₂ b o hb (hk₁ b o hb x)
    have Nown : News h₀ env.locals h₂ (ownOf h₀ fp h₂) := news_ownOf hLf
    refine wpAny_mono (step i v m' news' { s' with heap := h₂, toks := tk₁ } (ownOf h₀ fp h₂) _ hlt hP hJ ownOf_sub hnw' hSm F₂ (Nown.append N₂)) (fun _ s₃ h₃ => wpAny_mono h₃ (fun f s₄ h₄ => ?_) fun _ _ e => e) fun _ _ e => e
    have fin : FEnd h₀ env.locals { s' with heap := h₂, toks := tk₁ } (ownOf h₀ fp h₂) news' (J (i + 1)) s₄ → ∃ m, m < n + 1 - i ∧ ∃ i m' news', St i s₄.heap ∧ Fr h₀ env.locals s₄.heap m' ∧ News h₀ env.locals s₄.heap news' ∧ (∀ p ∈ news', p.1 ∉ wr) ∧ J i m' news' ∧ Sm s₂ s₄ ∧ i ≤ n ∧ m = n + 1 - i := by
      rintro ⟨m₄, news₄, F₄, N₄, hex, hJ₄, hS₄⟩
      refine ⟨n + 1 - (i + 1), by omega, i + 1, m₄, news₄, W.frame _ _ _ hst₂ fun b hb o e => ?_, F₄, N₄.right, fun p hp hw => ?_, hJ₄, hSm.trans hS₄, hlt, rfl⟩
      · cases hn : h₀.get? b with
        | some o₀ =>
          have : o₀ = o := by have q := F₂.keep b o₀ hn; rw [e] at q; exact (Option.some.inj q).symm
          exact this ▸ F₄.keep b o₀ hn
        | none => exact (N₄ _ (List.mem_append_left _ (mem_ownOf hb hn e))).1
      · rcases hex p hp with ⟨q, hq, hqe⟩ | hnew
        · exact hnw' q hq (hqe ▸ hw)
        · obtain ⟨o, ho⟩ := wrIn _ _ hst₂ _ hw
          exact Nat.lt_irrefl _ (hnew (p.1, o) (List.mem_append_left _ (mem_ownOf (W.sub _ hw) (hwr _ hw) ho)))
    cases f with
    | ret v => exact h₄
    | brk => exact h₄
    | cont => exact fin h₄
    | next => exact fin h₄
  · have hin : i = n := by omega
    subst hin
    refine W.done _ _ _ hst' fun h₁ tk₁ hk₁ => wpAny_execs_nil ?_
    obtain ⟨F₁, N₁⟩ := next h₁ hk₁
    exact hQ _ m' news' hJ hSm F₁ N₁
end
section
variable {prog : Program} {w : World} {A : Around} {E : Value → Shared → Prop} {s : Shared}
open AutoSeq1 (wpAny_loadPart')
/-- zip of two tuples -/
theorem zt_new (l1 l2 : Addr) (xs ys : Array Value) :
    Meets (Builtin.«zip.__new__» ⟨[.type "zip", .ref l1, .ref l2], []⟩) (fun _ R s => s.heap.IsTuple l1 xs ∧ s.heap.IsTuple l2 ys ∧
      R (.ok (.ret (.ref (s.heap.objs.size + 4)))) { s with heap := ((((s.heap.push { cls := .type "tuple_iterator", data := .fields #[.ref l1, .int 0 0] }).push { cls := .type "tuple_iterator", data := .fields #[.ref l2, .int 0 0] }).push { cls := .type "tuple", data := .seq #[.ref s.heap.objs.size, .ref (s.heap.objs.size + 1)] }).push { cls := .type "tuple", data := .seq #[.none, .none] }).push { cls := .type "zip", data := .fields #[.none, .bool false, .bool false, .ref (s.heap.objs.size + 2), .ref (s.heap.objs.size + 3)] } }) :=
  .of_wp fun prog w A R s h => by
    obtain ⟨hp, g, d, tk, os⟩ := s; obtain ⟨hl1, hl2, h⟩ := h
    have hsub := sub_zip
    have hL1 : Heap.IsTuple (Shared.heap ⟨hp, g, d, tk, os⟩) l1 xs := hl1
    have hL2 : Heap.IsTuple (Shared.heap ⟨hp.push { cls := .type "tuple_iterator", data := .fields #[.ref l1, .int 0 0] }, g, d, tk, os⟩) l2 ys := Heap.IsTuple.push hl2 _
    simp only [Heap.size_push] at *
    wp_walk using wpAny_pyIter_tuple hL1, wpAny_pyIter_tuple hL2
    simp only [Heap.size_push] at *
    exact ⟨_, rfl, h⟩
theorem call_zt {l1 l2 : Addr} {xs ys : Array Value} {Q : Value → Shared → Prop} (hl1 : s.heap.IsTuple l1 xs) (hl2 : s.heap.IsTuple l2 ys)
    (h : ∀ h', ZSt (s.heap.objs.size + 4) (s.heap.objs.size + 2) (s.heap.objs.size + 3) s.heap.objs.size (s.heap.objs.size + 1) (fun k h => h.IsTupleIter s.heap.objs.size l1 k ∧ h.IsTuple l1 xs) (fun k h => h.IsTupleIter (s.heap.objs.size + 1) l2 k ∧ h.IsTuple l2 ys) 0 h' →
      h'.objs.size = s.heap.objs.size + 5 → (∀ c o, s.heap.get? c = some o → h'.get? c = some o) → Q (.ref (s.heap.objs.size + 4)) { s with heap := h' }) :
    wpAny (model prog w) A (call (.type "zip") [.ref l1, .ref l2]) Q E s := by
  refine callType_new PySem.F.called_zip (by decide) (PySem.F.typeCall_zip_2 _ _) (PySem.F.newCall_zip_2 _ _) (fun obj => PySem.F.args_object_init_3 obj _ _) PySem.F.entry_zip_new
    (zt_new l1 l2 xs ys) ⟨hl1, hl2, ?_⟩
  generalize hn : s.heap.objs.size = n
  have p1 : ∀ o : Obj, (s.heap.push o).objs.size = n + 1 := fun o => by rw [Heap.size_push, hn]
  have g1 : ∀ o : Obj, o.isFreed = false → (s.heap.push o).get? n = some o := fun o ho => hn ▸ Heap.get?_push_size _ ho
  have gn : ∀ (h : Heap) (k : Nat) (o : Obj), h.objs.size = k → o.isFreed = false → (h.push o).get? k = some o := fun h k o e ho => e ▸ Heap.get?_push_size _ ho
  have up : ∀ (h : Heap) (k : Addr) (o o' : Obj), h.get? k = some o → (h.push o').get? k = some o := fun h k o o' e => Heap.get?_push_of_some _ e
  refine ⟨⟨_, gn _ _ _ (by simp only [Heap.size_push, hn]) rfl, rfl⟩, ?_⟩
  rw [← hn]
  refine h _ ⟨gn _ _ _ (by simp only [Heap.size_push, hn]) rfl, up _ _ _ _ (up _ _ _ _ (gn _ _ _ (by simp only [Heap.size_push, hn]) rfl)), ⟨.none, .none, up _ _ _ _ (gn _ _ _ (by simp only [Heap.size_push, hn]) rfl)⟩, ⟨?_, ?_⟩, ⟨?_, ?_⟩⟩ (by simp only [Heap.size_push]) fun c o e => up _ _ _ _ (up _ _ _ _ (up _ _ _ _ (up _ _ _ _ (up _ _ _ _ e))))
  · exact ⟨_, up _ _ _ _ (up _ _ _ _ (up _ _ _ _ (up _ _ _ _ (gn _ _ _ rfl rfl)))), rfl, rfl⟩
  · exact hl1.at fun o e => up _ _ _ _ (up _ _ _ _ (up _ _ _ _ (up _ _ _ _ (up _ _ _ _ e))))
  · exact ⟨_, up _ _ _ _ (up _ _ _ _ (up _ _ _ _ (gn _ _ _ (by simp only [Heap.size_push]) rfl))), rfl, rfl⟩
  · exact hl2.at fun o e => up _ _ _ _ (up _ _ _ _ (up _ _ _ _ (up _ _ _ _ (up _ _ _ _ e))))
end
local macro_rules | `(tactic| walk_at "zzfresh") => `(tactic| skip)
theorem fresh6 : True := by
  w_top off
  trivial
/-- I feeds a list at S, item after item; what has been fed is known at each -/
structure Feed (prog : Program) (w : World) (A : Around) (I S : Addr) (n : Nat) (St : Nat → List Value → Shared → Prop) (Fin : List Value → Shared → Prop) : Prop where
  stab : ∀ i ys (s : Shared) h', St i ys s → (∀ b o, b ≠ S → s.heap.get? b = some o → h'.get? b = some o) → St i ys { s with heap := h' }
  len : ∀ i ys s, St i ys s → ys.length = i
  item : ∀ i ys (s : Shared) c (Q : Option Value → Shared → Prop) (E : Value → Shared → Prop), i < n → St i ys s → s.heap.get? S = some (listOf ys.toArray c) → (∀ v s', St (i + 1) (ys ++ [v]) s' → s'.heap.get? S = some (listOf ys.toArray c) → Q (some v) s') →
    wpAny (model prog w) A (pyNext (.ref I)) Q E s
  done : ∀ ys (s : Shared) c (Q : Option Value → Shared → Prop) (E : Value → Shared → Prop), St n ys s → s.heap.get? S = some (listOf ys.toArray c) → (∀ s', Fin ys s' → s'.heap.get? S = some (listOf ys.toArray c) → Q none s') →
    wpAny (model prog w) A (pyNext (.ref I)) Q E s
  self : ∀ (s : Shared) (Q : Value → Shared → Prop) (E : Value → Shared → Prop), St 0 [] s → Q (.ref I) s → wpAny (model prog w) A (pyIter (.ref I)) Q E s
section
variable {prog : Program} {w : World} {A : Around} {R : Result → Shared → Prop} {E : Value → Shared → Prop} {I S : Addr} {n : Nat} {St : Nat → List Value → Shared → Prop} {Fin : List Value → Shared → Prop}
theorem ext_loop (D : Feed prog w A.in1 I S n St Fin) (hn : n ≤ sizeLine) (res : Value) :
    ∀ (k i : Nat) (s : Shared) (ys : List Value) (c : Nat), n - i = k → i ≤ n → St i ys s → s.heap.get? S = some (listOf ys.toArray c) →
    (∀ s' ys' c', Fin ys' s' → s'.heap.get? S = some (listOf ys'.toArray c') → R (.ok (.ret res)) s') →
    codeAny (model prog w) A (.builtin "list.extend.loop" ⟨[.ref S, .ref I, res], []⟩) R s := by
  intro k
  induction k with
  | zero =>
    intro i s ys c hk hi hst hS hR
    have hin : i = n := by omega
    subst hin
    refine codeAny_builtin PySem.F.entry_extend_loop ?_
    rw [Around.under_plainId PySem.F.plain_extend_loop _]
    show wpAny _ A.in1 (pyNext (.ref I) >>= _) _ _ s
    refine wpAny_bind (D.done ys s c _ _ hst hS fun s' hf hS' => ?_)
    exact wpAny_pure (hR s' ys c hf hS')
  | succ k ih =>
    intro i s ys c hk hi hst hS hR
    have hlt : i < n := by omega
    refine codeAny_builtin PySem.F.entry_extend_loop ?_
    rw [Around.under_plainId PySem.F.plain_extend_loop _]
    show wpAny _ A.in1 (pyNext (.ref I) >>= _) _ _ s
    refine wpAny_bind (D.item i ys s c _ _ hlt hst hS fun v s' hst' hS' => ?_)
    have hl := D.len _ _ _ hst
    show wpAny _ A.in1 (updateSeq S (·.push v) >>= _) _ _ _
    refine wpAny_bind ?_
    have hg := Heap.get?_update_self (Obj.mapSeq (·.push v)) hS' rfl
    refine wpAny_updateSeq hS' rfl (wpAny_pure ⟨plainId_quiet PySem.F.plain_extend_loop _, ih (i + 1) _ (ys ++ [v]) (c + 1) (by omega) hlt (D.stab _ _ _ _ hst' fun b o hb e => ?_) ?_ hR⟩)
      (by show ys.toArray.size ≤ _; rw [List.size_toArray, hl]; omega) (by show (ys.toArray.push v).size ≤ sizeLine + 1; rw [Array.size_push, List.size_toArray, hl]; omega)
    · exact (Heap.get?_update_other _ _ (Ne.symm hb)).trans e
    · refine hg.trans ?_
      simp [Obj.mapSeq]

theorem ext_with {T : String} {s : Shared} (D : Feed prog w A.in1 I S n St Fin) (hn : n ≤ sizeLine) (res : Value) {c : Nat}
    (hT : ∀ s', St 0 [] s' → s'.TypeIs (.ref I) T) (t1 : (Value.type T == Value.type "list") = false) (t2 : (Value.type T == Value.type "tuple") = false)
    (hlen : typeLookup (.type T) "__len__" = pure none) (hhint : typeLookup (.type T) "__length_hint__" = pure none) (hIS : S ≠ I)
    (hst : St 0 [] s) (hS : s.heap.get? S = some (listOf ([] : List Value).toArray c))
    (hR : ∀ s' ys' c', Fin ys' s' → s'.heap.get? S = some (listOf ys'.toArray c') → R (.ok (.ret res)) s') :
    wpAny (model prog w) A.in1 (Builtin.List.listExtendWith (.ref S) (.ref I) res)
      (fun fin s' => match fin with | .done f => R (.ok f) s' | .again c' => c'.quiet = true ∧ codeAny (model prog w) A c' R s') (fun e s' => R (.error e) s') s := by
  unfold Builtin.List.listExtendWith
  refine wpAny_bind (wpAny_typeOf (hT s hst) ?_)
  have h1 : Builtin.List.listSameRef (.ref S) (.ref I) = false := by simp [Builtin.List.listSameRef, hIS]
  simp only [h1, t1, t2, Bool.or_false, Bool.false_eq_true, if_false]
  refine wpAny_bind (D.self _ _ _ hst ?_)
  refine wpAny_bind (wpAny_holding ?_)
  unfold Builtin.List.listLengthHint
  refine wpAny_bind (wpAny_specialOf (hT _ hst) hlen ?_)
  show wpAny _ A.in1 (specialOf (Value.ref I) (Str.ofString "__length_hint__") >>= _) _ _ _
  refine wpAny_bind (wpAny_specialOf (hT _ hst) hhint ?_)
  refine wpAny_pure ?_
  show wpAny _ A.in1 (rule "list.extend.makes-room" >>= fun _ => Builtin.List.listTouch (.ref S) >>= fun _ =>
    again (.builtin "list.extend.loop" ⟨[.ref S, .ref I, res], []⟩)) _ _ _
  refine wpAny_bind (wpAny_rule ?_)
  refine wpAny_bind ?_
  show wpAny _ A.in1 (updateSeq S (·.push .none) >>= fun _ => updateSeq S (·.pop)) _ _ _
  refine wpAny_bind (wpAny_updateSeq hS rfl ?_)
  have hS₂ := Heap.get?_update_self (Obj.mapSeq (·.push Value.none)) hS rfl
  refine wpAny_updateSeq (hz := by seq_fits) hS₂ rfl ?_
  have hS₃ := Heap.get?_update_self (Obj.mapSeq (·.pop)) hS₂ rfl
  exact wpAny_pure ⟨plainId_quiet PySem.F.plain_extend_loop _, ext_loop D hn res n 0 _ [] _ rfl (Nat.zero_le _)
    (D.stab 0 [] s ((s.heap.update S (Obj.mapSeq (·.push Value.none))).update S (Obj.mapSeq (·.pop))) hst fun b o hb e => (Heap.get?_update_other _ _ (Ne.symm hb)).trans ((Heap.get?_update_other _ _ (Ne.symm hb)).trans e)) hS₃ hR⟩

theorem iadd_code {T : String} {s : Shared} (D : Feed prog w A.in1 I S n St Fin) (hn : n ≤ sizeLine) {c : Nat}
    (hT : ∀ s', St 0 [] s' → s'.TypeIs (.ref I) T) (t1 : (Value.type T == Value.type "list") = false) (t2 : (Value.type T == Value.type "tuple") = false)
    (hlen : typeLookup (.type T) "__len__" = pure none) (hhint : typeLookup (.type T) "__length_hint__" = pure none) (hIS : S ≠ I)
    (hst : St 0 [] s) (hS : s.heap.get? S = some (listOf ([] : List Value).toArray c))
    (hR : ∀ s' ys' c', Fin ys' s' → s'.heap.get? S = some (listOf ys'.toArray c') → R (.ok (.ret (.ref S))) s') :
    codeAny (model prog w) A (.builtin "list.__iadd__" ⟨[.ref S, .ref I], []⟩) R s := by
  refine codeAny_builtin PySem.F.entry_list_iadd ?_
  rw [Around.under_plainId PySem.F.plain_list_iadd _]
  show wpAny _ A.in1 (Builtin.List.listExtendWith (.ref S) (.ref I) (.ref S)) _ _ _
  exact ext_with D hn _ hT t1 t2 hlen hhint hIS hst hS hR

/-- collect of what feeds -/
theorem feed_collect {T : String} {s : Shared} {Q : List Value → Shared → Prop} (D : Feed prog w A.in1 I s.heap.objs.size n St Fin) (hn : n ≤ sizeLine)
    (hT : ∀ s', St 0 [] s' → s'.TypeIs (.ref I) T) (t1 : (Value.type T == Value.type "list") = false) (t2 : (Value.type T == Value.type "tuple") = false)
    (hlen : typeLookup (.type T) "__len__" = pure none) (hhint : typeLookup (.type T) "__length_hint__" = pure none) (hIS : s.heap.objs.size ≠ I)
    (hst : St 0 [] { s with heap := s.heap.push { cls := .type "list", data := .seq ([] : List Value).toArray } })
    (hQ : ∀ s' ys, Fin ys s' → (∃ c, s'.heap.get? s.heap.objs.size = some (listOf ys.toArray c)) → Q ys s') : wpAny (model prog w) A (collect (.ref I)) Q E s := by
  unfold collect
  refine wpAny_bind (wpAny_runValue (codeAny_builtin PySem.F.entry_proto_collect ?_))
  rw [Around.under_plainId PySem.F.plain_proto_collect _]
  show wpAny _ A.in1 (newList [] >>= fun l => again (.builtin "list.__iadd__" ⟨[l, .ref I], []⟩)) _ _ s
  refine wpAny_bind (wpAny_newObj_type ?_)
  refine wpAny_pure ⟨plainId_quiet PySem.F.plain_list_iadd _, iadd_code D hn hT t1 t2 hlen hhint hIS hst (Heap.get?_push_size _ rfl) fun s' ys' c' hf hS' => ?_⟩
  show wpAny _ A (load s.heap.objs.size >>= _) _ _ s'
  refine wpAny_bind (wpAny_load hS' ?_)
  exact wpAny_pure (by simpa using hQ s' ys' hf ⟨c', hS'⟩)

/-- tuple(gen) -/
theorem feed_tuple {s : Shared} {Q : Value → Shared → Prop} (D : Feed prog w A.in1.in1.in1 I s.heap.objs.size n St Fin) (hn : n ≤ sizeLine)
    (hT : ∀ s', St 0 [] s' → s'.TypeIs (.ref I) "generator") (hT0 : s.TypeIs (.ref I) "generator") (hIS : s.heap.objs.size ≠ I)
    (hst : St 0 [] { s with heap := s.heap.push { cls := .type "list", data := .seq ([] : List Value).toArray } }) (hfl : ∀ ys s', Fin ys s' → ys.length = n)
    (hQ : ∀ s' ys, Fin ys s' → (∃ c, s'.heap.get? s.heap.objs.size = some (listOf ys.toArray c)) → Q (.ref s'.heap.objs.size) { s' with heap := s'.heap.push { cls := .type "tuple", data := .seq ys.toArray } }) :
    wpAny (model prog w) A (call (.type "tuple") [.ref I]) Q E s := by
  refine callType_codes (Q₁ := fun obj s₁ => s₁.TypeIs obj "tuple" ∧ Q obj s₁) PySem.F.called_tuple (PySem.F.typeCall_tuple_1 _) PySem.F.entry_object_init ?_ fun obj s₁ h₁ =>
    ⟨h₁.1, PySem.F.args_object_init_2 obj _, object_init_meets PySem.F.called_tuple.init.lookup PySem.F.called_tuple.made (by decide) prog w A.in1 _ s₁ ⟨h₁.1, rfl, h₁.2⟩⟩
  refine codeAny_of_tree ?_
  show wpAny _ A.in1.in1 (do checkBuiltinCall "tuple.__new__" ⟨[.type "tuple", .ref I], []⟩; again (.builtin "tuple.__new__" ⟨[.type "tuple", .ref I], []⟩)) _ _ s
  refine wpAny_bind (wpAny_of_eq (PySem.F.newCall_tuple_1 _) (wpAny_pure ⟨plainId_quiet PySem.F.plain_tuple_new _, codeAny_builtin PySem.F.entry_tuple_new ?_⟩))
  rw [Around.under_plainId PySem.F.plain_tuple_new _]
  have hsub := sub_tuple_self
  have hinit := init_tuple_lookup
  have hmh := madeHere_tuple
  wp_walk using wpAny_typeOf hT0, feed_collect D hn hT (by decide) (by decide) PySem.F.gen_no_len PySem.F.gen_no_hint hIS hst
  intro s' ys hf hc
  show wpAny _ _ (Builtin.Tuple.tupleExact ys.toArray >>= fun v => ret v) _ _ _
  unfold Builtin.Tuple.tupleExact
  refine wpAny_bind (wpAny_newObj_type ?_ (by show ys.toArray.size ≤ sizeLine; rw [List.size_toArray, hfl _ _ hf]; exact hn))
  exact wpAny_pure ⟨⟨_, Heap.get?_push_size _ rfl, rfl⟩, hQ s' ys hf hc⟩

/-- list(x) of what feeds -/
theorem feed_list {T : String} {s : Shared} {Q : Value → Shared → Prop} (D : Feed prog w A.in1.in1 I s.heap.objs.size n St Fin) (hn : n ≤ sizeLine)
    (hT : ∀ s', St 0 [] s' → s'.TypeIs (.ref I) T) (t1 : (Value.type T == Value.type "list") = false) (t2 : (Value.type T == Value.type "tuple") = false)
    (hlen : typeLookup (.type T) "__len__" = pure none) (hhint : typeLookup (.type T) "__length_hint__" = pure none) (hIS : s.heap.objs.size ≠ I)
    (hst : St 0 [] { s with heap := s.heap.push { cls := .type "list", data := .seq #[] } })
    (hQ : ∀ s' ys c, Fin ys s' → s'.heap.get? s.heap.objs.size = some (listOf ys.toArray c) → Q (.ref s.heap.objs.size) s') :
    wpAny (model prog w) A (call (.type "list") [.ref I]) Q E s := by
  refine callType_codes (Q₁ := fun obj s₁ => obj = .ref s.heap.objs.size ∧ s₁ = { s with heap := s.heap.push { cls := .type "list", data := .seq #[] } }) PySem.F.called_list (PySem.F.typeCall_list_1 _) PySem.F.entry_list_init
    (code_list_new _ ⟨rfl, rfl⟩) fun obj s₁ h₁ => ?_
  obtain ⟨rfl, rfl⟩ := h₁
  have hS : (s.heap.push { cls := .type "list", data := .seq #[] }).get? s.heap.objs.size = some { cls := .type "list", data := .seq #[] } := Heap.get?_push_size _ rfl
  refine ⟨⟨_, hS, rfl⟩, PySem.F.args_list_init_2 _ _, ?_⟩
  show wpAny _ _ (do let old ← Builtin.List.listItems (.ref s.heap.objs.size); Builtin.List.listUpdate (.ref s.heap.objs.size) (fun _ => #[]); letGo old.toList.reverse; Builtin.List.listExtendWith (.ref s.heap.objs.size) (.ref I) .none) _ _ _
  refine wpAny_bind ?_
  unfold Builtin.List.listItems
  refine wpAny_bind (wpAny_seqItems hS rfl (wpAny_pure ?_))
  show wpAny _ _ (updateSeq s.heap.objs.size (fun _ => #[]) >>= fun _ => letGo (#[] : Array Value).toList.reverse >>= fun _ => Builtin.List.listExtendWith (.ref s.heap.objs.size) (.ref I) .none) _ _ _
  refine wpAny_bind (wpAny_updateSeq hS rfl ?_)
  have hS₂ := Heap.get?_update_self (Obj.mapSeq (fun _ => (#[] : Array Value))) hS rfl
  refine wpAny_bind (wpAny_letGo ?_)
  exact ext_with D hn .none hT t1 t2 hlen hhint hIS (D.stab 0 [] { s with heap := s.heap.push { cls := .type "list", data := .seq #[] } } _ hst fun b o hb e => (Heap.get?_update_other _ _ (Ne.symm hb)).trans e) hS₂ fun s' ys' c' hf hS' => ⟨rfl, hQ s' ys' c' hf hS'⟩
end
local macro_rules | `(tactic| walk_at "zzfresh") => `(tactic| skip)
theorem fresh7 : True := by
  w_top off
  trivial
theorem AllBare.setGen {s : Shared} {g : Nat} {x : GenState} (h : AllBare s.gens) (hx : x.bare = true) : AllBare (s.setGen g x).gens := by
  intro y hy
  obtain ⟨i, hi, rfl⟩ := Array.mem_iff_getElem.mp hy
  simp only [Shared.setGen] at hi ⊢
  by_cases e : g = i
  · subst e
    simpa using hx
  · simp only [Array.size_setIfInBounds] at hi
    rw [Array.getElem_setIfInBounds hi]
    rw [if_neg e]
    exact h _ (Array.getElem_mem hi)
section
variable {prog : Program} {w : World} {dp un : Nat} {gd : Option (List Code)} {env : Env} {outer : List Env}
/-- a generator expression over one clause without a test, in its frame C; gb: its frame's ground -/
structure GenB (prog : Program) (w : World) (dp un : Nat) (gd : Option (List Code)) (env : Env) (outer : List Env) (elt : Expr) (x : Str) (scope : Scope) (cl : List (Str × Addr)) (code : Value) (bi : Addr) (I C a S : Addr) (g : Nat) (gb : Heap) (og : Obj)
    (fp wr : List Addr) (n : Nat) (P : Nat → Value → Prop) (St : Nat → Heap → Prop) (news : List (Addr × Obj)) (J : Nat → List Value → List (Addr × Obj) → Prop) : Prop where
  W : ∀ A' : Around, A'.handled = none → Walks prog w A' I fp wr n P St
  hx : scope.names.lookup x = some .local
  hk : scope.kind = .function
  hco : scope.isCoroutine = false
  fpC : ∀ b ∈ fp, @LT.lt Nat _ b C
  hwr : ∀ b ∈ wr, gb.get? b = none
  nw : ∀ p ∈ news, p.1 ∉ wr
  nC : ∀ p ∈ news, @LT.lt Nat _ p.1 C
  aC : @LT.lt Nat _ C a
  aS : @LT.lt Nat _ a S
  isg : ∃ nm qn, og.cls = .type "generator" ∧ og.data = .fields #[.int g 0, nm, qn] ∧ og.slots = #[]
  nolim : gb.NoLimit
  jlen : ∀ i ys tl, J i ys tl → ys.length = i
  step : ∀ i v ys tl (mC : Str → Option Value) h tk (s : Shared) led (E' : Value → Shared → Prop), i < n → P i v → J i ys tl → Fr gb C h (fun y => if y = x then some v else mC y) → News gb C h led → (∀ p ∈ tl ++ news, p ∈ led) →
    wpAny (model prog w) (ar (dp + 1) (un + 7) gd (genEnv scope cl C code bi env) (env :: outer)) (eval elt (genEnv scope cl C code bi env))
      (fun y s₄ => ∃ h' tk' ex mC', s₄ = { s with heap := h', toks := tk' } ∧ Fr gb C h' mC' ∧ News gb C h' (ex ++ led) ∧ (∀ p ∈ ex, ∀ q ∈ led, q.1 < p.1) ∧ J (i + 1) (ys ++ [y]) (ex ++ tl)) E' { s with heap := h, toks := tk }

variable {elt iter : Expr} {x : Str} {px pos : Pos} {scope : Scope} {cl : List (Str × Addr)} {code : Value} {bi I C a S : Addr} {g : Nat} {gb : Heap} {og : Obj} {fp wr : List Addr} {n : Nat} {P : Nat → Value → Prop} {St : Nat → Heap → Prop}
  {news : List (Addr × Obj)} {J : Nat → List Value → List (Addr × Obj) → Prop}
def GBs (C a S : Addr) (gb : Heap) (og : Obj) (news : List (Addr × Obj)) (tl : List (Addr × Obj)) (h : Heap) : Prop :=
  ∃ mC, Fr gb C h mC ∧ News gb C h ((a, og) :: (tl ++ news)) ∧ ∀ p ∈ tl, @LT.lt Nat _ S p.1
abbrev GSame (s₀ s : Shared) : Prop := s.gens = s₀.gens ∧ s.os = s₀.os ∧ s.drawn = s₀.drawn
def GY (C a S : Addr) (gb : Heap) (og : Obj) (n : Nat) (St : Nat → Heap → Prop) (news : List (Addr × Obj)) (J : Nat → List Value → List (Addr × Obj) → Prop) : Protocol := fun k s₀ v s kap =>
  ∃ i ys c tl, k + (i + 1) = n ∧ s₀.heap.get? S = some (listOf ys.toArray c) ∧ s.heap.get? S = some (listOf ys.toArray c) ∧ GBs C a S gb og news tl s.heap ∧ St (i + 1) s.heap ∧ J (i + 1) (ys ++ [v]) tl ∧ GSame s₀ s ∧
    ∀ s'' : Shared, (∃ c', s''.heap.get? S = some (listOf (ys ++ [v]).toArray c')) → GBs C a S gb og news tl s''.heap → St (i + 1) s''.heap → kap (.send .none) s''
def GR (C a S : Addr) (gb : Heap) (og : Obj) (n : Nat) (news : List (Addr × Obj)) (J : Nat → List Value → List (Addr × Obj) → Prop) (k : Nat) (s₀ s : Shared) : Prop :=
  k = 0 ∧ ∃ ys c tl, s₀.heap.get? S = some (listOf ys.toArray c) ∧ s.heap.get? S = some (listOf ys.toArray c) ∧ GBs C a S gb og news tl s.heap ∧ J n ys tl ∧ GSame s₀ s

theorem gen_seg (B : GenB prog w dp un gd env outer elt x scope cl code bi I C a S g gb og fp wr n P St news J) :
    ∀ (k i : Nat) (ys : List Value) (c : Nat) (tl : List (Addr × Obj)) (s₀ s : Shared), n - i = k → i ≤ n → s₀.heap.get? S = some (listOf ys.toArray c) → s.heap.get? S = some (listOf ys.toArray c) → GBs C a S gb og news tl s.heap → St i s.heap → J i ys tl → GSame s₀ s →
      Seg (model prog w) (ar dp (un + 4) gd env outer) (fun n' s₀ r s₁ => r = .ok .next ∧ GR C a S gb og n news J n' s₀ s₁) (GY C a S gb og n St news J) k s₀
        (.compLoop (.GeneratorExp elt [⟨.Name x px, iter, [], 0⟩] scope pos) 0 (.ref I) .none (genEnv scope cl C code bi env))
        ((model prog w).den (.compLoop (.GeneratorExp elt [⟨.Name x px, iter, [], 0⟩] scope pos) 0 (.ref I) .none (genEnv scope cl C code bi env))) [] s := by
  have hA : (ar dp (un + 4) gd env outer).over (.compLoop (.GeneratorExp elt [⟨.Name x px, iter, [], 0⟩] scope pos) 0 (.ref I) .none (genEnv scope cl C code bi env)) [] = ar (dp + 1) (un + 7) gd (genEnv scope cl C code bi env) (env :: outer) := by
    cases gd <;> rfl
  obtain ⟨W, hx, hk, hco, fpC, hwr, nw, nC, aC, aS, isg, nolim, jlen, step⟩ := B
  have hW := W (ar (dp + 1) (un + 7) gd (genEnv scope cl C code bi env) (env :: outer)) rfl
  have wrC : ∀ b ∈ wr, @LT.lt Nat _ b C := fun b hb => fpC b (hW.sub b hb)
  have hCw : C ∉ wr := fun h => Nat.lt_irrefl _ (wrC _ h)
  have hSw : S ∉ wr := fun h => Nat.lt_irrefl _ (Nat.lt_trans (Nat.lt_trans (wrC _ h) aC) aS)
  have haw : a ∉ wr := fun h => Nat.lt_irrefl _ (Nat.lt_trans (wrC _ h) aC)
  have hCf : C ∉ fp := fun h => Nat.lt_irrefl _ (fpC _ h)
  have hSC : S ≠ C := Nat.ne_of_gt (Nat.lt_trans aC aS)
  have oldw : ∀ b o, gb.get? b = some o → b ∉ wr := fun b o e hb => by rw [hwr b hb] at e; cases e
  intro k
  induction k with
  | zero =>
    intro i ys c tl s₀ s hki hi hS0 hS hB hst hJ hsame
    have hin : i = n := by omega
    subst hin
    show Seg _ _ _ _ _ s₀ _ ((compTurn (.GeneratorExp elt [⟨.Name x px, iter, [], 0⟩] scope pos) 0 (.ref I) .none (genEnv scope cl C code bi env)).onRaise (leaving (genEnv scope cl C code bi env))) [] s
    rw [compTurn_gen, Sem.onRaise_eq_wrap]
    refine seg_bind_wrap (wpAny_standAt ?_)
    refine seg_bind_wrap ?_
    rw [hA]
    refine hW.done s _ _ hst fun h' tk hk' => ?_
    obtain ⟨mC, F, N, ho⟩ := hB
    refine seg_end (.ok .next) ⟨rfl, rfl, ys, c, tl, hS0, hk' _ _ hSw hS, ⟨mC, ⟨F.ns.at' fun o e => hk' _ o hCw e, fun b o e => hk' b o (oldw b o e) (F.keep b o e), F.above⟩, fun p hp => ⟨hk' _ _ ?_ (N p hp).1, (N p hp).2⟩, ho⟩, hJ, hsame⟩
    rcases List.mem_cons.mp hp with rfl | hp
    · exact haw
    · rcases List.mem_append.mp hp with hp | hp
      · exact fun h => Nat.lt_irrefl _ (Nat.lt_trans (Nat.lt_trans (Nat.lt_trans (wrC _ h) aC) aS) (ho p hp))
      · exact nw p hp
  | succ k ih =>
    intro i ys c tl s₀ s hki hi hS0 hS hB hst hJ hsame
    have hlt : i < n := by omega
    show Seg _ _ _ _ _ s₀ _ ((compTurn (.GeneratorExp elt [⟨.Name x px, iter, [], 0⟩] scope pos) 0 (.ref I) .none (genEnv scope cl C code bi env)).onRaise (leaving (genEnv scope cl C code bi env))) [] s
    rw [compTurn_gen, Sem.onRaise_eq_wrap]
    refine seg_bind_wrap (wpAny_standAt ?_)
    refine seg_bind_wrap ?_
    rw [hA]
    refine hW.item i s _ _ hlt hst fun v h₁ tk₁ hPv hst₁ hk₁ => ?_
    refine seg_bind_wrap (wpAny_of_eq (rfl : letOwnedTupleGo (.Name x px) (.ref I) v = pure ()) ?_)
    obtain ⟨mC, F, N, ho⟩ := hB
    refine seg_bind_wrap (wpAny_assign_Name (wpAny_storeName_local (env := genEnv scope cl C code bi env) hx (F.ns.at' fun o e => hk₁ _ o hCw e) (fun h₂ hn₂ hs₂ => ?_) (by simp [genEnv, hk])))
    have up₂ : ∀ b o, b ≠ C → b ∉ wr → s.heap.get? b = some o → h₂.get? b = some o := fun b o hbC hbw e => hs₂.extBut b o hbC (hk₁ b o hbw e)
    have neC : ∀ b o, gb.get? b = some o → b ≠ C := fun b o e => Nat.ne_of_lt (Nat.lt_of_lt_of_le (Heap.lt_size e) F.above)
    have F₂ : Fr gb C h₂ (fun y => if y = x then some v else mC y) := ⟨hn₂, fun b o e => up₂ b o (neC b o e) (oldw b o e) (F.keep b o e), F.above⟩
    have hst₂ : St (i + 1) h₂ := hW.frame _ _ _ hst₁ fun b hb o e => hs₂.extBut b o (Nat.ne_of_lt (fpC b hb)) e
    have hS₂ : h₂.get? S = some (listOf ys.toArray c) := up₂ _ _ hSC hSw hS
    have hSg : gb.get? S = none := Heap.get?_none_of_le (Nat.le_trans F.above (Nat.le_of_lt (Nat.lt_trans aC aS)))
    have tne : ∀ p ∈ (a, og) :: (tl ++ news), p.1 ≠ C ∧ p.1 ∉ wr := fun p hp => by
      rcases List.mem_cons.mp hp with rfl | hp
      · exact ⟨Nat.ne_of_gt aC, haw⟩
      · rcases List.mem_append.mp hp with hp | hp
        · have h1 := Nat.lt_trans (Nat.lt_trans aC aS) (ho p hp)
          exact ⟨Nat.ne_of_gt h1, fun h => Nat.lt_irrefl _ (Nat.lt_trans (wrC _ h) h1)⟩
        · exact ⟨Nat.ne_of_lt (nC p hp), nw p hp⟩
    have N₂ : News gb C h₂ ((S, listOf ys.toArray c) :: (ownOf gb fp h₂ ++ ((a, og) :: (tl ++ news)))) := fun p hp => by
      rcases List.mem_cons.mp hp with rfl | hp
      · exact ⟨hS₂, hSC, hSg⟩
      · rcases List.mem_append.mp hp with hp | hp
        · exact (news_ownOf hCf) p hp
        · exact ⟨up₂ _ _ (tne p hp).1 (tne p hp).2 (N p hp).1, (N p hp).2⟩
    refine seg_bind_wrap (wpAny_tests_nil ?_)
    simp only [if_true]
    have hy : ∀ v, yieldOut (genEnv scope cl C code bi env) v = yieldValue v := fun v => by simp only [yieldOut, genEnv, hco, Bool.false_eq_true, if_false]
    simp only [hy]
    rw [Sem.bind_eq_wrap', Sem.bind_eq_wrap', Sem.wrap_wrap, Sem.wrap_wrap]
    refine seg_wrap ?_
    rw [hA]
    refine wpAny_mono (step i v ys tl mC h₂ _ s _ _ hlt hPv hJ F₂ N₂ (fun p hp => List.mem_cons_of_mem _ (List.mem_append_right _ (List.mem_cons_of_mem _ hp)))) (fun y s₄ h₄ => ?_) fun _ _ e => e
    obtain ⟨h₄, tk₄, ex, mC₄, rfl, F₄, N₄, hex, hJ₄⟩ := h₄
    have mem : ∀ p, p ∈ (S, listOf ys.toArray c) :: (ownOf gb fp h₂ ++ ((a, og) :: (tl ++ news))) → h₄.get? p.1 = some p.2 := fun p hp => (N₄ p (List.mem_append_right _ hp)).1
    have hst₄ : St (i + 1) h₄ := hW.frame _ _ _ hst₂ fun b hb o e => by
      cases hn : gb.get? b with
      | some o₀ =>
        have : o₀ = o := by have q := F₂.keep b o₀ hn; rw [e] at q; exact (Option.some.inj q).symm
        exact this ▸ F₄.keep b o₀ hn
      | none => exact mem (b, o) (List.mem_cons_of_mem _ (List.mem_append_left _ (mem_ownOf hb hn e)))
    have hB₄ : GBs C a S gb og news (ex ++ tl) h₄ := ⟨mC₄, F₄, fun p hp => by
      rcases List.mem_cons.mp hp with rfl | hp
      · exact N₄ _ (List.mem_append_right _ (List.mem_cons_of_mem _ (List.mem_append_right _ List.mem_cons_self)))
      · rw [List.append_assoc] at hp
        rcases List.mem_append.mp hp with hp | hp
        · exact N₄ _ (List.mem_append_left _ hp)
        · exact N₄ _ (List.mem_append_right _ (List.mem_cons_of_mem _ (List.mem_append_right _ (List.mem_cons_of_mem _ hp)))), fun p hp => by
      rcases List.mem_append.mp hp with hp | hp
      · exact hex p hp _ List.mem_cons_self
      · exact ho p hp⟩
    refine seg_at (seg_yield rfl rfl rfl ⟨i, ys, c, ex ++ tl, by omega, hS0, mem _ List.mem_cons_self, hB₄, hst₄, hJ₄, hsame, fun s'' ⟨c', hS''⟩ hB'' hst'' => ?_⟩)
    exact seg_again rfl (ih (i + 1) (ys ++ [y]) c' (ex ++ tl) s'' s'' (by omega) hlt hS'' hS'' hB'' hst'' hJ₄ ⟨rfl, rfl, rfl⟩)

/-- it feeds -/
theorem gen_feed (B : GenB prog w dp un gd env outer elt x scope cl code bi I C a S g gb og fp wr n P St news J) (hroom : dp < recursionLimit) (s₀ : Shared) :
    Feed prog w (ar dp (un + 3) gd env outer) a S n
      (fun i ys s => ∃ tl gs, s.gens[g]? = some gs ∧ AllBare s.gens ∧ s.os = s₀.os ∧ s.drawn = s₀.drawn ∧ GBs C a S gb og news tl s.heap ∧ St i s.heap ∧ J i ys tl ∧
        ∀ s'' : Shared, (∃ c', s''.heap.get? S = some (listOf ys.toArray c')) → GBs C a S gb og news tl s''.heap → St i s''.heap →
          gs.Goes (model prog w) (ar dp (un + 4) gd env outer) (fun n' s₀ r s₁ => r = .ok .next ∧ GR C a S gb og n news J n' s₀ s₁) (GY C a S gb og n St news J) (n - i) (.send .none) s'')
      (fun ys s => ∃ tl, AllBare s.gens ∧ s.os = s₀.os ∧ s.drawn = s₀.drawn ∧ GBs C a S gb og news tl s.heap ∧ J n ys tl) := by
  have fpC := B.fpC
  have aC := B.aC
  have aS := B.aS
  have nC := B.nC
  have fpS : ∀ b ∈ fp, b ≠ S := fun b hb => Nat.ne_of_lt (Nat.lt_trans (fpC b hb) (Nat.lt_trans aC aS))
  have isGen : ∀ {h : Heap} {tl}, GBs C a S gb og news tl h → h.IsGen a g := fun ⟨_, _, N, _⟩ => by
    obtain ⟨nm, qn, h1, h2, h3⟩ := B.isg
    exact ⟨og, nm, qn, (N _ List.mem_cons_self).1, h1, h2, h3⟩
  have noLim : ∀ {h : Heap} {tl}, GBs C a S gb og news tl h → h.NoLimit := fun ⟨_, F, _, _⟩ => B.nolim.keeps F.keep
  have inj : ∀ {ys ys' : List Value} {c c' : Nat} {h : Heap}, h.get? S = some (listOf ys.toArray c) → h.get? S = some (listOf ys'.toArray c') → ys' = ys := fun h1 h2 => by
    rw [h1] at h2
    have := Option.some.inj h2
    simp only [Obj.mk.injEq, Data.seq.injEq] at this
    exact (congrArg Array.toList this.2.2.1.1).symm
  have stab : ∀ {h h' : Heap} {tl}, GBs C a S gb og news tl h → (∀ b o, b ≠ S → h.get? b = some o → h'.get? b = some o) → GBs C a S gb og news tl h' := fun ⟨mC, F, N, ho⟩ hk => by
    refine ⟨mC, ⟨F.ns.at' fun o e => hk _ o (Nat.ne_of_lt (Nat.lt_trans aC aS)) e, fun b o e => hk b o (Nat.ne_of_lt (Nat.lt_of_lt_of_le (Heap.lt_size e) (Nat.le_trans F.above (Nat.le_of_lt (Nat.lt_trans aC aS))))) (F.keep b o e), F.above⟩, fun p hp => ⟨hk _ _ ?_ (N p hp).1, (N p hp).2⟩, ho⟩
    rcases List.mem_cons.mp hp with rfl | hp
    · exact Nat.ne_of_lt aS
    · rcases List.mem_append.mp hp with hp | hp
      · exact Nat.ne_of_gt (ho p hp)
      · exact Nat.ne_of_lt (Nat.lt_trans (nC p hp) (Nat.lt_trans aC aS))
  refine ⟨?_, ?_, ?_, ?_, ?_⟩
  · rintro i ys s h' ⟨tl, gs, h1, h2, h3, h4, h5, h6, h7, h8⟩ hk
    exact ⟨tl, gs, h1, h2, h3, h4, stab h5 hk, (B.W (ar dp un gd env outer) rfl).frame _ _ _ h6 fun b hb o e => hk b o (fpS b hb) e, h7, h8⟩
  · rintro i ys s ⟨tl, gs, h1, h2, h3, h4, h5, h6, h7, h8⟩
    exact B.jlen i ys tl h7
  · rintro i ys s c Q E hi ⟨tl, gs, h1, h2, h3, h4, h5, h6, h7, h8⟩ hS hQ
    obtain ⟨m, hm⟩ : ∃ m, n - i = m + 1 := ⟨n - i - 1, by omega⟩
    refine wpAny_pyNext_genexpQ (P := GR C a S gb og n news J) rfl (noLim h5) hroom (isGen h5) h1 (h8 (s.setGen g .running) ⟨c, hS⟩ h5 h6) (fun v s₁ gs' hb hv => ?_) (fun s₁ hp h' hk => ?_)
    · obtain ⟨i', ys', c', tl', hi', e1, e2, e3, e4, e5, e6, e7⟩ := hv
      have hys : ys' = ys := inj hS e1
      subst hys
      have hii : i' = i := by rw [hm] at hi'; omega
      subst hii
      have hbr : AllBare s₁.gens := e6.1 ▸ AllBare.setGen h2 rfl
      have hg : s₁.gens[g]? = some .running := e6.1 ▸ setGen_self (x := .running) h1
      have hcc : c' = c := by
        have z : (s.setGen g .running).heap.get? S = some (listOf ys'.toArray c) := hS
        rw [z] at e1
        have := Option.some.inj e1
        simp only [Obj.mk.injEq, Data.seq.injEq] at this
        exact this.2.2.1.2.symm
      subst hcc
      refine hQ v _ ⟨tl', gs', setGen_self hg, AllBare.setGen hbr hb, e6.2.1.trans h3, e6.2.2.trans h4, e3, e4, e5, fun s'' c'' hB'' hst'' => ?_⟩ e2
      have z := e7 s'' c'' hB'' hst''
      rw [hm] at z
      rw [show n - (i' + 1) = m by omega]
      exact z
    · rw [hm] at hp
      exact absurd hp.1 (Nat.succ_ne_zero m)
  · rintro ys s c Q E ⟨tl, gs, h1, h2, h3, h4, h5, h6, h7, h8⟩ hS hQ
    rw [Nat.sub_self] at h8
    refine wpAny_pyNext_genexpQ (P := GR C a S gb og n news J) rfl (noLim h5) hroom (isGen h5) h1 (h8 (s.setGen g .running) ⟨c, hS⟩ h5 h6) (fun v s₁ gs' hb hv => ?_) (fun s₁ hp h' hk => ?_)
    · obtain ⟨i', ys', c', tl', hi', e1, e2, e3, e4, e5, e6, e7⟩ := hv
      have hys : ys' = ys := inj hS e1
      have l1 := B.jlen _ _ _ e5
      have l2 := B.jlen _ _ _ h7
      subst hys
      simp only [List.length_append, List.length_cons, List.length_nil] at l1
      omega
    · obtain ⟨_, ys', c', tl', e1, e2, e3, e5, e6⟩ := hp
      have hys : ys' = ys := inj hS e1
      subst hys
      have hcc : c' = c := by
        have z : (s.setGen g .running).heap.get? S = some (listOf ys'.toArray c) := hS
        rw [z] at e1
        have := Option.some.inj e1
        simp only [Obj.mk.injEq, Data.seq.injEq] at this
        exact this.2.2.1.2.symm
      subst hcc
      have hbr : AllBare s₁.gens := e6.1 ▸ AllBare.setGen h2 rfl
      exact hQ _ ⟨tl', AllBare.setGen hbr rfl, e6.2.1.trans h3, e6.2.2.trans h4, stab e3 fun b o _ e => hk b o e, e5⟩ (hk _ _ e2)
  · rintro s Q E ⟨tl, gs, h1, h2, h3, h4, h5, h6, h7, h8⟩ hQ
    exact wpAny_pyIter_gen (isGen h5) hQ
end
local macro_rules | `(tactic| walk_at "zzfresh") => `(tactic| skip)
theorem fresh8 : True := by
  w_top off
  trivial
abbrev tup (vs : List Value) : Obj := { cls := .type "tuple", data := .seq vs.toArray }
/-- an object that is the list or the tuple of vs -/
def Sq (o : Obj) (vs : List Value) : Prop := (∃ c, o = { cls := .type "list", data := .seq vs.toArray c }) ∨ o = tup vs
theorem Sq.tup (vs : List Value) : Sq (tup vs) vs := .inr rfl
theorem Sq.lst (vs : List Value) : Sq (PyProof.Rows.LCg.lst vs) vs := .inl ⟨_, rfl⟩
/-- no record -/
def Nf (o : Obj) : Prop := ∀ xs, o.data ≠ .fields xs
def swp (news : List (Addr × Obj)) (P : Addr) (ps : Array Value) : List (Addr × Obj) := news.map fun q => if q.1 = P then (P, tabObj ps) else q
section
variable {h₀ h h' : Heap} {L P : Addr} {news own : List (Addr × Obj)} {ps ps' : Array Value}
theorem swp_app : swp (own ++ news) P ps = swp own P ps ++ swp news P ps := List.map_append
theorem mem_swp {q : Addr × Obj} (hq : q ∈ swp news P ps') : q = (P, tabObj ps') ∨ (q ∈ news ∧ q.1 ≠ P) := by
  obtain ⟨r, hr, rfl⟩ := List.mem_map.mp hq
  by_cases e : r.1 = P
  · rw [if_pos e]; exact .inl rfl
  · rw [if_neg e]; exact .inr ⟨hr, e⟩
theorem swp_lt {d : Addr} (hl : ∀ q ∈ news, q.1 < d) : ∀ q ∈ swp news P ps', q.1 < d := fun q hq => by
  obtain ⟨r, hr, rfl⟩ := List.mem_map.mp hq
  by_cases e : r.1 = P
  · rw [if_pos e]; exact e ▸ hl r hr
  · rw [if_neg e]; exact hl r hr
theorem swp_tab (hP : (P, tabObj ps) ∈ news) : (P, tabObj ps') ∈ swp news P ps' := List.mem_map.mpr ⟨_, hP, by simp⟩
theorem swp_mem (N : News h₀ L h news) (hP : (P, tabObj ps) ∈ news) {q : Addr × Obj} (hq : q ∈ news) (hn : Nf q.2) : q ∈ swp news P ps' := by
  refine List.mem_map.mpr ⟨q, hq, if_neg fun e => ?_⟩
  have := (N _ hq).1
  rw [e, (N _ hP).1] at this
  exact hn ps (by rw [← Option.some.inj this])
theorem swp_own (N : News h₀ L h (own ++ news)) (hP : (P, tabObj ps) ∈ news) (ho : ∀ q ∈ own, Nf q.2) : swp own P ps' = own := by
  refine (List.map_congr_left fun q hq => ?_).trans (List.map_id _)
  refine if_neg fun e => ?_
  have := (N q (List.mem_append_left _ hq)).1
  rw [e, (N _ (List.mem_append_right _ hP)).1] at this
  exact ho q hq ps (by rw [← Option.some.inj this])
theorem swp_same (N : News h₀ L h news) (hP : (P, tabObj ps) ∈ news) : swp news P ps = news := by
  refine (List.map_congr_left fun q hq => ?_).trans (List.map_id _)
  by_cases e : q.1 = P
  · rw [if_pos e]
    have := (N q hq).1
    rw [e, (N _ hP).1] at this
    exact Prod.ext e.symm (Option.some.inj this)
  · exact if_neg e
end
section
variable {prog : Program} {w : World} {A : Around} {E : Value → Shared → Prop} {s : Shared} {h₀ : Heap} {L : Addr} {m : Str → Option Value} {news : List (Addr × Obj)} {b : Addr} {ob : Obj} {vs : List Value} {Q : Value → Shared → Prop}
theorem len_sq (N : News h₀ L s.heap news) (hb : (b, ob) ∈ news) (hq : Sq ob vs) {n : Nat} (hn : vs.length = n) (hz : n ≤ 16384) (h : ∀ t tk, Q (.int n t) { s with toks := tk }) : wpAny (model prog w) A (call (.builtin "len") [.ref b]) Q E s := by
  subst hn
  rcases hq with ⟨c, rfl⟩ | rfl
  · refine call_len_list ⟨_, (N _ hb).1, rfl, _, rfl⟩ (by rw [List.size_toArray]; omega) ?_
    rw [List.size_toArray]; exact h _ _
  · refine len_tuple ⟨_, (N _ hb).1, rfl, _, rfl⟩ (by rw [List.size_toArray]; omega) ?_
    rw [List.size_toArray]; exact h _ _
theorem tuple_sq (F : Fr h₀ L s.heap m) (N : News h₀ L s.heap news) (hb : (b, ob) ∈ news) (hq : Sq ob vs) (hz : vs.length ≤ 16384)
    (h : ∀ T h', Fr h₀ L h' m → News h₀ L h' ((T, tup vs) :: news) → ((∀ q ∈ news, q.1 < T) ∨ T = b) → Q (.ref T) { s with heap := h' }) : wpAny (model prog w) A (call (.type "tuple") [.ref b]) Q E s := by
  rcases hq with ⟨c, rfl⟩ | rfl
  · refine call_tuple_list ⟨_, (N _ hb).1, rfl, _, rfl⟩ (fun h' hk => ?_) (by rw [List.size_toArray]; exact Nat.le_trans hz (by decide))
    have F' : Fr h₀ L h' m := F.keeps hk
    have N' : News h₀ L h' news := fun p hp => ⟨hk _ _ (N p hp).1, (N p hp).2⟩
    exact h _ _ (F'.push _) (News.push F' N' _ rfl) (.inl fun q hq => Heap.lt_size (N' q hq).1)
  · refine call_tuple_same ⟨_, (N _ hb).1, rfl, _, rfl⟩ ?_
    exact h b s.heap F (fun p hp => by
      rcases List.mem_cons.mp hp with rfl | hp
      · exact N _ hb
      · exact N p hp) (.inr rfl)
/-- iter() of a list or a tuple -/
theorem iter_sq (F : Fr h₀ L s.heap m) (N : News h₀ L s.heap news) (hb : (b, ob) ∈ news) (hq : Sq ob vs)
    (h : ∀ I itob h' St, Fr h₀ L h' m → News h₀ L h' ((I, itob) :: news) → (∀ q ∈ news, q.1 < I) → h'.objs.size = I + 1 → St 0 h' →
      (∀ A' : Around, A'.handled = none → Walks prog w A' I [I, b] [I] vs.length (fun i v => vs[i]? = some v) St) →
      (∀ i h, St i h → ∃ o, h.get? I = some o) →
      (∀ (A' : Around) target i v (s : Shared) (Q : Unit → Shared → Prop) (E : Value → Shared → Prop), St i s.heap → Q () s → wpAny (model prog w) A' (letOwnedTupleGo target (.ref I) v) Q E s) → Q (.ref I) { s with heap := h' }) :
    wpAny (model prog w) A (pyIter (.ref b)) Q E s := by
  have hlt : b < s.heap.objs.size := Heap.lt_size (N _ hb).1
  have sz : vs.length = vs.toArray.size := (List.size_toArray ..).symm
  have it : (fun (i : Nat) (v : Value) => vs[i]? = some v) = fun i v => vs.toArray[i]? = some v := by funext i v; simp
  rcases hq with ⟨c, rfl⟩ | rfl
  · refine wpAny_pyIter_list (items := vs.toArray) ⟨_, (N _ hb).1, rfl, _, rfl⟩ ?_
    refine h _ _ _ (fun i h => h.IsListIter s.heap.objs.size b i ∧ h.IsList b vs.toArray) (F.push _) (News.push F N _ rfl) (fun q hq => Heap.lt_size (N q hq).1) (Heap.size_push ..) ⟨⟨_, Heap.get?_push_size _ rfl, rfl, rfl⟩, ⟨_, Heap.get?_push_of_some _ (N _ hb).1, rfl, _, rfl⟩⟩ (fun A' hh => ?_)
      (fun i h st => let ⟨o, ho, _⟩ := st.1; ⟨o, ho⟩) fun A' target i v s Q E st q => letGo_listiter st.1 q
    rw [sz, it]
    exact Walks.list hh _ _ (Nat.ne_of_lt hlt) _
  · refine wpAny_pyIter_tuple (items := vs.toArray) ⟨_, (N _ hb).1, rfl, _, rfl⟩ ?_
    refine h _ _ _ (fun i h => h.IsTupleIter s.heap.objs.size b i ∧ h.IsTuple b vs.toArray) (F.push _) (News.push F N _ rfl) (fun q hq => Heap.lt_size (N q hq).1) (Heap.size_push ..) ⟨⟨_, Heap.get?_push_size _ rfl, rfl, rfl⟩, ⟨_, Heap.get?_push_of_some _ (N _ hb).1, rfl, _, rfl⟩⟩ (fun A' hh => ?_)
      (fun i h st => let ⟨o, ho, _⟩ := st.1; ⟨o, ho⟩) fun A' target i v s Q E st q => letGo_tupleiter st.1 q
    rw [sz, it]
    exact Walks.tuple hh _ _ (Nat.ne_of_lt hlt) _
end
section
variable {M : Model} {A : Around} {E : Value → Shared → Prop} {s : Shared} {h₀ : Heap} {L c P : Addr} {m mg mb : Str → Option Value} {news : List (Addr × Obj)} {ps : Array Value} {pos : Pos} {pr : Program} {loose : List Str} {mean : ExcName → Option Value}
theorem codeAmong_one {c' : Value} : codeAmong pos (#[rawInt pos.line, rawInt pos.col, c'] : Array Value).toList = some c' := by simp [codeAmong, rawInt]
/-- the code of a generator expression, made or found -/
theorem gcode {env : Env} {qn : Str} {scope : Scope} {Q : Value → Shared → Prop} (F : Fr h₀ L s.heap m) (N : News h₀ L s.heap news) (hcode : env.code = .ref c) (C : CodeHd h₀ c P) (hP : (P, tabObj ps) ∈ news)
    (hps : ps = #[] ∨ ∃ c', ps = #[rawInt pos.line, rawInt pos.col, .ref c'])
    (ret : ∀ code ps' h' tk, (ps ≠ #[] → ps' = ps) → (∃ c', ps' = #[rawInt pos.line, rawInt pos.col, .ref c']) → (∀ b o, b ≠ P → s.heap.get? b = some o → h'.get? b = some o) → s.heap.objs.size ≤ h'.objs.size →
      Fr h₀ L h' m → News h₀ L h' (swp news P ps') → Q code { s with heap := h', toks := tk }) :
    wpAny M A (genexprCode env pos qn scope) Q E s := by
  have C' := C.keeps F.keep
  have hm := N _ hP
  rcases hps with rfl | ⟨c', rfl⟩
  · refine wpAny_genexprCodeX hcode (C'.code hm.1 trivial) (C'.tab hm.1) rfl fun c' h' tk hx hge hlt _ hrec htb _ => ?_
    refine ret _ _ h' tk (fun e => absurd rfl e) ⟨c', rfl⟩ (fun b o hb e => hx b o hb e) (Nat.le_of_lt (Nat.lt_of_le_of_lt hge hlt)) ⟨F.ns.extBut hx hm.2.1.symm, fun b o e => hx b o (fun q => by rw [q, hm.2.2] at e; cases e) (F.keep b o e), F.above⟩ fun q hq => ?_
    rcases mem_swp hq with rfl | ⟨hq, hn⟩
    · exact ⟨htb.2, hm.2⟩
    · exact ⟨hx _ _ hn (N q hq).1, (N q hq).2⟩
  · refine wpAny_genexprCode_hit hcode (C'.code hm.1 ?_) codeAmong_one ?_
    · simp [TriplesOk, rawInt]
    · rw [show s = { s with heap := s.heap, toks := s.toks } from rfl]
      exact ret _ _ _ _ (fun _ => rfl) ⟨c', rfl⟩ (fun _ _ _ e => e) (Nat.le_refl _) F (by rw [swp_same N hP]; exact N)
end
section
variable {w : World} {A₀ : Around} {dp un : Nat} {gd : Option (List Code)} {env : Env} {outer : List Env} {base h₀ : Heap} {L c P b : Addr} {m mg mb : Str → Option Value} {own news : List (Addr × Obj)} {s : Shared} {pr : Program} {loose : List Str} {mean : ExcName → Option Value}
  {ps : Array Value} {pos px : Pos} {prog : Program} {Q E E₁ : Value → Shared → Prop} {elt iter : Expr} {x : Str} {scope : Scope} {cl : List (Str × Addr)} {ob : Obj} {vs : List Value} {J : Nat → List Value → List (Addr × Obj) → Prop}
theorem feed_tupleS {A : Around} {I S : Addr} {n : Nat} {St : Nat → List Value → Shared → Prop} {Fin : List Value → Shared → Prop} (hS : s.heap.objs.size = S) (D : Feed prog w A.in1.in1.in1 I S n St Fin) (hn : n ≤ sizeLine)
    (hT : ∀ s', St 0 [] s' → s'.TypeIs (.ref I) "generator") (hT0 : s.TypeIs (.ref I) "generator") (hIS : S ≠ I)
    (hst : St 0 [] { s with heap := s.heap.push { cls := .type "list", data := .seq ([] : List Value).toArray } }) (hfl : ∀ ys s', Fin ys s' → ys.length = n)
    (hQ : ∀ s' ys, Fin ys s' → (∃ c, s'.heap.get? S = some (listOf ys.toArray c)) → Q (.ref s'.heap.objs.size) { s' with heap := s'.heap.push { cls := .type "tuple", data := .seq ys.toArray } }) :
    wpAny (model prog w) A (call (.type "tuple") [.ref I]) Q E s := by
  subst hS; exact feed_tuple D hn hT hT0 hIS hst hfl hQ
/-- the end of a turn of a generator expression -/
def GEnd (gb : Heap) (C : Addr) (s : Shared) (led tl : List (Addr × Obj)) (J' : List (Addr × Obj) → Prop) (s₄ : Shared) : Prop :=
  ∃ h' tk' ex mC', s₄ = { s with heap := h', toks := tk' } ∧ Fr gb C h' mC' ∧ News gb C h' (ex ++ led) ∧ (∀ p ∈ ex, ∀ q ∈ led, q.1 < p.1) ∧ J' (ex ++ tl)
/-- tuple(a generator expression over a list or a tuple) -/
theorem gx_tuple (B : Below A₀ base outer h₀) (T : Top pr loose mean mg mb h₀) (F : Fr h₀ L s.heap m) (N : News h₀ L s.heap (own ++ news)) (hf : env.frame = some L) (hk : env.scope.kind = .function) (hge : env.globals = mainGlobals)
    (hcode : env.code = .ref c) (C : CodeHd h₀ c P) (hP : (P, tabObj ps) ∈ news) (hps : ps = #[] ∨ ∃ c', ps = #[rawInt pos.line, rawInt pos.col, .ref c']) (hown : ∀ q ∈ own, Nf q.2)
    (hco : scope.isCoroutine = false) (hclos : closureFor scope env = pure cl) (hcell : ∀ y ∈ scope.names, y.2 ≠ .cell) (h0 : scope.names.lookup (".0" : Str) = some NameKind.local) (hkind : scope.kind = .function)
    (hx : scope.names.lookup x = some .local) (hs : ∀ y, genFold iter env y = pure y)
    (hbr : AllBare s.gens) (hroom : dp < recursionLimit) (hb : (b, ob) ∈ own ++ news) (hob : Sq ob vs) (hz : vs.length ≤ 16384)
    (hit : ∀ (Q' E' : Value → Shared → Prop), Q' (.ref b) s → wpAny (model prog w) (ar dp un gd env outer) (eval iter env) Q' E' s)
    (jlen : ∀ i ys tl, J i ys tl → ys.length = i) (j0 : J 0 [] [])
    (step : ∀ C code gb ps', Below (ar dp un gd env outer) base (env :: outer) gb → h₀.StaysIn gb → (∀ q ∈ own ++ news, q.1 < C) → (ps ≠ #[] → ps' = ps) → (∃ c', ps' = #[rawInt pos.line, rawInt pos.col, .ref c']) →
      ∀ i v ys tl (mC : Str → Option Value) h tk (s : Shared) led (E' : Value → Shared → Prop), vs[i]? = some v → J i ys tl → Fr gb C h (fun y => if y = x then some v else mC y) → News gb C h led → (∀ p ∈ tl ++ (own ++ swp news P ps'), p ∈ led) →
      wpAny (model prog w) (ar (dp + 1) (un + 7) gd (genEnv scope cl C code builtinsNs env) (env :: outer)) (eval elt (genEnv scope cl C code builtinsNs env))
        (fun y s₄ => GEnd gb C s led tl (J (i + 1) (ys ++ [y])) s₄) E' { s with heap := h, toks := tk })
    {Q₀ : Value → Shared → Prop} (hQ : ∀ v s', wpAny (model prog w) (ar dp un gd env outer) (call (.type "tuple") [v]) Q E s' → Q₀ v s')
    (ret : ∀ T ys tl ps' s', Sm s s' → Fr h₀ L s'.heap m → News h₀ L s'.heap ((T, tup ys) :: (tl ++ (own ++ swp news P ps'))) → (∀ p ∈ tl ++ (own ++ swp news P ps'), p.1 < T) → (∀ p ∈ tl, ∀ q ∈ own ++ swp news P ps', q.1 < p.1) →
      (ps ≠ #[] → ps' = ps) → (∃ c', ps' = #[rawInt pos.line, rawInt pos.col, .ref c']) → J vs.length ys tl → Q (.ref T) s')  :
    wpAny (model prog w) (ar dp un gd env outer) (eval (.GeneratorExp elt [⟨.Name x px, iter, [], 0⟩] scope pos) env) Q₀ E₁ s := by
  refine wpAny_GeneratorExp_make hco hclos hcell h0 hkind hroom (hit _ _ ?_) hs
  refine iter_sq F N hb hob fun I itob h₁ St F₁ N₁ hI hI1 hst₁ W hSt hgo => ?_
  refine ⟨T.nolimit.keeps F₁.keep, gcode F₁ N₁ hcode C (List.mem_cons_of_mem _ (List.mem_append_right _ hP)) hps fun code ps' h₂ tk₂ hps1 hps2 hk₂ hsz₂ F₂ N₂ => ?_⟩
  have hIP : I ≠ P := fun e => Nat.lt_irrefl _ (e ▸ hI _ (List.mem_append_right _ hP) : P < P)
  have hbP : b ≠ P := fun e => by
    have := (N _ hb).1
    rw [e, (N _ (List.mem_append_right _ hP)).1] at this
    have := Option.some.inj this
    rcases hob with ⟨_, rfl⟩ | rfl <;> cases this
  have hsw : swp ((I, itob) :: (own ++ news)) P ps' = (I, itob) :: (own ++ swp news P ps') := by
    show (if I = P then (P, tabObj ps') else (I, itob)) :: swp (own ++ news) P ps' = _
    rw [if_neg hIP, swp_app, swp_own N hP hown]
  rw [hsw] at N₂
  have hlt₂ : ∀ q ∈ own ++ swp news P ps', q.1 < I := fun q hq => by
    rcases List.mem_append.mp hq with hq | hq
    · exact hI _ (List.mem_append_left _ hq)
    · exact swp_lt (fun q hq => hI q (List.mem_append_right _ hq)) q hq
  have hgs := T.g.keeps F₂.keep
  obtain ⟨bm, ob', b1, b2, b3, b4, b5, b6⟩ := T.bmain
  rw [hge]
  refine wpAny_builtinsFor hgs b1 b2 (F₂.keep _ _ b3) b4 b5 b6 ?_
  intro h₃ hn₃ hs₃
  dsimp only at hn₃ hs₃ ⊢
  obtain ⟨FG, BG, st, lv⟩ := groundX (R := fun r s' => match r with | .ok (.ret v) => Q v s' | _ => False) (s := { s with heap := h₂, toks := tk₂ }) B F₂ N₂ rfl hf hk (A := ar dp un gd env outer)
  dsimp only at FG BG st lv
  generalize hgb : hideAll h₂ (((I, itob) :: (own ++ swp news P ps')).map (·.1)) = gb at FG BG st lv
  have gbs : gb.objs.size = h₂.objs.size := by rw [← hgb, hideAll_size]
  have gbk : ∀ b o, gb.get? b = some o → h₂.get? b = some o := fun b o e => of_hideAll _ (hgb ▸ e)
  have gbn : ∀ q ∈ (I, itob) :: (own ++ swp news P ps'), gb.get? q.1 = none := fun q hq => hgb ▸ hideAll_none _ (List.mem_map.mpr ⟨q, hq, rfl⟩)
  generalize hC : h₂.objs.size = C at hn₃ hs₃
  have h3s : h₃.objs.size = C + 1 := by rw [hs₃.1, Heap.size_push, hC]
  have k₃ : ∀ b o, h₂.get? b = some o → h₃.get? b = some o := fun b o e => hs₃.extBut b o (hC ▸ Nat.ne_of_lt (Heap.lt_size e)) (Heap.get?_push_of_some _ e)
  have hIC : I < C := hC ▸ Heap.lt_size (N₂ _ List.mem_cons_self).1
  have hbI : b < I := hI _ hb
  generalize hog : ({ cls := .type "generator", data := .fields #[.int (Shared.gens { heap := h₂, gens := s.gens, drawn := s.drawn, toks := tk₂, os := s.os }).size 0, .str "<genexpr>" (tk₂ + 1), .str (env.qual ++ "<genexpr>") (tk₂ + 1 + 1)] } : Obj) = og
  have hogf : og.isFreed = false := by rw [← hog]; rfl
  have stC : ∀ q ∈ own ++ swp news P ps', q.1 < C := fun q hq => Nat.lt_trans (hlt₂ q hq) hIC
  have fpC : ∀ q ∈ [I, b], @LT.lt Nat _ q C := fun q hq => by
    rcases List.mem_cons.mp hq with rfl | hq
    · exact hIC
    · rw [List.mem_singleton.mp hq]; exact Nat.lt_trans hbI hIC
  have gx : GenB prog w dp un gd env outer elt x scope cl code builtinsNs I C (C + 1) (C + 1 + 1) s.gens.size gb og [I, b] [I] vs.length (fun i v => vs[i]? = some v) St (own ++ swp news P ps') J := {
    W := W
    hx := hx
    hk := hkind
    hco := hco
    fpC := fpC
    hwr := fun q hq => by rw [List.mem_singleton.mp hq]; exact gbn _ List.mem_cons_self
    nw := fun p hp hw => by rw [List.mem_singleton] at hw; exact Nat.lt_irrefl _ (hw ▸ hlt₂ p hp : I < I)
    nC := stC
    aC := Nat.lt_succ_self _
    aS := Nat.lt_succ_self _
    isg := by rw [← hog]; exact ⟨_, _, rfl, rfl, rfl⟩
    nolim := T.nolimit.keeps st
    jlen := jlen
    step := fun i v ys tl mC h tk s led E' _ hv hJ F N hl => step C code gb ps' BG st (fun q hq => Nat.lt_trans (hI q hq) hIC) hps1 hps2 i v ys tl mC h tk s led E' hv hJ F N hl }
  have D := gen_feed gx hroom s
  rw [h3s]
  have hs5 : (h₃.push og).objs.size = C + 1 + 1 := by rw [Heap.size_push, h3s]
  have hGB : ∀ h : Heap, (∀ b o, b ≠ C + 1 + 1 → (h₃.push og).get? b = some o → h.get? b = some o) → GBs C (C + 1) (C + 1 + 1) gb og (own ++ swp news P ps') [] h := fun h hk => by
    have up : ∀ b o, b < C + 1 + 1 → (h₃.push og).get? b = some o → h.get? b = some o := fun b o hb e => hk b o (Nat.ne_of_lt hb) e
    have up₂ : ∀ b o, h₂.get? b = some o → h.get? b = some o := fun b o e => up b o (Nat.lt_succ_of_lt (Nat.lt_succ_of_lt (hC ▸ Heap.lt_size e))) (Heap.get?_push_of_some _ (k₃ b o e))
    refine ⟨_, ⟨hn₃.at' fun o e => up C o (Nat.lt_succ_of_lt (Nat.lt_succ_self _)) (Heap.get?_push_of_some _ e), fun b o e => up₂ b o (gbk b o e), Nat.le_of_eq (gbs.trans hC)⟩, fun p hp => ?_, fun p hp => nomatch hp⟩
    rcases List.mem_cons.mp hp with rfl | hp
    · exact ⟨up _ _ (Nat.lt_succ_self _) (h3s ▸ Heap.get?_push_size _ hogf), Nat.ne_of_gt (Nat.lt_succ_self _), Heap.get?_none_of_le (by rw [gbs, hC]; exact Nat.le_succ _)⟩
    · exact ⟨up₂ _ _ (N₂ p (List.mem_cons_of_mem _ hp)).1, Nat.ne_of_lt (stC p hp), gbn p (List.mem_cons_of_mem _ hp)⟩
  have hSt0 : ∀ h : Heap, (∀ b o, b ≠ C + 1 + 1 → (h₃.push og).get? b = some o → h.get? b = some o) → St 0 h := fun h hk => (W (ar dp un gd env outer) rfl).frame 0 h₁ h hst₁ fun q hq o e => by
    have hqC : q < C := fpC q hq
    have hqP : q ≠ P := by
      rcases List.mem_cons.mp hq with rfl | hq
      · exact hIP
      · rw [List.mem_singleton.mp hq]; exact hbP
    exact hk q o (Nat.ne_of_lt (Nat.lt_succ_of_lt (Nat.lt_succ_of_lt hqC))) (Heap.get?_push_of_some _ (k₃ q o (hk₂ q o hqP e)))
  have hT : ∀ (s' : Shared) tl, GBs C (C + 1) (C + 1 + 1) gb og (own ++ swp news P ps') tl s'.heap → s'.TypeIs (.ref (C + 1)) "generator" := fun s' tl ⟨_, _, N, _⟩ => ⟨og, (N _ List.mem_cons_self).1, by rw [← hog]⟩
  refine hQ _ _ (feed_tupleS hs5 D (Nat.le_trans hz (by decide)) ?_ (hT _ [] (hGB _ fun _ _ _ e => e)) (Nat.ne_of_gt (Nat.lt_succ_self _)) ?_ ?_ ?_)
  · exact fun s' ⟨tl, gs, _, _, _, _, hB, _⟩ => hT s' tl hB
  · have hk5 : ∀ b o, b ≠ C + 1 + 1 → (h₃.push og).get? b = some o → ((h₃.push og).push { cls := .type "list", data := .seq ([] : List Value).toArray }).get? b = some o := fun b o _ e => Heap.get?_push_of_some _ e
    refine ⟨[], _, Array.getElem?_push_size, AllBare.push hbr rfl, rfl, rfl, hGB _ hk5, hSt0 _ hk5, j0, fun s'' ⟨c', hS''⟩ hB'' hst'' => ⟨rfl, ?_⟩⟩
    have loop := gen_seg (iter := iter) (px := px) (pos := pos) gx vs.length 0 [] c' [] s'' s'' (Nat.sub_zero _) (Nat.zero_le _) hS'' hS'' hB'' hst'' j0 ⟨rfl, rfl, rfl⟩
    show Seg _ _ _ _ _ s'' _ ((compStart (.GeneratorExp elt [⟨.Name x px, iter, [], 0⟩] scope pos) 0 (.ref I) .none (genEnv scope cl C code builtinsNs env)).onRaise (leaving _)) [] s''
    unfold compStart
    rw [Sem.onRaise_eq_wrap]
    show Seg _ _ _ _ _ s'' _ ((ask >>= _).wrap _ _ _ _) [] s''
    refine seg_bind_wrap (wpAny_askSetting ?_)
    split
    · exact seg_again rfl loop
    · first
        | exact seg_bind_wrap (wpAny_rule (seg_bind_wrap (wpAny_standAt (seg_bind_wrap ((W _ rfl).self 0 s'' _ _ hst'' (seg_again rfl loop))))))
        | (refine seg_bind_wrap (wpAny_rule ?_); show Seg _ _ _ _ _ s'' _ ((standAt iter.pos >>= _).wrap _ _ _ _) [] s''; exact seg_bind_wrap (wpAny_standAt (seg_bind_wrap ((W _ rfl).self 0 s'' _ _ hst'' (seg_again rfl loop)))))
  · exact fun ys s' ⟨tl, _, _, _, _, hJ⟩ => jlen _ _ _ hJ
  · intro s' ys hfin hS
    obtain ⟨tl, q1, q2, q3, ⟨mC, F', N', ho⟩, hJ⟩ := hfin
    have tup0 : (tup ys).isFreed = false := rfl
    have hlt' : ∀ p ∈ tl ++ (own ++ swp news P ps'), p.1 < s'.heap.objs.size := fun p hp => Heap.lt_size (N' p (List.mem_cons_of_mem _ hp)).1
    refine lv (.ref s'.heap.objs.size) _ ⟨C, mC, (s'.heap.objs.size, tup ys) :: (tl ++ (own ++ swp news P ps')), F'.push _, News.push F' (fun p hp => N' p (List.mem_cons_of_mem _ hp)) _ rfl, fun F₆ N₆ => ?_⟩
    refine ret _ ys tl ps' _ ⟨q2, q3, fun _ => q1⟩ F₆ N₆ hlt' (fun p hp q hq => ?_) hps1 hps2 hJ
    exact Nat.lt_trans (stC q hq) (Nat.lt_trans (Nat.lt_succ_of_lt (Nat.lt_succ_self _)) (ho p hp))
end
/-- a goal that the walk leaves alone -/
def HoldOn (P : Prop) : Prop := P
theorem hold_on {P : Prop} (h : HoldOn P) : P := h
def All2 (R : Value → Int → Prop) (vs : List Value) (cs : List Int) : Prop := vs.length = cs.length ∧ ∀ (i : Nat) v c, vs[i]? = some v → cs[i]? = some c → R v c
abbrev InL (led : List (Addr × Obj)) (x : Addr) (o : Obj) : Prop := (x, o) ∈ led
def FQv (w : World) (p : Int) (led : List (Addr × Obj)) (v : Value) (c : Int) : Prop := ∃ x d t1 t2 tp tn, v = .ref x ∧ InL led x (instObj 183 d) ∧ InL led d (fqD w p c t1 t2 tp tn)
def Cv (w : World) (p : Int) (led : List (Addr × Obj)) (v : Value) (c : Int) : Prop := (∃ a t, v = .int a t ∧ c = a % p) ∨ FQv w p led v c
def Ones (ms : List Value) (n : Nat) : Prop := ms.length = n ∧ ∀ v ∈ ms, ∃ t, v = .int 1 t
theorem All2.nil {R : Value → Int → Prop} : All2 R [] [] := ⟨rfl, fun i v c h => by simp at h⟩
theorem All2.snoc {R : Value → Int → Prop} {vs : List Value} {cs : List Int} {v : Value} {c : Int} (h : All2 R vs cs) (hv : R v c) : All2 R (vs ++ [v]) (cs ++ [c]) := by
  refine ⟨by simp [h.1], fun i x y hx hy => ?_⟩
  rw [List.getElem?_append] at hx hy
  by_cases e : i < vs.length
  · rw [if_pos e] at hx; rw [if_pos (h.1 ▸ e)] at hy; exact h.2 i x y hx hy
  · rw [if_neg e] at hx; rw [if_neg (h.1 ▸ e)] at hy
    have := h.1
    rw [← this] at hy
    cases hi : i - vs.length with
    | zero => rw [hi] at hx hy; cases hx; cases hy; exact hv
    | succ k => rw [hi] at hx; simp at hx
theorem All2.mono {R R' : Value → Int → Prop} {vs : List Value} {cs : List Int} (h : All2 R vs cs) (k : ∀ v c, R v c → R' v c) : All2 R' vs cs := ⟨h.1, fun i v c hv hc => k v c (h.2 i v c hv hc)⟩
theorem All2.get {R : Value → Int → Prop} {vs : List Value} {cs : List Int} (h : All2 R vs cs) {i : Nat} {v : Value} (hv : vs[i]? = some v) : ∃ c, cs[i]? = some c ∧ R v c := by
  have hi : i < vs.length := by
    cases Nat.lt_or_ge i vs.length with
    | inl h => exact h
    | inr h => rw [List.getElem?_eq_none h] at hv; cases hv
  rw [h.1] at hi
  exact ⟨_, List.getElem?_eq_getElem hi, h.2 i v _ hv (List.getElem?_eq_getElem hi)⟩
theorem All2.got {R : Value → Int → Prop} {vs : List Value} {cs : List Int} (h : All2 R vs cs) {i : Nat} {c : Int} (hv : cs[i]? = some c) : ∃ v, vs[i]? = some v ∧ R v c := by
  have hi : i < cs.length := by
    cases Nat.lt_or_ge i cs.length with
    | inl h => exact h
    | inr h => rw [List.getElem?_eq_none h] at hv; cases hv
  rw [← h.1] at hi
  exact ⟨_, List.getElem?_eq_getElem hi, h.2 i _ c (List.getElem?_eq_getElem hi) hv⟩
theorem take_snoc {cs : List Int} {i : Nat} {c : Int} (h : cs[i]? = some c) : cs.take (i + 1) = cs.take i ++ [c] := by rw [List.take_add_one, h]; rfl
theorem FQv.mono {w : World} {p : Int} {led led' : List (Addr × Obj)} (k : ∀ q ∈ led, Nf q.2 → q ∈ led') {v : Value} {c : Int} (h : FQv w p led v c) : FQv w p led' v c :=
  let ⟨x, d, t1, t2, tp, tn, e, h1, h2⟩ := h; ⟨x, d, t1, t2, tp, tn, e, k _ h1 (fun _ e => nomatch e), k _ h2 (fun _ e => nomatch e)⟩
theorem Cv.mono {w : World} {p : Int} {led led' : List (Addr × Obj)} (k : ∀ q ∈ led, Nf q.2 → q ∈ led') {v : Value} {c : Int} (h : Cv w p led v c) : Cv w p led' v c := h.imp id (·.mono k)
theorem ne_self {prog : Program} {w : World} {A : Around} {E : Value → Shared → Prop} {s : Shared} {a : Int} {t u : Tok} {Q : Value → Shared → Prop} (h : Q (.bool false) s) : wpAny (model prog w) A (compareOp .NotEq (.int a t) (.int a u)) Q E s :=
  ne_int (by rw [bne_self_eq_false]; exact h)
section
variable {M : Model} {A : Around} {E : Value → Shared → Prop} {s : Shared} {h₀ : Heap} {C bi c : Addr} {m : Str → Option Value} {cs : Scope} {code : Value} {cl : List (Str × Addr)} {env : Env} {x : Str} {v : Value} {pos : Pos} {Q : Value → Shared → Prop} {news : List (Addr × Obj)} {o : Obj}
theorem gn_L (F : Fr h₀ C s.heap m) (hv : m x = some v) (h : Q v s) (hk : cs.kind = .function := by rfl) (hx : (genEnv cs cl C code bi env).kindOf x = some .local := by rfl) (hd : (x == ("__debug__" : Str)) = false := by decide) :
    wpAny M A (eval (.Name x pos) (genEnv cs cl C code bi env)) Q E s := wpAny_Name (wpAny_loadName_local hk hx F.ns hv h) hd
theorem gn_F (N : News h₀ C s.heap news) (hc : cl.lookup x = some c) (hm : (c, o) ∈ news) (hd : o.data = .cell (some v)) (h : Q v s)
    (hk : cs.kind = .function := by rfl) (hx : (genEnv cs cl C code bi env).kindOf x = some .free := by rfl) (hb : (x == ("__debug__" : Str)) = false := by decide) (hn : (x == ("__classdict__" : Str)) = false := by decide) :
    wpAny M A (eval (.Name x pos) (genEnv cs cl C code bi env)) Q E s := wpAny_Name (wpAny_loadName_free hk hx hc ⟨o, N.get hm, hd⟩ h hn) hb
end
theorem eqN {a b : Nat} (h : a = b) : a = b := h
theorem Sm.bare {s s' : Shared} (h : Sm s s') (hb : AllBare s.gens) : AllBare s'.gens := h.2.2 hb
theorem Sq.lo (vs : List Value) (k : Nat) : Sq (PySem.W.listOf vs.toArray k) vs := .inl ⟨_, rfl⟩
end
section
local macro_rules | `(tactic| k_room) => `(tactic| ((try simp only [depth_under_make, depth_under_kw, depth_in1, depth_deeper, depth_caller]); (try dsimp only [ar]); omega))
local macro_rules | `(tactic| k_units) => `(tactic| ((have hcL9 := cLine_is); (try simp only [units_in1, units_deeper, Around.mark_units, units_caller]); (try dsimp only [ar]); omega))
local macro_rules | `(tactic| k_enter) => `(tactic| first
  | (refine' code_def ?k1 ?k2 ?k3 ?k4 ?k5 ?kA ?kF ?kK ?k6 ?k7 ?k8 ?k9 ?kB ?_ ?c2 ?c3 ?c4 ?c5; (case kA => exact rfl); (case kF => first | exact rfl | assumption); (case kK => first | exact rfl | assumption); (case k1 => k_asm); (case k2 => k_asm); (case k3 => k_asm); (case k4 => k_asm); (case k5 => k_asm); (case k6 => k_is); (case k7 => k_is); (case k8 => k_room); (case k9 => exact BindsTo.of_eq rfl); (case c5 => decide); (case kB => exact locs rfl); (case c2 => exact rfl); (case c3 => exact rfl); (case c4 => exact rfl); k_whole; intro g' L' h' FG' F' N' B' X' T'; (try dsimp only); (try k_lift B'); (try k_fold))
  | (refine' code_defC ?k1 ?k2 ?k3 ?k4 ?k5 ?kA ?kF ?kK ?k6 ?k7 ?k8 ?k9 ?kB ?kD ?_ ?c2 ?c3 ?c4; (case kA => exact rfl); (case kF => first | exact rfl | assumption); (case kK => first | exact rfl | assumption); (case k1 => k_asm); (case k2 => k_asm); (case k3 => k_asm); (case k4 => k_asm); (case k5 => k_asm); (case k6 => k_is); (case k7 => k_is); (case k8 => k_room); (case k9 => exact BindsTo.of_eq rfl); (case kB => exact rfl); (case kD => decide +kernel); (case c2 => exact rfl); (case c3 => exact rfl); (case c4 => exact rfl); k_whole; intro g' L' h' tk' cells' FG' F' N' Y' B' X' T' l1; (try k_lt l1); k_cells Y'; (try simp only [List.cons_append, List.nil_append] at N'); (try dsimp only); (try k_lift B'); (try k_fold)))
local macro_rules | `(tactic| k_mem) => `(tactic| first | exact List.Mem.head _ | (refine' List.Mem.tail _ ?_; k_mem) | assumption)
local macro_rules | `(tactic| mul_fits) => `(tactic| with_reducible assumption)
local macro_rules | `(tactic| walk_at "call ref") => `(tactic| (k_here; (with_reducible show wpAny _ _ (call (Value.ref 183) _) _ _ _); k_dflt (first
  | (refine' fq_new ?C ?F ?N ?d ?p ?_; (case C => exact Cx.mk (by k_asm) (by k_asm) (by k_asm) (by first | exact rfl | assumption) (by first | exact rfl | assumption)); (case F => k_asm); (case N => k_asm); (case d => k_room); (case p => assumption); k_whole)
  | (refine' fq_copy ?C ?F ?N ?x ?dx ?d ?p ?_; (case C => exact Cx.mk (by k_asm) (by k_asm) (by k_asm) (by first | exact rfl | assumption) (by first | exact rfl | assumption)); (case F => k_asm); (case N => k_asm); (case x => k_mem); (case dx => k_mem); (case d => k_room); (case p => assumption); k_whole)); intro r' d' t1' t2' tp' tn' h' tk' F' N' l1' l2'; (try k_sweep)))
local macro_rules | `(tactic| walk_at "call ref") => `(tactic| (k_here; first
  | ((with_reducible show wpAny _ _ (call (Value.ref 61) _) _ _ _); k_dflt (refine' fq_add ?zC ?zF ?zN ?zx ?zdx ?zy ?zdy ?zd ?zp ?_; (case zC => exact Cx.mk (by k_asm) (by k_asm) (by k_asm) (by first | exact rfl | assumption) (by first | exact rfl | assumption)); (case zF => k_asm); (case zN => k_asm); (case zx => k_mem); (case zdx => k_mem); (case zy => k_mem); (case zdy => k_mem); (case zd => k_room); (case zp => assumption); k_whole); intro r' d' t1' t2' tp' tn' h' tk' F' N' l1' l2'; (have lx' := allLt_of l1'); (try simp only [AllLt] at lx'); (have ly' := ltA l2'); (try dsimp only [PySem.W.CmpBack]); (try k_sweep))
  | ((with_reducible show wpAny _ _ (call (Value.ref 68) _) _ _ _); k_dflt (refine' fq_mul ?zC ?zF ?zN ?zx ?zdx ?zy ?zdy ?zd ?zp ?za ?zb ?_; (case zC => exact Cx.mk (by k_asm) (by k_asm) (by k_asm) (by first | exact rfl | assumption) (by first | exact rfl | assumption)); (case zF => k_asm); (case zN => k_asm); (case zx => k_mem); (case zdx => k_mem); (case zy => k_mem); (case zdy => k_mem); (case zd => k_room); (case zp => assumption); (case za => assumption); (case zb => assumption); k_whole); intro r' d' t1' t2' tp' tn' h' tk' F' N' l1' l2'; (have lx' := allLt_of l1'); (try simp only [AllLt] at lx'); (have ly' := ltA l2'); (try dsimp only [PySem.W.CmpBack]); (try k_sweep))
  | ((with_reducible show wpAny _ _ (call (Value.ref 96) _) _ _ _); k_dflt (refine' fq_sub ?zC ?zF ?zN ?zx ?zdx ?zy ?zdy ?zd ?zp ?_; (case zC => exact Cx.mk (by k_asm) (by k_asm) (by k_asm) (by first | exact rfl | assumption) (by first | exact rfl | assumption)); (case zF => k_asm); (case zN => k_asm); (case zx => k_mem); (case zdx => k_mem); (case zy => k_mem); (case zdy => k_mem); (case zd => k_room); (case zp => assumption); k_whole); intro r' d' t1' t2' tp' tn' h' tk' F' N' l1' l2'; (have lx' := allLt_of l1'); (try simp only [AllLt] at lx'); (have ly' := ltA l2'); (try dsimp only [PySem.W.CmpBack]); (try k_sweep))
  | ((with_reducible show wpAny _ _ (call (Value.ref 131) _) _ _ _); k_dflt (refine' fq_ne ?zC ?zF ?zN ?zx ?zdx ?zy ?zdy ?zd ?zu ?_; (case zC => exact Cx.mk (by k_asm) (by k_asm) (by k_asm) (by first | exact rfl | assumption) (by first | exact rfl | assumption)); (case zF => k_asm); (case zN => k_asm); (case zx => k_mem); (case zdx => k_mem); (case zy => k_mem); (case zdy => k_mem); (case zd => k_room); (case zu => k_units); k_whole); intro h' tk' F' N'; (try dsimp only [PySem.W.CmpBack]); (try k_sweep))))
local macro_rules | `(tactic| walk_at "eval GeneratorExp") => `(tactic| (k_here; refine hold_on ?_))
local macro_rules | `(tactic| walk_at "eval ListComp") => `(tactic| (k_here; refine hold_on ?_))
local macro_rules | `(tactic| walk_at "exec For") => `(tactic| (k_here; refine hold_on ?_))
local macro_rules | `(tactic| walk_at "exec While") => `(tactic| (k_here; refine hold_on ?_))
local macro_rules | `(tactic| walk_at "call builtin:len") => `(tactic| (k_here; refine len_sq (by assumption) (by k_mem) (by first | assumption | exact Sq.tup _ | exact Sq.lo _ _) (by assumption) (by omega) ?_; intro t' tk'))
local macro_rules | `(tactic| walk_at "compareOp NotEq int int") => `(tactic| with_reducible refine ne_self ?_)
local macro_rules | `(tactic| walk_at "eval Name") => `(tactic| (k_here; (with_reducible show wpAny _ _ (eval (Expr.Name _ _) (genEnv _ _ _ _ _ _)) _ _ _); first
  | (refine' gn_L ?F ?hv ?_ ?hk ?hx ?hd; (case F => assumption); (case hx => with_unfolding_all rfl); (case hv => first | exact if_pos rfl | assumption); (case hk => rfl); (case hd => decide); skip)
  | (refine' gn_F ?N ?hc ?hm ?hd ?_ ?hk ?hx ?hb ?hn; (case N => assumption); (case hx => with_unfolding_all rfl); (case hc => with_unfolding_all rfl); (case hm => k_mem); (case hd => with_reducible assumption); (case hk => rfl); (case hb => decide); (case hn => decide))))
local macro_rules | `(tactic| walk_at "call type:tuple") => `(tactic| (k_here; refine' tuple_sq ?F ?N ?hb ?hq ?hz ?_; (case F => assumption); (case N => assumption); (case hb => k_mem); (case hq => first | assumption | exact Sq.tup _ | exact Sq.lo _ _); (case hz => omega); intro T' h' F' N' l'; (replace l' := Or.imp allLt_of eqN l'); (try simp only [AllLt] at l')))
local macro_rules | `(tactic| k_all) => `(tactic| (with_reducible assumption))
local macro_rules | `(tactic| walk_at "call type:zip") => `(tactic| (k_here; refine hold_on ?_))
local macro_rules | `(tactic| walk_at "exec For Name Attribute cons nil") => `(tactic| (k_here; refine hold_on ?_))
local macro_rules | `(tactic| walk_at "exec For Name Call") => `(tactic| (k_here; refine hold_on ?_))
local macro_rules | `(tactic| walk_at "exec For Name Call cons nil") => `(tactic| (k_here; refine hold_on ?_))
local macro_rules | `(tactic| walk_at "exec For Name List cons nil") => `(tactic| (k_here; refine hold_on ?_))
local macro_rules | `(tactic| walk_at "exec For Name Name") => `(tactic| (k_here; refine hold_on ?_))
local macro_rules | `(tactic| walk_at "exec For Name Name cons nil") => `(tactic| (k_here; refine hold_on ?_))
local macro_rules | `(tactic| walk_at "exec For Name Subscript cons nil") => `(tactic| (k_here; refine hold_on ?_))
local macro_rules | `(tactic| walk_at "exec For Tuple Call") => `(tactic| (k_here; refine hold_on ?_))
local macro_rules | `(tactic| walk_at "exec For Tuple Call cons nil") => `(tactic| (k_here; refine hold_on ?_))
local macro_rules | `(tactic| walk_at "exec For Tuple List cons nil") => `(tactic| (k_here; refine hold_on ?_))
local macro_rules | `(tactic| walk_at "exec For Tuple Name") => `(tactic| (k_here; refine hold_on ?_))
local macro_rules | `(tactic| walk_at "exec For Tuple Name cons nil") => `(tactic| (k_here; refine hold_on ?_))
local macro_rules | `(tactic| walk_at "exec For Tuple Attribute cons nil") => `(tactic| (k_here; refine hold_on ?_))
local macro_rules | `(tactic| walk_at "exec Assign cons ListComp") => `(tactic| (k_here; refine hold_on ?_))
local macro_rules | `(tactic| walk_at "exec While BoolOp") => `(tactic| (k_here; refine hold_on ?_))
local macro_rules | `(tactic| walk_at "exec While Compare") => `(tactic| (k_here; refine hold_on ?_))
theorem fresh9 : True := by
  w_top off
  trivial
abbrev fqpD (w : World) (p : Int) (n : Nat) (t mt : Addr) (t1 t2 t3 t4 t5 t6 : Tok) : Obj := dictOf [⟨PyData.keyHash w.params (Str.ofString "field_modulus"), .str (Str.ofString "field_modulus") t1, .int p t2⟩, ⟨PyData.keyHash w.params (Str.ofString "coeffs"), .str (Str.ofString "coeffs") t3, .ref t⟩,
  ⟨PyData.keyHash w.params (Str.ofString "modulus_coeffs"), .str (Str.ofString "modulus_coeffs") t4, .ref mt⟩, ⟨PyData.keyHash w.params (Str.ofString "degree"), .str (Str.ofString "degree") t5, .int n t6⟩] 4
/-- a plain FQP in the ledger -/
def PV (w : World) (p : Int) (n : Nat) (led : List (Addr × Obj)) (x : Addr) (cs : List Int) : Prop := ∃ d t mt vs ms t1 t2 t3 t4 t5 t6, InL led x (instObj 297 d) ∧ InL led d (fqpD w p n t mt t1 t2 t3 t4 t5 t6) ∧ InL led t (tup vs) ∧ InL led mt (tup ms) ∧
  All2 (FQv w p led) vs cs ∧ Ones ms n ∧ vs.length = n
theorem PV.mono {w : World} {p : Int} {n : Nat} {led led' : List (Addr × Obj)} (k : ∀ q ∈ led, Nf q.2 → q ∈ led') {x : Addr} {cs : List Int} (h : PV w p n led x cs) : PV w p n led' x cs :=
  let ⟨d, t, mt, vs, ms, t1, t2, t3, t4, t5, t6, h1, h2, h3, h4, h5, h6⟩ := h
  ⟨d, t, mt, vs, ms, t1, t2, t3, t4, t5, t6, k _ h1 (fun _ e => nomatch e), k _ h2 (fun _ e => nomatch e), k _ h3 (fun _ e => nomatch e), k _ h4 (fun _ e => nomatch e), h5.mono fun _ _ h => h.mono k, h6⟩
theorem pv_fin {w : World} {p : Int} {n : Nat} {h₀ h : Heap} {L T' T2 x dx d : Addr} {c : Addr × Obj} {t1 t2 t3 t4 t5 t6 : Tok} {tl sw : List (Addr × Obj)} {ys ms : List Value} {od : Obj} {cs : List Int} {V : Prop}
    (kN : News h₀ L h ((T', tup ms) :: (T2, tup ys) :: c :: (x, instObj 297 dx) :: (dx, fqpD w p n T2 T' t1 t2 t3 t4 t5 t6) :: (tl ++ sw))) (lT : (@LT.lt Nat _ T2 T' ∧ @LT.lt Nat _ c.1 T' ∧ @LT.lt Nat _ x T' ∧ @LT.lt Nat _ dx T' ∧ V) ∨ T' = d)
    (hd : (d, od) ∈ sw) (o3 : @LT.lt Nat _ dx T2) (l2 : @LT.lt Nat _ dx x) (tldx : ∀ q ∈ tl, @LT.lt Nat _ dx q.1) (hall : All2 (FQv w p tl) ys cs) (hms : Ones ms n) (hyl : ys.length = n) :
    ∃ ex, News h₀ L h (ex ++ sw) ∧ (∀ q ∈ ex, @LE.le Nat _ dx q.1) ∧ PV w p n (ex ++ sw) x cs := by
  have fq : ∀ led : List (Addr × Obj), (∀ q ∈ tl, q ∈ led) → All2 (FQv w p led) ys cs := fun led hl => hall.mono fun _ _ h => h.mono fun q hq _ => hl q hq
  have up : ∀ q ∈ tl, q ∈ tl ++ sw := fun q hq => List.mem_append_left _ hq
  rcases lT with lT | rfl
  · refine ⟨(T', tup ms) :: (T2, tup ys) :: (x, instObj 297 dx) :: (dx, fqpD w p n T2 T' t1 t2 t3 t4 t5 t6) :: tl, ?_, ?_, ?_⟩
    · intro q hq
      refine kN q ?_
      rcases List.mem_cons.mp hq with rfl | hq
      · exact List.mem_cons_self
      · rcases List.mem_cons.mp hq with rfl | hq
        · exact List.mem_cons_of_mem _ List.mem_cons_self
        · exact List.mem_cons_of_mem _ (List.mem_cons_of_mem _ (List.mem_cons_of_mem _ hq))
    · intro q hq
      rcases List.mem_cons.mp hq with rfl | hq
      · exact Nat.le_of_lt lT.2.2.2.1
      · rcases List.mem_cons.mp hq with rfl | hq
        · exact Nat.le_of_lt o3
        · rcases List.mem_cons.mp hq with rfl | hq
          · exact Nat.le_of_lt l2
          · rcases List.mem_cons.mp hq with rfl | hq
            · exact Nat.le_refl _
            · exact Nat.le_of_lt (tldx q hq)
    · exact ⟨dx, T2, T', ys, ms, t1, t2, t3, t4, t5, t6, List.mem_cons_of_mem _ (List.mem_cons_of_mem _ List.mem_cons_self), List.mem_cons_of_mem _ (List.mem_cons_of_mem _ (List.mem_cons_of_mem _ List.mem_cons_self)), List.mem_cons_of_mem _ List.mem_cons_self, List.mem_cons_self,
        fq _ fun q hq => List.mem_cons_of_mem _ (List.mem_cons_of_mem _ (List.mem_cons_of_mem _ (List.mem_cons_of_mem _ (up q hq)))), hms, hyl⟩
  · have hdm : (T', tup ms) ∈ sw := by
      have e1 := (kN _ List.mem_cons_self).1
      have e2 := (kN (T', od) (List.mem_cons_of_mem _ (List.mem_cons_of_mem _ (List.mem_cons_of_mem _ (List.mem_cons_of_mem _ (List.mem_cons_of_mem _ (List.mem_append_right _ hd))))))).1
      have e4 : tup ms = od := Option.some.inj (e1.symm.trans e2)
      rw [e4]; exact hd
    refine ⟨(T2, tup ys) :: (x, instObj 297 dx) :: (dx, fqpD w p n T2 T' t1 t2 t3 t4 t5 t6) :: tl, ?_, ?_, ?_⟩
    · intro q hq
      refine kN q (List.mem_cons_of_mem _ ?_)
      rcases List.mem_cons.mp hq with rfl | hq
      · exact List.mem_cons_self
      · exact List.mem_cons_of_mem _ (List.mem_cons_of_mem _ hq)
    · intro q hq
      rcases List.mem_cons.mp hq with rfl | hq
      · exact Nat.le_of_lt o3
      · rcases List.mem_cons.mp hq with rfl | hq
        · exact Nat.le_of_lt l2
        · rcases List.mem_cons.mp hq with rfl | hq
          · exact Nat.le_refl _
          · exact Nat.le_of_lt (tldx q hq)
    · exact ⟨dx, T2, T', ys, ms, t1, t2, t3, t4, t5, t6, List.mem_cons_of_mem _ List.mem_cons_self, List.mem_cons_of_mem _ (List.mem_cons_of_mem _ List.mem_cons_self), List.mem_cons_self, List.mem_cons_of_mem _ (List.mem_cons_of_mem _ (List.mem_cons_of_mem _ (List.mem_append_right _ hdm))),
        fq _ fun q hq => List.mem_cons_of_mem _ (List.mem_cons_of_mem _ (List.mem_cons_of_mem _ (up q hq))), hms, hyl⟩
section
variable {w : World} {A₀ : Around} {dp un : Nat} {gd : Option (List Code)} {env : Env} {outer : List Env} {base h₀ : Heap} {L : Addr} {m : Str → Option Value} {news : List (Addr × Obj)} {s : Shared} {pr : Program} {loose : List Str} {mean : ExcName → Option Value} {mg mb : Str → Option Value}
  {p a : Int} {Q E : Value → Shared → Prop} {b d : Addr} {ob od : Obj} {vs ms : List Value} {cs : List Int}
/-- FQP(coeffs, modulus_coeffs, p), plain -/
theorem pinit {tp : Tok} {ps : Array Value} {n : Nat} (C : Cx w A₀ env outer base h₀ L pr loose mean mg mb) (F : Fr h₀ L s.heap m) (N : News h₀ L s.heap news) (hbr : AllBare s.gens)
    (hb : (b, ob) ∈ news) (hob : Sq ob vs) (hd : (d, od) ∈ news) (hod : Sq od ms) (hvs : All2 (Cv w p news) vs cs) (hn : vs.length = n) (hms : Ones ms n) (hz : n ≤ 100) (hP : (196, tabObj ps) ∈ news)
    (hps : ps = #[] ∨ ∃ c', ps = #[rawInt 156, rawInt 28, .ref c'])
    (hdp : dp + 30 < recursionLimit) (hp : 0 < p)
    (ret : ∀ x ex ps' s', Sm s s' → Fr h₀ L s'.heap m → News h₀ L s'.heap (ex ++ swp news 196 ps') → (∀ p ∈ ex, ∀ q ∈ news, q.1 < p.1) → (ps ≠ #[] → ps' = ps) → (∃ c', ps' = #[rawInt 156, rawInt 28, .ref c']) →
      PV w p n (ex ++ swp news 196 ps') x cs → Q (.ref x) s') :
    wpAny (model PySem.Challenge.rw_bw0042_01.row.prog w) (ar dp un gd env outer) (call (.ref 297) [.ref b, .ref d, .int p tp]) Q E s := by
  obtain ⟨B, X, T, hf, hk⟩ := C
  have hn' := hms.1
  have hpn : p ≠ 0 := by omega
  have hsw : ∀ q ∈ news, Nf q.2 → ∀ ps', q ∈ swp news 196 ps' := fun q hq hn ps' => swp_mem N hP hq hn
  revert X; k_fill; intro X
  k_steps
  unfold HoldOn
  rename_i x dx h1 F1 N1 l1 l2 g1 L1 h2 tk2 FG1 B1 X1 T1 l3 oc hoc h3 F3 N3 _ _ _ _
  refine' gx_tuple (own := [(L1 + 1, oc), (x, instObj 297 dx), (dx, _)]) (P := 196) (c := 200) (vs := vs) (J := fun i ys tl => ys.length = i ∧ All2 (FQv w p tl) ys (cs.take i)) B1 T1 F3 N3 rfl rfl rfl rfl (codeHd_of_K (c := 200) (P := 196) X1 (by kernel_rfl)) hP hps ?own rfl ?clos ?cell ?z0 rfl ?hx ?hs ?bare ?room ?hb hob (by omega) ?hit (fun _ _ _ h => h.1) ?j0 ?step ?hQ ?ret
  case own => exact List.forall_mem_cons.mpr ⟨fun xs e => (nomatch hoc.symm.trans e), List.forall_mem_cons.mpr ⟨fun _ e => (nomatch e), List.forall_mem_cons.mpr ⟨fun _ e => (nomatch e), fun _ h => nomatch h⟩⟩⟩
  case clos => with_unfolding_all rfl
  case cell => decide
  case z0 => with_unfolding_all rfl
  case hx => with_unfolding_all rfl
  case hs => intro _; with_unfolding_all rfl
  case bare => exact hbr
  case room => k_room
  case hb => k_mem
  case hit => intro Q' E' hq; k_steps; exact hq
  case j0 => exact ⟨rfl, All2.nil⟩
  case hQ => intro v s' hq; k_steps; exact hq
  case step =>
    intro C code gb ps' Bg st hlt hps1 hps2 i v ys tl mC h tk sg led E' hv hJ Fg Ng hl
    have Xg := X1.keeps st
    have Tg := T1.keeps st
    obtain ⟨c, hc, hcv⟩ := hvs.get hv
    have m1 := hl (L1 + 1, oc) (List.mem_append_right _ (List.mem_append_left _ List.mem_cons_self))
    have m2 := hl (x, instObj 297 dx) (List.mem_append_right _ (List.mem_append_left _ (List.mem_cons_of_mem _ List.mem_cons_self)))
    have m3 := hl (dx, _) (List.mem_append_right _ (List.mem_append_left _ (List.mem_cons_of_mem _ (List.mem_cons_of_mem _ List.mem_cons_self))))
    have hcv' := hcv.mono (led' := led) fun q hq hn => hl q (List.mem_append_right _ (List.mem_append_right _ (hsw q hq hn ps')))
    have hoc : oc.data = .cell (some (.ref x)) := by with_unfolding_all exact hoc
    clear hcv hsw hl hP hlt l1 l2 l3 B T F1 N1 FG1 B1 T1 F3 N3 X X1 st
    have fin : ∀ r d' t1 t2 tp tn h' tk', Fr gb C h' (fun y => if y = (Str.ofString "c") then some v else mC y) → News gb C h' ((r, instObj 183 d') :: (d', fqD w p c t1 t2 tp tn) :: led) → (∀ q ∈ led, q.1 < d') → d' < r →
        GEnd gb C sg led tl (fun tl' => (ys ++ [Value.ref r]).length = i + 1 ∧ All2 (FQv w p tl') (ys ++ [Value.ref r]) (cs.take (i + 1))) { sg with heap := h', toks := tk' } := by
      intro r d' t1 t2 tp tn h' tk' F' N' o1 o2
      refine ⟨_, _, [(r, instObj 183 d'), (d', fqD w p c t1 t2 tp tn)], _, rfl, F', N', ?_, by simp [hJ.1], ?_⟩
      · exact List.forall_mem_cons.mpr ⟨fun q hq => Nat.lt_trans (o1 q hq) o2, List.forall_mem_cons.mpr ⟨o1, fun _ h => nomatch h⟩⟩
      · rw [take_snoc hc]
        exact (hJ.2.mono fun _ _ h => h.mono fun q hq _ => List.mem_append_right _ hq).snoc ⟨r, d', t1, t2, tp, tn, rfl, List.mem_cons_self, List.mem_cons_of_mem _ List.mem_cons_self⟩
    rcases hcv' with ⟨a, t, rfl, hc2⟩ | ⟨fx, fd, t1, t2, t3, t4, rfl, hfx, hfd⟩
    · k_steps
      exact fin _ _ _ _ _ _ _ _ (by assumption) (by rw [hc2, ← fm1 hp]; assumption) (by assumption) (by assumption)
    · k_steps
      exact fin _ _ _ _ _ _ _ _ (by assumption) (by assumption) (by assumption) (by assumption)
  case ret =>
    intro T2 ys tl ps' s' hSm F6 N6 hlt6 hord hps1 hps2 hJ
    have N7 : News g1 L1 s'.heap ((T2, tup ys) :: (L1 + 1, oc) :: (x, instObj 297 dx) :: (dx, _) :: (tl ++ swp news 196 ps')) := fun q hq => N6 q (by
      rcases List.mem_cons.mp hq with rfl | hq
      · exact List.mem_cons_self
      · refine List.mem_cons_of_mem _ ?_
        rcases List.mem_cons.mp hq with rfl | hq
        · exact List.mem_append_right _ (List.mem_append_left _ List.mem_cons_self)
        · rcases List.mem_cons.mp hq with rfl | hq
          · exact List.mem_append_right _ (List.mem_append_left _ (List.mem_cons_of_mem _ List.mem_cons_self))
          · rcases List.mem_cons.mp hq with rfl | hq
            · exact List.mem_append_right _ (List.mem_append_left _ (List.mem_cons_of_mem _ (List.mem_cons_of_mem _ List.mem_cons_self)))
            · exact (List.mem_append.mp hq).elim (fun h => List.mem_append_left _ h) fun h => List.mem_append_right _ (List.mem_append_right _ h))
    have hall : All2 (FQv w p tl) ys cs := by
      have := hJ.2
      rwa [List.take_of_length_le (Nat.le_of_eq hvs.1.symm)] at this
    have hyl : ys.length = n := hJ.1.trans hn
    have inO : ∀ q ∈ [(L1 + 1, oc), (x, instObj 297 dx), (dx, _)], q.1 < T2 := fun q hq => hlt6 q (List.mem_append_right _ (List.mem_append_left _ hq))
    have o1 : @LT.lt Nat _ (L1 + 1) T2 := inO _ List.mem_cons_self
    have o2 : @LT.lt Nat _ x T2 := inO _ (List.mem_cons_of_mem _ List.mem_cons_self)
    have o3 : @LT.lt Nat _ dx T2 := inO _ (List.mem_cons_of_mem _ (List.mem_cons_of_mem _ List.mem_cons_self))
    have tldx : ∀ q ∈ tl, dx < q.1 := fun q hq => hord q hq (dx, _) (List.mem_append_left _ (List.mem_cons_of_mem _ (List.mem_cons_of_mem _ List.mem_cons_self)))
    have oR : ∀ q ∈ tl ++ swp news 196 ps', q.1 ≠ dx := fun q hq => (List.mem_append.mp hq).elim (fun h => Nat.ne_of_gt (tldx q h)) fun h => Nat.ne_of_lt (swp_lt l1 q h)
    have hd7 : (d, od) ∈ tl ++ swp news 196 ps' := List.mem_append_right _ (hsw _ hd (fun xs e => by rcases hod with ⟨_, rfl⟩ | rfl <;> cases e) ps')
    have hdx : @LT.lt Nat _ d dx := l1 _ hd
    have l2' : @LT.lt Nat _ dx x := l2
    generalize hrest : tl ++ swp news 196 ps' = rest at N7 oR hd7
    clear N6 inO hlt6 N3 F3 F1 N1
    obtain ⟨h6, g6, d6, t6, os6⟩ := s'
    k_steps
    subst hrest
    rename News _ _ _ _ => kN
    rename Fr _ _ _ _ => kF
    rename (_ ∧ _) ∨ _ => lT
    obtain ⟨ex, e1, e2, e3⟩ := pv_fin kN lT (hsw _ hd (fun xs e => by rcases hod with ⟨_, rfl⟩ | rfl <;> cases e) ps') o3 l2 tldx hall hms hyl
    exact ret x ex ps' _ hSm kF e1 (fun q hq r hr => Nat.lt_of_lt_of_le (l1 r hr) (e2 q hq)) hps1 hps2 e3
end
/-- the pool of __init__ has its code -/
def Warm (news : List (Addr × Obj)) : Prop := ∃ c', (196, tabObj #[rawInt 156, rawInt 28, .ref c']) ∈ news
theorem Warm.mono {news ex : List (Addr × Obj)} (h : Warm news) : Warm (ex ++ news) := let ⟨c', hc⟩ := h; ⟨c', List.mem_append_right _ hc⟩
/-- what is new before what was there -/
def Apd (ex news : List (Addr × Obj)) : List (Addr × Obj) := ex ++ news
abbrev PRet (w : World) (h₀ : Heap) (L : Addr) (m : Str → Option Value) (news : List (Addr × Obj)) (p : Int) (n : Nat) (cs : List Int) (s : Shared) (Q : Value → Shared → Prop) : Prop :=
  ∀ x ex s', Sm s s' → Fr h₀ L s'.heap m → News h₀ L s'.heap (Apd ex news) → (∀ p ∈ ex, ∀ q ∈ news, q.1 < p.1) → PV w p n (Apd ex news) x cs → Q (.ref x) s'
section
variable {w : World} {A₀ : Around} {dp un : Nat} {gd : Option (List Code)} {env : Env} {outer : List Env} {base h₀ : Heap} {L : Addr} {m : Str → Option Value} {news : List (Addr × Obj)} {s : Shared} {pr : Program} {loose : List Str} {mean : ExcName → Option Value} {mg mb : Str → Option Value}
  {p a : Int} {Q E : Value → Shared → Prop} {b d : Addr} {ob od : Obj} {vs ms : List Value} {cs : List Int}
theorem pinitW {tp : Tok} {n : Nat} (C : Cx w A₀ env outer base h₀ L pr loose mean mg mb) (F : Fr h₀ L s.heap m) (N : News h₀ L s.heap news) (hbr : AllBare s.gens) (hW : Warm news)
    (hb : (b, ob) ∈ news) (hob : Sq ob vs) (hd : (d, od) ∈ news) (hod : Sq od ms) (hvs : All2 (Cv w p news) vs cs) (hn : vs.length = n) (hms : Ones ms n) (hz : n ≤ 100)
    (hdp : dp + 30 < recursionLimit) (hp : 0 < p) (ret : PRet w h₀ L m news p n cs s Q) :
    wpAny (model PySem.Challenge.rw_bw0042_01.row.prog w) (ar dp un gd env outer) (call (.ref 297) [.ref b, .ref d, .int p tp]) Q E s := by
  obtain ⟨c', hP⟩ := hW
  refine pinit C F N hbr hb hob hd hod hvs hn hms hz hP (.inr ⟨c', rfl⟩) hdp hp fun x ex ps' s' hS F' N' ho h1 _ hv => ?_
  have e := h1 (fun e => nomatch e)
  subst e
  rw [swp_same N hP] at N' hv
  exact ret x ex s' hS F' N' ho hv
end
local macro_rules | `(tactic| walk_at "call ref") => `(tactic| (k_here; (with_reducible show wpAny _ _ (call (Value.ref 297) _) _ _ _); k_dflt (
  refine' pinitW ?zC ?zF ?zN ?zb ?zW ?zhb ?zhob ?zhd ?zhod ?zhvs ?zhn ?zhms ?zhz ?zdp ?zp ?_; (case zC => exact Cx.mk (by k_asm) (by k_asm) (by k_asm) (by first | exact rfl | assumption) (by first | exact rfl | assumption)); (case zF => k_asm); (case zN => k_asm); (case zb => assumption); (case zW => assumption); (case zhb => k_mem); (case zhob => first | assumption | exact Sq.tup _ | exact Sq.lo _ _); (case zhd => k_mem); (case zhod => first | assumption | exact Sq.tup _);
    (case zhvs => assumption); (case zhn => assumption); (case zhms => assumption); (case zhz => assumption); (case zdp => k_room); (case zp => assumption); k_whole); intro x' ex' s' hSm' F' N' lo' hv'; (have hbr' := Sm.bare hSm' (by assumption)); (try k_sweep)))
theorem fresh10 : True := by
  w_top off
  trivial
section
variable {w : World} {A₀ : Around} {dp un : Nat} {gd : Option (List Code)} {env : Env} {outer : List Env} {base h₀ : Heap} {L : Addr} {m : Str → Option Value} {news : List (Addr × Obj)} {s : Shared} {pr : Program} {loose : List Str} {mean : ExcName → Option Value} {mg mb : Str → Option Value}
  {p a : Int} {Q E : Value → Shared → Prop} {b d : Addr} {ob od : Obj} {vs ms : List Value} {cs : List Int}
theorem pmade {x : Addr} {cx : List Int} {n : Nat} (C : Cx w A₀ env outer base h₀ L pr loose mean mg mb) (F : Fr h₀ L s.heap m) (N : News h₀ L s.heap news) (hbr : AllBare s.gens) (hW : Warm news)
    (hx : PV w p n news x cx) (hb : (b, ob) ∈ news) (hob : Sq ob vs) (hvs : All2 (Cv w p news) vs cs) (hn : vs.length = n) (hz : n ≤ 100)
    (hdp : dp + 40 < recursionLimit) (hp : 0 < p) (ret : PRet w h₀ L m news p n cs s Q) :
    wpAny (model PySem.Challenge.rw_bw0042_01.row.prog w) (ar dp un gd env outer) (call (.ref 208) [.ref x, .ref b]) Q E s := by
  obtain ⟨B, X, T, hf, hk⟩ := C
  obtain ⟨dx, t, mt, vx, ms, t1, t2, t3, t4, t5, t6, h1, h2, h3, h4, h5, hms, h6⟩ := hx
  simp only [InL] at h1 h2 h3 h4
  revert X; k_fill; intro X
  k_steps
  rename Sm _ _ => hS
  exact ret _ _ _ hS (by assumption) (by assumption) (by assumption) (by assumption)
end

theorem PRet.at {w : World} {h₀ : Heap} {L : Addr} {m : Str → Option Value} {news own : List (Addr × Obj)} {p : Int} {n : Nat} {cs : List Int} {s s' : Shared} {Q : Value → Shared → Prop} (ret : PRet w h₀ L m news p n cs s Q) (ho : ∀ q ∈ own, ∀ r ∈ news, r.1 < q.1) {x : Addr} {ex : List (Addr × Obj)}
    (hS : Sm s s') (F : Fr h₀ L s'.heap m) (N : News h₀ L s'.heap (Apd ex (own ++ news))) (lo : ∀ p ∈ ex, ∀ q ∈ own ++ news, q.1 < p.1) (hv : PV w p n (Apd ex (own ++ news)) x cs) : Q (.ref x) s' := by
  unfold Apd at N hv
  rw [← List.append_assoc] at N hv
  refine ret x (ex ++ own) s' hS F N (fun q hq r hr => ?_) hv
  rcases List.mem_append.mp hq with hq | hq
  · exact lo q hq r (List.mem_append_right _ hr)
  · exact ho q hq r hr
theorem ints_cv {w : World} {p : Int} {led : List (Addr × Obj)} {vs : List Value} {xs : List Int} (h : IntsAre vs xs) : All2 (Cv w p led) vs (xs.map (· % p)) := by
  refine ⟨by rw [List.length_map]; exact (by have := h.sizeZ; rw [List.size_toArray] at this; omega), fun i v c hv hc => ?_⟩
  obtain ⟨n, t, rfl, hn⟩ := h.at i v hv
  rw [List.getElem?_map, hn] at hc
  exact .inl ⟨n, t, rfl, (Option.some.inj hc).symm⟩

theorem Warm.cons {news : List (Addr × Obj)} {q : Addr × Obj} (h : Warm news) : Warm (q :: news) := let ⟨c', hc⟩ := h; ⟨c', List.mem_cons_of_mem _ hc⟩
theorem PV.cons {w : World} {p : Int} {n : Nat} {news : List (Addr × Obj)} {q : Addr × Obj} {x : Addr} {cs : List Int} (h : PV w p n news x cs) : PV w p n (q :: news) x cs := h.mono fun _ hr _ => List.mem_cons_of_mem _ hr
theorem PV.app {w : World} {p : Int} {n : Nat} {news ex : List (Addr × Obj)} {x : Addr} {cs : List Int} (h : PV w p n news x cs) : PV w p n (Apd ex news) x cs := h.mono fun _ hr _ => List.mem_append_right _ hr
theorem All2.any {w : World} {p : Int} {led : List (Addr × Obj)} {vs : List Value} {cs : List Int} (h : ∀ led, All2 (Cv w p led) vs cs) : All2 (Cv w p led) vs cs := h led
theorem All2.cons {w : World} {p : Int} {led : List (Addr × Obj)} {q : Addr × Obj} {vs : List Value} {cs : List Int} (h : All2 (Cv w p led) vs cs) : All2 (Cv w p (q :: led)) vs cs := h.mono fun _ _ h => h.mono fun _ hr _ => List.mem_cons_of_mem _ hr
theorem All2.app {w : World} {p : Int} {led ex : List (Addr × Obj)} {vs : List Value} {cs : List Int} (h : All2 (Cv w p led) vs cs) : All2 (Cv w p (Apd ex led)) vs cs := h.mono fun _ _ h => h.mono fun _ hr _ => List.mem_append_right _ hr
theorem Warm.app {news ex : List (Addr × Obj)} (h : Warm news) : Warm (Apd ex news) := h.mono
theorem mem_apd {news ex : List (Addr × Obj)} {q : Addr × Obj} (h : q ∈ news) : q ∈ Apd ex news := List.mem_append_right _ h
theorem ltA {a b : Nat} (h : a < b) : a < b := h
theorem mem_apdM {news ex : List (Addr × Obj)} {q : Addr × Obj} (h : List.Mem q news) : List.Mem q (Apd ex news) := mem_apd h
local macro_rules | `(tactic| k_mem) => `(tactic| first | exact List.Mem.head _ | (refine' List.Mem.tail _ ?_; k_mem) | assumption)
local macro_rules | `(tactic| k_mem) => `(tactic| ((first | (with_reducible refine' mem_apdM ?h) | (with_reducible refine' mem_apd ?h)); (case h => k_mem)))
local macro_rules | `(tactic| walk_at "zwm") => `(tactic| with_reducible first | assumption | (refine' Warm.cons ?h; (case h => walk_at "zwm")) | (refine' Warm.app ?h; (case h => walk_at "zwm")))
local macro_rules | `(tactic| walk_at "zpx") => `(tactic| with_reducible first | assumption | (refine' PV.cons ?h; (case h => walk_at "zpx")) | (refine' PV.app ?h; (case h => walk_at "zpx")))
local macro_rules | `(tactic| walk_at "zal") => `(tactic| with_reducible first | assumption | (refine' All2.any ?h; (case h => assumption)) | (refine' All2.cons ?h; (case h => walk_at "zal")) | (refine' All2.app ?h; (case h => walk_at "zal")))
local macro_rules | `(tactic| walk_at "call ref") => `(tactic| (k_here; (with_reducible show wpAny _ _ (call (Value.ref 208) _) _ _ _); first
  | (k_dflt (
  refine' pmade ?zC ?zF ?zN ?zb ?zW ?zhx ?zhb ?zhob ?zhvs ?zhn ?zhz ?zdp ?zp ?_; (case zC => exact Cx.mk (by k_asm) (by k_asm) (by k_asm) (by first | exact rfl | assumption) (by first | exact rfl | assumption)); (case zF => k_asm); (case zN => k_asm); (case zb => assumption); (case zW => walk_at "zwm"); (case zhx => walk_at "zpx"); (case zhb => k_mem); (case zhob => first | assumption | exact Sq.tup _ | exact Sq.lst _ | exact Sq.lo _ _);
    (case zhvs => walk_at "zal"); (case zhn => assumption); (case zhz => assumption); (case zdp => k_room); (case zp => assumption); k_whole); intro x' ex' s' hSm' F' N' lo' hv'; (have hbr' := Sm.bare hSm' (by assumption)); (try k_sweep))
  | refine hold_on ?_))
local macro_rules | `(tactic| walk_at "zho") => `(tactic| ((rename (∀ _, _ ∈ _ → _ < _) => h9); repeat' (first | exact List.forall_mem_nil _ | (refine List.forall_mem_cons.mpr ⟨?_, ?_⟩) | (intro r9 hr9; (have h8 := ltA (h9 r9 hr9)); refine ltA ?_; dsimp only; omega))))
theorem fresh11 : True := by
  w_top off
  trivial
section
variable {w : World} {A₀ : Around} {dp un : Nat} {gd : Option (List Code)} {env : Env} {outer : List Env} {base h₀ : Heap} {L : Addr} {m : Str → Option Value} {news : List (Addr × Obj)} {s : Shared} {pr : Program} {loose : List Str} {mean : ExcName → Option Value} {mg mb : Str → Option Value}
  {p a : Int} {Q E : Value → Shared → Prop} {b d : Addr} {ob od : Obj} {vs ms : List Value} {cs : List Int}
theorem pone {x : Addr} {cx : List Int} {n : Nat} (C : Cx w A₀ env outer base h₀ L pr loose mean mg mb) (F : Fr h₀ L s.heap m) (N : News h₀ L s.heap news) (hbr : AllBare s.gens) (hW : Warm news)
    (hx : PV w p n news x cx) (hz : n ≤ 100) (hn0 : 0 < n)
    (hdp : dp + 50 < recursionLimit) (hp : 0 < p) (ret : PRet w h₀ L m news p n ((1 :: List.replicate (n - 1) 0).map (· % p)) s Q) :
    wpAny (model PySem.Challenge.rw_bw0042_01.row.prog w) (ar dp un gd env outer) (call (.ref 287) [.ref x]) Q E s := by
  have hxv := hx
  obtain ⟨B, X, T, hf, hk⟩ := C
  obtain ⟨dx, t, mt, vx, ms, t1, t2, t3, t4, t5, t6, h1, h2, h3, h4, h5, hms, h6⟩ := hx
  simp only [InL] at h1 h2 h3 h4
  revert X; k_fill; intro X
  k_steps
  unfold HoldOn
  rename IntsAre _ (_ ++ _) => hI
  rename (_ ∧ _ ∧ _) => hlt
  have e : ([1] ++ (List.replicate ((n : Int) - 1).toNat [0]).flatten : List Int) = 1 :: List.replicate (n - 1) 0 := by
    rw [show ((n : Int) - 1).toNat = n - 1 by omega, List.flatten_replicate_singleton]; rfl
  rw [e] at hI
  have hcs := fun led => ints_cv (w := w) (p := p) (led := led) hI
  have hl : _ = n := (hcs []).1.trans (by simp; omega)
  k_steps
  rename Sm _ _ => hS
  refine PRet.at (own := [_, _, _, _]) ret ?ho hS (by assumption) (by assumption) (by assumption) (by assumption)
  walk_at "zho"
theorem pzero {x : Addr} {cx : List Int} {n : Nat} (C : Cx w A₀ env outer base h₀ L pr loose mean mg mb) (F : Fr h₀ L s.heap m) (N : News h₀ L s.heap news) (hbr : AllBare s.gens) (hW : Warm news)
    (hx : PV w p n news x cx) (hz : n ≤ 100) (hn0 : 0 < n)
    (hdp : dp + 50 < recursionLimit) (hp : 0 < p) (ret : PRet w h₀ L m news p n ((List.replicate n 0).map (· % p)) s Q) :
    wpAny (model PySem.Challenge.rw_bw0042_01.row.prog w) (ar dp un gd env outer) (call (.ref 294) [.ref x]) Q E s := by
  have hxv := hx
  obtain ⟨B, X, T, hf, hk⟩ := C
  obtain ⟨dx, t, mt, vx, ms, t1, t2, t3, t4, t5, t6, h1, h2, h3, h4, h5, hms, h6⟩ := hx
  simp only [InL] at h1 h2 h3 h4
  revert X; k_fill; intro X
  k_steps
  unfold HoldOn
  rename IntsAre _ _ => hI
  rename (_ ∧ _) => hlt
  have e : ((List.replicate (n : Int).toNat [0]).flatten : List Int) = List.replicate n 0 := by
    rw [show (n : Int).toNat = n by omega, List.flatten_replicate_singleton]
  rw [e] at hI
  have hcs := fun led => ints_cv (w := w) (p := p) (led := led) hI
  have hl : _ = n := (hcs []).1.trans (by simp)
  k_steps
  rename Sm _ _ => hS
  refine PRet.at (own := [_, _]) ret ?ho hS (by assumption) (by assumption) (by assumption) (by assumption)
  walk_at "zho"
end
end
section
local macro_rules | `(tactic| walk_at "zzfresh") => `(tactic| skip)
local macro_rules | `(tactic| walk_at "zzfresh") => `(tactic| skip)
local macro_rules | `(tactic| walk_at "zzfresh") => `(tactic| skip)
local macro_rules | `(tactic| walk_at "zzfresh") => `(tactic| skip)
local macro_rules | `(tactic| walk_at "zzfresh") => `(tactic| skip)
local macro_rules | `(tactic| walk_at "zzfresh") => `(tactic| skip)
local macro_rules | `(tactic| walk_at "zzfresh") => `(tactic| skip)
local macro_rules | `(tactic| walk_at "zzfresh") => `(tactic| skip)
theorem fresh12 : True := by
  w_top off
  trivial
section
variable {prog : Program} {w : World} {A : Around} {E : Value → Shared → Prop} {s : Shared} {h₀ : Heap} {L : Addr} {m : Str → Option Value} {env : Env} {elt : Expr} {x y : Str} {px py pt : Pos} {kt : Nat} {scope : Scope} {cl : List (Str × Addr)} {news : List (Addr × Obj)}
  {J : Nat → List Value → List (Addr × Obj) → Prop} {I b : Addr} {ob : Obj} {vs : List Value} {fp wr : List Addr} {n : Nat} {P : Nat → Value → Prop} {St : Nat → Heap → Prop}
open PyProof.Rows.LCg in
/-- the block of a comprehension with a name for target, from what walks -/
theorem cs_gen (W : Walks prog w A I fp wr n P St) (hgo : ∀ i v (s : Shared) (Q : Unit → Shared → Prop) (E : Value → Shared → Prop), St i s.heap → Q () s → wpAny (model prog w) A (letOwnedTupleGo (.Name x px) (.ref I) v) Q E s)
    (F : Fr h₀ L s.heap m) (N : News h₀ L s.heap news) (hfp : ∀ b ∈ fp, b < s.heap.objs.size) (hL : L ∉ fp) (hwr : ∀ b ∈ wr, h₀.get? b = none) (hnw : ∀ p ∈ news, p.1 ∉ wr) (st : St 0 s.heap) (hz : n ≤ sizeLine)
    (hx : scope.names.lookup x = some .local) (hkind : scope.kind = .function) (jlen : ∀ i ys tl, J i ys tl → ys.length ≤ i) (j0 : J 0 [] [])
    (step : ∀ i v ys tl C oC m₃ h tk led (E' : Value → Shared → Prop), i < n → P i v → J i ys tl → NsObj oC m₃ → m₃ x = some v → (C, oC) ∈ led → (∀ p ∈ tl ++ news, p ∈ led) → Fr h₀ L h m → News h₀ L h led →
      wpAny (model prog w) A (eval elt (compEnvC scope cl C env)) (fun y s₄ => CEnd h₀ L m { s with heap := h, toks := tk } led tl (J (i + 1) (ys ++ [y])) s₄) E' { s with heap := h, toks := tk }) :
    CompB prog w A h₀ L m env elt (.Name x px) [] scope cl I s fp wr n (fun i v _ => P i v) (fun i v h => P i v ∧ St (i + 1) h) St news (fun i m₃ => ∃ v, P i v ∧ m₃ x = some v) J where
  W := KTurns.ofWalks W hgo
  self := fun s' Q E st hq => W.self 0 s' Q E st hq
  size := hz
  len := jlen
  hL := hL
  hwr := hwr
  hnw := hnw
  hfp := hfp
  st := st
  F := F
  N := N
  j0 := j0
  asg := fun C i v s' m₂ Q' E' hi hP hn hQ => by
    refine wpAny_assign_Name (wpAny_storeName_local (env := compEnvC scope cl C env) (lookup_relabel_local hx) hn (fun h' hn' hs' => ?_) (by simp [compEnvC, relabel, hkind]))
    exact hQ h' _ _ hn' ⟨v, hP, by simp⟩ fun b o hb e => hs'.extBut b o hb e
  step := fun i ys tl C oC m₃ h tk led E' hi hJ hoC hB hC hl F N => by
    obtain ⟨v, hv, hm⟩ := hB
    refine wpAny_tests_nil ?_
    simp only [if_true]
    exact step i v ys tl C oC m₃ h tk led E' hi hv hJ hoC hm hC hl F N
open PyProof.Rows.LCg in
/-- over a list or a tuple -/
theorem cs_sq {R : Shared → Nat → List (Addr × Obj) → (Nat → List Value → List (Addr × Obj) → Prop) → Prop} (hh : A.handled = none) (F : Fr h₀ L s.heap m) (N : News h₀ L s.heap news) (hb : (b, ob) ∈ news) (hq : Sq ob vs) (hz : vs.length ≤ 16384)
    (hx : scope.names.lookup x = some .local) (hkind : scope.kind = .function) (jlen : ∀ i ys tl, J i ys tl → ys.length ≤ i) (j0 : J 0 [] [])
    (step : ∀ h₂, ∀ i v ys tl C oC m₃ h tk led (E' : Value → Shared → Prop), vs[i]? = some v → J i ys tl → NsObj oC m₃ → m₃ x = some v → (C, oC) ∈ led → (∀ p ∈ tl ++ news, p ∈ led) → Fr h₀ L h m → News h₀ L h led →
      wpAny (model prog w) A (eval elt (compEnvC scope cl C env)) (fun y s₄ => CEnd h₀ L m { ({ s with heap := h₂ } : Shared) with heap := h, toks := tk } led tl (J (i + 1) (ys ++ [y])) s₄) E' { ({ s with heap := h₂ } : Shared) with heap := h, toks := tk })
    (hR : ∀ h', R { s with heap := h' } vs.length news J) :
    wpAny (model prog w) A (pyIter (.ref b)) (fun it s₂ => ∃ I fp wr n P Md St news B J, it = .ref I ∧ CompB prog w A h₀ L m env elt (.Name x px) [] scope cl I s₂ fp wr n P Md St news B J ∧ R s₂ n news J) E s := by
  refine iter_sq F N hb hq fun I itob h' St F₁ N₁ hI hI1 hst W hSt hgo => ?_
  have hbI : b < I := hI _ hb
  have hI0 := (N₁ _ List.mem_cons_self).2
  refine ⟨I, [I, b], [I], vs.length, _, _, St, news, _, J, rfl, cs_gen (W A hh) (fun i v s Q E => hgo A (.Name x px) i v s Q E) F₁ (fun p hp => N₁ p (List.mem_cons_of_mem _ hp)) ?_ ?_ ?_ ?_ hst (Nat.le_trans hz (by decide)) hx hkind jlen j0 (fun i v ys tl C oC m₃ h tk led E' _ => step h' i v ys tl C oC m₃ h tk led E'), hR h'⟩
  · intro q hq
    show @LT.lt Nat _ q h'.objs.size
    rw [hI1]
    rcases List.mem_cons.mp hq with rfl | hq
    · exact Nat.lt_succ_self _
    · rw [List.mem_singleton.mp hq]; exact Nat.lt_succ_of_lt hbI
  · intro hq
    rcases List.mem_cons.mp hq with e | hq
    · exact hI0.1 e.symm
    · rw [List.mem_singleton] at hq; exact (N _ hb).2.1 hq.symm
  · intro q hq
    rw [List.mem_singleton.mp hq]; exact hI0.2
  · intro q hq hw
    rw [List.mem_singleton] at hw
    exact Nat.lt_irrefl _ (hw ▸ hI q hq : I < I)
open PyProof.Rows.LCg in
/-- over a zip of two tuples, a pair for target -/
theorem cs_zip {R : Shared → Nat → List (Addr × Obj) → (Nat → List Value → List (Addr × Obj) → Prop) → Prop} {l1 l2 : Addr} {xs ys₀ : List Value} {Q₀ : Value → Shared → Prop} (hh : A.handled = none) (F : Fr h₀ L s.heap m) (N : News h₀ L s.heap news) (h1 : (l1, tup xs) ∈ news) (h2 : (l2, tup ys₀) ∈ news) (hlen : xs.length = ys₀.length) (hz : xs.length ≤ 16384)
    (hx : scope.names.lookup x = some .local) (hy : scope.names.lookup y = some .local) (hxy : x ≠ y) (hkind : scope.kind = .function) (jlen : ∀ i ys tl, J i ys tl → ys.length ≤ i) (j0 : J 0 [] [])
    (step : ∀ h₂, ∀ i v u ys tl C oC m₃ h tk led (E' : Value → Shared → Prop), xs[i]? = some v → ys₀[i]? = some u → J i ys tl → NsObj oC m₃ → m₃ x = some v → m₃ y = some u → (C, oC) ∈ led → (∀ p ∈ tl ++ news, p ∈ led) → Fr h₀ L h m → News h₀ L h led →
      wpAny (model prog w) A (eval elt (compEnvC scope cl C env)) (fun y s₄ => CEnd h₀ L m { ({ s with heap := h₂ } : Shared) with heap := h, toks := tk } led tl (J (i + 1) (ys ++ [y])) s₄) E' { ({ s with heap := h₂ } : Shared) with heap := h, toks := tk })
    (hR : ∀ h', R { s with heap := h' } xs.length news J)
    (hQ : ∀ v s', wpAny (model prog w) A (pyIter v) (fun it s₂ => ∃ I fp wr n P Md St news B J, it = .ref I ∧ CompB prog w A h₀ L m env elt (.Tuple [.Name x px, .Name y py] kt pt) [] scope cl I s₂ fp wr n P Md St news B J ∧ R s₂ n news J) E s' → Q₀ v s') :
    wpAny (model prog w) A (call (.type "zip") [.ref l1, .ref l2]) Q₀ E s := by
  have g1 := N _ h1
  have g2 := N _ h2
  have hLs : @LT.lt Nat _ L s.heap.objs.size := F.ns.lt
  have hab : @LE.le Nat _ h₀.objs.size s.heap.objs.size := Nat.le_trans F.above (Nat.le_of_lt hLs)
  have hnl : ∀ p ∈ news, @LT.lt Nat _ p.1 s.heap.objs.size := fun p hp => Heap.lt_size (N p hp).1
  have lt1 : @LT.lt Nat _ l1 s.heap.objs.size := Heap.lt_size g1.1
  have lt2 : @LT.lt Nat _ l2 s.heap.objs.size := Heap.lt_size g2.1
  refine call_zt (xs := xs.toArray) (ys := ys₀.toArray) ⟨_, g1.1, rfl, _, rfl⟩ ⟨_, g2.1, rfl, _, rfl⟩ fun h' hst hsz hk => hQ _ _ ?_
  generalize s.heap.objs.size = k at hst hsz lt1 lt2 hLs hab hnl ⊢
  have D : ZipApart (k + 4) (k + 2) (k + 3) k (k + 1) l1 l2 := by constructor <;> (show @Ne Nat _ _; omega)
  have D1 := dr_tuple (prog := prog) (w := w) (i := k) (t := l1) (show @Ne Nat l1 k by omega) xs.toArray
  have D2 := dr_tuple (prog := prog) (w := w) (i := k + 1) (t := l2) (show @Ne Nat l2 (k + 1) by omega) ys₀.toArray
  have hmin : min xs.toArray.size ys₀.toArray.size = xs.length := by simp [hlen]
  have F₁ : Fr h₀ L h' m := F.keeps hk
  have fr : ∀ a, @LE.le Nat _ k a → h₀.get? a = none := fun a ha => Heap.get?_none_of_le (Nat.le_trans hab ha)
  have lL1 : L ≠ l1 := fun e => g1.2.1 e.symm
  have lL2 : L ≠ l2 := fun e => g2.2.1 e.symm
  have KT := zip_turns (A := A) (elts := [.Name x px, .Name y py]) (c := kt) (pos := pt) hh D D1 D2
  rw [hmin] at KT
  refine wpAny_pyIter_zip hst.1 ?_
  refine ⟨k + 4, [k + 4, k + 2, k + 3, k, k + 1, l1, l2], [k + 4, k + 3, k, k + 1], xs.length, ZOut xs.toArray ys₀.toArray, ZMd (k + 4) (k + 2) (k + 3) k (k + 1) (fun i h => h.IsTupleIter k l1 i ∧ h.IsTuple l1 xs.toArray) (fun i h => h.IsTupleIter (k + 1) l2 i ∧ h.IsTuple l2 ys₀.toArray) xs.toArray ys₀.toArray, ZSt (k + 4) (k + 2) (k + 3) k (k + 1) (fun i h => h.IsTupleIter k l1 i ∧ h.IsTuple l1 xs.toArray) (fun i h => h.IsTupleIter (k + 1) l2 i ∧ h.IsTuple l2 ys₀.toArray), news, (fun i m₃ => ∃ v u, xs[i]? = some v ∧ ys₀[i]? = some u ∧ m₃ x = some v ∧ m₃ y = some u), J, rfl, ?_, hR h'⟩
  refine { W := KT, self := fun s' Q E st hq => wpAny_pyIter_zip st.1 hq, size := Nat.le_trans hz (by decide), len := jlen, hL := ?_, hwr := ?_, hnw := ?_, hfp := ?_, st := hst, F := F₁, N := fun p hp => ⟨hk _ _ (N p hp).1, (N p hp).2⟩, j0 := j0, asg := ?_, step := ?_ }
  · intro hq
    simp only [List.mem_cons, List.not_mem_nil, or_false] at hq
    rcases hq with e | e | e | e | e | e | e
    all_goals first | exact lL1 e | exact lL2 e | (have e' : @Eq Nat L _ := e; omega)
  · intro q hq
    simp only [List.mem_cons, List.not_mem_nil, or_false] at hq
    rcases hq with rfl | rfl | rfl | rfl
    all_goals exact fr _ (by omega)
  · intro q hq hw
    have := hnl q hq
    simp only [List.mem_cons, List.not_mem_nil, or_false] at hw
    rcases hw with e | e | e | e
    all_goals (have e' : @Eq Nat q.1 _ := e; omega)
  · intro q hq
    show @LT.lt Nat _ q h'.objs.size
    rw [hsz]
    simp only [List.mem_cons, List.not_mem_nil, or_false] at hq
    rcases hq with rfl | rfl | rfl | rfl | rfl | rfl | rfl
    all_goals omega
  · intro C i v s' m₂ Q' E' hi hP hn hQ'
    obtain ⟨T, a, b, rfl, ha, hb, hT⟩ := hP
    refine assign_Tuple_tuple hh hT rfl rfl fun h₅ he => ?_
    have he' : ∀ b o, s'.heap.get? b = some o → h₅.get? b = some o := fun b o e => he b o (Nat.ne_of_lt (Heap.lt_size e)) e
    refine assignInOrder_cons (wpAny_assign_Name (wpAny_storeName_local (env := compEnvC scope cl C env) (lookup_relabel_local hx) (hn.at' fun o e => he' _ o e) (fun h₆ hn₆ hs₆ => ?_) (by simp [compEnvC, relabel, hkind])))
    refine assignInOrder_cons (wpAny_assign_Name (wpAny_storeName_local (env := compEnvC scope cl C env) (lookup_relabel_local hy) hn₆ (fun h₇ hn₇ hs₇ => ?_) (by simp [compEnvC, relabel, hkind])))
    refine assignInOrder_nil ?_
    exact hQ' h₇ _ _ hn₇ ⟨a, b, by simpa using ha, by simpa using hb, by simp [hxy], by simp⟩ fun b o hb e => hs₇.extBut b o hb (hs₆.extBut b o hb (he' b o e))
  · intro i ys tl C oC m₃ h tk led E' hi hJ hoC hB hC hl F N
    obtain ⟨v, u, hv, hu, m1, m2⟩ := hB
    refine wpAny_tests_nil ?_
    simp only [if_true]
    exact step h' i v u ys tl C oC m₃ h tk led E' hv hu hJ hoC m1 m2 hC hl F N
end
theorem comp_KF {prog : Program} {w : World} {A : Around} {E : Value → Shared → Prop} {s : Shared} {h₀ : Heap} {L : Addr} {m : Str → Option Value} {env : Env} {elt target iter : Expr} {ifs : List Expr} {scope : Scope} {cl : List (Str × Addr)} {pos : Pos} {Q : Value → Shared → Prop} (_F : Fr h₀ L s.heap m)
    (hclos : closureFor scope env = pure cl) (hcell : ∀ y ∈ scope.names, y.2 ≠ .cell) (hkind : scope.kind = .function)
    (hnames : ∀ y ∈ scope.names, y.2 = .local → scope.names.lookup y.1 = some .local) (hs : ∀ x, foldedSetIterable iter env x = pure x)
    (h : wpAny (model prog w) A (eval iter env) (fun xv s₁ => wpAny (model prog w) A (pyIter xv) (fun it s₂ => ∃ I fp wr n P Md St news B J, it = .ref I ∧ CompB prog w A h₀ L m env elt target ifs scope cl I s₂ fp wr n P Md St news B J ∧ CDone h₀ L m s₂ n news J Q) E s₁) E s) :
    wpAny (model prog w) A (eval (.ListComp elt [⟨target, iter, ifs, 0⟩] scope pos) env) Q E s := comp_K hclos hcell hkind hnames h hs
theorem comp_AF {prog : Program} {w : World} {A : Around} {E : Value → Shared → Prop} {s : Shared} {h₀ : Heap} {m : Str → Option Value} {env : Env} {elt target iter : Expr} {ifs : List Expr} {y : Str} {py : Pos} {scope : Scope} {cl : List (Str × Addr)} {pos spos : Pos} {Q : Flow → Shared → Prop} (_F : Fr h₀ env.locals s.heap m)
    (hsw : swapsWith (.ListComp elt [⟨target, iter, ifs, 0⟩] scope pos) (some (.Name y py)) spos.line env = pure true)
    (hclos : closureFor scope env = pure cl) (hcell : ∀ z ∈ scope.names, z.2 ≠ .cell) (hkind : scope.kind = .function)
    (hnames : ∀ z ∈ scope.names, z.2 = .local → scope.names.lookup z.1 = some .local)
    (hy : env.kindOf y = some .local) (hp : (env.scope.kind == .class || (env.scope.kind == .module && env.locals != env.globals)) = false) (hs : ∀ x, foldedSetIterable iter env x = pure x)
    (h : wpAny (model prog w) A (eval iter env) (fun xv s₁ => wpAny (model prog w) A (pyIter xv) (fun it s₂ => ∃ I fp wr n P Md St news B J, it = .ref I ∧ CompB prog w A h₀ env.locals m env elt target ifs scope cl I s₂ fp wr n P Md St news B J ∧
      ∀ ys D h tk tl, J n ys tl → Fr h₀ env.locals h (fun z => if z = y then some (.ref D) else m z) → News h₀ env.locals h ((D, LCg.lst ys) :: (tl ++ news)) → (∀ p ∈ tl, D < p.1) → (∀ p ∈ tl, ∀ q ∈ news, q.1 < p.1) → (∀ q ∈ news, q.1 < D) → Q .next { s₂ with heap := h, toks := tk }) E s₁) E s) :
    wpAny (model prog w) A (exec (.Assign [.Name y py] (.ListComp elt [⟨target, iter, ifs, 0⟩] scope pos) spos) env) Q E s := comp_A rfl hsw hclos hcell hkind hnames hy hp h hs
end
section
local macro_rules | `(tactic| k_room) => `(tactic| ((try simp only [depth_under_make, depth_under_kw, depth_in1, depth_deeper, depth_caller]); (try dsimp only [ar]); omega))
local macro_rules | `(tactic| k_units) => `(tactic| ((have hcL9 := cLine_is); (try simp only [units_in1, units_deeper, Around.mark_units, units_caller]); (try dsimp only [ar]); omega))
local macro_rules | `(tactic| k_enter) => `(tactic| first
  | (refine' code_def ?k1 ?k2 ?k3 ?k4 ?k5 ?kA ?kF ?kK ?k6 ?k7 ?k8 ?k9 ?kB ?_ ?c2 ?c3 ?c4 ?c5; (case kA => exact rfl); (case kF => first | exact rfl | assumption); (case kK => first | exact rfl | assumption); (case k1 => k_asm); (case k2 => k_asm); (case k3 => k_asm); (case k4 => k_asm); (case k5 => k_asm); (case k6 => k_is); (case k7 => k_is); (case k8 => k_room); (case k9 => exact BindsTo.of_eq rfl); (case c5 => decide); (case kB => exact locs rfl); (case c2 => exact rfl); (case c3 => exact rfl); (case c4 => exact rfl); k_whole; intro g' L' h' FG' F' N' B' X' T'; (try dsimp only); (try k_lift B'); (try k_fold))
  | (refine' code_defC ?k1 ?k2 ?k3 ?k4 ?k5 ?kA ?kF ?kK ?k6 ?k7 ?k8 ?k9 ?kB ?kD ?_ ?c2 ?c3 ?c4; (case kA => exact rfl); (case kF => first | exact rfl | assumption); (case kK => first | exact rfl | assumption); (case k1 => k_asm); (case k2 => k_asm); (case k3 => k_asm); (case k4 => k_asm); (case k5 => k_asm); (case k6 => k_is); (case k7 => k_is); (case k8 => k_room); (case k9 => exact BindsTo.of_eq rfl); (case kB => exact rfl); (case kD => decide +kernel); (case c2 => exact rfl); (case c3 => exact rfl); (case c4 => exact rfl); k_whole; intro g' L' h' tk' cells' FG' F' N' Y' B' X' T' l1; (try k_lt l1); k_cells Y'; (try simp only [List.cons_append, List.nil_append] at N'); (try dsimp only); (try k_lift B'); (try k_fold)))
local macro_rules | `(tactic| k_mem) => `(tactic| first | exact List.Mem.head _ | (refine' List.Mem.tail _ ?_; k_mem) | assumption)
local macro_rules | `(tactic| mul_fits) => `(tactic| with_reducible assumption)
local macro_rules | `(tactic| walk_at "call ref") => `(tactic| (k_here; (with_reducible show wpAny _ _ (call (Value.ref 183) _) _ _ _); k_dflt (first
  | (refine' fq_new ?C ?F ?N ?d ?p ?_; (case C => exact Cx.mk (by k_asm) (by k_asm) (by k_asm) (by first | exact rfl | assumption) (by first | exact rfl | assumption)); (case F => k_asm); (case N => k_asm); (case d => k_room); (case p => assumption); k_whole)
  | (refine' fq_copy ?C ?F ?N ?x ?dx ?d ?p ?_; (case C => exact Cx.mk (by k_asm) (by k_asm) (by k_asm) (by first | exact rfl | assumption) (by first | exact rfl | assumption)); (case F => k_asm); (case N => k_asm); (case x => k_mem); (case dx => k_mem); (case d => k_room); (case p => assumption); k_whole)); intro r' d' t1' t2' tp' tn' h' tk' F' N' l1' l2'; (try k_sweep)))
local macro_rules | `(tactic| walk_at "call ref") => `(tactic| (k_here; first
  | ((with_reducible show wpAny _ _ (call (Value.ref 61) _) _ _ _); k_dflt (refine' fq_add ?zC ?zF ?zN ?zx ?zdx ?zy ?zdy ?zd ?zp ?_; (case zC => exact Cx.mk (by k_asm) (by k_asm) (by k_asm) (by first | exact rfl | assumption) (by first | exact rfl | assumption)); (case zF => k_asm); (case zN => k_asm); (case zx => k_mem); (case zdx => k_mem); (case zy => k_mem); (case zdy => k_mem); (case zd => k_room); (case zp => assumption); k_whole); intro r' d' t1' t2' tp' tn' h' tk' F' N' l1' l2'; (have lx' := allLt_of l1'); (try simp only [AllLt] at lx'); (have ly' := ltA l2'); (try dsimp only [PySem.W.CmpBack]); (try k_sweep))
  | ((with_reducible show wpAny _ _ (call (Value.ref 68) _) _ _ _); k_dflt (refine' fq_mul ?zC ?zF ?zN ?zx ?zdx ?zy ?zdy ?zd ?zp ?za ?zb ?_; (case zC => exact Cx.mk (by k_asm) (by k_asm) (by k_asm) (by first | exact rfl | assumption) (by first | exact rfl | assumption)); (case zF => k_asm); (case zN => k_asm); (case zx => k_mem); (case zdx => k_mem); (case zy => k_mem); (case zdy => k_mem); (case zd => k_room); (case zp => assumption); (case za => assumption); (case zb => assumption); k_whole); intro r' d' t1' t2' tp' tn' h' tk' F' N' l1' l2'; (have lx' := allLt_of l1'); (try simp only [AllLt] at lx'); (have ly' := ltA l2'); (try dsimp only [PySem.W.CmpBack]); (try k_sweep))
  | ((with_reducible show wpAny _ _ (call (Value.ref 96) _) _ _ _); k_dflt (refine' fq_sub ?zC ?zF ?zN ?zx ?zdx ?zy ?zdy ?zd ?zp ?_; (case zC => exact Cx.mk (by k_asm) (by k_asm) (by k_asm) (by first | exact rfl | assumption) (by first | exact rfl | assumption)); (case zF => k_asm); (case zN => k_asm); (case zx => k_mem); (case zdx => k_mem); (case zy => k_mem); (case zdy => k_mem); (case zd => k_room); (case zp => assumption); k_whole); intro r' d' t1' t2' tp' tn' h' tk' F' N' l1' l2'; (have lx' := allLt_of l1'); (try simp only [AllLt] at lx'); (have ly' := ltA l2'); (try dsimp only [PySem.W.CmpBack]); (try k_sweep))
  | ((with_reducible show wpAny _ _ (call (Value.ref 131) _) _ _ _); k_dflt (refine' fq_ne ?zC ?zF ?zN ?zx ?zdx ?zy ?zdy ?zd ?zu ?_; (case zC => exact Cx.mk (by k_asm) (by k_asm) (by k_asm) (by first | exact rfl | assumption) (by first | exact rfl | assumption)); (case zF => k_asm); (case zN => k_asm); (case zx => k_mem); (case zdx => k_mem); (case zy => k_mem); (case zdy => k_mem); (case zd => k_room); (case zu => k_units); k_whole); intro h' tk' F' N'; (try dsimp only [PySem.W.CmpBack]); (try k_sweep))))
local macro_rules | `(tactic| walk_at "eval GeneratorExp") => `(tactic| (k_here; refine hold_on ?_))
local macro_rules | `(tactic| walk_at "eval ListComp") => `(tactic| (k_here; refine hold_on ?_))
local macro_rules | `(tactic| walk_at "exec For") => `(tactic| (k_here; refine hold_on ?_))
local macro_rules | `(tactic| walk_at "exec While") => `(tactic| (k_here; refine hold_on ?_))
local macro_rules | `(tactic| walk_at "call builtin:len") => `(tactic| (k_here; refine len_sq (by assumption) (by k_mem) (by first | assumption | exact Sq.tup _ | exact Sq.lo _ _) (by assumption) (by omega) ?_; intro t' tk'))
local macro_rules | `(tactic| walk_at "compareOp NotEq int int") => `(tactic| with_reducible refine ne_self ?_)
local macro_rules | `(tactic| walk_at "eval Name") => `(tactic| (k_here; (with_reducible show wpAny _ _ (eval (Expr.Name _ _) (genEnv _ _ _ _ _ _)) _ _ _); first
  | (refine' gn_L ?F ?hv ?_ ?hk ?hx ?hd; (case F => assumption); (case hx => with_unfolding_all rfl); (case hv => first | exact if_pos rfl | assumption); (case hk => rfl); (case hd => decide); skip)
  | (refine' gn_F ?N ?hc ?hm ?hd ?_ ?hk ?hx ?hb ?hn; (case N => assumption); (case hx => with_unfolding_all rfl); (case hc => with_unfolding_all rfl); (case hm => k_mem); (case hd => with_reducible assumption); (case hk => rfl); (case hb => decide); (case hn => decide))))
local macro_rules | `(tactic| walk_at "call type:tuple") => `(tactic| (k_here; refine' tuple_sq ?F ?N ?hb ?hq ?hz ?_; (case F => assumption); (case N => assumption); (case hb => k_mem); (case hq => first | assumption | exact Sq.tup _ | exact Sq.lo _ _); (case hz => omega); intro T' h' F' N' l'; (replace l' := Or.imp allLt_of eqN l'); (try simp only [AllLt] at l')))
local macro_rules | `(tactic| k_all) => `(tactic| (with_reducible assumption))
local macro_rules | `(tactic| walk_at "call type:zip") => `(tactic| (k_here; refine hold_on ?_))
local macro_rules | `(tactic| walk_at "exec For Name Attribute cons nil") => `(tactic| (k_here; refine hold_on ?_))
local macro_rules | `(tactic| walk_at "exec For Name Call") => `(tactic| (k_here; refine hold_on ?_))
local macro_rules | `(tactic| walk_at "exec For Name Call cons nil") => `(tactic| (k_here; refine hold_on ?_))
local macro_rules | `(tactic| walk_at "exec For Name List cons nil") => `(tactic| (k_here; refine hold_on ?_))
local macro_rules | `(tactic| walk_at "exec For Name Name") => `(tactic| (k_here; refine hold_on ?_))
local macro_rules | `(tactic| walk_at "exec For Name Name cons nil") => `(tactic| (k_here; refine hold_on ?_))
local macro_rules | `(tactic| walk_at "exec For Name Subscript cons nil") => `(tactic| (k_here; refine hold_on ?_))
local macro_rules | `(tactic| walk_at "exec For Tuple Call") => `(tactic| (k_here; refine hold_on ?_))
local macro_rules | `(tactic| walk_at "exec For Tuple Call cons nil") => `(tactic| (k_here; refine hold_on ?_))
local macro_rules | `(tactic| walk_at "exec For Tuple List cons nil") => `(tactic| (k_here; refine hold_on ?_))
local macro_rules | `(tactic| walk_at "exec For Tuple Name") => `(tactic| (k_here; refine hold_on ?_))
local macro_rules | `(tactic| walk_at "exec For Tuple Name cons nil") => `(tactic| (k_here; refine hold_on ?_))
local macro_rules | `(tactic| walk_at "exec For Tuple Attribute cons nil") => `(tactic| (k_here; refine hold_on ?_))
local macro_rules | `(tactic| walk_at "exec Assign cons ListComp") => `(tactic| (k_here; refine hold_on ?_))
local macro_rules | `(tactic| walk_at "exec While BoolOp") => `(tactic| (k_here; refine hold_on ?_))
local macro_rules | `(tactic| walk_at "exec While Compare") => `(tactic| (k_here; refine hold_on ?_))
local macro_rules | `(tactic| walk_at "call ref") => `(tactic| (k_here; (with_reducible show wpAny _ _ (call (Value.ref 297) _) _ _ _); k_dflt (
  refine' pinitW ?zC ?zF ?zN ?zb ?zW ?zhb ?zhob ?zhd ?zhod ?zhvs ?zhn ?zhms ?zhz ?zdp ?zp ?_; (case zC => exact Cx.mk (by k_asm) (by k_asm) (by k_asm) (by first | exact rfl | assumption) (by first | exact rfl | assumption)); (case zF => k_asm); (case zN => k_asm); (case zb => assumption); (case zW => assumption); (case zhb => k_mem); (case zhob => first | assumption | exact Sq.tup _ | exact Sq.lo _ _); (case zhd => k_mem); (case zhod => first | assumption | exact Sq.tup _);
    (case zhvs => assumption); (case zhn => assumption); (case zhms => assumption); (case zhz => assumption); (case zdp => k_room); (case zp => assumption); k_whole); intro x' ex' s' hSm' F' N' lo' hv'; (have hbr' := Sm.bare hSm' (by assumption)); (try k_sweep)))
local macro_rules | `(tactic| k_mem) => `(tactic| first | exact List.Mem.head _ | (refine' List.Mem.tail _ ?_; k_mem) | assumption)
local macro_rules | `(tactic| k_mem) => `(tactic| ((first | (with_reducible refine' mem_apdM ?h) | (with_reducible refine' mem_apd ?h)); (case h => k_mem)))
local macro_rules | `(tactic| walk_at "zwm") => `(tactic| with_reducible first | assumption | (refine' Warm.cons ?h; (case h => walk_at "zwm")) | (refine' Warm.app ?h; (case h => walk_at "zwm")))
local macro_rules | `(tactic| walk_at "zpx") => `(tactic| with_reducible first | assumption | (refine' PV.cons ?h; (case h => walk_at "zpx")) | (refine' PV.app ?h; (case h => walk_at "zpx")))
local macro_rules | `(tactic| walk_at "zal") => `(tactic| with_reducible first | assumption | (refine' All2.any ?h; (case h => assumption)) | (refine' All2.cons ?h; (case h => walk_at "zal")) | (refine' All2.app ?h; (case h => walk_at "zal")))
local macro_rules | `(tactic| walk_at "call ref") => `(tactic| (k_here; (with_reducible show wpAny _ _ (call (Value.ref 208) _) _ _ _); first
  | (k_dflt (
  refine' pmade ?zC ?zF ?zN ?zb ?zW ?zhx ?zhb ?zhob ?zhvs ?zhn ?zhz ?zdp ?zp ?_; (case zC => exact Cx.mk (by k_asm) (by k_asm) (by k_asm) (by first | exact rfl | assumption) (by first | exact rfl | assumption)); (case zF => k_asm); (case zN => k_asm); (case zb => assumption); (case zW => walk_at "zwm"); (case zhx => walk_at "zpx"); (case zhb => k_mem); (case zhob => first | assumption | exact Sq.tup _ | exact Sq.lst _ | exact Sq.lo _ _);
    (case zhvs => walk_at "zal"); (case zhn => assumption); (case zhz => assumption); (case zdp => k_room); (case zp => assumption); k_whole); intro x' ex' s' hSm' F' N' lo' hv'; (have hbr' := Sm.bare hSm' (by assumption)); (try k_sweep))
  | refine hold_on ?_))
local macro_rules | `(tactic| walk_at "zho") => `(tactic| ((rename (∀ _, _ ∈ _ → _ < _) => h9); repeat' (first | exact List.forall_mem_nil _ | (refine List.forall_mem_cons.mpr ⟨?_, ?_⟩) | (intro r9 hr9; (have h8 := ltA (h9 r9 hr9)); refine ltA ?_; dsimp only; omega))))
local macro_rules | `(tactic| walk_at "zzfresh") => `(tactic| skip)
theorem fresh13 : True := by
  w_top off
  trivial
section
variable {w : World} {p : Int} {h₀ h' : Heap} {L : Addr} {m : Str → Option Value} {led tl news : List (Addr × Obj)} {cs : List Int} {ys : List Value} {i : Nat}
/-- the list that a comprehension of field elements has so far -/
def FqJ (w : World) (p : Int) (cs : List Int) (i : Nat) (ys : List Value) (tl : List (Addr × Obj)) : Prop := ys.length = i ∧ All2 (FQv w p tl) ys (cs.take i)
theorem FqJ.zero : FqJ w p cs 0 [] [] := ⟨rfl, All2.nil⟩
theorem fq_cend {s₁ : Shared} {tk' : Nat} {r d : Addr} {c : Int} {t1 t2 t3 t4 : Tok} (hJ : FqJ w p cs i ys tl) (hc : cs[i]? = some c) (F : Fr h₀ L h' m) (N : News h₀ L h' ((r, instObj 183 d) :: (d, fqD w p c t1 t2 t3 t4) :: led)) (o1 : ∀ q ∈ led, q.1 < d) (o2 : d < r) :
    CEnd h₀ L m s₁ led tl (FqJ w p cs (i + 1) (ys ++ [.ref r])) { s₁ with heap := h', toks := tk' } := by
  refine ⟨_, _, [(r, instObj 183 d), (d, fqD w p c t1 t2 t3 t4)], rfl, F, N, ?_, by simp [hJ.1], ?_⟩
  · exact List.forall_mem_cons.mpr ⟨fun q hq => Nat.lt_trans (o1 q hq) o2, List.forall_mem_cons.mpr ⟨o1, fun _ h => nomatch h⟩⟩
  · rw [take_snoc hc]
    exact (hJ.2.mono fun _ _ h => h.mono fun q hq _ => List.mem_append_right _ hq).snoc ⟨r, d, t1, t2, t3, t4, rfl, List.mem_cons_self, List.mem_cons_of_mem _ List.mem_cons_self⟩
theorem FqJ.done {n : Nat} (h : FqJ w p cs n ys tl) (hn : cs.length = n) : ys.length = n ∧ All2 (Cv w p (Apd tl news)) ys cs := by
  refine ⟨h.1, ?_⟩
  have := h.2
  rw [List.take_of_length_le (Nat.le_of_eq hn)] at this
  exact this.mono fun _ _ h => .inr (h.mono fun q hq _ => List.mem_append_left _ hq)
end
section
variable {w : World} {A₀ : Around} {dp un : Nat} {gd : Option (List Code)} {env : Env} {outer : List Env} {base h₀ : Heap} {L : Addr} {m : Str → Option Value} {news : List (Addr × Obj)} {s : Shared} {pr : Program} {loose : List Str} {mean : ExcName → Option Value} {mg mb : Str → Option Value}
  {p a : Int} {Q E : Value → Shared → Prop} {b d : Addr} {ob od : Obj} {vs ms : List Value} {cs : List Int}
theorem padd {x y : Addr} {cx cy : List Int} {n : Nat} (C : Cx w A₀ env outer base h₀ L pr loose mean mg mb) (F : Fr h₀ L s.heap m) (N : News h₀ L s.heap news) (hbr : AllBare s.gens) (hW : Warm news)
    (hx : PV w p n news x cx) (hy : PV w p n news y cy) (hz : n ≤ 100)
    (hdp : dp + 60 < recursionLimit) (hp : 0 < p) (ret : PRet w h₀ L m news p n (List.zipWith (fun a b => (a + b) % p) cx cy) s Q) :
    wpAny (model PySem.Challenge.rw_bw0042_01.row.prog w) (ar dp un gd env outer) (call (.ref 220) [.ref x, .ref y]) Q E s := by
  have hxv := hx
  obtain ⟨B, X, T, hf, hk⟩ := C
  obtain ⟨dx, t, mt, vx, ms, t1, t2, t3, t4, t5, t6, h1, h2, h3, h4, h5, hms, h6⟩ := hx
  obtain ⟨dy, t', mt', vy, ms', t1', t2', t3', t4', t5', t6', h1', h2', h3', h4', h5', hms', h6'⟩ := hy
  simp only [InL] at h1 h2 h3 h4 h1' h2' h3' h4'
  revert X; k_fill; intro X
  k_steps
  unfold HoldOn
  refine comp_KF (by assumption) (by with_unfolding_all rfl) (by decide) rfl (by decide) (by intro _; with_unfolding_all rfl) ?zmain
  case zmain =>
    k_steps
    unfold HoldOn
    refine' cs_zip (J := FqJ w p (List.zipWith (fun a b => (a + b) % p) cx cy)) rfl ?zF ?zN ?zl1 ?zl2 ?zlen ?zz ?zx ?zy ?zxy ?zkk ?zjl ?zj0 ?zst ?zR ?zQ
    case zQ => intro v s' hq; k_steps; exact hq
    case zF => assumption
    case zN => assumption
    case zl1 => k_mem
    case zl2 => k_mem
    case zlen => rw [h6, h6']
    case zz => omega
    case zx => with_unfolding_all rfl
    case zy => with_unfolding_all rfl
    case zkk => rfl
    case zxy => decide
    case zjl => exact fun i ys tl h => Nat.le_of_eq h.1
    case zj0 => exact FqJ.zero
    case zR =>
      intro h' ys D h2 tk tl hJ F6 N6 o1 o2 o3
      obtain ⟨hl, hcs⟩ := hJ.done (news := news) (by simp [← h5.1, ← h5'.1, h6, h6'])
      rw [h6] at hl
      have N7 : News _ _ h2 ((D, PyProof.Rows.LCg.lst ys) :: Apd tl news) := N6
      clear N6
      k_steps
      rename Sm _ _ => hS
      refine PRet.at (own := (D, PyProof.Rows.LCg.lst ys) :: tl) ret ?ho hS (by assumption) (by assumption) (by assumption) (by assumption)
      exact List.forall_mem_cons.mpr ⟨o3, o2⟩
    case zst =>
      intro h2 i v u ys tl C oC m3 h tk led E' hv hu hJ hoC mx my hC hl F6 N6
      obtain ⟨c, hc, fx, fdx, a1, a2, a3, a4, rfl, ha1, ha2⟩ := h5.get hv
      obtain ⟨c', hc', fy, fdy, b1, b2, b3, b4, rfl, hb1, hb2⟩ := h5'.get hu
      have up : ∀ q ∈ news, q ∈ led := fun q hq => hl q (List.mem_append_right _ hq)
      have ha1 := up _ ha1
      have ha2 := up _ ha2
      have hb1 := up _ hb1
      have hb2 := up _ hb2
      have hcc : (List.zipWith (fun a b => (a + b) % p) cx cy)[i]? = some ((c + c') % p) := by rw [List.getElem?_zipWith, hc, hc']
      clear hl up
      k_steps
      exact fq_cend hJ hcc (by assumption) (by assumption) (by assumption) (by assumption)
theorem psub {x y : Addr} {cx cy : List Int} {n : Nat} (C : Cx w A₀ env outer base h₀ L pr loose mean mg mb) (F : Fr h₀ L s.heap m) (N : News h₀ L s.heap news) (hbr : AllBare s.gens) (hW : Warm news)
    (hx : PV w p n news x cx) (hy : PV w p n news y cy) (hz : n ≤ 100)
    (hdp : dp + 60 < recursionLimit) (hp : 0 < p) (ret : PRet w h₀ L m news p n (List.zipWith (fun a b => (a - b) % p) cx cy) s Q) :
    wpAny (model PySem.Challenge.rw_bw0042_01.row.prog w) (ar dp un gd env outer) (call (.ref 225) [.ref x, .ref y]) Q E s := by
  have hxv := hx
  obtain ⟨B, X, T, hf, hk⟩ := C
  obtain ⟨dx, t, mt, vx, ms, t1, t2, t3, t4, t5, t6, h1, h2, h3, h4, h5, hms, h6⟩ := hx
  obtain ⟨dy, t', mt', vy, ms', t1', t2', t3', t4', t5', t6', h1', h2', h3', h4', h5', hms', h6'⟩ := hy
  simp only [InL] at h1 h2 h3 h4 h1' h2' h3' h4'
  revert X; k_fill; intro X
  k_steps
  unfold HoldOn
  refine comp_KF (by assumption) (by with_unfolding_all rfl) (by decide) rfl (by decide) (by intro _; with_unfolding_all rfl) ?zmain
  case zmain =>
    k_steps
    unfold HoldOn
    refine' cs_zip (J := FqJ w p (List.zipWith (fun a b => (a - b) % p) cx cy)) rfl ?zF ?zN ?zl1 ?zl2 ?zlen ?zz ?zx ?zy ?zxy ?zkk ?zjl ?zj0 ?zst ?zR ?zQ
    case zQ => intro v s' hq; k_steps; exact hq
    case zF => assumption
    case zN => assumption
    case zl1 => k_mem
    case zl2 => k_mem
    case zlen => rw [h6, h6']
    case zz => omega
    case zx => with_unfolding_all rfl
    case zy => with_unfolding_all rfl
    case zkk => rfl
    case zxy => decide
    case zjl => exact fun i ys tl h => Nat.le_of_eq h.1
    case zj0 => exact FqJ.zero
    case zR =>
      intro h' ys D h2 tk tl hJ F6 N6 o1 o2 o3
      obtain ⟨hl, hcs⟩ := hJ.done (news := news) (by simp [← h5.1, ← h5'.1, h6, h6'])
      rw [h6] at hl
      have N7 : News _ _ h2 ((D, PyProof.Rows.LCg.lst ys) :: Apd tl news) := N6
      clear N6
      k_steps
      rename Sm _ _ => hS
      refine PRet.at (own := (D, PyProof.Rows.LCg.lst ys) :: tl) ret ?ho hS (by assumption) (by assumption) (by assumption) (by assumption)
      exact List.forall_mem_cons.mpr ⟨o3, o2⟩
    case zst =>
      intro h2 i v u ys tl C oC m3 h tk led E' hv hu hJ hoC mx my hC hl F6 N6
      obtain ⟨c, hc, fx, fdx, a1, a2, a3, a4, rfl, ha1, ha2⟩ := h5.get hv
      obtain ⟨c', hc', fy, fdy, b1, b2, b3, b4, rfl, hb1, hb2⟩ := h5'.get hu
      have up : ∀ q ∈ news, q ∈ led := fun q hq => hl q (List.mem_append_right _ hq)
      have ha1 := up _ ha1
      have ha2 := up _ ha2
      have hb1 := up _ hb1
      have hb2 := up _ hb2
      have hcc : (List.zipWith (fun a b => (a - b) % p) cx cy)[i]? = some ((c - c') % p) := by rw [List.getElem?_zipWith, hc, hc']
      clear hl up
      k_steps
      exact fq_cend hJ hcc (by assumption) (by assumption) (by assumption) (by assumption)
end
end
section
local macro_rules | `(tactic| walk_at "zzfresh") => `(tactic| skip)
local macro_rules | `(tactic| walk_at "zzfresh") => `(tactic| skip)
local macro_rules | `(tactic| walk_at "zzfresh") => `(tactic| skip)
local macro_rules | `(tactic| walk_at "zzfresh") => `(tactic| skip)
local macro_rules | `(tactic| walk_at "zzfresh") => `(tactic| skip)
local macro_rules | `(tactic| walk_at "zzfresh") => `(tactic| skip)
local macro_rules | `(tactic| walk_at "zzfresh") => `(tactic| skip)
local macro_rules | `(tactic| walk_at "zzfresh") => `(tactic| skip)
local macro_rules | `(tactic| walk_at "zzfresh") => `(tactic| skip)
theorem fresh14 : True := by
  w_top off
  trivial
section
variable {prog : Program} {w : World} {A : Around} {E : Value → Shared → Prop} {s : Shared} {h₀ : Heap} {m : Str → Option Value} {env : Env} {body : List Stmt} {x y : Str} {px py pt : Pos} {kt : Nat} {news : List (Addr × Obj)}
  {J : Nat → (Str → Option Value) → List (Addr × Obj) → Prop} {I b : Addr} {ob : Obj} {vs : List Value} {fp wr : List Addr} {n : Nat} {P : Nat → Value → Prop} {St : Nat → Heap → Prop} {Q : Flow → Shared → Prop}
/-- a for loop's block with a name for target, from what walks -/
theorem fs_gen (W : Walks prog w A I fp wr n P St) (hgo : ∀ i v (s : Shared) (Q : Unit → Shared → Prop) (E : Value → Shared → Prop), St i s.heap → Q () s → wpAny (model prog w) A (letOwnedTupleGo (.Name x px) (.ref I) v) Q E s)
    (F : Fr h₀ env.locals s.heap m) (N : News h₀ env.locals s.heap news) (hL : env.locals ∉ fp) (hwr : ∀ b ∈ wr, h₀.get? b = none) (wrIn : ∀ i h, St i h → ∀ b ∈ wr, ∃ o, h.get? b = some o) (hnw : ∀ p ∈ news, p.1 ∉ wr) (st : St 0 s.heap)
    (hx : env.kindOf x = some .local) (hp : (env.scope.kind == .class || (env.scope.kind == .module && env.locals != env.globals)) = false) (j0 : J 0 m news)
    (step : ∀ i v m₁ news₁ (s₁ : Shared) own (E' : Value → Shared → Prop), i < n → P i v → J i m₁ news₁ → (∀ p ∈ own, p.1 ∈ fp) → (∀ p ∈ news₁, p.1 ∉ wr) → Sm s s₁ → Fr h₀ env.locals s₁.heap (fun z => if z = x then some v else m₁ z) → News h₀ env.locals s₁.heap (Apd own news₁) →
      wpAny (model prog w) A (execs body env) (FPost h₀ env.locals s₁ own news₁ (J (i + 1)) Q) E' s₁) :
    ForB prog w A h₀ env (.Name x px) body I s fp wr n (fun i v _ => P i v) (fun i v h => P i v ∧ St (i + 1) h) St m news J Q where
  W := KTurns.ofWalks W hgo
  hL := hL
  hwr := hwr
  wrIn := wrIn
  hnw := hnw
  st := st
  F := F
  N := N
  j0 := j0
  step := fun i v m₁ news₁ s₁ own E' hi hP hJ ho hw hS F₁ N₁ => by
    refine wpAny_assign_Name (wpAny_storeName_local hx F₁.ns (fun h' hn' hs' => ?_) hp)
    exact step i v m₁ news₁ { s₁ with heap := h', toks := s₁.toks + 1 } own E' hi hP hJ ho hw hS (F₁.set hn' hs') (N₁.set hs')
/-- over a list or a tuple -/
theorem fs_sq {R : Shared → Nat → (Nat → (Str → Option Value) → List (Addr × Obj) → Prop) → Prop} (hh : A.handled = none) (F : Fr h₀ env.locals s.heap m) (N : News h₀ env.locals s.heap news) (hb : (b, ob) ∈ news) (hq : Sq ob vs)
    (hx : env.kindOf x = some .local) (hp : (env.scope.kind == .class || (env.scope.kind == .module && env.locals != env.globals)) = false) (j0 : J 0 m news)
    (step : ∀ I h₂, (∀ q ∈ news, q.1 < I) → ∀ i v m₁ news₁ (s₁ : Shared) own (E' : Value → Shared → Prop), vs[i]? = some v → J i m₁ news₁ → (∀ p ∈ own, p.1 = I ∨ p.1 = b) → (∀ p ∈ news₁, p.1 ≠ I) → Sm { s with heap := h₂ } s₁ → Fr h₀ env.locals s₁.heap (fun z => if z = x then some v else m₁ z) → News h₀ env.locals s₁.heap (Apd own news₁) →
      wpAny (model prog w) A (execs body env) (FPost h₀ env.locals s₁ own news₁ (J (i + 1)) Q) E' s₁)
    (hR : ∀ h', R { s with heap := h' } vs.length J) :
    wpAny (model prog w) A (pyIter (.ref b)) (fun it s₂ => ∃ I fp wr n P Md St m news J, it = .ref I ∧ ForB prog w A h₀ env (.Name x px) body I s₂ fp wr n P Md St m news J Q ∧ R s₂ n J) E s := by
  refine iter_sq F N hb hq fun I itob h' St F₁ N₁ hI hI1 hst W hSt hgo => ?_
  have hI0 := (N₁ _ List.mem_cons_self).2
  refine ⟨I, [I, b], [I], vs.length, _, _, St, m, news, J, rfl, fs_gen (W A hh) (fun i v s Q E => hgo A (.Name x px) i v s Q E) F₁ (fun p hp => N₁ p (List.mem_cons_of_mem _ hp)) ?_ ?_ ?_ ?_ hst hx hp j0 (fun i v m₁ news₁ s₁ own E' _ hv hJ ho hw => step I h' hI i v m₁ news₁ s₁ own E' hv hJ (fun p hp => ?_) (fun p hp e => hw p hp (List.mem_singleton.mpr e))), hR h'⟩
  · intro hq
    rcases List.mem_cons.mp hq with e | hq
    · exact hI0.1 e.symm
    · rw [List.mem_singleton] at hq; exact (N _ hb).2.1 hq.symm
  · intro q hq
    rw [List.mem_singleton.mp hq]; exact hI0.2
  · intro i h st q hq
    rw [List.mem_singleton.mp hq]; exact hSt i h st
  · intro q hq hw
    rw [List.mem_singleton] at hw
    exact Nat.lt_irrefl _ (hw ▸ hI q hq : I < I)
  · rcases List.mem_cons.mp (ho p hp) with e | e
    · exact .inl e
    · exact .inr (List.mem_singleton.mp e)
/-- over a zip of two tuples, a pair for target -/
theorem fs_zip {R : Shared → Nat → (Nat → (Str → Option Value) → List (Addr × Obj) → Prop) → Prop} {l1 l2 : Addr} {xs ys₀ : List Value} {Q₀ : Value → Shared → Prop} (hh : A.handled = none) (F : Fr h₀ env.locals s.heap m) (N : News h₀ env.locals s.heap news) (h1 : (l1, tup xs) ∈ news) (h2 : (l2, tup ys₀) ∈ news) (hlen : xs.length = ys₀.length)
    (hx : env.kindOf x = some .local) (hy : env.kindOf y = some .local) (hp : (env.scope.kind == .class || (env.scope.kind == .module && env.locals != env.globals)) = false) (j0 : J 0 m news)
    (step : ∀ i v u m₁ news₁ (s₁ : Shared) own (E' : Value → Shared → Prop), xs[i]? = some v → ys₀[i]? = some u → J i m₁ news₁ → Sm s s₁ → Fr h₀ env.locals s₁.heap (fun z => if z = y then some u else if z = x then some v else m₁ z) → News h₀ env.locals s₁.heap (Apd own news₁) →
      wpAny (model prog w) A (execs body env) (FPost h₀ env.locals s₁ own news₁ (J (i + 1)) Q) E' s₁)
    (hR : ∀ h', R { s with heap := h' } xs.length J)
    (hQ : ∀ v s', wpAny (model prog w) A (pyIter v) (fun it s₂ => ∃ I fp wr n P Md St m news J, it = .ref I ∧ ForB prog w A h₀ env (.Tuple [.Name x px, .Name y py] kt pt) body I s₂ fp wr n P Md St m news J Q ∧ R s₂ n J) E s' → Q₀ v s') :
    wpAny (model prog w) A (call (.type "zip") [.ref l1, .ref l2]) Q₀ E s := by
  have g1 := N _ h1
  have g2 := N _ h2
  have hLs : @LT.lt Nat _ env.locals s.heap.objs.size := F.ns.lt
  have hab : @LE.le Nat _ h₀.objs.size s.heap.objs.size := Nat.le_trans F.above (Nat.le_of_lt hLs)
  have hnl : ∀ p ∈ news, @LT.lt Nat _ p.1 s.heap.objs.size := fun p hp => Heap.lt_size (N p hp).1
  have lt1 : @LT.lt Nat _ l1 s.heap.objs.size := Heap.lt_size g1.1
  have lt2 : @LT.lt Nat _ l2 s.heap.objs.size := Heap.lt_size g2.1
  refine call_zt (xs := xs.toArray) (ys := ys₀.toArray) ⟨_, g1.1, rfl, _, rfl⟩ ⟨_, g2.1, rfl, _, rfl⟩ fun h' hst hsz hk => hQ _ _ ?_
  generalize s.heap.objs.size = k at hst hsz lt1 lt2 hLs hab hnl ⊢
  have D : ZipApart (k + 4) (k + 2) (k + 3) k (k + 1) l1 l2 := by constructor <;> (show @Ne Nat _ _; omega)
  have D1 := dr_tuple (prog := prog) (w := w) (i := k) (t := l1) (show @Ne Nat l1 k by omega) xs.toArray
  have D2 := dr_tuple (prog := prog) (w := w) (i := k + 1) (t := l2) (show @Ne Nat l2 (k + 1) by omega) ys₀.toArray
  have hmin : min xs.toArray.size ys₀.toArray.size = xs.length := by simp [hlen]
  have F₁ : Fr h₀ env.locals h' m := F.keeps hk
  have fr : ∀ a, @LE.le Nat _ k a → h₀.get? a = none := fun a ha => Heap.get?_none_of_le (Nat.le_trans hab ha)
  have lL1 : env.locals ≠ l1 := fun e => g1.2.1 e.symm
  have lL2 : env.locals ≠ l2 := fun e => g2.2.1 e.symm
  have KT := zip_turns (A := A) (elts := [.Name x px, .Name y py]) (c := kt) (pos := pt) hh D D1 D2
  rw [hmin] at KT
  refine wpAny_pyIter_zip hst.1 ?_
  refine ⟨k + 4, [k + 4, k + 2, k + 3, k, k + 1, l1, l2], [k + 4, k + 3, k, k + 1], xs.length, ZOut xs.toArray ys₀.toArray, ZMd (k + 4) (k + 2) (k + 3) k (k + 1) (fun i h => h.IsTupleIter k l1 i ∧ h.IsTuple l1 xs.toArray) (fun i h => h.IsTupleIter (k + 1) l2 i ∧ h.IsTuple l2 ys₀.toArray) xs.toArray ys₀.toArray, ZSt (k + 4) (k + 2) (k + 3) k (k + 1) (fun i h => h.IsTupleIter k l1 i ∧ h.IsTuple l1 xs.toArray) (fun i h => h.IsTupleIter (k + 1) l2 i ∧ h.IsTuple l2 ys₀.toArray), m, news, J, rfl, ?_, hR h'⟩
  refine { W := KT, hL := ?_, hwr := ?_, wrIn := ?_, hnw := ?_, st := hst, F := F₁, N := fun p hp => ⟨hk _ _ (N p hp).1, (N p hp).2⟩, j0 := j0, step := ?_ }
  · intro hq
    simp only [List.mem_cons, List.not_mem_nil, or_false] at hq
    rcases hq with e | e | e | e | e | e | e
    all_goals first | exact lL1 e | exact lL2 e | (have e' : @Eq Nat env.locals _ := e; omega)
  · intro q hq
    simp only [List.mem_cons, List.not_mem_nil, or_false] at hq
    rcases hq with rfl | rfl | rfl | rfl
    all_goals exact fr _ (by omega)
  · intro i h st q hq
    obtain ⟨hz, hTI, ⟨a, b, hTO⟩, s1, s2⟩ := st
    simp only [List.mem_cons, List.not_mem_nil, or_false] at hq
    rcases hq with rfl | rfl | rfl | rfl
    · exact ⟨_, hz⟩
    · exact ⟨_, hTO⟩
    · exact (D1.here _ _ s1).1
    · exact (D2.here _ _ s2).1
  · intro q hq hw
    have := hnl q hq
    simp only [List.mem_cons, List.not_mem_nil, or_false] at hw
    rcases hw with e | e | e | e
    all_goals (have e' : @Eq Nat q.1 _ := e; omega)
  · intro i v m₁ news₁ s₁ own E' hi hP hJ ho hw hS F₂ N₂
    obtain ⟨T, a, b, rfl, ha, hb, hT⟩ := hP
    refine assign_Tuple_tuple hh hT rfl rfl fun h₅ he => ?_
    have he' : ∀ b o, s₁.heap.get? b = some o → h₅.get? b = some o := fun b o e => he b o (Nat.ne_of_lt (Heap.lt_size e)) e
    have F₅ : Fr h₀ env.locals h₅ m₁ := F₂.keeps he'
    have N₅ : News h₀ env.locals h₅ (Apd own news₁) := fun p hp => ⟨he' _ _ (N₂ p hp).1, (N₂ p hp).2⟩
    refine assignInOrder_cons (wpAny_assign_Name (wpAny_storeName_local hx F₅.ns (fun h₆ hn₆ hs₆ => ?_) hp))
    refine assignInOrder_cons (wpAny_assign_Name (wpAny_storeName_local hy hn₆ (fun h₇ hn₇ hs₇ => ?_) hp))
    refine assignInOrder_nil ?_
    exact step i a b m₁ news₁ { s₁ with heap := h₇, toks := s₁.toks + 1 + 1 } own E' (by simpa using ha) (by simpa using hb) hJ hS ((F₅.set hn₆ hs₆).set hn₇ hs₇) ((N₅.set hs₆).set hs₇)
end
theorem for_KF {prog : Program} {w : World} {A : Around} {E : Value → Shared → Prop} {s : Shared} {h₀ : Heap} {m₀ : Str → Option Value} {env : Env} {target iter : Expr} {body : List Stmt} {pos : Pos} {Q : Flow → Shared → Prop} (_F : Fr h₀ env.locals s.heap m₀) (hs : ∀ x, foldedSetIterable iter env x = pure x)
    (h : wpAny (model prog w) A (eval iter env) (fun xv s₁ => wpAny (model prog w) A (pyIter xv) (fun it s₂ => ∃ I fp wr n P Md St m news J, it = .ref I ∧ ForB prog w A h₀ env target body I s₂ fp wr n P Md St m news J Q ∧
      ∀ s' m' news', J n m' news' → Sm s₂ s' → Fr h₀ env.locals s'.heap m' → News h₀ env.locals s'.heap news' → Q .next s') E s₁) E s) :
    wpAny (model prog w) A (exec (.For target iter body [] pos) env) Q E s := for_K h hs
end
section
local macro_rules | `(tactic| k_room) => `(tactic| ((try simp only [depth_under_make, depth_under_kw, depth_in1, depth_deeper, depth_caller]); (try dsimp only [ar]); omega))
local macro_rules | `(tactic| k_units) => `(tactic| ((have hcL9 := cLine_is); (try simp only [units_in1, units_deeper, Around.mark_units, units_caller]); (try dsimp only [ar]); omega))
local macro_rules | `(tactic| k_enter) => `(tactic| first
  | (refine' code_def ?k1 ?k2 ?k3 ?k4 ?k5 ?kA ?kF ?kK ?k6 ?k7 ?k8 ?k9 ?kB ?_ ?c2 ?c3 ?c4 ?c5; (case kA => exact rfl); (case kF => first | exact rfl | assumption); (case kK => first | exact rfl | assumption); (case k1 => k_asm); (case k2 => k_asm); (case k3 => k_asm); (case k4 => k_asm); (case k5 => k_asm); (case k6 => k_is); (case k7 => k_is); (case k8 => k_room); (case k9 => exact BindsTo.of_eq rfl); (case c5 => decide); (case kB => exact locs rfl); (case c2 => exact rfl); (case c3 => exact rfl); (case c4 => exact rfl); k_whole; intro g' L' h' FG' F' N' B' X' T'; (try dsimp only); (try k_lift B'); (try k_fold))
  | (refine' code_defC ?k1 ?k2 ?k3 ?k4 ?k5 ?kA ?kF ?kK ?k6 ?k7 ?k8 ?k9 ?kB ?kD ?_ ?c2 ?c3 ?c4; (case kA => exact rfl); (case kF => first | exact rfl | assumption); (case kK => first | exact rfl | assumption); (case k1 => k_asm); (case k2 => k_asm); (case k3 => k_asm); (case k4 => k_asm); (case k5 => k_asm); (case k6 => k_is); (case k7 => k_is); (case k8 => k_room); (case k9 => exact BindsTo.of_eq rfl); (case kB => exact rfl); (case kD => decide +kernel); (case c2 => exact rfl); (case c3 => exact rfl); (case c4 => exact rfl); k_whole; intro g' L' h' tk' cells' FG' F' N' Y' B' X' T' l1; (try k_lt l1); k_cells Y'; (try simp only [List.cons_append, List.nil_append] at N'); (try dsimp only); (try k_lift B'); (try k_fold)))
local macro_rules | `(tactic| k_mem) => `(tactic| first | exact List.Mem.head _ | (refine' List.Mem.tail _ ?_; k_mem) | assumption)
local macro_rules | `(tactic| mul_fits) => `(tactic| with_reducible assumption)
local macro_rules | `(tactic| walk_at "call ref") => `(tactic| (k_here; (with_reducible show wpAny _ _ (call (Value.ref 183) _) _ _ _); k_dflt (first
  | (refine' fq_new ?C ?F ?N ?d ?p ?_; (case C => exact Cx.mk (by k_asm) (by k_asm) (by k_asm) (by first | exact rfl | assumption) (by first | exact rfl | assumption)); (case F => k_asm); (case N => k_asm); (case d => k_room); (case p => assumption); k_whole)
  | (refine' fq_copy ?C ?F ?N ?x ?dx ?d ?p ?_; (case C => exact Cx.mk (by k_asm) (by k_asm) (by k_asm) (by first | exact rfl | assumption) (by first | exact rfl | assumption)); (case F => k_asm); (case N => k_asm); (case x => k_mem); (case dx => k_mem); (case d => k_room); (case p => assumption); k_whole)); intro r' d' t1' t2' tp' tn' h' tk' F' N' l1' l2'; (try k_sweep)))
local macro_rules | `(tactic| walk_at "call ref") => `(tactic| (k_here; first
  | ((with_reducible show wpAny _ _ (call (Value.ref 61) _) _ _ _); k_dflt (refine' fq_add ?zC ?zF ?zN ?zx ?zdx ?zy ?zdy ?zd ?zp ?_; (case zC => exact Cx.mk (by k_asm) (by k_asm) (by k_asm) (by first | exact rfl | assumption) (by first | exact rfl | assumption)); (case zF => k_asm); (case zN => k_asm); (case zx => k_mem); (case zdx => k_mem); (case zy => k_mem); (case zdy => k_mem); (case zd => k_room); (case zp => assumption); k_whole); intro r' d' t1' t2' tp' tn' h' tk' F' N' l1' l2'; (have lx' := allLt_of l1'); (try simp only [AllLt] at lx'); (have ly' := ltA l2'); (try dsimp only [PySem.W.CmpBack]); (try k_sweep))
  | ((with_reducible show wpAny _ _ (call (Value.ref 68) _) _ _ _); k_dflt (refine' fq_mul ?zC ?zF ?zN ?zx ?zdx ?zy ?zdy ?zd ?zp ?za ?zb ?_; (case zC => exact Cx.mk (by k_asm) (by k_asm) (by k_asm) (by first | exact rfl | assumption) (by first | exact rfl | assumption)); (case zF => k_asm); (case zN => k_asm); (case zx => k_mem); (case zdx => k_mem); (case zy => k_mem); (case zdy => k_mem); (case zd => k_room); (case zp => assumption); (case za => assumption); (case zb => assumption); k_whole); intro r' d' t1' t2' tp' tn' h' tk' F' N' l1' l2'; (have lx' := allLt_of l1'); (try simp only [AllLt] at lx'); (have ly' := ltA l2'); (try dsimp only [PySem.W.CmpBack]); (try k_sweep))
  | ((with_reducible show wpAny _ _ (call (Value.ref 96) _) _ _ _); k_dflt (refine' fq_sub ?zC ?zF ?zN ?zx ?zdx ?zy ?zdy ?zd ?zp ?_; (case zC => exact Cx.mk (by k_asm) (by k_asm) (by k_asm) (by first | exact rfl | assumption) (by first | exact rfl | assumption)); (case zF => k_asm); (case zN => k_asm); (case zx => k_mem); (case zdx => k_mem); (case zy => k_mem); (case zdy => k_mem); (case zd => k_room); (case zp => assumption); k_whole); intro r' d' t1' t2' tp' tn' h' tk' F' N' l1' l2'; (have lx' := allLt_of l1'); (try simp only [AllLt] at lx'); (have ly' := ltA l2'); (try dsimp only [PySem.W.CmpBack]); (try k_sweep))
  | ((with_reducible show wpAny _ _ (call (Value.ref 131) _) _ _ _); k_dflt (refine' fq_ne ?zC ?zF ?zN ?zx ?zdx ?zy ?zdy ?zd ?zu ?_; (case zC => exact Cx.mk (by k_asm) (by k_asm) (by k_asm) (by first | exact rfl | assumption) (by first | exact rfl | assumption)); (case zF => k_asm); (case zN => k_asm); (case zx => k_mem); (case zdx => k_mem); (case zy => k_mem); (case zdy => k_mem); (case zd => k_room); (case zu => k_units); k_whole); intro h' tk' F' N'; (try dsimp only [PySem.W.CmpBack]); (try k_sweep))))
local macro_rules | `(tactic| walk_at "eval GeneratorExp") => `(tactic| (k_here; refine hold_on ?_))
local macro_rules | `(tactic| walk_at "eval ListComp") => `(tactic| (k_here; refine hold_on ?_))
local macro_rules | `(tactic| walk_at "exec For") => `(tactic| (k_here; refine hold_on ?_))
local macro_rules | `(tactic| walk_at "exec While") => `(tactic| (k_here; refine hold_on ?_))
local macro_rules | `(tactic| walk_at "call builtin:len") => `(tactic| (k_here; refine len_sq (by assumption) (by k_mem) (by first | assumption | exact Sq.tup _ | exact Sq.lo _ _) (by assumption) (by omega) ?_; intro t' tk'))
local macro_rules | `(tactic| walk_at "compareOp NotEq int int") => `(tactic| with_reducible refine ne_self ?_)
local macro_rules | `(tactic| walk_at "eval Name") => `(tactic| (k_here; (with_reducible show wpAny _ _ (eval (Expr.Name _ _) (genEnv _ _ _ _ _ _)) _ _ _); first
  | (refine' gn_L ?F ?hv ?_ ?hk ?hx ?hd; (case F => assumption); (case hx => with_unfolding_all rfl); (case hv => first | exact if_pos rfl | assumption); (case hk => rfl); (case hd => decide); skip)
  | (refine' gn_F ?N ?hc ?hm ?hd ?_ ?hk ?hx ?hb ?hn; (case N => assumption); (case hx => with_unfolding_all rfl); (case hc => with_unfolding_all rfl); (case hm => k_mem); (case hd => with_reducible assumption); (case hk => rfl); (case hb => decide); (case hn => decide))))
local macro_rules | `(tactic| walk_at "call type:tuple") => `(tactic| (k_here; refine' tuple_sq ?F ?N ?hb ?hq ?hz ?_; (case F => assumption); (case N => assumption); (case hb => k_mem); (case hq => first | assumption | exact Sq.tup _ | exact Sq.lo _ _); (case hz => omega); intro T' h' F' N' l'; (replace l' := Or.imp allLt_of eqN l'); (try simp only [AllLt] at l')))
local macro_rules | `(tactic| k_all) => `(tactic| (with_reducible assumption))
local macro_rules | `(tactic| walk_at "call type:zip") => `(tactic| (k_here; refine hold_on ?_))
local macro_rules | `(tactic| walk_at "exec For Name Attribute cons nil") => `(tactic| (k_here; refine hold_on ?_))
local macro_rules | `(tactic| walk_at "exec For Name Call") => `(tactic| (k_here; refine hold_on ?_))
local macro_rules | `(tactic| walk_at "exec For Name Call cons nil") => `(tactic| (k_here; refine hold_on ?_))
local macro_rules | `(tactic| walk_at "exec For Name List cons nil") => `(tactic| (k_here; refine hold_on ?_))
local macro_rules | `(tactic| walk_at "exec For Name Name") => `(tactic| (k_here; refine hold_on ?_))
local macro_rules | `(tactic| walk_at "exec For Name Name cons nil") => `(tactic| (k_here; refine hold_on ?_))
local macro_rules | `(tactic| walk_at "exec For Name Subscript cons nil") => `(tactic| (k_here; refine hold_on ?_))
local macro_rules | `(tactic| walk_at "exec For Tuple Call") => `(tactic| (k_here; refine hold_on ?_))
local macro_rules | `(tactic| walk_at "exec For Tuple Call cons nil") => `(tactic| (k_here; refine hold_on ?_))
local macro_rules | `(tactic| walk_at "exec For Tuple List cons nil") => `(tactic| (k_here; refine hold_on ?_))
local macro_rules | `(tactic| walk_at "exec For Tuple Name") => `(tactic| (k_here; refine hold_on ?_))
local macro_rules | `(tactic| walk_at "exec For Tuple Name cons nil") => `(tactic| (k_here; refine hold_on ?_))
local macro_rules | `(tactic| walk_at "exec For Tuple Attribute cons nil") => `(tactic| (k_here; refine hold_on ?_))
local macro_rules | `(tactic| walk_at "exec Assign cons ListComp") => `(tactic| (k_here; refine hold_on ?_))
local macro_rules | `(tactic| walk_at "exec While BoolOp") => `(tactic| (k_here; refine hold_on ?_))
local macro_rules | `(tactic| walk_at "exec While Compare") => `(tactic| (k_here; refine hold_on ?_))
local macro_rules | `(tactic| walk_at "call ref") => `(tactic| (k_here; (with_reducible show wpAny _ _ (call (Value.ref 297) _) _ _ _); k_dflt (
  refine' pinitW ?zC ?zF ?zN ?zb ?zW ?zhb ?zhob ?zhd ?zhod ?zhvs ?zhn ?zhms ?zhz ?zdp ?zp ?_; (case zC => exact Cx.mk (by k_asm) (by k_asm) (by k_asm) (by first | exact rfl | assumption) (by first | exact rfl | assumption)); (case zF => k_asm); (case zN => k_asm); (case zb => assumption); (case zW => assumption); (case zhb => k_mem); (case zhob => first | assumption | exact Sq.tup _ | exact Sq.lo _ _); (case zhd => k_mem); (case zhod => first | assumption | exact Sq.tup _);
    (case zhvs => assumption); (case zhn => assumption); (case zhms => assumption); (case zhz => assumption); (case zdp => k_room); (case zp => assumption); k_whole); intro x' ex' s' hSm' F' N' lo' hv'; (have hbr' := Sm.bare hSm' (by assumption)); (try k_sweep)))
local macro_rules | `(tactic| k_mem) => `(tactic| first | exact List.Mem.head _ | (refine' List.Mem.tail _ ?_; k_mem) | assumption)
local macro_rules | `(tactic| k_mem) => `(tactic| ((first | (with_reducible refine' mem_apdM ?h) | (with_reducible refine' mem_apd ?h)); (case h => k_mem)))
local macro_rules | `(tactic| walk_at "zwm") => `(tactic| with_reducible first | assumption | (refine' Warm.cons ?h; (case h => walk_at "zwm")) | (refine' Warm.app ?h; (case h => walk_at "zwm")))
local macro_rules | `(tactic| walk_at "zpx") => `(tactic| with_reducible first | assumption | (refine' PV.cons ?h; (case h => walk_at "zpx")) | (refine' PV.app ?h; (case h => walk_at "zpx")))
local macro_rules | `(tactic| walk_at "zal") => `(tactic| with_reducible first | assumption | (refine' All2.any ?h; (case h => assumption)) | (refine' All2.cons ?h; (case h => walk_at "zal")) | (refine' All2.app ?h; (case h => walk_at "zal")))
local macro_rules | `(tactic| walk_at "call ref") => `(tactic| (k_here; (with_reducible show wpAny _ _ (call (Value.ref 208) _) _ _ _); first
  | (k_dflt (
  refine' pmade ?zC ?zF ?zN ?zb ?zW ?zhx ?zhb ?zhob ?zhvs ?zhn ?zhz ?zdp ?zp ?_; (case zC => exact Cx.mk (by k_asm) (by k_asm) (by k_asm) (by first | exact rfl | assumption) (by first | exact rfl | assumption)); (case zF => k_asm); (case zN => k_asm); (case zb => assumption); (case zW => walk_at "zwm"); (case zhx => walk_at "zpx"); (case zhb => k_mem); (case zhob => first | assumption | exact Sq.tup _ | exact Sq.lst _ | exact Sq.lo _ _);
    (case zhvs => walk_at "zal"); (case zhn => assumption); (case zhz => assumption); (case zdp => k_room); (case zp => assumption); k_whole); intro x' ex' s' hSm' F' N' lo' hv'; (have hbr' := Sm.bare hSm' (by assumption)); (try k_sweep))
  | refine hold_on ?_))
local macro_rules | `(tactic| walk_at "zho") => `(tactic| ((rename (∀ _, _ ∈ _ → _ < _) => h9); repeat' (first | exact List.forall_mem_nil _ | (refine List.forall_mem_cons.mpr ⟨?_, ?_⟩) | (intro r9 hr9; (have h8 := ltA (h9 r9 hr9)); refine ltA ?_; dsimp only; omega))))
local macro_rules | `(tactic| walk_at "zzfresh") => `(tactic| skip)
local macro_rules | `(tactic| walk_at "zzfresh") => `(tactic| skip)
theorem fresh15 : True := by
  w_top off
  trivial
section
variable {w : World} {A₀ : Around} {dp un : Nat} {gd : Option (List Code)} {env : Env} {outer : List Env} {base h₀ : Heap} {L : Addr} {m : Str → Option Value} {news : List (Addr × Obj)} {s : Shared} {pr : Program} {loose : List Str} {mean : ExcName → Option Value} {mg mb : Str → Option Value}
  {p a : Int} {Q E : Value → Shared → Prop} {b d : Addr} {ob od : Obj} {vs ms : List Value} {cs : List Int}
theorem peq {x y : Addr} {cx cy : List Int} {n : Nat} (C : Cx w A₀ env outer base h₀ L pr loose mean mg mb) (F : Fr h₀ L s.heap m) (N : News h₀ L s.heap news)
    (hx : PV w p n news x cx) (hy : PV w p n news y cy) (hz : n ≤ 100)
    (hdp : dp + 60 < recursionLimit) (hun : un + 300 < cLine) (ret : ∀ s', Sm s s' → Fr h₀ L s'.heap m → News h₀ L s'.heap news → Q (.bool (cx == cy)) s') :
    wpAny (model PySem.Challenge.rw_bw0042_01.row.prog w) (ar dp un gd env outer) (call (.ref 268) [.ref x, .ref y]) Q E s := by
  obtain ⟨B, X, T, hf, hk⟩ := C
  obtain ⟨dx, t, mt, vx, ms, t1, t2, t3, t4, t5, t6, h1, h2, h3, h4, h5, hms, h6⟩ := hx
  obtain ⟨dy, t', mt', vy, ms', t1', t2', t3', t4', t5', t6', h1', h2', h3', h4', h5', hms', h6'⟩ := hy
  simp only [InL] at h1 h2 h3 h4 h1' h2' h3' h4'
  revert X; k_fill; intro X
  k_steps
  unfold HoldOn
  refine for_KF (by assumption) (by intro _; with_unfolding_all rfl) ?zmain
  case zmain =>
    k_steps
    unfold HoldOn
    refine' fs_zip (J := fun i _ news₁ => news₁ = news ∧ ∀ k, k < i → cx[k]? = cy[k]?) rfl ?zF ?zN ?zl1 ?zl2 ?zlen ?zx ?zy ?zpp ?zj0 ?zst ?zR ?zQ
    case zQ => intro v s' hq; k_steps; exact hq
    case zF => assumption
    case zN => assumption
    case zl1 => k_mem
    case zl2 => k_mem
    case zlen => rw [h6, h6']
    case zx => with_unfolding_all rfl
    case zy => with_unfolding_all rfl
    case zpp => with_unfolding_all rfl
    case zj0 => exact ⟨rfl, fun k h => absurd h (Nat.not_lt_zero k)⟩
    case zR =>
      rintro h' s' m' news' ⟨rfl, hall⟩ hS F6 N6
      have e : (cx == cy) = true := by
        rw [beq_iff_eq]
        refine List.ext_getElem? fun k => ?_
        by_cases hk : k < vx.length
        · exact hall k hk
        · rw [List.getElem?_eq_none (by rw [← h5.1]; omega), List.getElem?_eq_none (by rw [← h5'.1]; omega)]
      k_steps
      have z := ret _ hS (by assumption) (by assumption)
      rw [e] at z
      exact z
    case zst =>
      rintro i v u m₁ news₁ s₁ own E' hv hu ⟨rfl, hall⟩ hS F6 N6
      obtain ⟨c, hc, fx, fdx, a1, a2, a3, a4, rfl, ha1, ha2⟩ := h5.get hv
      obtain ⟨c', hc', fy, fdy, b1, b2, b3, b4, rfl, hb1, hb2⟩ := h5'.get hu
      simp only [InL] at ha1 ha2 hb1 hb2
      k_steps
      · rename c = c' => hcc
        refine ⟨_, news₁, by assumption, by assumption, fun p hp => .inl ⟨p, hp, rfl⟩, ⟨rfl, fun k hk => ?_⟩, Sm.of⟩
        by_cases e : k = i
        · subst e; rw [hc, hc', hcc]
        · exact hall k (by omega)
      · rename c ≠ c' => hcc
        have e : (cx == cy) = false := by
          rw [beq_eq_false_iff_ne]
          intro e
          rw [e, hc'] at hc
          exact hcc (Option.some.inj hc).symm
        dsimp only [FPost]
        k_steps
        rename News _ _ _ _ => kN
        have z := ret _ (Sm.upd hS) (by assumption) (fun q hq => kN q (mem_apd hq))
        rw [e] at z
        exact z
end
end
section
local macro_rules | `(tactic| walk_at "zzfresh") => `(tactic| skip)
local macro_rules | `(tactic| walk_at "zzfresh") => `(tactic| skip)
local macro_rules | `(tactic| walk_at "zzfresh") => `(tactic| skip)
local macro_rules | `(tactic| walk_at "zzfresh") => `(tactic| skip)
local macro_rules | `(tactic| walk_at "zzfresh") => `(tactic| skip)
local macro_rules | `(tactic| walk_at "zzfresh") => `(tactic| skip)
local macro_rules | `(tactic| walk_at "zzfresh") => `(tactic| skip)
local macro_rules | `(tactic| walk_at "zzfresh") => `(tactic| skip)
local macro_rules | `(tactic| walk_at "zzfresh") => `(tactic| skip)
local macro_rules | `(tactic| walk_at "zzfresh") => `(tactic| skip)
theorem fresh16 : True := by
  w_top off
  trivial
section
variable {prog : Program} {w : World} {A : Around} {E : Value → Shared → Prop} {s : Shared} {h₀ : Heap} {L : Addr} {m : Str → Option Value} {env : Env} {elt : Expr} {x : Str} {px : Pos} {scope : Scope} {cl : List (Str × Addr)} {news : List (Addr × Obj)}
  {r : Addr} {a b c : Int} {t₀ u₀ v₀ : Tok} {n : Nat}
theorem rng_walks {I : Addr} (hh : A.handled = none) (a c : Int) (n : Nat) : Walks prog w A I [I] [I] n (fun i v => i < n ∧ ∃ t, v = .int (a + (i : Int) * c) t) (fun i h => IsRangeIter h I (a + (i : Nat) * c) ((n : Int) - (i : Nat)) c) :=
  let W := Walks.range (prog := prog) (w := w) hh I a c n
  { sub := W.sub, frame := W.frame, done := W.done, self := W.self, item := fun i s Q E hi st hQ => W.item i s Q E hi st fun v h' tk hP => hQ v h' tk ⟨hi, hP⟩ }
theorem rng_up {k : Int} (h0 : 0 ≤ k) (h1 : k < 2 ^ 60) : Builtin.Range.small 0 k 1 = true ∧ Builtin.Range.rangeSize 0 k 1 = (k.toNat : Int) := by
  refine ⟨small_one (by omega) (by omega) (by omega) (by omega), ?_⟩
  simp only [Builtin.Range.rangeSize]
  split <;> split <;> omega
theorem rng_up2 {j k : Int} (hj : 0 ≤ j) (hjk : j ≤ k) (h1 : k < 2 ^ 60) : Builtin.Range.small j k 1 = true ∧ Builtin.Range.rangeSize j k 1 = ((k - j).toNat : Int) := by
  refine ⟨small_one (by omega) (by omega) (by omega) (by omega), ?_⟩
  simp only [Builtin.Range.rangeSize]
  split <;> split <;> omega
theorem iter_rng (F : Fr h₀ L s.heap m) (N : News h₀ L s.heap news) (hr : IsRange s.heap r a b c t₀ u₀ v₀) (hs : Builtin.Range.small a b c = true ∧ Builtin.Range.rangeSize a b c = (n : Int)) {Q : Value → Shared → Prop}
    (h : ∀ I h', Fr h₀ L h' m → News h₀ L h' news → (∀ q ∈ news, q.1 < I) → h'.objs.size = I + 1 → I ≠ L → h₀.get? I = none → IsRangeIter h' I (a + ((0 : Nat) : Int) * c) ((n : Int) - ((0 : Nat) : Int)) c → Q (.ref I) { s with heap := h' }) :
    wpAny (model prog w) A (pyIter (.ref r)) Q E s := by
  refine wpAny_pyIter_range hr hs.1 ?_
  have N₁ := News.push F N { cls := .type "range_iterator", data := .fields #[rawInt a, rawInt (Builtin.Range.rangeSize a b c), rawInt c] } rfl
  have z := N₁ _ List.mem_cons_self
  refine h _ _ (F.push _) (fun p hp => N₁ p (List.mem_cons_of_mem _ hp)) (fun q hq => Heap.lt_size (N q hq).1) (Heap.size_push ..) z.2.1 z.2.2 ?_
  show IsRangeIter _ _ _ _ _
  rw [hs.2]
  simpa using Heap.get?_push_size _ rfl
open PyProof.Rows.LCg in
theorem cs_rng {J : Nat → List Value → List (Addr × Obj) → Prop} {R : Shared → Nat → List (Addr × Obj) → (Nat → List Value → List (Addr × Obj) → Prop) → Prop} (hh : A.handled = none) (F : Fr h₀ L s.heap m) (N : News h₀ L s.heap news) (hr : IsRange s.heap r a b c t₀ u₀ v₀) (hs : Builtin.Range.small a b c = true ∧ Builtin.Range.rangeSize a b c = (n : Int)) (hz : n ≤ 16384)
    (hx : scope.names.lookup x = some .local) (hkind : scope.kind = .function) (jlen : ∀ i ys tl, J i ys tl → ys.length ≤ i) (j0 : J 0 [] [])
    (step : ∀ h₂, ∀ i t ys tl C oC m₃ h tk led (E' : Value → Shared → Prop), i < n → J i ys tl → NsObj oC m₃ → m₃ x = some (.int (a + (i : Int) * c) t) → (C, oC) ∈ led → (∀ p ∈ tl ++ news, p ∈ led) → Fr h₀ L h m → News h₀ L h led →
      wpAny (model prog w) A (eval elt (compEnvC scope cl C env)) (fun y s₄ => CEnd h₀ L m { ({ s with heap := h₂ } : Shared) with heap := h, toks := tk } led tl (J (i + 1) (ys ++ [y])) s₄) E' { ({ s with heap := h₂ } : Shared) with heap := h, toks := tk })
    (hR : ∀ h', R { s with heap := h' } n news J) :
    wpAny (model prog w) A (pyIter (.ref r)) (fun it s₂ => ∃ I fp wr n P Md St news B J, it = .ref I ∧ CompB prog w A h₀ L m env elt (.Name x px) [] scope cl I s₂ fp wr n P Md St news B J ∧ R s₂ n news J) E s := by
  refine iter_rng F N hr hs fun I h' F₁ N₁ hI hI1 hIL hI0 hst => ?_
  refine ⟨I, [I], [I], n, _, _, _, news, _, J, rfl, cs_gen (rng_walks hh a c n) (fun i v s' Q' E' st hq => wpAny_of_eq (rfl : letOwnedTupleGo (.Name x px) (.ref I) v = pure ()) hq) F₁ N₁ ?_ ?_ ?_ ?_ hst (Nat.le_trans hz (by decide)) hx hkind jlen j0 (fun i v ys tl C oC m₃ h tk led E' hi hP hJ hoC hm hC hl F N => ?_), hR h'⟩
  · intro q hq
    show @LT.lt Nat _ q h'.objs.size
    rw [hI1, List.mem_singleton.mp hq]; exact Nat.lt_succ_self _
  · intro hq; exact hIL (List.mem_singleton.mp hq).symm
  · intro q hq; rw [List.mem_singleton.mp hq]; exact hI0
  · intro q hq hw
    rw [List.mem_singleton] at hw
    exact Nat.lt_irrefl _ (hw ▸ hI q hq : I < I)
  · obtain ⟨_, t, rfl⟩ := hP
    exact step h' i t ys tl C oC m₃ h tk led E' hi hJ hoC hm hC hl F N
theorem fs_rng {body : List Stmt} {J : Nat → (Str → Option Value) → List (Addr × Obj) → Prop} {Q : Flow → Shared → Prop} {R : Shared → Nat → (Nat → (Str → Option Value) → List (Addr × Obj) → Prop) → Prop} (hh : A.handled = none) (F : Fr h₀ env.locals s.heap m) (N : News h₀ env.locals s.heap news) (hr : IsRange s.heap r a b c t₀ u₀ v₀) (hs : Builtin.Range.small a b c = true ∧ Builtin.Range.rangeSize a b c = (n : Int))
    (hx : env.kindOf x = some .local) (hp : (env.scope.kind == .class || (env.scope.kind == .module && env.locals != env.globals)) = false) (j0 : J 0 m news)
    (step : ∀ I h₂, (∀ q ∈ news, q.1 < I) → ∀ i t m₁ news₁ (s₁ : Shared) own (E' : Value → Shared → Prop), i < n → J i m₁ news₁ → (∀ p ∈ own, p.1 = I) → (∀ p ∈ news₁, p.1 ≠ I) → Sm { s with heap := h₂ } s₁ → Fr h₀ env.locals s₁.heap (fun z => if z = x then some (.int (a + (i : Int) * c) t) else m₁ z) → News h₀ env.locals s₁.heap (Apd own news₁) →
      wpAny (model prog w) A (execs body env) (FPost h₀ env.locals s₁ own news₁ (J (i + 1)) Q) E' s₁)
    (hR : ∀ h', R { s with heap := h' } n J) :
    wpAny (model prog w) A (pyIter (.ref r)) (fun it s₂ => ∃ I fp wr n P Md St m news J, it = .ref I ∧ ForB prog w A h₀ env (.Name x px) body I s₂ fp wr n P Md St m news J Q ∧ R s₂ n J) E s := by
  refine iter_rng F N hr hs fun I h' F₁ N₁ hI hI1 hIL hI0 hst => ?_
  refine ⟨I, [I], [I], n, _, _, _, m, news, J, rfl, fs_gen (rng_walks hh a c n) (fun i v s' Q' E' st hq => wpAny_of_eq (rfl : letOwnedTupleGo (.Name x px) (.ref I) v = pure ()) hq) F₁ N₁ ?_ ?_ ?_ ?_ hst hx hp j0 (fun i v m₁ news₁ s₁ own E' hi hP hJ ho hw hS F₂ N₂ => ?_), hR h'⟩
  · intro hq; exact hIL (List.mem_singleton.mp hq).symm
  · intro q hq; rw [List.mem_singleton.mp hq]; exact hI0
  · intro i h st q hq
    rw [List.mem_singleton.mp hq]; exact ⟨_, st⟩
  · intro q hq hw
    rw [List.mem_singleton] at hw
    exact Nat.lt_irrefl _ (hw ▸ hI q hq : I < I)
  · obtain ⟨_, t, rfl⟩ := hP
    exact step I h' hI i t m₁ news₁ s₁ own E' hi hJ (fun p hp => List.mem_singleton.mp (ho p hp)) (fun p hp e => hw p hp (List.mem_singleton.mpr e)) hS F₂ N₂
end
local macro_rules | `(tactic| walk_at "zzfresh") => `(tactic| skip)
theorem fresh17 : True := by
  w_top off
  trivial
theorem gen_led {h₀ h : Heap} {L : Addr} {led : List (Addr × Obj)} (N : News h₀ L h led) {G : Prop} (k : ∀ nb, led = nb → News h₀ L h nb → G) : G := k led rfl N
abbrev lo (vs : List Value) (k : Nat) : Obj := PySem.W.listOf vs.toArray k
/-- a turn's end where the list at D is changed -/
def AccEnd (h₀ : Heap) (L : Addr) (s₁ : Shared) (D : Addr) (big tl : List (Addr × Obj)) (J' : (Str → Option Value) → List Value → List (Addr × Obj) → Prop) (s₄ : Shared) : Prop :=
  ∃ m' vs' k' ex, Fr h₀ L s₄.heap m' ∧ News h₀ L s₄.heap ((D, lo vs' k') :: Apd ex big) ∧ (∀ p ∈ ex, (∀ q ∈ big, q.1 < p.1) ∧ D < p.1) ∧ J' m' vs' (ex ++ tl) ∧ Sm s₁ s₄
def APost (h₀ : Heap) (L : Addr) (s₁ : Shared) (D : Addr) (big tl : List (Addr × Obj)) (J' : (Str → Option Value) → List Value → List (Addr × Obj) → Prop) (Q : Flow → Shared → Prop) (f : Flow) (s₄ : Shared) : Prop := match f with
  | .ret v => Q (.ret v) s₄
  | .brk => Q .next s₄
  | _ => AccEnd h₀ L s₁ D big tl J' s₄
section
variable {prog : Program} {w : World} {A : Around} {E : Value → Shared → Prop} {s : Shared} {h₀ : Heap} {m : Str → Option Value} {env : Env} {x : Str} {px : Pos} {nb tl : List (Addr × Obj)}
  {r D : Addr} {a b c : Int} {t₀ u₀ v₀ : Tok} {n k : Nat} {vs : List Value}
theorem acc_rng {body : List Stmt} {J : Nat → (Str → Option Value) → List Value → List (Addr × Obj) → Prop} {Q : Flow → Shared → Prop} (hh : A.handled = none) (F : Fr h₀ env.locals s.heap m) (N : News h₀ env.locals s.heap ((D, lo vs k) :: Apd tl nb)) (hr : IsRange s.heap r a b c t₀ u₀ v₀) (hs : Builtin.Range.small a b c = true ∧ Builtin.Range.rangeSize a b c = (n : Int))
    (hD : ∀ q ∈ Apd tl nb, q.1 ≠ D)
    (hx : env.kindOf x = some .local) (hp : (env.scope.kind == .class || (env.scope.kind == .module && env.locals != env.globals)) = false) (j0 : J 0 m vs tl)
    (step : ∀ i t m₁ vs₁ k₁ tl₁ big (s₁ : Shared) (E' : Value → Shared → Prop), i < n → J i m₁ vs₁ tl₁ → (∀ q ∈ tl₁, q ∈ big) → (∀ q ∈ nb, q ∈ big) → (∀ q ∈ big, q.1 ≠ D) → Sm s s₁ → Fr h₀ env.locals s₁.heap (fun z => if z = x then some (.int (a + (i : Int) * c) t) else m₁ z) → News h₀ env.locals s₁.heap ((D, lo vs₁ k₁) :: big) →
      wpAny (model prog w) A (execs body env) (APost h₀ env.locals s₁ D big tl₁ (J (i + 1)) Q) E' s₁)
    (done : ∀ s' m' vs' k' ex, J n m' vs' (ex ++ tl) → Sm s s' → Fr h₀ env.locals s'.heap m' → News h₀ env.locals s'.heap ((D, lo vs' k') :: Apd ex (Apd tl nb)) → (∀ p ∈ ex, (∀ q ∈ Apd tl nb, q.1 < p.1) ∧ D < p.1) → Q .next s') :
    wpAny (model prog w) A (pyIter (.ref r)) (fun it s₂ => ∃ I fp wr n P Md St m news J, it = .ref I ∧ ForB prog w A h₀ env (.Name x px) body I s₂ fp wr n P Md St m news J Q ∧ ∀ s' m' news', J n m' news' → Sm s₂ s' → Fr h₀ env.locals s'.heap m' → News h₀ env.locals s'.heap news' → Q .next s') E s := by
  refine fs_rng (J := fun i m₁ news₁ => ∃ vs k ex, news₁ = (D, lo vs k) :: Apd ex (Apd tl nb) ∧ (∀ p ∈ ex, (∀ q ∈ Apd tl nb, q.1 < p.1) ∧ D < p.1) ∧ J i m₁ vs (ex ++ tl)) hh F N hr hs hx hp ⟨vs, k, [], rfl, (fun p hp => nomatch hp), j0⟩ ?_ ?_
  · rintro I h₂ hI i t m₁ _ s₁ own E' hi ⟨vs₁, k₁, ex, rfl, hex, hJ⟩ hown hnI hS F₁ N₁
    have hDI : D ≠ I := hnI _ List.mem_cons_self
    have N₂ : News h₀ env.locals s₁.heap ((D, lo vs₁ k₁) :: Apd own (Apd ex (Apd tl nb))) := fun q hq => by
      rcases List.mem_cons.mp hq with rfl | hq
      · exact N₁ _ (List.mem_append_right _ List.mem_cons_self)
      · rcases List.mem_append.mp hq with hq | hq
        · exact N₁ _ (List.mem_append_left _ hq)
        · exact N₁ _ (List.mem_append_right _ (List.mem_cons_of_mem _ hq))
    refine wpAny_mono (step i t m₁ vs₁ k₁ (ex ++ tl) (Apd own (Apd ex (Apd tl nb))) s₁ E' hi hJ (fun q hq => ?_) (fun q hq => mem_apd (mem_apd (mem_apd hq))) (fun q hq => ?_) hS F₁ N₂) (fun f s₄ h₄ => ?_) fun _ _ e => e
    · rcases List.mem_append.mp hq with hq | hq
      · exact mem_apd (List.mem_append_left _ hq)
      · exact mem_apd (mem_apd (List.mem_append_left _ hq))
    · rcases List.mem_append.mp hq with hq | hq
      · exact fun e => hDI (e.symm.trans (hown q hq))
      · rcases List.mem_append.mp hq with hq | hq
        · exact Nat.ne_of_gt (hex q hq).2
        · exact hD q hq
    · have fin : AccEnd h₀ env.locals s₁ D (Apd own (Apd ex (Apd tl nb))) (ex ++ tl) (J (i + 1)) s₄ → FEnd h₀ env.locals s₁ own ((D, lo vs₁ k₁) :: Apd ex (Apd tl nb)) (fun m₁ news₁ => ∃ vs k ex, news₁ = (D, lo vs k) :: Apd ex (Apd tl nb) ∧ (∀ p ∈ ex, (∀ q ∈ Apd tl nb, q.1 < p.1) ∧ D < p.1) ∧ J (i + 1) m₁ vs (ex ++ tl)) s₄ := by
        rintro ⟨m', vs', k', ex', F', N', ho, hJ', hS'⟩
        refine ⟨m', (D, lo vs' k') :: Apd (ex' ++ ex) (Apd tl nb), F', fun q hq => ?_, fun q hq => ?_, ⟨vs', k', ex' ++ ex, rfl, fun p hp => ?_, by rw [List.append_assoc]; exact hJ'⟩, hS'⟩
        · rcases List.mem_append.mp hq with hq | hq
          · exact N' q (List.mem_cons_of_mem _ (mem_apd (List.mem_append_left _ hq)))
          · rcases List.mem_cons.mp hq with rfl | hq
            · exact N' _ List.mem_cons_self
            · refine N' q (List.mem_cons_of_mem _ ?_)
              rcases List.mem_append.mp hq with hq | hq
              · rcases List.mem_append.mp hq with hq | hq
                · exact List.mem_append_left _ hq
                · exact mem_apd (mem_apd (List.mem_append_left _ hq))
              · exact mem_apd (mem_apd (mem_apd hq))
        · rcases List.mem_cons.mp hq with rfl | hq
          · exact .inl ⟨_, List.mem_cons_self, rfl⟩
          · rcases List.mem_append.mp hq with hq | hq
            · rcases List.mem_append.mp hq with hq | hq
              · refine .inr fun r hr => ?_
                rcases List.mem_append.mp hr with hr | hr
                · exact (ho q hq).1 r (List.mem_append_left _ hr)
                · rcases List.mem_cons.mp hr with rfl | hr
                  · exact (ho q hq).2
                  · exact (ho q hq).1 r (mem_apd hr)
              · exact .inl ⟨q, List.mem_cons_of_mem _ (List.mem_append_left _ hq), rfl⟩
            · exact .inl ⟨q, List.mem_cons_of_mem _ (mem_apd hq), rfl⟩
        · rcases List.mem_append.mp hp with hp | hp
          · exact ⟨fun q hq => (ho p hp).1 q (mem_apd (mem_apd hq)), (ho p hp).2⟩
          · exact hex p hp
      cases f with
      | ret v => exact h₄
      | brk => exact h₄
      | cont => exact fin h₄
      | next => exact fin h₄
  · rintro h' s' m' _ ⟨vs', k', ex, rfl, hex, hJ⟩ hS F' N'
    exact done s' m' vs' k' ex hJ hS F' N' hex
end
local macro_rules | `(tactic| walk_at "zzfresh") => `(tactic| skip)
theorem fresh18 : True := by
  w_top off
  trivial
section
variable {prog : Program} {w : World} {A : Around} {E : Value → Shared → Prop} {s : Shared} {h₀ : Heap} {L D b : Addr} {m : Str → Option Value} {news news' : List (Addr × Obj)} {ob : Obj} {vs : List Value} {n : Nat} {k : Int} {t u : Tok} {v : Value}
theorem lo_set {Q : Unit → Shared → Prop} (F : Fr h₀ L s.heap m) (N : News h₀ L s.heap news) (U : Upd D (PySem.W.listOf vs.toArray n) (PySem.W.listOf (vs.set k.toNat v).toArray n) news news') (h0 : 0 ≤ k) (h1 : k.toNat < vs.length) (hfit : k < 2 ^ 60)
    (h : ∀ h', Fr h₀ L h' m → News h₀ L h' news' → Q () { s with heap := h' }) :
    wpAny (model prog w) A (setItem (.ref D) (.int k t) v) Q E s := by
  obtain ⟨pre, post, rfl, rfl, a, b⟩ := U.split
  have z := N (D, PySem.W.listOf vs.toArray n) (List.mem_append.mpr (.inr (.head _)))
  refine PySem.W.ki_setAt z.1 h0 (by omega) (by rw [List.size_toArray]; omega) (h _ (F.change (Heap.SameBut.update ..) z.2.1 z.2.2) (PySem.W.ki_turn _ N a b ?_ ?_))
  · apply Array.toList_inj.mp
    simp
  · simp
theorem lo_get {Q : Value → Shared → Prop} (N : News h₀ L s.heap news) (hm : (D, PySem.W.listOf vs.toArray n) ∈ news) (h0 : 0 ≤ k) (hfit : k < 2 ^ 60) (hv : vs[k.toNat]? = some v) (h : Q v s) :
    wpAny (model prog w) A (getItem (.ref D) (.int k u)) Q E s := wpAny_getItem_list ⟨_, (N _ hm).1, rfl, _, rfl⟩ h0 (by omega) (by simpa using hv) h
theorem sq_sub {value slice : Expr} {Q : Value → Shared → Prop} (N : News h₀ L s.heap news) (hm : (b, ob) ∈ news) (hq : Sq ob vs) (h0 : 0 ≤ k) (hfit : k < 2 ^ 60) (hv : vs[k.toNat]? = some v) (h : Q v s)
    (hs : subscripted slice false (.ref b) (.int k u) = operate [.ref b, .int k u] (getItem (.ref b) (.int k u))) :
    wpAny (model prog w) A (subscriptTail value slice (.ref b) (.int k u)) Q E s := by
  have hlt : k.toNat < vs.length := by
    cases Nat.lt_or_ge k.toNat vs.length with
    | inl h => exact h
    | inr h => rw [List.getElem?_eq_none h] at hv; cases hv
  rcases hq with ⟨c, rfl⟩ | rfl
  · have hl : s.heap.IsList b vs.toArray := ⟨_, (N _ hm).1, rfl, _, rfl⟩
    exact PyProof.Rows.tail_any hl.typeIs slot_list_getitem.lookup (wpAny_getItem_list hl h0 (by omega) (by simpa using hv) h) hs
  · have ht : IsTup s.heap b vs.toArray := ⟨_, (N _ hm).1, rfl, _, rfl⟩
    exact PyProof.Rows.tail_any ht.typeIs PySem.F.slot_tuple_getitem.lookup (getItem_tuple ht (by omega) (by omega) (seqIndex_of h0 (by rw [List.size_toArray]; omega)) (by simpa using hv) h) hs
end
section
variable {prog : Program} {w : World} {A : Around} {E : Value → Shared → Prop} {s : Shared} {h₀ : Heap} {m : Str → Option Value} {env : Env} {x : Str} {px : Pos} {nb tl : List (Addr × Obj)}
  {r D : Addr} {b : Int} {t₀ u₀ v₀ : Tok} {k : Nat} {vs : List Value}
theorem acc_rng0 {body : List Stmt} {J : Nat → (Str → Option Value) → List Value → List (Addr × Obj) → Prop} {Q : Flow → Shared → Prop} (hh : A.handled = none) (F : Fr h₀ env.locals s.heap m) (N : News h₀ env.locals s.heap ((D, lo vs k) :: Apd tl nb)) (hr : IsRange s.heap r 0 b 1 t₀ u₀ v₀) (hb0 : 0 ≤ b) (hb1 : b < 2 ^ 60)
    (hD : ∀ q ∈ Apd tl nb, q.1 ≠ D)
    (hx : env.kindOf x = some .local) (hp : (env.scope.kind == .class || (env.scope.kind == .module && env.locals != env.globals)) = false) (j0 : J 0 m vs tl)
    (step : ∀ i t m₁ vs₁ k₁ tl₁ big (s₁ : Shared) (E' : Value → Shared → Prop), i < b.toNat → J i m₁ vs₁ tl₁ → (∀ q ∈ tl₁, q ∈ big) → (∀ q ∈ nb, q ∈ big) → (∀ q ∈ big, q.1 ≠ D) → Sm s s₁ → Fr h₀ env.locals s₁.heap (fun z => if z = x then some (.int (i : Int) t) else m₁ z) → News h₀ env.locals s₁.heap ((D, lo vs₁ k₁) :: big) →
      wpAny (model prog w) A (execs body env) (APost h₀ env.locals s₁ D big tl₁ (J (i + 1)) Q) E' s₁)
    (done : ∀ s' m' vs' k' ex, J b.toNat m' vs' (ex ++ tl) → Sm s s' → Fr h₀ env.locals s'.heap m' → News h₀ env.locals s'.heap ((D, lo vs' k') :: Apd ex (Apd tl nb)) → (∀ p ∈ ex, (∀ q ∈ Apd tl nb, q.1 < p.1) ∧ D < p.1) → Q .next s') :
    wpAny (model prog w) A (pyIter (.ref r)) (fun it s₂ => ∃ I fp wr n P Md St m news J, it = .ref I ∧ ForB prog w A h₀ env (.Name x px) body I s₂ fp wr n P Md St m news J Q ∧ ∀ s' m' news', J n m' news' → Sm s₂ s' → Fr h₀ env.locals s'.heap m' → News h₀ env.locals s'.heap news' → Q .next s') E s :=
  acc_rng hh F N hr (rng_up hb0 hb1) hD hx hp j0 (fun i t m₁ vs₁ k₁ tl₁ big s₁ E' hi hJ h1 h2 h3 hS F₁ N₁ => by
    have e : (0 : Int) + (i : Int) * 1 = i := by omega
    rw [e] at F₁
    exact step i t m₁ vs₁ k₁ tl₁ big s₁ E' hi hJ h1 h2 h3 hS F₁ N₁) done
end
section
variable {prog : Program} {w : World} {A : Around} {E : Value → Shared → Prop} {s : Shared} {K : Frag} {x C L f : Addr} {h₀ : Heap} {m : Str → Option Value} {ox : Obj} {od : Option Obj}
theorem inpl_fill {M : Model} {h : Heap} {nm : String} {add : Bool} {cd : ClassData} (X : K.In h) (hc : clsIn K C = some cd) (hm : ∀ c ∈ cd.mro, findIn K c (dunderI nm) = some none) : Looks M h (fillsInplaceSlot (.ref C) nm add) false := by
  intro A Q E s k q
  unfold fillsInplaceSlot
  refine wpAny_bind ((looks_clsIn X hc).andThen (f := fun cd => pure cd.mro) .now A _ E s k ?_)
  revert hm
  generalize cd.mro = l
  intro hm
  induction l with
  | nil => exact wpAny_pure q
  | cons c r ih =>
    rw [List.anyM_cons]
    refine wpAny_bind (wpAny_bind (looks_findIn X (hm c List.mem_cons_self) A _ E s k ?_))
    refine wpAny_pure ?_
    simp only [Bool.false_eq_true, if_false]
    exact ih fun c hc => hm c (List.mem_cons_of_mem _ hc)
def noneIn (K : Frag) (C : Addr) (i : Str) : Bool := match clsIn K C with
  | some cd => cd.mro.all fun c => match findIn K c i with | some none => true | _ => false
  | none => false
theorem inpl_K {op : Operator} {b : Value} {Q : Value → Shared → Prop} (F : Fr h₀ L s.heap m) (X₀ : K.In h₀) (I : InstAt s.heap x ox C od) (hb : Looks (model prog w) s.heap (typeOf b) (.ref C)) (hc : selfFirst K C = true) (hn : noneIn K C (dunderI op.info.2) = true)
    (hs : findIn K (.ref C) (PySem.dunder op.info.2) = some (some (.ref f))) (hf : isFn K (.ref f) = true)
    (h : wpAny (model prog w) A (call (.ref f) [.ref x, b]) (PySem.W.CmpBack Q) E s) : wpAny (model prog w) A (inplaceOp op (.ref x) b) Q E s := by
  have X := X₀.keeps F.keep
  obtain ⟨cd, hcd, hm⟩ := any_some hc
  obtain ⟨rest, hm⟩ : ∃ rest, cd.mro = .ref C :: rest := by
    cases q : cd.mro with
    | nil => rw [q] at hm; cases hm
    | cons a r => rw [q] at hm; exact ⟨r, by rw [List.head?_cons] at hm; cases (beq_iff_eq.mp hm); rfl⟩
  have hn' : ∀ c ∈ cd.mro, findIn K c (dunderI op.info.2) = some none := by
    unfold noneIn at hn
    rw [hcd] at hn
    intro c hc
    have := List.all_eq_true.mp hn c hc
    split at this
    · assumption
    · cases this
  unfold inplaceOp
  refine wpAny_holding ?_
  refine wpAny_bind (I.type.here (wpAny_bind ((inpl_fill X hcd hn').here ?_)))
  simp only [Bool.false_eq_true, if_false]
  refine wpAny_bind ?_
  unfold binaryOp1
  refine wpAny_bind (I.type.here (wpAny_bind (hb.here (wpAny_bind ((fills_K X hcd hm hs).here ?_)))))
  simp only [beq_self_eq_true, if_true]
  refine wpAny_bind (wpAny_pure ?_)
  simp only [Bool.and_false, Bool.false_eq_true, if_false, Bool.false_and]
  refine wpAny_bind (wpAny_pure ?_)
  simp only [Bool.false_eq_true, if_false]
  refine wpAny_bind (m := tryMethod (.ref x) _ b) ?_
  unfold tryMethod
  refine wpAny_bind (special_fn X I hs (beq_iff_eq.mp hf) (wpAny_mono h (fun v s' hv => ?_) fun _ _ e => e))
  cases v <;> first | exact hv.elim | exact wpAny_pure (wpAny_pure (wpAny_pure hv))
end
end
section
local macro_rules | `(tactic| k_room) => `(tactic| ((try simp only [depth_under_make, depth_under_kw, depth_in1, depth_deeper, depth_caller]); (try dsimp only [ar]); omega))
local macro_rules | `(tactic| k_units) => `(tactic| ((have hcL9 := cLine_is); (try simp only [units_in1, units_deeper, Around.mark_units, units_caller]); (try dsimp only [ar]); omega))
local macro_rules | `(tactic| k_enter) => `(tactic| first
  | (refine' code_def ?k1 ?k2 ?k3 ?k4 ?k5 ?kA ?kF ?kK ?k6 ?k7 ?k8 ?k9 ?kB ?_ ?c2 ?c3 ?c4 ?c5; (case kA => exact rfl); (case kF => first | exact rfl | assumption); (case kK => first | exact rfl | assumption); (case k1 => k_asm); (case k2 => k_asm); (case k3 => k_asm); (case k4 => k_asm); (case k5 => k_asm); (case k6 => k_is); (case k7 => k_is); (case k8 => k_room); (case k9 => exact BindsTo.of_eq rfl); (case c5 => decide); (case kB => exact locs rfl); (case c2 => exact rfl); (case c3 => exact rfl); (case c4 => exact rfl); k_whole; intro g' L' h' FG' F' N' B' X' T'; (try dsimp only); (try k_lift B'); (try k_fold))
  | (refine' code_defC ?k1 ?k2 ?k3 ?k4 ?k5 ?kA ?kF ?kK ?k6 ?k7 ?k8 ?k9 ?kB ?kD ?_ ?c2 ?c3 ?c4; (case kA => exact rfl); (case kF => first | exact rfl | assumption); (case kK => first | exact rfl | assumption); (case k1 => k_asm); (case k2 => k_asm); (case k3 => k_asm); (case k4 => k_asm); (case k5 => k_asm); (case k6 => k_is); (case k7 => k_is); (case k8 => k_room); (case k9 => exact BindsTo.of_eq rfl); (case kB => exact rfl); (case kD => decide +kernel); (case c2 => exact rfl); (case c3 => exact rfl); (case c4 => exact rfl); k_whole; intro g' L' h' tk' cells' FG' F' N' Y' B' X' T' l1; (try k_lt l1); k_cells Y'; (try simp only [List.cons_append, List.nil_append] at N'); (try dsimp only); (try k_lift B'); (try k_fold)))
local macro_rules | `(tactic| k_mem) => `(tactic| first | exact List.Mem.head _ | (refine' List.Mem.tail _ ?_; k_mem) | assumption)
local macro_rules | `(tactic| mul_fits) => `(tactic| with_reducible assumption)
local macro_rules | `(tactic| walk_at "call ref") => `(tactic| (k_here; (with_reducible show wpAny _ _ (call (Value.ref 183) _) _ _ _); k_dflt (first
  | (refine' fq_new ?C ?F ?N ?d ?p ?_; (case C => exact Cx.mk (by k_asm) (by k_asm) (by k_asm) (by first | exact rfl | assumption) (by first | exact rfl | assumption)); (case F => k_asm); (case N => k_asm); (case d => k_room); (case p => assumption); k_whole)
  | (refine' fq_copy ?C ?F ?N ?x ?dx ?d ?p ?_; (case C => exact Cx.mk (by k_asm) (by k_asm) (by k_asm) (by first | exact rfl | assumption) (by first | exact rfl | assumption)); (case F => k_asm); (case N => k_asm); (case x => k_mem); (case dx => k_mem); (case d => k_room); (case p => assumption); k_whole)); intro r' d' t1' t2' tp' tn' h' tk' F' N' l1' l2'; (try k_sweep)))
local macro_rules | `(tactic| walk_at "call ref") => `(tactic| (k_here; first
  | ((with_reducible show wpAny _ _ (call (Value.ref 61) _) _ _ _); k_dflt (refine' fq_add ?zC ?zF ?zN ?zx ?zdx ?zy ?zdy ?zd ?zp ?_; (case zC => exact Cx.mk (by k_asm) (by k_asm) (by k_asm) (by first | exact rfl | assumption) (by first | exact rfl | assumption)); (case zF => k_asm); (case zN => k_asm); (case zx => k_mem); (case zdx => k_mem); (case zy => k_mem); (case zdy => k_mem); (case zd => k_room); (case zp => assumption); k_whole); intro r' d' t1' t2' tp' tn' h' tk' F' N' l1' l2'; (have lx' := allLt_of l1'); (try simp only [AllLt] at lx'); (have ly' := ltA l2'); (try dsimp only [PySem.W.CmpBack]); (try k_sweep))
  | ((with_reducible show wpAny _ _ (call (Value.ref 68) _) _ _ _); k_dflt (refine' fq_mul ?zC ?zF ?zN ?zx ?zdx ?zy ?zdy ?zd ?zp ?za ?zb ?_; (case zC => exact Cx.mk (by k_asm) (by k_asm) (by k_asm) (by first | exact rfl | assumption) (by first | exact rfl | assumption)); (case zF => k_asm); (case zN => k_asm); (case zx => k_mem); (case zdx => k_mem); (case zy => k_mem); (case zdy => k_mem); (case zd => k_room); (case zp => assumption); (case za => assumption); (case zb => assumption); k_whole); intro r' d' t1' t2' tp' tn' h' tk' F' N' l1' l2'; (have lx' := allLt_of l1'); (try simp only [AllLt] at lx'); (have ly' := ltA l2'); (try dsimp only [PySem.W.CmpBack]); (try k_sweep))
  | ((with_reducible show wpAny _ _ (call (Value.ref 96) _) _ _ _); k_dflt (refine' fq_sub ?zC ?zF ?zN ?zx ?zdx ?zy ?zdy ?zd ?zp ?_; (case zC => exact Cx.mk (by k_asm) (by k_asm) (by k_asm) (by first | exact rfl | assumption) (by first | exact rfl | assumption)); (case zF => k_asm); (case zN => k_asm); (case zx => k_mem); (case zdx => k_mem); (case zy => k_mem); (case zdy => k_mem); (case zd => k_room); (case zp => assumption); k_whole); intro r' d' t1' t2' tp' tn' h' tk' F' N' l1' l2'; (have lx' := allLt_of l1'); (try simp only [AllLt] at lx'); (have ly' := ltA l2'); (try dsimp only [PySem.W.CmpBack]); (try k_sweep))
  | ((with_reducible show wpAny _ _ (call (Value.ref 131) _) _ _ _); k_dflt (refine' fq_ne ?zC ?zF ?zN ?zx ?zdx ?zy ?zdy ?zd ?zu ?_; (case zC => exact Cx.mk (by k_asm) (by k_asm) (by k_asm) (by first | exact rfl | assumption) (by first | exact rfl | assumption)); (case zF => k_asm); (case zN => k_asm); (case zx => k_mem); (case zdx => k_mem); (case zy => k_mem); (case zdy => k_mem); (case zd => k_room); (case zu => k_units); k_whole); intro h' tk' F' N'; (try dsimp only [PySem.W.CmpBack]); (try k_sweep))))
local macro_rules | `(tactic| walk_at "eval GeneratorExp") => `(tactic| (k_here; refine hold_on ?_))
local macro_rules | `(tactic| walk_at "eval ListComp") => `(tactic| (k_here; refine hold_on ?_))
local macro_rules | `(tactic| walk_at "exec For") => `(tactic| (k_here; refine hold_on ?_))
local macro_rules | `(tactic| walk_at "exec While") => `(tactic| (k_here; refine hold_on ?_))
local macro_rules | `(tactic| walk_at "call builtin:len") => `(tactic| (k_here; refine len_sq (by assumption) (by k_mem) (by first | assumption | exact Sq.tup _ | exact Sq.lo _ _) (by assumption) (by omega) ?_; intro t' tk'))
local macro_rules | `(tactic| walk_at "compareOp NotEq int int") => `(tactic| with_reducible refine ne_self ?_)
local macro_rules | `(tactic| walk_at "eval Name") => `(tactic| (k_here; (with_reducible show wpAny _ _ (eval (Expr.Name _ _) (genEnv _ _ _ _ _ _)) _ _ _); first
  | (refine' gn_L ?F ?hv ?_ ?hk ?hx ?hd; (case F => assumption); (case hx => with_unfolding_all rfl); (case hv => first | exact if_pos rfl | assumption); (case hk => rfl); (case hd => decide); skip)
  | (refine' gn_F ?N ?hc ?hm ?hd ?_ ?hk ?hx ?hb ?hn; (case N => assumption); (case hx => with_unfolding_all rfl); (case hc => with_unfolding_all rfl); (case hm => k_mem); (case hd => with_reducible assumption); (case hk => rfl); (case hb => decide); (case hn => decide))))
local macro_rules | `(tactic| walk_at "call type:tuple") => `(tactic| (k_here; refine' tuple_sq ?F ?N ?hb ?hq ?hz ?_; (case F => assumption); (case N => assumption); (case hb => k_mem); (case hq => first | assumption | exact Sq.tup _ | exact Sq.lo _ _); (case hz => omega); intro T' h' F' N' l'; (replace l' := Or.imp allLt_of eqN l'); (try simp only [AllLt] at l')))
local macro_rules | `(tactic| k_all) => `(tactic| (with_reducible assumption))
local macro_rules | `(tactic| walk_at "call type:zip") => `(tactic| (k_here; refine hold_on ?_))
local macro_rules | `(tactic| walk_at "exec For Name Attribute cons nil") => `(tactic| (k_here; refine hold_on ?_))
local macro_rules | `(tactic| walk_at "exec For Name Call") => `(tactic| (k_here; refine hold_on ?_))
local macro_rules | `(tactic| walk_at "exec For Name Call cons nil") => `(tactic| (k_here; refine hold_on ?_))
local macro_rules | `(tactic| walk_at "exec For Name List cons nil") => `(tactic| (k_here; refine hold_on ?_))
local macro_rules | `(tactic| walk_at "exec For Name Name") => `(tactic| (k_here; refine hold_on ?_))
local macro_rules | `(tactic| walk_at "exec For Name Name cons nil") => `(tactic| (k_here; refine hold_on ?_))
local macro_rules | `(tactic| walk_at "exec For Name Subscript cons nil") => `(tactic| (k_here; refine hold_on ?_))
local macro_rules | `(tactic| walk_at "exec For Tuple Call") => `(tactic| (k_here; refine hold_on ?_))
local macro_rules | `(tactic| walk_at "exec For Tuple Call cons nil") => `(tactic| (k_here; refine hold_on ?_))
local macro_rules | `(tactic| walk_at "exec For Tuple List cons nil") => `(tactic| (k_here; refine hold_on ?_))
local macro_rules | `(tactic| walk_at "exec For Tuple Name") => `(tactic| (k_here; refine hold_on ?_))
local macro_rules | `(tactic| walk_at "exec For Tuple Name cons nil") => `(tactic| (k_here; refine hold_on ?_))
local macro_rules | `(tactic| walk_at "exec For Tuple Attribute cons nil") => `(tactic| (k_here; refine hold_on ?_))
local macro_rules | `(tactic| walk_at "exec Assign cons ListComp") => `(tactic| (k_here; refine hold_on ?_))
local macro_rules | `(tactic| walk_at "exec While BoolOp") => `(tactic| (k_here; refine hold_on ?_))
local macro_rules | `(tactic| walk_at "exec While Compare") => `(tactic| (k_here; refine hold_on ?_))
local macro_rules | `(tactic| walk_at "call ref") => `(tactic| (k_here; (with_reducible show wpAny _ _ (call (Value.ref 297) _) _ _ _); k_dflt (
  refine' pinitW ?zC ?zF ?zN ?zb ?zW ?zhb ?zhob ?zhd ?zhod ?zhvs ?zhn ?zhms ?zhz ?zdp ?zp ?_; (case zC => exact Cx.mk (by k_asm) (by k_asm) (by k_asm) (by first | exact rfl | assumption) (by first | exact rfl | assumption)); (case zF => k_asm); (case zN => k_asm); (case zb => assumption); (case zW => assumption); (case zhb => k_mem); (case zhob => first | assumption | exact Sq.tup _ | exact Sq.lo _ _); (case zhd => k_mem); (case zhod => first | assumption | exact Sq.tup _);
    (case zhvs => assumption); (case zhn => assumption); (case zhms => assumption); (case zhz => assumption); (case zdp => k_room); (case zp => assumption); k_whole); intro x' ex' s' hSm' F' N' lo' hv'; (have hbr' := Sm.bare hSm' (by assumption)); (try k_sweep)))
local macro_rules | `(tactic| k_mem) => `(tactic| first | exact List.Mem.head _ | (refine' List.Mem.tail _ ?_; k_mem) | assumption)
local macro_rules | `(tactic| k_mem) => `(tactic| ((first | (with_reducible refine' mem_apdM ?h) | (with_reducible refine' mem_apd ?h)); (case h => k_mem)))
local macro_rules | `(tactic| walk_at "zwm") => `(tactic| with_reducible first | assumption | (refine' Warm.cons ?h; (case h => walk_at "zwm")) | (refine' Warm.app ?h; (case h => walk_at "zwm")))
local macro_rules | `(tactic| walk_at "zpx") => `(tactic| with_reducible first | assumption | (refine' PV.cons ?h; (case h => walk_at "zpx")) | (refine' PV.app ?h; (case h => walk_at "zpx")))
local macro_rules | `(tactic| walk_at "zal") => `(tactic| with_reducible first | assumption | (refine' All2.any ?h; (case h => assumption)) | (refine' All2.cons ?h; (case h => walk_at "zal")) | (refine' All2.app ?h; (case h => walk_at "zal")))
local macro_rules | `(tactic| walk_at "call ref") => `(tactic| (k_here; (with_reducible show wpAny _ _ (call (Value.ref 208) _) _ _ _); first
  | (k_dflt (
  refine' pmade ?zC ?zF ?zN ?zb ?zW ?zhx ?zhb ?zhob ?zhvs ?zhn ?zhz ?zdp ?zp ?_; (case zC => exact Cx.mk (by k_asm) (by k_asm) (by k_asm) (by first | exact rfl | assumption) (by first | exact rfl | assumption)); (case zF => k_asm); (case zN => k_asm); (case zb => assumption); (case zW => walk_at "zwm"); (case zhx => walk_at "zpx"); (case zhb => k_mem); (case zhob => first | assumption | exact Sq.tup _ | exact Sq.lst _ | exact Sq.lo _ _);
    (case zhvs => walk_at "zal"); (case zhn => assumption); (case zhz => assumption); (case zdp => k_room); (case zp => assumption); k_whole); intro x' ex' s' hSm' F' N' lo' hv'; (have hbr' := Sm.bare hSm' (by assumption)); (try k_sweep))
  | refine hold_on ?_))
local macro_rules | `(tactic| walk_at "zho") => `(tactic| ((rename (∀ _, _ ∈ _ → _ < _) => h9); repeat' (first | exact List.forall_mem_nil _ | (refine List.forall_mem_cons.mpr ⟨?_, ?_⟩) | (intro r9 hr9; (have h8 := ltA (h9 r9 hr9)); refine ltA ?_; dsimp only; omega))))
local macro_rules | `(tactic| walk_at "zzfresh") => `(tactic| skip)
local macro_rules | `(tactic| walk_at "zzfresh") => `(tactic| skip)
local macro_rules | `(tactic| walk_at "zzfresh") => `(tactic| skip)
theorem fresh19 : True := by
  w_top off
  trivial
def pmIn (p ai : Int) (cy : List Int) (i : Nat) (b : List Int) : Nat → List Int
  | 0 => b
  | j + 1 => (pmIn p ai cy i b j).set (i + j) (((pmIn p ai cy i b j).getD (i + j) 0 + (ai * cy.getD j 0) % p) % p)
def pmOut (p : Int) (cx cy : List Int) (n : Nat) (b : List Int) : Nat → List Int
  | 0 => b
  | i + 1 => pmIn p (cx.getD i 0) cy i (pmOut p cx cy n b i) n
def pmRedIn (p top : Int) (e : Nat) (b : List Int) : Nat → List Int
  | 0 => b
  | i + 1 => (pmRedIn p top e b i).set (e + i) (((pmRedIn p top e b i).getD (e + i) 0 - (top * (1 % p)) % p) % p)
def pmRed (p : Int) (n : Nat) : Nat → List Int → List Int
  | 0, b => b
  | k + 1, b => pmRed p n k (pmRedIn p (b.getLastD 0) k b.dropLast n)
def pm (p : Int) (n : Nat) (cx cy : List Int) : List Int := pmRed p n (n - 1) (pmOut p cx cy n (List.replicate (2 * n - 1) 0) n)
theorem pmIn_len {p ai : Int} {cy : List Int} {i : Nat} {b : List Int} : ∀ k, (pmIn p ai cy i b k).length = b.length
  | 0 => rfl
  | k + 1 => by rw [pmIn, List.length_set]; exact pmIn_len k
theorem pmOut_len {p : Int} {cx cy : List Int} {n : Nat} {b : List Int} : ∀ k, (pmOut p cx cy n b k).length = b.length
  | 0 => rfl
  | k + 1 => by rw [pmOut, pmIn_len]; exact pmOut_len k
theorem pmRedIn_len {p t : Int} {e : Nat} {b : List Int} : ∀ k, (pmRedIn p t e b k).length = b.length
  | 0 => rfl
  | k + 1 => by rw [pmRedIn, List.length_set]; exact pmRedIn_len k
def Red (p : Int) (cs : List Int) : Prop := ∀ c ∈ cs, 0 ≤ c ∧ c < p
theorem Red.set {p c : Int} {cs : List Int} {i : Nat} (h : Red p cs) (hp : 0 < p) : Red p (cs.set i (c % p)) := fun x hx => by
  rcases List.mem_or_eq_of_mem_set hx with hx | rfl
  · exact h x hx
  · exact ⟨Int.emod_nonneg _ (by omega), Int.emod_lt_of_pos _ hp⟩
theorem Red.zeros {p : Int} {n : Nat} (hp : 0 < p) : Red p (List.replicate n 0) := fun x hx => by
  rw [List.eq_of_mem_replicate hx]; exact ⟨Int.le_refl _, hp⟩
theorem red_in {p ai : Int} (hp : 0 < p) {cy : List Int} {i : Nat} {b : List Int} (h : Red p b) : ∀ k, Red p (pmIn p ai cy i b k)
  | 0 => h
  | k + 1 => (red_in hp h k).set hp
theorem red_out {p : Int} (hp : 0 < p) {cx cy : List Int} {n : Nat} {b : List Int} (h : Red p b) : ∀ k, Red p (pmOut p cx cy n b k)
  | 0 => h
  | k + 1 => red_in hp (red_out hp h k) n
theorem red_redin {p t : Int} (hp : 0 < p) {e : Nat} {b : List Int} (h : Red p b) : ∀ k, Red p (pmRedIn p t e b k)
  | 0 => h
  | k + 1 => (red_redin hp h k).set hp
theorem red_red {p : Int} (hp : 0 < p) {n : Nat} : ∀ k {b : List Int}, Red p b → Red p (pmRed p n k b)
  | 0, _, h => h
  | k + 1, _, h => red_red hp k (red_redin hp (fun x hx => h x ((List.dropLast_sublist _).subset hx)) n)
theorem red_pm {p : Int} (hp : 0 < p) {n : Nat} {cx cy : List Int} : Red p (pm p n cx cy) := red_red hp _ (red_out hp (Red.zeros hp) n)
theorem pmRed_len {p : Int} {n : Nat} : ∀ k {b : List Int}, b.length = n + k → (pmRed p n k b).length = n
  | 0, _, h => h
  | k + 1, b, h => pmRed_len k (by rw [pmRedIn_len, List.length_dropLast, h]; omega)
theorem pm_len {p : Int} {n : Nat} {cx cy : List Int} (hn : 0 < n) : (pm p n cx cy).length = n := pmRed_len _ (by rw [pmOut_len, List.length_replicate]; omega)
theorem Red.at {p : Int} {cs : List Int} (h : Red p cs) {i : Nat} {c : Int} (hc : cs[i]? = some c) : 0 ≤ c ∧ c < p := h c (List.mem_of_getElem? hc)
theorem All2.set {R : Value → Int → Prop} {vs : List Value} {cs : List Int} {v : Value} {c : Int} (h : All2 R vs cs) (i : Nat) (hv : R v c) : All2 R (vs.set i v) (cs.set i c) := by
  refine ⟨by simp [h.1], fun j x y hx hy => ?_⟩
  rw [List.getElem?_set] at hx hy
  by_cases e : i = j
  · rw [if_pos e] at hx hy
    split at hx
    · split at hy
      · cases hx; cases hy; exact hv
      · cases hy
    · cases hx
  · rw [if_neg e] at hx hy; exact h.2 j x y hx hy
theorem getD_of {cs : List Int} {i : Nat} {c : Int} (h : cs[i]? = some c) : cs.getD i 0 = c := by rw [List.getD_eq_getElem?_getD, h]; rfl
def WEnd (I : Nat → Shared → Prop) (n : Nat) (s : Shared) : Prop := ∃ m, m < n ∧ I m s
section
variable {prog : Program} {w : World} {A : Around} {E : Value → Shared → Prop} {s : Shared} {env : Env}
theorem while_K {test : Expr} {body : List Stmt} {pos : Pos} {Q : Flow → Shared → Prop} (I : Nat → Shared → Prop)
    (turn : ∀ n s (E' : Value → Shared → Prop), I n s → wpAny (model prog w) A (isTrue test env (eval test env)) (fun b s₂ => if b = true then wpAny (model prog w) A (execs body env) (fun f s₃ => match f with
      | .next => WEnd I n s₃
      | .cont => WEnd I n s₃
      | .brk => Q .next s₃
      | .ret v => Q (.ret v) s₃) E' s₂ else Q .next s₂) E' s) (n : Nat) (h : I n s) :
    wpAny (model prog w) A (exec (.While test body [] pos) env) Q E s := by
  refine wpAny_While (codeAny_whileLoop I (fun n s hI => wpAny_mono (turn n s _ hI) (fun b s₂ h₂ => ?_) fun _ _ e => e) n h)
  cases b with
  | false => exact wpAny_execs_nil h₂
  | true =>
    refine wpAny_mono h₂ (fun f s₃ h₃ => ?_) fun _ _ e => e
    cases f <;> exact h₃
end
section
variable {h₀ h' : Heap} {L D r d r2 d2 : Addr} {m' : Str → Option Value} {i1 i2 o1 o2 : Obj} {vs' : List Value} {k' : Nat} {big tl : List (Addr × Obj)} {s₁ : Shared} {J' : (Str → Option Value) → List Value → List (Addr × Obj) → Prop} {g : Array GenState} {tk : Nat}
theorem acc_two (F : Fr h₀ L h' m') (N : News h₀ L h' ((r2, i2) :: (d2, o2) :: (r, i1) :: (d, o1) :: (D, lo vs' k') :: big)) {ob : Obj} (a1 : ∀ q ∈ (D, ob) :: big, q.1 < d) (a2 : d < r) (a3 : ∀ q ∈ (r, i1) :: (d, o1) :: (D, ob) :: big, q.1 < d2) (a4 : d2 < r2)
    (hJ : J' m' vs' ([(r2, i2), (d2, o2), (r, i1), (d, o1)] ++ tl)) : AccEnd h₀ L s₁ D big tl J' { s₁ with heap := h', toks := tk } := by
  refine ⟨m', vs', k', [(r2, i2), (d2, o2), (r, i1), (d, o1)], F, fun q hq => ?_, ?_, hJ, Sm.of⟩
  · refine N q ?_
    rcases List.mem_cons.mp hq with rfl | hq
    · exact List.mem_cons_of_mem _ (List.mem_cons_of_mem _ (List.mem_cons_of_mem _ (List.mem_cons_of_mem _ List.mem_cons_self)))
    · have hq : q ∈ (r2, i2) :: (d2, o2) :: (r, i1) :: (d, o1) :: big := hq
      rcases List.mem_cons.mp hq with rfl | hq
      · exact List.mem_cons_self
      · refine List.mem_cons_of_mem _ ?_
        rcases List.mem_cons.mp hq with rfl | hq
        · exact List.mem_cons_self
        · refine List.mem_cons_of_mem _ ?_
          rcases List.mem_cons.mp hq with rfl | hq
          · exact List.mem_cons_self
          · refine List.mem_cons_of_mem _ ?_
            rcases List.mem_cons.mp hq with rfl | hq
            · exact List.mem_cons_self
            · exact List.mem_cons_of_mem _ (List.mem_cons_of_mem _ hq)
  · have e1 : ∀ p, (∀ q ∈ (D, ob) :: big, q.1 < p) → (∀ q ∈ big, q.1 < p) ∧ D < p := fun p h => ⟨fun q hq => h q (List.mem_cons_of_mem _ hq), h _ List.mem_cons_self⟩
    have e2 : ∀ q ∈ (D, ob) :: big, q.1 < d2 := fun q hq => a3 q (List.mem_cons_of_mem _ (List.mem_cons_of_mem _ hq))
    exact List.forall_mem_cons.mpr ⟨e1 _ fun q hq => Nat.lt_trans (e2 q hq) a4, List.forall_mem_cons.mpr ⟨e1 _ e2, List.forall_mem_cons.mpr ⟨e1 _ fun q hq => Nat.lt_trans (a1 q hq) a2, List.forall_mem_cons.mpr ⟨e1 _ a1, fun _ h => nomatch h⟩⟩⟩⟩
end
theorem getD_some {cs : List Int} {i : Nat} (h : i < cs.length) : cs[i]? = some (cs.getD i 0) := by rw [List.getD_eq_getElem?_getD, List.getElem?_eq_getElem h]; rfl
theorem no_iadd (w : World) : noneIn (hd.heap_39 w.params) 183 (dunderI "add") = true := by kernel_rfl
theorem no_isub (w : World) : noneIn (hd.heap_39 w.params) 183 (dunderI "sub") = true := by kernel_rfl
section
variable {prog : Program} {w : World} {A : Around} {E : Value → Shared → Prop} {s : Shared} {h₀ : Heap} {L D : Addr} {m : Str → Option Value} {news news' : List (Addr × Obj)} {n : Nat} {us : List Value} {y : Value} {Q : Value → Shared → Prop} {a b : Int} {t u : Tok}
theorem lo_pop (F : Fr h₀ L s.heap m) (N : News h₀ L s.heap news) (U : Upd D (PySem.W.listOf us.toArray n) (PySem.W.listOf us.dropLast.toArray (n + 1)) news news') (hl : us = us.dropLast ++ [y]) (hz : us.length ≤ 16384)
    (h : ∀ h', Fr h₀ L h' m → News h₀ L h' news' → Q y { s with heap := h' }) : wpAny (model prog w) A (call (.builtin "list.pop") [.ref D]) Q E s := by
  refine kl_pop F N (p := us.dropLast) (y := y) ?_ U (by simpa using Nat.le_trans hz (by decide : 16384 ≤ sizeLine)) fun h' F' N' => h h' F' N'
  have e := PySem.W.kpa_last y us.dropLast
  rw [← hl] at e
  simpa using e
theorem gt_yes (h : b < a) (q : Q (.bool true) s) : wpAny (model prog w) A (compareOp .Gt (.int a t) (.int b u)) Q E s := gt_int (by rw [decide_eq_true h]; exact q)
theorem gt_no (h : ¬ b < a) (q : Q (.bool false) s) : wpAny (model prog w) A (compareOp .Gt (.int a t) (.int b u)) Q E s := gt_int (by rw [decide_eq_false h]; exact q)
end
theorem last_split {us : List Value} {y : Value} {k : Nat} (h : us.length = k + 1) (hy : us[k]? = some y) : us = us.dropLast ++ [y] := by
  have hne : us ≠ [] := by rintro rfl; simp at h
  have e : us.getLast hne = y := by
    rw [List.getLast_eq_getElem]
    have e1 : us.length - 1 = k := by omega
    have e2 : us[us.length - 1]? = some y := by rw [e1]; exact hy
    rw [List.getElem?_eq_getElem (by omega)] at e2
    exact Option.some.inj e2
  rw [← e]
  exact (List.dropLast_concat_getLast hne).symm
theorem getLastD_at {b : List Int} {k : Nat} (h : b.length = k + 1) : b[k]? = some (b.getLastD 0) := by
  have e : b.getLast? = b[k]? := by rw [List.getLast?_eq_getElem?, h]; rfl
  rw [List.getLastD_eq_getLast?, e]
  rw [List.getElem?_eq_getElem (by omega)]; rfl
theorem All2.dropLast {R : Value → Int → Prop} {vs : List Value} {cs : List Int} (h : All2 R vs cs) : All2 R vs.dropLast cs.dropLast := by
  refine ⟨by simp [h.1], fun i x y hx hy => ?_⟩
  rw [List.getElem?_dropLast] at hx hy
  split at hx
  · split at hy
    · exact h.2 i x y hx hy
    · cases hy
  · cases hx
section
variable {h₀ h' : Heap} {L D : Addr} {m' : Str → Option Value} {vs' : List Value} {k' : Nat} {big tl ex : List (Addr × Obj)} {s₁ : Shared} {J' : (Str → Option Value) → List Value → List (Addr × Obj) → Prop} {tk : Nat}
theorem acc_of (ex : List (Addr × Obj)) (F : Fr h₀ L h' m') (N : News h₀ L h' (ex ++ ((D, lo vs' k') :: big))) {ob : Obj} (ho : ∀ p ∈ ex, ∀ q ∈ (D, ob) :: big, q.1 < p.1) (hJ : J' m' vs' (ex ++ tl)) : AccEnd h₀ L s₁ D big tl J' { s₁ with heap := h', toks := tk } := by
  refine ⟨m', vs', k', ex, F, fun q hq => N q ?_, fun p hp => ⟨fun q hq => ho p hp q (List.mem_cons_of_mem _ hq), ho p hp _ List.mem_cons_self⟩, hJ, Sm.of⟩
  rcases List.mem_cons.mp hq with rfl | hq
  · exact List.mem_append_right _ List.mem_cons_self
  · exact (List.mem_append.mp hq).elim (fun h => List.mem_append_left _ h) fun h => List.mem_append_right _ (List.mem_cons_of_mem _ h)
theorem ord_cons {r d : Addr} {i o : Obj} {X : List (Addr × Obj)} (ho : ∀ p ∈ ex, ∀ q ∈ X, q.1 < p.1) (a1 : ∀ q ∈ ex ++ X, q.1 < d) (a2 : d < r) : ∀ p ∈ (r, i) :: (d, o) :: ex, ∀ q ∈ X, q.1 < p.1 :=
  List.forall_mem_cons.mpr ⟨fun q hq => Nat.lt_trans (a1 q (List.mem_append_right _ hq)) a2, List.forall_mem_cons.mpr ⟨fun q hq => a1 q (List.mem_append_right _ hq), ho⟩⟩
end
local macro_rules | `(tactic| walk_at "setItem ref int") => `(tactic| (k_here; (with_reducible show wpAny _ _ (setItem (Value.ref _) (Value.int _ _) _) _ _ _); k_dflt (refine' lo_set ?k1 ?k2 ?k3 ?k5 ?k6 ?k7 ?_; (case k1 => k_asm); (case k2 => k_asm); (case k3 => k_upd); (case k5 => omega); (case k6 => with_reducible assumption); (case k7 => omega); k_whole); intro h' F' N'; (try k_sweep)))
local macro_rules | `(tactic| walk_at "getItem ref int") => `(tactic| (k_here; (with_reducible show wpAny _ _ (getItem (Value.ref _) (Value.int _ _)) _ _ _); k_dflt (refine' lo_get ?k1 ?k2 ?k5 ?k6 ?k7 ?_; (case k1 => k_asm); (case k2 => k_mem); (case k5 => omega); (case k6 => omega); (case k7 => with_reducible assumption); k_whole)))
local macro_rules | `(tactic| walk_at "subscriptTail") => `(tactic| (k_here; (with_reducible show wpAny _ _ (subscriptTail _ _ (Value.ref _) (Value.int _ _)) _ _ _); k_dflt (refine' sq_sub ?k1 ?k2 ?k3 ?k5 ?k6 ?k7 ?_ ?k8; (case k1 => k_asm); (case k2 => k_mem); (case k3 => first | assumption | exact Sq.tup _ | exact Sq.lo _ _); (case k5 => omega); (case k6 => omega); (case k7 => with_reducible assumption); (case k8 => with_unfolding_all rfl); k_whole)))
local macro_rules | `(tactic| walk_at "eval Name") => `(tactic| (k_here; k_dflt (refine' nameX_L ?F ?v ?_ ?a ?b; (case F => k_asm); (case a => rfl); (case b => rfl); (case v => with_reducible assumption); k_whole)))
local macro_rules | `(tactic| walk_at "inplaceOp Add") => `(tactic| (k_here; (with_reducible show wpAny _ _ (inplaceOp _ (Value.ref _) (Value.ref _)) _ _ _); k_dflt (refine' inpl_K ?k1 ?k2 ?k3 ?k4 ?k5 ?k8 ?k6 ?k7 ?_; (case k1 => k_asm); (case k2 => k_asm); (case k3 => k_inst); (case k4 => k_typeOf); (case k5 => k_is); (case k8 => first | exact no_iadd _ | exact no_isub _); (case k6 => k_is); (case k7 => k_is); k_whole)))
local macro_rules | `(tactic| walk_at "inplaceOp Add ref") => `(tactic| (k_here; (with_reducible show wpAny _ _ (inplaceOp _ (Value.ref _) (Value.ref _)) _ _ _); k_dflt (refine' inpl_K ?k1 ?k2 ?k3 ?k4 ?k5 ?k8 ?k6 ?k7 ?_; (case k1 => k_asm); (case k2 => k_asm); (case k3 => k_inst); (case k4 => k_typeOf); (case k5 => k_is); (case k8 => first | exact no_iadd _ | exact no_isub _); (case k6 => k_is); (case k7 => k_is); k_whole)))
local macro_rules | `(tactic| walk_at "inplaceOp Add ref ref") => `(tactic| (k_here; (with_reducible show wpAny _ _ (inplaceOp _ (Value.ref _) (Value.ref _)) _ _ _); k_dflt (refine' inpl_K ?k1 ?k2 ?k3 ?k4 ?k5 ?k8 ?k6 ?k7 ?_; (case k1 => k_asm); (case k2 => k_asm); (case k3 => k_inst); (case k4 => k_typeOf); (case k5 => k_is); (case k8 => first | exact no_iadd _ | exact no_isub _); (case k6 => k_is); (case k7 => k_is); k_whole)))
local macro_rules | `(tactic| walk_at "inplaceOp Sub") => `(tactic| (k_here; (with_reducible show wpAny _ _ (inplaceOp _ (Value.ref _) (Value.ref _)) _ _ _); k_dflt (refine' inpl_K ?k1 ?k2 ?k3 ?k4 ?k5 ?k8 ?k6 ?k7 ?_; (case k1 => k_asm); (case k2 => k_asm); (case k3 => k_inst); (case k4 => k_typeOf); (case k5 => k_is); (case k8 => first | exact no_iadd _ | exact no_isub _); (case k6 => k_is); (case k7 => k_is); k_whole)))
local macro_rules | `(tactic| walk_at "inplaceOp Sub ref") => `(tactic| (k_here; (with_reducible show wpAny _ _ (inplaceOp _ (Value.ref _) (Value.ref _)) _ _ _); k_dflt (refine' inpl_K ?k1 ?k2 ?k3 ?k4 ?k5 ?k8 ?k6 ?k7 ?_; (case k1 => k_asm); (case k2 => k_asm); (case k3 => k_inst); (case k4 => k_typeOf); (case k5 => k_is); (case k8 => first | exact no_iadd _ | exact no_isub _); (case k6 => k_is); (case k7 => k_is); k_whole)))
local macro_rules | `(tactic| walk_at "inplaceOp Sub ref ref") => `(tactic| (k_here; (with_reducible show wpAny _ _ (inplaceOp _ (Value.ref _) (Value.ref _)) _ _ _); k_dflt (refine' inpl_K ?k1 ?k2 ?k3 ?k4 ?k5 ?k8 ?k6 ?k7 ?_; (case k1 => k_asm); (case k2 => k_asm); (case k3 => k_inst); (case k4 => k_typeOf); (case k5 => k_is); (case k8 => first | exact no_iadd _ | exact no_isub _); (case k6 => k_is); (case k7 => k_is); k_whole)))

local macro_rules | `(tactic| walk_at "compareOp Gt int int") => `(tactic| (k_here; first | (refine gt_yes (by omega) ?_) | (refine gt_no (by omega) ?_)))
local macro_rules | `(tactic| walk_at "call builtin:list.pop") => `(tactic| (k_here; (with_reducible show wpAny _ _ (call (Value.builtin _) [Value.ref _]) _ _ _); k_dflt (refine' lo_pop ?F ?N ?U ?l ?z ?_; (case F => k_asm); (case N => k_asm); (case U => k_upd); (case l => with_reducible assumption); (case z => omega); k_whole); intro h' F' N'; (try k_sweep)))
local macro_rules | `(tactic| walk_at "call ref") => `(tactic| (k_here; (with_reducible show wpAny _ _ (call (Value.ref 183) _) _ _ _); k_dflt (first
  | (refine' fq_new ?C ?F ?N ?d ?p ?_; (case C => exact Cx.mk (by k_asm) (by k_asm) (by k_asm) (by first | exact rfl | assumption) (by first | exact rfl | assumption)); (case F => k_asm); (case N => k_asm); (case d => k_room); (case p => assumption); k_whole)
  | (refine' fq_copy ?C ?F ?N ?x ?dx ?d ?p ?_; (case C => exact Cx.mk (by k_asm) (by k_asm) (by k_asm) (by first | exact rfl | assumption) (by first | exact rfl | assumption)); (case F => k_asm); (case N => k_asm); (case x => k_mem); (case dx => k_mem); (case d => k_room); (case p => assumption); k_whole)); intro r' d' t1' t2' tp' tn' h' tk' F' N' l1' l2'; (have lx' := allLt_of l1'); (try simp only [AllLt] at lx'); (have ly' := ltA l2'); (try k_sweep)))
theorem fresh20 : True := by
  w_top off
  trivial
section
variable {w : World} {A₀ : Around} {dp un : Nat} {gd : Option (List Code)} {env : Env} {outer : List Env} {base h₀ : Heap} {L : Addr} {m : Str → Option Value} {news : List (Addr × Obj)} {s : Shared} {pr : Program} {loose : List Str} {mean : ExcName → Option Value} {mg mb : Str → Option Value}
  {p a : Int} {Q E : Value → Shared → Prop} {b d : Addr} {ob od : Obj} {vs ms : List Value} {cs : List Int}
theorem pmul {x y : Addr} {cx cy : List Int} {n : Nat} (C : Cx w A₀ env outer base h₀ L pr loose mean mg mb) (F : Fr h₀ L s.heap m) (N : News h₀ L s.heap news) (hbr : AllBare s.gens) (hW : Warm news)
    (hx : PV w p n news x cx) (hy : PV w p n news y cy) (hz : n ≤ 100) (hn0 : 0 < n) (hred : Red p cx) (hp60 : p < 2 ^ 60)
    (hdp : dp + 60 < recursionLimit) (hp : 0 < p) (ret : PRet w h₀ L m news p n (pm p n cx cy) s Q) :
    wpAny (model PySem.Challenge.rw_bw0042_01.row.prog w) (ar dp un gd env outer) (call (.ref 230) [.ref x, .ref y]) Q E s := by
  have hxv := hx
  have hp0 : p ≠ 0 := by omega
  obtain ⟨B, X, T, hf, hk⟩ := C
  obtain ⟨dx, t, mt, vx, ms, t1, t2, t3, t4, t5, t6, h1, h2, h3, h4, h5, hms, h6⟩ := hx
  obtain ⟨dy, t', mt', vy, ms', t1', t2', t3', t4', t5', t6', h1', h2', h3', h4', h5', hms', h6'⟩ := hy
  simp only [InL] at h1 h2 h3 h4 h1' h2' h3' h4'
  revert X; k_fill; intro X
  k_steps
  unfold HoldOn
  refine comp_AF (by assumption) (by with_unfolding_all rfl) (by with_unfolding_all rfl) (by decide) rfl (by decide) (by with_unfolding_all rfl) (by with_unfolding_all rfl) (by intro _; with_unfolding_all rfl) ?zmain
  case zmain =>
    k_steps
    rename IsRange _ _ _ _ _ _ _ _ => hR
    rename_i g1 L1 ha1 tk1 FG1 B1 X1 T1 l1 oo os dd ds D0 ha2 F2 N2 l2 tk2 ha3 tk3 ta tb tc F3 N3 up3
    have hdd : oo.data = .cell (some (.ref y)) := by with_unfolding_all exact dd
    have hds : os.data = .cell (some (.ref x)) := by with_unfolding_all exact ds
    clear dd ds up3 F2 N2
    refine gen_led N3 fun nb enb N4 => ?_
    have up : ∀ q ∈ news, q ∈ nb := fun q hq => enb ▸ List.mem_cons_of_mem _ (List.mem_cons_of_mem _ (List.mem_cons_of_mem _ hq))
    have mc1 : (L1 + 1 + 1, oo) ∈ nb := enb ▸ List.mem_cons_of_mem _ List.mem_cons_self
    have mc2 : (L1 + 1, os) ∈ nb := enb ▸ List.mem_cons_of_mem _ (List.mem_cons_of_mem _ List.mem_cons_self)
    have nlt : ∀ q ∈ nb, @LT.lt Nat _ q.1 (D0 + 1) := fun q hq => by
      rw [← enb] at hq
      rcases List.mem_cons.mp hq with rfl | hq
      · exact Nat.lt_succ_self _
      · rcases List.mem_cons.mp hq with rfl | hq
        · exact Nat.lt_succ_of_lt l2.1
        · rcases List.mem_cons.mp hq with rfl | hq
          · exact Nat.lt_succ_of_lt l2.2.1
          · have := ltA (l1 q hq); have := l2.1; omega
    obtain ⟨o0, hown⟩ : ∃ o0, nb = [(D0, o0), (L1 + 1 + 1, oo), (L1 + 1, os)] ++ news := ⟨_, enb.symm⟩
    have oown : ∀ q ∈ [(D0, o0), (L1 + 1 + 1, oo), (L1 + 1, os)], ∀ r ∈ news, r.1 < q.1 := by
      intro q hq r hr
      have := ltA (l1 r hr)
      have a1 := l2.1
      refine ltA ?_
      simp only [List.mem_cons, List.not_mem_nil, or_false] at hq
      rcases hq with rfl | rfl | rfl <;> (dsimp only; omega)
    have hW := hW.mono (ex := [(D0, o0), (L1 + 1 + 1, oo), (L1 + 1, os)])
    have hxv := hxv.mono (led' := nb) fun q hq _ => up q hq
    rw [← hown] at hW
    have k1 := up _ h1
    have k2 := up _ h2
    have k3 := up _ h3
    have k4 := up _ h4
    have j1 := up _ h1'
    have j2 := up _ h2'
    have j3 := up _ h3'
    have v5 := h5.mono fun _ _ h => h.mono (led' := nb) fun q hq _ => up q hq
    have v5' := h5'.mono fun _ _ h => h.mono (led' := nb) fun q hq _ => up q hq
    clear N3 h1 h2 h3 h4 h1' h2' h3' h4' enb
    refine' cs_rng (J := FqJ w p (List.replicate (2 * n - 1) 0)) rfl F3 N4 hR (rng_up (by omega) (by omega)) ?zz ?zx ?zkk ?zjl ?zj0 ?zst ?zR
    case zz => omega
    case zx => with_unfolding_all rfl
    case zkk => rfl
    case zjl => exact fun i ys tl h => Nat.le_of_eq h.1
    case zj0 => exact FqJ.zero
    case zst =>
      intro ha4 i t ys tl C oC m3 h tk led E' hi hJ hoC mx hC hl F6 N6
      have up' : ∀ q ∈ nb, q ∈ led := fun q hq => hl q (List.mem_append_right _ hq)
      have c1 := up' _ mc1
      have c2 := up' _ mc2
      have k1 := up' _ k1
      have k2 := up' _ k2
      have hcc : (List.replicate (2 * n - 1) (0 : Int))[i]? = some ((0 : Int).fmod p) := by
        rw [Int.zero_fmod, List.getElem?_replicate, if_pos (by omega)]
      clear hl up' N4 F3 mc1 mc2
      k_steps
      exact fq_cend hJ hcc (by assumption) (by assumption) (by assumption) (by assumption)
    case zR =>
      intro ha4 ys D ha5 tk4 tl hJ F6 N6 o1 o2 o3
      clear F3 N4 hR
      have hll : ys.length = 2 * n - 1 := by rw [hJ.1]; omega
      have hvs : All2 (FQv w p tl) ys (List.replicate (2 * n - 1) 0) := by
        have := hJ.2
        rwa [List.take_of_length_le (by rw [List.length_replicate]; omega)] at this
      have N7 : News _ _ ha5 ((D, lo ys ys.length) :: Apd tl nb) := N6
      clear N6 hJ
      k_steps
      unfold HoldOn
      refine for_KF (by assumption) (by intro _; with_unfolding_all rfl) ?zo
      case zo =>
        k_steps
        rename IsRange _ _ _ _ _ _ _ _ => hR2
        rename Fr _ _ _ _ => F8
        rename News _ _ _ _ => N8
        have hDnb : ∀ q ∈ Apd tl nb, q.1 ≠ D := fun q hq => (List.mem_append.mp hq).elim (fun h => Nat.ne_of_gt (o1 q h)) fun h => Nat.ne_of_lt (o3 q h)
        refine' acc_rng0 (nb := nb) (tl := tl) (vs := ys) (k := ys.length) (D := D) (J := fun i m₁ vs tl => m₁ (Str.ofString "b") = some (.ref D) ∧ All2 (FQv w p tl) vs (pmOut p cx cy n (List.replicate (2 * n - 1) 0) i)) rfl F8 N8 hR2 ?zb0 ?zb1 hDnb ?zhx ?zhp ?zj0 ?zst ?zdn
        case zb0 => omega
        case zb1 => omega
        case zhx => with_unfolding_all rfl
        case zhp => with_unfolding_all rfl
        case zj0 => exact ⟨if_pos rfl, hvs⟩
        case zst =>
          rintro i t m₁ vs₁ k₁ tl₁ big s₁ E' hi ⟨hb, hA⟩ htl hnb hbD hS F9 N9
          clear N8 F8 hR2
          have hb : (fun z => if z = Str.ofString "i" then some (Value.int (i : Int) t) else m₁ z) (Str.ofString "b") = some (.ref D) := (if_neg (by decide)).trans hb
          have q1 := hnb _ mc1
          have q2 := hnb _ mc2
          have q3 := hnb _ k1
          have q4 := hnb _ k2
          k_steps
          unfold HoldOn
          refine for_KF (by assumption) (by intro _; with_unfolding_all rfl) ?zi
          case zi =>
            k_steps
            rename IsRange _ _ _ _ _ _ _ _ => hR3
            rename Fr _ _ _ _ => F10
            rename News _ _ _ _ => N10
            have hi : i < n := by omega
            have hDb : ∀ q ∈ Apd tl₁ big, q.1 ≠ D := fun q hq => (List.mem_append.mp hq).elim (fun h => hbD q (htl q h)) fun h => hbD q h
            have N11 : News _ _ _ ((D, lo vs₁ k₁) :: Apd tl₁ big) := fun q hq => N10 q (by
              rcases List.mem_cons.mp hq with rfl | hq
              · exact List.mem_cons_self
              · exact List.mem_cons_of_mem _ ((List.mem_append.mp hq).elim (htl q) id))
            clear N10
            refine' acc_rng0 (nb := big) (tl := tl₁) (vs := vs₁) (k := k₁) (D := D) (J := fun j m₂ vs tl => m₂ (Str.ofString "b") = some (.ref D) ∧ m₂ (Str.ofString "i") = some (.int (i : Int) t) ∧ All2 (FQv w p tl) vs (pmIn p (cx.getD i 0) cy i (pmOut p cx cy n (List.replicate (2 * n - 1) 0) i) j)) rfl F10 N11 hR3 ?yb0 ?yb1 hDb ?yhx ?yhp ?yj0 ?yst ?ydn
            case yb0 => omega
            case yb1 => omega
            case yhx => with_unfolding_all rfl
            case yhp => with_unfolding_all rfl
            case yj0 => exact ⟨hb, if_pos rfl, hA⟩
            case yst =>
              rintro j t' m₂ vs₂ k₂ tl₂ big₂ s₂ E'' hj ⟨hb2, hi2, hA2⟩ htl2 hnb2 hbD2 hS2 F12 N12
              clear N11 F10 hR3
              have hj : j < n := by omega
              have hb2 : (fun z => if z = Str.ofString "j" then some (Value.int (j : Int) t') else m₂ z) (Str.ofString "b") = some (.ref D) := (if_neg (by decide)).trans hb2
              have hi2 : (fun z => if z = Str.ofString "j" then some (Value.int (j : Int) t') else m₂ z) (Str.ofString "i") = some (.int (i : Int) t) := (if_neg (by decide)).trans hi2
              have upb : ∀ q ∈ nb, q ∈ big₂ := fun q hq => hnb2 q (hnb q hq)
              obtain ⟨vi, hvi, fx, fdx, a1, a2, a3, a4, rfl, ha1, ha2⟩ := v5.got (c := cx.getD i 0) (getD_some (by rw [← v5.1, h6]; exact hi))
              obtain ⟨vj, hvj, fy, fdy, b1, b2, b3, b4, rfl, hb1, hb2'⟩ := v5'.got (c := cy.getD j 0) (getD_some (by rw [← v5'.1, h6']; exact hj))
              have hlen2 : vs₂.length = 2 * n - 1 := by rw [hA2.1, pmIn_len, pmOut_len, List.length_replicate]
              obtain ⟨vk, hvk, fz, fdz, c1, c2, c3, c4, rfl, hc1, hc2⟩ := hA2.got (i := i + j) (c := (pmIn p (cx.getD i 0) cy i (pmOut p cx cy n (List.replicate (2 * n - 1) 0) i) j).getD (i + j) 0) (getD_some (by rw [← hA2.1, hlen2]; omega))
              have e1 : ((i : Int) + (j : Int)).toNat = i + j := by omega
              have e2 : ((i : Int)).toNat = i := by omega
              have e3 : ((j : Int)).toNat = j := by omega
              rw [← e2] at hvi
              rw [← e3] at hvj
              rw [← e1] at hvk
              have hlt : ((i : Int) + (j : Int)).toNat < vs₂.length := by rw [hlen2]; omega
              have ha1 := upb _ ha1
              have ha2 := upb _ ha2
              have hb1 := upb _ hb1
              have hb2' := upb _ hb2'
              have hc1 := htl2 _ hc1
              have hc2 := htl2 _ hc2
              have c1 := upb _ mc1
              have c2 := upb _ mc2
              have k1 := upb _ k1
              have k2 := upb _ k2
              have k3 := upb _ k3
              have j1 := upb _ j1
              have j2 := upb _ j2
              have j3 := upb _ j3
              obtain ⟨r1, r2⟩ := hred.at (c := cx.getD i 0) (getD_some (by rw [← v5.1, h6]; exact hi))
              have r3 : cx.getD i 0 < 2 ^ 60 := by omega
              k_steps
              dsimp only [APost]
              refine acc_two (m' := fun z => if z = Str.ofString "j" then some (Value.int (j : Int) t') else m₂ z) (s₁ := s₂) (by assumption) (by assumption) (by assumption) (by assumption) (by assumption) (by assumption) ⟨hb2, hi2, ?_⟩
              rw [e1]
              exact (hA2.mono fun _ _ h => h.mono fun q hq _ => List.mem_append_right _ hq).set _ ⟨_, _, _, _, _, _, rfl, List.mem_cons_self, List.mem_cons_of_mem _ List.mem_cons_self⟩
            case ydn =>
              rintro s' m' vs' k' ex ⟨hb', hi', hA'⟩ hS' F' N' ho
              k_steps
              dsimp only [APost]
              refine ⟨m', vs', k', ex, F', fun q hq => N' q ?_, fun p hp => ⟨fun q hq => (ho p hp).1 q (mem_apd hq), (ho p hp).2⟩, ⟨hb', hA'⟩, hS'⟩
              rcases List.mem_cons.mp hq with rfl | hq
              · exact List.mem_cons_self
              · exact List.mem_cons_of_mem _ ((List.mem_append.mp hq).elim (fun h => List.mem_append_left _ h) fun h => mem_apd (mem_apd h))
        case zdn =>
          rintro s' m' vs' k' ex ⟨hb', hA'⟩ hS' F' N' ho
          have hlen : vs'.length = n + (n - 1) := by rw [hA'.1, pmOut_len, List.length_replicate]; omega
          k_steps
          unfold HoldOn
          refine while_K (I := fun fuel s₅ => ∃ m₅ vs₅ k₅ ex₅ b₅, Fr g1 _ s₅.heap m₅ ∧ News g1 _ s₅.heap ((D, lo vs₅ k₅) :: Apd ex₅ (Apd tl nb)) ∧ (∀ p ∈ ex₅, (∀ q ∈ Apd tl nb, q.1 < p.1) ∧ D < p.1) ∧ m₅ (Str.ofString "b") = some (.ref D) ∧ All2 (FQv w p (ex₅ ++ tl)) vs₅ b₅ ∧ vs₅.length = n + fuel ∧ fuel ≤ n ∧ pmRed p n fuel b₅ = pm p n cx cy ∧ Red p b₅ ∧ Sm s' s₅) ?zturn (n - 1)
            ⟨m', vs', k', ex, _, F', N', ho, hb', hA', hlen, by omega, (by rw [Int.toNat_natCast]; rfl), red_out hp (Red.zeros hp) _, Sm.refl _⟩
          case zturn =>
            rintro fuel s₅ E' ⟨m₅, vs₅, k₅, ex₅, b₅, F5, N5, ho5, hb5, hA5, hl5, hfn, hp5, hr5, hS5⟩
            clear F' N'
            have q1 := (mem_apd (ex := ex₅) (mem_apd (ex := tl) mc1))
            have hbs : AllBare s'.gens := Sm.bare hS' hbr
            have hbr5 : AllBare s₅.gens := Sm.bare hS5 hbs
            cases fuel with
            | zero =>
              have hcv : All2 (Cv w p (Apd ex₅ (Apd tl nb))) vs₅ (pm p n cx cy) := by
                have e : b₅ = pm p n cx cy := hp5
                rw [← e]
                exact hA5.mono fun _ _ h => .inr (h.mono fun q hq _ => (List.mem_append.mp hq).elim (fun h => List.mem_append_left _ h) fun h => mem_apd (List.mem_append_left _ h))
              have hl5' : vs₅.length = n := hl5
              k_steps
              rename PV _ _ _ _ _ _ => hvF
              rename News _ _ _ _ => kN
              rename Sm _ _ => hSF
              rename (∀ p ∈ _, ∀ q ∈ _, _ < _) => loF
              have e : (D, lo vs₅ k₅) :: Apd ex₅ (Apd tl nb) = ((D, lo vs₅ k₅) :: (ex₅ ++ (tl ++ [(D0, o0), (L1 + 1 + 1, oo), (L1 + 1, os)]))) ++ news := by rw [hown]; simp [Apd]
              rw [e] at kN hvF loF
              refine PRet.at ret ?_ ((Sm.trans hS' hS5).trans hSF) (by assumption) kN loF hvF
              intro q hq r hr
              rcases List.mem_cons.mp hq with rfl | hq
              · exact o3 r (up r hr)
              · rcases List.mem_append.mp hq with hq | hq
                · exact (ho5 q hq).1 r (mem_apd (up r hr))
                · rcases List.mem_append.mp hq with hq | hq
                  · exact o2 q hq r (up r hr)
                  · exact oown q hq r hr
            | succ fuel =>
              have hl5' : vs₅.length = n + fuel + 1 := hl5
              obtain ⟨vy, hvy, ft, fdt, a1, a2, a3, a4, rfl, ht1, ht2⟩ := hA5.got (getLastD_at (b := b₅) (k := n + fuel) (by rw [← hA5.1]; exact hl5'))
              have hspl := last_split hl5' hvy
              have hDa : ∀ q ∈ Apd ex₅ (Apd tl nb), q.1 ≠ D := fun q hq => (List.mem_append.mp hq).elim (fun h => Nat.ne_of_gt (ho5 q h).2) fun h => hDnb q h
              k_steps
              unfold HoldOn
              refine for_KF (by assumption) (by intro _; with_unfolding_all rfl) ?xi
              case xi =>
                have q2 := (mem_apd (ex := ex₅) (mem_apd (ex := tl) mc2))
                have q3 := (mem_apd (ex := ex₅) (mem_apd (ex := tl) k1))
                have q4 := (mem_apd (ex := ex₅) (mem_apd (ex := tl) k2))
                k_steps
                rename IsRange _ _ _ _ _ _ _ _ => hR3
                rename Fr _ _ _ _ => F10
                rename News _ _ _ _ => N10
                rename (_ < _ ∧ AllLt _ _) => lT
                refine gen_led N10 fun led eled N13 => ?_
                obtain ⟨T0, oT, hled⟩ : ∃ T0 oT, (T0, oT) :: (D, lo vs₅.dropLast (k₅ + 1)) :: Apd ex₅ (Apd tl nb) = led ∧ @LT.lt Nat _ D T0 := ⟨_, _, eled, lT.1⟩
                obtain ⟨hled, hDT⟩ := hled
                have N11 : News _ _ _ ((D, lo vs₅.dropLast (k₅ + 1)) :: Apd (ex₅ ++ tl) ((T0, oT) :: Apd ex₅ (Apd tl nb))) := fun q hq => N13 q (by
                  rw [← hled]
                  rcases List.mem_cons.mp hq with rfl | hq
                  · exact List.mem_cons_of_mem _ List.mem_cons_self
                  · rcases List.mem_append.mp hq with hq | hq
                    · refine List.mem_cons_of_mem _ (List.mem_cons_of_mem _ ?_)
                      exact (List.mem_append.mp hq).elim (fun h => List.mem_append_left _ h) fun h => mem_apd (List.mem_append_left _ h)
                    · rcases List.mem_cons.mp hq with rfl | hq
                      · exact List.mem_cons_self
                      · exact List.mem_cons_of_mem _ (List.mem_cons_of_mem _ hq))
                have hDb : ∀ q ∈ Apd (ex₅ ++ tl) ((T0, oT) :: Apd ex₅ (Apd tl nb)), q.1 ≠ D := fun q hq => by
                  rcases List.mem_append.mp hq with hq | hq
                  · exact hDa q ((List.mem_append.mp hq).elim (fun h => List.mem_append_left _ h) fun h => mem_apd (List.mem_append_left _ h))
                  · rcases List.mem_cons.mp hq with rfl | hq
                    · exact Nat.ne_of_gt hDT
                    · exact hDa q hq
                clear N10 N13 eled
                refine' acc_rng0 (nb := (T0, oT) :: Apd ex₅ (Apd tl nb)) (tl := ex₅ ++ tl) (vs := vs₅.dropLast) (k := k₅ + 1) (D := D) (J := fun i m₂ vs tl => m₂ (Str.ofString "b") = some (.ref D) ∧ (∃ u, m₂ (Str.ofString "exp") = some (.int (fuel : Int) u)) ∧ m₂ (Str.ofString "top") = some (.ref ft) ∧ All2 (FQv w p tl) vs (pmRedIn p (b₅.getLastD 0) fuel b₅.dropLast i)) rfl F10 N11 hR3 ?xb0 ?xb1 hDb ?xhx ?xhp ?xj0 ?xst ?xdn
                case xb0 => omega
                case xb1 => omega
                case xhx => with_unfolding_all rfl
                case xhp => with_unfolding_all rfl
                case xj0 => exact ⟨(if_neg (by decide)).trans ((if_neg (by decide)).trans hb5), ⟨_, (if_pos rfl).trans (congrArg (fun z => some (Value.int z _)) (by omega))⟩, (if_neg (by decide)).trans (if_pos rfl), hA5.dropLast⟩
                case xst =>
                  rintro i t m₂ vs₂ k₂ tl₂ big₂ s₂ E'' hi ⟨hb2, ⟨u, he2⟩, htop2, hA2⟩ htl2 hnb2 hbD2 hS2 F12 N12
                  clear N11 F10 hR3
                  have hi : i < n := by omega
                  have hb2 : (fun z => if z = Str.ofString "i" then some (Value.int (i : Int) t) else m₂ z) (Str.ofString "b") = some (.ref D) := (if_neg (by decide)).trans hb2
                  have he2 : (fun z => if z = Str.ofString "i" then some (Value.int (i : Int) t) else m₂ z) (Str.ofString "exp") = some (.int (fuel : Int) u) := (if_neg (by decide)).trans he2
                  have htop2 : (fun z => if z = Str.ofString "i" then some (Value.int (i : Int) t) else m₂ z) (Str.ofString "top") = some (.ref ft) := (if_neg (by decide)).trans htop2
                  have upn : ∀ q ∈ nb, q ∈ big₂ := fun q hq => hnb2 q (List.mem_cons_of_mem _ (mem_apd (mem_apd hq)))
                  have upx : ∀ q ∈ ex₅ ++ tl, q ∈ big₂ := fun q hq => hnb2 q (List.mem_cons_of_mem _ ((List.mem_append.mp hq).elim (fun h => List.mem_append_left _ h) fun h => mem_apd (List.mem_append_left _ h)))
                  have hlen2 : vs₂.length = n + fuel := by rw [hA2.1, pmRedIn_len, List.length_dropLast, ← hA5.1, hl5']; omega
                  obtain ⟨vk, hvk, fz, fdz, c1, c2, c3, c4, rfl, hc1, hc2⟩ := hA2.got (i := fuel + i) (c := (pmRedIn p (b₅.getLastD 0) fuel b₅.dropLast i).getD (fuel + i) 0) (getD_some (by rw [← hA2.1, hlen2]; omega))
                  have e1 : ((fuel : Int) + (i : Int)).toNat = fuel + i := by omega
                  have e2 : ((i : Int)).toNat = i := by omega
                  obtain ⟨vm, hvm, um, rfl⟩ : ∃ vm, ms[((i : Int)).toNat]? = some vm ∧ ∃ um, vm = .int 1 um := by
                    have hml : i < ms.length := by rw [hms.1]; exact hi
                    rw [e2]
                    exact ⟨_, List.getElem?_eq_getElem hml, hms.2 _ (List.getElem_mem hml)⟩
                  rw [← e1] at hvk
                  have hlt : ((fuel : Int) + (i : Int)).toNat < vs₂.length := by rw [hlen2]; omega
                  have hc1 := htl2 _ hc1
                  have hc2 := htl2 _ hc2
                  have ht1 := upx _ ht1
                  have ht2 := upx _ ht2
                  have c1 := upn _ mc1
                  have c2 := upn _ mc2
                  have k1 := upn _ k1
                  have k2 := upn _ k2
                  have k4 := upn _ k4
                  obtain ⟨r1, r2⟩ := hr5.at (getLastD_at (b := b₅) (k := n + fuel) (by rw [← hA5.1]; exact hl5'))
                  have r3 : b₅.getLastD 0 < 2 ^ 60 := by omega
                  have ef : (1 : Int).fmod p = 1 % p := fm1 hp
                  k_steps
                  dsimp only [APost]
                  refine acc_of (m' := fun z => if z = Str.ofString "i" then some (Value.int (i : Int) t) else m₂ z) (s₁ := s₂) [_, _, _, _, _, _] (by assumption) (by assumption) (ord_cons (ord_cons (ord_cons (fun _ h => nomatch h) (by assumption) (by assumption)) (by assumption) (by assumption)) (by assumption) (by assumption)) ⟨hb2, ⟨u, he2⟩, htop2, ?_⟩
                  rw [e1]
                  show All2 _ _ ((pmRedIn p (b₅.getLastD 0) fuel b₅.dropLast i).set (fuel + i) (((pmRedIn p (b₅.getLastD 0) fuel b₅.dropLast i).getD (fuel + i) 0 - (b₅.getLastD 0 * (1 % p)) % p) % p))
                  rw [← ef]
                  exact (hA2.mono fun _ _ h => h.mono fun q hq _ => List.mem_append_right _ hq).set _ ⟨_, _, _, _, _, _, rfl, List.mem_cons_self, List.mem_cons_of_mem _ List.mem_cons_self⟩
                case xdn =>
                  rintro s6 m6 vs6 k6 ex6 ⟨hb6, _, _, hA6⟩ hS6 F6 N6 ho6
                  rw [Int.toNat_natCast] at hA6
                  k_steps
                  have hz6 : vs6.length = n + fuel := by rw [hA6.1, pmRedIn_len, List.length_dropLast, ← hA5.1, hl5']; omega
                  refine ⟨fuel, Nat.lt_succ_self _, m6, vs6, k6, ex6 ++ ex₅, _, F6, fun q hq => N6 q ?_, fun q hq => ?_, hb6, ?_, hz6, by omega, hp5, red_redin hp (fun x hx => hr5 x ((List.dropLast_sublist _).subset hx)) _, (Sm.trans hS5 hS6)⟩
                  · rcases List.mem_cons.mp hq with rfl | hq
                    · exact List.mem_cons_self
                    · refine List.mem_cons_of_mem _ ?_
                      rcases List.mem_append.mp hq with hq | hq
                      · rcases List.mem_append.mp hq with hq | hq
                        · exact List.mem_append_left _ hq
                        · exact mem_apd (mem_apd (List.mem_cons_of_mem _ (List.mem_append_left _ hq)))
                      · exact mem_apd (mem_apd (List.mem_cons_of_mem _ (mem_apd hq)))
                  · rcases List.mem_append.mp hq with hq | hq
                    · exact ⟨fun r hr => (ho6 q hq).1 r (mem_apd (List.mem_cons_of_mem _ (mem_apd hr))), (ho6 q hq).2⟩
                    · exact ho5 q hq
                  · rw [List.append_assoc]; exact hA6
end
local macro_rules | `(tactic| walk_at "zzfresh") => `(tactic| skip)
theorem fresh21 : True := by
  w_top off
  trivial
/-- powers by the program's recursion; f: fuel -/
def ppw (p : Int) (n : Nat) : Nat → Nat → List Int → List Int
  | 0, _, cs => cs
  | f + 1, k, cs => if k = 0 then (1 :: List.replicate (n - 1) 0).map (· % p) else if k = 1 then cs else if k % 2 = 0 then ppw p n f (k / 2) (pm p n cs cs) else pm p n (ppw p n f (k / 2) (pm p n cs cs)) cs
theorem PV.inst {w : World} {p : Int} {n : Nat} {led : List (Addr × Obj)} {x : Addr} {cs : List Int} (h : PV w p n led x cs) : ∃ d t mt t1 t2 t3 t4 t5 t6, (x, instObj 297 d) ∈ led ∧ (d, fqpD w p n t mt t1 t2 t3 t4 t5 t6) ∈ led :=
  let ⟨d, t, mt, _, _, t1, t2, t3, t4, t5, t6, h1, h2, _⟩ := h; ⟨d, t, mt, t1, t2, t3, t4, t5, t6, h1, h2⟩
theorem red_map {p : Int} (hp : 0 < p) (xs : List Int) : Red p (xs.map (· % p)) := fun x hx => by
  obtain ⟨y, _, rfl⟩ := List.mem_map.mp hx
  exact ⟨Int.emod_nonneg _ (by omega), Int.emod_lt_of_pos _ hp⟩
theorem red_ppw {p : Int} (hp : 0 < p) {n : Nat} : ∀ f k {cs : List Int}, Red p cs → Red p (ppw p n f k cs)
  | 0, _, _, h => h
  | f + 1, k, cs, h => by
    rw [ppw]
    split
    · exact red_map hp _
    · split
      · exact h
      · split
        · exact red_ppw hp f _ (red_pm hp)
        · exact red_pm hp
local macro_rules | `(tactic| walk_at "call ref") => `(tactic| (k_here; (with_reducible show wpAny _ _ (call (Value.ref 230) _) _ _ _); first
  | (k_dflt (
  refine' pmul ?zC ?zF ?zN ?zb ?zW ?zhx ?zhy ?zhz ?zn0 ?zrd ?zp6 ?zdp ?zp ?_; (case zC => exact Cx.mk (by k_asm) (by k_asm) (by k_asm) (by first | exact rfl | assumption) (by first | exact rfl | assumption)); (case zF => k_asm); (case zN => k_asm); (case zb => assumption); (case zW => walk_at "zwm"); (case zhx => walk_at "zpx"); (case zhy => walk_at "zpx");
    (case zhz => assumption); (case zn0 => assumption); (case zrd => assumption); (case zp6 => assumption); (case zdp => k_room); (case zp => assumption); k_whole); intro x' ex' s' hSm' F' N' lo' hv'; (have hbr' := Sm.bare hSm' (by assumption)); (obtain ⟨iD', iT', iM', i1', i2', i3', i4', i5', i6', iA', iB'⟩ := PV.inst hv'); (try dsimp only [PySem.W.CmpBack]); (try k_sweep))
  | refine hold_on ?_))
local macro_rules | `(tactic| walk_at "call ref") => `(tactic| (k_here; (with_reducible show wpAny _ _ (call (Value.ref 249) _) _ _ _); refine hold_on ?_))
theorem fresh22 : True := by
  w_top off
  trivial
section
variable {w : World} {pr : Program} {loose : List Str} {mean : ExcName → Option Value} {mg mb : Str → Option Value} {p : Int} {n : Nat}
theorem ppow (hp : 0 < p) (hp60 : p < 2 ^ 60) (hz : n ≤ 100) (hn0 : 0 < n) : ∀ f k, k < f → ∀ {A₀ : Around} {dp un : Nat} {gd : Option (List Code)} {env : Env} {outer : List Env} {base h₀ : Heap} {L : Addr} {m : Str → Option Value} {news : List (Addr × Obj)} {s : Shared} {Q E : Value → Shared → Prop} {x : Addr} {cx : List Int} {tk0 : Tok}
    (C : Cx w A₀ env outer base h₀ L pr loose mean mg mb) (F : Fr h₀ L s.heap m) (N : News h₀ L s.heap news) (hbr : AllBare s.gens) (hW : Warm news) (hx : PV w p n news x cx) (hred : Red p cx)
    (hdp : dp + 100 + 6 * f < recursionLimit) (ret : PRet w h₀ L m news p n (ppw p n f k cx) s Q),
    wpAny (model PySem.Challenge.rw_bw0042_01.row.prog w) (ar dp un gd env outer) (call (.ref 249) [.ref x, .int (k : Int) tk0]) Q E s := by
  intro f
  induction f with
  | zero => intro k h; exact absurd h (Nat.not_lt_zero k)
  | succ f ih =>
    intro k hkf A₀ dp un gd env outer base h₀ L m news s Q E x cx tk0 C F N hbr hW hx hred hdp ret
    have hxv := hx
    have hp0 : p ≠ 0 := by omega
    obtain ⟨B, X, T, hf, hk⟩ := C
    obtain ⟨dx, t, mt, vx, ms, t1, t2, t3, t4, t5, t6, h1, h2, h3, h4, h5, hms, h6⟩ := hx
    simp only [InL] at h1 h2 h3 h4
    revert X; k_fill; intro X
    refine wpAny_call ?_
    k_enter
    k_steps
    · rename (k : Int) = 0 => e0
      have e0' : k = 0 := by omega
      unfold HoldOn
      rename IntsAre _ (_ ++ _) => hI
      have e : ([1] ++ (List.replicate ((n : Int) - 1).toNat [0]).flatten : List Int) = 1 :: List.replicate (n - 1) 0 := by
        rw [show ((n : Int) - 1).toNat = n - 1 by omega, List.flatten_replicate_singleton]; rfl
      rw [e] at hI
      have hcs := fun led => ints_cv (w := w) (p := p) (led := led) hI
      have hl : _ = n := (hcs []).1.trans (by simp; omega)
      rename (_ ∧ _ ∧ _) => hlt
      k_steps
      rename Sm _ _ => hS
      rw [ppw, if_pos e0'] at ret
      refine PRet.at (own := [_, _, _, _]) ret ?ho hS (by assumption) (by assumption) (by assumption) (by assumption)
      walk_at "zho"
    · rename (k : Int) = 1 => e1
      have e1' : k = 1 := by omega
      unfold HoldOn
      have hcv : All2 (Cv w p news) vx cx := h5.mono fun _ _ h => .inr h
      k_steps
      rename Sm _ _ => hS
      rw [ppw, if_neg (by omega), if_pos e1'] at ret
      exact ret _ _ _ hS (by assumption) (by assumption) (by assumption) (by assumption)
    · rename (k : Int).fmod 2 = 0 => e2
      have e2' : k % 2 = 0 := by rw [Int.fmod_eq_emod_of_nonneg _ (by omega)] at e2; omega
      have e3 : (k : Int).fdiv 2 = ((k / 2 : Nat) : Int) := by rw [Int.fdiv_eq_ediv_of_nonneg _ (by omega)]; omega
      unfold HoldOn
      rw [e3]
      rename Sm _ _ => hS
      rename PV _ _ _ (Apd _ _) _ _ => hv1
      rename AllBare _ => hbrX
      rw [ppw, if_neg (by omega), if_neg (by omega), if_pos e2'] at ret
      refine ih (k / 2) (by omega) (Cx.mk (by k_asm) (by k_asm) (by k_asm) rfl rfl) (by assumption) (by assumption) hbrX hW.app hv1 (red_pm hp) (by dsimp only [ar]; omega) ?_
      intro x2 ex2 s2 hS2 F2 N2 lo2 hv2
      try dsimp only [PySem.W.CmpBack]
      k_steps
      rename Fr _ _ _ _ => kF
      rename News _ _ _ _ => kN
      rename (∀ p ∈ _, ∀ q ∈ news, _ < _) => lo1
      exact PRet.at ret lo1 (Sm.trans hS hS2) kF kN lo2 hv2
    · rename (k : Int).fmod 2 ≠ 0 => e2
      have e2' : ¬ k % 2 = 0 := by rw [Int.fmod_eq_emod_of_nonneg _ (by omega)] at e2; omega
      have e3 : (k : Int).fdiv 2 = ((k / 2 : Nat) : Int) := by rw [Int.fdiv_eq_ediv_of_nonneg _ (by omega)]; omega
      unfold HoldOn
      rw [e3]
      rename Sm _ _ => hS
      rename PV _ _ _ (Apd _ _) _ _ => hv1
      rename AllBare _ => hbrX
      rename (∀ p ∈ _, ∀ q ∈ news, _ < _) => lo1
      rw [ppw, if_neg (by omega), if_neg (by omega), if_neg e2'] at ret
      refine ih (k / 2) (by omega) (Cx.mk (by k_asm) (by k_asm) (by k_asm) rfl rfl) (by assumption) (by assumption) hbrX hW.app hv1 (red_pm hp) (by dsimp only [ar]; omega) ?_
      intro x2 ex2 s2 hS2 F2 N2 lo2 hv2
      have hbr2 : AllBare s2.gens := Sm.bare hS2 hbrX
      have hrd2 : Red p (ppw p n f (k / 2) (pm p n cx cx)) := red_ppw hp f _ (red_pm hp)
      obtain ⟨iD2, iT2, iM2, i12, i22, i32, i42, i52, i62, iA2, iB2⟩ := PV.inst hv2
      try dsimp only [PySem.W.CmpBack]
      k_steps
      rename Fr _ _ _ _ => kF
      rename News _ _ _ _ => kN
      rename Sm _ _ => hS3
      rename PV _ _ _ _ _ _ => hv3
      rename (∀ p ∈ _, ∀ q ∈ Apd ex2 _, _ < _) => lo3
      refine PRet.at (own := ex2 ++ _) ret ?_ (Sm.trans (Sm.trans hS hS2) hS3) kF (by rw [List.append_assoc]; exact kN) (by rw [List.append_assoc]; exact lo3) (by rw [List.append_assoc]; exact hv3)
      intro q hq r hr
      rcases List.mem_append.mp hq with hq | hq
      · exact lo2 q hq r (mem_apd hr)
      · exact lo1 q hq r hr
end
end
section
local macro_rules | `(tactic| walk_at "zzfresh") => `(tactic| skip)
local macro_rules | `(tactic| walk_at "zzfresh") => `(tactic| skip)
local macro_rules | `(tactic| walk_at "zzfresh") => `(tactic| skip)
local macro_rules | `(tactic| walk_at "zzfresh") => `(tactic| skip)
local macro_rules | `(tactic| walk_at "zzfresh") => `(tactic| skip)
local macro_rules | `(tactic| walk_at "zzfresh") => `(tactic| skip)
local macro_rules | `(tactic| walk_at "zzfresh") => `(tactic| skip)
local macro_rules | `(tactic| walk_at "zzfresh") => `(tactic| skip)
local macro_rules | `(tactic| walk_at "zzfresh") => `(tactic| skip)
local macro_rules | `(tactic| walk_at "zzfresh") => `(tactic| skip)
local macro_rules | `(tactic| walk_at "zzfresh") => `(tactic| skip)
local macro_rules | `(tactic| walk_at "zzfresh") => `(tactic| skip)
local macro_rules | `(tactic| walk_at "zzfresh") => `(tactic| skip)
theorem fresh23 : True := by
  w_top off
  trivial
section
variable {prog : Program} {w : World} {A : Around} {E : Value → Shared → Prop} {s : Shared}
open AutoSeq1 (wpAny_loadPart')
theorem dr_draws {it t : Addr} {xs : Array Value} {St : Nat → Heap → Prop} (D : Dr prog w it t xs St) (hh : A.handled = none) : Draws prog w A it [it, t] xs.size (fun i v => xs[i]? = some v) St where
  live := fun i h st => (D.here _ _ st).1
  frame := fun i h h' st hk => D.frame _ _ _ st fun b hb o e => hk b (by rcases hb with rfl | rfl <;> simp) o e
  item := fun i s Q E hi st hQ => D.item _ _ _ _ _ _ st (Array.getElem?_eq_getElem hi) fun h' st' hs => hQ _ h' s.toks (Array.getElem?_eq_getElem hi) st' hs
  done := fun s Q E st hE => D.fin _ _ _ _ _ hh st (by simp) hE
/-- enumerate of a tuple -/
theorem en_new (l : Addr) (items : Array Value) :
    Meets (Builtin.«enumerate.__new__» ⟨[.type "enumerate", .ref l], []⟩) (fun _ R s => s.heap.IsTuple l items ∧
      R (.ok (.ret (.ref (s.heap.push { cls := .type "tuple_iterator", data := .fields #[.ref l, .int 0 0] }).objs.size)))
        { s with heap := (s.heap.push { cls := .type "tuple_iterator", data := .fields #[.ref l, .int 0 0] }).push { cls := .type "enumerate", data := .fields #[.none, .bool false, .ref s.heap.objs.size, rawInt 0, .none, .none] } }) :=
  .of_wp fun prog w A R s h => by
    obtain ⟨hp, g, d, tk, os⟩ := s; obtain ⟨hl, h⟩ := h
    have hsub := sub_enumerate
    have hL : Heap.IsTuple (Shared.heap ⟨hp, g, d, tk, os⟩) l items := hl
    wp_walk
    refine wpAny_stack_any fun st => wpAny_pure ?_
    split
    · rename_i c _ _ _ _ _
      cases (c == Value.type "enumerate")
      · wp_walk using wpAny_pyIter_tuple hL
        exact ⟨_, rfl, h⟩
      · wp_walk using wpAny_pyIter_tuple hL
        exact ⟨_, rfl, h⟩
    · wp_walk using wpAny_pyIter_tuple hL
      exact ⟨_, rfl, h⟩
theorem call_ent {l : Addr} {items : Array Value} {Q : Value → Shared → Prop} (hL : s.heap.IsTuple l items)
    (h : ∀ h', IsEnum h' (s.heap.objs.size + 1) s.heap.objs.size 0 .none → h'.IsTupleIter s.heap.objs.size l 0 → h'.objs.size = s.heap.objs.size + 2 →
      (∀ b o, s.heap.get? b = some o → h'.get? b = some o) → Q (.ref (s.heap.objs.size + 1)) { s with heap := h' }) :
    wpAny (model prog w) A (call (.type "enumerate") [.ref l]) Q E s := by
  refine callType_new PySem.F.called_enumerate (by decide) (PySem.F.typeCall_enumerate_1 _) (PySem.F.newCall_enumerate_1 _) (fun obj => PySem.F.args_object_init_2 obj _) PySem.F.entry_enumerate_new
    (en_new l items) ⟨hL, ?_⟩
  have hz : (s.heap.push { cls := .type "tuple_iterator", data := .fields #[.ref l, .int 0 0] }).objs.size = s.heap.objs.size + 1 := Heap.size_push ..
  show _ ∧ _
  rw [hz]
  have he : IsEnum ((s.heap.push { cls := .type "tuple_iterator", data := .fields #[.ref l, .int 0 0] }).push
      { cls := .type "enumerate", data := .fields #[.none, .bool false, .ref s.heap.objs.size, rawInt 0, .none, .none] }) (s.heap.objs.size + 1) s.heap.objs.size 0 .none := by
    have := Heap.get?_push_size (s.heap.push { cls := .type "tuple_iterator", data := .fields #[.ref l, .int 0 0] })
      (o := { cls := .type "enumerate", data := .fields #[.none, .bool false, .ref s.heap.objs.size, rawInt 0, .none, .none] }) rfl
    rw [hz] at this; exact this
  refine ⟨⟨_, he, rfl⟩, h _ he ⟨_, Heap.get?_push_of_some _ (Heap.get?_push_size _ rfl), rfl, rfl⟩ (by rw [Heap.size_push, hz]) fun b o x => Heap.get?_push_of_some _ (Heap.get?_push_of_some _ x)⟩
/-- enumerate of a list or a tuple -/
theorem call_en {h₀ : Heap} {L b : Addr} {news : List (Addr × Obj)} {ob : Obj} {vs : List Value} {Q : Value → Shared → Prop} (N : News h₀ L s.heap news) (hb : (b, ob) ∈ news) (hq : Sq ob vs)
    (h : ∀ k h' St, k = s.heap.objs.size → @LT.lt Nat _ b k → IsEnum h' (k + 1) k 0 .none → St 0 h' → h'.objs.size = k + 2 → (∀ c o, s.heap.get? c = some o → h'.get? c = some o) →
      (∀ A' : Around, A'.handled = none → Draws prog w A' k [k, b] vs.length (fun i v => vs[i]? = some v) St) → Q (.ref (k + 1)) { s with heap := h' }) :
    wpAny (model prog w) A (call (.type "enumerate") [.ref b]) Q E s := by
  have hlt : @LT.lt Nat _ b s.heap.objs.size := Heap.lt_size (N _ hb).1
  have sz : vs.length = vs.toArray.size := (List.size_toArray ..).symm
  have it : (fun (i : Nat) (v : Value) => vs[i]? = some v) = fun i v => vs.toArray[i]? = some v := by funext i v; simp
  rcases hq with ⟨c, rfl⟩ | rfl
  · have hl : s.heap.IsList b vs.toArray := ⟨_, (N _ hb).1, rfl, _, rfl⟩
    refine call_enumerate_list hl fun h' hE hI hsz hk => ?_
    refine h _ h' (fun i h => h.IsListIter s.heap.objs.size b i ∧ h.IsList b vs.toArray) rfl hlt hE ⟨hI, hl.at fun o e => hk _ o e⟩ hsz hk fun A' hh => ?_
    rw [sz, it]
    exact Draws.list hh _ _ (Nat.ne_of_lt hlt) _
  · have hl : s.heap.IsTuple b vs.toArray := ⟨_, (N _ hb).1, rfl, _, rfl⟩
    refine call_ent hl fun h' hE hI hsz hk => ?_
    refine h _ h' (fun i h => h.IsTupleIter s.heap.objs.size b i ∧ h.IsTuple b vs.toArray) rfl hlt hE ⟨hI, hl.at fun o e => hk _ o e⟩ hsz hk fun A' hh => ?_
    rw [sz, it]
    exact dr_draws (dr_tuple (Nat.ne_of_lt hlt) _) hh
end
local macro_rules | `(tactic| walk_at "zzfresh") => `(tactic| skip)
theorem fresh24 : True := by
  w_top off
  trivial
section
variable {prog : Program} {w : World} {A : Around} {E : Value → Shared → Prop} {s : Shared} {h₀ : Heap} {L : Addr} {m : Str → Option Value} {env : Env} {elt : Expr} {x y : Str} {px py pt : Pos} {kt : Nat} {scope : Scope} {cl : List (Str × Addr)} {news : List (Addr × Obj)}
  {J : Nat → List Value → List (Addr × Obj) → Prop} {b : Addr} {ob : Obj} {vs : List Value}
open PyProof.Rows.LCg in
/-- a comprehension over enumerate of a list or a tuple, a pair for target -/
theorem cs_enum {ifs : List Expr} {R : Shared → Nat → List (Addr × Obj) → (Nat → List Value → List (Addr × Obj) → Prop) → Prop} {Q₀ : Value → Shared → Prop} (hh : A.handled = none) (F : Fr h₀ L s.heap m) (N : News h₀ L s.heap news) (hb : (b, ob) ∈ news) (hq : Sq ob vs) (hz : vs.length ≤ 16384)
    (hx : scope.names.lookup x = some .local) (hy : scope.names.lookup y = some .local) (hxy : x ≠ y) (hkind : scope.kind = .function) (jlen : ∀ i ys tl, J i ys tl → ys.length ≤ i) (j0 : J 0 [] [])
    (step : ∀ h₂, ∀ i t v ys tl C oC m₃ h tk led (E' : Value → Shared → Prop), vs[i]? = some v → J i ys tl → NsObj oC m₃ → m₃ x = some (.int (i : Int) t) → m₃ y = some v → (C, oC) ∈ led → (∀ p ∈ tl ++ news, p ∈ led) → Fr h₀ L h m → News h₀ L h led →
      TestsOf prog w A ifs (compEnvC scope cl C env) (fun ok s₃ => if ok = true then wpAny (model prog w) A (eval elt (compEnvC scope cl C env)) (fun y s₄ => CEnd h₀ L m { ({ s with heap := h₂ } : Shared) with heap := h, toks := tk } led tl (J (i + 1) (ys ++ [y])) s₄) E' s₃
        else CEnd h₀ L m { ({ s with heap := h₂ } : Shared) with heap := h, toks := tk } led tl (J (i + 1) ys) s₃) E' { ({ s with heap := h₂ } : Shared) with heap := h, toks := tk })
    (hR : ∀ h', R { s with heap := h' } vs.length news J)
    (hQ : ∀ v s', wpAny (model prog w) A (pyIter v) (fun it s₂ => ∃ I fp wr n P Md St news B J, it = .ref I ∧ CompB prog w A h₀ L m env elt (.Tuple [.Name x px, .Name y py] kt pt) ifs scope cl I s₂ fp wr n P Md St news B J ∧ R s₂ n news J) E s' → Q₀ v s') :
    wpAny (model prog w) A (call (.type "enumerate") [.ref b]) Q₀ E s := by
  have gb := N _ hb
  have hLs : @LT.lt Nat _ L s.heap.objs.size := F.ns.lt
  have hab : @LE.le Nat _ h₀.objs.size s.heap.objs.size := Nat.le_trans F.above (Nat.le_of_lt hLs)
  have hnl : ∀ p ∈ news, @LT.lt Nat _ p.1 s.heap.objs.size := fun p hp => Heap.lt_size (N p hp).1
  refine call_en N hb hq fun k h' St hk0 hbk hE hst hsz hk D => hQ _ _ ?_
  subst hk0
  generalize s.heap.objs.size = k at hE hst hsz D hbk hLs hab hnl ⊢
  have F₁ : Fr h₀ L h' m := F.keeps hk
  have fr : ∀ a, @LE.le Nat _ k a → h₀.get? a = none := fun a ha => Heap.get?_none_of_le (Nat.le_trans hab ha)
  have lLb : L ≠ b := fun e => gb.2.1 e.symm
  have KT := KTurns.ofWalksU (elts := [Expr.Name x px, .Name y py]) (k := kt) (pos := pt) (WalksT.enumerateD (prog := prog) (w := w) (A := A) (D A.in1 hh) (k + 1) (show @Ne Nat (k + 1) k by omega)
    (by simp only [List.mem_cons, List.not_mem_nil, or_false, not_or]; exact ⟨(show @Ne Nat (k + 1) k by omega), (show @Ne Nat (k + 1) b by omega)⟩) List.mem_cons_self).toU
  refine wpAny_pyIter_enum hE ?_
  refine ⟨k + 1, _, _, _, _, _, _, news, (fun i m₃ => ∃ v t, vs[i]? = some v ∧ m₃ x = some (.int (i : Int) t) ∧ m₃ y = some v), J, rfl, CompB.mk KT (fun s' Q E st hq => (let ⟨⟨old, he⟩, _⟩ := st; wpAny_pyIter_enum he hq)) (Nat.le_trans hz (by decide)) jlen ?_ ?_ ?_ ?_ ⟨⟨_, hE⟩, hst⟩ F₁ (fun p hp => ⟨hk _ _ (N p hp).1, (N p hp).2⟩) j0 ?_ ?_, hR h'⟩
  · intro hq
    simp only [List.mem_cons, List.not_mem_nil, or_false] at hq
    rcases hq with e | e | e
    all_goals first | exact lLb e | (have e' : @Eq Nat L _ := e; omega)
  · intro q hq
    simp only [List.mem_cons, List.not_mem_nil, or_false] at hq
    rcases hq with rfl | rfl
    all_goals exact fr _ (by omega)
  · intro q hq hw
    have := hnl q hq
    simp only [List.mem_cons, List.not_mem_nil, or_false] at hw
    rcases hw with e | e
    all_goals (have e' : @Eq Nat q.1 _ := e; omega)
  · intro q hq
    show @LT.lt Nat _ q h'.objs.size
    rw [hsz]
    simp only [List.mem_cons, List.not_mem_nil, or_false] at hq
    rcases hq with rfl | rfl | rfl
    all_goals omega
  · intro C i v s' m₂ Q' E' hi hP hn hQ'
    obtain ⟨T, vals, rfl, ⟨t, a, ha, rfl⟩, hT⟩ := hP
    refine assign_Tuple_tuple hh hT rfl rfl fun h₅ he => ?_
    have he' : ∀ b o, s'.heap.get? b = some o → h₅.get? b = some o := fun b o e => he b o (Nat.ne_of_lt (Heap.lt_size e)) e
    refine assignInOrder_cons (wpAny_assign_Name (wpAny_storeName_local (env := compEnvC scope cl C env) (lookup_relabel_local hx) (hn.at' fun o e => he' _ o e) (fun h₆ hn₆ hs₆ => ?_) (by simp [compEnvC, relabel, hkind])))
    refine assignInOrder_cons (wpAny_assign_Name (wpAny_storeName_local (env := compEnvC scope cl C env) (lookup_relabel_local hy) hn₆ (fun h₇ hn₇ hs₇ => ?_) (by simp [compEnvC, relabel, hkind])))
    refine assignInOrder_nil ?_
    exact hQ' h₇ _ _ hn₇ ⟨a, t, ha, by simp [hxy], by simp⟩ fun b o hb e => hs₇.extBut b o hb (hs₆.extBut b o hb (he' b o e))
  · intro i ys tl C oC m₃ h tk led E' hi hJ hoC hB hC hl F N
    obtain ⟨v, t, hv, m1, m2⟩ := hB
    exact step h' i t v ys tl C oC m₃ h tk led E' hv hJ hoC m1 m2 hC hl F N
end
section
variable {prog : Program} {w : World} {A : Around} {E : Value → Shared → Prop} {s : Shared} {h₀ : Heap} {L : Addr} {m : Str → Option Value} {env : Env} {x y : Str} {px py pt : Pos} {kt : Nat} {led : List (Addr × Obj)} {T : Addr} {u1 u2 : Value}
/-- a pair taken apart into two names -/
theorem asg_pair (hh : A.handled = none) (hT : s.heap.IsTuple T #[u1, u2]) (F : Fr h₀ env.locals s.heap m) (N : News h₀ env.locals s.heap led) (hx : env.kindOf x = some .local) (hy : env.kindOf y = some .local)
    (hp : (env.scope.kind == .class || (env.scope.kind == .module && env.locals != env.globals)) = false) {Q : Unit → Shared → Prop}
    (h : ∀ h' tk', Fr h₀ env.locals h' (fun z => if z = y then some u2 else if z = x then some u1 else m z) → News h₀ env.locals h' led → Q () { s with heap := h', toks := tk' }) :
    wpAny (model prog w) A (assign (.Tuple [.Name x px, .Name y py] kt pt) env (.ref T)) Q E s := by
  refine assign_Tuple_tuple hh hT rfl rfl fun h₅ he => ?_
  have he' : ∀ b o, s.heap.get? b = some o → h₅.get? b = some o := fun b o e => he b o (Nat.ne_of_lt (Heap.lt_size e)) e
  have F₅ : Fr h₀ env.locals h₅ m := F.keeps he'
  have N₅ : News h₀ env.locals h₅ led := fun p hp => ⟨he' _ _ (N p hp).1, (N p hp).2⟩
  refine assignInOrder_cons (wpAny_assign_Name (wpAny_storeName_local hx F₅.ns (fun h₆ hn₆ hs₆ => ?_) hp))
  refine assignInOrder_cons (wpAny_assign_Name (wpAny_storeName_local hy hn₆ (fun h₇ hn₇ hs₇ => ?_) hp))
  refine assignInOrder_nil ?_
  exact h h₇ _ ((F₅.set hn₆ hs₆).set hn₇ hs₇) ((N₅.set hs₆).set hs₇)
end
/-- a turn's end: the list at D may have changed, what else was there stands -/
def IEnd (h₀ : Heap) (L : Addr) (s₁ : Shared) (D : Addr) (big : List (Addr × Obj)) (J' : (Str → Option Value) → List Value → Prop) (s₄ : Shared) : Prop :=
  ∃ m' vs' k' led, Fr h₀ L s₄.heap m' ∧ News h₀ L s₄.heap led ∧ (∀ q ∈ (D, lo vs' k') :: big, q ∈ led) ∧ J' m' vs' ∧ Sm s₁ s₄
def IPost (h₀ : Heap) (L : Addr) (s₁ : Shared) (D : Addr) (big : List (Addr × Obj)) (J' : (Str → Option Value) → List Value → Prop) (Q : Flow → Shared → Prop) (f : Flow) (s₄ : Shared) : Prop := match f with
  | .ret v => Q (.ret v) s₄
  | .brk => Q .next s₄
  | _ => IEnd h₀ L s₁ D big J' s₄
section
variable {prog : Program} {w : World} {A : Around} {E : Value → Shared → Prop} {s : Shared} {h₀ : Heap} {m : Str → Option Value} {env : Env} {body : List Stmt} {target : Expr} {nb : List (Addr × Obj)} {D b : Addr} {ob : Obj} {vs us : List Value} {k n : Nat} {J : Nat → (Str → Option Value) → List Value → Prop} {Q : Flow → Shared → Prop}
/-- a loop that changes the list at D alone -/
theorem acc_forB {I : Addr} {fp wr : List Addr} {P Md : Nat → Value → Heap → Prop} {St : Nat → Heap → Prop} (W : KTurns prog w A target I fp wr n P Md St) (hL : env.locals ∉ fp) (hwr : ∀ b ∈ wr, h₀.get? b = none) (wrIn : ∀ i h, St i h → ∀ b ∈ wr, ∃ o, h.get? b = some o) (hDf : D ∉ fp)
    (hnb : ∀ p ∈ nb, p.1 ∉ wr) (hD : ∀ q ∈ nb, q.1 ≠ D) (st : St 0 s.heap) (F : Fr h₀ env.locals s.heap m) (N : News h₀ env.locals s.heap ((D, lo vs k) :: nb)) (j0 : J 0 m vs)
    (step : ∀ i v m₁ vs₁ k₁ big (s₁ : Shared) (E' : Value → Shared → Prop), i < n → P i v s₁.heap → J i m₁ vs₁ → (∀ q ∈ nb, q ∈ big) → (∀ q ∈ big, q.1 ≠ D) → Sm s s₁ → Fr h₀ env.locals s₁.heap m₁ → News h₀ env.locals s₁.heap ((D, lo vs₁ k₁) :: big) →
      wpAny (model prog w) A (assign target env v) (fun _ s₃ => wpAny (model prog w) A (execs body env) (IPost h₀ env.locals s₁ D big (J (i + 1)) Q) E' s₃) E' s₁) :
    ForB prog w A h₀ env target body I s fp wr n P Md St m ((D, lo vs k) :: nb) (fun i m₁ news₁ => ∃ vs k, news₁ = (D, lo vs k) :: nb ∧ J i m₁ vs) Q where
  W := W
  hL := hL
  hwr := hwr
  wrIn := wrIn
  hnw := fun p hp => by
    rcases List.mem_cons.mp hp with rfl | hp
    · exact fun h => hDf (W.sub _ h)
    · exact hnb p hp
  st := st
  F := F
  N := N
  j0 := ⟨vs, k, rfl, j0⟩
  step := by
    rintro i v m₁ _ s₁ own E' hi hP ⟨vs₁, k₁, rfl, hJ⟩ hown hnw hS F₁ N₁
    have N₂ : News h₀ env.locals s₁.heap ((D, lo vs₁ k₁) :: (own ++ nb)) := fun q hq => by
      rcases List.mem_cons.mp hq with rfl | hq
      · exact N₁ _ (List.mem_append_right _ List.mem_cons_self)
      · rcases List.mem_append.mp hq with hq | hq
        · exact N₁ _ (List.mem_append_left _ hq)
        · exact N₁ _ (List.mem_append_right _ (List.mem_cons_of_mem _ hq))
    refine wpAny_mono (step i v m₁ vs₁ k₁ (own ++ nb) s₁ E' hi hP hJ (fun q hq => List.mem_append_right _ hq) (fun q hq => ?_) hS F₁ N₂) (fun _ s₃ h₃ => wpAny_mono h₃ (fun f s₄ h₄ => ?_) fun _ _ e => e) fun _ _ e => e
    · rcases List.mem_append.mp hq with hq | hq
      · exact fun e => hDf (e ▸ hown q hq)
      · exact hD q hq
    · have fin : IEnd h₀ env.locals s₁ D (own ++ nb) (J (i + 1)) s₄ → FEnd h₀ env.locals s₁ own ((D, lo vs₁ k₁) :: nb) (fun m₁ news₁ => ∃ vs k, news₁ = (D, lo vs k) :: nb ∧ J (i + 1) m₁ vs) s₄ := by
        rintro ⟨m', vs', k', led, F', N', hl, hJ', hS'⟩
        refine ⟨m', (D, lo vs' k') :: nb, F', fun q hq => N' q (hl q ?_), fun q hq => .inl ?_, ⟨vs', k', rfl, hJ'⟩, hS'⟩
        · rcases List.mem_append.mp hq with hq | hq
          · exact List.mem_cons_of_mem _ (List.mem_append_left _ hq)
          · rcases List.mem_cons.mp hq with rfl | hq
            · exact List.mem_cons_self
            · exact List.mem_cons_of_mem _ (List.mem_append_right _ hq)
        · rcases List.mem_cons.mp hq with rfl | hq
          · exact ⟨_, List.mem_cons_self, rfl⟩
          · exact ⟨q, List.mem_cons_of_mem _ hq, rfl⟩
      cases f with
      | ret v => exact h₄
      | brk => exact h₄
      | cont => exact fin h₄
      | next => exact fin h₄
/-- what a for loop's source must bring -/
abbrev ForAt (prog : Program) (w : World) (A : Around) (h₀ : Heap) (env : Env) (target : Expr) (body : List Stmt) (Q : Flow → Shared → Prop) (it : Value) (s₂ : Shared) : Prop :=
  ∃ I fp wr n P Md St m news J, it = .ref I ∧ ForB prog w A h₀ env target body I s₂ fp wr n P Md St m news J Q ∧ ∀ s' m' news', J n m' news' → Sm s₂ s' → Fr h₀ env.locals s'.heap m' → News h₀ env.locals s'.heap news' → Q .next s'
/-- over enumerate of a list or a tuple -/
theorem acc_enum {Q₀ : Value → Shared → Prop} {elts : List Expr} {kt : Nat} {pt : Pos} (hh : A.handled = none) (F : Fr h₀ env.locals s.heap m) (N : News h₀ env.locals s.heap ((D, lo vs k) :: nb)) (hb : (b, ob) ∈ nb) (hq : Sq ob us) (hD : ∀ q ∈ nb, q.1 ≠ D) (j0 : J 0 m vs)
    (step : ∀ (i : Nat) T t v m₁ vs₁ k₁ big (s₁ : Shared) (E' : Value → Shared → Prop), us[i]? = some v → s₁.heap.IsTuple T #[.int (i : Int) t, v] → J i m₁ vs₁ → (∀ q ∈ nb, q ∈ big) → (∀ q ∈ big, q.1 ≠ D) → Sm s s₁ → Fr h₀ env.locals s₁.heap m₁ → News h₀ env.locals s₁.heap ((D, lo vs₁ k₁) :: big) →
      wpAny (model prog w) A (assign (.Tuple elts kt pt) env (.ref T)) (fun _ s₃ => wpAny (model prog w) A (execs body env) (IPost h₀ env.locals s₁ D big (J (i + 1)) Q) E' s₃) E' s₁)
    (done : ∀ s' m' vs' k', J us.length m' vs' → Sm s s' → Fr h₀ env.locals s'.heap m' → News h₀ env.locals s'.heap ((D, lo vs' k') :: nb) → Q .next s')
    (hQ : ∀ v s', wpAny (model prog w) A (pyIter v) (ForAt prog w A h₀ env (.Tuple elts kt pt) body Q) E s' → Q₀ v s') :
    wpAny (model prog w) A (call (.type "enumerate") [.ref b]) Q₀ E s := by
  have gb := N _ (List.mem_cons_of_mem _ hb)
  have hLs : @LT.lt Nat _ env.locals s.heap.objs.size := F.ns.lt
  have hab : @LE.le Nat _ h₀.objs.size s.heap.objs.size := Nat.le_trans F.above (Nat.le_of_lt hLs)
  have hnl : ∀ p ∈ (D, lo vs k) :: nb, @LT.lt Nat _ p.1 s.heap.objs.size := fun p hp => Heap.lt_size (N p hp).1
  have hDb : D ≠ b := fun e => hD _ hb e.symm
  have lLb : env.locals ≠ b := fun e => gb.2.1 e.symm
  refine call_en N (List.mem_cons_of_mem _ hb) hq fun k h' St hk0 hbk hE hst hsz hk D => hQ _ _ ?_
  subst hk0
  generalize s.heap.objs.size = k at hE hst hsz D hbk hLs hab hnl ⊢
  have hDk := hnl _ List.mem_cons_self
  dsimp only at hDk
  have F₁ : Fr h₀ env.locals h' m := F.keeps hk
  have fr : ∀ a, @LE.le Nat _ k a → h₀.get? a = none := fun a ha => Heap.get?_none_of_le (Nat.le_trans hab ha)
  have KT := KTurns.ofWalksU (elts := elts) (k := kt) (pos := pt) (WalksT.enumerateD (prog := prog) (w := w) (A := A) (D A.in1 hh) (k + 1) (show @Ne Nat (k + 1) k by omega)
    (by simp only [List.mem_cons, List.not_mem_nil, or_false, not_or]; exact ⟨(show @Ne Nat (k + 1) k by omega), (show @Ne Nat (k + 1) b by omega)⟩) List.mem_cons_self).toU
  refine wpAny_pyIter_enum hE ?_
  refine ⟨k + 1, _, _, _, _, _, _, _, _, _, rfl, acc_forB (J := J) KT ?_ ?_ ?_ ?_ ?_ hD ⟨⟨_, hE⟩, hst⟩ F₁ (fun p hp => ⟨hk _ _ (N p hp).1, (N p hp).2⟩) j0 ?_, ?_⟩
  · intro hq
    simp only [List.mem_cons, List.not_mem_nil, or_false] at hq
    rcases hq with e | e | e
    all_goals first | exact lLb e | (have e' : @Eq Nat env.locals _ := e; omega)
  · intro q hq
    simp only [List.mem_cons, List.not_mem_nil, or_false] at hq
    rcases hq with rfl | rfl
    all_goals exact fr _ (by omega)
  · intro i h st q hq
    obtain ⟨⟨old, he⟩, hs⟩ := st
    simp only [List.mem_cons, List.not_mem_nil, or_false] at hq
    rcases hq with rfl | rfl
    · exact ⟨_, he⟩
    · exact (D A hh).live _ _ hs
  · intro hq
    simp only [List.mem_cons, List.not_mem_nil, or_false] at hq
    rcases hq with e | e | e
    all_goals first | exact hDb e | (have e' : @Eq Nat _ _ := e; omega)
  · intro q hq hw
    have := hnl q (List.mem_cons_of_mem _ hq)
    simp only [List.mem_cons, List.not_mem_nil, or_false] at hw
    rcases hw with e | e
    all_goals (have e' : @Eq Nat q.1 _ := e; omega)
  · rintro i v m₁ vs₁ k₁ big s₁ E' hi ⟨T, vals, rfl, ⟨t, a, ha, rfl⟩, hT⟩ hJ h1 h2 hS F₂ N₂
    exact step i T t a m₁ vs₁ k₁ big s₁ E' ha hT hJ h1 h2 hS F₂ N₂
  · rintro s' m' _ ⟨vs', k', rfl, hJ⟩ hS F' N'
    exact done s' m' vs' k' hJ hS F' N'
/-- over a list or a tuple -/
theorem acc_sq (hh : A.handled = none) (F : Fr h₀ env.locals s.heap m) (N : News h₀ env.locals s.heap ((D, lo vs k) :: nb)) (hb : (b, ob) ∈ nb) (hq : Sq ob us) (hD : ∀ q ∈ nb, q.1 ≠ D) (j0 : J 0 m vs)
    (step : ∀ i v m₁ vs₁ k₁ big (s₁ : Shared) (E' : Value → Shared → Prop), us[i]? = some v → J i m₁ vs₁ → (∀ q ∈ nb, q ∈ big) → (∀ q ∈ big, q.1 ≠ D) → Sm s s₁ → Fr h₀ env.locals s₁.heap m₁ → News h₀ env.locals s₁.heap ((D, lo vs₁ k₁) :: big) →
      wpAny (model prog w) A (assign target env v) (fun _ s₃ => wpAny (model prog w) A (execs body env) (IPost h₀ env.locals s₁ D big (J (i + 1)) Q) E' s₃) E' s₁)
    (done : ∀ s' m' vs' k', J us.length m' vs' → Sm s s' → Fr h₀ env.locals s'.heap m' → News h₀ env.locals s'.heap ((D, lo vs' k') :: nb) → Q .next s') :
    wpAny (model prog w) A (pyIter (.ref b)) (ForAt prog w A h₀ env target body Q) E s := by
  refine iter_sq F N (List.mem_cons_of_mem _ hb) hq fun I itob h' St F₁ N₁ hI hI1 hst W hSt hgo => ?_
  have hI0 := (N₁ _ List.mem_cons_self).2
  have hDI : @LT.lt Nat _ D I := hI _ List.mem_cons_self
  refine ⟨I, _, _, _, _, _, _, _, _, _, rfl, acc_forB (J := J) (KTurns.ofWalks (target := target) (W A hh) fun i v s Q E => hgo A target i v s Q E) ?_ ?_ ?_ ?_ ?_ hD hst F₁ (fun p hp => N₁ p (List.mem_cons_of_mem _ hp)) j0 ?_, ?_⟩
  · intro hq
    rcases List.mem_cons.mp hq with e | hq
    · exact hI0.1 e.symm
    · rw [List.mem_singleton] at hq; exact (N _ (List.mem_cons_of_mem _ hb)).2.1 hq.symm
  · intro q hq
    rw [List.mem_singleton.mp hq]; exact hI0.2
  · intro i h st q hq
    rw [List.mem_singleton.mp hq]; exact hSt i h st
  · intro hq
    rcases List.mem_cons.mp hq with e | hq
    · exact Nat.ne_of_lt hDI e
    · rw [List.mem_singleton] at hq; exact hD _ hb hq.symm
  · intro q hq hw
    rw [List.mem_singleton] at hw
    exact Nat.lt_irrefl _ (hw ▸ hI q (List.mem_cons_of_mem _ hq) : I < I)
  · intro i v m₁ vs₁ k₁ big s₁ E' hi hP hJ h1 h2 hS F₂ N₂
    exact step i v m₁ vs₁ k₁ big s₁ E' hP hJ h1 h2 hS F₂ N₂
  · rintro s' m' _ ⟨vs', k', rfl, hJ⟩ hS F' N'
    exact done s' m' vs' k' hJ hS F' N'
/-- over a range -/
theorem acc_rg {r : Addr} {a b c : Int} {t₀ u₀ v₀ : Tok} {x : Str} {px : Pos} (hh : A.handled = none) (F : Fr h₀ env.locals s.heap m) (N : News h₀ env.locals s.heap ((D, lo vs k) :: nb)) (hr : IsRange s.heap r a b c t₀ u₀ v₀) (hs : Builtin.Range.small a b c = true ∧ Builtin.Range.rangeSize a b c = (n : Int)) (hD : ∀ q ∈ nb, q.1 ≠ D) (j0 : J 0 m vs)
    (hx : env.kindOf x = some .local) (hp : (env.scope.kind == .class || (env.scope.kind == .module && env.locals != env.globals)) = false)
    (step : ∀ i t m₁ vs₁ k₁ big (s₁ : Shared) (E' : Value → Shared → Prop), i < n → J i m₁ vs₁ → (∀ q ∈ nb, q ∈ big) → (∀ q ∈ big, q.1 ≠ D) → Sm s s₁ → Fr h₀ env.locals s₁.heap (fun z => if z = x then some (.int (a + (i : Int) * c) t) else m₁ z) → News h₀ env.locals s₁.heap ((D, lo vs₁ k₁) :: big) →
      wpAny (model prog w) A (execs body env) (IPost h₀ env.locals s₁ D big (J (i + 1)) Q) E' s₁)
    (done : ∀ s' m' vs' k', J n m' vs' → Sm s s' → Fr h₀ env.locals s'.heap m' → News h₀ env.locals s'.heap ((D, lo vs' k') :: nb) → Q .next s') :
    wpAny (model prog w) A (pyIter (.ref r)) (ForAt prog w A h₀ env (.Name x px) body Q) E s := by
  refine iter_rng F N hr hs fun I h' F₁ N₁ hI hI1 hIL hI0 hst => ?_
  have hDI : @LT.lt Nat _ D I := hI _ List.mem_cons_self
  refine ⟨I, _, _, _, _, _, _, _, _, _, rfl, acc_forB (J := J) (KTurns.ofWalks (target := .Name x px) (rng_walks hh a c n) fun i v s' Q' E' st hq => wpAny_of_eq (rfl : letOwnedTupleGo (.Name x px) (.ref I) v = pure ()) hq) ?_ ?_ ?_ ?_ ?_ hD hst F₁ N₁ j0 ?_, ?_⟩
  · intro hq; exact hIL (List.mem_singleton.mp hq).symm
  · intro q hq; rw [List.mem_singleton.mp hq]; exact hI0
  · intro i h st q hq
    rw [List.mem_singleton.mp hq]; exact ⟨_, st⟩
  · intro hq; exact Nat.ne_of_lt hDI (List.mem_singleton.mp hq)
  · intro q hq hw
    rw [List.mem_singleton] at hw
    exact Nat.lt_irrefl _ (hw ▸ hI q (List.mem_cons_of_mem _ hq) : I < I)
  · rintro i v m₁ vs₁ k₁ big s₁ E' hi ⟨_, t, rfl⟩ hJ h1 h2 hS F₂ N₂
    refine wpAny_assign_Name (wpAny_storeName_local hx F₂.ns (fun h₃ hn₃ hs₃ => ?_) hp)
    exact step i t m₁ vs₁ k₁ big { s₁ with heap := h₃, toks := s₁.toks + 1 } E' hi hJ h1 h2 (Sm.upd hS) (F₂.set hn₃ hs₃) (N₂.set hs₃)
  · rintro s' m' _ ⟨vs', k', rfl, hJ⟩ hS F' N'
    exact done s' m' vs' k' hJ hS F' N'
end
local macro_rules | `(tactic| walk_at "zzfresh") => `(tactic| skip)
theorem fresh25 : True := by
  w_top off
  trivial
abbrev EnOut (h : Heap) (e it : Addr) (i : Int) (item : Value) (a : Addr) (f : Bool) : Prop :=
  h.get? e = some { cls := .type "enumerate", dict := none, data := .fields #[rawInt a, .bool f, .ref it, rawInt i, .none, item], slots := #[] }
section
variable {prog : Program} {w : World} {A : Around} {E : Value → Shared → Prop} {s : Shared} {e it : Addr} {fp : List Addr} {n i : Nat} {P : Nat → Value → Prop} {St : Nat → Heap → Prop}
/-- enumerate's next, its tuple still held by another -/
theorem en_next_out {old : Value} {a : Addr} {f : Bool} {oa : Obj} {Q : Option Value → Shared → Prop} (D : Draws prog w A.in1 it fp n P St) (he : EnOut s.heap e it i old a f) (ha : s.heap.get? a = some oa) (hai : a ≠ it) (hae : a ≠ e) (hst : St i s.heap) (hlt : i < n) (hne : e ≠ it) (hef : e ∉ fp)
    (hQ : ∀ x h' tk, P i x → EnOut h' e it ((i : Int) + 1) old a true → St (i + 1) h' → h'.get? s.heap.objs.size = some { cls := .type "tuple", data := .seq #[.int i tk, x] } → h'.objs.size = s.heap.objs.size + 1 →
      (∀ b o, b ≠ e → b ≠ it → s.heap.get? b = some o → h'.get? b = some o) → Q (some (.ref s.heap.objs.size)) { s with heap := h', toks := tk + 1 }) :
    wpAny (model prog w) A (pyNext (.ref e)) Q E s := by
  obtain ⟨hp, g, d, tk₀, os⟩ := s
  have hT : Shared.TypeIs ⟨hp, g, d, tk₀, os⟩ (.ref e) "enumerate" := ⟨_, he, rfl⟩
  unfold pyNext
  refine wpAny_bind (wpAny_attempt (wpAny_callSpecial?_slot (name := Str.ofString "__next__") hT PySem.F.slot_enumerate_next
    (wpAny_call_entry PySem.F.slot_enumerate_next hT PySem.F.entry_enumerate_next ?_ (PySem.F.args_enumerate_next_1 _))))
  show wpAny _ _ (field (.ref e) 2 >>= _) _ _ _
  refine wpAny_bind (wpAny_field he rfl (x := .ref it) rfl ?_)
  refine wpAny_bind (D.item i _ _ _ hlt hst fun x h₁ tk hPx hit₁ hs₁ => ?_)
  replace hs₁ : Heap.SameBut it hp h₁ := hs₁
  have he₁ : EnOut h₁ e it i old a f := (hs₁.2 e hne).trans he
  show wpAny _ _ (field (.ref e) 3 >>= _) _ _ ⟨h₁, g, d, tk, os⟩
  refine wpAny_bind (wpAny_field he₁ rfl (x := rawInt i) rfl ?_)
  show wpAny _ _ (field (.ref e) 4 >>= _) _ _ ⟨h₁, g, d, tk, os⟩
  refine wpAny_bind (wpAny_field he₁ rfl (x := .none) rfl ?_)
  show wpAny _ _ (mkInt i >>= _) _ _ ⟨h₁, g, d, tk, os⟩
  refine wpAny_bind (wpAny_mkInt ?_)
  show wpAny _ _ (setField (.ref e) 3 (rawInt ((i : Int) + 1)) >>= _) _ _ ⟨h₁, g, d, tk + 1, os⟩
  refine wpAny_bind (wpAny_setField_rec he₁ (by simp) fun h₂ he₂ hs₂ => ?_)
  replace hs₂ : Heap.SameBut e h₁ h₂ := hs₂
  replace he₂ : EnOut h₂ e it ((i : Int) + 1) old a f := he₂
  show wpAny _ _ (setField (.ref e) 4 .none >>= _) _ _ ⟨h₂, g, d, tk + 1, os⟩
  refine wpAny_bind (wpAny_setField_rec he₂ (by simp) fun h₃ he₃ hs₃ => ?_)
  replace hs₃ : Heap.SameBut e h₂ h₃ := hs₃
  replace he₃ : EnOut h₃ e it ((i : Int) + 1) old a f := he₃
  show wpAny _ _ (newTuple [.int i tk, x] >>= _) _ _ ⟨h₃, g, d, tk + 1, os⟩
  refine wpAny_bind (wpAny_newTuple ?_)
  have he₄ : EnOut (h₃.push { cls := .type "tuple", data := .seq #[.int i tk, x] }) e it ((i : Int) + 1) old a f := Heap.get?_push_of_some _ he₃
  generalize hh₄ : h₃.push { cls := .type "tuple", data := .seq #[.int i tk, x] } = h₄ at he₄
  have hsz : h₃.objs.size = hp.objs.size := by rw [hs₃.1, hs₂.1, hs₁.1]
  have hel : e < hp.objs.size := Heap.lt_size he
  have ht₄ : h₄.get? hp.objs.size = some { cls := .type "tuple", data := .seq #[.int i tk, x] } := by rw [← hh₄, ← hsz]; exact Heap.get?_push_size _ rfl
  have hz₄ : h₄.objs.size = hp.objs.size + 1 := by rw [← hh₄, Heap.size_push, hsz]
  have hk₄ : ∀ b o, b ≠ e → b ≠ it → hp.get? b = some o → h₄.get? b = some o := fun b o hbe hbi hb => by
    rw [← hh₄]; exact Heap.get?_push_of_some _ (hs₃.extBut b o hbe (hs₂.extBut b o hbe (hs₁.extBut b o hbi hb)))
  have hit₄ : St (i + 1) h₄ := D.frame _ _ _ hit₁ fun b hb o y => by
    have hbe : b ≠ e := fun q => hef (q ▸ hb)
    rw [← hh₄]; exact Heap.get?_push_of_some _ (hs₃.extBut b o hbe (hs₂.extBut b o hbe y))
  show wpAny _ _ (Builtin.SmallTypes.ownedTupleIsFree (.ref e) >>= _) _ _ ⟨h₄, g, d, tk + 1, os⟩
  rw [hsz]
  have ha₄ : h₄.get? a = some oa := hk₄ a oa hae hai ha
  clear hh₄ he₃ hs₃ he₂ hs₂ he₁ hs₁ hit₁ hsz h₃ h₂ h₁
  refine wpAny_bind ?_
  unfold Builtin.SmallTypes.ownedTupleIsFree
  refine wpAny_bind (wpAny_field he₄ rfl (x := rawInt a) rfl ?_)
  show wpAny _ _ (loadIfAlive ((a : Int).toNat) >>= _) _ _ _
  rw [Int.toNat_natCast]
  refine wpAny_bind (PySem.W.kdx_alive ha₄ ?_)
  simp only [Option.isNone_some, Bool.false_eq_true, if_false]
  refine wpAny_bind (wpAny_field he₄ rfl (x := .bool f) rfl ?_)
  have fin : ∀ h₅ : Heap, EnOut h₅ e it ((i : Int) + 1) old a true → Heap.SameBut e h₄ h₅ → Q (some (.ref hp.objs.size)) ⟨h₅, g, d, tk + 1, os⟩ := fun h₅ he₅ hs₅ =>
    hQ x h₅ tk hPx he₅ (D.frame _ _ _ hit₄ fun b hb o y => hs₅.extBut b o (fun q => hef (q ▸ hb)) y) (hs₅.extBut _ _ (Nat.ne_of_gt hel) ht₄) (by show h₅.objs.size = hp.objs.size + 1; rw [hs₅.1, hz₄]) fun b o hb hb' y => hs₅.extBut b o hb (hk₄ b o hb hb' y)
  cases f with
  | true =>
    rw [if_neg (show ¬ ((Value.bool true != Value.bool true) = true) from Bool.false_ne_true)]
    refine wpAny_pure ?_
    simp only [Bool.false_eq_true, if_false]
    exact wpAny_pure ⟨_, rfl, wpAny_pure (fin h₄ he₄ (Heap.SameBut.refl _ _))⟩
  | false =>
    rw [if_pos (show (Value.bool false != Value.bool true) = true from rfl)]
    refine wpAny_bind (wpAny_setField_rec he₄ (by simp) fun h₅ he₅ hs₅ => ?_)
    replace hs₅ : Heap.SameBut e h₄ h₅ := hs₅
    replace he₅ : EnOut h₅ e it ((i : Int) + 1) old a true := he₅
    refine wpAny_pure ?_
    simp only [Bool.false_eq_true, if_false]
    exact wpAny_pure ⟨_, rfl, wpAny_pure (fin h₅ he₅ hs₅)⟩
theorem en_end_out {old : Value} {a : Addr} {f : Bool} {j : Int} {Q : Option Value → Shared → Prop} (D : Draws prog w A.in1 it fp n P St) (he : EnOut s.heap e it j old a f) (hst : St n s.heap)
    (hQ : ∀ h', Heap.ExtBut it s.heap h' → Q none { s with heap := h' }) : wpAny (model prog w) A (pyNext (.ref e)) Q E s := by
  have hT : s.TypeIs (.ref e) "enumerate" := ⟨_, he, rfl⟩
  unfold pyNext
  refine wpAny_bind (wpAny_attempt (wpAny_callSpecial?_slot (name := Str.ofString "__next__") hT PySem.F.slot_enumerate_next
    (wpAny_call_entry PySem.F.slot_enumerate_next hT PySem.F.entry_enumerate_next ?_ (PySem.F.args_enumerate_next_1 _))))
  show wpAny _ _ (field (.ref e) 2 >>= _) _ _ _
  refine wpAny_bind (wpAny_field he rfl (x := .ref it) rfl ?_)
  refine wpAny_bind (D.done _ _ _ hst fun h' x he' hx' => ?_)
  obtain ⟨o, ho, hc⟩ := hx'
  refine wpAny_bind (wpAny_isInstance (T := "StopIteration") (b := true) ⟨o, ho, hc⟩ isSubtype_stop ?_)
  exact wpAny_pure (hQ _ he')
end
/-- the pairs that enumerate hands out -/
def EnPairs (h : Heap) (S : Addr) (vs : List Value) (ys : List Value) : Prop := ∀ (j : Nat) y, ys[j]? = some y → ∃ T t v, y = .ref T ∧ vs[j]? = some v ∧ h.get? T = some (tup [.int (j : Int) t, v]) ∧ @LT.lt Nat _ S T
section
variable {prog : Program} {w : World} {A : Around} {E : Value → Shared → Prop} {k b S : Addr} {vs : List Value} {St : Nat → Heap → Prop}
def EnSt (s₀ : Shared) (k S : Addr) (vs : List Value) (St : Nat → Heap → Prop) (i : Nat) (ys : List Value) (s : Shared) : Prop :=
  ys.length = i ∧ EnPairs s.heap S vs ys ∧ St i s.heap ∧ ((i = 0 ∧ IsEnum s.heap (k + 1) k 0 .none) ∨ (∃ old a f oa, EnOut s.heap (k + 1) k (i : Int) old a f ∧ s.heap.get? a = some oa ∧ @LT.lt Nat _ S a)) ∧
    (∀ c o, c ≠ k + 1 → c ≠ k → c ≠ S → s₀.heap.get? c = some o → s.heap.get? c = some o) ∧ GSame s₀ s
def EnFin (s₀ : Shared) (k S : Addr) (vs : List Value) (ys : List Value) (s : Shared) : Prop :=
  ys.length = vs.length ∧ EnPairs s.heap S vs ys ∧ (∀ c o, c ≠ k + 1 → c ≠ k → c ≠ S → s₀.heap.get? c = some o → s.heap.get? c = some o) ∧ GSame s₀ s
theorem EnPairs.snoc {h h' : Heap} {ys : List Value} {i : Nat} {T : Addr} {t : Tok} {v : Value} (H : EnPairs h S vs ys) (hl : ys.length = i) (hv : vs[i]? = some v) (hT : h'.get? T = some (tup [.int (i : Int) t, v])) (hST : @LT.lt Nat _ S T)
    (hk : ∀ c o, @LT.lt Nat _ S c → h.get? c = some o → h'.get? c = some o) : EnPairs h' S vs (ys ++ [.ref T]) := by
  intro j y hy
  rw [List.getElem?_append] at hy
  split at hy
  · obtain ⟨T', t', v', e1, e2, e3, e4⟩ := H j y hy
    exact ⟨T', t', v', e1, e2, hk _ _ e4 e3, e4⟩
  · have hji : j = i := by
      cases hd : j - ys.length with
      | zero => omega
      | succ z => rw [hd] at hy; simp at hy
    subst hji
    rw [hl, Nat.sub_self] at hy
    cases hy
    exact ⟨T, t, v, rfl, hv, hT, hST⟩
theorem en_feed (s₀ : Shared) (hh : A.handled = none) (D : ∀ A' : Around, A'.handled = none → Draws prog w A' k [k, b] vs.length (fun i v => vs[i]? = some v) St) (hbk : @LT.lt Nat _ b k) (hkS : @LT.lt Nat _ (k + 1) S) :
    Feed prog w A (k + 1) S vs.length (EnSt s₀ k S vs St) (EnFin s₀ k S vs) := by
  have hek : (k + 1 : Addr) ≠ k := (show @Ne Nat (k + 1) k by omega)
  have hef : (k + 1 : Addr) ∉ [k, b] := by
    simp only [List.mem_cons, List.not_mem_nil, or_false, not_or]; exact ⟨(show @Ne Nat (k + 1) k by omega), (show @Ne Nat (k + 1) b by omega)⟩
  have fpS : ∀ c ∈ [k, b], c ≠ S := by
    intro c hc
    simp only [List.mem_cons, List.not_mem_nil, or_false] at hc
    rcases hc with rfl | rfl <;> (show @Ne Nat _ _; omega)
  have heS : (k + 1 : Addr) ≠ S := Nat.ne_of_lt hkS
  have hkS' : (k : Addr) ≠ S := (show @Ne Nat k S by omega)
  have gtk : ∀ c : Addr, @LT.lt Nat _ S c → c ≠ k + 1 ∧ c ≠ k := fun c hc => ⟨(show @Ne Nat c (k + 1) by omega), (show @Ne Nat c k by omega)⟩
  refine ⟨?_, ?_, ?_, ?_, ?_⟩
  · rintro i ys s h' ⟨h1, h2, h3, h4, h5, h6⟩ hk
    refine ⟨h1, fun j y hy => ?_, (D A hh).frame _ _ _ h3 fun c hc o x => hk c o (fpS c hc) x, ?_, fun c o c1 c2 c3 x => hk c o c3 (h5 c o c1 c2 c3 x), h6⟩
    · obtain ⟨T, t, v, e1, e2, e3, e4⟩ := h2 j y hy
      exact ⟨T, t, v, e1, e2, hk _ _ (Nat.ne_of_gt e4) e3, e4⟩
    · rcases h4 with ⟨hi, he⟩ | ⟨old, a, f, oa, he, ha, h8⟩
      · exact .inl ⟨hi, hk _ _ heS he⟩
      · exact .inr ⟨old, a, f, oa, hk _ _ heS he, hk _ _ (Nat.ne_of_gt h8) ha, h8⟩
  · rintro i ys s ⟨h1, _⟩; exact h1
  · rintro i ys s c Q E hi ⟨h1, h2, h3, h4, h5, h6⟩ hS hQ
    have hSz : @LT.lt Nat _ S s.heap.objs.size := Heap.lt_size hS
    have fin : ∀ x h' tk, vs[i]? = some x → (∃ old a f oa, EnOut h' (k + 1) k ((i : Int) + 1) old a f ∧ h'.get? a = some oa ∧ @LT.lt Nat _ S a) → St (i + 1) h' → h'.get? s.heap.objs.size = some { cls := .type "tuple", data := .seq #[.int i tk, x] } →
        (∀ b o, b ≠ k + 1 → b ≠ k → s.heap.get? b = some o → h'.get? b = some o) → Q (some (.ref s.heap.objs.size)) { s with heap := h', toks := tk + 1 } := by
      intro x h' tk hx ho hst hT hk
      refine hQ _ _ ⟨by rw [List.length_append, h1]; rfl, h2.snoc h1 hx hT hSz (fun c o hc e => hk c o (gtk c hc).1 (gtk c hc).2 e), hst, .inr ho, fun c o c1 c2 c3 e => hk c o c1 c2 (h5 c o c1 c2 c3 e), h6⟩ (hk _ _ heS.symm hkS'.symm hS)
    rcases h4 with ⟨hi0, he⟩ | ⟨old, a, f, oa, he, ha, h8⟩
    · subst hi0
      refine wpAny_pyNext_enum_itemD (n := vs.length) (i := 0) (D A.in1 hh) he h3 hi hek hef fun x h' tk hP ho hst hT hsz hk => ?_
      exact fin x h' tk hP ⟨_, _, false, _, ho, hT, hSz⟩ hst hT hk
    · refine en_next_out (n := vs.length) (i := i) (D A.in1 hh) he ha (gtk a h8).2 (gtk a h8).1 h3 hi hek hef fun x h' tk hP ho hst hT hsz hk => ?_
      exact fin x h' tk hP ⟨_, _, _, _, ho, hk _ _ (gtk a h8).1 (gtk a h8).2 ha, h8⟩ hst hT hk
  · rintro ys s c Q E ⟨h1, h2, h3, h4, h5, h6⟩ hS hQ
    have fin : ∀ h', Heap.ExtBut k s.heap h' → Q none { s with heap := h' } := by
      intro h' hk
      refine hQ _ ⟨h1, fun j y hy => ?_, fun c o c1 c2 c3 e => hk c o c2 (h5 c o c1 c2 c3 e), h6⟩ (hk _ _ hkS'.symm hS)
      obtain ⟨T, t, v, e1, e2, e3, e4⟩ := h2 j y hy
      exact ⟨T, t, v, e1, e2, hk _ _ (gtk T e4).2 e3, e4⟩
    rcases h4 with ⟨hi0, he⟩ | ⟨old, a, f, oa, he, ha, h8⟩
    · exact wpAny_pyNext_enum_endD (D A.in1 hh) he h3 fin
    · exact en_end_out (D A.in1 hh) he h3 fin
  · rintro s Q E ⟨h1, h2, h3, h4, h5, h6⟩ hQ
    rcases h4 with ⟨hi0, he⟩ | ⟨old, a, f, oa, he, ha, h8⟩
    · exact wpAny_pyIter_enum he hQ
    · have hT : s.TypeIs (.ref (k + 1)) "enumerate" := ⟨_, he, rfl⟩
      refine wpAny_pyIter_slot hT PySem.F.slot_enumerate_iter (wpAny_call_entry PySem.F.slot_enumerate_iter hT PySem.F.entry_enumerate_iter ?_ (PySem.F.args_enumerate_iter_1 _))
      show wpAny _ _ (ret (.ref (k + 1))) _ _ s
      exact wpAny_pure ⟨_, rfl, "enumerate", _, hT, PySem.F.slot_enumerate_next.lookup, hQ⟩
end
section
variable {prog : Program} {w : World} {A : Around} {E : Value → Shared → Prop} {s : Shared} {h₀ : Heap} {L b : Addr} {m : Str → Option Value} {news : List (Addr × Obj)} {ob : Obj} {vs : List Value}
/-- the pairs of a list in the ledger -/
def PairsL (led : List (Addr × Obj)) (vs ys : List Value) : Prop := ys.length = vs.length ∧ ∀ (j : Nat) y, ys[j]? = some y → ∃ T t v, y = .ref T ∧ vs[j]? = some v ∧ (T, tup [.int (j : Int) t, v]) ∈ led
theorem EnPairs.list {h : Heap} {S : Addr} {vs ys : List Value} (H : EnPairs h S vs ys) : ∀ i, ∃ tl : List (Addr × Obj), (∀ (j : Nat) y, j < i → ys[j]? = some y → ∃ T t v, y = .ref T ∧ vs[j]? = some v ∧ (T, tup [.int (j : Int) t, v]) ∈ tl) ∧ ∀ p ∈ tl, h.get? p.1 = some p.2 ∧ @LT.lt Nat _ S p.1
  | 0 => ⟨[], fun j y hj => absurd hj (Nat.not_lt_zero j), fun p hp => nomatch hp⟩
  | i + 1 => by
    obtain ⟨tl, h1, h2⟩ := EnPairs.list H i
    cases hy : ys[i]? with
    | none =>
      refine ⟨tl, fun j y hj hjy => ?_, h2⟩
      by_cases e : j = i
      · subst e; rw [hy] at hjy; cases hjy
      · exact h1 j y (by omega) hjy
    | some y =>
      obtain ⟨T, t, v, e1, e2, e3, e4⟩ := H i y hy
      refine ⟨(T, tup [.int (i : Int) t, v]) :: tl, fun j y' hj hjy => ?_, List.forall_mem_cons.mpr ⟨⟨e3, e4⟩, h2⟩⟩
      by_cases e : j = i
      · subst e; rw [hy] at hjy; cases hjy
        exact ⟨T, t, v, e1, e2, List.mem_cons_self⟩
      · obtain ⟨T', t', v', f1, f2, f3⟩ := h1 j y' (by omega) hjy
        exact ⟨T', t', v', f1, f2, List.mem_cons_of_mem _ f3⟩
theorem enum_no_len : typeLookup (.type "enumerate") "__len__" = pure none := by rw [typeLookup_type, builtinLookup_eq_fast]; kernel_rfl
theorem enum_no_hint : typeLookup (.type "enumerate") "__length_hint__" = pure none := by rw [typeLookup_type, builtinLookup_eq_fast]; kernel_rfl
/-- list(enumerate(a list or a tuple)) -/
theorem list_en {Q₀ Q : Value → Shared → Prop} (hh : A.handled = none) (F : Fr h₀ L s.heap m) (N : News h₀ L s.heap news) (hb : (b, ob) ∈ news) (hq : Sq ob vs) (hz : vs.length ≤ 16384)
    (h : ∀ D ys k tl s', PairsL tl vs ys → Sm s s' → Fr h₀ L s'.heap m → News h₀ L s'.heap ((D, lo ys k) :: (tl ++ news)) → (∀ q ∈ news, q.1 < D) → (∀ p ∈ tl, D < p.1) → Q (.ref D) s')
    (hQ : ∀ v s', wpAny (model prog w) A (call (.type "list") [v]) Q E s' → Q₀ v s') :
    wpAny (model prog w) A (call (.type "enumerate") [.ref b]) Q₀ E s := by
  have hLs : @LT.lt Nat _ L s.heap.objs.size := F.ns.lt
  have hab : @LE.le Nat _ h₀.objs.size s.heap.objs.size := Nat.le_trans F.above (Nat.le_of_lt hLs)
  have hnl : ∀ p ∈ news, @LT.lt Nat _ p.1 s.heap.objs.size := fun p hp => Heap.lt_size (N p hp).1
  refine call_en N hb hq fun k h' St hk0 hbk hE hst hsz hk D => hQ _ _ ?_
  subst hk0
  generalize s.heap.objs.size = k at hE hst hsz D hbk hLs hab hnl ⊢
  have fr : ∀ a, @LE.le Nat _ k a → h₀.get? a = none := fun a ha => Heap.get?_none_of_le (Nat.le_trans hab ha)
  have kpush : ∀ o : Obj, ∀ c o', h'.get? c = some o' → (h'.push o).get? c = some o' := fun o c o' e => Heap.get?_push_of_some _ e
  have hkS : @LT.lt Nat _ (k + 1) h'.objs.size := by rw [hsz]; exact Nat.lt_succ_self _
  have FD := en_feed (s₀ := { s with heap := h' }) (A := A.in1.in1) (S := h'.objs.size) hh D hbk hkS
  have st0 : EnSt { s with heap := h' } k h'.objs.size vs St 0 [] { s with heap := h'.push { cls := .type "list", data := .seq #[] } } :=
    ⟨rfl, fun j y hy => by simp at hy, (D A hh).frame _ _ _ hst fun c _ o e => kpush _ _ _ e, .inl ⟨rfl, kpush _ _ _ hE⟩, fun c o _ _ _ e => kpush _ _ _ e, rfl, rfl, rfl⟩
  refine feed_list (s := { s with heap := h' }) (T := "enumerate") FD (Nat.le_trans hz (by decide)) (fun s' ⟨_, _, _, h4, _⟩ => ?_) (by decide) (by decide) enum_no_len enum_no_hint (Nat.ne_of_gt hkS) st0 fun s' ys c ⟨h1, h2, h3, h4⟩ hS' => ?_
  · rcases h4 with ⟨_, he⟩ | ⟨old, a, f, oa, he, _⟩
    · exact ⟨_, he, rfl⟩
    · exact ⟨_, he, rfl⟩
  · obtain ⟨tl, t1, t2⟩ := h2.list ys.length
    have lift : ∀ c o, @LT.lt Nat _ c k → s.heap.get? c = some o → s'.heap.get? c = some o := fun c o hc e => h3 c o (show @Ne Nat c (k + 1) by omega) (show @Ne Nat c k by omega) (show @Ne Nat c h'.objs.size by omega) (hk c o e)
    have hDn : ∀ q ∈ news, @LT.lt Nat _ q.1 h'.objs.size := fun q hq => by have := hnl q hq; omega
    have F' : Fr h₀ L s'.heap m := ⟨F.ns.at' fun o e => lift L o hLs e, fun c o e => lift c o (Nat.lt_of_lt_of_le (Heap.lt_size e) (by exact hab)) (F.keep c o e), F.above⟩
    refine h h'.objs.size ys c tl s' ⟨h1, fun j y hy => t1 j y ?_ hy⟩ ⟨h4.2.1, h4.2.2, fun hb => h4.1 ▸ hb⟩ F' (fun q hq => ?_) hDn fun p hp => (t2 p hp).2
    · cases Nat.lt_or_ge j ys.length with
      | inl h => exact h
      | inr h => rw [List.getElem?_eq_none h] at hy; cases hy
    · rcases List.mem_cons.mp hq with rfl | hq
      · exact ⟨hS', (show @Ne Nat h'.objs.size L by omega), fr _ (by omega)⟩
      · rcases List.mem_append.mp hq with hq | hq
        · have := (t2 q hq).2
          exact ⟨(t2 q hq).1, (show @Ne Nat q.1 L by omega), fr _ (by omega)⟩
        · exact ⟨lift _ _ (hnl q hq) (N q hq).1, (N q hq).2⟩
end
end
section
local macro_rules | `(tactic| k_room) => `(tactic| ((try simp only [depth_under_make, depth_under_kw, depth_in1, depth_deeper, depth_caller]); (try dsimp only [ar]); omega))
local macro_rules | `(tactic| k_units) => `(tactic| ((have hcL9 := cLine_is); (try simp only [units_in1, units_deeper, Around.mark_units, units_caller]); (try dsimp only [ar]); omega))
local macro_rules | `(tactic| k_enter) => `(tactic| first
  | (refine' code_def ?k1 ?k2 ?k3 ?k4 ?k5 ?kA ?kF ?kK ?k6 ?k7 ?k8 ?k9 ?kB ?_ ?c2 ?c3 ?c4 ?c5; (case kA => exact rfl); (case kF => first | exact rfl | assumption); (case kK => first | exact rfl | assumption); (case k1 => k_asm); (case k2 => k_asm); (case k3 => k_asm); (case k4 => k_asm); (case k5 => k_asm); (case k6 => k_is); (case k7 => k_is); (case k8 => k_room); (case k9 => exact BindsTo.of_eq rfl); (case c5 => decide); (case kB => exact locs rfl); (case c2 => exact rfl); (case c3 => exact rfl); (case c4 => exact rfl); k_whole; intro g' L' h' FG' F' N' B' X' T'; (try dsimp only); (try k_lift B'); (try k_fold))
  | (refine' code_defC ?k1 ?k2 ?k3 ?k4 ?k5 ?kA ?kF ?kK ?k6 ?k7 ?k8 ?k9 ?kB ?kD ?_ ?c2 ?c3 ?c4; (case kA => exact rfl); (case kF => first | exact rfl | assumption); (case kK => first | exact rfl | assumption); (case k1 => k_asm); (case k2 => k_asm); (case k3 => k_asm); (case k4 => k_asm); (case k5 => k_asm); (case k6 => k_is); (case k7 => k_is); (case k8 => k_room); (case k9 => exact BindsTo.of_eq rfl); (case kB => exact rfl); (case kD => decide +kernel); (case c2 => exact rfl); (case c3 => exact rfl); (case c4 => exact rfl); k_whole; intro g' L' h' tk' cells' FG' F' N' Y' B' X' T' l1; (try k_lt l1); k_cells Y'; (try simp only [List.cons_append, List.nil_append] at N'); (try dsimp only); (try k_lift B'); (try k_fold)))
local macro_rules | `(tactic| k_mem) => `(tactic| first | exact List.Mem.head _ | (refine' List.Mem.tail _ ?_; k_mem) | assumption)
local macro_rules | `(tactic| mul_fits) => `(tactic| with_reducible assumption)
local macro_rules | `(tactic| walk_at "call ref") => `(tactic| (k_here; (with_reducible show wpAny _ _ (call (Value.ref 183) _) _ _ _); k_dflt (first
  | (refine' fq_new ?C ?F ?N ?d ?p ?_; (case C => exact Cx.mk (by k_asm) (by k_asm) (by k_asm) (by first | exact rfl | assumption) (by first | exact rfl | assumption)); (case F => k_asm); (case N => k_asm); (case d => k_room); (case p => assumption); k_whole)
  | (refine' fq_copy ?C ?F ?N ?x ?dx ?d ?p ?_; (case C => exact Cx.mk (by k_asm) (by k_asm) (by k_asm) (by first | exact rfl | assumption) (by first | exact rfl | assumption)); (case F => k_asm); (case N => k_asm); (case x => k_mem); (case dx => k_mem); (case d => k_room); (case p => assumption); k_whole)); intro r' d' t1' t2' tp' tn' h' tk' F' N' l1' l2'; (try k_sweep)))
local macro_rules | `(tactic| walk_at "call ref") => `(tactic| (k_here; first
  | ((with_reducible show wpAny _ _ (call (Value.ref 61) _) _ _ _); k_dflt (refine' fq_add ?zC ?zF ?zN ?zx ?zdx ?zy ?zdy ?zd ?zp ?_; (case zC => exact Cx.mk (by k_asm) (by k_asm) (by k_asm) (by first | exact rfl | assumption) (by first | exact rfl | assumption)); (case zF => k_asm); (case zN => k_asm); (case zx => k_mem); (case zdx => k_mem); (case zy => k_mem); (case zdy => k_mem); (case zd => k_room); (case zp => assumption); k_whole); intro r' d' t1' t2' tp' tn' h' tk' F' N' l1' l2'; (have lx' := allLt_of l1'); (try simp only [AllLt] at lx'); (have ly' := ltA l2'); (try dsimp only [PySem.W.CmpBack]); (try k_sweep))
  | ((with_reducible show wpAny _ _ (call (Value.ref 68) _) _ _ _); k_dflt (refine' fq_mul ?zC ?zF ?zN ?zx ?zdx ?zy ?zdy ?zd ?zp ?za ?zb ?_; (case zC => exact Cx.mk (by k_asm) (by k_asm) (by k_asm) (by first | exact rfl | assumption) (by first | exact rfl | assumption)); (case zF => k_asm); (case zN => k_asm); (case zx => k_mem); (case zdx => k_mem); (case zy => k_mem); (case zdy => k_mem); (case zd => k_room); (case zp => assumption); (case za => assumption); (case zb => assumption); k_whole); intro r' d' t1' t2' tp' tn' h' tk' F' N' l1' l2'; (have lx' := allLt_of l1'); (try simp only [AllLt] at lx'); (have ly' := ltA l2'); (try dsimp only [PySem.W.CmpBack]); (try k_sweep))
  | ((with_reducible show wpAny _ _ (call (Value.ref 96) _) _ _ _); k_dflt (refine' fq_sub ?zC ?zF ?zN ?zx ?zdx ?zy ?zdy ?zd ?zp ?_; (case zC => exact Cx.mk (by k_asm) (by k_asm) (by k_asm) (by first | exact rfl | assumption) (by first | exact rfl | assumption)); (case zF => k_asm); (case zN => k_asm); (case zx => k_mem); (case zdx => k_mem); (case zy => k_mem); (case zdy => k_mem); (case zd => k_room); (case zp => assumption); k_whole); intro r' d' t1' t2' tp' tn' h' tk' F' N' l1' l2'; (have lx' := allLt_of l1'); (try simp only [AllLt] at lx'); (have ly' := ltA l2'); (try dsimp only [PySem.W.CmpBack]); (try k_sweep))
  | ((with_reducible show wpAny _ _ (call (Value.ref 131) _) _ _ _); k_dflt (refine' fq_ne ?zC ?zF ?zN ?zx ?zdx ?zy ?zdy ?zd ?zu ?_; (case zC => exact Cx.mk (by k_asm) (by k_asm) (by k_asm) (by first | exact rfl | assumption) (by first | exact rfl | assumption)); (case zF => k_asm); (case zN => k_asm); (case zx => k_mem); (case zdx => k_mem); (case zy => k_mem); (case zdy => k_mem); (case zd => k_room); (case zu => k_units); k_whole); intro h' tk' F' N'; (try dsimp only [PySem.W.CmpBack]); (try k_sweep))))
local macro_rules | `(tactic| walk_at "eval GeneratorExp") => `(tactic| (k_here; refine hold_on ?_))
local macro_rules | `(tactic| walk_at "eval ListComp") => `(tactic| (k_here; refine hold_on ?_))
local macro_rules | `(tactic| walk_at "exec For") => `(tactic| (k_here; refine hold_on ?_))
local macro_rules | `(tactic| walk_at "exec While") => `(tactic| (k_here; refine hold_on ?_))
local macro_rules | `(tactic| walk_at "call builtin:len") => `(tactic| (k_here; refine len_sq (by assumption) (by k_mem) (by first | assumption | exact Sq.tup _ | exact Sq.lo _ _) (by assumption) (by omega) ?_; intro t' tk'))
local macro_rules | `(tactic| walk_at "compareOp NotEq int int") => `(tactic| with_reducible refine ne_self ?_)
local macro_rules | `(tactic| walk_at "eval Name") => `(tactic| (k_here; (with_reducible show wpAny _ _ (eval (Expr.Name _ _) (genEnv _ _ _ _ _ _)) _ _ _); first
  | (refine' gn_L ?F ?hv ?_ ?hk ?hx ?hd; (case F => assumption); (case hx => with_unfolding_all rfl); (case hv => first | exact if_pos rfl | assumption); (case hk => rfl); (case hd => decide); skip)
  | (refine' gn_F ?N ?hc ?hm ?hd ?_ ?hk ?hx ?hb ?hn; (case N => assumption); (case hx => with_unfolding_all rfl); (case hc => with_unfolding_all rfl); (case hm => k_mem); (case hd => with_reducible assumption); (case hk => rfl); (case hb => decide); (case hn => decide))))
local macro_rules | `(tactic| walk_at "call type:tuple") => `(tactic| (k_here; refine' tuple_sq ?F ?N ?hb ?hq ?hz ?_; (case F => assumption); (case N => assumption); (case hb => k_mem); (case hq => first | assumption | exact Sq.tup _ | exact Sq.lo _ _); (case hz => omega); intro T' h' F' N' l'; (replace l' := Or.imp allLt_of eqN l'); (try simp only [AllLt] at l')))
local macro_rules | `(tactic| k_all) => `(tactic| (with_reducible assumption))
local macro_rules | `(tactic| walk_at "call type:zip") => `(tactic| (k_here; refine hold_on ?_))
local macro_rules | `(tactic| walk_at "exec For Name Attribute cons nil") => `(tactic| (k_here; refine hold_on ?_))
local macro_rules | `(tactic| walk_at "exec For Name Call") => `(tactic| (k_here; refine hold_on ?_))
local macro_rules | `(tactic| walk_at "exec For Name Call cons nil") => `(tactic| (k_here; refine hold_on ?_))
local macro_rules | `(tactic| walk_at "exec For Name List cons nil") => `(tactic| (k_here; refine hold_on ?_))
local macro_rules | `(tactic| walk_at "exec For Name Name") => `(tactic| (k_here; refine hold_on ?_))
local macro_rules | `(tactic| walk_at "exec For Name Name cons nil") => `(tactic| (k_here; refine hold_on ?_))
local macro_rules | `(tactic| walk_at "exec For Name Subscript cons nil") => `(tactic| (k_here; refine hold_on ?_))
local macro_rules | `(tactic| walk_at "exec For Tuple Call") => `(tactic| (k_here; refine hold_on ?_))
local macro_rules | `(tactic| walk_at "exec For Tuple Call cons nil") => `(tactic| (k_here; refine hold_on ?_))
local macro_rules | `(tactic| walk_at "exec For Tuple List cons nil") => `(tactic| (k_here; refine hold_on ?_))
local macro_rules | `(tactic| walk_at "exec For Tuple Name") => `(tactic| (k_here; refine hold_on ?_))
local macro_rules | `(tactic| walk_at "exec For Tuple Name cons nil") => `(tactic| (k_here; refine hold_on ?_))
local macro_rules | `(tactic| walk_at "exec For Tuple Attribute cons nil") => `(tactic| (k_here; refine hold_on ?_))
local macro_rules | `(tactic| walk_at "exec Assign cons ListComp") => `(tactic| (k_here; refine hold_on ?_))
local macro_rules | `(tactic| walk_at "exec While BoolOp") => `(tactic| (k_here; refine hold_on ?_))
local macro_rules | `(tactic| walk_at "exec While Compare") => `(tactic| (k_here; refine hold_on ?_))
local macro_rules | `(tactic| walk_at "call ref") => `(tactic| (k_here; (with_reducible show wpAny _ _ (call (Value.ref 297) _) _ _ _); k_dflt (
  refine' pinitW ?zC ?zF ?zN ?zb ?zW ?zhb ?zhob ?zhd ?zhod ?zhvs ?zhn ?zhms ?zhz ?zdp ?zp ?_; (case zC => exact Cx.mk (by k_asm) (by k_asm) (by k_asm) (by first | exact rfl | assumption) (by first | exact rfl | assumption)); (case zF => k_asm); (case zN => k_asm); (case zb => assumption); (case zW => assumption); (case zhb => k_mem); (case zhob => first | assumption | exact Sq.tup _ | exact Sq.lo _ _); (case zhd => k_mem); (case zhod => first | assumption | exact Sq.tup _);
    (case zhvs => assumption); (case zhn => assumption); (case zhms => assumption); (case zhz => assumption); (case zdp => k_room); (case zp => assumption); k_whole); intro x' ex' s' hSm' F' N' lo' hv'; (have hbr' := Sm.bare hSm' (by assumption)); (try k_sweep)))
local macro_rules | `(tactic| k_mem) => `(tactic| first | exact List.Mem.head _ | (refine' List.Mem.tail _ ?_; k_mem) | assumption)
local macro_rules | `(tactic| k_mem) => `(tactic| ((first | (with_reducible refine' mem_apdM ?h) | (with_reducible refine' mem_apd ?h)); (case h => k_mem)))
local macro_rules | `(tactic| walk_at "zwm") => `(tactic| with_reducible first | assumption | (refine' Warm.cons ?h; (case h => walk_at "zwm")) | (refine' Warm.app ?h; (case h => walk_at "zwm")))
local macro_rules | `(tactic| walk_at "zpx") => `(tactic| with_reducible first | assumption | (refine' PV.cons ?h; (case h => walk_at "zpx")) | (refine' PV.app ?h; (case h => walk_at "zpx")))
local macro_rules | `(tactic| walk_at "zal") => `(tactic| with_reducible first | assumption | (refine' All2.any ?h; (case h => assumption)) | (refine' All2.cons ?h; (case h => walk_at "zal")) | (refine' All2.app ?h; (case h => walk_at "zal")))
local macro_rules | `(tactic| walk_at "call ref") => `(tactic| (k_here; (with_reducible show wpAny _ _ (call (Value.ref 208) _) _ _ _); first
  | (k_dflt (
  refine' pmade ?zC ?zF ?zN ?zb ?zW ?zhx ?zhb ?zhob ?zhvs ?zhn ?zhz ?zdp ?zp ?_; (case zC => exact Cx.mk (by k_asm) (by k_asm) (by k_asm) (by first | exact rfl | assumption) (by first | exact rfl | assumption)); (case zF => k_asm); (case zN => k_asm); (case zb => assumption); (case zW => walk_at "zwm"); (case zhx => walk_at "zpx"); (case zhb => k_mem); (case zhob => first | assumption | exact Sq.tup _ | exact Sq.lst _ | exact Sq.lo _ _);
    (case zhvs => walk_at "zal"); (case zhn => assumption); (case zhz => assumption); (case zdp => k_room); (case zp => assumption); k_whole); intro x' ex' s' hSm' F' N' lo' hv'; (have hbr' := Sm.bare hSm' (by assumption)); (try k_sweep))
  | refine hold_on ?_))
local macro_rules | `(tactic| walk_at "zho") => `(tactic| ((rename (∀ _, _ ∈ _ → _ < _) => h9); repeat' (first | exact List.forall_mem_nil _ | (refine List.forall_mem_cons.mpr ⟨?_, ?_⟩) | (intro r9 hr9; (have h8 := ltA (h9 r9 hr9)); refine ltA ?_; dsimp only; omega))))
local macro_rules | `(tactic| walk_at "setItem ref int") => `(tactic| (k_here; (with_reducible show wpAny _ _ (setItem (Value.ref _) (Value.int _ _) _) _ _ _); k_dflt (refine' lo_set ?k1 ?k2 ?k3 ?k5 ?k6 ?k7 ?_; (case k1 => k_asm); (case k2 => k_asm); (case k3 => k_upd); (case k5 => omega); (case k6 => with_reducible assumption); (case k7 => omega); k_whole); intro h' F' N'; (try k_sweep)))
local macro_rules | `(tactic| walk_at "getItem ref int") => `(tactic| (k_here; (with_reducible show wpAny _ _ (getItem (Value.ref _) (Value.int _ _)) _ _ _); k_dflt (refine' lo_get ?k1 ?k2 ?k5 ?k6 ?k7 ?_; (case k1 => k_asm); (case k2 => k_mem); (case k5 => omega); (case k6 => omega); (case k7 => with_reducible assumption); k_whole)))
local macro_rules | `(tactic| walk_at "subscriptTail") => `(tactic| (k_here; (with_reducible show wpAny _ _ (subscriptTail _ _ (Value.ref _) (Value.int _ _)) _ _ _); k_dflt (refine' sq_sub ?k1 ?k2 ?k3 ?k5 ?k6 ?k7 ?_ ?k8; (case k1 => k_asm); (case k2 => k_mem); (case k3 => first | assumption | exact Sq.tup _ | exact Sq.lo _ _); (case k5 => omega); (case k6 => omega); (case k7 => with_reducible assumption); (case k8 => with_unfolding_all rfl); k_whole)))
local macro_rules | `(tactic| walk_at "eval Name") => `(tactic| (k_here; k_dflt (refine' nameX_L ?F ?v ?_ ?a ?b; (case F => k_asm); (case a => rfl); (case b => rfl); (case v => with_reducible assumption); k_whole)))
local macro_rules | `(tactic| walk_at "inplaceOp Add") => `(tactic| (k_here; (with_reducible show wpAny _ _ (inplaceOp _ (Value.ref _) (Value.ref _)) _ _ _); k_dflt (refine' inpl_K ?k1 ?k2 ?k3 ?k4 ?k5 ?k8 ?k6 ?k7 ?_; (case k1 => k_asm); (case k2 => k_asm); (case k3 => k_inst); (case k4 => k_typeOf); (case k5 => k_is); (case k8 => first | exact no_iadd _ | exact no_isub _); (case k6 => k_is); (case k7 => k_is); k_whole)))
local macro_rules | `(tactic| walk_at "inplaceOp Add ref") => `(tactic| (k_here; (with_reducible show wpAny _ _ (inplaceOp _ (Value.ref _) (Value.ref _)) _ _ _); k_dflt (refine' inpl_K ?k1 ?k2 ?k3 ?k4 ?k5 ?k8 ?k6 ?k7 ?_; (case k1 => k_asm); (case k2 => k_asm); (case k3 => k_inst); (case k4 => k_typeOf); (case k5 => k_is); (case k8 => first | exact no_iadd _ | exact no_isub _); (case k6 => k_is); (case k7 => k_is); k_whole)))
local macro_rules | `(tactic| walk_at "inplaceOp Add ref ref") => `(tactic| (k_here; (with_reducible show wpAny _ _ (inplaceOp _ (Value.ref _) (Value.ref _)) _ _ _); k_dflt (refine' inpl_K ?k1 ?k2 ?k3 ?k4 ?k5 ?k8 ?k6 ?k7 ?_; (case k1 => k_asm); (case k2 => k_asm); (case k3 => k_inst); (case k4 => k_typeOf); (case k5 => k_is); (case k8 => first | exact no_iadd _ | exact no_isub _); (case k6 => k_is); (case k7 => k_is); k_whole)))
local macro_rules | `(tactic| walk_at "inplaceOp Sub") => `(tactic| (k_here; (with_reducible show wpAny _ _ (inplaceOp _ (Value.ref _) (Value.ref _)) _ _ _); k_dflt (refine' inpl_K ?k1 ?k2 ?k3 ?k4 ?k5 ?k8 ?k6 ?k7 ?_; (case k1 => k_asm); (case k2 => k_asm); (case k3 => k_inst); (case k4 => k_typeOf); (case k5 => k_is); (case k8 => first | exact no_iadd _ | exact no_isub _); (case k6 => k_is); (case k7 => k_is); k_whole)))
local macro_rules | `(tactic| walk_at "inplaceOp Sub ref") => `(tactic| (k_here; (with_reducible show wpAny _ _ (inplaceOp _ (Value.ref _) (Value.ref _)) _ _ _); k_dflt (refine' inpl_K ?k1 ?k2 ?k3 ?k4 ?k5 ?k8 ?k6 ?k7 ?_; (case k1 => k_asm); (case k2 => k_asm); (case k3 => k_inst); (case k4 => k_typeOf); (case k5 => k_is); (case k8 => first | exact no_iadd _ | exact no_isub _); (case k6 => k_is); (case k7 => k_is); k_whole)))
local macro_rules | `(tactic| walk_at "inplaceOp Sub ref ref") => `(tactic| (k_here; (with_reducible show wpAny _ _ (inplaceOp _ (Value.ref _) (Value.ref _)) _ _ _); k_dflt (refine' inpl_K ?k1 ?k2 ?k3 ?k4 ?k5 ?k8 ?k6 ?k7 ?_; (case k1 => k_asm); (case k2 => k_asm); (case k3 => k_inst); (case k4 => k_typeOf); (case k5 => k_is); (case k8 => first | exact no_iadd _ | exact no_isub _); (case k6 => k_is); (case k7 => k_is); k_whole)))

local macro_rules | `(tactic| walk_at "compareOp Gt int int") => `(tactic| (k_here; first | (refine gt_yes (by omega) ?_) | (refine gt_no (by omega) ?_)))
local macro_rules | `(tactic| walk_at "call builtin:list.pop") => `(tactic| (k_here; (with_reducible show wpAny _ _ (call (Value.builtin _) [Value.ref _]) _ _ _); k_dflt (refine' lo_pop ?F ?N ?U ?l ?z ?_; (case F => k_asm); (case N => k_asm); (case U => k_upd); (case l => with_reducible assumption); (case z => omega); k_whole); intro h' F' N'; (try k_sweep)))
local macro_rules | `(tactic| walk_at "call ref") => `(tactic| (k_here; (with_reducible show wpAny _ _ (call (Value.ref 183) _) _ _ _); k_dflt (first
  | (refine' fq_new ?C ?F ?N ?d ?p ?_; (case C => exact Cx.mk (by k_asm) (by k_asm) (by k_asm) (by first | exact rfl | assumption) (by first | exact rfl | assumption)); (case F => k_asm); (case N => k_asm); (case d => k_room); (case p => assumption); k_whole)
  | (refine' fq_copy ?C ?F ?N ?x ?dx ?d ?p ?_; (case C => exact Cx.mk (by k_asm) (by k_asm) (by k_asm) (by first | exact rfl | assumption) (by first | exact rfl | assumption)); (case F => k_asm); (case N => k_asm); (case x => k_mem); (case dx => k_mem); (case d => k_room); (case p => assumption); k_whole)); intro r' d' t1' t2' tp' tn' h' tk' F' N' l1' l2'; (have lx' := allLt_of l1'); (try simp only [AllLt] at lx'); (have ly' := ltA l2'); (try k_sweep)))
local macro_rules | `(tactic| walk_at "call ref") => `(tactic| (k_here; (with_reducible show wpAny _ _ (call (Value.ref 230) _) _ _ _); first
  | (k_dflt (
  refine' pmul ?zC ?zF ?zN ?zb ?zW ?zhx ?zhy ?zhz ?zn0 ?zrd ?zp6 ?zdp ?zp ?_; (case zC => exact Cx.mk (by k_asm) (by k_asm) (by k_asm) (by first | exact rfl | assumption) (by first | exact rfl | assumption)); (case zF => k_asm); (case zN => k_asm); (case zb => assumption); (case zW => walk_at "zwm"); (case zhx => walk_at "zpx"); (case zhy => walk_at "zpx");
    (case zhz => assumption); (case zn0 => assumption); (case zrd => assumption); (case zp6 => assumption); (case zdp => k_room); (case zp => assumption); k_whole); intro x' ex' s' hSm' F' N' lo' hv'; (have hbr' := Sm.bare hSm' (by assumption)); (obtain ⟨iD', iT', iM', i1', i2', i3', i4', i5', i6', iA', iB'⟩ := PV.inst hv'); (try dsimp only [PySem.W.CmpBack]); (try k_sweep))
  | refine hold_on ?_))
local macro_rules | `(tactic| walk_at "call ref") => `(tactic| (k_here; (with_reducible show wpAny _ _ (call (Value.ref 249) _) _ _ _); refine hold_on ?_))
theorem fresh26 : True := by
  w_top off
  trivial
abbrev foD (w : World) (p : Int) (n : Nat) (lm t mt : Addr) (t1 t2 t3 t4 t5 t6 t7 : Tok) : Obj := dictOf [⟨PyData.keyHash w.params (Str.ofString "field_modulus"), .str (Str.ofString "field_modulus") t1, .int p t2⟩, ⟨PyData.keyHash w.params (Str.ofString "mc_tuples"), .str (Str.ofString "mc_tuples") t3, .ref lm⟩,
  ⟨PyData.keyHash w.params (Str.ofString "coeffs"), .str (Str.ofString "coeffs") t4, .ref t⟩, ⟨PyData.keyHash w.params (Str.ofString "modulus_coeffs"), .str (Str.ofString "modulus_coeffs") t5, .ref mt⟩, ⟨PyData.keyHash w.params (Str.ofString "degree"), .str (Str.ofString "degree") t6, .int n t7⟩] 5
/-- a value that is the int c -/
def IntV (v : Value) (c : Int) : Prop := ∃ t, v = .int c t
/-- the first pairs (place, item) of a list, in the ledger -/
def PairsI (led : List (Addr × Obj)) (vs : List Value) (i : Nat) (ys : List Value) : Prop := ys.length = i ∧ ∀ (j : Nat) y, ys[j]? = some y → ∃ T t v, y = .ref T ∧ vs[j]? = some v ∧ InL led T (tup [.int (j : Int) t, v])
theorem PairsI.mono {led led' : List (Addr × Obj)} (k : ∀ q ∈ led, Nf q.2 → q ∈ led') {vs ys : List Value} {i : Nat} (h : PairsI led vs i ys) : PairsI led' vs i ys :=
  ⟨h.1, fun j y hy => let ⟨T, t, v, e1, e2, e3⟩ := h.2 j y hy; ⟨T, t, v, e1, e2, k _ e3 (fun _ e => nomatch e)⟩⟩
theorem PairsI.snoc {led led' : List (Addr × Obj)} (k : ∀ q ∈ led, q ∈ led') {vs ys : List Value} {i : Nat} {T : Addr} {t : Tok} {v : Value} (h : PairsI led vs i ys) (hv : vs[i]? = some v) (hT : (T, tup [.int (i : Int) t, v]) ∈ led') : PairsI led' vs (i + 1) (ys ++ [.ref T]) := by
  refine ⟨by rw [List.length_append, h.1]; rfl, fun j y hy => ?_⟩
  rw [List.getElem?_append] at hy
  split at hy
  · obtain ⟨T', t', v', e1, e2, e3⟩ := h.2 j y hy
    exact ⟨T', t', v', e1, e2, k _ e3⟩
  · have hji : j = i := by
      have := h.1
      cases hd : j - ys.length with
      | zero => omega
      | succ z => rw [hd] at hy; simp at hy
    subst hji
    rw [h.1, Nat.sub_self] at hy
    cases hy
    exact ⟨T, t, v, rfl, hv, hT⟩
/-- an optimized FQP in the ledger -/
def OV (w : World) (p : Int) (n : Nat) (led : List (Addr × Obj)) (x : Addr) (cs : List Int) : Prop := ∃ d lm t mt vs ms mcs k t1 t2 t3 t4 t5 t6 t7, InL led x (instObj 422 d) ∧ InL led d (foD w p n lm t mt t1 t2 t3 t4 t5 t6 t7) ∧ InL led lm (lo mcs k) ∧ InL led t (tup vs) ∧ InL led mt (tup ms) ∧
  PairsI led ms n mcs ∧ All2 IntV vs cs ∧ Ones ms n ∧ vs.length = n
theorem OV.mono {w : World} {p : Int} {n : Nat} {led led' : List (Addr × Obj)} (k : ∀ q ∈ led, Nf q.2 → q ∈ led') {x : Addr} {cs : List Int} (h : OV w p n led x cs) : OV w p n led' x cs :=
  let ⟨d, lm, t, mt, vs, ms, mcs, k0, t1, t2, t3, t4, t5, t6, t7, h1, h2, h3, h4, h5, h6, h7⟩ := h
  ⟨d, lm, t, mt, vs, ms, mcs, k0, t1, t2, t3, t4, t5, t6, t7, k _ h1 (fun _ e => nomatch e), k _ h2 (fun _ e => nomatch e), k _ h3 (fun _ e => nomatch e), k _ h4 (fun _ e => nomatch e), k _ h5 (fun _ e => nomatch e), h6.mono k, h7⟩
/-- the pool of the optimized __init__ has its code -/
def WarmO (news : List (Addr × Obj)) : Prop := ∃ c', (310, tabObj #[rawInt 272, rawInt 32, .ref c']) ∈ news
theorem WarmO.app {news ex : List (Addr × Obj)} (h : WarmO news) : WarmO (Apd ex news) := let ⟨c', hc⟩ := h; ⟨c', List.mem_append_right _ hc⟩
theorem WarmO.cons {news : List (Addr × Obj)} {q : Addr × Obj} (h : WarmO news) : WarmO (q :: news) := let ⟨c', hc⟩ := h; ⟨c', List.mem_cons_of_mem _ hc⟩
abbrev ORet (w : World) (h₀ : Heap) (L : Addr) (m : Str → Option Value) (news : List (Addr × Obj)) (p : Int) (n : Nat) (cs : List Int) (s : Shared) (Q : Value → Shared → Prop) : Prop :=
  ∀ x ex s', Sm s s' → Fr h₀ L s'.heap m → News h₀ L s'.heap (Apd ex news) → (∀ p ∈ ex, ∀ q ∈ news, q.1 < p.1) → OV w p n (Apd ex news) x cs → Q (.ref x) s'
theorem ov_fin {w : World} {p : Int} {n k : Nat} {h₀ h : Heap} {L T' T2 D x dx d : Addr} {c : Addr × Obj} {t1 t2 t3 t4 t5 t6 t7 : Tok} {tl sw : List (Addr × Obj)} {ys ms mcs : List Value} {od : Obj} {cs : List Int} {V : Prop}
    (kN : News h₀ L h ((T', tup ms) :: (T2, tup ys) :: (D, lo mcs k) :: c :: (x, instObj 422 dx) :: (dx, foD w p n D T2 T' t1 t2 t3 t4 t5 t6 t7) :: (tl ++ sw))) (lT : (@LT.lt Nat _ T2 T' ∧ @LT.lt Nat _ D T' ∧ @LT.lt Nat _ c.1 T' ∧ @LT.lt Nat _ x T' ∧ @LT.lt Nat _ dx T' ∧ V) ∨ T' = d)
    (hd : (d, od) ∈ sw) (o3 : @LT.lt Nat _ dx T2) (oD : @LT.lt Nat _ dx D) (l2 : @LT.lt Nat _ dx x) (tldx : ∀ q ∈ tl, @LT.lt Nat _ dx q.1) (hpr : PairsI tl ms n mcs) (hall : All2 IntV ys cs) (hms : Ones ms n) (hyl : ys.length = n) :
    ∃ ex, News h₀ L h (ex ++ sw) ∧ (∀ q ∈ ex, @LE.le Nat _ dx q.1) ∧ OV w p n (ex ++ sw) x cs := by
  have up : ∀ q ∈ tl, q ∈ tl ++ sw := fun q hq => List.mem_append_left _ hq
  have base : ∀ q, q ∈ (T2, tup ys) :: (D, lo mcs k) :: (x, instObj 422 dx) :: (dx, foD w p n D T2 T' t1 t2 t3 t4 t5 t6 t7) :: (tl ++ sw) → q ∈ (T', tup ms) :: (T2, tup ys) :: (D, lo mcs k) :: c :: (x, instObj 422 dx) :: (dx, foD w p n D T2 T' t1 t2 t3 t4 t5 t6 t7) :: (tl ++ sw) := by
    intro q hq
    refine List.mem_cons_of_mem _ ?_
    rcases List.mem_cons.mp hq with rfl | hq
    · exact List.mem_cons_self
    · refine List.mem_cons_of_mem _ ?_
      rcases List.mem_cons.mp hq with rfl | hq
      · exact List.mem_cons_self
      · exact List.mem_cons_of_mem _ (List.mem_cons_of_mem _ hq)
  have ord : ∀ q ∈ (T2, tup ys) :: (D, lo mcs k) :: (x, instObj 422 dx) :: (dx, foD w p n D T2 T' t1 t2 t3 t4 t5 t6 t7) :: tl, @LE.le Nat _ dx q.1 := by
    intro q hq
    rcases List.mem_cons.mp hq with rfl | hq
    · exact Nat.le_of_lt o3
    · rcases List.mem_cons.mp hq with rfl | hq
      · exact Nat.le_of_lt oD
      · rcases List.mem_cons.mp hq with rfl | hq
        · exact Nat.le_of_lt l2
        · rcases List.mem_cons.mp hq with rfl | hq
          · exact Nat.le_refl _
          · exact Nat.le_of_lt (tldx q hq)
  rcases lT with lT | rfl
  · refine ⟨(T', tup ms) :: (T2, tup ys) :: (D, lo mcs k) :: (x, instObj 422 dx) :: (dx, foD w p n D T2 T' t1 t2 t3 t4 t5 t6 t7) :: tl, ?_, ?_, ?_⟩
    · intro q hq
      rcases List.mem_cons.mp hq with rfl | hq
      · exact kN _ List.mem_cons_self
      · exact kN q (base q hq)
    · exact List.forall_mem_cons.mpr ⟨Nat.le_of_lt lT.2.2.2.2.1, ord⟩
    · exact ⟨dx, D, T2, T', ys, ms, mcs, k, t1, t2, t3, t4, t5, t6, t7, List.mem_cons_of_mem _ (List.mem_cons_of_mem _ (List.mem_cons_of_mem _ List.mem_cons_self)), List.mem_cons_of_mem _ (List.mem_cons_of_mem _ (List.mem_cons_of_mem _ (List.mem_cons_of_mem _ List.mem_cons_self))),
        List.mem_cons_of_mem _ (List.mem_cons_of_mem _ List.mem_cons_self), List.mem_cons_of_mem _ List.mem_cons_self, List.mem_cons_self,
        hpr.mono fun q hq _ => List.mem_cons_of_mem _ (List.mem_cons_of_mem _ (List.mem_cons_of_mem _ (List.mem_cons_of_mem _ (List.mem_cons_of_mem _ (up q hq))))), hall, hms, hyl⟩
  · have hdm : (T', tup ms) ∈ sw := by
      have e1 := (kN _ List.mem_cons_self).1
      have e2 := (kN (T', od) (List.mem_cons_of_mem _ (List.mem_cons_of_mem _ (List.mem_cons_of_mem _ (List.mem_cons_of_mem _ (List.mem_cons_of_mem _ (List.mem_cons_of_mem _ (List.mem_append_right _ hd)))))))).1
      have e4 : tup ms = od := Option.some.inj (e1.symm.trans e2)
      rw [e4]; exact hd
    refine ⟨(T2, tup ys) :: (D, lo mcs k) :: (x, instObj 422 dx) :: (dx, foD w p n D T2 T' t1 t2 t3 t4 t5 t6 t7) :: tl, fun q hq => kN q (base q hq), ord, ?_⟩
    exact ⟨dx, D, T2, T', ys, ms, mcs, k, t1, t2, t3, t4, t5, t6, t7, List.mem_cons_of_mem _ (List.mem_cons_of_mem _ List.mem_cons_self), List.mem_cons_of_mem _ (List.mem_cons_of_mem _ (List.mem_cons_of_mem _ List.mem_cons_self)),
      List.mem_cons_of_mem _ List.mem_cons_self, List.mem_cons_self, List.mem_cons_of_mem _ (List.mem_cons_of_mem _ (List.mem_cons_of_mem _ (List.mem_cons_of_mem _ (List.mem_append_right _ hdm)))),
      hpr.mono fun q hq _ => List.mem_cons_of_mem _ (List.mem_cons_of_mem _ (List.mem_cons_of_mem _ (List.mem_cons_of_mem _ (up q hq)))), hall, hms, hyl⟩
local macro_rules | `(tactic| walk_at "call type:enumerate") => `(tactic| (k_here; refine hold_on ?_))
local macro_rules | `(tactic| walk_at "eval Name") => `(tactic| (k_here; (with_reducible show wpAny _ _ (eval (Expr.Name _ _) (genEnv _ _ _ _ _ _)) _ _ _); first
  | (refine' gn_L ?F ?hv ?_ ?hk ?hx ?hd; (case F => assumption); (case hx => with_unfolding_all rfl); (case hv => first | exact if_pos rfl | assumption); (case hk => rfl); (case hd => decide); skip)
  | (refine' gn_F ?N ?hc ?hm ?hd ?_ ?hk ?hx ?hb ?hn; (case N => assumption); (case hx => with_unfolding_all rfl); (case hc => with_unfolding_all rfl); (case hm => k_mem); (case hd => with_reducible assumption); (case hk => rfl); (case hb => decide); (case hn => decide))))
local macro_rules | `(tactic| walk_at "zzfresh") => `(tactic| skip)
theorem fresh27 : True := by
  w_top off
  trivial
section
variable {w : World} {A₀ : Around} {dp un : Nat} {gd : Option (List Code)} {env : Env} {outer : List Env} {base h₀ : Heap} {L : Addr} {m : Str → Option Value} {news : List (Addr × Obj)} {s : Shared} {pr : Program} {loose : List Str} {mean : ExcName → Option Value} {mg mb : Str → Option Value}
  {p a : Int} {Q E : Value → Shared → Prop} {b d : Addr} {ob od : Obj} {vs ms : List Value} {cs : List Int}
/-- FQP(coeffs, modulus_coeffs, p), optimized -/
theorem oinit {tp : Tok} {ps : Array Value} {n : Nat} (C : Cx w A₀ env outer base h₀ L pr loose mean mg mb) (F : Fr h₀ L s.heap m) (N : News h₀ L s.heap news) (hbr : AllBare s.gens)
    (hb : (b, ob) ∈ news) (hob : Sq ob vs) (hd : (d, od) ∈ news) (hod : Sq od ms) (hvs : All2 IntV vs cs) (hn : vs.length = n) (hn0 : 0 < n) (hms : Ones ms n) (hz : n ≤ 100) (hP : (310, tabObj ps) ∈ news)
    (hps : ps = #[] ∨ ∃ c', ps = #[rawInt 272, rawInt 32, .ref c'])
    (hdp : dp + 30 < recursionLimit) (hp : 0 < p)
    (ret : ∀ x ex ps' s', Sm s s' → Fr h₀ L s'.heap m → News h₀ L s'.heap (ex ++ swp news 310 ps') → (∀ p ∈ ex, ∀ q ∈ news, q.1 < p.1) → (ps ≠ #[] → ps' = ps) → (∃ c', ps' = #[rawInt 272, rawInt 32, .ref c']) →
      OV w p n (ex ++ swp news 310 ps') x (cs.map (· % p)) → Q (.ref x) s') :
    wpAny (model PySem.Challenge.rw_bw0042_01.row.prog w) (ar dp un gd env outer) (call (.ref 422) [.ref b, .ref d, .int p tp]) Q E s := by
  obtain ⟨B, X, T, hf, hk⟩ := C
  have hn' := hms.1
  have hpn : p ≠ 0 := by omega
  have hsw : ∀ q ∈ news, Nf q.2 → ∀ ps', q ∈ swp news 310 ps' := fun q hq hn ps' => swp_mem N hP hq hn
  revert X; k_fill; intro X
  k_steps
  unfold HoldOn
  with_reducible refine plainObj_wpAny_Assign_Attribute ?_ ?_; rotate_left; with_unfolding_all rfl
  rename_i x dx h1 F1 N1 l1 l2 g1 L1 h2 tk2 FG1 B1 X1 T1 l3 oc hoc h3 F3 N3
  refine comp_KF F3 (by with_unfolding_all rfl) (by decide) rfl (by decide) (by intro _; with_unfolding_all rfl) ?zmain
  case zmain =>
    k_steps
    unfold HoldOn
    refine' cs_enum (J := fun i ys tl => PairsI tl ms i ys ∧ ∀ q ∈ tl, Nf q.2) rfl ?zF ?zN ?zb ?zq ?zz ?zx ?zy ?zxy ?zkk ?zjl ?zj0 ?zst ?zR ?zQ
    case zQ => intro v s' hq; k_steps; exact hq
    case zF => assumption
    case zN => assumption
    case zb => k_mem
    case zq => exact hod
    case zz => omega
    case zx => with_unfolding_all rfl
    case zy => with_unfolding_all rfl
    case zkk => rfl
    case zxy => decide
    case zjl => exact fun i ys tl h => Nat.le_of_eq h.1.1
    case zj0 => exact ⟨⟨rfl, fun j y h => by simp at h⟩, fun q h => nomatch h⟩
    case zst =>
      intro ha i t v ys tl C oC m3 h tk led E' hv hJ hoC mx my hC hl F6 N6
      obtain ⟨u, rfl⟩ := hms.2 v (List.mem_of_getElem? hv)
      k_steps
      rename Fr _ _ _ _ => kF
      rename News _ _ _ _ => kN
      rename (∀ q ∈ led, _ < _) => kl
      exact ⟨_, _, [(_, _)], rfl, kF, kN, List.forall_mem_cons.mpr ⟨kl, fun _ h => nomatch h⟩, hJ.1.snoc (fun q hq => List.mem_cons_of_mem _ hq) hv List.mem_cons_self, List.forall_mem_cons.mpr ⟨(fun _ e => nomatch e), hJ.2⟩⟩
    case zR =>
      intro h' ys D h2 tk tl hJ F6 N6 o1 o2 o3
      have inO : ∀ q ∈ [(L1 + 1, oc), (x, instObj 422 dx)], @LT.lt Nat _ q.1 D := fun q hq => o3 q (by
        rcases List.mem_cons.mp hq with rfl | hq
        · exact List.mem_cons_self
        · rw [List.mem_singleton.mp hq]; exact List.mem_cons_of_mem _ List.mem_cons_self)
      have o3x : @LT.lt Nat _ x D := inO _ (List.mem_cons_of_mem _ List.mem_cons_self)
      have o3d : @LT.lt Nat _ dx D := Nat.lt_trans l2 o3x
      have o3c : @LT.lt Nat _ (L1 + 1) D := inO _ List.mem_cons_self
      have l2' : @LT.lt Nat _ dx x := l2
      have N7 : News g1 L1 h2 ((D, lo ys ys.length) :: (L1 + 1, oc) :: (x, instObj 422 dx) :: (dx, _) :: Apd tl news) := fun q hq => N6 q (by
        rcases List.mem_cons.mp hq with rfl | hq
        · exact List.mem_cons_self
        · refine List.mem_cons_of_mem _ ?_
          rcases List.mem_cons.mp hq with rfl | hq
          · exact List.mem_append_right _ List.mem_cons_self
          · rcases List.mem_cons.mp hq with rfl | hq
            · exact List.mem_append_right _ (List.mem_cons_of_mem _ List.mem_cons_self)
            · rcases List.mem_cons.mp hq with rfl | hq
              · exact List.mem_append_right _ (List.mem_cons_of_mem _ (List.mem_cons_of_mem _ List.mem_cons_self))
              · exact (List.mem_append.mp hq).elim (fun h => List.mem_append_left _ h) fun h => List.mem_append_right _ (List.mem_cons_of_mem _ (List.mem_cons_of_mem _ (List.mem_cons_of_mem _ h))))
      have oR : ∀ q ∈ Apd tl news, q.1 ≠ dx := fun q hq => (List.mem_append.mp hq).elim (fun h => Nat.ne_of_gt (Nat.lt_trans o3d (o1 q h))) fun h => Nat.ne_of_lt (l1 q h)
      obtain ⟨v0, hv0, u0, rfl⟩ := hvs.got (i := 0) (c := cs.getD 0 0) (getD_some (by rw [← hvs.1]; omega))
      have hv0 : vs[((0 : Int)).toNat]? = some (.int (cs.getD 0 0) u0) := hv0
      clear N6 F3
      k_steps
      unfold HoldOn
      rename Fr _ _ _ _ => F8
      rename News _ _ _ _ => N8

      refine' gx_tuple (own := (D, lo ys ys.length) :: (L1 + 1, oc) :: (x, instObj 422 dx) :: (dx, _) :: tl) (P := 310) (c := 312) (vs := vs) (J := fun i ys tl => tl = [] ∧ ys.length = i ∧ All2 IntV ys ((cs.map (· % p)).take i)) B1 T1 F8 N8 rfl rfl rfl rfl (codeHd_of_K (c := 312) (P := 310) X1 (by kernel_rfl)) hP hps ?own rfl ?clos ?cell ?z0 rfl ?hx ?hs ?bare ?room ?hb hob (by omega) ?hit (fun _ _ _ h => h.2.1) ?j0 ?step ?hQ ?ret
      case own => exact List.forall_mem_cons.mpr ⟨(fun _ e => nomatch e), List.forall_mem_cons.mpr ⟨fun xs e => (nomatch hoc.symm.trans e), List.forall_mem_cons.mpr ⟨fun _ e => (nomatch e), List.forall_mem_cons.mpr ⟨fun _ e => (nomatch e), hJ.2⟩⟩⟩⟩
      case clos => with_unfolding_all rfl
      case cell => decide
      case z0 => with_unfolding_all rfl
      case hx => with_unfolding_all rfl
      case hs => intro _; with_unfolding_all rfl
      case bare => exact hbr
      case room => k_room
      case hb => k_mem
      case hit => intro Q' E' hq; k_steps; exact hq
      case j0 => exact ⟨rfl, rfl, All2.nil⟩
      case hQ => intro v s' hq; k_steps; exact hq
      case step =>
        intro C code gb ps' Bg st hlt hps1 hps2 i v ys' tl' mC h tk sg led E' hv hJ' Fg Ng hl
        have Xg := X1.keeps st
        have Tg := T1.keeps st
        obtain ⟨c, hc, cu, rfl⟩ := hvs.get hv
        have m1 := hl (L1 + 1, oc) (List.mem_append_right _ (List.mem_append_left _ (List.mem_cons_of_mem _ List.mem_cons_self)))
        have m2 := hl (x, instObj 422 dx) (List.mem_append_right _ (List.mem_append_left _ (List.mem_cons_of_mem _ (List.mem_cons_of_mem _ List.mem_cons_self))))
        have m3 := hl (dx, _) (List.mem_append_right _ (List.mem_append_left _ (List.mem_cons_of_mem _ (List.mem_cons_of_mem _ (List.mem_cons_of_mem _ List.mem_cons_self)))))
        have hoc : oc.data = .cell (some (.ref x)) := by with_unfolding_all exact hoc
        have hcc : (cs.map (· % p))[i]? = some (c % p) := by rw [List.getElem?_map, hc]; rfl
        have ef : c.fmod p = c % p := fm1 hp
        clear hsw hl hP hlt l1 l2 l3 B T FG1 B1 T1 F8 N8 X X1 st
        k_steps
        rename Fr _ _ _ _ => kF
        rename News _ _ _ _ => kN
        obtain ⟨rfl, j1, j2⟩ := hJ'
        refine ⟨_, _, [], _, rfl, kF, kN, (fun _ h => nomatch h), rfl, by simp [j1], ?_⟩
        rw [take_snoc hcc]
        exact j2.snoc ⟨_, congrArg (fun z => Value.int z _) ef⟩
      case ret =>
        intro T2 ys2 tl2 ps' s' hSm F6 N6 hlt6 hord hps1 hps2 hJ2
        obtain ⟨rfl, j1, j2⟩ := hJ2
        have hyl : ys2.length = n := j1.trans hn
        have hall : All2 IntV ys2 (cs.map (· % p)) := by
          rwa [List.take_of_length_le (by rw [List.length_map, ← hvs.1]; exact Nat.le_refl _)] at j2
        have e3 : @LT.lt Nat _ dx T2 := hlt6 (dx, _) (List.mem_append_right _ (List.mem_append_left _ (List.mem_cons_of_mem _ (List.mem_cons_of_mem _ (List.mem_cons_of_mem _ List.mem_cons_self)))))
        have e2 : @LT.lt Nat _ x T2 := hlt6 (x, instObj 422 dx) (List.mem_append_right _ (List.mem_append_left _ (List.mem_cons_of_mem _ (List.mem_cons_of_mem _ List.mem_cons_self))))
        have e1 : @LT.lt Nat _ (L1 + 1) T2 := hlt6 (L1 + 1, oc) (List.mem_append_right _ (List.mem_append_left _ (List.mem_cons_of_mem _ List.mem_cons_self)))
        have e0 : @LT.lt Nat _ D T2 := hlt6 (D, lo ys ys.length) (List.mem_append_right _ (List.mem_append_left _ List.mem_cons_self))
        have oR2 : ∀ q ∈ tl ++ swp news 310 ps', q.1 ≠ dx := fun q hq => (List.mem_append.mp hq).elim (fun h => Nat.ne_of_gt (Nat.lt_trans o3d (o1 q h))) fun h => Nat.ne_of_lt (swp_lt l1 q h)
        have hd7 : (d, od) ∈ tl ++ swp news 310 ps' := List.mem_append_right _ (hsw _ hd (fun xs e => by rcases hod with ⟨_, rfl⟩ | rfl <;> cases e) ps')
        have hdx : @LT.lt Nat _ d dx := l1 _ hd
        have N9 : News g1 L1 s'.heap ((T2, tup ys2) :: (D, lo ys ys.length) :: (L1 + 1, oc) :: (x, instObj 422 dx) :: (dx, _) :: (tl ++ swp news 310 ps')) := N6
        generalize hrest : tl ++ swp news 310 ps' = rest at N9 oR2 hd7
        clear N6 inO hlt6 F8 N8 hord
        obtain ⟨h6, g6, d6, t6, os6⟩ := s'
        k_steps
        subst hrest
        rename News _ _ _ _ => kN
        rename Fr _ _ _ _ => kF
        rename (_ ∧ _) ∨ _ => lT
        obtain ⟨ex, e1, e2, e3⟩ := ov_fin kN lT (hsw _ hd (fun xs e => by rcases hod with ⟨_, rfl⟩ | rfl <;> cases e) ps') e3 o3d l2' (fun q hq => Nat.lt_trans o3d (o1 q hq)) (by rw [hn'] at hJ; exact hJ.1) hall hms hyl
        exact ret x ex ps' _ hSm kF e1 (fun q hq r hr => Nat.lt_of_lt_of_le (l1 r hr) (e2 q hq)) hps1 hps2 e3
end
section
variable {w : World} {A₀ : Around} {dp un : Nat} {gd : Option (List Code)} {env : Env} {outer : List Env} {base h₀ : Heap} {L : Addr} {m : Str → Option Value} {news : List (Addr × Obj)} {s : Shared} {pr : Program} {loose : List Str} {mean : ExcName → Option Value} {mg mb : Str → Option Value}
  {p a : Int} {Q E : Value → Shared → Prop} {b d : Addr} {ob od : Obj} {vs ms : List Value} {cs : List Int}
theorem oinitW {tp : Tok} {n : Nat} (C : Cx w A₀ env outer base h₀ L pr loose mean mg mb) (F : Fr h₀ L s.heap m) (N : News h₀ L s.heap news) (hbr : AllBare s.gens) (hW : WarmO news)
    (hb : (b, ob) ∈ news) (hob : Sq ob vs) (hd : (d, od) ∈ news) (hod : Sq od ms) (hvs : All2 IntV vs cs) (hn : vs.length = n) (hn0 : 0 < n) (hms : Ones ms n) (hz : n ≤ 100)
    (hdp : dp + 30 < recursionLimit) (hp : 0 < p) (ret : ORet w h₀ L m news p n (cs.map (· % p)) s Q) :
    wpAny (model PySem.Challenge.rw_bw0042_01.row.prog w) (ar dp un gd env outer) (call (.ref 422) [.ref b, .ref d, .int p tp]) Q E s := by
  obtain ⟨c', hP⟩ := hW
  refine oinit C F N hbr hb hob hd hod hvs hn hn0 hms hz hP (.inr ⟨c', rfl⟩) hdp hp fun x ex ps' s' hS F' N' ho h1 _ hv => ?_
  have e := h1 (fun e => nomatch e)
  subst e
  rw [swp_same N hP] at N' hv
  exact ret x ex s' hS F' N' ho hv
end
theorem ORet.at {w : World} {h₀ : Heap} {L : Addr} {m : Str → Option Value} {news own : List (Addr × Obj)} {p : Int} {n : Nat} {cs : List Int} {s s' : Shared} {Q : Value → Shared → Prop} (ret : ORet w h₀ L m news p n cs s Q) (ho : ∀ q ∈ own, ∀ r ∈ news, r.1 < q.1) {x : Addr} {ex : List (Addr × Obj)}
    (hS : Sm s s') (F : Fr h₀ L s'.heap m) (N : News h₀ L s'.heap (Apd ex (own ++ news))) (lo : ∀ p ∈ ex, ∀ q ∈ own ++ news, q.1 < p.1) (hv : OV w p n (Apd ex (own ++ news)) x cs) : Q (.ref x) s' := by
  unfold Apd at N hv
  rw [← List.append_assoc] at N hv
  refine ret x (ex ++ own) s' hS F N (fun q hq r hr => ?_) hv
  rcases List.mem_append.mp hq with hq | hq
  · exact lo q hq r (List.mem_append_right _ hr)
  · exact ho q hq r hr
theorem ints_iv {vs : List Value} {xs : List Int} (h : IntsAre vs xs) : All2 IntV vs xs := by
  refine ⟨by have := h.sizeZ; rw [List.size_toArray] at this; omega, fun i v c hv hc => ?_⟩
  obtain ⟨n, t, rfl, hn⟩ := h.at i v hv
  rw [hn] at hc
  cases hc
  exact ⟨t, rfl⟩
theorem iv_ints : ∀ {vs : List Value} {xs : List Int}, All2 IntV vs xs → IntsAre vs xs
  | [], [], _ => .nil
  | [], _ :: _, h => nomatch h.1
  | _ :: _, [], h => nomatch h.1
  | v :: vs, x :: xs, h => by
    obtain ⟨t, rfl⟩ := h.2 0 v x rfl rfl
    exact .cons x t (iv_ints ⟨by have := h.1; simpa using this, fun i v c hv hc => h.2 (i + 1) v c (by simpa using hv) (by simpa using hc)⟩)
theorem OV.cons {w : World} {p : Int} {n : Nat} {news : List (Addr × Obj)} {q : Addr × Obj} {x : Addr} {cs : List Int} (h : OV w p n news x cs) : OV w p n (q :: news) x cs := h.mono fun _ hr _ => List.mem_cons_of_mem _ hr
theorem OV.app {w : World} {p : Int} {n : Nat} {news ex : List (Addr × Obj)} {x : Addr} {cs : List Int} (h : OV w p n news x cs) : OV w p n (Apd ex news) x cs := h.mono fun _ hr _ => List.mem_append_right _ hr
local macro_rules | `(tactic| walk_at "call ref") => `(tactic| (k_here; (with_reducible show wpAny _ _ (call (Value.ref 422) _) _ _ _); k_dflt (
  refine' oinitW ?zC ?zF ?zN ?zb ?zW ?zhb ?zhob ?zhd ?zhod ?zhvs ?zhn ?zn0 ?zhms ?zhz ?zdp ?zp ?_; (case zC => exact Cx.mk (by k_asm) (by k_asm) (by k_asm) (by first | exact rfl | assumption) (by first | exact rfl | assumption)); (case zF => k_asm); (case zN => k_asm); (case zb => assumption); (case zW => assumption); (case zhb => k_mem); (case zhob => first | assumption | exact Sq.tup _ | exact Sq.lo _ _); (case zhd => k_mem); (case zhod => first | assumption | exact Sq.tup _);
    (case zhvs => assumption); (case zhn => assumption); (case zn0 => assumption); (case zhms => assumption); (case zhz => assumption); (case zdp => k_room); (case zp => assumption); k_whole); intro x' ex' s' hSm' F' N' lo' hv'; (have hbr' := Sm.bare hSm' (by assumption)); (try k_sweep)))
local macro_rules | `(tactic| walk_at "zzfresh") => `(tactic| skip)
theorem fresh28 : True := by
  w_top off
  trivial
section
variable {w : World} {A₀ : Around} {dp un : Nat} {gd : Option (List Code)} {env : Env} {outer : List Env} {base h₀ : Heap} {L : Addr} {m : Str → Option Value} {news : List (Addr × Obj)} {s : Shared} {pr : Program} {loose : List Str} {mean : ExcName → Option Value} {mg mb : Str → Option Value}
  {p a : Int} {Q E : Value → Shared → Prop} {b d : Addr} {ob od : Obj} {vs ms : List Value} {cs : List Int}
theorem omade {x : Addr} {cx : List Int} {n : Nat} (C : Cx w A₀ env outer base h₀ L pr loose mean mg mb) (F : Fr h₀ L s.heap m) (N : News h₀ L s.heap news) (hbr : AllBare s.gens) (hW : WarmO news)
    (hx : OV w p n news x cx) (hb : (b, ob) ∈ news) (hob : Sq ob vs) (hvs : All2 IntV vs cs) (hn : vs.length = n) (hn0 : 0 < n) (hz : n ≤ 100)
    (hdp : dp + 40 < recursionLimit) (hp : 0 < p) (ret : ORet w h₀ L m news p n (cs.map (· % p)) s Q) :
    wpAny (model PySem.Challenge.rw_bw0042_01.row.prog w) (ar dp un gd env outer) (call (.ref 320) [.ref x, .ref b]) Q E s := by
  obtain ⟨B, X, T, hf, hk⟩ := C
  obtain ⟨dx, lm, t, mt, vx, ms, mcs, k0, t1, t2, t3, t4, t5, t6, t7, h1, h2, h3, h4, h5, h6, h7, hms, h8⟩ := hx
  simp only [InL] at h1 h2 h3 h4 h5
  revert X; k_fill; intro X
  k_steps
  rename Sm _ _ => hS
  exact ret _ _ _ hS (by assumption) (by assumption) (by assumption) (by assumption)
end
local macro_rules | `(tactic| walk_at "zwo") => `(tactic| with_reducible first | assumption | (refine' WarmO.cons ?h; (case h => walk_at "zwo")) | (refine' WarmO.app ?h; (case h => walk_at "zwo")))
local macro_rules | `(tactic| walk_at "zox") => `(tactic| with_reducible first | assumption | (refine' OV.cons ?h; (case h => walk_at "zox")) | (refine' OV.app ?h; (case h => walk_at "zox")))
local macro_rules | `(tactic| walk_at "call ref") => `(tactic| (k_here; (with_reducible show wpAny _ _ (call (Value.ref 320) _) _ _ _); first
  | (k_dflt (
  refine' omade ?zC ?zF ?zN ?zb ?zW ?zhx ?zhb ?zhob ?zhvs ?zhn ?zn0 ?zhz ?zdp ?zp ?_; (case zC => exact Cx.mk (by k_asm) (by k_asm) (by k_asm) (by first | exact rfl | assumption) (by first | exact rfl | assumption)); (case zF => k_asm); (case zN => k_asm); (case zb => assumption); (case zW => walk_at "zwo"); (case zhx => walk_at "zox"); (case zhb => k_mem); (case zhob => first | assumption | exact Sq.tup _ | exact Sq.lst _ | exact Sq.lo _ _);
    (case zhvs => assumption); (case zhn => assumption); (case zn0 => assumption); (case zhz => assumption); (case zdp => k_room); (case zp => assumption); k_whole); intro x' ex' s' hSm' F' N' lo' hv'; (have hbr' := Sm.bare hSm' (by assumption)); (try k_sweep))
  | refine hold_on ?_))
theorem fresh29 : True := by
  w_top off
  trivial
section
variable {w : World} {A₀ : Around} {dp un : Nat} {gd : Option (List Code)} {env : Env} {outer : List Env} {base h₀ : Heap} {L : Addr} {m : Str → Option Value} {news : List (Addr × Obj)} {s : Shared} {pr : Program} {loose : List Str} {mean : ExcName → Option Value} {mg mb : Str → Option Value}
  {p a : Int} {Q E : Value → Shared → Prop} {b d : Addr} {ob od : Obj} {vs ms : List Value} {cs : List Int}
theorem oone {x : Addr} {cx : List Int} {n : Nat} (C : Cx w A₀ env outer base h₀ L pr loose mean mg mb) (F : Fr h₀ L s.heap m) (N : News h₀ L s.heap news) (hbr : AllBare s.gens) (hW : WarmO news)
    (hx : OV w p n news x cx) (hz : n ≤ 100) (hn0 : 0 < n)
    (hdp : dp + 50 < recursionLimit) (hp : 0 < p) (ret : ORet w h₀ L m news p n ((1 :: List.replicate (n - 1) 0).map (· % p)) s Q) :
    wpAny (model PySem.Challenge.rw_bw0042_01.row.prog w) (ar dp un gd env outer) (call (.ref 412) [.ref x]) Q E s := by
  have hxv := hx
  obtain ⟨B, X, T, hf, hk⟩ := C
  obtain ⟨dx, lm, t, mt, vx, ms, mcs, k0, t1, t2, t3, t4, t5, t6, t7, h1, h2, h3, h4, h5, h6, h7, hms, h8⟩ := hx
  simp only [InL] at h1 h2 h3 h4 h5
  revert X; k_fill; intro X
  k_steps
  unfold HoldOn
  rename IntsAre _ (_ ++ _) => hI
  rename (_ ∧ _ ∧ _) => hlt
  have e : ([1] ++ (List.replicate ((n : Int) - 1).toNat [0]).flatten : List Int) = 1 :: List.replicate (n - 1) 0 := by
    rw [show ((n : Int) - 1).toNat = n - 1 by omega, List.flatten_replicate_singleton]; rfl
  rw [e] at hI
  have hcs := ints_iv hI
  have hl : _ = n := hcs.1.trans (by simp; omega)
  k_steps
  rename Sm _ _ => hS
  refine ORet.at (own := [_, _, _, _]) ret ?ho hS (by assumption) (by assumption) (by assumption) (by assumption)
  walk_at "zho"
theorem ozero {x : Addr} {cx : List Int} {n : Nat} (C : Cx w A₀ env outer base h₀ L pr loose mean mg mb) (F : Fr h₀ L s.heap m) (N : News h₀ L s.heap news) (hbr : AllBare s.gens) (hW : WarmO news)
    (hx : OV w p n news x cx) (hz : n ≤ 100) (hn0 : 0 < n)
    (hdp : dp + 50 < recursionLimit) (hp : 0 < p) (ret : ORet w h₀ L m news p n ((List.replicate n 0).map (· % p)) s Q) :
    wpAny (model PySem.Challenge.rw_bw0042_01.row.prog w) (ar dp un gd env outer) (call (.ref 419) [.ref x]) Q E s := by
  have hxv := hx
  obtain ⟨B, X, T, hf, hk⟩ := C
  obtain ⟨dx, lm, t, mt, vx, ms, mcs, k0, t1, t2, t3, t4, t5, t6, t7, h1, h2, h3, h4, h5, h6, h7, hms, h8⟩ := hx
  simp only [InL] at h1 h2 h3 h4 h5
  revert X; k_fill; intro X
  k_steps
  unfold HoldOn
  rename IntsAre _ _ => hI
  rename (_ ∧ _) => hlt
  have e : ((List.replicate (n : Int).toNat [0]).flatten : List Int) = List.replicate n 0 := by
    rw [show (n : Int).toNat = n by omega, List.flatten_replicate_singleton]
  rw [e] at hI
  have hcs := ints_iv hI
  have hl : _ = n := hcs.1.trans (by simp)
  k_steps
  rename Sm _ _ => hS
  refine ORet.at (own := [_, _]) ret ?ho hS (by assumption) (by assumption) (by assumption) (by assumption)
  walk_at "zho"
end
local macro_rules | `(tactic| walk_at "zzfresh") => `(tactic| skip)
theorem fresh30 : True := by
  w_top off
  trivial
/-- the list that a comprehension of ints has so far -/
def IJ (cs : List Int) (i : Nat) (ys : List Value) (tl : List (Addr × Obj)) : Prop := tl = [] ∧ ys.length = i ∧ All2 IntV ys (cs.take i)
theorem IJ.zero {cs : List Int} : IJ cs 0 [] [] := ⟨rfl, rfl, All2.nil⟩
theorem IJ.step {h₀ h' : Heap} {L : Addr} {m : Str → Option Value} {led tl : List (Addr × Obj)} {cs : List Int} {ys : List Value} {i : Nat} {s₁ : Shared} {tk' : Nat} {c : Int} {t : Tok} (hJ : IJ cs i ys tl) (hc : cs[i]? = some c) (F : Fr h₀ L h' m) (N : News h₀ L h' led) :
    CEnd h₀ L m s₁ led tl (IJ cs (i + 1) (ys ++ [.int c t])) { s₁ with heap := h', toks := tk' } := by
  refine ⟨_, _, [], rfl, F, N, (fun _ h => nomatch h), hJ.1, by simp [hJ.2.1], ?_⟩
  rw [take_snoc hc]
  exact hJ.2.2.snoc ⟨t, rfl⟩
theorem IJ.done {cs : List Int} {ys : List Value} {tl : List (Addr × Obj)} {n : Nat} (h : IJ cs n ys tl) (hn : cs.length = n) : tl = [] ∧ ys.length = n ∧ All2 IntV ys cs := by
  refine ⟨h.1, h.2.1, ?_⟩
  have := h.2.2
  rwa [List.take_of_length_le (Nat.le_of_eq hn)] at this
section
variable {w : World} {A₀ : Around} {dp un : Nat} {gd : Option (List Code)} {env : Env} {outer : List Env} {base h₀ : Heap} {L : Addr} {m : Str → Option Value} {news : List (Addr × Obj)} {s : Shared} {pr : Program} {loose : List Str} {mean : ExcName → Option Value} {mg mb : Str → Option Value}
  {p a : Int} {Q E : Value → Shared → Prop} {b d : Addr} {ob od : Obj} {vs ms : List Value} {cs : List Int}
theorem oadd {x y : Addr} {cx cy : List Int} {n : Nat} (C : Cx w A₀ env outer base h₀ L pr loose mean mg mb) (F : Fr h₀ L s.heap m) (N : News h₀ L s.heap news) (hbr : AllBare s.gens) (hW : WarmO news)
    (hx : OV w p n news x cx) (hy : OV w p n news y cy) (hz : n ≤ 100) (hn0 : 0 < n)
    (hdp : dp + 60 < recursionLimit) (hp : 0 < p) (ret : ORet w h₀ L m news p n ((List.zipWith (fun a b => (a + b) % p) cx cy).map (· % p)) s Q) :
    wpAny (model PySem.Challenge.rw_bw0042_01.row.prog w) (ar dp un gd env outer) (call (.ref 325) [.ref x, .ref y]) Q E s := by
  have hxv := hx
  have hp0 : p ≠ 0 := by omega
  obtain ⟨B, X, T, hf, hk⟩ := C
  obtain ⟨dx, lm, t, mt, vx, ms, mcs, k0, t1, t2, t3, t4, t5, t6, t7, h1, h2, h3, h4, h5, h6, h7, hms, h8⟩ := hx
  obtain ⟨dy, lm', t', mt', vy, ms', mcs', k0', t1', t2', t3', t4', t5', t6', t7', h1', h2', h3', h4', h5', h6', h7', hms', h8'⟩ := hy
  simp only [InL] at h1 h2 h3 h4 h5 h1' h2' h3' h4' h5'
  revert X; k_fill; intro X
  k_steps
  unfold HoldOn
  refine comp_KF (by assumption) (by with_unfolding_all rfl) (by decide) rfl (by decide) (by intro _; with_unfolding_all rfl) ?zmain
  case zmain =>
    k_steps
    unfold HoldOn
    refine' cs_zip (J := IJ (List.zipWith (fun a b => (a + b) % p) cx cy)) rfl ?zF ?zN ?zl1 ?zl2 ?zlen ?zz ?zx ?zy ?zxy ?zkk ?zjl ?zj0 ?zst ?zR ?zQ
    case zQ => intro v s' hq; k_steps; exact hq
    case zF => assumption
    case zN => assumption
    case zl1 => k_mem
    case zl2 => k_mem
    case zlen => rw [h8, h8']
    case zz => omega
    case zx => with_unfolding_all rfl
    case zy => with_unfolding_all rfl
    case zkk => rfl
    case zxy => decide
    case zjl => exact fun i ys tl h => Nat.le_of_eq h.2.1
    case zj0 => exact IJ.zero
    case zR =>
      intro h' ys D h2 tk tl hJ F6 N6 o1 o2 o3
      obtain ⟨rfl, hl, hcs⟩ := hJ.done (by simp [← h7.1, ← h7'.1, h8, h8'])
      rw [h8] at hl
      simp only [List.nil_append] at N6
      have N7 : News _ _ h2 ((D, lo ys ys.length) :: _) := N6
      rename (∀ q ∈ news, _ < _) => l0
      clear N6
      k_steps
      rename Sm _ _ => hS
      refine ORet.at (own := [_, _]) ret ?ho hS (by assumption) (by assumption) (by assumption) (by assumption)
      intro q hq r hr
      simp only [List.mem_cons, List.not_mem_nil, or_false] at hq
      rcases hq with rfl | rfl
      · exact o3 r (List.mem_cons_of_mem _ hr)
      · exact Nat.lt_trans (l0 r hr) (Nat.lt_succ_self _)
    case zst =>
      intro ha2 i v u ys tl C oC m3 h tk led E' hv hu hJ hoC mx my hC hl F6 N6
      obtain ⟨c, hc, a1, rfl⟩ := h7.get hv
      obtain ⟨c', hc', b1, rfl⟩ := h7'.get hu
      have up : ∀ q ∈ news, q ∈ led := fun q hq => hl q (List.mem_append_right _ (List.mem_cons_of_mem _ hq))
      have kc := hl _ (List.mem_append_right _ List.mem_cons_self)
      have k1 := up _ h1
      have k2 := up _ h2
      have hcc : (List.zipWith (fun a b => (a + b) % p) cx cy)[i]? = some ((c + c').fmod p) := by rw [List.getElem?_zipWith, hc, hc', fm1 hp]
      clear hl up
      k_steps
      exact hJ.step hcc (by assumption) (by assumption)
theorem osub {x y : Addr} {cx cy : List Int} {n : Nat} (C : Cx w A₀ env outer base h₀ L pr loose mean mg mb) (F : Fr h₀ L s.heap m) (N : News h₀ L s.heap news) (hbr : AllBare s.gens) (hW : WarmO news)
    (hx : OV w p n news x cx) (hy : OV w p n news y cy) (hz : n ≤ 100) (hn0 : 0 < n)
    (hdp : dp + 60 < recursionLimit) (hp : 0 < p) (ret : ORet w h₀ L m news p n ((List.zipWith (fun a b => (a - b) % p) cx cy).map (· % p)) s Q) :
    wpAny (model PySem.Challenge.rw_bw0042_01.row.prog w) (ar dp un gd env outer) (call (.ref 330) [.ref x, .ref y]) Q E s := by
  have hxv := hx
  have hp0 : p ≠ 0 := by omega
  obtain ⟨B, X, T, hf, hk⟩ := C
  obtain ⟨dx, lm, t, mt, vx, ms, mcs, k0, t1, t2, t3, t4, t5, t6, t7, h1, h2, h3, h4, h5, h6, h7, hms, h8⟩ := hx
  obtain ⟨dy, lm', t', mt', vy, ms', mcs', k0', t1', t2', t3', t4', t5', t6', t7', h1', h2', h3', h4', h5', h6', h7', hms', h8'⟩ := hy
  simp only [InL] at h1 h2 h3 h4 h5 h1' h2' h3' h4' h5'
  revert X; k_fill; intro X
  k_steps
  unfold HoldOn
  refine comp_KF (by assumption) (by with_unfolding_all rfl) (by decide) rfl (by decide) (by intro _; with_unfolding_all rfl) ?zmain
  case zmain =>
    k_steps
    unfold HoldOn
    refine' cs_zip (J := IJ (List.zipWith (fun a b => (a - b) % p) cx cy)) rfl ?zF ?zN ?zl1 ?zl2 ?zlen ?zz ?zx ?zy ?zxy ?zkk ?zjl ?zj0 ?zst ?zR ?zQ
    case zQ => intro v s' hq; k_steps; exact hq
    case zF => assumption
    case zN => assumption
    case zl1 => k_mem
    case zl2 => k_mem
    case zlen => rw [h8, h8']
    case zz => omega
    case zx => with_unfolding_all rfl
    case zy => with_unfolding_all rfl
    case zkk => rfl
    case zxy => decide
    case zjl => exact fun i ys tl h => Nat.le_of_eq h.2.1
    case zj0 => exact IJ.zero
    case zR =>
      intro h' ys D h2 tk tl hJ F6 N6 o1 o2 o3
      obtain ⟨rfl, hl, hcs⟩ := hJ.done (by simp [← h7.1, ← h7'.1, h8, h8'])
      rw [h8] at hl
      simp only [List.nil_append] at N6
      have N7 : News _ _ h2 ((D, lo ys ys.length) :: _) := N6
      rename (∀ q ∈ news, _ < _) => l0
      clear N6
      k_steps
      rename Sm _ _ => hS
      refine ORet.at (own := [_, _]) ret ?ho hS (by assumption) (by assumption) (by assumption) (by assumption)
      intro q hq r hr
      simp only [List.mem_cons, List.not_mem_nil, or_false] at hq
      rcases hq with rfl | rfl
      · exact o3 r (List.mem_cons_of_mem _ hr)
      · exact Nat.lt_trans (l0 r hr) (Nat.lt_succ_self _)
    case zst =>
      intro ha2 i v u ys tl C oC m3 h tk led E' hv hu hJ hoC mx my hC hl F6 N6
      obtain ⟨c, hc, a1, rfl⟩ := h7.get hv
      obtain ⟨c', hc', b1, rfl⟩ := h7'.get hu
      have up : ∀ q ∈ news, q ∈ led := fun q hq => hl q (List.mem_append_right _ (List.mem_cons_of_mem _ hq))
      have kc := hl _ (List.mem_append_right _ List.mem_cons_self)
      have k1 := up _ h1
      have k2 := up _ h2
      have hcc : (List.zipWith (fun a b => (a - b) % p) cx cy)[i]? = some ((c - c').fmod p) := by rw [List.getElem?_zipWith, hc, hc', fm1 hp]
      clear hl up
      k_steps
      exact hJ.step hcc (by assumption) (by assumption)
end
local macro_rules | `(tactic| walk_at "zzfresh") => `(tactic| skip)
theorem fresh31 : True := by
  w_top off
  trivial
section
variable {w : World} {A₀ : Around} {dp un : Nat} {gd : Option (List Code)} {env : Env} {outer : List Env} {base h₀ : Heap} {L : Addr} {m : Str → Option Value} {news : List (Addr × Obj)} {s : Shared} {pr : Program} {loose : List Str} {mean : ExcName → Option Value} {mg mb : Str → Option Value}
  {p a : Int} {Q E : Value → Shared → Prop} {b d : Addr} {ob od : Obj} {vs ms : List Value} {cs : List Int}
theorem oeq {x y : Addr} {cx cy : List Int} {n : Nat} (C : Cx w A₀ env outer base h₀ L pr loose mean mg mb) (F : Fr h₀ L s.heap m) (N : News h₀ L s.heap news)
    (hx : OV w p n news x cx) (hy : OV w p n news y cy) (hz : n ≤ 100)
    (hdp : dp + 60 < recursionLimit) (hun : un + 300 < cLine) (ret : ∀ s', Sm s s' → Fr h₀ L s'.heap m → News h₀ L s'.heap news → Q (.bool (cx == cy)) s') :
    wpAny (model PySem.Challenge.rw_bw0042_01.row.prog w) (ar dp un gd env outer) (call (.ref 385) [.ref x, .ref y]) Q E s := by
  obtain ⟨B, X, T, hf, hk⟩ := C
  obtain ⟨dx, lm, t, mt, vx, ms, mcs, k0, t1, t2, t3, t4, t5, t6, t7, h1, h2, h3, h4, h5, h6, h7, hms, h8⟩ := hx
  obtain ⟨dy, lm', t', mt', vy, ms', mcs', k0', t1', t2', t3', t4', t5', t6', t7', h1', h2', h3', h4', h5', h6', h7', hms', h8'⟩ := hy
  simp only [InL] at h1 h2 h3 h4 h5 h1' h2' h3' h4' h5'
  revert X; k_fill; intro X
  k_steps
  unfold HoldOn
  refine for_KF (by assumption) (by intro _; with_unfolding_all rfl) ?zmain
  case zmain =>
    k_steps
    unfold HoldOn
    refine' fs_zip (J := fun i _ news₁ => news₁ = news ∧ ∀ k, k < i → cx[k]? = cy[k]?) rfl ?zF ?zN ?zl1 ?zl2 ?zlen ?zx ?zy ?zpp ?zj0 ?zst ?zR ?zQ
    case zQ => intro v s' hq; k_steps; exact hq
    case zF => assumption
    case zN => assumption
    case zl1 => k_mem
    case zl2 => k_mem
    case zlen => rw [h8, h8']
    case zx => with_unfolding_all rfl
    case zy => with_unfolding_all rfl
    case zpp => with_unfolding_all rfl
    case zj0 => exact ⟨rfl, fun k h => absurd h (Nat.not_lt_zero k)⟩
    case zR =>
      rintro h' s' m' news' ⟨rfl, hall⟩ hS F6 N6
      have e : (cx == cy) = true := by
        rw [beq_iff_eq]
        refine List.ext_getElem? fun k => ?_
        by_cases hk : k < vx.length
        · exact hall k hk
        · rw [List.getElem?_eq_none (by rw [← h7.1]; omega), List.getElem?_eq_none (by rw [← h7'.1]; omega)]
      k_steps
      have z := ret _ hS (by assumption) (by assumption)
      rw [e] at z
      exact z
    case zst =>
      rintro i v u m₁ news₁ s₁ own E' hv hu ⟨rfl, hall⟩ hS F6 N6
      obtain ⟨c, hc, a1, rfl⟩ := h7.get hv
      obtain ⟨c', hc', b1, rfl⟩ := h7'.get hu
      k_steps
      · rename c ≠ c' => hcc
        have e : (cx == cy) = false := by
          rw [beq_eq_false_iff_ne]
          intro e
          rw [e, hc'] at hc
          exact hcc (Option.some.inj hc).symm
        dsimp only [FPost]
        k_steps
        rename News _ _ _ _ => kN
        have z := ret _ (Sm.upd hS) (by assumption) (fun q hq => kN q (mem_apd hq))
        rw [e] at z
        exact z
      · rename c = c' => hcc
        refine ⟨_, news₁, by assumption, by assumption, fun p hp => .inl ⟨p, hp, rfl⟩, ⟨rfl, fun k hk => ?_⟩, Sm.of⟩
        by_cases e : k = i
        · subst e; rw [hc, hc', hcc]
        · exact hall k (by omega)
end
local macro_rules | `(tactic| walk_at "zzfresh") => `(tactic| skip)
theorem fresh32 : True := by
  w_top off
  trivial
def omIn (ai : Int) (cy : List Int) (i : Nat) (b : List Int) : Nat → List Int
  | 0 => b
  | j + 1 => (omIn ai cy i b j).set (i + j) ((omIn ai cy i b j).getD (i + j) 0 + ai * cy.getD j 0)
def omOut (cx cy : List Int) (n : Nat) (b : List Int) : Nat → List Int
  | 0 => b
  | i + 1 => omIn (cx.getD i 0) cy i (omOut cx cy n b i) n
def omRedIn (top : Int) (e : Nat) (b : List Int) : Nat → List Int
  | 0 => b
  | i + 1 => (omRedIn top e b i).set (e + i) ((omRedIn top e b i).getD (e + i) 0 - top * 1)
def omRed (n : Nat) (b : List Int) : Nat → List Int
  | 0 => b
  | k + 1 => omRedIn ((omRed n b k).getLastD 0) (n - 2 - k) (omRed n b k).dropLast n
/-- the optimized product -/
def om (p : Int) (n : Nat) (cx cy : List Int) : List Int := ((omRed n (omOut cx cy n (List.replicate (2 * n - 1) 0) n) (n - 1)).map (· % p)).map (· % p)
theorem omIn_len {ai : Int} {cy : List Int} {i : Nat} {b : List Int} : ∀ k, (omIn ai cy i b k).length = b.length
  | 0 => rfl
  | k + 1 => by rw [omIn, List.length_set]; exact omIn_len k
theorem omOut_len {cx cy : List Int} {n : Nat} {b : List Int} : ∀ k, (omOut cx cy n b k).length = b.length
  | 0 => rfl
  | k + 1 => by rw [omOut, omIn_len]; exact omOut_len k
theorem omRedIn_len {t : Int} {e : Nat} {b : List Int} : ∀ k, (omRedIn t e b k).length = b.length
  | 0 => rfl
  | k + 1 => by rw [omRedIn, List.length_set]; exact omRedIn_len k
theorem omRed_len {n : Nat} {b : List Int} : ∀ k, (omRed n b k).length = b.length - k
  | 0 => rfl
  | k + 1 => by rw [omRed, omRedIn_len, List.length_dropLast, omRed_len k]; omega
theorem red_om {p : Int} (hp : 0 < p) {n : Nat} {cx cy : List Int} : Red p (om p n cx cy) := red_map hp _
theorem rng_dn {n : Nat} (h1 : 0 < n) (hz : n ≤ 100) : Builtin.Range.small ((n : Int) - 2) (-1) (-1) = true ∧ Builtin.Range.rangeSize ((n : Int) - 2) (-1) (-1) = ((n - 1 : Nat) : Int) := by
  refine ⟨PySem.W.small_down (by omega) (by omega) (by omega) (by omega), ?_⟩
  rw [PySem.W.rangeSize_down]
  split <;> omega
local macro_rules | `(tactic| walk_at "zzfresh") => `(tactic| skip)
theorem fresh33 : True := by
  w_top off
  trivial
section
variable {w : World} {A₀ : Around} {dp un : Nat} {gd : Option (List Code)} {env : Env} {outer : List Env} {base h₀ : Heap} {L : Addr} {m : Str → Option Value} {news : List (Addr × Obj)} {s : Shared} {pr : Program} {loose : List Str} {mean : ExcName → Option Value} {mg mb : Str → Option Value}
  {p a : Int} {Q E : Value → Shared → Prop} {b d : Addr} {ob od : Obj} {vs ms : List Value} {cs : List Int}
theorem omul {x y : Addr} {cx cy : List Int} {n : Nat} (C : Cx w A₀ env outer base h₀ L pr loose mean mg mb) (F : Fr h₀ L s.heap m) (N : News h₀ L s.heap news) (hbr : AllBare s.gens) (hW : WarmO news)
    (hx : OV w p n news x cx) (hy : OV w p n news y cy) (hz : n ≤ 100) (hn0 : 0 < n) (hred : Red p cx) (hp60 : p < 2 ^ 60)
    (hdp : dp + 60 < recursionLimit) (hp : 0 < p) (ret : ORet w h₀ L m news p n (om p n cx cy) s Q) :
    wpAny (model PySem.Challenge.rw_bw0042_01.row.prog w) (ar dp un gd env outer) (call (.ref 342) [.ref x, .ref y]) Q E s := by
  have hxv := hx
  have hp0 : p ≠ 0 := by omega
  obtain ⟨B, X, T, hf, hk⟩ := C
  obtain ⟨dx, lm, t, mt, vx, ms, mcs, k0, t1, t2, t3, t4, t5, t6, t7, h1, h2, h3, h4, h5, h6, h7, hms, h8⟩ := hx
  obtain ⟨dy, lm', t', mt', vy, ms', mcs', k0', t1', t2', t3', t4', t5', t6', t7', h1', h2', h3', h4', h5', h6', h7', hms', h8'⟩ := hy
  simp only [InL] at h1 h2 h3 h4 h5 h1' h2' h3' h4' h5'
  revert X; k_fill; intro X
  k_steps
  unfold HoldOn
  rename_i g1 L1 ha1 tk1 FG1 B1 X1 T1 l1 oo os dd ds tk2 l0 ha2 l1b D ha3 hI nn z1 z2 z3 z4 l1c ha4 F2 N2
  have hdd : oo.data = .cell (some (.ref y)) := by with_unfolding_all exact dd
  have hds : os.data = .cell (some (.ref x)) := by with_unfolding_all exact ds
  have eI : ((List.replicate ((n : Int) * 2 - 1).toNat [0]).flatten : List Int) = List.replicate (2 * n - 1) 0 := by
    rw [show ((n : Int) * 2 - 1).toNat = 2 * n - 1 by omega, List.flatten_replicate_singleton]
  rw [eI] at hI
  generalize hb0 : (List.replicate ((n : Int) * 2 - 1).toNat [Value.int 0 tk2]).flatten = b0 at hI N2
  have hB0 := ints_iv hI
  clear dd ds z1 z2 z3 z4 hI hb0 eI
  refine' list_en (Q := _) rfl F2 N2 (b := t') (ob := tup vy) (vs := vy) ?zb (Sq.tup _) (by omega) ?zmain ?zQ
  case zQ => intro v s' hq; k_steps; exact hq
  case zb => k_mem
  case zmain =>
    intro D2 ys kk tl s2 hpr hS2 F3 N3 lo3 tl3
    have kD : ∀ q ∈ (D, lo b0 0) :: (l0, _) :: (L1 + 1 + 1, oo) :: (L1 + 1, os) :: news, @LT.lt Nat _ q.1 D2 := lo3
    obtain ⟨o0, N4⟩ : ∃ o0, News g1 L1 s2.heap ((D, lo b0 0) :: ((D2, lo ys kk) :: (tl ++ (l0, o0) :: (L1 + 1 + 1, oo) :: (L1 + 1, os) :: news))) := ⟨_, fun q hq => N3 q (by
      rcases List.mem_cons.mp hq with rfl | hq
      · exact List.mem_cons_of_mem _ (List.mem_append_right _ List.mem_cons_self)
      · rcases List.mem_cons.mp hq with rfl | hq
        · exact List.mem_cons_self
        · exact List.mem_cons_of_mem _ ((List.mem_append.mp hq).elim (fun h => List.mem_append_left _ h) fun h => List.mem_append_right _ (List.mem_cons_of_mem _ h)))⟩
    have lD2 : @LT.lt Nat _ D D2 := kD _ List.mem_cons_self
    have lD0 : @LT.lt Nat _ l0 D := l1c.1
    have lDc : @LT.lt Nat _ (L1 + 1 + 1) D := l1c.2.1
    obtain ⟨nb, hnb⟩ : ∃ nb, nb = (D2, lo ys kk) :: (tl ++ (l0, o0) :: (L1 + 1 + 1, oo) :: (L1 + 1, os) :: news) := ⟨_, rfl⟩
    rw [← hnb] at N4
    have up : ∀ q ∈ news, q ∈ nb := fun q hq => hnb ▸ List.mem_cons_of_mem _ (List.mem_append_right _ (List.mem_cons_of_mem _ (List.mem_cons_of_mem _ (List.mem_cons_of_mem _ hq))))
    have mc1 : (L1 + 1 + 1, oo) ∈ nb := hnb ▸ List.mem_cons_of_mem _ (List.mem_append_right _ (List.mem_cons_of_mem _ List.mem_cons_self))
    have mc2 : (L1 + 1, os) ∈ nb := hnb ▸ List.mem_cons_of_mem _ (List.mem_append_right _ (List.mem_cons_of_mem _ (List.mem_cons_of_mem _ List.mem_cons_self)))
    have mD2 : (D2, lo ys kk) ∈ nb := hnb ▸ List.mem_cons_self
    have mpr : ∀ q ∈ tl, q ∈ nb := fun q hq => hnb ▸ List.mem_cons_of_mem _ (List.mem_append_left _ hq)
    have hown : nb = ((D2, lo ys kk) :: (tl ++ [(l0, o0), (L1 + 1 + 1, oo), (L1 + 1, os)])) ++ news := by rw [hnb]; simp
    have lnL : ∀ r ∈ news, @LT.lt Nat _ r.1 L1 := l1
    have lnD : ∀ r ∈ news, @LT.lt Nat _ r.1 D := fun r hr => by have := ltA (lnL r hr); omega
    have l0L : @LT.lt Nat _ (L1 + 1 + 1) l0 := l1b.1
    have oown : ∀ q ∈ (D2, lo ys kk) :: (tl ++ [(l0, o0), (L1 + 1 + 1, oo), (L1 + 1, os)]), ∀ r ∈ news, r.1 < q.1 := by
      intro q hq r hr
      have a0 := ltA (lnL r hr)
      refine ltA ?_
      rcases List.mem_cons.mp hq with rfl | hq
      · dsimp only; omega
      · rcases List.mem_append.mp hq with hq | hq
        · have := ltA (tl3 q hq); omega
        · simp only [List.mem_cons, List.not_mem_nil, or_false] at hq
          rcases hq with rfl | rfl | rfl <;> (dsimp only; omega)
    have hDnb : ∀ q ∈ nb, q.1 ≠ D := by
      intro q hq
      rw [hnb] at hq
      refine neN ?_
      rcases List.mem_cons.mp hq with rfl | hq
      · dsimp only; omega
      · rcases List.mem_append.mp hq with hq | hq
        · have := ltA (tl3 q hq); omega
        · rcases List.mem_cons.mp hq with rfl | hq
          · dsimp only; omega
          · rcases List.mem_cons.mp hq with rfl | hq
            · dsimp only; omega
            · rcases List.mem_cons.mp hq with rfl | hq
              · dsimp only; omega
              · have := ltA (lnD q hq); omega
    have k1 := up _ h1
    have k2 := up _ h2
    have k3 := up _ h3
    have k4 := up _ h4
    have q6 : PairsI nb ms n mcs := h6.mono fun q hq _ => up q hq
    have q7 : PairsI nb vy n ys := ⟨hpr.1.trans h8', fun j y hy => let ⟨T, t, v, e1, e2, e3⟩ := hpr.2 j y hy; ⟨T, t, v, e1, e2, mpr _ e3⟩⟩
    have hxn : OV w p n nb x cx := hxv.mono fun q hq _ => up q hq
    have hWn : WarmO nb := by obtain ⟨c', hc⟩ := hW; exact ⟨c', up _ hc⟩
    have hbr2 : AllBare s2.gens := Sm.bare hS2 hbr
    clear N3 F2 N2 kD lo3 hpr mpr h1 h2 h3 h4 h5 h6 h1' h2' h3' h4' h5' h6' tl3
    k_steps
    unfold HoldOn
    refine for_KF (by assumption) (by intro _; with_unfolding_all rfl) ?zo
    case zo =>
      k_steps
      unfold HoldOn
      rename Fr _ _ _ _ => F8
      rename News _ _ _ _ => N8
      refine' acc_enum (D := D) (nb := nb) (vs := b0) (k := 0) (J := fun i m₁ vs => m₁ (Str.ofString "b") = some (.ref D) ∧ m₁ (Str.ofString "inner_enumerate") = some (.ref D2) ∧ All2 IntV vs (omOut cx cy n (List.replicate (2 * n - 1) 0) i)) rfl F8 N8 k4 (Sq.tup _) hDnb ?zj0 ?zst ?zdn (fun v s' hq => hq)
      case zj0 => exact ⟨(if_neg (by decide)).trans (if_pos rfl), if_pos rfl, hB0⟩
      case zst =>
        rintro i T t v m₁ vs₁ k₁ big s₁ E' hv hT ⟨hb, hi, hA⟩ hnb1 hbD hS F9 N9
        obtain ⟨ci, hci, u1, rfl⟩ := h7.get hv
        clear F8 N8
        refine asg_pair rfl hT F9 N9 (by with_unfolding_all rfl) (by with_unfolding_all rfl) (by with_unfolding_all rfl) fun h' tk' F10 N10 => ?_
        have hb : (fun z => if z = Str.ofString "eli" then some (Value.int ci u1) else if z = Str.ofString "i" then some (Value.int (i : Int) t) else m₁ z) (Str.ofString "b") = some (.ref D) := (if_neg (by decide)).trans ((if_neg (by decide)).trans hb)
        have hi : (fun z => if z = Str.ofString "eli" then some (Value.int ci u1) else if z = Str.ofString "i" then some (Value.int (i : Int) t) else m₁ z) (Str.ofString "inner_enumerate") = some (.ref D2) := (if_neg (by decide)).trans ((if_neg (by decide)).trans hi)
        have mD2' := hnb1 _ mD2
        have hil : i < n := by
          cases Nat.lt_or_ge i vx.length with
          | inl h => omega
          | inr h => rw [List.getElem?_eq_none h] at hv; cases hv
        clear F9 N9
        k_steps
        unfold HoldOn
        refine for_KF (by assumption) (by intro _; with_unfolding_all rfl) ?zi
        case zi =>
          k_steps
          rename Fr _ _ _ _ => F11
          rename News _ _ _ _ => N11
          refine' acc_sq (D := D) (nb := big) (vs := vs₁) (k := k₁) (b := D2) (J := fun j m₂ vs => m₂ (Str.ofString "b") = some (.ref D) ∧ m₂ (Str.ofString "i") = some (.int (i : Int) t) ∧ m₂ (Str.ofString "eli") = some (.int ci u1) ∧ m₂ (Str.ofString "inner_enumerate") = some (.ref D2) ∧ All2 IntV vs (omIn ci cy i (omOut cx cy n (List.replicate (2 * n - 1) 0) i) j)) rfl F11 N11 mD2' (Sq.lo _ _) hbD ?yj0 ?yst ?ydn
          case yj0 => exact ⟨hb, (if_neg (by decide)).trans (if_pos rfl), if_pos rfl, hi, hA⟩
          case yst =>
            rintro j v m₂ vs₂ k₂ big₂ s₂ E'' hv2 ⟨hb2, hi2, he2, hn2, hA2⟩ hnb2 hbD2 hS2 F12 N12
            obtain ⟨T2, t2, v2, rfl, hv2, hT2⟩ := q7.2 j v hv2
            obtain ⟨cj, hcj, u2, rfl⟩ := h7'.get hv2
            have hjl : j < n := by
              cases Nat.lt_or_ge j vy.length with
              | inl h => omega
              | inr h => rw [List.getElem?_eq_none h] at hv2; cases hv2
            have hT2' : s₂.heap.IsTuple T2 #[.int (j : Int) t2, .int cj u2] := ⟨_, (N12 _ (List.mem_cons_of_mem _ (hnb2 _ (hnb1 _ hT2)))).1, rfl, _, rfl⟩
            refine asg_pair rfl hT2' F12 N12 (by with_unfolding_all rfl) (by with_unfolding_all rfl) (by with_unfolding_all rfl) fun h2' tk2' F13 N13 => ?_
            generalize hm3 : (fun z => if z = Str.ofString "elj" then some (Value.int cj u2) else if z = Str.ofString "j" then some (Value.int (j : Int) t2) else m₂ z) = m₃ at F13
            have hb3 : m₃ (Str.ofString "b") = some (.ref D) := by rw [← hm3]; exact (if_neg (by decide)).trans ((if_neg (by decide)).trans hb2)
            have hi3 : m₃ (Str.ofString "i") = some (.int (i : Int) t) := by rw [← hm3]; exact (if_neg (by decide)).trans ((if_neg (by decide)).trans hi2)
            have he3 : m₃ (Str.ofString "eli") = some (.int ci u1) := by rw [← hm3]; exact (if_neg (by decide)).trans ((if_neg (by decide)).trans he2)
            have hn3 : m₃ (Str.ofString "inner_enumerate") = some (.ref D2) := by rw [← hm3]; exact (if_neg (by decide)).trans ((if_neg (by decide)).trans hn2)
            have hj3 : m₃ (Str.ofString "j") = some (.int (j : Int) t2) := by rw [← hm3]; exact (if_neg (by decide)).trans (if_pos rfl)
            have hf3 : m₃ (Str.ofString "elj") = some (.int cj u2) := by rw [← hm3]; exact if_pos rfl
            clear F12 N12 hm3 F11 N11
            have hlen2 : vs₂.length = 2 * n - 1 := by rw [hA2.1, omIn_len, omOut_len, List.length_replicate]
            obtain ⟨vk, hvk, uk, rfl⟩ := hA2.got (i := i + j) (c := (omIn ci cy i (omOut cx cy n (List.replicate (2 * n - 1) 0) i) j).getD (i + j) 0) (getD_some (by rw [← hA2.1, hlen2]; omega))
            have e1 : ((i : Int) + (j : Int)).toNat = i + j := by omega
            rw [← e1] at hvk
            have hlt : ((i : Int) + (j : Int)).toNat < vs₂.length := by rw [hlen2, e1]; omega
            obtain ⟨r1, r2⟩ := hred.at hci
            have hM : IntMulOk ci cj := IntMulOk.of_left (intBits_le_64 (by omega) (by omega))
            k_steps
            dsimp only [IPost]
            rename Fr _ _ _ _ => kF
            rename News _ _ _ _ => kN
            refine ⟨_, _, _, _, kF, kN, fun q hq => hq, ⟨hb3, hi3, he3, hn3, ?_⟩, Sm.of⟩
            rw [e1]
            have eg : cy.getD j 0 = cj := getD_of hcj
            rw [omIn, eg]
            exact hA2.set _ ⟨_, rfl⟩
          case ydn =>
            rintro s' m' vs' k' ⟨hb', hi', he', hn', hA'⟩ hS' F' N'
            k_steps
            dsimp only [IPost]
            refine ⟨m', vs', k', _, F', N', fun q hq => hq, ⟨hb', hn', ?_⟩, hS'⟩
            rw [omOut, getD_of hci]
            rw [q7.1] at hA'
            exact hA'
      case zdn =>
        rintro s' m' vs' k' ⟨hb', hi', hA'⟩ hS' F' N'
        have hlen : vs'.length = 2 * n - 1 := by rw [hA'.1, omOut_len, List.length_replicate]
        k_steps
        unfold HoldOn
        refine for_KF (by assumption) (by intro _; with_unfolding_all rfl) ?zr
        case zr =>
          k_steps
          rename IsRange _ _ _ _ _ _ _ _ => hR
          rename Fr _ _ _ _ => F10
          rename News _ _ _ _ => N10
          refine' acc_rg (D := D) (nb := nb) (vs := vs') (k := k') (n := n - 1) (J := fun i m₁ vs => m₁ (Str.ofString "b") = some (.ref D) ∧ All2 IntV vs (omRed n (omOut cx cy n (List.replicate (2 * n - 1) 0) n) i)) rfl F10 N10 hR (rng_dn hn0 hz) hDnb ?xj0 ?xhx ?xhp ?xst ?xdn
          case xhx => with_unfolding_all rfl
          case xhp => with_unfolding_all rfl
          case xj0 => exact ⟨hb', by rw [h8] at hA'; exact hA'⟩
          case xst =>
            rintro e t m₁ vs₁ k₁ big s₁ E' he ⟨hb1, hA1⟩ hnb1 hbD hS1 F11 N11
            clear F10 N10 hR
            have hl1 : vs₁.length = (2 * n - 2 - e) + 1 := by rw [hA1.1, omRed_len, omOut_len, List.length_replicate]; omega
            obtain ⟨vt, hvt, ut, rfl⟩ := hA1.got (getLastD_at (b := omRed n (omOut cx cy n (List.replicate (2 * n - 1) 0) n) e) (k := 2 * n - 2 - e) (by rw [← hA1.1]; exact hl1))
            have hspl := last_split hl1 hvt
            generalize hc : (omRed n (omOut cx cy n (List.replicate (2 * n - 1) 0) n) e).getLastD 0 = tp at hspl hvt
            have k1' := hnb1 _ k1
            have k2' := hnb1 _ k2
            have k3' := hnb1 _ k3
            have c1' := hnb1 _ mc1
            have c2' := hnb1 _ mc2
            have hb1 : (fun z => if z = Str.ofString "exp" then some (Value.int ((n : Int) - 2 + (e : Int) * -1) t) else m₁ z) (Str.ofString "b") = some (.ref D) := (if_neg (by decide)).trans hb1
            k_steps
            unfold HoldOn
            refine for_KF (by assumption) (by intro _; with_unfolding_all rfl) ?zx
            case zx =>
              k_steps
              rename Fr _ _ _ _ => F12
              rename News _ _ _ _ => N12
              refine' acc_sq (D := D) (nb := big) (vs := vs₁.dropLast) (k := k₁ + 1) (b := lm) (J := fun i m₂ vs => m₂ (Str.ofString "b") = some (.ref D) ∧ m₂ (Str.ofString "exp") = some (.int ((n : Int) - 2 + (e : Int) * -1) t) ∧ m₂ (Str.ofString "top") = some (.int tp ut) ∧ All2 IntV vs (omRedIn tp (n - 2 - e) (omRed n (omOut cx cy n (List.replicate (2 * n - 1) 0) n) e).dropLast i)) rfl F12 N12 k3' (Sq.lo _ _) hbD ?wj0 ?wst ?wdn
              case wj0 => exact ⟨(if_neg (by decide)).trans hb1, (if_neg (by decide)).trans (if_pos rfl), if_pos rfl, hA1.dropLast⟩
              case wst =>
                rintro i v m₂ vs₂ k₂ big₂ s₂ E'' hv2 ⟨hb2, he2, ht2, hA2⟩ hnb2 hbD2 hS2 F13 N13
                obtain ⟨T2, t2, v2, rfl, hv2', hT2⟩ := q6.2 i v hv2
                obtain ⟨u2, rfl⟩ := hms.2 v2 (List.mem_of_getElem? hv2')
                have hil : i < n := by
                  cases Nat.lt_or_ge i ms.length with
                  | inl h => have := hms.1; omega
                  | inr h => rw [List.getElem?_eq_none h] at hv2'; cases hv2'
                have hT2' : s₂.heap.IsTuple T2 #[.int (i : Int) t2, .int 1 u2] := ⟨_, (N13 _ (List.mem_cons_of_mem _ (hnb2 _ (hnb1 _ hT2)))).1, rfl, _, rfl⟩
                refine asg_pair rfl hT2' F13 N13 (by with_unfolding_all rfl) (by with_unfolding_all rfl) (by with_unfolding_all rfl) fun h2' tk2' F14 N14 => ?_
                generalize hm3 : (fun z => if z = Str.ofString "c" then some (Value.int 1 u2) else if z = Str.ofString "i" then some (Value.int (i : Int) t2) else m₂ z) = m₃ at F14
                have hb3 : m₃ (Str.ofString "b") = some (.ref D) := by rw [← hm3]; exact (if_neg (by decide)).trans ((if_neg (by decide)).trans hb2)
                have he3 : m₃ (Str.ofString "exp") = some (.int ((n : Int) - 2 + (e : Int) * -1) t) := by rw [← hm3]; exact (if_neg (by decide)).trans ((if_neg (by decide)).trans he2)
                have ht3 : m₃ (Str.ofString "top") = some (.int tp ut) := by rw [← hm3]; exact (if_neg (by decide)).trans ((if_neg (by decide)).trans ht2)
                have hi3 : m₃ (Str.ofString "i") = some (.int (i : Int) t2) := by rw [← hm3]; exact (if_neg (by decide)).trans (if_pos rfl)
                have hc3 : m₃ (Str.ofString "c") = some (.int 1 u2) := by rw [← hm3]; exact if_pos rfl
                clear F13 N13 hm3 F12 N12
                have hlen2 : vs₂.length = 2 * n - 2 - e := by rw [hA2.1, omRedIn_len, List.length_dropLast, ← hA1.1, hl1]; omega
                obtain ⟨vk, hvk, uk, rfl⟩ := hA2.got (i := n - 2 - e + i) (c := (omRedIn tp (n - 2 - e) (omRed n (omOut cx cy n (List.replicate (2 * n - 1) 0) n) e).dropLast i).getD (n - 2 - e + i) 0) (getD_some (by rw [← hA2.1, hlen2]; omega))
                have e1 : ((n : Int) - 2 + (e : Int) * -1 + (i : Int)).toNat = n - 2 - e + i := by omega
                rw [← e1] at hvk
                have hlt : ((n : Int) - 2 + (e : Int) * -1 + (i : Int)).toNat < vs₂.length := by rw [hlen2, e1]; omega
                have hM : IntMulOk tp 1 := IntMulOk.of_right (by decide)
                k_steps
                dsimp only [IPost]
                rename Fr _ _ _ _ => kF
                rename News _ _ _ _ => kN
                refine ⟨_, _, _, _, kF, kN, fun q hq => hq, ⟨hb3, he3, ht3, ?_⟩, Sm.of⟩
                rw [e1]
                exact hA2.set _ ⟨_, rfl⟩
              case wdn =>
                rintro s4 m4 vs4 k4 ⟨hb4, he4, ht4, hA4⟩ hS4 F13 N13
                k_steps
                dsimp only [IPost]
                refine ⟨m4, vs4, k4, _, F13, N13, fun q hq => hq, ⟨hb4, ?_⟩, hS4⟩
                rw [q6.1] at hA4
                rw [omRed, hc]
                exact hA4
          case xdn =>
            rintro s3 m3 vs3 k3 ⟨hb3, hA3⟩ hS3 F11 N11
            have hl3 : vs3.length = n := by rw [hA3.1, omRed_len, omOut_len, List.length_replicate]; omega
            clear F10 N10 hR
            have k1' := k1
            have hbr4 : AllBare s'.gens := Sm.bare hS' hbr2
            have hbr3 : AllBare s3.gens := Sm.bare hS3 hbr4
            k_steps
            unfold HoldOn
            refine comp_KF (by assumption) (by with_unfolding_all rfl) (by decide) rfl (by decide) (by intro _; with_unfolding_all rfl) ?zc
            case zc =>
              k_steps
              rename Fr _ _ _ _ => F12
              rename News _ _ _ _ => N12
              refine' cs_sq (J := IJ ((omRed n (omOut cx cy n (List.replicate (2 * n - 1) 0) n) (n - 1)).map (· % p))) rfl F12 N12 (b := D) (ob := lo vs3 k3) (vs := vs3) List.mem_cons_self (Sq.lo _ _) ?zz ?zx ?zkk ?zjl ?zj0 ?zst ?zR
              case zz => omega
              case zx => with_unfolding_all rfl
              case zkk => rfl
              case zjl => exact fun i ys tl h => Nat.le_of_eq h.2.1
              case zj0 => exact IJ.zero
              case zst =>
                intro ha5 i v ys5 tl5 C oC m5 h tk led E' hv hJ hoC mx hC hl F6 N6
                obtain ⟨c, hc, cu, rfl⟩ := hA3.get hv
                have up5 : ∀ q ∈ nb, q ∈ led := fun q hq => hl q (List.mem_append_right _ (List.mem_cons_of_mem _ hq))
                have c1 := up5 _ mc1
                have c2 := up5 _ mc2
                have k1 := up5 _ k1
                have k2 := up5 _ k2
                have hcc : ((omRed n (omOut cx cy n (List.replicate (2 * n - 1) 0) n) (n - 1)).map (· % p))[i]? = some (c.fmod p) := by rw [List.getElem?_map, hc, fm1 hp]; rfl
                clear hl up5 N12 F12
                k_steps
                exact hJ.step hcc (by assumption) (by assumption)
              case zR =>
                intro ha5 ys5 D5 h5 tk5 tl5 hJ F6 N6 o1 o2 o3
                obtain ⟨rfl, hl5, hcs⟩ := hJ.done (by rw [List.length_map, ← hA3.1])
                rw [hl3] at hl5
                simp only [List.nil_append] at N6
                have N7 : News _ _ h5 ((D5, lo ys5 ys5.length) :: (D, lo vs3 k3) :: nb) := N6
                clear N6
                k_steps
                rename OV _ _ _ _ _ _ => hvF
                rename News _ _ _ _ => kN
                rename Sm _ _ => hSF
                rename (∀ p ∈ _, ∀ q ∈ _, _ < _) => loF
                have e : (D5, lo ys5 ys5.length) :: (D, lo vs3 k3) :: nb = ((D5, lo ys5 ys5.length) :: (D, lo vs3 k3) :: ((D2, lo ys kk) :: (tl ++ [(l0, o0), (L1 + 1 + 1, oo), (L1 + 1, os)]))) ++ news := by rw [hown]; rfl
                rw [e] at kN hvF loF
                refine ORet.at ret ?_ ((Sm.trans (Sm.trans hS2 hS') hS3).trans hSF) (by assumption) kN loF hvF
                intro q hq r hr
                rcases List.mem_cons.mp hq with rfl | hq
                · exact o3 r (List.mem_cons_of_mem _ (up r hr))
                · rcases List.mem_cons.mp hq with rfl | hq
                  · exact lnD r hr
                  · exact oown q hq r hr
end
theorem OV.inst {w : World} {p : Int} {n : Nat} {led : List (Addr × Obj)} {x : Addr} {cs : List Int} (h : OV w p n led x cs) : ∃ d lm t mt t1 t2 t3 t4 t5 t6 t7, (x, instObj 422 d) ∈ led ∧ (d, foD w p n lm t mt t1 t2 t3 t4 t5 t6 t7) ∈ led :=
  let ⟨d, lm, t, mt, _, _, _, _, t1, t2, t3, t4, t5, t6, t7, h1, h2, _⟩ := h; ⟨d, lm, t, mt, t1, t2, t3, t4, t5, t6, t7, h1, h2⟩
local macro_rules | `(tactic| walk_at "call ref") => `(tactic| (k_here; (with_reducible show wpAny _ _ (call (Value.ref 342) _) _ _ _); first
  | (k_dflt (
  refine' omul ?zC ?zF ?zN ?zb ?zW ?zhx ?zhy ?zhz ?zn0 ?zrd ?zp6 ?zdp ?zp ?_; (case zC => exact Cx.mk (by k_asm) (by k_asm) (by k_asm) (by first | exact rfl | assumption) (by first | exact rfl | assumption)); (case zF => k_asm); (case zN => k_asm); (case zb => assumption); (case zW => walk_at "zwo"); (case zhx => walk_at "zox"); (case zhy => walk_at "zox");
    (case zhz => assumption); (case zn0 => assumption); (case zrd => assumption); (case zp6 => assumption); (case zdp => k_room); (case zp => assumption); k_whole); intro x' ex' s' hSm' F' N' lo' hv'; (have hbr' := Sm.bare hSm' (by assumption)); (obtain ⟨iD', iL', iT', iM', i1', i2', i3', i4', i5', i6', i7', iA', iB'⟩ := OV.inst hv'); (try dsimp only [PySem.W.CmpBack]); (try k_sweep))
  | refine hold_on ?_))
theorem fresh34 : True := by
  w_top off
  trivial
/-- powers by the optimized loop; f: fuel -/
def opw (p : Int) (n : Nat) : Nat → Nat → List Int → List Int → List Int
  | 0, _, o, _ => o
  | f + 1, k, o, t => if k = 0 then o else opw p n f (k / 2) (if k % 2 = 1 then om p n o t else o) (om p n t t)
theorem ov_in {w : World} {h₀ h : Heap} {L : Addr} {news own ex : List (Addr × Obj)} {p : Int} {n : Nat} {cs : List Int} {x : Addr} (N : News h₀ L h (Apd ex (own ++ news))) (lo : ∀ p ∈ ex, ∀ q ∈ own ++ news, q.1 < p.1) (hv : OV w p n (Apd ex (own ++ news)) x cs) (ho : ∀ q ∈ own, ∀ r ∈ news, r.1 < q.1) :
    ∃ exs, News h₀ L h (Apd exs news) ∧ (∀ p ∈ exs, ∀ q ∈ news, q.1 < p.1) ∧ OV w p n (Apd exs news) x cs := by
  unfold Apd at N hv
  rw [← List.append_assoc] at N hv
  refine ⟨ex ++ own, N, fun q hq r hr => ?_, hv⟩
  rcases List.mem_append.mp hq with hq | hq
  · exact lo q hq r (List.mem_append_right _ hr)
  · exact ho q hq r hr
theorem ldName {M : Model} {A : Around} {E : Value → Shared → Prop} {s : Shared} {h₀ : Heap} {m : Str → Option Value} {env : Env} {x : Str} {v : Value} {Q : Value → Shared → Prop} (F : Fr h₀ env.locals s.heap m) (hv : m x = some v) (h : Q v s) (hk : env.scope.kind = .function := by rfl) (hx : env.kindOf x = some .local := by rfl) :
    wpAny M A (loadName env x) Q E s := wpAny_loadName_local hk hx F.ns hv h
theorem apd1 {a b news : List (Addr × Obj)} : Apd a (Apd b news) = Apd (a ++ b) news := by simp [Apd]
theorem apd2 {a b c news : List (Addr × Obj)} : Apd a (Apd b (Apd c news)) = Apd (a ++ (b ++ c)) news := by simp [Apd]
local macro_rules | `(tactic| walk_at "zlk") => `(tactic| first | with_reducible assumption | with_reducible exact if_pos rfl | (with_reducible refine (if_neg (by decide)).trans ?_; walk_at "zlk"))
local macro_rules | `(tactic| walk_at "loadName") => `(tactic| (k_here; k_dflt (refine' ldName ?F ?v ?_ ?a ?b; (case F => k_asm); (case a => rfl); (case b => rfl); (case v => first | with_reducible assumption | ((try dsimp only); walk_at "zlk")); k_whole)))
local macro_rules | `(tactic| walk_at "eval Name") => `(tactic| (k_here; k_dflt (refine' nameX_L ?F ?v ?_ ?a ?b; (case F => k_asm); (case a => rfl); (case b => rfl); (case v => first | with_reducible assumption | ((try dsimp only); walk_at "zlk")); k_whole)))
local macro_rules | `(tactic| walk_at "eval Name") => `(tactic| (k_here; (with_reducible show wpAny _ _ (eval (Expr.Name _ _) (genEnv _ _ _ _ _ _)) _ _ _); first
  | (refine' gn_L ?F ?hv ?_ ?hk ?hx ?hd; (case F => assumption); (case hx => with_unfolding_all rfl); (case hv => first | exact if_pos rfl | assumption); (case hk => rfl); (case hd => decide); skip)
  | (refine' gn_F ?N ?hc ?hm ?hd ?_ ?hk ?hx ?hb ?hn; (case N => assumption); (case hx => with_unfolding_all rfl); (case hc => with_unfolding_all rfl); (case hm => k_mem); (case hd => with_reducible assumption); (case hk => rfl); (case hb => decide); (case hn => decide))))
theorem fresh35 : True := by
  w_top off
  trivial
section
variable {w : World} {A₀ : Around} {dp un : Nat} {gd : Option (List Code)} {env : Env} {outer : List Env} {base h₀ : Heap} {L : Addr} {m : Str → Option Value} {news : List (Addr × Obj)} {s : Shared} {pr : Program} {loose : List Str} {mean : ExcName → Option Value} {mg mb : Str → Option Value}
  {p a : Int} {Q E : Value → Shared → Prop} {b d : Addr} {ob od : Obj} {vs ms : List Value} {cs : List Int}
theorem opow {x : Addr} {cx : List Int} {n k f : Nat} {tk0 : Tok} (C : Cx w A₀ env outer base h₀ L pr loose mean mg mb) (F : Fr h₀ L s.heap m) (N : News h₀ L s.heap news) (hbr : AllBare s.gens) (hW : WarmO news)
    (hx : OV w p n news x cx) (hz : n ≤ 100) (hn0 : 0 < n) (hred : Red p cx) (hp60 : p < 2 ^ 60) (hkf : k < f) (hk60 : k < 2 ^ 20)
    (hdp : dp + 100 < recursionLimit) (hp : 0 < p) (ret : ORet w h₀ L m news p n (opw p n f k ((1 :: List.replicate (n - 1) 0).map (· % p)) cx) s Q) :
    wpAny (model PySem.Challenge.rw_bw0042_01.row.prog w) (ar dp un gd env outer) (call (.ref 361) [.ref x, .int (k : Int) tk0]) Q E s := by
  have hxv := hx
  have hp0 : p ≠ 0 := by omega
  obtain ⟨B, X, T, hf, hk⟩ := C
  obtain ⟨dx, lm, t, mt, vx, ms, mcs, k0, t1, t2, t3, t4, t5, t6, t7, h1, h2, h3, h4, h5, h6, h7, hms, h8⟩ := hx
  simp only [InL] at h1 h2 h3 h4 h5
  revert X; k_fill; intro X
  k_steps
  unfold HoldOn
  rename IntsAre _ (_ ++ _) => hI
  rename (_ ∧ _ ∧ _) => hlt
  have e : ([1] ++ (List.replicate ((n : Int) - 1).toNat [0]).flatten : List Int) = 1 :: List.replicate (n - 1) 0 := by
    rw [show ((n : Int) - 1).toNat = n - 1 by omega, List.flatten_replicate_singleton]; rfl
  rw [e] at hI
  have hcs := ints_iv hI
  have hl : _ = n := hcs.1.trans (by simp; omega)
  k_steps
  unfold HoldOn
  rename OV _ _ _ (Apd _ _) _ _ => hvo
  rename Fr _ _ _ _ => F5
  rename News _ _ _ _ => N5
  rename Sm _ _ => hS1
  rename (∀ p ∈ _, ∀ q ∈ _, _ < _) => lo1
  rename AllBare _ => hbr1
  obtain ⟨exs, N6, lo6, hv6⟩ := ov_in (own := [_, _, _, _]) N5 lo1 hvo (by walk_at "zho")
  rename_i g1 L1 hh1 FG1 B1 X1 T1 _ _ _ _ _ _ _ _ _ _ _ _ _ _ _ _ _ _ _ xo _ s1 _ h1a
  clear lo1 hvo N5 hI hcs hl e hlt
  have hrd0 : Red p ((1 :: List.replicate (n - 1) 0).map (· % p)) := red_map hp _
  refine while_K (I := fun fuel s₅ => ∃ m₅ o t co ct tk f' exs, Fr g1 L1 s₅.heap m₅ ∧ News g1 L1 s₅.heap (Apd exs news) ∧ (∀ p ∈ exs, ∀ q ∈ news, q.1 < p.1) ∧ m₅ (Str.ofString "o") = some (.ref o) ∧ m₅ (Str.ofString "t") = some (.ref t) ∧ m₅ (Str.ofString "other") = some (.int (fuel : Int) tk) ∧
    OV w p n (Apd exs news) o co ∧ OV w p n (Apd exs news) t ct ∧ Red p co ∧ Red p ct ∧ fuel < f' ∧ fuel < 2 ^ 20 ∧ opw p n f' fuel co ct = opw p n f k ((1 :: List.replicate (n - 1) 0).map (· % p)) cx ∧ Sm s s₅) ?zturn k
    ⟨_, xo, x, _, cx, tk0, f, exs, F5, N6, lo6, (if_neg (by decide)).trans (if_pos rfl), if_pos rfl, rfl, hv6, hxv.app, hrd0, hred, hkf, hk60, rfl, hS1⟩
  case zturn =>
    rintro fuel s₅ E' ⟨m₅, o, t, co, ct, tk, f', exs5, F7, N7, lo7, ho5, ht5, hk5, hvo, hvt, hro, hrt, hf5, h20, he5, hS5⟩
    clear F5 N6 lo6 hv6
    have hbr5 : AllBare s₅.gens := Sm.bare hS5 hbr
    cases fuel with
    | zero =>
      have eR : co = opw p n f k ((1 :: List.replicate (n - 1) 0).map (· % p)) cx := by
        rw [← he5]
        obtain ⟨f'', rfl⟩ : ∃ f'', f' = f'' + 1 := ⟨f' - 1, by omega⟩
        rw [opw, if_pos rfl]
      rw [eR] at hvo
      k_steps
      exact ret o exs5 _ (Sm.upd hS5) (by assumption) (by assumption) lo7 hvo
    | succ fuel =>
      obtain ⟨f'', rfl⟩ : ∃ f'', f' = f'' + 1 := ⟨f' - 1, by omega⟩
      rw [opw, if_neg (by omega)] at he5
      obtain ⟨iD1, iL1, iT1, iM1, i11, i12, i13, i14, i15, i16, i17, iA1, iB1⟩ := OV.inst hvo
      obtain ⟨iD2, iL2, iT2, iM2, i21, i22, i23, i24, i25, i26, i27, iA2, iB2⟩ := OV.inst hvt
      have e3 : ((fuel + 1 : Nat) : Int).fdiv (2 ^ (1 : Int).toNat) = (((fuel + 1) / 2 : Nat) : Int) := by
        show Int.fdiv _ 2 = _
        rw [Int.fdiv_eq_ediv_of_nonneg _ (by omega)]; omega
      have e4 : Builtin.bitAnd ((fuel + 1 : Nat) : Int) 1 = ((fuel + 1 : Nat) : Int) % 2 := bitAnd_m1 _
      k_steps
      · rename (_ ≠ 0) => hbit
        rw [e4] at hbit
        rename Fr _ _ _ _ => kF
        rename News _ _ _ _ => kN
        rename OV _ _ _ _ _ (om p n ct ct) => hvt2
        rename OV _ _ _ _ _ (om p n co ct) => hvo2
        rename Sm _ _ => hSb
        rename Sm { heap := s₅.heap, gens := s₅.gens, drawn := s₅.drawn, toks := _, os := s₅.os } _ => hSa
        rename (∀ p ∈ _, ∀ q ∈ Apd exs5 news, _ < _) => loa
        rename (∀ p ∈ _, ∀ q ∈ Apd _ (Apd exs5 news), _ < _) => lob
        rw [if_pos (by omega)] at he5
        rw [apd2] at kN hvt2
        dsimp only
        refine ⟨(fuel + 1) / 2, by omega, _, _, _, om p n co ct, om p n ct ct, _, f'', _, kF, kN, ?_, (if_neg (by decide)).trans ((if_neg (by decide)).trans (if_pos rfl)), if_pos rfl, (if_neg (by decide)).trans ((if_pos rfl).trans (congrArg (fun z => some (Value.int z _)) e3)), (by rw [← apd2]; exact hvo2.app), hvt2, red_om hp, red_om hp, by omega, by omega, he5, (hS5.trans hSa).trans hSb⟩
        intro q hq r hr
        rcases List.mem_append.mp hq with hq | hq
        · exact lob q hq r (mem_apd (mem_apd hr))
        · rcases List.mem_append.mp hq with hq | hq
          · exact loa q hq r (mem_apd hr)
          · exact lo7 q hq r hr
      · rename Builtin.bitAnd _ _ = 0 => hbit
        rw [e4] at hbit
        rename Fr _ _ _ _ => kF
        rename News _ _ _ _ => kN
        rename OV _ _ _ _ _ (om p n ct ct) => hvt2
        rename Sm _ _ => hSb
        rename (∀ p ∈ _, ∀ q ∈ Apd exs5 news, _ < _) => loa
        rw [if_neg (by omega)] at he5
        rw [apd1] at kN hvt2
        dsimp only
        refine ⟨(fuel + 1) / 2, by omega, _, _, _, co, om p n ct ct, _, f'', _, kF, kN, ?_, (if_neg (by decide)).trans ((if_neg (by decide)).trans ho5), if_pos rfl, (if_neg (by decide)).trans ((if_pos rfl).trans (congrArg (fun z => some (Value.int z _)) e3)), (by rw [← apd1]; exact hvo.app), hvt2, hro, red_om hp, by omega, by omega, he5, hS5.trans hSb⟩
        intro q hq r hr
        rcases List.mem_append.mp hq with hq | hq
        · exact loa q hq r (mem_apd hr)
        · exact lo7 q hq r hr
end
local macro_rules | `(tactic| walk_at "zzfresh") => `(tactic| skip)
theorem fresh36 : True := by
  w_top off
  trivial
/-- an FQP of either kind -/
def GV (kd : Bool) (w : World) (p : Int) (n : Nat) (led : List (Addr × Obj)) (x : Addr) (cs : List Int) : Prop := if kd = true then OV w p n led x cs else PV w p n led x cs
def WarmG (kd : Bool) (news : List (Addr × Obj)) : Prop := if kd = true then WarmO news else Warm news
theorem GV.mono {kd : Bool} {w : World} {p : Int} {n : Nat} {led led' : List (Addr × Obj)} (k : ∀ q ∈ led, Nf q.2 → q ∈ led') {x : Addr} {cs : List Int} (h : GV kd w p n led x cs) : GV kd w p n led' x cs := by
  cases kd
  · exact PV.mono k h
  · exact OV.mono k h
theorem GV.app {kd : Bool} {w : World} {p : Int} {n : Nat} {news ex : List (Addr × Obj)} {x : Addr} {cs : List Int} (h : GV kd w p n news x cs) : GV kd w p n (Apd ex news) x cs := h.mono fun _ hr _ => List.mem_append_right _ hr
theorem WarmG.mono {kd : Bool} {led led' : List (Addr × Obj)} (k : ∀ q ∈ led, q ∈ led') (h : WarmG kd led) : WarmG kd led' := by
  cases kd
  · exact let ⟨c, hc⟩ := h; ⟨c, k _ hc⟩
  · exact let ⟨c, hc⟩ := h; ⟨c, k _ hc⟩
theorem WarmG.app {kd : Bool} {news ex : List (Addr × Obj)} (h : WarmG kd news) : WarmG kd (Apd ex news) := h.mono fun _ hr => List.mem_append_right _ hr
def gm (kd : Bool) (p : Int) (n : Nat) (cx cy : List Int) : List Int := if kd = true then om p n cx cy else pm p n cx cy
def ga (kd : Bool) (p : Int) (cx cy : List Int) : List Int := if kd = true then (List.zipWith (fun a b => (a + b) % p) cx cy).map (· % p) else List.zipWith (fun a b => (a + b) % p) cx cy
def gs (kd : Bool) (p : Int) (cx cy : List Int) : List Int := if kd = true then (List.zipWith (fun a b => (a - b) % p) cx cy).map (· % p) else List.zipWith (fun a b => (a - b) % p) cx cy
def gone (p : Int) (n : Nat) : List Int := (1 :: List.replicate (n - 1) 0).map (· % p)
def gzero (p : Int) (n : Nat) : List Int := (List.replicate n 0).map (· % p)
def gp (kd : Bool) (p : Int) (n k : Nat) (cx : List Int) : List Int := if kd = true then opw p n (k + 1) k (gone p n) cx else ppw p n (k + 1) k cx
abbrev GRet (kd : Bool) (w : World) (h₀ : Heap) (L : Addr) (m : Str → Option Value) (news : List (Addr × Obj)) (p : Int) (n : Nat) (cs : List Int) (s : Shared) (Q : Value → Shared → Prop) : Prop :=
  ∀ x ex s', Sm s s' → Fr h₀ L s'.heap m → News h₀ L s'.heap (Apd ex news) → (∀ p ∈ ex, ∀ q ∈ news, q.1 < p.1) → GV kd w p n (Apd ex news) x cs → Q (.ref x) s'
local macro_rules | `(tactic| walk_at "zzfresh") => `(tactic| skip)
theorem fresh37 : True := by
  w_top off
  trivial
section
variable {w : World} {A₀ : Around} {dp un : Nat} {gd : Option (List Code)} {env : Env} {outer : List Env} {base h₀ : Heap} {L : Addr} {m : Str → Option Value} {news : List (Addr × Obj)} {s : Shared} {pr : Program} {loose : List Str} {mean : ExcName → Option Value} {mg mb : Str → Option Value}
  {p a : Int} {Q E : Value → Shared → Prop} {b d : Addr} {ob od : Obj} {vs ms : List Value} {cs : List Int} {kd : Bool}
theorem gmul {x y : Addr} {cx cy : List Int} {n : Nat} (C : Cx w A₀ env outer base h₀ L pr loose mean mg mb) (F : Fr h₀ L s.heap m) (N : News h₀ L s.heap news) (hbr : AllBare s.gens) (hW : WarmG kd news)
    (hx : GV kd w p n news x cx) (hy : GV kd w p n news y cy) (hz : n ≤ 100) (hn0 : 0 < n) (hred : Red p cx) (hp60 : p < 2 ^ 60)
    (hdp : dp + 80 < recursionLimit) (hp : 0 < p) (ret : GRet kd w h₀ L m news p n (gm kd p n cx cy) s Q) :
    wpAny (model PySem.Challenge.rw_bw0042_01.row.prog w) (ar dp un gd env outer) (binaryOp .Mult (.ref x) (.ref y)) Q E s := by
  obtain ⟨B, X, T, hf, hk⟩ := C
  revert X; k_fill; intro X
  cases kd
  · have hx : PV w p n news x cx := hx
    have hy : PV w p n news y cy := hy
    have hW : Warm news := hW
    obtain ⟨iD1, iT1, iM1, i11, i12, i13, i14, i15, i16, iA1, iB1⟩ := PV.inst hx
    obtain ⟨iD2, iT2, iM2, i21, i22, i23, i24, i25, i26, iA2, iB2⟩ := PV.inst hy
    k_steps
    rename Sm _ _ => hS
    exact ret _ _ _ hS (by assumption) (by assumption) (by assumption) (by assumption)
  · have hx : OV w p n news x cx := hx
    have hy : OV w p n news y cy := hy
    have hW : WarmO news := hW
    obtain ⟨iD1, iL1, iT1, iM1, i11, i12, i13, i14, i15, i16, i17, iA1, iB1⟩ := OV.inst hx
    obtain ⟨iD2, iL2, iT2, iM2, i21, i22, i23, i24, i25, i26, i27, iA2, iB2⟩ := OV.inst hy
    k_steps
    rename Sm _ _ => hS
    exact ret _ _ _ hS (by assumption) (by assumption) (by assumption) (by assumption)
end
local macro_rules | `(tactic| walk_at "call ref") => `(tactic| (k_here; (with_reducible show wpAny _ _ (call (Value.ref 220) _) _ _ _); refine hold_on ?_))
local macro_rules | `(tactic| walk_at "call ref") => `(tactic| (k_here; (with_reducible show wpAny _ _ (call (Value.ref 225) _) _ _ _); refine hold_on ?_))
local macro_rules | `(tactic| walk_at "call ref") => `(tactic| (k_here; (with_reducible show wpAny _ _ (call (Value.ref 249) _) _ _ _); refine hold_on ?_))
local macro_rules | `(tactic| walk_at "call ref") => `(tactic| (k_here; (with_reducible show wpAny _ _ (call (Value.ref 268) _) _ _ _); refine hold_on ?_))
local macro_rules | `(tactic| walk_at "call ref") => `(tactic| (k_here; (with_reducible show wpAny _ _ (call (Value.ref 287) _) _ _ _); refine hold_on ?_))
local macro_rules | `(tactic| walk_at "call ref") => `(tactic| (k_here; (with_reducible show wpAny _ _ (call (Value.ref 294) _) _ _ _); refine hold_on ?_))
local macro_rules | `(tactic| walk_at "call ref") => `(tactic| (k_here; (with_reducible show wpAny _ _ (call (Value.ref 325) _) _ _ _); refine hold_on ?_))
local macro_rules | `(tactic| walk_at "call ref") => `(tactic| (k_here; (with_reducible show wpAny _ _ (call (Value.ref 330) _) _ _ _); refine hold_on ?_))
local macro_rules | `(tactic| walk_at "call ref") => `(tactic| (k_here; (with_reducible show wpAny _ _ (call (Value.ref 361) _) _ _ _); refine hold_on ?_))
local macro_rules | `(tactic| walk_at "call ref") => `(tactic| (k_here; (with_reducible show wpAny _ _ (call (Value.ref 385) _) _ _ _); refine hold_on ?_))
local macro_rules | `(tactic| walk_at "call ref") => `(tactic| (k_here; (with_reducible show wpAny _ _ (call (Value.ref 412) _) _ _ _); refine hold_on ?_))
local macro_rules | `(tactic| walk_at "call ref") => `(tactic| (k_here; (with_reducible show wpAny _ _ (call (Value.ref 419) _) _ _ _); refine hold_on ?_))
theorem fresh38 : True := by
  w_top off
  trivial
section
variable {w : World} {A₀ : Around} {dp un : Nat} {gd : Option (List Code)} {env : Env} {outer : List Env} {base h₀ : Heap} {L : Addr} {m : Str → Option Value} {news : List (Addr × Obj)} {s : Shared} {pr : Program} {loose : List Str} {mean : ExcName → Option Value} {mg mb : Str → Option Value}
  {p a : Int} {Q E : Value → Shared → Prop} {b d : Addr} {ob od : Obj} {vs ms : List Value} {cs : List Int} {kd : Bool}
theorem gadd {x y : Addr} {cx cy : List Int} {n : Nat} (C : Cx w A₀ env outer base h₀ L pr loose mean mg mb) (F : Fr h₀ L s.heap m) (N : News h₀ L s.heap news) (hbr : AllBare s.gens) (hW : WarmG kd news)
    (hx : GV kd w p n news x cx) (hy : GV kd w p n news y cy) (hz : n ≤ 100) (hn0 : 0 < n)
    (hdp : dp + 80 < recursionLimit) (hp : 0 < p) (ret : GRet kd w h₀ L m news p n (ga kd p cx cy) s Q) :
    wpAny (model PySem.Challenge.rw_bw0042_01.row.prog w) (ar dp un gd env outer) (binaryOp .Add (.ref x) (.ref y)) Q E s := by
  obtain ⟨B, X, T, hf, hk⟩ := C
  revert X; k_fill; intro X
  cases kd
  · have hx : PV w p n news x cx := hx
    have hy : PV w p n news y cy := hy
    have hW : Warm news := hW
    obtain ⟨iD1, iT1, iM1, i11, i12, i13, i14, i15, i16, iA1, iB1⟩ := PV.inst hx
    obtain ⟨iD2, iT2, iM2, i21, i22, i23, i24, i25, i26, iA2, iB2⟩ := PV.inst hy
    k_steps
    unfold HoldOn
    exact padd (Cx.mk B X T hf hk) F N hbr hW hx hy hz (by omega) hp ret
  · have hx : OV w p n news x cx := hx
    have hy : OV w p n news y cy := hy
    have hW : WarmO news := hW
    obtain ⟨iD1, iL1, iT1, iM1, i11, i12, i13, i14, i15, i16, i17, iA1, iB1⟩ := OV.inst hx
    obtain ⟨iD2, iL2, iT2, iM2, i21, i22, i23, i24, i25, i26, i27, iA2, iB2⟩ := OV.inst hy
    k_steps
    unfold HoldOn
    exact oadd (Cx.mk B X T hf hk) F N hbr hW hx hy hz hn0 (by omega) hp ret
theorem gsub {x y : Addr} {cx cy : List Int} {n : Nat} (C : Cx w A₀ env outer base h₀ L pr loose mean mg mb) (F : Fr h₀ L s.heap m) (N : News h₀ L s.heap news) (hbr : AllBare s.gens) (hW : WarmG kd news)
    (hx : GV kd w p n news x cx) (hy : GV kd w p n news y cy) (hz : n ≤ 100) (hn0 : 0 < n)
    (hdp : dp + 80 < recursionLimit) (hp : 0 < p) (ret : GRet kd w h₀ L m news p n (gs kd p cx cy) s Q) :
    wpAny (model PySem.Challenge.rw_bw0042_01.row.prog w) (ar dp un gd env outer) (binaryOp .Sub (.ref x) (.ref y)) Q E s := by
  obtain ⟨B, X, T, hf, hk⟩ := C
  revert X; k_fill; intro X
  cases kd
  · have hx : PV w p n news x cx := hx
    have hy : PV w p n news y cy := hy
    have hW : Warm news := hW
    obtain ⟨iD1, iT1, iM1, i11, i12, i13, i14, i15, i16, iA1, iB1⟩ := PV.inst hx
    obtain ⟨iD2, iT2, iM2, i21, i22, i23, i24, i25, i26, iA2, iB2⟩ := PV.inst hy
    k_steps
    unfold HoldOn
    exact psub (Cx.mk B X T hf hk) F N hbr hW hx hy hz (by omega) hp ret
  · have hx : OV w p n news x cx := hx
    have hy : OV w p n news y cy := hy
    have hW : WarmO news := hW
    obtain ⟨iD1, iL1, iT1, iM1, i11, i12, i13, i14, i15, i16, i17, iA1, iB1⟩ := OV.inst hx
    obtain ⟨iD2, iL2, iT2, iM2, i21, i22, i23, i24, i25, i26, i27, iA2, iB2⟩ := OV.inst hy
    k_steps
    unfold HoldOn
    exact osub (Cx.mk B X T hf hk) F N hbr hW hx hy hz hn0 (by omega) hp ret
theorem gpow {x : Addr} {cx : List Int} {n k : Nat} {tk0 : Tok} (C : Cx w A₀ env outer base h₀ L pr loose mean mg mb) (F : Fr h₀ L s.heap m) (N : News h₀ L s.heap news) (hbr : AllBare s.gens) (hW : WarmG kd news)
    (hx : GV kd w p n news x cx) (hz : n ≤ 100) (hn0 : 0 < n) (hred : Red p cx) (hp60 : p < 2 ^ 60) (hk30 : k ≤ 30)
    (hdp : dp + 400 < recursionLimit) (hp : 0 < p) (ret : GRet kd w h₀ L m news p n (gp kd p n k cx) s Q) :
    wpAny (model PySem.Challenge.rw_bw0042_01.row.prog w) (ar dp un gd env outer) (binaryOp .Pow (.ref x) (.int (k : Int) tk0)) Q E s := by
  obtain ⟨B, X, T, hf, hk⟩ := C
  revert X; k_fill; intro X
  cases kd
  · have hx : PV w p n news x cx := hx
    have hW : Warm news := hW
    obtain ⟨iD1, iT1, iM1, i11, i12, i13, i14, i15, i16, iA1, iB1⟩ := PV.inst hx
    k_steps
    unfold HoldOn
    exact ppow hp hp60 hz hn0 (k + 1) k (Nat.lt_succ_self k) (Cx.mk B X T hf hk) F N hbr hW hx hred (by omega) ret
  · have hx : OV w p n news x cx := hx
    have hW : WarmO news := hW
    obtain ⟨iD1, iL1, iT1, iM1, i11, i12, i13, i14, i15, i16, i17, iA1, iB1⟩ := OV.inst hx
    k_steps
    unfold HoldOn
    exact opow (Cx.mk B X T hf hk) F N hbr hW hx hz hn0 hred hp60 (Nat.lt_succ_self k) (by omega) (by omega) hp ret
theorem geq {x y : Addr} {cx cy : List Int} {n : Nat} (C : Cx w A₀ env outer base h₀ L pr loose mean mg mb) (F : Fr h₀ L s.heap m) (N : News h₀ L s.heap news)
    (hx : GV kd w p n news x cx) (hy : GV kd w p n news y cy) (hz : n ≤ 100)
    (hdp : dp + 80 < recursionLimit) (hun : un + 400 < cLine) (ret : ∀ s', Sm s s' → Fr h₀ L s'.heap m → News h₀ L s'.heap news → Q (.bool (cx == cy)) s') :
    wpAny (model PySem.Challenge.rw_bw0042_01.row.prog w) (ar dp un gd env outer) (compareOp .Eq (.ref x) (.ref y)) Q E s := by
  obtain ⟨B, X, T, hf, hk⟩ := C
  revert X; k_fill; intro X
  cases kd
  · have hx : PV w p n news x cx := hx
    have hy : PV w p n news y cy := hy
    obtain ⟨iD1, iT1, iM1, i11, i12, i13, i14, i15, i16, iA1, iB1⟩ := PV.inst hx
    obtain ⟨iD2, iT2, iM2, i21, i22, i23, i24, i25, i26, iA2, iB2⟩ := PV.inst hy
    k_steps
    unfold HoldOn
    exact peq (Cx.mk B X T hf hk) F N hx hy hz (by omega) (by omega) ret
  · have hx : OV w p n news x cx := hx
    have hy : OV w p n news y cy := hy
    obtain ⟨iD1, iL1, iT1, iM1, i11, i12, i13, i14, i15, i16, i17, iA1, iB1⟩ := OV.inst hx
    obtain ⟨iD2, iL2, iT2, iM2, i21, i22, i23, i24, i25, i26, i27, iA2, iB2⟩ := OV.inst hy
    k_steps
    unfold HoldOn
    exact oeq (Cx.mk B X T hf hk) F N hx hy hz (by omega) (by omega) ret
theorem gcone {x : Addr} {cx : List Int} {n : Nat} {pl : Sem Bool} {pos : Pos} (C : Cx w A₀ env outer base h₀ L pr loose mean mg mb) (F : Fr h₀ L s.heap m) (N : News h₀ L s.heap news) (hbr : AllBare s.gens) (hW : WarmG kd news)
    (hx : GV kd w p n news x cx) (hz : n ≤ 100) (hn0 : 0 < n)
    (hdp : dp + 80 < recursionLimit) (hp : 0 < p) (ret : GRet kd w h₀ L m news p n (gone p n) s Q) :
    wpAny (model PySem.Challenge.rw_bw0042_01.row.prog w) (ar dp un gd env outer) (getMethod (.ref x) (PySem.Str.ofString "one") pl)
      (fun fx s₂ => wpAny (model PySem.Challenge.rw_bw0042_01.row.prog w) (ar dp un gd env outer) (callWith pos fx.1 fx.2 (backTo pos (starEach [] env)) []) Q E s₂) E s := by
  obtain ⟨B, X, T, hf, hk⟩ := C
  revert X; k_fill; intro X
  cases kd
  · have hx : PV w p n news x cx := hx
    have hW : Warm news := hW
    obtain ⟨iD1, iT1, iM1, i11, i12, i13, i14, i15, i16, iA1, iB1⟩ := PV.inst hx
    k_steps
    unfold HoldOn
    exact pone (Cx.mk B X T hf hk) F N hbr hW hx hz hn0 (by omega) hp ret
  · have hx : OV w p n news x cx := hx
    have hW : WarmO news := hW
    obtain ⟨iD1, iL1, iT1, iM1, i11, i12, i13, i14, i15, i16, i17, iA1, iB1⟩ := OV.inst hx
    k_steps
    unfold HoldOn
    exact oone (Cx.mk B X T hf hk) F N hbr hW hx hz hn0 (by omega) hp ret
theorem gczero {x : Addr} {cx : List Int} {n : Nat} {pl : Sem Bool} {pos : Pos} (C : Cx w A₀ env outer base h₀ L pr loose mean mg mb) (F : Fr h₀ L s.heap m) (N : News h₀ L s.heap news) (hbr : AllBare s.gens) (hW : WarmG kd news)
    (hx : GV kd w p n news x cx) (hz : n ≤ 100) (hn0 : 0 < n)
    (hdp : dp + 80 < recursionLimit) (hp : 0 < p) (ret : GRet kd w h₀ L m news p n (gzero p n) s Q) :
    wpAny (model PySem.Challenge.rw_bw0042_01.row.prog w) (ar dp un gd env outer) (getMethod (.ref x) (PySem.Str.ofString "zero") pl)
      (fun fx s₂ => wpAny (model PySem.Challenge.rw_bw0042_01.row.prog w) (ar dp un gd env outer) (callWith pos fx.1 fx.2 (backTo pos (starEach [] env)) []) Q E s₂) E s := by
  obtain ⟨B, X, T, hf, hk⟩ := C
  revert X; k_fill; intro X
  cases kd
  · have hx : PV w p n news x cx := hx
    have hW : Warm news := hW
    obtain ⟨iD1, iT1, iM1, i11, i12, i13, i14, i15, i16, iA1, iB1⟩ := PV.inst hx
    k_steps
    unfold HoldOn
    exact pzero (Cx.mk B X T hf hk) F N hbr hW hx hz hn0 (by omega) hp ret
  · have hx : OV w p n news x cx := hx
    have hW : WarmO news := hW
    obtain ⟨iD1, iL1, iT1, iM1, i11, i12, i13, i14, i15, i16, i17, iA1, iB1⟩ := OV.inst hx
    k_steps
    unfold HoldOn
    exact ozero (Cx.mk B X T hf hk) F N hbr hW hx hz hn0 (by omega) hp ret
end
local macro_rules | `(tactic| walk_at "call type:int") => `(tactic| (k_here; (with_reducible show wpAny _ _ (call (Value.type _) [Value.ref _]) _ _ _); k_dflt (refine' fq_int ?zC ?zF ?zN ?zx ?zdx ?zd ?_; (case zC => exact Cx.mk (by k_asm) (by k_asm) (by k_asm) (by first | exact rfl | assumption) (by first | exact rfl | assumption)); (case zF => k_asm); (case zN => k_asm); (case zx => k_mem); (case zdx => k_mem); (case zd => k_room); k_whole); intro h' tk' t' F' N'; (try k_sweep)))
theorem fresh39 : True := by
  w_top off
  trivial
/-- a list of ints handed back -/
abbrev LRet (h₀ : Heap) (L : Addr) (m : Str → Option Value) (news : List (Addr × Obj)) (xs : List Int) (s : Shared) (Q : Value → Shared → Prop) : Prop :=
  ∀ D vs k ex s', Sm s s' → Fr h₀ L s'.heap m → News h₀ L s'.heap (Apd ex news) → (∀ p ∈ ex, ∀ q ∈ news, q.1 < p.1) → (D, lo vs k) ∈ ex → All2 IntV vs xs → Q (.ref D) s'
section
variable {w : World} {A₀ : Around} {dp un : Nat} {gd : Option (List Code)} {env : Env} {outer : List Env} {base h₀ : Heap} {L : Addr} {m : Str → Option Value} {news : List (Addr × Obj)} {s : Shared} {pr : Program} {loose : List Str} {mean : ExcName → Option Value} {mg mb : Str → Option Value}
  {p a : Int} {Q E : Value → Shared → Prop} {b d : Addr} {ob od : Obj} {vs ms : List Value} {cs : List Int} {kd : Bool}
theorem gplain {x : Addr} {cx : List Int} {n : Nat} {tp : Tok} (C : Cx w A₀ env outer base h₀ L pr loose mean mg mb) (F : Fr h₀ L s.heap m) (N : News h₀ L s.heap news)
    (hx : GV kd w p n news x cx) (hz : n ≤ 100) (hdp : dp + 80 < recursionLimit) (hp : 0 < p) (ret : LRet h₀ L m news (cx.map (· % p)) s Q) :
    wpAny (model PySem.Challenge.rw_bw0042_01.row.prog w) (ar dp un gd env outer) (call (.ref 445) [.ref x, .int p tp]) Q E s := by
  have hp0 : p ≠ 0 := by omega
  obtain ⟨B, X, T, hf, hk⟩ := C
  revert X; k_fill; intro X
  cases kd
  · have hx : PV w p n news x cx := hx
    obtain ⟨dx, t, mt, vx, ms, t1, t2, t3, t4, t5, t6, h1, h2, h4, h5, h7, hms, h8⟩ := hx
    simp only [InL] at h1 h2 h4 h5
    k_steps
    unfold HoldOn
    refine comp_KF (by assumption) (by with_unfolding_all rfl) (by decide) rfl (by decide) (by intro _; with_unfolding_all rfl) ?zmain
    case zmain =>
      k_steps
      rename Fr _ _ _ _ => F3
      rename News _ _ _ _ => N3
      rename (∀ q ∈ news, _ < _) => l0
      refine' cs_sq (J := IJ (cx.map (· % p))) rfl F3 N3 (b := t) (ob := tup vx) (vs := vx) ?zb (Sq.tup _) ?zz ?zx ?zkk ?zjl ?zj0 ?zst ?zR
      case zb => k_mem
      case zz => omega
      case zx => with_unfolding_all rfl
      case zkk => rfl
      case zjl => exact fun i ys tl h => Nat.le_of_eq h.2.1
      case zj0 => exact IJ.zero
      case zst =>
        intro ha2 i v ys tl C oC m3 h tk led E' hv hJ hoC mx hC hl F6 N6
        have up : ∀ q ∈ news, q ∈ led := fun q hq => hl q (List.mem_append_right _ (List.mem_cons_of_mem _ hq))
        have kc := hl _ (List.mem_append_right _ List.mem_cons_self)
        obtain ⟨c, hc, fx, fdx, a1, a2, a3, a4, rfl, ha1, ha2⟩ := h7.get hv
        have ha1 := up _ ha1
        have ha2 := up _ ha2
        have hcc : (cx.map (· % p))[i]? = some (c.fmod p) := by rw [List.getElem?_map, hc, fm1 hp]; rfl
        clear hl up
        k_steps
        exact hJ.step hcc (by assumption) (by assumption)
      case zR =>
        intro h' ys D h2 tk tl hJ F6 N6 o1 o2 o3
        obtain ⟨rfl, hl, hcs⟩ := hJ.done (by rw [List.length_map, ← h7.1])
        simp only [List.nil_append] at N6
        have N7 : News _ _ h2 ((D, lo ys ys.length) :: _) := N6
        clear N6
        k_steps
        rename News _ _ _ _ => kN
        refine ret D ys ys.length [_, _] _ Sm.of (by assumption) kN ?_ List.mem_cons_self hcs
        intro q hq r hr
        simp only [List.mem_cons, List.not_mem_nil, or_false] at hq
        rcases hq with rfl | rfl
        · exact o3 r (List.mem_cons_of_mem _ hr)
        · exact Nat.lt_trans (l0 r hr) (Nat.lt_succ_self _)
  · have hx : OV w p n news x cx := hx
    obtain ⟨dx, lm, t, mt, vx, ms, mcs, k0, t1, t2, t3, t4, t5, t6, t7, h1, h2, h3, h4, h5, h6, h7, hms, h8⟩ := hx
    simp only [InL] at h1 h2 h3 h4 h5
    k_steps
    unfold HoldOn
    refine comp_KF (by assumption) (by with_unfolding_all rfl) (by decide) rfl (by decide) (by intro _; with_unfolding_all rfl) ?zmain
    case zmain =>
      k_steps
      rename Fr _ _ _ _ => F3
      rename News _ _ _ _ => N3
      rename (∀ q ∈ news, _ < _) => l0
      refine' cs_sq (J := IJ (cx.map (· % p))) rfl F3 N3 (b := t) (ob := tup vx) (vs := vx) ?zb (Sq.tup _) ?zz ?zx ?zkk ?zjl ?zj0 ?zst ?zR
      case zb => k_mem
      case zz => omega
      case zx => with_unfolding_all rfl
      case zkk => rfl
      case zjl => exact fun i ys tl h => Nat.le_of_eq h.2.1
      case zj0 => exact IJ.zero
      case zst =>
        intro ha2 i v ys tl C oC m3 h tk led E' hv hJ hoC mx hC hl F6 N6
        have up : ∀ q ∈ news, q ∈ led := fun q hq => hl q (List.mem_append_right _ (List.mem_cons_of_mem _ hq))
        have kc := hl _ (List.mem_append_right _ List.mem_cons_self)
        obtain ⟨c, hc, a1, rfl⟩ := h7.get hv
        have hcc : (cx.map (· % p))[i]? = some (c.fmod p) := by rw [List.getElem?_map, hc, fm1 hp]; rfl
        clear hl up
        k_steps
        exact hJ.step hcc (by assumption) (by assumption)
      case zR =>
        intro h' ys D h2 tk tl hJ F6 N6 o1 o2 o3
        obtain ⟨rfl, hl, hcs⟩ := hJ.done (by rw [List.length_map, ← h7.1])
        simp only [List.nil_append] at N6
        have N7 : News _ _ h2 ((D, lo ys ys.length) :: _) := N6
        clear N6
        k_steps
        rename News _ _ _ _ => kN
        refine ret D ys ys.length [_, _] _ Sm.of (by assumption) kN ?_ List.mem_cons_self hcs
        intro q hq r hr
        simp only [List.mem_cons, List.not_mem_nil, or_false] at hq
        rcases hq with rfl | rfl
        · exact o3 r (List.mem_cons_of_mem _ hr)
        · exact Nat.lt_trans (l0 r hr) (Nat.lt_succ_self _)
end
local macro_rules | `(tactic| walk_at "zzfresh") => `(tactic| skip)
theorem fresh40 : True := by
  w_top off
  trivial
/-- the mark of a number by q -/
def mk (number : Int) (q : Nat) : Int := if ((List.range (q - 1)).map (fun (i : Nat) => (1 + (i : Int) * 1) * (1 + (i : Int) * 1) % (q : Int))).any (· == number % (q : Int)) = true then 1 else -1
section
variable {prog : Program} {w : World} {A : Around} {E : Value → Shared → Prop} {s : Shared} {h₀ : Heap} {L D : Addr} {news : List (Addr × Obj)} {vs : List Value} {ns : List Int} {n : Nat} {k : Int} {t : Tok} {b : Bool} {Q : Value → Shared → Prop}
theorem l_in (N : News h₀ L s.heap news) (hm : (D, lo vs n) ∈ news) (hi : All2 IntV vs ns) (e : ns.any (· == k) = b) (h : Q (.bool b) s) : wpAny (model prog w) A (compareOp .In (.int k t) (.ref D)) Q E s :=
  in_list_ints ⟨_, (N _ hm).1, rfl, _, rfl⟩ (iv_ints hi) (by rw [e]; exact h)
theorem l_ne {D' : Addr} {vs' : List Value} {ns' : List Int} {n' : Nat} (N : News h₀ L s.heap news) (hm : (D, lo vs n) ∈ news) (hi : All2 IntV vs ns) (hm' : (D', lo vs' n') ∈ news) (hi' : All2 IntV vs' ns') (hu : A.units + 64 < cLine) (e : (!decide (ns = ns')) = b) (h : Q (.bool b) s) :
    wpAny (model prog w) A (compareOp .NotEq (.ref D) (.ref D')) Q E s :=
  PySem.W.ke_ne_ints ⟨_, (N _ hm).1, rfl, _, rfl⟩ ⟨_, (N _ hm').1, rfl, _, rfl⟩ (iv_ints hi) (iv_ints hi') hu (by rw [e]; exact h)
theorem l_eq {D' : Addr} {vs' : List Value} {ns' : List Int} {n' : Nat} (N : News h₀ L s.heap news) (hm : (D, lo vs n) ∈ news) (hi : All2 IntV vs ns) (hm' : (D', lo vs' n') ∈ news) (hi' : All2 IntV vs' ns') (hu : A.units + 64 < cLine) (e : decide (ns = ns') = b) (h : Q (.bool b) s) :
    wpAny (model prog w) A (compareOp .Eq (.ref D) (.ref D')) Q E s :=
  PySem.W.ke_eq_ints ⟨_, (N _ hm).1, rfl, _, rfl⟩ ⟨_, (N _ hm').1, rfl, _, rfl⟩ (iv_ints hi) (iv_ints hi') hu (by rw [e]; exact h)
end
local macro_rules | `(tactic| walk_at "compareOp In int ref") => `(tactic| (k_here; k_dflt (refine' l_in ?zN ?zm ?zi ?ze ?_; (case zN => k_asm); (case zm => k_mem); (case zi => with_reducible assumption); (case ze => with_reducible assumption); k_whole)))
theorem fresh41 : True := by
  w_top off
  trivial
section
variable {w : World} {A₀ : Around} {dp un : Nat} {gd : Option (List Code)} {env : Env} {outer : List Env} {base h₀ : Heap} {L : Addr} {m : Str → Option Value} {news : List (Addr × Obj)} {s : Shared} {pr : Program} {loose : List Str} {mean : ExcName → Option Value} {mg mb : Str → Option Value}
  {p a : Int} {Q E : Value → Shared → Prop} {b d : Addr} {ob od : Obj} {vs ms : List Value} {cs : List Int} {kd : Bool}
theorem gmark {z : Int} {q : Nat} {tz tq : Tok} (C : Cx w A₀ env outer base h₀ L pr loose mean mg mb) (F : Fr h₀ L s.heap m) (N : News h₀ L s.heap news)
    (hq : 0 < q) (hq2 : q ≤ 100) (hdp : dp + 80 < recursionLimit) (ret : ∀ h' tk' t, Fr h₀ L h' m → News h₀ L h' news → Q (.int (mk z q) t) { s with heap := h', toks := tk' }) :
    wpAny (model PySem.Challenge.rw_bw0042_01.row.prog w) (ar dp un gd env outer) (call (.ref 450) [.int z tz, .int (q : Int) tq]) Q E s := by
  have hq0 : (q : Int) ≠ 0 := by omega
  obtain ⟨B, X, T, hf, hk⟩ := C
  revert X; k_fill; intro X
  k_steps
  unfold HoldOn
  refine comp_KF (by assumption) (by with_unfolding_all rfl) (by decide) rfl (by decide) (by intro _; with_unfolding_all rfl) ?zmain
  case zmain =>
    k_steps
    rename IsRange _ _ _ _ _ _ _ _ => hR
    rename Fr _ _ _ _ => F3
    rename News _ _ _ _ => N3
    refine' cs_rng (J := IJ ((List.range (q - 1)).map (fun (i : Nat) => (1 + (i : Int) * 1) * (1 + (i : Int) * 1) % (q : Int)))) (n := q - 1) rfl F3 N3 hR ?zhs ?zz ?zx ?zkk ?zjl ?zj0 ?zst ?zR
    case zhs =>
      have := rng_up2 (j := 1) (k := q) (by omega) (by omega) (by omega)
      rwa [show ((q : Int) - 1).toNat = q - 1 by omega] at this
    case zz => omega
    case zx => with_unfolding_all rfl
    case zkk => rfl
    case zjl => exact fun i ys tl h => Nat.le_of_eq h.2.1
    case zj0 => exact IJ.zero
    case zst =>
      intro ha4 i t ys tl C oC m3 h tk led E' hi hJ hoC mx hC hl F6 N6
      have kc := hl _ (List.mem_append_right _ List.mem_cons_self)
      have hM : IntMulOk (1 + (i : Int) * 1) (1 + (i : Int) * 1) := IntMulOk.of_left (intBits_le_64 (by omega) (by omega))
      have hcc : ((List.range (q - 1)).map (fun (i : Nat) => (1 + (i : Int) * 1) * (1 + (i : Int) * 1) % (q : Int)))[i]? = some (((1 + (i : Int) * 1) * (1 + (i : Int) * 1)).fmod (q : Int)) := by
        rw [List.getElem?_map, List.getElem?_range hi, fm1 (by omega)]; rfl
      clear hl
      k_steps
      exact hJ.step hcc (by assumption) (by assumption)
    case zR =>
      intro h' ys D h2 tk tl hJ F6 N6 o1 o2 o3
      obtain ⟨rfl, hl, hcs⟩ := hJ.done (by rw [List.length_map, List.length_range])
      simp only [List.nil_append] at N6
      have N7 : News _ _ h2 ((D, lo ys ys.length) :: _) := N6
      have e0 : z.fmod (q : Int) = z % (q : Int) := fm1 (by omega)
      clear N6
      cases hb : ((List.range (q - 1)).map (fun (i : Nat) => (1 + (i : Int) * 1) * (1 + (i : Int) * 1) % (q : Int))).any (· == z % (q : Int)) with
      | false =>
        have hb' : ((List.range (q - 1)).map (fun (i : Nat) => (1 + (i : Int) * 1) * (1 + (i : Int) * 1) % (q : Int))).any (· == z.fmod (q : Int)) = false := by rw [e0]; exact hb
        have eM : mk z q = -1 := by rw [mk, hb]; rfl
        rw [eM] at ret
        k_steps
        rename News h₀ _ _ _ => kN
        exact ret _ _ _ (by assumption) (fun q hq => kN q (by k_mem))
      | true =>
        have hb' : ((List.range (q - 1)).map (fun (i : Nat) => (1 + (i : Int) * 1) * (1 + (i : Int) * 1) % (q : Int))).any (· == z.fmod (q : Int)) = true := by rw [e0]; exact hb
        have eM : mk z q = 1 := by rw [mk, hb]; rfl
        rw [eM] at ret
        k_steps
        rename News h₀ _ _ _ => kN
        exact ret _ _ _ (by assumption) (fun q hq => kN q (by k_mem))
end
local macro_rules | `(tactic| walk_at "zzfresh") => `(tactic| skip)
theorem fresh42 : True := by
  w_top off
  trivial
/-- what the law says a power is -/
def pwr (z : Int) (q : Nat) : List Int := if z % (q : Int) = (q : Int) - 1 then List.replicate (q - 1) (-1) else (List.range (q - 1)).map (fun (i : Nat) => if (i : Int) = z % (q : Int) then 1 else 0)
theorem pwr_len {z : Int} {q : Nat} : (pwr z q).length = q - 1 := by
  unfold pwr
  split <;> simp
local macro_rules | `(tactic| walk_at "zzfresh") => `(tactic| skip)
theorem fresh43 : True := by
  w_top off
  trivial
section
variable {w : World} {A₀ : Around} {dp un : Nat} {gd : Option (List Code)} {env : Env} {outer : List Env} {base h₀ : Heap} {L : Addr} {m : Str → Option Value} {news : List (Addr × Obj)} {s : Shared} {pr : Program} {loose : List Str} {mean : ExcName → Option Value} {mg mb : Str → Option Value}
  {p a : Int} {Q E : Value → Shared → Prop} {b d : Addr} {ob od : Obj} {vs ms : List Value} {cs : List Int} {kd : Bool}
theorem gpwr {z : Int} {q : Nat} {tz tq : Tok} (C : Cx w A₀ env outer base h₀ L pr loose mean mg mb) (F : Fr h₀ L s.heap m) (N : News h₀ L s.heap news)
    (hq : 0 < q) (hq2 : q ≤ 100) (hdp : dp + 80 < recursionLimit) (ret : LRet h₀ L m news (pwr z q) s Q) :
    wpAny (model PySem.Challenge.rw_bw0042_01.row.prog w) (ar dp un gd env outer) (call (.ref 455) [.int z tz, .int (q : Int) tq]) Q E s := by
  have hq0 : (q : Int) ≠ 0 := by omega
  have e0 : z.fmod (q : Int) = z % (q : Int) := fm1 (by omega)
  obtain ⟨B, X, T, hf, hk⟩ := C
  revert X; k_fill; intro X
  k_steps
  rename_i g1 L1 h1 tk1 FG1 F1 B1 X1 T1 l1 oc hoc N1
  have hne : ∀ q ∈ news, q.1 ≠ L1 + 1 := fun q hq => Nat.ne_of_lt (Nat.lt_succ_of_lt (l1 q hq))
  k_steps
  · rename z.fmod (q : Int) = (q : Int) - 1 => hz
    rename IntsAre _ _ => hI
    rename News h₀ _ _ _ => kN
    rename (_ ∧ _ ∧ AllLt _ news) => z1
    rename (_ ∧ AllLt _ news) => z2
    have e : ((List.replicate ((q : Int) - 1).toNat [-1]).flatten : List Int) = List.replicate (q - 1) (-1) := by
      rw [show ((q : Int) - 1).toNat = q - 1 by omega, List.flatten_replicate_singleton]
    rw [e] at hI
    have eP : pwr z q = List.replicate (q - 1) (-1) := by rw [pwr, if_pos (by rw [← e0]; exact hz)]
    rw [eP] at ret
    refine ret _ _ _ [_, _, _] _ Sm.of (by assumption) kN ?_ List.mem_cons_self (ints_iv hI)
    intro q hq r hr
    have a0 := ltA (l1 r hr)
    have a1 := z1.1
    have a2 := z2.1
    simp only [List.mem_cons, List.not_mem_nil, or_false] at hq
    refine ltA ?_
    rcases hq with rfl | rfl | rfl <;> (dsimp only; omega)
  · rename z.fmod (q : Int) ≠ (q : Int) - 1 => hz
    unfold HoldOn
    have eP : pwr z q = (List.range (q - 1)).map (fun (i : Nat) => if (i : Int) = z % (q : Int) then 1 else 0) := by rw [pwr, if_neg (by rw [← e0]; exact hz)]
    rw [eP] at ret
    refine comp_KF (by assumption) (by with_unfolding_all rfl) (by decide) rfl (by decide) (by intro _; with_unfolding_all rfl) ?zmain
    case zmain =>
      k_steps
      rename IsRange _ _ _ _ _ _ _ _ => hR
      rename Fr _ _ _ _ => F3
      rename News _ _ _ _ => N3
      refine' cs_rng (J := IJ ((List.range (q - 1)).map (fun (i : Nat) => if (i : Int) = z % (q : Int) then 1 else 0))) (n := q - 1) rfl F3 N3 hR ?zhs ?zz ?zx ?zkk ?zjl ?zj0 ?zst ?zR
      case zhs =>
        have := rng_up (k := (q : Int) - 1) (by omega) (by omega)
        rwa [show ((q : Int) - 1).toNat = q - 1 by omega] at this
      case zz => omega
      case zx => with_unfolding_all rfl
      case zkk => rfl
      case zjl => exact fun i ys tl h => Nat.le_of_eq h.2.1
      case zj0 => exact IJ.zero
      case zst =>
        intro ha4 i t ys tl C oC m3 h tk led E' hi hJ hoC mx hC hl F6 N6
        have kc := hl _ (List.mem_append_right _ List.mem_cons_self)
        have hg : ((List.range (q - 1)).map (fun (i : Nat) => if (i : Int) = z % (q : Int) then (1 : Int) else 0))[i]? = some (if (i : Int) = z % (q : Int) then 1 else 0) := by
          rw [List.getElem?_map, List.getElem?_range hi]; rfl
        clear hl
        k_steps
        · rename _ = z.fmod (q : Int) => hc
          rw [if_pos (by rw [← e0]; omega)] at hg
          exact hJ.step hg (by assumption) (by assumption)
        · rename _ ≠ z.fmod (q : Int) => hc
          rw [if_neg (by rw [← e0]; omega)] at hg
          exact hJ.step hg (by assumption) (by assumption)
      case zR =>
        intro h' ys D h2 tk tl hJ F6 N6 o1 o2 o3
        obtain ⟨rfl, hl, hcs⟩ := hJ.done (by rw [List.length_map, List.length_range])
        simp only [List.nil_append] at N6
        have N7 : News _ _ h2 ((D, lo ys ys.length) :: _) := N6
        clear N6
        k_steps
        rename News h₀ _ _ _ => kN
        refine ret D ys ys.length [_, _] _ Sm.of (by assumption) kN ?_ List.mem_cons_self hcs
        intro q hq r hr
        simp only [List.mem_cons, List.not_mem_nil, or_false] at hq
        rcases hq with rfl | rfl
        · exact o3 r (List.mem_cons_of_mem _ hr)
        · exact Nat.lt_trans (l1 r hr) (Nat.lt_succ_self _)
end
local macro_rules | `(tactic| walk_at "call ref") => `(tactic| (k_here; (with_reducible show wpAny _ _ (call (Value.ref 455) _) _ _ _); refine hold_on ?_))
local macro_rules | `(tactic| walk_at "call ref") => `(tactic| (k_here; (with_reducible show wpAny _ _ (call (Value.ref 450) _) _ _ _); k_dflt (refine' gmark ?zC ?zF ?zN ?zq ?zq2 ?zd ?_; (case zC => exact Cx.mk (by k_asm) (by k_asm) (by k_asm) (by first | exact rfl | assumption) (by first | exact rfl | assumption)); (case zF => k_asm); (case zN => k_asm); (case zq => assumption); (case zq2 => assumption); (case zd => k_room); k_whole); intro h' tk' t' F' N'; (try k_sweep)))
theorem fresh44 : True := by
  w_top off
  trivial
/-- one turn of the law's sum -/
def lsTurn (step : Int) (q : Nat) (xs : List Int) (k : Int) : List Int := (List.range (q - 1)).map (fun (j : Nat) => xs.getD j 0 + mk k q * (pwr (step * k) q).getD j 0)
def lsum (step : Int) (q : Nat) : Nat → List Int
  | 0 => List.replicate (q - 1) 0
  | i + 1 => lsTurn step q (lsum step q i) (1 + (i : Int) * 1)
theorem lsum_len {step : Int} {q : Nat} : ∀ i, (lsum step q i).length = q - 1
  | 0 => by simp [lsum]
  | i + 1 => by simp [lsum, lsTurn]
section
variable {prog : Program} {w : World} {A : Around} {E : Value → Shared → Prop} {s : Shared} {h₀ : Heap} {L : Addr} {m : Str → Option Value} {env : Env} {x : Str} {px : Pos} {news : List (Addr × Obj)} {r : Addr} {a b c : Int} {t₀ u₀ v₀ : Tok} {n : Nat}
/-- a for loop over a range, its name stored by the walk -/
theorem fs_rngA {body : List Stmt} {J : Nat → (Str → Option Value) → List (Addr × Obj) → Prop} {Q : Flow → Shared → Prop} {R : Shared → Nat → (Nat → (Str → Option Value) → List (Addr × Obj) → Prop) → Prop} (hh : A.handled = none) (F : Fr h₀ env.locals s.heap m) (N : News h₀ env.locals s.heap news) (hr : IsRange s.heap r a b c t₀ u₀ v₀) (hs : Builtin.Range.small a b c = true ∧ Builtin.Range.rangeSize a b c = (n : Int))
    (j0 : J 0 m news)
    (step : ∀ I h₂, (∀ q ∈ news, q.1 < I) → ∀ i t m₁ news₁ (s₁ : Shared) own (E' : Value → Shared → Prop), i < n → J i m₁ news₁ → (∀ p ∈ own, p.1 = I) → (∀ p ∈ news₁, p.1 ≠ I) → Sm { s with heap := h₂ } s₁ → Fr h₀ env.locals s₁.heap m₁ → News h₀ env.locals s₁.heap (Apd own news₁) →
      wpAny (model prog w) A (assign (.Name x px) env (.int (a + (i : Int) * c) t)) (fun _ s₃ => wpAny (model prog w) A (execs body env) (FPost h₀ env.locals s₁ own news₁ (J (i + 1)) Q) E' s₃) E' s₁)
    (hR : ∀ h', R { s with heap := h' } n J) :
    wpAny (model prog w) A (pyIter (.ref r)) (fun it s₂ => ∃ I fp wr n P Md St m news J, it = .ref I ∧ ForB prog w A h₀ env (.Name x px) body I s₂ fp wr n P Md St m news J Q ∧ R s₂ n J) E s := by
  refine iter_rng F N hr hs fun I h' F₁ N₁ hI hI1 hIL hI0 hst => ?_
  refine ⟨I, [I], [I], n, _, _, _, m, news, J, rfl, { W := KTurns.ofWalks (target := .Name x px) (rng_walks hh a c n) fun i v s' Q' E' st hq => wpAny_of_eq (rfl : letOwnedTupleGo (.Name x px) (.ref I) v = pure ()) hq, hL := ?_, hwr := ?_, wrIn := ?_, hnw := ?_, st := hst, F := F₁, N := N₁, j0 := j0, step := ?_ }, hR h'⟩
  · intro hq; exact hIL (List.mem_singleton.mp hq).symm
  · intro q hq; rw [List.mem_singleton.mp hq]; exact hI0
  · intro i h st q hq
    rw [List.mem_singleton.mp hq]; exact ⟨_, st⟩
  · intro q hq hw
    rw [List.mem_singleton] at hw
    exact Nat.lt_irrefl _ (hw ▸ hI q hq : I < I)
  · rintro i v m₁ news₁ s₁ own E' hi ⟨_, t, rfl⟩ hJ ho hw hS F₂ N₂
    exact step I h' hI i t m₁ news₁ s₁ own E' hi hJ (fun p hp => List.mem_singleton.mp (ho p hp)) (fun p hp e => hw p hp (List.mem_singleton.mpr e)) hS F₂ N₂
end
theorem mem_rot3 {ex r : List (Addr × Obj)} {a b c q : Addr × Obj} : q ∈ Apd ex (a :: b :: c :: r) ↔ q ∈ a :: b :: c :: Apd ex r := by
  simp only [Apd, List.mem_append, List.mem_cons]
  constructor
  · rintro (h | h | h | h | h) <;> simp [h]
  · rintro (h | h | h | h | h) <;> simp [h]
theorem mk_or (z : Int) (q : Nat) : mk z q = 1 ∨ mk z q = -1 := by
  unfold mk
  split
  · exact .inl rfl
  · exact .inr rfl
theorem mk_fits (z c : Int) (q : Nat) : IntMulOk (mk z q) c := by
  refine IntMulOk.of_left ?_
  rcases mk_or z q with h | h <;> rw [h] <;> decide
local macro_rules | `(tactic| walk_at "zzfresh") => `(tactic| skip)
theorem fresh45 : True := by
  w_top off
  trivial
section
variable {w : World} {A₀ : Around} {dp un : Nat} {gd : Option (List Code)} {env : Env} {outer : List Env} {base h₀ : Heap} {L : Addr} {m : Str → Option Value} {news : List (Addr × Obj)} {s : Shared} {pr : Program} {loose : List Str} {mean : ExcName → Option Value} {mg mb : Str → Option Value}
  {p a : Int} {Q E : Value → Shared → Prop} {b d : Addr} {ob od : Obj} {vs ms : List Value} {cs : List Int} {kd : Bool}
theorem gsum {st : Int} {q : Nat} {tz tq : Tok} (C : Cx w A₀ env outer base h₀ L pr loose mean mg mb) (F : Fr h₀ L s.heap m) (N : News h₀ L s.heap news) (hbr : AllBare s.gens)
    (hq : 0 < q) (hq2 : q ≤ 100) (hs0 : 0 ≤ st) (hs1 : st < 100) (hdp : dp + 200 < recursionLimit) (ret : LRet h₀ L m news (lsum st q (q - 1)) s Q) :
    wpAny (model PySem.Challenge.rw_bw0042_01.row.prog w) (ar dp un gd env outer) (call (.ref 460) [.int st tz, .int (q : Int) tq]) Q E s := by
  have hq0 : (q : Int) ≠ 0 := by omega
  obtain ⟨B, X, T, hf, hk⟩ := C
  revert X; k_fill; intro X
  k_steps
  rename_i g1 L1 h1 tk1 FG1 B1 X1 T1 l1 oc1 oc2 oc3 oc4 hc1 hc2 hc3 hc4 l0 h2 F2 N2 l2 D0 h3 F3 N3 hI _ _ _ _ _ l3
  have hn2 : ∀ q ∈ news, q.1 ≠ L1 + 1 + 1 := fun q hq => neN (by have := ltA (l1 q hq); omega)
  have hn3 : ∀ q ∈ news, q.1 ≠ L1 + 1 + 1 + 1 := fun q hq => neN (by have := ltA (l1 q hq); omega)
  have hn4 : ∀ q ∈ news, q.1 ≠ L1 + 1 + 1 + 1 + 1 := fun q hq => neN (by have := ltA (l1 q hq); omega)
  have eI : ((List.replicate ((q : Int) - 1).toNat [0]).flatten : List Int) = List.replicate (q - 1) 0 := by
    rw [show ((q : Int) - 1).toNat = q - 1 by omega, List.flatten_replicate_singleton]
  rw [eI] at hI
  generalize hb0 : (List.replicate ((q : Int) - 1).toNat [Value.int 0 _]).flatten = b0 at hI N3
  have hB0 := ints_iv hI
  clear hI eI
  k_steps
  unfold HoldOn
  rename Obj.data _ = Data.cell (some (Value.ref D0)) => hd3
  rename Fr _ _ _ _ => F8
  rename News _ _ _ _ => N8
  obtain ⟨o0, N9⟩ : ∃ o0, News g1 L1 _ ((L1 + 1 + 1 + 1 + 1, oc1) :: (L1 + 1 + 1 + 1, oc2) :: (L1 + 1 + 1, _) :: (D0, lo b0 0) :: ((l0, o0) :: (L1 + 1, oc4) :: news)) := ⟨_, fun q hq => N8 q (by
    rcases List.mem_cons.mp hq with rfl | hq
    · exact List.mem_cons_of_mem _ (List.mem_cons_of_mem _ List.mem_cons_self)
    · rcases List.mem_cons.mp hq with rfl | hq
      · exact List.mem_cons_of_mem _ (List.mem_cons_of_mem _ (List.mem_cons_of_mem _ List.mem_cons_self))
      · rcases List.mem_cons.mp hq with rfl | hq
        · exact List.mem_cons_of_mem _ (List.mem_cons_of_mem _ (List.mem_cons_of_mem _ (List.mem_cons_of_mem _ List.mem_cons_self)))
        · rcases List.mem_cons.mp hq with rfl | hq
          · exact List.mem_cons_self
          · rcases List.mem_cons.mp hq with rfl | hq
            · exact List.mem_cons_of_mem _ List.mem_cons_self
            · exact List.mem_cons_of_mem _ (List.mem_cons_of_mem _ (List.mem_cons_of_mem _ (List.mem_cons_of_mem _ (List.mem_cons_of_mem _ hq)))))⟩
  have a0 := l3.1
  have a1 := l2.1
  have hc1' : ∃ u, oc1.data = .cell u := ⟨_, hc1⟩
  have hc2' : ∃ u, oc2.data = .cell u := ⟨_, hc2⟩
  have hc4' : oc4.data = .cell (some (.int (q : Int) tq)) := by with_unfolding_all exact hc4
  obtain ⟨nb, hnb⟩ : ∃ nb, nb = (l0, o0) :: (L1 + 1, oc4) :: news := ⟨_, rfl⟩
  rw [← hnb] at N9
  have mc4 : (L1 + 1, oc4) ∈ nb := hnb ▸ List.mem_cons_of_mem _ List.mem_cons_self
  have nlt : ∀ q ∈ nb, @LT.lt Nat _ q.1 D0 := fun q hq => by
    rw [hnb] at hq
    rcases List.mem_cons.mp hq with rfl | hq
    · exact a0
    · rcases List.mem_cons.mp hq with rfl | hq
      · show @LT.lt Nat _ (L1 + 1) D0; omega
      · have := ltA (l1 q hq); omega
  have nn : ∀ q ∈ nb, @Ne Nat q.1 (L1 + 1 + 1) ∧ @Ne Nat q.1 (L1 + 1 + 1 + 1) ∧ @Ne Nat q.1 (L1 + 1 + 1 + 1 + 1) := fun q hq => by
    rw [hnb] at hq
    rcases List.mem_cons.mp hq with rfl | hq
    · dsimp only; omega
    · rcases List.mem_cons.mp hq with rfl | hq
      · dsimp only; omega
      · have := ltA (l1 q hq); omega
  have upn : ∀ q ∈ news, q ∈ nb := fun q hq => hnb ▸ List.mem_cons_of_mem _ (List.mem_cons_of_mem _ hq)
  have hbrL : AllBare s.gens := hbr
  clear N8 hc1 hc2 hc3 hc4 hnb hn2 hn3 hn4 hb0
  refine for_KF F8 (by intro _; with_unfolding_all rfl) ?zo
  case zo =>
    k_steps
    rename IsRange _ _ _ _ _ _ _ _ => hR
    rename Fr _ _ _ _ => F10
    rename News _ _ _ _ => N10
    refine' fs_rngA (n := q - 1) (J := fun i m₁ news₁ => m₁ (Str.ofString "step") = some (.int st tz) ∧ ∃ o1 o2 o3 Dn vs kn, news₁ = (L1 + 1 + 1 + 1 + 1, o1) :: (L1 + 1 + 1 + 1, o2) :: (L1 + 1 + 1, o3) :: (Dn, lo vs kn) :: nb ∧ (∃ u, o1.data = .cell u) ∧ (∃ u, o2.data = .cell u) ∧ o3.data = .cell (some (.ref Dn)) ∧
      All2 IntV vs (lsum st q i) ∧ @LE.le Nat _ D0 Dn) rfl F10 N10 hR ?zhs ?zj0 ?zst ?zR
    case zhs =>
      have := rng_up2 (j := 1) (k := q) (by omega) (by omega) (by omega)
      rwa [show ((q : Int) - 1).toNat = q - 1 by omega] at this
    case zj0 => exact ⟨rfl, _, _, _, _, _, _, rfl, hc1', hc2', hd3, hB0, Nat.le_refl _⟩
    case zst =>
      rintro I hI0 hI i t m₁ _ s₁ own E' hi ⟨hst, o1, o2, o3, Dn, vs, kn, rfl, ⟨u1, ho1⟩, ⟨u2, ho2⟩, ho3, hA, hDn⟩ hown hnI hS F11 N11
      clear F10 N10 hR
      have i1 := hI _ List.mem_cons_self
      have i2 := hI (D0, _) (List.mem_cons_of_mem _ (List.mem_cons_of_mem _ (List.mem_cons_of_mem _ List.mem_cons_self)))
      have bne : ∀ q ∈ Apd own nb, @Ne Nat q.1 (L1 + 1 + 1) ∧ @Ne Nat q.1 (L1 + 1 + 1 + 1) ∧ @Ne Nat q.1 (L1 + 1 + 1 + 1 + 1) := fun q hq => by
        rcases List.mem_append.mp hq with hq | hq
        · have e : @Eq Nat q.1 I := hown q hq
          have i1' := ltA i1
          omega
        · exact nn q hq
      have N12 : News g1 L1 s₁.heap ((L1 + 1 + 1 + 1 + 1, o1) :: (L1 + 1 + 1 + 1, o2) :: (L1 + 1 + 1, o3) :: (Dn, lo vs kn) :: Apd own nb) := fun q hq => N11 q (by
        rcases List.mem_cons.mp hq with rfl | hq
        · exact mem_apd List.mem_cons_self
        · rcases List.mem_cons.mp hq with rfl | hq
          · exact mem_apd (List.mem_cons_of_mem _ List.mem_cons_self)
          · rcases List.mem_cons.mp hq with rfl | hq
            · exact mem_apd (List.mem_cons_of_mem _ (List.mem_cons_of_mem _ List.mem_cons_self))
            · rcases List.mem_cons.mp hq with rfl | hq
              · exact mem_apd (List.mem_cons_of_mem _ (List.mem_cons_of_mem _ (List.mem_cons_of_mem _ List.mem_cons_self)))
              · exact (List.mem_append.mp hq).elim (fun h => List.mem_append_left _ h) fun h => mem_apd (List.mem_cons_of_mem _ (List.mem_cons_of_mem _ (List.mem_cons_of_mem _ (List.mem_cons_of_mem _ h)))))
      have b2 : ∀ q ∈ Apd own nb, q.1 ≠ L1 + 1 + 1 := fun q hq => (bne q hq).1
      have b3 : ∀ q ∈ Apd own nb, q.1 ≠ L1 + 1 + 1 + 1 := fun q hq => (bne q hq).2.1
      have b4 : ∀ q ∈ Apd own nb, q.1 ≠ L1 + 1 + 1 + 1 + 1 := fun q hq => (bne q hq).2.2
      have hM : IntMulOk st (1 + (i : Int) * 1) := IntMulOk.of_left (intBits_le_64 (by omega) (by omega))
      clear N11
      k_steps
      unfold HoldOn
      rename Obj.data _ = Data.cell (some (Value.int (1 + (i : Int) * 1) t)) => hk2
      rename Fr _ _ _ _ => F13
      rename News _ _ _ _ => N13
      refine gpwr (Cx.mk (by k_asm) (by k_asm) (by k_asm) rfl rfl) F13 N13 hq hq2 (by k_room) ?_
      intro D2 vs2 k2 ex2 s2 hS2 F14 N14 lo2 mD2 hI2
      rename Obj => ok2
      have N15 : News g1 L1 s2.heap ((L1 + 1 + 1 + 1 + 1, o1) :: (L1 + 1 + 1 + 1, ok2) :: (L1 + 1 + 1, o3) :: Apd ex2 ((Dn, lo vs kn) :: Apd own nb)) := fun q hq => N14 q (mem_rot3.mpr hq)
      have mD2' : (D2, lo vs2 k2) ∈ Apd ex2 ((Dn, lo vs kn) :: Apd own nb) := List.mem_append_left _ mD2
      have mDn : (Dn, lo vs kn) ∈ Apd ex2 ((Dn, lo vs kn) :: Apd own nb) := mem_apd List.mem_cons_self
      have mc4' : (L1 + 1, oc4) ∈ Apd ex2 ((Dn, lo vs kn) :: Apd own nb) := mem_apd (List.mem_cons_of_mem _ (mem_apd mc4))
      have bne2 : ∀ q ∈ Apd ex2 ((Dn, lo vs kn) :: Apd own nb), @Ne Nat q.1 (L1 + 1 + 1) ∧ @Ne Nat q.1 (L1 + 1 + 1 + 1) ∧ @Ne Nat q.1 (L1 + 1 + 1 + 1 + 1) := fun q hq => by
        rcases List.mem_append.mp hq with hq | hq
        · have e := ltA (lo2 q hq _ List.mem_cons_self)
          omega
        · rcases List.mem_cons.mp hq with rfl | hq
          · dsimp only; omega
          · exact bne q hq
      have d2 : ∀ q ∈ Apd ex2 ((Dn, lo vs kn) :: Apd own nb), q.1 ≠ L1 + 1 + 1 := fun q hq => (bne2 q hq).1
      have d3 : ∀ q ∈ Apd ex2 ((Dn, lo vs kn) :: Apd own nb), q.1 ≠ L1 + 1 + 1 + 1 := fun q hq => (bne2 q hq).2.1
      have d4 : ∀ q ∈ Apd ex2 ((Dn, lo vs kn) :: Apd own nb), q.1 ≠ L1 + 1 + 1 + 1 + 1 := fun q hq => (bne2 q hq).2.2
      have hsub : ∀ q ∈ Apd own nb, q ∈ Apd ex2 ((Dn, lo vs kn) :: Apd own nb) := fun q hq => mem_apd (List.mem_cons_of_mem _ hq)
      generalize hbig : Apd ex2 ((Dn, lo vs kn) :: Apd own nb) = big at N15 mD2' mDn mc4' d2 d3 d4 hsub
      clear N13 F13 N14 b2 b3 b4 bne bne2 mD2 hbig
      k_steps
      unfold HoldOn
      refine wpAny_Assign_Name ?zA (by with_unfolding_all rfl)
      case zA =>
        rename Obj.data _ = Data.cell (some (Value.ref D2)) => hp1
        rename Fr _ _ _ _ => F16
        refine comp_KF F16 (by with_unfolding_all rfl) (by decide) rfl (by decide) (by intro _; with_unfolding_all rfl) ?zmain
        case zmain =>
          k_steps
          rename IsRange _ _ _ _ _ _ _ _ => hR2
          rename Fr _ _ _ _ => F17
          rename News _ _ _ _ => N17
          refine' cs_rng (J := IJ (lsTurn st q (lsum st q i) (1 + (i : Int) * 1))) (n := q - 1) rfl F17 N17 hR2 ?yhs ?yz ?yx ?ykk ?yjl ?yj0 ?yst ?yR
          case yhs =>
            have := rng_up (k := (q : Int) - 1) (by omega) (by omega)
            rwa [show ((q : Int) - 1).toNat = q - 1 by omega] at this
          case yz => omega
          case yx => with_unfolding_all rfl
          case ykk => rfl
          case yjl => exact fun i ys tl h => Nat.le_of_eq h.2.1
          case yj0 => exact IJ.zero
          case yst =>
            intro ha4 j tj ys tl C oC m3 h tk led E' hj hJ hoC mx hC hl F6 N6
            have x1 := hl _ (List.mem_append_right _ List.mem_cons_self)
            have x2 := hl _ (List.mem_append_right _ (List.mem_cons_of_mem _ List.mem_cons_self))
            have x3 := hl _ (List.mem_append_right _ (List.mem_cons_of_mem _ (List.mem_cons_of_mem _ List.mem_cons_self)))
            have upb : ∀ q ∈ big, q ∈ led := fun q hq => hl q (List.mem_append_right _ (List.mem_cons_of_mem _ (List.mem_cons_of_mem _ (List.mem_cons_of_mem _ hq))))
            have x4 := upb _ mc4'
            have x5 := upb _ mDn
            have x6 := upb _ mD2'
            obtain ⟨va, hva, ua, rfl⟩ := hA.got (i := j) (c := (lsum st q i).getD j 0) (getD_some (by rw [lsum_len]; exact hj))
            obtain ⟨vb, hvb, ub, rfl⟩ := hI2.got (i := j) (c := (pwr (st * (1 + (i : Int) * 1)) q).getD j 0) (getD_some (by rw [pwr_len]; exact hj))
            have e1 : ((0 : Int) + (j : Int) * 1).toNat = j := by omega
            have hva : vs[((0 : Int) + (j : Int) * 1).toNat]? = some (.int ((lsum st q i).getD j 0) ua) := by rw [e1]; exact hva
            have hvb : vs2[((0 : Int) + (j : Int) * 1).toNat]? = some (.int ((pwr (st * (1 + (i : Int) * 1)) q).getD j 0) ub) := by rw [e1]; exact hvb
            have hM2 := mk_fits (1 + (i : Int) * 1) ((pwr (st * (1 + (i : Int) * 1)) q).getD j 0) q
            have hcc : (lsTurn st q (lsum st q i) (1 + (i : Int) * 1))[j]? = some ((lsum st q i).getD j 0 + mk (1 + (i : Int) * 1) q * (pwr (st * (1 + (i : Int) * 1)) q).getD j 0) := by
              rw [lsTurn, List.getElem?_map, List.getElem?_range hj]; rfl
            clear hl upb N17 F17 hR2
            k_steps
            exact hJ.step hcc (by assumption) (by assumption)
          case yR =>
            intro h' ys D3 h2 tk tl hJ F6 N6 o1' o2' o3'
            obtain ⟨rfl, hl, hcs⟩ := hJ.done (by simp [lsTurn])
            simp only [List.nil_append] at N6
            have N7 : News _ _ h2 ((D3, lo ys ys.length) :: _) := N6
            have g4 : @LT.lt Nat _ (L1 + 1 + 1 + 1 + 1) D3 := o3' _ List.mem_cons_self
            have gn : @LT.lt Nat _ Dn D3 := o3' _ (List.mem_cons_of_mem _ (List.mem_cons_of_mem _ (List.mem_cons_of_mem _ mDn)))
            clear N6 N17 F17 hR2
            k_steps
            dsimp only [FPost]
            rename Obj.data _ = Data.cell (some (Value.ref D3)) => hn1
            rename Fr _ _ _ _ => kF
            rename News _ _ _ _ => kN
            refine ⟨_, (L1 + 1 + 1 + 1 + 1, _) :: (L1 + 1 + 1 + 1, ok2) :: (L1 + 1 + 1, _) :: (D3, lo ys ys.length) :: nb, kF, fun q hq => kN q ?_, ?_, ⟨hst, _, _, _, _, _, _, rfl, ⟨_, hp1⟩, ⟨_, hk2⟩, hn1, hcs, Nat.le_of_lt (Nat.lt_of_le_of_lt hDn gn)⟩, hS2⟩
            · rcases List.mem_append.mp hq with hq | hq
              · exact List.mem_cons_of_mem _ (List.mem_cons_of_mem _ (List.mem_cons_of_mem _ (List.mem_cons_of_mem _ (hsub _ (List.mem_append_left _ hq)))))
              · rcases List.mem_cons.mp hq with rfl | hq
                · exact List.mem_cons_of_mem _ List.mem_cons_self
                · rcases List.mem_cons.mp hq with rfl | hq
                  · exact List.mem_cons_of_mem _ (List.mem_cons_of_mem _ List.mem_cons_self)
                  · rcases List.mem_cons.mp hq with rfl | hq
                    · exact List.mem_cons_of_mem _ (List.mem_cons_of_mem _ (List.mem_cons_of_mem _ List.mem_cons_self))
                    · rcases List.mem_cons.mp hq with rfl | hq
                      · exact List.mem_cons_self
                      · exact List.mem_cons_of_mem _ (List.mem_cons_of_mem _ (List.mem_cons_of_mem _ (List.mem_cons_of_mem _ (hsub _ (mem_apd hq)))))
            · intro q hq
              rcases List.mem_cons.mp hq with rfl | hq
              · exact .inl ⟨_, List.mem_cons_self, rfl⟩
              · rcases List.mem_cons.mp hq with rfl | hq
                · exact .inl ⟨_, List.mem_cons_of_mem _ List.mem_cons_self, rfl⟩
                · rcases List.mem_cons.mp hq with rfl | hq
                  · exact .inl ⟨_, List.mem_cons_of_mem _ (List.mem_cons_of_mem _ List.mem_cons_self), rfl⟩
                  · rcases List.mem_cons.mp hq with rfl | hq
                    · refine .inr fun r hr => ?_
                      rcases List.mem_append.mp hr with hr | hr
                      · exact o3' r (List.mem_cons_of_mem _ (List.mem_cons_of_mem _ (List.mem_cons_of_mem _ (hsub _ (List.mem_append_left _ hr)))))
                      · rcases List.mem_cons.mp hr with rfl | hr
                        · exact g4
                        · rcases List.mem_cons.mp hr with rfl | hr
                          · exact o3' (L1 + 1 + 1 + 1, ok2) (List.mem_cons_of_mem _ List.mem_cons_self)
                          · rcases List.mem_cons.mp hr with rfl | hr
                            · exact o3' (L1 + 1 + 1, o3) (List.mem_cons_of_mem _ (List.mem_cons_of_mem _ List.mem_cons_self))
                            · rcases List.mem_cons.mp hr with rfl | hr
                              · exact gn
                              · exact o3' r (List.mem_cons_of_mem _ (List.mem_cons_of_mem _ (List.mem_cons_of_mem _ (hsub _ (mem_apd hr)))))
                    · exact .inl ⟨q, List.mem_cons_of_mem _ (List.mem_cons_of_mem _ (List.mem_cons_of_mem _ (List.mem_cons_of_mem _ hq))), rfl⟩
    case zR =>
      rintro h' s' m' _ ⟨_, o1, o2, o3, Dn, vs, kn, rfl, ⟨u1, ho1⟩, ⟨u2, ho2⟩, ho3, hA, hDn⟩ hS F' N'
      k_steps
      rename News _ _ _ _ => kN
      refine ret Dn vs kn [(Dn, lo vs kn)] _ (Sm.upd hS) (by assumption) (fun q hq => kN q ?_) (List.forall_mem_cons.mpr ⟨fun r hr => Nat.lt_of_lt_of_le (nlt r (upn r hr)) hDn, fun _ h => nomatch h⟩) List.mem_cons_self hA
      rcases List.mem_cons.mp hq with rfl | hq
      · exact List.mem_cons_of_mem _ (List.mem_cons_of_mem _ (List.mem_cons_of_mem _ List.mem_cons_self))
      · exact List.mem_cons_of_mem _ (List.mem_cons_of_mem _ (List.mem_cons_of_mem _ (List.mem_cons_of_mem _ (upn q hq))))
end
local macro_rules | `(tactic| walk_at "call ref") => `(tactic| (k_here; (with_reducible show wpAny _ _ (call (Value.ref 455) _) _ _ _); k_dflt (refine' gpwr ?zC ?zF ?zN ?zq ?zq2 ?zd ?_; (case zC => exact Cx.mk (by k_asm) (by k_asm) (by k_asm) (by first | exact rfl | assumption) (by first | exact rfl | assumption)); (case zF => k_asm); (case zN => k_asm); (case zq => assumption); (case zq2 => assumption); (case zd => k_room); k_whole); intro D' vs' k' ex' s' hSm' F' N' lo' mD' hI'; (have hbr' := Sm.bare hSm' (by assumption)); (try k_sweep)))
local macro_rules | `(tactic| walk_at "call ref") => `(tactic| (k_here; (with_reducible show wpAny _ _ (call (Value.ref 297) _) _ _ _); refine hold_on ?_))
local macro_rules | `(tactic| walk_at "call ref") => `(tactic| (k_here; (with_reducible show wpAny _ _ (call (Value.ref 422) _) _ _ _); refine hold_on ?_))
theorem fresh46 : True := by
  w_top off
  trivial
section
variable {w : World} {A₀ : Around} {dp un : Nat} {gd : Option (List Code)} {env : Env} {outer : List Env} {base h₀ : Heap} {L : Addr} {m : Str → Option Value} {news : List (Addr × Obj)} {s : Shared} {pr : Program} {loose : List Str} {mean : ExcName → Option Value} {mg mb : Str → Option Value}
  {p a : Int} {Q E : Value → Shared → Prop} {b d : Addr} {ob od : Obj} {vs ms : List Value} {cs : List Int} {kd : Bool}
theorem gat {sa : Addr} {ns : List Int} {k : Int} {tk0 : Tok} (C : Cx w A₀ env outer base h₀ L pr loose mean mg mb) (F : Fr h₀ L s.heap m) (N : News h₀ L s.heap news) (hS : base.IsList sa vs.toArray) (hI : IntsAre vs ns) (hl : ns.length ≤ 63) (hk0 : 0 ≤ k) (hk5 : k < 10)
    (hdp : dp + 80 < recursionLimit) (ret : ∀ (v : Int) h' tk' t, Fr h₀ L h' m → News h₀ L h' news → Q (.int v t) { s with heap := h', toks := tk' }) :
    wpAny (model PySem.Challenge.rw_bw0042_01.row.prog w) (ar dp un gd env outer) (call (.ref 433) [.ref sa, .int k tk0]) Q E s := by
  obtain ⟨B, X, T, hf, hk⟩ := C
  revert X; k_fill; intro X
  k_steps
  all_goals exact ret _ _ _ _ (by assumption) (by assumption)
end
local macro_rules | `(tactic| walk_at "zzfresh") => `(tactic| skip)
theorem fresh47 : True := by
  w_top off
  trivial
theorem ones_of {ms : List Value} {n : Nat} (h : IntsAre ms (List.replicate n 1)) : Ones ms n := by
  have h2 := ints_iv h
  refine ⟨by rw [h2.1, List.length_replicate], fun v hv => ?_⟩
  obtain ⟨i, hi⟩ := List.getElem?_of_mem hv
  obtain ⟨c, hc, t, rfl⟩ := h2.get hi
  rw [List.eq_of_mem_replicate (List.mem_of_getElem? hc)]
  exact ⟨t, rfl⟩
theorem swp_other {news : List (Addr × Obj)} {P P2 : Addr} {ps ps2 : Array Value} (h : (P2, tabObj ps2) ∈ news) (hn : P2 ≠ P) : (P2, tabObj ps2) ∈ swp news P ps := List.mem_map.mpr ⟨_, h, if_neg hn⟩
section
variable {w : World} {A₀ : Around} {dp un : Nat} {gd : Option (List Code)} {env : Env} {outer : List Env} {base h₀ : Heap} {L : Addr} {m : Str → Option Value} {news : List (Addr × Obj)} {s : Shared} {pr : Program} {loose : List Str} {mean : ExcName → Option Value} {mg mb : Str → Option Value}
  {p a : Int} {Q E : Value → Shared → Prop} {b d : Addr} {ob od : Obj} {vs ms : List Value} {cs : List Int} {kd : Bool}
theorem gmade0 {xs : List Int} {n kk : Nat} {tp tk0 : Tok} (C : Cx w A₀ env outer base h₀ L pr loose mean mg mb) (F : Fr h₀ L s.heap m) (N : News h₀ L s.heap news) (hbr : AllBare s.gens)
    (hb : (b, lo vs kk) ∈ news) (hvs : All2 IntV vs xs) (hn : vs.length = n) (hn0 : 0 < n) (hz : n ≤ 100) (hP1 : (196, tabObj #[]) ∈ news) (hP2 : (310, tabObj #[]) ∈ news)
    (hdp : dp + 80 < recursionLimit) (hp : 0 < p)
    (ret : ∀ x ex led s', Sm s s' → Fr h₀ L s'.heap m → News h₀ L s'.heap (ex ++ led) → (∀ q ∈ news, Nf q.2 → q ∈ led) → (∃ ps, (196, tabObj ps) ∈ led) → (∃ ps, (310, tabObj ps) ∈ led) → WarmG kd led → GV kd w p n (ex ++ led) x (xs.map (· % p)) → Q (.ref x) s') :
    wpAny (model PySem.Challenge.rw_bw0042_01.row.prog w) (ar dp un gd env outer) (call (.ref 440) [.ref b, .int p tp, .int (if kd = true then 1 else 0) tk0]) Q E s := by
  obtain ⟨B, X, T, hf, hk⟩ := C
  revert X; k_fill; intro X
  cases kd
  · simp only [Bool.false_eq_true, if_false]
    k_steps
    unfold HoldOn
    rename IntsAre _ _ => hI
    rename Fr _ _ _ _ => F3
    rename News _ _ _ _ => N3
    have e : ((List.replicate (n : Int).toNat [1]).flatten : List Int) = List.replicate n 1 := by
      rw [show (n : Int).toNat = n by omega, List.flatten_replicate_singleton]
    rw [e] at hI
    have hms := ones_of hI
    refine pinit (Cx.mk (by k_asm) (by k_asm) (by k_asm) rfl rfl) F3 N3 hbr (by k_mem) (Sq.lo _ _) (by k_mem) (Sq.lo _ _) (ints_cv (iv_ints hvs)) hn hms hz (List.mem_cons_of_mem _ (List.mem_cons_of_mem _ hP1)) (.inl rfl) (by k_room) hp ?_
    rintro x ex ps' s' hS F' N' lo' _ ⟨c', rfl⟩ hv
    k_steps
    rename Fr h₀ _ _ _ => kF
    rename News h₀ _ _ _ => kN
    exact ret x ex _ s' hS kF kN (fun q hq hn => swp_mem N3 (List.mem_cons_of_mem _ (List.mem_cons_of_mem _ hP1)) (List.mem_cons_of_mem _ (List.mem_cons_of_mem _ hq)) hn) ⟨_, swp_tab (List.mem_cons_of_mem _ (List.mem_cons_of_mem _ hP1))⟩ ⟨_, swp_other (List.mem_cons_of_mem _ (List.mem_cons_of_mem _ hP2)) (by decide)⟩ ⟨c', swp_tab (List.mem_cons_of_mem _ (List.mem_cons_of_mem _ hP1))⟩ hv
  · simp only [if_true]
    k_steps
    unfold HoldOn
    rename IntsAre _ _ => hI
    rename Fr _ _ _ _ => F3
    rename News _ _ _ _ => N3
    have e : ((List.replicate (n : Int).toNat [1]).flatten : List Int) = List.replicate n 1 := by
      rw [show (n : Int).toNat = n by omega, List.flatten_replicate_singleton]
    rw [e] at hI
    have hms := ones_of hI
    refine oinit (Cx.mk (by k_asm) (by k_asm) (by k_asm) rfl rfl) F3 N3 hbr (by k_mem) (Sq.lo _ _) (by k_mem) (Sq.lo _ _) hvs hn hn0 hms hz (List.mem_cons_of_mem _ (List.mem_cons_of_mem _ hP2)) (.inl rfl) (by k_room) hp ?_
    rintro x ex ps' s' hS F' N' lo' _ ⟨c', rfl⟩ hv
    k_steps
    rename Fr h₀ _ _ _ => kF
    rename News h₀ _ _ _ => kN
    exact ret x ex _ s' hS kF kN (fun q hq hn => swp_mem N3 (List.mem_cons_of_mem _ (List.mem_cons_of_mem _ hP2)) (List.mem_cons_of_mem _ (List.mem_cons_of_mem _ hq)) hn) ⟨_, swp_other (List.mem_cons_of_mem _ (List.mem_cons_of_mem _ hP1)) (by decide)⟩ ⟨_, swp_tab (List.mem_cons_of_mem _ (List.mem_cons_of_mem _ hP2))⟩ ⟨c', swp_tab (List.mem_cons_of_mem _ (List.mem_cons_of_mem _ hP2))⟩ hv
theorem gmadeW {xs : List Int} {n kk : Nat} {tp tk0 : Tok} (C : Cx w A₀ env outer base h₀ L pr loose mean mg mb) (F : Fr h₀ L s.heap m) (N : News h₀ L s.heap news) (hbr : AllBare s.gens) (hW : WarmG kd news)
    (hb : (b, lo vs kk) ∈ news) (hvs : All2 IntV vs xs) (hn : vs.length = n) (hn0 : 0 < n) (hz : n ≤ 100)
    (hdp : dp + 80 < recursionLimit) (hp : 0 < p) (ret : GRet kd w h₀ L m news p n (xs.map (· % p)) s Q) :
    wpAny (model PySem.Challenge.rw_bw0042_01.row.prog w) (ar dp un gd env outer) (call (.ref 440) [.ref b, .int p tp, .int (if kd = true then 1 else 0) tk0]) Q E s := by
  obtain ⟨B, X, T, hf, hk⟩ := C
  revert X; k_fill; intro X
  cases kd
  · simp only [Bool.false_eq_true, if_false]
    k_steps
    unfold HoldOn
    rename IntsAre _ _ => hI
    rename Fr _ _ _ _ => F3
    rename News _ _ _ _ => N3
    rename (∀ q ∈ news, _ < _) => l0
    rename (_ ∧ AllLt _ news) => l2
    have e : ((List.replicate (n : Int).toNat [1]).flatten : List Int) = List.replicate n 1 := by
      rw [show (n : Int).toNat = n by omega, List.flatten_replicate_singleton]
    rw [e] at hI
    have hms := ones_of hI
    refine pinitW (Cx.mk (by k_asm) (by k_asm) (by k_asm) rfl rfl) F3 N3 hbr (Warm.cons (Warm.cons hW)) (by k_mem) (Sq.lo _ _) (by k_mem) (Sq.lo _ _) (ints_cv (iv_ints hvs)) hn hms hz (by k_room) hp ?_
    intro x ex s' hS F' N' lo' hv
    k_steps
    rename Fr h₀ _ _ _ => kF
    rename News h₀ _ _ _ => kN
    refine ret x (ex ++ [_, _]) s' hS kF (by rw [← apd1]; exact kN) ?_ (by rw [← apd1]; exact hv)
    intro q hq r hr
    rcases List.mem_append.mp hq with hq | hq
    · exact lo' q hq r (List.mem_cons_of_mem _ (List.mem_cons_of_mem _ hr))
    · have a0 := ltA (l0 r hr)
      have a1 := l2.1
      simp only [List.mem_cons, List.not_mem_nil, or_false] at hq
      refine ltA ?_
      rcases hq with rfl | rfl <;> (dsimp only; omega)
  · simp only [if_true]
    k_steps
    unfold HoldOn
    rename IntsAre _ _ => hI
    rename Fr _ _ _ _ => F3
    rename News _ _ _ _ => N3
    rename (∀ q ∈ news, _ < _) => l0
    rename (_ ∧ AllLt _ news) => l2
    have e : ((List.replicate (n : Int).toNat [1]).flatten : List Int) = List.replicate n 1 := by
      rw [show (n : Int).toNat = n by omega, List.flatten_replicate_singleton]
    rw [e] at hI
    have hms := ones_of hI
    refine oinitW (Cx.mk (by k_asm) (by k_asm) (by k_asm) rfl rfl) F3 N3 hbr (WarmO.cons (WarmO.cons hW)) (by k_mem) (Sq.lo _ _) (by k_mem) (Sq.lo _ _) hvs hn hn0 hms hz (by k_room) hp ?_
    intro x ex s' hS F' N' lo' hv
    k_steps
    rename Fr h₀ _ _ _ => kF
    rename News h₀ _ _ _ => kN
    refine ret x (ex ++ [_, _]) s' hS kF (by rw [← apd1]; exact kN) ?_ (by rw [← apd1]; exact hv)
    intro q hq r hr
    rcases List.mem_append.mp hq with hq | hq
    · exact lo' q hq r (List.mem_cons_of_mem _ (List.mem_cons_of_mem _ hr))
    · have a0 := ltA (l0 r hr)
      have a1 := l2.1
      simp only [List.mem_cons, List.not_mem_nil, or_false] at hq
      refine ltA ?_
      rcases hq with rfl | rfl <;> (dsimp only; omega)
end
local macro_rules | `(tactic| walk_at "zzfresh") => `(tactic| skip)
theorem fresh48 : True := by
  w_top off
  trivial
def rt (p : Int) (q : Nat) : List Int := (0 :: 1 :: List.replicate (q - 3) 0).map (· % p)
def pk (kd : Bool) (p : Int) (q : Nat) : Nat → List Int
  | 0 => (1 :: List.replicate (q - 2) 0).map (· % p)
  | k + 1 => gm kd p (q - 1) (pk kd p q k) (rt p q)
def tk (kd : Bool) (p : Int) (q : Nat) : Nat → List Int
  | 0 => (List.replicate (q - 1) 0).map (· % p)
  | k + 1 => ga kd p (tk kd p q k) (pk kd p q k)
def pdk (kd : Bool) (p : Int) (q : Nat) : Nat → List Int
  | 0 => (1 :: List.replicate (q - 2) 0).map (· % p)
  | k + 1 => gm kd p (q - 1) (pdk kd p q k) (gs kd p (gone p (q - 1)) (gp kd p (q - 1) (k + 1) (rt p q)))
def whl (p : Int) (q : Nat) (st : Int) : List Int := (lsum st q (q - 1)).map (· % p)
def chk0 (kd : Bool) (p : Int) (q : Nat) : Bool := (List.range q).all (fun k => (pk kd p q k).map (· % p) == (pwr k q).map (· % p)) && pk kd p q q == gone p (q - 1) && tk kd p q q == gzero p (q - 1)
def chk0' (kd : Bool) (p : Int) (q st : Nat) : Bool := (!kd && decide (q > 3)) || gp kd p (q - 1) (q + st) (rt p q) == gp kd p (q - 1) st (rt p q)
def chk1 (kd : Bool) (p : Int) (q st : Nat) : Bool := (gm kd p (q - 1) (whl p q st) (whl p q st)).map (· % p) == ((if q % 4 = 1 then (q : Int) else 0 - (q : Int)) % p) :: List.replicate (q - 2) 0
def chk2 (kd : Bool) (p : Nat) (q st : Nat) : Bool := (whl p q st).map (· % (p : Int)) == (lsum 1 q (q - 1)).map (fun x => mk st q * x % (p : Int)) && (gp kd p (q - 1) p (whl p q st)).map (· % (p : Int)) == (lsum 1 q (q - 1)).map (fun x => mk ((p : Int) * (st : Int)) q * x % (p : Int))
def chk3 (kd : Bool) (p : Int) (q : Nat) : Bool := (pdk kd p q (q - 1)).map (· % p) == ((q : Int) % p) :: List.replicate (q - 2) 0
def prs : List Nat := [2, 3, 5, 7, 11, 13, 17]
def pOk (q p : Nat) : Bool := prs.contains p && p != q && (q != 7 || p < 7)
/-- one piece of the draws -/
def pc (f : Bool → Nat → Nat → Nat → Bool) (kd : Bool) (q : Nat) (ps sts : List Nat) : Bool := ps.all fun p => sts.all fun st => f kd p q st
def pc0 (f : Bool → Nat → Nat → Bool) (kd : Bool) (q : Nat) (ps : List Nat) : Bool := ps.all fun p => f kd p q
def dom (f : Bool → Nat → Nat → Nat → Bool) : Prop := pc f false 3 [2, 5, 7, 11, 13, 17] [1, 2] = true ∧ pc f true 3 [2, 5, 7, 11, 13, 17] [1, 2] = true ∧ pc f false 5 [2, 3, 7] [1, 2, 3, 4] = true ∧ pc f false 5 [11, 13, 17] [1, 2, 3, 4] = true ∧ pc f true 5 [2, 3, 7] [1, 2, 3, 4] = true ∧ pc f true 5 [11, 13, 17] [1, 2, 3, 4] = true ∧ pc f true 7 [2, 3] [1, 2, 3, 4, 5, 6] = true ∧ pc f true 7 [5] [1, 2, 3, 4, 5, 6] = true
def dom0 (f : Bool → Nat → Nat → Bool) : Prop := pc0 f false 3 [2, 5, 7, 11, 13, 17] = true ∧ pc0 f true 3 [2, 5, 7, 11, 13, 17] = true ∧ pc0 f false 5 [2, 3, 7] = true ∧ pc0 f false 5 [11, 13, 17] = true ∧ pc0 f true 5 [2, 3, 7] = true ∧ pc0 f true 5 [11, 13, 17] = true ∧ pc0 f true 7 [2, 3] = true ∧ pc0 f true 7 [5] = true
theorem d0a : pc0 (fun kd p q => chk0 kd p q) false 3 [2, 5, 7, 11, 13, 17] = true := by decide +kernel
theorem d0b : pc0 (fun kd p q => chk0 kd p q) true 3 [2, 5, 7, 11, 13, 17] = true := by decide +kernel
theorem d0c : pc0 (fun kd p q => chk0 kd p q) false 5 [2, 3, 7] = true := by decide +kernel
theorem d0d : pc0 (fun kd p q => chk0 kd p q) false 5 [11, 13, 17] = true := by decide +kernel
theorem d0e : pc0 (fun kd p q => chk0 kd p q) true 5 [2, 3, 7] = true := by decide +kernel
theorem d0f : pc0 (fun kd p q => chk0 kd p q) true 5 [11, 13, 17] = true := by decide +kernel
theorem d0g : pc0 (fun kd p q => chk0 kd p q) true 7 [2, 3] = true := by decide +kernel
theorem d0h : pc0 (fun kd p q => chk0 kd p q) true 7 [5] = true := by decide +kernel
theorem d0 : dom0 (fun kd p q => chk0 kd p q) := ⟨d0a, d0b, d0c, d0d, d0e, d0f, d0g, d0h⟩
theorem d0qa : pc (fun kd p q st => chk0' kd p q st) false 3 [2, 5, 7, 11, 13, 17] [1, 2] = true := by decide +kernel
theorem d0qb : pc (fun kd p q st => chk0' kd p q st) true 3 [2, 5, 7, 11, 13, 17] [1, 2] = true := by decide +kernel
theorem d0qc : pc (fun kd p q st => chk0' kd p q st) false 5 [2, 3, 7] [1, 2, 3, 4] = true := by decide +kernel
theorem d0qd : pc (fun kd p q st => chk0' kd p q st) false 5 [11, 13, 17] [1, 2, 3, 4] = true := by decide +kernel
theorem d0qe : pc (fun kd p q st => chk0' kd p q st) true 5 [2, 3, 7] [1, 2, 3, 4] = true := by decide +kernel
theorem d0qf : pc (fun kd p q st => chk0' kd p q st) true 5 [11, 13, 17] [1, 2, 3, 4] = true := by decide +kernel
theorem d0qg : pc (fun kd p q st => chk0' kd p q st) true 7 [2, 3] [1, 2, 3, 4, 5, 6] = true := by decide +kernel
theorem d0qh : pc (fun kd p q st => chk0' kd p q st) true 7 [5] [1, 2, 3, 4, 5, 6] = true := by decide +kernel
theorem d0' : dom (fun kd p q st => chk0' kd p q st) := ⟨d0qa, d0qb, d0qc, d0qd, d0qe, d0qf, d0qg, d0qh⟩
theorem d1a : pc (fun kd p q st => chk1 kd p q st) false 3 [2, 5, 7, 11, 13, 17] [1, 2] = true := by decide +kernel
theorem d1b : pc (fun kd p q st => chk1 kd p q st) true 3 [2, 5, 7, 11, 13, 17] [1, 2] = true := by decide +kernel
theorem d1c : pc (fun kd p q st => chk1 kd p q st) false 5 [2, 3, 7] [1, 2, 3, 4] = true := by decide +kernel
theorem d1d : pc (fun kd p q st => chk1 kd p q st) false 5 [11, 13, 17] [1, 2, 3, 4] = true := by decide +kernel
theorem d1e : pc (fun kd p q st => chk1 kd p q st) true 5 [2, 3, 7] [1, 2, 3, 4] = true := by decide +kernel
theorem d1f : pc (fun kd p q st => chk1 kd p q st) true 5 [11, 13, 17] [1, 2, 3, 4] = true := by decide +kernel
theorem d1g : pc (fun kd p q st => chk1 kd p q st) true 7 [2, 3] [1, 2, 3, 4, 5, 6] = true := by decide +kernel
theorem d1h : pc (fun kd p q st => chk1 kd p q st) true 7 [5] [1, 2, 3, 4, 5, 6] = true := by decide +kernel
theorem d1 : dom (fun kd p q st => chk1 kd p q st) := ⟨d1a, d1b, d1c, d1d, d1e, d1f, d1g, d1h⟩
theorem d2a : pc (fun kd p q st => chk2 kd p q st) false 3 [2, 5, 7, 11, 13, 17] [1, 2] = true := by decide +kernel
theorem d2b : pc (fun kd p q st => chk2 kd p q st) true 3 [2, 5, 7, 11, 13, 17] [1, 2] = true := by decide +kernel
theorem d2c : pc (fun kd p q st => chk2 kd p q st) false 5 [2, 3, 7] [1, 2, 3, 4] = true := by decide +kernel
theorem d2d : pc (fun kd p q st => chk2 kd p q st) false 5 [11, 13, 17] [1, 2, 3, 4] = true := by decide +kernel
theorem d2e : pc (fun kd p q st => chk2 kd p q st) true 5 [2, 3, 7] [1, 2, 3, 4] = true := by decide +kernel
theorem d2f : pc (fun kd p q st => chk2 kd p q st) true 5 [11, 13, 17] [1, 2, 3, 4] = true := by decide +kernel
theorem d2g : pc (fun kd p q st => chk2 kd p q st) true 7 [2, 3] [1, 2, 3, 4, 5, 6] = true := by decide +kernel
theorem d2h : pc (fun kd p q st => chk2 kd p q st) true 7 [5] [1, 2, 3, 4, 5, 6] = true := by decide +kernel
theorem d2 : dom (fun kd p q st => chk2 kd p q st) := ⟨d2a, d2b, d2c, d2d, d2e, d2f, d2g, d2h⟩
theorem d3a : pc0 (fun kd p q => chk3 kd p q) false 3 [2, 5, 7, 11, 13, 17] = true := by decide +kernel
theorem d3b : pc0 (fun kd p q => chk3 kd p q) true 3 [2, 5, 7, 11, 13, 17] = true := by decide +kernel
theorem d3c : pc0 (fun kd p q => chk3 kd p q) false 5 [2, 3, 7] = true := by decide +kernel
theorem d3d : pc0 (fun kd p q => chk3 kd p q) false 5 [11, 13, 17] = true := by decide +kernel
theorem d3e : pc0 (fun kd p q => chk3 kd p q) true 5 [2, 3, 7] = true := by decide +kernel
theorem d3f : pc0 (fun kd p q => chk3 kd p q) true 5 [11, 13, 17] = true := by decide +kernel
theorem d3g : pc0 (fun kd p q => chk3 kd p q) true 7 [2, 3] = true := by decide +kernel
theorem d3h : pc0 (fun kd p q => chk3 kd p q) true 7 [5] = true := by decide +kernel
theorem d3 : dom0 (fun kd p q => chk3 kd p q) := ⟨d3a, d3b, d3c, d3d, d3e, d3f, d3g, d3h⟩
/-- a draw that the law can make -/
def Drw (kd : Bool) (q p st : Nat) : Prop := (q = 3 ∨ q = 5 ∨ (q = 7 ∧ kd = true)) ∧ p ∈ prs ∧ pOk q p = true ∧ 1 ≤ st ∧ st < q
theorem ps3 {p : Nat} (hp : p ∈ prs) (ho : pOk 3 p = true) : p ∈ [2, 5, 7, 11, 13, 17] := List.mem_filter.mpr ⟨hp, ho⟩
theorem ps5 {p : Nat} (hp : p ∈ prs) (ho : pOk 5 p = true) : p ∈ [2, 3, 7] ∨ p ∈ [11, 13, 17] := List.mem_append.mp (List.mem_filter.mpr ⟨hp, ho⟩ : p ∈ [2, 3, 7] ++ [11, 13, 17])
theorem ps7 {p : Nat} (hp : p ∈ prs) (ho : pOk 7 p = true) : p ∈ [2, 3] ∨ p ∈ [5] := List.mem_append.mp (List.mem_filter.mpr ⟨hp, ho⟩ : p ∈ [2, 3] ++ [5])
theorem pcGet {f : Bool → Nat → Nat → Nat → Bool} {kd : Bool} {q p st : Nat} {ps sts : List Nat} (h : pc f kd q ps sts = true) (hp : p ∈ ps) (hs : st ∈ sts) : f kd p q st = true := List.all_eq_true.mp (List.all_eq_true.mp h p hp) st hs
theorem pc0Get {f : Bool → Nat → Nat → Bool} {kd : Bool} {q p : Nat} {ps : List Nat} (h : pc0 f kd q ps = true) (hp : p ∈ ps) : f kd p q = true := List.all_eq_true.mp h p hp
theorem dom_get {f : Bool → Nat → Nat → Nat → Bool} (h : dom f) {kd : Bool} {q p st : Nat} (hd : Drw kd q p st) : f kd p q st = true := by
  obtain ⟨hq, hp, ho, h1, h2⟩ := hd
  obtain ⟨a, b, c, d, e, g, i, j⟩ := h
  rcases hq with rfl | rfl | ⟨rfl, rfl⟩
  · have hs : st ∈ [1, 2] := by simp only [List.mem_cons, List.not_mem_nil, or_false]; omega
    cases kd
    · exact pcGet a (ps3 hp ho) hs
    · exact pcGet b (ps3 hp ho) hs
  · have hs : st ∈ [1, 2, 3, 4] := by simp only [List.mem_cons, List.not_mem_nil, or_false]; omega
    cases kd
    · exact (ps5 hp ho).elim (fun h => pcGet c h hs) fun h => pcGet d h hs
    · exact (ps5 hp ho).elim (fun h => pcGet e h hs) fun h => pcGet g h hs
  · have hs : st ∈ [1, 2, 3, 4, 5, 6] := by simp only [List.mem_cons, List.not_mem_nil, or_false]; omega
    exact (ps7 hp ho).elim (fun h => pcGet i h hs) fun h => pcGet j h hs
theorem dom0_get {f : Bool → Nat → Nat → Bool} (h : dom0 f) {kd : Bool} {q p st : Nat} (hd : Drw kd q p st) : f kd p q = true := by
  obtain ⟨hq, hp, ho, h1, h2⟩ := hd
  obtain ⟨a, b, c, d, e, g, i, j⟩ := h
  rcases hq with rfl | rfl | ⟨rfl, rfl⟩
  · cases kd
    · exact pc0Get a (ps3 hp ho)
    · exact pc0Get b (ps3 hp ho)
  · cases kd
    · exact (ps5 hp ho).elim (fun h => pc0Get c h) fun h => pc0Get d h
    · exact (ps5 hp ho).elim (fun h => pc0Get e h) fun h => pc0Get g h
  · exact (ps7 hp ho).elim (fun h => pc0Get i h) fun h => pc0Get j h
theorem drw_q {kd : Bool} {q p st : Nat} (hd : Drw kd q p st) : 3 ≤ q ∧ q ≤ 7 := by rcases hd.1 with rfl | rfl | ⟨rfl, _⟩ <;> omega
theorem drw_p {kd : Bool} {q p st : Nat} (hd : Drw kd q p st) : 2 ≤ p ∧ p ≤ 17 := by
  have h := hd.2.1
  simp only [prs, List.mem_cons, List.not_mem_nil, or_false] at h
  omega
theorem w0a {kd : Bool} {q p st : Nat} (hd : Drw kd q p st) {k : Nat} (hk : k < q) : (pk kd p q k).map (· % (p : Int)) = (pwr k q).map (· % (p : Int)) := by
  have h := dom0_get d0 hd
  simp only [chk0, Bool.and_eq_true, List.all_eq_true, beq_iff_eq] at h
  exact h.1.1 k (List.mem_range.mpr hk)
theorem w0b {kd : Bool} {q p st : Nat} (hd : Drw kd q p st) : (pk kd p q q == gone p (q - 1)) = true := by
  have h := dom0_get d0 hd
  simp only [chk0, Bool.and_eq_true] at h
  exact h.1.2
theorem w0c {kd : Bool} {q p st : Nat} (hd : Drw kd q p st) : (tk kd p q q == gzero p (q - 1)) = true := by
  have h := dom0_get d0 hd
  simp only [chk0, Bool.and_eq_true] at h
  exact h.2
theorem w0d {kd : Bool} {q p st : Nat} (hd : Drw kd q p st) (hn : ¬ (kd = false ∧ q > 3)) : (gp kd p (q - 1) (q + st) (rt p q) == gp kd p (q - 1) st (rt p q)) = true := by
  have h := dom_get d0' hd
  simp only [chk0', Bool.or_eq_true, Bool.and_eq_true, Bool.not_eq_true', decide_eq_true_eq] at h
  rcases h with h | h
  · exact absurd h hn
  · exact h
theorem w1 {kd : Bool} {q p st : Nat} (hd : Drw kd q p st) : (gm kd p (q - 1) (whl p q st) (whl p q st)).map (· % (p : Int)) = ((if q % 4 = 1 then (q : Int) else 0 - (q : Int)) % (p : Int)) :: List.replicate (q - 2) 0 := by
  have h := dom_get d1 hd
  simpa only [chk1, beq_iff_eq] using h
theorem w2a {kd : Bool} {q p st : Nat} (hd : Drw kd q p st) : (whl p q st).map (· % (p : Int)) = (lsum 1 q (q - 1)).map (fun x => mk st q * x % (p : Int)) := by
  have h := dom_get d2 hd
  simp only [chk2, Bool.and_eq_true, beq_iff_eq] at h
  exact h.1
theorem w2b {kd : Bool} {q p st : Nat} (hd : Drw kd q p st) : (gp kd p (q - 1) p (whl p q st)).map (· % (p : Int)) = (lsum 1 q (q - 1)).map (fun x => mk ((p : Int) * (st : Int)) q * x % (p : Int)) := by
  have h := dom_get d2 hd
  simp only [chk2, Bool.and_eq_true, beq_iff_eq] at h
  exact h.2
theorem w3 {kd : Bool} {q p st : Nat} (hd : Drw kd q p st) : (pdk kd p q (q - 1)).map (· % (p : Int)) = ((q : Int) % (p : Int)) :: List.replicate (q - 2) 0 := by
  have h := dom0_get d3 hd
  simpa only [chk3, beq_iff_eq] using h
local macro_rules | `(tactic| walk_at "call ref") => `(tactic| (k_here; (with_reducible show wpAny _ _ (call (Value.ref 433) _) _ _ _); refine hold_on ?_))
local macro_rules | `(tactic| walk_at "call ref") => `(tactic| (k_here; (with_reducible show wpAny _ _ (call (Value.ref 440) _) _ _ _); refine hold_on ?_))
local macro_rules | `(tactic| walk_at "call ref") => `(tactic| (k_here; (with_reducible show wpAny _ _ (call (Value.ref 445) _) _ _ _); refine hold_on ?_))
local macro_rules | `(tactic| walk_at "call ref") => `(tactic| (k_here; (with_reducible show wpAny _ _ (call (Value.ref 455) _) _ _ _); refine hold_on ?_))
local macro_rules | `(tactic| walk_at "call ref") => `(tactic| (k_here; (with_reducible show wpAny _ _ (call (Value.ref 460) _) _ _ _); refine hold_on ?_))
local macro_rules | `(tactic| walk_at "eval IfExp") => `(tactic| (k_here; refine hold_on ?_))
local macro_rules | `(tactic| walk_at "eval Call") => `(tactic| (k_here; k_dflt (refine Call_ ?_)))
local macro_rules | `(tactic| walk_at "eval Call Attribute") => `(tactic| (k_here; k_dflt (refine MethodCall_ ?_)))
theorem fresh49 : True := by
  w_top off
  trivial
open PySem.W in
/-- the law gave True, what was there stands, the two pools have grown -/
def GoodL (tabs : List (Addr × Addr)) (s₁ : Shared) (r : Result) (s' : Shared) : Prop :=
  r = .ok (.ret (.bool true)) ∧ (∀ b o, (ghostOf s₁.heap tabs).get? b = some o → s'.heap.get? b = some o) ∧ s'.os = s₁.os ∧ AllBare s'.gens ∧ GrownAll tabs s'.heap
open PySem.W in
theorem law_post {M : Model} {A : Around} {cd : Code} {s s₁ : Shared} {cw : ClaimW} {cl : Str → Option Addr} {mean : ExcName → Option Value} {args : List WData} {tabs : List (Addr × Addr)} (hT : TabsAt tabs s₁.heap) (hr : ∀ a x, cw.raises a x = false) (hp : cw.post args (.bool true) args = true)
    (h : codeAny M A cd (GoodL tabs s₁) s) : codeAny M A cd (GoodWG cw cl mean args s₁) s :=
  codeAny_mono h fun r s' ⟨e, hk, hos, hg, hgr⟩ => by
    have keep : ∀ b o, b ∉ tabs.map (·.2) → s₁.heap.get? b = some o → s'.heap.get? b = some o := fun b o hb e => hk b o (ghost_ne e hb)
    have grown : ∀ b o, b ∈ tabs.map (·.2) → s₁.heap.get? b = some o → isCodeTable s₁.heap b ∧ o = tabObj #[] ∧ ∃ ps, s'.heap.get? b = some (tabObj ps) := fun b o hb e => by
      obtain ⟨q, hq, rfl⟩ := List.mem_map.mp hb
      have e2 := (hT q hq).2
      rw [e] at e2
      exact ⟨((hT q hq).1.tab (hT q hq).2).isCodeTable, Option.some.inj e2, hgr.get q hq⟩
    refine ⟨.inl ⟨_, .bool true, [], e, fun _ => hr _ _, .bool _, hp, fun _ => ⟨List.nodup_nil, fun a ha => nomatch ha⟩⟩, ⟨fun b o e => ?_, fun b o e => ?_⟩, hos, hg⟩
    · by_cases hb : b ∈ tabs.map (·.2)
      · obtain ⟨ht, rfl, ps, hP⟩ := grown b o hb e
        exact .inr (.inl ⟨ht, rfl, #[], ps, rfl, by rw [Array.empty_append]; exact hP⟩)
      · exact .inl (keep b o hb e)
    · by_cases hb : b ∈ tabs.map (·.2)
      · obtain ⟨_, _, ps, hP⟩ := grown b o hb e
        exact ⟨_, hP⟩
      · exact ⟨o, keep b o hb e⟩
theorem menu3 {h₀ h : Heap} {L l : Addr} {t1 t2 t3 : Tok} {k : Nat} {r : List (Addr × Obj)} {j : Int} {kd : Bool} (_N : News h₀ L h ((l, PySem.W.listOf #[Value.int 3 t1, Value.int 5 t2, Value.int 7 t3] k) :: r)) (h0 : 0 ≤ j) (h1 : j < 2 + (if kd = true then 1 else 0)) :
    ∃ (q : Nat) (tq : Tok), ([Value.int 3 t1, Value.int 5 t2, Value.int 7 t3] : List Value)[j.toNat]? = some (.int (q : Int) tq) ∧ (q = 3 ∨ q = 5 ∨ (q = 7 ∧ kd = true)) := by
  have hj : j = 0 ∨ j = 1 ∨ (j = 2 ∧ kd = true) := by
    cases kd
    · simp only [Bool.false_eq_true, if_false] at h1
      exact (by omega : j = 0 ∨ j = 1).imp id .inl
    · simp only [if_true] at h1
      exact (by omega : j = 0 ∨ j = 1 ∨ j = 2).imp id (.imp id fun h => ⟨h, rfl⟩)
  rcases hj with rfl | rfl | ⟨rfl, hk⟩
  · exact ⟨3, t1, rfl, .inl rfl⟩
  · exact ⟨5, t2, rfl, .inr (.inl rfl)⟩
  · exact ⟨7, t3, rfl, .inr (.inr ⟨rfl, hk⟩)⟩
section
variable {prog : Program} {w : World} {A : Around} {E : Value → Shared → Prop} {s : Shared} {h₀ : Heap} {L : Addr} {m : Str → Option Value} {env : Env} {elt : Expr} {x : Str} {px : Pos} {scope : Scope} {cl : List (Str × Addr)} {news : List (Addr × Obj)} {b : Addr} {ob : Obj} {vs : List Value}
open PyProof.Rows.LCg in
/-- over a list or a tuple, with tests -/
theorem cs_sqT {ifs : List Expr} {J : Nat → List Value → List (Addr × Obj) → Prop} {R : Shared → Nat → List (Addr × Obj) → (Nat → List Value → List (Addr × Obj) → Prop) → Prop} (hh : A.handled = none) (F : Fr h₀ L s.heap m) (N : News h₀ L s.heap news) (hb : (b, ob) ∈ news) (hq : Sq ob vs) (hz : vs.length ≤ 16384)
    (hx : scope.names.lookup x = some .local) (hkind : scope.kind = .function) (jlen : ∀ i ys tl, J i ys tl → ys.length ≤ i) (j0 : J 0 [] [])
    (step : ∀ h₂, ∀ i v ys tl C oC m₃ h tk led (E' : Value → Shared → Prop), vs[i]? = some v → J i ys tl → NsObj oC m₃ → m₃ x = some v → (C, oC) ∈ led → (∀ p ∈ tl ++ news, p ∈ led) → Fr h₀ L h m → News h₀ L h led →
      TestsOf prog w A ifs (compEnvC scope cl C env) (fun ok s₃ => if ok = true then wpAny (model prog w) A (eval elt (compEnvC scope cl C env)) (fun y s₄ => CEnd h₀ L m { ({ s with heap := h₂ } : Shared) with heap := h, toks := tk } led tl (J (i + 1) (ys ++ [y])) s₄) E' s₃
        else CEnd h₀ L m { ({ s with heap := h₂ } : Shared) with heap := h, toks := tk } led tl (J (i + 1) ys) s₃) E' { ({ s with heap := h₂ } : Shared) with heap := h, toks := tk })
    (hR : ∀ h', R { s with heap := h' } vs.length news J) :
    wpAny (model prog w) A (pyIter (.ref b)) (fun it s₂ => ∃ I fp wr n P Md St news B J, it = .ref I ∧ CompB prog w A h₀ L m env elt (.Name x px) ifs scope cl I s₂ fp wr n P Md St news B J ∧ R s₂ n news J) E s := by
  refine iter_sq F N hb hq fun I itob h' St F₁ N₁ hI hI1 hst W hSt hgo => ?_
  have hbI : b < I := hI _ hb
  have hI0 := (N₁ _ List.mem_cons_self).2
  refine ⟨I, [I, b], [I], vs.length, _, _, St, news, (fun i m₃ => ∃ v, vs[i]? = some v ∧ m₃ x = some v), J, rfl, CompB.mk (KTurns.ofWalks (target := .Name x px) (W A hh) fun i v s Q E => hgo A (.Name x px) i v s Q E) (fun s' Q E st hq => (W A hh).self 0 s' Q E st hq) (Nat.le_trans hz (by decide)) jlen ?_ ?_ ?_ ?_ hst F₁ (fun p hp => N₁ p (List.mem_cons_of_mem _ hp)) j0 ?_ ?_, hR h'⟩
  · intro hq
    rcases List.mem_cons.mp hq with e | hq
    · exact hI0.1 e.symm
    · rw [List.mem_singleton] at hq; exact (N _ hb).2.1 hq.symm
  · intro q hq
    rw [List.mem_singleton.mp hq]; exact hI0.2
  · intro q hq hw
    rw [List.mem_singleton] at hw
    exact Nat.lt_irrefl _ (hw ▸ hI q hq : I < I)
  · intro q hq
    show @LT.lt Nat _ q h'.objs.size
    rw [hI1]
    rcases List.mem_cons.mp hq with rfl | hq
    · exact Nat.lt_succ_self _
    · rw [List.mem_singleton.mp hq]; exact Nat.lt_succ_of_lt hbI
  · intro C i v s' m₂ Q' E' hi hP hn hQ
    refine wpAny_assign_Name (wpAny_storeName_local (env := compEnvC scope cl C env) (lookup_relabel_local hx) hn (fun h' hn' hs' => ?_) (by simp [compEnvC, relabel, hkind]))
    exact hQ h' _ _ hn' ⟨v, hP, by simp⟩ fun b o hb e => hs'.extBut b o hb e
  · intro i ys tl C oC m₃ h tk led E' hi hJ hoC hB hC hl F N
    obtain ⟨v, hv, hm⟩ := hB
    exact step h' i v ys tl C oC m₃ h tk led E' hv hJ hoC hm hC hl F N
end
def PR : List Int := [2, 3, 5, 7, 11, 13, 17]
theorem menuP {q : Nat} {kd : Bool} (hq : q = 3 ∨ q = 5 ∨ (q = 7 ∧ kd = true)) {j : Int} (h0 : 0 ≤ j) (h1 : j < (if (q : Int) < 7 then 6 else 3)) :
    ∃ p : Nat, (PR.filter (fun x => x != (q : Int)))[j.toNat]? = some (p : Int) ∧ p ∈ prs ∧ pOk q p = true := by
  obtain ⟨n, rfl⟩ : ∃ n : Nat, j = n := ⟨j.toNat, by omega⟩
  rw [Int.toNat_natCast]
  rcases hq with rfl | rfl | ⟨rfl, _⟩
  · have hn : n < 6 := by rw [if_pos (by decide)] at h1; omega
    match n, hn with
    | 0, _ => exact ⟨2, by decide, by decide, by decide⟩
    | 1, _ => exact ⟨5, by decide, by decide, by decide⟩
    | 2, _ => exact ⟨7, by decide, by decide, by decide⟩
    | 3, _ => exact ⟨11, by decide, by decide, by decide⟩
    | 4, _ => exact ⟨13, by decide, by decide, by decide⟩
    | 5, _ => exact ⟨17, by decide, by decide, by decide⟩
    | n + 6, h => exact absurd h (by omega)
  · have hn : n < 6 := by rw [if_pos (by decide)] at h1; omega
    match n, hn with
    | 0, _ => exact ⟨2, by decide, by decide, by decide⟩
    | 1, _ => exact ⟨3, by decide, by decide, by decide⟩
    | 2, _ => exact ⟨7, by decide, by decide, by decide⟩
    | 3, _ => exact ⟨11, by decide, by decide, by decide⟩
    | 4, _ => exact ⟨13, by decide, by decide, by decide⟩
    | 5, _ => exact ⟨17, by decide, by decide, by decide⟩
    | n + 6, h => exact absurd h (by omega)
  · have hn : n < 3 := by rw [if_neg (by decide)] at h1; omega
    match n, hn with
    | 0, _ => exact ⟨2, by decide, by decide, by decide⟩
    | 1, _ => exact ⟨3, by decide, by decide, by decide⟩
    | 2, _ => exact ⟨5, by decide, by decide, by decide⟩
    | n + 3, h => exact absurd h (by omega)
theorem join2 {M : Model} {A : Around} {E : Value → Shared → Prop} {s : Shared} {t : Sem Value} {Q : Value → Shared → Prop} (P : Value → Shared → Prop) (h1 : wpAny M A t P E s) (h2 : ∀ v s', P v s' → Q v s') : wpAny M A t Q E s := wpAny_mono h1 h2 fun _ _ e => e
theorem pr_iv {t1 t2 t3 t4 t5 t6 t7 : Tok} : All2 IntV [.int 2 t1, .int 3 t2, .int 5 t3, .int 7 t4, .int 11 t5, .int 13 t6, .int 17 t7] PR :=
  ints_iv (.cons _ _ (.cons _ _ (.cons _ _ (.cons _ _ (.cons _ _ (.cons _ _ (.cons _ _ .nil)))))))
/-- a filtering comprehension of ints so far -/
def FJ (q : Nat) (i : Nat) (ys : List Value) (tl : List (Addr × Obj)) : Prop := tl = [] ∧ ys.length ≤ i ∧ All2 IntV ys ((PR.take i).filter (fun x => x != (q : Int)))
theorem FJ.yes {h₀ h' : Heap} {L : Addr} {m : Str → Option Value} {led tl : List (Addr × Obj)} {ys : List Value} {q i : Nat} {s₁ : Shared} {tk' : Nat} {c : Int} {t : Tok} (hJ : FJ q i ys tl) (hc : PR[i]? = some c) (hne : c ≠ (q : Int)) (F : Fr h₀ L h' m) (N : News h₀ L h' led) :
    CEnd h₀ L m s₁ led tl (FJ q (i + 1) (ys ++ [.int c t])) { s₁ with heap := h', toks := tk' } := by
  refine ⟨_, _, [], rfl, F, N, (fun _ h => nomatch h), hJ.1, by have := hJ.2.1; simp; omega, ?_⟩
  rw [take_snoc hc, List.filter_append, List.filter_cons_of_pos (by simpa using hne), List.filter_nil]
  exact hJ.2.2.snoc ⟨t, rfl⟩
theorem FJ.no {h₀ h' : Heap} {L : Addr} {m : Str → Option Value} {led tl : List (Addr × Obj)} {ys : List Value} {q i : Nat} {s₁ : Shared} {tk' : Nat} {c : Int} (hJ : FJ q i ys tl) (hc : PR[i]? = some c) (he : c = (q : Int)) (F : Fr h₀ L h' m) (N : News h₀ L h' led) :
    CEnd h₀ L m s₁ led tl (FJ q (i + 1) ys) { s₁ with heap := h', toks := tk' } := by
  refine ⟨_, _, [], rfl, F, N, (fun _ h => nomatch h), hJ.1, by have := hJ.2.1; omega, ?_⟩
  rw [take_snoc hc, List.filter_append, List.filter_cons_of_neg (by simpa using he), List.filter_nil, List.append_nil]
  exact hJ.2.2
/-- the modulus of the prime's draw -/
def Res6 (q : Nat) (s : Shared) (v : Value) (s' : Shared) : Prop := ∃ (z : Int) (t : Tok) (tk' : Nat), v = .int z t ∧ z = (if (q : Int) < 7 then 6 else 3) ∧ s' = { s with toks := tk' }
local macro_rules | `(tactic| walk_at "zzfresh") => `(tactic| skip)
theorem fresh50 : True := by
  w_top off
  trivial
def lawFn : Option (List Stmt × Scope) := match PySem.Challenge.pw_bw0042_01.main.body.getLast? with
  | some (.FunctionDef _ _ b _ _ _ sc _ _ _) => some (b, sc)
  | _ => none
/-- what the law does behind its root's making -/
def lawTail : List Stmt := match lawFn with
  | some (b, _) => b.drop 5
  | none => []
def lawScope : Option Scope := match lawFn with
  | some (_, sc) => some sc
  | none => none
theorem GV.cons {kd : Bool} {w : World} {p : Int} {n : Nat} {news : List (Addr × Obj)} {q : Addr × Obj} {x : Addr} {cs : List Int} (h : GV kd w p n news x cs) : GV kd w p n (q :: news) x cs := h.mono fun _ hr _ => List.mem_cons_of_mem _ hr
theorem WarmG.cons {kd : Bool} {news : List (Addr × Obj)} {q : Addr × Obj} (h : WarmG kd news) : WarmG kd (q :: news) := h.mono fun _ hr => List.mem_cons_of_mem _ hr
theorem red_rt {p : Int} (hp : 0 < p) {q : Nat} : Red p (rt p q) := red_map hp _
theorem red_gm {kd : Bool} {p : Int} (hp : 0 < p) {n : Nat} {cx cy : List Int} : Red p (gm kd p n cx cy) := by
  cases kd
  · exact red_pm hp
  · exact red_om hp
theorem red_pk {kd : Bool} {p : Int} (hp : 0 < p) {q : Nat} : ∀ k, Red p (pk kd p q k)
  | 0 => red_map hp _
  | _ + 1 => red_gm hp
theorem red_pdk {kd : Bool} {p : Int} (hp : 0 < p) {q : Nat} : ∀ k, Red p (pdk kd p q k)
  | 0 => red_map hp _
  | _ + 1 => red_gm hp
theorem red_whl {p : Int} (hp : 0 < p) {q : Nat} {st : Int} : Red p (whl p q st) := red_map hp _
theorem mem_apdL {news ex : List (Addr × Obj)} {q : Addr × Obj} (h : q ∈ ex) : q ∈ Apd ex news := List.mem_append_left _ h
theorem mem_apdLM {news ex : List (Addr × Obj)} {q : Addr × Obj} (h : q ∈ ex) : List.Mem q (Apd ex news) := mem_apdL h
theorem KTurnsS {prog : Program} {w : World} {A : Around} {target : Expr} {I : Addr} {fp wr : List Addr} {n : Nat} {P : Nat → Value → Prop} {St : Nat → Heap → Prop} (W : Walks prog w A I fp wr n P St)
    (hgo : ∀ i v (s : Shared) (Q : Unit → Shared → Prop) (E : Value → Shared → Prop), St i s.heap → Q () s → wpAny (model prog w) A (letOwnedTupleGo target (.ref I) v) Q E s) :
    KTurns prog w A target I fp wr n (fun i v h => P i v ∧ St (i + 1) h) (fun i v h => P i v ∧ St (i + 1) h) St where
  sub := W.sub
  frame := W.frame
  item := fun i s Q E hi st hQ => W.item i s Q E hi st fun v h' tk hP st' hk => hQ v h' tk ⟨hP, st'⟩ hk
  go := fun i v s Q E hm hQ => hgo (i + 1) v s Q E hm.2 (hQ s.heap hm hm.2 fun _ _ _ e => e)
  done := W.done
section
variable {prog : Program} {w : World} {A : Around} {E : Value → Shared → Prop} {s : Shared} {h₀ : Heap} {m : Str → Option Value} {env : Env} {x : Str} {px : Pos} {news : List (Addr × Obj)} {r : Addr} {a b c : Int} {t₀ u₀ v₀ : Tok} {n : Nat}
/-- a for loop over a range; its own objects are records -/
theorem fs_rngF {body : List Stmt} {J : Nat → (Str → Option Value) → List (Addr × Obj) → Prop} {Q : Flow → Shared → Prop} {R : Shared → Nat → (Nat → (Str → Option Value) → List (Addr × Obj) → Prop) → Prop} (hh : A.handled = none) (F : Fr h₀ env.locals s.heap m) (N : News h₀ env.locals s.heap news) (hr : IsRange s.heap r a b c t₀ u₀ v₀) (hs : Builtin.Range.small a b c = true ∧ Builtin.Range.rangeSize a b c = (n : Int))
    (hx : env.kindOf x = some .local) (hp : (env.scope.kind == .class || (env.scope.kind == .module && env.locals != env.globals)) = false) (j0 : J 0 m news)
    (step : ∀ h₂, ∀ i t m₁ news₁ (s₁ : Shared) own (E' : Value → Shared → Prop), i < n → J i m₁ news₁ → (∀ p ∈ own, ¬ Nf p.2) → Sm { s with heap := h₂ } s₁ → Fr h₀ env.locals s₁.heap (fun z => if z = x then some (.int (a + (i : Int) * c) t) else m₁ z) → News h₀ env.locals s₁.heap (Apd own news₁) →
      wpAny (model prog w) A (execs body env) (FPost h₀ env.locals s₁ own news₁ (J (i + 1)) Q) E' s₁)
    (hR : ∀ h', R { s with heap := h' } n J) :
    wpAny (model prog w) A (pyIter (.ref r)) (fun it s₂ => ∃ I fp wr n P Md St m news J, it = .ref I ∧ ForB prog w A h₀ env (.Name x px) body I s₂ fp wr n P Md St m news J Q ∧ R s₂ n J) E s := by
  refine iter_rng F N hr hs fun I h' F₁ N₁ hI hI1 hIL hI0 hst => ?_
  refine ⟨I, [I], [I], n, _, _, _, m, news, J, rfl, { W := KTurnsS (target := .Name x px) (rng_walks hh a c n) fun i v s' Q' E' st hq => wpAny_of_eq (rfl : letOwnedTupleGo (.Name x px) (.ref I) v = pure ()) hq, hL := ?_, hwr := ?_, wrIn := ?_, hnw := ?_, st := hst, F := F₁, N := N₁, j0 := j0, step := ?_ }, hR h'⟩
  · intro hq; exact hIL (List.mem_singleton.mp hq).symm
  · intro q hq; rw [List.mem_singleton.mp hq]; exact hI0
  · intro i h st q hq
    rw [List.mem_singleton.mp hq]; exact ⟨_, st⟩
  · intro q hq hw
    rw [List.mem_singleton] at hw
    exact Nat.lt_irrefl _ (hw ▸ hI q hq : I < I)
  · rintro i v m₁ news₁ s₁ own E' hi ⟨⟨_, t, rfl⟩, hst⟩ hJ ho hw hS F₂ N₂
    refine wpAny_assign_Name (wpAny_storeName_local hx F₂.ns (fun h₃ hn₃ hs₃ => ?_) hp)
    refine step h' i t m₁ news₁ { s₁ with heap := h₃, toks := s₁.toks + 1 } own E' hi hJ (fun q hq hn => ?_) (Sm.upd hS) (F₂.set hn₃ hs₃) (N₂.set hs₃)
    have e1 := (N₂ q (List.mem_append_left _ hq)).1
    rw [List.mem_singleton.mp (ho q hq)] at e1
    have e2 := Option.some.inj (e1.symm.trans hst)
    exact hn _ (by rw [e2])
end
section
variable {w : World} {h₀ : Heap} {L : Addr} {s₁ s₄ : Shared} {own news₁ G : List (Addr × Obj)} {J' : (Str → Option Value) → List (Addr × Obj) → Prop} {m' : Str → Option Value}
theorem fend_of (G : List (Addr × Obj)) (F : Fr h₀ L s₄.heap m') (N : News h₀ L s₄.heap (Apd G (Apd own news₁))) (hG : ∀ p ∈ G, ∀ q ∈ Apd own news₁, q.1 < p.1) (hJ : J' m' (Apd G news₁)) (hS : Sm s₁ s₄) : FEnd h₀ L s₁ own news₁ J' s₄ := by
  refine ⟨m', Apd G news₁, F, fun q hq => N q ?_, fun q hq => ?_, hJ, hS⟩
  · rcases List.mem_append.mp hq with hq | hq
    · exact mem_apd (List.mem_append_left _ hq)
    · exact (List.mem_append.mp hq).elim (fun h => List.mem_append_left _ h) fun h => mem_apd (mem_apd h)
  · exact (List.mem_append.mp hq).elim (fun h => .inr (hG q h)) fun h => .inl ⟨q, h, rfl⟩
theorem gv_drop {kd : Bool} {p : Int} {n : Nat} {x : Addr} {cs : List Int} (ho : ∀ q ∈ own, ¬ Nf q.2) (h : GV kd w p n (Apd G (Apd own news₁)) x cs) : GV kd w p n (Apd G news₁) x cs := h.mono fun q hq hn => by
  rcases List.mem_append.mp hq with hq | hq
  · exact List.mem_append_left _ hq
  · exact (List.mem_append.mp hq).elim (fun h => absurd hn (ho q h)) fun h => mem_apd h
end
theorem ord_app {a b c : List (Addr × Obj)} (h1 : ∀ p ∈ a, ∀ q ∈ Apd b c, q.1 < p.1) (h2 : ∀ p ∈ b, ∀ q ∈ c, q.1 < p.1) : ∀ p ∈ a ++ b, ∀ q ∈ c, q.1 < p.1 := fun p hp q hq => by
  rcases List.mem_append.mp hp with hp | hp
  · exact h1 p hp q (mem_apd hq)
  · exact h2 p hp q hq
theorem ord_one {x : Addr} {o : Obj} {b c : List (Addr × Obj)} (h1 : ∀ q ∈ Apd b c, q.1 < x) (h2 : ∀ p ∈ b, ∀ q ∈ c, q.1 < p.1) : ∀ p ∈ (x, o) :: b, ∀ q ∈ c, q.1 < p.1 :=
  List.forall_mem_cons.mpr ⟨fun q hq => h1 q (mem_apd hq), h2⟩
theorem apd3 {a : Addr × Obj} {b c : List (Addr × Obj)} : a :: Apd b c = Apd (a :: b) c := rfl
section
variable {w : World} {A₀ : Around} {dp un : Nat} {gd : Option (List Code)} {env : Env} {outer : List Env} {base h₀ : Heap} {L : Addr} {m : Str → Option Value} {news : List (Addr × Obj)} {s : Shared} {pr : Program} {loose : List Str} {mean : ExcName → Option Value} {mg mb : Str → Option Value}
  {p a : Int} {Q E : Value → Shared → Prop} {kd : Bool}
theorem gpowZ {x : Addr} {cx : List Int} {n k : Nat} {z : Int} {tk0 : Tok} (C : Cx w A₀ env outer base h₀ L pr loose mean mg mb) (F : Fr h₀ L s.heap m) (N : News h₀ L s.heap news) (hbr : AllBare s.gens) (hW : WarmG kd news)
    (hx : GV kd w p n news x cx) (hz : n ≤ 100) (hn0 : 0 < n) (hred : Red p cx) (hp60 : p < 2 ^ 60) (hk : z = (k : Int)) (hk30 : k ≤ 30)
    (hdp : dp + 400 < recursionLimit) (hp : 0 < p) (ret : GRet kd w h₀ L m news p n (gp kd p n k cx) s Q) :
    wpAny (model PySem.Challenge.rw_bw0042_01.row.prog w) (ar dp un gd env outer) (binaryOp .Pow (.ref x) (.int z tk0)) Q E s := by
  subst hk
  exact gpow C F N hbr hW hx hz hn0 hred hp60 hk30 hdp hp ret
theorem geqB {x y : Addr} {cx cy : List Int} {n : Nat} {b : Bool} (C : Cx w A₀ env outer base h₀ L pr loose mean mg mb) (F : Fr h₀ L s.heap m) (N : News h₀ L s.heap news)
    (hx : GV kd w p n news x cx) (hy : GV kd w p n news y cy) (hz : n ≤ 100)
    (hdp : dp + 80 < recursionLimit) (hun : un + 400 < cLine) (e : (cx == cy) = b) (ret : ∀ s', Sm s s' → Fr h₀ L s'.heap m → News h₀ L s'.heap news → Q (.bool b) s') :
    wpAny (model PySem.Challenge.rw_bw0042_01.row.prog w) (ar dp un gd env outer) (compareOp .Eq (.ref x) (.ref y)) Q E s := by
  subst e
  exact geq C F N hx hy hz hdp hun ret
end
theorem Sm.to {s a b : Shared} (h : Sm a b) (k : Sm s a) : Sm s b := Sm.trans k h
local macro_rules | `(tactic| walk_at "compareOp Eq ref ref") => `(tactic| (k_here; (with_reducible show wpAny _ _ (compareOp CmpOp.Eq (Value.ref _) (Value.ref _)) _ _ _); refine hold_on ?_))
local macro_rules | `(tactic| k_mem) => `(tactic| ((first | (with_reducible refine' mem_apdLM ?h) | (with_reducible refine' mem_apdL ?h)); (case h => assumption)))
local macro_rules | `(tactic| walk_at "zgv") => `(tactic| first | with_reducible assumption | ((with_reducible show GV _ _ _ _ (_ :: _) _ _); exact GV.cons (by walk_at "zgv")) | ((with_reducible show GV _ _ _ _ (Apd _ _) _ _); exact GV.app (by walk_at "zgv")))
local macro_rules | `(tactic| walk_at "zwg") => `(tactic| with_reducible first | assumption | (refine' WarmG.cons ?h; (case h => walk_at "zwg")) | (refine' WarmG.app ?h; (case h => walk_at "zwg")))
local macro_rules | `(tactic| walk_at "binaryOp Mult") => `(tactic| (k_here; (with_reducible show wpAny _ _ (binaryOp _ (Value.ref _) (Value.ref _)) _ _ _); k_dflt (
  refine' gmul ?zC ?zF ?zN ?zb ?zW ?zhx ?zhy ?zhz ?zn0 ?zrd ?zp6 ?zdp ?zp ?_; (case zC => exact Cx.mk (by k_asm) (by k_asm) (by k_asm) (by first | exact rfl | assumption) (by first | exact rfl | assumption)); (case zF => k_asm); (case zN => k_asm); (case zhx => walk_at "zgv"); (case zhy => walk_at "zgv"); (case zb => assumption); (case zW => walk_at "zwg"); (case zhz => with_reducible assumption); (case zn0 => with_reducible assumption); (case zrd => with_reducible assumption); (case zp6 => with_reducible assumption); (case zdp => first | decide | k_room); (case zp => with_reducible assumption); k_whole); intro x' ex' s' hSm' F' N' lo' hv'; (have hbr' := Sm.bare hSm' (by assumption)); (try k_sweep)))
local macro_rules | `(tactic| walk_at "binaryOp Add") => `(tactic| (k_here; (with_reducible show wpAny _ _ (binaryOp _ (Value.ref _) (Value.ref _)) _ _ _); k_dflt (
  refine' gadd ?zC ?zF ?zN ?zb ?zW ?zhx ?zhy ?zhz ?zn0 ?zdp ?zp ?_; (case zC => exact Cx.mk (by k_asm) (by k_asm) (by k_asm) (by first | exact rfl | assumption) (by first | exact rfl | assumption)); (case zF => k_asm); (case zN => k_asm); (case zhx => walk_at "zgv"); (case zhy => walk_at "zgv"); (case zb => assumption); (case zW => walk_at "zwg"); (case zhz => with_reducible assumption); (case zn0 => with_reducible assumption); (case zdp => first | decide | k_room); (case zp => with_reducible assumption); k_whole); intro x' ex' s' hSm' F' N' lo' hv'; (have hbr' := Sm.bare hSm' (by assumption)); (try k_sweep)))
local macro_rules | `(tactic| walk_at "binaryOp Sub") => `(tactic| (k_here; (with_reducible show wpAny _ _ (binaryOp _ (Value.ref _) (Value.ref _)) _ _ _); k_dflt (
  refine' gsub ?zC ?zF ?zN ?zb ?zW ?zhx ?zhy ?zhz ?zn0 ?zdp ?zp ?_; (case zC => exact Cx.mk (by k_asm) (by k_asm) (by k_asm) (by first | exact rfl | assumption) (by first | exact rfl | assumption)); (case zF => k_asm); (case zN => k_asm); (case zhx => walk_at "zgv"); (case zhy => walk_at "zgv"); (case zb => assumption); (case zW => walk_at "zwg"); (case zhz => with_reducible assumption); (case zn0 => with_reducible assumption); (case zdp => first | decide | k_room); (case zp => with_reducible assumption); k_whole); intro x' ex' s' hSm' F' N' lo' hv'; (have hbr' := Sm.bare hSm' (by assumption)); (try k_sweep)))
local macro_rules | `(tactic| walk_at "binaryOp Pow") => `(tactic| (k_here; (with_reducible show wpAny _ _ (binaryOp _ (Value.ref _) (Value.int _ _)) _ _ _); k_dflt (
  refine' gpowZ ?zC ?zF ?zN ?zb ?zW ?zhx ?zhz ?zn0 ?zrd ?zp6 ?zkz ?zk3 ?zdp ?zp ?_; (case zC => exact Cx.mk (by k_asm) (by k_asm) (by k_asm) (by first | exact rfl | assumption) (by first | exact rfl | assumption)); (case zF => k_asm); (case zN => k_asm); (case zhx => walk_at "zgv"); (case zb => assumption); (case zW => walk_at "zwg"); (case zhz => with_reducible assumption); (case zn0 => with_reducible assumption); (case zrd => with_reducible assumption); (case zp6 => with_reducible assumption); (case zkz => with_reducible assumption); (case zk3 => with_reducible assumption); (case zdp => first | decide | k_room); (case zp => with_reducible assumption); k_whole); intro x' ex' s' hSm' F' N' lo' hv'; (have hbr' := Sm.bare hSm' (by assumption)); (try k_sweep)))
local macro_rules | `(tactic| walk_at "compareOp Eq ref ref") => `(tactic| (k_here; (with_reducible show wpAny _ _ (compareOp CmpOp.Eq (Value.ref _) (Value.ref _)) _ _ _); k_dflt (
  refine' geqB ?zC ?zF ?zN ?zhx ?zhy ?zhz ?zdp ?zu ?ze ?_; (case zC => exact Cx.mk (by k_asm) (by k_asm) (by k_asm) (by first | exact rfl | assumption) (by first | exact rfl | assumption)); (case zF => k_asm); (case zN => k_asm); (case zhx => walk_at "zgv"); (case zhy => walk_at "zgv"); (case zhz => with_reducible assumption); (case zdp => first | decide | k_room); (case zu => first | (exact Nat.le_of_ble_eq_true rfl) | k_units); (case ze => with_reducible assumption); k_whole); intro s' hSm' F' N'; (have hbr' := Sm.bare hSm' (by assumption)); (try k_sweep)))
local macro_rules | `(tactic| walk_at "getMethod ref") => `(tactic| (k_here; (with_reducible show wpAny _ _ (getMethod (Value.ref _) (PySem.Str.ofString "one") _) _ _ _); k_dflt (
  refine' gcone ?zC ?zF ?zN ?zb ?zW ?zhx ?zhz ?zn0 ?zdp ?zp ?_; (case zC => exact Cx.mk (by k_asm) (by k_asm) (by k_asm) (by first | exact rfl | assumption) (by first | exact rfl | assumption)); (case zF => k_asm); (case zN => k_asm); (case zhx => walk_at "zgv"); (case zb => assumption); (case zW => walk_at "zwg"); (case zhz => with_reducible assumption); (case zn0 => with_reducible assumption); (case zdp => first | decide | k_room); (case zp => with_reducible assumption); k_whole); intro x' ex' s' hSm' F' N' lo' hv'; (have hbr' := Sm.bare hSm' (by assumption)); (try k_sweep)))
local macro_rules | `(tactic| walk_at "getMethod ref") => `(tactic| (k_here; (with_reducible show wpAny _ _ (getMethod (Value.ref _) (PySem.Str.ofString "zero") _) _ _ _); k_dflt (
  refine' gczero ?zC ?zF ?zN ?zb ?zW ?zhx ?zhz ?zn0 ?zdp ?zp ?_; (case zC => exact Cx.mk (by k_asm) (by k_asm) (by k_asm) (by first | exact rfl | assumption) (by first | exact rfl | assumption)); (case zF => k_asm); (case zN => k_asm); (case zhx => walk_at "zgv"); (case zb => assumption); (case zW => walk_at "zwg"); (case zhz => with_reducible assumption); (case zn0 => with_reducible assumption); (case zdp => first | decide | k_room); (case zp => with_reducible assumption); k_whole); intro x' ex' s' hSm' F' N' lo' hv'; (have hbr' := Sm.bare hSm' (by assumption)); (try k_sweep)))
local macro_rules | `(tactic| walk_at "call ref") => `(tactic| (k_here; (with_reducible show wpAny _ _ (call (Value.ref 445) _) _ _ _); k_dflt (
  refine' gplain ?zC ?zF ?zN ?zhx ?zhz ?zdp ?zp ?_; (case zC => exact Cx.mk (by k_asm) (by k_asm) (by k_asm) (by first | exact rfl | assumption) (by first | exact rfl | assumption)); (case zF => k_asm); (case zN => k_asm); (case zhx => walk_at "zgv"); (case zhz => with_reducible assumption); (case zdp => first | decide | k_room); (case zp => with_reducible assumption); k_whole); intro D' vs' k' ex' s' hSm' F' N' lo' mD' hI'; (have hbr' := Sm.bare hSm' (by assumption)); (try k_sweep)))
local macro_rules | `(tactic| walk_at "call ref") => `(tactic| (k_here; (with_reducible show wpAny _ _ (call (Value.ref 455) _) _ _ _); k_dflt (
  refine' gpwr ?zC ?zF ?zN ?zq ?zq2 ?zd ?_; (case zC => exact Cx.mk (by k_asm) (by k_asm) (by k_asm) (by first | exact rfl | assumption) (by first | exact rfl | assumption)); (case zF => k_asm); (case zN => k_asm); (case zq => with_reducible assumption); (case zq2 => with_reducible assumption); (case zd => first | decide | k_room); k_whole); intro D' vs' k' ex' s' hSm' F' N' lo' mD' hI'; (have hbr' := Sm.bare hSm' (by assumption)); (try k_sweep)))
local macro_rules | `(tactic| walk_at "call ref") => `(tactic| (k_here; (with_reducible show wpAny _ _ (call (Value.ref 450) _) _ _ _); k_dflt (
  refine' gmark ?zC ?zF ?zN ?zq ?zq2 ?zd ?_; (case zC => exact Cx.mk (by k_asm) (by k_asm) (by k_asm) (by first | exact rfl | assumption) (by first | exact rfl | assumption)); (case zF => k_asm); (case zN => k_asm); (case zq => with_reducible assumption); (case zq2 => with_reducible assumption); (case zd => first | decide | k_room); k_whole); intro h' tk' t' F' N'; (try k_sweep)))
local macro_rules | `(tactic| walk_at "call ref") => `(tactic| (k_here; (with_reducible show wpAny _ _ (call (Value.ref 460) _) _ _ _); k_dflt (
  refine' gsum ?zC ?zF ?zN ?zb ?zq ?zq2 ?zs0 ?zs1 ?zd ?_; (case zC => exact Cx.mk (by k_asm) (by k_asm) (by k_asm) (by first | exact rfl | assumption) (by first | exact rfl | assumption)); (case zF => k_asm); (case zN => k_asm); (case zb => assumption); (case zq => with_reducible assumption); (case zq2 => with_reducible assumption); (case zs0 => omega); (case zs1 => omega); (case zd => first | decide | k_room); k_whole); intro D' vs' k' ex' s' hSm' F' N' lo' mD' hI'; (have hbr' := Sm.bare hSm' (by assumption)); (try k_sweep)))
local macro_rules | `(tactic| walk_at "compareOp NotEq ref ref") => `(tactic| (k_here; (with_reducible show wpAny _ _ (compareOp CmpOp.NotEq (Value.ref _) (Value.ref _)) _ _ _); k_dflt (
  refine' l_ne ?zN ?zm ?zi ?zm2 ?zi2 ?zu ?ze ?_; (case zN => k_asm); (case zm => k_mem); (case zm2 => k_mem); (case zi => with_reducible assumption); (case zi2 => with_reducible assumption); (case zu => first | (exact Nat.le_of_ble_eq_true rfl) | k_units); (case ze => with_reducible assumption); k_whole)))
local macro_rules | `(tactic| walk_at "zsm") => `(tactic| first | assumption | exact Sm.refl _ | (refine Sm.to (by assumption) ?_; walk_at "zsm"))
theorem fresh51 : True := by
  w_top off
  trivial
def Res4 (q : Nat) (s : Shared) (v : Value) (s' : Shared) : Prop := ∃ (z : Int) (t : Tok) (tk' : Nat), v = .int z t ∧ z = (if q % 4 = 1 then (q : Int) else 0 - (q : Int)) ∧ s' = { s with toks := tk' }
theorem law_ways {w : World} {h₀ : Heap} {L fa x : Addr} {cd : Value} {kd : Bool} {q p st wy : Nat} {c1 c2 c3 : Obj} {nb : List (Addr × Obj)} {s : Shared} {m : Str → Option Value} {pr : Program} {loose : List Str} {mean : ExcName → Option Value} {mg mb : Str → Option Value} {tq tp ts : Tok}
    {bd : List Stmt} {sc : Scope} {Q : Flow → Shared → Prop} {E : Value → Shared → Prop} (hbd : bd = lawTail) (hsc : some sc = lawScope) (hd : Drw kd q p st) (hw : wy < 4)
    (X : (Mine.hd.heap_39 w.params).In h₀) (T : Top pr loose mean mg mb h₀) (K : Below callerA h₀ [] h₀) (F : Fr h₀ L s.heap m) (N : News h₀ L s.heap nb) (hbr : AllBare s.gens) (hW : WarmG kd nb)
    (k1 : (L + 1 + 1 + 1, c1) ∈ nb) (k2 : (L + 1 + 1, c2) ∈ nb) (k3 : (L + 1, c3) ∈ nb) (d1 : c1.data = .cell (some (.int (st : Int) ts))) (d2 : c2.data = .cell (some (.int (p : Int) tp))) (d3 : c3.data = .cell (some (.int (q : Int) tq)))
    (hm1 : ∃ tk0, m (Str.ofString "kind") = some (.int (if kd = true then 1 else 0) tk0)) (hm2 : ∃ tw, m (Str.ofString "way") = some (.int (wy : Int) tw)) (hx : GV kd w p (q - 1) nb x (rt p q))
    (hQ : ∀ s' m', Sm s s' → Fr h₀ L s'.heap m' → News h₀ L s'.heap nb → Q (.ret (.bool true)) s') :
    wpAny (model PySem.Challenge.rw_bw0042_01.row.prog w) (callerA.deeper (envOfC (Str.ofString "law") sc L fa cd)) (storeName (envOfC (Str.ofString "law") sc L fa cd) (Str.ofString "root") (.ref x))
      (fun _ s' => wpAny (model PySem.Challenge.rw_bw0042_01.row.prog w) (callerA.deeper (envOfC (Str.ofString "law") sc L fa cd)) (execs bd (envOfC (Str.ofString "law") sc L fa cd)) Q E s') E s := by
  obtain ⟨tk0, hm1⟩ := hm1
  obtain ⟨tw, hm2⟩ := hm2
  obtain ⟨hq3, hq7⟩ := drw_q hd
  obtain ⟨hp2, hp17⟩ := drw_p hd
  obtain ⟨hst1, hst2⟩ : 1 ≤ st ∧ st < q := hd.2.2.2
  have hp0 : (p : Int) ≠ 0 := by omega
  conv at hbd => rhs; whnf
  conv at hsc => rhs; whnf
  have hsc := Option.some.inj hsc
  subst hbd hsc
  revert X; k_fill; intro X
  have hp1 : 0 < (p : Int) := by omega
  have hp60 : (p : Int) < 2 ^ 60 := by omega
  have hn0 : 0 < q - 1 := by omega
  have hn100 : q - 1 ≤ 100 := by omega
  have hq0 : 0 < q := by omega
  have hq100 : q ≤ 100 := by omega
  have hrr : Red (p : Int) (rt p q) := red_rt hp1
  k_steps
  · rename (wy : Int) = 0 => hw0
    unfold HoldOn
    rename IntsAre _ (_ ++ _) => hI1
    rename Fr _ _ _ _ => F1
    rename News _ _ _ _ => N1
    have e1 : ([1] ++ (List.replicate ((q : Int) - 2).toNat [0]).flatten : List Int) = 1 :: List.replicate (q - 2) 0 := by
      rw [show ((q : Int) - 2).toNat = q - 2 by omega, List.flatten_replicate_singleton]; rfl
    rw [e1] at hI1
    have hv1 := ints_iv hI1
    refine gmadeW (kd := kd) (n := q - 1) (Cx.mk K X T rfl rfl) F1 N1 hbr (by walk_at "zwg") (by k_mem) hv1 (hv1.1.trans (by simp; omega)) hn0 hn100 (by decide) hp1 ?_
    intro x1 ex1 s1 hS1 F2 N2 lo1 hg1
    have hbr1 : AllBare s1.gens := Sm.bare hS1 hbr
    clear F1 N1 hI1
    k_steps
    unfold HoldOn
    rename IntsAre _ _ => hI2
    rename Fr _ _ _ _ => F3
    rename News _ _ _ _ => N3
    have e2 : ((List.replicate ((q : Int) - 1).toNat [0]).flatten : List Int) = List.replicate (q - 1) 0 := by
      rw [show ((q : Int) - 1).toNat = q - 1 by omega, List.flatten_replicate_singleton]
    rw [e2] at hI2
    have hv2 := ints_iv hI2
    refine gmadeW (kd := kd) (n := q - 1) (Cx.mk K X T rfl rfl) F3 N3 hbr1 (by walk_at "zwg") (by k_mem) hv2 (hv2.1.trans (by simp)) hn0 hn100 (by decide) hp1 ?_
    intro x2 ex2 s2 hS2 F4 N4 lo2 hg2
    have hbr2 : AllBare s2.gens := Sm.bare hS2 hbr1
    clear F3 N3 hI2
    k_steps
    unfold HoldOn
    rename Fr _ _ _ _ => F5
    rename News _ _ _ _ => N5
    have hg1 : GV kd w p (q - 1) _ x1 (pk kd p q 0) := hg1
    have hg2 : GV kd w p (q - 1) _ x2 (Mine.tk kd p q 0) := hg2
    refine gen_led N5 fun nb1 enb N6 => ?_
    have up1 : ∀ r ∈ nb, r ∈ nb1 := fun r hr => by rw [← enb]; k_mem
    have hg1 : GV kd w p (q - 1) nb1 x1 (pk kd p q 0) := by rw [← enb]; walk_at "zgv"
    have hg2 : GV kd w p (q - 1) nb1 x2 (Mine.tk kd p q 0) := by rw [← enb]; walk_at "zgv"
    have k1a := up1 _ k1
    have k2a := up1 _ k2
    have k3a := up1 _ k3
    clear N5 enb lo1 lo2
    refine for_KF F5 (by intro _; with_unfolding_all rfl) ?zo
    case zo =>
      k_steps
      rename IsRange _ _ _ _ _ _ _ _ => hR
      rename Fr _ _ _ _ => F7
      rename News _ _ _ _ => N7
      refine' fs_rngF (n := q) (J := fun i m₁ news₁ => m₁ (Str.ofString "root") = some (.ref x) ∧ m₁ (Str.ofString "kind") = some (.int (if kd = true then 1 else 0) tk0) ∧ ∃ xp xt, m₁ (Str.ofString "power") = some (.ref xp) ∧ m₁ (Str.ofString "total") = some (.ref xt) ∧ (∀ r ∈ nb, r ∈ news₁) ∧ GV kd w p (q - 1) news₁ xp (pk kd p q i) ∧ GV kd w p (q - 1) news₁ xt (Mine.tk kd p q i)) rfl F7 N7 hR ?zhs ?zhx ?zhp ?zj0 ?zst ?zR
      case zhs =>
        have := rng_up (k := (q : Int)) (by omega) (by omega)
        rwa [Int.toNat_natCast] at this
      case zhx => with_unfolding_all rfl
      case zhp => with_unfolding_all rfl
      case zj0 => exact ⟨(if_neg (by decide)).trans ((if_neg (by decide)).trans (if_pos rfl)), (if_neg (by decide)).trans ((if_neg (by decide)).trans ((if_neg (by decide)).trans hm1)), x1, x2, if_pos rfl, (if_neg (by decide)).trans (if_pos rfl), up1, hg1, hg2⟩
      case zst =>
        rintro hI0 i t m₁ news₁ s₁ own E' hi ⟨hm₁r, hm₁k, xp, xt, hm₁p, hm₁t, hup, hgp, hgt⟩ hownf hS F8 N8
        have ez : (0 : Int) + (i : Int) * 1 = i := by omega
        rw [ez] at F8
        have k1' := hup _ k1
        have k2' := hup _ k2
        have k3' := hup _ k3
        have hx' : GV kd w p (q - 1) news₁ x (rt p q) := hx.mono fun r hr _ => hup r hr
        have hW' : WarmG kd news₁ := hW.mono hup
        have hbr8 : AllBare s₁.gens := Sm.bare hS hbr2
        have hri : Red (p : Int) (pk kd p q i) := red_pk hp1 i
        have hne : (!decide ((pk kd p q i).map (· % (p : Int)) = (pwr i q).map (· % (p : Int)))) = false := by rw [decide_eq_true (w0a hd hi)]; rfl
        clear F7 N7 hR
        k_steps
        unfold HoldOn
        rename Fr _ _ _ _ => F9
        rename Sm _ _ => hS9
        rename (∀ p ∈ _, ∀ q ∈ _, _ < _) => lo9
        rename List (Addr × Obj) => ex9
        refine comp_KF F9 (by with_unfolding_all rfl) (by decide) rfl (by decide) (by intro _; with_unfolding_all rfl) ?zmain
        case zmain =>
          k_steps
          rename Fr _ _ _ _ => F10
          rename News _ _ _ _ => N10
          rename Sm _ _ => hS10
          rename (∀ p ∈ _, ∀ q ∈ _, _ < _) => lo10
          rename List (Addr × Obj) => ex10
          rename All2 IntV _ (pwr _ q) => hI10
          refine' cs_sq (J := IJ ((pwr (i : Int) q).map (· % (p : Int)))) rfl F10 N10 ?yzb (Sq.lo _ _) ?yzz ?yzx ?yzkk ?yzjl ?yzj0 ?yzst ?yzR
          case yzb => k_mem
          case yzz => rw [hI10.1, pwr_len]; omega
          case yzx => with_unfolding_all rfl
          case yzkk => rfl
          case yzjl => exact fun i ys tl h => Nat.le_of_eq h.2.1
          case yzj0 => exact IJ.zero
          case yzst =>
            intro ha2 j v ys tl C oC m3 h tk led E' hv hJ hoC mx hC hl F6 N6
            obtain ⟨c, hc, cu, rfl⟩ := hI10.get hv
            have x2 := hl _ (List.mem_append_right _ (mem_apd (mem_apd (mem_apd k2'))))
            have hcc : ((pwr (i : Int) q).map (· % (p : Int)))[j]? = some (c.fmod (p : Int)) := by rw [List.getElem?_map, hc, fm1 hp1]; rfl
            clear hl N10 F10
            k_steps
            exact hJ.step hcc (by assumption) (by assumption)
          case yzR =>
            intro h' ys D3 h2 tk tl hJ F6 N6 o1' o2' o3'
            obtain ⟨rfl, hl, hcs⟩ := hJ.done (by rw [List.length_map, ← hI10.1])
            simp only [List.nil_append] at N6
            have N7 : News _ _ h2 ((D3, lo ys ys.length) :: _) := N6
            clear N6 N10 F10
            k_steps
            dsimp only [FPost]
            rename_i xm exm sm hSm lom hvm hbm xa exa sa2 hSa loa hva hba Dt ht3 lt ht2 ht1 ht0 Ft Nt
            refine gen_led Nt fun Ls eL Nt => ?_
            have hva : GV kd w p (q - 1) Ls xa (Mine.tk kd p q (i + 1)) := by rw [← eL]; exact GV.cons hva
            have hvm : GV kd w p (q - 1) Ls xm (pk kd p q (i + 1)) := by rw [← eL]; exact GV.cons (GV.app hvm)
            have hG : Ls = Apd (((Dt, tup [.ref xm, .ref xa]) :: (exa ++ (exm ++ ((D3, lo ys ys.length) :: (ex10 ++ ex9)))))) (Apd own news₁) := by rw [← eL]; simp only [Apd, List.append_assoc, List.cons_append]
            have hGo : ∀ p ∈ ((Dt, tup [.ref xm, .ref xa]) :: (exa ++ (exm ++ ((D3, lo ys ys.length) :: (ex10 ++ ex9))))), ∀ q ∈ Apd own news₁, q.1 < p.1 := by
              intro r hr y hy
              rcases List.mem_cons.mp hr with rfl | hr
              · exact lt y (mem_apd (mem_apd (List.mem_cons_of_mem _ (mem_apd (mem_apd hy)))))
              rcases List.mem_append.mp hr with hr | hr
              · exact loa r hr y (mem_apd (List.mem_cons_of_mem _ (mem_apd (mem_apd hy))))
              rcases List.mem_append.mp hr with hr | hr
              · exact lom r hr y (List.mem_cons_of_mem _ (mem_apd (mem_apd hy)))
              rcases List.mem_cons.mp hr with rfl | hr
              · exact o3' y (mem_apd (mem_apd hy))
              rcases List.mem_append.mp hr with hr | hr
              · exact lo10 r hr y (mem_apd hy)
              · exact lo9 r hr y hy
            subst hG
            refine fend_of _ Ft Nt hGo ⟨(if_neg (by decide)).trans ((if_neg (by decide)).trans ((if_neg (by decide)).trans hm₁r)), (if_neg (by decide)).trans ((if_neg (by decide)).trans ((if_neg (by decide)).trans hm₁k)), xm, xa, if_pos rfl, (if_neg (by decide)).trans (if_pos rfl), fun r hr => mem_apd (hup r hr), gv_drop hownf hvm, gv_drop hownf hva⟩ ?_
            exact (hS9.trans hS10).trans (hSm.trans hSa)
      case zR =>
        rintro h' s' m' news' ⟨hm₁r, hm₁k, xp, xt, hm₁p, hm₁t, hup, hgp, hgt⟩ hS F8 N8
        have k1' := hup _ k1
        have k2' := hup _ k2
        have k3' := hup _ k3
        have hx' : GV kd w p (q - 1) news' x (rt p q) := hx.mono fun r hr _ => hup r hr
        have hW' : WarmG kd news' := hW.mono hup
        have hbr8 : AllBare s'.gens := Sm.bare hS hbr2
        clear F7 N7 hR
        have hSs : Sm s s' := ((Sm.trans hS1 hS2).trans hS)
        have f1 : (pk kd p q q == gone p (q - 1)) = true := w0b hd
        have f2 : (Mine.tk kd p q q == gzero p (q - 1)) = true := w0c hd
        have he1 : (q : Int) + (st : Int) = ((q + st : Nat) : Int) := by omega
        have he2 : (st : Int) = (st : Int) := rfl
        have hk1 : q + st ≤ 30 := by omega
        have hk2 : st ≤ 30 := by omega
        have f3 := fun hn => w0d (kd := kd) hd hn
        cases kd
        · simp only [Bool.false_eq_true, if_false] at hm₁k
          by_cases hq3' : q > 3
          · k_steps
            dsimp only
            rename Fr _ _ _ _ => kF
            rename News _ _ _ _ => kN
            exact hQ _ _ (by walk_at "zsm") kF (fun r hr => kN r (by repeat (first | exact hup r hr | apply mem_apd)))
          · have f3 := f3 (fun h => hq3' h.2)
            k_steps
            dsimp only
            rename Fr _ _ _ _ => kF
            rename News _ _ _ _ => kN
            exact hQ _ _ (by walk_at "zsm") kF (fun r hr => kN r (by repeat (first | exact hup r hr | apply mem_apd)))
        · simp only [if_true] at hm₁k
          have f3 := f3 (fun h => nomatch h.1)
          k_steps
          dsimp only
          rename Fr _ _ _ _ => kF
          rename News _ _ _ _ => kN
          exact hQ _ _ (by walk_at "zsm") kF (fun r hr => kN r (by repeat (first | exact hup r hr | apply mem_apd)))
  · unfold HoldOn
    rename Fr _ _ _ _ => F1
    rename News _ _ _ _ => N1
    rename All2 IntV _ _ => hv1
    refine gmadeW (kd := kd) (n := q - 1) (Cx.mk K X T rfl rfl) F1 N1 (by assumption) (by walk_at "zwg") (by k_mem) hv1 (hv1.1.trans (by rw [lsum_len])) hn0 hn100 (by decide) hp1 ?_
    intro x1 ex1 s1 hS1 F2 N2 lo1 hg1
    have hbr1 : AllBare s1.gens := Sm.bare hS1 (by assumption)
    have hg1 : GV kd w p (q - 1) _ x1 (whl p q st) := hg1
    clear F1 N1
    have hrw : Red (p : Int) (whl p q st) := red_whl hp1
    k_steps
    · rename (wy : Int) = 1 => hw1
      unfold HoldOn
      rename Fr _ _ _ _ => F3
      rename News _ _ _ _ => N3
      rename All2 IntV _ _ => hI3
      rename Shared => s3
      refine join2 (Res4 q s3) (IfExp_ ?zi) ?zj
      case zi =>
        k_steps
        · rename Int.fmod _ _ = _ => hlt
          refine ⟨_, _, _, rfl, ?_, rfl⟩
          rw [Int.fmod_eq_emod_of_nonneg _ (by omega)] at hlt
          rw [if_pos (by omega)]
        · rename Int.fmod _ _ ≠ _ => hlt
          refine ⟨_, _, _, rfl, ?_, rfl⟩
          rw [Int.fmod_eq_emod_of_nonneg _ (by omega)] at hlt
          rw [if_neg (by omega)]
      case zj =>
        rintro _ _ ⟨z, tz, tkz, rfl, hz, rfl⟩
        k_steps
        unfold HoldOn
        rename IntsAre _ (_ ++ _) => hI5
        rename Fr _ _ _ _ => F5
        rename News _ _ _ _ => N5
        have e5 : ([z.fmod (p : Int)] ++ (List.replicate ((q : Int) - 2).toNat [0]).flatten : List Int) = (z % (p : Int)) :: List.replicate (q - 2) 0 := by
          rw [show ((q : Int) - 2).toNat = q - 2 by omega, List.flatten_replicate_singleton, fm1 hp1]; rfl
        rw [e5, hz] at hI5
        have hv5 := ints_iv hI5
        refine' l_eq N5 ?ym hI3 List.mem_cons_self hv5 ?yu (decide_eq_true (w1 hd)) ?_
        case ym => repeat (first | exact mem_apdL (by assumption) | apply List.mem_cons_of_mem)
        case yu => exact Nat.le_of_ble_eq_true rfl
        exact hQ _ _ (by walk_at "zsm") F5 (fun r hr => N5 r (by repeat (first | exact hr | apply mem_apd | apply List.mem_cons_of_mem)))
    · rename (wy : Int) = 2 => hw2
      have hne : (!decide ((whl p q st).map (· % (p : Int)) = (lsum 1 q (q - 1)).map (fun x => mk st q * x % (p : Int)))) = false := by rw [decide_eq_true (w2a hd)]; rfl
      unfold HoldOn
      rename Fr _ _ _ _ => F3
      refine comp_KF F3 (by with_unfolding_all rfl) (by decide) rfl (by decide) (by intro _; with_unfolding_all rfl) ?ymain
      case ymain =>
        k_steps
        rename Fr _ _ _ _ => F4
        rename News _ _ _ _ => N4
        rename All2 IntV _ (lsum 1 q (q - 1)) => hI4
        refine' cs_sq (J := IJ ((lsum 1 q (q - 1)).map (fun x => mk st q * x % (p : Int)))) rfl F4 N4 ?yzb (Sq.lo _ _) ?yzz ?yzx ?yzkk ?yzjl ?yzj0 ?yzst ?yzR
        case yzb => exact mem_apd (mem_apdL (by assumption))
        case yzz => rw [hI4.1, lsum_len]; omega
        case yzx => with_unfolding_all rfl
        case yzkk => rfl
        case yzjl => exact fun i ys tl h => Nat.le_of_eq h.2.1
        case yzj0 => exact IJ.zero
        case yzst =>
          intro ha2 j v ys tl C oC m3 h tk led E' hv hJ hoC mx hC hl F6 N6
          obtain ⟨c, hc, cu, rfl⟩ := hI4.get hv
          have x1 := hl _ (List.mem_append_right _ (by repeat (first | exact k1 | apply mem_apd) : (L + 1 + 1 + 1, c1) ∈ _))
          have x2 := hl _ (List.mem_append_right _ (by repeat (first | exact k2 | apply mem_apd) : (L + 1 + 1, c2) ∈ _))
          have x3 := hl _ (List.mem_append_right _ (by repeat (first | exact k3 | apply mem_apd) : (L + 1, c3) ∈ _))
          have hmf := mk_fits (st : Int) c q
          have hcc : ((lsum 1 q (q - 1)).map (fun x => mk st q * x % (p : Int)))[j]? = some ((mk st q * c).fmod (p : Int)) := by rw [List.getElem?_map, hc, fm1 hp1]; rfl
          clear hl N4 F4
          k_steps
          exact hJ.step hcc (by assumption) (by assumption)
        case yzR =>
          intro h' ys D3 h2 tk tl hJ F6 N6 o1' o2' o3'
          obtain ⟨rfl, hl, hcs⟩ := hJ.done (by rw [List.length_map, ← hI4.1])
          simp only [List.nil_append] at N6
          have N7 : News _ _ h2 ((D3, lo ys ys.length) :: _) := N6
          clear N6 N4 F4
          have hkp : (p : Int) = (p : Int) := rfl
          have hp30 : p ≤ 30 := by omega
          k_steps
          unfold HoldOn
          rename Fr _ _ _ _ => F5
          rename All2 IntV _ ((gp _ _ _ _ _).map _) => hI5
          refine comp_KF F5 (by with_unfolding_all rfl) (by decide) rfl (by decide) (by intro _; with_unfolding_all rfl) ?ymain2
          case ymain2 =>
            k_steps
            rename Fr _ _ _ _ => F6
            rename News _ _ _ _ => N6
            refine' cs_sq (J := IJ ((lsum 1 q (q - 1)).map (fun x => mk ((p : Int) * (st : Int)) q * x % (p : Int)))) rfl F6 N6 ?yyb (Sq.lo _ _) ?yyz ?yyx ?yykk ?yyjl ?yyj0 ?yyst ?yyR
            case yyb => exact mem_apd (mem_apd (List.mem_cons_of_mem _ (mem_apd (mem_apdL (by assumption)))))
            case yyz => rw [hI4.1, lsum_len]; omega
            case yyx => with_unfolding_all rfl
            case yykk => rfl
            case yyjl => exact fun i ys tl h => Nat.le_of_eq h.2.1
            case yyj0 => exact IJ.zero
            case yyst =>
              intro ha2 j v ys tl C oC m3 h tk led E' hv hJ hoC mx hC hl F7 N7
              obtain ⟨c, hc, cu, rfl⟩ := hI4.get hv
              have x1 := hl _ (List.mem_append_right _ (by repeat (first | exact k1 | apply mem_apd | apply List.mem_cons_of_mem) : (L + 1 + 1 + 1, c1) ∈ _))
              have x2 := hl _ (List.mem_append_right _ (by repeat (first | exact k2 | apply mem_apd | apply List.mem_cons_of_mem) : (L + 1 + 1, c2) ∈ _))
              have x3 := hl _ (List.mem_append_right _ (by repeat (first | exact k3 | apply mem_apd | apply List.mem_cons_of_mem) : (L + 1, c3) ∈ _))
              have hmf := mk_fits ((p : Int) * (st : Int)) c q
              have hcc : ((lsum 1 q (q - 1)).map (fun x => mk ((p : Int) * (st : Int)) q * x % (p : Int)))[j]? = some ((mk ((p : Int) * (st : Int)) q * c).fmod (p : Int)) := by rw [List.getElem?_map, hc, fm1 hp1]; rfl
              clear hl N6 F6
              k_steps
              exact hJ.step hcc (by assumption) (by assumption)
            case yyR =>
              intro h' ys D4 h2 tk tl hJ F7 N7 p1' p2' p3'
              obtain ⟨rfl, hl2, hcs2⟩ := hJ.done (by rw [List.length_map, ← hI4.1])
              simp only [List.nil_append] at N7
              have N8 : News _ _ h2 ((D4, lo ys ys.length) :: _) := N7
              clear N7 N6 F6
              k_steps
              unfold HoldOn
              rename Fr _ _ _ _ => kF
              rename News _ _ _ _ => kN
              refine' l_eq kN ?ym hI5 List.mem_cons_self hcs2 ?yu (decide_eq_true (w2b hd)) ?_
              case ym => exact List.mem_cons_of_mem _ (mem_apdL (by assumption))
              case yu => exact Nat.le_of_ble_eq_true rfl
              exact hQ _ _ (by walk_at "zsm") kF (fun r hr => kN r (by repeat (first | exact hr | apply mem_apd | apply List.mem_cons_of_mem)))
    · unfold HoldOn
      rename IntsAre _ (_ ++ _) => hI1
      rename Fr _ _ _ _ => F3
      rename News _ _ _ _ => N3
      have e1 : ([1] ++ (List.replicate ((q : Int) - 2).toNat [0]).flatten : List Int) = 1 :: List.replicate (q - 2) 0 := by
        rw [show ((q : Int) - 2).toNat = q - 2 by omega, List.flatten_replicate_singleton]; rfl
      rw [e1] at hI1
      have hv3 := ints_iv hI1
      refine gmadeW (kd := kd) (n := q - 1) (Cx.mk K X T rfl rfl) F3 N3 (by assumption) (by walk_at "zwg") (by k_mem) hv3 (hv3.1.trans (by simp; omega)) hn0 hn100 (by decide) hp1 ?_
      intro x2 ex2 s2 hS2 F4 N4 lo2 hg2
      have hbr2 : AllBare s2.gens := Sm.bare hS2 hbr1
      clear F3 N3 hI1
      k_steps
      unfold HoldOn
      rename Fr _ _ _ _ => F5
      rename News _ _ _ _ => N5
      have hg2 : GV kd w p (q - 1) _ x2 (pdk kd p q 0) := hg2
      refine gen_led N5 fun nb1 enb N6 => ?_
      have up1 : ∀ r ∈ nb, r ∈ nb1 := fun r hr => by rw [← enb]; repeat (first | exact hr | apply mem_apd | apply List.mem_cons_of_mem)
      have hg2 : GV kd w p (q - 1) nb1 x2 (pdk kd p q 0) := by rw [← enb]; walk_at "zgv"
      have k1a := up1 _ k1
      have k2a := up1 _ k2
      have k3a := up1 _ k3
      clear N5 enb lo1 lo2 hg1
      refine for_KF F5 (by intro _; with_unfolding_all rfl) ?yo
      case yo =>
        k_steps
        rename IsRange _ _ _ _ _ _ _ _ => hR
        rename Fr _ _ _ _ => F7
        rename News _ _ _ _ => N7
        refine' fs_rngF (n := q - 1) (J := fun i m₁ news₁ => m₁ (Str.ofString "root") = some (.ref x) ∧ ∃ xp, m₁ (Str.ofString "product") = some (.ref xp) ∧ (∀ r ∈ nb, r ∈ news₁) ∧ GV kd w p (q - 1) news₁ xp (pdk kd p q i)) rfl F7 N7 hR ?yhs ?yhx ?yhp ?yj0 ?yst ?yR
        case yhs =>
          have := rng_up2 (j := 1) (k := (q : Int)) (by omega) (by omega) (by omega)
          rwa [show ((q : Int) - 1).toNat = q - 1 by omega] at this
        case yhx => with_unfolding_all rfl
        case yhp => with_unfolding_all rfl
        case yj0 => exact ⟨by with_unfolding_all rfl, x2, by with_unfolding_all rfl, up1, hg2⟩
        case yst =>
          rintro hI0 i t m₁ news₁ s₁ own E' hi ⟨hm₁r, xp, hm₁p, hup, hgp⟩ hownf hS F8 N8
          have ez : (1 : Int) + (i : Int) * 1 = ((i + 1 : Nat) : Int) := by omega
          rw [ez] at F8
          have ezz : ((i + 1 : Nat) : Int) = ((i + 1 : Nat) : Int) := rfl
          have ez30 : i + 1 ≤ 30 := by omega
          have k1' := hup _ k1
          have k2' := hup _ k2
          have k3' := hup _ k3
          have hx' : GV kd w p (q - 1) news₁ x (rt p q) := hx.mono fun r hr _ => hup r hr
          have hW' : WarmG kd news₁ := hW.mono hup
          have hbr8 : AllBare s₁.gens := Sm.bare hS hbr2
          have hri : Red (p : Int) (pdk kd p q i) := red_pdk hp1 i
          clear F7 N7 hR
          k_steps
          dsimp only [FPost]
          rename_i xa ea sa hSa la hva hba xb eb sb hSb lb hvb hbb xc ec sc hSc lc hvc hbc xd ed sd hSd ld hvd hbd hf Ft Nt
          refine gen_led Nt fun Ls eL Nt => ?_
          have hvd : GV kd w p (q - 1) Ls xd (pdk kd p q (i + 1)) := by rw [← eL]; exact hvd
          have hG : Ls = Apd (ed ++ (ec ++ (eb ++ ea))) (Apd own news₁) := by rw [← eL]; simp only [Apd, List.append_assoc]
          have hGo : ∀ p ∈ ed ++ (ec ++ (eb ++ ea)), ∀ q ∈ Apd own news₁, q.1 < p.1 := by
            intro r hr y hy
            rcases List.mem_append.mp hr with hr | hr
            · exact ld r hr y (mem_apd (mem_apd (mem_apd hy)))
            rcases List.mem_append.mp hr with hr | hr
            · exact lc r hr y (mem_apd (mem_apd hy))
            rcases List.mem_append.mp hr with hr | hr
            · exact lb r hr y (mem_apd hy)
            · exact la r hr y hy
          subst hG
          refine fend_of _ Ft Nt hGo ⟨(if_neg (by decide)).trans ((if_neg (by decide)).trans hm₁r), xd, if_pos rfl, fun r hr => mem_apd (hup r hr), gv_drop hownf hvd⟩ ?_
          exact (hSa.trans hSb).trans (hSc.trans hSd)
        case yR =>
          rintro h' s' m' news' ⟨hm₁r, xp, hm₁p, hup, hgp⟩ hS F8 N8
          have k1' := hup _ k1
          have k2' := hup _ k2
          have k3' := hup _ k3
          have hbr8 : AllBare s'.gens := Sm.bare hS hbr2
          clear F7 N7 hR
          k_steps
          unfold HoldOn
          rename IntsAre _ (_ ++ _) => hI5
          rename All2 IntV _ ((pdk _ _ _ _).map _) => hI6
          rename Fr _ _ _ _ => kF
          rename News _ _ _ _ => kN
          have e5 : ([(q : Int).fmod (p : Int)] ++ (List.replicate ((q : Int) - 2).toNat [0]).flatten : List Int) = ((q : Int) % (p : Int)) :: List.replicate (q - 2) 0 := by
            rw [show ((q : Int) - 2).toNat = q - 2 by omega, List.flatten_replicate_singleton, fm1 hp1]; rfl
          rw [e5] at hI5
          have hv5 := ints_iv hI5
          refine' l_eq kN ?ym hI6 List.mem_cons_self hv5 ?yu (decide_eq_true (w3 hd)) ?_
          case ym => repeat (first | exact mem_apdL (by assumption) | apply List.mem_cons_of_mem)
          case yu => exact Nat.le_of_ble_eq_true rfl
          exact hQ _ _ (by walk_at "zsm") kF (fun r hr => kN r (by repeat (first | exact hup r hr | apply mem_apd | apply List.mem_cons_of_mem)))
local macro_rules | `(tactic| walk_at "zzfresh") => `(tactic| skip)
theorem fresh52 : True := by
  w_top off
  trivial
open PySem.W in
theorem main : PySem.Challenge.rw_bw0042_01.Holds := hd (by
  k_fill
  intro w s₀ s₁ mg mb G Y fa o pm cd doc dV kV ho hd0 hcd hD hmg hg args vals as hpre hlay hrd hwl hlo
  have KX := km_in_of Y
  have hT8 := km_tabs_of Y
  have X := (Ground.X G).1
  have V := (Ground.X G).2
  refine Ground.open G ?_
  intro T B D TE TW
  try (refine guard_noD D (by decide +kernel) ?_; clear D)
  have hT9 : TabsAt ([(200, 196), (312, 310)]) _ := List.forall_mem_cons.mpr ⟨⟨codeHd_of_K (c := 200) (P := 196) KX (by kernel_rfl), hT8 196 (by k_mem)⟩, List.forall_mem_cons.mpr ⟨⟨codeHd_of_K (c := 312) (P := 310) KX (by kernel_rfl), hT8 310 (by k_mem)⟩, fun _ h => nomatch h⟩⟩
  clear hmg
  wrow_args hpre hlay hrd hwl hlo
  all_goals (
    first | refine callC_kw (enter_call ?_) | refine enter_call ?_
    w_top on
    refine law_post hT9 (fun _ _ => rfl) (by first | exact postW_of rfl rfl rfl | exact postW_of rfl (w_eq_bool (w_res rfl) w_lit) rfl) ?_
    w_call any ho hd0 hcd hD T F
    clear hd0
    kn_ghosts F T
    k_drop
    skip)
  all_goals try k_fold
  rename_i ns za zb zc zd ze zf zg sa vs zh hL zi zj zk hI zl hlen zm h1 tk1 c1 c2 c3 e1 e2 e3 zn X' T' K' F' zo N' l0
  have hS := lifted
  have hl63 : ns.length ≤ 63 := by omega
  have e1' : ∃ u, c1.data = .cell u := ⟨_, e1⟩
  have e2' : ∃ u, c2.data = .cell u := ⟨_, e2⟩
  have e3' : ∃ u, c3.data = .cell u := ⟨_, e3⟩
  k_steps
  unfold HoldOn
  refine gat (vs := vs) (ns := ns) (Cx.mk K' X' T' rfl rfl) F' N' hS hI hl63 (by decide) (by decide) (by decide) ?_
  intro v0 ha1 tka1 ta1 F1 N1
  obtain ⟨kd, hkd⟩ : ∃ kd : Bool, v0.fmod 2 = (if kd = true then 1 else 0) := by
    rcases (by omega : v0 % 2 = 0 ∨ v0 % 2 = 1) with h | h
    · exact ⟨false, by rw [fm1 (by decide), h]; rfl⟩
    · exact ⟨true, by rw [fm1 (by decide), h]; rfl⟩
  clear F' N' G Y hT8 V B TE TW hD T X hcd ho hL e1 e2 e3 za zb zc zd ze zi zj zk zl zm zn zo lifted codeHd hlen
  obtain ⟨u1, e1⟩ := e1'
  obtain ⟨u2, e2⟩ := e2'
  obtain ⟨u3, e3⟩ := e3'
  k_steps
  unfold HoldOn
  rename Fr _ _ _ _ => F2
  rename News _ _ _ _ => N2
  refine gat (vs := vs) (ns := ns) (Cx.mk K' X' T' rfl rfl) F2 N2 hS hI hl63 (by decide) (by decide) (by decide) ?_
  intro v1 ha2 tka2 ta2 F3 N3
  have hm0 : (2 : Int) + v0.fmod 2 ≠ 0 := by rw [hkd]; cases kd <;> decide
  have hj0 : 0 ≤ v1.fmod (2 + v0.fmod 2) := by rw [fm1 (by rw [hkd]; cases kd <;> decide)]; exact Int.emod_nonneg _ hm0
  have hj1 : v1.fmod (2 + v0.fmod 2) < 2 + v0.fmod 2 := by
    have h : 0 < 2 + v0.fmod 2 := by rw [hkd]; cases kd <;> decide
    rw [fm1 h]; exact Int.emod_lt_of_pos _ h
  obtain ⟨q, tq, hqv, hq⟩ := menu3 (kd := kd) N3 hj0 (by rw [← hkd]; exact hj1)
  have hj2 : v1.fmod (2 + v0.fmod 2) < 2 ^ 60 := by
    have : v0.fmod 2 ≤ 1 := by rw [hkd]; cases kd <;> decide
    omega
  clear F2 N2
  k_steps
  unfold HoldOn
  clear hqv hj0 hj1 hj2
  rename Obj.data _ = Data.cell (some (Value.int (q : Int) tq)) => d3
  rename Fr _ _ _ _ => F4
  refine comp_KF F4 (by with_unfolding_all rfl) (by decide) rfl (by decide) (by intro _; with_unfolding_all rfl) ?zmain
  case zmain =>
    k_steps
    rename Fr _ _ _ _ => F5
    rename News _ _ _ _ => N5
    refine' cs_sqT (J := FJ q) rfl F5 N5 List.mem_cons_self (Sq.lo _ _) ?zz ?zx ?zkk ?zjl ?zj0 ?zst ?zR
    case zz => exact Nat.le_of_ble_eq_true rfl
    case zx => with_unfolding_all rfl
    case zkk => rfl
    case zjl => exact fun i ys tl h => h.2.1
    case zj0 => exact ⟨rfl, Nat.le_refl _, All2.nil⟩
    case zst =>
      intro ha2 i v ys tl C oC m3 h tk led E' hv hJ hoC mx hC hl F6 N6
      obtain ⟨c, hc, cu, rfl⟩ := pr_iv.get hv
      have x1 := hl _ (List.mem_append_right _ (List.mem_cons_of_mem _ (List.mem_cons_of_mem _ (List.mem_cons_of_mem _ (List.mem_cons_of_mem _ List.mem_cons_self)))))
      clear hl N5 F5
      k_steps
      · rename c ≠ (q : Int) => hne
        exact hJ.yes hc hne (by assumption) (by assumption)
      · rename c = (q : Int) => hne
        exact hJ.no hc hne (by assumption) (by assumption)
    case zR =>
      intro h' ys D h2 tk tl hJ F6 N6 o1 o2 o3
      obtain ⟨rfl, _, hcs⟩ := hJ
      simp only [List.nil_append] at N6
      have N7 : News _ _ h2 ((D, lo ys ys.length) :: _) := N6
      clear N6
      k_steps
      unfold HoldOn
      have hcs : All2 IntV ys (PR.filter (fun x => x != (q : Int))) := hcs
      rename Fr _ _ _ _ => F8
      rename News _ _ _ _ => N8
      refine gat (vs := vs) (ns := ns) (Cx.mk K' X' T' rfl rfl) F8 N8 hS hI hl63 (by decide) (by decide) (by decide) ?_
      intro v2 ha3 tka3 ta3 F9 N9
      clear F8 N8
      k_steps
      unfold HoldOn
      refine join2 (Res6 q { heap := ha3, gens := s₁.gens, drawn := s₁.drawn, toks := 0, os := s₁.os }) (IfExp_ ?zi) ?zj
      case zi =>
        k_steps
        · rename (q : Int) < 7 => hlt
          exact ⟨_, _, _, rfl, by rw [if_pos hlt], rfl⟩
        · rename ¬ (q : Int) < 7 => hlt
          exact ⟨_, _, _, rfl, by rw [if_neg hlt], rfl⟩
      case zj =>
        rintro _ _ ⟨z, tz, tkz, rfl, hz, rfl⟩
        have hz1 : 0 < z := by rw [hz]; split <;> decide
        have hz0 : z ≠ 0 := by omega
        have hz7 : z < 7 := by rw [hz]; split <;> decide
        have g0 : 0 ≤ v2.fmod z := by rw [fm1 hz1]; exact Int.emod_nonneg _ hz0
        have g1 : v2.fmod z < z := by rw [fm1 hz1]; exact Int.emod_lt_of_pos _ hz1
        have g2 : v2.fmod z < 2 ^ 60 := by omega
        have oD1 : @LT.lt Nat _ (s₁.heap.objs.size + 1 + 1 + 1) D := o3 _ (List.mem_cons_of_mem _ (List.mem_cons_of_mem _ List.mem_cons_self))
        obtain ⟨p, hp, hpp, hpo⟩ := menuP hq g0 (by rw [← hz]; exact g1)
        obtain ⟨vp, hvp, tp, rfl⟩ := hcs.got hp
        k_steps
        unfold HoldOn
        rename Obj.data _ = Data.cell (some (Value.int (p : Int) tp)) => d2
        rename Fr _ _ _ _ => F10
        rename News _ _ _ _ => N10
        refine gat (vs := vs) (ns := ns) (Cx.mk K' X' T' rfl rfl) F10 N10 hS hI hl63 (by decide) (by decide) (by decide) ?_
        intro v3 ha4 tka4 ta4 F11 N11
        obtain ⟨wy, hwy, hwy4⟩ : ∃ wy : Nat, v3.fmod 4 = wy ∧ wy < 4 := ⟨(v3 % 4).toNat, by rw [fm1 (by decide)]; omega, by omega⟩
        clear F10 N10 hvp hp hcs g0 g1 g2 o1 o2 hz1 hz0 hz7 hz
        k_steps
        unfold HoldOn
        rename Fr _ _ _ _ => F12
        rename News _ _ _ _ => N12
        refine gat (vs := vs) (ns := ns) (Cx.mk K' X' T' rfl rfl) F12 N12 hS hI hl63 (by decide) (by decide) (by decide) ?_
        intro v4 ha5 tka5 ta5 F13 N13
        have hq37 : 3 ≤ q ∧ q ≤ 7 := by omega
        have hq1 : (q : Int) - 1 ≠ 0 := by omega
        obtain ⟨st, hst, hst1, hst2⟩ : ∃ st : Nat, 1 + v4.fmod ((q : Int) - 1) = st ∧ 1 ≤ st ∧ st < q := by
          have a1 := Int.emod_nonneg v4 hq1
          have a2 := Int.emod_lt_of_pos v4 (show 0 < (q : Int) - 1 by omega)
          rw [fm1 (show 0 < (q : Int) - 1 by omega)]
          exact ⟨(1 + v4 % ((q : Int) - 1)).toNat, by omega, by omega, by omega⟩
        have hd : Drw kd q p st := ⟨hq, hpp, hpo, hst1, hst2⟩
        clear F12 N12
        k_steps
        unfold HoldOn
        rename Obj.data _ = Data.cell (some (Value.int (1 + v4.fmod ((q : Int) - 1)) _)) => d1
        rename Fr _ _ _ _ => F14
        rename News _ _ _ _ => N14
        rename IntsAre _ (_ ++ _) => hIr
        rw [hst] at d1
        have eR : ([0, 1] ++ (List.replicate ((q : Int) - 3).toNat [0]).flatten : List Int) = 0 :: 1 :: List.replicate (q - 3) 0 := by
          rw [show ((q : Int) - 3).toNat = q - 3 by omega, List.flatten_replicate_singleton]; rfl
        rw [eR] at hIr
        have hvr := ints_iv hIr
        rw [hkd]
        refine gmade0 (kd := kd) (n := q - 1) (Cx.mk K' X' T' rfl rfl) F14 N14 (by show AllBare s₁.gens; rw [hg]; intro x hx; simp at hx) List.mem_cons_self hvr (by rw [hvr.1]; simp; omega) (by omega) (by omega) (by k_mem) (by k_mem) (by decide) (by have := (drw_p hd).1; omega) ?_
        intro x ex led s' hSm F15 N15 hup hP1 hP2 hWm hv
        have hnf : ∀ (o : Obj) v, o.data = .cell v → Nf o := fun o v h xs e => nomatch h.symm.trans e
        have upl : ∀ q ∈ led, q ∈ ex ++ led := fun q hq => List.mem_append_right _ hq
        refine law_ways (kd := kd) (q := q) (p := p) (st := st) (wy := wy) (by with_unfolding_all rfl) (by with_unfolding_all rfl) hd hwy4 X' T' K' F15 N15 (Sm.bare hSm (by show AllBare s₁.gens; rw [hg]; intro x hx; simp at hx)) (hWm.mono upl)
          (upl _ (hup _ (by k_mem) (hnf _ _ d1))) (upl _ (hup _ (by k_mem) (hnf _ _ d2))) (upl _ (hup _ (by k_mem) (hnf _ _ d3))) d1 d2 d3 ?hm1 ?hm2 hv ?hQ
        case hm1 => exact ⟨_, (if_neg (by decide)).trans ((if_pos rfl).trans (by rw [hkd]))⟩
        case hm2 => exact ⟨_, (if_pos rfl).trans (by rw [hwy])⟩
        case hQ =>
          intro s2 m2 hS2 F16 N16
          obtain ⟨ps1, hp1⟩ := hP1
          obtain ⟨ps2, hp2⟩ := hP2
          refine ⟨rfl, F16.keep, ?_, ?_, ⟨ps1, (N16 _ (upl _ hp1)).1⟩, ⟨ps2, (N16 _ (upl _ hp2)).1⟩, trivial⟩
          · exact hS2.1.trans hSm.1
          · exact Sm.bare hS2 (Sm.bare hSm (by show AllBare s₁.gens; rw [hg]; intro x hx; simp at hx)))
end
end Mine
theorem PySem.Challenge.cw_bw0042_01_holds : PySem.Challenge.rw_bw0042_01.Holds :=
  Mine.main
