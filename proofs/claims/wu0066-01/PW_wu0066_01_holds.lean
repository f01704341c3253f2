import PyProof.Rows.All
import Wide.All
import OpenK.AllK
import Wide.FinOn
import Lean
import PySem.Challenge.RW_wu0066_01
open PySem PySem.W PyProof.Rows
set_option Elab.async false
set_option maxRecDepth 100000
set_option compiler.extract_closed false
namespace Mine
section
/- the top at once: the kernel runs it in one go (the pieces' twins make the compiled file too large) -/
local macro_rules | `(tactic| refine $e:term) => do
  if e.raw.isOfKind ``Lean.Parser.Term.app && e.raw[0].getId == `PySem.W.holds_open then
    let args := e.raw[1].getArgs
    let one ← `((fun _ => by kernel_rfl))
    if args.any (fun a => a.isOfKind ``Lean.Parser.Term.syntheticHole && a[1].getId.eraseMacroScopes == `hl) then
      let args' := args.map fun a => if a.isOfKind ``Lean.Parser.Term.syntheticHole && a[1].getId.eraseMacroScopes == `hl then one.raw else a
      let e' : Lean.TSyntax `term := ⟨e.raw.setArg 1 (Lean.mkNullNode args')⟩
      `(tactic| refine $e')
    else Lean.Macro.throwUnsupported
  else Lean.Macro.throwUnsupported
set_option maxHeartbeats 8000000 in
open_top hd for PySem.Challenge.rw_wu0066_01
end

abbrev Led := List (Addr × Obj)
noncomputable abbrev lsw : List Str := looseW hd.view_39 [Str.ofString "insort_right", Str.ofString "bisect_right", Str.ofString "insort_left", Str.ofString "bisect_left"]

/-- a call of f with these values, d frames and u units at hand, gives back by R -/
def Does (w : World) (d u : Nat) (f : Addr) (vs : List Value) (kw : List (Str × Value)) (news : Led) (R : Value → Led → Prop) : Prop :=
  ∀ (mean : ExcName → Option Value) (mg mb : Str → Option Value) (dp un : Nat) (gd : Option (List Code)) (cn : Str) (cs : Scope) (a : Addr) (ccd : Value) (cl : List (Str × Addr)) (outer : List Env) (A₀ : Around) (base h₀ : Heap) (L : Addr) (m : Str → Option Value) (s : Shared) (Q E : Value → Shared → Prop),
    Below A₀ base outer h₀ → Fr h₀ L s.heap m → (hd.heap_39 w.params).In h₀ → News h₀ L s.heap news → Top hd.view_39 lsw mean mg mb h₀ → cs.kind = .function → dp + d < recursionLimit → un + u < cLine →
    (∀ r news' h' tk', R r news' → Fr h₀ L h' m → News h₀ L h' news' → Q r { s with heap := h', toks := tk' }) →
    wpAny (model PySem.Challenge.rw_wu0066_01.row.prog w) (ktrTop dp un gd cn cs L a ccd cl outer) (call (.ref f) vs kw) Q E s

theorem Does.use {d u : Nat} {f : Addr} {vs : List Value} {kw : List (Str × Value)} {news : Led} {w : World} {R : Value → Led → Prop} (D : Does w d u f vs kw news R)
    {mean : ExcName → Option Value} {mg mb : Str → Option Value} {dp un : Nat} {gd : Option (List Code)} {cn : Str} {cs : Scope} {a : Addr} {ccd : Value} {cl : List (Str × Addr)} {outer : List Env} {A₀ : Around} {base h₀ : Heap} {L : Addr} {m : Str → Option Value} {s : Shared} {Q E : Value → Shared → Prop}
    (B : Below A₀ base outer h₀) (F : Fr h₀ L s.heap m) (X : (hd.heap_39 w.params).In h₀) (N : News h₀ L s.heap news) (T : Top hd.view_39 lsw mean mg mb h₀) (k : cs.kind = .function) (hdp : dp + d < recursionLimit) (hu : un + u < cLine)
    (ret : ∀ r news' h' tk', R r news' → Fr h₀ L h' m → News h₀ L h' news' → Q r { s with heap := h', toks := tk' }) :
    wpAny (model PySem.Challenge.rw_wu0066_01.row.prog w) (ktrTop dp un gd cn cs L a ccd cl outer) (call (.ref f) vs kw) Q E s := D _ _ _ _ _ _ _ _ _ _ _ _ _ _ _ _ _ _ _ _ B F X N T k hdp hu ret

/-- an element's own dict: its text alone -/
abbrev qd (w : World) (k : Tok) (x : Str) (t : Tok) : Obj := dictOf [{ hash := PyData.keyHash w.params (Str.ofString "text"), key := .str (Str.ofString "text") k, val := .str x t }] 1

/-- a name: a plain text (b), or a QName that the ledger bears -/
inductive NameV (w : World) (news : Led) : Value → Bool → Str → Prop
  | str (x : Str) (t : Tok) : NameV w news (.str x t) true x
  | qn {a d : Addr} {k : Tok} {x : Str} {t : Tok} : (a, instObj 173 d) ∈ news → (d, qd w k x t) ∈ news → NameV w news (.ref a) false x
theorem NameV.mono {w : World} {news news' : Led} {v : Value} {b : Bool} {x : Str} (h : NameV w news v b x) (hs : ∀ p ∈ news, p ∈ news') : NameV w news' v b x := by
  cases h with
  | str => exact .str _ _
  | qn h1 h2 => exact .qn (hs _ h1) (hs _ h2)

theorem news_more {h₀ h : Heap} {L : Addr} {news : Led} {p : Addr × Obj} (N : News h₀ L h news) (hp : p ∈ news) : News h₀ L h (p :: news) := fun q hq => by
  rcases List.mem_cons.mp hq with rfl | hq
  · exact N _ hp
  · exact N _ hq
theorem news_less {h₀ h : Heap} {L : Addr} {news : Led} {p : Addr × Obj} (N : News h₀ L h (p :: news)) : News h₀ L h news := fun q hq => N q (.tail _ hq)
theorem news_sub {h₀ h : Heap} {L : Addr} {news news' : Led} (N : News h₀ L h news) (hs : ∀ p ∈ news', p ∈ news) : News h₀ L h news' := fun q hq => N q (hs q hq)

/-- the order of texts, as the model reckons it -/
abbrev ltS (x y : Str) : Bool := decide (x.cps.toList < y.cps.toList)

section
variable {prog : Program} {w : World} {A : Around} {E : Value → Shared → Prop} {s : Shared} {h₀ : Heap} {L a : Addr} {news : Led} {vs : List Value} {n : Nat}
theorem len_my {Q : Value → Shared → Prop} (N : News h₀ L s.heap news) (hm : (a, listOf vs.toArray n) ∈ news) (hl : vs.length ≤ 100000)
    (h : ∀ t tk, Q (.int ((vs.length : Nat) : Int) t) { s with toks := tk }) : wpAny (model prog w) A (call (.builtin "len") [.ref a]) Q E s :=
  Calls.call_len_list (items := vs.toArray) (N.isList hm) (by rw [List.size_toArray]; omega) (by rw [List.size_toArray]; exact h _ _)
theorem item_my {value slice : PySem.Expr} {k : Int} {u : Tok} {v : Value} {Q : Value → Shared → Prop} (N : News h₀ L s.heap news) (hm : (a, listOf vs.toArray n) ∈ news)
    (h0 : 0 ≤ k) (hhi : k < 2 ^ 63) (hx : vs[k.toNat]? = some v) (h : Q v s)
    (hs : subscripted slice false (.ref a) (.int k u) = operate [.ref a, .int k u] (getItem (.ref a) (.int k u)) := by with_unfolding_all rfl) :
    wpAny (model prog w) A (subscriptTail value slice (.ref a) (.int k u)) Q E s :=
  tail_any (N.isList hm).typeIs slot_list_getitem.lookup (wpAny_getItem_list (N.isList hm) h0 hhi (by simpa using hx) h) hs
end
/-- the calls that have a contract of their own -/
def stops : List Nat := [23, 32, 41, 50, 78, 184, 191, 198, 233, 240, 247]
def stops2 : List Nat := [173, 205, 212, 219]
theorem stop_call {prog : Program} {w : World} {A : Around} {E : Value → Shared → Prop} {s : Shared} {vs : List Value} {kw : List (Str × Value)} {Q : Value → Shared → Prop} {n : Nat} (_ : stops.elem n = true)
    (h : wpAny (model prog w) A (call (.ref n) vs kw) Q E s) : wpAny (model prog w) A (call (.ref n) vs kw) Q E s := h
theorem stop_call2 {prog : Program} {w : World} {A : Around} {E : Value → Shared → Prop} {s : Shared} {vs : List Value} {kw : List (Str × Value)} {Q : Value → Shared → Prop} {n : Nat} (_ : (stops2 ++ stops).elem n = true)
    (h : wpAny (model prog w) A (call (.ref n) vs kw) Q E s) : wpAny (model prog w) A (call (.ref n) vs kw) Q E s := h

theorem fill : hd.heap_39 = hd.heap_39 ∧ PySem.Challenge.rw_wu0066_01 = PySem.Challenge.rw_wu0066_01 := by k_fill; exact ⟨rfl, rfl⟩
local macro_rules | `(tactic| k_room) => `(tactic| ktr_room)
local macro_rules | `(tactic| k_units) => `(tactic| ktr_units)
local macro_rules | `(tactic| units_room) => `(tactic| ktr_units)
local macro_rules | `(tactic| k_enter) => `(tactic| (refine' code_def ?k1 ?k2 ?k3 ?k4 ?k5 ?kA ?kF ?kK ?k6 ?k7 ?k8 ?k9 ?kB ?_ ?c2 ?c3 ?c4 ?c5; (case kA => exact rfl); (case kF => exact rfl); (case kK => first | exact rfl | assumption); (case k1 => k_asm); (case k2 => k_asm); (case k3 => k_asm); (case k4 => k_asm); (case k5 => k_asm); (case k6 => k_is); (case k7 => k_is); (case k8 => k_room); (case k9 => first | exact BindsTo.of_eq rfl | exact binds_K (by k_in) rfl (by k_is) rfl rfl rfl | (refine' kp_binds ?kx ?ke; (case kx => k_in); (case ke => exact fun _ => rfl)) | fail "k_enter: no rule for these arguments"); (case c5 => decide); (case kB => exact locs rfl); (case c2 => exact rfl); (case c3 => exact rfl); (case c4 => exact rfl); k_whole; intro g' L' h' FG' F' N' B' X' T'; (try dsimp only); (try k_lift B'); (try k_fold)))
local macro_rules | `(tactic| walk_at "call builtin:len") => `(tactic| (k_here; (with_reducible show wpAny _ _ (call (Value.builtin "len") [Value.ref _]) _ _ _); k_dflt (refine' len_my ?N ?m ?l ?_; (case N => k_asm); (case m => k_mem); (case l => omega)); intro t' tk'))
local macro_rules | `(tactic| k_steps) => `(tactic| repeat' ((fail_if_success (first | with_reducible show wpAny _ _ (exec (Stmt.While _ _ _ _) _) _ _ _ | with_reducible refine stop_call (by decide) ?_ | with_reducible show wpAny _ _ (exec (Stmt.For _ _ _ _ _) _) _ _ _ | with_reducible show KswEnd _ _ _ _ _ _ _ _ _ _ _ _ | with_reducible show wpAny _ _ (pyIter _) (fun it s₂ => LoopAtV _ _ _ _ _ _ _ _ _ it s₂) _ _ | with_reducible show TbEnd _ _ _ _ _ _ | with_reducible show InvEndN _ _ _ _ _ _ _ | with_reducible show LoopStep3 _ _ _ _ _ _ _ _ _ _)); first | (k_unfold; (try dsimp only)) | (k_end; wrow_close) | walk1 | (dsimp only; walk1) | (leave1; walk_say "STEP leave1"; try dsimp only) | fail "no step"))
set_option maxHeartbeats 8000000 in
theorem neg_does (w : World) (news : Led) (i : Int) (t : Tok) : Does w 1 8 64 [.int i t] [] news (fun r n => n = news ∧ ∃ t, r = .int (-i) t) := by
  unfold Does
  intros; rename_i hret
  refine wpAny_call ?_
  k_dflt k_enter
  k_steps
  all_goals (exact hret _ _ _ _ ⟨rfl, _, rfl⟩ (by assumption) (by assumption))
set_option maxHeartbeats 8000000 in
theorem lt_does (w : World) (news : Led) (i j : Int) (t u : Tok) : Does w 1 8 57 [.int i t, .int j u] [] news (fun r n => n = news ∧ r = .bool (decide (i < j))) := by
  unfold Does
  intros; rename_i hret
  refine wpAny_call ?_
  k_dflt k_enter
  k_steps
  all_goals (exact hret _ _ _ _ ⟨rfl, rfl⟩ (by assumption) (by assumption))
set_option maxHeartbeats 8000000 in
theorem rshift_does (w : World) (news : Led) (i : Int) (t u : Tok) : Does w 1 8 71 [.int i t, .int 1 u] [] news (fun r n => n = news ∧ ∃ t, r = .int (i.fdiv 2) t) := by
  unfold Does
  intros; rename_i hret
  refine wpAny_call ?_
  k_dflt k_enter
  k_steps
  all_goals (exact hret _ _ _ _ ⟨rfl, _, rfl⟩ (by assumption) (by assumption))
set_option maxHeartbeats 8000000 in
theorem iadd_does (w : World) (news : Led) (i j : Int) (t u : Tok) : Does w 1 8 85 [.int i t, .int j u] [] news (fun r n => n = news ∧ ∃ t, r = .int (i + j) t) := by
  unfold Does
  intros; rename_i hret
  refine wpAny_call ?_
  k_dflt k_enter
  k_steps
  all_goals (exact hret _ _ _ _ ⟨rfl, _, rfl⟩ (by assumption) (by assumption))
set_option maxHeartbeats 8000000 in
theorem isub_does (w : World) (news : Led) (i j : Int) (t u : Tok) : Does w 1 8 99 [.int i t, .int j u] [] news (fun r n => n = news ∧ ∃ t, r = .int (i - j) t) := by
  unfold Does
  intros; rename_i hret
  refine wpAny_call ?_
  k_dflt k_enter
  k_steps
  all_goals (exact hret _ _ _ _ ⟨rfl, _, rfl⟩ (by assumption) (by assumption))
set_option maxHeartbeats 8000000 in
theorem iand_does (w : World) (news : Led) (i j : Int) (t u : Tok) : Does w 1 8 92 [.int i t, .int j u] [] news (fun r n => n = news ∧ ∃ t, r = .int (Builtin.bitAnd i j) t) := by
  unfold Does
  intros; rename_i hret
  refine wpAny_call ?_
  k_dflt k_enter
  k_steps
  all_goals (exact hret _ _ _ _ ⟨rfl, _, rfl⟩ (by assumption) (by assumption))
set_option maxHeartbeats 8000000 in
theorem name_does (w : World) (news : Led) (x y : Str) (t u : Tok) (hx : x.length ≤ 1000) (hy : y.length ≤ 1000) : Does w 1 8 205 [.str x t, .str y u] [] news (fun r n => n = news ∧ ∃ t, r = .str (Str.ofString "{" ++ x ++ Str.ofString "}" ++ y) t) := by
  unfold Does
  intros; rename_i hret
  refine wpAny_call ?_
  k_dflt k_enter
  k_steps
  all_goals (exact hret _ _ _ _ ⟨rfl, _, rfl⟩ (by assumption) (by assumption))

set_option maxHeartbeats 8000000 in
theorem lt_qs (w : World) (news : Led) (a d : Addr) (k : Tok) (x : Str) (t : Tok) (y : Str) (u : Tok) : Does w 1 30 149 [.ref a, .str y u] [] ((a, instObj 173 d) :: (d, qd w k x t) :: news) (fun r n => n = ((a, instObj 173 d) :: (d, qd w k x t) :: news) ∧ r = .bool (ltS x y)) := by
  unfold Does
  intros; rename_i hret
  refine wpAny_call ?_
  k_dflt k_enter
  k_steps
  all_goals (exact hret _ _ _ _ ⟨rfl, rfl⟩ (by assumption) (by assumption))
set_option maxHeartbeats 8000000 in
theorem lt_qq (w : World) (news : Led) (a d : Addr) (k : Tok) (x : Str) (t : Tok) (a' d' : Addr) (k' : Tok) (y : Str) (u : Tok) : Does w 1 30 149 [.ref a, .ref a'] [] ((a, instObj 173 d) :: (d, qd w k x t) :: (a', instObj 173 d') :: (d', qd w k' y u) :: news) (fun r n => n = ((a, instObj 173 d) :: (d, qd w k x t) :: (a', instObj 173 d') :: (d', qd w k' y u) :: news) ∧ r = .bool (ltS x y)) := by
  unfold Does
  intros; rename_i hret
  refine wpAny_call ?_
  k_dflt k_enter
  k_steps
  all_goals (exact hret _ _ _ _ ⟨rfl, rfl⟩ (by assumption) (by assumption))
set_option maxHeartbeats 8000000 in
theorem gt_qs (w : World) (news : Led) (a d : Addr) (k : Tok) (x : Str) (t : Tok) (y : Str) (u : Tok) : Does w 1 30 163 [.ref a, .str y u] [] ((a, instObj 173 d) :: (d, qd w k x t) :: news) (fun r n => n = ((a, instObj 173 d) :: (d, qd w k x t) :: news) ∧ r = .bool (ltS y x)) := by
  unfold Does
  intros; rename_i hret
  refine wpAny_call ?_
  k_dflt k_enter
  k_steps
  all_goals (exact hret _ _ _ _ ⟨rfl, rfl⟩ (by assumption) (by assumption))
set_option maxHeartbeats 8000000 in
theorem eq_qs (w : World) (news : Led) (a d : Addr) (k : Tok) (x : Str) (t : Tok) (y : Str) (u : Tok) : Does w 1 30 170 [.ref a, .str y u] [] ((a, instObj 173 d) :: (d, qd w k x t) :: news) (fun r n => n = ((a, instObj 173 d) :: (d, qd w k x t) :: news) ∧ r = .bool (x == y)) := by
  unfold Does
  intros; rename_i hret
  refine wpAny_call ?_
  k_dflt k_enter
  k_steps
  all_goals (exact hret _ _ _ _ ⟨rfl, rfl⟩ (by assumption) (by assumption))
set_option maxHeartbeats 8000000 in
theorem eq_qq (w : World) (news : Led) (a d : Addr) (k : Tok) (x : Str) (t : Tok) (a' d' : Addr) (k' : Tok) (y : Str) (u : Tok) : Does w 1 30 170 [.ref a, .ref a'] [] ((a, instObj 173 d) :: (d, qd w k x t) :: (a', instObj 173 d') :: (d', qd w k' y u) :: news) (fun r n => n = ((a, instObj 173 d) :: (d, qd w k x t) :: (a', instObj 173 d') :: (d', qd w k' y u) :: news) ∧ r = .bool (x == y)) := by
  unfold Does
  intros; rename_i hret
  refine wpAny_call ?_
  k_dflt k_enter
  k_steps
  all_goals (exact hret _ _ _ _ ⟨rfl, rfl⟩ (by assumption) (by assumption))

theorem str_lt_declines (b : Str) (u : Tok) (l C d : Addr) :
    Meets (Builtin.«str.__lt__» ⟨[.str b u, .ref l], []⟩) (fun _ R s => s.heap.get? l = some (instObj C d) ∧ R (.ok (.ret .notImplemented)) s) :=
  .of_wp fun prog w A R s h => by obtain ⟨hp, g, d, tk, os⟩ := s; obtain ⟨hl, h⟩ := h; wp_walk using wpAny_loadPart' hl, wpAny_load hl; exact ⟨_, rfl, h⟩
theorem str_eq_declines (b : Str) (u : Tok) (l C d : Addr) :
    Meets (Builtin.«str.__eq__» ⟨[.str b u, .ref l], []⟩) (fun _ R s => s.heap.get? l = some (instObj C d) ∧ R (.ok (.ret .notImplemented)) s) :=
  .of_wp fun prog w A R s h => by obtain ⟨hp, g, d, tk, os⟩ := s; obtain ⟨hl, h⟩ := h; wp_walk using wpAny_loadPart' hl, wpAny_load hl; exact ⟨_, rfl, h⟩

section
variable {prog : Program} {w : World} {A : Around} {E : Value → Shared → Prop} {s : Shared} {K : Frag} {x C L f d : Addr} {h₀ : Heap} {m : Str → Option Value} {y : Str} {u : Tok}
theorem cmp_back {op : CmpOp} {Q : Value → Shared → Prop} (hu : A.units < cLine) (F : Fr h₀ L s.heap m) (X₀ : K.In h₀) (hx : s.heap.get? x = some (instObj C d)) (hd : ∃ od, s.heap.get? d = some od)
    (hn : subIn K (.ref C) (.type "str") = some false) (hs : findIn K (.ref C) (cmpInfo op).2.2 = some (some (.ref f))) (hf : isFn K (.ref f) = true)
    (hl : wpAny (model prog w) A (tryCompare (.str y u) (cmpInfo op).2.1 (.ref x)) (fun r s' => r = none ∧ s' = s) E s)
    (h : wpAny (model prog w) A (call (.ref f) [.ref x, .str y u]) (W.CmpBack Q) E s) : wpAny (model prog w) A (richCompare op (.str y u) (.ref x)) Q E s := by
  have X := X₀.keeps F.keep
  obtain ⟨od, hod⟩ := hd
  have I : InstAt s.heap x (instObj C d) C (some od) := ⟨hx, rfl, rfl, hod⟩
  have one : wpAny (model prog w) A (tryCompare (.ref x) (cmpInfo op).2.2 (.str y u)) (fun r s' => ∃ v, r = some v ∧ Q v s') E s := by
    unfold tryCompare
    refine wpAny_bind (ifBound_K X I hs hf (wpAny_mono h (fun v s' hv => ?_) fun _ _ e => e))
    cases v <;> first | exact hv.elim | exact wpAny_pure ⟨_, rfl, hv⟩
  rcases hi : cmpInfo op with ⟨sym, f1, r1⟩
  rw [hi] at hl one
  simp only [richCompare, hi, (PySem.typeIs_str s y u).oneThing_none]
  refine wpAny_holding (wpAny_bind (wpAny_cRoomFor hu ?_))
  refine wpAny_bind (wpAny_typeOf (typeIs_str s y u) (wpAny_bind (I.type.here ?_)))
  rw [if_pos (bne_iff_ne.mpr (by intro h; cases h) : (Value.type "str" != Value.ref C) = true)]
  refine wpAny_bind ((looks_subIn X hn).here ?_)
  simp only [Bool.false_eq_true, if_false, Bool.not_false, if_true]
  refine wpAny_bind (wpAny_mono hl (fun r s' z => ?_) fun _ _ e => e)
  obtain ⟨rfl, rfl⟩ := z
  refine wpAny_bind (wpAny_mono one (fun r s' z => ?_) fun _ _ e => e)
  obtain ⟨v, rfl, hq⟩ := z
  exact wpAny_pure hq
end
section
variable {w : World} {mean : ExcName → Option Value} {mg mb : Str → Option Value} {dp un : Nat} {gd : Option (List Code)} {cn : Str} {cs : Scope} {a : Addr} {ccd : Value} {cl : List (Str × Addr)} {outer : List Env} {A₀ : Around} {base h₀ : Heap} {L : Addr} {m : Str → Option Value} {s : Shared} {Q E : Value → Shared → Prop} {news : Led}

theorem lt_names {v v' : Value} {b b' : Bool} {x y : Str} (B : Below A₀ base outer h₀) (F : Fr h₀ L s.heap m) (X : (hd.heap_39 w.params).In h₀) (N : News h₀ L s.heap news) (T : Top hd.view_39 lsw mean mg mb h₀) (k : cs.kind = .function) (hdp : dp + 1 < recursionLimit) (hu : un + 30 < cLine)
    (V : NameV w news v b x) (V' : NameV w news v' b' y) (ret : ∀ h' tk', Fr h₀ L h' m → News h₀ L h' news → Q (.bool (ltS x y)) { s with heap := h', toks := tk' }) :
    wpAny (model PySem.Challenge.rw_wu0066_01.row.prog w) (ktrTop dp un gd cn cs L a ccd cl outer) (compareOp .Lt v v') Q E s := by
  have hu' : (ktrTop dp un gd cn cs L a ccd cl outer).units < cLine := by show un < cLine; omega
  cases V with
  | str x t =>
    cases V' with
    | str y u => exact PyProof.Rows.lt_str (ret s.heap s.toks F N)
    | qn h1 h2 =>
      have N' := news_more (news_more N h2) (.tail _ h1)
      refine cmp_ofLt (cmp_back hu' F X (N _ h1).1 ⟨_, (N _ h2).1⟩ (by k_is) (by k_is) (by k_is) ?_ ?_)
      · exact wpAny_tryCompare_declines (PySem.typeIs_str _ _ _) PySem.F.slot_str_lt (call_meets PySem.F.slot_str_lt (PySem.typeIs_str _ _ _) PySem.F.entry_str_lt (PySem.F.args_str_lt_2 _ _) (str_lt_declines _ _ _ 173 _) ⟨(N _ h1).1, rfl, rfl, rfl⟩)
      · exact Does.use (gt_qs w news _ _ _ _ _ _ _) B F X N' T k hdp hu fun r news' h' tk' hR F' N'' => by
          obtain ⟨rfl, rfl⟩ := hR
          exact ret h' tk' F' (news_less (news_less N''))
  | qn h1 h2 =>
    have I : InstAt s.heap _ _ 173 (some _) := .of_news N h1 h2
    cases V' with
    | str y u =>
      have N' := news_more (news_more N h2) (.tail _ h1)
      refine cmp_ofLt (cmp_K (tb := .type "str") hu' F X I (Looks.of_pure rfl) (by k_is) (by k_is) (by k_is) ?_)
      exact Does.use (lt_qs w news _ _ _ _ _ _ _) B F X N' T k hdp hu fun r news' h' tk' hR F' N'' => by
          obtain ⟨rfl, rfl⟩ := hR
          exact ret h' tk' F' (news_less (news_less N''))
    | qn h3 h4 =>
      have I' : InstAt s.heap _ _ 173 (some _) := .of_news N h3 h4
      have N' := news_more (news_more (news_more (news_more N h4) (.tail _ h3)) (.tail _ (.tail _ h2))) (.tail _ (.tail _ (.tail _ h1)))
      refine cmp_ofLt (cmp_K (tb := .ref 173) hu' F X I I'.type (by k_is) (by k_is) (by k_is) ?_)
      exact Does.use (lt_qq w news _ _ _ _ _ _ _ _ _ _) B F X N' T k hdp hu fun r news' h' tk' hR F' N'' => by
          obtain ⟨rfl, rfl⟩ := hR
          exact ret h' tk' F' (news_less (news_less (news_less (news_less N''))))
theorem eq_names {v v' : Value} {b b' : Bool} {x y : Str} (B : Below A₀ base outer h₀) (F : Fr h₀ L s.heap m) (X : (hd.heap_39 w.params).In h₀) (N : News h₀ L s.heap news) (T : Top hd.view_39 lsw mean mg mb h₀) (k : cs.kind = .function) (hdp : dp + 1 < recursionLimit) (hu : un + 30 < cLine)
    (V : NameV w news v b x) (V' : NameV w news v' b' y) (ret : ∀ h' tk', Fr h₀ L h' m → News h₀ L h' news → Q (.bool (x == y)) { s with heap := h', toks := tk' }) :
    wpAny (model PySem.Challenge.rw_wu0066_01.row.prog w) (ktrTop dp un gd cn cs L a ccd cl outer) (compareOp .Eq v v') Q E s := by
  have hu' : (ktrTop dp un gd cn cs L a ccd cl outer).units < cLine := by show un < cLine; omega
  cases V with
  | str x t =>
    cases V' with
    | str y u => exact PyProof.Rows.eq_str (ret s.heap s.toks F N)
    | qn h1 h2 =>
      have N' := news_more (news_more N h2) (.tail _ h1)
      refine cmp_ofEq (cmp_back hu' F X (N _ h1).1 ⟨_, (N _ h2).1⟩ (by k_is) (by k_is) (by k_is) ?_ ?_)
      · exact wpAny_tryCompare_declines (PySem.typeIs_str _ _ _) PySem.F.slot_str_eq (call_meets PySem.F.slot_str_eq (PySem.typeIs_str _ _ _) PySem.F.entry_str_eq (PySem.F.args_str_eq_2 _ _) (str_eq_declines _ _ _ 173 _) ⟨(N _ h1).1, rfl, rfl, rfl⟩)
      · exact Does.use (eq_qs w news _ _ _ _ _ _ _) B F X N' T k hdp hu fun r news' h' tk' hR F' N'' => by
          obtain ⟨rfl, rfl⟩ := hR
          rw [BEq.comm] at ret
          exact ret h' tk' F' (news_less (news_less N''))
  | qn h1 h2 =>
    have I : InstAt s.heap _ _ 173 (some _) := .of_news N h1 h2
    cases V' with
    | str y u =>
      have N' := news_more (news_more N h2) (.tail _ h1)
      refine cmp_ofEq (cmp_K (tb := .type "str") hu' F X I (Looks.of_pure rfl) (by k_is) (by k_is) (by k_is) ?_)
      exact Does.use (eq_qs w news _ _ _ _ _ _ _) B F X N' T k hdp hu fun r news' h' tk' hR F' N'' => by
          obtain ⟨rfl, rfl⟩ := hR
          exact ret h' tk' F' (news_less (news_less N''))
    | qn h3 h4 =>
      have I' : InstAt s.heap _ _ 173 (some _) := .of_news N h3 h4
      have N' := news_more (news_more (news_more (news_more N h4) (.tail _ h3)) (.tail _ (.tail _ h2))) (.tail _ (.tail _ (.tail _ h1)))
      refine cmp_ofEq (cmp_K (tb := .ref 173) hu' F X I I'.type (by k_is) (by k_is) (by k_is) ?_)
      exact Does.use (eq_qq w news _ _ _ _ _ _ _ _ _ _) B F X N' T k hdp hu fun r news' h' tk' hR F' N'' => by
          obtain ⟨rfl, rfl⟩ := hR
          exact ret h' tk' F' (news_less (news_less (news_less (news_less N''))))
end

/-- the items of a row are these names -/
inductive Names (w : World) (news : Led) : List Value → List (Bool × Str) → Prop
  | nil : Names w news [] []
  | cons {v : Value} {p : Bool × Str} {vs : List Value} {ps : List (Bool × Str)} : NameV w news v p.1 p.2 → Names w news vs ps → Names w news (v :: vs) (p :: ps)
theorem Names.mono {w : World} {news news' : Led} {vs : List Value} {ps : List (Bool × Str)} (h : Names w news vs ps) (hs : ∀ p ∈ news, p ∈ news') : Names w news' vs ps := by
  induction h with
  | nil => exact .nil
  | cons h1 _ ih => exact .cons (h1.mono hs) ih
theorem Names.length {w : World} {news : Led} {vs : List Value} {ps : List (Bool × Str)} (h : Names w news vs ps) : vs.length = ps.length := by
  induction h with
  | nil => rfl
  | cons _ _ ih => simp [ih]
theorem Names.get {w : World} {news : Led} {vs : List Value} {ps : List (Bool × Str)} (h : Names w news vs ps) : ∀ {i : Nat}, i < ps.length → ∃ v p, vs[i]? = some v ∧ ps[i]? = some p ∧ NameV w news v p.1 p.2 := by
  induction h with
  | nil => intro i hi; cases hi
  | cons h1 _ ih =>
    intro i hi
    cases i with
    | zero => exact ⟨_, _, rfl, rfl, h1⟩
    | succ i => simpa using ih (i := i) (by simpa using hi)

/-- r parts lo .. hi by p -/
structure Parts (p : Nat → Bool) (lo hi r : Nat) : Prop where
  ge : lo ≤ r
  le : r ≤ hi
  yes : ∀ i, lo ≤ i → i < r → p i = true
  no : ∀ i, r ≤ i → i < hi → p i = false
/-- p goes from true to false -/
def Falls (p : Nat → Bool) (lo hi : Nat) : Prop := ∀ i j, lo ≤ i → i ≤ j → j < hi → p j = true → p i = true
structure Mid (p : Nat → Bool) (lo hi l h : Nat) : Prop where
  ge : lo ≤ l
  le : l ≤ h
  top : h ≤ hi
  yes : ∀ i, lo ≤ i → i < l → p i = true
  no : ∀ i, h ≤ i → i < hi → p i = false
theorem Mid.start {p : Nat → Bool} {lo hi : Nat} (h : lo ≤ hi) : Mid p lo hi lo hi := ⟨Nat.le_refl _, h, Nat.le_refl _, fun i h1 h2 => absurd h1 (by omega), fun i h1 h2 => absurd h1 (by omega)⟩
theorem Mid.done {p : Nat → Bool} {lo hi l h : Nat} (M : Mid p lo hi l h) (e : ¬ l < h) : Parts p lo hi l := ⟨M.ge, Nat.le_trans M.le M.top, M.yes, fun i h1 h2 => M.no i (by have := M.le; omega) h2⟩
theorem Mid.up {p : Nat → Bool} {lo hi l h k : Nat} (M : Mid p lo hi l h) (H : Falls p lo hi) (h1 : l ≤ k) (h2 : k < h) (e : p k = true) : Mid p lo hi (k + 1) h :=
  ⟨by have := M.ge; omega, h2, M.top, fun i a b => H i k a (by omega) (by have := M.top; omega) e, M.no⟩
theorem Mid.down {p : Nat → Bool} {lo hi l h k : Nat} (M : Mid p lo hi l h) (H : Falls p lo hi) (h1 : l ≤ k) (h2 : k < h) (e : p k = false) : Mid p lo hi l k :=
  ⟨M.ge, h1, by have := M.top; omega, M.yes, fun i a b => by
    cases q : p i with
    | false => rfl
    | true => rw [H k i (by have := M.ge; omega) a b q] at e; cases e⟩

theorem fr_look {h₀ h : Heap} {L : Addr} {m : Str → Option Value} (_ : Fr h₀ L h m) (x : Str) (P : Value → Prop) : (∃ v, m x = some v ∧ P v) → ∃ v, m x = some v ∧ P v := id
/-- a text of a name, by its place -/
def tx (ps : List (Bool × Str)) (i : Nat) : Str := (ps[i]?.map (·.2)).getD Str.empty

/-- the items of a row are these ints -/
inductive Ints : List Value → List Int → Prop
  | nil : Ints [] []
  | cons {i : Int} {t : Tok} {vs : List Value} {ns : List Int} : Ints vs ns → Ints (.int i t :: vs) (i :: ns)
theorem Ints.length {vs : List Value} {ns : List Int} (h : Ints vs ns) : vs.length = ns.length := by
  induction h with
  | nil => rfl
  | cons _ ih => simp [ih]
theorem Ints.get {vs : List Value} {ns : List Int} (h : Ints vs ns) : ∀ {i : Nat}, i < ns.length → ∃ t, vs[i]? = some (.int (ns.getD i 0) t) := by
  induction h with
  | nil => intro i hi; cases hi
  | cons _ ih =>
    intro i hi
    cases i with
    | zero => exact ⟨_, rfl⟩
    | succ i => simpa using ih (i := i) (by simpa using hi)
/-- the items of a row are these texts -/
inductive Texts : List Value → List Str → Prop
  | nil : Texts [] []
  | cons {x : Str} {t : Tok} {vs : List Value} {xs : List Str} : Texts vs xs → Texts (.str x t :: vs) (x :: xs)
theorem Texts.length {vs : List Value} {ns : List Str} (h : Texts vs ns) : vs.length = ns.length := by
  induction h with
  | nil => rfl
  | cons _ ih => simp [ih]
theorem Texts.get {vs : List Value} {ns : List Str} (h : Texts vs ns) : ∀ {i : Nat}, i < ns.length → ∃ t, vs[i]? = some (.str (ns.getD i Str.empty) t) := by
  induction h with
  | nil => intro i hi; cases hi
  | cons _ ih =>
    intro i hi
    cases i with
    | zero => exact ⟨_, rfl⟩
    | succ i => simpa using ih (i := i) (by simpa using hi)
theorem tx_of {ps : List (Bool × Str)} {i : Nat} {p : Bool × Str} (h : ps[i]? = some p) : tx ps i = p.2 := by unfold tx; rw [h]; rfl
theorem mid_cast (l h : Nat) : Int.fdiv ((l : Int) + (h : Int)) 2 = (((l + h) / 2 : Nat) : Int) := by rw [Int.fdiv_eq_ediv_of_nonneg _ (by omega)]; omega
theorem not_mid {z : Str} (h : [Str.ofString "mid"].contains z = false) : z ≠ Str.ofString "mid" := by
  intro e
  rw [e] at h
  simp at h
theorem mid_ge {l h : Nat} (q : l < h) : l ≤ (l + h) / 2 := by omega
theorem mid_lt {l h : Nat} (q : l < h) : (l + h) / 2 < h := by omega
theorem mid_up {l h : Nat} (q : l < h) : h - ((l + h) / 2 + 1) < h - l := by omega
theorem mid_dn {l h : Nat} (q : l < h) : (l + h) / 2 - l < h - l := by omega
theorem mid_63 {k n : Nat} (h : k < n) (hn : n ≤ 1000) : (k : Int) < 2 ^ 63 := by omega
theorem len_le {n i k : Nat} (h : n = i) (hi : i < 6) (hk : 6 ≤ k) : n ≤ k := h ▸ Nat.le_trans (Nat.le_of_lt hi) hk


set_option maxHeartbeats 8000000 in
theorem bl_none_n (w : World) (news : Led) (a : Addr) (vs : List Value) (n : Nat) (ps : List (Bool × Str)) (v : Value) (b : Bool) (x : Str) (t : Tok)
    (hn : (a, listOf vs.toArray n) ∈ news) (hv : Names w news vs ps) (hx : NameV w news v b x) (hlen : ps.length ≤ 1000) (hf : Falls (fun i => ltS (tx ps i) x) 0 ps.length) :
    Does w 6 100 50 [.ref a, v, .int 0 t, .none] [] news (fun r n => n = news ∧ ∃ k t, r = .int ((k : Nat) : Int) t ∧ Parts (fun i => ltS (tx ps i) x) 0 ps.length k) := by
  unfold Does
  intros; rename_i hret
  rename News _ _ _ _ => N0
  replace N0 := news_more N0 hn
  have hvl := hv.length
  refine wpAny_call ?_
  k_dflt k_enter
  k_steps
  rename Fr _ _ _ _ => lF
  rename News _ _ _ _ => lN
  obtain ⟨_, etl, tl, rfl⟩ := fr_look lF (Str.ofString "lo") (fun v => ∃ t, v = .int (0 : Int) t) ⟨_, by with_unfolding_all rfl, _, rfl⟩
  obtain ⟨_, eth, th, rfl⟩ := fr_look lF (Str.ofString "hi") (fun v => ∃ t, v = .int (vs.length : Int) t) ⟨_, by with_unfolding_all rfl, _, rfl⟩
  refine' ksw_while (σ := Nat × Nat × Tok × Tok) (fun _ => (a, listOf vs.toArray n) :: news) (fun c => [(Str.ofString "lo", .int (c.1 : Int) c.2.2.1), (Str.ofString "hi", .int (c.2.1 : Int) c.2.2.2)]) (fun _ => True) [Str.ofString "mid"]
    (fun c => Mid (fun i => ltS (tx ps i) x) 0 ps.length c.1 c.2.1) (fun c => c.2.1 - c.1) (0, vs.length, tl, th) lF lN trivial ?hk ?hp ?turn ?hE
  case hk => exact List.forall_mem_cons.mpr ⟨etl, List.forall_mem_cons.mpr ⟨eth, List.forall_mem_nil _⟩⟩
  case hp => rw [hvl]; exact Mid.start (Nat.zero_le _)
  case hE => first | passes_own | with_unfolding_all passes_own
  case turn =>
    clear lF lN etl eth
    rintro ⟨l, h, tl, th⟩ u hp tk _ hM F' N'
    dsimp only at hM
    k_steps
    · have hlh : l < h := by rename ((_ : Int) < _) => q; exact Int.ofNat_lt.mp q
      have eM := mid_cast l h
      have eM1 : Int.fdiv ((l : Int) + (h : Int)) 2 + 1 = (((l + h) / 2 + 1 : Nat) : Int) := by rw [eM]; rfl
      have hb := hM.top
      have hmp : (l + h) / 2 < ps.length := Nat.lt_of_lt_of_le (mid_lt hlh) hb
      obtain ⟨v1, p1, hv1, hp1, hV1⟩ := hv.get (i := (l + h) / 2) hmp
      have etx := tx_of hp1
      refine item_my (v := v1) (by assumption) (List.Mem.head _) (by rw [eM]; exact Int.natCast_nonneg _) (by rw [eM]; exact mid_63 hmp hlen) (by rw [eM]; exact hv1) ?_
      k_steps
      refine lt_names (by assumption) (by assumption) (by assumption) (by assumption) (by assumption) rfl (by ktr_room) (by ktr_units) (hV1.mono fun _ hp => .tail _ hp) (hx.mono fun _ hp => .tail _ hp) ?_
      intro h9 tk9 F9 N9
      k_steps
      · rename Fr _ _ _ _ => eF; rename News _ _ _ _ => eN
        refine ksw_end ⟨(l + h) / 2 + 1, h, _, _⟩ eF eN (fun p hp => hp) trivial (List.forall_mem_cons.mpr ⟨by dsimp only; rw [← eM1]; with_unfolding_all rfl, List.forall_mem_cons.mpr ⟨by dsimp only; with_unfolding_all rfl, List.forall_mem_nil _⟩⟩) (by intro z h2 h3; have e1 := h2 _ (.head _); have e2 := h2 _ (.tail _ (.head _)); have e3 := not_mid h3; dsimp only at e1 e2; simp only [kstB, if_neg e1, if_neg e2, if_neg e3, h3, Bool.false_eq_true, if_false]) ?_ (by dsimp only; exact mid_up hlh)
        show Mid _ _ _ ((l + h) / 2 + 1) h
        exact hM.up hf (mid_ge hlh) (mid_lt hlh) (by rename _ < _ => q9; show (ltS _ _) = true; rw [etx]; exact decide_eq_true q9)
      · rename Fr _ _ _ _ => eF; rename News _ _ _ _ => eN
        refine ksw_end ⟨l, (l + h) / 2, _, _⟩ eF eN (fun p hp => hp) trivial (List.forall_mem_cons.mpr ⟨by dsimp only; with_unfolding_all rfl, List.forall_mem_cons.mpr ⟨by dsimp only; rw [← eM]; with_unfolding_all rfl, List.forall_mem_nil _⟩⟩) (by intro z h2 h3; have e1 := h2 _ (.head _); have e2 := h2 _ (.tail _ (.head _)); have e3 := not_mid h3; dsimp only at e1 e2; simp only [kstB, if_neg e1, if_neg e2, if_neg e3, h3, Bool.false_eq_true, if_false]) ?_ (by dsimp only; exact mid_dn hlh)
        show Mid _ _ _ l ((l + h) / 2)
        exact hM.down hf (mid_ge hlh) (mid_lt hlh) (by rename ¬ (_ < _) => q9; show (ltS _ _) = false; rw [etx]; exact decide_eq_false q9)
    · have hlh : ¬ l < h := by rename ¬ ((_ : Int) < _) => q; exact fun z => q (Int.ofNat_lt.mpr z)
      exact hret _ _ _ _ ⟨rfl, _, _, rfl, hM.done hlh⟩ (by assumption) (news_less (by assumption))

set_option maxHeartbeats 8000000 in
theorem bl_neg_n (w : World) (news : Led) (a : Addr) (vs : List Value) (n : Nat) (ps : List Int) (x : Int) (u : Tok) (t : Tok)
    (hn : (a, listOf vs.toArray n) ∈ news) (hv : Ints vs ps) (hlen : ps.length ≤ 1000) (hf : Falls (fun i => decide (-(ps.getD i 0) < x)) 0 ps.length) :
    Does w 6 100 50 [.ref a, .int x u, .int 0 t, .none] [(Str.ofString "key", .ref 64)] news (fun r n => n = news ∧ ∃ k t, r = .int ((k : Nat) : Int) t ∧ Parts (fun i => decide (-(ps.getD i 0) < x)) 0 ps.length k) := by
  unfold Does
  intros; rename_i hret
  rename News _ _ _ _ => N0
  replace N0 := news_more N0 hn
  have hvl := hv.length
  refine wpAny_call ?_
  k_dflt k_enter
  k_steps
  rename Fr _ _ _ _ => lF
  rename News _ _ _ _ => lN
  obtain ⟨_, etl, tl, rfl⟩ := fr_look lF (Str.ofString "lo") (fun v => ∃ t, v = .int (0 : Int) t) ⟨_, by with_unfolding_all rfl, _, rfl⟩
  obtain ⟨_, eth, th, rfl⟩ := fr_look lF (Str.ofString "hi") (fun v => ∃ t, v = .int (vs.length : Int) t) ⟨_, by with_unfolding_all rfl, _, rfl⟩
  refine' ksw_while (σ := Nat × Nat × Tok × Tok) (fun _ => (a, listOf vs.toArray n) :: news) (fun c => [(Str.ofString "lo", .int (c.1 : Int) c.2.2.1), (Str.ofString "hi", .int (c.2.1 : Int) c.2.2.2)]) (fun _ => True) [Str.ofString "mid"]
    (fun c => Mid (fun i => decide (-(ps.getD i 0) < x)) 0 ps.length c.1 c.2.1) (fun c => c.2.1 - c.1) (0, vs.length, tl, th) lF lN trivial ?hk ?hp ?turn ?hE
  case hk => exact List.forall_mem_cons.mpr ⟨etl, List.forall_mem_cons.mpr ⟨eth, List.forall_mem_nil _⟩⟩
  case hp => rw [hvl]; exact Mid.start (Nat.zero_le _)
  case hE => first | passes_own | with_unfolding_all passes_own
  case turn =>
    clear lF lN etl eth
    rintro ⟨l, h, tl, th⟩ u hp tk _ hM F' N'
    dsimp only at hM
    k_steps
    · have hlh : l < h := by rename ((_ : Int) < _) => q; exact Int.ofNat_lt.mp q
      have eM := mid_cast l h
      have eM1 : Int.fdiv ((l : Int) + (h : Int)) 2 + 1 = (((l + h) / 2 + 1 : Nat) : Int) := by rw [eM]; rfl
      have hb := hM.top
      have hmp : (l + h) / 2 < ps.length := Nat.lt_of_lt_of_le (mid_lt hlh) hb
      obtain ⟨t1, hv1⟩ := hv.get (i := (l + h) / 2) hmp
      refine item_my (v := .int (ps.getD ((l + h) / 2) 0) t1) (by assumption) (List.Mem.head _) (by rw [eM]; exact Int.natCast_nonneg _) (by rw [eM]; exact mid_63 hmp hlen) (by rw [eM]; exact hv1) ?_
      k_steps
      · rename Fr _ _ _ _ => eF; rename News _ _ _ _ => eN
        refine ksw_end ⟨(l + h) / 2 + 1, h, _, _⟩ eF eN (fun p hp => hp) trivial (List.forall_mem_cons.mpr ⟨by dsimp only; rw [← eM1]; with_unfolding_all rfl, List.forall_mem_cons.mpr ⟨by dsimp only; with_unfolding_all rfl, List.forall_mem_nil _⟩⟩) (by intro z h2 h3; have e1 := h2 _ (.head _); have e2 := h2 _ (.tail _ (.head _)); have e3 := not_mid h3; dsimp only at e1 e2; simp only [kstB, if_neg e1, if_neg e2, if_neg e3, h3, Bool.false_eq_true, if_false]) ?_ (by dsimp only; exact mid_up hlh)
        show Mid _ _ _ ((l + h) / 2 + 1) h
        exact hM.up hf (mid_ge hlh) (mid_lt hlh) (by rename _ < _ => q9; exact decide_eq_true q9)
      · rename Fr _ _ _ _ => eF; rename News _ _ _ _ => eN
        refine ksw_end ⟨l, (l + h) / 2, _, _⟩ eF eN (fun p hp => hp) trivial (List.forall_mem_cons.mpr ⟨by dsimp only; with_unfolding_all rfl, List.forall_mem_cons.mpr ⟨by dsimp only; rw [← eM]; with_unfolding_all rfl, List.forall_mem_nil _⟩⟩) (by intro z h2 h3; have e1 := h2 _ (.head _); have e2 := h2 _ (.tail _ (.head _)); have e3 := not_mid h3; dsimp only at e1 e2; simp only [kstB, if_neg e1, if_neg e2, if_neg e3, h3, Bool.false_eq_true, if_false]) ?_ (by dsimp only; exact mid_dn hlh)
        show Mid _ _ _ l ((l + h) / 2)
        exact hM.down hf (mid_ge hlh) (mid_lt hlh) (by rename ¬ (_ < _) => q9; exact decide_eq_false q9)
    · have hlh : ¬ l < h := by rename ¬ ((_ : Int) < _) => q; exact fun z => q (Int.ofNat_lt.mpr z)
      exact hret _ _ _ _ ⟨rfl, _, _, rfl, hM.done hlh⟩ (by assumption) (news_less (by assumption))

set_option maxHeartbeats 8000000 in
theorem bl_bare_n (w : World) (news : Led) (a : Addr) (vs : List Value) (n : Nat) (ps : List Str) (v : Value) (x : Str) (t : Tok)
    (hn : (a, listOf vs.toArray n) ∈ news) (hv : Texts vs ps) (hx : NameV w news v false x) (hlen : ps.length ≤ 1000) (hf : Falls (fun i => ltS (ps.getD i Str.empty) x) 0 ps.length) :
    Does w 6 100 50 [.ref a, v, .int 0 t, .none] [(Str.ofString "key", .ref 226)] news (fun r n => n = news ∧ ∃ k t, r = .int ((k : Nat) : Int) t ∧ Parts (fun i => ltS (ps.getD i Str.empty) x) 0 ps.length k) := by
  unfold Does
  intros; rename_i hret
  rename News _ _ _ _ => N0
  replace N0 := news_more N0 hn
  have hvl := hv.length
  refine wpAny_call ?_
  k_dflt k_enter
  k_steps
  rename Fr _ _ _ _ => lF
  rename News _ _ _ _ => lN
  obtain ⟨_, etl, tl, rfl⟩ := fr_look lF (Str.ofString "lo") (fun v => ∃ t, v = .int (0 : Int) t) ⟨_, by with_unfolding_all rfl, _, rfl⟩
  obtain ⟨_, eth, th, rfl⟩ := fr_look lF (Str.ofString "hi") (fun v => ∃ t, v = .int (vs.length : Int) t) ⟨_, by with_unfolding_all rfl, _, rfl⟩
  refine' ksw_while (σ := Nat × Nat × Tok × Tok) (fun _ => (a, listOf vs.toArray n) :: news) (fun c => [(Str.ofString "lo", .int (c.1 : Int) c.2.2.1), (Str.ofString "hi", .int (c.2.1 : Int) c.2.2.2)]) (fun _ => True) [Str.ofString "mid"]
    (fun c => Mid (fun i => ltS (ps.getD i Str.empty) x) 0 ps.length c.1 c.2.1) (fun c => c.2.1 - c.1) (0, vs.length, tl, th) lF lN trivial ?hk ?hp ?turn ?hE
  case hk => exact List.forall_mem_cons.mpr ⟨etl, List.forall_mem_cons.mpr ⟨eth, List.forall_mem_nil _⟩⟩
  case hp => rw [hvl]; exact Mid.start (Nat.zero_le _)
  case hE => first | passes_own | with_unfolding_all passes_own
  case turn =>
    clear lF lN etl eth
    rintro ⟨l, h, tl, th⟩ u hp tk _ hM F' N'
    dsimp only at hM
    k_steps
    · have hlh : l < h := by rename ((_ : Int) < _) => q; exact Int.ofNat_lt.mp q
      have eM := mid_cast l h
      have eM1 : Int.fdiv ((l : Int) + (h : Int)) 2 + 1 = (((l + h) / 2 + 1 : Nat) : Int) := by rw [eM]; rfl
      have hb := hM.top
      have hmp : (l + h) / 2 < ps.length := Nat.lt_of_lt_of_le (mid_lt hlh) hb
      obtain ⟨t1, hv1⟩ := hv.get (i := (l + h) / 2) hmp
      refine item_my (v := .str (ps.getD ((l + h) / 2) Str.empty) t1) (by assumption) (List.Mem.head _) (by rw [eM]; exact Int.natCast_nonneg _) (by rw [eM]; exact mid_63 hmp hlen) (by rw [eM]; exact hv1) ?_
      k_steps
      refine lt_names (by assumption) (by assumption) (by assumption) (by assumption) (by assumption) rfl (by ktr_room) (by ktr_units) (.qn (.head _) (.tail _ (.head _))) (hx.mono fun _ hp => .tail _ (.tail _ (.tail _ hp))) ?_
      intro h8 tk8 F8 N8
      k_steps
      · rename Fr _ _ _ _ => eF; rename News _ _ _ _ => eN
        refine ksw_end ⟨(l + h) / 2 + 1, h, _, _⟩ eF eN (fun p hp => .tail _ (.tail _ hp)) trivial (List.forall_mem_cons.mpr ⟨by dsimp only; rw [← eM1]; with_unfolding_all rfl, List.forall_mem_cons.mpr ⟨by dsimp only; with_unfolding_all rfl, List.forall_mem_nil _⟩⟩) (by intro z h2 h3; have e1 := h2 _ (.head _); have e2 := h2 _ (.tail _ (.head _)); have e3 := not_mid h3; dsimp only at e1 e2; simp only [kstB, if_neg e1, if_neg e2, if_neg e3, h3, Bool.false_eq_true, if_false]) ?_ (by dsimp only; exact mid_up hlh)
        show Mid _ _ _ ((l + h) / 2 + 1) h
        exact hM.up hf (mid_ge hlh) (mid_lt hlh) (by rename _ < _ => q9; exact decide_eq_true q9)
      · rename Fr _ _ _ _ => eF; rename News _ _ _ _ => eN
        refine ksw_end ⟨l, (l + h) / 2, _, _⟩ eF eN (fun p hp => .tail _ (.tail _ hp)) trivial (List.forall_mem_cons.mpr ⟨by dsimp only; with_unfolding_all rfl, List.forall_mem_cons.mpr ⟨by dsimp only; rw [← eM]; with_unfolding_all rfl, List.forall_mem_nil _⟩⟩) (by intro z h2 h3; have e1 := h2 _ (.head _); have e2 := h2 _ (.tail _ (.head _)); have e3 := not_mid h3; dsimp only at e1 e2; simp only [kstB, if_neg e1, if_neg e2, if_neg e3, h3, Bool.false_eq_true, if_false]) ?_ (by dsimp only; exact mid_dn hlh)
        show Mid _ _ _ l ((l + h) / 2)
        exact hM.down hf (mid_ge hlh) (mid_lt hlh) (by rename ¬ (_ < _) => q9; exact decide_eq_false q9)
    · have hlh : ¬ l < h := by rename ¬ ((_ : Int) < _) => q; exact fun z => q (Int.ofNat_lt.mpr z)
      exact hret _ _ _ _ ⟨rfl, _, _, rfl, hM.done hlh⟩ (by assumption) (news_less (by assumption))

set_option maxHeartbeats 8000000 in
theorem br_none_n (w : World) (news : Led) (a : Addr) (vs : List Value) (n : Nat) (ps : List (Bool × Str)) (v : Value) (b : Bool) (x : Str) (t : Tok)
    (hn : (a, listOf vs.toArray n) ∈ news) (hv : Names w news vs ps) (hx : NameV w news v b x) (hlen : ps.length ≤ 1000) (hf : Falls (fun i => !ltS x (tx ps i)) 0 ps.length) :
    Does w 6 100 32 [.ref a, v, .int 0 t, .none] [] news (fun r n => n = news ∧ ∃ k t, r = .int ((k : Nat) : Int) t ∧ Parts (fun i => !ltS x (tx ps i)) 0 ps.length k) := by
  unfold Does
  intros; rename_i hret
  rename News _ _ _ _ => N0
  replace N0 := news_more N0 hn
  have hvl := hv.length
  refine wpAny_call ?_
  k_dflt k_enter
  k_steps
  rename Fr _ _ _ _ => lF
  rename News _ _ _ _ => lN
  obtain ⟨_, etl, tl, rfl⟩ := fr_look lF (Str.ofString "lo") (fun v => ∃ t, v = .int (0 : Int) t) ⟨_, by with_unfolding_all rfl, _, rfl⟩
  obtain ⟨_, eth, th, rfl⟩ := fr_look lF (Str.ofString "hi") (fun v => ∃ t, v = .int (vs.length : Int) t) ⟨_, by with_unfolding_all rfl, _, rfl⟩
  refine' ksw_while (σ := Nat × Nat × Tok × Tok) (fun _ => (a, listOf vs.toArray n) :: news) (fun c => [(Str.ofString "lo", .int (c.1 : Int) c.2.2.1), (Str.ofString "hi", .int (c.2.1 : Int) c.2.2.2)]) (fun _ => True) [Str.ofString "mid"]
    (fun c => Mid (fun i => !ltS x (tx ps i)) 0 ps.length c.1 c.2.1) (fun c => c.2.1 - c.1) (0, vs.length, tl, th) lF lN trivial ?hk ?hp ?turn ?hE
  case hk => exact List.forall_mem_cons.mpr ⟨etl, List.forall_mem_cons.mpr ⟨eth, List.forall_mem_nil _⟩⟩
  case hp => rw [hvl]; exact Mid.start (Nat.zero_le _)
  case hE => first | passes_own | with_unfolding_all passes_own
  case turn =>
    clear lF lN etl eth
    rintro ⟨l, h, tl, th⟩ u hp tk _ hM F' N'
    dsimp only at hM
    k_steps
    · have hlh : l < h := by rename ((_ : Int) < _) => q; exact Int.ofNat_lt.mp q
      have eM := mid_cast l h
      have eM1 : Int.fdiv ((l : Int) + (h : Int)) 2 + 1 = (((l + h) / 2 + 1 : Nat) : Int) := by rw [eM]; rfl
      have hb := hM.top
      have hmp : (l + h) / 2 < ps.length := Nat.lt_of_lt_of_le (mid_lt hlh) hb
      obtain ⟨v1, p1, hv1, hp1, hV1⟩ := hv.get (i := (l + h) / 2) hmp
      have etx := tx_of hp1
      refine item_my (v := v1) (by assumption) (List.Mem.head _) (by rw [eM]; exact Int.natCast_nonneg _) (by rw [eM]; exact mid_63 hmp hlen) (by rw [eM]; exact hv1) ?_
      k_steps
      refine lt_names (by assumption) (by assumption) (by assumption) (by assumption) (by assumption) rfl (by ktr_room) (by ktr_units) (hx.mono fun _ hp => .tail _ hp) (hV1.mono fun _ hp => .tail _ hp) ?_
      intro h9 tk9 F9 N9
      k_steps
      · rename Fr _ _ _ _ => eF; rename News _ _ _ _ => eN
        refine ksw_end ⟨l, (l + h) / 2, _, _⟩ eF eN (fun p hp => hp) trivial (List.forall_mem_cons.mpr ⟨by dsimp only; with_unfolding_all rfl, List.forall_mem_cons.mpr ⟨by dsimp only; rw [← eM]; with_unfolding_all rfl, List.forall_mem_nil _⟩⟩) (by intro z h2 h3; have e1 := h2 _ (.head _); have e2 := h2 _ (.tail _ (.head _)); have e3 := not_mid h3; dsimp only at e1 e2; simp only [kstB, if_neg e1, if_neg e2, if_neg e3, h3, Bool.false_eq_true, if_false]) ?_ (by dsimp only; exact mid_dn hlh)
        show Mid _ _ _ l ((l + h) / 2)
        exact hM.down hf (mid_ge hlh) (mid_lt hlh) (by rename _ < _ => q9; rw [etx]; show (!decide _) = false; exact by rw [decide_eq_true q9]; rfl)
      · rename Fr _ _ _ _ => eF; rename News _ _ _ _ => eN
        refine ksw_end ⟨(l + h) / 2 + 1, h, _, _⟩ eF eN (fun p hp => hp) trivial (List.forall_mem_cons.mpr ⟨by dsimp only; rw [← eM1]; with_unfolding_all rfl, List.forall_mem_cons.mpr ⟨by dsimp only; with_unfolding_all rfl, List.forall_mem_nil _⟩⟩) (by intro z h2 h3; have e1 := h2 _ (.head _); have e2 := h2 _ (.tail _ (.head _)); have e3 := not_mid h3; dsimp only at e1 e2; simp only [kstB, if_neg e1, if_neg e2, if_neg e3, h3, Bool.false_eq_true, if_false]) ?_ (by dsimp only; exact mid_up hlh)
        show Mid _ _ _ ((l + h) / 2 + 1) h
        exact hM.up hf (mid_ge hlh) (mid_lt hlh) (by rename ¬ (_ < _) => q9; rw [etx]; show (!decide _) = true; exact by rw [decide_eq_false q9]; rfl)
    · have hlh : ¬ l < h := by rename ¬ ((_ : Int) < _) => q; exact fun z => q (Int.ofNat_lt.mpr z)
      exact hret _ _ _ _ ⟨rfl, _, _, rfl, hM.done hlh⟩ (by assumption) (news_less (by assumption))

set_option maxHeartbeats 8000000 in
theorem br_neg_n (w : World) (news : Led) (a : Addr) (vs : List Value) (n : Nat) (ps : List Int) (x : Int) (u : Tok) (t : Tok)
    (hn : (a, listOf vs.toArray n) ∈ news) (hv : Ints vs ps) (hlen : ps.length ≤ 1000) (hf : Falls (fun i => !decide (x < -(ps.getD i 0))) 0 ps.length) :
    Does w 6 100 32 [.ref a, .int x u, .int 0 t, .none] [(Str.ofString "key", .ref 64)] news (fun r n => n = news ∧ ∃ k t, r = .int ((k : Nat) : Int) t ∧ Parts (fun i => !decide (x < -(ps.getD i 0))) 0 ps.length k) := by
  unfold Does
  intros; rename_i hret
  rename News _ _ _ _ => N0
  replace N0 := news_more N0 hn
  have hvl := hv.length
  refine wpAny_call ?_
  k_dflt k_enter
  k_steps
  rename Fr _ _ _ _ => lF
  rename News _ _ _ _ => lN
  obtain ⟨_, etl, tl, rfl⟩ := fr_look lF (Str.ofString "lo") (fun v => ∃ t, v = .int (0 : Int) t) ⟨_, by with_unfolding_all rfl, _, rfl⟩
  obtain ⟨_, eth, th, rfl⟩ := fr_look lF (Str.ofString "hi") (fun v => ∃ t, v = .int (vs.length : Int) t) ⟨_, by with_unfolding_all rfl, _, rfl⟩
  refine' ksw_while (σ := Nat × Nat × Tok × Tok) (fun _ => (a, listOf vs.toArray n) :: news) (fun c => [(Str.ofString "lo", .int (c.1 : Int) c.2.2.1), (Str.ofString "hi", .int (c.2.1 : Int) c.2.2.2)]) (fun _ => True) [Str.ofString "mid"]
    (fun c => Mid (fun i => !decide (x < -(ps.getD i 0))) 0 ps.length c.1 c.2.1) (fun c => c.2.1 - c.1) (0, vs.length, tl, th) lF lN trivial ?hk ?hp ?turn ?hE
  case hk => exact List.forall_mem_cons.mpr ⟨etl, List.forall_mem_cons.mpr ⟨eth, List.forall_mem_nil _⟩⟩
  case hp => rw [hvl]; exact Mid.start (Nat.zero_le _)
  case hE => first | passes_own | with_unfolding_all passes_own
  case turn =>
    clear lF lN etl eth
    rintro ⟨l, h, tl, th⟩ u hp tk _ hM F' N'
    dsimp only at hM
    k_steps
    · have hlh : l < h := by rename ((_ : Int) < _) => q; exact Int.ofNat_lt.mp q
      have eM := mid_cast l h
      have eM1 : Int.fdiv ((l : Int) + (h : Int)) 2 + 1 = (((l + h) / 2 + 1 : Nat) : Int) := by rw [eM]; rfl
      have hb := hM.top
      have hmp : (l + h) / 2 < ps.length := Nat.lt_of_lt_of_le (mid_lt hlh) hb
      obtain ⟨t1, hv1⟩ := hv.get (i := (l + h) / 2) hmp
      refine item_my (v := .int (ps.getD ((l + h) / 2) 0) t1) (by assumption) (List.Mem.head _) (by rw [eM]; exact Int.natCast_nonneg _) (by rw [eM]; exact mid_63 hmp hlen) (by rw [eM]; exact hv1) ?_
      k_steps
      · rename Fr _ _ _ _ => eF; rename News _ _ _ _ => eN
        refine ksw_end ⟨l, (l + h) / 2, _, _⟩ eF eN (fun p hp => hp) trivial (List.forall_mem_cons.mpr ⟨by dsimp only; with_unfolding_all rfl, List.forall_mem_cons.mpr ⟨by dsimp only; rw [← eM]; with_unfolding_all rfl, List.forall_mem_nil _⟩⟩) (by intro z h2 h3; have e1 := h2 _ (.head _); have e2 := h2 _ (.tail _ (.head _)); have e3 := not_mid h3; dsimp only at e1 e2; simp only [kstB, if_neg e1, if_neg e2, if_neg e3, h3, Bool.false_eq_true, if_false]) ?_ (by dsimp only; exact mid_dn hlh)
        show Mid _ _ _ l ((l + h) / 2)
        exact hM.down hf (mid_ge hlh) (mid_lt hlh) (by rename _ < _ => q9; show (!decide _) = false; exact by rw [decide_eq_true q9]; rfl)
      · rename Fr _ _ _ _ => eF; rename News _ _ _ _ => eN
        refine ksw_end ⟨(l + h) / 2 + 1, h, _, _⟩ eF eN (fun p hp => hp) trivial (List.forall_mem_cons.mpr ⟨by dsimp only; rw [← eM1]; with_unfolding_all rfl, List.forall_mem_cons.mpr ⟨by dsimp only; with_unfolding_all rfl, List.forall_mem_nil _⟩⟩) (by intro z h2 h3; have e1 := h2 _ (.head _); have e2 := h2 _ (.tail _ (.head _)); have e3 := not_mid h3; dsimp only at e1 e2; simp only [kstB, if_neg e1, if_neg e2, if_neg e3, h3, Bool.false_eq_true, if_false]) ?_ (by dsimp only; exact mid_up hlh)
        show Mid _ _ _ ((l + h) / 2 + 1) h
        exact hM.up hf (mid_ge hlh) (mid_lt hlh) (by rename ¬ (_ < _) => q9; show (!decide _) = true; exact by rw [decide_eq_false q9]; rfl)
    · have hlh : ¬ l < h := by rename ¬ ((_ : Int) < _) => q; exact fun z => q (Int.ofNat_lt.mpr z)
      exact hret _ _ _ _ ⟨rfl, _, _, rfl, hM.done hlh⟩ (by assumption) (news_less (by assumption))

set_option maxHeartbeats 8000000 in
theorem br_bare_n (w : World) (news : Led) (a : Addr) (vs : List Value) (n : Nat) (ps : List Str) (v : Value) (x : Str) (t : Tok)
    (hn : (a, listOf vs.toArray n) ∈ news) (hv : Texts vs ps) (hx : NameV w news v false x) (hlen : ps.length ≤ 1000) (hf : Falls (fun i => !ltS x (ps.getD i Str.empty)) 0 ps.length) :
    Does w 6 100 32 [.ref a, v, .int 0 t, .none] [(Str.ofString "key", .ref 226)] news (fun r n => n = news ∧ ∃ k t, r = .int ((k : Nat) : Int) t ∧ Parts (fun i => !ltS x (ps.getD i Str.empty)) 0 ps.length k) := by
  unfold Does
  intros; rename_i hret
  rename News _ _ _ _ => N0
  replace N0 := news_more N0 hn
  have hvl := hv.length
  refine wpAny_call ?_
  k_dflt k_enter
  k_steps
  rename Fr _ _ _ _ => lF
  rename News _ _ _ _ => lN
  obtain ⟨_, etl, tl, rfl⟩ := fr_look lF (Str.ofString "lo") (fun v => ∃ t, v = .int (0 : Int) t) ⟨_, by with_unfolding_all rfl, _, rfl⟩
  obtain ⟨_, eth, th, rfl⟩ := fr_look lF (Str.ofString "hi") (fun v => ∃ t, v = .int (vs.length : Int) t) ⟨_, by with_unfolding_all rfl, _, rfl⟩
  refine' ksw_while (σ := Nat × Nat × Tok × Tok) (fun _ => (a, listOf vs.toArray n) :: news) (fun c => [(Str.ofString "lo", .int (c.1 : Int) c.2.2.1), (Str.ofString "hi", .int (c.2.1 : Int) c.2.2.2)]) (fun _ => True) [Str.ofString "mid"]
    (fun c => Mid (fun i => !ltS x (ps.getD i Str.empty)) 0 ps.length c.1 c.2.1) (fun c => c.2.1 - c.1) (0, vs.length, tl, th) lF lN trivial ?hk ?hp ?turn ?hE
  case hk => exact List.forall_mem_cons.mpr ⟨etl, List.forall_mem_cons.mpr ⟨eth, List.forall_mem_nil _⟩⟩
  case hp => rw [hvl]; exact Mid.start (Nat.zero_le _)
  case hE => first | passes_own | with_unfolding_all passes_own
  case turn =>
    clear lF lN etl eth
    rintro ⟨l, h, tl, th⟩ u hp tk _ hM F' N'
    dsimp only at hM
    k_steps
    · have hlh : l < h := by rename ((_ : Int) < _) => q; exact Int.ofNat_lt.mp q
      have eM := mid_cast l h
      have eM1 : Int.fdiv ((l : Int) + (h : Int)) 2 + 1 = (((l + h) / 2 + 1 : Nat) : Int) := by rw [eM]; rfl
      have hb := hM.top
      have hmp : (l + h) / 2 < ps.length := Nat.lt_of_lt_of_le (mid_lt hlh) hb
      obtain ⟨t1, hv1⟩ := hv.get (i := (l + h) / 2) hmp
      refine item_my (v := .str (ps.getD ((l + h) / 2) Str.empty) t1) (by assumption) (List.Mem.head _) (by rw [eM]; exact Int.natCast_nonneg _) (by rw [eM]; exact mid_63 hmp hlen) (by rw [eM]; exact hv1) ?_
      k_steps
      refine lt_names (by assumption) (by assumption) (by assumption) (by assumption) (by assumption) rfl (by ktr_room) (by ktr_units) (hx.mono fun _ hp => .tail _ (.tail _ (.tail _ hp))) (.qn (.head _) (.tail _ (.head _))) ?_
      intro h8 tk8 F8 N8
      k_steps
      · rename Fr _ _ _ _ => eF; rename News _ _ _ _ => eN
        refine ksw_end ⟨l, (l + h) / 2, _, _⟩ eF eN (fun p hp => .tail _ (.tail _ hp)) trivial (List.forall_mem_cons.mpr ⟨by dsimp only; with_unfolding_all rfl, List.forall_mem_cons.mpr ⟨by dsimp only; rw [← eM]; with_unfolding_all rfl, List.forall_mem_nil _⟩⟩) (by intro z h2 h3; have e1 := h2 _ (.head _); have e2 := h2 _ (.tail _ (.head _)); have e3 := not_mid h3; dsimp only at e1 e2; simp only [kstB, if_neg e1, if_neg e2, if_neg e3, h3, Bool.false_eq_true, if_false]) ?_ (by dsimp only; exact mid_dn hlh)
        show Mid _ _ _ l ((l + h) / 2)
        exact hM.down hf (mid_ge hlh) (mid_lt hlh) (by rename _ < _ => q9; show (!decide _) = false; exact by rw [decide_eq_true q9]; rfl)
      · rename Fr _ _ _ _ => eF; rename News _ _ _ _ => eN
        refine ksw_end ⟨(l + h) / 2 + 1, h, _, _⟩ eF eN (fun p hp => .tail _ (.tail _ hp)) trivial (List.forall_mem_cons.mpr ⟨by dsimp only; rw [← eM1]; with_unfolding_all rfl, List.forall_mem_cons.mpr ⟨by dsimp only; with_unfolding_all rfl, List.forall_mem_nil _⟩⟩) (by intro z h2 h3; have e1 := h2 _ (.head _); have e2 := h2 _ (.tail _ (.head _)); have e3 := not_mid h3; dsimp only at e1 e2; simp only [kstB, if_neg e1, if_neg e2, if_neg e3, h3, Bool.false_eq_true, if_false]) ?_ (by dsimp only; exact mid_up hlh)
        show Mid _ _ _ ((l + h) / 2 + 1) h
        exact hM.up hf (mid_ge hlh) (mid_lt hlh) (by rename ¬ (_ < _) => q9; show (!decide _) = true; exact by rw [decide_eq_false q9]; rfl)
    · have hlh : ¬ l < h := by rename ¬ ((_ : Int) < _) => q; exact fun z => q (Int.ofNat_lt.mpr z)
      exact hret _ _ _ _ ⟨rfl, _, _, rfl, hM.done hlh⟩ (by assumption) (news_less (by assumption))

set_option maxHeartbeats 8000000 in
theorem bl_none_i (w : World) (news : Led) (a : Addr) (vs : List Value) (n : Nat) (ps : List (Bool × Str)) (v : Value) (b : Bool) (x : Str) (lo hi : Nat) (t t2 : Tok)
    (hn : (a, listOf vs.toArray n) ∈ news) (hv : Names w news vs ps) (hx : NameV w news v b x) (hlen : ps.length ≤ 1000) (h1 : lo ≤ hi) (h2 : hi ≤ ps.length) (hf : Falls (fun i => ltS (tx ps i) x) lo hi) :
    Does w 6 100 50 [.ref a, v, .int (lo : Int) t, .int (hi : Int) t2] [] news (fun r n => n = news ∧ ∃ k t, r = .int ((k : Nat) : Int) t ∧ Parts (fun i => ltS (tx ps i) x) lo hi k) := by
  unfold Does
  intros; rename_i hret
  rename News _ _ _ _ => N0
  replace N0 := news_more N0 hn
  have hvl := hv.length
  refine wpAny_call ?_
  k_dflt k_enter
  k_steps
  rename Fr _ _ _ _ => lF
  rename News _ _ _ _ => lN
  obtain ⟨_, etl, tl, rfl⟩ := fr_look lF (Str.ofString "lo") (fun v => ∃ t, v = .int (lo : Int) t) ⟨_, by with_unfolding_all rfl, _, rfl⟩
  obtain ⟨_, eth, th, rfl⟩ := fr_look lF (Str.ofString "hi") (fun v => ∃ t, v = .int (hi : Int) t) ⟨_, by with_unfolding_all rfl, _, rfl⟩
  refine' ksw_while (σ := Nat × Nat × Tok × Tok) (fun _ => (a, listOf vs.toArray n) :: news) (fun c => [(Str.ofString "lo", .int (c.1 : Int) c.2.2.1), (Str.ofString "hi", .int (c.2.1 : Int) c.2.2.2)]) (fun _ => True) [Str.ofString "mid"]
    (fun c => Mid (fun i => ltS (tx ps i) x) lo hi c.1 c.2.1) (fun c => c.2.1 - c.1) (lo, hi, tl, th) lF lN trivial ?hk ?hp ?turn ?hE
  case hk => exact List.forall_mem_cons.mpr ⟨etl, List.forall_mem_cons.mpr ⟨eth, List.forall_mem_nil _⟩⟩
  case hp => exact Mid.start h1
  case hE => first | passes_own | with_unfolding_all passes_own
  case turn =>
    clear lF lN etl eth
    rintro ⟨l, h, tl, th⟩ u hp tk _ hM F' N'
    dsimp only at hM
    k_steps
    · have hlh : l < h := by rename ((_ : Int) < _) => q; exact Int.ofNat_lt.mp q
      have eM := mid_cast l h
      have eM1 : Int.fdiv ((l : Int) + (h : Int)) 2 + 1 = (((l + h) / 2 + 1 : Nat) : Int) := by rw [eM]; rfl
      have hb := hM.top
      have hmp : (l + h) / 2 < ps.length := Nat.lt_of_lt_of_le (mid_lt hlh) (Nat.le_trans hb h2)
      obtain ⟨v1, p1, hv1, hp1, hV1⟩ := hv.get (i := (l + h) / 2) hmp
      have etx := tx_of hp1
      refine item_my (v := v1) (by assumption) (List.Mem.head _) (by rw [eM]; exact Int.natCast_nonneg _) (by rw [eM]; exact mid_63 hmp hlen) (by rw [eM]; exact hv1) ?_
      k_steps
      refine lt_names (by assumption) (by assumption) (by assumption) (by assumption) (by assumption) rfl (by ktr_room) (by ktr_units) (hV1.mono fun _ hp => .tail _ hp) (hx.mono fun _ hp => .tail _ hp) ?_
      intro h9 tk9 F9 N9
      k_steps
      · rename Fr _ _ _ _ => eF; rename News _ _ _ _ => eN
        refine ksw_end ⟨(l + h) / 2 + 1, h, _, _⟩ eF eN (fun p hp => hp) trivial (List.forall_mem_cons.mpr ⟨by dsimp only; rw [← eM1]; with_unfolding_all rfl, List.forall_mem_cons.mpr ⟨by dsimp only; with_unfolding_all rfl, List.forall_mem_nil _⟩⟩) (by intro z h2 h3; have e1 := h2 _ (.head _); have e2 := h2 _ (.tail _ (.head _)); have e3 := not_mid h3; dsimp only at e1 e2; simp only [kstB, if_neg e1, if_neg e2, if_neg e3, h3, Bool.false_eq_true, if_false]) ?_ (by dsimp only; exact mid_up hlh)
        show Mid _ _ _ ((l + h) / 2 + 1) h
        exact hM.up hf (mid_ge hlh) (mid_lt hlh) (by rename _ < _ => q9; show (ltS _ _) = true; rw [etx]; exact decide_eq_true q9)
      · rename Fr _ _ _ _ => eF; rename News _ _ _ _ => eN
        refine ksw_end ⟨l, (l + h) / 2, _, _⟩ eF eN (fun p hp => hp) trivial (List.forall_mem_cons.mpr ⟨by dsimp only; with_unfolding_all rfl, List.forall_mem_cons.mpr ⟨by dsimp only; rw [← eM]; with_unfolding_all rfl, List.forall_mem_nil _⟩⟩) (by intro z h2 h3; have e1 := h2 _ (.head _); have e2 := h2 _ (.tail _ (.head _)); have e3 := not_mid h3; dsimp only at e1 e2; simp only [kstB, if_neg e1, if_neg e2, if_neg e3, h3, Bool.false_eq_true, if_false]) ?_ (by dsimp only; exact mid_dn hlh)
        show Mid _ _ _ l ((l + h) / 2)
        exact hM.down hf (mid_ge hlh) (mid_lt hlh) (by rename ¬ (_ < _) => q9; show (ltS _ _) = false; rw [etx]; exact decide_eq_false q9)
    · have hlh : ¬ l < h := by rename ¬ ((_ : Int) < _) => q; exact fun z => q (Int.ofNat_lt.mpr z)
      exact hret _ _ _ _ ⟨rfl, _, _, rfl, hM.done hlh⟩ (by assumption) (news_less (by assumption))

set_option maxHeartbeats 8000000 in
theorem br_none_i (w : World) (news : Led) (a : Addr) (vs : List Value) (n : Nat) (ps : List (Bool × Str)) (v : Value) (b : Bool) (x : Str) (lo hi : Nat) (t t2 : Tok)
    (hn : (a, listOf vs.toArray n) ∈ news) (hv : Names w news vs ps) (hx : NameV w news v b x) (hlen : ps.length ≤ 1000) (h1 : lo ≤ hi) (h2 : hi ≤ ps.length) (hf : Falls (fun i => !ltS x (tx ps i)) lo hi) :
    Does w 6 100 32 [.ref a, v, .int (lo : Int) t, .int (hi : Int) t2] [] news (fun r n => n = news ∧ ∃ k t, r = .int ((k : Nat) : Int) t ∧ Parts (fun i => !ltS x (tx ps i)) lo hi k) := by
  unfold Does
  intros; rename_i hret
  rename News _ _ _ _ => N0
  replace N0 := news_more N0 hn
  have hvl := hv.length
  refine wpAny_call ?_
  k_dflt k_enter
  k_steps
  rename Fr _ _ _ _ => lF
  rename News _ _ _ _ => lN
  obtain ⟨_, etl, tl, rfl⟩ := fr_look lF (Str.ofString "lo") (fun v => ∃ t, v = .int (lo : Int) t) ⟨_, by with_unfolding_all rfl, _, rfl⟩
  obtain ⟨_, eth, th, rfl⟩ := fr_look lF (Str.ofString "hi") (fun v => ∃ t, v = .int (hi : Int) t) ⟨_, by with_unfolding_all rfl, _, rfl⟩
  refine' ksw_while (σ := Nat × Nat × Tok × Tok) (fun _ => (a, listOf vs.toArray n) :: news) (fun c => [(Str.ofString "lo", .int (c.1 : Int) c.2.2.1), (Str.ofString "hi", .int (c.2.1 : Int) c.2.2.2)]) (fun _ => True) [Str.ofString "mid"]
    (fun c => Mid (fun i => !ltS x (tx ps i)) lo hi c.1 c.2.1) (fun c => c.2.1 - c.1) (lo, hi, tl, th) lF lN trivial ?hk ?hp ?turn ?hE
  case hk => exact List.forall_mem_cons.mpr ⟨etl, List.forall_mem_cons.mpr ⟨eth, List.forall_mem_nil _⟩⟩
  case hp => exact Mid.start h1
  case hE => first | passes_own | with_unfolding_all passes_own
  case turn =>
    clear lF lN etl eth
    rintro ⟨l, h, tl, th⟩ u hp tk _ hM F' N'
    dsimp only at hM
    k_steps
    · have hlh : l < h := by rename ((_ : Int) < _) => q; exact Int.ofNat_lt.mp q
      have eM := mid_cast l h
      have eM1 : Int.fdiv ((l : Int) + (h : Int)) 2 + 1 = (((l + h) / 2 + 1 : Nat) : Int) := by rw [eM]; rfl
      have hb := hM.top
      have hmp : (l + h) / 2 < ps.length := Nat.lt_of_lt_of_le (mid_lt hlh) (Nat.le_trans hb h2)
      obtain ⟨v1, p1, hv1, hp1, hV1⟩ := hv.get (i := (l + h) / 2) hmp
      have etx := tx_of hp1
      refine item_my (v := v1) (by assumption) (List.Mem.head _) (by rw [eM]; exact Int.natCast_nonneg _) (by rw [eM]; exact mid_63 hmp hlen) (by rw [eM]; exact hv1) ?_
      k_steps
      refine lt_names (by assumption) (by assumption) (by assumption) (by assumption) (by assumption) rfl (by ktr_room) (by ktr_units) (hx.mono fun _ hp => .tail _ hp) (hV1.mono fun _ hp => .tail _ hp) ?_
      intro h9 tk9 F9 N9
      k_steps
      · rename Fr _ _ _ _ => eF; rename News _ _ _ _ => eN
        refine ksw_end ⟨l, (l + h) / 2, _, _⟩ eF eN (fun p hp => hp) trivial (List.forall_mem_cons.mpr ⟨by dsimp only; with_unfolding_all rfl, List.forall_mem_cons.mpr ⟨by dsimp only; rw [← eM]; with_unfolding_all rfl, List.forall_mem_nil _⟩⟩) (by intro z h2 h3; have e1 := h2 _ (.head _); have e2 := h2 _ (.tail _ (.head _)); have e3 := not_mid h3; dsimp only at e1 e2; simp only [kstB, if_neg e1, if_neg e2, if_neg e3, h3, Bool.false_eq_true, if_false]) ?_ (by dsimp only; exact mid_dn hlh)
        show Mid _ _ _ l ((l + h) / 2)
        exact hM.down hf (mid_ge hlh) (mid_lt hlh) (by rename _ < _ => q9; rw [etx]; show (!decide _) = false; exact by rw [decide_eq_true q9]; rfl)
      · rename Fr _ _ _ _ => eF; rename News _ _ _ _ => eN
        refine ksw_end ⟨(l + h) / 2 + 1, h, _, _⟩ eF eN (fun p hp => hp) trivial (List.forall_mem_cons.mpr ⟨by dsimp only; rw [← eM1]; with_unfolding_all rfl, List.forall_mem_cons.mpr ⟨by dsimp only; with_unfolding_all rfl, List.forall_mem_nil _⟩⟩) (by intro z h2 h3; have e1 := h2 _ (.head _); have e2 := h2 _ (.tail _ (.head _)); have e3 := not_mid h3; dsimp only at e1 e2; simp only [kstB, if_neg e1, if_neg e2, if_neg e3, h3, Bool.false_eq_true, if_false]) ?_ (by dsimp only; exact mid_up hlh)
        show Mid _ _ _ ((l + h) / 2 + 1) h
        exact hM.up hf (mid_ge hlh) (mid_lt hlh) (by rename ¬ (_ < _) => q9; rw [etx]; show (!decide _) = true; exact by rw [decide_eq_false q9]; rfl)
    · have hlh : ¬ l < h := by rename ¬ ((_ : Int) < _) => q; exact fun z => q (Int.ofNat_lt.mpr z)
      exact hret _ _ _ _ ⟨rfl, _, _, rfl, hM.done hlh⟩ (by assumption) (news_less (by assumption))

set_option maxHeartbeats 8000000 in
theorem bl_neg_i (w : World) (news : Led) (a : Addr) (vs : List Value) (n : Nat) (ps : List Int) (x : Int) (u : Tok) (lo hi : Nat) (t t2 : Tok)
    (hn : (a, listOf vs.toArray n) ∈ news) (hv : Ints vs ps) (hlen : ps.length ≤ 1000) (h1 : lo ≤ hi) (h2 : hi ≤ ps.length) (hf : Falls (fun i => decide (-(ps.getD i 0) < x)) lo hi) :
    Does w 6 100 50 [.ref a, .int x u, .int (lo : Int) t, .int (hi : Int) t2] [(Str.ofString "key", .ref 64)] news (fun r n => n = news ∧ ∃ k t, r = .int ((k : Nat) : Int) t ∧ Parts (fun i => decide (-(ps.getD i 0) < x)) lo hi k) := by
  unfold Does
  intros; rename_i hret
  rename News _ _ _ _ => N0
  replace N0 := news_more N0 hn
  have hvl := hv.length
  refine wpAny_call ?_
  k_dflt k_enter
  k_steps
  rename Fr _ _ _ _ => lF
  rename News _ _ _ _ => lN
  obtain ⟨_, etl, tl, rfl⟩ := fr_look lF (Str.ofString "lo") (fun v => ∃ t, v = .int (lo : Int) t) ⟨_, by with_unfolding_all rfl, _, rfl⟩
  obtain ⟨_, eth, th, rfl⟩ := fr_look lF (Str.ofString "hi") (fun v => ∃ t, v = .int (hi : Int) t) ⟨_, by with_unfolding_all rfl, _, rfl⟩
  refine' ksw_while (σ := Nat × Nat × Tok × Tok) (fun _ => (a, listOf vs.toArray n) :: news) (fun c => [(Str.ofString "lo", .int (c.1 : Int) c.2.2.1), (Str.ofString "hi", .int (c.2.1 : Int) c.2.2.2)]) (fun _ => True) [Str.ofString "mid"]
    (fun c => Mid (fun i => decide (-(ps.getD i 0) < x)) lo hi c.1 c.2.1) (fun c => c.2.1 - c.1) (lo, hi, tl, th) lF lN trivial ?hk ?hp ?turn ?hE
  case hk => exact List.forall_mem_cons.mpr ⟨etl, List.forall_mem_cons.mpr ⟨eth, List.forall_mem_nil _⟩⟩
  case hp => exact Mid.start h1
  case hE => first | passes_own | with_unfolding_all passes_own
  case turn =>
    clear lF lN etl eth
    rintro ⟨l, h, tl, th⟩ u hp tk _ hM F' N'
    dsimp only at hM
    k_steps
    · have hlh : l < h := by rename ((_ : Int) < _) => q; exact Int.ofNat_lt.mp q
      have eM := mid_cast l h
      have eM1 : Int.fdiv ((l : Int) + (h : Int)) 2 + 1 = (((l + h) / 2 + 1 : Nat) : Int) := by rw [eM]; rfl
      have hb := hM.top
      have hmp : (l + h) / 2 < ps.length := Nat.lt_of_lt_of_le (mid_lt hlh) (Nat.le_trans hb h2)
      obtain ⟨t1, hv1⟩ := hv.get (i := (l + h) / 2) hmp
      refine item_my (v := .int (ps.getD ((l + h) / 2) 0) t1) (by assumption) (List.Mem.head _) (by rw [eM]; exact Int.natCast_nonneg _) (by rw [eM]; exact mid_63 hmp hlen) (by rw [eM]; exact hv1) ?_
      k_steps
      · rename Fr _ _ _ _ => eF; rename News _ _ _ _ => eN
        refine ksw_end ⟨(l + h) / 2 + 1, h, _, _⟩ eF eN (fun p hp => hp) trivial (List.forall_mem_cons.mpr ⟨by dsimp only; rw [← eM1]; with_unfolding_all rfl, List.forall_mem_cons.mpr ⟨by dsimp only; with_unfolding_all rfl, List.forall_mem_nil _⟩⟩) (by intro z h2 h3; have e1 := h2 _ (.head _); have e2 := h2 _ (.tail _ (.head _)); have e3 := not_mid h3; dsimp only at e1 e2; simp only [kstB, if_neg e1, if_neg e2, if_neg e3, h3, Bool.false_eq_true, if_false]) ?_ (by dsimp only; exact mid_up hlh)
        show Mid _ _ _ ((l + h) / 2 + 1) h
        exact hM.up hf (mid_ge hlh) (mid_lt hlh) (by rename _ < _ => q9; exact decide_eq_true q9)
      · rename Fr _ _ _ _ => eF; rename News _ _ _ _ => eN
        refine ksw_end ⟨l, (l + h) / 2, _, _⟩ eF eN (fun p hp => hp) trivial (List.forall_mem_cons.mpr ⟨by dsimp only; with_unfolding_all rfl, List.forall_mem_cons.mpr ⟨by dsimp only; rw [← eM]; with_unfolding_all rfl, List.forall_mem_nil _⟩⟩) (by intro z h2 h3; have e1 := h2 _ (.head _); have e2 := h2 _ (.tail _ (.head _)); have e3 := not_mid h3; dsimp only at e1 e2; simp only [kstB, if_neg e1, if_neg e2, if_neg e3, h3, Bool.false_eq_true, if_false]) ?_ (by dsimp only; exact mid_dn hlh)
        show Mid _ _ _ l ((l + h) / 2)
        exact hM.down hf (mid_ge hlh) (mid_lt hlh) (by rename ¬ (_ < _) => q9; exact decide_eq_false q9)
    · have hlh : ¬ l < h := by rename ¬ ((_ : Int) < _) => q; exact fun z => q (Int.ofNat_lt.mpr z)
      exact hret _ _ _ _ ⟨rfl, _, _, rfl, hM.done hlh⟩ (by assumption) (news_less (by assumption))

theorem updF_upd {d : Addr} {o : Obj} {l : Led} {g : Obj → Led} (U : UpdF d o l g) (o' : Obj) : Upd d o o' l (g o') := by
  induction U with
  | head h => exact .head h
  | tail h _ ih => exact .tail h ih
theorem updF_has {d : Addr} {o : Obj} {l : Led} {g : Obj → Led} (U : UpdF d o l g) : (d, o) ∈ l := by
  induction U with
  | head h => exact .head _
  | tail h _ ih => exact .tail _ ih
theorem updF_put {d : Addr} {o o' : Obj} {l : Led} {g : Obj → Led} (U : UpdF d o l g) : (d, o') ∈ g o' := by
  induction U with
  | head h => exact .head _
  | tail h _ ih => exact .tail _ ih
theorem updF_cons {d : Addr} {o : Obj} {l : Led} {g : Obj → Led} (U : UpdF d o l g) (p : Addr × Obj) (h : p.1 ≠ d) : UpdF d o (p :: l) (fun o' => p :: g o') := .tail h U

theorem kl_at {vs : List Value} {k : Nat} {y : Value} (hk : k ≤ vs.length) : kl_ins vs.toArray.toList (k : Int) y = vs.take k ++ y :: vs.drop k := by
  unfold kl_ins
  rw [if_neg (by omega), Int.toNat_natCast, Nat.min_eq_left hk]
theorem fits_at {k : Nat} (h : k ≤ 100000) : Builtin.List.listFitsIndex (k : Int) = true := by
  unfold Builtin.List.listFitsIndex; simp; omega
section
variable {prog : Program} {w : World} {A : Around} {E : Value → Shared → Prop} {s : Shared} {h₀ : Heap} {L a : Addr} {m : Str → Option Value} {news : Led} {g : Obj → Led} {vs : List Value} {n : Nat}
theorem insert_my {k : Nat} {u : Tok} {y : Value} {Q : Value → Shared → Prop} (F : Fr h₀ L s.heap m) (N : News h₀ L s.heap news) (U : UpdF a (listOf vs.toArray n) news g) (hk : k ≤ vs.length) (hz : vs.length ≤ 100000)
    (h : ∀ h', Fr h₀ L h' m → News h₀ L h' (g (listOf (vs.take k ++ y :: vs.drop k).toArray (n + 1))) → Q .none { s with heap := h' }) :
    wpAny (model prog w) A (call (.builtin "list.insert") [.ref a, .int (k : Int) u, y]) Q E s :=
  kl_insert F N (fits_at (by omega)) (kl_at hk) (updF_upd U _) (by show vs.length ≤ _; rw [sizeLine_eq]; omega) h
end



set_option maxHeartbeats 8000000 in
theorem il_names (w : World) (news : Led) (g : Obj → Led) (a : Addr) (vs : List Value) (n : Nat) (ps : List (Bool × Str)) (v : Value) (b : Bool) (x : Str)
    (U : UpdF a (listOf vs.toArray n) news g) (hv : Names w news vs ps) (hx : NameV w news v b x) (hlen : ps.length ≤ 1000) (hf : Falls (fun i => ltS (tx ps i) x) 0 ps.length) :
    Does w 8 200 41 [.ref a, v] [] news (fun r m => r = .none ∧ ∃ k, Parts (fun i => ltS (tx ps i) x) 0 ps.length k ∧ m = g (listOf (vs.take k ++ (v : Value) :: vs.drop k).toArray (n + 1))) := by
  unfold Does
  intros; rename_i hret
  have hn := updF_has U
  have hvl := hv.length
  refine wpAny_call ?_
  k_dflt k_enter
  k_steps
  refine Does.use (bl_none_n w news a vs n ps v b x _ hn hv hx hlen hf) (by assumption) (by assumption) (by assumption) (by assumption) (by assumption) rfl (by ktr_room) (by ktr_units) ?_
  rintro r9 n9 h9 tk9 ⟨eN, k, t9, rfl, hP⟩ F9 N9
  subst eN
  k_steps
  have hk := hP.le
  refine insert_my (k := k) (by assumption) (by assumption) U (by omega) (by omega) ?_
  intro h8 F8 N8
  k_steps
  exact hret _ _ _ _ ⟨rfl, _, hP, rfl⟩ (by assumption) (by assumption)

set_option maxHeartbeats 8000000 in
theorem il_neg (w : World) (news : Led) (g : Obj → Led) (a : Addr) (vs : List Value) (n : Nat) (ps : List Int) (x : Int) (u : Tok)
    (U : UpdF a (listOf vs.toArray n) news g) (hv : Ints vs ps) (hlen : ps.length ≤ 1000) (hf : Falls (fun i => decide (-(ps.getD i 0) < -x)) 0 ps.length) :
    Does w 8 200 41 [.ref a, .int x u] [(Str.ofString "key", .ref 64)] news (fun r m => r = .none ∧ ∃ k, Parts (fun i => decide (-(ps.getD i 0) < -x)) 0 ps.length k ∧ m = g (listOf (vs.take k ++ (.int x u : Value) :: vs.drop k).toArray (n + 1))) := by
  unfold Does
  intros; rename_i hret
  have hn := updF_has U
  have hvl := hv.length
  refine wpAny_call ?_
  k_dflt k_enter
  k_steps
  refine Does.use (bl_neg_n w news a vs n ps (-x) _ _ hn hv hlen hf) (by assumption) (by assumption) (by assumption) (by assumption) (by assumption) rfl (by ktr_room) (by ktr_units) ?_
  rintro r9 n9 h9 tk9 ⟨eN, k, t9, rfl, hP⟩ F9 N9
  subst eN
  k_steps
  have hk := hP.le
  refine insert_my (k := k) (by assumption) (by assumption) U (by omega) (by omega) ?_
  intro h8 F8 N8
  k_steps
  exact hret _ _ _ _ ⟨rfl, _, hP, rfl⟩ (by assumption) (by assumption)

set_option maxHeartbeats 8000000 in
theorem il_bare (w : World) (news : Led) (g : Obj → Led) (a : Addr) (vs : List Value) (n : Nat) (ps : List Str) (x : Str) (u : Tok)
    (U : UpdF a (listOf vs.toArray n) news g) (hv : Texts vs ps) (hlen : ps.length ≤ 1000) (hf : Falls (fun i => ltS (ps.getD i Str.empty) x) 0 ps.length) :
    Does w 8 200 41 [.ref a, .str x u] [(Str.ofString "key", .ref 226)] news (fun r m => r = .none ∧ ∃ k, Parts (fun i => ltS (ps.getD i Str.empty) x) 0 ps.length k ∧ m = g (listOf (vs.take k ++ (.str x u : Value) :: vs.drop k).toArray (n + 1))) := by
  unfold Does
  intros; rename_i hret
  have hn := updF_has U
  have hvl := hv.length
  refine wpAny_call ?_
  k_dflt k_enter
  k_steps
  rename (_ : Nat) < _ => l2
  have lA : a < _ := (by assumption : ∀ p ∈ news, p.1 < _) _ hn
  refine Does.use (bl_bare_n w _ a vs n ps _ x _ (.tail _ (.tail _ hn)) hv (.qn (.head _) (.tail _ (.head _))) hlen hf) (by assumption) (by assumption) (by assumption) (by assumption) (by assumption) rfl (by ktr_room) (by ktr_units) ?_
  rintro r9 n9 h9 tk9 ⟨eN, k, t9, rfl, hP⟩ F9 N9
  subst eN
  have lift : ∀ {h₀ h : Heap} {L : Addr} {p q : Addr × Obj}, News h₀ L h (p :: q :: news) → (a, listOf vs.toArray n) ∈ p :: q :: news := fun _ => .tail _ (.tail _ hn)
  have hn2 := lift N9
  k_steps
  have hk := hP.le
  refine insert_my (k := k) (by assumption) (by assumption) (.tail (Nat.ne_of_gt (Nat.lt_trans lA l2)) (.tail (Nat.ne_of_gt lA) U)) (by omega) (by omega) ?_
  intro h8 F8 N8
  k_steps
  exact hret _ _ _ _ ⟨rfl, _, hP, rfl⟩ (by assumption) (news_less (news_less (by assumption)))

set_option maxHeartbeats 8000000 in
theorem ir_names (w : World) (news : Led) (g : Obj → Led) (a : Addr) (vs : List Value) (n : Nat) (ps : List (Bool × Str)) (v : Value) (b : Bool) (x : Str)
    (U : UpdF a (listOf vs.toArray n) news g) (hv : Names w news vs ps) (hx : NameV w news v b x) (hlen : ps.length ≤ 1000) (hf : Falls (fun i => !ltS x (tx ps i)) 0 ps.length) :
    Does w 8 200 23 [.ref a, v] [] news (fun r m => r = .none ∧ ∃ k, Parts (fun i => !ltS x (tx ps i)) 0 ps.length k ∧ m = g (listOf (vs.take k ++ (v : Value) :: vs.drop k).toArray (n + 1))) := by
  unfold Does
  intros; rename_i hret
  have hn := updF_has U
  have hvl := hv.length
  refine wpAny_call ?_
  k_dflt k_enter
  k_steps
  refine Does.use (br_none_n w news a vs n ps v b x _ hn hv hx hlen hf) (by assumption) (by assumption) (by assumption) (by assumption) (by assumption) rfl (by ktr_room) (by ktr_units) ?_
  rintro r9 n9 h9 tk9 ⟨eN, k, t9, rfl, hP⟩ F9 N9
  subst eN
  k_steps
  have hk := hP.le
  refine insert_my (k := k) (by assumption) (by assumption) U (by omega) (by omega) ?_
  intro h8 F8 N8
  k_steps
  exact hret _ _ _ _ ⟨rfl, _, hP, rfl⟩ (by assumption) (by assumption)

set_option maxHeartbeats 8000000 in
theorem ir_neg (w : World) (news : Led) (g : Obj → Led) (a : Addr) (vs : List Value) (n : Nat) (ps : List Int) (x : Int) (u : Tok)
    (U : UpdF a (listOf vs.toArray n) news g) (hv : Ints vs ps) (hlen : ps.length ≤ 1000) (hf : Falls (fun i => !decide (-x < -(ps.getD i 0))) 0 ps.length) :
    Does w 8 200 23 [.ref a, .int x u] [(Str.ofString "key", .ref 64)] news (fun r m => r = .none ∧ ∃ k, Parts (fun i => !decide (-x < -(ps.getD i 0))) 0 ps.length k ∧ m = g (listOf (vs.take k ++ (.int x u : Value) :: vs.drop k).toArray (n + 1))) := by
  unfold Does
  intros; rename_i hret
  have hn := updF_has U
  have hvl := hv.length
  refine wpAny_call ?_
  k_dflt k_enter
  k_steps
  refine Does.use (br_neg_n w news a vs n ps (-x) _ _ hn hv hlen hf) (by assumption) (by assumption) (by assumption) (by assumption) (by assumption) rfl (by ktr_room) (by ktr_units) ?_
  rintro r9 n9 h9 tk9 ⟨eN, k, t9, rfl, hP⟩ F9 N9
  subst eN
  k_steps
  have hk := hP.le
  refine insert_my (k := k) (by assumption) (by assumption) U (by omega) (by omega) ?_
  intro h8 F8 N8
  k_steps
  exact hret _ _ _ _ ⟨rfl, _, hP, rfl⟩ (by assumption) (by assumption)

set_option maxHeartbeats 8000000 in
theorem ir_bare (w : World) (news : Led) (g : Obj → Led) (a : Addr) (vs : List Value) (n : Nat) (ps : List Str) (x : Str) (u : Tok)
    (U : UpdF a (listOf vs.toArray n) news g) (hv : Texts vs ps) (hlen : ps.length ≤ 1000) (hf : Falls (fun i => !ltS x (ps.getD i Str.empty)) 0 ps.length) :
    Does w 8 200 23 [.ref a, .str x u] [(Str.ofString "key", .ref 226)] news (fun r m => r = .none ∧ ∃ k, Parts (fun i => !ltS x (ps.getD i Str.empty)) 0 ps.length k ∧ m = g (listOf (vs.take k ++ (.str x u : Value) :: vs.drop k).toArray (n + 1))) := by
  unfold Does
  intros; rename_i hret
  have hn := updF_has U
  have hvl := hv.length
  refine wpAny_call ?_
  k_dflt k_enter
  k_steps
  rename (_ : Nat) < _ => l2
  have lA : a < _ := (by assumption : ∀ p ∈ news, p.1 < _) _ hn
  refine Does.use (br_bare_n w _ a vs n ps _ x _ (.tail _ (.tail _ hn)) hv (.qn (.head _) (.tail _ (.head _))) hlen hf) (by assumption) (by assumption) (by assumption) (by assumption) (by assumption) rfl (by ktr_room) (by ktr_units) ?_
  rintro r9 n9 h9 tk9 ⟨eN, k, t9, rfl, hP⟩ F9 N9
  subst eN
  have lift : ∀ {h₀ h : Heap} {L : Addr} {p q : Addr × Obj}, News h₀ L h (p :: q :: news) → (a, listOf vs.toArray n) ∈ p :: q :: news := fun _ => .tail _ (.tail _ hn)
  have hn2 := lift N9
  k_steps
  have hk := hP.le
  refine insert_my (k := k) (by assumption) (by assumption) (.tail (Nat.ne_of_gt (Nat.lt_trans lA l2)) (.tail (Nat.ne_of_gt lA) U)) (by omega) (by omega) ?_
  intro h8 F8 N8
  k_steps
  exact hret _ _ _ _ ⟨rfl, _, hP, rfl⟩ (by assumption) (news_less (news_less (by assumption)))

set_option maxHeartbeats 8000000 in
theorem mkq_does (w : World) (news : Led) (x y : Str) (t u : Tok) (hx : x.length ≤ 1000) (hy : y.length = 1) : Does w 3 60 173 [.str x t, .str y u] [] news (fun r n => ∃ a d k t, r = .ref a ∧ n = (a, instObj 173 d) :: (d, qd w k (Str.ofString "{" ++ x ++ Str.ofString "}" ++ y) t) :: news ∧ (∀ p ∈ news, p.1 < d) ∧ d < a) := by
  unfold Does
  intros; rename_i hret
  k_steps
  · exact hret _ _ _ _ ⟨_, _, _, _, rfl, rfl, by assumption, by assumption⟩ (by assumption) (by assumption)
  · exfalso; omega
set_option maxHeartbeats 8000000 in
theorem text_str (w : World) (news : Led) (x : Str) (t : Tok) : Does w 1 60 212 [.str x t] [] news (fun r n => n = news ∧ ∃ t, r = .str x t) := by
  unfold Does
  intros; rename_i hret
  refine wpAny_call ?_
  k_dflt k_enter
  k_steps
  all_goals (exact hret _ _ _ _ ⟨rfl, _, rfl⟩ (by assumption) (by assumption))
set_option maxHeartbeats 8000000 in
theorem text_q (w : World) (news : Led) (a d : Addr) (k : Tok) (x : Str) (t : Tok) : Does w 1 60 212 [.ref a] [] ((a, instObj 173 d) :: (d, qd w k x t) :: news) (fun r n => n = ((a, instObj 173 d) :: (d, qd w k x t) :: news) ∧ ∃ t, r = .str x t) := by
  unfold Does
  intros; rename_i hret
  refine wpAny_call ?_
  k_dflt k_enter
  k_steps
  all_goals (exact hret _ _ _ _ ⟨rfl, _, rfl⟩ (by assumption) (by assumption))
set_option maxHeartbeats 8000000 in
theorem other_str (w : World) (news : Led) (x : Str) (t : Tok) : Does w 3 60 219 [.str x t] [] news (fun r n => ∃ a d k t, r = .ref a ∧ n = (a, instObj 173 d) :: (d, qd w k x t) :: news ∧ (∀ p ∈ news, p.1 < d) ∧ d < a) := by
  unfold Does
  intros; rename_i hret
  refine wpAny_call ?_
  k_dflt k_enter
  k_steps
  all_goals (exact hret _ _ _ _ ⟨_, _, _, _, rfl, rfl, by assumption, by assumption⟩ (by assumption) (by assumption))
set_option maxHeartbeats 8000000 in
theorem other_q (w : World) (news : Led) (a d : Addr) (k : Tok) (x : Str) (t : Tok) : Does w 1 60 219 [.ref a] [] ((a, instObj 173 d) :: (d, qd w k x t) :: news) (fun r n => n = ((a, instObj 173 d) :: (d, qd w k x t) :: news) ∧ ∃ t, r = .str x t) := by
  unfold Does
  intros; rename_i hret
  refine wpAny_call ?_
  k_dflt k_enter
  k_steps
  all_goals (exact hret _ _ _ _ ⟨rfl, _, rfl⟩ (by assumption) (by assumption))

open PySem.SeqAt in
section
theorem texts_reads {h : Heap} {vs : List Value} {xs : List Str} (H : Texts vs xs) : ReadsAll h vs (xs.map PyData.str) [] := by
  induction H with
  | nil => exact .nil
  | cons _ ih => exact ReadsAll.cons (as := []) (bs := []) (.str _ _) ih
def OkS (x : Str) : Prop := PyData.strOk x = true
theorem texts_lay : ∀ xs : List Str, (∀ x ∈ xs, OkS x) → PyData.canLayAll0 (xs.map PyData.str) = true
  | [], _ => by simp [PyData.canLayAll0]
  | n :: r, h => by simp only [List.map_cons, PyData.canLayAll0, PyData.canLay0, texts_lay r fun x hx => h x (.tail _ hx), Bool.and_true]; exact h n (.head _)
theorem texts_depth : ∀ xs : List Str, PyData.depthAll (xs.map PyData.str) = 0
  | [] => rfl
  | n :: r => by simp [PyData.depthAll, PyData.depth, texts_depth r]
theorem texts_shaped (xs : List Str) (h : ∀ x ∈ xs, OkS x) : SeqAt.shaped (.list (xs.map PyData.str)) = true := by
  simp [SeqAt.shaped, PyData.canLay0, PyData.depth, texts_lay xs h, texts_depth]
theorem texts_eqv : ∀ xs ys : List Str, PyData.eqvAll (xs.map PyData.str) (ys.map PyData.str) = decide (xs = ys)
  | [], [] => by simp [PyData.eqvAll]
  | [], _ :: _ => by simp [PyData.eqvAll]
  | _ :: _, [] => by simp [PyData.eqvAll]
  | a :: r, b :: t => by
    simp only [List.map_cons, PyData.eqvAll, PyData.eqv, texts_eqv r t]
    by_cases h : a = b <;> by_cases h' : r = t <;> simp [h, h']
theorem ints_reads {h : Heap} {vs : List Value} {xs : List Int} (H : Ints vs xs) : ReadsAll h vs (xs.map PyData.int) [] := by
  induction H with
  | nil => exact .nil
  | cons _ ih => exact ReadsAll.cons (as := []) (bs := []) (.int _ _) ih
/-- the items of a row are pairs of a bool and a text -/
inductive Pairs (news : Led) : List Value → List (Bool × Str) → Prop
  | nil : Pairs news [] []
  | cons {a : Addr} {b : Bool} {x : Str} {t : Tok} {n : Nat} {vs : List Value} {xs : List (Bool × Str)} : (a, ({ cls := .type "tuple", data := .seq #[.bool b, .str x t] n } : Obj)) ∈ news → Pairs news vs xs → Pairs news (.ref a :: vs) ((b, x) :: xs)
def pd (p : Bool × Str) : PyData := .tuple [.bool p.1, .str p.2]
theorem pairs_reads {h₀ h : Heap} {L : Addr} {news : Led} {vs : List Value} {xs : List (Bool × Str)} (N : News h₀ L h news) (H : Pairs news vs xs) : ReadsAll h vs (xs.map pd) [] := by
  induction H with
  | nil => exact .nil
  | cons hm _ ih => exact ReadsAll.cons (as := []) (bs := []) (.tuple (N _ hm).1 rfl rfl (ReadsAll.cons (as := []) (bs := []) (.bool _) (ReadsAll.cons (as := []) (bs := []) (.str _ _) .nil))) ih
theorem pairs_lay : ∀ xs : List (Bool × Str), (∀ x ∈ xs, OkS x.2) → PyData.canLayAll0 (xs.map pd) = true
  | [], _ => by simp [PyData.canLayAll0]
  | n :: r, h => by
    have h1 : PyData.strOk n.2 = true := h n (.head _)
    simp [PyData.canLayAll0, PyData.canLay0, pairs_lay r fun x hx => h x (.tail _ hx), pd, h1]
theorem pairs_depth : ∀ xs : List (Bool × Str), PyData.depthAll (xs.map pd) ≤ 1
  | [] => by simp [PyData.depthAll]
  | n :: r => by
    have := pairs_depth r
    simp [PyData.depthAll, PyData.depth, pd]; omega
theorem pairs_shaped (xs : List (Bool × Str)) (h : ∀ x ∈ xs, OkS x.2) : SeqAt.shaped (.list (xs.map pd)) = true := by
  have h1 := pairs_depth xs
  have h2 : PyData.depth (.list (xs.map pd)) ≤ 64 := by simp only [PyData.depth]; omega
  simp only [SeqAt.shaped, PyData.canLay0, pairs_lay xs h, Bool.true_and]
  exact decide_eq_true h2
theorem pairs_eqv : ∀ xs ys : List (Bool × Str), PyData.eqvAll (xs.map pd) (ys.map pd) = decide (xs = ys)
  | [], [] => by simp [PyData.eqvAll]
  | [], _ :: _ => by simp [PyData.eqvAll]
  | _ :: _, [] => by simp [PyData.eqvAll]
  | (a, a') :: r, (b, b') :: t => by
    simp only [List.map_cons, PyData.eqvAll, PyData.eqv, pairs_eqv r t, pd]
    by_cases h : a = b <;> by_cases h2 : a' = b' <;> by_cases h' : r = t <;> simp [h, h2, h']
section
variable {prog : Program} {w : World} {A : Around} {E : Value → Shared → Prop} {s : Shared} {h₀ : Heap} {L : Addr} {news : Led} {a b : Addr} {xs ys : List Value} {n m : Nat} {Q : Value → Shared → Prop}
theorem list_reads {ds : List PyData} (N : News h₀ L s.heap news) (ha : (a, listOf xs.toArray n) ∈ news) (H : ReadsAll s.heap xs ds []) : Reads s.heap (.ref a) (.list ds) [a] := .list (N _ ha).1 rfl rfl H
theorem eq_texts {us vs : List Str} (N : News h₀ L s.heap news) (ha : (a, listOf xs.toArray n) ∈ news) (hb : (b, listOf ys.toArray m) ∈ news) (H : Texts xs us) (H' : Texts ys vs) (o1 : ∀ x ∈ us, OkS x) (o2 : ∀ x ∈ vs, OkS x) (hu : A.units + 64 < cLine) (h : Q (.bool (decide (us = vs))) s) :
    wpAny (model prog w) A (compareOp .Eq (.ref a) (.ref b)) Q E s :=
  eq_dataH (list_reads N ha (texts_reads H)) (list_reads N hb (texts_reads H')) (texts_shaped _ o1) (texts_shaped _ o2) hu (by rw [PyData.eqv, texts_eqv]; exact h)
theorem ne_texts {us vs : List Str} (N : News h₀ L s.heap news) (ha : (a, listOf xs.toArray n) ∈ news) (hb : (b, listOf ys.toArray m) ∈ news) (H : Texts xs us) (H' : Texts ys vs) (o1 : ∀ x ∈ us, OkS x) (o2 : ∀ x ∈ vs, OkS x) (hu : A.units + 64 < cLine) (h : Q (.bool (!decide (us = vs))) s) :
    wpAny (model prog w) A (compareOp .NotEq (.ref a) (.ref b)) Q E s :=
  ne_dataH (list_reads N ha (texts_reads H)) (list_reads N hb (texts_reads H')) (texts_shaped _ o1) (texts_shaped _ o2) hu (by rw [PyData.eqv, texts_eqv]; exact h)
theorem ne_ints {us vs : List Int} (N : News h₀ L s.heap news) (ha : (a, listOf xs.toArray n) ∈ news) (hb : (b, listOf ys.toArray m) ∈ news) (H : Ints xs us) (H' : Ints ys vs) (hu : A.units + 64 < cLine) (h : Q (.bool (!decide (us = vs))) s) :
    wpAny (model prog w) A (compareOp .NotEq (.ref a) (.ref b)) Q E s :=
  ne_dataH (list_reads N ha (ints_reads H)) (list_reads N hb (ints_reads H')) (ke_shaped_ints _) (ke_shaped_ints _) hu (by rw [PyData.eqv, ked_eqvAll]; exact h)
theorem ne_pairs {us vs : List (Bool × Str)} (N : News h₀ L s.heap news) (ha : (a, listOf xs.toArray n) ∈ news) (hb : (b, listOf ys.toArray m) ∈ news) (H : Pairs news xs us) (H' : Pairs news ys vs) (o1 : ∀ x ∈ us, OkS x.2) (o2 : ∀ x ∈ vs, OkS x.2) (hu : A.units + 64 < cLine) (h : Q (.bool (!decide (us = vs))) s) :
    wpAny (model prog w) A (compareOp .NotEq (.ref a) (.ref b)) Q E s :=
  ne_dataH (list_reads N ha (pairs_reads N H)) (list_reads N hb (pairs_reads N H')) (pairs_shaped _ o1) (pairs_shaped _ o2) hu (by rw [PyData.eqv, pairs_eqv]; exact h)
end
end

section
variable {prog : Program} {w : World} {A : Around} {E : Value → Shared → Prop} {s : Shared} {h₀ : Heap} {L a : Addr} {news : Led} {vs : List Value} {n : Nat}
theorem item_texts {value slice : PySem.Expr} {k : Int} {u : Tok} {ws : List Str} {Q : Value → Shared → Prop} (N : News h₀ L s.heap news) (hm : (a, listOf vs.toArray n) ∈ news) (H : Texts vs ws)
    (h0 : 0 ≤ k) (hk : k < (ws.length : Int)) (hl : ws.length ≤ 100000) (h : ∀ t, Q (.str (ws.getD k.toNat Str.empty) t) s)
    (hs : subscripted slice false (.ref a) (.int k u) = operate [.ref a, .int k u] (getItem (.ref a) (.int k u)) := by with_unfolding_all rfl) :
    wpAny (model prog w) A (subscriptTail value slice (.ref a) (.int k u)) Q E s := by
  obtain ⟨t, ht⟩ := H.get (i := k.toNat) (by omega)
  exact item_my N hm h0 (by omega) ht (h t) hs
theorem item_ints {value slice : PySem.Expr} {k : Int} {u : Tok} {ws : List Int} {Q : Value → Shared → Prop} (N : News h₀ L s.heap news) (hm : (a, listOf vs.toArray n) ∈ news) (H : Ints vs ws)
    (h0 : 0 ≤ k) (hk : k < (ws.length : Int)) (hl : ws.length ≤ 100000) (h : ∀ t, Q (.int (ws.getD k.toNat 0) t) s)
    (hs : subscripted slice false (.ref a) (.int k u) = operate [.ref a, .int k u] (getItem (.ref a) (.int k u)) := by with_unfolding_all rfl) :
    wpAny (model prog w) A (subscriptTail value slice (.ref a) (.int k u)) Q E s := by
  obtain ⟨t, ht⟩ := H.get (i := k.toNat) (by omega)
  exact item_my N hm h0 (by omega) ht (h t) hs
theorem item_names {value slice : PySem.Expr} {k : Int} {u : Tok} {led : Led} {ws : List (Bool × Str)} {Q : Value → Shared → Prop} (N : News h₀ L s.heap news) (hm : (a, listOf vs.toArray n) ∈ news) (H : Names w led vs ws)
    (h0 : 0 ≤ k) (hk : k < (ws.length : Int)) (hl : ws.length ≤ 100000) (h : ∀ v, NameV w led v ((ws.getD k.toNat (true, Str.empty)).1) ((ws.getD k.toNat (true, Str.empty)).2) → Q v s)
    (hs : subscripted slice false (.ref a) (.int k u) = operate [.ref a, .int k u] (getItem (.ref a) (.int k u)) := by with_unfolding_all rfl) :
    wpAny (model prog w) A (subscriptTail value slice (.ref a) (.int k u)) Q E s := by
  obtain ⟨v, p, hv, hp, V⟩ := H.get (i := k.toNat) (by omega)
  refine item_my N hm h0 (by omega) hv (h v ?_) hs
  have e : ws.getD k.toNat (true, Str.empty) = p := by rw [List.getD_eq_getElem?_getD, hp]; rfl
  rw [e]; exact V
end

local macro_rules | `(tactic| walk_at "subscriptTail") => `(tactic| (k_here; (with_reducible show wpAny _ _ (subscriptTail _ _ (Value.ref _) (Value.int _ _)) _ _ _); k_dflt (first
  | (refine' item_texts ?N ?m ?H ?h0 ?hk ?hl ?_; (case N => k_asm); (case m => k_mem); (case H => assumption); (case h0 => first | exact Int.natCast_nonneg _ | omega); (case hk => first | exact Int.ofNat_lt.mpr (by assumption) | omega); (case hl => first | exact Nat.le_trans (Nat.le_of_eq (by assumption)) (by decide) | exact len_le (by assumption) (by assumption) (by decide) | omega); intro t')
  | (refine' item_ints ?N ?m ?H ?h0 ?hk ?hl ?_; (case N => k_asm); (case m => k_mem); (case H => assumption); (case h0 => first | exact Int.natCast_nonneg _ | omega); (case hk => first | exact Int.ofNat_lt.mpr (by assumption) | omega); (case hl => first | exact Nat.le_trans (Nat.le_of_eq (by assumption)) (by decide) | exact len_le (by assumption) (by assumption) (by decide) | omega); intro t')
  | (refine' item_names ?N ?m ?H ?h0 ?hk ?hl ?_; (case N => k_asm); (case m => k_mem); (case H => assumption); (case h0 => first | exact Int.natCast_nonneg _ | omega); (case hk => first | exact Int.ofNat_lt.mpr (by assumption) | omega); (case hl => first | exact Nat.le_trans (Nat.le_of_eq (by assumption)) (by decide) | exact len_le (by assumption) (by assumption) (by decide) | omega); intro v' hV'))))
local macro_rules | `(tactic| walk_at "call builtin:len") => `(tactic| (k_here; (with_reducible show wpAny _ _ (call (Value.builtin "len") [Value.str _ _]) _ _ _); k_dflt (refine' PySem.P.len_str ?l ?_; (case l => omega))))
/-- the word of a newcomer -/
def wordOf (ws : List Str) (ahead behind : Int) : Str :=
  if ws = [] then Str.empty
  else if behind < 0 ∨ (0 ≤ ahead ∧ (ws.getD ahead.toNat Str.empty).length > (ws.getD behind.toNat Str.empty).length) then ws.getD ahead.toNat Str.empty ++ Str.ofString "~"
  else ws.getD behind.toNat Str.empty ++ Str.ofString "|"
theorem str_same {x y : Str} {t : Tok} (h : x = y) : Value.str x t = Value.str y t := by rw [h]
theorem wordOf_0 {ws : List Str} {i j : Int} (h : ws.length = 0) : Str.ofString "" = wordOf ws i j := by
  unfold wordOf
  rw [if_pos (List.length_eq_zero_iff.mp h)]
  decide +kernel
theorem wordOf_a {ws : List Str} {i j : Int} (h : ws.length ≠ 0) (hc : j < 0 ∨ (0 ≤ i ∧ (ws.getD i.toNat Str.empty).length > (ws.getD j.toNat Str.empty).length)) : ws.getD i.toNat Str.empty ++ Str.ofString "~" = wordOf ws i j := by
  unfold wordOf
  rw [if_neg (fun e => h (by rw [e]; rfl)), if_pos hc]
theorem wordOf_b {ws : List Str} {i j : Int} (h : ws.length ≠ 0) (hc : ¬ (j < 0 ∨ (0 ≤ i ∧ (ws.getD i.toNat Str.empty).length > (ws.getD j.toNat Str.empty).length))) : ws.getD j.toNat Str.empty ++ Str.ofString "|" = wordOf ws i j := by
  unfold wordOf
  rw [if_neg (fun e => h (by rw [e]; rfl)), if_neg hc]
set_option maxHeartbeats 8000000 in
theorem word_does (w : World) (news : Led) (a : Addr) (vs : List Value) (n : Nat) (ws : List Str) (i j : Int) (t u : Tok) (hn : (a, listOf vs.toArray n) ∈ news) (hv : Texts vs ws) (hl : ws.length ≤ 1000)
    (hi : i < ws.length) (hj : j < ws.length) (h0 : ws ≠ [] → 0 ≤ i ∨ 0 ≤ j) (hw : ∀ k, (ws.getD k Str.empty).length ≤ 1000) (ho : ∀ x ∈ ws, OkS x) :
    Does w 1 150 191 [.ref a, .int i t, .int j u] [] news (fun r m => m = news ∧ ∃ t, r = .str (wordOf ws i j) t) := by
  unfold Does
  intros; rename_i hret
  rename News _ _ _ _ => N0
  replace N0 := news_more N0 hn
  have hvl := hv.length
  have e1 := hw i.toNat
  have e2 := hw j.toNat
  have e3 : (Str.ofString "~").length = 1 := by decide +kernel
  have e4 : (Str.ofString "|").length = 1 := by decide +kernel
  have h0' : ws.length = 0 ∨ 0 ≤ i ∨ 0 ≤ j := by
    cases ws with
    | nil => exact .inl rfl
    | cons _ _ => exact .inr (h0 (by simp))
  refine wpAny_call ?_
  k_dflt k_enter
  k_steps
  have ew : decide (ws = []) = decide (ws.length = 0) := by cases ws <;> simp
  refine eq_texts (by assumption) (.tail _ (.head _)) (.head _) hv .nil ho (fun _ h => nomatch h) (by ktr_units) ?_
  rw [ew]
  k_steps
  all_goals (simp only [decide_eq_true_eq, decide_eq_false_iff_not] at *)
  all_goals refine hret _ _ _ _ ⟨rfl, _, str_same ?_⟩ (by assumption) (news_less (news_less (by assumption)))
  all_goals first | exact wordOf_0 (by omega) | exact wordOf_a (by omega) (by omega) | exact wordOf_b (by omega) (by omega)

/-- one sign of a word turns the number and halves the step -/
def stp (p : Int × Int) (c : Int) : Int × Int := (p.1 + (if c = 126 then p.2 else -p.2), Int.fdiv p.2 2)
def numberOf (x : Str) : Int := ((KStt.codes x).foldl stp (32, 16)).1
theorem tilde_is (n : Nat) : ((⟨#[n]⟩ : Str) == Str.ofString "~") = decide ((n : Int) = 126) := by
  have e : Str.ofString "~" = ⟨#[126]⟩ := by decide +kernel
  rw [e]
  by_cases h : n = 126
  · subst h; rfl
  · have h1 : ¬ ((n : Int) = 126) := by omega
    rw [decide_eq_false h1, beq_eq_false_iff_ne]
    intro q
    injection q with q
    injection q with q
    injection q with q
    exact h q
set_option maxHeartbeats 8000000 in
theorem number_does (w : World) (news : Led) (x : Str) (t : Tok) : Does w 1 60 198 [.str x t] [] news (fun r m => m = news ∧ ∃ t, r = .int (numberOf x) t) := by
  unfold Does
  intros; rename_i hret
  refine wpAny_call ?_
  k_dflt k_enter
  k_steps
  rename Fr _ _ _ _ => lF
  rename News _ _ _ _ => lN
  with_unfolding_all refine' For_invVF lF ?k1 ?k2 ?_
  case k1 => exact rfl
  case k2 => exact rfl
  k_steps
  obtain ⟨_, et1, t1, rfl⟩ := fr_look lF (Str.ofString "number") (fun v => ∃ t, v = .int 32 t) ⟨_, by with_unfolding_all rfl, _, rfl⟩
  obtain ⟨_, et2, t2, rfl⟩ := fr_look lF (Str.ofString "step") (fun v => ∃ t, v = .int 16 t) ⟨_, by with_unfolding_all rfl, _, rfl⟩
  refine' KStt.kst_text (σ := Int × Int × Tok × Tok) (fun _ => news) (fun c => [(Str.ofString "number", .int c.1 c.2.2.1), (Str.ofString "step", .int c.2.1 c.2.2.2)]) (fun _ => True) [] (fun pre c => (c.1, c.2.1) = pre.foldl stp (32, 16)) (32, 16, t1, t2) rfl lF lN trivial ?hk rfl ?turn ?done
  case hk => exact List.forall_mem_cons.mpr ⟨et1, List.forall_mem_cons.mpr ⟨et2, List.forall_mem_nil _⟩⟩
  case turn =>
    clear lF lN et1 et2
    rintro ⟨nu, st, t1, t2⟩ pre post n t u h tk own he hoff _ hP F' N'
    dsimp only at hP
    have er := tilde_is n
    k_steps
    · rename News _ _ _ _ => eN
      rename (_ == _) = true => q
      rw [er, decide_eq_true_eq] at q
      refine kst_end ⟨nu + st, Int.fdiv st 2, _, _⟩ (by assumption) eN (fun p hp => List.mem_append_left _ hp) (fun p hp => List.mem_append_right _ hp) rfl trivial (List.forall_mem_cons.mpr ⟨by dsimp only; with_unfolding_all rfl, List.forall_mem_cons.mpr ⟨by dsimp only; with_unfolding_all rfl, List.forall_mem_nil _⟩⟩)
        (by intro z h1 h2 h3; have e1 := h2 _ (.head _); have e2 := h2 _ (.tail _ (.head _)); dsimp only at e1 e2; simp only [kstB, if_neg e1, if_neg e2, if_neg h1, h3, Bool.false_eq_true, if_false]) ?_
      rw [List.foldl_append, ← hP]
      show (_, _) = (_, _)
      rw [if_pos q]
    · rename News _ _ _ _ => eN
      rename (_ == _) = false => q
      rw [er, decide_eq_false_iff_not] at q
      refine kst_end ⟨nu + -st, Int.fdiv st 2, _, _⟩ (by assumption) eN (fun p hp => List.mem_append_left _ hp) (fun p hp => List.mem_append_right _ hp) rfl trivial (List.forall_mem_cons.mpr ⟨by dsimp only; with_unfolding_all rfl, List.forall_mem_cons.mpr ⟨by dsimp only; with_unfolding_all rfl, List.forall_mem_nil _⟩⟩)
        (by intro z h1 h2 h3; have e1 := h2 _ (.head _); have e2 := h2 _ (.tail _ (.head _)); dsimp only at e1 e2; simp only [kstB, if_neg e1, if_neg e2, if_neg h1, h3, Bool.false_eq_true, if_false]) ?_
      rw [List.foldl_append, ← hP]
      show (_, _) = (_, _)
      rw [if_neg q]
  case done =>
    clear lF lN et1 et2
    rintro ⟨nu, st, t1, t2⟩ u h tk _ hP F' N'
    k_steps
    exact hret _ _ _ _ ⟨rfl, _, by rw [numberOf, ← hP]⟩ (by assumption) (by assumption)

theorem sliceIdx (k n : Nat) (h : k ≤ n) : Builtin.Str.strSliceIndices none (some (k : Int)) 1 n = (List.range k).map (fun i => 0 + i) := by
  unfold Builtin.Str.strSliceIndices sliceRange
  simp only [show (1 : Int) > 0 by decide, if_true]
  have e1 : ¬ ((k : Int) < 0) := by omega
  have e2 : max 0 (min (k : Int) (n : Int)) = (k : Int) := by omega
  simp only [if_neg e1, e2]
  have e3 : (if (0 : Int) < (k : Int) then ((k : Int) - 0 + 1 - 1) / 1 else 0).toNat = k := by
    split <;> omega
  rw [e3]
  refine List.map_congr_left fun i _ => ?_
  omega
theorem slice_take {x : Str} {k : Nat} (h : k ≤ x.length) : Txt.slice x none (some (k : Int)) = ⟨(x.cps.toList.take k).toArray⟩ := by
  unfold Txt.slice
  rw [sliceIdx k _ h]
  simp only [List.length_map, List.length_range]
  split
  · rename_i q
    have e : k = x.cps.toList.length := by simpa [Str.length] using q
    rw [e, List.take_length]
  · have := StrLaws.picks x.cps.toList k 0 (by simpa [Str.length] using h)
    simp only [List.drop_zero] at this
    simp only [Array.getElem?_toList] at this
    rw [this]
theorem item_at {x : Str} {k : Nat} (h : k < x.length) : Txt.item x (k : Int) = ⟨#[x.cps.toList.getD k 0]⟩ := by
  unfold Txt.item Txt.charAt
  have e : seqIndex? (k : Int) x.length = some k := by
    unfold seqIndex?
    have e1 : ¬ ((k : Int) < 0) := by omega
    simp only [if_neg e1]
    rw [if_pos (by simp; omega)]
    simp
  rw [e]
  have h' : k < x.cps.size := h
  simp
/-- what two words begin with -/
def cpre : List Nat → List Nat → List Nat
  | a :: r, b :: t => if a = b then a :: cpre r t else []
  | _, _ => []
theorem cpre_of : ∀ {xs ys : List Nat} {k : Nat}, k ≤ xs.length → k ≤ ys.length → xs.take k = ys.take k → (k = xs.length ∨ k = ys.length ∨ xs.getD k 0 ≠ ys.getD k 0) → cpre xs ys = xs.take k
  | [], ys, k, h1, _, _, _ => by
    cases k with
    | zero => cases ys <;> rfl
    | succ k => exact absurd h1 (by simp)
  | a :: r, [], k, _, h2, _, _ => by
    cases k with
    | zero => rfl
    | succ k => exact absurd h2 (by simp)
  | a :: r, b :: t, 0, _, _, _, h4 => by
    have : a ≠ b := by simpa using h4
    simp [cpre, this]
  | a :: r, b :: t, k + 1, h1, h2, h3, h4 => by
    simp only [List.take_succ_cons, List.cons.injEq] at h3
    have := cpre_of (xs := r) (ys := t) (k := k) (by simpa using h1) (by simpa using h2) h3.2 (by simpa using h4)
    simp [cpre, h3.1, this]
def sharedOf (x y : Str) : Str := ⟨(cpre x.cps.toList y.cps.toList).toArray⟩
theorem shared_end {x y : Str} {k : Nat} (h1 : k ≤ x.length) (h2 : k ≤ y.length) (h3 : x.cps.toList.take k = y.cps.toList.take k)
    (h4 : k = x.length ∨ k = y.length ∨ x.cps.toList.getD k 0 ≠ y.cps.toList.getD k 0) : Txt.slice x none (some (k : Int)) = sharedOf x y := by
  rw [slice_take h1, sharedOf, cpre_of (by simpa [Str.length] using h1) (by simpa [Str.length] using h2) h3 (by simpa [Str.length] using h4)]
theorem one_ne {a b : Nat} (h : ((⟨#[a]⟩ : Str) == ⟨#[b]⟩) = false) : a ≠ b := by
  intro e
  subst e
  simp at h
theorem one_eq {a b : Nat} (h : ((⟨#[a]⟩ : Str) == ⟨#[b]⟩) = true) : a = b := by
  have := eq_of_beq h
  injection this with q
  injection q with q
  injection q
set_option maxHeartbeats 8000000 in
theorem shared_does (w : World) (news : Led) (x y : Str) (t u : Tok) (hx : x.length ≤ 1000) (hy : y.length ≤ 1000) : Does w 1 60 240 [.str x t, .str y u] [] news (fun r m => m = news ∧ ∃ t, r = .str (sharedOf x y) t) := by
  unfold Does
  intros; rename_i hret
  refine wpAny_call ?_
  k_dflt k_enter
  k_steps
  rename Fr _ _ _ _ => lF
  rename News _ _ _ _ => lN
  obtain ⟨_, etl, tl, rfl⟩ := fr_look lF (Str.ofString "size") (fun v => ∃ t, v = .int 0 t) ⟨_, by with_unfolding_all rfl, _, rfl⟩
  refine' ksw_while (σ := Nat × Tok) (fun _ => news) (fun c => [(Str.ofString "size", .int (c.1 : Int) c.2)]) (fun _ => True) []
    (fun c => c.1 ≤ x.length ∧ c.1 ≤ y.length ∧ x.cps.toList.take c.1 = y.cps.toList.take c.1) (fun c => x.length - c.1) (0, tl) lF lN trivial ?hk ?hp ?turn ?hE
  case hk => exact List.forall_mem_cons.mpr ⟨etl, List.forall_mem_nil _⟩
  case hp => exact ⟨Nat.zero_le _, Nat.zero_le _, rfl⟩
  case hE => first | passes_own | with_unfolding_all passes_own
  case turn =>
    clear lF lN etl
    rintro ⟨k, tk⟩ u hp tk' _ ⟨h1, h2, h3⟩ F' N'
    dsimp only at h1 h2 h3
    k_steps
    · rename (_ == _) = true => q
      have k1 : k < x.length := by rename ((_ : Int) < (x.length : Int)) => q1; exact Int.ofNat_lt.mp q1
      have k2 : k < y.length := by rename ((_ : Int) < (y.length : Int)) => q1; exact Int.ofNat_lt.mp q1
      rw [item_at (x := x) k1, item_at (x := y) k2] at q
      have qe := one_eq q
      refine ksw_end ⟨k + 1, _⟩ (by assumption) (by assumption) (fun p hp => hp) trivial (List.forall_mem_cons.mpr ⟨by dsimp only; with_unfolding_all rfl, List.forall_mem_nil _⟩)
        (by intro z h2 h3; have e1 := h2 _ (.head _); dsimp only at e1; simp only [kstB, if_neg e1, h3, Bool.false_eq_true, if_false]) ⟨k1, k2, ?_⟩ (by dsimp only; omega)
      show x.cps.toList.take (k + 1) = y.cps.toList.take (k + 1)
      have l1 : k < x.cps.toList.length := by simpa [Str.length] using k1
      have l2 : k < y.cps.toList.length := by simpa [Str.length] using k2
      rw [List.take_add_one, List.take_add_one, h3]
      rw [List.getD_eq_getElem?_getD, List.getD_eq_getElem?_getD] at qe
      rw [List.getElem?_eq_getElem l1, List.getElem?_eq_getElem l2] at qe ⊢
      simpa using qe
    · rename (_ == _) = false => q
      have k1 : k < x.length := by rename ((_ : Int) < (x.length : Int)) => q1; exact Int.ofNat_lt.mp q1
      have k2 : k < y.length := by rename ((_ : Int) < (y.length : Int)) => q1; exact Int.ofNat_lt.mp q1
      rw [item_at (x := x) k1, item_at (x := y) k2] at q
      exact hret _ _ _ _ ⟨rfl, _, str_same (shared_end h1 h2 h3 (.inr (.inr (one_ne q))))⟩ (by assumption) (by assumption)
    · have k2 : ¬ k < y.length := by rename ¬ ((_ : Int) < (y.length : Int)) => q1; exact fun z => q1 (Int.ofNat_lt.mpr z)
      exact hret _ _ _ _ ⟨rfl, _, str_same (shared_end h1 h2 h3 (.inr (.inl (by omega))))⟩ (by assumption) (by assumption)
    · have k2 : ¬ k < x.length := by rename ¬ ((_ : Int) < (x.length : Int)) => q1; exact fun z => q1 (Int.ofNat_lt.mpr z)
      exact hret _ _ _ _ ⟨rfl, _, str_same (shared_end h1 h2 h3 (.inl (by omega)))⟩ (by assumption) (by assumption)

local macro_rules | `(tactic| walk_at "call ref") => `(tactic| (k_here; k_dflt (first
  | (refine' Does.use (neg_does _ _ _ _) ?B ?F ?X ?N ?T ?k ?d ?u ?_; (case B => k_asm); (case F => k_asm); (case X => k_asm); (case N => k_asm); (case T => k_asm); (case k => first | exact rfl | assumption); (case d => ktr_room); (case u => ktr_units); rintro r9 n9 h9 tk9 ⟨e9, t9, e8⟩ F9 N9; rw [e9] at N9; clear e9; subst e8)
  | (refine' Does.use (lt_does _ _ _ _ _ _) ?B ?F ?X ?N ?T ?k ?d ?u ?_; (case B => k_asm); (case F => k_asm); (case X => k_asm); (case N => k_asm); (case T => k_asm); (case k => first | exact rfl | assumption); (case d => ktr_room); (case u => ktr_units); rintro r9 n9 h9 tk9 ⟨e9, e8⟩ F9 N9; rw [e9] at N9; clear e9; subst e8)
  | (refine' Does.use (rshift_does _ _ _ _ _) ?B ?F ?X ?N ?T ?k ?d ?u ?_; (case B => k_asm); (case F => k_asm); (case X => k_asm); (case N => k_asm); (case T => k_asm); (case k => first | exact rfl | assumption); (case d => ktr_room); (case u => ktr_units); rintro r9 n9 h9 tk9 ⟨e9, t9, e8⟩ F9 N9; rw [e9] at N9; clear e9; subst e8)
  | (refine' Does.use (iadd_does _ _ _ _ _ _) ?B ?F ?X ?N ?T ?k ?d ?u ?_; (case B => k_asm); (case F => k_asm); (case X => k_asm); (case N => k_asm); (case T => k_asm); (case k => first | exact rfl | assumption); (case d => ktr_room); (case u => ktr_units); rintro r9 n9 h9 tk9 ⟨e9, t9, e8⟩ F9 N9; rw [e9] at N9; clear e9; subst e8)
  | (refine' Does.use (isub_does _ _ _ _ _ _) ?B ?F ?X ?N ?T ?k ?d ?u ?_; (case B => k_asm); (case F => k_asm); (case X => k_asm); (case N => k_asm); (case T => k_asm); (case k => first | exact rfl | assumption); (case d => ktr_room); (case u => ktr_units); rintro r9 n9 h9 tk9 ⟨e9, t9, e8⟩ F9 N9; rw [e9] at N9; clear e9; subst e8)
  | (refine' Does.use (iand_does _ _ _ _ _ _) ?B ?F ?X ?N ?T ?k ?d ?u ?_; (case B => k_asm); (case F => k_asm); (case X => k_asm); (case N => k_asm); (case T => k_asm); (case k => first | exact rfl | assumption); (case d => ktr_room); (case u => ktr_units); rintro r9 n9 h9 tk9 ⟨e9, t9, e8⟩ F9 N9; rw [e9] at N9; clear e9; subst e8))))
/-- the number less its lowest binary one -/
def lessOf (n : Int) : Int := n - Builtin.bitAnd n (-n)
/-- r is what is left of n, taken down as long as what is left is not less than low -/
inductive Low (low : Int) : Int → Int → Prop
  | stop {n : Int} : lessOf n < low → Low low n n
  | step {n r : Int} : ¬ lessOf n < low → Low low (lessOf n) r → Low low n r
theorem less_table : ∀ n : Fin 65, 0 < n.val → 0 ≤ lessOf (n.val : Int) ∧ lessOf (n.val : Int) < (n.val : Int) := by decide +kernel
theorem less_down {n : Int} (h : 1 ≤ n) (h' : n ≤ 64) : 0 ≤ lessOf n ∧ lessOf n < n := by
  have := less_table ⟨n.toNat, by omega⟩ (by show 0 < n.toNat; omega)
  have e : ((n.toNat : Nat) : Int) = n := by omega
  simp only [e] at this
  exact this
set_option maxHeartbeats 8000000 in
theorem lowered_does (w : World) (news : Led) (low high : Int) (t u : Tok) (h1 : 1 ≤ low) (h2 : low ≤ high) (h3 : high ≤ 64) : Does w 2 60 247 [.int low t, .int high u] [] news (fun r m => m = news ∧ ∃ k t, r = .int k t ∧ Low low high k) := by
  unfold Does
  intros; rename_i hret
  refine wpAny_call ?_
  k_dflt k_enter
  k_steps
  rename Fr _ _ _ _ => lF
  rename News _ _ _ _ => lN
  obtain ⟨_, etl, tl, rfl⟩ := fr_look lF (Str.ofString "number") (fun v => ∃ t, v = .int high t) ⟨_, by with_unfolding_all rfl, _, rfl⟩
  refine' ksw_while (σ := Int × Tok) (fun _ => news) (fun c => [(Str.ofString "number", .int c.1 c.2)]) (fun _ => True) [Str.ofString "less"]
    (fun c => low ≤ c.1 ∧ c.1 ≤ 64 ∧ ∀ r, Low low c.1 r → Low low high r) (fun c => c.1.toNat) (high, tl) lF lN trivial ?hk ?hp ?turn ?hE
  case hk => exact List.forall_mem_cons.mpr ⟨etl, List.forall_mem_nil _⟩
  case hp => exact ⟨h2, h3, fun _ h => h⟩
  case hE => first | passes_own | with_unfolding_all passes_own
  case turn =>
    clear lF lN etl
    rintro ⟨k, tk⟩ u hp tk' _ ⟨h1, h2, h3⟩ F' N'
    dsimp only at h1 h2 h3
    k_steps
    · rename (_ : Int) < low => q
      exact hret _ _ _ _ ⟨rfl, _, _, rfl, h3 _ (.stop q)⟩ (by assumption) (by assumption)
    · rename ¬ ((_ : Int) < low) => q
      have hd := less_down (n := k) (by omega) h2
      refine ksw_end ⟨lessOf k, _⟩ (by assumption) (by assumption) (fun p hp => hp) trivial (List.forall_mem_cons.mpr ⟨by dsimp only; with_unfolding_all rfl, List.forall_mem_nil _⟩)
        (by intro z h2 h3; have e1 := h2 _ (.head _); have e2 : z ≠ Str.ofString "less" := (by intro e; rw [e] at h3; simp at h3); dsimp only at e1; simp only [kstB, if_neg e1, if_neg e2, h3, Bool.false_eq_true, if_false]) ⟨Int.not_lt.mp q, ?_, ?_⟩ ?_
      · show lessOf k ≤ 64; omega
      · exact fun r hr => h3 r (.step q hr)
      · show (lessOf k).toNat < k.toNat; omega

theorem Ints.are {vs : List Value} {ns : List Int} (h : Ints vs ns) : IntsAre vs ns := by
  induction h with
  | nil => exact .nil
  | cons _ ih => exact .cons _ _ ih
theorem IntsAre.own {vs : List Value} {ns : List Int} (h : IntsAre vs ns) : Ints vs ns := by
  induction h with
  | nil => exact .nil
  | cons _ _ _ ih => exact .cons ih
theorem small_weight : ∀ n : Fin 100, PyData.weight (.int (n.val : Int)) ≤ 7 := by decide +kernel
theorem weight_of {i : Int} (h : 0 ≤ i ∧ i < 100) : PyData.weight (.int i) ≤ 7 := by
  have := small_weight ⟨i.toNat, by omega⟩
  have e : ((i.toNat : Nat) : Int) = i := by omega
  simp only [e] at this
  exact this
theorem weights_of : ∀ {ns : List Int}, (∀ x ∈ ns, 0 ≤ x ∧ x < 100) → PyData.weightAll (ns.map .int) ≤ 8 * ns.length
  | [], _ => by simp [PyData.weightAll]
  | n :: r, h => by
    have h1 := weight_of (h n (.head _))
    have h2 := weights_of (ns := r) fun x hx => h x (.tail _ hx)
    simp only [List.map_cons, PyData.weightAll, List.length_cons]
    omega
theorem lay_small {ns : List Int} (h : ∀ x ∈ ns, 0 ≤ x ∧ x < 100) (hl : ns.length ≤ 100) : PyData.layable0 (.list (ns.map .int)) = true := by
  have h1 := weights_of h
  have h2 := W.depthAll_ints ns
  unfold PyData.layable0
  rw [Bool.and_eq_true, Bool.and_eq_true]
  refine ⟨⟨by simp only [PyData.canLay0]; exact canLayAll0_ints ns, ?_⟩, ?_⟩
  · refine decide_eq_true ?_; simp only [PyData.depth]; omega
  · refine decide_eq_true ?_; simp only [PyData.weight]; omega
/-- the first-comer, what stands ahead of it, what stands behind it -/
inductive Walk : List Int → List Int → Prop
  | nil : Walk [] []
  | node {ns l r : List Int} {M : Int} : M ∈ ns → (∀ a ∈ ns, M ≤ a) → Walk (ns.take (ns.idxOf M)) l → Walk (ns.drop (ns.idxOf M + 1)) r → Walk ns (M :: l ++ r)
theorem Walk.length {ns rs : List Int} (h : Walk ns rs) : rs.length = ns.length := by
  induction h with
  | nil => rfl
  | @node ns l r M hM hle hl hr il ir =>
    have : ns.idxOf M < ns.length := List.idxOf_lt_length_iff.mpr hM
    simp only [List.length_append, List.length_cons, il, ir, List.length_take, List.length_drop]
    omega
def WalkR (news : Led) (ns : List Int) (r : Value) (m : Led) : Prop := ∃ b us k rs, r = .ref b ∧ m = (b, listOf us.toArray k) :: news ∧ IntsAre us rs ∧ Walk ns rs ∧ ∀ p ∈ news, p.1 < b
set_option maxHeartbeats 8000000 in
theorem walk_step (w : World) (news : Led) (a : Addr) (vs : List Value) (n : Nat) (ns : List Int) (hn : (a, listOf vs.toArray n) ∈ news) (hv : IntsAre vs ns) (hl : ns.length ≤ 100) (hb : ∀ x ∈ ns, 0 ≤ x ∧ x < 100)
    (IH : ∀ (news' : Led) (a' : Addr) (vs' : List Value) (n' : Nat) (ns' : List Int), (a', listOf vs'.toArray n') ∈ news' → IntsAre vs' ns' → (∀ x ∈ ns', 0 ≤ x ∧ x < 100) → ns'.length < ns.length → Does w (2 * ns'.length + 3) (20 * ns'.length + 100) 233 [.ref a'] [] news' (WalkR news' ns')) :
    Does w (2 * ns.length + 3) (20 * ns.length + 100) 233 [.ref a] [] news (WalkR news ns) := by
  unfold Does
  intros; rename_i hret
  rename News _ _ _ _ => N0
  replace N0 := news_more N0 hn
  have hvl := hv.length
  refine wpAny_call ?_
  k_dflt k_enter
  k_steps
  · rename decide (ns = []) = true => q
    have q' := of_decide_eq_true q
    subst q'
    refine hret _ _ _ _ ⟨_, [], 0, [], rfl, rfl, .nil, .nil, ?_⟩ (by assumption) (news_sub (by assumption) ?_)
    · rename _ ∧ _ ∧ AllLt _ news => l1
      exact kst_ltOf l1.2.2
    · intro p hp
      rcases List.mem_cons.mp hp with rfl | hp
      · exact .head _
      · exact .tail _ (.tail _ (.tail _ hp))
  have hne : 0 < ns.length := by
    rename decide (ns = []) = false => q
    have q' := of_decide_eq_false q
    exact List.length_pos_iff.mpr q'
  refine kso_min (by assumption) (by assumption) (News.isList (by assumption) (.tail _ (.head _))) hv hne rfl ?_
  intro h8 M t8 tk8 F8 N8 hM hle
  k_steps
  refine index_list_ints (News.isList (by assumption) (.tail _ (.head _))) hv (lay_small hb hl) hM ?_
  have hix : ns.idxOf M < ns.length := List.idxOf_lt_length_iff.mpr hM
  k_steps
  refine Does.use (IH _ _ _ _ _ (.head _) (by assumption) (fun x hx => hb x (List.mem_of_mem_take hx)) (by rw [List.length_take]; omega)) (by assumption) (by assumption) (by assumption) (by assumption) (by assumption) rfl ?_ ?_ ?_
  · rw [List.length_take]; ktr_room
  · rw [List.length_take]; ktr_units
  rintro r9 n9 h9 tk9 ⟨b9, us9, k9, rs9, rfl, rfl, hI9, hW9, hlt9⟩ F9 N9
  k_steps
  have hlen9 := hW9.length
  rw [List.length_take] at hlen9
  refine kmk_add_ints (by assumption) (by assumption) (News.isList (by assumption) (.tail _ (.tail _ (.head _)))) (News.isList (by assumption) (.head _)) (.cons _ _ .nil) hI9 ?_ ?_
  rotate_left
  · rw [sizeLine_eq]; simp only [List.length_cons, List.length_nil]; omega
  intro D8 us8 h8 F8 N8 l8 hI8
  replace N8 : News _ _ _ ((D8, listOf us8.toArray 0) :: (a, listOf vs.toArray n) :: news) := news_sub N8 fun p hp => by
    rcases List.mem_cons.mp hp with rfl | hp
    · exact .head _
    · exact .tail _ (.tail _ (.tail _ (.tail _ (.tail _ hp))))
  replace l8 : a < D8 ∧ AllLt D8 news := ⟨l8 (a, _) (.tail _ (.tail _ (.tail _ (.tail _ (.head _))))), allLt_of fun p hp => l8 p (.tail _ (.tail _ (.tail _ (.tail _ (.tail _ hp)))))⟩
  clear hlt9
  k_steps
  refine Does.use (IH _ _ _ _ _ (.head _) (by assumption) (fun x hx => hb x (List.mem_of_mem_drop hx)) (by rw [List.length_drop]; omega)) (by assumption) (by assumption) (by assumption) (by assumption) (by assumption) rfl ?_ ?_ ?_
  · rw [List.length_drop]; ktr_room
  · rw [List.length_drop]; ktr_units
  rintro r7 n7 h7 tk7 ⟨b7, us7, k7, rs7, rfl, rfl, hI7, hW7, hlt7⟩ F7 N7
  k_steps
  have hlen7 := hW7.length
  rw [List.length_drop] at hlen7
  refine kmk_add_ints (by assumption) (by assumption) (News.isList (by assumption) (.tail _ (.tail _ (.head _)))) (News.isList (by assumption) (.head _)) hI8 hI7 ?_ ?_
  rotate_left
  · rw [sizeLine_eq]; simp only [List.length_append, List.length_cons, List.length_nil]; omega
  intro D6 us6 h6 F6 N6 l6 hI6
  k_steps
  have ei : (↑(List.idxOf M ns) : Int).toNat = List.idxOf M ns := Int.toNat_natCast _
  have ei1 : (↑(List.idxOf M ns) + 1 : Int).toNat = List.idxOf M ns + 1 := by omega
  have eM : ns.getD (List.idxOf M ns) 0 = M := by
    rw [List.getD_eq_getElem?_getD, List.getElem?_eq_getElem hix]
    exact List.getElem_idxOf hix
  rw [ei] at hW9 hI6
  rw [ei1] at hW7
  rw [eM] at hI6
  refine hret _ _ _ _ ⟨_, us6, 0, _, rfl, rfl, hI6, .node hM hle hW9 hW7, fun p hp => l6 p ?_⟩ (by assumption) (news_sub (by assumption) ?_)
  · exact .tail _ (.tail _ (.tail _ (.tail _ hp)))
  · intro p hp
    rcases List.mem_cons.mp hp with rfl | hp
    · exact .head _
    · exact .tail _ (.tail _ (.tail _ (.tail _ (.tail _ hp))))
theorem walk_does (w : World) : ∀ (N : Nat) (news : Led) (a : Addr) (vs : List Value) (n : Nat) (ns : List Int), ns.length ≤ N → N ≤ 100 → (a, listOf vs.toArray n) ∈ news → IntsAre vs ns → (∀ x ∈ ns, 0 ≤ x ∧ x < 100) →
    Does w (2 * ns.length + 3) (20 * ns.length + 100) 233 [.ref a] [] news (WalkR news ns) := by
  intro N
  induction N with
  | zero => exact fun news a vs n ns h1 h2 hn hv hb => walk_step w news a vs n ns hn hv (by omega) hb fun _ _ _ _ _ _ _ _ hlt => absurd hlt (by omega)
  | succ N ih => exact fun news a vs n ns h1 h2 hn hv hb => walk_step w news a vs n ns hn hv (by omega) hb fun news' a' vs' n' ns' hn' hv' hb' hlt => ih news' a' vs' n' ns' (by omega) (by omega) hn' hv' hb'

section
variable {prog : Program} {w : World} {A : Around} {E : Value → Shared → Prop} {s : Shared} {env : Env} {h₀ : Heap} {x : Str} {body : List Stmt} {Q : Flow → Shared → Prop}
/-- a for over anything that is walked, its state told by J; what the iterator leans on stays on the ledger -/
theorem for_walks {I : Addr} {fix : Led} {n : Nat} {P : Nat → Value → Prop} {St : Nat → Heap → Prop} {m₀ : Str → Option Value} {news : Led} (J : Nat → (Str → Option Value) → Led → Prop)
    (W : Walks prog w A I (I :: fix.map (·.1)) [I] n P St) (hJf : ∀ i m nx, J i m nx → ∀ p ∈ fix, p ∈ nx) (hIL : I ≠ env.locals) (hIn : ∀ p ∈ news, p.1 ≠ I) (hI0 : h₀.get? I = none) (hSt : ∀ i h, St i h → ∃ o, h.get? I = some o)
    (hst : St 0 s.heap) (F : Fr h₀ env.locals s.heap m₀) (N : News h₀ env.locals s.heap news) (hj : J 0 m₀ news)
    (turn : ∀ i v m₁ nx h tk oI, i < n → P i v → J i m₁ nx → (∀ p ∈ nx, p.1 ≠ I) → Fr h₀ env.locals h (fun y => if y = x then some v else m₁ y) → News h₀ env.locals h ((I, oI) :: nx) →
      wpAny (model prog w) A (execs body env) (TbPost h₀ env.locals (J (i + 1)) [(I, oI)] { s with heap := h, toks := tk } Q) E { s with heap := h, toks := tk })
    (done : ∀ m₁ nx h tk, J n m₁ nx → Fr h₀ env.locals h m₁ → News h₀ env.locals h nx → Q .next { s with heap := h, toks := tk }) :
    LoopAtV prog w A h₀ env x body Q E (.ref I) s := by
  refine ⟨I, I :: fix.map (·.1), [I], n, P, St, m₀, news, J, rfl, W, ?_, ?_, ?_, hst, F, N, hj, ?_, ?_⟩
  · intro hm
    rcases List.mem_cons.mp hm with e | hm
    · exact hIL e.symm
    · obtain ⟨p, hp, e⟩ := List.mem_map.mp hm
      exact (N p (hJf _ _ _ hj p hp)).2.1 e
  · intro b hb
    rw [List.mem_singleton.mp hb]; exact hI0
  · intro p hp hI
    exact hIn p hp (List.mem_singleton.mp hI)
  · rintro i v m₁ news₁ s₁ own ⟨hh', tk', rfl⟩ hin hP hJ hoff hown hget hfp hst' F₁ N₁
    obtain ⟨oI, hoI⟩ := hSt _ _ hst'
    have hI : (I, oI) ∈ own := hfp I (.head _) hI0 oI hoI
    have N₂ : News h₀ env.locals hh' ((I, oI) :: news₁) := fun p hp => N₁ p (by
      rcases List.mem_cons.mp hp with rfl | hp
      · exact List.mem_append_left _ hI
      · exact List.mem_append_right _ hp)
    refine wpAny_mono (turn i v m₁ news₁ hh' tk' oI hin hP hJ (fun p hp e => hoff p hp (by rw [e]; exact .head _)) F₁ N₂) (fun f s₂ p => ?_) fun _ _ e => e
    have fin : TbEnd h₀ env.locals (J (i + 1)) [(I, oI)] { s with heap := hh', toks := tk' } s₂ → LoopStepU h₀ env.locals [I] own (J (i + 1)) { s with heap := hh', toks := tk' } .next s₂ := by
      rintro ⟨h', tk, m', news', nx, e, F', N', hn, ho, ha, hm⟩
      refine ⟨rfl, h', tk, m', nx, e, F', fun p hp => ?_, fun p hp hq => ha (I, oI) (.head _) p hp (List.mem_singleton.mp hq).symm, hm⟩
      rcases List.mem_append.mp hp with hp | hp
      · rcases List.mem_cons.mp (hown p hp) with h1 | h1
        · have h2 : hh'.get? p.1 = some p.2 := hget p hp
          rw [h1, hoI] at h2
          have h3 : p = (I, oI) := Prod.ext h1 (Option.some.inj h2).symm
          rw [h3]
          exact N' _ (ho _ (.head _))
        · obtain ⟨q, hq, e1⟩ := List.mem_map.mp h1
          have h2 : hh'.get? p.1 = some p.2 := hget p hp
          have h4 : hh'.get? q.1 = some q.2 := (N₁ q (List.mem_append_right _ (hJf _ _ _ hJ q hq))).1
          rw [← e1, h4] at h2
          have h3 : p = q := Prod.ext e1.symm (Option.some.inj h2).symm
          rw [h3]
          exact N' _ (hn _ (hJf _ _ _ hm q hq))
      · exact N' p (hn p hp)
    cases f with
    | ret v => exact .ret p
    | brk => exact .brk p
    | next => exact .next (fin p)
    | cont => exact .cont (fin p)
  · rintro h' tk m' news' F' N' _ hJ
    exact done m' news' h' tk hJ F' N'

theorem for_list {l : Addr} {vs : List Value} {nn : Nat} {m₀ : Str → Option Value} {news : Led} (J : Nat → (Str → Option Value) → Led → Prop)
    (hh : A.handled = none) (hl : (l, listOf vs.toArray nn) ∈ news) (hJl : ∀ i m nx, J i m nx → (l, listOf vs.toArray nn) ∈ nx) (F : Fr h₀ env.locals s.heap m₀) (N : News h₀ env.locals s.heap news) (hj : J 0 m₀ news)
    (turn : ∀ i v m₁ nx h tk I oI, vs[i]? = some v → J i m₁ nx → (∀ p ∈ nx, p.1 ≠ I) → Fr h₀ env.locals h (fun y => if y = x then some v else m₁ y) → News h₀ env.locals h ((I, oI) :: nx) →
      wpAny (model prog w) A (execs body env) (TbPost h₀ env.locals (J (i + 1)) [(I, oI)] { s with heap := h, toks := tk } Q) E { s with heap := h, toks := tk })
    (done : ∀ m₁ nx h tk, J vs.length m₁ nx → Fr h₀ env.locals h m₁ → News h₀ env.locals h nx → Q .next { s with heap := h, toks := tk }) :
    wpAny (model prog w) A (pyIter (.ref l)) (fun it s₂ => LoopAtV prog w A h₀ env x body Q E it s₂) E s := by
  have hol : s.heap.get? l = some (listOf vs.toArray nn) := (N _ hl).1
  have hls : s.heap.IsList l vs.toArray := ⟨_, hol, rfl, nn, rfl⟩
  have hne : l ≠ s.heap.objs.size := Nat.ne_of_lt (Heap.lt_size hol)
  refine wpAny_pyIter_list hls ?_
  have W := Walks.list (prog := prog) (w := w) hh s.heap.objs.size l hne vs.toArray
  rw [List.size_toArray] at W
  refine for_walks (fix := [(l, listOf vs.toArray nn)]) J W (fun i m nx h p hp => by rw [List.mem_singleton.mp hp]; exact hJl i m nx h) ?_ ?_ (next_is_new F) ?_ ⟨⟨_, Heap.get?_push_size _ rfl, rfl, rfl⟩, hls.at fun o e => Heap.get?_push_of_some _ e⟩ (F.push _)
    (fun p hp => ⟨Heap.get?_push_of_some _ (N p hp).1, (N p hp).2⟩) hj ?_ done
  · exact Nat.ne_of_gt F.ns.lt
  · exact fun p hp => Nat.ne_of_lt (Heap.lt_size (N p hp).1)
  · rintro i h ⟨⟨o, ho, _⟩, _⟩
    exact ⟨o, ho⟩
  · intro i v m₁ nx h tk oI hi hv hJ hn F₁ N₁
    exact turn i v m₁ nx h tk _ oI (by simpa using hv) hJ hn F₁ N₁

theorem for_range {r : Addr} {b₀ : Int} {t₀ u₀ v₀ : Tok} {a₀ : Int} {n : Nat} {m₀ : Str → Option Value} {news : Led} (J : Nat → (Str → Option Value) → Led → Prop)
    (hh : A.handled = none) (hr : IsRange s.heap r a₀ b₀ 1 t₀ u₀ v₀) (hsmall : Builtin.Range.small a₀ b₀ 1 = true) (hn : Builtin.Range.rangeSize a₀ b₀ 1 = (n : Int)) (F : Fr h₀ env.locals s.heap m₀) (N : News h₀ env.locals s.heap news) (hj : J 0 m₀ news)
    (turn : ∀ i t m₁ nx h tk I oI, i < n → J i m₁ nx → (∀ p ∈ nx, p.1 ≠ I) → Fr h₀ env.locals h (fun y => if y = x then some (.int (a₀ + (i : Int)) t) else m₁ y) → News h₀ env.locals h ((I, oI) :: nx) →
      wpAny (model prog w) A (execs body env) (TbPost h₀ env.locals (J (i + 1)) [(I, oI)] { s with heap := h, toks := tk } Q) E { s with heap := h, toks := tk })
    (done : ∀ m₁ nx h tk, J n m₁ nx → Fr h₀ env.locals h m₁ → News h₀ env.locals h nx → Q .next { s with heap := h, toks := tk }) :
    wpAny (model prog w) A (pyIter (.ref r)) (fun it s₂ => LoopAtV prog w A h₀ env x body Q E it s₂) E s := by
  refine wpAny_pyIter_range hr hsmall ?_
  have W : Walks prog w A s.heap.objs.size (s.heap.objs.size :: ([] : Led).map (·.1)) [s.heap.objs.size] n (fun i v => i < n ∧ ∃ t, v = .int (a₀ + i * 1) t)
      (fun i h => IsRangeIter h s.heap.objs.size (a₀ + (i : Nat) * 1) ((n : Int) - (i : Nat)) 1) := (Walks.range hh _ a₀ 1 n).bound
  refine for_walks (fix := []) J W (fun _ _ _ _ _ hp => nomatch hp) ?_ ?_ (next_is_new F) ?_ (by show IsRangeIter _ _ _ _ _; rw [hn]; simpa using Heap.get?_push_size _ rfl) (F.push _) (fun p hp => ⟨Heap.get?_push_of_some _ (N p hp).1, (N p hp).2⟩) hj ?_ done
  · exact Nat.ne_of_gt F.ns.lt
  · exact fun p hp => Nat.ne_of_lt (Heap.lt_size (N p hp).1)
  · intro i h hi
    exact ⟨_, hi⟩
  · rintro i v m₁ nx h tk oI hi ⟨_, t, rfl⟩ hJ hn F₁ N₁
    have e1 : a₀ + (i : Int) * 1 = a₀ + (i : Int) := by omega
    rw [e1] at F₁
    exact turn i t m₁ nx h tk _ oI hi hJ hn F₁ N₁
end
theorem TbEnd.mk {h₀ : Heap} {L : Addr} {J : (Str → Option Value) → Led → Prop} {I : Addr} {oI : Obj} {s₁ : Shared} {h' : Heap} {tk : Nat} {m' : Str → Option Value} {news' : Led} (nx : Led)
    (F : Fr h₀ L h' m') (N : News h₀ L h' news') (hn : ∀ p ∈ nx, p ∈ news') (ho : (I, oI) ∈ news') (ha : ∀ p ∈ nx, p.1 ≠ I) (hj : J m' nx) : TbEnd h₀ L J [(I, oI)] s₁ { s₁ with heap := h', toks := tk } :=
  ⟨h', tk, m', news', nx, rfl, F, N, hn, fun p hp => by rw [List.mem_singleton.mp hp]; exact ho, fun p hp q hq => by rw [List.mem_singleton.mp hp]; exact (ha q hq).symm, hj⟩
/-- a loop's state, told by c -/
def StJ {σ : Type} (Ld : σ → Led) (ps : σ → List (Str × Value)) (x : Str) (stored : List Str) (m₀ : Str → Option Value) (P : Nat → σ → Prop) (i : Nat) (m : Str → Option Value) (nx : Led) : Prop :=
  ∃ c : σ, nx = Ld c ∧ (∀ p ∈ ps c, m p.1 = some p.2) ∧ (∀ z, z ≠ x → (∀ p ∈ ps c, z ≠ p.1) → stored.contains z = false → m z = m₀ z) ∧ P i c
section
variable {prog : Program} {w : World} {A : Around} {E : Value → Shared → Prop} {s : Shared} {env : Env} {h₀ : Heap} {x : Str} {body : List Stmt} {Q : Flow → Shared → Prop}
theorem for_list_st {σ : Type} {l : Addr} {vs : List Value} {nn : Nat} {m₀ : Str → Option Value} (Ld : σ → Led) (ps : σ → List (Str × Value)) (stored : List Str) (P : Nat → σ → Prop) (c₀ : σ)
    (hh : A.handled = none) (hl : ∀ c, (l, listOf vs.toArray nn) ∈ Ld c) (F : Fr h₀ env.locals s.heap m₀) (N : News h₀ env.locals s.heap (Ld c₀)) (hk : ∀ p ∈ ps c₀, m₀ p.1 = some p.2) (hp : P 0 c₀)
    (turn : ∀ (c : σ) i v (u : Str → Option Value) h tk I oI, vs[i]? = some v → P i c → (∀ p ∈ Ld c, p.1 ≠ I) → Fr h₀ env.locals h (fun y => if y = x then some v else kstB (fun z => if stored.contains z then u z else m₀ z) (ps c) y) → News h₀ env.locals h ((I, oI) :: Ld c) →
      wpAny (model prog w) A (execs body env) (TbPost h₀ env.locals (StJ Ld ps x stored m₀ P (i + 1)) [(I, oI)] { s with heap := h, toks := tk } Q) E { s with heap := h, toks := tk })
    (done : ∀ (c : σ) (u : Str → Option Value) h tk, P vs.length c → Fr h₀ env.locals h (fun y => if y = x then u y else kstB (fun z => if stored.contains z then u z else m₀ z) (ps c) y) → News h₀ env.locals h (Ld c) → Q .next { s with heap := h, toks := tk }) :
    wpAny (model prog w) A (pyIter (.ref l)) (fun it s₂ => LoopAtV prog w A h₀ env x body Q E it s₂) E s := by
  refine for_list (StJ Ld ps x stored m₀ P) hh (hl c₀) ?_ F N ⟨c₀, rfl, hk, fun _ _ _ _ => rfl, hp⟩ ?_ ?_
  · rintro i m nx ⟨c, rfl, _⟩
    exact hl c
  · rintro i v m₁ nx h tk I oI hi ⟨c, rfl, h1, h2, hP⟩ hn F₁ N₁
    exact turn c i v m₁ h tk I oI hi hP hn (kst_fr h1 h2 F₁) N₁
  · rintro m₁ nx h tk ⟨c, rfl, h1, h2, hP⟩ F₁ N₁
    exact done c m₁ h tk hP (kst_frOut h1 h2 F₁) N₁
theorem for_range_st {σ : Type} {r : Addr} {b₀ : Int} {t₀ u₀ v₀ : Tok} {a₀ : Int} {n : Nat} {m₀ : Str → Option Value} (Ld : σ → Led) (ps : σ → List (Str × Value)) (stored : List Str) (P : Nat → σ → Prop) (c₀ : σ)
    (hh : A.handled = none) (hr : IsRange s.heap r a₀ b₀ 1 t₀ u₀ v₀) (hsmall : Builtin.Range.small a₀ b₀ 1 = true) (hn : Builtin.Range.rangeSize a₀ b₀ 1 = (n : Int)) (F : Fr h₀ env.locals s.heap m₀) (N : News h₀ env.locals s.heap (Ld c₀)) (hk : ∀ p ∈ ps c₀, m₀ p.1 = some p.2) (hp : P 0 c₀)
    (turn : ∀ (c : σ) i t (u : Str → Option Value) h tk I oI, i < n → P i c → (∀ p ∈ Ld c, p.1 ≠ I) → Fr h₀ env.locals h (fun y => if y = x then some (.int (a₀ + (i : Int)) t) else kstB (fun z => if stored.contains z then u z else m₀ z) (ps c) y) → News h₀ env.locals h ((I, oI) :: Ld c) →
      wpAny (model prog w) A (execs body env) (TbPost h₀ env.locals (StJ Ld ps x stored m₀ P (i + 1)) [(I, oI)] { s with heap := h, toks := tk } Q) E { s with heap := h, toks := tk })
    (done : ∀ (c : σ) (u : Str → Option Value) h tk, P n c → Fr h₀ env.locals h (fun y => if y = x then u y else kstB (fun z => if stored.contains z then u z else m₀ z) (ps c) y) → News h₀ env.locals h (Ld c) → Q .next { s with heap := h, toks := tk }) :
    wpAny (model prog w) A (pyIter (.ref r)) (fun it s₂ => LoopAtV prog w A h₀ env x body Q E it s₂) E s := by
  refine for_range (StJ Ld ps x stored m₀ P) hh hr hsmall hn F N ⟨c₀, rfl, hk, fun _ _ _ _ => rfl, hp⟩ ?_ ?_
  · rintro i t m₁ nx h tk I oI hi ⟨c, rfl, h1, h2, hP⟩ hn F₁ N₁
    exact turn c i t m₁ h tk I oI hi hP hn (kst_fr h1 h2 F₁) N₁
  · rintro m₁ nx h tk ⟨c, rfl, h1, h2, hP⟩ F₁ N₁
    exact done c m₁ h tk hP (kst_frOut h1 h2 F₁) N₁
end
theorem StJ.end {σ : Type} {Ld : σ → Led} {ps : σ → List (Str × Value)} {x : Str} {stored : List Str} {m₀ : Str → Option Value} {P : Nat → σ → Prop} {i : Nat} {h₀ : Heap} {L I : Addr} {oI : Obj} {s₁ : Shared} {h' : Heap} {tk : Nat} {m' : Str → Option Value} {news' : Led} (c : σ)
    (F : Fr h₀ L h' m') (N : News h₀ L h' news') (hn : ∀ p ∈ Ld c, p ∈ news') (ho : (I, oI) ∈ news') (ha : ∀ p ∈ Ld c, p.1 ≠ I) (hk : ∀ p ∈ ps c, m' p.1 = some p.2) (hr : ∀ z, z ≠ x → (∀ p ∈ ps c, z ≠ p.1) → stored.contains z = false → m' z = m₀ z) (hp : P i c) :
    TbEnd h₀ L (StJ Ld ps x stored m₀ P i) [(I, oI)] s₁ { s₁ with heap := h', toks := tk } := TbEnd.mk (Ld c) F N hn ho ha ⟨c, rfl, hk, hr, hp⟩

set_option maxHeartbeats 8000000 in
theorem count_does (w : World) (news : Led) (a : Addr) (vs : List Value) (n : Nat) (ps : List (Bool × Str)) (b d : Addr) (k : Tok) (x : Str) (t : Tok) (hn : (a, listOf vs.toArray n) ∈ news) (hv : Names w news vs ps) (hl : ps.length ≤ 1000)
    (h1 : (b, instObj 173 d) ∈ news) (h2 : (d, qd w k x t) ∈ news) (hne : ∀ v ∈ vs, v ≠ .ref b) :
    Does w 3 100 78 [.ref a, .ref b] [] news (fun r m => m = news ∧ ∃ t, r = .int ((ps.countP (fun p => p.2 == x) : Nat) : Int) t) := by
  unfold Does
  intros; rename_i hret
  rename News _ _ _ _ => N0
  replace N0 := news_more (news_more (news_more N0 hn) (.tail _ h2)) (.tail _ (.tail _ h1))
  have hvl := hv.length
  refine wpAny_call ?_
  k_dflt k_enter
  k_steps
  rename Fr _ _ _ _ => lF
  rename News _ _ _ _ => lN
  with_unfolding_all refine' For_invVF lF ?k1 ?k2 ?_
  case k1 => exact rfl
  case k2 => exact rfl
  k_steps
  obtain ⟨_, et, t1, rfl⟩ := fr_look lF (Str.ofString "count") (fun v => ∃ t, v = .int 0 t) ⟨_, by with_unfolding_all rfl, _, rfl⟩
  refine' for_list_st (σ := Int × Tok) (fun _ => (b, instObj 173 d) :: (d, qd w k x t) :: (a, listOf vs.toArray n) :: news) (fun c => [(Str.ofString "count", .int c.1 c.2)]) [] (fun i c => c.1 = (((ps.take i).countP (fun p => p.2 == x) : Nat) : Int)) (0, t1) rfl (fun _ => .tail _ (.tail _ (.head _))) lF lN ?hk ?hp ?turn ?done
  case hk => exact List.forall_mem_cons.mpr ⟨et, List.forall_mem_nil _⟩
  case hp => rfl
  case turn =>
    clear lF lN et
    rintro ⟨c, tc⟩ i v u h tk I oI hi hP hoff F' N'
    dsimp only at hP
    have hil : i < ps.length := by
      have := (List.getElem?_eq_some_iff.mp hi).1
      omega
    obtain ⟨v', p, hv', hp', hV⟩ := hv.get hil
    obtain rfl : v = v' := Option.some.inj (hi.symm.trans hv')
    have hvb := hne v (List.mem_of_getElem? hi)
    obtain ⟨pb, px⟩ := p
    dsimp only at hV
    have hV0 := hV
    have hsub : ∀ p ∈ news, p ∈ (I, oI) :: (b, instObj 173 d) :: (d, qd w k x t) :: (a, listOf vs.toArray n) :: news := fun p hp => .tail _ (.tail _ (.tail _ (.tail _ hp)))
    have hstep : (((ps.take (i + 1)).countP (fun p => p.2 == x) : Nat) : Int) = c + (if px == x then 1 else 0) := by
      rw [List.take_add_one, hp', List.countP_append, hP]
      simp only [Option.toList, List.countP_cons, List.countP_nil]
      cases px == x <;> simp
    cases hV
    · k_steps
      refine wpAny_is_other (by rfl) (by intro x; cases x) ?_
      k_steps
      refine eq_names (by assumption) (by assumption) (by assumption) (by assumption) (by assumption) rfl (by ktr_room) (by ktr_units) (hV0.mono hsub) (.qn (hsub _ h1) (hsub _ h2)) ?_
      intro h9 tk9 F9 N9
      k_steps
      · rename (_ == _) = true => q
        rw [q] at hstep
        refine StJ.end (c + 1, _) (by assumption) (by assumption) (fun p hp => .tail _ hp) (.head _) hoff (List.forall_mem_cons.mpr ⟨by dsimp only; with_unfolding_all rfl, List.forall_mem_nil _⟩) ?_ hstep.symm
        intro z e0 h2 h3; have e1 := h2 _ (.head _); dsimp only at e1; simp only [kstB, if_neg e0, if_neg e1, h3, Bool.false_eq_true, if_false]
      · rename (_ == _) = false => q
        rw [q] at hstep
        refine StJ.end (c, _) (by assumption) (by assumption) (fun p hp => .tail _ hp) (.head _) hoff (List.forall_mem_cons.mpr ⟨by dsimp only; with_unfolding_all rfl, List.forall_mem_nil _⟩) ?_ (by rw [hstep]; show c = c + 0; omega)
        intro z e0 h2 h3; have e1 := h2 _ (.head _); dsimp only at e1; simp only [kstB, if_neg e0, if_neg e1, h3, Bool.false_eq_true, if_false]
    · rename (_, instObj 173 _) ∈ news => hm1
      k_steps
      refine kto_is (News.get (by assumption) (hsub _ hm1)) (News.get (by assumption) (hsub _ h1)) (fun e => hvb (by rw [e])) (by intro z; cases z) ?_
      k_steps
      refine eq_names (by assumption) (by assumption) (by assumption) (by assumption) (by assumption) rfl (by ktr_room) (by ktr_units) (hV0.mono hsub) (.qn (hsub _ h1) (hsub _ h2)) ?_
      intro h9 tk9 F9 N9
      k_steps
      · rename (_ == _) = true => q
        rw [q] at hstep
        refine StJ.end (c + 1, _) (by assumption) (by assumption) (fun p hp => .tail _ hp) (.head _) hoff (List.forall_mem_cons.mpr ⟨by dsimp only; with_unfolding_all rfl, List.forall_mem_nil _⟩) ?_ hstep.symm
        intro z e0 h2 h3; have e1 := h2 _ (.head _); dsimp only at e1; simp only [kstB, if_neg e0, if_neg e1, h3, Bool.false_eq_true, if_false]
      · rename (_ == _) = false => q
        rw [q] at hstep
        refine StJ.end (c, _) (by assumption) (by assumption) (fun p hp => .tail _ hp) (.head _) hoff (List.forall_mem_cons.mpr ⟨by dsimp only; with_unfolding_all rfl, List.forall_mem_nil _⟩) ?_ (by rw [hstep]; show c = c + 0; omega)
        intro z e0 h2 h3; have e1 := h2 _ (.head _); dsimp only at e1; simp only [kstB, if_neg e0, if_neg e1, h3, Bool.false_eq_true, if_false]
  case done =>
    clear lF lN et
    rintro ⟨c, tc⟩ u h tk hP F' N'
    k_steps
    have e : vs.length = ps.length := hvl
    dsimp only at hP
    rw [e, List.take_length] at hP
    refine hret _ _ _ _ ⟨rfl, tc, by rw [hP]⟩ (by assumption) (news_less (news_less (news_less (by assumption))))

section
variable {prog : Program} {w : World} {A : Around} {E : Value → Shared → Prop} {s : Shared} {h₀ : Heap} {L : Addr} {m : Str → Option Value} {news : Led}
/-- enumerate of a row of the call's own, which the ledger behind it leaves out -/
theorem enum_own {α : Type} {K : ItemKind α} {as : List α} {l : Addr} {vs : List Value} {Q : Value → Shared → Prop} (hh : A.handled = none) (hls : s.heap.IsList l vs.toArray) (hlL : L ≠ l) (hln : ∀ q ∈ news, q.1 ≠ l) (hi : AreOf K vs as)
    (F : Fr h₀ L s.heap m) (N : News h₀ L s.heap news)
    (h : ∀ h' e, Fr h₀ L h' m → News h₀ L h' news → PairSrcL prog w A E h₀ L K as (.ref e) { s with heap := h' } m news → Q (.ref e) { s with heap := h' }) :
    wpAny (model prog w) A (call (.type "enumerate") [.ref l]) Q E s := by
  obtain ⟨ol, hol, _⟩ := id hls
  have hl2 : l < s.heap.objs.size := Heap.lt_size hol
  have hLs : L < s.heap.objs.size := F.ns.lt
  have hab : h₀.objs.size ≤ L := F.above
  refine call_enumerate_list hls fun h' he hit hsz hk => ?_
  have F' : Fr h₀ L h' m := ⟨F.ns.keeps hk, fun b o e => hk b o (F.keep b o e), F.above⟩
  have N' : News h₀ L h' news := fun p hp => ⟨hk _ _ (N p hp).1, (N p hp).2⟩
  refine h h' _ F' N' fun env hL => ?_
  subst hL
  refine enumSrc (Draws.list (A := A.in1) hh s.heap.objs.size l (Nat.ne_of_lt hl2) vs.toArray) he ⟨hit, hls.at fun o e => hk l o e⟩ (Nat.succ_ne_self _) ?_ (by simp) ?_
    (Heap.get?_none_of_le (Nat.le_trans hab (Nat.le_of_lt (Nat.lt_succ_of_lt hLs)))) (Heap.get?_none_of_le (Nat.le_trans hab (Nat.le_of_lt hLs))) ?_ (by simp [hi.length]) (fun i x hx => hi.get i x (by simpa using hx)) F' N'
  · intro hm
    rcases List.mem_cons.mp hm with e | hm
    · exact Nat.succ_ne_self _ e
    · exact Nat.ne_of_gt (Nat.lt_succ_of_lt hl2) (List.mem_singleton.mp hm)
  · intro hm
    rcases List.mem_cons.mp hm with e | hm
    · exact Nat.ne_of_lt (Nat.lt_succ_of_lt hLs) e
    · rcases List.mem_cons.mp hm with e | hm
      · exact Nat.ne_of_lt hLs e
      · exact hlL (List.mem_singleton.mp hm)
  · intro b hb q hq e
    have hq1 : q.1 < s.heap.objs.size := Heap.lt_size (N q hq).1
    rcases List.mem_cons.mp hb with e1 | hb
    · exact Nat.ne_of_gt (Nat.lt_succ_of_lt hq1) (e1.symm.trans e)
    · rcases List.mem_cons.mp hb with e1 | hb
      · exact Nat.ne_of_gt hq1 (e1.symm.trans e)
      · exact hln q hq (e.symm.trans (List.mem_singleton.mp hb))
end
section
variable {prog : Program} {w : World} {A : Around} {E : Value → Shared → Prop} {s : Shared} {env : Env} {h₀ : Heap} {Q : Flow → Shared → Prop}
theorem pair_st {α : Type} {K : ItemKind α} {as : List α} {xv : Value} {m₀ : Str → Option Value} {news : Led} {xi xc : Str} {body : List Stmt} (S : PairSrc prog w A E h₀ env K as xv s m₀ news) (P : Nat → Led → Prop) (h0 : P 0 news)
    (turn : ∀ (i : Nat) a t v nx h tk own, as[i]? = some a → K.is a v → P i nx → nx.map (·.1) = news.map (·.1) → (∀ p ∈ own, ∀ q ∈ news, p.1 ≠ q.1) → Fr h₀ env.locals h (fun y => if y = xc then some v else if y = xi then some (.int i t) else m₀ y) → News h₀ env.locals h (own ++ nx) →
      wpAny (model prog w) A (execs body env) (LoopStep3 h₀ env.locals own nx (fun m' nx' => P (i + 1) nx' ∧ ∀ z, z ≠ xi → z ≠ xc → m' z = m₀ z) { s with heap := h, toks := tk } (fun v s' => Q (.ret v) s') fun s' => Q .next s') E { s with heap := h, toks := tk })
    (done : ∀ (u : Str → Option Value) h tk nx, P as.length nx → Fr h₀ env.locals h (fun y => if y = xc then u y else if y = xi then u y else m₀ y) → News h₀ env.locals h nx → Q .next { s with heap := h, toks := tk }) :
    wpAny (model prog w) A (pyIter xv) (fun it s₂ => PairAt3 prog w A h₀ env xi xc body Q E it s₂) E s := by
  refine S xi xc body Q (fun i m nx => P i nx ∧ ∀ z, z ≠ xi → z ≠ xc → m z = m₀ z) ⟨h0, fun _ _ _ => rfl⟩ ?_ ?_
  · rintro i a t v m₁ nx s₁ own ⟨h, tk, rfl⟩ ha hk ⟨hP, hm⟩ hadr hown F₁ N₁
    refine turn i a t v nx h tk own ha hk hP hadr hown ?_ N₁
    have e : (fun y => if y = xc then some v else if y = xi then some (Value.int i t) else m₀ y) = fun y => if y = xc then some v else if y = xi then some (Value.int i t) else m₁ y := by
      funext y
      by_cases h1 : y = xc
      · simp [h1]
      · by_cases h2 : y = xi
        · simp [h2]
        · simp only [if_neg h1, if_neg h2]; exact (hm y h2 h1).symm
    rw [e]; exact F₁
  · rintro h tk m' nx F' N' hadr ⟨hP, hm⟩
    refine done m' h tk nx hP ?_ N'
    have e : (fun y => if y = xc then m' y else if y = xi then m' y else m₀ y) = m' := by
      funext y
      by_cases h1 : y = xc
      · simp [h1]
      · by_cases h2 : y = xi
        · simp [h2]
        · simp only [if_neg h1, if_neg h2]; exact (hm y h2 h1).symm
    rw [e]; exact F'
end
theorem upd_app {d : Addr} {o o' : Obj} {rest : Led} (h2 : ∀ p ∈ rest, p.1 ≠ d) : ∀ {own : Led}, (∀ p ∈ own, p.1 ≠ d) → Upd d o o' (own ++ (d, o) :: rest) (own ++ (d, o') :: rest)
  | [], _ => .head h2
  | p :: r, h1 => .tail (h1 p (.head _)) (upd_app h2 fun q hq => h1 q (.tail _ hq))
theorem fmod6 (i : Nat) : 0 ≤ Int.fmod (i : Int) 6 ∧ Int.fmod (i : Int) 6 < 6 := by
  rw [Int.fmod_eq_emod_of_nonneg _ (by decide)]; omega
theorem fmodM (x : Int) : 0 ≤ Int.fmod x 1000000 ∧ Int.fmod x 1000000 < 1000000 := by
  rw [Int.fmod_eq_emod_of_nonneg _ (by decide)]; omega
theorem Ints.set {vs : List Value} {ns : List Int} {x : Int} {u : Tok} (h : Ints vs ns) (j : Nat) : Ints (vs.set j (.int x u)) (ns.set j x) := IntsAre.own (ints_set h.are j)
/-- the six cells, behind i numbers -/
def Cells (c : Addr) (news : Led) (i : Nat) (nx : Led) : Prop := ∃ us es n, nx = (c, listOf us.toArray n) :: news ∧ Ints us es ∧ es.length = 6 ∧ ∀ e ∈ es, 0 ≤ e ∧ e ≤ 13 + (i : Int) * 1000000
set_option maxHeartbeats 8000000 in
theorem cells_does {w : World} {mean : ExcName → Option Value} {mg mb : Str → Option Value} {dp un : Nat} {gd : Option (List Code)} {cn : Str} {cs : Scope} {a : Addr} {ccd : Value} {cl : List (Str × Addr)} {outer : List Env} {A₀ : Around} {base h₀ : Heap} {L : Addr} {m : Str → Option Value} {s : Shared} {Q E : Value → Shared → Prop} {news : Led} {l : Addr} {vs : List Value} {ns : List Int}
    (B : Below A₀ base outer h₀) (F : Fr h₀ L s.heap m) (X : (hd.heap_39 w.params).In h₀) (N : News h₀ L s.heap news) (T : Top hd.view_39 lsw mean mg mb h₀) (k : cs.kind = .function) (hdp : dp + 3 < recursionLimit) (hu : un + 60 < cLine)
    (hl : base.IsList l vs.toArray) (hi : IntsAre vs ns) (hn : ns.length ≤ 63)
    (hret : ∀ b us n es h' tk', Ints us es → es.length = 6 → (∀ e ∈ es, 0 ≤ e ∧ e ≤ 100000000) → (∀ p ∈ news, p.1 < b) → Fr h₀ L h' m → News h₀ L h' ((b, listOf us.toArray n) :: news) → Q (.ref b) { s with heap := h', toks := tk' }) :
    wpAny (model PySem.Challenge.rw_wu0066_01.row.prog w) (ktrTop dp un gd cn cs L a ccd cl outer) (call (.ref 184) [.ref l]) Q E s := by
  refine wpAny_call ?_
  k_dflt k_enter
  k_steps
  rename Fr _ _ _ _ => lF
  rename News _ _ _ _ => lN
  with_unfolding_all refine' For_pair3F lF ?hh ?hxi ?hxc ?hp ?_ ?hs ?hE
  case hh => exact rfl
  case hxi => exact rfl
  case hxc => exact rfl
  case hp => exact rfl
  case hs => intro _; with_unfolding_all rfl
  case hE => first | passes_own | with_unfolding_all passes_own
  k_steps
  rename _ ∧ AllLt _ news => l1
  rename News _ _ _ _ => N1
  have hI := (by assumption : IntsAre _ (List.take 60 ns))
  have hlen : (ns.take 60).length ≤ 60 := by rw [List.length_take]; omega
  refine enum_own rfl (N1.isList (.head _)) (N1 _ (.head _)).2.1.symm ?_ (IntsAre.areOf hI) (by assumption) (news_less N1) ?_
  · intro q hq
    rcases List.mem_cons.mp hq with rfl | hq
    · exact Nat.ne_of_lt l1.1
    · exact Nat.ne_of_lt (kst_ltOf l1.2 q hq)
  intro h8 e8 F8 N8 S8
  have hI0 := (by assumption : ∀ p ∈ news, p.1 < _)
  clear N1 l1
  k_steps
  refine pair_st (PairSrcL.at S8 _ rfl) (Cells _ news) ⟨_, [1, 0, 4, 1, 9, 13], 0, rfl, .cons (.cons (.cons (.cons (.cons (.cons .nil))))), rfl, by decide⟩ ?_ ?_
  · rintro i x t v nx h tk own hx ⟨tx, rfl⟩ ⟨us, es, n, rfl, hU, hlen6, hb⟩ hadr hown F7 N7
    clear S8 N8 F8
    have hm6 := fmod6 i
    have hmM := fmodM x
    k_steps
    refine ksa_get (by assumption) (List.mem_append_right _ (.head _)) hU.are hm6.1 (by rw [hlen6]; exact hm6.2) (by omega) ?_
    intro t9
    k_steps
    refine ksa_set (by assumption) (by assumption) (upd_app (fun p hp => Nat.ne_of_lt (hI0 p hp)) (fun p hp => hown p hp _ (.head _))) hU.are hm6.1 (by rw [hlen6]; exact hm6.2) (by omega) ?_
    intro h9 F9 N9 _ _ _
    k_steps
    refine LoopStep2.intro F9 N9 rfl ⟨⟨_, _, _, rfl, hU.set _, by rw [List.length_set]; exact hlen6, ?_⟩, ?_⟩
    · intro e he
      rcases List.mem_or_eq_of_mem_set he with he | rfl
      · have := hb e he
        omega
      · have hg : es.getD (Int.fmod (i : Int) 6).toNat 0 ∈ es := by
          have hlt : (Int.fmod (i : Int) 6).toNat < es.length := by omega
          rw [List.getD_eq_getElem?_getD, List.getElem?_eq_getElem hlt]
          exact List.getElem_mem hlt
        have := hb _ hg
        omega
    · intro z h1 h2
      simp [h1, h2]
  · rintro u h tk nx ⟨us, es, n, rfl, hU, hlen6, hb⟩ F7 N7
    clear S8 N8 F8
    k_steps
    refine hret _ _ _ _ _ _ hU hlen6 (fun e he => ?_) hI0 (by assumption) (by assumption)
    have := hb e he
    omega

/-- a sign's number: a ~ or a bar -/
def cd (b : Bool) : Nat := if b then 126 else 124
def wordS (w : List Bool) : Str := ⟨(w.map cd).toArray⟩
def nameS (w : List Bool) (tag : Str) : Str := ⟨(123 :: (w.map cd ++ 125 :: tag.cps.toList)).toArray⟩
theorem name_is (w : List Bool) (tag : Str) : Str.ofString "{" ++ wordS w ++ Str.ofString "}" ++ tag = nameS w tag := by
  have e1 : Str.ofString "{" = ⟨#[123]⟩ := by decide +kernel
  have e2 : Str.ofString "}" = ⟨#[125]⟩ := by decide +kernel
  rw [e1, e2]
  refine PySem.Str.ext' (Array.toList_inj.mp ?_)
  simp only [PySem.Str.cps_append, Array.toList_append]
  simp [wordS, nameS]
theorem wordS_nil : wordS [] = Str.empty := rfl
theorem wordS_length (w : List Bool) : (wordS w).length = w.length := by simp [wordS, PySem.Str.length]
theorem wordS_snoc (w : List Bool) (b : Bool) : wordS w ++ (⟨#[cd b]⟩ : Str) = wordS (w ++ [b]) := by
  refine PySem.Str.ext' (Array.toList_inj.mp ?_)
  simp only [PySem.Str.cps_append, Array.toList_append]
  simp [wordS]
theorem wordS_ok (w : List Bool) : OkS (wordS w) := by
  unfold OkS PyData.strOk wordS
  simp only [List.all_toArray, List.all_map, List.all_eq_true]
  intro b _
  cases b <;> rfl
theorem nameS_ok (w : List Bool) {tag : Str} (h : OkS tag) : OkS (nameS w tag) := by
  unfold OkS PyData.strOk at h ⊢
  unfold nameS
  have h' : tag.cps.toList.all (fun x => decide (x < 0x110000)) = true := by rw [Array.all_toList]; exact h
  simp only [List.all_toArray, List.all_cons, List.all_append, List.all_map, Bool.and_eq_true]
  refine ⟨by decide, ?_, by decide, h'⟩
  simp only [List.all_eq_true]
  intro b _
  cases b <;> rfl

/-- the number of a word -/
def stB (p : Int × Int) (b : Bool) : Int × Int := (p.1 + (if b then p.2 else -p.2), Int.fdiv p.2 2)
def num (w : List Bool) : Int := (w.foldl stB (32, 16)).1
theorem num_is (w : List Bool) : numberOf (wordS w) = num w := by
  unfold numberOf num
  have e : KStt.codes (wordS w) = w.map (fun b => ((cd b : Nat) : Int)) := by simp [KStt.codes, wordS]
  rw [e, List.foldl_map]
  congr 2
  funext p b
  cases b <;> rfl

/-- the order of names, of words -/
def ltIn : List Bool → List Bool → Bool
  | [], [] => false
  | [], b :: _ => b
  | a :: _, [] => !a
  | a :: r, b :: t => if a = b then ltIn r t else b
def ltPre : List Bool → List Bool → Bool
  | [], [] => false
  | [], _ :: _ => true
  | _ :: _, [] => false
  | a :: r, b :: t => if a = b then ltPre r t else b
theorem ltPre_is : ∀ a b : List Bool, decide (a.map cd < b.map cd) = ltPre a b
  | [], [] => by simp [ltPre]
  | [], _ :: _ => by simp [ltPre]
  | _ :: _, [] => by simp [ltPre]
  | a :: r, b :: t => by
    have ih := ltPre_is r t
    simp only [List.map_cons, List.cons_lt_cons_iff]
    cases a <;> cases b <;> simp [ltPre, cd, ← ih]
theorem ltS_word (a b : List Bool) : ltS (wordS a) (wordS b) = ltPre a b := by
  rw [← ltPre_is]; rfl
theorem lt_self : ∀ l : List Nat, ¬ l < l := fun l => List.lt_irrefl l
theorem ltIn_is (tg : List Nat) : ∀ a b : List Bool, decide (a.map cd ++ 125 :: tg < b.map cd ++ 125 :: tg) = ltIn a b
  | [], [] => by simp [ltIn, List.lt_irrefl]
  | [], b :: _ => by
    simp only [List.map_nil, List.nil_append, List.map_cons, List.cons_append, List.cons_lt_cons_iff]
    cases b <;> simp [ltIn, cd]
  | a :: _, [] => by
    simp only [List.map_nil, List.nil_append, List.map_cons, List.cons_append, List.cons_lt_cons_iff]
    cases a <;> simp [ltIn, cd]
  | a :: r, b :: t => by
    have ih := ltIn_is tg r t
    simp only [List.map_cons, List.cons_append, List.cons_lt_cons_iff]
    cases a <;> cases b <;> simp [ltIn, cd, ← ih]
theorem ltS_name (a b : List Bool) (tag : Str) : ltS (nameS a tag) (nameS b tag) = ltIn a b := by
  rw [← ltIn_is tag.cps.toList]
  show decide (123 :: (a.map cd ++ 125 :: tag.cps.toList) < 123 :: (b.map cd ++ 125 :: tag.cps.toList)) = _
  simp only [List.cons_lt_cons_iff]
  simp
theorem cd_inj : ∀ {a b : List Bool}, a.map cd = b.map cd → a = b
  | [], [], _ => rfl
  | a :: r, b :: t, h => by
    simp only [List.map_cons, List.cons.injEq] at h
    rw [cd_inj h.2]
    congr 1
    cases a <;> cases b <;> simp [cd] at h ⊢
theorem nameS_inj {a b : List Bool} {tag : Str} (h : nameS a tag = nameS b tag) : a = b := by
  unfold nameS at h
  injection h with h
  have h' := congrArg Array.toList h
  simp only [List.cons.injEq, true_and, List.append_cancel_right_eq] at h'
  exact cd_inj h'
def wordB (wb : List (List Bool)) (i j : Int) : List Bool :=
  if wb = [] then []
  else if j < 0 ∨ (0 ≤ i ∧ (wb.getD i.toNat []).length > (wb.getD j.toNat []).length) then wb.getD i.toNat [] ++ [true]
  else wb.getD j.toNat [] ++ [false]
theorem getD_words (wb : List (List Bool)) (k : Nat) : (wb.map wordS).getD k Str.empty = wordS (wb.getD k []) := by
  rw [List.getD_eq_getElem?_getD, List.getD_eq_getElem?_getD, List.getElem?_map]
  cases wb[k]? <;> rfl
theorem wordOf_is (wb : List (List Bool)) (i j : Int) : wordOf (wb.map wordS) i j = wordS (wordB wb i j) := by
  have e1 : Str.ofString "~" = ⟨#[cd true]⟩ := by decide +kernel
  have e2 : Str.ofString "|" = ⟨#[cd false]⟩ := by decide +kernel
  unfold wordOf wordB
  simp only [getD_words, wordS_length, List.map_eq_nil_iff]
  split
  · rfl
  · split
    · rw [e1, wordS_snoc]
    · rw [e2, wordS_snoc]

/-- what two words begin with -/
def cpreB : List Bool → List Bool → List Bool
  | a :: r, b :: t => if a = b then a :: cpreB r t else []
  | _, _ => []
theorem cpre_map : ∀ a b : List Bool, cpre (a.map cd) (b.map cd) = (cpreB a b).map cd
  | [], [] => rfl
  | [], _ :: _ => rfl
  | _ :: _, [] => rfl
  | a :: r, b :: t => by
    have ih := cpre_map r t
    simp only [List.map_cons, cpre, cpreB]
    cases a <;> cases b <;> simp [cd, ih]
theorem shared_is (a b : List Bool) : sharedOf (wordS a) (wordS b) = wordS (cpreB a b) := by
  unfold sharedOf wordS
  rw [← cpre_map]

def lowF : Nat → Int → Int → Int
  | 0, _, n => n
  | f + 1, low, n => if lessOf n < low then n else lowF f low (lessOf n)
theorem low_is {low n r : Int} (h : Low low n r) : 1 ≤ low → 0 ≤ n → n ≤ 64 → ∀ f, n.toNat ≤ f → lowF f low n = r := by
  induction h with
  | @stop n hs =>
    intro h1 h2 h3 f hf
    cases f with
    | zero => rfl
    | succ f => simp [lowF, hs]
  | @step n r hs _ ih =>
    intro h1 h2 h3 f hf
    have hz : lessOf 0 = 0 := by decide
    have hn : 1 ≤ n := by
      by_cases h : n = 0
      · subst h
        exact absurd (by rw [hz]; omega) hs
      · omega
    have hd := less_down hn h3
    cases f with
    | zero => omega
    | succ f =>
      simp only [lowF, if_neg hs]
      exact ih h1 hd.1 (by omega) f (by omega)

def minL : List Int → Int
  | [] => 0
  | [a] => a
  | a :: r => if a ≤ minL r then a else minL r
theorem minL_le : ∀ {ns : List Int} {a : Int}, a ∈ ns → minL ns ≤ a
  | [b], a, h => by rw [List.mem_singleton.mp h]; exact Int.le_refl _
  | b :: c :: r, a, h => by
    have ih : ∀ {a : Int}, a ∈ c :: r → minL (c :: r) ≤ a := fun h => minL_le h
    rw [minL]
    rcases List.mem_cons.mp h with rfl | h
    · split <;> omega
    · have := ih h
      split <;> omega
    · simp
theorem minL_mem : ∀ {ns : List Int}, ns ≠ [] → minL ns ∈ ns
  | [b], _ => .head _
  | b :: c :: r, _ => by
    have ih : minL (c :: r) ∈ c :: r := minL_mem (by simp)
    rw [minL]
    · split
      · exact .head _
      · exact .tail _ ih
    · simp
theorem minL_is {ns : List Int} {M : Int} (h : M ∈ ns) (hle : ∀ a ∈ ns, M ≤ a) : minL ns = M :=
  Int.le_antisymm (minL_le h) (hle _ (minL_mem (List.ne_nil_of_mem h)))
def walkF : Nat → List Int → List Int
  | 0, _ => []
  | f + 1, ns => if ns = [] then [] else minL ns :: walkF f (ns.take (ns.idxOf (minL ns))) ++ walkF f (ns.drop (ns.idxOf (minL ns) + 1))
theorem walk_is {ns rs : List Int} (h : Walk ns rs) : ∀ f, ns.length ≤ f → walkF f ns = rs := by
  induction h with
  | nil => intro f _; cases f <;> simp [walkF]
  | @node ns l r M hM hle _ _ il ir =>
    intro f hf
    have hi : ns.idxOf M < ns.length := List.idxOf_lt_length_iff.mpr hM
    cases f with
    | zero => omega
    | succ f =>
      rw [walkF, if_neg (List.ne_nil_of_mem hM), minL_is hM hle, il f (by rw [List.length_take]; omega), ir f (by rw [List.length_drop]; omega)]

abbrev PSt := List Nat × List (List Bool)
def wdN (wb : List (List Bool)) (t : Nat) : List Bool := wb.getD t []
/-- who stands ahead of a place, who behind -/
def pa (line : List Nat) (p : Nat) : Nat := line.getD (p - 1) 0
def pb (line : List Nat) (p : Nat) : Nat := line.getD p 0
def newW (st : PSt) (p : Nat) : List Bool :=
  match st.2 with
  | [] => []
  | _ :: _ =>
    if p < st.1.length then
      (if 0 < p then (if (wdN st.2 (pb st.1 p)).length < (wdN st.2 (pa st.1 p)).length then wdN st.2 (pa st.1 p) ++ [true] else wdN st.2 (pb st.1 p) ++ [false])
       else wdN st.2 (pb st.1 p) ++ [false])
    else wdN st.2 (pa st.1 p) ++ [true]
def stepP (st : PSt) (p : Nat) : PSt := (st.1.take p ++ st.2.length :: st.1.drop p, st.2 ++ [newW st p])
/-- all states behind i comings -/
def reach : Nat → List PSt
  | 0 => [([], [])]
  | i + 1 => (reach i).flatMap fun st => (List.range (i + 1)).map (stepP st)
def minN : List Nat → Nat
  | [] => 0
  | [a] => a
  | a :: r => if a ≤ minN r then a else minN r
def walkN : Nat → List Nat → List Nat
  | 0, _ => []
  | f + 1, ns => if ns = [] then [] else minN ns :: walkN f (ns.take (ns.idxOf (minN ns))) ++ walkN f (ns.drop (ns.idxOf (minN ns) + 1))
def nameRow (st : PSt) : List (List Bool) := st.1.map (wdN st.2)
def bareRow (st : PSt) : List (List Bool) := (walkN 6 st.1).map (wdN st.2)
/-- the number of a word, in Nat -/
def numN (w : List Bool) : Nat := (w.foldl (fun (p : Nat × Nat) b => (if b then p.1 + p.2 else p.1 - p.2, p.2 / 2)) (32, 16)).1
def ltNum (a b : List Bool) : Bool := Nat.blt (numN a) (numN b)
/-- the second word is the first one, the sign b, and behind it the other sign alone -/
def extB (b : Bool) : List Bool → List Bool → Bool
  | [], c :: r => c == b && r.all (fun x => x == !b)
  | a :: u, c :: v => a == c && extB b u v
  | _, [] => false
/-- the words of two neighbours -/
def adjB (u v : List Bool) : Bool := extB true u v || extB false v u
/-- the word of who comes between -/
def nw (u v : List Bool) : List Bool := if v.length < u.length then u ++ [true] else v ++ [false]
/-- what is left of n, taken down by its lowest binary one as long as it is not less than low -/
def lowN : Nat → Nat → Nat → Nat
  | 0, _, n => n
  | f + 1, low, n => if Nat.blt (n &&& (n - 1)) low then n else lowN f low (n &&& (n - 1))
/-- all words of up to n signs -/
def wordsOf : Nat → List (List Bool)
  | 0 => [[]]
  | n + 1 => [] :: (wordsOf n).flatMap fun w => [false :: w, true :: w]
theorem mem_words : ∀ {n : Nat} {w : List Bool}, w.length ≤ n → w ∈ wordsOf n
  | 0, w, h => by
    have : w = [] := List.length_eq_zero_iff.mp (by omega)
    subst this; exact .head _
  | n + 1, [], _ => .head _
  | n + 1, b :: r, h => by
    refine .tail _ (List.mem_flatMap.mpr ⟨r, mem_words (by simpa using h), ?_⟩)
    cases b
    · exact .head _
    · exact .tail _ (.head _)
set_option maxHeartbeats 8000000 in
theorem order_ok : ((wordsOf 5).all fun u => (wordsOf 5).all fun v => !ltIn u v || ltNum u v) = true := by decide +kernel
set_option maxHeartbeats 8000000 in
theorem adj_ok : ((wordsOf 4).all fun u => (wordsOf 4).all fun v => !adjB u v || (adjB u (nw u v) && adjB (nw u v) v && Nat.beq ((numN u + numN v) / 2) (numN (nw u v)))) = true := by decide +kernel
theorem fst_ok : ((wordsOf 4).all fun v => !v.all (fun x => !x) || Nat.beq ((0 + numN v) / 2) (numN (v ++ [false]))) = true := by decide +kernel
theorem lst_ok : ((wordsOf 4).all fun u => !u.all (fun x => x) || Nat.beq ((numN u + 64) / 2) (numN (u ++ [true]))) = true := by decide +kernel
set_option maxHeartbeats 8000000 in
theorem lows_ok : ((wordsOf 5).all fun u => (wordsOf 5).all fun v => Nat.blt (numN v) (numN u) || Nat.beq (lowN 64 (numN u) (numN v)) (numN (cpreB u v))) = true := by decide +kernel
set_option maxHeartbeats 8000000 in
theorem bounds_ok : ((wordsOf 5).all fun w => Nat.ble 1 (numN w) && Nat.ble (numN w) 64) = true := by decide +kernel
theorem less_tableN : ∀ n : Fin 65, 0 < n.val → lessOf (n.val : Int) = ((n.val &&& (n.val - 1) : Nat) : Int) := by decide +kernel

def zi (l : List Nat) : List Int := l.map fun (n : Nat) => (n : Int)
def fallRow (st : PSt) : List Int := st.1.reverse.map fun t => num (wdN st.2 t)
def rowT (st : PSt) (tag : Str) : List Str := (nameRow st).map fun w => nameS w tag
def ahd (line : List Nat) (p : Nat) : Int := if 0 < p then ((pa line p : Nat) : Int) else -1
def bhd (line : List Nat) (p : Nat) : Int := if p < line.length then ((pb line p : Nat) : Int) else -1
theorem getD_map {α β : Type} (f : α → β) (l : List α) (i : Nat) (d : α) (e : β) (h : i < l.length) : (l.map f).getD i e = f (l.getD i d) := by
  rw [List.getD_eq_getElem?_getD, List.getElem?_map, List.getElem?_eq_getElem h, List.getD_eq_getElem?_getD, List.getElem?_eq_getElem h]
  rfl
theorem getD_mem {α : Type} (l : List α) (i : Nat) (d : α) (h : i < l.length) : l.getD i d ∈ l := by
  rw [List.getD_eq_getElem?_getD, List.getElem?_eq_getElem h]
  exact List.getElem_mem _
theorem wdN_old {wb : List (List Bool)} {w : List Bool} {t : Nat} (h : t < wb.length) : wdN (wb ++ [w]) t = wdN wb t := by
  unfold wdN
  rw [List.getD_eq_getElem?_getD, List.getD_eq_getElem?_getD, List.getElem?_append_left h]
theorem wdN_new {wb : List (List Bool)} {w : List Bool} : wdN (wb ++ [w]) wb.length = w := by
  unfold wdN
  rw [List.getD_eq_getElem?_getD, List.getElem?_append_right (Nat.le_refl _)]
  simp
theorem wdN_len {wb : List (List Bool)} {n : Nat} (h : ∀ w ∈ wb, w.length + 1 ≤ n) (k : Nat) : (wdN wb k).length ≤ n - 1 := by
  unfold wdN
  rw [List.getD_eq_getElem?_getD]
  cases e : wb[k]? with
  | none => simp
  | some w => have := h w (List.mem_of_getElem? e); simp; omega
theorem newW_le {st : PSt} {p n : Nat} (h : ∀ w ∈ st.2, w.length + 1 ≤ n) : (newW st p).length ≤ n := by
  obtain ⟨line, wb⟩ := st
  dsimp only at h
  unfold newW
  cases wb with
  | nil => simp
  | cons w0 r =>
    have h0 := h w0 (.head _)
    have h1 := wdN_len h (pa line p)
    have h2 := wdN_len h (pb line p)
    dsimp only
    split
    · split
      · split
        · simp; omega
        · simp; omega
      · simp; omega
    · simp; omega
structure ReachP (i : Nat) (st : PSt) : Prop where
  l1 : st.1.length = i
  l2 : st.2.length = i
  lt : ∀ t ∈ st.1, t < i
  nd : st.1.Nodup
  wl : ∀ w ∈ st.2, w.length + 1 ≤ i
theorem ins_perm {α : Type} (l : List α) (p : Nat) (x : α) : (l.take p ++ x :: l.drop p).Perm (x :: l) := by
  have := List.perm_middle (a := x) (l₁ := l.take p) (l₂ := l.drop p)
  rwa [List.take_append_drop] at this
theorem reach_P : ∀ {i : Nat} {st : PSt}, st ∈ reach i → ReachP i st
  | 0, st, h => by
    rw [reach, List.mem_singleton] at h
    subst h
    exact ⟨rfl, rfl, by simp, by simp, by simp⟩
  | i + 1, st, h => by
    obtain ⟨st0, h0, h1⟩ := List.mem_flatMap.mp h
    obtain ⟨p, hp, rfl⟩ := List.mem_map.mp h1
    have P := reach_P h0
    have pm := ins_perm st0.1 p st0.2.length
    refine ⟨?_, ?_, ?_, ?_, ?_⟩
    · show (_ ++ _ :: _).length = _
      rw [pm.length_eq]; simp [P.l1]
    · show (st0.2 ++ [_]).length = _
      simp [P.l2]
    · intro t ht
      rcases List.mem_cons.mp (pm.mem_iff.mp ht) with rfl | ht
      · rw [P.l2]; omega
      · have := P.lt t ht; omega
    · show (_ ++ _ :: _).Nodup
      rw [pm.nodup_iff, List.nodup_cons]
      exact ⟨fun hm => by have := P.lt _ hm; rw [P.l2] at this; omega, P.nd⟩
    · intro w hw
      rcases List.mem_append.mp hw with hw | hw
      · have := P.wl w hw; omega
      · rw [List.mem_singleton.mp hw]; have := newW_le (p := p) P.wl; omega
theorem ltIn_irrefl (a : List Bool) : ltIn a a = false := by
  rw [← ltIn_is []]; exact decide_eq_false (List.lt_irrefl _)
theorem ltIn_trans {a b c : List Bool} (h1 : ltIn a b = true) (h2 : ltIn b c = true) : ltIn a c = true := by
  rw [← ltIn_is []] at *
  exact decide_eq_true (List.lt_trans (of_decide_eq_true h1) (of_decide_eq_true h2))
theorem ltIn_asymm {a b : List Bool} (h : ltIn a b = true) : ltIn b a = false := by
  rw [← ltIn_is []] at *
  exact decide_eq_false (List.lt_asymm (of_decide_eq_true h))
theorem ltPre_trans {a b c : List Bool} (h1 : ltPre a b = true) (h2 : ltPre b c = true) : ltPre a c = true := by
  rw [← ltPre_is] at *
  exact decide_eq_true (List.lt_trans (of_decide_eq_true h1) (of_decide_eq_true h2))
theorem ltPre_asymm {a b : List Bool} (h : ltPre a b = true) : ltPre b a = false := by
  rw [← ltPre_is] at *
  exact decide_eq_false (List.lt_asymm (of_decide_eq_true h))
theorem ltNum_is (a b : List Bool) : ltNum a b = decide (numN a < numN b) := by
  rw [Bool.eq_iff_iff, decide_eq_true_iff]
  show Nat.blt _ _ = true ↔ _
  rw [Nat.blt_eq]
theorem ltNum_trans {a b c : List Bool} (h1 : ltNum a b = true) (h2 : ltNum b c = true) : ltNum a c = true := by
  rw [ltNum_is] at *
  exact decide_eq_true (Nat.lt_trans (of_decide_eq_true h1) (of_decide_eq_true h2))
theorem ltNum_asymm {a b : List Bool} (h : ltNum a b = true) : ltNum b a = false := by
  rw [ltNum_is] at *
  exact decide_eq_false (Nat.lt_asymm (of_decide_eq_true h))
theorem pair_getD {R : List Bool → List Bool → Prop} {l : List (List Bool)} (h : l.Pairwise R) {a b : Nat} (hab : a < b) (hb : b < l.length) : R (l.getD a []) (l.getD b []) := by
  rw [List.getD_eq_getElem?_getD, List.getD_eq_getElem?_getD, List.getElem?_eq_getElem (by omega : a < l.length), List.getElem?_eq_getElem hb]
  exact List.pairwise_iff_getElem.mp h a b (by omega) hb hab
/-- where the newcomer stands, all ahead are less, all behind are more -/
theorem ins_place {lt : List Bool → List Bool → Bool} (as : ∀ {a b}, lt a b = true → lt b a = false) {r : List (List Bool)} {w : List Bool} {k : Nat} (hp : (r.take k ++ w :: r.drop k).Pairwise (fun a b => lt a b = true)) {j : Nat} (hj : j < r.length) :
    lt (r.getD j []) w = decide (j < k) ∧ (!lt w (r.getD j [])) = decide (j < k) := by
  obtain ⟨_, h2, h3⟩ := List.pairwise_append.mp hp
  have e : r.getD j [] = r[j] := by rw [List.getD_eq_getElem?_getD, List.getElem?_eq_getElem hj]; rfl
  rw [e]
  by_cases h : j < k
  · have hm : r[j] ∈ r.take k := List.mem_take_iff_getElem.mpr ⟨j, by omega, rfl⟩
    have := h3 _ hm _ (.head _)
    rw [this, as this, decide_eq_true h]; exact ⟨rfl, rfl⟩
  · have hm : r[j] ∈ r.drop k := List.mem_drop_iff_getElem.mpr ⟨j - k, by omega, by congr 1; omega⟩
    have := List.rel_of_pairwise_cons h2 hm
    rw [this, as this, decide_eq_false h]; exact ⟨rfl, rfl⟩
theorem nameRow_len (st : PSt) : (nameRow st).length = st.1.length := by simp [nameRow]
theorem nameRow_step {i p : Nat} {st : PSt} (h : st ∈ reach i) : nameRow (stepP st p) = (nameRow st).take p ++ newW st p :: (nameRow st).drop p := by
  have P := reach_P h
  have e : st.1.map (wdN (st.2 ++ [newW st p])) = st.1.map (wdN st.2) := List.map_congr_left fun t ht => wdN_old (by rw [P.l2]; exact P.lt t ht)
  unfold nameRow stepP
  simp only [List.map_append, List.map_cons, List.map_take, List.map_drop, wdN_new, e]
theorem row_at (st : PSt) {x : Nat} (h : x < st.1.length) : (nameRow st).getD x [] = wdN st.2 (st.1.getD x 0) := getD_map _ _ _ 0 _ h
theorem extB_pre {b : Bool} : ∀ {u v : List Bool}, extB b u v = true → (u ++ [b]) <+: v
  | [], c :: r, h => by
    simp only [extB, Bool.and_eq_true, beq_iff_eq] at h
    exact ⟨r, by rw [h.1]; rfl⟩
  | a :: u, c :: v, h => by
    simp only [extB, Bool.and_eq_true, beq_iff_eq] at h
    obtain ⟨r, e⟩ := extB_pre h.2
    exact ⟨r, by rw [h.1, ← e]; rfl⟩
  | [], [], h => by simp [extB] at h
  | a :: u, [], h => by simp [extB] at h
theorem ltIn_app : ∀ (w x y : List Bool), ltIn (w ++ x) (w ++ y) = ltIn x y
  | [], _, _ => rfl
  | a :: w, x, y => by simp [ltIn, ltIn_app w x y]
theorem ltPre_app : ∀ (w x y : List Bool), ltPre (w ++ x) (w ++ y) = ltPre x y
  | [], _, _ => rfl
  | a :: w, x, y => by simp [ltPre, ltPre_app w x y]
theorem cpreB_app : ∀ (w x y : List Bool), cpreB (w ++ x) (w ++ y) = w ++ cpreB x y
  | [], _, _ => rfl
  | a :: w, x, y => by simp [cpreB, cpreB_app w x y]
theorem up_in {u v : List Bool} (h : (u ++ [true]) <+: v) : ltIn u v = true := by
  obtain ⟨r, rfl⟩ := h
  have := ltIn_app u [] (true :: r)
  simp only [List.append_nil] at this
  rw [List.append_assoc]
  exact this
theorem dn_in {u v : List Bool} (h : (v ++ [false]) <+: u) : ltIn u v = true := by
  obtain ⟨r, rfl⟩ := h
  have := ltIn_app v (false :: r) []
  simp only [List.append_nil] at this
  rw [List.append_assoc]
  exact this
theorem adj_in {u v : List Bool} (h : adjB u v = true) : ltIn u v = true := by
  rcases Bool.or_eq_true_iff.mp h with h | h
  · exact up_in (extB_pre h)
  · exact dn_in (extB_pre h)
theorem pre_pre {b : Bool} {u v : List Bool} (h : (u ++ [b]) <+: v) : ltPre u v = true := by
  obtain ⟨r, rfl⟩ := h
  have := ltPre_app u [] (b :: r)
  simp only [List.append_nil] at this
  rw [List.append_assoc]
  exact this
theorem fork_pre {w u v : List Bool} (h : (w ++ [false]) <+: u) (h' : (w ++ [true]) <+: v) : ltPre u v = true := by
  obtain ⟨r, rfl⟩ := h
  obtain ⟨s, rfl⟩ := h'
  rw [List.append_assoc, List.append_assoc]
  exact ltPre_app w (false :: r) (true :: s)
theorem cpre_tree {w u v : List Bool} (h : u = w ∨ (w ++ [false]) <+: u) (h' : v = w ∨ (w ++ [true]) <+: v) : cpreB u v = w := by
  have key : ∀ x y : List Bool, (x = [] ∨ ∃ r, x = false :: r) → (y = [] ∨ ∃ r, y = true :: r) → cpreB (w ++ x) (w ++ y) = w := by
    intro x y hx hy
    rw [cpreB_app]
    rcases hx with rfl | ⟨r, rfl⟩
    · rcases hy with rfl | ⟨s, rfl⟩ <;> simp [cpreB]
    · rcases hy with rfl | ⟨s, rfl⟩ <;> simp [cpreB]
  rcases h with rfl | ⟨r, rfl⟩
  · rcases h' with rfl | ⟨s, rfl⟩
    · simpa using key [] [] (.inl rfl) (.inl rfl)
    · rw [List.append_assoc]; simpa using key [] (true :: s) (.inl rfl) (.inr ⟨s, rfl⟩)
  · rcases h' with rfl | ⟨s, rfl⟩
    · rw [List.append_assoc]; simpa using key (false :: r) [] (.inr ⟨r, rfl⟩) (.inl rfl)
    · rw [List.append_assoc, List.append_assoc]; exact key (false :: r) (true :: s) (.inr ⟨r, rfl⟩) (.inr ⟨s, rfl⟩)
theorem pre_trans {b : Bool} {u v w : List Bool} (h : (u ++ [b]) <+: v) (h' : v <+: w) : (u ++ [b]) <+: w := List.IsPrefix.trans h h'
theorem pre_base {b : Bool} {u v : List Bool} (h : (u ++ [b]) <+: v) : u <+: v := List.IsPrefix.trans (List.prefix_append u [b]) h
theorem nw_pre {u v : List Bool} (h : adjB u v = true) : (u ++ [true]) <+: nw u v ∧ (v ++ [false]) <+: nw u v := by
  have hl : ∀ {b : Bool} {x y : List Bool}, (x ++ [b]) <+: y → x.length < y.length := by
    intro b x y h
    have := h.length_le
    simp at this
    omega
  rcases Bool.or_eq_true_iff.mp h with h | h
  · have hp := extB_pre h
    have := hl hp
    rw [nw, if_neg (by omega)]
    exact ⟨hp.trans (List.prefix_append _ _), List.prefix_refl _⟩
  · have hp := extB_pre h
    have := hl hp
    rw [nw, if_pos (by omega)]
    exact ⟨List.prefix_refl _, hp.trans (List.prefix_append _ _)⟩
theorem adj_snoc : ∀ u : List Bool, adjB u (u ++ [true]) = true := by
  have : ∀ u : List Bool, extB true u (u ++ [true]) = true := fun u => by
    induction u with
    | nil => rfl
    | cons a u ih => simp [extB, ih]
  intro u
  rw [adjB, this u]; rfl
theorem snoc_adj : ∀ v : List Bool, adjB (v ++ [false]) v = true := by
  have : ∀ u : List Bool, extB false u (u ++ [false]) = true := fun u => by
    induction u with
    | nil => rfl
    | cons a u ih => simp [extB, ih]
  intro v
  rw [adjB, this v, Bool.or_true]
theorem adj_new {u v : List Bool} (h1 : u.length ≤ 4) (h2 : v.length ≤ 4) (h : adjB u v = true) : adjB u (nw u v) = true ∧ adjB (nw u v) v = true ∧ (numN u + numN v) / 2 = numN (nw u v) := by
  have := List.all_eq_true.mp (List.all_eq_true.mp adj_ok u (mem_words h1)) v (mem_words h2)
  rw [h] at this
  simp only [Bool.not_true, Bool.false_or, Bool.and_eq_true] at this
  exact ⟨this.1.1, this.1.2, Nat.eq_of_beq_eq_true this.2⟩
theorem num_of_in {u v : List Bool} (h1 : u.length ≤ 5) (h2 : v.length ≤ 5) (h : ltIn u v = true) : ltNum u v = true := by
  have := List.all_eq_true.mp (List.all_eq_true.mp order_ok u (mem_words h1)) v (mem_words h2)
  rw [h] at this
  exact this
theorem ins_getD {α : Type} (l : List α) {p : Nat} (hp : p ≤ l.length) (x d : α) (j : Nat) : (l.take p ++ x :: l.drop p).getD j d = if j < p then l.getD j d else if j = p then x else l.getD (j - 1) d := by
  have hl : (l.take p).length = p := by rw [List.length_take]; exact Nat.min_eq_left hp
  simp only [List.getD_eq_getElem?_getD]
  by_cases h : j < p
  · rw [if_pos h, List.getElem?_append_left (by rw [hl]; exact h), List.getElem?_take_of_lt h]
  · rw [if_neg h, List.getElem?_append_right (by rw [hl]; exact Nat.le_of_not_lt h), hl]
    by_cases h2 : j = p
    · rw [if_pos h2, h2, Nat.sub_self]; rfl
    · rw [if_neg h2]
      obtain ⟨k, rfl⟩ : ∃ k, j = p + k + 1 := ⟨j - p - 1, by omega⟩
      rw [show p + k + 1 - p = k + 1 by omega, List.getElem?_cons_succ, List.getElem?_drop]
      rfl
/-- the words along a line of n -/
structure RowP (n : Nat) (W : Nat → List Bool) : Prop where
  adj : ∀ j, j + 1 < n → adjB (W j) (W (j + 1)) = true
  fst : 0 < n → (W 0).all (fun x => !x) = true
  lst : 0 < n → (W (n - 1)).all (fun x => x) = true
/-- who came first of a stretch stands in the word of each of its ends -/
structure TreeP (n : Nat) (ln : Nat → Nat) (W : Nat → List Bool) : Prop where
  L : ∀ a q, a < q → q < n → (∀ c, a ≤ c → c < q → ln q < ln c) → (W q ++ [false]) <+: W a
  R : ∀ q b, q < b → b < n → (∀ c, q < c → c ≤ b → ln q < ln c) → (W q ++ [true]) <+: W b
theorem nlt {p c : Nat} (h : p ≤ c) : ¬ c + 1 < p := Nat.not_lt.mpr (Nat.le_succ_of_le h)
theorem nne {p c : Nat} (h : p ≤ c) : ¬ c + 1 = p := Nat.ne_of_gt (Nat.lt_succ_of_le h)
theorem ex_succ {p q : Nat} (h : p < q) : ∃ r, q = r + 1 := ⟨q - 1, (Nat.succ_pred_eq_of_pos (Nat.lt_of_le_of_lt (Nat.zero_le _) h)).symm⟩
theorem tree_step {n p k : Nat} {ln ln' : Nat → Nat} {W W' : Nat → List Bool} {w : List Bool} (T : TreeP n ln W) (hp : p ≤ n) (hb : ∀ c, c < n → ln c < k)
    (p1 : p < n → (W p ++ [false]) <+: w) (p2 : 0 < p → (W (p - 1) ++ [true]) <+: w)
    (e1 : ∀ c, ln' c = if c < p then ln c else if c = p then k else ln (c - 1)) (e2 : ∀ c, W' c = if c < p then W c else if c = p then w else W (c - 1)) : TreeP (n + 1) ln' W' := by
  have la : ∀ {c}, c < p → ln' c = ln c := fun h => by rw [e1, if_pos h]
  have lm : ln' p = k := by rw [e1, if_neg (Nat.lt_irrefl _), if_pos rfl]
  have lb : ∀ {c}, p ≤ c → ln' (c + 1) = ln c := fun h => by rw [e1, if_neg (nlt h), if_neg (nne h)]; rfl
  have wa : ∀ {c}, c < p → W' c = W c := fun h => by rw [e2, if_pos h]
  have wm : W' p = w := by rw [e2, if_neg (Nat.lt_irrefl _), if_pos rfl]
  have wb : ∀ {c}, p ≤ c → W' (c + 1) = W c := fun h => by rw [e2, if_neg (nlt h), if_neg (nne h)]; rfl
  constructor
  · intro a q haq hq h
    rcases Nat.lt_trichotomy q p with h1 | h1 | h1
    · rw [wa h1, wa (Nat.lt_trans haq h1)]
      refine T.L a q haq (Nat.lt_of_lt_of_le h1 hp) fun c hc1 hc2 => ?_
      have := h c hc1 hc2
      rwa [la h1, la (Nat.lt_trans hc2 h1)] at this
    · subst h1
      have := h a (Nat.le_refl _) haq
      rw [lm, la haq] at this
      exact absurd this (Nat.lt_asymm (hb a (Nat.lt_of_lt_of_le haq hp)))
    · obtain ⟨q, rfl⟩ := ex_succ h1
      have hpq : p ≤ q := Nat.le_of_lt_succ h1
      have hqn := Nat.lt_of_succ_lt_succ hq
      rw [wb hpq]
      rcases Nat.lt_trichotomy a p with h2 | h2 | h2
      · rw [wa h2]
        refine T.L a q (Nat.lt_of_lt_of_le h2 hpq) hqn fun c hc1 hc2 => ?_
        by_cases hcp : c < p
        · have := h c hc1 (Nat.lt_succ_of_lt hc2)
          rwa [lb hpq, la hcp] at this
        · have := h (c + 1) (Nat.le_succ_of_le hc1) (Nat.succ_lt_succ hc2)
          rwa [lb hpq, lb (Nat.le_of_not_lt hcp)] at this
      · subst h2
        rw [wm]
        rcases Nat.lt_or_eq_of_le hpq with h3 | h3
        · refine pre_trans (T.L a q h3 hqn fun c hc1 hc2 => ?_) (pre_base (p1 (Nat.lt_trans h3 hqn)))
          have := h (c + 1) (Nat.le_succ_of_le hc1) (Nat.succ_lt_succ hc2)
          rwa [lb hpq, lb hc1] at this
        · subst h3
          exact p1 hqn
      · obtain ⟨a, rfl⟩ := ex_succ h2
        have hpa := Nat.le_of_lt_succ h2
        rw [wb hpa]
        refine T.L a q (Nat.lt_of_succ_lt_succ haq) hqn fun c hc1 hc2 => ?_
        have := h (c + 1) (Nat.succ_le_succ hc1) (Nat.succ_lt_succ hc2)
        rwa [lb hpq, lb (Nat.le_trans hpa hc1)] at this
  · intro q b hqb hbn h
    rcases Nat.lt_trichotomy q p with h1 | h1 | h1
    · rw [wa h1]
      rcases Nat.lt_trichotomy b p with h2 | h2 | h2
      · rw [wa h2]
        refine T.R q b hqb (Nat.lt_of_lt_of_le h2 hp) fun c hc1 hc2 => ?_
        have := h c hc1 hc2
        rwa [la h1, la (Nat.lt_of_le_of_lt hc2 h2)] at this
      · subst h2
        rw [wm]
        have hp0 := p2 (Nat.lt_of_le_of_lt (Nat.zero_le _) hqb)
        have hb1 : b - 1 < b := Nat.sub_one_lt_of_lt hqb
        by_cases h3 : q = b - 1
        · subst h3; exact hp0
        · refine pre_trans (T.R q (b - 1) (Nat.lt_of_le_of_ne (Nat.le_sub_one_of_lt hqb) h3) (Nat.lt_of_lt_of_le hb1 hp) fun c hc1 hc2 => ?_) (pre_base hp0)
          have := h c hc1 (Nat.le_trans hc2 (Nat.le_of_lt hb1))
          rwa [la h1, la (Nat.lt_of_le_of_lt hc2 hb1)] at this
      · obtain ⟨b, rfl⟩ := ex_succ h2
        have hpb := Nat.le_of_lt_succ h2
        rw [wb hpb]
        refine T.R q b (Nat.lt_of_lt_of_le h1 hpb) (Nat.lt_of_succ_lt_succ hbn) fun c hc1 hc2 => ?_
        by_cases hcp : c < p
        · have := h c hc1 (Nat.le_succ_of_le hc2)
          rwa [la h1, la hcp] at this
        · have := h (c + 1) (Nat.lt_succ_of_lt hc1) (Nat.succ_le_succ hc2)
          rwa [la h1, lb (Nat.le_of_not_lt hcp)] at this
    · subst h1
      obtain ⟨b, rfl⟩ := ex_succ hqb
      have := h (b + 1) hqb (Nat.le_refl _)
      rw [lm, lb (Nat.le_of_lt_succ hqb)] at this
      exact absurd this (Nat.lt_asymm (hb b (Nat.lt_of_succ_lt_succ hbn)))
    · obtain ⟨q, rfl⟩ := ex_succ h1
      obtain ⟨b, rfl⟩ := ex_succ hqb
      have hpq := Nat.le_of_lt_succ h1
      have hqb' := Nat.lt_of_succ_lt_succ hqb
      rw [wb hpq, wb (Nat.le_trans hpq (Nat.le_of_lt hqb'))]
      refine T.R q b hqb' (Nat.lt_of_succ_lt_succ hbn) fun c hc1 hc2 => ?_
      have := h (c + 1) (Nat.succ_lt_succ hc1) (Nat.succ_le_succ hc2)
      rwa [lb hpq, lb (Nat.le_trans hpq (Nat.le_of_lt hc1))] at this
theorem row_step {n p : Nat} {W W' : Nat → List Bool} {w : List Bool} (T : RowP n W) (hp : p ≤ n)
    (c0 : n = 0 → w = []) (c1 : 0 < p → p < n → adjB (W (p - 1)) w = true ∧ adjB w (W p) = true) (c2 : p = 0 → 0 < n → w = W 0 ++ [false]) (c3 : 0 < p → p = n → w = W (p - 1) ++ [true])
    (e2 : ∀ c, W' c = if c < p then W c else if c = p then w else W (c - 1)) : RowP (n + 1) W' := by
  have wa : ∀ {c}, c < p → W' c = W c := fun h => by rw [e2, if_pos h]
  have wm : W' p = w := by rw [e2, if_neg (Nat.lt_irrefl _), if_pos rfl]
  have wb : ∀ {c}, p ≤ c → W' (c + 1) = W c := fun h => by rw [e2, if_neg (nlt h), if_neg (nne h)]; rfl
  refine ⟨?_, ?_, ?_⟩
  · intro j hj
    rcases Nat.lt_trichotomy j p with h1 | h1 | h1
    · rw [wa h1]
      by_cases h2 : j + 1 = p
      · rw [h2, wm]
        have e : j = p - 1 := by rw [← h2]; rfl
        have p0 : 0 < p := h2 ▸ Nat.succ_pos j
        by_cases h3 : p < n
        · rw [e]; exact (c1 p0 h3).1
        · rw [c3 p0 (Nat.le_antisymm hp (Nat.le_of_not_lt h3)), e]; exact adj_snoc _
      · have h4 : j + 1 < p := Nat.lt_of_le_of_ne h1 h2
        rw [wa h4]; exact T.adj j (Nat.lt_of_lt_of_le h4 hp)
    · subst h1
      rw [wm, wb (Nat.le_refl _)]
      have hjn := Nat.lt_of_succ_lt_succ hj
      by_cases h3 : 0 < j
      · exact (c1 h3 hjn).2
      · have : j = 0 := Nat.eq_zero_of_not_pos h3
        subst this
        rw [c2 rfl hjn]; exact snoc_adj _
    · obtain ⟨j, rfl⟩ := ex_succ h1
      have hpj := Nat.le_of_lt_succ h1
      rw [wb hpj, wb (Nat.le_succ_of_le hpj)]
      exact T.adj j (Nat.lt_of_succ_lt_succ hj)
  · intro _
    by_cases h : 0 < p
    · rw [wa h]; exact T.fst (Nat.lt_of_lt_of_le h hp)
    · have : p = 0 := Nat.eq_zero_of_not_pos h
      subst this
      rw [wm]
      by_cases h0 : n = 0
      · rw [c0 h0]; rfl
      · have := Nat.pos_of_ne_zero h0
        rw [c2 rfl this, List.all_append, T.fst this]; rfl
  · intro _
    rw [Nat.add_sub_cancel]
    by_cases h : p = n
    · subst h
      rw [wm]
      by_cases h0 : p = 0
      · rw [c0 h0]; rfl
      · have := Nat.pos_of_ne_zero h0
        rw [c3 this rfl, List.all_append, T.lst this]; rfl
    · have hpn := Nat.lt_of_le_of_ne hp h
      obtain ⟨m, rfl⟩ := ex_succ hpn
      rw [wb (Nat.le_of_lt_succ hpn)]
      exact T.lst (Nat.succ_pos _)
theorem newW_cases {i p : Nat} {st : PSt} (h : st ∈ reach i) (hp : p ≤ i) : (i = 0 → newW st p = []) ∧ (0 < p → p < i → newW st p = nw ((nameRow st).getD (p - 1) []) ((nameRow st).getD p [])) ∧
    (p = 0 → 0 < i → newW st p = (nameRow st).getD 0 [] ++ [false]) ∧ (0 < p → p = i → newW st p = (nameRow st).getD (p - 1) [] ++ [true]) := by
  have P := reach_P h
  have hl := P.l1
  have hl2 := P.l2
  have hr : ∀ c, c < i → (nameRow st).getD c [] = wdN st.2 (st.1.getD c 0) := fun c hc => row_at st (by rw [hl]; exact hc)
  obtain ⟨line, wb⟩ := st
  dsimp only at hl hl2 hr
  cases wb with
  | nil =>
    have : i = 0 := hl2.symm
    subst this
    exact ⟨fun _ => rfl, fun _ h => absurd h (Nat.not_lt_zero _), fun _ h => absurd h (Nat.lt_irrefl _), fun h e => by omega⟩
  | cons w0 r =>
    have hi : i ≠ 0 := by rw [← hl2]; simp
    refine ⟨fun e => absurd e hi, fun h0 h1 => ?_, fun h0 h1 => ?_, fun h0 h1 => ?_⟩
    · rw [hr _ (by omega), hr _ h1]
      show (if p < line.length then _ else _) = _
      rw [if_pos (by rw [hl]; exact h1), if_pos h0]
      rfl
    · subst h0
      rw [hr _ h1]
      show (if 0 < line.length then _ else _) = _
      rw [if_pos (by rw [hl]; exact h1), if_neg (Nat.lt_irrefl _)]
      rfl
    · rw [hr _ (by omega)]
      show (if p < line.length then _ else _) = _
      rw [if_neg (by rw [hl, h1]; exact Nat.lt_irrefl _)]
      rfl
theorem reach_T : ∀ {i : Nat} {st : PSt}, st ∈ reach i → i ≤ 6 → RowP i (fun c => (nameRow st).getD c []) ∧ TreeP i (fun c => st.1.getD c 0) (fun c => (nameRow st).getD c [])
  | 0, st, _, _ => ⟨⟨fun _ h => absurd h (Nat.not_lt_zero _), fun h => absurd h (Nat.lt_irrefl _), fun h => absurd h (Nat.lt_irrefl _)⟩, ⟨fun _ _ _ h => absurd h (Nat.not_lt_zero _), fun _ _ _ h => absurd h (Nat.not_lt_zero _)⟩⟩
  | i + 1, st, h, hi => by
    obtain ⟨st0, h0, h1⟩ := List.mem_flatMap.mp h
    obtain ⟨p, hp, rfl⟩ := List.mem_map.mp h1
    have hp' : p ≤ i := Nat.le_of_lt_succ (List.mem_range.mp hp)
    have P := reach_P h0
    obtain ⟨IR, IT⟩ := reach_T h0 (Nat.le_of_succ_le hi)
    obtain ⟨c0, c1, c2, c3⟩ := newW_cases h0 hp'
    have hr : ∀ c, ((nameRow st0).getD c []).length ≤ 4 := by
      intro c
      by_cases hc : c < st0.1.length
      · rw [row_at st0 hc]
        have := wdN_len P.wl (st0.1.getD c 0)
        omega
      · rw [List.getD_eq_getElem?_getD, List.getElem?_eq_none (by rw [nameRow_len]; omega)]; exact Nat.zero_le _
    have e1 : ∀ c, (stepP st0 p).1.getD c 0 = if c < p then st0.1.getD c 0 else if c = p then i else st0.1.getD (c - 1) 0 := fun c => by
      show (st0.1.take p ++ st0.2.length :: st0.1.drop p).getD c 0 = _
      rw [ins_getD _ (by rw [P.l1]; exact hp'), P.l2]
    have e2 : ∀ c, (nameRow (stepP st0 p)).getD c [] = if c < p then (nameRow st0).getD c [] else if c = p then newW st0 p else (nameRow st0).getD (c - 1) [] := fun c => by
      rw [nameRow_step h0, ins_getD _ (by rw [nameRow_len, P.l1]; exact hp')]
    have hadj : 0 < p → p < i → adjB ((nameRow st0).getD (p - 1) []) ((nameRow st0).getD p []) = true := fun q1 q2 => by
      have := IR.adj (p - 1) (by omega)
      rwa [Nat.sub_add_cancel q1] at this
    refine ⟨row_step IR hp' c0 (fun q1 q2 => ?_) c2 c3 e2, tree_step IT hp' (fun c hc => P.lt _ (getD_mem _ _ _ (by rw [P.l1]; exact hc))) (fun q => ?_) (fun q => ?_) e1 e2⟩
    · have := adj_new (hr _) (hr _) (hadj q1 q2)
      rw [c1 q1 q2]; exact ⟨this.1, this.2.1⟩
    · by_cases q1 : 0 < p
      · rw [c1 q1 q]; exact (nw_pre (hadj q1 q)).2
      · have : p = 0 := by omega
        subst this
        rw [c2 rfl q]; exact List.prefix_refl _
    · by_cases q2 : p < i
      · rw [c1 q q2]; exact (nw_pre (hadj q q2)).1
      · rw [c3 q (by omega)]; exact List.prefix_refl _
theorem tree_take {n k : Nat} {ln ln' : Nat → Nat} {W W' : Nat → List Bool} (T : TreeP n ln W) (hk : k ≤ n) (e1 : ∀ c, c < k → ln' c = ln c) (e2 : ∀ c, c < k → W' c = W c) : TreeP k ln' W' := by
  constructor
  · intro a q h1 h2 h3
    rw [e2 _ h2, e2 _ (Nat.lt_trans h1 h2)]
    refine T.L a q h1 (Nat.lt_of_lt_of_le h2 hk) fun c hc1 hc2 => ?_
    have := h3 c hc1 hc2
    rwa [e1 _ h2, e1 _ (Nat.lt_trans hc2 h2)] at this
  · intro q b h1 h2 h3
    rw [e2 _ h2, e2 _ (Nat.lt_trans h1 h2)]
    refine T.R q b h1 (Nat.lt_of_lt_of_le h2 hk) fun c hc1 hc2 => ?_
    have := h3 c hc1 hc2
    rwa [e1 _ (Nat.lt_trans h1 h2), e1 _ (Nat.lt_of_le_of_lt hc2 h2)] at this
theorem tree_drop {n k m : Nat} {ln ln' : Nat → Nat} {W W' : Nat → List Bool} (T : TreeP n ln W) (hk : m + k = n) (e1 : ∀ c, ln' c = ln (k + c)) (e2 : ∀ c, W' c = W (k + c)) : TreeP m ln' W' := by
  have hn : ∀ {c}, c < m → k + c < n := fun h => by rw [← hk, Nat.add_comm]; exact Nat.add_lt_add_right h k
  have hc : ∀ {a c}, k + a ≤ c → ∃ r, c = k + r := fun h => ⟨_, (Nat.add_sub_cancel' (Nat.le_trans (Nat.le_add_right _ _) h)).symm⟩
  constructor
  · intro a q h1 h2 h3
    rw [e2, e2]
    refine T.L (k + a) (k + q) (Nat.add_lt_add_left h1 k) (hn h2) fun c hc1 hc2 => ?_
    obtain ⟨c, rfl⟩ := hc hc1
    have := h3 c (Nat.le_of_add_le_add_left hc1) (Nat.lt_of_add_lt_add_left hc2)
    rwa [e1, e1] at this
  · intro q b h1 h2 h3
    rw [e2, e2]
    refine T.R (k + q) (k + b) (Nat.add_lt_add_left h1 k) (hn h2) fun c hc1 hc2 => ?_
    obtain ⟨c, rfl⟩ := hc (Nat.le_of_lt hc1)
    have := h3 c (Nat.lt_of_add_lt_add_left hc1) (Nat.le_of_add_le_add_left hc2)
    rwa [e1, e1] at this
theorem minN_le : ∀ {ns : List Nat} {a : Nat}, a ∈ ns → minN ns ≤ a
  | [b], a, h => by rw [List.mem_singleton.mp h]; exact Nat.le_refl _
  | b :: c :: r, a, h => by
    have ih : ∀ {a : Nat}, a ∈ c :: r → minN (c :: r) ≤ a := fun h => minN_le h
    rw [minN]
    rcases List.mem_cons.mp h with rfl | h
    · split <;> omega
    · have := ih h
      split <;> omega
    · simp
theorem minN_mem : ∀ {ns : List Nat}, ns ≠ [] → minN ns ∈ ns
  | [b], _ => .head _
  | b :: c :: r, _ => by
    have ih : minN (c :: r) ∈ c :: r := minN_mem (by simp)
    rw [minN]
    · split
      · exact .head _
      · exact .tail _ ih
    · simp
theorem nd_getD {l : List Nat} (hn : l.Nodup) {a b : Nat} (ha : a < l.length) (hb : b < l.length) (hab : a ≠ b) : l.getD a 0 ≠ l.getD b 0 := by
  rw [List.getD_eq_getElem?_getD, List.getD_eq_getElem?_getD, List.getElem?_eq_getElem ha, List.getElem?_eq_getElem hb]
  have hp := List.pairwise_iff_getElem.mp hn
  rcases Nat.lt_or_gt_of_ne hab with q | q
  · exact hp _ _ ha hb q
  · exact (hp _ _ hb ha q).symm
theorem mem_getD {l : List Nat} {t : Nat} (h : t ∈ l) : ∃ a, a < l.length ∧ l.getD a 0 = t := by
  obtain ⟨a, ha, e⟩ := List.mem_iff_getElem.mp h
  exact ⟨a, ha, by rw [List.getD_eq_getElem?_getD, List.getElem?_eq_getElem ha, ← e]; rfl⟩
theorem getD_take (l : List Nat) {x c : Nat} (h : c < x) : (l.take x).getD c 0 = l.getD c 0 := by
  rw [List.getD_eq_getElem?_getD, List.getD_eq_getElem?_getD, List.getElem?_take_of_lt h]
theorem getD_drop (l : List Nat) (x c : Nat) : (l.drop x).getD c 0 = l.getD (x + c) 0 := by
  rw [List.getD_eq_getElem?_getD, List.getD_eq_getElem?_getD, List.getElem?_drop]
theorem walkN_len : ∀ (f : Nat) (ns : List Nat), ns.length ≤ f → (walkN f ns).Perm ns
  | 0, ns, h => by
    have : ns = [] := List.length_eq_zero_iff.mp (by omega)
    subst this; exact .nil
  | f + 1, ns, h => by
    rw [walkN]
    split
    · rename_i e; subst e; exact .nil
    · rename_i e
      have hx : ns.idxOf (minN ns) < ns.length := List.idxOf_lt_length_iff.mpr (minN_mem e)
      have i1 := walkN_len f (ns.take (ns.idxOf (minN ns))) (by rw [List.length_take]; omega)
      have i2 := walkN_len f (ns.drop (ns.idxOf (minN ns) + 1)) (by rw [List.length_drop]; omega)
      have e2 : ns.take (ns.idxOf (minN ns)) ++ minN ns :: ns.drop (ns.idxOf (minN ns) + 1) = ns := by
        have := List.drop_eq_getElem_cons hx
        rw [List.getElem_idxOf hx] at this
        rw [← this, List.take_append_drop]
      have e3 := (((i1.append i2).cons (minN ns)).trans List.perm_middle.symm)
      rw [e2] at e3
      exact e3
theorem walk_sorted {g : Nat → List Bool} : ∀ (f : Nat) (ns : List Nat), ns.length ≤ f → ns.Nodup → TreeP ns.length (fun c => ns.getD c 0) (fun c => g (ns.getD c 0)) → ((walkN f ns).map g).Pairwise (fun a b => ltPre a b = true)
  | 0, ns, _, _, _ => by simp [walkN]
  | f + 1, ns, h, hn, T => by
    rw [walkN]
    split
    · simp
    · rename_i e
      have hm := minN_mem e
      obtain ⟨x, hxe⟩ : ∃ x, x = ns.idxOf (minN ns) := ⟨_, rfl⟩
      have hx : x < ns.length := by rw [hxe]; exact List.idxOf_lt_length_iff.mpr hm
      have hg : ns.getD x 0 = minN ns := by
        subst hxe
        rw [List.getD_eq_getElem?_getD, List.getElem?_eq_getElem hx]
        exact List.getElem_idxOf hx
      rw [← hxe]
      have hlt : ∀ c, c < ns.length → c ≠ x → ns.getD x 0 < ns.getD c 0 := fun c hc hcx => by
        have h1 := minN_le (getD_mem ns c 0 hc)
        have h2 := nd_getD hn hx hc (Ne.symm hcx)
        rw [hg] at h2 ⊢
        omega
      have l1 : (ns.take x).length ≤ f := by rw [List.length_take]; omega
      have l2 : (ns.drop (x + 1)).length ≤ f := by rw [List.length_drop]; omega
      have m1 : ∀ t ∈ walkN f (ns.take x), (g (minN ns) ++ [false]) <+: g t := fun t ht => by
        obtain ⟨a, ha, rfl⟩ := mem_getD ((walkN_len f _ l1).mem_iff.mp ht)
        rw [List.length_take] at ha
        rw [getD_take _ (by omega), ← hg]
        exact T.L a x (by omega) hx fun c hc1 hc2 => hlt c (by omega) (by omega)
      have m2 : ∀ t ∈ walkN f (ns.drop (x + 1)), (g (minN ns) ++ [true]) <+: g t := fun t ht => by
        obtain ⟨a, ha, rfl⟩ := mem_getD ((walkN_len f _ l2).mem_iff.mp ht)
        rw [List.length_drop] at ha
        rw [getD_drop, ← hg]
        exact T.R x (x + 1 + a) (by omega) (by omega) fun c hc1 hc2 => hlt c (by omega) (by omega)
      have s1 := walk_sorted (g := g) f (ns.take x) l1 (hn.sublist (List.take_sublist _ _)) (tree_take T (by rw [List.length_take]; omega) (fun c hc => getD_take _ (by rw [List.length_take] at hc; omega)) (fun c hc => by rw [getD_take _ (by rw [List.length_take] at hc; omega)]))
      have s2 := walk_sorted (g := g) f (ns.drop (x + 1)) l2 (hn.sublist (List.drop_sublist _ _)) (tree_drop (k := x + 1) T (by rw [List.length_drop]; omega) (fun c => getD_drop _ _ _) (fun c => by rw [getD_drop]))
      rw [List.map_append, List.map_cons]
      refine List.pairwise_append.mpr ⟨.cons ?_ s1, s2, ?_⟩
      · intro b hb
        obtain ⟨t, ht, rfl⟩ := List.mem_map.mp hb
        exact pre_pre (m1 t ht)
      · intro a ha b hb
        obtain ⟨t, ht, rfl⟩ := List.mem_map.mp hb
        rcases List.mem_cons.mp ha with rfl | ha
        · exact pre_pre (m2 t ht)
        · obtain ⟨u, hu, rfl⟩ := List.mem_map.mp ha
          exact fork_pre (m1 u hu) (m2 t ht)
theorem perm_sorted {lt : List Bool → List Bool → Bool} (as : ∀ {a b}, lt a b = true → lt b a = false) : ∀ {l r : List (List Bool)}, l.Pairwise (fun a b => lt a b = true) → r.Pairwise (fun a b => lt a b = true) → l.Perm r → l = r
  | [], r, _, _, h => h.nil_eq
  | a :: l, [], _, _, h => by have := h.length_eq; simp at this
  | a :: l, b :: r, h1, h2, h => by
    have e : a = b := by
      rcases List.mem_cons.mp (h.mem_iff.mp (.head _)) with q | q
      · exact q
      · rcases List.mem_cons.mp (h.mem_iff.mpr (.head _)) with q2 | q2
        · exact q2.symm
        · have := as (List.rel_of_pairwise_cons h2 q)
          rw [List.rel_of_pairwise_cons h1 q2] at this
          cases this
    subst e
    rw [perm_sorted as h1.of_cons h2.of_cons h.cons_inv]
theorem row_in {i : Nat} {st : PSt} (h : st ∈ reach i) (hi : i ≤ 6) {a : Nat} : ∀ b, a < b → b < i → ltIn ((nameRow st).getD a []) ((nameRow st).getD b []) = true
  | b + 1, h1, h2 => by
    have hs := adj_in ((reach_T h hi).1.adj b h2)
    rcases Nat.lt_or_eq_of_le (Nat.le_of_lt_succ h1) with h3 | h3
    · exact ltIn_trans (row_in h hi b h3 (by omega)) hs
    · rw [h3]; exact hs
theorem row_pair {i : Nat} {st : PSt} (h : st ∈ reach i) (hi : i ≤ 6) : (nameRow st).Pairwise (fun a b => ltIn a b = true) ∧ (nameRow st).Pairwise (fun a b => ltNum a b = true) ∧ (bareRow st).Pairwise (fun a b => ltPre a b = true) := by
  have P := reach_P h
  have hl : (nameRow st).length = i := by rw [nameRow_len, P.l1]
  have h1 : (nameRow st).Pairwise (fun a b => ltIn a b = true) := List.pairwise_iff_getElem.mpr fun a b ha hb hab => by
    have := row_in h hi b hab (by omega)
    rw [List.getD_eq_getElem?_getD, List.getD_eq_getElem?_getD, List.getElem?_eq_getElem ha, List.getElem?_eq_getElem hb] at this
    exact this
  have hw : ∀ u ∈ nameRow st, u.length ≤ 5 := fun u hu => by
    obtain ⟨t, _, rfl⟩ := List.mem_map.mp hu
    have := wdN_len P.wl t
    omega
  refine ⟨h1, List.Pairwise.imp_of_mem (fun ha hb hab => num_of_in (hw _ ha) (hw _ hb) hab) h1, ?_⟩
  refine walk_sorted 6 st.1 (by rw [P.l1]; exact hi) P.nd (tree_take (reach_T h hi).2 (by rw [P.l1]; exact Nat.le_refl _) (fun _ _ => rfl) (fun c hc => (row_at st hc).symm))
theorem bare_perm {i : Nat} {st : PSt} (h : st ∈ reach i) (hi : i ≤ 6) : (bareRow st).Perm (nameRow st) := (walkN_len 6 st.1 (by rw [(reach_P h).l1]; exact hi)).map _
theorem parts_at {p : Nat → Bool} {n c : Nat} (hc : c ≤ n) (h : ∀ j, j < n → p j = decide (j < c)) : Falls p 0 n ∧ ∀ k, Parts p 0 n k → k = c := by
  refine ⟨fun i j _ hij hj hp => ?_, fun k hk => ?_⟩
  · rw [h j hj] at hp
    rw [h i (by omega)]
    have := of_decide_eq_true hp
    exact decide_eq_true (by omega)
  · rcases Nat.lt_trichotomy k c with hlt | he | hgt
    · have h1 := hk.no k (Nat.le_refl _) (by omega)
      rw [h k (by omega), decide_eq_true hlt] at h1
      cases h1
    · exact he
    · have h1 := hk.yes c (Nat.zero_le _) hgt
      have := hk.le
      rw [h c (by omega), decide_eq_false (by omega)] at h1
      cases h1
theorem parts_in {p : Nat → Bool} {lo hi c : Nat} (h1 : lo ≤ c) (h2 : c ≤ hi) (h : ∀ j, lo ≤ j → j < hi → p j = decide (j < c)) : Falls p lo hi ∧ ∀ k, Parts p lo hi k → k = c := by
  refine ⟨fun i j h0 hij hj hp => ?_, fun k hk => ?_⟩
  · rw [h j (by omega) hj] at hp
    rw [h i h0 (by omega)]
    have := of_decide_eq_true hp
    exact decide_eq_true (by omega)
  · have hge := hk.ge
    have hle := hk.le
    rcases Nat.lt_trichotomy k c with hlt | he | hgt
    · have h1 := hk.no k (Nat.le_refl _) (by omega)
      rw [h k (by omega) (by omega), decide_eq_true hlt] at h1
      cases h1
    · exact he
    · have h1 := hk.yes c (by omega) hgt
      rw [h c (by omega) (by omega), decide_eq_false (by omega)] at h1
      cases h1
theorem tx_getD (ps : List (Bool × Str)) (i : Nat) : tx ps i = (ps.map (·.2)).getD i Str.empty := by
  rw [List.getD_eq_getElem?_getD, List.getElem?_map]; rfl
theorem num_fold : ∀ (w : List Bool) (n s : Nat), 2 * s ≤ n → w.foldl stB ((n : Int), (s : Int)) = (((w.foldl (fun (p : Nat × Nat) b => (if b then p.1 + p.2 else p.1 - p.2, p.2 / 2)) (n, s)).1 : Int), ((w.foldl (fun (p : Nat × Nat) b => (if b then p.1 + p.2 else p.1 - p.2, p.2 / 2)) (n, s)).2 : Int))
  | [], n, s, _ => rfl
  | b :: r, n, s, h => by
    have e2 : Int.fdiv (s : Int) 2 = ((s / 2 : Nat) : Int) := by rw [Int.fdiv_eq_ediv_of_nonneg _ (by omega)]; omega
    have e : stB ((n : Int), (s : Int)) b = (((if b then n + s else n - s : Nat) : Int), ((s / 2 : Nat) : Int)) := by
      unfold stB
      rw [e2]
      cases b
      · simp only [Bool.false_eq_true, if_false]; congr 1; omega
      · simp only [if_true]; congr 1
    rw [List.foldl_cons, e, num_fold r _ _ (by split <;> omega)]
    rfl
theorem num_N (w : List Bool) : num w = ((numN w : Nat) : Int) := by
  unfold num numN
  have := num_fold w 32 16 (by omega)
  rw [show ((32 : Int), (16 : Int)) = (((32 : Nat) : Int), ((16 : Nat) : Int)) from rfl, this]
section
variable {i p : Nat} {st : PSt} {tag : Str}
theorem reach_line (h : st ∈ reach i) : st.1.length = i ∧ st.2.length = i ∧ (∀ t ∈ st.1, t < i) := ⟨(reach_P h).l1, (reach_P h).l2, (reach_P h).lt⟩
theorem reach_len (h : st ∈ reach i) (hi : i ≤ 6) (k : Nat) : (wdN st.2 k).length ≤ 5 := by
  have := wdN_len (reach_P h).wl k
  omega
theorem reach_step (h : st ∈ reach i) (hp : p ≤ i) : stepP st p ∈ reach (i + 1) := by
  show _ ∈ (reach i).flatMap _
  exact List.mem_flatMap.mpr ⟨st, h, List.mem_map.mpr ⟨p, List.mem_range.mpr (by omega), rfl⟩⟩
theorem pa_lt (h : st ∈ reach i) (hp : p ≤ i) (h0 : 0 < p) : pa st.1 p < i := by
  have P := reach_P h
  exact P.lt _ (getD_mem _ _ _ (by rw [P.l1]; omega))
theorem pb_lt (h : st ∈ reach i) (h0 : p < i) : pb st.1 p < i := by
  have P := reach_P h
  exact P.lt _ (getD_mem _ _ _ (by rw [P.l1]; omega))
theorem ahd_lt (h : st ∈ reach i) (hp : p ≤ i) : ahd st.1 p < i ∧ -1 ≤ ahd st.1 p := by
  unfold ahd
  split
  · have := pa_lt h hp (by assumption); omega
  · omega
theorem bhd_lt (h : st ∈ reach i) (hp : p ≤ i) : bhd st.1 p < i ∧ -1 ≤ bhd st.1 p := by
  have P := reach_P h
  unfold bhd
  split
  · have := pb_lt (p := p) h (by rw [P.l1] at *; assumption); omega
  · omega
theorem one_there (h : st ∈ reach i) (hp : p ≤ i) : st.2.map wordS ≠ [] → 0 ≤ ahd st.1 p ∨ 0 ≤ bhd st.1 p := by
  have P := reach_P h
  intro hne
  have hl : 0 < st.2.length := by
    rcases Nat.eq_zero_or_pos st.2.length with h0 | h0
    · rw [List.length_eq_zero_iff.mp h0] at hne; exact absurd rfl hne
    · exact h0
  rw [P.l2] at hl
  unfold ahd bhd
  by_cases h0 : 0 < p
  · left; rw [if_pos h0]; omega
  · right; rw [if_pos (by rw [P.l1]; omega)]; omega
theorem word_step (h : st ∈ reach i) (hp : p ≤ i) : wordOf (st.2.map wordS) (ahd st.1 p) (bhd st.1 p) = wordS (newW st p) := by
  have P := reach_P h
  rw [wordOf_is]
  congr 1
  obtain ⟨line, wb⟩ := st
  have l1 : line.length = i := P.l1
  have l2 : wb.length = i := P.l2
  clear P h
  cases wb with
  | nil => simp [wordB, newW]
  | cons w0 r =>
    simp only [List.length_cons] at l2
    unfold wordB newW
    rw [if_neg (by simp)]
    dsimp only
    by_cases h0 : 0 < p
    · by_cases hl : p < line.length
      · simp only [ahd, bhd, if_pos h0, if_pos hl, Int.toNat_natCast, wdN]
        by_cases hc : ((w0 :: r).getD (pb line p) []).length < ((w0 :: r).getD (pa line p) []).length
        · rw [if_pos (.inr ⟨by omega, hc⟩)]; exact (if_pos hc).symm
        · rw [if_neg (fun q => q.elim (fun q => by omega) (fun q => hc q.2))]; exact (if_neg hc).symm
      · simp only [ahd, bhd, if_pos h0, if_neg hl, Int.toNat_natCast, wdN]
        rw [if_pos (.inl (by omega))]
    · by_cases hl : p < line.length
      · simp only [ahd, bhd, if_neg h0, if_pos hl, Int.toNat_natCast, wdN]
        rw [if_neg (by rintro (q | q) <;> omega)]
      · omega
theorem mark_ok (h : st ∈ reach i) (hi : i < 6) (hp : p ≤ i) : ((if 0 < p then numN (wdN st.2 (pa st.1 p)) else 0) + (if p < st.1.length then numN (wdN st.2 (pb st.1 p)) else 64)) / 2 = numN (newW st p) := by
  have P := reach_P h
  obtain ⟨c0, c1, c2, c3⟩ := newW_cases h hp
  have R := (reach_T h (Nat.le_of_lt hi)).1
  have hr : ∀ c, c < i → (nameRow st).getD c [] = wdN st.2 (st.1.getD c 0) := fun c hc => row_at st (by rw [P.l1]; exact hc)
  have h4 : ∀ c, c < i → ((nameRow st).getD c []).length ≤ 4 := fun c hc => by
    rw [hr c hc]
    have := wdN_len P.wl (st.1.getD c 0)
    omega
  rw [P.l1]
  by_cases q1 : 0 < p
  · by_cases q2 : p < i
    · rw [if_pos q1, if_pos q2, c1 q1 q2]
      have ha := R.adj (p - 1) (by omega)
      rw [Nat.sub_add_cancel q1] at ha
      have := (adj_new (h4 _ (by omega)) (h4 _ q2) ha).2.2
      rw [← this, hr _ (by omega), hr _ q2]
      rfl
    · rw [if_pos q1, if_neg q2, c3 q1 (by omega)]
      have hl := R.lst (by omega)
      have := List.all_eq_true.mp lst_ok _ (mem_words (h4 (i - 1) (by omega)))
      rw [hl] at this
      have hpi : p = i := by omega
      subst hpi
      rw [← Nat.eq_of_beq_eq_true this, hr _ (by omega)]
      rfl
  · have hp0 : p = 0 := by omega
    subst hp0
    by_cases q2 : 0 < i
    · rw [if_neg q1, if_pos q2, c2 rfl q2]
      have hl := R.fst q2
      have := List.all_eq_true.mp fst_ok _ (mem_words (h4 0 q2))
      rw [hl] at this
      rw [← Nat.eq_of_beq_eq_true this, hr _ q2]
      rfl
    · rw [if_neg q1, if_neg q2, c0 (by omega)]
      rfl
theorem mark_step (h : st ∈ reach i) (hi : i < 6) (hp : p ≤ i) : Int.fdiv ((if 0 ≤ ahd st.1 p then (st.2.map num).getD (ahd st.1 p).toNat 0 else 0) + (if 0 ≤ bhd st.1 p then (st.2.map num).getD (bhd st.1 p).toNat 0 else 64)) 2 = num (newW st p) := by
  have P := reach_P h
  have ht := mark_ok h hi hp
  have e1 : (if 0 ≤ ahd st.1 p then (st.2.map num).getD (ahd st.1 p).toNat 0 else 0) = ((if 0 < p then numN (wdN st.2 (pa st.1 p)) else 0 : Nat) : Int) := by
    by_cases h0 : 0 < p
    · simp only [ahd, if_pos h0, Int.toNat_natCast]
      rw [if_pos (by omega), getD_map num _ _ [] _ (by rw [P.l2]; exact pa_lt h hp h0), num_N]
      rfl
    · simp only [ahd, if_neg h0]; rfl
  have e2 : (if 0 ≤ bhd st.1 p then (st.2.map num).getD (bhd st.1 p).toNat 0 else 64) = ((if p < st.1.length then numN (wdN st.2 (pb st.1 p)) else 64 : Nat) : Int) := by
    by_cases h0 : p < st.1.length
    · simp only [bhd, if_pos h0, Int.toNat_natCast]
      rw [if_pos (by omega), getD_map num _ _ [] _ (by rw [P.l2]; exact pb_lt h (by rw [P.l1] at h0; exact h0)), num_N]
      rfl
    · simp only [bhd, if_neg h0]; rfl
  rw [e1, e2, num_N, ← ht, Int.fdiv_eq_ediv_of_nonneg _ (by omega)]
  omega
theorem newW_len (h : st ∈ reach i) (hi : i < 6) (hp : p ≤ i) : (wordS (newW st p)).length ≤ 1000 := by
  rw [wordS_length]
  have := newW_le (p := p) (reach_P h).wl
  omega
theorem rowT_is (st : PSt) (tag : Str) : rowT st tag = (nameRow st).map fun w => nameS w tag := rfl
theorem tx_row {ps : List (Bool × Str)} (e : ps.map (·.2) = rowT st tag) {j : Nat} (hj : j < st.1.length) : tx ps j = nameS ((nameRow st).getD j []) tag := by
  rw [tx_getD, e, rowT_is, getD_map _ _ _ [] _ (by rw [nameRow_len]; exact hj)]
theorem ps_len {ps : List (Bool × Str)} (h : st ∈ reach i) (e : ps.map (·.2) = rowT st tag) : ps.length = i := by
  rw [← List.length_map (f := fun (x : Bool × Str) => x.2), e, rowT_is, List.length_map, nameRow_len, (reach_P h).l1]
theorem names_left {ps : List (Bool × Str)} (h : st ∈ reach i) (hi : i < 6) (hp : p ≤ i) (e : ps.map (·.2) = rowT st tag) :
    Falls (fun j => ltS (tx ps j) (nameS (newW st p) tag)) 0 ps.length ∧ ∀ k, Parts (fun j => ltS (tx ps j) (nameS (newW st p) tag)) 0 ps.length k → k = p := by
  have P := reach_P h
  have hl := ps_len h e
  have hs := (row_pair (reach_step h hp) (by omega)).1
  rw [nameRow_step h] at hs
  refine parts_at (by omega) fun j hj => ?_
  rw [tx_row e (by rw [P.l1]; omega), ltS_name]
  exact (ins_place ltIn_asymm hs (by rw [nameRow_len, P.l1]; omega)).1
theorem names_right {ps : List (Bool × Str)} (h : st ∈ reach i) (hi : i < 6) (hp : p ≤ i) (e : ps.map (·.2) = rowT st tag) :
    Falls (fun j => !ltS (nameS (newW st p) tag) (tx ps j)) 0 ps.length ∧ ∀ k, Parts (fun j => !ltS (nameS (newW st p) tag) (tx ps j)) 0 ps.length k → k = p := by
  have P := reach_P h
  have hl := ps_len h e
  have hs := (row_pair (reach_step h hp) (by omega)).1
  rw [nameRow_step h] at hs
  refine parts_at (by omega) fun j hj => ?_
  rw [tx_row e (by rw [P.l1]; omega), ltS_name]
  exact (ins_place ltIn_asymm hs (by rw [nameRow_len, P.l1]; omega)).2
theorem names_new {ps : List (Bool × Str)} {b : Bool} (h : st ∈ reach i) (hi : i < 6) (hp : p ≤ i) (e : ps.map (·.2) = rowT st tag) :
    (ps.take p ++ (b, nameS (newW st p) tag) :: ps.drop p).map (·.2) = rowT (stepP st p) tag := by
  rw [rowT_is, nameRow_step h]
  simp only [List.map_append, List.map_cons, List.map_take, List.map_drop, e, rowT_is]
theorem fall_is (st : PSt) : fallRow st = (nameRow st).reverse.map num := by
  unfold fallRow nameRow
  rw [← List.map_reverse, List.map_map]
  rfl
theorem fall_len (st : PSt) : (fallRow st).length = st.1.length := by simp [fallRow]
theorem fall_step (h : st ∈ reach i) (hp : p ≤ i) : (fallRow st).take (i - p) ++ num (newW st p) :: (fallRow st).drop (i - p) = fallRow (stepP st p) := by
  have hl : (nameRow st).length = i := by rw [nameRow_len, (reach_P h).l1]
  rw [fall_is, fall_is, nameRow_step h, ← List.map_take, ← List.map_drop, List.take_reverse, List.drop_reverse, hl, show i - (i - p) = p by omega]
  simp
theorem fall_at (h : st ∈ reach i) {j : Nat} (hj : j < i) : (fallRow st).getD j 0 = num ((nameRow st).getD (i - 1 - j) []) := by
  have hl : (nameRow st).length = i := by rw [nameRow_len, (reach_P h).l1]
  rw [fall_is, getD_map _ _ _ [] _ (by rw [List.length_reverse]; omega), List.getD_eq_getElem?_getD, List.getElem?_reverse (by omega), hl, List.getD_eq_getElem?_getD]
theorem neg_num (a b : List Bool) : decide (-(num a) < -(num b)) = ltNum b a := by
  rw [ltNum_is, num_N, num_N]
  exact decide_eq_decide.mpr (by omega)
theorem fall_place (h : st ∈ reach i) (hi : i < 6) (hp : p ≤ i) {j : Nat} (hj : j < i) : ltNum (newW st p) ((nameRow st).getD (i - 1 - j) []) = decide (j < i - p) ∧ (!ltNum ((nameRow st).getD (i - 1 - j) []) (newW st p)) = decide (j < i - p) := by
  have P := reach_P h
  have hs := (row_pair (reach_step h hp) (by omega)).2.1
  rw [nameRow_step h] at hs
  have := ins_place ltNum_asymm hs (j := i - 1 - j) (by rw [nameRow_len, P.l1]; omega)
  have e : decide (i - 1 - j < p) = !decide (j < i - p) := by
    rw [Bool.eq_iff_iff]
    simp
    omega
  rw [this.1, e, Bool.not_not]
  refine ⟨?_, rfl⟩
  have h2 := this.2
  rw [e] at h2
  exact Bool.not_inj h2
theorem fall_left (h : st ∈ reach i) (hi : i < 6) (hp : p ≤ i) :
    Falls (fun j => decide (-((fallRow st).getD j 0) < -(num (newW st p)))) 0 (fallRow st).length ∧ ∀ k, Parts (fun j => decide (-((fallRow st).getD j 0) < -(num (newW st p)))) 0 (fallRow st).length k → (fallRow st).take k ++ num (newW st p) :: (fallRow st).drop k = fallRow (stepP st p) ∧ k ≤ i := by
  have P := reach_P h
  have hl : (fallRow st).length = i := by rw [fall_len, P.l1]
  have := parts_at (p := fun j => decide (-((fallRow st).getD j 0) < -(num (newW st p)))) (n := (fallRow st).length) (c := i - p) (by omega) (fun j hj => by
    rw [fall_at h (by omega), neg_num]
    exact (fall_place h hi hp (by omega)).1)
  refine ⟨this.1, fun k hk => ?_⟩
  rw [this.2 k hk]
  exact ⟨fall_step h hp, by omega⟩
theorem fall_right (h : st ∈ reach i) (hi : i < 6) (hp : p ≤ i) :
    Falls (fun j => !decide (-(num (newW st p)) < -((fallRow st).getD j 0))) 0 (fallRow st).length ∧ ∀ k, Parts (fun j => !decide (-(num (newW st p)) < -((fallRow st).getD j 0))) 0 (fallRow st).length k → (fallRow st).take k ++ num (newW st p) :: (fallRow st).drop k = fallRow (stepP st p) ∧ k ≤ i := by
  have P := reach_P h
  have hl : (fallRow st).length = i := by rw [fall_len, P.l1]
  have := parts_at (p := fun j => !decide (-(num (newW st p)) < -((fallRow st).getD j 0))) (n := (fallRow st).length) (c := i - p) (by omega) (fun j hj => by
    rw [fall_at h (by omega), neg_num]
    exact (fall_place h hi hp (by omega)).2)
  refine ⟨this.1, fun k hk => ?_⟩
  rw [this.2 k hk]
  exact ⟨fall_step h hp, by omega⟩
theorem bare_step (h : st ∈ reach i) (hi : i < 6) (hp : p ≤ i) : ∃ c, c ≤ (bareRow st).length ∧ bareRow (stepP st p) = (bareRow st).take c ++ newW st p :: (bareRow st).drop c := by
  have h' := reach_step h hp
  have p1 := bare_perm h' hi
  rw [nameRow_step h] at p1
  have p2 := (p1.trans (ins_perm _ _ _)).trans ((bare_perm h (Nat.le_of_lt hi)).symm.cons _)
  obtain ⟨l, r, e⟩ := List.append_of_mem (p2.mem_iff.mpr (.head _))
  have hs := (row_pair h' hi).2.2
  rw [e] at p2 hs
  have p3 := (List.perm_middle.symm.trans p2).cons_inv
  have hs2 : (l ++ r).Pairwise (fun a b => ltPre a b = true) := hs.sublist (List.Sublist.append_left (List.sublist_cons_self _ _) _)
  have e2 := perm_sorted ltPre_asymm hs2 (row_pair h (Nat.le_of_lt hi)).2.2 p3
  refine ⟨l.length, by rw [← e2, List.length_append]; exact Nat.le_add_right _ _, ?_⟩
  rw [e, ← e2, List.take_left, List.drop_left]
theorem bare_left (h : st ∈ reach i) (hi : i < 6) (hp : p ≤ i) :
    Falls (fun j => ltS (((bareRow st).map wordS).getD j Str.empty) (wordS (newW st p))) 0 ((bareRow st).map wordS).length ∧ ∀ k, Parts (fun j => ltS (((bareRow st).map wordS).getD j Str.empty) (wordS (newW st p))) 0 ((bareRow st).map wordS).length k → ((bareRow st).map wordS).take k ++ wordS (newW st p) :: ((bareRow st).map wordS).drop k = (bareRow (stepP st p)).map wordS := by
  obtain ⟨c, hc, e⟩ := bare_step h hi hp
  have hs := (row_pair (reach_step h hp) (by omega)).2.2
  rw [e] at hs
  have := parts_at (p := fun j => ltS (((bareRow st).map wordS).getD j Str.empty) (wordS (newW st p))) (n := ((bareRow st).map wordS).length) (c := c) (by rw [List.length_map]; exact hc) (fun j hj => by
    rw [getD_words, ltS_word]
    exact (ins_place ltPre_asymm hs (by rw [List.length_map] at hj; exact hj)).1)
  refine ⟨this.1, fun k hk => ?_⟩
  rw [this.2 k hk, e]
  simp
theorem bare_right (h : st ∈ reach i) (hi : i < 6) (hp : p ≤ i) :
    Falls (fun j => !ltS (wordS (newW st p)) (((bareRow st).map wordS).getD j Str.empty)) 0 ((bareRow st).map wordS).length ∧ ∀ k, Parts (fun j => !ltS (wordS (newW st p)) (((bareRow st).map wordS).getD j Str.empty)) 0 ((bareRow st).map wordS).length k → ((bareRow st).map wordS).take k ++ wordS (newW st p) :: ((bareRow st).map wordS).drop k = (bareRow (stepP st p)).map wordS := by
  obtain ⟨c, hc, e⟩ := bare_step h hi hp
  have hs := (row_pair (reach_step h hp) (by omega)).2.2
  rw [e] at hs
  have := parts_at (p := fun j => !ltS (wordS (newW st p)) (((bareRow st).map wordS).getD j Str.empty)) (n := ((bareRow st).map wordS).length) (c := c) (by rw [List.length_map]; exact hc) (fun j hj => by
    rw [getD_words, ltS_word]
    exact (ins_place ltPre_asymm hs (by rw [List.length_map] at hj; exact hj)).2)
  refine ⟨this.1, fun k hk => ?_⟩
  rw [this.2 k hk, e]
  simp
theorem bare_len (h : st ∈ reach i) (hi : i ≤ 6) : ((bareRow st).map wordS).length = i := by
  have P := reach_P h
  rw [List.length_map]
  show ((walkN 6 st.1).map _).length = i
  rw [List.length_map, (walkN_len 6 st.1 (by rw [P.l1]; exact hi)).length_eq, P.l1]
end
theorem tag_is (n : Int) : (Txt.item (Str.ofString "x|~") (Int.fmod n 3)).length = 1 ∧ OkS (Txt.item (Str.ofString "x|~") (Int.fmod n 3)) := by
  have h1 : 0 ≤ Int.fmod n 3 ∧ Int.fmod n 3 < 3 := by rw [Int.fmod_eq_emod_of_nonneg _ (by decide)]; omega
  have h2 : Int.fmod n 3 = 0 ∨ Int.fmod n 3 = 1 ∨ Int.fmod n 3 = 2 := by omega
  rcases h2 with h | h | h <;> rw [h] <;> exact ⟨by decide +kernel, by unfold OkS; decide +kernel⟩
theorem minL_zi : ∀ l : List Nat, minL (zi l) = ((minN l : Nat) : Int)
  | [] => rfl
  | [a] => rfl
  | a :: b :: r => by
    have ih := minL_zi (b :: r)
    simp only [zi, List.map_cons] at ih ⊢
    rw [minL, minN, ih]
    · split <;> split <;> omega
    · simp
    · simp
theorem idxOf_zi : ∀ (l : List Nat) (n : Nat), (zi l).idxOf (n : Int) = l.idxOf n
  | [], n => rfl
  | a :: r, n => by
    have ih := idxOf_zi r n
    simp only [zi, List.map_cons] at ih ⊢
    rw [List.idxOf_cons, List.idxOf_cons, ih]
    by_cases h : a = n
    · subst h; simp
    · have h' : ((a : Int) == (n : Int)) = false := by rw [beq_eq_false_iff_ne]; omega
      have h2 : (a == n) = false := by rw [beq_eq_false_iff_ne]; exact h
      rw [h', h2]
theorem walkF_zi : ∀ (f : Nat) (l : List Nat), walkF f (zi l) = zi (walkN f l)
  | 0, l => rfl
  | f + 1, l => by
    rw [walkF, walkN]
    by_cases h : l = []
    · subst h; rfl
    · rw [if_neg h, if_neg (by simpa [zi] using h), minL_zi, idxOf_zi]
      have e1 := walkF_zi f (l.take (l.idxOf (minN l)))
      have e2 := walkF_zi f (l.drop (l.idxOf (minN l) + 1))
      simp only [zi, List.map_append, List.map_cons, List.map_take, List.map_drop] at e1 e2 ⊢
      rw [e1, e2]
theorem walk_reach {i : Nat} {st : PSt} {rs : List Int} (h : st ∈ reach i) (hi : i ≤ 6) (hw : Walk (zi st.1) rs) : rs = zi (walkN 6 st.1) := by
  rw [← walk_is hw 6 (by simp [zi, (reach_P h).l1]; exact hi), walkF_zi]
theorem walk_bound {i : Nat} {st : PSt} (h : st ∈ reach i) (hi : i ≤ 6) : (walkN 6 st.1).length = i ∧ ∀ t ∈ walkN 6 st.1, t < i := by
  have P := reach_P h
  have := walkN_len 6 st.1 (by rw [P.l1]; exact hi)
  exact ⟨by rw [this.length_eq, P.l1], fun t ht => P.lt t (this.mem_iff.mp ht)⟩
theorem names_sorted {i : Nat} {st : PSt} {tag : Str} {ps : List (Bool × Str)} (h : st ∈ reach i) (hi : i ≤ 6) (e : ps.map (·.2) = rowT st tag) : ∀ a b, a < b → b < ps.length → ltS (tx ps a) (tx ps b) = true := by
  intro a b hab hb
  have P := reach_P h
  rw [ps_len h e] at hb
  rw [tx_row e (by rw [P.l1]; omega), tx_row e (by rw [P.l1]; omega), ltS_name]
  exact pair_getD (row_pair h hi).1 hab (by rw [nameRow_len, P.l1]; exact hb)
theorem count_one {i : Nat} {st : PSt} {tag : Str} {ps : List (Bool × Str)} (h : st ∈ reach i) (hi : i ≤ 6) (e : ps.map (·.2) = rowT st tag) {k : Nat} (hk : k < i) : ps.countP (fun p => p.2 == nameS (wdN st.2 (st.1.getD k 0)) tag) = 1 := by
  have P := reach_P h
  have e1 : ps.countP (fun p => p.2 == nameS (wdN st.2 (st.1.getD k 0)) tag) = (rowT st tag).count (nameS (wdN st.2 (st.1.getD k 0)) tag) := by
    rw [← e, List.count, List.countP_map]; rfl
  rw [e1]
  have hnd : (rowT st tag).Nodup := by
    rw [rowT_is]
    refine List.pairwise_map.mpr ((row_pair h hi).1.imp ?_)
    intro a b hab q
    rw [nameS_inj q, ltIn_irrefl] at hab
    cases hab
  have hm : nameS (wdN st.2 (st.1.getD k 0)) tag ∈ rowT st tag := by
    rw [rowT_is]
    exact List.mem_map.mpr ⟨_, List.mem_map.mpr ⟨_, getD_mem _ _ _ (by rw [P.l1]; exact hk), rfl⟩, rfl⟩
  exact hnd.count ▸ if_pos hm

/-- where a piece of the walk ends: a value by R, the frame as it was -/
def MidR {α : Type} (h₀ : Heap) (L : Addr) (m : Str → Option Value) (R : α → Led → Prop) (s : Shared) (v : α) (s' : Shared) : Prop := ∃ h' tk news', s' = { s with heap := h', toks := tk } ∧ Fr h₀ L h' m ∧ News h₀ L h' news' ∧ R v news'
def MidV {α : Type} (h₀ : Heap) (L : Addr) (m : Str → Option Value) (news : Led) (R : α → Prop) (s : Shared) (v : α) (s' : Shared) : Prop := ∃ h' tk, s' = { s with heap := h', toks := tk } ∧ Fr h₀ L h' m ∧ News h₀ L h' news ∧ R v
theorem MidR.intro {α : Type} {h₀ : Heap} {L : Addr} {m : Str → Option Value} {R : α → Led → Prop} {s : Shared} {v : α} {h' : Heap} {tk : Nat} {news' : Led} (F : Fr h₀ L h' m) (N : News h₀ L h' news') (h : R v news') : MidR h₀ L m R s v { s with heap := h', toks := tk } := ⟨_, _, _, rfl, F, N, h⟩
theorem MidV.intro {α : Type} {h₀ : Heap} {L : Addr} {m : Str → Option Value} {news : Led} {R : α → Prop} {s : Shared} {v : α} {h' : Heap} {tk : Nat} (F : Fr h₀ L h' m) (N : News h₀ L h' news) (h : R v) : MidV h₀ L m news R s v { s with heap := h', toks := tk } := ⟨_, _, rfl, F, N, h⟩
theorem mid_of {α : Type} {prog : Program} {w : World} {A : Around} {x : Sem α} {h₀ : Heap} {L : Addr} {m : Str → Option Value} {s : Shared} {Q : α → Shared → Prop} {E : Value → Shared → Prop} (R : α → Led → Prop) (_ : Fr h₀ L s.heap m)
    (h1 : wpAny (model prog w) A x (MidR h₀ L m R s) E s)
    (h2 : ∀ v news' h' tk, R v news' → Fr h₀ L h' m → News h₀ L h' news' → Q v { s with heap := h', toks := tk }) : wpAny (model prog w) A x Q E s :=
  wpAny_mono h1 (by rintro v _ ⟨h', tk, news', rfl, F', N', hR⟩; exact h2 v news' h' tk hR F' N') fun _ _ e => e
theorem mid_val {α : Type} {prog : Program} {w : World} {A : Around} {x : Sem α} {h₀ : Heap} {L : Addr} {m : Str → Option Value} {news : Led} {s : Shared} {Q : α → Shared → Prop} {E : Value → Shared → Prop} (R : α → Prop) (_ : Fr h₀ L s.heap m) (_ : News h₀ L s.heap news)
    (h1 : wpAny (model prog w) A x (MidV h₀ L m news R s) E s)
    (h2 : ∀ v h' tk, R v → Fr h₀ L h' m → News h₀ L h' news → Q v { s with heap := h', toks := tk }) : wpAny (model prog w) A x Q E s :=
  wpAny_mono h1 (by rintro v _ ⟨h', tk, rfl, F', N', hR⟩; exact h2 v h' tk hR F' N') fun _ _ e => e
theorem Ints.ins {vs : List Value} {ns : List Int} (h : Ints vs ns) (k : Nat) (x : Int) (u : Tok) : Ints (vs.take k ++ .int x u :: vs.drop k) (ns.take k ++ x :: ns.drop k) := by
  induction h generalizing k with
  | nil => simp; exact .cons .nil
  | cons h ih => cases k with
    | zero => exact .cons (.cons h)
    | succ k => exact .cons (ih k)
theorem Texts.ins {vs : List Value} {ns : List Str} (h : Texts vs ns) (k : Nat) (x : Str) (u : Tok) : Texts (vs.take k ++ .str x u :: vs.drop k) (ns.take k ++ x :: ns.drop k) := by
  induction h generalizing k with
  | nil => simp; exact .cons .nil
  | cons h ih => cases k with
    | zero => exact .cons (.cons h)
    | succ k => exact .cons (ih k)
theorem Names.ins {w : World} {news : Led} {vs : List Value} {ns : List (Bool × Str)} (h : Names w news vs ns) {v : Value} {b : Bool} {x : Str} (hv : NameV w news v b x) (k : Nat) : Names w news (vs.take k ++ v :: vs.drop k) (ns.take k ++ (b, x) :: ns.drop k) := by
  induction h generalizing k with
  | nil => simp; exact .cons hv .nil
  | cons h1 h ih => cases k with
    | zero => exact .cons hv (.cons h1 h)
    | succ k => exact .cons h1 (ih k)
theorem Ints.snoc {vs : List Value} {ns : List Int} (h : Ints vs ns) (x : Int) (u : Tok) : Ints (vs ++ [.int x u]) (ns ++ [x]) := by
  have := h.ins vs.length x u
  rw [h.length] at this
  rw [← h.length, List.take_length, List.drop_length, h.length, List.take_length, List.drop_length] at this
  exact this
theorem Texts.snoc {vs : List Value} {ns : List Str} (h : Texts vs ns) (x : Str) (u : Tok) : Texts (vs ++ [.str x u]) (ns ++ [x]) := by
  have := h.ins vs.length x u
  rw [h.length] at this
  rw [← h.length, List.take_length, List.drop_length, h.length, List.take_length, List.drop_length] at this
  exact this
structure LawSt where
  st : PSt
  ps : List (Bool × Str)
  qs : Led
  vB : List Value
  nB : Nat
  vF : List Value
  nF : Nat
  vN : List Value
  nN : Nat
  vM : List Value
  nM : Nat
  vW : List Value
  nW : Nat
  vL : List Value
  nL : Nat
abbrev LawLd (aB aF aN aM aW aL : Addr) (p1 p2 p3 p4 : Addr × Obj) (c : LawSt) : Led :=
  (aB, listOf c.vB.toArray c.nB) :: (aF, listOf c.vF.toArray c.nF) :: (aN, listOf c.vN.toArray c.nN) :: (aM, listOf c.vM.toArray c.nM) :: (aW, listOf c.vW.toArray c.nW) :: (aL, listOf c.vL.toArray c.nL) :: p1 :: p2 :: p3 :: p4 :: c.qs
structure LawP (w : World) (tag : Str) (aB : Addr) (i : Nat) (c : LawSt) : Prop where
  st : c.st ∈ reach i
  L : Ints c.vL (zi c.st.1)
  W : Texts c.vW (c.st.2.map wordS)
  M : Ints c.vM (c.st.2.map num)
  N : Names w c.qs c.vN c.ps
  t : c.ps.map (·.2) = rowT c.st tag
  F : Ints c.vF (fallRow c.st)
  B : Texts c.vB ((bareRow c.st).map wordS)
  q : ∀ p ∈ c.qs, aB < p.1
section
variable {prog : Program} {w : World} {A : Around} {E : Value → Shared → Prop} {s : Shared} {env : Env} {h₀ : Heap} {x : Str} {body : List Stmt} {Q : Flow → Shared → Prop}
theorem for_range0_st {σ : Type} {r : Addr} {b₀ : Int} {t₀ u₀ v₀ : Tok} {n : Nat} {m₀ : Str → Option Value} (Ld : σ → Led) (ps : σ → List (Str × Value)) (stored : List Str) (P : Nat → σ → Prop) (c₀ : σ)
    (hh : A.handled = none) (hr : IsRange s.heap r 0 b₀ 1 t₀ u₀ v₀) (hsmall : Builtin.Range.small 0 b₀ 1 = true) (hn : Builtin.Range.rangeSize 0 b₀ 1 = (n : Int)) (F : Fr h₀ env.locals s.heap m₀) (N : News h₀ env.locals s.heap (Ld c₀)) (hk : ∀ p ∈ ps c₀, m₀ p.1 = some p.2) (hp : P 0 c₀)
    (turn : ∀ (c : σ) i t (u : Str → Option Value) h tk I oI, i < n → P i c → (∀ p ∈ Ld c, p.1 ≠ I) → Fr h₀ env.locals h (fun y => if y = x then some (.int (i : Int) t) else kstB (fun z => if stored.contains z then u z else m₀ z) (ps c) y) → News h₀ env.locals h ((I, oI) :: Ld c) →
      wpAny (model prog w) A (execs body env) (TbPost h₀ env.locals (StJ Ld ps x stored m₀ P (i + 1)) [(I, oI)] { s with heap := h, toks := tk } Q) E { s with heap := h, toks := tk })
    (done : ∀ (c : σ) (u : Str → Option Value) h tk, P n c → Fr h₀ env.locals h (fun y => if y = x then u y else kstB (fun z => if stored.contains z then u z else m₀ z) (ps c) y) → News h₀ env.locals h (Ld c) → Q .next { s with heap := h, toks := tk }) :
    wpAny (model prog w) A (pyIter (.ref r)) (fun it s₂ => LoopAtV prog w A h₀ env x body Q E it s₂) E s := by
  refine for_range_st Ld ps stored P c₀ hh hr hsmall hn F N hk hp ?_ done
  intro c i t u h tk I oI hi hP hI F₁ N₁
  rw [Int.zero_add] at F₁
  exact turn c i t u h tk I oI hi hP hI F₁ N₁
end
theorem place_is (e : Int) (i : Nat) (h : 0 ≤ e) : ∃ p : Nat, Int.fmod e ((i : Int) + 1) = (p : Int) ∧ p ≤ i := by
  have h1 : 0 ≤ Int.fmod e ((i : Int) + 1) ∧ Int.fmod e ((i : Int) + 1) < (i : Int) + 1 := by
    rw [Int.fmod_eq_emod_of_nonneg _ (by omega)]
    exact ⟨Int.emod_nonneg _ (by omega), Int.emod_lt_of_pos _ (by omega)⟩
  exact ⟨(Int.fmod e ((i : Int) + 1)).toNat, by omega, by omega⟩
theorem zi_getD (l : List Nat) (k : Nat) : (zi l).getD k 0 = ((l.getD k 0 : Nat) : Int) := by
  unfold zi
  rw [List.getD_eq_getElem?_getD, List.getD_eq_getElem?_getD, List.getElem?_map]
  cases l[k]? <;> rfl
theorem zi_len (l : List Nat) : (zi l).length = l.length := by simp [zi]
theorem ahd_pos {line : List Nat} {p : Nat} (h : 0 < p) : (zi line).getD ((p : Int) - 1).toNat 0 = ahd line p := by
  rw [zi_getD, ahd, if_pos h, pa]
  congr 3
  omega
theorem ahd_neg {line : List Nat} {p : Nat} (h : ¬ 0 < p) : -1 = ahd line p := by rw [ahd, if_neg h]
theorem bhd_pos {line : List Nat} {p : Nat} (h : p < line.length) : (zi line).getD ((p : Int)).toNat 0 = bhd line p := by
  rw [zi_getD, bhd, if_pos h, pb, Int.toNat_natCast]
theorem bhd_neg {line : List Nat} {p : Nat} (h : ¬ p < line.length) : -1 = bhd line p := by rw [bhd, if_neg h]
theorem int_same {x y : Int} {t : Tok} (h : x = y) : ∃ t', Value.int x t = .int y t' := ⟨t, by rw [h]⟩
theorem str_same' {x y : Str} {t : Tok} (h : x = y) : ∃ t', Value.str x t = .str y t' := ⟨t, by rw [h]⟩

theorem mem_put {e0 e1 e2 e3 e4 e5 e6 e7 e8 e9 e10 x y : Addr × Obj} {qs : Led} : ∀ p ∈ e0 :: e1 :: e2 :: e3 :: e4 :: e5 :: e6 :: e7 :: e8 :: e9 :: e10 :: x :: y :: qs, p ∈ x :: y :: e0 :: e1 :: e2 :: e3 :: e4 :: e5 :: e6 :: e7 :: e8 :: e9 :: e10 :: qs := by
  intro p hp
  have h : p ∈ [e0, e1, e2, e3, e4, e5, e6, e7, e8, e9, e10] ++ x :: y :: qs := hp
  show p ∈ x :: y :: ([e0, e1, e2, e3, e4, e5, e6, e7, e8, e9, e10] ++ qs)
  rcases List.mem_append.mp h with h | h
  · exact .tail _ (.tail _ (List.mem_append_left _ h))
  · rcases List.mem_cons.mp h with rfl | h
    · exact .head _
    · rcases List.mem_cons.mp h with rfl | h
      · exact .tail _ (.head _)
      · exact .tail _ (.tail _ (List.mem_append_right _ h))

theorem append_my {prog : Program} {w : World} {A : Around} {E : Value → Shared → Prop} {s : Shared} {h₀ : Heap} {L a : Addr} {m : Str → Option Value} {news : Led} {g : Obj → Led} {vs : List Value} {n : Nat} {y : Value} {Q : Value → Shared → Prop} (F : Fr h₀ L s.heap m) (N : News h₀ L s.heap news) (U : UpdF a (listOf vs.toArray n) news g) (hz : vs.length ≤ 100000)
    (h : ∀ h', Fr h₀ L h' m → News h₀ L h' (g (listOf (vs ++ [y]).toArray (n + 1))) → Q .none { s with heap := h' }) :
    wpAny (model prog w) A (call (.builtin "list.append") [.ref a, y]) Q E s := by
  refine append_K F N (updF_upd U _) ?_ ?_
  · intro h' F' N'
    rw [List.push_toArray] at N'
    exact h h' F' N'
  · show vs.length ≤ _
    rw [sizeLine_eq]; omega
theorem zi_ins (l : List Nat) (p : Nat) (k : Nat) : (zi l).take p ++ ((k : Nat) : Int) :: (zi l).drop p = zi (l.take p ++ k :: l.drop p) := by simp [zi]

/-- a list comprehension's turns, told by J -/
theorem comp_J {prog : Program} {w : World} {A : Around} {h₀ : Heap} {L : Addr} {m : Str → Option Value} {env : Env} {elt : Expr} {x : Str} {scope : Scope} {cl : List (Str × Addr)} {s : Shared} {S : Led → Prop} {P : Nat → Value → Prop} {Fin : List Value → Led → Prop} {n : Nat} (J : Nat → List Value → Led → Prop)
    (turn : ∀ i ys nx v I oI C oC D m₂ h tk (E' : Value → Shared → Prop), i < n → P i v → J i ys nx → LCg.NsObj oC m₂ → m₂ x = some v → Fr h₀ L h m → News h₀ L h ((I, oI) :: (C, oC) :: (D, LCg.lst ys) :: nx) → LCg.Off3 I C D nx → ((@Ne Nat I C) ∧ (@Ne Nat I D) ∧ (@Ne Nat C D)) →
      wpAny (model prog w) A (eval elt (compEnvC scope cl C env)) (LCg.CompEnd h₀ L m { s with heap := h, toks := tk } I oI C oC D (LCg.lst ys) S (fun y nx' => J (i + 1) (ys ++ [y]) nx')) E' { s with heap := h, toks := tk })
    (fin : ∀ ys nx, J n ys nx → Fin ys nx) : ∀ k i ys nx, k + i = n → J i ys nx → LCg.CompRest prog w A h₀ L m env elt x scope cl s S P Fin k i ys nx
  | 0, i, ys, nx, e, h => LCg.CompRest.zero (fin ys nx (by rw [← e, Nat.zero_add]; exact h))
  | k + 1, i, ys, nx, e, h => by
    refine LCg.CompRest.succ ?_
    intro v I oI C oC D m₂ h' tk E' hP hC hx F N off ne
    refine wpAny_mono (turn i ys nx v I oI C oC D m₂ h' tk E' (by omega) hP h hC hx F N off ne) ?_ fun _ _ q => q
    rintro y _ ⟨h'', tk'', nx', rfl, F', N', off', hS', hr⟩
    exact ⟨h'', tk'', nx', rfl, F', N', off', hS', comp_J J turn fin k (i + 1) (ys ++ [y]) nx' (by omega) hr⟩
theorem comp_end {h₀ : Heap} {L I C D : Addr} {m : Str → Option Value} {s₁ : Shared} {oI oC oD : Obj} {S : Led → Prop} {rest : Value → Led → Prop} {y : Value} {h' : Heap} {tk : Nat} {nx : Led}
    (F : Fr h₀ L h' m) (N : News h₀ L h' ((I, oI) :: (C, oC) :: (D, oD) :: nx)) (off : LCg.Off3 I C D nx) (hS : S nx) (r : rest y nx) :
    LCg.CompEnd h₀ L m s₁ I oI C oC D oD S rest y { s₁ with heap := h', toks := tk } := ⟨h', tk, nx, rfl, F, N, off, hS, r⟩
set_option maxHeartbeats 2000000 in
theorem text_any {w : World} {news : Led} {v : Value} {b : Bool} {x : Str} (h : NameV w news v b x) : Does w 1 60 212 [v] [] news (fun r n => n = news ∧ ∃ t, r = .str x t) := by
  cases h with
  | str x t => exact text_str w news x t
  | qn h1 h2 =>
    unfold Does
    intros; rename_i hret
    rename News _ _ _ _ => N0
    refine Does.use (text_q w news _ _ _ _ _) (by assumption) (by assumption) (by assumption) (news_more (news_more N0 h2) (.tail _ h1)) (by assumption) (by assumption) (by assumption) (by assumption) ?_
    rintro r n h tk ⟨rfl, t, rfl⟩ F N
    exact hret _ _ _ _ ⟨rfl, _, rfl⟩ F (news_less (news_less N))
theorem Names.at {w : World} {news : Led} {vs : List Value} {ps : List (Bool × Str)} (h : Names w news vs ps) {i : Nat} (hi : i < ps.length) : ∃ v b, vs[i]? = some v ∧ NameV w news v b (tx ps i) ∧ b = (ps[i]'hi).1 := by
  obtain ⟨v, p, h1, h2, h3⟩ := h.get hi
  have e : ps[i] = p := by rw [List.getElem?_eq_getElem hi] at h2; exact Option.some.inj h2
  refine ⟨v, p.1, h1, ?_, by rw [e]⟩
  have e2 : tx ps i = p.2 := by unfold tx; rw [h2]; rfl
  rw [e2]; exact h3
theorem take_snoc {α : Type} (l : List α) (i : Nat) (d : α) (h : i < l.length) : l.take (i + 1) = l.take i ++ [l.getD i d] := by
  rw [List.take_succ_eq_append_getElem h, List.getD_eq_getElem?_getD, List.getElem?_eq_getElem h]
  rfl
theorem rowT_getD {st : PSt} {tag : Str} {i : Nat} (h : i < st.1.length) : (rowT st tag).getD i Str.empty = nameS (wdN st.2 (st.1.getD i 0)) tag := by
  have e : rowT st tag = st.1.map (fun t => nameS (wdN st.2 t) tag) := by show (st.1.map _).map _ = _; rw [List.map_map]; rfl
  rw [e, List.getD_eq_getElem?_getD, List.getElem?_map, List.getElem?_eq_getElem h, List.getD_eq_getElem?_getD, List.getElem?_eq_getElem h]
  rfl
theorem pick_all (vs : List Value) : slicePick vs.toArray none none none = vs.toArray := by
  rw [kmk_pick_nat (a := 0) (b := vs.length) vs.toArray (by simp [sliceBounds])]
  simp
theorem Ints.append {vs us : List Value} {ns ms : List Int} (h : Ints vs ns) (h' : Ints us ms) : Ints (vs ++ us) (ns ++ ms) := by
  induction h with
  | nil => exact h'
  | cons _ ih => exact .cons ih
theorem Ints.reverse {vs : List Value} {ns : List Int} (h : Ints vs ns) : Ints vs.reverse ns.reverse := by
  induction h with
  | nil => exact .nil
  | cons _ ih => rw [List.reverse_cons, List.reverse_cons]; exact ih.append (.cons .nil)
theorem zi_reverse (l : List Nat) : (zi l).reverse = zi l.reverse := by simp [zi]

theorem extend_my {prog : Program} {w : World} {A : Around} {E : Value → Shared → Prop} {s : Shared} {h₀ : Heap} {L a b : Addr} {m : Str → Option Value} {news : Led} {g : Obj → Led} {vs ys : List Value} {n k : Nat} {Q : Value → Shared → Prop} (F : Fr h₀ L s.heap m) (N : News h₀ L s.heap news) (hb : (b, listOf ys.toArray k) ∈ news) (hne : ys.length ≠ 0) (U : UpdF a (listOf vs.toArray n) news g) (hz : vs.length ≤ 1000) (hz2 : ys.length ≤ 1000)
    (h : ∀ h', Fr h₀ L h' m → News h₀ L h' (g (listOf (vs ++ ys).toArray (n + 1))) → Q .none { s with heap := h' }) :
    wpAny (model prog w) A (call (.builtin "list.extend") [.ref a, .ref b]) Q E s := by
  refine kl_extend (l := vs ++ ys) F N hb rfl hne (updF_upd U _) ?_ ?_ ?_ h
  · rw [List.size_toArray, List.size_toArray]
    have e : Builtin.List.listTooLong (vs.length + ys.length) = false := by
      unfold Builtin.List.listTooLong
      rw [sizeLine_eq]
      simp
      omega
    rw [e]; simp
  · show vs.length ≤ _
    rw [sizeLine_eq]; omega
  · rw [List.size_toArray, List.size_toArray, sizeLine_eq]; omega
set_option maxHeartbeats 2000000 in
theorem other_any {w : World} {news : Led} {v : Value} {b : Bool} {x : Str} (h : NameV w news v b x) : Does w 3 60 219 [v] [] news (fun r n => ∃ q' : Led, n = q' ++ news ∧ NameV w q' r (!b) x ∧ ∀ p ∈ q', ∀ p' ∈ news, p'.1 < p.1) := by
  cases h with
  | str x t =>
    unfold Does
    intros; rename_i hret
    refine Does.use (other_str w news x t) (by assumption) (by assumption) (by assumption) (by assumption) (by assumption) (by assumption) (by assumption) (by assumption) ?_
    rintro r n h tk ⟨a, d, k, t, rfl, rfl, hl, hda⟩ F N
    refine hret _ _ _ _ ⟨[_, _], rfl, .qn (.head _) (.tail _ (.head _)), ?_⟩ F N
    intro p hp p' hp'
    rcases List.mem_cons.mp hp with rfl | hp
    · exact Nat.lt_trans (hl _ hp') hda
    · rw [List.mem_singleton.mp hp]
      exact hl _ hp'
  | qn h1 h2 =>
    unfold Does
    intros; rename_i hret
    rename News _ _ _ _ => N0
    rename _ + 3 < recursionLimit => h3
    refine Does.use (other_q w news _ _ _ _ _) (by assumption) (by assumption) (by assumption) (news_more (news_more N0 h2) (.tail _ h1)) (by assumption) (by assumption) (by omega) (by assumption) ?_
    rintro r n h tk ⟨rfl, t, rfl⟩ F N
    exact hret _ _ _ _ ⟨[], rfl, .str _ _, fun _ hp => nomatch hp⟩ F (news_less (news_less N))
def twice : List Str → List Str
  | [] => []
  | x :: r => x :: x :: twice r
theorem twice_length : ∀ l : List Str, (twice l).length = 2 * l.length
  | [] => rfl
  | x :: r => by simp [twice, twice_length r]; omega
theorem twice_getD : ∀ (l : List Str) (j : Nat), (twice l).getD j Str.empty = l.getD (j / 2) Str.empty
  | [], j => by simp [twice]
  | x :: r, 0 => rfl
  | x :: r, 1 => rfl
  | x :: r, j + 2 => by
    have : (j + 2) / 2 = j / 2 + 1 := by omega
    rw [this]
    exact twice_getD r j
theorem twice_snoc : ∀ (l : List Str) (x : Str), twice (l ++ [x]) = twice l ++ [x, x]
  | [], _ => rfl
  | y :: r, x => by simp [twice, twice_snoc r x]
theorem mem_puts {e0 e1 e2 e3 e4 e5 e6 e7 e8 e9 e10 e11 e12 e13 : Addr × Obj} {q' qs : Led} : ∀ p ∈ e0 :: e1 :: e2 :: e3 :: e4 :: e5 :: e6 :: e7 :: e8 :: e9 :: e10 :: e11 :: e12 :: e13 :: (q' ++ qs), p ∈ q' ++ e0 :: e1 :: e2 :: e3 :: e4 :: e5 :: e6 :: e7 :: e8 :: e9 :: e10 :: e11 :: e12 :: e13 :: qs := by
  intro p hp
  have h : p ∈ [e0, e1, e2, e3, e4, e5, e6, e7, e8, e9, e10, e11, e12, e13] ++ (q' ++ qs) := hp
  show p ∈ q' ++ ([e0, e1, e2, e3, e4, e5, e6, e7, e8, e9, e10, e11, e12, e13] ++ qs)
  rcases List.mem_append.mp h with h | h
  · exact List.mem_append_right _ (List.mem_append_left _ h)
  · rcases List.mem_append.mp h with h | h
    · exact List.mem_append_left _ h
    · exact List.mem_append_right _ (List.mem_append_right _ h)
structure BothSt where
  pd : List (Bool × Str)
  qs : Led
  vBo : List Value
  nBo : Nat
  vD : List Value
  nD : Nat
structure BothP (w : World) (ps : List (Bool × Str)) (qs₀ : Led) (aD : Addr) (i : Nat) (c : BothSt) : Prop where
  B : Names w c.qs c.vBo (c.pd ++ ps.drop i)
  D : Names w c.qs c.vD c.pd
  t : c.pd.map (·.2) = twice ((ps.take i).map (·.2))
  s : ∀ p ∈ qs₀, p ∈ c.qs
  q : ∀ p ∈ c.qs, p ∈ qs₀ ∨ aD < p.1

theorem ltS_irrefl (x : Str) : ltS x x = false := decide_eq_false (List.lt_irrefl _)
theorem ltS_asymm {x y : Str} (h : ltS x y = true) : ltS y x = false := decide_eq_false (List.lt_asymm (of_decide_eq_true h))
theorem getD_left {l r : List Str} {j : Nat} (h : j < l.length) : (l ++ r).getD j Str.empty = l.getD j Str.empty := by
  rw [List.getD_eq_getElem?_getD, List.getD_eq_getElem?_getD, List.getElem?_append_left h]
theorem getD_right {l r : List Str} {j : Nat} (h : l.length ≤ j) : (l ++ r).getD j Str.empty = r.getD (j - l.length) Str.empty := by
  rw [List.getD_eq_getElem?_getD, List.getD_eq_getElem?_getD, List.getElem?_append_right h]
theorem tx_both {ps pd : List (Bool × Str)} {i : Nat} (hi : i ≤ ps.length) (ht : pd.map (·.2) = twice ((ps.take i).map (·.2))) (j : Nat) : tx (pd ++ ps.drop i) j = tx ps (if j < 2 * i then j / 2 else j - i) := by
  have hl : pd.length = 2 * i := by
    rw [← List.length_map (f := fun (x : Bool × Str) => x.2), ht, twice_length, List.length_map, List.length_take]; omega
  rw [tx_getD, tx_getD, List.map_append, ht]
  by_cases h : j < 2 * i
  · rw [if_pos h, getD_left (by rw [← ht, List.length_map]; omega), twice_getD, List.map_take]
    rw [List.getD_eq_getElem?_getD, List.getD_eq_getElem?_getD, List.getElem?_take_of_lt (by omega)]
  · rw [if_neg h, getD_right (by rw [← ht, List.length_map]; omega), ← ht, List.length_map, hl, List.map_drop]
    rw [List.getD_eq_getElem?_getD, List.getD_eq_getElem?_getD, List.getElem?_drop]
    congr 2
    congr 1
    omega
theorem both_left {ps pd : List (Bool × Str)} {i : Nat} (hi : i < ps.length) (hS : ∀ a b, a < b → b < ps.length → ltS (tx ps a) (tx ps b) = true) (ht : pd.map (·.2) = twice ((ps.take i).map (·.2))) :
    Falls (fun j => ltS (tx (pd ++ ps.drop i) j) (tx ps i)) 0 (pd ++ ps.drop i).length ∧ ∀ k, Parts (fun j => ltS (tx (pd ++ ps.drop i) j) (tx ps i)) 0 (pd ++ ps.drop i).length k → k = 2 * i := by
  have hl : pd.length = 2 * i := by
    rw [← List.length_map (f := fun (x : Bool × Str) => x.2), ht, twice_length, List.length_map, List.length_take]; omega
  refine parts_at (by rw [List.length_append]; omega) fun j hj => ?_
  rw [List.length_append, List.length_drop] at hj
  rw [tx_both (by omega) ht]
  by_cases h : j < 2 * i
  · rw [if_pos h, decide_eq_true h]
    exact hS _ _ (by omega) hi
  · rw [if_neg h, decide_eq_false h]
    rcases Nat.lt_or_ge i (j - i) with h1 | h1
    · exact ltS_asymm (hS _ _ h1 (by omega))
    · have : j - i = i := by omega
      rw [this]; exact ltS_irrefl _
theorem both_right {ps pd : List (Bool × Str)} {i : Nat} (hi : i < ps.length) (hS : ∀ a b, a < b → b < ps.length → ltS (tx ps a) (tx ps b) = true) (ht : pd.map (·.2) = twice ((ps.take i).map (·.2))) :
    Falls (fun j => !ltS (tx ps i) (tx (pd ++ ps.drop i) j)) 0 (pd ++ ps.drop i).length ∧ ∀ k, Parts (fun j => !ltS (tx ps i) (tx (pd ++ ps.drop i) j)) 0 (pd ++ ps.drop i).length k → k = 2 * i + 1 := by
  have hl : pd.length = 2 * i := by
    rw [← List.length_map (f := fun (x : Bool × Str) => x.2), ht, twice_length, List.length_map, List.length_take]; omega
  refine parts_at (by rw [List.length_append, List.length_drop]; omega) fun j hj => ?_
  rw [List.length_append, List.length_drop] at hj
  rw [tx_both (by omega) ht]
  by_cases h : j < 2 * i
  · rw [if_pos h, decide_eq_true (by omega), ltS_asymm (hS (j / 2) i (by omega) hi)]; rfl
  · rw [if_neg h]
    rcases Nat.lt_or_ge i (j - i) with h1 | h1
    · rw [hS _ _ h1 (by omega), decide_eq_false (by omega)]; rfl
    · have : j - i = i := by omega
      rw [this, ltS_irrefl, decide_eq_true (by omega)]; rfl
theorem drop_at {ps : List (Bool × Str)} {i : Nat} (hi : i < ps.length) : ps.drop i = ps[i] :: ps.drop (i + 1) := List.drop_eq_getElem_cons hi
theorem ins_left {ps pd : List (Bool × Str)} {i : Nat} (hi : i < ps.length) (hl : pd.length = 2 * i) (o : Bool × Str) :
    (pd ++ ps.drop i).take (2 * i) ++ o :: (pd ++ ps.drop i).drop (2 * i) = (pd ++ [o, ps[i]]) ++ ps.drop (i + 1) := by
  rw [← hl, List.take_left, List.drop_left, drop_at hi]
  simp
theorem ins_right {ps pd : List (Bool × Str)} {i : Nat} (hi : i < ps.length) (hl : pd.length = 2 * i) (o : Bool × Str) :
    (pd ++ ps.drop i).take (2 * i + 1) ++ o :: (pd ++ ps.drop i).drop (2 * i + 1) = (pd ++ [ps[i], o]) ++ ps.drop (i + 1) := by
  rw [drop_at hi]
  have e : pd ++ ps[i] :: ps.drop (i + 1) = (pd ++ [ps[i]]) ++ ps.drop (i + 1) := by simp
  have e2 : 2 * i + 1 = (pd ++ [ps[i]]).length := by simp [hl]
  rw [e, e2, List.take_left, List.drop_left]
  simp
theorem twice_next {ps pd : List (Bool × Str)} {i : Nat} (hi : i < ps.length) (ht : pd.map (·.2) = twice ((ps.take i).map (·.2))) (o1 o2 : Bool × Str) (h1 : o1.2 = (ps[i]).2) (h2 : o2.2 = (ps[i]).2) :
    (pd ++ [o1, o2]).map (·.2) = twice ((ps.take (i + 1)).map (·.2)) := by
  rw [List.take_succ_eq_append_getElem hi, List.map_append, List.map_append, ht, List.map_singleton, twice_snoc]
  simp [h1, h2]
theorem Names.append {w : World} {news : Led} {vs us : List Value} {ns ms : List (Bool × Str)} (h : Names w news vs ns) (h' : Names w news us ms) : Names w news (vs ++ us) (ns ++ ms) := by
  induction h with
  | nil => exact h'
  | cons h1 _ ih => exact .cons h1 ih
theorem mem_rot {t i c d : Addr × Obj} {r : Led} : ∀ p ∈ i :: c :: d :: t :: r, p ∈ t :: i :: c :: d :: r := by
  intro p hp
  simp only [List.mem_cons] at hp ⊢
  rcases hp with h | h | h | h | h
  · exact .inr (.inl h)
  · exact .inr (.inr (.inl h))
  · exact .inr (.inr (.inr (.inl h)))
  · exact .inl h
  · exact .inr (.inr (.inr (.inr h)))
theorem Pairs.mono {news news' : Led} {vs : List Value} {xs : List (Bool × Str)} (h : Pairs news vs xs) (hs : ∀ p ∈ news, p ∈ news') : Pairs news' vs xs := by
  induction h with
  | nil => exact .nil
  | cons h1 _ ih => exact .cons (hs _ h1) ih
theorem Pairs.snoc {news : Led} {vs : List Value} {xs : List (Bool × Str)} (h : Pairs news vs xs) {a : Addr} {b : Bool} {x : Str} {t : Tok} {n : Nat} (h1 : (a, ({ cls := .type "tuple", data := .seq #[.bool b, .str x t] n } : Obj)) ∈ news) : Pairs news (vs ++ [.ref a]) (xs ++ [(b, x)]) := by
  induction h with
  | nil => exact .cons h1 .nil
  | cons h2 _ ih => exact .cons h2 ih
theorem tx_at {ps : List (Bool × Str)} {i : Nat} (h : i < ps.length) : tx ps i = (ps[i]).2 := by unfold tx; rw [List.getElem?_eq_getElem h]; rfl
theorem names_ok {ps : List (Bool × Str)} (h : ∀ x ∈ ps.map (·.2), OkS x) : ∀ x ∈ ps, OkS x.2 := fun x hx => h _ (List.mem_map.mpr ⟨x, hx, rfl⟩)
theorem mem_twice : ∀ {l : List Str} {x : Str}, x ∈ twice l → x ∈ l
  | y :: r, x, h => by
    rcases List.mem_cons.mp h with rfl | h
    · exact .head _
    · rcases List.mem_cons.mp h with rfl | h
      · exact .head _
      · exact .tail _ (mem_twice h)
theorem range_up (i : Nat) (h : i < 6) : Builtin.Range.small (i : Int) 6 1 = true ∧ Builtin.Range.rangeSize (i : Int) 6 1 = ((6 - i : Nat) : Int) := by
  have e : ∀ k : Fin 6, Builtin.Range.small (k.val : Int) 6 1 = true ∧ Builtin.Range.rangeSize (k.val : Int) 6 1 = ((6 - k.val : Nat) : Int) := by decide +kernel
  exact e ⟨i, h⟩
theorem NameV.ne {w : World} {qs : Led} {v : Value} {b : Bool} {x : Str} (h : NameV w qs v b x) {a : Addr} (hq : ∀ p ∈ qs, p.1 ≠ a) : v ≠ .ref a := by
  cases h with
  | str => intro e; cases e
  | qn q1 q2 =>
    intro e
    injection e with e
    exact hq _ q1 e
theorem names_ne {w : World} {qs : Led} {vs : List Value} {ps : List (Bool × Str)} (h : Names w qs vs ps) {a : Addr} (hq : ∀ p ∈ qs, p.1 ≠ a) : ∀ v ∈ vs, v ≠ .ref a := by
  induction h with
  | nil => intro v hv; cases hv
  | cons h1 _ ih =>
    intro v hv
    rcases List.mem_cons.mp hv with e0 | hv
    · rw [e0]; exact h1.ne hq
    · exact ih v hv

section
variable {prog : Program} {w : World} {A : Around} {E : Value → Shared → Prop} {s : Shared} {h₀ : Heap} {L l a b : Addr} {m : Str → Option Value} {news : Led} {value slice : PySem.Expr} {vs us : List Value} {n k : Nat} {vl vu : Value} {lo hi : Option Int} {Q : Value → Shared → Prop}
theorem slice_my (F : Fr h₀ L s.heap m) (N : News h₀ L s.heap news) (hm : (l, listOf vs.toArray n) ∈ news) (pl : IsPart vl lo) (pu : IsPart vu hi) (x y : Nat) (e : sliceBounds lo hi none vs.length = ((x : Int), (y : Int), 1)) (hz : vs.length ≤ 1000)
    (h : ∀ D h', Fr h₀ L h' m → News h₀ L h' ((D, listOf ((vs.drop x).take (y - x)).toArray 0) :: news) → (∀ p ∈ news, p.1 < D) → Q (.ref D) { s with heap := h' })
    (hs : subscripted slice false (.ref l) (.ref s.heap.objs.size) = operate [.ref s.heap.objs.size, .ref l] (getItem (.ref l) (.ref s.heap.objs.size))) (ht : ∀ r, letTemporaryGo value (.ref l) r = pure ()) :
    wpAny (model prog w) A (subscriptTail value slice (.ref l) (.ref s.heap.objs.size)) Q E { s with heap := s.heap.push { cls := .type "slice", data := .fields #[vl, vu, .none] } } := by
  refine kmk_slice_lit F N (N.isList hm) pl pu (zs := (vs.drop x).take (y - x)) ?_ h hs ht (by rw [List.size_toArray, sizeLine_eq]; omega)
  rw [kmk_pick_nat _ (by rw [List.size_toArray]; exact e)]
theorem add_my (F : Fr h₀ L s.heap m) (N : News h₀ L s.heap news) (ha : (a, listOf vs.toArray n) ∈ news) (hb : (b, listOf us.toArray k) ∈ news) (hz : vs.length ≤ 1000) (hz2 : us.length ≤ 1000)
    (h : ∀ D h', Fr h₀ L h' m → News h₀ L h' ((D, listOf (vs ++ us).toArray 0) :: news) → (∀ p ∈ news, p.1 < D) → Q (.ref D) { s with heap := h' }) :
    wpAny (model prog w) A (binaryOp .Add (.ref a) (.ref b)) Q E s :=
  kmk_add_lit F N (N.isList ha) (N.isList hb) (by simp) h (by rw [sizeLine_eq]; simp; omega)
end
theorem sb_run {x y : Int} {a b n : Nat} (hx : x = a) (hy : y = b) (ha : a ≤ n) (hb : b ≤ n) : sliceBounds (some x) (some y) none n = ((a : Int), (b : Int), 1) := by
  subst hx hy
  simp only [sliceBounds, Option.getD_none, show (1 : Int) > 0 by decide, if_true, if_neg (show ¬ ((a : Int) < 0) by omega), if_neg (show ¬ ((b : Int) < 0) by omega)]
  congr 1
  · omega
  · congr 1
    omega
theorem sb_from {x : Int} {a n : Nat} (hx : x = a) (ha : a ≤ n) : sliceBounds (some x) none none n = ((a : Int), (n : Int), 1) := by
  subst hx
  simp only [sliceBounds, Option.getD_none, show (1 : Int) > 0 by decide, if_true, if_neg (show ¬ ((a : Int) < 0) by omega)]
  congr 1
  omega
theorem sb_to {y : Int} {b n : Nat} (hy : y = b) (hb : b ≤ n) : sliceBounds none (some y) none n = (((0 : Nat) : Int), (b : Int), 1) := by
  subst hy
  simp only [sliceBounds, Option.getD_none, show (1 : Int) > 0 by decide, if_true, if_neg (show ¬ ((b : Int) < 0) by omega)]
  congr 1
  congr 1
  omega
theorem Ints.take {vs : List Value} {ns : List Int} (h : Ints vs ns) (k : Nat) : Ints (vs.take k) (ns.take k) := by
  induction h generalizing k with
  | nil => simp; exact .nil
  | cons _ ih => cases k with
    | zero => exact .nil
    | succ k => exact .cons (ih k)
theorem Ints.drop {vs : List Value} {ns : List Int} (h : Ints vs ns) (k : Nat) : Ints (vs.drop k) (ns.drop k) := by
  induction h generalizing k with
  | nil => simp; exact .nil
  | cons h ih => cases k with
    | zero => exact .cons h
    | succ k => exact ih k
theorem Names.take {w : World} {news : Led} {vs : List Value} {ns : List (Bool × Str)} (h : Names w news vs ns) (k : Nat) : Names w news (vs.take k) (ns.take k) := by
  induction h generalizing k with
  | nil => simp; exact .nil
  | cons h1 _ ih => cases k with
    | zero => exact .nil
    | succ k => exact .cons h1 (ih k)
theorem Names.drop {w : World} {news : Led} {vs : List Value} {ns : List (Bool × Str)} (h : Names w news vs ns) (k : Nat) : Names w news (vs.drop k) (ns.drop k) := by
  induction h generalizing k with
  | nil => simp; exact .nil
  | cons h1 h ih => cases k with
    | zero => exact .cons h1 h
    | succ k => exact ih k
/-- a row of six, what stands behind a stretch ahead of it, what stands ahead of it behind it -/
def rot {α : Type} (l : List α) (a b : Nat) : List α := (l.drop (b + 1)).take (6 - (b + 1)) ++ (l.drop a).take (b + 1 - a) ++ (l.drop 0).take (a - 0)
theorem len_dt {α : Type} (l : List α) {a b : Nat} (h : a + b ≤ l.length) : ((l.drop a).take b).length = b := by
  rw [List.length_take, List.length_drop]
  exact Nat.min_eq_left (Nat.le_sub_of_add_le (by rw [Nat.add_comm]; exact h))
theorem rot_n {a b : Nat} (hab : a ≤ b) (hb : b < 6) : b + 1 + (6 - (b + 1)) ≤ 6 ∧ a + (b + 1 - a) ≤ 6 ∧ 0 + (a - 0) ≤ 6 ∧ 6 - (b + 1) + (b + 1 - a) + (a - 0) = 6 :=
  (by decide +kernel : ∀ b a : Fin 6, a.val ≤ b.val → b.val + 1 + (6 - (b.val + 1)) ≤ 6 ∧ a.val + (b.val + 1 - a.val) ≤ 6 ∧ 0 + (a.val - 0) ≤ 6 ∧ 6 - (b.val + 1) + (b.val + 1 - a.val) + (a.val - 0) = 6) ⟨b, hb⟩ ⟨a, Nat.lt_of_le_of_lt hab hb⟩ hab
theorem rot_len {α : Type} {l : List α} (hl : l.length = 6) {a b : Nat} (hab : a ≤ b) (hb : b < 6) : (rot l a b).length = 6 := by
  obtain ⟨h1, h2, h3, h4⟩ := rot_n hab hb
  unfold rot
  rw [List.length_append, List.length_append, len_dt l (by rw [hl]; exact h1), len_dt l (by rw [hl]; exact h2), len_dt l (by rw [hl]; exact h3)]
  exact h4
theorem rot_m {a b x : Nat} (h1 : 5 - b ≤ x) (h2 : x < 6 - a) (hab : a ≤ b) (hb : b < 6) : 6 - (b + 1) ≤ x ∧ x < 6 - (b + 1) + (b + 1 - a) ∧ x - (6 - (b + 1)) < b + 1 - a ∧ x - (6 - (b + 1)) = x - (5 - b) :=
  (by decide +kernel : ∀ b a x : Fin 6, 5 - b.val ≤ x.val → x.val < 6 - a.val → a.val ≤ b.val → 6 - (b.val + 1) ≤ x.val ∧ x.val < 6 - (b.val + 1) + (b.val + 1 - a.val) ∧ x.val - (6 - (b.val + 1)) < b.val + 1 - a.val ∧ x.val - (6 - (b.val + 1)) = x.val - (5 - b.val)) ⟨b, hb⟩ ⟨a, Nat.lt_of_le_of_lt hab hb⟩ ⟨x, Nat.lt_of_lt_of_le h2 (Nat.sub_le _ _)⟩ h1 h2 hab
theorem rot_get {α : Type} {l : List α} (hl : l.length = 6) {a b : Nat} (hab : a ≤ b) (hb : b < 6) {x : Nat} (h1 : 5 - b ≤ x) (h2 : x < 6 - a) : (rot l a b)[x]? = l[a + (x - (5 - b))]? := by
  obtain ⟨k1, k2, _, _⟩ := rot_n hab hb
  obtain ⟨m1, m2, m3, m4⟩ := rot_m h1 h2 hab hb
  have e1 := len_dt l (a := b + 1) (b := 6 - (b + 1)) (by rw [hl]; exact k1)
  have e2 := len_dt l (a := a) (b := b + 1 - a) (by rw [hl]; exact k2)
  unfold rot
  rw [List.getElem?_append_left (by rw [List.length_append, e1, e2]; exact m2), List.getElem?_append_right (by rw [e1]; exact m1), e1, List.getElem?_take_of_lt m3, List.getElem?_drop, m4]
theorem Names.rot {w : World} {news : Led} {vs : List Value} {ns : List (Bool × Str)} (h : Names w news vs ns) (a b : Nat) : Names w news (rot vs a b) (rot ns a b) :=
  (((h.drop _).take _).append ((h.drop _).take _)).append ((h.drop _).take _)
theorem Ints.rot {vs : List Value} {ns : List Int} (h : Ints vs ns) (a b : Nat) : Ints (rot vs a b) (rot ns a b) :=
  (((h.drop _).take _).append ((h.drop _).take _)).append ((h.drop _).take _)
theorem less_N {n : Nat} (h : 0 < n) (h' : n ≤ 64) : lessOf (n : Int) = ((n &&& (n - 1) : Nat) : Int) := less_tableN ⟨n, by omega⟩ h
theorem low_N : ∀ (f low n : Nat), n ≤ 64 → 1 ≤ low → lowF f (low : Int) (n : Int) = ((lowN f low n : Nat) : Int)
  | 0, low, n, _, _ => rfl
  | f + 1, low, n, h1, h2 => by
    have hb : ∀ x : Nat, (Nat.blt x low = true) ↔ x < low := fun x => by rw [Nat.blt_eq]
    rcases Nat.eq_zero_or_pos n with h | h
    · subst h
      have hz : lessOf ((0 : Nat) : Int) = 0 := by decide
      rw [lowF, lowN, hz, if_pos (by omega), if_pos ((hb _).mpr (by rw [Nat.zero_and]; omega))]
    · have hle : n &&& (n - 1) ≤ n := Nat.and_le_left
      rw [lowF, lowN, less_N h h1]
      by_cases hc : n &&& (n - 1) < low
      · rw [if_pos (by omega), if_pos ((hb _).mpr hc)]
      · rw [if_neg (by omega), if_neg (fun q => hc ((hb _).mp q))]
        exact low_N f low _ (by omega) h2
theorem idxOf_at {l : List Nat} (hn : l.Nodup) {i : Nat} (h : i < l.length) : l.idxOf (l[i]) = i := by
  have hj : l.idxOf (l[i]) < l.length := List.idxOf_lt_length_iff.mpr (List.getElem_mem h)
  have e := List.getElem_idxOf hj
  have hp := List.pairwise_iff_getElem.mp hn
  rcases Nat.lt_trichotomy (l.idxOf (l[i])) i with q | q | q
  · exact absurd e (hp _ _ hj h q)
  · exact q
  · exact absurd e.symm (hp _ _ h hj q)
section
variable {st : PSt}
theorem word_lows {u v : List Bool} (h1 : u.length ≤ 5) (h2 : v.length ≤ 5) (h : numN u ≤ numN v) : lowN 64 (numN u) (numN v) = numN (cpreB u v) := by
  have := List.all_eq_true.mp (List.all_eq_true.mp lows_ok u (mem_words h1)) v (mem_words h2)
  rcases Bool.or_eq_true_iff.mp this with q | q
  · rw [Nat.blt_eq] at q; omega
  · exact Nat.eq_of_beq_eq_true q
theorem word_bound {u : List Bool} (h1 : u.length ≤ 5) : 1 ≤ numN u ∧ numN u ≤ 64 := by
  have := List.all_eq_true.mp bounds_ok u (mem_words h1)
  simp only [Bool.and_eq_true, Nat.ble_eq] at this
  exact this
theorem row_lt (h : st ∈ reach 6) {x q : Nat} (hx : x < 6) (hq : q < 6) : ltIn ((nameRow st).getD x []) ((nameRow st).getD q []) = decide (x < q) ∧ ltNum ((nameRow st).getD x []) ((nameRow st).getD q []) = decide (x < q) := by
  have P := reach_P h
  have hl : (nameRow st).length = 6 := by rw [nameRow_len, P.l1]
  have hp := row_pair h (Nat.le_refl _)
  rcases Nat.lt_trichotomy x q with h1 | h1 | h1
  · rw [pair_getD hp.1 h1 (by omega), pair_getD hp.2.1 h1 (by omega), decide_eq_true h1]; exact ⟨rfl, rfl⟩
  · subst h1
    rw [ltIn_irrefl, ltNum_is, decide_eq_false (Nat.lt_irrefl _), decide_eq_false (Nat.lt_irrefl _)]; exact ⟨rfl, rfl⟩
  · rw [ltIn_asymm (pair_getD hp.1 h1 (by omega)), ltNum_asymm (pair_getD hp.2.1 h1 (by omega)), decide_eq_false (by omega)]; exact ⟨rfl, rfl⟩
theorem row_le (h : st ∈ reach 6) {x q : Nat} (hxq : x ≤ q) (hq : q < 6) : numN ((nameRow st).getD x []) ≤ numN ((nameRow st).getD q []) := by
  rcases Nat.lt_or_eq_of_le hxq with h1 | h1
  · have := (row_lt h (x := x) (q := q) (by omega) hq).2
    rw [ltNum_is, decide_eq_true h1] at this
    exact Nat.le_of_lt (of_decide_eq_true this)
  · rw [h1]; exact Nat.le_refl _
/-- who came first in a stretch -/
structure PairP (st : PSt) (a b : Nat) (M : Int) (q : Nat) : Prop where
  ge : a ≤ q
  le : q ≤ b
  eq : M = ((st.1.getD q 0 : Nat) : Int)
  ix : (zi st.1).idxOf M = q
  pre : cpreB (wdN st.2 (st.1.getD a 0)) (wdN st.2 (st.1.getD b 0)) = (nameRow st).getD q []
theorem pair_fact (h : st ∈ reach 6) {a d : Nat} (hd : a + d < 6) {M : Int} (hM : M ∈ ((zi st.1).drop a).take (d + 1)) (hle : ∀ x ∈ ((zi st.1).drop a).take (d + 1), M ≤ x) : ∃ q, PairP st a (a + d) M q := by
  have P := reach_P h
  have hl := P.l1
  have in6 : ∀ {c}, c ≤ a + d → c < st.1.length := fun hc => by rw [hl]; exact Nat.lt_of_le_of_lt hc hd
  have hz : ((zi st.1).drop a).take (d + 1) = zi ((st.1.drop a).take (d + 1)) := by simp [zi, List.map_take, List.map_drop]
  rw [hz] at hM hle
  have hm : M = ((minN ((st.1.drop a).take (d + 1)) : Nat) : Int) := by rw [← minL_zi]; exact (minL_is hM hle).symm
  have hlen : ((st.1.drop a).take (d + 1)).length = d + 1 := len_dt st.1 (by rw [hl]; exact hd)
  have hne : (st.1.drop a).take (d + 1) ≠ [] := List.ne_nil_of_length_pos (by rw [hlen]; exact Nat.succ_pos _)
  obtain ⟨e, he, hT⟩ := List.mem_iff_getElem.mp (minN_mem hne)
  have hed : e ≤ d := by
    have he2 := he
    rw [hlen] at he2
    exact Nat.le_of_lt_succ he2
  have hq : a + e ≤ a + d := Nat.add_le_add_left hed a
  have hT2 : st.1[a + e]'(in6 hq) = minN ((st.1.drop a).take (d + 1)) := by
    rw [← hT, List.getElem_take, List.getElem_drop]
  have hg : st.1.getD (a + e) 0 = minN ((st.1.drop a).take (d + 1)) := by
    rw [List.getD_eq_getElem?_getD, List.getElem?_eq_getElem (in6 hq), ← hT2]; rfl
  have T := (reach_T h (Nat.le_refl _)).2
  have hlt : ∀ c, a ≤ c → c ≤ a + d → c ≠ a + e → st.1.getD (a + e) 0 < st.1.getD c 0 := fun c h1 h2 h3 => by
    have n1 := nd_getD P.nd (in6 hq) (in6 h2) (Ne.symm h3)
    have hcd : c - a < d + 1 := Nat.lt_succ_of_le (Nat.sub_le_of_le_add (by rw [Nat.add_comm]; exact h2))
    have n2 : minN ((st.1.drop a).take (d + 1)) ≤ st.1.getD c 0 := by
      have e3 : ((st.1.drop a).take (d + 1)).getD (c - a) 0 = st.1.getD c 0 := by
        rw [getD_take _ hcd, getD_drop, Nat.add_sub_cancel' h1]
      rw [← e3]
      exact minN_le (getD_mem _ _ _ (by rw [hlen]; exact hcd))
    rw [hg] at n1 ⊢
    exact Nat.lt_of_le_of_ne n2 n1
  refine ⟨a + e, Nat.le_add_right _ _, hq, by rw [hg]; exact hm, ?_, ?_⟩
  · rw [hm, idxOf_zi, ← hT2]
    exact idxOf_at P.nd (in6 hq)
  · rw [← row_at st (in6 (Nat.le_add_right _ _)), ← row_at st (in6 (Nat.le_refl _))]
    refine cpre_tree ?_ ?_
    · rcases Nat.eq_zero_or_pos e with q | q
      · left; rw [q]; rfl
      · right; exact T.L a (a + e) (Nat.lt_add_of_pos_right q) (Nat.lt_of_le_of_lt hq hd) fun c h1 h2 => hlt c h1 (Nat.le_trans (Nat.le_of_lt h2) hq) (Nat.ne_of_lt h2)
    · by_cases q : e = d
      · left; rw [q]
      · right; exact T.R (a + e) (a + d) (Nat.add_lt_add_left (Nat.lt_of_le_of_ne hed q) a) hd fun c h1 h2 => hlt c (Nat.le_trans (Nat.le_add_right _ _) (Nat.le_of_lt h1)) h2 (Nat.ne_of_gt h1)
theorem pair_low (h : st ∈ reach 6) {a b q : Nat} {M : Int} (hab : a ≤ b) (hb : b < 6) (p : PairP st a b M q) {r : Int} (hr : Low (num (wdN st.2 (st.1.getD a 0))) (num (wdN st.2 (st.1.getD b 0))) r) : r = num ((nameRow st).getD q []) := by
  have P := reach_P h
  have hl := P.l1
  have l1 := reach_len h (Nat.le_refl _) (st.1.getD a 0)
  have l2 := reach_len h (Nat.le_refl _) (st.1.getD b 0)
  have b1 := word_bound l1
  have b2 := word_bound l2
  have hle := row_le h hab hb
  rw [row_at st (by omega), row_at st (by omega)] at hle
  rw [num_N, num_N] at hr
  rw [← low_is hr (by omega) (by omega) (by omega) 64 (by omega), low_N _ _ _ b2.2 b1.1, word_lows l1 l2 hle, p.pre, num_N]
theorem pair_order (h : st ∈ reach 6) {a b : Nat} (hab : a ≤ b) (hb : b < 6) : 1 ≤ num (wdN st.2 (st.1.getD a 0)) ∧ num (wdN st.2 (st.1.getD a 0)) ≤ num (wdN st.2 (st.1.getD b 0)) ∧ num (wdN st.2 (st.1.getD b 0)) ≤ 64 := by
  have P := reach_P h
  have hl := P.l1
  have b1 := word_bound (reach_len h (Nat.le_refl _) (st.1.getD a 0))
  have b2 := word_bound (reach_len h (Nat.le_refl _) (st.1.getD b 0))
  have hle := row_le h hab hb
  rw [row_at st (by omega), row_at st (by omega)] at hle
  rw [num_N, num_N]
  omega
theorem tx_rot {ps : List (Bool × Str)} (hl : ps.length = 6) {a b : Nat} (hab : a ≤ b) (hb : b < 6) {x : Nat} (h1 : 5 - b ≤ x) (h2 : x < 6 - a) : tx (rot ps a b) x = tx ps (a + (x - (5 - b))) := by
  unfold tx; rw [rot_get hl hab hb h1 h2]
theorem arL : ∀ b q a : Fin 6, a.val ≤ q.val → q.val ≤ b.val → (5 - b.val ≤ 5 - b.val + (q.val - a.val) ∧ 5 - b.val + (q.val - a.val) + 1 ≤ 6 - a.val) ∧
    ∀ j : Fin 6, 5 - b.val ≤ j.val → j.val < 6 - a.val → a.val + (j.val - (5 - b.val)) < 6 ∧ decide (a.val + (j.val - (5 - b.val)) < q.val) = decide (j.val < 5 - b.val + (q.val - a.val)) ∧ (!decide (q.val < a.val + (j.val - (5 - b.val)))) = decide (j.val < 5 - b.val + (q.val - a.val) + 1) := by decide +kernel
theorem rot_left {tag : Str} {ps : List (Bool × Str)} (h : st ∈ reach 6) (e : ps.map (·.2) = rowT st tag) {a b q : Nat} (h1 : a ≤ q) (h2 : q ≤ b) (hb : b < 6) :
    Falls (fun j => ltS (tx (rot ps a b) j) (nameS ((nameRow st).getD q []) tag)) (5 - b) (6 - a) ∧ ∀ k, Parts (fun j => ltS (tx (rot ps a b) j) (nameS ((nameRow st).getD q []) tag)) (5 - b) (6 - a) k → k = 5 - b + (q - a) := by
  have P := reach_P h
  have hl := ps_len h e
  have hq : q < 6 := Nat.lt_of_le_of_lt h2 hb
  obtain ⟨⟨k1, k2⟩, k3⟩ := arL ⟨b, hb⟩ ⟨q, hq⟩ ⟨a, Nat.lt_of_le_of_lt h1 hq⟩ h1 h2
  refine parts_in k1 (Nat.le_of_succ_le k2) fun j g1 g2 => ?_
  obtain ⟨m1, m2, _⟩ := k3 ⟨j, Nat.lt_of_lt_of_le g2 (Nat.sub_le _ _)⟩ g1 g2
  rw [tx_rot hl (Nat.le_trans h1 h2) hb g1 g2, tx_row e (by rw [P.l1]; exact m1), ltS_name, (row_lt h m1 hq).1]
  exact m2
theorem rot_right {tag : Str} {ps : List (Bool × Str)} (h : st ∈ reach 6) (e : ps.map (·.2) = rowT st tag) {a b q : Nat} (h1 : a ≤ q) (h2 : q ≤ b) (hb : b < 6) :
    Falls (fun j => !ltS (nameS ((nameRow st).getD q []) tag) (tx (rot ps a b) j)) (5 - b) (6 - a) ∧ ∀ k, Parts (fun j => !ltS (nameS ((nameRow st).getD q []) tag) (tx (rot ps a b) j)) (5 - b) (6 - a) k → k = 5 - b + (q - a) + 1 := by
  have P := reach_P h
  have hl := ps_len h e
  have hq : q < 6 := Nat.lt_of_le_of_lt h2 hb
  obtain ⟨⟨k1, k2⟩, k3⟩ := arL ⟨b, hb⟩ ⟨q, hq⟩ ⟨a, Nat.lt_of_le_of_lt h1 hq⟩ h1 h2
  refine parts_in (Nat.le_succ_of_le k1) k2 fun j g1 g2 => ?_
  obtain ⟨m1, _, m2⟩ := k3 ⟨j, Nat.lt_of_lt_of_le g2 (Nat.sub_le _ _)⟩ g1 g2
  rw [tx_rot hl (Nat.le_trans h1 h2) hb g1 g2, tx_row e (by rw [P.l1]; exact m1), ltS_name, (row_lt h hq m1).1]
  exact m2
theorem lt5 (i : Nat) : 5 - i < 6 := Nat.lt_succ_of_le (Nat.sub_le 5 i)
theorem arF : ∀ b q a : Fin 6, a.val ≤ q.val → q.val ≤ b.val → (a.val ≤ a.val + b.val - q.val ∧ a.val + b.val - q.val ≤ b.val + 1 ∧ 5 - b.val ≤ 5 - a.val) ∧
    ∀ j : Fin 6, a.val ≤ j.val → j.val < b.val + 1 → 5 - (5 - a.val) ≤ j.val ∧ j.val < 6 - (5 - b.val) ∧ 5 - b.val + (j.val - (5 - (5 - a.val))) < 6 ∧ 6 - 1 - (5 - b.val + (j.val - (5 - (5 - a.val)))) < 6 ∧
      decide (q.val < 6 - 1 - (5 - b.val + (j.val - (5 - (5 - a.val))))) = decide (j.val < a.val + b.val - q.val) := by decide +kernel
theorem rot_fall (h : st ∈ reach 6) {a b q : Nat} (h1 : a ≤ q) (h2 : q ≤ b) (hb : b < 6) :
    Falls (fun j => decide (-((rot (fallRow st) (5 - b) (5 - a)).getD j 0) < -(num ((nameRow st).getD q [])))) a (b + 1) ∧ ∀ k, Parts (fun j => decide (-((rot (fallRow st) (5 - b) (5 - a)).getD j 0) < -(num ((nameRow st).getD q [])))) a (b + 1) k → k = a + b - q := by
  have P := reach_P h
  have hl : (fallRow st).length = 6 := by rw [fall_len, P.l1]
  have hq : q < 6 := Nat.lt_of_le_of_lt h2 hb
  obtain ⟨⟨k1, k2, k4⟩, k3⟩ := arF ⟨b, hb⟩ ⟨q, hq⟩ ⟨a, Nat.lt_of_le_of_lt h1 hq⟩ h1 h2
  refine parts_in k1 k2 fun j g1 g2 => ?_
  obtain ⟨m1, m2, m3, m4, m5⟩ := k3 ⟨j, Nat.lt_of_lt_of_le g2 hb⟩ g1 g2
  have e : (rot (fallRow st) (5 - b) (5 - a)).getD j 0 = (fallRow st).getD (5 - b + (j - (5 - (5 - a)))) 0 := by
    rw [List.getD_eq_getElem?_getD, List.getD_eq_getElem?_getD, rot_get hl k4 (lt5 a) m1 m2]
  rw [e, fall_at h m3, neg_num, (row_lt h hq m4).2]
  exact m5
end
theorem sb_from6 {x : Int} {a n : Nat} (hn : n = 6) (hx : x = a) (ha : a ≤ 6) : sliceBounds (some x) none none n = ((a : Int), ((6 : Nat) : Int), 1) := by
  subst hn
  exact sb_from hx ha
theorem news_1 {h₀ h : Heap} {L : Addr} {x y z : Addr × Obj} {r : Led} (N : News h₀ L h (x :: y :: z :: r)) : News h₀ L h (x :: r) := news_sub N fun p hp => by
  rcases List.mem_cons.mp hp with rfl | hp
  · exact .head _
  · exact .tail _ (.tail _ (.tail _ hp))
theorem ij_sub (i j : Nat) : i + j + 1 - i = j + 1 := by rw [Nat.add_assoc, Nat.add_sub_cancel_left]
theorem dt_six {l : List Value} (h : l.length = 6) (a b : Nat) : ((l.drop a).take b).length ≤ 6 := h ▸ ((List.take_sublist _ _).trans (List.drop_sublist _ _)).length_le
theorem dt_le {l : List Value} (h : l.length = 6) (a b : Nat) : ((l.drop a).take b).length ≤ 1000 := Nat.le_trans (dt_six h a b) (by decide)
theorem dt_le2 {l : List Value} (h : l.length = 6) (a b c d : Nat) : ((l.drop a).take b ++ (l.drop c).take d).length ≤ 1000 := by
  rw [List.length_append]; exact Nat.le_trans (Nat.add_le_add (dt_six h a b) (dt_six h c d)) (by decide)
theorem dt_pos {l : List Int} (h : l.length = 6) {i j : Nat} (hj : i + j < 6) : 0 < ((l.drop i).take (i + j + 1 - i)).length := by
  rw [ij_sub, List.length_take, List.length_drop, h]
  exact Nat.lt_min.mpr ⟨Nat.succ_pos _, Nat.sub_pos_of_lt (Nat.lt_of_le_of_lt (Nat.le_add_right i j) hj)⟩
theorem small6 {n : Nat} (h : n = 6) : n ≤ 1000 := h ▸ (by decide)
theorem le6 {n k : Nat} (h : n = 6) (hk : k ≤ 6) : k ≤ n := h ▸ hk
theorem cast5 {i j : Nat} (h : i + j < 6) : (5 : Int) - ((i : Int) + (j : Int)) = ((5 - (i + j) : Nat) : Int) := (Int.ofNat_sub (Nat.le_of_lt_succ h)).symm
theorem cast6 {i : Nat} (h : i < 6) : (6 : Int) - (i : Int) = ((6 - i : Nat) : Int) := (Int.ofNat_sub (Nat.le_of_lt h)).symm
theorem cast6' {i : Nat} (h : i < 6) : (6 : Int) - (i : Int) = ((5 - i + 1 : Nat) : Int) := by
  rw [cast6 h]
  exact congrArg Nat.cast (Nat.succ_sub (m := 5) (Nat.le_of_lt_succ h))
theorem place1 {a i q : Nat} (h : i ≤ q) : ((a + (q - i) : Nat) : Int) = (a : Int) + (q : Int) - (i : Int) := by omega
theorem place2 {a i q : Nat} (h : i ≤ q) : ((a + (q - i) + 1 : Nat) : Int) = (a : Int) + (q : Int) - (i : Int) + 1 := by omega
theorem place3 {i j q : Nat} (h : q ≤ i + j) : ((i + (i + j) - q : Nat) : Int) = (i : Int) + ((i : Int) + (j : Int)) - (q : Int) := by omega
theorem lohi (i j : Nat) : 5 - (i + j) ≤ 6 - i := Nat.le_trans (Nat.sub_le_sub_left (Nat.le_add_right i j) 5) (Nat.sub_le_sub_right (by decide) i)
theorem le56 (i : Nat) : 5 - i + 1 ≤ 6 := Nat.succ_le_succ (Nat.sub_le 5 i)
theorem le5 (i : Nat) : 5 - i ≤ 6 := Nat.le_trans (Nat.sub_le 5 i) (by decide)
theorem le_ij (i j : Nat) : 5 - (i + j) ≤ 5 - i := Nat.sub_le_sub_left (Nat.le_add_right i j) 5
theorem ij_up (i j : Nat) : i ≤ i + j + 1 := Nat.le_trans (Nat.le_add_right i j) (Nat.le_succ _)
theorem both_le {a b i : Nat} (ha : a = 2 * i) (hb : b = 6) (hi : i < 6) : a + (b - i) ≤ 1000 := by
  rw [ha, hb]; exact Nat.le_trans (Nat.add_le_add (Nat.mul_le_mul_left 2 (Nat.le_of_lt hi)) (Nat.sub_le 6 i)) (by decide)
theorem twice_le {n a i : Nat} (h : n = a) (ha : a = 2 * i) (hi : i < 6) : n ≤ 1000 := by
  rw [h, ha]; exact Nat.le_trans (Nat.mul_le_mul_left 2 (Nat.le_of_lt hi)) (by decide)

local macro_rules | `(tactic| ktr_units) => `(tactic| decide)
local macro_rules | `(tactic| ktr_room) => `(tactic| decide)
local macro_rules | `(tactic| k_qdec) => `(tactic| fail "by the kernel")
local macro_rules | `(tactic| k_steps) => `(tactic| repeat' ((fail_if_success (first | with_reducible show wpAny _ _ (exec (Stmt.While _ _ _ _) _) _ _ _ | with_reducible refine stop_call2 (by decide) ?_ | with_reducible show wpAny _ _ (exec (Stmt.For _ _ _ _ _) _) _ _ _ | with_reducible show wpAny _ _ (eval (Expr.IfExp _ _ _ _) _) _ _ _ | with_reducible show wpAny _ _ (exec (Stmt.If _ _ _ _) _) _ _ _ | with_reducible show wpAny _ _ (call (Value.builtin "list.insert") _ _) _ _ _ | with_reducible show wpAny _ _ (eval (Expr.ListComp _ _ _ _) _) _ _ _ | with_reducible show LCg.CompSrc _ _ _ _ _ _ _ _ _ _ _ _ _ _ | with_reducible show LCg.CompEnd _ _ _ _ _ _ _ _ _ _ _ _ _ _ | with_reducible show wpAny _ _ (compareOp CmpOp.NotEq (Value.ref _) (Value.ref _)) _ _ _ | with_reducible show wpAny _ _ (call (Value.builtin "list.extend") _ _) _ _ _ | with_reducible show wpAny _ _ (subscriptTail _ (PySem.Expr.Slice (some _) _ none _) _ _) _ _ _ | with_reducible show wpAny _ _ (subscriptTail _ (PySem.Expr.Slice none (some _) none _) _ _) _ _ _ | with_reducible show wpAny _ _ (call (Value.builtin "min") _ _) _ _ _ | with_reducible show wpAny _ _ (binaryOp BinOp.Add (Value.ref _) (Value.ref _)) _ _ _ | with_reducible show MidR _ _ _ _ _ _ _ | with_reducible show MidV _ _ _ _ _ _ _ _ | with_reducible show KswEnd _ _ _ _ _ _ _ _ _ _ _ _ | with_reducible show wpAny _ _ (pyIter _) (fun it s₂ => LoopAtV _ _ _ _ _ _ _ _ _ it s₂) _ _ | with_reducible show TbEnd _ _ _ _ _ _ | with_reducible show InvEndN _ _ _ _ _ _ _ | with_reducible show LoopStep3 _ _ _ _ _ _ _ _ _ _)); first | (k_unfold; (try dsimp only)) | (k_end; wrow_close) | walk1 | (dsimp only; walk1) | (leave1; walk_say "STEP leave1"; try dsimp only) | fail "no step"))
local macro_rules | `(tactic| k_upd) => `(tactic| (first
  | (refine' UpdF.head ?kuA; (case kuA => ((repeat (refine List.forall_mem_cons.mpr ⟨by first | assumption | exact Nat.ne_of_gt (by assumption) | exact Nat.ne_of_lt (by assumption) | k_ne, ?_⟩)); first | assumption | exact List.forall_mem_nil _)))
  | (refine' UpdF.tail ?kuA ?kuB; (case kuA => first | assumption | exact Nat.ne_of_gt (by assumption) | exact Nat.ne_of_lt (by assumption) | k_ne); (case kuB => k_upd))
  | (refine' Upd.head ?kuA; (case kuA => ((repeat (refine List.forall_mem_cons.mpr ⟨by first | assumption | exact Nat.ne_of_gt (by assumption) | exact Nat.ne_of_lt (by assumption) | k_ne, ?_⟩)); first | assumption | exact List.forall_mem_nil _)))
  | (refine' Upd.tail ?kuA ?kuB; (case kuA => first | assumption | exact Nat.ne_of_gt (by assumption) | exact Nat.ne_of_lt (by assumption) | k_ne); (case kuB => k_upd))))
local macro_rules | `(tactic| k_updF) => `(tactic| k_upd)
set_option maxHeartbeats 8000000 in
theorem main : PySem.Challenge.rw_wu0066_01.Holds := Mine.hd (by
  w_strict k_go0
  all_goals try k_fold
  rename World => wW
  rename Shared => s1
  rename_i oNu oW0 oT0 dNu dW0 dT0 Nn0 Xx0
  k_steps
  refine cells_does (by assumption) (by assumption) (by assumption) (by assumption) (by assumption) rfl (by decide) (by decide) (by assumption) (by assumption) (by omega) ?_
  intro aC us nC es h1 tk1 hU hlen6 hb hltC F1 N1
  have hUI := hU.are
  replace hltC := allLt_of hltC
  simp only [AllLt, and_true] at hltC
  k_steps
  rename_i hTag h4 oTag dTag k1 aL h5 lL h6 k2 aW h7 lW h8 oWrd dWrd k3 aM h9 lM h10 k4 aN h11 lN h12 k5 aF h13 lF h14 aB h15 lB h16 F2 N2
  obtain ⟨lL1, lL2, lL3, lL4⟩ := lL
  obtain ⟨lW1, lW2, lW3, lW4, lW5⟩ := lW
  obtain ⟨lM1, lM2, lM3, lM4, lM5, lM6⟩ := lM
  obtain ⟨lN1, lN2, lN3, lN4, lN5, lN6, lN7⟩ := lN
  obtain ⟨lF1, lF2, lF3, lF4, lF5, lF6, lF7, lF8⟩ := lF
  obtain ⟨lB1, lB2, lB3, lB4, lB5, lB6, lB7, lB8, lB9⟩ := lB
  obtain ⟨lC1, lC2, lC3⟩ := hltC
  with_unfolding_all refine' For_invVF F2 ?q1 ?q2 ?_
  case q1 => exact rfl
  case q2 => exact rfl
  k_steps
  rename_i hR F3 N3 K3
  clear hTag
  obtain ⟨hT1, hTO⟩ := tag_is es.sum
  obtain ⟨tag, htag⟩ : ∃ t, t = Txt.item (Str.ofString "x|~") (es.sum.fmod 3) := ⟨_, rfl⟩
  rw [← htag] at dTag hT1 hTO
  obtain ⟨tt, dTag⟩ : ∃ t, oTag.data = .cell (some (.str tag t)) := ⟨_, dTag⟩
  clear htag
  refine' for_range0_st (n := 6) (LawLd aB aF aN aM aW aL (aC, _) (_, _) (_, oWrd) (_, oTag)) (fun _ => []) [Str.ofString "place", Str.ofString "ahead", Str.ofString "behind", Str.ofString "word", Str.ofString "mark", Str.ofString "name"]
    (LawP wW tag aB) ⟨([], []), [], [], [], 0, [], 0, [], 0, [], 0, [], 0, [], 0⟩ rfl hR (by decide) (by decide) F3 N3 (fun _ h => nomatch h) ?hp ?turn ?done
  case hp => exact ⟨List.mem_singleton.mpr rfl, .nil, .nil, .nil, .nil, rfl, .nil, .nil, fun _ h => nomatch h⟩
  case done =>
    clear F3 N3 K3 hR
    rintro ⟨st, ps, qs, vB, nB, vF, nF, vN, nN, vM, nM, vW, nW, vL, nL⟩ u h tk ⟨hst, hL, hW, hM, hN, hT, hF, hB, hq⟩ F4 N4
    dsimp only at hst hL hW hM hN hT hF hB hq
    dsimp only [LawLd] at N4
    k_steps
    have hlen := reach_line hst
    have hzl : (zi st.1).length = 6 := by rw [zi_len]; exact hlen.1
    have hml : (st.2.map num).length = 6 := by rw [List.length_map]; exact hlen.2.1
    have hwl : (st.2.map wordS).length = 6 := by rw [List.length_map]; exact hlen.2.1
    have hWl := hW.length
    rename Fr _ _ _ _ => F5
    rename News _ _ _ _ => N5
    refine LCg.ListComp_U (F₀ := F5) (by with_unfolding_all rfl) (by decide) (by rfl) (by decide) (by rfl) ?_
    k_steps
    refine LCg.CompSrc.ledger (by rfl) F5 N5 (by k_mem) (by show vW.length ≤ _; rw [sizeLine_eq]; omega) ?_
    intro g5
    refine comp_J (n := vW.length) (fun i ys nx => nx = _ ∧ Ints ys ((st.2.map num).take i)) ?_ ?_ _ 0 [] _ rfl ⟨rfl, .nil⟩
    · rintro i ys _ v I oI C oC D m₂ h6 tk6 E' hi hv ⟨rfl, hys⟩ hC hx F6 N6 off ne
      obtain ⟨t6, hv'⟩ := hW.get (i := i) (by omega)
      obtain rfl : v = _ := Option.some.inj (((by simpa using hv) : vW[i]? = some v).symm.trans hv')
      clear F5 N5 hv
      k_steps
      rw [getD_words]
      refine Does.use (number_does wW _ _ _) (by assumption) (by assumption) (by assumption) (by assumption) (by assumption) rfl (by ktr_room) (by ktr_units) ?_
      rintro _ _ h7 tk7 ⟨rfl, t7, rfl⟩ F7 N7
      clear F6 N6
      rw [num_is]
      k_steps
      refine comp_end F7 N7 off (.inr ⟨_, by k_mem, rfl, _, rfl⟩) ⟨rfl, ?_⟩
      have e : (st.2.map num).take (i + 1) = (st.2.map num).take i ++ [num (st.2.getD i [])] := by
        rw [List.take_succ_eq_append_getElem (by omega)]
        congr 2
        rw [List.getElem_map, List.getD_eq_getElem?_getD, List.getElem?_eq_getElem (by omega)]
        rfl
      rw [e]
      exact hys.snoc _ _
    · rintro vU _ ⟨rfl, hU9⟩
      clear F5 N5
      rw [List.take_of_length_le (by omega)] at hU9
      intro aU h6 tk6 F6 N6 o6
      have q3 : ∀ q ∈ qs, q.1 ≠ s1.heap.objs.size + 1 + 1 + 1 := fun q hq' => by have := ltN (hq q hq'); k_ne
      have hU3 : aU ≠ s1.heap.objs.size + 1 + 1 + 1 := (o6.2.2.2.2.2.2.2.1).symm
      k_steps
      rename_i hA oU FA NA dU
      clear F6 N6 o6
      have hpl : ps.length = 6 := by rw [← List.length_map (f := fun (x : Bool × Str) => x.2), hT]; show ((nameRow st).map _).length = 6; rw [List.length_map]; show (st.1.map _).length = 6; rw [List.length_map]; exact hlen.1
      have hNl := hN.length
      have hwl5 : ∀ k, (wordS (st.2.getD k [])).length ≤ 1000 := fun k => by rw [wordS_length]; exact Nat.le_trans (reach_len hst (by omega) k) (by decide)
      have hLl := hL.length
      have hRow : rowT st tag = st.1.map (fun t => nameS (wdN st.2 t) tag) := by show (st.1.map _).map _ = _; rw [List.map_map]; rfl
      have hRok : ∀ x ∈ rowT st tag, OkS x := by
        intro x hx
        rw [hRow] at hx
        obtain ⟨t, _, rfl⟩ := List.mem_map.mp hx
        exact nameS_ok _ hTO
      refine mid_val (fun f => f = .next) FA NA ?_ ?_
      · walk1
        k_steps
        refine LCg.ListComp_U (F₀ := FA) (by with_unfolding_all rfl) (by decide) (by rfl) (by decide) (by rfl) ?_
        k_steps
        refine LCg.CompSrc.ledger (by rfl) FA NA (by k_mem) (by show vN.length ≤ _; rw [sizeLine_eq]; omega) ?_
        intro g5
        refine comp_J (n := vN.length) (fun i ys nx => nx = _ ∧ Texts ys ((rowT st tag).take i)) ?_ ?_ _ 0 [] _ rfl ⟨rfl, .nil⟩
        · rintro i ys _ v I oI C oC D m₂ h6 tk6 E' hi hv ⟨rfl, hys⟩ hC hx F6 N6 off ne
          obtain ⟨v', b, hv', hnm, _⟩ := hN.at (i := i) (by omega)
          obtain rfl : v = v' := Option.some.inj (((by simpa using hv) : vN[i]? = some v).symm.trans hv')
          k_steps
          refine Does.use (text_any (hnm.mono ?_)) (by assumption) (by assumption) (by assumption) (by assumption) (by assumption) rfl (by ktr_room) (by ktr_units) ?_
          · intro q hq; repeat (first | exact hq | refine List.Mem.tail _ ?_)
          rintro _ _ h7 tk7 ⟨rfl, t7, rfl⟩ F7 N7
          k_steps
          refine comp_end F7 N7 off (.inr ⟨_, by k_mem, rfl, _, rfl⟩) ⟨rfl, ?_⟩
          rw [take_snoc _ _ Str.empty (by rw [← hT, List.length_map]; omega), ← hT, ← tx_getD, hT]
          exact hys.snoc _ _
        · rintro vT _ ⟨rfl, hTx⟩
          rw [List.take_of_length_le (by rw [← hT, List.length_map]; omega)] at hTx
          intro aT h6 tk6 F6 N6 o6
          k_steps
          refine LCg.ListComp_U (F₀ := F6) (by with_unfolding_all rfl) (by decide) (by rfl) (by decide) (by rfl) ?_
          k_steps
          refine LCg.CompSrc.ledger (by rfl) F6 N6 (by k_mem) (by show vL.length ≤ _; rw [sizeLine_eq]; omega) ?_
          intro g6
          refine comp_J (n := vL.length) (fun i ys nx => nx = _ ∧ Texts ys ((rowT st tag).take i)) ?_ ?_ _ 0 [] _ rfl ⟨rfl, .nil⟩
          · rintro i ys _ v I oI C oC D m₂ h7 tk7 E' hi hv ⟨rfl, hys⟩ hC hx F7 N7 off ne
            obtain ⟨t7, hv'⟩ := hL.get (i := i) (by omega)
            obtain rfl : v = _ := Option.some.inj (((by simpa using hv) : vL[i]? = some v).symm.trans hv')
            rw [zi_getD] at hx
            have hg : st.1.getD i 0 < 6 := hlen.2.2 _ (by rw [List.getD_eq_getElem?_getD, List.getElem?_eq_getElem (by omega)]; exact List.getElem_mem _)
            k_steps
            rw [getD_words, Int.toNat_natCast]
            refine Does.use (name_does wW _ _ _ _ _ (hwl5 _) (by omega)) (by assumption) (by assumption) (by assumption) (by assumption) (by assumption) rfl (by ktr_room) (by ktr_units) ?_
            rintro _ _ h8 tk8 ⟨rfl, t8, rfl⟩ F8 N8
            rw [name_is]
            k_steps
            refine comp_end F8 N8 off (.inr ⟨_, by k_mem, rfl, _, rfl⟩) ⟨rfl, ?_⟩
            rw [take_snoc _ _ Str.empty (by rw [← hT, List.length_map]; omega), rowT_getD (by omega)]
            exact hys.snoc _ _
          · rintro vT2 _ ⟨rfl, hTx2⟩
            rw [List.take_of_length_le (by rw [← hT, List.length_map]; omega)] at hTx2
            intro aT2 h7 tk7 F7 N7 o7
            k_steps
            refine ne_texts (n := vT.length) (m := vT2.length) N7 (.tail _ (.head _)) (.head _) hTx hTx2 hRok hRok (by ktr_units) ?_
            simp only [decide_true, Bool.not_true]
            k_steps
            exact MidV.intro F7 (news_less (news_less N7)) rfl
      rintro _ h8 tk8 rfl F8 N8
      clear FA NA
      k_steps
      refine mid_val (fun f => f = .next) F8 N8 ?_ ?_
      · walk1
        k_steps
        refine LCg.ListComp_U (F₀ := F8) (by with_unfolding_all rfl) (by decide) (by rfl) (by decide) (by rfl) ?_
        k_steps
        rename Fr _ _ _ _ => F9
        rename News _ _ _ _ => N9
        rw [krv_pick, show vL.toArray.toList = vL from rfl] at N9
        refine LCg.CompSrc.ledger (by rfl) F9 N9 (.head _) (by rw [List.size_toArray, List.length_reverse]; rw [sizeLine_eq]; omega) ?_
        intro g5
        have hR9 := hL.reverse
        rw [zi_reverse] at hR9
        have hfl : (fallRow st).length = 6 := by simp [fallRow, hlen.1]
        have hrl : st.1.reverse.length = 6 := by rw [List.length_reverse]; exact hlen.1
        have hrl2 : (zi st.1.reverse).length = 6 := by rw [zi_len]; exact hrl
        refine comp_J (n := 6) (fun i ys nx => nx = _ ∧ Ints ys ((fallRow st).take i)) ?_ ?_ _ 0 [] _ (by rw [List.size_toArray, List.length_reverse]; omega) ⟨rfl, .nil⟩
        · rintro i ys _ v I oI C oC D m₂ h7 tk7 E' hi hv ⟨rfl, hys⟩ hC hx F7 N7 off ne
          obtain ⟨t7, hv'⟩ := hR9.get (i := i) (by omega)
          obtain rfl : v = _ := Option.some.inj (((by simpa using hv) : vL.reverse[i]? = some v).symm.trans hv')
          rw [zi_getD] at hx
          have hg : st.1.reverse.getD i 0 < 6 := hlen.2.2 _ (List.mem_reverse.mp (getD_mem _ _ _ (by omega)))
          k_steps
          rename Fr _ _ _ _ => F8
          rename News _ _ _ _ => N8
          refine comp_end F8 N8 off (.inr ⟨_, .head _, rfl, _, rfl⟩) ⟨rfl, ?_⟩
          rw [take_snoc _ _ 0 (by omega)]
          have e : (fallRow st).getD i 0 = (st.2.map num).getD (((st.1.reverse.getD i 0 : Nat) : Int)).toNat 0 := by
            rw [Int.toNat_natCast, getD_map num st.2 _ [] 0 (by omega)]
            exact getD_map _ _ _ 0 0 (by omega)
          rw [e]
          exact hys.snoc _ _
        · rintro vT2 _ ⟨rfl, hTx2⟩
          rw [List.take_of_length_le (by omega)] at hTx2
          intro aT2 h7 tk7 F7 N7 o7
          k_steps
          refine' ne_ints (n := nF) (m := vT2.length) N7 ?m1 (.head _) hF hTx2 (by ktr_units) ?_
          case m1 => k_mem
          simp only [decide_true, Bool.not_true]
          k_steps
          exact MidV.intro F7 (news_less (news_less N7)) rfl
      clear F8 N8
      rintro _ h8 tk8 rfl F8 N8
      k_steps
      refine mid_val (fun f => f = .next) F8 N8 ?_ ?_
      · walk1
        k_steps
        refine LCg.ListComp_U (F₀ := F8) (by with_unfolding_all rfl) (by decide) (by rfl) (by decide) (by rfl) ?_
        k_steps
        refine' Does.use (walk_does wW 6 _ aL vL nL _ ?a1 (by decide) ?a2 hL.are ?a3) (by assumption) (by assumption) (by assumption) (by assumption) (by assumption) rfl ?a4 ?a5 ?_
        case a1 => omega
        case a2 => k_mem
        case a3 =>
          intro x hx
          obtain ⟨t, ht, rfl⟩ := List.mem_map.mp hx
          have := hlen.2.2 t ht
          constructor <;> omega
        case a4 => rw [hzl]; ktr_room
        case a5 => rw [hzl]; ktr_units
        rintro _ _ h9 tk9 ⟨aR, vR, nR, rs, rfl, rfl, hRI, hWk, hRlt⟩ F9 N9
        have ers := walk_reach hst (by omega) hWk
        subst ers
        have hwb := walk_bound hst (by omega)
        have hRI' := IntsAre.own hRI
        have hRl := hRI'.length
        have hRl2 : (zi (walkN 6 st.1)).length = 6 := by rw [zi_len]; exact hwb.1
        have hbl := bare_len hst (by omega)
        k_steps
        refine LCg.CompSrc.ledger (by rfl) F9 N9 (.head _) (by rw [List.size_toArray]; rw [sizeLine_eq]; omega) ?_
        intro g5
        refine comp_J (n := 6) (fun i ys nx => nx = _ ∧ Texts ys (((bareRow st).map wordS).take i)) ?_ ?_ _ 0 [] _ (by rw [List.size_toArray]; omega) ⟨rfl, .nil⟩
        · rintro i ys _ v I oI C oC D m₂ h7 tk7 E' hi hv ⟨rfl, hys⟩ hC hx F7 N7 off ne
          obtain ⟨t7, hv'⟩ := hRI'.get (i := i) (by omega)
          obtain rfl : v = _ := Option.some.inj (((by simpa using hv) : vR[i]? = some v).symm.trans hv')
          rw [zi_getD] at hx
          have hg : (walkN 6 st.1).getD i 0 < 6 := hwb.2 _ (getD_mem _ _ _ (by omega))
          k_steps
          rename Fr _ _ _ _ => F8
          rename News _ _ _ _ => N8
          refine comp_end F8 N8 off (.inr ⟨_, .head _, rfl, _, rfl⟩) ⟨rfl, ?_⟩
          rw [take_snoc _ _ Str.empty (by omega)]
          have e : ((bareRow st).map wordS).getD i Str.empty = (st.2.map wordS).getD (((walkN 6 st.1).getD i 0 : Nat) : Int).toNat Str.empty := by
            rw [Int.toNat_natCast, getD_map wordS st.2 _ [] Str.empty (by omega), getD_map wordS (bareRow st) _ [] Str.empty (by rw [List.length_map] at hbl; omega)]
            congr 1
            exact getD_map _ _ _ 0 [] (by omega)
          rw [e]
          exact hys.snoc _ _
        · rintro vT2 _ ⟨rfl, hTx2⟩
          rw [List.take_of_length_le (by omega)] at hTx2
          have hBok : ∀ x ∈ (bareRow st).map wordS, OkS x := by
            intro x hx
            obtain ⟨b, _, rfl⟩ := List.mem_map.mp hx
            exact wordS_ok b
          intro aT2 h7 tk7 F7 N7 o7
          k_steps
          refine' ne_texts (n := nB) (m := vT2.length) N7 ?m1 (.head _) hB hTx2 hBok hBok (by ktr_units) ?_
          case m1 => k_mem
          simp only [decide_true, Bool.not_true]
          k_steps
          exact MidV.intro F7 (news_less (news_less N7)) rfl
      clear F8 N8
      rintro _ h8 tk8 rfl F8 N8
      have hlt8 := allLt_of (d := h8.objs.size + 1) (fun p hp => Nat.lt_succ_of_lt (Heap.lt_size (N8 p hp).1))
      simp only [AllLt, and_true] at hlt8
      k_steps
      rename Fr _ _ _ _ => FB
      rename News _ _ _ _ => NB
      rename _ < _ ∧ _ => lD
      rename_i aD kB9 hB9
      dsimp only at NB lD FB
      rw [pick_all] at NB
      obtain ⟨aBo, hBo⟩ : ∃ a, a = h8.objs.size + 1 := ⟨_, rfl⟩
      rw [← hBo] at NB lD FB hlt8
      have hSort : ∀ a b, a < b → b < ps.length → ltS (tx ps a) (tx ps b) = true := names_sorted hst (by omega) hT
      have hqs : ∀ q ∈ qs, @LT.lt Nat _ q.1 aBo := kst_ltOf hlt8.2.2.2.2.2.2.2.2.2.2.2
      with_unfolding_all refine' For_invVF FB ?q1 ?q2 ?_
      case q1 => exact rfl
      case q2 => exact rfl
      k_steps
      rename IsRange _ _ _ _ _ _ _ _ => hR
      rename Fr _ _ _ _ => FB
      rename News _ _ _ _ => NB
      refine' for_range0_st (n := 6) (fun c : BothSt => (aD, listOf c.vD.toArray c.nD) :: (aBo, listOf c.vBo.toArray c.nBo) :: (aU, listOf vU.toArray vU.length) :: (aB, listOf vB.toArray nB) :: (aF, listOf vF.toArray nF) :: (aN, listOf vN.toArray nN) :: (aM, listOf vM.toArray nM) :: (aW, listOf vW.toArray nW) :: (aL, listOf vL.toArray nL) :: (aC, listOf us.toArray nC) :: (s1.heap.objs.size + 1 + 1 + 1, oU) :: (s1.heap.objs.size + 1 + 1, oWrd) :: (s1.heap.objs.size + 1, oTag) :: c.qs) (fun _ => []) [Str.ofString "other"]
        (BothP wW ps qs aD) ⟨[], qs, vN, 0, [], 0⟩ rfl hR (by decide) (by decide) FB NB (fun _ h => nomatch h) ?hp2 ?turn2 ?done2
      case hp2 => exact ⟨by simpa using hN, .nil, rfl, fun p h => h, fun p h => .inl h⟩
      case done2 =>
        clear FB NB hR
        rintro ⟨pd, qs', vBo, nBo, vD, nD⟩ u2 h9 tk9 ⟨hB2, hD2, ht2, hs2, hq2⟩ F9 N9
        dsimp only at hB2 hD2 ht2 hs2 hq2 F9 N9
        rw [List.drop_of_length_le (by omega), List.append_nil] at hB2
        have hBl := hB2.length
        have hDl := hD2.length
        have hpd : pd.length = 12 := by
          rw [← List.length_map (f := fun (x : Bool × Str) => x.2), ht2, twice_length, List.length_map, List.length_take]; omega
        k_steps
        rename Fr _ _ _ _ => F9
        rename News _ _ _ _ => N9
        refine mid_val (fun f => f = .next) F9 N9 ?_ ?_
        · walk1
          k_steps
          obtain ⟨Lz, hLz⟩ : ∃ l : Led, l = (aD, listOf vD.toArray nD) :: (aBo, listOf vBo.toArray nBo) :: (aU, listOf vU.toArray vU.length) :: (aB, listOf vB.toArray nB) :: (aF, listOf vF.toArray nF) :: (aN, listOf vN.toArray nN) :: (aM, listOf vM.toArray nM) :: (aW, listOf vW.toArray nW) :: (aL, listOf vL.toArray nL) :: (aC, listOf us.toArray nC) :: (s1.heap.objs.size + 1 + 1 + 1, oU) :: (s1.heap.objs.size + 1 + 1, oWrd) :: (s1.heap.objs.size + 1, oTag) :: qs' := ⟨_, rfl⟩
          have mD : (aD, listOf vD.toArray nD) ∈ Lz := by rw [hLz]; k_mem
          have mBo : (aBo, listOf vBo.toArray nBo) ∈ Lz := by rw [hLz]; k_mem
          have hinLz : ∀ q ∈ qs', q ∈ Lz := by intro q hq; rw [hLz]; repeat (first | exact hq | refine List.Mem.tail _ ?_)
          rw [← hLz] at N9
          refine LCg.ListComp_U (F₀ := F9) (by with_unfolding_all rfl) (by decide) (by rfl) (by decide) (by rfl) ?_
          k_steps
          refine LCg.CompSrc.ledger (by rfl) F9 N9 (by exact mBo) (by show vBo.length ≤ _; rw [sizeLine_eq]; omega) ?_
          intro g5
          refine comp_J (n := vBo.length) (fun i ys nx => ∃ own, nx = own ++ Lz ∧ Pairs own ys (pd.take i)) ?_ ?_ _ 0 [] _ rfl ⟨[], rfl, .nil⟩
          · rintro i ys _ v I oI C oC D m₂ h6 tk6 E' hi hv ⟨own, rfl, hys⟩ hC hx F6 N6 off ne
            obtain ⟨v', b, hv', hnm, hb'⟩ := hB2.at (i := i) (by omega)
            obtain rfl : v = v' := Option.some.inj (((by simpa using hv) : vBo[i]? = some v).symm.trans hv')
            have hnm2 := hnm.mono (news' := (I, oI) :: (C, oC) :: (D, LCg.lst ys) :: (own ++ Lz)) (fun q hq => .tail _ (.tail _ (.tail _ (List.mem_append_right _ (hinLz q hq)))))
            cases hnm2 with
            | str x t =>
              k_steps
              refine Does.use (text_str wW _ _ _) (by assumption) (by assumption) (by assumption) (by assumption) (by assumption) rfl (by ktr_room) (by ktr_units) ?_
              rintro _ _ h7 tk7 ⟨rfl, t7, rfl⟩ F7 N7
              k_steps
              rename Fr _ _ _ _ => F8
              rename News _ _ _ _ => N8
              rename _ < _ ∧ _ => l8
              refine comp_end F8 (news_sub N8 mem_rot) ⟨⟨by k_ne, by k_ne, by k_ne⟩, off⟩ (.inr ⟨_, .tail _ (List.mem_append_right _ mBo), rfl, _, rfl⟩) ⟨_ :: own, rfl, ?_⟩
              have e : pd.take (i + 1) = pd.take i ++ [(true, tx pd i)] := by
                rw [List.take_succ_eq_append_getElem (by omega), tx_at (by omega), hb']
              rw [e]
              exact (hys.mono (fun p hp => .tail _ hp)).snoc (.head _)
            | qn q1 q2 =>
              k_steps
              refine Does.use (text_any (.qn q1 q2)) (by assumption) (by assumption) (by assumption) (by assumption) (by assumption) rfl (by ktr_room) (by ktr_units) ?_
              rintro _ _ h7 tk7 ⟨rfl, t7, rfl⟩ F7 N7
              k_steps
              rename Fr _ _ _ _ => F8
              rename News _ _ _ _ => N8
              rename _ < _ ∧ _ => l8
              refine comp_end F8 (news_sub N8 mem_rot) ⟨⟨by k_ne, by k_ne, by k_ne⟩, off⟩ (.inr ⟨_, .tail _ (List.mem_append_right _ mBo), rfl, _, rfl⟩) ⟨_ :: own, rfl, ?_⟩
              have e : pd.take (i + 1) = pd.take i ++ [(false, tx pd i)] := by
                rw [List.take_succ_eq_append_getElem (by omega), tx_at (by omega), hb']
              rw [e]
              exact (hys.mono (fun p hp => .tail _ hp)).snoc (.head _)
          · rintro vT _ ⟨own, rfl, hTx⟩
            rw [List.take_of_length_le (by omega)] at hTx
            intro aT h6 tk6 F6 N6 o6
            k_steps
            obtain ⟨Ly, hLy⟩ : ∃ l : Led, l = (aT, LCg.lst vT) :: (own ++ Lz) := ⟨_, rfl⟩
            have mDz : (aD, listOf vD.toArray nD) ∈ Ly := by rw [hLy]; exact .tail _ (List.mem_append_right _ mD)
            have hinLy : ∀ q ∈ qs', q ∈ Ly := by intro q hq; rw [hLy]; exact .tail _ (List.mem_append_right _ (hinLz q hq))
            have hTxy := hTx.mono (news' := Ly) (by intro q hq; rw [hLy]; exact .tail _ (List.mem_append_left _ hq))
            have haT : (aT, LCg.lst vT) ∈ Ly := by rw [hLy]; exact .head _
            have hLzy : ∀ q ∈ Lz, q ∈ Ly := by intro q hq; rw [hLy]; exact .tail _ (List.mem_append_right _ hq)
            rw [← hLy] at N6
            clear hLy o6
            refine LCg.ListComp_U (F₀ := F6) (by with_unfolding_all rfl) (by decide) (by rfl) (by decide) (by rfl) ?_
            k_steps
            refine LCg.CompSrc.ledger (by rfl) F6 N6 (by exact mDz) (by show vD.length ≤ _; rw [sizeLine_eq]; omega) ?_
            intro g5
            refine comp_J (n := vD.length) (fun i ys nx => ∃ own2, nx = own2 ++ Ly ∧ Pairs own2 ys (pd.take i)) ?_ ?_ _ 0 [] _ rfl ⟨[], rfl, .nil⟩
            · rintro i ys _ v I oI C oC D m₂ h16 tk16 E' hi hv ⟨own2, rfl, hys⟩ hC hx F16 N16 off ne
              obtain ⟨v', b, hv', hnm, hb'⟩ := hD2.at (i := i) (by omega)
              obtain rfl : v = v' := Option.some.inj (((by simpa using hv) : vD[i]? = some v).symm.trans hv')
              have hnm2 := hnm.mono (news' := (I, oI) :: (C, oC) :: (D, LCg.lst ys) :: (own2 ++ Ly)) (fun q hq => .tail _ (.tail _ (.tail _ (List.mem_append_right _ (hinLy q hq)))))
              cases hnm2 with
              | str x t =>
                k_steps
                refine Does.use (text_str wW _ _ _) (by assumption) (by assumption) (by assumption) (by assumption) (by assumption) rfl (by ktr_room) (by ktr_units) ?_
                rintro _ _ h7 tk7 ⟨rfl, t7, rfl⟩ F7 N7
                k_steps
                rename Fr _ _ _ _ => F8
                rename News _ _ _ _ => N8
                rename _ < _ ∧ _ => l8
                refine comp_end F8 (news_sub N8 mem_rot) ⟨⟨by k_ne, by k_ne, by k_ne⟩, off⟩ (.inr ⟨_, .tail _ (List.mem_append_right _ mDz), rfl, _, rfl⟩) ⟨_ :: own2, rfl, ?_⟩
                have e : pd.take (i + 1) = pd.take i ++ [(true, tx pd i)] := by
                  rw [List.take_succ_eq_append_getElem (by omega), tx_at (by omega), hb']
                rw [e]
                exact (hys.mono (fun p hp => .tail _ hp)).snoc (.head _)
              | qn q1 q2 =>
                k_steps
                refine Does.use (text_any (.qn q1 q2)) (by assumption) (by assumption) (by assumption) (by assumption) (by assumption) rfl (by ktr_room) (by ktr_units) ?_
                rintro _ _ h7 tk7 ⟨rfl, t7, rfl⟩ F7 N7
                k_steps
                rename Fr _ _ _ _ => F8
                rename News _ _ _ _ => N8
                rename _ < _ ∧ _ => l8
                refine comp_end F8 (news_sub N8 mem_rot) ⟨⟨by k_ne, by k_ne, by k_ne⟩, off⟩ (.inr ⟨_, .tail _ (List.mem_append_right _ mDz), rfl, _, rfl⟩) ⟨_ :: own2, rfl, ?_⟩
                have e : pd.take (i + 1) = pd.take i ++ [(false, tx pd i)] := by
                  rw [List.take_succ_eq_append_getElem (by omega), tx_at (by omega), hb']
                rw [e]
                exact (hys.mono (fun p hp => .tail _ hp)).snoc (.head _)
            · rintro vT2 _ ⟨own2, rfl, hTx2⟩
              rw [List.take_of_length_le (by omega)] at hTx2
              intro aT2 h17 tk17 F17 N17 o17
              have hPok : ∀ x ∈ pd, OkS x.2 := names_ok (fun x hx => by
                rw [ht2, List.take_of_length_le (by omega), hT] at hx
                exact hRok x (mem_twice hx))
              k_steps
              refine ne_pairs (n := vT.length) (m := vT2.length) N17 (.tail _ (List.mem_append_right _ haT)) (.head _) (hTxy.mono (fun q hq => .tail _ (List.mem_append_right _ hq))) (hTx2.mono (fun q hq => .tail _ (List.mem_append_left _ hq))) hPok hPok (by ktr_units) ?_
              simp only [decide_true, Bool.not_true]
              k_steps
              exact MidV.intro F17 (news_sub N17 (fun q hq => .tail _ (List.mem_append_right _ (hLzy q (by rw [hLz]; exact hq))))) rfl
        rintro _ h9 tk9 rfl F9 N9
        k_steps
        rename Fr _ _ _ _ => FC
        rename News _ _ _ _ => NC
        with_unfolding_all refine' For_invVF FC ?r1 ?r2 ?_
        case r1 => exact rfl
        case r2 => exact rfl
        k_steps
        rename IsRange _ _ _ _ _ _ _ _ => hR
        rename Fr _ _ _ _ => FC
        rename News _ _ _ _ => NC
        obtain ⟨L9, hL9⟩ : ∃ l : Led, l = (aD, listOf vD.toArray nD) :: (aBo, listOf vBo.toArray nBo) :: (aU, listOf vU.toArray vU.length) :: (aB, listOf vB.toArray nB) :: (aF, listOf vF.toArray nF) :: (aN, listOf vN.toArray nN) :: (aM, listOf vM.toArray nM) :: (aW, listOf vW.toArray nW) :: (aL, listOf vL.toArray nL) :: (aC, listOf us.toArray nC) :: (s1.heap.objs.size + 1 + 1 + 1, oU) :: (s1.heap.objs.size + 1 + 1, oWrd) :: (s1.heap.objs.size + 1, oTag) :: qs' := ⟨_, rfl⟩
        refine' for_range0_st (σ := Unit) (n := 6) (fun _ => (aD, listOf vD.toArray nD) :: (aBo, listOf vBo.toArray nBo) :: (aU, listOf vU.toArray vU.length) :: (aB, listOf vB.toArray nB) :: (aF, listOf vF.toArray nF) :: (aN, listOf vN.toArray nN) :: (aM, listOf vM.toArray nM) :: (aW, listOf vW.toArray nW) :: (aL, listOf vL.toArray nL) :: (aC, listOf us.toArray nC) :: (s1.heap.objs.size + 1 + 1 + 1, oU) :: (s1.heap.objs.size + 1 + 1, oWrd) :: (s1.heap.objs.size + 1, oTag) :: qs') (fun _ => []) [Str.ofString "first", Str.ofString "at", Str.ofString "shared", Str.ofString "row", Str.ofString "place", Str.ofString "lowered", Str.ofString "j"]
          (fun _ _ => True) () rfl hR (by decide) (by decide) FC NC (fun _ h => nomatch h) trivial ?turn3 ?done3
        case done3 =>
          clear FC NC hR
          rintro _ u3 h10 tk10 _ F10 N10
          k_steps
        case turn3 =>
          clear FC NC hR
          rintro _ i t u3 h10 tk10 I oI hi _ hI F10 N10
          try dsimp only at hI
          have hg : st.1.getD i 0 < 6 := hlen.2.2 _ (getD_mem _ _ _ (by omega))
          have hz : (zi st.1).getD (Int.toNat (i : Int)) 0 = ((st.1.getD i 0 : Nat) : Int) := by rw [zi_getD, Int.toNat_natCast]
          have hiz : i < (zi st.1).length := by rw [hzl]; exact hi
          have hgw : st.1.getD i 0 < (st.2.map wordS).length := by rw [hwl]; exact hg
          k_steps
          refine mid_val (fun f => f = .next) F10 N10 ?_ ?_
          · walk1
            k_steps
            rw [hz, Int.toNat_natCast, getD_words]
            refine Does.use (mkq_does wW _ _ _ _ _ (hwl5 _) hT1) (by assumption) (by assumption) (by assumption) N10 (by assumption) rfl (by ktr_room) (by ktr_units) ?_
            rintro _ _ h12 tk12 ⟨a12, d12, k12, t12, rfl, rfl, hl12, hda⟩ F12 N12
            rw [name_is] at N12
            k_steps
            have hnew : ∀ q ∈ qs, q.1 ≠ a12 := fun q hq' => Nat.ne_of_lt (Nat.lt_trans (hl12 q (by have := hs2 q hq'; repeat (first | exact this | refine List.Mem.tail _ ?_))) hda)
            refine' Does.use (count_does wW _ aN vN nN ps a12 d12 k12 _ t12 ?m1 (hN.mono ?m2) (by omega) (.head _) (.tail _ (.head _)) (names_ne hN hnew)) (by assumption) (by assumption) (by assumption) N12 (by assumption) rfl (by ktr_room) (by ktr_units) ?_
            case m1 => k_mem
            case m2 => intro q hq'; have := hs2 q hq'; repeat (first | exact this | refine List.Mem.tail _ ?_)
            rintro _ _ h13 tk13 ⟨rfl, t13, rfl⟩ F13 N13
            have hc1 := count_one hst (by omega) hT hi
            unfold wdN at hc1
            rw [hc1]
            k_steps
            all_goals first | exact MidV.intro F13 (news_less (news_less N13)) rfl
          rintro _ h11 tk11 rfl F12 N12
          clear F10 N10
          k_steps
          rename Fr _ _ _ _ => FE
          rename News _ _ _ _ => NE
          with_unfolding_all refine' For_invVF FE ?v1 ?v2 ?_
          case v1 => exact rfl
          case v2 => exact rfl
          k_steps
          rename IsRange _ _ _ _ _ _ _ _ => hR4
          rename Fr _ _ _ _ => FE
          rename News _ _ _ _ => NE
          refine' for_range_st (σ := Unit) (n := 6 - i) (fun _ => (I, oI) :: (aD, listOf vD.toArray nD) :: (aBo, listOf vBo.toArray nBo) :: (aU, listOf vU.toArray vU.length) :: (aB, listOf vB.toArray nB) :: (aF, listOf vF.toArray nF) :: (aN, listOf vN.toArray nN) :: (aM, listOf vM.toArray nM) :: (aW, listOf vW.toArray nW) :: (aL, listOf vL.toArray nL) :: (aC, listOf us.toArray nC) :: (s1.heap.objs.size + 1 + 1 + 1, oU) :: (s1.heap.objs.size + 1 + 1, oWrd) :: (s1.heap.objs.size + 1, oTag) :: qs') (fun _ => []) [Str.ofString "first", Str.ofString "at", Str.ofString "shared", Str.ofString "row", Str.ofString "place", Str.ofString "lowered"]
            (fun _ _ => True) () rfl hR4 (range_up i hi).1 (range_up i hi).2 FE NE (fun _ h => nomatch h) trivial ?turn4 ?done4
          case done4 =>
            clear FE NE hR4
            rintro _ u4 h13 tk13 _ F13 N13
            k_steps
            refine StJ.end () (by assumption) (by assumption) (fun q hq => List.Mem.tail _ hq) (.head _) hI (fun _ h => nomatch h) ?hr4 trivial
            intro z h1 h2 h3
            have e1 : z ≠ Str.ofString "j" := (by intro e; rw [e] at h3; simp at h3)
            have h4 : [Str.ofString "first", Str.ofString "at", Str.ofString "shared", Str.ofString "row", Str.ofString "place", Str.ofString "lowered"].contains z = false := by
              simp only [List.contains_cons, List.contains_nil, Bool.or_eq_false_iff] at h3 ⊢
              exact ⟨h3.1, h3.2.1, h3.2.2.1, h3.2.2.2.1, h3.2.2.2.2.1, h3.2.2.2.2.2.1, trivial⟩
            simp only [kstB, if_neg e1, if_neg h1, h3, h4, Bool.false_eq_true, if_false]
          case turn4 =>
            clear FE NE hR4
            rintro _ j t4 u4 h13 tk13 I4 oI4 hj _ hI4 F13 N13
            have hj6 : i + j < 6 := by omega
            have hg4 : st.1.getD (i + j) 0 < 6 := hlen.2.2 _ (getD_mem _ _ _ (by omega))
            have hz4 : (zi st.1).getD (Int.toNat ((i : Int) + (j : Int))) 0 = ((st.1.getD (i + j) 0 : Nat) : Int) := by rw [zi_getD, show Int.toNat ((i : Int) + (j : Int)) = i + j by omega]
            have hzb : ∀ x ∈ zi st.1, 0 ≤ x ∧ x < 100 := by
              intro x hx
              obtain ⟨y, hy, rfl⟩ := List.mem_map.mp hx
              have := hlen.2.2 y hy
              omega
            have hvL6 : vL.length = 6 := hLl.trans hzl
            have hvN6 : vN.length = 6 := hNl.trans hpl
            have hvF6 : vF.length = 6 := by rw [hF.length, fall_len]; exact hlen.1
            have hi6 : i ≤ 6 := Nat.le_of_lt hi
            have hb6 : i + j + 1 ≤ 6 := hj6
            have hc0 : (0 : Nat) ≤ 6 := Nat.zero_le _
            clear dNu dW0 dT0 Nn0 Xx0
            k_steps
            refine' slice_my ?sF ?sN ?sm (.int _ _) (.int _ _) i (i + j + 1) (sb_run ?se ?se2 ?sl ?sl2) ?sz ?_ ?ss ?st
            case sF => assumption
            case sN => assumption
            case sm => k_mem
            case se => rfl
            case se2 => rfl
            case sl => rw [hvL6]; exact hi6
            case sl2 => rw [hvL6]; exact hb6
            case sz => exact small6 hvL6
            case ss => with_unfolding_all rfl
            case st => kmk_pure
            intro D14 h14 F14 N14 l14
            k_steps
            have hLs := ((hL.drop i).take (i + j + 1 - i)).are
            refine kso_min (by assumption) (by assumption) (News.isList (by assumption) (.head _)) hLs (dt_pos hzl hj6) rfl ?_
            intro h15 M t15 tk15 F15 N15 hM hle
            rw [ij_sub] at hM hle
            replace N15 := news_less N15
            have hMz : M ∈ zi st.1 := List.mem_of_mem_drop (List.mem_of_mem_take hM)
            obtain ⟨q, hq5⟩ := pair_fact hst hj6 hM hle
            clear hM hle hLs l14 N14 F14
            k_steps
            refine index_list_ints (News.isList (by assumption) (by k_mem)) hL.are (lay_small hzb (by rw [hzl]; decide)) hMz ?_
            rw [hq5.ix]
            k_steps
            rw [hz, hz4, Int.toNat_natCast, Int.toNat_natCast, getD_words, getD_words]
            refine' Does.use (shared_does wW _ _ _ _ _ (hwl5 _) (hwl5 _)) (by assumption) (by assumption) (by assumption) (by assumption) (by assumption) rfl (by ktr_room) (by ktr_units) ?_
            rintro _ _ h16 tk16 ⟨rfl, t16, rfl⟩ F16 N16
            have hpre := hq5.pre
            unfold wdN at hpre
            rw [shared_is, hpre]
            clear F15 N15
            k_steps
            refine' slice_my ?sF ?sN ?sm (.int _ _) .none (i + j + 1) 6 (sb_from6 ?se0 ?se ?sl) ?sz ?_ ?ss ?st
            case sF => assumption
            case sN => assumption
            case sm => k_mem
            case se0 => exact hvN6
            case se => rfl
            case sl => exact hb6
            case sz => exact small6 hvN6
            case ss => with_unfolding_all rfl
            case st => kmk_pure
            intro D17 h17 F17 N17 l17
            k_steps
            refine' slice_my ?sF ?sN ?sm (.int _ _) (.int _ _) i (i + j + 1) (sb_run ?se ?se2 ?sl ?sl2) ?sz ?_ ?ss ?st
            case sF => assumption
            case sN => assumption
            case sm => k_mem
            case se => rfl
            case se2 => rfl
            case sl => rw [hvN6]; exact hi6
            case sl2 => rw [hvN6]; exact hb6
            case sz => exact small6 hvN6
            case ss => with_unfolding_all rfl
            case st => kmk_pure
            intro D18 h18 F18 N18 l18
            k_steps
            refine' add_my F18 N18 (.tail _ (.head _)) (.head _) ?sz ?sz2 ?_
            case sz => exact dt_le hvN6 _ _
            case sz2 => exact dt_le hvN6 _ _
            intro D19 h19 F19 N19 l19
            replace N19 := news_1 N19
            clear F17 N17 F18 N18 l17 l18 l19
            k_steps
            refine' slice_my ?sF ?sN ?sm .none (.int _ _) 0 i (sb_to ?se ?sl) ?sz ?_ ?ss ?st
            case sF => assumption
            case sN => assumption
            case sm => k_mem
            case se => rfl
            case sl => rw [hvN6]; exact hi6
            case sz => exact small6 hvN6
            case ss => with_unfolding_all rfl
            case st => kmk_pure
            intro D20 h20 F20 N20 l20
            k_steps
            refine' add_my F20 N20 (.tail _ (.head _)) (.head _) ?sz ?sz2 ?_
            case sz => exact dt_le2 hvN6 _ _ _ _
            case sz2 => exact dt_le hvN6 _ _
            intro D21 h21 F21 N21 l21
            replace N21 := news_1 N21
            clear F19 N19 F20 N20 l20
            k_steps
            rename Fr _ _ _ _ => FR
            rename News _ _ _ _ => NR
            have hRl := rot_left hst hT hq5.ge hq5.le hj6
            have hRr := rot_right hst hT hq5.ge hq5.le hj6
            have hNr := hN.rot i (i + j)
            have hrl : (rot ps i (i + j)).length = 6 := rot_len hpl (Nat.le_add_right _ _) hj6
            have hge := hq5.ge
            have hle := hq5.le
            have hwq : (wordS ((nameRow st).getD q [])).length ≤ 1000 := by
              rw [wordS_length, row_at st (by rw [hlen.1]; exact Nat.lt_of_le_of_lt hle hj6)]
              exact Nat.le_trans (reach_len hst (Nat.le_refl _) _) (by decide)
            have c5 : (5 : Int) - ((i : Int) + (j : Int)) = ((5 - (i + j) : Nat) : Int) := cast5 hj6
            have c6 : (6 : Int) - (i : Int) = ((6 - i : Nat) : Int) := cast6 hi
            rw [c5] at FR
            refine mid_val (fun f => f = .next) FR NR ?_ ?_
            · walk1
              k_steps
              refine Does.use (mkq_does wW _ _ _ _ _ hwq hT1) (by assumption) (by assumption) (by assumption) NR (by assumption) rfl (by ktr_room) (by ktr_units) ?_
              rintro _ _ h22 tk22 ⟨a22, d22, k22, t22, rfl, rfl, hl22, hda⟩ F22 N22
              rw [name_is] at N22
              clear FR NR
              k_steps
              rw [c5, c6]
              refine' Does.use (bl_none_i wW _ D21 (rot vN i (i + j)) 0 (rot ps i (i + j)) _ false _ (5 - (i + j)) (6 - i) _ _ ?m1 (hNr.mono ?m2) (.qn (.head _) (.tail _ (.head _))) (small6 hrl) (lohi i j) (by rw [hrl]; exact Nat.sub_le _ _) hRl.1) (by assumption) (by assumption) (by assumption) N22 (by assumption) rfl (by ktr_room) (by ktr_units) ?_
              case m1 => exact .tail _ (.tail _ (.head _))
              case m2 => intro q hq'; have := hs2 q hq'; repeat (first | exact this | refine List.Mem.tail _ ?_)
              rintro _ _ h23 tk23 ⟨rfl, k23, t23, rfl, hP23⟩ F23 N23
              obtain rfl := hRl.2 _ hP23
              clear F22 N22
              k_steps
              all_goals first | exact MidV.intro F23 (news_less (news_less N23)) rfl | exact absurd (place1 hge) (by assumption) | (exfalso; omega)
            rintro _ h24 tk24 rfl F24 N24
            clear FR NR
            k_steps
            refine mid_val (fun f => f = .next) F24 N24 ?_ ?_
            · walk1
              k_steps
              refine Does.use (name_does wW _ _ _ _ _ hwq (by omega)) (by assumption) (by assumption) (by assumption) N24 (by assumption) rfl (by ktr_room) (by ktr_units) ?_
              rintro _ _ h25 tk25 ⟨rfl, t25, rfl⟩ F25 N25
              rw [name_is]
              clear F24 N24
              k_steps
              rw [c5, c6]
              refine' Does.use (br_none_i wW _ D21 (rot vN i (i + j)) 0 (rot ps i (i + j)) _ true _ (5 - (i + j)) (6 - i) _ _ ?m1 (hNr.mono ?m2) (.str _ _) (small6 hrl) (lohi i j) (by rw [hrl]; exact Nat.sub_le _ _) hRr.1) (by assumption) (by assumption) (by assumption) N25 (by assumption) rfl (by ktr_room) (by ktr_units) ?_
              case m1 => exact .head _
              case m2 => intro q hq'; have := hs2 q hq'; repeat (first | exact this | refine List.Mem.tail _ ?_)
              rintro _ _ h26 tk26 ⟨rfl, k26, t26, rfl, hP26⟩ F26 N26
              obtain rfl := hRr.2 _ hP26
              clear F25 N25
              k_steps
              all_goals first | exact MidV.intro F26 N26 rfl | exact absurd (place2 hge) (by assumption) | (exfalso; omega)
            rintro _ h27 tk27 rfl F27 N27
            clear F24 N24 hRl hRr hNr hrl l21
            replace N27 := news_less N27
            have hnA : (st.2.map num).getD (st.1.getD i 0) 0 = num (wdN st.2 (st.1.getD i 0)) := getD_map _ _ _ [] _ (by rw [hlen.2.1]; exact hg)
            have hnB : (st.2.map num).getD (st.1.getD (i + j) 0) 0 = num (wdN st.2 (st.1.getD (i + j) 0)) := getD_map _ _ _ [] _ (by rw [hlen.2.1]; exact hg4)
            have ho := pair_order hst (a := i) (b := i + j) (Nat.le_add_right _ _) hj6
            have hMe := hq5.eq
            have hgq : st.1.getD q 0 < 6 := hlen.2.2 _ (getD_mem _ _ _ (by rw [hlen.1]; exact Nat.lt_of_le_of_lt hle hj6))
            have hnM : (st.2.map num).getD (Int.toNat M) 0 = num ((nameRow st).getD q []) := by
              rw [hMe, Int.toNat_natCast, row_at st (by rw [hlen.1]; exact Nat.lt_of_le_of_lt hle hj6)]
              exact getD_map _ _ _ [] _ (by rw [hlen.2.1]; exact hgq)
            k_steps
            rw [hz, hz4, Int.toNat_natCast, Int.toNat_natCast, hnA, hnB]
            refine' Does.use (lowered_does wW _ _ _ _ _ ho.1 ho.2.1 ho.2.2) (by assumption) (by assumption) (by assumption) N27 (by assumption) rfl (by ktr_room) (by ktr_units) ?_
            rintro _ _ h28 tk28 ⟨rfl, k28, t28, rfl, hLow⟩ F28 N28
            obtain rfl := pair_low hst (Nat.le_add_right _ _) hj6 hq5 hLow
            clear F27 N27 hLow ho hnA hnB
            k_steps
            rename Fr _ _ _ _ => FR
            rename News _ _ _ _ => NR
            refine mid_val (fun f => f = .next) FR NR ?_ ?_
            · walk1
              k_steps
              all_goals first | exact MidV.intro (by assumption) (by assumption) rfl | exact absurd hnM.symm (by assumption) | (exfalso; omega)
            rintro _ h29 tk29 rfl F29 N29
            clear FR NR
            have hFr := hF.rot (5 - (i + j)) (5 - i)
            have hfl : (rot (fallRow st) (5 - (i + j)) (5 - i)).length = 6 := rot_len (by rw [fall_len]; exact hlen.1) (le_ij i j) (lt5 i)
            have hRf := rot_fall hst hge hle hj6
            k_steps
            refine' slice_my ?sF ?sN ?sm (.int _ _) .none (5 - i + 1) 6 (sb_from6 ?se0 ?se ?sl) ?sz ?_ ?ss ?st
            case sF => assumption
            case sN => assumption
            case sm => k_mem
            case se0 => exact hvF6
            case se => exact cast6' hi
            case sl => exact le56 i
            case sz => exact small6 hvF6
            case ss => with_unfolding_all rfl
            case st => kmk_pure
            intro D37 h37 F37 N37 l37
            k_steps
            refine' slice_my ?sF ?sN ?sm (.int _ _) (.int _ _) (5 - (i + j)) (5 - i + 1) (sb_run ?se ?se2 ?sl ?sl2) ?sz ?_ ?ss ?st
            case sF => assumption
            case sN => assumption
            case sm => k_mem
            case se => exact cast5 hj6
            case se2 => exact cast6' hi
            case sl => rw [hvF6]; exact Nat.le_trans (le_ij i j) (le5 i)
            case sl2 => rw [hvF6]; exact le56 i
            case sz => exact small6 hvF6
            case ss => with_unfolding_all rfl
            case st => kmk_pure
            intro D38 h38 F38 N38 l38
            k_steps
            refine' add_my F38 N38 (.tail _ (.head _)) (.head _) ?sz ?sz2 ?_
            case sz => exact dt_le hvF6 _ _
            case sz2 => exact dt_le hvF6 _ _
            intro D39 h39 F39 N39 l39
            replace N39 := news_1 N39
            clear F37 N37 F38 N38 l37 l38 l39
            k_steps
            refine' slice_my ?sF ?sN ?sm .none (.int _ _) 0 (5 - (i + j)) (sb_to ?se ?sl) ?sz ?_ ?ss ?st
            case sF => assumption
            case sN => assumption
            case sm => k_mem
            case se => exact cast5 hj6
            case sl => rw [hvF6]; exact Nat.le_trans (le_ij i j) (le5 i)
            case sz => exact small6 hvF6
            case ss => with_unfolding_all rfl
            case st => kmk_pure
            intro D40 h40 F40 N40 l40
            k_steps
            refine' add_my F40 N40 (.tail _ (.head _)) (.head _) ?sz ?sz2 ?_
            case sz => exact dt_le2 hvF6 _ _ _ _
            case sz2 => exact dt_le hvF6 _ _
            intro D41 h41 F41 N41 l41
            replace N41 := news_1 N41
            clear F39 N39 F40 N40 l40 l41
            k_steps
            rename Fr _ _ _ _ => FR
            rename News _ _ _ _ => NR
            have c7 : (i : Int) + (j : Int) + 1 = ((i + j + 1 : Nat) : Int) := rfl
            refine mid_val (fun f => f = .next) FR NR ?_ ?_
            · walk1
              k_steps
              rw [c7]
              refine' Does.use (bl_neg_i wW _ D41 (rot vF (5 - (i + j)) (5 - i)) 0 (rot (fallRow st) (5 - (i + j)) (5 - i)) (-(num ((nameRow st).getD q []))) _ i (i + j + 1) _ _ ?m1 hFr (small6 hfl) (ij_up i j) (by rw [hfl]; exact hb6) hRf.1) (by assumption) (by assumption) (by assumption) (by assumption) (by assumption) rfl (by ktr_room) (by ktr_units) ?_
              case m1 => exact .head _
              rintro _ _ h42 tk42 ⟨rfl, k42, t42, rfl, hP42⟩ F42 N42
              obtain rfl := hRf.2 _ hP42
              clear FR NR
              k_steps
              all_goals first | exact MidV.intro F42 N42 rfl | exact absurd (place3 hle) (by assumption) | (exfalso; omega)
            rintro _ h43 tk43 rfl F43 N43
            clear FR NR hFr hfl hRf
            replace N43 := news_less N43
            k_steps
            refine StJ.end () (by assumption) N43 (fun q hq => List.Mem.tail _ hq) (.head _) hI4 (fun _ h => nomatch h) ?hr trivial
            case hr =>
              intro z h1 h2 h3
              have e1 : z ≠ Str.ofString "first" := (by intro e; rw [e] at h3; simp at h3)
              have e2 : z ≠ Str.ofString "at" := (by intro e; rw [e] at h3; simp at h3)
              have e3 : z ≠ Str.ofString "shared" := (by intro e; rw [e] at h3; simp at h3)
              have e4 : z ≠ Str.ofString "row" := (by intro e; rw [e] at h3; simp at h3)
              have e5 : z ≠ Str.ofString "place" := (by intro e; rw [e] at h3; simp at h3)
              have e6 : z ≠ Str.ofString "lowered" := (by intro e; rw [e] at h3; simp at h3)
              simp only [kstB, if_neg e1, if_neg e2, if_neg e3, if_neg e4, if_neg e5, if_neg e6, if_neg h1, h3, Bool.false_eq_true, if_false]
      case turn2 =>
        clear FB NB hR
        rintro ⟨pd, qs', vBo, nBo, vD, nD⟩ i t u2 h9 tk9 I oI hi ⟨hB2, hD2, ht2, hs2, hq2⟩ hI F9 N9
        dsimp only at hB2 hD2 ht2 hs2 hq2 hI F9 N9
        have hip : i < ps.length := by rw [hpl]; exact hi
        have hpd : pd.length = 2 * i := by
          rw [← List.length_map (f := fun (x : Bool × Str) => x.2), ht2, twice_length, List.length_map, List.length_take]; omega
        have hBl : vBo.length = pd.length + (ps.length - i) := by rw [hB2.length, List.length_append, List.length_drop]
        have hDl : vD.length = pd.length := hD2.length
        have hgi : ps.getD (Int.toNat (i : Int)) (true, Str.empty) = ps[i] := by
          rw [Int.toNat_natCast, List.getD_eq_getElem?_getD, List.getElem?_eq_getElem hip]; rfl
        have htx : tx ps i = (ps[i]).2 := by unfold tx; rw [List.getElem?_eq_getElem hip]; rfl
        have hqB : ∀ q ∈ qs', q.1 ≠ aBo := by
          intro q hq
          rcases hq2 q hq with h | h
          · have := hqs q h; k_ne
          · have := ltN h; have := lD.1; k_ne
        have hqD : ∀ q ∈ qs', q.1 ≠ aD := by
          intro q hq
          rcases hq2 q hq with h | h
          · have := hqs q h; have := lD.1; k_ne
          · have := ltN h; k_ne
        have ID : I ≠ aD := (hI _ (.head _)).symm
        have IB : I ≠ aBo := (hI _ (.tail _ (.head _))).symm
        k_steps
        rename NameV _ _ _ _ _ => hV
        rw [hgi] at hV
        rename Fr _ _ _ _ => F5
        rename News _ _ _ _ => N5
        refine Does.use (other_any (hV.mono ?_)) (by assumption) (by assumption) (by assumption) N5 (by assumption) rfl (by ktr_room) (by ktr_units) ?_
        · intro q hq; repeat (first | exact hs2 q hq | refine List.Mem.tail _ ?_)
        rintro r _ h10 tk10 ⟨q', rfl, ho, hql⟩ F10 N10
        clear F5 N5
        replace N10 := news_sub N10 mem_puts
        have hcq : ∀ q ∈ q', @LT.lt Nat _ aD q.1 := fun q hq => hql q hq (aD, _) (.tail _ (.head _))
        have hqB' : ∀ q ∈ q' ++ qs', q.1 ≠ aBo := by
          intro q hq
          rcases List.mem_append.mp hq with h | h
          · have := hcq q h; have := lD.1; k_ne
          · exact hqB q h
        have hqD' : ∀ q ∈ q' ++ qs', q.1 ≠ aD := by
          intro q hq
          rcases List.mem_append.mp hq with h | h
          · have := hcq q h; k_ne
          · exact hqD q h
        have hbl := both_left hip hSort ht2
        have hbr := both_right hip hSort ht2
        rw [htx] at hbl hbr
        k_steps
        walk1
        k_steps
        · rename News _ _ _ _ => N11
          refine' Does.use (il_names wW _ _ aBo vBo nBo (pd ++ ps.drop i) r _ _ ?U (hB2.mono ?hm) (ho.mono ?hm2) ?hl hbl.1) (by assumption) (by assumption) (by assumption) N11 (by assumption) rfl (by ktr_room) (by ktr_units) ?_
          case U => k_upd
          case hm => intro q hq; repeat (first | exact List.mem_append_right _ hq | refine List.Mem.tail _ ?_)
          case hm2 => intro q hq; repeat (first | exact List.mem_append_left _ hq | refine List.Mem.tail _ ?_)
          case hl => rw [List.length_append, List.length_drop]; exact both_le hpd hpl hi
          rintro _ _ h12 tk12 ⟨rfl, k12, hP, rfl⟩ F12 N12
          obtain rfl := hbl.2 _ hP
          clear N11
          try dsimp only at N12
          k_steps
          rename NameV _ qs _ _ _ => hV2
          rw [hgi] at hV2
          rename Fr _ _ _ _ => F5
          rename News _ _ _ _ => N5
          refine' extend_my (ys := [r, _]) F5 N5 (.head _) (by simp) ?U ?hz (by simp) ?_
          case U => k_upd
          case hz => exact twice_le hDl hpd hi
          intro h13 F13 N13
          clear F5 N5
          try dsimp only at N13
          k_steps
          refine StJ.end ⟨pd ++ [(!(ps[i]).1, (ps[i]).2), ps[i]], q' ++ qs', _, _, _, _⟩ (by assumption) N13 (fun q hq => List.Mem.tail _ (List.Mem.tail _ hq)) (.tail _ (.head _)) ?ha2 (fun _ h => nomatch h) ?hr2 ?hp3
          case ha2 =>
            refine List.forall_mem_cons.mpr ⟨ID.symm, List.forall_mem_cons.mpr ⟨IB.symm, ?_⟩⟩
            intro q hq hqI
            rcases List.mem_append.mp (show q ∈ [(aU, listOf vU.toArray vU.length), (aB, listOf vB.toArray nB), (aF, listOf vF.toArray nF), (aN, listOf vN.toArray nN), (aM, listOf vM.toArray nM), (aW, listOf vW.toArray nW), (aL, listOf vL.toArray nL), (aC, listOf us.toArray nC), (s1.heap.objs.size + 1 + 1 + 1, oU), (s1.heap.objs.size + 1 + 1, oWrd), (s1.heap.objs.size + 1, oTag)] ++ (q' ++ qs') from hq) with h | h
            · exact hI q (.tail _ (.tail _ (List.mem_append_left qs' h))) hqI
            · rcases List.mem_append.mp h with h | h
              · have := hql q h (I, oI) (.head _)
                rw [hqI] at this
                exact Nat.lt_irrefl _ this
              · exact hI q (by repeat (first | exact h | refine List.Mem.tail _ ?_)) hqI
          case hr2 =>
            intro z h1 h2 h3
            have e1 : z ≠ Str.ofString "other" := (by intro e; rw [e] at h3; simp at h3)
            simp only [kstB, if_neg e1, if_neg h1, h3, Bool.false_eq_true, if_false]
          case hp3 =>
            have hB3 := (hB2.mono (fun p hp => List.mem_append_right q' hp)).ins (ho.mono (fun p hp => List.mem_append_left qs' hp)) (2 * i)
            rw [ins_left hip hpd] at hB3
            have hV3 := hV2.mono (fun p hp => List.mem_append_right q' (hs2 p hp))
            have ho3 := ho.mono (fun p hp => List.mem_append_left qs' hp)
            refine ⟨hB3, (hD2.mono (fun p hp => List.mem_append_right q' hp)).append (.cons ho3 (.cons hV3 .nil)), twice_next hip ht2 _ _ rfl rfl, fun p hp => List.mem_append_right _ (hs2 p hp), ?_⟩
            intro p hp
            rcases List.mem_append.mp hp with h | h
            · exact .inr (hcq p h)
            · exact hq2 p h
        · rename News _ _ _ _ => N11
          refine' Does.use (ir_names wW _ _ aBo vBo nBo (pd ++ ps.drop i) r _ _ ?U (hB2.mono ?hm) (ho.mono ?hm2) ?hl hbr.1) (by assumption) (by assumption) (by assumption) N11 (by assumption) rfl (by ktr_room) (by ktr_units) ?_
          case U => k_upd
          case hm => intro q hq; repeat (first | exact List.mem_append_right _ hq | refine List.Mem.tail _ ?_)
          case hm2 => intro q hq; repeat (first | exact List.mem_append_left _ hq | refine List.Mem.tail _ ?_)
          case hl => rw [List.length_append, List.length_drop]; exact both_le hpd hpl hi
          rintro _ _ h12 tk12 ⟨rfl, k12, hP, rfl⟩ F12 N12
          obtain rfl := hbr.2 _ hP
          clear N11
          try dsimp only at N12
          k_steps
          rename NameV _ qs _ _ _ => hV2
          rw [hgi] at hV2
          rename Fr _ _ _ _ => F5
          rename News _ _ _ _ => N5
          refine' extend_my (ys := [_, r]) F5 N5 (.head _) (by simp) ?U ?hz (by simp) ?_
          case U => k_upd
          case hz => exact twice_le hDl hpd hi
          intro h13 F13 N13
          clear F5 N5
          try dsimp only at N13
          k_steps
          refine StJ.end ⟨pd ++ [ps[i], (!(ps[i]).1, (ps[i]).2)], q' ++ qs', _, _, _, _⟩ (by assumption) N13 (fun q hq => List.Mem.tail _ (List.Mem.tail _ hq)) (.tail _ (.head _)) ?ha2 (fun _ h => nomatch h) ?hr2 ?hp3
          case ha2 =>
            refine List.forall_mem_cons.mpr ⟨ID.symm, List.forall_mem_cons.mpr ⟨IB.symm, ?_⟩⟩
            intro q hq hqI
            rcases List.mem_append.mp (show q ∈ [(aU, listOf vU.toArray vU.length), (aB, listOf vB.toArray nB), (aF, listOf vF.toArray nF), (aN, listOf vN.toArray nN), (aM, listOf vM.toArray nM), (aW, listOf vW.toArray nW), (aL, listOf vL.toArray nL), (aC, listOf us.toArray nC), (s1.heap.objs.size + 1 + 1 + 1, oU), (s1.heap.objs.size + 1 + 1, oWrd), (s1.heap.objs.size + 1, oTag)] ++ (q' ++ qs') from hq) with h | h
            · exact hI q (.tail _ (.tail _ (List.mem_append_left qs' h))) hqI
            · rcases List.mem_append.mp h with h | h
              · have := hql q h (I, oI) (.head _)
                rw [hqI] at this
                exact Nat.lt_irrefl _ this
              · exact hI q (by repeat (first | exact h | refine List.Mem.tail _ ?_)) hqI
          case hr2 =>
            intro z h1 h2 h3
            have e1 : z ≠ Str.ofString "other" := (by intro e; rw [e] at h3; simp at h3)
            simp only [kstB, if_neg e1, if_neg h1, h3, Bool.false_eq_true, if_false]
          case hp3 =>
            have hB3 := (hB2.mono (fun p hp => List.mem_append_right q' hp)).ins (ho.mono (fun p hp => List.mem_append_left qs' hp)) (2 * i + 1)
            rw [ins_right hip hpd] at hB3
            have hV3 := hV2.mono (fun p hp => List.mem_append_right q' (hs2 p hp))
            have ho3 := ho.mono (fun p hp => List.mem_append_left qs' hp)
            refine ⟨hB3, (hD2.mono (fun p hp => List.mem_append_right q' hp)).append (.cons hV3 (.cons ho3 .nil)), twice_next hip ht2 _ _ rfl rfl, fun p hp => List.mem_append_right _ (hs2 p hp), ?_⟩
            intro p hp
            rcases List.mem_append.mp hp with h | h
            · exact .inr (hcq p h)
            · exact hq2 p h
  case turn =>
    clear F3 N3 K3 hR
    rintro ⟨st, ps, qs, vB, nB, vF, nF, vN, nN, vM, nM, vW, nW, vL, nL⟩ i t u h tk I oI hi ⟨hst, hL, hW, hM, hN, hT, hF, hB, hq⟩ hI F4 N4
    dsimp only at hst hL hW hM hN hT hF hB hq hI
    dsimp only [LawLd] at hI N4
    have hlen := reach_line hst
    have hzl : (zi st.1).length = i := by rw [zi_len]; exact hlen.1
    have hml : (st.2.map num).length = i := by rw [List.length_map]; exact hlen.2.1
    have hwl : (st.2.map wordS).length = i := by rw [List.length_map]; exact hlen.2.1
    have he0 : 0 ≤ es.getD (Int.toNat (i : Int)) 0 := by
      have h1 : Int.toNat (i : Int) < es.length := by omega
      rw [List.getD_eq_getElem?_getD, List.getElem?_eq_getElem h1]
      exact (hb _ (List.getElem_mem h1)).1
    obtain ⟨p, hpE, hp⟩ := place_is _ i he0
    have hAl := ahd_lt hst hp
    have hBl := bhd_lt hst hp
    k_steps
    rename Fr _ _ _ _ => F5
    rename News _ _ _ _ => N5
    rw [hpE] at F5
    refine mid_val (fun v => ∃ t, v = .int (ahd st.1 p) t) F5 N5 ?_ ?_
    · walk1
      k_steps
      · exact MidV.intro (by assumption) (by assumption) (int_same (ahd_pos (by omega)))
      · exact MidV.intro (by assumption) (by assumption) (int_same (ahd_neg (by omega)))
    clear F5 N5
    rintro _ h6 tk6 ⟨t6, rfl⟩ F6 N6
    k_steps
    rename Fr _ _ _ _ => F5
    rename News _ _ _ _ => N5
    refine mid_val (fun v => ∃ t, v = .int (bhd st.1 p) t) F5 N5 ?_ ?_
    · walk1
      k_steps
      · exact MidV.intro (by assumption) (by assumption) (int_same (bhd_pos (by omega)))
      · exact MidV.intro (by assumption) (by assumption) (int_same (bhd_neg (by omega)))
    clear F5 N5
    rintro _ h7 tk7 ⟨t7, rfl⟩ F7 N7
    k_steps
    refine' Does.use (word_does wW _ aW vW nW _ _ _ _ _ ?hm hW ?h1 ?h2 ?h3 (one_there hst hp) ?h4 ?h5) (by assumption) (by assumption) (by assumption) (by assumption) (by assumption) rfl (by ktr_room) (by ktr_units) ?_
    case hm => k_mem
    case h1 => omega
    case h2 => have := ahd_lt hst hp; omega
    case h3 => have := bhd_lt hst hp; omega
    case h4 =>
      intro k
      rw [getD_words, wordS_length]
      have := reach_len hst (Nat.le_of_lt hi) k
      exact Nat.le_trans this (by decide)
    case h5 =>
      intro x hx
      obtain ⟨b, _, rfl⟩ := List.mem_map.mp hx
      exact wordS_ok b
    try clear F6 
    try clear N6 
    try clear F7 
    try clear N7
    rintro _ _ h8 tk8 ⟨rfl, t8, rfl⟩ F8 N8
    rw [word_step hst hp]
    k_steps
    rename Fr _ _ _ _ => F5
    rename News _ _ _ _ => N5
    refine mid_val (fun v => ∃ t, v = .int (if 0 ≤ ahd st.1 p then (st.2.map num).getD (ahd st.1 p).toNat 0 else 0) t) F5 N5 ?_ ?_
    · walk1
      k_steps
      · exact MidV.intro (by assumption) (by assumption) (int_same (by rw [if_pos (by omega)]))
      · exact MidV.intro (by assumption) (by assumption) (int_same (by rw [if_neg (by omega)]))
    clear F5 N5
    rintro _ h9 tk9 ⟨t9, rfl⟩ F9 N9
    k_steps
    rename Fr _ _ _ _ => F5
    rename News _ _ _ _ => N5
    refine mid_val (fun v => ∃ t, v = .int (if 0 ≤ bhd st.1 p then (st.2.map num).getD (bhd st.1 p).toNat 0 else 64) t) F5 N5 ?_ ?_
    · walk1
      k_steps
      · exact MidV.intro (by assumption) (by assumption) (int_same (by rw [if_pos (by omega)]))
      · exact MidV.intro (by assumption) (by assumption) (int_same (by rw [if_neg (by omega)]))
    clear F5 N5
    rintro _ h10 tk10 ⟨t10, rfl⟩ F10 N10
    k_steps
    rename Fr _ _ _ _ => F5
    rename News _ _ _ _ => N5
    rw [mark_step hst hi hp] at F5
    have hIq : ∀ q ∈ qs, aB < q.1 ∧ q.1 ≠ I := fun q hq' => ⟨hq q hq', hI q (by repeat (first | exact hq' | refine List.Mem.tail _ ?_))⟩
    have hnl : (wordS (newW st p)).length ≤ 1000 := newW_len hst hi hp
    refine mid_of (fun v nx => ∃ b qs', nx = (I, oI) :: (aB, listOf vB.toArray nB) :: (aF, listOf vF.toArray nF) :: (aN, listOf vN.toArray nN) :: (aM, listOf vM.toArray nM) :: (aW, listOf vW.toArray nW) :: (aL, listOf vL.toArray nL) :: (aC, listOf us.toArray nC) :: (s1.heap.objs.size + 1 + 1 + 1, oNu) :: (s1.heap.objs.size + 1 + 1, oWrd) :: (s1.heap.objs.size + 1, oTag) :: qs' ∧ NameV wW qs' v b (nameS (newW st p) tag) ∧ (∀ q ∈ qs, q ∈ qs') ∧ ∀ q ∈ qs', aB < q.1 ∧ q.1 ≠ I) F5 ?_ ?_
    · walk1
      k_steps
      · refine' Does.use (mkq_does wW _ _ _ _ _ hnl hT1) (by assumption) (by assumption) (by assumption) N5 (by assumption) rfl (by ktr_room) (by ktr_units) ?_
        rintro _ _ h12 tk12 ⟨a12, d12, k12, t12, rfl, rfl, hl12, hda⟩ F12 N12
        rw [name_is] at N12
        have hi1 := ltN (hl12 (I, oI) (.head _))
        have hb1 := ltN (hl12 (aB, _) (.tail _ (.head _)))
        replace hda := ltN hda
        k_steps
        refine MidR.intro F12 (news_sub N12 mem_put) ⟨false, (a12, instObj 173 d12) :: (d12, qd wW k12 (nameS (newW st p) tag) t12) :: qs, rfl, .qn (.head _) (.tail _ (.head _)), fun q hq => .tail _ (.tail _ hq), ?_⟩
        exact List.forall_mem_cons.mpr ⟨⟨Nat.lt_trans hb1 hda, by k_ne⟩, List.forall_mem_cons.mpr ⟨⟨hb1, by k_ne⟩, hIq⟩⟩
      · refine' Does.use (name_does wW _ _ _ _ _ hnl (by omega)) (by assumption) (by assumption) (by assumption) N5 (by assumption) rfl (by ktr_room) (by ktr_units) ?_
        rintro _ _ h12 tk12 ⟨rfl, t12, rfl⟩ F12 N12
        rw [name_is]
        k_steps
        exact MidR.intro F12 N12 ⟨true, qs, rfl, .str _ _, fun q hq => hq, hIq⟩
    clear F5 N5
    rintro v11 _ h11 tk11 ⟨b11, qs', rfl, hv11, hqq, hq'⟩ F11 N11
    have hpl : ps.length = i := by rw [← List.length_map (f := fun (x : Bool × Str) => x.2), hT]; show ((nameRow st).map _).length = i; rw [List.length_map]; show (st.1.map _).length = i; rw [List.length_map]; exact hlen.1
    have hfl : (fallRow st).length = i := by simp [fallRow, hlen.1]
    have qB : ∀ q ∈ qs', q.1 ≠ aB := fun q hq => by have := ltN (hq' q hq).1; k_ne
    have qF : ∀ q ∈ qs', q.1 ≠ aF := fun q hq => by have := ltN (hq' q hq).1; k_ne
    have qN : ∀ q ∈ qs', q.1 ≠ aN := fun q hq => by have := ltN (hq' q hq).1; k_ne
    have qM : ∀ q ∈ qs', q.1 ≠ aM := fun q hq => by have := ltN (hq' q hq).1; k_ne
    have qW : ∀ q ∈ qs', q.1 ≠ aW := fun q hq => by have := ltN (hq' q hq).1; k_ne
    have qL : ∀ q ∈ qs', q.1 ≠ aL := fun q hq => by have := ltN (hq' q hq).1; k_ne
    have IB : I ≠ aB := (hI _ (.head _)).symm
    have IF : I ≠ aF := (hI _ (.tail _ (.head _))).symm
    have IN : I ≠ aN := (hI _ (.tail _ (.tail _ (.head _)))).symm
    have IM : I ≠ aM := (hI _ (.tail _ (.tail _ (.tail _ (.head _))))).symm
    have IW : I ≠ aW := (hI _ (.tail _ (.tail _ (.tail _ (.tail _ (.head _)))))).symm
    have IL : I ≠ aL := (hI _ (.tail _ (.tail _ (.tail _ (.tail _ (.tail _ (.head _))))))).symm
    k_steps
    rename Fr _ _ _ _ => F5
    rename News _ _ _ _ => N5
    refine mid_of (fun f nx => f = .next ∧ ∃ vN' nN' ps' vF' nF' vB' nB', nx = (I, oI) :: (aB, listOf (List.toArray vB') nB') :: (aF, listOf (List.toArray vF') nF') :: (aN, listOf (List.toArray vN') nN') :: (aM, listOf vM.toArray nM) :: (aW, listOf vW.toArray nW) :: (aL, listOf vL.toArray nL) :: (aC, listOf us.toArray nC) :: (s1.heap.objs.size + 1 + 1 + 1, oNu) :: (s1.heap.objs.size + 1 + 1, oWrd) :: (s1.heap.objs.size + 1, oTag) :: qs'
      ∧ Names wW qs' vN' ps' ∧ ps'.map (·.2) = rowT (stepP st p) tag ∧ Ints vF' (fallRow (stepP st p)) ∧ Texts vB' ((bareRow (stepP st p)).map wordS)) F5 ?_ ?_
    · walk1
      k_steps
      · rename News _ _ _ _ => N11
        refine' Does.use (il_names wW _ _ aN vN nN ps v11 b11 _ ?U (hN.mono ?hm) (hv11.mono ?hm2) ?hl (names_left hst hi hp hT).1) (by assumption) (by assumption) (by assumption) N11 (by assumption) rfl (by ktr_room) (by ktr_units) ?_
        case U => k_upd
        case hm => intro q hq; repeat (first | exact hqq q hq | refine List.Mem.tail _ ?_)
        case hm2 => intro q hq; repeat (first | exact hq | refine List.Mem.tail _ ?_)
        case hl => exact len_le hpl hi (by decide)
        rintro _ _ h12 tk12 ⟨rfl, k12, hP, rfl⟩ F12 N12
        obtain rfl := (names_left hst hi hp hT).2 _ hP
        clear N11
        try dsimp only at N12
        k_steps
        rename News _ _ _ _ => N11
        refine' Does.use (ir_neg wW _ _ aF vF nF _ _ _ ?U hF ?hl (fall_right hst hi hp).1) (by assumption) (by assumption) (by assumption) N11 (by assumption) rfl (by ktr_room) (by ktr_units) ?_
        case U => k_upd
        case hl => exact len_le hfl hi (by decide)
        rintro _ _ h13 tk13 ⟨rfl, k13, hP13, rfl⟩ F13 N13
        clear N11
        try dsimp only at N13
        have e13 := (fall_right hst hi hp).2 _ hP13
        k_steps
        rename News _ _ _ _ => N11
        refine' Does.use (il_bare wW _ _ aB vB nB _ _ _ ?U hB ?hl (bare_left hst hi hp).1) (by assumption) (by assumption) (by assumption) N11 (by assumption) rfl (by ktr_room) (by ktr_units) ?_
        case U => k_upd
        case hl => exact len_le (bare_len hst (Nat.le_of_lt hi)) hi (by decide)
        rintro _ _ h14 tk14 ⟨rfl, k14, hP14, rfl⟩ F14 N14
        clear N11
        try dsimp only at N14
        have e14 := (bare_left hst hi hp).2 _ hP14
        k_steps
        refine MidR.intro (by assumption) (by assumption) ⟨rfl, _, _, _, _, _, _, _, rfl, (hN.mono hqq).ins hv11 k12, names_new hst hi hp hT, ?_, ?_⟩
        · rw [← e13.1]; exact hF.ins _ _ _
        · rw [← e14]; exact hB.ins _ _ _
      · rename News _ _ _ _ => N11
        refine' Does.use (ir_names wW _ _ aN vN nN ps v11 b11 _ ?U (hN.mono ?hm) (hv11.mono ?hm2) ?hl (names_right hst hi hp hT).1) (by assumption) (by assumption) (by assumption) N11 (by assumption) rfl (by ktr_room) (by ktr_units) ?_
        case U => k_upd
        case hm => intro q hq; repeat (first | exact hqq q hq | refine List.Mem.tail _ ?_)
        case hm2 => intro q hq; repeat (first | exact hq | refine List.Mem.tail _ ?_)
        case hl => exact len_le hpl hi (by decide)
        rintro _ _ h12 tk12 ⟨rfl, k12, hP, rfl⟩ F12 N12
        obtain rfl := (names_right hst hi hp hT).2 _ hP
        clear N11
        try dsimp only at N12
        k_steps
        rename News _ _ _ _ => N11
        refine' Does.use (il_neg wW _ _ aF vF nF _ _ _ ?U hF ?hl (fall_left hst hi hp).1) (by assumption) (by assumption) (by assumption) N11 (by assumption) rfl (by ktr_room) (by ktr_units) ?_
        case U => k_upd
        case hl => exact len_le hfl hi (by decide)
        rintro _ _ h13 tk13 ⟨rfl, k13, hP13, rfl⟩ F13 N13
        clear N11
        try dsimp only at N13
        have e13 := (fall_left hst hi hp).2 _ hP13
        k_steps
        rename News _ _ _ _ => N11
        refine' Does.use (ir_bare wW _ _ aB vB nB _ _ _ ?U hB ?hl (bare_right hst hi hp).1) (by assumption) (by assumption) (by assumption) N11 (by assumption) rfl (by ktr_room) (by ktr_units) ?_
        case U => k_upd
        case hl => exact len_le (bare_len hst (Nat.le_of_lt hi)) hi (by decide)
        rintro _ _ h14 tk14 ⟨rfl, k14, hP14, rfl⟩ F14 N14
        clear N11
        try dsimp only at N14
        have e14 := (bare_right hst hi hp).2 _ hP14
        k_steps
        refine MidR.intro (by assumption) (by assumption) ⟨rfl, _, _, _, _, _, _, _, rfl, (hN.mono hqq).ins hv11 k12, names_new hst hi hp hT, ?_, ?_⟩
        · rw [← e13.1]; exact hF.ins _ _ _
        · rw [← e14]; exact hB.ins _ _ _
    clear F5 N5
    rintro _ _ h15 tk15 ⟨rfl, vN', nN', ps', vF', nF', vB', nB', rfl, hN', hT', hF', hB'⟩ F15 N15
    have hvL : vL.length = i := by rw [hL.length]; exact hzl
    k_steps
    rename Fr _ _ _ _ => F5
    rename News _ _ _ _ => N5
    refine' insert_my (k := p) F5 N5 ?U ?hk ?hz ?_
    case U => k_upd
    case hk => rw [hvL]; exact hp
    case hz => exact len_le hvL hi (by decide)
    intro h16 F16 N16
    clear F5 N5
    try dsimp only at N16
    k_steps
    refine' append_my F16 N16 ?U ?hz ?_
    case U => k_upd
    case hz => exact len_le (hW.length.trans hwl) hi (by decide)
    intro h17 F17 N17
    clear F16 N16
    try dsimp only at N17
    k_steps
    refine' append_my F17 N17 ?U ?hz ?_
    case U => k_upd
    case hz => exact len_le (hM.length.trans hml) hi (by decide)
    intro h18 F18 N18
    clear F17 N17
    try dsimp only at N18
    k_steps
    rename Fr _ _ _ _ => F5
    rename News _ _ _ _ => N5
    refine StJ.end ⟨stepP st p, ps', qs', vB', nB', vF', nF', vN', nN', vM ++ [.int (num (newW st p)) _], nM + 1, vW ++ [.str (wordS (newW st p)) t8], nW + 1, vL.take p ++ .int (i : Int) t :: vL.drop p, nL + 1⟩ F5 N5 (fun q hq => List.Mem.tail _ hq) (.head _) ?t1ha (fun _ h => nomatch h) ?t1hr ?t1hp
    case t1ha => exact List.forall_mem_cons.mpr ⟨IB.symm, List.forall_mem_cons.mpr ⟨IF.symm, List.forall_mem_cons.mpr ⟨IN.symm, List.forall_mem_cons.mpr ⟨IM.symm, List.forall_mem_cons.mpr ⟨IW.symm, List.forall_mem_cons.mpr ⟨IL.symm, List.forall_mem_cons.mpr ⟨hI (aC, _) (by k_mem), List.forall_mem_cons.mpr ⟨hI (_, oNu) (by k_mem), List.forall_mem_cons.mpr ⟨hI (_, oWrd) (by k_mem), List.forall_mem_cons.mpr ⟨hI (_, oTag) (by k_mem), fun q hq => (hq' q hq).2⟩⟩⟩⟩⟩⟩⟩⟩⟩⟩
    case t1hr =>
      intro z h1 h2 h3
      have e1 : z ≠ Str.ofString "place" := (by intro e; rw [e] at h3; simp at h3)
      have e2 : z ≠ Str.ofString "ahead" := (by intro e; rw [e] at h3; simp at h3)
      have e3 : z ≠ Str.ofString "behind" := (by intro e; rw [e] at h3; simp at h3)
      have e4 : z ≠ Str.ofString "word" := (by intro e; rw [e] at h3; simp at h3)
      have e5 : z ≠ Str.ofString "mark" := (by intro e; rw [e] at h3; simp at h3)
      have e6 : z ≠ Str.ofString "name" := (by intro e; rw [e] at h3; simp at h3)
      simp only [kstB, if_neg e1, if_neg e2, if_neg e3, if_neg e4, if_neg e5, if_neg e6, if_neg h1, h3, Bool.false_eq_true, if_false]
    case t1hp =>
      refine ⟨reach_step hst hp, ?_, ?_, ?_, hN', hT', hF', hB', fun q hq => (hq' q hq).1⟩
      · have := hL.ins p (i : Int) t
        rw [zi_ins] at this
        have e : stepP st p = (st.1.take p ++ i :: st.1.drop p, st.2 ++ [newW st p]) := by rw [stepP, hlen.2.1]
        dsimp only
        rw [e]
        exact this
      · have := hW.snoc (wordS (newW st p)) t8
        rw [← List.map_singleton (f := wordS), ← List.map_append] at this
        exact this
      · dsimp only [stepP]
        rw [List.map_append, List.map_singleton]
        exact hM.snoc _ _
  )

end Mine
theorem PySem.Challenge.cw_wu0066_01_holds : PySem.Challenge.rw_wu0066_01.Holds :=
  Mine.main
