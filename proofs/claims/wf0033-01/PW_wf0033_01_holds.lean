import PyProof.Rows.All
import Wide.All
import OpenK.AllK
import Wide.FinOn
import PySem.Challenge.RW_wf0033_01
set_option Elab.async false

namespace Mine
section
open PySem PySem.W PyProof.Rows
set_option maxRecDepth 100000 in
set_option maxHeartbeats 8000000 in
open_top hd for PySem.Challenge.rw_wf0033_01
end
end Mine

section
open PySem PySem.W PySem.Calls PyProof.Rows
namespace Mine

/-! ## what stands fixed, and steps that only add to it -/
abbrev Fix := Addr → Option Obj

noncomputable abbrev PG : Program := PySem.Challenge.rw_wf0033_01.row.prog
noncomputable abbrev KK (w : World) : Frag := Mine.hd.heap_39 w.params
noncomputable abbrev VW : Program := Mine.hd.view_39
noncomputable abbrev LO : List Str := looseW VW [Str.ofString "insort_right", Str.ofString "bisect_right", Str.ofString "bisect_left"]

abbrev W {α : Type} (w : World) (A : Around) (t : Sem α) (Q : α → Shared → Prop) (s : Shared) : Prop := wpAny (model PG w) A t Q (fun _ _ => False) s

theorem W.mono {α : Type} {w : World} {A : Around} {t : Sem α} {Q Q' : α → Shared → Prop} {s : Shared} (h : W w A t Q s) (hq : ∀ a s, Q a s → Q' a s) : W w A t Q' s :=
  wpAny_mono h hq fun _ _ x => x

abbrev Stays (h h' : Heap) : Prop := ∀ b o, h.get? b = some o → h'.get? b = some o
theorem Stays.refl (h : Heap) : Stays h h := fun _ _ e => e
theorem Stays.trans {a b c : Heap} (x : Stays a b) (y : Stays b c) : Stays a c := fun d o e => y d o (x d o e)

abbrev Fix.In (g : Fix) (h : Heap) : Prop := ∀ b o, g b = some o → h.get? b = some o

structure Step (g : Fix) (h : Heap) (g' : Fix) (h' : Heap) : Prop where
  stays : Stays h h'
  le : ∀ b o, g b = some o → g' b = some o
  inn : g'.In h'
  new : ∀ b o, g' b = some o → g b = some o ∨ h.get? b = none

theorem Step.refl {g : Fix} {h : Heap} (i : g.In h) : Step g h g h := ⟨fun _ _ e => e, fun _ _ e => e, i, fun _ _ e => .inl e⟩
theorem Step.trans {g g₁ g₂ : Fix} {h h₁ h₂ : Heap} (x : Step g h g₁ h₁) (y : Step g₁ h₁ g₂ h₂) : Step g h g₂ h₂ :=
  ⟨x.stays.trans y.stays, fun b o e => y.le b o (x.le b o e), y.inn, fun b o e => (y.new b o e).elim (x.new b o) fun e' => .inr (by
    cases q : h.get? b with
    | none => rfl
    | some o' => rw [x.stays b o' q] at e'; cases e')⟩
theorem Step.keep {g : Fix} {h h' : Heap} (i : g.In h) (k : Stays h h') : Step g h g h' := ⟨k, fun _ _ e => e, fun b o e => k b o (i b o e), fun _ _ e => .inl e⟩

/-- a new object is put to what stands fixed -/
noncomputable def Fix.put (g : Fix) (a : Addr) (o : Obj) : Fix := fun b => if b = a then some o else g b
theorem Fix.put_self {g : Fix} {a : Addr} {o : Obj} : g.put a o a = some o := by simp [Fix.put]
theorem Step.add {g : Fix} {h h' : Heap} {a : Addr} {o : Obj} (i : g.In h) (k : Stays h h') (hn : h.get? a = none) (ho : h'.get? a = some o) : Step g h (g.put a o) h' := by
  refine ⟨k, fun b x e => ?_, fun b x e => ?_, fun b x e => ?_⟩
  · have hb : b ≠ a := by rintro rfl; rw [i _ _ e] at hn; cases hn
    simp [Fix.put, hb, e]
  · by_cases hb : b = a
    · subst hb; simp [Fix.put] at e; subst e; exact ho
    · simp [Fix.put, hb] at e; exact k _ _ (i _ _ e)
  · by_cases hb : b = a
    · subst hb; exact .inr hn
    · simp [Fix.put, hb] at e; exact .inl e
theorem fresh_none (h : Heap) : h.get? h.objs.size = none := Heap.get?_none_of_le (Nat.le_refl _)

/-! ## pure values, and what stands for them -/
inductive PV where
  | int (i : Int)
  | flt (b : UInt64)
  | bool (b : Bool)
  | none
  | fn (a : Addr)
  | bi (id : String)
  | ty (n : String)
  | tup (xs : List PV)
  | lst (xs : List PV)

mutual
noncomputable def Rep (g : Fix) (v : Value) : PV → Prop
  | .int i => ∃ t, v = .int i t
  | .flt b => ∃ t, v = .float b t
  | .bool b => v = .bool b
  | .none => v = .none
  | .fn a => v = .ref a
  | .bi n => v = .builtin n
  | .ty n => v = .type n
  | .tup xs => ∃ a o vs n, v = .ref a ∧ g a = some o ∧ o.cls = .type "tuple" ∧ o.data = .seq vs.toArray n ∧ RepL g vs xs
  | .lst xs => ∃ a o vs n, v = .ref a ∧ g a = some o ∧ o.cls = .type "list" ∧ o.data = .seq vs.toArray n ∧ RepL g vs xs
noncomputable def RepL (g : Fix) (vs : List Value) : List PV → Prop
  | [] => vs = []
  | x :: xs => ∃ v r, vs = v :: r ∧ Rep g v x ∧ RepL g r xs
end

mutual
theorem Rep.mono {g g' : Fix} (k : ∀ b o, g b = some o → g' b = some o) {v : Value} : ∀ {x : PV}, Rep g v x → Rep g' v x
  | .int _, h => by simp only [Rep] at h ⊢; exact h
  | .flt _, h => by simp only [Rep] at h ⊢; exact h
  | .bool _, h => by simp only [Rep] at h ⊢; exact h
  | .none, h => by simp only [Rep] at h ⊢; exact h
  | .fn _, h => by simp only [Rep] at h ⊢; exact h
  | .bi _, h => by simp only [Rep] at h ⊢; exact h
  | .ty _, h => by simp only [Rep] at h ⊢; exact h
  | .tup xs, h => by
    simp only [Rep] at h ⊢
    obtain ⟨a, o, vs, n, e, ho, hc, hd, hr⟩ := h
    exact ⟨a, o, vs, n, e, k _ _ ho, hc, hd, RepL.mono k hr⟩
  | .lst xs, h => by
    simp only [Rep] at h ⊢
    obtain ⟨a, o, vs, n, e, ho, hc, hd, hr⟩ := h
    exact ⟨a, o, vs, n, e, k _ _ ho, hc, hd, RepL.mono k hr⟩
theorem RepL.mono {g g' : Fix} (k : ∀ b o, g b = some o → g' b = some o) {vs : List Value} : ∀ {xs : List PV}, RepL g vs xs → RepL g' vs xs
  | [], h => by simp only [RepL] at h ⊢; exact h
  | x :: xs, h => by
    simp only [RepL] at h ⊢
    obtain ⟨v, r, e, h1, h2⟩ := h
    exact ⟨v, r, e, Rep.mono k h1, RepL.mono k h2⟩
end
end Mine
end

section
open PySem PySem.W PySem.Calls PyProof.Rows
namespace Mine

structure Good (k : Nat) (A : Around) : Prop where
  hh : A.handled = none
  dep : A.depth + k < 900
  un : A.units + 30 * k < 9000
theorem Good.le {k j : Nat} {A : Around} (x : Good k A) (h : j ≤ k) : Good j A := ⟨x.hh, by have := x.dep; omega, by have := x.un; omega⟩
theorem Good.in1 {k : Nat} {A : Around} (x : Good (k + 1) A) : Good k A.in1 := ⟨x.hh, by have := x.dep; show A.depth + k < 900; omega, by have := x.un; show A.units + 1 + 30 * k < 9000; omega⟩

noncomputable def Based (w : World) (h : Heap) : Prop := ∃ h₀ mean mg mb, (KK w).In h₀ ∧ Top VW LO mean mg mb h₀ ∧ Stays h₀ h
theorem Based.keeps {w : World} {h h' : Heap} (b : Based w h) (k : Stays h h') : Based w h' :=
  let ⟨h₀, me, mg, mb, x, t, y⟩ := b; ⟨h₀, me, mg, mb, x, t, y.trans k⟩
theorem Based.inK {w : World} {h : Heap} (b : Based w h) : (KK w).In h := let ⟨_, _, _, _, x, _, y⟩ := b; x.keeps y
theorem Based.top {w : World} {h : Heap} (b : Based w h) : ∃ mean mg mb, Top VW LO mean mg mb h := let ⟨_, me, mg, mb, _, t, y⟩ := b; ⟨me, mg, mb, t.keeps y⟩

abbrev Loc := List (Str × PV)
structure EnvOk (h : Heap) (g : Fix) (env : Env) (ρ : Loc) : Prop where
  glob : env.globals = mainGlobals
  blt : env.builtins = builtinsNs
  kind : env.scope.kind = .function
  vals : ∃ m, h.Ns env.locals m ∧ ∀ x pv, ρ.lookup x = some pv → ∃ v, Rep g v pv ∧ ((env.kindOf x = some .local ∧ m x = some v) ∨ (env.kindOf x = some .cell ∧ ∃ c, env.cells.lookup x = some c ∧ h.IsCell c (some v)))
theorem EnvOk.step {h h' : Heap} {g g' : Fix} {env : Env} {ρ : Loc} (x : EnvOk h g env ρ) (st : Step g h g' h') : EnvOk h' g' env ρ where
  glob := x.glob
  blt := x.blt
  kind := x.kind
  vals := let ⟨m, n, f⟩ := x.vals; ⟨m, n.keeps st.stays, fun y pv e => let ⟨v, r, q⟩ := f y pv e; ⟨v, r.mono st.le, q.imp id fun ⟨a, c, b, d⟩ => ⟨a, c, b, d.keeps st.stays⟩⟩⟩

noncomputable def Ev (k : Nat) (sc : Scope) (ρ : Loc) (e : Expr) (pv : PV) : Prop :=
  ∀ (w : World) (A : Around) (env : Env) (g : Fix) (s : Shared) (Q : Value → Shared → Prop), Good k A → env.scope = sc → Based w s.heap → g.In s.heap → EnvOk s.heap g env ρ →
    (∀ v g' h' tk, Step g s.heap g' h' → Rep g' v pv → Q v { s with heap := h', toks := tk }) → W w A (eval e env) Q s

noncomputable def EvL (k : Nat) (sc : Scope) (ρ : Loc) (es : List Expr) (pvs : List PV) : Prop :=
  ∀ (w : World) (A : Around) (env : Env) (g : Fix) (s : Shared) (Q : List Value → Shared → Prop) (pos : Pos), Good k A → env.scope = sc → Based w s.heap → g.In s.heap → EnvOk s.heap g env ρ →
    (∀ vs g' h' tk, Step g s.heap g' h' → RepL g' vs pvs → Q vs { s with heap := h', toks := tk }) → W w A (spliced (backTo pos (starEach es env))) Q s

section
variable {k : Nat} {sc : Scope} {ρ : Loc}

theorem Ev.name {x : Str} {pos : Pos} {pv : PV} (hx : ρ.lookup x = some pv) (hd : (x == ("__debug__" : Str)) = false := by decide) : Ev k sc ρ (.Name x pos) pv := by
  intro w A env g s Q G hs B I O hQ
  obtain ⟨m, n, f⟩ := O.vals
  obtain ⟨v, r, q⟩ := f x pv hx
  have done : Q v s := hQ v g s.heap s.toks (Step.refl I) r
  rcases q with ⟨hl, hm⟩ | ⟨hl, c, hc, hv⟩
  · exact wpAny_Name (wpAny_loadName_local O.kind hl n hm done) hd
  · exact wpAny_Name (wpAny_loadName_cell O.kind hl hc hv done) hd

theorem Ev.globv {x : Str} {pos : Pos} {pv : PV} {v : Value} (hk : sc.names.lookup x = some .globalImplicit) (hn : ∀ w, nsIn (KK w) mainGlobals x = some (some v)) (hr : ∀ g, Rep g v pv)
    (hd : (x == ("__debug__" : Str)) = false := by decide) : Ev k sc ρ (.Name x pos) pv := by
  intro w A env g s Q G hs B I O hQ
  obtain ⟨me, mg, mb, T⟩ := B.top
  exact Name_function_global O.kind (by unfold Env.kindOf; rw [hs]; exact hk) (loadGlobal_global (env := env) (by rw [O.glob]; exact T.g) (mg_of B.inK T.g (hn w)) (hQ v g s.heap s.toks (Step.refl I) (hr g))) hd
theorem Ev.bltv {x : Str} {pos : Pos} {pv : PV} {v : Value} (hk : sc.names.lookup x = some .globalImplicit) (hn : ∀ w, nsIn (KK w) mainGlobals x = some none) (hb : bootBuiltins x = some v) (hr : ∀ g, Rep g v pv)
    (hd : (x == ("__debug__" : Str)) = false := by decide) (hnm : x ≠ "__name__" := by decide) : Ev k sc ρ (.Name x pos) pv := by
  intro w A env g s Q G hs B I O hQ
  obtain ⟨me, mg, mb, T⟩ := B.top
  exact Name_function_global O.kind (by unfold Env.kindOf; rw [hs]; exact hk) (loadGlobal_builtin (env := env) (by rw [O.glob]; exact T.g) (mg_none_of B.inK T.g (hn w)) (by rw [O.blt]; exact T.b) ((T.builtins x hnm).trans hb) (hQ v g s.heap s.toks (Step.refl I) (hr g))) hd

theorem Ev.int {i : Int} {n : Nat} {pos : Pos} : Ev k sc ρ (.Constant (.int i) n pos) (.int i) := fun _ _ _ g s _ _ _ _ I _ hQ => wpAny_Constant_int (hQ _ g s.heap _ (Step.refl I) (by simp only [Rep]; exact ⟨_, rfl⟩))
theorem Ev.flt {x : UInt64} {n : Nat} {pos : Pos} : Ev k sc ρ (.Constant (.float x) n pos) (.flt x) := fun _ _ _ g s _ _ _ _ I _ hQ => AutoFloatOps.wpAny_Constant_float (hQ _ g s.heap _ (Step.refl I) (by simp only [Rep]; exact ⟨_, rfl⟩))
theorem Ev.boolc {b : Bool} {n : Nat} {pos : Pos} : Ev k sc ρ (.Constant (.bool b) n pos) (.bool b) := fun _ _ _ g s _ _ _ _ I _ hQ => Constant_bool (hQ _ g s.heap s.toks (Step.refl I) (by simp only [Rep]))
theorem Ev.nonec {n : Nat} {pos : Pos} : Ev k sc ρ (.Constant .none n pos) .none := fun _ _ _ g s _ _ _ _ I _ hQ => Constant_none (hQ _ g s.heap s.toks (Step.refl I) (by simp only [Rep]))

theorem Ev.neg {e : Expr} {pos : Pos} {i : Int} (h : Ev k sc ρ e (.int i)) : Ev k sc ρ (.UnaryOp .USub e pos) (.int (-i)) := by
  intro w A env g s Q G hs B I O hQ
  refine UnaryOp_ (h w A env g s _ G hs B I O fun v g' h' tk st r => ?_)
  simp only [Rep] at r
  obtain ⟨t, rfl⟩ := r
  exact PyProof.Rows.neg_int (hQ _ g' h' _ st (by simp only [Rep]; exact ⟨_, rfl⟩))

/-- an operator on two values that stand -/
noncomputable def OpOk (k : Nat) (op : Operator) (a b pv : PV) : Prop :=
  ∀ (w : World) (A : Around) (g : Fix) (s : Shared) (Q : Value → Shared → Prop) (va vb : Value), Good k A → Based w s.heap → g.In s.heap → Rep g va a → Rep g vb b →
    (∀ v g' h' tk, Step g s.heap g' h' → Rep g' v pv → Q v { s with heap := h', toks := tk }) → W w A (binaryOp op va vb) Q s
noncomputable def CmpOk (k : Nat) (op : CmpOp) (a b : PV) (pv : Bool) : Prop :=
  ∀ (w : World) (A : Around) (g : Fix) (s : Shared) (Q : Value → Shared → Prop) (va vb : Value), Good k A → Based w s.heap → g.In s.heap → Rep g va a → Rep g vb b →
    (∀ g' h' tk, Step g s.heap g' h' → Q (.bool pv) { s with heap := h', toks := tk }) → W w A (compareOp op va vb) Q s

theorem Ev.bin {op : Operator} {l r : Expr} {pos : Pos} {a b pv : PV} (hl : Ev k sc ρ l a) (hr : Ev k sc ρ r b) (ho : OpOk k op a b pv) : Ev k sc ρ (.BinOp l op r pos) pv := by
  intro w A env g s Q G hs B I O hQ
  refine wpAny_BinOp (hl w A env g s _ G hs B I O fun va g₁ h₁ t₁ s₁ r₁ => ?_)
  refine hr w A env g₁ _ _ G hs (B.keeps s₁.stays) s₁.inn (O.step s₁) fun vb g₂ h₂ t₂ s₂ r₂ => ?_
  refine ho w A g₂ _ _ va vb G ((B.keeps s₁.stays).keeps s₂.stays) s₂.inn (r₁.mono s₂.le) r₂ fun v g₃ h₃ t₃ s₃ r₃ => ?_
  exact hQ v g₃ h₃ t₃ ((s₁.trans s₂).trans s₃) r₃
theorem Ev.cmp {op : CmpOp} {l r : Expr} {pos : Pos} {a b : PV} {c : Bool} (hl : Ev k sc ρ l a) (hr : Ev k sc ρ r b) (ho : CmpOk k op a b c) (hm : behindInMarks op r = false := by with_unfolding_all rfl) : Ev k sc ρ (.Compare l [op] [r] pos) (.bool c) := by
  intro w A env g s Q G hs B I O hQ
  refine wpAny_Compare1 (hl w A env g s _ G hs B I O fun va g₁ h₁ t₁ s₁ r₁ => ?_) hm
  refine hr w A env g₁ _ _ G hs (B.keeps s₁.stays) s₁.inn (O.step s₁) fun vb g₂ h₂ t₂ s₂ r₂ => ?_
  refine ho w A g₂ _ _ va vb G ((B.keeps s₁.stays).keeps s₂.stays) s₂.inn (r₁.mono s₂.le) r₂ fun g₃ h₃ t₃ s₃ => ?_
  exact hQ _ g₃ h₃ t₃ ((s₁.trans s₂).trans s₃) (by simp only [Rep])

/-- a test: the truth of an expression -/
noncomputable def Tst (k : Nat) (sc : Scope) (ρ : Loc) (e : Expr) (c : Bool) : Prop :=
  ∀ (w : World) (A : Around) (env : Env) (g : Fix) (s : Shared) (Q : Bool → Shared → Prop), Good k A → env.scope = sc → Based w s.heap → g.In s.heap → EnvOk s.heap g env ρ →
    (∀ g' h' tk, Step g s.heap g' h' → Q c { s with heap := h', toks := tk }) → W w A (isTrue e env (eval e env)) Q s
theorem Tst.cmp {op : CmpOp} {l r : Expr} {pos : Pos} {a b : PV} {c : Bool} (hl : Ev k sc ρ l a) (hr : Ev k sc ρ r b) (ho : CmpOk k op a b c) (hm : behindInMarks op r = false := by with_unfolding_all rfl) : Tst k sc ρ (.Compare l [op] [r] pos) c := by
  intro w A env g s Q G hs B I O hQ
  refine wpAny_isTrue_Compare1 (hl w A env g s _ G hs B I O fun va g₁ h₁ t₁ s₁ r₁ => ?_) hm
  refine hr w A env g₁ _ _ G hs (B.keeps s₁.stays) s₁.inn (O.step s₁) fun vb g₂ h₂ t₂ s₂ r₂ => ?_
  refine ho w A g₂ _ _ va vb G ((B.keeps s₁.stays).keeps s₂.stays) s₂.inn (r₁.mono s₂.le) r₂ fun g₃ h₃ t₃ s₃ => ?_
  exact wpAny_truthy_bool (hQ g₃ h₃ t₃ ((s₁.trans s₂).trans s₃))
theorem Tst.bool {e : Expr} {c : Bool} (h : Ev k sc ρ e (.bool c)) (he : ∀ env whole, isTrue e env whole = (do let v ← whole; standAt e.pos; holding [v] (truthy v)) := by intro _ _; rfl) : Tst k sc ρ e c := by
  intro w A env g s Q G hs B I O hQ
  refine isTrue_plain (h w A env g s _ G hs B I O fun v g' h' tk st r => ?_) (he _ _)
  simp only [Rep] at r; subst r
  exact wpAny_truthy_bool (hQ g' h' tk st)
theorem Ev.ife {t b o : Expr} {pos : Pos} {c : Bool} {pv : PV} (ht : Tst k sc ρ t c) (hb : c = true → Ev k sc ρ b pv) (ho : c = false → Ev k sc ρ o pv) : Ev k sc ρ (.IfExp t b o pos) pv := by
  intro w A env g s Q G hs B I O hQ
  refine IfExp_ (ht w A env g s _ G hs B I O fun g₁ h₁ t₁ s₁ => ?_)
  cases c with
  | true => exact hb rfl w A env g₁ _ _ G hs (B.keeps s₁.stays) s₁.inn (O.step s₁) fun v g₂ h₂ t₂ s₂ r₂ => hQ v g₂ h₂ t₂ (s₁.trans s₂) r₂
  | false => exact ho rfl w A env g₁ _ _ G hs (B.keeps s₁.stays) s₁.inn (O.step s₁) fun v g₂ h₂ t₂ s₂ r₂ => hQ v g₂ h₂ t₂ (s₁.trans s₂) r₂

theorem EvL.nil : EvL k sc ρ [] [] := fun _ _ _ g s _ _ _ _ _ I _ hQ => args_nil (hQ [] g s.heap s.toks (Step.refl I) (by simp only [RepL]))
theorem EvL.cons {e : Expr} {es : List Expr} {pv : PV} {pvs : List PV} (h : Ev k sc ρ e pv) (hs' : EvL k sc ρ es pvs) (he : ∀ env, starEach (e :: es) env = (false, eval e env) :: starEach es env := by intro _; rfl) : EvL k sc ρ (e :: es) (pv :: pvs) := by
  intro w A env g s Q pos G hs B I O hQ
  refine args_cons (h w A env g s _ G hs B I O fun v g₁ h₁ t₁ s₁ r₁ => ?_) (he env)
  refine hs' w A env g₁ _ _ pos G hs (B.keeps s₁.stays) s₁.inn (O.step s₁) fun vs g₂ h₂ t₂ s₂ r₂ => ?_
  exact hQ _ g₂ h₂ t₂ (s₁.trans s₂) (by simp only [RepL]; exact ⟨v, vs, rfl, r₁.mono s₂.le, r₂⟩)
end

/-! ### lists of values -/
section
variable {g : Fix}
theorem RepL.length : ∀ {xs : List PV} {vs : List Value}, RepL g vs xs → vs.length = xs.length
  | [], vs, h => by simp only [RepL] at h; subst h; rfl
  | x :: xs, vs, h => by simp only [RepL] at h; obtain ⟨v, r, rfl, _, hr⟩ := h; simp [RepL.length hr]
theorem RepL.get : ∀ {xs : List PV} {vs : List Value} {i : Nat} {x : PV}, RepL g vs xs → xs[i]? = some x → ∃ v, vs[i]? = some v ∧ Rep g v x
  | [], vs, i, x, h, e => by simp at e
  | y :: xs, vs, 0, x, h, e => by simp only [RepL] at h; obtain ⟨v, r, rfl, hv, _⟩ := h; simp at e; subst e; exact ⟨v, rfl, hv⟩
  | y :: xs, vs, i + 1, x, h, e => by simp only [RepL] at h; obtain ⟨v, r, rfl, _, hr⟩ := h; simp at e; obtain ⟨v', h1, h2⟩ := hr.get e; exact ⟨v', by simpa using h1, h2⟩
theorem RepL.getv : ∀ {xs : List PV} {vs : List Value} {i : Nat} {v : Value}, RepL g vs xs → vs[i]? = some v → ∃ x, xs[i]? = some x ∧ Rep g v x
  | [], vs, i, v, h, e => by simp only [RepL] at h; subst h; simp at e
  | y :: xs, vs, 0, v, h, e => by simp only [RepL] at h; obtain ⟨v, r, rfl, hv, _⟩ := h; simp at e; subst e; exact ⟨y, rfl, hv⟩
  | y :: xs, vs, i + 1, v, h, e => by simp only [RepL] at h; obtain ⟨v', r, rfl, _, hr⟩ := h; simp at e; obtain ⟨x, h1, h2⟩ := hr.getv e; exact ⟨x, by simpa using h1, h2⟩
theorem RepL.nil : RepL g [] [] := by simp only [RepL]
theorem RepL.cons {v : Value} {x : PV} {vs : List Value} {xs : List PV} (h : Rep g v x) (hs : RepL g vs xs) : RepL g (v :: vs) (x :: xs) := by simp only [RepL]; exact ⟨v, vs, rfl, h, hs⟩
theorem RepL.append : ∀ {xs ys : List PV} {vs ws : List Value}, RepL g vs xs → RepL g ws ys → RepL g (vs ++ ws) (xs ++ ys)
  | [], ys, vs, ws, h, h' => by simp only [RepL] at h; subst h; simpa using h'
  | x :: xs, ys, vs, ws, h, h' => by simp only [RepL] at h; obtain ⟨v, r, rfl, hv, hr⟩ := h; exact .cons hv (hr.append h')
theorem RepL.one {v : Value} {x : PV} (h : Rep g v x) : RepL g [v] [x] := .cons h .nil
theorem RepL.take : ∀ {xs : List PV} {vs : List Value} (n : Nat), RepL g vs xs → RepL g (vs.take n) (xs.take n)
  | [], vs, n, h => by simp only [RepL] at h; subst h; simpa using RepL.nil
  | x :: xs, vs, 0, h => by simpa using RepL.nil
  | x :: xs, vs, n + 1, h => by simp only [RepL] at h; obtain ⟨v, r, rfl, hv, hr⟩ := h; exact .cons hv (hr.take n)
theorem RepL.drop : ∀ {xs : List PV} {vs : List Value} (n : Nat), RepL g vs xs → RepL g (vs.drop n) (xs.drop n)
  | [], vs, n, h => by simp only [RepL] at h; subst h; simpa using RepL.nil
  | x :: xs, vs, 0, h => by simpa using h
  | x :: xs, vs, n + 1, h => by simp only [RepL] at h; obtain ⟨v, r, rfl, hv, hr⟩ := h; simpa using hr.drop n
theorem Rep.int {v : Value} {i : Int} (h : Rep g v (.int i)) : ∃ t, v = .int i t := by simpa only [Rep] using h
theorem Rep.flt {v : Value} {i : UInt64} (h : Rep g v (.flt i)) : ∃ t, v = .float i t := by simpa only [Rep] using h
theorem Rep.ofInt {i : Int} {t : Tok} : Rep g (.int i t) (.int i) := by simp only [Rep]; exact ⟨t, rfl⟩
theorem Rep.ofFlt {i : UInt64} {t : Tok} : Rep g (.float i t) (.flt i) := by simp only [Rep]; exact ⟨t, rfl⟩
theorem Rep.ofBool {b : Bool} : Rep g (.bool b) (.bool b) := by simp only [Rep]
theorem Rep.lst {v : Value} {xs : List PV} (h : Rep g v (.lst xs)) : ∃ a o vs n, v = .ref a ∧ g a = some o ∧ o.cls = .type "list" ∧ o.data = .seq vs.toArray n ∧ RepL g vs xs := by simpa only [Rep] using h
theorem Rep.tup {v : Value} {xs : List PV} (h : Rep g v (.tup xs)) : ∃ a o vs n, v = .ref a ∧ g a = some o ∧ o.cls = .type "tuple" ∧ o.data = .seq vs.toArray n ∧ RepL g vs xs := by simpa only [Rep] using h
theorem Rep.ofLst {a : Addr} {o : Obj} {vs : List Value} {n : Nat} {xs : List PV} (h1 : g a = some o) (h2 : o.cls = .type "list") (h3 : o.data = .seq vs.toArray n) (h4 : RepL g vs xs) : Rep g (.ref a) (.lst xs) := by
  simp only [Rep]; exact ⟨a, o, vs, n, rfl, h1, h2, h3, h4⟩
theorem Rep.ofTup {a : Addr} {o : Obj} {vs : List Value} {n : Nat} {xs : List PV} (h1 : g a = some o) (h2 : o.cls = .type "tuple") (h3 : o.data = .seq vs.toArray n) (h4 : RepL g vs xs) : Rep g (.ref a) (.tup xs) := by
  simp only [Rep]; exact ⟨a, o, vs, n, rfl, h1, h2, h3, h4⟩
theorem Rep.isList {v : Value} {xs : List PV} {h : Heap} (r : Rep g v (.lst xs)) (i : g.In h) : ∃ a vs, v = .ref a ∧ h.IsList a vs.toArray ∧ RepL g vs xs := by
  obtain ⟨a, o, vs, n, e, ho, hc, hd, hr⟩ := r.lst
  exact ⟨a, vs, e, ⟨o, i _ _ ho, hc, n, hd⟩, hr⟩
end
end Mine
end

section
open PySem PySem.W PySem.Calls PyProof.Rows
namespace Mine

section
variable {k : Nat}
theorem OpOk.addI {a b : Int} : OpOk k .Add (.int a) (.int b) (.int (a + b)) := by
  intro w A g s Q va vb G B I ra rb hQ
  obtain ⟨t, rfl⟩ := ra.int; obtain ⟨u, rfl⟩ := rb.int
  exact PyProof.Rows.add_int (hQ _ g s.heap _ (Step.refl I) .ofInt)
theorem OpOk.subI {a b : Int} : OpOk k .Sub (.int a) (.int b) (.int (a - b)) := by
  intro w A g s Q va vb G B I ra rb hQ
  obtain ⟨t, rfl⟩ := ra.int; obtain ⟨u, rfl⟩ := rb.int
  exact PyProof.Rows.sub_int (hQ _ g s.heap _ (Step.refl I) .ofInt)
theorem OpOk.mulI {a b : Int} (h : (-(2 ^ 64) < a ∧ a < 2 ^ 64) ∨ (-(2 ^ 64) < b ∧ b < 2 ^ 64)) : OpOk k .Mult (.int a) (.int b) (.int (a * b)) := by
  intro w A g s Q va vb G B I ra rb hQ
  obtain ⟨t, rfl⟩ := ra.int; obtain ⟨u, rfl⟩ := rb.int
  exact PyProof.Rows.mul_int (hQ _ g s.heap _ (Step.refl I) .ofInt) (h.elim (fun x => .of_left (intBits_le_64 x.1 x.2)) fun x => .of_right (intBits_le_64 x.1 x.2))
theorem OpOk.fdivI {a b : Int} (h : b ≠ 0) (hs : b.natAbs < 1073741824) : OpOk k .FloorDiv (.int a) (.int b) (.int (a.fdiv b)) := by
  intro w A g s Q va vb G B I ra rb hQ
  obtain ⟨t, rfl⟩ := ra.int; obtain ⟨u, rfl⟩ := rb.int
  exact PyProof.Rows.floordiv_int h (hQ _ g s.heap _ (Step.refl I) .ofInt) (Or.inl (PyProof.noPylong_small hs))
theorem OpOk.fmodI {a b : Int} (h : b ≠ 0) : OpOk k .Mod (.int a) (.int b) (.int (a.fmod b)) := by
  intro w A g s Q va vb G B I ra rb hQ
  obtain ⟨t, rfl⟩ := ra.int; obtain ⟨u, rfl⟩ := rb.int
  exact PyProof.Rows.mod_int' h (hQ _ g s.heap _ (Step.refl I) .ofInt)
theorem OpOk.powI {a n : Int} (hn : 0 ≤ n) (hn2 : n ≤ 1000000) (ha : a.natAbs < 2 ^ 64) : OpOk k .Pow (.int a) (.int n) (.int (a ^ n.toNat)) := by
  intro w A g s Q va vb G B I ra rb hQ
  obtain ⟨t, rfl⟩ := ra.int; obtain ⟨u, rfl⟩ := rb.int
  exact PyProof.Rows.pow_int_small hn hn2 ha (hQ _ g s.heap _ (Step.refl I) .ofInt)
theorem OpOk.addF {a b : UInt64} : OpOk k .Add (.flt a) (.flt b) (.flt (Float64.add a b)) := by
  intro w A g s Q va vb G B I ra rb hQ
  obtain ⟨t, rfl⟩ := ra.flt; obtain ⟨u, rfl⟩ := rb.flt
  exact PyProof.Rows.add_float (hQ _ g s.heap _ (Step.refl I) .ofFlt)
theorem OpOk.subF {a b : UInt64} : OpOk k .Sub (.flt a) (.flt b) (.flt (Float64.sub a b)) := by
  intro w A g s Q va vb G B I ra rb hQ
  obtain ⟨t, rfl⟩ := ra.flt; obtain ⟨u, rfl⟩ := rb.flt
  exact PyProof.Rows.sub_float (hQ _ g s.heap _ (Step.refl I) .ofFlt)
theorem OpOk.mulF {a b : UInt64} : OpOk k .Mult (.flt a) (.flt b) (.flt (Float64.mul a b)) := by
  intro w A g s Q va vb G B I ra rb hQ
  obtain ⟨t, rfl⟩ := ra.flt; obtain ⟨u, rfl⟩ := rb.flt
  exact PyProof.Rows.mul_float (hQ _ g s.heap _ (Step.refl I) .ofFlt)
theorem OpOk.divF {a b : UInt64} (h : Float64.isZero b = false) : OpOk k .Div (.flt a) (.flt b) (.flt (Float64.div a b)) := by
  intro w A g s Q va vb G B I ra rb hQ
  obtain ⟨t, rfl⟩ := ra.flt; obtain ⟨u, rfl⟩ := rb.flt
  exact AutoFloatOps.truediv_1 (by simp [h]) (hQ _ g s.heap _ (Step.refl I) .ofFlt)
theorem OpOk.modF {a b : UInt64} (h : Float64.isZero b = false) : OpOk k .Mod (.flt a) (.flt b) (.flt (Float64.divmod a b).snd) := by
  intro w A g s Q va vb G B I ra rb hQ
  obtain ⟨t, rfl⟩ := ra.flt; obtain ⟨u, rfl⟩ := rb.flt
  exact AutoFloatOps.mod_1 (by simp [h]) (hQ _ g s.heap _ (Step.refl I) .ofFlt)
theorem OpOk.divIF {a : Int} {b : UInt64} (h0 : Float64.isInf (Float64.ofInt a) = false) (h : Float64.isZero b = false) : OpOk k .Div (.int a) (.flt b) (.flt (Float64.div (Float64.ofInt a) b)) := by
  intro w A g s Q va vb G B I ra rb hQ
  obtain ⟨t, rfl⟩ := ra.int; obtain ⟨u, rfl⟩ := rb.flt
  exact AutoFloatOps.truediv_if_2 (by simp [h0]) (by simp [h]) (hQ _ g s.heap _ (Step.refl I) .ofFlt)

theorem CmpOk.ltI {a b : Int} : CmpOk k .Lt (.int a) (.int b) (decide (a < b)) := by
  intro w A g s Q va vb G B I ra rb hQ
  obtain ⟨t, rfl⟩ := ra.int; obtain ⟨u, rfl⟩ := rb.int
  exact PyProof.Rows.lt_int (hQ g s.heap s.toks (Step.refl I))
theorem CmpOk.gtI {a b : Int} : CmpOk k .Gt (.int a) (.int b) (decide (b < a)) := by
  intro w A g s Q va vb G B I ra rb hQ
  obtain ⟨t, rfl⟩ := ra.int; obtain ⟨u, rfl⟩ := rb.int
  exact PyProof.Rows.gt_int (hQ g s.heap s.toks (Step.refl I))
theorem CmpOk.eqI {a b : Int} : CmpOk k .Eq (.int a) (.int b) (a == b) := by
  intro w A g s Q va vb G B I ra rb hQ
  obtain ⟨t, rfl⟩ := ra.int; obtain ⟨u, rfl⟩ := rb.int
  exact PyProof.Rows.eq_int (hQ g s.heap s.toks (Step.refl I))
theorem CmpOk.eqF {a b : UInt64} : CmpOk k .Eq (.flt a) (.flt b) (Float64.cmp a b == some Ordering.eq) := by
  intro w A g s Q va vb G B I ra rb hQ
  obtain ⟨t, rfl⟩ := ra.flt; obtain ⟨u, rfl⟩ := rb.flt
  exact AutoFloatOps.eq_0 (hQ g s.heap s.toks (Step.refl I))
theorem CmpOk.neF {a b : UInt64} : CmpOk k .NotEq (.flt a) (.flt b) (Float64.cmp a b != some Ordering.eq) := by
  intro w A g s Q va vb G B I ra rb hQ
  obtain ⟨t, rfl⟩ := ra.flt; obtain ⟨u, rfl⟩ := rb.flt
  exact AutoFloatOps.ne_0 (hQ g s.heap s.toks (Step.refl I))
theorem CmpOk.leF {a b : UInt64} : CmpOk k .LtE (.flt a) (.flt b) (Float64.cmp a b == some Ordering.lt || Float64.cmp a b == some Ordering.eq) := by
  intro w A g s Q va vb G B I ra rb hQ
  obtain ⟨t, rfl⟩ := ra.flt; obtain ⟨u, rfl⟩ := rb.flt
  exact AutoFloatOps.le_0 (hQ g s.heap s.toks (Step.refl I))
theorem CmpOk.fnNone {a : Addr} : CmpOk k .Is (.fn a) .none false := by
  intro w A g s Q va vb G B I ra rb hQ
  simp only [Rep] at ra rb; subst ra; subst rb
  exact PyProof.Rows.is_ref_none (hQ g s.heap s.toks (Step.refl I))
theorem CmpOk.noneNone : CmpOk k .Is .none .none true := by
  intro w A g s Q va vb G B I ra rb hQ
  simp only [Rep] at ra rb; subst ra; subst rb
  exact PyProof.Rows.is_none_none (hQ g s.heap s.toks (Step.refl I))
theorem CmpOk.intNone {a : Int} : CmpOk k .Is (.int a) .none false := by
  intro w A g s Q va vb G B I ra rb hQ
  obtain ⟨t, rfl⟩ := ra.int; simp only [Rep] at rb; subst rb
  exact PyProof.Rows.is_int_none (hQ g s.heap s.toks (Step.refl I))

/-! ### displays -/
theorem newTup_ok {w : World} {A : Around} {g : Fix} {s : Shared} {Q : Value → Shared → Prop} {vs : List Value} {xs : List PV} (I : g.In s.heap) (r : RepL g vs xs) (hsz : xs.length ≤ 1000)
    (hQ : ∀ v g' h' tk, Step g s.heap g' h' → Rep g' v (.tup xs) → Q v { s with heap := h', toks := tk }) : W w A (newTuple vs) Q s := by
  refine wpAny_newObj_type (hQ _ (g.put s.heap.objs.size _) _ s.toks (Step.add I (fun b o e => Heap.get?_push_of_some _ e) (fresh_none _) (Heap.get?_push_size _ rfl)) (Rep.ofTup Fix.put_self rfl rfl (r.mono ?_))) ?_
  · intro b o e
    have := (Step.add (h' := s.heap.push { cls := .type "tuple", dict := none, data := .seq vs.toArray }) I (fun b o e => Heap.get?_push_of_some _ e) (fresh_none _) (Heap.get?_push_size _ rfl)).le b o e
    exact this
  · show vs.toArray.size ≤ sizeLine
    rw [List.size_toArray, r.length]; exact Nat.le_trans hsz (by decide)
theorem newLst_ok {w : World} {A : Around} {g : Fix} {s : Shared} {Q : Value → Shared → Prop} {vs : List Value} {xs : List PV} (I : g.In s.heap) (r : RepL g vs xs) (hsz : xs.length ≤ 1000)
    (hQ : ∀ v g' h' tk, Step g s.heap g' h' → Rep g' v (.lst xs) → Q v { s with heap := h', toks := tk }) : W w A (newList vs) Q s := by
  refine wpAny_newObj_type (hQ _ (g.put s.heap.objs.size _) _ s.toks (Step.add I (fun b o e => Heap.get?_push_of_some _ e) (fresh_none _) (Heap.get?_push_size _ rfl)) (Rep.ofLst Fix.put_self rfl rfl (r.mono ?_))) ?_
  · intro b o e
    have := (Step.add (h' := s.heap.push { cls := .type "list", dict := none, data := .seq vs.toArray }) I (fun b o e => Heap.get?_push_of_some _ e) (fresh_none _) (Heap.get?_push_size _ rfl)).le b o e
    exact this
  · show vs.toArray.size ≤ sizeLine
    rw [List.size_toArray, r.length]; exact Nat.le_trans hsz (by decide)

variable {sc : Scope} {ρ : Loc}
theorem Ev.tup {es : List Expr} {n : Nat} {pos : Pos} {xs : List PV} (h : EvL k sc ρ es xs) (hsz : xs.length ≤ 1000 := by decide) : Ev k sc ρ (.Tuple es n pos) (.tup xs) := by
  intro w A env g s Q G hs B I O hQ
  refine Tuple_ (h w A env g s _ pos G hs B I O fun vs g₁ h₁ t₁ s₁ r₁ => ?_)
  exact newTup_ok s₁.inn r₁ hsz fun v g₂ h₂ t₂ s₂ r₂ => hQ v g₂ h₂ t₂ (s₁.trans s₂) r₂
theorem Ev.lst {es : List Expr} {pos : Pos} {xs : List PV} (h : EvL k sc ρ es xs) (hsz : xs.length ≤ 1000 := by decide) : Ev k sc ρ (.List es pos) (.lst xs) := by
  intro w A env g s Q G hs B I O hQ
  refine List_ (h w A env g s _ pos G hs B I O fun vs g₁ h₁ t₁ s₁ r₁ => ?_)
  exact newLst_ok s₁.inn r₁ hsz fun v g₂ h₂ t₂ s₂ r₂ => hQ v g₂ h₂ t₂ (s₁.trans s₂) r₂

/-! ### subscripts -/
noncomputable def idxOf (i : Int) (n : Nat) : Nat := if i < 0 then (i + n).toNat else i.toNat
theorem Ev.itemL {e i : Expr} {pos : Pos} {xs : List PV} {j : Int} {pv : PV} (h : Ev k sc ρ e (.lst xs)) (hi : Ev k sc ρ i (.int j)) (hj : -(xs.length : Int) ≤ j) (hj2 : j < xs.length) (hn : xs.length ≤ 1000)
    (hx : xs[idxOf j xs.length]? = some pv) (hsub : ∀ o t, subscripted i false (.ref o) (.int j t) = operate [.ref o, .int j t] (getItem (.ref o) (.int j t)) := by intro _ _; with_unfolding_all rfl) : Ev k sc ρ (.Subscript e i pos) pv := by
  intro w A env g s Q G hs B I O hQ
  refine Subscript_ (h w A env g s _ G hs B I O fun v g₁ h₁ t₁ s₁ r₁ => ?_)
  refine hi w A env g₁ _ _ G hs (B.keeps s₁.stays) s₁.inn (O.step s₁) fun u g₂ h₂ t₂ s₂ r₂ => ?_
  obtain ⟨a, vs, rfl, hl, hr⟩ := (r₁.mono s₂.le).isList s₂.inn
  obtain ⟨t, rfl⟩ := r₂.int
  obtain ⟨x, hx1, hx2⟩ := hr.get hx
  have hlen := hr.length
  have q : Q x { s with heap := h₂, toks := t₂ } := hQ x g₂ h₂ t₂ (s₁.trans s₂) hx2
  refine tail_any hl.typeIs slot_list_getitem.lookup ?_ (hsub a t)
  by_cases h0 : j < 0
  · refine wpAny_getItem_list_neg hl h0 (by simp [hlen]; omega) (by omega) ?_ q
    simp only [idxOf, if_pos h0] at hx1
    simpa [hlen] using hx1
  · refine wpAny_getItem_list hl (by omega) (by omega) ?_ q
    simp only [idxOf, if_neg h0] at hx1
    simpa using hx1
theorem Ev.itemT {e i : Expr} {pos : Pos} {xs : List PV} {j : Int} {pv : PV} (h : Ev k sc ρ e (.tup xs)) (hi : Ev k sc ρ i (.int j)) (hj : 0 ≤ j) (hj2 : j < xs.length) (hn : xs.length ≤ 1000)
    (hx : xs[j.toNat]? = some pv) (hsub : ∀ o t, subscripted i false (.ref o) (.int j t) = operate [.ref o, .int j t] (getItem (.ref o) (.int j t)) := by intro _ _; with_unfolding_all rfl) : Ev k sc ρ (.Subscript e i pos) pv := by
  intro w A env g s Q G hs B I O hQ
  refine Subscript_ (h w A env g s _ G hs B I O fun v g₁ h₁ t₁ s₁ r₁ => ?_)
  refine hi w A env g₁ _ _ G hs (B.keeps s₁.stays) s₁.inn (O.step s₁) fun u g₂ h₂ t₂ s₂ r₂ => ?_
  obtain ⟨a, o, vs, n, rfl, ho, hc, hd, hr⟩ := (r₁.mono s₂.le).tup
  obtain ⟨t, rfl⟩ := r₂.int
  obtain ⟨x, hx1, hx2⟩ := hr.get hx
  have hlen := hr.length
  have ht : IsTup h₂ a vs.toArray := ⟨o, s₂.inn _ _ ho, hc, n, hd⟩
  refine item_tupleT ht (by omega) (by omega) (j := j.toNat) ?_ hx1 (hQ x g₂ h₂ t₂ (s₁.trans s₂) hx2) (hsub a t)
  unfold seqIndex?
  rw [if_neg (by omega : ¬ j < 0), if_pos (by simp; omega)]

noncomputable def sliceL {α : Type} (xs : List α) (lo hi st : Option Int) : List α :=
  (sliceRange (sliceBounds lo hi st xs.length).1 (sliceBounds lo hi st xs.length).2.1 (sliceBounds lo hi st xs.length).2.2).filterMap (xs[·]?)
theorem RepL.picks {g : Fix} {vs : List Value} {xs : List PV} (h : RepL g vs xs) : ∀ is : List Nat, RepL g (is.filterMap (vs[·]?)) (is.filterMap (xs[·]?))
  | [] => .nil
  | i :: is => by
    have ih := h.picks is
    simp only [List.filterMap_cons]
    cases hv : vs[i]? with
    | none =>
      have : xs[i]? = none := by rw [List.getElem?_eq_none_iff] at hv ⊢; rw [← h.length]; exact hv
      rw [this]; exact ih
    | some v =>
      obtain ⟨x, hx, hr⟩ := h.getv hv
      rw [hx]; exact .cons hr ih
theorem slicePick_rep {g : Fix} {vs : List Value} {xs : List PV} {lo hi st : Option Int} (h : RepL g vs xs) : ∃ ws, slicePick vs.toArray lo hi st = ws.toArray ∧ RepL g ws (sliceL xs lo hi st) := by
  refine ⟨_, rfl, ?_⟩
  have := h.picks (sliceRange (sliceBounds lo hi st xs.length).1 (sliceBounds lo hi st xs.length).2.1 (sliceBounds lo hi st xs.length).2.2)
  simpa [sliceL, h.length] using this

/-- a part of a slice: left out, or an int -/
noncomputable def EvO (k : Nat) (sc : Scope) (ρ : Loc) (e : Option Expr) (i : Option Int) : Prop := match e, i with
  | none, none => True
  | some e, some i => Ev k sc ρ e (.int i)
  | _, _ => False
theorem EvO.part {e : Option Expr} {i : Option Int} (h : EvO k sc ρ e i) {w : World} {A : Around} {env : Env} {g : Fix} {s : Shared} {Q : Value → Shared → Prop} (G : Good k A) (hs : env.scope = sc) (B : Based w s.heap) (I : g.In s.heap) (O : EnvOk s.heap g env ρ)
    (hQ : ∀ v g' h' tk, Step g s.heap g' h' → IsPart v i → Q v { s with heap := h', toks := tk }) : W w A (evalPart e env) Q s := by
  cases e <;> cases i <;> simp only [EvO] at h
  · rw [evalPart_none]; exact wpAny_pure (hQ _ g s.heap s.toks (Step.refl I) .none)
  · rw [evalPart_some]; exact h w A env g s _ G hs B I O fun v g' h' tk st r => by obtain ⟨t, rfl⟩ := r.int; exact hQ _ g' h' tk st (.int _ _)
theorem Ev.slice {e : Expr} {lo hi st : Option Expr} {p pos : Pos} {xs : List PV} {l h st' : Option Int} (he : Ev k sc ρ e (.lst xs)) (hl : EvO k sc ρ lo l) (hh : EvO k sc ρ hi h) (hst : EvO k sc ρ st st') (h0 : st' ≠ some 0) (hn : xs.length ≤ 1000)
    (ht : ∀ o r, letTemporaryGo e o r = pure () := by intro _ _; rfl) : Ev k sc ρ (.Subscript e (.Slice lo hi st p) pos) (.lst (sliceL xs l h st')) := by
  intro w A env g s Q G hs B I O hQ
  have main : wpAny (model PG w) A (eval e env) (fun o s₁ => wpAny (model PG w) A (eval (.Slice lo hi st p) env) (fun i s₂ => s₂.TypeIs o "list" ∧ wpAny (model PG w) A (getItem o i) Q (fun _ _ => False) s₂) (fun _ _ => False) s₁) (fun _ _ => False) s := by
    refine he w A env g s _ G hs B I O fun v g₁ h₁ t₁ s₁ r₁ => wpAny_Slice ?_
    refine hl.part G hs (B.keeps s₁.stays) s₁.inn (O.step s₁) fun vl g₂ h₂ t₂ s₂ p₂ => ?_
    refine hh.part G hs ((B.keeps s₁.stays).keeps s₂.stays) s₂.inn ((O.step s₁).step s₂) fun vh g₃ h₃ t₃ s₃ p₃ => ?_
    refine hst.part G hs (((B.keeps s₁.stays).keeps s₂.stays).keeps s₃.stays) s₃.inn (((O.step s₁).step s₂).step s₃) fun vt g₄ h₄ t₄ s₄ p₄ => ?_
    obtain ⟨a, vs, rfl, hl4, hr⟩ := (((r₁.mono s₂.le).mono s₃.le).mono s₄.le).isList s₄.inn
    dsimp only
    refine ⟨(hl4.push _).typeIs, ?_⟩
    obtain ⟨ws, hw, hrw⟩ := slicePick_rep (lo := l) (hi := h) (st := st') hr
    have S := ((s₁.trans s₂).trans s₃).trans s₄
    have st5 : Step g₄ h₄ g₄ (h₄.push { cls := .type "slice", data := .fields #[vl, vh, vt] }) := Step.keep s₄.inn fun b o e => Heap.get?_push_of_some _ e
    refine wpAny_getItem_list_slice (hl4.push _) (Heap.IsSliceOf.new ..) p₂ p₃ p₄ h0 ?_ (by rw [List.size_toArray, hr.length]; exact Nat.le_trans hn (by decide))
    rw [hw]
    have st6 := Step.add (a := (h₄.push { cls := .type "slice", data := .fields #[vl, vh, vt] }).objs.size) (h' := (h₄.push { cls := .type "slice", data := .fields #[vl, vh, vt] }).push { cls := .type "list", data := .seq ws.toArray }) st5.inn (fun b o e => Heap.get?_push_of_some _ e) (fresh_none _) (Heap.get?_push_size _ rfl)
    exact hQ _ _ _ t₄ ((S.trans st5).trans st6) (Rep.ofLst Fix.put_self rfl rfl (hrw.mono st6.le))
  cases st with
  | none => exact wpAny_Subscript_Slice list_getitem_lookup main ht
  | some e' => exact wpAny_Subscript_Slice_step list_getitem_lookup main ht

theorem OpOk.addL {xs ys : List PV} (hsz : xs.length + ys.length ≤ 1000) : OpOk k .Add (.lst xs) (.lst ys) (.lst (xs ++ ys)) := by
  intro w A g s Q va vb G B I ra rb hQ
  obtain ⟨a, ⟨cls, dd, data, sl⟩, vs, n, rfl, ga, hc, hd, hr⟩ := ra.lst
  obtain ⟨b, ⟨cls2, dd2, data2, sl2⟩, ws, n2, rfl, gb, hc2, hd2, hr'⟩ := rb.lst
  simp only at hc hd hc2 hd2
  subst hc hd hc2 hd2
  have ho := I _ _ ga
  have ho2 := I _ _ gb
  have e : vs.toArray ++ ws.toArray = (vs ++ ws).toArray := by simp
  have hl1 := hr.length
  have hl2 := hr'.length
  refine concat_meets ⟨_, ho, rfl⟩ ⟨_, ho2, rfl⟩ noFill_list_add seq_list_add PySem.F.slot_list_add PySem.F.entry_list_add (PySem.F.args_list_add_2 _ _) (list_addW a b vs.toArray ws.toArray n n2 dd dd2 sl sl2 (by simp only [List.size_toArray]; exact Nat.le_trans (by omega : vs.length + ws.length ≤ 1000) (by decide))) ⟨ho, ho2, ?_⟩
  rw [e]
  have st := Step.add (a := s.heap.objs.size) (h' := s.heap.push { cls := .type "list", data := .seq (vs ++ ws).toArray }) I (fun b o e => Heap.get?_push_of_some _ e) (fresh_none _) (Heap.get?_push_size _ rfl)
  exact hQ _ _ _ s.toks st (Rep.ofLst Fix.put_self rfl rfl ((hr.append hr').mono st.le))
end
end Mine
end

section
open PySem PySem.W PySem.Calls PyProof.Rows
namespace Mine

/-- a call of f with xs gives pv, and only adds to the heap -/
noncomputable def CallOk (k : Nat) (f : Value) (xs : List PV) (pv : PV) : Prop :=
  ∀ (w : World) (A : Around) (g : Fix) (s : Shared) (Q : Value → Shared → Prop) (vs : List Value), Good k A → Based w s.heap → g.In s.heap → RepL g vs xs →
    (∀ v g' h' tk, Step g s.heap g' h' → Rep g' v pv → Q v { s with heap := h', toks := tk }) → W w A (call f vs) Q s
noncomputable def CallKw (k : Nat) (f : Value) (xs : List PV) (n : Str) (kv : PV) (pv : PV) : Prop :=
  ∀ (w : World) (A : Around) (g : Fix) (s : Shared) (Q : Value → Shared → Prop) (vs : List Value) (u : Value), Good k A → Based w s.heap → g.In s.heap → RepL g vs xs → Rep g u kv →
    (∀ v g' h' tk, Step g s.heap g' h' → Rep g' v pv → Q v { s with heap := h', toks := tk }) → W w A (call f vs [(n, u)]) Q s

section
variable {k : Nat} {sc : Scope} {ρ : Loc}

theorem Ev.callB {f e : Expr} {es : List Expr} {pos : Pos} {id : String} {xs : List PV} {pv : PV} (hf : Ev k sc ρ f (.bi id)) (ha : EvL k sc ρ (e :: es) xs) (hc : CallOk k (.builtin id) xs pv)
    (he : ∀ env, eval (.Call f (e :: es) [] pos) env = (do callWith pos (← eval f env) [] (backTo pos (starEach (e :: es) env)) (backToKw pos (keywordEach [] env))) := by intro _; rfl)
    (hst : ∀ env, starEach (e :: es) env = (false, eval e env) :: starEach es env := by intro _; rfl) (hpl : ∀ env, (backTo pos (starEach es env)).any (·.1) = false := by intro _; rfl) : Ev k sc ρ (.Call f (e :: es) [] pos) pv := by
  intro w A env g s Q G hs B I O hQ
  refine Call_ (hf w A env g s _ G hs B I O fun v g₁ h₁ t₁ s₁ r₁ => ?_) (he env)
  simp only [Rep] at r₁; subst r₁
  refine PyProof.Rows.callWith_builtin1 (ha w A env g₁ _ _ pos G hs (B.keeps s₁.stays) s₁.inn (O.step s₁) fun vs g₂ h₂ t₂ s₂ r₂ => ?_) (hst env) (hpl env)
  exact hc w A g₂ _ _ vs G ((B.keeps s₁.stays).keeps s₂.stays) s₂.inn r₂ fun v g₃ h₃ t₃ s₃ r₃ => hQ v g₃ h₃ t₃ ((s₁.trans s₂).trans s₃) r₃
theorem Ev.callT {f e : Expr} {es : List Expr} {pos : Pos} {id : String} {xs : List PV} {pv : PV} (hf : Ev k sc ρ f (.ty id)) (ha : EvL k sc ρ (e :: es) xs) (hc : CallOk k (.type id) xs pv)
    (he : ∀ env, eval (.Call f (e :: es) [] pos) env = (do callWith pos (← eval f env) [] (backTo pos (starEach (e :: es) env)) (backToKw pos (keywordEach [] env))) := by intro _; rfl)
    (hst : ∀ env, starEach (e :: es) env = (false, eval e env) :: starEach es env := by intro _; rfl) (hpl : ∀ env, (backTo pos (starEach es env)).any (·.1) = false := by intro _; rfl) : Ev k sc ρ (.Call f (e :: es) [] pos) pv := by
  intro w A env g s Q G hs B I O hQ
  refine Call_ (hf w A env g s _ G hs B I O fun v g₁ h₁ t₁ s₁ r₁ => ?_) (he env)
  simp only [Rep] at r₁; subst r₁
  refine PyProof.Rows.callWith_type1 (ha w A env g₁ _ _ pos G hs (B.keeps s₁.stays) s₁.inn (O.step s₁) fun vs g₂ h₂ t₂ s₂ r₂ => ?_) (hst env) (hpl env)
  exact hc w A g₂ _ _ vs G ((B.keeps s₁.stays).keeps s₂.stays) s₂.inn r₂ fun v g₃ h₃ t₃ s₃ r₃ => hQ v g₃ h₃ t₃ ((s₁.trans s₂).trans s₃) r₃
theorem Ev.callF {f e : Expr} {es : List Expr} {pos : Pos} {a : Addr} {xs : List PV} {pv : PV} (hf : Ev k sc ρ f (.fn a)) (ha : EvL k sc ρ (e :: es) xs) (hc : CallOk k (.ref a) xs pv) (hkp : ∀ w, keepIn (KK w) (.ref a) = true)
    (he : ∀ env, eval (.Call f (e :: es) [] pos) env = (do callWith pos (← eval f env) [] (backTo pos (starEach (e :: es) env)) (backToKw pos (keywordEach [] env))) := by intro _; rfl)
    (hst : ∀ env, starEach (e :: es) env = (false, eval e env) :: starEach es env := by intro _; rfl) (hpl : ∀ env, (backTo pos (starEach es env)).any (·.1) = false := by intro _; rfl) : Ev k sc ρ (.Call f (e :: es) [] pos) pv := by
  intro w A env g s Q G hs B I O hQ
  refine Call_ (hf w A env g s _ G hs B I O fun v g₁ h₁ t₁ s₁ r₁ => ?_) (he env)
  simp only [Rep] at r₁; subst r₁
  refine callWith_K (h₀ := h₁) (B.keeps s₁.stays).inK (hkp w) (ha w A env g₁ _ _ pos G hs (B.keeps s₁.stays) s₁.inn (O.step s₁) fun vs g₂ h₂ t₂ s₂ r₂ => ⟨((B.keeps s₁.stays).keeps s₂.stays).inK, ?_⟩) (hst env) (hpl env)
  exact hc w A g₂ _ _ vs G ((B.keeps s₁.stays).keeps s₂.stays) s₂.inn r₂ fun v g₃ h₃ t₃ s₃ r₃ => hQ v g₃ h₃ t₃ ((s₁.trans s₂).trans s₃) r₃
theorem Ev.callFK {f e ke : Expr} {es : List Expr} {pos kp : Pos} {a : Addr} {n : Str} {xs : List PV} {kv pv : PV} (hf : Ev k sc ρ f (.fn a)) (ha : EvL k sc ρ (e :: es) xs) (hk : Ev k sc ρ ke kv) (hc : CallKw k (.ref a) xs n kv pv) (hkp : ∀ w, keepIn (KK w) (.ref a) = true)
    (he : ∀ env, eval (.Call f (e :: es) [⟨some n, ke, kp⟩] pos) env = (do callWith pos (← eval f env) [] (backTo pos (starEach (e :: es) env)) (backToKw pos (keywordEach [⟨some n, ke, kp⟩] env))) := by intro _; rfl)
    (hst : ∀ env, starEach (e :: es) env = (false, eval e env) :: starEach es env := by intro _; rfl) (hpl : ∀ env, (backTo pos (starEach (e :: es) env)).any (·.1) = false := by intro _; rfl)
    (hkw : ∀ env, backToKw pos (keywordEach [⟨some n, ke, kp⟩] env) = [(some n, do let v ← eval ke env; standAt pos; pure v)] := by intro _; rfl) : Ev k sc ρ (.Call f (e :: es) [⟨some n, ke, kp⟩] pos) pv := by
  intro w A env g s Q G hs B I O hQ
  rw [he]
  refine wpAny_bind (hf w A env g s _ G hs B I O fun v g₁ h₁ t₁ s₁ r₁ => ?_)
  simp only [Rep] at r₁; subst r₁
  refine callWith_KW (h₀ := h₁) (B.keeps s₁.stays).inK (hkp w) (by rw [hkw]; rfl) ?_ (by rw [hpl, hkw]; rfl) (hst env)
  rw [hkw]
  refine ha w A env g₁ _ _ pos G hs (B.keeps s₁.stays) s₁.inn (O.step s₁) fun vs g₂ h₂ t₂ s₂ r₂ => ?_
  refine wpAny_evalAll_cons (wpAny_bind (hk w A env g₂ _ _ G hs ((B.keeps s₁.stays).keeps s₂.stays) s₂.inn ((O.step s₁).step s₂) fun u g₃ h₃ t₃ s₃ r₃ => ?_))
  refine wpAny_bind (wpAny_standAt (wpAny_pure (wpAny_evalAll_nil ?_)))
  refine ⟨(((B.keeps s₁.stays).keeps s₂.stays).keeps s₃.stays).inK, ?_⟩
  exact hc w A g₃ _ _ vs u G (((B.keeps s₁.stays).keeps s₂.stays).keeps s₃.stays) s₃.inn (r₂.mono s₃.le) r₃ fun v g₄ h₄ t₄ s₄ r₄ => hQ v g₄ h₄ t₄ (((s₁.trans s₂).trans s₃).trans s₄) r₄

/-! ### built-in functions -/
theorem RepL.two {g : Fix} {vs : List Value} {x y : PV} (h : RepL g vs [x, y]) : ∃ a b, vs = [a, b] ∧ Rep g a x ∧ Rep g b y := by
  simp only [RepL] at h
  obtain ⟨a, r, rfl, ha, b, r2, rfl, hb, rfl⟩ := h
  exact ⟨a, b, rfl, ha, hb⟩
theorem RepL.three {g : Fix} {vs : List Value} {x y z : PV} (h : RepL g vs [x, y, z]) : ∃ a b c, vs = [a, b, c] ∧ Rep g a x ∧ Rep g b y ∧ Rep g c z := by
  simp only [RepL] at h
  obtain ⟨a, r, rfl, ha, b, r2, rfl, hb, c, r3, rfl, hc, rfl⟩ := h
  exact ⟨a, b, c, rfl, ha, hb, hc⟩
theorem RepL.single {g : Fix} {vs : List Value} {x : PV} (h : RepL g vs [x]) : ∃ a, vs = [a] ∧ Rep g a x := by
  simp only [RepL] at h
  obtain ⟨a, r, rfl, ha, rfl⟩ := h
  exact ⟨a, rfl, ha⟩

theorem len_ok {xs : List PV} (hn : xs.length ≤ 1000) : CallOk k (.builtin "len") [.lst xs] (.int xs.length) := by
  intro w A g s Q vs G B I r hQ
  obtain ⟨v, rfl, rv⟩ := r.single
  obtain ⟨a, ws, rfl, hl, hr⟩ := rv.isList I
  have hlen := hr.length
  refine PyProof.Rows.len_list hl (by simp only [List.size_toArray]; omega) ?_
  have := hQ (.int xs.length (s.toks + 1)) g s.heap (s.toks + 1 + 1) (Step.refl I) .ofInt
  simpa [hlen] using this
theorem intOfInt_ok {i : Int} : CallOk k (.type "int") [.int i] (.int i) := by
  intro w A g s Q vs G B I r hQ
  obtain ⟨v, rfl, rv⟩ := r.single
  obtain ⟨t, rfl⟩ := rv.int
  exact call_int_int (hQ _ g s.heap s.toks (Step.refl I) .ofInt)
theorem intOfFlt_ok {x : UInt64} {sg : Bool} {m : Nat} {e : Int} (hd : Float64.decode x = .fin sg m e) : CallOk k (.type "int") [.flt x] (.int (Float64.truncOf sg m e)) := by
  intro w A g s Q vs G B I r hQ
  obtain ⟨v, rfl, rv⟩ := r.single
  obtain ⟨t, rfl⟩ := rv.flt
  exact call_int_float hd (hQ _ g s.heap _ (Step.refl I) .ofInt)

/-- the greatest of ints, as max tells it -/
noncomputable def maxI (xs : List Int) : Int := xs.foldl (fun a b => if b > a then b else a) (xs.headD 0)
theorem foldMax_spec : ∀ (xs : List Int) (a : Int), (xs.foldl (fun a b => if b > a then b else a) a = a ∨ xs.foldl (fun a b => if b > a then b else a) a ∈ xs) ∧ a ≤ xs.foldl (fun a b => if b > a then b else a) a ∧ ∀ y ∈ xs, y ≤ xs.foldl (fun a b => if b > a then b else a) a
  | [], a => ⟨.inl rfl, Int.le_refl _, fun _ h => nomatch h⟩
  | x :: xs, a => by
    simp only [List.foldl_cons]
    have hz : ((if x > a then x else a) = a ∨ (if x > a then x else a) = x) ∧ a ≤ (if x > a then x else a) ∧ x ≤ (if x > a then x else a) := by split <;> omega
    generalize (if x > a then x else a) = z at hz
    obtain ⟨h1, h2, h3⟩ := foldMax_spec xs z
    refine ⟨?_, by omega, ?_⟩
    · rcases h1 with h1 | h1
      · rw [h1]
        rcases hz.1 with e | e
        · exact .inl e
        · rw [e]; exact .inr (.head _)
      · exact .inr (.tail _ h1)
    · intro y hy
      rcases List.mem_cons.mp hy with rfl | hy
      · omega
      · exact h3 y hy
theorem maxI_mem {xs : List Int} (h : xs ≠ []) : maxI xs ∈ xs := by
  cases xs with
  | nil => exact absurd rfl h
  | cons x xs =>
    have := (foldMax_spec (x :: xs) x).1
    rcases this with e | e
    · unfold maxI; simp only [List.headD_cons]; rw [e]; exact .head _
    · exact e
theorem le_maxI {xs : List Int} {y : Int} (h : y ∈ xs) : y ≤ maxI xs := (foldMax_spec xs _).2.2 y h
theorem maxI_eq {xs : List Int} {m : Int} (h : m ∈ xs) (h2 : ∀ y ∈ xs, y ≤ m) : maxI xs = m := by
  have h1 := h2 _ (maxI_mem (xs := xs) (by rintro rfl; cases h))
  have h3 := le_maxI h
  omega

theorem argBest_max (f : Nat → Int) : ∀ n, (∀ i, i ≤ n → f i ≤ f (argBest (fun i j => decide (f i > f j)) n)) ∧ argBest (fun i j => decide (f i > f j)) n ≤ n
  | 0 => ⟨fun i hi => by have : i = 0 := by omega
                         subst this; exact Int.le_refl _, Nat.le_refl _⟩
  | n + 1 => by
    obtain ⟨ih, ib⟩ := argBest_max f n
    unfold argBest
    split
    · rename_i h
      have h : f (n + 1) > f (argBest (fun i j => decide (f i > f j)) n) := by simpa using h
      refine ⟨fun i hi => ?_, Nat.le_refl _⟩
      by_cases e : i = n + 1
      · subst e; exact Int.le_refl _
      · have := ih i (by omega); omega
    · rename_i h
      have h : ¬ f (n + 1) > f (argBest (fun i j => decide (f i > f j)) n) := by simpa using h
      refine ⟨fun i hi => ?_, by omega⟩
      by_cases e : i = n + 1
      · subst e; omega
      · exact ih i (by omega)

theorem RepL.ints {g : Fix} {ns : List Int} {vs : List Value} (r : RepL g vs (ns.map .int)) {i : Nat} {v : Value} (h : vs[i]? = some v) : ∃ t, v = .int (ns.getD i 0) t := by
  obtain ⟨x, hx, hr⟩ := r.getv h
  rw [List.getElem?_map] at hx
  cases hn : ns[i]? with
  | none => rw [hn] at hx; cases hx
  | some n =>
    rw [hn] at hx; cases hx
    obtain ⟨t, rfl⟩ := hr.int
    exact ⟨t, by rw [List.getD_eq_getElem?_getD, hn]; rfl⟩

theorem notIn_of_some {h : Heap} {b : Addr} {o : Obj} (e : h.get? b = some o) : b ∉ [h.objs.size] := fun hm => by
  rw [List.mem_singleton] at hm; subst hm; exact absurd (Heap.lt_size e) (Nat.lt_irrefl _)

theorem max_ok {ns : List Int} (h0 : ns ≠ []) : CallOk (k + 1) (.builtin "max") [.lst (ns.map .int)] (.int (maxI ns)) := by
  intro w A g s Q vs G B I r hQ
  obtain ⟨v, rfl, rv⟩ := r.single
  obtain ⟨a, ws, rfl, hl, hr⟩ := rv.isList I
  have hlen : ws.length = ns.length := by simpa using hr.length
  obtain ⟨o, ho, _⟩ := id hl
  have hne : a ≠ s.heap.objs.size := Nat.ne_of_lt (Heap.lt_size ho)
  have hpos : 0 < ns.length := List.length_pos_iff.mpr h0
  refine call_max_walk (wpAny_pyIter_list hl ?_)
  refine ⟨_, _, _, _, _, _, fun i j => decide (ns.getD i 0 > ns.getD j 0), rfl, Walks.list (A := A.in1) G.hh s.heap.objs.size a hne ws.toArray, ⟨⟨_, Heap.get?_push_size _ rfl, rfl, rfl⟩, hl.at fun o e => Heap.get?_push_of_some _ e⟩, ?_, by simp only [List.size_toArray]; omega, ?_, ?_⟩
  · intro b hb
    show b < (s.heap.push _).objs.size
    rw [Heap.size_push]
    rcases List.mem_cons.mp hb with rfl | hb
    · exact Nat.lt_succ_self _
    · rw [List.mem_singleton] at hb; subst hb; exact Nat.lt_succ_of_lt (Heap.lt_size ho)
  · intro i j vi vj s' Q' E' hi hj hQ'
    obtain ⟨t, rfl⟩ := hr.ints (by simpa using hi)
    obtain ⟨u, rfl⟩ := hr.ints (by simpa using hj)
    exact PyProof.Rows.gt_int hQ'
  · intro v h' tk hP hk
    have hb := argBest_max (fun i => ns.getD i 0) (ns.length - 1)
    have hP' : ws[argBest (fun i j => decide (ns.getD i 0 > ns.getD j 0)) (ns.length - 1)]? = some v := by
      have : ws.toArray.size - 1 = ns.length - 1 := by simp [hlen]
      rw [this] at hP
      simpa using hP
    obtain ⟨t, rfl⟩ := hr.ints hP'
    have hm : maxI ns = ns.getD (argBest (fun i j => decide (ns.getD i 0 > ns.getD j 0)) (ns.length - 1)) 0 := by
      refine maxI_eq ?_ ?_
      · rw [List.getD_eq_getElem?_getD, List.getElem?_eq_getElem (by have := hb.2; omega)]; simp
      · intro y hy
        obtain ⟨i, hi, rfl⟩ := List.getElem_of_mem hy
        have := hb.1 i (by omega)
        simpa [List.getD_eq_getElem?_getD, hi] using this
    rw [← hm]
    refine hQ _ g h' tk (Step.keep I fun b o e => hk b o (notIn_of_some e) (Heap.get?_push_of_some _ e)) .ofInt

theorem preSum_take (ns : List Int) : ∀ n, n ≤ ns.length → preSum (fun i => ns.getD i 0) n = (ns.take n).sum
  | 0, _ => by simp [preSum]
  | n + 1, h => by
    unfold preSum
    have e : ns.take (n + 1) = ns.take n ++ [ns[n]'(by omega)] := by rw [List.take_add_one, List.getElem?_eq_getElem (by omega)]; rfl
    rw [preSum_take ns n (by omega), e, List.sum_append]
    simp [List.getD_eq_getElem?_getD, List.getElem?_eq_getElem (show n < ns.length by omega)]
theorem sum_ok {ns : List Int} : CallOk (k + 1) (.builtin "sum") [.lst (ns.map .int)] (.int ns.sum) := by
  intro w A g s Q vs G B I r hQ
  obtain ⟨v, rfl, rv⟩ := r.single
  obtain ⟨a, ws, rfl, hl, hr⟩ := rv.isList I
  have hlen : ws.length = ns.length := by simpa using hr.length
  obtain ⟨o, ho, _⟩ := id hl
  have hne : a ≠ s.heap.objs.size := Nat.ne_of_lt (Heap.lt_size ho)
  refine call_sum_walkG (wpAny_pyIter_list hl ?_)
  refine ⟨_, _, _, _, _, _, fun i => ns.getD i 0, rfl, Walks.list (A := A.in1) G.hh s.heap.objs.size a hne ws.toArray, ⟨⟨_, Heap.get?_push_size _ rfl, rfl, rfl⟩, hl.at fun o e => Heap.get?_push_of_some _ e⟩, ?_, ?_, ?_⟩
  · intro b hb
    show b < (s.heap.push _).objs.size
    rw [Heap.size_push]
    rcases List.mem_cons.mp hb with rfl | hb
    · exact Nat.lt_succ_self _
    · rw [List.mem_singleton] at hb; subst hb; exact Nat.lt_succ_of_lt (Heap.lt_size ho)
  · intro i v hi
    exact hr.ints (by simpa using hi)
  · intro h' tk t' hk
    have e : preSum (fun i => ns.getD i 0) ws.toArray.size = ns.sum := by
      have : ws.toArray.size = ns.length := by simp [hlen]
      rw [this, preSum_take ns _ (Nat.le_refl _), List.take_length]
    rw [e]
    exact hQ _ g h' tk (Step.keep I fun b o e => hk b o (notIn_of_some e) (Heap.get?_push_of_some _ e)) .ofInt

/-! max and min of three floats -/
noncomputable def fgt (a b : UInt64) : Bool := Float64.cmp a b == some Ordering.gt
noncomputable def flt' (a b : UInt64) : Bool := Float64.cmp a b == some Ordering.lt
noncomputable def maxF3 (a b c : UInt64) : UInt64 := if fgt b a then (if fgt c b then c else b) else (if fgt c a then c else a)
noncomputable def minF3 (a b c : UInt64) : UInt64 := if flt' b a then (if flt' c b then c else b) else (if flt' c a then c else a)

theorem max3_ok {a b c : UInt64} : CallOk (k + 1) (.builtin "max") [.flt a, .flt b, .flt c] (.flt (maxF3 a b c)) := by
  intro w A g s Q vs G B I r hQ
  obtain ⟨va, vb, vc, rfl, ra, rb, rc⟩ := r.three
  obtain ⟨t, rfl⟩ := ra.flt; obtain ⟨u, rfl⟩ := rb.flt; obtain ⟨x, rfl⟩ := rc.flt
  have hT : (s.heap.push { cls := .type "tuple", data := .seq #[.float a t, .float b u, .float c x] }).IsTuple s.heap.objs.size #[.float a t, .float b u, .float c x] := ⟨_, Heap.get?_push_size _ rfl, rfl, 0, rfl⟩
  have hsz : (s.heap.push { cls := .type "tuple", data := .seq #[.float a t, .float b u, .float c x] }).objs.size = s.heap.objs.size + 1 := Heap.size_push ..
  refine call_max_three (wpAny_pyIter_tuple hT ?_)
  refine ⟨_, [_, s.heap.objs.size], [_], _, _, _, fun i j => fgt (#[a, b, c].getD i 0) (#[a, b, c].getD j 0), rfl, Walks.tuple (A := A.in1) G.hh _ s.heap.objs.size (by rw [hsz]; exact Nat.ne_of_lt (Nat.lt_succ_self _)) #[.float a t, .float b u, .float c x],
    ⟨⟨_, Heap.get?_push_size _ rfl, rfl, rfl⟩, hT.push _⟩, fun d hd => ?_, by simp, ?_, fun v h' tk hP hk => ?_⟩
  · show d < ((s.heap.push _).push _).objs.size
    rw [Heap.size_push, hsz]
    rcases List.mem_cons.mp hd with rfl | hd
    · rw [hsz]; exact Nat.lt_succ_self _
    · rcases List.mem_cons.mp hd with rfl | hd
      · exact Nat.lt_succ_of_lt (Nat.lt_succ_self _)
      · cases hd
  · intro i j vi vj s' Q' E' hi hj hQ'
    have fl : ∀ (i : Nat) (v : Value), (#[Value.float a t, Value.float b u, Value.float c x] : Array Value)[i]? = some v → ∃ t', v = .float (#[a, b, c].getD i 0) t' := by
      intro i v hv
      match i, hv with
      | 0, hv => simp at hv; exact ⟨t, hv.symm⟩
      | 1, hv => simp at hv; exact ⟨u, hv.symm⟩
      | 2, hv => simp at hv; exact ⟨x, hv.symm⟩
      | n + 3, hv => simp at hv
    obtain ⟨t1, rfl⟩ := fl i vi hi
    obtain ⟨t2, rfl⟩ := fl j vj hj
    exact AutoFloatOps.gt_0 hQ'
  · have hold : Stays s.heap h' := fun d o e => by
      refine hk d o (fun hm => ?_) (Heap.get?_push_of_some _ (Heap.get?_push_of_some _ e))
      rcases List.mem_cons.mp hm with e1 | hm
      · have := Heap.lt_size e; rw [e1, hsz] at this; exact Nat.lt_irrefl _ (Nat.lt_of_succ_lt this)
      · cases hm
    have hP' : (#[Value.float a t, Value.float b u, Value.float c x] : Array Value)[argBest (fun i j => fgt (#[a, b, c].getD i 0) (#[a, b, c].getD j 0)) 2]? = some v := hP
    have fin : ∃ t', v = .float (maxF3 a b c) t' := by
      simp only [argBest, maxF3] at hP' ⊢
      simp only [Array.getD_eq_getD_getElem?] at hP'
      simp at hP'
      cases h1 : fgt b a <;> simp [h1] at hP' ⊢
      · cases h2 : fgt c a <;> simp [h2] at hP' ⊢
        · exact ⟨t, hP'.symm⟩
        · exact ⟨x, hP'.symm⟩
      · cases h2 : fgt c b <;> simp [h2] at hP' ⊢
        · exact ⟨u, hP'.symm⟩
        · exact ⟨x, hP'.symm⟩
    obtain ⟨t', rfl⟩ := fin
    exact hQ _ g h' tk (Step.keep I hold) .ofFlt
theorem min3_ok {a b c : UInt64} : CallOk (k + 1) (.builtin "min") [.flt a, .flt b, .flt c] (.flt (minF3 a b c)) := by
  intro w A g s Q vs G B I r hQ
  obtain ⟨va, vb, vc, rfl, ra, rb, rc⟩ := r.three
  obtain ⟨t, rfl⟩ := ra.flt; obtain ⟨u, rfl⟩ := rb.flt; obtain ⟨x, rfl⟩ := rc.flt
  have hT : (s.heap.push { cls := .type "tuple", data := .seq #[.float a t, .float b u, .float c x] }).IsTuple s.heap.objs.size #[.float a t, .float b u, .float c x] := ⟨_, Heap.get?_push_size _ rfl, rfl, 0, rfl⟩
  have hsz : (s.heap.push { cls := .type "tuple", data := .seq #[.float a t, .float b u, .float c x] }).objs.size = s.heap.objs.size + 1 := Heap.size_push ..
  refine call_min_three (wpAny_pyIter_tuple hT ?_)
  refine ⟨_, [_, s.heap.objs.size], [_], _, _, _, fun i j => flt' (#[a, b, c].getD i 0) (#[a, b, c].getD j 0), rfl, Walks.tuple (A := A.in1) G.hh _ s.heap.objs.size (by rw [hsz]; exact Nat.ne_of_lt (Nat.lt_succ_self _)) #[.float a t, .float b u, .float c x],
    ⟨⟨_, Heap.get?_push_size _ rfl, rfl, rfl⟩, hT.push _⟩, fun d hd => ?_, by simp, ?_, fun v h' tk hP hk => ?_⟩
  · show d < ((s.heap.push _).push _).objs.size
    rw [Heap.size_push, hsz]
    rcases List.mem_cons.mp hd with rfl | hd
    · rw [hsz]; exact Nat.lt_succ_self _
    · rcases List.mem_cons.mp hd with rfl | hd
      · exact Nat.lt_succ_of_lt (Nat.lt_succ_self _)
      · cases hd
  · intro i j vi vj s' Q' E' hi hj hQ'
    have fl : ∀ (i : Nat) (v : Value), (#[Value.float a t, Value.float b u, Value.float c x] : Array Value)[i]? = some v → ∃ t', v = .float (#[a, b, c].getD i 0) t' := by
      intro i v hv
      match i, hv with
      | 0, hv => simp at hv; exact ⟨t, hv.symm⟩
      | 1, hv => simp at hv; exact ⟨u, hv.symm⟩
      | 2, hv => simp at hv; exact ⟨x, hv.symm⟩
      | n + 3, hv => simp at hv
    obtain ⟨t1, rfl⟩ := fl i vi hi
    obtain ⟨t2, rfl⟩ := fl j vj hj
    exact AutoFloatOps.lt_0 hQ'
  · have hold : Stays s.heap h' := fun d o e => by
      refine hk d o (fun hm => ?_) (Heap.get?_push_of_some _ (Heap.get?_push_of_some _ e))
      rcases List.mem_cons.mp hm with e1 | hm
      · have := Heap.lt_size e; rw [e1, hsz] at this; exact Nat.lt_irrefl _ (Nat.lt_of_succ_lt this)
      · cases hm
    have hP' : (#[Value.float a t, Value.float b u, Value.float c x] : Array Value)[argBest (fun i j => flt' (#[a, b, c].getD i 0) (#[a, b, c].getD j 0)) 2]? = some v := hP
    have fin : ∃ t', v = .float (minF3 a b c) t' := by
      simp only [argBest, minF3] at hP' ⊢
      simp only [Array.getD_eq_getD_getElem?] at hP'
      simp at hP'
      cases h1 : flt' b a <;> simp [h1] at hP' ⊢
      · cases h2 : flt' c a <;> simp [h2] at hP' ⊢
        · exact ⟨t, hP'.symm⟩
        · exact ⟨x, hP'.symm⟩
      · cases h2 : flt' c b <;> simp [h2] at hP' ⊢
        · exact ⟨u, hP'.symm⟩
        · exact ⟨x, hP'.symm⟩
    obtain ⟨t', rfl⟩ := fin
    exact hQ _ g h' tk (Step.keep I hold) .ofFlt
end
end Mine
end

section
open PySem PySem.W PySem.Calls PyProof.Rows
namespace Mine

/-! ## the names of a frame -/
noncomputable def delL {α : Type} (x : Str) : List (Str × α) → List (Str × α)
  | [] => []
  | (y, a) :: r => if y = x then delL x r else (y, a) :: delL x r
noncomputable def putL' {α : Type} (x : Str) (a : α) : List (Str × α) → List (Str × α)
  | [] => [(x, a)]
  | (y, b) :: r => if y = x then (y, a) :: delL x r else (y, b) :: putL' x a r
theorem lookup_delL {α : Type} (x y : Str) : ∀ l : List (Str × α), (delL x l).lookup y = if y = x then none else l.lookup y
  | [] => by simp [delL]
  | (z, a) :: r => by
    have ih := lookup_delL x y r
    by_cases h : z = x
    · subst h
      rw [delL, if_pos rfl, ih]
      by_cases hy : y = z
      · simp [hy]
      · have : (y == z) = false := beq_eq_false_iff_ne.mpr hy
        simp [hy, List.lookup_cons, this]
    · rw [delL, if_neg h, List.lookup_cons, List.lookup_cons, ih]
      cases hy : y == z with
      | true =>
        have e := beq_iff_eq.mp hy
        subst e
        simp [h]
      | false => rfl
theorem lookup_putL {α : Type} (x y : Str) (a : α) : ∀ l : List (Str × α), (putL' x a l).lookup y = if y = x then some a else l.lookup y
  | [] => by
    rw [putL', List.lookup_cons]
    by_cases h : y = x
    · subst h; simp
    · have : (y == x) = false := beq_eq_false_iff_ne.mpr h
      simp [h, this]
  | (z, b) :: r => by
    by_cases h : z = x
    · subst h
      rw [putL', if_pos rfl, List.lookup_cons, lookup_delL, List.lookup_cons]
      by_cases hy : y = z
      · subst hy; simp
      · have : (y == z) = false := beq_eq_false_iff_ne.mpr hy
        simp [hy, this]
    · rw [putL', if_neg h, List.lookup_cons, List.lookup_cons, lookup_putL x y a r]
      cases hy : y == z with
      | true =>
        have e := beq_iff_eq.mp hy
        subst e
        simp [h]
      | false => rfl

/-- what the names hold: values; and lists that this frame alone holds and may change -/
structure St where
  v : Loc
  o : List (Str × List PV)
noncomputable def St.setV (σ : St) (x : Str) (pv : PV) : St := ⟨putL' x pv σ.v, delL x σ.o⟩
noncomputable def St.setO (σ : St) (x : Str) (xs : List PV) : St := ⟨delL x σ.v, putL' x xs σ.o⟩

noncomputable def Bnd (env : Env) (m cm : Str → Option Value) (x : Str) (v : Value) : Prop :=
  (env.kindOf x = some .local ∧ m x = some v) ∨ (env.kindOf x = some .cell ∧ (∃ c, env.cells.lookup x = some c) ∧ cm x = some v)

structure OwnAt (hC : Heap) (g : Fix) (env : Env) (m : Str → Option Value) (h : Heap) (x : Str) (l : Addr) (xs : List PV) : Prop where
  kind : env.kindOf x = some .local
  val : m x = some (.ref l)
  list : ∃ vs, h.PlainList l vs.toArray ∧ RepL g vs xs
  offg : g l = none
  offC : hC.get? l = none
  neL : l ≠ env.locals
  neC : ∀ y c, env.cells.lookup y = some c → c ≠ l

structure FSt (hC : Heap) (g : Fix) (env : Env) (oc : List Str) (σ : St) (h : Heap) : Prop where
  glob : env.globals = mainGlobals
  blt : env.builtins = builtinsNs
  kind : env.scope.kind = .function
  keep : Stays hC h
  inn : g.In h
  lC : hC.get? env.locals = none
  lg : g env.locals = none
  ocC : ∀ x ∈ oc, ∃ c, env.cells.lookup x = some c ∧ hC.get? c = none ∧ g c = none ∧ env.kindOf x = some .cell
  ocA : ∀ x ∈ oc, ∀ y c, env.cells.lookup x = some c → env.cells.lookup y = some c → y = x
  cL : ∀ x c, env.cells.lookup x = some c → c ≠ env.locals
  body : ∃ (m cm : Str → Option Value) (la : Str → Addr), h.Ns env.locals m ∧ (∀ x c, env.cells.lookup x = some c → h.IsCell c (cm x)) ∧
    (∀ x pv, σ.v.lookup x = some pv → ∃ v, Rep g v pv ∧ Bnd env m cm x v) ∧ (∀ x xs, σ.o.lookup x = some xs → OwnAt hC g env m h x (la x) xs) ∧
    ∀ x y, (σ.o.lookup x).isSome = true → (σ.o.lookup y).isSome = true → la x = la y → x = y

noncomputable def FKeep (env : Env) (oc : List Str) (h h' : Heap) : Prop := ∀ b o, h.get? b = some o → b ≠ env.locals → (∀ x ∈ oc, env.cells.lookup x ≠ some b) → h'.get? b = some o
theorem FKeep.refl {env : Env} {oc : List Str} {h : Heap} : FKeep env oc h h := fun _ _ e _ _ => e
theorem FKeep.trans {env : Env} {oc : List Str} {a b c : Heap} (x : FKeep env oc a b) (y : FKeep env oc b c) : FKeep env oc a c := fun d o e h1 h2 => y d o (x d o e h1 h2) h1 h2
theorem FKeep.ofStays {env : Env} {oc : List Str} {h h' : Heap} (x : Stays h h') : FKeep env oc h h' := fun b o e _ _ => x b o e

theorem FSt.env {hC : Heap} {g : Fix} {env : Env} {oc : List Str} {σ : St} {h : Heap} (F : FSt hC g env oc σ h) : EnvOk h g env σ.v := by
  obtain ⟨m, cm, la, n, c, v, o, d⟩ := F.body
  refine ⟨F.glob, F.blt, F.kind, m, n, fun x pv e => ?_⟩
  obtain ⟨u, r, q⟩ := v x pv e
  refine ⟨u, r, q.imp id fun ⟨a, ⟨cc, hc⟩, b⟩ => ⟨a, cc, hc, ?_⟩⟩
  have := c x cc hc
  rw [b] at this; exact this
theorem Step.off {g g' : Fix} {h h' : Heap} {b : Addr} {o : Obj} (st : Step g h g' h') (hg : g b = none) (ho : h.get? b = some o) : g' b = none := by
  cases q : g' b with
  | none => rfl
  | some x => rcases st.new b x q with e | e
              · rw [hg] at e; cases e
              · rw [ho] at e; cases e
theorem Ns.some {h : Heap} {L : Addr} {m : Str → Option Value} (n : h.Ns L m) : ∃ o, h.get? L = some o := let ⟨o, _, _, e, _⟩ := n; ⟨o, e⟩
theorem FSt.step {hC : Heap} {g g' : Fix} {env : Env} {oc : List Str} {σ : St} {h h' : Heap} (F : FSt hC g env oc σ h) (st : Step g h g' h') : FSt hC g' env oc σ h' := by
  obtain ⟨m, cm, la, n, c, v, o, d⟩ := F.body
  obtain ⟨ol, hol⟩ := Ns.some n
  refine ⟨F.glob, F.blt, F.kind, F.keep.trans st.stays, st.inn, F.lC, st.off F.lg hol, fun x hx => ?_, F.ocA, F.cL, m, cm, la, n.keeps st.stays, fun x cc e => (c x cc e).keeps st.stays,
    fun x pv e => let ⟨u, r, q⟩ := v x pv e; ⟨u, r.mono st.le, q⟩, fun x xs e => ?_, d⟩
  · obtain ⟨cc, h1, h2, h3, h4⟩ := F.ocC x hx
    obtain ⟨co, hco, _⟩ := c x cc h1
    exact ⟨cc, h1, h2, st.off h3 hco, h4⟩
  · have O := o x xs e
    obtain ⟨vs, ⟨k, hp⟩, r⟩ := O.list
    exact ⟨O.kind, O.val, ⟨vs, ⟨k, st.stays _ _ hp⟩, r.mono st.le⟩, st.off O.offg hp, O.offC, O.neL, O.neC⟩

section
variable {w : World} {A : Around} {hC : Heap} {g : Fix} {env : Env} {oc : List Str} {σ : St} {s : Shared}

theorem FSt.store {x : Str} {v : Value} {pv : PV} {Q : Unit → Shared → Prop} (F : FSt hC g env oc σ s.heap) (hx : env.kindOf x = some .local ∨ x ∈ oc) (r : Rep g v pv)
    (hQ : ∀ h' tk, FSt hC g env oc (σ.setV x pv) h' → FKeep env oc s.heap h' → Q () { s with heap := h', toks := tk }) : W w A (storeName env x v) Q s := by
  obtain ⟨m, cm, la, n, c, vv, o, d⟩ := F.body
  rcases hx with hl | hx
  · refine wpAny_storeName_local hl n (fun h' n' sb => ?_) (by rw [F.kind]; rfl)
    have nC : ∀ b o, hC.get? b = some o → b ≠ env.locals := fun b o e q => by subst q; rw [F.lC] at e; cases e
    have nG : ∀ b o, g b = some o → b ≠ env.locals := fun b o e q => by subst q; rw [F.lg] at e; cases e
    refine hQ h' _ ⟨F.glob, F.blt, F.kind, fun b o e => (sb.2 b (nC b o e)).trans (F.keep b o e), fun b o e => (sb.2 b (nG b o e)).trans (F.inn b o e), F.lC, F.lg, F.ocC, F.ocA, F.cL, _, cm, la, n',
      fun y cc e => (c y cc e).sameBut sb (F.cL y cc e), fun y p e => ?_, fun y ys e => ?_, fun y z hy hz => ?_⟩ fun b o e h1 _ => (sb.2 b h1).trans e
    · simp only [St.setV, lookup_putL] at e
      by_cases hyx : y = x
      · subst hyx
        simp only [if_true] at e
        cases e
        exact ⟨v, r, .inl ⟨hl, by simp⟩⟩
      · rw [if_neg hyx] at e
        obtain ⟨u, ru, q⟩ := vv y p e
        exact ⟨u, ru, q.imp (fun ⟨a, b⟩ => ⟨a, by simp [hyx, b]⟩) id⟩
    · simp only [St.setV, lookup_delL] at e
      by_cases hyx : y = x
      · rw [if_pos hyx] at e; cases e
      · rw [if_neg hyx] at e
        have O := o y ys e
        obtain ⟨vs, ⟨k, hp⟩, rr⟩ := O.list
        exact ⟨O.kind, by simp [hyx, O.val], ⟨vs, ⟨k, (sb.2 _ O.neL).trans hp⟩, rr⟩, O.offg, O.offC, O.neL, O.neC⟩
    · simp only [St.setV, lookup_delL] at hy hz
      by_cases hyx : y = x
      · rw [if_pos hyx] at hy; cases hy
      · by_cases hzx : z = x
        · rw [if_pos hzx] at hz; cases hz
        · rw [if_neg hyx] at hy; rw [if_neg hzx] at hz; exact d y z hy hz
  · obtain ⟨cc, hc, hcC, hcg, hk⟩ := F.ocC x hx
    refine wpAny_storeName_cell F.kind hk hc (c x cc hc) (fun h' ic sb => ?_)
    have nC : ∀ b o, hC.get? b = some o → b ≠ cc := fun b o e q => by subst q; rw [hcC] at e; cases e
    have nG : ∀ b o, g b = some o → b ≠ cc := fun b o e q => by subst q; rw [hcg] at e; cases e
    refine hQ h' _ ⟨F.glob, F.blt, F.kind, fun b o e => (sb.2 b (nC b o e)).trans (F.keep b o e), fun b o e => (sb.2 b (nG b o e)).trans (F.inn b o e), F.lC, F.lg, F.ocC, F.ocA, F.cL, m, (fun y => if y = x then some v else cm y), la, n.sameBut sb (Ne.symm (F.cL x cc hc)),
      fun y c' e => ?_, fun y p e => ?_, fun y ys e => ?_, fun y z hy hz => ?_⟩ fun b o e _ h2 => (sb.2 b fun q => h2 x hx (q ▸ hc)).trans e
    · by_cases hyx : y = x
      · subst hyx; rw [hc] at e; cases e; simpa using ic
      · show h'.IsCell c' (if y = x then some v else cm y)
        rw [if_neg hyx]; exact (c y c' e).sameBut sb fun q => hyx (F.ocA x hx y cc hc (q ▸ e))
    · simp only [St.setV, lookup_putL] at e
      by_cases hyx : y = x
      · subst hyx
        simp only [if_true] at e
        cases e
        exact ⟨v, r, .inr ⟨hk, ⟨cc, hc⟩, by simp⟩⟩
      · rw [if_neg hyx] at e
        obtain ⟨u, ru, q⟩ := vv y p e
        exact ⟨u, ru, q.imp id fun ⟨a, b, d⟩ => ⟨a, b, by simp [hyx, d]⟩⟩
    · simp only [St.setV, lookup_delL] at e
      by_cases hyx : y = x
      · rw [if_pos hyx] at e; cases e
      · rw [if_neg hyx] at e
        have O := o y ys e
        obtain ⟨vs, ⟨k, hp⟩, rr⟩ := O.list
        exact ⟨O.kind, O.val, ⟨vs, ⟨k, (sb.2 _ (Ne.symm (O.neC x cc hc))).trans hp⟩, rr⟩, O.offg, O.offC, O.neL, O.neC⟩
    · simp only [St.setV, lookup_delL] at hy hz
      by_cases hyx : y = x
      · rw [if_pos hyx] at hy; cases hy
      · by_cases hzx : z = x
        · rw [if_pos hzx] at hz; cases hz
        · rw [if_neg hyx] at hy; rw [if_neg hzx] at hz; exact d y z hy hz

/-- a value as it comes out of an iterator: laid for a name (false), or for several names (true) -/
noncomputable def Shown (tt : Bool) (g : Fix) (h : Heap) (v : Value) (pv : PV) : Prop := match tt with
  | false => Rep g v pv
  | true => ∃ xs T vs, (pv = .tup xs ∨ pv = .lst xs) ∧ v = .ref T ∧ (IsTup h T vs.toArray ∨ h.IsList T vs.toArray) ∧ RepL g vs xs
theorem Shown.ofRep {g : Fix} {h : Heap} {v : Value} {pv : PV} (r : Rep g v pv) (i : g.In h) {xs : List PV} (hp : pv = .tup xs ∨ pv = .lst xs) : Shown true g h v pv := by
  rcases hp with rfl | rfl
  · obtain ⟨a, o, vs, n, rfl, ho, hc, hd, hr⟩ := r.tup
    exact ⟨xs, a, vs, .inl rfl, rfl, .inl ⟨o, i _ _ ho, hc, n, hd⟩, hr⟩
  · obtain ⟨a, vs, rfl, hl, hr⟩ := r.isList i
    exact ⟨xs, a, vs, .inr rfl, rfl, .inr hl, hr⟩

/-- laying a value down at a target -/
noncomputable def Asg (sc : Scope) (oc : List Str) (target : Expr) (tt : Bool) (pv : PV) (σ σ' : St) : Prop :=
  ∀ (w : World) (A : Around) (env : Env) (hC : Heap) (g : Fix) (s : Shared) (Q : Unit → Shared → Prop) (v : Value), A.handled = none → env.scope = sc → FSt hC g env oc σ s.heap → Shown tt g s.heap v pv →
    (∀ h' tk, FSt hC g env oc σ' h' → FKeep env oc s.heap h' → Q () { s with heap := h', toks := tk }) → W w A (assign target env v) Q s
end
theorem Asg.name {sc : Scope} {oc : List Str} {x : Str} {p : Pos} {pv : PV} {σ : St} (hx : sc.names.lookup x = some .local ∨ x ∈ oc) : Asg sc oc (.Name x p) false pv σ (σ.setV x pv) := by
  intro w A env hC g s Q v hh hs F sh hQ
  exact PySem.wpAny_assign_Name (F.store (hx.imp (fun e => by unfold Env.kindOf; rw [hs]; exact e) id) sh hQ)

/-! unpacking -/
theorem draw_list {w : World} {A : Around} {I l : Addr} {items : Array Value} (hne : l ≠ I) : ∀ (n i : Nat) (s : Shared) (Q : List Value → Shared → Prop), s.heap.IsListIter I l i → s.heap.IsList l items → i + n ≤ items.size →
    (∀ h', h'.IsListIter I l (i + n) → Heap.SameBut I s.heap h' → Q ((items.toList.drop i).take n) { s with heap := h' }) → W w A (draw (.ref I) n) Q s
  | 0, i, s, Q, hi, hl, hn, hQ => by
    unfold draw
    exact wpAny_pure (by simpa using hQ s.heap hi (.refl ..))
  | n + 1, i, s, Q, hi, hl, hn, hQ => by
    unfold draw
    have hlt : i < items.size := by omega
    refine wpAny_bind (wpAny_pyNext_list_item hi hl (x := items[i]) (by simp [hlt]) fun h₁ hit₁ hs₁ => ?_)
    refine wpAny_bind (wpAny_holding (draw_list hne n (i + 1) _ _ hit₁ (hl.extBut hs₁.extBut hne) (by omega) fun h₂ hit₂ hs₂ => wpAny_pure ?_))
    have hd : items.toList.drop i = items[i] :: items.toList.drop (i + 1) := by simp [List.drop_eq_getElem_cons, hlt]
    have := hQ h₂ (by rw [show i + (n + 1) = i + 1 + n by omega]; exact hit₂) (hs₁.trans hs₂)
    rw [hd, List.take_succ_cons] at this
    exact this
theorem unpackItems_list {w : World} {A : Around} {s : Shared} {l : Addr} {items : Array Value} {Q : List Value → Shared → Prop} (hh : A.handled = none) (ht : s.heap.IsList l items)
    (hQ : ∀ h', Heap.ExtBut s.heap.objs.size s.heap h' → Q items.toList { s with heap := h' }) : W w A (unpackItems (.ref l) items.size none) Q s := by
  have hlt : l ≠ s.heap.objs.size := by obtain ⟨o, ho, _⟩ := ht; exact Nat.ne_of_lt (Heap.lt_size ho)
  unfold unpackItems
  refine wpAny_bind ?_
  unfold notIterableAtAll
  refine wpAny_bind (wpAny_specialOf ht.typeIs F.slot_list_iter.lookup ?_)
  refine wpAny_pure ?_
  simp only [Bool.false_eq_true, if_false]
  have hp : (s.heap.push { cls := .type "list_iterator", data := .fields #[.ref l, .int 0 0] }).IsList l items := ht.at fun o e => Heap.get?_push_of_some _ e
  refine wpAny_bind (wpAny_holding (wpAny_pyIter_list ht ?_))
  refine wpAny_bind (wpAny_holding (draw_list hlt items.size 0 _ _ ⟨_, Heap.get?_push_size _ rfl, rfl, rfl⟩ (ht.at fun o e => Heap.get?_push_of_some _ e) (by omega) fun h₁ hit₁ hs₁ => ?_))
  have hall : List.take items.size (List.drop 0 items.toList) = items.toList := by
    rw [List.drop_zero]; exact List.take_of_length_le (by simp)
  rw [hall]
  rw [if_neg (by simp)]
  have ht₁ : h₁.IsList l items := (ht.at fun o e => Heap.get?_push_of_some _ e : (s.heap.push _).IsList l items).extBut hs₁.extBut hlt
  refine wpAny_bind (wpAny_holding (wpAny_pyNext_list_end hh hit₁ ht₁ (by simp) fun h₂ he₂ => ?_))
  simp only [Option.isSome_none, Bool.false_eq_true, if_false]
  refine wpAny_pure (hQ h₂ fun b o hb e => he₂ b o hb (hs₁.extBut b o hb (Heap.get?_push_of_some _ e)))
theorem unpack_any {w : World} {A : Around} {s : Shared} {T : Addr} {vs : List Value} {n : Nat} {Q : List Value → Shared → Prop} (hh : A.handled = none) (ht : IsTup s.heap T vs.toArray ∨ s.heap.IsList T vs.toArray) (hn : n = vs.length)
    (hQ : ∀ h', Stays s.heap h' → Q vs { s with heap := h' }) : W w A (unpackItems (.ref T) n none) Q s := by
  have key : ∀ h', Heap.ExtBut s.heap.objs.size s.heap h' → Q vs.toArray.toList { s with heap := h' } := fun h' e => by
    have := hQ h' fun b o hb => e b o (Nat.ne_of_lt (Heap.lt_size hb)) hb
    simpa using this
  have hn' : n = vs.toArray.size := by simpa using hn
  subst hn'
  rcases ht with ht | ht
  · exact unpackItems_tuple hh ht key
  · exact unpackItems_list hh ht key

/-- laying values down at several names, one behind the other -/
inductive AsgN (sc : Scope) (oc : List Str) : List Expr → List PV → St → St → Prop
  | nil {σ : St} : AsgN sc oc [] [] σ σ
  | cons {x : Str} {p : Pos} {es : List Expr} {pv : PV} {pvs : List PV} {σ σ' : St} : (sc.names.lookup x = some .local ∨ x ∈ oc) → AsgN sc oc es pvs (σ.setV x pv) σ' → AsgN sc oc (.Name x p :: es) (pv :: pvs) σ σ'
theorem AsgN.len {sc : Scope} {oc : List Str} {es : List Expr} {pvs : List PV} {σ σ' : St} (h : AsgN sc oc es pvs σ σ') : es.length = pvs.length := by
  induction h with
  | nil => rfl
  | cons _ _ ih => simp [ih]
theorem AsgN.each {sc : Scope} {oc : List Str} {es : List Expr} {pvs : List PV} {σ σ' : St} (h : AsgN sc oc es pvs σ σ') (env : Env) : (assignEach es env).length = es.length ∧ (assignEach es env).findIdx? (·.1) = none := by
  induction h with
  | nil => exact ⟨rfl, rfl⟩
  | cons _ _ ih =>
    rename_i x p es pv pvs σ σ' _ _
    have e : assignEach (.Name x p :: es) env = (false, assign (.Name x p) env) :: assignEach es env := rfl
    rw [e]
    exact ⟨by simp [ih.1], by simp [List.findIdx?_cons, ih.2]⟩
theorem AsgN.run {sc : Scope} {oc : List Str} {w : World} {A : Around} {env : Env} {hC : Heap} {g : Fix} (hh : A.handled = none) (hs : env.scope = sc) {es : List Expr} {pvs : List PV} {σ σ' : St} (h : AsgN sc oc es pvs σ σ') :
    ∀ (s : Shared) (Q : Unit → Shared → Prop) (vs : List Value), FSt hC g env oc σ s.heap → RepL g vs pvs →
      (∀ h' tk, FSt hC g env oc σ' h' → FKeep env oc s.heap h' → Q () { s with heap := h', toks := tk }) → W w A (assignInOrder ((assignEach es env).map (·.2)) vs) Q s := by
  induction h with
  | nil =>
    intro s Q vs F r hQ
    simp only [RepL] at r; subst r
    exact wpAny_pure (hQ s.heap s.toks F .refl)
  | cons hx _ ih =>
    rename_i x p es pv pvs σ σ' _
    intro s Q vs F r hQ
    simp only [RepL] at r
    obtain ⟨v, vs', rfl, rv, rr⟩ := r
    have e : assignEach (.Name x p :: es) env = (false, assign (.Name x p) env) :: assignEach es env := rfl
    rw [e]
    show W w A (do holding vs' (assign (.Name x p) env v); assignInOrder ((assignEach es env).map (·.2)) vs') Q s
    refine wpAny_bind (wpAny_holding (PySem.wpAny_assign_Name (F.store (hx.imp (fun e => by unfold Env.kindOf; rw [hs]; exact e) id) rv fun h' tk F' k' => ?_)))
    exact ih _ _ vs' F' rr fun h'' tk' F'' k'' => hQ h'' tk' F'' (k'.trans k'')
theorem Asg.tup {sc : Scope} {oc : List Str} {es : List Expr} {n : Nat} {pos : Pos} {pv : PV} {xs : List PV} {σ σ' : St} (hp : pv = .tup xs ∨ pv = .lst xs) (h : AsgN sc oc es xs σ σ') : Asg sc oc (.Tuple es n pos) true pv σ σ' := by
  intro w A env hC g s Q v hh hs F sh hQ
  obtain ⟨ys, T, vs, hp', rfl, ht, r⟩ := sh
  have hy : ys = xs := by
    rcases hp with rfl | rfl <;> rcases hp' with e | e <;> cases e <;> rfl
  subst hy
  rw [arm_assign_Tuple]
  refine wpAny_bind (wpAny_standAt ?_)
  unfold unpack
  have e1 := h.each env
  rw [e1.2]
  refine wpAny_bind (wpAny_holding (unpack_any hh ht (by rw [e1.1, h.len, r.length]) fun h' st => ?_))
  have F' := F.step (Step.keep F.inn st)
  refine h.run hh hs _ _ vs F' r fun h'' tk F'' k'' => hQ h'' tk F'' (FKeep.trans (FKeep.ofStays st) k'')
end Mine
end

section
open PySem PySem.W PySem.Calls PyProof.Rows
namespace Mine

/-! ## iterators -/
structure Wk (w : World) (A : Around) (target : Expr) (tt : Bool) (I : Addr) (fp wr : List Addr) (items : List PV) (g₀ : Fix) (Sta : Nat → Heap → Prop) : Prop where
  sub : ∀ b ∈ wr, b ∈ fp
  off : ∀ b ∈ wr, g₀ b = none
  live : ∀ i h, Sta i h → ∀ b ∈ wr, ∃ o, h.get? b = some o
  frame : ∀ i h h', Sta i h → (∀ b ∈ fp, ∀ o, h.get? b = some o → h'.get? b = some o) → Sta i h'
  item : ∀ i pv (s : Shared) (K2 : Value → Shared → Prop), items[i]? = some pv → Sta i s.heap → g₀.In s.heap →
    (∀ v h' tk, Sta (i + 1) h' → Shown tt g₀ h' v pv → (∀ b o, b ∉ wr → s.heap.get? b = some o → h'.get? b = some o) → K2 v { s with heap := h', toks := tk }) →
    W w A (pyNext (.ref I)) (fun r s₁ => ∃ v, r = some v ∧ W w A (letOwnedTupleGo target (.ref I) v) (fun _ s₂ => K2 v s₂) s₁) s
  done : ∀ (s : Shared) (K : Option Value → Shared → Prop), Sta items.length s.heap →
    (∀ h' tk, (∀ b o, b ∉ wr → s.heap.get? b = some o → h'.get? b = some o) → K none { s with heap := h', toks := tk }) → W w A (pyNext (.ref I)) K s
  self : ∀ i (s : Shared) (K : Value → Shared → Prop), Sta i s.heap → K (.ref I) s → W w A (pyIter (.ref I)) K s

theorem Wk.list {w : World} {A : Around} {x : Str} {p : Pos} (hh : A.handled = none) (I ax : Addr) (hne : ax ≠ I) (vs : List Value) (items : List PV) (g₀ : Fix) (hI : g₀ I = none) (r : RepL g₀ vs items) :
    Wk w A (.Name x p) false I [I, ax] [I] items g₀ (fun i h => h.IsListIter I ax i ∧ h.IsList ax vs.toArray) := by
  have V := Walks.list (prog := PG) (w := w) hh I ax hne vs.toArray
  have hlen : vs.toArray.size = items.length := by simpa using r.length
  rw [hlen] at V
  refine ⟨V.sub, fun b hb => by rw [List.mem_singleton.mp hb]; exact hI, (fun i h st b hb => by rw [List.mem_singleton.mp hb]; obtain ⟨⟨o, ho, _⟩, _⟩ := st; exact ⟨o, ho⟩), V.frame, fun i pv s K2 hi st _ hK => ?_, fun s K st hK => V.done s K _ st hK, fun i s K st hK => V.self i s K _ st hK⟩
  have hlt : i < items.length := by rw [List.getElem?_eq_some_iff] at hi; exact hi.1
  refine V.item i s _ _ hlt st fun v h' tk hv st' hk => ⟨v, rfl, wpAny_pure (hK v h' tk st' ?_ hk)⟩
  obtain ⟨u, hu, ru⟩ := r.get hi
  have : vs[i]? = some v := by simpa using hv
  rw [hu] at this; cases this
  exact ru
theorem Wk.listT {w : World} {A : Around} {es : List Expr} {x1 : Nat} {p : Pos} (hh : A.handled = none) (I ax : Addr) (hne : ax ≠ I) (vs : List Value) (items : List PV) (g₀ : Fix) (hI : g₀ I = none) (r : RepL g₀ vs items)
    (ht : ∀ pv ∈ items, ∃ xs, pv = .tup xs ∨ pv = .lst xs) : Wk w A (.Tuple es x1 p) true I [I, ax] [I] items g₀ (fun i h => h.IsListIter I ax i ∧ h.IsList ax vs.toArray) := by
  have V := Walks.list (prog := PG) (w := w) hh I ax hne vs.toArray
  have hlen : vs.toArray.size = items.length := by simpa using r.length
  rw [hlen] at V
  refine ⟨V.sub, fun b hb => by rw [List.mem_singleton.mp hb]; exact hI, (fun i h st b hb => by rw [List.mem_singleton.mp hb]; obtain ⟨⟨o, ho, _⟩, _⟩ := st; exact ⟨o, ho⟩), V.frame, fun i pv s K2 hi st hg hK => ?_, fun s K st hK => V.done s K _ st hK, fun i s K st hK => V.self i s K _ st hK⟩
  have hlt : i < items.length := by rw [List.getElem?_eq_some_iff] at hi; exact hi.1
  refine V.item i s _ _ hlt st fun v h' tk hv st' hk => ⟨v, rfl, ?_⟩
  obtain ⟨u, hu, ru⟩ := r.get hi
  have : vs[i]? = some v := by simpa using hv
  rw [hu] at this; cases this
  obtain ⟨xs, hp⟩ := ht pv (List.mem_of_getElem? hi)
  have hg' : g₀.In h' := fun b o e => hk b o (fun hb => by rw [List.mem_singleton.mp hb, hI] at e; cases e) (hg b o e)
  have sh : Shown true g₀ h' v pv := Shown.ofRep ru hg' hp
  have sh' := sh
  obtain ⟨ys, T, ws, _, hv', _⟩ := sh'
  rw [hv'] at sh ⊢
  exact wpAny_letOwnedTupleGo_listiter st'.1 (hK _ h' tk st' sh hk)

/-- an expression that is gone over: its iterator will give items -/
noncomputable def Src (k : Nat) (sc : Scope) (ρ : Loc) (target : Expr) (tt : Bool) (e : Expr) (items : List PV) : Prop :=
  ∀ (w : World) (A : Around) (env : Env) (g : Fix) (s : Shared) (Q : Value → Shared → Prop), Good k A → env.scope = sc → Based w s.heap → g.In s.heap → EnvOk s.heap g env ρ →
    (∀ I fp wr Sta g' h' tk, Step g s.heap g' h' → Wk w A target tt I fp wr items g' Sta → Sta 0 h' → (∀ b ∈ wr, s.heap.get? b = none) → (∀ b ∈ fp, ∃ o, h'.get? b = some o) → (∀ b ∈ fp, s.heap.get? b = none ∨ ∃ o, g' b = some o) → Q (.ref I) { s with heap := h', toks := tk }) →
    W w A (eval e env) (fun x s₁ => W w A (pyIter x) Q s₁) s

section
variable {k : Nat} {sc : Scope} {ρ : Loc}
theorem Stays.none {h h' : Heap} (x : Stays h h') {b : Addr} (e : h'.get? b = none) : h.get? b = none := by
  cases q : h.get? b with
  | none => rfl
  | some o => rw [x b o q] at e; cases e
theorem Src.list {x : Str} {p : Pos} {e : Expr} {items : List PV} (h : Ev k sc ρ e (.lst items)) : Src k sc ρ (.Name x p) false e items := by
  intro w A env g s Q G hs B I O hQ
  refine h w A env g s _ G hs B I O fun v g₁ h₁ t₁ s₁ r₁ => ?_
  obtain ⟨a, oa, vs, na, rfl, hga, hca, hda, hr⟩ := r₁.lst
  have hl : h₁.IsList a vs.toArray := ⟨oa, s₁.inn _ _ hga, hca, na, hda⟩
  obtain ⟨o, ho, _⟩ := id hl
  refine wpAny_pyIter_list hl ?_
  have st : Step g₁ h₁ g₁ _ := Step.keep (h' := h₁.push { cls := .type "list_iterator", data := .fields #[.ref a, .int 0 0] }) s₁.inn fun b o e => Heap.get?_push_of_some _ e
  have off : g₁ h₁.objs.size = none := by
    cases q : g₁ h₁.objs.size with
    | none => rfl
    | some o => have := s₁.inn _ _ q; rw [fresh_none] at this; cases this
  refine hQ _ _ _ _ _ _ t₁ (s₁.trans st) (Wk.list G.hh h₁.objs.size a (Nat.ne_of_lt (Heap.lt_size ho)) vs items g₁ off hr) ⟨⟨_, Heap.get?_push_size _ rfl, rfl, rfl⟩, hl.at fun o e => Heap.get?_push_of_some _ e⟩ ?_ ?_ ?_
  · intro b hb; rw [List.mem_singleton.mp hb]; exact s₁.stays.none (fresh_none _)
  · intro b hb
    rcases List.mem_cons.mp hb with rfl | hb
    · exact ⟨_, Heap.get?_push_size _ rfl⟩
    · rw [List.mem_singleton] at hb; subst hb; exact ⟨_, Heap.get?_push_of_some _ ho⟩
  · intro b hb
    rcases List.mem_cons.mp hb with rfl | hb
    · exact .inl (s₁.stays.none (fresh_none _))
    · rw [List.mem_singleton] at hb; subst hb; exact .inr ⟨oa, hga⟩
theorem Src.listT {es : List Expr} {x1 : Nat} {p : Pos} {e : Expr} {items : List PV} (h : Ev k sc ρ e (.lst items)) (ht : ∀ pv ∈ items, ∃ xs, pv = .tup xs ∨ pv = .lst xs) : Src k sc ρ (.Tuple es x1 p) true e items := by
  intro w A env g s Q G hs B I O hQ
  refine h w A env g s _ G hs B I O fun v g₁ h₁ t₁ s₁ r₁ => ?_
  obtain ⟨a, oa, vs, na, rfl, hga, hca, hda, hr⟩ := r₁.lst
  have hl : h₁.IsList a vs.toArray := ⟨oa, s₁.inn _ _ hga, hca, na, hda⟩
  obtain ⟨o, ho, _⟩ := id hl
  refine wpAny_pyIter_list hl ?_
  have st : Step g₁ h₁ g₁ _ := Step.keep (h' := h₁.push { cls := .type "list_iterator", data := .fields #[.ref a, .int 0 0] }) s₁.inn fun b o e => Heap.get?_push_of_some _ e
  have off : g₁ h₁.objs.size = none := by
    cases q : g₁ h₁.objs.size with
    | none => rfl
    | some o => have := s₁.inn _ _ q; rw [fresh_none] at this; cases this
  refine hQ _ _ _ _ _ _ t₁ (s₁.trans st) (Wk.listT G.hh h₁.objs.size a (Nat.ne_of_lt (Heap.lt_size ho)) vs items g₁ off hr ht) ⟨⟨_, Heap.get?_push_size _ rfl, rfl, rfl⟩, hl.at fun o e => Heap.get?_push_of_some _ e⟩ ?_ ?_ ?_
  · intro b hb; rw [List.mem_singleton.mp hb]; exact s₁.stays.none (fresh_none _)
  · intro b hb
    rcases List.mem_cons.mp hb with rfl | hb
    · exact ⟨_, Heap.get?_push_size _ rfl⟩
    · rw [List.mem_singleton] at hb; subst hb; exact ⟨_, Heap.get?_push_of_some _ ho⟩
  · intro b hb
    rcases List.mem_cons.mp hb with rfl | hb
    · exact .inl (s₁.stays.none (fresh_none _))
    · rw [List.mem_singleton] at hb; subst hb; exact .inr ⟨oa, hga⟩
end

/-! ## the frame of a comprehension -/
noncomputable def relabelS (scope sc : Scope) : Scope :=
  { scope with names := scope.names.map fun (n, k) => if (k == .free && sc.kind == .function && sc.names.lookup n == some .cell) then (n, .cell) else (n, k) }
theorem relabel_eq (scope : Scope) (env : Env) : relabel scope env = relabelS scope env.scope := rfl

noncomputable def clOf (cells : List (Str × Addr)) : List (Str × NameKind) → List (Str × Addr) → List (Str × Addr)
  | [], acc => acc
  | (n, k) :: r, acc => if k == .free then clOf cells r ((n, (cells.lookup n).getD 0) :: acc) else clOf cells r acc
theorem closureFor_is {scope : Scope} {env : Env} (h : ∀ x ∈ scope.names, x.2 = .free → ∃ c, env.cells.lookup x.1 = some c) : closureFor scope env = pure (clOf env.cells scope.names []) := by
  unfold closureFor
  have key : ∀ (ns : List (Str × NameKind)) (acc : List (Str × Addr)), (∀ x ∈ ns, x.2 = .free → ∃ c, env.cells.lookup x.1 = some c) →
      (forIn ns acc fun x r => match x with | (name, kind) => if (kind == NameKind.free) = true then do let a ← cellOf env name; pure (ForInStep.yield ((name, a) :: r)) else pure (ForInStep.yield r)) = (pure (clOf env.cells ns acc) : Sem (List (Str × Addr))) := by
    intro ns
    induction ns with
    | nil => intro acc _; rfl
    | cons x r ih =>
      intro acc hx
      obtain ⟨n, kd⟩ := x
      rw [List.forIn_cons]
      by_cases hk : kd = .free
      · subst hk
        obtain ⟨c, hc⟩ := hx (n, .free) (.head _) rfl
        simp only [beq_self_eq_true, if_true]
        have hc' : env.cells.lookup n = some c := hc
        have e : cellOf env n = pure c := by unfold cellOf; rw [hc']
        rw [e]
        show (forIn r ((n, c) :: acc) _ : Sem _) = _
        rw [ih _ fun y hy => hx y (.tail _ hy)]
        rw [clOf]; simp [hc']
      · have hb : (kd == NameKind.free) = false := by simpa using hk
        simp only [hb, Bool.false_eq_true, if_false]
        show (forIn r acc _ : Sem _) = _
        rw [ih _ fun y hy => hx y (.tail _ hy)]
        rw [clOf]; simp [hb]
  have := key scope.names [] h
  first
    | (rw [show (do let r ← forIn scope.names [] _; pure r : Sem _) = _ from rfl]; exact this)
    | (simpa using this)
    | exact congrArg (fun t => t >>= fun r => pure r) this
end Mine
end

section
open PySem PySem.W PySem.Calls PyProof.Rows
namespace Mine

theorem cellsFrom_append : ∀ (names : List (Str × NameKind)) (n : Nat) (acc : List (Str × Addr)), cellsFrom n names acc = cellsFrom n names [] ++ acc
  | [], n, acc => by simp [cellsFrom]
  | (x, kd) :: r, n, acc => by
    unfold cellsFrom
    split
    · rw [cellsFrom_append r (n + 1) ((x, n) :: acc), cellsFrom_append r (n + 1) [(x, n)]]; simp
    · exact cellsFrom_append r n acc
theorem clOf_lookup (cells : List (Str × Addr)) (x : Str) : ∀ (names : List (Str × NameKind)) (acc : List (Str × Addr)),
    (clOf cells names acc).lookup x = if (x, NameKind.free) ∈ names then some ((cells.lookup x).getD 0) else acc.lookup x
  | [], acc => by simp [clOf]
  | (n, kd) :: r, acc => by
    unfold clOf
    by_cases hk : kd = .free
    · subst hk
      simp only [beq_self_eq_true, if_true]
      rw [clOf_lookup cells x r]
      by_cases hr : (x, NameKind.free) ∈ r
      · rw [if_pos hr, if_pos (List.mem_cons_of_mem _ hr)]
      · rw [if_neg hr, List.lookup_cons]
        by_cases hx : x = n
        · subst hx; simp
        · have hb : (x == n) = false := beq_eq_false_iff_ne.mpr hx
          rw [hb, if_neg]
          intro hm
          rcases List.mem_cons.mp hm with e | hm
          · cases e; exact hx rfl
          · exact hr hm
    · have hb : (kd == NameKind.free) = false := by simpa using hk
      rw [hb]
      simp only [Bool.false_eq_true, if_false]
      rw [clOf_lookup cells x r]
      by_cases hr : (x, NameKind.free) ∈ r
      · rw [if_pos hr, if_pos (List.mem_cons_of_mem _ hr)]
      · rw [if_neg hr, if_neg]
        intro hm
        rcases List.mem_cons.mp hm with e | hm
        · cases e; exact hk rfl
        · exact hr hm
theorem relabelS_lookup (scope sc : Scope) (x : Str) : (relabelS scope sc).names.lookup x = (scope.names.lookup x).map fun k => if (k == .free && sc.kind == .function && sc.names.lookup x == some .cell) then .cell else k := by
  unfold relabelS
  show List.lookup x (scope.names.map _) = _
  induction scope.names with
  | nil => rfl
  | cons y r ih =>
    obtain ⟨n, kd⟩ := y
    rw [List.map_cons]
    have e : (if (kd == NameKind.free && sc.kind == .function && sc.names.lookup n == some .cell) = true then (n, NameKind.cell) else (n, kd)) = (n, if (kd == NameKind.free && sc.kind == .function && sc.names.lookup n == some .cell) = true then NameKind.cell else kd) := by split <;> rfl
    show List.lookup x ((if (kd == NameKind.free && sc.kind == .function && sc.names.lookup n == some .cell) = true then (n, NameKind.cell) else (n, kd)) :: _) = _
    rw [e, List.lookup_cons, List.lookup_cons]
    cases hx : x == n with
    | true => rw [beq_iff_eq.mp hx]; rfl
    | false => exact ih

theorem newEnv_comp {w : World} {A : Around} {s : Shared} {scope : Scope} {env : Env} {cl : List (Str × Addr)} {Q : Env → Shared → Prop}
    (hQ : Q (newEnv scope s.heap.objs.size env.globals (cellsFrom (s.heap.objs.size + 1) scope.names cl) env.qual none .none (some env) builtinsNs) { s with heap := pushCells (s.heap.push { cls := .type "dict", data := .dict #[] }) scope.names }) :
    W w A (newFunctionEnv scope env.globals cl [] env.qual none .none (some env)) Q s := by
  simp only [newFunctionEnv, Option.isSome_some, if_true]
  refine wpAny_bind (wpAny_alloc ?_)
  refine wpAny_bind (wpAny_layCells _ (fun name kind cells => by cases hkc : kind == NameKind.cell <;> simp [hkc]) _ _ _ _ ?_)
  rw [show ({ s with heap := s.heap.push { cls := .type "dict", data := .dict #[] } } : Shared).heap.objs.size = s.heap.objs.size + 1 from Heap.size_push ..]
  exact wpAny_bind (wpAny_pure (wpAny_pure hQ))

/-- what a cell holds -/
noncomputable def cellVal (h : Heap) (c : Addr) : Option Value := match h.get? c with
  | some o => (match o.data with | .cell v => v | _ => none)
  | none => none
theorem cellVal_of {h : Heap} {c : Addr} {v : Option Value} (x : h.IsCell c v) : cellVal h c = v := by
  obtain ⟨o, ho, hd⟩ := x
  unfold cellVal; rw [ho]; simp only [hd]

theorem off_of_fresh {g : Fix} {h : Heap} (I : g.In h) {b : Addr} (e : h.get? b = none) : g b = none := by
  cases q : g b with
  | none => rfl
  | some o => have := I b o q; rw [e] at this; cases this
theorem get_none_ge {h : Heap} {b : Addr} (e : h.objs.size ≤ b) : h.get? b = none := Heap.get?_none_of_le e

/-- the frame of a comprehension, as it stands at its start -/
theorem FSt.comp {hC h : Heap} {g : Fix} {env : Env} {ρ : Loc} {scope sc : Scope} {caps : Loc} {oc : List Str} (O : EnvOk h g env ρ) (hs : env.scope = sc) (st : Stays hC h) (I : g.In h) (hkind : scope.kind = .function)
    (hcap : ∀ p ∈ caps, ρ.lookup p.1 = some p.2 ∧ scope.names.lookup p.1 = some .free ∧ sc.names.lookup p.1 = some .cell ∧ (cellsFrom 0 scope.names []).lookup p.1 = none)
    (hfree : ∀ x ∈ scope.names, x.2 = .free → ∃ p ∈ caps, p.1 = x.1) (hoc : ∀ x ∈ oc, scope.names.lookup x = some .cell) :
    FSt hC g { newEnv scope h.objs.size env.globals (cellsFrom (h.objs.size + 1) scope.names (clOf env.cells scope.names [])) env.qual none .none (some env) builtinsNs with scope := relabel scope env } oc ⟨caps, []⟩ (pushCells (h.push { cls := .type "dict", data := .dict #[] }) scope.names) := by
  have up : Stays h (pushCells (h.push { cls := .type "dict", data := .dict #[] }) scope.names) := fun b o e => pushCells_keeps _ _ b o (Heap.get?_push_of_some _ e)
  have ok := cellsFrom_ok scope.names (h.push { cls := .type "dict", data := .dict #[] }) (h.objs.size + 1) [] ⟨fun _ _ hm => (nomatch hm), List.Pairwise.nil⟩ (by rw [Heap.size_push]; exact Nat.le_refl _)
  rw [Heap.size_push] at ok
  have hsk : sc.kind = .function := by rw [← hs]; exact O.kind
  obtain ⟨m, n, f⟩ := O.vals
  -- a captured name, in the outer frame
  have cap : ∀ p ∈ caps, ∃ v c, Rep g v p.2 ∧ env.cells.lookup p.1 = some c ∧ h.IsCell c (some v) := by
    intro p hp
    obtain ⟨h1, _, h3, _⟩ := hcap p hp
    obtain ⟨v, r, q⟩ := f p.1 p.2 h1
    rcases q with ⟨hl, _⟩ | ⟨_, c, hc, hv⟩
    · unfold Env.kindOf at hl; rw [hs, h3] at hl; cases hl
    · exact ⟨v, c, r, hc, hv⟩
  -- the cells of the new frame
  have own0 : ∀ x, (cellsFrom 0 scope.names []).lookup x = none → (cellsFrom (h.objs.size + 1) scope.names []).lookup x = none := by
    intro x hx
    have hn := cellsFrom_names scope.names 0 (h.objs.size + 1) [] [] rfl
    cases q : (cellsFrom (h.objs.size + 1) scope.names []).lookup x with
    | none => rfl
    | some c =>
      exfalso
      have hm : x ∈ (cellsFrom 0 scope.names []).map (·.1) := hn ▸ List.mem_map.mpr ⟨_, PySem.mem_of_lookup q, rfl⟩
      obtain ⟨y, hy, rfl⟩ := List.mem_map.mp hm
      rw [List.lookup_eq_none_iff] at hx
      have := hx y hy
      simp at this
  have look : ∀ x c, (cellsFrom (h.objs.size + 1) scope.names (clOf env.cells scope.names [])).lookup x = some c →
      ((cellsFrom (h.objs.size + 1) scope.names []).lookup x = some c ∧ h.objs.size + 1 ≤ c ∧ (pushCells (h.push { cls := .type "dict", data := .dict #[] }) scope.names).IsCell c none) ∨
      (c < h.objs.size ∧ ∃ p ∈ caps, p.1 = x ∧ ∃ v, Rep g v p.2 ∧ h.IsCell c (some v)) := by
    intro x c e
    rw [cellsFrom_append, List.lookup_append] at e
    cases q : (cellsFrom (h.objs.size + 1) scope.names []).lookup x with
    | some c' =>
      rw [q] at e
      have e : c' = c := by simpa using e
      subst e
      have := ok.empty x c' (PySem.mem_of_lookup q)
      exact .inl ⟨rfl, this.2, this.1⟩
    | none =>
      rw [q] at e
      have e : (clOf env.cells scope.names []).lookup x = some c := by simpa using e
      rw [clOf_lookup] at e
      split at e
      · rename_i hm
        obtain ⟨p, hp, rfl⟩ := hfree _ hm rfl
        obtain ⟨v, c', r, hc', hv⟩ := cap p hp
        rw [hc'] at e
        have e : c' = c := by simpa using e
        subst e
        exact .inr ⟨hv.lt, p, hp, rfl, v, r, hv⟩
      · simp at e
  have lookcap : ∀ p ∈ caps, ∃ v c, Rep g v p.2 ∧ (cellsFrom (h.objs.size + 1) scope.names (clOf env.cells scope.names [])).lookup p.1 = some c ∧ h.IsCell c (some v) := by
    intro p hp
    obtain ⟨_, h2, _, h4⟩ := hcap p hp
    obtain ⟨v, c, r, hc, hv⟩ := cap p hp
    refine ⟨v, c, r, ?_, hv⟩
    rw [cellsFrom_append, List.lookup_append, own0 _ h4, clOf_lookup, if_pos (PySem.mem_of_lookup h2), hc]
    rfl
  refine ⟨O.glob, O.blt, hkind, st.trans up, fun b o e => up b o (I b o e), st.none (fresh_none _), off_of_fresh I (fresh_none _), fun x hx => ?_, fun x hx y c e1 e2 => ?_, fun x c e => ?_,
    fun _ => none, fun x => ((cellsFrom (h.objs.size + 1) scope.names (clOf env.cells scope.names [])).lookup x).bind (cellVal (pushCells (h.push { cls := .type "dict", data := .dict #[] }) scope.names)), fun _ => 0,
    (Heap.Ns.new h (.type "dict")).keeps (pushCells_keeps _ _), fun x c e => ?_, fun x pv e => ?_, fun x xs e => ?_, fun x y hx => ?_⟩
  · have hk := hoc x hx
    have hi := cellsFrom_some (x := x) scope.names (h.objs.size + 1) [] (.inl hk)
    obtain ⟨c, hc⟩ := Option.isSome_iff_exists.mp hi
    have hge := (ok.empty x c (PySem.mem_of_lookup hc)).2
    refine ⟨c, ?_, st.none (get_none_ge (by omega)), off_of_fresh I (get_none_ge (by omega)), ?_⟩
    · show (cellsFrom _ _ _).lookup x = some c
      rw [cellsFrom_append, List.lookup_append, hc]; rfl
    · show (relabel scope env).names.lookup x = some .cell
      rw [relabel_eq, relabelS_lookup, hk]; rfl
  · have hk := hoc x hx
    have hi := cellsFrom_some (x := x) scope.names (h.objs.size + 1) [] (.inl hk)
    obtain ⟨c0, hc0⟩ := Option.isSome_iff_exists.mp hi
    have hx0 : (cellsFrom (h.objs.size + 1) scope.names (clOf env.cells scope.names [])).lookup x = some c0 := by rw [cellsFrom_append, List.lookup_append, hc0]; rfl
    have e1' : (cellsFrom (h.objs.size + 1) scope.names (clOf env.cells scope.names [])).lookup x = some c := e1
    have hcc : c0 = c := Option.some.inj (hx0.symm.trans e1')
    have hge : @LE.le Nat _ (h.objs.size + 1) c0 := (ok.empty x c0 (PySem.mem_of_lookup hc0)).2
    rcases look y c e2 with ⟨hy, _, _⟩ | ⟨hlt, _⟩
    · exact name_of_addr ok.apart (PySem.mem_of_lookup hy) (hcc ▸ PySem.mem_of_lookup hc0)
    · have hlt : @LT.lt Nat _ c h.objs.size := hlt
      have hcc : @Eq Nat c0 c := hcc
      omega
  · show c ≠ h.objs.size
    rcases look x c e with ⟨_, hge, _⟩ | ⟨hlt, _⟩
    · exact Nat.ne_of_gt hge
    · exact Nat.ne_of_lt hlt
  · have e' : (cellsFrom (h.objs.size + 1) scope.names (clOf env.cells scope.names [])).lookup x = some c := e
    show Heap.IsCell _ c (((cellsFrom (h.objs.size + 1) scope.names (clOf env.cells scope.names [])).lookup x).bind _)
    rw [e']
    show Heap.IsCell _ c (cellVal _ c)
    rcases look x c e with ⟨_, _, ic⟩ | ⟨_, _, _, _, v, _, ic⟩
    · rw [cellVal_of ic]; exact ic
    · have ic' := ic.keeps up
      rw [cellVal_of ic']; exact ic'
  · have hp := PySem.mem_of_lookup (l := caps) e
    obtain ⟨_, h2, h3, _⟩ := hcap _ hp
    obtain ⟨v, c, r, hc, hv⟩ := lookcap _ hp
    refine ⟨v, r, .inr ⟨?_, ⟨c, hc⟩, ?_⟩⟩
    · show (relabel scope env).names.lookup x = some .cell
      rw [relabel_eq, relabelS_lookup, h2, hs, h3, hsk]; rfl
    · show ((cellsFrom (h.objs.size + 1) scope.names (clOf env.cells scope.names [])).lookup x).bind _ = some v
      have hc' : (cellsFrom (h.objs.size + 1) scope.names (clOf env.cells scope.names [])).lookup x = some c := hc
      rw [hc']
      show cellVal _ c = some v
      exact cellVal_of (hv.keeps up)
  · simp at e
  · simp at hx

/-- a change at foreign objects alone leaves a frame without lists of its own as it stands -/
theorem FSt.except {hC h h' : Heap} {g : Fix} {env : Env} {oc : List Str} {v : Loc} (F : FSt hC g env oc ⟨v, []⟩ h) (X : List Addr) (k : ∀ b o, b ∉ X → h.get? b = some o → h'.get? b = some o)
    (h1 : ∀ b ∈ X, hC.get? b = none) (h2 : ∀ b ∈ X, g b = none) (h3 : env.locals ∉ X) (h4 : ∀ x c, env.cells.lookup x = some c → c ∉ X) : FSt hC g env oc ⟨v, []⟩ h' := by
  obtain ⟨m, cm, la, n, c, vv, o, d⟩ := F.body
  have nX : ∀ (f : Addr → Option Obj), (∀ b ∈ X, f b = none) → ∀ b o, f b = some o → b ∉ X := fun f hf b o e hb => by rw [hf b hb] at e; cases e
  refine ⟨F.glob, F.blt, F.kind, fun b o e => k b o (nX _ h1 b o e) (F.keep b o e), fun b o e => k b o (nX _ h2 b o e) (F.inn b o e), F.lC, F.lg, F.ocC, F.ocA, F.cL, m, cm, la, n.at' fun o e => k _ o h3 e,
    fun x cc e => ?_, vv, fun x xs e => by simp at e, d⟩
  obtain ⟨co, hco, hd⟩ := c x cc e
  exact ⟨co, k _ _ (h4 x cc e) hco, hd⟩
theorem Shown.mono {tt : Bool} {g g' : Fix} {h : Heap} {v : Value} {pv : PV} (x : Shown tt g h v pv) (k : ∀ b o, g b = some o → g' b = some o) : Shown tt g' h v pv := by
  cases tt with
  | false => exact Rep.mono k x
  | true => obtain ⟨xs, T, vs, a, b, c, d⟩ := x; exact ⟨xs, T, vs, a, b, c, d.mono k⟩
theorem Fix.le_put {g : Fix} {a : Addr} {o : Obj} (h : g a = none) : ∀ b x, g b = some x → g.put a o b = some x := fun b x e => by
  have hb : b ≠ a := by rintro rfl; rw [h] at e; cases e
  simp [Fix.put, hb, e]
theorem Step.freeze {g gi : Fix} {h h₁ : Heap} {D : Addr} {o : Obj} (st : Step g h gi h₁) (h1 : h.get? D = none) (h2 : gi D = none) (h3 : h₁.get? D = some o) : Step g h (gi.put D o) h₁ := by
  refine ⟨st.stays, fun b x e => Fix.le_put h2 b x (st.le b x e), fun b x e => ?_, fun b x e => ?_⟩
  · by_cases hb : b = D
    · subst hb; simp [Fix.put] at e; subst e; exact h3
    · simp [Fix.put, hb] at e; exact st.inn _ _ e
  · by_cases hb : b = D
    · subst hb; exact .inr h1
    · simp [Fix.put, hb] at e; exact st.new _ _ e

section
variable {w : World} {A : Around} {R : Result → Shared → Prop} {s : Shared}
end

end Mine
end

section
open PySem PySem.W PySem.Calls PyProof.Rows
namespace Mine

/-! ## a part of a heap -/
open Classical in
noncomputable def only (h : Heap) (p : Addr → Prop) : Heap := hideAll h (List.filter (α := Nat) (fun b => if p b then false else true) (List.range h.objs.size))
theorem only_some {h : Heap} {p : Addr → Prop} {b : Addr} {o : Obj} (e : (only h p).get? b = some o) : p b ∧ h.get? b = some o := by
  have e' := of_hideAll _ e
  refine ⟨Classical.byContradiction fun hp => ?_, e'⟩
  unfold only at e
  rw [hideAll_none _ (List.mem_filter.mpr ⟨List.mem_range.mpr (Heap.lt_size e'), by simp [hp]⟩)] at e
  cases e
theorem only_get {h : Heap} {p : Addr → Prop} {b : Addr} {o : Obj} (hp : p b) (e : h.get? b = some o) : (only h p).get? b = some o := by
  refine hideAll_get _ e fun hm => ?_
  have := (List.mem_filter.mp hm).2
  simp [hp] at this
theorem only_none {h : Heap} {p : Addr → Prop} {b : Addr} (hp : ¬ p b) : (only h p).get? b = none := by
  cases q : (only h p).get? b with
  | none => rfl
  | some o => exact absurd (only_some q).1 hp
theorem only_le {h : Heap} {p : Addr → Prop} : Stays (only h p) h := fun _ _ e => (only_some e).2

/-! ## what may be added to what stands fixed, seen from a heap -/
noncomputable def GStep (hC : Heap) (g g' : Fix) : Prop := (∀ b o, g b = some o → g' b = some o) ∧ ∀ b o, g' b = some o → g b = some o ∨ hC.get? b = none
theorem GStep.refl {hC : Heap} {g : Fix} : GStep hC g g := ⟨fun _ _ e => e, fun _ _ e => .inl e⟩
theorem GStep.trans {hC : Heap} {g g₁ g₂ : Fix} (x : GStep hC g g₁) (y : GStep hC g₁ g₂) : GStep hC g g₂ :=
  ⟨fun b o e => y.1 b o (x.1 b o e), fun b o e => (y.2 b o e).elim (x.2 b o) .inr⟩
theorem GStep.weak {hC hP : Heap} {g g' : Fix} (x : GStep hP g g') (k : Stays hC hP) : GStep hC g g' := ⟨x.1, fun b o e => (x.2 b o e).imp id fun q => Stays.none k q⟩
theorem Step.gstep {hC h h' : Heap} {g g' : Fix} (st : Step g h g' h') (k : Stays hC h) : GStep hC g g' := ⟨st.le, fun b o e => (st.new b o e).imp id fun q => Stays.none k q⟩
theorem GStep.off {hC : Heap} {g g' : Fix} {b : Addr} {o : Obj} (x : GStep hC g g') (h1 : g b = none) (h2 : hC.get? b = some o) : g' b = none := by
  cases q : g' b with
  | none => rfl
  | some u => rcases x.2 b u q with e | e
              · rw [h1] at e; cases e
              · rw [h2] at e; cases e

section
variable {hC hP h h₀ : Heap} {g : Fix} {env : Env} {oc : List Str} {σ : St}

theorem FSt.weak (F : FSt hP g env oc σ h) (k : Stays hC hP) : FSt hC g env oc σ h := by
  obtain ⟨m, cm, la, n, c, v, o, d⟩ := F.body
  exact ⟨F.glob, F.blt, F.kind, k.trans F.keep, F.inn, k.none F.lC, F.lg, fun x hx => let ⟨cc, h1, h2, h3, h4⟩ := F.ocC x hx; ⟨cc, h1, k.none h2, h3, h4⟩, F.ocA, F.cL, m, cm, la, n, c, v,
    fun x xs e => let O := o x xs e; ⟨O.kind, O.val, O.list, O.offg, k.none O.offC, O.neL, O.neC⟩, d⟩

theorem FSt.sub {σ' : St} (F : FSt hC g env oc σ h) (hv : ∀ x pv, σ'.v.lookup x = some pv → σ.v.lookup x = some pv) (ho : ∀ x xs, σ'.o.lookup x = some xs → σ.o.lookup x = some xs) : FSt hC g env oc σ' h := by
  obtain ⟨m, cm, la, n, c, v, o, d⟩ := F.body
  refine ⟨F.glob, F.blt, F.kind, F.keep, F.inn, F.lC, F.lg, F.ocC, F.ocA, F.cL, m, cm, la, n, c, fun x pv e => v x pv (hv x pv e), fun x xs e => o x xs (ho x xs e), fun x y hx hy => d x y ?_ ?_⟩
  · obtain ⟨xs, e⟩ := Option.isSome_iff_exists.mp hx; rw [ho x xs e]; rfl
  · obtain ⟨xs, e⟩ := Option.isSome_iff_exists.mp hy; rw [ho y xs e]; rfl

/-- more of the heap is taken as foreign -/
theorem FSt.grow {g₀ : Fix} (F : FSt hC g₀ env oc σ h₀) (st : Step g₀ h₀ g h) (X : Addr → Prop) (hX : ∀ b, X b → h₀.get? b = none ∨ ∃ o, g b = some o) :
    FSt (only h fun b => (∃ o, hC.get? b = some o) ∨ X b) g env oc σ h := by
  have F' := F.step st
  obtain ⟨m₀, cm₀, la₀, n₀, c₀, v₀, o₀, d₀⟩ := F.body
  obtain ⟨m, cm, la, n, c, v, o, d⟩ := F'.body
  have nn : ∀ b u, h₀.get? b = some u → hC.get? b = none → g b = none → (only h fun b => (∃ o, hC.get? b = some o) ∨ X b).get? b = none := by
    intro b u e1 e2 e3
    refine only_none ?_
    rintro (⟨q, e⟩ | e)
    · rw [e2] at e; cases e
    · rcases hX b e with e | ⟨q, e⟩
      · rw [e1] at e; cases e
      · rw [e3] at e; cases e
  obtain ⟨ol, hol⟩ := Ns.some n₀
  refine ⟨F.glob, F.blt, F.kind, only_le, F'.inn, nn _ _ hol F.lC F'.lg, F'.lg, fun x hx => ?_, F.ocA, F.cL, ?_⟩
  · obtain ⟨cc, h1, h2, h3, h4⟩ := F.ocC x hx
    obtain ⟨cc', h1', h2', h3', _⟩ := F'.ocC x hx
    rw [h1] at h1'; cases h1'
    obtain ⟨co, hco, _⟩ := c₀ x cc h1
    exact ⟨cc, h1, nn _ _ hco h2 h3', h3', h4⟩
  · refine ⟨m₀, cm₀, la₀, n₀.keeps st.stays, fun x cc e => (c₀ x cc e).keeps st.stays, fun x pv e => let ⟨u, r, q⟩ := v₀ x pv e; ⟨u, r.mono st.le, q⟩, fun x xs e => ?_, d₀⟩
    have O := o₀ x xs e
    obtain ⟨vs, ⟨k, hp⟩, r⟩ := O.list
    have off := st.off O.offg hp
    exact ⟨O.kind, O.val, ⟨vs, ⟨k, st.stays _ _ hp⟩, r.mono st.le⟩, off, nn _ _ hp O.offC off, O.neL, O.neC⟩
end

/-- a list that this frame alone holds stands fixed from here on -/
theorem FSt.freeze {hC h : Heap} {g : Fix} {env : Env} {oc : List Str} {σ : St} (F : FSt hC g env oc σ h) {x : Str} {xs : List PV} (hx : σ.o.lookup x = some xs) :
    ∃ l o, g l = none ∧ hC.get? l = none ∧ h.get? l = some o ∧ o.cls = .type "list" ∧ FSt hC (g.put l o) env oc (σ.setV x (.lst xs)) h := by
  obtain ⟨m, cm, la, n, c, v, o, d⟩ := F.body
  have O := o x xs hx
  obtain ⟨vs, ⟨k, hp⟩, r⟩ := O.list
  have ne : ∀ b, g b = none → b ≠ la x → (g.put (la x) { cls := .type "list", data := .seq vs.toArray k }) b = none := fun b e hb => by simp [Fix.put, hb, e]
  have le := Fix.le_put (o := { cls := .type "list", data := .seq vs.toArray k }) O.offg
  refine ⟨la x, _, O.offg, O.offC, hp, rfl, F.glob, F.blt, F.kind, F.keep, fun b q e => ?_, F.lC, ne _ F.lg (Ne.symm O.neL), fun y hy => ?_, F.ocA, F.cL, m, cm, la, n, c, fun y pv e => ?_, fun y ys e => ?_, fun y z hy hz => ?_⟩
  · by_cases hb : b = la x
    · subst hb; simp [Fix.put] at e; subst e; exact hp
    · simp [Fix.put, hb] at e; exact F.inn _ _ e
  · obtain ⟨cc, h1, h2, h3, h4⟩ := F.ocC y hy
    exact ⟨cc, h1, h2, ne _ h3 (O.neC y cc h1), h4⟩
  · simp only [St.setV, lookup_putL] at e
    by_cases hyx : y = x
    · subst hyx
      simp only [if_true] at e
      cases e
      exact ⟨.ref (la y), Rep.ofLst Fix.put_self rfl rfl (r.mono le), .inl ⟨O.kind, O.val⟩⟩
    · rw [if_neg hyx] at e
      obtain ⟨u, ru, q⟩ := v y pv e
      exact ⟨u, ru.mono le, q⟩
  · simp only [St.setV, lookup_delL] at e
    by_cases hyx : y = x
    · rw [if_pos hyx] at e; cases e
    · rw [if_neg hyx] at e
      have O' := o y ys e
      obtain ⟨us, hp', r'⟩ := O'.list
      have : la y ≠ la x := fun q => hyx (d y x (by rw [e]; rfl) (by rw [hx]; rfl) q)
      exact ⟨O'.kind, O'.val, ⟨us, hp', r'.mono le⟩, ne _ O'.offg this, O'.offC, O'.neL, O'.neC⟩
  · simp only [St.setV, lookup_delL] at hy hz
    by_cases hyx : y = x
    · rw [if_pos hyx] at hy; cases hy
    · by_cases hzx : z = x
      · rw [if_pos hzx] at hz; cases hz
      · rw [if_neg hyx] at hy; rw [if_neg hzx] at hz; exact d y z hy hz

/-! ### values without lists -/
mutual
noncomputable def noLst : PV → Bool
  | .lst _ => false
  | .tup xs => noLsts xs
  | _ => true
noncomputable def noLsts : List PV → Bool
  | [] => true
  | x :: xs => noLst x && noLsts xs
end
noncomputable def Fix.but (g : Fix) (l : Addr) : Fix := fun b => if b = l then none else g b
mutual
theorem Rep.thaw {g : Fix} {l : Addr} {o : Obj} (hl : g l = some o) (hc : o.cls = .type "list") {v : Value} : ∀ {x : PV}, noLst x = true → Rep g v x → Rep (g.but l) v x
  | .int _, _, h => by simp only [Rep] at h ⊢; exact h
  | .flt _, _, h => by simp only [Rep] at h ⊢; exact h
  | .bool _, _, h => by simp only [Rep] at h ⊢; exact h
  | .none, _, h => by simp only [Rep] at h ⊢; exact h
  | .fn _, _, h => by simp only [Rep] at h ⊢; exact h
  | .bi _, _, h => by simp only [Rep] at h ⊢; exact h
  | .ty _, _, h => by simp only [Rep] at h ⊢; exact h
  | .tup xs, hn, h => by
    simp only [Rep] at h ⊢
    obtain ⟨a, q, vs, n, e, ho, hq, hd, hr⟩ := h
    have : a ≠ l := by
      rintro rfl
      rw [ho] at hl; cases hl
      rw [hc] at hq; simp at hq
    exact ⟨a, q, vs, n, e, by simp [Fix.but, this, ho], hq, hd, RepL.thaw hl hc (by simpa only [noLst] using hn) hr⟩
  | .lst _, hn, _ => by simp only [noLst] at hn; cases hn
theorem RepL.thaw {g : Fix} {l : Addr} {o : Obj} (hl : g l = some o) (hc : o.cls = .type "list") {vs : List Value} : ∀ {xs : List PV}, noLsts xs = true → RepL g vs xs → RepL (g.but l) vs xs
  | [], _, h => by simp only [RepL] at h ⊢; exact h
  | x :: xs, hn, h => by
    simp only [RepL] at h ⊢
    simp only [noLsts, Bool.and_eq_true] at hn
    obtain ⟨v, r, e, h1, h2⟩ := h
    exact ⟨v, r, e, Rep.thaw hl hc hn.1 h1, RepL.thaw hl hc hn.2 h2⟩
end

/-! ## evaluation in a frame that holds lists of its own -/
noncomputable def EvS (k : Nat) (sc : Scope) (oc : List Str) (σ : St) (e : Expr) (pv : PV) : Prop :=
  ∀ (w : World) (A : Around) (env : Env) (hC : Heap) (g : Fix) (s : Shared) (Q : Value → Shared → Prop), Good k A → env.scope = sc → Based w s.heap → FSt hC g env oc σ s.heap →
    (∀ v g' h' tk, Step g s.heap g' h' → Rep g' v pv → Q v { s with heap := h', toks := tk }) → W w A (eval e env) Q s
theorem Ev.s {k : Nat} {sc : Scope} {oc : List Str} {σ : St} {e : Expr} {pv : PV} (h : Ev k sc σ.v e pv) : EvS k sc oc σ e pv :=
  fun w A env _ g s Q G hs B F hQ => h w A env g s Q G hs B F.inn F.env hQ
theorem EvS.read {k : Nat} {sc : Scope} {oc : List Str} {σ : St} {e : Expr} {pv : PV} {x : Str} {xs : List PV} (hx : σ.o.lookup x = some xs) (hn : noLst pv = true)
    (h : Ev k sc (putL' x (.lst xs) σ.v) e pv) : EvS k sc oc σ e pv := by
  intro w A env hC g s Q G hs B F hQ
  obtain ⟨l, o, h1, h2, h3, h4, F'⟩ := F.freeze hx
  refine h w A env (g.put l o) s Q G hs B F'.inn F'.env fun v g' h' tk st r => ?_
  have hl : g' l = some o := st.le _ _ Fix.put_self
  refine hQ v (g'.but l) h' tk ⟨st.stays, fun b u e => ?_, fun b u e => ?_, fun b u e => ?_⟩ (r.thaw hl h4 hn)
  · have hb : b ≠ l := by rintro rfl; rw [h1] at e; cases e
    have := st.le b u (by simp [Fix.put, hb, e])
    simp [Fix.but, hb, this]
  · by_cases hb : b = l
    · simp [Fix.but, hb] at e
    · simp [Fix.but, hb] at e; exact st.inn _ _ e
  · by_cases hb : b = l
    · simp [Fix.but, hb] at e
    · simp [Fix.but, hb] at e
      rcases st.new b u e with e | e
      · simp [Fix.put, hb] at e; exact .inl e
      · exact .inr e
noncomputable def TstS (k : Nat) (sc : Scope) (oc : List Str) (σ : St) (e : Expr) (c : Bool) : Prop :=
  ∀ (w : World) (A : Around) (env : Env) (hC : Heap) (g : Fix) (s : Shared) (Q : Bool → Shared → Prop), Good k A → env.scope = sc → Based w s.heap → FSt hC g env oc σ s.heap →
    (∀ g' h' tk, Step g s.heap g' h' → Q c { s with heap := h', toks := tk }) → W w A (isTrue e env (eval e env)) Q s
theorem Tst.s {k : Nat} {sc : Scope} {oc : List Str} {σ : St} {e : Expr} {c : Bool} (h : Tst k sc σ.v e c) : TstS k sc oc σ e c :=
  fun w A env _ g s Q G hs B F hQ => h w A env g s Q G hs B F.inn F.env hQ

/-! ## statements -/
inductive Fl where
  | next
  | ret (pv : PV)
noncomputable def FlOk (g : Fix) : Fl → Flow → Prop
  | .next, f => f = .next
  | .ret pv, f => ∃ v, f = .ret v ∧ Rep g v pv

noncomputable def Ex (k : Nat) (sc : Scope) (oc : List Str) (σ : St) (st : Stmt) (fl : Fl) (σ' : St) : Prop :=
  ∀ (w : World) (A : Around) (env : Env) (hC : Heap) (g : Fix) (s : Shared) (Q : Flow → Shared → Prop), Good k A → env.scope = sc → Based w hC → FSt hC g env oc σ s.heap →
    (∀ f g' h' tk, FlOk g' fl f → GStep hC g g' → FSt hC g' env oc σ' h' → Q f { s with heap := h', toks := tk }) → W w A (exec st env) Q s
noncomputable def Exs (k : Nat) (sc : Scope) (oc : List Str) (σ : St) (body : List Stmt) (fl : Fl) (σ' : St) : Prop :=
  ∀ (w : World) (A : Around) (env : Env) (hC : Heap) (g : Fix) (s : Shared) (Q : Flow → Shared → Prop), Good k A → env.scope = sc → Based w hC → FSt hC g env oc σ s.heap →
    (∀ f g' h' tk, FlOk g' fl f → GStep hC g g' → FSt hC g' env oc σ' h' → Q f { s with heap := h', toks := tk }) → W w A (execs body env) Q s

section
variable {k : Nat} {sc : Scope} {oc : List Str} {σ σ₁ σ₂ : St}
theorem Exs.nil : Exs k sc oc σ [] .next σ := fun _ _ _ _ g s _ _ _ _ F hQ => wpAny_execs_nil (hQ .next g s.heap s.toks rfl .refl F)
theorem Exs.cons {st : Stmt} {rest : List Stmt} {fl : Fl} (h : Ex k sc oc σ st .next σ₁) (h2 : Exs k sc oc σ₁ rest fl σ₂) : Exs k sc oc σ (st :: rest) fl σ₂ := by
  intro w A env hC g s Q G hs B F hQ
  refine wpAny_execs_cons (h w A env hC g s _ G hs B F fun f g₁ h₁ t₁ hf gs F₁ => ?_)
  have hf : f = .next := hf
  subst hf
  exact h2 w A env hC g₁ _ _ G hs B F₁ fun f g₂ h₂ t₂ hf gs₂ F₂ => hQ f g₂ h₂ t₂ hf (gs.trans gs₂) F₂
theorem Exs.last {st : Stmt} {rest : List Stmt} {pv : PV} (h : Ex k sc oc σ st (.ret pv) σ₁) : Exs k sc oc σ (st :: rest) (.ret pv) σ₁ := by
  intro w A env hC g s Q G hs B F hQ
  refine wpAny_execs_cons (h w A env hC g s _ G hs B F fun f g₁ h₁ t₁ hf gs F₁ => ?_)
  have hf' := hf
  obtain ⟨v, rfl, r⟩ := hf'
  exact hQ _ g₁ h₁ t₁ hf gs F₁
theorem Exs.sub {body : List Stmt} {fl : Fl} (h : Exs k sc oc σ body fl σ₁) (hv : ∀ x pv, σ₂.v.lookup x = some pv → σ₁.v.lookup x = some pv) (ho : ∀ x xs, σ₂.o.lookup x = some xs → σ₁.o.lookup x = some xs) : Exs k sc oc σ body fl σ₂ :=
  fun w A env hC g s Q G hs B F hQ => h w A env hC g s Q G hs B F fun f g' h' tk a b c => hQ f g' h' tk a b (c.sub hv ho)
theorem Exs.pre {body : List Stmt} {fl : Fl} (h : Exs k sc oc σ₁ body fl σ₂) (hv : ∀ x pv, σ₁.v.lookup x = some pv → σ.v.lookup x = some pv) (ho : ∀ x xs, σ₁.o.lookup x = some xs → σ.o.lookup x = some xs) : Exs k sc oc σ body fl σ₂ :=
  fun w A env hC g s Q G hs B F hQ => h w A env hC g s Q G hs B (F.sub hv ho) hQ
/-- a list of its own stands fixed from here on -/
theorem Exs.freeze {x : Str} {xs : List PV} {body : List Stmt} {fl : Fl} (hx : σ.o.lookup x = some xs) (h : Exs k sc oc (σ.setV x (.lst xs)) body fl σ₂) : Exs k sc oc σ body fl σ₂ := by
  intro w A env hC g s Q G hs B F hQ
  obtain ⟨l, o, h1, h2, h3, h4, F'⟩ := F.freeze hx
  have gs : GStep hC g (g.put l o) := ⟨Fix.le_put h1, fun b u e => by
    by_cases hb : b = l
    · subst hb; exact .inr h2
    · simp [Fix.put, hb] at e; exact .inl e⟩
  exact h w A env hC _ s Q G hs B F' fun f g' h' tk a b c => hQ f g' h' tk a (gs.trans b) c

theorem Ex.assign {x : Str} {p pos : Pos} {e : Expr} {pv : PV} (he : EvS k sc oc σ e pv) (hx : sc.names.lookup x = some .local ∨ x ∈ oc)
    (hs : ∀ env, swapsWith e (some (.Name x p)) pos.line env = pure false := by intro _; rfl) : Ex k sc oc σ (.Assign [.Name x p] e pos) .next (σ.setV x pv) := by
  intro w A env hC g s Q G hsc B F hQ
  refine wpAny_Assign_Name (he w A env hC g s _ G hsc (B.keeps F.keep) F fun v g₁ h₁ t₁ s₁ r₁ => ?_) (hs env)
  exact (F.step s₁).store (hx.imp (fun e => by unfold Env.kindOf; rw [hsc]; exact e) id) r₁ fun h₂ t₂ F₂ _ => hQ _ g₁ h₂ t₂ rfl (s₁.gstep F.keep) F₂
theorem Ex.assignT {es : List Expr} {n : Nat} {p pos : Pos} {e : Expr} {pv : PV} {xs : List PV} (he : EvS k sc oc σ e pv) (hp : pv = .tup xs ∨ pv = .lst xs) (ha : AsgN sc oc es xs σ σ₁)
    (hs : ∀ env, swapsWithSole [.Tuple es n p] e pos.line env = pure false := by intro _; rfl) (hw : ∀ env, swappedStores [.Tuple es n p] e env = pure none := by intro _; rfl) :
    Ex k sc oc σ (.Assign [.Tuple es n p] e pos) .next σ₁ := by
  intro w A env hC g s Q G hsc B F hQ
  refine Assign_Tuple (he w A env hC g s _ G hsc (B.keeps F.keep) F fun v g₁ h₁ t₁ s₁ r₁ => ?_) (hs env) (hw env)
  refine (Asg.tup hp ha) w A env hC g₁ _ _ v G.hh hsc (F.step s₁) (Shown.ofRep r₁ s₁.inn hp) fun h₂ t₂ F₂ _ => hQ _ g₁ h₂ t₂ rfl (s₁.gstep F.keep) F₂
theorem Ex.ret {e : Expr} {pos : Pos} {pv : PV} (he : EvS k sc oc σ e pv) : Ex k sc oc σ (.Return (some e) pos) (.ret pv) σ := by
  intro w A env hC g s Q G hsc B F hQ
  exact wpAny_Return_some (he w A env hC g s _ G hsc (B.keeps F.keep) F fun v g₁ h₁ t₁ s₁ r₁ => hQ _ g₁ h₁ t₁ ⟨v, rfl, r₁⟩ (s₁.gstep F.keep) (F.step s₁))
theorem Ex.ifs {t : Expr} {b o : List Stmt} {pos : Pos} {c : Bool} {fl : Fl} (ht : TstS k sc oc σ t c) (hb : c = true → Exs k sc oc σ b fl σ₁) (ho : c = false → Exs k sc oc σ o fl σ₁) : Ex k sc oc σ (.If t b o pos) fl σ₁ := by
  intro w A env hC g s Q G hsc B F hQ
  refine wpAny_If (ht w A env hC g s _ G hsc (B.keeps F.keep) F fun g₁ h₁ t₁ s₁ => ?_)
  have gs := s₁.gstep F.keep
  cases c with
  | true => exact hb rfl w A env hC g₁ _ _ G hsc B (F.step s₁) fun f g₂ h₂ t₂ a b c => hQ f g₂ h₂ t₂ a (gs.trans b) c
  | false => exact ho rfl w A env hC g₁ _ _ G hsc B (F.step s₁) fun f g₂ h₂ t₂ a b c => hQ f g₂ h₂ t₂ a (gs.trans b) c
theorem Ex.augI {x : Str} {p pos : Pos} {e : Expr} {a b : Int} (hx : σ.v.lookup x = some (.int a)) (hl : sc.names.lookup x = some .local) (he : EvS k sc oc σ e (.int b)) :
    Ex k sc oc σ (.AugAssign (.Name x p) .Add e pos) .next (σ.setV x (.int (a + b))) := by
  intro w A env hC g s Q G hsc B F hQ
  obtain ⟨m, n, f⟩ := F.env.vals
  obtain ⟨v, r, q⟩ := f x _ hx
  have hkl : env.kindOf x = some .local := by unfold Env.kindOf; rw [hsc]; exact hl
  rcases q with ⟨_, hm⟩ | ⟨hl', _⟩
  · refine wpAny_AugAssign_Name (wpAny_loadName_local F.kind hkl n hm ?_)
    refine he w A env hC g s _ G hsc (B.keeps F.keep) F fun u g₁ h₁ t₁ s₁ r₁ => ?_
    obtain ⟨tv, rfl⟩ := r.int
    obtain ⟨tu, rfl⟩ := r₁.int
    refine AutoIntOps.iadd_0 ?_
    exact (F.step s₁).store (.inl hkl) Rep.ofInt fun h₂ t₂ F₂ _ => hQ _ g₁ h₂ t₂ rfl (s₁.gstep F.keep) F₂
  · rw [hkl] at hl'; cases hl'
end
end Mine
end

section
open PySem PySem.W PySem.Calls PyProof.Rows
namespace Mine

section
variable {hC hP h : Heap} {g : Fix} {env : Env} {oc : List Str} {σ : St}

/-- a list that this frame alone holds: where it lies, and what a change at it leaves -/
theorem FSt.mutK (F : FSt hC g env oc σ h) {x : Str} {xs : List PV} (hx : σ.o.lookup x = some xs) :
    ∃ l vs, hC.get? l = none ∧ g l = none ∧ h.PlainList l vs.toArray ∧ RepL g vs xs ∧ env.kindOf x = some .local ∧ (∃ m, h.Ns env.locals m ∧ m x = some (.ref l)) ∧
      ∀ (g' : Fix) (h' : Heap) (us : List Value) (ys : List PV), (∀ b o, b ≠ l → h.get? b = some o → h'.get? b = some o) → (∀ b o, g b = some o → g' b = some o) → g'.In h' → (∀ b o, g' b = some o → g b = some o ∨ h.get? b = none) →
        h'.PlainList l us.toArray → RepL g' us ys → FSt hC g' env oc ⟨σ.v, putL' x ys σ.o⟩ h' := by
  obtain ⟨m, cm, la, n, c, v, o, d⟩ := F.body
  have O := o x xs hx
  obtain ⟨vs, hp, r⟩ := O.list
  refine ⟨la x, vs, O.offC, O.offg, hp, r, O.kind, ⟨m, n, O.val⟩, fun g' h' us ys hk hle hin hnew hp' r' => ?_⟩
  have hlx : ∃ u, h.get? (la x) = some u := let ⟨q, e⟩ := hp; ⟨_, e⟩
  have off : ∀ b, g b = none → (∃ u, h.get? b = some u) → g' b = none := by
    rintro b e ⟨u, hu⟩
    cases q : g' b with
    | none => rfl
    | some y => rcases hnew b y q with e' | e'
                · rw [e] at e'; cases e'
                · rw [hu] at e'; cases e'
  have nC : ∀ b o, hC.get? b = some o → b ≠ la x := fun b o e q => by rw [q, O.offC] at e; cases e
  refine ⟨F.glob, F.blt, F.kind, fun b u e => hk b u (nC b u e) (F.keep b u e), hin, F.lC, off _ F.lg (Ns.some n), fun y hy => ?_, F.ocA, F.cL, m, cm, la, n.at' fun u e => hk _ u (Ne.symm O.neL) e,
    fun y cc e => ?_, fun y pv e => ?_, fun y zs e => ?_, fun y z hy hz => ?_⟩
  · obtain ⟨cc, h1, h2, h3, h4⟩ := F.ocC y hy
    obtain ⟨co, hco, _⟩ := c y cc h1
    exact ⟨cc, h1, h2, off _ h3 ⟨_, hco⟩, h4⟩
  · obtain ⟨co, hco, hd⟩ := c y cc e
    exact ⟨co, hk _ _ (O.neC y cc e) hco, hd⟩
  · obtain ⟨u, ru, q⟩ := v y pv e
    exact ⟨u, ru.mono hle, q⟩
  · simp only [lookup_putL] at e
    by_cases hyx : y = x
    · subst hyx
      simp only [if_true] at e
      cases e
      exact ⟨O.kind, O.val, ⟨us, hp', r'⟩, off _ O.offg hlx, O.offC, O.neL, O.neC⟩
    · rw [if_neg hyx] at e
      have O' := o y zs e
      obtain ⟨ws, ⟨q, hq⟩, rr⟩ := O'.list
      have hne : la y ≠ la x := fun q => hyx (d y x (by rw [e]; rfl) (by rw [hx]; rfl) q)
      exact ⟨O'.kind, O'.val, ⟨ws, ⟨q, hk _ _ hne hq⟩, rr.mono hle⟩, off _ O'.offg ⟨_, hq⟩, O'.offC, O'.neL, O'.neC⟩
  · have iso : ∀ y, ((putL' x ys σ.o).lookup y).isSome = true → (σ.o.lookup y).isSome = true := fun y hy => by
      simp only [lookup_putL] at hy
      by_cases hyx : y = x
      · rw [hyx, hx]; rfl
      · rwa [if_neg hyx] at hy
    exact d y z (iso y hy) (iso z hz)

theorem FSt.mut (F : FSt hC g env oc σ h) {x : Str} {xs : List PV} (hx : σ.o.lookup x = some xs) :
    ∃ l vs, hC.get? l = none ∧ g l = none ∧ h.PlainList l vs.toArray ∧ RepL g vs xs ∧ env.kindOf x = some .local ∧ (∃ m, h.Ns env.locals m ∧ m x = some (.ref l)) ∧
      ∀ (g' : Fix) (h' : Heap) (us : List Value) (ys : List PV), (∀ b o, b ≠ l → h.get? b = some o → h'.get? b = some o) → (∀ b o, g b = some o → g' b = some o) → g'.In h' → (∀ b o, g' b = some o → g b = some o ∨ h.get? b = none) →
        h'.PlainList l us.toArray → RepL g' us ys → FSt hC g' env oc (σ.setO x ys) h' := by
  obtain ⟨l, vs, a, b, c, d, e, f, q⟩ := F.mutK hx
  exact ⟨l, vs, a, b, c, d, e, f, fun g' h' us ys p1 p2 p3 p4 p5 p6 => (q g' h' us ys p1 p2 p3 p4 p5 p6).sub (fun y pv e => by
    simp only [St.setO, lookup_delL] at e
    by_cases hyx : y = x
    · rw [if_pos hyx] at e; cases e
    · rwa [if_neg hyx] at e) fun _ _ e => e⟩

/-- a new list is laid down at a name, and is held by this frame alone from here on -/
theorem FSt.storeO {w : World} {A : Around} {s : Shared} {x : Str} {l : Addr} {vs : List Value} {xs : List PV} {Q : Unit → Shared → Prop} (F : FSt hP g env oc σ s.heap) (hx : env.kindOf x = some .local) (hs : Stays hC hP)
    (hl : hC.get? l = none) (hp : hP.PlainList l vs.toArray) (r : RepL g vs xs) (hg : g l = none) (hc : ∀ y c, env.cells.lookup y = some c → c ≠ l)
    (hQ : ∀ h' tk, FSt hC g env oc (σ.setO x xs) h' → Q () { s with heap := h', toks := tk }) : W w A (storeName env x (.ref l)) Q s := by
  have F' := F.weak hs
  obtain ⟨m, cm, la, n, c, v, o, d⟩ := F.body
  obtain ⟨q, hq⟩ := hp
  have hlL : l ≠ env.locals := fun e => by rw [e, F.lC] at hq; cases hq
  refine wpAny_storeName_local hx n (fun h' n' sb => ?_) (by rw [F.kind]; rfl)
  have nC : ∀ b o, hP.get? b = some o → b ≠ env.locals := fun b o e q => by subst q; rw [F.lC] at e; cases e
  have nG : ∀ b o, g b = some o → b ≠ env.locals := fun b o e q => by subst q; rw [F.lg] at e; cases e
  have hkp : ∀ b o, hP.get? b = some o → h'.get? b = some o := fun b o e => (sb.2 b (nC b o e)).trans (F.keep b o e)
  refine hQ h' _ ⟨F.glob, F.blt, F.kind, hs.trans hkp, fun b o e => (sb.2 b (nG b o e)).trans (F.inn b o e), F'.lC, F.lg, F'.ocC, F.ocA, F.cL, _, cm, (fun y => if y = x then l else la y), n',
    fun y cc e => (c y cc e).sameBut sb (F.cL y cc e), fun y p e => ?_, fun y ys e => ?_, fun y z hy hz => ?_⟩
  · simp only [St.setO, lookup_delL] at e
    by_cases hyx : y = x
    · rw [if_pos hyx] at e; cases e
    · rw [if_neg hyx] at e
      obtain ⟨u, ru, q⟩ := v y p e
      exact ⟨u, ru, q.imp (fun ⟨a, b⟩ => ⟨a, by simp [hyx, b]⟩) id⟩
  · simp only [St.setO, lookup_putL] at e
    by_cases hyx : y = x
    · subst hyx
      simp only [if_true] at e
      cases e
      refine ⟨hx, by simp, ⟨vs, ?_, r⟩, ?_, ?_, ?_, ?_⟩
      · simp only [if_true]; exact ⟨q, hkp _ _ hq⟩
      · simp only [if_true]; exact hg
      · simp only [if_true]; exact hl
      · simp only [if_true]; exact hlL
      · simp only [if_true]; exact hc
    · rw [if_neg hyx] at e
      have O := o y ys e
      obtain ⟨ws, ⟨k, hk⟩, rr⟩ := O.list
      refine ⟨O.kind, by simp [hyx, O.val], ⟨ws, ?_, rr⟩, ?_, ?_, ?_, ?_⟩
      · simp only [if_neg hyx]; exact ⟨k, (sb.2 _ O.neL).trans hk⟩
      · simp only [if_neg hyx]; exact O.offg
      · simp only [if_neg hyx]; exact Stays.none hs O.offC
      · simp only [if_neg hyx]; exact O.neL
      · simp only [if_neg hyx]; exact O.neC
  · simp only [St.setO, lookup_putL] at hy hz
    have nl : ∀ y, y ≠ x → (σ.o.lookup y).isSome = true → la y ≠ l := by
      intro y _ hy e
      obtain ⟨ys, e'⟩ := Option.isSome_iff_exists.mp hy
      have := (o y ys e').offC
      rw [e, hq] at this; cases this
    intro e
    by_cases hyx : y = x <;> by_cases hzx : z = x
    · rw [hyx, hzx]
    · simp only [if_pos hyx, if_neg hzx] at e hz
      exact absurd e.symm (nl z hzx hz)
    · simp only [if_pos hzx, if_neg hyx] at e hy
      exact absurd e (nl y hyx hy)
    · simp only [if_neg hyx, if_neg hzx] at e hy hz
      exact d y z hy hz e
theorem FSt.cellOld (F : FSt hC g env oc σ h) {l : Addr} (hl : h.get? l = none) : ∀ y c, env.cells.lookup y = some c → c ≠ l := by
  obtain ⟨m, cm, la, n, c, v, o, d⟩ := F.body
  rintro y cc e rfl
  obtain ⟨co, hco, _⟩ := c y cc e
  rw [hl] at hco; cases hco
end

section
variable {k : Nat} {sc : Scope} {oc : List Str} {σ σ₁ σ₂ : St}

/-- a list display: a new list -/
theorem listDisp {w : World} {A : Around} {env : Env} {g : Fix} {s : Shared} {ρ : Loc} {es : List Expr} {pos : Pos} {xs : List PV} {Q : Value → Shared → Prop} (G : Good k A) (hs : env.scope = sc) (B : Based w s.heap) (I : g.In s.heap) (O : EnvOk s.heap g env ρ)
    (h : EvL k sc ρ es xs) (hsz : xs.length ≤ 1000) (hQ : ∀ l vs g' h' tk, Step g s.heap g' h' → s.heap.get? l = none → g' l = none → h'.PlainList l vs.toArray → RepL g' vs xs → Q (.ref l) { s with heap := h', toks := tk }) : W w A (eval (.List es pos) env) Q s := by
  refine List_ (h w A env g s _ pos G hs B I O fun vs g₁ h₁ t₁ s₁ r₁ => ?_)
  refine wpAny_newObj_type (hQ h₁.objs.size vs g₁ _ t₁ (s₁.trans (Step.keep s₁.inn fun b o e => Heap.get?_push_of_some _ e)) (s₁.stays.none (fresh_none _)) (off_of_fresh s₁.inn (fresh_none _)) ⟨_, Heap.get?_push_size _ rfl⟩ r₁) ?_
  show vs.toArray.size ≤ sizeLine
  rw [List.size_toArray, r₁.length]; exact Nat.le_trans hsz (by decide)

theorem Ex.assignO {x : Str} {p pos lp : Pos} {es : List Expr} {xs : List PV} (he : EvL k sc σ.v es xs) (hsz : xs.length ≤ 1000) (hx : sc.names.lookup x = some .local)
    (hs : ∀ env, swapsWith (.List es lp) (some (.Name x p)) pos.line env = pure false := by intro _; rfl) : Ex k sc oc σ (.Assign [.Name x p] (.List es lp) pos) .next (σ.setO x xs) := by
  intro w A env hC g s Q G hsc B F hQ
  refine wpAny_Assign_Name (listDisp G hsc (B.keeps F.keep) F.inn F.env he hsz fun l vs g₁ h₁ t₁ s₁ hl hg hp r => ?_) (hs env)
  have F₁ := F.grow s₁ (· = l) (fun b e => .inl (e ▸ hl))
  obtain ⟨q, hq⟩ := hp
  refine F₁.storeO (hC := hC) (by unfold Env.kindOf; rw [hsc]; exact hx) (fun b o e => only_get (.inl ⟨o, e⟩) (s₁.stays _ _ (F.keep b o e))) (Stays.none F.keep hl) ⟨q, only_get (.inr rfl) hq⟩ r hg (F.cellOld hl) fun h₂ t₂ F₂ => ?_
  exact hQ _ g₁ h₂ t₂ rfl (s₁.gstep F.keep) F₂

/-! ### several names at once, from a display -/
inductive AsgM (k : Nat) (sc : Scope) (oc : List Str) (σ : St) : List Expr → List Str → St → Prop
  | nil : AsgM k sc oc σ [] [] σ
  | val {e : Expr} {es : List Expr} {n : Str} {ns : List Str} {pv : PV} {σ₁ : St} : Ev k sc σ.v e pv → AsgM k sc oc σ es ns σ₁ → (sc.names.lookup n = some .local ∨ n ∈ oc) → (∀ env, starEach (e :: es) env = (false, eval e env) :: starEach es env) → AsgM k sc oc σ (e :: es) (n :: ns) (σ₁.setV n pv)
  | own {ds : List Expr} {p : Pos} {es : List Expr} {n : Str} {ns : List Str} {xs : List PV} {σ₁ : St} : EvL k sc σ.v ds xs → xs.length ≤ 1000 → AsgM k sc oc σ es ns σ₁ → sc.names.lookup n = some .local → (∀ env, starEach (.List ds p :: es) env = (false, eval (.List ds p) env) :: starEach es env) → AsgM k sc oc σ (.List ds p :: es) (n :: ns) (σ₁.setO n xs)

noncomputable def Cap (w : World) (A : Around) (env : Env) (hC : Heap) (g : Fix) (oc : List Str) (σ : St) (ns : List Str) (vs : List Value) (s : Shared) : Prop :=
  ∀ h tk (Q : Unit → Shared → Prop) ts xs, Stays s.heap h → (∀ h' tk', FSt hC g env oc σ h' → W w A (assignInOrder ts xs) Q { s with heap := h', toks := tk' }) →
    W w A (assignInOrder ((ns.reverse.map fun n => bindName env n) ++ ts) (vs.reverse ++ xs)) Q { s with heap := h, toks := tk }

theorem AsgM.run {w : World} {A : Around} {env : Env} (G : Good k A) (hsc : env.scope = sc) {es : List Expr} {ns : List Str} {σ' : St} (a : AsgM k sc oc σ es ns σ') :
    ∀ (hC : Heap) (g : Fix) (s : Shared) (Q : List Value → Shared → Prop) (pos : Pos), Based w s.heap → FSt hC g env oc σ s.heap →
      (∀ vs g' h' tk, vs.length = es.length → Step g s.heap g' h' → Cap w A env hC g' oc σ' ns vs { s with heap := h', toks := tk } → Q vs { s with heap := h', toks := tk }) → W w A (spliced (backTo pos (starEach es env))) Q s := by
  induction a with
  | nil =>
    intro hC g s Q pos B F hQ
    refine args_nil (hQ [] g s.heap s.toks rfl (Step.refl F.inn) fun h tk Q' ts xs hk hK => ?_)
    exact hK h tk (F.step (Step.keep F.inn hk))
  | @val e es n ns pv σ₁ he _ hn hst ih =>
    intro hC g s Q pos B F hQ
    refine args_cons (he w A env g s _ G hsc B F.inn F.env fun v g₁ h₁ t₁ s₁ r₁ => ?_) (hst env)
    refine ih hC g₁ _ _ pos (B.keeps s₁.stays) (F.step s₁) fun vs g₂ h₂ t₂ hlen s₂ cap => ?_
    refine hQ (v :: vs) g₂ h₂ t₂ (by simp [hlen]) (s₁.trans s₂) fun h tk Q' ts xs hk hK => ?_
    rw [List.reverse_cons, List.map_append, List.reverse_cons, List.append_assoc, List.append_assoc]
    refine cap h tk Q' _ _ hk fun h₃ t₃ F₃ => ?_
    show W w A (do holding xs (bindName env n v); assignInOrder ts xs) Q' _
    exact wpAny_bind (wpAny_holding (PyProof.Rows.bindName_ (F₃.store (hn.imp (fun e => by unfold Env.kindOf; rw [hsc]; exact e) id) (r₁.mono s₂.le) fun h₄ t₄ F₄ _ => hK h₄ t₄ F₄)))
  | @own ds p es n ns xs σ₁ he hsz _ hn hst ih =>
    intro hC g s Q pos B F hQ
    refine args_cons (listDisp G hsc B F.inn F.env he hsz fun l us g₁ h₁ t₁ s₁ hl hg hp r => ?_) (hst env)
    have F₁ := F.grow s₁ (· = l) (fun b e => .inl (e ▸ hl))
    obtain ⟨q, hq⟩ := hp
    refine ih _ g₁ _ _ pos (B.keeps s₁.stays) F₁ fun vs g₂ h₂ t₂ hlen s₂ cap => ?_
    refine hQ (.ref l :: vs) g₂ h₂ t₂ (by simp [hlen]) (s₁.trans s₂) fun h tk Q' ts xs' hk hK => ?_
    rw [List.reverse_cons, List.map_append, List.reverse_cons, List.append_assoc, List.append_assoc]
    refine cap h tk Q' _ _ hk fun h₃ t₃ F₃ => ?_
    show W w A (do holding xs' (bindName env n (.ref l)); assignInOrder ts xs') Q' _
    refine wpAny_bind (wpAny_holding (PyProof.Rows.bindName_ (F₃.storeO (hC := hC) (by unfold Env.kindOf; rw [hsc]; exact hn) (fun b o e => only_get (.inl ⟨o, e⟩) (s₁.stays _ _ (F.keep b o e))) (Stays.none F.keep hl)
      ⟨q, only_get (.inr rfl) hq⟩ (r.mono s₂.le) (s₂.off hg hq) (F.cellOld hl) fun h₄ t₄ F₄ => hK h₄ t₄ F₄)))

theorem Ex.assignM {es ts : List Expr} {n m : Nat} {p pos tp : Pos} {ns : List Str} {σ' : St} (a : AsgM k sc oc σ es ns σ') (hlen : es.length = ns.length)
    (hs : ∀ env, swapsWithSole [.Tuple ts n p] (.Tuple es m tp) pos.line env = pure false := by intro _; rfl)
    (hw : ∀ env : Env, env.scope = sc → swappedStores [.Tuple ts n p] (.Tuple es m tp) env = pure (some ns)) (hz : es.length ≤ 1000 := by decide) : Ex k sc oc σ (.Assign [.Tuple ts n p] (.Tuple es m tp) pos) .next σ' := by
  intro w A env hC g s Q G hsc B F hQ
  refine Assign_Tuple_swapped (names := ns) (Tuple_ (a.run G hsc hC g s _ tp (B.keeps F.keep) F fun vs g₁ h₁ t₁ hl s₁ cap => ?_)) (hs env) (hw env hsc)
  refine wpAny_newObj_type ?_ ?_
  · refine unpack_any (vs := vs) G.hh (.inl ⟨_, Heap.get?_push_size _ rfl, rfl, 0, rfl⟩) (by rw [← hlen, hl]) fun h₂ hk => ?_
    have := cap h₂ t₁ (fun _ => Q .next) [] [] (Stays.trans (fun b o e => Heap.get?_push_of_some _ e) hk) fun h' tk F' => wpAny_pure (hQ .next g₁ h' tk rfl (s₁.gstep F.keep) F')
    simpa using this
  · show vs.toArray.size ≤ sizeLine
    rw [List.size_toArray, hl]; exact Nat.le_trans hz (by decide)

/-! ### changes at a list -/
theorem append_run {w : World} {A : Around} {s : Shared} {l : Addr} {vs : List Value} {v : Value} {Q : Value → Shared → Prop} (hp : s.heap.PlainList l vs.toArray) (hsz : vs.length ≤ 1000)
    (hQ : ∀ h', h'.PlainList l (vs ++ [v]).toArray → (∀ b o, b ≠ l → s.heap.get? b = some o → h'.get? b = some o) → Q .none { s with heap := h' }) : W w A (call (.builtin "list.append") [.ref l, v]) Q s :=
  wpAny_list_append_plain (hsz := by rw [List.size_toArray]; exact Nat.le_trans hsz (by decide)) hp fun h' hp' sb => hQ h' (by simpa using hp') fun b o hb e => (sb.2 b hb).trans e

noncomputable def oneArg (pos : Pos) (e : Expr) : Prop := ∀ env, ((backTo pos (starEach [e] env)).all (fun x => !x.1) && (backToKw pos (keywordEach [] env)).all (fun x => x.1.isSome)
      && decide ([e].length + ([] : List Keyword).length + (if ([] : List Keyword).isEmpty then 0 else 1) < 30)) = true
theorem Ex.append {x : Str} {p ap pos ep : Pos} {e : Expr} {xs : List PV} {pv : PV} (hx : σ.o.lookup x = some xs) (he : EvS k sc oc σ e pv) (hz : xs.length ≤ 1000) (hd : (x == ("__debug__" : Str)) = false := by decide)
    (hline : (ap.endLine == pos.line) = true := by rfl) (hfew : oneArg pos e := by intro _; rfl)
    (hst : ∀ env, starEach [e] env = (false, eval e env) :: starEach [] env := by intro _; rfl) (hsw : ∀ env, swapsWith (.Call (.Attribute (.Name x p) "append" ap) [e] [] pos) none ep.line env = pure false := by intro _; rfl) :
    Ex k sc oc σ (.Expr (.Call (.Attribute (.Name x p) "append" ap) [e] [] pos) ep) .next (σ.setO x (xs ++ [pv])) := by
  intro w A env hC g s Q G hsc B F hQ
  obtain ⟨l, vs, hlC, hlg, hp, r, hk, ⟨m, n, hm⟩, hmut⟩ := F.mut hx
  refine wpAny_Expr (wpAny_Call_method (T := "list") (id := "list.append") rfl (hfew env) hline PySem.F.plainAttrs_list PySem.F.slot_list_append PySem.F.type_list_append ?_) (by unfold interactive; rw [F.kind]; rfl) (hsw env)
  refine wpAny_Name (wpAny_loadName_local F.kind hk n hm ?_) hd
  refine ⟨hp.isList.typeIs, fun a e => by cases e; obtain ⟨q, hq⟩ := hp; exact ⟨_, hq, rfl⟩, ?_⟩
  refine callWith_method1 (first := [.ref l]) (args_cons (he w A env hC g s _ G hsc (B.keeps F.keep) F fun v g₁ h₁ t₁ s₁ r₁ => args_nil ?_) (hst env)) (hst env) (by rfl)
  refine append_run (l := l) (vs := vs) (hp.at fun o e => s₁.stays _ o e) (by rw [r.length]; exact hz) fun h₂ hp₂ hk₂ => ?_
  have hpl := hp
  obtain ⟨q, hq⟩ := hp
  have off := s₁.off hlg hq
  refine hQ .next g₁ h₂ t₁ rfl (s₁.gstep F.keep) (hmut g₁ h₂ _ _ (fun b o hb e => hk₂ b o hb (s₁.stays b o e)) s₁.le (fun b o e => hk₂ b o (fun q => by rw [q, off] at e; cases e) (s₁.inn b o e)) s₁.new hp₂ ((r.mono s₁.le).append (.one r₁)))

noncomputable def insL {α : Type} (l : List α) (x : Nat) (y : α) : List α := l.take x ++ y :: l.drop x
theorem plain_change {h : Heap} {l : Addr} {vs us : List Value} {n : Nat} (f : Array Value → Array Value) (hq : h.get? l = some { cls := .type "list", data := .seq vs.toArray n }) (e : f vs.toArray = us.toArray) (hne : us.length ≠ vs.length) :
    (h.update l (Obj.mapSeq f)).PlainList l us.toArray := by
  have q := PySem.IsL.update hq f
  rw [e, if_neg (by simpa using hne)] at q
  exact ⟨n + 1, q⟩
theorem insert_run {w : World} {A : Around} {s : Shared} {l : Addr} {vs : List Value} {i : Int} {u : Tok} {v : Value} {Q : Value → Shared → Prop} (hp : s.heap.PlainList l vs.toArray) (hsz : vs.length ≤ 1000) (h0 : 0 ≤ i) (h1 : i ≤ vs.length)
    (hQ : ∀ h', h'.PlainList l (insL vs i.toNat v).toArray → (∀ b o, b ≠ l → s.heap.get? b = some o → h'.get? b = some o) → Q .none { s with heap := h' }) : W w A (call (.builtin "list.insert") [.ref l, .int i u, v]) Q s := by
  obtain ⟨n, hq⟩ := hp
  have hf : Builtin.List.listFitsIndex i = true := by
    unfold Builtin.List.listFitsIndex
    simp
    omega
  refine call_meets PySem.F.slot_list_insert ⟨_, hq, rfl⟩ PySem.F.entry_list_insert (PySem.F.args_list_insert_3 _ _ _) (PySem.AutoSeq1.list_insert_list_int_val_1 l _ n i u v (by simp [hf]) (by rw [List.size_toArray]; exact Nat.le_trans hsz (by decide))) ⟨hq, hQ _ ?_ fun b o hb e => ?_⟩
  · have e : ((vs.toArray.extract 0 (if i < 0 then (i + (vs.toArray.size : Int)).toNat else min i.toNat vs.toArray.size)).push v ++ vs.toArray.extract (if i < 0 then (i + (vs.toArray.size : Int)).toNat else min i.toNat vs.toArray.size)) = (insL vs i.toNat v).toArray := by
      rw [if_neg (by omega)]
      have hmin : min i.toNat vs.toArray.size = i.toNat := by rw [List.size_toArray]; omega
      rw [hmin]
      apply Array.toList_inj.mp
      unfold insL
      simp
      exact List.take_of_length_le (by simp)
    exact plain_change _ hq e (by simp [insL]; omega)
  · exact ((Heap.SameBut.update (h := s.heap) ..).2 b hb).trans e
theorem RepL.ins {g : Fix} {vs : List Value} {xs : List PV} {v : Value} {pv : PV} {i : Nat} (r : RepL g vs xs) (h : Rep g v pv) : RepL g (insL vs i v) (insL xs i pv) := (r.take i).append (.cons h (r.drop i))
noncomputable def twoArgs (pos : Pos) (e e2 : Expr) : Prop := ∀ env, ((backTo pos (starEach [e, e2] env)).all (fun x => !x.1) && (backToKw pos (keywordEach [] env)).all (fun x => x.1.isSome)
      && decide ([e, e2].length + ([] : List Keyword).length + (if ([] : List Keyword).isEmpty then 0 else 1) < 30)) = true
theorem Ex.insertK {x : Str} {p ap pos ep : Pos} {e e2 : Expr} {xs : List PV} {pv : PV} {i : Int} (hx : σ.o.lookup x = some xs) (hl : EvL k sc σ.v [e, e2] [.int i, pv]) (h0 : 0 ≤ i) (h1 : i ≤ xs.length) (hz : xs.length ≤ 1000) (hd : (x == ("__debug__" : Str)) = false := by decide)
    (hline : (ap.endLine == pos.line) = true := by rfl) (hfew : twoArgs pos e e2 := by intro _; rfl)
    (hst : ∀ env, starEach [e, e2] env = (false, eval e env) :: starEach [e2] env := by intro _; rfl) (hpl : ∀ env, (backTo pos (starEach [e2] env)).any (·.1) = false := by intro _; rfl) (hsw : ∀ env, swapsWith (.Call (.Attribute (.Name x p) "insert" ap) [e, e2] [] pos) none ep.line env = pure false := by intro _; rfl) :
    Ex k sc oc σ (.Expr (.Call (.Attribute (.Name x p) "insert" ap) [e, e2] [] pos) ep) .next ⟨σ.v, putL' x (insL xs i.toNat pv) σ.o⟩ := by
  intro w A env hC g s Q G hsc B F hQ
  obtain ⟨l, vs, hlC, hlg, hp, r, hk, ⟨m, n, hm⟩, hmut⟩ := F.mutK hx
  refine wpAny_Expr (wpAny_Call_method (T := "list") (id := "list.insert") rfl (hfew env) hline PySem.F.plainAttrs_list PySem.F.slot_list_insert PySem.F.type_list_insert ?_) (by unfold interactive; rw [F.kind]; rfl) (hsw env)
  refine wpAny_Name (wpAny_loadName_local F.kind hk n hm ?_) hd
  refine ⟨hp.isList.typeIs, fun a e => by cases e; obtain ⟨q, hq⟩ := hp; exact ⟨_, hq, rfl⟩, ?_⟩
  refine callWith_method1 (first := [.ref l]) (hl w A env g s _ pos G hsc (B.keeps F.keep) F.inn F.env fun us g₁ h₁ t₁ s₁ r₁ => ?_) (hst env) (hpl env)
  obtain ⟨a, b, rfl, ra, rb⟩ := r₁.two
  obtain ⟨ti, rfl⟩ := ra.int
  have hpl := hp
  obtain ⟨q, hq⟩ := hp
  have off := s₁.off hlg hq
  refine insert_run (l := l) (vs := vs) (hpl.at fun o e => s₁.stays _ o e) (by rw [r.length]; exact hz) h0 (by rw [r.length]; exact h1) fun h₂ hp₂ hk₂ => ?_
  refine hQ .next g₁ h₂ t₁ rfl (s₁.gstep F.keep) (hmut g₁ h₂ _ _ (fun b o hb e => hk₂ b o hb (s₁.stays b o e)) s₁.le (fun b o e => hk₂ b o (fun q => by rw [q, off] at e; cases e) (s₁.inn b o e)) s₁.new hp₂ ((r.mono s₁.le).ins rb))

/-- a call that changes the list it is handed: f(list, x, n=y) -/
noncomputable def MutKw (k : Nat) (f : Addr) (xs : List PV) (pv : PV) (n : Str) (kv : PV) (ys : List PV) : Prop :=
  ∀ (w : World) (A : Around) (hC : Heap) (g : Fix) (s : Shared) (Q : Value → Shared → Prop) (l : Addr) (vs : List Value) (v u : Value), Good k A → Based w hC → Stays hC s.heap → hC.get? l = none → g l = none → g.In s.heap → s.heap.PlainList l vs.toArray → RepL g vs xs → Rep g v pv → Rep g u kv →
    (∀ g' h' us tk, Stays hC h' → GStep hC g g' → g'.In h' → g' l = none → h'.PlainList l us.toArray → RepL g' us ys → Q .none { s with heap := h', toks := tk }) → W w A (call (.ref f) [.ref l, v] [(n, u)]) Q s

theorem Ex.mutKw {f e ke : Expr} {x n : Str} {p pos kp ep : Pos} {a : Addr} {xs ys : List PV} {pv kv : PV} (hx : σ.o.lookup x = some xs) (hf : Ev k sc σ.v f (.fn a)) (he : Ev k sc σ.v e pv) (hk : Ev k sc σ.v ke kv) (hc : MutKw k a xs pv n kv ys) (hkp : ∀ w, keepIn (KK w) (.ref a) = true) (hd : (x == ("__debug__" : Str)) = false := by decide)
    (hev : ∀ env, eval (.Call f [.Name x p, e] [⟨some n, ke, kp⟩] pos) env = (do callWith pos (← eval f env) [] (backTo pos (starEach [.Name x p, e] env)) (backToKw pos (keywordEach [⟨some n, ke, kp⟩] env))) := by intro _; rfl)
    (hst : ∀ env, starEach [.Name x p, e] env = (false, eval (.Name x p) env) :: starEach [e] env := by intro _; rfl) (hst2 : ∀ env, starEach [e] env = (false, eval e env) :: starEach [] env := by intro _; rfl) (hpl : ∀ env, (backTo pos (starEach [.Name x p, e] env)).any (·.1) = false := by intro _; rfl)
    (hkw : ∀ env, backToKw pos (keywordEach [⟨some n, ke, kp⟩] env) = [(some n, do let v ← eval ke env; standAt pos; pure v)] := by intro _; rfl) (hsw : ∀ env, swapsWith (.Call f [.Name x p, e] [⟨some n, ke, kp⟩] pos) none ep.line env = pure false := by intro _; rfl) :
    Ex k sc oc σ (.Expr (.Call f [.Name x p, e] [⟨some n, ke, kp⟩] pos) ep) .next (σ.setO x ys) := by
  intro w A env hC g s Q G hsc B F hQ
  obtain ⟨l, vs, hlC, hlg, hp, r, hkd, ⟨m, n', hm⟩, hmut⟩ := F.mut hx
  refine wpAny_Expr ?_ (by unfold interactive; rw [F.kind]; rfl) (hsw env)
  rw [hev]
  refine wpAny_bind (hf w A env g s _ G hsc (B.keeps F.keep) F.inn F.env fun fv g₁ h₁ t₁ s₁ r₁ => ?_)
  simp only [Rep] at r₁; subst r₁
  have F₁ := F.step s₁
  have B₁ := B.keeps F₁.keep
  refine callWith_KW (h₀ := h₁) B₁.inK (hkp w) (by rw [hkw]; rfl) ?_ (by rw [hpl, hkw]; rfl) (hst env)
  rw [hkw]
  refine args_cons (wpAny_Name (wpAny_loadName_local F.kind hkd (n'.keeps s₁.stays) hm ?_) hd) (hst env)
  refine args_cons (he w A env g₁ _ _ G hsc B₁ F₁.inn F₁.env fun v g₂ h₂ t₂ s₂ r₂ => args_nil ?_) (hst2 env)
  have F₂ := F₁.step s₂
  refine wpAny_evalAll_cons (wpAny_bind (hk w A env g₂ _ _ G hsc (B.keeps F₂.keep) F₂.inn F₂.env fun u g₃ h₃ t₃ s₃ r₃ => ?_))
  have F₃ := F₂.step s₃
  refine wpAny_bind (wpAny_standAt (wpAny_pure (wpAny_evalAll_nil ⟨(B.keeps F₃.keep).inK, ?_⟩)))
  have st := (s₁.trans s₂).trans s₃
  have hq' := hp
  obtain ⟨q, hq⟩ := hq'
  have hP : Stays (only h₃ (· ≠ l)) h₃ := only_le
  have lC : (only h₃ (· ≠ l)).get? l = none := only_none fun e => e rfl
  have hB : Based w (only h₃ (· ≠ l)) := B.keeps fun b o e => only_get (fun q => by rw [q, hlC] at e; cases e) (F₃.keep b o e)
  refine hc w A (only h₃ (· ≠ l)) g₃ _ _ l vs v u G hB hP lC (st.off hlg hq) F₃.inn (hp.at fun o e => st.stays _ o e) (r.mono st.le) (r₂.mono s₃.le) r₃ fun g₄ h₄ us t₄ k₄ gs₄ in₄ off₄ hp₄ r₄ => ?_
  refine hQ .next g₄ h₄ t₄ rfl ((st.gstep F.keep).trans ⟨gs₄.1, fun b o e => (gs₄.2 b o e).imp id fun e' => ?_⟩) (hmut g₄ h₄ us ys (fun b o hb e => k₄ b o (only_get hb (st.stays b o e))) (fun b o e => gs₄.1 b o (st.le b o e)) in₄ (fun b o e => ?_) hp₄ r₄)
  · cases qq : hC.get? b with
    | none => rfl
    | some u' =>
      have := only_get (p := (· ≠ l)) (fun q => by rw [q, hlC] at qq; cases qq) (F₃.keep b u' qq)
      rw [this] at e'; cases e'
  · rcases gs₄.2 b o e with e' | e'
    · exact st.new b o e'
    · refine .inr ?_
      cases qq : s.heap.get? b with
      | none => rfl
      | some u' =>
        have hb : b ≠ l := by rintro rfl; rw [off₄] at e; cases e
        have := only_get (p := (· ≠ l)) hb (st.stays b u' qq)
        rw [this] at e'; cases e'
end
end Mine
end

section
open PySem PySem.W PySem.Calls PyProof.Rows
namespace Mine

section
variable {k : Nat} {sc : Scope} {oc : List Str} {σ σ₁ σ₂ : St}

/-! ### while -/
inductive Loop (k : Nat) (sc : Scope) (oc : List Str) (t : Expr) (b : List Stmt) : Nat → St → St → Prop
  | done {σ : St} : TstS k sc oc σ t false → Loop k sc oc t b 0 σ σ
  | turn {n : Nat} {σ σ₁ σ₂ : St} : TstS k sc oc σ t true → Exs k sc oc σ b .next σ₁ → Loop k sc oc t b n σ₁ σ₂ → Loop k sc oc t b (n + 1) σ σ₂
theorem Ex.whiles {t : Expr} {b : List Stmt} {pos : Pos} {n : Nat} (h : Loop k sc oc t b n σ σ₁) : Ex k sc oc σ (.While t b [] pos) .next σ₁ := by
  intro w A env hC g s Q G hsc B F hQ
  refine wpAny_While (codeAny_whileLoop (fun n s' => ∃ h₁ tk₁ g₁ σ', s' = { s with heap := h₁, toks := tk₁ } ∧ Loop k sc oc t b n σ' σ₁ ∧ GStep hC g g₁ ∧ FSt hC g₁ env oc σ' h₁) ?_ n ⟨s.heap, s.toks, g, σ, rfl, h, .refl, F⟩)
  rintro n s' ⟨h₁, tk₁, g₁, σ', rfl, L, gs, F₁⟩
  cases L with
  | done ht =>
    refine wpAny_mono (ht w A env hC g₁ _ (fun c s₂ => c = false ∧ ∃ g₂ h₂ tk₂, s₂ = { s with heap := h₂, toks := tk₂ } ∧ Step g₁ h₁ g₂ h₂) G hsc (B.keeps F₁.keep) F₁ fun g₂ h₂ t₂ s₂ => ⟨rfl, g₂, h₂, t₂, rfl, s₂⟩) (fun c s₂ hc => ?_) fun _ _ x => x.elim
    obtain ⟨rfl, g₂, h₂, t₂, rfl, s₂⟩ := hc
    exact wpAny_execs_nil (hQ .next g₂ h₂ t₂ rfl (gs.trans (s₂.gstep F₁.keep)) (F₁.step s₂))
  | @turn n _ σ₂ _ ht hb hr =>
    refine wpAny_mono (ht w A env hC g₁ _ (fun c s₂ => c = true ∧ ∃ g₂ h₂ tk₂, s₂ = { s with heap := h₂, toks := tk₂ } ∧ Step g₁ h₁ g₂ h₂) G hsc (B.keeps F₁.keep) F₁ fun g₂ h₂ t₂ s₂ => ⟨rfl, g₂, h₂, t₂, rfl, s₂⟩) (fun c s₂ hc => ?_) fun _ _ x => x.elim
    obtain ⟨rfl, g₂, h₂, t₂, rfl, s₂⟩ := hc
    have gs₂ := gs.trans (s₂.gstep F₁.keep)
    refine wpAny_mono (hb w A env hC g₂ { s with heap := h₂, toks := t₂ } _ G hsc B (F₁.step s₂) fun f g₃ h₃ t₃ hf gs₃ F₃ => ?_) (fun _ _ x => x) fun _ _ x => x.elim
    have hf : f = .next := hf
    subst hf
    exact ⟨n, Nat.lt_succ_self _, h₃, t₃, g₃, σ₂, rfl, hr, gs₂.trans gs₃, F₃⟩

/-! ### for -/
inductive Turns (k : Nat) (sc : Scope) (oc : List Str) (target : Expr) (tt : Bool) (b : List Stmt) : List PV → St → St → Prop
  | nil {σ : St} : Turns k sc oc target tt b [] σ σ
  | cons {pv : PV} {r : List PV} {σ σm σ₁ σ₂ : St} : Asg sc oc target tt pv σ σm → Exs k sc oc σm b .next σ₁ → Turns k sc oc target tt b r σ₁ σ₂ → Turns k sc oc target tt b (pv :: r) σ σ₂

theorem FSt.shift {hP h h₂ : Heap} {g : Fix} {env : Env} {σ : St} (F : FSt hP g env oc σ h) (wr : List Addr) (hk : ∀ b o, b ∉ wr → h.get? b = some o → h₂.get? b = some o) (hw : ∀ b ∈ wr, ∃ o, hP.get? b = some o) (hg : ∀ b ∈ wr, g b = none)
    (hc : ∀ x c, env.cells.lookup x = some c → c ∉ wr) : FSt (only h₂ fun b => ∃ o, hP.get? b = some o) g env oc σ h₂ := by
  obtain ⟨m, cm, la, n, c, v, o, d⟩ := F.body
  have nw : ∀ b, hP.get? b = none → b ∉ wr := fun b e hm => by obtain ⟨q, hq⟩ := hw b hm; rw [e] at hq; cases hq
  have nn : ∀ b, hP.get? b = none → (only h₂ fun b => ∃ o, hP.get? b = some o).get? b = none := fun b e => only_none fun ⟨q, hq⟩ => by rw [e] at hq; cases hq
  refine ⟨F.glob, F.blt, F.kind, only_le, fun b u e => hk b u (fun hm => by rw [hg b hm] at e; cases e) (F.inn b u e), nn _ F.lC, F.lg, fun x hx => let ⟨cc, h1, h2, h3, h4⟩ := F.ocC x hx; ⟨cc, h1, nn _ h2, h3, h4⟩, F.ocA, F.cL,
    m, cm, la, n.at' fun u e => hk _ u (nw _ F.lC) e, fun x cc e => ?_, v, fun x xs e => ?_, d⟩
  · obtain ⟨co, hco, hd⟩ := c x cc e
    exact ⟨co, hk _ _ (hc x cc e) hco, hd⟩
  · have O := o x xs e
    obtain ⟨vs, ⟨q, hq⟩, rr⟩ := O.list
    exact ⟨O.kind, O.val, ⟨vs, ⟨q, hk _ _ (nw _ O.offC) hq⟩, rr⟩, O.offg, nn _ O.offC, O.neL, O.neC⟩

theorem Ex.fors {target iter : Expr} {b : List Stmt} {pos : Pos} {tt : Bool} {items : List PV} (hsrc : Src k sc σ.v target tt iter items) (ht : Turns k sc oc target tt b items σ σ₁)
    (hf : ∀ env x, foldedSetIterable iter env x = pure x := by intro _ _; rfl) : Ex k sc oc σ (.For target iter b [] pos) .next σ₁ := by
  intro w A env hC g s Q G hsc B F hQ
  refine wpAny_For (hsrc w A env g s _ G hsc (B.keeps F.keep) F.inn F.env fun I fp wr Sta g₁ h₁ t₁ st V hSta hwr hfl hfp => ?_) (hf env)
  have hcw : ∀ x c, env.cells.lookup x = some c → c ∉ wr := fun x c e hm => F.cellOld (hwr _ hm) x c e rfl
  have hCw : ∀ b ∈ wr, hC.get? b = none := fun b hb => Stays.none F.keep (hwr b hb)
  have F₁ := F.grow st (· ∈ fp) hfp
  have hfp1 : ∀ b ∈ fp, ∃ o, (only h₁ fun b => (∃ o, hC.get? b = some o) ∨ b ∈ fp).get? b = some o := by
    intro b hb
    obtain ⟨o, e⟩ := hfl b hb
    exact ⟨o, only_get (.inr hb) e⟩
  refine codeAny_forLoop_any (fun n s' => ∃ i hP h tk gi σi, s' = { s with heap := h, toks := tk } ∧ i ≤ items.length ∧ n = items.length + 1 - i ∧ Turns k sc oc target tt b (items.drop i) σi σ₁ ∧ Stays hC hP ∧ (∀ b ∈ fp, ∃ o, hP.get? b = some o) ∧
    FSt hP gi env oc σi h ∧ Sta i h ∧ GStep hC g gi ∧ (∀ b ∈ wr, gi b = none) ∧ (∀ b o, g₁ b = some o → gi b = some o)) ?_ (items.length + 1)
    ⟨0, _, h₁, t₁, g₁, σ, rfl, Nat.zero_le _, rfl, by simpa using ht, fun b o e => only_get (.inl ⟨o, e⟩) (st.stays b o (F.keep b o e)), hfp1, F₁, hSta, st.gstep F.keep, V.off, fun _ _ e => e⟩
  rintro n s' ⟨i, hP, h, tk, gi, σi, rfl, hi, rfl, hT, hk, hfp, Fi, hSi, gs, hwi, hle⟩
  have sh : ∀ h₂, (∀ b o, b ∉ wr → h.get? b = some o → h₂.get? b = some o) → FSt (only h₂ fun b => ∃ o, hP.get? b = some o) gi env oc σi h₂ := fun h₂ hk₂ => Fi.shift wr hk₂ (fun b hb => hfp b (V.sub b hb)) hwi hcw
  have kC : ∀ h₂, (∀ b o, b ∉ wr → h.get? b = some o → h₂.get? b = some o) → Stays hC (only h₂ fun b => ∃ o, hP.get? b = some o) := fun h₂ hk₂ b o e =>
    only_get ⟨o, hk b o e⟩ (hk₂ b o (fun hm => by rw [hCw b hm] at e; cases e) (Fi.keep b o (hk b o e)))
  by_cases hlt : i < items.length
  · have hpv : items[i]? = some items[i] := List.getElem?_eq_getElem hlt
    rw [List.drop_eq_getElem_cons hlt] at hT
    cases hT with
    | @cons _ _ _ σm σ' _ ha hb hr =>
      refine wpAny_mono (V.item i items[i] _ (fun v s₂ => W w A (PySem.assign target env v) (fun _ s₂ => W w A (execs b env) (fun f s₃ => f = .next ∧ ∃ m, m < items.length + 1 - i ∧ (fun m s' => ∃ i hP h tk gi σi, s' = { s with heap := h, toks := tk } ∧ i ≤ items.length ∧ m = items.length + 1 - i ∧ Turns k sc oc target tt b (items.drop i) σi σ₁ ∧ Stays hC hP ∧ (∀ b ∈ fp, ∃ o, hP.get? b = some o) ∧
          FSt hP gi env oc σi h ∧ Sta i h ∧ GStep hC g gi ∧ (∀ b ∈ wr, gi b = none) ∧ (∀ b o, g₁ b = some o → gi b = some o)) m s₃) s₂) s₂) hpv hSi (fun b o e => Fi.inn b o (hle b o e)) ?_) (fun r s₁ hr => ?_) fun _ _ x => x.elim
      · intro v h₂ tk₂ hS₂ shn hk₂
        have F₂ := sh h₂ hk₂
        have kC₂ := kC h₂ hk₂
        refine ha w A env _ gi _ _ v G.hh hsc F₂ (shn.mono hle) fun h₃ tk₃ F₃ _ => ?_
        refine hb w A env _ gi _ _ G hsc (B.keeps kC₂) F₃ fun f g₄ h₄ tk₄ hf gs₄ F₄ => ?_
        have hf : f = .next := hf
        have fpk : ∀ b ∈ fp, ∀ o, h₂.get? b = some o → h₄.get? b = some o := fun b hb o e => F₄.keep b o (only_get (hfp b hb) e)
        have fp2 : ∀ b ∈ fp, ∃ o, (only h₂ fun b => ∃ o, hP.get? b = some o).get? b = some o := fun b hb => by
          by_cases hm : b ∈ wr
          · obtain ⟨o, e⟩ := V.live _ _ hS₂ b hm
            exact ⟨o, only_get (hfp b hb) e⟩
          · obtain ⟨o, e⟩ := hfp b hb
            exact ⟨o, only_get ⟨o, e⟩ (hk₂ b o hm (Fi.keep b o e))⟩
        refine ⟨hf, items.length + 1 - (i + 1), by omega, i + 1, _, h₄, tk₄, g₄, σ', rfl, by omega, rfl, hr, kC₂, fp2, F₄, V.frame _ _ _ hS₂ fpk, gs.trans (gs₄.weak kC₂), fun b hb => ?_, fun b o e => gs₄.1 b o (hle b o e)⟩
        obtain ⟨o, e⟩ := fp2 b (V.sub b hb)
        exact gs₄.off (hwi b hb) e
      · obtain ⟨v, rfl, h'⟩ := hr
        refine wpAny_mono h' (fun _ s₂ h₂ => wpAny_mono h₂ (fun _ s₃ h₃ => wpAny_mono h₃ (fun f s₄ h₄ => ?_) fun _ _ x => x.elim) fun _ _ x => x.elim) fun _ _ x => x.elim
        obtain ⟨rfl, h₄⟩ := h₄
        exact h₄
  · have hin : i = items.length := by omega
    subst hin
    rw [List.drop_length] at hT
    cases hT
    refine wpAny_mono (V.done _ (fun r s₁ => r = none ∧ ∃ h₂ tk₂, s₁ = { s with heap := h₂, toks := tk₂ } ∧ ∀ b o, b ∉ wr → h.get? b = some o → h₂.get? b = some o) hSi fun h₂ tk₂ hk₂ => ⟨rfl, h₂, tk₂, rfl, hk₂⟩) (fun r s₁ hr => ?_) fun _ _ x => x.elim
    obtain ⟨rfl, h₂, tk₂, rfl, hk₂⟩ := hr
    exact wpAny_execs_nil (hQ .next gi h₂ tk₂ rfl gs ((sh h₂ hk₂).weak (kC h₂ hk₂)))
end
end Mine
end

section
open PySem PySem.W PySem.Calls PyProof.Rows
namespace Mine

/-! ## comprehensions, of one and of two clauses -/
noncomputable def TurnIs (e : Expr) (d : Nat) (target : Expr) (ip : Pos) (emit : Value → Env → Sem Unit) : Prop :=
  ∀ it acc env, compTurn e d it acc env = (standAt ip >>= fun _ => pyNext it >>= fun r => match r with
    | none => pure (.done .next)
    | some v => letOwnedTupleGo target it v >>= fun _ => PySem.assign target env v >>= fun _ => emit acc env >>= fun _ => again (.compLoop e d it acc env))
noncomputable def emitL (elt : Expr) (acc : Value) (env : Env) : Sem Unit := eval elt env >>= fun x => call (.builtin "list.append") [acc, x] >>= fun _ => pure ()
noncomputable def emitN (e iter : Expr) (d : Nat) (acc : Value) (env : Env) : Sem Unit :=
  eval iter env >>= fun x => standAt iter.pos >>= fun _ => foldedSetIterable iter env x >>= fun x => holding [x] (pyIter x) >>= fun it => runOwn (.compStart e d it acc env) env >>= fun _ => pure ()
theorem turn_one (elt t1 i1 : Expr) (scope : Scope) (pos : Pos) : TurnIs (.ListComp elt [⟨t1, i1, [], 0⟩] scope pos) 0 t1 i1.pos (emitL elt) := by intro it acc env; rfl
theorem turn_two0 (elt t1 i1 t2 i2 : Expr) (scope : Scope) (pos : Pos) : TurnIs (.ListComp elt [⟨t1, i1, [], 0⟩, ⟨t2, i2, [], 0⟩] scope pos) 0 t1 i1.pos (emitN (.ListComp elt [⟨t1, i1, [], 0⟩, ⟨t2, i2, [], 0⟩] scope pos) i2 1) := by
  intro it acc env
  simp only [emitN, bind_assoc, pure_bind]
  rfl
theorem turn_two1 (elt t1 i1 t2 i2 : Expr) (scope : Scope) (pos : Pos) : TurnIs (.ListComp elt [⟨t1, i1, [], 0⟩, ⟨t2, i2, [], 0⟩] scope pos) 1 t2 i2.pos (emitL elt) := by intro it acc env; rfl

section
variable {w : World} {A : Around} {R : Result → Shared → Prop} {s : Shared}
theorem codeAny_compLoop_T {elt : Expr} {gens : List Comprehension} {scope : Scope} {pos : Pos} {d : Nat} {target : Expr} {ip : Pos} {emit : Value → Env → Sem Unit} (hT : TurnIs (.ListComp elt gens scope pos) d target ip emit) {it acc : Value} {env : Env} (I : Nat → Shared → Prop)
    (turn : ∀ n s, I n s → W w A (pyNext it) (fun r s₁ => match r with
      | none => R (.ok .next) s₁
      | some v => W w A (letOwnedTupleGo target it v) (fun _ s₁' => W w A (PySem.assign target env v) (fun _ s₂ => W w A (emit acc env) (fun _ s₄ => ∃ m, m < n ∧ I m s₄) s₂) s₁') s₁) s)
    (n : Nat) (h : I n s) : codeAny (model PG w) A (.compLoop (.ListComp elt gens scope pos) d it acc env) R s := by
  refine codeAny_loop rfl I (fun n s hI => ?_) n h
  show wpAny _ A ((compTurn (.ListComp elt gens scope pos) d it acc env).onRaise (fun x => do noteFrame x env; theTreesLotGoes x)) _ _ s
  refine wpAny_noted ?_
  rw [hT]
  refine wpAny_bind (wpAny_standAt (wpAny_bind (wpAny_mono (turn n s hI) (fun r s₁ h₁ => ?_) fun _ _ h' => h'.elim)))
  cases r with
  | none => exact wpAny_pure h₁
  | some v =>
    refine wpAny_bind (wpAny_mono h₁ (fun _ s₁' h₁' => ?_) fun _ _ h' => h'.elim)
    exact wpAny_bind (wpAny_mono h₁' (fun _ s₂ h₂ => wpAny_bind (wpAny_mono h₂ (fun _ s₄ h₄ => wpAny_pure ⟨rfl, h₄⟩) fun _ _ h' => h'.elim)) fun _ _ h' => h'.elim)
theorem codeAny_compStart_1 {elt c1 target iter scope pos it acc env}
    (h0 : codeAny (model PG w) A (.compLoop (.ListComp elt [c1, ⟨target, iter, [], 0⟩] scope pos) 1 it acc env) R s)
    (h : wpAny (model PG w) A (pyIter it) (fun it' s' => codeAny (model PG w) A (.compLoop (.ListComp elt [c1, ⟨target, iter, [], 0⟩] scope pos) 1 it' acc env) R s')
      (notedBy (model PG w) A env fun x s' => R (.error x) s') s) :
    codeAny (model PG w) A (.compStart (.ListComp elt [c1, ⟨target, iter, [], 0⟩] scope pos) 1 it acc env) R s := by
  refine codeAny_of_tree ?_
  show wpAny _ _ ((compStart (.ListComp elt [c1, ⟨target, iter, [], 0⟩] scope pos) 1 it acc env).onRaise (fun x => do noteFrame x env; standAt theWindowsPlace)) _ _ s
  refine wpAny_notedAt ?_
  unfold compStart
  show wpAny _ _ (ask >>= _) _ _ s
  refine wpAny_bind (wpAny_askSetting (wpAny_ite ?_))
  split
  · first
      | exact wpAny_bind (wpAny_pure (wpAny_pure (And.intro rfl h0)))
      | exact wpAny_pure (And.intro rfl h0)
  · first
      | exact wpAny_bind (wpAny_rule (wpAny_bind (wpAny_standAt (wpAny_bind (wpAny_mono h (fun it' s' h' => wpAny_pure (And.intro rfl h')) fun _ _ x => x)))))
      | (refine wpAny_bind (wpAny_rule ?_); show wpAny _ _ (standAt iter.pos >>= _) _ _ s; exact wpAny_bind (wpAny_standAt (wpAny_bind (wpAny_mono h (fun it' s' h' => wpAny_pure (And.intro rfl h')) fun _ _ x => x))))
end

/-- what a turn lays behind the list, when its names are laid -/
noncomputable def CT (k : Nat) (csc : Scope) (oc : List Str) (emit : Value → Env → Sem Unit) (v : Loc) (outs : List PV) : Prop :=
  ∀ (w : World) (A : Around) (env : Env) (hC : Heap) (g : Fix) (s : Shared) (Q : Unit → Shared → Prop) (D : Addr) (vs : List Value) (done : List PV), Good k A → env.scope = csc → Based w hC → FSt hC g env oc ⟨v, []⟩ s.heap →
    s.heap.PlainList D vs.toArray → RepL g vs done → g D = none → hC.get? D = none → D ≠ env.locals → (∀ x c, env.cells.lookup x = some c → c ≠ D) → done.length + outs.length ≤ 1000 →
    (∀ g' h' tk vs', GStep hC g g' → FSt hC g' env oc ⟨v, []⟩ h' → h'.PlainList D vs'.toArray → RepL g' vs' (done ++ outs) → g' D = none → Q () { s with heap := h', toks := tk }) → W w A (emit (.ref D) env) Q s

theorem CT.last {k : Nat} {csc : Scope} {oc : List Str} {elt : Expr} {v : Loc} {out : PV} (h : Ev k csc v elt out) : CT k csc oc (emitL elt) v [out] := by
  intro w A env hC g s Q D vs done G hs B F hp r hg hD hL hc hsz hQ
  unfold emitL
  refine wpAny_bind (h w A env g s _ G hs (B.keeps F.keep) F.inn F.env fun y g₁ h₁ t₁ s₁ r₁ => wpAny_bind ?_)
  have F₁ := F.step s₁
  have hp₁ : h₁.PlainList D vs.toArray := hp.at fun o e => s₁.stays _ o e
  obtain ⟨q, hq⟩ := hp
  have off := s₁.off hg hq
  have hl : vs.length ≤ 1000 := by rw [r.length]; omega
  refine append_run hp₁ hl fun h₂ hp₂ hk₂ => wpAny_pure ?_
  have F₂ := F₁.except [D] (fun b o hb e => hk₂ b o (fun q => hb (by rw [q]; exact .head _)) e) (fun b hb => by rw [List.mem_singleton.mp hb]; exact hD) (fun b hb => by rw [List.mem_singleton.mp hb]; exact off)
    (fun hm => hL (List.mem_singleton.mp hm).symm) (fun x c e hm => hc x c e (List.mem_singleton.mp hm))
  exact hQ g₁ h₂ t₁ _ (s₁.gstep F.keep) F₂ hp₂ ((r.mono s₁.le).append (.one r₁)) off

inductive Els (k : Nat) (csc : Scope) (oc : List Str) (target : Expr) (tt : Bool) (emit : Value → Env → Sem Unit) (v : Loc) : List PV → List PV → Prop
  | nil : Els k csc oc target tt emit v [] []
  | cons {pv : PV} {r outs o : List PV} {σ' : St} : Asg csc oc target tt pv ⟨v, []⟩ σ' → (∀ x p, v.lookup x = some p → σ'.v.lookup x = some p) → CT k csc oc emit σ'.v o → Els k csc oc target tt emit v r outs → Els k csc oc target tt emit v (pv :: r) (o ++ outs)

theorem compLoop_run {k : Nat} {csc : Scope} {oc : List Str} {w : World} {A : Around} {env : Env} {hC hP : Heap} {g : Fix} {s : Shared} {v : Loc} {elt : Expr} {gens : List Comprehension} {scope : Scope} {pos : Pos} {d : Nat} {target : Expr} {ip : Pos} {emit : Value → Env → Sem Unit} {tt : Bool} {items outs : List PV}
    {I D : Addr} {fp wr : List Addr} {Sta : Nat → Heap → Prop} {R : Result → Shared → Prop} {vs : List Value} {done : List PV}
    (hT : TurnIs (.ListComp elt gens scope pos) d target ip emit) (G : Good k A) (hs : env.scope = csc) (B : Based w hC) (F : FSt hP g env oc ⟨v, []⟩ s.heap) (hk : Stays hC hP) (hcw : ∀ x c, env.cells.lookup x = some c → c ∉ wr) (hCw : ∀ b ∈ wr, hC.get? b = none)
    (hfp : ∀ b ∈ fp, ∃ o, hP.get? b = some o) (V : Wk w A target tt I fp wr items g Sta) (hS : Sta 0 s.heap) (hel : Els k csc oc target tt emit v items outs)
    (hp : s.heap.PlainList D vs.toArray) (r : RepL g vs done) (hg : g D = none) (hD : hP.get? D = none) (hL : D ≠ env.locals) (hc : ∀ x c, env.cells.lookup x = some c → c ≠ D) (hsz : done.length + outs.length ≤ 1000)
    (hR : ∀ g' h' tk vs', GStep hC g g' → FSt hC g' env oc ⟨v, []⟩ h' → h'.PlainList D vs'.toArray → RepL g' vs' (done ++ outs) → g' D = none → R (.ok .next) { s with heap := h', toks := tk }) :
    codeAny (model PG w) A (.compLoop (.ListComp elt gens scope pos) d (.ref I) (.ref D) env) R s := by
  refine codeAny_compLoop_T hT (fun n s' => ∃ i hP h tk gi us dn rest, s' = { s with heap := h, toks := tk } ∧ i ≤ items.length ∧ n = items.length + 1 - i ∧ Els k csc oc target tt emit v (items.drop i) rest ∧ dn ++ rest = done ++ outs ∧ Stays hC hP ∧ (∀ b ∈ fp, ∃ o, hP.get? b = some o) ∧
    FSt hP gi env oc ⟨v, []⟩ h ∧ Sta i h ∧ GStep hC g gi ∧ (∀ b ∈ wr, gi b = none) ∧ (∀ b o, g b = some o → gi b = some o) ∧ h.PlainList D (List.toArray us) ∧ RepL gi us dn ∧ gi D = none ∧ hP.get? D = none) ?_ (items.length + 1)
    ⟨0, hP, s.heap, s.toks, g, vs, done, outs, rfl, Nat.zero_le _, rfl, by simpa using hel, rfl, hk, hfp, F, hS, .refl, V.off, fun _ _ e => e, hp, r, hg, hD⟩
  rintro n s' ⟨i, hP, h, tk, gi, us, dn, rest, rfl, hi, rfl, hE, heq, hk, hfp, Fi, hSi, gs, hwi, hle, hpi, hri, hgi, hDi⟩
  have hDw : D ∉ wr := fun hm => by obtain ⟨o, e⟩ := hfp D (V.sub D hm); rw [hDi] at e; cases e
  have sh : ∀ h₂, (∀ b o, b ∉ wr → h.get? b = some o → h₂.get? b = some o) → FSt (only h₂ fun b => ∃ o, hP.get? b = some o) gi env oc ⟨v, []⟩ h₂ := fun h₂ hk₂ => Fi.shift wr hk₂ (fun b hb => hfp b (V.sub b hb)) hwi hcw
  have kC : ∀ h₂, (∀ b o, b ∉ wr → h.get? b = some o → h₂.get? b = some o) → Stays hC (only h₂ fun b => ∃ o, hP.get? b = some o) := fun h₂ hk₂ b o e =>
    only_get ⟨o, hk b o e⟩ (hk₂ b o (fun hm => by rw [hCw b hm] at e; cases e) (Fi.keep b o (hk b o e)))
  by_cases hlt : i < items.length
  · have hpv : items[i]? = some items[i] := List.getElem?_eq_getElem hlt
    rw [List.drop_eq_getElem_cons hlt] at hE
    cases hE with
    | @cons _ _ outs' o σ' ha hsub hct hr =>
      refine wpAny_mono (V.item i items[i] _ (fun u s₂ => W w A (PySem.assign target env u) (fun _ s₂ => W w A (emit (.ref D) env) (fun _ s₃ => ∃ m, m < items.length + 1 - i ∧ (fun m s' => ∃ i hP h tk gi us dn rest, s' = { s with heap := h, toks := tk } ∧ i ≤ items.length ∧ m = items.length + 1 - i ∧ Els k csc oc target tt emit v (items.drop i) rest ∧ dn ++ rest = done ++ outs ∧ Stays hC hP ∧ (∀ b ∈ fp, ∃ o, hP.get? b = some o) ∧
          FSt hP gi env oc ⟨v, []⟩ h ∧ Sta i h ∧ GStep hC g gi ∧ (∀ b ∈ wr, gi b = none) ∧ (∀ b o, g b = some o → gi b = some o) ∧ h.PlainList D (List.toArray us) ∧ RepL gi us dn ∧ gi D = none ∧ hP.get? D = none) m s₃) s₂) s₂) hpv hSi (fun b o e => Fi.inn b o (hle b o e)) ?_) (fun r s₁ hr => ?_) fun _ _ x => x.elim
      · intro u h₂ tk₂ hS₂ shn hk₂
        have F₂ := sh h₂ hk₂
        have kC₂ := kC h₂ hk₂
        refine ha w A env _ gi _ _ u G.hh hs F₂ (shn.mono hle) fun h₃ tk₃ F₃ k₃ => ?_
        have F₃' : FSt _ gi env oc ⟨σ'.v, []⟩ h₃ := F₃.sub (fun _ _ e => e) fun x xs e => by simp at e
        have hp₃ : h₃.PlainList D us.toArray := (hpi.at fun o e => hk₂ _ o hDw e).at fun o e => k₃ _ o e hL fun x _ q => hc x D q rfl
        have hD₂ : (only h₂ fun b => ∃ o, hP.get? b = some o).get? D = none := only_none fun ⟨q, hq⟩ => by rw [hDi] at hq; cases hq
        have hlen : dn.length + o.length ≤ 1000 := by
          have := congrArg List.length heq
          simp only [List.length_append] at this hsz
          omega
        refine hct w A env _ gi _ _ D us dn G hs (B.keeps kC₂) F₃' hp₃ hri hgi hD₂ hL hc hlen fun g₄ h₄ tk₄ us' gs₄ F₄ hp₄ r₄ off₄ => ?_
        have fpk : ∀ b ∈ fp, ∀ o, h₂.get? b = some o → h₄.get? b = some o := fun b hb o e => F₄.keep b o (only_get (hfp b hb) e)
        have fp2 : ∀ b ∈ fp, ∃ o, (only h₂ fun b => ∃ o, hP.get? b = some o).get? b = some o := fun b hb => by
          by_cases hm : b ∈ wr
          · obtain ⟨o, e⟩ := V.live _ _ hS₂ b hm
            exact ⟨o, only_get (hfp b hb) e⟩
          · obtain ⟨o, e⟩ := hfp b hb
            exact ⟨o, only_get ⟨o, e⟩ (hk₂ b o hm (Fi.keep b o e))⟩
        refine ⟨items.length + 1 - (i + 1), by omega, i + 1, _, h₄, tk₄, g₄, us', dn ++ o, outs', rfl, by omega, rfl, hr, by rw [List.append_assoc]; exact heq, kC₂, fp2, F₄.sub hsub (fun x xs e => by simp at e), V.frame _ _ _ hS₂ fpk, gs.trans (gs₄.weak kC₂), fun b hb => ?_, fun b o e => gs₄.1 b o (hle b o e), hp₄, r₄, off₄, hD₂⟩
        obtain ⟨o, e⟩ := fp2 b (V.sub b hb)
        exact gs₄.off (hwi b hb) e
      · obtain ⟨u, rfl, h'⟩ := hr
        exact h'
  · have hin : i = items.length := by omega
    subst hin
    rw [List.drop_length] at hE
    cases hE
    rw [List.append_nil] at heq
    subst heq
    refine wpAny_mono (V.done _ (fun r s₁ => r = none ∧ ∃ h₂ tk₂, s₁ = { s with heap := h₂, toks := tk₂ } ∧ ∀ b o, b ∉ wr → h.get? b = some o → h₂.get? b = some o) hSi fun h₂ tk₂ hk₂ => ⟨rfl, h₂, tk₂, rfl, hk₂⟩) (fun r s₁ hr => ?_) fun _ _ x => x.elim
    obtain ⟨rfl, h₂, tk₂, rfl, hk₂⟩ := hr
    exact hR gi h₂ tk₂ us gs ((sh h₂ hk₂).weak (kC h₂ hk₂)) (hpi.at fun o e => hk₂ _ o hDw e) hri hgi

/-- the second clause -/
theorem CT.next {k : Nat} {csc : Scope} {oc : List Str} {elt t2 i2 : Expr} {c1 : Comprehension} {scope : Scope} {pos : Pos} {tt : Bool} {v : Loc} {items outs : List PV} (hT : TurnIs (.ListComp elt [c1, ⟨t2, i2, [], 0⟩] scope pos) 1 t2 i2.pos (emitL elt))
    (hsrc : Src k csc v t2 tt i2 items) (hel : Els k csc oc t2 tt (emitL elt) v items outs) (hf : ∀ env x, foldedSetIterable i2 env x = pure x := by intro _ _; rfl) :
    CT k csc oc (emitN (.ListComp elt [c1, ⟨t2, i2, [], 0⟩] scope pos) i2 1) v outs := by
  intro w A env hC g s Q D vs done G hs B F hp r hg hD hL hc hsz hQ
  unfold emitN
  refine wpAny_bind (wpAny_mono (hsrc w A env g s (fun it s₂ => codeAny (model PG w) A (.compStart (.ListComp elt [c1, ⟨t2, i2, [], 0⟩] scope pos) 1 it (.ref D) env) (fun r s' => match r with | .ok _ => Q () s' | .error e => False) s₂) G hs (B.keeps F.keep) F.inn F.env fun I fp wr Sta g₁ h₁ t₁ st V hSta hwr hfl hfp => ?_) (fun x s₁ h₁ => ?_) fun _ _ x => x)
  · have hcw : ∀ x c, env.cells.lookup x = some c → c ∉ wr := fun x c e hm => F.cellOld (hwr _ hm) x c e rfl
    have hCw : ∀ b ∈ wr, hC.get? b = none := fun b hb => Stays.none F.keep (hwr b hb)
    have F₁ := F.grow st (· ∈ fp) hfp
    have hfp1 : ∀ b ∈ fp, ∃ o, (only h₁ fun b => (∃ o, hC.get? b = some o) ∨ b ∈ fp).get? b = some o := fun b hb => let ⟨o, e⟩ := hfl b hb; ⟨o, only_get (.inr hb) e⟩
    obtain ⟨q, hq⟩ := id hp
    have off := st.off hg hq
    have hDf : D ∉ fp := fun hm => by
      rcases hfp D hm with e | ⟨o, e⟩
      · rw [hq] at e; cases e
      · rw [off] at e; cases e
    have hD1 : (only h₁ fun b => (∃ o, hC.get? b = some o) ∨ b ∈ fp).get? D = none := only_none fun h => h.elim (fun ⟨o, e⟩ => by rw [hD] at e; cases e) hDf
    have loop : codeAny (model PG w) A (.compLoop (.ListComp elt [c1, ⟨t2, i2, [], 0⟩] scope pos) 1 (.ref I) (.ref D) env) (fun r s' => match r with | .ok _ => Q () s' | .error e => False) { s with heap := h₁, toks := t₁ } :=
      compLoop_run hT G hs B F₁ (fun b o e => only_get (.inl ⟨o, e⟩) (st.stays b o (F.keep b o e))) hcw hCw hfp1 V hSta hel (hp.at fun o e => st.stays _ o e) (r.mono st.le) off hD1 hL hc hsz fun g₂ h₂ t₂ us gs F₂ hp₂ r₂ off₂ =>
        hQ g₂ h₂ t₂ us ((st.gstep F.keep).trans gs) F₂ hp₂ r₂ off₂
    exact codeAny_compStart_1 loop (wpAny_mono (V.self 0 _ (fun it' s' => codeAny (model PG w) A (.compLoop (.ListComp elt [c1, ⟨t2, i2, [], 0⟩] scope pos) 1 it' (.ref D) env) (fun r s' => match r with | .ok _ => Q () s' | .error e => False) s') hSta loop) (fun _ _ x => x) fun _ _ x => x.elim)
  · refine wpAny_bind (wpAny_standAt (wpAny_bind (wpAny_of_eq (hf env x) (wpAny_bind (wpAny_holding (wpAny_mono h₁ (fun it s₂ h₂ => ?_) fun _ _ x => x))))))
    exact wpAny_bind (wpAny_runOwn (codeAny_mono h₂ fun r s' hr => by cases r with | ok f => exact wpAny_pure hr | error e => exact hr.elim))

theorem FSt.growX {hC h : Heap} {g : Fix} {env : Env} {oc : List Str} {v : Loc} (F : FSt hC g env oc ⟨v, []⟩ h) (X : Addr → Prop) (hl : ¬ X env.locals) (hc : ∀ x ∈ oc, ∀ c, env.cells.lookup x = some c → ¬ X c) :
    FSt (only h fun b => (∃ o, hC.get? b = some o) ∨ X b) g env oc ⟨v, []⟩ h := by
  obtain ⟨m, cm, la, n, c, vv, o, d⟩ := F.body
  refine ⟨F.glob, F.blt, F.kind, only_le, F.inn, only_none fun q => q.elim (fun ⟨u, e⟩ => by rw [F.lC] at e; cases e) hl, F.lg, fun x hx => ?_, F.ocA, F.cL, m, cm, la, n, c, vv, fun x xs e => by simp at e, d⟩
  obtain ⟨cc, h1, h2, h3, h4⟩ := F.ocC x hx
  exact ⟨cc, h1, only_none fun q => q.elim (fun ⟨u, e⟩ => by rw [h2] at e; cases e) (hc x hx cc h1), h3, h4⟩

/-- a comprehension gives a list: its tree, from the first iterator on -/
noncomputable def Lc (k : Nat) (sc : Scope) (ρ : Loc) (e first : Expr) (scope : Scope) (outs : List PV) : Prop :=
  ∀ (w : World) (A : Around) (env : Env) (g : Fix) (s : Shared) (RR : Value → Addr → Result → Shared → Prop), Good k A → env.scope = sc → Based w s.heap → g.In s.heap → EnvOk s.heap g env ρ →
    (∀ D C h' tk m g', Step g s.heap g' h' → Rep g' (.ref D) (.lst outs) → h'.Ns C m → s.heap.get? C = none → g' C = none → RR (.ref D) C (.ok .next) { s with heap := h', toks := tk }) →
    W w A (eval first env) (fun x s₁ => W w A (pyIter x) (fun it s₂ => W w A (newList []) (fun acc s₃ => W w A (newFunctionEnv scope env.globals (clOf env.cells scope.names []) [] env.qual none .none (some env)) (fun cenv s₄ =>
      codeAny (model PG w) A (.compStart e 0 it acc { cenv with scope := relabel scope env }) (RR acc cenv.locals) s₄) s₃) s₂) s₁) s

structure ScopeOk (scope sc : Scope) (caps : Loc) (oc : List Str) (ρ : Loc) : Prop where
  kind : scope.kind = .function
  cap : ∀ p ∈ caps, ρ.lookup p.1 = some p.2 ∧ scope.names.lookup p.1 = some .free ∧ sc.names.lookup p.1 = some .cell ∧ (cellsFrom 0 scope.names []).lookup p.1 = none
  free : ∀ x ∈ scope.names, x.2 = .free → ∃ p ∈ caps, p.1 = x.1
  oc : ∀ x ∈ oc, scope.names.lookup x = some .cell
  loc : ∀ x ∈ scope.names, x.2 = .local → scope.names.lookup x.1 = some .local

theorem Lc.of {k : Nat} {ρ : Loc} {sc scope : Scope} {caps : Loc} {oc : List Str} {target elt iter : Expr} {rest : List Comprehension} {emit : Value → Env → Sem Unit} {tt : Bool} {pos : Pos} {items outs : List PV}
    (hT : TurnIs (.ListComp elt (⟨target, iter, [], 0⟩ :: rest) scope pos) 0 target iter.pos emit) (S : ScopeOk scope sc caps oc ρ) (hsrc : Src k sc ρ target tt iter items) (hel : Els k (relabelS scope sc) oc target tt emit caps items outs) (hsz : outs.length ≤ 1000) :
    Lc k sc ρ (.ListComp elt (⟨target, iter, [], 0⟩ :: rest) scope pos) iter scope outs := by
  intro w A env g s RR G hs B I₀ O hR
  refine hsrc w A env g s _ G hs B I₀ O fun I fp wr Sta g₂ h₂ t₂ st₂ V hst hwr hfl hfpg => ?_
  have hfp : ∀ b ∈ fp, b < h₂.objs.size := fun b hb => let ⟨o, e⟩ := hfl b hb; Heap.lt_size e
  have hcap := S.cap
  have hfree := S.free
  have hoc := S.oc
  have hkind := S.kind
  refine wpAny_newObj_type (newEnv_comp ?_)
  dsimp only
  have hD : Stays h₂ (h₂.push { cls := .type "list", dict := none, data := .seq ([] : List Value).toArray }) := fun b o e => Heap.get?_push_of_some _ e
  generalize hH : h₂.push { cls := .type "list", dict := none, data := .seq ([] : List Value).toArray } = H at hD ⊢
  have hHs : H.objs.size = h₂.objs.size + 1 := by rw [← hH, Heap.size_push]
  have hDp : H.PlainList h₂.objs.size #[] := ⟨0, by rw [← hH]; exact Heap.get?_push_size _ rfl⟩
  have stH : Step g s.heap g₂ H := st₂.trans (Step.keep st₂.inn hD)
  have F₀ := FSt.comp (hC := s.heap) (oc := oc) (caps := caps) (scope := scope) (O.step stH) hs stH.stays stH.inn hkind hcap hfree hoc
  have upH : Stays H (pushCells (H.push { cls := .type "dict", data := .dict #[] }) scope.names) := fun b o e => pushCells_keeps _ _ b o (Heap.get?_push_of_some _ e)
  have hcl : ∀ x c, (cellsFrom (H.objs.size + 1) scope.names (clOf env.cells scope.names [])).lookup x = some c → c ∉ wr ∧ c ≠ h₂.objs.size ∧ (x ∈ oc → c ∉ fp) := by
    intro x c e
    have ok := cellsFrom_ok scope.names (H.push { cls := .type "dict", data := .dict #[] }) (H.objs.size + 1) [] ⟨fun _ _ hm => (nomatch hm), List.Pairwise.nil⟩ (by rw [Heap.size_push]; exact Nat.le_refl _)
    rw [Heap.size_push] at ok
    rw [cellsFrom_append, List.lookup_append] at e
    cases q : (cellsFrom (H.objs.size + 1) scope.names []).lookup x with
    | some c' =>
      rw [q] at e
      have e : c' = c := by simpa using e
      subst e
      have hge := (ok.empty x c' (PySem.mem_of_lookup q)).2
      have hge : @LE.le Nat _ (H.objs.size + 1) c' := hge
      have nf : c' ∉ fp := fun hm => by have := Nat.lt_of_lt_of_le (hfp _ hm) (Nat.le_refl h₂.objs.size); have : @LT.lt Nat _ c' h₂.objs.size := this; omega
      exact ⟨fun hm => nf (V.sub _ hm), Nat.ne_of_gt (by omega), fun _ => nf⟩
    | none =>
      rw [q] at e
      have e : (clOf env.cells scope.names []).lookup x = some c := by simpa using e
      rw [clOf_lookup] at e
      split at e
      · rename_i hm
        obtain ⟨p, hp, rfl⟩ := hfree _ hm rfl
        obtain ⟨h1, _, h3, _⟩ := hcap p hp
        obtain ⟨mm, _, f⟩ := O.vals
        obtain ⟨v, _, q'⟩ := f p.1 p.2 h1
        rcases q' with ⟨hl, _⟩ | ⟨_, c', hc', hv⟩
        · unfold Env.kindOf at hl; rw [hs, h3] at hl; cases hl
        · rw [hc'] at e
          have e : c' = c := by simpa using e
          subst e
          obtain ⟨co, hco, _⟩ := hv
          refine ⟨fun hm => (by rw [hwr _ hm] at hco; cases hco), Nat.ne_of_lt (Heap.lt_size (st₂.stays _ _ hco)), fun hx => ?_⟩
          have hi := cellsFrom_some (x := p.1) scope.names (H.objs.size + 1) [] (.inl (hoc _ hx))
          rw [q] at hi; cases hi
      · simp at e
  have hfC : ∀ b ∈ fp, @Ne Nat b H.objs.size := fun b hb => by have : @LT.lt Nat _ b h₂.objs.size := hfp b hb; omega
  have hDC : @Ne Nat h₂.objs.size H.objs.size := by omega
  have hDn : s.heap.get? h₂.objs.size = none := st₂.stays.none (fresh_none _)
  have hCn : s.heap.get? H.objs.size = none := stH.stays.none (fresh_none _)
  have hDf : h₂.objs.size ∉ fp := fun hm => Nat.lt_irrefl _ (hfp _ hm)
  have hgD : g₂ h₂.objs.size = none := off_of_fresh st₂.inn (fresh_none _)
  have hsc : ({ newEnv scope H.objs.size env.globals (cellsFrom (H.objs.size + 1) scope.names (clOf env.cells scope.names [])) env.qual none .none (some env) builtinsNs with scope := relabel scope env } : Env).scope = relabelS scope sc := by
    show relabel scope env = _
    rw [relabel_eq, hs]
  have hcells : ∀ x c, ({ newEnv scope H.objs.size env.globals (cellsFrom (H.objs.size + 1) scope.names (clOf env.cells scope.names [])) env.qual none .none (some env) builtinsNs with scope := relabel scope env } : Env).cells.lookup x = some c → c ∉ wr ∧ c ≠ h₂.objs.size ∧ (x ∈ oc → c ∉ fp) := hcl
  have hloc : ({ newEnv scope H.objs.size env.globals (cellsFrom (H.objs.size + 1) scope.names (clOf env.cells scope.names [])) env.qual none .none (some env) builtinsNs with scope := relabel scope env } : Env).locals = H.objs.size := rfl
  show codeAny (model PG w) A (.compStart (.ListComp elt (⟨target, iter, [], 0⟩ :: rest) scope pos) 0 (.ref I) (.ref h₂.objs.size) { newEnv scope H.objs.size env.globals (cellsFrom (H.objs.size + 1) scope.names (clOf env.cells scope.names [])) env.qual none .none (some env) builtinsNs with scope := relabel scope env }) (RR (.ref h₂.objs.size) H.objs.size) _
  generalize ({ newEnv scope H.objs.size env.globals (cellsFrom (H.objs.size + 1) scope.names (clOf env.cells scope.names [])) env.qual none .none (some env) builtinsNs with scope := relabel scope env } : Env) = cenv at F₀ hsc hcells hloc ⊢
  have st1 : Step g s.heap g₂ (pushCells (H.push { cls := .type "dict", data := .dict #[] }) scope.names) := stH.trans (Step.keep stH.inn upH)
  have hstH : Sta 0 (pushCells (H.push { cls := .type "dict", data := .dict #[] }) scope.names) := V.frame _ _ _ hst fun b _ o e => upH b o (hD b o e)
  have hDp' : (pushCells (H.push { cls := .type "dict", data := .dict #[] }) scope.names).PlainList h₂.objs.size #[] := hDp.at fun o e => upH _ o e
  have hup : Stays h₂ (pushCells (H.push { cls := .type "dict", data := .dict #[] }) scope.names) := hD.trans upH
  generalize pushCells (H.push { cls := .type "dict", data := .dict #[] }) scope.names = H₁ at F₀ st1 hstH hDp' hup ⊢
  have G₀ := F₀.growX (· ∈ fp) (fun hm => by rw [hloc] at hm; exact hfC _ hm rfl) fun x hx c e => (hcells x c e).2.2 hx
  have hP0 : ∀ b ∈ fp, ∃ o, (only H₁ fun b => (∃ o, s.heap.get? b = some o) ∨ b ∈ fp).get? b = some o := fun b hb => let ⟨o, e⟩ := hfl b hb; ⟨o, only_get (.inr hb) (hup b o e)⟩
  have hD1 : (only H₁ fun b => (∃ o, s.heap.get? b = some o) ∨ b ∈ fp).get? h₂.objs.size = none := only_none fun h => h.elim (fun ⟨o, e⟩ => by rw [hDn] at e; cases e) hDf
  have loop : codeAny (model PG w) A (.compLoop (.ListComp elt (⟨target, iter, [], 0⟩ :: rest) scope pos) 0 (.ref I) (.ref h₂.objs.size) cenv) (RR (.ref h₂.objs.size) H.objs.size) { s with heap := H₁, toks := t₂ } := by
    refine compLoop_run (vs := []) (done := []) hT G hsc B G₀ (fun b o e => only_get (.inl ⟨o, e⟩) (st1.stays b o e)) (fun x c e => (hcells x c e).1) hwr hP0 V hstH hel (by simpa using hDp') .nil hgD hD1 (by rw [hloc]; exact hDC) (fun x c e => (hcells x c e).2.1) (by simpa using hsz)
      fun g' h' tk vs gs F' hp' r' off' => ?_
    obtain ⟨m, cm, la, nL, _⟩ := F'.body
    rw [hloc] at nL
    obtain ⟨nn, eD⟩ := hp'
    have hst1 : Step g s.heap g' h' := ⟨F'.keep, fun b o e => gs.1 b o (st1.le b o e), F'.inn, fun b o e => (gs.2 b o e).elim (st1.new b o) .inr⟩
    have lg : g' H.objs.size = none := by have := F'.lg; rwa [hloc] at this
    refine hR h₂.objs.size H.objs.size h' tk m (g'.put h₂.objs.size _) (hst1.freeze hDn off' eD) (Rep.ofLst Fix.put_self rfl rfl ((by simpa using r' : RepL g' vs outs).mono (Fix.le_put off'))) nL hCn ?_
    show (if H.objs.size = h₂.objs.size then _ else g' H.objs.size) = none
    rw [if_neg (Ne.symm hDC), lg]
  exact codeAny_compStart_list loop (wpAny_mono (V.self 0 _ _ hstH loop) (fun _ _ x => x) fun _ _ x => x.elim)

theorem Lc.closure {env : Env} {h : Heap} {g : Fix} {ρ caps : Loc} {sc scope : Scope} {oc : List Str} (S : ScopeOk scope sc caps oc ρ) (hs : env.scope = sc) (O : EnvOk h g env ρ) : closureFor scope env = pure (clOf env.cells scope.names []) := by
  refine closureFor_is fun x hx hf => ?_
  obtain ⟨p, hp, e⟩ := S.free x hx hf
  obtain ⟨h1, _, h3, _⟩ := S.cap p hp
  obtain ⟨m, n, f⟩ := O.vals
  obtain ⟨v, _, q⟩ := f _ _ h1
  rcases q with ⟨hl, _⟩ | ⟨_, c, hc, _⟩
  · unfold Env.kindOf at hl; rw [hs, h3] at hl; cases hl
  · exact ⟨c, e ▸ hc⟩

theorem Ev.comp {k : Nat} {ρ : Loc} {sc scope : Scope} {caps : Loc} {oc : List Str} {target elt iter : Expr} {rest : List Comprehension} {pos : Pos} {outs : List PV} (S : ScopeOk scope sc caps oc ρ)
    (L : Lc k sc ρ (.ListComp elt (⟨target, iter, [], 0⟩ :: rest) scope pos) iter scope outs) (hf : ∀ env x, foldedSetIterable iter env x = pure x := by intro _ _; rfl) : Ev k sc ρ (.ListComp elt (⟨target, iter, [], 0⟩ :: rest) scope pos) (.lst outs) := by
  intro w A env g s Q G hs B I O hQ
  rw [eval_ListComp]
  refine wpAny_comprehension_free (use := none) rfl (hf env) (Lc.closure S hs O) S.kind S.loc ?_
  refine L w A env g s (fun acc C => compPost (model PG w) A (fun _ _ => False) none Q acc C) G hs B I O fun D C h' tk m g' st r n hC hg => ?_
  refine ⟨m, n, fun h'' sb => ?_⟩
  refine hQ (.ref D) g' h'' tk ⟨fun b o e => ?_, st.le, fun b o e => ?_, st.new⟩ r
  · exact sb.extBut b o (fun q => by rw [q, hC] at e; cases e) (st.stays b o e)
  · exact sb.extBut b o (fun q => by rw [q, hg] at e; cases e) (st.inn b o e)

theorem Ex.assignU {k : Nat} {σ : St} {sc scope : Scope} {caps : Loc} {oc oc' : List Str} {target elt iter : Expr} {rest : List Comprehension} {y : Str} {py pos spos : Pos} {outs : List PV} (S : ScopeOk scope sc caps oc' σ.v)
    (L : Lc k sc σ.v (.ListComp elt (⟨target, iter, [], 0⟩ :: rest) scope pos) iter scope outs) (hy : sc.names.lookup y = some .local)
    (hsw : ∀ env : Env, env.scope = sc → swapsWith (.ListComp elt (⟨target, iter, [], 0⟩ :: rest) scope pos) (some (.Name y py)) spos.line env = pure true) (hf : ∀ env x, foldedSetIterable iter env x = pure x := by intro _ _; rfl) :
    Ex k sc oc σ (.Assign [.Name y py] (.ListComp elt (⟨target, iter, [], 0⟩ :: rest) scope pos) spos) .next (σ.setV y (.lst outs)) := by
  intro w A env hC g s Q G hs B F hQ
  rw [exec_Assign_Name_used _ _ _ _ (hsw env hs)]
  refine wpAny_bind (wpAny_standAt (wpAny_bind ?_))
  show wpAny _ A (do let _ ← comprehension (.ListComp elt (⟨target, iter, [], 0⟩ :: rest) scope pos) scope env _ (newList []) false (eval iter env) (some (PySem.assign (.Name y py) env))) _ _ s
  refine wpAny_bind (wpAny_mono (wpAny_comprehension_free (use := some (PySem.assign (.Name y py) env)) (Q := fun _ s' => Q .next s') rfl (hf env) (Lc.closure S hs F.env) S.kind S.loc ?_) (fun _ s' hq => wpAny_pure (wpAny_pure hq)) fun _ _ e => e)
  refine L w A env g s (fun acc C => compPost (model PG w) A (fun _ _ => False) (some (PySem.assign (.Name y py) env)) (fun _ s' => Q .next s') acc C) G hs (B.keeps F.keep) F.inn F.env fun D C h' tk m g' st r n hCn hg => ?_
  show W w A (PySem.assign (.Name y py) env (.ref D)) _ _
  have F₁ := F.grow st (· = C) (fun b e => .inl (e ▸ hCn))
  have hkC : Stays hC (only h' fun b => (∃ o, hC.get? b = some o) ∨ b = C) := fun b o e => only_get (.inl ⟨o, e⟩) (st.stays _ _ (F.keep b o e))
  obtain ⟨oC, hoC⟩ := Ns.some n
  have hC1 : (only h' fun b => (∃ o, hC.get? b = some o) ∨ b = C).get? C = some oC := only_get (.inr rfl) hoC
  have hLC : C ≠ env.locals := fun e => by have := F₁.lC; rw [← e, hC1] at this; cases this
  refine PySem.wpAny_assign_Name (F₁.store (.inl (by unfold Env.kindOf; rw [hs]; exact hy)) r fun h₂ t₂ F₂ k₂ => ?_)
  refine ⟨m, n.at' fun o e => k₂ _ o e hLC fun x _ q => F.cellOld hCn x C q rfl, fun h₃ sb => ?_⟩
  have F₃ := F₂.shift (h₂ := h₃) [C] (fun b o hb e => sb.extBut b o (fun q => hb (by rw [q]; exact .head _)) e) (fun b hb => by rw [List.mem_singleton.mp hb]; exact ⟨oC, hC1⟩) (fun b hb => by rw [List.mem_singleton.mp hb]; exact hg) (fun x c e hm => F.cellOld hCn x c e (List.mem_singleton.mp hm))
  refine hQ .next g' h₃ t₂ rfl (st.gstep F.keep) (F₃.weak fun b o e => only_get ⟨o, hkC b o e⟩ ?_)
  exact sb.extBut b o (fun q => by rw [q, Stays.none F.keep hCn] at e; cases e) (F₂.keep b o (hkC b o e))
end Mine
end

section
open PySem PySem.W PySem.Calls PyProof.Rows
namespace Mine

/-! ## calls of the program's functions -/
theorem bindL_not {kd : Str → Option NameKind} {x : Str} : ∀ (b : List (Str × Value)) (m : Str → Option Value), x ∉ b.map (·.1) → bindL kd b m x = m x
  | [], m, _ => rfl
  | (n, v) :: r, m, h => by
    have hn : x ≠ n := fun e => h (by rw [e]; exact .head _)
    have hr : x ∉ r.map (·.1) := fun e => h (.tail _ e)
    unfold bindL
    rw [bindL_not r _ hr]
    split
    · simp [hn]
    · rfl
theorem bindC_not {kd : Str → Option NameKind} {x : Str} : ∀ (b : List (Str × Value)) (m : Str → Option Value), x ∉ b.map (·.1) → bindC kd b m x = m x
  | [], m, _ => rfl
  | (n, v) :: r, m, h => by
    have hn : x ≠ n := fun e => h (by rw [e]; exact .head _)
    have hr : x ∉ r.map (·.1) := fun e => h (.tail _ e)
    unfold bindC
    rw [bindC_not r _ hr]
    split
    · rfl
    · simp [hn]
theorem bindL_get {kd : Str → Option NameKind} {x : Str} {v : Value} (hk : kd x = some .local) : ∀ (b : List (Str × Value)) (m : Str → Option Value), (b.map (·.1)).Nodup → b.lookup x = some v → bindL kd b m x = some v
  | [], m, _, h => by simp at h
  | (n, u) :: r, m, hd, h => by
    have hd := List.nodup_cons.mp hd
    unfold bindL
    rw [List.lookup_cons] at h
    cases hx : x == n with
    | true =>
      rw [hx] at h
      have e := beq_iff_eq.mp hx
      subst e
      cases h
      rw [bindL_not r _ hd.1, if_pos hk]; simp
    | false => rw [hx] at h; exact bindL_get hk r _ hd.2 h
theorem bindC_get {kd : Str → Option NameKind} {x : Str} {v : Value} (hk : kd x = some .cell) : ∀ (b : List (Str × Value)) (m : Str → Option Value), (b.map (·.1)).Nodup → b.lookup x = some v → bindC kd b m x = some v
  | [], m, _, h => by simp at h
  | (n, u) :: r, m, hd, h => by
    have hd := List.nodup_cons.mp hd
    unfold bindC
    rw [List.lookup_cons] at h
    cases hx : x == n with
    | true =>
      rw [hx] at h
      have e := beq_iff_eq.mp hx
      subst e
      cases h
      rw [bindC_not r _ hd.1, if_neg (by rw [hk]; decide)]; simp
    | false => rw [hx] at h; exact bindC_get hk r _ hd.2 h

structure FnAt (w : World) (f : Addr) (sc : Scope) (body : List Stmt) (fd : FuncData) : Prop where
  obj : ∃ o, (KK w).lookup f = some o ∧ o.data = .func fd
  code : codeIn (KK w) fd.code fd.qualname = true
  body : fd.body = .stmts body
  clo : fd.closure = []
  glob : fd.globals = mainGlobals
  blt : fd.builtins = builtinsNs
  sc : fd.scope = sc

structure FnSc (sc : Scope) (oc names : List Str) : Prop where
  co : sc.isCoroutine = false
  gen : sc.isGenerator = false
  kind : sc.kind = .function
  nd : names.Nodup
  par : ∀ x ∈ names, sc.names.lookup x = some .local ∨ sc.names.lookup x = some .cell
  oc : ∀ x ∈ oc, sc.names.lookup x = some .cell

theorem Good.deep {k : Nat} {A : Around} (G : Good (k + 1) A) (env : Env) : Good k (A.deeper env) := ⟨G.hh, by have := G.dep; show A.depth + 1 + k < 900; omega, by have := G.un; show A.units + 3 + 30 * k < 9000; omega⟩

theorem run_fn {k : Nat} {w : World} {A : Around} {f : Addr} {sc : Scope} {body : List Stmt} {fd : FuncData} {args : Args} {binds : List (Str × Value)} {σ σ' : St} {oc : List Str} {fl : Fl} {hC : Heap} {g : Fix} {s : Shared} {Q : Value → Shared → Prop}
    (hf : FnAt w f sc body fd) (S : FnSc sc oc (binds.map (·.1))) (G : Good (k + 1) A) (B : Based w hC) (hk : Stays hC s.heap) (I : g.In s.heap) (hb : BindsTo s fd args binds)
    (hv : ∀ x pv, σ.v.lookup x = some pv → ∃ v, binds.lookup x = some v ∧ Rep g v pv) (h1 : ∀ x y, (σ.o.lookup x).isSome = true → (σ.o.lookup y).isSome = true → x = y)
    (ho : ∀ x xs, σ.o.lookup x = some xs → ∃ l vs, binds.lookup x = some (.ref l) ∧ sc.names.lookup x = some .local ∧ s.heap.PlainList l (List.toArray vs) ∧ RepL g vs xs ∧ hC.get? l = none ∧ g l = none)
    (hx : Exs k sc oc σ body fl σ') (hQ : ∀ f' v g' h' tk env, FlOk g' fl f' → v = (match f' with | .ret v => v | _ => .none) → GStep hC g g' → FSt hC g' env oc σ' h' → (∃ m, h'.Ns env.locals m ∧ ∀ x l, binds.lookup x = some (.ref l) → True) → Q v { s with heap := h', toks := tk }) :
    W w A (call (.ref f) args.pos args.kw) Q s := by
  obtain ⟨o, hKo, hod⟩ := hf.obj
  have B' := B.keeps hk
  have X := B'.inK
  obtain ⟨me, mg, mb, T⟩ := B'.top
  refine wpAny_call (codeAny_call_function (by have := G.dep; show A.depth < recursionLimit; unfold recursionLimit; omega) (X _ _ hKo) hod (by rw [hf.sc]; exact S.co) (by rw [hf.sc]; exact S.gen) hf.body (codeRec_of X hf.code) (hb _ _ _ _ ?_))
  rw [hf.clo, hf.sc, hf.glob, hf.blt]
  refine wpAny_newFunctionEnv_cells S.kind (fun x hx => ?_) fun env he s' C => ?_
  · have := S.par x.1 (List.mem_map.mpr ⟨x, hx, rfl⟩)
    exact this.imp id fun e => ⟨e, cellsFrom_some _ _ _ (.inl e)⟩
  · have hsc : env.scope = sc := by rw [he]; rfl
    have hgl : env.globals = mainGlobals := by rw [he]; rfl
    have hbl : env.builtins = builtinsNs := by rw [he]; rfl
    have hcs : env.cells = cellsFrom (s.heap.objs.size + 1) sc.names [] := by rw [he]; rfl
    refine ⟨T.nolimit.keeps C.toInCall.keep, codeAny_func ?_⟩
    obtain ⟨h₁, tk₁, rfl⟩ := C.toInCall.same
    have keep : Stays s.heap h₁ := C.toInCall.keep
    have fresh := C.toInCall.fresh
    have hLn : s.heap.get? env.locals = none := get_none_ge fresh
    have hcn : ∀ n c, env.cells.lookup n = some c → s.heap.get? c = none ∧ c ≠ env.locals := fun n c e => by
      have h : @LT.lt Nat _ env.locals c := C.above n c (mem_of_lookup e)
      exact ⟨get_none_ge (Nat.le_trans fresh (Nat.le_of_lt h)), Nat.ne_of_gt h⟩
    have F : FSt hC g env oc σ h₁ := by
      refine ⟨hgl, hbl, by rw [hsc]; exact S.kind, hk.trans keep, fun b o e => keep b o (I b o e), hk.none hLn, off_of_fresh I hLn, fun x hx => ?_, fun x hx y c e1 e2 => ?_, fun x c e => (hcn x c e).2, _, _, fun x => (match binds.lookup x with | some (.ref l) => l | _ => 0),
        C.toInCall.ns, fun x c e => C.cell x c e, fun x pv e => ?_, fun x xs e => ?_, fun x y hx hy _ => h1 x y hx hy⟩
      · have hi := cellsFrom_some (x := x) sc.names (s.heap.objs.size + 1) [] (.inl (S.oc x hx))
        obtain ⟨c, hc⟩ := Option.isSome_iff_exists.mp hi
        rw [← hcs] at hc
        have hn := (hcn x c hc).1
        exact ⟨c, hc, hk.none hn, off_of_fresh I hn, by unfold Env.kindOf; rw [hsc]; exact S.oc x hx⟩
      · exact name_of_addr C.apart (mem_of_lookup e2) (mem_of_lookup e1)
      · obtain ⟨v, hb', r⟩ := hv x pv e
        refine ⟨v, r, ?_⟩
        have hm : x ∈ binds.map (·.1) := List.mem_map.mpr ⟨_, mem_of_lookup hb', rfl⟩
        rcases S.par x hm with hl | hl
        · have hk' : env.kindOf x = some .local := by unfold Env.kindOf; rw [hsc]; exact hl
          exact .inl ⟨hk', bindL_get hk' binds _ S.nd hb'⟩
        · have hk' : env.kindOf x = some .cell := by unfold Env.kindOf; rw [hsc]; exact hl
          have hi := cellsFrom_some (x := x) sc.names (s.heap.objs.size + 1) [] (.inl hl)
          obtain ⟨c, hc⟩ := Option.isSome_iff_exists.mp hi
          exact .inr ⟨hk', ⟨c, by rw [hcs]; exact hc⟩, bindC_get hk' binds _ S.nd hb'⟩
      · obtain ⟨l, vs, hb', hl, ⟨q, hq⟩, r, hlC, hlg⟩ := ho x xs e
        have hk' : env.kindOf x = some .local := by unfold Env.kindOf; rw [hsc]; exact hl
        have hla : (match binds.lookup x with | some (.ref l) => l | _ => (0 : Addr)) = l := by rw [hb']
        refine ⟨hk', ?_, ?_, ?_, ?_, ?_, ?_⟩
        · show bindL _ _ _ x = some (.ref (match binds.lookup x with | some (.ref l) => l | _ => (0 : Addr)))
          rw [hla]; exact bindL_get hk' binds _ S.nd hb'
        · show ∃ vs, Heap.PlainList _ (match binds.lookup x with | some (.ref l) => l | _ => (0 : Addr)) _ ∧ _
          rw [hla]; exact ⟨vs, ⟨q, keep _ _ hq⟩, r⟩
        · show g (match binds.lookup x with | some (.ref l) => l | _ => (0 : Addr)) = none
          rw [hla]; exact hlg
        · show hC.get? (match binds.lookup x with | some (.ref l) => l | _ => (0 : Addr)) = none
          rw [hla]; exact hlC
        · show (match binds.lookup x with | some (.ref l) => l | _ => (0 : Addr)) ≠ _
          rw [hla]; exact fun e => by rw [e, hLn] at hq; cases hq
        · intro y c e
          show c ≠ (match binds.lookup x with | some (.ref l) => l | _ => (0 : Addr))
          rw [hla]; exact fun e' => by rw [← e', (hcn y c e).1] at hq; cases hq
    refine wpAny_mono (hx w (A.deeper env) env hC g { s with heap := h₁, toks := tk₁ } (fun f' s₂ => ∃ v, v = (match f' with | .ret v => v | _ => .none) ∧ Q v s₂) (G.deep env) hsc B F fun f' g' h' tk hf' gs F' => ⟨_, rfl, hQ f' _ g' h' tk env hf' rfl gs F' ?_⟩) (fun f' s₂ h₂ => ?_) fun _ _ x => x.elim
    · obtain ⟨m, cm, la, n, _⟩ := F'.body
      exact ⟨m, n, fun _ _ _ => trivial⟩
    · obtain ⟨v, rfl, h₂⟩ := h₂
      exact h₂
end Mine
end

section
open PySem PySem.W PySem.Calls PyProof.Rows
namespace Mine

/-! ## contracts of functions -/
theorem zip_rep {g : Fix} : ∀ {ns : List Str} {ws : List Value} {pvs : List PV}, RepL g ws pvs → ∀ {x : Str} {pv : PV}, (ns.zip pvs).lookup x = some pv → ∃ v, (ns.zip ws).lookup x = some v ∧ Rep g v pv
  | [], ws, pvs, _, x, pv, h => by simp at h
  | n :: ns, ws, [], r, x, pv, h => by simp at h
  | n :: ns, ws, p :: pvs, r, x, pv, h => by
    simp only [RepL] at r
    obtain ⟨v, ws', rfl, hv, hr⟩ := r
    rw [List.zip_cons_cons, List.lookup_cons] at h
    rw [List.zip_cons_cons, List.lookup_cons]
    cases hx : x == n with
    | true => rw [hx] at h; cases h; exact ⟨v, rfl, hv⟩
    | false => rw [hx] at h; exact zip_rep hr h
theorem zip_fst {β : Type} : ∀ {ns : List Str} {ws : List β}, ns.length = ws.length → (ns.zip ws).map (·.1) = ns
  | [], _, _ => by simp
  | n :: ns, [], h => by simp at h
  | n :: ns, w :: ws, h => by simp at h; simp [zip_fst h]

theorem CallOk.fn {k : Nat} {f : Addr} {sc : Scope} {body : List Stmt} {oc ns : List Str} {xs pvs : List PV} {pv : PV} {σ' : St} (S : FnSc sc oc ns) (hn : ns.length = pvs.length)
    (hf : ∀ w, ∃ fd, FnAt w f sc body fd ∧ ∀ (s : Shared) (g : Fix) (vs : List Value), (KK w).In s.heap → RepL g vs xs → ∃ ws, BindsTo s fd ⟨vs, []⟩ (ns.zip ws) ∧ RepL g ws pvs)
    (hx : Exs k sc oc ⟨ns.zip pvs, []⟩ body (.ret pv) σ') : CallOk (k + 1) (.ref f) xs pv := by
  intro w A g s Q vs G B I r hQ
  obtain ⟨fd, hfd, hb⟩ := hf w
  obtain ⟨ws, hbi, rw'⟩ := hb s g vs B.inK r
  have hfst : (ns.zip ws).map (·.1) = ns := zip_fst (by rw [hn, rw'.length])
  refine run_fn (args := ⟨vs, []⟩) hfd (by rw [hfst]; exact S) G B (Stays.refl _) I hbi (fun x p e => zip_rep rw' e) (fun x y h => by simp at h) (fun x xs e => by simp at e) hx fun f' v g' h' tk env hfl hv gs F _ => ?_
  obtain ⟨u', rfl, ru⟩ := hfl
  have hv : v = u' := hv
  rw [hv]
  exact hQ u' g' h' tk ⟨F.keep, gs.1, F.inn, gs.2⟩ ru
theorem CallKw.fn {k : Nat} {f : Addr} {sc : Scope} {body : List Stmt} {oc ns : List Str} {xs pvs : List PV} {n : Str} {kv pv : PV} {σ' : St} (S : FnSc sc oc ns) (hn : ns.length = pvs.length)
    (hf : ∀ w, ∃ fd, FnAt w f sc body fd ∧ ∀ (s : Shared) (g : Fix) (vs : List Value) (u : Value), (KK w).In s.heap → RepL g vs xs → Rep g u kv → ∃ ws, BindsTo s fd ⟨vs, [(n, u)]⟩ (ns.zip ws) ∧ RepL g ws pvs)
    (hx : Exs k sc oc ⟨ns.zip pvs, []⟩ body (.ret pv) σ') : CallKw (k + 1) (.ref f) xs n kv pv := by
  intro w A g s Q vs u G B I r ru hQ
  obtain ⟨fd, hfd, hb⟩ := hf w
  obtain ⟨ws, hbi, rw'⟩ := hb s g vs u B.inK r ru
  have hfst : (ns.zip ws).map (·.1) = ns := zip_fst (by rw [hn, rw'.length])
  refine run_fn (args := ⟨vs, [(n, u)]⟩) hfd (by rw [hfst]; exact S) G B (Stays.refl _) I hbi (fun x p e => zip_rep rw' e) (fun x y h => by simp at h) (fun x xs e => by simp at e) hx fun f' v g' h' tk env hfl hv gs F _ => ?_
  obtain ⟨u', rfl, ru⟩ := hfl
  have hv : v = u' := hv
  rw [hv]
  exact hQ u' g' h' tk ⟨F.keep, gs.1, F.inn, gs.2⟩ ru
theorem MutKw.fn {k : Nat} {f : Addr} {sc : Scope} {body : List Stmt} {an : Str} {ns : List Str} {xs ys pvs : List PV} {n : Str} {kv pv : PV} {σ' : Addr → St} (S : FnSc sc [] (an :: ns)) (hn : ns.length = pvs.length) (hal : sc.names.lookup an = some .local)
    (hf : ∀ w, ∃ fd, FnAt w f sc body fd ∧ ∀ (s : Shared) (g : Fix) (l : Addr) (v u : Value), (KK w).In s.heap → Rep g v pv → Rep g u kv → ∃ ws, BindsTo s fd ⟨[.ref l, v], [(n, u)]⟩ ((an :: ns).zip (.ref l :: ws)) ∧ RepL g ws pvs)
    (hx : ∀ l, Exs k sc [] ⟨(an :: ns).zip (.fn l :: pvs), [(an, xs)]⟩ body .next (σ' l)) (hv : ∀ l, (σ' l).v.lookup an = some (.fn l)) (ho : ∀ l, (σ' l).o.lookup an = some ys) : MutKw (k + 1) f xs pv n kv ys := by
  intro w A hC g s Q l vs v u G B hk hlC hlg I hp r rv ru hQ
  obtain ⟨fd, hfd, hb⟩ := hf w
  obtain ⟨ws, hbi, rw'⟩ := hb s g l v u (B.keeps hk).inK rv ru
  have rl : RepL g (.ref l :: ws) (.fn l :: pvs) := .cons (by simp only [Rep]) rw'
  have hfst : ((an :: ns).zip (.ref l :: ws)).map (·.1) = an :: ns := zip_fst (by simp [hn, rw'.length])
  refine run_fn (args := ⟨[.ref l, v], [(n, u)]⟩) hfd (by rw [hfst]; exact S) G B hk I hbi (fun x p e => zip_rep rl e) (fun x y h h' => ?_) (fun x zs e => ?_) (hx l) fun f' v g' h' tk env hfl hv' gs F _ => ?_
  · have aux : ∀ x, ((List.lookup x [(an, xs)]).isSome = true) → x = an := fun x h => by
      rw [List.lookup_cons] at h
      cases hx : x == an with
      | true => exact beq_iff_eq.mp hx
      | false => rw [hx] at h; simp at h
    rw [aux x h, aux y h']
  · have e' : List.lookup x [(an, xs)] = some zs := e
    rw [List.lookup_cons] at e'
    cases hx : x == an with
    | false => rw [hx] at e'; simp at e'
    | true =>
      rw [hx] at e'
      cases e'
      have := beq_iff_eq.mp hx
      subst this
      exact ⟨l, vs, by simp, hal, hp, r, hlC, hlg⟩
  · have hfl : f' = .next := hfl
    subst hfl
    subst hv'
    obtain ⟨m, cm, la, nL, c, vv, oo, d⟩ := F.body
    have O := oo an ys (ho l)
    obtain ⟨q, rq, bq⟩ := vv an _ (hv l)
    simp only [Rep] at rq
    subst rq
    have hla : la an = l := by
      rcases bq with ⟨_, e⟩ | ⟨e, _⟩
      · have e2 := O.val
        rw [e] at e2
        injection e2 with e2
        injection e2 with e2
        exact e2.symm
      · rw [O.kind] at e; cases e
    obtain ⟨us, hp', r'⟩ := O.list
    have og := O.offg
    rw [hla] at hp' og
    exact hQ g' h' us tk F.keep gs F.inn og hp' r'

/-! ## more that is gone over -/
theorem Wk.ofT {w : World} {A : Around} {es : List Expr} {kk : Nat} {p : Pos} {I : Addr} {fp wr : List Addr} {n : Nat} {Pt : Nat → Array Value → Prop} {Sta : Nat → Heap → Prop} {Mid : Nat → Addr → Heap → Prop} {items : List PV} {g₀ : Fix}
    (V : WalksT PG w A I fp wr n Pt Sta Mid) (hn : n = items.length) (hoff : ∀ b ∈ wr, g₀ b = none) (hlive : ∀ i h, Sta i h → ∀ b ∈ wr, ∃ o, h.get? b = some o)
    (hP : ∀ i pv vals, items[i]? = some pv → Pt i vals → ∃ xs, pv = .tup xs ∧ RepL g₀ vals.toList xs) : Wk w A (.Tuple es kk p) true I fp wr items g₀ Sta := by
  subst hn
  refine ⟨V.sub, hoff, hlive, V.frame, fun i pv s K2 hi st _ hK => ?_, fun s K st hK => V.done s K _ st hK, fun i s K st hK => V.self i s K _ st hK⟩
  have hlt : i < items.length := by rw [List.getElem?_eq_some_iff] at hi; exact hi.1
  refine V.item i s _ _ hlt st fun T vals h' tk hpt hge hT hmid hk => ⟨.ref T, rfl, ?_⟩
  refine V.go es kk p i T _ _ _ hmid fun h'' hst hk2 => ?_
  obtain ⟨xs, rfl, r⟩ := hP i pv vals hi hpt
  refine hK (.ref T) h'' tk hst ⟨xs, T, vals.toList, .inl rfl, rfl, .inl ?_, r⟩ fun b o hb e => hk2 b o hb (hk b o hb e)
  obtain ⟨o, ho, hc, nn, hd⟩ := hT
  refine ⟨o, hk2 _ o (V.apart _ _ _ hmid) ho, hc, nn, ?_⟩
  rw [Array.toArray_toList]; exact hd

section
variable {k : Nat} {sc : Scope} {ρ : Loc}
noncomputable def rangePV (a : Int) (n : Nat) : List PV := (List.range n).map fun i => .int (a + (i : Nat))
theorem rangePV_length (a : Int) (n : Nat) : (rangePV a n).length = n := by simp [rangePV]
theorem Wk.range {w : World} {A : Around} {x : Str} {p : Pos} {g₀ : Fix} (hh : A.handled = none) (I : Addr) (a : Int) (n : Nat) (hI : g₀ I = none) :
    Wk w A (.Name x p) false I [I] [I] (rangePV a n) g₀ (fun i h => IsRangeIter h I (a + (i : Nat) * 1) ((n : Int) - (i : Nat)) 1) := by
  have V := Walks.range (prog := PG) (w := w) hh I a 1 n
  refine ⟨V.sub, fun b hb => by rw [List.mem_singleton.mp hb]; exact hI, (fun i h st b hb => by rw [List.mem_singleton.mp hb]; exact ⟨_, st⟩), V.frame, fun i pv s K2 hi st _ hK => ?_, fun s K st hK => ?_, fun i s K st hK => V.self i s K _ st hK⟩
  · have hlt : i < n := by rw [List.getElem?_eq_some_iff] at hi; have := hi.1; rwa [rangePV_length] at this
    refine V.item i s _ _ hlt st fun v h' tk hv st' hk => ⟨v, rfl, wpAny_pure (hK v h' tk st' ?_ hk)⟩
    obtain ⟨t, rfl⟩ := hv
    have : pv = .int (a + i) := by
      unfold rangePV at hi
      rw [List.getElem?_map, List.getElem?_range hlt] at hi
      simpa using hi.symm
    subst this
    show Rep g₀ _ _
    rw [Int.mul_one]; exact .ofInt
  · rw [rangePV_length] at st
    exact V.done s K _ st hK

theorem pyIter_range {w : World} {A : Around} {x : Str} {p : Pos} {g : Fix} {s : Shared} {Q : Value → Shared → Prop} {r : Addr} {a b : Int} {t u v : Tok} (hh : A.handled = none) (I : g.In s.heap) (hr : IsRange s.heap r a b 1 t u v) (hs : Builtin.Range.small a b 1 = true)
    (hQ : ∀ J fp wr Sta h' tk, Stays s.heap h' → Wk w A (.Name x p) false J fp wr (rangePV a (b - a).toNat) g Sta → Sta 0 h' → (∀ b ∈ wr, s.heap.get? b = none) → (∀ b ∈ fp, ∃ o, h'.get? b = some o) → (∀ b ∈ fp, s.heap.get? b = none) → Q (.ref J) { s with heap := h', toks := tk }) :
    W w A (pyIter (.ref r)) Q s := by
  refine wpAny_pyIter_range hr hs ?_
  refine hQ s.heap.objs.size _ _ _ _ s.toks (fun b o e => Heap.get?_push_of_some _ e) (Wk.range hh s.heap.objs.size a (b - a).toNat (off_of_fresh I (fresh_none _))) ?_ ?_ ?_ ?_
  · have e : Builtin.Range.rangeSize a b 1 = ((b - a).toNat : Int) := rangeSize_nat a b
    show IsRangeIter _ _ _ _ _
    rw [e]
    have e1 : a + ((0 : Nat) : Int) * 1 = a := by simp
    have e2 : ((b - a).toNat : Int) - ((0 : Nat) : Int) = ((b - a).toNat : Int) := by simp
    rw [e1, e2]
    exact Heap.get?_push_size _ rfl
  · intro b hb; rw [List.mem_singleton.mp hb]; exact fresh_none _
  · intro b hb; rw [List.mem_singleton.mp hb]; exact ⟨_, Heap.get?_push_size _ rfl⟩
  · intro b hb; rw [List.mem_singleton.mp hb]; exact fresh_none _

theorem Src.range1 {f e : Expr} {x : Str} {p pos : Pos} {n : Int} (hf : Ev k sc ρ f (.ty "range")) (ha : EvL k sc ρ [e] [.int n]) (hs : Builtin.Range.small 0 n 1 = true)
    (he : ∀ env, eval (.Call f [e] [] pos) env = (do callWith pos (← eval f env) [] (backTo pos (starEach [e] env)) (backToKw pos (keywordEach [] env))) := by intro _; rfl)
    (hst : ∀ env, starEach [e] env = (false, eval e env) :: starEach [] env := by intro _; rfl) : Src k sc ρ (.Name x p) false (.Call f [e] [] pos) (rangePV 0 n.toNat) := by
  intro w A env g s Q G hsc B I O hQ
  refine Call_ (hf w A env g s _ G hsc B I O fun v g₁ h₁ t₁ s₁ r₁ => ?_) (he env)
  simp only [Rep] at r₁; subst r₁
  refine PyProof.Rows.callWith_type1 (ha w A env g₁ _ _ pos G hsc (B.keeps s₁.stays) s₁.inn (O.step s₁) fun vs g₂ h₂ t₂ s₂ r₂ => ?_) (hst env) (by rfl)
  obtain ⟨v, rfl, rv⟩ := r₂.single
  obtain ⟨tn, rfl⟩ := rv.int
  refine call_range_1 ?_
  have st := s₁.trans s₂
  have st3 := st.trans (Step.keep (h' := h₂.push { cls := .type "range", data := .fields #[.int 0 t₂, .int n tn, .int 1 (t₂ + 1)] }) st.inn fun b o e => Heap.get?_push_of_some _ e)
  refine pyIter_range (x := x) (p := p) G.hh st3.inn (IsRange.new ..) hs fun J fp wr Sta h' tk hk V hS hw hl hf => ?_
  rw [Int.sub_zero] at V
  exact hQ J fp wr Sta g₂ h' tk (st3.trans (Step.keep st3.inn hk)) V hS (fun b hb => st3.stays.none (hw b hb)) hl fun b hb => .inl (st3.stays.none (hf b hb))
theorem Src.range2 {f e e2 : Expr} {x : Str} {p pos : Pos} {a b : Int} (hf : Ev k sc ρ f (.ty "range")) (ha : EvL k sc ρ [e, e2] [.int a, .int b]) (hs : Builtin.Range.small a b 1 = true)
    (he : ∀ env, eval (.Call f [e, e2] [] pos) env = (do callWith pos (← eval f env) [] (backTo pos (starEach [e, e2] env)) (backToKw pos (keywordEach [] env))) := by intro _; rfl)
    (hst : ∀ env, starEach [e, e2] env = (false, eval e env) :: starEach [e2] env := by intro _; rfl) (hpl : ∀ env, (backTo pos (starEach [e2] env)).any (·.1) = false := by intro _; rfl) : Src k sc ρ (.Name x p) false (.Call f [e, e2] [] pos) (rangePV a (b - a).toNat) := by
  intro w A env g s Q G hsc B I O hQ
  refine Call_ (hf w A env g s _ G hsc B I O fun v g₁ h₁ t₁ s₁ r₁ => ?_) (he env)
  simp only [Rep] at r₁; subst r₁
  refine PyProof.Rows.callWith_type1 (ha w A env g₁ _ _ pos G hsc (B.keeps s₁.stays) s₁.inn (O.step s₁) fun vs g₂ h₂ t₂ s₂ r₂ => ?_) (hst env) (hpl env)
  obtain ⟨va, vb, rfl, ra, rb⟩ := r₂.two
  obtain ⟨ta, rfl⟩ := ra.int
  obtain ⟨tb, rfl⟩ := rb.int
  refine call_range_2 ?_
  have st := s₁.trans s₂
  have st3 := st.trans (Step.keep (h' := h₂.push { cls := .type "range", data := .fields #[.int a ta, .int b tb, .int 1 t₂] }) st.inn fun b o e => Heap.get?_push_of_some _ e)
  refine pyIter_range (x := x) (p := p) G.hh st3.inn (IsRange.new ..) hs fun J fp wr Sta h' tk hk V hS hw hl hf => ?_
  exact hQ J fp wr Sta g₂ h' tk (st3.trans (Step.keep st3.inn hk)) V hS (fun b hb => st3.stays.none (hw b hb)) hl fun b hb => .inl (st3.stays.none (hf b hb))

noncomputable def enumPV (xs : List PV) : List PV := (List.range xs.length).map fun i => .tup [.int (i : Nat), xs.getD i .none]
noncomputable def zipPV (xs ys : List PV) : List PV := List.zipWith (fun a b => .tup [a, b]) xs ys

theorem Src.enum {f e : Expr} {es : List Expr} {kk : Nat} {p pos : Pos} {xs : List PV} (hf : Ev k sc ρ f (.ty "enumerate")) (ha : EvL k sc ρ [e] [.lst xs])
    (he : ∀ env, eval (.Call f [e] [] pos) env = (do callWith pos (← eval f env) [] (backTo pos (starEach [e] env)) (backToKw pos (keywordEach [] env))) := by intro _; rfl)
    (hst : ∀ env, starEach [e] env = (false, eval e env) :: starEach [] env := by intro _; rfl) : Src k sc ρ (.Tuple es kk p) true (.Call f [e] [] pos) (enumPV xs) := by
  intro w A env g s Q G hsc B I O hQ
  refine Call_ (hf w A env g s _ G hsc B I O fun v g₁ h₁ t₁ s₁ r₁ => ?_) (he env)
  simp only [Rep] at r₁; subst r₁
  refine PyProof.Rows.callWith_type1 (ha w A env g₁ _ _ pos G hsc (B.keeps s₁.stays) s₁.inn (O.step s₁) fun vs g₂ h₂ t₂ s₂ r₂ => ?_) (hst env) (by rfl)
  obtain ⟨v, rfl, rv⟩ := r₂.single
  have st := s₁.trans s₂
  obtain ⟨l, oa, us, na, rfl, hga, hca, hda, hr⟩ := rv.lst
  have hl : h₂.IsList l us.toArray := ⟨oa, s₂.inn _ _ hga, hca, na, hda⟩
  have hlt : @LT.lt Nat _ l h₂.objs.size := Heap.lt_size (s₂.inn _ _ hga)
  refine call_enumerate_list hl fun h₃ hE hIt hsz hk => ?_
  refine wpAny_pyIter_enum hE ?_
  have V := WalksT.enumerate (prog := PG) (w := w) G.hh (h₂.objs.size + 1) h₂.objs.size l (Nat.succ_ne_self _) (Nat.ne_of_lt (Nat.lt_succ_of_lt hlt)) (Nat.ne_of_lt hlt) us.toArray
  have st3 := st.trans (Step.keep st.inn hk)
  have n0 : h₂.get? h₂.objs.size = none := fresh_none _
  have n1 : h₂.get? (h₂.objs.size + 1) = none := get_none_ge (Nat.le_succ _)
  refine hQ _ _ _ _ g₂ h₃ t₂ st3 (Wk.ofT V (by rw [List.size_toArray, hr.length]; simp [enumPV]) ?_ ?_ ?_) ⟨⟨_, hE⟩, hIt, hl.at fun o e => hk _ o e⟩ ?_ ?_ ?_
  · intro b hb
    simp only [List.mem_cons, List.not_mem_nil, or_false] at hb
    rcases hb with rfl | rfl
    · exact off_of_fresh s₂.inn n1
    · exact off_of_fresh s₂.inn n0
  · intro i h hS b hb
    obtain ⟨⟨old, h1⟩, ⟨o2, h2, _⟩, _⟩ := hS
    simp only [List.mem_cons, List.not_mem_nil, or_false] at hb
    rcases hb with rfl | rfl
    · exact ⟨_, h1⟩
    · exact ⟨_, h2⟩
  · rintro i pv vals hi ⟨t, x, hx, rfl⟩
    have hlt : i < xs.length := by rw [List.getElem?_eq_some_iff] at hi; have := hi.1; simpa [enumPV] using this
    have hpv : pv = .tup [.int i, xs.getD i .none] := by
      unfold enumPV at hi
      rw [List.getElem?_map, List.getElem?_range hlt] at hi
      simpa using hi.symm
    have hxs : xs[i]? = some (xs.getD i .none) := by rw [List.getD_eq_getElem?_getD, List.getElem?_eq_getElem hlt]; rfl
    obtain ⟨u, hu, ru⟩ := hr.get hxs
    have : u = x := by
      have hx' : us[i]? = some x := by simpa using hx
      rw [hu] at hx'; cases hx'; rfl
    subst this
    exact ⟨_, hpv, .cons .ofInt (.one ru)⟩
  · intro b hb
    simp only [List.mem_cons, List.not_mem_nil, or_false] at hb
    rcases hb with rfl | rfl
    · exact st.stays.none n1
    · exact st.stays.none n0
  · intro b hb
    simp only [List.mem_cons, List.not_mem_nil, or_false] at hb
    rcases hb with rfl | rfl | rfl
    · exact ⟨_, hE⟩
    · obtain ⟨o, e, _⟩ := hIt; exact ⟨_, e⟩
    · exact ⟨_, hk _ _ (s₂.inn _ _ hga)⟩
  · intro b hb
    simp only [List.mem_cons, List.not_mem_nil, or_false] at hb
    rcases hb with rfl | rfl | rfl
    · exact .inl (st.stays.none n1)
    · exact .inl (st.stays.none n0)
    · exact .inr ⟨_, hga⟩

theorem Src.zip {f e e2 : Expr} {es : List Expr} {kk : Nat} {p pos : Pos} {xs ys : List PV} (hf : Ev k sc ρ f (.ty "zip")) (ha : EvL k sc ρ [e, e2] [.lst xs, .lst ys])
    (he : ∀ env, eval (.Call f [e, e2] [] pos) env = (do callWith pos (← eval f env) [] (backTo pos (starEach [e, e2] env)) (backToKw pos (keywordEach [] env))) := by intro _; rfl)
    (hst : ∀ env, starEach [e, e2] env = (false, eval e env) :: starEach [e2] env := by intro _; rfl) (hpl : ∀ env, (backTo pos (starEach [e2] env)).any (·.1) = false := by intro _; rfl) : Src k sc ρ (.Tuple es kk p) true (.Call f [e, e2] [] pos) (zipPV xs ys) := by
  intro w A env g s Q G hsc B I O hQ
  refine Call_ (hf w A env g s _ G hsc B I O fun v g₁ h₁ t₁ s₁ r₁ => ?_) (he env)
  simp only [Rep] at r₁; subst r₁
  refine PyProof.Rows.callWith_type1 (ha w A env g₁ _ _ pos G hsc (B.keeps s₁.stays) s₁.inn (O.step s₁) fun vs g₂ h₂ t₂ s₂ r₂ => ?_) (hst env) (hpl env)
  obtain ⟨v1, v2, rfl, rv1, rv2⟩ := r₂.two
  have st := s₁.trans s₂
  obtain ⟨l1, o1, us1, n1, rfl, hg1, hc1, hd1, hr1⟩ := rv1.lst
  obtain ⟨l2, o2, us2, n2, rfl, hg2, hc2, hd2, hr2⟩ := rv2.lst
  have hl1 : h₂.IsList l1 us1.toArray := ⟨o1, s₂.inn _ _ hg1, hc1, n1, hd1⟩
  have hl2 : h₂.IsList l2 us2.toArray := ⟨o2, s₂.inn _ _ hg2, hc2, n2, hd2⟩
  have hlt1 : l1 < h₂.objs.size := Heap.lt_size (s₂.inn _ _ hg1)
  have hlt2 : l2 < h₂.objs.size := Heap.lt_size (s₂.inn _ _ hg2)
  refine call_zip_2 hl1 hl2 fun h₃ hz hTI hTO hit1 hit2 hsz hk => ?_
  refine wpAny_pyIter_zip hz ?_
  have V := WalksT.zip2 (prog := PG) (w := w) G.hh _ _ _ _ _ _ _ (zipApart_new hlt1 hlt2) us1.toArray us2.toArray
  have st3 := st.trans (Step.keep st.inn hk)
  have nw : ∀ j, h₂.get? (h₂.objs.size + j) = none := fun j => get_none_ge (Nat.le_add_right _ _)
  refine hQ _ _ _ _ g₂ h₃ t₂ st3 (Wk.ofT V (by rw [List.size_toArray, List.size_toArray, hr1.length, hr2.length]; simp [zipPV]) ?_ ?_ ?_) ⟨hz, hTI, ⟨_, _, hTO⟩, hit1, hit2, hl1.at fun o e => hk _ o e, hl2.at fun o e => hk _ o e⟩ ?_ ?_ ?_
  · intro b hb
    simp only [List.mem_cons, List.not_mem_nil, or_false] at hb
    rcases hb with rfl | rfl | rfl | rfl
    · exact off_of_fresh s₂.inn (nw 4)
    · exact off_of_fresh s₂.inn (nw 3)
    · exact off_of_fresh s₂.inn (nw 0)
    · exact off_of_fresh s₂.inn (nw 1)
  · intro i h hS b hb
    obtain ⟨h1, h2, ⟨a, c, h3⟩, ⟨q4, h4, _⟩, ⟨q5, h5, _⟩, _⟩ := hS
    simp only [List.mem_cons, List.not_mem_nil, or_false] at hb
    rcases hb with rfl | rfl | rfl | rfl
    · exact ⟨_, h1⟩
    · exact ⟨_, h3⟩
    · exact ⟨_, h4⟩
    · exact ⟨_, h5⟩
  · rintro i pv vals hi ⟨x, y, hx, hy, rfl⟩
    unfold zipPV at hi
    rw [List.getElem?_zipWith] at hi
    have hx' : us1[i]? = some x := by simpa using hx
    have hy' : us2[i]? = some y := by simpa using hy
    obtain ⟨px, hpx, rx⟩ := hr1.getv hx'
    obtain ⟨py, hpy, ry⟩ := hr2.getv hy'
    rw [hpx, hpy] at hi
    exact ⟨[px, py], (by simpa using hi.symm), .cons rx (.one ry)⟩
  · intro b hb
    simp only [List.mem_cons, List.not_mem_nil, or_false] at hb
    rcases hb with rfl | rfl | rfl | rfl
    · exact st.stays.none (nw 4)
    · exact st.stays.none (nw 3)
    · exact st.stays.none (nw 0)
    · exact st.stays.none (nw 1)
  · intro b hb
    simp only [List.mem_cons, List.not_mem_nil, or_false] at hb
    rcases hb with rfl | rfl | rfl | rfl | rfl | rfl | rfl
    · exact ⟨_, hz⟩
    · exact ⟨_, hTI⟩
    · exact ⟨_, hTO⟩
    · obtain ⟨o, e, _⟩ := hit1; exact ⟨_, e⟩
    · obtain ⟨o, e, _⟩ := hit2; exact ⟨_, e⟩
    · exact ⟨_, hk _ _ (s₂.inn _ _ hg1)⟩
    · exact ⟨_, hk _ _ (s₂.inn _ _ hg2)⟩
  · intro b hb
    simp only [List.mem_cons, List.not_mem_nil, or_false] at hb
    rcases hb with rfl | rfl | rfl | rfl | rfl | rfl | rfl
    · exact .inl (st.stays.none (nw 4))
    · exact .inl (st.stays.none (nw 2))
    · exact .inl (st.stays.none (nw 3))
    · exact .inl (st.stays.none (nw 0))
    · exact .inl (st.stays.none (nw 1))
    · exact .inr ⟨_, hg1⟩
    · exact .inr ⟨_, hg2⟩
end
end Mine
end

section
open PySem PySem.W PySem.Calls PyProof.Rows
namespace Mine
theorem intsAre_of {g : Fix} : ∀ {ns : List Int} {vs : List Value}, RepL g vs (ns.map .int) → IntsAre vs ns
  | [], vs, h => by simp only [List.map_nil, RepL] at h; subst h; exact .nil
  | n :: ns, vs, h => by
    simp only [List.map_cons, RepL] at h
    obtain ⟨v, r, rfl, hv, hr⟩ := h
    obtain ⟨t, rfl⟩ := hv.int
    exact .cons _ t (intsAre_of hr)
section
variable {k : Nat}
theorem CmpOk.eqInts {a b : List Int} : CmpOk k .Eq (.lst (a.map .int)) (.lst (b.map .int)) (decide (a = b)) := by
  intro w A g s Q va vb G B I ra rb hQ
  obtain ⟨x, xs, rfl, hx, rx⟩ := ra.isList I
  obtain ⟨y, ys, rfl, hy, ry⟩ := rb.isList I
  exact ke_eq_ints hx hy (intsAre_of rx) (intsAre_of ry) (by have := G.un; unfold cLine; omega) (hQ g s.heap s.toks (Step.refl I))
theorem CmpOk.neInts {a b : List Int} : CmpOk k .NotEq (.lst (a.map .int)) (.lst (b.map .int)) (!decide (a = b)) := by
  intro w A g s Q va vb G B I ra rb hQ
  obtain ⟨x, xs, rfl, hx, rx⟩ := ra.isList I
  obtain ⟨y, ys, rfl, hy, ry⟩ := rb.isList I
  exact ke_ne_ints hx hy (intsAre_of rx) (intsAre_of ry) (by have := G.un; unfold cLine; omega) (hQ g s.heap s.toks (Step.refl I))
end
end Mine
namespace Mine
theorem CallOk.mk (ns : List Str) (pvs : List PV) (oc : List Str) {k : Nat} {f : Addr} {sc : Scope} {body : List Stmt} {xs : List PV} {pv : PV}
    (hf : ∀ w, ∃ fd, FnAt w f sc body fd ∧ ∀ (s : Shared) (g : Fix) (vs : List Value), (KK w).In s.heap → RepL g vs xs → ∃ ws, BindsTo s fd ⟨vs, []⟩ (ns.zip ws) ∧ RepL g ws pvs) (S : FnSc sc oc ns) (hn : ns.length = pvs.length)
    (hx : Exs k sc oc ⟨ns.zip pvs, []⟩ body (.ret pv) ⟨[], []⟩) : CallOk (k + 1) (.ref f) xs pv := CallOk.fn S hn hf hx
theorem CallKw.mk (ns : List Str) (pvs : List PV) (oc : List Str) {k : Nat} {f : Addr} {sc : Scope} {body : List Stmt} {xs : List PV} {n : Str} {kv pv : PV}
    (hf : ∀ w, ∃ fd, FnAt w f sc body fd ∧ ∀ (s : Shared) (g : Fix) (vs : List Value) (u : Value), (KK w).In s.heap → RepL g vs xs → Rep g u kv → ∃ ws, BindsTo s fd ⟨vs, [(n, u)]⟩ (ns.zip ws) ∧ RepL g ws pvs) (S : FnSc sc oc ns) (hn : ns.length = pvs.length)
    (hx : Exs k sc oc ⟨ns.zip pvs, []⟩ body (.ret pv) ⟨[], []⟩) : CallKw (k + 1) (.ref f) xs n kv pv := CallKw.fn S hn hf hx
theorem MutKw.mk (an : Str) (ns : List Str) (pvs : List PV) {k : Nat} {f : Addr} {sc : Scope} {body : List Stmt} {xs ys : List PV} {n : Str} {kv pv : PV} (σ' : Addr → St)
    (hf : ∀ w, ∃ fd, FnAt w f sc body fd ∧ ∀ (s : Shared) (g : Fix) (l : Addr) (v u : Value), (KK w).In s.heap → Rep g v pv → Rep g u kv → ∃ ws, BindsTo s fd ⟨[.ref l, v], [(n, u)]⟩ ((an :: ns).zip (.ref l :: ws)) ∧ RepL g ws pvs) (S : FnSc sc [] (an :: ns)) (hn : ns.length = pvs.length) (hal : sc.names.lookup an = some .local)
    (hx : ∀ l, Exs k sc [] ⟨(an :: ns).zip (.fn l :: pvs), [(an, xs)]⟩ body .next (σ' l)) (hv : ∀ l, (σ' l).v.lookup an = some (.fn l)) (ho : ∀ l, (σ' l).o.lookup an = some ys) : MutKw (k + 1) f xs pv n kv ys := MutKw.fn S hn hal hf hx hv ho
end Mine
end

section
open PySem PySem.W PySem.Calls PyProof.Rows
set_option maxRecDepth 100000
set_option pp.maxSteps 3000
namespace Mine
theorem Exs.fin {k : Nat} {sc : Scope} {oc : List Str} {σ σ₁ : St} {st : Stmt} {rest : List Stmt} {pv : PV} (h : Ex k sc oc σ st (.ret pv) σ₁) : Exs k sc oc σ (st :: rest) (.ret pv) ⟨[], []⟩ :=
  (Exs.last h).sub (fun x p e => by simp at e) (fun x p e => by simp at e)
theorem add_ok {k : Nat} {a b : Int} : CallOk (k + 1) (.ref 62) [.int a, .int b] (.int (a + b)) := by
  apply CallOk.mk ["a", "b"] [.int a, .int b] []
  · intro w
    refine ⟨_, ⟨⟨_, rfl, rfl⟩, ?_, rfl, rfl, rfl, rfl, rfl⟩, ?_⟩
    · rfl
    · intro s g vs X r
      obtain ⟨x, y, rfl, rx, ry⟩ := r.two
      exact ⟨[x, y], BindsTo.of_eq (by with_unfolding_all rfl), .cons rx (.one ry)⟩
  · exact ⟨rfl, rfl, rfl, by decide, by decide, by decide⟩
  · rfl
  · exact .fin (.ret (Ev.s (.bin (.name rfl) (.name rfl) .addI)))
theorem sub_ok {k : Nat} {a b : Int} : CallOk (k + 1) (.ref 76) [.int a, .int b] (.int (a - b)) := by
  apply CallOk.mk ["a", "b"] [.int a, .int b] []
  · intro w
    refine ⟨_, ⟨⟨_, rfl, rfl⟩, ?_, rfl, rfl, rfl, rfl, rfl⟩, ?_⟩
    · rfl
    · intro s g vs X r
      obtain ⟨x, y, rfl, rx, ry⟩ := r.two
      exact ⟨[x, y], BindsTo.of_eq (by with_unfolding_all rfl), .cons rx (.one ry)⟩
  · exact ⟨rfl, rfl, rfl, by decide, by decide, by decide⟩
  · rfl
  · exact .fin (.ret (Ev.s (.bin (.name rfl) (.name rfl) .subI)))
theorem mul_ok {k : Nat} {a b : Int} (h : (-(2 ^ 64) < a ∧ a < 2 ^ 64) ∨ (-(2 ^ 64) < b ∧ b < 2 ^ 64)) : CallOk (k + 1) (.ref 69) [.int a, .int b] (.int (a * b)) := by
  apply CallOk.mk ["a", "b"] [.int a, .int b] []
  · intro w
    refine ⟨_, ⟨⟨_, rfl, rfl⟩, ?_, rfl, rfl, rfl, rfl, rfl⟩, ?_⟩
    · rfl
    · intro s g vs X r
      obtain ⟨x, y, rfl, rx, ry⟩ := r.two
      exact ⟨[x, y], BindsTo.of_eq (by with_unfolding_all rfl), .cons rx (.one ry)⟩
  · exact ⟨rfl, rfl, rfl, by decide, by decide, by decide⟩
  · rfl
  · exact .fin (.ret (Ev.s (.bin (.name rfl) (.name rfl) (.mulI h))))
end Mine
end

section
open PySem PySem.W PySem.Calls PyProof.Rows
set_option maxRecDepth 100000
set_option pp.maxSteps 3000
namespace Mine

/-! ### helpers for derivations -/
noncomputable def AllIn {α : Type} : List (Str × α) → List (Str × α) → Prop
  | [], _ => True
  | (x, p) :: r, m => m.lookup x = some p ∧ AllIn r m
theorem AllIn.look {α : Type} : ∀ {l m : List (Str × α)}, AllIn l m → ∀ x p, l.lookup x = some p → m.lookup x = some p
  | [], m, _, x, p, h => by simp at h
  | (y, q) :: r, m, ⟨h1, h2⟩, x, p, h => by
    rw [List.lookup_cons] at h
    cases hx : x == y with
    | true => rw [hx] at h; cases h; rw [beq_iff_eq.mp hx]; exact h1
    | false => rw [hx] at h; exact h2.look x p h
theorem Exs.wk {k : Nat} {sc : Scope} {oc : List Str} {σ σ₁ σ₂ : St} {body : List Stmt} {fl : Fl} (h : Exs k sc oc σ body fl σ₁) (hv : AllIn σ₂.v σ₁.v) (ho : AllIn σ₂.o σ₁.o) : Exs k sc oc σ body fl σ₂ := h.sub hv.look ho.look
theorem Exs.pr {k : Nat} {sc : Scope} {oc : List Str} {σ σ₁ σ₂ : St} {body : List Stmt} {fl : Fl} (h : Exs k sc oc σ₁ body fl σ₂) (hv : AllIn σ₁.v σ.v) (ho : AllIn σ₁.o σ.o) : Exs k sc oc σ body fl σ₂ := h.pre hv.look ho.look
theorem EvL.one {k : Nat} {sc : Scope} {ρ : Loc} {e : Expr} {pv : PV} (h : Ev k sc ρ e pv) (he : ∀ env, starEach [e] env = (false, eval e env) :: starEach [] env := by intro _; rfl) : EvL k sc ρ [e] [pv] := .cons h .nil he
theorem EvL.two {k : Nat} {sc : Scope} {ρ : Loc} {e e2 : Expr} {pv pv2 : PV} (h : Ev k sc ρ e pv) (h2 : Ev k sc ρ e2 pv2) (he : ∀ env, starEach [e, e2] env = (false, eval e env) :: starEach [e2] env := by intro _; rfl) (he2 : ∀ env, starEach [e2] env = (false, eval e2 env) :: starEach [] env := by intro _; rfl) : EvL k sc ρ [e, e2] [pv, pv2] := .cons h (.cons h2 .nil he2) he
theorem EvL.three {k : Nat} {sc : Scope} {ρ : Loc} {e e2 e3 : Expr} {pv pv2 pv3 : PV} (h : Ev k sc ρ e pv) (h2 : Ev k sc ρ e2 pv2) (h3 : Ev k sc ρ e3 pv3) (he : ∀ env, starEach [e, e2, e3] env = (false, eval e env) :: starEach [e2, e3] env := by intro _; rfl) (he2 : ∀ env, starEach [e2, e3] env = (false, eval e2 env) :: starEach [e3] env := by intro _; rfl) (he3 : ∀ env, starEach [e3] env = (false, eval e3 env) :: starEach [] env := by intro _; rfl) : EvL k sc ρ [e, e2, e3] [pv, pv2, pv3] := .cons h (.cons h2 (.cons h3 .nil he3) he2) he

section
variable {k : Nat} {sc : Scope} {ρ : Loc} {pos : Pos}
theorem gAdd (h : sc.names.lookup ("add" : Str) = some .globalImplicit) : Ev k sc ρ (.Name ("add" : Str) pos) (.fn 62) := Ev.globv h (fun w => rfl) (v := .ref 62) (fun g => by simp only [Rep])
theorem gMul (h : sc.names.lookup ("mul" : Str) = some .globalImplicit) : Ev k sc ρ (.Name ("mul" : Str) pos) (.fn 69) := Ev.globv h (fun w => rfl) (v := .ref 69) (fun g => by simp only [Rep])
theorem gSub (h : sc.names.lookup ("sub" : Str) = some .globalImplicit) : Ev k sc ρ (.Name ("sub" : Str) pos) (.fn 76) := Ev.globv h (fun w => rfl) (v := .ref 76) (fun g => by simp only [Rep])
theorem Ev.add {a b : Int} {e e2 : Expr} {p : Pos} (h : sc.names.lookup ("add" : Str) = some .globalImplicit) (ha : Ev (k + 1) sc ρ e (.int a)) (hb : Ev (k + 1) sc ρ e2 (.int b))
    (hst : ∀ env, starEach [e, e2] env = (false, eval e env) :: starEach [e2] env := by intro _; rfl) (hst2 : ∀ env, starEach [e2] env = (false, eval e2 env) :: starEach [] env := by intro _; rfl) (hpl : ∀ env, (backTo p (starEach [e2] env)).any (·.1) = false := by intro _; rfl) :
    Ev (k + 1) sc ρ (.Call (.Name ("add" : Str) pos) [e, e2] [] p) (.int (a + b)) := .callF (gAdd h) (.two ha hb hst hst2) add_ok (fun w => rfl) (by intro _; rfl) hst hpl
theorem Ev.sub {a b : Int} {e e2 : Expr} {p : Pos} (h : sc.names.lookup ("sub" : Str) = some .globalImplicit) (ha : Ev (k + 1) sc ρ e (.int a)) (hb : Ev (k + 1) sc ρ e2 (.int b))
    (hst : ∀ env, starEach [e, e2] env = (false, eval e env) :: starEach [e2] env := by intro _; rfl) (hst2 : ∀ env, starEach [e2] env = (false, eval e2 env) :: starEach [] env := by intro _; rfl) (hpl : ∀ env, (backTo p (starEach [e2] env)).any (·.1) = false := by intro _; rfl) :
    Ev (k + 1) sc ρ (.Call (.Name ("sub" : Str) pos) [e, e2] [] p) (.int (a - b)) := .callF (gSub h) (.two ha hb hst hst2) sub_ok (fun w => rfl) (by intro _; rfl) hst hpl
theorem Ev.mul {a b : Int} {e e2 : Expr} {p : Pos} (h : sc.names.lookup ("mul" : Str) = some .globalImplicit) (ha : Ev (k + 1) sc ρ e (.int a)) (hb : Ev (k + 1) sc ρ e2 (.int b)) (hz : (-(2 ^ 64) < a ∧ a < 2 ^ 64) ∨ (-(2 ^ 64) < b ∧ b < 2 ^ 64))
    (hst : ∀ env, starEach [e, e2] env = (false, eval e env) :: starEach [e2] env := by intro _; rfl) (hst2 : ∀ env, starEach [e2] env = (false, eval e2 env) :: starEach [] env := by intro _; rfl) (hpl : ∀ env, (backTo p (starEach [e2] env)).any (·.1) = false := by intro _; rfl) :
    Ev (k + 1) sc ρ (.Call (.Name ("mul" : Str) pos) [e, e2] [] p) (.int (a * b)) := .callF (gMul h) (.two ha hb hst hst2) (mul_ok hz) (fun w => rfl) (by intro _; rfl) hst hpl
end

theorem Ev.at {k : Nat} {sc : Scope} {ρ : Loc} {e : Expr} {xs : List PV} {j : Int} {n : Nat} {p pos : Pos} {pv : PV} (h : Ev k sc ρ e (.tup xs)) (hx : xs[j.toNat]? = some pv) (h0 : 0 ≤ j := by decide) (hn : xs.length ≤ 1000 := by simp)
    (hsub : ∀ o t, subscripted (.Constant (.int j) n p) false (.ref o) (.int j t) = operate [.ref o, .int j t] (getItem (.ref o) (.int j t)) := by intro _ _; with_unfolding_all rfl) : Ev k sc ρ (.Subscript e (.Constant (.int j) n p) pos) pv := by
  refine .itemT h .int h0 ?_ hn hx hsub
  have := (List.getElem?_eq_some_iff.mp hx).1
  omega

/-! ### sides and corners -/
abbrev S3 := Int × Int × Int
abbrev C2 := Int × Int
noncomputable def s3 (s : S3) : PV := .tup [.int s.1, .int s.2.1, .int s.2.2]
noncomputable def c2 (c : C2) : PV := .tup [.int c.1, .int c.2]
noncomputable def rowP (r : List S3) : PV := .lst (r.map s3)
noncomputable def crnP (r : List C2) : PV := .lst (r.map c2)
noncomputable def Small (s : S3) : Prop := (-(2 ^ 64) < s.2.1 ∧ s.2.1 < 2 ^ 64) ∧ (-(2 ^ 64) < s.2.2 ∧ s.2.2 < 2 ^ 64)
noncomputable def cw (c : C2) (s : S3) : Int := c.1 * s.2.2 - c.2 * s.2.1
noncomputable def corners : C2 → List S3 → List C2
  | c, [] => [c]
  | c, s :: r => c :: corners (c.1 + s.2.1, c.2 + s.2.2) r

theorem hue_ok {k : Nat} {s : S3} : CallOk (k + 1) (.ref 88) [s3 s] (.int s.1) := by
  apply CallOk.mk ["side"] [s3 s] []
  · intro w
    refine ⟨_, ⟨⟨_, rfl, rfl⟩, ?_, rfl, rfl, rfl, rfl, rfl⟩, ?_⟩
    · rfl
    · intro s g vs X r
      obtain ⟨x, rfl, rx⟩ := r.single
      exact ⟨[x], BindsTo.of_eq (by with_unfolding_all rfl), .one rx⟩
  · exact ⟨rfl, rfl, rfl, by decide, by decide, by decide⟩
  · rfl
  · exact .fin (.ret (Ev.s (.at (.name rfl) rfl)))

theorem cw_ok {k : Nat} {c : C2} {s : S3} (h : Small s) : CallOk (k + 2) (.ref 116) [c2 c, s3 s] (.int (cw c s)) := by
  apply CallOk.mk ["corner", "side"] [c2 c, s3 s] []
  · intro w
    refine ⟨_, ⟨⟨_, rfl, rfl⟩, ?_, rfl, rfl, rfl, rfl, rfl⟩, ?_⟩
    · rfl
    · intro s g vs X r
      obtain ⟨x, y, rfl, rx, ry⟩ := r.two
      exact ⟨[x, y], BindsTo.of_eq (by with_unfolding_all rfl), .cons rx (.one ry)⟩
  · exact ⟨rfl, rfl, rfl, by decide, by decide, by decide⟩
  · rfl
  · exact .fin (.ret (Ev.s (.sub rfl
      (.mul rfl (.at (.name rfl) rfl) (.at (.name rfl) rfl) (.inr h.2))
      (.mul rfl (.at (.name rfl) rfl) (.at (.name rfl) rfl) (.inr h.1)))))

theorem Turns.seq {α : Type} {k : Nat} {sc : Scope} {oc : List Str} {target : Expr} {tt : Bool} {b : List Stmt} (items : List α) (enc : α → PV) (st : List α → St)
    (h : ∀ done x rest, items = done ++ x :: rest → ∃ σm, Asg sc oc target tt (enc x) (st done) σm ∧ Exs k sc oc σm b .next (st (done ++ [x]))) : Turns k sc oc target tt b (items.map enc) (st []) (st items) := by
  have key : ∀ rest done, items = done ++ rest → Turns k sc oc target tt b (rest.map enc) (st done) (st items) := by
    intro rest
    induction rest with
    | nil => intro done e; rw [e, List.append_nil]; exact .nil
    | cons x rest ih =>
      intro done e
      obtain ⟨σm, ha, hb⟩ := h done x rest e
      exact .cons ha hb (ih (done ++ [x]) (by rw [e]; simp))
  exact key items [] rfl

noncomputable def endOf (c : C2) (r : List S3) : C2 := r.foldl (fun c s => (c.1 + s.2.1, c.2 + s.2.2)) c
theorem corners_snoc : ∀ (r : List S3) (c : C2) (s : S3), corners c (r ++ [s]) = corners c r ++ [((endOf c r).1 + s.2.1, (endOf c r).2 + s.2.2)]
  | [], c, s => rfl
  | a :: r, c, s => by
    show c :: corners _ (r ++ [s]) = c :: (corners _ r ++ _)
    rw [corners_snoc r]; rfl
theorem corners_length : ∀ (r : List S3) (c : C2), (corners c r).length = r.length + 1
  | [], c => rfl
  | a :: r, c => by show (corners _ r).length + 1 = _; rw [corners_length r]; rfl
theorem corners_last : ∀ (r : List S3) (c : C2), (corners c r)[r.length]? = some (endOf c r)
  | [], c => rfl
  | a :: r, c => by
    show (c :: corners _ r)[r.length + 1]? = _
    rw [List.getElem?_cons_succ, corners_last r]; rfl
theorem last_at {xs : List PV} {e : PV} {n : Nat} (hn : xs.length = n + 1) (h : xs[n]? = some e) : xs[idxOf (-1) xs.length]? = some e := by
  unfold idxOf
  rw [if_pos (by decide), hn]
  have : (-1 + ((n + 1 : Nat) : Int)).toNat = n := by omega
  rw [this]; exact h
theorem Ev.lastOf {k : Nat} {sc : Scope} {ρ : Loc} {e : Expr} {xs : List PV} {pv : PV} {n m : Nat} {p p2 pos : Pos} (h : Ev k sc ρ e (.lst xs)) (hl : xs.length = m + 1) (hx : xs[m]? = some pv) (hz : xs.length ≤ 1000) : Ev k sc ρ (.Subscript e (.UnaryOp .USub (.Constant (.int 1) n p) p2) pos) pv :=
  .itemL h (.neg .int) (by omega) (by omega) hz (last_at hl hx) (by intro _ _; with_unfolding_all rfl)

theorem corners_ok {k : Nat} {r : List S3} (hr : r.length ≤ 900) : CallOk (k + 2) (.ref 109) [rowP r] (crnP (corners (0, 0) r)) := by
  apply CallOk.mk ["row"] [rowP r] []
  · intro w
    refine ⟨_, ⟨⟨_, rfl, rfl⟩, ?_, rfl, rfl, rfl, rfl, rfl⟩, ?_⟩
    · rfl
    · intro s g vs X r
      obtain ⟨x, rfl, rx⟩ := r.single
      exact ⟨[x], BindsTo.of_eq (by with_unfolding_all rfl), .one rx⟩
  · exact ⟨rfl, rfl, rfl, by decide, by decide, by decide⟩
  · rfl
  · refine .cons (.assignO (xs := [c2 (0, 0)]) (.one (.tup (.two .int .int))) (by decide) rfl) ?_
    refine .cons (.fors (tt := true) (items := r.map s3) (.listT (.name rfl) ?_) (Turns.seq r s3 (fun done => ⟨[("row", rowP r)], [("corners", (corners (0, 0) done).map c2)]⟩) ?_)) ?_
    · intro pv hpv
      obtain ⟨s, _, rfl⟩ := List.mem_map.mp hpv
      exact ⟨_, .inl rfl⟩
    · intro done x rest e
      have hl : done.length ≤ 900 := by rw [e] at hr; simp at hr; omega
      have hl2 : ((corners (0, 0) done).map c2).length = done.length + 1 := by rw [List.length_map, corners_length]
      have hla : ((corners (0, 0) done).map c2)[done.length]? = some (c2 (endOf (0, 0) done)) := by rw [List.getElem?_map, corners_last]; rfl
      refine ⟨_, .tup (.inl rfl) (.cons (.inl rfl) (.cons (.inl rfl) (.cons (.inl rfl) .nil))), ?_⟩
      refine .wk (.cons (.append (pv := c2 ((endOf (0, 0) done).1 + x.2.1, (endOf (0, 0) done).2 + x.2.2)) rfl (.read (x := "corners") rfl rfl (.tup (.two
        (.add rfl (.at (.lastOf (.name rfl) hl2 hla (by omega)) rfl) (.name rfl))
        (.add rfl (.at (.lastOf (.name rfl) hl2 hla (by omega)) rfl) (.name rfl))) (by simp))) (by omega)) .nil) ⟨rfl, trivial⟩ ⟨?_, trivial⟩
      rw [corners_snoc, List.map_append]
      rfl
    · exact .freeze (x := "corners") rfl (.fin (.ret (Ev.s (.name rfl))))
end Mine
end

section
open PySem PySem.W PySem.Calls PyProof.Rows
set_option maxRecDepth 100000
set_option pp.maxSteps 3000
namespace Mine

theorem Ex.ifT {k : Nat} {sc : Scope} {oc : List Str} {σ σ₁ : St} {t : Expr} {b o : List Stmt} {pos : Pos} {fl : Fl} (ht : TstS k sc oc σ t true) (hb : Exs k sc oc σ b fl σ₁) : Ex k sc oc σ (.If t b o pos) fl σ₁ := .ifs ht (fun _ => hb) (fun h => by cases h)
theorem Ex.ifF {k : Nat} {sc : Scope} {oc : List Str} {σ σ₁ : St} {t : Expr} {b o : List Stmt} {pos : Pos} {fl : Fl} (ht : TstS k sc oc σ t false) (hb : Exs k sc oc σ o fl σ₁) : Ex k sc oc σ (.If t b o pos) fl σ₁ := .ifs ht (fun h => by cases h) (fun _ => hb)
theorem Tst.s' {k : Nat} {sc : Scope} {oc : List Str} {σ : St} {e : Expr} {c c' : Bool} (h : Tst k sc σ.v e c) (he : c = c') : TstS k sc oc σ e c' := he ▸ Tst.s h
theorem Loop.meas {α : Type} {k : Nat} {sc : Scope} {oc : List Str} {t : Expr} {b : List Stmt} {σ' : St} (st : α → St) (m : α → Nat) (P : α → Prop)
    (h : ∀ x, P x → (TstS k sc oc (st x) t false ∧ st x = σ') ∨ (TstS k sc oc (st x) t true ∧ ∃ y, P y ∧ m y < m x ∧ Exs k sc oc (st x) b .next (st y))) : ∀ x, P x → ∃ n, Loop k sc oc t b n (st x) σ' := by
  have key : ∀ N x, m x < N → P x → ∃ n, Loop k sc oc t b n (st x) σ' := by
    intro N
    induction N with
    | zero => intro x hx; omega
    | succ N ih =>
      intro x hx hP
      rcases h x hP with ⟨h1, h2⟩ | ⟨h1, y, hy, hm, hb⟩
      · exact ⟨0, h2 ▸ .done h1⟩
      · obtain ⟨n, hn⟩ := ih y (by omega) hy
        exact ⟨n + 1, .turn h1 hb hn⟩
  exact fun x hP => key (m x + 1) x (Nat.lt_succ_self _) hP
theorem Ex.whiles' {k : Nat} {sc : Scope} {oc : List Str} {σ σ₁ : St} {t : Expr} {b : List Stmt} {pos : Pos} (h : ∃ n, Loop k sc oc t b n σ σ₁) : Ex k sc oc σ (.While t b [] pos) .next σ₁ := let ⟨_, h⟩ := h; .whiles h
theorem Ev.get {k : Nat} {sc : Scope} {ρ : Loc} {e i : Expr} {pos : Pos} {xs : List PV} {j : Int} {pv : PV} (h : Ev k sc ρ e (.lst xs)) (hi : Ev k sc ρ i (.int j)) (h0 : 0 ≤ j) (hx : xs[j.toNat]? = some pv) (hn : xs.length ≤ 1000)
    (hsub : ∀ o t, subscripted i false (.ref o) (.int j t) = operate [.ref o, .int j t] (getItem (.ref o) (.int j t)) := by intro _ _; with_unfolding_all rfl) : Ev k sc ρ (.Subscript e i pos) pv := by
  have := (List.getElem?_eq_some_iff.mp hx).1
  exact .itemL h hi (by omega) (by omega) hn (by unfold idxOf; rw [if_neg (by omega)]; exact hx) hsub

/-! ### rows in order -/
noncomputable def Ord (r : List S3) : Prop := r.Pairwise fun a b => a.1 ≤ b.1
noncomputable def cntR (r : List S3) (x : Int) : Nat := r.countP fun s => decide (s.1 ≤ x)
noncomputable def cntL (r : List S3) (x : Int) : Nat := r.countP fun s => decide (s.1 < x)
theorem cnt_lt {p : S3 → Bool} (hp : ∀ a b : S3, a.1 ≤ b.1 → p b = true → p a = true) : ∀ {r : List S3}, Ord r → ∀ {i : Nat} {s : S3}, r[i]? = some s → (p s = true ↔ i < r.countP p)
  | [], _, i, s, h => by simp at h
  | a :: r, ho, i, s, h => by
    obtain ⟨h1, h2⟩ := List.pairwise_cons.mp ho
    rw [List.countP_cons]
    cases i with
    | zero =>
      simp at h; subst h
      constructor
      · intro hs; rw [if_pos hs]; omega
      · intro hlt
        by_cases ha : p a = true
        · exact ha
        · rw [if_neg ha] at hlt
          have : ∃ b ∈ r, p b = true := by
            have : 0 < r.countP p := by omega
            rwa [List.countP_pos_iff] at this
          obtain ⟨b, hb, hpb⟩ := this
          exact absurd (hp a b (h1 b hb) hpb) ha
    | succ i =>
      simp at h
      have ih := cnt_lt hp h2 h
      have hm := List.mem_of_getElem? h
      constructor
      · intro hs
        rw [if_pos (hp a s (h1 s hm) hs)]
        have := ih.mp hs; omega
      · intro hlt
        refine ih.mpr ?_
        split at hlt <;> omega
theorem cntR_lt {r : List S3} (ho : Ord r) {x : Int} {i : Nat} {s : S3} (h : r[i]? = some s) : s.1 ≤ x ↔ i < cntR r x := by
  have := cnt_lt (p := fun s => decide (s.1 ≤ x)) (fun a b hab hb => by simp at hb ⊢; omega) ho h
  simpa [cntR] using this
theorem cntL_lt {r : List S3} (ho : Ord r) {x : Int} {i : Nat} {s : S3} (h : r[i]? = some s) : s.1 < x ↔ i < cntL r x := by
  have := cnt_lt (p := fun s => decide (s.1 < x)) (fun a b hab hb => by simp at hb ⊢; omega) ho h
  simpa [cntL] using this
theorem cntR_le (r : List S3) (x : Int) : cntR r x ≤ r.length := List.countP_le_length
theorem cntL_le (r : List S3) (x : Int) : cntL r x ≤ r.length := List.countP_le_length

noncomputable def bst (r : List S3) (x : Int) (p : Int × Int) : St := ⟨[("a", rowP r), ("x", .int x), ("lo", .int p.1), ("hi", .int p.2), ("key", .fn 88)], []⟩

abbrev nsP : List Str := ["a", "x", "lo", "hi", "key"]
theorem bisR_all : ∃ sc body, (∀ w, ∃ fd, FnAt w 46 sc body fd ∧ (∃ t, ∀ (s : Shared) (v x u : Value), (KK w).In s.heap → BindsTo s fd ⟨[v, x], [("key", u)]⟩ (nsP.zip [v, x, .int 0 t, .none, u])) ∧
      (∀ (s : Shared) (v x lo hi u : Value), (KK w).In s.heap → BindsTo s fd ⟨[v, x, lo, hi], [("key", u)]⟩ (nsP.zip [v, x, lo, hi, u]))) ∧
    FnSc sc [] nsP ∧
    ∀ (k : Nat) (r : List S3) (x : Int), Ord r → r.length ≤ 900 → Exs (k + 1) sc [] ⟨[("a", rowP r), ("x", .int x), ("lo", .int 0), ("hi", .none), ("key", .fn 88)], []⟩ body (.ret (.int (cntR r x))) ⟨[], []⟩ := by
  refine ⟨_, _, fun w => ⟨_, ⟨⟨_, rfl, rfl⟩, ?_, rfl, rfl, rfl, rfl, rfl⟩, ⟨241, fun s v x u X => binds_K X rfl rfl rfl rfl (by with_unfolding_all rfl)⟩, fun s v x lo hi u X => binds_K X rfl rfl rfl rfl (by with_unfolding_all rfl)⟩, ⟨rfl, rfl, rfl, by decide, by decide, by decide⟩, fun k r x ho hr => ?_⟩
  · rfl
  · refine .cons (.ifF (Tst.s' (.cmp (.name rfl) .int .ltI) rfl) .nil) ?_
    refine .cons (.ifT (Tst.s' (.cmp (.name rfl) .nonec .noneNone) rfl) (.cons (.assign (Ev.s (.callB (.bltv (v := .builtin "len") rfl (fun w => rfl) rfl (fun g => by simp only [Rep])) (.one (.name rfl)) (len_ok (by rw [List.length_map]; omega)))) (.inl rfl)) .nil)) ?_
    refine .cons (σ₁ := bst r x (cntR r x, cntR r x)) (.ifF (Tst.s' (.cmp (.name rfl) .nonec .fnNone) rfl) (.cons (.whiles' (Loop.meas (σ' := bst r x (cntR r x, cntR r x)) (bst r x) (fun p => (p.2 - p.1).toNat) (fun p => 0 ≤ p.1 ∧ p.1 ≤ cntR r x ∧ (cntR r x : Int) ≤ p.2 ∧ p.2 ≤ r.length) ?_ (0, ((r.map s3).length : Nat)) ⟨Int.le_refl _, Int.natCast_nonneg _, ?_, ?_⟩)) .nil)) (.fin (.ret (Ev.s (.name rfl))))
    · rintro ⟨lo, hi⟩ ⟨h0, h1, h2, h3⟩
      dsimp only at h0 h1 h2 h3
      by_cases hlt : lo < hi
      · have hm0 : 0 ≤ (lo + hi).fdiv 2 ∧ lo ≤ (lo + hi).fdiv 2 ∧ (lo + hi).fdiv 2 < hi := by
          rw [Int.fdiv_eq_ediv_of_nonneg _ (by decide : (0 : Int) ≤ 2)]; omega
        generalize hmid : (lo + hi).fdiv 2 = mid at hm0
        have hml : mid.toNat < r.length := by omega
        have hs : r[mid.toNat]? = some r[mid.toNat] := List.getElem?_eq_getElem hml
        have hs' : (r.map s3)[mid.toNat]? = some (s3 r[mid.toNat]) := by rw [List.getElem?_map, hs]; rfl
        have hiff := cntR_lt ho (x := x) hs
        refine .inr ⟨Tst.s' (.cmp (.name rfl) (.name rfl) .ltI) (by simpa using hlt), ?_⟩
        by_cases hx : x < r[mid.toNat].1
        · refine ⟨(lo, mid), ⟨h0, h1, by omega, by omega⟩, by dsimp only; omega, ?_⟩
          refine .wk (.cons (.assign (Ev.s (.bin (.bin (.name rfl) (.name rfl) .addI) .int (.fdivI (by decide) (by decide)))) (.inl rfl)) (.cons (.ifT (Tst.s' (.cmp (.name rfl) (.callF (.name rfl) (.one (.get (.name rfl) (.name rfl) (by rw [hmid]; exact hm0.1) (by rw [hmid]; exact hs') (by rw [List.length_map]; omega))) hue_ok (fun w => rfl)) .ltI) (by simpa using hx)) (.cons (.assign (Ev.s (.name rfl)) (.inl rfl)) .nil)) .nil)) ⟨rfl, rfl, rfl, ?_, rfl, trivial⟩ trivial
          rw [← hmid]; rfl
        · refine ⟨(mid + 1, hi), ⟨by omega, by dsimp only; omega, h2, h3⟩, by dsimp only; omega, ?_⟩
          refine .wk (.cons (.assign (Ev.s (.bin (.bin (.name rfl) (.name rfl) .addI) .int (.fdivI (by decide) (by decide)))) (.inl rfl)) (.cons (.ifF (Tst.s' (.cmp (.name rfl) (.callF (.name rfl) (.one (.get (.name rfl) (.name rfl) (by rw [hmid]; exact hm0.1) (by rw [hmid]; exact hs') (by rw [List.length_map]; omega))) hue_ok (fun w => rfl)) .ltI) (by simpa using hx)) (.cons (.assign (Ev.s (.bin (.name rfl) .int .addI)) (.inl rfl)) .nil)) .nil)) ⟨rfl, rfl, ?_, rfl, rfl, trivial⟩ trivial
          rw [← hmid]; rfl
      · have e1 : lo = cntR r x := by omega
        have e2 : hi = cntR r x := by omega
        exact .inl ⟨Tst.s' (.cmp (.name rfl) (.name rfl) .ltI) (by simpa using hlt), by rw [e1, e2]⟩
    · show (cntR r x : Int) ≤ ((r.map s3).length : Nat)
      rw [List.length_map]; exact Int.ofNat_le.mpr (cntR_le r x)
    · show (((r.map s3).length : Nat) : Int) ≤ r.length
      rw [List.length_map]; exact Int.le_refl _
end Mine
end

section
open PySem PySem.W PySem.Calls PyProof.Rows
set_option maxRecDepth 100000
set_option pp.maxSteps 3000
namespace Mine

theorem bisL_all : ∃ sc body, (∀ w, ∃ fd, FnAt w 55 sc body fd ∧ (∃ t, ∀ (s : Shared) (v x u : Value), (KK w).In s.heap → BindsTo s fd ⟨[v, x], [("key", u)]⟩ (nsP.zip [v, x, .int 0 t, .none, u])) ∧
      (∀ (s : Shared) (v x lo hi u : Value), (KK w).In s.heap → BindsTo s fd ⟨[v, x, lo, hi], [("key", u)]⟩ (nsP.zip [v, x, lo, hi, u]))) ∧
    FnSc sc [] nsP ∧
    ∀ (k : Nat) (r : List S3) (x : Int), Ord r → r.length ≤ 900 → Exs (k + 1) sc [] ⟨[("a", rowP r), ("x", .int x), ("lo", .int 0), ("hi", .none), ("key", .fn 88)], []⟩ body (.ret (.int (cntL r x))) ⟨[], []⟩ := by
  refine ⟨_, _, fun w => ⟨_, ⟨⟨_, rfl, rfl⟩, ?_, rfl, rfl, rfl, rfl, rfl⟩, ⟨255, fun s v x u X => binds_K X rfl rfl rfl rfl (by with_unfolding_all rfl)⟩, fun s v x lo hi u X => binds_K X rfl rfl rfl rfl (by with_unfolding_all rfl)⟩, ⟨rfl, rfl, rfl, by decide, by decide, by decide⟩, fun k r x ho hr => ?_⟩
  · rfl
  · refine .cons (.ifF (Tst.s' (.cmp (.name rfl) .int .ltI) rfl) .nil) ?_
    refine .cons (.ifT (Tst.s' (.cmp (.name rfl) .nonec .noneNone) rfl) (.cons (.assign (Ev.s (.callB (.bltv (v := .builtin "len") rfl (fun w => rfl) rfl (fun g => by simp only [Rep])) (.one (.name rfl)) (len_ok (by rw [List.length_map]; omega)))) (.inl rfl)) .nil)) ?_
    refine .cons (σ₁ := bst r x (cntL r x, cntL r x)) (.ifF (Tst.s' (.cmp (.name rfl) .nonec .fnNone) rfl) (.cons (.whiles' (Loop.meas (σ' := bst r x (cntL r x, cntL r x)) (bst r x) (fun p => (p.2 - p.1).toNat) (fun p => 0 ≤ p.1 ∧ p.1 ≤ cntL r x ∧ (cntL r x : Int) ≤ p.2 ∧ p.2 ≤ r.length) ?_ (0, ((r.map s3).length : Nat)) ⟨Int.le_refl _, Int.natCast_nonneg _, ?_, ?_⟩)) .nil)) (.fin (.ret (Ev.s (.name rfl))))
    · rintro ⟨lo, hi⟩ ⟨h0, h1, h2, h3⟩
      dsimp only at h0 h1 h2 h3
      by_cases hlt : lo < hi
      · have hm0 : 0 ≤ (lo + hi).fdiv 2 ∧ lo ≤ (lo + hi).fdiv 2 ∧ (lo + hi).fdiv 2 < hi := by
          rw [Int.fdiv_eq_ediv_of_nonneg _ (by decide : (0 : Int) ≤ 2)]; omega
        generalize hmid : (lo + hi).fdiv 2 = mid at hm0
        have hml : mid.toNat < r.length := by omega
        have hs : r[mid.toNat]? = some r[mid.toNat] := List.getElem?_eq_getElem hml
        have hs' : (r.map s3)[mid.toNat]? = some (s3 r[mid.toNat]) := by rw [List.getElem?_map, hs]; rfl
        have hiff := cntL_lt ho (x := x) hs
        refine .inr ⟨Tst.s' (.cmp (.name rfl) (.name rfl) .ltI) (by simpa using hlt), ?_⟩
        by_cases hx : r[mid.toNat].1 < x
        · refine ⟨(mid + 1, hi), ⟨by omega, by dsimp only; omega, h2, h3⟩, by dsimp only; omega, ?_⟩
          refine .wk (.cons (.assign (Ev.s (.bin (.bin (.name rfl) (.name rfl) .addI) .int (.fdivI (by decide) (by decide)))) (.inl rfl)) (.cons (.ifT (Tst.s' (.cmp (.callF (.name rfl) (.one (.get (.name rfl) (.name rfl) (by rw [hmid]; exact hm0.1) (by rw [hmid]; exact hs') (by rw [List.length_map]; omega))) hue_ok (fun w => rfl)) (.name rfl) .ltI) (by simpa using hx)) (.cons (.assign (Ev.s (.bin (.name rfl) .int .addI)) (.inl rfl)) .nil)) .nil)) ⟨rfl, rfl, ?_, rfl, rfl, trivial⟩ trivial
          rw [← hmid]; rfl
        · refine ⟨(lo, mid), ⟨h0, h1, by omega, by omega⟩, by dsimp only; omega, ?_⟩
          refine .wk (.cons (.assign (Ev.s (.bin (.bin (.name rfl) (.name rfl) .addI) .int (.fdivI (by decide) (by decide)))) (.inl rfl)) (.cons (.ifF (Tst.s' (.cmp (.callF (.name rfl) (.one (.get (.name rfl) (.name rfl) (by rw [hmid]; exact hm0.1) (by rw [hmid]; exact hs') (by rw [List.length_map]; omega))) hue_ok (fun w => rfl)) (.name rfl) .ltI) (by simpa using hx)) (.cons (.assign (Ev.s (.name rfl)) (.inl rfl)) .nil)) .nil)) ⟨rfl, rfl, rfl, ?_, rfl, trivial⟩ trivial
          rw [← hmid]; rfl
      · have e1 : lo = cntL r x := by omega
        have e2 : hi = cntL r x := by omega
        exact .inl ⟨Tst.s' (.cmp (.name rfl) (.name rfl) .ltI) (by simpa using hlt), by rw [e1, e2]⟩
    · show (cntL r x : Int) ≤ ((r.map s3).length : Nat)
      rw [List.length_map]; exact Int.ofNat_le.mpr (cntL_le r x)
    · show (((r.map s3).length : Nat) : Int) ≤ r.length
      rw [List.length_map]; exact Int.le_refl _

theorem bisR_kw {k : Nat} {r : List S3} {x : Int} (ho : Ord r) (hr : r.length ≤ 900) : CallKw (k + 2) (.ref 46) [rowP r, .int x] "key" (.fn 88) (.int (cntR r x)) := by
  obtain ⟨sc, body, hf, S, hx⟩ := bisR_all
  refine CallKw.mk nsP [rowP r, .int x, .int 0, .none, .fn 88] [] (fun w => ?_) S rfl (hx k r x ho hr)
  obtain ⟨fd, hfd, ⟨t, h1⟩, _⟩ := hf w
  refine ⟨fd, hfd, fun s g vs u X r ru => ?_⟩
  obtain ⟨a, b, rfl, ra, rb⟩ := r.two
  exact ⟨_, h1 s a b u X, .cons ra (.cons rb (.cons .ofInt (.cons (by simp only [Rep]) (.one ru))))⟩
theorem bisL_kw {k : Nat} {r : List S3} {x : Int} (ho : Ord r) (hr : r.length ≤ 900) : CallKw (k + 2) (.ref 55) [rowP r, .int x] "key" (.fn 88) (.int (cntL r x)) := by
  obtain ⟨sc, body, hf, S, hx⟩ := bisL_all
  refine CallKw.mk nsP [rowP r, .int x, .int 0, .none, .fn 88] [] (fun w => ?_) S rfl (hx k r x ho hr)
  obtain ⟨fd, hfd, ⟨t, h1⟩, _⟩ := hf w
  refine ⟨fd, hfd, fun s g vs u X r ru => ?_⟩
  obtain ⟨a, b, rfl, ra, rb⟩ := r.two
  exact ⟨_, h1 s a b u X, .cons ra (.cons rb (.cons .ofInt (.cons (by simp only [Rep]) (.one ru))))⟩
theorem bisR_kw4 {k : Nat} {r : List S3} {x : Int} (ho : Ord r) (hr : r.length ≤ 900) : CallKw (k + 2) (.ref 46) [rowP r, .int x, .int 0, .none] "key" (.fn 88) (.int (cntR r x)) := by
  obtain ⟨sc, body, hf, S, hx⟩ := bisR_all
  refine CallKw.mk nsP [rowP r, .int x, .int 0, .none, .fn 88] [] (fun w => ?_) S rfl (hx k r x ho hr)
  obtain ⟨fd, hfd, _, h1⟩ := hf w
  refine ⟨fd, hfd, fun s g vs u X r ru => ?_⟩
  simp only [RepL] at r
  obtain ⟨a, r1, rfl, ra, b, r2, rfl, rb, c, r3, rfl, rc, d, r4, rfl, rd, rfl⟩ := r
  exact ⟨_, h1 s a b c d u X, .cons ra (.cons rb (.cons rc (.cons (by simp only [Rep]; exact rd) (.one ru))))⟩

noncomputable def ins (r : List S3) (s : S3) : List S3 := insL r (cntR r s.1) s
theorem ins_length (r : List S3) (s : S3) : (ins r s).length = r.length + 1 := by
  unfold ins insL
  rw [List.length_append, List.length_take, List.length_cons, List.length_drop]
  have := cntR_le r s.1
  omega
theorem ins_map (r : List S3) (s : S3) : (ins r s).map s3 = insL (r.map s3) (cntR r s.1) (s3 s) := by
  unfold ins insL
  rw [List.map_append, List.map_cons, List.map_take, List.map_drop]
theorem ins_perm (r : List S3) (s : S3) : (ins r s).Perm (s :: r) := by
  unfold ins insL
  refine List.perm_middle.trans ?_
  rw [List.take_append_drop]
theorem ins_ord {r : List S3} (ho : Ord r) (s : S3) : Ord (ins r s) := by
  unfold ins insL Ord
  rw [List.pairwise_append]
  refine ⟨ho.sublist (List.take_sublist _ _), ?_, ?_⟩
  · rw [List.pairwise_cons]
    refine ⟨fun b hb => ?_, ho.sublist (List.drop_sublist _ _)⟩
    obtain ⟨i, hi, rfl⟩ := List.getElem_of_mem hb
    rw [List.getElem_drop]
    rw [List.length_drop] at hi
    have h := (cntR_lt ho (x := s.1) (i := cntR r s.1 + i) (List.getElem?_eq_getElem (by omega)))
    have : ¬ r[cntR r s.1 + i].1 ≤ s.1 := fun q => by have := h.mp q; omega
    omega
  · intro a ha b hb
    have ha' : a.1 ≤ s.1 := by
      obtain ⟨i, hi, rfl⟩ := List.getElem_of_mem ha
      rw [List.getElem_take]
      rw [List.length_take] at hi
      exact (cntR_lt ho (x := s.1) (List.getElem?_eq_getElem (by omega))).mpr (by omega)
    rcases List.mem_cons.mp hb with rfl | hb
    · exact ha'
    · obtain ⟨i, hi, rfl⟩ := List.getElem_of_mem hb
      rw [List.getElem_drop]
      rw [List.length_drop] at hi
      have h := (cntR_lt ho (x := s.1) (i := cntR r s.1 + i) (List.getElem?_eq_getElem (by omega)))
      have : ¬ r[cntR r s.1 + i].1 ≤ s.1 := fun q => by have := h.mp q; omega
      omega

theorem EvL.four {k : Nat} {sc : Scope} {ρ : Loc} {e e2 e3 e4 : Expr} {pv pv2 pv3 pv4 : PV} (h : Ev k sc ρ e pv) (h2 : Ev k sc ρ e2 pv2) (h3 : Ev k sc ρ e3 pv3) (h4 : Ev k sc ρ e4 pv4) (he : ∀ env, starEach [e, e2, e3, e4] env = (false, eval e env) :: starEach [e2, e3, e4] env := by intro _; rfl) (he2 : ∀ env, starEach [e2, e3, e4] env = (false, eval e2 env) :: starEach [e3, e4] env := by intro _; rfl) (he3 : ∀ env, starEach [e3, e4] env = (false, eval e3 env) :: starEach [e4] env := by intro _; rfl) (he4 : ∀ env, starEach [e4] env = (false, eval e4 env) :: starEach [] env := by intro _; rfl) : EvL k sc ρ [e, e2, e3, e4] [pv, pv2, pv3, pv4] := .cons h (.cons h2 (.cons h3 (.cons h4 .nil he4) he3) he2) he

theorem insort_ok {k : Nat} {r : List S3} {s : S3} (ho : Ord r) (hr : r.length ≤ 900) : MutKw (k + 3) 37 (r.map s3) (s3 s) "key" (.fn 88) ((ins r s).map s3) := by
  rw [ins_map]
  apply MutKw.mk "a" ["x", "lo", "hi", "key"] [s3 s, .int 0, .none, .fn 88] (fun l => ⟨[("a", .fn l)], [("a", insL (r.map s3) (cntR r s.1) (s3 s))]⟩)
  · intro w
    refine ⟨_, ⟨⟨_, rfl, rfl⟩, ?_, rfl, rfl, rfl, rfl, rfl⟩, fun s g l v u X rv ru => ⟨[v, .int 0 228, .none, u], binds_K X rfl rfl rfl rfl (by with_unfolding_all rfl), .cons rv (.cons .ofInt (.cons (by simp only [Rep]) (.one ru)))⟩⟩
    rfl
  · exact ⟨rfl, rfl, rfl, by decide, by decide, by decide⟩
  · rfl
  · rfl
  · intro l
    refine .cons (.ifF (Tst.s' (.cmp (.name rfl) .nonec .fnNone) rfl) (.cons (.assign (.read (x := "a") rfl rfl (.callFK (.globv (v := .ref 46) rfl (fun w => rfl) (fun g => by simp only [Rep])) (.four (.name rfl) (.callF (.name rfl) (.one (.name rfl)) hue_ok (fun w => rfl)) (.name rfl) (.name rfl)) (.name rfl) (bisR_kw4 ho hr) (fun w => rfl))) (.inl rfl)) .nil)) ?_
    refine .wk (.cons (.insertK (i := cntR r s.1) rfl (.two (.name rfl) (.name rfl)) (Int.natCast_nonneg _) (by rw [List.length_map]; exact Int.ofNat_le.mpr (cntR_le r s.1)) (by rw [List.length_map]; omega)) .nil) ⟨rfl, trivial⟩ ⟨rfl, trivial⟩
  · intro l; rfl
  · intro l; rfl

section
variable {k : Nat} {sc : Scope} {ρ : Loc} {pos : Pos}
theorem gCorners (h : sc.names.lookup ("_law_corners" : Str) = some .globalImplicit) : Ev k sc ρ (.Name ("_law_corners" : Str) pos) (.fn 109) := Ev.globv h (fun w => rfl) (v := .ref 109) (fun g => by simp only [Rep])
theorem gCross (h : sc.names.lookup ("_law_crosswise" : Str) = some .globalImplicit) : Ev k sc ρ (.Name ("_law_crosswise" : Str) pos) (.fn 116) := Ev.globv h (fun w => rfl) (v := .ref 116) (fun g => by simp only [Rep])
theorem gHue (h : sc.names.lookup ("_law_hue" : Str) = some .globalImplicit) : Ev k sc ρ (.Name ("_law_hue" : Str) pos) (.fn 88) := Ev.globv h (fun w => rfl) (v := .ref 88) (fun g => by simp only [Rep])
theorem gInsort (h : sc.names.lookup ("insort_right" : Str) = some .globalImplicit) : Ev k sc ρ (.Name ("insort_right" : Str) pos) (.fn 37) := Ev.globv h (fun w => rfl) (v := .ref 37) (fun g => by simp only [Rep])
end

noncomputable def roomOf (r : List S3) : Int := ((corners (0, 0) r).zip r).foldl (fun a p => a + cw p.1 p.2) 0
theorem room_ok {k : Nat} {r : List S3} (hr : r.length ≤ 900) (hs : ∀ s ∈ r, Small s) : CallOk (k + 3) (.ref 123) [rowP r] (.int (roomOf r)) := by
  apply CallOk.mk ["row"] [rowP r] []
  · intro w
    refine ⟨_, ⟨⟨_, rfl, rfl⟩, ?_, rfl, rfl, rfl, rfl, rfl⟩, ?_⟩
    · rfl
    · intro s g vs X r
      obtain ⟨x, rfl, rx⟩ := r.single
      exact ⟨[x], BindsTo.of_eq (by with_unfolding_all rfl), .one rx⟩
  · exact ⟨rfl, rfl, rfl, by decide, by decide, by decide⟩
  · rfl
  · refine .cons (.assign (Ev.s .int) (.inl rfl)) ?_
    have hz : zipPV ((corners (0, 0) r).map c2) (r.map s3) = ((corners (0, 0) r).zip r).map (fun p => PV.tup [c2 p.1, s3 p.2]) := by
      unfold zipPV
      rw [List.zipWith_map, List.zip, List.map_zipWith]
    refine .cons (σ₁ := ⟨[("row", rowP r), ("room", .int (roomOf r))], []⟩) (.fors (tt := true) (.zip (xs := (corners (0, 0) r).map c2) (ys := r.map s3) (.bltv (v := .type "zip") rfl (fun w => rfl) rfl (fun g => by simp only [Rep])) (.two (.callF (gCorners rfl) (.one (.name rfl)) (corners_ok hr) (fun w => rfl)) (.name rfl))) ?_) (.fin (.ret (Ev.s (.name rfl))))
    rw [hz]
    refine Turns.seq ((corners (0, 0) r).zip r) (fun p => PV.tup [c2 p.1, s3 p.2]) (fun done => ⟨[("row", rowP r), ("room", .int (done.foldl (fun a p => a + cw p.1 p.2) 0))], []⟩) ?_
    intro done p rest e
    have hp : Small p.2 := hs _ (List.of_mem_zip (a := p.1) (b := p.2) (by rw [e]; simp)).2
    refine ⟨_, .tup (.inl rfl) (.cons (.inl rfl) (.cons (.inl rfl) .nil)), ?_⟩
    refine .wk (.cons (.assign (Ev.s (.add rfl (.name rfl) (.callF (gCross rfl) (.two (.name rfl) (.name rfl)) (cw_ok hp) (fun w => rfl)))) (.inl rfl)) .nil) ⟨rfl, ?_, trivial⟩ trivial
    rw [List.foldl_append]; rfl

noncomputable def joinOf (r b : List S3) : List S3 := (r ++ b).foldl ins []
theorem foldl_ins_ord : ∀ (q r : List S3), Ord r → Ord (q.foldl ins r)
  | [], r, h => h
  | s :: q, r, h => foldl_ins_ord q _ (ins_ord h s)
theorem foldl_ins_len : ∀ (q r : List S3), (q.foldl ins r).length = r.length + q.length
  | [], r => rfl
  | s :: q, r => by
    show (q.foldl ins (ins r s)).length = _
    rw [foldl_ins_len q, ins_length, List.length_cons]; omega
theorem foldl_ins_perm : ∀ (q r : List S3), (q.foldl ins r).Perm (r ++ q)
  | [], r => by simp
  | s :: q, r => by
    show (q.foldl ins (ins r s)).Perm _
    refine (foldl_ins_perm q _).trans ?_
    refine ((ins_perm r s).append_right q).trans ?_
    exact List.perm_middle.symm
theorem joined_ok {k : Nat} {r b : List S3} (hr : r.length + b.length ≤ 900) : CallOk (k + 4) (.ref 102) [rowP r, rowP b] (rowP (joinOf r b)) := by
  apply CallOk.mk ["row", "beside"] [rowP r, rowP b] []
  · intro w
    refine ⟨_, ⟨⟨_, rfl, rfl⟩, ?_, rfl, rfl, rfl, rfl, rfl⟩, ?_⟩
    · rfl
    · intro s g vs X r
      obtain ⟨x, y, rfl, rx, ry⟩ := r.two
      exact ⟨[x, y], BindsTo.of_eq (by with_unfolding_all rfl), .cons rx (.one ry)⟩
  · exact ⟨rfl, rfl, rfl, by decide, by decide, by decide⟩
  · rfl
  · refine .cons (.assignO (xs := []) .nil (by decide) rfl) ?_
    refine .cons (σ₁ := ⟨[("row", rowP r), ("beside", rowP b)], [("both", (joinOf r b).map s3)]⟩) (.fors (tt := false) (items := (r ++ b).map s3) (.list (by rw [List.map_append]; exact .bin (.name rfl) (.name rfl) (.addL (by rw [List.length_map, List.length_map]; omega)))) ?_) (.freeze (x := "both") rfl (.fin (.ret (Ev.s (.name rfl)))))
    refine Turns.seq (r ++ b) s3 (fun done => ⟨[("row", rowP r), ("beside", rowP b)], [("both", (done.foldl ins []).map s3)]⟩) ?_
    intro done s rest e
    have hl : done.length ≤ 900 := by
      have := congrArg List.length e
      simp at this; omega
    refine ⟨_, .name (.inl rfl), ?_⟩
    refine .wk (.cons (.mutKw (x := "both") rfl (gInsort rfl) (.name rfl) (gHue rfl) (insort_ok (foldl_ins_ord done [] List.Pairwise.nil) (by rw [foldl_ins_len]; simpa using hl)) (fun w => rfl)) .nil) ⟨rfl, rfl, trivial⟩ ⟨?_, trivial⟩
    rw [List.foldl_append]; rfl
end Mine
end

section
open PySem PySem.W PySem.Calls PyProof.Rows
set_option maxRecDepth 100000
set_option pp.maxSteps 3000
namespace Mine

noncomputable def CapsIn (scope sc : Scope) (ρ : Loc) : Loc → Prop
  | [] => True
  | (x, p) :: r => ρ.lookup x = some p ∧ scope.names.lookup x = some .free ∧ sc.names.lookup x = some .cell ∧ (cellsFrom 0 scope.names []).lookup x = none ∧ CapsIn scope sc ρ r
theorem CapsIn.all {scope sc : Scope} {ρ : Loc} : ∀ {caps : Loc}, CapsIn scope sc ρ caps → ∀ p ∈ caps, ρ.lookup p.1 = some p.2 ∧ scope.names.lookup p.1 = some .free ∧ sc.names.lookup p.1 = some .cell ∧ (cellsFrom 0 scope.names []).lookup p.1 = none
  | [], _, p, h => by simp at h
  | (x, q) :: r, ⟨a, b, c, d, e⟩, p, h => by
    rcases List.mem_cons.mp h with rfl | h
    · exact ⟨a, b, c, d⟩
    · exact e.all p h
theorem ScopeOk.mk' {scope sc : Scope} {caps : Loc} {oc : List Str} {ρ : Loc} (capn : List Str) (hcn : caps.map (·.1) = capn) (kind : scope.kind = .function) (cap : CapsIn scope sc ρ caps) (free : ∀ x ∈ scope.names, x.2 = .free → x.1 ∈ capn)
    (oc' : ∀ x ∈ oc, scope.names.lookup x = some .cell) (loc : ∀ x ∈ scope.names, x.2 = .local → scope.names.lookup x.1 = some .local) : ScopeOk scope sc caps oc ρ :=
  ⟨kind, cap.all, fun x hx hf => by
    have := free x hx hf
    rw [← hcn] at this
    obtain ⟨p, hp, e⟩ := List.mem_map.mp this
    exact ⟨p, hp, e⟩, oc', loc⟩

theorem Els.seq {α : Type} {k : Nat} {csc : Scope} {oc : List Str} {target : Expr} {tt : Bool} {emit : Value → Env → Sem Unit} {v : Loc} (enc : α → PV) (out : α → List PV) : ∀ (items : List α),
    (∀ x ∈ items, ∃ σ' : St, Asg csc oc target tt (enc x) ⟨v, []⟩ σ' ∧ AllIn v σ'.v ∧ CT k csc oc emit σ'.v (out x)) → Els k csc oc target tt emit v (items.map enc) (items.map out).flatten
  | [], _ => .nil
  | x :: r, h => by
    obtain ⟨σ', a, b, c⟩ := h x (.head _)
    exact .cons a b.look c (Els.seq enc out r fun y hy => h y (.tail _ hy))
theorem flat_single {α β : Type} (f : α → β) : ∀ l : List α, (l.map fun x => [f x]).flatten = l.map f
  | [] => rfl
  | x :: r => by rw [List.map_cons, List.flatten_cons, flat_single f r]; rfl
theorem Lc.one {α : Type} {k : Nat} {ρ : Loc} {sc scope : Scope} {caps : Loc} {oc : List Str} {target elt iter : Expr} {tt : Bool} {pos : Pos} (items : List α) (enc out : α → PV) (S : ScopeOk scope sc caps oc ρ) (hsrc : Src k sc ρ target tt iter (items.map enc))
    (h : ∀ x ∈ items, ∃ σ' : St, Asg (relabelS scope sc) oc target tt (enc x) ⟨caps, []⟩ σ' ∧ AllIn caps σ'.v ∧ Ev k (relabelS scope sc) σ'.v elt (out x)) (hsz : items.length ≤ 1000) :
    Lc k sc ρ (.ListComp elt [⟨target, iter, [], 0⟩] scope pos) iter scope (items.map out) := by
  refine Lc.of (emit := emitL elt) (turn_one _ _ _ _ _) S hsrc ?_ (by rw [List.length_map]; exact hsz)
  rw [← flat_single out items]
  exact Els.seq enc (fun x => [out x]) items fun x hx => let ⟨σ', a, b, c⟩ := h x hx; ⟨σ', a, b, .last c⟩
theorem Ev.comp1 {α : Type} {k : Nat} {ρ : Loc} {sc scope : Scope} {caps : Loc} {oc : List Str} {target elt iter : Expr} {tt : Bool} {pos : Pos} (items : List α) (enc out : α → PV) (S : ScopeOk scope sc caps oc ρ) (hsrc : Src k sc ρ target tt iter (items.map enc))
    (h : ∀ x ∈ items, ∃ σ' : St, Asg (relabelS scope sc) oc target tt (enc x) ⟨caps, []⟩ σ' ∧ AllIn caps σ'.v ∧ Ev k (relabelS scope sc) σ'.v elt (out x)) (hsz : items.length ≤ 1000) (hf : ∀ env x, foldedSetIterable iter env x = pure x := by intro _ _; rfl) :
    Ev k sc ρ (.ListComp elt [⟨target, iter, [], 0⟩] scope pos) (.lst (items.map out)) := .comp S (Lc.one items enc out S hsrc h hsz) hf

section
variable {k : Nat} {sc : Scope} {ρ : Loc} {pos : Pos}
theorem gMax (h : sc.names.lookup ("max" : Str) = some .globalImplicit) : Ev k sc ρ (.Name ("max" : Str) pos) (.bi "max") := .bltv (v := .builtin "max") h (fun w => rfl) rfl (fun g => by simp only [Rep])
theorem gMin (h : sc.names.lookup ("min" : Str) = some .globalImplicit) : Ev k sc ρ (.Name ("min" : Str) pos) (.bi "min") := .bltv (v := .builtin "min") h (fun w => rfl) rfl (fun g => by simp only [Rep])
theorem gSum (h : sc.names.lookup ("sum" : Str) = some .globalImplicit) : Ev k sc ρ (.Name ("sum" : Str) pos) (.bi "sum") := .bltv (v := .builtin "sum") h (fun w => rfl) rfl (fun g => by simp only [Rep])
theorem gLen (h : sc.names.lookup ("len" : Str) = some .globalImplicit) : Ev k sc ρ (.Name ("len" : Str) pos) (.bi "len") := .bltv (v := .builtin "len") h (fun w => rfl) rfl (fun g => by simp only [Rep])
theorem gRange (h : sc.names.lookup ("range" : Str) = some .globalImplicit) : Ev k sc ρ (.Name ("range" : Str) pos) (.ty "range") := .bltv (v := .type "range") h (fun w => rfl) rfl (fun g => by simp only [Rep])
theorem gInt (h : sc.names.lookup ("int" : Str) = some .globalImplicit) : Ev k sc ρ (.Name ("int" : Str) pos) (.ty "int") := .bltv (v := .type "int") h (fun w => rfl) rfl (fun g => by simp only [Rep])
theorem gEnum (h : sc.names.lookup ("enumerate" : Str) = some .globalImplicit) : Ev k sc ρ (.Name ("enumerate" : Str) pos) (.ty "enumerate") := .bltv (v := .type "enumerate") h (fun w => rfl) rfl (fun g => by simp only [Rep])
theorem gBisR (h : sc.names.lookup ("bisect_right" : Str) = some .globalImplicit) : Ev k sc ρ (.Name ("bisect_right" : Str) pos) (.fn 46) := Ev.globv h (fun w => rfl) (v := .ref 46) (fun g => by simp only [Rep])
theorem gBisL (h : sc.names.lookup ("bisect_left" : Str) = some .globalImplicit) : Ev k sc ρ (.Name ("bisect_left" : Str) pos) (.fn 55) := Ev.globv h (fun w => rfl) (v := .ref 55) (fun g => by simp only [Rep])
end

noncomputable def intsP (l : List Int) : PV := .lst (l.map .int)
noncomputable def placeOf (row : List S3) (behind : Bool) (s : S3) : Nat := if behind then cntR row s.1 else cntL row s.1
noncomputable def toldOf (row : List S3) (behind : Bool) (s : S3) : Int := cw ((corners (0, 0) row).getD (placeOf row behind s) (0, 0)) s
noncomputable def mostOf (row : List S3) (s : S3) : Int := maxI ((corners (0, 0) row).map (cw · s))
noncomputable def mixOf (row sides : List S3) (behind : Bool) : Int := if sides.map (toldOf row behind) = sides.map (mostOf row) then (sides.map (toldOf row behind)).sum else -1
theorem placeOf_le (row : List S3) (behind : Bool) (s : S3) : placeOf row behind s ≤ row.length := by
  unfold placeOf; split
  · exact cntR_le _ _
  · exact cntL_le _ _

theorem mixed_ok {k : Nat} {row sides : List S3} {behind : Bool} (ho : Ord row) (hr : row.length ≤ 900) (hl : sides.length ≤ 900) (hs : ∀ s ∈ sides, Small s) : CallOk (k + 3) (.ref 128) [rowP row, rowP sides, .bool behind] (.int (mixOf row sides behind)) := by
  apply CallOk.mk ["row", "sides", "behind"] [rowP row, rowP sides, .bool behind] ["side"]
  · intro w
    refine ⟨_, ⟨⟨_, rfl, rfl⟩, ?_, rfl, rfl, rfl, rfl, rfl⟩, ?_⟩
    · rfl
    · intro s g vs X r
      obtain ⟨x, y, z, rfl, rx, ry, rz⟩ := r.three
      exact ⟨[x, y, z], BindsTo.of_eq (by with_unfolding_all rfl), .cons rx (.cons ry (.one rz))⟩
  · exact ⟨rfl, rfl, rfl, by decide, by decide, by decide⟩
  · rfl
  · refine .cons (.assignM (.val (.callF (gCorners rfl) (.one (.name rfl)) (corners_ok hr) (fun w => rfl)) (.own (xs := []) .nil (by decide) (.own (xs := []) .nil (by decide) .nil rfl (by intro _; rfl)) rfl (by intro _; rfl)) (.inl rfl) (by intro _; rfl)) rfl (by intro _; rfl) (by intro env h; cases env; cases h; rfl)) ?_
    have hcl : ((corners (0, 0) row).map c2).length = row.length + 1 := by rw [List.length_map, corners_length]
    refine .pr (σ₁ := ⟨[("row", rowP row), ("sides", rowP sides), ("behind", .bool behind), ("corners", crnP (corners (0, 0) row))], [("told", []), ("most", [])]⟩) ?_ ⟨rfl, rfl, rfl, rfl, trivial⟩ ⟨rfl, rfl, trivial⟩
    refine .cons (.fors (tt := false) (items := sides.map s3) (.list (.name rfl)) (Turns.seq sides s3 (fun done => ⟨[("row", rowP row), ("sides", rowP sides), ("behind", .bool behind), ("corners", crnP (corners (0, 0) row))], [("told", (done.map (toldOf row behind)).map .int), ("most", (done.map (mostOf row)).map .int)]⟩) ?_)) ?_
    · intro done s rest e
      have hsm : Small s := hs s (by rw [e]; simp)
      have hdl : done.length ≤ 900 := by have := congrArg List.length e; simp at this; omega
      have hpl := placeOf_le row behind s
      have hget : ((corners (0, 0) row).map c2)[((placeOf row behind s : Nat) : Int).toNat]? = some (c2 ((corners (0, 0) row).getD (placeOf row behind s) (0, 0))) := by
        rw [Int.toNat_natCast, List.getElem?_map, List.getD_eq_getElem?_getD]
        have hlt : placeOf row behind s < (corners (0, 0) row).length := by rw [corners_length]; omega
        rw [List.getElem?_eq_getElem hlt]; rfl
      refine ⟨_, .name (.inr (.head _)), ?_⟩
      refine .wk (.cons (σ₁ := ⟨[("row", rowP row), ("sides", rowP sides), ("behind", .bool behind), ("corners", crnP (corners (0, 0) row)), ("side", s3 s), ("place", .int (placeOf row behind s))], [("told", (done.map (toldOf row behind)).map .int), ("most", (done.map (mostOf row)).map .int)]⟩) ?_
        (.cons (.append (pv := .int (toldOf row behind s)) rfl (Ev.s (.callF (gCross rfl) (.two (.get (.name rfl) (.name rfl) (Int.natCast_nonneg _) hget (by omega)) (.name rfl)) (cw_ok hsm) (fun w => rfl))) (by rw [List.length_map, List.length_map]; omega))
        (.cons (.append (pv := .int (mostOf row s)) rfl (Ev.s (.callB (gMax rfl) (.one (.comp1 (corners (0, 0) row) c2 (fun c => .int (cw c s)) (caps := [("side", s3 s)]) (oc := []) (.mk' ["side"] rfl rfl ⟨rfl, rfl, rfl, rfl, trivial⟩ (by decide) (by decide) (by decide)) (.list (.name rfl))
          (fun c hc => ⟨_, .name (.inl rfl), ⟨rfl, trivial⟩, .callF (gCross rfl) (.two (.name rfl) (.name rfl)) (cw_ok hsm) (fun w => rfl)⟩) (by rw [corners_length]; omega))) ?_)) (by rw [List.length_map, List.length_map]; omega)) .nil))) ⟨rfl, rfl, rfl, rfl, trivial⟩ ⟨?_, ?_, trivial⟩
      · cases behind with
        | true => exact .ifT (Tst.s' (.bool (.name rfl)) rfl) (.cons (.assign (Ev.s (.callFK (gBisR rfl) (.two (.name rfl) (.at (.name rfl) rfl)) (gHue rfl) (bisR_kw ho hr) (fun w => rfl))) (.inl rfl)) .nil)
        | false => exact .ifF (Tst.s' (.bool (.name rfl)) rfl) (.cons (.assign (Ev.s (.callFK (gBisL rfl) (.two (.name rfl) (.at (.name rfl) rfl)) (gHue rfl) (bisL_kw ho hr) (fun w => rfl))) (.inl rfl)) .nil)
      · rw [show ((corners (0, 0) row).map fun c => PV.int (cw c s)) = ((corners (0, 0) row).map (cw · s)).map .int by rw [List.map_map]; rfl]
        refine max_ok (k := k + 1) fun h => ?_
        have := congrArg List.length h
        rw [List.length_map, corners_length] at this
        simp at this
      · rw [List.map_append, List.map_append]; rfl
      · rw [List.map_append, List.map_append]; rfl
    · refine .freeze (x := "told") rfl (.freeze (x := "most") rfl (.fin (.ret (Ev.s (.ife (Tst.cmp (.name rfl) (.name rfl) (.eqInts)) (fun h => ?_) fun h => ?_)))))
      · have h' : sides.map (toldOf row behind) = sides.map (mostOf row) := of_decide_eq_true h
        unfold mixOf
        rw [if_pos h']
        exact .callB (gSum rfl) (.one (.name rfl)) sum_ok
      · have h' : ¬ sides.map (toldOf row behind) = sides.map (mostOf row) := of_decide_eq_false h
        unfold mixOf
        rw [if_neg h']
        exact .neg .int
end Mine
end

section
open PySem PySem.W PySem.Calls PyProof.Rows
set_option maxRecDepth 100000
set_option pp.maxSteps 3000
namespace Mine

theorem Ex.assignS {k : Nat} {sc : Scope} {oc : List Str} {σ : St} {x : Str} {p pos : Pos} {e : Expr} {pv : PV} (he : EvS k sc oc σ e pv) (hx : sc.names.lookup x = some .local ∨ x ∈ oc)
    (hs : ∀ env : Env, env.scope = sc → swapsWith e (some (.Name x p)) pos.line env = pure false) : Ex k sc oc σ (.Assign [.Name x p] e pos) .next (σ.setV x pv) := by
  intro w A env hC g s Q G hsc B F hQ
  refine wpAny_Assign_Name (he w A env hC g s _ G hsc (B.keeps F.keep) F fun v g₁ h₁ t₁ s₁ r₁ => ?_) (hs env hsc)
  exact (F.step s₁).store (hx.imp (fun e => by unfold Env.kindOf; rw [hsc]; exact e) id) r₁ fun h₂ t₂ F₂ _ => hQ _ g₁ h₂ t₂ rfl (s₁.gstep F.keep) F₂

abbrev L3 := Int × Int × Int
noncomputable def lightP (l : L3) : PV := .lst [.int l.1, .int l.2.1, .int l.2.2]
noncomputable def comp3 (l : L3) (i : Nat) : Int := [l.1, l.2.1, l.2.2].getD i 0
noncomputable def partSum (ls : List L3) (i : Nat) : Int := (ls.map (comp3 · i)).sum
noncomputable def sums3 (ls : List L3) : List Int := (List.range 3).map (partSum ls)
noncomputable def closed (ls : List L3) : List L3 := ls ++ [(maxI (sums3 ls) - partSum ls 0, maxI (sums3 ls) - partSum ls 1, maxI (sums3 ls) - partSum ls 2)]
theorem ints_map {α : Type} (f : α → Int) (l : List α) : (l.map fun x => PV.int (f x)) = (l.map f).map .int := by rw [List.map_map]; rfl

theorem closed_ok {k : Nat} {ls : List L3} (hl : ls.length ≤ 900) : CallOk (k + 2) (.ref 81) [.lst (ls.map lightP)] (.lst ((closed ls).map lightP)) := by
  apply CallOk.mk ["lights"] [.lst (ls.map lightP)] ["sums"]
  · intro w
    refine ⟨_, ⟨⟨_, rfl, rfl⟩, ?_, rfl, rfl, rfl, rfl, rfl⟩, ?_⟩
    · rfl
    · intro s g vs X r
      obtain ⟨x, rfl, rx⟩ := r.single
      exact ⟨[x], BindsTo.of_eq (by with_unfolding_all rfl), .one rx⟩
  · exact ⟨rfl, rfl, rfl, by decide, by decide, by decide⟩
  · rfl
  · refine .cons (.assignS (pv := intsP (sums3 ls)) (Ev.s ?_) (.inr (.head _)) (by intro env h; cases env; cases h; rfl)) (.fin (.ret (Ev.s ?_)))
    · have e : intsP (sums3 ls) = .lst ((List.range 3).map fun i => PV.int (partSum ls i)) := by unfold intsP sums3; rw [ints_map (partSum ls)]
      rw [e]
      refine .comp1 (List.range 3) (fun i => .int (0 + (i : Nat))) (fun i => .int (partSum ls i)) (caps := [("lights", .lst (ls.map lightP))]) (oc := ["part"]) (tt := false) (.mk' ["lights"] rfl rfl ⟨rfl, rfl, rfl, rfl, trivial⟩ (by decide) (by decide) (by decide))
        (.range1 (n := 3) (gRange rfl) (.one .int) (by decide)) (fun i hi => ⟨_, .name (.inr (.head _)), ⟨rfl, trivial⟩, .callB (gSum rfl) (.one (?_ : Ev _ _ _ _ (.lst ((ls.map (comp3 · i)).map .int)))) sum_ok⟩) (by decide)
      rw [← ints_map (comp3 · i)]
      refine .comp1 ls lightP (fun l => .int (comp3 l i)) (caps := [("part", .int (0 + (i : Nat)))]) (oc := []) (tt := false) (.mk' ["part"] rfl rfl ⟨rfl, rfl, rfl, rfl, trivial⟩ (by decide) (by decide) (by decide)) (.list (.name rfl)) (fun l hl' => ⟨_, .name (.inl rfl), ⟨rfl, trivial⟩, ?_⟩) (by omega)
      refine .get (xs := [.int l.1, .int l.2.1, .int l.2.2]) (.name rfl) (.name rfl) (by omega) ?_ (by simp)
      have hi' := List.mem_range.mp hi
      rw [show (0 + ((i : Nat) : Int)).toNat = i by omega]
      have h3 : i = 0 ∨ i = 1 ∨ i = 2 := by omega
      rcases h3 with rfl | rfl | rfl <;> rfl
    · have e : (PV.lst ((closed ls).map lightP)) = .lst (ls.map lightP ++ [.lst ((sums3 ls).map fun t => PV.int (maxI (sums3 ls) - t))]) := by
        unfold closed
        rw [List.map_append]; rfl
      rw [e]
      refine .bin (.name rfl) (.lst (.one (.comp1 (sums3 ls) .int (fun t => .int (maxI (sums3 ls) - t)) (caps := [("sums", intsP (sums3 ls))]) (oc := []) (tt := false) (.mk' ["sums"] rfl rfl ⟨rfl, rfl, rfl, rfl, trivial⟩ (by decide) (by decide) (by decide)) (.list (.name rfl))
        (fun t ht => ⟨_, .name (.inl rfl), ⟨rfl, trivial⟩, .bin (.callB (gMax rfl) (.one (.name rfl)) (max_ok (k := k) (by simp [sums3]))) (.name rfl) .subI⟩) (by simp [sums3]))) (by simp)) (.addL (by rw [List.length_map]; simp; omega))
end Mine
end

section
open PySem PySem.W PySem.Calls PyProof.Rows
set_option maxRecDepth 100000
set_option pp.maxSteps 3000
namespace Mine

theorem sliceL_upto {α : Type} (xs : List α) (b : Nat) : sliceL xs none (some (b : Int)) none = xs.take b := by
  have e : sliceBounds none (some (b : Int)) none xs.length = (((0 : Nat) : Int), ((min b xs.length : Nat) : Int), 1) := by
    simp only [sliceBounds, Option.getD_none]
    have h2 : ¬ ((b : Int) < 0) := by omega
    simp only [h2, if_false, show (1 : Int) > 0 by decide, if_true]
    congr 1
    congr 1; omega
  unfold sliceL
  rw [e]
  simp only [sliceRange_one]
  have := pick_run xs.toArray 0 (min b xs.length - 0)
  simp only [List.getElem?_toArray] at this
  rw [this]
  simp
theorem sliceL_from {α : Type} (xs : List α) (a : Nat) : sliceL xs (some (a : Int)) none none = xs.drop a := by
  have e : sliceBounds (some (a : Int)) none none xs.length = (((min a xs.length : Nat) : Int), (xs.length : Int), 1) := by
    simp only [sliceBounds, Option.getD_none]
    have h1 : ¬ ((a : Int) < 0) := by omega
    simp only [h1, if_false, show (1 : Int) > 0 by decide, if_true]
    congr 1
    omega
  unfold sliceL
  rw [e]
  simp only [sliceRange_one]
  have := pick_run xs.toArray (min a xs.length) (xs.length - min a xs.length)
  simp only [List.getElem?_toArray] at this
  rw [this]
  by_cases h : a ≤ xs.length
  · rw [Nat.min_eq_left h, List.take_of_length_le (by simp)]
  · rw [Nat.min_eq_right (by omega)]
    simp only [List.drop_length, List.take_nil]
    rw [List.drop_of_length_le (by omega)]

noncomputable def ordersStep (os : List (List C2)) (s : C2) : List (List C2) := (os.map fun o => (List.range o.length).map fun i => o.take (1 + i) ++ [s] ++ o.drop (1 + i)).flatten
noncomputable def ordersOf (sides : List C2) : List (List C2) := (sides.drop 1).foldl ordersStep [sides.take 1]
theorem ordersStep_len {os : List (List C2)} {s : C2} {m : Nat} (h : ∀ o ∈ os, o.length ≤ m) : (ordersStep os s).length ≤ os.length * m ∧ ∀ o ∈ ordersStep os s, o.length ≤ m + 1 := by
  constructor
  · unfold ordersStep
    induction os with
    | nil => simp
    | cons o r ih =>
      rw [List.map_cons, List.flatten_cons, List.length_append, List.length_map, List.length_range, List.length_cons, Nat.succ_mul]
      have h1 := h o (.head _)
      have h2 := ih fun q hq => h q (.tail _ hq)
      omega
  · intro q hq
    unfold ordersStep at hq
    obtain ⟨l, hl, hq⟩ := List.mem_flatten.mp hq
    obtain ⟨o, ho, rfl⟩ := List.mem_map.mp hl
    obtain ⟨i, hi, rfl⟩ := List.mem_map.mp hq
    have := h o ho
    simp only [List.length_append, List.length_take, List.length_drop, List.length_cons, List.length_nil]
    omega
theorem orders_len (sides : List C2) : ∀ done : List C2, (done.reverse.foldr (fun s os => ordersStep os s) [sides.take 1]).length ≤ (done.length + 1) ^ done.length ∧ ∀ o ∈ (done.reverse.foldr (fun s os => ordersStep os s) [sides.take 1]), o.length ≤ 1 + done.length := by
  intro done
  generalize hq : done.reverse = q
  have hl : done.length = q.length := by rw [← hq, List.length_reverse]
  rw [hl]
  clear hq hl
  induction q with
  | nil => simp; omega
  | cons s q ih =>
    obtain ⟨h1, h2⟩ := ih
    obtain ⟨h3, h4⟩ := ordersStep_len (s := s) h2
    rw [List.foldr_cons, List.length_cons]
    refine ⟨Nat.le_trans h3 ?_, fun o ho => by have := h4 o ho; omega⟩
    calc _ ≤ (q.length + 1) ^ q.length * (1 + q.length) := Nat.mul_le_mul_right _ h1
      _ ≤ (q.length + 1 + 1) ^ q.length * (q.length + 1 + 1) := Nat.mul_le_mul (Nat.pow_le_pow_left (by omega) _) (by omega)
      _ = _ := (Nat.pow_succ ..).symm
theorem orders_bnd (sides done : List C2) (h : done.length ≤ 3) : (done.foldl ordersStep [sides.take 1]).length ≤ 64 ∧ ∀ o ∈ done.foldl ordersStep [sides.take 1], o.length ≤ 4 := by
  have := orders_len sides done
  rw [List.foldr_reverse] at this
  refine ⟨Nat.le_trans this.1 ?_, fun o ho => by have := this.2 o ho; omega⟩
  have h3 : done.length = 0 ∨ done.length = 1 ∨ done.length = 2 ∨ done.length = 3 := by omega
  rcases h3 with e | e | e | e <;> rw [e] <;> decide

noncomputable def ordsP (os : List (List C2)) : PV := .lst (os.map crnP)
theorem orders_ok {k : Nat} {sides : List C2} (hl : sides.length ≤ 4) : CallOk (k + 1) (.ref 133) [crnP sides] (ordsP (ordersOf sides)) := by
  apply CallOk.mk ["sides"] [crnP sides] ["side"]
  · intro w
    refine ⟨_, ⟨⟨_, rfl, rfl⟩, ?_, rfl, rfl, rfl, rfl, rfl⟩, ?_⟩
    · rfl
    · intro s g vs X r
      obtain ⟨x, rfl, rx⟩ := r.single
      exact ⟨[x], BindsTo.of_eq (by with_unfolding_all rfl), .one rx⟩
  · exact ⟨rfl, rfl, rfl, by decide, by decide, by decide⟩
  · rfl
  · refine .cons (.assign (pv := ordsP [sides.take 1]) (Ev.s ?_) (.inl rfl)) ?_
    · refine .lst (xs := [crnP (sides.take 1)]) (.one ?_) (by simp)
      have e : crnP (sides.take 1) = .lst (sliceL (sides.map c2) none (some 1) none) := by
        unfold crnP
        rw [show (1 : Int) = ((1 : Nat) : Int) from rfl, sliceL_upto, List.map_take]
      rw [e]
      exact .slice (.name rfl) trivial .int trivial (by decide) (by rw [List.length_map]; omega)
    · refine .cons (.fors (tt := false) (items := (sides.drop 1).map c2) (.list ?_) (Turns.seq (sides.drop 1) c2 (fun done => ⟨[("sides", crnP sides), ("orders", ordsP (done.foldl ordersStep [sides.take 1]))], []⟩) ?_)) (.fin (.ret (Ev.s (.name rfl))))
      · have e : (PV.lst ((sides.drop 1).map c2)) = .lst (sliceL (sides.map c2) (some 1) none none) := by
          rw [show (1 : Int) = ((1 : Nat) : Int) from rfl, sliceL_from, List.map_drop]
        rw [e]
        exact .slice (.name rfl) .int trivial trivial (by decide) (by rw [List.length_map]; omega)
      · intro done s rest e
        have hd : done.length ≤ 3 := by have := congrArg List.length e; simp at this; omega
        obtain ⟨hb1, hb2⟩ := orders_bnd sides done hd
        have hfold : (done ++ [s]).foldl ordersStep [sides.take 1] = ordersStep (done.foldl ordersStep [sides.take 1]) s := by rw [List.foldl_append]; rfl
        rw [hfold]
        generalize done.foldl ordersStep [sides.take 1] = os at hb1 hb2 ⊢
        refine ⟨_, .name (.inr (.head _)), ?_⟩
        have eo : (ordersStep os s).map crnP = (os.map fun o => (List.range o.length).map fun i => crnP (o.take (1 + i) ++ [s] ++ o.drop (1 + i))).flatten := by
          unfold ordersStep
          rw [List.map_flatten, List.map_map]
          congr 1
          apply List.map_congr_left
          intro o _
          rw [Function.comp, List.map_map]; rfl
        have hlen := (ordersStep_len (s := s) hb2).1
        refine .wk (.cons (.assignU (outs := (ordersStep os s).map crnP) (caps := [("side", c2 s)]) (oc' := []) (.mk' ["side"] rfl rfl ⟨rfl, rfl, rfl, rfl, trivial⟩ (by decide) (by decide) (by decide)) ?_ rfl (by intro env h; cases env; cases h; rfl)) .nil) ⟨rfl, rfl, trivial⟩ trivial
        refine Lc.of (caps := [("side", c2 s)]) (oc := []) (turn_two0 _ _ _ _ _ _ _) (.mk' ["side"] rfl rfl ⟨rfl, rfl, rfl, rfl, trivial⟩ (by decide) (by decide) (by decide)) (tt := false) (items := os.map crnP) (.list (.name rfl)) ?_ (by rw [List.length_map]; omega)
        rw [eo]
        refine Els.seq crnP (fun o => (List.range o.length).map fun i => crnP (o.take (1 + i) ++ [s] ++ o.drop (1 + i))) os fun o ho => ⟨_, .name (.inl rfl), ⟨rfl, trivial⟩, ?_⟩
        have hol := hb2 o ho
        refine CT.next (turn_two1 _ _ _ _ _ _ _) (tt := false) (.range2 (a := 1) (b := ((o.map c2).length : Int) + 1) (gRange rfl) (.two .int (.bin (.callB (gLen rfl) (.one (.name rfl)) (len_ok (by rw [List.length_map]; omega))) .int .addI)) ?_) ?_
        · exact small_one (by decide) (by decide) (by omega) (by rw [List.length_map]; omega)
        · have en : (((o.map c2).length : Int) + 1 - 1).toNat = o.length := by rw [List.length_map]; omega
          rw [en]
          rw [← flat_single (fun i => crnP (o.take (1 + i) ++ [s] ++ o.drop (1 + i))) (List.range o.length)]
          refine Els.seq (fun i : Nat => .int (1 + (i : Nat))) (fun i => [crnP (o.take (1 + i) ++ [s] ++ o.drop (1 + i))]) (List.range o.length) fun i hi => ⟨_, .name (.inl rfl), ⟨rfl, rfl, trivial⟩, .last ?_⟩
          have hi' := List.mem_range.mp hi
          have e1 : crnP (o.take (1 + i) ++ [s] ++ o.drop (1 + i)) = .lst ((sliceL (o.map c2) none (some (1 + (i : Int))) none ++ [c2 s]) ++ sliceL (o.map c2) (some (1 + (i : Int))) none none) := by
            rw [show (1 + (i : Int)) = ((1 + i : Nat) : Int) by omega, sliceL_upto, sliceL_from]
            unfold crnP
            rw [List.map_append, List.map_append, List.map_take, List.map_drop]; rfl
          rw [e1]
          have hA : (sliceL (o.map c2) none (some (1 + (i : Int))) none).length ≤ 10 := by
            rw [show (1 + (i : Int)) = ((1 + i : Nat) : Int) by omega, sliceL_upto, List.length_take, List.length_map]; omega
          have hB : (sliceL (o.map c2) (some (1 + (i : Int))) none none).length ≤ 10 := by
            rw [show (1 + (i : Int)) = ((1 + i : Nat) : Int) by omega, sliceL_from, List.length_drop, List.length_map]; omega
          exact .bin (.bin (.slice (xs := o.map c2) (l := none) (h := some (1 + (i : Int))) (st' := none) (.name rfl) trivial (Ev.name rfl) trivial (by decide) (by rw [List.length_map]; omega)) (.lst (.one (.name rfl)) (by simp)) (.addL (by simp only [List.length_cons, List.length_nil]; omega)))
            (.slice (xs := o.map c2) (l := some (1 + (i : Int))) (h := none) (st' := none) (.name rfl) (Ev.name rfl) trivial trivial (by decide) (by rw [List.length_map]; omega)) (.addL (by rw [List.length_append]; simp only [List.length_cons, List.length_nil]; omega))
end Mine
end

section
open PySem PySem.W PySem.Calls PyProof.Rows
set_option maxRecDepth 100000
set_option pp.maxSteps 3000
namespace Mine

noncomputable def Sm (s : C2) : Prop := (-(2 ^ 64) < s.1 ∧ s.1 < 2 ^ 64) ∧ (-(2 ^ 64) < s.2 ∧ s.2 < 2 ^ 64)
noncomputable def cw2 (c s : C2) : Int := c.1 * s.2 - c.2 * s.1
noncomputable def add2 (c s : C2) : C2 := (c.1 + s.1, c.2 + s.2)
noncomputable def corners2 : C2 → List C2 → List C2
  | c, [] => [c]
  | c, s :: r => c :: corners2 (add2 c s) r
noncomputable def endOf2 (c : C2) (r : List C2) : C2 := r.foldl add2 c
noncomputable def room2 : C2 → List C2 → Int
  | _, [] => 0
  | c, s :: r => cw2 c s + room2 (add2 c s) r
theorem corners2_snoc : ∀ (r : List C2) (c : C2) (s : C2), corners2 c (r ++ [s]) = corners2 c r ++ [add2 (endOf2 c r) s]
  | [], c, s => rfl
  | a :: r, c, s => by
    show c :: corners2 _ (r ++ [s]) = c :: (corners2 _ r ++ _)
    rw [corners2_snoc r]; rfl
theorem corners2_length : ∀ (r : List C2) (c : C2), (corners2 c r).length = r.length + 1
  | [], c => rfl
  | a :: r, c => by show (corners2 _ r).length + 1 = _; rw [corners2_length r]; rfl
theorem corners2_last : ∀ (r : List C2) (c : C2), (corners2 c r)[r.length]? = some (endOf2 c r)
  | [], c => rfl
  | a :: r, c => by
    show (c :: corners2 _ r)[r.length + 1]? = _
    rw [List.getElem?_cons_succ, corners2_last r]; rfl
theorem room2_snoc : ∀ (r : List C2) (c : C2) (s : C2), room2 c (r ++ [s]) = room2 c r + cw2 (endOf2 c r) s
  | [], c, s => by show cw2 c s + 0 = 0 + cw2 c s; omega
  | a :: r, c, s => by
    show cw2 c a + room2 _ (r ++ [s]) = cw2 c a + room2 _ r + _
    rw [room2_snoc r]
    show _ = _ + cw2 (endOf2 (add2 c a) r) s
    omega

noncomputable def bestStep (p : Int × List (List C2)) (o : List C2) : Int × List (List C2) :=
  if p.1 < room2 (0, 0) o then (room2 (0, 0) o, [corners2 (0, 0) o]) else if room2 (0, 0) o = p.1 then (p.1, p.2 ++ [corners2 (0, 0) o]) else p
noncomputable def bestOf (sides : List C2) : Int × List (List C2) := (ordersOf sides).foldl bestStep (-1, [])
theorem bestStep_len (p : Int × List (List C2)) (o : List C2) : (bestStep p o).2.length ≤ p.2.length + 1 := by
  unfold bestStep
  split
  · simp
  · split <;> simp
theorem best_len : ∀ (q : List (List C2)) (p : Int × List (List C2)), (q.foldl bestStep p).2.length ≤ p.2.length + q.length
  | [], p => by simp
  | o :: q, p => by
    have := best_len q (bestStep p o)
    have := bestStep_len p o
    rw [List.foldl_cons, List.length_cons]; omega

section
variable {k : Nat} {sc : Scope} {ρ : Loc} {pos : Pos}
theorem gOrders (h : sc.names.lookup ("_law_orders" : Str) = some .globalImplicit) : Ev k sc ρ (.Name ("_law_orders" : Str) pos) (.fn 133) := Ev.globv h (fun w => rfl) (v := .ref 133) (fun g => by simp only [Rep])
end

noncomputable def bestP (p : Int × List (List C2)) : PV := .tup [.int p.1, ordsP p.2]
theorem best_ok {k : Nat} {sides : List C2} (hl : sides.length ≤ 4) (hsm : ∀ o ∈ ordersOf sides, ∀ s ∈ o, Sm s) : CallOk (k + 2) (.ref 140) [crnP sides] (bestP (bestOf sides)) := by
  apply CallOk.mk ["sides"] [crnP sides] []
  · intro w
    refine ⟨_, ⟨⟨_, rfl, rfl⟩, ?_, rfl, rfl, rfl, rfl, rfl⟩, ?_⟩
    · rfl
    · intro s g vs X r
      obtain ⟨x, rfl, rx⟩ := r.single
      exact ⟨[x], BindsTo.of_eq (by with_unfolding_all rfl), .one rx⟩
  · exact ⟨rfl, rfl, rfl, by decide, by decide, by decide⟩
  · rfl
  · refine .cons (.assignM (.val (.neg .int) (.own (xs := []) .nil (by decide) .nil rfl (by intro _; rfl)) (.inl rfl) (by intro _; rfl)) rfl (by intro _; rfl) (by intro env h; cases env; cases h; rfl)) ?_
    refine .pr (σ₁ := ⟨[("sides", crnP sides), ("best", .int (-1))], [("kept", [])]⟩) ?_ ⟨rfl, rfl, trivial⟩ ⟨rfl, trivial⟩
    have hob := orders_bnd sides (sides.drop 1) (by rw [List.length_drop]; omega)
    refine .cons (.fors (tt := false) (items := (ordersOf sides).map crnP) (.list (.callF (gOrders rfl) (.one (.name rfl)) (orders_ok hl) (fun w => rfl))) (Turns.seq (ordersOf sides) crnP (fun done => ⟨[("sides", crnP sides), ("best", .int (done.foldl bestStep (-1, [])).1)], [("kept", (done.foldl bestStep (-1, [])).2.map crnP)]⟩) ?_))
      (.freeze (x := "kept") rfl (.fin (.ret (Ev.s (.tup (.two (.name rfl) (.name rfl)) (by simp))))))
    intro done o rest e
    have hoL : o.length ≤ 4 := hob.2 o (by show o ∈ ordersOf sides; rw [e]; simp)
    have hoS := hsm o (by rw [e]; simp)
    have hkl : (done.foldl bestStep (-1, [])).2.length ≤ 64 := by
      have h1 := best_len done (-1, [])
      have h2 := congrArg List.length e
      have h3 : (ordersOf sides).length ≤ 64 := hob.1
      simp at h1 h2; omega
    have hstep : (done ++ [o]).foldl bestStep (-1, []) = bestStep (done.foldl bestStep (-1, [])) o := by rw [List.foldl_append]; rfl
    rw [hstep]
    generalize done.foldl bestStep (-1, []) = p at hkl ⊢
    obtain ⟨b, kp⟩ := p
    dsimp only at hkl ⊢
    refine ⟨_, .name (.inl rfl), ?_⟩
    refine .cons (.assignM (.val .int (.own (xs := [c2 (0, 0)]) (.one (.tup (.two .int .int) (by simp))) (by simp) .nil rfl (by intro _; rfl)) (.inl rfl) (by intro _; rfl)) rfl (by intro _; rfl) (by intro env h; cases env; cases h; rfl)) ?_
    refine .pr (σ₁ := ⟨[("sides", crnP sides), ("best", .int b), ("order", crnP o), ("room", .int 0)], [("kept", kp.map crnP), ("corners", [c2 (0, 0)])]⟩) ?_ ⟨rfl, rfl, rfl, rfl, trivial⟩ ⟨rfl, rfl, trivial⟩
    refine .cons (.fors (tt := true) (items := o.map c2) (.listT (.name rfl) ?_) (Turns.seq o c2 (fun q => ⟨[("sides", crnP sides), ("best", .int b), ("order", crnP o), ("room", .int (room2 (0, 0) q))], [("kept", kp.map crnP), ("corners", (corners2 (0, 0) q).map c2)]⟩) ?_)) ?_
    · intro pv hpv
      obtain ⟨s, _, rfl⟩ := List.mem_map.mp hpv
      exact ⟨_, .inl rfl⟩
    · intro q s rest' e'
      have hs : Sm s := hoS s (by rw [e']; simp)
      have hq : q.length ≤ 4 := by have := congrArg List.length e'; simp at this; omega
      have hl2 : ((corners2 (0, 0) q).map c2).length = q.length + 1 := by rw [List.length_map, corners2_length]
      have hla : ((corners2 (0, 0) q).map c2)[q.length]? = some (c2 (endOf2 (0, 0) q)) := by rw [List.getElem?_map, corners2_last]; rfl
      refine ⟨_, .tup (.inl rfl) (.cons (.inl rfl) (.cons (.inl rfl) .nil)), ?_⟩
      refine .wk (.cons (.assignT (pv := c2 (endOf2 (0, 0) q)) (.read (x := "corners") rfl rfl (.lastOf (.name rfl) hl2 hla (by omega))) (.inl rfl) (.cons (.inl rfl) (.cons (.inl rfl) .nil)))
        (.cons (.augI (a := room2 (0, 0) q) rfl rfl (Ev.s (.bin (.bin (.name rfl) (.name rfl) (.mulI (.inr hs.2))) (.bin (.name rfl) (.name rfl) (.mulI (.inr hs.1))) .subI)))
        (.cons (.append (pv := c2 (add2 (endOf2 (0, 0) q) s)) rfl (Ev.s (.tup (.two (.bin (.name rfl) (.name rfl) .addI) (.bin (.name rfl) (.name rfl) .addI)) (by simp))) (by omega)) .nil))) ⟨rfl, rfl, rfl, ?_, trivial⟩ ⟨rfl, ?_, trivial⟩
      · rw [room2_snoc]; rfl
      · rw [corners2_snoc, List.map_append]; rfl
    · unfold bestStep
      dsimp only
      by_cases h1 : b < room2 (0, 0) o
      · rw [if_pos h1]
        refine .cons (.ifT (Tst.s' (.cmp (.name rfl) (.name rfl) .gtI) (by simpa using h1)) (.cons (.assignM (.val (.name rfl) (.own (xs := []) .nil (by decide) .nil rfl (by intro _; rfl)) (.inl rfl) (by intro _; rfl)) rfl (by intro _; rfl) (by intro env h; cases env; cases h; rfl)) .nil)) ?_
        refine .pr (σ₁ := ⟨[("sides", crnP sides), ("best", .int (room2 (0, 0) o)), ("room", .int (room2 (0, 0) o))], [("kept", []), ("corners", (corners2 (0, 0) o).map c2)]⟩) ?_ ⟨rfl, rfl, rfl, trivial⟩ ⟨rfl, rfl, trivial⟩
        refine .freeze (x := "corners") rfl ?_
        exact .wk (.cons (.ifT (Tst.s' (.cmp (.name rfl) (.name rfl) .eqI) (by simp)) (.cons (.append (pv := crnP (corners2 (0, 0) o)) rfl (Ev.s (.name rfl)) (by simp)) .nil)) .nil) ⟨rfl, rfl, trivial⟩ ⟨rfl, trivial⟩
      · rw [if_neg h1]
        refine .cons (.ifF (Tst.s' (.cmp (.name rfl) (.name rfl) .gtI) (by simpa using h1)) .nil) ?_
        refine .freeze (x := "corners") rfl ?_
        by_cases h2 : room2 (0, 0) o = b
        · rw [if_pos h2]
          refine .wk (.cons (.ifT (Tst.s' (.cmp (.name rfl) (.name rfl) .eqI) (by simpa using h2)) (.cons (.append (pv := crnP (corners2 (0, 0) o)) rfl (Ev.s (.name rfl)) (by rw [List.length_map]; omega)) .nil)) .nil) ⟨rfl, rfl, trivial⟩ ⟨?_, trivial⟩
          rw [List.map_append]; rfl
        · rw [if_neg h2]
          exact .wk (.cons (.ifF (Tst.s' (.cmp (.name rfl) (.name rfl) .eqI) (by simpa using h2)) .nil) .nil) ⟨rfl, rfl, trivial⟩ ⟨rfl, trivial⟩

noncomputable def mostSum (cs ss : List C2) : Int := (ss.map fun s => maxI (cs.map fun c => cw2 c s)).sum
theorem most_ok {k : Nat} {cs ss : List C2} (h0 : cs ≠ []) (hc : cs.length ≤ 900) (hl : ss.length ≤ 900) (hs : ∀ s ∈ ss, Sm s) : CallOk (k + 2) (.ref 145) [crnP cs, crnP ss] (.int (mostSum cs ss)) := by
  apply CallOk.mk ["corners", "sides"] [crnP cs, crnP ss] []
  · intro w
    refine ⟨_, ⟨⟨_, rfl, rfl⟩, ?_, rfl, rfl, rfl, rfl, rfl⟩, ?_⟩
    · rfl
    · intro s g vs X r
      obtain ⟨x, y, rfl, rx, ry⟩ := r.two
      exact ⟨[x, y], BindsTo.of_eq (by with_unfolding_all rfl), .cons rx (.one ry)⟩
  · exact ⟨rfl, rfl, rfl, by decide, by decide, by decide⟩
  · rfl
  · refine .fin (.ret (Ev.s (.callB (gSum rfl) (.one (?_ : Ev _ _ _ _ (.lst ((ss.map fun s => maxI (cs.map fun c => cw2 c s)).map .int)))) sum_ok)))
    rw [← ints_map (fun s => maxI (cs.map fun c => cw2 c s))]
    refine .comp1 ss c2 (fun s => .int (maxI (cs.map fun c => cw2 c s))) (caps := [("corners", crnP cs)]) (oc := ["right", "up"]) (tt := true) (.mk' ["corners"] rfl rfl ⟨rfl, rfl, rfl, rfl, trivial⟩ (by decide) (by decide) (by decide)) (.listT (.name rfl) ?_)
      (fun s hs' => ⟨_, .tup (.inl rfl) (.cons (.inr (.head _)) (.cons (.inr (.tail _ (.head _))) .nil)), ⟨rfl, trivial⟩, .callB (gMax rfl) (.one (?_ : Ev _ _ _ _ (.lst ((cs.map fun c => cw2 c s).map .int)))) (max_ok (k := k) ?_)⟩) (by omega)
    · intro pv hpv
      obtain ⟨s, _, rfl⟩ := List.mem_map.mp hpv
      exact ⟨_, .inl rfl⟩
    · rw [← ints_map (fun c => cw2 c s)]
      have hsm := hs s hs'
      refine .comp1 cs c2 (fun c => .int (cw2 c s)) (caps := [("up", .int s.2), ("right", .int s.1)]) (oc := []) (tt := true) (.mk' ["up", "right"] rfl rfl ⟨rfl, rfl, rfl, rfl, rfl, rfl, rfl, rfl, trivial⟩ (by decide) (by decide) (by decide)) (.listT (.name rfl) ?_)
        (fun c hc' => ⟨_, .tup (.inl rfl) (.cons (.inl rfl) (.cons (.inl rfl) .nil)), ⟨rfl, rfl, trivial⟩, .bin (.bin (.name rfl) (.name rfl) (.mulI (.inr hsm.2))) (.bin (.name rfl) (.name rfl) (.mulI (.inr hsm.1))) .subI⟩) (by omega)
      intro pv hpv
      obtain ⟨s, _, rfl⟩ := List.mem_map.mp hpv
      exact ⟨_, .inl rfl⟩
    · intro h
      apply h0
      simpa using h
end Mine
end

section
open PySem PySem.W PySem.Calls PyProof.Rows
namespace Mine

/-! ## floats: the hues of lights of 0 to 12 parts -/
noncomputable def f16 : UInt64 := 0x4030000000000000
noncomputable def f6 : UInt64 := 0x4018000000000000
noncomputable def f1 : UInt64 := 0x3FF0000000000000
noncomputable def f2 : UInt64 := 0x4000000000000000
noncomputable def f4 : UInt64 := 0x4010000000000000
noncomputable def fh : UInt64 := 0x3FE0000000000000
noncomputable def fT : UInt64 := 0x41044D8000000000
noncomputable def q16 (n : Int) : UInt64 := Float64.div (Float64.ofInt n) f16
noncomputable def feq (a b : UInt64) : Bool := Float64.cmp a b == some Ordering.eq
noncomputable def force {α : Type} (x : UInt64) (k : UInt64 → α) : α := Nat.casesOn (motive := fun _ => α) x.toNat (k 0) (fun m => k (UInt64.ofNat (m + 1)))
theorem force_eq {α : Type} (x : UInt64) (k : UInt64 → α) : force x k = k x := by
  unfold force
  generalize h : x.toNat = n
  have hx : x = UInt64.ofNat n := by rw [← h]; simp
  cases n with
  | zero => rw [hx]; rfl
  | succ m => rw [hx]
noncomputable def keyOf (x : UInt64) : Option Int := match Float64.decode (Float64.add (Float64.mul x fT) fh) with
  | .fin sg m e => some (Float64.truncOf sg m e)
  | _ => none
noncomputable def tail6 (h : UInt64) : UInt64 := (Float64.divmod (Float64.div h f6) f1).snd
noncomputable def keyC (h : UInt64) : Option Int := force (Float64.div h f6) fun a => force (Float64.divmod a f1).snd fun b => force (Float64.mul b fT) fun c => force (Float64.add c fh) fun d => match Float64.decode d with
  | .fin sg m e => some (Float64.truncOf sg m e)
  | _ => none
theorem keyC_eq (h : UInt64) : keyC h = keyOf (tail6 h) := by
  unfold keyC
  rw [force_eq, force_eq, force_eq, force_eq]; rfl
noncomputable def dv (d n : Int) : UInt64 := Float64.div (q16 d) (q16 n)
/-- the six roads to a hue, d of n parts -/
noncomputable def roadT (d n : Nat) : Bool := force (dv d n) fun x =>
  force (Float64.sub x f1) (fun h => keyC h == some (((d : Int) - n) * (27720 / n) % 166320)) &&
  force (Float64.sub f1 x) (fun h => keyC h == some (((n : Int) - d) * (27720 / n) % 166320)) &&
  force (Float64.add f2 x) (fun y => force (Float64.sub y f1) fun h => keyC h == some (55440 + ((d : Int) - n) * (27720 / n))) &&
  force (Float64.add f2 f1) (fun y => force (Float64.sub y x) fun h => keyC h == some (55440 + ((n : Int) - d) * (27720 / n))) &&
  force (Float64.add f4 x) (fun y => force (Float64.sub y f1) fun h => keyC h == some (110880 + ((d : Int) - n) * (27720 / n))) &&
  force (Float64.add f4 f1) (fun y => force (Float64.sub y x) fun h => keyC h == some (110880 + ((n : Int) - d) * (27720 / n)))
theorem cmp_t : ((List.range 13).all fun a => force (q16 (a : Nat)) fun x => (List.range 13).all fun b => force (q16 (b : Nat)) fun y => Float64.cmp x y == some (compare a b)) = true := by decide +kernel
theorem sub_t : ((List.range 13).all fun a => force (q16 (a : Nat)) fun x => (List.range (a + 1)).all fun b => force (q16 (b : Nat)) fun y => force (Float64.sub x y) fun u => force (q16 ((a - b : Nat))) fun v => u == v) = true := by decide +kernel
theorem red_t : ((List.range 13).all fun n => (List.range (n + 1)).all fun d => n == 0 || force (dv (d : Nat) (n : Nat)) fun x => force (dv ((d / Nat.gcd d n : Nat)) ((n / Nat.gcd d n : Nat))) fun y => x == y && ((d : Int) - n) * (27720 / n) == (((d / Nat.gcd d n : Nat) : Int) - (n / Nat.gcd d n : Nat)) * (27720 / (n / Nat.gcd d n : Nat))) = true := by decide +kernel
noncomputable def roadN (n : Nat) : Bool := (List.range (n + 1)).all fun d => n == 0 || Nat.gcd d n != 1 || roadT d n
theorem road_a : ([0, 1, 2, 3, 4, 5, 6].all roadN) = true := by decide +kernel
theorem road_b : ([7, 8].all roadN) = true := by decide +kernel
theorem road_c : ([9, 10].all roadN) = true := by decide +kernel
theorem road_d : ([11].all roadN) = true := by decide +kernel
theorem road_e : ([12].all roadN) = true := by decide +kernel
theorem road_t : ((List.range 13).all roadN) = true := by
  show (([0, 1, 2, 3, 4, 5, 6] ++ ([7, 8] ++ ([9, 10] ++ ([11] ++ [12])))).all roadN) = true
  rw [List.all_append, List.all_append, List.all_append, List.all_append, road_a, road_b, road_c, road_d, road_e]; rfl
theorem one_t : ((List.range 13).all fun n => n == 0 || force (dv (n : Nat) (n : Nat)) fun x => x == f1) = true := by decide +kernel
theorem nz_t : ((List.range 13).all fun n => force (q16 (n : Nat)) fun x => Float64.isZero x == (n == 0)) = true := by decide +kernel
noncomputable def f0 : UInt64 := 0
theorem share1_t : ((List.range 13).all fun M => force (q16 (M : Nat)) fun x => (List.range M).all fun m => force (q16 ((M - m : Nat))) fun y => force (Float64.div y x) fun z => Float64.cmp z f0 != some Ordering.eq) = true := by decide +kernel
noncomputable def share2 (mx mn rg sm : UInt64) : UInt64 := if (Float64.cmp (Float64.div sm f2) fh == some Ordering.lt || Float64.cmp (Float64.div sm f2) fh == some Ordering.eq) then Float64.div rg sm else Float64.div rg (Float64.sub (Float64.sub f2 mx) mn)
theorem share2_t : ((List.range 13).all fun M => force (q16 (M : Nat)) fun x => (List.range M).all fun m => force (q16 (m : Nat)) fun w => force (q16 ((M - m : Nat))) fun y => force (Float64.add x w) fun s => force (share2 x w y s) fun z =>
  (Float64.cmp z f0 != some Ordering.eq) && (Float64.isZero s == false) && (force (Float64.sub f2 x) fun a => Float64.isZero (Float64.sub a w) == false)) = true := by decide +kernel

/-! the tables, read -/
theorem rng {p : Nat → Bool} {n : Nat} (h : ((List.range n).all p) = true) {a : Nat} (ha : a < n) : p a = true := List.all_eq_true.mp h a (List.mem_range.mpr ha)
theorem cmp_q {a b : Nat} (ha : a < 13) (hb : b < 13) : Float64.cmp (q16 a) (q16 b) = some (compare a b) := by
  have := rng cmp_t ha
  rw [force_eq] at this
  have := rng this hb
  rw [force_eq] at this
  simpa using this
theorem sub_q {a b : Nat} (ha : a < 13) (hb : b ≤ a) : Float64.sub (q16 a) (q16 b) = q16 ((a - b : Nat)) := by
  have := rng sub_t ha
  rw [force_eq] at this
  have := rng this (a := b) (by omega)
  simp only [force_eq] at this
  simpa using this
theorem red_q {d n : Nat} (hn : n < 13) (h0 : n ≠ 0) (hd : d ≤ n) : dv d n = dv ((d / Nat.gcd d n : Nat)) ((n / Nat.gcd d n : Nat)) ∧ ((d : Int) - n) * (27720 / n) = (((d / Nat.gcd d n : Nat) : Int) - (n / Nat.gcd d n : Nat)) * (27720 / (n / Nat.gcd d n : Nat)) := by
  have := rng (rng red_t hn) (a := d) (by omega)
  simp only [force_eq] at this
  simpa [h0] using this
theorem one_q {n : Nat} (hn : n < 13) (h0 : n ≠ 0) : dv n n = f1 := by
  have := rng one_t hn
  simp only [force_eq] at this
  simpa [h0] using this
theorem nz_q {n : Nat} (hn : n < 13) : Float64.isZero (q16 n) = (n == 0) := by
  have := rng nz_t hn
  simp only [force_eq] at this
  exact beq_iff_eq.mp this
theorem share1_q {M m : Nat} (hM : M < 13) (hm : m < M) : (Float64.cmp (Float64.div (q16 ((M - m : Nat))) (q16 M)) f0 != some Ordering.eq) = true := by
  have := rng share1_t hM
  simp only [force_eq] at this
  exact rng this hm
theorem share2_q {M m : Nat} (hM : M < 13) (hm : m < M) : (Float64.cmp (share2 (q16 M) (q16 m) (q16 ((M - m : Nat))) (Float64.add (q16 M) (q16 m))) f0 != some Ordering.eq) = true ∧ Float64.isZero (Float64.add (q16 M) (q16 m)) = false ∧ Float64.isZero (Float64.sub (Float64.sub f2 (q16 M)) (q16 m)) = false := by
  have := rng share2_t hM
  simp only [force_eq] at this
  have := rng this hm
  simp only [Bool.and_eq_true, beq_iff_eq] at this
  exact ⟨this.1.1, this.1.2, this.2⟩
theorem road_q {d n : Nat} (hn : n < 13) (h0 : n ≠ 0) (hd : d ≤ n) :
    keyOf (tail6 (Float64.sub (dv d n) f1)) = some (((d : Int) - n) * (27720 / n) % 166320) ∧ keyOf (tail6 (Float64.sub f1 (dv d n))) = some (((n : Int) - d) * (27720 / n) % 166320) ∧
    keyOf (tail6 (Float64.sub (Float64.add f2 (dv d n)) f1)) = some (55440 + ((d : Int) - n) * (27720 / n)) ∧ keyOf (tail6 (Float64.sub (Float64.add f2 f1) (dv d n))) = some (55440 + ((n : Int) - d) * (27720 / n)) ∧
    keyOf (tail6 (Float64.sub (Float64.add f4 (dv d n)) f1)) = some (110880 + ((d : Int) - n) * (27720 / n)) ∧ keyOf (tail6 (Float64.sub (Float64.add f4 f1) (dv d n))) = some (110880 + ((n : Int) - d) * (27720 / n)) := by
  obtain ⟨e1, e2⟩ := red_q hn h0 hd
  have hg : 0 < Nat.gcd d n := Nat.gcd_pos_of_pos_right _ (by omega)
  have hn' : n / Nat.gcd d n < 13 := Nat.lt_of_le_of_lt (Nat.div_le_self _ _) hn
  have hn0 : n / Nat.gcd d n ≠ 0 := by
    have := Nat.div_pos (Nat.le_of_dvd (by omega) (Nat.gcd_dvd_right d n)) hg
    omega
  have hd' : d / Nat.gcd d n ≤ n / Nat.gcd d n := Nat.div_le_div_right hd
  have hc : Nat.gcd (d / Nat.gcd d n) (n / Nat.gcd d n) = 1 := by rw [Nat.gcd_div (Nat.gcd_dvd_left d n) (Nat.gcd_dvd_right d n), Nat.div_self hg]
  have e3 : ((n : Int) - d) * (27720 / n) = (((n / Nat.gcd d n : Nat) : Int) - (d / Nat.gcd d n : Nat)) * (27720 / (n / Nat.gcd d n : Nat)) := by
    have a1 : ((n : Int) - d) * (27720 / n) = -(((d : Int) - n) * (27720 / n)) := by rw [← Int.neg_mul]; congr 1; omega
    have a2 : (((n / Nat.gcd d n : Nat) : Int) - (d / Nat.gcd d n : Nat)) * (27720 / (n / Nat.gcd d n : Nat)) = -((((d / Nat.gcd d n : Nat) : Int) - (n / Nat.gcd d n : Nat)) * (27720 / (n / Nat.gcd d n : Nat))) := by rw [← Int.neg_mul]; congr 1; omega
    rw [a1, a2, e2]
  rw [e1, e2, e3]
  have := rng (rng road_t hn') (a := d / Nat.gcd d n) (by omega)
  generalize n / Nat.gcd d n = n' at *
  generalize d / Nat.gcd d n = d' at *
  rw [hc] at this
  have hn0' : (n' == 0) = false := by simpa using hn0
  rw [hn0'] at this
  have this : roadT d' n' = true := by simpa using this
  unfold roadT at this
  simp only [force_eq, keyC_eq, Bool.and_eq_true, beq_iff_eq] at this
  obtain ⟨⟨⟨⟨⟨a, b⟩, c⟩, d⟩, e⟩, f⟩ := this
  exact ⟨a, b, c, d, e, f⟩

/-! maxima -/
theorem fgt_q {a b : Nat} (ha : a < 13) (hb : b < 13) : fgt (q16 a) (q16 b) = decide (b < a) := by
  unfold fgt; rw [cmp_q ha hb]
  rcases Nat.lt_trichotomy a b with h | h | h
  · rw [Nat.compare_eq_lt.mpr h]; simp; omega
  · rw [Nat.compare_eq_eq.mpr h]; simp; omega
  · rw [Nat.compare_eq_gt.mpr h]; simp; omega
theorem flt_q {a b : Nat} (ha : a < 13) (hb : b < 13) : flt' (q16 a) (q16 b) = decide (a < b) := by
  unfold flt'; rw [cmp_q ha hb]
  rcases Nat.lt_trichotomy a b with h | h | h
  · rw [Nat.compare_eq_lt.mpr h]; simp; omega
  · rw [Nat.compare_eq_eq.mpr h]; simp; omega
  · rw [Nat.compare_eq_gt.mpr h]; simp; omega
theorem feq_q {a b : Nat} (ha : a < 13) (hb : b < 13) : feq (q16 a) (q16 b) = decide (a = b) := by
  unfold feq; rw [cmp_q ha hb]
  rcases Nat.lt_trichotomy a b with h | h | h
  · rw [Nat.compare_eq_lt.mpr h]; simp; omega
  · rw [Nat.compare_eq_eq.mpr h]; simp; omega
  · rw [Nat.compare_eq_gt.mpr h]; simp; omega
noncomputable def mx3 (r g b : Nat) : Nat := max r (max g b)
noncomputable def mn3 (r g b : Nat) : Nat := min r (min g b)
theorem if_max (x y : Nat) : max x y = if y > x then y else x := by
  rcases Nat.lt_or_ge x y with h | h
  · rw [if_pos h, Nat.max_eq_right (Nat.le_of_lt h)]
  · rw [if_neg (Nat.not_lt.mpr h), Nat.max_eq_left h]
theorem if_min (x y : Nat) : min x y = if y < x then y else x := by
  rcases Nat.lt_or_ge y x with h | h
  · rw [if_pos h, Nat.min_eq_right (Nat.le_of_lt h)]
  · rw [if_neg (Nat.not_lt.mpr h), Nat.min_eq_left h]
theorem max_q {r g b : Nat} (hr : r < 13) (hg : g < 13) (hb : b < 13) : maxF3 (q16 r) (q16 g) (q16 b) = q16 (mx3 r g b) := by
  unfold maxF3
  rw [fgt_q hg hr, fgt_q hb hg, fgt_q hb hr]
  unfold mx3
  rw [← Nat.max_assoc, if_max r g]
  by_cases h1 : r < g
  · rw [decide_eq_true h1, if_pos rfl, if_pos h1, if_max g b]
    by_cases h2 : g < b
    · rw [decide_eq_true h2, if_pos rfl, if_pos h2]
    · rw [decide_eq_false h2, if_neg Bool.false_ne_true, if_neg h2]
  · rw [decide_eq_false h1, if_neg Bool.false_ne_true, if_neg h1, if_max r b]
    by_cases h2 : r < b
    · rw [decide_eq_true h2, if_pos rfl, if_pos h2]
    · rw [decide_eq_false h2, if_neg Bool.false_ne_true, if_neg h2]
theorem min_q {r g b : Nat} (hr : r < 13) (hg : g < 13) (hb : b < 13) : minF3 (q16 r) (q16 g) (q16 b) = q16 (mn3 r g b) := by
  unfold minF3
  rw [flt_q hg hr, flt_q hb hg, flt_q hb hr]
  unfold mn3
  rw [← Nat.min_assoc, if_min r g]
  by_cases h1 : g < r
  · rw [decide_eq_true h1, if_pos rfl, if_pos h1, if_min g b]
    by_cases h2 : b < g
    · rw [decide_eq_true h2, if_pos rfl, if_pos h2]
    · rw [decide_eq_false h2, if_neg Bool.false_ne_true, if_neg h2]
  · rw [decide_eq_false h1, if_neg Bool.false_ne_true, if_neg h1, if_min r b]
    by_cases h2 : b < r
    · rw [decide_eq_true h2, if_pos rfl, if_pos h2]
    · rw [decide_eq_false h2, if_neg Bool.false_ne_true, if_neg h2]

/-- the hue before it is folded, as the two functions reckon it -/
noncomputable def hue0 (mx rg r g b : UInt64) : UInt64 :=
  if feq r mx then Float64.sub (Float64.div (Float64.sub mx b) rg) (Float64.div (Float64.sub mx g) rg)
  else if feq g mx then Float64.sub (Float64.add f2 (Float64.div (Float64.sub mx r) rg)) (Float64.div (Float64.sub mx b) rg)
  else Float64.sub (Float64.add f4 (Float64.div (Float64.sub mx g) rg)) (Float64.div (Float64.sub mx r) rg)
noncomputable def keyI (r g b : Int) : Int :=
  let M := max r (max g b)
  let n := M - min r (min g b)
  if r = M then (g - b) * (27720 / n) % 166320 else if g = M then 55440 + (b - r) * (27720 / n) else 110880 + (r - g) * (27720 / n)
theorem max_or (a b : Nat) : max a b = a ∨ max a b = b := (Nat.le_total a b).elim (fun h => .inr (Nat.max_eq_right h)) (fun h => .inl (Nat.max_eq_left h))
theorem min_or (a b : Nat) : min a b = a ∨ min a b = b := (Nat.le_total a b).elim (fun h => .inl (Nat.min_eq_left h)) (fun h => .inr (Nat.min_eq_right h))
theorem max_cast (a b : Nat) : max (a : Int) (b : Int) = (max a b : Nat) := (Nat.le_total a b).elim (fun h => by rw [Nat.max_eq_right h, Int.max_eq_right (Int.ofNat_le.mpr h)]) (fun h => by rw [Nat.max_eq_left h, Int.max_eq_left (Int.ofNat_le.mpr h)])
theorem min_cast (a b : Nat) : min (a : Int) (b : Int) = (min a b : Nat) := (Nat.le_total a b).elim (fun h => by rw [Nat.min_eq_left h, Int.min_eq_left (Int.ofNat_le.mpr h)]) (fun h => by rw [Nat.min_eq_right h, Int.min_eq_right (Int.ofNat_le.mpr h)])
theorem cast_sub1 {M m b : Nat} (h : m ≤ M) (hb : b ≤ M) : ((M - b : Nat) : Int) - ((M - m : Nat) : Int) = (m : Int) - b := by
  rw [Int.ofNat_sub h, Int.ofNat_sub hb]; omega
theorem cast_sub2 {M m b : Nat} (h : m ≤ M) (hb : b ≤ M) : ((M - m : Nat) : Int) - ((M - b : Nat) : Int) = (b : Int) - m := cast_sub1 hb h
theorem key_ok {r g b : Nat} (hr : r < 13) (hg : g < 13) (hb : b < 13) (hne : mn3 r g b ≠ mx3 r g b) :
    keyOf (tail6 (hue0 (q16 (mx3 r g b)) (q16 ((mx3 r g b - mn3 r g b : Nat))) (q16 r) (q16 g) (q16 b))) = some (keyI r g b) := by
  have hM : mx3 r g b < 13 := Nat.max_lt.mpr ⟨hr, Nat.max_lt.mpr ⟨hg, hb⟩⟩
  have rM : r ≤ mx3 r g b := Nat.le_max_left _ _
  have gM : g ≤ mx3 r g b := Nat.le_trans (Nat.le_max_left g b) (Nat.le_max_right r _)
  have bM : b ≤ mx3 r g b := Nat.le_trans (Nat.le_max_right g b) (Nat.le_max_right r _)
  have rm : mn3 r g b ≤ r := Nat.min_le_left _ _
  have gm : mn3 r g b ≤ g := Nat.le_trans (Nat.min_le_right _ _) (Nat.min_le_left _ _)
  have bm : mn3 r g b ≤ b := Nat.le_trans (Nat.min_le_right _ _) (Nat.min_le_right _ _)
  have hmM : mn3 r g b ≤ mx3 r g b := Nat.le_trans rm rM
  have hn : mx3 r g b - mn3 r g b < 13 := Nat.lt_of_le_of_lt (Nat.sub_le _ _) hM
  have hn0 : mx3 r g b - mn3 r g b ≠ 0 := Nat.sub_ne_zero_of_lt (Nat.lt_of_le_of_ne hmM hne)
  have hor : mx3 r g b = r ∨ mx3 r g b = g ∨ mx3 r g b = b := (max_or r (max g b)).elim .inl fun e => .inr ((max_or g b).elim (fun h => .inl (e.trans h)) fun h => .inr (e.trans h))
  have hor2 : mn3 r g b = r ∨ mn3 r g b = g ∨ mn3 r g b = b := (min_or r (min g b)).elim .inl fun e => .inr ((min_or g b).elim (fun h => .inl (e.trans h)) fun h => .inr (e.trans h))
  have eM : max (r : Int) (max (g : Int) (b : Int)) = (mx3 r g b : Nat) := by rw [max_cast, max_cast]; rfl
  have em : min (r : Int) (min (g : Int) (b : Int)) = (mn3 r g b : Nat) := by rw [min_cast, min_cast]; rfl
  unfold keyI hue0
  rw [eM, em, feq_q hr hM, feq_q hg hM, sub_q hM bM, sub_q hM gM, sub_q hM rM]
  dsimp only
  rw [show ((mx3 r g b : Nat) : Int) - (mn3 r g b : Nat) = ((mx3 r g b - mn3 r g b : Nat) : Int) from (Int.ofNat_sub hmM).symm]
  clear eM em
  generalize mx3 r g b = M at *
  generalize mn3 r g b = m at *
  have one := one_q hn hn0
  unfold dv at one
  have R := fun d (hd : d ≤ M - m) => road_q (d := d) hn hn0 hd
  unfold dv at R
  by_cases h1 : r = M
  · have i1 : (r : Int) = (M : Nat) := congrArg _ h1
    rw [decide_eq_true h1, if_pos (rfl : true = true), if_pos i1]
    rcases hor2 with e | e | e
    · exact absurd (e.trans h1) hne
    · rw [← e, one, (R (M - b) (Nat.sub_le_sub_left bm M)).1, cast_sub1 hmM bM]
    · rw [← e, one, (R (M - g) (Nat.sub_le_sub_left gm M)).2.1, cast_sub2 hmM gM]
  · have i1 : ¬ (r : Int) = (M : Nat) := fun h => h1 (Int.ofNat_inj.mp h)
    rw [decide_eq_false h1, if_neg Bool.false_ne_true, if_neg i1]
    by_cases h2 : g = M
    · have i2 : (g : Int) = (M : Nat) := congrArg _ h2
      rw [decide_eq_true h2, if_pos (rfl : true = true), if_pos i2]
      rcases hor2 with e | e | e
      · rw [← e, one, (R (M - b) (Nat.sub_le_sub_left bm M)).2.2.2.1, cast_sub2 hmM bM]
      · exact absurd (e.trans h2) hne
      · rw [← e, one, (R (M - r) (Nat.sub_le_sub_left rm M)).2.2.1, cast_sub1 hmM rM]
    · have i2 : ¬ (g : Int) = (M : Nat) := fun h => h2 (Int.ofNat_inj.mp h)
      rw [decide_eq_false h2, if_neg Bool.false_ne_true, if_neg i2]
      rcases hor2 with e | e | e
      · rw [← e, one, (R (M - g) (Nat.sub_le_sub_left gm M)).2.2.2.2.1, cast_sub1 hmM gM]
      · rw [← e, one, (R (M - r) (Nat.sub_le_sub_left rm M)).2.2.2.2.2, cast_sub2 hmM rM]
      · rcases hor with h | h | h
        · exact absurd h.symm h1
        · exact absurd h.symm h2
        · exact absurd (e.trans h.symm) hne
end Mine
end

section
open PySem PySem.W PySem.Calls PyProof.Rows
set_option maxRecDepth 100000
set_option pp.maxSteps 3000
namespace Mine

noncomputable def greyN (r g b : Nat) : Prop := mn3 r g b = mx3 r g b
theorem Ev.cast {k : Nat} {sc : Scope} {ρ : Loc} {e : Expr} {p p' : PV} (h : Ev k sc ρ e p) (he : p = p') : Ev k sc ρ e p' := he ▸ h

theorem hsv_ok {k : Nat} {r g b : Nat} (hr : r < 13) (hg : g < 13) (hb : b < 13) : CallOk (k + 2) (.ref 28) [.flt (q16 r), .flt (q16 g), .flt (q16 b)]
    (if mn3 r g b = mx3 r g b then .tup [.flt f0, .flt f0, .flt (q16 (mx3 r g b))] else .tup [.flt (tail6 (hue0 (q16 (mx3 r g b)) (q16 ((mx3 r g b - mn3 r g b : Nat))) (q16 r) (q16 g) (q16 b))), .flt (Float64.div (q16 ((mx3 r g b - mn3 r g b : Nat))) (q16 (mx3 r g b))), .flt (q16 (mx3 r g b))]) := by
  have hM : mx3 r g b < 13 := by unfold mx3; omega
  have hmM : mn3 r g b ≤ mx3 r g b := by unfold mx3 mn3; omega
  have hm : mn3 r g b < 13 := by omega
  apply CallOk.mk ["r", "g", "b"] [.flt (q16 r), .flt (q16 g), .flt (q16 b)] []
  · intro w
    refine ⟨_, ⟨⟨_, rfl, rfl⟩, ?_, rfl, rfl, rfl, rfl, rfl⟩, ?_⟩
    · rfl
    · intro s g vs X r
      obtain ⟨x, y, z, rfl, rx, ry, rz⟩ := r.three
      exact ⟨[x, y, z], BindsTo.of_eq (by with_unfolding_all rfl), .cons rx (.cons ry (.one rz))⟩
  · exact ⟨rfl, rfl, rfl, by decide, by decide, by decide⟩
  · rfl
  · refine .cons (.assign (pv := .flt (q16 (mx3 r g b))) (Ev.s (.cast (.callB (gMax rfl) (.three (.name rfl) (.name rfl) (.name rfl)) max3_ok) (by rw [max_q hr hg hb]))) (.inl rfl)) ?_
    refine .cons (.assign (pv := .flt (q16 (mn3 r g b))) (Ev.s (.cast (.callB (gMin rfl) (.three (.name rfl) (.name rfl) (.name rfl)) min3_ok) (by rw [min_q hr hg hb]))) (.inl rfl)) ?_
    refine .cons (.assign (pv := .flt (q16 ((mx3 r g b - mn3 r g b : Nat)))) (Ev.s (.cast (.bin (.name rfl) (.name rfl) .subF) (by rw [sub_q hM hmM]))) (.inl rfl)) ?_
    refine .cons (.assign (Ev.s (.name rfl)) (.inl rfl)) ?_
    by_cases he : mn3 r g b = mx3 r g b
    · rw [if_pos he]
      exact .fin (.ifT (Tst.s' (.cmp (.name rfl) (.name rfl) .eqF) ((feq_q hm hM).trans (decide_eq_true he))) (.fin (.ret (Ev.s (.tup (.three .flt .flt (.name rfl)) (by simp))))))
    · rw [if_neg he]
      have hz : Float64.isZero (q16 ((mx3 r g b - mn3 r g b : Nat))) = false := by
        rw [nz_q (by omega)]
        have : mx3 r g b - mn3 r g b ≠ 0 := by omega
        simpa using this
      have hzM : Float64.isZero (q16 (mx3 r g b)) = false := by
        rw [nz_q (by omega)]
        have : mx3 r g b ≠ 0 := by omega
        simpa using this
      refine .cons (.ifF (Tst.s' (.cmp (.name rfl) (.name rfl) .eqF) ((feq_q hm hM).trans (decide_eq_false he))) .nil) ?_
      refine .cons (.assign (Ev.s (.bin (.name rfl) (.name rfl) (.divF hzM))) (.inl rfl)) ?_
      refine .cons (.assign (Ev.s (.bin (.bin (.name rfl) (.name rfl) .subF) (.name rfl) (.divF hz))) (.inl rfl)) ?_
      refine .cons (.assign (Ev.s (.bin (.bin (.name rfl) (.name rfl) .subF) (.name rfl) (.divF hz))) (.inl rfl)) ?_
      refine .cons (.assign (Ev.s (.bin (.bin (.name rfl) (.name rfl) .subF) (.name rfl) (.divF hz))) (.inl rfl)) ?_
      generalize hH : hue0 (q16 (mx3 r g b)) (q16 ((mx3 r g b - mn3 r g b : Nat))) (q16 r) (q16 g) (q16 b) = H
      refine .cons (σ₁ := St.setV _ "h" (.flt H)) (.ifs (Tst.s (.cmp (.name rfl) (.name rfl) .eqF)) (fun hc => .cons (.assign (Ev.s (.cast (.bin (.name rfl) (.name rfl) .subF) ?_)) (.inl rfl)) .nil) (fun hc => .cons (.ifs (Tst.s (.cmp (.name rfl) (.name rfl) .eqF)) (fun hc2 => .cons (.assign (Ev.s (.cast (.bin (.bin .flt (.name rfl) .addF) (.name rfl) .subF) ?_)) (.inl rfl)) .nil) (fun hc2 => .cons (.assign (Ev.s (.cast (.bin (.bin .flt (.name rfl) .addF) (.name rfl) .subF) ?_)) (.inl rfl)) .nil)) .nil)) ?_
      · have hc : feq (q16 r) (q16 (mx3 r g b)) = true := hc
        rw [← hH]; unfold hue0; rw [if_pos hc]
      · have hc : feq (q16 r) (q16 (mx3 r g b)) = false := hc
        have hc2 : feq (q16 g) (q16 (mx3 r g b)) = true := hc2
        rw [← hH]; unfold hue0; rw [hc, if_neg Bool.false_ne_true, if_pos hc2]; rfl
      · have hc : feq (q16 r) (q16 (mx3 r g b)) = false := hc
        have hc2 : feq (q16 g) (q16 (mx3 r g b)) = false := hc2
        rw [← hH]; unfold hue0; rw [hc, if_neg Bool.false_ne_true, hc2, if_neg Bool.false_ne_true]; rfl
      · refine .cons (.assign (pv := .flt (tail6 H)) (Ev.s (.bin (.bin (.name rfl) .flt (.divF (by decide +kernel))) .flt (.modF (by decide +kernel)))) (.inl rfl)) ?_
        exact .fin (.ret (Ev.s (.tup (.three (.name rfl) (.name rfl) (.name rfl)) (by simp))))
end Mine
end

section
open PySem PySem.W PySem.Calls PyProof.Rows
set_option maxRecDepth 100000
set_option pp.maxSteps 3000
namespace Mine

theorem hls_ok {k : Nat} {r g b : Nat} (hr : r < 13) (hg : g < 13) (hb : b < 13) : CallOk (k + 2) (.ref 21) [.flt (q16 r), .flt (q16 g), .flt (q16 b)]
    (if mn3 r g b = mx3 r g b then .tup [.flt f0, .flt (Float64.div (Float64.add (q16 (mx3 r g b)) (q16 (mn3 r g b))) f2), .flt f0]
      else .tup [.flt (tail6 (hue0 (q16 (mx3 r g b)) (q16 ((mx3 r g b - mn3 r g b : Nat))) (q16 r) (q16 g) (q16 b))), .flt (Float64.div (Float64.add (q16 (mx3 r g b)) (q16 (mn3 r g b))) f2),
        .flt (share2 (q16 (mx3 r g b)) (q16 (mn3 r g b)) (q16 ((mx3 r g b - mn3 r g b : Nat))) (Float64.add (q16 (mx3 r g b)) (q16 (mn3 r g b))))]) := by
  have hM : mx3 r g b < 13 := by unfold mx3; omega
  have hmM : mn3 r g b ≤ mx3 r g b := by unfold mx3 mn3; omega
  have hm : mn3 r g b < 13 := by omega
  apply CallOk.mk ["r", "g", "b"] [.flt (q16 r), .flt (q16 g), .flt (q16 b)] []
  · intro w
    refine ⟨_, ⟨⟨_, rfl, rfl⟩, ?_, rfl, rfl, rfl, rfl, rfl⟩, ?_⟩
    · rfl
    · intro s g vs X r
      obtain ⟨x, y, z, rfl, rx, ry, rz⟩ := r.three
      exact ⟨[x, y, z], BindsTo.of_eq (by with_unfolding_all rfl), .cons rx (.cons ry (.one rz))⟩
  · exact ⟨rfl, rfl, rfl, by decide, by decide, by decide⟩
  · rfl
  · refine .cons (.assign (pv := .flt (q16 (mx3 r g b))) (Ev.s (.cast (.callB (gMax rfl) (.three (.name rfl) (.name rfl) (.name rfl)) max3_ok) (by rw [max_q hr hg hb]))) (.inl rfl)) ?_
    refine .cons (.assign (pv := .flt (q16 (mn3 r g b))) (Ev.s (.cast (.callB (gMin rfl) (.three (.name rfl) (.name rfl) (.name rfl)) min3_ok) (by rw [min_q hr hg hb]))) (.inl rfl)) ?_
    refine .cons (.assign (Ev.s (.bin (.name rfl) (.name rfl) .addF)) (.inl rfl)) ?_
    refine .cons (.assign (pv := .flt (q16 ((mx3 r g b - mn3 r g b : Nat)))) (Ev.s (.cast (.bin (.name rfl) (.name rfl) .subF) (by rw [sub_q hM hmM]))) (.inl rfl)) ?_
    refine .cons (.assign (pv := .flt (Float64.div (Float64.add (q16 (mx3 r g b)) (q16 (mn3 r g b))) f2)) (Ev.s (.bin (.name rfl) .flt (.divF (by decide +kernel)))) (.inl rfl)) ?_
    by_cases he : mn3 r g b = mx3 r g b
    · rw [if_pos he]
      exact .fin (.ifT (Tst.s' (.cmp (.name rfl) (.name rfl) .eqF) ((feq_q hm hM).trans (decide_eq_true he))) (.fin (.ret (Ev.s (.tup (.three .flt (.name rfl) .flt) (by simp))))))
    · rw [if_neg he]
      have hz : Float64.isZero (q16 ((mx3 r g b - mn3 r g b : Nat))) = false := by
        rw [nz_q (by omega)]
        have : mx3 r g b - mn3 r g b ≠ 0 := by omega
        simpa using this
      obtain ⟨_, hs1, hs2⟩ := share2_q hM (show mn3 r g b < mx3 r g b by omega)
      refine .cons (.ifF (Tst.s' (.cmp (.name rfl) (.name rfl) .eqF) ((feq_q hm hM).trans (decide_eq_false he))) .nil) ?_
      generalize hS : share2 (q16 (mx3 r g b)) (q16 (mn3 r g b)) (q16 ((mx3 r g b - mn3 r g b : Nat))) (Float64.add (q16 (mx3 r g b)) (q16 (mn3 r g b))) = S
      refine .cons (σ₁ := St.setV _ "s" (.flt S)) (.ifs (Tst.s (.cmp (.name rfl) .flt .leF)) (fun hc => .cons (.assign (Ev.s (.cast (.bin (.name rfl) (.name rfl) (.divF hs1)) ?_)) (.inl rfl)) .nil) (fun hc => .cons (.assign (Ev.s (.cast (.bin (.name rfl) (.bin (.bin .flt (.name rfl) .subF) (.name rfl) .subF) (.divF hs2)) ?_)) (.inl rfl)) .nil)) ?_
      · have hc : (Float64.cmp (Float64.div (Float64.add (q16 (mx3 r g b)) (q16 (mn3 r g b))) f2) fh == some Ordering.lt || Float64.cmp (Float64.div (Float64.add (q16 (mx3 r g b)) (q16 (mn3 r g b))) f2) fh == some Ordering.eq) = true := hc
        rw [← hS]; unfold share2; rw [if_pos hc]
      · have hc : (Float64.cmp (Float64.div (Float64.add (q16 (mx3 r g b)) (q16 (mn3 r g b))) f2) fh == some Ordering.lt || Float64.cmp (Float64.div (Float64.add (q16 (mx3 r g b)) (q16 (mn3 r g b))) f2) fh == some Ordering.eq) = false := hc
        rw [← hS]; unfold share2; rw [hc, if_neg Bool.false_ne_true]; rfl
      generalize hL : Float64.div (Float64.add (q16 (mx3 r g b)) (q16 (mn3 r g b))) f2 = L
      refine .pr (σ₁ := ⟨[("r", .flt (q16 r)), ("g", .flt (q16 g)), ("b", .flt (q16 b)), ("maxc", .flt (q16 (mx3 r g b))), ("rangec", .flt (q16 ((mx3 r g b - mn3 r g b : Nat)))), ("l", .flt L), ("s", .flt S)], []⟩) ?_ ⟨rfl, rfl, rfl, rfl, rfl, rfl, rfl, trivial⟩ trivial
      refine .cons (.assign (Ev.s (.bin (.bin (.name rfl) (.name rfl) .subF) (.name rfl) (.divF hz))) (.inl rfl)) ?_
      refine .cons (.assign (Ev.s (.bin (.bin (.name rfl) (.name rfl) .subF) (.name rfl) (.divF hz))) (.inl rfl)) ?_
      refine .cons (.assign (Ev.s (.bin (.bin (.name rfl) (.name rfl) .subF) (.name rfl) (.divF hz))) (.inl rfl)) ?_
      generalize hH : hue0 (q16 (mx3 r g b)) (q16 ((mx3 r g b - mn3 r g b : Nat))) (q16 r) (q16 g) (q16 b) = H
      refine .cons (σ₁ := St.setV _ "h" (.flt H)) (.ifs (Tst.s (.cmp (.name rfl) (.name rfl) .eqF)) (fun hc => .cons (.assign (Ev.s (.cast (.bin (.name rfl) (.name rfl) .subF) ?_)) (.inl rfl)) .nil) (fun hc => .cons (.ifs (Tst.s (.cmp (.name rfl) (.name rfl) .eqF)) (fun hc2 => .cons (.assign (Ev.s (.cast (.bin (.bin .flt (.name rfl) .addF) (.name rfl) .subF) ?_)) (.inl rfl)) .nil) (fun hc2 => .cons (.assign (Ev.s (.cast (.bin (.bin .flt (.name rfl) .addF) (.name rfl) .subF) ?_)) (.inl rfl)) .nil)) .nil)) ?_
      · have hc : feq (q16 r) (q16 (mx3 r g b)) = true := hc
        rw [← hH]; unfold hue0; rw [if_pos hc]
      · have hc : feq (q16 r) (q16 (mx3 r g b)) = false := hc
        have hc2 : feq (q16 g) (q16 (mx3 r g b)) = true := hc2
        rw [← hH]; unfold hue0; rw [hc, if_neg Bool.false_ne_true, if_pos hc2]; rfl
      · have hc : feq (q16 r) (q16 (mx3 r g b)) = false := hc
        have hc2 : feq (q16 g) (q16 (mx3 r g b)) = false := hc2
        rw [← hH]; unfold hue0; rw [hc, if_neg Bool.false_ne_true, hc2, if_neg Bool.false_ne_true]; rfl
      · refine .pr (σ₁ := ⟨[("l", .flt L), ("s", .flt S), ("h", .flt H)], []⟩) ?_ ⟨rfl, rfl, rfl, trivial⟩ trivial
        refine .cons (.assign (pv := .flt (tail6 H)) (Ev.s (.bin (.bin (.name rfl) .flt (.divF (by decide +kernel))) .flt (.modF (by decide +kernel)))) (.inl rfl)) ?_
        exact .fin (.ret (Ev.s (.tup (.three (.name rfl) (.name rfl) (.name rfl)) (by simp))))

/-! ### a rim's row -/
noncomputable def OkL (l : L3) : Prop := (0 ≤ l.1 ∧ l.1 ≤ 12) ∧ (0 ≤ l.2.1 ∧ l.2.1 ≤ 12) ∧ (0 ≤ l.2.2 ∧ l.2.2 ≤ 12)
noncomputable def grey (l : L3) : Bool := l.1 == l.2.1 && l.2.1 == l.2.2
noncomputable def vec (l : L3) : C2 := (2 * l.1 - l.2.1 - l.2.2, l.2.1 - l.2.2)
noncomputable def sideOf (l : L3) : S3 := (keyI l.1 l.2.1 l.2.2, (vec l).1, (vec l).2)
noncomputable def rowStep (r : List S3) (l : L3) : List S3 := if grey l then r else ins r (sideOf l)
noncomputable def rowOf (ls : List L3) : List S3 := ls.foldl rowStep []
theorem rowStep_ord {r : List S3} (h : Ord r) (l : L3) : Ord (rowStep r l) := by
  unfold rowStep; split
  · exact h
  · exact ins_ord h _
theorem rowFold_ord : ∀ (ls : List L3) (r : List S3), Ord r → Ord (ls.foldl rowStep r)
  | [], r, h => h
  | l :: ls, r, h => rowFold_ord ls _ (rowStep_ord h l)
theorem rowStep_len (r : List S3) (l : L3) : (rowStep r l).length ≤ r.length + 1 := by
  unfold rowStep; split
  · omega
  · rw [ins_length]; omega
theorem rowFold_len : ∀ (ls : List L3) (r : List S3), (ls.foldl rowStep r).length ≤ r.length + ls.length
  | [], r => by simp
  | l :: ls, r => by
    have := rowFold_len ls (rowStep r l)
    have := rowStep_len r l
    rw [List.foldl_cons, List.length_cons]; omega
theorem keyOf_some {x : UInt64} {i : Int} (h : keyOf x = some i) : ∃ sg m e, Float64.decode (Float64.add (Float64.mul x fT) fh) = .fin sg m e ∧ Float64.truncOf sg m e = i := by
  unfold keyOf at h
  split at h
  · rename_i sg m e he
    exact ⟨sg, m, e, he, Option.some.inj h⟩
  · cases h
theorem divI_q {k : Nat} {n : Nat} (hn : n < 13) : OpOk k .Div (.int (n : Int)) (.flt f16) (.flt (q16 n)) := by
  refine .divIF ?_ (by decide +kernel)
  have h : ((List.range 13).all fun n => Float64.isInf (Float64.ofInt (n : Nat)) == false) = true := by decide +kernel
  exact beq_iff_eq.mp (rng h hn)

section
variable {k : Nat} {sc : Scope} {ρ : Loc} {pos : Pos}
theorem gHsv (h : sc.names.lookup ("rgb_to_hsv" : Str) = some .globalImplicit) : Ev k sc ρ (.Name ("rgb_to_hsv" : Str) pos) (.fn 28) := Ev.globv h (fun w => rfl) (v := .ref 28) (fun g => by simp only [Rep])
theorem gHls (h : sc.names.lookup ("rgb_to_hls" : Str) = some .globalImplicit) : Ev k sc ρ (.Name ("rgb_to_hls" : Str) pos) (.fn 21) := Ev.globv h (fun w => rfl) (v := .ref 21) (fun g => by simp only [Rep])
end

theorem row_ok {k : Nat} {ls : List L3} {sys : Int} (hl : ls.length ≤ 800) (hok : ∀ l ∈ ls, OkL l) : CallOk (k + 4) (.ref 95) [.lst (ls.map lightP), .int sys] (rowP (rowOf ls)) := by
  apply CallOk.mk ["lights", "system"] [.lst (ls.map lightP), .int sys] []
  · intro w
    refine ⟨_, ⟨⟨_, rfl, rfl⟩, ?_, rfl, rfl, rfl, rfl, rfl⟩, ?_⟩
    · rfl
    · intro s g vs X r
      obtain ⟨x, y, rfl, rx, ry⟩ := r.two
      exact ⟨[x, y], BindsTo.of_eq (by with_unfolding_all rfl), .cons rx (.one ry)⟩
  · exact ⟨rfl, rfl, rfl, by decide, by decide, by decide⟩
  · rfl
  · refine .cons (.assignO (xs := []) .nil (by decide) rfl) ?_
    refine .cons (.fors (tt := false) (items := ls.map lightP) (.list (.name rfl)) (Turns.seq ls lightP (fun done => ⟨[("lights", .lst (ls.map lightP)), ("system", .int sys)], [("row", (done.foldl rowStep []).map s3)]⟩) ?_)) (.freeze (x := "row") rfl (.fin (.ret (Ev.s (.name rfl)))))
    intro done l rest e
    have hll : done.length ≤ 800 := by have := congrArg List.length e; simp at this; omega
    have hrl := rowFold_len done []
    have hro := rowFold_ord done [] List.Pairwise.nil
    have hlok := hok l (by rw [e]; simp)
    have hstep : (done ++ [l]).foldl rowStep [] = rowStep (done.foldl rowStep []) l := by rw [List.foldl_append]; rfl
    rw [hstep]
    have hrl : (done.foldl rowStep []).length ≤ 800 := by simp at hrl; omega
    generalize done.foldl rowStep [] = rw at hrl hro ⊢
    obtain ⟨r, g, b⟩ := l
    obtain ⟨⟨r0, r1⟩, ⟨g0, g1⟩, ⟨b0, b1⟩⟩ := hlok
    dsimp only at r0 r1 g0 g1 b0 b1
    obtain ⟨r, rfl⟩ := Int.eq_ofNat_of_zero_le r0
    obtain ⟨g, rfl⟩ := Int.eq_ofNat_of_zero_le g0
    obtain ⟨b, rfl⟩ := Int.eq_ofNat_of_zero_le b0
    have hr : r < 13 := by omega
    have hg : g < 13 := by omega
    have hb : b < 13 := by omega
    clear r0 r1 g0 g1 b0 b1
    have hM : mx3 r g b < 13 := by unfold mx3; omega
    have hmM : mn3 r g b ≤ mx3 r g b := by unfold mx3 mn3; omega
    refine ⟨_, .name (.inl rfl), ?_⟩
    refine .cons (.assignT (pv := lightP ((r : Int), (g : Int), (b : Int))) (Ev.s (.name rfl)) (.inr rfl) (.cons (.inl rfl) (.cons (.inl rfl) (.cons (.inl rfl) .nil)))) ?_
    by_cases he : mn3 r g b = mx3 r g b
    · have hgr : grey ((r : Int), (g : Int), (b : Int)) = true := by
        unfold grey mn3 mx3 at *
        simp; omega
      unfold rowStep
      rw [if_pos hgr]
      refine .cons (σ₁ := ⟨[("lights", .lst (ls.map lightP)), ("system", .int sys), ("share", .flt f0)], [("row", rw.map s3)]⟩) ?_ ?_
      · refine .ifs (Tst.s (.cmp (.name rfl) .int .eqI)) (fun _ => .wk (.cons (.assignT (xs := [.flt f0, .flt f0, .flt (q16 (mx3 r g b))]) (Ev.s (.cast (.callF (gHsv rfl) (.three (.bin (.name rfl) .flt (divI_q hr)) (.bin (.name rfl) .flt (divI_q hg)) (.bin (.name rfl) .flt (divI_q hb))) (hsv_ok hr hg hb) (fun w => rfl)) (if_pos he))) (.inl rfl) (.cons (.inl rfl) (.cons (.inl rfl) (.cons (.inl rfl) .nil)))) .nil) ⟨rfl, rfl, rfl, trivial⟩ ⟨rfl, trivial⟩)
          (fun _ => .wk (.cons (.assignT (xs := [.flt f0, .flt (Float64.div (Float64.add (q16 (mx3 r g b)) (q16 (mn3 r g b))) f2), .flt f0]) (Ev.s (.cast (.callF (gHls rfl) (.three (.bin (.name rfl) .flt (divI_q hr)) (.bin (.name rfl) .flt (divI_q hg)) (.bin (.name rfl) .flt (divI_q hb))) (hls_ok hr hg hb) (fun w => rfl)) (if_pos he))) (.inl rfl) (.cons (.inl rfl) (.cons (.inl rfl) (.cons (.inl rfl) .nil)))) .nil) ⟨rfl, rfl, rfl, trivial⟩ ⟨rfl, trivial⟩)
      · exact .wk (.cons (.ifF (Tst.s' (.cmp (.name rfl) .flt .neF) (by decide +kernel)) .nil) .nil) ⟨rfl, rfl, trivial⟩ ⟨rfl, trivial⟩
    · have hgr : ¬ grey ((r : Int), (g : Int), (b : Int)) = true := by
        unfold grey mn3 mx3 at *
        simp; omega
      unfold rowStep
      rw [if_neg hgr]
      have hk := key_ok hr hg hb he
      obtain ⟨sg, m, ee, hdec, htr⟩ := keyOf_some hk
      have hs1 := share1_q hM (show mn3 r g b < mx3 r g b by omega)
      have hs2 := (share2_q hM (show mn3 r g b < mx3 r g b by omega)).1
      generalize hH : tail6 (hue0 (q16 (mx3 r g b)) (q16 ((mx3 r g b - mn3 r g b : Nat))) (q16 r) (q16 g) (q16 b)) = H at hk hdec
      have rest : ∀ sh : UInt64, (Float64.cmp sh f0 != some Ordering.eq) = true → ∀ bd σ₀, Exs (k + 3) bd [] ⟨[("lights", .lst (ls.map lightP)), ("system", .int sys), ("red", .int r), ("green", .int g), ("blue", .int b), ("hue", .flt H), ("share", .flt sh)], [("row", rw.map s3)]⟩ σ₀ .next ⟨[("lights", .lst (ls.map lightP)), ("system", .int sys)], [("row", (ins rw (sideOf ((r : Int), (g : Int), (b : Int)))).map s3)]⟩ → True := fun _ _ _ _ _ => trivial
      clear rest
      by_cases hsys : sys = 0
      · refine .cons (σ₁ := ⟨[("lights", .lst (ls.map lightP)), ("system", .int sys), ("red", .int r), ("green", .int g), ("blue", .int b), ("hue", .flt H), ("share", .flt (Float64.div (q16 ((mx3 r g b - mn3 r g b : Nat))) (q16 (mx3 r g b))))], [("row", rw.map s3)]⟩) ?_ ?_
        · refine .ifT (Tst.s' (.cmp (.name rfl) .int .eqI) (by simpa using hsys)) (.wk (.cons (.assignT (xs := [.flt H, .flt (Float64.div (q16 ((mx3 r g b - mn3 r g b : Nat))) (q16 (mx3 r g b))), .flt (q16 (mx3 r g b))]) (Ev.s (.cast (.callF (gHsv rfl) (.three (.bin (.name rfl) .flt (divI_q hr)) (.bin (.name rfl) .flt (divI_q hg)) (.bin (.name rfl) .flt (divI_q hb))) (hsv_ok hr hg hb) (fun w => rfl)) ((if_neg he).trans (by rw [hH])))) (.inl rfl) (.cons (.inl rfl) (.cons (.inl rfl) (.cons (.inl rfl) .nil)))) .nil) ⟨rfl, rfl, rfl, rfl, rfl, rfl, rfl, trivial⟩ ⟨rfl, trivial⟩)
        · refine .wk (.cons (.ifT (Tst.s' (.cmp (.name rfl) .flt .neF) hs1) (.cons (.assign (pv := s3 (sideOf ((r : Int), (g : Int), (b : Int)))) (Ev.s (.cast (.tup (.three (.callT (gInt rfl) (.one (.bin (.bin (.name rfl) .flt .mulF) .flt .addF)) (intOfFlt_ok hdec)) (.sub rfl (.sub rfl (.mul rfl .int (.name rfl) (.inl (by decide))) (.name rfl)) (.name rfl)) (.sub rfl (.name rfl) (.name rfl))) (by simp)) (by rw [htr]; rfl))) (.inl rfl))
            (.cons (.mutKw (x := "row") rfl (gInsort rfl) (.name rfl) (gHue rfl) (insort_ok hro (by omega)) (fun w => rfl)) .nil))) .nil) ⟨rfl, rfl, trivial⟩ ⟨rfl, trivial⟩
      · refine .cons (σ₁ := ⟨[("lights", .lst (ls.map lightP)), ("system", .int sys), ("red", .int r), ("green", .int g), ("blue", .int b), ("hue", .flt H), ("share", .flt (share2 (q16 (mx3 r g b)) (q16 (mn3 r g b)) (q16 ((mx3 r g b - mn3 r g b : Nat))) (Float64.add (q16 (mx3 r g b)) (q16 (mn3 r g b)))))], [("row", rw.map s3)]⟩) ?_ ?_
        · refine .ifF (Tst.s' (.cmp (.name rfl) .int .eqI) (by simpa using hsys)) (.wk (.cons (.assignT (xs := [.flt H, .flt (Float64.div (Float64.add (q16 (mx3 r g b)) (q16 (mn3 r g b))) f2), .flt (share2 (q16 (mx3 r g b)) (q16 (mn3 r g b)) (q16 ((mx3 r g b - mn3 r g b : Nat))) (Float64.add (q16 (mx3 r g b)) (q16 (mn3 r g b))))]) (Ev.s (.cast (.callF (gHls rfl) (.three (.bin (.name rfl) .flt (divI_q hr)) (.bin (.name rfl) .flt (divI_q hg)) (.bin (.name rfl) .flt (divI_q hb))) (hls_ok hr hg hb) (fun w => rfl)) ((if_neg he).trans (by rw [hH])))) (.inl rfl) (.cons (.inl rfl) (.cons (.inl rfl) (.cons (.inl rfl) .nil)))) .nil) ⟨rfl, rfl, rfl, rfl, rfl, rfl, rfl, trivial⟩ ⟨rfl, trivial⟩)
        · refine .wk (.cons (.ifT (Tst.s' (.cmp (.name rfl) .flt .neF) hs2) (.cons (.assign (pv := s3 (sideOf ((r : Int), (g : Int), (b : Int)))) (Ev.s (.cast (.tup (.three (.callT (gInt rfl) (.one (.bin (.bin (.name rfl) .flt .mulF) .flt .addF)) (intOfFlt_ok hdec)) (.sub rfl (.sub rfl (.mul rfl .int (.name rfl) (.inl (by decide))) (.name rfl)) (.name rfl)) (.sub rfl (.name rfl) (.name rfl))) (by simp)) (by rw [htr]; rfl))) (.inl rfl))
            (.cons (.mutKw (x := "row") rfl (gInsort rfl) (.name rfl) (gHue rfl) (insort_ok hro (by omega)) (fun w => rfl)) .nil))) .nil) ⟨rfl, rfl, trivial⟩ ⟨rfl, trivial⟩
end Mine
end

section
open PySem PySem.W PySem.Calls PyProof.Rows
set_option maxRecDepth 100000
set_option pp.maxSteps 3000
namespace Mine

theorem sliceL_map {α β : Type} (f : α → β) (xs : List α) (l h s : Option Int) : sliceL (xs.map f) l h s = (sliceL xs l h s).map f := by
  unfold sliceL
  rw [List.length_map]
  generalize sliceRange _ _ _ = is
  induction is with
  | nil => rfl
  | cons i is ih =>
    rw [List.filterMap_cons, List.filterMap_cons, List.getElem?_map]
    cases xs[i]? with
    | none => exact ih
    | some x => show f x :: _ = f x :: _; rw [ih]
theorem ordersStep_mem {os : List (List C2)} {s : C2} {S : C2 → Prop} (h : ∀ o ∈ os, ∀ x ∈ o, S x) (hs : S s) : ∀ o ∈ ordersStep os s, ∀ x ∈ o, S x := by
  intro q hq x hx
  unfold ordersStep at hq
  obtain ⟨l, hl, hq⟩ := List.mem_flatten.mp hq
  obtain ⟨o, ho, rfl⟩ := List.mem_map.mp hl
  obtain ⟨i, hi, rfl⟩ := List.mem_map.mp hq
  rw [List.mem_append, List.mem_append] at hx
  rcases hx with (hx | hx) | hx
  · exact h o ho x (List.mem_of_mem_take hx)
  · rw [List.mem_singleton.mp hx]; exact hs
  · exact h o ho x (List.mem_of_mem_drop hx)
theorem ordersFold_mem {S : C2 → Prop} : ∀ (q : List C2) (os : List (List C2)), (∀ o ∈ os, ∀ x ∈ o, S x) → (∀ x ∈ q, S x) → ∀ o ∈ q.foldl ordersStep os, ∀ x ∈ o, S x
  | [], os, h, _ => h
  | s :: q, os, h, hq => ordersFold_mem q _ (ordersStep_mem h (hq s (.head _))) fun x hx => hq x (.tail _ hx)
theorem orders_mem {sides : List C2} {S : C2 → Prop} (h : ∀ x ∈ sides, S x) : ∀ o ∈ ordersOf sides, ∀ x ∈ o, S x :=
  ordersFold_mem _ _ (fun o ho x hx => by rw [List.mem_singleton.mp ho] at hx; exact h x (List.mem_of_mem_take hx)) fun x hx => h x (List.mem_of_mem_drop hx)
theorem bestFold_mem : ∀ (q : List (List C2)) (p : Int × List (List C2)) (cs : List C2), cs ∈ (q.foldl bestStep p).2 → cs ∈ p.2 ∨ ∃ o ∈ q, cs = corners2 (0, 0) o
  | [], p, cs, h => .inl h
  | o :: q, p, cs, h => by
    rcases bestFold_mem q _ cs h with h | ⟨o', ho', e⟩
    · unfold bestStep at h
      split at h
      · exact .inr ⟨o, .head _, List.mem_singleton.mp h⟩
      · split at h
        · rcases List.mem_append.mp h with h | h
          · exact .inl h
          · exact .inr ⟨o, .head _, List.mem_singleton.mp h⟩
        · exact .inl h
    · exact .inr ⟨o', .tail _ ho', e⟩
theorem best_mem {sides cs : List C2} (h : cs ∈ (bestOf sides).2) : ∃ o ∈ ordersOf sides, cs = corners2 (0, 0) o := by
  rcases bestFold_mem _ _ _ h with h | h
  · cases h
  · exact h

/-! ### what the law builds -/
noncomputable def cellsOf (ns : List Int) : List Int := (ns.take 12).map fun c => c.fmod ((10 : Int) ^ (6 : Int).toNat)
noncomputable def firsts : List Int := [4, 40, 51, 21, 105, 53]
noncomputable def drawsOf (ns : List Int) : List Int := (List.range 6).map fun i => firsts.getD i 0 + (sliceL (cellsOf ns) (some (i : Nat)) none (some 6)).sum
noncomputable def lightOf (d : Int) : L3 := (d.fmod 5, (d.fdiv 5).fmod 5, (d.fdiv 25).fmod 5)
noncomputable def lightsOf (ns : List Int) : List L3 := (drawsOf ns).map lightOf
noncomputable def rimA (ns : List Int) : List L3 := closed ((lightsOf ns).take 3)
noncomputable def rimB (ns : List Int) : List L3 := closed ((lightsOf ns).drop 3)

structure Plain (A B : List L3) : Prop where
  okA : ∀ l ∈ A, OkL l
  okB : ∀ l ∈ B, OkL l
  lenA : A.length = 4
  lenB : B.length = 4
  ne : (bestOf (A.map vec)).2 ≠ []
  r1 : roomOf (rowOf A) = (bestOf (A.map vec)).1
  r2 : roomOf (rowOf B) = (bestOf (B.map vec)).1
  r3 : roomOf (joinOf (rowOf A) (rowOf B)) = (bestOf (A.map vec)).1 + (bestOf (B.map vec)).1 + 2 * maxI ((bestOf (A.map vec)).2.map fun cs => mostSum cs (B.map vec))
  m1 : mixOf (rowOf A) (rowOf B) false = maxI ((bestOf (A.map vec)).2.map fun cs => mostSum cs (B.map vec))
  m2 : mixOf (rowOf B) (rowOf A) true = maxI ((bestOf (A.map vec)).2.map fun cs => mostSum cs (B.map vec))

theorem small_of {l : L3} (h : OkL l) : Sm (vec l) := by
  obtain ⟨⟨a, b⟩, ⟨c, d⟩, ⟨e, f⟩⟩ := h
  have h64 : (2 : Int) ^ 64 = 18446744073709551616 := by decide
  unfold Sm vec
  dsimp only
  rw [h64]
  refine ⟨⟨?_, ?_⟩, ?_, ?_⟩ <;> omega
theorem rowStep_mem {r : List S3} {l : L3} {s : S3} (h : s ∈ rowStep r l) : s ∈ r ∨ s = sideOf l := by
  unfold rowStep at h
  split at h
  · exact .inl h
  · have := (ins_perm r (sideOf l)).subset h
    rcases List.mem_cons.mp this with e | e
    · exact .inr e
    · exact .inl e
theorem rowFold_mem : ∀ (ls : List L3) (r : List S3) (s : S3), s ∈ ls.foldl rowStep r → s ∈ r ∨ ∃ l ∈ ls, s = sideOf l
  | [], r, s, h => .inl h
  | l :: ls, r, s, h => by
    rcases rowFold_mem ls _ s h with h | ⟨l', hl, e⟩
    · rcases rowStep_mem h with h | h
      · exact .inl h
      · exact .inr ⟨l, .head _, h⟩
    · exact .inr ⟨l', .tail _ hl, e⟩
theorem row_small {A : List L3} (h : ∀ l ∈ A, OkL l) : ∀ s ∈ rowOf A, Small s := by
  intro s hs
  rcases rowFold_mem _ _ _ hs with h' | ⟨l, hl, rfl⟩
  · cases h'
  · exact small_of (h l hl)
theorem row_len {A : List L3} (h : A.length = 4) : (rowOf A).length ≤ 4 := by
  have := rowFold_len A []
  rw [h] at this
  exact Nat.le_trans this (by simp)

noncomputable def lawFn : List Stmt × Scope := match PG.main.body.getLast? with
  | some (.FunctionDef _ _ body _ _ _ scope _ _ _) => (body, scope)
  | _ => ([], default)

section
variable {k : Nat} {sc : Scope} {ρ : Loc} {pos : Pos}
theorem gClosed (h : sc.names.lookup ("_law_closed" : Str) = some .globalImplicit) : Ev k sc ρ (.Name ("_law_closed" : Str) pos) (.fn 81) := Ev.globv h (fun w => rfl) (v := .ref 81) (fun g => by simp only [Rep])
theorem gRow (h : sc.names.lookup ("_law_row" : Str) = some .globalImplicit) : Ev k sc ρ (.Name ("_law_row" : Str) pos) (.fn 95) := Ev.globv h (fun w => rfl) (v := .ref 95) (fun g => by simp only [Rep])
theorem gBest (h : sc.names.lookup ("_law_best" : Str) = some .globalImplicit) : Ev k sc ρ (.Name ("_law_best" : Str) pos) (.fn 140) := Ev.globv h (fun w => rfl) (v := .ref 140) (fun g => by simp only [Rep])
theorem gMost (h : sc.names.lookup ("_law_most" : Str) = some .globalImplicit) : Ev k sc ρ (.Name ("_law_most" : Str) pos) (.fn 145) := Ev.globv h (fun w => rfl) (v := .ref 145) (fun g => by simp only [Rep])
theorem gRoom (h : sc.names.lookup ("_law_room" : Str) = some .globalImplicit) : Ev k sc ρ (.Name ("_law_room" : Str) pos) (.fn 123) := Ev.globv h (fun w => rfl) (v := .ref 123) (fun g => by simp only [Rep])
theorem gJoined (h : sc.names.lookup ("_law_joined" : Str) = some .globalImplicit) : Ev k sc ρ (.Name ("_law_joined" : Str) pos) (.fn 102) := Ev.globv h (fun w => rfl) (v := .ref 102) (fun g => by simp only [Rep])
theorem gMixed (h : sc.names.lookup ("_law_mixed" : Str) = some .globalImplicit) : Ev k sc ρ (.Name ("_law_mixed" : Str) pos) (.fn 128) := Ev.globv h (fun w => rfl) (v := .ref 128) (fun g => by simp only [Rep])
end

theorem law_exs {k : Nat} {ns : List Int} (hl : ns.length ≤ 63) (H : Plain (rimA ns) (rimB ns)) : Exs (k + 5) lawFn.2 ["cells", "sides"] ⟨[("script", intsP ns)], []⟩ lawFn.1 (.ret (.bool true)) ⟨[], []⟩ := by
  have hcl : (cellsOf ns).length ≤ 12 := by unfold cellsOf; rw [List.length_map, List.length_take]; omega
  refine .cons (.assignS (pv := intsP (cellsOf ns)) (Ev.s ?_) (.inr (.head _)) (by intro env h; cases env; cases h; rfl)) ?_
  · have e : intsP (cellsOf ns) = .lst ((ns.take 12).map fun c => PV.int (c.fmod ((10 : Int) ^ (6 : Int).toNat))) := by
      unfold intsP cellsOf; rw [ints_map (fun c : Int => c.fmod ((10 : Int) ^ (6 : Int).toNat))]
    rw [e]
    refine .comp1 (ns.take 12) .int (fun c => .int (c.fmod ((10 : Int) ^ (6 : Int).toNat))) (caps := []) (oc := []) (tt := false) (.mk' [] rfl rfl trivial (by decide) (by decide) (by decide)) (.list ?_)
      (fun c hc => ⟨_, .name (.inl rfl), trivial, .bin (.callT (gInt rfl) (.one (.name rfl)) intOfInt_ok) (.bin .int .int (.powI (by decide) (by decide) (by decide))) (.fmodI (by decide))⟩) (by rw [List.length_take]; omega)
    have e2 : (PV.lst ((ns.take 12).map .int)) = .lst (sliceL (ns.map .int) none (some 12) none) := by
      rw [show (12 : Int) = ((12 : Nat) : Int) from rfl, sliceL_upto, List.map_take]
    rw [e2]
    exact .slice (.name rfl) trivial Ev.int trivial (by decide) (by rw [List.length_map]; omega)
  refine .cons (.assignU (outs := (drawsOf ns).map .int) (caps := [("cells", intsP (cellsOf ns))]) (oc' := []) (.mk' ["cells"] rfl rfl ⟨rfl, rfl, rfl, rfl, trivial⟩ (by decide) (by decide) (by decide)) ?_ rfl (by intro env h; cases env; cases h; rfl)) ?_
  · have e : (drawsOf ns).map PV.int = (List.range 6).map fun i => PV.int (firsts.getD i 0 + (sliceL (cellsOf ns) (some (i : Nat)) none (some 6)).sum) := by
      unfold drawsOf; rw [ints_map (fun i : Nat => firsts.getD i 0 + (sliceL (cellsOf ns) (some (i : Int)) none (some 6)).sum)]
    rw [e]
    refine .one (List.range 6) (fun i => .tup [.int (i : Nat), (firsts.map .int).getD i .none]) (fun i => .int (firsts.getD i 0 + (sliceL (cellsOf ns) (some (i : Nat)) none (some 6)).sum)) (caps := [("cells", intsP (cellsOf ns))]) (oc := []) (tt := true) (.mk' ["cells"] rfl rfl ⟨rfl, rfl, rfl, rfl, trivial⟩ (by decide) (by decide) (by decide))
      (.enum (xs := firsts.map .int) (gEnum rfl) (.one (.lst (.cons .int (.cons .int (.cons .int (.cons .int (.cons .int (.cons .int .nil (by intro _; rfl)) (by intro _; rfl)) (by intro _; rfl)) (by intro _; rfl)) (by intro _; rfl)) (by intro _; rfl)) (by simp [firsts])))) ?_ (by decide)
    intro i hi
    have hi' := List.mem_range.mp hi
    have ef : (firsts.map PV.int).getD i .none = .int (firsts.getD i 0) := by
      have : i = 0 ∨ i = 1 ∨ i = 2 ∨ i = 3 ∨ i = 4 ∨ i = 5 := by omega
      rcases this with rfl | rfl | rfl | rfl | rfl | rfl <;> rfl
    rw [ef]
    refine ⟨_, .tup (.inl rfl) (.cons (.inl rfl) (.cons (.inl rfl) .nil)), ⟨rfl, trivial⟩, .bin (.name rfl) (.callB (gSum rfl) (.one (?_ : Ev _ _ _ _ (.lst ((sliceL (cellsOf ns) (some (i : Nat)) none (some 6)).map .int)))) sum_ok) .addI⟩
    rw [← sliceL_map]
    exact .slice (.name rfl) (Ev.name rfl) trivial Ev.int (by decide) (by rw [List.length_map]; omega)
  refine .cons (.assignU (outs := (lightsOf ns).map lightP) (caps := []) (oc' := []) (.mk' [] rfl rfl trivial (by decide) (by decide) (by decide)) ?_ rfl (by intro env h; cases env; cases h; rfl)) ?_
  · have e : (lightsOf ns).map lightP = (drawsOf ns).map fun d => lightP (lightOf d) := by unfold lightsOf; rw [List.map_map]; rfl
    rw [e]
    refine .one (drawsOf ns) .int (fun d => lightP (lightOf d)) (caps := []) (oc := []) (tt := false) (.mk' [] rfl rfl trivial (by decide) (by decide) (by decide)) (.list (.name rfl)) ?_ (by simp [drawsOf])
    intro d hd
    exact ⟨_, .name (.inl rfl), trivial, .lst (.three (.bin (.name rfl) .int (.fmodI (by decide))) (.bin (.bin (.name rfl) .int (.fdivI (by decide) (by decide))) .int (.fmodI (by decide))) (.bin (.bin (.name rfl) .int (.fdivI (by decide) (by decide))) .int (.fmodI (by decide)))) (by simp)⟩
  have hll : (lightsOf ns).length = 6 := by simp [lightsOf, drawsOf]
  refine .cons (.assign (pv := .lst [.lst ((rimA ns).map lightP), .lst ((rimB ns).map lightP)]) (Ev.s (.lst (.two (.callF (gClosed rfl) (.one (?_ : Ev _ _ _ _ (.lst (((lightsOf ns).take 3).map lightP)))) (closed_ok (by rw [List.length_take]; omega)) (fun w => rfl)) (.callF (gClosed rfl) (.one (?_ : Ev _ _ _ _ (.lst (((lightsOf ns).drop 3).map lightP)))) (closed_ok (by rw [List.length_drop]; omega)) (fun w => rfl))) (by simp))) (.inl rfl)) ?_
  · rw [List.map_take, ← sliceL_upto]
    exact .slice (.name rfl) trivial Ev.int trivial (by decide) (by rw [List.length_map]; omega)
  · rw [List.map_drop, ← sliceL_from]
    exact .slice (.name rfl) Ev.int trivial trivial (by decide) (by rw [List.length_map]; omega)
  generalize rimA ns = A at H ⊢
  generalize rimB ns = B at H ⊢
  refine .pr (σ₁ := ⟨[("rims", .lst [.lst (A.map lightP), .lst (B.map lightP)])], []⟩) ?_ ⟨rfl, trivial⟩ trivial
  have hAl := H.lenA
  have hBl := H.lenB
  refine .cons (.assignM (.val (.callF (gRow rfl) (.two (.get (.name rfl) .int (by decide) rfl (by simp)) .int) (row_ok (by omega) H.okA) (fun w => rfl)) (.val (.callF (gRow rfl) (.two (.get (.name rfl) .int (by decide) rfl (by simp)) .int) (row_ok (by omega) H.okB) (fun w => rfl)) .nil (.inl rfl) (by intro _; rfl)) (.inl rfl) (by intro _; rfl)) rfl (by intro _; rfl) (by intro env h; cases env; cases h; rfl)) ?_
  refine .cons (.assignS (pv := .lst [crnP (A.map vec), crnP (B.map vec)]) (Ev.s ?_) (.inr (.tail _ (.head _))) (by intro env h; cases env; cases h; rfl)) ?_
  · refine .comp1 [A, B] (fun r => .lst (r.map lightP)) (fun r => crnP (r.map vec)) (caps := []) (oc := []) (tt := false) (.mk' [] rfl rfl trivial (by decide) (by decide) (by decide)) (.list (.name rfl)) ?_ (by simp)
    intro r hr
    have hrl : r.length = 4 := by
      rcases List.mem_cons.mp hr with rfl | hr
      · exact hAl
      · rw [List.mem_singleton.mp hr]; exact hBl
    have hro : ∀ l ∈ r, OkL l := by
      rcases List.mem_cons.mp hr with rfl | hr
      · exact H.okA
      · rw [List.mem_singleton.mp hr]; exact H.okB
    refine ⟨_, .name (.inl rfl), trivial, ?_⟩
    have e : crnP (r.map vec) = .lst (r.map fun l => c2 (vec l)) := by unfold crnP; rw [List.map_map]; rfl
    rw [e]
    refine .comp1 r lightP (fun l => c2 (vec l)) (caps := []) (oc := []) (tt := true) (.mk' [] rfl rfl trivial (by decide) (by decide) (by decide)) (.listT (.name rfl) ?_) ?_ (by omega)
    · intro pv hpv
      obtain ⟨l, _, rfl⟩ := List.mem_map.mp hpv
      exact ⟨_, .inr rfl⟩
    · intro l hl
      exact ⟨_, .tup (.inr rfl) (.cons (.inl rfl) (.cons (.inl rfl) (.cons (.inl rfl) .nil))), trivial, .tup (.two (.bin (.bin (.bin .int (.name rfl) (.mulI (.inl (by decide)))) (.name rfl) .subI) (.name rfl) .subI) (.bin (.name rfl) (.name rfl) .subI)) (by simp)⟩
  have hsA : ∀ x ∈ A.map vec, Sm x := by
    intro x hx
    obtain ⟨l, hl, rfl⟩ := List.mem_map.mp hx
    exact small_of (H.okA l hl)
  have hsB : ∀ x ∈ B.map vec, Sm x := by
    intro x hx
    obtain ⟨l, hl, rfl⟩ := List.mem_map.mp hx
    exact small_of (H.okB l hl)
  have hAv : (A.map vec).length = 4 := by rw [List.length_map]; exact hAl
  have hBv : (B.map vec).length = 4 := by rw [List.length_map]; exact hBl
  refine .pr (σ₁ := ⟨[("row", rowP (rowOf A)), ("beside", rowP (rowOf B)), ("sides", .lst [crnP (A.map vec), crnP (B.map vec)])], []⟩) ?_ ⟨rfl, rfl, rfl, trivial⟩ trivial
  refine .cons (.assignT (Ev.s (.callF (gBest rfl) (.one (.get (.name rfl) .int (by decide) rfl (by simp))) (best_ok (by omega) (orders_mem hsA)) (fun w => rfl))) (.inl rfl) (.cons (.inl rfl) (.cons (.inl rfl) .nil))) ?_
  refine .cons (.assignT (Ev.s (.callF (gBest rfl) (.one (.get (.name rfl) .int (by decide) rfl (by simp))) (best_ok (by omega) (orders_mem hsB)) (fun w => rfl))) (.inl rfl) (.cons (.inl rfl) (.cons (.inl rfl) .nil))) ?_
  have hbnd := orders_bnd (A.map vec) ((A.map vec).drop 1) (by rw [List.length_drop]; omega)
  refine .cons (.assign (pv := .int (maxI ((bestOf (A.map vec)).2.map fun cs => mostSum cs (B.map vec)))) (Ev.s (.callB (gMax rfl) (.one (?_ : Ev _ _ _ _ (.lst (((bestOf (A.map vec)).2.map fun cs => mostSum cs (B.map vec)).map .int)))) (max_ok (k := k + 4) (by simpa using H.ne)))) (.inl rfl)) ?_
  · rw [← ints_map (fun cs => mostSum cs (B.map vec))]
    refine .comp1 (bestOf (A.map vec)).2 crnP (fun cs => .int (mostSum cs (B.map vec))) (caps := [("sides", .lst [crnP (A.map vec), crnP (B.map vec)])]) (oc := []) (tt := false) (.mk' ["sides"] rfl rfl ⟨rfl, rfl, rfl, rfl, trivial⟩ (by decide) (by decide) (by decide)) (.list (.name rfl)) ?_ ?_
    · intro cs hcs
      obtain ⟨o, ho, e⟩ := best_mem hcs
      have hol := hbnd.2 o ho
      have hcl : cs.length ≤ 5 := by rw [e, corners2_length]; omega
      refine ⟨_, .name (.inl rfl), ⟨rfl, trivial⟩, .callF (gMost rfl) (.two (.name rfl) (.get (.name rfl) .int (by decide) rfl (by simp))) (most_ok ?_ (by omega) (by omega) hsB) (fun w => rfl)⟩
      intro h0
      have := congrArg List.length e
      rw [h0, corners2_length] at this
      simp at this
    · have h1 := best_len (ordersOf (A.map vec)) (-1, [])
      have h2 := hbnd.1
      exact Nat.le_trans h1 (by simp; exact Nat.le_trans h2 (by decide))
  generalize hmix : maxI ((bestOf (A.map vec)).2.map fun cs => mostSum cs (B.map vec)) = mix at H
  have r1 := H.r1
  have r2 := H.r2
  have r3 := H.r3
  have m1 := H.m1
  have m2 := H.m2
  rw [hmix] at r3 m1 m2
  have oA := rowFold_ord A [] List.Pairwise.nil
  have oB := rowFold_ord B [] List.Pairwise.nil
  have lA := row_len hAl
  have lB := row_len hBl
  have sA := row_small H.okA
  have sB := row_small H.okB
  have lJ : (joinOf (rowOf A) (rowOf B)).length ≤ 900 := by unfold joinOf; rw [foldl_ins_len, List.length_append]; simp; omega
  have sJ : ∀ s ∈ joinOf (rowOf A) (rowOf B), Small s := by
    intro s hs
    have := (foldl_ins_perm (rowOf A ++ rowOf B) []).subset hs
    simp at this
    rcases this with h | h
    · exact sA s h
    · exact sB s h
  refine .pr (σ₁ := ⟨[("row", rowP (rowOf A)), ("beside", rowP (rowOf B)), ("room", .int (bestOf (A.map vec)).1), ("other", .int (bestOf (B.map vec)).1), ("mixed", .int mix)], []⟩) ?_ ⟨rfl, rfl, rfl, rfl, by rw [← hmix]; rfl, trivial⟩ trivial
  refine .cons (.ifF (Tst.s' (.cmp (.lst (xs := [.int (roomOf (rowOf A)), .int (roomOf (rowOf B)), .int (roomOf (joinOf (rowOf A) (rowOf B)))]) (.three (.callF (gRoom rfl) (.one (.name rfl)) (room_ok (by omega) sA) (fun w => rfl)) (.callF (gRoom rfl) (.one (.name rfl)) (room_ok (by omega) sB) (fun w => rfl)) (.callF (gRoom rfl) (.one (.callF (gJoined rfl) (.two (.name rfl) (.name rfl)) (joined_ok (by omega)) (fun w => rfl))) (room_ok lJ sJ) (fun w => rfl))) (by simp))
    (.lst (xs := [.int (bestOf (A.map vec)).1, .int (bestOf (B.map vec)).1, .int ((bestOf (A.map vec)).1 + (bestOf (B.map vec)).1 + 2 * mix)]) (.three (.name rfl) (.name rfl) (.bin (.bin (.name rfl) (.name rfl) .addI) (.bin .int (.name rfl) (.mulI (.inl (by decide)))) .addI)) (by simp)) (.neInts (a := [roomOf (rowOf A), roomOf (rowOf B), roomOf (joinOf (rowOf A) (rowOf B))]) (b := [(bestOf (A.map vec)).1, (bestOf (B.map vec)).1, (bestOf (A.map vec)).1 + (bestOf (B.map vec)).1 + 2 * mix]))) (by rw [r1, r2, r3]; simp)) .nil) ?_
  refine .fin (.ret (Ev.s (.cast (.cmp (.lst (xs := [.int (mixOf (rowOf A) (rowOf B) false), .int (mixOf (rowOf B) (rowOf A) true)]) (.two (.callF (gMixed rfl) (.three (.name rfl) (.name rfl) .boolc) (mixed_ok oA (by omega) (by omega) sB) (fun w => rfl)) (.callF (gMixed rfl) (.three (.name rfl) (.name rfl) .boolc) (mixed_ok oB (by omega) (by omega) sA) (fun w => rfl))) (by simp))
    (.lst (xs := [.int mix, .int mix]) (.two (.name rfl) (.name rfl)) (by simp)) (.eqInts (a := [mixOf (rowOf A) (rowOf B) false, mixOf (rowOf B) (rowOf A) true]) (b := [mix, mix]))) (by rw [m1, m2]; simp))))
end Mine
end

section
open PySem
namespace Mine

/-! # the plain law -/
noncomputable def vx : Nat → Int
  | 0 => 2 | 1 => 1 | 2 => -1 | 3 => -2 | 4 => -1 | 5 => 1 | _ => 2
noncomputable def vy : Nat → Int
  | 0 => 0 | 1 => 1 | 2 => 1 | 3 => 0 | 4 => -1 | 5 => -1 | _ => 0
noncomputable def Cone (v : C2) (k : Int) : Prop :=
  ∃ (s : Nat) (a b : Int), s < 6 ∧ 0 < a ∧ 0 ≤ b ∧ a + b ≤ 12 ∧ v.1 = a * vx s + b * vx (s + 1) ∧ v.2 = a * vy s + b * vy (s + 1) ∧ k = 27720 * (s : Int) + b * (27720 / (a + b))

theorem div_t : ((List.range 13).all fun n => n == 0 || decide (27720 / ((n : Nat) : Int) * ((n : Nat) : Int) = 27720)) = true := by decide
theorem div_n {n : Int} (h1 : 0 < n) (h2 : n ≤ 12) : 27720 / n * n = 27720 := by
  obtain ⟨m, rfl⟩ := Int.eq_ofNat_of_zero_le (Int.le_of_lt h1)
  have h := rng div_t (Int.ofNat_lt.mp (Int.lt_add_one_of_le h2))
  have h0 : (m == 0) = false := beq_false_of_ne (Nat.ne_of_gt (Int.ofNat_lt.mp h1))
  rw [h0, Bool.false_or] at h
  exact of_decide_eq_true h
theorem sgn_of {x p y : Int} (hp : 0 < p) (h : x * p = 27720 * y) : (0 < x ↔ 0 < y) ∧ (x < 0 ↔ y < 0) := by
  constructor
  · constructor
    · intro hx; have := Int.mul_pos hx hp; omega
    · intro hy
      refine Int.not_le.mp fun hx => ?_
      have := Int.mul_nonpos_of_nonpos_of_nonneg hx (Int.le_of_lt hp)
      omega
  · constructor
    · intro hx
      have := Int.mul_neg_of_neg_of_pos hx hp
      omega
    · intro hy
      refine Int.not_le.mp fun hx => ?_
      have := Int.mul_nonneg hx (Int.le_of_lt hp)
      omega
theorem frac_lt {a b : Int} (ha : 0 < a) (hb : 0 ≤ b) (h : a + b ≤ 12) : 0 ≤ b * (27720 / (a + b)) ∧ b * (27720 / (a + b)) < 27720 := by
  have hn := div_n (n := a + b) (by omega) h
  have hpos : 0 < 27720 / (a + b) := by
    refine Int.not_le.mp fun hx => ?_
    have := Int.mul_nonpos_of_nonpos_of_nonneg hx (show 0 ≤ a + b by omega)
    omega
  generalize 27720 / (a + b) = N at *
  have h1 := Int.mul_nonneg hb (Int.le_of_lt hpos)
  have h2 := Int.mul_pos ha hpos
  have h3 : N * (a + b) = b * N + a * N := by grind
  omega
theorem frac_cmp {a b c d : Int} (ha : 0 < a) (hb : 0 ≤ b) (h : a + b ≤ 12) (hc : 0 < c) (hd : 0 ≤ d) (h' : c + d ≤ 12) :
    (0 < d * (27720 / (c + d)) - b * (27720 / (a + b)) ↔ 0 < a * d - b * c) ∧ (d * (27720 / (c + d)) - b * (27720 / (a + b)) < 0 ↔ a * d - b * c < 0) := by
  have hn := div_n (n := a + b) (by omega) h
  have hm := div_n (n := c + d) (by omega) h'
  generalize 27720 / (a + b) = N at *
  generalize 27720 / (c + d) = M at *
  refine sgn_of (p := (a + b) * (c + d)) (Int.mul_pos (by omega) (by omega)) ?_
  have e1 : (d * M - b * N) * ((a + b) * (c + d)) = d * (a + b) * (M * (c + d)) - b * (c + d) * (N * (a + b)) := by grind
  rw [e1, hn, hm]
  grind

/-- the sign of two sides crosswise, by their keys -/
structure Sgn (u v : C2) (k j : Int) : Prop where
  z : k = j → cw2 u v = 0
  p : k < j → j - k < 83160 → 0 < cw2 u v
  h : j - k = 83160 → cw2 u v = 0
  n : 83160 < j - k → cw2 u v < 0

theorem cw2_anti (u v : C2) : cw2 v u = - cw2 u v := by unfold cw2; grind
/-- how the six ways stand crosswise, by the steps from one to the other -/
noncomputable def sx : Nat → Int
  | 0 => 0 | 1 => 1 | 2 => 1 | 3 => 0 | 4 => -1 | 5 => -1 | 6 => 0 | 7 => 1 | _ => 0
theorem way_t : ((List.range 7).all fun s => (List.range 7).all fun t => decide (s ≤ t + 1) == false || vx s * vy t - vy s * vx t == 2 * (if t < s then -sx (s - t) else sx (t - s))) = true := by decide
theorem way {s t : Nat} (hs : s < 7) (ht : t < 7) (h : s ≤ t + 1) : vx s * vy t - vy s * vx t = 2 * (if t < s then -sx (s - t) else sx (t - s)) := by
  have h1 := List.all_eq_true.mp (List.all_eq_true.mp way_t s (List.mem_range.mpr hs)) t (List.mem_range.mpr ht)
  rw [decide_eq_true h] at h1
  simpa using h1
theorem way_le {s t : Nat} (hs : s < 7) (ht : t < 7) (h : s ≤ t) : vx s * vy t - vy s * vx t = 2 * sx (t - s) := by
  rw [way hs ht (by omega), if_neg (by omega)]
theorem sgn_pos {k j e : Int} (h1 : k < j) (h2 : j - k < 83160) (h : 0 < e) : (k = j → e = 0) ∧ (k < j → j - k < 83160 → 0 < e) ∧ (j - k = 83160 → e = 0) ∧ (83160 < j - k → e < 0) :=
  ⟨fun e => absurd e (Int.ne_of_lt h1), fun _ _ => h, fun e => absurd e (Int.ne_of_lt h2), fun h => absurd h2 (Int.not_lt.mpr (Int.le_of_lt h))⟩
theorem sgn_neg {k j e : Int} (h1 : 83160 < j - k) (h : e < 0) : (k = j → e = 0) ∧ (k < j → j - k < 83160 → 0 < e) ∧ (j - k = 83160 → e = 0) ∧ (83160 < j - k → e < 0) :=
  ⟨fun e => by omega, fun _ h => absurd h1 (Int.not_lt.mpr (Int.le_of_lt h)), fun e => absurd e.symm (Int.ne_of_lt h1), fun _ => h⟩
/-- numbers alone: sides m sextants apart -/
theorem sgn_m {P Q R S F G k j e : Int} {m : Nat} (hm : m < 6) (p1 : 0 < P) (p2 : 0 ≤ Q) (p3 : 0 ≤ R) (p4 : 0 ≤ S) (f1 : 0 ≤ F ∧ F < 27720) (f2 : 0 ≤ G ∧ G < 27720)
    (fp : 0 < G - F ↔ 0 < Q - R) (fn : G - F < 0 ↔ Q - R < 0) (hj : j - k = 27720 * (m : Int) + G - F)
    (he : e = P * (2 * sx m) + Q * (2 * sx (m + 1)) + R * (if m = 0 then -2 else 2 * sx (m - 1)) + S * (2 * sx m)) :
    (k = j → e = 0) ∧ (k < j → j - k < 83160 → 0 < e) ∧ (j - k = 83160 → e = 0) ∧ (83160 < j - k → e < 0) := by
  have hp1 : 0 < P + Q + S := Int.add_pos_of_pos_of_nonneg (Int.add_pos_of_pos_of_nonneg p1 p2) p4
  have hp2 : 0 < P + R + S := Int.add_pos_of_pos_of_nonneg (Int.add_pos_of_pos_of_nonneg p1 p3) p4
  have hd : -27720 < G - F ∧ G - F < 27720 := by omega
  clear p1 p2 p3 p4 f1 f2
  rw [Int.add_sub_assoc] at hj
  generalize G - F = D at *
  generalize hX : P + Q + S = X at hp1
  generalize hY : P + R + S = Y at hp2
  match m, hm with
  | 0, _ =>
    have he : e = 2 * (Q - R) := by
      have he : e = P * (2 * 0) + Q * (2 * 1) + R * (-2) + S * (2 * 0) := he
      clear fp fn hX hY hp1 hp2 hj hd
      omega
    have hj : j - k = D := by rw [hj]; simp
    clear hX hY hp1 hp2
    generalize Q - R = E at *
    refine ⟨fun h => ?_, fun h _ => ?_, fun h => ?_, fun h => ?_⟩
    · have : D = 0 := by clear fp fn he; omega
      subst this
      have := (not_congr fp).mp (Int.lt_irrefl 0)
      have := (not_congr fn).mp (Int.lt_irrefl 0)
      clear fp fn
      omega
    · have := fp.mp (by clear fp fn he; omega)
      clear fp fn hj hd
      omega
    · exact absurd (hj.symm.trans h) (by clear fp fn he; omega)
    · exact absurd (hj ▸ h : 83160 < D) (by clear fp fn he; omega)
  | 1, _ =>
    have he : e = 2 * X := by
      have he : e = P * (2 * 1) + Q * (2 * 1) + R * (2 * 0) + S * (2 * 1) := he
      clear fp fn hY hp1 hp2 hj hd
      omega
    clear fp fn hX hY
    exact sgn_pos (by clear hp1 hp2 he; omega) (by clear hp1 hp2 he; omega) (by clear hd hj; omega)
  | 2, _ =>
    have he : e = 2 * Y := by
      have he : e = P * (2 * 1) + Q * (2 * 0) + R * (2 * 1) + S * (2 * 1) := he
      clear fp fn hX hp1 hp2 hj hd
      omega
    clear fp fn hX hY
    exact sgn_pos (by clear hp1 hp2 he; omega) (by clear hp1 hp2 he; omega) (by clear hd hj; omega)
  | 3, _ =>
    have he : e = -2 * (Q - R) := by
      have he : e = P * (2 * 0) + Q * (2 * -1) + R * (2 * 1) + S * (2 * 0) := he
      clear fp fn hX hY hp1 hp2 hj hd
      omega
    have hj : j - k = 83160 + D := by rw [hj]; rfl
    clear hX hY hp1 hp2
    generalize Q - R = E at *
    refine ⟨fun h => ?_, fun h h' => ?_, fun h => ?_, fun h => ?_⟩
    · clear fp fn he; omega
    · have := fn.mp (by clear fp fn he; omega)
      clear fp fn hj hd
      omega
    · have : D = 0 := by clear fp fn he; omega
      subst this
      have := (not_congr fp).mp (Int.lt_irrefl 0)
      have := (not_congr fn).mp (Int.lt_irrefl 0)
      clear fp fn
      omega
    · have := fp.mp (by clear fp fn he; omega)
      clear fp fn hj hd
      omega
  | 4, _ =>
    have he : e = -2 * X := by
      have he : e = P * (2 * -1) + Q * (2 * -1) + R * (2 * 0) + S * (2 * -1) := he
      clear fp fn hY hp1 hp2 hj hd
      omega
    clear fp fn hX hY
    exact sgn_neg (by clear hp1 hp2 he; omega) (by clear hd hj; omega)
  | 5, _ =>
    have he : e = -2 * Y := by
      have he : e = P * (2 * -1) + Q * (2 * 0) + R * (2 * -1) + S * (2 * -1) := he
      clear fp fn hX hp1 hp2 hj hd
      omega
    clear fp fn hX hY
    exact sgn_neg (by clear hp1 hp2 he; omega) (by clear hd hj; omega)
theorem cone_sgn {u v : C2} {k j : Int} (hu : Cone u k) (hv : Cone v j) : Sgn u v k j := by
  obtain ⟨s, a, b, hs, ha, hb, hab, hu1, hu2, hk⟩ := hu
  obtain ⟨t, c, d, ht, hc, hd, hcd, hv1, hv2, hj⟩ := hv
  have f1 := frac_lt ha hb hab
  have f2 := frac_lt hc hd hcd
  have fc := frac_cmp ha hb hab hc hd hcd
  have e : cw2 u v = (a * c) * (vx s * vy t - vy s * vx t) + (a * d) * (vx s * vy (t + 1) - vy s * vx (t + 1)) + (b * c) * (vx (s + 1) * vy t - vy (s + 1) * vx t) + (b * d) * (vx (s + 1) * vy (t + 1) - vy (s + 1) * vx (t + 1)) := by
    unfold cw2; rw [hu1, hu2, hv1, hv2]; grind
  have p1 := Int.mul_pos ha hc
  have p2 := Int.mul_nonneg (Int.le_of_lt ha) hd
  have p3 := Int.mul_nonneg hb (Int.le_of_lt hc)
  have p4 := Int.mul_nonneg hb hd
  generalize b * (27720 / (a + b)) = F at *
  generalize d * (27720 / (c + d)) = G at *
  generalize a * c = P at *
  generalize a * d = Q at *
  generalize b * c = R at *
  generalize b * d = S at *
  clear hu1 hu2 hv1 hv2 ha hb hab hc hd hcd
  by_cases hst : s ≤ t
  · obtain ⟨m, rfl⟩ := Nat.exists_eq_add_of_le hst
    have hm6 : m < 6 := Nat.lt_of_le_of_lt (Nat.le_add_left m s) ht
    have hs7 : s < 7 := Nat.lt_succ_of_lt hs
    have ht7 : s + m < 7 := Nat.lt_succ_of_lt ht
    have hj' : j - k = 27720 * (m : Int) + G - F := by
      rw [hj, hk]
      clear e fc f1 f2 p1 p2 p3 p4 hs ht hst hj hk
      omega
    clear hj hk
    rw [way_le hs7 ht7 hst, way_le (t := s + m + 1) hs7 (Nat.succ_lt_succ ht) (Nat.le_succ_of_le hst), way (s := s + 1) (Nat.succ_lt_succ hs) ht7 (Nat.succ_le_succ hst), way_le (s := s + 1) (t := s + m + 1) (Nat.succ_lt_succ hs) (Nat.succ_lt_succ ht) (Nat.succ_le_succ hst)] at e
    rw [Nat.add_sub_cancel_left, Nat.add_assoc s m 1, Nat.add_sub_cancel_left, ← Nat.add_assoc s m 1, Nat.add_sub_add_right, Nat.add_sub_cancel_left] at e
    have h4 : (2 * if s + m < s + 1 then -sx (s + 1 - (s + m)) else sx (s + m - (s + 1))) = if m = 0 then -2 else 2 * sx (m - 1) := by
      by_cases h : m = 0
      · subst h
        rw [if_pos (show s + 0 < s + 1 from Nat.lt_succ_self s), if_pos rfl, Nat.add_sub_add_left]; rfl
      · rw [if_neg (fun q => h (Nat.lt_one_iff.mp (Nat.lt_of_add_lt_add_left q))), if_neg h, Nat.add_sub_add_left]
    rw [h4] at e
    obtain ⟨r1, r2, r3, r4⟩ := sgn_m (k := k) (j := j) (m := m) hm6 p1 p2 p3 p4 f1 f2 fc.1 fc.2 hj' e
    exact ⟨r1, r2, r3, r4⟩
  · have hlt : j < k := by
      clear e fc p1 p2 p3 p4
      omega
    clear e fc hk hj f1 f2
    exact ⟨fun h => absurd h.symm (Int.ne_of_lt hlt), fun h => absurd hlt (Int.not_lt.mpr (Int.le_of_lt h)), fun h => by clear p1 p2 p3 p4; omega, fun h => by clear p1 p2 p3 p4; omega⟩
/-- where a light stands among the six ways: sextant and the two parts -/
noncomputable def spot (r g b : Int) : Nat × Int × Int :=
  if g ≤ r ∧ b ≤ r then (if b ≤ g then (if g < r then (0, r - g, g - b) else (1, r - b, 0)) else (5, b - g, r - b))
  else if r < g ∧ b ≤ g then (if r ≤ b then (if b < g then (2, g - b, b - r) else (3, g - r, 0)) else (1, r - b, g - r))
  else if g ≤ r then (4, b - r, r - g) else (3, g - r, b - g)
noncomputable def spotOk (r g b : Int) : Bool :=
  let p := spot r g b
  decide (p.1 < 6) && decide (0 < p.2.1) && decide (0 ≤ p.2.2) && decide (p.2.1 + p.2.2 ≤ 12) &&
    decide (2 * r - g - b = p.2.1 * vx p.1 + p.2.2 * vx (p.1 + 1)) && decide (g - b = p.2.1 * vy p.1 + p.2.2 * vy (p.1 + 1)) &&
    decide (keyI r g b = 27720 * (p.1 : Int) + p.2.2 * (27720 / (p.2.1 + p.2.2)))
theorem spot_t : ((List.range 13).all fun r => (List.range 13).all fun g => (List.range 13).all fun b => mn3 r g b != 0 || (r == g && g == b) || spotOk (r : Nat) (g : Nat) (b : Nat)) = true := by decide +kernel
theorem max_shift (x y m : Int) : max (x + m) (y + m) = max x y + m := by
  rcases Int.le_total x y with h | h
  · rw [Int.max_eq_right h, Int.max_eq_right (Int.add_le_add_right h m)]
  · rw [Int.max_eq_left h, Int.max_eq_left (Int.add_le_add_right h m)]
theorem min_shift (x y m : Int) : min (x + m) (y + m) = min x y + m := by
  rcases Int.le_total x y with h | h
  · rw [Int.min_eq_left h, Int.min_eq_left (Int.add_le_add_right h m)]
  · rw [Int.min_eq_right h, Int.min_eq_right (Int.add_le_add_right h m)]
theorem key_shift (r g b m : Int) : keyI (r + m) (g + m) (b + m) = keyI r g b := by
  unfold keyI
  dsimp only
  rw [max_shift, max_shift, min_shift, min_shift]
  generalize max r (max g b) = M
  generalize min r (min g b) = n
  rw [Int.add_sub_add_right, Int.add_sub_add_right, Int.add_sub_add_right, Int.add_sub_add_right]
  simp only [Int.add_left_inj]
theorem vec_shift (r g b m : Int) : vec (r + m, g + m, b + m) = vec (r, g, b) := by
  unfold vec
  dsimp only
  rw [Int.add_sub_add_right, Prod.mk.injEq]
  exact ⟨by omega, rfl⟩
theorem key_cone0 {r g b : Nat} (hr : r < 13) (hg : g < 13) (hb : b < 13) (h0 : mn3 r g b = 0) (hne : ¬ (r = g ∧ g = b)) : Cone (vec ((r : Int), (g : Int), (b : Int))) (keyI r g b) := by
  have hh := rng (rng (rng spot_t hr) hg) hb
  have hne : (r == g && g == b) = false := by
    cases hc : (r == g && g == b) with
    | false => rfl
    | true =>
      rw [Bool.and_eq_true, beq_iff_eq, beq_iff_eq] at hc
      exact absurd hc hne
  rw [h0, hne, bne_self_eq_false, Bool.false_or, Bool.false_or] at hh
  unfold spotOk at hh
  dsimp only at hh
  rw [Bool.and_eq_true, Bool.and_eq_true, Bool.and_eq_true, Bool.and_eq_true, Bool.and_eq_true, Bool.and_eq_true] at hh
  obtain ⟨⟨⟨⟨⟨⟨h1, h2⟩, h3⟩, h4⟩, h5⟩, h6⟩, h7⟩ := hh
  exact ⟨_, _, _, of_decide_eq_true h1, of_decide_eq_true h2, of_decide_eq_true h3, of_decide_eq_true h4, of_decide_eq_true h5, of_decide_eq_true h6, of_decide_eq_true h7⟩
theorem key_cone {l : L3} (h : OkL l) (hg : grey l = false) : Cone (vec l) (keyI l.1 l.2.1 l.2.2) := by
  obtain ⟨r, g, b⟩ := l
  obtain ⟨⟨r0, r1⟩, ⟨g0, g1⟩, ⟨b0, b1⟩⟩ := h
  obtain ⟨r, rfl⟩ := Int.eq_ofNat_of_zero_le r0
  obtain ⟨g, rfl⟩ := Int.eq_ofNat_of_zero_le g0
  obtain ⟨b, rfl⟩ := Int.eq_ofNat_of_zero_le b0
  have r2 : r < 13 := Int.ofNat_lt.mp (Int.lt_add_one_of_le r1)
  have g2 : g < 13 := Int.ofNat_lt.mp (Int.lt_add_one_of_le g1)
  have b2 : b < 13 := Int.ofNat_lt.mp (Int.lt_add_one_of_le b1)
  have hne : ¬ (r = g ∧ g = b) := by
    rintro ⟨rfl, rfl⟩
    unfold grey at hg
    simp at hg
  have hmin : ∃ m r' g' b' : Nat, r = r' + m ∧ g = g' + m ∧ b = b' + m ∧ mn3 r' g' b' = 0 := by
    have rm : mn3 r g b ≤ r := Nat.min_le_left _ _
    have gm : mn3 r g b ≤ g := Nat.le_trans (Nat.min_le_right _ _) (Nat.min_le_left _ _)
    have bm : mn3 r g b ≤ b := Nat.le_trans (Nat.min_le_right _ _) (Nat.min_le_right _ _)
    refine ⟨mn3 r g b, r - mn3 r g b, g - mn3 r g b, b - mn3 r g b, (Nat.sub_add_cancel rm).symm, (Nat.sub_add_cancel gm).symm, (Nat.sub_add_cancel bm).symm, Nat.le_zero.mp ?_⟩
    rcases (min_or r (min g b)) with e | e
    · exact Nat.le_trans (Nat.min_le_left _ _) (Nat.le_of_eq (Nat.sub_eq_zero_of_le (Nat.le_of_eq e.symm)))
    · rcases min_or g b with e' | e'
      · exact Nat.le_trans (Nat.le_trans (Nat.min_le_right _ _) (Nat.min_le_left _ _)) (Nat.le_of_eq (Nat.sub_eq_zero_of_le (Nat.le_of_eq (e.trans e').symm)))
      · exact Nat.le_trans (Nat.le_trans (Nat.min_le_right _ _) (Nat.min_le_right _ _)) (Nat.le_of_eq (Nat.sub_eq_zero_of_le (Nat.le_of_eq (e.trans e').symm)))
  obtain ⟨m, r', g', b', rfl, rfl, rfl, h0⟩ := hmin
  dsimp only
  rw [Int.natCast_add, Int.natCast_add, Int.natCast_add, vec_shift, key_shift]
  exact key_cone0 (Nat.lt_of_le_of_lt (Nat.le_add_right _ _) r2) (Nat.lt_of_le_of_lt (Nat.le_add_right _ _) g2) (Nat.lt_of_le_of_lt (Nat.le_add_right _ _) b2) h0 fun h => hne ⟨by rw [h.1], by rw [h.2]⟩
end Mine
end

section
open PySem
namespace Mine

/-! ### sums -/
noncomputable def lsum {α : Type} (f : α → Int) : List α → Int
  | [] => 0
  | x :: r => f x + lsum f r
section
variable {α β : Type}
theorem lsum_eq (f : α → Int) : ∀ l : List α, (l.map f).sum = lsum f l
  | [] => rfl
  | x :: r => by rw [List.map_cons, List.sum_cons, lsum_eq f r]; rfl
theorem lsum_append (f : α → Int) : ∀ l m : List α, lsum f (l ++ m) = lsum f l + lsum f m
  | [], m => by simp [lsum]
  | x :: r, m => by show f x + lsum f (r ++ m) = f x + lsum f r + _; rw [lsum_append f r m]; omega
theorem lsum_perm (f : α → Int) {l m : List α} (h : l.Perm m) : lsum f l = lsum f m := by
  induction h with
  | nil => rfl
  | cons x _ ih => show f x + _ = f x + _; rw [ih]
  | swap x y l => show f y + (f x + lsum f l) = f x + (f y + lsum f l); omega
  | trans _ _ h1 h2 => rw [h1, h2]
theorem lsum_congr {f g : α → Int} : ∀ {l : List α}, (∀ x ∈ l, f x = g x) → lsum f l = lsum g l
  | [], _ => rfl
  | x :: r, h => by show f x + _ = g x + _; rw [h x (.head _), lsum_congr fun y hy => h y (.tail _ hy)]
theorem lsum_le {f g : α → Int} : ∀ {l : List α}, (∀ x ∈ l, f x ≤ g x) → lsum f l ≤ lsum g l
  | [], _ => Int.le_refl _
  | x :: r, h => by
    have := h x (.head _)
    have := lsum_le (l := r) fun y hy => h y (.tail _ hy)
    show f x + _ ≤ g x + _; omega
theorem lsum_add (f g : α → Int) : ∀ l : List α, lsum (fun x => f x + g x) l = lsum f l + lsum g l
  | [] => rfl
  | x :: r => by show f x + g x + lsum _ r = f x + lsum f r + (g x + lsum g r); rw [lsum_add f g r]; omega
theorem lsum_neg (f : α → Int) : ∀ l : List α, lsum (fun x => - f x) l = - lsum f l
  | [] => rfl
  | x :: r => by show - f x + lsum _ r = - (f x + lsum f r); rw [lsum_neg f r]; omega
theorem lsum_zero : ∀ l : List α, lsum (fun _ => 0) l = 0
  | [] => rfl
  | x :: r => by show 0 + lsum _ r = 0; rw [lsum_zero r]; rfl
theorem lsum_swap (f : α → β → Int) : ∀ (l : List α) (m : List β), lsum (fun x => lsum (f x) m) l = lsum (fun y => lsum (fun x => f x y) l) m
  | [], m => by show 0 = lsum (fun _ => 0) m; rw [lsum_zero]
  | x :: r, m => by
    show lsum (f x) m + lsum _ r = lsum (fun y => f x y + lsum (fun x => f x y) r) m
    rw [lsum_add, lsum_swap f r m]
theorem lsum_map (f : β → Int) (g : α → β) : ∀ l : List α, lsum f (l.map g) = lsum (fun x => f (g x)) l
  | [] => rfl
  | x :: r => by show f (g x) + _ = f (g x) + _; rw [lsum_map f g r]
theorem lsum_filter (f : α → Int) (p : α → Bool) : ∀ l : List α, lsum f (l.filter p) = lsum (fun x => if p x then f x else 0) l
  | [] => rfl
  | x :: r => by
    by_cases h : p x = true
    · rw [List.filter_cons_of_pos h]
      show f x + _ = (if p x then f x else 0) + _
      rw [if_pos h, lsum_filter f p r]
    · rw [List.filter_cons_of_neg h]
      show _ = (if p x then f x else 0) + _
      rw [if_neg h, lsum_filter f p r]; omega
end

/-! ### vectors -/
theorem cw2_addl (a b c : C2) : cw2 (add2 a b) c = cw2 a c + cw2 b c := by unfold cw2 add2; grind
theorem cw2_addr (a b c : C2) : cw2 a (add2 b c) = cw2 a b + cw2 a c := by unfold cw2 add2; grind
theorem cw2_zl (c : C2) : cw2 (0, 0) c = 0 := by unfold cw2; grind
theorem cw2_zr (c : C2) : cw2 c (0, 0) = 0 := by unfold cw2; grind
theorem cw2_self (c : C2) : cw2 c c = 0 := by unfold cw2; grind
theorem add2_zl (a : C2) : add2 (0, 0) a = a := by unfold add2; simp
theorem add2_zr (a : C2) : add2 a (0, 0) = a := by unfold add2; simp
theorem add2_assoc (a b c : C2) : add2 (add2 a b) c = add2 a (add2 b c) := by unfold add2; simp only [Prod.mk.injEq]; omega
theorem add2_comm (a b : C2) : add2 a b = add2 b a := by unfold add2; simp only [Prod.mk.injEq]; omega
noncomputable def vsum : List C2 → C2
  | [] => (0, 0)
  | v :: r => add2 v (vsum r)
theorem vsum_append : ∀ l m : List C2, vsum (l ++ m) = add2 (vsum l) (vsum m)
  | [], m => (add2_zl _).symm
  | v :: r, m => by show add2 v (vsum (r ++ m)) = add2 (add2 v (vsum r)) _; rw [vsum_append r m, add2_assoc]
theorem vsum_perm {l m : List C2} (h : l.Perm m) : vsum l = vsum m := by
  induction h with
  | nil => rfl
  | cons x _ ih => show add2 x _ = add2 x _; rw [ih]
  | swap x y l => show add2 y (add2 x _) = add2 x (add2 y _); rw [← add2_assoc, ← add2_assoc, add2_comm y x]
  | trans _ _ h1 h2 => rw [h1, h2]
theorem cw2_vsum (t : C2) : ∀ l : List C2, cw2 (vsum l) t = lsum (fun v => cw2 v t) l
  | [] => cw2_zl t
  | v :: r => by show cw2 (add2 v (vsum r)) t = cw2 v t + _; rw [cw2_addl, cw2_vsum t r]
theorem cw2_vsumr (t : C2) : ∀ l : List C2, cw2 t (vsum l) = lsum (fun v => cw2 t v) l
  | [] => cw2_zr t
  | v :: r => by show cw2 t (add2 v (vsum r)) = cw2 t v + _; rw [cw2_addr, cw2_vsumr t r]

/-! ### rooms -/
noncomputable def pr : List C2 → Int
  | [] => 0
  | v :: r => cw2 v (vsum r) + pr r
theorem room2_eq : ∀ (q : List C2) (c : C2), room2 c q = cw2 c (vsum q) + pr q
  | [], c => by show 0 = cw2 c (0, 0) + 0; rw [cw2_zr]; rfl
  | v :: r, c => by
    show cw2 c v + room2 (add2 c v) r = cw2 c (add2 v (vsum r)) + (cw2 v (vsum r) + pr r)
    rw [room2_eq r, cw2_addr, cw2_addl]; omega
theorem room2_pr (q : List C2) : room2 (0, 0) q = pr q := by rw [room2_eq, cw2_zl]; omega
theorem pr_append : ∀ l m : List C2, pr (l ++ m) = pr l + pr m + cw2 (vsum l) (vsum m)
  | [], m => by show pr m = 0 + pr m + cw2 (0, 0) _; rw [cw2_zl]; omega
  | v :: r, m => by
    show cw2 v (vsum (r ++ m)) + pr (r ++ m) = cw2 v (vsum r) + pr r + pr m + cw2 (add2 v (vsum r)) (vsum m)
    rw [pr_append r m, vsum_append, cw2_addr, cw2_addl]; omega
theorem pr_rot {l m : List C2} (h : vsum (l ++ m) = (0, 0)) : pr (m ++ l) = pr (l ++ m) := by
  rw [pr_append, pr_append]
  rw [vsum_append] at h
  have h1 : cw2 (add2 (vsum l) (vsum m)) (vsum m) = 0 := by rw [h, cw2_zl]
  have h2 : cw2 (vsum m) (add2 (vsum l) (vsum m)) = 0 := by rw [h, cw2_zr]
  rw [cw2_addl, cw2_self] at h1
  rw [cw2_addr, cw2_self] at h2
  omega

/-! ### rows and lists of vectors -/
abbrev vs (r : List S3) : List C2 := r.map (·.2)
theorem cw_cw2 (c : C2) (s : S3) : cw c s = cw2 c s.2 := rfl
theorem corners_vs : ∀ (r : List S3) (c : C2), corners c r = corners2 c (vs r)
  | [], c => rfl
  | s :: r, c => by show c :: corners _ r = c :: corners2 _ (vs r); rw [corners_vs r]; rfl
theorem foldl_room : ∀ (l : List (C2 × S3)) (a : Int), l.foldl (fun a p => a + cw p.1 p.2) a = a + lsum (fun p => cw p.1 p.2) l
  | [], a => by simp [lsum]
  | p :: l, a => by rw [List.foldl_cons, foldl_room l]; show _ = a + (cw p.1 p.2 + _); omega
theorem zip_room : ∀ (r : List S3) (c : C2), lsum (fun p : C2 × S3 => cw p.1 p.2) ((corners c r).zip r) = room2 c (vs r)
  | [], c => rfl
  | s :: r, c => by
    show cw c s + lsum _ ((corners _ r).zip r) = cw2 c s.2 + room2 (add2 c s.2) (vs r)
    rw [zip_room r]; rfl
theorem roomOf_eq (r : List S3) : roomOf r = pr (vs r) := by
  unfold roomOf
  rw [foldl_room, zip_room, room2_pr]; omega

/-- pairs, whichever way they stand -/
noncomputable def kap (s u : S3) : Int := if s.1 < u.1 then cw2 s.2 u.2 else if u.1 < s.1 then cw2 u.2 s.2 else 0
theorem kap_symm (s u : S3) : kap s u = kap u s := by
  unfold kap
  by_cases h1 : s.1 < u.1
  · rw [if_pos h1, if_neg (by omega), if_pos h1]
  · by_cases h2 : u.1 < s.1
    · rw [if_neg h1, if_pos h2, if_pos h2]
    · rw [if_neg h1, if_neg h2, if_neg h2, if_neg h1]
noncomputable def pairs : List S3 → Int
  | [] => 0
  | s :: r => lsum (kap s) r + pairs r
theorem pairs_perm {l m : List S3} (h : l.Perm m) : pairs l = pairs m := by
  induction h with
  | nil => rfl
  | cons x h ih => show lsum (kap x) _ + _ = lsum (kap x) _ + _; rw [ih, lsum_perm _ h]
  | swap x y l =>
    show (kap y x + lsum (kap y) l) + (lsum (kap x) l + pairs l) = (kap x y + lsum (kap x) l) + (lsum (kap y) l + pairs l)
    rw [kap_symm]; omega
  | trans _ _ h1 h2 => rw [h1, h2]
theorem pairs_append : ∀ l m : List S3, pairs (l ++ m) = pairs l + pairs m + lsum (fun s => lsum (kap s) m) l
  | [], m => by show pairs m = 0 + pairs m + 0; omega
  | s :: r, m => by
    show lsum (kap s) (r ++ m) + pairs (r ++ m) = lsum (kap s) r + pairs r + pairs m + (lsum (kap s) m + lsum _ r)
    rw [pairs_append r m, lsum_append]; omega

/-- sides whose keys tell how they stand crosswise -/
noncomputable def Good2 (r t : List S3) : Prop := ∀ s ∈ r, ∀ u ∈ t, Sgn s.2 u.2 s.1 u.1
theorem pr_pairs : ∀ {r : List S3}, Ord r → (∀ s ∈ r, ∀ u ∈ r, Sgn s.2 u.2 s.1 u.1) → pr (vs r) = pairs r
  | [], _, _ => rfl
  | s :: r, ho, hg => by
    obtain ⟨h1, h2⟩ := List.pairwise_cons.mp ho
    show cw2 s.2 (vsum (vs r)) + pr (vs r) = lsum (kap s) r + pairs r
    rw [pr_pairs h2 fun a ha b hb => hg a (.tail _ ha) b (.tail _ hb), cw2_vsumr, lsum_map]
    rw [lsum_congr (g := kap s) fun u hu => ?_]
    have hle := h1 u hu
    have hz := (hg s (.head _) u (.tail _ hu)).z
    unfold kap
    by_cases hlt : s.1 < u.1
    · rw [if_pos hlt]
    · rw [if_neg hlt, if_neg (by omega)]
      exact hz (by omega)
end Mine
end

section
open PySem
namespace Mine

theorem corners2_mem : ∀ {q : List C2} {c d : C2}, d ∈ corners2 c q ↔ ∃ p r, q = p ++ r ∧ d = add2 c (vsum p)
  | [], c, d => by
    constructor
    · intro h
      have : d = c := by simpa [corners2] using h
      exact ⟨[], [], rfl, by rw [this]; exact (add2_zr c).symm⟩
    · rintro ⟨p, r, e, rfl⟩
      have : p = [] := by
        have := congrArg List.length e
        simp at this
        exact List.eq_nil_of_length_eq_zero (by omega)
      subst this
      show add2 c (0, 0) ∈ [c]
      rw [add2_zr]; exact .head _
  | v :: q, c, d => by
    constructor
    · intro h
      rcases List.mem_cons.mp h with e | h
      · exact ⟨[], v :: q, rfl, by rw [e]; exact (add2_zr c).symm⟩
      · obtain ⟨p, r, e1, e2⟩ := corners2_mem.mp h
        exact ⟨v :: p, r, by rw [e1]; rfl, by rw [e2]; exact add2_assoc _ _ _⟩
    · rintro ⟨p, r, e, rfl⟩
      cases p with
      | nil =>
        show add2 c (0, 0) ∈ c :: _
        rw [add2_zr]; exact .head _
      | cons u p =>
        cases e
        refine .tail _ (corners2_mem.mpr ⟨p, r, rfl, ?_⟩)
        exact (add2_assoc _ _ _).symm
theorem corners2_get : ∀ (q : List C2) (c : C2) (j : Nat), j ≤ q.length → (corners2 c q)[j]? = some (add2 c (vsum (q.take j)))
  | [], c, j, h => by
    have : j = 0 := by simpa using h
    subst this
    show some c = some (add2 c (0, 0))
    rw [add2_zr]
  | v :: q, c, 0, h => by
    show some c = some (add2 c (0, 0))
    rw [add2_zr]
  | v :: q, c, j + 1, h => by
    show (c :: corners2 (add2 c v) q)[j + 1]? = some (add2 c (vsum (v :: q.take j)))
    rw [List.getElem?_cons_succ, corners2_get q _ j (by simpa using h)]
    show some (add2 (add2 c v) _) = some (add2 c (add2 v _))
    rw [add2_assoc]

noncomputable def X (t : C2) (q : List S3) : Int := lsum (fun s => cw2 s.2 t) q
theorem X_vs (t : C2) (q : List S3) : cw2 (vsum (vs q)) t = X t q := by rw [cw2_vsum, lsum_map]; rfl
theorem X_app (t : C2) (p q : List S3) : X t (p ++ q) = X t p + X t q := lsum_append _ _ _
theorem vs_app (p q : List S3) : vs (p ++ q) = vs p ++ vs q := List.map_append

/-- keys lie within a turn, and tell how sides stand -/
structure Fit (r t : List S3) : Prop where
  kr : ∀ s ∈ r, 0 ≤ s.1 ∧ s.1 < 166320
  kt : ∀ s ∈ t, 0 ≤ s.1 ∧ s.1 < 166320
  st : ∀ s ∈ r, ∀ u ∈ t, Sgn s.2 u.2 s.1 u.1
  ts : ∀ s ∈ r, ∀ u ∈ t, Sgn u.2 s.2 u.1 s.1
theorem Fit.symm {r t : List S3} (h : Fit r t) : Fit t r := ⟨h.kt, h.kr, fun s hs u hu => h.ts u hu s hs, fun s hs u hu => h.st u hu s hs⟩

theorem term_sgn {s t : S3} (h : Sgn s.2 t.2 s.1 t.1) (h' : Sgn t.2 s.2 t.1 s.1) :
    (s.1 ≤ t.1 → t.1 - s.1 ≤ 83160 → 0 ≤ cw2 s.2 t.2) ∧ (83160 ≤ t.1 - s.1 → cw2 s.2 t.2 ≤ 0) ∧ (t.1 ≤ s.1 → s.1 - t.1 ≤ 83160 → cw2 s.2 t.2 ≤ 0) ∧ (83160 ≤ s.1 - t.1 → 0 ≤ cw2 s.2 t.2) := by
  have a := cw2_anti s.2 t.2
  have half : ∀ {x y : C2} {k j : Int}, Sgn x y k j → (k ≤ j → j - k ≤ 83160 → 0 ≤ cw2 x y) ∧ (83160 ≤ j - k → cw2 x y ≤ 0) := by
    intro x y k j q
    constructor
    · intro h1 h2
      rcases Int.lt_or_eq_of_le h1 with h1 | h1
      · rcases Int.lt_or_eq_of_le h2 with h2 | h2
        · exact Int.le_of_lt (q.p h1 h2)
        · exact Int.le_of_eq (q.h h2).symm
      · exact Int.le_of_eq (q.z h1).symm
    · intro h1
      rcases Int.lt_or_eq_of_le h1 with h1 | h1
      · exact Int.le_of_lt (q.n h1)
      · exact Int.le_of_eq (q.h h1.symm)
  have b := half h'
  rw [a] at b
  exact ⟨(half h).1, (half h).2, fun h1 h2 => Int.nonpos_of_neg_nonneg (b.1 h1 h2), fun h1 => Int.nonneg_of_neg_nonpos (b.2 h1)⟩

section
variable {A B : List S3} {t : S3}
theorem suffix_nonneg {p q : List S3} (he : A = p ++ q) (ho : Ord (A ++ B)) (hA : ∀ s ∈ A, s.1 ≤ t.1) (hB : ∀ s ∈ B, t.1 ≤ s.1) (F : Fit (A ++ B) [t]) (h0 : X t.2 (A ++ B) = 0) : 0 ≤ X t.2 q := by
  subst he
  have sg : ∀ s ∈ (p ++ q) ++ B, _ := fun s hs => term_sgn (F.st s hs t (.head _)) (F.ts s hs t (.head _))
  have kt := F.kt t (.head _)
  cases q with
  | nil => exact Int.le_refl _
  | cons s q =>
    have hs1 := hA s (by simp)
    by_cases h : t.1 - s.1 ≤ 83160
    · have : lsum (fun _ => 0) (s :: q) ≤ X t.2 (s :: q) := by
        refine lsum_le fun u hu => ?_
        have hua := hA u (List.mem_append_right _ hu)
        have hsu : s.1 ≤ u.1 := by
          rcases List.mem_cons.mp hu with rfl | hu
          · exact Int.le_refl _
          · have h1 := (List.pairwise_append.mp (List.pairwise_append.mp ho).1).2.1
            exact (List.pairwise_cons.mp h1).1 u hu
        exact (sg u (by simp only [List.mem_append]; exact .inl (.inr hu))).1 hua (by omega)
      rw [lsum_zero] at this; exact this
    · have hp : X t.2 p ≤ lsum (fun _ => 0) p := by
        refine lsum_le fun u hu => ?_
        have hus : u.1 ≤ s.1 := (List.pairwise_append.mp (List.pairwise_append.mp ho).1).2.2 u hu s (.head _)
        exact (sg u (by simp only [List.mem_append]; exact .inl (.inl hu))).2.1 (by omega)
      have hb : X t.2 B ≤ lsum (fun _ => 0) B := by
        refine lsum_le fun u hu => ?_
        have hm : u ∈ (p ++ s :: q) ++ B := List.mem_append_right _ hu
        have := F.kr u hm
        have hs0 := F.kr s (by simp)
        exact (sg u hm).2.2.1 (hB u hu) (by omega)
      rw [lsum_zero] at hp hb
      rw [X_app, X_app] at h0
      omega
theorem prefix_nonpos {p q : List S3} (he : B = p ++ q) (ho : Ord (A ++ B)) (hA : ∀ s ∈ A, s.1 ≤ t.1) (hB : ∀ s ∈ B, t.1 ≤ s.1) (F : Fit (A ++ B) [t]) (h0 : X t.2 (A ++ B) = 0) : X t.2 p ≤ 0 := by
  subst he
  have sg : ∀ s ∈ A ++ (p ++ q), _ := fun s hs => term_sgn (F.st s hs t (.head _)) (F.ts s hs t (.head _))
  have kt := F.kt t (.head _)
  by_cases hall : ∀ s ∈ p, s.1 - t.1 ≤ 83160
  · have : X t.2 p ≤ lsum (fun _ => 0) p := by
      refine lsum_le fun u hu => ?_
      exact (sg u (by simp only [List.mem_append]; exact .inr (.inl hu))).2.2.1 (hB u (by simp [hu])) (hall u hu)
    rw [lsum_zero] at this; exact this
  · have ⟨s, hs⟩ := Classical.not_forall.mp hall
    obtain ⟨hs, hgt⟩ := Classical.not_imp.mp hs
    have hs0 := F.kr s (by simp [hs])
    have hq : lsum (fun _ => 0) q ≤ X t.2 q := by
      refine lsum_le fun u hu => ?_
      have hsu : s.1 ≤ u.1 := (List.pairwise_append.mp (List.pairwise_append.mp ho).2.1).2.2 s hs u hu
      exact (sg u (by simp only [List.mem_append]; exact .inr (.inr hu))).2.2.2 (by omega)
    have ha : lsum (fun _ => 0) A ≤ X t.2 A := by
      refine lsum_le fun u hu => ?_
      have hm : u ∈ A ++ (p ++ q) := List.mem_append_left _ hu
      have := F.kr u hm
      exact (sg u hm).1 (hA u hu) (by omega)
    rw [lsum_zero] at hq ha
    rw [X_app, X_app] at h0
    omega
end

theorem take_drop {row : List S3} {n : Nat} {Q : S3 → Prop} (h : ∀ i s, row[i]? = some s → (Q s ↔ i < n)) : (∀ s ∈ row.take n, Q s) ∧ ∀ s ∈ row.drop n, ¬ Q s := by
  constructor
  · intro s hs
    obtain ⟨i, hi, rfl⟩ := List.getElem_of_mem hs
    rw [List.getElem_take]
    rw [List.length_take] at hi
    exact (h i _ (List.getElem?_eq_getElem (Nat.lt_of_lt_of_le hi (Nat.min_le_right _ _)))).mpr (Nat.lt_of_lt_of_le hi (Nat.min_le_left _ _))
  · intro s hs q
    obtain ⟨i, hi, rfl⟩ := List.getElem_of_mem hs
    rw [List.getElem_drop] at q
    rw [List.length_drop] at hi
    exact absurd ((h (n + i) _ (List.getElem?_eq_getElem (Nat.add_lt_of_lt_sub' hi))).mp q) (Nat.not_lt.mpr (Nat.le_add_right n i))
theorem take_place {row : List S3} (ho : Ord row) (b : Bool) (t : S3) : (∀ s ∈ row.take (placeOf row b t), s.1 ≤ t.1 ∧ (b = false → s.1 < t.1)) ∧ (∀ s ∈ row.drop (placeOf row b t), t.1 ≤ s.1 ∧ (b = true → t.1 < s.1)) := by
  cases b with
  | true =>
    obtain ⟨h1, h2⟩ := take_drop (n := placeOf row true t) (Q := fun s => s.1 ≤ t.1) fun i s h => cntR_lt ho h
    exact ⟨fun s hs => ⟨h1 s hs, fun h => Bool.noConfusion h⟩, fun s hs => ⟨Int.le_of_lt (Int.not_le.mp (h2 s hs)), fun _ => Int.not_le.mp (h2 s hs)⟩⟩
  | false =>
    obtain ⟨h1, h2⟩ := take_drop (n := placeOf row false t) (Q := fun s => s.1 < t.1) fun i s h => cntL_lt ho h
    exact ⟨fun s hs => ⟨Int.le_of_lt (h1 s hs), fun _ => h1 s hs⟩, fun s hs => ⟨Int.not_lt.mp (h2 s hs), fun h => Bool.noConfusion h⟩⟩

theorem told_X (row : List S3) (b : Bool) (t : S3) : toldOf row b t = X t.2 (row.take (placeOf row b t)) := by
  unfold toldOf
  have hp := placeOf_le row b t
  have := corners2_get (vs row) (0, 0) (placeOf row b t) (by rw [List.length_map]; exact hp)
  rw [corners_vs, List.getD_eq_getElem?_getD, this, cw_cw2, add2_zl]
  show cw2 (vsum ((vs row).take _)) t.2 = _
  rw [← List.map_take, X_vs]
theorem told_max {row : List S3} (ho : Ord row) (b : Bool) {t : S3} (F : Fit row [t]) (h0 : X t.2 row = 0) {p r : List S3} (he : row = p ++ r) : X t.2 p ≤ toldOf row b t := by
  rw [told_X]
  obtain ⟨h1, h2⟩ := take_place ho b t
  have hsp : row.take (placeOf row b t) ++ row.drop (placeOf row b t) = row := List.take_append_drop _ _
  generalize row.take (placeOf row b t) = A at *
  generalize row.drop (placeOf row b t) = B at *
  have e2 : A ++ B = p ++ r := hsp.trans he
  rw [← hsp] at ho F h0
  rcases List.append_eq_append_iff.mp e2 with ⟨q, hq, hq'⟩ | ⟨q, hq, hq'⟩
  · rw [hq, X_app]
    have := prefix_nonpos hq' ho (fun s hs => (h1 s hs).1) (fun s hs => (h2 s hs).1) F h0
    omega
  · have := suffix_nonneg hq ho (fun s hs => (h1 s hs).1) (fun s hs => (h2 s hs).1) F h0
    rw [hq, X_app]; omega
/-- the most that a corner of a closed row in order makes with a side is what is told -/
theorem most_told {row : List S3} (ho : Ord row) (b : Bool) {t : S3} (F : Fit row [t]) (h0 : X t.2 row = 0) : mostOf row t = toldOf row b t := by
  unfold mostOf
  refine maxI_eq ?_ ?_
  · rw [told_X]
    refine List.mem_map.mpr ⟨vsum (vs (row.take (placeOf row b t))), ?_, ?_⟩
    · rw [corners_vs]
      exact corners2_mem.mpr ⟨vs (row.take (placeOf row b t)), vs (row.drop (placeOf row b t)), by rw [← vs_app, List.take_append_drop], (add2_zl _).symm⟩
    · show cw2 _ t.2 = _
      exact X_vs _ _
  · intro y hy
    obtain ⟨c, hc, rfl⟩ := List.mem_map.mp hy
    rw [corners_vs] at hc
    obtain ⟨p, r, e, rfl⟩ := corners2_mem.mp hc
    rw [add2_zl, cw_cw2]
    obtain ⟨p', r', he, hp, hr⟩ := List.map_eq_append_iff.mp e
    rw [← hp]
    show cw2 (vsum (vs p')) t.2 ≤ _
    rw [X_vs]
    exact told_max ho b F h0 he
theorem told_ind {row : List S3} (ho : Ord row) (t : S3) : toldOf row false t = lsum (fun s => if s.1 < t.1 then cw2 s.2 t.2 else 0) row ∧ toldOf row true t = lsum (fun s => if s.1 ≤ t.1 then cw2 s.2 t.2 else 0) row := by
  constructor
  · rw [told_X]
    obtain ⟨h1, h2⟩ := take_place ho false t
    have hsp : row.take (placeOf row false t) ++ row.drop (placeOf row false t) = row := List.take_append_drop _ _
    generalize row.take (placeOf row false t) = A at *
    generalize row.drop (placeOf row false t) = B at *
    rw [← hsp, lsum_append]
    rw [lsum_congr (l := A) (g := fun s => cw2 s.2 t.2) fun s hs => if_pos ((h1 s hs).2 rfl), lsum_congr (l := B) (g := fun _ => 0) fun s hs => if_neg (by have := (h2 s hs).1; omega), lsum_zero]
    unfold X; omega
  · rw [told_X]
    obtain ⟨h1, h2⟩ := take_place ho true t
    have hsp : row.take (placeOf row true t) ++ row.drop (placeOf row true t) = row := List.take_append_drop _ _
    generalize row.take (placeOf row true t) = A at *
    generalize row.drop (placeOf row true t) = B at *
    rw [← hsp, lsum_append]
    rw [lsum_congr (l := A) (g := fun s => cw2 s.2 t.2) fun s hs => if_pos (h1 s hs).1, lsum_congr (l := B) (g := fun _ => 0) fun s hs => if_neg (by have := (h2 s hs).2 rfl; omega), lsum_zero]
    unfold X; omega

section
variable {S T : List S3}
theorem X_zero (h : vsum (vs S) = (0, 0)) (t : C2) : X t S = 0 := by rw [← X_vs, h, cw2_zl]
theorem Fit.one (F : Fit S T) {t : S3} (h : t ∈ T) : Fit S [t] := ⟨F.kr, fun s hs => by rw [List.mem_singleton.mp hs]; exact F.kt t h, fun s hs u hu => by rw [List.mem_singleton.mp hu]; exact F.st s hs t h, fun s hs u hu => by rw [List.mem_singleton.mp hu]; exact F.ts s hs t h⟩
theorem mix_told (ho : Ord S) (F : Fit S T) (h0 : vsum (vs S) = (0, 0)) (b : Bool) : mixOf S T b = lsum (toldOf S b) T := by
  unfold mixOf
  have : T.map (toldOf S b) = T.map (mostOf S) := List.map_congr_left fun t ht => (most_told ho b (F.one ht) (X_zero h0 _)).symm
  rw [if_pos this, lsum_eq]
/-- the mixed room, told from either rim -/
theorem V_symm (hS : Ord S) (hT : Ord T) (h0T : vsum (vs T) = (0, 0)) : lsum (toldOf S false) T = lsum (toldOf T true) S := by
  rw [lsum_congr (g := fun t => lsum (fun s => if s.1 < t.1 then cw2 s.2 t.2 else 0) S) fun t _ => (told_ind hS t).1]
  rw [lsum_congr (l := S) (g := fun s => lsum (fun t => if t.1 ≤ s.1 then cw2 t.2 s.2 else 0) T) fun s _ => (told_ind hT s).2]
  rw [lsum_swap]
  have key : ∀ s : S3, lsum (fun t : S3 => if s.1 < t.1 then cw2 s.2 t.2 else 0) T = lsum (fun t : S3 => if t.1 ≤ s.1 then cw2 t.2 s.2 else 0) T := by
    intro s
    have e : lsum (fun t : S3 => cw2 s.2 t.2) T = 0 := by
      have := cw2_vsumr s.2 (vs T)
      rw [h0T, cw2_zr, lsum_map] at this
      exact this.symm
    have e2 : lsum (fun t : S3 => cw2 s.2 t.2) T = lsum (fun t : S3 => (if s.1 < t.1 then cw2 s.2 t.2 else 0) + (- (if t.1 ≤ s.1 then cw2 t.2 s.2 else 0))) T := by
      refine lsum_congr fun t _ => ?_
      have := cw2_anti s.2 t.2
      by_cases h : s.1 < t.1
      · rw [if_pos h, if_neg (by omega)]; omega
      · rw [if_neg h, if_pos (by omega)]; omega
    rw [lsum_add, lsum_neg] at e2
    omega
  exact lsum_congr fun s _ => key s
theorem kap_sum (hS : Ord S) (hT : Ord T) (F : Fit S T) : lsum (fun s => lsum (kap s) T) S = lsum (toldOf S false) T + lsum (toldOf T true) S := by
  rw [lsum_congr (l := T) (g := fun t => lsum (fun s => if s.1 < t.1 then cw2 s.2 t.2 else 0) S) fun t _ => (told_ind hS t).1]
  rw [lsum_congr (l := S) (f := toldOf T true) (g := fun s => lsum (fun t => if t.1 ≤ s.1 then cw2 t.2 s.2 else 0) T) fun s _ => (told_ind hT s).2]
  rw [lsum_swap (fun (t s : S3) => if s.1 < t.1 then cw2 s.2 t.2 else 0), ← lsum_add]
  refine lsum_congr fun s hs => ?_
  rw [← lsum_add]
  refine lsum_congr fun t ht => ?_
  have hz := (F.ts s hs t ht).z
  unfold kap
  by_cases h : s.1 < t.1
  · rw [if_pos h, if_pos h, if_neg (show ¬ t.1 ≤ s.1 by omega)]; omega
  · rw [if_neg h, if_neg h, if_pos (show t.1 ≤ s.1 by omega)]
    by_cases h2 : t.1 < s.1
    · rw [if_pos h2]; omega
    · rw [if_neg h2, hz (by omega)]; rfl
theorem join_room (hS : Ord S) (hT : Ord T) (F : Fit (S ++ T) (S ++ T)) : roomOf (joinOf S T) = roomOf S + roomOf T + (lsum (toldOf S false) T + lsum (toldOf T true) S) := by
  have hJ : (joinOf S T).Perm (S ++ T) := foldl_ins_perm (S ++ T) []
  have hJo : Ord (joinOf S T) := foldl_ins_ord _ _ List.Pairwise.nil
  rw [roomOf_eq, roomOf_eq, roomOf_eq]
  rw [pr_pairs hJo fun s hs u hu => F.st s (hJ.subset hs) u (hJ.subset hu)]
  rw [pr_pairs hS fun s hs u hu => F.st s (List.mem_append_left _ hs) u (List.mem_append_left _ hu)]
  rw [pr_pairs hT fun s hs u hu => F.st s (List.mem_append_right _ hs) u (List.mem_append_right _ hu)]
  rw [pairs_perm hJ, pairs_append]
  rw [kap_sum hS hT ⟨fun s hs => F.kr s (List.mem_append_left _ hs), fun s hs => F.kr s (List.mem_append_right _ hs), fun s hs u hu => F.st s (List.mem_append_left _ hs) u (List.mem_append_right _ hu), fun s hs u hu => F.st u (List.mem_append_right _ hu) s (List.mem_append_left _ hs)⟩]
end
end Mine
end

section
open PySem
namespace Mine

/-! ### four sides in order: numbers alone -/
structure Sg (k j c : Int) : Prop where
  z : k = j → c = 0
  p : k < j → j - k < 83160 → 0 < c
  h : j - k = 83160 → c = 0
  n : 83160 < j - k → c < 0
theorem Sg.tri {k j c : Int} (s : Sg k j c) (h : k ≤ j) : (j - k < 83160 ∧ 0 ≤ c) ∨ (j - k = 83160 ∧ c = 0) ∨ (83160 < j - k ∧ c < 0) := by
  rcases Int.lt_trichotomy (j - k) 83160 with a | a | a
  · refine .inl ⟨a, ?_⟩
    rcases Int.lt_or_eq_of_le h with h | h
    · exact Int.le_of_lt (s.p h a)
    · exact Int.le_of_eq (s.z h).symm
  · exact .inr (.inl ⟨a, s.h a⟩)
  · exact .inr (.inr ⟨a, s.n a⟩)
theorem Sg.zero {k j c : Int} (s : Sg k j c) (h : k ≤ j) (hc : c = 0) : k = j ∨ j - k = 83160 := by
  rcases Int.lt_trichotomy (j - k) 83160 with a | a | a
  · rcases Int.lt_or_eq_of_le h with h | h
    · exact absurd hc (Int.ne_of_gt (s.p h a))
    · exact .inl h
  · exact .inr a
  · exact absurd hc (Int.ne_of_lt (s.n a))

section
variable {k1 k2 k3 k4 c12 c13 c14 c23 c24 c34 : Int}
noncomputable def Pat4 (k1 k2 k3 k4 : Int) : Prop := (k1 = k2 ∧ k2 = k3 ∧ k3 = k4) ∨ (k2 = k1 + 83160 ∧ k3 = k2 ∧ k4 = k2) ∨ (k2 = k1 ∧ k3 = k1 + 83160 ∧ k4 = k3) ∨ (k2 = k1 ∧ k3 = k1 ∧ k4 = k1 + 83160)
structure Four (k1 k2 k3 k4 c12 c13 c14 c23 c24 c34 : Int) : Prop where
  o1 : 0 ≤ k1
  o12 : k1 ≤ k2
  o23 : k2 ≤ k3
  o34 : k3 ≤ k4
  o4 : k4 < 166320
  s12 : Sg k1 k2 c12
  s13 : Sg k1 k3 c13
  s14 : Sg k1 k4 c14
  s23 : Sg k2 k3 c23
  s24 : Sg k2 k4 c24
  s34 : Sg k3 k4 c34
  e1 : c12 + c13 + c14 = 0
  e2 : -c12 + c23 + c24 = 0
  e3 : -c13 - c23 + c34 = 0
  e4 : -c14 - c24 - c34 = 0
theorem Sg.neg_iff {k j c : Int} (s : Sg k j c) (h : k ≤ j) : c < 0 ↔ 83160 < j - k := by
  rcases s.tri h with ⟨a, b⟩ | ⟨a, b⟩ | ⟨a, b⟩
  · exact ⟨fun x => absurd b (Int.not_le.mpr x), fun x => absurd a (Int.not_lt.mpr (Int.le_of_lt x))⟩
  · exact ⟨fun x => absurd b (Int.ne_of_lt x), fun x => absurd a.symm (Int.ne_of_lt x)⟩
  · exact ⟨fun _ => a, fun _ => b⟩
theorem Sg.nonpos {k j c : Int} (s : Sg k j c) (h : k ≤ j) (h' : 83160 ≤ j - k) : c ≤ 0 := by
  rcases s.tri h with ⟨a, b⟩ | ⟨a, b⟩ | ⟨a, b⟩
  · exact absurd a (Int.not_lt.mpr h')
  · exact Int.le_of_eq b
  · exact Int.le_of_lt b
theorem Sg.nonneg {k j c : Int} (s : Sg k j c) (h : k ≤ j) (h' : j - k ≤ 83160) : 0 ≤ c := Int.not_lt.mp fun x => Int.not_lt.mpr h' ((s.neg_iff h).mp x)
theorem sum3 {a b c : Int} (e : a + b + c = 0) (h1 : a < 0) (h2 : b ≤ 0) (h3 : c ≤ 0) : False := by omega
theorem gap_mono {a b c : Int} (h : 83160 < b - a) (h' : b ≤ c) : 83160 < c - a := by omega
theorem gap_mono' {a b c : Int} (h : 83160 < c - b) (h' : a ≤ b) : 83160 < c - a := by omega
theorem Four.adj (F : Four k1 k2 k3 k4 c12 c13 c14 c23 c24 c34) : 0 ≤ c12 ∧ 0 ≤ c23 ∧ 0 ≤ c34 ∧ c14 ≤ 0 := by
  have o13 := Int.le_trans F.o12 F.o23
  have o24 := Int.le_trans F.o23 F.o34
  have o14 := Int.le_trans F.o12 o24
  refine ⟨Int.not_lt.mp fun h => ?_, Int.not_lt.mp fun h => ?_, Int.not_lt.mp fun h => ?_, Int.not_lt.mp fun h => ?_⟩
  · have g := (F.s12.neg_iff F.o12).mp h
    exact sum3 F.e1 h (Int.le_of_lt ((F.s13.neg_iff o13).mpr (gap_mono g F.o23))) (Int.le_of_lt ((F.s14.neg_iff o14).mpr (gap_mono g o24)))
  · have g := (F.s23.neg_iff F.o23).mp h
    have h13 := (F.s13.neg_iff o13).mpr (gap_mono' g F.o12)
    have h34 : c34 < 0 := by
      have := F.e3
      clear g
      omega
    have g' := (F.s34.neg_iff F.o34).mp h34
    have a := F.o1
    have b := F.o12
    have c := F.o4
    clear h h13 h34 o13 o24 o14 F
    omega
  · have g := (F.s34.neg_iff F.o34).mp h
    have h1 := (F.s14.neg_iff o14).mpr (gap_mono' g o13)
    have h2 := (F.s24.neg_iff o24).mpr (gap_mono' g F.o23)
    have := F.e4
    clear g o13 o24 o14 F
    omega
  · have g : k4 - k1 ≤ 83160 := Int.not_lt.mp fun g => Int.not_lt.mpr (Int.le_of_lt h) ((F.s14.neg_iff o14).mpr g)
    have h1 := F.s24.nonneg o24 (Int.le_trans (Int.sub_le_sub_left F.o12 k4) g)
    have h2 := F.s34.nonneg F.o34 (Int.le_trans (Int.sub_le_sub_left o13 k4) g)
    have := F.e4
    clear g o13 o24 o14 F
    omega
theorem Four.nonneg (F : Four k1 k2 k3 k4 c12 c13 c14 c23 c24 c34) : 0 ≤ c12 + c13 + c14 + c23 + c24 + c34 := by
  obtain ⟨a, b, c, d⟩ := F.adj
  have h1 := F.e1
  have h2 := F.e2
  clear F
  omega
theorem pat_of {k1 k2 k3 k4 : Int} (h1 : k1 ≤ k2) (h2 : k2 ≤ k3) (h3 : k3 ≤ k4) (a : k2 = k1 ∨ k2 = k1 + 83160) (b : k3 = k1 ∨ k3 = k1 + 83160) (c : k4 = k1 ∨ k4 = k1 + 83160) : Pat4 k1 k2 k3 k4 := by
  rcases a with a | a
  · rcases b with b | b
    · rcases c with c | c
      · exact .inl ⟨a.symm, a.trans b.symm, b.trans c.symm⟩
      · exact .inr (.inr (.inr ⟨a, b, c⟩))
    · rcases c with c | c
      · exact absurd (b ▸ c ▸ h3) (by omega)
      · exact .inr (.inr (.inl ⟨a, b, c.trans b.symm⟩))
  · rcases b with b | b
    · exact absurd (a ▸ b ▸ h2) (by omega)
    · rcases c with c | c
      · exact absurd (b ▸ c ▸ h3) (by omega)
      · exact .inr (.inl ⟨a, b.trans a.symm, c.trans a.symm⟩)
theorem alt {a b : Int} (h : a = b ∨ b - a = 83160) : b = a ∨ b = a + 83160 := h.elim (fun e => .inl e.symm) fun e => .inr (by omega)
theorem Four.pat (F : Four k1 k2 k3 k4 c12 c13 c14 c23 c24 c34) (h1 : c12 = 0) (h2 : c13 = 0) (h3 : c14 = 0) : Pat4 k1 k2 k3 k4 :=
  have o13 := Int.le_trans F.o12 F.o23
  have o14 := Int.le_trans o13 F.o34
  pat_of F.o12 F.o23 F.o34 (alt (F.s12.zero F.o12 h1)) (alt (F.s13.zero o13 h2)) (alt (F.s14.zero o14 h3))
theorem zero2 {a b : Int} (e : a + b = 0) (h1 : a ≤ 0) (h2 : b ≤ 0) : a = 0 ∧ b = 0 := by omega
theorem Four.z12 (F : Four k1 k2 k3 k4 c12 c13 c14 c23 c24 c34) (h : c12 = 0) : k1 = k2 ∨ Pat4 k1 k2 k3 k4 := by
  rcases F.s12.zero F.o12 h with e | e
  · exact .inl e
  · refine .inr ?_
    have o13 := Int.le_trans F.o12 F.o23
    have n13 := F.s13.nonpos o13 (Int.le_trans (Int.le_of_eq e.symm) (Int.sub_le_sub_right F.o23 k1))
    have e1 := F.e1
    rw [h, Int.zero_add] at e1
    obtain ⟨z3, z4⟩ := zero2 e1 n13 F.adj.2.2.2
    exact F.pat h z3 z4
theorem Four.z14 (F : Four k1 k2 k3 k4 c12 c13 c14 c23 c24 c34) (h : c14 = 0) : Pat4 k1 k2 k3 k4 := by
  have o13 := Int.le_trans F.o12 F.o23
  have o14 := Int.le_trans o13 F.o34
  have g : k4 - k1 ≤ 83160 := Int.not_lt.mp fun g => absurd h (Int.ne_of_lt ((F.s14.neg_iff o14).mpr g))
  have n13 := F.s13.nonneg o13 (Int.le_trans (Int.sub_le_sub_right F.o34 k1) g)
  have n12 := F.adj.1
  have e1 := F.e1
  have : c12 = 0 ∧ c13 = 0 := by
    clear g F o13 o14
    omega
  exact F.pat this.1 this.2 h
theorem Four.z23 (F : Four k1 k2 k3 k4 c12 c13 c14 c23 c24 c34) (h : c23 = 0) : k2 = k3 ∨ Pat4 k1 k2 k3 k4 := by
  rcases F.s23.zero F.o23 h with e | e
  · exact .inl e
  · refine .inr ?_
    obtain ⟨a, b, c, d⟩ := F.adj
    have o13 := Int.le_trans F.o12 F.o23
    have o24 := Int.le_trans F.o23 F.o34
    have z13 := F.s13.nonpos o13 (Int.le_trans (Int.le_of_eq e.symm) (Int.sub_le_sub_left F.o12 k3))
    have z24 := F.s24.nonpos o24 (Int.le_trans (Int.le_of_eq e.symm) (Int.sub_le_sub_right F.o34 k2))
    have e1 := F.e1
    have e2 := F.e2
    have e3 := F.e3
    have : c12 = 0 ∧ c13 = 0 ∧ c14 = 0 := by
      clear e F o13 o24
      omega
    exact F.pat this.1 this.2.1 this.2.2
theorem Four.z34 (F : Four k1 k2 k3 k4 c12 c13 c14 c23 c24 c34) (h : c34 = 0) : k3 = k4 ∨ Pat4 k1 k2 k3 k4 := by
  rcases F.s34.zero F.o34 h with e | e
  · exact .inl e
  · refine .inr ?_
    have o24 := Int.le_trans F.o23 F.o34
    have n24 := F.s24.nonpos o24 (Int.le_trans (Int.le_of_eq e.symm) (Int.sub_le_sub_left F.o23 k4))
    have n14 := F.adj.2.2.2
    have e4 := F.e4
    have : c14 = 0 := by
      clear e F o24
      omega
    exact F.z14 this
theorem Four.zE (F : Four k1 k2 k3 k4 c12 c13 c14 c23 c24 c34) (h : c12 + c13 + c14 + c23 + c24 + c34 = 0) : Pat4 k1 k2 k3 k4 := by
  obtain ⟨a, b, c, d⟩ := F.adj
  have e1 := F.e1
  have e2 := F.e2
  have e3 := F.e3
  have e4 := F.e4
  have : c12 = 0 ∧ c13 = 0 ∧ c14 = 0 := by
    clear F
    omega
  exact F.pat this.1 this.2.1 this.2.2
end

/-! ### three sides in order -/
section
variable {k1 k2 k3 c12 c13 c23 : Int}
structure Three (k1 k2 k3 c12 c13 c23 : Int) : Prop where
  o1 : 0 ≤ k1
  o12 : k1 ≤ k2
  o23 : k2 ≤ k3
  o3 : k3 < 166320
  s12 : Sg k1 k2 c12
  s13 : Sg k1 k3 c13
  s23 : Sg k2 k3 c23
  e1 : c12 + c13 = 0
  e2 : -c12 + c23 = 0
  e3 : -c13 - c23 = 0
noncomputable def Pat3 (k1 k2 k3 : Int) : Prop := (k1 = k2 ∧ k2 = k3) ∨ (k2 = k1 + 83160 ∧ k3 = k2) ∨ (k2 = k1 ∧ k3 = k1 + 83160)
theorem Three.nonneg (F : Three k1 k2 k3 c12 c13 c23) : 0 ≤ c12 := by
  refine Int.not_lt.mp fun h => ?_
  have g := (F.s12.neg_iff F.o12).mp h
  exact sum3 (by rw [Int.add_zero]; exact F.e1) h (Int.le_of_lt ((F.s13.neg_iff (Int.le_trans F.o12 F.o23)).mpr (gap_mono g F.o23))) (Int.le_refl 0)
theorem Three.pat (F : Three k1 k2 k3 c12 c13 c23) (h : c12 = 0) : Pat3 k1 k2 k3 := by
  have e1 := F.e1
  rw [h, Int.zero_add] at e1
  have o13 := Int.le_trans F.o12 F.o23
  rcases pat_of F.o12 F.o23 (Int.le_refl k3) (alt (F.s12.zero F.o12 h)) (alt (F.s13.zero o13 e1)) (alt (F.s13.zero o13 e1)) with ⟨a, b, _⟩ | ⟨a, b, _⟩ | ⟨a, b, _⟩ | ⟨a, b, c⟩
  · exact .inl ⟨a, b⟩
  · exact .inr (.inl ⟨a, b⟩)
  · exact .inr (.inr ⟨a, b⟩)
  · exact absurd (b ▸ c) (by omega)
end

/-! ### signs against a side -/
theorem same_sign {s u t : S3} (hs : Sgn s.2 t.2 s.1 t.1) (hs' : Sgn t.2 s.2 t.1 s.1) (hu : Sgn u.2 t.2 u.1 t.1) (hu' : Sgn t.2 u.2 t.1 u.1) (e : s.1 = u.1) :
    (0 ≤ cw2 s.2 t.2 ∧ 0 ≤ cw2 u.2 t.2) ∨ (cw2 s.2 t.2 ≤ 0 ∧ cw2 u.2 t.2 ≤ 0) := by
  obtain ⟨a1, a2, a3, a4⟩ := term_sgn hs hs'
  obtain ⟨b1, b2, b3, b4⟩ := term_sgn hu hu'
  rw [← e] at b1 b2 b3 b4
  rcases Int.le_total s.1 t.1 with h | h
  · rcases Int.le_total (t.1 - s.1) 83160 with h' | h'
    · exact .inl ⟨a1 h h', b1 h h'⟩
    · exact .inr ⟨a2 h', b2 h'⟩
  · rcases Int.le_total (s.1 - t.1) 83160 with h' | h'
    · exact .inr ⟨a3 h h', b3 h h'⟩
    · exact .inl ⟨a4 h', b4 h'⟩
theorem opp_sign {s u t : S3} (hs : Sgn s.2 t.2 s.1 t.1) (hs' : Sgn t.2 s.2 t.1 s.1) (hu : Sgn u.2 t.2 u.1 t.1) (hu' : Sgn t.2 u.2 t.1 u.1) (e : u.1 = s.1 + 83160) (h0 : 0 ≤ s.1) (h1 : u.1 < 166320) (t0 : 0 ≤ t.1) (t1 : t.1 < 166320) :
    (0 ≤ cw2 s.2 t.2 ∧ cw2 u.2 t.2 ≤ 0) ∨ (cw2 s.2 t.2 ≤ 0 ∧ 0 ≤ cw2 u.2 t.2) := by
  obtain ⟨a1, a2, a3, a4⟩ := term_sgn hs hs'
  obtain ⟨b1, b2, b3, b4⟩ := term_sgn hu hu'
  clear hs hs' hu hu'
  generalize cw2 s.2 t.2 = x at *
  generalize cw2 u.2 t.2 = y at *
  generalize s.1 = k at *
  generalize u.1 = j at *
  generalize t.1 = i at *
  subst e
  rcases Int.le_total k i with h | h
  · rcases Int.le_total i (k + 83160) with h' | h'
    · exact .inl ⟨a1 h (by clear a1 a2 a3 a4 b1 b2 b3 b4; omega), b3 h' (by clear a1 a2 a3 a4 b1 b2 b3 b4; omega)⟩
    · exact .inr ⟨a2 (by clear a1 a2 a3 a4 b1 b2 b3 b4; omega), b1 h' (by clear a1 a2 a3 a4 b1 b2 b3 b4; omega)⟩
  · exact .inr ⟨a3 h (by clear a1 a2 a3 a4 b1 b2 b3 b4; omega), b4 (by clear a1 a2 a3 a4 b1 b2 b3 b4; omega)⟩
end Mine
end

section
open PySem
namespace Mine

/-! ### the mixed room of any order of sides -/
noncomputable def mx (q : List C2) (t : C2) : Int := maxI ((corners2 (0, 0) q).map (cw2 · t))
noncomputable def Wc (q : List C2) (T : List C2) : Int := lsum (mx q) T
theorem mx_ge {q p r : List C2} (e : q = p ++ r) (t : C2) : cw2 (vsum p) t ≤ mx q t := by
  refine le_maxI (List.mem_map.mpr ⟨vsum p, corners2_mem.mpr ⟨p, r, e, (add2_zl _).symm⟩, rfl⟩)
theorem corners2_ne (q : List C2) (c : C2) : corners2 c q ≠ [] := by
  intro h
  have := congrArg List.length h
  rw [corners2_length] at this
  simp at this
theorem mx_mem (q : List C2) (t : C2) : ∃ p r, q = p ++ r ∧ mx q t = cw2 (vsum p) t := by
  have h := maxI_mem (xs := (corners2 (0, 0) q).map (cw2 · t)) (by simp [corners2_ne])
  obtain ⟨c, hc, e⟩ := List.mem_map.mp h
  obtain ⟨p, r, e1, e2⟩ := corners2_mem.mp hc
  refine ⟨p, r, e1, ?_⟩
  rw [add2_zl] at e2
  rw [← e2]
  exact e.symm
theorem mx_nonneg (q : List C2) (t : C2) : 0 ≤ mx q t := by
  have := mx_ge (q := q) (p := []) (r := q) rfl t
  have e : cw2 (vsum []) t = 0 := cw2_zl t
  omega
theorem mx_row (S : List S3) (t : S3) : mostOf S t = mx (vs S) t.2 := by
  unfold mostOf mx
  rw [corners_vs]; rfl
theorem Wc_row (S T : List S3) : Wc (vs S) (vs T) = lsum (mostOf S) T := by
  unfold Wc
  rw [lsum_map]
  exact lsum_congr fun t _ => (mx_row S t).symm
theorem mostSum_Wc (q T : List C2) : mostSum (corners2 (0, 0) q) T = Wc q T := by
  unfold mostSum Wc
  rw [lsum_eq]; rfl
theorem lsum_mul {α : Type} (c : Int) (f : α → Int) : ∀ l : List α, lsum (fun x => c * f x) l = c * lsum f l
  | [] => by show 0 = c * 0; omega
  | x :: r => by show c * f x + lsum _ r = c * (f x + lsum f r); rw [lsum_mul c f r, Int.mul_add]

theorem Wc_rot {l m T : List C2} (h : vsum (l ++ m) = (0, 0)) (hT : vsum T = (0, 0)) : Wc (m ++ l) T ≤ Wc (l ++ m) T := by
  have e : Wc (l ++ m) T = lsum (fun t => mx (l ++ m) t + - cw2 (vsum l) t) T := by
    rw [lsum_add, lsum_neg, ← cw2_vsumr, hT, cw2_zr]
    unfold Wc; omega
  rw [e]
  unfold Wc
  refine lsum_le fun t _ => ?_
  obtain ⟨p, r, e1, e2⟩ := mx_mem (m ++ l) t
  rw [e2]
  rw [vsum_append] at h
  have h0 : cw2 (add2 (vsum l) (vsum m)) t = 0 := by rw [h, cw2_zl]
  rw [cw2_addl] at h0
  rcases List.append_eq_append_iff.mp e1 with ⟨x, hx, hx'⟩ | ⟨x, hx, hx'⟩
  · have := mx_ge (q := l ++ m) (p := x) (r := r ++ m) (by rw [hx', List.append_assoc]) t
    rw [hx, vsum_append, cw2_addl]; omega
  · have := mx_ge (q := l ++ m) (p := l ++ p) (r := x) (by rw [hx, List.append_assoc]) t
    rw [vsum_append, cw2_addl] at this; omega

/-! ### sides all along one line -/
theorem par_id {v w t u : C2} (h : cw2 v w = 0) : cw2 w u * cw2 v t = cw2 v u * cw2 w t := by
  unfold cw2 at *
  grind
noncomputable def pos (f : C2 → Int) (q : List C2) : Int := lsum (fun v => max 0 (f v)) q
theorem pos_app (f : C2 → Int) (p q : List C2) : pos f (p ++ q) = pos f p + pos f q := lsum_append _ _ _
theorem pos_nonneg (f : C2 → Int) (q : List C2) : 0 ≤ pos f q := by
  have := lsum_le (f := fun _ => 0) (g := fun v => max 0 (f v)) (l := q) fun v _ => by omega
  rw [lsum_zero] at this; exact this
theorem le_pos (f : C2 → Int) (q : List C2) : lsum f q ≤ pos f q := lsum_le fun v _ => by omega
theorem gap_le {f : C2 → Int} {q pa ra pb rb : List C2} (h0 : lsum f q = 0) (ha : q = pa ++ ra) (hb : q = pb ++ rb) : lsum f pa - lsum f pb ≤ pos f q := by
  have e := ha.symm.trans hb
  rcases List.append_eq_append_iff.mp e with ⟨x, hx, hx'⟩ | ⟨x, hx, hx'⟩
  · have hq : q = pa ++ (x ++ rb) := by rw [ha, hx']
    rw [hq, lsum_append, lsum_append] at h0
    rw [hq, hx, pos_app, pos_app, lsum_append]
    have h1 := le_pos f pa
    have h2 := le_pos f rb
    have h3 := pos_nonneg f x
    omega
  · have hq : q = pb ++ (x ++ ra) := by rw [hb, hx']
    rw [hq, hx, pos_app, pos_app, lsum_append]
    have h1 := le_pos f x
    have h2 := pos_nonneg f pb
    have h3 := pos_nonneg f ra
    omega
theorem par_core {P Q q T : List C2} {w u : C2} (hw : ∀ v ∈ P ++ Q, cw2 v w = 0) (hu : 0 < cw2 w u) (hP : ∀ v ∈ P, 0 ≤ cw2 v u) (hQ : ∀ v ∈ Q, cw2 v u ≤ 0) (hq : q.Perm (P ++ Q))
    (h0 : vsum (P ++ Q) = (0, 0)) (hT : vsum T = (0, 0)) : Wc q T ≤ Wc (P ++ Q) T := by
  have par : ∀ p : List C2, (∀ v ∈ p, cw2 v w = 0) → cw2 (vsum p) w = 0 := by
    intro p hp
    rw [cw2_vsum, lsum_congr (g := fun _ => 0) hp, lsum_zero]
  have hq0 : lsum (fun v => cw2 v u) q = 0 := by
    rw [lsum_perm _ hq, ← cw2_vsum, h0, cw2_zl]
  have hT0 : lsum (fun t => cw2 w t) T = 0 := by rw [← cw2_vsumr, hT, cw2_zr]
  have hpos : pos (fun v => cw2 v u) q = cw2 (vsum P) u := by
    unfold pos
    rw [lsum_perm _ hq, lsum_append, cw2_vsum]
    rw [lsum_congr (l := P) (g := fun v => cw2 v u) fun v hv => by have := hP v hv; show max 0 (cw2 v u) = cw2 v u; omega]
    rw [lsum_congr (l := Q) (g := fun _ => 0) fun v hv => by have := hQ v hv; show max 0 (cw2 v u) = 0; omega, lsum_zero]
    omega
  generalize hH : lsum (fun t => max 0 (cw2 w t)) T = H
  have hH0 : 0 ≤ H := by
    rw [← hH]; exact pos_nonneg (fun t => cw2 w t) T
  generalize hN : cw2 w u = N at *
  -- the lower bound
  have low : cw2 (vsum P) u * H ≤ N * Wc (P ++ Q) T := by
    rw [← hH, ← lsum_mul]
    unfold Wc
    rw [← lsum_mul]
    refine lsum_le fun t _ => ?_
    have i := par_id (v := vsum P) (w := w) (t := t) (u := u) (par P fun v hv => hw v (List.mem_append_left _ hv))
    rw [hN] at i
    rcases Int.le_total 0 (cw2 w t) with h | h
    · rw [show max 0 (cw2 w t) = cw2 w t by omega, ← i]
      exact Int.mul_le_mul_of_nonneg_left (mx_ge rfl t) (Int.le_of_lt hu)
    · rw [show max 0 (cw2 w t) = 0 by omega, Int.mul_zero]
      exact Int.mul_nonneg (Int.le_of_lt hu) (mx_nonneg _ _)
  -- the upper bound
  obtain ⟨pa, ra, ea, ma⟩ := mx_mem q u
  have hmin : ∃ pb rb, q = pb ++ rb ∧ ∀ p r, q = p ++ r → cw2 (vsum pb) u ≤ cw2 (vsum p) u := by
    have e : ∀ c : C2, cw2 c (-u.1, -u.2) = - cw2 c u := by intro c; unfold cw2; grind
    obtain ⟨pb, rb, eb, mb⟩ := mx_mem q (-u.1, -u.2)
    refine ⟨pb, rb, eb, fun p r h => ?_⟩
    have := mx_ge h (-u.1, -u.2)
    rw [mb, e, e] at this
    omega
  obtain ⟨pb, rb, eb, mb⟩ := hmin
  have gap := gap_le hq0 ea eb
  rw [hpos, ← cw2_vsum, ← cw2_vsum] at gap
  have up : N * Wc q T ≤ (cw2 (vsum pa) u - cw2 (vsum pb) u) * H := by
    have e : (cw2 (vsum pa) u - cw2 (vsum pb) u) * H = lsum (fun t => (cw2 (vsum pa) u - cw2 (vsum pb) u) * max 0 (cw2 w t) + cw2 (vsum pb) u * cw2 w t) T := by
      rw [lsum_add, lsum_mul, lsum_mul, hT0, hH]; omega
    rw [e]
    unfold Wc
    rw [← lsum_mul]
    refine lsum_le fun t _ => ?_
    obtain ⟨p, r, e1, e2⟩ := mx_mem q t
    rw [e2]
    have i := par_id (v := vsum p) (w := w) (t := t) (u := u) (par p fun v hv => hw v (hq.subset (by rw [e1]; exact List.mem_append_left _ hv)))
    rw [hN] at i
    rw [i]
    have h1 := mx_ge e1 u
    rw [ma] at h1
    have h2 := mb p r e1
    rcases Int.le_total 0 (cw2 w t) with h | h
    · rw [show max 0 (cw2 w t) = cw2 w t by omega]
      have := Int.mul_le_mul_of_nonneg_right h1 h
      have e3 : (cw2 (vsum pa) u - cw2 (vsum pb) u) * cw2 w t + cw2 (vsum pb) u * cw2 w t = cw2 (vsum pa) u * cw2 w t := by grind
      omega
    · rw [show max 0 (cw2 w t) = 0 by omega, Int.mul_zero, Int.zero_add]
      exact Int.mul_le_mul_of_nonpos_right h2 h
  have fin : N * Wc q T ≤ N * Wc (P ++ Q) T := by
    have := Int.mul_le_mul_of_nonneg_right gap hH0
    omega
  exact Int.le_of_mul_le_mul_left fin hu

theorem ex_pos {α : Type} {f : α → Int} {l : List α} (h0 : lsum f l = 0) {x : α} (hx : x ∈ l) (hne : f x ≠ 0) : ∃ y ∈ l, 0 < f y := by
  refine Classical.byContradiction fun h => ?_
  have hle : ∀ y ∈ l, f y ≤ 0 := fun y hy => Int.not_lt.mp fun hlt => h ⟨y, hy, hlt⟩
  clear h
  have : ∀ l : List α, (∀ y ∈ l, f y ≤ 0) → lsum f l ≤ 0 ∧ (lsum f l = 0 → ∀ y ∈ l, f y = 0) := by
    intro l
    induction l with
    | nil => exact fun _ => ⟨Int.le_refl _, fun _ y hy => by cases hy⟩
    | cons a l ih =>
      intro hl
      have h1 := hl a (.head _)
      obtain ⟨h2, h3⟩ := ih fun y hy => hl y (.tail _ hy)
      refine ⟨by show f a + lsum f l ≤ 0; omega, fun e y hy => ?_⟩
      have e' : f a + lsum f l = 0 := e
      rcases List.mem_cons.mp hy with rfl | hy
      · omega
      · exact h3 (by omega) y hy
  exact hne ((this l hle).2 h0 x hx)

theorem par_rows {P Q S' T : List S3} {k : Int} (hP : ∀ s ∈ P, s.1 = k) (hQ : ∀ s ∈ Q, s.1 = k + 83160) (hS : S'.Perm (P ++ Q)) (F : Fit (P ++ Q) T) (FS : Fit (P ++ Q) (P ++ Q))
    (h0 : vsum (vs (P ++ Q)) = (0, 0)) (hT : vsum (vs T) = (0, 0)) : Wc (vs S') (vs T) ≤ Wc (vs (P ++ Q)) (vs T) := by
  have hz : ∀ s ∈ P ++ Q, ∀ v ∈ P ++ Q, cw2 v.2 s.2 = 0 := by
    intro s hs v hv
    have a := FS.st s hs v hv
    have b := FS.st v hv s hs
    have c := cw2_anti s.2 v.2
    have ks : s.1 = k ∨ s.1 = k + 83160 := (List.mem_append.mp hs).elim (fun h => .inl (hP s h)) (fun h => .inr (hQ s h))
    have kv : v.1 = k ∨ v.1 = k + 83160 := (List.mem_append.mp hv).elim (fun h => .inl (hP v h)) (fun h => .inr (hQ v h))
    have a1 := a.z
    have a2 := a.h
    have b2 := b.h
    omega
  have hTs : ∀ s : S3, lsum (fun t => cw2 s.2 t.2) T = 0 := by
    intro s
    have := cw2_vsumr s.2 (vs T)
    rw [hT, cw2_zr, lsum_map] at this
    exact this.symm
  have hTn : ∀ s : S3, lsum (fun t => - cw2 s.2 t.2) T = 0 := by
    intro s
    rw [lsum_neg, hTs]; rfl
  have hperm : (vs S').Perm (vs P ++ vs Q) := by rw [← vs_app]; exact hS.map _
  by_cases hne : ∃ s ∈ P ++ Q, ∃ t ∈ T, cw2 s.2 t.2 ≠ 0
  · obtain ⟨s, hs, t, ht, hst⟩ := hne
    rw [vs_app] at h0 ⊢
    rcases List.mem_append.mp hs with hsP | hsQ
    · obtain ⟨u, hu, hpu⟩ := ex_pos (hTs s) ht hst
      refine par_core (w := s.2) (u := u.2) ?_ hpu ?_ ?_ hperm h0 hT
      · rw [← vs_app]
        intro v hv
        obtain ⟨v', hv', rfl⟩ := List.mem_map.mp hv
        exact hz s hs v' hv'
      · intro v hv
        obtain ⟨v', hv', rfl⟩ := List.mem_map.mp hv
        have hm := List.mem_append_left Q hv'
        have := same_sign (F.st s hs u hu) (F.ts s hs u hu) (F.st v' hm u hu) (F.ts v' hm u hu) (by rw [hP s hsP, hP v' hv'])
        omega
      · intro v hv
        obtain ⟨v', hv', rfl⟩ := List.mem_map.mp hv
        have hm := List.mem_append_right P hv'
        have := opp_sign (F.st s hs u hu) (F.ts s hs u hu) (F.st v' hm u hu) (F.ts v' hm u hu) (by rw [hP s hsP, hQ v' hv']) (F.kr s hs).1 (F.kr v' hm).2 (F.kt u hu).1 (F.kt u hu).2
        omega
    · obtain ⟨u, hu, hpu⟩ := ex_pos (hTn s) ht (by omega)
      have e : ∀ c : C2, cw2 (-s.2.1, -s.2.2) c = - cw2 s.2 c := by intro c; unfold cw2; grind
      have e' : ∀ c : C2, cw2 c (-s.2.1, -s.2.2) = - cw2 c s.2 := by intro c; unfold cw2; grind
      refine par_core (w := (-s.2.1, -s.2.2)) (u := u.2) ?_ (by rw [e]; exact hpu) ?_ ?_ hperm h0 hT
      · rw [← vs_app]
        intro v hv
        obtain ⟨v', hv', rfl⟩ := List.mem_map.mp hv
        rw [e', hz s hs v' hv']; rfl
      · intro v hv
        obtain ⟨v', hv', rfl⟩ := List.mem_map.mp hv
        have hm := List.mem_append_left Q hv'
        have := opp_sign (F.st v' hm u hu) (F.ts v' hm u hu) (F.st s hs u hu) (F.ts s hs u hu) (by rw [hQ s hsQ, hP v' hv']) (F.kr v' hm).1 (F.kr s hs).2 (F.kt u hu).1 (F.kt u hu).2
        omega
      · intro v hv
        obtain ⟨v', hv', rfl⟩ := List.mem_map.mp hv
        have hm := List.mem_append_right P hv'
        have := same_sign (F.st s hs u hu) (F.ts s hs u hu) (F.st v' hm u hu) (F.ts v' hm u hu) (by rw [hQ s hsQ, hQ v' hv'])
        omega
  · have hall : ∀ s ∈ P ++ Q, ∀ t ∈ T, cw2 s.2 t.2 = 0 := fun s hs t ht => Classical.byContradiction fun h => hne ⟨s, hs, t, ht, h⟩
    unfold Wc
    rw [lsum_map, lsum_map]
    refine lsum_le fun t ht => ?_
    obtain ⟨p, r, e1, e2⟩ := mx_mem (vs S') t.2
    rw [e2, cw2_vsum, lsum_congr (g := fun _ => 0) (fun v hv => ?_), lsum_zero]
    · exact mx_nonneg _ _
    · have hv' : v ∈ vs S' := by rw [e1]; exact List.mem_append_left _ hv
      obtain ⟨s, hs, rfl⟩ := List.mem_map.mp hv'
      exact hall s (hS.subset hs) t ht
end Mine
end

section
open PySem
namespace Mine

/-! ### orders of a row's sides -/
theorem perm_split {α : Type} {a : α} {l m : List α} (h : m.Perm (a :: l)) : ∃ p r, m = p ++ a :: r ∧ (p ++ r).Perm l := by
  obtain ⟨p, r, e⟩ := List.append_of_mem (h.symm.subset (List.mem_cons_self (a := a) (l := l)))
  refine ⟨p, r, e, ?_⟩
  rw [e] at h
  exact (List.perm_middle.symm.trans h).cons_inv
theorem perm_two {α : Type} {a b : α} {m : List α} (h : m.Perm [a, b]) : m = [a, b] ∨ m = [b, a] := by
  obtain ⟨p, r, e, h'⟩ := perm_split h
  have h' := List.perm_singleton.mp h'
  cases p with
  | nil => rw [List.nil_append] at h'; subst h'; exact .inl e
  | cons x p =>
    rw [List.cons_append] at h'
    injection h' with h1 h2
    have hp := (List.append_eq_nil_iff.mp h2)
    obtain ⟨rfl, rfl⟩ := hp
    subst h1
    exact .inr e
theorem perm_three {α : Type} {a b c : α} {m : List α} (h : m.Perm [a, b, c]) : m = [a, b, c] ∨ m = [a, c, b] ∨ m = [b, a, c] ∨ m = [c, a, b] ∨ m = [b, c, a] ∨ m = [c, b, a] := by
  obtain ⟨p, r, e, h'⟩ := perm_split h
  have hh := perm_two h'
  cases p with
  | nil =>
    rw [List.nil_append] at hh e
    subst e
    rcases hh with rfl | rfl
    · exact .inl rfl
    · exact .inr (.inl rfl)
  | cons x p =>
    cases p with
    | nil =>
      subst e
      rcases hh with hh | hh <;> (rw [List.cons_append, List.nil_append] at hh; injection hh with h1 h2; subst h1; subst h2)
      · exact .inr (.inr (.inl rfl))
      · exact .inr (.inr (.inr (.inl rfl)))
    | cons y p =>
      subst e
      rcases hh with hh | hh <;>
        (rw [List.cons_append, List.cons_append] at hh; injection hh with h1 h2; injection h2 with h2 h3; obtain ⟨rfl, rfl⟩ := List.append_eq_nil_iff.mp h3; subst h1; subst h2)
      · exact .inr (.inr (.inr (.inr (.inl rfl))))
      · exact .inr (.inr (.inr (.inr (.inr rfl))))

theorem Fit.sub {S S' T T' : List S3} (F : Fit S T) (h : ∀ s ∈ S', s ∈ S) (h' : ∀ t ∈ T', t ∈ T) : Fit S' T' :=
  ⟨fun s hs => F.kr s (h s hs), fun t ht => F.kt t (h' t ht), fun s hs t ht => F.st s (h s hs) t (h' t ht), fun s hs t ht => F.ts s (h s hs) t (h' t ht)⟩
/-- two rows in order with the same sides have the same mixed room -/
theorem Wc_ord {S S' T : List S3} (ho : Ord S) (ho' : Ord S') (hp : S'.Perm S) (F : Fit S T) (h0 : vsum (vs S) = (0, 0)) : Wc (vs S') (vs T) = Wc (vs S) (vs T) := by
  have F' : Fit S' T := F.sub (fun s hs => hp.subset hs) fun _ h => h
  have h0' : vsum (vs S') = (0, 0) := by rw [vsum_perm (hp.map _)]; exact h0
  rw [Wc_row, Wc_row]
  refine lsum_congr fun t ht => ?_
  rw [most_told ho false (F.one ht) (X_zero h0 _), most_told ho' false (F'.one ht) (X_zero h0' _), (told_ind ho t).1, (told_ind ho' t).1, lsum_perm _ hp]

/-- no order has more room, nor, with as much room, more mixed room -/
noncomputable def Fine (S T S' : List S3) : Prop := pr (vs S') ≤ pr (vs S) ∧ (pr (vs S') = pr (vs S) → Wc (vs S') (vs T) ≤ Wc (vs S) (vs T))
theorem Fine.rot {S T l m : List S3} (h0 : vsum (vs (l ++ m)) = (0, 0)) (hT : vsum (vs T) = (0, 0)) (h : Fine S T (l ++ m)) : Fine S T (m ++ l) := by
  unfold Fine at *
  rw [vs_app] at *
  rw [pr_rot h0]
  exact ⟨h.1, fun e => Int.le_trans (Wc_rot h0 hT) (h.2 e)⟩
theorem Fine.first {T S1 S' : List S3} {v : S3} (h0 : vsum (vs (v :: S1)) = (0, 0)) (hT : vsum (vs T) = (0, 0)) (hp : S'.Perm (v :: S1)) (h : ∀ m : List S3, m.Perm S1 → Fine (v :: S1) T (v :: m)) : Fine (v :: S1) T S' := by
  obtain ⟨p, r, e, hpr⟩ := perm_split hp
  subst e
  refine Fine.rot (l := v :: r) (m := p) ?_ hT (h (r ++ p) (List.perm_append_comm.trans hpr))
  rw [vsum_perm ((List.perm_append_comm.trans hp).map _)]
  exact h0
theorem Fine.same {S T : List S3} : Fine S T S := ⟨Int.le_refl _, fun _ => Int.le_refl _⟩

section
variable {T : List S3} {a b c d : S3}
theorem ord4 (ho : Ord [a, b, c, d]) : a.1 ≤ b.1 ∧ b.1 ≤ c.1 ∧ c.1 ≤ d.1 := by
  unfold Ord at ho
  simp only [List.pairwise_cons, List.mem_cons, List.not_mem_nil, or_false, forall_eq_or_imp, forall_eq] at ho
  omega
theorem ord4' (h1 : a.1 ≤ b.1) (h2 : b.1 ≤ c.1) (h3 : c.1 ≤ d.1) : Ord [a, b, c, d] := by
  unfold Ord
  simp only [List.pairwise_cons, List.mem_cons, List.not_mem_nil, or_false, forall_eq_or_imp, forall_eq, false_implies, implies_true, List.Pairwise.nil, and_true]
  omega
theorem Sgn.sg {u v : C2} {k j : Int} (h : Sgn u v k j) : Sg k j (cw2 u v) := ⟨h.z, h.p, h.h, h.n⟩
theorem four_of (ho : Ord [a, b, c, d]) (FS : Fit [a, b, c, d] [a, b, c, d]) (h0 : vsum (vs [a, b, c, d]) = (0, 0)) :
    Four a.1 b.1 c.1 d.1 (cw2 a.2 b.2) (cw2 a.2 c.2) (cw2 a.2 d.2) (cw2 b.2 c.2) (cw2 b.2 d.2) (cw2 c.2 d.2) := by
  obtain ⟨h1, h2, h3⟩ := ord4 ho
  have z : ∀ t : C2, cw2 t a.2 + (cw2 t b.2 + (cw2 t c.2 + (cw2 t d.2 + 0))) = 0 := by
    intro t
    have := cw2_vsumr t (vs [a, b, c, d])
    rw [h0, cw2_zr] at this
    exact this.symm
  have za := z a.2
  have zb := z b.2
  have zc := z c.2
  have zd := z d.2
  rw [cw2_self] at za zb zc zd
  rw [cw2_anti a.2 b.2] at zb
  rw [cw2_anti a.2 c.2, cw2_anti b.2 c.2] at zc
  rw [cw2_anti a.2 d.2, cw2_anti b.2 d.2, cw2_anti c.2 d.2] at zd
  have ma : a ∈ [a, b, c, d] := by simp
  have mb : b ∈ [a, b, c, d] := by simp
  have mc : c ∈ [a, b, c, d] := by simp
  have md : d ∈ [a, b, c, d] := by simp
  exact ⟨(FS.kr a ma).1, h1, h2, h3, (FS.kr d md).2, (FS.st a ma b mb).sg, (FS.st a ma c mc).sg, (FS.st a ma d md).sg, (FS.st b mb c mc).sg, (FS.st b mb d md).sg, (FS.st c mc d md).sg, by omega, by omega, by omega, by omega⟩
theorem par4 (FS : Fit [a, b, c, d] [a, b, c, d]) (F : Fit [a, b, c, d] T) (h0 : vsum (vs [a, b, c, d]) = (0, 0)) (hT : vsum (vs T) = (0, 0)) (hpat : Pat4 a.1 b.1 c.1 d.1) {S' : List S3} (hp : S'.Perm [a, b, c, d]) :
    Wc (vs S') (vs T) ≤ Wc (vs [a, b, c, d]) (vs T) := by
  have h1 : ∀ {k : Int} {s : S3}, s ∈ ([] : List S3) → s.1 = k := fun h => by cases h
  rcases hpat with ⟨e1, e2, e3⟩ | ⟨e1, e2, e3⟩ | ⟨e1, e2, e3⟩ | ⟨e1, e2, e3⟩
  · refine par_rows (P := [a, b, c, d]) (Q := []) (k := a.1) ?_ ?_ hp F FS h0 hT
    all_goals intro s hs
    all_goals simp only [List.mem_cons, List.not_mem_nil, or_false] at hs
    all_goals first
      | exact hs.elim
      | (rcases hs with rfl | rfl | rfl | rfl <;> omega)
      | (rcases hs with rfl | rfl | rfl <;> omega)
      | (rcases hs with rfl | rfl <;> omega)
      | (subst hs; omega)
  · refine par_rows (P := [a]) (Q := [b, c, d]) (k := a.1) ?_ ?_ hp F FS h0 hT
    all_goals intro s hs
    all_goals simp only [List.mem_cons, List.not_mem_nil, or_false] at hs
    all_goals first
      | exact hs.elim
      | (rcases hs with rfl | rfl | rfl | rfl <;> omega)
      | (rcases hs with rfl | rfl | rfl <;> omega)
      | (rcases hs with rfl | rfl <;> omega)
      | (subst hs; omega)
  · refine par_rows (P := [a, b]) (Q := [c, d]) (k := a.1) ?_ ?_ hp F FS h0 hT
    all_goals intro s hs
    all_goals simp only [List.mem_cons, List.not_mem_nil, or_false] at hs
    all_goals first
      | exact hs.elim
      | (rcases hs with rfl | rfl | rfl | rfl <;> omega)
      | (rcases hs with rfl | rfl | rfl <;> omega)
      | (rcases hs with rfl | rfl <;> omega)
      | (subst hs; omega)
  · refine par_rows (P := [a, b, c]) (Q := [d]) (k := a.1) ?_ ?_ hp F FS h0 hT
    all_goals intro s hs
    all_goals simp only [List.mem_cons, List.not_mem_nil, or_false] at hs
    all_goals first
      | exact hs.elim
      | (rcases hs with rfl | rfl | rfl | rfl <;> omega)
      | (rcases hs with rfl | rfl | rfl <;> omega)
      | (rcases hs with rfl | rfl <;> omega)
      | (subst hs; omega)
theorem pr4 (a b c d : C2) : pr [a, b, c, d] = cw2 a b + cw2 a c + cw2 a d + cw2 b c + cw2 b d + cw2 c d := by
  simp only [pr, vsum, cw2_addr, cw2_zr]; omega
theorem le_of_sub2 {R R' c : Int} (e : R' = R - 2 * c) (h : 0 ≤ c) : R' ≤ R ∧ (R' = R → c = 0) := by omega
section
variable {c12 c13 c14 c23 c24 c34 : Int}
theorem d34 : c12 + c14 + c13 + c24 + c23 + -c34 = c12 + c13 + c14 + c23 + c24 + c34 - 2 * c34 := by omega
theorem d23 : c13 + c12 + c14 + -c23 + c34 + c24 = c12 + c13 + c14 + c23 + c24 + c34 - 2 * c23 := by omega
theorem d12 : -c12 + c23 + c24 + c13 + c14 + c34 = c12 + c13 + c14 + c23 + c24 + c34 - 2 * c12 := by omega
theorem d14 (q4 : -c14 - c24 - c34 = 0) : c14 + c12 + c13 + -c24 + -c34 + c23 = c12 + c13 + c14 + c23 + c24 + c34 - 2 * -c14 := by omega
theorem dall (q1 : c12 + c13 + c14 = 0) : c14 + c13 + c12 + -c34 + -c24 + -c23 = c12 + c13 + c14 + c23 + c24 + c34 - 2 * (c12 + c13 + c14 + c23 + c24 + c34) := by omega
end
theorem fine4 (ho : Ord [a, b, c, d]) (FS : Fit [a, b, c, d] [a, b, c, d]) (F : Fit [a, b, c, d] T) (h0 : vsum (vs [a, b, c, d]) = (0, 0)) (hT : vsum (vs T) = (0, 0)) :
    0 ≤ pr (vs [a, b, c, d]) ∧ ∀ S' : List S3, S'.Perm [a, b, c, d] → Fine [a, b, c, d] T S' := by
  have f4 := four_of ho FS h0
  obtain ⟨n12, n23, n34, n14⟩ := f4.adj
  have eR : pr (vs [a, b, c, d]) = _ := pr4 a.2 b.2 c.2 d.2
  obtain ⟨o1, o2, o3⟩ := ord4 ho
  refine ⟨by rw [eR]; exact f4.nonneg, fun S' hp => Fine.first h0 hT hp fun m hm => ?_⟩
  have hpm : (a :: m).Perm [a, b, c, d] := List.Perm.cons a hm
  have swap : ∀ {S'' : List S3}, S''.Perm [a, b, c, d] → Ord S'' → Wc (vs S'') (vs T) ≤ Wc (vs [a, b, c, d]) (vs T) := fun h1 h2 => Int.le_of_eq (Wc_ord ho h2 h1 F h0)
  unfold Fine
  rw [eR]
  rcases perm_three hm with rfl | rfl | rfl | rfl | rfl | rfl
  · rw [← eR]; exact Fine.same
  · have e : pr (vs [a, b, d, c]) = _ := pr4 a.2 b.2 d.2 c.2
    rw [cw2_anti c.2 d.2, d34] at e
    obtain ⟨h1, h2⟩ := le_of_sub2 e n34
    refine ⟨h1, fun h => ?_⟩
    rcases f4.z34 (h2 h) with hk | hk
    · exact swap hpm (ord4' o1 (Int.le_trans o2 o3) (Int.le_of_eq hk.symm))
    · exact par4 FS F h0 hT hk hpm
  · have e : pr (vs [a, c, b, d]) = _ := pr4 a.2 c.2 b.2 d.2
    rw [cw2_anti b.2 c.2, d23] at e
    obtain ⟨h1, h2⟩ := le_of_sub2 e n23
    refine ⟨h1, fun h => ?_⟩
    rcases f4.z23 (h2 h) with hk | hk
    · exact swap hpm (ord4' (Int.le_trans o1 o2) (Int.le_of_eq hk.symm) (Int.le_trans o2 o3))
    · exact par4 FS F h0 hT hk hpm
  · have e : pr (vs [a, d, b, c]) = _ := pr4 a.2 d.2 b.2 c.2
    rw [cw2_anti b.2 d.2, cw2_anti c.2 d.2, d14 f4.e4] at e
    obtain ⟨h1, h2⟩ := le_of_sub2 e (Int.neg_nonneg_of_nonpos n14)
    exact ⟨h1, fun h => par4 FS F h0 hT (f4.z14 (Int.neg_eq_zero.mp (h2 h))) hpm⟩
  · have hpb : [b, a, c, d].Perm [a, b, c, d] := List.Perm.swap a b [c, d]
    have key : Fine [a, b, c, d] T [b, a, c, d] := by
      have e : pr (vs [b, a, c, d]) = _ := pr4 b.2 a.2 c.2 d.2
      rw [cw2_anti a.2 b.2, d12] at e
      obtain ⟨h1, h2⟩ := le_of_sub2 e n12
      unfold Fine
      rw [eR]
      refine ⟨h1, fun h => ?_⟩
      rcases f4.z12 (h2 h) with hk | hk
      · exact swap hpb (ord4' (Int.le_of_eq hk.symm) (Int.le_trans o1 o2) o3)
      · exact par4 FS F h0 hT hk hpb
    have := Fine.rot (l := [b]) (m := [a, c, d]) (by rw [← h0]; exact vsum_perm (hpb.map _)) hT key
    unfold Fine at this
    rw [eR] at this
    exact this
  · have e : pr (vs [a, d, c, b]) = _ := pr4 a.2 d.2 c.2 b.2
    rw [cw2_anti b.2 d.2, cw2_anti c.2 d.2, cw2_anti b.2 c.2, dall f4.e1] at e
    obtain ⟨h1, h2⟩ := le_of_sub2 e f4.nonneg
    exact ⟨h1, fun h => par4 FS F h0 hT (f4.zE (h2 h)) hpm⟩
end
end Mine
end

section
open PySem
namespace Mine

section
variable {T : List S3} {a b c : S3}
theorem ord3 (ho : Ord [a, b, c]) : a.1 ≤ b.1 ∧ b.1 ≤ c.1 := by
  unfold Ord at ho
  simp only [List.pairwise_cons, List.mem_cons, List.not_mem_nil, or_false, forall_eq_or_imp, forall_eq] at ho
  omega
theorem three_of (ho : Ord [a, b, c]) (FS : Fit [a, b, c] [a, b, c]) (h0 : vsum (vs [a, b, c]) = (0, 0)) :
    Three a.1 b.1 c.1 (cw2 a.2 b.2) (cw2 a.2 c.2) (cw2 b.2 c.2) := by
  obtain ⟨h1, h2⟩ := ord3 ho
  have z : ∀ t : C2, cw2 t a.2 + (cw2 t b.2 + (cw2 t c.2 + 0)) = 0 := by
    intro t
    have := cw2_vsumr t (vs [a, b, c])
    rw [h0, cw2_zr] at this
    exact this.symm
  have za := z a.2
  have zb := z b.2
  have zc := z c.2
  rw [cw2_self] at za zb zc
  rw [cw2_anti a.2 b.2] at zb
  rw [cw2_anti a.2 c.2, cw2_anti b.2 c.2] at zc
  have ma : a ∈ [a, b, c] := by simp
  have mb : b ∈ [a, b, c] := by simp
  have mc : c ∈ [a, b, c] := by simp
  exact ⟨(FS.kr a ma).1, h1, h2, (FS.kr c mc).2, (FS.st a ma b mb).sg, (FS.st a ma c mc).sg, (FS.st b mb c mc).sg, by omega, by omega, by omega⟩
theorem par3 (FS : Fit [a, b, c] [a, b, c]) (F : Fit [a, b, c] T) (h0 : vsum (vs [a, b, c]) = (0, 0)) (hT : vsum (vs T) = (0, 0)) (hpat : Pat3 a.1 b.1 c.1) {S' : List S3} (hp : S'.Perm [a, b, c]) :
    Wc (vs S') (vs T) ≤ Wc (vs [a, b, c]) (vs T) := by
  rcases hpat with ⟨e1, e2⟩ | ⟨e1, e2⟩ | ⟨e1, e2⟩
  · refine par_rows (P := [a, b, c]) (Q := []) (k := a.1) ?_ ?_ hp F FS h0 hT
    all_goals intro s hs
    all_goals simp only [List.mem_cons, List.not_mem_nil, or_false] at hs
    all_goals first
      | exact hs.elim
      | (rcases hs with rfl | rfl | rfl <;> omega)
  · refine par_rows (P := [a]) (Q := [b, c]) (k := a.1) ?_ ?_ hp F FS h0 hT
    all_goals intro s hs
    all_goals simp only [List.mem_cons, List.not_mem_nil, or_false] at hs
    all_goals first
      | (rcases hs with rfl | rfl <;> omega)
      | (subst hs; omega)
  · refine par_rows (P := [a, b]) (Q := [c]) (k := a.1) ?_ ?_ hp F FS h0 hT
    all_goals intro s hs
    all_goals simp only [List.mem_cons, List.not_mem_nil, or_false] at hs
    all_goals first
      | (rcases hs with rfl | rfl <;> omega)
      | (subst hs; omega)
theorem pr3 (a b c : C2) : pr [a, b, c] = cw2 a b + cw2 a c + cw2 b c := by
  simp only [pr, vsum, cw2_addr, cw2_zr]; omega
theorem pr2 (a b : C2) : pr [a, b] = cw2 a b := by
  simp only [pr, vsum, cw2_addr, cw2_zr]; omega
theorem fine3 (ho : Ord [a, b, c]) (FS : Fit [a, b, c] [a, b, c]) (F : Fit [a, b, c] T) (h0 : vsum (vs [a, b, c]) = (0, 0)) (hT : vsum (vs T) = (0, 0)) :
    0 ≤ pr (vs [a, b, c]) ∧ ∀ S' : List S3, S'.Perm [a, b, c] → Fine [a, b, c] T S' := by
  have f3 := three_of ho FS h0
  have hR := f3.nonneg
  have q1 := f3.e1
  have q2 := f3.e2
  have q3 := f3.e3
  have eR := pr3 a.2 b.2 c.2
  refine ⟨by show 0 ≤ pr [a.2, b.2, c.2]; omega, fun S' hp => Fine.first h0 hT hp fun m hm => ?_⟩
  have hpm : (a :: m).Perm [a, b, c] := List.Perm.cons a hm
  rcases perm_two hm with rfl | rfl
  · exact .same
  · have e := pr3 a.2 c.2 b.2
    have an := cw2_anti b.2 c.2
    refine ⟨by show pr [a.2, c.2, b.2] ≤ pr [a.2, b.2, c.2]; omega, fun h => ?_⟩
    have h' : pr [a.2, c.2, b.2] = pr [a.2, b.2, c.2] := h
    exact par3 FS F h0 hT (f3.pat (by omega)) hpm
theorem fine2 (h0 : vsum (vs [a, b]) = (0, 0)) (hT : vsum (vs T) = (0, 0)) : 0 ≤ pr (vs [a, b]) ∧ ∀ S' : List S3, S'.Perm [a, b] → Fine [a, b] T S' := by
  refine ⟨?_, fun S' hp => Fine.first h0 hT hp fun m hm => ?_⟩
  · have := cw2_vsumr a.2 (vs [a, b])
    rw [h0, cw2_zr] at this
    have e : 0 = cw2 a.2 a.2 + (cw2 a.2 b.2 + 0) := this
    rw [cw2_self] at e
    have e2 := pr2 a.2 b.2
    show 0 ≤ pr [a.2, b.2]
    omega
  · have : m = [b] := List.perm_singleton.mp hm
    subst this
    exact .same
theorem fine1 : 0 ≤ pr (vs [a]) ∧ ∀ S' : List S3, S'.Perm [a] → Fine [a] T S' := by
  refine ⟨?_, fun S' hp => ?_⟩
  · show 0 ≤ cw2 a.2 (0, 0) + 0
    rw [cw2_zr]; decide
  · rw [List.perm_singleton.mp hp]; exact .same
theorem fine0 : 0 ≤ pr (vs []) ∧ ∀ S' : List S3, S'.Perm [] → Fine [] T S' := by
  refine ⟨Int.le_refl _, fun S' hp => ?_⟩
  rw [List.Perm.eq_nil hp]; exact .same
end
/-- a row in order: no order of its sides has more room, nor, with as much room, more mixed room -/
theorem fine_row {S T : List S3} (ho : Ord S) (hl : S.length ≤ 4) (FS : Fit S S) (F : Fit S T) (h0 : vsum (vs S) = (0, 0)) (hT : vsum (vs T) = (0, 0)) :
    0 ≤ pr (vs S) ∧ ∀ S' : List S3, S'.Perm S → Fine S T S' := by
  match S, ho, hl, FS, F, h0 with
  | [], _, _, _, _, _ => exact fine0
  | [a], _, _, _, _, _ => exact fine1
  | [a, b], _, _, _, _, h0 => exact fine2 h0 hT
  | [a, b, c], ho, _, FS, F, h0 => exact fine3 ho FS F h0 hT
  | [a, b, c, d], ho, _, FS, F, h0 => exact fine4 ho FS F h0 hT
  | a :: b :: c :: d :: e :: r, _, hl, _, _, _ => simp at hl
end Mine
end

section
open PySem
namespace Mine

/-! ### greys -/
noncomputable def nz (q : List C2) : List C2 := q.filter fun v => v != (0, 0)
theorem nz_app (p q : List C2) : nz (p ++ q) = nz p ++ nz q := List.filter_append ..
theorem vsum_nz : ∀ q : List C2, vsum (nz q) = vsum q
  | [] => rfl
  | v :: q => by
    unfold nz
    by_cases h : v = (0, 0)
    · rw [List.filter_cons_of_neg (by simp [h])]
      show vsum (nz q) = add2 v (vsum q)
      rw [h, add2_zl, vsum_nz q]
    · rw [List.filter_cons_of_pos (by simp [h])]
      show add2 v (vsum (nz q)) = add2 v (vsum q)
      rw [vsum_nz q]
theorem pr_nz : ∀ q : List C2, pr (nz q) = pr q
  | [] => rfl
  | v :: q => by
    unfold nz
    by_cases h : v = (0, 0)
    · rw [List.filter_cons_of_neg (by simp [h])]
      show pr (nz q) = cw2 v (vsum q) + pr q
      rw [h, cw2_zl, pr_nz q]; omega
    · rw [List.filter_cons_of_pos (by simp [h])]
      show cw2 v (vsum (nz q)) + pr (nz q) = cw2 v (vsum q) + pr q
      rw [vsum_nz q, pr_nz q]
theorem mx_nz (q : List C2) (t : C2) : mx (nz q) t = mx q t := by
  refine Int.le_antisymm ?_ ?_
  · obtain ⟨p, r, e1, e2⟩ := mx_mem (nz q) t
    unfold nz at e1
    obtain ⟨p', r', e, hp, hr⟩ := List.filter_eq_append_iff.mp e1
    rw [e2, ← hp]
    show cw2 (vsum (nz p')) t ≤ _
    rw [vsum_nz]
    exact mx_ge e t
  · obtain ⟨p, r, e1, e2⟩ := mx_mem q t
    rw [e2, ← vsum_nz]
    exact mx_ge (by rw [e1, nz_app]) t
theorem Wc_nz (q T : List C2) : Wc (nz q) T = Wc q T := lsum_congr fun t _ => mx_nz q t
theorem mx_z (q : List C2) : mx q (0, 0) = 0 := by
  obtain ⟨p, r, e1, e2⟩ := mx_mem q (0, 0)
  rw [e2, cw2_zr]
theorem Wc_nzr (q T : List C2) : Wc q (nz T) = Wc q T := by
  unfold Wc nz
  rw [lsum_filter]
  refine lsum_congr fun t _ => ?_
  by_cases h : t = (0, 0)
  · rw [if_neg (by simp [h]), h, mx_z]
  · rw [if_pos (by simp [h])]

/-! ### orders -/
theorem ordersStep_perm {os : List (List C2)} {s : C2} {l : List C2} (h : ∀ o ∈ os, o.Perm l) : ∀ o ∈ ordersStep os s, o.Perm (l ++ [s]) := by
  intro q hq
  unfold ordersStep at hq
  obtain ⟨x, hx, hq⟩ := List.mem_flatten.mp hq
  obtain ⟨o, ho, rfl⟩ := List.mem_map.mp hx
  obtain ⟨i, hi, rfl⟩ := List.mem_map.mp hq
  have h1 : (o.take (1 + i) ++ [s] ++ o.drop (1 + i)).Perm (o ++ [s]) := by
    have e : (o ++ [s]).Perm (s :: o) := List.perm_append_comm
    refine List.Perm.trans ?_ e.symm
    have e2 : (o.take (1 + i) ++ s :: o.drop (1 + i)).Perm (s :: (o.take (1 + i) ++ o.drop (1 + i))) := List.perm_middle
    rw [List.take_append_drop] at e2
    rw [List.append_assoc]
    exact e2
  exact h1.trans ((h o ho).append_right _)
theorem ordersFold_perm : ∀ (q l : List C2) (os : List (List C2)), (∀ o ∈ os, o.Perm l) → ∀ o ∈ q.foldl ordersStep os, o.Perm (l ++ q)
  | [], l, os, h, o, ho => by rw [List.append_nil]; exact h o ho
  | s :: q, l, os, h, o, ho => by
    have := ordersFold_perm q (l ++ [s]) _ (ordersStep_perm h) o ho
    rw [List.append_assoc] at this
    exact this
theorem orders_perm {a : C2} {l : List C2} : ∀ o ∈ ordersOf (a :: l), o.Perm (a :: l) := by
  intro o ho
  exact ordersFold_perm l [a] [[a]] (fun o ho => by rw [List.mem_singleton.mp ho]) o ho
theorem snoc_ind {α : Type} {P : List α → Prop} (h0 : P []) (h1 : ∀ l a, P l → P (l ++ [a])) : ∀ l, P l := by
  intro l
  have : ∀ m : List α, P m.reverse := by
    intro m
    induction m with
    | nil => exact h0
    | cons a m ih => rw [List.reverse_cons]; exact h1 _ _ ih
  have := this l.reverse
  rwa [List.reverse_reverse] at this
theorem orders_all {a : C2} : ∀ (l m : List C2), m.Perm l → a :: m ∈ l.foldl ordersStep [[a]] := by
  intro l
  induction l using snoc_ind with
  | h0 => intro m hm; rw [List.Perm.eq_nil hm]; exact .head _
  | h1 l x ih =>
    intro m hm
    obtain ⟨p, r, e, hpr⟩ := perm_split (hm.trans List.perm_append_comm : m.Perm (x :: l))
    have h := ih (p ++ r) hpr
    rw [List.foldl_append]
    show _ ∈ ordersStep (l.foldl ordersStep [[a]]) x
    unfold ordersStep
    refine List.mem_flatten.mpr ⟨_, List.mem_map.mpr ⟨_, h, rfl⟩, List.mem_map.mpr ⟨p.length, List.mem_range.mpr (by simp; omega), ?_⟩⟩
    rw [e, show 1 + p.length = p.length + 1 by omega, List.take_succ_cons, List.drop_succ_cons, List.take_left, List.drop_left]
    simp

/-! ### the best orders -/
structure BestIs (p0 p : Int × List (List C2)) (os : List (List C2)) : Prop where
  ge : p0.1 ≤ p.1
  all : ∀ o ∈ os, room2 (0, 0) o ≤ p.1
  from' : ∀ cs ∈ p.2, (cs ∈ p0.2 ∧ p0.1 = p.1) ∨ ∃ o ∈ os, room2 (0, 0) o = p.1 ∧ cs = corners2 (0, 0) o
  has : ∀ o ∈ os, room2 (0, 0) o = p.1 → corners2 (0, 0) o ∈ p.2
  keep : p0.1 = p.1 → ∀ cs ∈ p0.2, cs ∈ p.2
  val : p.1 = p0.1 ∨ ∃ o ∈ os, room2 (0, 0) o = p.1
theorem best_is : ∀ (os : List (List C2)) (p0 : Int × List (List C2)), BestIs p0 (os.foldl bestStep p0) os
  | [], p0 => ⟨Int.le_refl _, fun o h => by simp at h, fun cs h => .inl ⟨h, rfl⟩, fun o h => by simp at h, fun _ cs h => h, .inl rfl⟩
  | o :: os, p0 => by
    rw [List.foldl_cons]
    have I := best_is os (bestStep p0 o)
    generalize os.foldl bestStep (bestStep p0 o) = p at I
    have st : (p0.1 < room2 (0, 0) o ∧ bestStep p0 o = (room2 (0, 0) o, [corners2 (0, 0) o])) ∨ (room2 (0, 0) o = p0.1 ∧ bestStep p0 o = (p0.1, p0.2 ++ [corners2 (0, 0) o])) ∨ (room2 (0, 0) o < p0.1 ∧ bestStep p0 o = p0) := by
      unfold bestStep
      by_cases h1 : p0.1 < room2 (0, 0) o
      · exact .inl ⟨h1, if_pos h1⟩
      · rw [if_neg h1]
        by_cases h2 : room2 (0, 0) o = p0.1
        · exact .inr (.inl ⟨h2, if_pos h2⟩)
        · exact .inr (.inr ⟨by omega, if_neg h2⟩)
    obtain ⟨ge, all, fr, has, keep, val⟩ := I
    rcases st with ⟨h, e⟩ | ⟨h, e⟩ | ⟨h, e⟩ <;> rw [e] at ge fr keep val <;> try dsimp only at ge fr keep val
    · refine ⟨by omega, fun o' ho => ?_, fun cs hcs => ?_, fun o' ho he => ?_, fun he => by omega, ?_⟩
      · rcases List.mem_cons.mp ho with rfl | ho
        · exact ge
        · exact all o' ho
      · rcases fr cs hcs with ⟨h1, h2⟩ | ⟨o', ho, h1, h2⟩
        · exact .inr ⟨o, .head _, h2, List.mem_singleton.mp h1⟩
        · exact .inr ⟨o', .tail _ ho, h1, h2⟩
      · rcases List.mem_cons.mp ho with rfl | ho
        · exact keep he _ (.head _)
        · exact has o' ho he
      · rcases val with h1 | ⟨o', ho, h1⟩
        · exact .inr ⟨o, .head _, h1.symm⟩
        · exact .inr ⟨o', .tail _ ho, h1⟩
    · refine ⟨ge, fun o' ho => ?_, fun cs hcs => ?_, fun o' ho he => ?_, fun he cs hcs => keep he cs (List.mem_append_left _ hcs), ?_⟩
      · rcases List.mem_cons.mp ho with rfl | ho
        · omega
        · exact all o' ho
      · rcases fr cs hcs with ⟨h1, h2⟩ | ⟨o', ho, h1, h2⟩
        · rcases List.mem_append.mp h1 with h1 | h1
          · exact .inl ⟨h1, h2⟩
          · exact .inr ⟨o, .head _, h.trans h2, List.mem_singleton.mp h1⟩
        · exact .inr ⟨o', .tail _ ho, h1, h2⟩
      · rcases List.mem_cons.mp ho with rfl | ho
        · exact keep (h.symm.trans he) _ (List.mem_append_right _ (.head _))
        · exact has o' ho he
      · rcases val with h1 | ⟨o', ho, h1⟩
        · exact .inl h1
        · exact .inr ⟨o', .tail _ ho, h1⟩
    · refine ⟨ge, fun o' ho => ?_, fun cs hcs => ?_, fun o' ho he => ?_, keep, ?_⟩
      · rcases List.mem_cons.mp ho with rfl | ho
        · omega
        · exact all o' ho
      · rcases fr cs hcs with h1 | ⟨o', ho, h1, h2⟩
        · exact .inl h1
        · exact .inr ⟨o', .tail _ ho, h1, h2⟩
      · rcases List.mem_cons.mp ho with rfl | ho
        · omega
        · exact has o' ho he
      · rcases val with h1 | ⟨o', ho, h1⟩
        · exact .inl h1
        · exact .inr ⟨o', .tail _ ho, h1⟩
/-- what is best, when one order has room R >= 0 and none more -/
theorem best_val {q : List C2} {R : Int} (hR : 0 ≤ R) (hle : ∀ o ∈ ordersOf q, pr o ≤ R) {o : List C2} (ho : o ∈ ordersOf q) (he : pr o = R) :
    (bestOf q).1 = R ∧ corners2 (0, 0) o ∈ (bestOf q).2 ∧ ∀ cs ∈ (bestOf q).2, ∃ o' ∈ ordersOf q, pr o' = R ∧ cs = corners2 (0, 0) o' := by
  have I := best_is (ordersOf q) (-1, [])
  have e1 : (bestOf q).1 = R := by
    refine Int.le_antisymm ?_ ?_
    · rcases I.val with h | ⟨o', ho', h⟩
      · have h' : (bestOf q).1 = -1 := h
        omega
      · have h' : room2 (0, 0) o' = (bestOf q).1 := h
        rw [← h', room2_pr]
        exact hle o' ho'
    · have := I.all o ho
      rw [room2_pr, he] at this
      exact this
  refine ⟨e1, I.has o ho (by rw [room2_pr, he]; exact e1.symm), fun cs hcs => ?_⟩
  rcases I.from' cs hcs with ⟨h, _⟩ | ⟨o', ho', h1, h2⟩
  · cases h
  · have h' : room2 (0, 0) o' = (bestOf q).1 := h1
    exact ⟨o', ho', by rw [← room2_pr, h', e1], h2⟩
end Mine
end

section
open PySem
namespace Mine

theorem perm_map_ex {α β : Type} (f : α → β) {l l' : List β} (h : l.Perm l') : ∀ m : List α, m.map f = l' → ∃ m' : List α, m'.Perm m ∧ m'.map f = l := by
  induction h with
  | nil => exact fun m e => ⟨m, .refl _, e⟩
  | cons x _ ih =>
    intro m e
    cases m with
    | nil => simp at e
    | cons a m =>
      rw [List.map_cons] at e
      injection e with e1 e2
      obtain ⟨m', h1, h2⟩ := ih m e2
      exact ⟨a :: m', h1.cons a, by rw [List.map_cons, e1, h2]⟩
  | swap x y l =>
    intro m e
    match m, e with
    | a :: b :: m, e =>
      rw [List.map_cons, List.map_cons] at e
      injection e with e1 e2
      injection e2 with e2 e3
      exact ⟨b :: a :: m, .swap a b m, by rw [List.map_cons, List.map_cons, e1, e2, e3]⟩
  | trans _ _ ih1 ih2 =>
    intro m e
    obtain ⟨m1, h1, e1⟩ := ih2 m e
    obtain ⟨m2, h2, e2⟩ := ih1 m1 e1
    exact ⟨m2, h2.trans h1, e2⟩

theorem rowFold_perm : ∀ (ls : List L3) (r : List S3), (ls.foldl rowStep r).Perm (r ++ (ls.filter fun l => !grey l).map sideOf)
  | [], r => by simp
  | l :: ls, r => by
    rw [List.foldl_cons]
    refine (rowFold_perm ls (rowStep r l)).trans ?_
    unfold rowStep
    by_cases h : grey l = true
    · rw [if_pos h, List.filter_cons_of_neg (by simp [h])]
    · rw [if_neg h, List.filter_cons_of_pos (by simp [h]), List.map_cons]
      refine ((ins_perm r (sideOf l)).append_right _).trans ?_
      rw [List.cons_append]
      exact List.perm_middle.symm
theorem row_perm (ls : List L3) : (rowOf ls).Perm ((ls.filter fun l => !grey l).map sideOf) := rowFold_perm ls []
theorem grey_vec (l : L3) : grey l = true ↔ vec l = (0, 0) := by
  unfold grey vec
  rw [Prod.mk.injEq]
  simp
  omega
theorem nz_vec : ∀ ls : List L3, nz (ls.map vec) = vs ((ls.filter fun l => !grey l).map sideOf)
  | [] => rfl
  | l :: ls => by
    have ih := nz_vec ls
    unfold nz at *
    rw [List.map_cons]
    by_cases h : grey l = true
    · rw [List.filter_cons_of_neg (by simp [(grey_vec l).mp h]), List.filter_cons_of_neg (by simp [h])]
      exact ih
    · have hv : vec l ≠ (0, 0) := fun e => h ((grey_vec l).mpr e)
      rw [List.filter_cons_of_pos (by simp [hv]), List.filter_cons_of_pos (by simp [h]), ih]
      rfl
theorem vs_row (ls : List L3) : (vs (rowOf ls)).Perm (nz (ls.map vec)) := by
  rw [nz_vec]
  exact (row_perm ls).map _

/-- a rim: four lights of 0 to 12 parts whose sides come back to nought -/
structure Rim (A : List L3) : Prop where
  ok : ∀ l ∈ A, OkL l
  len : A.length = 4
  sum : vsum (A.map vec) = (0, 0)

theorem row_cone {A : List L3} (h : ∀ l ∈ A, OkL l) {s : S3} (hs : s ∈ rowOf A) : Cone s.2 s.1 := by
  obtain ⟨l, hl, rfl⟩ := List.mem_map.mp ((row_perm A).subset hs)
  obtain ⟨h1, h2⟩ := List.mem_filter.mp hl
  exact key_cone (h l h1) (by simpa using h2)
theorem cone_rng {v : C2} {k : Int} (h : Cone v k) : 0 ≤ k ∧ k < 166320 := by
  obtain ⟨s, a, b, hs, ha, hb, hab, _, _, rfl⟩ := h
  have := frac_lt ha hb hab
  generalize b * (27720 / (a + b)) = F at *
  omega
theorem fit_rows {A B : List L3} (hA : ∀ l ∈ A, OkL l) (hB : ∀ l ∈ B, OkL l) : Fit (rowOf A) (rowOf B) :=
  ⟨fun s hs => cone_rng (row_cone hA hs), fun s hs => cone_rng (row_cone hB hs), fun s hs t ht => cone_sgn (row_cone hA hs) (row_cone hB ht), fun s hs t ht => cone_sgn (row_cone hB ht) (row_cone hA hs)⟩
theorem fit_both {A B : List L3} (hA : ∀ l ∈ A, OkL l) (hB : ∀ l ∈ B, OkL l) : Fit (rowOf A ++ rowOf B) (rowOf A ++ rowOf B) := by
  have c : ∀ s ∈ rowOf A ++ rowOf B, Cone s.2 s.1 := fun s hs => (List.mem_append.mp hs).elim (row_cone hA) (row_cone hB)
  exact ⟨fun s hs => cone_rng (c s hs), fun s hs => cone_rng (c s hs), fun s hs t ht => cone_sgn (c s hs) (c t ht), fun s hs t ht => cone_sgn (c t ht) (c s hs)⟩
theorem Rim.row0 {A : List L3} (h : Rim A) : vsum (vs (rowOf A)) = (0, 0) := by
  rw [vsum_perm (vs_row A), vsum_nz, h.sum]
theorem row_ord (A : List L3) : Ord (rowOf A) := rowFold_ord A [] List.Pairwise.nil

/-- the best room, and the most mixed room of the best orders -/
theorem best_rim {A B : List L3} (hA : Rim A) (hB : Rim B) :
    (bestOf (A.map vec)).1 = roomOf (rowOf A) ∧ (bestOf (A.map vec)).2 ≠ [] ∧ maxI ((bestOf (A.map vec)).2.map fun cs => mostSum cs (B.map vec)) = Wc (vs (rowOf A)) (vs (rowOf B)) := by
  have hT := hB.row0
  have fine := fine_row (row_ord A) (row_len hA.len) (fit_rows hA.ok hA.ok) (fit_rows hA.ok hB.ok) hA.row0 hT
  have hWB : ∀ q, Wc q (B.map vec) = Wc q (vs (rowOf B)) := fun q => by
    rw [← Wc_nzr]; exact (lsum_perm _ (vs_row B)).symm
  have hBs : vsum (B.map vec) = (0, 0) := hB.sum
  have h0 := hA.row0
  have hpv := vs_row A
  have hq : (A.map vec).length = 4 := by rw [List.length_map]; exact hA.len
  have hqs := hA.sum
  rw [roomOf_eq]
  generalize A.map vec = q at *
  generalize rowOf A = S at *
  generalize rowOf B = T at *
  obtain ⟨hR, fine⟩ := fine
  cases q with
  | nil => simp at hq
  | cons a l =>
    have hex : ∃ z, (vs S ++ z).Perm (a :: l) ∧ nz z = [] := by
      refine ⟨(a :: l).filter fun v => !(v != (0, 0)), (hpv.append_right _).trans (List.filter_append_perm _ _), ?_⟩
      refine List.filter_eq_nil_iff.mpr fun v hv => ?_
      have := (List.mem_filter.mp hv).2
      simpa using this
    obtain ⟨z, hz, z0⟩ := hex
    obtain ⟨p, r, e, hpr⟩ := perm_split hz
    have ho : a :: (r ++ p) ∈ ordersOf (a :: l) := orders_all l (r ++ p) (List.perm_append_comm.trans hpr)
    have hnz : nz (vs S ++ z) = vs S := by
      rw [nz_app, z0, List.append_nil]
      refine List.filter_eq_self.mpr fun v hv => ?_
      exact (List.mem_filter.mp (hpv.subset hv)).2
    have hrot : vsum ((a :: r) ++ p) = (0, 0) := by
      rw [← hqs]
      refine vsum_perm (List.perm_append_comm.trans ?_)
      rw [← e]; exact hz
    have hpr1 : pr (a :: (r ++ p)) = pr (vs S) := by
      have := pr_rot (l := a :: r) (m := p) hrot
      rw [← e, ← pr_nz (vs S ++ z), hnz] at this
      exact this.symm
    have hW1 : Wc (vs S) (vs T) ≤ Wc (a :: (r ++ p)) (vs T) := by
      have := Wc_rot (l := a :: r) (m := p) (T := vs T) hrot hT
      rw [← e, ← Wc_nz (vs S ++ z), hnz] at this
      exact this
    have hall : ∀ o ∈ ordersOf (a :: l), pr o ≤ pr (vs S) ∧ (pr o = pr (vs S) → Wc o (vs T) ≤ Wc (vs S) (vs T)) := by
      intro o ho
      have h1 : (nz o).Perm (vs S) := ((orders_perm o ho).filter _).trans hpv.symm
      obtain ⟨S', hS', e'⟩ := perm_map_ex (fun s : S3 => s.2) h1 S rfl
      have e2 : vs S' = nz o := e'
      have := fine S' hS'
      unfold Fine at this
      rw [e2, pr_nz, Wc_nz] at this
      exact this
    obtain ⟨b1, b2, b3⟩ := best_val hR (fun o ho => (hall o ho).1) ho hpr1
    have hW2 := (hall _ ho).2 hpr1
    refine ⟨b1, fun h => by rw [h] at b2; (cases b2), maxI_eq ?_ ?_⟩
    · refine List.mem_map.mpr ⟨_, b2, ?_⟩
      rw [mostSum_Wc, hWB]
      omega
    · intro y hy
      obtain ⟨cs, hcs, rfl⟩ := List.mem_map.mp hy
      obtain ⟨o, ho, h1, rfl⟩ := b3 cs hcs
      rw [mostSum_Wc, hWB]
      exact (hall o ho).2 h1

theorem plain_of {A B : List L3} (hA : Rim A) (hB : Rim B) : Plain A B := by
  obtain ⟨a1, a2, a3⟩ := best_rim hA hB
  obtain ⟨b1, _, _⟩ := best_rim hB hA
  have F := fit_rows hA.ok hB.ok
  have hV : Wc (vs (rowOf A)) (vs (rowOf B)) = lsum (toldOf (rowOf A) false) (rowOf B) := by
    rw [Wc_row]
    exact lsum_congr fun t ht => most_told (row_ord A) false (F.one ht) (X_zero hA.row0 _)
  have hs := V_symm (row_ord A) (row_ord B) hB.row0
  refine ⟨hA.ok, hB.ok, hA.len, hB.len, a2, a1.symm, b1.symm, ?_, ?_, ?_⟩
  · rw [join_room (row_ord A) (row_ord B) (fit_both hA.ok hB.ok), a1, b1, a3, hV]
    omega
  · rw [mix_told (row_ord A) F hA.row0, a3, hV]
  · rw [mix_told (row_ord B) F.symm hB.row0, a3, hV]
    exact hs.symm
end Mine
end

section
open PySem
namespace Mine

noncomputable def Low (l : L3) : Prop := (0 ≤ l.1 ∧ l.1 ≤ 4) ∧ (0 ≤ l.2.1 ∧ l.2.1 ≤ 4) ∧ (0 ≤ l.2.2 ∧ l.2.2 ≤ 4)
theorem light_low (d : Int) : Low (lightOf d) := by
  unfold Low lightOf
  dsimp only
  have h : ∀ x : Int, 0 ≤ x.fmod 5 ∧ x.fmod 5 ≤ 4 := fun x => ⟨Int.fmod_nonneg_of_pos x (by decide), by have := Int.fmod_lt_of_pos x (show (0 : Int) < 5 by decide); omega⟩
  exact ⟨h _, h _, h _⟩
theorem ok_last {M q : Int} (h : q ≤ M) (h' : M ≤ 12) (h0 : 0 ≤ q) : 0 ≤ M - q ∧ M - q ≤ 12 := by omega
theorem sum_rng {x y z : Int} (hx : 0 ≤ x ∧ x ≤ 4) (hy : 0 ≤ y ∧ y ≤ 4) (hz : 0 ≤ z ∧ z ≤ 4) : 0 ≤ x + (y + (z + 0)) ∧ x + (y + (z + 0)) ≤ 12 := by omega
theorem Low.ok {l : L3} (h : Low l) : OkL l :=
  have up : ∀ {x : Int}, 0 ≤ x ∧ x ≤ 4 → 0 ≤ x ∧ x ≤ 12 := fun h => ⟨h.1, Int.le_trans h.2 (by decide)⟩
  ⟨up h.1, up h.2.1, up h.2.2⟩
theorem rim_sum {x y z : L3} {M : Int} : vsum [vec x, vec y, vec z, vec (M - (x.1 + (y.1 + (z.1 + 0))), M - (x.2.1 + (y.2.1 + (z.2.1 + 0))), M - (x.2.2 + (y.2.2 + (z.2.2 + 0))))] = (0, 0) := by
  simp only [vsum, vec, add2, Prod.mk.injEq]
  constructor <;> omega
theorem rim_closed {x y z : L3} (hx : Low x) (hy : Low y) (hz : Low z) : Rim (closed [x, y, z]) := by
  have r0 : 0 ≤ partSum [x, y, z] 0 ∧ partSum [x, y, z] 0 ≤ 12 := sum_rng hx.1 hy.1 hz.1
  have r1 : 0 ≤ partSum [x, y, z] 1 ∧ partSum [x, y, z] 1 ≤ 12 := sum_rng hx.2.1 hy.2.1 hz.2.1
  have r2 : 0 ≤ partSum [x, y, z] 2 ∧ partSum [x, y, z] 2 ≤ 12 := sum_rng hx.2.2 hy.2.2 hz.2.2
  have m0 : partSum [x, y, z] 0 ≤ maxI (sums3 [x, y, z]) := le_maxI (.head _)
  have m1 : partSum [x, y, z] 1 ≤ maxI (sums3 [x, y, z]) := le_maxI (.tail _ (.head _))
  have m2 : partSum [x, y, z] 2 ≤ maxI (sums3 [x, y, z]) := le_maxI (.tail _ (.tail _ (.head _)))
  have hM : maxI (sums3 [x, y, z]) ≤ 12 := by
    have mm : maxI (sums3 [x, y, z]) ∈ [partSum [x, y, z] 0, partSum [x, y, z] 1, partSum [x, y, z] 2] := maxI_mem (List.cons_ne_nil _ _)
    generalize maxI (sums3 [x, y, z]) = M at mm
    rcases List.mem_cons.mp mm with e | mm
    · rw [e]; exact r0.2
    · rcases List.mem_cons.mp mm with e | mm
      · rw [e]; exact r1.2
      · rw [List.mem_singleton.mp mm]; exact r2.2
  refine ⟨?_, rfl, rim_sum⟩
  intro l hl
  rcases List.mem_append.mp hl with hl | hl
  · rcases List.mem_cons.mp hl with rfl | hl
    · exact hx.ok
    · rcases List.mem_cons.mp hl with rfl | hl
      · exact hy.ok
      · rw [List.mem_singleton.mp hl]; exact hz.ok
  · rw [List.mem_singleton.mp hl]
    exact ⟨ok_last m0 hM r0.1, ok_last m1 hM r1.1, ok_last m2 hM r2.1⟩
theorem six_lights (ns : List Int) : ∃ a b c d e f, lightsOf ns = [lightOf a, lightOf b, lightOf c, lightOf d, lightOf e, lightOf f] := ⟨_, _, _, _, _, _, rfl⟩
theorem plainT (ns : List Int) : Plain (rimA ns) (rimB ns) := by
  obtain ⟨a, b, c, d, e, f, h⟩ := six_lights ns
  unfold rimA rimB
  rw [h]
  exact plain_of (rim_closed (light_low a) (light_low b) (light_low c)) (rim_closed (light_low d) (light_low e) (light_low f))
end Mine
end

section
open PySem PySem.W PySem.Calls PyProof.Rows
set_option maxRecDepth 100000
set_option pp.maxSteps 3000
namespace Mine

theorem rep_ints {g : Fix} : ∀ {vs : List Value} {ns : List Int}, IntsAre vs ns → RepL g vs (ns.map .int)
  | _, _, .nil => .nil
  | _, _, .cons _ t r => .cons .ofInt (rep_ints r)

theorem law_goal {w : World} {s₁ : Shared} {mean : ExcName → Option Value} {mg mb m : Str → Option Value} {l fa : Addr} {vs : List Value} {ns : List Int} {h₁ : Heap} {tk : Nat} {o1 o0 : Obj} {nm : Str} {cd : Value} {Q : Flow → Shared → Prop} {E : Value → Shared → Prop}
    (H : Plain (rimA ns) (rimB ns)) (KX : (KK w).In s₁.heap) (T : Top VW LO mean mg mb s₁.heap) (hL : s₁.heap.IsList l vs.toArray) (hI : IntsAre vs ns) (hlen : ns.length ≤ 63)
    (F : Fr s₁.heap s₁.heap.objs.size h₁ m) (N : News s₁.heap s₁.heap.objs.size h₁ [(s₁.heap.objs.size + 1 + 1, o1), (s₁.heap.objs.size + 1, o0)]) (d1 : o1.data = .cell none) (d0 : o0.data = .cell none) (hm : m "script" = some (.ref l))
    (hQ : ∀ h' tk m', Fr s₁.heap s₁.heap.objs.size h' m' → Q (.ret (.bool true)) { s₁ with heap := h', toks := tk }) :
    wpAny (model PG w) (callerA.deeper (envOfC nm lawFn.2 s₁.heap.objs.size fa cd)) (execs lawFn.1 (envOfC nm lawFn.2 s₁.heap.objs.size fa cd)) Q E { s₁ with heap := h₁, toks := tk } := by
  obtain ⟨ol, hol, hcl, nl, hdl⟩ := hL
  have hce : (envOfC nm lawFn.2 s₁.heap.objs.size fa cd).cells = ([("sides", s₁.heap.objs.size + 1 + 1), ("cells", s₁.heap.objs.size + 1)] : List (Str × Addr)) := rfl
  have hlk : ∀ x c, (envOfC nm lawFn.2 s₁.heap.objs.size fa cd).cells.lookup x = some c → (x = "sides" ∧ c = s₁.heap.objs.size + 1 + 1) ∨ (x = "cells" ∧ c = s₁.heap.objs.size + 1) := by
    intro x c e
    rw [hce, List.lookup_cons, List.lookup_cons] at e
    cases h1 : x == ("sides" : Str) with
    | true => rw [h1] at e; cases e; exact .inl ⟨beq_iff_eq.mp h1, rfl⟩
    | false =>
      rw [h1] at e
      cases h2 : x == ("cells" : Str) with
      | true => rw [h2] at e; cases e; exact .inr ⟨beq_iff_eq.mp h2, rfl⟩
      | false => rw [h2] at e; cases e
  have n1 := N _ (.head _)
  have n0 := N _ (.tail _ (.head _))
  have nL : s₁.heap.get? s₁.heap.objs.size = none := fresh_none _
  have g_in : Fix.In (fun b => if b = l then some ol else none) s₁.heap := fun b o e => by
    by_cases hb : b = l
    · simp only [hb, if_true] at e; cases e; rw [hb]; exact hol
    · simp only [hb, if_false] at e; cases e
  have g_off : ∀ b, s₁.heap.get? b = none → (fun b => if b = l then some ol else none : Fix) b = none := fun b e => off_of_fresh g_in e
  have FS : FSt s₁.heap (fun b => if b = l then some ol else none) (envOfC nm lawFn.2 s₁.heap.objs.size fa cd) ["cells", "sides"] ⟨[("script", intsP ns)], []⟩ h₁ := by
    refine ⟨rfl, rfl, rfl, F.keep, fun b o e => F.keep b o (g_in b o e), nL, g_off _ nL, fun x hx => ?_, fun x hx y c e1 e2 => ?_, fun x c e => ?_, m, fun _ => none, fun _ => 0, F.ns, fun x c e => ?_, fun x pv e => ?_, fun x xs e => by simp at e, fun x y hx => by simp at hx⟩
    · rcases List.mem_cons.mp hx with rfl | hx
      · exact ⟨s₁.heap.objs.size + 1, rfl, n0.2.2, g_off _ n0.2.2, rfl⟩
      · rw [List.mem_singleton] at hx; subst hx
        exact ⟨s₁.heap.objs.size + 1 + 1, rfl, n1.2.2, g_off _ n1.2.2, rfl⟩
    · rcases hlk x c e1 with ⟨hx, hc⟩ | ⟨hx, hc⟩ <;> rcases hlk y c e2 with ⟨hy, hc'⟩ | ⟨hy, hc'⟩
      · rw [hx, hy]
      · exfalso
        have : @Eq Nat (s₁.heap.objs.size + 1 + 1) (s₁.heap.objs.size + 1) := hc.symm.trans hc'
        omega
      · exfalso
        have : @Eq Nat (s₁.heap.objs.size + 1) (s₁.heap.objs.size + 1 + 1) := hc.symm.trans hc'
        omega
      · rw [hx, hy]
    · show c ≠ s₁.heap.objs.size
      rcases hlk x c e with ⟨_, hc⟩ | ⟨_, hc⟩
      · rw [hc]; exact Nat.ne_of_gt (by omega)
      · rw [hc]; exact Nat.ne_of_gt (by omega)
    · rcases hlk x c e with ⟨_, hc⟩ | ⟨_, hc⟩
      · rw [hc]; exact ⟨o1, n1.1, d1⟩
      · rw [hc]; exact ⟨o0, n0.1, d0⟩
    · rw [List.lookup_cons] at e
      cases hx : x == ("script" : Str) with
      | false => rw [hx] at e; simp at e
      | true =>
        rw [hx] at e
        cases e
        rw [beq_iff_eq.mp hx]
        exact ⟨.ref l, Rep.ofLst (by simp) hcl hdl (rep_ints hI), .inl ⟨rfl, hm⟩⟩
  have G : Good 5 (callerA.deeper (envOfC nm lawFn.2 s₁.heap.objs.size fa cd)) := ⟨rfl, by show 1 + claimMargin + 1 + 5 < 900; decide, by show 4 + 3 + 30 * 5 < 9000; decide⟩
  have B : Based w s₁.heap := ⟨s₁.heap, mean, mg, mb, KX, T, Stays.refl _⟩
  refine wpAny_mono (law_exs (k := 0) hlen H w _ _ s₁.heap _ { s₁ with heap := h₁, toks := tk } Q G rfl B FS fun f g' h' tk' hf gs F' => ?_) (fun _ _ x => x) fun _ _ x => x.elim
  obtain ⟨v, rfl, rv⟩ := hf
  simp only [Rep] at rv
  subst rv
  obtain ⟨m', cm, la, nN, _⟩ := F'.body
  exact hQ h' tk' m' ⟨nN, F'.keep, Nat.le_refl _⟩

set_option maxHeartbeats 8000000 in
theorem final : PySem.Challenge.rw_wf0033_01.Holds := Mine.hd (by
  w_strict (k_go0; (
    refine law_goal (plainT _) (by assumption) (by assumption) (by assumption) (by assumption) (by omega) (by assumption) (by assumption) (by assumption) (by assumption) rfl ?_
    intro h' tk m' F'
    refine goodW_bool F' (by assumption) (raisesW_false (by wrow_none_raised)) ?_
    first | rfl | wrow_post)))
end Mine
end

theorem PySem.Challenge.cw_wf0033_01_holds : PySem.Challenge.rw_wf0033_01.Holds := by
  exact Mine.final
