import PyProof.Rows.All
import Wide.All
import OpenK.AllK
import Wide.FinOn
import Lean
import PySem.Challenge.RW_oy0168_01
set_option Elab.async false
set_option linter.unusedVariables false
set_option compiler.extract_closed false
section
open PySem PySem.W PyProof.Rows
set_option maxRecDepth 100000
set_option maxHeartbeats 8000000
namespace Mine
noncomputable def lawView : Program := view PySem.Challenge.pw_oy0168_01 [39]
noncomputable def lawLoose : List Str := (PySem.Challenge.pw_oy0168_01.main.body.take 39).flatMap bindsAtTop
noncomputable def lawXt (s : Shared) : Bool := xlAt lawView [] s && recOk [] s
theorem left_boot {p q : Program} {loose : List Str} {Xt : Shared → Bool} {α : Type} {Yf : Shared → α} {Ya : World → α} {N : Nat} (e : opening p = plainProg p.main.scope.names) (hN : Nat.ble 600 N = true) (f : ∀ s, fenceModules? p s = some s)
    (h : ∀ (w : World) (os : OsState), (topFrom treeTable p w N ⟨boot_heap w.params, #[], boot_drawn, boot_toks, os⟩).map (fun s => (openSeen q loose (importedModules p.main.body) Xt true s, Yf s)) = some (openGood q loose, Ya w)) : LeftO p q loose Xt Yf Ya N := fun w => by
  obtain ⟨s, a, b⟩ := Option.map_eq_some_iff.mp (boot_open e hN f w)
  obtain ⟨h0, gs, d, k, os⟩ := s
  simp only [Prod.mk.injEq] at b
  obtain ⟨rfl, rfl, rfl, rfl⟩ := b
  unfold openEnds
  rw [a]
  exact h w os
/-- the looks at the law's own text -/
theorem law_said : PySem.Challenge.rw_oy0168_01.wellSaid = true := by kernel_rfl
local macro_rules | `(tactic| o_law) => `(tactic| refine holds_law law_said fun said => ?_)
local macro_rules | `(tactic| o_head $H) => `(tactic| (refine holds_open (q := lawView) (loose := lawLoose) (Xt := lawXt) (XP := XL lawView []) (Yf := Hook.obs $H) (Ya := Hook.val $H) (YP := Hook.says $H) (d := ?dd) (kwd := ?kw) (N := 2432) ?hl (Hook.of $H) (Hook.keeps $H) (fun s e => xl_of s (Bool.and_eq_true_iff.mp e).1) XL.keeps ?ha ?hb ?hd (fun s e => recFacts_of (Bool.and_eq_true_iff.mp e).2) (by rfl) (by first | assumption | decide +kernel) ?he ⟨rfl, rfl, rfl, rfl, rfl, ?hf⟩ ?hw ?hc; (case ha => rfl); (case hb => rfl); (case hd => rfl); (case he => decide +kernel); (case hf => decide +kernel); (case hl => exact left_boot (by kernel_rfl) (by decide) (fun s => by kernel_rfl) (fun w os => by kernel_rfl))))
open_top hd for PySem.Challenge.rw_oy0168_01
end Mine
end
section
open PySem PySem.W PyProof.Rows PySem.Calls
set_option maxRecDepth 100000
set_option maxHeartbeats 4000000
namespace Mine
noncomputable abbrev Mw (w : World) : Model := model PySem.Challenge.rw_oy0168_01.row.prog w
/-- the room at level n: n frames, ten C units a frame -/
noncomputable def AA (n : Nat) : Around := { handled := none, depth := n, frames := none, guards := none, units := 10 * n }
theorem lift {α : Type} {M : Model} {A : Around} {n : Nat} {t : Sem α} {Q : α → Shared → Prop} {E : Value → Shared → Prop} {s : Shared}
    (h : wpAny M (AA n) t Q E s) (hh : A.handled = none) (hd : A.depth ≤ n) (hu : A.units ≤ 10 * n) : wpAny M A t Q E s :=
  fun Γ p hΓ => h Γ p ⟨hΓ.1.trans hh, Nat.le_trans hΓ.2.1 hd, fun _ hl => (nomatch hl), fun _ hl => (nomatch hl), Nat.le_trans hΓ.2.2.2.2 hu⟩
/-- from the heap h the tree ends, raises nothing, and what it gives with the heap behind it is in P -/
noncomputable def Ev {α : Type} (w : World) (n : Nat) (t : Sem α) (h : Heap) (P : α → Heap → Prop) : Prop :=
  ∀ (s : Shared) (tk : Nat), wpAny (Mw w) (AA n) t (fun a s' => ∃ h' tk', s' = { s with heap := h', toks := tk' } ∧ P a h') (fun _ _ => False) { s with heap := h, toks := tk }
section
variable {α β : Type} {w : World} {n : Nat} {t : Sem α} {h : Heap} {P P' : α → Heap → Prop}
theorem Ev.use {Q : α → Shared → Prop} {E : Value → Shared → Prop} {s : Shared} (e : Ev w n t s.heap P) (k : ∀ a h' tk', P a h' → Q a { s with heap := h', toks := tk' }) :
    wpAny (Mw w) (AA n) t Q E s :=
  wpAny_mono (e s s.toks) (fun a s' ⟨h', tk', e', p⟩ => e' ▸ k a h' tk' p) fun _ _ f => f.elim
theorem Ev.useA {Q : α → Shared → Prop} {E : Value → Shared → Prop} {s : Shared} {A : Around} (e : Ev w n t s.heap P) (hh : A.handled = none) (hd : A.depth ≤ n) (hu : A.units ≤ 10 * n)
    (k : ∀ a h' tk', P a h' → Q a { s with heap := h', toks := tk' }) : wpAny (Mw w) A t Q E s := lift (e.use k) hh hd hu
theorem Ev.mono (e : Ev w n t h P) (k : ∀ a h', P a h' → P' a h') : Ev w n t h P' := fun s tk =>
  wpAny_mono (e s tk) (fun a _ ⟨h', tk', e', p⟩ => ⟨h', tk', e', k a h' p⟩) fun _ _ f => f
theorem Ev.lift {m : Nat} (e : Ev w m t h P) (hm : n ≤ m) : Ev w n t h P := fun s tk => Mine.lift (e s tk) rfl hm (Nat.mul_le_mul_left 10 hm)
theorem Ev.pure {a : α} (p : P a h) : Ev w n (Pure.pure a) h P := fun _ tk => wpAny_pure ⟨h, tk, rfl, p⟩
theorem Ev.bind {f : α → Sem β} {R : β → Heap → Prop} (e : Ev w n t h fun a h' => Ev w n (f a) h' R) : Ev w n (t >>= f) h R := fun s tk =>
  wpAny_bind (wpAny_mono (e s tk) (fun a _ ⟨h', tk', e', p⟩ => e' ▸ p s tk') fun _ _ f => f)
/-- out of one of the library's rules -/
theorem Ev.by (k : ∀ (s : Shared) (tk : Nat) (Q : α → Shared → Prop), (∀ a h' tk', P a h' → Q a { s with heap := h', toks := tk' }) → wpAny (Mw w) (AA n) t Q (fun _ _ => False) { s with heap := h, toks := tk }) : Ev w n t h P :=
  fun s tk => k s tk _ fun a h' tk' p => ⟨h', tk', rfl, p⟩
end
section
variable {w : World} {n : Nat} {h : Heap} {env : Env}
theorem ev_nil {P : Flow → Heap → Prop} (p : P .next h) : Ev w n (execs [] env) h P := fun _ tk => wpAny_execs_nil ⟨h, tk, rfl, p⟩
theorem ev_cons {st : Stmt} {rest : List Stmt} {P : Flow → Heap → Prop}
    (e : Ev w n (exec st env) h fun f h' => match f with | .next => Ev w n (execs rest env) h' P | f => P f h') : Ev w n (execs (st :: rest) env) h P := by
  intro s tk
  refine wpAny_execs_cons (wpAny_mono (e s tk) (fun f s' hx => ?_) fun _ _ f => f)
  obtain ⟨h', tk', rfl, p⟩ := hx
  cases f with
  | next => exact p s tk'
  | _ => exact ⟨h', tk', rfl, p⟩
/-- a statement that goes on -/
theorem ev_then {st : Stmt} {rest : List Stmt} {P : Flow → Heap → Prop} {R : Heap → Prop}
    (e : Ev w n (exec st env) h fun f h' => f = .next ∧ R h') (k : ∀ h', R h' → Ev w n (execs rest env) h' P) : Ev w n (execs (st :: rest) env) h P :=
  ev_cons (e.mono fun f h' ⟨hf, r⟩ => by subst hf; exact k h' r)
theorem ev_int {i : Int} {k : Nat} {pos : Pos} {P : Value → Heap → Prop} (p : ∀ t, P (.int i t) h) : Ev w n (eval (.Constant (.int i) k pos) env) h P := fun _ tk => wpAny_Constant_int ⟨h, tk + 1, rfl, p tk⟩
theorem ev_str {x : Str} {k : Nat} {pos : Pos} {P : Value → Heap → Prop} (p : ∀ t, P (.str x t) h) : Ev w n (eval (.Constant (.str x) k pos) env) h P := fun _ tk => wpAny_Constant_str ⟨h, tk + 1, rfl, p tk⟩
theorem ev_none {k : Nat} {pos : Pos} {P : Value → Heap → Prop} (p : P .none h) : Ev w n (eval (.Constant .none k pos) env) h P := fun _ tk => wpAny_Constant_none ⟨h, tk, rfl, p⟩
theorem ev_name {x : Str} {pos : Pos} {P : Value → Heap → Prop} (e : Ev w n (loadName env x) h P) (hd : (x == ("__debug__" : Str)) = false := by decide +kernel) : Ev w n (eval (.Name x pos) env) h P := fun s tk => wpAny_Name (e s tk) hd
theorem ev_binop {l r : Expr} {op : Operator} {pos : Pos} {P : Value → Heap → Prop} (e : Ev w n (eval l env) h fun a h₁ => Ev w n (eval r env) h₁ fun b h₂ => Ev w n (binaryOp op a b) h₂ P) :
    Ev w n (eval (.BinOp l op r pos) env) h P := fun s tk =>
  wpAny_BinOp (wpAny_mono (e s tk) (fun _ _ ⟨_, tk₁, e₁, p₁⟩ => e₁ ▸ wpAny_mono (p₁ s tk₁) (fun _ _ ⟨_, tk₂, e₂, p₂⟩ => e₂ ▸ p₂ s tk₂) fun _ _ f => f) fun _ _ f => f)
theorem ev_compare {l r : Expr} {op : CmpOp} {pos : Pos} {P : Value → Heap → Prop} (e : Ev w n (eval l env) h fun a h₁ => Ev w n (eval r env) h₁ fun b h₂ => Ev w n (compareOp op a b) h₂ P)
    (hm : behindInMarks op r = false := by with_unfolding_all rfl) : Ev w n (eval (.Compare l [op] [r] pos) env) h P := fun s tk =>
  wpAny_Compare1 (wpAny_mono (e s tk) (fun _ _ ⟨_, tk₁, e₁, p₁⟩ => e₁ ▸ wpAny_mono (p₁ s tk₁) (fun _ _ ⟨_, tk₂, e₂, p₂⟩ => e₂ ▸ p₂ s tk₂) fun _ _ f => f) fun _ _ f => f) hm
theorem ev_test {l r : Expr} {op : CmpOp} {pos : Pos} {whole : Sem Value} {P : Bool → Heap → Prop} (e : Ev w n (eval l env) h fun a h₁ => Ev w n (eval r env) h₁ fun b h₂ => Ev w n (compareOp op a b) h₂ fun v h₃ => ∃ c, v = .bool c ∧ P c h₃)
    (hm : behindInMarks op r = false := by with_unfolding_all rfl) : Ev w n (isTrue (.Compare l [op] [r] pos) env whole) h P := fun s tk =>
  wpAny_isTrue_Compare1 (wpAny_mono (e s tk) (fun _ _ ⟨_, tk₁, e₁, p₁⟩ => e₁ ▸ wpAny_mono (p₁ s tk₁) (fun _ _ ⟨_, tk₂, e₂, p₂⟩ => e₂ ▸ wpAny_mono (p₂ s tk₂) (fun _ _ ⟨h₃, tk₃, e₃, c, hc, p₃⟩ => e₃ ▸ hc ▸ wpAny_truthy_bool ⟨h₃, tk₃, rfl, p₃⟩) fun _ _ f => f) fun _ _ f => f) fun _ _ f => f) hm
theorem ev_not {x : Expr} {pos : Pos} {whole : Sem Value} {P : Bool → Heap → Prop} (e : Ev w n (isTrue x env (eval x env)) h fun b h₁ => P (!b) h₁) : Ev w n (isTrue (.UnaryOp .Not x pos) env whole) h P := fun s tk => wpAny_isTrue_Not (e s tk)
theorem ev_and {vals : List Expr} {op : BoolOp} {pos : Pos} {whole : Sem Value} {P : Bool → Heap → Prop} (e : Ev w n (allTrue op vals env) h P) : Ev w n (isTrue (.BoolOp op vals pos) env whole) h P := fun s tk => wpAny_isTrue_BoolOp (e s tk)
theorem ev_and_nil {P : Bool → Heap → Prop} (p : P true h) : Ev w n (allTrue .And [] env) h P := fun _ tk => wpAny_allTrue_And_nil ⟨h, tk, rfl, p⟩
theorem ev_or_nil {P : Bool → Heap → Prop} (p : P false h) : Ev w n (allTrue .Or [] env) h P := fun _ tk => wpAny_allTrue_Or_nil ⟨h, tk, rfl, p⟩
theorem ev_and_cons {x : Expr} {rest : List Expr} {P : Bool → Heap → Prop} (e : Ev w n (isTrue x env (eval x env)) h fun b h₁ => if b then Ev w n (allTrue .And rest env) h₁ P else P false h₁) : Ev w n (allTrue .And (x :: rest) env) h P := fun s tk => by
  refine wpAny_allTrue_And_cons (wpAny_mono (e s tk) (fun b s' hx => ?_) fun _ _ f => f)
  obtain ⟨h', tk', rfl, p⟩ := hx
  cases b with
  | true => exact p s tk'
  | false => exact ⟨h', tk', rfl, p⟩
theorem ev_or_cons {x : Expr} {rest : List Expr} {P : Bool → Heap → Prop} (e : Ev w n (isTrue x env (eval x env)) h fun b h₁ => if b then P true h₁ else Ev w n (allTrue .Or rest env) h₁ P) : Ev w n (allTrue .Or (x :: rest) env) h P := fun s tk => by
  refine wpAny_allTrue_Or_cons (wpAny_mono (e s tk) (fun b s' hx => ?_) fun _ _ f => f)
  obtain ⟨h', tk', rfl, p⟩ := hx
  cases b with
  | true => exact ⟨h', tk', rfl, p⟩
  | false => exact p s tk'
theorem ev_truth {e : Expr} {whole : Sem Value} {P : Bool → Heap → Prop} (k : Ev w n whole h fun v h₁ => Ev w n (truthy v) h₁ P)
    (he : isTrue e env whole = (do let v ← whole; standAt e.pos; holding [v] (truthy v)) := by rfl) : Ev w n (isTrue e env whole) h P := fun s tk =>
  wpAny_isTrue_value (wpAny_mono (k s tk) (fun _ _ ⟨_, tk₁, e₁, p₁⟩ => e₁ ▸ p₁ s tk₁) fun _ _ f => f) he
theorem ev_ifexp {test a b : Expr} {pos : Pos} {P : Value → Heap → Prop} (e : Ev w n (isTrue test env (eval test env)) h fun c h₁ => if c then Ev w n (eval a env) h₁ P else Ev w n (eval b env) h₁ P) : Ev w n (eval (.IfExp test a b pos) env) h P := fun s tk => by
  refine wpAny_IfExp (wpAny_mono (e s tk) (fun c s' hx => ?_) fun _ _ f => f)
  obtain ⟨h', tk', rfl, p⟩ := hx
  cases c with
  | true => exact p s tk'
  | false => exact p s tk'
theorem ev_if {test : Expr} {a b : List Stmt} {pos : Pos} {P : Flow → Heap → Prop} (e : Ev w n (isTrue test env (eval test env)) h fun c h₁ => if c then Ev w n (execs a env) h₁ P else Ev w n (execs b env) h₁ P) : Ev w n (exec (.If test a b pos) env) h P := fun s tk => by
  refine wpAny_If (wpAny_mono (e s tk) (fun c s' hx => ?_) fun _ _ f => f)
  obtain ⟨h', tk', rfl, p⟩ := hx
  cases c with
  | true => exact p s tk'
  | false => exact p s tk'
theorem ev_return {x : Expr} {pos : Pos} {P : Flow → Heap → Prop} (e : Ev w n (eval x env) h fun v h₁ => P (.ret v) h₁) : Ev w n (exec (.Return (some x) pos) env) h P := fun s tk => wpAny_Return_some (e s tk)
theorem ev_break {pos : Pos} {P : Flow → Heap → Prop} (p : P .brk h) : Ev w n (exec (.Break pos) env) h P := fun _ tk => wpAny_Break ⟨h, tk, rfl, p⟩
theorem ev_continue {pos : Pos} {P : Flow → Heap → Prop} (p : P .cont h) : Ev w n (exec (.Continue pos) env) h P := fun _ tk => wpAny_Continue ⟨h, tk, rfl, p⟩
theorem ev_assign {x : Str} {p' pos : Pos} {value : Expr} {P : Flow → Heap → Prop} (e : Ev w n (eval value env) h fun v h₁ => Ev w n (storeName env x v) h₁ fun _ h₂ => P .next h₂)
    (hs : swapsWith value (some (.Name x p')) pos.line env = pure false := by rfl) : Ev w n (exec (.Assign [.Name x p'] value pos) env) h P := fun s tk =>
  wpAny_Assign_Name (wpAny_mono (e s tk) (fun _ _ ⟨_, tk₁, e₁, p₁⟩ => e₁ ▸ p₁ s tk₁) fun _ _ f => f) hs
theorem ev_expr {x : Expr} {pos : Pos} {P : Flow → Heap → Prop} (e : Ev w n (eval x env) h fun v h₁ => (∀ a, v ≠ .ref a) ∧ P .next h₁)
    (hi : interactive env = false := by rfl) (hs : swapsWith x none pos.line env = pure false := by rfl) : Ev w n (exec (.Expr x pos) env) h P := fun s tk =>
  wpAny_Expr (wpAny_mono (e s tk) (fun v _ ⟨h₁, tk₁, e₁, hv, p₁⟩ => by cases v with | ref a => exact absurd rfl (hv a) | _ => exact ⟨h₁, tk₁, e₁, p₁⟩) fun _ _ f => f) hi hs
theorem ev_items_nil {pos : Pos} {P : List Value → Heap → Prop} (p : P [] h) : Ev w n (spliced (backTo pos (starEach [] env))) h P := fun _ tk => wpAny_items_nil ⟨h, tk, rfl, p⟩
theorem ev_items_cons {pos : Pos} {x : Expr} {rest : List Expr} {P : List Value → Heap → Prop} (e : Ev w n (eval x env) h fun v h₁ => Ev w n (spliced (backTo pos (starEach rest env))) h₁ fun vs h₂ => P (v :: vs) h₂)
    (he : starEach (x :: rest) env = (false, eval x env) :: starEach rest env := by rfl) : Ev w n (spliced (backTo pos (starEach (x :: rest) env))) h P := fun s tk =>
  wpAny_items_cons (wpAny_mono (e s tk) (fun _ _ ⟨_, tk₁, e₁, p₁⟩ => e₁ ▸ p₁ s tk₁) fun _ _ f => f) he
end
end Mine
end
section
open PySem PySem.W PyProof.Rows PySem.Calls
set_option maxRecDepth 100000
set_option maxHeartbeats 4000000
namespace Mine
/-- the ground: the text's own objects, and what the library knows of the top -/
structure Gd (w : World) (g : Heap) : Prop where
  K : (hd.heap_1 w.params).In g
  T : ∃ p loose mean mg mb, Top p loose mean mg mb g
theorem Gd.keeps {w : World} {g g' : Heap} (G : Gd w g) (k : g.StaysIn g') : Gd w g' := ⟨G.K.keeps k, let ⟨p, l, m, a, b, T⟩ := G.T; ⟨p, l, m, a, b, T.keeps k⟩⟩
theorem Gd.nolimit {w : World} {g : Heap} (G : Gd w g) : g.NoLimit := let ⟨_, _, _, _, _, T⟩ := G.T; T.nolimit
noncomputable abbrev As := Obj → Prop
/-- the frame at L holds bs, the call's own objects ns are as said, what lies in g stays -/
structure Own (g : Heap) (L : Addr) (h : Heap) (bs : List (Str × Value)) (ns : List (Addr × As)) : Prop where
  keep : g.StaysIn h
  fr : ∃ m, h.Ns L m ∧ ∀ x v, (x, v) ∈ bs → m x = some v
  gL : g.get? L = none
  nw : ∀ p ∈ ns, (∃ o, h.get? p.1 = some o ∧ p.2 o) ∧ p.1 ≠ L ∧ g.get? p.1 = none
  nd : (ns.map (·.1)).Nodup
/-- all stands but a -/
noncomputable def But (a : Addr) (h h' : Heap) : Prop := ∀ b o, b ≠ a → h.get? b = some o → h'.get? b = some o
theorem But.of_same {a : Addr} {h h' : Heap} (s : Heap.SameBut a h h') : But a h h' := fun b o hb e => (s.2 b hb).trans e
theorem But.of_stays {a : Addr} {h h' : Heap} (s : h.StaysIn h') : But a h h' := fun b o _ e => s b o e
theorem But.trans {a : Addr} {h h' h'' : Heap} (x : But a h h') (y : But a h' h'') : But a h h'' := fun b o hb e => y b o hb (x b o hb e)
inductive UpdA (a : Addr) (φ' : As) : List (Addr × As) → List (Addr × As) → Prop
  | head {φ : As} {r : List (Addr × As)} : UpdA a φ' ((a, φ) :: r) ((a, φ') :: r)
  | tail {p : Addr × As} {r r' : List (Addr × As)} : UpdA a φ' r r' → UpdA a φ' (p :: r) (p :: r')
theorem UpdA.keys {a : Addr} {φ' : As} {l l' : List (Addr × As)} (u : UpdA a φ' l l') : l'.map (·.1) = l.map (·.1) := by
  induction u with
  | head => rfl
  | tail _ ih => rw [List.map_cons, List.map_cons, ih]
theorem UpdA.mem {a : Addr} {φ' : As} {l l' : List (Addr × As)} (u : UpdA a φ' l l') : a ∈ l.map (·.1) := by
  induction u with
  | head => exact List.mem_cons_self
  | tail _ ih => exact List.mem_cons_of_mem _ ih
theorem UpdA.cases {a : Addr} {φ' : As} {l l' : List (Addr × As)} (u : UpdA a φ' l l') (nd : (l.map (·.1)).Nodup) : ∀ p ∈ l', p = (a, φ') ∨ (p ∈ l ∧ p.1 ≠ a) := by
  induction u with
  | head =>
    intro p hp
    rw [List.map_cons, List.nodup_cons] at nd
    rcases List.mem_cons.mp hp with e | hp
    · exact .inl e
    · exact .inr ⟨.tail _ hp, fun e => nd.1 (List.mem_map.mpr ⟨p, hp, e⟩)⟩
  | tail u ih =>
    intro p hp
    rw [List.map_cons, List.nodup_cons] at nd
    rcases List.mem_cons.mp hp with e | hp
    · subst e; exact .inr ⟨.head _, fun e => nd.1 (e ▸ u.mem)⟩
    · rcases ih nd.2 p hp with e | ⟨h1, h2⟩
      · exact .inl e
      · exact .inr ⟨.tail _ h1, h2⟩
inductive Put (x : Str) (v : Value) : List (Str × Value) → List (Str × Value) → Prop
  | nil : Put x v [] [(x, v)]
  | hit {u : Value} {r : List (Str × Value)} : (∀ p ∈ r, p.1 ≠ x) → Put x v ((x, u) :: r) ((x, v) :: r)
  | skip {y : Str} {u : Value} {r r' : List (Str × Value)} : y ≠ x → Put x v r r' → Put x v ((y, u) :: r) ((y, u) :: r')
theorem Put.cases {x : Str} {v : Value} {bs bs' : List (Str × Value)} (p : Put x v bs bs') : ∀ q ∈ bs', q = (x, v) ∨ (q ∈ bs ∧ q.1 ≠ x) := by
  induction p with
  | nil => intro q hq; rcases List.mem_cons.mp hq with e | hq; exact .inl e; cases hq
  | hit hr =>
    intro q hq
    rcases List.mem_cons.mp hq with e | hq
    · exact .inl e
    · exact .inr ⟨.tail _ hq, hr q hq⟩
  | skip hy _ ih =>
    intro q hq
    rcases List.mem_cons.mp hq with e | hq
    · subst e; exact .inr ⟨.head _, hy⟩
    · exact (ih q hq).imp id fun ⟨a, b⟩ => ⟨.tail _ a, b⟩
theorem free_cons {x y : Str} {u : Value} {r : List (Str × Value)} (h : y ≠ x) (k : ∀ p ∈ r, p.1 ≠ x) : ∀ p ∈ (y, u) :: r, p.1 ≠ x := fun p hp => by
  rcases List.mem_cons.mp hp with e | hp
  · subst e; exact h
  · exact k p hp
theorem free_nil {x : Str} : ∀ p ∈ ([] : List (Str × Value)), p.1 ≠ x := fun _ hp => nomatch hp
section
variable {g : Heap} {L : Addr} {h h' : Heap} {bs bs' : List (Str × Value)} {ns ns' : List (Addr × As)}
theorem Own.stay (O : Own g L h bs ns) (k : h.StaysIn h') : Own g L h' bs ns :=
  ⟨fun b o e => k b o (O.keep b o e), let ⟨m, a, b⟩ := O.fr; ⟨m, a.keeps k, b⟩, O.gL, fun p hp => let ⟨⟨o, a, b⟩, c⟩ := O.nw p hp; ⟨⟨o, k _ _ a, b⟩, c⟩, O.nd⟩
theorem Own.store (O : Own g L h bs ns) {m m' : Str → Option Value} (hm : h.Ns L m) (hn : h'.Ns L m') (hs : Heap.SameBut L h h') {x : Str} {v : Value} (em : ∀ y, m' y = if y = x then some v else m y) (P : Put x v bs bs') : Own g L h' bs' ns := by
  obtain ⟨m₀, hm₀, hb⟩ := O.fr
  have e0 : ∀ y, m₀ y = m y := fun y => by
    obtain ⟨o, es, ep, a, b, _, c⟩ := hm₀
    obtain ⟨o', es', ep', a', b', _, c'⟩ := hm
    rw [a] at a'; cases a'
    rw [b] at b'; cases b'
    rw [← c, ← c']
  refine ⟨fun b o e => (hs.2 b fun q => ?_).trans (O.keep b o e), ⟨m', hn, fun y u hy => ?_⟩, O.gL, fun p hp => ?_, O.nd⟩
  · subst q; rw [O.gL] at e; cases e
  · rw [em]
    rcases P.cases _ hy with e | ⟨h1, h2⟩
    · cases e; rw [if_pos rfl]
    · rw [if_neg h2, ← e0]; exact hb y u h1
  · obtain ⟨⟨o, a, b⟩, c, d⟩ := O.nw p hp
    exact ⟨⟨o, (hs.2 _ c).trans a, b⟩, c, d⟩
theorem Own.push (O : Own g L h bs ns) {o : Obj} {φ : As} (hf : o.isFreed = false) (hφ : φ o) : Own g L (h.push o) bs ((h.objs.size, φ) :: ns) := by
  have O' := O.stay (h' := h.push o) fun b o' e => Heap.get?_push_of_some _ e
  obtain ⟨m, hm, _⟩ := O.fr
  have lt : ∀ p ∈ ns, p.1 < h.objs.size := fun p hp => let ⟨⟨o, a, _⟩, _⟩ := O.nw p hp; Heap.lt_size a
  refine ⟨O'.keep, O'.fr, O.gL, fun p hp => ?_, ?_⟩
  · rcases List.mem_cons.mp hp with e | hp
    · subst e
      refine ⟨⟨o, Heap.get?_push_size _ hf, hφ⟩, Nat.ne_of_gt hm.lt, ?_⟩
      cases q : g.get? h.objs.size with
      | none => rfl
      | some x => exact absurd (Heap.lt_size (O.keep _ _ q)) (Nat.lt_irrefl _)
    · exact O'.nw p hp
  · rw [List.map_cons, List.nodup_cons]
    refine ⟨fun q => ?_, O.nd⟩
    obtain ⟨p, hp, e⟩ := List.mem_map.mp q
    exact absurd (lt p hp) (e ▸ Nat.lt_irrefl _)
theorem Own.upd (O : Own g L h bs ns) {a : Addr} {φ' : As} (U : UpdA a φ' ns ns') (hb : But a h h') (ho : ∃ o, h'.get? a = some o ∧ φ' o) : Own g L h' bs ns' := by
  obtain ⟨p₀, hp₀, e₀⟩ := List.mem_map.mp U.mem
  have ha := (O.nw p₀ hp₀).2
  rw [e₀] at ha
  refine ⟨fun b o e => hb b o (fun q => ?_) (O.keep b o e), ?_, O.gL, fun p hp => ?_, by rw [U.keys]; exact O.nd⟩
  · subst q; rw [ha.2] at e; cases e
  · obtain ⟨m, ⟨o, es, ep, x, r⟩, z⟩ := O.fr
    exact ⟨m, ⟨o, es, ep, hb _ _ (Ne.symm ha.1) x, r⟩, z⟩
  · rcases U.cases O.nd p hp with e | ⟨h1, h2⟩
    · subst e; exact ⟨ho, ha⟩
    · obtain ⟨⟨o, x, y⟩, z⟩ := O.nw p h1
      exact ⟨⟨o, hb _ _ h2 x, y⟩, z⟩
theorem Own.sub (O : Own g L h bs ns) (s : ns'.Sublist ns) : Own g L h bs ns' :=
  ⟨O.keep, O.fr, O.gL, fun p hp => O.nw p (s.subset hp), (s.map _).nodup O.nd⟩
theorem Own.perm (O : Own g L h bs ns) (s : ns'.Perm ns) : Own g L h bs ns' :=
  ⟨O.keep, O.fr, O.gL, fun p hp => O.nw p (s.subset hp), (s.map _).nodup_iff.mpr O.nd⟩
theorem Own.binds (O : Own g L h bs ns) (s : ∀ p ∈ bs', p ∈ bs) : Own g L h bs' ns :=
  ⟨O.keep, let ⟨m, a, b⟩ := O.fr; ⟨m, a, fun x v hx => b x v (s _ hx)⟩, O.gL, O.nw, O.nd⟩
theorem Own.at (O : Own g L h bs ns) {a : Addr} {φ : As} (hm : (a, φ) ∈ ns) : ∃ o, h.get? a = some o ∧ φ o := (O.nw _ hm).1
theorem Own.fresh (O : Own g L h bs ns) {a : Addr} {φ : As} (hm : (a, φ) ∈ ns) : g.get? a = none := (O.nw _ hm).2.2
end
/-- a list, a tuple, a cell -/
noncomputable def LA (vs : List Value) : As := fun o => ∃ n, o = { cls := .type "list", data := .seq vs.toArray n }
noncomputable def TA (vs : List Value) : As := fun o => ∃ n, o = { cls := .type "tuple", data := .seq vs.toArray n }
noncomputable def CA (v : Option Value) : As := fun o => o.data = .cell v
theorem isPlain {h : Heap} {a : Addr} {vs : List Value} (e : ∃ o, h.get? a = some o ∧ LA vs o) : h.PlainList a vs.toArray := let ⟨_, x, n, z⟩ := e; ⟨n, z ▸ x⟩
theorem ofPlain {h : Heap} {a : Addr} {vs : List Value} (e : h.PlainList a vs.toArray) : ∃ o, h.get? a = some o ∧ LA vs o := let ⟨n, z⟩ := e; ⟨_, z, n, rfl⟩
theorem isList {h : Heap} {a : Addr} {vs : List Value} (e : ∃ o, h.get? a = some o ∧ LA vs o) : h.IsList a vs.toArray := (isPlain e).isList
theorem isTup {h : Heap} {a : Addr} {vs : List Value} (e : ∃ o, h.get? a = some o ∧ TA vs o) : IsTup h a vs.toArray := let ⟨o, x, n, z⟩ := e; ⟨o, x, by rw [z], n, by rw [z]⟩
theorem isCell {h : Heap} {a : Addr} {v : Option Value} (e : ∃ o, h.get? a = some o ∧ CA v o) : h.IsCell a v := let ⟨o, x, y⟩ := e; ⟨o, x, y⟩
section
variable {w : World} {n : Nat} {g h : Heap} {L : Addr} {env : Env} {bs bs' : List (Str × Value)} {ns ns' : List (Addr × As)} {x : Str} {v : Value}
theorem ev_local {pos : Pos} {P : Value → Heap → Prop} (O : Own g L h bs ns) (hb : (x, v) ∈ bs) (p : P v h) (hL : env.locals = L := by rfl) (hk : env.scope.kind = .function := by rfl) (hl : env.kindOf x = some .local := by rfl)
    (hd : (x == ("__debug__" : Str)) = false := by decide +kernel) : Ev w n (eval (.Name x pos) env) h P := by
  obtain ⟨m, hm, z⟩ := O.fr
  refine ev_name (fun s tk => ?_) hd
  exact wpAny_loadName_local hk hl (by rw [hL]; exact hm) (z _ _ hb) ⟨h, tk, rfl, p⟩
theorem ev_store {P : Unit → Heap → Prop} (O : Own g L h bs ns) (U : Put x v bs bs') (k : ∀ h', Own g L h' bs' ns → P () h') (hL : env.locals = L := by rfl) (hk : env.scope.kind = .function := by rfl) (hl : env.kindOf x = some .local := by rfl) :
    Ev w n (storeName env x v) h P := by
  obtain ⟨m, hm, z⟩ := O.fr
  subst hL
  intro s tk
  refine wpAny_storeName_local hl hm (fun h' hn hs => ⟨h', tk + 1, rfl, k h' (O.store hm hn hs (fun _ => rfl) U)⟩) ?_
  rw [hk]; rfl
theorem ev_global {pos : Pos} {P : Value → Heap → Prop} (G : Gd w g) (O : Own g L h bs ns) (e : nsIn (hd.heap_1 w.params) mainGlobals x = some (some v)) (p : P v h) (hg : env.globals = mainGlobals := by rfl) (hk : env.scope.kind = .function := by rfl)
    (hl : env.kindOf x = some .globalImplicit := by rfl) (hd : (x == ("__debug__" : Str)) = false := by decide +kernel) : Ev w n (eval (.Name x pos) env) h P := by
  obtain ⟨_, _, _, mg, mb, T⟩ := G.T
  intro s tk
  exact Calls.Name_function_global hk hl (Calls.loadGlobal_global (by rw [hg]; exact T.g.keeps O.keep) (mg_of G.K T.g e) ⟨h, tk, rfl, p⟩) hd
theorem ev_builtin {pos : Pos} {P : Value → Heap → Prop} (G : Gd w g) (O : Own g L h bs ns) (e : nsIn (hd.heap_1 w.params) mainGlobals x = some none) (hv : bootBuiltins x = some v) (p : P v h) (hn : x ≠ "__name__" := by decide +kernel) (hg : env.globals = mainGlobals := by rfl) (hB : env.builtins = builtinsNs := by rfl)
    (hk : env.scope.kind = .function := by rfl) (hl : env.kindOf x = some .globalImplicit := by rfl) (hd : (x == ("__debug__" : Str)) = false := by decide +kernel) : Ev w n (eval (.Name x pos) env) h P := by
  obtain ⟨_, _, _, mg, mb, T⟩ := G.T
  intro s tk
  exact Calls.Name_function_global hk hl (Calls.loadGlobal_builtin (by rw [hg]; exact T.g.keeps O.keep) (mg_none_of G.K T.g e) (by rw [hB]; exact T.b.keeps O.keep) ((T.builtins x hn).trans hv) ⟨h, tk, rfl, p⟩) hd
theorem ev_cell {pos : Pos} {c : Addr} {P : Value → Heap → Prop} (O : Own g L h bs ns) (hc : env.cells.lookup x = some c) (hb : (c, CA (some v)) ∈ ns) (p : P v h) (hk : env.scope.kind = .function := by rfl) (hl : env.kindOf x = some .cell := by rfl)
    (hd : (x == ("__debug__" : Str)) = false := by decide +kernel) : Ev w n (eval (.Name x pos) env) h P :=
  ev_name (fun _ tk => wpAny_loadName_cell hk hl hc (isCell (O.at hb)) ⟨h, tk, rfl, p⟩) hd
theorem ev_storecell {c : Addr} {φ : As} {v₀ : Option Value} {P : Unit → Heap → Prop} (O : Own g L h bs ns) (hc : env.cells.lookup x = some c) (hb : (c, φ) ∈ ns) (hφ : ∀ o, φ o → CA v₀ o) (U : UpdA c (CA (some v)) ns ns') (k : ∀ h', Own g L h' bs ns' → P () h') (hk : env.scope.kind = .function := by rfl)
    (hl : env.kindOf x = some .cell := by rfl) : Ev w n (storeName env x v) h P := by
  intro s tk
  have hh : ∃ o, h.get? c = some o ∧ CA v₀ o := let ⟨o, a, b⟩ := O.at hb; ⟨o, a, hφ o b⟩
  exact wpAny_storeName_cell hk hl hc (isCell hh) fun h' hi hs => ⟨h', tk, rfl, k h' (O.upd U (.of_same hs) hi)⟩
end
section
variable {w : World} {n : Nat} {g₀ h : Heap}
theorem ev_def {f : Addr} {fo : Obj} {fd : FuncData} {body : List Stmt} {args : List Value} {binds : List (Str × Value)} {P : Value → Heap → Prop} {names : List Str} (ns : List (Addr × As))
    (G : Gd w g₀) (hst : g₀.StaysIn h) (hn : ∀ p ∈ ns, (∃ o, h.get? p.1 = some o ∧ p.2 o) ∧ g₀.get? p.1 = none) (nd : (ns.map (·.1)).Nodup)
    (ho : (hd.heap_1 w.params).lookup f = some fo) (hfd : fo.data = .func fd) (hcd : codeIn (hd.heap_1 w.params) fd.code fd.qualname = true) (hb : fd.body = .stmts body)
    (hbind : bindArgs fd ⟨args, []⟩ = pure binds) (hloc : ∀ x ∈ binds, fd.scope.names.lookup x.1 = some .local) (hnm : binds.map (·.1) = names) (hnd' : names.Nodup) (hcell : ∀ x ∈ fd.scope.names, x.2 ≠ .cell)
    (e : ∀ g L h₁, Gd w g → g₀.StaysIn g → (∀ b o, h.get? b = some o → b ∉ ns.map (·.1) → g.get? b = some o) → (∀ b o, g.get? b = some o → h.get? b = some o) → Own g L h₁ binds ns →
      Ev w (n + 1) (execs body (callEnv fd L f)) h₁ (fun fl h' => P (match fl with | .ret v => v | _ => .none) h'))
    (hroom : n < 900 := by decide) (hco : fd.scope.isCoroutine = false := by rfl) (hgen : fd.scope.isGenerator = false := by rfl) (hk : fd.scope.kind = .function := by rfl) :
    Ev w n (call (.ref f) args) h P := by
  intro s tk
  have hnd : (binds.map (·.1)).Nodup := hnm ▸ hnd'
  have nm : ∀ b o, g₀.get? b = some o → b ∉ ns.map (·.1) := fun b o e q => by
    obtain ⟨p, hp, rfl⟩ := List.mem_map.mp q
    rw [(hn p hp).2] at e; cases e
  have st : g₀.StaysIn (hideAll h (ns.map (·.1))) := fun b o e => hideAll_get _ (hst b o e) (nm b o e)
  refine wpAny_call ?_
  refine codeAny_call_def (fd := fd) (body := body) (binds := binds) (show n < recursionLimit from Nat.lt_trans hroom (by decide)) (hst _ _ (G.K _ _ ho)) hfd (G.nolimit.keeps hst) (codeRec_of (G.K.keeps hst) hcd) hb (BindsTo.of_eq hbind) hcell hloc (fun h₁ hns hk₁ => ?_) hco hgen hk
  have key : ∀ x v, (x, v) ∈ binds → binds.reverse.lookup x = some v := by
    intro x v hx
    have hx' : (x, v) ∈ binds.reverse := List.mem_reverse.mpr hx
    have nd' : (binds.reverse.map (·.1)).Nodup := ((List.reverse_perm binds).map _).nodup_iff.mpr hnd
    generalize binds.reverse = l at hx' nd'
    induction l with
    | nil => cases hx'
    | cons p r ih =>
      rw [List.map_cons, List.nodup_cons] at nd'
      rw [List.lookup_cons]
      rcases List.mem_cons.mp hx' with e | hr
      · cases e; simp
      · have : (x == p.1) = false := by
          cases q : x == p.1 with
          | false => rfl
          | true => exact absurd (List.mem_map.mpr ⟨(x, v), hr, beq_iff_eq.mp q⟩) nd'.1
        rw [this]; exact ih hr nd'.2
  have O : Own (hideAll h (ns.map (·.1))) h.objs.size h₁ binds ns := by
    refine ⟨fun b o e => hk₁ b o (of_hideAll _ e), ⟨_, hns, key⟩, ?_, fun p hp => ?_, nd⟩
    · cases q : (hideAll h (ns.map (·.1))).get? h.objs.size with
      | none => rfl
      | some o => exact absurd (Heap.lt_size (of_hideAll _ q)) (Nat.lt_irrefl _)
    · obtain ⟨⟨o, a, b⟩, _⟩ := hn p hp
      exact ⟨⟨o, hk₁ _ _ a, b⟩, Nat.ne_of_lt (Heap.lt_size a), hideAll_none _ (List.mem_map_of_mem hp)⟩
  have E := e _ _ h₁ (G.keeps st) st (fun b o e q => hideAll_get _ e q) (fun b o e => of_hideAll _ e) O
  refine E.useA (s := { s with heap := h₁, toks := tk + binds.length }) rfl (Nat.le_refl _) (show 10 * n + 3 ≤ 10 * (n + 1) by omega) fun fl h' tk' p => ?_
  exact ⟨h', tk', rfl, p⟩
end
end Mine
end
section
open PySem PySem.W PyProof.Rows PySem.Calls
set_option maxRecDepth 100000
set_option maxHeartbeats 4000000
namespace Mine
section
variable {w : World} {n : Nat} {h : Heap} {a b : Int} {t u : Tok} {P : Value → Heap → Prop} {x y : Str}
theorem ev_add (p : ∀ t', P (.int (a + b) t') h) : Ev w n (binaryOp .Add (.int a t) (.int b u)) h P := fun _ tk => PyProof.Rows.add_int ⟨h, tk + 1, rfl, p _⟩
theorem ev_sub (p : ∀ t', P (.int (a - b) t') h) : Ev w n (binaryOp .Sub (.int a t) (.int b u)) h P := fun _ tk => PyProof.Rows.sub_int ⟨h, tk + 1, rfl, p _⟩
theorem ev_mul (hm : IntMulOk a b) (p : ∀ t', P (.int (a * b) t') h) : Ev w n (binaryOp .Mult (.int a t) (.int b u)) h P := fun _ tk => PyProof.Rows.mul_int ⟨h, tk + 1, rfl, p _⟩ hm
theorem ev_fdiv (hb : 0 < b ∧ b < 1073741824) (p : ∀ t', P (.int (a.fdiv b) t') h) : Ev w n (binaryOp .FloorDiv (.int a t) (.int b u)) h P := fun _ tk => PyProof.Rows.floordiv_int (by omega) ⟨h, tk + 1, rfl, p _⟩ (.inl (PyProof.noPylong_small (by omega)))
theorem ev_fmod (hb : 0 < b) (p : ∀ t', P (.int (a.fmod b) t') h) : Ev w n (binaryOp .Mod (.int a t) (.int b u)) h P := fun _ tk => PyProof.Rows.mod_int' (by omega) ⟨h, tk + 1, rfl, p _⟩
theorem ev_band (p : ∀ t', P (.int (Builtin.bitAnd a b) t') h) : Ev w n (binaryOp .BitAnd (.int a t) (.int b u)) h P := fun _ tk => PyProof.Rows.and_int ⟨h, tk + 1, rfl, p _⟩
theorem ev_shr1 (h0 : 0 ≤ a) (p : ∀ t', P (.int (a / 2) t') h) : Ev w n (binaryOp .RShift (.int a t) (.int 1 u)) h P := fun _ tk => wpAny_rshift1_int h0 ⟨h, tk + 1, rfl, p _⟩
theorem ev_eqi (p : P (.bool (a == b)) h) : Ev w n (compareOp .Eq (.int a t) (.int b u)) h P := fun _ tk => PyProof.Rows.eq_int ⟨h, tk, rfl, p⟩
theorem ev_nei (p : P (.bool (a != b)) h) : Ev w n (compareOp .NotEq (.int a t) (.int b u)) h P := fun _ tk => PyProof.Rows.ne_int ⟨h, tk, rfl, p⟩
theorem ev_lti (p : P (.bool (decide (a < b))) h) : Ev w n (compareOp .Lt (.int a t) (.int b u)) h P := fun _ tk => PyProof.Rows.lt_int ⟨h, tk, rfl, p⟩
theorem ev_gti (p : P (.bool (decide (b < a))) h) : Ev w n (compareOp .Gt (.int a t) (.int b u)) h P := fun _ tk => PyProof.Rows.gt_int ⟨h, tk, rfl, p⟩
theorem ev_isnone {v : Value} (p : P (.bool (v == .none)) h) : Ev w n (compareOp .Is v .none) h P := fun _ tk => is_none ⟨h, tk, rfl, p⟩
theorem ev_isnotnone {v : Value} (p : P (.bool (!(v == .none))) h) : Ev w n (compareOp .IsNot v .none) h P := fun _ tk => isNot_none ⟨h, tk, rfl, p⟩
theorem ev_eqs (p : P (.bool (x == y)) h) : Ev w n (compareOp .Eq (.str x t) (.str y u)) h P := fun _ tk => PyProof.Rows.eq_str ⟨h, tk, rfl, p⟩
theorem ev_nes (p : P (.bool (x != y)) h) : Ev w n (compareOp .NotEq (.str x t) (.str y u)) h P := fun _ tk => PyProof.Rows.ne_str ⟨h, tk, rfl, p⟩
theorem ev_gts (p : P (.bool (y.cps.toList < x.cps.toList)) h) : Ev w n (compareOp .Gt (.str x t) (.str y u)) h P := fun _ tk => PySem.P.gt_str ⟨h, tk, rfl, p⟩
theorem ev_adds (hz : x.length + y.length ≤ sizeLine) (p : ∀ t', P (.str (x ++ y) t') h) : Ev w n (binaryOp .Add (.str x t) (.str y u)) h P := fun _ _ => PyProof.Rows.add_str (fun t' tk => ⟨h, tk, rfl, p t'⟩) hz
theorem ev_ins (p : P (.bool (Txt.contains x y)) h) : Ev w n (compareOp .In (.str y u) (.str x t)) h P := fun _ tk => PySem.SB.contains ⟨h, tk, rfl, p⟩
end
section
variable {w : World} {n : Nat} {h : Heap} {env : Env} {P : Value → Heap → Prop}
theorem ev_subscript {value slice : Expr} {pos : Pos} (e : Ev w n (eval value env) h fun o h₁ => Ev w n (eval slice env) h₁ fun i h₂ => Ev w n (subscriptTail value slice o i) h₂ P) : Ev w n (eval (.Subscript value slice pos) env) h P := fun s tk =>
  Subscript_ (wpAny_mono (e s tk) (fun _ _ ⟨_, tk₁, e₁, p₁⟩ => e₁ ▸ wpAny_mono (p₁ s tk₁) (fun _ _ ⟨_, tk₂, e₂, p₂⟩ => e₂ ▸ p₂ s tk₂) fun _ _ f => f) fun _ _ f => f)
theorem ev_item_list {value slice : Expr} {l : Addr} {vs : List Value} {k : Int} {u : Tok} {v : Value} (hl : ∃ o, h.get? l = some o ∧ LA vs o) (h0 : 0 ≤ k) (h1 : k < 2 ^ 63) (hx : vs[k.toNat]? = some v) (p : P v h)
    (hs : subscripted slice false (.ref l) (.int k u) = operate [.ref l, .int k u] (getItem (.ref l) (.int k u)) := by with_unfolding_all rfl) : Ev w n (subscriptTail value slice (.ref l) (.int k u)) h P := fun _ tk =>
  tail_any (isList hl).typeIs slot_list_getitem.lookup (wpAny_getItem_list (isList hl) h0 h1 (by simpa using hx) ⟨h, tk, rfl, p⟩) hs
theorem ev_item_list_neg {value slice : Expr} {l : Addr} {vs : List Value} {k : Int} {u : Tok} {v : Value} (hl : ∃ o, h.get? l = some o ∧ LA vs o) (h0 : k < 0) (h1 : -(vs.length : Int) ≤ k) (hz : vs.length < 2 ^ 62) (hx : vs[(k + vs.length).toNat]? = some v) (p : P v h)
    (hs : subscripted slice false (.ref l) (.int k u) = operate [.ref l, .int k u] (getItem (.ref l) (.int k u)) := by with_unfolding_all rfl) : Ev w n (subscriptTail value slice (.ref l) (.int k u)) h P := fun _ tk =>
  tail_any (isList hl).typeIs slot_list_getitem.lookup (wpAny_getItem_list_neg (isList hl) h0 (by simpa using h1) (by omega) (by simpa using hx) ⟨h, tk, rfl, p⟩) hs
theorem ev_item_tup {value slice : Expr} {l : Addr} {vs : List Value} {k : Int} {u : Tok} {v : Value} (hl : ∃ o, h.get? l = some o ∧ TA vs o) (h0 : 0 ≤ k) (h1 : k < 2 ^ 63) (hx : vs[k.toNat]? = some v) (p : P v h)
    (hs : subscripted slice false (.ref l) (.int k u) = operate [.ref l, .int k u] (getItem (.ref l) (.int k u)) := by with_unfolding_all rfl) : Ev w n (subscriptTail value slice (.ref l) (.int k u)) h P := fun _ tk => by
  have hlt : k.toNat < vs.length := (List.getElem?_eq_some_iff.mp hx).1
  exact item_tupleT (isTup hl) (by omega) h1 (seqIndex_of h0 (by omega)) hx ⟨h, tk, rfl, p⟩ hs
theorem ev_item_str {value slice : Expr} {x : Str} {t u : Tok} {k : Int} (h0 : 0 ≤ k) (h1 : k < x.length) (hz : x.length ≤ 16777216) (p : ∀ t', P (.str (Txt.item x k) t') h)
    (hs : subscripted slice false (.str x t) (.int k u) = operate [.str x t, .int k u] (getItem (.str x t) (.int k u)) := by with_unfolding_all rfl)
    (ht : ∀ r, letTemporaryGo value (.str x t) r = pure () := by intro _; with_unfolding_all rfl) : Ev w n (subscriptTail value slice (.str x t) (.int k u)) h P := fun _ tk =>
  KXi.item (n := x.length) rfl (by omega) h1 hz (fun _ => ⟨h, tk + 1, rfl, p _⟩) hs ht
end
section
variable {w : World} {n : Nat} {g h : Heap} {L : Addr} {env : Env} {bs : List (Str × Value)} {ns : List (Addr × As)} {P : Value → Heap → Prop}
theorem ev_list {elts : List Expr} {pos : Pos} (e : Ev w n (spliced (backTo pos (starEach elts env))) h fun vs h₁ => vs.length ≤ 1000 ∧ ∃ g L bs ns, Own g L h₁ bs ns ∧ ∀ h₂ a, Own g L h₂ bs ((a, LA vs) :: ns) → (∀ b o, h₁.get? b = some o → h₂.get? b = some o) → P (.ref a) h₂) : Ev w n (eval (.List elts pos) env) h P := fun s tk => by
  refine wpAny_List (wpAny_mono (e s tk) (fun vs s' hx => ?_) fun _ _ f => f)
  obtain ⟨h₁, tk₁, rfl, hz, g, L, bs, ns, O, k⟩ := hx
  exact ⟨Nat.le_trans hz (by decide), _, tk₁, rfl, k _ _ (O.push rfl ⟨0, rfl⟩) fun b o e => Heap.get?_push_of_some _ e⟩
theorem ev_tuple {elts : List Expr} {c : Nat} {pos : Pos} (e : Ev w n (spliced (backTo pos (starEach elts env))) h fun vs h₁ => vs.length ≤ 1000 ∧ ∃ g L bs ns, Own g L h₁ bs ns ∧ ∀ h₂ a, Own g L h₂ bs ((a, TA vs) :: ns) → (∀ b o, h₁.get? b = some o → h₂.get? b = some o) → P (.ref a) h₂) : Ev w n (eval (.Tuple elts c pos) env) h P := fun s tk => by
  refine wpAny_Tuple (wpAny_mono (e s tk) (fun vs s' hx => ?_) fun _ _ f => f)
  obtain ⟨h₁, tk₁, rfl, hz, g, L, bs, ns, O, k⟩ := hx
  exact ⟨Nat.le_trans hz (by decide), _, tk₁, rfl, k _ _ (O.push rfl ⟨0, rfl⟩) fun b o e => Heap.get?_push_of_some _ e⟩
/-- a call by a name: of a def of the text's, of a built-in, of a built-in type; of arguments one and more -/
theorem ev_callg {x : Str} {p pos : Pos} {e : Expr} {rest : List Expr} {f : Addr} (G : Gd w g) (O : Own g L h bs ns) (hx : nsIn (hd.heap_1 w.params) mainGlobals x = some (some (.ref f))) (hk : keepIn (hd.heap_1 w.params) (.ref f) = true)
    (k : Ev w n (spliced (backTo pos (starEach (e :: rest) env))) h fun vs h₂ => g.StaysIn h₂ ∧ Ev w n (call (.ref f) vs) h₂ P) (hg : env.globals = mainGlobals := by rfl) (hke : env.scope.kind = .function := by rfl) (hl : env.kindOf x = some .globalImplicit := by rfl) (hdb : (x == ("__debug__" : Str)) = false := by decide +kernel)
    (he : starEach (e :: rest) env = (false, eval e env) :: starEach rest env := by rfl) (hplain : (backTo pos (starEach rest env)).any (·.1) = false := by rfl) : Ev w n (eval (.Call (.Name x p) (e :: rest) [] pos) env) h P := fun s tk => by
  refine Call_ (ev_global (P := fun v h' => v = .ref f ∧ h' = h) G O hx ⟨rfl, rfl⟩ hg hke hl hdb |>.use (s := { s with heap := h, toks := tk }) fun v h₁ tk₁ hv => ?_) rfl
  obtain ⟨rfl, rfl⟩ := hv
  refine callWith_K (first := []) G.K hk (wpAny_mono (k s tk₁) (fun vs s₁ hx => ?_) fun _ _ f => f) he hplain
  obtain ⟨h₂, tk₂, rfl, st, q⟩ := hx
  exact ⟨G.K.keeps st, q s tk₂⟩
theorem ev_callb {x : Str} {p pos : Pos} {e : Expr} {rest : List Expr} {id : String} (G : Gd w g) (O : Own g L h bs ns) (hx : nsIn (hd.heap_1 w.params) mainGlobals x = some none) (hv : bootBuiltins x = some (.builtin id))
    (k : Ev w n (spliced (backTo pos (starEach (e :: rest) env))) h fun vs h₂ => Ev w n (call (.builtin id) vs) h₂ P) (hn : x ≠ "__name__" := by decide +kernel) (hg : env.globals = mainGlobals := by rfl) (hB : env.builtins = builtinsNs := by rfl) (hke : env.scope.kind = .function := by rfl) (hl : env.kindOf x = some .globalImplicit := by rfl) (hdb : (x == ("__debug__" : Str)) = false := by decide +kernel)
    (he : starEach (e :: rest) env = (false, eval e env) :: starEach rest env := by rfl) (hplain : (backTo pos (starEach rest env)).any (·.1) = false := by rfl) : Ev w n (eval (.Call (.Name x p) (e :: rest) [] pos) env) h P := fun s tk => by
  refine Call_ (ev_builtin (P := fun v h' => v = .builtin id ∧ h' = h) G O hx hv ⟨rfl, rfl⟩ hn hg hB hke hl hdb |>.use (s := { s with heap := h, toks := tk }) fun v h₁ tk₁ hv => ?_) rfl
  obtain ⟨rfl, rfl⟩ := hv
  rw [he] at k ⊢
  refine Calls.callWith_builtin (first := []) (by show (false || (backTo pos (starEach rest env)).any (·.1)) = false; rw [hplain]; rfl) (Calls.evalArgs_plain (wpAny_mono (k s tk₁) (fun vs s₁ hx => ?_) fun _ _ f => f))
  obtain ⟨h₂, tk₂, rfl, q⟩ := hx
  exact q s tk₂
theorem ev_callt {x : Str} {p pos : Pos} {e : Expr} {rest : List Expr} {T : String} (G : Gd w g) (O : Own g L h bs ns) (hx : nsIn (hd.heap_1 w.params) mainGlobals x = some none) (hv : bootBuiltins x = some (.type T))
    (k : Ev w n (spliced (backTo pos (starEach (e :: rest) env))) h fun vs h₂ => Ev w n (call (.type T) vs) h₂ P) (hn : x ≠ "__name__" := by decide +kernel) (hg : env.globals = mainGlobals := by rfl) (hB : env.builtins = builtinsNs := by rfl) (hke : env.scope.kind = .function := by rfl) (hl : env.kindOf x = some .globalImplicit := by rfl) (hdb : (x == ("__debug__" : Str)) = false := by decide +kernel)
    (he : starEach (e :: rest) env = (false, eval e env) :: starEach rest env := by rfl) (hplain : (backTo pos (starEach rest env)).any (·.1) = false := by rfl) : Ev w n (eval (.Call (.Name x p) (e :: rest) [] pos) env) h P := fun s tk => by
  refine Call_ (ev_builtin (P := fun v h' => v = .type T ∧ h' = h) G O hx hv ⟨rfl, rfl⟩ hn hg hB hke hl hdb |>.use (s := { s with heap := h, toks := tk }) fun v h₁ tk₁ hv => ?_) rfl
  obtain ⟨rfl, rfl⟩ := hv
  rw [he] at k ⊢
  refine PyProof.Rows.callWith_type (first := []) (by show (false || (backTo pos (starEach rest env)).any (·.1)) = false; rw [hplain]; rfl) (Calls.evalArgs_plain (wpAny_mono (k s tk₁) (fun vs s₁ hx => ?_) fun _ _ f => f))
  obtain ⟨h₂, tk₂, rfl, q⟩ := hx
  exact q s tk₂
end
end Mine
end
section
open PySem PySem.W PyProof.Rows PySem.Calls
set_option maxRecDepth 100000
set_option maxHeartbeats 4000000
namespace Mine
/-- a loop's code, run by its frame -/
noncomputable def EvL (w : World) (n : Nat) (c : Code) (env : Env) (h : Heap) (P : Flow → Heap → Prop) : Prop :=
  ∀ (s : Shared) (tk : Nat), codeAny (Mw w) (AA n) c (fun r s' => match r with
    | .ok f => ∃ h' tk', s' = { s with heap := h', toks := tk' } ∧ P f h'
    | .error e => cameBackBy (Mw w) (AA n) env (fun _ _ => False) e s') { s with heap := h, toks := tk }
section
variable {w : World} {n : Nat} {h : Heap} {env : Env} {P : Flow → Heap → Prop}
theorem ev_for {target iter : Expr} {body orelse : List Stmt} {pos : Pos} (e : Ev w n (eval iter env) h fun xv h₁ => Ev w n (pyIter xv) h₁ fun it h₂ => EvL w n (.forLoop target it body orelse env) env h₂ P)
    (hs : ∀ x, foldedSetIterable iter env x = pure x := by intro _; rfl) : Ev w n (exec (.For target iter body orelse pos) env) h P := fun s tk => by
  refine wpAny_For (wpAny_mono (e s tk) (fun _ _ ⟨_, tk₁, e₁, p₁⟩ => e₁ ▸ wpAny_mono (p₁ s tk₁) (fun it s₂ hx => ?_) fun _ _ f => f) fun _ _ f => f) hs
  obtain ⟨h₂, tk₂, rfl, p₂⟩ := hx
  exact p₂ s tk₂
theorem ev_while {test : Expr} {body orelse : List Stmt} {pos : Pos} (e : EvL w n (.whileLoop test body orelse env) env h P) : Ev w n (exec (.While test body orelse pos) env) h P := fun s tk => wpAny_While (e s tk)
/-- a while by its measure -/
theorem evl_while {test : Expr} {body orelse : List Stmt} (I : Nat → Heap → Prop)
    (turn : ∀ k h, I k h → Ev w n (isTrue test env (eval test env)) h fun b h₁ => if b then Ev w n (execs body env) h₁ fun f h₂ => match f with
        | .next | .cont => ∃ m, m < k ∧ I m h₂
        | .brk => P .next h₂
        | .ret v => P (.ret v) h₂
      else Ev w n (execs orelse env) h₁ P) (k : Nat) (i : I k h) : EvL w n (.whileLoop test body orelse env) env h P := by
  intro s tk
  refine codeAny_whileLoop (fun k s' => ∃ h' tk', s' = { s with heap := h', toks := tk' } ∧ I k h') ?_ k ⟨h, tk, rfl, i⟩
  rintro k s' ⟨h', tk', rfl, i'⟩
  refine (turn k h' i').use (s := { s with heap := h', toks := tk' }) fun b h₁ tk₁ p => ?_
  cases b with
  | true =>
    simp only [if_true] at p ⊢
    refine p.use (s := { s with heap := h₁, toks := tk₁ }) fun f h₂ tk₂ q => ?_
    cases f with
    | next => obtain ⟨m, hm, im⟩ := q; exact ⟨m, hm, h₂, tk₂, rfl, im⟩
    | cont => obtain ⟨m, hm, im⟩ := q; exact ⟨m, hm, h₂, tk₂, rfl, im⟩
    | brk => exact ⟨h₂, tk₂, rfl, q⟩
    | ret v => exact ⟨h₂, tk₂, rfl, q⟩
  | false =>
    simp only [Bool.false_eq_true, if_false] at p ⊢
    exact p.use (s := { s with heap := h₁, toks := tk₁ }) fun f h₂ tk₂ q => ⟨h₂, tk₂, rfl, q⟩
/-- a for by its measure, bare -/
theorem evl_for {target : Expr} {it : Value} {body orelse : List Stmt} (I : Nat → Heap → Prop)
    (turn : ∀ k h, I k h → Ev w n (pyNext it) h fun r h₁ => match r with
      | none => Ev w n (execs orelse env) h₁ P
      | some v => Ev w n (letOwnedTupleGo target it v) h₁ fun _ h₂ => Ev w n (assign target env v) h₂ fun _ h₃ => Ev w n (execs body env) h₃ fun f h₄ => match f with
        | .next | .cont => ∃ m, m < k ∧ I m h₄
        | .brk => P .next h₄
        | .ret v => P (.ret v) h₄) (k : Nat) (i : I k h) : EvL w n (.forLoop target it body orelse env) env h P := by
  intro s tk
  refine codeAny_forLoop_any (fun k s' => ∃ h' tk', s' = { s with heap := h', toks := tk' } ∧ I k h') ?_ k ⟨h, tk, rfl, i⟩
  rintro k s' ⟨h', tk', rfl, i'⟩
  refine (turn k h' i').use (s := { s with heap := h', toks := tk' }) fun r h₁ tk₁ p => ?_
  cases r with
  | none => exact p.use (s := { s with heap := h₁, toks := tk₁ }) fun f h₂ tk₂ q => ⟨h₂, tk₂, rfl, q⟩
  | some v =>
    refine p.use (s := { s with heap := h₁, toks := tk₁ }) fun _ h₂ tk₂ p => p.use (s := { s with heap := h₂, toks := tk₂ }) fun _ h₃ tk₃ p => p.use (s := { s with heap := h₃, toks := tk₃ }) fun f h₄ tk₄ q => ?_
    cases f with
    | next => obtain ⟨m, hm, im⟩ := q; exact ⟨m, hm, h₄, tk₄, rfl, im⟩
    | cont => obtain ⟨m, hm, im⟩ := q; exact ⟨m, hm, h₄, tk₄, rfl, im⟩
    | brk => exact ⟨h₄, tk₄, rfl, q⟩
    | ret v => exact ⟨h₄, tk₄, rfl, q⟩
end
/-- an iterator of N turns: its object before the i-th turn is in IA i -/
structure ItOk (w : World) (n : Nat) (I : Addr) (N : Nat) (V : Nat → Value → Prop) (IA : Nat → As) (Lf : Heap → Prop) : Prop where
  next : ∀ i h (P : Option Value → Heap → Prop), i < N → (∃ o, h.get? I = some o ∧ IA i o) → Lf h → (∀ v h', V i v → (∃ o, h'.get? I = some o ∧ IA (i + 1) o) → But I h h' → P (some v) h') → Ev w n (pyNext (.ref I)) h P
  done : ∀ h (P : Option Value → Heap → Prop), (∃ o, h.get? I = some o ∧ IA N o) → Lf h → (∀ h', But I h h' → P none h') → Ev w n (pyNext (.ref I)) h P
theorem Own.drop {g : Heap} {L : Addr} {h h' : Heap} {bs : List (Str × Value)} {ns : List (Addr × As)} {a : Addr} {φ : As} (O : Own g L h bs ((a, φ) :: ns)) (b : But a h h') : Own g L h' bs ns := by
  have nd := O.nd
  rw [List.map_cons, List.nodup_cons] at nd
  have ha := (O.nw _ (.head _)).2
  refine ⟨fun c o e => b c o (fun q => ?_) (O.keep c o e), ?_, O.gL, fun p hp => ?_, nd.2⟩
  · subst q; rw [ha.2] at e; cases e
  · obtain ⟨m, ⟨o, es, ep, x, r⟩, z⟩ := O.fr
    exact ⟨m, ⟨o, es, ep, b _ _ (Ne.symm ha.1) x, r⟩, z⟩
  · obtain ⟨⟨o, x, y⟩, z⟩ := O.nw p (.tail _ hp)
    exact ⟨⟨o, b _ _ (fun e => nd.1 (List.mem_map.mpr ⟨p, hp, e⟩)) x, y⟩, z⟩
section
variable {w : World} {n : Nat} {g h : Heap} {L : Addr} {env : Env} {bs : List (Str × Value)} {ns : List (Addr × As)} {P : Flow → Heap → Prop}
theorem evl_it {target : Expr} {body orelse : List Stmt} {I : Addr} {N : Nat} {V : Nat → Value → Prop} {IA : Nat → As} {Lf : Heap → Prop} (It : ItOk w n I N V IA Lf) (J : Nat → List (Str × Value) → List (Addr × As) → Prop)
    (hLf : ∀ i h bs ns φ, J i bs ns → Own g L h bs ((I, φ) :: ns) → Lf h)
    (turn : ∀ i v h bs ns, i < N → V i v → J i bs ns → Own g L h bs ((I, IA (i + 1)) :: ns) →
      Ev w n (letOwnedTupleGo target (.ref I) v) h fun _ h₁ => Ev w n (assign target env v) h₁ fun _ h₂ => Ev w n (execs body env) h₂ fun f h₃ => match f with
        | .next | .cont => ∃ bs' ns', J (i + 1) bs' ns' ∧ Own g L h₃ bs' ((I, IA (i + 1)) :: ns')
        | .brk => P .next h₃
        | .ret v => P (.ret v) h₃)
    (fin : ∀ h bs ns, J N bs ns → Own g L h bs ns → Ev w n (execs orelse env) h P)
    (O : Own g L h bs ((I, IA 0) :: ns)) (j0 : J 0 bs ns) : EvL w n (.forLoop target (.ref I) body orelse env) env h P := by
  refine evl_for (fun k h => ∃ i bs ns, i ≤ N ∧ k = N - i ∧ J i bs ns ∧ Own g L h bs ((I, IA i) :: ns)) ?_ N ⟨0, bs, ns, Nat.zero_le _, rfl, j0, O⟩
  rintro k h ⟨i, bs, ns, hi, rfl, j, O⟩
  by_cases hlt : i < N
  · refine It.next i h _ hlt (O.at (.head _)) (hLf i h bs ns _ j O) fun v h' hv ho hb => ?_
    refine (turn i v h' bs ns hlt hv j (O.upd .head hb ho)).mono fun _ h₁ e => e.mono fun _ h₂ e => e.mono fun f h₃ q => ?_
    cases f with
    | next => obtain ⟨bs', ns', j', O'⟩ := q; exact ⟨N - (i + 1), by omega, i + 1, bs', ns', hlt, rfl, j', O'⟩
    | cont => obtain ⟨bs', ns', j', O'⟩ := q; exact ⟨N - (i + 1), by omega, i + 1, bs', ns', hlt, rfl, j', O'⟩
    | brk => exact q
    | ret v => exact q
  · have : i = N := by omega
    subst this
    exact It.done h _ (O.at (.head _)) (hLf i h bs ns _ j O) fun h' hb => fin h' bs ns j (O.drop hb)
/-- the target a name: its store -/
theorem ev_target {x : Str} {px : Pos} {it v : Value} {Q : Unit → Heap → Prop} (e : Ev w n (storeName env x v) h Q) : Ev w n (letOwnedTupleGo (.Name x px) it v) h fun _ h₁ => Ev w n (assign (.Name x px) env v) h₁ Q := fun _ tk =>
  wpAny_pure ⟨h, tk, rfl, fun s tk => wpAny_assign_Name (e s tk)⟩
end
/-- the iterators: of a list, of a range -/
noncomputable def LI (l : Addr) (i : Nat) : As := fun o => o.cls = .type "list_iterator" ∧ o.data = .fields #[.ref l, .int i 0]
theorem it_list {w : World} {n : Nat} {I l : Addr} {vs : List Value} : ItOk w n I vs.length (fun i v => vs[i]? = some v) (LI l) (fun h => ∃ o, h.get? l = some o ∧ LA vs o) where
  next := fun i h P hi ⟨o, ho, hc, hd⟩ hl k s tk => wpAny_pyNext_list_item (s := { s with heap := h, toks := tk }) ⟨o, ho, hc, hd⟩ (isList hl) (x := vs[i]) (by simp [hi]) fun h' hit hs => ⟨h', tk, rfl, k _ h' (by simp [hi]) hit (.of_same hs)⟩
  done := fun h P ⟨o, ho, hc, hd⟩ hl k s tk => wpAny_pyNext_list_end (s := { s with heap := h, toks := tk }) rfl ⟨o, ho, hc, hd⟩ (isList hl) (by simp) fun h' hs => ⟨h', tk, rfl, k h' hs⟩
theorem ev_iter_list {w : World} {n : Nat} {g h : Heap} {L l : Addr} {vs : List Value} {bs : List (Str × Value)} {ns : List (Addr × As)} {P : Value → Heap → Prop} (O : Own g L h bs ns) (hl : ∃ o, h.get? l = some o ∧ LA vs o)
    (k : ∀ I h', Own g L h' bs ((I, LI l 0) :: ns) → P (.ref I) h') : Ev w n (pyIter (.ref l)) h P := fun _ tk => wpAny_pyIter_list (isList hl) ⟨_, tk, rfl, k _ _ (O.push rfl ⟨rfl, rfl⟩)⟩
noncomputable def RA (N : Nat) : As := fun o => ∃ t u v, o = { cls := .type "range", data := .fields #[.int 0 t, .int N u, .int 1 v] }
noncomputable def RI (N i : Nat) : As := fun o => o = { cls := .type "range_iterator", data := .fields #[rawInt (i : Int), rawInt ((N : Int) - i), rawInt 1] }
theorem range_size (N : Nat) : Builtin.Range.rangeSize 0 N 1 = N := by
  unfold Builtin.Range.rangeSize
  by_cases h : (0 : Int) < N
  · simp only [show (1 : Int) > 0 by decide, if_true, if_pos h]; omega
  · simp only [show (1 : Int) > 0 by decide, if_true, if_neg h]; omega
theorem range_small {N : Nat} (h : N < 2 ^ 31) : Builtin.Range.small 0 N 1 = true := by
  unfold Builtin.Range.small
  rw [range_size]
  unfold Builtin.Range.rangeFitsLong
  simp only [show (1 : Int) > 0 by decide, if_true, Bool.and_eq_true, Bool.or_eq_true, decide_eq_true_eq, beq_iff_eq]
  omega
section
variable {w : World} {n : Nat} {g h : Heap} {L r : Addr} {N : Nat} {bs : List (Str × Value)} {ns : List (Addr × As)} {P : Value → Heap → Prop}
theorem ev_range {t : Tok} {k : Int} (O : Own g L h bs ns) (hk : k = (N : Int)) (p : ∀ r h', Own g L h' bs ((r, RA N) :: ns) → h.StaysIn h' → P (.ref r) h') : Ev w n (call (.type "range") [.int k t]) h P := fun _ tk => by
  subst hk
  exact call_range_1 ⟨_, tk + 1 + 1, rfl, p _ _ (O.push rfl ⟨_, _, _, rfl⟩) fun _ _ e => Heap.get?_push_of_some _ e⟩
theorem ev_iter_range (O : Own g L h bs ns) (hr : ∃ o, h.get? r = some o ∧ RA N o) (hN : N < 2 ^ 31) (p : ∀ I h', Own g L h' bs ((I, RI N 0) :: ns) → P (.ref I) h') : Ev w n (pyIter (.ref r)) h P := fun s tk => by
  obtain ⟨o, ho, t, u, v, rfl⟩ := hr
  refine wpAny_pyIter_range (s := { s with heap := h, toks := tk }) ho (range_small hN) ⟨_, tk, rfl, p _ _ (O.push rfl ?_)⟩
  rw [range_size]
  show _ = _
  simp
theorem it_range {I : Addr} : ItOk w n I N (fun i v => ∃ t, v = .int (i : Int) t) (RI N) (fun _ => True) where
  next := fun i h P hi ⟨o, ho, e⟩ _ k s tk => by
    subst e
    refine wpAny_pyNext_range_item (s := { s with heap := h, toks := tk }) ho (by omega) fun h' hit hs => ⟨h', tk + 1, rfl, k _ h' ⟨tk, rfl⟩ ⟨_, hit, ?_⟩ (.of_same hs)⟩
    show _ = _
    rw [show ((i + 1 : Nat) : Int) = (i : Int) + 1 by omega, show (N : Int) - ((i : Int) + 1) = (N : Int) - i - 1 by omega]
  done := fun h P ⟨o, ho, e⟩ _ k s tk => by
    subst e
    exact wpAny_pyNext_range_end (s := { s with heap := h, toks := tk }) rfl ho (by omega) fun h' hs => ⟨h', tk, rfl, k h' hs⟩
end
end Mine
end
section
open PySem PySem.W PyProof.Rows PySem.Calls
set_option maxRecDepth 100000
set_option maxHeartbeats 4000000
namespace Mine
/-- what follows a statement -/
noncomputable def Then (w : World) (n : Nat) (rest : List Stmt) (env : Env) (P : Flow → Heap → Prop) (f : Flow) (h : Heap) : Prop := match f with
  | .next => Ev w n (execs rest env) h P
  | f => P f h
section
variable {w : World} {n : Nat} {h : Heap} {env : Env} {rest : List Stmt} {P : Flow → Heap → Prop}
theorem then_next (e : Ev w n (execs rest env) h P) : Then w n rest env P .next h := e
theorem then_ret {v : Value} (e : P (.ret v) h) : Then w n rest env P (.ret v) h := e
theorem then_brk (e : P .brk h) : Then w n rest env P .brk h := e
theorem then_cont (e : P .cont h) : Then w n rest env P .cont h := e
theorem ev_seq {st : Stmt} (e : Ev w n (exec st env) h (Then w n rest env P)) : Ev w n (execs (st :: rest) env) h P :=
  ev_cons (e.mono fun f h' p => by cases f <;> exact p)
theorem wp_execs_append {M : Model} {Γ : Ctx} {Q : Flow → Pos → Shared → Prop} {E : Value → Pos → Shared → Prop} (b : List Stmt) : ∀ (a : List Stmt) (p : Pos) (s : Shared),
    Sem.wp M Γ (execs (a ++ b) env) Q E p s = Sem.wp M Γ (execs a env) (fun f p' s' => match f with | .next => Sem.wp M Γ (execs b env) Q E p' s' | f => Q f p' s') E p s
  | [], p, s => by
    show Sem.wp M Γ (execs b env) Q E p s = Sem.wp M Γ (Pure.pure Flow.next) _ E p s
    rw [Sem.wp_pure']
  | x :: a, p, s => by
    show Sem.wp M Γ (execs (x :: (a ++ b)) env) Q E p s = _
    rw [execs_cons, execs_cons, Sem.wp_bind', Sem.wp_bind']
    refine congrArg (fun R => Sem.wp M Γ (exec x env) R E p s) (funext fun f => funext fun p' => funext fun s' => ?_)
    cases f with
    | next => exact wp_execs_append b a p' s'
    | _ => simp only [Sem.wp_pure']
/-- an if, each way with what follows it -/
theorem ev_ifs {test : Expr} {a b : List Stmt} {pos : Pos} (e : Ev w n (isTrue test env (eval test env)) h fun c h₁ => if c then Ev w n (execs (a ++ rest) env) h₁ P else Ev w n (execs (b ++ rest) env) h₁ P) : Ev w n (execs (.If test a b pos :: rest) env) h P := by
  intro s tk Γ p hΓ
  rw [execs_cons, Sem.wp_bind']
  show Sem.wp _ Γ (exec (.If test a b pos) env) _ _ p _
  simp only [exec_If, Sem.wp_bind', Sem.wp_cmd_standAt]
  refine Sem.wp_mono _ Γ _ (fun c p₂ s₂ h₂ => ?_) (fun _ _ _ h' => h') _ _ (e s tk Γ _ hΓ)
  obtain ⟨h₁, tk₁, rfl, q⟩ := h₂
  have fin : ∀ l : List Stmt, Ev w n (execs (l ++ rest) env) h₁ P → Sem.wp (Mw w) Γ (execs l env) (fun x pos' sh' => Sem.wp (Mw w) Γ (match x with | Flow.next => execs rest env | f => Pure.pure f) (fun a _ s' => ∃ h' tk', s' = { s with heap := h', toks := tk' } ∧ P a h') (fun e _ s' => False) pos' sh') (fun e _ s' => False) p₂ { s with heap := h₁, toks := tk₁ } := by
    intro l q
    have z := q s tk₁ Γ p₂ hΓ
    rw [wp_execs_append] at z
    refine Sem.wp_mono _ Γ _ (fun f p₃ s₃ h₃ => ?_) (fun _ _ _ h' => h') _ _ z
    cases f with
    | next => exact h₃
    | _ => simp only [Sem.wp_pure']; exact h₃
  cases c with
  | true => exact fin a q
  | false => exact fin b q
theorem ev_expr_then {x : Expr} {pos : Pos} (e : Ev w n (eval x env) h fun v h₁ => (∀ a, v ≠ .ref a) ∧ Ev w n (execs rest env) h₁ P) (hi : interactive env = false := by rfl) (hs : swapsWith x none pos.line env = pure false := by rfl) : Ev w n (execs (.Expr x pos :: rest) env) h P :=
  ev_seq (ev_expr e hi hs)
theorem ev_assign_then {x : Str} {p' pos : Pos} {value : Expr} (e : Ev w n (eval value env) h fun v h₁ => Ev w n (storeName env x v) h₁ fun _ h₂ => Ev w n (execs rest env) h₂ P) (hs : swapsWith value (some (.Name x p')) pos.line env = pure false := by rfl) :
    Ev w n (execs (.Assign [.Name x p'] value pos :: rest) env) h P := ev_seq (ev_assign e hs)
theorem ev_return_end {x : Expr} {pos : Pos} (e : Ev w n (eval x env) h fun v h₁ => P (.ret v) h₁) : Ev w n (execs (.Return (some x) pos :: rest) env) h P := ev_seq (ev_return e)
theorem ev_break_end {pos : Pos} (p : P .brk h) : Ev w n (execs (.Break pos :: rest) env) h P := ev_seq (ev_break p)
theorem ev_continue_end {pos : Pos} (p : P .cont h) : Ev w n (execs (.Continue pos :: rest) env) h P := ev_seq (ev_continue p)
theorem ev_for_then {target iter : Expr} {body orelse : List Stmt} {pos : Pos} (e : Ev w n (eval iter env) h fun xv h₁ => Ev w n (pyIter xv) h₁ fun it h₂ => EvL w n (.forLoop target it body orelse env) env h₂ (Then w n rest env P))
    (hs : ∀ x, foldedSetIterable iter env x = pure x := by intro _; rfl) : Ev w n (execs (.For target iter body orelse pos :: rest) env) h P := ev_seq (ev_for e hs)
theorem ev_while_then {test : Expr} {body orelse : List Stmt} {pos : Pos} (e : EvL w n (.whileLoop test body orelse env) env h (Then w n rest env P)) : Ev w n (execs (.While test body orelse pos :: rest) env) h P := ev_seq (ev_while e)
end
end Mine
end
section
open PySem
namespace Mine
/-- what the law's row is reckoned by -/
noncomputable def pw : Nat → Int
  | 0 => 64
  | 1 => 8
  | _ => 1
noncomputable def hiB : Nat → Int
  | 0 => 2048
  | 1 => 1024
  | _ => 512
noncomputable def tabX : Nat → Str
  | 0 => Str.ofString "-xSs"
  | 1 => Str.ofString "-xSs"
  | _ => Str.ofString "-xTt"
noncomputable def dig (m : Int) (c : Nat) : Int := (m.fdiv (pw c)).fmod 8
noncomputable def lst (m : Int) (c : Nat) : Int := (dig m c).fmod 2 + 2 * (m.fdiv (hiB c)).fmod 2
noncomputable def kindS (m : Int) : Str := Txt.item (Str.ofString "?pc?d?b?-?l?s???") (m.fdiv 4096)
noncomputable def rowUp (m : Int) : Nat → Str
  | 0 => kindS m
  | c + 1 => ((rowUp m c ++ (if decide (3 < dig m c) = true then Str.ofString "r" else Str.ofString "-")) ++ (if ((dig m c).fdiv 2).fmod 2 == 1 then Str.ofString "w" else Str.ofString "-")) ++ Txt.item (tabX c) (lst m c)
noncomputable def rowOf (m : Int) : Str := rowUp m 3
theorem item_len (x : Str) (i : Int) : (Txt.item x i).length = 1 := rfl
theorem one_r : (Str.ofString "r").length = 1 := by decide +kernel
theorem one_w : (Str.ofString "w").length = 1 := by decide +kernel
theorem one_d : (Str.ofString "-").length = 1 := by decide +kernel
theorem ite_len {c : Prop} [Decidable c] {x y : Str} (hx : x.length = 1) (hy : y.length = 1) : (if c then x else y).length = 1 := by split <;> assumption
theorem rowUp_len (m : Int) (c : Nat) : (rowUp m c).length = 1 + 3 * c := by
  induction c with
  | zero => rfl
  | succ c ih =>
    show (((rowUp m c ++ _) ++ _) ++ _ : Str).length = _
    rw [Str.length_append, Str.length_append, Str.length_append, ih, ite_len one_r one_d, ite_len one_w one_d, item_len]
    omega
theorem rowOf_len (m : Int) : (rowOf m).length = 10 := rowUp_len m 3
theorem strlen1 : (Str.ofString "-xSs").length = 4 := by decide +kernel
theorem strlen2 : (Str.ofString "-xTt").length = 4 := by decide +kernel
theorem strlen3 : (Str.ofString "?pc?d?b?-?l?s???").length = 16 := by decide +kernel
theorem fm8 (a : Int) : a.fmod 8 = a % 8 := Int.fmod_eq_emod_of_nonneg _ (by decide)
theorem fm2 (a : Int) : a.fmod 2 = a % 2 := Int.fmod_eq_emod_of_nonneg _ (by decide)
theorem fd4096 (a : Int) : a.fdiv 4096 = a / 4096 := Int.fdiv_eq_ediv_of_nonneg _ (by decide)
theorem fd2 (a : Int) : a.fdiv 2 = a / 2 := Int.fdiv_eq_ediv_of_nonneg _ (by decide)
/-- what filemode reckons by -/
noncomputable def rowTab : Nat → List (Int × Str)
  | 0 => [(40960, Str.ofString "l"), (49152, Str.ofString "s"), (32768, Str.ofString "-"), (24576, Str.ofString "b"), (16384, Str.ofString "d"), (8192, Str.ofString "c"), (4096, Str.ofString "p")]
  | 1 => [(256, Str.ofString "r")]
  | 2 => [(128, Str.ofString "w")]
  | 3 => [(2112, Str.ofString "s"), (2048, Str.ofString "S"), (64, Str.ofString "x")]
  | 4 => [(32, Str.ofString "r")]
  | 5 => [(16, Str.ofString "w")]
  | 6 => [(1032, Str.ofString "s"), (1024, Str.ofString "S"), (8, Str.ofString "x")]
  | 7 => [(4, Str.ofString "r")]
  | 8 => [(2, Str.ofString "w")]
  | _ => [(513, Str.ofString "t"), (512, Str.ofString "T"), (1, Str.ofString "x")]
noncomputable def hits (m : Int) (i : Nat) (b : Int) : Bool := if i = 0 then Builtin.bitAnd m 61440 == b else Builtin.bitAnd m b == b
noncomputable def pickC (m : Int) (i : Nat) : Str := match (rowTab i).find? (fun p => hits m i p.1) with
  | some p => p.2
  | none => if i = 0 then Str.ofString "?" else Str.ofString "-"
noncomputable def charsUp (m : Int) (i : Nat) : List Str := (List.range i).map (pickC m)
theorem charsUp_succ (m : Int) (i : Nat) : charsUp m (i + 1) = charsUp m i ++ [pickC m i] := by
  unfold charsUp; rw [List.range_succ, List.map_append]; rfl
noncomputable def fileOf (m : Int) : Str := Txt.join (Str.ofString "") (charsUp m 10)
theorem pick_hit {m : Int} {i j : Nat} {p : Int × Str} (hp : (rowTab i)[j]? = some p) (hn : ∀ q ∈ (rowTab i).take j, hits m i q.1 = false) (hh : hits m i p.1 = true) : pickC m i = p.2 := by
  have e : (rowTab i).find? (fun p => hits m i p.1) = some p := by
    obtain ⟨hj, e⟩ := List.getElem?_eq_some_iff.mp hp
    have s : rowTab i = (rowTab i).take j ++ p :: (rowTab i).drop (j + 1) := by rw [← e, List.getElem_cons_drop hj, List.take_append_drop]
    rw [List.find?_eq_some_iff_append]
    exact ⟨hh, _, _, s, fun q hq => by rw [hn q hq]; rfl⟩
  unfold pickC; rw [e]
theorem pick_miss {m : Int} {i : Nat} (hn : ∀ q ∈ rowTab i, hits m i q.1 = false) : pickC m i = if i = 0 then Str.ofString "?" else Str.ofString "-" := by
  have e : (rowTab i).find? (fun p => hits m i p.1) = none := by
    rw [List.find?_eq_none]
    intro q hq; rw [hn q hq]; exact Bool.false_ne_true
  unfold pickC; rw [e]
theorem pick_len (m : Int) (i : Nat) : (pickC m i).length = 1 := by
  unfold pickC
  split
  · rename_i p h
    have hp := List.mem_of_find?_eq_some h
    revert hp
    unfold rowTab
    split <;> (intro hp; simp only [List.mem_cons, List.not_mem_nil, or_false] at hp; rcases hp with rfl | rfl | rfl | rfl | rfl | rfl | rfl <;> decide +kernel)
  · split <;> decide +kernel
theorem join_room (m : Int) : ((charsUp m 10).map (·.length)).sum + (charsUp m 10).length * (Str.ofString "").length ≤ 16777216 := by
  have e : (charsUp m 10).map (·.length) = (List.range 10).map fun _ => 1 := by
    unfold charsUp; rw [List.map_map]; apply List.map_congr_left; intro i _; exact pick_len m i
  rw [e]
  have : (charsUp m 10).length = 10 := by simp [charsUp]
  rw [this]
  decide +kernel
noncomputable def kindN (m : Int) : Int := [1, 6, 3, 1, 4, 1, 2, 1, 0, 1, 5, 1, 7, 1, 1, 1].getD (m.fdiv 4096).toNat 0
noncomputable def above (m : Int) (c : Nat) : Int := (m.fdiv (hiB c)).fmod 2
noncomputable def lastN (m : Int) (c : Nat) : Int := if (dig m c).fmod 2 == 1 then 3 - above m c else above m c
noncomputable def numUp (m : Int) : Nat → Int
  | 0 => kindN m
  | c + 1 => numUp m c * 16 + (dig m c).fdiv 2 * 4 + lastN m c
noncomputable def numOf (m : Int) : Int := numUp m 3
end Mine
end
section
open PySem PySem.W PyProof.Rows PySem.Calls
set_option maxRecDepth 100000
set_option maxHeartbeats 4000000
namespace Mine
section
variable {w : World} {n : Nat} {h : Heap} {env : Env} {P : Value → Heap → Prop}
theorem ev_ifexp_str {test : Expr} {x y : Str} {k₁ k₂ : Nat} {p₁ p₂ pos : Pos} (e : Ev w n (isTrue test env (eval test env)) h fun c h₁ => ∀ t, P (.str (if c then x else y) t) h₁) : Ev w n (eval (.IfExp test (.Constant (.str x) k₁ p₁) (.Constant (.str y) k₂ p₂) pos) env) h P :=
  ev_ifexp (e.mono fun c h₁ p => by
    cases c with
    | true => exact ev_str fun t => p t
    | false => exact ev_str fun t => p t)
theorem ev_item_tup_any {value slice : Expr} {l : Addr} {vs : List Value} {k : Int} {u : Tok} (hl : ∃ o, h.get? l = some o ∧ TA vs o) (h0 : 0 ≤ k) (h1 : k < vs.length) (hz : vs.length < 1000) (p : ∀ v, vs[k.toNat]? = some v → P v h)
    (hs : subscripted slice false (.ref l) (.int k u) = operate [.ref l, .int k u] (getItem (.ref l) (.int k u)) := by with_unfolding_all rfl) : Ev w n (subscriptTail value slice (.ref l) (.int k u)) h P := by
  have hk : k.toNat < vs.length := by omega
  exact ev_item_tup hl h0 (by omega) (List.getElem?_eq_getElem hk) (p _ (List.getElem?_eq_getElem hk)) hs
theorem ev_item_list_any {value slice : Expr} {l : Addr} {vs : List Value} {k : Int} {u : Tok} (hl : ∃ o, h.get? l = some o ∧ LA vs o) (h0 : 0 ≤ k) (h1 : k < vs.length) (hz : vs.length < 2 ^ 30) (p : ∀ v, vs[k.toNat]? = some v → P v h)
    (hs : subscripted slice false (.ref l) (.int k u) = operate [.ref l, .int k u] (getItem (.ref l) (.int k u)) := by with_unfolding_all rfl) : Ev w n (subscriptTail value slice (.ref l) (.int k u)) h P := by
  have hk : k.toNat < vs.length := by omega
  exact ev_item_list hl h0 (by omega) (List.getElem?_eq_getElem hk) (p _ (List.getElem?_eq_getElem hk)) hs
end
/-- a list of ints, of texts, whatever their tokens -/
inductive Ints : List Value → List Int → Prop
  | nil : Ints [] []
  | cons {i : Int} {t : Tok} {vs : List Value} {ns : List Int} : Ints vs ns → Ints (.int i t :: vs) (i :: ns)
theorem Ints.length {vs : List Value} {ns : List Int} (x : Ints vs ns) : vs.length = ns.length := by
  induction x with
  | nil => rfl
  | cons _ ih => rw [List.length_cons, List.length_cons, ih]
theorem Ints.get {vs : List Value} {ns : List Int} (x : Ints vs ns) : ∀ {j : Nat} {v : Value}, vs[j]? = some v → ∃ i t, ns[j]? = some i ∧ v = .int i t := by
  induction x with
  | nil => intro j v h; simp at h
  | cons _ ih =>
    intro j v h
    cases j with
    | zero => simp at h; exact ⟨_, _, by simp, h.symm⟩
    | succ j => simp at h; obtain ⟨i, t, a, b⟩ := ih h; exact ⟨i, t, by simpa using a, b⟩
theorem Ints.at {vs : List Value} {ns : List Int} (x : Ints vs ns) {j : Nat} {i : Int} (h : ns[j]? = some i) : ∃ t, vs[j]? = some (.int i t) := by
  have hj : j < vs.length := by rw [x.length]; exact (List.getElem?_eq_some_iff.mp h).1
  obtain ⟨i', t, a, b⟩ := x.get (List.getElem?_eq_getElem hj)
  rw [a] at h; cases h
  exact ⟨t, by rw [List.getElem?_eq_getElem hj, b]⟩
inductive Strs : List Value → List Str → Prop
  | nil : Strs [] []
  | cons {i : Str} {t : Tok} {vs : List Value} {ns : List Str} : Strs vs ns → Strs (.str i t :: vs) (i :: ns)
theorem Strs.length {vs : List Value} {ns : List Str} (x : Strs vs ns) : vs.length = ns.length := by
  induction x with
  | nil => rfl
  | cons _ ih => rw [List.length_cons, List.length_cons, ih]
theorem Strs.get {vs : List Value} {ns : List Str} (x : Strs vs ns) : ∀ {j : Nat} {v : Value}, vs[j]? = some v → ∃ i t, ns[j]? = some i ∧ v = .str i t := by
  induction x with
  | nil => intro j v h; simp at h
  | cons _ ih =>
    intro j v h
    cases j with
    | zero => simp at h; exact ⟨_, _, by simp, h.symm⟩
    | succ j => simp at h; obtain ⟨i, t, a, b⟩ := ih h; exact ⟨i, t, by simpa using a, b⟩
theorem Strs.at {vs : List Value} {ns : List Str} (x : Strs vs ns) {j : Nat} {i : Str} (h : ns[j]? = some i) : ∃ t, vs[j]? = some (.str i t) := by
  have hj : j < vs.length := by rw [x.length]; exact (List.getElem?_eq_some_iff.mp h).1
  obtain ⟨i', t, a, b⟩ := x.get (List.getElem?_eq_getElem hj)
  rw [a] at h; cases h
  exact ⟨t, by rw [List.getElem?_eq_getElem hj, b]⟩
theorem Ints.snoc {vs : List Value} {ns : List Int} (x : Ints vs ns) (i : Int) (t : Tok) : Ints (vs ++ [.int i t]) (ns ++ [i]) := by
  induction x with
  | nil => exact .cons .nil
  | cons _ ih => exact .cons ih
theorem Strs.snoc {vs : List Value} {ns : List Str} (x : Strs vs ns) (i : Str) (t : Tok) : Strs (vs ++ [.str i t]) (ns ++ [i]) := by
  induction x with
  | nil => exact .cons .nil
  | cons _ ih => exact .cons ih
theorem Ints.set {vs : List Value} {ns : List Int} (x : Ints vs ns) (j : Nat) (i : Int) (t : Tok) : Ints (vs.set j (.int i t)) (ns.set j i) := by
  induction x generalizing j with
  | nil => exact .nil
  | cons x ih =>
    cases j with
    | zero => exact .cons x
    | succ j => exact .cons (ih j)
/-- the end of a call that changed nothing -/
theorem stays_of {g h h' : Heap} {L : Addr} {bs : List (Str × Value)} {ns : List (Addr × As)} (kg : ∀ b o, h.get? b = some o → b ∉ ([] : List (Addr × As)).map (·.1) → g.get? b = some o) (O : Own g L h' bs ns) : h.StaysIn h' := fun b o e => O.keep b o (kg b o e (nomatch ·))
end Mine
end
section
open PySem PySem.W PyProof.Rows PySem.Calls
set_option maxRecDepth 100000
set_option maxHeartbeats 4000000
namespace Mine
/-- tuples: their iterators, and enumerate over one -/
noncomputable def TI (t : Addr) (i : Nat) : As := fun o => o.cls = .type "tuple_iterator" ∧ o.data = .fields #[.ref t, .int i 0]
theorem isTuple {h : Heap} {a : Addr} {vs : List Value} (e : ∃ o, h.get? a = some o ∧ TA vs o) : h.IsTuple a vs.toArray := let ⟨o, x, n, z⟩ := e; ⟨o, x, by rw [z], n, by rw [z]⟩
theorem it_tuple {w : World} {n : Nat} {I l : Addr} {vs : List Value} : ItOk w n I vs.length (fun i v => vs[i]? = some v) (TI l) (fun h => ∃ o, h.get? l = some o ∧ TA vs o) where
  next := fun i h P hi ⟨o, ho, hc, hd⟩ hl k s tk => wpAny_pyNext_tuple_item (s := { s with heap := h, toks := tk }) ⟨o, ho, hc, hd⟩ (isTuple hl) (x := vs[i]) (by simp [hi]) fun h' hit hs => ⟨h', tk, rfl, k _ h' (by simp [hi]) hit (.of_same hs)⟩
  done := fun h P ⟨o, ho, hc, hd⟩ hl k s tk => wpAny_pyNext_tuple_end (s := { s with heap := h, toks := tk }) rfl ⟨o, ho, hc, hd⟩ (isTuple hl) (by simp) fun h' hs => ⟨h', tk, rfl, k h' hs⟩
theorem ev_iter_tuple {w : World} {n : Nat} {g h : Heap} {L l : Addr} {vs : List Value} {bs : List (Str × Value)} {ns : List (Addr × As)} {P : Value → Heap → Prop} (O : Own g L h bs ns) (hl : ∃ o, h.get? l = some o ∧ TA vs o)
    (k : ∀ I h', Own g L h' bs ((I, TI l 0) :: ns) → P (.ref I) h') : Ev w n (pyIter (.ref l)) h P := fun _ tk => wpAny_pyIter_tuple (isTuple hl) ⟨_, tk, rfl, k _ _ (O.push rfl ⟨rfl, rfl⟩)⟩
section
variable {prog : Program} {w : World} {A : Around} {E : Value → Shared → Prop} {s : Shared}
/-- the next item of a tuple's iterator, as enumerate asks for it -/
theorem nextOf_tuple_item {it l : Addr} {i : Nat} {items : Array Value} {x : Value} {Q : Value → Shared → Prop} (hit : s.heap.IsTupleIter it l i) (hl : s.heap.IsTuple l items) (hx : items[i]? = some x)
    (hQ : ∀ h', h'.IsTupleIter it l (i + 1) → Heap.SameBut it s.heap h' → Q x { s with heap := h' }) : wpAny (model prog w) A (Builtin.SmallTypes.nextOf (.ref it)) Q E s := by
  have hT := hit.typeIs
  rcases hit with ⟨⟨c, dd, da, sl⟩, ho, hc, hd⟩
  cases hc
  cases hd
  rcases hl with ⟨ol, hol, _, n, hdl⟩
  refine wpAny_bind (wpAny_callSpecial?_slot (name := Str.ofString "__next__") hT F.slot_tuple_iterator_next (wpAny_call_entry F.slot_tuple_iterator_next hT F.entry_tuple_iterator_next ?_ (F.args_tuple_iterator_next_1 _)))
  wp_walk using wpAny_field ho rfl rfl
  rw [hdl]
  wp_walk
  show wpAny _ _ (match items[i]? with | some x => _ | none => _) _ _ _
  rw [hx]
  wp_walk using wpAny_setField ho rfl (Nat.le_of_ble_eq_true rfl)
  exact ⟨x, rfl, wpAny_pure (hQ _ ⟨_, Heap.get?_update_self _ ho rfl, rfl, rfl⟩ (Heap.SameBut.update ..))⟩
theorem nextOf_tuple_end {it l : Addr} {i : Nat} {items : Array Value} {Q : Value → Shared → Prop} (hh : A.handled = none) (hit : s.heap.IsTupleIter it l i) (hl : s.heap.IsTuple l items) (hx : items[i]? = none)
    (hE : ∀ h' e, Heap.ExtBut it s.heap h' → (∃ o, h'.get? e = some o ∧ o.cls = .type "StopIteration") → E (.ref e) { s with heap := h' }) : wpAny (model prog w) A (Builtin.SmallTypes.nextOf (.ref it)) Q E s := by
  have hT := hit.typeIs
  rcases hit with ⟨⟨c, dd, da, sl⟩, ho, hc, hd⟩
  cases hc
  cases hd
  rcases hl with ⟨ol, hol, _, n, hdl⟩
  have hA : A.in1.handled = none := hh
  refine wpAny_bind (wpAny_callSpecial?_slot (name := Str.ofString "__next__") hT F.slot_tuple_iterator_next (wpAny_call_entry F.slot_tuple_iterator_next hT F.entry_tuple_iterator_next ?_ (F.args_tuple_iterator_next_1 _)))
  wp_walk using wpAny_field ho rfl rfl
  rw [hdl]
  wp_walk
  show wpAny _ _ (match items[i]? with | some x => _ | none => _) _ _ _
  rw [hx]
  wp_walk using wpAny_setField ho rfl (Nat.le_of_ble_eq_true rfl)
  unfold raiseNew
  wp_walk
  exact hE _ _ (((Heap.SameBut.update ..).extBut.push _).push _) ⟨_, Heap.get?_push_size _ rfl, rfl⟩
theorem draws_tuple (hh : A.handled = none) (it l : Addr) (hne : l ≠ it) (items : Array Value) :
    Draws prog w A it [it, l] items.size (fun i v => items[i]? = some v) (fun i h => h.IsTupleIter it l i ∧ h.IsTuple l items) where
  live := fun _ _ st => let ⟨o, ho, _⟩ := st.1; ⟨o, ho⟩
  frame := fun _ _ _ st hk => ⟨st.1.at fun o e => hk it (by simp) o e, st.2.at fun o e => hk l (by simp) o e⟩
  item := fun i s Q E hi st hQ => nextOf_tuple_item st.1 st.2 (x := items[i]) (by simp [hi]) fun h' hit' hs' => hQ _ h' s.toks (by simp [hi]) ⟨hit', st.2.extBut hs'.extBut hne⟩ hs'
  done := fun s Q E st hE => nextOf_tuple_end hh st.1 st.2 (by simp) hE
theorem enumerate_new_tuple (l : Addr) (items : Array Value) (n : Nat) :
    Meets (Builtin.«enumerate.__new__» ⟨[.type "enumerate", .ref l], []⟩) (fun _ R s => s.heap.get? l = some { cls := .type "tuple", data := .seq items n } ∧
      R (.ok (.ret (.ref (s.heap.push { cls := .type "tuple_iterator", data := .fields #[.ref l, .int 0 0] }).objs.size)))
        { s with heap := (s.heap.push { cls := .type "tuple_iterator", data := .fields #[.ref l, .int 0 0] }).push { cls := .type "enumerate", data := .fields #[.none, .bool false, .ref s.heap.objs.size, rawInt 0, .none, .none] } }) :=
  .of_wp fun _ _ _ _ s h => by
    have ht : s.heap.IsTuple l items := ⟨_, h.1, rfl, n, rfl⟩
    have sub := sub_enumerate
    wp_walk
    refine wpAny_stack_any fun st => wpAny_pure ?_
    split
    · rename_i c _ _ _ _ _
      cases (c == Value.type "enumerate") <;> (wp_walk using wpAny_pyIter_tuple ht; exact ⟨_, rfl, h.2⟩)
    · wp_walk using wpAny_pyIter_tuple ht
      exact ⟨_, rfl, h.2⟩
end
end Mine
end
section
open PySem PySem.W PyProof.Rows PySem.Calls
set_option maxRecDepth 100000
set_option maxHeartbeats 4000000
namespace Mine
noncomputable def EnA (it : Addr) (i : Nat) : As := fun o => ∃ old, o = { cls := .type "enumerate", data := .fields #[.none, .bool false, .ref it, rawInt i, .none, old] }
section
variable {w : World} {n : Nat} {g h : Heap} {L l : Addr} {env : Env} {vs : List Value} {bs : List (Str × Value)} {ns : List (Addr × As)}
theorem ev_enumerate {P : Value → Heap → Prop} (O : Own g L h bs ns) (hl : ∃ o, h.get? l = some o ∧ TA vs o) (k : ∀ e it h', Own g L h' bs ((e, EnA it 0) :: (it, TI l 0) :: ns) → P (.ref e) h') : Ev w n (call (.type "enumerate") [.ref l]) h P := by
  intro s tk
  obtain ⟨o, ho, m, rfl⟩ := hl
  refine callType_new F.called_enumerate (by decide) (F.typeCall_enumerate_1 _) (F.newCall_enumerate_1 _) (fun obj => F.args_object_init_2 obj _) F.entry_enumerate_new (enumerate_new_tuple l vs.toArray m) ⟨ho, ?_⟩
  have O₁ := O.push (o := { cls := .type "tuple_iterator", data := .fields #[.ref l, .int 0 0] }) (φ := TI l 0) rfl ⟨rfl, rfl⟩
  have O₂ := O₁.push (o := { cls := .type "enumerate", data := .fields #[.none, .bool false, .ref h.objs.size, rawInt 0, .none, .none] }) (φ := EnA h.objs.size 0) rfl ⟨_, rfl⟩
  refine ⟨⟨_, Heap.get?_push_size _ rfl, rfl⟩, _, tk, rfl, k _ _ _ O₂⟩
/-- two names out of a pair -/
theorem ev_assign_pair {x y : Str} {px py pos : Pos} {c : Nat} {T : Addr} {a b : Value} {Q : Unit → Heap → Prop} (hT : ∃ o, h.get? T = some o ∧ TA [a, b] o)
    (k : ∀ h', But h.objs.size h h' → Ev w n (storeName env x a) h' fun _ h₁ => Ev w n (storeName env y b) h₁ Q) : Ev w n (assign (.Tuple [.Name x px, .Name y py] c pos) env (.ref T)) h Q := by
  intro s tk
  refine wpAny_assign_Tuple (items := #[a, b]) rfl (isTuple hT) rfl rfl fun h' hb => ?_
  show wpAny _ _ (assignInOrder [assign (.Name x px) env, assign (.Name y py) env] [a, b]) _ _ _
  exact wpAny_assignInOrder_more (wpAny_assign_Name ((k h' hb).use (s := { s with heap := h', toks := tk }) fun _ h₁ tk₁ p => wpAny_assignInOrder_more (wpAny_assign_Name (p.use (s := { s with heap := h₁, toks := tk₁ }) fun _ h₂ tk₂ q => wpAny_assignInOrder_none ⟨h₂, tk₂, rfl, q⟩))))
theorem ev_iter_enum {P : Value → Heap → Prop} {e it : Addr} {i : Nat} (he : ∃ o, h.get? e = some o ∧ EnA it i o) (p : P (.ref e) h) : Ev w n (pyIter (.ref e)) h P := fun s tk => by
  obtain ⟨o, ho, old, rfl⟩ := he
  exact wpAny_pyIter_enum (s := { s with heap := h, toks := tk }) ho ⟨h, tk, rfl, p⟩
theorem Own.fresh_but {h' : Heap} (O : Own g L h bs ns) (b : But h.objs.size h h') : Own g L h' bs ns := O.stay fun c o e => b c o (Nat.ne_of_lt (Heap.lt_size e)) e
/-- for i, v in enumerate(a tuple) -/
theorem evl_enum {P : Flow → Heap → Prop} {x y : Str} {px py pos : Pos} {c : Nat} {body orelse : List Stmt} {e it : Addr} (J : Nat → List (Str × Value) → List (Addr × As) → Prop)
    (hl : ∃ o, g.get? l = some o ∧ TA vs o)
    (turn : ∀ i v t h bs ns, vs[i]? = some v → J i bs ns → Own g L h bs ((e, EnA it (i + 1)) :: (it, TI l (i + 1)) :: ns) →
      Ev w n (storeName env x (.int (i : Int) t)) h fun _ h₁ => Ev w n (storeName env y v) h₁ fun _ h₂ => Ev w n (execs body env) h₂ fun f h₃ => match f with
        | .next | .cont => ∃ bs' ns', J (i + 1) bs' ns' ∧ Own g L h₃ bs' ((e, EnA it (i + 1)) :: (it, TI l (i + 1)) :: ns')
        | .brk => P .next h₃
        | .ret v => P (.ret v) h₃)
    (fin : ∀ h bs ns, J vs.length bs ns → Own g L h bs ns → Ev w n (execs orelse env) h P)
    (O : Own g L h bs ((e, EnA it 0) :: (it, TI l 0) :: ns)) (j0 : J 0 bs ns) : EvL w n (.forLoop (.Tuple [.Name x px, .Name y py] c pos) (.ref e) body orelse env) env h P := by
  refine evl_for (fun k h => ∃ i bs ns, i ≤ vs.length ∧ k = vs.length - i ∧ J i bs ns ∧ Own g L h bs ((e, EnA it i) :: (it, TI l i) :: ns)) ?_ vs.length ⟨0, bs, ns, Nat.zero_le _, rfl, j0, O⟩
  rintro k h ⟨i, bs, ns, hi, rfl, j, O⟩
  have nd := O.nd
  simp only [List.map_cons, List.nodup_cons, List.mem_cons, not_or] at nd
  have hei : e ≠ it := nd.1.1
  obtain ⟨_, hlo, _⟩ := id hl
  have hle : l ≠ e := fun q => by rw [q, O.fresh (.head _)] at hlo; cases hlo
  have hli : l ≠ it := fun q => by rw [q, O.fresh (.tail _ (.head _))] at hlo; cases hlo
  have hlt : h.IsTuple l vs.toArray := isTuple (let ⟨o, a, b⟩ := hl; ⟨o, O.keep _ _ a, b⟩)
  obtain ⟨oe, hoe, old, rfl⟩ := O.at (.head _)
  obtain ⟨oi, hoi, hci, hdi⟩ := O.at (.tail _ (.head _))
  have D := draws_tuple (prog := (Mw w).prog) (w := w) (A := (AA n).in1) rfl it l hli vs.toArray
  have hef : e ∉ [it, l] := by simp only [List.mem_cons, not_or, List.not_mem_nil, not_false_eq_true, and_true]; exact ⟨hei, Ne.symm hle⟩
  by_cases hin : i < vs.length
  · intro s tk
    refine wpAny_pyNext_enum_itemD (s := { s with heap := h, toks := tk }) D hoe ⟨⟨oi, hoi, hci, hdi⟩, hlt⟩ (by simpa using hin) hei hef fun v h₁ tk₁ hv he₁ hst₁ hT hz hk => ⟨h₁, tk₁ + 1, rfl, ?_⟩
    have hv' : vs[i]? = some v := by simpa using hv
    have b₁ : ∀ b o, b ≠ e → b ≠ it → h.get? b = some o → h₁.get? b = some o := hk
    intro s tk
    refine wpAny_letOwnedTupleGo_enum (s := { s with heap := h₁, toks := tk }) he₁ fun h₂ he₂ hs₂ => ⟨h₂, tk, rfl, ?_⟩
    -- the state behind the draw
    have O₂ : Own g L h₂ bs ((e, EnA it (i + 1)) :: (it, TI l (i + 1)) :: ns) := by
      refine ⟨fun b o q => (hs₂.2 b ?_).trans (hk b o ?_ ?_ (O.keep b o q)), ?_, O.gL, ?_, O.nd⟩
      · intro z; subst z; rw [O.fresh (.head _)] at q; cases q
      · intro z; subst z; rw [O.fresh (.head _)] at q; cases q
      · intro z; subst z; rw [O.fresh (.tail _ (.head _))] at q; cases q
      · obtain ⟨m, ⟨o, es, ep, x, r⟩, z⟩ := O.fr
        have a := (O.nw _ (.head _)).2.1
        have b := (O.nw _ (.tail _ (.head _))).2.1
        exact ⟨m, ⟨o, es, ep, (hs₂.2 _ (Ne.symm a)).trans (hk _ _ (Ne.symm a) (Ne.symm b) x), r⟩, z⟩
      · intro p hp
        rcases List.mem_cons.mp hp with rfl | hp
        · exact ⟨⟨_, he₂, _, rfl⟩, (O.nw _ (.head _)).2⟩
        rcases List.mem_cons.mp hp with rfl | hp
        · obtain ⟨o, ho, hc, hd⟩ := hst₁.1
          exact ⟨⟨o, (hs₂.2 _ (Ne.symm hei)).trans ho, hc, hd⟩, (O.nw _ (.tail _ (.head _))).2⟩
        · obtain ⟨⟨o, ho, hφ⟩, r⟩ := O.nw p (.tail _ (.tail _ hp))
          have n1 : p.1 ≠ e := fun z => nd.1.2 (List.mem_map.mpr ⟨p, hp, z⟩)
          have n2 : p.1 ≠ it := fun z => nd.2.1 (List.mem_map.mpr ⟨p, hp, z⟩)
          exact ⟨⟨o, (hs₂.2 _ n1).trans (hk _ _ n1 n2 ho), hφ⟩, r⟩
    have hT₂ : ∃ o, h₂.get? h.objs.size = some o ∧ TA [.int (i : Int) tk₁, v] o := ⟨_, (hs₂.2 _ (Nat.ne_of_gt (Heap.lt_size hoe))).trans hT, 0, rfl⟩
    refine ev_assign_pair hT₂ fun h₃ b₃ => ?_
    refine (turn i v tk₁ h₃ bs ns hv' j (O₂.fresh_but b₃)).mono fun _ h₄ q => q.mono fun _ h₅ q => q.mono fun f h₆ q => ?_
    cases f with
    | next => obtain ⟨bs', ns', j', O'⟩ := q; exact ⟨vs.length - (i + 1), by omega, i + 1, bs', ns', hin, rfl, j', O'⟩
    | cont => obtain ⟨bs', ns', j', O'⟩ := q; exact ⟨vs.length - (i + 1), by omega, i + 1, bs', ns', hin, rfl, j', O'⟩
    | brk => exact q
    | ret v => exact q
  · have : i = vs.length := by omega
    subst this
    intro s tk
    refine wpAny_pyNext_enum_endD (s := { s with heap := h, toks := tk }) D hoe (by simpa using ⟨⟨oi, hoi, hci, hdi⟩, hlt⟩) fun h₁ hb => ⟨h₁, tk, rfl, ?_⟩
    have O₁ : Own g L h₁ bs ((e, EnA it vs.length) :: ns) := by
      have O' : Own g L h bs ((it, TI l vs.length) :: (e, EnA it vs.length) :: ns) := O.perm (List.Perm.swap _ _ _)
      exact O'.drop hb
    exact fin h₁ bs ns j (O₁.sub (List.Sublist.cons _ (List.Sublist.refl _)))
end
end Mine
end
section
open PySem PySem.W PyProof.Rows PySem.Calls
set_option maxRecDepth 100000
set_option maxHeartbeats 4000000
namespace Mine
theorem Strs.are {vs : List Value} {ys : List Str} (x : Strs vs ys) : StrsAre vs ys := by
  induction x with
  | nil => exact .nil
  | cons _ ih => exact .cons _ _ ih
section
variable {w : World} {n : Nat} {g h : Heap} {L : Addr} {env : Env} {bs : List (Str × Value)} {ns ns' : List (Addr × As)} {P : Value → Heap → Prop}
/-- a method of a built-in type's, of one argument and more -/
theorem ev_meth {T id : String} {name : Str} {o a : Expr} {rest : List Expr} {apos pos : Pos} (pa : PlainAttrs T) (slot : Slot T name id) (hty : typeOf (.builtin id) = pure (.type "method_descriptor"))
    (e : Ev w n (eval o env) h fun ov h₁ => (∀ s : Shared, s.heap = h₁ → s.TypeIs ov T) ∧ (∀ c, ov = .ref c → ∃ ob, h₁.get? c = some ob ∧ ob.dict = none) ∧ Ev w n (spliced (backTo pos (starEach (a :: rest) env))) h₁ fun xs h₂ => Ev w n (call (.builtin id) (ov :: xs)) h₂ P)
    (hbase : attributeBase o name env (eval o env) = eval o env := by rfl) (hline : (apos.endLine == pos.line) = true := by rfl)
    (hfew : ((backTo pos (starEach (a :: rest) env)).all (fun x => !x.1) && (backToKw pos (keywordEach [] env)).all (fun x => x.1.isSome) && decide ((a :: rest).length + ([] : List Keyword).length + (if ([] : List Keyword).isEmpty then 0 else 1) < 30)) = true := by rfl)
    (he : starEach (a :: rest) env = (false, eval a env) :: starEach rest env := by rfl) (hplain : (backTo pos (starEach rest env)).any (·.1) = false := by rfl) :
    Ev w n (eval (.Call (.Attribute o name apos) (a :: rest) [] pos) env) h P := fun s tk => by
  refine wpAny_Call_method hbase hfew hline pa slot hty (wpAny_mono (e s tk) (fun ov s₁ hx => ?_) fun _ _ f => f)
  obtain ⟨h₁, tk₁, rfl, hT, hd, k⟩ := hx
  refine ⟨hT _ rfl, hd, ?_⟩
  rw [he] at k ⊢
  refine Calls.callWith_builtin (first := [ov]) (by show (false || (backTo pos (starEach rest env)).any (·.1)) = false; rw [hplain]; rfl) (Calls.evalArgs_plain (wpAny_mono (k s tk₁) (fun vs s₂ hx => ?_) fun _ _ f => f))
  obtain ⟨h₂, tk₂, rfl, q⟩ := hx
  exact q s tk₂
/-- without an argument -/
theorem ev_meth0 {T id : String} {name : Str} {o : Expr} {apos pos : Pos} (pa : PlainAttrs T) (slot : Slot T name id) (hty : typeOf (.builtin id) = pure (.type "method_descriptor"))
    (e : Ev w n (eval o env) h fun ov h₁ => (∀ s : Shared, s.heap = h₁ → s.TypeIs ov T) ∧ (∀ c, ov = .ref c → ∃ ob, h₁.get? c = some ob ∧ ob.dict = none) ∧ Ev w n (call (.builtin id) [ov]) h₁ P)
    (hbase : attributeBase o name env (eval o env) = eval o env := by rfl) (hline : (apos.endLine == pos.line) = true := by rfl) :
    Ev w n (eval (.Call (.Attribute o name apos) [] [] pos) env) h P := fun s tk => by
  refine wpAny_Call_method hbase rfl hline pa slot hty (wpAny_mono (e s tk) (fun ov s₁ hx => ?_) fun _ _ f => f)
  obtain ⟨h₁, tk₁, rfl, hT, hd, k⟩ := hx
  exact ⟨hT _ rfl, hd, Calls.callWith_builtin (first := [ov]) rfl (evalArgs_nil3 (k s tk₁))⟩
theorem list_type {l : Addr} {vs : List Value} (hl : ∃ o, h.get? l = some o ∧ LA vs o) : (∀ s : Shared, s.heap = h → s.TypeIs (.ref l) "list") ∧ (∀ c, Value.ref l = .ref c → ∃ ob, h.get? c = some ob ∧ ob.dict = none) := by
  obtain ⟨o, ho, m, rfl⟩ := hl
  exact ⟨fun s hs => ⟨_, by rw [hs]; exact ho, rfl⟩, fun c hc => by cases hc; exact ⟨_, ho, rfl⟩⟩
theorem str_type {x : Str} {t : Tok} : (∀ s : Shared, s.heap = h → s.TypeIs (.str x t) "str") ∧ (∀ c, Value.str x t = .ref c → ∃ ob, h.get? c = some ob ∧ ob.dict = none) := ⟨fun s _ => typeIs_str s x t, fun c hc => by cases hc⟩
theorem ev_append {l : Addr} {vs : List Value} {x : Value} {φ : As} (O : Own g L h bs ns) (hm : (l, φ) ∈ ns) (hφ : ∀ o, φ o → LA vs o) (U : UpdA l (LA (vs ++ [x])) ns ns') (hz : vs.length ≤ 1000) (k : ∀ h', Own g L h' bs ns' → P .none h') : Ev w n (call (.builtin "list.append") [.ref l, x]) h P := fun s tk => by
  have hl : ∃ o, h.get? l = some o ∧ LA vs o := let ⟨o, a, b⟩ := O.at hm; ⟨o, a, hφ o b⟩
  refine wpAny_list_append_plain (s := { s with heap := h, toks := tk }) (isPlain hl) (fun h' hp hs => ⟨h', tk, rfl, k h' (O.upd U (.of_same hs) (ofPlain ?_))⟩) (by simpa using Nat.le_trans hz (by decide))
  have e : (vs ++ [x]).toArray = vs.toArray.push x := by simp
  rw [e]; exact hp
theorem ev_join {D : Addr} {vs : List Value} {ys : List Str} {x : Str} {t : Tok} (hl : ∃ o, h.get? D = some o ∧ LA vs o) (hi : Strs vs ys) (hz : (ys.map (·.length)).sum + ys.length * x.length ≤ 16777216) (p : ∀ t', P (.str (Txt.join x ys) t') h) : Ev w n (call (.builtin "str.join") [.str x t, .ref D]) h P := fun s _ =>
  join_list (isList hl) (by simpa using hi.are) hz fun t' tk => ⟨h, tk, rfl, p t'⟩
/-- a call that changes nothing, by its contract -/
theorem pure_call {f : Value} {args : List Value} {k : Nat} {R : Value → Prop} (O : Own g L h bs ns) (c : Ev w k (call f args) h fun v h' => h.StaysIn h' ∧ R v) (hk : n ≤ k) (p : ∀ v h', R v → Own g L h' bs ns → P v h') : g.StaysIn h ∧ Ev w n (call f args) h P :=
  ⟨O.keep, (c.lift hk).mono fun v h' ⟨st, r⟩ => p v h' r (O.stay st)⟩
theorem ev_perm_append {x : Str} {p₁ apos pos pos' : Pos} {a : Expr} {rest : List Stmt} {l : Addr} {vs : List Value} {nf : Value → List (Addr × As)} {Q : Flow → Heap → Prop} (V : Value → Prop) (O : Own g L h bs ns) (hb : (x, .ref l) ∈ bs) (hm : (l, LA vs) ∈ ns) (hz : vs.length ≤ 1000) (e : ∀ R : Value → Heap → Prop, (∀ v, V v → R v h) → Ev w n (eval a env) h R) (U : ∀ v, UpdA l (LA (vs ++ [v])) ns (nf v)) (k : ∀ v h', V v → Own g L h' bs (nf v) → Ev w n (execs rest env) h' Q)
    (hL : env.locals = L := by rfl) (hk : env.scope.kind = .function := by rfl) (hl : env.kindOf x = some .local := by rfl) (hd : (x == ("__debug__" : Str)) = false := by decide +kernel) (hline : (apos.endLine == pos.line) = true := by rfl) (he : starEach [a] env = [(false, eval a env)] := by rfl)
    (hbase : attributeBase (.Name x p₁) (Str.ofString "append") env (eval (.Name x p₁) env) = eval (.Name x p₁) env := by rfl) (hi : interactive env = false := by rfl) (hs : swapsWith (.Call (.Attribute (.Name x p₁) (Str.ofString "append") apos) [a] [] pos) none pos'.line env = pure false := by rfl)
    (hfew : ((backTo pos (starEach [a] env)).all (fun x => !x.1) && (backToKw pos (keywordEach [] env)).all (fun x => x.1.isSome) && decide ([a].length + ([] : List Keyword).length + (if ([] : List Keyword).isEmpty then 0 else 1) < 30)) = true := by rfl) :
    Ev w n (execs (.Expr (.Call (.Attribute (.Name x p₁) (Str.ofString "append") apos) [a] [] pos) pos' :: rest) env) h Q := by
  refine ev_expr_then ?_ hi hs
  refine ev_meth F.plainAttrs_list F.slot_list_append F.type_list_append (ev_local O hb ⟨(list_type (O.at hm)).1, (list_type (O.at hm)).2, ev_items_cons (e _ fun v hv => ev_items_nil (ev_append O hm (fun _ z => z) (U v) hz fun h' O' => ⟨(fun _ q => by cases q), k v h' hv O'⟩)) he⟩ hL hk hl hd) hbase hline hfew he rfl
end
end Mine
end
section
open PySem PySem.W PyProof.Rows PySem.Calls
set_option maxRecDepth 100000
set_option maxHeartbeats 4000000
namespace Mine
/-- the tests of a comprehension's clause -/
noncomputable def testsOf (ifs : List Expr) (env : Env) : Sem Bool := forIn ifs true fun c r => if r = true then do let ok ← isTrue c env (eval c env); pure (ForInStep.yield ok) else pure (ForInStep.yield r)
section
variable {w : World} {n : Nat} {h : Heap}
theorem ev_tests_nil {env : Env} {P : Bool → Heap → Prop} (p : P true h) : Ev w n (testsOf [] env) h P := fun _ tk => wpAny_tests_nil ⟨h, tk, rfl, p⟩
theorem ev_tests_one {env : Env} {c : Expr} {P : Bool → Heap → Prop} (e : Ev w n (isTrue c env (eval c env)) h P) : Ev w n (testsOf [c] env) h P := fun s tk => wpAny_tests_one (e s tk)
/-- the loop of a comprehension, bare -/
theorem comp_loop {elt target iter : Expr} {ifs : List Expr} {scope : Scope} {pos : Pos} {it acc : Value} {cenv : Env} {P : Heap → Prop} (I : Nat → Heap → Prop)
    (turn : ∀ k h, I k h → Ev w n (pyNext it) h fun r h₁ => match r with
      | none => P h₁
      | some v => Ev w n (letOwnedTupleGo target it v) h₁ fun _ h₂ => Ev w n (assign target cenv v) h₂ fun _ h₃ => Ev w n (testsOf ifs cenv) h₃ fun ok h₄ =>
          if ok = true then Ev w n (eval elt cenv) h₄ fun x h₅ => Ev w n (call (.builtin "list.append") [acc, x]) h₅ fun _ h₆ => ∃ m, m < k ∧ I m h₆ else ∃ m, m < k ∧ I m h₄)
    (k : Nat) (i : I k h) (s : Shared) (tk : Nat) (R : Result → Shared → Prop) (hR : ∀ h' tk', P h' → R (.ok .next) { s with heap := h', toks := tk' }) :
    codeAny (Mw w) (AA n) (.compLoop (.ListComp elt [⟨target, iter, ifs, 0⟩] scope pos) 0 it acc cenv) R { s with heap := h, toks := tk } := by
  refine codeAny_loop rfl (fun k s' => ∃ h' tk', s' = { s with heap := h', toks := tk' } ∧ I k h') ?_ k ⟨h, tk, rfl, i⟩
  rintro k s' ⟨h', tk', rfl, i'⟩
  show wpAny _ (AA n) ((compTurn (.ListComp elt [⟨target, iter, ifs, 0⟩] scope pos) 0 it acc cenv).onRaise (fun x => do noteFrame x cenv; theTreesLotGoes x)) _ _ _
  refine wpAny_noted ?_
  rw [compTurn_list]
  refine wpAny_bind (wpAny_standAt (wpAny_bind ((turn k h' i').use (s := { s with heap := h', toks := tk' }) fun r h₁ tk₁ p => ?_)))
  cases r with
  | none => exact wpAny_pure (hR h₁ tk₁ p)
  | some v =>
    refine wpAny_bind (p.use (s := { s with heap := h₁, toks := tk₁ }) fun _ h₂ tk₂ p => wpAny_bind (p.use (s := { s with heap := h₂, toks := tk₂ }) fun _ h₃ tk₃ p => wpAny_bind (p.use (s := { s with heap := h₃, toks := tk₃ }) fun ok h₄ tk₄ p => ?_)))
    cases ok with
    | false => exact wpAny_pure ⟨rfl, let ⟨m, hm, im⟩ := p; ⟨m, hm, h₄, tk₄, rfl, im⟩⟩
    | true =>
      exact wpAny_bind (wpAny_bind (p.use (s := { s with heap := h₄, toks := tk₄ }) fun x h₅ tk₅ p => wpAny_bind (p.use (s := { s with heap := h₅, toks := tk₅ }) fun _ h₆ tk₆ ⟨m, hm, im⟩ => wpAny_pure (wpAny_pure ⟨rfl, m, hm, h₆, tk₆, rfl, im⟩))))
end
/-- a namespace -/
noncomputable def NsA : As := fun o => ∃ es ep, ∃ m : Str → Option Value, o.data = .dict es ep ∧ StrKeys es ∧ ∀ name, nsFind es name = m name
/-- a comprehension once its iterator stands -/
noncomputable def CompAt (w : World) (n : Nat) (elt target iter : Expr) (ifs : List Expr) (scope : Scope) (pos : Pos) (cl : List (Str × Addr)) (env : Env) (it : Value) (h₂ : Heap) (P : Addr → Addr → Heap → Prop) : Prop :=
  ∀ (s : Shared) (tk : Nat) (R : Value → Addr → Result → Shared → Prop), (∀ D C h' tk', P D C h' → R (.ref D) C (.ok .next) { s with heap := h', toks := tk' }) →
    wpAny (Mw w) (AA n) (newList []) (fun acc s₃ => wpAny (Mw w) (AA n) (newFunctionEnv scope env.globals cl [] env.qual none .none (some env)) (fun cenv s₄ =>
      codeAny (Mw w) (AA n) (.compStart (.ListComp elt [⟨target, iter, ifs, 0⟩] scope pos) 0 it acc { cenv with scope := relabel scope env }) (R acc cenv.locals) s₄) (fun _ _ => False) s₃) (fun _ _ => False) { s with heap := h₂, toks := tk }
section
variable {w : World} {n : Nat} {g h h₂ : Heap} {L : Addr} {env : Env} {bs : List (Str × Value)} {ns : List (Addr × As)}
theorem compAt_it {elt target iter : Expr} {ifs : List Expr} {scope : Scope} {pos : Pos} {cl : List (Str × Addr)} {I : Addr} {N : Nat} {V : Nat → Value → Prop} {IA : Nat → As} {Lf : Heap → Prop} (G : Gd w g) (It : ItOk w n I N V IA Lf)
    (self : ∀ h (P : Value → Heap → Prop), (∃ o, h.get? I = some o ∧ IA 0 o) → P (.ref I) h → Ev w n (pyIter (.ref I)) h P) (O : Own g L h₂ bs ((I, IA 0) :: ns)) (hLf : ∀ h', (∀ b o, b ≠ I → h₂.get? b = some o → h'.get? b = some o) → Lf h')
    (J : Nat → List Value → List (Addr × As) → Prop) (j0 : J 0 [] []) (hJ : ∀ i ys ex, J i ys ex → ys.length ≤ 1000)
    (turn : ∀ g' C D i v h ys ex, Gd w g' → (∀ b o, h₂.get? b = some o → b ≠ I → g'.get? b = some o) → (∀ b o, g'.get? b = some o → h₂.get? b = some o) → i < N → V i v → J i ys ex → Own g' C h [] ((I, IA (i + 1)) :: (D, LA ys) :: ex) →
      Ev w n (letOwnedTupleGo target (.ref I) v) h fun _ h₃ => Ev w n (assign target (compEnvC scope cl C env) v) h₃ fun _ h₄ => Ev w n (testsOf ifs (compEnvC scope cl C env)) h₄ fun ok h₅ =>
        if ok = true then Ev w n (eval elt (compEnvC scope cl C env)) h₅ fun y h₆ => ∃ bs' ex', J (i + 1) (ys ++ [y]) ex' ∧ Own g' C h₆ bs' ((I, IA (i + 1)) :: (D, LA ys) :: ex')
        else ∃ bs', J (i + 1) ys ex ∧ Own g' C h₅ bs' ((I, IA (i + 1)) :: (D, LA ys) :: ex))
    (hcell : ∀ y ∈ scope.names, y.2 ≠ .cell) (hkind : scope.kind = .function) :
    CompAt w n elt target iter ifs scope pos cl env (.ref I) h₂ fun D C h' => ∃ ys ex, J N ys ex ∧ Own g L h' bs ((C, NsA) :: (D, LA ys) :: (ex ++ ns)) := by
  intro s tk R hR
  refine wpAny_newObj_type (s := { s with heap := h₂, toks := tk }) (wpAny_newFunctionEnv hcell (by intro y hy; simp at hy) (fun h₁ hns₁ hsb₁ => ?_) hkind)
  dsimp only at hns₁ hsb₁ ⊢
  generalize hH2 : h₂.push { cls := .type "list", dict := none, data := .seq ([] : List Value).toArray } = H2 at hns₁ hsb₁ ⊢
  have nd := O.nd
  rw [List.map_cons, List.nodup_cons] at nd
  have hI := (O.nw _ (.head _))
  obtain ⟨⟨oI, hoI, hIA⟩, hIL, hIg⟩ := hI
  have lI : I < h₂.objs.size := Heap.lt_size hoI
  have hC : H2.objs.size = h₂.objs.size + 1 := by rw [← hH2, Heap.size_push]
  have old : ∀ b o, h₂.get? b = some o → h₁.get? b = some o := fun b o e => hsb₁.extBut b o (by rw [hC]; exact Nat.ne_of_lt (Nat.lt_succ_of_lt (Heap.lt_size e))) (Heap.get?_push_of_some _ (hH2 ▸ Heap.get?_push_of_some _ e))
  have hD : h₁.get? h₂.objs.size = some { cls := .type "list", data := .seq ([] : List Value).toArray } := hsb₁.extBut _ _ (by rw [hC]; exact Nat.ne_of_lt (Nat.lt_succ_self _)) (Heap.get?_push_of_some _ (hH2 ▸ Heap.get?_push_size _ rfl))
  -- the block's own ground: all but the iterator
  have hide : ∀ b o, (hideAll h₂ [I]).get? b = some o → h₂.get? b = some o := fun b o e => of_hideAll _ e
  have hide' : ∀ b o, h₂.get? b = some o → b ≠ I → (hideAll h₂ [I]).get? b = some o := fun b o e q => hideAll_get _ e (fun z => q (List.mem_singleton.mp z))
  have none_ge : ∀ a, h₂.objs.size ≤ a → (hideAll h₂ [I]).get? a = none := fun a ha => by
    cases e : (hideAll h₂ [I]).get? a with
    | none => rfl
    | some o => exact absurd (Heap.lt_size (hide a o e)) (Nat.not_lt.mpr ha)
  have Gg : Gd w (hideAll h₂ [I]) := G.keeps fun b o e => hide' b o (O.keep b o e) (fun z => by rw [z, hIg] at e; cases e)
  have O₁ : Own (hideAll h₂ [I]) H2.objs.size h₁ [] ((I, IA 0) :: (h₂.objs.size, LA []) :: []) := by
    refine ⟨fun b o e => old b o (hide b o e), ⟨_, hns₁, fun _ _ q => nomatch q⟩, none_ge _ (by rw [hC]; exact Nat.le_succ _), fun p hp => ?_, ?_⟩
    · rcases List.mem_cons.mp hp with rfl | hp
      · exact ⟨⟨oI, old _ _ hoI, hIA⟩, Nat.ne_of_lt (by rw [hC]; exact Nat.lt_succ_of_lt lI), hideAll_none _ (List.mem_singleton.mpr rfl)⟩
      · rw [List.mem_singleton.mp hp]
        exact ⟨⟨_, hD, 0, rfl⟩, by show _ ≠ _; rw [hC]; exact Nat.ne_of_lt (Nat.lt_succ_self _), none_ge _ (Nat.le_refl _)⟩
    · show [I, h₂.objs.size].Nodup
      rw [List.nodup_cons]
      exact ⟨fun z => Nat.ne_of_lt lI (List.mem_singleton.mp z), List.nodup_cons.mpr ⟨(fun z => nomatch z), List.nodup_nil⟩⟩
  have loop : ∀ (tk : Nat), codeAny (Mw w) (AA n) (.compLoop (.ListComp elt [⟨target, iter, ifs, 0⟩] scope pos) 0 (.ref I) (.ref h₂.objs.size) (compEnvC scope cl H2.objs.size env)) (R (.ref h₂.objs.size) H2.objs.size) { s with heap := h₁, toks := tk } := by
    intro tk
    refine comp_loop (P := fun h' => ∃ ys ex, J N ys ex ∧ Own g L h' bs ((H2.objs.size, NsA) :: (h₂.objs.size, LA ys) :: (ex ++ ns)))
      (fun k h => ∃ i bs' ys ex, i ≤ N ∧ k = N - i ∧ J i ys ex ∧ Own (hideAll h₂ [I]) H2.objs.size h bs' ((I, IA i) :: (h₂.objs.size, LA ys) :: ex)) ?_ N ⟨0, [], [], [], Nat.zero_le _, rfl, j0, O₁⟩ s tk _ (fun h' tk' p => hR _ _ h' tk' p)
    rintro k h ⟨i, bs', ys, ex, hi, rfl, j, O'⟩
    have lf : Lf h := hLf h fun b o q e => O'.keep b o (hide' b o e q)
    by_cases hlt : i < N
    · refine It.next i h _ hlt (O'.at (.head _)) lf fun v h' hv ho hb => ?_
      have O'' := (O'.upd .head hb ho).binds (bs' := []) (fun _ q => nomatch q)
      refine (turn _ _ _ i v h' ys ex Gg hide' hide hlt hv j O'').mono fun _ h₃ e => e.mono fun _ h₄ e => e.mono fun ok h₅ e => ?_
      cases ok with
      | false =>
        obtain ⟨bs₂, j', O₅⟩ := e
        exact ⟨N - (i + 1), by omega, i + 1, bs₂, ys, ex, hlt, rfl, j', O₅⟩
      | true =>
        refine Ev.mono e fun y h₆ q => ?_
        obtain ⟨bs₂, ex', j', O₆⟩ := q
        exact ev_append O₆ (.tail _ (.head _)) (fun _ z => z) (.tail .head) (hJ _ _ _ j) fun h₇ O₇ => ⟨N - (i + 1), by omega, i + 1, bs₂, ys ++ [y], ex', hlt, rfl, j', O₇⟩
    · have : i = N := by omega
      subst this
      refine It.done h _ (O'.at (.head _)) lf fun h' hb => ⟨ys, ex, j, ?_⟩
      have Od := O'.drop hb
      have up : ∀ b o, h₂.get? b = some o → b ≠ I → h'.get? b = some o := fun b o e q => Od.keep b o (hide' b o e q)
      have gno : ∀ a, (hideAll h₂ [I]).get? a = none → a ≠ L ∧ g.get? a = none ∧ a ∉ ns.map (·.1) := fun a ha => by
        obtain ⟨m, ⟨o, _, _, hL, _⟩, _⟩ := O.fr
        refine ⟨fun z => ?_, ?_, fun z => ?_⟩
        · rw [z, hide' _ _ hL (Ne.symm hIL)] at ha; cases ha
        · cases e : g.get? a with
          | none => rfl
          | some o => rw [hide' _ _ (O.keep _ _ e) (fun z => by rw [z, hIg] at e; cases e)] at ha; cases ha
        · obtain ⟨p, hp, rfl⟩ := List.mem_map.mp z
          obtain ⟨⟨o, ho, _⟩, _⟩ := O.nw p (.tail _ hp)
          rw [hide' _ _ ho (fun z => nd.1 (List.mem_map.mpr ⟨p, hp, z⟩))] at ha; cases ha
      obtain ⟨mC, hmC, _⟩ := Od.fr
      refine ⟨fun b o e => up b o (O.keep b o e) (fun z => by rw [z, hIg] at e; cases e), ?_, O.gL, fun p hp => ?_, ?_⟩
      · obtain ⟨m, ⟨o, es, ep, hL, r⟩, z⟩ := O.fr
        exact ⟨m, ⟨o, es, ep, up _ _ hL (Ne.symm hIL), r⟩, z⟩
      · rcases List.mem_cons.mp hp with rfl | hp
        · obtain ⟨o, es, ep, ho, hd, hk, hf⟩ := hmC
          exact ⟨⟨o, ho, es, ep, mC, hd, hk, hf⟩, (gno _ Od.gL).1, (gno _ Od.gL).2.1⟩
        · rcases List.mem_append.mp (show p ∈ ((h₂.objs.size, LA ys) :: ex) ++ ns from hp) with hp | hp
          · obtain ⟨a, b, c⟩ := Od.nw p hp
            exact ⟨a, (gno _ c).1, (gno _ c).2.1⟩
          · obtain ⟨⟨o, ho, hφ⟩, r⟩ := O.nw p (.tail _ hp)
            exact ⟨⟨o, up _ _ ho (fun z => nd.1 (List.mem_map.mpr ⟨p, hp, z⟩)), hφ⟩, r⟩
      · have e : (((H2.objs.size, NsA) :: (h₂.objs.size, LA ys) :: (ex ++ ns)).map (·.1)) = H2.objs.size :: ((((h₂.objs.size, LA ys) :: ex).map (·.1)) ++ ns.map (·.1)) := by simp
        rw [e, List.nodup_cons]
        refine ⟨fun z => ?_, ?_⟩
        · rcases List.mem_append.mp z with z | z
          · obtain ⟨p, hp, q⟩ := List.mem_map.mp z
            exact (Od.nw p hp).2.1 q
          · exact (gno _ Od.gL).2.2 z
        · rw [List.nodup_append]
          refine ⟨Od.nd, nd.2, fun a ha b hb q => ?_⟩
          subst q
          obtain ⟨p, hp, rfl⟩ := List.mem_map.mp ha
          exact (gno _ (Od.nw p hp).2.2).2.2 hb
  exact codeAny_compStart_list (loop _) ((self h₁ _ (O₁.at (.head _)) ⟨rfl, rfl⟩).use (P := fun v h' => v = .ref I ∧ h' = h₁) (s := { s with heap := h₁, toks := tk + 0 }) (fun v h' tk' q => by obtain ⟨rfl, rfl⟩ := q; exact loop _))
end
end Mine
end
section
open PySem PySem.W PyProof.Rows PySem.Calls
set_option maxRecDepth 100000
set_option maxHeartbeats 4000000
namespace Mine
theorem Own.ne_head {g h : Heap} {L I a : Addr} {bs : List (Str × Value)} {ns : List (Addr × As)} {φ ψ : As} (O : Own g L h bs ((I, φ) :: ns)) (hm : (a, ψ) ∈ ns) : a ≠ I := fun z => by
  have nd := O.nd
  rw [List.map_cons, List.nodup_cons] at nd
  exact nd.1 (List.mem_map.mpr ⟨_, hm, z⟩)
theorem Own.at_but {g h h' : Heap} {L I a : Addr} {bs : List (Str × Value)} {ns : List (Addr × As)} {φ ψ : As} (O : Own g L h bs ((I, φ) :: ns)) (hm : (a, ψ) ∈ ns) (k : ∀ b o, b ≠ I → h.get? b = some o → h'.get? b = some o) : ∃ o, h'.get? a = some o ∧ ψ o :=
  let ⟨o, x, y⟩ := O.at (.tail _ hm); ⟨o, k _ _ (O.ne_head hm) x, y⟩
theorem ints_take {f : Int → Int} {ys : List Value} {xs : List Int} {i : Nat} {x : Int} {t : Tok} (hys : Ints ys ((xs.take i).map f)) (hx : xs[i]? = some x) : Ints (ys ++ [.int (f x) t]) ((xs.take (i + 1)).map f) := by
  rw [List.take_add_one, hx, List.map_append]; exact hys.snoc _ _
theorem strs_take {α : Type} {f : α → Str} {ys : List Value} {xs : List α} {i : Nat} {x : α} {t : Tok} (hys : Strs ys ((xs.take i).map f)) (hx : xs[i]? = some x) : Strs (ys ++ [.str (f x) t]) ((xs.take (i + 1)).map f) := by
  rw [List.take_add_one, hx, List.map_append]; exact hys.snoc _ _
theorem iteT {p q : Prop} (h : p) : if true = true then p else q := by rw [if_pos rfl]; exact h
section
variable {w : World} {n : Nat} {h : Heap} {env : Env} {elt target iter : Expr} {ifs : List Expr} {scope : Scope} {pos : Pos} {cl : List (Str × Addr)}
theorem CompAt.mono {it : Value} {h₂ : Heap} {P P' : Addr → Addr → Heap → Prop} (c : CompAt w n elt target iter ifs scope pos cl env it h₂ P) (k : ∀ D C h', P D C h' → P' D C h') : CompAt w n elt target iter ifs scope pos cl env it h₂ P' :=
  fun s tk R hR => c s tk R fun D C h' tk' p => hR D C h' tk' (k D C h' p)
theorem ns_of {g : Heap} {L C : Addr} {bs : List (Str × Value)} {ns : List (Addr × As)} (O : Own g L h bs ((C, NsA) :: ns)) : ∃ m, h.Ns C m := by
  obtain ⟨o, ho, es, ep, m, hd, hk, hf⟩ := O.at (.head _)
  exact ⟨m, o, es, ep, ho, hd, hk, hf⟩
/-- a comprehension as a value -/
theorem ev_comp {P : Value → Heap → Prop} (hclos : closureFor scope env = pure cl) (hkind : scope.kind = .function) (hnames : ∀ y ∈ scope.names, y.2 = .local → scope.names.lookup y.1 = some .local)
    (e : Ev w n (eval iter env) h fun xv h₁ => Ev w n (pyIter xv) h₁ fun it h₂ => CompAt w n elt target iter ifs scope pos cl env it h₂ fun D C h' => ∃ g L bs ns, Own g L h' bs ((C, NsA) :: ns) ∧ ∀ h'', Own g L h'' bs ns → P (.ref D) h'')
    (hs : ∀ x, foldedSetIterable iter env x = pure x := by intro _; rfl) : Ev w n (eval (.ListComp elt [⟨target, iter, ifs, 0⟩] scope pos) env) h P := by
  intro s tk
  rw [eval_ListComp]
  refine wpAny_comprehension_free (use := none) rfl hs hclos hkind hnames (wpAny_mono (e s tk) (fun xv _ ⟨h₁, tk₁, e₁, p⟩ => e₁ ▸ wpAny_mono (p s tk₁) (fun it s₂ hx => ?_) fun _ _ f => f) fun _ _ f => f)
  obtain ⟨h₂, tk₂, rfl, p⟩ := hx
  refine p s tk₂ _ fun D C h' tk' q => ?_
  obtain ⟨g, L, bs, ns, O, k⟩ := q
  obtain ⟨m, hm⟩ := ns_of O
  exact ⟨m, hm, fun h'' hs'' => ⟨h'', tk', rfl, k h'' (O.drop (.of_same hs''))⟩⟩
/-- a comprehension stored under a name: the store stands before the block's frame goes -/
theorem ev_assign_comp {y : Str} {py spos : Pos} {P : Flow → Heap → Prop} (hclos : closureFor scope env = pure cl) (hkind : scope.kind = .function) (hnames : ∀ y ∈ scope.names, y.2 = .local → scope.names.lookup y.1 = some .local)
    (e : Ev w n (eval iter env) h fun xv h₁ => Ev w n (pyIter xv) h₁ fun it h₂ => CompAt w n elt target iter ifs scope pos cl env it h₂ fun D C h' => Ev w n (storeName env y (.ref D)) h' fun _ h₃ => ∃ g L bs ns, Own g L h₃ bs ((C, NsA) :: ns) ∧ ∀ h'', Own g L h'' bs ns → P .next h'')
    (hsw : swapsWith (.ListComp elt [⟨target, iter, ifs, 0⟩] scope pos) (some (.Name y py)) spos.line env = pure true) (hs : ∀ x, foldedSetIterable iter env x = pure x := by intro _; rfl) :
    Ev w n (exec (.Assign [.Name y py] (.ListComp elt [⟨target, iter, ifs, 0⟩] scope pos) spos) env) h P := by
  intro s tk
  rw [exec_Assign_Name_used _ _ _ _ hsw]
  refine wpAny_bind (wpAny_standAt (wpAny_bind ?_))
  show wpAny _ (AA n) (do let _ ← comprehension (.ListComp elt [⟨target, iter, ifs, 0⟩] scope pos) scope env _ (newList []) false (eval iter env) (some (assign (.Name y py) env))) _ _ _
  refine wpAny_bind (wpAny_mono (wpAny_comprehension_free (use := some (assign (.Name y py) env)) (Q := fun _ s' => ∃ h' tk', s' = { s with heap := h', toks := tk' } ∧ P .next h') rfl hs hclos hkind hnames
    (wpAny_mono (e s tk) (fun xv _ ⟨h₁, tk₁, e₁, p⟩ => e₁ ▸ wpAny_mono (p s tk₁) (fun it s₂ hx => ?_) fun _ _ f => f) fun _ _ f => f)) (fun _ s' hq => wpAny_pure (wpAny_pure hq)) fun _ _ f => f)
  obtain ⟨h₂, tk₂, rfl, p⟩ := hx
  refine p s tk₂ (fun acc C => compPost (Mw w) (AA n) (fun _ _ => False) (some (assign (.Name y py) env)) (fun _ s' => ∃ h' tk', s' = { s with heap := h', toks := tk' } ∧ P .next h') acc C) fun D C h' tk' q => ?_
  show wpAny _ (AA n) (assign (.Name y py) env (.ref D)) _ _ _
  refine wpAny_assign_Name (q.use (s := { s with heap := h', toks := tk' }) fun _ h₃ tk₃ r => ?_)
  obtain ⟨g, L, bs, ns, O, k⟩ := r
  obtain ⟨m, hm⟩ := ns_of O
  exact ⟨m, hm, fun h'' hs'' => ⟨h'', tk₃, rfl, k h'' (O.drop (.of_same hs''))⟩⟩
end
section
variable {w : World} {n : Nat} {g h : Heap} {L l : Addr} {env : Env} {vs : List Value} {bs : List (Str × Value)} {ns ns' : List (Addr × As)}
theorem ev_setitem {P : Unit → Heap → Prop} {k : Int} {t : Tok} {v : Value} (O : Own g L h bs ns) (hm : (l, LA vs) ∈ ns) (U : UpdA l (LA (vs.set k.toNat v)) ns ns') (h0 : 0 ≤ k) (h1 : k < vs.length) (hz : vs.length < 2 ^ 30) (p : ∀ h', Own g L h' bs ns' → P () h') :
    Ev w n (setItem (.ref l) (.int k t) v) h P := by
  intro s tk
  have hl := O.at hm
  have hL := isList hl
  obtain ⟨o, ho, m, rfl⟩ := hl
  unfold setItem
  try with_reducible refine wpAny_holding ?_
  first | refine wpAny_bind (wpAny_pure ?_) | skip
  refine wpAny_bind (wpAny_sequenceKey (s := { s with heap := h, toks := tk }) hL.typeIs (by decide) ?_)
  refine wpAny_bind (wpAny_callSpecial?_slot (name := Str.ofString "__setitem__") hL.typeIs slot_list_setitem (wpAny_call_entry slot_list_setitem hL.typeIs entry_list_setitem ?_ (args_list_setitem _ _ _)))
  show wpAny _ _ (Builtin.List.listSubscript? (.int k t) >>= _) _ _ _
  refine wpAny_bind (wpAny_listSubscript_int (fitsIndex_of h0 (by omega)) ?_)
  obtain ⟨j, rfl⟩ := Int.eq_ofNat_of_zero_le h0
  have hj : j < vs.toArray.size := by simp; omega
  show wpAny _ _ ((seqItemAt l j >>= fun r => pure (r.map (j, ·))) >>= _) _ _ _
  refine wpAny_bind (wpAny_bind (wpAny_seqItemAt (s := { s with heap := h, toks := tk }) ho rfl (wpAny_pure ?_)))
  rw [Array.getElem?_eq_getElem hj]
  show wpAny _ _ (setSeqItemAt l j v >>= _) _ _ _
  have e : Obj.mapSeq (·.setIfInBounds j v) { cls := .type "list", data := .seq vs.toArray m } = { cls := .type "list", data := .seq (vs.set j v).toArray m } := by simp [Obj.mapSeq]
  have hfin : ∃ o, (h.update l (Obj.mapSeq (·.setIfInBounds j v))).get? l = some o ∧ LA (vs.set j v) o := ⟨_, Heap.get?_update_self _ ho (by rw [e]; rfl), m, e⟩
  have O' := O.upd U (.of_same (Heap.SameBut.update h l (Obj.mapSeq (·.setIfInBounds j v)))) hfin
  refine wpAny_bind (wpAny_setSeqItemAt (s := { s with heap := h, toks := tk }) ho rfl ?_)
  first
    | exact wpAny_bind (wpAny_pure (wpAny_pure ⟨.none, rfl, wpAny_pure ⟨_, tk, rfl, p _ O'⟩⟩))
    | exact wpAny_pure ⟨.none, rfl, wpAny_pure ⟨_, tk, rfl, p _ O'⟩⟩
theorem ev_setsub_then {o i value : Expr} {p' pos : Pos} {rest : List Stmt} {P : Flow → Heap → Prop} (e : Ev w n (eval value env) h fun v h₁ => Ev w n (eval o env) h₁ fun ov h₂ => Ev w n (eval i env) h₂ fun iv h₃ => Ev w n (setItem ov iv v) h₃ fun _ h₄ => Ev w n (execs rest env) h₄ P)
    (hs : swapsWith value (some (.Subscript o i p')) pos.line env = pure false := by rfl) : Ev w n (execs (.Assign [.Subscript o i p'] value pos :: rest) env) h P := ev_seq fun s tk =>
  wpAny_Assign_Subscript (wpAny_mono (e s tk) (fun _ _ ⟨_, tk₁, e₁, p₁⟩ => e₁ ▸ wpAny_mono (p₁ s tk₁) (fun _ _ ⟨_, tk₂, e₂, p₂⟩ => e₂ ▸ wpAny_mono (p₂ s tk₂) (fun _ _ ⟨_, tk₃, e₃, p₃⟩ => e₃ ▸ wpAny_mono (p₃ s tk₃) (fun _ _ ⟨h₄, tk₄, e₄, p₄⟩ => ⟨h₄, tk₄, e₄, p₄⟩) fun _ _ f => f) fun _ _ f => f) fun _ _ f => f) fun _ _ f => f) hs
theorem ev_len {P : Value → Heap → Prop} (hl : h.IsList l vs.toArray) (hz : vs.length < 2 ^ 30) (p : ∀ t, P (.int (vs.length : Int) t) h) : Ev w n (call (.builtin "len") [.ref l]) h P := fun s tk =>
  call_len_list (s := { s with heap := h, toks := tk }) hl (by simp; omega) ⟨h, tk + 1 + 1, rfl, by simpa using p _⟩
theorem ev_item_isl {value slice : Expr} {k : Int} {u : Tok} {P : Value → Heap → Prop} (hl : h.IsList l vs.toArray) (h0 : 0 ≤ k) (h1 : k < vs.length) (hz : vs.length < 2 ^ 30) (p : ∀ v, vs[k.toNat]? = some v → P v h)
    (hs : subscripted slice false (.ref l) (.int k u) = operate [.ref l, .int k u] (getItem (.ref l) (.int k u)) := by with_unfolding_all rfl) : Ev w n (subscriptTail value slice (.ref l) (.int k u)) h P := by
  have hk : k.toNat < vs.length := by omega
  exact fun s tk => tail_any (s := { s with heap := h, toks := tk }) hl.typeIs slot_list_getitem.lookup (wpAny_getItem_list hl h0 (by omega) (x := vs[k.toNat]) (by simp [hk]) ⟨h, tk, rfl, p _ (List.getElem?_eq_getElem hk)⟩) hs
theorem self_list {I l : Addr} {vs : List Value} (h : Heap) (P : Value → Heap → Prop) (hi : ∃ o, h.get? I = some o ∧ LI l 0 o) (p : P (.ref I) h) : Ev w n (pyIter (.ref I)) h P := fun s tk => by
  obtain ⟨o, ho, hc, hd⟩ := hi
  exact wpAny_pyIter_listiter (s := { s with heap := h, toks := tk }) ⟨o, ho, hc, hd⟩ ⟨h, tk, rfl, p⟩
theorem self_range {I : Addr} {N : Nat} (h : Heap) (P : Value → Heap → Prop) (hi : ∃ o, h.get? I = some o ∧ RI N 0 o) (p : P (.ref I) h) : Ev w n (pyIter (.ref I)) h P := fun s tk => by
  obtain ⟨o, ho, rfl⟩ := hi
  exact wpAny_pyIter_rangeiter (s := { s with heap := h, toks := tk }) ho ⟨h, tk, rfl, p⟩
end
end Mine
end
section
open PySem PySem.W PyProof.Rows PySem.Calls
set_option maxRecDepth 100000
set_option maxHeartbeats 4000000
namespace Mine
/-- the order of pairs of a text and an int, as Python has it -/
noncomputable def pLt (p q : Str × Int) : Bool := if p.1 = q.1 then decide (p.2 < q.2) else decide (p.1.cps.toList < q.1.cps.toList)
section
variable {prog : Program} {w : World} {A : Around} {E : Value → Shared → Prop} {s : Shared}
theorem lt_pair_tree {a b : Addr} {x y : Str} {i j : Int} {t t' u u' : Tok} {m m' : Nat} {P : PySem.Fin → Shared → Prop} (ha : s.heap.get? a = some { cls := .type "tuple", data := .seq [Value.str x t, .int i u].toArray m }) (hb : s.heap.get? b = some { cls := .type "tuple", data := .seq [Value.str y t', .int j u'].toArray m' })
    (h : P (.done (.ret (.bool (pLt (x, i) (y, j))))) s) : wpAny (model prog w) A (Builtin.«tuple.__lt__» ⟨[.ref a, .ref b], []⟩) P E s := by
  have hTb : s.TypeIs (.ref b) "tuple" := ⟨_, hb, rfl⟩
  show wpAny _ _ (isInstance (.ref b) (.type "tuple") >>= _) _ _ s
  refine wpAny_bind (wpAny_isInstance hTb isSubtype_tuple_tuple ?_)
  simp only [Bool.not_true, Bool.false_eq_true, if_false]
  refine wpAny_bind (wpAny_tupleItemsOf ha rfl ?_)
  refine wpAny_bind (wpAny_tupleItemsOf hb rfl ?_)
  refine wpAny_bind ?_
  refine wpAny_forIn_list _
    (fun rest r s' => r.1 = none ∧ s' = s ∧ (rest = [(Value.str x t, Value.str y t'), (.int i u, .int j u')] ∨ (rest = [(Value.int i u, Value.int j u')] ∧ x = y) ∨ (rest = [] ∧ x = y ∧ i = j)))
    _ ?_ ?_ _ _ ⟨rfl, rfl, .inl rfl⟩
  · rintro ⟨p, q⟩ rest r s' ⟨hr, rfl, hz⟩
    rcases hz with hz | ⟨hz, hxy⟩ | ⟨hz, _⟩
    · simp only [List.cons.injEq, Prod.mk.injEq] at hz
      obtain ⟨⟨rfl, rfl⟩, rfl⟩ := hz
      refine wpAny_bind (wpAny_eqBool_str ?_)
      by_cases hk : x = y
      · rw [decide_eq_true hk]
        simp only [Bool.not_true, Bool.false_eq_true, if_false]
        exact wpAny_pure ⟨rfl, rfl, .inr (.inl ⟨trivial, hk⟩)⟩
      · rw [decide_eq_false hk]
        simp only [Bool.not_false, if_true]
        refine wpAny_bind (wpAny_rule (wpAny_bind (m := richCompare .Lt (.str x t) (.str y t')) (lt_str (A := A) ?_)))
        have e : pLt (x, i) (y, j) = decide (x.cps.toList < y.cps.toList) := if_neg hk
        rw [e] at h
        exact wpAny_bind (wpAny_pure (wpAny_pure (wpAny_pure h)))
    · simp only [List.cons.injEq, Prod.mk.injEq] at hz
      obtain ⟨⟨rfl, rfl⟩, rfl⟩ := hz
      refine wpAny_bind (wpAny_eqBool_int ?_)
      by_cases hk : i = j
      · have : (i == j) = true := by simpa using hk
        rw [this]
        simp only [Bool.not_true, Bool.false_eq_true, if_false]
        exact wpAny_pure ⟨rfl, rfl, .inr (.inr ⟨trivial, hxy, hk⟩)⟩
      · have : (i == j) = false := by simpa using hk
        rw [this]
        simp only [Bool.not_false, if_true]
        refine wpAny_bind (wpAny_rule (wpAny_bind (m := richCompare .Lt (.int i u) (.int j u')) (PyProof.Rows.lt_int (A := A) ?_)))
        have e : pLt (x, i) (y, j) = decide (i < j) := if_pos hxy
        rw [e] at h
        exact wpAny_bind (wpAny_pure (wpAny_pure (wpAny_pure h)))
    · cases hz
  · rintro ⟨r1, r2⟩ s' ⟨hr, rfl, hz⟩
    simp only at hr
    subst hr
    rcases hz with hz | ⟨hz, hxy⟩ | ⟨_, hxy, hij⟩
    · cases hz
    · cases hz
    · have e : pLt (x, i) (y, j) = false := by
        have : pLt (x, i) (y, j) = decide (i < j) := if_pos hxy
        rw [this, hij]; simp
      rw [e] at h
      exact wpAny_pure h
end
section
variable {w : World} {n : Nat} {h : Heap}
theorem ev_lt_pair {a b : Addr} {x y : Str} {i j : Int} {t t' u u' : Tok} {P : Value → Heap → Prop} (hn : n < 900) (ha : ∃ o, h.get? a = some o ∧ TA [.str x t, .int i u] o) (hb : ∃ o, h.get? b = some o ∧ TA [.str y t', .int j u'] o) (p : P (.bool (pLt (x, i) (y, j))) h) :
    Ev w n (compareOp .Lt (.ref a) (.ref b)) h P := by
  intro s tk
  obtain ⟨o, ha, m, rfl⟩ := ha
  obtain ⟨o', hb, m', rfl⟩ := hb
  refine cmp_ofLt (wpAny_richCompare_same_room (T := "tuple") (s := { s with heap := h, toks := tk }) ⟨_, ha, rfl⟩ ⟨_, hb, rfl⟩ F.slot_tuple_lt (wpAny_call_entry F.slot_tuple_lt ⟨_, ha, rfl⟩ F.entry_tuple_lt (lt_pair_tree ha hb ⟨_, rfl, by simp, h, tk, rfl, p⟩) (F.args_tuple_lt_2 _ _)) ?_)
  show 10 * n < cLine
  unfold cLine; omega
end
end Mine
end
section
open PySem PySem.W PyProof.Rows PySem.Calls
namespace Mine
/-- a value that is a pair of a text and an int; a list of such -/
noncomputable def Pr (g : Heap) (v : Value) (p : Str × Int) : Prop := ∃ a t u, v = .ref a ∧ ∃ o, g.get? a = some o ∧ TA [.str p.1 t, .int p.2 u] o
noncomputable def Rs {α : Type} (R : Value → α → Prop) (vs : List Value) (ps : List α) : Prop := vs.length = ps.length ∧ ∀ (j : Nat) (v : Value), vs[j]? = some v → ∃ p, ps[j]? = some p ∧ R v p
theorem Rs.mono {α : Type} {R R' : Value → α → Prop} {vs : List Value} {ps : List α} (x : Rs R vs ps) (k : ∀ v p, R v p → R' v p) : Rs R' vs ps := ⟨x.1, fun j v h => let ⟨p, a, b⟩ := x.2 j v h; ⟨p, a, k _ _ b⟩⟩
theorem Rs.nil {α : Type} {R : Value → α → Prop} : Rs R [] [] := ⟨rfl, fun j v h => by simp at h⟩
theorem Rs.set {α : Type} {R : Value → α → Prop} {vs : List Value} {ps : List α} (x : Rs R vs ps) (j : Nat) {v : Value} {p : α} (hv : R v p) : Rs R (vs.set j v) (ps.set j p) := by
  refine ⟨by rw [List.length_set, List.length_set]; exact x.1, fun i u h => ?_⟩
  rw [List.getElem?_set] at h ⊢
  by_cases hij : j = i
  · subst hij
    rw [if_pos rfl] at h ⊢
    by_cases hl : j < vs.length
    · rw [if_pos hl] at h
      rw [if_pos (by rw [← x.1]; exact hl)]
      cases h; exact ⟨p, rfl, hv⟩
    · rw [if_neg hl] at h; cases h
  · rw [if_neg hij] at h ⊢
    exact x.2 i u h
theorem Rs.snoc {α : Type} {R : Value → α → Prop} {vs : List Value} {ps : List α} (x : Rs R vs ps) {v : Value} {p : α} (hv : R v p) : Rs R (vs ++ [v]) (ps ++ [p]) := by
  refine ⟨by rw [List.length_append, List.length_append, x.1]; rfl, fun i u h => ?_⟩
  by_cases hi : i < vs.length
  · rw [List.getElem?_append_left hi] at h
    rw [List.getElem?_append_left (by rw [← x.1]; exact hi)]
    exact x.2 i u h
  · rw [List.getElem?_append_right (by omega)] at h
    rw [List.getElem?_append_right (by rw [← x.1]; omega), ← x.1]
    have : i - vs.length = 0 := by
      have := (List.getElem?_eq_some_iff.mp h).1
      simp at this; omega
    rw [this] at h ⊢
    simp at h ⊢
    subst h; exact hv
theorem Rs.cons {α : Type} {R : Value → α → Prop} {vs : List Value} {ps : List α} (x : Rs R vs ps) {v : Value} {p : α} (hv : R v p) : Rs R (v :: vs) (p :: ps) := by
  refine ⟨by rw [List.length_cons, List.length_cons, x.1], fun i u h => ?_⟩
  cases i with
  | zero => simp at h ⊢; subst h; exact hv
  | succ i => simp at h ⊢; exact x.2 i u h
theorem Rs.dropLast {α : Type} {R : Value → α → Prop} {vs : List Value} {v : Value} {ps : List α} (x : Rs R (vs ++ [v]) ps) : ∃ qs q, ps = qs ++ [q] ∧ Rs R vs qs ∧ R v q := by
  obtain ⟨hl, hx⟩ := x
  rw [List.length_append, List.length_singleton] at hl
  have hne : ps ≠ [] := fun e => by rw [e] at hl; simp at hl
  have e : ps = ps.dropLast ++ [ps.getLast hne] := (List.dropLast_concat_getLast hne).symm
  have hd : ps.dropLast.length = vs.length := by rw [List.length_dropLast]; omega
  refine ⟨_, _, e, ⟨hd.symm, fun j u hj => ?_⟩, ?_⟩
  · have hjl := (List.getElem?_eq_some_iff.mp hj).1
    obtain ⟨p, hp, hr⟩ := hx j u (by rw [List.getElem?_append_left hjl]; exact hj)
    refine ⟨p, ?_, hr⟩
    rw [e, List.getElem?_append_left (by omega)] at hp
    exact hp
  · obtain ⟨p, hp, hr⟩ := hx vs.length v (by simp)
    rw [e, ← hd, List.getElem?_concat_length] at hp
    cases hp; exact hr
noncomputable abbrev Prs (g : Heap) (vs : List Value) (ps : List (Str × Int)) : Prop := Rs (Pr g) vs ps
theorem Pr.keeps {g g' : Heap} {v : Value} {p : Str × Int} (x : Pr g v p) (k : ∀ a o, g.get? a = some o → o.cls = .type "tuple" → g'.get? a = some o) : Pr g' v p := by
  obtain ⟨a, t, u, e, o, ho, m, rfl⟩ := x
  exact ⟨a, t, u, e, _, k _ _ ho rfl, m, rfl⟩
theorem Prs.keeps {g g' : Heap} {vs : List Value} {ps : List (Str × Int)} (x : Prs g vs ps) (k : ∀ a o, g.get? a = some o → o.cls = .type "tuple" → g'.get? a = some o) : Prs g' vs ps :=
  Rs.mono x fun _ _ b => b.keeps k
/-- the values of R are pairs that lie in h, not at l -/
noncomputable def PrBut (h : Heap) (l : Addr) (R : Value → Str × Int → Prop) : Prop := ∀ v p, R v p → ∃ a t u, v = .ref a ∧ a ≠ l ∧ ∃ o, h.get? a = some o ∧ TA [.str p.1 t, .int p.2 u] o
theorem PrBut.pr {h g : Heap} {l : Addr} {R : Value → Str × Int → Prop} (x : PrBut h l R) (k : ∀ b o, h.get? b = some o → b ≠ l → g.get? b = some o) : ∀ v p, R v p → Pr g v p := fun v p r => by
  obtain ⟨a, t, u, e, hn, o, ho, ht⟩ := x v p r
  exact ⟨a, t, u, e, o, k _ _ ho hn, ht⟩
theorem PrBut.keeps {h h' : Heap} {l : Addr} {R : Value → Str × Int → Prop} (x : PrBut h l R) (k : ∀ b o, b ≠ l → h.get? b = some o → h'.get? b = some o) : PrBut h' l R := fun v p r => by
  obtain ⟨a, t, u, e, hn, o, ho, ht⟩ := x v p r
  exact ⟨a, t, u, e, hn, o, k _ _ hn ho, ht⟩
theorem but_of {g h h' : Heap} {L l : Addr} {φ : As} {bs : List (Str × Value)} {ns : List (Addr × As)} (kg : ∀ b o, h.get? b = some o → b ∉ [(l, φ)].map (·.1) → g.get? b = some o) (O : Own g L h' bs ns) : But l h h' := fun b o hb e => O.keep b o (kg b o e (by simpa using hb))
noncomputable abbrev P2 := Str × Int
/-- the sifts, plain; n is fuel -/
noncomputable def sdF (x : P2) (start : Nat) : Nat → Nat → List P2 → List P2
  | 0, pos, xs => xs.set pos x
  | n + 1, pos, xs => if start < pos then (if pLt x (xs.getD ((pos - 1) / 2) x) = true then sdF x start n ((pos - 1) / 2) (xs.set pos (xs.getD ((pos - 1) / 2) x)) else xs.set pos x) else xs.set pos x
noncomputable def sdLoop (x : P2) (start : Nat) (pos : Nat) (xs : List P2) : List P2 := sdF x start pos pos xs
noncomputable def siftdown (xs : List P2) (start pos : Nat) : List P2 := sdLoop (xs.getD pos default) start pos xs
theorem sdF_on (x : P2) (start n pos : Nat) (xs : List P2) : sdF x start (n + 1) pos xs = if start < pos then (if pLt x (xs.getD ((pos - 1) / 2) x) = true then sdF x start n ((pos - 1) / 2) (xs.set pos (xs.getD ((pos - 1) / 2) x)) else xs.set pos x) else xs.set pos x := rfl
theorem sdF_length (x : P2) (start n : Nat) : ∀ (pos : Nat) (xs : List P2), (sdF x start n pos xs).length = xs.length := by
  induction n with
  | zero => intro pos xs; exact List.length_set
  | succ n ih =>
    intro pos xs
    rw [sdF_on]
    by_cases h : start < pos
    · rw [if_pos h]
      by_cases c : pLt x (xs.getD ((pos - 1) / 2) x) = true
      · rw [if_pos c, ih, List.length_set]
      · rw [if_neg c, List.length_set]
    · rw [if_neg h, List.length_set]
theorem sdLoop_length (x : P2) (start pos : Nat) (xs : List P2) : (sdLoop x start pos xs).length = xs.length := sdF_length _ _ _ _ _
theorem sdF_more (x : P2) (start n : Nat) : ∀ (pos : Nat) (xs : List P2), pos ≤ n → sdF x start (n + 1) pos xs = sdF x start n pos xs := by
  induction n with
  | zero => intro pos xs h; rw [sdF_on, if_neg (by omega)]; rfl
  | succ n ih =>
    intro pos xs h
    rw [sdF_on x start (n + 1) pos xs, sdF_on x start n pos xs]
    by_cases h : start < pos
    · rw [if_pos h, if_pos h, ih _ _ (by omega)]
    · rw [if_neg h, if_neg h]
theorem sdF_any (x : P2) (start : Nat) {n pos : Nat} (xs : List P2) (h : pos ≤ n) : sdF x start n pos xs = sdLoop x start pos xs := by
  obtain ⟨k, rfl⟩ := Nat.exists_eq_add_of_le h
  clear h
  induction k with
  | zero => rfl
  | succ k ih => rw [show pos + (k + 1) = pos + k + 1 from rfl, sdF_more _ _ _ _ _ (Nat.le_add_right _ _)]; exact ih
theorem sdLoop_on {x : P2} {start pos : Nat} {xs : List P2} (h : start < pos) : sdLoop x start pos xs = if pLt x (xs.getD ((pos - 1) / 2) x) = true then sdLoop x start ((pos - 1) / 2) (xs.set pos (xs.getD ((pos - 1) / 2) x)) else xs.set pos x := by
  obtain ⟨n, rfl⟩ : ∃ n, pos = n + 1 := ⟨pos - 1, by omega⟩
  show sdF x start (n + 1) (n + 1) xs = _
  rw [sdF_on, if_pos h, sdF_any _ _ _ (by omega)]
theorem sd_step {x y : P2} {start pos : Nat} {xs : List P2} (h : start < pos) (hy : xs.getD ((pos - 1) / 2) x = y) (hc : pLt x y = true) : sdLoop x start pos xs = sdLoop x start ((pos - 1) / 2) (xs.set pos y) := by
  rw [sdLoop_on h, hy, if_pos hc]
theorem sd_stop {x y : P2} {start pos : Nat} {xs : List P2} (h : start < pos) (hy : xs.getD ((pos - 1) / 2) x = y) (hc : ¬ pLt x y = true) : sdLoop x start pos xs = xs.set pos x := by
  rw [sdLoop_on h, hy, if_neg hc]
theorem sd_end {x : P2} {start pos : Nat} {xs : List P2} (h : ¬ start < pos) : sdLoop x start pos xs = xs.set pos x := by
  show sdF x start pos pos xs = _
  cases pos with
  | zero => rfl
  | succ n => rw [sdF_on, if_neg h]
noncomputable def suNext (endp pos : Nat) (xs : List P2) : Nat := if 2 * pos + 2 < endp ∧ ¬ pLt (xs.getD (2 * pos + 1) default) (xs.getD (2 * pos + 2) default) = true then 2 * pos + 2 else 2 * pos + 1
theorem suNext_gt (endp pos : Nat) (xs : List P2) : 2 * pos + 1 ≤ suNext endp pos xs := by
  unfold suNext
  by_cases h : 2 * pos + 2 < endp ∧ ¬ pLt (xs.getD (2 * pos + 1) default) (xs.getD (2 * pos + 2) default) = true
  · rw [if_pos h]; exact Nat.le_succ _
  · rw [if_neg h]; exact Nat.le_refl _
noncomputable def suF (endp : Nat) : Nat → Nat → List P2 → Nat × List P2
  | 0, pos, xs => (pos, xs)
  | n + 1, pos, xs => if 2 * pos + 1 < endp then suF endp n (suNext endp pos xs) (xs.set pos (xs.getD (suNext endp pos xs) default)) else (pos, xs)
noncomputable def suLoop (endp : Nat) (pos : Nat) (xs : List P2) : Nat × List P2 := suF endp (endp - pos) pos xs
theorem suF_on (endp n pos : Nat) (xs : List P2) : suF endp (n + 1) pos xs = if 2 * pos + 1 < endp then suF endp n (suNext endp pos xs) (xs.set pos (xs.getD (suNext endp pos xs) default)) else (pos, xs) := rfl
theorem suF_length (endp n : Nat) : ∀ (pos : Nat) (xs : List P2), (suF endp n pos xs).2.length = xs.length := by
  induction n with
  | zero => intro pos xs; rfl
  | succ n ih =>
    intro pos xs
    rw [suF_on]
    by_cases h : 2 * pos + 1 < endp
    · rw [if_pos h, ih, List.length_set]
    · rw [if_neg h]
theorem suF_more (endp n : Nat) : ∀ (pos : Nat) (xs : List P2), endp - pos ≤ n → suF endp (n + 1) pos xs = suF endp n pos xs := by
  induction n with
  | zero => intro pos xs h; rw [suF_on, if_neg (by omega)]; rfl
  | succ n ih =>
    intro pos xs h
    rw [suF_on endp (n + 1) pos xs, suF_on endp n pos xs]
    by_cases h2 : 2 * pos + 1 < endp
    · have := suNext_gt endp pos xs
      rw [if_pos h2, if_pos h2, ih _ _ (by omega)]
    · rw [if_neg h2, if_neg h2]
theorem suF_any (endp : Nat) {n pos : Nat} (xs : List P2) (h : endp - pos ≤ n) : suF endp n pos xs = suLoop endp pos xs := by
  show _ = suF endp (endp - pos) pos xs
  obtain ⟨k, rfl⟩ := Nat.exists_eq_add_of_le h
  induction k with
  | zero => rfl
  | succ k ih => rw [show endp - pos + (k + 1) = endp - pos + k + 1 from rfl, suF_more _ _ _ _ (Nat.le_add_right _ _)]; exact ih (Nat.le_add_right _ _)
theorem suLoop_on {endp pos : Nat} {xs : List P2} (h : 2 * pos + 1 < endp) : suLoop endp pos xs = suLoop endp (suNext endp pos xs) (xs.set pos (xs.getD (suNext endp pos xs) default)) := by
  have hn := suNext_gt endp pos xs
  show suF endp (endp - pos) pos xs = _
  obtain ⟨n, e⟩ : ∃ n, endp - pos = n + 1 := ⟨endp - pos - 1, by omega⟩
  rw [e, suF_on, if_pos h, suF_any _ _ (by omega)]
theorem su_right {N p : Nat} {xs : List P2} (h2 : 2 * p + 2 < N) (hc : ¬ pLt (xs.getD (2 * p + 1) default) (xs.getD (2 * p + 2) default) = true) : suLoop N p xs = suLoop N (2 * p + 2) (xs.set p (xs.getD (2 * p + 2) default)) := by
  rw [suLoop_on (Nat.lt_of_succ_lt h2), show suNext N p xs = 2 * p + 2 from if_pos ⟨h2, hc⟩]
theorem su_left {N p : Nat} {xs : List P2} (h : 2 * p + 1 < N) (hc : ¬ (2 * p + 2 < N ∧ ¬ pLt (xs.getD (2 * p + 1) default) (xs.getD (2 * p + 2) default) = true)) : suLoop N p xs = suLoop N (2 * p + 1) (xs.set p (xs.getD (2 * p + 1) default)) := by
  rw [suLoop_on h, show suNext N p xs = 2 * p + 1 from if_neg hc]
theorem su_end {N p : Nat} {xs : List P2} (h : ¬ 2 * p + 1 < N) : suLoop N p xs = (p, xs) := by
  show suF N (N - p) p xs = _
  cases N - p with
  | zero => rfl
  | succ n => rw [suF_on, if_neg h]
noncomputable def siftup (xs : List P2) (pos : Nat) : List P2 :=
  let r := suLoop xs.length pos xs
  siftdown (r.2.set r.1 (xs.getD pos default)) pos r.1
end Mine
end
section
open PySem PySem.W PyProof.Rows PySem.Calls
set_option maxRecDepth 100000
set_option maxHeartbeats 4000000
namespace Mine
theorem iteF {p q : Prop} (h : q) : if false = true then p else q := by rw [if_neg (by decide)]; exact h
theorem Rs.get {α : Type} [Inhabited α] {R : Value → α → Prop} {vs : List Value} {ps : List α} (x : Rs R vs ps) {j : Nat} {v : Value} (h : vs[j]? = some v) : R v (ps.getD j default) := by
  obtain ⟨p, hp, r⟩ := x.2 j v h
  rw [List.getD_eq_getElem?_getD, hp]
  exact r
/-- a call that changes one list, as a statement -/
theorem nref_none {P : Prop} (p : P) : (∀ a : Addr, Value.none ≠ Value.ref a) ∧ P := ⟨(fun _ q => by cases q), p⟩
theorem Own.upd1 {g h h' : Heap} {L a : Addr} {bs : List (Str × Value)} {ns ns' : List (Addr × As)} {φ' : As} (O : Own g L h bs ns) (U : UpdA a φ' ns ns') (hb : But a h h') (ho : ∃ o, h'.get? a = some o ∧ φ' o) : Own g L h' bs ns' := O.upd U hb ho
end Mine
end
section
open PySem PySem.W PyProof.Rows PySem.Calls
set_option maxRecDepth 100000
set_option maxHeartbeats 4000000
namespace Mine
/-- reversed(range(N)) -/
noncomputable def rsmall (a b c : Int) : Bool := Builtin.Range.rangeFitsLong a && Builtin.Range.rangeFitsLong b && Builtin.Range.rangeFitsLong c && Builtin.Range.rangeFitsLong (-c) && Builtin.Range.rangeFitsLong (a - c) && Builtin.Range.rangeFitsLong (Builtin.Range.rangeSize a b c)
theorem rsmall_of {N : Nat} (h : N < 2 ^ 31) : rsmall 0 N 1 = true := by
  unfold rsmall
  rw [range_size]
  unfold Builtin.Range.rangeFitsLong
  simp only [Bool.and_eq_true, decide_eq_true_eq]
  omega
theorem range_reversed_meets (r : Addr) (a b c : Int) (t u v : Tok) (hc0 : ¬ (!(rsmall a b c)) = true) :
    Meets (Builtin.«range.__reversed__» ⟨[.ref r], []⟩) (fun _ R s => s.heap.get? r = some { cls := .type "range", dict := none, data := .fields #[.int a t, .int b u, .int c v], slots := #[] } ∧ R (.ok (.ret (Value.ref s.heap.objs.size))) { s with heap := s.heap.push { cls := Value.type (if rsmall a b c then "range_iterator" else "longrange_iterator"), data := .fields #[rawInt (a + (Builtin.Range.rangeSize a b c - 1) * c), rawInt (Builtin.Range.rangeSize a b c), rawInt (-c)] } }) := by
  unfold rsmall at *
  exact .of_wp fun prog w A R s h => by obtain ⟨hp, g, d, tk, os⟩ := s; obtain ⟨hl, h⟩ := h; wp_walk; exact ⟨_, rfl, h⟩
section
variable {prog : Program} {w : World} {A : Around} {E : Value → Shared → Prop} {s : Shared}
theorem sub_ri_reversed : isSubtype (.type "range_iterator") (.type "reversed") = pure false := by rw [isSubtype_type]; kernel_rfl
theorem call_range_reversed {r : Addr} {N : Nat} {t u v : Tok} {Q : Value → Shared → Prop} (hr : IsRange s.heap r 0 N 1 t u v) (hN : N < 2 ^ 31)
    (h : Q (.ref s.heap.objs.size) { s with heap := s.heap.push { cls := .type "range_iterator", data := .fields #[rawInt ((N : Int) - 1), rawInt N, rawInt (-1)] } }) : wpAny (model prog w) A (call (.builtin "range.__reversed__") [.ref r]) Q E s := by
  have hT : s.TypeIs (.ref r) "range" := ⟨_, hr, rfl⟩
  refine call_meets F.slot_range_reversed hT F.entry_range_reversed (F.args_range_reversed_1 _) (range_reversed_meets r 0 N 1 t u v (by rw [rsmall_of hN]; decide)) ⟨hr, ?_⟩
  rw [rsmall_of hN, range_size]
  simpa using h
theorem run_range_reversed {r : Addr} {N : Nat} {t u v : Tok} {Q : Value → Shared → Prop} (hr : IsRange s.heap r 0 N 1 t u v) (hN : N < 2 ^ 31)
    (h : Q (.ref s.heap.objs.size) { s with heap := s.heap.push { cls := .type "range_iterator", data := .fields #[rawInt ((N : Int) - 1), rawInt N, rawInt (-1)] } }) : wpAny (model prog w) A (runValue (.call (.builtin "range.__reversed__") ⟨[.ref r], []⟩)) Q E s := call_range_reversed hr hN h
theorem code_reversed_new_range {r : Addr} {N : Nat} {t u v : Tok} {Q₁ : Value → Shared → Prop} (hr : IsRange s.heap r 0 N 1 t u v) (hN : N < 2 ^ 31)
    (h : Q₁ (.ref s.heap.objs.size) { s with heap := s.heap.push { cls := .type "range_iterator", data := .fields #[rawInt ((N : Int) - 1), rawInt N, rawInt (-1)] } }) :
    codeAny (model prog w) A (.call (.builtin "reversed.__new__") ⟨[.type "reversed", .ref r], []⟩) (wants Q₁ E) s := by
  have hT : s.TypeIs (.ref r) "range" := ⟨_, hr, rfl⟩
  have e1 := newClass_reversed (.ref r)
  have e2 := F.slot_range_reversed.bind (.ref r)
  refine codeAny_of_tree (wpAny_bind (wpAny_of_eq (F.newCall_reversed_1 _) (wpAny_pure ⟨plainId_quiet F.plain_reversed_new _, codeAny_builtin F.entry_reversed_new ?_⟩)))
  rw [Around.under_plainId F.plain_reversed_new _]
  wp_walk using wpAny_specialOf hT F.slot_range_reversed.lookup, run_range_reversed hr hN
  exact h
theorem call_reversed_range {r : Addr} {N : Nat} {t u v : Tok} {Q : Value → Shared → Prop} (hr : IsRange s.heap r 0 N 1 t u v) (hN : N < 2 ^ 31)
    (h : Q (.ref s.heap.objs.size) { s with heap := s.heap.push { cls := .type "range_iterator", data := .fields #[rawInt ((N : Int) - 1), rawInt N, rawInt (-1)] } }) : wpAny (model prog w) A (call (.type "reversed") [.ref r]) Q E s := by
  refine callType_other (U := "range_iterator") (Q₁ := fun obj s₁ => obj = .ref s.heap.objs.size ∧ s₁ = { s with heap := s.heap.push { cls := .type "range_iterator", data := .fields #[rawInt ((N : Int) - 1), rawInt N, rawInt (-1)] } }) (by decide +kernel) F.create_reversed ⟨_, _, F.mro_reversed⟩ F.made_reversed sub_ri_reversed (F.typeCall_reversed_1 _) (code_reversed_new_range hr hN ⟨rfl, rfl⟩) ?_
  rintro obj s₁ ⟨rfl, rfl⟩
  exact ⟨⟨_, Heap.get?_push_size _ rfl, rfl⟩, h⟩
end
noncomputable def VI (N i : Nat) : As := fun o => o = { cls := .type "range_iterator", data := .fields #[rawInt ((N : Int) - 1 - i), rawInt ((N : Int) - i), rawInt (-1)] }
section
variable {w : World} {n : Nat} {g h : Heap} {L r : Addr} {N : Nat} {bs : List (Str × Value)} {ns : List (Addr × As)} {P : Value → Heap → Prop}
theorem ev_reversed (O : Own g L h bs ns) (hr : ∃ o, h.get? r = some o ∧ RA N o) (hN : N < 2 ^ 31) (p : ∀ I h', Own g L h' bs ((I, VI N 0) :: ns) → P (.ref I) h') : Ev w n (call (.type "reversed") [.ref r]) h P := fun s tk => by
  obtain ⟨o, ho, t, u, v, rfl⟩ := hr
  refine call_reversed_range (s := { s with heap := h, toks := tk }) ho hN ⟨_, tk, rfl, p _ _ (O.push rfl ?_)⟩
  show _ = _
  simp
theorem ev_iter_rev {I : Addr} {i : Nat} (hi : ∃ o, h.get? I = some o ∧ VI N i o) (p : P (.ref I) h) : Ev w n (pyIter (.ref I)) h P := fun s tk => by
  obtain ⟨o, ho, rfl⟩ := hi
  exact wpAny_pyIter_rangeiter (s := { s with heap := h, toks := tk }) ho ⟨h, tk, rfl, p⟩
theorem it_rev {I : Addr} : ItOk w n I N (fun i v => ∃ t, v = .int (((N - 1 - i : Nat)) : Int) t) (VI N) (fun _ => True) where
  next := fun i h P hi ⟨o, ho, e⟩ _ k s tk => by
    subst e
    refine wpAny_pyNext_range_item (s := { s with heap := h, toks := tk }) ho (by omega) fun h' hit hs => ⟨h', tk + 1, rfl, k _ h' ⟨tk, ?_⟩ ⟨_, hit, ?_⟩ (.of_same hs)⟩
    · show Value.int _ _ = Value.int _ _
      rw [show (N : Int) - 1 - i = ((N - 1 - i : Nat) : Int) by omega]
    · show _ = _
      rw [show (N : Int) - 1 - ((i + 1 : Nat) : Int) = (N : Int) - 1 - i + -1 by omega, show (N : Int) - ((i + 1 : Nat) : Int) = (N : Int) - i - 1 by omega]
  done := fun h P ⟨o, ho, e⟩ _ k s tk => by
    subst e
    exact wpAny_pyNext_range_end (s := { s with heap := h, toks := tk }) rfl ho (by omega) fun h' hs => ⟨h', tk, rfl, k h' hs⟩
end
end Mine
end
section
open PySem PySem.W PyProof.Rows PySem.Calls
set_option maxRecDepth 100000
set_option maxHeartbeats 4000000
namespace Mine
section
variable {w : World} {n : Nat} {g h : Heap} {L l : Addr} {env : Env} {vs : List Value} {bs : List (Str × Value)} {ns ns' : List (Addr × As)}
theorem Own.list_upd (O : Own g L h bs ns) {its : List Value} {k : Nat} {o : Obj} (hl : h.get? l = some o) (ho : o = { cls := .type "list", data := .seq its.toArray k }) (f : Array Value → Array Value) (he : f its.toArray = vs.toArray) (U : UpdA l (LA vs) ns ns') : Own g L (h.update l (Obj.mapSeq f)) bs ns' := by
  subst ho
  have q := PySem.IsL.update hl f
  exact O.upd U (.of_same (Heap.SameBut.update ..)) ⟨_, q, _, by rw [he]⟩
theorem ev_pop {y : Value} {P : Value → Heap → Prop} (O : Own g L h bs ns) (hm : (l, LA (vs ++ [y])) ∈ ns) (U : UpdA l (LA vs) ns ns') (hz : vs.length ≤ 1000) (k : ∀ h', Own g L h' bs ns' → P y h') : Ev w n (call (.builtin "list.pop") [.ref l]) h P := fun s tk => by
  obtain ⟨o, ho, m, rfl⟩ := O.at hm
  have hk : (vs ++ [y]).toArray.size - 1 = vs.length := by rw [List.size_toArray, List.length_append]; rfl
  have hy : (vs ++ [y]).toArray[(vs ++ [y]).toArray.size - 1]? = some y := by rw [hk]; simp
  have hz' : (vs ++ [y]).toArray.size ≤ sizeLine := by rw [List.size_toArray, List.length_append, List.length_singleton]; exact Nat.le_trans (Nat.succ_le_succ hz) (by decide)
  refine call_meets (s := { s with heap := h, toks := tk }) PySem.F.slot_list_pop ⟨_, ho, rfl⟩ PySem.F.entry_list_pop (PySem.F.args_list_pop_1 _) (PySem.MeetsSeq.list_pop_last l _ m y hy hz') ⟨ho, ?_⟩
  exact ⟨_, tk, rfl, k _ (O.list_upd ho rfl _ (by rw [hk, kl_erase, List.append_nil]) U)⟩
theorem ev_pop0 {y : Value} {t : Tok} {P : Value → Heap → Prop} (O : Own g L h bs ns) (hm : (l, LA (y :: vs)) ∈ ns) (U : UpdA l (LA vs) ns ns') (hz : vs.length ≤ 1000) (k : ∀ h', Own g L h' bs ns' → P y h') : Ev w n (call (.builtin "list.pop") [.ref l, .int 0 t]) h P := fun s tk => by
  obtain ⟨o, ho, m, rfl⟩ := O.at hm
  have hz' : (y :: vs).toArray.size ≤ sizeLine := by rw [List.size_toArray, List.length_cons]; exact Nat.le_trans (Nat.succ_le_succ hz) (by decide)
  have hs : seqIndex? 0 (y :: vs).toArray.size = some 0 := by
    rw [List.size_toArray]; exact seqIndex_of (by decide) (by rw [List.length_cons]; omega)
  refine call_meets (s := { s with heap := h, toks := tk }) PySem.F.slot_list_pop ⟨_, ho, rfl⟩ PySem.F.entry_list_pop (PySem.F.args_list_pop_2 _ _) (PySem.MeetsSeq.list_pop_at l _ m 0 t 0 y rfl hs (by simp) hz') ⟨ho, ?_⟩
  exact ⟨_, tk, rfl, k _ (O.list_upd ho rfl _ (kl_erase [] vs y) U)⟩
theorem ev_truthy_list {P : Bool → Heap → Prop} (hl : ∃ o, h.get? l = some o ∧ LA vs o) (hz : vs.length ≤ 1000) (p : P (!vs.isEmpty) h) : Ev w n (truthy (.ref l)) h P := fun s tk => by
  refine wpAny_truthy_list (s := { s with heap := h, toks := tk }) (isList hl) (by rw [List.size_toArray]; omega) ⟨h, _, rfl, ?_⟩
  cases vs with
  | nil => exact p
  | cons a r => exact p
end
end Mine
end
section
open PySem PySem.W PyProof.Rows
namespace Mine
theorem siftdown_length (xs : List P2) (s p : Nat) : (siftdown xs s p).length = xs.length := sdLoop_length _ _ _ _
theorem suLoop_length (N p : Nat) (xs : List P2) : (suLoop N p xs).2.length = xs.length := suF_length _ _ _ _
theorem siftup_length (xs : List P2) (p : Nat) : (siftup xs p).length = xs.length := by
  unfold siftup
  dsimp only
  rw [siftdown_length, List.length_set, suLoop_length]
/-- heapify: the first k turns -/
noncomputable def hpLoop (xs : List P2) (N : Nat) : Nat → List P2
  | 0 => xs
  | k + 1 => siftup (hpLoop xs N k) (N - 1 - k)
noncomputable def heapifyP (xs : List P2) : List P2 := hpLoop xs (xs.length / 2) (xs.length / 2)
theorem hpLoop_length (xs : List P2) (N k : Nat) : (hpLoop xs N k).length = xs.length := by
  induction k with
  | zero => rfl
  | succ k ih => show (siftup _ _).length = _; rw [siftup_length, ih]
noncomputable def heappopP (xs : List P2) : P2 × List P2 := match xs.dropLast with
  | [] => (xs.getLastD default, [])
  | y :: r => (y, siftup ((y :: r).set 0 (xs.getLastD default)) 0)
noncomputable def heapreplaceP (xs : List P2) (x : P2) : P2 × List P2 := (xs.headD default, siftup (xs.set 0 x) 0)
end Mine
end
section
open PySem PySem.W PyProof.Rows PySem.Calls
set_option maxRecDepth 100000
set_option maxHeartbeats 4000000
namespace Mine
theorem liftK {M : Model} {A : Around} {n : Nat} {c : Code} {R : Result → Shared → Prop} {s : Shared} (h : codeAny M (AA n) c R s) (hh : A.handled = none) (hd : A.depth ≤ n) (hu : A.units ≤ 10 * n) : codeAny M A c R s :=
  fun Γ p hc hΓ => h Γ p hc ⟨hΓ.1.trans hh, Nat.le_trans hΓ.2.1 hd, fun _ hl => (nomatch hl), fun _ hl => (nomatch hl), Nat.le_trans hΓ.2.2.2.2 hu⟩
/-- a piece of code that ends and raises nothing -/
noncomputable def EvK (w : World) (n : Nat) (c : Code) (h : Heap) (P : Value → Heap → Prop) : Prop :=
  ∀ (s : Shared) (tk : Nat), codeAny (Mw w) (AA n) c (fun r s' => match r with
    | .ok (.ret v) => ∃ h' tk', s' = { s with heap := h', toks := tk' } ∧ P v h'
    | _ => False) { s with heap := h, toks := tk }
section
variable {w : World} {n : Nat} {c : Code} {h : Heap} {P P' : Value → Heap → Prop}
theorem EvK.call {f : Value} {args : List Value} (e : EvK w n (.call f ⟨args, []⟩) h P) : Ev w n (call f args) h P := fun s tk =>
  wpAny_call (codeAny_mono (e s tk) fun r s' z => by rcases r with e | (v | _ | _ | _) <;> first | exact z | exact z.elim)
theorem EvK.use {A : Around} {R : Result → Shared → Prop} {s : Shared} (e : EvK w n c s.heap P) (hh : A.handled = none) (hd : A.depth ≤ n) (hu : A.units ≤ 10 * n) (k : ∀ v h' tk', P v h' → R (.ok (.ret v)) { s with heap := h', toks := tk' }) : codeAny (Mw w) A c R s :=
  codeAny_mono (liftK (e s s.toks) hh hd hu) fun r s' z => match r, z with
    | .ok (.ret v), ⟨h', tk', e', p⟩ => e' ▸ k v h' tk' p
theorem EvK.mono (e : EvK w n c h P) (k : ∀ v h', P v h' → P' v h') : EvK w n c h P' := fun s tk =>
  codeAny_mono (e s tk) fun r s' z => match r, z with
    | .ok (.ret v), ⟨h', tk', e', p⟩ => ⟨h', tk', e', k v h' p⟩
theorem EvK.lift {m : Nat} (e : EvK w m c h P) (hm : n ≤ m) : EvK w n c h P := fun s tk => liftK (e s tk) rfl hm (Nat.mul_le_mul_left 10 hm)
end
/-- what a call's own ground is -/
structure Hid (g₀ h g : Heap) (ns : List (Addr × As)) : Prop where
  up : g₀.StaysIn g
  of : ∀ b o, h.get? b = some o → b ∉ ns.map (·.1) → g.get? b = some o
  to : ∀ b o, g.get? b = some o → h.get? b = some o
theorem hid_hide {g₀ h : Heap} {ns : List (Addr × As)} (hst : g₀.StaysIn h) (hn : ∀ p ∈ ns, (∃ o, h.get? p.1 = some o ∧ p.2 o) ∧ g₀.get? p.1 = none) : Hid g₀ h (hideAll h (ns.map (·.1))) ns :=
  ⟨fun b o e => hideAll_get _ (hst b o e) (fun q => by
    obtain ⟨p, hp, z⟩ := List.mem_map.mp q
    have := (hn p hp).2
    rw [z, e] at this
    cases this), fun b o e q => hideAll_get _ e q, fun b o e => of_hideAll _ e⟩
section
variable {w : World} {n : Nat} {g₀ h : Heap}
theorem ek_def {f : Addr} {fo : Obj} {fd : FuncData} {body : List Stmt} {args : List Value} {binds : List (Str × Value)} {P : Value → Heap → Prop} {names : List Str} (ns : List (Addr × As))
    (G : Gd w g₀) (hst : g₀.StaysIn h) (hn : ∀ p ∈ ns, (∃ o, h.get? p.1 = some o ∧ p.2 o) ∧ g₀.get? p.1 = none) (nd : (ns.map (·.1)).Nodup)
    (ho : h.get? f = some fo) (hfd : fo.data = .func fd) (hcd : h.CodeRec fd.code fd.qualname) (hb : fd.body = .stmts body)
    (hbind : bindArgs fd ⟨args, []⟩ = pure binds) (hloc : ∀ x ∈ binds, fd.scope.names.lookup x.1 = some .local) (hnm : binds.map (·.1) = names) (hnd' : names.Nodup) (hcell : ∀ x ∈ fd.scope.names, x.2 ≠ .cell)
    (e : ∀ g L h₁, Gd w g → Hid g₀ h g ns → Own g L h₁ binds ns →
      Ev w (n + 1) (execs body (callEnv fd L f)) h₁ (fun fl h' => P (match fl with | .ret v => v | _ => .none) h'))
    (hroom : n < 900 := by decide) (hco : fd.scope.isCoroutine = false := by rfl) (hgen : fd.scope.isGenerator = false := by rfl) (hk : fd.scope.kind = .function := by rfl) :
    EvK w n (.call (.ref f) ⟨args, []⟩) h P := by
  intro s tk
  have hnd : (binds.map (·.1)).Nodup := hnm ▸ hnd'
  have H := hid_hide hst hn
  refine codeAny_call_def (fd := fd) (body := body) (binds := binds) (show n < recursionLimit from Nat.lt_trans hroom (by decide)) ho hfd (G.nolimit.keeps hst) hcd hb (BindsTo.of_eq hbind) hcell hloc (fun h₁ hns hk₁ => ?_) hco hgen hk
  have key : ∀ x v, (x, v) ∈ binds → binds.reverse.lookup x = some v := fun x v hx =>
    lookup_of_mem_nodupV (((List.reverse_perm binds).map _).nodup_iff.mpr hnd) (List.mem_reverse.mpr hx)
  have O : Own (hideAll h (ns.map (·.1))) h.objs.size h₁ binds ns := by
    refine ⟨fun b o e => hk₁ b o (of_hideAll _ e), ⟨_, hns, key⟩, ?_, fun p hp => ?_, nd⟩
    · cases q : (hideAll h (ns.map (·.1))).get? h.objs.size with
      | none => rfl
      | some o => exact absurd (Heap.lt_size (of_hideAll _ q)) (Nat.lt_irrefl _)
    · obtain ⟨⟨o, a, b⟩, _⟩ := hn p hp
      exact ⟨⟨o, hk₁ _ _ a, b⟩, Nat.ne_of_lt (Heap.lt_size a), hideAll_none _ (List.mem_map_of_mem hp)⟩
  have E := e _ _ h₁ (G.keeps H.up) H O
  exact E.useA (s := { s with heap := h₁, toks := tk + binds.length }) rfl (Nat.le_refl _) (show 10 * n + 3 ≤ 10 * (n + 1) by omega) fun fl h' tk' p => ⟨h', tk', rfl, p⟩
where
  lookup_of_mem_nodupV {l : List (Str × Value)} {x : Str} {v : Value} (nd : (l.map (·.1)).Nodup) (hx : (x, v) ∈ l) : l.lookup x = some v := by
    induction l with
    | nil => cases hx
    | cons p r ih =>
      rw [List.map_cons, List.nodup_cons] at nd
      rw [List.lookup_cons]
      rcases List.mem_cons.mp hx with e | hr
      · cases e; simp
      · have : (x == p.1) = false := by
          cases q : x == p.1 with
          | false => rfl
          | true => exact absurd (List.mem_map.mpr ⟨(x, v), hr, (beq_iff_eq.mp q).symm ▸ rfl⟩) nd.1
        rw [this]; exact ih nd.2 hr
/-- the cells of a frame at L -/
noncomputable def cellsA (names : List (Str × NameKind)) (cm : Str → Option Value) (L : Addr) : List (Addr × As) := (cellsFrom (L + 1) names []).map fun x => (x.2, CA (cm x.1))
theorem ek_cells {f : Addr} {fo : Obj} {fd : FuncData} {body : List Stmt} {args : List Value} {binds bs : List (Str × Value)} {P : Value → Heap → Prop} (ns : List (Addr × As)) (cs : Addr → List (Addr × As))
    (G : Gd w g₀) (hst : g₀.StaysIn h) (hn : ∀ p ∈ ns, (∃ o, h.get? p.1 = some o ∧ p.2 o) ∧ g₀.get? p.1 = none) (nd : (ns.map (·.1)).Nodup)
    (ho : h.get? f = some fo) (hfd : fo.data = .func fd) (hcd : h.CodeRec fd.code fd.qualname) (hb : fd.body = .stmts body)
    (hbind : bindArgs fd ⟨args, []⟩ = pure binds) (hclo : fd.closure = [])
    (hkind : (binds.all fun y => fd.scope.names.lookup y.1 == some .local || fd.scope.names.lookup y.1 == some .cell) = true)
    (hnd' : ((cellsFrom 0 fd.scope.names []).map (·.1)).Nodup)
    (hbs : ∀ L, ∀ x ∈ bs, bindL (callEnvC fd L f).kindOf binds (fun _ => none) x.1 = some x.2)
    (hcs : ∀ L, cellsA fd.scope.names (bindC (callEnvC fd L f).kindOf binds fun _ => none) L = cs L)
    (e : ∀ g L h₁, Gd w g → Hid g₀ h g ns → Own g L h₁ bs (cs L ++ ns) →
      Ev w (n + 1) (execs body (callEnvC fd L f)) h₁ (fun fl h' => P (match fl with | .ret v => v | _ => .none) h'))
    (hroom : n < 900 := by decide) (hco : fd.scope.isCoroutine = false := by rfl) (hgen : fd.scope.isGenerator = false := by rfl) (hk : fd.scope.kind = .function := by rfl) :
    EvK w n (.call (.ref f) ⟨args, []⟩) h P := by
  intro s tk
  have H := hid_hide hst hn
  refine codeAny_call_cells (fd := fd) (body := body) (binds := binds) (show n < recursionLimit from Nat.lt_trans hroom (by decide)) ho hfd (G.nolimit.keeps hst) hcd hb hbind hclo (kindsX hkind _) (fun s₁ X => ?_) hco hgen hk
  obtain ⟨h₁, tk₁, rfl, _⟩ := X.done
  have hk₁ := X.toInCall.keep
  have hnsL := X.toInCall.ns
  dsimp only at hk₁ hnsL
  have ge : ∀ a, h.objs.size ≤ a → (hideAll h (ns.map (·.1))).get? a = none := fun a ha => by
    cases q : (hideAll h (ns.map (·.1))).get? a with
    | none => rfl
    | some o => exact absurd (Heap.lt_size (of_hideAll _ q)) (Nat.not_lt.mpr ha)
  have hlook : ∀ nm c, (nm, c) ∈ cellsFrom (h.objs.size + 1) fd.scope.names [] → (cellsFrom (h.objs.size + 1) fd.scope.names []).lookup nm = some c := fun nm c hm =>
    lookup_of_mem_nodup (cellsFrom_names fd.scope.names 0 (h.objs.size + 1) [] [] rfl ▸ hnd') hm
  have O : Own (hideAll h (ns.map (·.1))) h.objs.size h₁ bs (cs h.objs.size ++ ns) := by
    refine ⟨fun b o e => hk₁ b o (of_hideAll _ e), ⟨_, hnsL, fun x v hx => hbs _ _ hx⟩, ge _ (Nat.le_refl _), fun p hp => ?_, ?_⟩
    · rcases List.mem_append.mp hp with hp | hp
      · rw [← hcs] at hp
        obtain ⟨⟨nm, c⟩, hm, rfl⟩ := List.mem_map.mp hp
        have hlt : h.objs.size < c := X.above nm c hm
        obtain ⟨o, ho, hd⟩ := X.cell nm c (hlook nm c hm)
        exact ⟨⟨o, ho, hd⟩, Nat.ne_of_gt hlt, ge _ (Nat.le_of_lt hlt)⟩
      · obtain ⟨⟨o, a, b⟩, _⟩ := hn p hp
        exact ⟨⟨o, hk₁ _ _ a, b⟩, Nat.ne_of_lt (Heap.lt_size a), hideAll_none _ (List.mem_map_of_mem hp)⟩
    · rw [List.map_append, List.nodup_append]
      refine ⟨?_, nd, fun a ha b hb' q => ?_⟩
      · rw [← hcs]
        unfold cellsA
        rw [List.map_map]
        have := X.apart
        rw [List.Nodup, List.pairwise_map]
        exact this
      · subst q
        rw [← hcs] at ha
        obtain ⟨p, hp, rfl⟩ := List.mem_map.mp ha
        obtain ⟨⟨nm, c⟩, hm, rfl⟩ := List.mem_map.mp hp
        have hlt : h.objs.size < c := X.above nm c hm
        obtain ⟨p', hp', e'⟩ := List.mem_map.mp hb'
        obtain ⟨⟨o, a, _⟩, _⟩ := hn p' hp'
        have := Heap.lt_size a
        rw [e'] at this
        exact absurd (Nat.lt_trans hlt this) (Nat.lt_irrefl _)
  have E := e _ _ h₁ (G.keeps H.up) H O
  exact E.useA (s := { s with heap := h₁, toks := tk₁ }) rfl (Nat.le_refl _) (show 10 * n + 3 ≤ 10 * (n + 1) by omega) fun fl h' tk' p => ⟨h', tk', rfl, p⟩
end
section
variable {w : World} {n : Nat} {g h : Heap} {L : Addr} {env : Env} {bs bs' : List (Str × Value)} {ns ns' : List (Addr × As)} {x : Str} {v : Value}
/-- a free name, its cell in the ground, or an own one -/
theorem ev_free {pos : Pos} {c : Addr} {P : Value → Heap → Prop} (hc : env.cells.lookup x = some c) (hb : ∃ o, h.get? c = some o ∧ CA (some v) o) (p : P v h) (hk : env.scope.kind = .function := by rfl) (hl : env.kindOf x = some .free := by rfl)
    (hd : (x == ("__debug__" : Str)) = false := by decide +kernel) (hn : (x == ("__classdict__" : Str)) = false := by decide +kernel) : Ev w n (eval (.Name x pos) env) h P :=
  ev_name (fun _ tk => wpAny_loadName_free hk hl hc (isCell hb) ⟨h, tk, rfl, p⟩ hn) hd
end
end Mine
end
section
open PySem PySem.W PyProof.Rows PySem.Calls
set_option maxRecDepth 100000
set_option maxHeartbeats 4000000
namespace Mine
theorem Ints.are {vs : List Value} {ys : List Int} (x : Ints vs ys) : IntsAre vs ys := by
  induction x with
  | nil => exact .nil
  | cons _ ih => exact .cons _ _ ih
section
variable {w : World} {n : Nat} {g h : Heap} {L : Addr} {env : Env} {bs : List (Str × Value)} {ns : List (Addr × As)} {P : Value → Heap → Prop}
theorem ev_add_lists {l b : Addr} {vs ws : List Value} (O : Own g L h bs ns) (hl : ∃ o, h.get? l = some o ∧ LA vs o) (hb : ∃ o, h.get? b = some o ∧ LA ws o) (hz : vs.length + ws.length ≤ 1000) (k : ∀ c h', Own g L h' bs ((c, LA (vs ++ ws)) :: ns) → h.StaysIn h' → P (.ref c) h') :
    Ev w n (binaryOp .Add (.ref l) (.ref b)) h P := fun s tk => by
  obtain ⟨o, ho, m, rfl⟩ := hl
  obtain ⟨o', hb, m', rfl⟩ := hb
  have e : vs.toArray ++ ws.toArray = (vs ++ ws).toArray := by simp
  refine concat_meets (s := { s with heap := h, toks := tk }) ⟨_, ho, rfl⟩ ⟨_, hb, rfl⟩ noFill_list_add seq_list_add PySem.F.slot_list_add PySem.F.entry_list_add (PySem.F.args_list_add_2 _ _) (list_addW l b vs.toArray ws.toArray m m' none none #[] #[] (by simp only [List.size_toArray]; exact Nat.le_trans hz (by decide))) ⟨ho, hb, ?_⟩
  rw [e]
  exact ⟨_, tk, rfl, k _ _ (O.push rfl ⟨0, rfl⟩) fun b o e => Heap.get?_push_of_some _ e⟩
theorem Ints.zip {vs : List Value} {xs : List Int} (x : Ints vs xs) : ∃ zs : List (Int × Tok), vs = zs.map (fun p => .int p.1 p.2) ∧ xs = zs.map (·.1) := by
  induction x with
  | nil => exact ⟨[], rfl, rfl⟩
  | cons _ ih =>
    obtain ⟨zs, rfl, rfl⟩ := ih
    exact ⟨(_, _) :: zs, rfl, rfl⟩
/-- the place that max finds bears the greatest -/
theorem best_top {zs : List (Int × Tok)} (hz : 0 < zs.length) :
    numAt zs.toArray (argBest (fun i j => decide (numAt zs.toArray i > numAt zs.toArray j)) (zs.toArray.size - 1)) ∈ zs.map (·.1) ∧
    ∀ a ∈ zs.map (·.1), a ≤ numAt zs.toArray (argBest (fun i j => decide (numAt zs.toArray i > numAt zs.toArray j)) (zs.toArray.size - 1)) := by
  have at_ : ∀ j (h : j < zs.length), numAt zs.toArray j = (zs[j]).1 := fun j h => by simp [numAt, h]
  obtain ⟨le, top⟩ := argBest_gt (numAt zs.toArray) (zs.toArray.size - 1)
  rw [List.size_toArray] at le top ⊢
  constructor
  · rw [at_ _ (by omega)]
    exact List.mem_map_of_mem (List.getElem_mem _)
  · rintro _ ha
    obtain ⟨p, hp, rfl⟩ := List.mem_map.mp ha
    obtain ⟨j, hj, rfl⟩ := List.getElem_of_mem hp
    rw [← at_ j hj]
    exact top j (by omega)
theorem ev_max {l : Addr} {vs : List Value} {xs : List Int} (hl : ∃ o, h.get? l = some o ∧ LA vs o) (hi : Ints vs xs) (hne : 0 < xs.length) (k : ∀ h' M t, h.StaysIn h' → M ∈ xs → (∀ a ∈ xs, a ≤ M) → P (.int M t) h') : Ev w n (call (.builtin "max") [.ref l]) h P := fun s tk => by
  obtain ⟨zs, rfl, rfl⟩ := hi.zip
  rw [List.length_map] at hne
  have hl' := isList hl
  rw [← List.map_toArray] at hl'
  refine max_intList (xs := zs.toArray) (s := { s with heap := h, toks := tk }) rfl hl' hne fun v h' tk' hv st => ?_
  obtain ⟨t, rfl⟩ := intItems_at hv
  exact ⟨h', _, rfl, k h' _ t st (best_top hne).1 (best_top hne).2⟩
end
end Mine
end
section
open PySem PySem.W PyProof.Rows PySem.Calls
set_option maxRecDepth 100000
set_option maxHeartbeats 4000000
namespace Mine
section
variable {w : World} {n : Nat} {g₀ h : Heap}
theorem ev_cells {f : Addr} {fo : Obj} {fd : FuncData} {body : List Stmt} {args : List Value} {binds bs : List (Str × Value)} {P : Value → Heap → Prop} (ns : List (Addr × As)) (cs : Addr → List (Addr × As))
    (G : Gd w g₀) (hst : g₀.StaysIn h) (hn : ∀ p ∈ ns, (∃ o, h.get? p.1 = some o ∧ p.2 o) ∧ g₀.get? p.1 = none) (nd : (ns.map (·.1)).Nodup)
    (ho : (hd.heap_1 w.params).lookup f = some fo) (hfd : fo.data = .func fd) (hcd : codeIn (hd.heap_1 w.params) fd.code fd.qualname = true) (hb : fd.body = .stmts body)
    (hbind : bindArgs fd ⟨args, []⟩ = pure binds) (hclo : fd.closure = [])
    (hkind : (binds.all fun y => fd.scope.names.lookup y.1 == some .local || fd.scope.names.lookup y.1 == some .cell) = true)
    (hnd' : ((cellsFrom 0 fd.scope.names []).map (·.1)).Nodup)
    (hbs : ∀ L, ∀ x ∈ bs, bindL (callEnvC fd L f).kindOf binds (fun _ => none) x.1 = some x.2)
    (hcs : ∀ L, cellsA fd.scope.names (bindC (callEnvC fd L f).kindOf binds fun _ => none) L = cs L)
    (e : ∀ g L h₁, Gd w g → Hid g₀ h g ns → Own g L h₁ bs (cs L ++ ns) →
      Ev w (n + 1) (execs body (callEnvC fd L f)) h₁ (fun fl h' => P (match fl with | .ret v => v | _ => .none) h'))
    (hroom : n < 900) (hco : fd.scope.isCoroutine = false) (hgen : fd.scope.isGenerator = false) (hk : fd.scope.kind = .function) : Ev w n (call (.ref f) args) h P :=
  (ek_cells ns cs G hst hn nd (hst _ _ (G.K _ _ ho)) hfd (codeRec_of (G.K.keeps hst) hcd) hb hbind hclo hkind hnd' hbs hcs e hroom hco hgen hk).call
theorem Own.up {g h : Heap} {L c : Addr} {bs : List (Str × Value)} {ns : List (Addr × As)} {φ : As} (O : Own g L h bs ns) (e : ∃ o, g.get? c = some o ∧ φ o) : ∃ o, h.get? c = some o ∧ φ o := let ⟨o, a, b⟩ := e; ⟨o, O.keep _ _ a, b⟩
theorem Own.up_but {g h h' : Heap} {L I a : Addr} {bs : List (Str × Value)} {ns : List (Addr × As)} {φ ψ : As} (O : Own g L h bs ((I, φ) :: ns)) (e : ∃ o, g.get? a = some o ∧ ψ o) (k : ∀ b o, b ≠ I → h.get? b = some o → h'.get? b = some o) : ∃ o, h'.get? a = some o ∧ ψ o :=
  let ⟨o, x, y⟩ := e; ⟨o, k _ _ (fun z => by rw [z, O.fresh (.head _)] at x; cases x) (O.keep _ _ x), y⟩
theorem up_of {h h' : Heap} {c : Addr} {φ : As} (e : ∃ o, h.get? c = some o ∧ φ o) (k : ∀ o, h.get? c = some o → h'.get? c = some o) : ∃ o, h'.get? c = some o ∧ φ o := let ⟨o, a, b⟩ := e; ⟨o, k _ a, b⟩
end
section
variable {w : World} {n : Nat} {h : Heap} {env : Env} {x : Str} {v : Value}
theorem ev_cellg {pos : Pos} {c : Addr} {P : Value → Heap → Prop} (hc : env.cells.lookup x = some c) (hb : ∃ o, h.get? c = some o ∧ CA (some v) o) (p : P v h) (hk : env.scope.kind = .function := by rfl) (hl : env.kindOf x = some .cell := by rfl)
    (hd : (x == ("__debug__" : Str)) = false := by decide +kernel) : Ev w n (eval (.Name x pos) env) h P :=
  ev_name (fun _ tk => wpAny_loadName_cell hk hl hc (isCell hb) ⟨h, tk, rfl, p⟩) hd
end
/-- the law's levels, plain -/
noncomputable def candL (nums ls : List Int) (k i : Nat) : List Int := ((List.range i).filter fun j => decide (nums.getD k 0 < nums.getD j 0)).map fun j => ls.getD j 0 + 1
theorem candL_take {nums ls : List Int} {k i : Nat} (c : decide (nums.getD k 0 < nums.getD i 0) = true) : candL nums ls k (i + 1) = candL nums ls k i ++ [ls.getD i 0 + 1] := by
  unfold candL; rw [List.range_succ, List.filter_append, List.map_append, List.filter_cons, if_pos c]; rfl
theorem candL_skip {nums ls : List Int} {k i : Nat} (c : decide (nums.getD k 0 < nums.getD i 0) = false) : candL nums ls k (i + 1) = candL nums ls k i := by
  unfold candL; rw [List.range_succ, List.filter_append, List.map_append, List.filter_cons, if_neg (by rw [c]; decide)]; simp
theorem candL_length (nums ls : List Int) (k i : Nat) : (candL nums ls k i).length ≤ i := by
  unfold candL; rw [List.length_map]; exact Nat.le_trans (List.length_filter_le _ _) (by simp)
noncomputable def levNext (nums ls : List Int) (k : Nat) : Int := (candL nums ls k k).foldl max 0
noncomputable def levelsUp (nums : List Int) : Nat → List Int
  | 0 => []
  | k + 1 => levelsUp nums k ++ [levNext nums (levelsUp nums k) k]
noncomputable def levelsOf (nums : List Int) : List Int := levelsUp nums nums.length
theorem levelsUp_length (nums : List Int) (k : Nat) : (levelsUp nums k).length = k := by
  induction k with
  | zero => rfl
  | succ k ih => show (levelsUp nums k ++ [_]).length = _; rw [List.length_append, ih]; rfl
theorem foldl_max_spec (l : List Int) : ∀ a : Int, (l.foldl max a = a ∨ l.foldl max a ∈ l) ∧ a ≤ l.foldl max a ∧ ∀ x ∈ l, x ≤ l.foldl max a := by
  induction l with
  | nil => intro a; exact ⟨.inl rfl, Int.le_refl _, fun _ h => nomatch h⟩
  | cons y r ih =>
    intro a
    obtain ⟨h1, h2, h3⟩ := ih (max a y)
    show (r.foldl max (max a y) = a ∨ r.foldl max (max a y) ∈ y :: r) ∧ a ≤ r.foldl max (max a y) ∧ ∀ x ∈ y :: r, x ≤ r.foldl max (max a y)
    refine ⟨?_, by omega, fun x hx => ?_⟩
    · rcases h1 with h1 | h1
      · rw [h1]
        by_cases q : a ≤ y
        · right; rw [Int.max_eq_right q]; exact List.mem_cons_self
        · left; omega
      · exact .inr (.tail _ h1)
    · rcases List.mem_cons.mp hx with rfl | hx
      · omega
      · exact h3 x hx
theorem max_is {l : List Int} {M : Int} (hm : M ∈ l ++ [0]) (hu : ∀ a ∈ l ++ [0], a ≤ M) : M = l.foldl max 0 := by
  obtain ⟨h1, h2, h3⟩ := foldl_max_spec l 0
  have a : l.foldl max 0 ≤ M := by
    rcases h1 with h1 | h1
    · rw [h1]; exact hu 0 (by simp)
    · exact hu _ (by simp [h1])
  have b : M ≤ l.foldl max 0 := by
    rcases List.mem_append.mp hm with hm | hm
    · exact h3 _ hm
    · rw [List.mem_singleton.mp hm]; exact h2
  omega
theorem Ints.append {vs ws : List Value} {xs ys : List Int} (a : Ints vs xs) (b : Ints ws ys) : Ints (vs ++ ws) (xs ++ ys) := by
  induction a with
  | nil => exact b
  | cons _ ih => exact .cons ih
theorem Ints.getD {vs : List Value} {ns : List Int} (x : Ints vs ns) {j : Nat} {v : Value} (h : vs[j]? = some v) : ∃ t, v = .int (ns.getD j 0) t := by
  obtain ⟨i, t, a, rfl⟩ := x.get h
  exact ⟨t, by rw [List.getD_eq_getElem?_getD, a]; rfl⟩
theorem Strs.getD {vs : List Value} {ns : List Str} (x : Strs vs ns) {j : Nat} {v : Value} (h : vs[j]? = some v) : ∃ t, v = .str (ns.getD j default) t := by
  obtain ⟨i, t, a, rfl⟩ := x.get h
  exact ⟨t, by rw [List.getD_eq_getElem?_getD, a]; rfl⟩
end Mine
end
section
open PySem PySem.W PyProof.Rows PySem.Calls
set_option maxRecDepth 100000
set_option maxHeartbeats 4000000
namespace Mine
/-- what a call leaves: of the objects A it was given, B stand; all else stays -/
structure Res (h : Heap) (A : List (Addr × As)) (h' : Heap) (B : List (Addr × As)) : Prop where
  but : ∀ b o, b ∉ A.map (·.1) → h.get? b = some o → h'.get? b = some o
  nw : ∀ p ∈ B, (∃ o, h'.get? p.1 = some o ∧ p.2 o) ∧ (p.1 ∈ A.map (·.1) ∨ h.get? p.1 = none)
  nd : (B.map (·.1)).Nodup
section
variable {g₀ g h h' : Heap} {L L' : Addr} {bs bs' : List (Str × Value)} {A B R : List (Addr × As)}
theorem res_of (H : Hid g₀ h g A) (O : Own g L' h' bs' B) : Res h A h' B := by
  refine ⟨fun b o q e => O.keep b o (H.of b o e q), fun p hp => ⟨(O.nw p hp).1, ?_⟩, O.nd⟩
  by_cases q : p.1 ∈ A.map (·.1)
  · exact .inl q
  · right
    cases e : h.get? p.1 with
    | none => rfl
    | some o => have := H.of _ _ e q; rw [(O.nw p hp).2.2] at this; cases this
theorem Res.sub {C : List (Addr × As)} (r : Res h A h' B) (s : C.Sublist B) : Res h A h' C := ⟨r.but, fun p hp => r.nw p (s.subset hp), (s.map _).nodup r.nd⟩
theorem Own.res (O : Own g L h bs (A ++ R)) (r : Res h A h' B) : Own g L h' bs (B ++ R) := by
  have nd := O.nd
  rw [List.map_append, List.nodup_append] at nd
  have nA : ∀ b o, g.get? b = some o → b ∉ A.map (·.1) := fun b o e q => by
    obtain ⟨p, hp, z⟩ := List.mem_map.mp q
    have := (O.nw p (List.mem_append_left _ hp)).2.2
    rw [z, e] at this; cases this
  have LA' : L ∉ A.map (·.1) := fun q => by
    obtain ⟨p, hp, z⟩ := List.mem_map.mp q
    exact (O.nw p (List.mem_append_left _ hp)).2.1 z
  have RA' : ∀ p ∈ R, p.1 ∉ A.map (·.1) := fun p hp q => nd.2.2 _ q _ (List.mem_map_of_mem hp) rfl
  obtain ⟨m, ⟨oL, es, ep, hL, hr⟩, hb⟩ := O.fr
  refine ⟨fun b o e => r.but b o (nA b o e) (O.keep b o e), ⟨m, ⟨oL, es, ep, r.but _ _ LA' hL, hr⟩, hb⟩, O.gL, fun p hp => ?_, ?_⟩
  · rcases List.mem_append.mp hp with hp | hp
    · refine ⟨(r.nw p hp).1, ?_, ?_⟩
      · rcases (r.nw p hp).2 with q | q
        · exact fun z => LA' (z ▸ q)
        · intro z; rw [z, hL] at q; cases q
      · rcases (r.nw p hp).2 with q | q
        · cases e : g.get? p.1 with
          | none => rfl
          | some o => exact absurd q (nA _ _ e)
        · cases e : g.get? p.1 with
          | none => rfl
          | some o => rw [O.keep _ _ e] at q; cases q
    · obtain ⟨⟨o, a, b⟩, c⟩ := O.nw p (List.mem_append_right _ hp)
      exact ⟨⟨o, r.but _ _ (RA' p hp) a, b⟩, c⟩
  · rw [List.map_append, List.nodup_append]
    refine ⟨r.nd, nd.2.1, fun a ha b hb' q => ?_⟩
    subst q
    obtain ⟨p, hp, rfl⟩ := List.mem_map.mp ha
    obtain ⟨p', hp', e'⟩ := List.mem_map.mp hb'
    rcases (r.nw p hp).2 with q | q
    · exact nd.2.2 _ q _ (List.mem_map_of_mem hp') e'.symm
    · obtain ⟨⟨o, a, _⟩, _⟩ := O.nw p' (List.mem_append_right _ hp')
      rw [e', q] at a; cases a
/-- the arguments of a call, out of what the caller owns -/
theorem Own.args (O : Own g L h bs (A ++ R)) : (∀ p ∈ A, (∃ o, h.get? p.1 = some o ∧ p.2 o) ∧ g.get? p.1 = none) ∧ (A.map (·.1)).Nodup := by
  refine ⟨fun p hp => let ⟨a, _, c⟩ := O.nw p (List.mem_append_left _ hp); ⟨a, c⟩, ?_⟩
  have nd := O.nd
  rw [List.map_append, List.nodup_append] at nd
  exact nd.1
end
/-- instances -/
noncomputable def XA (C dx : Addr) : As := fun o => o = instObj C dx
inductive Ents : List DictEntry → List (Str × Value) → Prop
  | nil : Ents [] []
  | cons {hsh : Int} {x : Str} {t : Tok} {v : Value} {es : List DictEntry} {kvs : List (Str × Value)} : Ents es kvs → Ents (⟨hsh, .str x t, v⟩ :: es) ((x, v) :: kvs)
noncomputable def DA (kvs : List (Str × Value)) : As := fun o => ∃ es n, o = dictOf es n ∧ Ents es kvs
theorem Ents.length {es : List DictEntry} {kvs : List (Str × Value)} (x : Ents es kvs) : es.length = kvs.length := by
  induction x with
  | nil => rfl
  | cons _ ih => rw [List.length_cons, List.length_cons, ih]
theorem isStr_str (x y : Str) (t : Tok) : (Value.str x t).isStr y = (x == y) := rfl
theorem Ents.noRef {es : List DictEntry} {kvs : List (Str × Value)} (x : Ents es kvs) : es.any (·.refKey) = false := by
  induction x with
  | nil => rfl
  | cons _ ih => rw [List.any_cons, ih]; rfl
theorem Ents.find {es : List DictEntry} {kvs : List (Str × Value)} (x : Ents es kvs) (y : Str) : (es.find? (·.key.isStr y)).map (·.val) = kvs.lookup y := by
  induction x with
  | nil => rfl
  | cons x ih =>
    rename_i hsh z t v es kvs
    rw [List.find?_cons, List.lookup_cons]
    by_cases q : z = y
    · subst q
      have q1 : ((⟨hsh, .str z t, v⟩ : DictEntry).key.isStr z) = true := by show (Value.str z t).isStr z = true; rw [isStr_str]; simp
      rw [q1]; simp
    · have q1 : ((⟨hsh, .str z t, v⟩ : DictEntry).key.isStr y) = false := by show (Value.str z t).isStr y = false; rw [isStr_str]; simpa using q
      have q2 : (y == z) = false := by simpa using Ne.symm q
      rw [q1, q2]
      exact ih
theorem Ents.get {es : List DictEntry} {kvs : List (Str × Value)} (x : Ents es kvs) (y : Str) : getL y es = some (kvs.lookup y) := by
  unfold getL
  rw [← x.find y]
  cases q : es.find? (·.key.isStr y) with
  | some e => rfl
  | none => simp [x.noRef]
theorem Put.length {x : Str} {v : Value} {bs bs' : List (Str × Value)} (p : Put x v bs bs') : bs'.length ≤ bs.length + 1 := by
  induction p with
  | nil => simp
  | hit _ => simp
  | skip _ _ ih => simp only [List.length_cons]; omega
theorem Ents.put {es : List DictEntry} {kvs kvs' : List (Str × Value)} {y : Str} {v : Value} (x : Ents es kvs) (P : Put y v kvs kvs') (hsh : Int) (t : Tok) : Ents (putL y hsh (.str y t) v es) kvs' := by
  induction x generalizing kvs' with
  | nil => cases P; exact .cons .nil
  | cons x ih =>
    rename_i h' z t' u es kvs
    unfold putL
    cases P with
    | hit hr => rw [if_pos (by rw [isStr_str]; simp)]; exact .cons x
    | skip hy P => rw [if_neg (by rw [isStr_str]; simpa using hy)]; exact .cons (ih P)
section
variable {w : World} {n : Nat} {g h : Heap} {L : Addr} {env : Env} {bs : List (Str × Value)} {ns ns' : List (Addr × As)}
theorem isInst {C x dx : Addr} {kvs : List (Str × Value)} (hx : ∃ o, h.get? x = some o ∧ XA C dx o) (hdd : ∃ o, h.get? dx = some o ∧ DA kvs o) : ∃ es m, InstAt h x (instObj C dx) C (some (dictOf es m)) ∧ Ents es kvs ∧ h.get? dx = some (dictOf es m) := by
  obtain ⟨o, a, rfl⟩ := hx
  obtain ⟨o', b, es, m, rfl, e⟩ := hdd
  exact ⟨es, m, ⟨a, rfl, rfl, b⟩, e, b⟩
theorem ev_getattr {C x dx : Addr} {kvs : List (Str × Value)} {name : Str} {v : Value} {b : Bool} {P : Value → Heap → Prop} (G : Gd w g) (st : g.StaysIn h) (hx : ∃ o, h.get? x = some o ∧ XA C dx o) (hdd : ∃ o, h.get? dx = some o ∧ DA kvs o) (hg : plainGet (hd.heap_1 w.params) C name = true) (hh : hasDictIn (hd.heap_1 w.params) C = true) (ha : findIn (hd.heap_1 w.params) (.ref C) name = some none)
    (hl : kvs.lookup name = some v) (hv : handedIn v = true) (p : P v h) : Ev w n (getAttr (.ref x) name b) h P := fun s tk => by
  obtain ⟨es, m, I, e, _⟩ := isInst hx hdd
  exact get_value (s := { s with heap := h, toks := tk }) (G.K.keeps st) I (plainGet_of hg).1 (findObj_own hh ha rfl (by rw [lookIn_dict, e.get, hl])) hv ⟨h, tk + 1, rfl, p⟩
theorem ev_attr {o : Expr} {name : Str} {pos : Pos} {P : Value → Heap → Prop} (e : Ev w n (eval o env) h fun ov h₁ => Ev w n (getAttr ov name true) h₁ P)
    (he : eval (.Attribute o name pos) env = (do
      let ov ← eval o env
      standAt pos.atName
      let r ← holding [ov] (getAttr ov name true)
      letTemporaryGo o ov r
      pure r) := by rfl) : Ev w n (eval (.Attribute o name pos) env) h P := fun s tk =>
  Attribute_any_ (wpAny_mono (e s tk) (fun _ _ ⟨_, tk₁, e₁, p₁⟩ => e₁ ▸ p₁ s tk₁) fun _ _ f => f) he
theorem ev_setattr {C x dx : Addr} {kvs kvs' : List (Str × Value)} {name : Str} {v : Value} {P : Unit → Heap → Prop} (G : Gd w g) (O : Own g L h bs ns) (hx : ∃ o, h.get? x = some o ∧ XA C dx o) (hdd : (dx, DA kvs) ∈ ns) (U : UpdA dx (DA kvs') ns ns') (pt : Put name v kvs kvs') (hz : kvs.length ≤ 900)
    (hs : findIn (hd.heap_1 w.params) (.ref C) "__setattr__" = some (some (.builtin "object.__setattr__"))) (hp : plainOver (hd.heap_1 w.params) C = true) (ht : takerIn (hd.heap_1 w.params) C name = some none) (hh : hasDictIn (hd.heap_1 w.params) C = true)
    (k : ∀ h', Own g L h' bs ns' → P () h') : Ev w n (setAttr (.ref x) name v) h P := fun s tk => by
  obtain ⟨es, m, I, e, D⟩ := isInst hx (O.at hdd)
  have X := G.K.keeps O.keep
  refine set_plain (s := { s with heap := h, toks := tk }) X I hs ?_
  refine osa_open (s := { s with heap := h, toks := tk + 1 }) X I hp ht fun b => ?_
  obtain ⟨cd, hc, hd'⟩ := any_some hh
  refine wpAny_bind (wpAny_pure (wpAny_bind (wpAny_bind (wpAny_loadPart I.at_ (wpAny_bind ((looks_clsIn X hc).here ?_))))))
  rw [hd']
  refine wpAny_pure (a := some dx) (wpAny_bind (wpAny_pure (wpAny_bind ?_)))
  unfold nsSet
  refine wpAny_bind (wpAny_bind (wpAny_askSetting (wpAny_pure (wpAny_bind (wpAny_mkText (wpAny_bind (wpAny_loadPart D ?_)))))))
  dsimp only
  have nr := e.noRef
  have c : (!es.toArray.any (·.key.isStr name) && es.toArray.any (·.refKey)) = false := by
    rw [List.any_toArray, List.any_toArray, nr, Bool.and_false]
  rw [aRefKeyMayBeTheName_at, c]
  refine wpAny_updatePart D ?_
  have hput := putName_dict name (PyData.keyHash w.params name) (.str name (tk + 1)) v es m
  have D' : (h.update dx (Obj.putName name (PyData.keyHash w.params name) (.str name (tk + 1)) v)).get? dx = some (dictOf (putL name (PyData.keyHash w.params name) (.str name (tk + 1)) v es) (putN name es m)) := by
    rw [← hput]; exact Heap.get?_update_self _ D (by rw [hput]; rfl)
  have E' := e.put pt (PyData.keyHash w.params name) (tk + 1)
  have hz' : kvs'.length ≤ 901 := by
    clear E'
    have := pt.length
    omega
  refine wpAny_bind (wpAny_lookBehind D' (pastItsLine_dict (by rw [List.size_toArray, sizeLine_eq, E'.length]; omega)) ?_)
  exact wpAny_pure ⟨_, _, rfl, k _ (O.upd U (.of_same (Heap.SameBut.update ..)) ⟨_, D', _, _, rfl, E'⟩)⟩
end
end Mine
end
section
open PySem PySem.W PyProof.Rows PySem.Calls
set_option maxRecDepth 100000
set_option maxHeartbeats 4000000
namespace Mine
section
variable {w : World} {n : Nat} {g h : Heap} {L : Addr} {env : Env} {bs : List (Str × Value)} {ns ns' : List (Addr × As)} {P : Value → Heap → Prop}
/-- a method call, once the method stands -/
noncomputable def CallW (w : World) (n : Nat) (pos : Pos) (f : Value) (first : List Value) (args : List Expr) (env : Env) (h : Heap) (P : Value → Heap → Prop) : Prop :=
  Ev w n (callWith pos f first (backTo pos (starEach args env)) (backToKw pos (keywordEach [] env))) h P
theorem ev_mcall {o : Expr} {name : Str} {apos pos : Pos} {args : List Expr} {pl : Sem Bool}
    (e : Ev w n (eval o env) h fun ov h₁ => Ev w n (getMethod ov name pl) h₁ fun fx h₂ => CallW w n pos fx.1 fx.2 args env h₂ P)
    (he : eval (.Call (.Attribute o name apos) args [] pos) env = (do
      let ov ← eval o env
      standAt apos.atName
      let (f, first) ← holding [ov] (getMethod ov name pl)
      callWith pos f first (backTo pos (starEach args env)) (backToKw pos (keywordEach [] env))) := by rfl) : Ev w n (eval (.Call (.Attribute o name apos) args [] pos) env) h P := fun s tk =>
  methodCall_KW (wpAny_mono (e s tk) (fun _ _ ⟨_, tk₁, e₁, p₁⟩ => e₁ ▸ wpAny_mono (p₁ s tk₁) (fun _ _ ⟨_, tk₂, e₂, p₂⟩ => e₂ ▸ p₂ s tk₂) fun _ _ f => f) fun _ _ f => f) he
/-- a method of the class's -/
theorem ev_getmeth {C x dx : Addr} {kvs : List (Str × Value)} {name : Str} {f : Addr} {pl : Sem Bool} {Q : Value × List Value → Heap → Prop} (G : Gd w g) (st : g.StaysIn h) (hx : ∃ o, h.get? x = some o ∧ XA C dx o) (hdd : ∃ o, h.get? dx = some o ∧ DA kvs o) (hl : kvs.lookup name = none)
    (hg : plainGet (hd.heap_1 w.params) C name = true) (hf : findIn (hd.heap_1 w.params) (.ref C) name = some (some (.ref f))) (ht : isFn (hd.heap_1 w.params) (.ref f) = true) (p : Q (.ref f, [.ref x]) h) : Ev w n (getMethod (.ref x) name pl) h Q := fun s tk => by
  obtain ⟨es, m, I, e, _⟩ := isInst hx hdd
  exact method_fn (s := { s with heap := h, toks := tk }) (G.K.keeps st) I (plainGet_of hg).1 (plainGet_of hg).2 hf (beq_iff_eq.mp ht) (by show (lookIn name (dictOf es m)).map _ = _; rw [lookIn_dict, e.get, hl]; rfl) ⟨h, tk, rfl, p⟩
/-- a value of the object's own dict -/
theorem ev_getmeth_own {C x dx : Addr} {kvs : List (Str × Value)} {name : Str} {v : Value} {pl : Sem Bool} {Q : Value × List Value → Heap → Prop} (G : Gd w g) (st : g.StaysIn h) (hx : ∃ o, h.get? x = some o ∧ XA C dx o) (hdd : ∃ o, h.get? dx = some o ∧ DA kvs o) (hl : kvs.lookup name = some v) (hv : handedIn v = true)
    (hg : plainGet (hd.heap_1 w.params) C name = true) (hh : hasDictIn (hd.heap_1 w.params) C = true) (ha : findIn (hd.heap_1 w.params) (.ref C) name = some none) (p : Q (v, []) h) : Ev w n (getMethod (.ref x) name pl) h Q := fun s tk => by
  obtain ⟨es, m, I, e, _⟩ := isInst hx hdd
  refine method_usual (s := { s with heap := h, toks := tk }) (G.K.keeps st) I (plainGet_of hg).1 (plainGet_of hg).2 ha rfl ?_
  exact get_value (s := { s with heap := h, toks := tk }) (G.K.keeps st) I (plainGet_of hg).1 (findObj_own hh ha rfl (by rw [lookIn_dict, e.get, hl])) hv ⟨h, tk + 1, rfl, p⟩
theorem callw_K {pos : Pos} {f : Addr} {first : List Value} {a : Expr} {rest : List Expr} (hk : keepIn (hd.heap_1 w.params) (.ref f) = true)
    (k : Ev w n (spliced (backTo pos (starEach (a :: rest) env))) h fun vs h₂ => (∃ g, Gd w g ∧ g.StaysIn h₂) ∧ Ev w n (call (.ref f) (first ++ vs)) h₂ P)
    (he : starEach (a :: rest) env = (false, eval a env) :: starEach rest env := by rfl) (hplain : (backTo pos (starEach rest env)).any (·.1) = false := by rfl) : CallW w n pos (.ref f) first (a :: rest) env h P := fun s tk => by
  show wpAny _ _ (callWith pos (.ref f) first (backTo pos (starEach (a :: rest) env)) []) _ _ _
  rw [he] at k ⊢
  refine callWith_of (by show ((false || (backTo pos (starEach rest env)).any (·.1)) || false) = false; rw [hplain]; rfl) (keeps_K hk) (evalArgs_plain (wpAny_mono (k s tk) (fun vs s₁ hx => ?_) fun _ _ f => f))
  obtain ⟨h₂, tk₂, rfl, ⟨g, G, st⟩, q⟩ := hx
  exact ⟨G.K.keeps st, q s tk₂⟩
theorem callw_K0 {pos : Pos} {f : Addr} {first : List Value} (hk : keepIn (hd.heap_1 w.params) (.ref f) = true) (G : Gd w g) (st : g.StaysIn h) (k : Ev w n (call (.ref f) first) h P) : CallW w n pos (.ref f) first [] env h P := fun s tk => by
  show wpAny _ _ (callWith pos (.ref f) first (backTo pos (starEach [] env)) []) _ _ _
  exact callWith_K0 (s := { s with heap := h, toks := tk }) (G.K.keeps st) hk (by rw [List.append_nil]; exact k s tk)
noncomputable def FnA (fd : FuncData) : As := fun o => ∃ oc od sl, o = ⟨oc, od, .func fd, sl⟩
theorem callw_F {pos : Pos} {f : Addr} {fd : FuncData} {a : Expr} {rest : List Expr}
    (k : Ev w n (spliced (backTo pos (starEach (a :: rest) env))) h fun vs h₂ => (∃ o, h₂.get? f = some o ∧ FnA fd o) ∧ Ev w n (call (.ref f) vs) h₂ P)
    (he : starEach (a :: rest) env = (false, eval a env) :: starEach rest env := by rfl) (hplain : (backTo pos (starEach rest env)).any (·.1) = false := by rfl) : CallW w n pos (.ref f) [] (a :: rest) env h P := fun s tk => by
  show wpAny _ _ (callWith pos (.ref f) [] (backTo pos (starEach (a :: rest) env)) []) _ _ _
  rw [he] at k ⊢
  refine callWith_of (P := FnAt f) (by show ((false || (backTo pos (starEach rest env)).any (·.1)) || false) = false; rw [hplain]; rfl) keeps_F (evalArgs_plain (wpAny_mono (k s tk) (fun vs s₁ hx => ?_) fun _ _ f => f))
  obtain ⟨h₂, tk₂, rfl, ⟨o, ho, oc, od, sl, rfl⟩, q⟩ := hx
  exact ⟨⟨oc, od, fd, sl, ho⟩, q s tk₂⟩
/-- a new object -/
theorem ev_new {C fI : Addr} {args : List Value} (G : Gd w g) (O : Own g L h bs ns) (hm : makesIn (hd.heap_1 w.params) C = true) (hi : findIn (hd.heap_1 w.params) (.ref C) "__init__" = some (some (.ref fI))) (hf : isFn (hd.heap_1 w.params) (.ref fI) = true) (hn : n < 900)
    (k : ∀ x dx h', Own g L h' bs ((x, XA C dx) :: (dx, DA []) :: ns) → EvK w (n + 1) (.call (.ref fI) ⟨.ref x :: args, []⟩) h' fun v h'' => v = .none ∧ P (.ref x) h'') : Ev w n (call (.ref C) args) h P := fun s tk => by
  have X := G.K.keeps O.keep
  refine wpAny_call ?_
  refine make_core (h := h) (makes_of X hm) (looks_findIn X hi) (fun self => bind_fn X self (beq_iff_eq.mp hf)) (.inl rfl) ?_
  have O₁ := O.push (o := emptyDict) (φ := DA []) rfl ⟨[], 0, rfl, .nil⟩
  have O₂ := O₁.push (o := instObj C h.objs.size) (φ := XA C h.objs.size) rfl rfl
  rw [Heap.size_push] at O₂
  refine (k _ _ _ O₂).use (s := { s with heap := (h.push emptyDict).push (instObj C h.objs.size), toks := tk }) rfl (Nat.le_refl _) (show 10 * n + 1 ≤ 10 * (n + 1) by omega) fun v h' tk' p => ?_
  obtain ⟨rfl, p⟩ := p
  exact ⟨rfl, h', tk', rfl, p⟩
end
end Mine
end
section
open PySem PySem.W PyProof.Rows PySem.Calls
set_option maxRecDepth 100000
set_option maxHeartbeats 4000000
namespace Mine
section
variable {w : World} {n : Nat} {g₀ g h : Heap} {L : Addr} {env : Env} {bs : List (Str × Value)} {ns ns' : List (Addr × As)}
theorem ev_setattr_then {o value : Expr} {name : Str} {p' pos : Pos} {rest : List Stmt} {P : Flow → Heap → Prop} (e : Ev w n (eval value env) h fun v h₁ => Ev w n (eval o env) h₁ fun ov h₂ => Ev w n (setAttr ov name v) h₂ fun _ h₃ => Ev w n (execs rest env) h₃ P)
    (hs : swapsWith value (some (.Attribute o name p')) pos.line env = pure false := by rfl) : Ev w n (execs (.Assign [.Attribute o name p'] value pos :: rest) env) h P := ev_seq fun s tk =>
  plainObj_wpAny_Assign_Attribute (wpAny_mono (e s tk) (fun _ _ ⟨_, tk₁, e₁, p₁⟩ => e₁ ▸ wpAny_mono (p₁ s tk₁) (fun _ _ ⟨_, tk₂, e₂, p₂⟩ => e₂ ▸ wpAny_mono (p₂ s tk₂) (fun _ _ ⟨h₃, tk₃, e₃, p₃⟩ => ⟨h₃, tk₃, e₃, p₃⟩) fun _ _ f => f) fun _ _ f => f) fun _ _ f => f) hs
theorem ev_augname_then {x : Str} {value : Expr} {op : Operator} {p' pos : Pos} {rest : List Stmt} {P : Flow → Heap → Prop} (e : Ev w n (loadName env x) h fun old h₁ => Ev w n (eval value env) h₁ fun v h₂ => Ev w n (inplaceOp op old v) h₂ fun r h₃ => Ev w n (storeName env x r) h₃ fun _ h₄ => Ev w n (execs rest env) h₄ P) :
    Ev w n (execs (.AugAssign (.Name x p') op value pos :: rest) env) h P := ev_seq fun s tk =>
  wpAny_AugAssign_Name (wpAny_mono (e s tk) (fun _ _ ⟨_, tk₁, e₁, p₁⟩ => e₁ ▸ wpAny_mono (p₁ s tk₁) (fun _ _ ⟨_, tk₂, e₂, p₂⟩ => e₂ ▸ wpAny_mono (p₂ s tk₂) (fun _ _ ⟨_, tk₃, e₃, p₃⟩ => e₃ ▸ wpAny_mono (p₃ s tk₃) (fun _ _ ⟨h₄, tk₄, e₄, p₄⟩ => ⟨h₄, tk₄, e₄, p₄⟩) fun _ _ f => f) fun _ _ f => f) fun _ _ f => f) fun _ _ f => f)
theorem ev_loadlocal {x : Str} {v : Value} {P : Value → Heap → Prop} (O : Own g L h bs ns) (hb : (x, v) ∈ bs) (p : P v h) (hL : env.locals = L := by rfl) (hk : env.scope.kind = .function := by rfl) (hl : env.kindOf x = some .local := by rfl) : Ev w n (loadName env x) h P := by
  obtain ⟨m, hm, z⟩ := O.fr
  intro s tk
  exact wpAny_loadName_local hk hl (by rw [hL]; exact hm) (z _ _ hb) ⟨h, tk, rfl, p⟩
theorem ek_defK {f : Addr} {fo : Obj} {fd : FuncData} {body : List Stmt} {args : List Value} {binds : List (Str × Value)} {P : Value → Heap → Prop} {names : List Str} (ns : List (Addr × As))
    (G : Gd w g₀) (hst : g₀.StaysIn h) (hn : ∀ p ∈ ns, (∃ o, h.get? p.1 = some o ∧ p.2 o) ∧ g₀.get? p.1 = none) (nd : (ns.map (·.1)).Nodup)
    (ho : (hd.heap_1 w.params).lookup f = some fo) (hfd : fo.data = .func fd) (hcd : codeIn (hd.heap_1 w.params) fd.code fd.qualname = true) (hb : fd.body = .stmts body)
    (hbind : bindArgs fd ⟨args, []⟩ = pure binds) (hloc : ∀ x ∈ binds, fd.scope.names.lookup x.1 = some .local) (hnm : binds.map (·.1) = names) (hnd' : names.Nodup) (hcell : ∀ x ∈ fd.scope.names, x.2 ≠ .cell)
    (e : ∀ g L h₁, Gd w g → Hid g₀ h g ns → Own g L h₁ binds ns →
      Ev w (n + 1) (execs body (callEnv fd L f)) h₁ (fun fl h' => P (match fl with | .ret v => v | _ => .none) h'))
    (hroom : n < 900) (hco : fd.scope.isCoroutine = false) (hgen : fd.scope.isGenerator = false) (hk : fd.scope.kind = .function) : EvK w n (.call (.ref f) ⟨args, []⟩) h P :=
  ek_def ns G hst hn nd (hst _ _ (G.K _ _ ho)) hfd (codeRec_of (G.K.keeps hst) hcd) hb hbind hloc hnm hnd' hcell e hroom hco hgen hk
theorem Res.of_own {A B R : List (Addr × As)} {h h' : Heap} (O : Own g L h bs (A ++ R)) (r : Res h A h' B) : Own g L h' bs (B ++ R) := O.res r
end
end Mine
end
section
open PySem PySem.W PyProof.Rows PySem.Calls
set_option maxRecDepth 100000
set_option maxHeartbeats 4000000
namespace Mine
namespace CIF
theorem slot_next : Slot "callable_iterator" "__next__" "callable_iterator.__next__" :=
  .of (owner := "callable_iterator") (n := "__next__") (by rw [typeLookup_type, builtinLookup_eq_fast]; kernel_rfl) (by decide +kernel) (by decide +kernel) (by decide +kernel)
    (by first | exact .inl (by decide +kernel) | exact .inr (by decide +kernel)) (by rw [isSubtype_type]; kernel_rfl)
theorem entry_next : entryFor table "callable_iterator.__next__" = some Builtin.«callable_iterator.__next__» := entryFor_of_tree (by kernel_rfl)
theorem args_next (a : Value) : argsOk "callable_iterator.__next__" ⟨[a], []⟩ := by unfold argsOk; kernel_rfl
theorem slot_iter : Slot "callable_iterator" "__iter__" "callable_iterator.__iter__" :=
  .of (owner := "callable_iterator") (n := "__iter__") (by rw [typeLookup_type, builtinLookup_eq_fast]; kernel_rfl) (by decide +kernel) (by decide +kernel) (by decide +kernel)
    (by first | exact .inl (by decide +kernel) | exact .inr (by decide +kernel)) (by rw [isSubtype_type]; kernel_rfl)
theorem entry_iter : entryFor table "callable_iterator.__iter__" = some Builtin.«dict_keyiterator.__iter__» :=
  entryFor_alias (id' := "dict_keyiterator.__iter__") (by kernel_rfl) rfl (by decide +kernel) (by kernel_rfl)
theorem args_iter (a : Value) : argsOk "callable_iterator.__iter__" ⟨[a], []⟩ := by unfold argsOk; kernel_rfl
theorem kind_it : builtinKind "iter" = none := by decide +kernel
theorem plain_it : plainId "iter" = true := by decide +kernel
theorem entry_it : entryFor table "iter" = some Builtin.«iter» := entryFor_of_tree (by kernel_rfl)
theorem args_it (a b : Value) : argsOk "iter" ⟨[a, b], []⟩ := by unfold argsOk; kernel_rfl
theorem slot_mcall : Slot "method" "__call__" "method.__call__" :=
  .of (owner := "method") (n := "__call__") (by rw [typeLookup_type, builtinLookup_eq_fast]; kernel_rfl) (by decide +kernel) (by decide +kernel) (by decide +kernel)
    (by first | exact .inl (by decide +kernel) | exact .inr (by decide +kernel)) (by rw [isSubtype_type]; kernel_rfl)
end CIF
noncomputable def CI (q : Addr) (sent : Str) : As := fun o => ∃ t, o = { cls := .type "callable_iterator", data := .fields #[.ref q, .str sent t, .bool false] }
noncomputable def CE : As := fun o => o = { cls := .type "callable_iterator", data := .fields #[.none, .none, .bool true] }
noncomputable def MA (f x : Addr) : As := fun o => o = methodObj (.ref f) (.ref x)
section
variable {M : Model} {A : Around} {E : Value → Shared → Prop} {s : Shared}
theorem wpAny_callBorrowed {f : Value} {pos : List Value} {Q : Value → Shared → Prop}
    (hc : codeAny M A (.call f ⟨pos, []⟩) (fun r s' => match r with | .ok (.ret v) => Q v s' | .ok _ => False | .error e => E e s') s) : wpAny M A (callBorrowed f pos) Q E s := fun Γ p hΓ => by
  unfold callBorrowed
  rw [Sem.wp_call]
  refine (codeAny_mono (R' := fun r s' => Sem.wp M Γ (match r with | .ok (.ret v) => .pure v | .ok _ => .unsupported "internal:call-without-return-value" | .error e => .raise e) (fun a _ s' => Q a s') (fun e _ s' => E e s') p s') hc fun r s' z => ?_) _ p rfl (hΓ.enter _ none p (by intro x; cases x))
  rcases r with e | (v | _ | _ | _) <;> first | exact z | exact z.elim
theorem wpAny_borrowsExactly {q f x : Addr} {fo : Obj} {fd : FuncData} {Q : Bool → Shared → Prop} (hq : s.heap.get? q = some (methodObj (.ref f) (.ref x))) (hf : s.heap.get? f = some fo) (hfd : fo.data = .func fd) (h : Q true s) : wpAny M A (borrowsExactly (.ref q)) Q E s := by
  unfold borrowsExactly
  refine wpAny_bind (wpAny_load hq ?_)
  show wpAny _ _ (do match (← load f).data with | .func _ => pure true | _ => pure false) _ _ _
  refine wpAny_bind (wpAny_load hf ?_)
  rw [hfd]
  exact wpAny_pure h
end
section
variable {w : World} {n : Nat} {g h : Heap} {L : Addr} {env : Env} {bs : List (Str × Value)} {ns ns' : List (Addr × As)}
theorem ev_iter_ci {I q : Addr} {sent : Str} {P : Value → Heap → Prop} (hI : ∃ o, h.get? I = some o ∧ (CI q sent o ∨ CE o)) (p : P (.ref I) h) : Ev w n (pyIter (.ref I)) h P := fun s tk => by
  have hT : ∀ s' : Shared, s'.heap = h → s'.TypeIs (.ref I) "callable_iterator" := fun s' e => by
    obtain ⟨o, ho, z⟩ := hI
    refine ⟨o, by rw [e]; exact ho, ?_⟩
    rcases z with ⟨t, rfl⟩ | z
    · rfl
    · rw [z]
  refine wpAny_pyIter_slot (hT _ rfl) CIF.slot_iter (wpAny_call_entry CIF.slot_iter (hT _ rfl) CIF.entry_iter ?_ (CIF.args_iter _))
  show wpAny _ _ (ret (.ref I)) _ _ _
  exact wpAny_pure ⟨_, rfl, "callable_iterator", _, hT _ rfl, CIF.slot_next.lookup, h, tk, rfl, p⟩
theorem ev_iter2 {q f x : Addr} {t : Tok} {sent : Str} {P : Value → Heap → Prop} (O : Own g L h bs ns) (hq : ∃ o, h.get? q = some o ∧ MA f x o) (k : ∀ I h', Own g L h' bs ((I, CI q sent) :: ns) → P (.ref I) h') : Ev w n (call (.builtin "iter") [.ref q, .str sent t]) h P := fun s tk => by
  obtain ⟨o, ho, rfl⟩ := hq
  refine call_function_entry CIF.kind_it CIF.plain_it CIF.entry_it (CIF.args_it _ _) ?_
  unfold Builtin.«iter»
  refine wpAny_bind (m := someArgs "iter" 1 2 _) (wpAny_pure ?_)
  dsimp only
  refine wpAny_bind (wpAny_specialOf (s := { s with heap := h, toks := tk }) (name := Str.ofString "__call__") (T := "method") ⟨_, ho, rfl⟩ CIF.slot_mcall.lookup ?_)
  show wpAny _ _ (rule "iter.sentinel" >>= _) _ _ _
  refine wpAny_bind (wpAny_rule (wpAny_bind ?_))
  unfold newFields
  refine wpAny_newObj_type ?_ (by size_fits)
  refine wpAny_pure ⟨_, rfl, ?_⟩
  exact ⟨_, tk, rfl, k _ _ (O.push rfl ⟨t, rfl⟩)⟩
theorem ev_next_ci {I q f x : Addr} {fo : Obj} {fd : FuncData} {P : Option Value → Heap → Prop} (hI : ∃ o, h.get? I = some o ∧ CI q (Str.ofString "") o) (hq : ∃ o, h.get? q = some o ∧ MA f x o) (hf : h.get? f = some fo) (hfd : fo.data = .func fd)
    (k : EvK w (n + 1) (.call (.ref f) ⟨[.ref x], []⟩) h fun v h₁ => ∃ r t, v = .str r t ∧ (∃ o, h₁.get? I = some o ∧ CI q (Str.ofString "") o) ∧ (∃ o, h₁.get? q = some o ∧ MA f x o) ∧ h₁.get? f = some fo ∧
      if r = Str.ofString "" then (∀ h₂, But I h₁ h₂ → (∃ o, h₂.get? I = some o ∧ CE o) → P none h₂) else P (some v) h₁) : Ev w n (pyNext (.ref I)) h P := fun s tk => by
  obtain ⟨oI, hIo, tI, rfl⟩ := hI
  obtain ⟨oq, hqo, rfl⟩ := hq
  have hT : Shared.TypeIs { s with heap := h, toks := tk } (.ref I) "callable_iterator" := ⟨_, hIo, rfl⟩
  unfold pyNext
  refine wpAny_bind (wpAny_attempt (wpAny_callSpecial?_slot (name := Str.ofString "__next__") hT CIF.slot_next (wpAny_call_entry CIF.slot_next hT CIF.entry_next ?_ (CIF.args_next _))))
  show wpAny _ _ (field (.ref I) 2 >>= _) _ _ _
  refine wpAny_bind (wpAny_field (s := { s with heap := h, toks := tk }) hIo rfl (x := .bool false) rfl ?_)
  rw [if_neg (show ¬ ((Value.bool false == Value.bool true) = true) by decide)]
  show wpAny _ _ (field (.ref I) 0 >>= _) _ _ _
  refine wpAny_bind (wpAny_field (s := { s with heap := h, toks := tk }) hIo rfl (x := .ref q) rfl ?_)
  refine wpAny_bind (wpAny_attempt ?_)
  unfold callOutOfASlot
  refine wpAny_bind (wpAny_borrowsExactly (s := { s with heap := h, toks := tk }) hqo hf hfd ?_)
  rw [if_pos rfl]
  refine wpAny_callBorrowed (method_call (s := { s with heap := h, toks := tk }) hqo (k.use (s := { s with heap := h, toks := tk }) rfl (Nat.le_succ n) (by show 10 * n + 1 ≤ _; omega) fun v h₁ tk₁ p => ?_))
  obtain ⟨r, t, rfl, ⟨oI₁, hI₁, tI₁, rfl⟩, ⟨oq₁, hq₁, rfl⟩, hf₁, p⟩ := p
  dsimp only
  refine wpAny_bind (wpAny_field (s := { s with heap := h₁, toks := tk₁ }) hI₁ rfl (x := .bool false) rfl ?_)
  rw [if_neg (show ¬ ((Value.bool false == Value.bool true) = true) by decide)]
  refine wpAny_bind (wpAny_field (s := { s with heap := h₁, toks := tk₁ }) hI₁ rfl (x := .str (Str.ofString "") tI₁) rfl ?_)
  refine wpAny_bind (wpAny_holding (wpAny_eqBool_str ?_))
  by_cases hr : Str.ofString "" = r
  · subst hr
    rw [if_pos rfl] at p
    rw [decide_eq_true rfl, if_neg (by decide)]
    refine wpAny_bind (wpAny_rule (wpAny_bind ?_))
    show wpAny _ _ (field (.ref I) 0 >>= _) _ _ _
    refine wpAny_bind (wpAny_field (s := { s with heap := h₁, toks := tk₁ }) hI₁ rfl (x := .ref q) rfl ?_)
    refine wpAny_bind ?_
    unfold slotLetsGo
    refine wpAny_bind (wpAny_borrowsExactly (s := { s with heap := h₁, toks := tk₁ }) hq₁ hf₁ hfd ?_)
    rw [if_pos rfl]
    refine wpAny_pure ?_
    -- the fields
    refine wpAny_bind (wpAny_setField (s := { s with heap := h₁, toks := tk₁ }) hI₁ rfl (by simp) ?_)
    have u1 : (h₁.update I (Obj.mapFields (·.setIfInBounds 0 Value.none))).get? I = some { cls := .type "callable_iterator", data := .fields #[.none, .str (Str.ofString "") tI₁, .bool false] } := Heap.get?_update_self _ hI₁ rfl
    have b1 : But I h₁ (h₁.update I (Obj.mapFields (·.setIfInBounds 0 Value.none))) := .of_same (Heap.SameBut.update ..)
    generalize h₁.update I (Obj.mapFields (·.setIfInBounds 0 Value.none)) = h₂ at u1 b1
    refine wpAny_bind (wpAny_setField (s := { s with heap := h₂, toks := tk₁ }) u1 rfl (by simp) ?_)
    have u2 : (h₂.update I (Obj.mapFields (·.setIfInBounds 1 Value.none))).get? I = some { cls := .type "callable_iterator", data := .fields #[.none, .none, .bool false] } := Heap.get?_update_self _ u1 rfl
    have b2 : But I h₂ (h₂.update I (Obj.mapFields (·.setIfInBounds 1 Value.none))) := .of_same (Heap.SameBut.update ..)
    generalize h₂.update I (Obj.mapFields (·.setIfInBounds 1 Value.none)) = h₃ at u2 b2
    refine wpAny_setField (s := { s with heap := h₃, toks := tk₁ }) u2 rfl (by simp) ?_
    have u3 : (h₃.update I (Obj.mapFields (·.setIfInBounds 2 (Value.bool true)))).get? I = some { cls := .type "callable_iterator", data := .fields #[.none, .none, .bool true] } := Heap.get?_update_self _ u2 rfl
    have b3 : But I h₃ (h₃.update I (Obj.mapFields (·.setIfInBounds 2 (Value.bool true)))) := .of_same (Heap.SameBut.update ..)
    generalize h₃.update I (Obj.mapFields (·.setIfInBounds 2 (Value.bool true))) = h₄ at u3 b3
    show wpAny _ _ (newExc (.type "StopIteration") [] >>= _) _ _ _
    refine wpAny_bind ?_
    simp only [newExc, newTuple]
    refine wpAny_bind (wpAny_newObj_type ?_ (by size_fits))
    refine wpAny_bind (m := firstArgMember _ _) (wpAny_of_eq (a := Value.none) (by first | rfl | (simp only [firstArgMember]; rfl)) ?_)
    refine wpAny_newObj_type ?_ (by size_fits)
    simp only [raiseNew]
    refine wpAny_bind (wpAny_handled ?_)
    rw [show (AA n).in1.handled = none from rfl]
    refine wpAny_bind (wpAny_pure (wpAny_throw ?_))
    refine wpAny_bind (wpAny_isInstance (T := "StopIteration") (b := true) ⟨_, Heap.get?_push_size _ rfl, rfl⟩ isSubtype_stop ?_)
    refine wpAny_pure ⟨_, _, rfl, p _ (fun b o hb e => ?_) ⟨_, Heap.get?_push_of_some _ (Heap.get?_push_of_some _ u3), rfl⟩⟩
    exact Heap.get?_push_of_some _ (Heap.get?_push_of_some _ (b3 b o hb (b2 b o hb (b1 b o hb e))))
  · rw [if_neg (fun e => hr e.symm)] at p
    rw [decide_eq_false hr, if_pos (by decide)]
    exact wpAny_pure ⟨_, rfl, wpAny_pure ⟨h₁, tk₁, rfl, p⟩⟩
end
end Mine
end
section
open PySem PySem.W PyProof.Rows PySem.Calls PySem.Builtin PySem.Builtin.Str
set_option maxRecDepth 100000
set_option maxHeartbeats 4000000
namespace Mine
/-- one sign of a text, or none at its end -/
noncomputable def chunk (x : Str) (p : Nat) : Str := ⟨((x.cps.toList.drop p).take 1).toArray⟩
theorem str_len (x : Str) : x.length = x.cps.toList.length := by simp [Str.length]
theorem idx_chunk (n p : Nat) (h : p ≤ n) : strSliceIndices (some (p : Int)) (some ((p : Int) + 1)) 1 n = if p < n then [p] else [] := by
  by_cases q : p < n
  · rw [if_pos q]
    have := StrLaws.strSliceIndices_plain (a := p) (b := p + 1) (len := n) (by omega) (by omega)
    rw [show p + 1 - p = 1 by omega] at this
    exact this
  · have e : p = n := by omega
    subst e
    rw [if_neg q]
    have := StrLaws.strSliceIndices_plain (a := p) (b := p) (len := p) (Nat.le_refl _) (Nat.le_refl _)
    rw [Nat.sub_self] at this
    rw [← show strSliceIndices (some (p : Int)) (some (p : Int)) 1 p = [] from this]
    unfold strSliceIndices
    have e1 : min ((p : Int) + 1) (p : Int) = (p : Int) := by omega
    have e2 : ¬ ((p : Int) + 1 < 0) := by omega
    have e3 : ¬ ((p : Int) < 0) := by omega
    simp only [show (1 : Int) > 0 by decide, if_true, e1, e2, e3, if_false, Int.min_self]
theorem slice_chunk (x : Str) (p : Nat) (h : p ≤ x.length) : Txt.slice x (some (p : Int)) (some ((p : Int) + 1)) = chunk x p := by
  unfold Txt.slice chunk
  rw [idx_chunk _ _ h]
  by_cases q : p < x.length
  · rw [if_pos q]
    have hq := q
    rw [str_len] at hq
    have hd : x.cps.toList.drop p = x.cps.toList[p] :: x.cps.toList.drop (p + 1) := (List.getElem_cons_drop hq).symm
    have hf : [p].filterMap (x.cps[·]?) = (x.cps.toList.drop p).take 1 := by
      rw [hd]
      have : x.cps[p]? = some x.cps.toList[p] := by rw [← Array.getElem?_toList, List.getElem?_eq_getElem hq]
      simp [this]
    split
    · rename_i hc
      simp only [beq_self_eq_true, Bool.true_and, beq_iff_eq, List.length_singleton] at hc
      have hp : p = 0 := by omega
      subst hp
      rw [List.drop_zero, List.take_of_length_le (by rw [← str_len]; omega)]
    · rw [hf]
  · rw [if_neg q]
    have hd : x.cps.toList.drop p = [] := List.drop_of_length_le (by rw [← str_len]; omega)
    split
    · rename_i hc
      simp only [beq_self_eq_true, Bool.true_and, beq_iff_eq, List.length_nil] at hc
      rw [hd]
      obtain ⟨c⟩ := x
      have : c.toList.length = 0 := by rw [← str_len ⟨c⟩]; exact hc.symm
      have : c.toList = [] := List.eq_nil_of_length_eq_zero this
      show (⟨c⟩ : Str) = ⟨_⟩
      congr 1
      rw [← Array.toArray_toList (xs := c), this]; rfl
    · rw [hd]; rfl
section
variable {w : World} {n : Nat} {g h : Heap} {L : Addr} {env : Env} {bs : List (Str × Value)} {ns ns' : List (Addr × As)}
theorem ev_slice_str {value lo up : Expr} {p pos : Pos} {P : Value → Heap → Prop} (e : Ev w n (eval value env) h fun o h₁ => Ev w n (eval lo env) h₁ fun vl h₂ => Ev w n (eval up env) h₂ fun vu h₃ =>
      ∃ x t i ti j tj, o = .str x t ∧ vl = .int i ti ∧ vu = .int j tj ∧ x.length ≤ 16777216 ∧ ∀ t' h₄, h₃.StaysIn h₄ → P (.str (Txt.slice x (some i) (some j)) t') h₄)
    (ht : ∀ o r, letTemporaryGo value o r = pure () := by intro _ _; rfl) : Ev w n (eval (.Subscript value (.Slice (some lo) (some up) none p) pos) env) h P := fun s tk => by
  refine wpAny_Subscript_str_slice (wpAny_mono (e s tk) (fun _ _ ⟨_, tk₁, e₁, p₁⟩ => e₁ ▸ wpAny_mono (p₁ s tk₁) (fun _ _ ⟨_, tk₂, e₂, p₂⟩ => e₂ ▸ wpAny_mono (p₂ s tk₂) (fun _ s₃ hx => ?_) fun _ _ f => f) fun _ _ f => f) fun _ _ f => f) ht
  obtain ⟨h₃, tk₃, rfl, x, t, i, ti, j, tj, rfl, rfl, rfl, hz, k⟩ := hx
  refine ⟨x, t, some (i, ti), some (j, tj), rfl, rfl, rfl, ?_⟩
  exact post_val_or_str ⟨Nat.le_trans (Txt.slice_le x _ _) (Nat.le_trans hz (by rw [sizeLine_eq]; decide)), fun t' k' => ⟨_, k', rfl, k t' _ fun b o e => Heap.get?_push_of_some _ e⟩⟩
theorem ev_slice_upto {value up : Expr} {p pos : Pos} {P : Value → Heap → Prop} (e : Ev w n (eval value env) h fun o h₁ => Ev w n (eval up env) h₁ fun vu h₂ =>
      ∃ l vs j tj g L bs ns, o = .ref l ∧ (∃ o, h₂.get? l = some o ∧ LA vs o) ∧ vu = .int ((j : Nat) : Int) tj ∧ vs.length ≤ 1000 ∧ Own g L h₂ bs ns ∧ ∀ c h₃, Own g L h₃ bs ((c, LA (vs.take j)) :: ns) → P (.ref c) h₃)
    (ht : ∀ o r, letTemporaryGo value o r = pure () := by intro _ _; rfl) : Ev w n (eval (.Subscript value (.Slice none (some up) none p) pos) env) h P := fun s tk => by
  refine wpAny_Subscript_list_slice (wpAny_mono (e s tk) (fun _ _ ⟨_, tk₁, e₁, p₁⟩ => e₁ ▸ ?_) fun _ _ f => f) ht
  rw [evalPart_none]
  refine wpAny_pure (wpAny_mono (p₁ s tk₁) (fun _ s₃ hx => ?_) fun _ _ f => f)
  obtain ⟨h₂, tk₂, rfl, l, vs, j, tj, g, L, bs, ns, rfl, hl, rfl, hz, O, k⟩ := hx
  refine ⟨l, vs.toArray, none, some ((j : Nat) : Int), rfl, isList hl, by rw [List.size_toArray]; exact Nat.le_trans hz (by decide), .none, .int _ _, ?_⟩
  have e : slicePick vs.toArray none (some ((j : Nat) : Int)) none = (vs.take j).toArray := by rw [slicePick_upto']
  have O₁ := O.stay (h' := h₂.push { cls := .type "slice", data := .fields #[.none, .int ((j : Nat) : Int) tj, .none] }) fun b o e => Heap.get?_push_of_some _ e
  have O₂ := O₁.push (o := { cls := .type "list", data := .seq (slicePick vs.toArray none (some ((j : Nat) : Int)) none) }) (φ := LA (vs.take j)) rfl ⟨0, by rw [e]⟩
  rw [Heap.size_push] at O₂
  exact ⟨_, tk₂, rfl, k _ _ O₂⟩
theorem ev_len_str {x : Str} {t : Tok} {P : Value → Heap → Prop} (hz : x.length < 2 ^ 30) (p : ∀ t', P (.int (x.length : Int) t') h) : Ev w n (call (.builtin "len") [.str x t]) h P := fun s tk =>
  PySem.P.len_str (s := { s with heap := h, toks := tk }) (by omega) ⟨h, _, rfl, p _⟩
theorem ev_iadds {x y : Str} {t u : Tok} {P : Value → Heap → Prop} (hz : x.length + y.length ≤ 16777216) (p : ∀ t', P (.str (x ++ y) t') h) : Ev w n (inplaceOp .Add (.str x t) (.str y u)) h P := fun s tk => by
  refine PySem.P.iadd_str ?_
  have hs : (16777216 : Nat) ≤ sizeLine := by rw [sizeLine_eq]; decide
  have nil : ∀ z : Str, (z.length == 0) = true → z = ⟨#[]⟩ := fun z hz' => by
    obtain ⟨c⟩ := z
    have : c.size = 0 := by simpa [Str.length] using hz'
    rw [Array.eq_empty_of_size_eq_zero this]
  split
  · rename_i e
    have e' := nil x e
    have : x ++ y = y := by subst e'; exact Str.empty_append y
    rw [this] at p
    exact ⟨h, _, rfl, p u⟩
  · split
    · rename_i e
      have e' := nil y e
      have : x ++ y = x := by subst e'; exact Str.append_empty x
      rw [this] at p
      exact ⟨h, _, rfl, p t⟩
    · exact ⟨by rw [Str.length_append]; omega, h, _, rfl, p _⟩
end
end Mine
end
section
open PySem PySem.W PyProof.Rows PySem.Calls
set_option maxRecDepth 100000
set_option maxHeartbeats 4000000
namespace Mine
/-- b is not a, and stands in h as said -/
noncomputable def Atn (a : Addr) (h : Heap) (b : Addr) (φ : As) : Prop := b ≠ a ∧ ∃ o, h.get? b = some o ∧ φ o
theorem Atn.keeps {a b : Addr} {h h' : Heap} {φ : As} (x : Atn a h b φ) (k : ∀ b o, b ≠ a → h.get? b = some o → h'.get? b = some o) : Atn a h' b φ := ⟨x.1, let ⟨o, e, z⟩ := x.2; ⟨o, k _ _ x.1 e, z⟩⟩
theorem Res.but1 {h h' : Heap} {a : Addr} {φ : As} {B : List (Addr × As)} (r : Res h [(a, φ)] h' B) : ∀ b o, b ≠ a → h.get? b = some o → h'.get? b = some o := fun b o q e => r.but b o (by simpa using q) e
theorem Hid.but1 {g₀ h g : Heap} {a : Addr} {φ : As} (H : Hid g₀ h g [(a, φ)]) : ∀ b o, b ≠ a → h.get? b = some o → g.get? b = some o := fun b o q e => H.of b o e (by simpa using q)
theorem Hid.but0 {g₀ h g : Heap} (H : Hid g₀ h g []) : h.StaysIn g := fun b o e => H.of b o e (nomatch ·)
theorem Own.res1 {g h h' : Heap} {L a : Addr} {bs : List (Str × Value)} {φ : As} {R B : List (Addr × As)} (O : Own g L h bs ((a, φ) :: R)) (r : Res h [(a, φ)] h' B) : Own g L h' bs (B ++ R) := Own.res (A := [(a, φ)]) O r
theorem Own.res0 {g h h' : Heap} {L : Addr} {bs : List (Str × Value)} {R B : List (Addr × As)} (O : Own g L h bs R) (r : Res h [] h' B) : Own g L h' bs (B ++ R) := Own.res (A := []) O r
theorem chunk_lt {x : Str} {p : Nat} {c : Nat} (e : x.cps.toList[p]? = some c) : chunk x p = ⟨#[c]⟩ := by
  obtain ⟨hp, e'⟩ := List.getElem?_eq_some_iff.mp e
  unfold chunk
  rw [← List.getElem_cons_drop hp, e']; rfl
theorem chunk_end {x : Str} {p : Nat} (e : x.length ≤ p) : chunk x p = ⟨#[]⟩ := by
  unfold chunk
  rw [List.drop_of_length_le (by rw [← str_len]; exact e)]; rfl
theorem chunk_ne {x : Str} {p k : Nat} (hx : k ∉ x.cps.toList) : (chunk x p == ⟨#[k]⟩) = false := by
  rw [beq_eq_false_iff_ne]
  intro e
  rcases Nat.lt_or_ge p x.length with h | h
  · rw [str_len] at h
    rw [chunk_lt (List.getElem?_eq_getElem h)] at e
    have : x.cps.toList[p] = k := by injection e with e; simpa using e
    exact hx (this ▸ List.getElem_mem h)
  · rw [chunk_end h] at e
    injection e with e
    simp at e
end Mine
end
section
open PySem PySem.W PyProof.Rows PySem.Calls
set_option maxRecDepth 100000
set_option maxHeartbeats 4000000
namespace Mine
theorem findObj_fn {K : Frag} {C : Addr} {od : Obj} {name : Str} {a g : Value} (hh : hasDictIn K C = true) (ha : findIn K (.ref C) name = some (some a)) (hg : specialIn K a "__get__" = some (some g)) (ht : takesIn K a = some false) (hc : copiedNames.contains name = false) (hl : lookIn name od = some none) :
    findObj K C (some od) name = some (.bind g a) := by
  obtain ⟨cd, hc', hdd⟩ := any_some hh
  unfold findObj
  have ho : PySem.W.ownOf cd (some od) name = some none := by unfold PySem.W.ownOf; rw [if_pos hdd]; exact hl
  rw [hc', Option.bind_some, ha, Option.bind_some]
  simp only [hg, ht, Option.bind_some, ho, hc, Bool.false_and, Bool.false_eq_true, if_false]
section
variable {w : World} {n : Nat} {g h : Heap} {L : Addr} {env : Env} {bs : List (Str × Value)} {ns ns' : List (Addr × As)}
theorem ev_getbound {C x dx f : Addr} {kvs : List (Str × Value)} {name : Str} {b : Bool} {P : Value → Heap → Prop} (G : Gd w g) (O : Own g L h bs ns) (hx : ∃ o, h.get? x = some o ∧ XA C dx o) (hdd : ∃ o, h.get? dx = some o ∧ DA kvs o) (hg : plainGet (hd.heap_1 w.params) C name = true) (hh : hasDictIn (hd.heap_1 w.params) C = true)
    (ha : findIn (hd.heap_1 w.params) (.ref C) name = some (some (.ref f))) (hs : specialIn (hd.heap_1 w.params) (.ref f) "__get__" = some (some (.builtin "function.__get__"))) (ht : takesIn (hd.heap_1 w.params) (.ref f) = some false) (hty : typeIn (hd.heap_1 w.params) (.ref f) = some (.type "function"))
    (hc : copiedNames.contains name = false) (hl : kvs.lookup name = none) (k : ∀ q h', Own g L h' bs ((q, MA f x) :: ns) → P (.ref q) h') : Ev w n (getAttr (.ref x) name b) h P := fun s tk => by
  obtain ⟨es, m, I, e, _⟩ := isInst hx hdd
  have X := G.K.keeps O.keep
  refine get_bind (s := { s with heap := h, toks := tk }) X I (plainGet_of hg).1 (findObj_fn hh ha hs ht hc (by rw [lookIn_dict, e.get, hl])) (plainGet_of hg).2 ?_
  refine wpAny_call (fn_get (s := { s with heap := h, toks := tk + 1 }) X hty ?_)
  show wpAny _ _ (handedOut (.ref _)) _ _ _
  exact wpAny_pure ⟨_, _, rfl, k _ _ (O.push rfl rfl)⟩
end
end Mine
end
section
open PySem PySem.Builtin.Str PySem.Builtin
namespace Mine
theorem joinE_cps (ys : List Str) : (Txt.join (Str.ofString "") ys).cps.toList = (ys.map (·.cps.toList)).flatten := by
  have e : (Str.ofString "").cps = #[] := by decide +kernel
  have key : ∀ (r : List Str) (acc : Array Nat), (r.foldl (fun acc p => acc ++ (Str.ofString "").cps ++ p.cps) acc).toList = acc.toList ++ (r.map (·.cps.toList)).flatten := by
    intro r
    induction r with
    | nil => intro acc; simp
    | cons x r ih =>
      intro acc
      rw [List.foldl_cons, ih, e]
      simp
  show ((ys.drop 1).foldl _ (ys.headD Str.empty).cps).toList = _
  rw [key]
  cases ys with
  | nil => rfl
  | cons x r => simp
/-- what the law lays for a word -/
noncomputable def pieceOf (x : Str) (m : Int) : Str := if m = 0 then x ++ Str.ofString " " else (Str.ofString "\"" ++ x) ++ Str.ofString "\""
noncomputable def piecesOf (names : List Str) (mans : List Int) (k : Nat) : List Str := (List.range k).map fun j => pieceOf (names.getD j default) (mans.getD j 0)
theorem piecesOf_succ (names : List Str) (mans : List Int) (k : Nat) : piecesOf names mans (k + 1) = piecesOf names mans k ++ [pieceOf (names.getD k default) (mans.getD k 0)] := by
  unfold piecesOf; rw [List.range_succ, List.map_append]; rfl
theorem piecesOf_take (names : List Str) (mans : List Int) {k n : Nat} (h : k ≤ n) : (piecesOf names mans n).take k = piecesOf names mans k := by
  unfold piecesOf
  rw [← List.map_take, List.take_range, Nat.min_eq_left h]
theorem piecesOf_length (names : List Str) (mans : List Int) (k : Nat) : (piecesOf names mans k).length = k := by unfold piecesOf; simp
theorem sp_cps : (Str.ofString " ").cps.toList = [32] := by decide +kernel
theorem dq_cps : (Str.ofString "\"").cps.toList = [34] := by decide +kernel
theorem pieceOf_cps (x : Str) (m : Int) : (pieceOf x m).cps.toList = if m = 0 then x.cps.toList ++ [32] else 34 :: x.cps.toList ++ [34] := by
  unfold pieceOf
  split
  · rw [Str.cps_append, Array.toList_append, sp_cps]
  · rw [Str.cps_append, Array.toList_append, Str.cps_append, Array.toList_append, dq_cps]; rfl
theorem join_split (names : List Str) (mans : List Int) {k n : Nat} (h : k < n) :
    (Txt.join (Str.ofString "") (piecesOf names mans n)).cps.toList.drop (Txt.join (Str.ofString "") (piecesOf names mans k)).cps.toList.length =
      (pieceOf (names.getD k default) (mans.getD k 0)).cps.toList ++ (((List.range' (k + 1) (n - (k + 1))).map fun j => pieceOf (names.getD j default) (mans.getD j 0)).map (·.cps.toList)).flatten := by
  have e : piecesOf names mans n = piecesOf names mans k ++ (pieceOf (names.getD k default) (mans.getD k 0) :: (List.range' (k + 1) (n - (k + 1))).map fun j => pieceOf (names.getD j default) (mans.getD j 0)) := by
    unfold piecesOf
    rw [List.range_eq_range', List.range_eq_range']
    have : List.range' 0 n = List.range' 0 k ++ k :: List.range' (k + 1) (n - (k + 1)) := by
      have h1 := List.range'_append (s := 0) (m := k) (n := n - k) (step := 1)
      rw [Nat.one_mul, Nat.zero_add] at h1
      have h2 : k + (n - k) = n := by omega
      rw [h2] at h1
      rw [← h1]
      congr 1
      rw [show n - k = (n - (k + 1)) + 1 by omega, List.range'_succ]
    rw [this, List.map_append, List.map_cons]
  rw [joinE_cps, joinE_cps, e, List.map_append, List.flatten_append, List.drop_left]
  simp
theorem pieceOf_length (x : Str) (m : Int) : (pieceOf x m).length ≤ x.length + 2 ∧ x.length + 1 ≤ (pieceOf x m).length := by
  have := congrArg List.length (pieceOf_cps x m)
  have e1 : (pieceOf x m).length = (pieceOf x m).cps.toList.length := by simp [Str.length]
  have e2 : x.length = x.cps.toList.length := by simp [Str.length]
  rw [e1, e2, this]
  split <;> simp
/-- the lines, greedily -/
noncomputable def lastD (l : List Str) : Str := l.getLastD default
noncomputable def above' (wd : Str) (l : List Str) : Bool := decide (wd.cps.toList < (lastD l).cps.toList)
noncomputable def gPlace (wd : Str) : List (List Str) → Nat
  | [] => 0
  | l :: r => if above' wd l = true then gPlace wd r + 1 else 0
noncomputable def gLay (wd : Str) (Ls : List (List Str)) : List (List Str) := if gPlace wd Ls = Ls.length then Ls ++ [[wd]] else Ls.set (gPlace wd Ls) (Ls.getD (gPlace wd Ls) [] ++ [wd])
theorem gPlace_le (wd : Str) (Ls : List (List Str)) : gPlace wd Ls ≤ Ls.length := by
  induction Ls with
  | nil => exact Nat.le_refl _
  | cons l r ih => unfold gPlace; split <;> simp <;> omega
theorem gPlace_is {wd : Str} {Ls : List (List Str)} {i : Nat} (hi : i ≤ Ls.length) (hb : ∀ j l, j < i → Ls[j]? = some l → above' wd l = true) (he : ∀ l, Ls[i]? = some l → above' wd l = false) : gPlace wd Ls = i := by
  induction Ls generalizing i with
  | nil => simp at hi; subst hi; rfl
  | cons l r ih =>
    unfold gPlace
    cases i with
    | zero => rw [if_neg (by rw [he l (by simp)]; decide)]
    | succ i =>
      rw [if_pos (hb 0 l (by omega) (by simp)), ih (by simpa using hi) (fun j m hj hm => hb (j + 1) m (by omega) (by simpa using hm)) (fun m hm => he m (by simpa using hm))]
noncomputable def gUp (names : List Str) : Nat → List Int × List (List Str)
  | 0 => ([], [])
  | k + 1 => ((gUp names k).1 ++ [((gPlace (names.getD k default) (gUp names k).2 : Nat) : Int)], gLay (names.getD k default) (gUp names k).2)
theorem gLay_length (wd : Str) (Ls : List (List Str)) : (gLay wd Ls).length ≤ Ls.length + 1 := by unfold gLay; split <;> simp
theorem gUp_length (names : List Str) (k : Nat) : (gUp names k).2.length ≤ k := by
  induction k with
  | zero => exact Nat.le_refl _
  | succ k ih => exact Nat.le_trans (gLay_length _ _) (by omega)
end Mine
end
section
open PySem PySem.Builtin.Str PySem.Builtin
namespace Mine
noncomputable def plainC (c : Nat) : Prop := c < 128 ∧ c ≠ 9 ∧ c ≠ 10 ∧ c ≠ 13 ∧ c ≠ 32 ∧ c ≠ 34 ∧ c ≠ 92
/-- words that a netrc file can bear bare -/
noncomputable def Words (names : List Str) : Prop := ∀ x ∈ names, x.length = 10 ∧ ∀ c ∈ x.cps.toList, plainC c
theorem Words.get {names : List Str} (W : Words names) {j : Nat} (h : j < names.length) : (names.getD j default).length = 10 ∧ ∀ c ∈ (names.getD j default).cps.toList, plainC c := by
  rw [List.getD_eq_getElem?_getD, List.getElem?_eq_getElem h]
  exact W _ (List.getElem_mem h)
theorem sl (x : Str) : x.cps.toList.length = x.length := by simp [Str.length]
theorem join_len {names : List Str} (W : Words names) (mans : List Int) : ∀ k, k ≤ names.length → (Txt.join (Str.ofString "") (piecesOf names mans k)).length ≤ 12 * k := by
  intro k
  induction k with
  | zero => intro _; rw [← sl, joinE_cps]; simp [piecesOf]
  | succ k ih =>
    intro hk
    have := ih (by omega)
    rw [← sl, joinE_cps] at this ⊢
    rw [piecesOf_succ, List.map_append, List.flatten_append, List.length_append]
    have h1 := (pieceOf_length (names.getD k default) (mans.getD k 0)).1
    have h2 := (W.get (j := k) (by omega)).1
    simp only [List.map_cons, List.map_nil, List.flatten_cons, List.flatten_nil, List.append_nil, sl]
    omega
theorem piece_noNl {x : Str} (h : ∀ c ∈ x.cps.toList, plainC c) (m : Int) : 10 ∉ (pieceOf x m).cps.toList := by
  rw [pieceOf_cps]
  split
  · intro q
    rcases List.mem_append.mp q with q | q
    · exact (h _ q).2.2.1 rfl
    · simp at q
  · intro q
    rcases List.mem_cons.mp q with q | q
    · simp at q
    rcases List.mem_append.mp q with q | q
    · exact (h _ q).2.2.1 rfl
    · simp at q
theorem join_noNl {names : List Str} (W : Words names) (mans : List Int) {k : Nat} (hk : k ≤ names.length) : 10 ∉ (Txt.join (Str.ofString "") (piecesOf names mans k)).cps.toList := by
  rw [joinE_cps]
  intro q
  obtain ⟨l, hl, hq⟩ := List.mem_flatten.mp q
  obtain ⟨y, hy, rfl⟩ := List.mem_map.mp hl
  unfold piecesOf at hy
  obtain ⟨j, hj, rfl⟩ := List.mem_map.mp hy
  exact piece_noNl (W.get (by have := List.mem_range.mp hj; omega)).2 _ hq
theorem pieces_sum {names : List Str} (mans : List Int) : ∀ k, ((piecesOf names mans k).map (·.length)).sum = (Txt.join (Str.ofString "") (piecesOf names mans k)).length := by
  intro k
  rw [← sl, joinE_cps]
  induction k with
  | zero => simp [piecesOf]
  | succ k ih =>
    rw [piecesOf_succ, List.map_append, List.map_append, List.flatten_append, List.length_append, List.sum_append, ih]
    simp only [List.map_cons, List.map_nil, List.flatten_cons, List.flatten_nil, List.append_nil, List.sum_cons, List.sum_nil, sl, Nat.add_zero]
/-- where the k-th piece begins -/
noncomputable def posOf (names : List Str) (mans : List Int) (k : Nat) : Nat := (Txt.join (Str.ofString "") (piecesOf names mans k)).length
theorem posOf_zero (names : List Str) (mans : List Int) : posOf names mans 0 = 0 := by
  unfold posOf; rw [← sl, joinE_cps]; simp [piecesOf]
theorem posOf_succ (names : List Str) (mans : List Int) (k : Nat) : posOf names mans (k + 1) = posOf names mans k + (pieceOf (names.getD k default) (mans.getD k 0)).length := by
  unfold posOf
  rw [← sl, ← sl, joinE_cps, joinE_cps, piecesOf_succ, List.map_append, List.flatten_append, List.length_append]
  simp only [List.map_cons, List.map_nil, List.flatten_cons, List.flatten_nil, List.append_nil, sl]
theorem posOf_le {names : List Str} {mans : List Int} {k n : Nat} (h : k ≤ n) : posOf names mans k ≤ posOf names mans n := by
  induction n with
  | zero => have : k = 0 := by omega
            subst this; exact Nat.le_refl _
  | succ n ih =>
    rcases Nat.lt_or_ge n k with q | q
    · have : k = n + 1 := by omega
      subst this; exact Nat.le_refl _
    · have := ih q
      rw [posOf_succ]; omega
/-- the text from the k-th piece on -/
theorem text_at {names : List Str} {mans : List Int} {k n : Nat} (h : k < n) :
    ∃ rest, (Txt.join (Str.ofString "") (piecesOf names mans n)).cps.toList.drop (posOf names mans k) = (if mans.getD k 0 = 0 then (names.getD k default).cps.toList ++ [32] else 34 :: (names.getD k default).cps.toList ++ [34]) ++ rest := by
  have := join_split names mans h
  rw [pieceOf_cps, sl] at this
  exact ⟨_, this⟩
theorem piece_len {x : Str} (m : Int) (hx : x.length = 10) : (pieceOf x m).length = if m = 0 then 11 else 12 := by
  rw [← sl, pieceOf_cps]
  split <;> simp only [List.length_append, List.length_cons, List.length_nil, sl, hx]
end Mine
end
section
open PySem PySem.W PyProof.Rows PySem.Calls
set_option maxRecDepth 100000
set_option maxHeartbeats 4000000
namespace Mine
section
variable {w : World} {n : Nat} {g g' h h' : Heap} {L : Addr} {env : Env} {bs : List (Str × Value)} {ns A R : List (Addr × As)}
/-- all but A becomes ground -/
theorem Own.freeze (G : Gd w g) (O : Own g L h bs (A ++ R)) : ∃ g', Gd w g' ∧ g.StaysIn g' ∧ g'.StaysIn h ∧ Own g' L h bs A ∧ ∀ b φ, (b, φ) ∈ R → ∃ o, g'.get? b = some o ∧ φ o := by
  have nd := O.nd
  rw [List.map_append, List.nodup_append] at nd
  have up : g.StaysIn (hideAll h (L :: A.map (·.1))) := fun b o e => hideAll_get _ (O.keep b o e) (fun q => by
    rcases List.mem_cons.mp q with q | q
    · rw [q, O.gL] at e; cases e
    · obtain ⟨p, hp, z⟩ := List.mem_map.mp q
      have := (O.nw p (List.mem_append_left _ hp)).2.2
      rw [z, e] at this; cases this)
  refine ⟨hideAll h (L :: A.map (·.1)), G.keeps up, up, fun b o e => of_hideAll _ e, ⟨fun b o e => of_hideAll _ e, O.fr, hideAll_none _ List.mem_cons_self, fun p hp => ?_, nd.1⟩, fun b φ hp => ?_⟩
  · obtain ⟨a, b, _⟩ := O.nw p (List.mem_append_left _ hp)
    exact ⟨a, b, hideAll_none _ (List.mem_cons_of_mem _ (List.mem_map_of_mem hp))⟩
  · obtain ⟨⟨o, a, c⟩, d, _⟩ := O.nw _ (List.mem_append_right _ hp)
    refine ⟨o, hideAll_get _ a (fun q => ?_), c⟩
    rcases List.mem_cons.mp q with q | q
    · exact d q
    · exact nd.2.2 _ q _ (List.mem_map_of_mem (f := (·.1)) hp) rfl
theorem Own.thaw (O : Own g' L h bs ns) (up : g.StaysIn g') : Own g L h bs ns := by
  have no : ∀ a, g'.get? a = none → g.get? a = none := fun a e => by
    cases q : g.get? a with
    | none => rfl
    | some o => rw [up _ _ q] at e; cases e
  exact ⟨fun b o e => O.keep b o (up b o e), O.fr, no _ O.gL, fun p hp => let ⟨a, b, c⟩ := O.nw p hp; ⟨a, b, no _ c⟩, O.nd⟩
theorem Own.extend {P c : Addr} {φ ψ : As} (O : Own g L h bs ((P, φ) :: ns)) (b : But P h h') (hc : h.objs.size ≤ c) (ho : ∃ o, h'.get? c = some o ∧ ψ o) : Own g L h' bs ((c, ψ) :: ns) := by
  have O₁ := O.drop b
  have lt : ∀ p ∈ ns, p.1 < h.objs.size := fun p hp => let ⟨⟨o, a, _⟩, _⟩ := O.nw p (.tail _ hp); Heap.lt_size a
  have gn : g.get? c = none := by
    cases q : g.get? c with
    | none => rfl
    | some o => exact absurd (Heap.lt_size (O.keep _ _ q)) (Nat.not_lt.mpr hc)
  have hL : L < h.objs.size := by obtain ⟨m, hm, _⟩ := O.fr; exact hm.lt
  refine ⟨O₁.keep, O₁.fr, O₁.gL, fun p hp => ?_, ?_⟩
  · rcases List.mem_cons.mp hp with e | hp
    · subst e; exact ⟨ho, Nat.ne_of_gt (Nat.lt_of_lt_of_le hL hc), gn⟩
    · exact O₁.nw p hp
  · rw [List.map_cons, List.nodup_cons]
    refine ⟨fun q => ?_, O₁.nd⟩
    obtain ⟨p, hp, e⟩ := List.mem_map.mp q
    have := lt p hp
    rw [e] at this
    exact absurd this (Nat.not_lt.mpr hc)
theorem Own.ne2 {a b : Addr} {φ ψ : As} (O : Own g L h bs ((a, φ) :: ns)) (hm : (b, ψ) ∈ ns) : b ≠ a := O.ne_head hm
theorem Own.g_ne {a b : Addr} {φ ψ : As} (O : Own g L h bs ns) (hm : (a, φ) ∈ ns) (e : ∃ o, g.get? b = some o ∧ ψ o) : b ≠ a := fun z => by
  obtain ⟨o, e, _⟩ := e
  rw [z, O.fresh hm] at e; cases e
end
noncomputable def CodeA (q : Str) : As := fun o => ∃ vs t, o.data = .fields vs ∧ vs[1]? = some (.str q t)
noncomputable def TabA : As := fun o => o = tabObj #[]
section
variable {w : World} {n : Nat} {g h : Heap} {L : Addr} {env : Env} {bs : List (Str × Value)} {ns : List (Addr × As)}
theorem ev_fundef_then {name : Str} {params : Arguments} {body : List Stmt} {scope : Scope} {pos : Pos} {rest : List Stmt} {P : Flow → Heap → Prop} {c T : Addr} {clos : List (Str × Addr)} (G : Gd w g) (O : Own g L h bs ((T, TabA) :: ns)) (C : CodeHd g c T)
    (hcode : env.code = .ref c) (hge0 : env.globals = mainGlobals) (hcl : closureFor scope env = pure clos) (hd0 : params.defaults = []) (hk0 : params.kw_defaults = []) (ha : annTrees params none env = [])
    (k : ∀ f c' doc pm ctv h', Own g L h' bs ((f, fun o => o = fnMade name (qualnameIn env name name) params body scope clos doc pm c' ctv) :: (c', CodeA (qualnameIn env name name)) :: ns) → Ev w n (storeName env name (.ref f)) h' fun _ h'' => Ev w n (execs rest env) h'' P) :
    Ev w n (execs (.FunctionDef name params body [] none [] scope none name pos :: rest) env) h P := ev_seq fun s tk => by
  refine nestDef_K hd0 hk0 ha ?_
  obtain ⟨p, loose, mean, mg, mb, T'⟩ := G.T
  obtain ⟨o, ho, rfl⟩ := O.at (.head _)
  have hgs := T'.g.keeps O.keep
  obtain ⟨bm, ob, b1, b2, b3, b4, b5, b6⟩ := T'.bmain
  have hgP : mainGlobals ≠ T := fun q => by
    obtain ⟨o, es, ep, e, hdd, _⟩ := hgs
    rw [q, ho] at e; cases e; cases hdd
  have hbP : bm ≠ T := fun q => by
    have e := O.keep _ _ b3
    rw [q, ho] at e; cases e; cases b4
  have hbG : bm ≠ mainGlobals := fun q => by
    obtain ⟨o, es, ep, e, hdd, _⟩ := T'.g
    rw [q, e] at b3; cases b3; rw [hdd] at b6; cases b6
  refine makeFunction_K (s := { s with heap := h, toks := tk }) (mg := mg) hcl hge0 hgs hcode (C.keeps O.keep) ho trivial rfl hgP ⟨bm, ob, b1, b2, hbG, hbP, O.keep _ _ b3, b4, b5, b6⟩ fun c' ctv doc h' tk' hx hge hlt hrec htb => ?_
  obtain ⟨c₂, oc, vs, t, e2, hoc, hdd, hv⟩ := hrec
  cases e2
  have O₁ := O.extend (h' := h') (ψ := CodeA (qualnameIn env name name)) (fun b o q e => hx b o q e) hge ⟨oc, hoc, vs, t, hdd, hv⟩
  have O₂ := O₁.push (o := fnMade name (qualnameIn env name name) params body scope clos doc ((mg "__name__").getD .none) c' ctv) (φ := fun o => o = fnMade name (qualnameIn env name name) params body scope clos doc ((mg "__name__").getD .none) c' ctv) rfl rfl
  exact (k _ _ _ _ _ _ O₂).use (s := { s with heap := h'.push (fnMade name (qualnameIn env name name) params body scope clos doc ((mg "__name__").getD .none) c' ctv), toks := tk' }) fun _ h₃ tk₃ q => ⟨h₃, tk₃, rfl, q⟩
end
/-- the lines' objects -/
structure Ln where
  x : Addr
  dx : Addr
  pb : Addr
  t1 : Tok
  t2 : Tok
  ws : List Value
end Mine
namespace Mine
/-- one of the own objects ahead -/
inductive Sel (p : Addr × As) : List (Addr × As) → List (Addr × As) → Prop
  | head {r : List (Addr × As)} : Sel p (p :: r) r
  | tail {q : Addr × As} {r r' : List (Addr × As)} : Sel p r r' → Sel p (q :: r) (q :: r')
theorem Sel.perm {p : Addr × As} {l r : List (Addr × As)} (s : Sel p l r) : (p :: r).Perm l := by
  induction s with
  | head => exact List.Perm.refl _
  | tail _ ih => exact (List.Perm.swap _ _ _).trans (ih.cons _)
theorem Own.sel {g h : Heap} {L : Addr} {bs : List (Str × Value)} {p : Addr × As} {l r : List (Addr × As)} (O : Own g L h bs l) (s : Sel p l r) : Own g L h bs (p :: r) := O.perm s.perm
theorem Own.unsel {g h : Heap} {L : Addr} {bs : List (Str × Value)} {p : Addr × As} {l r : List (Addr × As)} (O : Own g L h bs (p :: r)) (s : Sel p l r) : Own g L h bs l := O.perm s.perm.symm
end Mine
end
section
open PySem PySem.W PyProof.Rows PySem.Calls
set_option maxRecDepth 100000
set_option maxHeartbeats 4000000
namespace Mine
section
variable {w : World} {n : Nat} {h : Heap} {env : Env}
theorem ev_unary {op : UnaryOp} {x : Expr} {pos : Pos} {P : Value → Heap → Prop} (e : Ev w n (eval x env) h fun v h₁ => Ev w n (unaryOp op v) h₁ P) : Ev w n (eval (.UnaryOp op x pos) env) h P := fun s tk =>
  wpAny_UnaryOp (wpAny_mono (e s tk) (fun _ _ ⟨_, tk₁, e₁, p₁⟩ => e₁ ▸ p₁ s tk₁) fun _ _ f => f)
theorem ev_neg {a : Int} {t : Tok} {P : Value → Heap → Prop} (p : ∀ t', P (.int (-a) t') h) : Ev w n (unaryOp .USub (.int a t)) h P := fun _ _ => PyProof.Rows.neg_int ⟨h, _, rfl, p _⟩
end
noncomputable def kvL (pb : Addr) (t1 t2 : Tok) : List (Str × Value) := [(Str.ofString "lineno", .int 1 t1), (Str.ofString "instream", .none), (Str.ofString "whitespace", .str (Str.ofString "\n\t\r ") t2), (Str.ofString "pushback", .ref pb)]
noncomputable def lnA (l : Ln) : List (Addr × As) := [(l.pb, LA l.ws), (l.dx, DA (kvL l.pb l.t1 l.t2)), (l.x, XA 52 l.dx)]
noncomputable def lnsA (LS : List Ln) : List (Addr × As) := LS.flatMap lnA
theorem lnsA_x {LS : List Ln} {l : Ln} (h : l ∈ LS) : (l.x, XA 52 l.dx) ∈ lnsA LS := List.mem_flatMap.mpr ⟨l, h, .tail _ (.tail _ (.head _))⟩
theorem lnsA_dx {LS : List Ln} {l : Ln} (h : l ∈ LS) : (l.dx, DA (kvL l.pb l.t1 l.t2)) ∈ lnsA LS := List.mem_flatMap.mpr ⟨l, h, .tail _ (.head _)⟩
theorem lnsA_pb {LS : List Ln} {l : Ln} (h : l ∈ LS) : (l.pb, LA l.ws) ∈ lnsA LS := List.mem_flatMap.mpr ⟨l, h, .head _⟩
theorem lnsA_snoc (LS : List Ln) (l : Ln) : lnsA (LS ++ [l]) = lnsA LS ++ lnA l := by unfold lnsA; rw [List.flatMap_append]; simp
/-- all but the words of the j-th line -/
noncomputable def lrest (LS : List Ln) (j : Nat) (l : Ln) : List (Addr × As) := lnsA (LS.take j) ++ ((l.dx, DA (kvL l.pb l.t1 l.t2)) :: (l.x, XA 52 l.dx) :: lnsA (LS.drop (j + 1)))
theorem lns_out {LS : List Ln} {j : Nat} {l : Ln} (h : LS[j]? = some l) (F : List (Addr × As)) : ((l.pb, LA l.ws) :: (F ++ lrest LS j l)).Perm (F ++ lnsA LS) := by
  obtain ⟨hj, e⟩ := List.getElem?_eq_some_iff.mp h
  have s : LS = LS.take j ++ l :: LS.drop (j + 1) := by rw [← e, List.getElem_cons_drop hj, List.take_append_drop]
  have e1 : lnsA LS = lnsA (LS.take j) ++ ((l.pb, LA l.ws) :: ((l.dx, DA (kvL l.pb l.t1 l.t2)) :: (l.x, XA 52 l.dx) :: lnsA (LS.drop (j + 1)))) := by
    conv => lhs; rw [s]
    unfold lnsA; rw [List.flatMap_append, List.flatMap_cons]; rfl
  rw [e1]
  unfold lrest
  rw [← List.append_assoc, ← List.append_assoc]
  exact List.perm_middle.symm
theorem lns_in {LS : List Ln} {j : Nat} {l : Ln} (h : LS[j]? = some l) (ws : List Value) (F : List (Addr × As)) : (F ++ lnsA (LS.set j { l with ws := ws })).Perm ((l.pb, LA ws) :: (F ++ lrest LS j l)) := by
  obtain ⟨hj, e⟩ := List.getElem?_eq_some_iff.mp h
  have s : LS.set j { l with ws := ws } = LS.take j ++ { l with ws := ws } :: LS.drop (j + 1) := by rw [List.set_eq_take_append_cons_drop, if_pos hj]
  have e1 : lnsA (LS.set j { l with ws := ws }) = lnsA (LS.take j) ++ ((l.pb, LA ws) :: ((l.dx, DA (kvL l.pb l.t1 l.t2)) :: (l.x, XA 52 l.dx) :: lnsA (LS.drop (j + 1)))) := by
    rw [s]; unfold lnsA; rw [List.flatMap_append, List.flatMap_cons]; rfl
  rw [e1]
  unfold lrest
  rw [← List.append_assoc, ← List.append_assoc]
  exact List.perm_middle
/-- the lines' words -/
noncomputable def LnR (LS : List Ln) (Ls : List (List Str)) : Prop := LS.length = Ls.length ∧ ∀ (j : Nat) (l : Ln) (W : List Str), LS[j]? = some l → Ls[j]? = some W → Strs l.ws W
theorem LnR.nil : LnR [] [] := ⟨rfl, fun j l W h => by simp at h⟩
theorem LnR.snoc {LS : List Ln} {Ls : List (List Str)} (x : LnR LS Ls) {l : Ln} {W : List Str} (h : Strs l.ws W) : LnR (LS ++ [l]) (Ls ++ [W]) := by
  refine ⟨by rw [List.length_append, List.length_append, x.1]; rfl, fun j l' W' h1 h2 => ?_⟩
  by_cases hj : j < LS.length
  · rw [List.getElem?_append_left hj] at h1
    rw [List.getElem?_append_left (by rw [← x.1]; exact hj)] at h2
    exact x.2 j _ _ h1 h2
  · rw [List.getElem?_append_right (by omega)] at h1
    rw [List.getElem?_append_right (by rw [← x.1]; omega), ← x.1] at h2
    have : j - LS.length = 0 := by
      have := (List.getElem?_eq_some_iff.mp h1).1
      simp at this; omega
    rw [this] at h1 h2
    simp at h1 h2
    subst h1 h2; exact h
theorem LnR.set {LS : List Ln} {Ls : List (List Str)} (x : LnR LS Ls) {l : Ln} {W : List Str} (j : Nat) (h : Strs l.ws W) : LnR (LS.set j l) (Ls.set j W) := by
  refine ⟨by rw [List.length_set, List.length_set]; exact x.1, fun i l' W' h1 h2 => ?_⟩
  rw [List.getElem?_set] at h1 h2
  by_cases hij : j = i
  · subst hij
    rw [if_pos rfl] at h1 h2
    by_cases hl : j < LS.length
    · rw [if_pos hl] at h1
      rw [if_pos (by rw [← x.1]; exact hl)] at h2
      cases h1; cases h2; exact h
    · rw [if_neg hl] at h1; cases h1
  · rw [if_neg hij] at h1 h2
    exact x.2 i _ _ h1 h2
theorem Strs.last {vs : List Value} {W : List Str} (x : Strs vs W) (h : W ≠ []) {v : Value} (hv : vs[vs.length - 1]? = some v) : ∃ t, v = .str (lastD W) t := by
  obtain ⟨t, rfl⟩ := x.getD hv
  refine ⟨t, ?_⟩
  congr 1
  unfold lastD
  rw [x.length, List.getLastD_eq_getLast?, List.getLast?_eq_getElem?, List.getD_eq_getElem?_getD]
theorem Strs.take {vs : List Value} {W : List Str} (x : Strs vs W) (k : Nat) : Strs (vs.take k) (W.take k) := by
  induction x generalizing k with
  | nil => rw [List.take_nil, List.take_nil]; exact .nil
  | cons x ih => cases k with
    | zero => exact .nil
    | succ k => exact .cons (ih k)
theorem gLay_ne {wd : Str} {Ls : List (List Str)} (h : ∀ W ∈ Ls, W ≠ []) : ∀ W ∈ gLay wd Ls, W ≠ [] := by
  unfold gLay
  split
  · intro W hW
    rcases List.mem_append.mp hW with hW | hW
    · exact h W hW
    · rw [List.mem_singleton.mp hW]; simp
  · intro W hW
    rcases List.mem_or_eq_of_mem_set hW with hW | hW
    · exact h W hW
    · rw [hW]; simp
theorem gUp_ne (names : List Str) (k : Nat) : ∀ W ∈ (gUp names k).2, W ≠ [] := by
  induction k with
  | zero => intro W hW; cases hW
  | succ k ih => exact gLay_ne ih
theorem gLay_words {wd : Str} {Ls : List (List Str)} {m : Nat} (h : ∀ W ∈ Ls, W.length ≤ m) : ∀ W ∈ gLay wd Ls, W.length ≤ m + 1 := by
  unfold gLay
  split
  · intro W hW
    rcases List.mem_append.mp hW with hW | hW
    · exact Nat.le_succ_of_le (h W hW)
    · rw [List.mem_singleton.mp hW]; simp
  · rename_i hne
    intro W hW
    rcases List.mem_or_eq_of_mem_set hW with hW | hW
    · exact Nat.le_succ_of_le (h W hW)
    · rw [hW, List.length_append]
      have hlt : gPlace wd Ls < Ls.length := by have := gPlace_le wd Ls; omega
      have := h _ (List.getElem_mem hlt)
      rw [List.getD_eq_getElem?_getD, List.getElem?_eq_getElem hlt]
      simp; omega
theorem gUp_words (names : List Str) (k : Nat) : ∀ W ∈ (gUp names k).2, W.length ≤ k := by
  induction k with
  | zero => intro W hW; cases hW
  | succ k ih => exact gLay_words ih
theorem gUp_places (names : List Str) (k : Nat) : (gUp names k).1.length = k := by
  induction k with
  | zero => rfl
  | succ k ih => show ((gUp names k).1 ++ [_]).length = _; rw [List.length_append, ih]; rfl
end Mine
namespace Mine
open PySem PySem.W PyProof.Rows PySem.Calls
theorem map_set_x {LS : List Ln} {j : Nat} {l : Ln} (h : LS[j]? = some l) (ws : List Value) : (LS.set j { l with ws := ws }).map (fun l => Value.ref l.x) = LS.map fun l => Value.ref l.x := by
  obtain ⟨hj, e⟩ := List.getElem?_eq_some_iff.mp h
  apply List.ext_getElem?
  intro i
  rw [List.getElem?_map, List.getElem?_map, List.getElem?_set]
  by_cases hij : j = i
  · subst hij
    rw [if_pos rfl, if_pos hj, h]; rfl
  · rw [if_neg hij]
end Mine
end
section
open PySem PySem.W PyProof.Rows
namespace Mine
/-- the merge, plain -/
noncomputable def hI (Ls : List (List Str)) : Nat → List (List Str)
  | 0 => Ls
  | j + 1 => (hI Ls j).set j ((hI Ls j).getD j []).tail
theorem hI_length (Ls : List (List Str)) (j : Nat) : (hI Ls j).length = Ls.length := by
  induction j with
  | zero => rfl
  | succ j ih => show ((hI Ls j).set j _).length = _; rw [List.length_set, ih]
theorem hI_ge (Ls : List (List Str)) {j i : Nat} (h : j ≤ i) : (hI Ls j)[i]? = Ls[i]? := by
  induction j with
  | zero => rfl
  | succ j ih =>
    show ((hI Ls j).set j _)[i]? = _
    rw [List.getElem?_set, if_neg (by omega)]
    exact ih (by omega)
noncomputable def heads (Ls : List (List Str)) (j : Nat) : List P2 := (List.range j).map fun i => ((Ls.getD i []).headD default, (i : Int))
theorem heads_succ (Ls : List (List Str)) (j : Nat) : heads Ls (j + 1) = heads Ls j ++ [((Ls.getD j []).headD default, (j : Int))] := by
  unfold heads; rw [List.range_succ, List.map_append]; rfl
theorem heads_length (Ls : List (List Str)) (j : Nat) : (heads Ls j).length = j := by unfold heads; simp
noncomputable def mStep (xs : List P2) (Ls : List (List Str)) : List P2 × List (List Str) := match Ls.getD (xs.headD default).2.toNat [] with
  | [] => ((heappopP xs).2, Ls)
  | wd :: r => ((heapreplaceP xs (wd, (xs.headD default).2)).2, Ls.set (xs.headD default).2.toNat r)
noncomputable def mIter (Ls : List (List Str)) : Nat → List P2 × List (List Str) × List P2
  | 0 => (heapifyP (heads Ls Ls.length), hI Ls Ls.length, [])
  | i + 1 => ((mStep (mIter Ls i).1 (mIter Ls i).2.1).1, (mStep (mIter Ls i).1 (mIter Ls i).2.1).2, (mIter Ls i).2.2 ++ [(mIter Ls i).1.headD default])
theorem heappop_length (xs : List P2) : (heappopP xs).2.length = xs.length - 1 := by
  unfold heappopP
  split
  · rename_i h
    have := congrArg List.length h
    rw [List.length_dropLast] at this
    simp at this ⊢; omega
  · rename_i y r h
    have := congrArg List.length h
    rw [List.length_dropLast] at this
    dsimp only
    rw [siftup_length, List.length_set]; omega
theorem mStep_length (xs : List P2) (Ls : List (List Str)) : (mStep xs Ls).1.length ≤ xs.length ∧ (mStep xs Ls).2.length = Ls.length := by
  unfold mStep
  split
  · exact ⟨by rw [heappop_length]; omega, rfl⟩
  · exact ⟨by unfold heapreplaceP; dsimp only; rw [siftup_length, List.length_set]; exact Nat.le_refl _, by rw [List.length_set]⟩
theorem heapify_length (xs : List P2) : (heapifyP xs).length = xs.length := hpLoop_length _ _ _
theorem mIter_length (Ls : List (List Str)) (i : Nat) : (mIter Ls i).1.length ≤ Ls.length ∧ (mIter Ls i).2.1.length = Ls.length ∧ (mIter Ls i).2.2.length = i := by
  induction i with
  | zero => exact ⟨by show (heapifyP _).length ≤ _; rw [heapify_length, heads_length]; exact Nat.le_refl _, hI_length _ _, rfl⟩
  | succ i ih =>
    obtain ⟨h1, h2⟩ := mStep_length (mIter Ls i).1 (mIter Ls i).2.1
    refine ⟨Nat.le_trans h1 ih.1, by show (mStep _ _).2.length = _; rw [h2, ih.2.1], ?_⟩
    show ((mIter Ls i).2.2 ++ [_]).length = _
    rw [List.length_append, ih.2.2]; rfl
theorem heappop_fst {xs : List P2} (h : xs ≠ []) : (heappopP xs).1 = xs.headD default := by
  unfold heappopP
  cases xs with
  | nil => exact absurd rfl h
  | cons x r =>
    cases r with
    | nil => rfl
    | cons y r => rfl
end Mine
end
section
open PySem PySem.W PyProof.Rows PySem.Calls
set_option maxRecDepth 100000
set_option maxHeartbeats 4000000
namespace Mine
section
variable {w : World} {n : Nat} {h : Heap} {a b : Value} {d : PyData} {as bs : List Addr} {P : Value → Heap → Prop}
theorem ev_ne_same (hn : n < 900) (ra : Reads h a d as) (rb : Reads h b d bs) (hs : SeqAt.shaped d = true) (p : P (.bool false) h) : Ev w n (compareOp .NotEq a b) h P := fun s tk =>
  ne_dataH (s := { s with heap := h, toks := tk }) ra rb hs hs (by show 10 * n + 64 < cLine; unfold cLine; omega) (by rw [SeqAt.eqv_refl d (SeqAt.canLay_of_shaped hs)]; exact ⟨h, tk, rfl, p⟩)
theorem ev_eq_same (hn : n < 900) (ra : Reads h a d as) (rb : Reads h b d bs) (hs : SeqAt.shaped d = true) (p : P (.bool true) h) : Ev w n (compareOp .Eq a b) h P := fun s tk =>
  eq_dataH (s := { s with heap := h, toks := tk }) ra rb hs hs (by show 10 * n + 64 < cLine; unfold cLine; omega) (by rw [SeqAt.eqv_refl d (SeqAt.canLay_of_shaped hs)]; exact ⟨h, tk, rfl, p⟩)
end
section
variable {h : Heap}
theorem reads_LA {a : Addr} {vs : List Value} {ds : List PyData} {as : List Addr} (e : ∃ o, h.get? a = some o ∧ LA vs o) (r : ReadsAll h vs ds as) : Reads h (.ref a) (.list ds) (a :: as) := by
  obtain ⟨o, ho, m, rfl⟩ := e
  exact reads_list_at ho rfl rfl (by simpa using r)
theorem reads_TA {a : Addr} {vs : List Value} {ds : List PyData} {as : List Addr} (e : ∃ o, h.get? a = some o ∧ TA vs o) (r : ReadsAll h vs ds as) : Reads h (.ref a) (.tuple ds) as := by
  obtain ⟨o, ho, m, rfl⟩ := e
  exact reads_tuple_at ho rfl rfl (by simpa using r)
theorem Ints.reads {vs : List Value} {xs : List Int} (x : Ints vs xs) : ∃ as, ReadsAll h vs (xs.map PyData.int) as := by
  induction x with
  | nil => exact ⟨_, .nil⟩
  | cons _ ih => obtain ⟨as, r⟩ := ih; exact ⟨_, .cons (Reads.int _ _) r⟩
theorem Strs.reads {vs : List Value} {xs : List Str} (x : Strs vs xs) : ∃ as, ReadsAll h vs (xs.map PyData.str) as := by
  induction x with
  | nil => exact ⟨_, .nil⟩
  | cons _ ih => obtain ⟨as, r⟩ := ih; exact ⟨_, .cons (Reads.str _ _) r⟩
noncomputable def pairD (p : P2) : PyData := .tuple [.str p.1, .int p.2]
theorem Pr.reads {v : Value} {p : P2} (x : Pr h v p) : ∃ as, Reads h v (pairD p) as := by
  obtain ⟨a, t, u, rfl, e⟩ := x
  exact ⟨_, reads_TA e (.cons (Reads.str _ _) (.cons (Reads.int _ _) .nil))⟩
theorem Rs.reads {α : Type} {R : Value → α → Prop} {D : α → PyData} (hR : ∀ v p, R v p → ∃ as, Reads h v (D p) as) {vs : List Value} {ps : List α} (x : Rs R vs ps) : ∃ as, ReadsAll h vs (ps.map D) as := by
  induction vs generalizing ps with
  | nil =>
    have : ps = [] := List.eq_nil_of_length_eq_zero x.1.symm
    subst this; exact ⟨_, .nil⟩
  | cons v vs ih =>
    cases ps with
    | nil => have := x.1; simp at this
    | cons p ps =>
      obtain ⟨p', hp', r⟩ := x.2 0 v (by simp)
      simp at hp'
      subst hp'
      obtain ⟨as, q⟩ := hR v p r
      obtain ⟨bs, q'⟩ := ih (ps := ps) ⟨by have := x.1; simpa using this, fun j u hu => by simpa using x.2 (j + 1) u (by simpa using hu)⟩
      exact ⟨_, .cons q q'⟩
end
theorem UpdA.left {a : Addr} {φ : As} {l l' : List (Addr × As)} (u : UpdA a φ l l') (F : List (Addr × As)) : UpdA a φ (F ++ l) (F ++ l') := by
  induction F with
  | nil => exact u
  | cons p F ih => exact .tail ih
theorem UpdA.right {a : Addr} {φ : As} {l l' : List (Addr × As)} (u : UpdA a φ l l') (R : List (Addr × As)) : UpdA a φ (l ++ R) (l' ++ R) := by
  induction u with
  | head => exact .head
  | tail _ ih => exact .tail ih
noncomputable def pbsA (LS : List Ln) : List (Addr × As) := LS.map fun l => (l.pb, LA l.ws)
theorem pbs_upd {LS : List Ln} {j : Nat} {l : Ln} (h : LS[j]? = some l) (ws : List Value) : UpdA l.pb (LA ws) (pbsA LS) (pbsA (LS.set j { l with ws := ws })) := by
  induction LS generalizing j with
  | nil => simp at h
  | cons l' LS ih =>
    cases j with
    | zero => simp at h; subst h; exact .head
    | succ j => exact .tail (ih (by simpa using h))
theorem pbs_mem {LS : List Ln} {j : Nat} {l : Ln} (h : LS[j]? = some l) : (l.pb, LA l.ws) ∈ pbsA LS := List.mem_map.mpr ⟨l, List.mem_of_getElem? h, rfl⟩
/-- pairs that are own tuples -/
noncomputable def RT (tl : List (Addr × As)) (v : Value) (p : P2) : Prop := ∃ a t u, v = .ref a ∧ (a, TA [.str p.1 t, .int p.2 u]) ∈ tl
theorem RT.mono {tl tl' : List (Addr × As)} (k : ∀ p ∈ tl, p ∈ tl') {v : Value} {p : P2} (x : RT tl v p) : RT tl' v p := let ⟨a, t, u, e, m⟩ := x; ⟨a, t, u, e, k _ m⟩
/-- the lines' fixed objects -/
structure LnG (h : Heap) (l : Ln) : Prop where
  x : ∃ o, h.get? l.x = some o ∧ XA 52 l.dx o
  dx : ∃ o, h.get? l.dx = some o ∧ DA (kvL l.pb l.t1 l.t2) o
theorem LnG.keeps {h h' : Heap} {l : Ln} (y : LnG h l) (k : h.StaysIn h') : LnG h' l := ⟨let ⟨o, e, z⟩ := y.x; ⟨o, k _ _ e, z⟩, let ⟨o, e, z⟩ := y.dx; ⟨o, k _ _ e, z⟩⟩
theorem ne_XA_LA {h : Heap} {a b C d : Addr} {vs : List Value} (x : ∃ o, h.get? a = some o ∧ XA C d o) (y : ∃ o, h.get? b = some o ∧ LA vs o) : a ≠ b := fun e => by
  subst e
  obtain ⟨o, e1, rfl⟩ := x
  obtain ⟨o', e2, m, rfl⟩ := y
  rw [e1] at e2; cases e2
theorem ne_DA_LA {h : Heap} {a b : Addr} {kvs : List (Str × Value)} {vs : List Value} (x : ∃ o, h.get? a = some o ∧ DA kvs o) (y : ∃ o, h.get? b = some o ∧ LA vs o) : a ≠ b := fun e => by
  subst e
  obtain ⟨o, e1, es, m', rfl, _⟩ := x
  obtain ⟨o', e2, m, rfl⟩ := y
  rw [e1] at e2
  have := congrArg Obj.cls (Option.some.inj e2)
  simp at this
end Mine
namespace Mine
open PySem PySem.W PyProof.Rows PySem.Calls
noncomputable def Ln.fix (l : Ln) : Ln := { l with ws := [] }
theorem fix_set {LS : List Ln} {j : Nat} {l : Ln} (h : LS[j]? = some l) (ws : List Value) : (LS.set j { l with ws := ws }).map Ln.fix = LS.map Ln.fix := by
  obtain ⟨hj, e⟩ := List.getElem?_eq_some_iff.mp h
  apply List.ext_getElem?
  intro i
  rw [List.getElem?_map, List.getElem?_map, List.getElem?_set]
  by_cases hij : j = i
  · subst hij
    rw [if_pos rfl, if_pos hj, h]; rfl
  · rw [if_neg hij]
theorem fix_x {LS LS' : List Ln} (h : LS'.map Ln.fix = LS.map Ln.fix) : LS'.map (fun l => Value.ref l.x) = LS.map fun l => Value.ref l.x := by
  have e : ∀ L : List Ln, L.map (fun l => Value.ref l.x) = (L.map Ln.fix).map fun l => Value.ref l.x := fun L => by rw [List.map_map]; rfl
  rw [e, h, ← e]
theorem fix_len {LS LS' : List Ln} (h : LS'.map Ln.fix = LS.map Ln.fix) : LS'.length = LS.length := by
  have := congrArg List.length h; simpa using this
theorem fix_G {LS LS' : List Ln} {g : Heap} (h : LS'.map Ln.fix = LS.map Ln.fix) (k : ∀ l ∈ LS, LnG g l) : ∀ l ∈ LS', LnG g l := fun l hl => by
  have : Ln.fix l ∈ LS.map Ln.fix := h ▸ List.mem_map_of_mem hl
  obtain ⟨l₀, h0, e⟩ := List.mem_map.mp this
  have g0 := k l₀ h0
  obtain ⟨x, dx, pb, t1, t2, ws⟩ := l
  obtain ⟨x', dx', pb', t1', t2', ws'⟩ := l₀
  simp only [Ln.fix, Ln.mk.injEq] at e
  obtain ⟨rfl, rfl, rfl, rfl, rfl, _⟩ := e
  exact ⟨g0.x, g0.dx⟩
theorem Strs.cons_of {vs : List Value} {x : Str} {W : List Str} (s : Strs vs (x :: W)) : ∃ t us, vs = .str x t :: us ∧ Strs us W := by
  cases s with | cons s => exact ⟨_, _, rfl, s⟩
theorem RT.snoc {tl : List (Addr × As)} {vs : List Value} {ps : List P2} (x : Rs (RT tl) vs ps) {a : Addr} {p : P2} {t u : Tok} : Rs (RT ((a, TA [.str p.1 t, .int p.2 u]) :: tl)) (vs ++ [.ref a]) (ps ++ [p]) :=
  (x.mono fun _ _ r => r.mono fun _ m => .tail _ m).snoc ⟨a, t, u, rfl, .head _⟩
end Mine
end
section
open PySem PySem.W PyProof.Rows
namespace Mine
/-- the sort's questions, answered by lt -/
noncomputable def okT (N : Nat) (lt : Nat → Nat → Bool) {α : Type} : KasT α → (α → Prop) → Prop
  | .ret a, Q => Q a
  | .ask i j k, Q => i < N ∧ j < N ∧ okT N lt (k (lt i j)) Q
section
variable {N : Nat} {lt : Nat → Nat → Bool}
theorem okT_bind {α β : Type} {f : α → KasT β} {Q : β → Prop} : ∀ t : KasT α, okT N lt t (fun a => okT N lt (f a) Q) → okT N lt (t.bind f) Q
  | .ret _, h => h
  | .ask _ _ k, h => ⟨h.1, h.2.1, okT_bind (k _) h.2.2⟩
theorem okT_mono {α : Type} {Q Q' : α → Prop} (hq : ∀ a, Q a → Q' a) : ∀ t : KasT α, okT N lt t Q → okT N lt t Q'
  | .ret _, h => hq _ h
  | .ask _ _ k, h => ⟨h.1, h.2.1, okT_mono hq (k _) h.2.2⟩
theorem okT_wp {α : Type} {cmp : Nat → Nat → (Bool → Shared → Prop) → Shared → Prop} {s : Shared} (hc : ∀ i j C, i < N → j < N → C (lt i j) s → cmp i j C s) {Q : α → Prop} {R : α → Shared → Prop} (hq : ∀ a, Q a → R a s) : ∀ t : KasT α, okT N lt t Q → t.kasWp cmp R s
  | .ret _, h => hq _ h
  | .ask _ _ k, h => hc _ _ _ h.1 h.2.1 (okT_wp hc hq (k _) h.2.2)
structure LtOk (N : Nat) (lt : Nat → Nat → Bool) : Prop where
  tot : ∀ i j, i < N → j < N → i ≠ j → lt i j = false → lt j i = true
  asym : ∀ i j, lt i j = true → lt j i = false
  trans : ∀ i j k, lt i j = true → lt j k = true → lt i k = true
noncomputable def PermA (N : Nat) (p : Array Nat) : Prop := p.toList.Perm (List.range N)
noncomputable def gA (p : Array Nat) (i : Nat) : Nat := p.getD i 0
theorem gA_get {p : Array Nat} {i : Nat} (h : i < p.size) : p[i]? = some (gA p i) := by
  unfold gA; rw [Array.getElem?_eq_getElem h]; simp [Array.getD, h]
theorem gA_of {p q : Array Nat} {i j : Nat} (h : p[i]? = q[j]?) : gA p i = gA q j := by
  unfold gA; rw [Array.getD_eq_getD_getElem?, Array.getD_eq_getD_getElem?, h]
theorem PermA.size {p : Array Nat} (x : PermA N p) : p.size = N := by have := x.length_eq; simpa using this
theorem PermA.inN {p : Array Nat} (x : PermA N p) {i : Nat} (h : i < N) : gA p i < N := by
  have e := gA_get (p := p) (i := i) (by rw [x.size]; exact h)
  have : gA p i ∈ p.toList := Array.mem_toList_iff.mpr (Array.mem_of_getElem? e)
  exact List.mem_range.mp (x.mem_iff.mp this)
theorem PermA.ne {p : Array Nat} (x : PermA N p) {i j : Nat} (hi : i < N) (hj : j < N) (h : i ≠ j) : gA p i ≠ gA p j := fun e => by
  have nd : p.toList.Nodup := x.nodup_iff.mpr List.nodup_range
  have e1 := gA_get (p := p) (i := i) (by rw [x.size]; exact hi)
  have e2 := gA_get (p := p) (i := j) (by rw [x.size]; exact hj)
  rw [e, ← e2, ← Array.getElem?_toList, ← Array.getElem?_toList] at e1
  exact h ((List.getElem?_inj (by rw [Array.length_toList, x.size]; exact hi) nd).mp e1)
noncomputable def AscA (lt : Nat → Nat → Bool) (p : Array Nat) (m : Nat) : Prop := ∀ i j, i < j → j < m → lt (gA p i) (gA p j) = true
noncomputable def DescA (lt : Nat → Nat → Bool) (p : Array Nat) (m : Nat) : Prop := ∀ i j, i < j → j < m → lt (gA p j) (gA p i) = true
theorem asc_ok (K : LtOk N lt) {p : Array Nat} (x : PermA N p) : ∀ f n, 1 ≤ n → n + f ≤ N → AscA lt p n → okT N lt (kas_asc p f n) fun m => n ≤ m ∧ m ≤ n + f ∧ AscA lt p m ∧ (m < n + f → lt (gA p m) (gA p (m - 1)) = true)
  | 0, n, h1, h2, a => ⟨Nat.le_refl _, Nat.le_refl _, a, fun q => absurd q (Nat.lt_irrefl _)⟩
  | f + 1, n, h1, h2, a => by
    refine ⟨x.inN (by omega), x.inN (by omega), ?_⟩
    show okT N lt (if lt (gA p n) (gA p (n - 1)) = true then KasT.ret n else kas_asc p f (n + 1)) _
    by_cases c : lt (gA p n) (gA p (n - 1)) = true
    · rw [if_pos c]
      exact ⟨Nat.le_refl _, by omega, a, fun _ => c⟩
    · rw [if_neg c]
      have c' := K.tot _ _ (x.inN (by omega)) (x.inN (by omega)) (x.ne (i := n) (j := n - 1) (by omega) (by omega) (by omega)) (by simpa using c)
      refine okT_mono (fun m ⟨q1, q2, q3, q4⟩ => ⟨by omega, by omega, q3, fun z => q4 (by omega)⟩) _ (asc_ok K x f (n + 1) (by omega) (by omega) fun i j hij hj => ?_)
      by_cases hjn : j = n
      · subst hjn
        by_cases hi : i = j - 1
        · subst hi; exact c'
        · exact K.trans _ _ _ (a i (j - 1) (by omega) (by omega)) c'
      · exact a i j hij (by omega)
theorem desc_ok (K : LtOk N lt) {p : Array Nat} (x : PermA N p) : ∀ f n, 1 ≤ n → n + f ≤ N → DescA lt p n → okT N lt (kas_desc f p n 0) fun r => r.1 = p ∧ r.2.2 = 0 ∧ n ≤ r.2.1 ∧ r.2.1 ≤ n + f ∧ DescA lt p r.2.1
  | 0, n, h1, h2, a => ⟨rfl, rfl, Nat.le_refl _, Nat.le_refl _, a⟩
  | f + 1, n, h1, h2, a => by
    refine ⟨x.inN (by omega), x.inN (by omega), ?_⟩
    by_cases c : lt (gA p n) (gA p (n - 1)) = true
    · rw [show lt (p.getD n 0) (p.getD (n - 1) 0) = true from c]
      show okT N lt (kas_desc f p (n + 1) 0) _
      refine okT_mono (fun r ⟨q1, q2, q3, q4, q5⟩ => ⟨q1, q2, by omega, by omega, q5⟩) _ (desc_ok K x f (n + 1) (by omega) (by omega) fun i j hij hj => ?_)
      by_cases hjn : j = n
      · subst hjn
        by_cases hi : i = j - 1
        · subst hi; exact c
        · exact K.trans _ _ _ c (a i (j - 1) (by omega) (by omega))
      · exact a i j hij (by omega)
    · have c' := K.tot _ _ (x.inN (by omega)) (x.inN (by omega)) (x.ne (i := n) (j := n - 1) (by omega) (by omega) (by omega)) (by simpa using c)
      rw [show lt (p.getD n 0) (p.getD (n - 1) 0) = false from Bool.eq_false_iff.mpr c]
      refine ⟨x.inN (by omega), x.inN (by omega), ?_⟩
      rw [show lt (p.getD (n - 1) 0) (p.getD n 0) = true from c']
      exact ⟨rfl, rfl, Nat.le_refl _, Nat.le_add_right _ _, a⟩
theorem PermA.rev {p : Array Nat} (x : PermA N p) (i j : Nat) : PermA N (kas_rev p i j) := (Array.Perm.toList (mirror_perm p i j _)).trans x
theorem tail3_ok (K : LtOk N lt) {p : Array Nat} (x : PermA N p) {n : Nat} (h1 : 1 ≤ n) (h2 : n ≤ N) (d : DescA lt p n) : okT N lt (kas_tail3 n N p) fun r => PermA N r.2 ∧ AscA lt r.2 r.1 ∧ 1 ≤ r.1 ∧ r.1 ≤ N := by
  have hr : ∀ i, i < n → gA (kas_rev p 0 n) i = gA p (n - 1 - i) := fun i hi => by
    refine gA_of ?_
    show (mirror p 0 n ((n - 0) / 2))[i]? = _
    rw [getElem?_mirror_all (by rw [x.size]; exact h2), if_pos ⟨Nat.zero_le _, hi⟩, Nat.zero_add]
  refine okT_bind _ (okT_mono (fun m ⟨q1, q2, q3, _⟩ => ⟨x.rev 0 n, q3, by omega, by omega⟩) _ (asc_ok K (x.rev 0 n) (N - n) n h1 (by omega) fun i j hij hj => ?_))
  rw [hr i (by omega), hr j hj]
  exact d _ _ (by omega) (by omega)
theorem count_ok (K : LtOk N lt) {p : Array Nat} (x : PermA N p) (hN : 2 ≤ N) : okT N lt (kas_count N p) fun r => PermA N r.2 ∧ AscA lt r.2 r.1 ∧ 1 ≤ r.1 ∧ r.1 ≤ N := by
  refine okT_bind _ (okT_mono (fun n ⟨q1, q2, q3, q4⟩ => ?_) _ (asc_ok K x (N - 1) 1 (Nat.le_refl _) (by omega) fun i j _ hj => by omega))
  by_cases e : (n == N) = true
  · rw [if_pos e]
    exact ⟨x, q3, q1, by omega⟩
  · rw [if_neg e]
    have hne : n ≠ N := fun q => e (by rw [q]; exact beq_self_eq_true _)
    by_cases h : n > 1
    · rw [if_pos h]
      refine ⟨x.inN (by omega), x.inN (by omega), ?_⟩
      rw [show lt (p.getD 0 0) (p.getD (n - 1) 0) = true from q3 0 (n - 1) (by omega) (by omega)]
      exact ⟨x, q3, q1, by omega⟩
    · rw [if_neg h]
      have hn1 : n = 1 := by omega
      subst hn1
      have c := q4 (by omega)
      refine okT_bind _ (okT_mono (fun r ⟨r1, r2, r3, r4, r5⟩ => ?_) _ (desc_ok K x (N - (1 + 1)) (1 + 1) (by omega) (by omega) fun i j hij hj => ?_))
      · have : i = 0 ∧ j = 1 := by omega
        rw [this.1, this.2]
        exact c
      · rw [if_neg (by omega), r1]
        exact tail3_ok K x (by omega) (by omega) r5
theorem place_ok (K : LtOk N lt) {p : Array Nat} (x : PermA N p) {k : Nat} (hk : k < N) (a : AscA lt p k) : ∀ f l r, r ≤ l + f → l ≤ r → r ≤ k → (∀ i, i < l → lt (gA p i) (gA p k) = true) → (∀ i, r ≤ i → i < k → lt (gA p k) (gA p i) = true) →
    okT N lt (kas_place p k f l r) fun m => m ≤ k ∧ (∀ i, i < m → lt (gA p i) (gA p k) = true) ∧ ∀ i, m ≤ i → i < k → lt (gA p k) (gA p i) = true
  | 0, l, r, h0, h1, h2, b1, b2 => ⟨by omega, b1, fun i hi hk => b2 i (by omega) hk⟩
  | f + 1, l, r, h0, h1, h2, b1, b2 => by
    show okT N lt (if l ≥ r then KasT.ret l else _) _
    by_cases c : l ≥ r
    · rw [if_pos c]
      exact ⟨by omega, b1, fun i hi hk => b2 i (by omega) hk⟩
    · rw [if_neg c]
      have hm : (l + r) / 2 < r := by omega
      refine ⟨x.inN hk, x.inN (by omega), ?_⟩
      show okT N lt (if lt (gA p k) (gA p ((l + r) / 2)) = true then _ else _) _
      by_cases d : lt (gA p k) (gA p ((l + r) / 2)) = true
      · rw [if_pos d]
        refine place_ok K x hk a f l ((l + r) / 2) (by omega) (by omega) (by omega) b1 fun i hi hik => ?_
        by_cases e : i = (l + r) / 2
        · rw [e]; exact d
        · exact K.trans _ _ _ d (a _ _ (by omega) hik)
      · rw [if_neg d]
        have d' := K.tot _ _ (x.inN hk) (x.inN (by omega)) (x.ne (i := k) (j := (l + r) / 2) hk (by omega) (by omega)) (by simpa using d)
        refine place_ok K x hk a f ((l + r) / 2 + 1) r (by omega) (by omega) h2 (fun i hi => ?_) b2
        by_cases e : i = (l + r) / 2
        · rw [e]; exact d'
        · exact K.trans _ _ _ (a i ((l + r) / 2) (by omega) (by omega)) d'
theorem bin_ok (K : LtOk N lt) : ∀ f (p : Array Nat) k, PermA N p → k + f = N → AscA lt p k → okT N lt (kas_bin f p k) fun q => PermA N q ∧ AscA lt q N
  | 0, p, k, x, h, a => by
    have : k = N := by omega
    subst this; exact ⟨x, a⟩
  | f + 1, p, k, x, h, a => by
    refine okT_bind _ (okT_mono (fun l ⟨h1, h2, h3⟩ => ?_) _ (place_ok K x (by omega) a k 0 k (by omega) (by omega) (Nat.le_refl _) (fun i hi => by omega) (fun i hi hk => by omega)))
    have hs := x.size
    have b : ∀ i, gA (bubble p k (k - l)) i = if i = l then gA p k else if l < i ∧ i ≤ k then gA p (i - 1) else gA p i := fun i => by
      have := getElem?_bubble (xs := p) (src := k) (by omega) (k - l) (by omega) i
      rw [show k - (k - l) = l by omega] at this
      split
      · rename_i q; rw [if_pos q] at this; exact gA_of this
      · rename_i q; rw [if_neg q] at this
        split
        · rename_i q'; rw [if_pos q'] at this; exact gA_of this
        · rename_i q'; rw [if_neg q'] at this; exact gA_of this
    refine bin_ok K f _ (k + 1) ((Array.Perm.toList (bubble_perm p k _)).trans x) (by omega) fun i j hij hj => ?_
    rw [b i, b j]
    by_cases e1 : i = l
    · rw [if_pos e1, if_neg (by omega), if_pos (by omega)]
      exact h3 _ (by omega) (by omega)
    · rw [if_neg e1]
      by_cases e2 : j = l
      · rw [if_pos e2, if_neg (by omega)]
        exact h2 _ (by omega)
      · rw [if_neg e2]
        by_cases c1 : l < i
        · rw [if_pos (by omega), if_pos (by omega)]
          exact a _ _ (by omega) (by omega)
        · rw [if_neg (by omega)]
          by_cases c2 : l < j
          · rw [if_pos (by omega)]
            exact a _ _ (by omega) (by omega)
          · rw [if_neg (by omega)]
            exact a _ _ (by omega) (by omega)
theorem sort_ok (K : LtOk N lt) (hN : 2 ≤ N) : okT N lt (kas_sort N) fun p => PermA N p ∧ AscA lt p N := by
  refine okT_bind _ (okT_mono (fun r ⟨h1, h2, h3, h4⟩ => ?_) _ (count_ok K (p := List.toArray (List.range N)) (List.Perm.refl _) hN))
  by_cases c : r.1 < N
  · rw [if_pos c, show max r.1 1 = r.1 by omega]
    exact bin_ok K _ _ _ h1 (by omega) h2
  · rw [if_neg c]
    have : r.1 = N := by omega
    exact ⟨h1, this ▸ h2⟩
end
end Mine
end
section
open PySem PySem.W PyProof.Rows PySem.Calls
set_option maxRecDepth 100000
set_option maxHeartbeats 4000000
namespace Mine
noncomputable abbrev T3 := Int × Int × Int
noncomputable def Tri (h : Heap) (v : Value) (p : T3) : Prop := ∃ x t u s, v = .ref x ∧ ∃ o, h.get? x = some o ∧ TA [.int p.1 t, .int p.2.1 u, .int p.2.2 s] o
noncomputable def triLt (p q : T3) : Bool := if p.1 == q.1 then (if p.2.1 == q.2.1 then (if p.2.2 == q.2.2 then false else decide (p.2.2 < q.2.2)) else decide (p.2.1 < q.2.1)) else decide (p.1 < q.1)
theorem katTups_of {h : Heap} {vs : List Value} {ts : List T3} (x : Rs (Tri h) vs ts) : ∃ fs, KatTups h vs fs ∧ fs.length = ts.length ∧ ∀ v ∈ fs, ∃ a t, v = .int a t := by
  induction vs generalizing ts with
  | nil =>
    have : ts = [] := List.eq_nil_of_length_eq_zero x.1.symm
    subst this; exact ⟨[], KatTups.nil, rfl, fun _ h => nomatch h⟩
  | cons v vs ih =>
    cases ts with
    | nil => have := x.1; simp at this
    | cons p ts =>
      obtain ⟨p', hp', r⟩ := x.2 0 v (by simp)
      simp at hp'
      subst hp'
      obtain ⟨fs, a1, a2, a3⟩ := ih (ts := ts) ⟨by have := x.1; simpa using this, fun j u hu => by simpa using x.2 (j + 1) u (by simpa using hu)⟩
      obtain ⟨a, t, u, s, rfl, o, ho, m, rfl⟩ := r
      refine ⟨.int p.1 t :: fs, KatTups.cons ho rfl rfl (by simp) a1, by simp [a2], fun v hv => ?_⟩
      rcases List.mem_cons.mp hv with rfl | hv
      · exact ⟨_, _, rfl⟩
      · exact a3 v hv
section
variable {w : World} {n : Nat} {g h : Heap} {L : Addr} {bs : List (Str × Value)} {ns : List (Addr × As)} {P : Value → Heap → Prop}
theorem tri_ask {A : Around} {s : Shared} {v u : Value} {p q : T3} {C : Bool → Shared → Prop} (hv : Tri s.heap v p) (hu : Tri s.heap u q) (k : C (triLt p q) s) : wpAny (Mw w) A (keyLt' (tuples' true) v u) C (fun _ _ => False) s := by
  obtain ⟨a, t1, t2, t3, rfl, o, ho, m, rfl⟩ := hv
  obtain ⟨b, u1, u2, u3, rfl, o', ho', m', rfl⟩ := hu
  refine kat_lt ho rfl ho' rfl ?_
  show KatLex _ _ _ _ _ _ [(.int p.1 t1, .int q.1 u1), (.int p.2.1 t2, .int q.2.1 u2), (.int p.2.2 t3, .int q.2.2 u3)] 0 s
  unfold triLt at k
  refine kat_cons (wpAny_eqBool_int (kat_go (fun e => ?_) fun e => ?_))
  · rw [e, if_pos rfl] at k
    refine kat_yes (kat_cons (wpAny_eqBool_int (kat_go (fun e => ?_) fun e => ?_)))
    · rw [e, if_pos rfl] at k
      refine kat_yes (kat_cons (wpAny_eqBool_int (kat_go (fun e => ?_) fun e => ?_)))
      · rw [e, if_pos rfl] at k
        exact kat_yes (kat_nil k)
      · rw [e, if_neg (by decide)] at k
        exact kat_no (kat_one _ _ (lt_int (show PySem.W.BoolBack C (.bool _) _ from k)))
    · rw [e, if_neg (by decide)] at k
      exact kat_no (kat_one _ _ (lt_int (show PySem.W.BoolBack C (.bool _) _ from k)))
  · rw [e, if_neg (by decide)] at k
    exact kat_no (oneLt_int k)
theorem Rs.getD_tri {R : Value → T3 → Prop} {vs : List Value} {ts : List T3} (x : Rs R vs ts) {i : Nat} (hi : i < ts.length) : R (vs.getD i .none) (ts.getD i default) := by
  have hv : i < vs.length := by rw [x.1]; exact hi
  obtain ⟨p, hp, r⟩ := x.2 i _ (List.getElem?_eq_getElem hv)
  rw [List.getD_eq_getElem?_getD, List.getD_eq_getElem?_getD, hp, List.getElem?_eq_getElem hv]
  exact r
noncomputable def allNews (h : Heap) (L : Addr) : List (Addr × Obj) := (List.range h.objs.size).filterMap fun b => if b = L then none else (h.get? b).map fun o => (b, o)
theorem allNews_mem {h : Heap} {L b : Addr} {o : Obj} : (b, o) ∈ allNews h L ↔ b ≠ L ∧ h.get? b = some o := by
  unfold allNews
  rw [List.mem_filterMap]
  constructor
  · rintro ⟨c, hc, e⟩
    by_cases q : c = L
    · rw [if_pos q] at e; cases e
    · rw [if_neg q] at e
      cases hx : h.get? c with
      | none => rw [hx] at e; cases e
      | some o' =>
        rw [hx] at e
        simp at e
        obtain ⟨rfl, rfl⟩ := e
        exact ⟨q, hx⟩
  · rintro ⟨hb, e⟩
    exact ⟨b, List.mem_range.mpr (Heap.lt_size e), by rw [if_neg hb, e]; rfl⟩
theorem ev_sorted {l : Addr} {vs : List Value} {ts : List T3} (O : Own g L h bs ns) (hl : ∃ o, h.get? l = some o ∧ LA vs o) (ht : Rs (Tri h) vs ts) (h2 : 2 ≤ ts.length) (h64 : ts.length < 64) (hK : LtOk ts.length fun i j => triLt (ts.getD i default) (ts.getD j default))
    (k : ∀ D p h', PermA ts.length p → AscA (fun i j => triLt (ts.getD i default) (ts.getD j default)) p ts.length → But L h h' → Own g L h' bs ((D, LA (p.toList.map fun i => vs.getD i .none)) :: ns) → P (.ref D) h') : Ev w n (call (.builtin "sorted") [.ref l]) h P := fun s tk => by
  obtain ⟨m, hm, hbs⟩ := O.fr
  have hvl : vs.length = ts.length := ht.1
  have hd0 : ∀ b, ({} : Heap).get? b = none := fun b => Heap.get?_none_of_le (Nat.zero_le b)
  have F : Fr ({} : Heap) L h m := ⟨hm, fun b o e => (by rw [hd0] at e; cases e), Nat.zero_le _⟩
  have N : News ({} : Heap) L h (allNews h L) := fun p hp => by
    obtain ⟨a, b⟩ := allNews_mem.mp (show (p.1, p.2) ∈ allNews h L from hp)
    exact ⟨b, a, hd0 _⟩
  refine kat_sorted (s := { s with heap := h, toks := tk }) F N (isList hl) (by omega) (by omega) fun D e1 h' F' N' lD => ?_
  have up : But L h h' := fun b o hb e => (N' (b, o) (.tail _ (allNews_mem.mpr ⟨hb, e⟩))).1
  have ht' : Rs (Tri h') vs ts := ht.mono fun v p ⟨x, t, u, s, e, o, ho, z⟩ => ⟨x, t, u, s, e, o, up _ _ (fun q => by
    subst q
    obtain ⟨oL, z1, z2, z3, z4, _⟩ := hm
    obtain ⟨m', rfl⟩ := z
    rw [z3] at ho; cases ho
    cases z4) ho, z⟩
  obtain ⟨fs, q1, q2, q3⟩ := katTups_of ht'
  refine kat_kind (T := .type "int") q1 (by omega) (fun v hv => ?_) (by decide) ?_
  · obtain ⟨a, t, rfl⟩ := q3 v hv
    exact Looks.now
  rw [hvl]
  refine okT_wp (lt := fun i j => triLt (ts.getD i default) (ts.getD j default)) (fun i j C hi hj hC => ?_) (fun p hp => ?_) _ (sort_ok hK h2)
  · exact tri_ask (ht'.getD_tri hi) (ht'.getD_tri hj) hC
  · refine KasFin.intro F' N' (.head fun q hq => Nat.ne_of_lt (lD q hq)) fun h'' c F'' N'' => ?_
    have up2 : But L h h'' := fun b o hb e => (N'' (b, o) (.tail _ (allNews_mem.mpr ⟨hb, e⟩))).1
    have hD := N'' _ (.head _)
    have hDn : h.get? D = none := by
      cases e : h.get? D with
      | none => rfl
      | some o => exact absurd (lD (D, o) (allNews_mem.mpr ⟨hD.2.1, e⟩)) (Nat.lt_irrefl _)
    have hgD : g.get? D = none := by
      cases e : g.get? D with
      | none => rfl
      | some o => rw [O.keep _ _ e] at hDn; cases hDn
    refine ⟨h'', _, rfl, k D p h'' hp.1 hp.2 up2 ⟨fun b o e => up2 b o (fun q => by rw [q, O.gL] at e; cases e) (O.keep b o e), ⟨m, F''.ns, hbs⟩, O.gL, fun q hq => ?_, ?_⟩⟩
    · rcases List.mem_cons.mp hq with rfl | hq
      · exact ⟨⟨_, hD.1, _, rfl⟩, hD.2.1, hgD⟩
      · obtain ⟨⟨o, a, b⟩, c, d⟩ := O.nw q hq
        exact ⟨⟨o, up2 _ _ c a, b⟩, c, d⟩
    · rw [List.map_cons, List.nodup_cons]
      refine ⟨fun q => ?_, O.nd⟩
      obtain ⟨r, hr, e⟩ := List.mem_map.mp q
      obtain ⟨⟨o, a, b⟩, _⟩ := O.nw r hr
      rw [show r.1 = D from e, hDn] at a; cases a
end
end Mine
end
section
open PySem PySem.W PyProof.Rows PySem.Calls
set_option maxRecDepth 100000
set_option maxHeartbeats 4000000
namespace Mine
section
variable {w : World} {n : Nat} {g h : Heap} {L : Addr} {env : Env} {bs : List (Str × Value)} {A R : List (Addr × As)} {P : Flow → Heap → Prop}
theorem ev_assign_tup {elts : List Expr} {k : Nat} {tpos pos : Pos} {value : Expr} (e : Ev w n (eval value env) h fun v h₁ => Ev w n (assign (.Tuple elts k tpos) env v) h₁ fun _ h₂ => P .next h₂)
    (hs : swapsWithSole [.Tuple elts k tpos] value pos.line env = pure false := by rfl) (hw : swappedStores [.Tuple elts k tpos] value env = pure none := by rfl) :
    Ev w n (exec (.Assign [.Tuple elts k tpos] value pos) env) h P := fun s tk =>
  Assign_Tuple (wpAny_mono (e s tk) (fun _ _ ⟨_, tk₁, e₁, p₁⟩ => e₁ ▸ p₁ s tk₁) fun _ _ f => f) hs hw
theorem ev_assign_tup_then {elts : List Expr} {k : Nat} {tpos pos : Pos} {value : Expr} {rest : List Stmt} (e : Ev w n (eval value env) h fun v h₁ => Ev w n (assign (.Tuple elts k tpos) env v) h₁ fun _ h₂ => Ev w n (execs rest env) h₂ P)
    (hs : swapsWithSole [.Tuple elts k tpos] value pos.line env = pure false := by rfl) (hw : swappedStores [.Tuple elts k tpos] value env = pure none := by rfl) :
    Ev w n (execs (.Assign [.Tuple elts k tpos] value pos :: rest) env) h P := ev_seq (ev_assign_tup e hs hw)
theorem ev_assign_trip {x y z : Str} {px py pz pos : Pos} {c : Nat} {T : Addr} {a b d : Value} {Q : Unit → Heap → Prop} (hT : ∃ o, h.get? T = some o ∧ TA [a, b, d] o)
    (k : ∀ h', But h.objs.size h h' → Ev w n (storeName env x a) h' fun _ h₁ => Ev w n (storeName env y b) h₁ fun _ h₂ => Ev w n (storeName env z d) h₂ Q) : Ev w n (assign (.Tuple [.Name x px, .Name y py, .Name z pz] c pos) env (.ref T)) h Q := by
  intro s tk
  refine wpAny_assign_Tuple (items := #[a, b, d]) rfl (isTuple hT) rfl rfl fun h' hb => ?_
  show wpAny _ _ (assignInOrder [assign (.Name x px) env, assign (.Name y py) env, assign (.Name z pz) env] [a, b, d]) _ _ _
  exact wpAny_assignInOrder_more (wpAny_assign_Name ((k h' hb).use (s := { s with heap := h', toks := tk }) fun _ h₁ tk₁ p => wpAny_assignInOrder_more (wpAny_assign_Name (p.use (s := { s with heap := h₁, toks := tk₁ }) fun _ h₂ tk₂ q =>
    wpAny_assignInOrder_more (wpAny_assign_Name (q.use (s := { s with heap := h₂, toks := tk₂ }) fun _ h₃ tk₃ r => wpAny_assignInOrder_none ⟨h₃, tk₃, rfl, r⟩))))))
theorem ev_letgo {elts : List Expr} {c : Nat} {pos : Pos} {I l T : Addr} {i : Nat} {Q : Unit → Heap → Prop} (hI : ∃ o, h.get? I = some o ∧ LI l i o) (p : Q () h) : Ev w n (letOwnedTupleGo (.Tuple elts c pos) (.ref I) (.ref T)) h Q := fun s tk =>
  wpAny_letOwnedTupleGo_listiter (s := { s with heap := h, toks := tk }) (let ⟨o, a, b, d⟩ := hI; ⟨o, a, b, d⟩) ⟨h, tk, rfl, p⟩
theorem Own.freezeG (G : Gd w g) (O : Own g L h bs (A ++ R)) : ∃ g', Gd w g' ∧ g.StaysIn g' ∧ g'.StaysIn h ∧ Own g' L h bs A ∧ (∀ b o, h.get? b = some o → b ≠ L → b ∉ A.map (·.1) → g'.get? b = some o) ∧ ∀ b φ, (b, φ) ∈ R → ∃ o, g'.get? b = some o ∧ φ o := by
  have nd := O.nd
  rw [List.map_append, List.nodup_append] at nd
  have up : g.StaysIn (hideAll h (L :: A.map (·.1))) := fun b o e => hideAll_get _ (O.keep b o e) (fun q => by
    rcases List.mem_cons.mp q with q | q
    · rw [q, O.gL] at e; cases e
    · obtain ⟨p, hp, z⟩ := List.mem_map.mp q
      have := (O.nw p (List.mem_append_left _ hp)).2.2
      rw [z, e] at this; cases this)
  refine ⟨hideAll h (L :: A.map (·.1)), G.keeps up, up, fun b o e => of_hideAll _ e, ⟨fun b o e => of_hideAll _ e, O.fr, hideAll_none _ List.mem_cons_self, fun p hp => ?_, nd.1⟩, fun b o e q1 q2 => ?_, fun b φ hp => ?_⟩
  · obtain ⟨a, b, _⟩ := O.nw p (List.mem_append_left _ hp)
    exact ⟨a, b, hideAll_none _ (List.mem_cons_of_mem _ (List.mem_map_of_mem hp))⟩
  · refine hideAll_get _ e (fun q => ?_)
    rcases List.mem_cons.mp q with q | q
    · exact q1 q
    · exact q2 q
  · obtain ⟨⟨o, a, c⟩, d, _⟩ := O.nw _ (List.mem_append_right _ hp)
    refine ⟨o, hideAll_get _ a (fun q => ?_), c⟩
    rcases List.mem_cons.mp q with q | q
    · exact d q
    · exact nd.2.2 _ q _ (List.mem_map_of_mem (f := (·.1)) hp) rfl
theorem Own.ne_frame (O : Own g L h bs R) {a : Addr} {vs : List Value} (e : ∃ o, h.get? a = some o ∧ LA vs o) : a ≠ L := fun q => by
  subst q
  obtain ⟨m, ⟨oL, z1, z2, z3, z4, _⟩, _⟩ := O.fr
  obtain ⟨o, ho, m', rfl⟩ := e
  rw [z3] at ho; cases ho
  cases z4
theorem Own.ne_frameT (O : Own g L h bs R) {a : Addr} {vs : List Value} (e : ∃ o, h.get? a = some o ∧ TA vs o) : a ≠ L := fun q => by
  subst q
  obtain ⟨m, ⟨oL, z1, z2, z3, z4, _⟩, _⟩ := O.fr
  obtain ⟨o, ho, m', rfl⟩ := e
  rw [z3] at ho; cases ho
  cases z4
end
theorem canAll {ds : List PyData} (h : ∀ d ∈ ds, d.canLay0 = true) : PyData.canLayAll0 ds = true := by
  induction ds with
  | nil => rfl
  | cons d ds ih => simp only [PyData.canLayAll0, Bool.and_eq_true]; exact ⟨h d List.mem_cons_self, ih fun d hd => h d (List.mem_cons_of_mem _ hd)⟩
theorem depthAll {ds : List PyData} {k : Nat} (h : ∀ d ∈ ds, d.depth ≤ k) : PyData.depthAll ds ≤ k := by
  induction ds with
  | nil => simp [PyData.depthAll]
  | cons d ds ih =>
    have h1 := h d List.mem_cons_self
    have h2 := ih fun d hd => h d (List.mem_cons_of_mem _ hd)
    simp only [PyData.depthAll]
    omega
theorem shapedL {ds : List PyData} (h : ∀ d ∈ ds, d.canLay0 = true ∧ d.depth ≤ 10) : SeqAt.shaped (.list ds) = true := by
  unfold SeqAt.shaped
  rw [Bool.and_eq_true]
  have := depthAll (k := 10) fun d hd => (h d hd).2
  refine ⟨by simp only [PyData.canLay0]; exact canAll fun d hd => (h d hd).1, ?_⟩
  refine decide_eq_true ?_
  simp only [PyData.depth]
  omega
theorem shapedI (xs : List Int) : SeqAt.shaped (.list (xs.map PyData.int)) = true := shapedL fun d hd => by
  obtain ⟨x, _, rfl⟩ := List.mem_map.mp hd
  exact ⟨rfl, by simp [PyData.depth]⟩
theorem shapedS {xs : List Str} (h : ∀ x ∈ xs, PyData.strOk x = true) : SeqAt.shaped (.list (xs.map PyData.str)) = true := shapedL fun d hd => by
  obtain ⟨x, hx, rfl⟩ := List.mem_map.mp hd
  exact ⟨by simp only [PyData.canLay0]; exact h x hx, by simp [PyData.depth]⟩
theorem shapedP {xs : List P2} (h : ∀ x ∈ xs, PyData.strOk x.1 = true) : SeqAt.shaped (.list (xs.map pairD)) = true := shapedL fun d hd => by
  obtain ⟨x, hx, rfl⟩ := List.mem_map.mp hd
  exact ⟨by simp only [pairD, PyData.canLay0, PyData.canLayAll0, h x hx, Bool.and_self], by simp [pairD, PyData.depth, PyData.depthAll]⟩
theorem shapedE (k : Nat) : SeqAt.shaped (.list (List.replicate k (.list []))) = true := shapedL fun d hd => by
  rw [List.eq_of_mem_replicate hd]
  exact ⟨rfl, by simp [PyData.depth, PyData.depthAll]⟩
/-- triples that are own tuples -/
noncomputable def RT3 (tl : List (Addr × As)) (v : Value) (p : T3) : Prop := ∃ a t u s, v = .ref a ∧ (a, TA [.int p.1 t, .int p.2.1 u, .int p.2.2 s]) ∈ tl
theorem RT3.mono {tl tl' : List (Addr × As)} (k : ∀ p ∈ tl, p ∈ tl') {v : Value} {p : T3} (x : RT3 tl v p) : RT3 tl' v p := let ⟨a, t, u, s, e, m⟩ := x; ⟨a, t, u, s, e, k _ m⟩
theorem RT3.snoc {tl : List (Addr × As)} {vs : List Value} {ps : List T3} (x : Rs (RT3 tl) vs ps) {a : Addr} {p : T3} {t u s : Tok} : Rs (RT3 ((a, TA [.int p.1 t, .int p.2.1 u, .int p.2.2 s]) :: tl)) (vs ++ [.ref a]) (ps ++ [p]) :=
  (x.mono fun _ _ r => r.mono fun _ m => .tail _ m).snoc ⟨a, t, u, s, rfl, .head _⟩
/-- empty lists that are own -/
noncomputable def RE (tl : List (Addr × As)) (v : Value) (_ : Unit) : Prop := ∃ a, v = .ref a ∧ (a, LA []) ∈ tl
theorem RE.snoc {tl : List (Addr × As)} {vs : List Value} {ps : List Unit} (x : Rs (RE tl) vs ps) {a : Addr} : Rs (RE ((a, LA []) :: tl)) (vs ++ [.ref a]) (ps ++ [()]) :=
  (x.mono fun _ _ ⟨a, e, m⟩ => ⟨a, e, .tail _ m⟩).snoc ⟨a, rfl, .head _⟩
theorem ne_LA_CA {h : Heap} {a b : Addr} {vs : List Value} {c : Option Value} (x : ∃ o, h.get? a = some o ∧ LA vs o) (y : ∃ o, h.get? b = some o ∧ CA c o) : a ≠ b := fun e => by
  subst e
  obtain ⟨o, e1, m, rfl⟩ := x
  obtain ⟨o', e2, z⟩ := y
  rw [e1] at e2; cases e2
  cases z
theorem ne_LA_Tab {h : Heap} {a b : Addr} {vs : List Value} (x : ∃ o, h.get? a = some o ∧ LA vs o) (y : ∃ o, h.get? b = some o ∧ TabA o) : a ≠ b := fun e => by
  subst e
  obtain ⟨o, e1, m, rfl⟩ := x
  obtain ⟨o', e2, z⟩ := y
  rw [e1] at e2; cases e2; cases z
noncomputable def lnsF (LS : List Ln) : List (Addr × As) := LS.flatMap fun l => [(l.dx, DA (kvL l.pb l.t1 l.t2)), (l.x, XA 52 l.dx)]
theorem lnsA_perm (LS : List Ln) : (lnsA LS).Perm (pbsA LS ++ lnsF LS) := by
  induction LS with
  | nil => exact .refl _
  | cons l LS ih =>
    have e1 : lnsA (l :: LS) = (l.pb, LA l.ws) :: (l.dx, DA (kvL l.pb l.t1 l.t2)) :: (l.x, XA 52 l.dx) :: lnsA LS := rfl
    have e2 : pbsA (l :: LS) ++ lnsF (l :: LS) = (l.pb, LA l.ws) :: (pbsA LS ++ ([(l.dx, DA (kvL l.pb l.t1 l.t2)), (l.x, XA 52 l.dx)] ++ lnsF LS)) := rfl
    rw [e1, e2]
    refine List.Perm.cons _ ?_
    refine ((ih.cons _).cons _).trans ?_
    exact (List.perm_append_comm_assoc [(l.dx, DA (kvL l.pb l.t1 l.t2)), (l.x, XA 52 l.dx)] (pbsA LS) (lnsF LS))
theorem lnsF_x {LS : List Ln} {l : Ln} (h : l ∈ LS) : (l.x, XA 52 l.dx) ∈ lnsF LS := List.mem_flatMap.mpr ⟨l, h, .tail _ (.head _)⟩
theorem lnsF_dx {LS : List Ln} {l : Ln} (h : l ∈ LS) : (l.dx, DA (kvL l.pb l.t1 l.t2)) ∈ lnsF LS := List.mem_flatMap.mpr ⟨l, h, .head _⟩
end Mine
end
section
open PySem PySem.W PyProof.Rows PySem.Calls
set_option maxRecDepth 100000
set_option maxHeartbeats 4000000
namespace Mine
noncomputable def TabG : As := fun o => ∃ ps, o = tabObj ps
section
variable {w : World} {n : Nat} {g g' h h' : Heap} {L : Addr} {env : Env} {bs : List (Str × Value)} {ns : List (Addr × As)}
theorem Own.extendP {P c : Addr} {φ φ' ψ : As} (O : Own g L h bs ((P, φ) :: ns)) (b : But P h h') (hc : h.objs.size ≤ c) (ho : ∃ o, h'.get? c = some o ∧ ψ o) (hP : ∃ o, h'.get? P = some o ∧ φ' o) : Own g L h' bs ((c, ψ) :: (P, φ') :: ns) := by
  have O₁ := O.upd (φ' := φ') .head b hP
  have lt : ∀ p ∈ (P, φ) :: ns, p.1 < h.objs.size := fun p hp => let ⟨⟨o, a, _⟩, _⟩ := O.nw p hp; Heap.lt_size a
  have gn : g.get? c = none := by
    cases q : g.get? c with
    | none => rfl
    | some o => exact absurd (Heap.lt_size (O.keep _ _ q)) (Nat.not_lt.mpr hc)
  have hL : L < h.objs.size := by obtain ⟨m, hm, _⟩ := O.fr; exact hm.lt
  refine ⟨O₁.keep, O₁.fr, O₁.gL, fun p hp => ?_, ?_⟩
  · rcases List.mem_cons.mp hp with e | hp
    · subst e; exact ⟨ho, Nat.ne_of_gt (Nat.lt_of_lt_of_le hL hc), gn⟩
    · exact O₁.nw p hp
  · rw [List.map_cons, List.nodup_cons]
    refine ⟨fun q => ?_, O₁.nd⟩
    have q' : c ∈ ((P, φ) :: ns).map (·.1) := q
    obtain ⟨p, hp, e⟩ := List.mem_map.mp q'
    have := lt p hp
    rw [e] at this
    exact absurd this (Nat.not_lt.mpr hc)
theorem Own.thawAdd {a : Addr} {φ : As} (O : Own g' L h bs ns) (up : g.StaysIn g') (e : ∃ o, g'.get? a = some o ∧ φ o) (hg : g.get? a = none) : Own g L h bs ((a, φ) :: ns) := by
  have O₁ := O.thaw up
  obtain ⟨o, ha, hφ⟩ := e
  refine ⟨O₁.keep, O₁.fr, O₁.gL, fun p hp => ?_, ?_⟩
  · rcases List.mem_cons.mp hp with e | hp
    · subst e
      exact ⟨⟨o, O.keep _ _ ha, hφ⟩, (fun q => by have := O.gL; rw [← q, ha] at this; cases this), hg⟩
    · exact O₁.nw p hp
  · rw [List.map_cons, List.nodup_cons]
    refine ⟨fun q => ?_, O₁.nd⟩
    obtain ⟨p, hp, e⟩ := List.mem_map.mp q
    have := (O.nw p hp).2.2
    rw [show p.1 = a from e, ha] at this; cases this
theorem ev_fundef_thenG {name : Str} {params : Arguments} {body : List Stmt} {scope : Scope} {pos : Pos} {rest : List Stmt} {P : Flow → Heap → Prop} {c T : Addr} {clos : List (Str × Addr)} (G : Gd w g) (O : Own g L h bs ((T, TabA) :: ns)) (C : CodeHd g c T)
    (hcode : env.code = .ref c) (hge0 : env.globals = mainGlobals) (hcl : closureFor scope env = pure clos) (hd0 : params.defaults = []) (hk0 : params.kw_defaults = []) (ha : annTrees params none env = [])
    (k : ∀ f c' doc pm ctv h', Own g L h' bs ((f, fun o => o = fnMade name (qualnameIn env name name) params body scope clos doc pm c' ctv) :: (c', CodeA (qualnameIn env name name)) :: (T, TabG) :: ns) → Ev w n (storeName env name (.ref f)) h' fun _ h'' => Ev w n (execs rest env) h'' P) :
    Ev w n (execs (.FunctionDef name params body [] none [] scope none name pos :: rest) env) h P := ev_seq fun s tk => by
  refine nestDef_K hd0 hk0 ha ?_
  obtain ⟨p, loose, mean, mg, mb, T'⟩ := G.T
  obtain ⟨o, ho, rfl⟩ := O.at (.head _)
  have hgs := T'.g.keeps O.keep
  obtain ⟨bm, ob, b1, b2, b3, b4, b5, b6⟩ := T'.bmain
  have hgP : mainGlobals ≠ T := fun q => by
    obtain ⟨o, es, ep, e, hdd, _⟩ := hgs
    rw [q, ho] at e; cases e; cases hdd
  have hbP : bm ≠ T := fun q => by
    have e := O.keep _ _ b3
    rw [q, ho] at e; cases e; cases b4
  have hbG : bm ≠ mainGlobals := fun q => by
    obtain ⟨o, es, ep, e, hdd, _⟩ := T'.g
    rw [q, e] at b3; cases b3; rw [hdd] at b6; cases b6
  refine makeFunction_K (s := { s with heap := h, toks := tk }) (mg := mg) hcl hge0 hgs hcode (C.keeps O.keep) ho trivial rfl hgP ⟨bm, ob, b1, b2, hbG, hbP, O.keep _ _ b3, b4, b5, b6⟩ fun c' ctv doc h' tk' hx hge hlt hrec htb => ?_
  obtain ⟨c₂, oc, vs, t, e2, hoc, hdd, hv⟩ := hrec
  cases e2
  have O₁ := O.extendP (h' := h') (φ' := TabG) (ψ := CodeA (qualnameIn env name name)) (fun b o q e => hx b o q e) hge ⟨oc, hoc, vs, t, hdd, hv⟩ ⟨_, htb, _, rfl⟩
  have O₂ := O₁.push (o := fnMade name (qualnameIn env name name) params body scope clos doc ((mg "__name__").getD .none) c' ctv) (φ := fun o => o = fnMade name (qualnameIn env name name) params body scope clos doc ((mg "__name__").getD .none) c' ctv) rfl rfl
  exact (k _ _ _ _ _ _ O₂).use (s := { s with heap := h'.push (fnMade name (qualnameIn env name name) params body scope clos doc ((mg "__name__").getD .none) c' ctv), toks := tk' }) fun _ h₃ tk₃ q => ⟨h₃, tk₃, rfl, q⟩
end
end Mine
end
section
open PySem PySem.W PyProof.Rows PySem.Calls
set_option maxRecDepth 100000
set_option maxHeartbeats 8000000
namespace Mine
theorem fill1 : hd.heap_1 = hd.heap_1 ∧ PySem.Challenge.rw_oy0168_01 = PySem.Challenge.rw_oy0168_01 := by k_fill; exact ⟨rfl, rfl⟩
local macro_rules | `(tactic| walk_at "gB") => `(tactic| ((case qg => exact rfl); (case qB => exact rfl); (case qke => exact rfl); (case ql => exact rfl)))
local macro_rules | `(tactic| walk_at "go") => `(tactic| ((case qG => assumption); (case qO => assumption)))
local macro_rules | `(tactic| walk_at "Lkl") => `(tactic| ((case qL => exact rfl); (case qk => exact rfl); (case ql => exact rfl)))
local macro_rules | `(tactic| walk_at "kl") => `(tactic| ((case qk => exact rfl); (case ql => exact rfl)))
local macro_rules | `(tactic| walk_at "ep") => `(tactic| ((case qe => exact rfl); (case qp => exact rfl)))
local macro_rules | `(tactic| walk_at "q123") => `(tactic| ((case q1 => k_is); (case q2 => k_is); (case q3 => k_is)))
local macro_rules | `(tactic| walk_at "qd") => `(tactic| case qd => decide +kernel)
local macro_rules | `(tactic| walk_at "qm") => `(tactic| case qm => exact rfl)
local macro_rules | `(tactic| walk_at "qO") => `(tactic| case qO => assumption)
local macro_rules | `(tactic| walk_at "qb") => `(tactic| case qb => walk_at "lk")
local macro_rules | `(tactic| walk_at "qx") => `(tactic| case qx => k_is)
local macro_rules | `(tactic| walk_at "sub") => `(tactic| first | with_reducible exact List.Sublist.refl _ | ((with_reducible refine' List.Sublist.cons_cons _ ?sa); (case sa => walk_at "sub")) | ((with_reducible refine' List.Sublist.cons _ ?sa); (case sa => walk_at "sub")) | with_reducible exact List.nil_sublist _)
local macro_rules | `(tactic| walk_at "sub1") => `(tactic| first | ((with_reducible refine' List.Sublist.cons _ ?sa); (case sa => with_reducible exact List.Sublist.refl _)))
local macro_rules | `(tactic| walk_at "bsub") => `(tactic| first | with_reducible exact List.forall_mem_nil _ | ((with_reducible refine' List.forall_mem_cons.mpr ⟨?ba, ?bb⟩); (case ba => walk_at "lk"); (case bb => walk_at "bsub")))
local macro_rules | `(tactic| walk_at "lk") => `(tactic| first | with_reducible exact List.mem_cons_self | ((with_reducible refine List.mem_cons_of_mem _ ?_); walk_at "lk"))
local macro_rules | `(tactic| walk_at "free") => `(tactic| first | with_reducible exact free_nil | ((with_reducible refine' free_cons ?fa ?fb); (case fa => decide +kernel); (case fb => walk_at "free")))
local macro_rules | `(tactic| walk_at "put") => `(tactic| first | with_reducible exact Put.nil | ((with_reducible refine' Put.hit ?pa); (case pa => walk_at "free")) | ((with_reducible refine' Put.skip ?pa ?pb); (case pa => decide +kernel); (case pb => walk_at "put")))
local macro_rules | `(tactic| walk_at "upd") => `(tactic| first | with_reducible exact UpdA.head | ((with_reducible refine' UpdA.tail ?ua); (case ua => walk_at "upd")))
local macro_rules | `(tactic| walk_at "enter") => `(tactic| ((case k6 => k_is); (case kfd => exact rfl); (case k7 => k_is); (case kb => exact rfl); (case k9 => exact rfl); (case kB => exact locs rfl); (case km => exact rfl); (case kN => decide +kernel); (case kc => decide); (case kr => decide); (case c2 => exact rfl); (case c3 => exact rfl); (case c4 => exact rfl)))
local macro_rules | `(tactic| walk_at "ev") => `(tactic| first
  | with_reducible first | refine ev_int fun _ => ?_ | refine ev_str fun _ => ?_ | refine ev_none ?_
  | ((with_reducible refine' ev_local ?qO ?qb ?_ ?qL ?qk ?ql ?qd); walk_at "qO"; walk_at "qb"; walk_at "Lkl"; walk_at "qd")
  | ((with_reducible refine' ev_global ?qG ?qO ?qx ?_ ?qg ?qk ?ql ?qd); walk_at "go"; walk_at "qx"; (case qg => exact rfl); walk_at "kl"; walk_at "qd")
  | with_reducible first | refine ev_binop ?_ | refine ev_subscript ?_ | refine ev_ifexp_str ?_ | refine ev_ifexp ?_
  | ((with_reducible refine' ev_test ?_ ?qm); walk_at "qm")
  | with_reducible first | refine ev_not ?_ | refine ev_and ?_ | refine ev_and_cons ?_ | refine ev_or_cons ?_ | refine ev_and_nil ?_ | refine ev_or_nil ?_
  | ((with_reducible refine' ev_compare ?_ ?qm); walk_at "qm")
  | with_reducible first | refine ev_add fun _ => ?_ | refine ev_sub fun _ => ?_
  | ((with_reducible refine' ev_fmod ?qb fun _ => ?_); (case qb => decide))
  | ((with_reducible refine' ev_fdiv ?qb fun _ => ?_); (case qb => decide))
  | with_reducible refine ev_band fun _ => ?_
  | ((with_reducible refine' ev_mul ?qm fun _ => ?_); (case qm => first | exact IntMulOk.of_left (by decide) | exact IntMulOk.of_right (by decide)))
  | ((with_reducible refine' ev_adds ?qz fun _ => ?_); (case qz => walk_at "len"))
  | ((with_reducible refine' ev_item_tup ?ql ?q0 ?q1 ?qx ?_ ?qs); (case ql => exact Own.at (by assumption) (by walk_at "lk")); (case q0 => decide); (case q1 => decide); (case qx => exact rfl); (case qs => with_unfolding_all rfl))
  | ((with_reducible refine' ⟨?qz, _, _, _, _, ?qO, ?_⟩); (case qz => exact Nat.le_of_ble_eq_true rfl); walk_at "qO"; intro h' a' O' st')
  | with_reducible first | refine ev_eqi ?_ | refine ev_nei ?_ | refine ev_lti ?_ | refine ev_gti ?_ | refine ev_eqs ?_ | refine ev_nes ?_ | refine ev_gts ?_
  | ((with_reducible refine' ev_items_cons ?_ ?qm); walk_at "qm")
  | with_reducible refine ev_items_nil ?_
  | ((with_reducible refine' ev_assign_then ?_ ?qm); walk_at "qm")
  | ((with_reducible refine' ev_store ?qO ?qU ?_ ?qL ?qk ?ql); walk_at "qO"; (case qU => walk_at "put"); walk_at "Lkl"; (intro h' O'))
  | with_reducible refine ev_tuple ?_
  | (with_reducible refine' ⟨_, rfl, ?_⟩)
  | (intro (tq : Tok))
  | ((with_reducible refine' ev_item_str ?q0 ?q1 ?qz (fun _ => ?_) ?qs ?qt); (case q0 => walk_at "idx"); (case q1 => walk_at "idx"); (case qz => first | decide +kernel | walk_at "len"); (case qs => with_unfolding_all rfl); (case qt => intro _; with_unfolding_all rfl))
  | with_reducible first | refine ev_list ?_ | refine ev_tests_nil ?_ | refine ev_tests_one ?_ | refine iteT ?_ | refine ev_return_end ?_
  | ((with_reducible refine' ev_setsub_then ?_ ?qm); walk_at "qm")
  | with_reducible first | refine ev_ifs ?_ | refine ev_nil ?_
  | ((with_reducible show Ev _ _ (execs (_ ++ _) _) _ _); (simp only [List.cons_append, List.nil_append, List.append_nil]))
  | with_reducible first | refine ev_break_end ?_ | refine ev_continue_end ?_ | refine then_next ?_
  | ((with_reducible refine' ev_callt ?qG ?qO ?qx ?qv ?_ ?qn ?qg ?qB ?qke ?ql ?qd ?qe ?qp); walk_at "go"; walk_at "qx"; (case qv => boot_by_name); (case qn => decide +kernel); walk_at "gB"; walk_at "qd"; walk_at "ep")
  | ((with_reducible refine' ev_callb ?qG ?qO ?qx ?qv ?_ ?qn ?qg ?qB ?qke ?ql ?qd ?qe ?qp); walk_at "go"; walk_at "qx"; (case qv => boot_by_name); (case qn => decide +kernel); walk_at "gB"; walk_at "qd"; walk_at "ep")
  | ((with_reducible refine' ev_callg ?qG ?qO ?qx ?qk ?_ ?qg ?qke ?ql ?qd ?qe ?qp); walk_at "go"; walk_at "qx"; (case qk => k_is); (case qg => exact rfl); (case qke => exact rfl); (case ql => exact rfl); walk_at "qd"; walk_at "ep")
  | ((with_reducible refine' ev_for_then ?_ ?qm); (case qm => intro _; exact rfl)))
section
theorem pw_at {x y z : Tok} {j : Nat} {v : Value} (h : ([.int 64 x, .int 8 y, .int 1 z] : List Value)[j]? = some v) : ∃ t, v = .int (pw j) t := by
  rcases j with _ | _ | _ | j
  · exact ⟨x, (Option.some.inj h).symm⟩
  · exact ⟨y, (Option.some.inj h).symm⟩
  · exact ⟨z, (Option.some.inj h).symm⟩
  · exact absurd h (fun e => nomatch e)
theorem hiB_at {x y z : Tok} {j : Nat} {v : Value} (h : ([.int 2048 x, .int 1024 y, .int 512 z] : List Value)[j]? = some v) : ∃ t, v = .int (hiB j) t := by
  rcases j with _ | _ | _ | j
  · exact ⟨x, (Option.some.inj h).symm⟩
  · exact ⟨y, (Option.some.inj h).symm⟩
  · exact ⟨z, (Option.some.inj h).symm⟩
  · exact absurd h (fun e => nomatch e)
theorem tabX_at {x y z : Tok} {j : Nat} {v : Value} (h : ([.str (Str.ofString "-xSs") x, .str (Str.ofString "-xSs") y, .str (Str.ofString "-xTt") z] : List Value)[j]? = some v) : ∃ t, v = .str (tabX j) t := by
  rcases j with _ | _ | _ | j
  · exact ⟨x, (Option.some.inj h).symm⟩
  · exact ⟨y, (Option.some.inj h).symm⟩
  · exact ⟨z, (Option.some.inj h).symm⟩
  · exact absurd h (fun e => nomatch e)
theorem pw_pos (c : Nat) : 0 < pw c ∧ pw c < 1073741824 := by unfold pw; split <;> decide
theorem hiB_pos (c : Nat) : 0 < hiB c ∧ hiB c < 1073741824 := by unfold hiB; split <;> decide
theorem tabX_len (c : Nat) : (tabX c).length = 4 := by unfold tabX; split <;> decide +kernel
local macro_rules | `(tactic| walk_at "len") => `(tactic| (simp only [Str.length_append, rowUp_len, ite_len one_r one_d, ite_len one_w one_d, item_len, tabX_len]; refine Nat.le_trans (m := 100) ?_ (by decide +kernel); omega))
local macro_rules | `(tactic| walk_at "idx") => `(tactic| first | decide +kernel | ((try simp only [fm8, fm2, fd4096, strlen3, tabX_len]); omega))
theorem row_ev {w : World} {g₀ h : Heap} (G : Gd w g₀) (hst : g₀.StaysIn h) (m : Int) (t : Tok) (h0 : 0 ≤ m) (h1 : m < 65536) :
    Ev w 340 (call (.ref 150) [.int m t]) h fun v h' => h.StaysIn h' ∧ ∃ t', v = .str (rowOf m) t' := by
  refine' ev_def (binds := [(Str.ofString "mode", .int m t)]) (names := [Str.ofString "mode"]) [] G hst (fun _ hq => nomatch hq) List.nodup_nil ?k6 ?kfd ?k7 ?kb ?k9 ?kB ?km ?kN ?kc ?_ ?kr ?c2 ?c3 ?c4
  walk_at "enter"
  intro g L h₁ Gg sg kg _ O
  repeat walk_at "ev"
  refine ev_range (N := 3) (by assumption) rfl fun r h₂ O₂ _ => ?_
  refine ev_iter_range O₂ (O₂.at (by walk_at "lk")) (by decide) fun I h₃ O₃ => ?_
  refine evl_it it_range (fun i bs ns => (∃ t', bs = [(Str.ofString "mode", .int m t), (Str.ofString "row", .str (rowUp m i) t')]) ∧ ns = []) (fun _ _ _ _ _ _ _ => trivial) ?_ ?_ (O₃.sub (by walk_at "sub")) ⟨⟨_, rfl⟩, rfl⟩
  · rintro i v h₄ bs ns hi ⟨tv, rfl⟩ ⟨⟨t', rfl⟩, rfl⟩ O₄
    refine ev_target ?_
    repeat walk_at "ev"
    refine ev_item_tup_any (Own.at (by assumption) (by walk_at "lk")) (by omega) (by show (i : Int) < (3 : Int); omega) (Nat.le_of_ble_eq_true rfl) ?_
    intro v hv
    obtain ⟨tp, rfl⟩ := pw_at (j := i) hv
    clear hv
    repeat walk_at "ev"
    refine ev_fdiv (pw_pos i) fun _ => ?_
    repeat walk_at "ev"
    refine ev_item_tup_any (Own.at (by assumption) (by walk_at "lk")) (by omega) (by show (i : Int) < (3 : Int); omega) (Nat.le_of_ble_eq_true rfl) ?_
    intro v hv
    obtain ⟨th, rfl⟩ := hiB_at (j := i) hv
    clear hv
    refine ev_fdiv (hiB_pos i) fun _ => ?_
    repeat walk_at "ev"
    refine ev_item_tup_any (Own.at (by assumption) (by walk_at "lk")) (by omega) (by show (i : Int) < (3 : Int); omega) (Nat.le_of_ble_eq_true rfl) ?_
    intro v hv
    obtain ⟨tt, rfl⟩ := tabX_at (j := i) hv
    clear hv
    repeat walk_at "ev"
    refine' ⟨_, _, ⟨⟨_, ?e⟩, ?e2⟩, ?o⟩
    case o => exact (Own.binds (bs' := [(Str.ofString "mode", _), (Str.ofString "row", _)]) (by assumption) (by walk_at "bsub")).sub (ns' := [(I, RI 3 _)]) (by walk_at "sub")
    case e2 => rfl
    case e => rfl
  · rintro h₄ bs ns ⟨⟨t', rfl⟩, rfl⟩ O₄
    repeat walk_at "ev"
    exact ⟨stays_of kg O₄, _, rfl⟩
end
section
theorem pos_num (m : Int) (c : Nat) (t : Tok) {t' : Tok} (h : (((m.fdiv (pw c)).fmod 8).fmod 2 == 1) = true) : [(Str.ofString "mode", Value.int m t), (Str.ofString "number", Value.int (numUp m c * 16 + ((m.fdiv (pw c)).fmod 8).fdiv 2 * 4 + (3 - (m.fdiv (hiB c)).fmod 2)) t')] = [(Str.ofString "mode", Value.int m t), (Str.ofString "number", Value.int (numUp m (c + 1)) t')] := by
  have : lastN m c = 3 - (m.fdiv (hiB c)).fmod 2 := if_pos h
  show _ = [(Str.ofString "mode", Value.int m t), (Str.ofString "number", Value.int (numUp m c * 16 + (dig m c).fdiv 2 * 4 + lastN m c) t')]
  rw [this]; rfl
theorem neg_num (m : Int) (c : Nat) (t : Tok) {t' : Tok} (h : ¬ (((m.fdiv (pw c)).fmod 8).fmod 2 == 1) = true) : [(Str.ofString "mode", Value.int m t), (Str.ofString "number", Value.int (numUp m c * 16 + ((m.fdiv (pw c)).fmod 8).fdiv 2 * 4 + (m.fdiv (hiB c)).fmod 2) t')] = [(Str.ofString "mode", Value.int m t), (Str.ofString "number", Value.int (numUp m (c + 1)) t')] := by
  have : lastN m c = (m.fdiv (hiB c)).fmod 2 := if_neg h
  show _ = [(Str.ofString "mode", Value.int m t), (Str.ofString "number", Value.int (numUp m c * 16 + (dig m c).fdiv 2 * 4 + lastN m c) t')]
  rw [this]; rfl
theorem number_ev {w : World} {g₀ h : Heap} (G : Gd w g₀) (hst : g₀.StaysIn h) (m : Int) (t : Tok) (h0 : 0 ≤ m) (h1 : m < 65536) :
    Ev w 340 (call (.ref 157) [.int m t]) h fun v h' => h.StaysIn h' ∧ ∃ t', v = .int (numOf m) t' := by
  refine' ev_def (binds := [(Str.ofString "mode", .int m t)]) (names := [Str.ofString "mode"]) [] G hst (fun _ hq => nomatch hq) List.nodup_nil ?k6 ?kfd ?k7 ?kb ?k9 ?kB ?km ?kN ?kc ?_ ?kr ?c2 ?c3 ?c4
  walk_at "enter"
  intro g L h₁ Gg sg kg _ O
  repeat walk_at "ev"
  refine ev_item_tup_any (Own.at (by assumption) (by walk_at "lk")) (by rw [fd4096]; omega) (by rw [fd4096]; show _ < (16 : Int); omega) (Nat.le_of_ble_eq_true rfl) ?_
  intro v hv
  obtain ⟨i, ti, hi, rfl⟩ := Ints.get (ns := [1, 6, 3, 1, 4, 1, 2, 1, 0, 1, 5, 1, 7, 1, 1, 1]) (by repeat constructor) hv
  have hi' : i = kindN m := by unfold kindN; rw [List.getD_eq_getElem?_getD, hi]; rfl
  clear hv
  subst hi'
  repeat walk_at "ev"
  refine ev_range (N := 3) (by assumption) rfl fun r h₂ O₂ _ => ?_
  refine ev_iter_range O₂ (O₂.at (by walk_at "lk")) (by decide) fun I h₃ O₃ => ?_
  refine evl_it it_range (fun i bs ns => (∃ t', bs = [(Str.ofString "mode", .int m t), (Str.ofString "number", .int (numUp m i) t')]) ∧ ns = []) (fun _ _ _ _ _ _ _ => trivial) ?_ ?_ (O₃.sub (by walk_at "sub")) ⟨⟨_, rfl⟩, rfl⟩
  · rintro i v h₄ bs ns hi ⟨tv, rfl⟩ ⟨⟨t', rfl⟩, rfl⟩ O₄
    refine ev_target ?_
    repeat walk_at "ev"
    refine ev_item_tup_any (Own.at (by assumption) (by walk_at "lk")) (by omega) (by show (i : Int) < (3 : Int); omega) (Nat.le_of_ble_eq_true rfl) ?_
    intro v hv
    obtain ⟨tp, rfl⟩ := pw_at (j := i) hv
    clear hv
    refine ev_fdiv (pw_pos i) fun _ => ?_
    repeat walk_at "ev"
    refine ev_item_tup_any (Own.at (by assumption) (by walk_at "lk")) (by omega) (by show (i : Int) < (3 : Int); omega) (Nat.le_of_ble_eq_true rfl) ?_
    intro v hv
    obtain ⟨th, rfl⟩ := hiB_at (j := i) hv
    clear hv
    refine ev_fdiv (hiB_pos i) fun _ => ?_
    repeat walk_at "ev"
    split
    all_goals (
      rename_i hif
      repeat walk_at "ev"
      refine' ⟨_, _, ⟨⟨_, ?e⟩, ?e2⟩, ?o⟩
      case o => exact (Own.binds (bs' := [(Str.ofString "mode", _), (Str.ofString "number", _)]) (by assumption) (by walk_at "bsub")).sub (ns' := [(I, RI 3 _)]) (by walk_at "sub")
      case e2 => rfl
      case e => first | exact pos_num m i t hif | exact neg_num m i t hif)
  · rintro h₄ bs ns ⟨⟨t', rfl⟩, rfl⟩ O₄
    repeat walk_at "ev"
    exact ⟨stays_of kg O₄, _, rfl⟩
end
section
theorem ifmt_ev {w : World} {g₀ h : Heap} (G : Gd w g₀) (hst : g₀.StaysIn h) (m : Int) (t : Tok) :
    Ev w 360 (call (.ref 98) [.int m t]) h fun v h' => h.StaysIn h' ∧ ∃ t', v = .int (Builtin.bitAnd m 61440) t' := by
  refine' ev_def (binds := [(Str.ofString "mode", .int m t)]) (names := [Str.ofString "mode"]) [] G hst (fun _ hq => nomatch hq) List.nodup_nil ?k6 ?kfd ?k7 ?kb ?k9 ?kB ?km ?kN ?kc ?_ ?kr ?c2 ?c3 ?c4
  walk_at "enter"
  intro g L h₁ Gg sg kg _ O
  repeat walk_at "ev"
  exact ⟨stays_of kg O, _, rfl⟩
/-- the table's rows, as they lie in the top -/
inductive PairsIn (g : Heap) : List Value → List (Int × Str) → Prop
  | nil : PairsIn g [] []
  | cons {a : Addr} {b : Int} {c : Str} {t u : Tok} {vs : List Value} {ps : List (Int × Str)} : (∃ o, g.get? a = some o ∧ TA [.int b t, .str c u] o) → PairsIn g vs ps → PairsIn g (.ref a :: vs) ((b, c) :: ps)
theorem PairsIn.length {g : Heap} {vs : List Value} {ps : List (Int × Str)} (x : PairsIn g vs ps) : vs.length = ps.length := by
  induction x with
  | nil => rfl
  | cons _ _ ih => rw [List.length_cons, List.length_cons, ih]
theorem PairsIn.get {g : Heap} {vs : List Value} {ps : List (Int × Str)} (x : PairsIn g vs ps) : ∀ {j : Nat} {v : Value}, vs[j]? = some v → ∃ a b c t u, v = .ref a ∧ ps[j]? = some (b, c) ∧ ∃ o, g.get? a = some o ∧ TA [.int b t, .str c u] o := by
  induction x with
  | nil => intro j v h; simp at h
  | cons hp _ ih =>
    intro j v h
    cases j with
    | zero => simp at h; exact ⟨_, _, _, _, _, h.symm, by simp, hp⟩
    | succ j => simp at h; obtain ⟨a, b, c, t, u, e1, e2, e3⟩ := ih h; exact ⟨a, b, c, t, u, e1, by simpa using e2, e3⟩
theorem kt {w : World} {g : Heap} (G : Gd w g) {a : Addr} {o : Obj} {vs : List Value} (e : (hd.heap_1 w.params).lookup a = some o) (ho : o = { cls := .type "tuple", data := .seq vs.toArray }) : ∃ o, g.get? a = some o ∧ TA vs o := ⟨o, G.K _ _ e, 0, ho⟩
local macro_rules | `(tactic| walk_at "kt") => `(tactic| (refine' kt (by assumption) ?ka ?kb; (case ka => k_is); (case kb => exact rfl)))
theorem table_in {w : World} {g : Heap} (G : Gd w g) : ∃ o, g.get? 131 = some o ∧ TA [.ref 106, .ref 108, .ref 110, .ref 114, .ref 116, .ref 118, .ref 122, .ref 124, .ref 126, .ref 130] o := by walk_at "kt"
theorem rows_in {w : World} {g : Heap} (G : Gd w g) {i : Nat} {v : Value} (hv : [Value.ref 106, .ref 108, .ref 110, .ref 114, .ref 116, .ref 118, .ref 122, .ref 124, .ref 126, .ref 130][i]? = some v) : ∃ T vs, v = .ref T ∧ (∃ o, g.get? T = some o ∧ TA vs o) ∧ PairsIn g vs (rowTab i) := by
  have hi : i < 10 := (List.getElem?_eq_some_iff.mp hv).1
  have hc : i = 0 ∨ i = 1 ∨ i = 2 ∨ i = 3 ∨ i = 4 ∨ i = 5 ∨ i = 6 ∨ i = 7 ∨ i = 8 ∨ i = 9 := by omega
  rcases hc with rfl | rfl | rfl | rfl | rfl | rfl | rfl | rfl | rfl | rfl
  · cases hv; exact ⟨106, [.ref 99, .ref 100, .ref 101, .ref 102, .ref 103, .ref 104, .ref 105], rfl, by walk_at "kt", .cons (by walk_at "kt") (.cons (by walk_at "kt") (.cons (by walk_at "kt") (.cons (by walk_at "kt") (.cons (by walk_at "kt") (.cons (by walk_at "kt") (.cons (by walk_at "kt") .nil))))))⟩
  · cases hv; exact ⟨108, [.ref 107], rfl, by walk_at "kt", .cons (by walk_at "kt") .nil⟩
  · cases hv; exact ⟨110, [.ref 109], rfl, by walk_at "kt", .cons (by walk_at "kt") .nil⟩
  · cases hv; exact ⟨114, [.ref 111, .ref 112, .ref 113], rfl, by walk_at "kt", .cons (by walk_at "kt") (.cons (by walk_at "kt") (.cons (by walk_at "kt") .nil))⟩
  · cases hv; exact ⟨116, [.ref 115], rfl, by walk_at "kt", .cons (by walk_at "kt") .nil⟩
  · cases hv; exact ⟨118, [.ref 117], rfl, by walk_at "kt", .cons (by walk_at "kt") .nil⟩
  · cases hv; exact ⟨122, [.ref 119, .ref 120, .ref 121], rfl, by walk_at "kt", .cons (by walk_at "kt") (.cons (by walk_at "kt") (.cons (by walk_at "kt") .nil))⟩
  · cases hv; exact ⟨124, [.ref 123], rfl, by walk_at "kt", .cons (by walk_at "kt") .nil⟩
  · cases hv; exact ⟨126, [.ref 125], rfl, by walk_at "kt", .cons (by walk_at "kt") .nil⟩
  · cases hv; exact ⟨130, [.ref 127, .ref 128, .ref 129], rfl, by walk_at "kt", .cons (by walk_at "kt") (.cons (by walk_at "kt") (.cons (by walk_at "kt") .nil))⟩
theorem ev_owned_tuple {w : World} {n : Nat} {h : Heap} {I a l : Addr} {i : Nat} {elts : List Expr} {c : Nat} {pos : Pos} {Q : Unit → Heap → Prop} (hI : ∃ o, h.get? I = some o ∧ TI l i o) (q : Q () h) : Ev w n (letOwnedTupleGo (.Tuple elts c pos) (.ref I) (.ref a)) h Q := fun s tk => by
  obtain ⟨⟨c, d, dt, sl⟩, ho, hc, hd⟩ := hI
  simp only at hc hd
  subst hc hd
  unfold letOwnedTupleGo
  refine wpAny_bind (wpAny_load (s := { s with heap := h, toks := tk }) ho ?_)
  exact wpAny_pure ⟨h, tk, rfl, q⟩
theorem file_ev {w : World} {g₀ h : Heap} (G : Gd w g₀) (hst : g₀.StaysIn h) (m : Int) (t : Tok) :
    Ev w 340 (call (.ref 138) [.int m t]) h fun v h' => h.StaysIn h' ∧ ∃ t', v = .str (fileOf m) t' := by
  refine' ev_def (binds := [(Str.ofString "mode", .int m t)]) (names := [Str.ofString "mode"]) [] G hst (fun _ hq => nomatch hq) List.nodup_nil ?k6 ?kfd ?k7 ?kb ?k9 ?kB ?km ?kN ?kc ?_ ?kr ?c2 ?c3 ?c4
  walk_at "enter"
  intro g L h₁ Gg sg kg _ O
  repeat walk_at "ev"
  rename_i p _ _ h₂ O₂
  refine ev_enumerate O₂ (let ⟨o, a, b⟩ := table_in Gg; ⟨o, O₂.keep _ _ a, b⟩) fun e it h₃ O₃ => ?_
  refine ev_iter_enum (O₃.at (by walk_at "lk")) ?_
  refine evl_enum (fun i bs ns => bs = [(Str.ofString "mode", .int m t), (Str.ofString "perm", .ref p)] ∧ ∃ vs, Strs vs (charsUp m i) ∧ ns = [(p, LA vs)]) (table_in Gg) ?_ ?_ O₃ ⟨rfl, [], .nil, rfl⟩
  · rintro i v ti h₄ bs ns hv ⟨rfl, vsP, hP, rfl⟩ O₄
    have hi : i < 10 := (List.getElem?_eq_some_iff.mp hv).1
    obtain ⟨T, vs, rfl, hT, hps⟩ := rows_in Gg hv
    have hTh : ∀ h' : Heap, (∀ b o, g.get? b = some o → h'.get? b = some o) → ∃ o, h'.get? T = some o ∧ TA vs o := fun h' k => let ⟨o, a, b⟩ := hT; ⟨o, k _ _ a, b⟩
    repeat walk_at "ev"
    rename_i h₅ O₅
    refine ev_iter_tuple O₅ (hTh _ O₅.keep) fun I h₆ O₆ => ?_
    refine evl_it it_tuple (fun j bs ns => bs = [(Str.ofString "mode", .int m t), (Str.ofString "perm", .ref p), (Str.ofString "index", .int (i : Int) ti), (Str.ofString "table", .ref T)] ∧ ns = [(e, EnA it (i + 1)), (it, TI 131 (i + 1)), (p, LA vsP)] ∧ ∀ q ∈ (rowTab i).take j, hits m i q.1 = false) (fun _ h' _ _ _ _ O' => hTh h' O'.keep) ?_ ?_ O₆ ⟨rfl, rfl, fun _ hq => by simp at hq⟩
    · rintro j v h₇ bs ns hj hv' ⟨rfl, rfl, hno⟩ O₇
      obtain ⟨a, b, c, tb, tc, rfl, hpj, ha⟩ := hps.get hv'
      refine ev_owned_tuple (O₇.at (by walk_at "lk")) ?_
      refine ev_assign_pair (a := .int b tb) (b := .str c tc) (let ⟨o, x, y⟩ := ha; ⟨o, O₇.keep _ _ x, y⟩) fun h₈ b₈ => ?_
      have O₈ := O₇.fresh_but b₈
      repeat walk_at "ev"
      have hno' : hits m i b = false → ∀ q ∈ (rowTab i).take (j + 1), hits m i q.1 = false := by
        intro hb q hq
        rw [List.take_add_one, hpj] at hq
        rcases List.mem_append.mp hq with hq | hq
        · exact hno q hq
        · simp at hq; subst hq; exact hb
      have hz : vsP.length ≤ 1000 := by rw [hP.length]; simp [charsUp]; omega
      have hend : pickC m i = c → Strs (vsP ++ [.str c tc]) (charsUp m (i + 1)) := fun q => by rw [charsUp_succ, q]; exact hP.snoc c tc
      split
      · rename_i hi0
        have hi0' : i = 0 := by simpa using hi0
        repeat walk_at "ev"
        refine pure_call (by assumption) (ifmt_ev Gg (Own.keep (by assumption)) m t) (by decide) ?_
        rintro _ h₉ ⟨t9, rfl⟩ O₉
        repeat walk_at "ev"
        split
        · rename_i hh
          have hpick : pickC m i = c := pick_hit hpj hno (by unfold hits; rw [if_pos hi0']; exact hh)
          repeat walk_at "ev"
          refine ev_perm_append (fun v => v = .str c tc) (by assumption) (by walk_at "lk") (by walk_at "lk") hz (fun R r => ev_local (by assumption) (by walk_at "lk") (r _ rfl)) (fun v => by walk_at "upd") ?_
          rintro _ h₁₀ rfl O₁₀
          repeat walk_at "ev"
          exact ⟨_, _, ⟨rfl, _, hend hpick, rfl⟩, (O₁₀.binds (by walk_at "bsub")).sub (by walk_at "sub1")⟩
        · rename_i hh
          repeat walk_at "ev"
          exact ⟨_, _, ⟨rfl, rfl, hno' (by unfold hits; rw [if_pos hi0']; simpa using hh)⟩, (O₉.binds (by walk_at "bsub"))⟩
      · rename_i hi0
        have hi0' : i ≠ 0 := by simpa using hi0
        repeat walk_at "ev"
        split
        · rename_i hh
          have hpick : pickC m i = c := pick_hit hpj hno (by unfold hits; rw [if_neg hi0']; exact hh)
          repeat walk_at "ev"
          refine ev_perm_append (fun v => v = .str c tc) (by assumption) (by walk_at "lk") (by walk_at "lk") hz (fun R r => ev_local (by assumption) (by walk_at "lk") (r _ rfl)) (fun v => by walk_at "upd") ?_
          rintro _ h₁₀ rfl O₁₀
          repeat walk_at "ev"
          exact ⟨_, _, ⟨rfl, _, hend hpick, rfl⟩, (O₁₀.binds (by walk_at "bsub")).sub (by walk_at "sub1")⟩
        · rename_i hh
          repeat walk_at "ev"
          exact ⟨_, _, ⟨rfl, rfl, hno' (by unfold hits; rw [if_neg hi0']; simpa using hh)⟩, (Own.binds (by assumption) (by walk_at "bsub"))⟩
    · rintro h₇ bs ns ⟨rfl, rfl, hno⟩ O₇
      have hz : vsP.length ≤ 1000 := by rw [hP.length]; simp [charsUp]; omega
      have hmiss := pick_miss (m := m) (i := i) (fun q hq => hno q (by rw [List.take_of_length_le (by rw [hps.length]; exact Nat.le_refl _)]; exact hq))
      repeat walk_at "ev"
      split
      · rename_i hi0
        have hi0' : i = 0 := by simpa using hi0
        repeat walk_at "ev"
        refine ev_perm_append (fun v => ∃ t8, v = .str (Str.ofString "?") t8) O₇ (by walk_at "lk") (by walk_at "lk") hz (fun R r => ev_str fun t8 => r _ ⟨t8, rfl⟩) (fun v => by walk_at "upd") ?_
        rintro _ h₁₀ ⟨t8, rfl⟩ O₁₀
        repeat walk_at "ev"
        exact ⟨_, _, ⟨rfl, _, by rw [charsUp_succ, hmiss, if_pos hi0']; exact hP.snoc _ t8, rfl⟩, (O₁₀.binds (by walk_at "bsub"))⟩
      · rename_i hi0
        have hi0' : i ≠ 0 := by simpa using hi0
        repeat walk_at "ev"
        refine ev_perm_append (fun v => ∃ t8, v = .str (Str.ofString "-") t8) O₇ (by walk_at "lk") (by walk_at "lk") hz (fun R r => ev_str fun t8 => r _ ⟨t8, rfl⟩) (fun v => by walk_at "upd") ?_
        rintro _ h₁₀ ⟨t8, rfl⟩ O₁₀
        repeat walk_at "ev"
        exact ⟨_, _, ⟨rfl, _, by rw [charsUp_succ, hmiss, if_neg hi0']; exact hP.snoc _ t8, rfl⟩, (O₁₀.binds (by walk_at "bsub"))⟩
  · rintro h₄ bs ns ⟨rfl, vsP, hP, rfl⟩ O₄
    repeat walk_at "ev"
    refine ev_meth F.plainAttrs_str F.slot_str_join F.type_str_join (ev_str fun t5 => ⟨str_type.1, str_type.2, ?_⟩)
    repeat walk_at "ev"
    refine ev_join (O₄.at (by walk_at "lk")) hP ?_ fun t' => ⟨stays_of kg O₄, t', rfl⟩
    exact join_room m
end
section
theorem drawn_ev {w : World} {g₀ h : Heap} (G : Gd w g₀) (hst : g₀.StaysIn h) {l : Addr} {vsS : List Value} {ss : List Int} (hl : h.IsList l vsS.toArray) (hS : Ints vsS ss) (hz : ss.length ≤ 63) :
    Ev w 340 (call (.ref 143) [.ref l]) h fun v h' => h.StaysIn h' ∧ ∃ T A B ms ns va vb, v = .ref T ∧ (∃ o, h'.get? T = some o ∧ TA [.ref A, .ref B] o) ∧ (∃ o, h'.get? A = some o ∧ LA va o) ∧ (∃ o, h'.get? B = some o ∧ LA vb o) ∧ Ints va ms ∧ Ints vb ns ∧ ms.length = 9 ∧ ns.length = 9 ∧
      (∀ m ∈ ms, 0 ≤ m ∧ m < 65536) ∧ ∀ n ∈ ns, n = 0 ∨ n = 1 := by
  refine' ev_def (binds := [(Str.ofString "script", .ref l)]) (names := [Str.ofString "script"]) [] G hst (fun _ hq => nomatch hq) List.nodup_nil ?k6 ?kfd ?k7 ?kb ?k9 ?kB ?km ?kN ?kc ?_ ?kr ?c2 ?c3 ?c4
  walk_at "enter"
  intro g L h₁ Gg sg kg _ O
  have hlg : g.IsList l vsS.toArray := let ⟨o, a, b⟩ := hl; ⟨o, kg _ _ a (nomatch ·), b⟩
  have hlh : ∀ h' : Heap, (∀ b o, g.get? b = some o → h'.get? b = some o) → h'.IsList l vsS.toArray := fun h' k => let ⟨o, a, b⟩ := hlg; ⟨o, k _ _ a, b⟩
  have hzs : vsS.length ≤ 63 := by rw [hS.length]; exact hz
  repeat walk_at "ev"
  rename_i vals O₀ st h₂ O₂
  refine ev_len (hlh _ O₂.keep) (by omega) fun t5 => ?_
  repeat walk_at "ev"
  refine ev_range (N := vsS.length) O₂ rfl fun r h₃ O₃ _ => ?_
  refine ev_iter_range O₃ (O₃.at (by walk_at "lk")) (by omega) fun I h₄ O₄ => ?_
  refine evl_it it_range (fun i bs ns => bs = [(Str.ofString "script", .ref l), (Str.ofString "vals", .ref vals)] ∧ ∃ vs xs, ns = [(vals, LA vs)] ∧ Ints vs xs ∧ xs.length = 9) (fun _ _ _ _ _ _ _ => trivial) ?_ ?_ (O₄.sub (ns' := [(I, RI vsS.length 0), (vals, _)]) (by walk_at "sub")) ⟨rfl, _, _, rfl, (by repeat constructor), rfl⟩
  · rintro i v h₅ bs ns hi ⟨tv, rfl⟩ ⟨rfl, vs, xs, rfl, hI, h9⟩ O₅
    refine ev_target ?_
    repeat walk_at "ev"
    have hfm : 0 ≤ (i : Int).fmod 9 ∧ (i : Int).fmod 9 < 9 := by rw [Int.fmod_eq_emod_of_nonneg _ (by decide)]; omega
    have hv9 : vs.length = 9 := by rw [hI.length, h9]
    refine ev_item_list_any (Own.at (by assumption) (by walk_at "lk")) hfm.1 (by omega) (by omega) fun v hv => ?_
    obtain ⟨x, tx, hx, rfl⟩ := hI.get hv
    repeat walk_at "ev"
    refine ev_item_isl (hlh _ (Own.keep (by assumption))) (by omega) (by omega) (by omega) fun v hv' => ?_
    obtain ⟨y, ty, hy, rfl⟩ := hS.get hv'
    repeat walk_at "ev"
    refine ev_setitem (by assumption) (by walk_at "lk") (by walk_at "upd") hfm.1 (by omega) (by omega) fun h₆ O₆ => ?_
    repeat walk_at "ev"
    exact ⟨_, _, ⟨rfl, _, _, rfl, hI.set _ _ _, by rw [List.length_set]; exact h9⟩, O₆.binds (by walk_at "bsub")⟩
  · rintro h₅ bs ns ⟨rfl, vs, xs, rfl, hI, h9⟩ O₅
    repeat walk_at "ev"
    have hv9 : vs.length = 9 := by rw [hI.length, h9]
    refine ev_comp (cl := []) rfl rfl (by decide) ?_
    repeat walk_at "ev"
    refine ev_iter_list O₅ (O₅.at (by walk_at "lk")) fun I₁ h₆ O₆ => ?_
    refine (compAt_it (J := fun i ys ex => Ints ys ((xs.take i).map (·.fmod 65536)) ∧ ex = []) Gg (it_list (l := vals) (vs := vs)) (self_list (vs := vs)) O₆ ?_ ⟨.nil, rfl⟩ ?_ ?_ (by decide) rfl).mono ?_
    · exact fun h' k => O₆.at_but (by walk_at "lk") k
    · rintro i ys ex ⟨hys, rfl⟩
      rw [hys.length]; simp; omega
    · rintro g' C D i v h₇ ys ex Gg' up _ hi hv ⟨hys, rfl⟩ O₇
      obtain ⟨x, tx, hx, rfl⟩ := hI.get hv
      refine ev_target ?_
      repeat walk_at "ev"
      exact ⟨_, [], ⟨ints_take (f := (·.fmod 65536)) hys hx, rfl⟩, by assumption⟩
    rintro A C h₇ ⟨va, ex, ⟨hva, rfl⟩, O₇⟩
    refine ⟨_, _, _, _, O₇, fun h₈ O₈ => ?_⟩
    clear O₇
    simp only [List.nil_append] at O₈
    repeat walk_at "ev"
    refine ev_comp (cl := []) rfl rfl (by decide) ?_
    repeat walk_at "ev"
    refine ev_iter_list O₈ (O₈.at (by walk_at "lk")) fun I₂ h₉ O₉ => ?_
    refine (compAt_it (J := fun i ys ex => Ints ys ((xs.take i).map fun x => (x.fdiv 65536).fmod 2) ∧ ex = []) Gg (it_list (l := vals) (vs := vs)) (self_list (vs := vs)) O₉ (fun h' k => O₉.at_but (by walk_at "lk") k) ⟨.nil, rfl⟩ ?_ ?_ (by decide) rfl).mono ?_
    · rintro i ys ex ⟨hys, rfl⟩
      rw [hys.length]; simp; omega
    · rintro g' C D i v h₁₀ ys ex Gg' up _ hi hv ⟨hys, rfl⟩ O₁₀
      obtain ⟨x, tx, hx, rfl⟩ := hI.get hv
      refine ev_target ?_
      repeat walk_at "ev"
      exact ⟨_, [], ⟨ints_take (f := fun x => (x.fdiv 65536).fmod 2) hys hx, rfl⟩, by assumption⟩
    rintro B C h₁₀ ⟨vb, ex, ⟨hvb, rfl⟩, O₁₀⟩
    refine ⟨_, _, _, _, O₁₀, fun h₁₁ O₁₁ => ?_⟩
    clear O₁₀
    simp only [List.nil_append] at O₁₁
    repeat walk_at "ev"
    rename_i T O₁₂ st₂
    rw [List.take_of_length_le (by rw [hI.length]; exact Nat.le_refl _)] at hva hvb
    refine ⟨stays_of kg O₁₂, T, A, B, _, _, va, vb, rfl, O₁₂.at (by walk_at "lk"), O₁₂.at (by walk_at "lk"), O₁₂.at (by walk_at "lk"), hva, hvb, by simpa using h9, by simpa using h9, ?_, ?_⟩
    · intro m hm
      obtain ⟨x, _, rfl⟩ := List.mem_map.mp hm
      rw [Int.fmod_eq_emod_of_nonneg _ (by decide)]; omega
    · intro m hm
      obtain ⟨x, _, rfl⟩ := List.mem_map.mp hm
      rw [Int.fmod_eq_emod_of_nonneg _ (by decide)]; omega
end
section
theorem siftdown_ev {w : World} {g₀ h : Heap} (G : Gd w g₀) (hst : g₀.StaysIn h) {l : Addr} {vs : List Value} {xs : List P2} {start pos : Nat} {t u : Tok} {R : Value → P2 → Prop} (hl : ∃ o, h.get? l = some o ∧ LA vs o) (hg : g₀.get? l = none) (hR : PrBut h l R) (hp : Rs R vs xs) (h1 : pos < xs.length) (hz : xs.length ≤ 1000) :
    Ev w 360 (call (.ref 84) [.ref l, .int (start : Int) t, .int (pos : Int) u]) h fun v h' => v = .none ∧ But l h h' ∧ ∃ vs', (∃ o, h'.get? l = some o ∧ LA vs' o) ∧ Rs R vs' (siftdown xs start pos) := by
  refine' ev_def (binds := [(Str.ofString "heap", .ref l), (Str.ofString "startpos", .int (start : Int) t), (Str.ofString "pos", .int (pos : Int) u)]) (names := [Str.ofString "heap", Str.ofString "startpos", Str.ofString "pos"]) [(l, LA vs)] G hst (fun q hq => by rw [List.mem_singleton.mp hq]; exact ⟨hl, hg⟩) (List.nodup_cons.mpr ⟨(fun z => nomatch z), List.nodup_nil⟩) ?k6 ?kfd ?k7 ?kb ?k9 ?kB ?km ?kN ?kc ?_ ?kr ?c2 ?c3 ?c4
  walk_at "enter"
  intro g L h₁ Gg sg kg _ O
  repeat walk_at "ev"
  have hG : ∀ v p, R v p → Pr g v p := hR.pr fun b o e q => kg b o e (by simpa using q)
  have hzv : vs.length ≤ 1000 := by rw [hp.1]; exact hz
  refine ev_item_list_any (O.at (by walk_at "lk")) (by omega) (by rw [hp.1]; omega) (by omega) fun v hv => ?_
  obtain ⟨px, hpx, hrx⟩ := hp.2 _ _ hv
  obtain ⟨a, tx, ux, rfl, hax⟩ := hG _ _ hrx
  repeat walk_at "ev"
  rename_i h₂ O₂
  refine ev_while_then (evl_while (fun k h' => ∃ t' vs' xs', Own g L h' [(Str.ofString "heap", .ref l), (Str.ofString "startpos", .int (start : Int) t), (Str.ofString "pos", .int (k : Int) t'), (Str.ofString "newitem", .ref a)] [(l, LA vs')] ∧ Rs R vs' xs' ∧ k < xs'.length ∧ xs'.length ≤ 1000 ∧ sdLoop px start k xs' = siftdown xs start pos) ?_ pos ⟨u, vs, xs, O₂, hp, h1, hz, ?_⟩)
  · rintro k h' ⟨t', vs', xs', O', hp', hk, hz', hend⟩
    repeat walk_at "ev"
    have hzv' : vs'.length ≤ 1000 := by rw [hp'.1]; exact hz'
    split
    · rename_i hlt
      have hlt' : start < k := by have := of_decide_eq_true hlt; omega
      repeat walk_at "ev"
      refine ev_shr1 (by omega) fun t9 => ?_
      rw [show ((k : Int) - 1) / 2 = (((k - 1) / 2 : Nat) : Int) by omega]
      repeat walk_at "ev"
      refine ev_item_list_any (Own.at (by assumption) (by walk_at "lk")) (by omega) (by rw [hp'.1]; omega) (by omega) fun v hv => ?_
      obtain ⟨py, hpy, hry⟩ := hp'.2 _ _ hv
      obtain ⟨b, ty, uy, rfl, hby⟩ := hG _ _ hry
      have hgy : xs'.getD ((k - 1) / 2) px = py := by rw [List.getD_eq_getElem?_getD]; rw [show ((((k - 1) / 2 : Nat) : Int)).toNat = (k - 1) / 2 by omega] at hpy; rw [hpy]; rfl
      repeat walk_at "ev"
      rename_i h₃ O₃
      refine ev_lt_pair (by decide) (let ⟨o, x, y⟩ := hax; ⟨o, O₃.keep _ _ x, y⟩) (let ⟨o, x, y⟩ := hby; ⟨o, O₃.keep _ _ x, y⟩) ⟨_, rfl, ?_⟩
      split
      · rename_i hcmp
        repeat walk_at "ev"
        refine ev_setitem O₃ (by walk_at "lk") (by walk_at "upd") (by omega) (by rw [hp'.1]; omega) (by omega) fun h₄ O₄ => ?_
        repeat walk_at "ev"
        rename_i h₅ O₅
        refine ⟨(k - 1) / 2, by omega, _, _, xs'.set k py, O₅.binds (by walk_at "bsub"), ?_, ?_, ?_, ?_⟩
        · exact hp'.set k hry
        · rw [List.length_set]; omega
        · rw [List.length_set]; exact hz'
        · rw [← hend]; exact (sd_step hlt' hgy hcmp).symm
      · rename_i hcmp
        repeat walk_at "ev"
        refine ev_setitem O₃ (by walk_at "lk") (by walk_at "upd") (by omega) (by rw [hp'.1]; omega) (by omega) fun h₄ O₄ => ?_
        repeat walk_at "ev"
        have hfin : xs'.set k px = siftdown xs start pos := by rw [← hend]; exact (sd_stop hlt' hgy hcmp).symm
        exact ⟨rfl, but_of kg O₄, _, O₄.at (by walk_at "lk"), by rw [← hfin]; exact hp'.set k hrx⟩
    · rename_i hlt
      have hlt' : ¬ start < k := fun q => hlt (decide_eq_true (by omega))
      have hfin : xs'.set k px = siftdown xs start pos := by rw [← hend]; exact (sd_end hlt').symm
      repeat walk_at "ev"
      refine ev_setitem O' (by walk_at "lk") (by walk_at "upd") (by omega) (by rw [hp'.1]; omega) (by omega) fun h₄ O₄ => ?_
      repeat walk_at "ev"
      exact ⟨rfl, but_of kg O₄, _, O₄.at (by walk_at "lk"), by rw [← hfin]; exact hp'.set k hrx⟩
  · unfold siftdown
    rw [show ((pos : Nat) : Int).toNat = pos from rfl] at hpx
    rw [List.getD_eq_getElem?_getD, hpx]; rfl
end
local macro_rules | `(tactic| walk_at "ev") => `(tactic| first
  | with_reducible first | refine iteF ?_ | refine nref_none ?_
  | ((with_reducible refine' ev_expr_then ?_ ?qi ?qs); (case qi => exact rfl); (case qs => exact rfl)))
section
theorem siftup_ev {w : World} {g₀ h : Heap} (G : Gd w g₀) (hst : g₀.StaysIn h) {l : Addr} {vs : List Value} {xs : List P2} {pos : Nat} {u : Tok} {R : Value → P2 → Prop} (hl : ∃ o, h.get? l = some o ∧ LA vs o) (hg : g₀.get? l = none) (hR : PrBut h l R) (hp : Rs R vs xs) (h1 : pos < xs.length) (hz : xs.length ≤ 1000) :
    Ev w 350 (call (.ref 91) [.ref l, .int (pos : Int) u]) h fun v h' => v = .none ∧ But l h h' ∧ ∃ vs', (∃ o, h'.get? l = some o ∧ LA vs' o) ∧ Rs R vs' (siftup xs pos) := by
  refine' ev_def (binds := [(Str.ofString "heap", .ref l), (Str.ofString "pos", .int (pos : Int) u)]) (names := [Str.ofString "heap", Str.ofString "pos"]) [(l, LA vs)] G hst (fun q hq => by rw [List.mem_singleton.mp hq]; exact ⟨hl, hg⟩) (List.nodup_cons.mpr ⟨(fun z => nomatch z), List.nodup_nil⟩) ?k6 ?kfd ?k7 ?kb ?k9 ?kB ?km ?kN ?kc ?_ ?kr ?c2 ?c3 ?c4
  walk_at "enter"
  intro g L h₁ Gg sg kg _ O
  have hG : ∀ v p, R v p → Pr g v p := hR.pr fun b o e q => kg b o e (by simpa using q)
  have hzv : vs.length ≤ 1000 := by rw [hp.1]; exact hz
  repeat walk_at "ev"
  refine ev_len (isList (O.at (by walk_at "lk"))) (by omega) fun t5 => ?_
  repeat walk_at "ev"
  refine ev_item_list_any (Own.at (by assumption) (by walk_at "lk")) (by omega) (by rw [hp.1]; omega) (by omega) fun v hv => ?_
  obtain ⟨px, hpx, hrx⟩ := hp.2 _ _ hv
  obtain ⟨a, tx, ux, rfl, hax⟩ := hG _ _ hrx
  repeat walk_at "ev"
  rename_i tc _ h₂ O₂
  refine ev_while_then (evl_while (fun k h' => ∃ p t₁ t₂ vs' xs', k = xs.length - p ∧ Own g L h' [(Str.ofString "heap", .ref l), (Str.ofString "pos", .int (p : Int) t₁), (Str.ofString "endpos", .int (vs.length : Int) t5), (Str.ofString "startpos", .int (pos : Int) u), (Str.ofString "newitem", .ref a), (Str.ofString "childpos", .int (2 * (p : Int) + 1) t₂)] [(l, LA vs')] ∧ Rs R vs' xs' ∧ xs'.length = xs.length ∧ p < xs.length ∧ suLoop xs.length p xs' = suLoop xs.length pos xs) ?_ (xs.length - pos) ⟨pos, _, _, vs, xs, rfl, O₂, hp, rfl, h1, rfl⟩)
  rintro k h' ⟨p, t₁, t₂, vs', xs', rfl, O', hp', hlen, hk, hend⟩
  have hvl : vs'.length = xs.length := by rw [hp'.1, hlen]
  have hvx : vs.length = xs.length := hp.1
  repeat walk_at "ev"
  split
  · rename_i hlt
    have hlt' : 2 * p + 1 < xs.length := by have := of_decide_eq_true hlt; omega
    repeat walk_at "ev"
    split
    · rename_i hr
      have hr' : 2 * p + 2 < xs.length := by have := of_decide_eq_true hr; omega
      repeat walk_at "ev"
      refine ev_item_list_any (Own.at (by assumption) (by walk_at "lk")) (by omega) (by omega) (by omega) fun v hv => ?_
      rw [show (2 * (p : Int) + 1).toNat = 2 * p + 1 by omega] at hv
      obtain ⟨b, ty, uy, rfl, hby⟩ := hG _ _ (hp'.get hv)
      repeat walk_at "ev"
      refine ev_item_list_any (Own.at (by assumption) (by walk_at "lk")) (by omega) (by omega) (by omega) fun v hv => ?_
      rw [show (2 * (p : Int) + 1 + 1).toNat = 2 * p + 2 by omega] at hv
      obtain ⟨c, tz, uz, rfl, hcz⟩ := hG _ _ (hp'.get hv)
      rename_i h₃ O₃ _
      refine ev_lt_pair (by decide) (let ⟨o, x, y⟩ := hby; ⟨o, O₃.keep _ _ x, y⟩) (let ⟨o, x, y⟩ := hcz; ⟨o, O₃.keep _ _ x, y⟩) ⟨_, rfl, ?_⟩
      split
      · rename_i hc
        have hc' : ¬ pLt (xs'.getD (2 * p + 1) default) (xs'.getD (2 * p + 2) default) = true := by simpa using hc
        repeat walk_at "ev"
        rename_i h₄ O₄
        refine ev_item_list_any (Own.at (by assumption) (by walk_at "lk")) (by omega) (by omega) (by omega) fun v hv => ?_
        rw [show (2*(p:Int)+1+1).toNat = 2*p+2 by omega] at hv
        have hrb := hp'.get hv
        obtain ⟨b', tb, ub, rfl, hb'⟩ := hG _ _ hrb
        repeat walk_at "ev"
        refine ev_setitem (by assumption) (by walk_at "lk") (by walk_at "upd") (by omega) (by omega) (by omega) fun h₅ O₅ => ?_
        repeat walk_at "ev"
        rename_i h₆ O₆
        refine' ⟨xs.length - (2*p+2), by omega, 2*p+2, _, _, _, xs'.set p (xs'.getD (2*p+2) default), rfl, ?own, ?a1, ?a2, ?a3, ?a4⟩
        case own =>
          rw [show (((2*p+2 : Nat)) : Int) = 2*(p:Int)+1+1 by omega]
          exact Own.binds (by assumption) (by walk_at "bsub")
        case a1 => exact hp'.set p hrb
        case a2 => rw [List.length_set]; exact hlen
        case a3 => omega
        case a4 => rw [← hend]; exact (su_right hr' hc').symm
      · rename_i hc
        have hc' : ¬ (2 * p + 2 < xs.length ∧ ¬ pLt (xs'.getD (2 * p + 1) default) (xs'.getD (2 * p + 2) default) = true) := by
          intro q; exact hc (by simpa using q.2)
        repeat walk_at "ev"
        rename_i h₄ O₄
        refine ev_item_list_any (Own.at (by assumption) (by walk_at "lk")) (by omega) (by omega) (by omega) fun v hv => ?_
        rw [show (2*(p:Int)+1).toNat = 2*p+1 by omega] at hv
        have hrb := hp'.get hv
        obtain ⟨b', tb, ub, rfl, hb'⟩ := hG _ _ hrb
        repeat walk_at "ev"
        refine ev_setitem (by assumption) (by walk_at "lk") (by walk_at "upd") (by omega) (by omega) (by omega) fun h₅ O₅ => ?_
        repeat walk_at "ev"
        rename_i h₆ O₆
        refine' ⟨xs.length - (2*p+1), by omega, 2*p+1, _, _, _, xs'.set p (xs'.getD (2*p+1) default), rfl, ?own, ?a1, ?a2, ?a3, ?a4⟩
        case own =>
          rw [show (((2*p+1 : Nat)) : Int) = 2*(p:Int)+1 by omega]
          exact Own.binds (by assumption) (by walk_at "bsub")
        case a1 => exact hp'.set p hrb
        case a2 => rw [List.length_set]; exact hlen
        case a3 => omega
        case a4 => rw [← hend]; exact (su_left hlt' hc').symm
    · rename_i hr
      have hc' : ¬ (2 * p + 2 < xs.length ∧ ¬ pLt (xs'.getD (2 * p + 1) default) (xs'.getD (2 * p + 2) default) = true) := by
        intro q; exact hr (decide_eq_true (by omega))
      repeat walk_at "ev"
      rename_i h₄ O₄
      refine ev_item_list_any (Own.at (by assumption) (by walk_at "lk")) (by omega) (by omega) (by omega) fun v hv => ?_
      rw [show (2*(p:Int)+1).toNat = 2*p+1 by omega] at hv
      have hrb := hp'.get hv
      obtain ⟨b', tb, ub, rfl, hb'⟩ := hG _ _ hrb
      repeat walk_at "ev"
      refine ev_setitem (by assumption) (by walk_at "lk") (by walk_at "upd") (by omega) (by omega) (by omega) fun h₅ O₅ => ?_
      repeat walk_at "ev"
      rename_i h₆ O₆
      refine' ⟨xs.length - (2*p+1), by omega, 2*p+1, _, _, _, xs'.set p (xs'.getD (2*p+1) default), rfl, ?own, ?a1, ?a2, ?a3, ?a4⟩
      case own =>
        rw [show (((2*p+1 : Nat)) : Int) = 2*(p:Int)+1 by omega]
        exact Own.binds (by assumption) (by walk_at "bsub")
      case a1 => exact hp'.set p hrb
      case a2 => rw [List.length_set]; exact hlen
      case a3 => omega
      case a4 => rw [← hend]; exact (su_left hlt' hc').symm
  · rename_i hlt
    have hlt' : ¬ 2 * p + 1 < xs.length := fun q => hlt (decide_eq_true (by omega))
    rw [su_end hlt'] at hend
    repeat walk_at "ev"
    refine ev_setitem (by assumption) (by walk_at "lk") (by walk_at "upd") (by omega) (by omega) (by omega) fun h₅ O₅ => ?_
    repeat walk_at "ev"
    refine ⟨O₅.keep, ?_⟩
    have hpx' : px = xs.getD pos default := by rw [List.getD_eq_getElem?_getD]; rw [show ((pos : Int)).toNat = pos from rfl] at hpx; rw [hpx]; rfl
    have hp5 : Rs R (vs'.set ((p : Int)).toNat (.ref a)) (xs'.set p px) := hp'.set p hrx
    have hR5 : PrBut h₅ l R := hR.keeps fun b o q e => O₅.keep b o (kg b o e (by simpa using q))
    refine ((siftdown_ev Gg O₅.keep (O₅.at (by walk_at "lk")) (O₅.fresh (φ := LA (vs'.set ((p : Int)).toNat (.ref a))) (by walk_at "lk")) hR5 hp5 (start := pos) (pos := p) (by rw [List.length_set]; omega) (by rw [List.length_set]; omega)).lift (by decide)).mono ?_
    rintro _ h₆ ⟨rfl, hb, vs₂, hl₂, hp₂⟩
    repeat walk_at "ev"
    refine ⟨rfl, fun b o q e => hb b o q (O₅.keep b o (kg b o e (by simpa using q))), vs₂, hl₂, ?_⟩
    unfold siftup
    dsimp only
    rw [← hend, ← hpx']
    exact hp₂
end
section
theorem heapify_ev {w : World} {g₀ h : Heap} (G : Gd w g₀) (hst : g₀.StaysIn h) {l : Addr} {vs : List Value} {xs : List P2} {R : Value → P2 → Prop} (hl : ∃ o, h.get? l = some o ∧ LA vs o) (hg : g₀.get? l = none) (hR : PrBut h l R) (hp : Rs R vs xs) (hz : xs.length ≤ 1000) :
    Ev w 340 (call (.ref 77) [.ref l]) h fun v h' => v = .none ∧ But l h h' ∧ ∃ vs', (∃ o, h'.get? l = some o ∧ LA vs' o) ∧ Rs R vs' (heapifyP xs) := by
  refine' ev_def (binds := [(Str.ofString "x", .ref l)]) (names := [Str.ofString "x"]) [(l, LA vs)] G hst (fun q hq => by rw [List.mem_singleton.mp hq]; exact ⟨hl, hg⟩) (List.nodup_cons.mpr ⟨(fun z => nomatch z), List.nodup_nil⟩) ?k6 ?kfd ?k7 ?kb ?k9 ?kB ?km ?kN ?kc ?_ ?kr ?c2 ?c3 ?c4
  walk_at "enter"
  intro g L h₁ Gg sg kg _ O
  have hzv : vs.length ≤ 1000 := by rw [hp.1]; exact hz
  repeat walk_at "ev"
  refine ev_len (isList (O.at (by walk_at "lk"))) (by omega) fun t5 => ?_
  repeat walk_at "ev"
  refine ev_range (N := vs.length / 2) (by assumption) (by rw [Int.fdiv_eq_ediv_of_nonneg _ (by decide)]; omega) fun r h₂ O₂ _ => ?_
  repeat walk_at "ev"
  refine ev_reversed O₂ (O₂.at (by walk_at "lk")) (by omega) fun I h₃ O₃ => ?_
  refine ev_iter_rev (O₃.at (by walk_at "lk")) ?_
  refine evl_it it_rev (fun i bs ns => bs = [(Str.ofString "x", .ref l), (Str.ofString "n", .int (vs.length : Int) t5)] ∧ ∃ vs', ns = [(l, LA vs')] ∧ Rs R vs' (hpLoop xs (vs.length / 2) i)) (fun _ _ _ _ _ _ _ => trivial) ?_ ?_ (O₃.sub (ns' := [(I, VI (vs.length / 2) 0), (l, LA vs)]) (by walk_at "sub")) ⟨rfl, vs, rfl, hp⟩
  · rintro i v h₄ bs ns hi ⟨tv, rfl⟩ ⟨rfl, vs', rfl, hp'⟩ O₄
    refine ev_target ?_
    repeat walk_at "ev"
    rename_i h₅ O₅
    refine ⟨O₅.keep, ?_⟩
    have hlen : (hpLoop xs (vs.length / 2) i).length = vs.length := by rw [hpLoop_length, hp.1]
    have hR5 : PrBut h₅ l R := hR.keeps fun b o q e => O₅.keep b o (kg b o e (by simpa using q))
    refine ((siftup_ev G (fun b o e => O₅.keep b o (sg b o e)) (O₅.at (φ := LA vs') (by walk_at "lk")) hg hR5 hp' (pos := vs.length / 2 - 1 - i) (by rw [hlen]; omega) (by rw [hlen]; omega)).lift (by decide)).mono ?_
    rintro _ h₆ ⟨rfl, hb, vs₂, hl₂, hp₂⟩
    repeat walk_at "ev"
    exact ⟨_, _, ⟨rfl, vs₂, rfl, hp₂⟩, (O₅.upd (φ' := LA vs₂) (by walk_at "upd") hb hl₂).binds (by walk_at "bsub")⟩
  · rintro h₄ bs ns ⟨_, vs', rfl, hp'⟩ O₄
    repeat walk_at "ev"
    refine ⟨rfl, but_of kg O₄, vs', O₄.at (by walk_at "lk"), ?_⟩
    unfold heapifyP
    rw [← hp.1]; exact hp'
theorem heapreplace_ev {w : World} {g₀ h : Heap} (G : Gd w g₀) (hst : g₀.StaysIn h) {l : Addr} {vs : List Value} {xs : List P2} {R : Value → P2 → Prop} {x : Value} {px : P2} (hl : ∃ o, h.get? l = some o ∧ LA vs o) (hg : g₀.get? l = none) (hR : PrBut h l R) (hp : Rs R vs xs) (hx : R x px) (h0 : 0 < xs.length) (hz : xs.length ≤ 1000) :
    Ev w 340 (call (.ref 70) [.ref l, x]) h fun v h' => But l h h' ∧ ∃ vs', (∃ o, h'.get? l = some o ∧ LA vs' o) ∧ R v (heapreplaceP xs px).1 ∧ Rs R vs' (heapreplaceP xs px).2 := by
  refine' ev_def (binds := [(Str.ofString "heap", .ref l), (Str.ofString "item", x)]) (names := [Str.ofString "heap", Str.ofString "item"]) [(l, LA vs)] G hst (fun q hq => by rw [List.mem_singleton.mp hq]; exact ⟨hl, hg⟩) (List.nodup_cons.mpr ⟨(fun z => nomatch z), List.nodup_nil⟩) ?k6 ?kfd ?k7 ?kb ?k9 ?kB ?km ?kN ?kc ?_ ?kr ?c2 ?c3 ?c4
  walk_at "enter"
  intro g L h₁ Gg sg kg _ O
  have hzv : vs.length ≤ 1000 := by rw [hp.1]; exact hz
  repeat walk_at "ev"
  refine ev_item_list_any (Own.at (by assumption) (by walk_at "lk")) (by omega) (by rw [hp.1]; omega) (by omega) fun v hv => ?_
  have hrv := hp.get hv
  repeat walk_at "ev"
  refine ev_setitem (by assumption) (by walk_at "lk") (by walk_at "upd") (by omega) (by rw [hp.1]; omega) (by omega) fun h₂ O₂ => ?_
  repeat walk_at "ev"
  refine ⟨O₂.keep, ?_⟩
  have hR2 : PrBut h₂ l R := hR.keeps fun b o q e => O₂.keep b o (kg b o e (by simpa using q))
  refine ((siftup_ev G (fun b o e => O₂.keep b o (sg b o e)) (O₂.at (φ := LA (vs.set ((0 : Int)).toNat x)) (by walk_at "lk")) hg hR2 (hp.set 0 hx) (pos := 0) (by rw [List.length_set]; omega) (by rw [List.length_set]; omega)).lift (by decide)).mono ?_
  rintro _ h₃ ⟨rfl, hb, vs₂, hl₂, hp₂⟩
  have O₃ := O₂.upd (φ' := LA vs₂) (by walk_at "upd") hb hl₂
  repeat walk_at "ev"
  refine ⟨but_of kg O₃, vs₂, hl₂, ?_, hp₂⟩
  unfold heapreplaceP
  cases xs with
  | nil => exact absurd h0 (Nat.lt_irrefl 0)
  | cons y r => exact hrv
theorem heappop_ev {w : World} {g₀ h : Heap} (G : Gd w g₀) (hst : g₀.StaysIn h) {l : Addr} {vs : List Value} {xs : List P2} {R : Value → P2 → Prop} (hl : ∃ o, h.get? l = some o ∧ LA vs o) (hg : g₀.get? l = none) (hR : PrBut h l R) (hp : Rs R vs xs) (h0 : 0 < xs.length) (hz : xs.length ≤ 1000) :
    Ev w 340 (call (.ref 63) [.ref l]) h fun v h' => But l h h' ∧ ∃ vs', (∃ o, h'.get? l = some o ∧ LA vs' o) ∧ R v (heappopP xs).1 ∧ Rs R vs' (heappopP xs).2 := by
  obtain ⟨vs₀, v₀, rfl⟩ : ∃ vs₀ v₀, vs = vs₀ ++ [v₀] := by
    have : vs ≠ [] := fun e => by rw [e] at hp; have := hp.1; simp at this; omega
    exact ⟨_, _, (List.dropLast_concat_getLast this).symm⟩
  obtain ⟨ys, y, rfl, hpy, hry⟩ := hp.dropLast
  refine' ev_def (binds := [(Str.ofString "heap", .ref l)]) (names := [Str.ofString "heap"]) [(l, LA (vs₀ ++ [v₀]))] G hst (fun q hq => by rw [List.mem_singleton.mp hq]; exact ⟨hl, hg⟩) (List.nodup_cons.mpr ⟨(fun z => nomatch z), List.nodup_nil⟩) ?k6 ?kfd ?k7 ?kb ?k9 ?kB ?km ?kN ?kc ?_ ?kr ?c2 ?c3 ?c4
  walk_at "enter"
  intro g L h₁ Gg sg kg _ O
  have hlen := hpy.1
  have hzv : vs₀.length ≤ 1000 := by rw [List.length_append] at hz; omega
  repeat walk_at "ev"
  refine ev_meth0 F.plainAttrs_list F.slot_list_pop F.type_list_pop (ev_local O (by walk_at "lk") ⟨(list_type (O.at (by walk_at "lk"))).1, (list_type (O.at (by walk_at "lk"))).2, ?_⟩ rfl rfl rfl (by decide +kernel)) rfl rfl
  refine ev_pop O (by walk_at "lk") (by walk_at "upd") hzv fun h₂ O₂ => ?_
  repeat walk_at "ev"
  rename_i h₃ O₃
  refine ev_truth ?_ rfl
  repeat walk_at "ev"
  refine ev_truthy_list (O₃.at (by walk_at "lk")) hzv ?_
  cases vs₀ with
  | nil =>
    have : ys = [] := List.eq_nil_of_length_eq_zero hlen.symm
    subst this
    refine iteF ?_
    simp only [List.nil_append]
    repeat walk_at "ev"
    exact ⟨but_of kg O₃, [], O₃.at (by walk_at "lk"), hry, .nil⟩
  | cons v₁ vs₀ =>
    cases ys with
    | nil => simp at hlen
    | cons y₁ ys =>
      refine iteT ?_
      repeat walk_at "ev"
      refine ev_item_list_any (Own.at (by assumption) (by walk_at "lk")) (by omega) (by rw [List.length_cons]; omega) (by omega) fun v hv => ?_
      have hrv := hpy.get hv
      repeat walk_at "ev"
      refine ev_setitem (by assumption) (by walk_at "lk") (by walk_at "upd") (by omega) (by rw [List.length_cons]; omega) (by omega) fun h₄ O₄ => ?_
      repeat walk_at "ev"
      refine ⟨O₄.keep, ?_⟩
      have hR4 : PrBut h₄ l R := hR.keeps fun b o q e => O₄.keep b o (kg b o e (by simpa using q))
      refine ((siftup_ev G (fun b o e => O₄.keep b o (sg b o e)) (O₄.at (φ := LA ((v₁ :: vs₀).set ((0 : Int)).toNat v₀)) (by walk_at "lk")) hg hR4 (hpy.set 0 hry) (pos := 0) (by rw [List.length_set, List.length_cons]; omega) (by rw [List.length_set]; omega)).lift (by decide)).mono ?_
      rintro _ h₅ ⟨rfl, hb, vs₂, hl₂, hp₂⟩
      have O₅ := O₄.upd (φ' := LA vs₂) (by walk_at "upd") hb hl₂
      repeat walk_at "ev"
      have e : heappopP (y₁ :: (ys ++ [y])) = (y₁, siftup ((y₁ :: ys).set 0 y) 0) := by
        rw [← List.cons_append]
        unfold heappopP
        rw [List.dropLast_concat, List.getLastD_concat]
      rw [e]
      exact ⟨but_of kg O₅, vs₂, hl₂, hrv, hp₂⟩
end
local macro_rules | `(tactic| walk_at "meth5") => `(tactic| ((case m1 => exact rfl); (case m2 => exact rfl); (case m3 => exact rfl); (case m4 => exact rfl); (case m5 => exact rfl)))
local macro_rules | `(tactic| walk_at "meth2") => `(tactic| ((case m1 => exact rfl); (case m2 => exact rfl)))
local macro_rules | `(tactic| walk_at "enterC") => `(tactic| ((case k6 => k_is); (case kfd => exact rfl); (case k7 => k_is); (case kb => exact rfl); (case k9 => exact rfl); (case kcl => exact rfl); (case kk => exact rfl); (case kN => decide +kernel); (case kcs => exact fun _ => rfl); (case kr => decide); (case c2 => exact rfl); (case c3 => exact rfl); (case c4 => exact rfl)))
local macro_rules | `(tactic| walk_at "ev") => `(tactic| first
  | ((with_reducible refine' ev_cell ?qO ?qc ?qb ?_ ?qk ?ql ?qd); walk_at "qO"; walk_at "kl"; (case qc => exact rfl); walk_at "qb"; walk_at "qd")
  | ((with_reducible refine' ev_cellg ?qc ?qb ?_ ?qk ?ql ?qd); walk_at "kl"; (case qc => exact rfl); (case qb => exact Own.up (by assumption) (by assumption)); walk_at "qd")
  | ((with_reducible refine' ev_free ?qc ?qb ?_ ?qk ?ql ?qd ?qn); walk_at "kl"; (case qc => exact rfl); (case qb => first | exact Own.up (by assumption) (by assumption) | exact Own.at (by assumption) (by walk_at "lk")); walk_at "qd"; (case qn => decide +kernel))
  | ((with_reducible refine' ev_storecell ?qO ?qc ?qb ?qp ?qU ?_ ?qk ?ql); walk_at "qO"; walk_at "kl"; (case qc => exact rfl); walk_at "qb"; (case qp => exact fun _ z => z); (case qU => walk_at "upd"); (intro h' O')))
section
theorem levels_ev {w : World} {g₀ h : Heap} (G : Gd w g₀) (hst : g₀.StaysIn h) {l : Addr} {vs : List Value} {xs : List Int} (hl : ∃ o, h.get? l = some o ∧ LA vs o) (hx : Ints vs xs) (hz : xs.length ≤ 100) :
    Ev w 340 (call (.ref 162) [.ref l]) h fun v h' => h.StaysIn h' ∧ ∃ D ys, v = .ref D ∧ (∃ o, h'.get? D = some o ∧ LA ys o) ∧ Ints ys (levelsOf xs) := by
  refine' ev_cells (binds := [(Str.ofString "numbers", .ref l)]) (bs := []) [] (fun L => [(L + 1 + 1 + 1, CA none), (L + 1 + 1, CA none), (L + 1, CA (some (.ref l)))]) G hst (fun _ hq => nomatch hq) List.nodup_nil ?k6 ?kfd ?k7 ?kb ?k9 ?kcl ?kk ?kN (fun _ _ hq => nomatch hq) ?kcs ?_ ?kr ?c2 ?c3 ?c4
  walk_at "enterC"
  intro g L h₁ Gg H O
  have hlg : ∃ o, g.get? l = some o ∧ LA vs o := up_of hl fun o e => H.of _ _ e (nomatch ·)
  have hzv : vs.length ≤ 100 := by rw [hx.length]; exact hz
  simp only [List.cons_append, List.nil_append] at O
  repeat walk_at "ev"
  refine ev_len (isList (Own.up (by assumption) hlg)) (by omega) fun t5 => ?_
  repeat walk_at "ev"
  rename_i _ lev _ _ h₂ O₂
  refine ev_range (N := vs.length) O₂ rfl fun r h₃ O₃ _ => ?_
  refine ev_iter_range O₃ (O₃.at (by walk_at "lk")) (by omega) fun I h₄ O₄ => ?_
  refine evl_it it_range (fun i bs ns => bs = [] ∧ ∃ kv ys, ns = [(lev, LA ys), (L + 1 + 1 + 1, CA kv), (L + 1 + 1, CA (some (.ref lev))), (L + 1, CA (some (.ref l)))] ∧ Ints ys (levelsUp xs i)) (fun _ _ _ _ _ _ _ => trivial) ?_ ?_ (O₄.sub (ns' := [(I, RI vs.length 0), (lev, LA []), (L + 1 + 1 + 1, CA none), (L + 1 + 1, CA (some (.ref lev))), (L + 1, CA (some (.ref l)))]) (by walk_at "sub")) ⟨rfl, none, [], rfl, .nil⟩
  · rintro i v h₅ bs ns hi ⟨tv, rfl⟩ ⟨rfl, kv, ys, rfl, hys⟩ O₅
    refine ev_target ?_
    have hyl : ys.length = i := by rw [hys.length, levelsUp_length]
    repeat walk_at "ev"
    rename_i h₆ O₆
    refine' ev_meth F.plainAttrs_list F.slot_list_append F.type_list_append ?_ ?m1 ?m2 ?m3 ?m4 ?m5
    walk_at "meth5"
    repeat walk_at "ev"
    refine ⟨(list_type (O₆.at (by walk_at "lk"))).1, (list_type (O₆.at (by walk_at "lk"))).2, ?_⟩
    repeat walk_at "ev"
    refine' ev_comp (cl := [(Str.ofString "numbers", L + 1), (Str.ofString "levels", L + 1 + 1), (Str.ofString "k", L + 1 + 1 + 1)]) ?m1 ?m2 ?m3 ?_ ?m4
    case m1 => exact rfl
    case m2 => exact rfl
    case m3 => decide
    case m4 => exact fun _ => rfl
    repeat walk_at "ev"
    refine ev_range (N := i) O₆ rfl fun r h₇ O₇ _ => ?_
    refine ev_iter_range O₇ (O₇.at (by walk_at "lk")) (by omega) fun I₁ h₈ O₈ => ?_
    refine (compAt_it (J := fun j zs ex => Ints zs (candL xs (levelsUp xs i) i j) ∧ ex = [] ∧ j ≤ i) Gg (it_range (N := i)) self_range O₈ (fun _ _ => trivial) ⟨.nil, rfl, Nat.zero_le _⟩ ?_ ?_ (by decide) rfl).mono ?_
    · rintro j zs ex ⟨hzs, rfl, q⟩
      rw [hzs.length]
      exact Nat.le_trans (candL_length _ _ _ _) (by omega)
    · rintro g' C D j v h₉ zs ex Gg' up _ hj ⟨tj, rfl⟩ ⟨hzs, rfl, _⟩ O₉
      have up' : ∀ b o, b ≠ I₁ → h₈.get? b = some o → g'.get? b = some o := fun b o q e => up b o e q
      have c1 := O₈.at_but (a := L + 1) (ψ := CA (some (.ref l))) (by walk_at "lk") up'
      have c2 := O₈.at_but (a := L + 1 + 1) (ψ := CA (some (.ref lev))) (by walk_at "lk") up'
      have c3 := O₈.at_but (a := L + 1 + 1 + 1) (ψ := CA (some (.int (i : Int) tv))) (by walk_at "lk") up'
      have c4 := O₈.at_but (a := lev) (ψ := LA ys) (by walk_at "lk") up'
      have c5 := O₈.up_but hlg up'
      refine ev_target ?_
      repeat walk_at "ev"
      refine ev_item_list_any (Own.up (by assumption) c5) (by omega) (by omega) (by omega) fun v hv => ?_
      obtain ⟨t1, rfl⟩ := hx.getD hv
      repeat walk_at "ev"
      refine ev_item_list_any (Own.up (by assumption) c5) (by omega) (by omega) (by omega) fun v hv => ?_
      obtain ⟨t2, rfl⟩ := hx.getD hv
      repeat walk_at "ev"
      split
      · rename_i hc
        repeat walk_at "ev"
        refine ev_item_list_any (Own.up (by assumption) c4) (by omega) (by omega) (by omega) fun v hv => ?_
        obtain ⟨t3, rfl⟩ := hys.getD hv
        repeat walk_at "ev"
        simp only [Int.toNat_natCast] at hc ⊢
        exact ⟨_, [], ⟨by rw [candL_take hc]; exact hzs.snoc _ _, rfl, hj⟩, by assumption⟩
      · rename_i hc
        simp only [Int.toNat_natCast, Bool.not_eq_true] at hc
        exact ⟨_, ⟨by rw [candL_skip hc]; exact hzs, rfl, hj⟩, by assumption⟩
    rintro A C h₉ ⟨zs, ex, ⟨hzs, rfl, _⟩, O₉⟩
    refine ⟨_, _, _, _, O₉, fun h₁₀ O₁₀ => ?_⟩
    clear O₉
    simp only [List.nil_append] at O₁₀
    repeat walk_at "ev"
    rename_i z h₁₁ B O₁₁ st₁₁
    have hzl : zs.length ≤ i := by rw [hzs.length]; exact candL_length _ _ _ _
    refine ev_add_lists O₁₁ (O₁₁.at (by walk_at "lk")) (O₁₁.at (by walk_at "lk")) (by show zs.length + 1 ≤ _; omega) fun S h₁₂ O₁₂ st₁₂ => ?_
    repeat walk_at "ev"
    have hZ : Ints (zs ++ [.int 0 z]) (candL xs (levelsUp xs i) i i ++ [0]) := hzs.snoc 0 z
    refine ev_max (O₁₂.at (by walk_at "lk")) hZ (by rw [List.length_append]; exact Nat.succ_pos _) fun h₁₃ M t st₁₃ hm hu => ?_
    have O₁₃ := O₁₂.stay st₁₃
    repeat walk_at "ev"
    refine ev_append O₁₃ (by walk_at "lk") (fun _ z => z) (by walk_at "upd") (by omega) fun h₁₄ O₁₄ => nref_none ?_
    repeat walk_at "ev"
    refine ⟨[], _, ⟨rfl, _, _, rfl, ?_⟩, O₁₄.sub (by walk_at "sub")⟩
    have := max_is hm hu
    subst this
    exact hys.snoc _ _
  · rintro h₅ bs ns ⟨rfl, kv, ys, rfl, hys⟩ O₅
    repeat walk_at "ev"
    refine ⟨fun b o e => O₅.keep b o (H.of b o e (nomatch ·)), lev, ys, rfl, O₅.at (by walk_at "lk"), ?_⟩
    unfold levelsOf
    rw [← hx.length]; exact hys
end
local macro_rules | `(tactic| walk_at "here") => `(tactic| first | exact Own.at (by assumption) (by walk_at "lk") | exact Own.up (by assumption) (by assumption))
local macro_rules | `(tactic| walk_at "ev") => `(tactic| first
  | ((with_reducible refine' ev_slice_str ?_ ?qt); (case qt => intro _ _; exact rfl))
  | ((with_reducible refine' ev_slice_upto ?_ ?qt); (case qt => intro _ _; exact rfl))
  | with_reducible refine ev_ins ?_
  | ((with_reducible refine' ev_setattr_then ?_ ?qm); walk_at "qm")
  | ((with_reducible refine' ev_attr ?_ ?qm); walk_at "qm")
  | ((with_reducible refine' ev_getattr ?qG ?qO ?qx ?qd ?q1 ?q2 ?q3 ?q4 ?q5 ?_); (case qG => assumption); (case qO => exact Own.keep (by assumption)); (case qx => walk_at "here"); (case qd => walk_at "here"); walk_at "q123"; (case q4 => exact rfl); (case q5 => exact rfl))
  | ((with_reducible refine' ev_setattr ?qG ?qO ?qx ?qd ?qU ?qp ?qz ?q1 ?q2 ?q3 ?q4 ?_); walk_at "go"; (case qx => walk_at "here"); (case qd => walk_at "lk"); (case qU => walk_at "upd"); (case qp => walk_at "put"); (case qz => exact Nat.le_of_ble_eq_true rfl); walk_at "q123"; (case q4 => k_is); (intro h' O'))
  | ((with_reducible refine' ev_augname_then ?_))
  | ((with_reducible refine' ev_loadlocal ?qO ?qb ?_ ?qL ?qk ?ql); walk_at "qO"; walk_at "qb"; walk_at "Lkl"))
section
noncomputable abbrev kvs0 (fp : Value) (pb : Addr) (t1 t2 : Tok) : List (Str × Value) := [(Str.ofString "lineno", .int 1 t1), (Str.ofString "instream", fp), (Str.ofString "whitespace", .str (Str.ofString "\n\t\r ") t2), (Str.ofString "pushback", .ref pb)]
theorem init_ek {w : World} {g₀ h : Heap} (G : Gd w g₀) (hst : g₀.StaysIn h) {x dx : Addr} {fp : Value} (hx : ∃ o, h.get? x = some o ∧ XA 52 dx o) (hdd : ∃ o, h.get? dx = some o ∧ DA [] o) (hg : g₀.get? dx = none) (hne : x ≠ dx) :
    EvK w 345 (.call (.ref 28) ⟨[.ref x, fp], []⟩) h fun v h' => v = .none ∧ ∃ pb t1 t2, Res h [(dx, DA [])] h' [(pb, LA []), (dx, DA (kvs0 fp pb t1 t2))] := by
  refine' ek_defK (binds := [(Str.ofString "self", .ref x), (Str.ofString "fp", fp)]) (names := [Str.ofString "self", Str.ofString "fp"]) [(dx, DA [])] G hst (fun q hq => by rw [List.mem_singleton.mp hq]; exact ⟨hdd, hg⟩) (List.nodup_cons.mpr ⟨(fun z => nomatch z), List.nodup_nil⟩) ?k6 ?kfd ?k7 ?kb ?k9 ?kB ?km ?kN ?kc ?_ ?kr ?c2 ?c3 ?c4
  walk_at "enter"
  intro g L h₁ Gg H O
  have hxg : ∃ o, g.get? x = some o ∧ XA 52 dx o := up_of hx fun o e => H.of _ _ e (by simpa using hne)
  repeat walk_at "ev"
  rename_i h₂ O₂
  exact ⟨rfl, _, _, _, res_of H O₂⟩
theorem newlex_ev {w : World} {g h : Heap} {L : Addr} {bs : List (Str × Value)} {ns : List (Addr × As)} {n : Nat} {fp : Value} {P : Value → Heap → Prop} (G : Gd w g) (O : Own g L h bs ns) (hn : n ≤ 344)
    (k : ∀ x dx pb t1 t2 h', Own g L h' bs ((pb, LA []) :: (dx, DA (kvs0 fp pb t1 t2)) :: (x, XA 52 dx) :: ns) → P (.ref x) h') : Ev w n (call (.ref 52) [fp]) h P := by
  refine' ev_new (fI := 28) G O ?a1 ?a2 ?a3 (by omega) fun x dx h' O' => ?_
  case a1 => k_is
  case a2 => k_is
  case a3 => k_is
  have nd := O'.nd
  simp only [List.map_cons, List.nodup_cons, List.mem_cons, not_or] at nd
  refine ((init_ek G O'.keep (O'.at (.head _)) (O'.at (.tail _ (.head _))) (O'.fresh (.tail _ (.head _))) nd.1.1).lift (by omega)).mono ?_
  rintro v h₂ ⟨rfl, pb, t1, t2, r⟩
  refine ⟨rfl, k x dx pb t1 t2 h₂ ?_⟩
  have O₂ : Own g L h' bs ([(dx, DA [])] ++ ((x, XA 52 dx) :: ns)) := O'.perm (List.Perm.swap _ _ _)
  exact O₂.res r
theorem push_ek {w : World} {g₀ h : Heap} (G : Gd w g₀) (hst : g₀.StaysIn h) {x dx pb : Addr} {fp v : Value} {t1 t2 : Tok} {vs : List Value} (hx : ∃ o, h.get? x = some o ∧ XA 52 dx o) (hdd : ∃ o, h.get? dx = some o ∧ DA (kvs0 fp pb t1 t2) o) (hp : ∃ o, h.get? pb = some o ∧ LA vs o) (hg : g₀.get? pb = none) (hne : x ≠ pb) (hne' : dx ≠ pb) (hz : vs.length ≤ 900) :
    EvK w 345 (.call (.ref 49) ⟨[.ref x, v], []⟩) h fun v' h' => v' = .none ∧ Res h [(pb, LA vs)] h' [(pb, LA (vs ++ [v]))] := by
  refine' ek_defK (binds := [(Str.ofString "self", .ref x), (Str.ofString "token", v)]) (names := [Str.ofString "self", Str.ofString "token"]) [(pb, LA vs)] G hst (fun q hq => by rw [List.mem_singleton.mp hq]; exact ⟨hp, hg⟩) (List.nodup_cons.mpr ⟨(fun z => nomatch z), List.nodup_nil⟩) ?k6 ?kfd ?k7 ?kb ?k9 ?kB ?km ?kN ?kc ?_ ?kr ?c2 ?c3 ?c4
  walk_at "enter"
  intro g L h₁ Gg H O
  have hxg : ∃ o, g.get? x = some o ∧ XA 52 dx o := up_of hx fun o e => H.of _ _ e (by simpa using hne)
  have hdg : ∃ o, g.get? dx = some o ∧ DA (kvs0 fp pb t1 t2) o := up_of hdd fun o e => H.of _ _ e (by simpa using hne')
  repeat walk_at "ev"
  refine' ev_meth F.plainAttrs_list F.slot_list_append F.type_list_append ?_ ?m1 ?m2 ?m3 ?m4 ?m5
  walk_at "meth5"
  repeat walk_at "ev"
  refine ⟨(list_type (O.at (by walk_at "lk"))).1, (list_type (O.at (by walk_at "lk"))).2, ?_⟩
  repeat walk_at "ev"
  refine ev_append O (by walk_at "lk") (fun _ z => z) (by walk_at "upd") (by omega) fun h₂ O₂ => nref_none ?_
  repeat walk_at "ev"
  exact ⟨rfl, res_of H O₂⟩
theorem take_ek {w : World} {g₀ h : Heap} (G : Gd w g₀) (hst : g₀.StaysIn h) {x dx pb : Addr} {fp v : Value} {t1 t2 : Tok} {vs : List Value} (hx : ∃ o, h.get? x = some o ∧ XA 52 dx o) (hdd : ∃ o, h.get? dx = some o ∧ DA (kvs0 fp pb t1 t2) o) (hp : ∃ o, h.get? pb = some o ∧ LA (v :: vs) o) (hg : g₀.get? pb = none) (hne : x ≠ pb) (hne' : dx ≠ pb) (hz : vs.length ≤ 900) :
    EvK w 345 (.call (.ref 42) ⟨[.ref x], []⟩) h fun v' h' => v' = v ∧ Res h [(pb, LA (v :: vs))] h' [(pb, LA vs)] := by
  refine' ek_defK (binds := [(Str.ofString "self", .ref x)]) (names := [Str.ofString "self"]) [(pb, LA (v :: vs))] G hst (fun q hq => by rw [List.mem_singleton.mp hq]; exact ⟨hp, hg⟩) (List.nodup_cons.mpr ⟨(fun z => nomatch z), List.nodup_nil⟩) ?k6 ?kfd ?k7 ?kb ?k9 ?kB ?km ?kN ?kc ?_ ?kr ?c2 ?c3 ?c4
  walk_at "enter"
  intro g L h₁ Gg H O
  have hxg : ∃ o, g.get? x = some o ∧ XA 52 dx o := up_of hx fun o e => H.of _ _ e (by simpa using hne)
  have hdg : ∃ o, g.get? dx = some o ∧ DA (kvs0 fp pb t1 t2) o := up_of hdd fun o e => H.of _ _ e (by simpa using hne')
  repeat walk_at "ev"
  refine ev_truth ?_ rfl
  repeat walk_at "ev"
  refine ev_truthy_list (O.at (by walk_at "lk")) (by rw [List.length_cons]; omega) ?_
  refine iteT ?_
  repeat walk_at "ev"
  refine' ev_meth F.plainAttrs_list F.slot_list_pop F.type_list_pop ?_ ?m1 ?m2 ?m3 ?m4 ?m5
  walk_at "meth5"
  repeat walk_at "ev"
  refine ⟨(list_type (O.at (by walk_at "lk"))).1, (list_type (O.at (by walk_at "lk"))).2, ?_⟩
  repeat walk_at "ev"
  refine ev_pop0 O (by walk_at "lk") (by walk_at "upd") (by omega) fun h₂ O₂ => ?_
  repeat walk_at "ev"
  exact ⟨rfl, res_of H O₂⟩
end
section
theorem with_lookup {K : Frag} {a : Addr} {o fo : Obj} {P : Prop} (e : K.lookup a = some o) (hl : K.lookup a = some fo) (k : o = fo → P) : P := k (by rw [e] at hl; exact Option.some.inj hl)
noncomputable def giveOf (fd : FuncData) : Option (Str × Arguments × List Stmt × Scope) := match fd.body with
  | .stmts b => match (b[3]? : Option Stmt) with
    | some (Stmt.FunctionDef nm ps bd _ _ _ sc _ _ _) => some (nm, ps, bd, sc)
    | _ => none
  | _ => none
noncomputable abbrev giveObj (nm qual : Str) (ps : Arguments) (bd : List Stmt) (sc : Scope) (cT cA : Addr) (doc pm : Value) (c' : Addr) (ctv : Value) : Obj := fnMade nm qual ps bd sc [(Str.ofString "text", cT), (Str.ofString "at", cA)] doc pm c' ctv
theorem ne_of_CA {h : Heap} {a b : Addr} {v : Option Value} {vs : List Value} (x : ∃ o, h.get? a = some o ∧ CA v o) (y : ∃ o, h.get? b = some o ∧ LA vs o) : a ≠ b := fun e => by
  subst e
  obtain ⟨o, e1, z1⟩ := x
  obtain ⟨o', e2, m, rfl⟩ := y
  rw [e1] at e2; cases e2; cases z1
theorem give_ek {w : World} {g₀ h : Heap} (G : Gd w g₀) (hst : g₀.StaysIn h) {fo : Obj} {fdl : FuncData} (hl : (hd.heap_1 w.params).lookup 167 = some fo) (hfl : fo.data = .func fdl) {nm : Str} {ps : Arguments} {bd : List Stmt} {sc : Scope} (hgv : giveOf fdl = some (nm, ps, bd, sc))
    {f c' cT cA a : Addr} {doc pm ctv : Value} {qual x : Str} {t tp t1 : Tok} {p : Nat} (hf : h.get? f = some (giveObj nm qual ps bd sc cT cA doc pm c' ctv)) (hcd : h.CodeRec (.ref c') qual)
    (hT : ∃ o, h.get? cT = some o ∧ CA (some (.str x t)) o) (hA : ∃ o, h.get? cA = some o ∧ CA (some (.ref a)) o) (ha : ∃ o, h.get? a = some o ∧ LA [.int (p : Int) tp] o) (hg : g₀.get? a = none) (hp : p ≤ x.length) (hz : x.length ≤ 1000) :
    EvK w 348 (.call (.ref f) ⟨[.int 1 t1], []⟩) h fun v h' => ∃ t' tp', v = .str (chunk x p) t' ∧ Res h [(a, LA [.int (p : Int) tp])] h' [(a, LA [.int ((p + (chunk x p).length : Nat) : Int) tp'])] := by
  refine' with_lookup ?e hl ?_
  case e => k_is
  intro ho
  subst ho
  cases hfl
  replace hgv : some (_, _, _, _) = some (nm, ps, bd, sc) := hgv
  cases hgv
  clear hl
  refine' ek_def (binds := [(Str.ofString "size", .int 1 t1)]) (names := [Str.ofString "size"]) [(a, LA [.int (p : Int) tp])] G hst (fun q hq => by rw [List.mem_singleton.mp hq]; exact ⟨ha, hg⟩) (List.nodup_cons.mpr ⟨(fun z => nomatch z), List.nodup_nil⟩) hf ?kfd ?k7 ?kb ?k9 ?kB ?km ?kN ?kc ?_ ?kr ?c2 ?c3 ?c4
  case kfd => exact rfl
  case k7 => exact hcd
  case kb => exact rfl
  case k9 => exact rfl
  case kB => exact locs rfl
  case km => exact rfl
  case kN => decide +kernel
  case kc => (dsimp only; decide)
  case kr => decide
  case c2 => exact rfl
  case c3 => exact rfl
  case c4 => exact rfl
  intro g L h₁ Gg H O
  have hTg : ∃ o, g.get? cT = some o ∧ CA (some (.str x t)) o := up_of hT fun o e => H.of _ _ e (by simpa using ne_of_CA hT ha)
  have hAg : ∃ o, g.get? cA = some o ∧ CA (some (.ref a)) o := up_of hA fun o e => H.of _ _ e (by simpa using ne_of_CA hA ha)
  repeat walk_at "ev"
  refine ev_item_list (O.at (by walk_at "lk")) (by decide) (by decide) rfl ?_
  repeat walk_at "ev"
  refine ev_item_list (O.at (by walk_at "lk")) (by decide) (by decide) rfl ?_
  repeat walk_at "ev"
  rename_i ts
  refine ⟨x, t, (p : Int), tp, (p : Int) + 1, ts, rfl, rfl, rfl, by omega, fun t' h₂ st => ?_⟩
  rw [slice_chunk x p hp]
  have O₂ := O.stay st
  clear O
  repeat walk_at "ev"
  rename_i h₃ O₃ _
  refine ev_item_list (O₃.at (by walk_at "lk")) (by decide) (by decide) rfl ?_
  repeat walk_at "ev"
  have hc : (chunk x p).length ≤ 1 := by rw [str_len]; unfold chunk; simp; omega
  refine ev_len_str (by omega) fun t2 => ?_
  repeat walk_at "ev"
  refine ev_setitem O₃ (by walk_at "lk") (by walk_at "upd") (by decide) (by simp) (by simp) fun h₄ O₄ => ?_
  repeat walk_at "ev"
  exact ⟨_, _, rfl, res_of H O₄⟩
end
section
/-- a reader and what it stands on -/
structure Rdr where
  rx : Addr
  rdx : Addr
  rpb : Addr
  sx : Addr
  sdx : Addr
  spb : Addr
  f : Addr
  c' : Addr
  cT : Addr
  cA : Addr
  fo : Obj
  fdl : FuncData
  nm : Str
  ps : Arguments
  bd : List Stmt
  sc : Scope
  doc : Value
  pm : Value
  ctv : Value
  qual : Str
  X : Str
  tX : Tok
  t1 : Tok
  t2 : Tok
  t3 : Tok
  t4 : Tok
structure Rdr.Ok (r : Rdr) (w : World) (h : Heap) (a : Addr) : Prop where
  look : (hd.heap_1 w.params).lookup 167 = some r.fo
  fdl : r.fo.data = .func r.fdl
  give : giveOf r.fdl = some (r.nm, r.ps, r.bd, r.sc)
  rx : Atn a h r.rx (XA 52 r.rdx)
  rdx : Atn a h r.rdx (DA (kvs0 (.ref r.sx) r.rpb r.t1 r.t2))
  rpb : Atn a h r.rpb (LA [])
  sx : Atn a h r.sx (XA 52 r.sdx)
  sdx : Atn a h r.sdx (DA (kvs0 .none r.spb r.t3 r.t4 ++ [(Str.ofString "read", .ref r.f)]))
  f : Atn a h r.f (fun o => o = giveObj r.nm r.qual r.ps r.bd r.sc r.cT r.cA r.doc r.pm r.c' r.ctv)
  c' : Atn a h r.c' (CodeA r.qual)
  cT : Atn a h r.cT (CA (some (.str r.X r.tX)))
  cA : Atn a h r.cA (CA (some (.ref a)))
  len : r.X.length ≤ 1000
  noNl : 10 ∉ r.X.cps.toList
theorem Rdr.Ok.keeps {r : Rdr} {w : World} {h h' : Heap} {a : Addr} (x : r.Ok w h a) (k : ∀ b o, b ≠ a → h.get? b = some o → h'.get? b = some o) : r.Ok w h' a :=
  ⟨x.look, x.fdl, x.give, x.rx.keeps k, x.rdx.keeps k, x.rpb.keeps k, x.sx.keeps k, x.sdx.keeps k, x.f.keeps k, x.c'.keeps k, x.cT.keeps k, x.cA.keeps k, x.len, x.noNl⟩
theorem Rdr.Ok.crec {r : Rdr} {w : World} {h : Heap} {a : Addr} (x : r.Ok w h a) : h.CodeRec (.ref r.c') r.qual := let ⟨_, o, e, vs, t, d, q⟩ := x.c'; ⟨r.c', o, vs, t, rfl, e, d, q⟩
theorem nl_eq : Str.ofString "\n" = ⟨#[10]⟩ := by decide +kernel
theorem read_ek {w : World} {g₀ h : Heap} (G : Gd w g₀) (hst : g₀.StaysIn h) {r : Rdr} {a : Addr} {tp : Tok} {p : Nat} (R : r.Ok w h a) (ha : ∃ o, h.get? a = some o ∧ LA [.int (p : Int) tp] o) (hg : g₀.get? a = none) (hp : p ≤ r.X.length) :
    EvK w 346 (.call (.ref 35) ⟨[.ref r.rx], []⟩) h fun v h' => ∃ t' tp', v = .str (chunk r.X p) t' ∧ Res h [(a, LA [.int (p : Int) tp])] h' [(a, LA [.int ((p + (chunk r.X p).length : Nat) : Int) tp'])] := by
  refine' ek_defK (binds := [(Str.ofString "self", .ref r.rx)]) (names := [Str.ofString "self"]) [(a, LA [.int (p : Int) tp])] G hst (fun q hq => by rw [List.mem_singleton.mp hq]; exact ⟨ha, hg⟩) (List.nodup_cons.mpr ⟨(fun z => nomatch z), List.nodup_nil⟩) ?k6 ?kfd ?k7 ?kb ?k9 ?kB ?km ?kN ?kc ?_ ?kr ?c2 ?c3 ?c4
  walk_at "enter"
  intro g L h₁ Gg H O
  have Rg : r.Ok w g a := R.keeps H.but1
  have x1 := Rg.rx.2
  have x2 := Rg.rdx.2
  repeat walk_at "ev"
  refine' ev_mcall ?_ ?m1
  case m1 => exact rfl
  repeat walk_at "ev"
  have x3 := Rg.sx.2
  have x4 := Rg.sdx.2
  refine' ev_getmeth_own Gg O.keep (O.up x3) (O.up x4) ?q1 ?q5 ?q2 ?q3 ?q4 ?_
  case q1 => exact rfl
  case q5 => exact rfl
  case q2 => k_is
  case q3 => k_is
  case q4 => k_is
  refine' callw_F (fd := fnX r.nm r.qual r.ps r.bd r.sc [(Str.ofString "text", r.cT), (Str.ofString "at", r.cA)] .none .none r.doc r.pm none (.ref r.c') r.ctv) ?_ ?m1 ?m2
  case m1 => exact rfl
  case m2 => exact rfl
  repeat walk_at "ev"
  have Rh : r.Ok w h₁ a := Rg.keeps fun b o q e => O.keep b o e
  refine ⟨let ⟨_, o, e, z⟩ := Rh.f; ⟨o, e, _, _, _, z⟩, ?_⟩
  refine (((give_ek G (fun b o e => O.keep b o (H.up b o e)) Rh.look Rh.fdl Rh.give (let ⟨_, o, e, z⟩ := Rh.f; z ▸ e) Rh.crec Rh.cT.2 Rh.cA.2 (O.at (φ := LA [.int (p : Int) tp]) (by walk_at "lk")) hg hp Rh.len).lift (by decide)).call).mono ?_
  rintro v h₂ ⟨t', tp', rfl, rs⟩
  have O₂ : Own g L h₂ _ [(a, LA [.int ((p + (chunk r.X p).length : Nat) : Int) tp'])] := O.res1 rs
  clear O
  repeat walk_at "ev"
  rw [nl_eq, chunk_ne Rh.noNl]
  refine iteF ?_
  dsimp only [List.nil_append]
  repeat walk_at "ev"
  rename_i h₃ O₃ _
  exact ⟨_, _, rfl, res_of H O₃⟩
end
section
theorem empty_eq : Str.ofString "" = ⟨#[]⟩ := by decide +kernel
theorem Gd.fn {w : World} {g h : Heap} (G : Gd w g) (st : g.StaysIn h) {f : Addr} {fo : Obj} (e : (hd.heap_1 w.params).lookup f = some fo) : h.get? f = some fo := G.K.keeps st _ _ e
theorem rdnext_ev {w : World} {g h : Heap} {L : Addr} {bs : List (Str × Value)} {ns : List (Addr × As)} {n : Nat} {P : Option Value → Heap → Prop} (G : Gd w g) {r : Rdr} {a I q : Addr} {tp : Tok} {p : Nat} (O : Own g L h bs ((a, LA [.int (p : Int) tp]) :: (I, CI q (Str.ofString "")) :: (q, MA 35 r.rx) :: ns)) (R : r.Ok w g a) (hn : n ≤ 345) (hp : p ≤ r.X.length)
    (k1 : ∀ c, r.X.cps.toList[p]? = some c → ∀ h' t tp', Own g L h' bs ((a, LA [.int ((p + 1 : Nat) : Int) tp']) :: (I, CI q (Str.ofString "")) :: (q, MA 35 r.rx) :: ns) → P (some (.str ⟨#[c]⟩ t)) h')
    (k2 : p = r.X.length → ∀ h' tp', Own g L h' bs ((a, LA [.int (p : Int) tp']) :: (I, CE) :: (q, MA 35 r.rx) :: ns) → P none h') : Ev w n (pyNext (.ref I)) h P := by
  have Rh : r.Ok w h a := R.keeps fun b o z e => O.keep b o e
  refine' ev_next_ci (O.at (by walk_at "lk")) (O.at (by walk_at "lk")) (Gd.fn G O.keep ?hl) ?hfd ?_
  case hl => k_is
  case hfd => exact rfl
  refine (EvK.lift (m := 346) (read_ek G O.keep Rh (O.at (by walk_at "lk")) (O.fresh (φ := LA [.int (p : Int) tp]) (by walk_at "lk")) hp) (by omega)).mono ?_
  rintro v h₁ ⟨t', tp', rfl, rs⟩
  have O₁ : Own g L h₁ bs ((a, LA [.int ((p + (chunk r.X p).length : Nat) : Int) tp']) :: (I, CI q (Str.ofString "")) :: (q, MA 35 r.rx) :: ns) := O.res1 rs
  refine ⟨_, t', rfl, O₁.at (by walk_at "lk"), O₁.at (by walk_at "lk"), Gd.fn G O₁.keep (by k_is), ?_⟩
  rcases Nat.lt_or_ge p r.X.length with hlt | hge
  · have hlt' := hlt
    rw [str_len] at hlt'
    have e := chunk_lt (List.getElem?_eq_getElem hlt')
    rw [e] at O₁ ⊢
    rw [if_neg (by rw [empty_eq]; intro z; injection z with z; simp at z)]
    exact k1 _ (List.getElem?_eq_getElem hlt') _ _ _ O₁
  · have e := chunk_end hge
    have hpe : p = r.X.length := by omega
    rw [e] at O₁ ⊢
    rw [if_pos (by rw [empty_eq])]
    exact fun h₂ b ho => k2 hpe h₂ _ (O₁.upd (φ' := CE) (.tail .head) b ho)
theorem ws_eq : Str.ofString "\n\t\r " = ⟨#[10, 9, 13, 32]⟩ := by decide +kernel
theorem ws_no_all : ∀ c, c < 128 → c ≠ 9 ∧ c ≠ 10 ∧ c ≠ 13 ∧ c ≠ 32 → Txt.contains (Str.ofString "\n\t\r ") ⟨#[c]⟩ = false := by decide +kernel
theorem ws_no {c : Nat} (h : plainC c ∨ c = 34) : Txt.contains (Str.ofString "\n\t\r ") ⟨#[c]⟩ = false := by
  rcases h with ⟨h0, h1, h2, h3, h4, _⟩ | h
  · exact ws_no_all c h0 ⟨h1, h2, h3, h4⟩
  · subst h; exact ws_no_all 34 (by decide) (by decide)
theorem ws_yes : Txt.contains (Str.ofString "\n\t\r ") ⟨#[32]⟩ = true := by decide +kernel
theorem one_ne {c k : Nat} (h : c ≠ k) : ((⟨#[c]⟩ : Str) == ⟨#[k]⟩) = false := by
  rw [beq_eq_false_iff_ne]; intro z; injection z with z; simp at z; exact h z
theorem dq_eq : Str.ofString "\"" = ⟨#[34]⟩ := by decide +kernel
theorem bs_eq : Str.ofString "\\" = ⟨#[92]⟩ := by decide +kernel
theorem dq_no {c : Nat} (h : c ≠ 34) : ((⟨#[c]⟩ : Str) == Str.ofString "\"") = false := by rw [dq_eq]; exact one_ne h
theorem bs_no {c : Nat} (h : c ≠ 92) : ((⟨#[c]⟩ : Str) == Str.ofString "\\") = false := by rw [bs_eq]; exact one_ne h
theorem dq_yes : ((⟨#[34]⟩ : Str) == Str.ofString "\"") = true := by decide +kernel
theorem emp_app (y : Str) : Str.ofString "" ++ y = y := by rw [empty_eq]; exact Str.empty_append y
theorem app_eq (l : List Nat) (d : Nat) : (⟨l.toArray⟩ : Str) ++ ⟨#[d]⟩ = ⟨(l ++ [d]).toArray⟩ := by
  apply Str.ext'
  rw [Str.cps_append]
  simp
theorem lst_len (l : List Nat) : (⟨l.toArray⟩ : Str).length = l.length := by simp [Str.length]
theorem bare_ek {w : World} {g₀ h : Heap} (G : Gd w g₀) (hst : g₀.StaysIn h) {r : Rdr} {a : Addr} {tp : Tok} {p : Nat} (R : r.Ok w h a) (ha : ∃ o, h.get? a = some o ∧ LA [.int (p : Int) tp] o) (hg : g₀.get? a = none) {c0 : Nat} {u rest : List Nat} (hx : r.X.cps.toList.drop p = c0 :: u ++ 32 :: rest) (hpl : ∀ c ∈ c0 :: u, plainC c) :
    EvK w 340 (.call (.ref 42) ⟨[.ref r.rx], []⟩) h fun v h' => ∃ t' tp', v = .str ⟨(c0 :: u).toArray⟩ t' ∧ Res h [(a, LA [.int (p : Int) tp])] h' [(a, LA [.int ((p + u.length + 2 : Nat) : Int) tp'])] := by
  refine' ek_defK (binds := [(Str.ofString "self", .ref r.rx)]) (names := [Str.ofString "self"]) [(a, LA [.int (p : Int) tp])] G hst (fun q hq => by rw [List.mem_singleton.mp hq]; exact ⟨ha, hg⟩) (List.nodup_cons.mpr ⟨(fun z => nomatch z), List.nodup_nil⟩) ?k6 ?kfd ?k7 ?kb ?k9 ?kB ?km ?kN ?kc ?_ ?kr ?c2 ?c3 ?c4
  walk_at "enter"
  intro g L h₁ Gg H O
  have Rg : r.Ok w g a := R.keeps H.but1
  have x1 := Rg.rx.2
  have x2 := Rg.rdx.2
  have x5 := Rg.rpb.2
  repeat walk_at "ev"
  refine ev_truth ?_ rfl
  repeat walk_at "ev"
  refine ev_truthy_list (O.up x5) (by decide) ?_
  refine iteF ?_
  dsimp only [List.nil_append]
  repeat walk_at "ev"
  rename_i h₂ O₂
  refine' ev_getbound (f := 35) Gg O₂ (O₂.up x1) (O₂.up x2) ?q1 ?q2 ?q3 ?q4 ?q5 ?q6 ?q7 ?q8 fun q h₃ O₃ => ?_
  case q1 => k_is
  case q2 => k_is
  case q3 => k_is
  case q4 => k_is
  case q5 => k_is
  case q6 => k_is
  case q7 => decide +kernel
  case q8 => exact rfl
  repeat walk_at "ev"
  refine ev_iter2 O₃ (O₃.at (by walk_at "lk")) fun I h₄ O₄ => ?_
  repeat walk_at "ev"
  rename_i h₅ O₅
  refine ev_iter_ci (let ⟨o, e, z⟩ := O₅.at (φ := CI q (Str.ofString "")) (by walk_at "lk"); ⟨o, e, .inl z⟩) ?_
  have O₆ : Own g L h₅ _ [(a, LA [.int (p : Int) tp]), (I, CI q (Str.ofString "")), (q, MA 35 r.rx)] := O₅.perm (List.perm_append_comm (l₂ := [(I, CI q (Str.ofString "")), (q, MA 35 r.rx)]) (l₁ := [(a, LA [.int (p : Int) tp])]))
  have hdl : r.X.cps.toList.length - p = u.length + 2 + rest.length := by rw [← List.length_drop, hx]; simp; omega
  have hlen : r.X.length = p + (u.length + 2 + rest.length) := by rw [str_len]; omega
  have hget : ∀ i, r.X.cps.toList[p + i]? = (c0 :: u ++ 32 :: rest)[i]? := fun i => by rw [← hx, List.getElem?_drop]
  have hxl := Rg.len
  rename_i tk0 _
  refine evl_for (fun _ h' => Own g L h' [(Str.ofString "self", .ref r.rx), (Str.ofString "token", .str (Str.ofString "") tk0), (Str.ofString "fiter", .ref I)] [(a, LA [.int (p : Int) tp]), (I, CI q (Str.ofString "")), (q, MA 35 r.rx)]) ?_ 0 O₆
  intro _ h₆ O₇
  refine rdnext_ev Gg O₇ Rg (by decide) (by omega) (fun c hc h₈ tc tp1 O₈ => ?_) (fun e => by omega)
  have hc0 : c = c0 := by
    have := hget 0
    rw [Nat.add_zero, hc] at this
    simpa using this
  subst hc0
  have hpc : plainC c := hpl c List.mem_cons_self
  refine ev_target ?_
  repeat walk_at "ev"
  rw [ws_no (.inl hpc)]
  refine iteF ?_
  repeat walk_at "ev"
  rw [dq_no hpc.2.2.2.2.2.1]
  refine iteF ?_
  repeat walk_at "ev"
  rw [bs_no hpc.2.2.2.2.2.2]
  refine iteF ?_
  repeat walk_at "ev"
  refine ev_iadds (by rw [empty_eq]; simp [Str.length]) fun t9 => ?_
  rw [emp_app]
  repeat walk_at "ev"
  rename_i h₉ O₉
  refine ev_iter_ci (let ⟨o, e, z⟩ := O₉.at (φ := CI q (Str.ofString "")) (by walk_at "lk"); ⟨o, e, .inl z⟩) ?_
  refine evl_for (fun k h' => ∃ i t tp' chv, k = u.length - i ∧ i ≤ u.length ∧ Own g L h' [(Str.ofString "self", .ref r.rx), (Str.ofString "token", .str ⟨(c :: u.take i).toArray⟩ t), (Str.ofString "fiter", .ref I), (Str.ofString "ch", chv)] [(a, LA [.int ((p + 1 + i : Nat) : Int) tp']), (I, CI q (Str.ofString "")), (q, MA 35 r.rx)]) ?_ u.length ⟨0, t9, tp1, _, rfl, Nat.zero_le _, by rw [List.take_zero]; exact O₉⟩
  rintro k h' ⟨i, t, tp', chv, rfl, hi, O'⟩
  refine rdnext_ev Gg O' Rg (by decide) (by omega) (fun d hd h₁₀ td tp2 O₁₀ => ?_) (fun e => by omega)
  have hdi : (u ++ 32 :: rest)[i]? = some d := by
    have := hget (1 + i)
    rw [← Nat.add_assoc, hd] at this
    rw [this, Nat.add_comm 1 i]; rfl
  refine ev_target ?_
  repeat walk_at "ev"
  rename_i hX OX
  by_cases hiu : i < u.length
  · rw [List.getElem?_append_left hiu] at hdi
    have hpd : plainC d := hpl d (.tail _ (List.mem_of_getElem? hdi))
    rw [ws_no (.inl hpd)]
    refine iteF ?_
    repeat walk_at "ev"
    rw [bs_no hpd.2.2.2.2.2.2]
    refine iteF ?_
    repeat walk_at "ev"
    refine ev_iadds (by rw [lst_len]; simp [Str.length]; omega) fun t8 => ?_
    rw [app_eq, show c :: List.take i u ++ [d] = c :: u.take (i + 1) by rw [List.take_add_one, hdi]; rfl]
    repeat walk_at "ev"
    rename_i h₁₁ O₁₁
    exact ⟨u.length - (i + 1), by omega, i + 1, t8, tp2, _, rfl, hiu, O₁₁⟩
  · have hie : i = u.length := by omega
    subst hie
    rw [List.getElem?_append_right (Nat.le_refl _), Nat.sub_self] at hdi
    have : d = 32 := by simpa using hdi.symm
    subst this
    rw [List.take_length, show p + 1 + u.length + 1 = p + u.length + 2 by omega] at OX
    rw [ws_yes]
    refine iteT ?_
    repeat walk_at "ev"
    show Then _ _ _ _ _ _ _
    refine then_ret ?_
    show Then _ _ _ _ _ _ _
    refine then_ret ?_
    exact ⟨_, _, rfl, res_of H (OX.sub (by walk_at "sub"))⟩
end
section
theorem quoted_ek {w : World} {g₀ h : Heap} (G : Gd w g₀) (hst : g₀.StaysIn h) {r : Rdr} {a : Addr} {tp : Tok} {p : Nat} (R : r.Ok w h a) (ha : ∃ o, h.get? a = some o ∧ LA [.int (p : Int) tp] o) (hg : g₀.get? a = none) {u rest : List Nat} (hx : r.X.cps.toList.drop p = 34 :: u ++ 34 :: rest) (hpl : ∀ c ∈ u, plainC c) :
    EvK w 340 (.call (.ref 42) ⟨[.ref r.rx], []⟩) h fun v h' => ∃ t' tp', v = .str ⟨u.toArray⟩ t' ∧ Res h [(a, LA [.int (p : Int) tp])] h' [(a, LA [.int ((p + u.length + 2 : Nat) : Int) tp'])] := by
  refine' ek_defK (binds := [(Str.ofString "self", .ref r.rx)]) (names := [Str.ofString "self"]) [(a, LA [.int (p : Int) tp])] G hst (fun q hq => by rw [List.mem_singleton.mp hq]; exact ⟨ha, hg⟩) (List.nodup_cons.mpr ⟨(fun z => nomatch z), List.nodup_nil⟩) ?k6 ?kfd ?k7 ?kb ?k9 ?kB ?km ?kN ?kc ?_ ?kr ?c2 ?c3 ?c4
  walk_at "enter"
  intro g L h₁ Gg H O
  have Rg : r.Ok w g a := R.keeps H.but1
  have x1 := Rg.rx.2
  have x2 := Rg.rdx.2
  have x5 := Rg.rpb.2
  repeat walk_at "ev"
  refine ev_truth ?_ rfl
  repeat walk_at "ev"
  refine ev_truthy_list (O.up x5) (by decide) ?_
  refine iteF ?_
  dsimp only [List.nil_append]
  repeat walk_at "ev"
  rename_i h₂ O₂
  refine' ev_getbound (f := 35) Gg O₂ (O₂.up x1) (O₂.up x2) ?q1 ?q2 ?q3 ?q4 ?q5 ?q6 ?q7 ?q8 fun q h₃ O₃ => ?_
  case q1 => k_is
  case q2 => k_is
  case q3 => k_is
  case q4 => k_is
  case q5 => k_is
  case q6 => k_is
  case q7 => decide +kernel
  case q8 => exact rfl
  repeat walk_at "ev"
  refine ev_iter2 O₃ (O₃.at (by walk_at "lk")) fun I h₄ O₄ => ?_
  repeat walk_at "ev"
  rename_i h₅ O₅
  refine ev_iter_ci (let ⟨o, e, z⟩ := O₅.at (φ := CI q (Str.ofString "")) (by walk_at "lk"); ⟨o, e, .inl z⟩) ?_
  have O₆ : Own g L h₅ _ [(a, LA [.int (p : Int) tp]), (I, CI q (Str.ofString "")), (q, MA 35 r.rx)] := O₅.perm (List.perm_append_comm (l₂ := [(I, CI q (Str.ofString "")), (q, MA 35 r.rx)]) (l₁ := [(a, LA [.int (p : Int) tp])]))
  have hdl : r.X.cps.toList.length - p = u.length + 2 + rest.length := by rw [← List.length_drop, hx]; simp; omega
  have hlen : r.X.length = p + (u.length + 2 + rest.length) := by rw [str_len]; omega
  have hget : ∀ i, r.X.cps.toList[p + i]? = (34 :: u ++ 34 :: rest)[i]? := fun i => by rw [← hx, List.getElem?_drop]
  have hxl := Rg.len
  rename_i tk0 _
  refine evl_for (fun _ h' => Own g L h' [(Str.ofString "self", .ref r.rx), (Str.ofString "token", .str (Str.ofString "") tk0), (Str.ofString "fiter", .ref I)] [(a, LA [.int (p : Int) tp]), (I, CI q (Str.ofString "")), (q, MA 35 r.rx)]) ?_ 0 O₆
  intro _ h₆ O₇
  refine rdnext_ev Gg O₇ Rg (by decide) (by omega) (fun c hc h₈ tc tp1 O₈ => ?_) (fun e => by omega)
  have hc0 : c = 34 := by
    have := hget 0
    rw [Nat.add_zero, hc] at this
    simpa using this
  subst hc0
  refine ev_target ?_
  repeat walk_at "ev"
  rw [ws_no (.inr rfl)]
  refine iteF ?_
  repeat walk_at "ev"
  rw [dq_yes]
  refine iteT ?_
  repeat walk_at "ev"
  rename_i h₉ O₉ _
  refine ev_iter_ci (let ⟨o, e, z⟩ := O₉.at (φ := CI q (Str.ofString "")) (by walk_at "lk"); ⟨o, e, .inl z⟩) ?_
  refine evl_for (fun k h' => ∃ i t tp' chv, k = u.length - i ∧ i ≤ u.length ∧ Own g L h' [(Str.ofString "self", .ref r.rx), (Str.ofString "token", .str ⟨(u.take i).toArray⟩ t), (Str.ofString "fiter", .ref I), (Str.ofString "ch", chv)] [(a, LA [.int ((p + 1 + i : Nat) : Int) tp']), (I, CI q (Str.ofString "")), (q, MA 35 r.rx)]) ?_ u.length ⟨0, tk0, tp1, _, rfl, Nat.zero_le _, by rw [List.take_zero]; rw [empty_eq] at O₉; exact O₉⟩
  rintro k h' ⟨i, t, tp', chv, rfl, hi, O'⟩
  refine rdnext_ev Gg O' Rg (by decide) (by omega) (fun d hd h₁₀ td tp2 O₁₀ => ?_) (fun e => by omega)
  have hdi : (u ++ 34 :: rest)[i]? = some d := by
    have := hget (1 + i)
    rw [← Nat.add_assoc, hd] at this
    rw [this, Nat.add_comm 1 i]; rfl
  refine ev_target ?_
  repeat walk_at "ev"
  rename_i hX OX _
  by_cases hiu : i < u.length
  · rw [List.getElem?_append_left hiu] at hdi
    have hpd : plainC d := hpl d (List.mem_of_getElem? hdi)
    rw [dq_no hpd.2.2.2.2.2.1]
    refine iteF ?_
    repeat walk_at "ev"
    rw [bs_no hpd.2.2.2.2.2.2]
    refine iteF ?_
    repeat walk_at "ev"
    refine ev_iadds (by rw [lst_len]; simp [Str.length]; omega) fun t8 => ?_
    rw [app_eq, show List.take i u ++ [d] = u.take (i + 1) by rw [List.take_add_one, hdi]; rfl]
    repeat walk_at "ev"
    rename_i h₁₁ O₁₁
    exact ⟨u.length - (i + 1), by omega, i + 1, t8, tp2, _, rfl, hiu, O₁₁⟩
  · have hie : i = u.length := by omega
    subst hie
    rw [List.getElem?_append_right (Nat.le_refl _), Nat.sub_self] at hdi
    have : d = 34 := by simpa using hdi.symm
    subst this
    rw [List.take_length, show p + 1 + u.length + 1 = p + u.length + 2 by omega] at OX
    rw [dq_yes]
    refine iteT ?_
    repeat walk_at "ev"
    show Then _ _ _ _ _ _ _
    refine then_ret ?_
    show Then _ _ _ _ _ _ _
    refine then_ret ?_
    exact ⟨_, _, rfl, res_of H (OX.sub (by walk_at "sub"))⟩
theorem end_ek {w : World} {g₀ h : Heap} (G : Gd w g₀) (hst : g₀.StaysIn h) {r : Rdr} {a : Addr} {tp : Tok} {p : Nat} (R : r.Ok w h a) (ha : ∃ o, h.get? a = some o ∧ LA [.int (p : Int) tp] o) (hg : g₀.get? a = none) (hpx : p = r.X.length) :
    EvK w 340 (.call (.ref 42) ⟨[.ref r.rx], []⟩) h fun v h' => ∃ t' tp', v = .str (Str.ofString "") t' ∧ Res h [(a, LA [.int (p : Int) tp])] h' [(a, LA [.int (p : Int) tp'])] := by
  refine' ek_defK (binds := [(Str.ofString "self", .ref r.rx)]) (names := [Str.ofString "self"]) [(a, LA [.int (p : Int) tp])] G hst (fun q hq => by rw [List.mem_singleton.mp hq]; exact ⟨ha, hg⟩) (List.nodup_cons.mpr ⟨(fun z => nomatch z), List.nodup_nil⟩) ?k6 ?kfd ?k7 ?kb ?k9 ?kB ?km ?kN ?kc ?_ ?kr ?c2 ?c3 ?c4
  walk_at "enter"
  intro g L h₁ Gg H O
  have Rg : r.Ok w g a := R.keeps H.but1
  have x1 := Rg.rx.2
  have x2 := Rg.rdx.2
  have x5 := Rg.rpb.2
  repeat walk_at "ev"
  refine ev_truth ?_ rfl
  repeat walk_at "ev"
  refine ev_truthy_list (O.up x5) (by decide) ?_
  refine iteF ?_
  dsimp only [List.nil_append]
  repeat walk_at "ev"
  rename_i h₂ O₂
  refine' ev_getbound (f := 35) Gg O₂ (O₂.up x1) (O₂.up x2) ?q1 ?q2 ?q3 ?q4 ?q5 ?q6 ?q7 ?q8 fun q h₃ O₃ => ?_
  case q1 => k_is
  case q2 => k_is
  case q3 => k_is
  case q4 => k_is
  case q5 => k_is
  case q6 => k_is
  case q7 => decide +kernel
  case q8 => exact rfl
  repeat walk_at "ev"
  refine ev_iter2 O₃ (O₃.at (by walk_at "lk")) fun I h₄ O₄ => ?_
  repeat walk_at "ev"
  rename_i h₅ O₅
  refine ev_iter_ci (let ⟨o, e, z⟩ := O₅.at (φ := CI q (Str.ofString "")) (by walk_at "lk"); ⟨o, e, .inl z⟩) ?_
  have O₆ : Own g L h₅ _ [(a, LA [.int (p : Int) tp]), (I, CI q (Str.ofString "")), (q, MA 35 r.rx)] := O₅.perm (List.perm_append_comm (l₂ := [(I, CI q (Str.ofString "")), (q, MA 35 r.rx)]) (l₁ := [(a, LA [.int (p : Int) tp])]))
  rename_i tk0 _
  refine evl_for (fun _ h' => Own g L h' [(Str.ofString "self", .ref r.rx), (Str.ofString "token", .str (Str.ofString "") tk0), (Str.ofString "fiter", .ref I)] [(a, LA [.int (p : Int) tp]), (I, CI q (Str.ofString "")), (q, MA 35 r.rx)]) ?_ 0 O₆
  intro _ h₆ O₇
  refine rdnext_ev Gg O₇ Rg (by decide) (by omega) (fun c hc => ?_) (fun _ h₈ tp1 O₈ => ?_)
  · have := (List.getElem?_eq_some_iff.mp hc).1
    rw [← str_len] at this
    omega
  · repeat walk_at "ev"
    exact ⟨_, _, rfl, res_of H (O₈.sub (by walk_at "sub"))⟩
end
section
theorem str_of_cps (x : Str) : (⟨x.cps.toList.toArray⟩ : Str) = x := by obtain ⟨c⟩ := x; simp
theorem token_ek {w : World} {g₀ h : Heap} (G : Gd w g₀) (hst : g₀.StaysIn h) {r : Rdr} {a : Addr} {tp : Tok} {names : List Str} {mans : List Int} {i n : Nat} (W : Words names) (hn : n ≤ names.length) (hi : i < n) (R : r.Ok w h a) (hX : r.X = Txt.join (Str.ofString "") (piecesOf names mans n))
    (ha : ∃ o, h.get? a = some o ∧ LA [.int ((posOf names mans i : Nat) : Int) tp] o) (hg : g₀.get? a = none) :
    EvK w 340 (.call (.ref 42) ⟨[.ref r.rx], []⟩) h fun v h' => ∃ t' tp', v = .str (names.getD i default) t' ∧ Res h [(a, LA [.int ((posOf names mans i : Nat) : Int) tp])] h' [(a, LA [.int ((posOf names mans (i + 1) : Nat) : Int) tp'])] := by
  obtain ⟨rest, ht⟩ := text_at (names := names) (mans := mans) hi
  obtain ⟨hw10, hwp⟩ := W.get (j := i) (by omega)
  rw [← hX] at ht
  have hps := posOf_succ names mans i
  rw [piece_len _ hw10] at hps
  by_cases q : mans.getD i 0 = 0
  · rw [if_pos q] at ht hps
    rw [← sl] at hw10
    generalize hc : (names.getD i default).cps.toList = cs at ht hw10 hwp
    cases cs with
    | nil => simp at hw10
    | cons c0 u =>
      have hu : u.length = 9 := by simpa using hw10
      refine (bare_ek G hst R ha hg (c0 := c0) (u := u) (rest := rest) (by rw [ht]; simp) hwp).mono ?_
      rintro v h' ⟨t', tp', rfl, rs⟩
      refine ⟨t', tp', by rw [← hc, str_of_cps], ?_⟩
      rw [hps, show posOf names mans i + 11 = posOf names mans i + u.length + 2 by omega]
      exact rs
  · rw [if_neg q] at ht hps
    refine (quoted_ek G hst R ha hg (u := (names.getD i default).cps.toList) (rest := rest) (by rw [ht]; simp) hwp).mono ?_
    rintro v h' ⟨t', tp', rfl, rs⟩
    refine ⟨t', tp', by rw [str_of_cps], ?_⟩
    rw [hps, show posOf names mans i + 12 = posOf names mans i + (names.getD i default).cps.toList.length + 2 by rw [sl, hw10]]
    exact rs
end
local macro_rules | `(tactic| walk_at "sel") => `(tactic| first | with_reducible exact Sel.head | ((with_reducible refine' Sel.tail ?sa); (case sa => walk_at "sel")))
section
theorem one_sp : (Str.ofString " ").length = 1 := by decide +kernel
theorem one_dq : (Str.ofString "\"").length = 1 := by decide +kernel
local macro_rules | `(tactic| walk_at "len") => `(tactic| (refine Nat.le_trans (m := 100) ?_ (by rw [sizeLine_eq]; decide); (try simp only [Str.length_append, one_sp, one_dq]); omega))
theorem with_lookup2 {K : Frag} {a : Addr} {o : Obj} {P : Prop} (e : K.lookup a = some o) (k : K.lookup a = some o → P) : P := k e
theorem mkAtn {g g' h : Heap} {L b a : Addr} {bs : List (Str × Value)} {φ ψ χ : As} {ns R : List (Addr × As)} (O : Own g L h bs ((b, φ) :: ns)) (hR : ∀ a φ, (a, φ) ∈ R → ∃ o, g'.get? a = some o ∧ φ o) (h1 : (a, ψ) ∈ R) (h2 : (a, ψ) ∈ ns) (e : ψ = χ) : Atn b g' a χ := e ▸ ⟨O.ne_head h2, hR _ _ h1⟩
theorem lines_ev {w : World} {g₀ h : Heap} (G : Gd w g₀) (hst : g₀.StaysIn h) {ln lm : Addr} {nvs mvs : List Value} {names : List Str} {mans : List Int} (hn : ∃ o, h.get? ln = some o ∧ LA nvs o) (hN : Strs nvs names) (hm : ∃ o, h.get? lm = some o ∧ LA mvs o) (hM : Ints mvs mans)
    (ht : ∃ o, h.get? 164 = some o ∧ TabA o) (hgt : g₀.get? 164 = none) (CH : CodeHd g₀ 166 164) (hlen : mans.length = names.length) (hz : names.length ≤ 9) (W : Words names) (h01 : ∀ m ∈ mans, m = 0 ∨ m = 1) :
    Ev w 330 (call (.ref 167) [.ref ln, .ref lm]) h fun v h' => ∃ T pl ll pvs LS, v = .ref T ∧ Ints pvs (gUp names names.length).1 ∧ LnR LS (gUp names names.length).2 ∧ Res h [(164, TabA)] h' ((164, TabG) :: (T, TA [.ref pl, .ref ll]) :: (pl, LA pvs) :: (ll, LA (LS.map fun l => .ref l.x)) :: lnsA LS) := by
  refine' ev_cells (binds := [(Str.ofString "names", .ref ln), (Str.ofString "manners", .ref lm)]) (bs := []) [(164, TabA)] (fun L => [(L + 1 + 1 + 1 + 1, CA none), (L + 1 + 1 + 1, CA none), (L + 1 + 1, CA (some (.ref lm))), (L + 1, CA (some (.ref ln)))]) G hst (fun q hq => by rw [List.mem_singleton.mp hq]; exact ⟨ht, hgt⟩) (List.nodup_cons.mpr ⟨(fun z => nomatch z), List.nodup_nil⟩) ?k6 ?kfd ?k7 ?kb ?k9 ?kcl ?kk ?kN (fun _ _ hq => nomatch hq) ?kcs ?_ ?kr ?c2 ?c3 ?c4
  walk_at "enterC"
  refine' with_lookup2 (K := hd.heap_1 w.params) (a := 167) ?look fun hlook => ?_
  case look => k_is
  intro g L h₁ Gg H O
  have hne : ∀ (b : Addr) (vs : List Value), (∃ o, h.get? b = some o ∧ LA vs o) → b ≠ 164 := fun b vs e z => by
    subst z
    obtain ⟨o, e1, z1⟩ := ht
    obtain ⟨o', e2, m, rfl⟩ := e
    rw [e1] at e2; cases e2; cases z1
  have hng : ∃ o, g.get? ln = some o ∧ LA nvs o := up_of hn fun o e => H.but1 _ _ (hne _ _ hn) e
  have hmg : ∃ o, g.get? lm = some o ∧ LA mvs o := up_of hm fun o e => H.but1 _ _ (hne _ _ hm) e
  have hzn : nvs.length ≤ 9 := by rw [hN.length]; exact hz
  have hzm : mvs.length = nvs.length := by rw [hM.length, hN.length, hlen]
  simp only [List.cons_append, List.nil_append] at O
  have hg164 : g.get? 164 = none := O.fresh (φ := TabA) (by walk_at "lk")
  refine' ev_seq (ev_assign_comp (cl := [(Str.ofString "names", L + 1), (Str.ofString "manners", L + 1 + 1)]) ?m1 ?m2 ?m3 ?_ ?m5 ?m4)
  case m1 => exact rfl
  case m2 => exact rfl
  case m3 => decide
  case m5 => exact rfl
  case m4 => exact fun _ => rfl
  repeat walk_at "ev"
  refine ev_len (isList (O.up hng)) (by omega) fun t5 => ?_
  repeat walk_at "ev"
  refine ev_range (N := nvs.length) O rfl fun r0 h₃ O₃ _ => ?_
  refine ev_iter_range O₃ (O₃.at (by walk_at "lk")) (by omega) fun I₁ h₈ O₈ => ?_
  refine (compAt_it (J := fun j zs ex => Strs zs (piecesOf names mans j) ∧ ex = [] ∧ j ≤ 9) Gg (it_range (N := nvs.length)) self_range O₈ (fun _ _ => trivial) ⟨.nil, rfl, Nat.zero_le _⟩ ?_ ?_ (by decide) rfl).mono ?_
  · rintro j zs ex ⟨hzs, rfl, q⟩
    rw [hzs.length, piecesOf_length]; omega
  · rintro g' C' D j v h₉ zs ex Gg' up _ hj ⟨tj, rfl⟩ ⟨hzs, rfl, _⟩ O₉
    have up' : ∀ b o, b ≠ I₁ → h₈.get? b = some o → g'.get? b = some o := fun b o q e => up b o e q
    have c1 := O₈.at_but (a := L + 1) (ψ := CA (some (.ref ln))) (by walk_at "lk") up'
    have c2 := O₈.at_but (a := L + 1 + 1) (ψ := CA (some (.ref lm))) (by walk_at "lk") up'
    have c4 := O₈.up_but hng up'
    have c5 := O₈.up_but hmg up'
    have hj9 : j + 1 ≤ 9 := by omega
    refine ev_target ?_
    repeat walk_at "ev"
    refine ev_item_list_any (Own.up (by assumption) c4) (by omega) (by omega) (by omega) fun v hv => ?_
    obtain ⟨t1, rfl⟩ := hN.getD hv
    have hjn : j < names.length := by rw [← hN.length]; exact hj
    have hxl := (W.get hjn).1
    simp only [Int.toNat_natCast]
    repeat walk_at "ev"
    refine ev_item_list_any (Own.up (by assumption) c4) (by omega) (by omega) (by omega) fun v hv => ?_
    obtain ⟨t2, rfl⟩ := hN.getD hv
    simp only [Int.toNat_natCast]
    repeat walk_at "ev"
    refine ev_item_list_any (Own.up (by assumption) c5) (by omega) (by omega) (by omega) fun v hv => ?_
    obtain ⟨t3, rfl⟩ := hM.getD hv
    simp only [Int.toNat_natCast]
    have hm01 : mans.getD j 0 = 0 ∨ mans.getD j 0 = 1 := by
      have hjm : j < mans.length := by omega
      rw [List.getD_eq_getElem?_getD, List.getElem?_eq_getElem hjm]
      exact h01 _ (List.getElem_mem hjm)
    rcases hm01 with e | e
    · rw [e]
      repeat walk_at "ev"
      refine ⟨_, [], ⟨?_, rfl, hj9⟩, Own.sub (by assumption) (by walk_at "sub")⟩
      rw [piecesOf_succ]
      unfold pieceOf
      rw [e, if_pos rfl]
      exact hzs.snoc _ _
    · rw [e]
      repeat walk_at "ev"
      refine ⟨_, [], ⟨?_, rfl, hj9⟩, Own.sub (by assumption) (by walk_at "sub")⟩
      rw [piecesOf_succ]
      unfold pieceOf
      rw [e, if_neg (by decide)]
      exact hzs.snoc _ _
  rintro D C h₉ ⟨ys, ex, ⟨hys, rfl, _⟩, O₉⟩
  simp only [List.nil_append] at O₉
  repeat walk_at "ev"
  rename_i h₁₀ O₁₀
  refine ⟨_, _, _, _, O₁₀, fun h₁₁ O₁₁ => then_next ?_⟩
  clear O₁₀ O₉ O₈ O₃ O
  have hnn : nvs.length = names.length := hN.length
  have hX : (Txt.join (Str.ofString "") (piecesOf names mans nvs.length)).length ≤ 108 := Nat.le_trans (join_len W mans _ (by omega)) (by omega)
  repeat walk_at "ev"
  refine' ev_meth F.plainAttrs_str F.slot_str_join F.type_str_join (ev_str fun t6 => ⟨str_type.1, str_type.2, ?_⟩) ?m1 ?m2 ?m3 ?m4 ?m5
  walk_at "meth5"
  repeat walk_at "ev"
  refine ev_join (O₁₁.at (by walk_at "lk")) hys (by rw [pieces_sum]; simp only [show (Str.ofString "").length = 0 by decide +kernel]; omega) fun t7 => ?_
  repeat walk_at "ev"
  rename_i _ a _ _ h₁₂ O₁₂
  clear O₁₁
  have O₁₃ := O₁₂.sel (p := (164, TabA)) (by walk_at "sel")
  clear O₁₂
  refine' ev_fundef_thenG (c := 166) (clos := [(Str.ofString "text", L + 1 + 1 + 1 + 1), (Str.ofString "at", L + 1 + 1 + 1)]) Gg O₁₃ (CH.keeps H.up) ?m1 ?m2 ?m3 ?m4 ?m5 ?m6 fun f c' doc pm ctv h₁₄ O₁₄ => ?_
  case m1 => exact rfl
  case m2 => exact rfl
  case m3 => exact rfl
  case m4 => exact rfl
  case m5 => exact rfl
  case m6 => exact rfl
  clear O₁₃
  repeat walk_at "ev"
  rename_i h₁₅ O₁₅
  refine ⟨O₁₅.keep, newlex_ev Gg O₁₅ (by decide) fun sx sdx spb t3 t4 h₁₆ O₁₆ => ?_⟩
  clear O₁₄ O₁₅
  repeat walk_at "ev"
  rename_i h₁₇ O₁₇
  clear O₁₆
  refine ⟨O₁₇.keep, newlex_ev Gg O₁₇ (by decide) fun rx rdx rpb t1 t2 h₁₈ O₁₈ => ?_⟩
  clear O₁₇
  repeat walk_at "ev"
  rename_i _ ll _ _ _ _ _ pl _ _ h₂₀ O₂₀
  clear O₁₈
  have O₂₁ := O₂₀.sel (p := (a, LA [.int 0 _])) (by walk_at "sel")
  obtain ⟨g', Gg', up, dn, O₂₂, hR⟩ := Own.freeze (A := [(a, _), (pl, _), (ll, _)]) Gg O₂₁
  obtain ⟨r, R, hrX, rfl⟩ : ∃ r : Rdr, r.Ok w g' a ∧ r.X = Txt.join (Str.ofString "") (piecesOf names mans nvs.length) ∧ r.rx = rx :=
    ⟨⟨rx, rdx, rpb, sx, sdx, spb, f, c', L + 1 + 1 + 1 + 1, L + 1 + 1 + 1, _, _, _, _, _, _, doc, pm, ctv, _, _, t7, t1, t2, t3, t4⟩,
      ⟨hlook, rfl, rfl, mkAtn O₂₁ (a := rx) hR (by walk_at "lk") (by walk_at "lk") (by rfl), mkAtn O₂₁ (a := rdx) hR (by walk_at "lk") (by walk_at "lk") (by rfl), mkAtn O₂₁ (a := rpb) hR (by walk_at "lk") (by walk_at "lk") (by rfl),
        mkAtn O₂₁ (a := sx) hR (by walk_at "lk") (by walk_at "lk") (by rfl), mkAtn O₂₁ (a := sdx) hR (by walk_at "lk") (by walk_at "lk") (by rfl), mkAtn O₂₁ (a := f) hR (by walk_at "lk") (by walk_at "lk") (by rfl), mkAtn O₂₁ (a := c') hR (by walk_at "lk") (by walk_at "lk") (by rfl),
        mkAtn O₂₁ (a := L + 1 + 1 + 1 + 1) hR (by walk_at "lk") (by walk_at "lk") (by rfl), mkAtn O₂₁ (a := L + 1 + 1 + 1) hR (by walk_at "lk") (by walk_at "lk") (by rfl), Nat.le_trans hX (by decide), join_noNl W mans (by omega)⟩, rfl, rfl⟩
  have tG : ∃ o, g'.get? 164 = some o ∧ TabG o := hR _ _ (by walk_at "lk")
  have cN : ∃ o, g'.get? (L + 1) = some o ∧ CA (some (.ref ln)) o := hR _ _ (by walk_at "lk")
  have cA : ∃ o, g'.get? (L + 1 + 1 + 1) = some o ∧ CA (some (.ref a)) o := hR _ _ (by walk_at "lk")
  have hD : ∃ o, g'.get? D = some o ∧ LA ys o := hR _ _ (by walk_at "lk")
  have hng' : ∃ o, g'.get? ln = some o ∧ LA nvs o := up_of hng fun o e => up _ _ e
  clear hR hlook O₂₁ O₂₀
  have x1 := R.rx.2
  have x2 := R.rdx.2
  refine ev_len (isList (O₂₂.up hng')) (by omega) fun t8 => ?_
  repeat walk_at "ev"
  refine ev_range (N := nvs.length) O₂₂ rfl fun r2 h₂₃ O₂₃ _ => ?_
  refine ev_iter_range O₂₃ (O₂₃.at (by walk_at "lk")) (by omega) fun I₂ h₂₄ O₂₄ => ?_
  refine evl_it it_range (fun i bs ns => bs = [(Str.ofString "pieces", .ref D), (Str.ofString "reader", .ref r.rx), (Str.ofString "lines", .ref ll), (Str.ofString "places", .ref pl)] ∧ ∃ tp pvs LS, ns = (a, LA [.int ((posOf names mans i : Nat) : Int) tp]) :: (pl, LA pvs) :: (ll, LA (LS.map fun l => .ref l.x)) :: lnsA LS ∧ Ints pvs (gUp names i).1 ∧ LnR LS (gUp names i).2) (fun _ _ _ _ _ _ _ => trivial) ?_ ?_
    ((O₂₄.sub (ns' := [(I₂, RI nvs.length 0), (a, LA [.int 0 _]), (pl, LA []), (ll, LA [])]) (by walk_at "sub")).binds (bs' := [(Str.ofString "pieces", .ref D), (Str.ofString "reader", .ref r.rx), (Str.ofString "lines", .ref ll), (Str.ofString "places", .ref pl)]) (by walk_at "bsub")) ⟨rfl, _, [], [], by rw [posOf_zero]; rfl, .nil, .nil⟩
  · rintro i v h₅ bs ns hi ⟨tv, rfl⟩ ⟨rfl, tp, pvs, LS, rfl, hpv, hLS⟩ O₅
    refine ev_target ?_
    repeat walk_at "ev"
    refine' ev_mcall ?_ ?m1
    case m1 => exact rfl
    repeat walk_at "ev"
    rename_i h₆ O₆
    refine' ev_getmeth (f := 42) Gg' O₆.keep (O₆.up x1) (O₆.up x2) ?q1 ?q2 ?q3 ?q4 ?_
    case q1 => exact rfl
    case q2 => k_is
    case q3 => k_is
    case q4 => k_is
    refine' callw_K0 ?q1 Gg' O₆.keep ?_
    case q1 => k_is
    refine (((token_ek Gg' O₆.keep W (by omega) hi (R.keeps fun b o q e => O₆.keep b o e) hrX (O₆.at (φ := LA [.int ((posOf names mans i : Nat) : Int) tp]) (by walk_at "lk")) (O₆.fresh (φ := LA [.int ((posOf names mans i : Nat) : Int) tp]) (by walk_at "lk"))).lift (by decide)).call).mono ?_
    rintro v h₇ ⟨tw, tp1, rfl, rs⟩
    have O₇ := (O₆.perm (List.Perm.swap _ _ _)).res1 rs
    simp only [List.cons_append, List.nil_append] at O₇
    clear O₆ rs
    repeat walk_at "ev"
    rename_i h₈ O₈
    clear O₇
    refine ev_item_list_any (Own.up (by assumption) hng') (by omega) (by omega) (by omega) fun v hv => ?_
    obtain ⟨t1', rfl⟩ := hN.getD hv
    simp only [Int.toNat_natCast]
    repeat walk_at "ev"
    rw [show (names.getD i default != names.getD i default) = false by simp]
    refine iteF ?_
    repeat walk_at "ev"
    refine ev_item_list (Own.at (by assumption) (by walk_at "lk")) (by decide) (by decide) rfl ?_
    repeat walk_at "ev"
    refine' ev_meth F.plainAttrs_str F.slot_str_join F.type_str_join (ev_str fun t6 => ⟨str_type.1, str_type.2, ?_⟩) ?m1 ?m2 ?m3 ?m4 ?m5
    walk_at "meth5"
    repeat walk_at "ev"
    refine ⟨D, ys, i + 1, _, g', L, _, _, rfl, O₈.up hD, rfl, by rw [hys.length, piecesOf_length]; omega, O₈, fun c9 h₉ O₉ => ?_⟩
    clear O₈
    repeat walk_at "ev"
    have hy9 : Strs (ys.take (i + 1)) (piecesOf names mans (i + 1)) := by rw [← piecesOf_take names mans (k := i + 1) (n := nvs.length) hi]; exact hys.take _
    have hj9 := join_len W mans (i + 1) (by omega)
    refine ev_join (O₉.at (by walk_at "lk")) hy9 (by rw [pieces_sum]; simp only [show (Str.ofString "").length = 0 by decide +kernel]; omega) fun t7 => ?_
    repeat walk_at "ev"
    refine ev_len_str (by omega) fun t9 => ?_
    repeat walk_at "ev"
    rw [show (((posOf names mans (i + 1) : Nat) : Int) != ((Txt.join (Str.ofString "") (piecesOf names mans (i + 1))).length : Int)) = false by simp [posOf]]
    refine iteF ?_
    repeat walk_at "ev"
    have hLn : LS.length ≤ i := by rw [hLS.1]; exact gUp_length names i
    rename_i tp9 h₁₀ O₁₀
    clear O₉
    generalize hns : ((c9, LA (List.take (i + 1) ys)) :: (a, LA [Value.int ((posOf names mans (i + 1) : Nat) : Int) tp1]) :: (I₂, RI nvs.length (i + 1)) :: (pl, LA pvs) :: (ll, LA (List.map (fun l => Value.ref l.x) LS)) :: lnsA LS) = ns₁ at O₁₀
    have mll : (ll, LA (List.map (fun l => Value.ref l.x) LS)) ∈ ns₁ := by rw [← hns]; walk_at "lk"
    have mln : ∀ p ∈ lnsA LS, p ∈ ns₁ := fun p hp => by rw [← hns]; exact .tail _ (.tail _ (.tail _ (.tail _ (.tail _ hp))))
    refine ev_while_then (evl_while (fun k h' => ∃ j t, k = LS.length - j ∧ j ≤ LS.length ∧ (∀ m W', m < j → (gUp names i).2[m]? = some W' → above' (names.getD i default) W' = true) ∧
      Own g' L h' [(Str.ofString "pieces", .ref D), (Str.ofString "reader", .ref r.rx), (Str.ofString "lines", .ref ll), (Str.ofString "places", .ref pl), (Str.ofString "k", .int (i : Int) tv), (Str.ofString "word", .str (names.getD i default) tw), (Str.ofString "place", .int ((j : Nat) : Int) t)] ns₁) ?_ LS.length ⟨0, tp9, rfl, Nat.zero_le _, (fun m _ hm => by omega), O₁₀⟩)
    rintro k h' ⟨j, tj, rfl, hj, hab, O'⟩
    clear O₁₀
    have hll : ((List.map (fun l => Value.ref l.x) LS : List Value)).length = LS.length := List.length_map ..
    refine Ev.mono (P := fun b h₁ => h₁ = h' ∧ ((b = true ∧ j < LS.length ∧ (∀ m W', m < j + 1 → (gUp names i).2[m]? = some W' → above' (names.getD i default) W' = true)) ∨ (b = false ∧ gPlace (names.getD i default) (gUp names i).2 = j))) ?_ ?_
    · repeat walk_at "ev"
      refine ev_len (isList (O'.at mll)) (by omega) fun t8 => ?_
      repeat walk_at "ev"
      by_cases hjl : j < LS.length
      · rw [decide_eq_true (show ((j : Nat) : Int) < ((List.map (fun l => Value.ref l.x) LS).length : Int) by omega)]
        refine iteT ?_
        repeat walk_at "ev"
        refine ev_item_list_any (O'.at mll) (by omega) (by omega) (by omega) fun v hv => ?_
        rw [List.getElem?_map, Int.toNat_natCast, List.getElem?_eq_getElem hjl] at hv
        cases hv
        have hmem : LS[j] ∈ LS := List.getElem_mem hjl
        refine' ev_getattr (dx := (LS[j]).dx) (kvs := kvL (LS[j]).pb (LS[j]).t1 (LS[j]).t2) Gg' O'.keep (O'.at (mln _ (lnsA_x hmem))) (O'.at (mln _ (lnsA_dx hmem))) ?q1 ?q2 ?q3 ?q4 ?q5 ?_
        case q1 => k_is
        case q2 => k_is
        case q3 => k_is
        case q4 => exact rfl
        case q5 => exact rfl
        have hjl' : j < (gUp names i).2.length := by rw [← hLS.1]; exact hjl
        have hst : Strs (LS[j]).ws (gUp names i).2[j] := hLS.2 j _ _ (List.getElem?_eq_getElem hjl) (List.getElem?_eq_getElem hjl')
        have hne' := gUp_ne names i _ (List.getElem_mem hjl')
        have hwl := gUp_words names i _ (List.getElem_mem hjl')
        have hw0 : 0 < (gUp names i).2[j].length := List.length_pos_iff.mpr hne'
        have hwv : (LS[j]).ws.length = (gUp names i).2[j].length := hst.length
        repeat walk_at "ev"
        refine ev_unary ?_
        repeat walk_at "ev"
        refine ev_neg fun t9 => ?_
        have hLv : (LS[j]).ws[(LS[j]).ws.length - 1]? = some ((LS[j]).ws[(LS[j]).ws.length - 1]'(by omega)) := List.getElem?_eq_getElem _
        obtain ⟨tL, hL⟩ := hst.last hne' hLv
        rw [hL] at hLv
        refine ev_item_list_neg (O'.at (mln _ (lnsA_pb hmem))) (by decide) (by omega) (by omega) (by rw [show (-1 + ((LS[j]).ws.length : Int)).toNat = (LS[j]).ws.length - 1 by omega]; exact hLv) ?_
        repeat walk_at "ev"
        have hab' : decide ((names.getD i default).cps.toList < (lastD (gUp names i).2[j]).cps.toList) = above' (names.getD i default) (gUp names i).2[j] := rfl
        rw [hab']
        split
        · rename_i hc
          repeat walk_at "ev"
          refine ⟨rfl, .inl ⟨rfl, hjl, fun m W' hm hW' => ?_⟩⟩
          rcases Nat.lt_or_ge m j with q | q
          · exact hab m W' q hW'
          · have : m = j := by omega
            subst this
            rw [List.getElem?_eq_getElem hjl'] at hW'
            cases hW'; exact hc
        · rename_i hc
          refine ⟨rfl, .inr ⟨rfl, gPlace_is (by omega) (fun m l hm hl => hab m l hm hl) fun l hl => ?_⟩⟩
          rw [List.getElem?_eq_getElem hjl'] at hl
          cases hl
          simpa using hc
      · rw [decide_eq_false (show ¬ ((j : Nat) : Int) < ((List.map (fun l => Value.ref l.x) LS).length : Int) by omega)]
        refine iteF ?_
        refine ⟨rfl, .inr ⟨rfl, gPlace_is (by rw [← hLS.1]; omega) (fun m l hm hl => hab m l hm hl) fun l hl => ?_⟩⟩
        have := (List.getElem?_eq_some_iff.mp hl).1
        rw [← hLS.1] at this
        omega
    · rintro b _ ⟨rfl, ⟨rfl, hjl, hab2⟩ | ⟨rfl, hgp⟩⟩
      · refine iteT ?_
        repeat walk_at "ev"
        rename_i h₁₁ O₁₁
        rw [show ((j : Nat) : Int) + 1 = ((j + 1 : Nat) : Int) by omega] at O₁₁
        exact ⟨LS.length - (j + 1), by omega, j + 1, _, rfl, by omega, hab2, O₁₁.binds (by walk_at "bsub")⟩
      · refine iteF ?_
        refine ev_nil (then_next ?_)
        subst hns
        clear hab
        refine ev_then (R := fun h₁ => ∃ LS' l, LS'[j]? = some l ∧ l.ws.length ≤ 9 ∧ LS'.length ≤ 10 ∧ (∀ t, LnR (LS'.set j { l with ws := l.ws ++ [.str (names.getD i default) t] }) (gLay (names.getD i default) (gUp names i).2)) ∧
          Own g' L h₁ [(Str.ofString "pieces", .ref D), (Str.ofString "reader", .ref r.rx), (Str.ofString "lines", .ref ll), (Str.ofString "places", .ref pl), (Str.ofString "k", .int (i : Int) tv), (Str.ofString "word", .str (names.getD i default) tw), (Str.ofString "place", .int ((j : Nat) : Int) tj)]
            ((c9, LA (List.take (i + 1) ys)) :: (a, LA [Value.int ((posOf names mans (i + 1) : Nat) : Int) tp1]) :: (I₂, RI nvs.length (i + 1)) :: (pl, LA pvs) :: (ll, LA (List.map (fun l => Value.ref l.x) LS')) :: lnsA LS')) (ev_if ?_) ?_
        · repeat walk_at "ev"
          refine ev_len (isList (O'.at mll)) (by omega) fun t8 => ?_
          repeat walk_at "ev"
          rw [hll]
          split
          · rename_i hje
            have hje : j = LS.length := by have := beq_iff_eq.mp hje; omega
            repeat walk_at "ev"
            refine' ev_meth F.plainAttrs_list F.slot_list_append F.type_list_append ?_ ?m1 ?m2 ?m3 ?m4 ?m5
            walk_at "meth5"
            repeat walk_at "ev"
            refine ⟨(list_type (O'.at (by walk_at "lk"))).1, (list_type (O'.at (by walk_at "lk"))).2, ?_⟩
            repeat walk_at "ev"
            refine ⟨O'.keep, newlex_ev Gg' O' (by decide) fun x' dx' pb' t1' t2' h₁₂ O₁₂ => ?_⟩
            clear O'
            repeat walk_at "ev"
            refine ev_append O₁₂ (l := ll) (vs := List.map (fun l => Value.ref l.x) LS) (by walk_at "lk") (fun _ z => z) (by walk_at "upd") (by omega) fun h₁₃ O₁₃ => nref_none ?_
            repeat walk_at "ev"
            refine ⟨rfl, LS ++ [⟨x', dx', pb', t1', t2', []⟩], ⟨x', dx', pb', t1', t2', []⟩, by rw [hje]; simp, by simp, by simp; omega, fun t => ?_, ?_⟩
            · unfold gLay
              rw [if_pos (by rw [hgp, hje, hLS.1])]
              rw [hje, List.set_append_right _ _ (Nat.le_refl _), Nat.sub_self]
              exact hLS.snoc (.cons .nil)
            · rw [lnsA_snoc, show List.map (fun l => Value.ref l.x) (LS ++ [⟨x', dx', pb', t1', t2', []⟩]) = List.map (fun l => Value.ref l.x) LS ++ [Value.ref x'] by rw [List.map_append]; rfl]
              exact O₁₃.perm (List.perm_append_comm (l₁ := (c9, LA (List.take (i + 1) ys)) :: (a, LA [Value.int ((posOf names mans (i + 1) : Nat) : Int) tp1]) :: (I₂, RI nvs.length (i + 1)) :: (pl, LA pvs) :: (ll, LA (List.map (fun l => Value.ref l.x) LS ++ [Value.ref x'])) :: lnsA LS) (l₂ := lnA ⟨x', dx', pb', t1', t2', []⟩))
          · rename_i hje
            have hje : j < LS.length := by
              have : ¬ j = LS.length := fun q => hje (by rw [q]; exact beq_self_eq_true _)
              omega
            have hjl' : j < (gUp names i).2.length := by rw [← hLS.1]; exact hje
            have hst : Strs (LS[j]).ws (gUp names i).2[j] := hLS.2 j _ _ (List.getElem?_eq_getElem hje) (List.getElem?_eq_getElem hjl')
            have hwl := gUp_words names i _ (List.getElem_mem hjl')
            repeat walk_at "ev"
            refine ⟨rfl, LS, LS[j], List.getElem?_eq_getElem hje, by rw [hst.length]; omega, by omega, fun t => ?_, O'⟩
            unfold gLay
            have e3 : (gUp names i).2.getD j [] = (gUp names i).2[j] := by rw [List.getD_eq_getElem?_getD, List.getElem?_eq_getElem hjl']; rfl
            rw [if_neg (by rw [hgp, ← hLS.1]; omega), hgp, e3]
            exact hLS.set j (hst.snoc _ t)
        · rintro h₁₂ ⟨LS', l, hl, hlw, hLl, hLR, O₁₂⟩
          clear O'
          repeat walk_at "ev"
          refine' ev_mcall ?_ ?m1
          case m1 => exact rfl
          repeat walk_at "ev"
          have hjL := (List.getElem?_eq_some_iff.mp hl).1
          refine ev_item_list_any (vs := List.map (fun l => Value.ref l.x) LS') (O₁₂.at (by walk_at "lk")) (by omega) (by rw [List.length_map]; omega) (by rw [List.length_map]; omega) fun v hv => ?_
          rw [List.getElem?_map, Int.toNat_natCast, hl] at hv
          cases hv
          have O₁₃ := O₁₂.perm (lns_out hl ((c9, LA (List.take (i + 1) ys)) :: (a, LA [Value.int ((posOf names mans (i + 1) : Nat) : Int) tp1]) :: (I₂, RI nvs.length (i + 1)) :: (pl, LA pvs) :: [(ll, LA (List.map (fun l => Value.ref l.x) LS'))]))
          have mx : (l.x, XA 52 l.dx) ∈ ((c9, LA (List.take (i + 1) ys)) :: (a, LA [Value.int ((posOf names mans (i + 1) : Nat) : Int) tp1]) :: (I₂, RI nvs.length (i + 1)) :: (pl, LA pvs) :: [(ll, LA (List.map (fun l => Value.ref l.x) LS'))]) ++ lrest LS' j l := List.mem_append_right _ (List.mem_append_right _ (.tail _ (.head _)))
          have mdx : (l.dx, DA (kvL l.pb l.t1 l.t2)) ∈ ((c9, LA (List.take (i + 1) ys)) :: (a, LA [Value.int ((posOf names mans (i + 1) : Nat) : Int) tp1]) :: (I₂, RI nvs.length (i + 1)) :: (pl, LA pvs) :: [(ll, LA (List.map (fun l => Value.ref l.x) LS'))]) ++ lrest LS' j l := List.mem_append_right _ (List.mem_append_right _ (.head _))
          refine' ev_getmeth (f := 49) Gg' O₁₂.keep (O₁₃.at (.tail _ mx)) (O₁₃.at (.tail _ mdx)) ?q1 ?q2 ?q3 ?q4 ?_
          case q1 => exact rfl
          case q2 => k_is
          case q3 => k_is
          case q4 => k_is
          refine' callw_K ?q1 ?_ ?m1 ?m2
          case q1 => k_is
          case m1 => exact rfl
          case m2 => exact rfl
          repeat walk_at "ev"
          refine ⟨⟨g', Gg', O₁₂.keep⟩, ?_⟩
          refine (((push_ek (fp := .none) (t1 := l.t1) (t2 := l.t2) Gg' O₁₂.keep (O₁₃.at (.tail _ mx)) (O₁₃.at (.tail _ mdx)) (O₁₃.at (.head _)) (O₁₃.fresh (.head _)) (O₁₃.ne_head mx) (O₁₃.ne_head mdx) (by omega)).lift (by decide)).call).mono ?_
          rintro _ h₁₄ ⟨rfl, rs⟩
          have O₁₄ := (O₁₃.res1 rs).perm (lns_in hl (l.ws ++ [Value.str (names.getD i default) tw]) ((c9, LA (List.take (i + 1) ys)) :: (a, LA [Value.int ((posOf names mans (i + 1) : Nat) : Int) tp1]) :: (I₂, RI nvs.length (i + 1)) :: (pl, LA pvs) :: [(ll, LA (List.map (fun l => Value.ref l.x) LS'))]))
          simp only [List.cons_append, List.nil_append] at O₁₄
          clear O₁₂ O₁₃ mx mdx rs
          rw [← map_set_x hl (l.ws ++ [Value.str (names.getD i default) tw])] at O₁₄
          have hLR' := hLR tw
          generalize LS'.set j { l with ws := l.ws ++ [Value.str (names.getD i default) tw] } = LS₂ at O₁₄ hLR'
          refine nref_none ?_
          repeat walk_at "ev"
          refine' ev_meth F.plainAttrs_list F.slot_list_append F.type_list_append ?_ ?m1 ?m2 ?m3 ?m4 ?m5
          walk_at "meth5"
          repeat walk_at "ev"
          refine ⟨(list_type (vs := pvs) (O₁₄.at (by walk_at "lk"))).1, (list_type (vs := pvs) (O₁₄.at (by walk_at "lk"))).2, ?_⟩
          repeat walk_at "ev"
          have hpl : pvs.length = i := by rw [hpv.length, gUp_places]
          refine ev_append O₁₄ (l := pl) (vs := pvs) (by walk_at "lk") (fun _ z => z) (by walk_at "upd") (by omega) fun h₁₅ O₁₅ => nref_none ?_
          repeat walk_at "ev"
          refine ⟨_, _, ⟨rfl, tp1, _, LS₂, rfl, ?_, hLR'⟩, ((O₁₅.sub (List.Sublist.cons _ (List.Sublist.refl _))).perm (List.Perm.swap _ _ _)).binds (by walk_at "bsub")⟩
          show Ints (pvs ++ [.int ((j : Nat) : Int) tj]) ((gUp names i).1 ++ [((gPlace (names.getD i default) (gUp names i).2 : Nat) : Int)])
          rw [hgp]
          exact hpv.snoc _ _
  · rintro h₅ bs ns ⟨rfl, tp, pvs, LS, rfl, hpv, hLS⟩ O₅
    repeat walk_at "ev"
    refine' ev_mcall ?_ ?m1
    case m1 => exact rfl
    repeat walk_at "ev"
    refine' ev_getmeth (f := 42) Gg' O₅.keep (O₅.up x1) (O₅.up x2) ?q1 ?q2 ?q3 ?q4 ?_
    case q1 => exact rfl
    case q2 => k_is
    case q3 => k_is
    case q4 => k_is
    refine' callw_K0 ?q1 Gg' O₅.keep ?_
    case q1 => k_is
    refine (((end_ek Gg' O₅.keep (R.keeps fun b o q e => O₅.keep b o e) (O₅.at (φ := LA [.int ((posOf names mans nvs.length : Nat) : Int) tp]) (by walk_at "lk")) (O₅.fresh (φ := LA [.int ((posOf names mans nvs.length : Nat) : Int) tp]) (by walk_at "lk")) (by rw [hrX]; rfl)).lift (by decide)).call).mono ?_
    rintro _ h₇ ⟨tw, tp1, rfl, rs⟩
    have O₇ := O₅.res1 rs
    simp only [List.cons_append, List.nil_append] at O₇
    clear O₅ rs
    repeat walk_at "ev"
    rw [show (Str.ofString "" != Str.ofString "") = false by simp]
    refine iteF ?_
    repeat walk_at "ev"
    rw [show ((1 : Int) != 1) = false by decide]
    refine iteF ?_
    repeat walk_at "ev"
    rename_i h₈ T O₈ _
    rw [hnn] at hpv hLS
    exact ⟨T, pl, ll, pvs, LS, rfl, hpv, hLS, res_of H ((O₈.sub (List.Sublist.cons_cons _ (List.Sublist.cons _ (List.Sublist.refl _)))).thawAdd up tG hg164)⟩
end
local macro_rules | `(tactic| walk_at "ev") => `(tactic| first
  | with_reducible first | refine ev_isnotnone ?_ | refine ev_isnone ?_)
section
theorem linetok_ev {w : World} {g h : Heap} {L : Addr} {bs : List (Str × Value)} {F tl : List (Addr × As)} {n : Nat} {P : Value → Heap → Prop} (G : Gd w g) {LS : List Ln} {j : Nat} {l : Ln} {v : Value} {us : List Value} (O : Own g L h bs (F ++ (pbsA LS ++ tl))) (hl : LS[j]? = some l) (hG : LnG g l) (hws : l.ws = v :: us) (hz : us.length ≤ 900) (hn : n ≤ 345)
    (k : ∀ h', Own g L h' bs (F ++ (pbsA (LS.set j { l with ws := us }) ++ tl)) → P v h') : Ev w n (call (.ref 42) [.ref l.x]) h P := by
  have hm : (l.pb, LA (v :: us)) ∈ F ++ (pbsA LS ++ tl) := List.mem_append_right _ (List.mem_append_left _ (hws ▸ pbs_mem hl))
  refine ((EvK.lift (m := 345) (take_ek (fp := .none) (t1 := l.t1) (t2 := l.t2) G O.keep (O.up hG.x) (O.up hG.dx) (O.at hm) (O.fresh hm) (O.g_ne hm hG.x) (O.g_ne hm hG.dx) hz) hn).call).mono ?_
  rintro v' h' ⟨rfl, rs⟩
  exact k h' (O.upd (((pbs_upd hl us).right tl).left F) rs.but1 (rs.nw _ (.head _)).1)
theorem RT_but {g h : Heap} {L hp : Addr} {bs : List (Str × Value)} {φ : As} {ns tl : List (Addr × As)} (O : Own g L h bs ((hp, φ) :: ns)) (k : ∀ p ∈ tl, p ∈ ns) : PrBut h hp (RT tl) := fun v p ⟨a, t, u, e, m⟩ => ⟨a, t, u, e, O.ne_head (k _ m), O.at (.tail _ (k _ m))⟩
theorem merged_ev {w : World} {g₀ h : Heap} (G : Gd w g₀) (hst : g₀.StaysIn h) {ll : Addr} {LS : List Ln} {Ls : List (List Str)} (hll : ∃ o, h.get? ll = some o ∧ LA (LS.map fun l => Value.ref l.x) o) (hLS : LnR LS Ls) (hlg : ∀ l ∈ LS, LnG h l)
    (hpb : ∀ p ∈ pbsA LS, (∃ o, h.get? p.1 = some o ∧ p.2 o) ∧ g₀.get? p.1 = none) (hnd : ((pbsA LS).map (·.1)).Nodup) (hllp : ∀ l ∈ LS, ll ≠ l.pb) (hne : ∀ W ∈ Ls, W ≠ []) (hw : ∀ W ∈ Ls, W.length ≤ 9) (hz : LS.length ≤ 9)
    {N : Nat} (hN : N ≤ 9) (hEnd : (mIter Ls N).1 = []) (hGo : ∀ i, i < N → (mIter Ls i).1 ≠ []) (hIdx : ∀ i, i < N → 0 ≤ ((mIter Ls i).1.headD default).2 ∧ ((mIter Ls i).1.headD default).2.toNat < Ls.length) (hWl : ∀ i, i ≤ N → ∀ W ∈ (mIter Ls i).2.1, W.length ≤ 9) (hOk : ∀ i, i < N → PyData.strOk ((mIter Ls i).1.headD default).1 = true) :
    Ev w 330 (call (.ref 174) [.ref ll]) h fun v h' => ∃ out ovs LS' tl, v = .ref out ∧ Rs (RT tl) ovs (mIter Ls N).2.2 ∧ LnR LS' (mIter Ls N).2.1 ∧ LS'.map Ln.fix = LS.map Ln.fix ∧ Res h (pbsA LS) h' ((out, LA ovs) :: (pbsA LS' ++ tl)) := by
  have hpbl : ∀ l ∈ LS, ∃ o, h.get? l.pb = some o ∧ LA l.ws o := fun l hl => (hpb (l.pb, LA l.ws) (List.mem_map.mpr ⟨l, hl, rfl⟩)).1
  refine' EvK.call (ek_defK (binds := [(Str.ofString "lines", .ref ll)]) (names := [Str.ofString "lines"]) (pbsA LS) G hst hpb hnd ?k6 ?kfd ?k7 ?kb ?k9 ?kB ?km ?kN ?kc ?_ ?kr ?c2 ?c3 ?c4)
  walk_at "enter"
  intro g L h₁ Gg H O
  have notpb : ∀ b, (∀ l ∈ LS, b ≠ l.pb) → b ∉ (pbsA LS).map (·.1) := fun b k q => by
    obtain ⟨p, hp, rfl⟩ := List.mem_map.mp q
    obtain ⟨l, hl, rfl⟩ := List.mem_map.mp hp
    exact k l hl rfl
  have hllg : ∃ o, g.get? ll = some o ∧ LA (LS.map fun l => Value.ref l.x) o := up_of hll fun o e => H.of _ _ e (notpb _ hllp)
  have hlgg : ∀ l ∈ LS, LnG g l := fun l hl => ⟨up_of (hlg l hl).x fun o e => H.of _ _ e (notpb _ fun l' hl' => ne_XA_LA (hlg l hl).x (hpbl l' hl')), up_of (hlg l hl).dx fun o e => H.of _ _ e (notpb _ fun l' hl' => ne_DA_LA (hlg l hl).dx (hpbl l' hl'))⟩
  have hLl : (LS.map fun l => Value.ref l.x).length = LS.length := List.length_map ..
  repeat walk_at "ev"
  refine ev_len (isList (Own.up (by assumption) hllg)) (by omega) fun t5 => ?_
  repeat walk_at "ev"
  rename_i _ hp _ _ h₂ O₂
  refine ev_range (N := LS.length) O₂ (by rw [hLl]) fun r h₃ O₃ _ => ?_
  refine ev_iter_range O₃ (O₃.at (by walk_at "lk")) (by omega) fun I h₄ O₄ => ?_
  refine evl_it it_range (fun j bs ns => bs = [(Str.ofString "lines", .ref ll), (Str.ofString "heap", .ref hp)] ∧ ∃ vs LS' tl, ns = (hp, LA vs) :: (pbsA LS' ++ tl) ∧ Rs (RT tl) vs (heads Ls j) ∧ LnR LS' (hI Ls j) ∧ LS'.map Ln.fix = LS.map Ln.fix) (fun _ _ _ _ _ _ _ => trivial) ?_ ?_
    (O₄.sub (ns' := (I, RI LS.length 0) :: (hp, LA []) :: (pbsA LS ++ [])) (by rw [List.append_nil]; walk_at "sub")) ⟨rfl, [], LS, [], rfl, .nil, hLS, rfl⟩
  · rintro j v h₅ bs ns hj ⟨tv, rfl⟩ ⟨rfl, vs, LS', tl, rfl, hvs, hLS', hfix⟩ O₅
    refine ev_target ?_
    repeat walk_at "ev"
    refine' ev_meth F.plainAttrs_list F.slot_list_append F.type_list_append ?_ ?m1 ?m2 ?m3 ?m4 ?m5
    walk_at "meth5"
    repeat walk_at "ev"
    rename_i h₆ O₆
    refine ⟨(list_type (vs := vs) (O₆.at (by walk_at "lk"))).1, (list_type (vs := vs) (O₆.at (by walk_at "lk"))).2, ?_⟩
    clear O₅ O₂ O₃ O₄
    repeat walk_at "ev"
    refine' ev_mcall ?_ ?m1
    case m1 => exact rfl
    repeat walk_at "ev"
    have hLs' : LS'.length = LS.length := fix_len hfix
    have hjl : j < LS'.length := by omega
    have hjW : j < Ls.length := by rw [← hLS.1]; exact hj
    have hWj : (hI Ls j)[j]? = some Ls[j] := by rw [hI_ge Ls (Nat.le_refl j), List.getElem?_eq_getElem hjW]
    have hst : Strs (LS'[j]).ws Ls[j] := hLS'.2 j _ _ (List.getElem?_eq_getElem hjl) hWj
    have hWne := hne _ (List.getElem_mem hjW)
    have hWl9 := hw _ (List.getElem_mem hjW)
    have hLn' : (LS'.map fun l => Value.ref l.x) = LS.map fun l => Value.ref l.x := fix_x hfix
    refine ev_item_list_any (Own.up O₆ hllg) (by omega) (by omega) (by omega) fun v hv => ?_
    rw [← hLn', List.getElem?_map, Int.toNat_natCast, List.getElem?_eq_getElem hjl] at hv
    cases hv
    have hGl := fix_G hfix hlgg _ (List.getElem_mem hjl)
    refine' ev_getmeth (f := 42) Gg O₆.keep (O₆.up hGl.x) (O₆.up hGl.dx) ?q1 ?q2 ?q3 ?q4 ?_
    case q1 => exact rfl
    case q2 => k_is
    case q3 => k_is
    case q4 => k_is
    refine' callw_K0 ?q1 Gg O₆.keep ?_
    case q1 => k_is
    generalize hW : Ls[j] = W at hst hWne hWl9 hWj
    cases W with
    | nil => exact absurd rfl hWne
    | cons wd W =>
      generalize hlj : LS'[j] = l at hst hGl
      have hlj' : LS'[j]? = some l := by rw [List.getElem?_eq_getElem hjl, hlj]
      obtain ⟨tw, us, hus, hsu⟩ := hst.cons_of
      refine linetok_ev (F := [(I, RI LS.length (j + 1)), (hp, LA vs)]) Gg O₆ hlj' hGl hus (by have := hsu.length; simp at hWl9; omega) (by decide) fun h₇ O₇ => ?_
      simp only [List.cons_append, List.nil_append] at O₇
      clear O₆
      repeat walk_at "ev"
      rename_i h₈ T O₈ _
      refine ev_append O₈ (l := hp) (vs := vs) (by walk_at "lk") (fun _ z => z) (by walk_at "upd") (by rw [hvs.1, heads_length]; omega) fun h₉ O₉ => nref_none ?_
      repeat walk_at "ev"
      refine ⟨_, _, ⟨rfl, _, LS'.set j { l with ws := us }, (T, TA [.str wd tw, .int (j : Int) tv]) :: tl, rfl, ?_, ?_, (fix_set hlj' us).trans hfix⟩, (O₉.perm (List.perm_middle (l₁ := (I, RI LS.length (j + 1)) :: (hp, LA (vs ++ [.ref T])) :: pbsA (LS'.set j { l with ws := us })))).binds (by walk_at "bsub")⟩
      · rw [heads_succ, show Ls.getD j [] = wd :: W by rw [List.getD_eq_getElem?_getD, List.getElem?_eq_getElem hjW, hW]; rfl]
        exact RT.snoc (p := (wd, (j : Int))) hvs
      · show LnR _ ((hI Ls j).set j ((hI Ls j).getD j []).tail)
        rw [show (hI Ls j).getD j [] = wd :: W by rw [List.getD_eq_getElem?_getD, hWj]; rfl]
        exact hLS'.set j hsu
  · rintro h₅ bs ns ⟨rfl, vs, LS₁, tl₁, rfl, hvs, hLS₁, hfix₁⟩ O₅
    clear O₂ O₃ O₄
    repeat walk_at "ev"
    refine ⟨O₅.keep, ?_⟩
    have hlenL : Ls.length = LS.length := hLS.1.symm
    refine ((heapify_ev Gg O₅.keep (O₅.at (φ := LA vs) (by walk_at "lk")) (O₅.fresh (φ := LA vs) (by walk_at "lk")) (RT_but O₅ fun p hp => List.mem_append_right _ hp) hvs (by rw [heads_length]; omega)).lift (by decide)).mono ?_
    rintro _ h₆ ⟨rfl, hb, vs₂, hl₂, hp₂⟩
    have O₆ := O₅.upd (φ' := LA vs₂) (by walk_at "upd") hb hl₂
    clear O₅
    repeat walk_at "ev"
    rw [show (!(Value.none == Value.none)) = false from rfl]
    refine iteF ?_
    repeat walk_at "ev"
    rename_i _ out _ _ h₇ O₇ _
    refine ev_range (N := 10) O₇ rfl fun r2 h₈ O₈ _ => ?_
    refine ev_iter_range O₈ (O₈.at (by walk_at "lk")) (by decide) fun I₂ h₉ O₉ => ?_
    refine evl_it it_range (fun i bs ns => bs = [(Str.ofString "lines", .ref ll), (Str.ofString "heap", .ref hp), (Str.ofString "out", .ref out)] ∧ i ≤ N ∧ ∃ vs ovs LS' tl, ns = (hp, LA vs) :: (out, LA ovs) :: (pbsA LS' ++ tl) ∧ Rs (RT tl) vs (mIter Ls i).1 ∧ Rs (RT tl) ovs (mIter Ls i).2.2 ∧ LnR LS' (mIter Ls i).2.1 ∧ LS'.map Ln.fix = LS.map Ln.fix) (fun _ _ _ _ _ _ _ => trivial) ?_ ?_
      ((O₉.sub (ns' := (I₂, RI 10 0) :: (out, LA []) :: (hp, LA vs₂) :: (pbsA LS₁ ++ tl₁)) (by walk_at "sub")).perm ((List.Perm.swap _ _ _).cons _)) ⟨rfl, Nat.zero_le _, vs₂, [], LS₁, tl₁, rfl, by rw [← hlenL] at hp₂; exact hp₂, .nil, by rw [← hlenL] at hLS₁; exact hLS₁, hfix₁⟩
    · rintro i v h₅ bs ns hi ⟨tv, rfl⟩ ⟨rfl, hiN, vs, ovs, LS', tl, rfl, hvs, hov, hLS', hfix⟩ O₅
      refine ev_target ?_
      repeat walk_at "ev"
      rename_i h₁₀ O₁₀
      clear O₅
      have hml := mIter_length Ls i
      have hvl : vs.length ≤ 9 := by rw [hvs.1]; omega
      refine ev_truth ?_ rfl
      repeat walk_at "ev"
      refine ev_truthy_list (O₁₀.at (φ := LA vs) (by walk_at "lk")) (by omega) ?_
      by_cases hiE : i = N
      · subst hiE
        have hv0 : vs = [] := List.eq_nil_of_length_eq_zero (by rw [hvs.1, hEnd]; rfl)
        subst hv0
        refine iteT ?_
        repeat walk_at "ev"
        exact ⟨out, ovs, LS', tl, rfl, hov, hLS', hfix, res_of H (O₁₀.sub (List.Sublist.cons _ (List.Sublist.cons _ (List.Sublist.refl _))))⟩
      have hiL : i < N := by omega
      have hxne := hGo i hiL
      obtain ⟨hd0, hd1⟩ := hIdx i hiL
      have hW9 := hWl i hiN
      have hok := hOk i hiL
      generalize hxs : (mIter Ls i).1 = xs at hvs hxne hd0 hd1 hml hok
      generalize hMs : (mIter Ls i).2.1 = Ms at hLS' hW9 hml
      cases vs with
      | nil => have := hvs.1; exact absurd (List.eq_nil_of_length_eq_zero this.symm) hxne
      | cons v0 vs =>
      refine iteF ?_
      repeat walk_at "ev"
      refine ev_item_list (O₁₀.at (φ := LA (v0 :: vs)) (by walk_at "lk")) (by decide) (by decide) rfl ?_
      have hr0 : RT tl v0 (xs.headD default) := by
        have := hvs.get (j := 0) (v := v0) (by simp)
        rw [List.getD_eq_getElem?_getD] at this
        cases xs with
        | nil => exact absurd rfl hxne
        | cons x r => exact this
      obtain ⟨T, tt, ut, rfl, hTm⟩ := id hr0
      walk_at "ev"
      rename_i h₁₁ O₁₁
      clear O₁₀
      generalize hp0 : xs.headD default = p0 at hr0 hTm hd0 hd1 hok
      have hj1 : p0.2.toNat < LS'.length := by rw [hLS'.1, hml.2.1]; exact hd1
      have hjM : p0.2.toNat < Ms.length := by rw [← hLS'.1]; exact hj1
      have hLs' : LS'.length = LS.length := fix_len hfix
      have hLn' : (LS'.map fun l => Value.ref l.x) = LS.map fun l => Value.ref l.x := fix_x hfix
      obtain ⟨l, hl⟩ : ∃ l, LS'[p0.2.toNat]? = some l := ⟨_, List.getElem?_eq_getElem hj1⟩
      obtain ⟨W, hW⟩ : ∃ W, Ms[p0.2.toNat]? = some W := ⟨_, List.getElem?_eq_getElem hjM⟩
      have hst : Strs l.ws W := hLS'.2 _ _ _ hl hW
      have hGl := fix_G hfix hlgg _ (List.mem_of_getElem? hl)
      have hWl9 := hW9 _ (List.mem_of_getElem? hW)
      have hgetD : Ms.getD p0.2.toNat [] = W := by rw [List.getD_eq_getElem?_getD, hW]; rfl
      refine ev_then (R := fun h₁ => ∃ vs' LS'' tl' Tg, Own g L h₁ [(Str.ofString "lines", .ref ll), (Str.ofString "heap", .ref hp), (Str.ofString "out", .ref out), (Str.ofString "top", .ref T), (Str.ofString "gone", .ref Tg)] ((I₂, RI 10 (i + 1)) :: (hp, LA vs') :: (out, LA ovs) :: (pbsA LS'' ++ tl')) ∧
        (∀ p ∈ tl, p ∈ tl') ∧ RT tl' (.ref Tg) p0 ∧ Rs (RT tl') vs' (mStep xs Ms).1 ∧ LnR LS'' (mStep xs Ms).2 ∧ LS''.map Ln.fix = LS.map Ln.fix) (ev_if ?_) ?_
      · refine ev_truth ?_ rfl
        repeat walk_at "ev"
        have mT : ∀ {φ : As} {F : List (Addr × As)} {p : Addr × As}, p ∈ tl → p ∈ (I₂, φ) :: F ++ (pbsA LS' ++ tl) := fun h => List.mem_append_right _ (List.mem_append_right _ h)
        refine ev_item_tup (O₁₁.at (φ := TA [.str p0.1 tt, .int p0.2 ut]) (mT (F := [(hp, _), (out, _)]) hTm)) (by decide) (by decide) rfl ?_
        refine ev_item_list_any (Own.up O₁₁ hllg) hd0 (by omega) (by omega) fun v hv => ?_
        rw [← hLn', List.getElem?_map, hl] at hv
        cases hv
        refine' ev_getattr (dx := l.dx) (kvs := kvL l.pb l.t1 l.t2) Gg O₁₁.keep (O₁₁.up hGl.x) (O₁₁.up hGl.dx) ?q1 ?q2 ?q3 ?q4 ?q5 ?_
        case q1 => k_is
        case q2 => k_is
        case q3 => k_is
        case q4 => exact rfl
        case q5 => exact rfl
        refine ev_truthy_list (O₁₁.at (φ := LA l.ws) (List.mem_append_right [(I₂, _), (hp, _), (out, _)] (List.mem_append_left _ (pbs_mem hl)))) (by rw [hst.length]; omega) ?_
        have O₁₂ := O₁₁.perm (List.Perm.swap _ _ _)
        cases W with
        | nil =>
          have hws : l.ws = [] := List.eq_nil_of_length_eq_zero hst.length
          rw [hws]
          refine iteF ?_
          repeat walk_at "ev"
          refine ⟨O₁₁.keep, ?_⟩
          refine ((heappop_ev Gg O₁₁.keep (O₁₂.at (.head _)) (O₁₂.fresh (.head _)) (RT_but O₁₂ fun p hp => .tail _ (.tail _ (List.mem_append_right _ hp))) hvs (List.length_pos_iff.mpr hxne) (by omega)).lift (by decide)).mono ?_
          rintro v h₁₂ ⟨hb, vs', hl', hrv, hvs'⟩
          have O₁₃ := O₁₁.upd (φ' := LA vs') (by walk_at "upd") hb hl'
          clear O₁₁ O₁₂
          rw [heappop_fst hxne, hp0] at hrv
          obtain ⟨Tg, tg, ug, rfl, hTg⟩ := id hrv
          repeat walk_at "ev"
          rename_i h₁₃ O₁₄
          have hstep : mStep xs Ms = ((heappopP xs).2, Ms) := by unfold mStep; rw [hp0, hgetD]
          rw [hstep]
          exact ⟨rfl, vs', LS', tl, Tg, O₁₄.binds (by walk_at "bsub"), fun p hp => hp, hrv, hvs', hLS', hfix⟩
        | cons wd W =>
          obtain ⟨tw, us, hus, hsu⟩ := hst.cons_of
          rw [hus]
          refine iteT ?_
          repeat walk_at "ev"
          refine' ev_mcall ?_ ?m1
          case m1 => exact rfl
          repeat walk_at "ev"
          refine ev_item_tup (O₁₁.at (φ := TA [.str p0.1 tt, .int p0.2 ut]) (mT (F := [(hp, _), (out, _)]) hTm)) (by decide) (by decide) rfl ?_
          refine ev_item_list_any (Own.up O₁₁ hllg) hd0 (by omega) (by omega) fun v hv => ?_
          rw [← hLn', List.getElem?_map, hl] at hv
          cases hv
          refine' ev_getmeth (f := 42) Gg O₁₁.keep (O₁₁.up hGl.x) (O₁₁.up hGl.dx) ?q1 ?q2 ?q3 ?q4 ?_
          case q1 => exact rfl
          case q2 => k_is
          case q3 => k_is
          case q4 => k_is
          refine' callw_K0 ?q1 Gg O₁₁.keep ?_
          case q1 => k_is
          refine linetok_ev (F := [(I₂, RI 10 (i + 1)), (hp, LA (Value.ref T :: vs)), (out, LA ovs)]) Gg O₁₁ hl hGl hus (by have := hsu.length; simp at hWl9; omega) (by decide) fun h₁₂ O₁₃ => ?_
          simp only [List.cons_append, List.nil_append] at O₁₃
          clear O₁₁ O₁₂ mT
          repeat walk_at "ev"
          refine ev_item_tup (O₁₃.at (φ := TA [.str p0.1 tt, .int p0.2 ut]) (List.mem_append_right [(I₂, _), (hp, _), (out, _)] (List.mem_append_right _ hTm))) (by decide) (by decide) rfl ?_
          repeat walk_at "ev"
          rename_i h₁₄ T2 O₁₄ _
          have O₁₅ := O₁₄.sel (p := (hp, LA (Value.ref T :: vs))) (by walk_at "sel")
          refine ⟨O₁₄.keep, ?_⟩
          have hk2 : ∀ p ∈ tl, p ∈ (T2, TA [.str wd tw, .int p0.2 ut]) :: tl := fun p hp => .tail _ hp
          refine ((heapreplace_ev (R := RT ((T2, TA [.str wd tw, .int p0.2 ut]) :: tl)) (px := (wd, p0.2)) Gg O₁₄.keep (O₁₅.at (.head _)) (O₁₅.fresh (.head _)) (RT_but O₁₅ fun p hp => ?_) (hvs.mono fun _ _ r => r.mono hk2) ⟨T2, tw, ut, rfl, .head _⟩ (List.length_pos_iff.mpr hxne) (by omega)).lift (by decide)).mono ?_
          · rcases List.mem_cons.mp hp with rfl | hp
            · exact .head _
            · exact .tail _ (.tail _ (.tail _ (List.mem_append_right _ hp)))
          rintro v h₁₅ ⟨hb, vs', hl', hrv, hvs'⟩
          have O₁₆ := O₁₄.upd (φ' := LA vs') (by walk_at "upd") hb hl'
          clear O₁₃ O₁₄ O₁₅
          replace hrv : RT ((T2, TA [.str wd tw, .int p0.2 ut]) :: tl) v (xs.headD default) := hrv
          rw [hp0] at hrv
          obtain ⟨Tg, tg, ug, rfl, hTg⟩ := id hrv
          repeat walk_at "ev"
          rename_i h₁₆ O₁₇
          have hstep : mStep xs Ms = ((heapreplaceP xs (wd, p0.2)).2, Ms.set p0.2.toNat W) := by unfold mStep; rw [hp0, hgetD]
          rw [hstep]
          exact ⟨rfl, vs', LS'.set p0.2.toNat { l with ws := us }, _, Tg, (O₁₇.perm (List.perm_middle (l₁ := (I₂, RI 10 (i + 1)) :: (hp, LA vs') :: (out, LA ovs) :: pbsA (LS'.set p0.2.toNat { l with ws := us })))).binds (by walk_at "bsub"), hk2, hrv, hvs', hLS'.set _ hsu, (fix_set hl us).trans hfix⟩
      · rintro h₁₂ ⟨vs', LS'', tl', Tg, O₁₂, hsub, hrg, hvs', hLS'', hfix''⟩
        clear O₁₁
        repeat walk_at "ev"
        have hsh : SeqAt.shaped (pairD p0) = true := by
          unfold SeqAt.shaped pairD
          simp [PyData.canLay0, PyData.canLayAll0, PyData.depth, PyData.depthAll, hok]
        obtain ⟨Tg', tg, ug, eg, hTg⟩ := id hrg
        cases eg
        refine ev_ne_same (by decide) (reads_TA (O₁₂.at (φ := TA [.str p0.1 tg, .int p0.2 ug]) (List.mem_append_right [(I₂, _), (hp, _), (out, _)] (List.mem_append_right _ hTg))) (.cons (Reads.str _ _) (.cons (Reads.int _ _) .nil))) (reads_TA (O₁₂.at (φ := TA [.str p0.1 tt, .int p0.2 ut]) (List.mem_append_right [(I₂, _), (hp, _), (out, _)] (List.mem_append_right _ (hsub _ hTm)))) (.cons (Reads.str _ _) (.cons (Reads.int _ _) .nil))) hsh ?_
        repeat walk_at "ev"
        refine' ev_meth F.plainAttrs_list F.slot_list_append F.type_list_append ?_ ?m1 ?m2 ?m3 ?m4 ?m5
        walk_at "meth5"
        repeat walk_at "ev"
        refine ⟨(list_type (vs := ovs) (O₁₂.at (by walk_at "lk"))).1, (list_type (vs := ovs) (O₁₂.at (by walk_at "lk"))).2, ?_⟩
        repeat walk_at "ev"
        refine ev_append O₁₂ (l := out) (vs := ovs) (by walk_at "lk") (fun _ z => z) (by walk_at "upd") (by rw [hov.1, hml.2.2]; omega) fun h₁₃ O₁₃ => nref_none ?_
        repeat walk_at "ev"
        refine ⟨_, _, ⟨rfl, hiL, vs', ovs ++ [.ref Tg], LS'', tl', rfl, ?_, ?_, ?_, hfix''⟩, O₁₃.binds (by walk_at "bsub")⟩
        · show Rs (RT tl') vs' (mStep (mIter Ls i).1 (mIter Ls i).2.1).1
          rw [hxs, hMs]; exact hvs'
        · show Rs (RT tl') (ovs ++ [.ref Tg]) ((mIter Ls i).2.2 ++ [(mIter Ls i).1.headD default])
          rw [hxs, hp0]
          exact (hov.mono fun _ _ r => r.mono hsub).snoc hrg
        · show LnR LS'' (mStep (mIter Ls i).1 (mIter Ls i).2.1).2
          rw [hxs, hMs]; exact hLS''
    · rintro h₅ bs ns ⟨rfl, hiN, _⟩ O₅
      omega
end
section
/-- the law's plain facts -/
noncomputable def namesOf (ms : List Int) : List Str := ms.map rowOf
noncomputable def numsOf' (ms : List Int) : List Int := ms.map numOf
noncomputable def linesOf (ms : List Int) : List (List Str) := (gUp (namesOf ms) 9).2
noncomputable def tripOf (ms : List Int) (k : Nat) : T3 := ((numsOf' ms).getD k 0, (levelsOf (numsOf' ms)).getD k 0, (k : Int))
noncomputable def tripsOf (ms : List Int) : List T3 := (List.range 9).map (tripOf ms)
noncomputable def pairOf (ms : List Int) (k : Nat) : P2 := (rowOf (ms.getD k 0), (levelsOf (numsOf' ms)).getD k 0)
structure PlainOk (ms : List Int) : Prop where
  file : ∀ m ∈ ms, fileOf m = rowOf m
  words : Words (namesOf ms)
  str : ∀ m ∈ ms, PyData.strOk (rowOf m) = true
  places : (gUp (namesOf ms) 9).1 = levelsOf (numsOf' ms)
  lt : LtOk 9 fun i j => triLt ((tripsOf ms).getD i default) ((tripsOf ms).getD j default)
  mEnd : (mIter (linesOf ms) 9).1 = []
  mGo : ∀ i, i < 9 → (mIter (linesOf ms) i).1 ≠ []
  mIdx : ∀ i, i < 9 → 0 ≤ ((mIter (linesOf ms) i).1.headD default).2 ∧ ((mIter (linesOf ms) i).1.headD default).2.toNat < (linesOf ms).length
  mWl : ∀ i, i ≤ 9 → ∀ W ∈ (mIter (linesOf ms) i).2.1, W.length ≤ 9
  mOk : ∀ i, i < 9 → PyData.strOk ((mIter (linesOf ms) i).1.headD default).1 = true
  mOut : ∀ p, PermA 9 p → AscA (fun i j => triLt ((tripsOf ms).getD i default) ((tripsOf ms).getD j default)) p 9 → (mIter (linesOf ms) 9).2.2 = p.toList.map (pairOf ms)
  mLast : ∀ M, M ∈ levelsOf (numsOf' ms) → (∀ a ∈ levelsOf (numsOf' ms), a ≤ M) → ∃ k : Nat, M = (k : Int) ∧ k ≤ 9 ∧ (mIter (linesOf ms) 9).2.1 = List.replicate (k + 1) []
theorem take_all {α β : Type} {f : α → β} {xs : List α} {n : Nat} (h : n = xs.length) : (xs.take n).map f = xs.map f := by rw [List.take_of_length_le (by omega)]
theorem pbs_rs {LS : List Ln} {h : Heap} {k : Nat} (x : LnR LS (List.replicate k [])) (hp : ∀ l ∈ LS, ∃ o, h.get? l.pb = some o ∧ LA l.ws o) : Rs (fun v (_ : Unit) => ∃ a, v = Value.ref a ∧ ∃ o, h.get? a = some o ∧ LA [] o) (LS.map fun l => Value.ref l.pb) (List.replicate k ()) := by
  have hk : LS.length = k := by rw [x.1, List.length_replicate]
  refine ⟨by rw [List.length_map, List.length_replicate, hk], fun j v hv => ?_⟩
  rw [List.getElem?_map] at hv
  cases hl : LS[j]? with
  | none => rw [hl] at hv; cases hv
  | some l =>
    rw [hl] at hv
    cases hv
    have hj : j < k := by rw [← hk]; exact (List.getElem?_eq_some_iff.mp hl).1
    have hs := x.2 j l [] hl (by rw [List.getElem?_replicate, if_pos hj])
    have hw : l.ws = [] := List.eq_nil_of_length_eq_zero hs.length
    have := hp l (List.mem_of_getElem? hl)
    rw [hw] at this
    exact ⟨(), by rw [List.getElem?_replicate, if_pos hj], _, rfl, this⟩
theorem holds_ev {w : World} {g₀ h : Heap} (G : Gd w g₀) (hst : g₀.StaysIn h) {ml nl : Addr} {mvs nvs : List Value} {ms mans : List Int} (hm : ∃ o, h.get? ml = some o ∧ LA mvs o) (hM : Ints mvs ms) (hn : ∃ o, h.get? nl = some o ∧ LA nvs o) (hN : Ints nvs mans)
    (ht : ∃ o, h.get? 164 = some o ∧ TabA o) (hgt : g₀.get? 164 = none) (CH : CodeHd g₀ 166 164) (hlm : ms.length = 9) (hln : mans.length = 9) (h16 : ∀ m ∈ ms, 0 ≤ m ∧ m < 65536) (h01 : ∀ m ∈ mans, m = 0 ∨ m = 1) (K : PlainOk ms) :
    Ev w 325 (call (.ref 179) [.ref ml, .ref nl]) h fun v h' => v = .bool true ∧ g₀.StaysIn h' ∧ ∃ o, h'.get? 164 = some o ∧ TabG o := by
  refine' ev_cells (binds := [(Str.ofString "modes", .ref ml), (Str.ofString "manners", .ref nl)]) (bs := [(Str.ofString "manners", .ref nl)]) [(164, TabA)] (fun L => [(L + 1 + 1 + 1, CA none), (L + 1 + 1, CA none), (L + 1, CA (some (.ref ml)))]) G hst (fun q hq => by rw [List.mem_singleton.mp hq]; exact ⟨ht, hgt⟩) (List.nodup_cons.mpr ⟨(fun z => nomatch z), List.nodup_nil⟩) ?k6 ?kfd ?k7 ?kb ?k9 ?kcl ?kk ?kN ?khb ?kcs ?_ ?kr ?c2 ?c3 ?c4
  walk_at "enterC"
  case khb =>
    intro L x hx
    rw [List.mem_singleton.mp hx]
    exact rfl
  intro g L h₁ Gg H O
  have hne : ∀ (b : Addr) (vs : List Value), (∃ o, h.get? b = some o ∧ LA vs o) → b ≠ 164 := fun b vs e z => by
    subst z
    obtain ⟨o, e1, z1⟩ := ht
    obtain ⟨o', e2, m, rfl⟩ := e
    rw [e1] at e2; cases e2; cases z1
  have hmg : ∃ o, g.get? ml = some o ∧ LA mvs o := up_of hm fun o e => H.but1 _ _ (hne _ _ hm) e
  have hng : ∃ o, g.get? nl = some o ∧ LA nvs o := up_of hn fun o e => H.but1 _ _ (hne _ _ hn) e
  have hzm : mvs.length = 9 := by rw [hM.length, hlm]
  simp only [List.cons_append, List.nil_append] at O
  refine' ev_seq (ev_assign_comp (cl := []) ?m1 ?m2 ?m3 ?_ ?m5 ?m4)
  case m1 => exact rfl
  case m2 => exact rfl
  case m3 => decide
  case m5 => exact rfl
  case m4 => exact fun _ => rfl
  repeat walk_at "ev"
  refine ev_iter_list O (O.up hmg) fun I₁ h₂ O₂ => ?_
  refine (compAt_it (J := fun i zs ex => Strs zs ((ms.take i).map fileOf) ∧ ex = []) Gg (it_list (l := ml) (vs := mvs)) (self_list (vs := mvs)) O₂ (fun h' k => O₂.up_but hmg k) ⟨.nil, rfl⟩ ?_ ?_ (by decide) rfl).mono ?_
  · rintro i ys ex ⟨hys, rfl⟩
    rw [hys.length]; simp; omega
  · rintro g' C D i v h₃ ys ex Gg' up _ hi hv ⟨hys, rfl⟩ O₃
    obtain ⟨x, tx, hx, rfl⟩ := hM.get hv
    refine ev_target ?_
    repeat walk_at "ev"
    refine pure_call (by assumption) (file_ev Gg' (Own.keep (by assumption)) x tx) (by decide) ?_
    rintro v h₅ ⟨t', rfl⟩ O₅
    exact ⟨_, [], ⟨strs_take (f := fileOf) hys hx, rfl⟩, O₅⟩
  rintro nD C h₃ ⟨nys, ex, ⟨hnys, rfl⟩, O₃⟩
  simp only [List.nil_append] at O₃
  rw [hzm, take_all hlm.symm, show ms.map fileOf = namesOf ms from List.map_congr_left K.file] at hnys
  repeat walk_at "ev"
  rename_i h₄ O₄
  refine ⟨_, _, _, _, O₄, fun h₅ O₅ => then_next ?_⟩
  clear O₄ O₃ O₂ O
  repeat walk_at "ev"
  refine' ev_comp (cl := []) ?m1 ?m2 ?m3 ?_ ?m4
  case m1 => exact rfl
  case m2 => exact rfl
  case m3 => decide
  case m4 => exact fun _ => rfl
  repeat walk_at "ev"
  refine ev_iter_list O₅ (O₅.up hmg) fun I₂ h₆ O₆ => ?_
  refine (compAt_it (J := fun i zs ex => Strs zs ((ms.take i).map rowOf) ∧ ex = []) Gg (it_list (l := ml) (vs := mvs)) (self_list (vs := mvs)) O₆ (fun h' k => O₆.up_but hmg k) ⟨.nil, rfl⟩ ?_ ?_ (by decide) rfl).mono ?_
  · rintro i ys ex ⟨hys, rfl⟩
    rw [hys.length]; simp; omega
  · rintro g' C D i v h₃ ys ex Gg' up _ hi hv ⟨hys, rfl⟩ O₃
    obtain ⟨x, tx, hx, rfl⟩ := hM.get hv
    obtain ⟨hx0, hx1⟩ := h16 x (List.mem_of_getElem? hx)
    refine ev_target ?_
    repeat walk_at "ev"
    refine pure_call (by assumption) (row_ev Gg' (Own.keep (by assumption)) x tx hx0 hx1) (by decide) ?_
    rintro v h₅ ⟨t', rfl⟩ O₅
    exact ⟨_, [], ⟨strs_take (f := rowOf) hys hx, rfl⟩, O₅⟩
  rintro rD C h₆' ⟨rys, ex, ⟨hrys, rfl⟩, O₇⟩
  simp only [List.nil_append] at O₇
  rw [hzm, take_all hlm.symm] at hrys
  refine ⟨_, _, _, _, O₇, fun h₈ O₈ => ?_⟩
  obtain ⟨as1, ra1⟩ := hnys.reads (h := h₈)
  obtain ⟨as2, ra2⟩ := hrys.reads (h := h₈)
  refine ev_ne_same (by decide) (reads_LA (O₈.at (φ := LA nys) (by walk_at "lk")) ra1) (reads_LA (O₈.at (φ := LA rys) (by walk_at "lk")) ra2) (shapedS fun x hx => ?_) ⟨_, rfl, iteF ?_⟩
  · obtain ⟨m, hm, rfl⟩ := List.mem_map.mp hx
    exact K.str m hm
  clear ra1 ra2 O₇ O₆ O₅
  repeat walk_at "ev"
  refine' ev_comp (cl := []) ?m1 ?m2 ?m3 ?_ ?m4
  case m1 => exact rfl
  case m2 => exact rfl
  case m3 => decide
  case m4 => exact fun _ => rfl
  repeat walk_at "ev"
  refine ev_iter_list O₈ (O₈.up hmg) fun I₃ h₉ O₉ => ?_
  refine (compAt_it (J := fun i zs ex => Ints zs ((ms.take i).map numOf) ∧ ex = []) Gg (it_list (l := ml) (vs := mvs)) (self_list (vs := mvs)) O₉ (fun h' k => O₉.up_but hmg k) ⟨.nil, rfl⟩ ?_ ?_ (by decide) rfl).mono ?_
  · rintro i ys ex ⟨hys, rfl⟩
    rw [hys.length]; simp; omega
  · rintro g' C D i v h₃ ys ex Gg' up _ hi hv ⟨hys, rfl⟩ O₃
    obtain ⟨x, tx, hx, rfl⟩ := hM.get hv
    obtain ⟨hx0, hx1⟩ := h16 x (List.mem_of_getElem? hx)
    refine ev_target ?_
    repeat walk_at "ev"
    refine pure_call (by assumption) (number_ev Gg' (Own.keep (by assumption)) x tx hx0 hx1) (by decide) ?_
    rintro v h₅ ⟨t', rfl⟩ O₅
    exact ⟨_, [], ⟨ints_take (f := numOf) hys hx, rfl⟩, O₅⟩
  rintro uD C h₁₀ ⟨uys, ex, ⟨huys, rfl⟩, O₁₀⟩
  simp only [List.nil_append] at O₁₀
  rw [hzm, take_all hlm.symm] at huys
  refine ⟨_, _, _, _, O₁₀, fun h₁₂ O₁₂ => ?_⟩
  clear O₁₀ O₉ O₈
  repeat walk_at "ev"
  rename_i h₁₃ O₁₃
  clear O₁₂
  refine ⟨O₁₃.keep, ?_⟩
  refine ((levels_ev Gg O₁₃.keep (O₁₃.at (φ := LA uys) (by walk_at "lk")) huys (by rw [List.length_map, hlm]; decide)).lift (by decide)).mono ?_
  rintro _ h₁₄ ⟨st, vD, vys, rfl, hvD, hvys⟩
  have O₁₄ := O₁₃.stay st
  clear O₁₃ st
  have O₁₅ := (O₁₄.sel (p := (164, TabA)) (by walk_at "sel")).sel (p := (L + 1 + 1 + 1, CA none)) (by walk_at "sel")
  clear O₁₄
  obtain ⟨g₂, G₂, up₂, dn₂, O₁₆, fz, R₂⟩ := Own.freezeG (A := [(L + 1 + 1 + 1, CA none), (164, TabA)]) Gg O₁₅
  have lz : ∀ b vs, (∃ o, h₁₄.get? b = some o ∧ LA vs o) → ∃ o, g₂.get? b = some o ∧ LA vs o := fun b vs e => up_of e fun o q => fz b o q (O₁₅.ne_frame e) fun z => by
    have z1 := ne_LA_CA e (O₁₅.at (φ := CA none) (a := L + 1 + 1 + 1) (by walk_at "lk"))
    have z2 := ne_LA_Tab e (O₁₅.at (φ := TabA) (a := 164) (by walk_at "lk"))
    simp only [List.map_cons, List.map_nil, List.mem_cons, List.not_mem_nil, or_false] at z
    rcases z with z | z
    · exact z1 z
    · exact z2 z
  have vD₂ := lz _ _ hvD
  have cM₂ : ∃ o, g₂.get? (L + 1) = some o ∧ CA (some (.ref ml)) o := R₂ _ _ (by walk_at "lk")
  have cU₂ : ∃ o, g₂.get? (L + 1 + 1) = some o ∧ CA (some (.ref uD)) o := R₂ _ _ (by walk_at "lk")
  have nD₂ : ∃ o, g₂.get? nD = some o ∧ LA nys o := R₂ _ _ (by walk_at "lk")
  have uD₂ : ∃ o, g₂.get? uD = some o ∧ LA uys o := R₂ _ _ (by walk_at "lk")
  have ml₂ := up_of hmg fun o e => up₂ _ _ e
  have nl₂ := up_of hng fun o e => up₂ _ _ e
  clear O₁₅ fz R₂ lz dn₂
  repeat walk_at "ev"
  rename_i h₁₅ O₁₇
  clear O₁₆
  refine ⟨O₁₇.keep, ?_⟩
  have O₁₈ := O₁₇.sel (p := (164, TabA)) (by walk_at "sel")
  have hnl : (namesOf ms).length = 9 := by unfold namesOf; rw [List.length_map, hlm]
  refine ((lines_ev G₂ O₁₇.keep (O₁₇.up nD₂) hnys (O₁₇.up nl₂) hN (O₁₇.at (φ := TabA) (by walk_at "lk")) (O₁₇.fresh (φ := TabA) (by walk_at "lk")) ((CH.keeps H.up).keeps up₂) (by rw [hnl, hln]) (by rw [hnl]; decide) K.words h01).lift (by decide)).mono ?_
  rintro _ h₁₆ ⟨T, pl, ll, pvs, LS, rfl, hpv, hLS, rs⟩
  rw [hnl] at hpv hLS
  have O₁₉ := Own.res (A := [(164, TabA)]) O₁₈ rs
  clear O₁₇ O₁₈ rs
  have O₂₀ : Own g₂ L h₁₆ [(Str.ofString "manners", Value.ref nl), (Str.ofString "names", Value.ref nD)] (pbsA LS ++ ((164, TabG) :: (T, TA [.ref pl, .ref ll]) :: (pl, LA pvs) :: (ll, LA (LS.map fun l => Value.ref l.x)) :: (L + 1 + 1 + 1, CA (some (Value.ref vD))) :: lnsF LS)) := O₁₉.perm (List.Perm.symm (by
    refine List.Perm.trans (l₂ := [(164, TabG), (T, TA [.ref pl, .ref ll]), (pl, LA pvs), (ll, LA (LS.map fun l => Value.ref l.x))] ++ (pbsA LS ++ ((L + 1 + 1 + 1, CA (some (Value.ref vD))) :: lnsF LS))) ?_ (List.perm_append_comm_assoc _ _ _)
    refine ((List.Perm.append_left [(164, TabG), (T, TA [.ref pl, .ref ll]), (pl, LA pvs), (ll, LA (LS.map fun l => Value.ref l.x))] ?_))
    refine ((lnsA_perm LS).append_right _).trans ?_
    rw [List.append_assoc]
    exact List.Perm.append_left _ (List.perm_append_comm (l₁ := lnsF LS) (l₂ := [(L + 1 + 1 + 1, CA (some (Value.ref vD)))]))))
  clear O₁₉
  obtain ⟨g₃, G₃, up₃, dn₃, O₂₁, _, R₃⟩ := Own.freezeG (A := pbsA LS) G₂ O₂₀
  have T₃ : ∃ o, g₃.get? T = some o ∧ TA [.ref pl, .ref ll] o := R₃ _ _ (by walk_at "lk")
  have pl₃ : ∃ o, g₃.get? pl = some o ∧ LA pvs o := R₃ _ _ (by walk_at "lk")
  have ll₃ : ∃ o, g₃.get? ll = some o ∧ LA (LS.map fun l => Value.ref l.x) o := R₃ _ _ (by walk_at "lk")
  have tG₃ : ∃ o, g₃.get? 164 = some o ∧ TabG o := R₃ _ _ (by walk_at "lk")
  have cV₃ : ∃ o, g₃.get? (L + 1 + 1 + 1) = some o ∧ CA (some (.ref vD)) o := R₃ _ _ (by walk_at "lk")
  have hlg₃ : ∀ l ∈ LS, LnG g₃ l := fun l hl => ⟨R₃ _ _ (.tail _ (.tail _ (.tail _ (.tail _ (.tail _ (lnsF_x hl)))))), R₃ _ _ (.tail _ (.tail _ (.tail _ (.tail _ (.tail _ (lnsF_dx hl))))))⟩
  have cM₃ := up_of cM₂ fun o e => up₃ _ _ e
  have cU₃ := up_of cU₂ fun o e => up₃ _ _ e
  have vD₃ := up_of vD₂ fun o e => up₃ _ _ e
  have uD₃ := up_of uD₂ fun o e => up₃ _ _ e
  have ml₃ := up_of ml₂ fun o e => up₃ _ _ e
  have hllp : ∀ l ∈ LS, ll ≠ l.pb := fun l hl e => by
    obtain ⟨o, z, _⟩ := ll₃
    rw [e, O₂₁.fresh (φ := LA l.ws) (List.mem_map.mpr ⟨l, hl, rfl⟩)] at z; cases z
  clear O₂₀ R₃ dn₃ cM₂ cU₂ vD₂ uD₂ ml₂ nl₂ nD₂ hmg hng
  repeat walk_at "ev"
  rw [show (Value.ref T == Value.none) = false from rfl]
  refine iteF ?_
  rename_i h₁₇ O₂₂
  clear O₂₁
  repeat walk_at "ev"
  refine' ev_assign_tup_then ?_ ?q1 ?q2
  case q1 => exact rfl
  case q2 => exact rfl
  repeat walk_at "ev"
  refine ev_assign_pair (O₂₂.up T₃) fun h₁₈ hb => ?_
  have O₂₃ := O₂₂.fresh_but hb
  clear O₂₂ hb
  repeat walk_at "ev"
  rename_i h₁₉ O₂₄ h₂₀ O₂₅
  clear O₂₃ O₂₄
  rw [K.places] at hpv
  change Ints vys (levelsOf (numsOf' ms)) at hvys
  obtain ⟨as3, ra3⟩ := hpv.reads (h := h₂₀)
  obtain ⟨as4, ra4⟩ := hvys.reads (h := h₂₀)
  refine ev_ne_same (by decide) (reads_LA (O₂₅.up pl₃) ra3) (reads_LA (O₂₅.up vD₃) ra4) (shapedI _) ⟨_, rfl, iteF ?_⟩
  clear ra3 ra4
  repeat walk_at "ev"
  refine' ev_comp (cl := [(Str.ofString "numbers", L + 1 + 1), (Str.ofString "levels", L + 1 + 1 + 1)]) ?m1 ?m2 ?m3 ?_ ?m4
  case m1 => exact rfl
  case m2 => exact rfl
  case m3 => decide
  case m4 => exact fun _ => rfl
  repeat walk_at "ev"
  refine ev_len (isList (O₂₅.up ml₃)) (by omega) fun t5 => ?_
  repeat walk_at "ev"
  refine ev_range (N := 9) O₂₅ (by rw [hzm]) fun r h₂₁ O₂₆ _ => ?_
  refine ev_iter_range O₂₆ (O₂₆.at (by walk_at "lk")) (by decide) fun I₄ h₂₂ O₂₇ => ?_
  have hul : uys.length = 9 := by rw [huys.length, List.length_map, hlm]
  have hvl : vys.length = 9 := by rw [hvys.length, levelsOf, levelsUp_length, numsOf', List.length_map, hlm]
  refine (compAt_it (J := fun j zs ex => Rs (RT3 ex) zs ((List.range j).map (tripOf ms)) ∧ j ≤ 9) G₃ (it_range (N := 9)) self_range O₂₇ (fun _ _ => trivial) ⟨.nil, Nat.zero_le _⟩ ?_ ?_ (by decide) rfl).mono ?_
  · rintro j zs ex ⟨hzs, q⟩
    rw [hzs.1, List.length_map, List.length_range]; omega
  · rintro g' C D j v h₃ zs ex Gg' up _ hj ⟨tj, rfl⟩ ⟨hzs, _⟩ O₃
    have up' : ∀ b o, b ≠ I₄ → h₂₂.get? b = some o → g'.get? b = some o := fun b o q e => up b o e q
    have c1 := O₂₇.up_but cU₃ up'
    have c2 := O₂₇.up_but cV₃ up'
    have c3 := O₂₇.up_but uD₃ up'
    have c4 := O₂₇.up_but vD₃ up'
    refine ev_target ?_
    repeat walk_at "ev"
    refine ev_item_list_any (Own.up (by assumption) c3) (by omega) (by omega) (by omega) fun v hv => ?_
    obtain ⟨t1, rfl⟩ := huys.getD hv
    simp only [Int.toNat_natCast]
    repeat walk_at "ev"
    refine ev_item_list_any (Own.up (by assumption) c4) (by omega) (by omega) (by omega) fun v hv => ?_
    obtain ⟨t2, rfl⟩ := hvys.getD hv
    simp only [Int.toNat_natCast]
    repeat walk_at "ev"
    rename_i h₄ T' O₄ _
    refine ⟨_, (T', TA [.int (tripOf ms j).1 t1, .int (tripOf ms j).2.1 t2, .int (tripOf ms j).2.2 tj]) :: ex, ⟨?_, by omega⟩, O₄.perm (List.perm_middle (l₁ := [(I₄, RI 9 (j + 1)), (D, LA zs)]))⟩
    rw [List.range_succ, List.map_append]
    exact RT3.snoc (p := tripOf ms j) hzs
  rintro oD C h₂₃ ⟨zs, ex, ⟨hzs, _⟩, O₂₈⟩
  refine ⟨_, _, _, _, O₂₈, fun h₂₄ O₂₉ => ?_⟩
  clear O₂₈ O₂₇ O₂₆ O₂₅
  repeat walk_at "ev"
  have htl : (tripsOf ms).length = 9 := by unfold tripsOf; simp
  change Rs (RT3 ex) zs (tripsOf ms) at hzs
  refine ev_sorted O₂₉ (O₂₉.at (φ := LA zs) (by walk_at "lk")) (hzs.mono fun v p ⟨a, t, u, s, e, m⟩ => ⟨a, t, u, s, e, O₂₉.at (.tail _ (List.mem_append_left _ m))⟩) (by rw [htl]; decide) (by rw [htl]; decide) (by rw [htl]; exact K.lt) fun q p h₂₅ hp ha _ O₃₀ => ?_
  rw [htl] at hp ha
  repeat walk_at "ev"
  rename_i h₂₆ O₃₁
  clear O₃₀ O₂₉
  refine ⟨O₃₁.keep, ?_⟩
  generalize hov : List.map (fun i => zs.getD i Value.none) p.toList = ovals at O₃₁
  have O₃₂ : Own g₃ L h₂₆ _ (pbsA LS ++ ((q, LA ovals) :: (oD, LA zs) :: (ex ++ [(r, RA 9)]))) := O₃₁.perm (List.Perm.trans List.perm_append_comm (by
    show (((q, LA ovals) :: (oD, LA zs) :: (ex ++ [(r, RA 9)])) ++ pbsA LS).Perm _
    rw [List.cons_append, List.cons_append, List.append_assoc]
    exact .refl _))
  clear O₃₁
  obtain ⟨g₄, G₄, up₄, dn₄, O₃₃, _, R₄⟩ := Own.freezeG (A := pbsA LS) G₃ O₃₂
  have q₄ : ∃ o, g₄.get? q = some o ∧ LA ovals o := R₄ _ _ (by walk_at "lk")
  have hps : p.toList.length = 9 := by rw [Array.length_toList, hp.size]
  have hol : ovals.length = 9 := by rw [← hov, List.length_map, hps]
  have hord : ∀ i v, ovals[i]? = some v → ∃ k, p.toList[i]? = some k ∧ k < 9 ∧ ∃ (a : Addr) (t u s : Tok), v = Value.ref a ∧ ∃ o, g₄.get? a = some o ∧ TA [.int (tripOf ms k).1 t, .int (tripOf ms k).2.1 u, .int ((k : Nat) : Int) s] o := fun i v hv => by
    rw [← hov, List.getElem?_map] at hv
    cases hk : p.toList[i]? with
    | none => rw [hk] at hv; cases hv
    | some k =>
      rw [hk] at hv
      cases hv
      have hk9 : k < 9 := List.mem_range.mp (hp.mem_iff.mp (List.mem_of_getElem? hk))
      have hr := hzs.getD_tri (i := k) (by rw [htl]; exact hk9)
      have e : (tripsOf ms).getD k default = tripOf ms k := by
        unfold tripsOf
        rw [List.getD_eq_getElem?_getD, List.getElem?_map, List.getElem?_range hk9]; rfl
      rw [e] at hr
      obtain ⟨a, t, u, s, e1, m⟩ := hr
      exact ⟨k, hk, hk9, a, t, u, s, e1, R₄ _ _ (.tail _ (.tail _ (List.mem_append_left _ m)))⟩
  have tG₄ := up_of tG₃ fun o e => up₄ _ _ e
  have ll₄ := up_of ll₃ fun o e => up₄ _ _ e
  have cM₄ := up_of cM₃ fun o e => up₄ _ _ e
  have cV₄ := up_of cV₃ fun o e => up₄ _ _ e
  have vD₄ := up_of vD₃ fun o e => up₄ _ _ e
  have ml₄ := up_of ml₃ fun o e => up₄ _ _ e
  have hlg₄ : ∀ l ∈ LS, LnG g₄ l := fun l hl => (hlg₃ l hl).keeps up₄
  clear O₃₂ R₄ dn₄ ll₃ cM₃ cU₃ cV₃ vD₃ uD₃ ml₃ pl₃ T₃ hlg₃
  change LnR LS (linesOf ms) at hLS
  have hLl : LS.length ≤ 9 := by rw [hLS.1]; exact gUp_length _ _
  refine ((merged_ev G₄ O₃₃.keep (O₃₃.up ll₄) hLS (fun l hl => (hlg₄ l hl).keeps O₃₃.keep) (fun p hp => ⟨(O₃₃.nw p hp).1, (O₃₃.nw p hp).2.2⟩) O₃₃.nd hllp (gUp_ne _ _) (gUp_words _ _) hLl (N := 9) (Nat.le_refl _) K.mEnd K.mGo K.mIdx K.mWl K.mOk).lift (by decide)).mono ?_
  rintro _ h₂₇ ⟨out, ovs, LS', tl, rfl, hovs, hLS', hfix, rs⟩
  have O₃₄ := Own.res (A := pbsA LS) (R := []) ((List.append_nil (pbsA LS)).symm ▸ O₃₃) rs
  rw [List.append_nil] at O₃₄
  clear O₃₃ rs
  repeat walk_at "ev"
  refine' ev_comp (cl := [(Str.ofString "modes", L + 1)]) ?m1 ?m2 ?m3 ?_ ?m4
  case m1 => exact rfl
  case m2 => exact rfl
  case m3 => decide
  case m4 => exact fun _ => rfl
  repeat walk_at "ev"
  refine ev_iter_list O₃₄ (O₃₄.up q₄) fun I₅ h₂₈ O₃₅ => ?_
  refine (compAt_it (J := fun j zs ex => Rs (RT ex) zs ((p.toList.take j).map (pairOf ms))) G₄ (it_list (l := q) (vs := ovals)) (self_list (vs := ovals)) O₃₅ (fun h' k => O₃₅.up_but q₄ k) .nil ?_ ?_ (by decide) rfl).mono ?_
  · intro j zs ex hzs
    rw [hzs.1, List.length_map, List.length_take]; omega
  · rintro g' C D j v h₃ zs ex Gg' up _ hj hv hzs O₃
    have up' : ∀ b o, b ≠ I₅ → h₂₈.get? b = some o → g'.get? b = some o := fun b o q e => up b o e q
    have c1 := O₃₅.up_but cM₄ up'
    have c2 := O₃₅.up_but ml₄ up'
    obtain ⟨k, hk, hk9, a, t, u, s, rfl, hT⟩ := hord j v hv
    have hT' := O₃₅.up_but hT up'
    refine ev_letgo (O₃.at (.head _)) ?_
    refine ev_assign_trip (O₃.up hT') fun h₄ hb => ?_
    have O₄ := O₃.fresh_but hb
    clear O₃ hb
    repeat walk_at "ev"
    refine ev_item_list_any (Own.up (by assumption) c2) (by omega) (by omega) (by omega) fun v hv => ?_
    obtain ⟨t1, rfl⟩ := hM.getD hv
    simp only [Int.toNat_natCast]
    have hkm : k < ms.length := by omega
    have hx : ms.getD k 0 ∈ ms := by
      rw [List.getD_eq_getElem?_getD, List.getElem?_eq_getElem hkm]; exact List.getElem_mem hkm
    obtain ⟨hx0, hx1⟩ := h16 _ hx
    repeat walk_at "ev"
    refine pure_call (by assumption) (row_ev Gg' (Own.keep (by assumption)) _ t1 hx0 hx1) (by decide) ?_
    rintro v h₅ ⟨t', rfl⟩ O₅
    repeat walk_at "ev"
    rename_i h₆ T' O₆ _
    refine ⟨_, (T', TA [.str (pairOf ms k).1 t', .int (pairOf ms k).2 u]) :: ex, ?_, O₆.perm (List.perm_middle (l₁ := [(I₅, LI q (j + 1)), (D, LA zs)]))⟩
    rw [List.take_add_one, hk, List.map_append]
    exact RT.snoc (p := pairOf ms k) hzs
  rintro cD C h₂₉ ⟨zs₂, ex₂, hzs₂, O₃₆⟩
  refine ⟨_, _, _, _, O₃₆, fun h₃₀ O₃₇ => ?_⟩
  clear O₃₆ O₃₅ O₃₄
  have hout := K.mOut p hp ha
  rw [hol, List.take_of_length_le (by omega), ← hout] at hzs₂
  obtain ⟨as5, ra5⟩ := Rs.reads (h := h₃₀) (D := pairD) (fun v p ⟨a, t, u, e, m⟩ => Pr.reads (h := h₃₀) ⟨a, t, u, e, O₃₇.at (.tail _ (List.mem_append_right _ (.tail _ (List.mem_append_right _ m))))⟩) hovs
  obtain ⟨as6, ra6⟩ := Rs.reads (h := h₃₀) (D := pairD) (fun v p ⟨a, t, u, e, m⟩ => Pr.reads (h := h₃₀) ⟨a, t, u, e, O₃₇.at (.tail _ (List.mem_append_left _ m))⟩) hzs₂
  refine ev_ne_same (by decide) (reads_LA (O₃₇.at (φ := LA ovs) (.tail _ (List.mem_append_right _ (.head _)))) ra5) (reads_LA (O₃₇.at (φ := LA zs₂) (.head _)) ra6) (shapedP fun x hx => ?_) ⟨_, rfl, iteF ?_⟩
  · rw [hout] at hx
    obtain ⟨k, hk, rfl⟩ := List.mem_map.mp hx
    have hk9 : k < 9 := List.mem_range.mp (hp.mem_iff.mp hk)
    have hkm : k < ms.length := by omega
    refine K.str _ ?_
    rw [List.getD_eq_getElem?_getD, List.getElem?_eq_getElem hkm]; exact List.getElem_mem hkm
  clear ra5 ra6
  rw [← fix_x hfix] at ll₄
  have hlg' := fix_G hfix hlg₄
  have hL9 : LS'.length ≤ 9 := by rw [fix_len hfix]; exact hLl
  repeat walk_at "ev"
  refine' ev_comp (cl := []) ?m1 ?m2 ?m3 ?_ ?m4
  case m1 => exact rfl
  case m2 => exact rfl
  case m3 => decide
  case m4 => exact fun _ => rfl
  repeat walk_at "ev"
  refine ev_iter_list O₃₇ (O₃₇.up ll₄) fun I₆ h₃₁ O₃₈ => ?_
  refine (compAt_it (J := fun j zs ex => zs = (LS'.take j).map (fun l => Value.ref l.pb) ∧ ex = []) G₄ (it_list (l := ll) (vs := LS'.map fun l => Value.ref l.x)) (self_list (vs := LS'.map fun l => Value.ref l.x)) O₃₈ (fun h' k => O₃₈.up_but ll₄ k) ⟨rfl, rfl⟩ ?_ ?_ (by decide) rfl).mono ?_
  · rintro j zs ex ⟨rfl, rfl⟩
    rw [List.length_map, List.length_take]; omega
  · rintro g' C D j v h₃ zs ex Gg' up _ hj hv ⟨rfl, rfl⟩ O₃
    have up' : ∀ b o, b ≠ I₆ → h₃₁.get? b = some o → g'.get? b = some o := fun b o q e => up b o e q
    rw [List.getElem?_map] at hv
    cases hl : LS'[j]? with
    | none => rw [hl] at hv; cases hv
    | some l =>
      rw [hl] at hv
      cases hv
      have hG := hlg' l (List.mem_of_getElem? hl)
      have x1 := O₃₈.up_but hG.x up'
      have x2 := O₃₈.up_but hG.dx up'
      refine ev_target ?_
      repeat walk_at "ev"
      refine ⟨_, [], ⟨?_, rfl⟩, by assumption⟩
      rw [List.take_add_one, hl, List.map_append]; rfl
  rintro aD C h₃₂ ⟨zs₃, ex₃, ⟨hzs₃, rfl⟩, O₃₉⟩
  simp only [List.nil_append] at O₃₉
  rw [List.length_map, List.take_of_length_le (Nat.le_refl _)] at hzs₃
  subst hzs₃
  refine ⟨_, _, _, _, O₃₉, fun h₃₃ O₄₀ => ?_⟩
  clear O₃₉ O₃₈ O₃₇
  refine' ev_comp (cl := []) ?m1 ?m2 ?m3 ?_ ?m4
  case m1 => exact rfl
  case m2 => exact rfl
  case m3 => decide
  case m4 => exact fun _ => rfl
  repeat walk_at "ev"
  refine ev_max (O₄₀.up vD₄) hvys (by rw [levelsOf, levelsUp_length, numsOf', List.length_map, hlm]; decide) fun h₃₄ M t st hMm hMu => ?_
  have O₄₁ := O₄₀.stay st
  clear O₄₀ st
  obtain ⟨k, rfl, hk9, hlast⟩ := K.mLast M hMm hMu
  repeat walk_at "ev"
  refine ev_range (N := k + 1) O₄₁ (by omega) fun r₂ h₃₅ O₄₂ _ => ?_
  refine ev_iter_range O₄₂ (O₄₂.at (by walk_at "lk")) (by omega) fun I₇ h₃₆ O₄₃ => ?_
  refine (compAt_it (J := fun j zs ex => Rs (RE ex) zs (List.replicate j ()) ∧ j ≤ 10) G₄ (it_range (N := k + 1)) self_range O₄₃ (fun _ _ => trivial) ⟨.nil, Nat.zero_le _⟩ ?_ ?_ (by decide) rfl).mono ?_
  · rintro j zs ex ⟨hzs, q⟩
    rw [hzs.1, List.length_replicate]; omega
  · rintro g' C D j v h₃ zs ex Gg' up _ hj ⟨tj, rfl⟩ ⟨hzs, _⟩ O₃
    refine ev_target ?_
    repeat walk_at "ev"
    rename_i h₄ T' O₄ _
    refine ⟨_, (T', LA []) :: ex, ⟨?_, by omega⟩, O₄.perm (List.perm_middle (l₁ := [(I₇, RI (k + 1) (j + 1)), (D, LA zs)]))⟩
    rw [List.replicate_succ']
    exact RE.snoc hzs
  rintro bD C h₃₇ ⟨zs₄, ex₄, ⟨hzs₄, _⟩, O₄₄⟩
  refine ⟨_, _, _, _, O₄₄, fun h₃₈ O₄₅ => ?_⟩
  clear O₄₄ O₄₃ O₄₂ O₄₁
  rw [hlast] at hLS'
  obtain ⟨as7, ra7⟩ := Rs.reads (h := h₃₈) (D := fun _ : Unit => PyData.list []) (fun v p ⟨a, e, m⟩ => ⟨_, e ▸ reads_LA m .nil⟩) (pbs_rs hLS' fun l hl => O₄₅.at (φ := LA l.ws) (a := l.pb) (.tail _ (List.mem_append_right _ (.tail _ (.tail _ (.tail _ (List.mem_append_right _ (.tail _ (List.mem_append_left _ (List.mem_map.mpr ⟨l, hl, rfl⟩))))))))))
  · obtain ⟨as8, ra8⟩ := Rs.reads (h := h₃₈) (D := fun _ : Unit => PyData.list []) (fun v p ⟨a, e, m⟩ => ⟨_, e ▸ reads_LA (O₄₅.at (.tail _ (List.mem_append_left _ m))) .nil⟩) hzs₄
    rw [List.map_replicate] at ra7 ra8
    refine ev_eq_same (by decide) (reads_LA (O₄₅.at (φ := LA (LS'.map fun l => Value.ref l.pb)) (a := aD) (.tail _ (List.mem_append_right _ (.tail _ (.head _))))) ra7) (reads_LA (O₄₅.at (φ := LA zs₄) (.head _)) ra8) (shapedE _) ⟨rfl, fun b o e => O₄₅.keep _ _ (up₄ _ _ (up₃ _ _ (up₂ _ _ (H.up _ _ e)))), O₄₅.up tG₄⟩
end
section
theorem finish {w : World} {A : Around} {s : Shared} {t : Sem Flow} {Q : Flow → Shared → Prop} {E : Value → Shared → Prop} (P : Flow → Heap → Prop) (hh : A.handled = none) (hd : A.depth ≤ 310) (hu : A.units ≤ 3100)
    (k : ∀ f h' tk, P f h' → Q f { s with heap := h', toks := tk }) (e : Ev w 310 t s.heap P) : wpAny (Mw w) A t Q E s :=
  lift (wpAny_mono (e s s.toks) (fun f _ ⟨h', tk, e, p⟩ => e ▸ k f h' tk p) fun _ _ x => x.elim) hh hd hu
theorem own_of {g h : Heap} {L l : Addr} {m : Str → Option Value} (F : Fr g L h m) (N : News g L h [(164, tabObj #[])]) (hm : m (Str.ofString "script") = some (.ref l)) : Own g L h [(Str.ofString "script", .ref l)] [(164, TabA)] :=
  ⟨F.keep, ⟨m, F.ns, fun x v hx => by rw [List.mem_singleton] at hx; cases hx; exact hm⟩, Heap.get?_none_of_le F.above, fun p hp => by
    rw [List.mem_singleton.mp hp]
    obtain ⟨a, b, c⟩ := N _ (.head _)
    exact ⟨⟨_, a, rfl⟩, b, c⟩, List.nodup_cons.mpr ⟨(fun z => nomatch z), List.nodup_nil⟩⟩
theorem ints_of {vs : List Value} {xs : List Int} (h : IntsAre vs xs) : Ints vs xs := by
  induction h with
  | nil => exact .nil
  | cons _ _ _ ih => exact .cons ih
theorem final_of (KP : ∀ ms : List Int, ms.length = 9 → (∀ m ∈ ms, 0 ≤ m ∧ m < 65536) → PlainOk ms) : PySem.Challenge.rw_oy0168_01.Holds := hd (by
  k_go0
  rename_i w s0 s1 mg mb G0 Y fa o pm cd doc kV ho hcd hg X V T B TE TW xs hs hlay0 hL1 hr1 hl2 w4 w3 la vs w0 hL ra w1 r0 hI hr hc hc' hD h1 X' T' K' F' N' l0
  have O := own_of F' N' rfl
  have hI := ints_of hI
  have G : Gd _ _ := ⟨X', _, _, _, _, _, T'⟩
  have hz : xs.length ≤ 63 := by omega
  clear G0 Y ho hcd X V T B TE TW hs hlay0 hL1 hr1 hl2 hL ra w1 r0 hr hc hc' hD X' T' K' F' N' l0
  refine finish (fun f h' => f = .ret (.bool true) ∧ (ghostOf s1.heap [(166, 164)]).StaysIn h' ∧ ∃ o, h'.get? 164 = some o ∧ TabG o) rfl (show 1 + claimMargin + 1 ≤ 310 by decide +kernel) (show 4 + 3 ≤ 3100 by decide) ?_ ?_
  · rintro _ h' tk ⟨rfl, st, o, ho, ps, rfl⟩
    exact ⟨⟨.inl ⟨_, .bool true, [], rfl, fun _ => rfl, .bool true, (by first | rfl | with_unfolding_all rfl | kernel_rfl | (simp [OpenRow.claim]; done)), fun _ => ⟨List.nodup_nil, fun _ ha => nomatch ha⟩⟩, st, rfl, hg⟩, ⟨ps, ho⟩, trivial⟩
  · dsimp only
    generalize ghostOf s1.heap [(166, 164)] = g at *
    refine' ev_assign_tup_then ?_ ?q1 ?q2
    case q1 => exact rfl
    case q2 => exact rfl
    repeat walk_at "ev"
    refine ⟨O.keep, ((drawn_ev G O.keep (let ⟨o, a, b⟩ := lifted; ⟨o, O.keep _ _ a, b⟩) hI hz).lift (by decide)).mono ?_⟩
    rintro _ h₂ ⟨st, T, A, B, ms, ns, va, vb, rfl, hT, hA, hB, hms, hns, l9, l9', hm, hn⟩
    have O₂ := O.stay st
    refine ev_assign_pair hT fun h₃ hb => ?_
    have O₃ := O₂.fresh_but hb
    have hA' := up_of hA fun o e => hb _ o (Nat.ne_of_lt (Heap.lt_size e)) e
    have hB' := up_of hB fun o e => hb _ o (Nat.ne_of_lt (Heap.lt_size e)) e
    clear O O₂ st hT hA hB hb
    have O₄ : Own g _ h₃ _ ([(164, TabA)] ++ []) := O₃
    obtain ⟨g₂, G₂, up₂, dn₂, O₅, fz, _⟩ := Own.freezeG (A := [(164, TabA)]) G O₄
    have lz : ∀ b vs, (∃ o, h₃.get? b = some o ∧ LA vs o) → ∃ o, g₂.get? b = some o ∧ LA vs o := fun b vs e => up_of e fun o q => fz b o q (O₃.ne_frame e) fun z => ne_LA_Tab e (O₃.at (φ := TabA) (a := 164) (by walk_at "lk")) (List.mem_singleton.mp z)
    have hA₂ := lz _ _ hA'
    have hB₂ := lz _ _ hB'
    clear O₃ O₄ fz lz hA' hB' dn₂
    repeat walk_at "ev"
    rename_i O₆
    refine ⟨O₆.keep, ((holds_ev G₂ O₆.keep (O₆.up hA₂) hms (O₆.up hB₂) hns (O₆.at (φ := TabA) (by walk_at "lk")) (O₆.fresh (φ := TabA) (by walk_at "lk")) (codeHd.keeps up₂) l9 l9' hm hn (KP ms l9 hm)).lift (by decide)).mono ?_⟩
    rintro _ h₆ ⟨rfl, st, tG⟩
    exact ⟨rfl, fun b o e => st b o (up₂ b o e), tG⟩)
end
end Mine
end
section
open PySem
namespace Mine
noncomputable def le2 (a b : P2) : Prop := pLt b a = false
theorem cps_inj {x y : Str} (h : x.cps.toList = y.cps.toList) : x = y := by
  obtain ⟨a⟩ := x
  obtain ⟨b⟩ := y
  congr 1
  exact Array.toList_inj.mp h
theorem pLt_iff {p q : P2} : pLt p q = true ↔ p.1.cps.toList < q.1.cps.toList ∨ p.1 = q.1 ∧ p.2 < q.2 := by
  unfold pLt
  by_cases h : p.1 = q.1
  · rw [if_pos h, h]
    simp [List.lt_irrefl]
  · rw [if_neg h]
    simp [h]
theorem le2_iff {p q : P2} : le2 p q ↔ ¬ (q.1.cps.toList < p.1.cps.toList) ∧ (p.1 = q.1 → p.2 ≤ q.2) := by
  unfold le2
  rw [← Bool.not_eq_true, pLt_iff, not_or]
  constructor
  · rintro ⟨h1, h2⟩
    exact ⟨h1, fun e => Int.not_lt.mp fun z => h2 ⟨e.symm, z⟩⟩
  · rintro ⟨h1, h2⟩
    exact ⟨h1, fun ⟨e, z⟩ => by have := h2 e.symm; omega⟩
theorem le2_trans {a b c : P2} (h1 : le2 a b) (h2 : le2 b c) : le2 a c := by
  rw [le2_iff] at h1 h2 ⊢
  have x1 := List.not_lt.mp h1.1
  have x2 := List.not_lt.mp h2.1
  refine ⟨List.not_lt.mpr (List.le_trans x1 x2), fun e => ?_⟩
  have e1 : a.1 = b.1 := cps_inj (List.le_antisymm x1 (by rw [e]; exact x2))
  have := h1.2 e1
  have := h2.2 (e1.symm.trans e)
  omega
theorem le2_of {a b : P2} (h : pLt a b = true) : le2 a b := by
  rw [le2_iff]
  rcases pLt_iff.mp h with h | ⟨h1, h2⟩
  · exact ⟨fun z => List.lt_irrefl _ (List.lt_trans h z), fun e => by rw [e] at h; exact absurd h (List.lt_irrefl _)⟩
  · exact ⟨by rw [h1]; exact List.lt_irrefl _, fun _ => by omega⟩
theorem le2_not {a b : P2} (h : ¬ pLt a b = true) : le2 b a := by unfold le2; simpa using h
theorem le2_refl (a : P2) : le2 a a := by
  rw [le2_iff]; exact ⟨List.lt_irrefl _, fun _ => Int.le_refl _⟩
theorem le2_anti {a b : P2} (h1 : le2 a b) (h2 : le2 b a) : a = b := by
  rw [le2_iff] at h1 h2
  have e : a.1 = b.1 := cps_inj (List.le_antisymm (List.not_lt.mp h1.1) (List.not_lt.mp h2.1))
  have := h1.2 e
  have := h2.2 e.symm
  exact Prod.ext e (by omega)
noncomputable def nth (xs : List P2) (j : Nat) : P2 := xs.getD j default
theorem nth_set (xs : List P2) (i j : Nat) (v : P2) (hi : i < xs.length) : nth (xs.set i v) j = if j = i then v else nth xs j := by
  unfold nth
  rw [List.getD_eq_getElem?_getD, List.getElem?_set, List.getD_eq_getElem?_getD]
  by_cases h : i = j
  · subst h; simp [hi]
  · rw [if_neg h, if_neg (Ne.symm h)]
theorem nth_at {xs : List P2} {j : Nat} (h : j < xs.length) : nth xs j = xs[j] := by
  unfold nth; rw [List.getD_eq_getElem?_getD, List.getElem?_eq_getElem h]; rfl
theorem swap_perm {xs : List P2} {i j : Nat} (hi : i < xs.length) (hj : j < xs.length) (hne : i ≠ j) (x : P2) : ((xs.set i (nth xs j)).set j x).Perm (xs.set i x) := by
  have h := List.set_set_perm (as := xs.set i x) (i := i) (j := j) (by rw [List.length_set]; exact hi) (by rw [List.length_set]; exact hj)
  rw [List.getElem_set_self, List.getElem_set_ne hne, List.set_set] at h
  rw [nth_at hj]
  exact h
noncomputable def Hp (s : Nat) (xs : List P2) : Prop := ∀ j, 0 < j → j < xs.length → s ≤ (j - 1) / 2 → le2 (nth xs ((j - 1) / 2)) (nth xs j)
inductive Sub (s : Nat) : Nat → Prop
  | refl : Sub s s
  | left {q : Nat} : Sub s q → Sub s (2 * q + 1)
  | right {q : Nat} : Sub s q → Sub s (2 * q + 2)
theorem Sub.le {s p : Nat} (h : Sub s p) : s ≤ p := by
  induction h with
  | refl => exact Nat.le_refl _
  | left _ ih => omega
  | right _ ih => omega
theorem Sub.up {s p : Nat} (h : Sub s p) (hne : p ≠ s) : Sub s ((p - 1) / 2) ∧ (p - 1) / 2 < p := by
  cases h with
  | refl => exact absurd rfl hne
  | left h => rename_i q; rw [show (2 * q + 1 - 1) / 2 = q by omega]; exact ⟨h, by omega⟩
  | right h => rename_i q; rw [show (2 * q + 2 - 1) / 2 = q by omega]; exact ⟨h, by omega⟩
/-- the heap with a hole at q -/
noncomputable def Hole (s q : Nat) (xs : List P2) : Prop := ∀ j, 0 < j → j < xs.length → s ≤ (j - 1) / 2 → j ≠ q → (j - 1) / 2 ≠ q → le2 (nth xs ((j - 1) / 2)) (nth xs j)
noncomputable def Gran (s q : Nat) (xs : List P2) : Prop := ∀ c, 0 < c → c < xs.length → (c - 1) / 2 = q → q ≠ s → le2 (nth xs ((q - 1) / 2)) (nth xs c)
theorem sd_ok (x : P2) (s : Nat) : ∀ pos (xs : List P2), Sub s pos → pos < xs.length → Hole s pos xs → (∀ c, 0 < c → c < xs.length → (c - 1) / 2 = pos → le2 x (nth xs c)) → Gran s pos xs →
    Hp s (sdLoop x s pos xs) ∧ (sdLoop x s pos xs).Perm (xs.set pos x) := by
  intro pos
  induction pos using Nat.strongRecOn with
  | ind pos ih =>
    intro xs hs hp hA hB hC
    have stop : (s < pos → le2 (nth xs ((pos - 1) / 2)) x) → Hp s (xs.set pos x) := fun hx j h0 hj hsj => by
      rw [List.length_set] at hj
      rw [nth_set _ _ _ _ hp, nth_set _ _ _ _ hp]
      by_cases e : j = pos
      · rw [if_neg (by omega), if_pos e, e]
        exact hx (by omega)
      · rw [if_neg e]
        by_cases e2 : (j - 1) / 2 = pos
        · rw [if_pos e2]; exact hB j h0 hj e2
        · rw [if_neg e2]; exact hA j h0 hj hsj e e2
    by_cases h : s < pos
    · obtain ⟨hs', hlt⟩ := hs.up (by omega)
      have hpp : (pos - 1) / 2 < xs.length := by omega
      have hy : xs.getD ((pos - 1) / 2) x = nth xs ((pos - 1) / 2) := by
        unfold nth; rw [List.getD_eq_getElem?_getD, List.getD_eq_getElem?_getD, List.getElem?_eq_getElem hpp]; rfl
      by_cases c : pLt x (nth xs ((pos - 1) / 2)) = true
      · rw [sd_step h hy c]
        have hxy := le2_of c
        obtain ⟨r1, r2⟩ := ih ((pos - 1) / 2) hlt (xs.set pos (nth xs ((pos - 1) / 2))) hs' (by rw [List.length_set]; exact hpp) (fun j h0 hj hsj e1 e2 => by
            rw [List.length_set] at hj
            rw [nth_set _ _ _ _ hp, nth_set _ _ _ _ hp]
            have e3 : j ≠ pos := fun z => e2 (by rw [z])
            rw [if_neg e3]
            by_cases e4 : (j - 1) / 2 = pos
            · rw [if_pos e4]; exact hC j h0 hj e4 (by omega)
            · rw [if_neg e4]; exact hA j h0 hj hsj e3 e4) (fun d h0 hd e1 => by
            rw [List.length_set] at hd
            rw [nth_set _ _ _ _ hp]
            by_cases e2 : d = pos
            · rw [if_pos e2]; exact hxy
            · rw [if_neg e2]
              exact le2_trans hxy (by rw [← e1]; exact hA d h0 hd (by rw [e1]; exact hs'.le) e2 (by omega))) (fun d h0 hd e1 hne => by
            rw [List.length_set] at hd
            obtain ⟨hs2, hlt2⟩ := hs'.up hne
            rw [nth_set _ _ _ _ hp, nth_set _ _ _ _ hp, if_neg (by omega)]
            have g := hA ((pos - 1) / 2) (by omega) hpp hs2.le (by omega) (by omega)
            by_cases e2 : d = pos
            · rw [if_pos e2]; exact g
            · rw [if_neg e2]
              exact le2_trans g (by have := hA d h0 hd (by rw [e1]; exact hs'.le) e2 (by omega); rw [e1] at this; exact this))
        exact ⟨r1, r2.trans (swap_perm hp hpp (by omega) x)⟩
      · rw [sd_stop h hy c]
        exact ⟨stop fun _ => le2_not c, .refl _⟩
    · rw [sd_end h]
      exact ⟨stop fun z => absurd z h, .refl _⟩
theorem su_ok (p N : Nat) : ∀ k q (xs : List P2), N - q = k → Sub p q → q < N → N = xs.length → Hole p q xs → Gran p q xs →
    Sub p (suLoop N q xs).1 ∧ (suLoop N q xs).1 < N ∧ N ≤ 2 * (suLoop N q xs).1 + 1 ∧ Hole p (suLoop N q xs).1 (suLoop N q xs).2 ∧ ∀ v, ((suLoop N q xs).2.set (suLoop N q xs).1 v).Perm (xs.set q v) := by
  intro k
  induction k using Nat.strongRecOn with
  | ind k ih =>
    intro q xs hk hs hq hN hA hC
    have go : ∀ c, c < N → q < c → (c - 1) / 2 = q → Sub p c → (∀ d, 0 < d → d < N → (d - 1) / 2 = q → le2 (nth xs c) (nth xs d)) → suLoop N q xs = suLoop N c (xs.set q (nth xs c)) →
        Sub p (suLoop N q xs).1 ∧ (suLoop N q xs).1 < N ∧ N ≤ 2 * (suLoop N q xs).1 + 1 ∧ Hole p (suLoop N q xs).1 (suLoop N q xs).2 ∧ ∀ v, ((suLoop N q xs).2.set (suLoop N q xs).1 v).Perm (xs.set q v) := by
      intro c hcN hqc hcq hsc hmin e
      have hql : q < xs.length := by omega
      have hcl : c < xs.length := by omega
      obtain ⟨r1, r2, r3, r4, r5⟩ := ih (N - c) (by omega) c (xs.set q (nth xs c)) rfl hsc hcN (by rw [List.length_set]; exact hN) (fun j h0 hj hsj e1 e2 => by
          rw [List.length_set] at hj
          rw [nth_set _ _ _ _ hql, nth_set _ _ _ _ hql]
          by_cases e3 : j = q
          · rw [if_neg (by omega), if_pos e3, e3]
            exact hC c (by omega) hcl hcq (by omega)
          · rw [if_neg e3]
            by_cases e4 : (j - 1) / 2 = q
            · rw [if_pos e4]; exact hmin j h0 (by omega) e4
            · rw [if_neg e4]; exact hA j h0 hj hsj e3 e4) (fun d h0 hd e1 hne => by
          rw [List.length_set] at hd
          rw [nth_set _ _ _ _ hql, nth_set _ _ _ _ hql, hcq, if_pos rfl, if_neg (by omega)]
          have := hA d h0 hd (by rw [e1]; exact hsc.le) (by omega) (by omega)
          rw [e1] at this; exact this)
      rw [e]
      exact ⟨r1, r2, r3, r4, fun v => (r5 v).trans (swap_perm hql hcl (by omega) v)⟩
    by_cases h1 : 2 * q + 1 < N
    · by_cases h2 : 2 * q + 2 < N ∧ ¬ pLt (nth xs (2 * q + 1)) (nth xs (2 * q + 2)) = true
      · refine go (2 * q + 2) h2.1 (by omega) (by omega) hs.right (fun d h0 hd e => ?_) (su_right h2.1 h2.2)
        have : d = 2 * q + 1 ∨ d = 2 * q + 2 := by omega
        rcases this with rfl | rfl
        · exact le2_not h2.2
        · exact le2_refl _
      · refine go (2 * q + 1) h1 (by omega) (by omega) hs.left (fun d h0 hd e => ?_) (su_left h1 h2)
        have : d = 2 * q + 1 ∨ d = 2 * q + 2 := by omega
        rcases this with rfl | rfl
        · exact le2_refl _
        · refine le2_of ?_
          by_cases z : pLt (nth xs (2 * q + 1)) (nth xs (2 * q + 2)) = true
          · exact z
          · exact absurd ⟨hd, z⟩ h2
    · rw [su_end h1]
      exact ⟨hs, hq, by dsimp only; omega, hA, fun v => .refl _⟩
theorem siftup_ok {p : Nat} {xs : List P2} (h : Hp (p + 1) xs) (hp : p < xs.length) : Hp p (siftup xs p) ∧ (siftup xs p).Perm xs := by
  obtain ⟨r1, r2, r3, r4, r5⟩ := su_ok p xs.length _ p xs rfl .refl hp rfl (fun j h0 hj hsj _ e2 => h j h0 hj (by omega)) (fun c _ _ _ hne => absurd rfl hne)
  have hl := suLoop_length xs.length p xs
  unfold siftup siftdown
  dsimp only
  generalize hr : suLoop xs.length p xs = r at *
  have hrl : r.1 < r.2.length := by rw [hl]; exact r2
  have hx : ((r.2.set r.1 (xs.getD p default)).getD r.1 default) = xs.getD p default := by
    have := nth_set r.2 r.1 r.1 (xs.getD p default) hrl
    rw [if_pos rfl] at this; exact this
  rw [hx]
  obtain ⟨s1, s2⟩ := sd_ok (xs.getD p default) p r.1 (r.2.set r.1 (xs.getD p default)) r1 (by rw [List.length_set]; exact hrl) (fun j h0 hj hsj e1 e2 => by
      rw [List.length_set] at hj
      rw [nth_set _ _ _ _ hrl, nth_set _ _ _ _ hrl, if_neg e1, if_neg e2]
      exact r4 j h0 hj hsj e1 e2) (fun c h0 hc e => by rw [List.length_set, hl] at hc; omega) (fun c h0 hc e _ => by rw [List.length_set, hl] at hc; omega)
  refine ⟨s1, s2.trans ?_⟩
  rw [List.set_set]
  refine (r5 _).trans ?_
  have e : xs.getD p default = xs[p] := nth_at hp
  rw [e, List.set_getElem_self]
theorem hpLoop_ok (xs : List P2) : ∀ k, k ≤ xs.length / 2 → Hp (xs.length / 2 - k) (hpLoop xs (xs.length / 2) k) ∧ (hpLoop xs (xs.length / 2) k).Perm xs := by
  intro k
  induction k with
  | zero => exact fun _ => ⟨fun j h0 hj hs => by have : j < xs.length := hj; omega, .refl _⟩
  | succ k ih =>
    intro hk
    obtain ⟨h1, h2⟩ := ih (by omega)
    obtain ⟨r1, r2⟩ := siftup_ok (p := xs.length / 2 - 1 - k) (xs := hpLoop xs (xs.length / 2) k) (by rw [show xs.length / 2 - 1 - k + 1 = xs.length / 2 - k by omega]; exact h1) (by rw [hpLoop_length]; omega)
    exact ⟨by rw [show xs.length / 2 - (k + 1) = xs.length / 2 - 1 - k by omega]; exact r1, r2.trans h2⟩
theorem heapify_ok (xs : List P2) : Hp 0 (heapifyP xs) ∧ (heapifyP xs).Perm xs := by
  have := hpLoop_ok xs (xs.length / 2) (Nat.le_refl _)
  rw [Nat.sub_self] at this
  exact this
theorem hp_set0 {xs : List P2} (h : Hp 0 xs) (x : P2) (hx : 0 < xs.length) : Hp 1 (xs.set 0 x) := fun j h0 hj hs => by
  rw [List.length_set] at hj
  rw [nth_set _ _ _ _ hx, nth_set _ _ _ _ hx, if_neg (by omega), if_neg (by omega)]
  exact h j h0 hj (by omega)
theorem replace_ok {x y : P2} {r : List P2} (h : Hp 0 (y :: r)) : Hp 0 (heapreplaceP (y :: r) x).2 ∧ (heapreplaceP (y :: r) x).2.Perm (x :: r) :=
  siftup_ok (hp_set0 h x (by simp)) (by simp)
theorem hp_init {xs : List P2} {z : P2} (h : Hp 0 (xs ++ [z])) : Hp 0 xs := fun j h0 hj hs => by
  have e : ∀ i, i < xs.length → nth (xs ++ [z]) i = nth xs i := fun i hi => by
    unfold nth; rw [List.getD_eq_getElem?_getD, List.getElem?_append_left hi, List.getD_eq_getElem?_getD]
  have := h j h0 (by simp; omega) hs
  rw [e _ (by omega), e _ hj] at this
  exact this
theorem pop_ok {xs : List P2} (h : Hp 0 xs) (hne : xs ≠ []) : Hp 0 (heappopP xs).2 ∧ (xs.headD default :: (heappopP xs).2).Perm xs := by
  have e : xs = xs.dropLast ++ [xs.getLast hne] := (List.dropLast_concat_getLast hne).symm
  have hl : xs.getLastD default = xs.getLast hne := by
    cases xs with
    | nil => exact absurd rfl hne
    | cons a l => simp [List.getLastD_eq_getLast?, List.getLast?_eq_some_getLast]
  unfold heappopP
  rw [hl]
  generalize xs.getLast hne = z at e
  generalize xs.dropLast = d at e
  subst e
  cases d with
  | nil => exact ⟨fun j h0 hj => by simp at hj, .refl _⟩
  | cons y r =>
    obtain ⟨r1, r2⟩ := siftup_ok (hp_set0 (hp_init h) z (by simp)) (p := 0) (by simp)
    refine ⟨r1, ?_⟩
    show (y :: siftup ((y :: r).set 0 z) 0).Perm (y :: r ++ [z])
    rw [List.cons_append]
    refine List.Perm.cons y (r2.trans ?_)
    show (z :: r).Perm (r ++ [z])
    exact (List.perm_append_comm (l₁ := r) (l₂ := [z])).symm
theorem root_le {xs : List P2} (h : Hp 0 xs) : ∀ j, j < xs.length → le2 (nth xs 0) (nth xs j) := by
  intro j
  induction j using Nat.strongRecOn with
  | ind j ih =>
    intro hj
    by_cases h0 : j = 0
    · rw [h0]; exact le2_refl _
    · exact le2_trans (ih ((j - 1) / 2) (by omega) (by omega)) (h j (by omega) hj (Nat.zero_le _))
end Mine
end
section
open PySem
namespace Mine
noncomputable def remF : Nat → List (List Str) → List P2
  | _, [] => []
  | k, W :: R => W.map (fun w => (w, (k : Int))) ++ remF (k + 1) R
theorem remF_set {wd : Str} {t : List Str} : ∀ (Ms : List (List Str)) (k p : Nat), Ms[p]? = some (wd :: t) → (remF k Ms).Perm ((wd, ((k + p : Nat) : Int)) :: remF k (Ms.set p t))
  | [], _, _, h => by simp at h
  | W :: R, k, 0, h => by simp at h; subst h; exact .refl _
  | W :: R, k, p + 1, h => by
    have ih := remF_set R (k + 1) p (by simpa using h)
    show (W.map _ ++ remF (k + 1) R).Perm (_ :: (W.map _ ++ remF (k + 1) (R.set p t)))
    rw [show k + (p + 1) = k + 1 + p by omega]
    exact (List.Perm.append_left _ ih).trans List.perm_middle
theorem remF_mem {x : P2} : ∀ (Ms : List (List Str)) (k : Nat), x ∈ remF k Ms ↔ ∃ p W, Ms[p]? = some W ∧ x.1 ∈ W ∧ x.2 = ((k + p : Nat) : Int)
  | [], _ => by simp [remF]
  | W :: R, k => by
    show x ∈ W.map _ ++ remF (k + 1) R ↔ _
    rw [List.mem_append, remF_mem R (k + 1), List.mem_map]
    constructor
    · rintro (⟨w, hw, rfl⟩ | ⟨p, V, h1, h2, h3⟩)
      · exact ⟨0, W, rfl, hw, rfl⟩
      · exact ⟨p + 1, V, by simpa using h1, h2, by rw [h3, show k + 1 + p = k + (p + 1) by omega]⟩
    · rintro ⟨p, V, h1, h2, h3⟩
      cases p with
      | zero => simp at h1; subst h1; exact .inl ⟨x.1, h2, Prod.ext rfl h3.symm⟩
      | succ p => exact .inr ⟨p, V, by simpa using h1, h2, by rw [h3, show k + 1 + p = k + (p + 1) by omega]⟩
theorem remF_len {W : List Str} : ∀ (Ms : List (List Str)) (k : Nat), W ∈ Ms → W.length ≤ (remF k Ms).length
  | [], _, h => nomatch h
  | V :: R, k, h => by
    show _ ≤ (V.map _ ++ remF (k + 1) R).length
    rw [List.length_append, List.length_map]
    rcases List.mem_cons.mp h with rfl | h
    · omega
    · have := remF_len R (k + 1) h; omega
noncomputable def headsF : Nat → List (List Str) → List P2
  | _, [] => []
  | k, W :: R => (W.headD default, (k : Int)) :: headsF (k + 1) R
theorem headsF_get : ∀ (Ls : List (List Str)) (k j : Nat), (headsF k Ls)[j]? = (Ls[j]?).map fun W => (W.headD default, ((k + j : Nat) : Int))
  | [], _, _ => by simp [headsF]
  | W :: R, k, 0 => by simp [headsF]
  | W :: R, k, j + 1 => by
    show (headsF (k + 1) R)[j]? = _
    rw [headsF_get R (k + 1) j, List.getElem?_cons_succ, show k + 1 + j = k + (j + 1) by omega]
theorem heads_eq (Ls : List (List Str)) : heads Ls Ls.length = headsF 0 Ls := by
  apply List.ext_getElem?
  intro j
  rw [headsF_get]
  unfold heads
  rw [List.getElem?_map]
  by_cases h : j < Ls.length
  · rw [List.getElem?_range h]
    simp [List.getD_eq_getElem?_getD, h]
  · rw [List.getElem?_eq_none (by simpa using h), List.getElem?_eq_none (by omega)]; rfl
theorem hI_get (Ls : List (List Str)) (k j : Nat) (hk : k ≤ Ls.length) : (hI Ls k)[j]? = if j < k then (Ls[j]?).map List.tail else Ls[j]? := by
  induction k with
  | zero => rw [if_neg (by omega)]; rfl
  | succ k ih =>
    have ih := ih (by omega)
    show ((hI Ls k).set k ((hI Ls k).getD k []).tail)[j]? = _
    rw [List.getElem?_set, hI_length]
    by_cases e : k = j
    · subst e
      rw [if_pos rfl, if_pos (by omega), if_pos (by omega), List.getD_eq_getElem?_getD, hI_ge Ls (Nat.le_refl _), List.getElem?_eq_getElem (by omega)]; rfl
    · rw [if_neg e, ih]
      by_cases h : j < k
      · rw [if_pos h, if_pos (by omega)]
      · rw [if_neg h, if_neg (by omega)]
theorem hI_eq (Ls : List (List Str)) : hI Ls Ls.length = Ls.map List.tail := by
  apply List.ext_getElem?
  intro j
  rw [hI_get _ _ _ (Nat.le_refl _), List.getElem?_map]
  split
  · rfl
  · rw [List.getElem?_eq_none (by omega)]; rfl
theorem rem_heads : ∀ (Ls : List (List Str)) (k : Nat), (∀ W ∈ Ls, W ≠ []) → (remF k Ls).Perm (headsF k Ls ++ remF k (Ls.map List.tail))
  | [], _, _ => .refl _
  | W :: R, k, h => by
    cases W with
    | nil => exact absurd rfl (h [] (.head _))
    | cons w t =>
      have ih := rem_heads R (k + 1) fun V hV => h V (.tail _ hV)
      show ((w, (k : Int)) :: (t.map _ ++ remF (k + 1) R)).Perm ((w, (k : Int)) :: (headsF (k + 1) R ++ (t.map _ ++ remF (k + 1) (R.map List.tail))))
      refine List.Perm.cons _ ?_
      exact (List.Perm.append_left _ ih).trans (List.perm_append_comm_assoc _ _ _)
noncomputable def Srt (W : List Str) : Prop := W.Pairwise fun x y => ¬ (y.cps.toList < x.cps.toList)
structure MInv (Ls : List (List Str)) (xs : List P2) (Ms : List (List Str)) (os : List P2) : Prop where
  hp : Hp 0 xs
  perm : (os ++ (xs ++ remF 0 Ms)).Perm (remF 0 Ls)
  len : Ms.length = Ls.length
  srt : ∀ W ∈ Ms, Srt W
  wit : ∀ (p : Nat) (W : List Str), Ms[p]? = some W → W ≠ [] → ∃ x, (x, (p : Int)) ∈ xs ∧ ∀ w ∈ W, ¬ (Str.cps w).toList < (Str.cps x).toList
  out : os.Pairwise le2
  below : ∀ o ∈ os, ∀ y ∈ xs ++ remF 0 Ms, le2 o y
theorem le2_line {x w : Str} {i : Int} (h : ¬ (w.cps.toList < x.cps.toList)) : le2 (x, i) (w, i) := le2_iff.mpr ⟨h, fun _ => Int.le_refl _⟩
theorem inv_zero {Ls : List (List Str)} (hne : ∀ W ∈ Ls, W ≠ []) (hs : ∀ W ∈ Ls, Srt W) : MInv Ls (mIter Ls 0).1 (mIter Ls 0).2.1 (mIter Ls 0).2.2 := by
  show MInv Ls (heapifyP (heads Ls Ls.length)) (hI Ls Ls.length) []
  obtain ⟨h1, h2⟩ := heapify_ok (heads Ls Ls.length)
  rw [hI_eq]
  refine ⟨h1, ?_, by rw [List.length_map], ?_, ?_, .nil, fun o ho => nomatch ho⟩
  · rw [List.nil_append]
    refine (List.Perm.append_right _ h2).trans ?_
    rw [heads_eq]
    exact (rem_heads Ls 0 hne).symm
  · intro W hW
    obtain ⟨V, hV, rfl⟩ := List.mem_map.mp hW
    cases V with
    | nil => exact .nil
    | cons a t => exact (List.pairwise_cons.mp (hs _ hV)).2
  · intro p W hp hW
    rw [List.getElem?_map] at hp
    cases hV : Ls[p]? with
    | none => rw [hV] at hp; cases hp
    | some V =>
      rw [hV] at hp
      cases hp
      have hm : V ∈ Ls := List.mem_of_getElem? hV
      cases V with
      | nil => exact absurd rfl hW
      | cons a t =>
        refine ⟨a, h2.mem_iff.mpr ?_, fun w hw => (List.pairwise_cons.mp (hs _ hm)).1 w hw⟩
        rw [heads_eq]
        have := headsF_get Ls 0 p
        rw [hV] at this
        exact List.mem_of_getElem? (by rw [this]; simp)
theorem root_min {Ls : List (List Str)} {xs : List P2} {Ms : List (List Str)} {os : List P2} (I : MInv Ls xs Ms os) (hne : xs ≠ []) : ∀ y ∈ xs ++ remF 0 Ms, le2 (xs.headD default) y := by
  have hh : nth xs 0 = xs.headD default := by cases xs with
    | nil => exact absurd rfl hne
    | cons a l => rfl
  have hx : ∀ y ∈ xs, le2 (xs.headD default) y := fun y hy => by
    obtain ⟨j, hj, e⟩ := List.getElem_of_mem hy
    have := root_le I.hp j hj
    rw [hh, nth_at hj, e] at this; exact this
  intro y hy
  rcases List.mem_append.mp hy with hy | hy
  · exact hx y hy
  · obtain ⟨p, W, h1, h2, h3⟩ := (remF_mem Ms 0).mp hy
    obtain ⟨x, m, k⟩ := I.wit p W h1 (fun e => by rw [e] at h2; cases h2)
    have e : y = (y.1, (p : Int)) := Prod.ext rfl (by rw [h3, Nat.zero_add])
    rw [e]
    exact le2_trans (hx _ m) (le2_line (k _ h2))
theorem inv_step {Ls : List (List Str)} {xs : List P2} {Ms : List (List Str)} {os : List P2} (I : MInv Ls xs Ms os) (hne : xs ≠ []) : MInv Ls (mStep xs Ms).1 (mStep xs Ms).2 (os ++ [xs.headD default]) := by
  have hmin := root_min I hne
  obtain ⟨y, r, rfl⟩ : ∃ y r, xs = y :: r := by cases xs with
    | nil => exact absurd rfl hne
    | cons y r => exact ⟨y, r, rfl⟩
  have hyAll : y ∈ remF 0 Ls := I.perm.mem_iff.mp (List.mem_append_right _ (List.mem_append_left _ (.head _)))
  obtain ⟨p, V, hV, _, hyp⟩ := (remF_mem Ls 0).mp hyAll
  rw [Nat.zero_add] at hyp
  have hpl : p < Ms.length := by rw [I.len]; exact (List.getElem?_eq_some_iff.mp hV).1
  have hnp : y.2.toNat = p := by rw [hyp]; rfl
  have hyw : ∀ a b : List P2, os ++ [y] ++ (a ++ b) = os ++ (y :: (a ++ b)) := fun a b => by simp
  have out' : (os ++ [y]).Pairwise le2 := List.pairwise_append.mpr ⟨I.out, List.pairwise_singleton _ _, fun a ha b hb => by
    rw [List.mem_singleton.mp hb]; exact I.below a ha y (List.mem_append_left _ (.head _))⟩
  show MInv Ls (mStep (y :: r) Ms).1 (mStep (y :: r) Ms).2 (os ++ [y])
  unfold mStep
  show MInv Ls (match Ms.getD y.2.toNat [] with | [] => ((heappopP (y :: r)).2, Ms) | wd :: t => ((heapreplaceP (y :: r) (wd, y.2)).2, Ms.set y.2.toNat t)).1 (match Ms.getD y.2.toNat [] with | [] => ((heappopP (y :: r)).2, Ms) | wd :: t => ((heapreplaceP (y :: r) (wd, y.2)).2, Ms.set y.2.toNat t)).2 (os ++ [y])
  rw [hnp]
  cases hW : Ms.getD p [] with
  | nil =>
    have hWp : Ms[p]? = some [] := by
      rw [List.getD_eq_getElem?_getD, List.getElem?_eq_getElem hpl] at hW
      rw [List.getElem?_eq_getElem hpl]; exact congrArg some hW
    obtain ⟨h1, h2⟩ := pop_ok I.hp (by simp)
    have h2 : (y :: (heappopP (y :: r)).2).Perm (y :: r) := h2
    have h3 : (heappopP (y :: r)).2.Perm r := h2.cons_inv
    refine ⟨h1, ?_, I.len, I.srt, fun q W hq hWq => ?_, out', fun o ho z hz => ?_⟩
    · rw [hyw]
      refine List.Perm.trans (List.Perm.append_left _ ?_) I.perm
      exact List.Perm.cons _ (List.Perm.append_right _ h3)
    · obtain ⟨x, m, k⟩ := I.wit q W hq hWq
      refine ⟨x, ?_, k⟩
      rcases List.mem_cons.mp m with e | m
      · have : (q : Int) = (p : Int) := by rw [← hyp, ← e]
        have : q = p := by omega
        subst this
        rw [hWp] at hq; cases hq; exact absurd rfl hWq
      · exact h3.mem_iff.mpr m
    · have hz' : z ∈ (y :: r) ++ remF 0 Ms := by
        rcases List.mem_append.mp hz with hz | hz
        · exact List.mem_append_left _ (.tail _ (h3.mem_iff.mp hz))
        · exact List.mem_append_right _ hz
      rcases List.mem_append.mp ho with ho | ho
      · exact I.below o ho z hz'
      · rw [List.mem_singleton.mp ho]; exact hmin z hz'
  | cons wd t =>
    have hWp : Ms[p]? = some (wd :: t) := by
      rw [List.getD_eq_getElem?_getD, List.getElem?_eq_getElem hpl] at hW
      rw [List.getElem?_eq_getElem hpl]; exact congrArg some hW
    obtain ⟨h1, h3⟩ := replace_ok (x := (wd, y.2)) I.hp
    have hrem := remF_set Ms 0 p hWp
    rw [Nat.zero_add, ← hyp] at hrem
    have hsr := I.srt _ (List.mem_of_getElem? hWp)
    have hz' : ∀ z, z ∈ (heapreplaceP (y :: r) (wd, y.2)).2 ++ remF 0 (Ms.set p t) → z ∈ (y :: r) ++ remF 0 Ms := fun z hz => by
      rcases List.mem_append.mp hz with hz | hz
      · rcases List.mem_cons.mp (h3.mem_iff.mp hz) with rfl | hz
        · exact List.mem_append_right _ (hrem.mem_iff.mpr (.head _))
        · exact List.mem_append_left _ (.tail _ hz)
      · exact List.mem_append_right _ (hrem.mem_iff.mpr (.tail _ hz))
    refine ⟨h1, ?_, by rw [List.length_set]; exact I.len, fun W hW' => ?_, fun q W hq hWq => ?_, out', fun o ho z hz => ?_⟩
    · rw [hyw]
      refine List.Perm.trans (List.Perm.append_left _ ?_) I.perm
      refine List.Perm.cons _ ?_
      refine (List.Perm.append_right _ h3).trans ?_
      refine List.Perm.trans ?_ (List.Perm.append_left r hrem.symm)
      exact (List.perm_middle (l₁ := r)).symm
    · rcases List.mem_or_eq_of_mem_set hW' with h | h
      · exact I.srt W h
      · rw [h]; exact (List.pairwise_cons.mp hsr).2
    · rw [List.getElem?_set] at hq
      by_cases e : p = q
      · subst e
        rw [if_pos rfl, if_pos hpl] at hq
        cases hq
        exact ⟨wd, h3.mem_iff.mpr (by rw [hyp]; exact .head _), (List.pairwise_cons.mp hsr).1⟩
      · rw [if_neg e] at hq
        obtain ⟨x, m, k⟩ := I.wit q W hq hWq
        refine ⟨x, ?_, k⟩
        rcases List.mem_cons.mp m with e' | m
        · have : (q : Int) = (p : Int) := by rw [← hyp, ← e']
          omega
        · exact h3.mem_iff.mpr (.tail _ m)
    · rcases List.mem_append.mp ho with ho | ho
      · exact I.below o ho z (hz' z hz)
      · rw [List.mem_singleton.mp ho]; exact hmin z (hz' z hz)
theorem inv_ne {Ls : List (List Str)} {xs : List P2} {Ms : List (List Str)} {os : List P2} (I : MInv Ls xs Ms os) (h : os.length < (remF 0 Ls).length) : xs ≠ [] := fun e => by
  subst e
  have hl := I.perm.length_eq
  rw [List.length_append, List.length_append] at hl
  have : remF 0 Ms ≠ [] := fun z => by rw [z] at hl; simp at hl; omega
  obtain ⟨x, hx⟩ := List.exists_mem_of_ne_nil _ this
  obtain ⟨p, W, h1, h2, _⟩ := (remF_mem Ms 0).mp hx
  obtain ⟨_, m, _⟩ := I.wit p W h1 (fun e => by rw [e] at h2; cases h2)
  cases m
theorem inv_all {Ls : List (List Str)} (hne : ∀ W ∈ Ls, W ≠ []) (hs : ∀ W ∈ Ls, Srt W) : ∀ i, i ≤ (remF 0 Ls).length → MInv Ls (mIter Ls i).1 (mIter Ls i).2.1 (mIter Ls i).2.2
  | 0, _ => inv_zero hne hs
  | i + 1, h => by
    have I := inv_all hne hs i (by omega)
    exact inv_step I (inv_ne I (by rw [(mIter_length Ls i).2.2]; omega))
theorem inv_end {Ls : List (List Str)} {xs : List P2} {Ms : List (List Str)} {os : List P2} (I : MInv Ls xs Ms os) (h : os.length = (remF 0 Ls).length) : xs = [] ∧ os.Perm (remF 0 Ls) ∧ Ms = List.replicate Ls.length [] := by
  have hl := I.perm.length_eq
  rw [List.length_append, List.length_append] at hl
  have e1 : xs = [] := List.eq_nil_of_length_eq_zero (by omega)
  have e2 : remF 0 Ms = [] := List.eq_nil_of_length_eq_zero (by omega)
  refine ⟨e1, by have := I.perm; rw [e1, e2, List.nil_append, List.append_nil] at this; exact this, ?_⟩
  rw [List.eq_replicate_iff]
  refine ⟨I.len, fun W hW => ?_⟩
  have := remF_len Ms 0 hW
  rw [e2] at this
  exact List.eq_nil_of_length_eq_zero (by simpa using this)
end Mine
end
section
open PySem PyProof.Rows
namespace Mine
theorem and1 (n k : Nat) : n &&& 2 ^ k = (n / 2 ^ k % 2) * 2 ^ k := by
  apply Nat.eq_of_testBit_eq
  intro i
  rw [Nat.testBit_and, Nat.testBit_two_pow]
  rcases Nat.mod_two_eq_zero_or_one (n / 2 ^ k) with h | h <;> rw [h]
  · rw [Nat.zero_mul, Nat.zero_testBit]
    by_cases e : k = i
    · subst e; rw [Nat.testBit_eq_decide_div_mod_eq, h]; simp
    · simp [e]
  · rw [Nat.one_mul, Nat.testBit_two_pow]
    by_cases e : k = i
    · subst e; rw [Nat.testBit_eq_decide_div_mod_eq, h]; simp
    · simp [e]
theorem bitN (n b : Nat) : Builtin.bitAnd (n : Int) (b : Int) = ((n &&& b : Nat) : Int) := by
  rw [bitAnd_pp (by omega) (by omega)]; simp
theorem hitN {i : Nat} (hi : i ≠ 0) (n b : Nat) : hits (n : Int) i (b : Int) = ((n &&& b) == b) := by
  unfold hits
  rw [if_neg hi, bitN]
  by_cases h : n &&& b = b
  · rw [h]; simp
  · have : ¬ ((n &&& b : Nat) : Int) = (b : Int) := by omega
    rw [beq_eq_false_iff_ne.mpr h, beq_eq_false_iff_ne.mpr this]
theorem pick_one {i b : Nat} {s : Str} (hi : i ≠ 0) (ht : rowTab i = [(((b : Nat) : Int), s)]) (n : Nat) : pickC n i = if ((n &&& b) == b) = true then s else Str.ofString "-" := by
  unfold pickC
  rw [ht]
  simp only [List.find?_cons, hitN hi, List.find?_nil]
  by_cases h : ((n &&& b) == b) = true
  · rw [h]; rfl
  · rw [Bool.not_eq_true] at h; rw [h, if_neg hi]; rfl
theorem pick_three {i A B C : Nat} {s1 s2 s3 : Str} (hi : i ≠ 0) (ht : rowTab i = [(((A : Nat) : Int), s1), (((B : Nat) : Int), s2), (((C : Nat) : Int), s3)]) (n : Nat) :
    pickC n i = if ((n &&& A) == A) = true then s1 else if ((n &&& B) == B) = true then s2 else if ((n &&& C) == C) = true then s3 else Str.ofString "-" := by
  unfold pickC
  rw [ht]
  simp only [List.find?_cons, hitN hi, List.find?_nil]
  cases (n &&& A) == A <;> cases (n &&& B) == B <;> cases (n &&& C) == C <;> simp [hi]
theorem or2 {a b x y : Nat} (n : Nat) (hx : x = 2 ^ a) (hy : y = 2 ^ b) : n &&& (x ||| y) = (n / x % 2) * x ||| (n / y % 2) * y := by
  subst hx hy; rw [Nat.and_or_distrib_left, and1, and1]
theorem one1 {a x : Nat} (n : Nat) (hx : x = 2 ^ a) : n &&& x = (n / x % 2) * x := by subst hx; exact and1 n a
theorem r_is (n x : Nat) {a : Nat} (hx : x = 2 ^ a) : ((n &&& x) == x) = decide (n / x % 2 = 1) := by
  rw [one1 n hx]
  have hp : 0 < x := by subst hx; exact Nat.two_pow_pos a
  rcases Nat.mod_two_eq_zero_or_one (n / x) with h | h <;> rw [h]
  · rw [Nat.zero_mul]; simp; omega
  · rw [Nat.one_mul]; simp
theorem dig_n (n c : Nat) (w : Nat) (hw : pw c = (w : Int)) : dig (n : Int) c = ((n / w % 8 : Nat) : Int) := by
  unfold dig
  rw [hw, Int.fdiv_eq_ediv_of_nonneg _ (by omega), Int.fmod_eq_emod_of_nonneg _ (by decide)]
  omega
theorem above_n (n c : Nat) (w : Nat) (hw : hiB c = (w : Int)) : (((n : Int)).fdiv (hiB c)).fmod 2 = ((n / w % 2 : Nat) : Int) := by
  rw [hw, Int.fdiv_eq_ediv_of_nonneg _ (by omega), Int.fmod_eq_emod_of_nonneg _ (by decide)]
  omega
/-- a group's three characters, by its digit and the bit above -/
noncomputable def grp (T : Str) (d h : Nat) : Str := ((if 3 < d then Str.ofString "r" else Str.ofString "-") ++ (if d / 2 % 2 = 1 then Str.ofString "w" else Str.ofString "-")) ++ Txt.item T ((d % 2 + 2 * h : Nat) : Int)
theorem rowUp_grp (n c w v : Nat) (hw : pw c = (w : Int)) (hv : hiB c = (v : Int)) : rowUp (n : Int) (c + 1) = ((rowUp (n : Int) c ++ (if 3 < n / w % 8 then Str.ofString "r" else Str.ofString "-")) ++ (if n / w % 8 / 2 % 2 = 1 then Str.ofString "w" else Str.ofString "-")) ++ Txt.item (tabX c) ((n / w % 8 % 2 + 2 * (n / v % 2) : Nat) : Int) := by
  show ((rowUp (n : Int) c ++ (if decide (3 < dig (n : Int) c) = true then _ else _)) ++ (if ((dig (n : Int) c).fdiv 2).fmod 2 == 1 then _ else _)) ++ Txt.item (tabX c) (lst (n : Int) c) = _
  unfold lst
  rw [above_n n c v hv, dig_n n c w hw]
  generalize n / w % 8 = d
  generalize n / v % 2 = h
  have e1 : (((d : Nat) : Int).fdiv 2).fmod 2 = ((d / 2 % 2 : Nat) : Int) := by
    rw [Int.fdiv_eq_ediv_of_nonneg _ (by omega), Int.fmod_eq_emod_of_nonneg _ (by decide)]; omega
  have e2 : ((d : Nat) : Int).fmod 2 + 2 * ((h : Nat) : Int) = ((d % 2 + 2 * h : Nat) : Int) := by
    rw [Int.fmod_eq_emod_of_nonneg _ (by decide)]; omega
  rw [e1, e2]
  congr 1
  congr 1
  · congr 1
    by_cases q : 3 < d
    · rw [if_pos q, if_pos (by simp; omega)]
    · rw [if_neg q, if_neg (by simp; omega)]
  · by_cases q : d / 2 % 2 = 1
    · rw [if_pos q, q]; rfl
    · rw [if_neg q, if_neg (by simp; omega)]
end Mine
end
section
open PySem PyProof.Rows
set_option maxRecDepth 100000
namespace Mine
theorem last_pick (n : Nat) {i a b x y : Nat} {T s1 s2 s3 : Str} (hi : i ≠ 0) (ht : rowTab i = [(((x ||| y : Nat) : Int), s1), (((x : Nat) : Int), s2), (((y : Nat) : Int), s3)]) (hx : x = 2 ^ a) (hy : y = 2 ^ b)
    (f1 : (x ||| y) ≠ 0) (f2 : x ≠ (x ||| y)) (f3 : y ≠ (x ||| y)) (f4 : x ≠ 0) (f5 : y ≠ 0) (h0 : Txt.item T 0 = Str.ofString "-") (h1 : Txt.item T 1 = s3) (h2 : Txt.item T 2 = s2) (h3 : Txt.item T 3 = s1) :
    pickC n i = Txt.item T ((n / y % 2 + 2 * (n / x % 2) : Nat) : Int) := by
  rw [pick_three hi ht, or2 n hx hy, one1 n hx, one1 n hy]
  rcases Nat.mod_two_eq_zero_or_one (n / x) with h | h <;> rcases Nat.mod_two_eq_zero_or_one (n / y) with g | g <;> rw [h, g]
  · simp [f1.symm, f4.symm, f5.symm, h0]
  · simp [f3, f4.symm]
    exact h1.symm
  · simp [f2]
    exact h2.symm
  · simp
    exact h3.symm
theorem rw_pick (n : Nat) {i a b w : Nat} {s : Str} (hi : i ≠ 0) (ht : rowTab i = [(((b : Nat) : Int), s)]) (hb : b = 2 ^ a) {p : Prop} [Decidable p] (hp : p ↔ n / b % 2 = 1) : pickC n i = if p then s else Str.ofString "-" := by
  rw [pick_one hi ht, r_is n b hb]
  by_cases q : n / b % 2 = 1
  · rw [if_pos (hp.mpr q), if_pos (by simpa using q)]
  · rw [if_neg (fun z => q (hp.mp z)), if_neg (by simpa using q)]
noncomputable def b3 (w n : Nat) : Nat := n / w % 8
theorem row1 (n : Nat) : rowUp (n : Int) 1 = ((rowUp (n : Int) 0 ++ pickC n 1) ++ pickC n 2) ++ pickC n 3 := by
  rw [rowUp_grp n 0 64 2048 rfl rfl, rw_pick n (i := 1) (a := 8) (b := 256) (w := 0) (by decide) rfl rfl (p := 3 < n / 64 % 8) (by omega), rw_pick n (i := 2) (a := 7) (b := 128) (w := 0) (by decide) rfl rfl (p := n / 64 % 8 / 2 % 2 = 1) (by omega),
    last_pick n (i := 3) (a := 11) (b := 6) (x := 2048) (y := 64) (T := tabX 0) (by decide) rfl rfl rfl (by decide) (by decide) (by decide) (by decide) (by decide) (by decide +kernel) (by decide +kernel) (by decide +kernel) (by decide +kernel), show n / 64 % 8 % 2 = n / 64 % 2 by omega]
theorem row2 (n : Nat) : rowUp (n : Int) 2 = ((rowUp (n : Int) 1 ++ pickC n 4) ++ pickC n 5) ++ pickC n 6 := by
  rw [rowUp_grp n 1 8 1024 rfl rfl, rw_pick n (i := 4) (a := 5) (b := 32) (w := 0) (by decide) rfl rfl (p := 3 < n / 8 % 8) (by omega), rw_pick n (i := 5) (a := 4) (b := 16) (w := 0) (by decide) rfl rfl (p := n / 8 % 8 / 2 % 2 = 1) (by omega),
    last_pick n (i := 6) (a := 10) (b := 3) (x := 1024) (y := 8) (T := tabX 1) (by decide) rfl rfl rfl (by decide) (by decide) (by decide) (by decide) (by decide) (by decide +kernel) (by decide +kernel) (by decide +kernel) (by decide +kernel), show n / 8 % 8 % 2 = n / 8 % 2 by omega]
theorem row3 (n : Nat) : rowUp (n : Int) 3 = ((rowUp (n : Int) 2 ++ pickC n 7) ++ pickC n 8) ++ pickC n 9 := by
  rw [rowUp_grp n 2 1 512 rfl rfl, rw_pick n (i := 7) (a := 2) (b := 4) (w := 0) (by decide) rfl rfl (p := 3 < n / 1 % 8) (by omega), rw_pick n (i := 8) (a := 1) (b := 2) (w := 0) (by decide) rfl rfl (p := n / 1 % 8 / 2 % 2 = 1) (by omega),
    last_pick n (i := 9) (a := 9) (b := 0) (x := 512) (y := 1) (T := tabX 2) (by decide) rfl rfl rfl (by decide) (by decide) (by decide) (by decide) (by decide) (by decide +kernel) (by decide +kernel) (by decide +kernel) (by decide +kernel), show n / 1 % 8 % 2 = n / 1 % 2 by omega]
theorem kind_or : ∀ q, q < 16 → ((q / 8 % 2) * 32768 ||| ((q / 4 % 2) * 16384 ||| ((q / 2 % 2) * 8192 ||| (q % 2) * 4096))) = 4096 * q := by decide +kernel
theorem kind_and (n : Nat) (h : n < 65536) : n &&& 61440 = 4096 * (n / 4096) := by
  rw [show 61440 = 2 ^ 15 ||| (2 ^ 14 ||| (2 ^ 13 ||| 2 ^ 12)) by decide, Nat.and_or_distrib_left, Nat.and_or_distrib_left, Nat.and_or_distrib_left, and1, and1, and1, and1, ← kind_or (n / 4096) (by omega)]
  rw [show n / 2 ^ 15 % 2 = n / 4096 / 8 % 2 by omega, show n / 2 ^ 14 % 2 = n / 4096 / 4 % 2 by omega, show n / 2 ^ 13 % 2 = n / 4096 / 2 % 2 by omega]
theorem kind_tab : ∀ q, q < 16 → (match (rowTab 0).find? (fun p => (((4096 * q : Nat) : Int) == p.1)) with | some p => p.2 | none => Str.ofString "?") = Txt.item (Str.ofString "?pc?d?b?-?l?s???") ((q : Nat) : Int) := by decide +kernel
theorem pick0 (n : Nat) (h : n < 65536) : pickC n 0 = rowUp (n : Int) 0 := by
  have e : ∀ b, hits (n : Int) 0 b = (((4096 * (n / 4096) : Nat) : Int) == b) := fun b => by
    unfold hits
    rw [if_pos rfl, show (61440 : Int) = ((61440 : Nat) : Int) from rfl, bitN, kind_and n h]
  show _ = kindS (n : Int)
  unfold kindS
  rw [Int.fdiv_eq_ediv_of_nonneg _ (by decide), show (n : Int) / 4096 = ((n / 4096 : Nat) : Int) by omega, ← kind_tab (n / 4096) (by omega)]
  unfold pickC
  simp only [e, if_true]
  first | done | (generalize List.find? (fun p : Int × Str => (((4096 * (n / 4096) : Nat) : Int) == p.1)) (rowTab 0) = o; cases o <;> rfl)
theorem file_row {m : Int} (h0 : 0 ≤ m) (h1 : m < 65536) : fileOf m = rowOf m := by
  obtain ⟨n, rfl⟩ : ∃ n : Nat, m = (n : Int) := ⟨m.toNat, by omega⟩
  apply cps_inj
  unfold fileOf rowOf
  rw [joinE_cps, row3, row2, row1, ← pick0 n (by omega)]
  simp only [Str.cps_append, Array.toList_append]
  show (([pickC n 0, pickC n 1, pickC n 2, pickC n 3, pickC n 4, pickC n 5, pickC n 6, pickC n 7, pickC n 8, pickC n 9] : List Str).map _).flatten = _
  simp
end Mine
end
section
open PySem PyProof.Rows
set_option maxRecDepth 100000
namespace Mine
theorem blk : ∀ (x x' y y' : List Nat), x.length = x'.length → (x ++ y < x' ++ y' ↔ x < x' ∨ x = x' ∧ y < y')
  | [], [], y, y', _ => by simp
  | [], _ :: _, _, _, h => by simp at h
  | _ :: _, [], _, _, h => by simp at h
  | a :: x, a' :: x', y, y', h => by
    have ih := blk x x' y y' (by simpa using h)
    rw [List.cons_append, List.cons_append, List.cons_lt_cons_iff, List.cons_lt_cons_iff, ih, List.cons.injEq]
    constructor
    · rintro (h | ⟨h, h' | ⟨h1, h2⟩⟩)
      · exact .inl (.inl h)
      · exact .inl (.inr ⟨h, h'⟩)
      · exact .inr ⟨⟨h, h1⟩, h2⟩
    · rintro ((h | ⟨h, h'⟩) | ⟨⟨h, h1⟩, h2⟩)
      · exact .inl h
      · exact .inr ⟨h, .inl h'⟩
      · exact .inr ⟨h, .inr ⟨h1, h2⟩⟩
theorem blk_eq (x x' y y' : List Nat) (h : x.length = x'.length) : x ++ y = x' ++ y' ↔ x = x' ∧ y = y' := by
  constructor
  · intro e; exact List.append_inj e h
  · rintro ⟨rfl, rfl⟩; rfl
noncomputable def grpL (T : Str) (d h : Nat) : List Nat := (if 3 < d then Str.ofString "r" else Str.ofString "-").cps.toList ++ ((if d / 2 % 2 = 1 then Str.ofString "w" else Str.ofString "-").cps.toList ++ (Txt.item T ((d % 2 + 2 * h : Nat) : Int)).cps.toList)
noncomputable def grpN (d h : Nat) : Nat := d / 2 * 4 + (if d % 2 = 1 then 3 - h else h)
theorem grp_ordk1 : ∀ k, k < 16 → ∀ l, l < 16 → (grpL (tabX 0) (k / 2) (k % 2) < grpL (tabX 0) (l / 2) (l % 2) ↔ grpN (k / 2) (k % 2) < grpN (l / 2) (l % 2)) ∧ (grpL (tabX 0) (k / 2) (k % 2) = grpL (tabX 0) (l / 2) (l % 2) ↔ grpN (k / 2) (k % 2) = grpN (l / 2) (l % 2)) := by decide +kernel
theorem grp_ord1 : ∀ d, d < 8 → ∀ h, h < 2 → ∀ d', d' < 8 → ∀ h', h' < 2 → (grpL (tabX 0) d h < grpL (tabX 0) d' h' ↔ grpN d h < grpN d' h') ∧ (grpL (tabX 0) d h = grpL (tabX 0) d' h' ↔ grpN d h = grpN d' h') := fun d hd h hh d' hd' h' hh' => by
  have := grp_ordk1 (2 * d + h) (by omega) (2 * d' + h') (by omega)
  rw [show (2 * d + h) / 2 = d by omega, show (2 * d + h) % 2 = h by omega, show (2 * d' + h') / 2 = d' by omega, show (2 * d' + h') % 2 = h' by omega] at this
  exact this
theorem grp_ordk3 : ∀ k, k < 16 → ∀ l, l < 16 → (grpL (tabX 2) (k / 2) (k % 2) < grpL (tabX 2) (l / 2) (l % 2) ↔ grpN (k / 2) (k % 2) < grpN (l / 2) (l % 2)) ∧ (grpL (tabX 2) (k / 2) (k % 2) = grpL (tabX 2) (l / 2) (l % 2) ↔ grpN (k / 2) (k % 2) = grpN (l / 2) (l % 2)) := by decide +kernel
theorem grp_ord3 : ∀ d, d < 8 → ∀ h, h < 2 → ∀ d', d' < 8 → ∀ h', h' < 2 → (grpL (tabX 2) d h < grpL (tabX 2) d' h' ↔ grpN d h < grpN d' h') ∧ (grpL (tabX 2) d h = grpL (tabX 2) d' h' ↔ grpN d h = grpN d' h') := fun d hd h hh d' hd' h' hh' => by
  have := grp_ordk3 (2 * d + h) (by omega) (2 * d' + h') (by omega)
  rw [show (2 * d + h) / 2 = d by omega, show (2 * d + h) % 2 = h by omega, show (2 * d' + h') / 2 = d' by omega, show (2 * d' + h') % 2 = h' by omega] at this
  exact this
noncomputable def kindQ (q : Nat) : Nat := [1, 6, 3, 1, 4, 1, 2, 1, 0, 1, 5, 1, 7, 1, 1, 1].getD q 0
theorem kind_ord : ∀ q, q < 16 → ∀ q', q' < 16 → ((Txt.item (Str.ofString "?pc?d?b?-?l?s???") ((q : Nat) : Int)).cps.toList < (Txt.item (Str.ofString "?pc?d?b?-?l?s???") ((q' : Nat) : Int)).cps.toList ↔ kindQ q < kindQ q') ∧
    ((Txt.item (Str.ofString "?pc?d?b?-?l?s???") ((q : Nat) : Int)).cps.toList = (Txt.item (Str.ofString "?pc?d?b?-?l?s???") ((q' : Nat) : Int)).cps.toList ↔ kindQ q = kindQ q') := by decide +kernel
theorem kindQ_is : ∀ q, q < 16 → [1, 6, 3, 1, 4, 1, 2, 1, 0, 1, 5, 1, 7, 1, 1, 1].getD q (0 : Int) = ((kindQ q : Nat) : Int) := by decide +kernel
theorem grpN_lt : ∀ d, d < 8 → ∀ h, h < 2 → grpN d h < 16 := by decide +kernel
/-- rows and numbers are ordered alike -/
noncomputable def Alike (a b c : Nat) : Prop := ((rowUp (a : Int) c).cps.toList < (rowUp (b : Int) c).cps.toList ↔ numUp (a : Int) c < numUp (b : Int) c) ∧ ((rowUp (a : Int) c).cps.toList = (rowUp (b : Int) c).cps.toList ↔ numUp (a : Int) c = numUp (b : Int) c)
theorem num_step (n c w v : Nat) (hw : pw c = (w : Int)) (hv : hiB c = (v : Int)) : numUp (n : Int) (c + 1) = numUp (n : Int) c * 16 + ((grpN (n / w % 8) (n / v % 2) : Nat) : Int) := by
  show numUp (n : Int) c * 16 + (dig (n : Int) c).fdiv 2 * 4 + lastN (n : Int) c = _
  unfold lastN above grpN
  rw [above_n n c v hv, dig_n n c w hw, Int.fdiv_eq_ediv_of_nonneg _ (by decide), Int.fmod_eq_emod_of_nonneg _ (by decide)]
  have hh : n / v % 2 < 2 := Nat.mod_lt _ (by decide)
  generalize n / w % 8 = d
  generalize n / v % 2 = h at *
  by_cases q : d % 2 = 1
  · rw [if_pos q, if_pos (by have : ((d : Nat) : Int) % 2 = 1 := by omega
                             rw [this]; rfl)]
    omega
  · rw [if_neg q, if_neg (by have : ((d : Nat) : Int) % 2 = 0 := by omega
                             rw [this]; decide)]
    omega
theorem row_step (n c w v : Nat) (hw : pw c = (w : Int)) (hv : hiB c = (v : Int)) : (rowUp (n : Int) (c + 1)).cps.toList = (rowUp (n : Int) c).cps.toList ++ grpL (tabX c) (n / w % 8) (n / v % 2) := by
  rw [rowUp_grp n c w v hw hv]
  simp only [Str.cps_append, Array.toList_append, grpL, List.append_assoc]
theorem alike_step {a b c w v : Nat} (hw : pw c = (w : Int)) (hv : hiB c = (v : Int)) (A : Alike a b c) (hg : ∀ d, d < 8 → ∀ h, h < 2 → ∀ d', d' < 8 → ∀ h', h' < 2 → (grpL (tabX c) d h < grpL (tabX c) d' h' ↔ grpN d h < grpN d' h') ∧ (grpL (tabX c) d h = grpL (tabX c) d' h' ↔ grpN d h = grpN d' h')) : Alike a b (c + 1) := by
  have hl : (rowUp (a : Int) c).cps.toList.length = (rowUp (b : Int) c).cps.toList.length := by rw [sl, sl, rowUp_len, rowUp_len]
  have d1 : a / w % 8 < 8 := Nat.mod_lt _ (by decide)
  have d2 : b / w % 8 < 8 := Nat.mod_lt _ (by decide)
  have e1 : a / v % 2 < 2 := Nat.mod_lt _ (by decide)
  have e2 : b / v % 2 < 2 := Nat.mod_lt _ (by decide)
  obtain ⟨g1, g2⟩ := hg _ d1 _ e1 _ d2 _ e2
  have n1 := grpN_lt _ d1 _ e1
  have n2 := grpN_lt _ d2 _ e2
  unfold Alike
  rw [row_step a c w v hw hv, row_step b c w v hw hv, num_step a c w v hw hv, num_step b c w v hw hv, blk _ _ _ _ hl, blk_eq _ _ _ _ hl, A.1, A.2, g1, g2]
  constructor <;> omega
theorem alike {a b : Nat} (ha : a < 65536) (hb : b < 65536) : Alike a b 3 := by
  refine alike_step (w := 1) (v := 512) rfl rfl (alike_step (w := 8) (v := 1024) rfl rfl (alike_step (w := 64) (v := 2048) rfl rfl ?_ grp_ord1) grp_ord1) grp_ord3
  obtain ⟨k1, k2⟩ := kind_ord (a / 4096) (by omega) (b / 4096) (by omega)
  have hk : ∀ n : Nat, n < 65536 → kindN (n : Int) = ((kindQ (n / 4096) : Nat) : Int) := fun n hn => by
    unfold kindN
    rw [Int.fdiv_eq_ediv_of_nonneg _ (by decide), show ((n : Int) / 4096).toNat = n / 4096 by omega]
    exact kindQ_is _ (by omega)
  unfold Alike
  show ((kindS (a : Int)).cps.toList < (kindS (b : Int)).cps.toList ↔ kindN (a : Int) < kindN (b : Int)) ∧ ((kindS (a : Int)).cps.toList = (kindS (b : Int)).cps.toList ↔ kindN (a : Int) = kindN (b : Int))
  unfold kindS
  rw [hk a ha, hk b hb, Int.fdiv_eq_ediv_of_nonneg _ (by decide), Int.fdiv_eq_ediv_of_nonneg _ (by decide), show (a : Int) / 4096 = ((a / 4096 : Nat) : Int) by omega, show (b : Int) / 4096 = ((b / 4096 : Nat) : Int) by omega, k1, k2]
  constructor <;> omega
theorem row_lt {a b : Int} (a0 : 0 ≤ a) (a1 : a < 65536) (b0 : 0 ≤ b) (b1 : b < 65536) : ((rowOf a).cps.toList < (rowOf b).cps.toList ↔ numOf a < numOf b) ∧ (rowOf a = rowOf b ↔ numOf a = numOf b) := by
  obtain ⟨n, rfl⟩ : ∃ n : Nat, a = (n : Int) := ⟨a.toNat, by omega⟩
  obtain ⟨k, rfl⟩ : ∃ k : Nat, b = (k : Int) := ⟨b.toNat, by omega⟩
  obtain ⟨h1, h2⟩ := alike (a := n) (b := k) (by omega) (by omega)
  exact ⟨h1, ⟨fun e => h2.mp (by unfold rowOf at e; rw [e]), fun e => cps_inj (h2.mpr e)⟩⟩
/-- the rows' characters -/
theorem kind_plain : ∀ q, q < 16 → ∀ c ∈ (Txt.item (Str.ofString "?pc?d?b?-?l?s???") ((q : Nat) : Int)).cps.toList, c < 128 ∧ c ≠ 9 ∧ c ≠ 10 ∧ c ≠ 13 ∧ c ≠ 32 ∧ c ≠ 34 ∧ c ≠ 92 := by decide +kernel
theorem grp_plaink1 : ∀ k, k < 16 → ∀ c ∈ grpL (tabX 0) (k / 2) (k % 2), c < 128 ∧ c ≠ 9 ∧ c ≠ 10 ∧ c ≠ 13 ∧ c ≠ 32 ∧ c ≠ 34 ∧ c ≠ 92 := by decide +kernel
theorem grp_plain1 : ∀ d, d < 8 → ∀ h, h < 2 → ∀ c ∈ grpL (tabX 0) d h, c < 128 ∧ c ≠ 9 ∧ c ≠ 10 ∧ c ≠ 13 ∧ c ≠ 32 ∧ c ≠ 34 ∧ c ≠ 92 := fun d hd h hh => by
  have := grp_plaink1 (2 * d + h) (by omega)
  rw [show (2 * d + h) / 2 = d by omega, show (2 * d + h) % 2 = h by omega] at this
  exact this
theorem grp_plaink3 : ∀ k, k < 16 → ∀ c ∈ grpL (tabX 2) (k / 2) (k % 2), c < 128 ∧ c ≠ 9 ∧ c ≠ 10 ∧ c ≠ 13 ∧ c ≠ 32 ∧ c ≠ 34 ∧ c ≠ 92 := by decide +kernel
theorem grp_plain3 : ∀ d, d < 8 → ∀ h, h < 2 → ∀ c ∈ grpL (tabX 2) d h, c < 128 ∧ c ≠ 9 ∧ c ≠ 10 ∧ c ≠ 13 ∧ c ≠ 32 ∧ c ≠ 34 ∧ c ≠ 92 := fun d hd h hh => by
  have := grp_plaink3 (2 * d + h) (by omega)
  rw [show (2 * d + h) / 2 = d by omega, show (2 * d + h) % 2 = h by omega] at this
  exact this
theorem row_plain {m : Int} (h0 : 0 ≤ m) (h1 : m < 65536) : ∀ c ∈ (rowOf m).cps.toList, plainC c := by
  obtain ⟨n, rfl⟩ : ∃ n : Nat, m = (n : Int) := ⟨m.toNat, by omega⟩
  unfold rowOf
  rw [row_step n 2 1 512 rfl rfl, row_step n 1 8 1024 rfl rfl, row_step n 0 64 2048 rfl rfl]
  intro c hc
  rcases List.mem_append.mp hc with hc | hc
  · rcases List.mem_append.mp hc with hc | hc
    · rcases List.mem_append.mp hc with hc | hc
      · have hc' : c ∈ (kindS (n : Int)).cps.toList := hc
        unfold kindS at hc'
        rw [Int.fdiv_eq_ediv_of_nonneg _ (by decide), show (n : Int) / 4096 = ((n / 4096 : Nat) : Int) by omega] at hc'
        exact kind_plain _ (by omega) c hc'
      · exact grp_plain1 _ (Nat.mod_lt _ (by decide)) _ (Nat.mod_lt _ (by decide)) c hc
    · exact grp_plain1 _ (Nat.mod_lt _ (by decide)) _ (Nat.mod_lt _ (by decide)) c hc
  · exact grp_plain3 _ (Nat.mod_lt _ (by decide)) _ (Nat.mod_lt _ (by decide)) c hc
end Mine
end
section
open PySem PyProof.Rows
namespace Mine
theorem gPlace_spec (x : Str) : ∀ Ls : List (List Str), (∀ i, i < gPlace x Ls → ∃ W, Ls[i]? = some W ∧ above' x W = true) ∧ ∀ W, Ls[gPlace x Ls]? = some W → above' x W = false
  | [] => ⟨fun i h => by simp [gPlace] at h, fun W h => by simp at h⟩
  | l :: r => by
    obtain ⟨h1, h2⟩ := gPlace_spec x r
    unfold gPlace
    by_cases c : above' x l = true
    · rw [if_pos c]
      refine ⟨fun i hi => ?_, fun W h => h2 W (by simpa using h)⟩
      cases i with
      | zero => exact ⟨l, rfl, c⟩
      | succ i => obtain ⟨W, a, b⟩ := h1 i (by omega); exact ⟨W, by simpa using a, b⟩
    · rw [if_neg c]
      refine ⟨fun i hi => by omega, fun W h => ?_⟩
      simp at h; subst h; simpa using c
theorem remF_snoc (x : Str) : ∀ (Ls : List (List Str)) (k : Nat), remF k (Ls ++ [[x]]) = remF k Ls ++ [(x, ((k + Ls.length : Nat) : Int))]
  | [], k => by simp [remF]
  | W :: R, k => by
    show W.map _ ++ remF (k + 1) (R ++ [[x]]) = W.map _ ++ remF (k + 1) R ++ _
    rw [remF_snoc x R (k + 1), List.append_assoc, List.length_cons, show k + 1 + R.length = k + (R.length + 1) by omega]
theorem remF_add (x : Str) : ∀ (Ls : List (List Str)) (k p : Nat) (W : List Str), Ls[p]? = some W → (remF k (Ls.set p (W ++ [x]))).Perm ((x, ((k + p : Nat) : Int)) :: remF k Ls)
  | [], _, _, _, h => by simp at h
  | V :: R, k, 0, W, h => by
    simp at h; subst h
    show ((V ++ [x]).map _ ++ remF (k + 1) R).Perm (_ :: (V.map _ ++ remF (k + 1) R))
    rw [List.map_append, List.append_assoc]
    exact List.perm_middle
  | V :: R, k, p + 1, W, h => by
    have ih := remF_add x R (k + 1) p W (by simpa using h)
    show (V.map _ ++ remF (k + 1) (R.set p (W ++ [x]))).Perm (_ :: (V.map _ ++ remF (k + 1) R))
    rw [show k + (p + 1) = k + 1 + p by omega]
    exact (List.Perm.append_left _ ih).trans List.perm_middle
theorem lastD_snoc (W : List Str) (x : Str) : lastD (W ++ [x]) = x := by unfold lastD; simp
theorem srt_last {W : List Str} (h : Srt W) {w : Str} (hw : w ∈ W) : ¬ (lastD W).cps.toList < w.cps.toList := by
  have hne : W ≠ [] := fun e => by rw [e] at hw; cases hw
  obtain ⟨V, z, rfl⟩ : ∃ V z, W = V ++ [z] := ⟨_, _, (List.dropLast_concat_getLast hne).symm⟩
  rw [lastD_snoc]
  rcases List.mem_append.mp hw with hw | hw
  · exact (List.pairwise_append.mp h).2.2 _ hw _ (List.mem_singleton.mpr rfl)
  · rw [List.mem_singleton.mp hw]
    exact List.lt_irrefl _
theorem srt_snoc {W : List Str} (h : Srt W) {x : Str} (hx : above' x W = false) : Srt (W ++ [x]) := by
  refine List.pairwise_append.mpr ⟨h, List.pairwise_singleton _ _, fun a ha b hb => ?_⟩
  rw [List.mem_singleton.mp hb]
  have h1 := srt_last h ha
  have h2 : ¬ x.cps.toList < (lastD W).cps.toList := by unfold above' at hx; simpa using hx
  exact List.not_lt.mpr (List.le_trans (List.not_lt.mp h1) (List.not_lt.mp h2))
theorem levelsUp_getD (nums : List Int) (k j : Nat) : (levelsUp nums (k + 1)).getD j 0 = if j = k then levNext nums (levelsUp nums k) k else (levelsUp nums k).getD j 0 := by
  show (levelsUp nums k ++ [_]).getD j 0 = _
  have hl := levelsUp_length nums k
  rw [List.getD_eq_getElem?_getD, List.getD_eq_getElem?_getD]
  by_cases h : j = k
  · subst h
    rw [if_pos rfl, List.getElem?_append_right (by omega), hl, Nat.sub_self]; rfl
  · rw [if_neg h]
    by_cases h2 : j < k
    · rw [List.getElem?_append_left (by omega)]
    · rw [List.getElem?_append_right (by omega), List.getElem?_eq_none (by simp; omega), List.getElem?_eq_none (by omega)]
structure GInv (names : List Str) (nums : List Int) (k : Nat) (T : Nat → Nat) : Prop where
  eq : (gUp names k).1 = levelsUp nums k
  top : ∀ (i : Nat) (W : List Str), (gUp names k).2[i]? = some W → lastD W = names.getD (T i) default ∧ T i < k ∧ (levelsUp nums k).getD (T i) 0 = (i : Int)
  all : ∀ j, j < k → ∃ p : Nat, (levelsUp nums k).getD j 0 = (p : Int) ∧ p < (gUp names k).2.length ∧ nums.getD j 0 ≤ nums.getD (T p) 0
  desc : ∀ i i', i < i' → i' < (gUp names k).2.length → nums.getD (T i') 0 < nums.getD (T i) 0
  perm : (remF 0 (gUp names k).2).Perm ((List.range k).map fun j => (names.getD j default, (levelsUp nums k).getD j 0))
  srt : ∀ W ∈ (gUp names k).2, Srt W
theorem ginv {names : List Str} {nums : List Int} {N : Nat} (ho : ∀ i j, i < N → j < N → ((names.getD i default).cps.toList < (names.getD j default).cps.toList ↔ nums.getD i 0 < nums.getD j 0)) : ∀ k, k ≤ N → ∃ T, GInv names nums k T := by
  intro k
  induction k with
  | zero => exact fun _ => ⟨fun _ => 0, rfl, fun i W h => by simp [gUp] at h, fun j h => by omega, fun i i' _ h => by simp [gUp] at h, by simp [gUp, remF], fun W h => by simp [gUp] at h⟩
  | succ k ih =>
    intro hk
    obtain ⟨T, I⟩ := ih (by omega)
    have hst1 : (gUp names (k + 1)).1 = (gUp names k).1 ++ [((gPlace (names.getD k default) (gUp names k).2 : Nat) : Int)] := rfl
    have hst2 : (gUp names (k + 1)).2 = gLay (names.getD k default) (gUp names k).2 := rfl
    obtain ⟨s1, s2⟩ := gPlace_spec (names.getD k default) (gUp names k).2
    have hple := gPlace_le (names.getD k default) (gUp names k).2
    unfold gLay at hst2
    generalize hp : gPlace (names.getD k default) (gUp names k).2 = p at *
    generalize hL : (gUp names k).2 = Ls at *
    have up : ∀ i, i < p → nums.getD k 0 < nums.getD (T i) 0 := fun i hi => by
      obtain ⟨W, a, b⟩ := s1 i hi
      obtain ⟨e1, e2, _⟩ := I.top i W (by rw [hL]; exact a)
      unfold above' at b
      rw [decide_eq_true_iff, e1] at b
      exact (ho k (T i) (by omega) (by omega)).mp b
    have dn : p < Ls.length → nums.getD (T p) 0 ≤ nums.getD k 0 := fun h => by
      have b := s2 _ (List.getElem?_eq_getElem h)
      obtain ⟨e1, e2, _⟩ := I.top p _ (by rw [hL]; exact List.getElem?_eq_getElem h)
      unfold above' at b
      rw [decide_eq_false_iff_not, e1, ho k (T p) (by omega) (by omega)] at b
      omega
    have hlev : levNext nums (levelsUp nums k) k = (p : Int) := by
      unfold levNext
      refine (max_is ?_ fun a ha => ?_).symm
      · rcases Nat.eq_zero_or_pos p with h | h
        · rw [h]; exact List.mem_append_right _ (.head _)
        · obtain ⟨W, a, b⟩ := s1 (p - 1) (by omega)
          obtain ⟨_, e2, e3⟩ := I.top (p - 1) W (by rw [hL]; exact a)
          refine List.mem_append_left _ (List.mem_map.mpr ⟨T (p - 1), List.mem_filter.mpr ⟨List.mem_range.mpr e2, ?_⟩, by rw [e3]; omega⟩)
          rw [decide_eq_true_iff]
          exact up (p - 1) (by omega)
      · rcases List.mem_append.mp ha with ha | ha
        · obtain ⟨j, hj, rfl⟩ := List.mem_map.mp ha
          obtain ⟨hj1, hj2⟩ := List.mem_filter.mp hj
          have hj1 := List.mem_range.mp hj1
          rw [decide_eq_true_iff] at hj2
          obtain ⟨q, e1, e2, e3⟩ := I.all j hj1
          rw [hL] at e2
          rw [e1]
          by_cases c : q < p
          · omega
          · have d1 := dn (by omega)
            by_cases e : q = p
            · subst e; omega
            · have := I.desc p q (by omega) (by rw [hL]; exact e2)
              omega
        · rw [List.mem_singleton.mp ha]; omega
    refine ⟨fun i => if i = p then k else T i, ?_⟩
    have hT : ∀ i, i ≠ p → (if i = p then k else T i) = T i := fun i h => if_neg h
    have hTp : (if p = p then k else T p) = k := if_pos rfl
    have hget : ∀ i, (gUp names (k + 1)).2[i]? = if i = p then some ((Ls[p]?).getD [] ++ [names.getD k default]) else Ls[i]? := fun i => by
      rw [hst2]
      by_cases c : p = Ls.length
      · rw [if_pos c]
        by_cases e : i = p
        · rw [if_pos e, e, c, List.getElem?_append_right (Nat.le_refl _), Nat.sub_self, List.getElem?_eq_none (Nat.le_refl _)]; rfl
        · rw [if_neg e]
          by_cases h : i < Ls.length
          · rw [List.getElem?_append_left h]
          · rw [List.getElem?_eq_none (by simp; omega), List.getElem?_eq_none (by omega)]
      · rw [if_neg c, List.getElem?_set]
        by_cases e : i = p
        · rw [if_pos e.symm, if_pos e, if_pos (by omega), List.getD_eq_getElem?_getD]
        · rw [if_neg (Ne.symm e), if_neg e]
    have hlen : (gUp names (k + 1)).2.length = if p = Ls.length then Ls.length + 1 else Ls.length := by
      rw [hst2]
      by_cases c : p = Ls.length
      · rw [if_pos c, if_pos c]; simp
      · rw [if_neg c, if_neg c, List.length_set]
    have hge : Ls.length ≤ (gUp names (k + 1)).2.length ∧ p < (gUp names (k + 1)).2.length := by rw [hlen]; split <;> omega
    refine ⟨?_, fun i W h => ?_, fun j hj => ?_, fun i i' hi hi' => ?_, ?_, fun W hW => ?_⟩
    · rw [hst1, I.eq]
      show _ = levelsUp nums k ++ [levNext nums (levelsUp nums k) k]
      rw [hlev]
    · rw [hget] at h
      by_cases e : i = p
      · rw [if_pos e] at h
        cases h
        subst e
        rw [lastD_snoc]
        rw [hTp]
        exact ⟨rfl, by omega, by rw [levelsUp_getD, if_pos rfl, hlev]⟩
      · rw [if_neg e] at h
        obtain ⟨e1, e2, e3⟩ := I.top i W (by rw [hL]; exact h)
        rw [hT i e]
        exact ⟨e1, by omega, by rw [levelsUp_getD, if_neg (by omega)]; exact e3⟩
    · by_cases e : j = k
      · subst e
        exact ⟨p, by rw [levelsUp_getD, if_pos rfl, hlev], hge.2, by rw [hTp]; exact Int.le_refl _⟩
      · obtain ⟨q, e1, e2, e3⟩ := I.all j (by omega)
        rw [hL] at e2
        refine ⟨q, by rw [levelsUp_getD, if_neg e]; exact e1, by omega, ?_⟩
        by_cases c : q = p
        · subst c
          rw [hTp]
          have := dn e2; omega
        · rw [hT q c]; exact e3
    · by_cases c : i' = p
      · subst c
        rw [hTp, hT i (by omega)]
        exact up i hi
      · rw [hT i' c]
        have hi2 : i' < Ls.length := by rw [hlen] at hi'; split at hi' <;> omega
        by_cases c2 : i = p
        · subst c2
          rw [hTp]
          have h1 := I.desc i i' hi (by rw [hL]; exact hi2)
          have h2 := dn (by omega)
          omega
        · rw [hT i c2]
          exact I.desc i i' hi (by rw [hL]; exact hi2)
    · have hr : ((List.range (k + 1)).map fun j => (names.getD j default, (levelsUp nums (k + 1)).getD j 0)) = ((List.range k).map fun j => (names.getD j default, (levelsUp nums k).getD j 0)) ++ [(names.getD k default, (p : Int))] := by
        rw [List.range_succ, List.map_append]
        congr 1
        · apply List.map_congr_left
          intro j hj
          have := List.mem_range.mp hj
          rw [levelsUp_getD, if_neg (by omega)]
        · simp only [List.map_cons, List.map_nil]
          rw [levelsUp_getD, if_pos rfl, hlev]
      rw [hr, hst2]
      have hP := I.perm
      rw [hL] at hP
      by_cases c : p = Ls.length
      · rw [if_pos c, remF_snoc, Nat.zero_add, ← c]
        exact hP.append_right _
      · rw [if_neg c]
        have hpl : p < Ls.length := by omega
        have e : Ls.getD p [] = Ls[p] := by rw [List.getD_eq_getElem?_getD, List.getElem?_eq_getElem hpl]; rfl
        rw [e]
        have := remF_add (names.getD k default) Ls 0 p Ls[p] (List.getElem?_eq_getElem hpl)
        rw [Nat.zero_add] at this
        refine this.trans ((hP.cons _).trans ?_)
        exact (List.perm_append_comm (l₁ := [(names.getD k default, (p : Int))]))
    · obtain ⟨i, hi⟩ := List.getElem?_of_mem hW
      rw [hget] at hi
      have hS := I.srt
      rw [hL] at hS
      by_cases e : i = p
      · rw [if_pos e] at hi
        cases hi
        by_cases h : p < Ls.length
        · rw [List.getElem?_eq_getElem h]
          exact srt_snoc (hS _ (List.getElem_mem h)) (s2 _ (List.getElem?_eq_getElem h))
        · rw [List.getElem?_eq_none (by omega)]
          exact List.pairwise_singleton _ _
      · rw [if_neg e] at hi
        exact hS _ (List.mem_of_getElem? hi)
end Mine
end
section
open PySem PySem.W PyProof.Rows
namespace Mine
theorem triLt_iff {p q : T3} : triLt p q = true ↔ p.1 < q.1 ∨ p.1 = q.1 ∧ (p.2.1 < q.2.1 ∨ p.2.1 = q.2.1 ∧ p.2.2 < q.2.2) := by
  unfold triLt
  by_cases h1 : p.1 = q.1
  · rw [if_pos (by rw [h1]; exact beq_self_eq_true _)]
    by_cases h2 : p.2.1 = q.2.1
    · rw [if_pos (by rw [h2]; exact beq_self_eq_true _)]
      by_cases h3 : p.2.2 = q.2.2
      · rw [if_pos (by rw [h3]; exact beq_self_eq_true _)]
        constructor
        · intro h; cases h
        · omega
      · rw [if_neg (by rw [beq_iff_eq]; exact h3), decide_eq_true_iff]; omega
    · rw [if_neg (by rw [beq_iff_eq]; exact h2), decide_eq_true_iff]; omega
  · rw [if_neg (by rw [beq_iff_eq]; exact h1), decide_eq_true_iff]; omega
theorem trips_get (ms : List Int) {k : Nat} (h : k < 9) : (tripsOf ms).getD k default = tripOf ms k := by
  unfold tripsOf
  rw [List.getD_eq_getElem?_getD, List.getElem?_map, List.getElem?_range h]; rfl
theorem trips_ok (ms : List Int) : LtOk 9 fun i j => triLt ((tripsOf ms).getD i default) ((tripsOf ms).getD j default) := by
  refine ⟨fun i j hi hj hne h => ?_, fun i j h => ?_, fun i j k h1 h2 => ?_⟩
  · have h' : ¬ triLt (tripOf ms i) (tripOf ms j) = true := by
      rw [← trips_get ms hi, ← trips_get ms hj]; simpa using h
    show triLt ((tripsOf ms).getD j default) ((tripsOf ms).getD i default) = true
    rw [trips_get ms hi, trips_get ms hj, triLt_iff]
    rw [triLt_iff] at h'
    have e1 : (tripOf ms i).2.2 = (i : Int) := rfl
    have e2 : (tripOf ms j).2.2 = (j : Int) := rfl
    omega
  · have h := triLt_iff.mp h
    rw [← Bool.not_eq_true]
    intro z
    have z := triLt_iff.mp z
    omega
  · have h1 := triLt_iff.mp h1
    have h2 := triLt_iff.mp h2
    exact triLt_iff.mpr (by omega)
theorem plain_ok (ms : List Int) (hl : ms.length = 9) (hb : ∀ m ∈ ms, 0 ≤ m ∧ m < 65536) : PlainOk ms := by
  have hmem : ∀ j, j < 9 → ms.getD j 0 ∈ ms := fun j hj => by
    rw [List.getD_eq_getElem?_getD, List.getElem?_eq_getElem (by omega)]; exact List.getElem_mem (by omega)
  have hnm : ∀ j, j < 9 → (namesOf ms).getD j default = rowOf (ms.getD j 0) := fun j hj => by
    unfold namesOf
    rw [List.getD_eq_getElem?_getD, List.getElem?_map, List.getD_eq_getElem?_getD, List.getElem?_eq_getElem (by omega)]; rfl
  have hnu : ∀ j, j < 9 → (numsOf' ms).getD j 0 = numOf (ms.getD j 0) := fun j hj => by
    unfold numsOf'
    rw [List.getD_eq_getElem?_getD, List.getElem?_map, List.getD_eq_getElem?_getD, List.getElem?_eq_getElem (by omega)]; rfl
  have hrow : ∀ i j, i < 9 → j < 9 → _ := fun i j hi hj => row_lt (hb _ (hmem i hi)).1 (hb _ (hmem i hi)).2 (hb _ (hmem j hj)).1 (hb _ (hmem j hj)).2
  have ho : ∀ i j, i < 9 → j < 9 → (((namesOf ms).getD i default).cps.toList < ((namesOf ms).getD j default).cps.toList ↔ (numsOf' ms).getD i 0 < (numsOf' ms).getD j 0) := fun i j hi hj => by
    rw [hnm i hi, hnm j hj, hnu i hi, hnu j hj]; exact (hrow i j hi hj).1
  have hlv : levelsOf (numsOf' ms) = levelsUp (numsOf' ms) 9 := by
    unfold levelsOf
    rw [show (numsOf' ms).length = 9 by unfold numsOf'; rw [List.length_map, hl]]
  obtain ⟨T, I⟩ := ginv ho 9 (Nat.le_refl _)
  have hstr : ∀ m ∈ ms, PyData.strOk (rowOf m) = true := fun m hm => by
    unfold PyData.strOk
    rw [← Array.all_toList, List.all_eq_true]
    intro c hc
    have := (row_plain (hb m hm).1 (hb m hm).2 c hc).1
    exact decide_eq_true (by omega)
  have hne := gUp_ne (namesOf ms) 9
  have hs := I.srt
  have hP := I.perm
  have hN : (remF 0 (linesOf ms)).length = 9 := by
    have := hP.length_eq
    rw [List.length_map, List.length_range] at this; exact this
  have inv : ∀ i, i ≤ 9 → MInv (linesOf ms) (mIter (linesOf ms) i).1 (mIter (linesOf ms) i).2.1 (mIter (linesOf ms) i).2.2 := fun i hi => inv_all (Ls := linesOf ms) hne hs i (by rw [hN]; exact hi)
  have hGo : ∀ i, i < 9 → (mIter (linesOf ms) i).1 ≠ [] := fun i hi => inv_ne (inv i (by omega)) (by rw [(mIter_length (linesOf ms) i).2.2, hN]; exact hi)
  have hHd : ∀ i, i < 9 → (mIter (linesOf ms) i).1.headD default ∈ remF 0 (linesOf ms) := fun i hi => by
    refine (inv i (by omega)).perm.mem_iff.mp (List.mem_append_right _ (List.mem_append_left _ ?_))
    have := hGo i hi
    generalize (mIter (linesOf ms) i).1 = xs at this
    cases xs with
    | nil => exact absurd rfl this
    | cons a l => exact .head _
  have hE := inv_end (inv 9 (Nat.le_refl _)) (by rw [(mIter_length (linesOf ms) 9).2.2, hN])
  refine ⟨fun m hm => file_row (hb m hm).1 (hb m hm).2, fun x hx => ?_, hstr, by rw [hlv]; exact I.eq, trips_ok ms, hE.1, hGo, fun i hi => ?_, fun i hi W hW => ?_, fun i hi => ?_, fun p hp ha => ?_, fun M hM hMu => ?_⟩
  · obtain ⟨m, hm, rfl⟩ := List.mem_map.mp hx
    exact ⟨rowOf_len m, row_plain (hb m hm).1 (hb m hm).2⟩
  · obtain ⟨p, W, h1, _, h3⟩ := (remF_mem _ _).mp (hHd i hi)
    have := (List.getElem?_eq_some_iff.mp h1).1
    rw [h3]
    exact ⟨by omega, by omega⟩
  · have h1 := remF_len _ 0 hW
    have h2 := (inv i hi).perm.length_eq
    rw [List.length_append, List.length_append, hN] at h2
    omega
  · obtain ⟨j, hj, e⟩ := List.mem_map.mp (hP.mem_iff.mp (hHd i hi))
    have hj9 := List.mem_range.mp hj
    rw [← e]
    show PyData.strOk ((namesOf ms).getD j default) = true
    rw [hnm j hj9]
    exact hstr _ (hmem j hj9)
  · have hps : p.toList.length = 9 := by rw [Array.length_toList, hp.size]
    refine List.Perm.eq_of_pairwise (le := le2) (fun a b _ _ h1 h2 => le2_anti h1 h2) (inv 9 (Nat.le_refl _)).out ?_ ?_
    · rw [List.pairwise_map, List.pairwise_iff_getElem]
      intro i j hi hj hij
      have ei : p.toList[i] = gA p i := by
        have := gA_get (p := p) (i := i) (by rw [← Array.length_toList]; exact hi)
        rw [← Array.getElem?_toList, List.getElem?_eq_getElem hi] at this
        exact Option.some.inj this
      have ej : p.toList[j] = gA p j := by
        have := gA_get (p := p) (i := j) (by rw [← Array.length_toList]; exact hj)
        rw [← Array.getElem?_toList, List.getElem?_eq_getElem hj] at this
        exact Option.some.inj this
      rw [ei, ej]
      have gi := hp.inN (i := i) (by omega)
      have gj := hp.inN (i := j) (by omega)
      have h := ha i j hij (by omega)
      dsimp only at h
      rw [trips_get ms gi, trips_get ms gj, triLt_iff] at h
      obtain ⟨r1, r2⟩ := hrow _ _ gj gi
      have e1 : (tripOf ms (gA p i)).1 = numOf (ms.getD (gA p i) 0) := hnu _ gi
      have e2 : (tripOf ms (gA p j)).1 = numOf (ms.getD (gA p j) 0) := hnu _ gj
      have l1 : (tripOf ms (gA p i)).2.1 = (pairOf ms (gA p i)).2 := rfl
      have l2 : (tripOf ms (gA p j)).2.1 = (pairOf ms (gA p j)).2 := rfl
      rw [le2_iff]
      refine ⟨fun z => ?_, fun z => ?_⟩
      · have := r1.mp z; omega
      · have := r2.mp z.symm; omega
    · refine hE.2.1.trans (hP.trans ?_)
      rw [show ((List.range 9).map fun j => ((namesOf ms).getD j default, (levelsUp (numsOf' ms) 9).getD j 0)) = (List.range 9).map (pairOf ms) from List.map_congr_left fun j hj => by
        have hj9 := List.mem_range.mp hj
        unfold pairOf
        rw [hnm j hj9, hlv]]
      exact (hp.symm).map _
  · rw [hlv] at hM hMu
    have hll := levelsUp_length (numsOf' ms) 9
    obtain ⟨j, hj, e⟩ := List.getElem_of_mem hM
    obtain ⟨q, e1, e2, _⟩ := I.all j (by omega)
    have e3 : (levelsUp (numsOf' ms) 9).getD j 0 = M := by rw [List.getD_eq_getElem?_getD, List.getElem?_eq_getElem hj, e]; rfl
    rw [e3] at e1
    have hlen : (gUp (namesOf ms) 9).2.length = (linesOf ms).length := rfl
    obtain ⟨_, t2, t3⟩ := I.top ((linesOf ms).length - 1) _ (List.getElem?_eq_getElem (show (linesOf ms).length - 1 < (gUp (namesOf ms) 9).2.length by omega))
    have hm2 : (levelsUp (numsOf' ms) 9).getD (T ((linesOf ms).length - 1)) 0 ∈ levelsUp (numsOf' ms) 9 := by
      rw [List.getD_eq_getElem?_getD, List.getElem?_eq_getElem (by omega)]; exact List.getElem_mem (by omega)
    have hm3 := hMu _ hm2
    have hle := gUp_length (namesOf ms) 9
    refine ⟨q, e1, by omega, ?_⟩
    rw [hE.2.2, show (linesOf ms).length = q + 1 by omega]
end Mine
end
set_option maxRecDepth 100000 in
set_option maxHeartbeats 8000000 in
theorem PySem.Challenge.cw_oy0168_01_holds : PySem.Challenge.rw_oy0168_01.Holds :=
  Mine.final_of Mine.plain_ok
