import PyProof.Rows.All
import Wide.All
import OpenK.AllK
import Wide.FinOn
import PySem.Challenge.RW_wr0001_01
set_option Elab.async false
set_option maxRecDepth 100000
set_option maxHeartbeats 16000000
set_option autoImplicit false
set_option linter.unusedVariables false

section
open PySem PySem.W PyProof.Rows
namespace Mine
open_top hd for PySem.Challenge.rw_wr0001_01
end Mine
end

section
open PySem PySem.Calls PyProof.Rows PySem.W
namespace Mine

abbrev GM := Addr → Option Obj
def Sub (g g' : GM) : Prop := ∀ b o, g b = some o → g' b = some o
theorem Sub.refl (g : GM) : Sub g g := fun _ _ e => e
theorem Sub.trans {a b c : GM} (x : Sub a b) (y : Sub b c) : Sub a c := fun i o e => y i o (x i o e)

def upd (g : GM) (D : Addr) (o : Obj) : GM := fun b => if b = D then some o else g b
theorem upd_self {g : GM} {D : Addr} {o : Obj} : upd g D o D = some o := by simp [upd]
theorem upd_ne {g : GM} {D b : Addr} {o : Obj} (h : b ≠ D) : upd g D o b = g b := by simp [upd, h]
theorem upd_sub {g : GM} {D : Addr} {o : Obj} (h : g D = none) : Sub g (upd g D o) := fun b o' e => by
  rw [upd_ne (by rintro rfl; rw [h] at e; cases e)]; exact e

theorem keeps_refl (s : Shared) : Keeps s s := ⟨s.heap, s.toks, rfl, fun _ _ e => e⟩
theorem keeps_trans {a b c : Shared} (x : Keeps a b) (y : Keeps b c) : Keeps a c := by
  obtain ⟨h, t, rfl, k⟩ := x
  obtain ⟨h', t', rfl, k'⟩ := y
  exact ⟨h', t', rfl, fun b o e => k' b o (k b o e)⟩
theorem keeps_sub {s s' : Shared} (x : Keeps s s') : Sub s.heap.get? s'.heap.get? := by
  obtain ⟨h, t, rfl, k⟩ := x; exact k

structure Ext (s : Shared) (g : GM) (s' : Shared) (g' : GM) : Prop where
  keeps : Keeps s s'
  sub : Sub g g'
  keep : Sub g' s'.heap.get?
  new : ∀ b o, g' b = some o → g b = some o ∨ s.heap.get? b = none

theorem Ext.refl {s : Shared} {g : GM} (h : Sub g s.heap.get?) : Ext s g s g := ⟨keeps_refl s, Sub.refl g, h, fun _ _ e => .inl e⟩
theorem Ext.trans {s s1 s2 : Shared} {g g1 g2 : GM} (x : Ext s g s1 g1) (y : Ext s1 g1 s2 g2) : Ext s g s2 g2 :=
  ⟨keeps_trans x.keeps y.keeps, x.sub.trans y.sub, y.keep, fun b o e => by
    rcases y.new b o e with h | h
    · exact x.new b o h
    · right
      cases e' : s.heap.get? b with
      | none => rfl
      | some o' => have := keeps_sub x.keeps b o' e'; rw [h] at this; cases this⟩
theorem Ext.toks {s : Shared} {g : GM} (h : Sub g s.heap.get?) (t : Nat) : Ext s g { s with toks := t } g := ⟨⟨s.heap, t, rfl, fun _ _ e => e⟩, Sub.refl g, h, fun _ _ e => .inl e⟩
theorem Ext.keepsS {s : Shared} {g : GM} {s' : Shared} (h : Sub g s.heap.get?) (k : Keeps s s') : Ext s g s' g := ⟨k, Sub.refl g, h.trans (keeps_sub k), fun _ _ e => .inl e⟩
theorem Ext.heap {s : Shared} {g : GM} {h' : Heap} {tk : Nat} (h : Sub g s.heap.get?) (k : ∀ b o, s.heap.get? b = some o → h'.get? b = some o) : Ext s g { s with heap := h', toks := tk } g :=
  Ext.keepsS h ⟨h', tk, rfl, k⟩
/-- the heap grew by one object that is now known -/
theorem Ext.one {s : Shared} {g : GM} {h' : Heap} {tk : Nat} {D : Addr} {o : Obj} (h : Sub g s.heap.get?) (k : ∀ b o, s.heap.get? b = some o → h'.get? b = some o)
    (hn : s.heap.get? D = none) (hD : h'.get? D = some o) : Ext s g { s with heap := h', toks := tk } (upd g D o) := by
  have hg : g D = none := by
    cases e : g D with
    | none => rfl
    | some o' => have := h D o' e; rw [hn] at this; cases this
  refine ⟨⟨h', tk, rfl, k⟩, upd_sub hg, fun b o' e => ?_, fun b o' e => ?_⟩
  · by_cases hb : b = D
    · subst hb; rw [upd_self] at e; cases e; exact hD
    · rw [upd_ne hb] at e; exact k b o' (h b o' e)
  · by_cases hb : b = D
    · subst hb; exact .inr hn
    · rw [upd_ne hb] at e; exact .inl e

structure Rd (env : Env) (g : GM) (m cm : Str → Option Value) (s : Shared) : Prop where
  ns : s.heap.Ns env.locals m
  cell : ∀ n c, env.cells.lookup n = some c → s.heap.IsCell c (cm n)
  keep : Sub g s.heap.get?

theorem Rd.ext {env : Env} {g g' : GM} {m cm : Str → Option Value} {s s' : Shared} (x : Rd env g m cm s) (e : Ext s g s' g') : Rd env g' m cm s' :=
  ⟨x.ns.keeps (keeps_sub e.keeps), fun n c h => (x.cell n c h).keeps (keeps_sub e.keeps), e.keep⟩

def Do {α : Type} (prog : Program) (w : World) (A : Around) (env : Env) (g : GM) (m cm : Str → Option Value) (t : Sem α) (R : α → GM → Prop) : Prop :=
  ∀ s, Rd env g m cm s → wpAny (model prog w) A t (fun v s' => ∃ g', Ext s g s' g' ∧ R v g') (fun _ _ => False) s

section
variable {α β : Type} {prog : Program} {w : World} {A : Around} {env : Env} {g : GM} {m cm : Str → Option Value}

theorem Do.mono {t : Sem α} {R R' : α → GM → Prop} (h : Do prog w A env g m cm t R) (i : ∀ v g', Sub g g' → R v g' → R' v g') : Do prog w A env g m cm t R' :=
  fun s rd => wpAny_mono (h s rd) (fun v s' ⟨g', e, r⟩ => ⟨g', e, i v g' e.sub r⟩) fun _ _ x => x
theorem Do.pure {a : α} {R : α → GM → Prop} (h : R a g) : Do prog w A env g m cm (pure a) R := fun _ rd => wpAny_pure ⟨g, Ext.refl rd.keep, h⟩
set_option linter.unusedVariables false in
theorem Do.bind {t : Sem α} {f : α → Sem β} {R : β → GM → Prop} (h : Do prog w A env g m cm t (fun a g₁ => Do prog w A env g₁ m cm (f a) R)) : Do prog w A env g m cm (t >>= f) R :=
  fun s rd => wpAny_bind (wpAny_mono (h s rd) (fun _ s₁ ⟨_, e, r⟩ => wpAny_mono (r s₁ (rd.ext e)) (fun _ _ ⟨g₂, e₂, r₂⟩ => ⟨g₂, e.trans e₂, r₂⟩) fun _ _ x => x) fun _ _ x => x)
/-- a step of the library's: run it, then go on from any state of the same reading -/
theorem Do.chain {t : Sem α} {u : α → Sem β} {R : β → GM → Prop} {s : Shared} (rd : Rd env g m cm s)
    (h : Do prog w A env g m cm t (fun a g₁ => Do prog w A env g₁ m cm (u a) R)) :
    wpAny (model prog w) A t (fun a s₁ => wpAny (model prog w) A (u a) (fun v s' => ∃ g', Ext s g s' g' ∧ R v g') (fun _ _ => False) s₁) (fun _ _ => False) s :=
  wpAny_mono (h s rd) (fun _ s₁ ⟨_, e, r⟩ => wpAny_mono (r s₁ (rd.ext e)) (fun _ _ ⟨g₂, e₂, r₂⟩ => ⟨g₂, e.trans e₂, r₂⟩) fun _ _ x => x) fun _ _ x => x

theorem ev_const_int {i : Int} {k : Nat} {pos : Pos} {R : Value → GM → Prop} (h : ∀ t, R (.int i t) g) : Do prog w A env g m cm (eval (.Constant (.int i) k pos) env) R :=
  fun _ rd => wpAny_Constant_int ⟨g, Ext.toks rd.keep _, h _⟩
theorem ev_const_str {x : Str} {k : Nat} {pos : Pos} {R : Value → GM → Prop} (h : ∀ t, R (.str x t) g) : Do prog w A env g m cm (eval (.Constant (.str x) k pos) env) R :=
  fun _ rd => wpAny_Constant_str ⟨g, Ext.toks rd.keep _, h _⟩
theorem ev_const_bool {b : Bool} {k : Nat} {pos : Pos} {R : Value → GM → Prop} (h : R (.bool b) g) : Do prog w A env g m cm (eval (.Constant (.bool b) k pos) env) R :=
  fun _ rd => wpAny_Constant_bool ⟨g, Ext.refl rd.keep, h⟩

theorem ev_local {x : Str} {pos : Pos} {v : Value} {R : Value → GM → Prop} (hv : m x = some v) (h : R v g) (hk : env.scope.kind = .function := by rfl) (hl : env.kindOf x = some .local := by rfl)
    (hd : (x == ("__debug__" : Str)) = false := by decide) : Do prog w A env g m cm (eval (.Name x pos) env) R :=
  fun _ rd => wpAny_Name (wpAny_loadName_local hk hl rd.ns hv ⟨g, Ext.refl rd.keep, h⟩) hd
theorem ev_cell {x : Str} {pos : Pos} {c : Addr} {v : Value} {R : Value → GM → Prop} (hv : cm x = some v) (h : R v g) (hc : env.cells.lookup x = some c := by rfl) (hk : env.scope.kind = .function := by rfl) (hl : env.kindOf x = some .cell := by rfl)
    (hd : (x == ("__debug__" : Str)) = false := by decide) : Do prog w A env g m cm (eval (.Name x pos) env) R :=
  fun _ rd => wpAny_Name (wpAny_loadName_cell hk hl hc (hv ▸ rd.cell x c hc) ⟨g, Ext.refl rd.keep, h⟩) hd

theorem ev_bin {l r : Expr} {op : Operator} {pos : Pos} {R : Value → GM → Prop}
    (h : Do prog w A env g m cm (eval l env) (fun a g₁ => Do prog w A env g₁ m cm (eval r env) (fun b g₂ => Do prog w A env g₂ m cm (binaryOp op a b) R))) :
    Do prog w A env g m cm (eval (.BinOp l op r pos) env) R := fun _ rd =>
  wpAny_BinOp (wpAny_mono (h _ rd) (fun _ _ ⟨_, e₁, h₁⟩ => wpAny_mono (h₁ _ (rd.ext e₁)) (fun _ _ ⟨_, e₂, h₂⟩ =>
    wpAny_mono (h₂ _ ((rd.ext e₁).ext e₂)) (fun _ _ ⟨g₃, e₃, h₃⟩ => ⟨g₃, (e₁.trans e₂).trans e₃, h₃⟩) fun _ _ x => x) fun _ _ x => x) fun _ _ x => x)
theorem ev_cmp {l r : Expr} {op : CmpOp} {pos : Pos} {R : Value → GM → Prop}
    (h : Do prog w A env g m cm (eval l env) (fun a g₁ => Do prog w A env g₁ m cm (eval r env) (fun b g₂ => Do prog w A env g₂ m cm (compareOp op a b) R)))
    (hm : behindInMarks op r = false := by with_unfolding_all rfl) :
    Do prog w A env g m cm (eval (.Compare l [op] [r] pos) env) R := fun _ rd =>
  wpAny_Compare1 (wpAny_mono (h _ rd) (fun _ _ ⟨_, e₁, h₁⟩ => wpAny_mono (h₁ _ (rd.ext e₁)) (fun _ _ ⟨_, e₂, h₂⟩ =>
    wpAny_mono (h₂ _ ((rd.ext e₁).ext e₂)) (fun _ _ ⟨g₃, e₃, h₃⟩ => ⟨g₃, (e₁.trans e₂).trans e₃, h₃⟩) fun _ _ x => x) fun _ _ x => x) fun _ _ x => x) hm
theorem is_cmp {l r : Expr} {op : CmpOp} {pos : Pos} {whole : Sem Value} {R : Bool → GM → Prop}
    (h : Do prog w A env g m cm (eval l env) (fun a g₁ => Do prog w A env g₁ m cm (eval r env) (fun b g₂ => Do prog w A env g₂ m cm (compareOp op a b) (fun c g₃ => Do prog w A env g₃ m cm (truthy c) R))))
    (hm : behindInMarks op r = false := by with_unfolding_all rfl) :
    Do prog w A env g m cm (isTrue (.Compare l [op] [r] pos) env whole) R := fun _ rd =>
  wpAny_isTrue_Compare1 (wpAny_mono (h _ rd) (fun _ _ ⟨_, e₁, h₁⟩ => wpAny_mono (h₁ _ (rd.ext e₁)) (fun _ _ ⟨_, e₂, h₂⟩ =>
    wpAny_mono (h₂ _ ((rd.ext e₁).ext e₂)) (fun _ _ ⟨_, e₃, h₃⟩ => wpAny_mono (h₃ _ (((rd.ext e₁).ext e₂).ext e₃)) (fun _ _ ⟨g₄, e₄, h₄⟩ =>
      ⟨g₄, ((e₁.trans e₂).trans e₃).trans e₄, h₄⟩) fun _ _ x => x) fun _ _ x => x) fun _ _ x => x) fun _ _ x => x) hm
theorem do_truthy_bool {b : Bool} {R : Bool → GM → Prop} (h : R b g) : Do prog w A env g m cm (truthy (.bool b)) R := fun _ rd => wpAny_truthy_bool ⟨g, Ext.refl rd.keep, h⟩
theorem is_value {e : Expr} {R : Bool → GM → Prop} (h : Do prog w A env g m cm (eval e env) (fun v g₁ => Do prog w A env g₁ m cm (truthy v) R))
    (he : isTrue e env (eval e env) = (do let v ← eval e env; standAt e.pos; holding [v] (truthy v)) := by rfl) : Do prog w A env g m cm (isTrue e env (eval e env)) R := fun _ rd =>
  wpAny_isTrue_value (wpAny_mono (h _ rd) (fun _ _ ⟨_, e₁, h₁⟩ => wpAny_mono (h₁ _ (rd.ext e₁)) (fun _ _ ⟨g₂, e₂, h₂⟩ => ⟨g₂, e₁.trans e₂, h₂⟩) fun _ _ x => x) fun _ _ x => x) he
theorem is_not {x : Expr} {pos : Pos} {whole : Sem Value} {R : Bool → GM → Prop} (h : Do prog w A env g m cm (isTrue x env (eval x env)) (fun b g₁ => R (!b) g₁)) :
    Do prog w A env g m cm (isTrue (.UnaryOp .Not x pos) env whole) R := fun _ rd => wpAny_isTrue_Not (h _ rd)

theorem ev_ifexp {test body orelse : Expr} {pos : Pos} {R : Value → GM → Prop}
    (h : Do prog w A env g m cm (isTrue test env (eval test env)) (fun b g₁ => if b = true then Do prog w A env g₁ m cm (eval body env) R else Do prog w A env g₁ m cm (eval orelse env) R)) :
    Do prog w A env g m cm (eval (.IfExp test body orelse pos) env) R := fun _ rd =>
  wpAny_IfExp (wpAny_mono (h _ rd) (fun b s₁ ⟨_, e₁, h₁⟩ => by
    cases b
    · exact wpAny_mono ((show Do prog w A env _ m cm _ R from h₁) s₁ (rd.ext e₁)) (fun _ _ ⟨g₂, e₂, h₂⟩ => ⟨g₂, e₁.trans e₂, h₂⟩) fun _ _ x => x
    · exact wpAny_mono ((show Do prog w A env _ m cm _ R from h₁) s₁ (rd.ext e₁)) (fun _ _ ⟨g₂, e₂, h₂⟩ => ⟨g₂, e₁.trans e₂, h₂⟩) fun _ _ x => x) fun _ _ x => x)

theorem ev_global {x : Str} {pos : Pos} {mg : Str → Option Value} {v : Value} {R : Value → GM → Prop} (hg : ∀ h : Heap, Sub g h.get? → h.Ns env.globals mg) (hv : mg x = some v) (h : R v g)
    (hk : env.scope.kind = .function := by rfl) (hl : env.kindOf x = some .globalImplicit := by rfl) (hd : (x == ("__debug__" : Str)) = false := by decide) : Do prog w A env g m cm (eval (.Name x pos) env) R :=
  fun _ rd => Name_function_global hk hl (loadGlobal_global (hg _ rd.keep) hv ⟨g, Ext.refl rd.keep, h⟩) hd
theorem ev_builtin {x : Str} {pos : Pos} {mg mb : Str → Option Value} {v : Value} {R : Value → GM → Prop} (hg : ∀ h : Heap, Sub g h.get? → h.Ns env.globals mg) (hv : mg x = none)
    (hb : ∀ h : Heap, Sub g h.get? → h.Ns env.builtins mb) (hw : mb x = some v) (h : R v g)
    (hk : env.scope.kind = .function := by rfl) (hl : env.kindOf x = some .globalImplicit := by rfl) (hd : (x == ("__debug__" : Str)) = false := by decide) : Do prog w A env g m cm (eval (.Name x pos) env) R :=
  fun _ rd => Name_function_global hk hl (loadGlobal_builtin (hg _ rd.keep) hv (hb _ rd.keep) hw ⟨g, Ext.refl rd.keep, h⟩) hd

theorem do_args_nil {pos : Pos} {R : List Value → GM → Prop} (h : R [] g) : Do prog w A env g m cm (spliced (backTo pos (starEach [] env))) R := fun _ rd => args_nil ⟨g, Ext.refl rd.keep, h⟩
theorem do_args_cons {e : Expr} {rest : List Expr} {pos : Pos} {R : List Value → GM → Prop}
    (h : Do prog w A env g m cm (eval e env) (fun v g₁ => Do prog w A env g₁ m cm (spliced (backTo pos (starEach rest env))) (fun vs g₂ => R (v :: vs) g₂)))
    (he : starEach (e :: rest) env = (false, eval e env) :: starEach rest env := by rfl) : Do prog w A env g m cm (spliced (backTo pos (starEach (e :: rest) env))) R := fun _ rd =>
  args_cons (wpAny_mono (h _ rd) (fun _ _ ⟨_, e₁, h₁⟩ => wpAny_mono (h₁ _ (rd.ext e₁)) (fun _ _ ⟨g₂, e₂, h₂⟩ => ⟨g₂, e₁.trans e₂, h₂⟩) fun _ _ x => x) fun _ _ x => x) he

/-- a call of a def by its name -/
theorem ev_call {f : Expr} {e : Expr} {rest : List Expr} {pos : Pos} {R : Value → GM → Prop} {a : Addr} {o : Obj} {fd : FuncData}
    (ho : g a = some o) (hd : o.data = .func fd)
    (hf : Do prog w A env g m cm (eval f env) (fun v g₁ => v = .ref a))
    (h : ∀ g₁, Sub g g₁ → Do prog w A env g₁ m cm (spliced (backTo pos (starEach (e :: rest) env))) (fun vs g₂ => Do prog w A env g₂ m cm (call (.ref a) vs) R))
    (hc : eval (.Call f (e :: rest) [] pos) env = (do callWith pos (← eval f env) [] (backTo pos (starEach (e :: rest) env)) (backToKw pos (keywordEach [] env))) := by rfl)
    (he : starEach (e :: rest) env = (false, eval e env) :: starEach rest env := by rfl) :
    Do prog w A env g m cm (eval (.Call f (e :: rest) [] pos) env) R := fun s rd =>
  Call_ (wpAny_mono (hf s rd) (fun v s₁ ⟨g₁, e₁, h₁⟩ => by
    subst h₁
    refine callWith_def_at (h' := s₁.heap) (o := o) (e₁.keep a o (e₁.sub a o ho)) hd ?_ he
    exact wpAny_mono (h g₁ e₁.sub s₁ (rd.ext e₁)) (fun vs s₂ ⟨g₂, e₂, h₂⟩ => ⟨e₂.keep a o (e₂.sub a o (e₁.sub a o ho)), wpAny_mono (h₂ s₂ ((rd.ext e₁).ext e₂)) (fun _ _ ⟨g₃, e₃, h₃⟩ => ⟨g₃, (e₁.trans e₂).trans e₃, h₃⟩) fun _ _ x => x⟩) fun _ _ x => x) fun _ _ x => x) hc

theorem ev_callb {f : Expr} {e : Expr} {rest : List Expr} {pos : Pos} {R : Value → GM → Prop} {id : String}
    (hf : Do prog w A env g m cm (eval f env) (fun v _ => v = .builtin id))
    (h : ∀ g₁, Sub g g₁ → Do prog w A env g₁ m cm (spliced (backTo pos (starEach (e :: rest) env))) (fun vs g₂ => Do prog w A env g₂ m cm (call (.builtin id) vs) R))
    (hc : eval (.Call f (e :: rest) [] pos) env = (do callWith pos (← eval f env) [] (backTo pos (starEach (e :: rest) env)) (backToKw pos (keywordEach [] env))) := by rfl)
    (he : starEach (e :: rest) env = (false, eval e env) :: starEach rest env := by rfl) (hp : (backTo pos (starEach rest env)).any (·.1) = false := by rfl) :
    Do prog w A env g m cm (eval (.Call f (e :: rest) [] pos) env) R := fun s rd =>
  Call_ (wpAny_mono (hf s rd) (fun v s₁ ⟨g₁, e₁, h₁⟩ => by
    subst h₁
    refine callWith_builtin1 ?_ he hp
    exact wpAny_mono (h g₁ e₁.sub s₁ (rd.ext e₁)) (fun vs s₂ ⟨g₂, e₂, h₂⟩ => wpAny_mono (h₂ s₂ ((rd.ext e₁).ext e₂)) (fun _ _ ⟨g₃, e₃, h₃⟩ => ⟨g₃, (e₁.trans e₂).trans e₃, h₃⟩) fun _ _ x => x) fun _ _ x => x) fun _ _ x => x) hc
theorem ev_callt {f : Expr} {e : Expr} {rest : List Expr} {pos : Pos} {R : Value → GM → Prop} {T : String}
    (hf : Do prog w A env g m cm (eval f env) (fun v _ => v = .type T))
    (h : ∀ g₁, Sub g g₁ → Do prog w A env g₁ m cm (spliced (backTo pos (starEach (e :: rest) env))) (fun vs g₂ => Do prog w A env g₂ m cm (call (.type T) vs) R))
    (hc : eval (.Call f (e :: rest) [] pos) env = (do callWith pos (← eval f env) [] (backTo pos (starEach (e :: rest) env)) (backToKw pos (keywordEach [] env))) := by rfl)
    (he : starEach (e :: rest) env = (false, eval e env) :: starEach rest env := by rfl) (hp : (backTo pos (starEach rest env)).any (·.1) = false := by rfl) :
    Do prog w A env g m cm (eval (.Call f (e :: rest) [] pos) env) R := fun s rd =>
  Call_ (wpAny_mono (hf s rd) (fun v s₁ ⟨g₁, e₁, h₁⟩ => by
    subst h₁
    refine PyProof.Rows.callWith_type1 ?_ he hp
    exact wpAny_mono (h g₁ e₁.sub s₁ (rd.ext e₁)) (fun vs s₂ ⟨g₂, e₂, h₂⟩ => wpAny_mono (h₂ s₂ ((rd.ext e₁).ext e₂)) (fun _ _ ⟨g₃, e₃, h₃⟩ => ⟨g₃, (e₁.trans e₂).trans e₃, h₃⟩) fun _ _ x => x) fun _ _ x => x) fun _ _ x => x) hc

/-- a method of a value, with no argument -/
theorem ev_meth0 {o : Expr} {name : Str} {apos pos : Pos} {R : Value → GM → Prop} {pl : Sem Bool}
    (h : Do prog w A env g m cm (eval o env) (fun ov g₁ => ∃ id, Do prog w A env g₁ m cm (getMethod ov name pl) (fun fx g₂ => ∃ first, fx = (.builtin id, first) ∧ Do prog w A env g₂ m cm (call (.builtin id) first) R)))
    (he : eval (.Call (.Attribute o name apos) [] [] pos) env = (do
      let ov ← eval o env
      standAt apos.atName
      let (f, first) ← holding [ov] (getMethod ov name pl)
      callWith pos f first (backTo pos (starEach [] env)) []) := by rfl) :
    Do prog w A env g m cm (eval (.Call (.Attribute o name apos) [] [] pos) env) R := fun s rd =>
  MethodCall_ (wpAny_mono (h s rd) (fun ov s₁ ⟨g₁, e₁, id, h₁⟩ => wpAny_mono (h₁ s₁ (rd.ext e₁)) (fun fx s₂ ⟨g₂, e₂, first, hfx, h₂⟩ => by
    subst hfx
    exact callWith_method0 (wpAny_mono (h₂ s₂ ((rd.ext e₁).ext e₂)) (fun _ _ ⟨g₃, e₃, h₃⟩ => ⟨g₃, (e₁.trans e₂).trans e₃, h₃⟩) fun _ _ x => x)) fun _ _ x => x) fun _ _ x => x) he
/-- a method of a value, with arguments -/
theorem ev_meth1 {o : Expr} {name : Str} {apos pos : Pos} {e : Expr} {rest : List Expr} {R : Value → GM → Prop} {pl : Sem Bool}
    (h : Do prog w A env g m cm (eval o env) (fun ov g₁ => ∃ id, Do prog w A env g₁ m cm (getMethod ov name pl) (fun fx g₂ => ∃ first, fx = (.builtin id, first) ∧
      Do prog w A env g₂ m cm (spliced (backTo pos (starEach (e :: rest) env))) (fun vs g₃ => Do prog w A env g₃ m cm (call (.builtin id) (first ++ vs)) R))))
    (he : eval (.Call (.Attribute o name apos) (e :: rest) [] pos) env = (do
      let ov ← eval o env
      standAt apos.atName
      let (f, first) ← holding [ov] (getMethod ov name pl)
      callWith pos f first (backTo pos (starEach (e :: rest) env)) []) := by rfl)
    (hs : starEach (e :: rest) env = (false, eval e env) :: starEach rest env := by rfl) (hp : (backTo pos (starEach rest env)).any (·.1) = false := by rfl) :
    Do prog w A env g m cm (eval (.Call (.Attribute o name apos) (e :: rest) [] pos) env) R := fun s rd =>
  MethodCall_ (wpAny_mono (h s rd) (fun ov s₁ ⟨g₁, e₁, id, h₁⟩ => wpAny_mono (h₁ s₁ (rd.ext e₁)) (fun fx s₂ ⟨g₂, e₂, first, hfx, h₂⟩ => by
    subst hfx
    exact callWith_method1 (wpAny_mono (h₂ s₂ ((rd.ext e₁).ext e₂)) (fun vs s₃ ⟨g₃, e₃, h₃⟩ => wpAny_mono (h₃ s₃ (((rd.ext e₁).ext e₂).ext e₃)) (fun _ _ ⟨g₄, e₄, h₄⟩ => ⟨g₄, ((e₁.trans e₂).trans e₃).trans e₄, h₄⟩) fun _ _ x => x) fun _ _ x => x) hs hp) fun _ _ x => x) fun _ _ x => x) he
end

/-- the object is a list (no dict of its own) of these items -/
def LObj (o : Obj) (vs : List Value) : Prop := ∃ n, o = { cls := .type "list", data := .seq vs.toArray n }
def TObj (o : Obj) (vs : List Value) : Prop := o.cls = .type "tuple" ∧ ∃ n, o.data = .seq vs.toArray n
def Lst (g : GM) (a : Addr) (vs : List Value) : Prop := ∃ o, g a = some o ∧ o.cls = .type "list" ∧ ∃ n, o.data = .seq vs.toArray n
def Pl (g : GM) (a : Addr) (vs : List Value) : Prop := ∃ o, g a = some o ∧ LObj o vs
theorem Pl.sub {g g' : GM} {a : Addr} {vs : List Value} (x : Pl g a vs) (h : Sub g g') : Pl g' a vs := let ⟨o, e, r⟩ := x; ⟨o, h a o e, r⟩
theorem Pl.lst {g : GM} {a : Addr} {vs : List Value} (x : Pl g a vs) : Lst g a vs := let ⟨o, e, n, h⟩ := x; ⟨o, e, h ▸ rfl, n, h ▸ rfl⟩
theorem Pl.is {g : GM} {a : Addr} {vs : List Value} {h : Heap} (x : Pl g a vs) (k : Sub g h.get?) : h.PlainList a vs.toArray := let ⟨o, e, n, r⟩ := x; ⟨n, r ▸ k a o e⟩
theorem pl_upd {g : GM} {D : Addr} {o : Obj} {vs : List Value} (h : LObj o vs) : Pl (upd g D o) D vs := ⟨o, upd_self, h⟩
def Tpl (g : GM) (a : Addr) (vs : List Value) : Prop := ∃ o, g a = some o ∧ TObj o vs
theorem Lst.sub {g g' : GM} {a : Addr} {vs : List Value} (x : Lst g a vs) (h : Sub g g') : Lst g' a vs := let ⟨o, e, r⟩ := x; ⟨o, h a o e, r⟩
theorem Tpl.sub {g g' : GM} {a : Addr} {vs : List Value} (x : Tpl g a vs) (h : Sub g g') : Tpl g' a vs := let ⟨o, e, r⟩ := x; ⟨o, h a o e, r⟩
theorem Lst.is {g : GM} {a : Addr} {vs : List Value} {h : Heap} (x : Lst g a vs) (k : Sub g h.get?) : h.IsList a vs.toArray := let ⟨o, e, h1, h3⟩ := x; ⟨o, k a o e, h1, h3⟩
theorem Tpl.is {g : GM} {a : Addr} {vs : List Value} {h : Heap} (x : Tpl g a vs) (k : Sub g h.get?) : IsTup h a vs.toArray := let ⟨o, e, h1, h3⟩ := x; ⟨o, k a o e, h1, h3⟩

section
variable {prog : Program} {w : World} {A : Around} {env : Env} {g : GM} {m cm : Str → Option Value}
theorem do_newList {vs : List Value} {R : Value → GM → Prop} (hsz : vs.length ≤ sizeLine) (h : ∀ D o, g D = none → LObj o vs → R (.ref D) (upd g D o)) : Do prog w A env g m cm (newList vs) R := fun s rd => by
  refine wpAny_newObj_type ⟨upd g s.heap.objs.size _, Ext.one (tk := s.toks) rd.keep (fun b o e => Heap.get?_push_of_some _ e) ?_ (Heap.get?_push_size _ rfl), h _ _ ?_ ⟨_, rfl⟩⟩ (by show vs.toArray.size ≤ sizeLine; rw [List.size_toArray]; exact hsz)
  · cases e : s.heap.get? s.heap.objs.size with
    | none => rfl
    | some o' => exact absurd (Heap.lt_size e) (Nat.lt_irrefl _)
  · cases e : g s.heap.objs.size with
    | none => rfl
    | some o' => exact absurd (Heap.lt_size (rd.keep _ _ e)) (Nat.lt_irrefl _)
theorem do_newTuple {vs : List Value} {R : Value → GM → Prop} (hsz : vs.length ≤ sizeLine) (h : ∀ D o, g D = none → TObj o vs → R (.ref D) (upd g D o)) : Do prog w A env g m cm (newTuple vs) R := fun s rd => by
  refine wpAny_newObj_type ⟨upd g s.heap.objs.size _, Ext.one (tk := s.toks) rd.keep (fun b o e => Heap.get?_push_of_some _ e) ?_ (Heap.get?_push_size _ rfl), h _ _ ?_ ⟨rfl, _, rfl⟩⟩ (by show vs.toArray.size ≤ sizeLine; rw [List.size_toArray]; exact hsz)
  · cases e : s.heap.get? s.heap.objs.size with
    | none => rfl
    | some o' => exact absurd (Heap.lt_size e) (Nat.lt_irrefl _)
  · cases e : g s.heap.objs.size with
    | none => rfl
    | some o' => exact absurd (Heap.lt_size (rd.keep _ _ e)) (Nat.lt_irrefl _)
theorem ev_list {elts : List Expr} {pos : Pos} {R : Value → GM → Prop} (h : Do prog w A env g m cm (spliced (backTo pos (starEach elts env))) (fun vs g₁ => Do prog w A env g₁ m cm (newList vs) R)) :
    Do prog w A env g m cm (eval (.List elts pos) env) R := fun s rd =>
  List_ (wpAny_mono (h s rd) (fun _ s₁ ⟨_, e₁, h₁⟩ => wpAny_mono (h₁ s₁ (rd.ext e₁)) (fun _ _ ⟨g₂, e₂, h₂⟩ => ⟨g₂, e₁.trans e₂, h₂⟩) fun _ _ x => x) fun _ _ x => x)
theorem ev_tuple {elts : List Expr} {k : Nat} {pos : Pos} {R : Value → GM → Prop} (h : Do prog w A env g m cm (spliced (backTo pos (starEach elts env))) (fun vs g₁ => Do prog w A env g₁ m cm (newTuple vs) R)) :
    Do prog w A env g m cm (eval (.Tuple elts k pos) env) R := fun s rd =>
  Tuple_ (wpAny_mono (h s rd) (fun _ s₁ ⟨_, e₁, h₁⟩ => wpAny_mono (h₁ s₁ (rd.ext e₁)) (fun _ _ ⟨g₂, e₂, h₂⟩ => ⟨g₂, e₁.trans e₂, h₂⟩) fun _ _ x => x) fun _ _ x => x)
end
end Mine
end

section
open PySem PySem.Calls PyProof.Rows PySem.W
namespace Mine

abbrev Loc := Str → Option Value
def setL (m : Loc) (x : Str) (v : Value) : Loc := fun y => if y = x then some v else m y

structure Bd (s₀ : Shared) (env : Env) (g : GM) (m cm : Loc) (own : List (Addr × Obj)) (s : Shared) : Prop where
  same : ∃ h tk, s = { s₀ with heap := h, toks := tk }
  rd : Rd env g m cm s
  owns : ∀ p ∈ own, s.heap.get? p.1 = some p.2
  base : Sub s₀.heap.get? g
  off : ∀ b ∈ env.locals :: (env.cells.map (·.2) ++ own.map (·.1)), g b = none
  nodup : (env.locals :: (env.cells.map (·.2) ++ own.map (·.1))).Nodup

section
variable {s₀ s s' : Shared} {env : Env} {g g' : GM} {m cm : Loc} {own : List (Addr × Obj)}

theorem Heap.Ns.some {h : Heap} {a : Addr} {m : Loc} (x : h.Ns a m) : ∃ o, h.get? a = some o := let ⟨o, _, _, e, _⟩ := x; ⟨o, e⟩
theorem mem_lookup {cs : List (Str × Addr)} {c : Addr} (h : c ∈ cs.map (·.2)) (hn : (cs.map (·.2)).Nodup) : ∃ n, (n, c) ∈ cs := by
  obtain ⟨⟨n, c'⟩, h1, rfl⟩ := List.mem_map.mp h
  exact ⟨n, h1⟩

/-- what is private stands in the heap, where each cell's name finds it -/
structure Named (env : Env) : Prop where
  cells : ∀ c ∈ env.cells.map (·.2), ∃ n, env.cells.lookup n = some c

theorem Bd.live (nm : Named env) (x : Bd s₀ env g m cm own s) : ∀ b ∈ env.locals :: (env.cells.map (·.2) ++ own.map (·.1)), ∃ o, s.heap.get? b = some o := by
  intro b hb
  rcases List.mem_cons.mp hb with rfl | hb
  · exact Heap.Ns.some x.rd.ns
  · rcases List.mem_append.mp hb with hb | hb
    · obtain ⟨n, hn⟩ := nm.cells b hb
      obtain ⟨o, ho, _⟩ := x.rd.cell n b hn
      exact ⟨o, ho⟩
    · obtain ⟨p, hp, rfl⟩ := List.mem_map.mp hb
      exact ⟨_, x.owns p hp⟩

theorem Bd.ext (nm : Named env) (x : Bd s₀ env g m cm own s) (e : Ext s g s' g') : Bd s₀ env g' m cm own s' := by
  refine ⟨?_, x.rd.ext e, fun p hp => keeps_sub e.keeps _ _ (x.owns p hp), x.base.trans e.sub, fun b hb => ?_, x.nodup⟩
  · obtain ⟨h, tk, rfl⟩ := x.same
    obtain ⟨h', tk', rfl, _⟩ := e.keeps
    exact ⟨h', tk', rfl⟩
  · cases q : g' b with
    | none => rfl
    | some o =>
      rcases e.new b o q with h | h
      · rw [x.off b hb] at h; cases h
      · obtain ⟨o', ho'⟩ := x.live nm b hb
        rw [h] at ho'; cases ho'

theorem Bd.drop {p : Addr × Obj} (x : Bd s₀ env g m cm (p :: own) s) : Bd s₀ env g m cm own s := by
  have sub : (env.locals :: (env.cells.map (·.2) ++ own.map (·.1))).Sublist (env.locals :: (env.cells.map (·.2) ++ (p :: own).map (·.1))) :=
    .cons_cons _ (List.Sublist.append (List.Sublist.refl _) (by rw [List.map_cons]; exact .cons _ (List.Sublist.refl _)))
  exact ⟨x.same, x.rd, fun q hq => x.owns q (.tail _ hq), x.base, fun b hb => x.off b (sub.subset hb), x.nodup.sublist sub⟩

/-- a local or a cell is written -/
inductive Put (env : Env) (x : Str) (v : Value) (m cm : Loc) : Loc → Loc → Prop
  | loc : env.kindOf x = some .local → Put env x v m cm (setL m x v) cm
  | cell (c : Addr) : env.kindOf x = some .cell → env.cells.lookup x = some c → Put env x v m cm m (setL cm x v)

theorem nodup_locals {L : Addr} {cs own : List Addr} (h : (L :: (cs ++ own)).Nodup) : L ∉ cs ∧ L ∉ own :=
  ⟨fun hm => (List.nodup_cons.mp h).1 (List.mem_append_left _ hm), fun hm => (List.nodup_cons.mp h).1 (List.mem_append_right _ hm)⟩

theorem lookup_mem {cs : List (Str × Addr)} {n : Str} {c : Addr} (h : cs.lookup n = some c) : c ∈ cs.map (·.2) := List.mem_map.mpr ⟨(n, c), mem_of_lookup h, rfl⟩

theorem cells_apart : ∀ {cs : List (Str × Addr)} {n n' : Str} {c : Addr}, (cs.map (·.2)).Nodup → cs.lookup n = some c → cs.lookup n' = some c → n = n'
  | cs, n, n', c, hd, h, h' => by
    have hp : cs.Pairwise fun x y => x.2 ≠ y.2 := by
      have := hd
      rw [List.Nodup, List.pairwise_map] at this
      exact this
    exact name_of_addr hp (mem_of_lookup h) (mem_of_lookup h')

theorem Bd.store {prog : Program} {w : World} {A : Around} {E : Value → Shared → Prop} {x : Str} {v : Value} {m' cm' : Loc} {Q : Unit → Shared → Prop} (b : Bd s₀ env g m cm own s) (hk : env.scope.kind = .function)
    (p : Put env x v m cm m' cm') (h : ∀ s', Bd s₀ env g m' cm' own s' → (∀ a o, a ∉ env.locals :: env.cells.map (·.2) → s.heap.get? a = some o → s'.heap.get? a = some o) → Q () s') : wpAny (model prog w) A (storeName env x v) Q E s := by
  have nd := nodup_locals b.nodup
  have ndc : (env.cells.map (·.2)).Nodup := (List.nodup_append.mp (List.nodup_cons.mp b.nodup).2).1
  have ndo : ∀ a ∈ env.cells.map (·.2), ∀ a' ∈ own.map (·.1), a ≠ a' := (List.nodup_append.mp (List.nodup_cons.mp b.nodup).2).2.2
  have offg : ∀ a ∈ env.locals :: (env.cells.map (·.2) ++ own.map (·.1)), ∀ c o, g c = some o → c ≠ a := fun a ha c o e => by
    rintro rfl; rw [b.off c ha] at e; cases e
  cases p with
  | loc hl =>
    refine wpAny_storeName_local hl b.rd.ns (fun h' hn' hs' => h _ ⟨?_, ⟨hn', fun n c hc => (b.rd.cell n c hc).sameBut hs' fun e => nd.1 (e ▸ lookup_mem hc), fun a o e => hs'.extBut a o (offg _ List.mem_cons_self a o e) (b.rd.keep a o e)⟩,
      fun q hq => hs'.extBut _ _ (fun e => nd.2 (e ▸ List.mem_map.mpr ⟨q, hq, rfl⟩)) (b.owns q hq), b.base, b.off, b.nodup⟩ fun a o ha e => hs'.extBut a o (fun e' => ha (e' ▸ List.mem_cons_self)) e) (by rw [hk]; rfl)
    obtain ⟨h₁, tk, rfl⟩ := b.same
    exact ⟨h', _, rfl⟩
  | cell c hl hc =>
    have hcm := lookup_mem hc
    refine wpAny_storeName_cell hk hl hc (b.rd.cell x c hc) fun h' hc' hs' => h _ ⟨?_, ⟨b.rd.ns.sameBut hs' fun e => nd.1 (e ▸ hcm), fun n c' hc'' => ?_, fun a o e => hs'.extBut a o (offg _ (List.mem_cons_of_mem _ (List.mem_append_left _ hcm)) a o e) (b.rd.keep a o e)⟩,
      fun q hq => hs'.extBut _ _ (fun e => ndo c hcm q.1 (List.mem_map.mpr ⟨q, hq, rfl⟩) e.symm) (b.owns q hq), b.base, b.off, b.nodup⟩ fun a o ha e => hs'.extBut a o (fun e' => ha (e' ▸ List.mem_cons_of_mem _ hcm)) e
    · obtain ⟨h₁, tk, rfl⟩ := b.same
      exact ⟨h', _, rfl⟩
    · by_cases hn : n = x
      · subst hn
        rw [hc] at hc''; cases hc''
        simpa [setL] using hc'
      · simp only [setL, hn, if_false]
        exact (b.rd.cell n c' hc'').sameBut hs' fun e => hn (cells_apart ndc (e ▸ hc'') hc)
end

def Sx (prog : Program) (w : World) (A : Around) (s₀ : Shared) (env : Env) (g : GM) (m cm : Loc) (own : List (Addr × Obj)) (t : Sem Flow) (R : Flow → GM → Loc → Loc → Prop) : Prop :=
  ∀ s, Bd s₀ env g m cm own s → wpAny (model prog w) A t (fun f s' => ∃ g' m' cm', Bd s₀ env g' m' cm' own s' ∧ R f g' m' cm') (fun _ _ => False) s

section
variable {prog : Program} {w : World} {A : Around} {s₀ : Shared} {env : Env} {g : GM} {m cm : Loc} {own : List (Addr × Obj)}

theorem Sx.mono {t : Sem Flow} {R R' : Flow → GM → Loc → Loc → Prop} (h : Sx prog w A s₀ env g m cm own t R) (i : ∀ f g' m' cm', R f g' m' cm' → R' f g' m' cm') : Sx prog w A s₀ env g m cm own t R' :=
  fun s b => wpAny_mono (h s b) (fun f s' ⟨g', m', cm', b', r⟩ => ⟨g', m', cm', b', i _ _ _ _ r⟩) fun _ _ x => x

theorem sx_nil {R : Flow → GM → Loc → Loc → Prop} (h : R .next g m cm) : Sx prog w A s₀ env g m cm own (execs [] env) R := fun s b => wpAny_execs_nil ⟨g, m, cm, b, h⟩
theorem sx_cons {st : Stmt} {rest : List Stmt} {R : Flow → GM → Loc → Loc → Prop}
    (h : Sx prog w A s₀ env g m cm own (exec st env) (fun f g' m' cm' => match f with | .next => Sx prog w A s₀ env g' m' cm' own (execs rest env) R | f => R f g' m' cm')) : Sx prog w A s₀ env g m cm own (execs (st :: rest) env) R :=
  fun s b => wpAny_execs_cons (wpAny_mono (h s b) (fun f s' ⟨g', m', cm', b', r⟩ => by
    cases f with
    | next => exact r s' b'
    | brk => exact ⟨g', m', cm', b', r⟩
    | cont => exact ⟨g', m', cm', b', r⟩
    | ret v => exact ⟨g', m', cm', b', r⟩) fun _ _ x => x)
theorem sx_return {e : Expr} {pos : Pos} {R : Flow → GM → Loc → Loc → Prop} (nm : Named env) (h : Do prog w A env g m cm (eval e env) (fun v g' => R (.ret v) g' m cm)) : Sx prog w A s₀ env g m cm own (exec (.Return (some e) pos) env) R :=
  fun s b => wpAny_Return_some (wpAny_mono (h s b.rd) (fun v s' ⟨g', e', r⟩ => ⟨g', m, cm, b.ext nm e', r⟩) fun _ _ x => x)
theorem sx_if {test : Expr} {body orelse : List Stmt} {pos : Pos} {R : Flow → GM → Loc → Loc → Prop} (nm : Named env)
    (h : Do prog w A env g m cm (isTrue test env (eval test env)) (fun c g' => if c = true then Sx prog w A s₀ env g' m cm own (execs body env) R else Sx prog w A s₀ env g' m cm own (execs orelse env) R)) :
    Sx prog w A s₀ env g m cm own (exec (.If test body orelse pos) env) R :=
  fun s b => wpAny_If (wpAny_mono (h s b.rd) (fun c s' ⟨g', e', r⟩ => by
    cases c
    · exact (show Sx prog w A s₀ env g' m cm own (execs orelse env) R from r) s' (b.ext nm e')
    · exact (show Sx prog w A s₀ env g' m cm own (execs body env) R from r) s' (b.ext nm e')) fun _ _ x => x)
theorem sx_assign {x : Str} {px pos : Pos} {value : Expr} {R : Flow → GM → Loc → Loc → Prop} (nm : Named env) (hk : env.scope.kind = .function)
    (h : Do prog w A env g m cm (eval value env) (fun v g' => ∃ m' cm', Put env x v m cm m' cm' ∧ R .next g' m' cm'))
    (hs : swapsWith value (some (.Name x px)) pos.line env = pure false := by rfl) : Sx prog w A s₀ env g m cm own (exec (.Assign [.Name x px] value pos) env) R :=
  fun s b => wpAny_Assign_Name (wpAny_mono (h s b.rd) (fun v s' ⟨g', e', m', cm', p, r⟩ => (b.ext nm e').store hk p fun s'' b'' _ => ⟨g', m', cm', b'', r⟩) fun _ _ x => x) hs
theorem sx_expr {e : Expr} {pos : Pos} {R : Flow → GM → Loc → Loc → Prop} (nm : Named env) (h : Do prog w A env g m cm (eval e env) (fun v g' => (∀ a, v ≠ .ref a) ∧ R .next g' m cm))
    (hi : interactive env = false := by rfl) (hs : swapsWith e none pos.line env = pure false := by rfl) : Sx prog w A s₀ env g m cm own (exec (.Expr e pos) env) R :=
  fun s b => wpAny_Expr (wpAny_mono (h s b.rd) (fun v s' ⟨g', e', hv, r⟩ => by
    cases v <;> first | exact (hv _ rfl).elim | exact ⟨g', m, cm, b.ext nm e', r⟩) fun _ _ x => x) hi hs

/-- what can be walked: its iterator is a new object, the rest of what it leans on is known -/
def Src (prog : Program) (w : World) (A : Around) (g : GM) (xv : Value) (n : Nat) (P : Nat → Value → Prop) : Prop :=
  ∀ (s : Shared) (Q : Value → Shared → Prop) (E : Value → Shared → Prop), Sub g s.heap.get? →
    (∀ I fp St h' tk, Walks prog w A I fp [I] n P St → St 0 h' → (∀ b ∈ fp, b = I ∨ ∃ o, g b = some o) → s.heap.get? I = none → (∀ b o, s.heap.get? b = some o → h'.get? b = some o) →
      (∀ i h, St i h → ∃ o, h.get? I = some o) → Q (.ref I) { s with heap := h', toks := tk }) → wpAny (model prog w) A (pyIter xv) Q E s

theorem get_size_none (h : Heap) : h.get? h.objs.size = none := by
  cases e : h.get? h.objs.size with
  | none => rfl
  | some o' => exact absurd (Heap.lt_size e) (Nat.lt_irrefl _)

theorem src_list {a : Addr} {vs : List Value} (hh : A.handled = none) (x : Lst g a vs) : Src prog w A g (.ref a) vs.length (fun i v => vs[i]? = some v) := fun s Q E k hQ => by
  have hl := x.is k
  refine wpAny_pyIter_list hl ?_
  obtain ⟨o, ho, r⟩ := id hl
  obtain ⟨o', ho', _⟩ := x
  have hne : a ≠ s.heap.objs.size := Nat.ne_of_lt (Heap.lt_size ho)
  have W := Walks.list (prog := prog) (w := w) hh s.heap.objs.size a hne vs.toArray
  simp only [List.size_toArray, List.getElem?_toArray] at W
  refine hQ _ _ _ _ s.toks W ⟨⟨_, Heap.get?_push_size _ rfl, rfl, rfl⟩, ⟨o, Heap.get?_push_of_some _ ho, r⟩⟩ (fun b hb => ?_) (get_size_none _) (fun b o e => Heap.get?_push_of_some _ e) fun i h st => ?_
  · rcases List.mem_cons.mp hb with rfl | hb
    · exact .inl rfl
    · rcases List.mem_cons.mp hb with rfl | hb
      · exact .inr ⟨o', ho'⟩
      · cases hb
  · obtain ⟨⟨o'', h'', _⟩, _⟩ := st
    exact ⟨o'', h''⟩
theorem src_tuple {a : Addr} {vs : List Value} (hh : A.handled = none) (x : Tpl g a vs) : Src prog w A g (.ref a) vs.length (fun i v => vs[i]? = some v) := fun s Q E k hQ => by
  have hl : s.heap.IsTuple a vs.toArray := x.is k
  refine wpAny_pyIter_tuple hl ?_
  obtain ⟨o, ho, r⟩ := id hl
  obtain ⟨o', ho', _⟩ := x
  have hne : a ≠ s.heap.objs.size := Nat.ne_of_lt (Heap.lt_size ho)
  have W := Walks.tuple (prog := prog) (w := w) hh s.heap.objs.size a hne vs.toArray
  simp only [List.size_toArray, List.getElem?_toArray] at W
  refine hQ _ _ _ _ s.toks W ⟨⟨_, Heap.get?_push_size _ rfl, rfl, rfl⟩, ⟨o, Heap.get?_push_of_some _ ho, r⟩⟩ (fun b hb => ?_) (get_size_none _) (fun b o e => Heap.get?_push_of_some _ e) fun i h st => ?_
  · rcases List.mem_cons.mp hb with rfl | hb
    · exact .inl rfl
    · rcases List.mem_cons.mp hb with rfl | hb
      · exact .inr ⟨o', ho'⟩
      · cases hb
  · obtain ⟨⟨o'', h'', _⟩, _⟩ := st
    exact ⟨o'', h''⟩
theorem src_range {r : Addr} {a : Int} {t u v : Tok} {o : Obj} (n : Nat) (hh : A.handled = none) (ho : g r = some o) (hr : ∀ h : Heap, h.get? r = some o → IsRange h r a (a + n) 1 t u v) (hsmall : Builtin.Range.small a (a + n) 1 = true)
    (hn : Builtin.Range.rangeSize a (a + n) 1 = n) : Src prog w A g (.ref r) n (fun i v => ∃ t, v = .int (a + i) t) := fun s Q E k hQ => by
  refine wpAny_pyIter_range (hr _ (k r o ho)) hsmall ?_
  rw [hn]
  have W := Walks.range (prog := prog) (w := w) hh s.heap.objs.size a 1 n
  simp only [Int.mul_one] at W
  refine hQ _ _ _ _ s.toks W ?_ (fun b hb => .inl (by simpa using hb)) (get_size_none _) (fun b o e => Heap.get?_push_of_some _ e) fun i h st => ⟨_, st⟩
  have := Heap.get?_push_size s.heap (o := { cls := .type "range_iterator", data := .fields #[rawInt a, rawInt n, rawInt 1] }) rfl
  simpa [IsRangeIter] using this

theorem sx_for {x : Str} {px pos : Pos} {iter : Expr} {body : List Stmt} {R : Flow → GM → Loc → Loc → Prop} (nm : Named env) (hk : env.scope.kind = .function)
    (h : Do prog w A env g m cm (eval iter env) (fun xv g₁ => ∃ gs n P, Sub gs g₁ ∧ Src prog w A gs xv n P ∧ ∃ J : Nat → GM → Loc → Loc → Prop, J 0 g₁ m cm ∧
      (∀ i v g m cm own', i < n → P i v → Sub gs g → J i g m cm → ∃ m₁ cm₁, Put env x v m cm m₁ cm₁ ∧ Sx prog w A s₀ env g m₁ cm₁ own' (execs body env) (fun f g' m' cm' => Sub gs g' ∧ match f with
        | .next | .cont => J (i + 1) g' m' cm' | .brk => R .next g' m' cm' | .ret v => R (.ret v) g' m' cm')) ∧
      (∀ g m cm, Sub gs g → J n g m cm → R .next g m cm)))
    (hs : ∀ x, foldedSetIterable iter env x = pure x := by intro _; rfl) : Sx prog w A s₀ env g m cm own (exec (.For (.Name x px) iter body [] pos) env) R := fun s b => by
  refine wpAny_For (wpAny_mono (h s b.rd) (fun xv s₁ ⟨g₁, e₁, gs, n, P, hgs, src, J, hJ0, turn, last⟩ => ?_) fun _ _ x => x) hs
  have b₁ := b.ext nm e₁
  refine src s₁ _ _ (hgs.trans b₁.rd.keep) fun I fp St h' tk W st0 hfp hIn hkp live => ?_
  obtain ⟨oI, hoI⟩ := live 0 h' st0
  have e₂ : Ext s₁ g₁ { s₁ with heap := h', toks := tk } g₁ := Ext.heap b₁.rd.keep hkp
  have b₂ := b₁.ext nm e₂
  have gI : g₁ I = none := by
    cases q : g₁ I with
    | none => rfl
    | some o => have := b₁.rd.keep I o q; rw [hIn] at this; cases this
  have hInew : I ∉ env.locals :: (env.cells.map (·.2) ++ own.map (·.1)) := fun hm => by
    obtain ⟨o, ho⟩ := b₁.live nm I hm; rw [hIn] at ho; cases ho
  have nd : ∀ oI, (env.locals :: (env.cells.map (·.2) ++ ((I, oI) :: own).map (·.1))).Nodup := fun oI => by
    have hp : (env.locals :: (env.cells.map (·.2) ++ ((I, oI) :: own).map (·.1))).Perm (I :: env.locals :: (env.cells.map (·.2) ++ own.map (·.1))) := by
      refine List.Perm.trans (.cons _ ?_) (.swap _ _ _)
      rw [List.map_cons]
      exact List.perm_middle
    exact hp.nodup_iff.mpr (List.nodup_cons.mpr ⟨hInew, b₁.nodup⟩)
  -- the state between the turns
  let Inv : Nat → Shared → Prop := fun k s' => ∃ i oI g m cm, k = n + 1 - i ∧ i ≤ n ∧ Bd s₀ env g m cm ((I, oI) :: own) s' ∧ St i s'.heap ∧ Sub gs g ∧ J i g m cm
  refine codeAny_forLoop_any Inv (fun k s' => ?_) (n + 1) ?_
  · rintro ⟨i, oI, g, m, cm, rfl, hi, bd, st, hsub, hJ⟩
    by_cases hlt : i < n
    · refine W.item i s' _ _ hlt st fun v h₃ tk₃ hP st₃ hk₃ => ?_
      show wpAny _ _ (letOwnedTupleGo (.Name x px) (.ref I) v) _ _ _
      refine wpAny_of_eq (a := ()) rfl ?_
      obtain ⟨oI', hoI'⟩ := live (i + 1) h₃ st₃
      obtain ⟨m₁, cm₁, hput, hbody⟩ := turn i v g m cm ((I, oI') :: own) hlt hP hsub hJ
      have hI' : I ∈ env.locals :: (env.cells.map (·.2) ++ ((I, oI) :: own).map (·.1)) := List.mem_cons_of_mem _ (List.mem_append_right _ (by simp))
      have bd₃ : Bd s₀ env g m cm ((I, oI') :: own) { s' with heap := h₃, toks := tk₃ } := by
        have nL : env.locals ≠ I := fun e => hInew (e ▸ List.mem_cons_self)
        refine ⟨?_, ⟨bd.rd.ns.at' fun o e => hk₃ _ o (by simpa using nL) e, fun nn c hc => ?_, fun a o e => hk₃ a o (by simpa using (show a ≠ I by rintro rfl; rw [bd.off a hI'] at e; cases e)) (bd.rd.keep a o e)⟩, fun q hq => ?_, bd.base, bd.off, nd _⟩
        · obtain ⟨h₁, tk, rfl⟩ := bd.same
          exact ⟨h₃, _, rfl⟩
        · obtain ⟨o, ho, hd⟩ := bd.rd.cell nn c hc
          exact ⟨o, hk₃ c o (by simpa using (fun e => hInew (e ▸ List.mem_cons_of_mem _ (List.mem_append_left _ (lookup_mem hc))) : c ≠ I)) ho, hd⟩
        · rcases List.mem_cons.mp hq with rfl | hq
          · exact hoI'
          · exact hk₃ _ _ (by simpa using (fun e => hInew (e ▸ List.mem_cons_of_mem _ (List.mem_append_right _ (List.mem_map.mpr ⟨q, hq, rfl⟩))) : q.1 ≠ I)) (bd.owns q (.tail _ hq))
      refine wpAny_assign_Name (bd₃.store hk hput fun s₄ bd₄ hk₄ => ?_)
      refine wpAny_mono (hbody s₄ bd₄) (fun f s₅ ⟨g', m', cm', bd₅, hsub', hf⟩ => ?_) fun _ _ x => x.elim
      have st₄ : St (i + 1) s₄.heap := W.frame _ _ _ st₃ fun a ha o e => by
        refine hk₄ a o (fun hm => ?_) e
        rcases hfp a ha with rfl | ⟨o', ho'⟩
        · exact hInew (by
            rcases List.mem_cons.mp hm with e | hm
            · exact e ▸ List.mem_cons_self
            · exact List.mem_cons_of_mem _ (List.mem_append_left _ hm))
        · have := bd.off a (by
            rcases List.mem_cons.mp hm with e | hm
            · exact e ▸ List.mem_cons_self
            · exact List.mem_cons_of_mem _ (List.mem_append_left _ hm))
          rw [hsub a o' ho'] at this; cases this
      have st₅ : St (i + 1) s₅.heap := W.frame _ _ _ st₄ fun a ha o e => by
        rcases hfp a ha with rfl | ⟨o', ho'⟩
        · have h1 := bd₄.owns (a, oI') (by simp)
          have h2 := bd₅.owns (a, oI') (by simp)
          dsimp only at h1 h2
          rw [h1] at e; cases e; exact h2
        · have h1 := bd₄.rd.keep a o' (hsub a o' ho')
          have h2 := bd₅.rd.keep a o' (hsub' a o' ho')
          rw [h1] at e; cases e; exact h2
      cases f with
      | next => exact ⟨n + 1 - (i + 1), by omega, i + 1, _, _, _, _, rfl, hlt, bd₅, st₅, hsub', hf⟩
      | cont => exact ⟨n + 1 - (i + 1), by omega, i + 1, _, _, _, _, rfl, hlt, bd₅, st₅, hsub', hf⟩
      | brk => exact ⟨g', m', cm', bd₅.drop, hf⟩
      | ret v => exact ⟨g', m', cm', bd₅.drop, hf⟩
    · have hin : i = n := by omega
      subst hin
      refine W.done s' _ _ st fun h₃ tk₃ hk₃ => wpAny_execs_nil ?_
      have nL : env.locals ≠ I := fun e => hInew (e ▸ List.mem_cons_self)
      have hI' : I ∈ env.locals :: (env.cells.map (·.2) ++ ((I, oI) :: own).map (·.1)) := List.mem_cons_of_mem _ (List.mem_append_right _ (by simp))
      have bd' := bd.drop
      refine ⟨g, m, cm, ⟨?_, ⟨bd.rd.ns.at' fun o e => hk₃ _ o (by simpa using nL) e, fun nn c hc => ?_, fun a o e => hk₃ a o (by simpa using (show a ≠ I by rintro rfl; rw [bd.off a hI'] at e; cases e)) (bd.rd.keep a o e)⟩, fun q hq => ?_, bd.base, bd'.off, bd'.nodup⟩, last _ _ _ hsub hJ⟩
      · obtain ⟨h₁, tk, rfl⟩ := bd.same
        exact ⟨h₃, _, rfl⟩
      · obtain ⟨o, ho, hd⟩ := bd.rd.cell nn c hc
        exact ⟨o, hk₃ c o (by simpa using (fun e => hInew (e ▸ List.mem_cons_of_mem _ (List.mem_append_left _ (lookup_mem hc))) : c ≠ I)) ho, hd⟩
      · exact hk₃ _ _ (by simpa using (fun e => hInew (e ▸ List.mem_cons_of_mem _ (List.mem_append_right _ (List.mem_map.mpr ⟨q, hq, rfl⟩))) : q.1 ≠ I)) (bd'.owns q hq)
  · refine ⟨0, oI, g₁, m, cm, rfl, Nat.zero_le _, ⟨b₂.same, b₂.rd, fun q hq => ?_, b₂.base, fun a ha => ?_, nd _⟩, st0, hgs, hJ0⟩
    · rcases List.mem_cons.mp hq with rfl | hq
      · exact hoI
      · exact b₂.owns q hq
    · by_cases hb : a = I
      · rw [hb]; exact gI
      · refine b₂.off a ?_
        rcases List.mem_cons.mp ha with e | ha
        · exact e ▸ List.mem_cons_self
        · refine List.mem_cons_of_mem _ ?_
          rcases List.mem_append.mp ha with h | h
          · exact List.mem_append_left _ h
          · rw [List.map_cons] at h
            rcases List.mem_cons.mp h with h | h
            · exact absurd h hb
            · exact List.mem_append_right _ h
end
end Mine
end

section
open PySem PySem.Calls PyProof.Rows PySem.W
namespace Mine

section
variable {prog : Program} {w : World} {A : Around}

def CellsIn (cs : List (Str × Addr)) : List (Str × Addr) → Prop
  | [] => True
  | p :: r => cs.lookup p.1 = some p.2 ∧ CellsIn cs r
theorem CellsIn.sub {cs : List (Str × Addr)} : ∀ {cl : List (Str × Addr)}, CellsIn cs cl → ∀ n c, cl.lookup n = some c → cs.lookup n = some c
  | (k, v) :: r, ⟨h, hr⟩, n, c, e => by
    rw [List.lookup_cons] at e
    cases q : n == k with
    | true => rw [q] at e; cases e; rw [beq_iff_eq.mp q]; exact h
    | false => rw [q] at e; exact hr.sub n c e

abbrev testsOf (ifs : List Expr) (cenv : Env) : Sem Bool :=
  forIn ifs true fun c r => if r = true then do let ok ← isTrue c cenv (eval c cenv); pure (ForInStep.yield ok) else pure (ForInStep.yield r)

theorem none_of_new {s : Shared} {g g' : GM} {b : Addr} {o : Obj} (h : ∀ b o, g' b = some o → g b = some o ∨ s.heap.get? b = none) (hg : g b = none) (hs : s.heap.get? b = some o) : g' b = none := by
  cases e : g' b with
  | none => rfl
  | some o' => rcases h b o' e with h | h
               · rw [hg] at h; cases h
               · rw [hs] at h; cases h

theorem comp_loop {elt iter : Expr} {x : Str} {px : Pos} {ifs : List Expr} {scope : Scope} {pos : Pos} {I D : Addr} {fp : List Addr} {n : Nat} {P : Nat → Value → Prop} {St : Nat → Heap → Prop}
    {cenv : Env} {g gs : GM} {m cm : Loc} {R : Result → Shared → Prop} {s : Shared} (W : Walks prog w A I fp [I] n P St) (hsz : n ≤ sizeLine)
    (hx : cenv.kindOf x = some .local) (hp : (cenv.scope.kind == .class || (cenv.scope.kind == .module && cenv.locals != cenv.globals)) = false)
    (hDC : D ≠ cenv.locals) (hDI : D ≠ I) (hCI : cenv.locals ≠ I) (hcells : ∀ n c, cenv.cells.lookup n = some c → c ≠ cenv.locals ∧ c ≠ I ∧ c ≠ D)
    (hgs : Sub gs g) (hfp : ∀ b ∈ fp, b = I ∨ ∃ o, gs b = some o) (gC : g cenv.locals = none) (gI : g I = none) (gD : g D = none)
    (st : St 0 s.heap) (live : ∀ i h, St i h → ∃ o, h.get? I = some o) (hacc : s.heap.PlainList D #[]) (rd : Rd cenv g m cm s)
    (Iv : Nat → List Value → GM → Prop) (h0 : Iv 0 [] g)
    (turn : ∀ i v ys g' m', i < n → P i v → Sub g g' → m' x = some v → ys.length ≤ i → Iv i ys g' → Do prog w A cenv g' m' cm (testsOf ifs cenv) (fun ok g₁ =>
      if ok = true then Do prog w A cenv g₁ m' cm (eval elt cenv) (fun y g₂ => Iv (i + 1) (ys ++ [y]) g₂) else Iv (i + 1) ys g₁))
    (fin : ∀ h' tk m' (ys : List Value) g', h'.Ns cenv.locals m' → h'.PlainList D ys.toArray → ys.length ≤ n → Iv n ys g' → Sub g g' → Sub g' h'.get? → (∀ b o, g' b = some o → g b = some o ∨ s.heap.get? b = none) →
      (∀ b o, b ≠ cenv.locals → b ≠ I → b ≠ D → s.heap.get? b = some o → h'.get? b = some o) → R (.ok .next) { s with heap := h', toks := tk }) :
    codeAny (model prog w) A (.compLoop (.ListComp elt [⟨.Name x px, iter, ifs, 0⟩] scope pos) 0 (.ref I) (.ref D) cenv) R s := by
  obtain ⟨oC0, hoC0⟩ := Heap.Ns.some rd.ns
  obtain ⟨oI0, hoI0⟩ := live 0 _ st
  obtain ⟨nD0, hoD0⟩ := hacc
  refine codeAny_compLoop_tests (fun k s' => ∃ h' tk m' ys i g', s' = { s with heap := h', toks := tk } ∧ St i h' ∧ h'.PlainList D (ys : List Value).toArray ∧ h'.Ns cenv.locals m' ∧ ys.length ≤ i ∧ Iv i ys g' ∧ Sub g g' ∧ Sub g' h'.get? ∧
      (∀ b o, g' b = some o → g b = some o ∨ s.heap.get? b = none) ∧ i ≤ n ∧ k = n + 1 - i ∧ (∀ b o, b ≠ cenv.locals → b ≠ I → b ≠ D → s.heap.get? b = some o → h'.get? b = some o)) ?_ (n + 1)
    ⟨s.heap, s.toks, m, [], 0, g, rfl, st, ⟨nD0, hoD0⟩, rd.ns, Nat.le_refl _, h0, Sub.refl _, rd.keep, fun _ _ e => .inl e, Nat.zero_le _, rfl, fun _ _ _ _ _ e => e⟩
  rintro k s' ⟨H, tk, m', ys, i, g', rfl, st', hacc', hn', hlen, hI, hsub, hk', hnew, hi, rfl, hout⟩
  have g'C := none_of_new hnew gC hoC0
  have g'I := none_of_new hnew gI hoI0
  have g'D := none_of_new hnew gD hoD0
  have offg : ∀ {a : Addr}, g' a = none → ∀ b o, g' b = some o → b ≠ a := fun h b o e => by rintro rfl; rw [h] at e; cases e
  have fpoff : ∀ b ∈ fp, b ≠ I → b ≠ cenv.locals ∧ b ≠ D := fun b hb hbI => by
    rcases hfp b hb with e | ⟨o, ho⟩
    · exact absurd e hbI
    · exact ⟨offg g'C b o (hsub b o (hgs b o ho)), offg g'D b o (hsub b o (hgs b o ho))⟩
  by_cases hlt : i < n
  · refine W.item i _ _ _ hlt st' fun v h₁ tk₁ hPv st₁ hk₁ => ?_
    have hk₁' : ∀ b o, b ≠ I → H.get? b = some o → h₁.get? b = some o := fun b o hb e => hk₁ b o (by simpa using hb) e
    refine wpAny_assign_Name (wpAny_storeName_local hx (hn'.at' fun o e => hk₁' _ o hCI e) (fun h₂ hn₂ hs₂ => ?_) hp)
    have up₂ : ∀ b o, b ≠ cenv.locals → b ≠ I → H.get? b = some o → h₂.get? b = some o := fun b o hbC hbI e => hs₂.extBut b o hbC (hk₁' b o hbI e)
    have st₂ : St (i + 1) h₂ := W.frame _ _ _ st₁ fun b hb o e => hs₂.extBut b o (by
      by_cases hbI : b = I
      · rw [hbI]; exact hCI.symm
      · exact (fpoff b hb hbI).1) e
    have rd₂ : Rd cenv g' (fun y => if y = x then some v else m' y) cm { s with heap := h₂, toks := tk₁ + 1 } := by
      refine ⟨hn₂, fun nn c hc => ?_, fun b o e => up₂ b o (offg g'C b o e) (offg g'I b o e) (hk' b o e)⟩
      obtain ⟨c1, c2, c3⟩ := hcells nn c hc
      obtain ⟨o, ho, hd⟩ := rd.cell nn c hc
      exact ⟨o, up₂ c o c1 c2 (hout c o c1 c2 c3 ho), hd⟩
    have body := turn i v ys g' (fun y => if y = x then some v else m' y) hlt hPv hsub (by simp) hlen hI
    refine wpAny_mono (body _ rd₂) (fun ok s₃ ⟨g₃, e₃, hr⟩ => ?_) fun _ _ x => x.elim
    have hacc₂ : h₂.PlainList D ys.toArray := hacc'.at fun o e => up₂ D o hDC hDI e
    have st₃ : St (i + 1) s₃.heap := W.frame _ _ _ st₂ fun b _ o e => keeps_sub e₃.keeps b o e
    have step : ∀ {s₅ : Shared} {g₅ : GM} {ys' : List Value}, Ext { s with heap := h₂, toks := tk₁ + 1 } g' s₅ g₅ → ∀ h₆ : Heap, (∀ b o, b ≠ D → s₅.heap.get? b = some o → h₆.get? b = some o) → h₆.PlainList D ys'.toArray → ys'.length ≤ i + 1 → Iv (i + 1) ys' g₅ →
        ∃ mm, mm < n + 1 - i ∧ ∃ h' tk m' ys i g', ({ s₅ with heap := h₆ } : Shared) = { s with heap := h', toks := tk } ∧ St i h' ∧ h'.PlainList D (ys : List Value).toArray ∧ h'.Ns cenv.locals m' ∧ ys.length ≤ i ∧ Iv i ys g' ∧ Sub g g' ∧ Sub g' h'.get? ∧
          (∀ b o, g' b = some o → g b = some o ∨ s.heap.get? b = none) ∧ i ≤ n ∧ mm = n + 1 - i ∧ (∀ b o, b ≠ cenv.locals → b ≠ I → b ≠ D → s.heap.get? b = some o → h'.get? b = some o) := by
      intro s₅ g₅ ys' e₅ h₆ hk₆ hpl hl hIv
      obtain ⟨oC, hoC⟩ := Heap.Ns.some hn₂
      obtain ⟨oI, hoI⟩ := live _ _ st₂
      obtain ⟨nD, hoD⟩ := hacc₂
      have g₅D := none_of_new e₅.new g'D hoD
      obtain ⟨hh₅, tk₅, rfl, hkk⟩ := e₅.keeps
      have st₅ : St (i + 1) hh₅ := W.frame _ _ _ st₂ fun b _ o e => hkk b o e
      refine ⟨n + 1 - (i + 1), by omega, h₆, tk₅, _, ys', i + 1, g₅, rfl, ?_, hpl, (hn₂.keeps hkk).at' (fun o e => hk₆ _ o hDC.symm e), hl, hIv, hsub.trans e₅.sub, fun b o e => hk₆ b o (by rintro rfl; rw [g₅D] at e; cases e) (e₅.keep b o e), fun b o e => ?_, hlt, rfl,
        fun b o hbC hbI hbD e => hk₆ b o hbD (hkk b o (up₂ b o hbC hbI (hout b o hbC hbI hbD e)))⟩
      · refine W.frame _ _ _ st₅ fun b hb o e => hk₆ b o ?_ e
        by_cases hbI : b = I
        · rw [hbI]; exact hDI.symm
        · exact (fpoff b hb hbI).2
      · rcases e₅.new b o e with h | h
        · exact hnew b o h
        · right
          cases q : s.heap.get? b with
          | none => rfl
          | some o' =>
            exfalso
            by_cases hbC : b = cenv.locals
            · subst hbC; rw [show h₂.get? cenv.locals = some oC from hoC] at h; cases h
            · by_cases hbI : b = I
              · subst hbI; rw [show h₂.get? b = some oI from hoI] at h; cases h
              · by_cases hbD : b = D
                · subst hbD; rw [show h₂.get? b = _ from hoD] at h; cases h
                · rw [show h₂.get? b = some o' from up₂ b o' hbC hbI (hout b o' hbC hbI hbD q)] at h; cases h
    cases ok with
    | false =>
      simp only [Bool.false_eq_true, if_false] at hr ⊢
      exact step e₃ s₃.heap (fun b o _ e => e) (hacc₂.at fun o e => keeps_sub e₃.keeps _ o e) (Nat.le_succ_of_le hlen) hr
    | true =>
      simp only [if_true] at hr ⊢
      refine wpAny_mono (hr s₃ (rd₂.ext e₃)) (fun y s₄ ⟨g₄, e₄, hI₄⟩ => ?_) fun _ _ x => x.elim
      have hacc₄ : s₄.heap.PlainList D ys.toArray := (hacc₂.at fun o e => keeps_sub e₃.keeps _ o e).at fun o e => keeps_sub e₄.keeps _ o e
      refine wpAny_list_append_plain (hsz := by rw [List.size_toArray]; omega) hacc₄ fun h₅ hl₅ hs₅ => ?_
      exact step (ys' := ys ++ [y]) (e₃.trans e₄) h₅ (fun b o hb e => hs₅.extBut b o hb e) (by simpa using hl₅) (by rw [List.length_append, List.length_singleton]; omega) hI₄
  · have hin : i = n := by omega
    subst hin
    refine W.done _ _ _ st' fun h₁ tk₁ hk₁ => ?_
    have hk₁' : ∀ b o, b ≠ I → H.get? b = some o → h₁.get? b = some o := fun b o hb e => hk₁ b o (by simpa using hb) e
    exact fin h₁ tk₁ m' ys g' (hn'.at' fun o e => hk₁' _ o hCI e) (hacc'.at fun o e => hk₁' _ o hDI e) hlen hI hsub (fun b o e => hk₁' b o (offg g'I b o e) (hk' b o e)) hnew fun b o hbC hbI hbD e => hk₁' b o hbI (hout b o hbC hbI hbD e)

/-- what a comprehension asks: where it walks, and what each turn makes -/
def CompOk (prog : Program) (w : World) (A : Around) (env : Env) (cl : List (Str × Addr)) (scope : Scope) (x : Str) (ifs : List Expr) (elt : Expr) (cm : Loc) (xv : Value) (g₁ : GM) (K : Addr → Obj → List Value → GM → Prop) : Prop :=
  ∃ gs n P, Sub gs g₁ ∧ Src prog w A gs xv n P ∧ n ≤ sizeLine ∧ ∃ Iv : Nat → List Value → GM → Prop, Iv 0 [] g₁ ∧
    (∀ C i v ys g' m', i < n → P i v → Sub g₁ g' → m' x = some v → ys.length ≤ i → Iv i ys g' → Do prog w A (compEnvC scope cl C env) g' m' cm (testsOf ifs (compEnvC scope cl C env)) (fun ok g₂ =>
      if ok = true then Do prog w A (compEnvC scope cl C env) g₂ m' cm (eval elt (compEnvC scope cl C env)) (fun y g₃ => Iv (i + 1) (ys ++ [y]) g₃) else Iv (i + 1) ys g₂)) ∧
    (∀ D o ys g', Sub g₁ g' → g₁ D = none → g' D = none → LObj o ys → ys.length ≤ n → Iv n ys g' → K D o ys g')

theorem comp_block {env : Env} {elt iter : Expr} {x : Str} {px : Pos} {ifs : List Expr} {scope : Scope} {cl : List (Str × Addr)} {pos : Pos} {g₁ : GM} {m cm : Loc} {s₁ : Shared} {xv : Value} {K : Addr → Obj → List Value → GM → Prop}
    {RR : Value → Addr → Result → Shared → Prop} {E : Value → Shared → Prop}
    (hsub : ∀ n c, cl.lookup n = some c → env.cells.lookup n = some c) (hcell : ∀ y ∈ scope.names, y.2 ≠ .cell) (hkind : scope.kind = .function) (hx : scope.names.lookup x = some .local)
    (rd : Rd env g₁ m cm s₁) (ok : CompOk prog w A env cl scope x ifs elt cm xv g₁ K)
    (hRR : ∀ D C o ys g' h' tk m', s₁.heap.get? D = none → s₁.heap.get? C = none → D ≠ C → h'.Ns C m' → h'.get? D = some o → g' D = none → Ext s₁ g₁ { s₁ with heap := h', toks := tk } g' → g' C = none → K D o ys g' → LObj o ys → RR (.ref D) C (.ok .next) { s₁ with heap := h', toks := tk }) :
    wpAny (model prog w) A (pyIter xv) (fun it s₂ => wpAny (model prog w) A (newList []) (fun acc s₃ => wpAny (model prog w) A (newFunctionEnv scope env.globals cl [] env.qual none .none (some env)) (fun cenv s₄ =>
      codeAny (model prog w) A (.compStart (.ListComp elt [⟨.Name x px, iter, ifs, 0⟩] scope pos) 0 it acc { cenv with scope := relabel scope env }) (RR acc cenv.locals) s₄) E s₃) E s₂) E s₁ := by
  obtain ⟨gs, n, P, hgs, src, hsz, Iv, hI0, turn, last⟩ := ok
  refine src s₁ _ _ (hgs.trans rd.keep) fun I fp St h₀ tk₀ W st₀ hfp hIn hk₀ live => ?_
  obtain ⟨oI, hoI⟩ := live 0 _ st₀
  refine wpAny_newObj_type (wpAny_newFunctionEnv hcell (by intro y hy; simp at hy) (fun h₁ hns₁ hsb₁ => ?_) hkind)
  dsimp only at hns₁ hsb₁ ⊢
  generalize hH2 : h₀.push { cls := .type "list", dict := none, data := .seq ([] : List Value).toArray } = H2 at hns₁ hsb₁ ⊢
  have hC : H2.objs.size = h₀.objs.size + 1 := by rw [← hH2, Heap.size_push]
  have hDC : h₀.objs.size ≠ H2.objs.size := by rw [hC]; exact Nat.ne_of_lt (Nat.lt_succ_self _)
  have below : ∀ b, b < h₀.objs.size → b ≠ H2.objs.size ∧ b ≠ h₀.objs.size := fun b hb => ⟨by rw [hC]; exact Nat.ne_of_lt (Nat.lt_succ_of_lt hb), Nat.ne_of_lt hb⟩
  have old : ∀ b o, h₀.get? b = some o → h₁.get? b = some o := fun b o e => hsb₁.extBut b o (below b (Heap.lt_size e)).1 (Heap.get?_push_of_some _ (hH2 ▸ Heap.get?_push_of_some _ e))
  have hacc : h₁.PlainList h₀.objs.size #[] := ⟨_, hsb₁.extBut _ _ hDC (Heap.get?_push_of_some _ (hH2 ▸ Heap.get?_push_size _ rfl))⟩
  have hst₁ : St 0 h₁ := W.frame _ _ _ st₀ fun b _ o e => old b o e
  have fresh : ∀ a, h₀.objs.size ≤ a → s₁.heap.get? a = none := fun a ha => by
    cases e : s₁.heap.get? a with
    | none => rfl
    | some o' => exact absurd (Heap.lt_size (hk₀ a o' e)) (Nat.not_lt.mpr ha)
  have gfresh : ∀ a, s₁.heap.get? a = none → g₁ a = none := fun a ha => by
    cases e : g₁ a with
    | none => rfl
    | some o' => have := rd.keep a o' e; rw [ha] at this; cases this
  have hIlt := Heap.lt_size hoI
  have nIC : H2.objs.size ≠ I := fun e => (below I hIlt).1 e.symm
  have nID : h₀.objs.size ≠ I := fun e => (below I hIlt).2 e.symm
  have fD := fresh h₀.objs.size (Nat.le_refl _)
  have fC := fresh H2.objs.size (by rw [hC]; exact Nat.le_succ _)
  have loop : ∀ s₃ : Shared, s₃ = { s₁ with heap := h₁, toks := tk₀ + ([] : List (Str × Value)).length } →
      codeAny (model prog w) A (.compLoop (.ListComp elt [⟨.Name x px, iter, ifs, 0⟩] scope pos) 0 (.ref I) (.ref h₀.objs.size) (compEnvC scope cl H2.objs.size env))
        (RR (.ref h₀.objs.size) H2.objs.size) s₃ := by
    rintro s₃ rfl
    refine comp_loop (cenv := compEnvC scope cl H2.objs.size env) (g := g₁) (cm := cm) W hsz (lookup_relabel_local hx) (by simp [compEnvC, relabel, hkind]) hDC nID nIC (fun nn c hc => ?_) hgs hfp (gfresh _ fC) (gfresh _ hIn) (gfresh _ fD) hst₁ live hacc
      ⟨hns₁, fun nn c hc => ?_, fun b o e => old b o (hk₀ b o (rd.keep b o e))⟩ Iv hI0 (fun i v ys g' m' hi hP hs hm hl hI => turn _ i v ys g' m' hi hP hs hm hl hI) fun h' tk m' ys g' hn hpl hl hI hs hk hnew hout => ?_
    · obtain ⟨o, ho, _⟩ := rd.cell nn c (hsub nn c hc)
      have hlt := Heap.lt_size (hk₀ c o ho)
      exact ⟨(below c hlt).1, (by rintro rfl; rw [hIn] at ho; cases ho), (below c hlt).2⟩
    · obtain ⟨o, ho, hd⟩ := rd.cell nn c (hsub nn c hc)
      exact ⟨o, old c o (hk₀ c o ho), hd⟩
    · obtain ⟨nD, hoD⟩ := hpl
      have hold : ∀ b o, s₁.heap.get? b = some o → h'.get? b = some o := fun b o e => by
        have h1 := hk₀ b o e
        exact hout b o (below b (Heap.lt_size h1)).1 (by rintro rfl; rw [hIn] at e; cases e) (below b (Heap.lt_size h1)).2 (old b o h1)
      have hnew' : ∀ b o, g' b = some o → g₁ b = some o ∨ s₁.heap.get? b = none := fun b o e => by
        rcases hnew b o e with h | h
        · exact .inl h
        · right
          cases q : s₁.heap.get? b with
          | none => rfl
          | some o' => rw [show h₁.get? b = some o' from old b o' (hk₀ b o' q)] at h; cases h
      have g'D : g' h₀.objs.size = none := by
        cases e : g' h₀.objs.size with
        | none => rfl
        | some o' => rcases hnew _ o' e with h | h
                     · rw [gfresh _ fD] at h; cases h
                     · obtain ⟨_, e'⟩ := hacc; rw [show h₁.get? h₀.objs.size = _ from e'] at h; cases h
      have g'C : g' H2.objs.size = none := by
        cases e : g' H2.objs.size with
        | none => rfl
        | some o' => rcases hnew _ o' e with h | h
                     · rw [gfresh _ fC] at h; cases h
                     · obtain ⟨o, e'⟩ := Heap.Ns.some hns₁; rw [show h₁.get? H2.objs.size = _ from e'] at h; cases h
      exact hRR _ _ _ ys g' h' tk m' fD fC hDC hn hoD g'D ⟨⟨h', tk, rfl, hold⟩, hs, hk, hnew'⟩ g'C (last _ _ ys g' hs (gfresh _ fD) g'D ⟨nD, rfl⟩ hl hI) ⟨nD, rfl⟩
  exact codeAny_compStart_list (loop _ rfl) (W.self 0 _ _ _ hst₁ (loop _ rfl))

theorem ext_upd {s s' : Shared} {g g' : GM} {D : Addr} {o : Obj} (e : Ext s g s' g') (hs : s.heap.get? D = none) (hD : s'.heap.get? D = some o) (hg : g' D = none) : Ext s g s' (upd g' D o) := by
  refine ⟨e.keeps, e.sub.trans (upd_sub hg), fun b o' h => ?_, fun b o' h => ?_⟩
  · by_cases hb : b = D
    · subst hb; rw [upd_self] at h; cases h; exact hD
    · rw [upd_ne hb] at h; exact e.keep b o' h
  · by_cases hb : b = D
    · subst hb; exact .inr hs
    · rw [upd_ne hb] at h; exact e.new b o' h

theorem ev_comp {env : Env} {g : GM} {m cm : Loc} {elt iter : Expr} {x : Str} {px : Pos} {ifs : List Expr} {scope : Scope} {cl : List (Str × Addr)} {pos : Pos} {R : Value → GM → Prop}
    (hclos : closureFor scope env = pure cl) (hci : CellsIn env.cells cl) (hcell : ∀ y ∈ scope.names, y.2 ≠ .cell) (hkind : scope.kind = .function)
    (hnames : ∀ y ∈ scope.names, y.2 = .local → scope.names.lookup y.1 = some .local) (hx : scope.names.lookup x = some .local)
    (h : Do prog w A env g m cm (eval iter env) (fun xv g₁ => CompOk prog w A env cl scope x ifs elt cm xv g₁ (fun D o ys g' => R (.ref D) (upd g' D o))))
    (hs : ∀ x, foldedSetIterable iter env x = pure x := by intro _; rfl) : Do prog w A env g m cm (eval (.ListComp elt [⟨.Name x px, iter, ifs, 0⟩] scope pos) env) R := fun s rd => by
  rw [eval_ListComp]
  refine wpAny_comprehension_free (use := none) rfl hs hclos hkind hnames (wpAny_mono (h s rd) (fun xv s₁ ⟨g₁, e₁, ok⟩ => ?_) fun _ _ e => e)
  refine comp_block (RR := fun acc C => compPost (model prog w) A _ none _ acc C) hci.sub hcell hkind hx (rd.ext e₁) ok fun D C o ys g' h' tk m' hD hCn hDC hn hDo g'D e g'C hK hL => ?_
  refine ⟨m', hn, fun h'' hs'' => ⟨upd g' D o, e₁.trans ?_, hK⟩⟩
  have e' : Ext s₁ g₁ { s₁ with heap := h'', toks := tk } g' := by
    obtain ⟨⟨hh, tt, he, hk⟩, h1, h2, h3⟩ := e
    cases he
    exact ⟨⟨h'', tk, rfl, fun b o e => hs''.extBut b o (by rintro rfl; rw [hCn] at e; cases e) (hk b o e)⟩, h1, fun b o e => hs''.extBut b o (by rintro rfl; rw [g'C] at e; cases e) (h2 b o e), h3⟩
  exact ext_upd e' hD (hs''.extBut D o hDC hDo) g'D

theorem sx_assign_comp {s₀ : Shared} {env : Env} {g : GM} {m cm : Loc} {own : List (Addr × Obj)} {elt iter : Expr} {x y : Str} {px py spos : Pos} {ifs : List Expr} {scope : Scope} {cl : List (Str × Addr)} {pos : Pos} {R : Flow → GM → Loc → Loc → Prop}
    (nm : Named env) (hk : env.scope.kind = .function) (hy : env.kindOf y = some .local) (hclos : closureFor scope env = pure cl) (hci : CellsIn env.cells cl) (hcell : ∀ y ∈ scope.names, y.2 ≠ .cell) (hkind : scope.kind = .function)
    (hnames : ∀ y ∈ scope.names, y.2 = .local → scope.names.lookup y.1 = some .local) (hx : scope.names.lookup x = some .local)
    (h : Do prog w A env g m cm (eval iter env) (fun xv g₁ => CompOk prog w A env cl scope x ifs elt cm xv g₁ (fun D o ys g' => R .next (upd g' D o) (setL m y (.ref D)) cm)))
    (hsw : swapsWith (.ListComp elt [⟨.Name x px, iter, ifs, 0⟩] scope pos) (some (.Name y py)) spos.line env = pure true := by rfl)
    (hs : ∀ x, foldedSetIterable iter env x = pure x := by intro _; rfl) : Sx prog w A s₀ env g m cm own (exec (.Assign [.Name y py] (.ListComp elt [⟨.Name x px, iter, ifs, 0⟩] scope pos) spos) env) R := fun s b => by
  rw [exec_Assign_Name_used _ _ _ _ hsw]
  refine wpAny_bind (wpAny_standAt (wpAny_bind ?_))
  show wpAny _ A (do let _ ← comprehension (.ListComp elt [⟨.Name x px, iter, ifs, 0⟩] scope pos) scope env _ (newList []) false (eval iter env) (some (assign (.Name y py) env))) _ _ s
  refine wpAny_bind (wpAny_mono (wpAny_comprehension_free (use := some (assign (.Name y py) env)) (Q := fun _ s' => ∃ g' m' cm', Bd s₀ env g' m' cm' own s' ∧ R .next g' m' cm') rfl hs hclos hkind hnames
    (wpAny_mono (h s b.rd) (fun xv s₁ ⟨g₁, e₁, ok⟩ => ?_) fun _ _ e => e)) (fun _ s' hq => wpAny_pure (wpAny_pure hq)) fun _ _ e => e)
  refine comp_block (RR := fun acc C => compPost (model prog w) A _ (some _) _ acc C) hci.sub hcell hkind hx (b.rd.ext e₁) ok fun D C o ys g' h' tk m' hD hCn hDC hn hDo g'D e g'C hK hL => ?_
  have e₂ : Ext s₁ g₁ { s₁ with heap := h', toks := tk } (upd g' D o) := ext_upd e hD hDo g'D
  have b₂ := (b.ext nm e₁).ext nm e₂
  have cnew : C ∉ env.locals :: (env.cells.map (·.2) ++ own.map (·.1)) := fun hm => by
    obtain ⟨o, ho⟩ := (b.ext nm e₁).live nm C hm; rw [hCn] at ho; cases ho
  refine wpAny_assign_Name (b₂.store hk (.loc hy) fun s₃ b₃ hk₃ => ?_)
  refine ⟨m', hn.at' fun o e => hk₃ C o (fun hm => cnew (by
    rcases List.mem_cons.mp hm with e | hm
    · exact e ▸ List.mem_cons_self
    · exact List.mem_cons_of_mem _ (List.mem_append_left _ hm))) e, fun h'' hs'' => ⟨_, _, _, ?_, hK⟩⟩
  have up : ∀ b o, b ≠ C → s₃.heap.get? b = some o → h''.get? b = some o := fun b o hb e => hs''.extBut b o hb e
  refine ⟨?_, ⟨b₃.rd.ns.at' fun o e => up _ o (fun e => cnew (e ▸ List.mem_cons_self)) e, fun nn c hc => ?_, fun b o e => up b o ?_ (b₃.rd.keep b o e)⟩, fun q hq => up _ _ (fun e => cnew (e ▸ List.mem_cons_of_mem _ (List.mem_append_right _ (List.mem_map.mpr ⟨q, hq, rfl⟩)))) (b₃.owns q hq), b₃.base, b₃.off, b₃.nodup⟩
  · obtain ⟨h₁, tk, rfl⟩ := b₃.same
    exact ⟨h'', _, rfl⟩
  · obtain ⟨o, ho, hd⟩ := b₃.rd.cell nn c hc
    exact ⟨o, up c o (fun e => cnew (e ▸ List.mem_cons_of_mem _ (List.mem_append_left _ (lookup_mem hc)))) ho, hd⟩
  · rintro rfl
    rw [upd_ne hDC.symm, g'C] at e; cases e
end
end Mine
end

section
open PySem PySem.Calls PyProof.Rows PySem.W
namespace Mine

section
variable {prog : Program} {w : World} {A : Around} {env : Env} {g : GM} {m cm : Loc}

theorem cellsFrom_snd : ∀ (names : List (Str × NameKind)) (n : Nat) (acc : List (Str × Addr)), (cellsFrom n names acc).map (·.1) = (names.filter (·.2 == .cell)).reverse.map (·.1) ++ acc.map (·.1)
  | [], n, acc => by simp [cellsFrom]
  | (x, k) :: r, n, acc => by
    unfold cellsFrom
    by_cases hk : (k == .cell) = true
    · rw [if_pos hk, cellsFrom_snd r]; simp [List.filter_cons, hk]
    · rw [if_neg hk, cellsFrom_snd r]; simp [List.filter_cons, hk]

theorem lookup_of_nodup : ∀ {cs : List (Str × Addr)}, (cs.map (·.1)).Nodup → ∀ {n : Str} {c : Addr}, (n, c) ∈ cs → cs.lookup n = some c
  | (k, v) :: r, hd, n, c, hm => by
    rw [List.map_cons, List.nodup_cons] at hd
    rw [List.lookup_cons]
    rcases List.mem_cons.mp hm with e | hm
    · cases e; simp
    · have hne : (n == k) = false := by
        rw [beq_eq_false_iff_ne]
        intro e
        exact hd.1 (e ▸ List.mem_map.mpr ⟨(n, c), hm, rfl⟩)
      rw [hne]
      exact lookup_of_nodup hd.2 hm

theorem named_of {cs : List (Str × Addr)} {env : Env} (he : env.cells = cs) (h : (cs.map (·.1)).Nodup) : Named env := ⟨fun c hc => by
  subst he
  obtain ⟨⟨n, c'⟩, hm, rfl⟩ := List.mem_map.mp hc
  exact ⟨n, lookup_of_nodup h hm⟩⟩

/-- room for d frames and u C units below -/
structure Rm (A : Around) (d u : Nat) : Prop where
  h : A.handled = none
  d : A.depth + d < recursionLimit
  u : A.units + u < cLine
theorem Rm.less {d u d' u' : Nat} (x : Rm A d u) (h1 : d' ≤ d) (h2 : u' ≤ u) : Rm A d' u' := ⟨x.h, by have := x.d; omega, by have := x.u; omega⟩
theorem Rm.deeper {d u : Nat} {env : Env} (x : Rm A (d + 1) (u + 3)) : Rm (A.deeper env) d u := ⟨x.h, by have := x.d; show A.depth + 1 + d < _; omega, by have := x.u; show A.units + 3 + u < _; omega⟩
theorem Rm.in1 {d u : Nat} (x : Rm A d (u + 1)) : Rm A.in1 d u := ⟨x.h, x.d, by have := x.u; show A.units + 1 + u < _; omega⟩

theorem do_call_fn {a : Addr} {o : Obj} {fd : FuncData} {body : List Stmt} {vals : List Value} {binds : List (Str × Value)} {R : Value → GM → Prop} {d u : Nat} (rm : Rm A (d + 1) (u + 3))
    (ho : g a = some o) (hdata : o.data = .func fd) (hlim : ∀ h : Heap, Sub g h.get? → h.NoLimit) (hcd : ∀ h : Heap, Sub g h.get? → h.CodeRec fd.code fd.qualname)
    (hbody : fd.body = .stmts body) (hbind : bindArgs fd ⟨vals, []⟩ = pure binds) (hclo : fd.closure = [])
    (hkind : (binds.all fun y => fd.scope.names.lookup y.1 == some .local || fd.scope.names.lookup y.1 == some .cell) = true)
    (hnd : ((fd.scope.names.filter (·.2 == .cell)).map (·.1)).Nodup)
    (h : ∀ (s : Shared) (L : Nat) (gs : GM), gs = s.heap.get? → Sub g gs → L = s.heap.objs.size → Named (callEnvC fd L a) → Rm (A.deeper (callEnvC fd L a)) d u →
      Sx prog w (A.deeper (callEnvC fd L a)) s (callEnvC fd L a) gs (bindL (callEnvC fd L a).kindOf binds fun _ => none) (bindC (callEnvC fd L a).kindOf binds fun _ => none) [] (execs body (callEnvC fd L a))
        (fun f g' _ _ => ∃ v, f = .ret v ∧ ∀ g'', Sub g g'' → (∀ b, gs b = none → g'' b = g' b) → R v g''))
    (hco : fd.scope.isCoroutine = false := by rfl) (hgen : fd.scope.isGenerator = false := by rfl) (hk : fd.scope.kind = .function := by rfl) :
    Do prog w A env g m cm (call (.ref a) vals) R := fun s rd => by
  have hnd' : ((cellsFrom (s.heap.objs.size + 1) fd.scope.names []).map (·.1)).Nodup := by
    rw [cellsFrom_snd]; simp only [List.map_nil, List.append_nil, List.map_reverse]
    exact (List.reverse_perm _).nodup_iff.mpr hnd
  refine wpAny_call (codeAny_call_cells (by have := rm.d; omega) (rd.keep a o ho) hdata (hlim _ rd.keep) (hcd _ rd.keep) hbody hbind hclo (kindsX hkind _) (fun s₁ x => ?_) hco hgen hk)
  have nm : Named (callEnvC fd s.heap.objs.size a) := named_of rfl hnd'
  have bd : Bd s (callEnvC fd s.heap.objs.size a) s.heap.get? (bindL (callEnvC fd s.heap.objs.size a).kindOf binds fun _ => none) (bindC (callEnvC fd s.heap.objs.size a).kindOf binds fun _ => none) [] s₁ := by
    have above : ∀ c ∈ (callEnvC fd s.heap.objs.size a).cells.map (·.2), s.heap.objs.size < c := fun c hc => by
      obtain ⟨⟨n, c'⟩, hm, rfl⟩ := List.mem_map.mp hc
      exact x.above n c' hm
    refine ⟨x.toInCall.same, ⟨x.toInCall.ns, x.cell, x.toInCall.keep⟩, fun p hp => (by cases hp), Sub.refl _, fun b hb => ?_, ?_⟩
    · have hge : s.heap.objs.size ≤ b := by
        rcases List.mem_cons.mp hb with e | hb
        · exact e ▸ Nat.le_refl _
        · simp only [List.map_nil, List.append_nil] at hb
          exact Nat.le_of_lt (above b hb)
      cases e : s.heap.get? b with
      | none => rfl
      | some o' => exact absurd (Heap.lt_size e) (Nat.not_lt.mpr hge)
    · simp only [List.map_nil, List.append_nil]
      refine List.nodup_cons.mpr ⟨fun hm => Nat.lt_irrefl _ (above _ hm), ?_⟩
      rw [List.Nodup, List.pairwise_map]
      exact x.apart
  have run := h s s.heap.objs.size s.heap.get? rfl rd.keep rfl nm rm.deeper s₁ bd
  refine wpAny_mono run (fun f s₂ ⟨g', m', cm', b₂, v, hf, hr⟩ => ?_) fun _ _ x => x.elim
  subst hf
  have hkp : Keeps s s₂ := by
    obtain ⟨h₂, tk, rfl⟩ := b₂.same
    exact ⟨h₂, tk, rfl, fun b o e => b₂.rd.keep b o (b₂.base b o e)⟩
  let g'' : GM := fun b => if s.heap.get? b = none then g' b else g b
  have hold : ∀ b o, s.heap.get? b = some o → g'' b = g b := fun b o e => by simp [g'', e]
  have hnew : ∀ b, s.heap.get? b = none → g'' b = g' b := fun b e => by simp [g'', e]
  refine ⟨g'', ⟨hkp, fun b o e => by rw [hold b o (rd.keep b o e)]; exact e, fun b o e => ?_, fun b o e => ?_⟩, hr g'' (fun b o e => by rw [hold b o (rd.keep b o e)]; exact e) hnew⟩
  · cases q : s.heap.get? b with
    | none => rw [hnew b q] at e; exact b₂.rd.keep b o e
    | some o' => rw [hold b o' q] at e; exact keeps_sub hkp b o (rd.keep b o e)
  · cases q : s.heap.get? b with
    | none => exact .inr rfl
    | some o' => rw [hold b o' q] at e; exact .inl e

theorem getMethod_append {D : Addr} {vs : List Value} {pl : Sem Bool} {R : Value × List Value → GM → Prop} (hL : Pl g D vs) (h : R (.builtin "list.append", [.ref D]) g) : Do prog w A env g m cm (getMethod (.ref D) "append" pl) R := fun s rd => by
  obtain ⟨o, ho, n, rfl⟩ := hL
  exact getMethod_list_append (rd.keep D _ ho) rfl rfl ⟨g, Ext.refl rd.keep, h⟩

theorem Bd.mut {s₀ s : Shared} {own : List (Addr × Obj)} {D : Addr} {o₁ o₂ : Obj} {h' : Heap} (b : Bd s₀ env g m cm own s) (hg : g D = some o₁) (h0 : s₀.heap.get? D = none) (hD : h'.get? D = some o₂) (hs : Heap.SameBut D s.heap h') :
    Bd s₀ env (upd g D o₂) m cm own { s with heap := h' } := by
  have off : ∀ a ∈ env.locals :: (env.cells.map (·.2) ++ own.map (·.1)), a ≠ D := fun a ha => by rintro rfl; rw [b.off a ha] at hg; cases hg
  refine ⟨?_, ⟨b.rd.ns.sameBut hs (off _ List.mem_cons_self), fun n c hc => (b.rd.cell n c hc).sameBut hs (off c (List.mem_cons_of_mem _ (List.mem_append_left _ (lookup_mem hc)))), fun a o e => ?_⟩,
    fun q hq => hs.extBut _ _ (off q.1 (List.mem_cons_of_mem _ (List.mem_append_right _ (List.mem_map.mpr ⟨q, hq, rfl⟩)))) (b.owns q hq), fun a o e => ?_, fun a ha => ?_, b.nodup⟩
  · obtain ⟨h₁, tk, rfl⟩ := b.same
    exact ⟨h', _, rfl⟩
  · by_cases ha : a = D
    · subst ha; rw [upd_self] at e; cases e; exact hD
    · rw [upd_ne ha] at e; exact hs.extBut a o ha (b.rd.keep a o e)
  · rw [upd_ne (by rintro rfl; rw [h0] at e; cases e)]; exact b.base a o e
  · rw [upd_ne (off a ha)]; exact b.off a ha

theorem sx_append {s₀ : Shared} {own : List (Addr × Obj)} {x : Str} {px apos cpos pos : Pos} {e : Expr} {D : Addr} {vs : List Value} {R : Flow → GM → Loc → Loc → Prop} (nm : Named env)
    (hx : Do prog w A env g m cm (eval (.Name x px) env) (fun v _ => v = .ref D)) (hL : Pl g D vs) (h0 : s₀.heap.get? D = none) (hlen : vs.length ≤ sizeLine)
    (h : ∀ g₁, Sub g g₁ → Do prog w A env g₁ m cm (eval e env) (fun v g' => ∀ o, LObj o (vs ++ [v]) → R .next (upd g' D o) m cm))
    (hi : interactive env = false := by rfl) (hs : swapsWith (.Call (.Attribute (.Name x px) "append" apos) [e] [] cpos) none pos.line env = pure false := by rfl)
    (he : eval (.Call (.Attribute (.Name x px) "append" apos) [e] [] cpos) env = (do
      let ov ← eval (.Name x px) env
      standAt apos.atName
      let (f, first) ← holding [ov] (getMethod ov "append" (pure false))
      callWith cpos f first (backTo cpos (starEach [e] env)) []) := by rfl)
    (hse : starEach [e] env = (false, eval e env) :: starEach [] env := by rfl) :
    Sx prog w A s₀ env g m cm own (exec (.Expr (.Call (.Attribute (.Name x px) "append" apos) [e] [] cpos) pos) env) R := fun s b => by
  refine wpAny_Expr ?_ hi hs
  refine MethodCall_ (pl := pure false) ?_ he
  refine wpAny_mono (hx s b.rd) (fun ov s₁ ⟨g₁, e₁, hv⟩ => ?_) fun _ _ x => x
  subst hv
  have b₁ := b.ext nm e₁
  refine wpAny_mono (getMethod_append (hL.sub e₁.sub) (R := fun r g' => r = (.builtin "list.append", [.ref D])) rfl s₁ b₁.rd) (fun fx s₂ ⟨g₂, e₂, hfx⟩ => ?_) fun _ _ x => x
  subst hfx
  have b₂ := b₁.ext nm e₂
  refine callWith_method1 (args_cons (wpAny_mono (h g₂ (e₁.sub.trans e₂.sub) s₂ b₂.rd) (fun v s₃ ⟨g₃, e₃, hr⟩ => args_nil ?_) fun _ _ x => x) hse) hse
  have b₃ := b₂.ext nm e₃
  have hL₃ : Pl g₃ D vs := hL.sub ((e₁.sub.trans e₂.sub).trans e₃.sub)
  obtain ⟨o₃, ho₃, _⟩ := id hL₃
  show wpAny _ _ (call (.builtin "list.append") [.ref D, v]) _ _ s₃
  refine wpAny_list_append_plain (hsz := by rw [List.size_toArray]; exact hlen) (hL₃.is b₃.rd.keep) fun h' hl' hs' => ?_
  obtain ⟨n, hn⟩ := hl'
  exact ⟨_, _, _, b₃.mut ho₃ h0 hn hs', hr _ ⟨n, by simp⟩⟩
end
end Mine
end

section
open PySem PySem.Calls PyProof.Rows PySem.W
namespace Mine

noncomputable abbrev KK (w : World) : Frag := Mine.hd.heap_39 w.params
noncomputable def mgEs (w : World) : Array DictEntry := match (KK w).lookup 3 with | some ⟨_, _, .dict es _, _⟩ => es | _ => #[]
noncomputable def mgK (w : World) : Loc := fun x => nsFind (mgEs w) x

structure Gl (w : World) (mb : Loc) (g : GM) : Prop where
  K : ∀ a o, (KK w).lookup a = some o → g a = some o
  b : ∀ h : Heap, Sub g h.get? → h.Ns builtinsNs mb
  hb : ∀ x : Str, x ≠ "__name__" → mb x = bootBuiltins x
  lim : ∀ h : Heap, Sub g h.get? → h.NoLimit

theorem Gl.sub {w : World} {mb : Loc} {g g' : GM} (x : Gl w mb g) (h : Sub g g') : Gl w mb g' :=
  ⟨fun a o e => h a o (x.K a o e), fun hh k => x.b hh (h.trans k), x.hb, fun hh k => x.lim hh (h.trans k)⟩
theorem Gl.in {w : World} {mb : Loc} {g : GM} (x : Gl w mb g) {h : Heap} (k : Sub g h.get?) : (KK w).In h := fun a o e => k a o (x.K a o e)

theorem mg_keys (w : World) : StrKeys (mgEs w) := by
  intro e he
  have : (mgEs w).toList.all (fun e => match e.key with | .str _ _ => true | _ => false) = true := by rfl
  rw [List.all_eq_true] at this
  have := this e (Array.mem_toList_iff.mpr he)
  split at this
  · rename_i x t h; exact ⟨x, t, h⟩
  · cases this

theorem Gl.g {w : World} {mb : Loc} {g : GM} (x : Gl w mb g) : ∀ h : Heap, Sub g h.get? → h.Ns mainGlobals (mgK w) := fun h k =>
  ⟨_, mgEs w, _, k 3 _ (x.K 3 _ rfl), rfl, mg_keys w, fun _ => rfl⟩
theorem Gl.code {w : World} {mb : Loc} {g : GM} (x : Gl w mb g) {cd : Value} {q : Str} (e : codeIn (KK w) cd q = true) : ∀ h : Heap, Sub g h.get? → h.CodeRec cd q := fun h k => codeRec_of (x.in k) e

section
variable (w : World)
theorem mg_strcoll : mgK w "_strcoll" = some (.ref 57) := rfl
theorem mg_strxfrm : mgK w "_strxfrm" = some (.ref 64) := rfl
theorem mg_comment : mgK w "_comment_line" = some (.ref 50) := rfl
theorem mg_words : mgK w "_law_words" = some (.ref 69) := rfl
theorem mg_answer : mgK w "_law_answer" = some (.ref 76) := rfl
theorem mg_both : mgK w "_law_both" = some (.ref 81) := rfl
theorem mg_top : mgK w "_law_top" = some (.ref 88) := rfl
theorem mg_line : mgK w "_law_line" = some (.ref 95) := rfl
theorem mg_page : mgK w "_law_page" = some (.ref 100) := rfl
theorem mg_due : mgK w "_law_due" = some (.ref 105) := rfl
theorem mg_parse : mgK w "ParseFlags" = some (.ref 43) := rfl
theorem mg_flags : mgK w "Flags" = some (.ref 36) := rfl
theorem mg_range : mgK w "range" = none := rfl
theorem mg_tuple : mgK w "tuple" = none := rfl
theorem mg_sorted : mgK w "sorted" = none := rfl
theorem mg_min : mgK w "min" = none := rfl
end
end Mine
end

section
open PySem PySem.Calls PyProof.Rows PySem.W
namespace Mine
section
variable {prog : Program} {w : World} {A : Around} {env : Env} {g : GM} {m cm : Loc}
variable {R : Value → GM → Prop} {x y : Str} {t u : Tok} {a b : Int}

theorem do_gt_str (h : R (.bool (decide (y.cps.toList < x.cps.toList))) g) : Do prog w A env g m cm (compareOp .Gt (.str x t) (.str y u)) R := fun _ rd => P.gt_str ⟨g, Ext.refl rd.keep, h⟩
theorem do_lt_str (h : R (.bool (decide (x.cps.toList < y.cps.toList))) g) : Do prog w A env g m cm (compareOp .Lt (.str x t) (.str y u)) R := fun _ rd => P.lt_str ⟨g, Ext.refl rd.keep, h⟩
theorem do_sub_bool {p q : Bool} (h : ∀ t, R (.int (b2i p - b2i q) t) g) : Do prog w A env g m cm (binaryOp .Sub (.bool p) (.bool q)) R := fun _ rd => sub_bool ⟨g, Ext.toks rd.keep _, h _⟩
theorem do_gt_int (h : R (.bool (decide (a > b))) g) : Do prog w A env g m cm (compareOp .Gt (.int a t) (.int b u)) R := fun _ rd => PyProof.Rows.gt_int ⟨g, Ext.refl rd.keep, h⟩
theorem do_lt_int (h : R (.bool (decide (a < b))) g) : Do prog w A env g m cm (compareOp .Lt (.int a t) (.int b u)) R := fun _ rd => PyProof.Rows.lt_int ⟨g, Ext.refl rd.keep, h⟩
theorem do_eq_int (h : R (.bool (a == b)) g) : Do prog w A env g m cm (compareOp .Eq (.int a t) (.int b u)) R := fun _ rd => PyProof.Rows.eq_int ⟨g, Ext.refl rd.keep, h⟩
theorem do_ne_int (h : R (.bool (a != b)) g) : Do prog w A env g m cm (compareOp .NotEq (.int a t) (.int b u)) R := fun _ rd => PyProof.Rows.ne_int ⟨g, Ext.refl rd.keep, h⟩
theorem do_add_int (h : ∀ t, R (.int (a + b) t) g) : Do prog w A env g m cm (binaryOp .Add (.int a t) (.int b u)) R := fun _ rd => add_int ⟨g, Ext.toks rd.keep _, h _⟩
theorem do_mod_int (hb : b ≠ 0) (h : ∀ t, R (.int (a.fmod b) t) g) : Do prog w A env g m cm (binaryOp .Mod (.int a t) (.int b u)) R := fun _ rd => mod_int' hb ⟨g, Ext.toks rd.keep _, h _⟩
theorem do_pow_int (hn : 0 ≤ b) (hn2 : b ≤ 1000000) (ha : a.natAbs < 2 ^ 64) (h : ∀ t, R (.int (a ^ b.toNat) t) g) : Do prog w A env g m cm (binaryOp .Pow (.int a t) (.int b u)) R := fun _ rd => pow_int_small hn hn2 ha ⟨g, Ext.toks rd.keep _, h _⟩
theorem do_xor_int (h : ∀ t, R (.int (Builtin.bitXor a b) t) g) : Do prog w A env g m cm (binaryOp .BitXor (.int a t) (.int b u)) R := fun _ rd => xor_int ⟨g, Ext.toks rd.keep _, h _⟩
theorem do_in_strs {l : Addr} {vs : List Value} {ys : List Str} (hl : Lst g l vs) (hi : StrsAre vs ys) (h : R (.bool (ys.any (· == x))) g) : Do prog w A env g m cm (compareOp .In (.str x t) (.ref l)) R :=
  fun _ rd => in_list_strs (hl.is rd.keep) hi ⟨g, Ext.refl rd.keep, h⟩
theorem do_notin_strs {l : Addr} {vs : List Value} {ys : List Str} (hl : Lst g l vs) (hi : StrsAre vs ys) (h : R (.bool (!ys.any (· == x))) g) : Do prog w A env g m cm (compareOp .NotIn (.str x t) (.ref l)) R :=
  fun _ rd => notin_list_strs (hl.is rd.keep) hi ⟨g, Ext.refl rd.keep, h⟩
theorem do_add_str (hsz : x.length + y.length ≤ sizeLine) (h : ∀ t, R (.str (x ++ y) t) g) : Do prog w A env g m cm (binaryOp .Add (.str x t) (.str y u)) R :=
  fun s rd => SB.add (fun t' k => ⟨g, Ext.toks rd.keep _, h _⟩) hsz
theorem do_truthy_str {R : Bool → GM → Prop} (hsz : x.length ≤ sizeLine) (h : R ((x.length : Int) != 0) g) : Do prog w A env g m cm (truthy (.str x t)) R :=
  fun s rd => P.truthy_str (by rw [sizeLine_eq] at hsz; omega) ⟨g, Ext.toks rd.keep _, h⟩
theorem do_add_list {a b : Addr} {vs ws : List Value} (ha : Pl g a vs) (hb : Pl g b ws) (hsz : vs.length + ws.length ≤ sizeLine) (h : ∀ D o, g D = none → LObj o (vs ++ ws) → R (.ref D) (upd g D o)) :
    Do prog w A env g m cm (binaryOp .Add (.ref a) (.ref b)) R := fun s rd => by
  obtain ⟨n, hn⟩ := ha.is rd.keep
  obtain ⟨n', hn'⟩ := hb.is rd.keep
  refine P.add_list hn hn' ⟨upd g s.heap.objs.size _, Ext.one (tk := s.toks) rd.keep (fun b o e => Heap.get?_push_of_some _ e) (get_size_none _) (Heap.get?_push_size _ rfl), h _ _ ?_ ⟨0, by simp⟩⟩ (by simpa using hsz)
  cases e : g s.heap.objs.size with
  | none => rfl
  | some o' => exact absurd (Heap.lt_size (rd.keep _ _ e)) (Nat.lt_irrefl _)

theorem ev_sub {value slice : Expr} {pos : Pos} (h : Do prog w A env g m cm (eval value env) (fun o g₁ => Do prog w A env g₁ m cm (eval slice env) (fun i g₂ => Do prog w A env g₂ m cm (subscriptTail value slice o i) R))) :
    Do prog w A env g m cm (eval (.Subscript value slice pos) env) R := fun s rd =>
  PyProof.Rows.Subscript_ (wpAny_mono (h s rd) (fun o s₁ ⟨g₁, e₁, h₁⟩ => wpAny_mono (h₁ s₁ (rd.ext e₁)) (fun i s₂ ⟨g₂, e₂, h₂⟩ => wpAny_mono (h₂ s₂ ((rd.ext e₁).ext e₂)) (fun _ _ ⟨g₃, e₃, h₃⟩ => ⟨g₃, (e₁.trans e₂).trans e₃, h₃⟩) fun _ _ x => x) fun _ _ x => x) fun _ _ x => x)
theorem do_item_list {value slice : Expr} {l : Addr} {vs : List Value} {v : Value} (hl : Lst g l vs) (h0 : 0 ≤ a) (hfit : a < 2 ^ 63) (hx : vs[a.toNat]? = some v) (h : R v g)
    (hs : subscripted slice false (.ref l) (.int a t) = operate [.ref l, .int a t] (getItem (.ref l) (.int a t)) := by with_unfolding_all rfl) (hg : ∀ r, letTemporaryGo value (.ref l) r = pure () := by intro _; with_unfolding_all rfl) :
    Do prog w A env g m cm (subscriptTail value slice (.ref l) (.int a t)) R := fun s rd =>
  item_listL (hl.is rd.keep) h0 hfit hx ⟨g, Ext.refl rd.keep, h⟩ hs hg
theorem part_none (h : R .none g) : Do prog w A env g m cm (evalPart none env) R := fun s rd => wpAny_evalPart_none ⟨g, Ext.refl rd.keep, h⟩
theorem part_some {e : Expr} (h : Do prog w A env g m cm (eval e env) R) : Do prog w A env g m cm (evalPart (some e) env) R := fun s rd => wpAny_evalPart_some (h s rd)
theorem ev_slice {value : Expr} {lower upper : Option Expr} {p pos : Pos}
    (h : Do prog w A env g m cm (eval value env) (fun o g₁ => Do prog w A env g₁ m cm (evalPart lower env) (fun vl g₂ => Do prog w A env g₂ m cm (evalPart upper env) (fun vu g₃ =>
      ∃ l vs lo hi, o = .ref l ∧ Lst g₃ l vs ∧ vs.length ≤ sizeLine ∧ IsPart vl lo ∧ IsPart vu hi ∧ ∀ D o, g₃ D = none → LObj o (slicePick vs.toArray lo hi none).toList → R (.ref D) (upd g₃ D o)))))
    (ht : ∀ o r, letTemporaryGo value o r = pure () := by intro _ _; rfl) : Do prog w A env g m cm (eval (.Subscript value (.Slice lower upper none p) pos) env) R := fun s rd => by
  refine wpAny_Subscript_list_slice (wpAny_mono (h s rd) (fun o s₁ ⟨g₁, e₁, h₁⟩ => wpAny_mono (h₁ s₁ (rd.ext e₁)) (fun vl s₂ ⟨g₂, e₂, h₂⟩ => wpAny_mono (h₂ s₂ ((rd.ext e₁).ext e₂)) (fun vu s₃ ⟨g₃, e₃, h₃⟩ => ?_) fun _ _ x => x) fun _ _ x => x) fun _ _ x => x) ht
  obtain ⟨l, vs, lo, hi, rfl, hl, hsz, pl, pu, hQ⟩ := h₃
  refine ⟨l, vs.toArray, lo, hi, rfl, hl.is e₃.keep, by simpa using hsz, pl, pu, ?_⟩
  have hn : ∀ k, s₃.heap.objs.size ≤ k → s₃.heap.get? k = none := fun k hk => by
    cases e : s₃.heap.get? k with
    | none => rfl
    | some o' => exact absurd (Heap.lt_size e) (Nat.not_lt.mpr hk)
  have hD := Heap.get?_push_size (s₃.heap.push { cls := .type "slice", data := .fields #[vl, vu, .none] }) (o := { cls := .type "list", data := .seq (slicePick vs.toArray lo hi none) }) rfl
  rw [Heap.size_push] at hD
  have e₄ : Ext s₃ g₃ { s₃ with heap := (s₃.heap.push { cls := .type "slice", data := .fields #[vl, vu, .none] }).push { cls := .type "list", data := .seq (slicePick vs.toArray lo hi none) } } (upd g₃ (s₃.heap.objs.size + 1) { cls := .type "list", data := .seq (slicePick vs.toArray lo hi none) }) :=
    Ext.one (tk := s₃.toks) e₃.keep (fun b o e => Heap.get?_push_of_some _ (Heap.get?_push_of_some _ e)) (hn _ (Nat.le_succ _)) hD
  refine ⟨_, ((e₁.trans e₂).trans e₃).trans e₄, hQ _ _ ?_ ⟨0, by simp⟩⟩
  cases e : g₃ (s₃.heap.objs.size + 1) with
  | none => rfl
  | some o' => have := e₃.keep _ o' e; rw [hn _ (Nat.le_succ _)] at this; cases this

theorem ev_const_bytes {x : List UInt8} {k : Nat} {pos : Pos} (h : ∀ t, R (.bytes x.toArray t) g) : Do prog w A env g m cm (eval (.Constant (.bytes x) k pos) env) R := fun _ rd => Constant_bytes ⟨g, Ext.toks rd.keep _, h _⟩
theorem do_floordiv_int (hb : b ≠ 0) (hs : b.natAbs < 1073741824) (h : ∀ t, R (.int (a.fdiv b) t) g) : Do prog w A env g m cm (binaryOp .FloorDiv (.int a t) (.int b u)) R :=
  fun _ rd => floordiv_int hb ⟨g, Ext.toks rd.keep _, h _⟩ (Or.inl (PyProof.noPylong_small hs))
theorem do_add_bytes {x y : Array UInt8} (hsz : x.size + y.size ≤ 16777216) (h : ∀ t, R (.bytes (x ++ y) t) g) : Do prog w A env g m cm (binaryOp .Add (.bytes x t) (.bytes y u)) R :=
  fun _ rd => KBy.add_bytes hsz fun t' k => ⟨g, Ext.toks rd.keep _, h _⟩

theorem gnone_size {s : Shared} (rd : Rd env g m cm s) : ∀ k, s.heap.objs.size ≤ k → g k = none := fun k hk => by
  cases e : g k with
  | none => rfl
  | some o' => exact absurd (Heap.lt_size (rd.keep k o' e)) (Nat.not_lt.mpr hk)
theorem snone_size {s : Shared} : ∀ k, s.heap.objs.size ≤ k → s.heap.get? k = none := fun k hk => by
  cases e : s.heap.get? k with
  | none => rfl
  | some o' => exact absurd (Heap.lt_size e) (Nat.not_lt.mpr hk)

/-- the object of range(n) -/
def RObj (o : Obj) (n : Nat) : Prop := ∃ t u v, o = { cls := .type "range", data := .fields #[.int 0 t, .int n u, .int 1 v] }
theorem do_range1 {n : Nat} (h : ∀ D o, g D = none → RObj o n → R (.ref D) (upd g D o)) : Do prog w A env g m cm (call (.type "range") [.int n t]) R := fun s rd =>
  call_range_1 ⟨upd g s.heap.objs.size _, Ext.one (tk := s.toks + 1 + 1) rd.keep (fun b o e => Heap.get?_push_of_some _ e) (get_size_none _) (Heap.get?_push_size _ rfl), h _ _ (gnone_size rd _ (Nat.le_refl _)) ⟨_, _, _, rfl⟩⟩
theorem src_range0 {r : Addr} {o : Obj} {n : Nat} (hh : A.handled = none) (ho : g r = some o) (hr : RObj o n) (hsmall : Builtin.Range.small 0 n 1 = true) (hn : Builtin.Range.rangeSize 0 n 1 = n) : Src prog w A g (.ref r) n (fun i v => ∃ t, v = .int i t) := by
  obtain ⟨t, u, v, rfl⟩ := hr
  have := src_range (prog := prog) (w := w) (a := 0) (t := t) (u := u) (v := v) n hh ho (fun h e => by simpa [IsRange] using e) (by simpa using hsmall) (by simpa using hn)
  simpa using this
theorem do_tuple_list {l : Addr} {vs : List Value} (hl : Lst g l vs) (hsz : vs.length ≤ sizeLine) (h : ∀ D o, g D = none → TObj o vs → R (.ref D) (upd g D o)) : Do prog w A env g m cm (call (.type "tuple") [.ref l]) R := fun s rd =>
  call_tuple_list (hl.is rd.keep) (fun h' hk => by
    have hn : s.heap.get? h'.objs.size = none := by
      cases q : s.heap.get? h'.objs.size with
      | none => rfl
      | some o => exact absurd (Heap.lt_size (hk _ o q)) (Nat.lt_irrefl _)
    have hg : g h'.objs.size = none := by
      cases q : g h'.objs.size with
      | none => rfl
      | some o => have := rd.keep _ o q; rw [hn] at this; cases this
    exact ⟨upd g h'.objs.size _, Ext.one (tk := s.toks) rd.keep (fun b o e => Heap.get?_push_of_some _ (hk b o e)) hn (Heap.get?_push_size _ rfl), h _ _ hg ⟨rfl, _, rfl⟩⟩) (by simpa using hsz)

theorem sx_reverse {s₀ : Shared} {own : List (Addr × Obj)} {x : Str} {px apos cpos pos : Pos} {D : Addr} {vs : List Value} {R : Flow → GM → Loc → Loc → Prop} (nm : Named env)
    (hx : Do prog w A env g m cm (eval (.Name x px) env) (fun v _ => v = .ref D)) (hL : Pl g D vs) (h0 : s₀.heap.get? D = none) (hlen : vs.length ≤ sizeLine)
    (h : ∀ g' o, Sub g g' → LObj o vs.reverse → R .next (upd g' D o) m cm)
    (hi : interactive env = false := by rfl) (hs : swapsWith (.Call (.Attribute (.Name x px) "reverse" apos) [] [] cpos) none pos.line env = pure false := by rfl)
    (hbase : attributeBase (.Name x px) "reverse" env (eval (.Name x px) env) = eval (.Name x px) env := by rfl) (hline : (apos.endLine == cpos.line) = true := by rfl) :
    Sx prog w A s₀ env g m cm own (exec (.Expr (.Call (.Attribute (.Name x px) "reverse" apos) [] [] cpos) pos) env) R := fun s b => by
  refine wpAny_Expr ?_ hi hs
  refine Call_method0 hbase hline (wpAny_mono (hx s b.rd) (fun ov s₁ ⟨g₁, e₁, hv⟩ => ?_) fun _ _ x => x)
  subst hv
  have b₁ := b.ext nm e₁
  have hL₁ := hL.sub e₁.sub
  obtain ⟨o₁, ho₁, _⟩ := id hL₁
  obtain ⟨n, hn⟩ := hL₁.is b₁.rd.keep
  refine ⟨"list", "list.reverse", F.plainAttrs_list, F.slot_list_reverse, F.type_list_reverse, ⟨_, hn, rfl⟩, fun a e => ?_, P.reverse_list hn ?_ (by simpa using hlen)⟩
  · cases e; exact ⟨_, hn, rfl⟩
  · have h2 := get?_update_seq hn (fun x : Array Value => x.reverse)
    exact ⟨_, _, _, b₁.mut ho₁ h0 h2 (Heap.SameBut.update ..), h g₁ _ e₁.sub ⟨(if (vs.toArray.reverse.size == vs.toArray.size) = true then n else n + 1), by simp⟩⟩
end
end Mine
end

section
open PySem PySem.Calls PyProof.Rows PySem.W
namespace Mine

theorem sa_get {vs : List Value} {ys : List Str} (h : StrsAre vs ys) : ∀ {i : Nat} {v : Value}, vs[i]? = some v → ∃ y t, ys[i]? = some y ∧ v = .str y t := by
  induction h with
  | nil => intro i v e; simp at e
  | cons y t h ih =>
    intro i v e
    cases i with
    | zero => simp at e; exact ⟨y, t, by simp, e.symm⟩
    | succ i => simpa using ih (by simpa using e)
theorem sa_snoc {vs : List Value} {ys : List Str} (h : StrsAre vs ys) (y : Str) (t : Tok) : StrsAre (vs ++ [.str y t]) (ys ++ [y]) := by
  induction h with
  | nil => exact .cons y t .nil
  | cons z u h ih => exact .cons z u ih
theorem sa_append {vs ws : List Value} {ys zs : List Str} (h : StrsAre vs ys) (h' : StrsAre ws zs) : StrsAre (vs ++ ws) (ys ++ zs) := by
  induction h with
  | nil => exact h'
  | cons z u h ih => exact .cons z u ih
theorem sa_length {vs : List Value} {ys : List Str} (h : StrsAre vs ys) : vs.length = ys.length := by
  induction h with
  | nil => rfl
  | cons z u h ih => simp [ih]

section
variable {prog : Program} {w : World} {A : Around} {env : Env} {g : GM} {m cm : Loc} {mb : Loc}

theorem do_tests_nil {cenv : Env} {R : Bool → GM → Prop} (h : R true g) : Do prog w A env g m cm (testsOf [] cenv) R := fun s rd => wpAny_tests_nil ⟨g, Ext.refl rd.keep, h⟩
theorem do_tests_one {cenv : Env} {c : Expr} {R : Bool → GM → Prop} (h : Do prog w A env g m cm (isTrue c cenv (eval c cenv)) R) : Do prog w A env g m cm (testsOf [c] cenv) R := fun s rd => wpAny_tests_one (h s rd)

theorem fn_strxfrm (gl : Gl w mb g) {v : Value} {R : Value → GM → Prop} {u : Nat} (rm : Rm A 1 (u + 3)) (h : ∀ g', Sub g g' → R v g') : Do prog w A env g m cm (call (.ref 64) [v]) R := by
  refine do_call_fn (d := 0) (u := u) rm (gl.K 64 _ rfl) rfl gl.lim (gl.code (by rfl)) rfl rfl rfl rfl (by decide) ?_
  intro s L gs hgs hsub hL nm rm'
  exact sx_cons (sx_return nm (ev_local rfl ⟨v, rfl, fun g'' hg _ => h g'' hg⟩))

theorem fn_strcoll (gl : Gl w mb g) {a b : Str} {t u : Tok} {R : Value → GM → Prop} {k : Nat} (rm : Rm A 1 (k + 3))
    (h : ∀ g' t, Sub g g' → R (.int (b2i (decide (b.cps.toList < a.cps.toList)) - b2i (decide (a.cps.toList < b.cps.toList))) t) g') : Do prog w A env g m cm (call (.ref 57) [.str a t, .str b u]) R := by
  refine do_call_fn (d := 0) (u := k) rm (gl.K 57 _ rfl) rfl gl.lim (gl.code (by rfl)) rfl rfl rfl rfl (by decide) ?_
  intro s L gs hgs hsub hL nm rm'
  refine sx_cons (sx_return nm (ev_bin (ev_cmp (ev_local rfl (ev_local rfl (do_gt_str ?_))))))
  refine ev_cmp (ev_local rfl (ev_local rfl (do_lt_str (do_sub_bool fun t => ?_))))
  exact ⟨_, rfl, fun g'' hg _ => h g'' t hg⟩

theorem setL_self {m : Loc} {x : Str} {v : Value} : setL m x v x = some v := by simp [setL]
theorem setL_ne {m : Loc} {x y : Str} {v : Value} (h : y ≠ x) : setL m x v y = m y := by simp [setL, h]
def without (row other : List Str) : List Str := row.filter fun n => !other.any (· == n)
def both (row other : List Str) : List Str := without row other ++ without other row

theorem fn_both (gl : Gl w mb g) {a b : Addr} {vs ws : List Value} {row other : List Str} {R : Value → GM → Prop} {k : Nat} (rm : Rm A 1 (k + 3))
    (ha : Lst g a vs) (hb : Lst g b ws) (hr : StrsAre vs row) (ho : StrsAre ws other) (hl1 : row.length ≤ 1000) (hl2 : other.length ≤ 1000)
    (h : ∀ D ys g', Sub g g' → g D = none → Pl g' D ys → StrsAre ys (both row other) → R (.ref D) g') : Do prog w A env g m cm (call (.ref 81) [.ref a, .ref b]) R := by
  refine do_call_fn (d := 0) (u := k) rm (gl.K 81 _ rfl) rfl gl.lim (gl.code (by rfl)) rfl rfl rfl rfl (by decide) ?_
  intro s L gs hgs hsub hL nm rm'
  have hlen1 := sa_length hr
  have hlen2 := sa_length ho
  have line : (1000 : Nat) + 1000 ≤ sizeLine := by rw [sizeLine_eq]; decide
  refine sx_cons (sx_return nm (ev_bin ?_))
  have key : ∀ {vs ws : List Value} {row other : List Str}, StrsAre vs row → StrsAre ws other → ∀ {i : Nat} {v : Value}, vs[i]? = some v → ∃ x t, v = .str x t ∧ without (row.take (i + 1)) other = without (row.take i) other ++ (if (!other.any (· == x)) = true then [x] else []) := by
    intro vs ws row other hr ho i v hv
    obtain ⟨x, t, hx, rfl⟩ := sa_get hr hv
    exact ⟨x, t, rfl, take_succ_filter _ row i x hx⟩
  refine ev_comp rfl (by repeat' first | exact True.intro | refine ⟨rfl, ?_⟩) (by decide) rfl (by decide) rfl ?_
  refine ev_cell rfl ⟨gs, vs.length, _, Sub.refl _, src_list rm'.h (ha.sub hsub), by omega, fun i ys g' => StrsAre ys (without (row.take i) other), .nil, ?_, ?_⟩
  · intro C i v ys g' m' hi hv hs hm hly hI
    obtain ⟨x, t, rfl, hx⟩ := key hr ho hv
    refine do_tests_one (is_cmp (ev_local hm (ev_cell rfl (do_notin_strs ((hb.sub hsub).sub hs) ho (do_truthy_bool ?_)))))
    cases hb : (!other.any (· == x)) with
    | false =>
      rw [hb] at hx
      simp only [Bool.false_eq_true, if_false, List.append_nil] at hx ⊢
      rw [hx]; exact hI
    | true =>
      rw [hb] at hx
      simp only [if_true] at hx ⊢
      refine ev_local hm ?_
      rw [hx]; exact sa_snoc hI x t
  intro D o ys g₁ hs₁ hD hD' hL hly hI
  rw [List.take_of_length_le (by omega)] at hI
  refine ev_comp rfl (by repeat' first | exact True.intro | refine ⟨rfl, ?_⟩) (by decide) rfl (by decide) rfl ?_
  have hsD : Sub gs (upd g₁ D o) := hs₁.trans (upd_sub hD')
  refine ev_cell rfl ⟨_, ws.length, _, Sub.refl _, src_list rm'.h ((hb.sub hsub).sub hsD), by omega, fun i ys g' => StrsAre ys (without (other.take i) row), .nil, ?_, ?_⟩
  · intro C i v ys g' m' hi hv hs hm hly hI
    obtain ⟨x, t, rfl, hx⟩ := key ho hr hv
    refine do_tests_one (is_cmp (ev_local hm (ev_cell rfl (do_notin_strs (((ha.sub hsub).sub hsD).sub hs) hr (do_truthy_bool ?_)))))
    cases hb : (!row.any (· == x)) with
    | false =>
      rw [hb] at hx
      simp only [Bool.false_eq_true, if_false, List.append_nil] at hx ⊢
      rw [hx]; exact hI
    | true =>
      rw [hb] at hx
      simp only [if_true] at hx ⊢
      refine ev_local hm ?_
      rw [hx]; exact sa_snoc hI x t
  intro D₂ o₂ ys₂ g₂ hs₂ hE hE' hL₂ hly₂ hI₂
  rw [List.take_of_length_le (by omega)] at hI₂
  have hne : D ≠ D₂ := by rintro rfl; rw [upd_self] at hE; cases hE
  have P1 : Pl (upd g₂ D₂ o₂) D ys := by
    refine ⟨o, ?_, hL⟩
    rw [upd_ne hne]
    exact hs₂ D o upd_self
  refine do_add_list P1 (pl_upd hL₂) (by omega) fun D₃ o₃ hD₃ hL₃ => ?_
  refine ⟨_, rfl, fun g'' hg hnew => ?_⟩
  have hD0 : gs D₃ = none := by
    cases e : gs D₃ with
    | none => rfl
    | some o' =>
      have := upd_sub (o := o₂) hE' D₃ o' (hs₂ D₃ o' (hsD D₃ o' e))
      rw [hD₃] at this; cases this
  refine h D₃ (ys ++ ys₂) g'' hg ?_ ⟨o₃, by rw [hnew D₃ hD0, upd_self], hL₃⟩ (sa_append hI hI₂)
  cases e : g D₃ with
  | none => rfl
  | some o' => have := hsub D₃ o' e; rw [hD0] at this; cases this
end
end Mine
end

section
open PySem PySem.Calls PyProof.Rows PySem.W
namespace Mine
section
variable {prog : Program} {w : World} {A : Around} {env : Env} {g : GM} {m cm : Loc} {mb : Loc}

def sgt (a b : Str) : Bool := decide (b.cps.toList < a.cps.toList)
def slt (a b : Str) : Bool := decide (a.cps.toList < b.cps.toList)
def collPos (a b : Str) : Bool := decide (b2i (decide (b.cps.toList < a.cps.toList)) - b2i (decide (a.cps.toList < b.cps.toList)) > 0)
def topS : List Str → Str
  | [] => Str.empty
  | r :: rest => rest.foldl (fun top n => if collPos n top = true then n else top) r


theorem fn_top (gl : Gl w mb g) {a : Addr} {vs : List Value} {r : Str} {rest : List Str} {R : Value → GM → Prop} {k : Nat} (rm : Rm A 2 (k + 6))
    (ha : Lst g a vs) (hr : StrsAre vs (r :: rest)) (hl : rest.length ≤ 1000) (h : ∀ t g', Sub g g' → R (.str (topS (r :: rest)) t) g') : Do prog w A env g m cm (call (.ref 88) [.ref a]) R := by
  have line : (1000 : Nat) + 1000 ≤ sizeLine := by rw [sizeLine_eq]; decide
  refine do_call_fn (d := 1) (u := k + 3) rm (gl.K 88 _ rfl) rfl gl.lim (gl.code (by rfl)) rfl rfl rfl rfl (by decide) ?_
  intro s L gs hgs hsub hL nm rm'
  have hlen := sa_length hr
  rw [List.length_cons] at hlen
  obtain ⟨t0, vs', hvs, hr'⟩ : ∃ t0 vs', vs = .str r t0 :: vs' ∧ StrsAre vs' rest := by
    cases hr with
    | cons _ t0 h => exact ⟨t0, _, rfl, h⟩
  have glS : Gl w mb gs := gl.sub hsub
  refine sx_cons (sx_assign nm rfl (ev_sub (ev_local rfl (ev_const_int fun t => do_item_list (ha.sub hsub) (by decide) (by decide) (by rw [hvs]; rfl) ?_))))
  refine ⟨_, _, .loc rfl, ?_⟩
  refine sx_cons (sx_for nm rfl ?_)
  refine ev_slice (ev_local rfl (part_some (ev_const_int fun t => part_none ⟨a, vs, _, _, rfl, ha.sub hsub, by omega, .int _ _, .none, fun D o hD hLo => ?_⟩)))
  have hpick : (slicePick vs.toArray (some ((1 : Nat) : Int)) none none).toList = vs' := by
    rw [slicePick_from _ _ (by rw [List.size_toArray]; omega), hvs]; simp
  rw [show ((1 : Int)) = ((1 : Nat) : Int) from rfl, hpick] at hLo
  refine ⟨_, vs'.length, _, Sub.refl _, src_list rm'.h (pl_upd hLo).lst, fun i g m cm => ∃ t, m "top" = some (.str (topS (r :: rest.take i)) t), ⟨t0, rfl⟩, ?_, ?_⟩
  · rintro i v g₁ m₁ cm₁ own' hi hv hs ⟨t, hm⟩
    obtain ⟨x, tx, hx, rfl⟩ := sa_get hr' hv
    have gl₁ : Gl w mb g₁ := (glS.sub (upd_sub hD)).sub hs
    refine ⟨_, _, .loc rfl, ?_⟩
    have hm' : setL m₁ "name" (.str x tx) "top" = some (.str (topS (r :: rest.take i)) t) := by rw [setL_ne (by decide)]; exact hm
    have step : topS (r :: rest.take (i + 1)) = if collPos x (topS (r :: rest.take i)) = true then x else topS (r :: rest.take i) := by
      have : rest.take (i + 1) = rest.take i ++ [x] := by rw [List.take_add_one, hx]; rfl
      rw [this]
      show List.foldl _ r (rest.take i ++ [x]) = _
      rw [List.foldl_append]; rfl
    refine sx_cons (sx_if nm (is_cmp ?_))
    refine ev_call (gl₁.K 57 _ rfl) rfl (ev_global gl₁.g (mg_strcoll w) rfl) fun g₂ hs₂ => ?_
    have gl₂ := gl₁.sub hs₂
    refine do_args_cons (ev_local setL_self (do_args_cons (ev_local hm' (do_args_nil ?_))))
    refine fn_strcoll gl₂ (rm'.less (by omega) (Nat.le_refl _)) fun g₃ t₃ hs₃ => ?_
    refine ev_const_int fun t₄ => do_gt_int (do_truthy_bool ?_)
    show if collPos x (topS (r :: rest.take i)) = true then _ else _
    cases hc : collPos x (topS (r :: rest.take i)) with
    | true =>
      rw [hc] at step
      simp only [if_true] at step ⊢
      refine sx_cons (sx_assign nm rfl (ev_local setL_self ⟨_, _, .loc rfl, sx_nil (sx_nil ⟨(hs.trans hs₂).trans hs₃, tx, ?_⟩)⟩))
      rw [setL_self, step]
    | false =>
      rw [hc] at step
      simp only [Bool.false_eq_true, if_false] at step ⊢
      exact sx_nil (sx_nil ⟨(hs.trans hs₂).trans hs₃, t, by rw [hm', step]⟩)
  · rintro g₁ m₁ cm₁ hs ⟨t, hm⟩
    rw [List.take_of_length_le (by have := sa_length hr'; omega)] at hm
    exact sx_cons (sx_return nm (ev_local hm ⟨_, rfl, fun g'' hg _ => h t g'' hg⟩))
end
end Mine
end

section
open PySem PySem.Calls PyProof.Rows PySem.W
namespace Mine

/-- what comes out: the pairs, by their keys -/
def SortOut (ks : List Str) (vs out : List Value) : Prop :=
  ∃ ps : List (Str × Value), ps.Perm (ks.zip vs) ∧ out = ps.map Prod.snd ∧ ps.Pairwise (fun p q => ¬ q.1.cps.toList < p.1.cps.toList)

theorem sort_out {keys : Array Value} {vs : List Value} {ks : List Str} (hk : StrsAre keys.toList ks) {xs : Array Keyed} (hp : xs.Perm (keys.zip vs.toArray)) (hs : SortedToK strKind xs xs.size) :
    SortOut ks vs (xs.map (·.2)).toList := by
  have hl : xs.toList.Perm (keys.toList.zip vs) := by rw [← ksk_zip]; exact Array.perm_iff_toList_perm.mp hp
  have hall : ∀ p ∈ xs.toList, ∃ x t, p.1 = .str x t := fun p hpm => by
    have := hl.subset hpm
    obtain ⟨a, b⟩ := p
    exact hk.all _ (List.of_mem_zip this).1
  refine ⟨xs.toList.map (fun p : Keyed => (strOf p.1, p.2)), ?_, ?_, ?_⟩
  · have e2 : (keys.toList.zip vs).map (fun p : Keyed => (strOf p.1, p.2)) = ks.zip vs := by
      rw [← hk.strs, List.zip_map_left]
      exact List.map_congr_left fun ⟨x, y⟩ _ => rfl
    rw [← e2]
    exact hl.map _
  · rw [Array.toList_map, List.map_map]
    rfl
  · rw [List.pairwise_iff_getElem]
    intro i j hi hj hij
    have hi' : i < xs.size := by simpa using hi
    have hj' : j < xs.size := by simpa using hj
    have q := hs i j (Nat.le_of_lt hij) hj'
    obtain ⟨x, tx, ex⟩ := hall xs[i] (by simp)
    obtain ⟨y, ty, ey⟩ := hall xs[j] (by simp)
    rw [KK_str hi' (x := x) (t := tx) (q := xs[i].2) (by rw [← ex]), KK_str hj' (x := y) (t := ty) (q := xs[j].2) (by rw [← ey])] at q
    have q' : decide (y.cps.toList < x.cps.toList) = false := q
    simp only [List.getElem_map, Array.getElem_toList, ex, ey]
    simpa [strOf] using q'

section
variable {prog : Program} {w : World} {A : Around} {env : Env} {g : GM} {m cm : Loc} {mb : Loc}

theorem rd_same {g' : GM} {s : Shared} {h' : Heap} {tk : Nat} {a : Addr} (rd : Rd env g' m cm s) (hs : Heap.SameBut a s.heap h') (hg : g' a = none) (hL : env.locals ≠ a) (hc : ∀ n c, env.cells.lookup n = some c → c ≠ a) : Rd env g' m cm { s with heap := h', toks := tk } :=
  ⟨rd.ns.sameBut hs hL, fun n c h => (rd.cell n c h).sameBut hs (hc n c h), fun b o e => hs.extBut b o (by rintro rfl; rw [hg] at e; cases e) (rd.keep b o e)⟩

theorem sort_tail {a kS : Addr} {vs : List Value} {ks : List Str} {keys : Array Value} {e e1 : Nat} {P : PySem.Fin → Shared → Prop} {s : Shared} {st : SortSt} {E : Value → Shared → Prop}
    (hkS : s.heap.get? kS = some (seqObj "list" keys e)) (ha : s.heap.get? a = some (seqObj "list" #[] e1)) (hka : kS ≠ a) (hk : StrsAre keys.toList ks) (hlen : ks.length = vs.length) (h64 : vs.length < 64)
    (hp : (arrOf st).Perm (keys.zip vs.toArray)) (hs : SortedToK strKind (arrOf st) (arrOf st).size) (hfl : failedOf st = none)
    (h : ∀ h' tk out c, (∀ b o, b ≠ kS → b ≠ a → s.heap.get? b = some o → h'.get? b = some o) → h'.get? a = some (seqObj "list" out c) → SortOut ks vs out.toList → P (.done (.ret .none)) { s with heap := h', toks := tk }) :
    wpAny (model prog w) A (ksk_tail a false e1 (.ref kS) st) P E s := by
  have hsz : keys.size = vs.length := by
    have h1 := sa_length hk
    rw [Array.length_toList] at h1
    omega
  have hsz2 : (arrOf st).size = vs.length := by rw [hp.size_eq, Array.size_zip, hsz, List.size_toArray, Nat.min_self]
  have s1 := Heap.SameBut.update s.heap kS (Obj.mapSeq fun _ => (#[] : Array Value))
  have na1 : (s.heap.update kS (Obj.mapSeq fun _ => (#[] : Array Value))).get? a = some (seqObj "list" #[] e1) := (s1.2 a hka.symm).trans ha
  have s2 := Heap.SameBut.update (s.heap.update kS (Obj.mapSeq fun _ => (#[] : Array Value))) a (Obj.mapSeq fun _ => (arrOf st).map (·.2))
  obtain ⟨c2, hc2⟩ : ∃ c2, ((s.heap.update kS (Obj.mapSeq fun _ => (#[] : Array Value))).update a (Obj.mapSeq fun _ => (arrOf st).map (·.2))).get? a = some (seqObj "list" ((arrOf st).map (·.2)) c2) :=
    ⟨_, get?_update_seq na1 fun _ => (arrOf st).map (·.2)⟩
  unfold ksk_tail
  try dsimp only
  refine wpAny_bind (listUpdate_at hkS rfl ?_ (by rw [hsz, sizeLine_eq]; omega) (Nat.zero_le _))
  refine wpAny_bind (wpAny_letGo ?_)
  refine wpAny_bind (seqEpoch_at na1 rfl ?_)
  simp only [Bool.false_eq_true, if_false]
  refine wpAny_bind (listUpdate_at na1 rfl ?_ (Nat.zero_le _) (by rw [Array.size_map, hsz2, sizeLine_eq]; omega))
  rw [hfl]
  simp only [bne_self_eq_false, Bool.false_eq_true, if_false]
  exact wpAny_pure (h _ _ _ c2 (fun b o h1 h2 e => s2.extBut b o h2 (s1.extBut b o h1 e)) hc2 (sort_out hk hp hs))

theorem sort_end {a kS : Addr} {vs : List Value} {ks : List Str} {keys : Array Value} {e e1 : Nat} {P : PySem.Fin → Shared → Prop} {s : Shared} {E : Value → Shared → Prop}
    (hkS : s.heap.get? kS = some (seqObj "list" keys e)) (ha : s.heap.get? a = some (seqObj "list" #[] e1)) (hka : kS ≠ a) (hk : StrsAre keys.toList ks) (hlen : ks.length = vs.length) (h64 : vs.length < 64)
    (h : ∀ h' tk out c, (∀ b o, b ≠ kS → b ≠ a → s.heap.get? b = some o → h'.get? b = some o) → h'.get? a = some (seqObj "list" out c) → SortOut ks vs out.toList → P (.done (.ret .none)) { s with heap := h', toks := tk }) :
    wpAny (model prog w) A (ksk_end a false vs.toArray e1 (.ref kS) keys) P E s := by
  have hsz : keys.size = vs.length := by
    have h1 := sa_length hk
    rw [Array.length_toList] at h1
    omega
  have hzs : (keys.zip vs.toArray).size = vs.length := by rw [Array.size_zip, hsz, List.size_toArray, Nat.min_self]
  unfold ksk_end
  simp only [Bool.false_eq_true, if_false]
  by_cases h2 : vs.toArray.size < 2
  · rw [if_pos h2, if_pos h2]
    refine wpAny_bind (wpAny_pure ?_)
    rw [StateT.run_pure]
    refine wpAny_bind (wpAny_pure ?_)
    try dsimp only
    refine sort_tail (st := SortSt.mk' general' (keys.zip vs.toArray) #[] 7 none) hkS ha hka hk hlen h64 (Array.Perm.refl _) ?_ rfl h
    intro i j hij hj
    have hj2 : j < (keys.zip vs.toArray).size := hj
    rw [hzs] at hj2
    rw [List.size_toArray] at h2
    have : i = j := by omega
    subst this
    exact KeyOrd.kle_refl _
  · rw [if_neg h2, if_neg h2]
    rw [List.size_toArray] at h2
    have hkk : keyKind' keys = pure oneType' := by
      obtain ⟨v₁, v₂, rest, q⟩ : ∃ v₁ v₂ rest, keys.toList = v₁ :: v₂ :: rest := by
        have hl : 2 ≤ keys.toList.length := by rw [Array.length_toList]; omega
        cases q : keys.toList with
        | nil => rw [q] at hl; simp at hl
        | cons v₁ r =>
          cases r with
          | nil => rw [q] at hl; simp at hl
          | cons v₂ rest => exact ⟨v₁, v₂, rest, rfl⟩
      have ek : keys = (v₁ :: v₂ :: rest).toArray := by rw [← q, Array.toArray_toList]
      rw [q] at hk
      rw [ek]
      exact keyKind_strs hk
    have h0 : KeysOf strKind (keys.zip vs.toArray) := by
      intro p hpm
      rw [ksk_zip] at hpm
      obtain ⟨x, y⟩ := p
      obtain ⟨z, t, ez⟩ := hk.all _ (List.of_mem_zip hpm).1
      exact ⟨z.cps.toList, by show strKind.keyOf x = _; rw [show x = .str z t from ez]⟩
    rw [hkk]
    refine wpAny_bind (wpAny_pure ?_)
    refine wpAny_bind (wpAny_mono (wpS_sortRunsK (κ := strKind) strKind_oneLt (a₀ := keys.zip vs.toArray) (st := SortSt.mk' oneType' (keys.zip vs.toArray) #[] 7 none)
      (Q := fun _ st' => (arrOf st').Perm (keys.zip vs.toArray) ∧ failedOf st' = none ∧ SortedToK strKind (arrOf st') (keys.zip vs.toArray).size)
      h0 ⟨Array.Perm.refl _, rfl, rfl, rfl⟩ (by rw [hzs]; omega) (by rw [hzs]; exact h64) fun st' a1 a2 a3 => ⟨a1, a2, a3⟩) ?_ fun _ _ e => e)
    rintro ⟨⟨⟩, st'⟩ s' ⟨rfl, hp, hf, hs⟩
    try dsimp only
    exact sort_tail hkS ha hka hk hlen h64 hp (by rw [hp.size_eq]; exact hs) hf h

theorem sort_rest {a kS : Addr} {vs : List Value} {ks : List Str} {e1 : Nat} {P : PySem.Fin → Shared → Prop} {s : Shared} {f : Value}
    (rd : Rd env g m cm s) (hkS : s.heap.get? kS = some (seqObj "list" #[] 0)) (ha : s.heap.get? a = some (seqObj "list" #[] e1)) (hka : kS ≠ a) (gk : g kS = none) (ga : g a = none) (hL : env.locals ≠ kS) (hc : ∀ n c, env.cells.lookup n = some c → c ≠ kS)
    (hlen : ks.length = vs.length) (h64 : vs.length < 64)
    (turn : ∀ (i : Nat) (v : Value) (k : Str) g', vs[i]? = some v → ks[i]? = some k → Sub g g' → Do prog w A env g' m cm (call f [v]) (fun r _ => ∃ t, r = .str k t))
    (h : ∀ h' tk out c g', Sub g g' → Sub g' h'.get? → (∀ b o, g' b = some o → g b = some o ∨ s.heap.get? b = none) → (∀ b o, b ≠ kS → b ≠ a → s.heap.get? b = some o → h'.get? b = some o) → h'.get? a = some (seqObj "list" out c) → SortOut ks vs out.toList → P (.done (.ret .none)) { s with heap := h', toks := tk }) :
    wpAny (model prog w) A (ksk_rest a f false vs.toArray e1 (.ref kS)) P (fun _ _ => False) s := by
  unfold ksk_rest
  refine wpAny_bind (wpAny_rule ?_)
  first
    | rw [List.forIn_toArray]
    | (rw [← Array.forIn_toList]; simp only [List.toList_toArray])
    | rw [← Array.forIn_toList]
  refine wpAny_bind (ksk_fold (fun i s' => ∃ h' tk kA e g', s' = { s with heap := h', toks := tk } ∧ Rd env g' m cm s' ∧ Sub g g' ∧ (∀ b o, g' b = some o → g b = some o ∨ s.heap.get? b = none) ∧ h'.get? kS = some (seqObj "list" kA e) ∧ h'.get? a = some (seqObj "list" #[] e1) ∧
      (∀ b o, b ≠ kS → b ≠ a → s.heap.get? b = some o → h'.get? b = some o) ∧ StrsAre kA.toList (ks.take i)) vs 0 s
    ⟨s.heap, s.toks, #[], 0, g, rfl, rd, Sub.refl _, fun _ _ e => .inl e, hkS, ha, fun _ _ _ _ e => e, by simpa using StrsAre.nil⟩ ?step ?done)
  case step =>
    rintro j x s' hx ⟨h', tk, kA, e, g', rfl, rd', hs', hnew, hkS', ha', hold, hk⟩
    simp only [Nat.zero_add] at hk ⊢
    have hj : j < vs.length := (List.getElem?_eq_some_iff.mp hx).1
    obtain ⟨k, hkj⟩ : ∃ k, ks[j]? = some k := ⟨_, List.getElem?_eq_getElem (by omega)⟩
    have hz : kA.size ≤ vs.length := by
      have h1 := sa_length hk
      rw [Array.length_toList, List.length_take] at h1
      omega
    refine wpAny_bind (wpAny_attempt (wpAny_mono (turn j x k g' hx hkj hs' _ rd') (fun v s'' he => ?_) fun _ _ hF => hF.elim))
    obtain ⟨g2, e2, t2, rfl⟩ := he
    try dsimp only
    have nk := keeps_sub e2.keeps kS _ hkS'
    have na := keeps_sub e2.keeps a _ ha'
    obtain ⟨h2, tk2, rfl, hkp⟩ := e2.keeps
    have g2k : g2 kS = none := none_of_new e2.new (none_of_new hnew gk hkS) hkS'
    have s1 := Heap.SameBut.update h2 kS (Obj.mapSeq (·.push (.str k t2)))
    obtain ⟨c2, hc2⟩ : ∃ c2, (h2.update kS (Obj.mapSeq (·.push (.str k t2)))).get? kS = some (seqObj "list" (kA.push (.str k t2)) c2) := ⟨_, get?_update_seq nk (·.push (.str k t2))⟩
    have ek : ks.take (j + 1) = ks.take j ++ [k] := by rw [List.take_add_one, hkj]; rfl
    refine wpAny_bind (listUpdate_at nk rfl ?_ (by rw [sizeLine_eq]; omega) (Nat.le_trans (Nat.le_of_eq (Array.size_push ..)) (by rw [sizeLine_eq]; omega)))
    refine wpAny_pure ⟨rfl, _, _, kA.push (.str k t2), c2, g2, rfl, rd_same (rd'.ext e2) s1 g2k hL hc, hs'.trans e2.sub, fun b o hb => ?_, hc2, s1.extBut a _ hka.symm na, fun b o h1 h2 h3 => s1.extBut b o h1 (hkp b o (hold b o h1 h2 h3)), ?_⟩
    · rcases e2.new b o hb with hb' | hb'
      · exact hnew b o hb'
      · right
        cases q : s.heap.get? b with
        | none => rfl
        | some o' =>
          exfalso
          have hb'' : h'.get? b = none := hb'
          by_cases b1 : b = kS
          · subst b1; rw [hkS'] at hb''; cases hb''
          · by_cases b2 : b = a
            · subst b2; rw [ha'] at hb''; cases hb''
            · rw [hold b o' b1 b2 q] at hb''; cases hb''
    · have : (kA.push (Value.str k t2)).toList = kA.toList ++ [Value.str k t2] := by simp
      rw [this, ek]
      exact sa_snoc hk k t2
  case done =>
    rintro s' ⟨h', tk, kA, e, g', rfl, rd', hs', hnew, hkS', ha', hold, hk⟩
    have hk' : StrsAre kA.toList ks := by
      have e3 : ks.take (0 + vs.length) = ks := List.take_of_length_le (by omega)
      rw [e3] at hk
      exact hk
    try dsimp only
    refine wpAny_bind (listItems_at hkS' rfl ?_)
    have g'k := none_of_new hnew gk hkS
    have g'a := none_of_new hnew ga ha
    exact sort_end hkS' ha' hka hk' hlen h64 fun h3 tk3 out c k3 q3 o3 => h h3 tk3 out c g' hs' (fun b o e => k3 b o (by rintro rfl; rw [g'k] at e; cases e) (by rintro rfl; rw [g'a] at e; cases e) (rd'.keep b o e)) hnew (fun b o h1 h2 e => k3 b o h1 h2 (hold b o h1 h2 e)) q3 o3

theorem do_sorted {l : Addr} {vs : List Value} {ks : List Str} {f : Value} {R : Value → GM → Prop} (hl : Lst g l vs) (hlen : ks.length = vs.length) (h64 : vs.length < 64)
    (ht : ∀ x, Builtin.«list.sort» ⟨[.ref x], [(Str.ofString "key", f)]⟩ = ksk_tree x f false)
    (turn : ∀ (i : Nat) (v : Value) (k : Str) g', vs[i]? = some v → ks[i]? = some k → Sub g g' → Do prog w A.in1.in1 env g' m cm (call f [v]) (fun r _ => ∃ t, r = .str k t))
    (h : ∀ g' D o out, Sub g g' → g D = none → g' D = none → LObj o out → SortOut ks vs out → R (.ref D) (upd g' D o)) :
    Do prog w A env g m cm (call (.builtin "sorted") [.ref l] [(Str.ofString "key", f)]) R := fun s rd => by
  refine call_function_entry_kw kind_sorted plain_sorted entry_sorted (ksk_s1 _ _) ?_
  unfold Builtin.«sorted»
  refine wpAny_bind (m := checkCount "sorted" 1 1 _) (wpAny_pure ?_)
  refine wpAny_bind (collect_list (hl.is rd.keep) ?_ (by rw [sizeLine_eq]; omega))
  refine wpAny_bind (wpAny_newList ?_ (by rw [sizeLine_eq]; omega))
  have hsz : ((s.heap.push (seqObj "list" #[] 0)).update s.heap.objs.size (Obj.mapSeq (· ++ vs.toArray))).objs.size = s.heap.objs.size + 1 := by
    rw [Heap.size_update, size_push']
  have hoL : (((s.heap.push (seqObj "list" #[] 0)).update s.heap.objs.size (Obj.mapSeq (· ++ vs.toArray))).push (seqObj "list" vs.toArray 0)).get? (s.heap.objs.size + 1) = some (seqObj "list" vs.toArray 0) := by
    rw [← hsz]; exact Heap.get?_push_size _ rfl
  have keep : ∀ b o, s.heap.get? b = some o → (((s.heap.push (seqObj "list" #[] 0)).update s.heap.objs.size (Obj.mapSeq (· ++ vs.toArray))).push (seqObj "list" vs.toArray 0)).get? b = some o := fun b o q => by
    have hlt : b < s.heap.objs.size := Heap.lt_size q
    rw [Heap.get?_push_ne _ _ _ (by rw [hsz]; exact Nat.ne_of_lt (Nat.lt_succ_of_lt hlt)), Heap.get?_update_ne _ _ _ _ (Nat.ne_of_lt hlt), Heap.get?_push_ne _ _ _ (Nat.ne_of_lt hlt)]
    exact q
  have hsz3 : (((s.heap.push (seqObj "list" #[] 0)).update s.heap.objs.size (Obj.mapSeq (· ++ vs.toArray))).push (seqObj "list" vs.toArray 0)).objs.size = s.heap.objs.size + 2 := by rw [size_push', hsz]
  show wpAny _ _ _ _ _ { s with heap := ((s.heap.push (seqObj "list" #[] 0)).update s.heap.objs.size (Obj.mapSeq (· ++ vs.toArray))).push (seqObj "list" vs.toArray 0) }
  rw [hsz]
  generalize hH : ((s.heap.push (seqObj "list" #[] 0)).update s.heap.objs.size (Obj.mapSeq (· ++ vs.toArray))).push (seqObj "list" vs.toArray 0) = H at hoL keep hsz3 ⊢
  have snone : ∀ k, s.heap.objs.size ≤ k → s.heap.get? k = none := fun k hk => by
    cases e : s.heap.get? k with
    | none => rfl
    | some o' => exact absurd (Heap.lt_size e) (Nat.not_lt.mpr hk)
  have gnone : ∀ k, s.heap.objs.size ≤ k → g k = none := fun k hk => by
    cases e : g k with
    | none => rfl
    | some o' => have := rd.keep k o' e; rw [snone k hk] at this; cases this
  have ltL : env.locals < s.heap.objs.size := by obtain ⟨o, ho⟩ := Heap.Ns.some rd.ns; exact Heap.lt_size ho
  have ltC : ∀ n c, env.cells.lookup n = some c → c < s.heap.objs.size := fun n c hc => by obtain ⟨o, ho, _⟩ := rd.cell n c hc; exact Heap.lt_size ho
  refine wpAny_bind (wpAny_holding (wpAny_call_entry_kw slot_list_sort ⟨_, hoL, rfl⟩ entry_list_sort ?body (ksk_l1 _ _)))
  case body =>
    have ht' := ht (s.heap.objs.size + 1)
    show wpAny (model prog w) A.in1.in1 (Builtin.«list.sort» ⟨[.ref (s.heap.objs.size + 1)], _⟩) _ _ _
    rw [ht']
    have hlt : s.heap.objs.size + 1 < H.objs.size := Heap.lt_size hoL
    have s1 := Heap.SameBut.update H (s.heap.objs.size + 1) (Obj.mapSeq fun _ => (#[] : Array Value))
    obtain ⟨e1, ho1⟩ : ∃ e1, (H.update (s.heap.objs.size + 1) (Obj.mapSeq fun _ => (#[] : Array Value))).get? (s.heap.objs.size + 1) = some (seqObj "list" #[] e1) := ⟨_, get?_update_seq hoL fun _ => #[]⟩
    unfold ksk_tree
    refine wpAny_bind (listItems_at hoL rfl ?_)
    refine wpAny_bind (listUpdate_at hoL rfl ?_ (by rw [List.size_toArray, sizeLine_eq]; omega) (Nat.zero_le _))
    refine wpAny_bind (seqEpoch_at ho1 rfl ?_)
    refine wpAny_bind (wpAny_newTuple ?_ (by show vs.length ≤ _; rw [sizeLine_eq]; omega))
    refine wpAny_bind (wpAny_newList ?_ (Nat.zero_le _))
    refine wpAny_holding ?_
    have hkS : ((H.update (s.heap.objs.size + 1) (Obj.mapSeq fun _ => (#[] : Array Value))).push (seqObj "tuple" vs.toArray 0)).objs.size = s.heap.objs.size + 3 := by rw [size_push', Heap.size_update, hsz3]
    have keep2 : ∀ b o, s.heap.get? b = some o → (((H.update (s.heap.objs.size + 1) (Obj.mapSeq fun _ => (#[] : Array Value))).push (seqObj "tuple" vs.toArray 0)).push (seqObj "list" #[] 0)).get? b = some o := fun b o e =>
      Heap.get?_push_of_some _ (Heap.get?_push_of_some _ (s1.extBut b o (Nat.ne_of_lt (Nat.lt_succ_of_lt (Heap.lt_size e))) (keep b o e)))
    refine sort_rest (s := { s with heap := ((H.update (s.heap.objs.size + 1) (Obj.mapSeq fun _ => (#[] : Array Value))).push (seqObj "tuple" vs.toArray 0)).push (seqObj "list" #[] 0) }) (g := g) (m := m) (cm := cm) (env := env)
      (kS := ((H.update (s.heap.objs.size + 1) (Obj.mapSeq fun _ => (#[] : Array Value))).push (seqObj "tuple" vs.toArray 0)).objs.size)
      ⟨rd.ns.keeps keep2, fun n c hc => (rd.cell n c hc).keeps keep2, fun b o e => keep2 b o (rd.keep b o e)⟩ (Heap.get?_push_size _ rfl) (Heap.get?_push_of_some _ (Heap.get?_push_of_some _ ho1)) (by refine neN ?_; rw [hkS]; omega) (by rw [hkS]; exact gnone _ (by omega)) (gnone _ (by omega))
      (by refine neN ?_; rw [hkS]; have := ltN ltL; omega) (fun n c hc => by refine neN ?_; rw [hkS]; have := ltN (ltC n c hc); omega) hlen h64 turn fun h' tk out c g' hs' hk' hnew hold hD hout => ⟨_, rfl, ?_⟩
    have g'D : g' (s.heap.objs.size + 1) = none := by
      cases q : g' (s.heap.objs.size + 1) with
      | none => rfl
      | some o' =>
        rcases hnew _ o' q with h | h
        · rw [gnone _ (by omega)] at h; cases h
        · rw [show ((((H.update (s.heap.objs.size + 1) (Obj.mapSeq fun _ => (#[] : Array Value))).push (seqObj "tuple" vs.toArray 0)).push (seqObj "list" #[] 0))).get? (s.heap.objs.size + 1) = _ from Heap.get?_push_of_some _ (Heap.get?_push_of_some _ ho1)] at h; cases h
    have hall : ∀ b o, s.heap.get? b = some o → h'.get? b = some o := fun b o e => hold b o (by refine neN ?_; rw [hkS]; have := ltN (Heap.lt_size e); omega) (by refine neN ?_; have := ltN (Heap.lt_size e); omega) (keep2 b o e)
    refine wpAny_pure ⟨_, rfl, upd g' (s.heap.objs.size + 1) (seqObj "list" out c), ext_upd ⟨⟨h', tk, rfl, hall⟩, hs', hk', fun b o e => ?_⟩ (snone _ (by omega)) hD g'D, h g' _ _ out.toList hs' (gnone _ (by omega)) g'D ⟨c, by simp⟩ hout⟩
    rcases hnew b o e with h | h
    · exact .inl h
    · right
      cases q : s.heap.get? b with
      | none => rfl
      | some o' => have := keep2 b o' q; rw [show ((((H.update (s.heap.objs.size + 1) (Obj.mapSeq fun _ => (#[] : Array Value))).push (seqObj "tuple" vs.toArray 0)).push (seqObj "list" #[] 0))).get? b = none from h] at this; cases this

theorem ev_sorted {x : Str} {p pos kp : Pos} {e ke : Expr} {R : Value → GM → Prop}
    (hf : Do prog w A env g m cm (eval (.Name x p) env) (fun v _ => v = .builtin "sorted"))
    (h : ∀ g₁, Sub g g₁ → Do prog w A env g₁ m cm (eval e env) (fun xv g₂ => Do prog w A env g₂ m cm (eval ke env) (fun kv g₃ => Do prog w A env g₃ m cm (call (.builtin "sorted") [xv] [(Str.ofString "key", kv)]) R)))
    (he : backTo pos (starEach [e] env) = (false, eval e env) :: backTo pos (starEach [] env) := by rfl) (hse : starEach [e] env = (false, eval e env) :: starEach [] env := by rfl)
    (hp : (backTo pos (starEach [e] env)).any (·.1) = false := by rfl) (ha : (backToKw pos (keywordEach [⟨some "key", ke, kp⟩] env)).all (·.1.isSome) = true := by rfl)
    (hkw : (backToKw pos (keywordEach [⟨some "key", ke, kp⟩] env)).any (·.1.isNone) = false := by rfl)
    (hz : ∀ kv : Value, ((backToKw pos (keywordEach [⟨some "key", ke, kp⟩] env)).filterMap (·.1)).zip [kv] = [(Str.ofString "key", kv)] := by intro _; rfl) :
    Do prog w A env g m cm (eval (.Call (.Name x p) [e] [⟨some "key", ke, kp⟩] pos) env) R := fun s rd =>
  wpAny_Call_Name_kw (wpAny_mono (hf s rd) (fun v s₁ ⟨g₁, e₁, hv⟩ => by
    subst hv
    refine callWith_kw (args_cons (wpAny_mono (h g₁ e₁.sub s₁ (rd.ext e₁)) (fun xv s₂ ⟨g₂, e₂, h₂⟩ => args_nil (kwAll_cons (wpAny_mono (h₂ s₂ ((rd.ext e₁).ext e₂)) (fun kv s₃ ⟨g₃, e₃, h₃⟩ => kwAll_nil ?_) fun _ _ x => x))) fun _ _ x => x) hse) he hp ha hkw
    rw [hz]
    exact wpAny_mono (h₃ s₃ (((rd.ext e₁).ext e₂).ext e₃)) (fun _ _ ⟨g₄, e₄, h₄⟩ => ⟨g₄, ((e₁.trans e₂).trans e₃).trans e₄, h₄⟩) fun _ _ x => x) fun _ _ x => x)
end
end Mine
end

section
open PySem PySem.Calls PyProof.Rows PySem.W
namespace Mine
section
variable {prog : Program} {w : World} {A : Around} {env : Env} {g : GM} {m cm : Loc} {mb : Loc}

theorem ev_rstrip {o : Expr} {apos pos : Pos} {R : Value → GM → Prop} (h : Do prog w A env g m cm (eval o env) (fun v g₁ => ∃ x t, v = .str x t ∧ x.length ≤ sizeLine ∧ ∀ t', R (.str (Txt.rstrip x) t') g₁))
    (hbase : attributeBase o "rstrip" env (eval o env) = eval o env := by rfl) (hline : (apos.endLine == pos.line) = true := by rfl) :
    Do prog w A env g m cm (eval (.Call (.Attribute o "rstrip" apos) [] [] pos) env) R := fun s rd =>
  Call_method0 hbase hline (wpAny_mono (h s rd) (fun v s₁ ⟨g₁, e₁, x, t, hv, hsz, hr⟩ => by
    subst hv
    exact SB.rstrip (fun t' k => ⟨g₁, e₁.trans (Ext.toks e₁.keep k), hr t'⟩) hsz) fun _ _ x => x)

def commentS (x : Str) : Str := if (((Txt.rstrip x).length : Int) != 0) = true then Str.ofString "# " ++ Txt.rstrip x else Str.ofString "#"

theorem len_cat (x y : Str) : (x ++ y).length = x.length + y.length := by simp [Str.length_append]

theorem fn_comment (gl : Gl w mb g) {x : Str} {t : Tok} {R : Value → GM → Prop} {k : Nat} (rm : Rm A 1 (k + 3)) (hx : x.length ≤ 100000)
    (h : ∀ t g', Sub g g' → R (.str (commentS x) t) g') : Do prog w A env g m cm (call (.ref 50) [.str x t]) R := by
  have line : (100000 : Nat) + 1000 ≤ sizeLine := by rw [sizeLine_eq]; decide
  refine do_call_fn (d := 0) (u := k) rm (gl.K 50 _ rfl) rfl gl.lim (gl.code (by rfl)) rfl rfl rfl rfl (by decide) ?_
  intro s L gs hgs hsub hL nm rm'
  have hlen : (Txt.rstrip x).length ≤ x.length := len_rstrip x
  refine sx_cons (sx_assign nm rfl (ev_rstrip (ev_local rfl ⟨x, t, rfl, by omega, fun t' => ?_⟩)))
  refine ⟨_, _, .loc rfl, ?_⟩
  refine sx_cons (sx_if nm (is_value (ev_local setL_self (do_truthy_str (by omega) ?_))))
  have hc : commentS x = if (((Txt.rstrip x).length : Int) != 0) = true then Str.ofString "# " ++ Txt.rstrip x else Str.ofString "#" := rfl
  cases hb : (((Txt.rstrip x).length : Int) != 0) with
  | true =>
    rw [hb] at hc
    simp only [if_true] at hc ⊢
    refine sx_cons (sx_return nm (ev_bin (ev_const_str fun t₁ => ev_local setL_self (do_add_str ?_ fun t₂ => ⟨_, rfl, fun g'' hg _ => ?_⟩))))
    · have : (Str.ofString "# ").length = 2 := by decide
      omega
    · rw [← hc]; exact h t₂ g'' hg
  | false =>
    rw [hb] at hc
    simp only [Bool.false_eq_true, if_false] at hc ⊢
    refine sx_cons (sx_return nm (ev_const_str fun t₁ => ⟨_, rfl, fun g'' hg _ => ?_⟩))
    rw [← hc]; exact h t₁ g'' hg

def joinS (srt : List Str) : Str := srt.foldl (fun a n => a ++ n ++ Str.ofString " ") (Str.ofString "")
theorem joinS_snoc (l : List Str) (x : Str) : joinS (l ++ [x]) = joinS l ++ x ++ Str.ofString " " := by unfold joinS; rw [List.foldl_append]; rfl
def short (row : List Str) : Prop := ∀ x ∈ row, x.length ≤ 20
theorem fold_len : ∀ (l : List Str) (a : Str), short l → (l.foldl (fun a n => a ++ n ++ Str.ofString " ") a).length ≤ a.length + 21 * l.length
  | [], a, _ => by simp
  | x :: l, a, h => by
    have h1 := fold_len l (a ++ x ++ Str.ofString " ") fun y hy => h y (List.mem_cons_of_mem _ hy)
    have h2 := h x List.mem_cons_self
    have h3 : (Str.ofString " ").length = 1 := by decide
    rw [len_cat, len_cat, h3] at h1
    rw [List.foldl_cons, List.length_cons]
    omega
theorem joinS_len (l : List Str) (h : short l) : (joinS l).length ≤ 21 * l.length := by
  have := fold_len l (Str.ofString "") h
  have h0 : (Str.ofString "").length = 0 := by decide
  unfold joinS
  omega

theorem sa_map_snd {ks : List Str} {vs : List Value} (h : StrsAre vs ks) : ∀ ps : List (Str × Value), (∀ p ∈ ps, p ∈ ks.zip vs) → StrsAre (ps.map Prod.snd) (ps.map Prod.fst) := by
  have key : ∀ p ∈ ks.zip vs, ∃ t, p.2 = .str p.1 t := by
    induction h with
    | nil => intro p hp; simp at hp
    | cons y t h ih =>
      intro p hp
      rw [List.zip_cons_cons] at hp
      rcases List.mem_cons.mp hp with rfl | hp
      · exact ⟨t, rfl⟩
      · exact ih p hp
  intro ps
  induction ps with
  | nil => intro _; exact .nil
  | cons p ps ih =>
    intro hp
    obtain ⟨t, ht⟩ := key p (hp p List.mem_cons_self)
    rw [List.map_cons, List.map_cons, ht]
    exact .cons _ t (ih fun q hq => hp q (List.mem_cons_of_mem _ hq))

theorem fn_line (gl : Gl w mb g) {a : Addr} {vs : List Value} {row : List Str} {R : Value → GM → Prop} {k : Nat} (rm : Rm A 2 (k + 9))
    (ha : Lst g a vs) (hr : StrsAre vs row) (hl : row.length < 64) (hs : short row)
    (h : ∀ srt t g', Sub g g' → srt.Perm row → srt.Pairwise (fun a b => ¬ b.cps.toList < a.cps.toList) → R (.str (commentS (joinS srt)) t) g') : Do prog w A env g m cm (call (.ref 95) [.ref a]) R := by
  have line : (100000 : Nat) + 1000 ≤ sizeLine := by rw [sizeLine_eq]; decide
  refine do_call_fn (d := 1) (u := k + 6) rm (gl.K 95 _ rfl) rfl gl.lim (gl.code (by rfl)) rfl rfl rfl rfl (by decide) ?_
  intro s L gs hgs hsub hL nm rm'
  have glS : Gl w mb gs := gl.sub hsub
  have hlen := sa_length hr
  refine sx_cons (sx_assign nm rfl (ev_const_str fun t₀ => ⟨_, _, .loc rfl, ?_⟩))
  refine sx_cons (sx_for nm rfl ?_)
  refine ev_sorted (ev_builtin glS.g (mg_sorted w) glS.b (by rw [glS.hb _ (by decide)]; exact boot_sorted) rfl) fun g₁ hs₁ => ?_
  have gl₁ := glS.sub hs₁
  refine ev_local rfl (ev_global gl₁.g (mg_strxfrm w) ?_)
  refine do_sorted (ks := row) ((ha.sub hsub).sub hs₁) hlen.symm (by omega) (fun x => rfl) (fun i v k' g' hv hk hs' => ?_) fun g' D o out hs' hD hD' hLo hout => ?_
  · refine fn_strxfrm (gl₁.sub hs') (u := k + 1) (Rm.in1 (u := k + 4) (Rm.in1 (u := k + 5) rm')) fun g'' _ => ?_
    obtain ⟨y, t, hy, rfl⟩ := sa_get hr hv
    rw [hk] at hy; cases hy
    exact ⟨t, rfl⟩
  obtain ⟨ps, hperm, rfl, hsorted⟩ := hout
  have hz : (ks : List Str) → (ws : List Value) → ks.length = ws.length → (ks.zip ws).map Prod.fst = ks := fun ks ws e => by rw [List.map_fst_zip]; omega
  have hsrt : (ps.map Prod.fst).Perm row := by
    have := hperm.map Prod.fst
    rwa [hz row vs hlen.symm] at this
  have hpw : (ps.map Prod.fst).Pairwise (fun a b => ¬ b.cps.toList < a.cps.toList) := by rw [List.pairwise_map]; exact hsorted
  have hsa := sa_map_snd hr ps fun p hp => hperm.subset hp
  generalize hsg : ps.map Prod.fst = srt at hsrt hpw hsa
  generalize hog : ps.map Prod.snd = out at hLo hsa
  have hlen2 := sa_length hsa
  have hsh : short srt := fun x hx => hs x (hsrt.subset hx)
  have hll : srt.length = row.length := hsrt.length_eq
  refine ⟨_, out.length, _, Sub.refl _, src_list rm'.h (pl_upd hLo).lst, fun i g m cm => ∃ t, m "text" = some (.str (joinS (srt.take i)) t), ⟨t₀, rfl⟩, ?_, ?_⟩
  · rintro i v g₂ m₁ cm₁ own' hi hv hs₂ ⟨t, hm⟩
    obtain ⟨x, tx, hx, rfl⟩ := sa_get hsa hv
    refine ⟨_, _, .loc rfl, ?_⟩
    have hm' : setL m₁ "name" (.str x tx) "text" = some (.str (joinS (srt.take i)) t) := by rw [setL_ne (by decide)]; exact hm
    have step : joinS (srt.take (i + 1)) = joinS (srt.take i) ++ x ++ Str.ofString " " := by
      have : srt.take (i + 1) = srt.take i ++ [x] := by rw [List.take_add_one, hx]; rfl
      rw [this, joinS_snoc]
    have b1 := joinS_len (srt.take i) fun y hy => hsh y (List.mem_of_mem_take hy)
    have b2 := hsh x (List.mem_of_getElem? hx)
    have b3 : (srt.take i).length ≤ srt.length := List.length_take_le' _ _
    have b4 : (Str.ofString " ").length = 1 := by decide
    refine sx_cons (sx_assign nm rfl (ev_bin (ev_bin (ev_local hm' (ev_local setL_self (do_add_str (by omega) fun t₁ => ev_const_str fun t₂ => do_add_str (by rw [len_cat]; omega) fun t₃ => ?_))))))
    refine ⟨_, _, .loc rfl, sx_nil ⟨hs₂, t₃, ?_⟩⟩
    rw [setL_self, step]
  · rintro g₂ m₁ cm₁ hs₂ ⟨t, hm⟩
    rw [List.take_of_length_le (by omega)] at hm
    have hsub₂ : Sub gs g₂ := ((hs₁.trans hs').trans (upd_sub hD')).trans hs₂
    have gl₂ := glS.sub hsub₂
    have b1 := joinS_len srt hsh
    refine sx_cons (sx_return nm (ev_call (gl₂.K 50 _ rfl) rfl (ev_global gl₂.g (mg_comment w) rfl) fun g₃ hs₃ => ?_))
    refine do_args_cons (ev_local hm (do_args_nil (fn_comment (gl₂.sub hs₃) (rm'.less (by omega) (Nat.le_refl _)) (by omega) fun t₄ g₄ hs₄ => ?_)))
    exact ⟨_, rfl, fun g'' hg _ => h srt t₄ g'' hg hsrt hpw⟩
end
end Mine
end

section
open PySem PySem.Calls PyProof.Rows PySem.W
namespace Mine

inductive BytesAre : List Value → List (Array UInt8) → Prop
  | nil : BytesAre [] []
  | cons (y : Array UInt8) (t : Tok) {vs ys} : BytesAre vs ys → BytesAre (.bytes y t :: vs) (y :: ys)
theorem ba_get {vs : List Value} {ys : List (Array UInt8)} (h : BytesAre vs ys) : ∀ {i : Nat} {v : Value}, vs[i]? = some v → ∃ y t, ys[i]? = some y ∧ v = .bytes y t := by
  induction h with
  | nil => intro i v e; simp at e
  | cons y t h ih =>
    intro i v e
    cases i with
    | zero => simp at e; exact ⟨y, t, by simp, e.symm⟩
    | succ i => simpa using ih (by simpa using e)
theorem ba_get' {vs : List Value} {ys : List (Array UInt8)} (h : BytesAre vs ys) : ∀ {i : Nat} {y : Array UInt8}, ys[i]? = some y → ∃ t, vs[i]? = some (.bytes y t) := by
  induction h with
  | nil => intro i v e; simp at e
  | cons y t h ih =>
    intro i v e
    cases i with
    | zero => simp at e; exact ⟨t, by simp [e]⟩
    | succ i => simpa using ih (by simpa using e)
theorem ba_snoc {vs : List Value} {ys : List (Array UInt8)} (h : BytesAre vs ys) (y : Array UInt8) (t : Tok) : BytesAre (vs ++ [.bytes y t]) (ys ++ [y]) := by
  induction h with
  | nil => exact .cons y t .nil
  | cons z u h ih => exact .cons z u ih
theorem ba_reverse {vs : List Value} {ys : List (Array UInt8)} (h : BytesAre vs ys) : BytesAre vs.reverse ys.reverse := by
  induction h with
  | nil => exact .nil
  | cons z u h ih => rw [List.reverse_cons, List.reverse_cons]; exact ba_snoc ih z u
theorem ba_length {vs : List Value} {ys : List (Array UInt8)} (h : BytesAre vs ys) : vs.length = ys.length := by
  induction h with
  | nil => rfl
  | cons z u h ih => simp [ih]

def flagsB : List (Array UInt8) := [#[36, 74, 117, 110, 107], #[68, 114, 97, 102, 116], #[68, 114, 97, 102, 116, 115], #[92, 83, 101, 101, 110], #[100, 114, 97, 102, 116], #[126]]
def bitI (x : Int) (k : Nat) : Bool := (x.fdiv (2 ^ k)).fmod 2 == 1
def upToB (x : Int) (n : Nat) : List (Array UInt8) := (List.range n).flatMap fun k => if bitI x k = true then (flagsB[k]?).toList else []
def wordsB (x : Int) : List (Array UInt8) := if (x.fdiv 64).fmod 2 == 1 then (upToB x 6).reverse else upToB x 6

theorem upToB_succ (x : Int) (n : Nat) : upToB x (n + 1) = upToB x n ++ (if bitI x n = true then (flagsB[n]?).toList else []) := by
  unfold upToB; rw [List.range_succ, List.flatMap_append]; simp

section
variable {prog : Program} {w : World} {A : Around} {env : Env} {g : GM} {m cm : Loc} {mb : Loc}

theorem fn_words (gl : Gl w mb g) {x : Int} {t : Tok} {R : Value → GM → Prop} {k : Nat} (rm : Rm A 1 (k + 3))
    (h : ∀ D ys g', Sub g g' → g D = none → Pl g' D ys → BytesAre ys (wordsB x) → R (.ref D) g') : Do prog w A env g m cm (call (.ref 69) [.int x t]) R := by
  have line : (1000 : Nat) + 1000 ≤ sizeLine := by rw [sizeLine_eq]; decide
  refine do_call_fn (d := 0) (u := k) rm (gl.K 69 _ rfl) rfl gl.lim (gl.code (by rfl)) rfl rfl rfl rfl (by decide) ?_
  intro s L gs hgs hsub hL nm rm'
  have glS : Gl w mb gs := gl.sub hsub
  refine sx_cons (sx_assign nm rfl (ev_list ?_))
  refine do_args_cons (ev_const_bytes fun t0 => do_args_cons (ev_const_bytes fun t1 => do_args_cons (ev_const_bytes fun t2 => do_args_cons (ev_const_bytes fun t3 => do_args_cons (ev_const_bytes fun t4 => do_args_cons (ev_const_bytes fun t5 => do_args_nil ?_))))))
  refine do_newList (by simp; omega) fun F oF hF hFo => ?_
  refine ⟨_, _, .cell _ rfl rfl, ?_⟩
  have hBF : BytesAre _ flagsB := .cons _ t0 (.cons _ t1 (.cons _ t2 (.cons _ t3 (.cons _ t4 (.cons _ t5 .nil)))))
  generalize hvF : ([Value.bytes _ t0, Value.bytes _ t1, Value.bytes _ t2, Value.bytes _ t3, Value.bytes _ t4, Value.bytes _ t5] : List Value) = vF at hBF
  have hPF : Pl (upd gs F oF) F vF := by rw [← hvF]; exact pl_upd hFo
  have gl₁ : Gl w mb (upd gs F oF) := glS.sub (upd_sub hF)
  refine sx_cons (sx_assign_comp nm rfl rfl rfl (by repeat' first | exact True.intro | refine ⟨rfl, ?_⟩) (by decide) rfl (by decide) rfl ?_)
  refine ev_callt (T := "range") (ev_builtin gl₁.g (mg_range w) gl₁.b (by rw [gl₁.hb _ (by decide)]; exact boot_range) rfl) fun g₁ hs₁ => ?_
  refine do_args_cons (ev_const_int fun tr => do_args_nil (do_range1 (n := 6) fun Rg oR hRg hoR => ?_))
  have hsR : Sub (upd gs F oF) (upd g₁ Rg oR) := hs₁.trans (upd_sub hRg)
  refine ⟨_, 6, _, Sub.refl _, src_range0 rm'.h upd_self hoR (by decide) (by decide), by omega, fun i ys g' => BytesAre ys (upToB x i), .nil, ?_, ?_⟩
  · rintro C i v ys g' m' hi ⟨tv, rfl⟩ hs hm hly hI
    have hsF : Sub (upd gs F oF) g' := hsR.trans hs
    refine do_tests_one (is_cmp (ev_bin (ev_bin (ev_cell rfl (ev_bin (ev_const_int fun t1 => ev_local hm (do_pow_int (by omega) (by omega) (by decide) fun t2 => ?_)))))))
    have hpow : (2 : Int) ^ ((i : Int).toNat) = 2 ^ i := by simp
    rw [hpow]
    have hne : (2 : Int) ^ i ≠ 0 := by
      have : (2 : Int) ^ i = ((2 ^ i : Nat) : Int) := by simp
      rw [this]
      have := Nat.pos_of_ne_zero (show 2 ^ i ≠ 0 by simp)
      omega
    have hsm : ((2 : Int) ^ i).natAbs < 1073741824 := by
      have : (2 : Int) ^ i = ((2 ^ i : Nat) : Int) := by simp
      rw [this, Int.natAbs_natCast]
      have : 2 ^ i ≤ 2 ^ 6 := Nat.pow_le_pow_right (by decide) (by omega)
      omega
    refine do_floordiv_int hne hsm fun t3 => ev_const_int fun t4 => do_mod_int (by decide) fun t5 => ev_const_int fun t6 => do_eq_int (do_truthy_bool ?_)
    have hstep := upToB_succ x i
    show if bitI x i = true then _ else _
    cases hb : bitI x i with
    | false =>
      rw [hb] at hstep
      simp only [Bool.false_eq_true, if_false, List.append_nil] at hstep ⊢
      rw [hstep]; exact hI
    | true =>
      rw [hb] at hstep
      simp only [if_true] at hstep ⊢
      obtain ⟨y, hy⟩ : ∃ y, flagsB[i]? = some y := ⟨_, List.getElem?_eq_getElem (show i < flagsB.length by show i < 6; omega)⟩
      obtain ⟨ty, hty⟩ := ba_get' hBF hy
      refine ev_sub (ev_cell rfl (ev_local hm (do_item_list (hPF.sub hsF).lst (by omega) (by omega) (by simpa using hty) ?_)))
      rw [hstep, hy]
      exact ba_snoc hI y ty
  intro D o ys g₂ hs₂ hD hD' hLo hly hI
  have gD : gs D = none := by
    cases e : gs D with
    | none => rfl
    | some o' => have := hsR D o' (upd_sub hF D o' e); rw [hD] at this; cases this
  have hgD : g D = none := by
    cases e : g D with
    | none => rfl
    | some o' => have := hsub D o' e; rw [gD] at this; cases this
  have fin : ∀ (g₃ : GM) ys', Pl g₃ D ys' → BytesAre ys' (wordsB x) → ∀ g'' : GM, Sub g g'' → (∀ b, gs b = none → g'' b = g₃ b) → R (.ref D) g'' := fun g₃ ys' ⟨o', ho', hl'⟩ hb g'' hg hn =>
    h D ys' g'' hg hgD ⟨o', by rw [hn D gD]; exact ho', hl'⟩ hb
  refine sx_cons (sx_if nm (is_cmp (ev_bin (ev_bin (ev_cell rfl (ev_const_int fun t1 => do_floordiv_int (by decide) (by decide) fun t2 => ev_const_int fun t3 => do_mod_int (by decide) fun t4 => ev_const_int fun t5 => do_eq_int (do_truthy_bool ?_)))))))
  have hw : wordsB x = if ((x.fdiv 64).fmod 2 == 1) = true then (upToB x 6).reverse else upToB x 6 := rfl
  cases hb : ((x.fdiv 64).fmod 2 == 1) with
  | true =>
    rw [hb] at hw
    simp only [if_true] at hw ⊢
    refine sx_cons (sx_reverse nm (ev_local setL_self rfl) (pl_upd hLo) (by rw [← hgs]; exact gD) (by omega) fun g₃ o₃ hs₃ hLo₃ => sx_nil (sx_cons (sx_return nm (ev_local setL_self ⟨_, rfl, fin _ _ (pl_upd hLo₃) (by rw [hw]; exact ba_reverse hI)⟩))))
  | false =>
    rw [hb] at hw
    simp only [Bool.false_eq_true, if_false] at hw ⊢
    exact sx_nil (sx_cons (sx_return nm (ev_local setL_self ⟨_, rfl, fin _ _ (pl_upd hLo) (by rw [hw]; exact hI)⟩)))
end
end Mine
end

section
open PySem PySem.Calls PyProof.Rows PySem.W
namespace Mine
namespace FB2
theorem slot_bytes_join : Slot "bytes" "join" "bytes.join" :=
  .of (owner := "bytes") (n := "join") (by rw [typeLookup_type, builtinLookup_eq_fast]; kernel_rfl) (by decide +kernel) (by decide +kernel) (by decide +kernel)
    (by first | exact .inl (by decide +kernel) | exact .inr (by decide +kernel)) (by rw [isSubtype_type]; kernel_rfl)
theorem type_bytes_join : typeOf (.builtin "bytes.join") = pure (.type "method_descriptor") := by show builtinType _ = _; rw [builtinType_eq_fast]; kernel_rfl
theorem entry_bytes_join : entryFor table "bytes.join" = some Builtin.«bytes.join» := entryFor_of_tree (by kernel_rfl)
theorem args_bytes_join (a b : Value) : argsOk "bytes.join" ⟨[a, b], []⟩ := by unfold argsOk; kernel_rfl
theorem slot_bytes_split : Slot "bytes" "split" "bytes.split" :=
  .of (owner := "bytes") (n := "split") (by rw [typeLookup_type, builtinLookup_eq_fast]; kernel_rfl) (by decide +kernel) (by decide +kernel) (by decide +kernel)
    (by first | exact .inl (by decide +kernel) | exact .inr (by decide +kernel)) (by rw [isSubtype_type]; kernel_rfl)
theorem type_bytes_split : typeOf (.builtin "bytes.split") = pure (.type "method_descriptor") := by show builtinType _ = _; rw [builtinType_eq_fast]; kernel_rfl
theorem entry_bytes_split : entryFor table "bytes.split" = some Builtin.«bytes.split» := entryFor_of_tree (by kernel_rfl)
theorem args_bytes_split (a : Value) : argsOk "bytes.split" ⟨[a], []⟩ := by unfold argsOk; kernel_rfl
theorem args_bytes_decode_2 (a b : Value) : argsOk "bytes.decode" ⟨[a, b], []⟩ := by unfold argsOk; kernel_rfl
theorem slot_pattern_match : Slot "re.Pattern" "match" "re.Pattern.match" :=
  .of (owner := "re.Pattern") (n := "match") (by rw [typeLookup_type, builtinLookup_eq_fast]; kernel_rfl) (by decide +kernel) (by decide +kernel) (by decide +kernel)
    (by first | exact .inl (by decide +kernel) | exact .inr (by decide +kernel)) (by rw [isSubtype_type]; kernel_rfl)
theorem type_pattern_match : typeOf (.builtin "re.Pattern.match") = pure (.type "method_descriptor") := by show builtinType _ = _; rw [builtinType_eq_fast]; kernel_rfl
theorem entry_pattern_match : entryFor table "re.Pattern.match" = some Builtin.«re.Pattern.match» := entryFor_of_tree (by kernel_rfl)
theorem args_pattern_match (a b : Value) : argsOk "re.Pattern.match" ⟨[a, b], []⟩ := by unfold argsOk; kernel_rfl
theorem slot_match_group : Slot "re.Match" "group" "re.Match.group" :=
  .of (owner := "re.Match") (n := "group") (by rw [typeLookup_type, builtinLookup_eq_fast]; kernel_rfl) (by decide +kernel) (by decide +kernel) (by decide +kernel)
    (by first | exact .inl (by decide +kernel) | exact .inr (by decide +kernel)) (by rw [isSubtype_type]; kernel_rfl)
theorem type_match_group : typeOf (.builtin "re.Match.group") = pure (.type "method_descriptor") := by show builtinType _ = _; rw [builtinType_eq_fast]; kernel_rfl
theorem entry_match_group : entryFor table "re.Match.group" = some Builtin.«re.Match.group» := entryFor_of_tree (by kernel_rfl)
theorem args_match_group (a b : Value) : argsOk "re.Match.group" ⟨[a, b], []⟩ := by unfold argsOk; kernel_rfl
end FB2
end Mine
end

section
open PySem PySem.Calls PyProof.Rows PySem.W
namespace Mine
open PySem.Builtin

theorem wp_forRange {M : Model} {A : Around} {E : Value → Shared → Prop} {β : Type} {f : Nat → β → Sem (ForInStep β)} (I : Nat → β → Shared → Prop) {Q : β → Shared → Prop} (n : Nat)
    (step : ∀ i c s, i < n → I i c s → wpAny M A (f i c) (fun r s' => match r with | .done c' => Q c' s' | .yield c' => I (i + 1) c' s') E s)
    (fin : ∀ c s, I n c s → Q c s) (c : β) (s : Shared) (h : I 0 c s) : wpAny M A (forIn [0:n] c f) Q E s := by
  rw [Std.Legacy.Range.forIn_eq_forIn_range']
  have hsz : ([0:n] : Std.Legacy.Range).size = n := by simp [Std.Legacy.Range.size]
  show wpAny M A (forIn (List.range' 0 ([0:n] : Std.Legacy.Range).size 1) c f) Q E s
  rw [hsz]
  have key : ∀ (k i : Nat) (c : β) (s : Shared), i + k = n → I i c s → wpAny M A (forIn (List.range' i k 1) c f) Q E s := by
    intro k
    induction k with
    | zero => intro i c s e hI; rw [List.range'_zero, List.forIn_nil]; exact wpAny_pure (fin c s (by rw [← e]; exact hI))
    | succ k ih =>
      intro i c s e hI
      rw [List.range'_succ, List.forIn_cons]
      refine wpAny_bind (wpAny_mono (step i c s (by omega) hI) (fun r s' hr => ?_) fun _ _ x => x)
      cases r with
      | done c' => exact wpAny_pure hr
      | yield c' => exact ih (i + 1) c' s' (by omega) hr
  exact key n 0 c s (by omega) h

section
variable {prog : Program} {w : World} {A : Around} {E : Value → Shared → Prop} {s : Shared}

theorem takeQuiet_eq {id : String} {b : Array UInt8} {t : Tok} : Bytes.takeBufferQuiet? id (.bytes b t) 0 = pure (some (b, none)) := by
  unfold Bytes.takeBufferQuiet? Bytes.takeBuffer?
  rw [KBy.special_eq KBy.look_buffer, KBy.own_buffer]
  simp only [pure_bind]
  rw [show ((0 : Int) == Bytes.fullReadOnly) = false from by decide, KBy.buffer_eq]
  kernel_rfl
theorem wp_seqItems {l : Addr} {o : Obj} {xs : Array Value} {n : Nat} {Q : Option (Array Value) → Shared → Prop} (ho : s.heap.get? l = some o) (hd : o.data = .seq xs n) (h : Q (some xs) s) : wpAny (model prog w) A (seqItems? (.ref l)) Q E s := by
  unfold seqItems?
  refine wpAny_bind (wpAny_load ho ?_)
  rw [hd]
  exact wpAny_pure h

theorem joinLetGo_ : ∀ (taken : List (Value × Option Value)) (keep : List Value) (s : Shared) (Q : Unit → Shared → Prop), (∀ p ∈ taken, p.2 = none) → Q () s → wpAny (model prog w) A (Bytes.joinLetGo taken keep) Q E s
  | [], keep, s, Q, _, h => by unfold Bytes.joinLetGo; exact wpAny_pure h
  | (x, u) :: r, keep, s, Q, hn, h => by
    have hu : u = none := hn _ List.mem_cons_self
    subst hu
    unfold Bytes.joinLetGo
    refine wpAny_bind (wpAny_letGo ?_)
    exact joinLetGo_ r keep s Q (fun p hp => hn p (List.mem_cons_of_mem _ hp)) h

theorem wp_join {l : Addr} {vs : List Value} {ys : List (Array UInt8)} {sep : Array UInt8} {t : Tok} {P : PySem.Fin → Shared → Prop} (hl : s.heap.IsList l vs.toArray) (hb : BytesAre vs ys)
    (hsz : ys.foldl (· + ·.size) (sep.size * (ys.length - 1)) ≤ 16777216) (hsz2 : (Bytes.joined sep ys).size ≤ 16777216)
    (h : ∀ t' k, P (.done (.ret (.bytes (Bytes.joined sep ys) t'))) { s with toks := k }) : wpAny (model prog w) A («bytes.join» ⟨[.bytes sep t, .ref l], []⟩) P E s := by
  obtain ⟨o, ho, hc, n, hd⟩ := id hl
  show wpAny _ _ (Bytes.joinM .bytes ⟨[.bytes sep t, .ref l], []⟩) _ _ s
  unfold Bytes.joinM
  refine wpAny_bind (wpAny_of_eq (a := (Value.bytes sep t, Value.ref l)) rfl ?_)
  dsimp only
  rw [if_pos (by decide)]
  have hji : wpAny (model prog w) A (Bytes.joinItems (.ref l)) (fun v s' => v = .ref l ∧ s' = s) E s := by
    unfold Bytes.joinItems
    refine wpAny_bind (wpAny_typeOf (T := "list") ⟨o, ho, hc⟩ ?_)
    rw [if_pos (by decide)]
    exact wpAny_pure ⟨rfl, rfl⟩
  refine wpAny_bind (wpAny_mono hji (fun v s' ⟨e1, e2⟩ => ?_) fun _ _ x => x)
  subst e1; subst e2
  refine wpAny_bind (wp_seqItems ho hd ?_)
  dsimp only
  rw [if_pos (by decide)]
  have hlen := ba_length hb
  -- the loop
  have loop : ∀ (K : Array (Array UInt8) × List (Value × Option Value) → Sem PySem.Fin) (f : Nat → Array (Array UInt8) × List (Value × Option Value) → Sem (ForInStep (Array (Array UInt8) × List (Value × Option Value)))),
      (∀ i c, i < vs.toArray.size → c.1.toList = ys.take i → c.2.length = i → (∀ p ∈ c.2, p.2 = none ∧ p.1.onHeap = false) → wpAny (model prog w) A (f i c) (fun r s'' => s'' = s' ∧ ∃ c', r = .yield c' ∧ c'.1.toList = ys.take (i + 1) ∧ c'.2.length = i + 1 ∧ (∀ p ∈ c'.2, p.2 = none ∧ p.1.onHeap = false)) E s') →
      (∀ c, c.1.toList = ys → (∀ p ∈ c.2, p.2 = none ∧ p.1.onHeap = false) → wpAny (model prog w) A (K c) P E s') →
      wpAny (model prog w) A (forIn [0:vs.toArray.size] ((#[] : Array (Array UInt8)), ([] : List (Value × Option Value))) f >>= K) P E s' := by
    intro K f hf hK
    refine wpAny_bind (wp_forRange (fun i c s'' => s'' = s' ∧ c.1.toList = ys.take i ∧ c.2.length = i ∧ (∀ p ∈ c.2, p.2 = none ∧ p.1.onHeap = false)) vs.toArray.size ?_ ?_ _ _ ⟨rfl, rfl, rfl, by simp⟩)
    · rintro i c s'' hi ⟨rfl, h1, h2, h3⟩
      exact wpAny_mono (hf i c hi h1 h2 h3) (fun r s3 ⟨e, c', hr, q1, q2, q3⟩ => by subst hr; exact ⟨e, q1, q2, q3⟩) fun _ _ x => x
    · rintro c s'' ⟨rfl, h1, h2, h3⟩
      rw [List.take_of_length_le (by rw [List.size_toArray]; omega)] at h1
      exact hK c h1 h3
  -- what stands behind the loop
  have tail : ∀ c : Array (Array UInt8) × List (Value × Option Value), c.1.toList = ys → (∀ p ∈ c.2, p.2 = none ∧ p.1.onHeap = false) → ¬ (Bytes.tooLong (c.1.foldl (· + ·.size) (sep.size * (c.1.size - 1))) = true) ∧ c.1.size = ys.length := by
    intro c h1 h2
    have e1 : c.1.size = ys.length := by rw [← h1]; simp
    refine ⟨?_, e1⟩
    rw [← Array.foldl_toList, h1, e1, KBy.tooLong_not hsz]
    exact Bool.false_ne_true
  have body : ∀ (i : Nat) (c : Array (Array UInt8) × List (Value × Option Value)), i < vs.toArray.size → c.1.toList = ys.take i → c.2.length = i → (∀ p ∈ c.2, p.2 = none ∧ p.1.onHeap = false) →
      ∃ y ty, vs.toArray.getD i Value.none = .bytes y ty ∧ ys.take (i + 1) = ys.take i ++ [y] ∧ c.2.any (fun x => x.1.onHeap) = false := by
    intro i c hi h1 h2 h3
    rw [List.size_toArray] at hi
    obtain ⟨y, ty, hy, hv⟩ := ba_get hb (List.getElem?_eq_getElem hi)
    refine ⟨y, ty, ?_, ?_, ?_⟩
    · rw [Array.getD_eq_getD_getElem?, List.getElem?_toArray, List.getElem?_eq_getElem hi, hv]; rfl
    · rw [List.take_add_one, hy]; rfl
    · rw [List.any_eq_false]; intro p hp; rw [(h3 p hp).2]; exact Bool.false_ne_true
  have two : ∀ v1 v2 r, vs = v1 :: v2 :: r → ∀ (a b : Sem PySem.Fin), True := fun _ _ _ _ _ _ => True.intro
  rcases vs with _ | ⟨v1, _ | ⟨v2, r⟩⟩
  · refine loop _ _ (fun i c hi h1 h2 h3 => absurd hi (Nat.not_lt_zero _)) fun c h1 h3 => ?_
    obtain ⟨t1, t2⟩ := tail c h1 h3
    refine wpAny_bind (wpAny_of_eq (a := sep) rfl ?_)
    rw [if_neg t1, h1]
    refine wpAny_bind (wpAny_mkBytes ?_ (by rw [sizeLine_eq]; exact hsz2))
    refine wpAny_bind (wpAny_holding (wpAny_point ?_))
    refine wpAny_bind (joinLetGo_ _ _ _ _ (fun p hp => (h3 p hp).1) ?_)
    exact wpAny_pure (h _ _)
  · cases hb with
    | cons y ty hb' =>
      cases hb'
      refine wpAny_bind (wpAny_typeOf (T := "bytes") (typeIs_bytes _ _ _) ?_)
      rw [if_pos (by decide)]
      refine wpAny_bind (wpAny_rule (wpAny_pure ?_))
      have e : Bytes.joined sep [y] = y := by simp [Bytes.joined]
      have := h ty s'.toks
      rw [e] at this
      exact this
  · refine loop _ _ (fun i c hi h1 h2 h3 => ?_) fun c h1 h3 => ?_
    · obtain ⟨y, ty, hy, htk, hany⟩ := body i c hi h1 h2 h3
      refine wpAny_bind (wp_seqItems ho hd ?_)
      dsimp only
      rw [hany, hy]
      simp only [show ((Bytes.Kind.bytes == Bytes.Kind.bytearray) || false) = false from by decide, Bool.false_eq_true, if_false]
      refine wpAny_bind (wpAny_holding (wpAny_of_eq takeQuiet_eq ?_))
      dsimp only
      refine wpAny_bind (wp_seqItems ho hd ?_)
      dsimp only
      rw [if_neg (by simp)]
      refine wpAny_pure ⟨rfl, _, rfl, ?_, ?_, ?_⟩
      · rw [htk, ← h1]; simp
      · rw [List.length_append, List.length_singleton, h2]
      · intro p hp
        rcases List.mem_append.mp hp with hp | hp
        · exact h3 p hp
        · rw [List.mem_singleton.mp hp]; exact ⟨rfl, rfl⟩
    · obtain ⟨t1, t2⟩ := tail c h1 h3
      refine wpAny_bind (wpAny_of_eq (a := sep) rfl ?_)
      rw [if_neg t1, h1]
      refine wpAny_bind (wpAny_mkBytes ?_ (by rw [sizeLine_eq]; exact hsz2))
      refine wpAny_bind (wpAny_holding (wpAny_point ?_))
      refine wpAny_bind (joinLetGo_ _ _ _ _ (fun p hp => (h3 p hp).1) ?_)
      exact wpAny_pure (h _ _)
end
end Mine
end

section
open PySem PySem.Calls PyProof.Rows PySem.W
namespace Mine
section
variable {prog : Program} {w : World} {A : Around} {env : Env} {g : GM} {m cm : Loc} {mb : Loc}

theorem do_method {v : Value} {T : String} {name : Str} {id : String} {pl : Sem Bool} {R : Value × List Value → GM → Prop} (hT : ∀ s : Shared, Sub g s.heap.get? → s.TypeIs v T) (pa : PlainAttrs T) (slot : Slot T name id)
    (hty : typeOf (.builtin id) = pure (.type "method_descriptor")) (hd : ∀ (s : Shared), Sub g s.heap.get? → ∀ a, v = .ref a → ∃ o, s.heap.get? a = some o ∧ o.dict = none) (h : R (.builtin id, [v]) g) :
    Do prog w A env g m cm (getMethod v name pl) R := fun s rd =>
  getMethod_builtin (hT s rd.keep) pa slot hty (hd s rd.keep) ⟨g, Ext.refl rd.keep, h⟩

theorem do_method_bytes {b : Array UInt8} {t : Tok} {name : Str} {id : String} {pl : Sem Bool} {R : Value × List Value → GM → Prop} (slot : Slot "bytes" name id)
    (hty : typeOf (.builtin id) = pure (.type "method_descriptor")) (h : R (.builtin id, [.bytes b t]) g) : Do prog w A env g m cm (getMethod (.bytes b t) name pl) R :=
  do_method (fun s _ => typeIs_bytes _ _ _) FB.plainAttrs_bytes slot hty (fun _ _ _ e => nomatch e) h

theorem do_item_listG {value slice : Expr} {l : Addr} {vs : List Value} {v : Value} {a : Int} {t : Tok} {R : Value → GM → Prop} (hl : Lst g l vs) (h0 : 0 ≤ a) (hfit : a < 2 ^ 63) (hx : vs[a.toNat]? = some v) (h : R v g)
    (hs : subscripted slice false (.ref l) (.int a t) = operate [.ref l, .int a t] (getItem (.ref l) (.int a t)) := by with_unfolding_all rfl) :
    Do prog w A env g m cm (subscriptTail value slice (.ref l) (.int a t)) R := fun s rd => by
  have := item_listL (value := .Name "x" default) (slice := slice) (u := t) (prog := prog) (w := w) (A := A) (E := fun _ _ => False) (hl.is rd.keep) h0 hfit hx (Q := fun v s' => ∃ g', Ext s g s' g' ∧ R v g') ⟨g, Ext.refl rd.keep, h⟩ hs (fun _ => rfl)
  unfold subscriptTail at this ⊢
  have e : ∀ r : Value, letTemporaryGo (.Name "x" default) (.ref l) r = pure () := fun _ => rfl
  obtain ⟨o, ho, hc, n, hd⟩ := hl.is rd.keep
  have hT : s.TypeIs (.ref l) "list" := ⟨o, ho, hc⟩
  refine wpAny_bind ?_
  rw [getitemInPython_of_ne hT.not_modules]
  refine wpAny_bind (wpAny_specialOf hT slot_list_getitem.lookup ?_)
  have fin : wpAny (model prog w) A (subscripted slice false (.ref l) (.int a t)) (fun r s₃ => wpAny (model prog w) A (letTemporaryGo value (.ref l) r >>= fun _ => pure r) (fun v s' => ∃ g', Ext s g s' g' ∧ R v g') (fun _ _ => False) s₃) (fun _ _ => False) s := by
    rw [hs]
    refine wpAny_operating (wpAny_mono (wpAny_getItem_list (hl.is rd.keep) h0 hfit (by simpa using hx) (Q := fun r s' => r = v ∧ s' = s) ⟨rfl, rfl⟩) (fun r s₃ h₃ => ?_) fun _ _ x => x)
    obtain ⟨rfl, rfl⟩ := h₃
    exact wpAny_bind (wpAny_letTemporaryGo (wpAny_pure ⟨g, Ext.refl rd.keep, h⟩))
  first
    | exact wpAny_pure (wpAny_bind fin)
    | exact wpAny_bind (wpAny_pure (wpAny_bind fin))
    | exact wpAny_bind fin

theorem do_bjoin {l : Addr} {vs : List Value} {ys : List (Array UInt8)} {sep : Array UInt8} {t : Tok} {R : Value → GM → Prop} (hl : Lst g l vs) (hb : BytesAre vs ys)
    (hsz : ys.foldl (· + ·.size) (sep.size * (ys.length - 1)) ≤ 16777216) (hsz2 : (Builtin.Bytes.joined sep ys).size ≤ 16777216)
    (h : ∀ t', R (.bytes (Builtin.Bytes.joined sep ys) t') g) : Do prog w A env g m cm (call (.builtin "bytes.join") [.bytes sep t, .ref l]) R := fun s rd => by
  refine wpAny_call (codeAny_call_builtin FB2.slot_bytes_join.plain FB2.entry_bytes_join (FB2.slot_bytes_join.check _ _ _ _ _ _ _ _ (typeIs_bytes _ _ _) (FB2.args_bytes_join _ _) ?_))
  exact wp_join (hl.is rd.keep) hb hsz hsz2 fun t' k => ⟨g, Ext.toks rd.keep k, h t'⟩
end
end Mine
end

section
open PySem PySem.Calls PyProof.Rows PySem.W
namespace Mine

theorem upTo_sub (x : Int) : ∀ n, ∀ p ∈ upToB x n, p ∈ flagsB
  | 0, p, h => by simp [upToB] at h
  | n + 1, p, h => by
    rw [upToB_succ] at h
    rcases List.mem_append.mp h with h | h
    · exact upTo_sub x n p h
    · by_cases hb : bitI x n = true
      · rw [if_pos hb] at h
        rw [Option.mem_toList] at h
        exact List.mem_of_getElem? h
      · rw [if_neg hb] at h; simp at h
theorem words_sub (x : Int) : ∀ p ∈ wordsB x, p ∈ flagsB := by
  intro p h
  unfold wordsB at h
  by_cases hb : ((x.fdiv 64).fmod 2 == 1) = true
  · rw [if_pos hb] at h; exact upTo_sub x 6 p (List.mem_reverse.mp h)
  · rw [if_neg hb] at h; exact upTo_sub x 6 p h
theorem upTo_len (x : Int) : ∀ n, (upToB x n).length ≤ n
  | 0 => by simp [upToB]
  | n + 1 => by
    have h1 := upTo_len x n
    have h2 : (if bitI x n = true then (flagsB[n]?).toList else []).length ≤ 1 := by
      split
      · cases flagsB[n]? with
        | none => simp
        | some y => simp
      · simp
    rw [upToB_succ, List.length_append]
    omega
theorem words_len (x : Int) : (wordsB x).length ≤ 6 := by
  have h := upTo_len x 6
  unfold wordsB
  split
  · rw [List.length_reverse]; exact h
  · exact h
theorem flags_size : ∀ p ∈ flagsB, p.size ≤ 6 := by decide
theorem fold_size : ∀ (l : List (Array UInt8)) (a : Nat), (∀ p ∈ l, p.size ≤ 6) → l.foldl (· + ·.size) a ≤ a + 6 * l.length
  | [], a, _ => by simp
  | x :: l, a, h => by
    have h1 := fold_size l (a + x.size) fun p hp => h p (List.mem_cons_of_mem _ hp)
    have h2 := h x List.mem_cons_self
    rw [List.foldl_cons, List.length_cons]
    omega
theorem joined_size (sep : Array UInt8) : ∀ (parts : List (Array UInt8)) (k : Nat) (acc : Array UInt8), (∀ p ∈ parts, p.size ≤ 6) →
    (((parts.zipIdx k).foldl (fun out (x : Array UInt8 × Nat) => (if x.2 > 0 then out ++ sep else out) ++ x.1) acc)).size ≤ acc.size + parts.length * (sep.size + 6)
  | [], k, acc, h => by simp
  | x :: r, k, acc, h => by
    have h1 := joined_size sep r (k + 1) ((if k > 0 then acc ++ sep else acc) ++ x) fun p hp => h p (List.mem_cons_of_mem _ hp)
    have h2 := h x List.mem_cons_self
    have h3 : (if k > 0 then acc ++ sep else acc).size ≤ acc.size + sep.size := by
      split
      · rw [Array.size_append]; exact Nat.le_refl _
      · exact Nat.le_add_right _ _
    rw [List.zipIdx_cons, List.foldl_cons, List.length_cons, Nat.add_mul, Nat.one_mul]
    rw [Array.size_append] at h1
    dsimp only
    omega
end Mine
end

section
open PySem PySem.Calls PyProof.Rows PySem.W
namespace Mine

def gapsB : List (Array UInt8) := [#[32], #[9, 32], #[13, 10]]
def gapB (x : Int) : Array UInt8 := (gapsB[((x.fdiv 128).fmod 3).toNat]?).getD #[]
def shownB (x : Int) : Array UInt8 := Builtin.Bytes.joined (gapB x) (wordsB x)
def b1 : Array UInt8 := "* 1 FETCH (FLAGS (".toUTF8.data
def answerB (x : Int) : Array UInt8 :=
  if x < 384 then #[42, 32, 49, 32, 70, 69, 84, 67, 72, 32, 40, 70, 76, 65, 71, 83, 32, 40] ++ shownB x ++ #[41, 41]
  else if x < 768 then #[42, 32, 49, 32, 70, 69, 84, 67, 72, 32, 40, 80, 69, 82, 77, 65, 78, 69, 78, 84, 70, 76, 65, 71, 83, 32, 40, 126, 32, 68, 114, 97, 102, 116, 41, 32, 70, 76, 65, 71, 83, 32, 40] ++ shownB x ++ #[41, 32, 70, 76, 65, 71, 83, 32, 40, 100, 114, 97, 102, 116]
  else #[42, 32, 49, 32, 70, 69, 84, 67, 72, 32, 40, 70, 76, 65, 71, 83, 32, 40] ++ shownB x

theorem gap_size (x : Int) : (gapB x).size ≤ 2 := by
  unfold gapB
  generalize ((x.fdiv 128).fmod 3).toNat = i
  match i with
  | 0 | 1 | 2 => decide
  | i + 3 => exact Nat.zero_le _
theorem shown_small : ∀ n < 1152, (wordsB ((n : Nat) : Int)).foldl (· + ·.size) ((gapB n).size * ((wordsB n).length - 1)) ≤ 100 ∧ (shownB n).size ≤ 100 ∧ ((((n : Nat) : Int).fdiv 128).fmod 3).toNat < 3 := by
  intro n _
  have hs : ∀ p ∈ wordsB (n : Int), p.size ≤ 6 := fun p hp => flags_size p (words_sub _ p hp)
  have hl := words_len (n : Int)
  have hg := gap_size (n : Int)
  have hm1 : ((n : Int).fdiv 128).fmod 3 < 3 := Int.fmod_lt_of_pos _ (by decide)
  have hm0 : 0 ≤ ((n : Int).fdiv 128).fmod 3 := Int.fmod_nonneg_of_pos _ (by decide)
  refine ⟨?_, ?_, by omega⟩
  · have h1 := fold_size (wordsB (n : Int)) ((gapB n).size * ((wordsB n).length - 1)) hs
    have h2 : (gapB (n : Int)).size * ((wordsB (n : Int)).length - 1) ≤ 2 * 5 := Nat.mul_le_mul hg (by omega)
    omega
  · have h1 := joined_size (gapB (n : Int)) (wordsB (n : Int)) 0 #[] hs
    have h2 : (wordsB (n : Int)).length * ((gapB (n : Int)).size + 6) ≤ 6 * 8 := Nat.mul_le_mul hl (by omega)
    have h3 : (shownB (n : Int)).size ≤ (#[] : Array UInt8).size + (wordsB (n : Int)).length * ((gapB (n : Int)).size + 6) := h1
    have h4 : (#[] : Array UInt8).size = 0 := rfl
    omega

section
variable {prog : Program} {w : World} {A : Around} {env : Env} {g : GM} {m cm : Loc} {mb : Loc}

theorem cast_bytes {R : Value → GM → Prop} {a b : Array UInt8} {t : Tok} {g : GM} (h : R (.bytes a t) g) (e : a = b) : R (.bytes b t) g := e ▸ h
theorem cat2 {a a' b b' c : Array UInt8} (e : a = a') (e' : b = b') : a ++ c ++ b = a' ++ c ++ b' := by rw [e, e']
theorem fn_answer (gl : Gl w mb g) {x : Nat} {t : Tok} {R : Value → GM → Prop} {k : Nat} (rm : Rm A 2 (k + 6)) (hx : x < 1152)
    (h : ∀ t g', Sub g g' → R (.bytes (answerB x) t) g') : Do prog w A env g m cm (call (.ref 76) [.int (x : Int) t]) R := by
  refine do_call_fn (d := 1) (u := k + 3) rm (gl.K 76 _ rfl) rfl gl.lim (gl.code (by rfl)) rfl rfl rfl rfl (by decide) ?_
  intro s L gs hgs hsub hL nm rm'
  have glS : Gl w mb gs := gl.sub hsub
  obtain ⟨s1, s2, s3⟩ := shown_small x hx
  refine sx_cons (sx_assign nm rfl (ev_sub (ev_list ?_)))
  refine do_args_cons (ev_const_bytes fun t0 => do_args_cons (ev_const_bytes fun t1 => do_args_cons (ev_const_bytes fun t2 => do_args_nil ?_)))
  refine do_newList (by simp [sizeLine_eq]) fun F oF hF hFo => ?_
  have hBF : BytesAre _ gapsB := .cons _ t0 (.cons _ t1 (.cons _ t2 .nil))
  obtain ⟨y, hy⟩ : ∃ y, gapsB[(((x : Int).fdiv 128).fmod 3).toNat]? = some y := ⟨_, List.getElem?_eq_getElem (show _ < gapsB.length from s3)⟩
  have hyg : gapB x = y := by unfold gapB; rw [hy]; rfl
  obtain ⟨ty, hty⟩ := ba_get' hBF hy
  have gl₁ : Gl w mb (upd gs F oF) := glS.sub (upd_sub hF)
  have hm0 : 0 ≤ ((x : Int).fdiv 128).fmod 3 := Int.fmod_nonneg_of_pos _ (by decide)
  have hm1 : ((x : Int).fdiv 128).fmod 3 < 3 := Int.fmod_lt_of_pos _ (by decide)
  refine ev_bin (ev_bin (ev_local rfl (ev_const_int fun t1 => do_floordiv_int (by decide) (by decide) fun t2 => ev_const_int fun t3 => do_mod_int (by decide) fun t4 => ?_)))
  refine do_item_listG (pl_upd hFo).lst hm0 (by omega) hty ⟨_, _, .loc rfl, ?_⟩
  refine sx_cons (sx_assign nm rfl (ev_meth1 (ev_local rfl ⟨"bytes.join", do_method_bytes FB2.slot_bytes_join FB2.type_bytes_join ⟨_, rfl, ?_⟩⟩)))
  refine do_args_cons (ev_call (gl₁.K 69 _ rfl) rfl (ev_global gl₁.g (mg_words w) rfl) fun g₁ hs₁ => ?_)
  refine do_args_cons (ev_local rfl (do_args_nil (fn_words (gl₁.sub hs₁) (k := k) (rm'.less (by omega) (by omega)) fun D ys g₂ hs₂ hD hP hB => ?_)))
  refine do_args_nil (do_bjoin hP.lst hB (by rw [← hyg]; exact Nat.le_trans s1 (by decide)) (by rw [← hyg]; exact Nat.le_trans s2 (by decide)) fun tj => ⟨_, _, .loc rfl, ?_⟩)
  have hsh : Builtin.Bytes.joined y (wordsB x) = shownB x := by unfold shownB; rw [hyg]
  rw [hsh]
  have ha : answerB x = if (x : Int) < 384 then _ else if (x : Int) < 768 then _ else _ := rfl
  refine sx_cons (sx_if nm (is_cmp (ev_local rfl (ev_const_int fun u1 => do_lt_int (do_truthy_bool ?_)))))
  have big : (16777216 : Nat) = 16777216 := rfl
  by_cases h1 : (x : Int) < 384
  · rw [if_pos h1] at ha
    simp only [h1, decide_true, if_true]
    refine sx_cons (sx_return nm (ev_bin (ev_bin (ev_const_bytes fun v1 => ev_local rfl (do_add_bytes ?_ fun v2 => ev_const_bytes fun v3 => do_add_bytes ?_ fun v4 => ⟨_, rfl, fun g'' hg _ => ?_⟩)))))
    · simp only [List.size_toArray, List.length_cons, List.length_nil]; omega
    · simp only [Array.size_append, List.size_toArray, List.length_cons, List.length_nil]; omega
    · exact cast_bytes (h v4 g'' hg) (by rw [ha])
  · rw [if_neg h1] at ha
    simp only [h1, decide_false, Bool.false_eq_true, if_false]
    refine sx_nil (sx_cons (sx_if nm (is_cmp (ev_local rfl (ev_const_int fun u1 => do_lt_int (do_truthy_bool ?_))))))
    by_cases h2 : (x : Int) < 768
    · rw [if_pos h2] at ha
      simp only [h2, decide_true, if_true]
      refine sx_cons (sx_return nm (ev_bin (ev_bin (ev_const_bytes fun v1 => ev_local rfl (do_add_bytes ?_ fun v2 => ev_const_bytes fun v3 => do_add_bytes ?_ fun v4 => ⟨_, rfl, fun g'' hg _ => ?_⟩)))))
      · simp only [List.size_toArray, List.length_cons, List.length_nil]; omega
      · simp only [Array.size_append, List.size_toArray, List.length_cons, List.length_nil]; omega
      · exact cast_bytes (h v4 g'' hg) (by rw [ha])
    · rw [if_neg h2] at ha
      simp only [h2, decide_false, Bool.false_eq_true, if_false]
      refine sx_nil (sx_cons (sx_return nm (ev_bin (ev_const_bytes fun v1 => ev_local rfl (do_add_bytes ?_ fun v2 => ⟨_, rfl, fun g'' hg _ => ?_⟩)))))
      · simp only [List.size_toArray, List.length_cons, List.length_nil]; omega
      · exact cast_bytes (h v2 g'' hg) (by rw [ha])
end
end Mine
end

section
open PySem PySem.Calls PyProof.Rows PySem.W
namespace Mine
open PySem.Sre (M)
def codeA : Array Nat := #[14, 4, 0, 8, 4294967295, 24, 5, 0, 4294967295, 2, 1, 16, 70, 16, 76, 16, 65, 16, 71, 16, 83, 16, 32, 16, 40, 17, 0, 24, 6, 0, 4294967295, 20, 41, 1, 17, 1, 16, 41, 1]

def St (text : Array Nat) (sn : Sre.Seen) (mk : Array (Option Nat)) (hd pc pos : Nat) (lm li : Int) (fr : List Sre.Frame) (wt : Nat) (an : Option Bool) (oc : Option Sre.Outcome) : M :=
  { code := codeA, text, lim := text.size, start := 0, pc, pos, handed := hd, marks := mk, lastmark := lm, lastindex := li, frames := fr, weight := wt, answer := an, seen := sn, outcome := oc }

def Rch (n : Nat) (m m' : M) : Prop := ∃ k ≤ n, M.runFor k m = m'

theorem runFor_out : ∀ (k : Nat) (m : M), m.outcome.isSome = true → M.runFor k m = m
  | 0, m, _ => rfl
  | k + 1, m, h => by unfold M.runFor; rw [if_pos h]
theorem runFor_add : ∀ (a b : Nat) (m : M), M.runFor (a + b) m = M.runFor b (M.runFor a m)
  | 0, b, m => by rw [Nat.zero_add]; rfl
  | a + 1, b, m => by
    rw [show a + 1 + b = (a + b) + 1 from by omega]
    by_cases h : m.outcome.isSome = true
    · rw [runFor_out _ _ h, runFor_out _ _ h, runFor_out _ _ h]
    · rw [M.runFor, M.runFor, if_neg h, if_neg h]
      exact runFor_add a b _
theorem Rch.refl {n : Nat} {m : M} : Rch n m m := ⟨0, Nat.zero_le _, rfl⟩
theorem Rch.trans {a b n : Nat} {m m' m'' : M} (x : Rch a m m') (y : Rch b m' m'') (h : a + b ≤ n) : Rch n m m'' := by
  obtain ⟨k, hk, rfl⟩ := x
  obtain ⟨l, hl, rfl⟩ := y
  exact ⟨k + l, by omega, runFor_add k l m⟩
theorem Rch.one {m m' : M} (h : m.step = m') (ho : m.outcome = none) : Rch 1 m m' := ⟨1, Nat.le_refl _, by rw [M.runFor, ho]; exact h⟩
theorem Rch.step {n k : Nat} {m m' m'' : M} (h : m.step = m') (ho : m.outcome = none) (r : Rch n m' m'') (hk : n + 1 ≤ k) : Rch k m m'' := (Rch.one h ho).trans r (by omega)

section
variable {text : Array Nat} {sn : Sre.Seen} {mk : Array (Option Nat)} {hd pc pos : Nat} {lm li : Int} {fr : List Sre.Frame} {wt : Nat}

theorem step_lit_ok (hop : Sre.ops[codeA.getD pc 0]? = some .LITERAL) (hpc : pc < 39) (hp : pos < text.size) (hc : text.getD pos 0 = codeA.getD (pc + 1) 0) :
    ∃ sn', (St text sn mk hd pc pos lm li fr wt none none).step = St text sn' mk hd (pc + 2) (pos + 1) lm li fr wt none none := by
  refine ⟨sn.add (codeA.getD pc 0), ?_⟩
  have hpc' : pc < codeA.size := hpc
  have hb : (text.getD pos 0 == codeA.getD (pc + 1) 0) = true := by rw [hc]; exact beq_self_eq_true _
  have hp' : ¬ pos ≥ text.size := Nat.not_le.mpr hp
  simp only [M.step, St, Option.isSome_none, Bool.false_eq_true, if_false, if_pos hpc', M.exec, M.word, Nat.add_zero, hop, if_neg hp', Sre.accepts, hb, Sre.itemWidth]
theorem step_lit_no (hop : Sre.ops[codeA.getD pc 0]? = some .LITERAL) (hpc : pc < 39) (hc : pos < text.size → text.getD pos 0 ≠ codeA.getD (pc + 1) 0) :
    ∃ sn', (St text sn mk hd pc pos lm li fr wt none none).step = St text sn' mk hd pc pos lm li fr wt (some false) none := by
  refine ⟨sn.add (codeA.getD pc 0), ?_⟩
  have hpc' : pc < codeA.size := hpc
  by_cases hp : pos < text.size
  · have hb : (text.getD pos 0 == codeA.getD (pc + 1) 0) = false := by rw [beq_eq_false_iff_ne]; exact hc hp
    have hp' : ¬ pos ≥ text.size := Nat.not_le.mpr hp
    simp only [M.step, St, Option.isSome_none, Bool.false_eq_true, if_false, if_pos hpc', M.exec, M.word, Nat.add_zero, hop, if_neg hp', Sre.accepts, hb, Sre.itemWidth, M.say]
  · have hp' : pos ≥ text.size := Nat.not_lt.mp hp
    simp only [M.step, St, Option.isSome_none, Bool.false_eq_true, if_false, if_pos hpc', M.exec, M.word, Nat.add_zero, hop, M.say]
    exact if_pos hp'

theorem step_mark {i : Nat} (hop : Sre.ops[codeA.getD pc 0]? = some .MARK) (hi : codeA.getD (pc + 1) 0 = i) (hpc : pc < 39) (hl : (i : Int) ≤ lm + 1) :
    ∃ sn', (St text sn mk hd pc pos lm li fr wt none none).step = St text sn' (mk.setIfInBounds i (some pos)) hd (pc + 2) pos (max lm i) (if i % 2 == 1 then (i / 2 + 1 : Nat) else li) fr wt none none := by
  refine ⟨sn.add (codeA.getD pc 0), ?_⟩
  have hpc' : pc < codeA.size := hpc
  simp only [M.step, St, Option.isSome_none, Bool.false_eq_true, if_false, if_pos hpc', M.exec, M.word, Nat.add_zero, hop, hi, M.mark, if_pos hl]

def keptA (lm : Int) : Sre.Kept := { lastmark := lm, lastindex := -1, whole := false, marks := #[] }
def frA (pc p : Nat) (c : Int) (lm : Int) : Sre.Frame := { wait := .giveBack, pc := pc, pos := p, outermost := true, count := c, kept := keptA lm }

theorem step_success (hop : Sre.ops[codeA.getD pc 0]? = some .SUCCESS) (hpc : pc < 39) :
    ∃ sn', (St text sn mk hd pc pos lm li fr wt none none).step = St text sn' mk pos pc pos lm li fr wt (some true) none := by
  refine ⟨sn.add (codeA.getD pc 0), ?_⟩
  have hpc' : pc < codeA.size := hpc
  simp only [M.step, St, Option.isSome_none, Bool.false_eq_true, if_false, if_pos hpc', M.exec, M.word, Nat.add_zero, hop, M.say, Bool.false_and, Bool.and_false, Bool.or_false]

theorem step_yes {pc' p : Nat} {c lm' : Int} : (St text sn mk hd pc pos lm li (frA pc' p c lm' :: fr) wt (some true) none).step = St text sn mk hd pc' p lm li fr (wt - 1) (some true) none := by
  simp only [M.step, St, Option.isSome_none, Bool.false_eq_true, if_false, M.resume, frA, keptA, M.say, if_true, Array.size_empty, Nat.add_zero]
theorem step_end {b : Bool} : (St text sn mk hd pc pos lm li [] wt (some b) none).step = St text sn mk hd pc pos lm li [] wt (some b) (some (if b then .matched else .failed)) := by
  simp only [M.step, St, Option.isSome_none, Bool.false_eq_true, if_false]
theorem putBack_eq {lm' : Int} {an : Option Bool} {oc : Option Sre.Outcome} : (St text sn mk hd pc pos lm li fr wt an oc).putBack (keptA lm') = St text sn mk hd pc pos lm' (-1) fr wt an oc := by
  simp only [M.putBack, St, keptA, Bool.false_eq_true, if_false]
theorem step_back {pc' p : Nat} {c : Nat} {lm' : Int} (hw : codeA.getD (pc' + 2) 0 = 0) (hwt : wt ≤ 100) (h0 : 0 < wt) :
    (St text sn mk hd pc pos lm li (frA pc' (p + 1) ((c + 1 : Nat) : Int) lm' :: fr) wt (some false) none).step =
      St text sn mk p (pc' + 1 + codeA.getD (pc' + 1) 0) p lm' (-1) (frA pc' p (c : Int) lm' :: fr) wt none none := by
  have h1 : ¬ (((c + 1 : Nat) : Int) - 1 < 0) := by omega
  have h2 : ((c + 1 : Nat) : Int) - 1 = (c : Int) := by omega
  have h3 : ¬ (wt - (1 + 0) + 1 + 0 > 16777216) := by omega
  have h4 : wt - (1 + 0) + 1 + 0 = wt := by omega
  simp only [M.step, St, Option.isSome_none, Bool.false_eq_true, if_false, M.resume, frA, M.word, hw, Array.size_empty, keptA, M.putBack, if_neg h1, Int.natCast_zero, M.afterRun, M.attempt, M.frame, if_neg h3, h2, h4, Nat.add_sub_cancel]
  rw [if_neg (by omega), if_neg (by omega)]
  rfl
theorem step_none {pc' p : Nat} {lm' : Int} (hw : codeA.getD (pc' + 2) 0 = 0) :
    (St text sn mk hd pc pos lm li (frA pc' p 0 lm' :: fr) wt (some false) none).step = St text sn mk hd pc' p lm' (-1) fr (wt - 1) (some false) none := by
  have h1 : ((0 : Int) - 1 < 0) := by omega
  simp only [M.step, St, Option.isSome_none, Bool.false_eq_true, if_false, M.resume, frA, M.word, hw, Array.size_empty, keptA, M.putBack, Int.natCast_zero, if_pos h1, M.say, Nat.add_zero]

/-- how far a run of one class goes -/
def far (ok : Nat → Bool) (text : Array Nat) : Nat → Nat → Nat
  | 0, p => p
  | n + 1, p => if ok (text.getD p 0) then far ok text n (p + 1) else p
theorem far_run {ok : Nat → Bool} {i : Nat} (h : ∀ c sn, ∃ sn', Sre.accepts codeA i c sn = .ok (ok c, sn')) : ∀ (n p f : Nat) (sn : Sre.Seen), ∃ sn', Sre.run codeA text i n p f sn = .ok (f + (far ok text n p - p), sn') ∧ p ≤ far ok text n p
  | 0, p, f, sn => ⟨sn, by simp [Sre.run, far], Nat.le_refl _⟩
  | n + 1, p, f, sn => by
    obtain ⟨sn₁, h₁⟩ := h (text.getD p 0) sn
    unfold Sre.run far
    rw [h₁]
    cases hb : ok (text.getD p 0) with
    | false => exact ⟨sn₁, by simp [bind, Except.bind, pure, Except.pure], by simp⟩
    | true =>
      obtain ⟨sn₂, h₂, h₃⟩ := far_run h n (p + 1) (f + 1) sn₁
      refine ⟨sn₂, ?_, by simp only [if_true]; omega⟩
      simp only [bind, Except.bind, if_true, h₂]
      congr 2
      omega

theorem step_repeat {ok : Nat → Bool} (hop : Sre.ops[codeA.getD pc 0]? = some .REPEAT_ONE) (hpc : pc < 39) (hok : ∀ c sn, ∃ sn', Sre.accepts codeA (pc + 4) c sn = .ok (ok c, sn'))
    (h2 : codeA.getD (pc + 2) 0 = 0) (h3 : codeA.getD (pc + 3) 0 = 4294967295) (hsz : text.size ≤ 4294967295) (hp : pos ≤ text.size) (hwt : wt ≤ 100) (hli : li = -1) :
    ∃ sn', (St text sn mk hd pc pos lm li fr wt none none).step =
      St text sn' mk (far ok text (text.size - pos) pos) (pc + 1 + codeA.getD (pc + 1) 0) (far ok text (text.size - pos) pos) lm li (frA pc (far ok text (text.size - pos) pos) ((far ok text (text.size - pos) pos - pos : Nat) : Int) lm :: fr) (wt + 1) none none := by
  subst hli
  obtain ⟨sn', hr, hle⟩ := far_run (text := text) hok (text.size - pos) pos 0 ((sn.add (codeA.getD pc 0)).add (codeA.getD (pc + 4) 0))
  refine ⟨sn', ?_⟩
  have hpc' : pc < codeA.size := hpc
  have e0 : ¬ ((((0 : Nat) : Int)) > (text.size : Int) - (pos : Int)) := by omega
  have e1 : min 4294967295 ((text.size : Int) - (pos : Int)).toNat = text.size - pos := by
    have : ((text.size : Int) - (pos : Int)).toNat = text.size - pos := by omega
    rw [this]; omega
  have e2 : ¬ (wt + 1 + 0 > 16777216) := by omega
  have e3 : pos + (far ok text (text.size - pos) pos - pos) = far ok text (text.size - pos) pos := by omega
  rw [Nat.zero_add] at hr
  simp only [M.step, St, Option.isSome_none, Bool.false_eq_true, if_false, if_pos hpc', M.exec, M.word, Nat.add_zero, hop, h2, h3, if_neg e0, e1, hr, Nat.not_lt_zero, e3, M.afterRun, M.attempt, M.frame, M.keep, Array.size_empty, frA, keptA]
  rw [if_neg (by omega)]
end
end Mine
end

section
open PySem PySem.Calls PyProof.Rows PySem.W
namespace Mine
open PySem.Sre (M)

theorem far_spec {ok : Nat → Bool} {text : Array Nat} : ∀ (n p : Nat), p ≤ far ok text n p ∧ far ok text n p ≤ p + n ∧ (∀ q, p ≤ q → q < far ok text n p → ok (text.getD q 0) = true) ∧ (far ok text n p = p + n ∨ ok (text.getD (far ok text n p) 0) = false)
  | 0, p => ⟨Nat.le_refl _, Nat.le_refl _, fun q h1 h2 => absurd h2 (Nat.not_lt.mpr h1), .inl rfl⟩
  | n + 1, p => by
    unfold far
    cases hb : ok (text.getD p 0) with
    | false => simp only [Bool.false_eq_true, if_false]; exact ⟨Nat.le_refl _, by omega, fun q h1 h2 => by omega, .inr hb⟩
    | true =>
      simp only [if_true]
      obtain ⟨h1, h2, h3, h4⟩ := far_spec (ok := ok) (text := text) n (p + 1)
      refine ⟨by omega, by omega, fun q g1 g2 => ?_, ?_⟩
      · by_cases hq : q = p
        · rw [hq]; exact hb
        · exact h3 q (by omega) g2
      · rcases h4 with h4 | h4
        · exact .inl (by omega)
        · exact .inr h4

def litsB (text : Array Nat) (j : Nat) : Bool := (List.range 7).all fun i => decide (j + i < text.size) && text.getD (j + i) 0 == codeA.getD (12 + 2 * i) 0
def notClose (c : Nat) : Bool := c != 41
def notNl (c : Nat) : Bool := c != 10
def endB (text : Array Nat) (j : Nat) : Nat := far notClose text (text.size - (j + 7)) (j + 7)
def tryA (text : Array Nat) (j : Nat) : Option (Nat × Nat) := if litsB text j = true then (if endB text j < text.size then some (j + 7, endB text j) else none) else none
def downA (text : Array Nat) : Nat → Option (Nat × Nat)
  | 0 => tryA text 0
  | j + 1 => match tryA text (j + 1) with | some r => some r | none => downA text j
def specA (text : Array Nat) : Option (Nat × Nat) := downA text (far notNl text text.size 0)

theorem ops_lit : ∀ i < 7, Sre.ops[codeA.getD (11 + 2 * i) 0]? = some .LITERAL := by
  intro i hi
  match i with
  | 0 | 1 | 2 | 3 | 4 | 5 | 6 => rfl
  | i + 7 => omega

/-- the state after a failed attempt -/
def Lost (text : Array Nat) (fr : List Sre.Frame) (wt : Nat) (m : M) : Prop := ∃ sn mk hd pc pos lm li, mk.size = 2 ∧ m = St text sn mk hd pc pos lm li fr wt (some false) none

theorem lits_run {text : Array Nat} {mk : Array (Option Nat)} (hmk : mk.size = 2) {fr : List Sre.Frame} {wt hd j : Nat} {lm li : Int} : ∀ (k i : Nat) (sn : Sre.Seen), i + k = 7 →
    ((∀ q, i ≤ q → q < 7 → j + q < text.size ∧ text.getD (j + q) 0 = codeA.getD (12 + 2 * q) 0) → ∃ sn', Rch k (St text sn mk hd (11 + 2 * i) (j + i) lm li fr wt none none) (St text sn' mk hd 25 (j + 7) lm li fr wt none none)) ∧
    (¬ (∀ q, i ≤ q → q < 7 → j + q < text.size ∧ text.getD (j + q) 0 = codeA.getD (12 + 2 * q) 0) → ∃ m', Lost text fr wt m' ∧ Rch k (St text sn mk hd (11 + 2 * i) (j + i) lm li fr wt none none) m')
  | 0, i, sn, e => by
    have : i = 7 := by omega
    subst this
    exact ⟨fun _ => ⟨sn, Rch.refl⟩, fun h => absurd (fun q h1 h2 => by omega) h⟩
  | k + 1, i, sn, e => by
    have hop := ops_lit i (by omega)
    have e12 : 11 + 2 * i + 1 = 12 + 2 * i := by omega
    by_cases h0 : j + i < text.size ∧ text.getD (j + i) 0 = codeA.getD (12 + 2 * i) 0
    · obtain ⟨sn₁, hs⟩ := step_lit_ok (text := text) (sn := sn) (mk := mk) (hd := hd) (lm := lm) (li := li) (fr := fr) (wt := wt) hop (by omega) h0.1 (by rw [e12]; exact h0.2)
      have ih := lits_run hmk (text := text) (fr := fr) (wt := wt) (hd := hd) (j := j) (lm := lm) (li := li) k (i + 1) sn₁ (by omega)
      have e1 : 11 + 2 * i + 2 = 11 + 2 * (i + 1) := by omega
      have e2 : j + i + 1 = j + (i + 1) := by omega
      rw [e1, e2] at hs
      refine ⟨fun h => ?_, fun h => ?_⟩
      · obtain ⟨sn₂, r⟩ := ih.1 fun q h1 h2 => h q (by omega) h2
        exact ⟨sn₂, Rch.step hs rfl r (by omega)⟩
      · obtain ⟨m', hl, r⟩ := ih.2 fun hh => h fun q h1 h2 => by
          by_cases hq : q = i
          · rw [hq]; exact h0
          · exact hh q (by omega) h2
        exact ⟨m', hl, Rch.step hs rfl r (by omega)⟩
    · refine ⟨fun h => absurd (h i (Nat.le_refl _) (by omega)) h0, fun _ => ?_⟩
      obtain ⟨sn₁, hs⟩ := step_lit_no (text := text) (sn := sn) (mk := mk) (hd := hd) (pos := j + i) (lm := lm) (li := li) (fr := fr) (wt := wt) hop (by omega) (fun hp hc => h0 ⟨hp, by rw [← e12]; exact hc⟩)
      exact ⟨_, ⟨sn₁, mk, hd, _, _, lm, li, hmk, rfl⟩, Rch.step hs rfl (n := 0) Rch.refl (by omega)⟩

theorem litsB_iff {text : Array Nat} {j : Nat} : litsB text j = true ↔ ∀ q, 0 ≤ q → q < 7 → j + q < text.size ∧ text.getD (j + q) 0 = codeA.getD (12 + 2 * q) 0 := by
  unfold litsB
  rw [List.all_eq_true]
  constructor
  · intro h q _ hq
    have := h q (List.mem_range.mpr hq)
    simpa using this
  · intro h q hq
    have := h q (Nat.zero_le _) (List.mem_range.mp hq)
    simpa using this

theorem acc_close (c : Nat) (sn : Sre.Seen) : ∃ sn', Sre.accepts codeA (27 + 4) c sn = .ok (notClose c, sn') := ⟨sn, rfl⟩
theorem acc_nl (c : Nat) (sn : Sre.Seen) : ∃ sn', Sre.accepts codeA (5 + 4) c sn = .ok (notNl c, sn') := ⟨sn, rfl⟩

section
variable {text : Array Nat} {fr : List Sre.Frame}

/-- the class gave all it had, and no bracket behind it -/
theorem close_lost {p0 : Nat} : ∀ (c p : Nat) (sn : Sre.Seen) (mk : Array (Option Nat)) (hd : Nat), p = p0 + c → mk.size = 2 → (∀ q, p0 ≤ q → q ≤ p → q < text.size → text.getD q 0 ≠ 41) →
    ∃ m', Lost text fr 1 m' ∧ Rch (3 * c + 3) (St text sn mk hd 34 p 0 (-1) (frA 27 p (c : Int) 0 :: fr) 2 none none) m'
  | c, p, sn, mk, hd, hp, hmk, hq => by
    obtain ⟨sn₁, h₁⟩ := step_mark (text := text) (sn := sn) (mk := mk) (hd := hd) (pc := 34) (pos := p) (lm := 0) (li := -1) (fr := frA 27 p (c : Int) 0 :: fr) (wt := 2) (i := 1) rfl rfl (by decide) (by decide)
    obtain ⟨sn₂, h₂⟩ := step_lit_no (text := text) (sn := sn₁) (mk := mk.setIfInBounds 1 (some p)) (hd := hd) (pc := 36) (pos := p) (lm := 1) (li := 1) (fr := frA 27 p (c : Int) 0 :: fr) (wt := 2) rfl (by decide) (fun hlt => hq p (by omega) (Nat.le_refl _) hlt)
    have h₁' : (St text sn mk hd 34 p 0 (-1) (frA 27 p (c : Int) 0 :: fr) 2 none none).step = St text sn₁ (mk.setIfInBounds 1 (some p)) hd 36 p 1 1 (frA 27 p (c : Int) 0 :: fr) 2 none none := h₁
    cases c with
    | zero =>
      have h₃ := step_none (text := text) (sn := sn₂) (mk := mk.setIfInBounds 1 (some p)) (hd := hd) (pc := 36) (pos := p) (lm := 1) (li := 1) (fr := fr) (wt := 2) (pc' := 27) (p := p) (lm' := 0) rfl
      exact ⟨_, ⟨sn₂, _, _, _, _, _, _, by simpa using hmk, rfl⟩, Rch.step h₁' rfl (Rch.step h₂ rfl (Rch.step h₃ rfl (n := 0) Rch.refl (Nat.le_refl _)) (Nat.le_refl _)) (by omega)⟩
    | succ c =>
      obtain ⟨p', rfl⟩ : ∃ p', p = p' + 1 := ⟨p - 1, by omega⟩
      have h₃ := step_back (text := text) (sn := sn₂) (mk := mk.setIfInBounds 1 (some (p' + 1))) (hd := hd) (pc := 36) (pos := p' + 1) (lm := 1) (li := 1) (fr := fr) (wt := 2) (pc' := 27) (p := p') (c := c) (lm' := 0) rfl (by decide) (by decide)
      obtain ⟨m', hl, r⟩ := close_lost c p' sn₂ (mk.setIfInBounds 1 (some (p' + 1))) p' (by omega) (by simpa using hmk) (fun q g1 g2 g3 => hq q g1 (by omega) g3)
      exact ⟨m', hl, Rch.step h₁' rfl (Rch.step h₂ rfl (Rch.step h₃ rfl r (Nat.le_refl _)) (Nat.le_refl _)) (by omega)⟩

def Won (text : Array Nat) (b e : Nat) (m : M) : Prop := m.outcome = some .matched ∧ m.marks = #[some b, some e] ∧ m.lastmark = 1 ∧ m.lastindex = 1

theorem attempt_at {j : Nat} {sn : Sre.Seen} {mk : Array (Option Nat)} {hd : Nat} (hmk : mk.size = 2) (hsz : text.size ≤ 200) :
    (∀ b e, tryA text j = some (b, e) → ∃ m', Won text b e m' ∧ Rch 20 (St text sn mk hd 11 j (-1) (-1) [frA 5 j (j : Int) (-1)] 1 none none) m') ∧
    (tryA text j = none → ∃ m', Lost text [frA 5 j (j : Int) (-1)] 1 m' ∧ Rch 700 (St text sn mk hd 11 j (-1) (-1) [frA 5 j (j : Int) (-1)] 1 none none) m') := by
  have L := lits_run hmk (text := text) (fr := [frA 5 j (j : Int) (-1)]) (wt := 1) (hd := hd) (j := j) (lm := -1) (li := -1) 7 0 sn rfl
  by_cases hl : litsB text j = true
  · obtain ⟨sn₁, r₁⟩ := L.1 (litsB_iff.mp hl)
    have hj7 : j + 7 ≤ text.size := by have := (litsB_iff.mp hl 6 (by omega) (by omega)).1; omega
    obtain ⟨sn₂, h₂⟩ := step_mark (text := text) (sn := sn₁) (mk := mk) (hd := hd) (pc := 25) (pos := j + 7) (lm := -1) (li := -1) (fr := [frA 5 j (j : Int) (-1)]) (wt := 1) (i := 0) rfl rfl (by decide) (by decide)
    obtain ⟨sn₃, h₃⟩ := step_repeat (text := text) (sn := sn₂) (mk := mk.setIfInBounds 0 (some (j + 7))) (hd := hd) (pc := 27) (pos := j + 7) (lm := 0) (li := -1) (fr := [frA 5 j (j : Int) (-1)]) (wt := 1) (ok := notClose) rfl (by decide) acc_close rfl rfl (by omega) hj7 (by decide) rfl
    have h₂' : (St text sn₁ mk hd 25 (j + 7) (-1) (-1) [frA 5 j (j : Int) (-1)] 1 none none).step = St text sn₂ (mk.setIfInBounds 0 (some (j + 7))) hd 27 (j + 7) 0 (-1) [frA 5 j (j : Int) (-1)] 1 none none := h₂
    have he : far notClose text (text.size - (j + 7)) (j + 7) = endB text j := rfl
    rw [he] at h₃
    have h₃' : (St text sn₂ (mk.setIfInBounds 0 (some (j + 7))) hd 27 (j + 7) 0 (-1) [frA 5 j (j : Int) (-1)] 1 none none).step =
        St text sn₃ (mk.setIfInBounds 0 (some (j + 7))) (endB text j) 34 (endB text j) 0 (-1) (frA 27 (endB text j) ((endB text j - (j + 7) : Nat) : Int) 0 :: [frA 5 j (j : Int) (-1)]) 2 none none := h₃
    obtain ⟨f1, f2, f3, f4⟩ := far_spec (ok := notClose) (text := text) (text.size - (j + 7)) (j + 7)
    rw [he] at f1 f2 f3 f4
    have r₃ := (r₁.trans (Rch.step h₂' rfl (Rch.step h₃' rfl (n := 0) Rch.refl (Nat.le_refl _)) (Nat.le_refl _)) (Nat.le_refl _))
    by_cases hlt : endB text j < text.size
    · have ht : tryA text j = some (j + 7, endB text j) := by unfold tryA; rw [if_pos hl, if_pos hlt]
      refine ⟨fun b e hbe => ?_, fun h => by rw [ht] at h; cases h⟩
      rw [ht] at hbe
      cases hbe
      have hc : text.getD (endB text j) 0 = 41 := by
        rcases f4 with f4 | f4
        · omega
        · unfold notClose at f4
          simpa using f4
      obtain ⟨sn₄, h₄⟩ := step_mark (text := text) (sn := sn₃) (mk := mk.setIfInBounds 0 (some (j + 7))) (hd := endB text j) (pc := 34) (pos := endB text j) (lm := 0) (li := -1) (fr := frA 27 (endB text j) ((endB text j - (j + 7) : Nat) : Int) 0 :: [frA 5 j (j : Int) (-1)]) (wt := 2) (i := 1) rfl rfl (by decide) (by decide)
      obtain ⟨sn₅, h₅⟩ := step_lit_ok (text := text) (sn := sn₄) (mk := (mk.setIfInBounds 0 (some (j + 7))).setIfInBounds 1 (some (endB text j))) (hd := endB text j) (pc := 36) (pos := endB text j) (lm := 1) (li := 1) (fr := frA 27 (endB text j) ((endB text j - (j + 7) : Nat) : Int) 0 :: [frA 5 j (j : Int) (-1)]) (wt := 2) rfl (by decide) hlt hc
      obtain ⟨sn₆, h₆⟩ := step_success (text := text) (sn := sn₅) (mk := (mk.setIfInBounds 0 (some (j + 7))).setIfInBounds 1 (some (endB text j))) (hd := endB text j) (pc := 38) (pos := endB text j + 1) (lm := 1) (li := 1) (fr := frA 27 (endB text j) ((endB text j - (j + 7) : Nat) : Int) 0 :: [frA 5 j (j : Int) (-1)]) (wt := 2) rfl (by decide)
      have hm : (mk.setIfInBounds 0 (some (j + 7))).setIfInBounds 1 (some (endB text j)) = #[some (j + 7), some (endB text j)] := by
        obtain ⟨l⟩ := mk
        match l, hmk with
        | [a, b], _ => rfl
      refine ⟨_, ⟨?_, hm, ?_, ?_⟩, r₃.trans (Rch.step h₄ rfl (Rch.step h₅ rfl (Rch.step h₆ rfl (Rch.step step_yes rfl (Rch.step step_yes rfl (Rch.step step_end rfl (n := 0) Rch.refl (Nat.le_refl _)) (Nat.le_refl _)) (Nat.le_refl _)) (Nat.le_refl _)) (Nat.le_refl _)) (Nat.le_refl _)) (by decide)⟩
      · rfl
      · rfl
      · rfl
    · have ht : tryA text j = none := by unfold tryA; rw [if_pos hl, if_neg hlt]
      refine ⟨fun b e h => (by rw [ht] at h; cases h), fun _ => ?_⟩
      obtain ⟨m', hlo, r⟩ := close_lost (text := text) (fr := [frA 5 j (j : Int) (-1)]) (p0 := j + 7) (endB text j - (j + 7)) (endB text j) sn₃ (mk.setIfInBounds 0 (some (j + 7))) (endB text j) (by omega) (by simpa using hmk) (fun q g1 g2 g3 => by
        have := f3 q g1 (by omega)
        unfold notClose at this
        simpa using this)
      exact ⟨m', hlo, r₃.trans r (by omega)⟩
  · have ht : tryA text j = none := by unfold tryA; rw [if_neg hl]
    refine ⟨fun b e h => (by rw [ht] at h; cases h), fun _ => ?_⟩
    obtain ⟨m', hlo, r⟩ := L.2 (fun h => hl (litsB_iff.mpr h))
    exact ⟨m', hlo, r.trans (b := 0) Rch.refl (by omega)⟩

theorem down_at (hsz : text.size ≤ 200) : ∀ (j : Nat) (sn : Sre.Seen) (mk : Array (Option Nat)) (hd : Nat), mk.size = 2 →
    (∀ b e, downA text j = some (b, e) → ∃ m', Won text b e m' ∧ Rch (800 * (j + 1)) (St text sn mk hd 11 j (-1) (-1) [frA 5 j (j : Int) (-1)] 1 none none) m') ∧
    (downA text j = none → ∃ m', m'.outcome = some .failed ∧ Rch (800 * (j + 1)) (St text sn mk hd 11 j (-1) (-1) [frA 5 j (j : Int) (-1)] 1 none none) m')
  | 0, sn, mk, hd, hmk => by
    have T := attempt_at (j := 0) (sn := sn) (hd := hd) hmk hsz
    refine ⟨fun b e h => ?_, fun h => ?_⟩
    · obtain ⟨m', hw, r⟩ := T.1 b e h
      exact ⟨m', hw, r.trans (b := 0) Rch.refl (by omega)⟩
    · obtain ⟨m', ⟨sn', mk', hd', pc, pos, lm, li, hmk', rfl⟩, r⟩ := T.2 h
      refine ⟨_, ?_, r.trans (Rch.step (step_none rfl) rfl (Rch.step step_end rfl (n := 0) Rch.refl (Nat.le_refl _)) (Nat.le_refl _)) (by omega)⟩
      rfl
  | j + 1, sn, mk, hd, hmk => by
    have T := attempt_at (j := j + 1) (sn := sn) (hd := hd) hmk hsz
    cases ht : tryA text (j + 1) with
    | some be =>
      obtain ⟨b, e⟩ := be
      have hd' : downA text (j + 1) = some (b, e) := by unfold downA; rw [ht]
      refine ⟨fun b' e' h => ?_, fun h => by rw [hd'] at h; cases h⟩
      rw [hd'] at h; cases h
      obtain ⟨m', hw, r⟩ := T.1 b e ht
      exact ⟨m', hw, r.trans (b := 0) Rch.refl (by omega)⟩
    | none =>
      have hd' : downA text (j + 1) = downA text j := by rw [downA, ht]
      obtain ⟨m', ⟨sn', mk', hd'', pc, pos, lm, li, hmk', rfl⟩, r⟩ := T.2 ht
      have sb := step_back (text := text) (sn := sn') (mk := mk') (hd := hd'') (pc := pc) (pos := pos) (lm := lm) (li := li) (fr := []) (wt := 1) (pc' := 5) (p := j) (c := j) (lm' := -1) rfl (by decide) (by decide)
      have D := down_at hsz j sn' mk' j hmk'
      rw [hd']
      refine ⟨fun b e h => ?_, fun h => ?_⟩
      · obtain ⟨m'', hw, r'⟩ := D.1 b e h
        exact ⟨m'', hw, r.trans (Rch.step sb rfl r' (Nat.le_refl _)) (by omega)⟩
      · obtain ⟨m'', hw, r'⟩ := D.2 h
        exact ⟨m'', hw, r.trans (Rch.step sb rfl r' (Nat.le_refl _)) (by omega)⟩

theorem forMatch_eq (h8 : 8 ≤ text.size) : ∃ sn, Sre.forMatch codeA text 1 0 text.size false false = St text sn #[none, none] 0 5 0 (-1) (-1) [] 0 none none := by
  refine ⟨({} : Sre.Seen).add 14, ?_⟩
  unfold Sre.forMatch
  have hh : (Sre.header codeA).1 = 8 := rfl
  rw [hh]
  have : ((8 : Nat) != 0 && decide (0 ≤ text.size) && decide (text.size - 0 < 8)) = false := by
    simp; omega
  simp only [this, Bool.false_eq_true, if_false]
  rfl

theorem spec_run (h8 : 8 ≤ text.size) (hsz : text.size ≤ 200) :
    (∀ b e, specA text = some (b, e) → ∃ m', Won text b e m' ∧ Rch 1000000 (Sre.forMatch codeA text 1 0 text.size false false) m') ∧
    (specA text = none → ∃ m', m'.outcome = some .failed ∧ Rch 1000000 (Sre.forMatch codeA text 1 0 text.size false false) m') := by
  obtain ⟨sn, hf⟩ := forMatch_eq h8
  obtain ⟨sn', hs⟩ := step_repeat (text := text) (sn := sn) (mk := #[none, none]) (hd := 0) (pc := 5) (pos := 0) (lm := -1) (li := -1) (fr := []) (wt := 0) (ok := notNl) rfl (by decide) acc_nl rfl rfl (by omega) (Nat.zero_le _) (by decide) rfl
  obtain ⟨f1, f2, _, _⟩ := far_spec (ok := notNl) (text := text) text.size 0
  have D := down_at hsz (far notNl text text.size 0) sn' #[none, none] (far notNl text text.size 0) rfl
  rw [Nat.sub_zero] at hs
  have hs' : (St text sn #[none, none] 0 5 0 (-1) (-1) [] 0 none none).step = St text sn' #[none, none] (far notNl text text.size 0) 11 (far notNl text text.size 0) (-1) (-1) [frA 5 (far notNl text text.size 0) ((far notNl text text.size 0 : Nat) : Int) (-1)] 1 none none := hs
  rw [hf]
  refine ⟨fun b e h => ?_, fun h => ?_⟩
  · obtain ⟨m', hw, r⟩ := D.1 b e h
    exact ⟨m', hw, Rch.step hs' rfl r (by omega)⟩
  · obtain ⟨m', hw, r⟩ := D.2 h
    exact ⟨m', hw, Rch.step hs' rfl r (by omega)⟩
end
end Mine
end

section
open PySem PySem.Calls PyProof.Rows PySem.W
namespace Mine
def flagsN : List (List Nat) := [[36, 74, 117, 110, 107], [68, 114, 97, 102, 116], [68, 114, 97, 102, 116, 115], [92, 83, 101, 101, 110], [100, 114, 97, 102, 116], [126]]
def pickN (n : Nat) : Nat → List (List Nat) → List (List Nat)
  | _, [] => []
  | k, f :: r => if n / 2 ^ k % 2 = 1 then f :: pickN n (k + 1) r else pickN n (k + 1) r
def wordsN (n : Nat) : List (List Nat) := if n / 64 % 2 = 1 then (pickN n 0 flagsN).reverse else pickN n 0 flagsN
def gapN (n : Nat) : List Nat := if n / 128 % 3 = 0 then [32] else if n / 128 % 3 = 1 then [9, 32] else [13, 10]
def joinN {α : Type} (sep : List α) : List (List α) → List α
  | [] => []
  | [x] => x
  | x :: y :: r => x ++ sep ++ joinN sep (y :: r)
def shownN (n : Nat) : List Nat := joinN (gapN n) (wordsN n)
def textN (n : Nat) : List Nat :=
  if n < 384 then [42, 32, 49, 32, 70, 69, 84, 67, 72, 32, 40, 70, 76, 65, 71, 83, 32, 40] ++ (shownN n ++ [41, 41])
  else if n < 768 then [42, 32, 49, 32, 70, 69, 84, 67, 72, 32, 40, 80, 69, 82, 77, 65, 78, 69, 78, 84, 70, 76, 65, 71, 83, 32, 40, 126, 32, 68, 114, 97, 102, 116, 41, 32, 70, 76, 65, 71, 83, 32, 40] ++ (shownN n ++ [41, 32, 70, 76, 65, 71, 83, 32, 40, 100, 114, 97, 102, 116])
  else [42, 32, 49, 32, 70, 69, 84, 67, 72, 32, 40, 70, 76, 65, 71, 83, 32, 40] ++ shownN n
def preL : List Nat → List Nat → Bool
  | [], _ => true
  | _ :: _, [] => false
  | a :: r, b :: s => if a = b then preL r s else false
def cutL : List Nat → Option (List Nat)
  | [] => none
  | c :: r => if c = 41 then some [] else match cutL r with | some g => some (c :: g) | none => none
def tryL (s : List Nat) : Option (List Nat) := if preL [70, 76, 65, 71, 83, 32, 40] s = true then cutL (s.drop 7) else none
def goL : List Nat → Option (List Nat)
  | [] => tryL []
  | c :: s => if c = 10 then tryL (c :: s) else match goL s with | some g => some g | none => tryL (c :: s)
def okL (n : Nat) : Bool := match goL (textN n) with | some g => decide (n < 768) && g == shownN n | none => decide (768 ≤ n)
theorem pick_sub (n : Nat) : ∀ (l : List (List Nat)) (k : Nat), ∀ p ∈ pickN n k l, p ∈ l
  | [], k, p, h => by simp [pickN] at h
  | f :: r, k, p, h => by
    unfold pickN at h
    split at h
    · rcases List.mem_cons.mp h with h | h
      · exact h ▸ List.mem_cons_self
      · exact List.mem_cons_of_mem _ (pick_sub n r (k + 1) p h)
    · exact List.mem_cons_of_mem _ (pick_sub n r (k + 1) p h)
theorem pick_len (n : Nat) : ∀ (l : List (List Nat)) (k : Nat), (pickN n k l).length ≤ l.length
  | [], k => by simp [pickN]
  | f :: r, k => by
    have := pick_len n r (k + 1)
    unfold pickN
    split
    · rw [List.length_cons, List.length_cons]; omega
    · rw [List.length_cons]; omega
theorem wordsN_sub (n : Nat) : ∀ p ∈ wordsN n, p ∈ flagsN := fun p h => by
  unfold wordsN at h
  split at h
  · exact pick_sub n _ _ p (List.mem_reverse.mp h)
  · exact pick_sub n _ _ p h
theorem wordsN_len (n : Nat) : (wordsN n).length ≤ 6 := by
  have h := pick_len n flagsN 0
  unfold wordsN
  split
  · rw [List.length_reverse]; exact h
  · exact h
theorem mem_join {α : Type} (sep : List α) : ∀ (ps : List (List α)) (c : α), c ∈ joinN sep ps → c ∈ sep ∨ ∃ p ∈ ps, c ∈ p
  | [], c, h => by simp [joinN] at h
  | [x], c, h => .inr ⟨x, List.mem_cons_self, h⟩
  | x :: y :: r, c, h => by
    rw [joinN] at h
    rcases List.mem_append.mp h with h | h
    · rcases List.mem_append.mp h with h | h
      · exact .inr ⟨x, List.mem_cons_self, h⟩
      · exact .inl h
    · rcases mem_join sep (y :: r) c h with h | ⟨p, hp, hc⟩
      · exact .inl h
      · exact .inr ⟨p, List.mem_cons_of_mem _ hp, hc⟩
theorem join_len {α : Type} (sep : List α) (k : Nat) : ∀ ps : List (List α), (∀ p ∈ ps, p.length ≤ k) → (joinN sep ps).length ≤ ps.length * (sep.length + k)
  | [], _ => by simp [joinN]
  | [x], h => by
    have := h x List.mem_cons_self
    simp only [joinN, List.length_cons, List.length_nil, Nat.zero_add, Nat.one_mul]; omega
  | x :: y :: r, h => by
    have h1 := h x List.mem_cons_self
    have h2 := join_len sep k (y :: r) fun p hp => h p (List.mem_cons_of_mem _ hp)
    rw [joinN, List.length_append, List.length_append, List.length_cons (a := x), Nat.add_mul, Nat.one_mul]
    omega
theorem flagsN_ok : ∀ p ∈ flagsN, p.length ≤ 6 ∧ ∀ c ∈ p, c ≠ 70 ∧ c ≠ 41 := by decide
theorem gapN_ok (n : Nat) : (gapN n).length ≤ 2 ∧ ∀ c ∈ gapN n, c ≠ 70 ∧ c ≠ 41 := by
  unfold gapN
  split
  · decide
  · split
    · decide
    · decide
theorem shownN_ok (n : Nat) : (shownN n).length ≤ 48 ∧ ∀ c ∈ shownN n, c ≠ 70 ∧ c ≠ 41 := by
  constructor
  · have h1 := join_len (gapN n) 6 (wordsN n) fun p hp => (flagsN_ok p (wordsN_sub n p hp)).1
    have h2 : (wordsN n).length * ((gapN n).length + 6) ≤ 6 * 8 := Nat.mul_le_mul (wordsN_len n) (by have := (gapN_ok n).1; omega)
    exact Nat.le_trans h1 h2
  · intro c hc
    rcases mem_join _ _ c hc with h | ⟨p, hp, h⟩
    · exact (gapN_ok n).2 c h
    · exact (flagsN_ok p (wordsN_sub n p hp)).2 c h
theorem try_no {c : Nat} (h : c ≠ 70) (s : List Nat) : tryL (c :: s) = none := by
  unfold tryL preL
  rw [if_neg (Ne.symm h)]; rfl
theorem go_pre {rest g : List Nat} (hg : goL rest = some g) : ∀ pre : List Nat, (∀ c ∈ pre, c ≠ 10) → goL (pre ++ rest) = some g
  | [], _ => hg
  | c :: s, h => by
    rw [List.cons_append, goL, if_neg (h c List.mem_cons_self), go_pre hg s fun x hx => h x (List.mem_cons_of_mem _ hx)]
theorem go_no {t : List Nat} (ht : goL t = none) : ∀ s : List Nat, (∀ c ∈ s, c ≠ 70) → goL (s ++ t) = none
  | [], _ => ht
  | c :: s, h => by
    rw [List.cons_append, goL, go_no ht s fun x hx => h x (List.mem_cons_of_mem _ hx), try_no (h c List.mem_cons_self)]
    split <;> rfl
theorem go_one {s : List Nat} (h : goL s = none) : goL (70 :: s) = tryL (70 :: s) := by
  rw [goL, if_neg (by decide), h]
theorem cut_app : ∀ (s t : List Nat), (∀ c ∈ s, c ≠ 41) → cutL (s ++ 41 :: t) = some s
  | [], t, _ => rfl
  | c :: s, t, h => by
    rw [List.cons_append, cutL, if_neg (h c List.mem_cons_self), cut_app s t fun x hx => h x (List.mem_cons_of_mem _ hx)]
theorem cut_none : ∀ s : List Nat, (∀ c ∈ s, c ≠ 41) → cutL s = none
  | [], _ => rfl
  | c :: s, h => by
    rw [cutL, if_neg (h c List.mem_cons_self), cut_none s fun x hx => h x (List.mem_cons_of_mem _ hx)]
theorem try_hit (s : List Nat) : tryL (70 :: ([76, 65, 71, 83, 32, 40] ++ s)) = cutL s := rfl
theorem okL_all : ∀ n < 1152, okL n = true := by
  intro n hn
  obtain ⟨_, hs⟩ := shownN_ok n
  have lagsF : ∀ c ∈ [76, 65, 71, 83, 32, 40] ++ shownN n, c ≠ 70 := fun c hc => by
    rcases List.mem_append.mp hc with h | h
    · exact (show ∀ c ∈ ([76, 65, 71, 83, 32, 40] : List Nat), c ≠ 70 by decide) c h
    · exact (hs c h).1
  have s41 : ∀ c ∈ shownN n, c ≠ 41 := fun c hc => (hs c hc).2
  unfold okL
  by_cases h1 : n < 384
  · have e : textN n = [42, 32, 49, 32, 70, 69, 84, 67, 72, 32, 40] ++ (70 :: ([76, 65, 71, 83, 32, 40] ++ (shownN n ++ [41, 41]))) := by unfold textN; rw [if_pos h1]; rfl
    have g0 : goL ([76, 65, 71, 83, 32, 40] ++ (shownN n ++ [41, 41])) = none := by
      rw [← List.append_assoc]
      exact go_no (t := [41, 41]) rfl _ lagsF
    have g1 : goL (70 :: ([76, 65, 71, 83, 32, 40] ++ (shownN n ++ [41, 41]))) = some (shownN n) := by
      rw [go_one g0, try_hit]; exact cut_app _ _ s41
    rw [e, go_pre g1 _ (by decide)]
    simp; omega
  · by_cases h2 : n < 768
    · have e : textN n = [42, 32, 49, 32, 70, 69, 84, 67, 72, 32, 40, 80, 69, 82, 77, 65, 78, 69, 78, 84, 70, 76, 65, 71, 83, 32, 40, 126, 32, 68, 114, 97, 102, 116, 41, 32] ++ (70 :: ([76, 65, 71, 83, 32, 40] ++ (shownN n ++ [41, 32, 70, 76, 65, 71, 83, 32, 40, 100, 114, 97, 102, 116]))) := by
        unfold textN; rw [if_neg h1, if_pos h2]; rfl
      have g0 : goL ([76, 65, 71, 83, 32, 40] ++ (shownN n ++ [41, 32, 70, 76, 65, 71, 83, 32, 40, 100, 114, 97, 102, 116])) = none := by
        rw [← List.append_assoc]
        exact go_no (t := [41, 32, 70, 76, 65, 71, 83, 32, 40, 100, 114, 97, 102, 116]) rfl _ lagsF
      have g1 : goL (70 :: ([76, 65, 71, 83, 32, 40] ++ (shownN n ++ [41, 32, 70, 76, 65, 71, 83, 32, 40, 100, 114, 97, 102, 116]))) = some (shownN n) := by
        rw [go_one g0, try_hit]; exact cut_app _ _ s41
      rw [e, go_pre g1 _ (by decide)]
      simp; omega
    · have e : textN n = [42, 32, 49, 32] ++ (70 :: ([69, 84, 67, 72, 32, 40] ++ (70 :: ([76, 65, 71, 83, 32, 40] ++ shownN n)))) := by unfold textN; rw [if_neg h1, if_neg h2]; rfl
      have g0 : goL ([76, 65, 71, 83, 32, 40] ++ shownN n) = none := by
        have := go_no (t := []) rfl _ lagsF
        rwa [List.append_nil] at this
      have g1 : goL (70 :: ([76, 65, 71, 83, 32, 40] ++ shownN n)) = none := by
        rw [go_one g0, try_hit]; exact cut_none _ s41
      have g2 : goL ([69, 84, 67, 72, 32, 40] ++ (70 :: ([76, 65, 71, 83, 32, 40] ++ shownN n))) = none := go_no g1 _ (by decide)
      have g3 : goL (70 :: ([69, 84, 67, 72, 32, 40] ++ (70 :: ([76, 65, 71, 83, 32, 40] ++ shownN n)))) = none := by
        rw [go_one g2]; rfl
      rw [e, go_no g3 _ (by decide)]
      simp; omega
theorem len_all : ∀ n < 1152, 8 ≤ (textN n).length ∧ (textN n).length ≤ 200 := by
  intro n _
  have h := (shownN_ok n).1
  unfold textN
  split
  · simp only [List.length_append, List.length_cons, List.length_nil]; omega
  · split
    · simp only [List.length_append, List.length_cons, List.length_nil]; omega
    · simp only [List.length_append, List.length_cons, List.length_nil]; omega

theorem preL_iff : ∀ (p s : List Nat), preL p s = true ↔ ∀ q, q < p.length → s[q]? = p[q]?
  | [], s => ⟨fun _ q h => absurd h (Nat.not_lt_zero _), fun _ => rfl⟩
  | a :: r, [] => ⟨fun h => (by cases h), fun h => (by have := h 0 (Nat.zero_lt_succ _); cases this)⟩
  | a :: r, b :: s => by
    unfold preL
    by_cases hab : a = b
    · rw [if_pos hab, preL_iff r s]
      constructor
      · intro h q hq
        cases q with
        | zero => simp [hab]
        | succ q => simpa using h q (by simpa using hq)
      · intro h q hq
        simpa using h (q + 1) (by simpa using hq)
    · rw [if_neg hab]
      constructor
      · intro h; cases h
      · intro h
        have := h 0 (Nat.zero_lt_succ _)
        simp at this
        exact absurd this.symm hab

theorem getD_of {l : List Nat} {i : Nat} : (l.toArray).getD i 0 = (l[i]?).getD 0 := by
  rw [Array.getD_eq_getD_getElem?, List.getElem?_toArray]

theorem litsB_pre {l : List Nat} {j : Nat} : litsB l.toArray j = preL [70, 76, 65, 71, 83, 32, 40] (l.drop j) := by
  rw [Bool.eq_iff_iff, litsB_iff, preL_iff]
  have pats : ∀ q < 7, some (codeA.getD (12 + 2 * q) 0) = ([70, 76, 65, 71, 83, 32, 40] : List Nat)[q]? := by
    intro q hq
    match q with
    | 0 | 1 | 2 | 3 | 4 | 5 | 6 => rfl
    | q + 7 => omega
  constructor
  · intro h q hq
    have hq' : q < 7 := hq
    obtain ⟨h1, h2⟩ := h q (Nat.zero_le _) hq'
    rw [List.size_toArray] at h1
    rw [getD_of, List.getElem?_eq_getElem h1] at h2
    rw [List.getElem?_drop, ← pats q hq', ← h2, List.getElem?_eq_getElem h1]; rfl
  · intro h q _ hq
    have := h q hq
    rw [List.getElem?_drop, ← pats q hq] at this
    obtain ⟨hlt, he⟩ := List.getElem?_eq_some_iff.mp this
    refine ⟨by rw [List.size_toArray]; exact hlt, ?_⟩
    rw [getD_of, this]; rfl

theorem cut_far {l : List Nat} : ∀ (s : List Nat) (p : Nat), l.drop p = s → (cutL s = none → far notClose l.toArray s.length p = p + s.length) ∧
    (∀ g, cutL s = some g → far notClose l.toArray s.length p = p + g.length ∧ g.length < s.length ∧ s.take g.length = g)
  | [], p, h => ⟨fun _ => rfl, fun g hg => by cases hg⟩
  | c :: r, p, h => by
    have hp : l[p]? = some c := by
      have := congrArg (fun x : List Nat => x[0]?) h
      simpa using this
    have hd : l.drop (p + 1) = r := by
      have := congrArg List.tail h
      simpa using this
    have hg : (l.toArray).getD p 0 = c := by rw [getD_of, hp]; rfl
    have ih := cut_far r (p + 1) hd
    rw [List.length_cons, far, hg]
    unfold cutL
    by_cases hc : c = 41
    · subst hc
      refine ⟨fun h => by simp at h, fun g hgg => ?_⟩
      simp at hgg
      subst hgg
      exact ⟨by simp [notClose], by simp, by simp⟩
    · have hn : notClose c = true := by simp [notClose, hc]
      rw [if_neg hc, hn]
      simp only [if_true]
      cases hcr : cutL r with
      | none => exact ⟨fun _ => by rw [ih.1 hcr]; omega, fun g hgg => by simp at hgg⟩
      | some g' =>
        refine ⟨fun h => by simp at h, fun g hgg => ?_⟩
        simp at hgg
        subst hgg
        obtain ⟨h1, h2, h3⟩ := ih.2 g' hcr
        refine ⟨by rw [h1, List.length_cons]; omega, by rw [List.length_cons]; omega, by rw [List.length_cons, List.take_succ_cons, h3]⟩

theorem try_some {l : List Nat} {j : Nat} {g : List Nat} (h : tryL (l.drop j) = some g) : ∃ e, tryA l.toArray j = some (j + 7, e) ∧ j + 7 ≤ e ∧ (l.drop (j + 7)).take (e - (j + 7)) = g := by
  unfold tryL at h
  by_cases hp : preL [70, 76, 65, 71, 83, 32, 40] (l.drop j) = true
  · rw [if_pos hp, List.drop_drop] at h
    obtain ⟨h1, h2, h3⟩ := (cut_far (l := l) (l.drop (j + 7)) (j + 7) rfl).2 g h
    rw [List.length_drop] at h1 h2
    refine ⟨endB l.toArray j, ?_, ?_, ?_⟩
    · unfold tryA
      rw [litsB_pre, if_pos hp, if_pos]
      unfold endB
      rw [List.size_toArray, h1]
      omega
    · unfold endB; rw [List.size_toArray, h1]; omega
    · unfold endB; rw [List.size_toArray, h1, show j + 7 + g.length - (j + 7) = g.length from by omega]; exact h3
  · rw [if_neg hp] at h; cases h
theorem try_none {l : List Nat} {j : Nat} (h : tryL (l.drop j) = none) : tryA l.toArray j = none := by
  unfold tryL at h
  unfold tryA
  rw [litsB_pre]
  by_cases hp : preL [70, 76, 65, 71, 83, 32, 40] (l.drop j) = true
  · rw [if_pos hp, List.drop_drop] at h
    have h1 := (cut_far (l := l) (l.drop (j + 7)) (j + 7) rfl).1 h
    rw [List.length_drop] at h1
    have hj : j + 7 ≤ l.length := by
      have := (preL_iff _ _).mp hp 6 (by decide)
      rw [List.getElem?_drop] at this
      obtain ⟨hlt, _⟩ := List.getElem?_eq_some_iff.mp this
      omega
    rw [if_pos hp, if_neg]
    unfold endB
    rw [List.size_toArray, h1]
    omega
  · rw [if_neg hp]

theorem go_far {l : List Nat} : ∀ (s : List Nat) (j : Nat), l.drop j = s →
    (goL s = none → ∀ p, j ≤ p → p ≤ far notNl l.toArray s.length j → tryL (l.drop p) = none) ∧
    (∀ g, goL s = some g → ∃ p, j ≤ p ∧ p ≤ far notNl l.toArray s.length j ∧ tryL (l.drop p) = some g ∧ ∀ p', p < p' → p' ≤ far notNl l.toArray s.length j → tryL (l.drop p') = none)
  | [], j, h => by
    refine ⟨fun hg p h1 h2 => ?_, fun g hg => ⟨j, Nat.le_refl _, Nat.le_refl _, by rw [h]; exact hg, fun p' h1 h2 => by have : p' ≤ j := h2; omega⟩⟩
    have : p = j := Nat.le_antisymm h2 h1
    rw [this, h]; exact hg
  | c :: r, j, h => by
    have hp : l[j]? = some c := by
      have := congrArg (fun x : List Nat => x[0]?) h
      simpa using this
    have hd : l.drop (j + 1) = r := by
      have := congrArg List.tail h
      simpa using this
    have hg : (l.toArray).getD j 0 = c := by rw [getD_of, hp]; rfl
    have ih := go_far r (j + 1) hd
    rw [List.length_cons, far, hg]
    unfold goL
    by_cases hc : c = 10
    · subst hc
      have : notNl 10 = false := rfl
      rw [this]
      simp only [Bool.false_eq_true, if_false, if_true]
      refine ⟨fun hg p h1 h2 => ?_, fun g hg => ⟨j, Nat.le_refl _, Nat.le_refl _, by rw [h]; exact hg, fun p' h1 h2 => by omega⟩⟩
      have : p = j := Nat.le_antisymm h2 h1
      rw [this, h]; exact hg
    · have hn : notNl c = true := by simp [notNl, hc]
      rw [hn, if_neg hc]
      simp only [if_true]
      have hle : j + 1 ≤ far notNl l.toArray r.length (j + 1) := (far_spec _ _).1
      cases hgr : goL r with
      | none =>
        have h0 := ih.1 hgr
        refine ⟨fun hg p h1 h2 => ?_, fun g hg => ⟨j, Nat.le_refl _, by omega, by rw [h]; exact hg, fun p' h1 h2 => h0 p' h1 h2⟩⟩
        by_cases hpj : p = j
        · rw [hpj, h]; exact hg
        · exact h0 p (by omega) h2
      | some g' =>
        refine ⟨fun hg => by simp at hg, fun g hg => ?_⟩
        simp at hg
        subst hg
        obtain ⟨p, h1, h2, h3, h4⟩ := ih.2 g' hgr
        exact ⟨p, by omega, h2, h3, h4⟩

theorem down_none {l : List Nat} : ∀ n, (∀ p, p ≤ n → tryL (l.drop p) = none) → downA l.toArray n = none
  | 0, h => try_none (h 0 (Nat.le_refl _))
  | n + 1, h => by rw [downA, try_none (h (n + 1) (Nat.le_refl _))]; exact down_none n fun p hp => h p (by omega)
theorem down_some {l : List Nat} {p : Nat} {be : Nat × Nat} (hp : tryA l.toArray p = some be) : ∀ n, p ≤ n → (∀ p', p < p' → p' ≤ n → tryL (l.drop p') = none) → downA l.toArray n = some be
  | 0, h, _ => by
    have : p = 0 := by omega
    subst this; exact hp
  | n + 1, h, hn => by
    rw [downA]
    by_cases hpn : p = n + 1
    · rw [← hpn, hp]
    · rw [try_none (hn (n + 1) (by omega) (Nat.le_refl _))]
      exact down_some hp n (by omega) fun p' h1 h2 => hn p' h1 (by omega)

theorem spec_go {l : List Nat} : (goL l = none → specA l.toArray = none) ∧ (∀ g, goL l = some g → ∃ b e, specA l.toArray = some (b, e) ∧ b ≤ e ∧ (l.drop b).take (e - b) = g) := by
  have G := go_far (l := l) l 0 rfl
  unfold specA
  rw [List.size_toArray]
  refine ⟨fun h => down_none _ fun p hp => G.1 h p (Nat.zero_le _) hp, fun g h => ?_⟩
  obtain ⟨p, _, h2, h3, h4⟩ := G.2 g h
  obtain ⟨e, h5, h6, h7⟩ := try_some h3
  exact ⟨p + 7, e, down_some h5 _ h2 h4, h6, h7⟩
end Mine
end

section
open PySem PySem.Calls PyProof.Rows PySem.W
namespace Mine
open PySem.Builtin

theorem joinN_cons {α : Type} (sep x : List α) : ∀ r : List (List α), joinN sep (x :: r) = x ++ r.flatMap (fun p => sep ++ p)
  | [] => by simp [joinN]
  | y :: r => by rw [joinN, joinN_cons sep y r, List.flatMap_cons]; simp
theorem joined_aux (sep : Array UInt8) : ∀ (parts : List (Array UInt8)) (k : Nat) (acc : Array UInt8), 0 < k →
    (((parts.zipIdx k).foldl (fun out (x : Array UInt8 × Nat) => (if x.2 > 0 then out ++ sep else out) ++ x.1) acc)).toList = acc.toList ++ (parts.map Array.toList).flatMap (fun p => sep.toList ++ p)
  | [], k, acc, h => by simp
  | x :: r, k, acc, h => by
    rw [List.zipIdx_cons, List.foldl_cons, joined_aux sep r (k + 1) _ (Nat.succ_pos k)]
    simp only [gt_iff_lt, h, if_true, Array.toList_append, List.map_cons, List.flatMap_cons, List.append_assoc]
theorem joined_eq (sep : Array UInt8) : ∀ parts : List (Array UInt8), (Bytes.joined sep parts).toList = joinN sep.toList (parts.map Array.toList)
  | [] => rfl
  | x :: r => by
    rw [List.map_cons, joinN_cons]
    show (((x :: r).zipIdx 0).foldl (fun out (x : Array UInt8 × Nat) => (if x.2 > 0 then out ++ sep else out) ++ x.1) #[]).toList = _
    rw [List.zipIdx_cons, List.foldl_cons]
    have := joined_aux sep r (0 + 1) ((if (0 : Nat) > 0 then (#[] : Array UInt8) ++ sep else #[]) ++ x) (Nat.succ_pos 0)
    rw [this]
    simp
theorem joinN_map {α β : Type} (f : α → β) (sep : List α) (ps : List (List α)) : (joinN sep ps).map f = joinN (sep.map f) (ps.map (List.map f)) := by
  cases ps with
  | nil => rfl
  | cons x r =>
    rw [joinN_cons, List.map_cons, joinN_cons, List.map_append, List.map_flatMap, List.flatMap_map]
    simp

def toN (b : Array UInt8) : List Nat := b.toList.map (·.toNat)
theorem toN_append (a b : Array UInt8) : toN (a ++ b) = toN a ++ toN b := by unfold toN; rw [Array.toList_append, List.map_append]
theorem bit_eq (n k : Nat) : bitI (n : Int) k = decide (n / 2 ^ k % 2 = 1) := by
  unfold bitI
  have h1 : ((n : Int).fdiv (2 ^ k)).fmod 2 = ((n / 2 ^ k % 2 : Nat) : Int) := by
    have : (2 : Int) ^ k = ((2 ^ k : Nat) : Int) := by simp
    rw [this, Int.fdiv_eq_ediv_of_nonneg _ (Int.natCast_nonneg _), Int.fmod_eq_emod_of_nonneg _ (by omega)]
    norm_cast
  rw [h1, Bool.eq_iff_iff]
  simp only [beq_iff_eq, decide_eq_true_eq]
  omega
theorem hi_eq (n m d : Nat) (hd : 0 < d) : ((n : Int).fdiv m).fmod d = ((n / m % d : Nat) : Int) := by
  rw [Int.fdiv_eq_ediv_of_nonneg _ (by omega), Int.fmod_eq_emod_of_nonneg _ (by omega)]
  norm_cast
theorem upTo_eq (n : Nat) : (upToB n 6).map toN = pickN n 0 flagsN := by
  unfold upToB
  have r6 : List.range 6 = [0, 1, 2, 3, 4, 5] := rfl
  rw [r6]
  simp only [List.flatMap_cons, List.flatMap_nil, bit_eq, decide_eq_true_eq, List.append_nil, pickN, flagsN, Nat.zero_add, Nat.reduceAdd]
  have f0 : (flagsB[0]?).toList.map toN = [[36, 74, 117, 110, 107]] := rfl
  have f1 : (flagsB[1]?).toList.map toN = [[68, 114, 97, 102, 116]] := rfl
  have f2 : (flagsB[2]?).toList.map toN = [[68, 114, 97, 102, 116, 115]] := rfl
  have f3 : (flagsB[3]?).toList.map toN = [[92, 83, 101, 101, 110]] := rfl
  have f4 : (flagsB[4]?).toList.map toN = [[100, 114, 97, 102, 116]] := rfl
  have f5 : (flagsB[5]?).toList.map toN = [[126]] := rfl
  have step : ∀ (c : Prop) [Decidable c] (a : List (Array UInt8)) (x : List Nat) (r : List (Array UInt8)) (r' : List (List Nat)), a.map toN = [x] → r.map toN = r' → ((if c then a else []) ++ r).map toN = if c then x :: r' else r' := by
    intro c _ a x r r' h1 h2
    by_cases hc : c
    · rw [if_pos hc, if_pos hc, List.map_append, h1, h2]; rfl
    · rw [if_neg hc, if_neg hc, List.nil_append, h2]
  have last : ∀ (c : Prop) [Decidable c] (a : List (Array UInt8)) (x : List Nat), a.map toN = [x] → (if c then a else []).map toN = if c then [x] else [] := by
    intro c _ a x h1
    by_cases hc : c
    · rw [if_pos hc, if_pos hc, h1]
    · rw [if_neg hc, if_neg hc]; rfl
  exact step _ _ _ _ _ f0 (step _ _ _ _ _ f1 (step _ _ _ _ _ f2 (step _ _ _ _ _ f3 (step _ _ _ _ _ f4 (last _ _ _ f5)))))
theorem words_eq (n : Nat) : (wordsB n).map toN = wordsN n := by
  unfold wordsB wordsN
  have h := hi_eq n 64 2 (by decide)
  have h' : ((n : Int).fdiv 64).fmod 2 = ((n / 64 % 2 : Nat) : Int) := h
  rw [h']
  by_cases hc : n / 64 % 2 = 1
  · rw [if_pos hc, hc]
    rw [if_pos (by decide), List.map_reverse, upTo_eq]
  · rw [if_neg hc, if_neg, upTo_eq]
    simp only [beq_iff_eq]
    omega
theorem gap_eq (n : Nat) : toN (gapB n) = gapN n := by
  unfold gapB gapN
  have h' : ((n : Int).fdiv 128).fmod 3 = ((n / 128 % 3 : Nat) : Int) := hi_eq n 128 3 (by decide)
  rw [h', Int.toNat_natCast]
  have hlt : n / 128 % 3 < 3 := Nat.mod_lt _ (by decide)
  generalize n / 128 % 3 = k at hlt
  match k with
  | 0 | 1 | 2 => rfl
  | k + 3 => omega
theorem shown_eq (n : Nat) : toN (shownB n) = shownN n := by
  unfold shownB shownN toN
  rw [joined_eq, joinN_map]
  have := gap_eq n
  unfold toN at this
  rw [this, ← words_eq, List.map_map]
  rfl
theorem text_eq (n : Nat) : toN (answerB n) = textN n := by
  have hs := shown_eq n
  unfold answerB textN
  by_cases h1 : n < 384
  · rw [if_pos h1, if_pos (by omega), toN_append, toN_append, hs, List.append_assoc]; rfl
  · rw [if_neg h1, if_neg (show ¬ (n : Int) < 384 by omega)]
    by_cases h2 : n < 768
    · rw [if_pos h2, if_pos (by omega), toN_append, toN_append, hs, List.append_assoc]; rfl
    · rw [if_neg h2, if_neg (show ¬ (n : Int) < 768 by omega), toN_append, hs]; rfl

def textA (n : Nat) : Array Nat := (answerB n).map (·.toNat)
theorem textA_eq (n : Nat) : textA n = (textN n).toArray := by
  unfold textA
  rw [← text_eq]
  unfold toN
  rw [← Array.toList_map]
theorem back_eq (b : Array UInt8) (l : List Nat) (h : toN b = l) : (l.map (·.toUInt8)).toArray = b := by
  subst h
  unfold toN
  rw [List.map_map]
  have : (fun x : Nat => x.toUInt8) ∘ (fun x : UInt8 => x.toNat) = _root_.id := by
    funext x
    show x.toNat.toUInt8 = x
    exact UInt8.ofNat_toNat
  rw [this, List.map_id]
theorem spec_hit {n : Nat} (h : n < 768) : ∃ b e, specA (textA n) = some (b, e) ∧ b ≤ e ∧ ((textA n).extract b e).map (·.toUInt8) = shownB n := by
  have h1 := okL_all n (by omega)
  unfold okL at h1
  have G := spec_go (l := textN n)
  cases hg : goL (textN n) with
  | none => rw [hg] at h1; simp at h1; omega
  | some g =>
    rw [hg] at h1
    simp only [Bool.and_eq_true, decide_eq_true_eq, beq_iff_eq] at h1
    obtain ⟨b, e, h2, h3, h4⟩ := G.2 g hg
    refine ⟨b, e, by rw [textA_eq]; exact h2, h3, ?_⟩
    rw [textA_eq]
    have : ((textN n).toArray.extract b e) = g.toArray := by
      rw [← h4]
      simp [List.extract_toArray, List.extract_eq_drop_take]
    rw [this, h1.2, List.map_toArray]
    exact back_eq _ _ (shown_eq n)
theorem spec_miss {n : Nat} (h : 768 ≤ n) (h' : n < 1152) : specA (textA n) = none := by
  have h1 := okL_all n h'
  unfold okL at h1
  cases hg : goL (textN n) with
  | none => rw [textA_eq]; exact spec_go.1 hg
  | some g =>
    rw [hg] at h1
    simp only [Bool.and_eq_true, decide_eq_true_eq] at h1
    omega

theorem words_space (sep t : List UInt8) (hs : ∀ c ∈ sep, Bytes.isSpace c = true) (fuel left : Nat) : Bytes.words fuel left (sep ++ t) = Bytes.words fuel left t := by
  cases fuel with
  | zero => rfl
  | succ fuel =>
    unfold Bytes.words
    have : (sep ++ t).dropWhile Bytes.isSpace = t.dropWhile Bytes.isSpace := List.dropWhile_append_of_pos hs
    rw [this]
theorem words_one (x t : List UInt8) (hx : x ≠ []) (hn : ∀ c ∈ x, Bytes.isSpace c = false) (ht : ∀ c, t.head? = some c → Bytes.isSpace c = true) (fuel left : Nat) :
    Bytes.words (fuel + 1) (left + 1) (x ++ t) = x :: Bytes.words fuel left t := by
  obtain ⟨a, x', rfl⟩ := List.exists_cons_of_ne_nil hx
  have ha := hn a List.mem_cons_self
  have h1 : (a :: x' ++ t).dropWhile Bytes.isSpace = a :: x' ++ t := by rw [List.cons_append, List.dropWhile_cons_of_neg (by rw [ha]; exact Bool.false_ne_true)]
  have h2 : (a :: x' ++ t).takeWhile (!Bytes.isSpace ·) = a :: x' := by
    rw [List.takeWhile_append_of_pos (fun c hc => by rw [hn c hc]; rfl)]
    cases t with
    | nil => simp
    | cons c t => rw [List.takeWhile_cons_of_neg (by rw [ht c rfl]; decide), List.append_nil]
  have h3 : (a :: x' ++ t).dropWhile (!Bytes.isSpace ·) = t := by
    rw [List.dropWhile_append_of_pos (fun c hc => by rw [hn c hc]; rfl)]
    cases t with
    | nil => rfl
    | cons c t => rw [List.dropWhile_cons_of_neg (by rw [ht c rfl]; decide)]
  rw [Bytes.words, h1]
  show (if (left + 1 == 0) = true then [a :: x' ++ t] else (a :: x' ++ t).takeWhile (!Bytes.isSpace ·) :: Bytes.words fuel (left + 1 - 1) ((a :: x' ++ t).dropWhile (!Bytes.isSpace ·))) = _
  rw [if_neg (by simp), h2, h3]
  rfl
theorem words_join (sep : List UInt8) (hs0 : sep ≠ []) (hs : ∀ c ∈ sep, Bytes.isSpace c = true) : ∀ (ps : List (List UInt8)) (fuel left : Nat), (∀ p ∈ ps, p ≠ [] ∧ ∀ c ∈ p, Bytes.isSpace c = false) → ps.length < fuel → ps.length ≤ left →
    Bytes.words fuel left (joinN sep ps) = ps
  | [], fuel, left, _, hf, _ => by
    obtain ⟨f, rfl⟩ : ∃ f, fuel = f + 1 := ⟨fuel - 1, by simp at hf; omega⟩
    rfl
  | x :: r, fuel, left, hp, hf, hl => by
    obtain ⟨f, rfl⟩ : ∃ f, fuel = f + 1 := ⟨fuel - 1, by simp at hf; omega⟩
    obtain ⟨l, rfl⟩ : ∃ l, left = l + 1 := ⟨left - 1, by simp at hl; omega⟩
    have hx := hp x List.mem_cons_self
    have ih := words_join sep hs0 hs r f l (fun p h => hp p (List.mem_cons_of_mem _ h)) (by simpa using hf) (by simpa using hl)
    cases r with
    | nil =>
      have := words_one x [] hx.1 hx.2 (fun c h => by simp at h) f l
      rw [List.append_nil] at this
      show Bytes.words (f + 1) (l + 1) x = [x]
      rw [this]
      have ih' : Bytes.words f l [] = [] := ih
      rw [ih']
    | cons y r =>
      have e : joinN sep (x :: y :: r) = x ++ (sep ++ joinN sep (y :: r)) := by rw [joinN, List.append_assoc]
      rw [e, words_one x _ hx.1 hx.2 (fun c h => by
        obtain ⟨a, s', rfl⟩ := List.exists_cons_of_ne_nil hs0
        simp at h
        exact h ▸ hs a List.mem_cons_self), words_space _ _ hs, ih]

theorem flags_ok : ∀ p ∈ flagsB, p.toList ≠ [] ∧ ∀ c ∈ p.toList, Bytes.isSpace c = false := by decide
theorem gap_in (x : Int) (h : ((x.fdiv 128).fmod 3).toNat < 3) : gapB x ∈ gapsB := by
  unfold gapB
  rw [List.getElem?_eq_getElem (show _ < gapsB.length from h)]
  exact List.getElem_mem _
theorem gaps_ok : ∀ p ∈ gapsB, p.toList ≠ [] ∧ ∀ c ∈ p.toList, Bytes.isSpace c = true := by decide
theorem joinN_len {α : Type} (sep : List α) : ∀ ps : List (List α), (∀ p ∈ ps, p ≠ []) → ps.length ≤ (joinN sep ps).length
  | [], _ => Nat.zero_le _
  | [x], h => by
    have := List.length_pos_iff.mpr (h x List.mem_cons_self)
    simp [joinN]; omega
  | x :: y :: r, h => by
    have h1 := List.length_pos_iff.mpr (h x List.mem_cons_self)
    have h2 := joinN_len sep (y :: r) fun p hp => h p (List.mem_cons_of_mem _ hp)
    rw [joinN, List.length_append, List.length_append, List.length_cons]
    omega

/-- cutting what was joined gives the words again -/
theorem cut_eq (n : Nat) : (Bytes.words ((shownB n).size + 1) ((shownB n).size + 1) (shownB n).toList).map List.toArray = wordsB n := by
  have hg := gaps_ok _ (gap_in (n : Int) (by
    have h' : ((n : Int).fdiv 128).fmod 3 = ((n / 128 % 3 : Nat) : Int) := hi_eq n 128 3 (by decide)
    rw [h', Int.toNat_natCast]; exact Nat.mod_lt _ (by decide)))
  have hw : ∀ p ∈ (wordsB n).map Array.toList, p ≠ [] ∧ ∀ c ∈ p, Bytes.isSpace c = false := fun p hp => by
    obtain ⟨b, hb, rfl⟩ := List.mem_map.mp hp
    exact flags_ok b (words_sub _ b hb)
  have hl := joinN_len (gapB n).toList ((wordsB n).map Array.toList) fun p hp => (hw p hp).1
  have hj := joined_eq (gapB n) (wordsB n)
  have hsz : (shownB n).size = (joinN (gapB n).toList ((wordsB n).map Array.toList)).length := by
    show (Bytes.joined _ _).size = _
    rw [← hj, Array.length_toList]
  show (Bytes.words ((shownB n).size + 1) ((shownB n).size + 1) (Bytes.joined (gapB n) (wordsB n)).toList).map List.toArray = wordsB n
  rw [hj, words_join _ hg.1 hg.2 _ _ _ hw (by omega) (by omega), List.map_map]
  have : List.toArray ∘ Array.toList = (_root_.id : Array UInt8 → Array UInt8) := rfl
  rw [this, List.map_id]
/-- where no space stands, the whole is the one word -/
theorem cut_one (n : Nat) (h0 : (shownB n).isEmpty = false) (hs : (shownB n).any Bytes.isSpace = false) : wordsB n = [shownB n] := by
  have hg := gaps_ok _ (gap_in (n : Int) (by
    have h' : ((n : Int).fdiv 128).fmod 3 = ((n / 128 % 3 : Nat) : Int) := hi_eq n 128 3 (by decide)
    rw [h', Int.toNat_natCast]; exact Nat.mod_lt _ (by decide)))
  have hj := joined_eq (gapB n) (wordsB n)
  have hs' : ∀ c ∈ (shownB n).toList, Bytes.isSpace c = false := by
    intro c hc
    rw [Array.any_eq_false] at hs
    obtain ⟨i, hi, rfl⟩ := List.mem_iff_getElem.mp hc
    have := hs i (by simpa using hi)
    simpa using this
  have hsj : (shownB n).toList = joinN (gapB n).toList ((wordsB n).map Array.toList) := hj
  match hw : wordsB n with
  | [] =>
    have : shownB n = #[] := by unfold shownB; rw [hw]; rfl
    rw [this] at h0; cases h0
  | [x] =>
    have : shownB n = x := by
      rw [hw] at hsj
      exact Array.toList_inj.mp hsj
    rw [this]
  | x :: y :: r =>
    exfalso
    rw [hw] at hsj
    obtain ⟨a, s', ha⟩ := List.exists_cons_of_ne_nil hg.1
    have ham : a ∈ (shownB n).toList := by
      rw [hsj]
      show a ∈ joinN _ (x.toList :: y.toList :: r.map Array.toList)
      rw [joinN, ha]; simp
    have := hg.2 a (by rw [ha]; exact List.mem_cons_self)
    rw [hs' a ham] at this
    cases this
end Mine
end

section
open PySem PySem.Calls PyProof.Rows PySem.W
namespace Mine
open PySem.Builtin PySem.Builtin.Re
open PySem.Sre (M)

theorem look_pattern_ga : PlainAttrs "re.Pattern" := ⟨⟨"object.__getattribute__", by rw [typeLookup_type, builtinLookup_eq_fast]; kernel_rfl, by decide +kernel⟩, by rw [typeLookup_type, builtinLookup_eq_fast]; kernel_rfl⟩
theorem look_match_ga : PlainAttrs "re.Match" := ⟨⟨"object.__getattribute__", by rw [typeLookup_type, builtinLookup_eq_fast]; kernel_rfl, by decide +kernel⟩, by rw [typeLookup_type, builtinLookup_eq_fast]; kernel_rfl⟩
theorem match_no_bool : typeLookup (.type "re.Match") "__bool__" = pure none := by rw [typeLookup_type, builtinLookup_eq_fast]; kernel_rfl
theorem match_no_len : typeLookup (.type "re.Match") "__len__" = pure none := by rw [typeLookup_type, builtinLookup_eq_fast]; kernel_rfl
theorem str_no_index : typeLookup (.type "str") "__index__" = pure none := by rw [typeLookup_type, builtinLookup_eq_fast]; kernel_rfl

section
variable {prog : Program} {w : World} {A : Around} {E : Value → Shared → Prop} {s : Shared}

theorem wp_drive : ∀ (turns k : Nat) (m : M) (Q : M → Shared → Prop), (M.runFor k m).outcome.isSome = true → k < 4 * turns → Q (M.runFor k m) s → wpAny (model prog w) A (reDrive turns m) Q E s
  | 0, k, m, Q, ho, hk, h => absurd hk (Nat.not_lt_zero _)
  | turns + 1, k, m, Q, ho, hk, h => by
    unfold reDrive
    show wpAny _ _ (if (M.runFor 4 m).outcome.isSome = true then pure (M.runFor 4 m) else do rule "sre.turn"; reDrive turns (M.runFor 4 m)) _ _ s
    by_cases h4 : (M.runFor 4 m).outcome.isSome = true
    · rw [if_pos h4]
      have : M.runFor 4 m = M.runFor k m := by
        by_cases hk4 : 4 ≤ k
        · rw [show k = 4 + (k - 4) from by omega, runFor_add, runFor_out _ _ h4]
        · have e := runFor_add k (4 - k) m
          rw [runFor_out _ _ ho, show k + (4 - k) = 4 from by omega] at e
          exact e
      rw [this]
      exact wpAny_pure h
    · rw [if_neg h4]
      have hk4 : 4 ≤ k := by
        by_cases hk4 : 4 ≤ k
        · exact hk4
        · exfalso
          have e := runFor_add k (4 - k) m
          rw [runFor_out _ _ ho, show k + (4 - k) = 4 from by omega] at e
          rw [e] at h4; exact h4 ho
      have e : M.runFor k m = M.runFor (k - 4) (M.runFor 4 m) := by rw [← runFor_add, show 4 + (k - 4) = k from by omega]
      rw [e] at ho h
      exact wpAny_bind (wpAny_rule (wp_drive turns (k - 4) _ Q ho (by omega) h))

theorem wp_rules {f : Nat → PUnit → Sem (ForInStep PUnit)} (hf : ∀ i u, ∀ Q : ForInStep PUnit → Shared → Prop, Q (.yield ⟨⟩) s → wpAny (model prog w) A (f i u) Q E s) : ∀ (l : List Nat) (u : PUnit) (Q : PUnit → Shared → Prop), Q ⟨⟩ s → wpAny (model prog w) A (forIn l u f) Q E s
  | [], u, Q, h => by rw [List.forIn_nil]; exact wpAny_pure h
  | i :: l, u, Q, h => by
    rw [List.forIn_cons]
    refine wpAny_bind (hf i u _ ?_)
    exact wp_rules hf l ⟨⟩ Q h

theorem wp_runToEnd {k : Nat} {m m' : M} {Q : Option M → Shared → Prop} (hr : M.runFor k m = m') (hk : k ≤ 1000000)
    (hq : (m'.outcome = some .matched ∧ Q (some m') s) ∨ (m'.outcome = some .failed ∧ Q none s)) : wpAny (model prog w) A (reRunToEnd m) Q E s := by
  subst hr
  unfold reRunToEnd
  have ho : (M.runFor k m).outcome.isSome = true := by
    rcases hq with ⟨h, _⟩ | ⟨h, _⟩ <;> rw [h] <;> rfl
  refine wpAny_bind (wp_drive (2 ^ 64) k m _ ho (by omega) ?_)
  refine wpAny_bind (wp_rules (fun i u Q h => ?_) _ _ _ ?_)
  · by_cases hc : (M.runFor k m).seen.has i = true
    · rw [if_pos hc]; exact wpAny_bind (wpAny_rule (wpAny_pure h))
    · rw [if_neg hc]; exact wpAny_pure h
  · rcases hq with ⟨h, hQ⟩ | ⟨h, hQ⟩
    · rw [h]; exact wpAny_pure hQ
    · rw [h]; exact wpAny_pure hQ

theorem wp_rawItems {a : Addr} {o : Obj} {xs : Array Value} {n : Nat} {Q : Array Int → Shared → Prop} (ho : s.heap.get? a = some o) (hd : o.data = .seq xs n) (h : Q (xs.map reRawOf) s) : wpAny (model prog w) A (reRawItems (.ref a)) Q E s := by
  unfold reRawItems
  exact wpAny_bind (wp_seqItems ho hd (wpAny_pure h))

theorem textOf_eq {b : Array UInt8} {t : Tok} {Q : Array Nat × Nat → Shared → Prop} (h : Q (b.map (·.toNat), 1) s) : wpAny (model prog w) A (reTextOf (.bytes b t)) Q E s := by
  unfold reTextOf
  refine wpAny_bind (wpAny_bind (wpAny_pure (wpAny_pure ?_)))
  refine wpAny_bind (wpAny_of_eq KBy.quiet_eq ?_)
  exact wpAny_pure h

theorem named_eq {v : Value} : reNamed "re.Pattern.match" "match" ["string", "pos", "endpos"] 1 [v] [] = pure [some v, none, none] := by kernel_rfl

/-- the pattern's own objects -/
structure Pat (g : GM) : Prop where
  pat : ∃ o x t, g 36 = some o ∧ o.cls = .type "re.Pattern" ∧ o.dict = none ∧ o.data = .fields #[x, .int 0 t, .int 1 0, .ref 33, .ref 34, .ref 35, .int 1 0]
  code : ∃ o n xs, g 35 = some o ∧ o.data = .seq xs n ∧ (xs.map reRawOf).map (·.toNat) = codeA
  dict : ∃ o ep hsh t u, g 33 = some o ∧ o.data = .dict #[{ hash := hsh, key := .str "flags" t, val := .int 1 u }] ep

theorem pat_of {mb : Loc} {g : GM} (gl : Gl w mb g) : Pat g := by
  refine ⟨⟨_, _, _, gl.K 36 _ rfl, rfl, rfl, rfl⟩, ⟨_, _, _, gl.K 35 _ rfl, rfl, ?_⟩, ⟨_, _, _, _, _, gl.K 33 _ rfl, rfl⟩⟩
  simp only [List.map_toArray]
  rfl

theorem wp_target {g : GM} (P : Pat g) {b : Array UInt8} {t : Tok} {Q : ReTarget → Shared → Prop} (keep : Sub g s.heap.get?) (hb : b.size < 2 ^ 62)
    (h : Q { pattern := .ref 36, string := .bytes b t, code := codeA, text := b.map (·.toNat), kind := 1, groups := 1, pos := 0, lim := (b.map (·.toNat)).size } s) :
    wpAny (model prog w) A (reTarget "re.Pattern.match" "match" ⟨[.ref 36, .bytes b t], []⟩) Q E s := by
  obtain ⟨o, x, tx, ho, hc, hdn, hd⟩ := P.pat
  obtain ⟨o2, n2, xs, ho2, hd2, hcode⟩ := P.code
  unfold reTarget
  refine wpAny_bind (wpAny_of_eq named_eq ?_)
  refine wpAny_bind (wpAny_pure ?_)
  refine wpAny_bind (wpAny_pure ?_)
  refine wpAny_bind (wpAny_fieldsOf (keep _ _ ho) hd ?_)
  refine wpAny_bind (textOf_eq ?_)
  dsimp only
  have c6 : reRawNat ((#[x, Value.int 0 tx, .int 1 0, .ref 33, .ref 34, .ref 35, .int 1 0] : Array Value).getD 6 .none) = 1 := rfl
  have c5 : ((#[x, Value.int 0 tx, .int 1 0, .ref 33, .ref 34, .ref 35, .int 1 0] : Array Value).getD 5 .none) = .ref 35 := rfl
  have c2 : reRawNat ((#[x, Value.int 0 tx, .int 1 0, .ref 33, .ref 34, .ref 35, .int 1 0] : Array Value).getD 2 .none) = 1 := rfl
  rw [c6, c5, c2, if_neg (by decide), if_neg (by decide)]
  refine wpAny_bind ?_
  unfold reNoCollectionInside
  rw [if_pos (by decide)]
  refine wpAny_bind (wpAny_of_eq KBy.isInstance_eq ?_)
  refine wpAny_pure ?_
  refine wpAny_bind (wp_rawItems (keep _ _ ho2) hd2 ?_)
  refine wpAny_pure ?_
  rw [hcode]
  have e1 : min (0 : Int).toNat (b.map (·.toNat)).size = 0 := by simp
  have e2 : min ((2 : Int) ^ 63 - 1).toNat (b.map (·.toNat)).size = (b.map (·.toNat)).size := by
    rw [Array.size_map]
    have : ((2 : Int) ^ 63 - 1).toNat = 9223372036854775807 := rfl
    rw [this]
    have : (2 : Nat) ^ 62 = 4611686018427387904 := rfl
    omega
  rw [e1, e2]
  exact h

def rawI (n : Nat) : Value := rawInt (n : Int)
/-- a match of the pattern: where the one group stands -/
def MObj (g : GM) (D : Addr) (b : Array UInt8) (lo hi : Nat) : Prop := ∃ o D1 t o1 x1 x2 y1 y2 y3 n, g D = some o ∧ o.cls = .type "re.Match" ∧ o.dict = none ∧ o.data = .fields #[.bytes b t, .ref 36, y1, y2, y3, .ref D1] ∧
  g D1 = some o1 ∧ o1.data = .seq #[x1, x2, rawI lo, rawI hi] n

variable {env : Env} {g : GM} {m cm : Loc}

theorem do_newFields {T : String} {vs : List Value} {R : Value → GM → Prop} (hsz : vs.length ≤ sizeLine) (h : ∀ D, g D = none → R (.ref D) (upd g D { cls := .type T, data := .fields vs.toArray })) : Do prog w A env g m cm (newFields T vs) R := fun s rd => by
  refine wpAny_newObj_type ⟨upd g s.heap.objs.size _, Ext.one (tk := s.toks) rd.keep (fun b o e => Heap.get?_push_of_some _ e) (get_size_none _) (Heap.get?_push_size _ rfl), h _ (gnone_size rd _ (Nat.le_refl _))⟩ ?_
  show vs.toArray.size ≤ sizeLine + 2
  rw [List.size_toArray]; omega

theorem do_match_no (P : Pat g) {b : Array UInt8} {t : Tok} {R : Value → GM → Prop} (h8 : 8 ≤ b.size) (hsz : b.size ≤ 200) (hs : specA (b.map (·.toNat)) = none) (h : R .none g) :
    Do prog w A env g m cm (call (.builtin "re.Pattern.match") [.ref 36, .bytes b t]) R := fun s rd => by
  obtain ⟨o, x, tx, ho, hc, hdn, hd⟩ := P.pat
  refine wpAny_call (codeAny_call_builtin FB2.slot_pattern_match.plain FB2.entry_pattern_match (FB2.slot_pattern_match.check _ _ _ _ _ _ _ _ ⟨o, rd.keep _ _ ho, hc⟩ (FB2.args_pattern_match _ _) ?_))
  unfold Builtin.«re.Pattern.match»
  refine wpAny_bind (wp_target P rd.keep (by omega) ?_)
  dsimp only
  obtain ⟨m', hm', k, hk, hr⟩ := (spec_run (text := b.map (·.toNat)) (by rw [Array.size_map]; exact h8) (by rw [Array.size_map]; exact hsz)).2 hs
  unfold reAnswer
  refine wpAny_bind (wp_runToEnd hr hk (.inr ⟨hm', ?_⟩))
  exact wpAny_pure ⟨g, Ext.refl rd.keep, h⟩

theorem do_match_yes (P : Pat g) {b : Array UInt8} {t : Tok} {R : Value → GM → Prop} {lo hi : Nat} (h8 : 8 ≤ b.size) (hsz : b.size ≤ 200) (hs : specA (b.map (·.toNat)) = some (lo, hi)) (hle : lo ≤ hi)
    (h : ∀ D g', Sub g g' → g D = none → MObj g' D b lo hi → R (.ref D) g') :
    Do prog w A env g m cm (call (.builtin "re.Pattern.match") [.ref 36, .bytes b t]) R := fun s rd => by
  obtain ⟨o, x, tx, ho, hc, hdn, hd⟩ := P.pat
  refine wpAny_call (codeAny_call_builtin FB2.slot_pattern_match.plain FB2.entry_pattern_match (FB2.slot_pattern_match.check _ _ _ _ _ _ _ _ ⟨o, rd.keep _ _ ho, hc⟩ (FB2.args_pattern_match _ _) ?_))
  unfold Builtin.«re.Pattern.match»
  refine wpAny_bind (wp_target P rd.keep (by omega) ?_)
  dsimp only
  obtain ⟨m', ⟨hm', hmk, hlm, hli⟩, k, hk, hr⟩ := (spec_run (text := b.map (·.toNat)) (by rw [Array.size_map]; exact h8) (by rw [Array.size_map]; exact hsz)).1 lo hi hs
  unfold reAnswer
  refine wpAny_bind (wp_runToEnd hr hk (.inl ⟨hm', ?_⟩))
  dsimp only
  unfold reNewMatch
  simp only [hmk, hlm]
  refine wpAny_bind ?_
  rw [if_neg (by
    have : List.range 1 = [0] := rfl
    rw [this]
    show ¬ ((decide (((2 * 0 + 1 : Nat) : Int) ≤ 1) && decide (hi < lo)) || false) = true
    simp; omega)]
  have run : Do prog w A.in1 env g m cm (newTuple (rawInt ↑m'.start :: rawInt ↑m'.handed :: [rawInt (lo : Int), rawInt (hi : Int)]) >>= fun v => newFields "re.Match" [Value.bytes b t, Value.ref 36, rawInt ((0 : Nat) : Int), rawInt (((Array.map (fun x : UInt8 => x.toNat) b).size : Nat) : Int), rawInt m'.lastindex, v])
      R := by
    refine Do.bind (do_newTuple (by simp [sizeLine_eq]) fun D1 o1 hD1 hT => ?_)
    refine do_newFields (by simp [sizeLine_eq]) fun D hD => ?_
    have hg : g D = none := by
      cases e : g D with
      | none => rfl
      | some o' => have := upd_sub (o := o1) hD1 D o' e; rw [hD] at this; cases this
    have hne : D1 ≠ D := by rintro rfl; rw [upd_self] at hD; cases hD
    obtain ⟨_, n, hdt⟩ := hT
    exact h D _ ((upd_sub hD1).trans (upd_sub hD)) hg ⟨_, D1, t, o1, _, _, _, _, _, n, upd_self, rfl, rfl, rfl, by rw [upd_ne hne, upd_self], hdt⟩
  refine wpAny_mono (run s rd) (fun v s' ⟨g', e, hr⟩ => ?_) fun _ _ x => x.elim
  exact wpAny_pure ⟨g', e, hr⟩

theorem wp_dictGet_str {d : Addr} {o : Obj} {hsh : Int} {x : Str} {t u : Tok} {v : Value} {ep : Nat} {Q : Option Value → Shared → Prop} (ho : s.heap.get? d = some o) (hd : o.data = .dict #[{ hash := hsh, key := .str x t, val := v }] ep)
    (h : Q (some v) { s with toks := s.toks + 1 }) : wpAny (model prog w) A (dictGet d (.str x u)) Q E s := by
  unfold dictGet
  try with_reducible refine wpAny_holding ?_
  refine wpAny_bind (wpAny_pyHash_str (wpAny_bind (KTD.kt_dictFind_strs (s := { s with toks := s.toks + 1 }) ho hd (by simp [isExactStrKey]) ?_)))
  have hi : (#[({ hash := hsh, key := .str x t, val := v } : DictEntry)]).findIdx? (fun e => e.key.isStr x) = some 0 := by
    have : (Value.str x t).isStr x = true := by show (x == x) = true; exact beq_self_eq_true x
    exact Array.findIdx?_eq_some_iff_getElem.mpr ⟨Nat.zero_lt_one, this, fun j hj => absurd hj (Nat.not_lt_zero _)⟩
  rw [hi]
  exact wpAny_bind (wpAny_dictEntries (s := { s with toks := s.toks + 1 }) ho hd (wpAny_pure h))

theorem do_group (P : Pat g) {D : Addr} {b : Array UInt8} {t : Tok} {lo hi : Nat} (hM : MObj g D b lo hi) {R : Value → GM → Prop} (hsz : b.size ≤ 200)
    (h : ∀ t, R (.bytes (((b.map (·.toNat)).extract lo hi).map (·.toUInt8)) t) g) :
    Do prog w A env g m cm (call (.builtin "re.Match.group") [.ref D, .str "flags" t]) R := fun s rd => by
  obtain ⟨o, D1, tb, o1, x1, x2, y1, y2, y3, n, ho, hc, hdn, hd, ho1, hd1⟩ := hM
  obtain ⟨op, x, tx, hop, hpc, hpdn, hpd⟩ := P.pat
  obtain ⟨od, ep, hsh, td, ud, hod, hdd⟩ := P.dict
  have kp := rd.keep
  refine wpAny_call (codeAny_call_builtin FB2.slot_match_group.plain FB2.entry_match_group (FB2.slot_match_group.check _ _ _ _ _ _ _ _ ⟨o, kp _ _ ho, hc⟩ (FB2.args_match_group _ _) ?_))
  unfold Builtin.«re.Match.group»
  refine wpAny_bind (wpAny_of_eq (a := PUnit.unit) (by kernel_rfl) ?_)
  show wpAny _ _ (reFound (.ref D) >>= fun x => _) _ _ s
  have hfound : ∀ (Q : ReFound → Shared → Prop) (E : Value → Shared → Prop), Q { fields := #[.bytes b tb, .ref 36, y1, y2, y3, .ref D1], spans := (#[x1, x2, rawI lo, rawI hi] : Array Value).map reRawOf } s → wpAny (model prog w) A.in1 (reFound (.ref D)) Q E s := by
    intro Q E hQ
    unfold reFound
    refine wpAny_bind (wpAny_fieldsOf (kp _ _ ho) hd ?_)
    have c5 : ((#[.bytes b tb, .ref 36, y1, y2, y3, .ref D1] : Array Value).getD 5 .none) = .ref D1 := rfl
    rw [c5]
    exact wpAny_bind (wp_rawItems (kp _ _ ho1) hd1 (wpAny_pure hQ))
  refine wpAny_bind (hfound _ _ ?_)
  dsimp only
  have hspan : (#[x1, x2, rawI lo, rawI hi] : Array Value).map reRawOf = #[reRawOf x1, reRawOf x2, (lo : Int), (hi : Int)] := by
    simp [rawI, rawInt, reRawOf]
  rw [hspan]
  have hnum : ∀ (Q : Nat → Shared → Prop) (E : Value → Shared → Prop), (∀ k, Q 1 { s with toks := k }) →
      wpAny (model prog w) A.in1 (reGroupNumber { fields := #[.bytes b tb, .ref 36, y1, y2, y3, .ref D1], spans := #[reRawOf x1, reRawOf x2, (lo : Int), (hi : Int)] } (.str "flags" t)) Q E s := by
    intro Q E hQ
    unfold reGroupNumber
    refine wpAny_bind (wpAny_of_eq (a := Option.none) rfl ?_)
    show wpAny _ _ (specialOf (.str "flags" t) "__index__" >>= fun z => _) _ _ s
    refine wpAny_bind (wpAny_specialOf (typeIs_str _ _ _) str_no_index ?_)
    show wpAny _ _ (fieldsOf (.ref 36) >>= fun z => _) _ _ s
    refine wpAny_bind (wpAny_fieldsOf (kp _ _ hop) hpd ?_)
    show wpAny _ _ (dictGet 33 (.str "flags" t) >>= fun z => _) _ _ s
    refine wpAny_bind (wp_dictGet_str (kp _ _ hod) hdd ?_)
    refine wpAny_bind (wpAny_of_eq (a := some 1) rfl ?_)
    refine wpAny_pure ?_
    exact hQ _
  refine wpAny_bind (hnum _ _ fun k => ?_)
  refine wpAny_bind ?_
  unfold reGroupText
  have c2 : (#[reRawOf x1, reRawOf x2, (lo : Int), (hi : Int)] : Array Int).getD (2 * 1) (-1) = (lo : Int) := rfl
  have c3 : (#[reRawOf x1, reRawOf x2, (lo : Int), (hi : Int)] : Array Int).getD (2 * 1 + 1) (-1) = (hi : Int) := rfl
  dsimp only
  rw [c2, c3, if_neg (by simp)]
  have c0 : (#[.bytes b tb, .ref 36, y1, y2, y3, .ref D1] : Array Value).getD 0 .none = .bytes b tb := rfl
  rw [c0]
  refine wpAny_bind (textOf_eq ?_)
  dsimp only
  unfold reSlice
  rw [if_neg (by decide), Int.toNat_natCast, Int.toNat_natCast]
  refine wpAny_mkBytes ?_ ?_
  · exact wpAny_pure ⟨g, Ext.toks rd.keep _, h _⟩
  · rw [sizeLine_eq, Array.size_map, Array.size_extract, Array.size_map]; omega
end
end Mine
end

section
open PySem PySem.Calls PyProof.Rows PySem.W
namespace Mine
open PySem.Builtin

section
variable {prog : Program} {w : World} {A : Around} {E : Value → Shared → Prop} {env : Env} {g : GM} {m cm : Loc}

theorem wp_news : ∀ (ws : List (List UInt8)) (s : Shared) (Q : List Value → Shared → Prop), (∀ x ∈ ws, x.length ≤ sizeLine) → (∀ vs k, BytesAre vs (ws.map List.toArray) → Q vs { s with toks := k }) →
    wpAny (model prog w) A (ws.mapM fun x => Bytes.Kind.bytes.new x.toArray) Q E s
  | [], s, Q, hl, h => by rw [List.mapM_nil]; exact wpAny_pure (h [] _ .nil)
  | x :: r, s, Q, hl, h => by
    rw [List.mapM_cons]
    show wpAny _ _ (mkBytes x.toArray >>= fun v => _) _ _ s
    refine wpAny_bind (wpAny_mkBytes ?_ (by rw [List.size_toArray]; exact hl x List.mem_cons_self))
    refine wpAny_bind (wp_news r _ _ (fun y hy => hl y (List.mem_cons_of_mem _ hy)) fun vs k hb => ?_)
    exact wpAny_pure (h _ k (.cons _ _ hb))

theorem split_args {v : Value} : Bytes.bindOptional (s!"{Bytes.Kind.bytes.name}.{"split"}") "split" ["sep", "maxsplit"] [] [] = pure [none, none] := by kernel_rfl

theorem do_split {n : Nat} {t : Tok} {R : Value → GM → Prop} (hn : n < 1152) (h : ∀ D o ys, g D = none → LObj o ys → BytesAre ys (wordsB n) → R (.ref D) (upd g D o)) :
    Do prog w A env g m cm (call (.builtin "bytes.split") [.bytes (shownB n) t]) R := fun s rd => by
  refine wpAny_call (codeAny_call_builtin FB2.slot_bytes_split.plain FB2.entry_bytes_split (FB2.slot_bytes_split.check _ _ _ _ _ _ _ _ (typeIs_bytes _ _ _) (FB2.args_bytes_split _) ?_))
  show wpAny _ _ (Bytes.splitM .bytes "split" false ⟨[.bytes (shownB n) t], []⟩) _ _ s
  have hsz := (shown_small n hn).2.1
  unfold Bytes.splitM
  refine wpAny_bind (wpAny_of_eq (split_args (v := .none)) ?_)
  refine wpAny_bind (wpAny_pure ?_)
  refine wpAny_bind (wpAny_of_eq (a := shownB n) rfl ?_)
  refine wpAny_bind (wpAny_rule ?_)
  have hlim : (if (-1 : Int) < 0 then (shownB n).size + 1 else (-1 : Int).toNat) = (shownB n).size + 1 := rfl
  rw [hlim]
  by_cases hc : (decide ((shownB n).size + 1 > 0) && !(shownB n).isEmpty && !(shownB n).any Bytes.isSpace) = true
  · rw [if_pos hc]
    simp only [Bool.and_eq_true, Bool.not_eq_true', decide_eq_true_eq] at hc
    have hw := cut_one n hc.1.2 hc.2
    refine wpAny_bind ?_
    unfold Bytes.Kind.same
    rw [if_pos (by decide)]
    refine wpAny_bind (wpAny_typeOf (T := "bytes") (typeIs_bytes _ _ _) ?_)
    rw [if_pos (by decide)]
    refine wpAny_pure ?_
    refine wpAny_bind ?_
    have run : Do prog w A.in1 env g m cm (newList [Value.bytes (shownB n) t]) R := do_newList (by simp [sizeLine_eq]) fun D o hD hLo => h D o _ hD hLo (by rw [hw]; exact .cons _ t .nil)
    exact wpAny_mono (run s rd) (fun v s' hr => wpAny_pure hr) fun _ _ x => x.elim
  · rw [if_neg hc]
    dsimp only
    rw [if_neg (by decide)]
    have hcut := cut_eq n
    have hlen : ∀ x ∈ Bytes.words ((shownB n).size + 1) ((shownB n).size + 1) (shownB n).toList, x.length ≤ sizeLine := by
      intro x hx
      have : x.toArray ∈ wordsB n := by rw [← hcut]; exact List.mem_map.mpr ⟨x, hx, rfl⟩
      have := (show ∀ p ∈ flagsB, p.size ≤ 100 by decide) _ (words_sub _ _ this)
      rw [List.size_toArray] at this
      rw [sizeLine_eq]; omega
    refine wpAny_bind (wp_news _ s _ hlen fun vs k hb => ?_)
    rw [hcut] at hb
    have hvl : vs.length ≤ sizeLine := by
      rw [ba_length hb]
      have : (wordsB n).length ≤ 6 := words_len _
      rw [sizeLine_eq]; omega
    have e1 := Ext.toks rd.keep k
    have run : Do prog w A.in1 env g m cm (newList vs) R := do_newList hvl fun D o hD hLo => h D o _ hD hLo hb
    refine wpAny_bind (wpAny_mono (run _ (rd.ext e1)) (fun v s' ⟨g', e', hr⟩ => wpAny_pure ⟨g', e1.trans e', hr⟩) fun _ _ x => x.elim)

theorem do_truthy_none {R : Bool → GM → Prop} (h : R false g) : Do prog w A env g m cm (truthy .none) R := fun s rd => by
  unfold truthy; exact wpAny_pure ⟨g, Ext.refl rd.keep, h⟩
theorem do_truthy_match {D : Addr} {o : Obj} {R : Bool → GM → Prop} (ho : g D = some o) (hc : o.cls = .type "re.Match") (h : R true g) : Do prog w A env g m cm (truthy (.ref D)) R := fun s rd => by
  have hT : s.TypeIs (.ref D) "re.Match" := ⟨o, rd.keep _ _ ho, hc⟩
  unfold truthy
  refine wpAny_bind (wpAny_callSpecial?_none hT match_no_bool ?_)
  refine wpAny_bind (wpAny_specialOf hT match_no_len ?_)
  exact wpAny_pure ⟨g, Ext.refl rd.keep, h⟩

def tellB (n : Nat) : List (Array UInt8) := if n < 768 then wordsB n else []
variable {mb : Loc}
theorem fn_parse (gl : Gl w mb g) {x : Nat} {t : Tok} {R : Value → GM → Prop} {k : Nat} (rm : Rm A 1 (k + 6)) (hx : x < 1152)
    (h : ∀ D ys g', Sub g g' → g D = none → Tpl g' D ys → BytesAre ys (tellB x) → R (.ref D) g') : Do prog w A env g m cm (call (.ref 43) [.bytes (answerB x) t]) R := by
  refine do_call_fn (d := 0) (u := k + 3) rm (gl.K 43 _ rfl) rfl gl.lim (gl.code (by rfl)) rfl rfl rfl rfl (by decide) ?_
  intro s L gs hgs hsub hL nm rm'
  have glS : Gl w mb gs := gl.sub hsub
  have P := pat_of glS
  have fresh : ∀ (D : Addr) (o : Obj) (g₁ : GM), gs D = none → g D = none := fun D o g₁ e => by
    cases q : g D with
    | none => rfl
    | some o' => have := hsub D o' q; rw [e] at this; cases this
  obtain ⟨l1, l2⟩ := len_all x hx
  have hsz : (answerB x).size = (textN x).length := by rw [← text_eq]; unfold toN; simp
  refine sx_cons (sx_assign nm rfl (ev_meth1 (ev_global glS.g (mg_flags w) ⟨"re.Pattern.match", do_method (T := "re.Pattern") (fun s kp => ?_) look_pattern_ga FB2.slot_pattern_match FB2.type_pattern_match (fun s kp a e => ?_) ⟨_, rfl, ?_⟩⟩)))
  · obtain ⟨o, y, ty, ho, hc, hdn, hd⟩ := P.pat
    exact ⟨o, kp _ _ ho, hc⟩
  · obtain ⟨o, y, ty, ho, hc, hdn, hd⟩ := P.pat
    cases e
    exact ⟨o, kp _ _ ho, hdn⟩
  refine do_args_cons (ev_local rfl (do_args_nil ?_))
  show Do _ _ _ _ _ _ _ (call (.builtin "re.Pattern.match") [.ref 36, .bytes (answerB x) t]) _
  by_cases hlt : x < 768
  · obtain ⟨lo, hi, h1, h2, h3⟩ := spec_hit hlt
    refine do_match_yes P (by omega) (by omega) h1 h2 fun D g₁ hs₁ hD hM => ⟨_, _, .loc rfl, ?_⟩
    have gl₁ := glS.sub hs₁
    have P₁ := pat_of gl₁
    obtain ⟨oM, D1, tb, o1, x1, x2, y1, y2, y3, nn, ho, hc, hdn, hd, ho1, hd1⟩ := id hM
    refine sx_cons (sx_if nm (is_not (is_value (ev_local setL_self (do_truthy_match ho hc ?_)))))
    simp only [Bool.not_true, Bool.false_eq_true, if_false]
    refine sx_nil (sx_cons (sx_return nm (ev_callt (T := "tuple") (ev_builtin gl₁.g (mg_tuple w) gl₁.b (by rw [gl₁.hb _ (by decide)]; exact boot_tuple) rfl) fun g₂ hs₂ => ?_)))
    have P₂ := pat_of (gl₁.sub hs₂)
    refine do_args_cons (ev_meth0 (ev_meth1 (ev_local setL_self ⟨"re.Match.group", do_method (T := "re.Match") (fun s kp => ⟨oM, kp _ _ (hs₂ _ _ ho), hc⟩) look_match_ga FB2.slot_match_group FB2.type_match_group (fun s kp a e => by cases e; exact ⟨oM, kp _ _ (hs₂ _ _ ho), hdn⟩) ⟨_, rfl, ?_⟩⟩)))
    refine do_args_cons (ev_const_str fun t₁ => do_args_nil ?_)
    refine do_group P₂ (D := D) (b := answerB x) (lo := lo) (hi := hi) ⟨oM, D1, tb, o1, x1, x2, y1, y2, y3, nn, hs₂ _ _ ho, hc, hdn, hd, hs₂ _ _ ho1, hd1⟩ (by omega) fun t₂ => ?_
    have e3 : (((answerB x).map (·.toNat)).extract lo hi).map (·.toUInt8) = shownB x := h3
    rw [e3]
    refine ⟨"bytes.split", do_method_bytes FB2.slot_bytes_split FB2.type_bytes_split ⟨_, rfl, do_split (by omega) fun D2 o2 ys hD2 hL2 hb2 => ?_⟩⟩
    have hln : ys.length ≤ sizeLine := by
      rw [ba_length hb2]
      have := words_len (x : Int)
      rw [sizeLine_eq]; omega
    refine do_args_nil (do_tuple_list (pl_upd hL2).lst hln fun D3 o3 hD3 hT3 => ⟨_, rfl, fun g'' hg hn => ?_⟩)
    have g2none : gs D3 = none := by
      cases e : gs D3 with
      | none => rfl
      | some o' => have := upd_sub (o := o2) hD2 D3 o' (hs₂ _ _ (hs₁ _ _ e)); rw [hD3] at this; cases this
    refine h D3 ys g'' hg (fresh D3 o3 gs g2none) ⟨o3, by rw [hn D3 g2none, upd_self], hT3⟩ ?_
    unfold tellB; rw [if_pos hlt]; exact hb2
  · refine do_match_no P (by omega) (by omega) (spec_miss (by omega) hx) ⟨_, _, .loc rfl, ?_⟩
    refine sx_cons (sx_if nm (is_not (is_value (ev_local setL_self (do_truthy_none ?_)))))
    simp only [Bool.not_false, if_true]
    refine sx_cons (sx_return nm (ev_tuple (do_args_nil (do_newTuple (Nat.zero_le _) fun D3 o3 hD3 hT3 => ⟨_, rfl, fun g'' hg hn => ?_⟩))))
    refine h D3 [] g'' hg (fresh D3 o3 gs hD3) ⟨o3, by rw [hn D3 hD3, upd_self], hT3⟩ ?_
    unfold tellB; rw [if_neg hlt]; exact .nil
end
end Mine
end

section
open PySem PySem.Calls PyProof.Rows PySem.W
namespace Mine
open PySem.Builtin

section
variable {b : Array UInt8} {t u : Tok} {x : Str} {n : Nat}
theorem dec_road {id : String} : _codecs.decodeRoad id b (Str.ofString "ascii") none [] = (_codecs.runDecoder id _codecs.asciiDecoder none true b 0 [] >>= fun r => mkStr ⟨r.1⟩) := by kernel_rfl
theorem dec_meets {t1 t2 : Tok} {d : Str} (hd : ∀ id, _codecs.runDecoder id _codecs.asciiDecoder none true b 0 [] = pure (x.cps, n)) :
    Meets («_codecs.decode.text» ⟨[.bytes b t, .str (Str.ofString "ascii") t1, .none, .str d t2], []⟩) (fun _ R s => x.length ≤ sizeLine ∧ R (.ok (.ret (.str x s.toks))) { s with toks := s.toks + 1 }) := by
  refine .of_wp fun prog w A R s hS => ?_
  obtain ⟨hsz, h⟩ := hS
  show wpAny _ _ (Bytes.bytesLike _ (.bytes b t) >>= fun r => _) _ _ s
  refine wpAny_bind (wpAny_of_eq KBd.like_eq ?_)
  refine wpAny_bind (wpAny_of_eq KBd.held_eq ?_)
  show wpAny _ _ (_codecs.decodeRoad _ b (Str.ofString "ascii") none [] >>= fun v => _) _ _ s
  rw [dec_road, hd]
  refine wpAny_bind (wpAny_bind (wpAny_pure ?_))
  exact wpAny_mkStr (wpAny_pure ⟨_, rfl, h⟩) hsz
theorem dec_entry {c : UInt8} {cs : List UInt8} : «bytes.decode» ⟨[.bytes (c :: cs).toArray t, .str (Str.ofString "ascii") u], []⟩ = (mkStr (Str.ofString "utf-8") >>= fun _ => mkStr (Str.ofString "ascii") >>= fun e => mkStr (Str.ofString "bytes.decode") >>= fun d =>
    call (.builtin "_codecs.decode.text") [.bytes (c :: cs).toArray t, e, .none, d] >>= fun v => ret v) := by kernel_rfl
end
def decS (b : Array UInt8) : Str := ⟨(toN b).toArray⟩
def namesS : List Str := ["$Junk", "Draft", "Drafts", "\\Seen", "draft", "~"]
theorem dec_names : flagsB.map decS = namesS := by decide +kernel

theorem dec_run : ∀ w ∈ flagsB, ∀ id, _codecs.runDecoder id _codecs.asciiDecoder none true w 0 [] = pure ((decS w).cps, w.size) := by
  intro w hw id
  unfold flagsB at hw
  simp only [List.mem_cons, List.not_mem_nil, or_false] at hw
  rcases hw with rfl | rfl | rfl | rfl | rfl | rfl <;> kernel_rfl

section
variable {prog : Program} {w : World} {A : Around} {env : Env} {g : GM} {m cm : Loc}
theorem do_decode {b : Array UInt8} {t u : Tok} {R : Value → GM → Prop} (hb : b ∈ flagsB) (h : ∀ t, R (.str (decS b) t) g) : Do prog w A env g m cm (call (.builtin "bytes.decode") [.bytes b t, .str (Str.ofString "ascii") u]) R := fun s rd => by
  refine wpAny_call (codeAny_call_builtin FB.slot_bytes_decode.plain FB.entry_bytes_decode (FB.slot_bytes_decode.check _ _ _ _ _ _ _ _ (typeIs_bytes _ _ _) (FB2.args_bytes_decode_2 _ _) ?_))
  obtain ⟨c, cs, hcs⟩ : ∃ c cs, b = (c :: cs).toArray := by
    have : b.toList ≠ [] := (flags_ok b hb).1
    obtain ⟨c, cs, h1⟩ := List.exists_cons_of_ne_nil this
    exact ⟨c, cs, by rw [← h1]⟩
  have hr := dec_run b hb
  have hlen : (decS b).length ≤ sizeLine := by
    have : ∀ p ∈ flagsB, (decS p).length ≤ 100 := by decide +kernel
    have := this b hb
    rw [sizeLine_eq]; omega
  subst hcs
  rw [dec_entry]
  refine wpAny_bind (wpAny_mkStr ?_ (by decide))
  refine wpAny_bind (wpAny_mkStr ?_ (by decide))
  refine wpAny_bind (wpAny_mkStr ?_ (by decide))
  refine wpAny_bind (call_function_meets KBd.kind_text KBd.plain_text KBd.entry_text (KBd.args_text _ _ _ _) (dec_meets hr) ⟨hlen, ?_⟩)
  exact wpAny_pure ⟨g, Ext.toks rd.keep _, h _⟩
end
end Mine
end

section
open PySem PySem.Calls PyProof.Rows PySem.W
namespace Mine

def nameAt (k : Nat) : Str := (namesS[k]?).getD Str.empty
def lt' (a b : Str) : Prop := a.cps.toList < b.cps.toList
theorem name_lt : ∀ j < 6, ∀ k < j, (nameAt k).cps.toList < (nameAt j).cps.toList := by decide +kernel
theorem name_inj : ∀ j < 6, ∀ k < 6, nameAt j = nameAt k → j = k := by decide +kernel
theorem name_short : ∀ j < 6, (nameAt j).length ≤ 20 := by decide +kernel
theorem log_facts : ∀ m < 64, m ≠ 0 → m.testBit (Nat.log2 m) = true ∧ Nat.log2 m < 6 ∧ (∀ k < 6, m.testBit k = true → k ≤ Nat.log2 m) ∧ 2 ^ Nat.log2 m ≤ m ∧ m < 2 ^ (Nat.log2 m + 1) := by decide +kernel
theorem bits_zero : ∀ m < 64, (∀ k < 6, m.testBit k = false) → m = 0 := by decide +kernel
theorem xor_lt : ∀ a < 64, ∀ b < 64, a ^^^ b < 64 := fun a ha b hb => Nat.xor_lt_two_pow (n := 6) ha hb

def RowOf (l : List Str) (m : Nat) : Prop := l.Nodup ∧ ∀ x, x ∈ l ↔ ∃ k, k < 6 ∧ m.testBit k = true ∧ x = nameAt k
def rowM (m : Nat) : List Str := ((List.range 6).filter fun k => m.testBit k).map nameAt
theorem rowM_ok (m : Nat) : RowOf (rowM m) m := by
  refine ⟨?_, fun x => ?_⟩
  · unfold rowM
    rw [List.Nodup, List.pairwise_map]
    have h : ((List.range 6).filter fun k => m.testBit k).Pairwise fun a b => a < b := List.pairwise_lt_range.filter _
    have hm : ∀ k ∈ ((List.range 6).filter fun k => m.testBit k), k < 6 := fun k hk => List.mem_range.mp (List.mem_filter.mp hk).1
    refine List.Pairwise.imp_of_mem ?_ h
    intro a b ha hb hab e
    exact Nat.ne_of_lt hab (name_inj a (hm a ha) b (hm b hb) e)
  · unfold rowM
    rw [List.mem_map]
    constructor
    · rintro ⟨k, hk, rfl⟩
      obtain ⟨h1, h2⟩ := List.mem_filter.mp hk
      exact ⟨k, List.mem_range.mp h1, h2, rfl⟩
    · rintro ⟨k, h1, h2, rfl⟩
      exact ⟨k, List.mem_filter.mpr ⟨List.mem_range.mpr h1, h2⟩, rfl⟩
theorem rowM_sorted (m : Nat) : (rowM m).Pairwise (fun a b => a.cps.toList < b.cps.toList) := by
  unfold rowM
  rw [List.pairwise_map]
  have h : ((List.range 6).filter fun k => m.testBit k).Pairwise fun a b => a < b := List.pairwise_lt_range.filter _
  have hm : ∀ k ∈ ((List.range 6).filter fun k => m.testBit k), k < 6 := fun k hk => List.mem_range.mp (List.mem_filter.mp hk).1
  refine List.Pairwise.imp_of_mem ?_ h
  intro a b ha hb hab
  exact name_lt b (hm b hb) a hab
theorem RowOf.perm {l : List Str} {m : Nat} (h : RowOf l m) : l.Perm (rowM m) :=
  (List.perm_ext_iff_of_nodup h.1 (rowM_ok m).1).mpr fun x => (h.2 x).trans ((rowM_ok m).2 x).symm
theorem RowOf.len {l : List Str} {m : Nat} (h : RowOf l m) : l.length ≤ 6 := by
  rw [h.perm.length_eq]
  unfold rowM
  rw [List.length_map]
  exact Nat.le_trans (List.length_filter_le _ _) (by simp)
theorem RowOf.short {l : List Str} {m : Nat} (h : RowOf l m) : short l := fun x hx => by
  obtain ⟨k, hk, _, rfl⟩ := (h.2 x).mp hx
  exact name_short k hk
theorem RowOf.any {l : List Str} {m k : Nat} (h : RowOf l m) (hk : k < 6) : l.any (· == nameAt k) = m.testBit k := by
  rw [Bool.eq_iff_iff, List.any_eq_true]
  constructor
  · rintro ⟨x, hx, e⟩
    obtain ⟨j, hj, hb, rfl⟩ := (h.2 x).mp hx
    have := name_inj j hj k hk (by simpa using e)
    rw [← this]; exact hb
  · intro hb
    exact ⟨nameAt k, (h.2 _).mpr ⟨k, hk, hb, rfl⟩, by simp⟩
theorem mem_without {l o : List Str} {x : Str} : x ∈ without l o ↔ x ∈ l ∧ x ∉ o := by
  unfold without
  rw [List.mem_filter, Bool.not_eq_true', List.any_eq_false]
  refine and_congr_right fun _ => ⟨fun h hx => h x hx (by simp), fun h y hy e => h ?_⟩
  rw [← (show y = x by simpa using e)]; exact hy
theorem RowOf.both {l o : List Str} {a b : Nat} (h : RowOf l a) (h' : RowOf o b) : RowOf (both l o) (a ^^^ b) := by
  refine ⟨?_, fun x => ?_⟩
  · unfold Mine.both
    rw [List.nodup_append]
    refine ⟨h.1.filter _, h'.1.filter _, fun x hx y hy e => ?_⟩
    subst e
    exact (mem_without.mp hx).2 (mem_without.mp hy).1
  · unfold Mine.both
    rw [List.mem_append, mem_without, mem_without, h.2, h'.2]
    constructor
    · rintro (⟨⟨k, hk, hb, rfl⟩, hn⟩ | ⟨⟨k, hk, hb, rfl⟩, hn⟩)
      · refine ⟨k, hk, ?_, rfl⟩
        have : b.testBit k = false := by
          cases e : b.testBit k with
          | false => rfl
          | true => exact absurd ⟨k, hk, e, rfl⟩ hn
        rw [Nat.testBit_xor, hb, this]; rfl
      · refine ⟨k, hk, ?_, rfl⟩
        have : a.testBit k = false := by
          cases e : a.testBit k with
          | false => rfl
          | true => exact absurd ⟨k, hk, e, rfl⟩ hn
        rw [Nat.testBit_xor, hb, this]; rfl
    · rintro ⟨k, hk, hb, rfl⟩
      rw [Nat.testBit_xor] at hb
      cases e1 : a.testBit k with
      | true =>
        rw [e1] at hb
        refine .inl ⟨⟨k, hk, e1, rfl⟩, ?_⟩
        rintro ⟨j, hj, hbj, e⟩
        rw [← name_inj k hk j hj e] at hbj
        rw [hbj] at hb; cases hb
      | false =>
        rw [e1] at hb
        have e2 : b.testBit k = true := by simpa using hb
        refine .inr ⟨⟨k, hk, e2, rfl⟩, ?_⟩
        rintro ⟨j, hj, hbj, e⟩
        rw [← name_inj k hk j hj e] at hbj
        rw [hbj] at e1; cases e1
theorem RowOf.nil {l : List Str} {m : Nat} (h : RowOf l m) (h64 : m < 64) : l = [] ↔ m = 0 := by
  constructor
  · rintro rfl
    refine bits_zero m h64 fun k hk => ?_
    cases e : m.testBit k with
    | false => rfl
    | true => exact absurd ((h.2 (nameAt k)).mpr ⟨k, hk, e, rfl⟩) List.not_mem_nil
  · rintro rfl
    apply List.eq_nil_iff_forall_not_mem.mpr
    intro x hx
    obtain ⟨k, _, hb, _⟩ := (h.2 x).mp hx
    simp at hb

theorem lex_asymm {a b : List Nat} (h : a < b) : ¬ b < a := fun h' => by
  exact absurd (List.lt_trans h h') (List.lt_irrefl _)
theorem coll_lt {a b : Str} (h : b.cps.toList < a.cps.toList) : collPos a b = true := by
  unfold collPos
  rw [decide_eq_true h, decide_eq_false (lex_asymm h)]; decide
theorem coll_no {a b : Str} (h : a = b ∨ a.cps.toList < b.cps.toList) : collPos a b = false := by
  unfold collPos
  rcases h with rfl | h
  · rw [decide_eq_false (List.lt_irrefl _)]; decide
  · rw [decide_eq_true h, decide_eq_false (lex_asymm h)]; decide
theorem top_aux {t : Str} : ∀ (l : List Str) (c : Str), (∀ x ∈ l, x = t ∨ x.cps.toList < t.cps.toList) → (c = t ∨ (c.cps.toList < t.cps.toList ∧ t ∈ l)) → l.foldl (fun top n => if collPos n top = true then n else top) c = t
  | [], c, _, h => by
    rcases h with rfl | ⟨_, h⟩
    · rfl
    · cases h
  | x :: l, c, hl, h => by
    rw [List.foldl_cons]
    have hl' : ∀ y ∈ l, y = t ∨ y.cps.toList < t.cps.toList := fun y hy => hl y (List.mem_cons_of_mem _ hy)
    refine top_aux l _ hl' ?_
    have hx := hl x List.mem_cons_self
    rcases h with rfl | ⟨hc, ht⟩
    · rw [if_neg (by rw [coll_no hx]; exact Bool.false_ne_true)]; exact .inl rfl
    · rcases hx with rfl | hx
      · rw [if_pos (coll_lt hc)]; exact .inl rfl
      · right
        have : t ∈ l := by
          rcases List.mem_cons.mp ht with e | ht
          · rw [e] at hx; exact absurd hx (List.lt_irrefl _)
          · exact ht
        by_cases hcol : collPos x c = true
        · rw [if_pos hcol]; exact ⟨hx, this⟩
        · rw [if_neg hcol]; exact ⟨hc, this⟩
theorem RowOf.top {l : List Str} {m : Nat} (h : RowOf l m) (h64 : m < 64) (h0 : m ≠ 0) : topS l = nameAt (Nat.log2 m) := by
  obtain ⟨f1, f2, f3, _, _⟩ := log_facts m h64 h0
  have hmem : nameAt (Nat.log2 m) ∈ l := (h.2 _).mpr ⟨_, f2, f1, rfl⟩
  have hall : ∀ x ∈ l, x = nameAt (Nat.log2 m) ∨ x.cps.toList < (nameAt (Nat.log2 m)).cps.toList := fun x hx => by
    obtain ⟨k, hk, hb, rfl⟩ := (h.2 x).mp hx
    rcases Nat.lt_or_eq_of_le (f3 k hk hb) with h1 | h1
    · exact .inr (name_lt _ f2 k h1)
    · rw [h1]; exact .inl rfl
  cases l with
  | nil => cases hmem
  | cons r rest =>
    refine top_aux rest r (fun x hx => hall x (List.mem_cons_of_mem _ hx)) ?_
    rcases hall r List.mem_cons_self with h1 | h1
    · exact .inl h1
    · refine .inr ⟨h1, ?_⟩
      rcases List.mem_cons.mp hmem with e | h2
      · rw [e] at h1; exact absurd h1 (List.lt_irrefl _)
      · exact h2
theorem cps_inj {a b : Str} (h : a.cps.toList = b.cps.toList) : a = b := by
  obtain ⟨⟨x⟩⟩ := a; obtain ⟨⟨y⟩⟩ := b; cases h; rfl
theorem RowOf.sorted {l srt : List Str} {m : Nat} (h : RowOf l m) (hp : srt.Perm l) (hs : srt.Pairwise (fun a b => ¬ b.cps.toList < a.cps.toList)) : srt = rowM m := by
  refine List.Perm.eq_of_pairwise (le := fun a b : Str => ¬ b.cps.toList < a.cps.toList) ?_ hs ?_ (hp.trans h.perm)
  · intro a b _ _ h1 h2
    refine cps_inj (List.le_antisymm ?_ ?_)
    · exact List.not_lt.mp h1
    · exact List.not_lt.mp h2
  · exact (rowM_sorted m).imp fun h => lex_asymm h
def lineM (m : Nat) : Str := commentS (joinS (rowM m))

def Row (g : GM) (a : Addr) (m : Nat) : Prop := ∃ vs row, Lst g a vs ∧ StrsAre vs row ∧ RowOf row m ∧ m < 64
theorem Row.sub {g g' : GM} {a : Addr} {m : Nat} (x : Row g a m) (h : Sub g g') : Row g' a m := let ⟨vs, row, h1, r⟩ := x; ⟨vs, row, h1.sub h, r⟩
theorem Row.lt {g : GM} {a : Addr} {m : Nat} (x : Row g a m) : m < 64 := let ⟨_, _, _, _, _, h⟩ := x; h

section
variable {prog : Program} {w : World} {A : Around} {env : Env} {g : GM} {m cm : Loc} {mb : Loc}
theorem fn_topM (gl : Gl w mb g) {a : Addr} {x : Nat} {R : Value → GM → Prop} {k : Nat} (rm : Rm A 2 (k + 6)) (ha : Row g a x) (h0 : x ≠ 0) (h : ∀ t g', Sub g g' → R (.str (nameAt (Nat.log2 x)) t) g') :
    Do prog w A env g m cm (call (.ref 88) [.ref a]) R := by
  obtain ⟨vs, row, hl, hs, hr, h64⟩ := ha
  cases row with
  | nil => exact absurd ((hr.nil h64).mp rfl) h0
  | cons r rest =>
    have := hr.len
    rw [List.length_cons] at this
    refine fn_top gl rm hl hs (by omega) fun t g' hg => ?_
    rw [hr.top h64 h0]
    exact h t g' hg
theorem fn_bothM (gl : Gl w mb g) {a b : Addr} {x y : Nat} {R : Value → GM → Prop} {k : Nat} (rm : Rm A 1 (k + 3)) (ha : Row g a x) (hb : Row g b y) (h : ∀ D g', Sub g g' → g D = none → Row g' D (x ^^^ y) → R (.ref D) g') :
    Do prog w A env g m cm (call (.ref 81) [.ref a, .ref b]) R := by
  obtain ⟨vs, row, hl, hs, hr, h64⟩ := ha
  obtain ⟨vs', row', hl', hs', hr', h64'⟩ := hb
  have := hr.len
  have := hr'.len
  exact fn_both gl rm hl hl' hs hs' (by omega) (by omega) fun D ys g' hg hD hP hS => h D g' hg hD ⟨ys, _, hP.lst, hS, hr.both hr', xor_lt _ h64 _ h64'⟩
theorem fn_lineM (gl : Gl w mb g) {a : Addr} {x : Nat} {R : Value → GM → Prop} {k : Nat} (rm : Rm A 2 (k + 9)) (ha : Row g a x) (h : ∀ t g', Sub g g' → R (.str (lineM x) t) g') :
    Do prog w A env g m cm (call (.ref 95) [.ref a]) R := by
  obtain ⟨vs, row, hl, hs, hr, h64⟩ := ha
  have := hr.len
  refine fn_line gl rm hl hs (by omega) hr.short fun srt t g' hg hp hso => ?_
  have := hr.sorted hp hso
  rw [this]
  exact h t g' hg
end

/-- the rows that were told -/
def maskN (n : Nat) : Nat := if n < 768 then n % 64 else 0
theorem mask_lt (n : Nat) : maskN n < 64 := by unfold maskN; split <;> omega
theorem pick_eq (n k : Nat) : (flagsB[k]?).map decS = namesS[k]? := by
  rw [← List.getElem?_map, dec_names]
theorem upTo_dec (n : Nat) : ∀ j, j ≤ 6 → (upToB n j).map decS = ((List.range j).filter fun k => n.testBit k).map nameAt
  | 0, _ => rfl
  | j + 1, hj => by
    rw [upToB_succ, List.map_append, upTo_dec n j (by omega), List.range_succ, List.filter_append, List.map_append]
    congr 1
    have hb : bitI (n : Int) j = n.testBit j := by
      rw [bit_eq, Nat.testBit_eq_decide_div_mod_eq]
    have hget : flagsB[j]? = some (flagsB[j]'(show j < 6 from hj)) := List.getElem?_eq_getElem (show j < 6 from hj)
    have hn : decS (flagsB[j]'(show j < 6 from hj)) = nameAt j := by
      have := pick_eq n j
      rw [hget] at this
      unfold nameAt
      rw [← this]; rfl
    rw [hb, hget]
    cases e : n.testBit j with
    | true => simp [hn, e]
    | false => simp [e]
theorem told_row (n : Nat) : RowOf ((tellB n).map decS) (maskN n) := by
  unfold tellB maskN
  by_cases h : n < 768
  · rw [if_pos h, if_pos h]
    have hbits : ((List.range 6).filter fun k => n.testBit k) = ((List.range 6).filter fun k => (n % 64).testBit k) := by
      refine List.filter_congr fun k hk => ?_
      have hk := List.mem_range.mp hk
      rw [show 64 = 2 ^ 6 from rfl, Nat.testBit_mod_two_pow]
      simp [hk]
    have hu : (upToB n 6).map decS = rowM (n % 64) := by
      rw [upTo_dec n 6 (Nat.le_refl _), hbits]; rfl
    have hr := rowM_ok (n % 64)
    unfold wordsB
    split
    · rw [List.map_reverse, hu]
      exact ⟨List.pairwise_reverse.mpr (hr.1.imp fun h => Ne.symm h), fun x => by rw [List.mem_reverse]; exact hr.2 x⟩
    · rw [hu]; exact hr
  · rw [if_neg h, if_neg h]
    exact ⟨List.nodup_nil, fun x => ⟨fun hx => absurd hx List.not_mem_nil, fun ⟨k, _, hb, _⟩ => by simp at hb⟩⟩
end Mine
end

section
open PySem PySem.Calls PyProof.Rows PySem.W
namespace Mine

theorem fact_down : ∀ o < 64, o ≠ 0 → ∀ r < 64, r.testBit (Nat.log2 o) = true → r ^^^ o < r := by decide +kernel
theorem fact_keep0 : ∀ o < 64, ∀ r < 64, (o ≠ 0 ∧ r ≠ 0 ∧ r.testBit (Nat.log2 o) = false ∧ o.testBit (Nat.log2 r) = true) → (Nat.log2 (o ^^^ r) = Nat.log2 o ∧ o ^^^ r ≠ 0) := by decide +kernel
theorem fact_keep (o : Nat) (h : o < 64) (h0 : o ≠ 0) (r : Nat) (hr : r < 64) (hr0 : r ≠ 0) (a : r.testBit (Nat.log2 o) = false) (b : o.testBit (Nat.log2 r) = true) : Nat.log2 (o ^^^ r) = Nat.log2 o ∧ o ^^^ r ≠ 0 := fact_keep0 o h r hr ⟨h0, hr0, a, b⟩
theorem fact_top0 : ∀ o < 64, ∀ r < 64, (o ≠ 0 ∧ r ≠ 0 ∧ Nat.log2 o ≠ Nat.log2 r ∧ r.testBit (Nat.log2 o) = true) → (Nat.log2 (r ^^^ o) = Nat.log2 r ∧ r ^^^ o ≠ 0) := by decide +kernel
theorem fact_top (o : Nat) (h : o < 64) (h0 : o ≠ 0) (r : Nat) (hr : r < 64) (hr0 : r ≠ 0) (a : Nat.log2 o ≠ Nat.log2 r) (b : r.testBit (Nat.log2 o) = true) : Nat.log2 (r ^^^ o) = Nat.log2 r ∧ r ^^^ o ≠ 0 := fact_top0 o h r hr ⟨h0, hr0, a, b⟩
theorem fact_up : ∀ o < 64, ∀ u < 64, u ≠ 0 → o.testBit (Nat.log2 u) = false → o < o ^^^ u := by decide +kernel
theorem fact_log : ∀ s < 64, ∀ k < 6, (2 ^ k ≤ s ∧ s < 2 ^ (k + 1)) ↔ (s ≠ 0 ∧ Nat.log2 s = k) := by decide +kernel
theorem fact_same0 : ∀ o < 64, ∀ s < 64, (o ≠ 0 ∧ s ≠ 0 ∧ Nat.log2 s = Nat.log2 o ∧ s ^^^ o ≠ 0) → Nat.log2 (s ^^^ o) ≠ Nat.log2 o := by decide +kernel
theorem fact_same (o : Nat) (h : o < 64) (h0 : o ≠ 0) (s : Nat) (hs : s < 64) (hs0 : s ≠ 0) (a : Nat.log2 s = Nat.log2 o) (b : s ^^^ o ≠ 0) : Nat.log2 (s ^^^ o) ≠ Nat.log2 o := fact_same0 o h s hs ⟨h0, hs0, a, b⟩
theorem top_bit {o : Nat} (h : o < 64) (h0 : o ≠ 0) : o.testBit (Nat.log2 o) = true := (log_facts o h h0).1

def foldR (ks : List Nat) (r : Nat) : Nat := ks.foldl (fun r o => if r.testBit (Nat.log2 o) = true then r ^^^ o else r) r
def comb : List Nat → Nat → Nat
  | [], _ => 0
  | o :: ks, x => (if x.testBit (Nat.log2 o) = true then o else 0) ^^^ comb ks x
def Fit (ks : List Nat) : Prop := ∀ o ∈ ks, o ≠ 0 ∧ o < 64
def Red (ks : List Nat) : Prop := ks.Pairwise fun a b => a.testBit (Nat.log2 b) = false ∧ b.testBit (Nat.log2 a) = false
def Good (ks : List Nat) : Prop := Fit ks ∧ Red ks
theorem Fit.tail {o : Nat} {ks : List Nat} (h : Fit (o :: ks)) : Fit ks := fun x hx => h x (List.mem_cons_of_mem _ hx)
theorem Fit.head {o : Nat} {ks : List Nat} (h : Fit (o :: ks)) : o ≠ 0 ∧ o < 64 := h o List.mem_cons_self

theorem foldR_lt : ∀ (ks : List Nat) (r : Nat), Fit ks → r < 64 → foldR ks r < 64
  | [], r, _, h => h
  | o :: ks, r, hf, h => by
    unfold foldR
    rw [List.foldl_cons]
    refine foldR_lt ks _ hf.tail ?_
    split
    · exact xor_lt _ h _ hf.head.2
    · exact h
theorem foldR_le : ∀ (ks : List Nat) (r : Nat), Fit ks → r < 64 → foldR ks r ≤ r
  | [], r, _, h => Nat.le_refl _
  | o :: ks, r, hf, h => by
    unfold foldR
    rw [List.foldl_cons]
    by_cases hb : r.testBit (Nat.log2 o) = true
    · rw [if_pos hb]
      exact Nat.le_trans (foldR_le ks _ hf.tail (xor_lt _ h _ hf.head.2)) (Nat.le_of_lt (fact_down o hf.head.2 hf.head.1 r h hb))
    · rw [if_neg hb]
      exact foldR_le ks _ hf.tail h
theorem foldR_comb' : ∀ (ks : List Nat) (r x : Nat), Red ks → (∀ o ∈ ks, r.testBit (Nat.log2 o) = x.testBit (Nat.log2 o)) → foldR ks r = r ^^^ comb ks x
  | [], r, x, _, _ => by simp [foldR, comb]
  | o :: ks, r, x, hr, hb => by
    obtain ⟨h1, h2⟩ := List.pairwise_cons.mp hr
    unfold foldR
    rw [List.foldl_cons]
    show foldR ks _ = _
    rw [hb o List.mem_cons_self, comb]
    by_cases hx : x.testBit (Nat.log2 o) = true
    · rw [if_pos hx, if_pos hx, foldR_comb' ks _ x h2 fun o' ho' => by
        rw [Nat.testBit_xor, (h1 o' ho').1, Bool.xor_false]; exact hb o' (List.mem_cons_of_mem _ ho')]
      rw [Nat.xor_assoc]
    · rw [if_neg hx, if_neg hx, foldR_comb' ks _ x h2 fun o' ho' => hb o' (List.mem_cons_of_mem _ ho'), Nat.zero_xor]
theorem foldR_comb {ks : List Nat} (h : Red ks) (r : Nat) : foldR ks r = r ^^^ comb ks r := foldR_comb' ks r r h fun _ _ => rfl
theorem xor_swap (a b c d : Nat) : a ^^^ b ^^^ (c ^^^ d) = a ^^^ c ^^^ (b ^^^ d) := by
  rw [Nat.xor_assoc, Nat.xor_assoc, ← Nat.xor_assoc b c d, Nat.xor_comm b c, Nat.xor_assoc c b d]
theorem comb_xor : ∀ (ks : List Nat) (a b : Nat), comb ks (a ^^^ b) = comb ks a ^^^ comb ks b
  | [], a, b => by simp [comb]
  | o :: ks, a, b => by
    rw [comb, comb, comb, comb_xor ks a b, Nat.testBit_xor]
    cases ha : a.testBit (Nat.log2 o) <;> cases hb : b.testBit (Nat.log2 o) <;> simp
    · rw [← Nat.xor_assoc, ← Nat.xor_assoc, Nat.xor_comm o (comb ks a)]
    · rw [Nat.xor_assoc]
    · rw [xor_swap o (comb ks a) o (comb ks b), Nat.xor_self, Nat.zero_xor]
theorem comb_off : ∀ (ks : List Nat) (x p : Nat), (∀ o ∈ ks, o.testBit p = false) → (comb ks x).testBit p = false
  | [], x, p, _ => by simp [comb]
  | o :: ks, x, p, h => by
    rw [comb, Nat.testBit_xor, comb_off ks x p fun o' ho' => h o' (List.mem_cons_of_mem _ ho')]
    split
    · rw [h o List.mem_cons_self]; rfl
    · simp
theorem comb_bit : ∀ (ks : List Nat) (x : Nat), Fit ks → Red ks → ∀ o ∈ ks, (comb ks x).testBit (Nat.log2 o) = x.testBit (Nat.log2 o)
  | [], x, _, _, o, ho => by cases ho
  | h :: ks, x, hf, hr, o, ho => by
    obtain ⟨h1, h2⟩ := List.pairwise_cons.mp hr
    rw [comb, Nat.testBit_xor]
    rcases List.mem_cons.mp ho with rfl | ho
    · rw [comb_off ks x _ fun o' ho' => (h1 o' ho').2, Bool.xor_false]
      cases hx : x.testBit (Nat.log2 o) with
      | true => rw [if_pos rfl]; exact top_bit hf.head.2 hf.head.1
      | false => simp
    · rw [comb_bit ks x hf.tail h2 o ho]
      split
      · rw [(h1 o ho).1, Bool.false_xor]
      · simp
theorem comb_congr : ∀ (ks : List Nat) (x y : Nat), (∀ o ∈ ks, x.testBit (Nat.log2 o) = y.testBit (Nat.log2 o)) → comb ks x = comb ks y
  | [], x, y, _ => rfl
  | o :: ks, x, y, h => by rw [comb, comb, h o List.mem_cons_self, comb_congr ks x y fun o' ho' => h o' (List.mem_cons_of_mem _ ho')]
theorem comb_none : ∀ (ks : List Nat) (x : Nat), (∀ o ∈ ks, x.testBit (Nat.log2 o) = false) → comb ks x = 0
  | [], x, _ => rfl
  | o :: ks, x, h => by rw [comb, h o List.mem_cons_self, comb_none ks x fun o' ho' => h o' (List.mem_cons_of_mem _ ho')]; simp
theorem comb_lt : ∀ (ks : List Nat) (x : Nat), Fit ks → comb ks x < 64
  | [], x, _ => by simp [comb]
  | o :: ks, x, hf => by
    rw [comb]
    refine xor_lt _ ?_ _ (comb_lt ks x hf.tail)
    split
    · exact hf.head.2
    · omega
theorem comb_mem : ∀ (ks : List Nat), Fit ks → Red ks → ∀ o ∈ ks, comb ks o = o
  | [], _, _, o, ho => by cases ho
  | h :: ks, hf, hr, o, ho => by
    obtain ⟨h1, h2⟩ := List.pairwise_cons.mp hr
    rw [comb]
    rcases List.mem_cons.mp ho with rfl | ho
    · rw [top_bit hf.head.2 hf.head.1, if_pos rfl, comb_none ks o fun o' ho' => (h1 o' ho').1, Nat.xor_zero]
    · rw [(h1 o ho).2, comb_mem ks hf.tail h2 o ho]; simp
theorem comb_append : ∀ (l r : List Nat) (x : Nat), comb (l ++ r) x = comb l x ^^^ comb r x
  | [], r, x => by simp [comb]
  | o :: l, r, x => by rw [List.cons_append, comb, comb, comb_append l r x, Nat.xor_assoc]
theorem foldR_xor {ks : List Nat} (h : Red ks) (a b : Nat) : foldR ks (a ^^^ b) = foldR ks a ^^^ foldR ks b := by
  rw [foldR_comb h, foldR_comb h, foldR_comb h, comb_xor, xor_swap]
theorem foldR_mem {ks : List Nat} (h : Good ks) {o : Nat} (ho : o ∈ ks) : foldR ks o = 0 := by
  rw [foldR_comb h.2, comb_mem ks h.1 h.2 o ho, Nat.xor_self]
theorem foldR_off {ks : List Nat} (h : Good ks) (n : Nat) {o : Nat} (ho : o ∈ ks) : (foldR ks n).testBit (Nat.log2 o) = false := by
  rw [foldR_comb h.2, Nat.testBit_xor, comb_bit ks n h.1 h.2 o ho, Bool.xor_self]

def nx (r o : Nat) : Nat := if o.testBit (Nat.log2 r) = true then o ^^^ r else o
def nextK (ks : List Nat) (r : Nat) : List Nat := if r = 0 then ks else ks.map (nx r) ++ [r]

theorem nx_facts {r o : Nat} (ho : o ≠ 0 ∧ o < 64) (hr : r ≠ 0 ∧ r < 64) (hb : r.testBit (Nat.log2 o) = false) : nx r o ≠ 0 ∧ nx r o < 64 ∧ Nat.log2 (nx r o) = Nat.log2 o ∧ (nx r o).testBit (Nat.log2 r) = false := by
  unfold nx
  by_cases hc : o.testBit (Nat.log2 r) = true
  · rw [if_pos hc]
    obtain ⟨h1, h2⟩ := fact_keep o ho.2 ho.1 r hr.2 hr.1 hb hc
    refine ⟨h2, xor_lt _ ho.2 _ hr.2, h1, ?_⟩
    rw [Nat.testBit_xor, hc, top_bit hr.2 hr.1]; rfl
  · rw [if_neg hc]
    exact ⟨ho.1, ho.2, rfl, by simpa using hc⟩
theorem good_next {ks : List Nat} (h : Good ks) {n : Nat} (hn : n < 64) : Good (nextK ks (foldR ks n)) := by
  unfold nextK
  by_cases h0 : foldR ks n = 0
  · rw [if_pos h0]; exact h
  · rw [if_neg h0]
    have hr : foldR ks n ≠ 0 ∧ foldR ks n < 64 := ⟨h0, foldR_lt ks n h.1 hn⟩
    have hoff := fun o (ho : o ∈ ks) => foldR_off h n ho
    generalize foldR ks n = r at hr hoff
    refine ⟨fun o ho => ?_, ?_⟩
    · rcases List.mem_append.mp ho with ho | ho
      · obtain ⟨o', ho', rfl⟩ := List.mem_map.mp ho
        obtain ⟨a, b, _, _⟩ := nx_facts (h.1 o' ho') hr (hoff o' ho')
        exact ⟨a, b⟩
      · rw [List.mem_singleton.mp ho]; exact hr
    · unfold Red
      rw [List.pairwise_append]
      refine ⟨?_, List.pairwise_singleton _ _, fun a ha b hb => ?_⟩
      · rw [List.pairwise_map]
        refine h.2.imp_of_mem ?_
        intro a b ha hb hab
        obtain ⟨_, _, a3, _⟩ := nx_facts (h.1 a ha) hr (hoff a ha)
        obtain ⟨_, _, b3, _⟩ := nx_facts (h.1 b hb) hr (hoff b hb)
        rw [a3, b3]
        constructor
        · unfold nx; split
          · rw [Nat.testBit_xor, hab.1, hoff b hb]; rfl
          · exact hab.1
        · unfold nx; split
          · rw [Nat.testBit_xor, hab.2, hoff a ha]; rfl
          · exact hab.2
      · rw [List.mem_singleton.mp hb]
        obtain ⟨o', ho', rfl⟩ := List.mem_map.mp ha
        obtain ⟨_, _, a3, a4⟩ := nx_facts (h.1 o' ho') hr (hoff o' ho')
        exact ⟨a4, by rw [a3]; exact hoff o' ho'⟩

theorem comb_map {r : Nat} (hr : r ≠ 0 ∧ r < 64) : ∀ (ks : List Nat) (x : Nat), Fit ks → (∀ o ∈ ks, r.testBit (Nat.log2 o) = false) → comb (ks.map (nx r)) x = comb ks x ^^^ (if (comb ks x).testBit (Nat.log2 r) = true then r else 0)
  | [], x, _, _ => by simp [comb]
  | o :: ks, x, hf, hb => by
    obtain ⟨_, _, h3, _⟩ := nx_facts hf.head hr (hb o List.mem_cons_self)
    rw [List.map_cons, comb, comb, h3, comb_map hr ks x hf.tail fun o' ho' => hb o' (List.mem_cons_of_mem _ ho'), Nat.testBit_xor]
    unfold nx
    cases hx : x.testBit (Nat.log2 o) <;> cases ho : o.testBit (Nat.log2 r) <;> cases hc : (comb ks x).testBit (Nat.log2 r) <;> simp [ho]
    · rw [Nat.xor_assoc]
    · rw [Nat.xor_assoc, Nat.xor_assoc, Nat.xor_comm r (comb ks x)]
    · rw [xor_swap o r (comb ks x) r, Nat.xor_self, Nat.xor_zero]
theorem foldR_next {ks : List Nat} (h : Good ks) {r : Nat} (hr : r ≠ 0 ∧ r < 64) (hoff : ∀ o ∈ ks, r.testBit (Nat.log2 o) = false) (hg : Red (ks.map (nx r) ++ [r])) (v : Nat) :
    foldR (ks.map (nx r) ++ [r]) v = foldR ks v ^^^ (if (foldR ks v).testBit (Nat.log2 r) = true then r else 0) := by
  rw [foldR_comb hg, comb_append, comb_map hr ks v h.1 hoff, foldR_comb h.2 v, Nat.testBit_xor]
  have hs : comb [r] v = if v.testBit (Nat.log2 r) = true then r else 0 := by simp [comb]
  rw [hs]
  cases hv : v.testBit (Nat.log2 r) <;> cases hc : (comb ks v).testBit (Nat.log2 r) <;> simp
  · rw [Nat.xor_assoc]
  · rw [Nat.xor_assoc]
  · rw [Nat.xor_assoc, Nat.xor_self, Nat.xor_zero]

def SumsOk (ks sums : List Nat) : Prop := ∀ v, v ∈ sums ↔ v < 64 ∧ foldR ks v = 0
theorem sums_zero : SumsOk [] [0] := fun v => by
  constructor
  · intro h; rw [List.mem_singleton.mp h]; exact ⟨by omega, rfl⟩
  · rintro ⟨_, h⟩; exact List.mem_singleton.mpr h
theorem xor_zero_iff {a b : Nat} : a ^^^ b = 0 ↔ a = b := by
  constructor
  · intro h
    refine Nat.eq_of_testBit_eq fun i => ?_
    have := congrArg (fun x => Nat.testBit x i) h
    simpa [Nat.testBit_xor] using this
  · rintro rfl; exact Nat.xor_self _
theorem sums_next {ks sums : List Nat} (h : Good ks) (hs : SumsOk ks sums) {n : Nat} (hn : n < 64) (h0 : foldR ks n ≠ 0) : SumsOk (nextK ks (foldR ks n)) (sums ++ sums.map fun s => n ^^^ s) := by
  have hg := good_next h hn
  have hr : foldR ks n ≠ 0 ∧ foldR ks n < 64 := ⟨h0, foldR_lt ks n h.1 hn⟩
  have hoff := fun o (ho : o ∈ ks) => foldR_off h n ho
  have hlin : ∀ v, foldR ks (n ^^^ v) = foldR ks n ^^^ foldR ks v := foldR_xor h.2 n
  unfold nextK at hg ⊢
  rw [if_neg h0] at hg ⊢
  generalize foldR ks n = r at hr hoff hlin hg
  intro v
  rw [List.mem_append, foldR_next h hr hoff hg.2, hs v]
  have h2 : v ∈ (sums.map fun s => n ^^^ s) ↔ v < 64 ∧ foldR ks v = r := by
    rw [List.mem_map]
    constructor
    · rintro ⟨s, hs', rfl⟩
      obtain ⟨a, b⟩ := (hs s).mp hs'
      exact ⟨xor_lt _ hn _ a, by rw [hlin, b, Nat.xor_zero]⟩
    · rintro ⟨a, b⟩
      refine ⟨n ^^^ v, (hs _).mpr ⟨xor_lt _ hn _ a, by rw [hlin, b, Nat.xor_self]⟩, ?_⟩
      rw [← Nat.xor_assoc, Nat.xor_self, Nat.zero_xor]
  rw [h2]
  by_cases hb : (foldR ks v).testBit (Nat.log2 r) = true
  · rw [if_pos hb, xor_zero_iff]
    constructor
    · rintro (⟨a, b⟩ | ⟨a, b⟩)
      · rw [b] at hb; simp at hb
      · exact ⟨a, b⟩
    · exact .inr
  · rw [if_neg hb, Nat.xor_zero]
    constructor
    · rintro (⟨a, b⟩ | ⟨a, b⟩)
      · exact ⟨a, b⟩
      · exfalso
        rw [b] at hb
        exact hb (top_bit hr.2 hr.1)
    · exact .inl

/-- the least of the shifted sums is what is left of the number -/
theorem least_rest {ks sums : List Nat} (h : Good ks) (hs : SumsOk ks sums) {n : Nat} (hn : n < 64) : (∃ s ∈ sums, n ^^^ s = foldR ks n) ∧ ∀ s ∈ sums, foldR ks n ≤ n ^^^ s := by
  constructor
  · refine ⟨comb ks n, (hs _).mpr ⟨comb_lt ks n h.1, ?_⟩, (foldR_comb h.2 n).symm⟩
    rw [foldR_comb h.2, comb_congr ks (comb ks n) n fun o ho => comb_bit ks n h.1 h.2 o ho, Nat.xor_self]
  · intro s hs'
    obtain ⟨a, b⟩ := (hs s).mp hs'
    have := foldR_le ks (n ^^^ s) h.1 (xor_lt _ hn _ a)
    rwa [foldR_xor h.2, b, Nat.xor_zero] at this

theorem keeps_top : ∀ (ks : List Nat) (r : Nat), Fit ks → r < 64 → r ≠ 0 → (∀ o ∈ ks, Nat.log2 o ≠ Nat.log2 r) → foldR ks r ≠ 0
  | [], r, _, _, h, _ => h
  | o :: ks, r, hf, h64, h0, hne => by
    unfold foldR
    rw [List.foldl_cons]
    show foldR ks _ ≠ 0
    by_cases hb : r.testBit (Nat.log2 o) = true
    · rw [if_pos hb]
      obtain ⟨a, b⟩ := fact_top o hf.head.2 hf.head.1 r h64 h0 (hne o List.mem_cons_self) hb
      exact keeps_top ks _ hf.tail (xor_lt _ h64 _ hf.head.2) b fun o' ho' => by rw [a]; exact hne o' (List.mem_cons_of_mem _ ho')
    · rw [if_neg hb]
      exact keeps_top ks r hf.tail h64 h0 fun o' ho' => hne o' (List.mem_cons_of_mem _ ho')
theorem top_kept {ks sums : List Nat} (h : Good ks) (hs : SumsOk ks sums) {s : Nat} (hm : s ∈ sums) (h0 : s ≠ 0) : ∃ o ∈ ks, Nat.log2 o = Nat.log2 s := by
  obtain ⟨a, b⟩ := (hs s).mp hm
  by_cases hc : ∃ o ∈ ks, Nat.log2 o = Nat.log2 s
  · exact hc
  · exact absurd b (keeps_top ks s h.1 a h0 fun o ho e => hc ⟨o, ho, e⟩)

def likeK (sums : List Nat) (k : Nat) : List Nat := sums.filter fun s => decide (2 ^ k ≤ s) && decide (s < 2 ^ (k + 1))
theorem like_some {ks sums : List Nat} (h : Good ks) (hs : SumsOk ks sums) {o : Nat} (ho : o ∈ ks) {k : Nat} (hk : k < 6) (e : Nat.log2 o = k) : o ∈ likeK sums k ∧ ∀ s ∈ likeK sums k, o ≤ s := by
  have ho64 := h.1 o ho
  constructor
  · refine List.mem_filter.mpr ⟨(hs o).mpr ⟨ho64.2, foldR_mem h ho⟩, ?_⟩
    have := (fact_log o ho64.2 k hk).mpr ⟨ho64.1, e⟩
    simp [this.1, this.2]
  · intro s hm
    obtain ⟨h1, h2⟩ := List.mem_filter.mp hm
    obtain ⟨a, b⟩ := (hs s).mp h1
    have hl := (fact_log s a k hk).mp (by simpa using h2)
    by_cases hu : s ^^^ o = 0
    · rw [xor_zero_iff.mp hu]; exact Nat.le_refl _
    · have hu64 := xor_lt _ a _ ho64.2
      have hus : s ^^^ o ∈ sums := (hs _).mpr ⟨hu64, by rw [foldR_xor h.2, b, foldR_mem h ho, Nat.xor_self]⟩
      obtain ⟨o2, ho2, he2⟩ := top_kept h hs hus hu
      have hne : Nat.log2 (s ^^^ o) ≠ Nat.log2 o := fact_same o ho64.2 ho64.1 s a hl.1 (by rw [hl.2, e]) hu
      have hbit : o.testBit (Nat.log2 (s ^^^ o)) = false := by
        rw [← he2]
        have hne2 : o2 ≠ o := by rintro rfl; exact hne he2.symm
        obtain ⟨i, hi, rfl⟩ := List.mem_iff_getElem.mp ho
        obtain ⟨j, hj, rfl⟩ := List.mem_iff_getElem.mp ho2
        have hp := List.pairwise_iff_getElem.mp h.2
        rcases Nat.lt_trichotomy i j with hij | hij | hij
        · exact (hp i j hi hj hij).1
        · subst hij; exact absurd rfl hne2
        · exact (hp j i hj hi hij).2
      have := fact_up o ho64.2 _ hu64 hu hbit
      have e3 : o ^^^ (s ^^^ o) = s := by rw [Nat.xor_comm s o, ← Nat.xor_assoc, Nat.xor_self, Nat.zero_xor]
      rw [e3] at this
      omega
theorem like_none {ks sums : List Nat} (h : Good ks) (hs : SumsOk ks sums) {k : Nat} (hk : k < 6) (hn : ∀ o ∈ ks, Nat.log2 o ≠ k) : likeK sums k = [] := by
  apply List.eq_nil_iff_forall_not_mem.mpr
  intro s hm
  obtain ⟨h1, h2⟩ := List.mem_filter.mp hm
  obtain ⟨a, b⟩ := (hs s).mp h1
  have hl := (fact_log s a k hk).mp (by simpa using h2)
  obtain ⟨o, ho, e⟩ := top_kept h hs h1 hl.1
  exact hn o ho (e.trans hl.2)

def atTop (ks : List Nat) (k : Nat) : List Nat := ks.filter fun o => Nat.log2 o == k
theorem log_inj {ks : List Nat} (h : Good ks) {a b : Nat} (ha : a ∈ ks) (hb : b ∈ ks) (e : Nat.log2 a = Nat.log2 b) : a = b := by
  obtain ⟨i, hi, rfl⟩ := List.mem_iff_getElem.mp ha
  obtain ⟨j, hj, rfl⟩ := List.mem_iff_getElem.mp hb
  have hp := List.pairwise_iff_getElem.mp h.2
  have fa := h.1 _ ha
  have fb := h.1 _ hb
  rcases Nat.lt_trichotomy i j with hij | hij | hij
  · have := (hp i j hi hj hij).1
    rw [← e, top_bit fa.2 fa.1] at this; cases this
  · subst hij; rfl
  · have := (hp j i hj hi hij).2
    rw [← e, top_bit fa.2 fa.1] at this; cases this
theorem good_nodup {ks : List Nat} (h : Good ks) : ks.Nodup := by
  have h2 : ks.Pairwise fun a b => a.testBit (Nat.log2 b) = false := h.2.imp fun h => h.1
  refine h2.imp_of_mem ?_
  intro a b ha hb hab e
  subst e
  have := h.1 a ha
  rw [top_bit this.2 this.1] at hab; cases hab
theorem atTop_one {ks : List Nat} (h : Good ks) {o : Nat} (ho : o ∈ ks) : atTop ks (Nat.log2 o) = [o] := by
  have hm : ∀ x, x ∈ atTop ks (Nat.log2 o) ↔ x ∈ [o] := fun x => by
    unfold atTop
    rw [List.mem_filter, List.mem_singleton]
    constructor
    · rintro ⟨hx, e⟩; exact log_inj h hx ho (by simpa using e)
    · rintro rfl; exact ⟨ho, by simp⟩
  have hn : (atTop ks (Nat.log2 o)).Nodup := (good_nodup h).filter _
  exact List.perm_singleton.mp ((List.perm_ext_iff_of_nodup hn (by simp)).mpr hm)
theorem atTop_none {ks : List Nat} {k : Nat} (hn : ∀ o ∈ ks, Nat.log2 o ≠ k) : atTop ks k = [] := by
  unfold atTop
  rw [List.filter_eq_nil_iff]
  intro o ho
  simpa using hn o ho
/-- the kept rows in the order of their tops -/
def byTop (ks : List Nat) : List Nat := (List.range 6).flatMap (atTop ks)
theorem mem_byTop {ks : List Nat} (h : Good ks) {x : Nat} : x ∈ byTop ks ↔ x ∈ ks := by
  unfold byTop
  rw [List.mem_flatMap]
  constructor
  · rintro ⟨k, _, hx⟩; exact (List.mem_filter.mp hx).1
  · intro hx
    have := h.1 x hx
    exact ⟨Nat.log2 x, List.mem_range.mpr (log_facts x this.2 this.1).2.1, List.mem_filter.mpr ⟨hx, by simp⟩⟩
theorem byTop_sorted {ks : List Nat} (h : Good ks) : (byTop ks).Pairwise fun a b => Nat.log2 a < Nat.log2 b := by
  unfold byTop
  rw [List.pairwise_flatMap]
  constructor
  · intro k _
    have hn : (atTop ks k).Nodup := (good_nodup h).filter _
    refine hn.imp_of_mem ?_
    intro a b ha hb hab
    obtain ⟨a1, a2⟩ := List.mem_filter.mp ha
    obtain ⟨b1, b2⟩ := List.mem_filter.mp hb
    exact absurd (log_inj h a1 b1 (by rw [eq_of_beq a2, eq_of_beq b2])) hab
  · refine List.pairwise_lt_range.imp ?_
    intro j k hjk a ha b hb
    rw [eq_of_beq (List.mem_filter.mp ha).2, eq_of_beq (List.mem_filter.mp hb).2]
    exact hjk
theorem byTop_perm {ks : List Nat} (h : Good ks) : (byTop ks).Perm ks := by
  refine (List.perm_ext_iff_of_nodup ?_ (good_nodup h)).mpr fun x => mem_byTop h
  refine (byTop_sorted h).imp ?_
  rintro a b hab rfl
  exact Nat.lt_irrefl _ hab
/-- what is sorted by its tops is that -/
theorem sorted_byTop {ks l : List Nat} (h : Good ks) (hp : l.Perm ks) (hs : l.Pairwise fun a b => ¬ (nameAt (Nat.log2 b)).cps.toList < (nameAt (Nat.log2 a)).cps.toList) : l = byTop ks := by
  refine List.Perm.eq_of_pairwise (le := fun a b : Nat => Nat.log2 a ≤ Nat.log2 b) ?_ ?_ ((byTop_sorted h).imp fun h => Nat.le_of_lt h) (hp.trans (byTop_perm h).symm)
  · intro a b ha hb h1 h2
    exact log_inj h (hp.subset ha) ((mem_byTop h).mp hb) (Nat.le_antisymm h1 h2)
  · refine hs.imp_of_mem ?_
    intro a b ha hb hab
    have fa := h.1 a (hp.subset ha)
    have fb := h.1 b (hp.subset hb)
    rcases Nat.lt_or_ge (Nat.log2 b) (Nat.log2 a) with hlt | hge
    · exact absurd (name_lt _ (log_facts a fa.2 fa.1).2.1 _ hlt) hab
    · exact hge
end Mine
end

section
open PySem PySem.Calls PyProof.Rows PySem.W
namespace Mine

/-- an expression walked where more than the heap's growth happens -/
def Ex (prog : Program) (w : World) (A : Around) (s₀ : Shared) (env : Env) (g : GM) (m cm : Loc) (own : List (Addr × Obj)) (t : Sem Value) (R : Value → GM → Prop) : Prop :=
  ∀ s, Bd s₀ env g m cm own s → wpAny (model prog w) A t (fun v s' => ∃ g', Bd s₀ env g' m cm own s' ∧ R v g') (fun _ _ => False) s

section
variable {prog : Program} {w : World} {A : Around} {s₀ : Shared} {env : Env} {g : GM} {m cm : Loc} {own : List (Addr × Obj)} {mb : Loc}
theorem Ex.of {t : Sem Value} {R : Value → GM → Prop} (nm : Named env) (h : Do prog w A env g m cm t R) : Ex prog w A s₀ env g m cm own t R := fun s b =>
  wpAny_mono (h s b.rd) (fun v s' ⟨g', e, r⟩ => ⟨g', b.ext nm e, r⟩) fun _ _ x => x
theorem sx_returnX {e : Expr} {pos : Pos} {R : Flow → GM → Loc → Loc → Prop} (h : Ex prog w A s₀ env g m cm own (eval e env) (fun v g' => R (.ret v) g' m cm)) : Sx prog w A s₀ env g m cm own (exec (.Return (some e) pos) env) R :=
  fun s b => wpAny_Return_some (wpAny_mono (h s b) (fun v s' ⟨g', b', r⟩ => ⟨g', m, cm, b', r⟩) fun _ _ x => x)

theorem sx_forX {x : Str} {px pos : Pos} {iter : Expr} {body : List Stmt} {R : Flow → GM → Loc → Loc → Prop} (nm : Named env) (hk : env.scope.kind = .function)
    (h : Ex prog w A s₀ env g m cm own (eval iter env) (fun xv g₁ => ∃ gs n P, Sub gs g₁ ∧ Src prog w A gs xv n P ∧ ∃ J : Nat → GM → Loc → Loc → Prop, J 0 g₁ m cm ∧
      (∀ i v g m cm own', i < n → P i v → Sub gs g → J i g m cm → ∃ m₁ cm₁, Put env x v m cm m₁ cm₁ ∧ Sx prog w A s₀ env g m₁ cm₁ own' (execs body env) (fun f g' m' cm' => Sub gs g' ∧ match f with
        | .next | .cont => J (i + 1) g' m' cm' | .brk => R .next g' m' cm' | .ret v => R (.ret v) g' m' cm')) ∧
      (∀ g m cm, Sub gs g → J n g m cm → R .next g m cm)))
    (hs : ∀ x, foldedSetIterable iter env x = pure x := by intro _; rfl) : Sx prog w A s₀ env g m cm own (exec (.For (.Name x px) iter body [] pos) env) R := fun s b => by
  refine wpAny_For (wpAny_mono (h s b) (fun xv s₁ ⟨g₁, b₁, gs, n, P, hgs, src, J, hJ0, turn, last⟩ => ?_) fun _ _ x => x) hs
  refine src s₁ _ _ (hgs.trans b₁.rd.keep) fun I fp St h' tk W st0 hfp hIn hkp live => ?_
  obtain ⟨oI, hoI⟩ := live 0 h' st0
  have e₂ : Ext s₁ g₁ { s₁ with heap := h', toks := tk } g₁ := Ext.heap b₁.rd.keep hkp
  have b₂ := b₁.ext nm e₂
  have gI : g₁ I = none := by
    cases q : g₁ I with
    | none => rfl
    | some o => have := b₁.rd.keep I o q; rw [hIn] at this; cases this
  have hInew : I ∉ env.locals :: (env.cells.map (·.2) ++ own.map (·.1)) := fun hm => by
    obtain ⟨o, ho⟩ := b₁.live nm I hm; rw [hIn] at ho; cases ho
  have nd : ∀ oI, (env.locals :: (env.cells.map (·.2) ++ ((I, oI) :: own).map (·.1))).Nodup := fun oI => by
    have hp : (env.locals :: (env.cells.map (·.2) ++ ((I, oI) :: own).map (·.1))).Perm (I :: env.locals :: (env.cells.map (·.2) ++ own.map (·.1))) := by
      refine List.Perm.trans (.cons _ ?_) (.swap _ _ _)
      rw [List.map_cons]
      exact List.perm_middle
    exact hp.nodup_iff.mpr (List.nodup_cons.mpr ⟨hInew, b₁.nodup⟩)
  -- the state between the turns
  let Inv : Nat → Shared → Prop := fun k s' => ∃ i oI g m cm, k = n + 1 - i ∧ i ≤ n ∧ Bd s₀ env g m cm ((I, oI) :: own) s' ∧ St i s'.heap ∧ Sub gs g ∧ J i g m cm
  refine codeAny_forLoop_any Inv (fun k s' => ?_) (n + 1) ?_
  · rintro ⟨i, oI, g, m, cm, rfl, hi, bd, st, hsub, hJ⟩
    by_cases hlt : i < n
    · refine W.item i s' _ _ hlt st fun v h₃ tk₃ hP st₃ hk₃ => ?_
      show wpAny _ _ (letOwnedTupleGo (.Name x px) (.ref I) v) _ _ _
      refine wpAny_of_eq (a := ()) rfl ?_
      obtain ⟨oI', hoI'⟩ := live (i + 1) h₃ st₃
      obtain ⟨m₁, cm₁, hput, hbody⟩ := turn i v g m cm ((I, oI') :: own) hlt hP hsub hJ
      have hI' : I ∈ env.locals :: (env.cells.map (·.2) ++ ((I, oI) :: own).map (·.1)) := List.mem_cons_of_mem _ (List.mem_append_right _ (by simp))
      have bd₃ : Bd s₀ env g m cm ((I, oI') :: own) { s' with heap := h₃, toks := tk₃ } := by
        have nL : env.locals ≠ I := fun e => hInew (e ▸ List.mem_cons_self)
        refine ⟨?_, ⟨bd.rd.ns.at' fun o e => hk₃ _ o (by simpa using nL) e, fun nn c hc => ?_, fun a o e => hk₃ a o (by simpa using (show a ≠ I by rintro rfl; rw [bd.off a hI'] at e; cases e)) (bd.rd.keep a o e)⟩, fun q hq => ?_, bd.base, bd.off, nd _⟩
        · obtain ⟨h₁, tk, rfl⟩ := bd.same
          exact ⟨h₃, _, rfl⟩
        · obtain ⟨o, ho, hd⟩ := bd.rd.cell nn c hc
          exact ⟨o, hk₃ c o (by simpa using (fun e => hInew (e ▸ List.mem_cons_of_mem _ (List.mem_append_left _ (lookup_mem hc))) : c ≠ I)) ho, hd⟩
        · rcases List.mem_cons.mp hq with rfl | hq
          · exact hoI'
          · exact hk₃ _ _ (by simpa using (fun e => hInew (e ▸ List.mem_cons_of_mem _ (List.mem_append_right _ (List.mem_map.mpr ⟨q, hq, rfl⟩))) : q.1 ≠ I)) (bd.owns q (.tail _ hq))
      refine wpAny_assign_Name (bd₃.store hk hput fun s₄ bd₄ hk₄ => ?_)
      refine wpAny_mono (hbody s₄ bd₄) (fun f s₅ ⟨g', m', cm', bd₅, hsub', hf⟩ => ?_) fun _ _ x => x.elim
      have st₄ : St (i + 1) s₄.heap := W.frame _ _ _ st₃ fun a ha o e => by
        refine hk₄ a o (fun hm => ?_) e
        rcases hfp a ha with rfl | ⟨o', ho'⟩
        · exact hInew (by
            rcases List.mem_cons.mp hm with e | hm
            · exact e ▸ List.mem_cons_self
            · exact List.mem_cons_of_mem _ (List.mem_append_left _ hm))
        · have := bd.off a (by
            rcases List.mem_cons.mp hm with e | hm
            · exact e ▸ List.mem_cons_self
            · exact List.mem_cons_of_mem _ (List.mem_append_left _ hm))
          rw [hsub a o' ho'] at this; cases this
      have st₅ : St (i + 1) s₅.heap := W.frame _ _ _ st₄ fun a ha o e => by
        rcases hfp a ha with rfl | ⟨o', ho'⟩
        · have h1 := bd₄.owns (a, oI') (by simp)
          have h2 := bd₅.owns (a, oI') (by simp)
          dsimp only at h1 h2
          rw [h1] at e; cases e; exact h2
        · have h1 := bd₄.rd.keep a o' (hsub a o' ho')
          have h2 := bd₅.rd.keep a o' (hsub' a o' ho')
          rw [h1] at e; cases e; exact h2
      cases f with
      | next => exact ⟨n + 1 - (i + 1), by omega, i + 1, _, _, _, _, rfl, hlt, bd₅, st₅, hsub', hf⟩
      | cont => exact ⟨n + 1 - (i + 1), by omega, i + 1, _, _, _, _, rfl, hlt, bd₅, st₅, hsub', hf⟩
      | brk => exact ⟨g', m', cm', bd₅.drop, hf⟩
      | ret v => exact ⟨g', m', cm', bd₅.drop, hf⟩
    · have hin : i = n := by omega
      subst hin
      refine W.done s' _ _ st fun h₃ tk₃ hk₃ => wpAny_execs_nil ?_
      have nL : env.locals ≠ I := fun e => hInew (e ▸ List.mem_cons_self)
      have hI' : I ∈ env.locals :: (env.cells.map (·.2) ++ ((I, oI) :: own).map (·.1)) := List.mem_cons_of_mem _ (List.mem_append_right _ (by simp))
      have bd' := bd.drop
      refine ⟨g, m, cm, ⟨?_, ⟨bd.rd.ns.at' fun o e => hk₃ _ o (by simpa using nL) e, fun nn c hc => ?_, fun a o e => hk₃ a o (by simpa using (show a ≠ I by rintro rfl; rw [bd.off a hI'] at e; cases e)) (bd.rd.keep a o e)⟩, fun q hq => ?_, bd.base, bd'.off, bd'.nodup⟩, last _ _ _ hsub hJ⟩
      · obtain ⟨h₁, tk, rfl⟩ := bd.same
        exact ⟨h₃, _, rfl⟩
      · obtain ⟨o, ho, hd⟩ := bd.rd.cell nn c hc
        exact ⟨o, hk₃ c o (by simpa using (fun e => hInew (e ▸ List.mem_cons_of_mem _ (List.mem_append_left _ (lookup_mem hc))) : c ≠ I)) ho, hd⟩
      · exact hk₃ _ _ (by simpa using (fun e => hInew (e ▸ List.mem_cons_of_mem _ (List.mem_append_right _ (List.mem_map.mpr ⟨q, hq, rfl⟩))) : q.1 ≠ I)) (bd'.owns q hq)
  · refine ⟨0, oI, g₁, m, cm, rfl, Nat.zero_le _, ⟨b₂.same, b₂.rd, fun q hq => ?_, b₂.base, fun a ha => ?_, nd _⟩, st0, hgs, hJ0⟩
    · rcases List.mem_cons.mp hq with rfl | hq
      · exact hoI
      · exact b₂.owns q hq
    · by_cases hb : a = I
      · rw [hb]; exact gI
      · refine b₂.off a ?_
        rcases List.mem_cons.mp ha with e | ha
        · exact e ▸ List.mem_cons_self
        · refine List.mem_cons_of_mem _ ?_
          rcases List.mem_append.mp ha with h | h
          · exact List.mem_append_left _ h
          · rw [List.map_cons] at h
            rcases List.mem_cons.mp h with h | h
            · exact absurd h hb
            · exact List.mem_append_right _ h

theorem ex_sorted {x : Str} {p pos kp : Pos} {e ke : Expr} {R : Value → GM → Prop} (nm : Named env)
    (hf : Do prog w A env g m cm (eval (.Name x p) env) (fun v _ => v = .builtin "sorted"))
    (h : ∀ g₁, Sub g g₁ → Do prog w A env g₁ m cm (eval e env) (fun xv g₂ => Ex prog w A s₀ env g₂ m cm own (eval ke env) (fun kv g₃ => Do prog w A env g₃ m cm (call (.builtin "sorted") [xv] [(Str.ofString "key", kv)]) R)))
    (he : backTo pos (starEach [e] env) = (false, eval e env) :: backTo pos (starEach [] env) := by rfl) (hse : starEach [e] env = (false, eval e env) :: starEach [] env := by rfl)
    (hp : (backTo pos (starEach [e] env)).any (·.1) = false := by rfl) (ha : (backToKw pos (keywordEach [⟨some "key", ke, kp⟩] env)).all (·.1.isSome) = true := by rfl)
    (hkw : (backToKw pos (keywordEach [⟨some "key", ke, kp⟩] env)).any (·.1.isNone) = false := by rfl)
    (hz : ∀ kv : Value, ((backToKw pos (keywordEach [⟨some "key", ke, kp⟩] env)).filterMap (·.1)).zip [kv] = [(Str.ofString "key", kv)] := by intro _; rfl) :
    Ex prog w A s₀ env g m cm own (eval (.Call (.Name x p) [e] [⟨some "key", ke, kp⟩] pos) env) R := fun s b =>
  wpAny_Call_Name_kw (wpAny_mono (hf s b.rd) (fun v s₁ ⟨g₁, e₁, hv⟩ => by
    subst hv
    have b₁ := b.ext nm e₁
    refine callWith_kw (args_cons (wpAny_mono (h g₁ e₁.sub s₁ b₁.rd) (fun xv s₂ ⟨g₂, e₂, h₂⟩ => args_nil (kwAll_cons (wpAny_mono (h₂ s₂ (b₁.ext nm e₂)) (fun kv s₃ ⟨g₃, b₃, h₃⟩ => kwAll_nil ?_) fun _ _ x => x))) fun _ _ x => x) hse) he hp ha hkw
    rw [hz]
    exact wpAny_mono (h₃ s₃ b₃.rd) (fun _ _ ⟨g₄, e₄, h₄⟩ => ⟨g₄, b₃.ext nm e₄, h₄⟩) fun _ _ x => x) fun _ _ x => x)

/-- the module's builtins stand where they stood -/
def BI (w : World) (g : GM) : Prop := ∃ bm ob, mgK w "__builtins__" = some (.ref bm) ∧ bm ≠ builtinsNs ∧ bm ≠ mainGlobals ∧ g bm = some ob ∧ ob.cls = .type "module" ∧ ob.dict = some builtinsNs ∧ ob.data = .plain
theorem BI.sub {g g' : GM} (x : BI w g) (h : Sub g g') : BI w g' := let ⟨bm, ob, a, b, c, d, r⟩ := x; ⟨bm, ob, a, b, c, h _ _ d, r⟩

theorem ex_lambda {params : Arguments} {body : Expr} {scope : Scope} {pos : Pos} {c P : Addr} {R : Value → GM → Prop} (nm : Named env) (gl : Gl w mb g) (bi : BI w g) (hs0 : ∀ b, s₀.heap.get? b = none)
    (hdef : defaultsOf params env = ([], [])) (hcl : closureFor scope env = pure []) (hge : env.globals = mainGlobals) (hcode : env.code = .ref c) (hC : codeHdIn (KK w) c P = true) (hP : g P = some (tabObj #[]))
    (h : ∀ f c' ctv g', (∀ b o, b ≠ P → g b = some o → g' b = some o) → g f = none → g' f = some (kla_obj "<lambda>" (env.qual ++ "<lambda>") params body scope [] ((mgK w "__name__").getD .none) c' ctv) →
      (∀ h : Heap, Sub g' h.get? → h.CodeRec (.ref c') (env.qual ++ "<lambda>")) → (∃ ps, g' P = some (tabObj ps)) → R (.ref f) g') :
    Ex prog w A s₀ env g m cm own (eval (.Lambda params body scope pos) env) R := fun s b => by
  have kp := b.rd.keep
  obtain ⟨bm, ob, b1, b2, b3, b4, b5, b6, b7⟩ := bi
  have hbP : bm ≠ P := by rintro rfl; rw [hP] at b4; cases b4; cases b5
  have hns := gl.g s.heap kp
  have hgP : mainGlobals ≠ P := by
    rintro rfl
    obtain ⟨o, es, ep, e, hd, _⟩ := hns
    rw [kp _ _ hP] at e; cases e; cases hd
  refine kla_eval hdef (kla_makeFunction (mg := mgK w) hcl hge hns hcode (codeHd_of_K (gl.in kp) hC) (kp _ _ hP) trivial rfl hgP ⟨bm, ob, b1, b2, b3, hbP, kp _ _ b4, b5, b6, b7⟩ fun c' ctv h' tk hx hge' hlt hrec htb => ?_)
  obtain ⟨c₂, oc, vs, t, e2, hoc, hd, hv⟩ := hrec
  cases e2
  have hsz : s.heap.objs.size ≤ h'.objs.size := by omega
  have gnone : ∀ k, s.heap.objs.size ≤ k → g k = none := fun k hk => gnone_size b.rd k hk
  have hfc : h'.objs.size ≠ c' := by omega
  let fo : Obj := kla_obj "<lambda>" (env.qual ++ "<lambda>") params body scope [] ((mgK w "__name__").getD .none) c' ctv
  generalize hTO : tabObj (#[] ++ #[rawInt pos.line, rawInt pos.col, .ref c']) = tO at htb
  let g' : GM := fun a => if a = h'.objs.size then some fo else if a = c' then some oc else if a = P then some tO else g a
  have gf : g' h'.objs.size = some fo := by show (if _ then _ else _) = _; rw [if_pos rfl]
  have gc : g' c' = some oc := by show (if _ then _ else _) = _; rw [if_neg (Ne.symm hfc), if_pos rfl]
  have go : ∀ a, a < s.heap.objs.size → a ≠ P → g' a = g a := fun a ha hp => by show (if _ then _ else _) = _; rw [if_neg (show ¬ a = h'.objs.size by omega), if_neg (show ¬ a = c' by omega), if_neg hp]
  have hTab : g' P = some (tabObj (#[] ++ #[rawInt pos.line, rawInt pos.col, .ref c'])) := by
    have hlt : P < s.heap.objs.size := Heap.lt_size (kp _ _ hP)
    show (if _ then _ else _) = _
    rw [if_neg (Nat.ne_of_lt (Nat.lt_of_lt_of_le hlt hsz)), if_neg (Nat.ne_of_lt (Nat.lt_of_lt_of_le hlt hge')), if_pos rfl, hTO]
  have hPlt : P < s.heap.objs.size := Heap.lt_size (kp _ _ hP)
  have keep' : ∀ a o, a ≠ P → s.heap.get? a = some o → (h'.push fo).get? a = some o := fun a o hp e => Heap.get?_push_of_some _ (hx a o hp e)
  have priv : ∀ a ∈ env.locals :: (env.cells.map (·.2) ++ own.map (·.1)), a ≠ P ∧ a < s.heap.objs.size := fun a ha => by
    obtain ⟨o, ho⟩ := b.live nm a ha
    refine ⟨?_, Heap.lt_size ho⟩
    rintro rfl
    have := b.off a ha
    rw [hP] at this; cases this
  have hsub : Sub g' (h'.push fo).get? := fun a o e => by
    by_cases h1 : a = h'.objs.size
    · subst h1; rw [gf] at e; cases e; exact Heap.get?_push_size _ rfl
    · by_cases h2 : a = c'
      · subst h2; rw [gc] at e; cases e; exact Heap.get?_push_of_some _ hoc
      · by_cases h3 : a = P
        · subst h3
          have e' : (if a = h'.objs.size then some fo else if a = c' then some oc else if a = a then some tO else g a) = some o := e
          rw [if_neg h1, if_neg h2, if_pos rfl] at e'; cases e'
          exact Heap.get?_push_of_some _ htb
        · have e' : g' a = g a := by show (if _ then _ else _) = _; rw [if_neg h1, if_neg h2, if_neg h3]
          rw [e'] at e
          exact keep' a o h3 (kp a o e)
  refine ⟨g', ⟨?_, ⟨b.rd.ns.at' fun o e => keep' _ o (priv _ List.mem_cons_self).1 e, fun n k hk => ?_, hsub⟩, fun q hq => keep' _ _ (priv q.1 (List.mem_cons_of_mem _ (List.mem_append_right _ (List.mem_map.mpr ⟨q, hq, rfl⟩)))).1 (b.owns q hq), fun a o e => (by rw [hs0 a] at e; cases e), fun a ha => ?_, b.nodup⟩, h _ c' ctv g' (fun a o hp e => ?_) (gnone _ hsz) gf (fun hh hk => ⟨c', oc, vs, t, rfl, hk _ _ gc, hd, hv⟩) ⟨_, hTab⟩⟩
  · obtain ⟨h₁, tk₁, rfl⟩ := b.same
    exact ⟨_, _, rfl⟩
  · obtain ⟨o, ho, hd'⟩ := b.rd.cell n k hk
    exact ⟨o, keep' k o (priv k (List.mem_cons_of_mem _ (List.mem_append_left _ (lookup_mem hk)))).1 ho, hd'⟩
  · have := priv a ha
    rw [go a this.2 this.1]; exact b.off a ha
  · rw [go a (Heap.lt_size (kp a o e)) hp]; exact e

/-- a call of a function that is one expression -/
theorem do_call_lam {f c' : Addr} {name qual : Str} {params : Arguments} {body : Expr} {scope : Scope} {pm ctv : Value} {vals : List Value} {binds : List (Str × Value)} {R : Value → GM → Prop} {d u : Nat} (rm : Rm A (d + 1) (u + 3))
    (ho : g f = some (kla_obj name qual params body scope [] pm c' ctv)) (hlim : ∀ h : Heap, Sub g h.get? → h.NoLimit) (hcd : ∀ h : Heap, Sub g h.get? → h.CodeRec (.ref c') qual)
    (hbind : bindArgs (kla_fn name qual params body scope [] pm (.ref c') ctv) ⟨vals, []⟩ = pure binds) (hloc : ∀ y ∈ binds, scope.names.lookup y.1 = some .local)
    (h : ∀ L, Rm (A.deeper (envX qual scope L f (.ref c') [])) d u → Do prog w (A.deeper (envX qual scope L f (.ref c') [])) (envX qual scope L f (.ref c') []) g (fun y => binds.reverse.lookup y) (fun _ => none) (eval body (envX qual scope L f (.ref c') [])) R)
    (hco : scope.isCoroutine = false) (hgen : scope.isGenerator = false) (hk : scope.kind = .function) (hcell : ∀ x ∈ scope.names, x.2 ≠ .cell) :
    Do prog w A env g m cm (call (.ref f) vals) R := fun s rd => by
  refine wpAny_call (kla_callFunE (by have := rm.d; omega) (rd.keep _ _ ho) rfl hco hgen rfl (hcd _ rd.keep) ?_)
  rw [hbind]
  refine wpAny_pure (wpAny_newFunctionEnv hcell hloc (fun h₁ hns hsb => ?_) hk)
  have hk₁ : ∀ b o, s.heap.get? b = some o → h₁.get? b = some o := fun b o e => hsb.extBut b o (Nat.ne_of_lt (Heap.lt_size e)) (Heap.get?_push_of_some _ e)
  refine ⟨((hlim _ rd.keep)).keeps hk₁, ?_⟩
  show codeAny _ _ (.expr body (envX qual scope s.heap.objs.size f (.ref c') [])) _ _
  have e₁ : Ext s g { s with heap := h₁, toks := s.toks + binds.length } g := Ext.heap rd.keep hk₁
  refine kla_codeExpr (wpAny_mono (h s.heap.objs.size rm.deeper _ ⟨hns, fun n c hc => (by cases hc), e₁.keep⟩) (fun v s' ⟨g', e, r⟩ => ⟨g', e₁.trans e, r⟩) fun _ _ y => y.elim)

theorem call_fn_x {s : Shared} {a : Addr} {o : Obj} {fd : FuncData} {body : List Stmt} {vals : List Value} {binds : List (Str × Value)} {Q : Value → Shared → Prop} {E : Value → Shared → Prop} {d u : Nat} (rm : Rm A (d + 1) (u + 3))
    (keep : Sub g s.heap.get?) (ho : g a = some o) (hdata : o.data = .func fd) (hlim : ∀ h : Heap, Sub g h.get? → h.NoLimit) (hcd : ∀ h : Heap, Sub g h.get? → h.CodeRec fd.code fd.qualname)
    (hbody : fd.body = .stmts body) (hbind : bindArgs fd ⟨vals, []⟩ = pure binds) (hclo : fd.closure = [])
    (hkind : (binds.all fun y => fd.scope.names.lookup y.1 == some .local || fd.scope.names.lookup y.1 == some .cell) = true)
    (hnd : ((fd.scope.names.filter (·.2 == .cell)).map (·.1)).Nodup)
    (h : ∀ (L : Nat) (gs : GM), gs = s.heap.get? → Sub g gs → Named (callEnvC fd L a) → Rm (A.deeper (callEnvC fd L a)) d u →
      Sx prog w (A.deeper (callEnvC fd L a)) { s with heap := {} } (callEnvC fd L a) gs (bindL (callEnvC fd L a).kindOf binds fun _ => none) (bindC (callEnvC fd L a).kindOf binds fun _ => none) [] (execs body (callEnvC fd L a))
        (fun f g' _ _ => ∃ v, f = .ret v ∧ ∀ h' tk, Sub g' h'.get? → Q v { s with heap := h', toks := tk }))
    (hco : fd.scope.isCoroutine = false := by rfl) (hgen : fd.scope.isGenerator = false := by rfl) (hk : fd.scope.kind = .function := by rfl) :
    wpAny (model prog w) A (call (.ref a) vals) Q E s := by
  have hnd' : ((cellsFrom (s.heap.objs.size + 1) fd.scope.names []).map (·.1)).Nodup := by
    rw [cellsFrom_snd]; simp only [List.map_nil, List.append_nil, List.map_reverse]
    exact (List.reverse_perm _).nodup_iff.mpr hnd
  refine wpAny_call (codeAny_call_cells (by have := rm.d; omega) (keep a o ho) hdata (hlim _ keep) (hcd _ keep) hbody hbind hclo (kindsX hkind _) (fun s₁ x => ?_) hco hgen hk)
  have nm : Named (callEnvC fd s.heap.objs.size a) := named_of rfl hnd'
  have bd : Bd { s with heap := {} } (callEnvC fd s.heap.objs.size a) s.heap.get? (bindL (callEnvC fd s.heap.objs.size a).kindOf binds fun _ => none) (bindC (callEnvC fd s.heap.objs.size a).kindOf binds fun _ => none) [] s₁ := by
    have above : ∀ c ∈ (callEnvC fd s.heap.objs.size a).cells.map (·.2), s.heap.objs.size < c := fun c hc => by
      obtain ⟨⟨n, c'⟩, hm, rfl⟩ := List.mem_map.mp hc
      exact x.above n c' hm
    refine ⟨?_, ⟨x.toInCall.ns, x.cell, x.toInCall.keep⟩, fun p hp => (by cases hp), fun b o e => (by cases e), fun b hb => ?_, ?_⟩
    · obtain ⟨hh, tk, e⟩ := x.toInCall.same
      exact ⟨hh, tk, e⟩
    · have hge : s.heap.objs.size ≤ b := by
        rcases List.mem_cons.mp hb with e | hb
        · exact e ▸ Nat.le_refl _
        · simp only [List.map_nil, List.append_nil] at hb
          exact Nat.le_of_lt (above b hb)
      cases e : s.heap.get? b with
      | none => rfl
      | some o' => exact absurd (Heap.lt_size e) (Nat.not_lt.mpr hge)
    · simp only [List.map_nil, List.append_nil]
      refine List.nodup_cons.mpr ⟨fun hm => Nat.lt_irrefl _ (above _ hm), ?_⟩
      rw [List.Nodup, List.pairwise_map]
      exact x.apart
  refine wpAny_mono (h s.heap.objs.size s.heap.get? rfl keep nm rm.deeper s₁ bd) (fun f s₂ ⟨g', m', cm', b₂, v, hf, hr⟩ => ?_) fun _ _ x => x.elim
  subst hf
  obtain ⟨h₂, tk, rfl⟩ := b₂.same
  exact hr h₂ tk b₂.rd.keep
end
end Mine
end

section
open PySem PySem.Calls PyProof.Rows PySem.W
namespace Mine

theorem sub_upd {gs g : GM} {P : Addr} {o : Obj} (h : Sub gs g) (hP : gs P = none) : Sub gs (upd g P o) := fun b o' e => by
  by_cases hb : b = P
  · subst hb; rw [hP] at e; cases e
  · rw [upd_ne hb]; exact h b o' e
theorem Lst.upd {g : GM} {a P : Addr} {o : Obj} {vs : List Value} (h : Lst g a vs) (hne : a ≠ P) : Lst (upd g P o) a vs := let ⟨ob, e, r⟩ := h; ⟨ob, by rw [upd_ne hne]; exact e, r⟩
theorem Pl.upd {g : GM} {a P : Addr} {o : Obj} {vs : List Value} (h : Pl g a vs) (hne : a ≠ P) : Pl (upd g P o) a vs := let ⟨ob, e, r⟩ := h; ⟨ob, by rw [upd_ne hne]; exact e, r⟩
theorem Row.upd {g : GM} {a P : Addr} {o : Obj} {x : Nat} (h : Row g a x) (hne : a ≠ P) : Row (upd g P o) a x := let ⟨vs, row, h1, r⟩ := h; ⟨vs, row, h1.upd hne, r⟩
theorem Row.known {g : GM} {a : Addr} {x : Nat} (h : Row g a x) : ∃ o, g a = some o := let ⟨_, _, ⟨o, e, _⟩, _⟩ := h; ⟨o, e⟩
theorem Lst.known {g : GM} {a : Addr} {vs : List Value} (h : Lst g a vs) : ∃ o, g a = some o := let ⟨o, e, _⟩ := h; ⟨o, e⟩
theorem Pl.known {g : GM} {a : Addr} {vs : List Value} (h : Pl g a vs) : ∃ o, g a = some o := let ⟨o, e, _⟩ := h; ⟨o, e⟩
theorem ne_fresh {g : GM} {a D : Addr} (h : ∃ o, g a = some o) (hD : g D = none) : a ≠ D := by rintro rfl; obtain ⟨o, e⟩ := h; rw [hD] at e; cases e
theorem known_sub {g g' : GM} {a : Addr} (h : ∃ o, g a = some o) (hs : Sub g g') : ∃ o, g' a = some o := let ⟨o, e⟩ := h; ⟨o, hs a o e⟩

inductive RowsAt (g : GM) (P : Addr) : List Value → List Nat → Prop
  | nil : RowsAt g P [] []
  | cons (a : Addr) (x : Nat) {vs xs} : Row g a x → x ≠ 0 → a ≠ P → RowsAt g P vs xs → RowsAt g P (.ref a :: vs) (x :: xs)
theorem RowsAt.sub {g g' : GM} {P : Addr} {vs : List Value} {xs : List Nat} (h : RowsAt g P vs xs) (hs : Sub g g') : RowsAt g' P vs xs := by
  induction h with
  | nil => exact .nil
  | cons a x h1 h2 h3 _ ih => exact .cons a x (h1.sub hs) h2 h3 ih
theorem RowsAt.upd {g : GM} {P : Addr} {o : Obj} {vs : List Value} {xs : List Nat} (h : RowsAt g P vs xs) : RowsAt (upd g P o) P vs xs := by
  induction h with
  | nil => exact .nil
  | cons a x h1 h2 h3 _ ih => exact .cons a x (h1.upd h3) h2 h3 ih
theorem RowsAt.upd' {g : GM} {P K : Addr} {o : Obj} {vs : List Value} {xs : List Nat} (h : RowsAt g P vs xs) (hK : g K = none) : RowsAt (Mine.upd g K o) P vs xs := h.sub (upd_sub hK)
theorem RowsAt.other {g : GM} {P K : Addr} {o : Obj} {vs : List Value} {xs : List Nat} (h : RowsAt g P vs xs) (hK : ∀ a, Value.ref a ∈ vs → a ≠ K) : RowsAt (Mine.upd g K o) P vs xs := by
  induction h with
  | nil => exact .nil
  | cons a x h1 h2 h3 _ ih => exact .cons a x (h1.upd (hK a List.mem_cons_self)) h2 h3 (ih fun b hb => hK b (List.mem_cons_of_mem _ hb))
theorem RowsAt.get {g : GM} {P : Addr} {vs : List Value} {xs : List Nat} (h : RowsAt g P vs xs) : ∀ {i : Nat} {v : Value}, vs[i]? = some v → ∃ a x, xs[i]? = some x ∧ v = .ref a ∧ Row g a x ∧ x ≠ 0 ∧ a ≠ P := by
  induction h with
  | nil => intro i v e; simp at e
  | cons a x h1 h2 h3 _ ih =>
    intro i v e
    cases i with
    | zero => simp at e; exact ⟨a, x, by simp, e.symm, h1, h2, h3⟩
    | succ i => simpa using ih (by simpa using e)
theorem RowsAt.snoc {g : GM} {P : Addr} {vs : List Value} {xs : List Nat} (h : RowsAt g P vs xs) {a : Addr} {x : Nat} (h1 : Row g a x) (h2 : x ≠ 0) (h3 : a ≠ P) : RowsAt g P (vs ++ [.ref a]) (xs ++ [x]) := by
  induction h with
  | nil => exact .cons a x h1 h2 h3 .nil
  | cons b y g1 g2 g3 _ ih => exact .cons b y g1 g2 g3 ih
theorem RowsAt.length {g : GM} {P : Addr} {vs : List Value} {xs : List Nat} (h : RowsAt g P vs xs) : vs.length = xs.length := by
  induction h with
  | nil => rfl
  | cons b y g1 g2 g3 _ ih => simp [ih]
theorem RowsAt.known {g : GM} {P : Addr} {vs : List Value} {xs : List Nat} (h : RowsAt g P vs xs) : ∀ a, Value.ref a ∈ vs → ∃ o, g a = some o := by
  induction h with
  | nil => intro a ha; cases ha
  | cons b y g1 g2 g3 _ ih =>
    intro a ha
    rcases List.mem_cons.mp ha with e | ha
    · cases e; exact g1.known
    · exact ih a ha
theorem RowsAt.zip {g : GM} {P : Addr} {vs : List Value} {xs : List Nat} (h : RowsAt g P vs xs) : ∀ p ∈ xs.zip vs, ∃ a, p.2 = .ref a ∧ Row g a p.1 ∧ p.1 ≠ 0 ∧ a ≠ P := by
  induction h with
  | nil => intro p hp; simp at hp
  | cons b y g1 g2 g3 _ ih =>
    intro p hp
    rw [List.zip_cons_cons] at hp
    rcases List.mem_cons.mp hp with rfl | hp
    · exact ⟨b, rfl, g1, g2, g3⟩
    · exact ih p hp
theorem rowsAt_of {g : GM} {P : Addr} : ∀ (q : List (Nat × Value)), (∀ p ∈ q, ∃ a, p.2 = .ref a ∧ Row g a p.1 ∧ p.1 ≠ 0 ∧ a ≠ P) → RowsAt g P (q.map (·.2)) (q.map (·.1))
  | [], _ => .nil
  | p :: q, h => by
    obtain ⟨a, e, h1, h2, h3⟩ := h p List.mem_cons_self
    rw [List.map_cons, List.map_cons, e]
    exact .cons a p.1 h1 h2 h3 (rowsAt_of q fun p' hp => h p' (List.mem_cons_of_mem _ hp))

theorem perm_lift {α β : Type} {f : α → β} {a b : List β} (h : a.Perm b) : ∀ l : List α, b = l.map f → ∃ l' : List α, l'.Perm l ∧ a = l'.map f := by
  induction h with
  | nil => intro l e; exact ⟨l, .refl _, e⟩
  | cons x _ ih =>
    intro l e
    cases l with
    | nil => cases e
    | cons y l =>
      rw [List.map_cons] at e
      obtain ⟨e1, e2⟩ := List.cons.inj e
      obtain ⟨l', h1, h2⟩ := ih l e2
      exact ⟨y :: l', h1.cons y, by rw [List.map_cons, e1, h2]⟩
  | swap x y l =>
    intro t e
    match t, e with
    | u :: v :: t, e =>
      rw [List.map_cons, List.map_cons] at e
      obtain ⟨e1, e2⟩ := List.cons.inj e
      obtain ⟨e3, e4⟩ := List.cons.inj e2
      exact ⟨v :: u :: t, .swap u v t, by rw [List.map_cons, List.map_cons, e1, e3, e4]⟩
  | trans _ _ ih1 ih2 =>
    intro l e
    obtain ⟨l', h1, h2⟩ := ih2 l e
    obtain ⟨l'', h3, h4⟩ := ih1 l' h2
    exact ⟨l'', h3.trans h1, h4⟩

def stepM (st : List Nat × List Nat) (n : Nat) : List Nat × List Nat := (nextK st.1 (foldR st.1 n), st.2 ++ [foldR st.1 n])
def runM (ms : List Nat) : List Nat × List Nat := ms.foldl stepM ([], [])
theorem runM_snoc (ms : List Nat) (n : Nat) : runM (ms ++ [n]) = stepM (runM ms) n := by unfold runM; rw [List.foldl_append]; rfl
def pageM (ms : List Nat) : List Nat := (runM ms).2 ++ byTop (runM ms).1
theorem run_good : ∀ (ms : List Nat) (st : List Nat × List Nat), Good st.1 → (∀ n ∈ ms, n < 64) → Good (ms.foldl stepM st).1
  | [], st, h, _ => h
  | n :: ms, st, h, hm => by
    rw [List.foldl_cons]
    exact run_good ms _ (good_next h (hm n List.mem_cons_self)) fun k hk => hm k (List.mem_cons_of_mem _ hk)
theorem good_nil : Good [] := ⟨fun o ho => (by cases ho), (List.Pairwise.nil : List.Pairwise _ [])⟩
theorem runM_good (ms : List Nat) (h : ∀ n ∈ ms, n < 64) : Good (runM ms).1 := run_good ms ([], []) good_nil h
theorem good_len {ks : List Nat} (h : Good ks) : ks.length ≤ 6 := by
  have h1 : (ks.map Nat.log2).Nodup := by
    rw [List.Nodup, List.pairwise_map]
    refine (good_nodup h).imp_of_mem ?_
    intro a b ha hb hab e
    exact hab (log_inj h ha hb e)
  have h2 : (ks.map Nat.log2).Perm ((List.range 6).filter fun k => (ks.map Nat.log2).contains k) := by
    refine (List.perm_ext_iff_of_nodup h1 (List.nodup_range.filter _)).mpr fun x => ?_
    rw [List.mem_filter]
    constructor
    · intro hx
      obtain ⟨o, ho, rfl⟩ := List.mem_map.mp hx
      have := h.1 o ho
      exact ⟨List.mem_range.mpr (log_facts o this.2 this.1).2.1, by rw [List.contains_iff_mem]; exact hx⟩
    · rintro ⟨_, hx⟩
      exact List.contains_iff_mem.mp hx
  have := h2.length_eq
  have h3 := List.length_filter_le (fun k => (ks.map Nat.log2).contains k) (List.range 6)
  rw [List.length_map] at this
  rw [List.length_range] at h3
  omega
theorem foldR_snoc (ks : List Nat) (o r : Nat) : foldR (ks ++ [o]) r = if (foldR ks r).testBit (Nat.log2 o) = true then foldR ks r ^^^ o else foldR ks r := by
  unfold foldR; rw [List.foldl_append]; rfl

section
variable {prog : Program} {w : World} {A : Around} {env : Env} {g : GM} {m cm : Loc} {mb : Loc}
theorem sx_appendG {pl : Sem Bool} {s₀ : Shared} {own : List (Addr × Obj)} {x : Str} {px apos cpos pos : Pos} {e : Expr} {D : Addr} {vs : List Value} {R : Flow → GM → Loc → Loc → Prop} (nm : Named env)
    (hx : Do prog w A env g m cm (eval (.Name x px) env) (fun v _ => v = .ref D)) (hL : Pl g D vs) (h0 : s₀.heap.get? D = none) (hlen : vs.length ≤ sizeLine)
    (h : ∀ g₁, Sub g g₁ → Do prog w A env g₁ m cm (eval e env) (fun v g' => ∀ o, LObj o (vs ++ [v]) → R .next (upd g' D o) m cm))
    (hi : interactive env = false := by rfl) (hs : swapsWith (.Call (.Attribute (.Name x px) "append" apos) [e] [] cpos) none pos.line env = pure false := by rfl)
    (he : eval (.Call (.Attribute (.Name x px) "append" apos) [e] [] cpos) env = (do
      let ov ← eval (.Name x px) env
      standAt apos.atName
      let (f, first) ← holding [ov] (getMethod ov "append" pl)
      callWith cpos f first (backTo cpos (starEach [e] env)) []) := by rfl)
    (hse : starEach [e] env = (false, eval e env) :: starEach [] env := by rfl) :
    Sx prog w A s₀ env g m cm own (exec (.Expr (.Call (.Attribute (.Name x px) "append" apos) [e] [] cpos) pos) env) R := fun s b => by
  refine wpAny_Expr ?_ hi hs
  refine MethodCall_ (pl := pl) ?_ he
  refine wpAny_mono (hx s b.rd) (fun ov s₁ ⟨g₁, e₁, hv⟩ => ?_) fun _ _ x => x
  subst hv
  have b₁ := b.ext nm e₁
  refine wpAny_mono (getMethod_append (hL.sub e₁.sub) (R := fun r g' => r = (.builtin "list.append", [.ref D])) rfl s₁ b₁.rd) (fun fx s₂ ⟨g₂, e₂, hfx⟩ => ?_) fun _ _ x => x
  subst hfx
  have b₂ := b₁.ext nm e₂
  refine callWith_method1 (args_cons (wpAny_mono (h g₂ (e₁.sub.trans e₂.sub) s₂ b₂.rd) (fun v s₃ ⟨g₃, e₃, hr⟩ => args_nil ?_) fun _ _ x => x) hse) hse
  have b₃ := b₂.ext nm e₃
  have hL₃ : Pl g₃ D vs := hL.sub ((e₁.sub.trans e₂.sub).trans e₃.sub)
  obtain ⟨o₃, ho₃, _⟩ := id hL₃
  show wpAny _ _ (call (.builtin "list.append") [.ref D, v]) _ _ s₃
  refine wpAny_list_append_plain (hsz := by rw [List.size_toArray]; exact hlen) (hL₃.is b₃.rd.keep) fun h' hl' hs' => ?_
  obtain ⟨n, hn⟩ := hl'
  exact ⟨_, _, _, b₃.mut ho₃ h0 hn hs', hr _ ⟨n, by simp⟩⟩
theorem do_ne_nil {a b : Addr} {vs : List Value} {R : Value → GM → Prop} (ha : Lst g a vs) (hb : Lst g b []) (hu : A.units < cLine) (h : R (.bool (!vs.isEmpty)) g) : Do prog w A env g m cm (compareOp .NotEq (.ref a) (.ref b)) R := fun s rd => by
  show wpAny _ _ (richCompare .NotEq (.ref a) (.ref b)) _ _ s
  cases vs with
  | nil =>
    exact SeqAt.RcNeAt.lists (e := fun _ => true) (ha.is rd.keep) (hb.is rd.keep) rfl hu (fun j h1 _ => absurd h1 (Nat.not_lt_zero _)) prog w _ _ ⟨g, Ext.refl rd.keep, h⟩
  | cons x r =>
    exact SeqAt.RcNeAt.lists_lengths (ha.is rd.keep) (hb.is rd.keep) (by simp) hu prog w _ _ ⟨g, Ext.refl rd.keep, h⟩
end

def minus (g : GM) (P : Addr) : GM := fun b => if b = P then none else g b
theorem minus_sub {g : GM} {P : Addr} : Sub (minus g P) g := fun b o e => by
  unfold minus at e
  by_cases hb : b = P
  · rw [if_pos hb] at e; cases e
  · rw [if_neg hb] at e; exact e
theorem minus_ne {g : GM} {P b : Addr} (h : b ≠ P) : minus g P b = g b := by unfold minus; rw [if_neg h]
theorem minus_self {g : GM} {P : Addr} : minus g P P = none := by unfold minus; rw [if_pos rfl]
theorem Lst.minus {g : GM} {a P : Addr} {vs : List Value} (h : Lst g a vs) (hne : a ≠ P) : Lst (minus g P) a vs := let ⟨ob, e, r⟩ := h; ⟨ob, by rw [minus_ne hne]; exact e, r⟩
theorem Pl.minus {g : GM} {a P : Addr} {vs : List Value} (h : Pl g a vs) (hne : a ≠ P) : Pl (minus g P) a vs := let ⟨ob, e, r⟩ := h; ⟨ob, by rw [minus_ne hne]; exact e, r⟩
theorem Row.minus {g : GM} {a P : Addr} {x : Nat} (h : Row g a x) (hne : a ≠ P) : Row (minus g P) a x := let ⟨vs, row, h1, r⟩ := h; ⟨vs, row, h1.minus hne, r⟩
theorem Lst.ne_tab {g : GM} {a P : Addr} {vs : List Value} {ps : Array Value} (h : Lst g a vs) (hP : g P = some (tabObj ps)) : a ≠ P := by
  rintro rfl
  obtain ⟨o, e, hc, _⟩ := h
  rw [hP] at e; cases e; cases hc
theorem Row.ne_tab {g : GM} {a P : Addr} {x : Nat} {ps : Array Value} (h : Row g a x) (hP : g P = some (tabObj ps)) : a ≠ P := let ⟨_, _, h1, _⟩ := h; h1.ne_tab hP
theorem RowsAt.less {g g' : GM} {P T : Addr} {vs : List Value} {xs : List Nat} {ps : Array Value} (h : RowsAt g P vs xs) (hP : g T = some (tabObj ps)) (hs : ∀ b o, b ≠ T → g b = some o → g' b = some o) : RowsAt g' P vs xs := by
  have hs' : Sub (Mine.minus g T) g' := fun b o e => by
    have hb : b ≠ T := by rintro rfl; rw [minus_self] at e; cases e
    rw [minus_ne hb] at e; exact hs b o hb e
  induction h with
  | nil => exact .nil
  | cons a x h1 h2 h3 _ ih => exact .cons a x ((h1.minus (h1.ne_tab hP)).sub hs') h2 h3 ih
theorem RowsAt.minusP {g : GM} {P : Addr} {vs : List Value} {xs : List Nat} (h : RowsAt g P vs xs) : RowsAt (Mine.minus g P) P vs xs := by
  induction h with
  | nil => exact .nil
  | cons a x h1 h2 h3 _ ih => exact .cons a x (h1.minus h3) h2 h3 ih

/-- the page's two lists between the turns -/
structure PgSt (gs g : GM) (m : Loc) (kept : List Nat) (lines : List Str) : Prop where
  ex : ∃ P K pvs kvs, m "page" = some (.ref P) ∧ m "kept" = some (.ref K) ∧ Pl g P pvs ∧ StrsAre pvs lines ∧ Pl g K kvs ∧ RowsAt g P kvs kept ∧ P ≠ K ∧ gs P = none ∧ gs K = none ∧ (∀ a, Value.ref a ∈ kvs → a ≠ K)

end Mine
end

section
open PySem PySem.Calls PyProof.Rows PySem.W
namespace Mine
section
variable {prog : Program} {w : World} {A : Around} {env : Env} {g : GM} {m cm : Loc} {mb : Loc}

/-- what was told: tuples of words -/
def ToldAt (g : GM) (vs : List Value) (ns : List Nat) : Prop := vs.length = ns.length ∧ ∀ (i : Nat) (v : Value), vs[i]? = some v → ∃ a ys n, ns[i]? = some n ∧ n < 1152 ∧ v = .ref a ∧ Tpl g a ys ∧ BytesAre ys (tellB n)
theorem ToldAt.sub {g g' : GM} {vs : List Value} {ns : List Nat} (h : ToldAt g vs ns) (hs : Sub g g') : ToldAt g' vs ns :=
  ⟨h.1, fun i v e => let ⟨a, ys, n, h1, h2, h3, h4, h5⟩ := h.2 i v e; ⟨a, ys, n, h1, h2, h3, h4.sub hs, h5⟩⟩

theorem tell_sub (n : Nat) : ∀ p ∈ tellB n, p ∈ flagsB := fun p hp => by
  unfold tellB at hp
  split at hp
  · exact words_sub _ p hp
  · cases hp

theorem fn_page {s : Shared} {a : Addr} {tvs : List Value} {ns : List Nat} {Q : Value → Shared → Prop} {E : Value → Shared → Prop} {k : Nat} (rm : Rm A 6 (k + 40)) (keep : Sub g s.heap.get?) (gl : Gl w mb g) (bi : BI w g) (g97 : g 97 = none)
    (htab : s.heap.get? 97 = some (tabObj #[])) (ha : Lst g a tvs) (ht : ToldAt g tvs ns) (hlen : ns.length ≤ 100)
    (hQ : ∀ P pvs h' tk, (∀ b o, b ≠ 97 → s.heap.get? b = some o → h'.get? b = some o) → h'.PlainList P pvs.toArray → StrsAre pvs ((pageM (ns.map maskN)).map lineM) → (∃ ps, h'.get? 97 = some (tabObj ps)) → Q (.ref P) { s with heap := h', toks := tk }) :
    wpAny (model prog w) A (call (.ref 100) [.ref a]) Q E s := by
  have line : (100000 : Nat) + 1000 ≤ sizeLine := by rw [sizeLine_eq]; decide
  refine call_fn_x (d := 5) (u := k + 37) rm keep (gl.K 100 _ rfl) rfl gl.lim (gl.code (by rfl)) rfl rfl rfl rfl (by decide) ?_
  intro L gs hgs hsub nm rm'
  have glS : Gl w mb gs := gl.sub hsub
  have haS := ha.sub hsub
  have htS := ht.sub hsub
  have gs97 : gs 97 = some (tabObj #[]) := by rw [hgs]; exact htab
  have hs0 : ∀ b, ({ s with heap := {} } : Shared).heap.get? b = none := fun b => rfl
  have hms : ∀ n ∈ ns.map maskN, n < 64 := fun n hn => by
    obtain ⟨n', _, rfl⟩ := List.mem_map.mp hn
    exact mask_lt n'
  refine sx_cons (sx_assign nm rfl (ev_list (do_args_nil (do_newList (Nat.zero_le _) fun K oK hK hoK => ⟨_, _, .loc rfl, ?_⟩))))
  refine sx_cons (sx_assign nm rfl (ev_list (do_args_nil (do_newList (Nat.zero_le _) fun P oP hP hoP => ⟨_, _, .loc rfl, ?_⟩))))
  have hKP : P ≠ K := by rintro rfl; rw [upd_self] at hP; cases hP
  have gsP : gs P = none := by
    cases e : gs P with
    | none => rfl
    | some o' => have := upd_sub (o := oK) hK P o' e; rw [hP] at this; cases this
  have hs2 : Sub gs (upd (upd gs K oK) P oP) := (upd_sub hK).trans (upd_sub hP)
  refine sx_cons (sx_for nm rfl (ev_local rfl ?_))
  refine ⟨gs, tvs.length, _, hs2, src_list rm'.h haS, fun i g m cm => PgSt gs g m (runM ((ns.map maskN).take i)).1 ((runM ((ns.map maskN).take i)).2.map lineM), ?_, ?_, ?_⟩
  · refine ⟨P, K, [], [], ?_, ?_, pl_upd hoP, .nil, (pl_upd hoK).upd hKP.symm, .nil, hKP, gsP, hK, fun a h => by cases h⟩
    · rfl
    · rfl
  · rintro i v g₁ m₁ cm₁ own' hi hv hs ⟨P, K, pvs, kvs, hmP, hmK, hPl, hSt, hKl, hRows, hne, hgP, hgK, hnK⟩
    obtain ⟨ta, ys, n, hn, hn1152, rfl, hT, hB⟩ := htS.2 i v hv
    have hni : (ns.map maskN)[i]? = some (maskN n) := by rw [List.getElem?_map, hn]; rfl
    have hilt : i < ns.length := by rw [← htS.1]; exact hi
    have hrun : runM ((ns.map maskN).take (i + 1)) = stepM (runM ((ns.map maskN).take i)) (maskN n) := by
      rw [List.take_add_one, hni]; exact runM_snoc _ _
    have hgood : Good (runM ((ns.map maskN).take i)).1 := runM_good _ fun x hx => hms x (List.mem_of_mem_take hx)
    have hlines : (runM ((ns.map maskN).take i)).2.length ≤ 100 := by
      have : ∀ (l : List Nat) (st : List Nat × List Nat), (l.foldl stepM st).2.length = st.2.length + l.length := by
        intro l
        induction l with
        | nil => intro st; simp
        | cons x l ih => intro st; rw [List.foldl_cons, ih]; simp [stepM]; omega
      have h1 := this ((ns.map maskN).take i) ([], [])
      have h2 : ((ns.map maskN).take i).length ≤ (ns.map maskN).length := List.length_take_le' _ _
      rw [List.length_map] at h2
      show (runM _).2.length ≤ 100
      unfold runM
      rw [h1]; simp only [List.length_nil]; omega
    generalize hst : runM ((ns.map maskN).take i) = st at hgood hlines hSt hRows hrun
    obtain ⟨kept, rests⟩ := st
    dsimp only at hgood hlines hSt hRows
    have gl₁ := glS.sub hs
    refine ⟨_, _, .loc rfl, ?_⟩
    have gysl : ys.length ≤ 6 := by
      rw [ba_length hB]
      unfold tellB
      split
      · exact words_len _
      · exact Nat.zero_le _
    -- row = [word.decode('ascii') for word in words]
    refine sx_cons (sx_assign nm rfl (ev_comp rfl (by repeat' first | exact True.intro | refine ⟨rfl, ?_⟩) (by decide) rfl (by decide) rfl (ev_local setL_self ?_)))
    refine ⟨g₁, ys.length, _, Sub.refl _, src_tuple rm'.h (hT.sub hs), by omega, fun j zs g' => StrsAre zs (((tellB n).take j).map decS), .nil, ?_, ?_⟩
    · intro C j v zs g' m' hj hv hs' hm hly hI
      refine do_tests_nil ?_
      obtain ⟨b, tb, hb, rfl⟩ := ba_get hB hv
      have hmem := tell_sub n b (List.mem_of_getElem? hb)
      have hstep : ((tellB n).take (j + 1)).map decS = ((tellB n).take j).map decS ++ [decS b] := by rw [List.take_add_one, hb]; simp
      show if true = true then _ else _
      rw [if_pos rfl]
      refine ev_meth1 (ev_local hm ⟨"bytes.decode", do_method_bytes FB.slot_bytes_decode FB.type_bytes_decode ⟨_, rfl, ?_⟩⟩)
      refine do_args_cons (ev_const_str fun t => do_args_nil (do_decode hmem fun t' => ?_))
      show StrsAre _ (((tellB n).take (j + 1)).map decS)
      rw [hstep]
      exact sa_snoc hI _ _
    intro D oD zs g₂ hs₂ hD hD' hLD hlz hI
    rw [List.take_of_length_le (by rw [← ba_length hB]; exact Nat.le_refl _)] at hI
    refine ⟨_, _, .cell _ rfl rfl, ?_⟩
    have hsD : Sub g₁ (upd g₂ D oD) := hs₂.trans (upd_sub hD')
    have hrow : Row (upd g₂ D oD) D (maskN n) := ⟨zs, _, (pl_upd hLD).lst, hI, told_row n, mask_lt n⟩
    have hDP : D ≠ P := (ne_fresh hPl.known hD).symm
    have hDK : D ≠ K := (ne_fresh hKl.known hD).symm
    have hmP2 : setL m₁ "words" (.ref ta) "page" = some (.ref P) := by rw [setL_ne (by decide)]; exact hmP
    have hmK2 : setL m₁ "words" (.ref ta) "kept" = some (.ref K) := by rw [setL_ne (by decide)]; exact hmK
    generalize hg₃ : upd g₂ D oD = g₃ at hsD hrow
    have hRows3 := hRows.sub hsD
    have hP3 := hPl.sub hsD
    have hK3 := hKl.sub hsD
    have hs3 := hs.trans hsD
    have hkl : kvs.length ≤ 6 := by rw [hRows.length]; exact good_len hgood
    -- for other in kept
    refine sx_cons (sx_for nm rfl (ev_local hmK2 ?_))
    refine ⟨g₃, kvs.length, _, Sub.refl _, src_list rm'.h hK3.lst, fun j g m cm => ∃ B, cm "row" = some (.ref B) ∧ Row g B (foldR (kept.take j) (maskN n)) ∧ B ≠ P ∧ B ≠ K ∧ m "page" = some (.ref P) ∧ m "kept" = some (.ref K), ⟨D, setL_self, hrow, hDP, hDK, hmP2, hmK2⟩, ?_, ?_⟩
    · rintro j v g₄ m₄ cm₄ own₄ hj hv hs₄ ⟨B, hB1, hB2, hB3, hB4, hB5, hB6⟩
      obtain ⟨oa, ox, hox, rfl, hor, ho0, hoP⟩ := hRows3.get hv
      have gl₄ := glS.sub (hs3.trans hs₄)
      have ho64 := hor.lt
      have hor4 := hor.sub hs₄
      have hfold : foldR (kept.take (j + 1)) (maskN n) = if (foldR (kept.take j) (maskN n)).testBit (Nat.log2 ox) = true then foldR (kept.take j) (maskN n) ^^^ ox else foldR (kept.take j) (maskN n) := by
        rw [List.take_add_one, hox]; exact foldR_snoc _ _ _
      have hK4 := hK3.sub hs₄
      have hP4 := hP3.sub hs₄
      refine ⟨_, _, .loc rfl, ?_⟩
      have hB5' : setL m₄ "other" (.ref oa) "page" = some (.ref P) := by rw [setL_ne (by decide)]; exact hB5
      have hB6' : setL m₄ "other" (.ref oa) "kept" = some (.ref K) := by rw [setL_ne (by decide)]; exact hB6
      refine sx_cons (sx_if nm (is_cmp (ev_call (gl₄.K 88 _ rfl) rfl (ev_global gl₄.g (mg_top w) rfl) fun g₅ hs₅ => ?_)))
      refine do_args_cons (ev_local setL_self (do_args_nil (fn_topM (gl₄.sub hs₅) (k := k) (rm'.less (by omega) (by omega)) (hor4.sub hs₅) ho0 fun t₁ g₆ hs₆ => ?_)))
      have hs46 := hs₅.trans hs₆
      have hB26 := hB2.sub hs46
      obtain ⟨bvs, brow, hbl, hbs, hbr, hb64⟩ := id hB26
      refine ev_cell hB1 (do_in_strs hbl hbs (do_truthy_bool ?_))
      have hany := hbr.any (log_facts ox ho64 ho0).2.1
      rw [hany]
      cases hbit : (foldR (kept.take j) (maskN n)).testBit (Nat.log2 ox) with
      | true =>
        rw [hbit, if_pos rfl] at hfold
        rw [if_pos rfl]
        have gl₆ := gl₄.sub hs46
        refine sx_cons (sx_assign nm rfl (ev_call (gl₆.K 81 _ rfl) rfl (ev_global gl₆.g (mg_both w) rfl) fun g₇ hs₇ => ?_))
        refine do_args_cons (ev_cell hB1 (do_args_cons (ev_local setL_self (do_args_nil ?_))))
        refine fn_bothM (gl₆.sub hs₇) (k := k) (rm'.less (by omega) (by omega)) (hB26.sub hs₇) ((hor4.sub hs46).sub hs₇) fun D₂ g₈ hs₈ hD₂ hr₂ => ⟨_, _, .cell _ rfl rfl, sx_nil (sx_nil ⟨?_, ?_⟩)⟩
        · exact ((hs₄.trans hs46).trans hs₇).trans hs₈
        · exact ⟨D₂, setL_self, by rw [hfold]; exact hr₂, (ne_fresh (known_sub hP4.known (hs46.trans hs₇)) hD₂).symm, (ne_fresh (known_sub hK4.known (hs46.trans hs₇)) hD₂).symm, hB5', hB6'⟩
      | false =>
        rw [hbit, if_neg Bool.false_ne_true] at hfold
        rw [if_neg Bool.false_ne_true]
        exact sx_nil (sx_nil ⟨hs₄.trans hs46, B, hB1, by rw [hfold]; exact hB26, hB3, hB4, hB5', hB6'⟩)
    rintro g₄ m₄ cm₄ hs₄ ⟨B, hB1, hB2, hB3, hB4, hB5, hB6⟩
    rw [List.take_of_length_le (by rw [← hRows.length]; exact Nat.le_refl _)] at hB2
    have hr64 := hB2.lt
    generalize hrr : foldR kept (maskN n) = r at hB2 hr64
    have hP4 := hP3.sub hs₄
    have hK4 := hK3.sub hs₄
    have hRows4 := hRows3.sub hs₄
    have hs4 := hs3.trans hs₄
    have hpl : pvs.length ≤ 100 := by rw [sa_length hSt, List.length_map]; exact hlines
    -- page.append(_law_line(row))
    refine sx_cons (sx_appendG nm (ev_local hB5 rfl) hP4 rfl (by omega) fun g₅ hs₅ => ?_)
    have gl₅ := glS.sub (hs4.trans hs₅)
    refine ev_call (gl₅.K 95 _ rfl) rfl (ev_global gl₅.g (mg_line w) rfl) fun g₆ hs₆ => ?_
    refine do_args_cons (ev_cell hB1 (do_args_nil (fn_lineM (gl₅.sub hs₆) (k := k) (rm'.less (by omega) (by omega)) (hB2.sub (hs₅.trans hs₆)) fun tl g₇ hs₇ oP₂ hoP₂ => ?_)))
    have hs47 := (hs₅.trans hs₆).trans hs₇
    have hs7 : Sub gs (upd g₇ P oP₂) := sub_upd (hs4.trans hs47) hgP
    have hP7 : Pl (upd g₇ P oP₂) P (pvs ++ [.str (lineM r) tl]) := pl_upd hoP₂
    have hK7 : Pl (upd g₇ P oP₂) K kvs := (hK4.sub hs47).upd hne.symm
    have hRows7 : RowsAt (upd g₇ P oP₂) P kvs kept := (hRows4.sub hs47).upd
    have hB7 : Row (upd g₇ P oP₂) B r := (hB2.sub hs47).upd hB3
    have hSt7 := sa_snoc hSt (lineM r) tl
    generalize upd g₇ P oP₂ = g₈ at hs7 hP7 hK7 hRows7 hB7
    have hlin2 : (rests ++ [r]).map lineM = rests.map lineM ++ [lineM r] := by rw [List.map_append]; rfl
    -- if row != []
    obtain ⟨bvs, brow, hbl, hbs, hbr, hb64⟩ := id hB7
    refine sx_cons (sx_if nm (is_cmp (ev_cell hB1 (ev_list (do_args_nil (do_newList (Nat.zero_le _) fun N oN hN hoN => ?_))))))
    have hs8 := upd_sub (o := oN) hN
    refine do_ne_nil (hbl.sub hs8) (pl_upd hoN).lst (by have := rm'.u; omega) (do_truthy_bool ?_)
    have hs78 := hs7.trans hs8
    have hP8 := hP7.sub hs8
    have hK8 := hK7.sub hs8
    have hRows8 := hRows7.sub hs8
    have hB8 := hB7.sub hs8
    generalize upd g₈ N oN = g₉ at hs78 hP8 hK8 hRows8 hB8
    have hemp : bvs.isEmpty = true ↔ r = 0 := by
      rw [List.isEmpty_iff, ← hbr.nil hb64]
      have := sa_length hbs
      constructor
      · rintro rfl; exact List.eq_nil_of_length_eq_zero this.symm
      · rintro rfl; exact List.eq_nil_of_length_eq_zero this
    by_cases hr0 : r = 0
    · have : bvs.isEmpty = true := hemp.mpr hr0
      rw [this]
      show if (!true) = true then _ else _
      rw [if_neg (by decide)]
      refine sx_nil (sx_nil ⟨hs78, ?_⟩)
      show PgSt gs _ _ (runM ((ns.map maskN).take (i + 1))).1 ((runM ((ns.map maskN).take (i + 1))).2.map lineM)
      rw [hrun]
      unfold stepM nextK
      dsimp only
      rw [hrr, if_pos hr0, hlin2]
      exact ⟨P, K, _, kvs, hB5, hB6, hP8, hSt7, hK8, hRows8, hne, hgP, hgK, hnK⟩
    · have : bvs.isEmpty = false := by
        cases e : bvs.isEmpty with
        | false => rfl
        | true => exact absurd (hemp.mp e) hr0
      rw [this]
      show if (!false) = true then _ else _
      rw [if_pos (by decide)]
      have gl₉ := glS.sub hs78
      -- top = _law_top(row)
      refine sx_cons (sx_assign nm rfl (ev_call (gl₉.K 88 _ rfl) rfl (ev_global gl₉.g (mg_top w) rfl) fun g₁₀ hs₁₀ => ?_))
      refine do_args_cons (ev_cell hB1 (do_args_nil (fn_topM (gl₉.sub hs₁₀) (k := k) (rm'.less (by omega) (by omega)) (hB8.sub hs₁₀) hr0 fun tt g₁₁ hs₁₁ => ⟨_, _, .cell _ rfl rfl, ?_⟩)))
      have hs11 := hs₁₀.trans hs₁₁
      have hcm1 : setL cm₄ "top" (.str (nameAt (Nat.log2 r)) tt) "row" = some (.ref B) := by rw [setL_ne (by decide)]; exact hB1
      have hcm2 : setL cm₄ "top" (.str (nameAt (Nat.log2 r)) tt) "top" = some (.str (nameAt (Nat.log2 r)) tt) := setL_self
      have hP11 := hP8.sub hs11
      have hK11 := hK8.sub hs11
      have hRows11 := hRows8.sub hs11
      have hB11 := hB8.sub hs11
      have hs711 := hs78.trans hs11
      generalize setL cm₄ "top" (.str (nameAt (Nat.log2 r)) tt) = cm₅ at hcm1 hcm2
      -- kept = [...]
      refine sx_cons (sx_assign_comp nm rfl rfl rfl (by repeat' first | exact True.intro | refine ⟨rfl, ?_⟩) (by decide) rfl (by decide) rfl (ev_local hB6 ?_))
      refine ⟨g₁₁, kvs.length, _, Sub.refl _, src_list rm'.h hK11.lst, by omega, fun j zs g' => RowsAt g' P zs ((kept.take j).map (nx r)), .nil, ?_, ?_⟩
      · intro C j v zs g' m' hj hv hs' hm hly hI
        obtain ⟨oa, ox, hox, rfl, hor, ho0, hoP⟩ := hRows11.get hv
        have ho64 := hor.lt
        have glc := glS.sub (hs711.trans hs')
        have hstep : (kept.take (j + 1)).map (nx r) = (kept.take j).map (nx r) ++ [nx r ox] := by rw [List.take_add_one, hox]; simp
        have hoff : r.testBit (Nat.log2 ox) = false := by rw [← hrr]; exact foldR_off hgood _ (List.mem_of_getElem? hox)
        have hnx := nx_facts ⟨ho0, ho64⟩ ⟨hr0, hr64⟩ hoff
        have horc := hor.sub hs'
        refine do_tests_nil ?_
        show if true = true then _ else _
        rw [if_pos rfl]
        obtain ⟨ovs, orow, hol, hos, hoo, _⟩ := id horc
        refine ev_ifexp (is_cmp (ev_cell hcm2 (ev_local hm (do_in_strs hol hos (do_truthy_bool ?_)))))
        have hany := hoo.any (log_facts r hr64 hr0).2.1
        rw [hany]
        cases hbit : ox.testBit (Nat.log2 r) with
        | true =>
          rw [if_pos rfl]
          have hnxv : nx r ox = ox ^^^ r := by unfold nx; rw [if_pos hbit]
          refine ev_call (glc.K 81 _ rfl) rfl (ev_global glc.g (mg_both w) rfl) fun g₁₂ hs₁₂ => ?_
          refine do_args_cons (ev_local hm (do_args_cons (ev_cell hcm1 (do_args_nil ?_))))
          refine fn_bothM (glc.sub hs₁₂) (k := k) (rm'.less (by omega) (by omega)) (horc.sub hs₁₂) (hB11.sub (hs'.trans hs₁₂)) fun D₂ g₁₃ hs₁₃ hD₂ hr₂ => ?_
          have hne2 : D₂ ≠ P := (ne_fresh (known_sub hP11.known (hs'.trans hs₁₂)) hD₂).symm
          show RowsAt _ P _ ((kept.take (j + 1)).map (nx r))
          rw [hstep]
          exact (hI.sub (hs₁₂.trans hs₁₃)).snoc (by rw [hnxv]; exact hr₂) hnx.1 hne2
        | false =>
          rw [if_neg Bool.false_ne_true]
          have hnxv : nx r ox = ox := by unfold nx; rw [if_neg (by rw [hbit]; exact Bool.false_ne_true)]
          refine ev_local hm ?_
          show RowsAt _ P _ ((kept.take (j + 1)).map (nx r))
          rw [hstep, hnxv]
          exact hI.snoc horc ho0 hoP
      intro K2 oK2 zs g₁₂ hs₁₂ hK2 hK2' hLK2 hlzs hI
      rw [List.take_of_length_le (by rw [← hRows.length]; exact Nat.le_refl _)] at hI
      have hs712 := hs711.trans hs₁₂
      have hP12 := hP11.sub hs₁₂
      have hPK2 : P ≠ K2 := ne_fresh hP12.known hK2'
      have hgK2 : gs K2 = none := by
        cases e : gs K2 with
        | none => rfl
        | some o' => have := hs712 K2 o' e; rw [hK2'] at this; cases this
      have hB12 := hB11.sub hs₁₂
      have hBK2 : B ≠ K2 := ne_fresh hB12.known hK2'
      have hnK2 : ∀ a, Value.ref a ∈ zs → a ≠ K2 := fun a ha => ne_fresh (hI.known a ha) hK2'
      -- kept.append(row)
      have hmK5 : setL m₄ "kept" (.ref K2) "kept" = some (.ref K2) := setL_self
      have hmP5 : setL m₄ "kept" (.ref K2) "page" = some (.ref P) := by rw [setL_ne (by decide)]; exact hB5
      refine sx_cons (sx_appendG nm (ev_local hmK5 rfl) (pl_upd hLK2) rfl (by omega) fun g₁₃ hs₁₃ => ev_cell hcm1 fun o3 ho3 => ?_)
      refine sx_nil (sx_nil ⟨sub_upd ((hs712.trans (upd_sub hK2')).trans hs₁₃) hgK2, ?_⟩)
      show PgSt gs _ _ (runM ((ns.map maskN).take (i + 1))).1 ((runM ((ns.map maskN).take (i + 1))).2.map lineM)
      rw [hrun]
      unfold stepM nextK
      dsimp only
      rw [hrr, if_neg hr0, hlin2]
      have hs1213 : Sub g₁₂ g₁₃ := (upd_sub hK2').trans hs₁₃
      refine ⟨P, K2, _, _, hmP5, hmK5, (hP12.sub hs1213).upd hPK2, hSt7, pl_upd ho3, ?_, hPK2, hgP, hgK2, ?_⟩
      · refine RowsAt.snoc ?_ ((hB12.sub hs1213).upd hBK2) hr0 hB3
        exact (hI.sub hs1213).other hnK2
      · intro a ha
        rcases List.mem_append.mp ha with ha | ha
        · exact hnK2 a ha
        · rw [List.mem_singleton] at ha; cases ha; exact hBK2
  · rintro g₁ m₁ cm₁ hs ⟨P, K, pvs, kvs, hmP, hmK, hPl, hSt, hKl, hRows, hne, hgP, hgK, hnK⟩
    have hall : (ns.map maskN).take tvs.length = ns.map maskN := List.take_of_length_le (by rw [List.length_map, htS.1]; exact Nat.le_refl _)
    rw [hall] at hSt hRows
    have hgood : Good (runM (ns.map maskN)).1 := runM_good _ hms
    have hrl : ∀ (l : List Nat) (st : List Nat × List Nat), (l.foldl stepM st).2.length = st.2.length + l.length := by
      intro l
      induction l with
      | nil => intro st; simp
      | cons x l ih => intro st; rw [List.foldl_cons, ih]; simp [stepM]; omega
    have hlines : (runM (ns.map maskN)).2.length ≤ 100 := by
      show (runM _).2.length ≤ 100
      unfold runM
      rw [hrl]; simp only [List.length_nil, List.length_map]; omega
    have hpage : pageM (ns.map maskN) = (runM (ns.map maskN)).2 ++ byTop (runM (ns.map maskN)).1 := rfl
    generalize runM (ns.map maskN) = st at hSt hRows hgood hlines hpage
    obtain ⟨kept, rests⟩ := st
    dsimp only at hSt hRows hgood hlines hpage
    have gl₁ := glS.sub hs
    have bi₁ := (bi.sub hsub).sub hs
    have hkl : kvs.length ≤ 6 := by rw [hRows.length]; exact good_len hgood
    have g₁97 : g₁ 97 = some (tabObj #[]) := hs _ _ gs97
    refine sx_cons (sx_forX nm rfl (ex_sorted nm (ev_builtin gl₁.g (mg_sorted w) gl₁.b (by rw [gl₁.hb _ (by decide)]; exact boot_sorted) rfl) fun g₂ hs₂ => ev_local hmK ?_))
    have gl₂ := gl₁.sub hs₂
    refine ex_lambda (P := 97) (c := 99) nm gl₂ (bi₁.sub hs₂) hs0 rfl rfl rfl rfl (by kernel_rfl) (hs₂ _ _ g₁97) fun f c' ctv g₃ hbut hf hfo hcd ⟨pT, hpT⟩ => ?_
    have hbut1 : ∀ b o, b ≠ 97 → g₁ b = some o → g₃ b = some o := fun b o hb e => hbut b o hb (hs₂ b o e)
    have hm3 : Sub (minus g₁ 97) g₃ := fun b o e => by
      have hb : b ≠ 97 := by rintro rfl; rw [minus_self] at e; cases e
      rw [minus_ne hb] at e; exact hbut1 b o hb e
    have hg3 : Sub g g₃ := fun b o e => by
      have hb : b ≠ 97 := by rintro rfl; rw [g97] at e; cases e
      exact hbut1 b o hb (hs _ _ (hsub _ _ e))
    have gl₃ := gl.sub hg3
    have hK97 : K ≠ 97 := hKl.lst.ne_tab g₁97
    have hP97 : P ≠ 97 := hPl.lst.ne_tab g₁97
    have hK3 := (hKl.minus hK97).sub hm3
    have hP3 := (hPl.minus hP97).sub hm3
    have hRows3 : RowsAt g₃ P kvs kept := hRows.less g₁97 hbut1
    have hgs3 : ∀ b o, b ≠ 97 → gs b = some o → g₃ b = some o := fun b o hb e => hbut1 b o hb (hs _ _ e)
    refine do_sorted (ks := kept.map fun o => nameAt (Nat.log2 o)) hK3.lst (by rw [List.length_map, hRows.length]) (by omega) (fun x => rfl) (fun i v kk g₄ hv hk hs₄ => ?_) fun g₄ D oD out hs₄ hD hD' hLD hout => ?_
    · obtain ⟨oa, ox, hox, rfl, hor, ho0, hoP⟩ := hRows3.get hv
      rw [List.getElem?_map, hox] at hk
      cases hk
      have gl₄ := gl₃.sub hs₄
      have rmL : Rm (A.deeper (callEnvC _ L 100)).in1.in1 (3 + 1) (k + 20 + 3) := Rm.in1 (Rm.in1 (rm'.less (by omega) (by omega)))
      refine do_call_lam (d := 3) (u := k + 20) rmL (hs₄ _ _ hfo) gl₄.lim (fun h kh => hcd h (hs₄.trans kh)) rfl (locs rfl) (fun L' rmB => ?_) rfl rfl rfl (by decide)
      refine ev_call (gl₄.K 64 _ rfl) rfl (ev_global gl₄.g (mg_strxfrm w) rfl) fun g₅ hs₅ => ?_
      have gl₅ := gl₄.sub hs₅
      refine do_args_cons (ev_call (gl₅.K 88 _ rfl) rfl (ev_global gl₅.g (mg_top w) rfl) fun g₆ hs₆ => ?_)
      refine do_args_cons (ev_local rfl (do_args_nil (fn_topM (gl₅.sub hs₆) (k := k) (rmB.less (by omega) (by omega)) ((hor.sub hs₄).sub (hs₅.trans hs₆)) ho0 fun tt g₇ hs₇ => ?_)))
      refine do_args_nil (fn_strxfrm ((gl₅.sub hs₆).sub hs₇) (u := k) (rmB.less (by omega) (by omega)) fun g₈ _ => ⟨tt, rfl⟩)
    obtain ⟨ps, hperm, rfl, hsorted⟩ := hout
    have hzip : (kept.map fun o => nameAt (Nat.log2 o)).zip kvs = (kept.zip kvs).map fun q : Nat × Value => (nameAt (Nat.log2 q.1), q.2) := by
      rw [List.zip_map_left]; rfl
    rw [hzip] at hperm
    obtain ⟨q', hq1, rfl⟩ := perm_lift hperm _ rfl
    have hfst : (kept.zip kvs).map (·.1) = kept := by
      show (kept.zip kvs).map Prod.fst = kept
      rw [List.map_fst_zip]; rw [hRows.length]; exact Nat.le_refl _
    have hl1 : (q'.map (·.1)).Perm kept := by
      have := hq1.map (fun q : Nat × Value => q.1)
      rwa [hfst] at this
    have hl2 : (q'.map (·.1)) = byTop kept := by
      refine sorted_byTop hgood hl1 ?_
      rw [List.pairwise_map] at hsorted ⊢
      exact hsorted
    have hRows4 : RowsAt (upd g₄ D oD) P (q'.map (·.2)) (byTop kept) := by
      rw [← hl2]
      refine rowsAt_of q' fun p hp => ?_
      obtain ⟨a, e1, e2, e3, e4⟩ := hRows3.zip p (hq1.subset hp)
      exact ⟨a, e1, e2.sub (hs₄.trans (upd_sub hD')), e3, e4⟩
    have hout2 : ((q'.map fun q : Nat × Value => (nameAt (Nat.log2 q.1), q.2)).map Prod.snd) = q'.map (·.2) := by rw [List.map_map]; rfl
    rw [hout2] at hLD
    generalize q'.map (·.2) = out at hLD hRows4
    have hPD : P ≠ D := ne_fresh hP3.known hD
    have hP4 : Pl (upd g₄ D oD) P pvs := hP3.sub (hs₄.trans (upd_sub hD'))
    have hLD4 : Pl (upd g₄ D oD) D out := pl_upd hLD
    have gl₄ : Gl w mb (upd g₄ D oD) := gl₃.sub (hs₄.trans (upd_sub hD'))
    have hgs4 : ∀ b o, b ≠ 97 → gs b = some o → upd g₄ D oD b = some o := fun b o hb e => (hs₄.trans (upd_sub hD')) b o (hgs3 b o hb e)
    have hgP4 : g P = none := by
      cases e : g P with
      | none => rfl
      | some o' => have := hsub P o' e; rw [hgP] at this; cases this
    have hpT4 : upd g₄ D oD 97 = some (tabObj pT) := (hs₄.trans (upd_sub hD')) _ _ hpT
    have gg4 : Sub g (upd g₄ D oD) := hg3.trans (hs₄.trans (upd_sub hD'))
    generalize upd g₄ D oD = g₅ at hRows4 hP4 hLD4 gl₄ hgs4 gg4 hpT4
    have hbl : (byTop kept).length ≤ 6 := by rw [(byTop_perm hgood).length_eq]; exact good_len hgood
    have hol : out.length = (byTop kept).length := hRows4.length
    have hRm := hRows4.minusP
    have hLm := hLD4.lst.minus (P := P) hPD.symm
    have gm5 : Sub g (minus g₅ P) := fun b o e => by
      have hb : b ≠ P := by rintro rfl; rw [hgP4] at e; cases e
      rw [minus_ne hb]; exact gg4 b o e
    have glm := gl.sub gm5
    refine ⟨minus g₅ P, out.length, _, minus_sub, src_list rm'.h hLm, fun i g m cm => ∃ pvs', m "page" = some (.ref P) ∧ Pl g P pvs' ∧ StrsAre pvs' ((rests ++ (byTop kept).take i).map lineM), ⟨pvs, hmP, hP4, by rw [List.take_zero, List.append_nil]; exact hSt⟩, ?_, ?_⟩
    · rintro i v g₆ m₆ cm₆ own₆ hi hv hs₆ ⟨pvs', hm6, hP6, hS6⟩
      obtain ⟨oa, ox, hox, rfl, hor, ho0, hoP⟩ := hRm.get hv
      have gl₆ := glm.sub hs₆
      have hpl : pvs'.length ≤ 200 := by
        rw [sa_length hS6, List.length_map, List.length_append]
        have : ((byTop kept).take i).length ≤ (byTop kept).length := List.length_take_le' _ _
        omega
      have hstep : (rests ++ (byTop kept).take (i + 1)).map lineM = (rests ++ (byTop kept).take i).map lineM ++ [lineM ox] := by
        rw [List.take_add_one, hox]; simp
      refine ⟨_, _, .loc rfl, ?_⟩
      have hm6' : setL m₆ "other" (.ref oa) "page" = some (.ref P) := by rw [setL_ne (by decide)]; exact hm6
      refine sx_cons (sx_appendG nm (ev_local hm6' rfl) hP6 rfl (by omega) fun g₇ hs₇ => ?_)
      have gl₇ := gl₆.sub hs₇
      refine ev_call (gl₇.K 95 _ rfl) rfl (ev_global gl₇.g (mg_line w) rfl) fun g₈ hs₈ => ?_
      refine do_args_cons (ev_local setL_self (do_args_nil (fn_lineM (gl₇.sub hs₈) (k := k) (rm'.less (by omega) (by omega)) ((hor.sub hs₆).sub (hs₇.trans hs₈)) fun tl g₉ hs₉ oP₂ hoP₂ => ?_)))
      have hfin := sa_snoc hS6 (lineM ox) tl
      rw [← hstep] at hfin
      exact sx_nil ⟨sub_upd (((hs₆.trans hs₇).trans hs₈).trans hs₉) minus_self, _, hm6', pl_upd hoP₂, hfin⟩
    · rintro g₆ m₆ cm₆ hs₆ ⟨pvs', hm6, hP6, hS6⟩
      rw [List.take_of_length_le (by omega)] at hS6
      refine sx_cons (sx_return nm (ev_local hm6 ⟨_, rfl, fun h' tk hh => ?_⟩))
      refine hQ P pvs' h' tk (fun b o hb e => ?_) (hP6.is hh) (by rw [hpage]; exact hS6) ⟨pT, hh _ _ (hs₆ _ _ (by rw [minus_ne hP97.symm]; exact hpT4))⟩
      have e' : gs b = some o := by rw [hgs]; exact e
      have hbP : b ≠ P := by rintro rfl; rw [hgP] at e'; cases e'
      exact hh b o (hs₆ b o (by rw [minus_ne hbP]; exact hgs4 b o hb e'))
end
end Mine
end

section
open PySem PySem.Calls PyProof.Rows PySem.W
namespace Mine

inductive NatsAre : List Value → List Nat → Prop
  | nil : NatsAre [] []
  | cons (x : Nat) (t : Tok) {vs xs} : NatsAre vs xs → NatsAre (.int (x : Int) t :: vs) (x :: xs)
theorem na_get {vs : List Value} {xs : List Nat} (h : NatsAre vs xs) : ∀ {i : Nat} {v : Value}, vs[i]? = some v → ∃ (x : Nat) (t : Tok), xs[i]? = some x ∧ v = .int (x : Int) t := by
  induction h with
  | nil => intro i v e; simp at e
  | cons x t h ih =>
    intro i v e
    cases i with
    | zero => simp at e; exact ⟨x, t, by simp, e.symm⟩
    | succ i => simpa using ih (by simpa using e)
theorem na_snoc {vs : List Value} {xs : List Nat} (h : NatsAre vs xs) (x : Nat) (t : Tok) : NatsAre (vs ++ [.int (x : Int) t]) (xs ++ [x]) := by
  induction h with
  | nil => exact .cons x t .nil
  | cons z u h ih => exact .cons z u ih
theorem na_append {vs ws : List Value} {xs ys : List Nat} (h : NatsAre vs xs) (h' : NatsAre ws ys) : NatsAre (vs ++ ws) (xs ++ ys) := by
  induction h with
  | nil => exact h'
  | cons z u h ih => exact .cons z u ih
theorem na_length {vs : List Value} {xs : List Nat} (h : NatsAre vs xs) : vs.length = xs.length := by
  induction h with
  | nil => rfl
  | cons z u h ih => simp [ih]
theorem na_ints {vs : List Value} {xs : List Nat} (h : NatsAre vs xs) : IntsAre vs (xs.map fun x : Nat => (x : Int)) := by
  induction h with
  | nil => exact .nil
  | cons z u h ih => exact .cons _ u ih

theorem xor_int_nat : ∀ a < 64, ∀ b < 64, Builtin.bitXor ((a : Nat) : Int) ((b : Nat) : Int) = ((a ^^^ b : Nat) : Int) := by decide +kernel
def lineD (m : Nat) : Str := (wordsB (m : Int)).foldl (fun a b => a ++ Str.ofString " " ++ decS b) (Str.ofString "#")
theorem line_same : ∀ m < 64, lineD m = lineM m := by decide +kernel

section
variable {prog : Program} {w : World} {A : Around} {env : Env} {g : GM} {m cm : Loc} {mb : Loc}

theorem do_le_int {a b : Int} {t u : Tok} {R : Value → GM → Prop} (h : R (.bool (decide (a ≤ b))) g) : Do prog w A env g m cm (compareOp .LtE (.int a t) (.int b u)) R := fun _ rd => PyProof.Rows.le_int ⟨g, Ext.refl rd.keep, h⟩
theorem do_min {l : Addr} {vs : List Value} {xs : List Nat} {R : Value → GM → Prop} (hh : A.handled = none) (hl : Lst g l vs) (hi : NatsAre vs xs) (hne : 0 < xs.length)
    (h : ∀ (M : Nat) t, M ∈ xs → (∀ a ∈ xs, M ≤ a) → R (.int (M : Int) t) g) : Do prog w A env g m cm (call (.builtin "min") [.ref l]) R := fun s rd => by
  have hi' := na_ints hi
  obtain ⟨ys, e⟩ := hi'.allInts.items
  have hns : (xs.map fun x : Nat => (x : Int)) = ys.toList.map (·.1) := by
    rw [← hi'.numsOf, ← nums_intItems, ← e]
  have hsz : 0 < ys.size := by
    have h3 : xs.length = ys.size := by simpa using congrArg List.length hns
    rw [← h3]; exact hne
  have hl' := hl.is rd.keep
  rw [e] at hl'
  refine min_intList hh hl' hsz fun v h' tk hv hk => ?_
  obtain ⟨t, rfl⟩ := intItems_at hv
  obtain ⟨h1, h2⟩ := argBest_lt (numAt ys) (ys.size - 1)
  have hmem : numAt ys (argBest (fun i j => decide (numAt ys i < numAt ys j)) (ys.size - 1)) ∈ (xs.map fun x : Nat => (x : Int)) := by
    rw [hns, numAt_eq]; exact getD_mem (by rw [List.length_map, Array.length_toList]; omega)
  obtain ⟨M, hM, eM⟩ := List.mem_map.mp hmem
  rw [← eM]
  refine ⟨g, Ext.heap rd.keep hk, h M t hM fun a ha => ?_⟩
  have ha' : (a : Int) ∈ (xs.map fun x : Nat => (x : Int)) := List.mem_map.mpr ⟨a, ha, rfl⟩
  rw [hns] at ha'
  obtain ⟨j, hj, ej⟩ := mem_getD ha'
  rw [List.length_map, Array.length_toList] at hj
  have := h2 j (by omega)
  rw [← numAt_eq] at ej
  rw [ej, ← eM] at this
  omega
theorem is_chain2 {l r₁ r₂ : Expr} {op₁ op₂ : CmpOp} {pos : Pos} {whole : Sem Value} {R : Bool → GM → Prop}
    (h : Do prog w A env g m cm (eval l env) (fun a g₁ => Do prog w A env g₁ m cm (eval r₁ env) (fun b g₂ => Do prog w A env g₂ m cm (compareOp op₁ a b) (fun c g₃ => Do prog w A env g₃ m cm (truthy c) (fun t g₄ =>
      if t = true then Do prog w A env g₄ m cm (eval r₂ env) (fun d g₅ => Do prog w A env g₅ m cm (compareOp op₂ b d) (fun e g₆ => Do prog w A env g₆ m cm (truthy e) R)) else R false g₄)))))
    (hm : lastMarks (op₁ :: op₂ :: []) (r₁ :: r₂ :: []) = false := by with_unfolding_all rfl) :
    Do prog w A env g m cm (isTrue (.Compare l [op₁, op₂] [r₁, r₂] pos) env whole) R := fun s rd => by
  refine isTrue_chain (ops := []) (rs := []) (wpAny_mono (h s rd) (fun a s₁ ⟨g₁, e₁, h₁⟩ => ?_) fun _ _ x => x) hm
  refine test_link (wpAny_mono (h₁ s₁ (rd.ext e₁)) (fun b s₂ ⟨g₂, e₂, h₂⟩ => ?_) fun _ _ x => x)
  have r2 := (rd.ext e₁).ext e₂
  refine wpAny_mono (h₂ s₂ r2) (fun c s₃ ⟨g₃, e₃, h₃⟩ => ?_) fun _ _ x => x
  refine wpAny_mono (h₃ s₃ (r2.ext e₃)) (fun t s₄ ⟨g₄, e₄, h₄⟩ => ?_) fun _ _ x => x
  have r4 := (r2.ext e₃).ext e₄
  have e14 := ((e₁.trans e₂).trans e₃).trans e₄
  cases t with
  | false => exact ⟨g₄, e14, h₄⟩
  | true =>
    simp only [if_true] at h₄ ⊢
    refine test_last (wpAny_mono (h₄ s₄ r4) (fun d s₅ ⟨g₅, e₅, h₅⟩ => ?_) fun _ _ x => x)
    refine wpAny_mono (h₅ s₅ (r4.ext e₅)) (fun e s₆ ⟨g₆, e₆, h₆⟩ => ?_) fun _ _ x => x
    refine wpAny_mono (h₆ s₆ ((r4.ext e₅).ext e₆)) (fun v s₇ ⟨g₇, e₇, h₇⟩ => ⟨g₇, ((e14.trans e₅).trans e₆).trans e₇, h₇⟩) fun _ _ x => x
end
end Mine
end

section
open PySem PySem.Calls PyProof.Rows PySem.W
namespace Mine
section
variable {prog : Program} {w : World} {A : Around} {env : Env} {g : GM} {m cm : Loc} {mb : Loc}

theorem pow_two_int (k : Nat) : (2 : Int) ^ (((k : Nat) : Int).toNat) = ((2 ^ k : Nat) : Int) := by simp

theorem run_rests : ∀ (ms : List Nat) (st : List Nat × List Nat), Good st.1 → (∀ n ∈ ms, n < 64) → (∀ x ∈ st.2, x < 64) → ∀ x ∈ (ms.foldl stepM st).2, x < 64
  | [], st, _, _, h => h
  | n :: ms, st, hg, hm, h => by
    rw [List.foldl_cons]
    refine run_rests ms _ (good_next hg (hm n List.mem_cons_self)) (fun k hk => hm k (List.mem_cons_of_mem _ hk)) fun x hx => ?_
    rcases List.mem_append.mp hx with hx | hx
    · exact h x hx
    · rw [List.mem_singleton.mp hx]; exact foldR_lt _ _ hg.1 (hm n List.mem_cons_self)
theorem page_lt {ms : List Nat} (h : ∀ n ∈ ms, n < 64) : ∀ x ∈ pageM ms, x < 64 := fun x hx => by
  have hg := runM_good ms h
  rcases List.mem_append.mp hx with hx | hx
  · exact run_rests ms ([], []) good_nil h (fun y hy => by cases hy) x hx
  · exact (hg.1 x ((mem_byTop hg).mp hx)).2
def lineUp (ws : List (Array UInt8)) : Str := ws.foldl (fun a b => a ++ Str.ofString " " ++ decS b) (Str.ofString "#")
theorem lineUp_snoc (ws : List (Array UInt8)) (b : Array UInt8) : lineUp (ws ++ [b]) = lineUp ws ++ Str.ofString " " ++ decS b := by unfold lineUp; rw [List.foldl_append]; rfl
theorem lineUp_len : ∀ (ws : List (Array UInt8)), (∀ b ∈ ws, b ∈ flagsB) → (lineUp ws).length ≤ 1 + 21 * ws.length := by
  have key : ∀ (ws : List (Array UInt8)) (a : Str), (∀ b ∈ ws, b ∈ flagsB) → (ws.foldl (fun a b => a ++ Str.ofString " " ++ decS b) a).length ≤ a.length + 21 * ws.length := by
    intro ws
    induction ws with
    | nil => intro a _; simp
    | cons b ws ih =>
      intro a hb
      rw [List.foldl_cons]
      have h1 := ih (a ++ Str.ofString " " ++ decS b) fun x hx => hb x (List.mem_cons_of_mem _ hx)
      have h2 : ∀ p ∈ flagsB, (decS p).length ≤ 20 := by decide +kernel
      have h3 := h2 b (hb b List.mem_cons_self)
      have h4 : (Str.ofString " ").length = 1 := by decide
      rw [len_cat, len_cat, h4] at h1
      rw [List.length_cons]
      omega
  intro ws h
  have := key ws (Str.ofString "#") h
  have h0 : (Str.ofString "#").length = 1 := by decide
  unfold lineUp
  omega

/-- the numbers' two lists between the turns -/
def DuSt (gs g : GM) (m : Loc) (kept rests : List Nat) : Prop := ∃ S sums svs Lt lvs, m "sums" = some (.ref S) ∧ Pl g S svs ∧ NatsAre svs sums ∧ SumsOk kept sums ∧ sums.length = 2 ^ kept.length ∧
  m "least" = some (.ref Lt) ∧ Pl g Lt lvs ∧ NatsAre lvs rests ∧ gs Lt = none ∧ S ≠ Lt

theorem fn_due (gl : Gl w mb g) {a : Addr} {nvs : List Value} {ns : List Nat} {R : Value → GM → Prop} {k : Nat} (rm : Rm A 4 (k + 30)) (ha : Lst g a nvs) (hn : NatsAre nvs ns) (hns : ∀ n ∈ ns, n < 1152) (hlen : ns.length ≤ 100)
    (h : ∀ D ys g', Sub g g' → g D = none → Pl g' D ys → StrsAre ys ((pageM (ns.map maskN)).map lineM) → R (.ref D) g') : Do prog w A env g m cm (call (.ref 105) [.ref a]) R := by
  have line : (100000 : Nat) + 1000 ≤ sizeLine := by rw [sizeLine_eq]; decide
  refine do_call_fn (d := 3) (u := k + 27) rm (gl.K 105 _ rfl) rfl gl.lim (gl.code (by rfl)) rfl rfl rfl rfl (by decide) ?_
  intro s L gs hgs hsub hL nm rm'
  have glS : Gl w mb gs := gl.sub hsub
  have haS := ha.sub hsub
  have hms : ∀ n ∈ ns.map maskN, n < 64 := fun n hn => by
    obtain ⟨n', _, rfl⟩ := List.mem_map.mp hn
    exact mask_lt n'
  have hnl := na_length hn
  refine sx_cons (sx_assign nm rfl (ev_list (do_args_cons (ev_const_int fun t0 => do_args_nil (do_newList (by simp; omega) fun S oS hS hoS => ⟨_, _, .loc rfl, ?_⟩)))))
  refine sx_cons (sx_assign nm rfl (ev_list (do_args_nil (do_newList (Nat.zero_le _) fun Lt oL hLt hoL => ⟨_, _, .loc rfl, ?_⟩))))
  have hSL : S ≠ Lt := by rintro rfl; rw [upd_self] at hLt; cases hLt
  have gsL : gs Lt = none := by
    cases e : gs Lt with
    | none => rfl
    | some o' => have := upd_sub (o := oS) hS Lt o' e; rw [hLt] at this; cases this
  have hs2 : Sub gs (upd (upd gs S oS) Lt oL) := (upd_sub hS).trans (upd_sub hLt)
  refine sx_cons (sx_for nm rfl (ev_local rfl ?_))
  refine ⟨gs, nvs.length, _, hs2, src_list rm'.h haS, fun i g m cm => DuSt gs g m (runM ((ns.map maskN).take i)).1 (runM ((ns.map maskN).take i)).2, ?_, ?_, ?_⟩
  · refine ⟨S, [0], [.int 0 t0], Lt, [], rfl, (pl_upd hoS).upd hSL, .cons 0 t0 .nil, sums_zero, rfl, rfl, pl_upd hoL, .nil, gsL, hSL⟩
  · rintro i v g₁ m₁ cm₁ own' hi hv hs ⟨S, sums, svs, Lt, lvs, hmS, hPS, hNS, hSO, hSlen, hmL, hPL, hNL, hgL, hne⟩
    obtain ⟨n, tn, hni', rfl⟩ := na_get hn hv
    have hn1152 := hns n (List.mem_of_getElem? hni')
    have hni : (ns.map maskN)[i]? = some (maskN n) := by rw [List.getElem?_map, hni']; rfl
    have hilt : i < ns.length := by rw [← hnl]; exact hi
    have hrun : runM ((ns.map maskN).take (i + 1)) = stepM (runM ((ns.map maskN).take i)) (maskN n) := by
      rw [List.take_add_one, hni]; exact runM_snoc _ _
    have hgood : Good (runM ((ns.map maskN).take i)).1 := runM_good _ fun x hx => hms x (List.mem_of_mem_take hx)
    have hlines : (runM ((ns.map maskN).take i)).2.length ≤ 100 := by
      have : ∀ (l : List Nat) (st : List Nat × List Nat), (l.foldl stepM st).2.length = st.2.length + l.length := by
        intro l
        induction l with
        | nil => intro st; simp
        | cons x l ih => intro st; rw [List.foldl_cons, ih]; simp [stepM]; omega
      have h1 := this ((ns.map maskN).take i) ([], [])
      have h2 : ((ns.map maskN).take i).length ≤ (ns.map maskN).length := List.length_take_le' _ _
      rw [List.length_map] at h2
      show (runM _).2.length ≤ 100
      unfold runM
      rw [h1]; simp only [List.length_nil]; omega
    generalize hst : runM ((ns.map maskN).take i) = st at hgood hlines hSO hSlen hNL hrun
    obtain ⟨kept, rests⟩ := st
    dsimp only at hgood hlines hSO hSlen hNL
    have gl₁ := glS.sub hs
    have hk6 := good_len hgood
    have hsl : sums.length ≤ 64 := by
      rw [hSlen]
      have : 2 ^ kept.length ≤ 2 ^ 6 := Nat.pow_le_pow_right (by decide) hk6
      exact this
    have hvl : svs.length ≤ 64 := by rw [na_length hNS]; exact hsl
    refine ⟨_, _, .loc rfl, ?_⟩
    have hmS1 : setL m₁ "x" (.int (n : Int) tn) "sums" = some (.ref S) := by rw [setL_ne (by decide)]; exact hmS
    have hmL1 : setL m₁ "x" (.int (n : Int) tn) "least" = some (.ref Lt) := by rw [setL_ne (by decide)]; exact hmL
    have hmX : setL m₁ "x" (.int (n : Int) tn) "x" = some (.int (n : Int) tn) := setL_self
    generalize setL m₁ "x" (.int (n : Int) tn) = m₂ at hmS1 hmL1 hmX
    -- n = x % 64 if x < 768 else 0
    have hn64 := mask_lt n
    refine sx_cons (sx_assign nm rfl (Do.mono (R := fun v g' => g' = g₁ ∧ ∃ t, v = Value.int (maskN n : Int) t) ?_ fun v g' _ ⟨e, tm, hv⟩ => ?_))
    · refine ev_ifexp (is_cmp (ev_local hmX (ev_const_int fun t1 => do_lt_int (do_truthy_bool ?_))))
      by_cases h768 : (n : Int) < 768
      · rw [decide_eq_true h768, if_pos rfl]
        refine ev_bin (ev_local hmX (ev_const_int fun t2 => do_mod_int (by decide) fun t3 => ⟨rfl, t3, ?_⟩))
        have e : ((n : Int).fmod 64) = (maskN n : Int) := by
          unfold maskN
          rw [if_pos (by omega), Int.fmod_eq_emod_of_nonneg _ (by omega)]; norm_cast
        rw [e]
      · rw [decide_eq_false h768, if_neg Bool.false_ne_true]
        refine ev_const_int fun t3 => ⟨rfl, t3, ?_⟩
        have e : ((maskN n : Nat) : Int) = 0 := by unfold maskN; rw [if_neg (by omega)]; rfl
        rw [e]
    subst e; subst hv
    refine ⟨_, _, .cell _ rfl rfl, ?_⟩
    have hcn : setL cm₁ "n" (.int (maskN n : Int) tm) "n" = some (.int (maskN n : Int) tm) := setL_self
    generalize setL cm₁ "n" (.int (maskN n : Int) tm) = cm₂ at hcn
    have hn64 := mask_lt n
    have sumlt : ∀ x ∈ sums, x < 64 := fun x hx => ((hSO x).mp hx).1
    -- rest = min([n ^ one for one in sums])
    refine sx_cons (sx_assign nm rfl (ev_callb (id := "min") (ev_builtin gl₁.g (mg_min w) gl₁.b (by rw [gl₁.hb _ (by decide)]; exact boot_min) rfl) fun g₂ hs₂ => ?_))
    refine do_args_cons (ev_comp rfl (by repeat' first | exact True.intro | refine ⟨rfl, ?_⟩) (by decide) rfl (by decide) rfl (ev_local hmS1 ?_))
    refine ⟨g₂, svs.length, _, Sub.refl _, src_list rm'.h (hPS.sub hs₂).lst, by omega, fun j zs g' => NatsAre zs ((sums.take j).map fun s => maskN n ^^^ s), .nil, ?_, ?_⟩
    · intro C j v zs g' m' hj hv hs' hm hly hI
      obtain ⟨x, tx, hx, rfl⟩ := na_get hNS hv
      have hstep : (sums.take (j + 1)).map (fun s => maskN n ^^^ s) = (sums.take j).map (fun s => maskN n ^^^ s) ++ [maskN n ^^^ x] := by rw [List.take_add_one, hx]; simp
      refine do_tests_nil ?_
      show if true = true then _ else _
      rw [if_pos rfl]
      refine ev_bin (ev_cell hcn (ev_local hm (do_xor_int fun t4 => ?_)))
      show NatsAre _ ((sums.take (j + 1)).map fun s => maskN n ^^^ s)
      rw [hstep, xor_int_nat _ hn64 _ (sumlt x (List.mem_of_getElem? hx))]
      exact na_snoc hI _ t4
    intro D oD zs g₃ hs₃ hD hD' hLD hlz hI
    rw [List.take_of_length_le (by rw [← na_length hNS]; exact Nat.le_refl _)] at hI
    have hne0 : 0 < (sums.map fun s => maskN n ^^^ s).length := by
      rw [List.length_map, hSlen]; exact Nat.two_pow_pos _
    obtain ⟨⟨s0, hs0m, hs0e⟩, hmin⟩ := least_rest hgood hSO hn64
    refine do_args_nil (do_min rm'.h (pl_upd hLD).lst hI hne0 fun M tM hM1 hM2 => ?_)
    have hMr : M = foldR kept (maskN n) := by
      obtain ⟨s1, h1, rfl⟩ := List.mem_map.mp hM1
      refine Nat.le_antisymm ?_ (hmin s1 h1)
      rw [← hs0e]
      exact hM2 _ (List.mem_map.mpr ⟨s0, hs0m, rfl⟩)
    subst hMr
    refine ⟨_, _, .loc rfl, ?_⟩
    have hs13 : Sub g' (upd g₃ D oD) := (hs₂.trans hs₃).trans (upd_sub hD')
    have hmR : setL m₂ "rest" (.int (foldR kept (maskN n) : Int) tM) "rest" = some (.int (foldR kept (maskN n) : Int) tM) := setL_self
    have hmS3 : setL m₂ "rest" (.int (foldR kept (maskN n) : Int) tM) "sums" = some (.ref S) := by rw [setL_ne (by decide)]; exact hmS1
    have hmL3 : setL m₂ "rest" (.int (foldR kept (maskN n) : Int) tM) "least" = some (.ref Lt) := by rw [setL_ne (by decide)]; exact hmL1
    generalize setL m₂ "rest" (.int (foldR kept (maskN n) : Int) tM) = m₃ at hmR hmS3 hmL3
    have hPS3 := hPS.sub hs13
    have hPL3 := hPL.sub hs13
    have hs3 := hs.trans hs13
    generalize upd g₃ D oD = g₄ at hs13 hPS3 hPL3 hs3
    have h0s : s.heap.get? Lt = none := by rw [← hgs]; exact hgL
    have hlvl : lvs.length ≤ 100 := by rw [na_length hNL]; exact hlines
    -- least.append(rest)
    refine sx_cons (sx_appendG nm (ev_local hmL3 rfl) hPL3 h0s (by omega) fun g₅ hs₅ => ev_local hmR fun o₅ ho₅ => ?_)
    have hs5 : Sub gs (upd g₅ Lt o₅) := sub_upd (hs3.trans hs₅) hgL
    have hPS5 : Pl (upd g₅ Lt o₅) S svs := (hPS3.sub hs₅).upd hne
    have hPL5 : Pl (upd g₅ Lt o₅) Lt (lvs ++ [.int (foldR kept (maskN n) : Int) tM]) := pl_upd ho₅
    have hNL5 := na_snoc hNL (foldR kept (maskN n)) tM
    generalize upd g₅ Lt o₅ = g₆ at hs5 hPS5 hPL5
    have gl₆ := glS.sub hs5
    -- if rest != 0
    refine sx_cons (sx_if nm (is_cmp (ev_local hmR (ev_const_int fun t5 => do_ne_int (do_truthy_bool ?_)))))
    by_cases hr0 : foldR kept (maskN n) = 0
    · have hb : (((foldR kept (maskN n) : Nat) : Int) != 0) = false := by rw [hr0]; rfl
      rw [hb, if_neg Bool.false_ne_true]
      refine sx_nil (sx_nil ⟨hs5, ?_⟩)
      show DuSt gs _ _ (runM ((ns.map maskN).take (i + 1))).1 (runM ((ns.map maskN).take (i + 1))).2
      rw [hrun]
      unfold stepM nextK
      dsimp only
      rw [if_pos hr0]
      exact ⟨S, sums, svs, Lt, _, hmS3, hPS5, hNS, hSO, hSlen, hmL3, hPL5, hNL5, hgL, hne⟩
    · have hb : (((foldR kept (maskN n) : Nat) : Int) != 0) = true := by rw [bne_iff_ne]; omega
      rw [hb, if_pos rfl]
      -- sums = sums + [...]
      refine sx_cons (sx_assign nm rfl (ev_bin (ev_local hmS3 ?_)))
      refine ev_comp rfl (by repeat' first | exact True.intro | refine ⟨rfl, ?_⟩) (by decide) rfl (by decide) rfl (ev_local hmS3 ?_)
      refine ⟨g₆, svs.length, _, Sub.refl _, src_list rm'.h hPS5.lst, by omega, fun j zs g' => NatsAre zs ((sums.take j).map fun s => maskN n ^^^ s), .nil, ?_, ?_⟩
      · intro C j v zs g' m' hj hv hs' hm hly hI
        obtain ⟨x, tx, hx, rfl⟩ := na_get hNS hv
        have hstep : (sums.take (j + 1)).map (fun s => maskN n ^^^ s) = (sums.take j).map (fun s => maskN n ^^^ s) ++ [maskN n ^^^ x] := by rw [List.take_add_one, hx]; simp
        refine do_tests_nil ?_
        show if true = true then _ else _
        rw [if_pos rfl]
        refine ev_bin (ev_cell hcn (ev_local hm (do_xor_int fun t4 => ?_)))
        show NatsAre _ ((sums.take (j + 1)).map fun s => maskN n ^^^ s)
        rw [hstep, xor_int_nat _ hn64 _ (sumlt x (List.mem_of_getElem? hx))]
        exact na_snoc hI _ t4
      intro D2 oD2 zs2 g₇ hs₇ hD2 hD2' hLD2 hlz2 hI2
      rw [List.take_of_length_le (by rw [← na_length hNS]; exact Nat.le_refl _)] at hI2
      have hs67 : Sub g₆ (upd g₇ D2 oD2) := hs₇.trans (upd_sub hD2')
      refine do_add_list (hPS5.sub hs67) (pl_upd hLD2) (by omega) fun S2 oS2 hS2 hoS2 => ⟨_, _, .loc rfl, ?_⟩
      have hmS9 : setL m₃ "sums" (.ref S2) "sums" = some (.ref S2) := setL_self
      have hmL9 : setL m₃ "sums" (.ref S2) "least" = some (.ref Lt) := by rw [setL_ne (by decide)]; exact hmL3
      have hPL9 := (hPL5.sub hs67).sub (upd_sub (o := oS2) hS2)
      have hne2 : S2 ≠ Lt := (ne_fresh (hPL5.sub hs67).known hS2).symm
      refine sx_nil (sx_nil ⟨(hs5.trans hs67).trans (upd_sub hS2), ?_⟩)
      show DuSt gs _ _ (runM ((ns.map maskN).take (i + 1))).1 (runM ((ns.map maskN).take (i + 1))).2
      rw [hrun]
      have hso := sums_next hgood hSO hn64 hr0
      unfold stepM
      dsimp only
      refine ⟨S2, _, _, Lt, _, hmS9, pl_upd hoS2, na_append hNS hI2, hso, ?_, hmL9, hPL9, hNL5, hgL, hne2⟩
      unfold nextK
      rw [if_neg hr0, List.length_append, List.length_map, List.length_append, List.length_map, hSlen]
      simp [Nat.pow_succ]; omega
  · rintro g₁ m₁ cm₁ hs ⟨S, sums, svs, Lt, lvs, hmS, hPS, hNS, hSO, hSlen, hmL, hPL, hNL, hgL, hne⟩
    have hall : (ns.map maskN).take nvs.length = ns.map maskN := List.take_of_length_le (by rw [List.length_map, hnl]; exact Nat.le_refl _)
    rw [hall] at hSO hSlen hNL
    have hgood : Good (runM (ns.map maskN)).1 := runM_good _ hms
    have hlines : (runM (ns.map maskN)).2.length ≤ 100 := by
      have : ∀ (l : List Nat) (st : List Nat × List Nat), (l.foldl stepM st).2.length = st.2.length + l.length := by
        intro l
        induction l with
        | nil => intro st; simp
        | cons x l ih => intro st; rw [List.foldl_cons, ih]; simp [stepM]; omega
      show (runM _).2.length ≤ 100
      unfold runM
      rw [this]; simp only [List.length_nil, List.length_map]; omega
    have hpage : pageM (ns.map maskN) = (runM (ns.map maskN)).2 ++ byTop (runM (ns.map maskN)).1 := rfl
    have hrests := page_lt hms
    generalize runM (ns.map maskN) = st at hSO hSlen hNL hgood hlines hpage
    obtain ⟨kept, rests⟩ := st
    dsimp only at hSO hSlen hNL hgood hlines hpage
    have gl₁ := glS.sub hs
    have hk6 := good_len hgood
    have hsl : sums.length ≤ 64 := by
      rw [hSlen]
      have : 2 ^ kept.length ≤ 2 ^ 6 := Nat.pow_le_pow_right (by decide) hk6
      exact this
    have hvl : svs.length ≤ 64 := by rw [na_length hNS]; exact hsl
    have sumlt : ∀ x ∈ sums, x < 64 := fun x hx => ((hSO x).mp hx).1
    have h0s : s.heap.get? Lt = none := by rw [← hgs]; exact hgL
    have hbt6 : (byTop kept).length ≤ 6 := by rw [(byTop_perm hgood).length_eq]; exact hk6
    -- for k in range(6)
    refine sx_cons (sx_for nm rfl ?_)
    refine ev_callt (T := "range") (ev_builtin gl₁.g (mg_range w) gl₁.b (by rw [gl₁.hb _ (by decide)]; exact boot_range) rfl) fun g₂ hs₂ => ?_
    refine do_args_cons (ev_const_int fun tr => do_args_nil (do_range1 (n := 6) fun Rg oR hRg hoR => ?_))
    have hs12 : Sub g₁ (upd g₂ Rg oR) := hs₂.trans (upd_sub hRg)
    have hRL : Rg ≠ Lt := (ne_fresh (hPL.sub hs₂).known hRg).symm
    have gmin : Sub gs (minus (upd g₂ Rg oR) Lt) := fun b o e => by
      have hb : b ≠ Lt := by rintro rfl; rw [hgL] at e; cases e
      rw [minus_ne hb]; exact hs12 b o (hs b o e)
    have hRm : minus (upd g₂ Rg oR) Lt Rg = some oR := by rw [minus_ne hRL, upd_self]
    have hSm : Pl (minus (upd g₂ Rg oR) Lt) S svs := (hPS.sub hs12).minus hne
    refine ⟨minus (upd g₂ Rg oR) Lt, 6, _, minus_sub, src_range0 rm'.h hRm hoR (by decide) (by decide), fun i g m cm => ∃ lvs', m "sums" = some (.ref S) ∧ m "least" = some (.ref Lt) ∧ Pl g Lt lvs' ∧ NatsAre lvs' (rests ++ (List.range i).flatMap (atTop kept)),
      ⟨lvs, hmS, hmL, hPL.sub hs12, by simpa using hNL⟩, ?_, ?_⟩
    · rintro i v g₃ m₃ cm₃ own₃ hi ⟨tv, rfl⟩ hs₃ ⟨lvs', hmS3, hmL3, hPL3, hNL3⟩
      have hi6 : i < 6 := hi
      have gl₃ := glS.sub (gmin.trans hs₃)
      have hPS3 := hSm.sub hs₃
      have hstepR : (List.range (i + 1)).flatMap (atTop kept) = (List.range i).flatMap (atTop kept) ++ atTop kept i := by rw [List.range_succ, List.flatMap_append]; simp
      have hlv : lvs'.length ≤ 200 := by
        rw [na_length hNL3, List.length_append]
        have h1 : ((List.range i).flatMap (atTop kept)).length ≤ (byTop kept).length := by
          unfold byTop
          have e : List.range 6 = List.range i ++ (List.range (6 - i)).map (i + ·) := by
            have := List.range_add (n := i) (m := 6 - i)
            rw [show i + (6 - i) = 6 from by omega] at this
            exact this
          rw [e, List.flatMap_append, List.length_append]
          exact Nat.le_add_right _ _
        omega
      refine ⟨_, _, .cell _ rfl rfl, ?_⟩
      have hck : setL cm₃ "k" (.int (i : Int) tv) "k" = some (.int (i : Int) tv) := setL_self
      generalize setL cm₃ "k" (.int (i : Int) tv) = cm₄ at hck
      refine sx_cons (sx_assign_comp nm rfl rfl rfl (by repeat' first | exact True.intro | refine ⟨rfl, ?_⟩) (by decide) rfl (by decide) rfl (ev_local hmS3 ?_))
      refine ⟨g₃, svs.length, _, Sub.refl _, src_list rm'.h hPS3.lst, by omega, fun j zs g' => NatsAre zs (likeK (sums.take j) i), .nil, ?_, ?_⟩
      · intro C j v zs g' m' hj hv hs' hm hly hI
        obtain ⟨x, tx, hx, rfl⟩ := na_get hNS hv
        have hstep : likeK (sums.take (j + 1)) i = likeK (sums.take j) i ++ (if (decide (2 ^ i ≤ x) && decide (x < 2 ^ (i + 1))) = true then [x] else []) := by
          unfold likeK
          rw [List.take_add_one, hx, List.filter_append]
          congr 1
          show List.filter _ [x] = _
          rw [List.filter_cons, List.filter_nil]
        have hp1 : ((i : Nat) : Int) + 1 = ((i + 1 : Nat) : Int) := by omega
        refine do_tests_one (is_chain2 (ev_bin (ev_const_int fun t1 => ev_cell hck (do_pow_int (by omega) (by omega) (by decide) fun t2 => ?_))))
        rw [pow_two_int]
        refine ev_local hm (do_le_int (do_truthy_bool ?_))
        by_cases c1 : 2 ^ i ≤ x
        · have c1' : ((2 ^ i : Nat) : Int) ≤ (x : Int) := by exact_mod_cast c1
          rw [decide_eq_true c1', if_pos rfl]
          refine ev_bin (ev_const_int fun t3 => ev_bin (ev_cell hck (ev_const_int fun t4 => do_add_int fun t5 => do_pow_int (by omega) (by omega) (by decide) fun t6 => ?_)))
          rw [hp1, pow_two_int]
          refine do_lt_int (do_truthy_bool ?_)
          by_cases c2 : x < 2 ^ (i + 1)
          · have c2' : (x : Int) < ((2 ^ (i + 1) : Nat) : Int) := by exact_mod_cast c2
            rw [decide_eq_true c2', if_pos rfl]
            rw [decide_eq_true c1, decide_eq_true c2, if_pos (by decide)] at hstep
            refine ev_local hm ?_
            show NatsAre _ (likeK (sums.take (j + 1)) i)
            rw [hstep]
            exact na_snoc hI x tx
          · have c2' : ¬ (x : Int) < ((2 ^ (i + 1) : Nat) : Int) := by exact_mod_cast c2
            rw [decide_eq_false c2', if_neg Bool.false_ne_true]
            rw [decide_eq_true c1, decide_eq_false c2, if_neg (by decide), List.append_nil] at hstep
            show NatsAre _ (likeK (sums.take (j + 1)) i)
            rw [hstep]; exact hI
        · have c1' : ¬ ((2 ^ i : Nat) : Int) ≤ (x : Int) := by exact_mod_cast c1
          rw [decide_eq_false c1', if_neg Bool.false_ne_true]
          rw [if_neg Bool.false_ne_true]
          rw [decide_eq_false c1, Bool.false_and, if_neg Bool.false_ne_true, List.append_nil] at hstep
          show NatsAre _ (likeK (sums.take (j + 1)) i)
          rw [hstep]; exact hI
      intro D oD zs g₄ hs₄ hD hD' hLD hlz hI
      rw [List.take_of_length_le (by rw [← na_length hNS]; exact Nat.le_refl _)] at hI
      have hmS5 : setL m₃ "like" (.ref D) "sums" = some (.ref S) := by rw [setL_ne (by decide)]; exact hmS3
      have hmL5 : setL m₃ "like" (.ref D) "least" = some (.ref Lt) := by rw [setL_ne (by decide)]; exact hmL3
      have hmD5 : setL m₃ "like" (.ref D) "like" = some (.ref D) := setL_self
      generalize setL m₃ "like" (.ref D) = m₅ at hmS5 hmL5 hmD5
      have hs34 : Sub g₃ (upd g₄ D oD) := hs₄.trans (upd_sub hD')
      have hPD := pl_upd (g := g₄) (D := D) hLD
      refine sx_cons (sx_if nm (is_cmp (ev_local hmD5 (ev_list (do_args_nil (do_newList (Nat.zero_le _) fun N oN hN hoN => ?_))))))
      have hs45 : Sub (upd g₄ D oD) (upd (upd g₄ D oD) N oN) := upd_sub hN
      refine do_ne_nil (hPD.sub hs45).lst (pl_upd hoN).lst (by have := rm'.u; omega) (do_truthy_bool ?_)
      have hPD5 := hPD.sub hs45
      have hs35 := hs34.trans hs45
      generalize upd (upd g₄ D oD) N oN = g₅ at hPD5 hs35
      have hPL5 := hPL3.sub hs35
      have gl₅ := gl₃.sub hs35
      by_cases hex : ∃ o ∈ kept, Nat.log2 o = i
      · obtain ⟨o, ho, hoi⟩ := hex
        obtain ⟨l1, l2⟩ := like_some hgood hSO ho hi6 hoi
        have hat : atTop kept i = [o] := by rw [← hoi]; exact atTop_one hgood ho
        have hz : zs.isEmpty = false := by
          cases zs with
          | nil => cases hI' : likeK sums i with
            | nil => rw [hI'] at l1; cases l1
            | cons x r => rw [hI'] at hI; cases hI
          | cons x r => rfl
        rw [hz]
        show if (!false) = true then _ else _
        rw [if_pos (by decide)]
        refine sx_cons (sx_appendG nm (ev_local hmL5 rfl) hPL5 h0s (by omega) fun g₆ hs₆ => ?_)
        have gl₆ := gl₅.sub hs₆
        refine ev_callb (id := "min") (ev_builtin gl₆.g (mg_min w) gl₆.b (by rw [gl₆.hb _ (by decide)]; exact boot_min) rfl) fun g₇ hs₇ => ?_
        refine do_args_cons (ev_local hmD5 (do_args_nil (do_min rm'.h (hPD5.sub (hs₆.trans hs₇)).lst hI (List.length_pos_of_mem l1) fun M tM hM1 hM2 oL2 hoL2 => ?_)))
        have hMo : M = o := Nat.le_antisymm (hM2 o l1) (l2 M hM1)
        subst hMo
        refine sx_nil (sx_nil ⟨sub_upd (((hs₃.trans hs35).trans hs₆).trans hs₇) minus_self, ?_⟩)
        show ∃ lvs', _
        refine ⟨_, hmS5, hmL5, pl_upd hoL2, ?_⟩
        rw [hstepR, hat, ← List.append_assoc]
        exact na_snoc hNL3 _ tM
      · have hno : ∀ o ∈ kept, Nat.log2 o ≠ i := fun o ho e => hex ⟨o, ho, e⟩
        have hlk := like_none hgood hSO hi6 hno
        rw [hlk] at hI
        have hz : zs.isEmpty = true := by cases hI; rfl
        have hat : atTop kept i = [] := atTop_none hno
        rw [hz]
        show if (!true) = true then _ else _
        rw [if_neg (by decide)]
        refine sx_nil (sx_nil ⟨hs₃.trans hs35, ?_⟩)
        show ∃ lvs', _
        refine ⟨lvs', hmS5, hmL5, hPL5, ?_⟩
        rw [hstepR, hat, List.append_nil]; exact hNL3
    · rintro g₃ m₃ cm₃ hs₃ ⟨lvs', hmS3, hmL3, hPL3, hNL3⟩
      have hfull : rests ++ (List.range 6).flatMap (atTop kept) = pageM (ns.map maskN) := by rw [hpage]; rfl
      rw [hfull] at hNL3
      have hpl : (pageM (ns.map maskN)).length ≤ 200 := by rw [hpage, List.length_append]; omega
      have hll := na_length hNL3
      have gs3 := gmin.trans hs₃
      generalize pageM (ns.map maskN) = page at hrests hNL3 hpl hll h
      refine sx_cons (sx_assign nm rfl (ev_list (do_args_nil (do_newList (Nat.zero_le _) fun Ln oN hN hoN => ⟨_, _, .loc rfl, ?_⟩))))
      have hgN : gs Ln = none := by
        cases e : gs Ln with
        | none => rfl
        | some o' => have := gs3 Ln o' e; rw [hN] at this; cases this
      have h0n : s.heap.get? Ln = none := by rw [← hgs]; exact hgN
      have hLN : Lt ≠ Ln := ne_fresh hPL3.known hN
      have hmL4 : setL m₃ "lines" (.ref Ln) "least" = some (.ref Lt) := by rw [setL_ne (by decide)]; exact hmL3
      have hmN4 : setL m₃ "lines" (.ref Ln) "lines" = some (.ref Ln) := setL_self
      have gs4 : Sub gs g₃ := gs3
      refine sx_cons (sx_for nm rfl (ev_local hmL4 ?_))
      refine ⟨g₃, lvs'.length, _, upd_sub hN, src_list rm'.h hPL3.lst, fun i g m cm => ∃ vs, m "lines" = some (.ref Ln) ∧ Pl g Ln vs ∧ StrsAre vs ((page.take i).map lineD), ⟨[], hmN4, pl_upd hoN, .nil⟩, ?_, ?_⟩
      · rintro i v g₅ m₅ cm₅ own₅ hi hv hs₅ ⟨vs, hmN5, hPN5, hSt5⟩
        obtain ⟨x, tx, hx, rfl⟩ := na_get hNL3 hv
        have hx64 := hrests x (List.mem_of_getElem? hx)
        have hvsl : vs.length ≤ 200 := by
          rw [sa_length hSt5, List.length_map]
          exact Nat.le_trans (List.length_take_le' _ _) hpl
        have hstep : (page.take (i + 1)).map lineD = (page.take i).map lineD ++ [lineD x] := by rw [List.take_add_one, hx]; simp
        have gl₅ := glS.sub (gs4.trans hs₅)
        refine ⟨_, _, .loc rfl, ?_⟩
        have hmN6 : setL m₅ "rest" (.int (x : Int) tx) "lines" = some (.ref Ln) := by rw [setL_ne (by decide)]; exact hmN5
        have hmR6 : setL m₅ "rest" (.int (x : Int) tx) "rest" = some (.int (x : Int) tx) := setL_self
        generalize setL m₅ "rest" (.int (x : Int) tx) = m₆ at hmN6 hmR6
        refine sx_cons (sx_assign nm rfl (ev_const_str fun t0 => ⟨_, _, .loc rfl, ?_⟩))
        have hmN7 : setL m₆ "line" (.str (Str.ofString "#") t0) "lines" = some (.ref Ln) := by rw [setL_ne (by decide)]; exact hmN6
        have hmR7 : setL m₆ "line" (.str (Str.ofString "#") t0) "rest" = some (.int (x : Int) tx) := by rw [setL_ne (by decide)]; exact hmR6
        have hmL7 : setL m₆ "line" (.str (Str.ofString "#") t0) "line" = some (.str (Str.ofString "#") t0) := setL_self
        generalize setL m₆ "line" (.str (Str.ofString "#") t0) = m₇ at hmN7 hmR7 hmL7
        refine sx_cons (sx_for nm rfl (ev_call (gl₅.K 69 _ rfl) rfl (ev_global gl₅.g (mg_words w) rfl) fun g₆ hs₆ => ?_))
        refine do_args_cons (ev_local hmR7 (do_args_nil (fn_words (gl₅.sub hs₆) (k := k) (rm'.less (by omega) (by omega)) fun W ws g₇ hs₇ hW hPW hBW => ?_)))
        have hw6 : (wordsB (x : Int)).length ≤ 6 := by
          exact words_len _
        have hwsub := words_sub (x : Int)
        have hlD : lineD x = lineUp (wordsB (x : Int)) := rfl
        generalize wordsB (x : Int) = wB at hBW hw6 hwsub hlD
        have hPN7 := hPN5.sub (hs₆.trans hs₇)
        refine ⟨g₇, ws.length, _, Sub.refl _, src_list rm'.h hPW.lst, fun j g m cm => ∃ t, m "line" = some (.str (lineUp (wB.take j)) t) ∧ m "lines" = some (.ref Ln), ⟨t0, hmL7, hmN7⟩, ?_, ?_⟩
        · rintro j v g₈ m₈ cm₈ own₈ hj hv hs₈ ⟨tl, hmL8, hmN8⟩
          obtain ⟨b, tb, hb, rfl⟩ := ba_get hBW hv
          have hbm := hwsub b (List.mem_of_getElem? hb)
          have hstepU : lineUp (wB.take (j + 1)) = lineUp (wB.take j) ++ Str.ofString " " ++ decS b := by
            rw [List.take_add_one, hb]; exact lineUp_snoc _ b
          have hlu := lineUp_len (wB.take j) fun y hy => hwsub y (List.mem_of_mem_take hy)
          have hlt : (wB.take j).length ≤ wB.length := List.length_take_le' _ _
          have hsp : (Str.ofString " ").length = 1 := by decide
          have hdb : (decS b).length ≤ 20 := (show ∀ p ∈ flagsB, (decS p).length ≤ 20 by decide +kernel) b hbm
          refine ⟨_, _, .loc rfl, ?_⟩
          have hmL9 : setL m₈ "word" (.bytes b tb) "line" = some (.str (lineUp (wB.take j)) tl) := by rw [setL_ne (by decide)]; exact hmL8
          have hmN9 : setL m₈ "word" (.bytes b tb) "lines" = some (.ref Ln) := by rw [setL_ne (by decide)]; exact hmN8
          refine sx_cons (sx_assign nm rfl (ev_bin (ev_bin (ev_local hmL9 (ev_const_str fun t1 => do_add_str (by omega) fun t2 => ?_)))))
          refine ev_meth1 (ev_local setL_self ⟨"bytes.decode", do_method_bytes FB.slot_bytes_decode FB.type_bytes_decode ⟨_, rfl, ?_⟩⟩)
          refine do_args_cons (ev_const_str fun t3 => do_args_nil (do_decode hbm fun t4 => do_add_str (by rw [len_cat]; omega) fun t5 => ⟨_, _, .loc rfl, sx_nil ⟨hs₈, t5, ?_, ?_⟩⟩))
          · rw [setL_self, hstepU]
          · rw [setL_ne (by decide)]; exact hmN9
        · rintro g₈ m₈ cm₈ hs₈ ⟨tl, hmL8, hmN8⟩
          rw [List.take_of_length_le (by rw [ba_length hBW]; exact Nat.le_refl _)] at hmL8
          refine sx_cons (sx_appendG nm (ev_local hmN8 rfl) (hPN7.sub hs₈) h0n (by omega) fun g₉ hs₉ => ev_local hmL8 fun o₉ ho₉ => ?_)
          have hfin := sa_snoc hSt5 (lineUp wB) tl
          rw [← hlD, ← hstep] at hfin
          exact sx_nil ⟨sub_upd ((((hs₅.trans hs₆).trans hs₇).trans hs₈).trans hs₉) hN, _, hmN8, pl_upd ho₉, by rw [← hlD] at *; exact hfin⟩
      · rintro g₅ m₅ cm₅ hs₅ ⟨vs, hmN5, hPN5, hSt5⟩
        rw [List.take_of_length_le (by omega)] at hSt5
        have hsame : page.map lineD = page.map lineM := List.map_congr_left fun x hx => line_same x (hrests x hx)
        rw [hsame] at hSt5
        obtain ⟨oN2, hoN2, hlN2⟩ := hPN5
        refine sx_cons (sx_return nm (ev_local hmN5 ⟨_, rfl, fun g'' hg hn => ?_⟩))
        refine h Ln vs g'' hg ?_ ⟨oN2, by rw [hn Ln hgN]; exact hoN2, hlN2⟩ hSt5
        cases e : g Ln with
        | none => rfl
        | some o' => have := hsub Ln o' e; rw [hgN] at this; cases this
end
end Mine
end

section
open PySem PySem.Calls PyProof.Rows PySem.W
namespace Mine
section
variable {prog : Program} {w : World} {A : Around} {s₀ : Shared} {env : Env} {g : GM} {m cm : Loc} {own : List (Addr × Obj)} {mb : Loc}

theorem ex_call {f : Expr} {e : Expr} {rest : List Expr} {pos : Pos} {R : Value → GM → Prop} {a : Addr} {o : Obj} {fd : FuncData} (nm : Named env)
    (ho : g a = some o) (hd : o.data = .func fd)
    (hf : Do prog w A env g m cm (eval f env) (fun v g₁ => v = .ref a))
    (h : ∀ g₁, Sub g g₁ → Do prog w A env g₁ m cm (spliced (backTo pos (starEach (e :: rest) env))) (fun vs g₂ => Ex prog w A s₀ env g₂ m cm own (call (.ref a) vs) R))
    (hc : eval (.Call f (e :: rest) [] pos) env = (do callWith pos (← eval f env) [] (backTo pos (starEach (e :: rest) env)) (backToKw pos (keywordEach [] env))) := by rfl)
    (he : starEach (e :: rest) env = (false, eval e env) :: starEach rest env := by rfl) :
    Ex prog w A s₀ env g m cm own (eval (.Call f (e :: rest) [] pos) env) R := fun s b =>
  Call_ (wpAny_mono (hf s b.rd) (fun v s₁ ⟨g₁, e₁, h₁⟩ => by
    subst h₁
    have b₁ := b.ext nm e₁
    refine callWith_def_at (h' := s₁.heap) (o := o) (e₁.keep a o (e₁.sub a o ho)) hd ?_ he
    exact wpAny_mono (h g₁ e₁.sub s₁ b₁.rd) (fun vs s₂ ⟨g₂, e₂, h₂⟩ => ⟨e₂.keep a o (e₂.sub a o (e₁.sub a o ho)), h₂ s₂ (b₁.ext nm e₂)⟩) fun _ _ x => x) fun _ _ x => x) hc
theorem ex_cmp {l r : Expr} {op : CmpOp} {pos : Pos} {R : Value → GM → Prop} (nm : Named env)
    (h : Ex prog w A s₀ env g m cm own (eval l env) (fun a g₁ => Do prog w A env g₁ m cm (eval r env) (fun b g₂ => Do prog w A env g₂ m cm (compareOp op a b) R)))
    (hm : behindInMarks op r = false := by with_unfolding_all rfl) :
    Ex prog w A s₀ env g m cm own (eval (.Compare l [op] [r] pos) env) R := fun s b =>
  wpAny_Compare1 (wpAny_mono (h s b) (fun _ s₁ ⟨_, b₁, h₁⟩ => wpAny_mono (h₁ s₁ b₁.rd) (fun _ s₂ ⟨_, e₂, h₂⟩ =>
    wpAny_mono (h₂ s₂ (b₁.rd.ext e₂)) (fun _ _ ⟨g₃, e₃, h₃⟩ => ⟨g₃, b₁.ext nm (e₂.trans e₃), h₃⟩) fun _ _ x => x) fun _ _ x => x) fun _ _ x => x) hm

theorem all_true (n : Nat) : ((List.range n).all fun _ => true) = true := by simp
theorem do_eq_strs {a b : Addr} {vs ws : List Value} {l : List Str} {R : Value → GM → Prop} (ha : Lst g a vs) (hb : Lst g b ws) (hv : StrsAre vs l) (hw : StrsAre ws l) (hu : A.units < cLine) (h : R (.bool true) g) :
    Do prog w A env g m cm (compareOp .Eq (.ref a) (.ref b)) R := fun s rd => by
  have l1 := sa_length hv
  have l2 := sa_length hw
  refine SeqAt.eq_listAt (e := fun _ => true) (ha.is rd.keep) (hb.is rd.keep) (by rw [List.size_toArray, List.size_toArray]; omega) hu (fun j h1 h2 => ?_) (by rw [all_true]; exact ⟨g, Ext.refl rd.keep, h⟩)
  rw [List.size_toArray] at h1 h2
  obtain ⟨x, t, hx, e1⟩ := sa_get hv (List.getElem?_eq_getElem h1)
  obtain ⟨y, u, hy, e2⟩ := sa_get hw (List.getElem?_eq_getElem h2)
  rw [hx] at hy; cases hy
  simp only [List.getElem_toArray]
  rw [e1, e2]
  have := SeqAt.EqAt.str_str (A := A.in1) (s := s) x t x u
  rwa [beq_self_eq_true] at this
theorem bytes_eq_at {A' : Around} {s : Shared} {x : Array UInt8} {t u : Tok} : SeqAt.EqAt A' s (.bytes x t) (.bytes x u) true := fun prog w E Q h => eqBool_bytes (by rw [decide_eq_true rfl]; exact h)
theorem do_ne_told {a b : Addr} {vs ws : List Value} {ns : List Nat} {R : Value → GM → Prop} (ha : Lst g a vs) (hb : Lst g b ws) (hv : ToldAt g vs ns) (hw : ToldAt g ws ns) (hu : A.units + 2 < cLine) (h : R (.bool false) g) :
    Do prog w A env g m cm (compareOp .NotEq (.ref a) (.ref b)) R := fun s rd => by
  show wpAny _ _ (richCompare .NotEq (.ref a) (.ref b)) _ _ s
  have l1 := hv.1
  have l2 := hw.1
  refine SeqAt.RcNeAt.lists (e := fun _ => true) (ha.is rd.keep) (hb.is rd.keep) (by rw [List.size_toArray, List.size_toArray]; omega) (by omega) (fun j h1 h2 => ?_) prog w _ _ (by rw [all_true]; exact ⟨g, Ext.refl rd.keep, h⟩)
  rw [List.size_toArray] at h1 h2
  obtain ⟨t1, ys1, n1, hn1, _, e1, hT1, hB1⟩ := hv.2 j _ (List.getElem?_eq_getElem h1)
  obtain ⟨t2, ys2, n2, hn2, _, e2, hT2, hB2⟩ := hw.2 j _ (List.getElem?_eq_getElem h2)
  rw [hn1] at hn2; cases hn2
  simp only [List.getElem_toArray]
  rw [e1, e2]
  by_cases ht : t1 = t2
  · rw [ht]; exact SeqAt.EqAt.same _
  · refine SeqAt.EqAt.of_refs ht ?_
    have hlen : ys1.length = ys2.length := (ba_length hB1).trans (ba_length hB2).symm
    have R1 := SeqAt.RcAt.tuples (A := A.in1) (s := s) (e := fun _ => true) (hT1.is rd.keep) (hT2.is rd.keep) (by show A.units + 1 < _; omega) (fun i i1 i2 => ?_)
    · rw [all_true, List.size_toArray, List.size_toArray, hlen, beq_self_eq_true] at R1
      exact R1
    · rw [List.size_toArray] at i1 i2
      obtain ⟨x, tx, hx, q1⟩ := ba_get hB1 (List.getElem?_eq_getElem i1)
      obtain ⟨y, ty, hy, q2⟩ := ba_get hB2 (List.getElem?_eq_getElem i2)
      rw [hx] at hy; cases hy
      simp only [List.getElem_toArray]
      rw [q1, q2]
      exact bytes_eq_at

theorem toldAt_nil : ToldAt g [] [] := ⟨rfl, fun i v e => by simp at e⟩
theorem toldAt_snoc {vs : List Value} {ns : List Nat} {n : Nat} {a : Addr} {ys : List Value} (h : ToldAt g vs ns) (hn : n < 1152) (hT : Tpl g a ys) (hB : BytesAre ys (tellB n)) : ToldAt g (vs ++ [.ref a]) (ns ++ [n]) := by
  refine ⟨by rw [List.length_append, List.length_append, h.1]; rfl, fun i v e => ?_⟩
  rcases Nat.lt_or_ge i vs.length with hi | hi
  · rw [List.getElem?_append_left hi] at e
    obtain ⟨a', ys', n', h1, h2⟩ := h.2 i v e
    exact ⟨a', ys', n', by rw [List.getElem?_append_left (by rw [← h.1]; exact hi)]; exact h1, h2⟩
  · rw [List.getElem?_append_right hi] at e
    have hi0 : i = vs.length := by
      obtain ⟨hlt, _⟩ := List.getElem?_eq_some_iff.mp e
      simp at hlt; omega
    subst hi0
    simp at e
    refine ⟨a, ys, n, ?_, hn, e.symm, hT, hB⟩
    rw [List.getElem?_append_right (by rw [h.1]; exact Nat.le_refl _), h.1]; simp
theorem Tpl.minusT {g : GM} {a P : Addr} {vs : List Value} {ps : Array Value} (h : Tpl g a vs) (hP : g P = some (tabObj ps)) : Tpl (minus g P) a vs := by
  obtain ⟨o, e, hc, r⟩ := h
  have hne : a ≠ P := by rintro rfl; rw [hP] at e; cases e; cases hc
  exact ⟨o, by rw [minus_ne hne]; exact e, hc, r⟩
theorem ToldAt.minusT {vs : List Value} {ns : List Nat} {P : Addr} {ps : Array Value} (h : ToldAt g vs ns) (hP : g P = some (tabObj ps)) : ToldAt (minus g P) vs ns :=
  ⟨h.1, fun i v e => let ⟨a, ys, n, h1, h2, h3, h4, h5⟩ := h.2 i v e; ⟨a, ys, n, h1, h2, h3, h4.minusT hP, h5⟩⟩

/-- the page, called from a def that holds only known things -/
theorem ex_page {a : Addr} {tvs : List Value} {ns : List Nat} {R : Value → GM → Prop} {k : Nat} {g0 : GM} (nm : Named env) (hs0 : ∀ b, s₀.heap.get? b = none) (rm : Rm A 6 (k + 40)) (gl : Gl w mb g0) (bi : BI w g0) (g97 : g0 97 = none) (hg0 : Sub g0 g)
    (htab : g 97 = some (tabObj #[])) (ha : Lst g a tvs) (ht : ToldAt g tvs ns) (hlen : ns.length ≤ 100) (hcells : env.cells = [])
    (h : ∀ P pvs g', (∀ b o, b ≠ 97 → g b = some o → g' b = some o) → Pl g' P pvs → StrsAre pvs ((pageM (ns.map maskN)).map lineM) → (∃ ps, g' 97 = some (tabObj ps)) → R (.ref P) g') :
    Ex prog w A s₀ env g m cm [] (call (.ref 100) [.ref a]) R := fun s b => by
  have kp := b.rd.keep
  have sub0 : Sub g0 (minus g 97) := fun b o e => by
    have hb : b ≠ 97 := by rintro rfl; rw [g97] at e; cases e
    rw [minus_ne hb]; exact hg0 b o e
  have ha97 : a ≠ 97 := ha.ne_tab htab
  refine fn_page (g := minus g 97) rm (minus_sub.trans kp) (gl.sub sub0) (bi.sub sub0) minus_self (kp _ _ htab) (ha.minus ha97) (ht.minusT htab) hlen fun P pvs h' tk hold hPl hSt htb => ?_
  obtain ⟨oL, esL, epL, hoL, hdL, _⟩ := id b.rd.ns
  have hL97 : env.locals ≠ 97 := fun e => by rw [e, kp _ _ htab] at hoL; cases hoL; cases hdL
  have hns' : h'.Ns env.locals m := by
    obtain ⟨o, es, ep, ho, r⟩ := b.rd.ns
    exact ⟨o, es, ep, hold _ _ hL97 ho, r⟩
  have hPL : P ≠ env.locals := fun e => by
    obtain ⟨o, es, ep, ho, hd, _⟩ := hns'
    obtain ⟨n, hn⟩ := hPl
    rw [e, ho] at hn; cases hn; cases hd
  have gLn : g env.locals = none := b.off _ List.mem_cons_self
  refine ⟨minus h'.get? env.locals, ⟨?_, ⟨hns', fun n c hc => ?_, minus_sub⟩, fun q hq => (by cases hq), fun b' o e => (by rw [hs0] at e; cases e), fun b' hb' => ?_, b.nodup⟩, h P pvs _ (fun b' o hb e => ?_) ?_ hSt ?_⟩
  · obtain ⟨h1, t1, rfl⟩ := b.same
    exact ⟨h', tk, rfl⟩
  · rw [hcells] at hc; cases hc
  · rw [hcells] at hb'
    simp only [List.map_nil, List.append_nil, List.mem_singleton] at hb'
    rw [hb']; exact minus_self
  · have hbL : b' ≠ env.locals := by rintro rfl; rw [gLn] at e; cases e
    rw [minus_ne hbL]; exact hold b' o hb (kp _ _ e)
  · obtain ⟨n, hn⟩ := hPl
    exact ⟨_, by rw [minus_ne hPL]; exact hn, n, rfl⟩
  · obtain ⟨ps, hps⟩ := htb
    exact ⟨ps, by rw [minus_ne hL97.symm]; exact hps⟩

theorem run_body {s : Shared} {body : List Stmt} {Q : Flow → Shared → Prop} {E : Value → Shared → Prop} (b : Bd s₀ env g m cm [] s)
    (h : Sx prog w A s₀ env g m cm [] (execs body env) (fun f g' _ _ => ∀ h' tk, Sub g' h'.get? → Q f { s₀ with heap := h', toks := tk })) : wpAny (model prog w) A (execs body env) Q E s :=
  wpAny_mono (h s b) (fun f s' ⟨g', m', cm', b', hr⟩ => by
    obtain ⟨h', tk, rfl⟩ := b'.same
    exact hr h' tk b'.rd.keep) fun _ _ x => x.elim
end
end Mine
end

section
open PySem PySem.Calls PyProof.Rows PySem.W PySem.W.X
namespace Mine

theorem bi_of {w : World} {h : Heap} {p : Program} {loose : List Str} {mean : ExcName → Option Value} {mg mb : Loc} (X : (KK w).In h) (T : Top p loose mean mg mb h) : BI w h.get? := by
  obtain ⟨bm, ob, b1, b2, b3, b4, b5, b6⟩ := T.bmain
  obtain ⟨o, es, ep, ho, hd, hk, hf⟩ := T.g
  have h3 := X 3 _ (show (KK w).lookup 3 = some _ from rfl)
  have e3 : h.get? mainGlobals = _ := h3
  rw [ho] at e3
  cases e3
  cases hd
  refine ⟨bm, ob, (hf "__builtins__").trans b1, b2, ?_, b3, b4, b5, b6⟩
  rintro rfl
  rw [ho] at b3
  cases b3
  cases b6
theorem gl_of {w : World} {h : Heap} {p : Program} {loose : List Str} {mean : ExcName → Option Value} {mg mb : Loc} (X : (KK w).In h) (T : Top p loose mean mg mb h) : Gl w mb h.get? :=
  ⟨fun a o e => X a o e, fun hh k => T.b.keeps k, T.builtins, fun hh k => T.nolimit.keeps k⟩

def scriptN (xsI : List Int) : List Nat := (xsI.take 4).map fun x => (x.fmod 1152).toNat
theorem script_lt {xsI : List Int} : ∀ n ∈ scriptN xsI ++ [37, 470, 307, 819], n < 1152 := by
  intro n hn
  rcases List.mem_append.mp hn with hn | hn
  · obtain ⟨x, _, rfl⟩ := List.mem_map.mp hn
    have := Int.fmod_lt_of_pos x (show (0 : Int) < 1152 by decide)
    have := Int.fmod_nonneg_of_pos x (show (0 : Int) < 1152 by decide)
    omega
  · simp at hn; omega
theorem ia_get {vs : List Value} {ns : List Int} (h : IntsAre vs ns) : ∀ {i : Nat} {v : Value}, vs[i]? = some v → ∃ n t, ns[i]? = some n ∧ v = .int n t := by
  induction h with
  | nil => intro i v e; simp at e
  | cons n t h ih =>
    intro i v e
    cases i with
    | zero => simp at e; exact ⟨n, t, by simp, e.symm⟩
    | succ i => simpa using ih (by simpa using e)

theorem holds : PySem.Challenge.rw_wr0001_01.Holds := Mine.hd (by
  w_strict k_go0
  all_goals try k_fold
  rename_i w s0 s1 mg mb G Y fa o pm cd doc kV ho hcd hg X V T B TE TW xsI hs hlay0 hL1 hr1 hl2 w4 w3 lp vs w0 hL ra w1x r0 hI hr hc1 hc2 hD h1 X' T' K' F' N' l0
  have h97 : (ghostOf s1.heap [(99, 97)]).get? 97 = none := (N' _ List.mem_cons_self).2.2
  have h97' : h1.get? 97 = some (tabObj #[]) := (N' _ List.mem_cons_self).1
  have gl0 := gl_of X' T'
  have bi0 := bi_of X' T'
  have hsz : (ghostOf s1.heap [(99, 97)]).objs.size = s1.heap.objs.size := hideAll_size _ _
  have hLn : (ghostOf s1.heap [(99, 97)]).get? s1.heap.objs.size = none := by rw [← hsz]; exact get_size_none _
  have hns : xsI.length ≤ 63 := by omega
  have hLst : Lst (ghostOf s1.heap [(99, 97)]).get? lp vs := lifted
  have hF := F'.keep
  generalize hgg : (ghostOf s1.heap [(99, 97)]).get? = g0 at h97 gl0 bi0 hLn hLst hF
  have hsub1 : Sub g0 (upd g0 97 (tabObj #[])) := upd_sub h97
  have keep1 : Sub (upd g0 97 (tabObj #[])) h1.get? := fun b o e => by
    by_cases hb : b = 97
    · subst hb; rw [upd_self] at e; cases e; exact h97'
    · rw [upd_ne hb] at e; exact hF b o (hgg ▸ e)
  have L97 : s1.heap.objs.size ≠ 97 := by omega
  refine run_body (s₀ := { s1 with heap := {} }) (g := upd g0 97 (tabObj #[])) (cm := fun _ => none) ⟨⟨h1, _, rfl⟩, ⟨F'.ns, fun n c hc => (by cases hc), keep1⟩, fun p hp => (by cases hp), fun b o e => (by cases e), fun b hb => ?_, ?_⟩ ?_
  · have : b = s1.heap.objs.size := List.mem_singleton.mp hb
    rw [this, upd_ne L97]; exact hLn
  · exact (List.pairwise_singleton _ _ : [s1.heap.objs.size].Pairwise _)
  have gl1 : Gl w mb (upd g0 97 (tabObj #[])) := gl0.sub hsub1
  have hLst1 := hLst.sub hsub1
  have t97 : upd g0 97 (tabObj #[]) 97 = some (tabObj #[]) := upd_self
  have L1 : upd g0 97 (tabObj #[]) s1.heap.objs.size = none := by rw [upd_ne L97]; exact hLn
  generalize hg1 : upd g0 97 (tabObj #[]) = g1 at hsub1 keep1 gl1 hLst1 t97 L1
  have line : (100000 : Nat) + 1000 ≤ sizeLine := by rw [sizeLine_eq]; decide
  have hvl : vs.length ≤ 63 := by
    have : ∀ {vs : List Value} {ns : List Int}, IntsAre vs ns → vs.length = ns.length := by
      intro vs ns h
      induction h with
      | nil => rfl
      | cons n t h ih => simp [ih]
    rw [this hI]; exact hns
  have rm : ∀ e : Env, Rm (callerA.deeper e) 8 (60 + 60) := fun e => ⟨rfl, by show callerA.depth + 1 + 8 < recursionLimit; decide, by show callerA.units + 3 + (60 + 60) < cLine; decide⟩
  have nm : ∀ sc : Scope, Named (envOf (Str.ofString "law") sc s1.heap.objs.size fa cd) := fun sc => ⟨fun c hc => by cases hc⟩
  -- numbers
  refine sx_cons (sx_assign (nm _) rfl (ev_bin ?_))
  refine ev_comp rfl (by repeat' first | exact True.intro | refine ⟨rfl, ?_⟩) (by decide) rfl (by decide) rfl ?_
  refine ev_slice (ev_local rfl (part_none (part_some (ev_const_int fun t4 => ⟨lp, vs, _, _, rfl, hLst1, by omega, .none, .int _ _, fun D oD hD hLD => ?_⟩))))
  have hpick : (slicePick vs.toArray none (some ((4 : Nat) : Int)) none).toList = vs.take 4 := by rw [slicePick_upto']
  rw [show ((4 : Int)) = ((4 : Nat) : Int) from rfl, hpick] at hLD
  refine ⟨_, (vs.take 4).length, _, Sub.refl _, src_list (rm _).h (pl_upd hLD).lst, by simp; omega, fun i ys g' => NatsAre ys ((xsI.take i).map fun x => (x.fmod 1152).toNat), .nil, ?_, ?_⟩
  · intro C i v ys g' m' hi hv hs' hm hly hIv
    have hi4 : i < 4 := by rw [List.length_take] at hi; omega
    obtain ⟨x, tx, hx, rfl⟩ := ia_get hI (show vs[i]? = some v by rw [List.getElem?_take_of_lt hi4] at hv; exact hv)
    refine do_tests_nil ?_
    show if true = true then _ else _
    rw [if_pos rfl]
    refine ev_bin (ev_local hm (ev_const_int fun t1 => do_mod_int (by decide) fun t2 => ?_))
    have h0 := Int.fmod_nonneg_of_pos x (show (0 : Int) < 1152 by decide)
    have e : x.fmod 1152 = ((x.fmod 1152).toNat : Int) := by omega
    show NatsAre _ ((xsI.take (i + 1)).map fun x => (x.fmod 1152).toNat)
    rw [List.take_add_one, hx, List.map_append]
    rw [e]
    exact na_snoc hIv _ t2
  intro Z oZ zs g2 hs2 hZ hZ' hLZ hlz hIz
  have hzs : NatsAre zs (scriptN xsI) := by
    unfold scriptN
    have : xsI.take (vs.take 4).length = xsI.take 4 := by
      have hlv : vs.length = xsI.length := by
        have : ∀ {vs : List Value} {ns : List Int}, IntsAre vs ns → vs.length = ns.length := by
          intro vs ns h
          induction h with
          | nil => rfl
          | cons n t h ih => simp [ih]
        exact this hI
      rw [List.length_take, hlv]
      exact List.take_eq_take_min.symm
    rw [← this]; exact hIz
  refine ev_list (do_args_cons (ev_const_int fun u1 => do_args_cons (ev_const_int fun u2 => do_args_cons (ev_const_int fun u3 => do_args_cons (ev_const_int fun u4 => do_args_nil ?_)))))
  refine do_newList (by simp; omega) fun W oW hW hoW => ?_
  have hlz4 : zs.length ≤ 4 := by
    refine Nat.le_trans hlz ?_
    rw [List.length_take]; omega
  refine do_add_list ((pl_upd hLZ).sub (upd_sub hW)) (pl_upd hoW) (by simp; omega) fun NN oN hN hoN => ⟨_, _, .loc rfl, ?_⟩
  have hNats : NatsAre (zs ++ [.int 37 u1, .int 470 u2, .int 307 u3, .int 819 u4]) (scriptN xsI ++ [37, 470, 307, 819]) :=
    na_append hzs (.cons 37 u1 (.cons 470 u2 (.cons 307 u3 (.cons 819 u4 .nil))))
  have hlt := @script_lt xsI
  have hlenN : (scriptN xsI ++ [37, 470, 307, 819]).length ≤ 8 := by
    rw [← na_length hNats, List.length_append]; simp; omega
  generalize scriptN xsI ++ [37, 470, 307, 819] = ns at hNats hlt hlenN
  generalize zs ++ [.int 37 u1, .int 470 u2, .int 307 u3, .int 819 u4] = nvs at hNats hoN
  have hsN : Sub g1 (upd (upd (upd g2 Z oZ) W oW) NN oN) := (((upd_sub hD).trans hs2).trans (upd_sub hZ')).trans ((upd_sub hW).trans (upd_sub hN))
  have hPN : Pl (upd (upd (upd g2 Z oZ) W oW) NN oN) NN nvs := pl_upd hoN
  generalize upd (upd (upd g2 Z oZ) W oW) NN oN = g3 at hsN hPN
  have gl3 := gl1.sub hsN
  have hnvl : nvs.length ≤ 8 := by rw [na_length hNats]; exact hlenN
  generalize hm1 : setL _ "numbers" (.ref NN) = m1
  have hmN : m1 "numbers" = some (.ref NN) := by rw [← hm1]; exact setL_self
  -- told
  refine sx_cons (sx_assign_comp (nm _) rfl rfl rfl (by repeat' first | exact True.intro | refine ⟨rfl, ?_⟩) (by decide) rfl (by decide) rfl (ev_local hmN ?_))
  refine ⟨g3, nvs.length, _, Sub.refl _, src_list (rm _).h hPN.lst, by omega, fun i ys g' => ToldAt g' ys (ns.take i), toldAt_nil, ?_, ?_⟩
  · intro C i v ys g' m' hi hv hs' hm hly hIv
    obtain ⟨x, tx, hx, rfl⟩ := na_get hNats hv
    have hx1152 := hlt x (List.mem_of_getElem? hx)
    have gl' := gl3.sub hs'
    refine do_tests_nil ?_
    show if true = true then _ else _
    rw [if_pos rfl]
    refine ev_call (gl'.K 43 _ rfl) rfl (ev_global gl'.g (mg_parse w) rfl) fun g4 hs4 => ?_
    have gl4 := gl'.sub hs4
    refine do_args_cons (ev_call (gl4.K 76 _ rfl) rfl (ev_global gl4.g (mg_answer w) rfl) fun g5 hs5 => ?_)
    refine do_args_cons (ev_local hm (do_args_nil (fn_answer (gl4.sub hs5) (k := 20) ((rm _).less (by omega) (by omega)) hx1152 fun ta g6 hs6 => ?_)))
    refine do_args_nil (fn_parse ((gl4.sub hs5).sub hs6) (k := 20) ((rm _).less (by omega) (by omega)) hx1152 fun T tys g7 hs7 hT hTp hTb => ?_)
    show ToldAt _ _ (ns.take (i + 1))
    rw [List.take_add_one, hx]
    exact toldAt_snoc (hIv.sub (((hs4.trans hs5).trans hs6).trans hs7)) hx1152 hTp hTb
  intro T1 oT1 tvs g4 hs4 hT1 hT1' hLT hlt1 hIt
  rw [List.take_of_length_le (by rw [← na_length hNats]; exact Nat.le_refl _)] at hIt
  have hs4' := hs4.trans (upd_sub (o := oT1) hT1')
  have hPT : Pl (upd g4 T1 oT1) T1 tvs := pl_upd hLT
  have hTold := hIt.sub (upd_sub (o := oT1) hT1')
  have hPN4 := hPN.sub hs4'
  have hs14 := hsN.trans hs4'
  generalize upd g4 T1 oT1 = g5 at hs4' hPT hTold hPN4 hs14
  have gl5 := gl1.sub hs14
  generalize hm2 : setL m1 "told" (.ref T1) = m2
  have hmT : m2 "told" = some (.ref T1) := by rw [← hm2]; exact setL_self
  have hmN2 : m2 "numbers" = some (.ref NN) := by rw [← hm2, setL_ne (by decide)]; exact hmN
  -- if told != [...]
  refine sx_cons (sx_if (nm _) (is_cmp (ev_local hmT (ev_comp rfl (by repeat' first | exact True.intro | refine ⟨rfl, ?_⟩) (by decide) rfl (by decide) rfl (ev_local hmN2 ?_)))))
  refine ⟨g5, nvs.length, _, Sub.refl _, src_list (rm _).h hPN4.lst, by omega, fun i ys g' => ToldAt g' ys (ns.take i), toldAt_nil, ?_, ?_⟩
  · intro C i v ys g' m' hi hv hs' hm hly hIv
    obtain ⟨x, tx, hx, rfl⟩ := na_get hNats hv
    have hx1152 := hlt x (List.mem_of_getElem? hx)
    have gl' := gl5.sub hs'
    have hstep : ns.take (i + 1) = ns.take i ++ [x] := by rw [List.take_add_one, hx]; rfl
    refine do_tests_nil ?_
    show if true = true then _ else _
    rw [if_pos rfl]
    refine ev_ifexp (is_cmp (ev_local hm (ev_const_int fun t1 => do_lt_int (do_truthy_bool ?_))))
    by_cases h768 : (x : Int) < 768
    · rw [decide_eq_true h768, if_pos rfl]
      refine ev_callt (T := "tuple") (ev_builtin gl'.g (mg_tuple w) gl'.b (by rw [gl'.hb _ (by decide)]; exact boot_tuple) rfl) fun g6 hs6 => ?_
      have gl6 := gl'.sub hs6
      refine do_args_cons (ev_call (gl6.K 69 _ rfl) rfl (ev_global gl6.g (mg_words w) rfl) fun g7 hs7 => ?_)
      refine do_args_cons (ev_local hm (do_args_nil (fn_words (gl6.sub hs7) (k := 20) ((rm _).less (by omega) (by omega)) fun D2 ws g8 hs8 hD2 hP2 hB2 => ?_)))
      have hwl : ws.length ≤ 6 := by
        rw [ba_length hB2]
        exact words_len _
      refine do_args_nil (do_tuple_list hP2.lst (by omega) fun D3 o3 hD3 hT3 => ?_)
      show ToldAt _ _ (ns.take (i + 1))
      rw [hstep]
      refine toldAt_snoc (hIv.sub (((hs6.trans hs7).trans hs8).trans (upd_sub hD3))) hx1152 ⟨o3, upd_self, hT3⟩ ?_
      unfold tellB; rw [if_pos (by omega)]; exact hB2
    · rw [decide_eq_false h768, if_neg Bool.false_ne_true]
      refine ev_tuple (do_args_nil (do_newTuple (Nat.zero_le _) fun D3 o3 hD3 hT3 => ?_))
      show ToldAt _ _ (ns.take (i + 1))
      rw [hstep]
      refine toldAt_snoc (hIv.sub (upd_sub hD3)) hx1152 ⟨o3, upd_self, hT3⟩ ?_
      unfold tellB; rw [if_neg (by omega)]; exact .nil
  intro T2 oT2 tvs2 g6 hs6 hT2 hT2' hLT2 hlt2 hIt2
  rw [List.take_of_length_le (by rw [← na_length hNats]; exact Nat.le_refl _)] at hIt2
  have hs56 := hs6.trans (upd_sub (o := oT2) hT2')
  refine do_ne_told (hPT.sub hs56).lst (pl_upd hLT2).lst (hTold.sub hs56) (hIt2.sub (upd_sub hT2')) (by have := (rm (envOf (Str.ofString "law") { kind := .function, names := [], isGenerator := false, isCoroutine := false } 0 0 .none)).u; exact Nat.lt_of_le_of_lt (by show _ ≤ callerA.units + 3 + (60 + 60); show callerA.units + 3 + 2 ≤ _; omega) this) (do_truthy_bool ?_)
  rw [if_neg Bool.false_ne_true]
  refine sx_nil ?_
  have hPT6 := hPT.sub hs56
  have hTold6 := hTold.sub hs56
  have hPN6 := hPN4.sub hs56
  have hs16 := hs14.trans hs56
  generalize upd g6 T2 oT2 = g7 at hPT6 hTold6 hPN6 hs16
  have gl7 := gl1.sub hs16
  -- return
  refine sx_cons (sx_returnX (ex_cmp (nm _) (ex_call (nm _) (gl7.K 100 _ rfl) rfl (ev_global gl7.g (mg_page w) rfl) fun g8 hs8 => do_args_cons (ev_local hmT (do_args_nil ?_)))))
  have t978 := hs8 _ _ (hs16 _ _ t97)
  refine ex_page (nm _) (fun b => rfl) (k := 60) ((rm _).less (by omega) (by omega)) gl0 bi0 h97 ?_ t978 (hPT6.sub hs8).lst (hTold6.sub hs8) (by omega) rfl fun P pvs g9 hold hP9 hS9 ⟨ps, hps⟩ => ?_
  · rw [← hg1] at hs16; exact ((upd_sub h97).trans hs16).trans hs8
  have sub09 : ∀ b o, b ≠ 97 → g7 b = some o → g9 b = some o := fun b o hb e => hold b o hb (hs8 b o e)
  have gl9 : Gl w mb g9 := gl0.sub fun b o e => by
    have hb : b ≠ 97 := by rintro rfl; rw [h97] at e; cases e
    exact sub09 b o hb (hs16 b o (by rw [← hg1, upd_ne hb]; exact e))
  have hN97 : NN ≠ 97 := hPN6.lst.ne_tab (hs16 _ _ t97)
  have hPN9 : Lst g9 NN nvs := by
    have := hPN6.lst.minus hN97
    refine this.sub fun b o e => ?_
    have hb : b ≠ 97 := by rintro rfl; rw [minus_self] at e; cases e
    rw [minus_ne hb] at e; exact sub09 b o hb e
  refine ev_call (gl9.K 105 _ rfl) rfl (ev_global gl9.g (mg_due w) rfl) fun g10 hs10 => ?_
  refine do_args_cons (ev_local hmN2 (do_args_nil (fn_due (gl9.sub hs10) (k := 60) ((rm _).less (by omega) (by omega)) (hPN9.sub hs10) hNats hlt (by omega) fun D ys g11 hs11 hD hPD hSD => ?_)))
  refine do_eq_strs (hP9.sub (hs10.trans hs11)).lst hPD.lst hS9 hSD (by exact (Nat.lt_of_le_of_lt (Nat.le_add_right _ _) (rm (envOf (Str.ofString "law") { kind := .function, names := [], isGenerator := false, isCoroutine := false } 0 0 .none)).u)) ?_
  intro h' tk hh
  have hfin : ∀ b o, g0 b = some o → h'.get? b = some o := fun b o e => by
    have hb : b ≠ 97 := by rintro rfl; rw [h97] at e; cases e
    exact hh b o (hs11 b o (hs10 b o (sub09 b o hb (hs16 b o (by rw [← hg1, upd_ne hb]; exact e)))))
  exact ⟨⟨.inl ⟨.bool true, .bool true, [], rfl, fun cls => rfl, .bool true, (by first | kernel_rfl | wrow_post), fun _ => ⟨List.nodup_nil, fun a h => (by cases h)⟩⟩, fun b o e => hfin b o (by rw [← hgg]; exact e), rfl, hg⟩, ⟨ps, hh _ _ (hs11 _ _ (hs10 _ _ hps))⟩, trivial⟩)
end Mine
end

theorem PySem.Challenge.cw_wr0001_01_holds : PySem.Challenge.rw_wr0001_01.Holds := by
  exact Mine.holds
