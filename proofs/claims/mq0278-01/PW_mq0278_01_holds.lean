import PyProof.Rows.All
import Wide.All
import OpenK.AllK
import Wide.FinOn
import PySem.Challenge.RW_mq0278_01
section
open PySem PySem.W PyProof.Rows
set_option Elab.async false
namespace Mine
set_option maxRecDepth 100000
set_option maxHeartbeats 0
open_top hd for PySem.Challenge.rw_mq0278_01
end Mine
end
section
open PySem PySem.W PyProof.Rows PySem.Calls
set_option Elab.async false
set_option autoImplicit false
namespace Mine

abbrev GL := List (Addr × Obj)
abbrev lst (vs : List Value) (e : Nat) : Obj := { cls := .type "list", data := .seq vs.toArray e }
abbrev tupo (vs : List Value) (e : Nat) : Obj := { cls := .type "tuple", data := .seq vs.toArray e }

def Le (h h' : Heap) : Prop := ∀ b o, h.get? b = some o → h'.get? b = some o
theorem Le.refl (h : Heap) : Le h h := fun _ _ e => e
theorem Le.trans {a b c : Heap} (x : Le a b) (y : Le b c) : Le a c := fun p o e => y p o (x p o e)
theorem Le.none {h h' : Heap} (x : Le h h') {a : Addr} (e : h'.get? a = none) : h.get? a = none := by
  cases q : h.get? a with
  | none => rfl
  | some o => rw [x a o q] at e; cases e
theorem Le.push (h : Heap) (o : Obj) : Le h (h.push o) := fun _ _ e => Heap.get?_push_of_some _ e
theorem ne_live {h : Heap} {a b : Addr} {o : Obj} (ha : h.get? a = none) (hb : h.get? b = some o) : a ≠ b := fun e => by rw [e, hb] at ha; cases ha
theorem million : 1000000 ≤ sizeLine := by rw [sizeLine_eq]; decide
theorem nin1 {a b : Addr} (h : b ≠ a) : b ∉ [a] := fun m => h (List.mem_singleton.mp m)
theorem dec_lt {n i : Nat} (h : i < n) : n + 1 - (i + 1) < n + 1 - i := by grind
def Sub (n n' : GL) : Prop := ∀ p, p ∈ n → p ∈ n'
theorem Sub.refl (n : GL) : Sub n n := fun _ e => e
theorem Sub.trans {a b c : GL} (x : Sub a b) (y : Sub b c) : Sub a c := fun p e => y p (x p e)
theorem Sub.cons (p : Addr × Obj) (n : GL) : Sub n (p :: n) := fun _ e => .tail _ e
def GOk (n : GL) (h : Heap) : Prop := ∀ p, p ∈ n → h.get? p.1 = some p.2
theorem GOk.keep {n : GL} {h h' : Heap} (x : GOk n h) (k : Le h h') : GOk n h' := fun p e => k _ _ (x p e)
theorem GOk.sub {n n' : GL} {h : Heap} (x : GOk n' h) (k : Sub n n') : GOk n h := fun p e => x p (k p e)
theorem new_none (h : Heap) : h.get? h.objs.size = none := Heap.get?_none_of_le (Nat.le_refl _)
theorem new_none' {h : Heap} {a : Addr} (e : h.objs.size ≤ a) : h.get? a = none := Heap.get?_none_of_le e

structure Grow (h : Heap) (n : GL) (h' : Heap) (n' : GL) : Prop where
  keep : Le h h'
  more : Sub n n'
  at_ : GOk n' h'
  new : ∀ p, p ∈ n' → p ∈ n ∨ h.get? p.1 = none
theorem Grow.refl {h : Heap} {n : GL} (x : GOk n h) : Grow h n h n := ⟨Le.refl _, Sub.refl _, x, fun _ e => .inl e⟩
theorem Grow.trans {h h' h'' : Heap} {n n' n'' : GL} (x : Grow h n h' n') (y : Grow h' n' h'' n'') : Grow h n h'' n'' :=
  ⟨x.keep.trans y.keep, x.more.trans y.more, y.at_, fun p e => (y.new p e).elim (x.new p) fun q => .inr (x.keep.none q)⟩
theorem Grow.heap {h h' : Heap} {n : GL} (x : GOk n h) (k : Le h h') : Grow h n h' n := ⟨k, Sub.refl _, x.keep k, fun _ e => .inl e⟩
theorem Grow.add {h h' : Heap} {n : GL} {a : Addr} {o : Obj} (x : GOk n h) (k : Le h h') (e : h'.get? a = some o) (f : h.get? a = none) : Grow h n h' ((a, o) :: n) :=
  ⟨k, Sub.cons _ _, fun p hp => by
    rcases List.mem_cons.mp hp with rfl | hp
    · exact e
    · exact k _ _ (x p hp), fun p hp => by
    rcases List.mem_cons.mp hp with rfl | hp
    · exact .inr f
    · exact .inl hp⟩
theorem Grow.push {h : Heap} {n : GL} (x : GOk n h) (o : Obj) (f : o.isFreed = false := by rfl) : Grow h n (h.push o) ((h.objs.size, o) :: n) :=
  .add x (Le.push _ _) (Heap.get?_push_size _ f) (new_none _)

structure Aok (k : Nat) (A : Around) : Prop where
  handled : A.handled = none
  depth : A.depth + k < recursionLimit
  units : A.units + 100 * k < cLine
theorem Aok.mono {k k' : Nat} {A : Around} (x : Aok k' A) (h : k ≤ k') : Aok k A := ⟨x.handled, by have := x.depth; grind, by have := x.units; grind⟩

theorem Aok.deep {k : Nat} {A : Around} (x : Aok (k + 1) A) (env : Env) : Aok k (A.deeper env) := ⟨x.handled, by have := x.depth; show A.depth + 1 + k < _; grind, by have := x.units; show A.units + 3 + 100 * k < _; grind⟩
theorem Aok.room {k : Nat} {A : Around} (x : Aok (k + 1) A) : A.depth < recursionLimit := by have := x.depth; grind
abbrev VP := GL → Value → Prop

section
variable {prog : Program} {w : World}

/-- from every state whose heap extends h and bears n the tree ends without a raise, the heap only grows, and the result is as P says -/
def Ev (prog : Program) (w : World) {α : Type} (k : Nat) (h : Heap) (n : GL) (t : Sem α) (P : GL → α → Prop) : Prop :=
  ∀ (A : Around) (s : Shared) (n₁ : GL) (Q : α → Shared → Prop) (E : Value → Shared → Prop), Aok k A → Le h s.heap → Sub n n₁ → GOk n₁ s.heap →
    (∀ v h' tk n', Grow s.heap n₁ h' n' → P n' v → Q v { s with heap := h', toks := tk }) → wpAny (model prog w) A t Q E s

def Mono {α : Type} (P : GL → α → Prop) : Prop := ∀ n n' v, Sub n n' → P n v → P n' v

theorem Ev.lift {α : Type} {k k' : Nat} {h h' : Heap} {n n' : GL} {t : Sem α} {P : GL → α → Prop} (x : Ev prog w k h n t P) (hh : Le h h') (hn : Sub n n') (hk : k ≤ k') : Ev prog w k' h' n' t P :=
  fun A s n₁ Q E hA l sb ok q => x A s n₁ Q E (hA.mono hk) (hh.trans l) (hn.trans sb) ok q
theorem Ev.cons {α : Type} {k : Nat} {h : Heap} {n : GL} {t : Sem α} {P R : GL → α → Prop} (x : Ev prog w k h n t P) (hP : ∀ n' v, Sub n n' → P n' v → R n' v) : Ev prog w k h n t R :=
  fun A s n₁ Q E hA l sb ok q => x A s n₁ Q E hA l sb ok fun v h' tk n' g p => q v h' tk n' g (hP n' v (sb.trans g.more) p)
theorem Ev.bind {α β : Type} {k : Nat} {h : Heap} {n : GL} {t : Sem α} {f : α → Sem β} {P : GL → α → Prop} {R : GL → β → Prop} (x : Ev prog w k h n t P)
    (y : ∀ v n', Sub n n' → P n' v → Ev prog w k h n' (f v) R) : Ev prog w k h n (t >>= f) R := by
  intro A s n₁ Q E hA l sb ok q
  refine wpAny_bind (x A s n₁ _ E hA l sb ok fun v h' tk n' g p => ?_)
  exact y v n' (sb.trans g.more) p A _ n' Q E hA (l.trans g.keep) (Sub.refl _) g.at_ fun v2 h2 tk2 n2 g2 p2 => q v2 h2 tk2 n2 (g.trans g2) p2
theorem Ev.ret {α : Type} {k : Nat} {h : Heap} {n : GL} {v : α} {P : GL → α → Prop} (m : ∀ n', Sub n n' → P n' v) : Ev prog w k h n (pure v) P :=
  fun _ s n₁ _ _ _ _ sb ok q => wpAny_pure (q v s.heap s.toks n₁ (Grow.refl ok) (m n₁ sb))
/-- a tree that only reads -/
theorem Ev.read {α : Type} {k : Nat} {h : Heap} {n : GL} {t : Sem α} {v : α} {P : GL → α → Prop}
    (H : ∀ (A : Around) (s : Shared) (Q : α → Shared → Prop) (E : Value → Shared → Prop), Aok k A → Le h s.heap → GOk n s.heap → (∀ tk, Q v { s with toks := tk }) → wpAny (model prog w) A t Q E s)
    (m : ∀ n', Sub n n' → P n' v) : Ev prog w k h n t P :=
  fun A s n₁ Q E hA l sb ok q => H A s Q E hA l (ok.sub sb) fun tk => q v s.heap tk n₁ (Grow.refl ok) (m n₁ sb)
/-- the same, the token told -/
theorem Ev.readT {α : Type} {k : Nat} {h : Heap} {n : GL} {t : Sem α} {f : Tok → α} {P : GL → α → Prop}
    (H : ∀ (A : Around) (s : Shared) (Q : α → Shared → Prop) (E : Value → Shared → Prop), Aok k A → Le h s.heap → GOk n s.heap → (∀ u tk, Q (f u) { s with toks := tk }) → wpAny (model prog w) A t Q E s)
    (m : ∀ u n', Sub n n' → P n' (f u)) : Ev prog w k h n t P :=
  fun A s n₁ Q E hA l sb ok q => H A s Q E hA l (ok.sub sb) fun u tk => q (f u) s.heap tk n₁ (Grow.refl ok) (m u n₁ sb)
/-- a tree that makes one frozen object -/
theorem Ev.make {k : Nat} {h : Heap} {n : GL} {t : Sem Value} {o : Obj} {P : GL → Value → Prop}
    (H : ∀ (A : Around) (s : Shared) (Q : Value → Shared → Prop) (E : Value → Shared → Prop), Aok k A → Le h s.heap → GOk n s.heap →
      (∀ a h' tk, Le s.heap h' → s.heap.get? a = none → h'.get? a = some o → Q (.ref a) { s with heap := h', toks := tk }) → wpAny (model prog w) A t Q E s)
    (m : ∀ a n', Sub n n' → (a, o) ∈ n' → P n' (.ref a)) : Ev prog w k h n t P :=
  fun A s n₁ Q E hA l sb ok q => H A s Q E hA l (ok.sub sb) fun a h' tk le hn ho => q _ h' tk ((a, o) :: n₁) (Grow.add ok le ho hn) (m a _ (sb.trans (Sub.cons _ _)) (.head _))

/-! values -/
def EqV (v : Value) : VP := fun _ x => x = v
def IntV (i : Int) : VP := fun _ v => ∃ t, v = .int i t
def BoolV (b : Bool) : VP := fun _ v => v = .bool b
def NoneV : VP := fun _ v => v = .none
def StrV (x : Str) : VP := fun _ v => ∃ t, v = .str x t
def ListV {α : Type} (F : α → VP) (xs : List α) : VP := fun n v => ∃ a vs e, v = .ref a ∧ (a, lst vs e) ∈ n ∧ Paired (fun x v => F x n v) xs vs
def TupV {α : Type} (F : α → VP) (xs : List α) : VP := fun n v => ∃ a vs e, v = .ref a ∧ (a, tupo vs e) ∈ n ∧ Paired (fun x v => F x n v) xs vs

theorem mono_EqV (v : Value) : Mono (EqV v) := fun _ _ _ _ x => x
theorem mono_IntV (i : Int) : Mono (IntV i) := fun _ _ _ _ x => x
theorem mono_BoolV (b : Bool) : Mono (BoolV b) := fun _ _ _ _ x => x
theorem mono_NoneV : Mono NoneV := fun _ _ _ _ x => x
theorem mono_StrV (x : Str) : Mono (StrV x) := fun _ _ _ _ x => x
theorem Paired.mono' {α β : Type} {F G : α → β → Prop} (h : ∀ a b, F a b → G a b) : ∀ {l₁ : List α} {l₂ : List β}, Paired F l₁ l₂ → Paired G l₁ l₂
  | _, _, .nil => .nil
  | _, _, .cons x t => .cons (h _ _ x) (Paired.mono' h t)
theorem mono_ListV {α : Type} {F : α → VP} (h : ∀ x, Mono (F x)) (xs : List α) : Mono (ListV F xs) := by
  rintro n n' v sb ⟨a, vs, e, rfl, hm, hp⟩
  exact ⟨a, vs, e, rfl, sb _ hm, Paired.mono' (fun x v q => h x n n' v sb q) hp⟩
theorem mono_TupV {α : Type} {F : α → VP} (h : ∀ x, Mono (F x)) (xs : List α) : Mono (TupV F xs) := by
  rintro n n' v sb ⟨a, vs, e, rfl, hm, hp⟩
  exact ⟨a, vs, e, rfl, sb _ hm, Paired.mono' (fun x v q => h x n n' v sb q) hp⟩
theorem intsAre_of {n : GL} : ∀ {xs : List Int} {vs : List Value}, Paired (fun x v => IntV x n v) xs vs → IntsAre vs xs
  | _, _, .nil => .nil
  | _, _, .cons ⟨t, e⟩ r => by subst e; exact .cons _ t (intsAre_of r)
theorem of_intsAre {n : GL} : ∀ {xs : List Int} {vs : List Value}, IntsAre vs xs → Paired (fun x v => IntV x n v) xs vs
  | _, _, .nil => .nil
  | _, _, .cons i t r => .cons ⟨t, rfl⟩ (of_intsAre r)
theorem Paired.get {α β : Type} {F : α → β → Prop} : ∀ {l₁ : List α} {l₂ : List β} {i : Nat} {x : α}, Paired F l₁ l₂ → l₁[i]? = some x → ∃ y, l₂[i]? = some y ∧ F x y
  | _, _, 0, _, .cons h _, e => ⟨_, rfl, by simp at e; subst e; exact h⟩
  | _, _, i + 1, _, .cons _ t, e => by
    obtain ⟨y, h1, h2⟩ := Paired.get (i := i) t (by simpa using e)
    exact ⟨y, by simpa using h1, h2⟩
  | _, _, _, _, .nil, e => by simp at e
theorem Paired.get' {α β : Type} {F : α → β → Prop} : ∀ {l₁ : List α} {l₂ : List β} {i : Nat} {y : β}, Paired F l₁ l₂ → l₂[i]? = some y → ∃ x, l₁[i]? = some x ∧ F x y
  | _, _, 0, _, .cons h _, e => ⟨_, rfl, by simp at e; subst e; exact h⟩
  | _, _, i + 1, _, .cons _ t, e => by
    obtain ⟨y, h1, h2⟩ := Paired.get' (i := i) t (by simpa using e)
    exact ⟨y, by simpa using h1, h2⟩
  | _, _, _, _, .nil, e => by simp at e
theorem Paired.app {α β : Type} {F : α → β → Prop} : ∀ {l₁ r₁ : List α} {l₂ r₂ : List β}, Paired F l₁ l₂ → Paired F r₁ r₂ → Paired F (l₁ ++ r₁) (l₂ ++ r₂)
  | _, _, _, _, .nil, h => h
  | _, _, _, _, .cons x t, h => .cons x (Paired.app t h)
theorem Paired.take {α β : Type} {F : α → β → Prop} : ∀ {l₁ : List α} {l₂ : List β} (i : Nat), Paired F l₁ l₂ → Paired F (l₁.take i) (l₂.take i)
  | _, _, 0, _ => by simpa using Paired.nil
  | _, _, _ + 1, .nil => by simpa using Paired.nil
  | _, _, i + 1, .cons x t => by simpa using Paired.cons x (Paired.take i t)
theorem Paired.drop {α β : Type} {F : α → β → Prop} : ∀ {l₁ : List α} {l₂ : List β} (i : Nat), Paired F l₁ l₂ → Paired F (l₁.drop i) (l₂.drop i)
  | _, _, 0, h => by simpa using h
  | _, _, _ + 1, .nil => by simpa using Paired.nil
  | _, _, i + 1, .cons x t => by simpa using Paired.drop i t

/-! names -/
def NameIs (prog : Program) (w : World) (env : Env) (h : Heap) (x : Str) (v : Value) : Prop := ∀ pos, Looks (model prog w) h (eval (.Name x pos) env) v
theorem NameIs.keeps {env : Env} {h h' : Heap} {x : Str} {v : Value} (a : NameIs prog w env h x v) (l : Le h h') : NameIs prog w env h' x v := fun pos => (a pos).keeps l
theorem NameIs.loc {env : Env} {h : Heap} {m : Str → Option Value} {x : Str} {v : Value} (N : h.Ns env.locals m) (hv : m x = some v) (hk : env.scope.kind = .function := by rfl) (hl : env.kindOf x = some .local := by rfl)
    (hd : (x == ("__debug__" : Str)) = false := by decide) : NameIs prog w env h x v :=
  fun _ _ _ _ _ k q => wpAny_Name (wpAny_loadName_local hk hl (N.keeps k) hv q) hd
theorem NameIs.cel {env : Env} {h : Heap} {x : Str} {c : Addr} {v : Value} (hv : h.IsCell c (some v)) (hc : env.cells.lookup x = some c := by rfl) (hk : env.scope.kind = .function := by rfl) (hl : env.kindOf x = some .cell := by rfl)
    (hd : (x == ("__debug__" : Str)) = false := by decide) : NameIs prog w env h x v :=
  fun _ _ _ _ _ k q => wpAny_Name (wpAny_loadName_cell hk hl hc (hv.keeps k) q) hd
theorem NameIs.free {env : Env} {h : Heap} {x : Str} {c : Addr} {v : Value} (hv : h.IsCell c (some v)) (hc : env.cells.lookup x = some c := by rfl) (hk : env.scope.kind = .function := by rfl) (hl : env.kindOf x = some .free := by rfl)
    (hd : (x == ("__debug__" : Str)) = false := by decide) (hn : (x == ("__classdict__" : Str)) = false := by decide) : NameIs prog w env h x v :=
  fun _ _ _ _ _ k q => wpAny_Name (wpAny_loadName_free hk hl hc (hv.keeps k) q hn) hd

/-- the ground: the top's written part, its two tables of names -/
structure Gd (K : Frag) (mg mb : Str → Option Value) (h : Heap) : Prop where
  K : K.In h
  g : h.Ns mainGlobals mg
  b : h.Ns builtinsNs mb
  nolimit : h.NoLimit
  builtins : ∀ x : Str, x ≠ "__name__" → mb x = bootBuiltins x
theorem Gd.keeps {K : Frag} {mg mb : Str → Option Value} {h h' : Heap} (x : Gd K mg mb h) (l : Le h h') : Gd K mg mb h' := ⟨x.K.keeps l, x.g.keeps l, x.b.keeps l, x.nolimit.keeps l, x.builtins⟩
theorem NameIs.glo {K : Frag} {mg mb : Str → Option Value} {env : Env} {h : Heap} {x : Str} {v : Value} (G : Gd K mg mb h) (e : nsIn K mainGlobals x = some (some v)) (hg : env.globals = mainGlobals := by rfl)
    (hk : env.scope.kind = .function := by rfl) (hx : env.kindOf x = some .globalImplicit := by rfl) (hd : (x == ("__debug__" : Str)) = false := by decide) : NameIs prog w env h x v :=
  fun _ _ _ _ _ k q => Name_function_global hk hx (loadGlobal_global (hg ▸ G.g.keeps k) (mg_of G.K G.g e) q) hd
theorem NameIs.bui {K : Frag} {mg mb : Str → Option Value} {env : Env} {h : Heap} {x : Str} {v : Value} (G : Gd K mg mb h) (e : nsIn K mainGlobals x = some none) (hv : bootBuiltins x = some v) (hn : x ≠ "__name__" := by decide) (hg : env.globals = mainGlobals := by rfl)
    (hb : env.builtins = builtinsNs := by rfl) (hk : env.scope.kind = .function := by rfl) (hx : env.kindOf x = some .globalImplicit := by rfl) (hd : (x == ("__debug__" : Str)) = false := by decide) : NameIs prog w env h x v :=
  fun _ _ _ _ _ k q => Name_function_global hk hx (loadGlobal_builtin (hg ▸ G.g.keeps k) (mg_none_of G.K G.g e) (hb ▸ G.b.keeps k) ((G.builtins x hn).trans hv) q) hd

section
variable {k : Nat} {h : Heap} {n : GL} {env : Env}
theorem Ev.name {x : Str} {v : Value} {pos : Pos} {F : VP} (a : NameIs prog w env h x v) (m : Mono F) (f : F n v) : Ev prog w k h n (eval (.Name x pos) env) F :=
  fun A s n₁ Q E _ l sb ok q => a pos A Q E s l (q v s.heap s.toks n₁ (Grow.refl ok) (m _ _ _ sb f))
theorem Ev.nameE {x : Str} {v : Value} {pos : Pos} (a : NameIs prog w env h x v) : Ev prog w k h n (eval (.Name x pos) env) (EqV v) := Ev.name a (mono_EqV v) rfl
theorem Ev.cint {i : Int} {c : Nat} {pos : Pos} : Ev prog w k h n (eval (.Constant (.int i) c pos) env) (IntV i) :=
  Ev.readT (f := fun u => Value.int i u) (fun _ _ _ _ _ _ _ q => wpAny_Constant_int (q _ _)) fun u _ _ => ⟨u, rfl⟩
theorem Ev.cstr {x : Str} {c : Nat} {pos : Pos} : Ev prog w k h n (eval (.Constant (.str x) c pos) env) (StrV x) :=
  Ev.readT (f := fun u => Value.str x u) (fun _ _ _ _ _ _ _ q => wpAny_Constant_str (q _ _)) fun u _ _ => ⟨u, rfl⟩
theorem Ev.BinOp {l r : Expr} {op : Operator} {pos : Pos} {F1 F2 F3 : VP} (hl : Ev prog w k h n (eval l env) F1) (hr : Ev prog w k h n (eval r env) F2) (m1 : Mono F1)
    (o : ∀ a b n', Sub n n' → F1 n' a → F2 n' b → Ev prog w k h n' (binaryOp op a b) F3) : Ev prog w k h n (eval (.BinOp l op r pos) env) F3 := by
  intro A s n₁ Q E hA l sb ok q
  refine wpAny_BinOp (hl A s n₁ _ E hA l sb ok fun a h1 t1 n1 g1 f1 => ?_)
  refine hr A _ n1 _ E hA (l.trans g1.keep) (sb.trans g1.more) g1.at_ fun b h2 t2 n2 g2 f2 => ?_
  exact o a b n2 (sb.trans (g1.trans g2).more) (m1 _ _ _ g2.more f1) f2 A _ n2 Q E hA (l.trans (g1.trans g2).keep) (Sub.refl _) g2.at_ fun v h3 t3 n3 g3 f3 => q v h3 t3 n3 ((g1.trans g2).trans g3) f3
theorem Ev.Cmp {l r : Expr} {op : CmpOp} {pos : Pos} {F1 F2 F3 : VP} (hl : Ev prog w k h n (eval l env) F1) (hr : Ev prog w k h n (eval r env) F2) (m1 : Mono F1)
    (o : ∀ a b n', Sub n n' → F1 n' a → F2 n' b → Ev prog w k h n' (compareOp op a b) F3) (hm : behindInMarks op r = false := by with_unfolding_all rfl) : Ev prog w k h n (eval (.Compare l [op] [r] pos) env) F3 := by
  intro A s n₁ Q E hA l sb ok q
  refine wpAny_Compare1 (hl A s n₁ _ E hA l sb ok fun a h1 t1 n1 g1 f1 => ?_) hm
  refine hr A _ n1 _ E hA (l.trans g1.keep) (sb.trans g1.more) g1.at_ fun b h2 t2 n2 g2 f2 => ?_
  exact o a b n2 (sb.trans (g1.trans g2).more) (m1 _ _ _ g2.more f1) f2 A _ n2 Q E hA (l.trans (g1.trans g2).keep) (Sub.refl _) g2.at_ fun v h3 t3 n3 g3 f3 => q v h3 t3 n3 ((g1.trans g2).trans g3) f3
/-- a test that is a comparison -/
theorem Ev.CmpT {l r : Expr} {op : CmpOp} {pos : Pos} {F1 F2 : VP} {c : Bool} {whole : Sem Value} (hl : Ev prog w k h n (eval l env) F1) (hr : Ev prog w k h n (eval r env) F2) (m1 : Mono F1)
    (o : ∀ a b n', Sub n n' → F1 n' a → F2 n' b → Ev prog w k h n' (compareOp op a b) (BoolV c)) (hm : behindInMarks op r = false := by with_unfolding_all rfl) : Ev prog w k h n (isTrue (.Compare l [op] [r] pos) env whole) (fun _ b => b = c) := by
  intro A s n₁ Q E hA l sb ok q
  refine wpAny_isTrue_Compare1 (hl A s n₁ _ E hA l sb ok fun a h1 t1 n1 g1 f1 => ?_) hm
  refine hr A _ n1 _ E hA (l.trans g1.keep) (sb.trans g1.more) g1.at_ fun b h2 t2 n2 g2 f2 => ?_
  refine o a b n2 (sb.trans (g1.trans g2).more) (m1 _ _ _ g2.more f1) f2 A _ n2 _ E hA (l.trans (g1.trans g2).keep) (Sub.refl _) g2.at_ fun v h3 t3 n3 g3 f3 => ?_
  have e : v = .bool c := f3
  subst e
  exact wpAny_truthy_bool (q c h3 t3 n3 ((g1.trans g2).trans g3) rfl)
end
end
end Mine
end
section
open PySem PySem.W PyProof.Rows PySem.Calls
set_option Elab.async false
set_option autoImplicit false
namespace Mine
section
variable {prog : Program} {w : World} {k : Nat} {h : Heap} {n : GL} {env : Env}

/-! ints -/
theorem Ev.addI {l r : Expr} {pos : Pos} {a b : Int} (hl : Ev prog w k h n (eval l env) (IntV a)) (hr : Ev prog w k h n (eval r env) (IntV b)) : Ev prog w k h n (eval (.BinOp l .Add r pos) env) (IntV (a + b)) := by
  refine Ev.BinOp hl hr (mono_IntV a) ?_
  rintro _ _ n' _ ⟨t, rfl⟩ ⟨u, rfl⟩
  exact Ev.readT (f := fun u => Value.int (a + b) u) (fun _ _ _ _ _ _ _ q => add_int (q _ _)) fun u _ _ => ⟨u, rfl⟩
theorem Ev.subI {l r : Expr} {pos : Pos} {a b : Int} (hl : Ev prog w k h n (eval l env) (IntV a)) (hr : Ev prog w k h n (eval r env) (IntV b)) : Ev prog w k h n (eval (.BinOp l .Sub r pos) env) (IntV (a - b)) := by
  refine Ev.BinOp hl hr (mono_IntV a) ?_
  rintro _ _ n' _ ⟨t, rfl⟩ ⟨u, rfl⟩
  exact Ev.readT (f := fun u => Value.int (a - b) u) (fun _ _ _ _ _ _ _ q => sub_int (q _ _)) fun u _ _ => ⟨u, rfl⟩
theorem mulOk_small {a b : Int} (h : a.natAbs < 2 ^ 60) : IntMulOk a b := by
  refine IntMulOk.of_left ?_
  unfold Builtin.Int.intBits
  split
  · decide
  · rename_i hne
    have hz : a.natAbs ≠ 0 := by
      intro q
      apply hne
      simp [Int.natAbs_eq_zero.mp q]
    have h2 := (Nat.log2_lt hz).mpr (Nat.lt_of_lt_of_le h (by decide : 2 ^ 60 ≤ 2 ^ 63))
    exact Nat.le_trans (by assumption) (by decide)
theorem Ev.mulI {l r : Expr} {pos : Pos} {a b : Int} (hs : a.natAbs < 2 ^ 60) (hl : Ev prog w k h n (eval l env) (IntV a)) (hr : Ev prog w k h n (eval r env) (IntV b)) : Ev prog w k h n (eval (.BinOp l .Mult r pos) env) (IntV (a * b)) := by
  refine Ev.BinOp hl hr (mono_IntV a) ?_
  rintro _ _ n' _ ⟨t, rfl⟩ ⟨u, rfl⟩
  exact Ev.readT (f := fun u => Value.int (a * b) u) (fun _ _ _ _ _ _ _ q => mul_int (q _ _) (mulOk_small hs)) fun u _ _ => ⟨u, rfl⟩
theorem Ev.modI {l r : Expr} {pos : Pos} {a b : Int} (hb : b ≠ 0) (hl : Ev prog w k h n (eval l env) (IntV a)) (hr : Ev prog w k h n (eval r env) (IntV b)) : Ev prog w k h n (eval (.BinOp l .Mod r pos) env) (IntV (a.fmod b)) := by
  refine Ev.BinOp hl hr (mono_IntV a) ?_
  rintro _ _ n' _ ⟨t, rfl⟩ ⟨u, rfl⟩
  exact Ev.readT (f := fun u => Value.int (a.fmod b) u) (fun _ _ _ _ _ _ _ q => mod_int' hb (q _ _)) fun u _ _ => ⟨u, rfl⟩
theorem Ev.fdivI {l r : Expr} {pos : Pos} {a b : Int} (hb : b ≠ 0) (hs : b.natAbs < 1073741824) (hl : Ev prog w k h n (eval l env) (IntV a)) (hr : Ev prog w k h n (eval r env) (IntV b)) : Ev prog w k h n (eval (.BinOp l .FloorDiv r pos) env) (IntV (a.fdiv b)) := by
  refine Ev.BinOp hl hr (mono_IntV a) ?_
  rintro _ _ n' _ ⟨t, rfl⟩ ⟨u, rfl⟩
  exact Ev.readT (f := fun u => Value.int (a.fdiv b) u) (fun _ _ _ _ _ _ _ q => floordiv_int hb (q _ _) (.inl (PyProof.noPylong_small hs))) fun u _ _ => ⟨u, rfl⟩
theorem op_geI {a b : Int} {u v : Value} {n : GL} (x : IntV a n u) (y : IntV b n v) : Ev prog w k h n (compareOp .GtE u v) (BoolV (decide (b ≤ a))) := by
  obtain ⟨t, rfl⟩ := x; obtain ⟨t', rfl⟩ := y
  exact Ev.read (fun _ _ _ _ _ _ _ q => PyProof.Rows.ge_int (q _)) fun _ _ => rfl
theorem op_leI {a b : Int} {u v : Value} {n : GL} (x : IntV a n u) (y : IntV b n v) : Ev prog w k h n (compareOp .LtE u v) (BoolV (decide (a ≤ b))) := by
  obtain ⟨t, rfl⟩ := x; obtain ⟨t', rfl⟩ := y
  exact Ev.read (fun _ _ _ _ _ _ _ q => PyProof.Rows.le_int (q _)) fun _ _ => rfl
theorem op_eqI {a b : Int} {u v : Value} {n : GL} (x : IntV a n u) (y : IntV b n v) : Ev prog w k h n (compareOp .Eq u v) (BoolV (a == b)) := by
  obtain ⟨t, rfl⟩ := x; obtain ⟨t', rfl⟩ := y
  exact Ev.read (fun _ _ _ _ _ _ _ q => PyProof.Rows.eq_int (q _)) fun _ _ => rfl
theorem op_eqS {a b : Str} {u v : Value} {n : GL} (x : StrV a n u) (y : StrV b n v) : Ev prog w k h n (compareOp .Eq u v) (BoolV (a.cps.toList == b.cps.toList)) := by
  obtain ⟨t, rfl⟩ := x; obtain ⟨t', rfl⟩ := y
  exact Ev.read (fun _ _ _ _ _ _ _ q => PySem.P.eq_str (q _)) fun _ _ => rfl

/-! lists -/
theorem ListV.isList {α : Type} {F : α → VP} {xs : List α} {v : Value} (x : ListV F xs n v) : ∃ a vs, v = .ref a ∧ Paired (fun x v => F x n v) xs vs ∧ vs.length = xs.length ∧ ∀ hp, GOk n hp → hp.IsList a vs.toArray := by
  obtain ⟨a, vs, e, rfl, hm, hp⟩ := x
  exact ⟨a, vs, rfl, hp, hp.length.symm, fun h ok => ⟨_, ok _ hm, rfl, _, rfl⟩⟩
theorem op_addL {α : Type} {F : α → VP} {xs ys : List α} {u v : Value} {n : GL} (m : ∀ x, Mono (F x)) (x : ListV F xs n u) (y : ListV F ys n v) (hsz : xs.length + ys.length ≤ 1000000) : Ev prog w k h n (binaryOp .Add u v) (ListV F (xs ++ ys)) := by
  obtain ⟨a, vs, e, rfl, hm, hp⟩ := x
  obtain ⟨b, ws, e', rfl, hm', hp'⟩ := y
  have l1 := hp.length
  have l2 := hp'.length
  refine Ev.make (o := lst (vs ++ ws) 0) (fun A s Q E _ _ ok q => ?_) fun c n' sb hc => ⟨c, _, _, rfl, hc, Paired.mono' (fun x v q => m x _ _ v sb q) (Paired.app hp hp')⟩
  have ee : vs.toArray ++ ws.toArray = (vs ++ ws).toArray := by simp
  refine concat_meets ⟨_, ok _ hm, rfl⟩ ⟨_, ok _ hm', rfl⟩ noFill_list_add seq_list_add PySem.F.slot_list_add PySem.F.entry_list_add (PySem.F.args_list_add_2 _ _)
    (list_addW a b vs.toArray ws.toArray e e' _ _ _ _ (by rw [sizeLine_eq]; simp; grind)) ⟨ok _ hm, ok _ hm', ?_⟩
  rw [ee]
  exact q _ _ _ (Le.push _ _) (new_none _) (Heap.get?_push_size _ rfl)
theorem Ev.addL {α : Type} {F : α → VP} {xs ys : List α} {l r : Expr} {pos : Pos} (m : ∀ x, Mono (F x)) (hsz : xs.length + ys.length ≤ 1000000) (hl : Ev prog w k h n (eval l env) (ListV F xs)) (hr : Ev prog w k h n (eval r env) (ListV F ys)) :
    Ev prog w k h n (eval (.BinOp l .Add r pos) env) (ListV F (xs ++ ys)) := Ev.BinOp hl hr (mono_ListV m xs) fun _ _ _ _ x y => op_addL m x y hsz
theorem op_inL {xs : List Int} {i : Int} {u v : Value} {n : GL} (x : IntV i n u) (y : ListV IntV xs n v) : Ev prog w k h n (compareOp .In u v) (BoolV (xs.any (· == i))) := by
  obtain ⟨t, rfl⟩ := x
  obtain ⟨a, vs, rfl, hp, _, hl⟩ := y.isList
  exact Ev.read (fun _ _ _ _ _ _ ok q => in_list_ints (hl _ ok) (intsAre_of hp) (q _)) fun _ _ => rfl
theorem op_ninL {xs : List Int} {i : Int} {u v : Value} {n : GL} (x : IntV i n u) (y : ListV IntV xs n v) : Ev prog w k h n (compareOp .NotIn u v) (BoolV (!(xs.any (· == i)))) := by
  obtain ⟨t, rfl⟩ := x
  obtain ⟨a, vs, rfl, hp, _, hl⟩ := y.isList
  exact Ev.read (fun _ _ _ _ _ _ ok q => notin_list_ints (hl _ ok) (intsAre_of hp) (q _)) fun _ _ => rfl
theorem op_eqL {xs ys : List Int} {u v : Value} {n : GL} (hk : 1 ≤ k) (x : ListV IntV xs n u) (y : ListV IntV ys n v) : Ev prog w k h n (compareOp .Eq u v) (BoolV (decide (xs = ys))) := by
  obtain ⟨a, vs, rfl, hp, _, hl⟩ := x.isList
  obtain ⟨b, ws, rfl, hp', _, hl'⟩ := y.isList
  exact Ev.read (fun _ _ _ _ hA _ ok q => ke_eq_ints (hl _ ok) (hl' _ ok) (intsAre_of hp) (intsAre_of hp') (by have := hA.units; grind) (q _)) fun _ _ => rfl
theorem op_neL {xs ys : List Int} {u v : Value} {n : GL} (hk : 1 ≤ k) (x : ListV IntV xs n u) (y : ListV IntV ys n v) : Ev prog w k h n (compareOp .NotEq u v) (BoolV (!decide (xs = ys))) := by
  obtain ⟨a, vs, rfl, hp, _, hl⟩ := x.isList
  obtain ⟨b, ws, rfl, hp', _, hl'⟩ := y.isList
  exact Ev.read (fun _ _ _ _ hA _ ok q => ke_ne_ints (hl _ ok) (hl' _ ok) (intsAre_of hp) (intsAre_of hp') (by have := hA.units; grind) (q _)) fun _ _ => rfl
/-- an item in bounds -/
theorem Ev.item {α : Type} {F : α → VP} {xs : List α} {x : α} {i : Int} {l r : Expr} {pos : Pos} (m : ∀ x, Mono (F x)) (h0 : 0 ≤ i) (h1 : i < 2 ^ 60) (hx : xs[i.toNat]? = some x) (hl : Ev prog w k h n (eval l env) (ListV F xs)) (hr : Ev prog w k h n (eval r env) (IntV i))
    (hs : ∀ a u, subscripted r false (.ref a) (.int i u) = operate [.ref a, .int i u] (getItem (.ref a) (.int i u)) := by intro _ _; with_unfolding_all rfl)
    (he : ∀ Q E A s, wpAny (model prog w) A (eval l env) (fun lv s₁ => wpAny (model prog w) A (eval r env) (fun rv s₂ => wpAny (model prog w) A (subscriptTail l r lv rv) Q E s₂) E s₁) E s → wpAny (model prog w) A (eval (.Subscript l r pos) env) Q E s := by intro Q E A s hh; exact Subscript_ hh) :
    Ev prog w k h n (eval (.Subscript l r pos) env) (F x) := by
  intro A s n₁ Q E hA lh sb ok q
  refine he Q E A s (hl A s n₁ _ E hA lh sb ok fun a h1' t1 n1 g1 f1 => ?_)
  refine hr A _ n1 _ E hA (lh.trans g1.keep) (sb.trans g1.more) g1.at_ fun b h2 t2 n2 g2 f2 => ?_
  obtain ⟨u, rfl⟩ := f2
  have f1' := mono_ListV m xs _ _ _ g2.more f1
  obtain ⟨l', vs, rfl, hp, hlen, hL⟩ := f1'.isList
  obtain ⟨y, hy, fy⟩ := Paired.get hp hx
  have hlist := hL _ g2.at_
  exact tail_any hlist.typeIs slot_list_getitem.lookup (wpAny_getItem_list hlist h0 (by exact Int.le_trans (by assumption) (by decide)) (by simpa using hy) (q y h2 t2 n2 (g1.trans g2) fy)) (hs _ _)
end
end Mine
end
section
open PySem PySem.W PyProof.Rows PySem.Calls
set_option Elab.async false
set_option autoImplicit false
namespace Mine
section
variable {prog : Program} {w : World}

/-- what an iterable hands out -/
def Iters (prog : Program) (w : World) (k : Nat) (n : GL) (xv : Value) (N : Nat) (P : Nat → Value → Prop) : Prop :=
  ∀ (A : Around) (s : Shared) (Q : Value → Shared → Prop) (E : Value → Shared → Prop), Aok k A → GOk n s.heap →
    (∀ I h' fp (St : Nat → Heap → Prop), s.heap.get? I = none → Le s.heap h' → (∀ i h, St i h → ∃ o, h.get? I = some o) → Walks prog w A I fp [I] N P St → St 0 h' → (∀ b, b ∈ fp → b = I ∨ ∃ o, (b, o) ∈ n) → Q (.ref I) { s with heap := h' }) →
    wpAny (model prog w) A (pyIter xv) Q E s
theorem Iters.more {k : Nat} {n n' : GL} {xv : Value} {N : Nat} {P : Nat → Value → Prop} (x : Iters prog w k n xv N P) (sb : Sub n n') : Iters prog w k n' xv N P :=
  fun A s Q E hA ok q => x A s Q E hA (ok.sub sb) fun I h' fp St a b c d e f => q I h' fp St a b c d e fun y hy => (f y hy).imp id fun ⟨o, ho⟩ => ⟨o, sb _ ho⟩
theorem iters_list {k : Nat} {n : GL} {a : Addr} {vs : List Value} {e : Nat} (hm : (a, lst vs e) ∈ n) : Iters prog w k n (.ref a) vs.length (fun i v => vs[i]? = some v) := by
  intro A s Q E hA ok q
  have hl : s.heap.IsList a vs.toArray := ⟨_, ok _ hm, rfl, _, rfl⟩
  have hne : a ≠ s.heap.objs.size := Nat.ne_of_lt (Heap.lt_size (ok _ hm))
  refine wpAny_pyIter_list hl ?_
  have W : Walks prog w A s.heap.objs.size [s.heap.objs.size, a] [s.heap.objs.size] vs.toArray.size (fun i v => vs.toArray[i]? = some v) (fun i h => h.IsListIter s.heap.objs.size a i ∧ h.IsList a vs.toArray) := Walks.list hA.handled _ _ hne _
  have W' : Walks prog w A s.heap.objs.size [s.heap.objs.size, a] [s.heap.objs.size] vs.length (fun i v => vs[i]? = some v) (fun i h => h.IsListIter s.heap.objs.size a i ∧ h.IsList a vs.toArray) := by simpa using W
  refine q _ _ _ _ (new_none _) (Le.push _ _) (fun i h ⟨⟨o, ho, _⟩, _⟩ => ⟨o, ho⟩) W' ⟨⟨_, Heap.get?_push_size _ rfl, rfl, rfl⟩, ⟨_, Le.push _ _ _ _ (ok _ hm), rfl, _, rfl⟩⟩ ?_
  intro b hb
  rcases List.mem_cons.mp hb with rfl | hb
  · exact .inl rfl
  · rw [List.mem_singleton.mp hb]; exact .inr ⟨_, hm⟩
abbrev rngo (a b c : Int) (t u v : Tok) : Obj := { cls := .type "range", data := .fields #[.int a t, .int b u, .int c v] }
/-- a range by ones -/
def RangeV (a b : Int) : VP := fun n v => ∃ r t u t', v = .ref r ∧ (r, rngo a b 1 t u t') ∈ n
theorem mono_RangeV (a b : Int) : Mono (RangeV a b) := by rintro n n' v sb ⟨r, t, u, t', rfl, hm⟩; exact ⟨r, t, u, t', rfl, sb _ hm⟩
theorem rangeSize_one (a b : Int) : Builtin.Range.rangeSize a b 1 = ((b - a).toNat : Int) := by
  unfold Builtin.Range.rangeSize
  split <;> (try split) <;> grind
theorem iters_range {k : Nat} {n : GL} {r : Addr} {a b : Int} {t u t' : Tok} (hm : (r, rngo a b 1 t u t') ∈ n) (ha : a.natAbs < 2 ^ 40) (hb : b.natAbs < 2 ^ 40) :
    Iters prog w k n (.ref r) (b - a).toNat (fun i v => ∃ t, v = .int (a + i) t) := by
  intro A s Q E hA ok q
  have hr : IsRange s.heap r a b 1 t u t' := ok _ hm
  refine wpAny_pyIter_range hr (small_one (by grind) (by grind) (by grind) (by grind)) ?_
  rw [rangeSize_one]
  have W : Walks prog w A s.heap.objs.size [s.heap.objs.size] [s.heap.objs.size] (b - a).toNat (fun i v => ∃ t, v = .int (a + i * 1) t) (fun i h => IsRangeIter h s.heap.objs.size (a + (i : Nat) * 1) (((b - a).toNat : Int) - (i : Nat)) 1) := Walks.range hA.handled _ _ _ _
  have W' : Walks prog w A s.heap.objs.size [s.heap.objs.size] [s.heap.objs.size] (b - a).toNat (fun i v => ∃ t, v = .int (a + i) t) (fun i h => IsRangeIter h s.heap.objs.size (a + (i : Nat) * 1) (((b - a).toNat : Int) - (i : Nat)) 1) := by simpa using W
  refine q _ _ _ _ (new_none _) (Le.push _ _) (fun i h st => ⟨_, st⟩) W' ?_ fun b hb => .inl (List.mem_singleton.mp hb)
  have := Heap.get?_push_size (h := s.heap) (o := { cls := .type "range_iterator", data := .fields #[rawInt a, rawInt ((b - a).toNat : Int), rawInt 1] }) rfl
  show IsRangeIter _ _ (a + ((0 : Nat) : Int) * 1) (((b - a).toNat : Int) - ((0 : Nat) : Int)) 1
  simpa [IsRangeIter] using this
theorem iters_str {k : Nat} {n : GL} {x : Str} {t : Tok} : Iters prog w k n (.str x t) x.cps.size (SignAt x) := by
  intro A s Q E hA ok q
  cases ha : x.cps.all (· < 128)
  · exact wpAny_pyIter_wide ha (q _ _ _ _ (new_none _) (Le.push _ _) (fun i h ⟨o, ho, _⟩ => ⟨o, ho⟩) (Walks.strWide hA.handled _ x t) ⟨_, Heap.get?_push_size _ rfl, rfl, rfl⟩ fun b hb => .inl (List.mem_singleton.mp hb))
  · exact wpAny_pyIter_ascii ha (q _ _ _ _ (new_none _) (Le.push _ _) (fun i h ⟨o, ho, _⟩ => ⟨o, ho⟩) (Walks.strAscii hA.handled _ x t) ⟨_, Heap.get?_push_size _ rfl, rfl, rfl⟩ fun b hb => .inl (List.mem_singleton.mp hb))

/-- where a loop's own name lies -/
structure Slot (prog : Program) (w : World) (A : Around) (cenv : Env) (x : Str) (px : Pos) (V : Addr) (S : Heap → Option Value → Prop) : Prop where
  store : ∀ (s : Shared) (o : Option Value) (v : Value) (Q : Unit → Shared → Prop) (E : Value → Shared → Prop), S s.heap o →
    (∀ h' tk, S h' (some v) → Heap.SameBut V s.heap h' → Q () { s with heap := h', toks := tk }) → wpAny (model prog w) A (assign (.Name x px) cenv v) Q E s
  frame : ∀ h h' o, S h o → (∀ ob, h.get? V = some ob → h'.get? V = some ob) → S h' o
  live : ∀ h o, S h o → ∃ ob, h.get? V = some ob
theorem slot_loc {A : Around} {cenv : Env} {x : Str} {px : Pos} (hx : cenv.kindOf x = some .local) (hk : cenv.scope.kind = .function) :
    Slot prog w A cenv x px cenv.locals (fun h o => ∃ m, h.Ns cenv.locals m ∧ m x = o) where
  store := by
    rintro s o v Q E ⟨m, hn, _⟩ q
    exact wpAny_assign_Name (wpAny_storeName_local hx hn (fun h' hn' hs' => q h' _ ⟨_, hn', by simp⟩ hs') (by rw [hk]; rfl))
  frame := fun h h' o ⟨m, hn, e⟩ k => ⟨m, hn.at' k, e⟩
  live := fun h o ⟨m, hn, e⟩ => let ⟨ob, _, _, ho, _⟩ := hn; ⟨ob, ho⟩
theorem slot_cel {A : Around} {cenv : Env} {x : Str} {px : Pos} {c : Addr} (hx : cenv.kindOf x = some .cell) (hk : cenv.scope.kind = .function) (hc : cenv.cells.lookup x = some c) :
    Slot prog w A cenv x px c (fun h o => h.IsCell c o) where
  store := by
    rintro s o v Q E hn q
    exact wpAny_assign_Name (wpAny_storeName_cell hk hx hc hn fun h' hn' hs' => q h' _ hn' hs')
  frame := fun h h' o ⟨ob, ho, e⟩ k => ⟨ob, k _ ho, e⟩
  live := fun h o ⟨ob, ho, e⟩ => ⟨ob, ho⟩

inductive CAt {α : Type} (s : Shared) (St : Nat → Heap → Prop) (S : Heap → Option Value → Prop) (o0 : Option Value) (h0 : Heap) (n : GL) (G : α → VP) (xs : List α) (p : α → Bool) (C D I V : Addr) : Nat → Shared → Prop
  | mk (H : Heap) (tk : Nat) (N : GL) (ys : List Value) (i : Nat) (ov : Option Value) : St i H → H.PlainList D ys.toArray → (∃ m, H.Ns C m) → S H ov → (ov = o0 ∨ ∃ v, ov = some v) → Le h0 H → Sub n N → GOk N H → (∀ q, q ∈ N → q ∈ n ∨ h0.get? q.1 = none) →
      (∀ q, q ∈ N → q.1 ≠ C ∧ q.1 ≠ D ∧ q.1 ≠ I ∧ q.1 ≠ V) → Paired (fun a y => G a N y) ((xs.take i).filter p) ys → i ≤ xs.length → CAt s St S o0 h0 n G xs p C D I V (xs.length + 1 - i) { s with heap := H, toks := tk }
theorem compLoop_core {α : Type} {A : Around} {R : Result → Shared → Prop} {s : Shared} {k : Nat} {elt iter : Expr} {x : Str} {px : Pos} {ifs : List Expr} {scope : Scope} {pos : Pos} {I D C V : Addr} {cenv : Env} {fp : List Addr} {P : Nat → Value → Prop} {St : Nat → Heap → Prop}
    {S : Heap → Option Value → Prop} {F G : α → VP} {xs : List α} {p : α → Bool} {n : GL} {h0 : Heap} {o0 : Option Value}
    (hA : Aok k A) (W : Walks prog w A I fp [I] xs.length P St) (hlive : ∀ i h, St i h → ∃ o, h.get? I = some o) (hfp : ∀ b, b ∈ fp → b = I ∨ ∃ o, (b, o) ∈ n)
    (hP : ∀ i v, i < xs.length → P i v → ∃ a, xs[i]? = some a ∧ F a n v) (mF : ∀ a, Mono (F a)) (mG : ∀ a, Mono (G a)) (Sl : Slot prog w A cenv x px V S)
    (hDI : D ≠ I) (hDC : D ≠ C) (hDV : D ≠ V) (hIC : I ≠ C) (hIV : I ≠ V) (fC : h0.get? C = none) (fD : h0.get? D = none) (fI : h0.get? I = none) (fV : h0.get? V = none)
    (nC : ∀ h h' m, h.Ns C m → Heap.SameBut V h h' → S h' o0 ∨ (∃ v, S h' (some v)) → ∃ m', h'.Ns C m')
    (hk0 : Le h0 s.heap) (hok : GOk n h0) (hst : St 0 s.heap) (hacc : s.heap.PlainList D #[]) (hns : ∃ m, s.heap.Ns C m) (hS : S s.heap o0)
    (htest : ∀ (i : Nat) a v H N, xs[i]? = some a → Le h0 H → Sub n N → F a N v → S H (some v) → (∃ m, H.Ns C m) → Ev prog w k H N (forIn ifs true fun c r => if r = true then do let ok ← isTrue c cenv (eval c cenv); pure (ForInStep.yield ok) else pure (ForInStep.yield r)) (fun _ b => b = p a))
    (helt : ∀ (i : Nat) a v H N, xs[i]? = some a → p a = true → Le h0 H → Sub n N → F a N v → S H (some v) → (∃ m, H.Ns C m) → Ev prog w k H N (eval elt cenv) (G a))
    (hR : ∀ H tk N ys e, Le h0 H → Sub n N → GOk N H → (∀ q, q ∈ N → q ∈ n ∨ h0.get? q.1 = none) → (∀ q, q ∈ N → q.1 ≠ C ∧ q.1 ≠ D) → H.get? D = some (lst ys e) → Paired (fun a y => G a N y) (xs.filter p) ys → (∃ m, H.Ns C m) →
      R (.ok .next) { s with heap := H, toks := tk }) (hsz : xs.length ≤ 1000000) :
    codeAny (model prog w) A (.compLoop (.ListComp elt [⟨.Name x px, iter, ifs, 0⟩] scope pos) 0 (.ref I) (.ref D) cenv) R s := by
  refine codeAny_compLoop_tests
    (CAt s St S o0 h0 n G xs p C D I V) ?_ (xs.length + 1)
    (.mk s.heap s.toks n [] 0 o0 hst hacc hns hS (.inl rfl) hk0 (Sub.refl _) (hok.keep hk0) (fun _ e => .inl e) ?_ (by simpa using Paired.nil) (Nat.zero_le _))
  rotate_left
  · intro q hq
    have := hok q hq
    exact ⟨(ne_live fC this).symm, (ne_live fD this).symm, (ne_live fI this).symm, (ne_live fV this).symm⟩
  rintro j s' ⟨H, tk, N, ys, i, ov, hst', hacc', hns', hS', hov, hk, hsb, hokN, hnew, hap, hpr, hi⟩
  have stK : ∀ (i : Nat) (N' : GL) (H1 H2 : Heap), Sub n N' → St i H1 → (∀ ob, H1.get? I = some ob → H2.get? I = some ob) → GOk N' H1 → GOk N' H2 → St i H2 := by
    intro i N' H1 H2 sb st kI g1 g2
    refine W.frame _ _ _ st fun b hb o e => ?_
    rcases hfp b hb with rfl | ⟨ob, hob⟩
    · exact kI o e
    · have e1 := g1 _ (sb _ hob)
      have e2 := g2 _ (sb _ hob)
      dsimp only at e1 e2
      rw [e] at e1
      rw [e2, e1]
  by_cases hlt : i < xs.length
  · refine W.item i _ _ _ hlt hst' fun v H1 tk1 hPv hst1 hk1 => ?_
    obtain ⟨a, ha, fa⟩ := hP i v hlt hPv
    have hk1' : ∀ b o, b ≠ I → H.get? b = some o → H1.get? b = some o := fun b o hb e => hk1 b o (nin1 hb) e
    have ok1 : GOk N H1 := fun q hq => hk1' _ _ (hap q hq).2.2.1 (hokN q hq)
    have S1 : S H1 ov := Sl.frame _ _ _ hS' fun ob e => hk1' _ _ (Ne.symm hIV) e
    refine Sl.store _ ov v _ _ S1 fun H2 tk2 S2 sm2 => ?_
    have ok2 : GOk N H2 := fun q hq => sm2.extBut _ _ (hap q hq).2.2.2 (ok1 q hq)
    have le2 : Le h0 H2 := fun b o e => sm2.extBut b o (by rintro rfl; rw [fV] at e; cases e) (hk1' b o (by rintro rfl; rw [fI] at e; cases e) (hk b o e))
    obtain ⟨m', hnC⟩ := hns'
    have ns2 : ∃ m, H2.Ns C m := nC H1 H2 m' (hnC.at' fun o e => hk1' _ o (Ne.symm hIC) e) sm2 (.inr ⟨v, S2⟩)
    have st2 : St (i + 1) H2 := stK _ N H1 H2 hsb hst1 (fun ob e => sm2.extBut _ _ hIV e) ok1 ok2
    have D2 : H2.PlainList D ys.toArray := (hacc'.at fun o e => hk1' _ o hDI e).at fun o e => sm2.extBut _ _ hDV e
    have faN := mF a _ _ _ hsb fa
    have hs1 : (xs.take (i + 1)).filter p = (xs.take i).filter p ++ (if p a then [a] else []) := take_succ_filter p xs i a ha
    refine htest i a v H2 N ha le2 hsb faN S2 ns2 A _ N _ _ hA (Le.refl _) (Sub.refl _) ok2 fun b H3 tk3 N3 g3 hb => ?_
    subst hb
    have ap3 : ∀ q, q ∈ N3 → q.1 ≠ C ∧ q.1 ≠ D ∧ q.1 ≠ I ∧ q.1 ≠ V := fun q hq => by
      rcases g3.new q hq with h | h
      · exact hap q h
      · obtain ⟨_, oC, _, _, hoC, _⟩ := ns2
        obtain ⟨eD, hoD⟩ := D2
        obtain ⟨oI, hoI⟩ := hlive _ _ st2
        obtain ⟨oV, hoV⟩ := Sl.live _ _ S2
        exact ⟨ne_live h hoC, ne_live h hoD, ne_live h hoI, ne_live h hoV⟩
    have new3 : ∀ q, q ∈ N3 → q ∈ n ∨ h0.get? q.1 = none := fun q hq => (g3.new q hq).elim (hnew q) fun h => .inr (le2.none h)
    have st3 : St (i + 1) H3 := stK _ N H2 H3 hsb st2 (fun ob e => g3.keep _ _ e) ok2 (ok2.keep g3.keep)
    have D3 : H3.PlainList D ys.toArray := D2.at fun o e => g3.keep _ _ e
    have S3 : S H3 (some v) := Sl.frame _ _ _ S2 fun ob e => g3.keep _ _ e
    have ns3 : ∃ m, H3.Ns C m := ns2.imp fun m x => x.keeps g3.keep
    have pr3 : Paired (fun a y => G a N3 y) ((xs.take i).filter p) ys := Paired.mono' (fun a y q => mG a _ _ _ g3.more q) hpr
    cases hpa : p a with
    | false =>
      simp only [Bool.false_eq_true, if_false]
      refine ⟨xs.length + 1 - (i + 1), dec_lt hlt, H3, tk3, N3, ys, i + 1, some v, st3, D3, ns3, S3, .inr ⟨v, rfl⟩, le2.trans g3.keep, hsb.trans g3.more, g3.at_, new3, ap3, ?_, hlt⟩
      rw [hs1, hpa]; simpa using pr3
    | true =>
      simp only [if_true]
      refine helt i a v H3 N3 ha hpa (le2.trans g3.keep) (hsb.trans g3.more) (mF a _ _ _ (hsb.trans g3.more) fa) S3 ns3 A _ N3 _ _ hA (Le.refl _) (Sub.refl _) g3.at_ fun y H4 tk4 N4 g4 fy => ?_
      have D4 : H4.PlainList D ys.toArray := D3.at fun o e => g4.keep _ _ e
      have ap4 : ∀ q, q ∈ N4 → q.1 ≠ C ∧ q.1 ≠ D ∧ q.1 ≠ I ∧ q.1 ≠ V := fun q hq => by
        rcases g4.new q hq with h | h
        · exact ap3 q h
        · obtain ⟨_, oC, _, _, hoC, _⟩ := ns3
          obtain ⟨eD, hoD⟩ := D3
          obtain ⟨oI, hoI⟩ := hlive _ _ st3
          obtain ⟨oV, hoV⟩ := Sl.live _ _ S3
          exact ⟨ne_live h hoC, ne_live h hoD, ne_live h hoI, ne_live h hoV⟩
      have hys : ys.toArray.size ≤ sizeLine := by
        have e1 := hpr.length
        have e2 : ((xs.take i).filter p).length ≤ (xs.take i).length := List.length_filter_le _ _
        exact Nat.le_trans (Nat.le_of_eq e1.symm) (Nat.le_trans e2 (Nat.le_trans (List.length_take_le' _ _) (Nat.le_trans hsz million)))
      refine wpAny_list_append_plain (hsz := hys) D4 fun H5 hl5 sm5 => ?_
      have ok5 : GOk N4 H5 := fun q hq => sm5.extBut _ _ (ap4 q hq).2.1 (g4.at_ q hq)
      have le4 : Le h0 H4 := (le2.trans g3.keep).trans g4.keep
      refine ⟨xs.length + 1 - (i + 1), dec_lt hlt, H5, tk4, N4, ys ++ [y], i + 1, some v, ?_, by simpa using hl5, ?_, ?_, .inr ⟨v, rfl⟩, ?_, (hsb.trans g3.more).trans g4.more, ok5, ?_, ap4, ?_, hlt⟩
      · exact stK _ N4 H4 H5 ((hsb.trans g3.more).trans g4.more) (stK _ N3 H3 H4 (hsb.trans g3.more) st3 (fun ob e => g4.keep _ _ e) g3.at_ (g3.at_.keep g4.keep)) (fun ob e => sm5.extBut _ _ (Ne.symm hDI) e) g4.at_ ok5
      · exact ns3.imp fun m x => (x.keeps g4.keep).sameBut sm5 (Ne.symm hDC)
      · exact Sl.frame _ _ _ (Sl.frame _ _ _ S3 fun ob e => g4.keep _ _ e) fun ob e => sm5.extBut _ _ (Ne.symm hDV) e
      · exact fun b o e => sm5.extBut b o (by rintro rfl; rw [fD] at e; cases e) (le4 b o e)
      · exact fun q hq => (g4.new q hq).elim (new3 q) fun h => .inr ((le2.trans g3.keep).none h)
      · rw [hs1, hpa]
        exact Paired.app (Paired.mono' (fun a y q => mG a _ _ _ g4.more q) pr3) (show Paired (fun a y => G a N4 y) [a] [y] from Paired.cons (F := fun a y => G a N4 y) fy Paired.nil)
  · have hin : i = xs.length := Nat.le_antisymm hi (Nat.not_lt.mp hlt)
    subst hin
    refine W.done _ _ _ hst' fun H1 tk1 hk1 => ?_
    have hk1' : ∀ b o, b ≠ I → H.get? b = some o → H1.get? b = some o := fun b o hb e => hk1 b o (nin1 hb) e
    obtain ⟨e, he⟩ := hacc'
    refine hR H1 tk1 N ys e (fun b o q => hk1' b o (by rintro rfl; rw [fI] at q; cases q) (hk b o q)) hsb (fun q hq => hk1' _ _ (hap q hq).2.2.1 (hokN q hq)) hnew (fun q hq => ⟨(hap q hq).1, (hap q hq).2.1⟩) (hk1' _ _ hDI he) (by simpa using hpr) ?_
    exact hns'.imp fun m x => x.at' fun o q => hk1' _ o (Ne.symm hIC) q
end
end Mine
end
section
open PySem PySem.W PyProof.Rows PySem.Calls
set_option Elab.async false
set_option autoImplicit false
namespace Mine
section
variable {prog : Program} {w : World}

theorem newCompEnv {M : Model} {A : Around} {E : Value → Shared → Prop} {s : Shared} {scope : Scope} {env : Env} {cl : List (Str × Addr)} {Q : Env → Shared → Prop}
    (q : Q (newEnv scope s.heap.objs.size env.globals (cellsFrom (s.heap.objs.size + 1) scope.names cl) env.qual none .none (some env) builtinsNs)
      { s with heap := pushCells (s.heap.push { cls := .type "dict", data := .dict #[] }) scope.names }) :
    wpAny M A (newFunctionEnv scope env.globals cl [] env.qual none .none (some env)) Q E s := by
  simp only [newFunctionEnv, Option.isSome_some, if_true]
  refine wpAny_bind (wpAny_alloc ?_)
  refine wpAny_bind (wpAny_layCells _ (fun name kind cells => by cases kind == NameKind.cell <;> simp) _ _ _ _ ?_)
  rw [show ({ s with heap := s.heap.push { cls := .type "dict", data := .dict #[] } } : Shared).heap.objs.size = s.heap.objs.size + 1 from Heap.size_push ..]
  refine wpAny_bind ?_
  rw [List.forIn_nil]
  exact wpAny_pure (wpAny_pure q)

/-- what a comprehension's block leaves -/
def CompEnd {α : Type} (G : α → VP) (xs : List α) (p : α → Bool) (h0 : Heap) (n : GL) (RR : Value → Addr → Result → Shared → Prop) (s : Shared) : Prop :=
  ∀ D C H tk N ys e, h0.get? C = none → h0.get? D = none → D ≠ C → Le h0 H → Sub n N → GOk N H → (∀ q, q ∈ N → q ∈ n ∨ h0.get? q.1 = none) → (∀ q, q ∈ N → q.1 ≠ C ∧ q.1 ≠ D) → H.get? D = some (lst ys e) →
    Paired (fun a y => G a N y) (xs.filter p) ys → (∃ m, H.Ns C m) → RR (.ref D) C (.ok .next) { s with heap := H, toks := tk }

section
variable {α : Type} {A : Around} {E : Value → Shared → Prop} {s : Shared} {k : Nat} {elt iter : Expr} {x : Str} {px : Pos} {ifs : List Expr} {scope : Scope} {pos : Pos} {env : Env} {cl : List (Str × Addr)} {xv : Value} {P : Nat → Value → Prop}
    {F G : α → VP} {xs : List α} {p : α → Bool} {n : GL} {RR : Value → Addr → Result → Shared → Prop}

abbrev testsOf (ifs : List Expr) (cenv : Env) : Sem Bool := forIn ifs true fun c r => if r = true then do let ok ← isTrue c cenv (eval c cenv); pure (ForInStep.yield ok) else pure (ForInStep.yield r)

/-- the block of a comprehension whose name is a plain local -/
theorem compBlock_loc (hA : Aok k A) (hit : Iters prog w k n xv xs.length P) (hP : ∀ i v, i < xs.length → P i v → ∃ a, xs[i]? = some a ∧ F a n v) (mF : ∀ a, Mono (F a)) (mG : ∀ a, Mono (G a))
    (hok : GOk n s.heap) (hkind : scope.kind = .function) (hx : scope.names.lookup x = some .local) (hpc : ∀ h, pushCells h scope.names = h) (hcf : ∀ c, cellsFrom c scope.names cl = cl)
    (htest : ∀ (i : Nat) a v C H N, xs[i]? = some a → Le s.heap H → Sub n N → F a N v → NameIs prog w (compEnvC scope cl C env) H x v → Ev prog w k H N (testsOf ifs (compEnvC scope cl C env)) (fun _ b => b = p a))
    (helt : ∀ (i : Nat) a v C H N, xs[i]? = some a → p a = true → Le s.heap H → Sub n N → F a N v → NameIs prog w (compEnvC scope cl C env) H x v → Ev prog w k H N (eval elt (compEnvC scope cl C env)) (G a))
    (hR : CompEnd G xs p s.heap n RR s) (hsz : xs.length ≤ 1000000) (hd : (x == ("__debug__" : Str)) = false) :
    wpAny (model prog w) A (pyIter xv) (fun it s₂ => wpAny (model prog w) A (newList []) (fun acc s₃ => wpAny (model prog w) A (newFunctionEnv scope env.globals cl [] env.qual none .none (some env)) (fun cenv s₄ =>
      codeAny (model prog w) A (.compStart (.ListComp elt [⟨.Name x px, iter, ifs, 0⟩] scope pos) 0 it acc { cenv with scope := relabel scope env }) (RR acc cenv.locals) s₄) E s₃) E s₂) E s := by
  refine hit A s _ E hA hok fun I h1 fp St fI le1 hlive W st1 hfp => ?_
  refine wpAny_newObj_type ?_
  refine newCompEnv ?_
  rw [hpc, hcf]
  dsimp only
  obtain ⟨oI, hoI⟩ := hlive _ _ st1
  have lI : I < h1.objs.size := Heap.lt_size hoI
  have hD : (h1.push { cls := .type "list", dict := none, data := .seq ([] : List Value).toArray }).objs.size = h1.objs.size + 1 := Heap.size_push ..
  have le2 : Le h1 ((h1.push { cls := .type "list", dict := none, data := .seq ([] : List Value).toArray }).push { cls := .type "dict", data := .dict #[] }) := (Le.push _ _).trans (Le.push _ _)
  have fD : s.heap.get? h1.objs.size = none := le1.none (new_none _)
  have fC : s.heap.get? (h1.objs.size + 1) = none := le1.none (new_none' (Nat.le_succ _))
  have kx : (compEnvC scope cl (h1.objs.size + 1) env).kindOf x = some .local := lookup_relabel_local hx
  rw [hD]
  have loop : ∀ s₃ : Shared, s₃ = { s with heap := (h1.push { cls := .type "list", dict := none, data := .seq ([] : List Value).toArray }).push { cls := .type "dict", data := .dict #[] } } →
      codeAny (model prog w) A (.compLoop (.ListComp elt [⟨.Name x px, iter, ifs, 0⟩] scope pos) 0 (.ref I) (.ref h1.objs.size) (compEnvC scope cl (h1.objs.size + 1) env)) (RR (.ref h1.objs.size) (h1.objs.size + 1)) s₃ := by
    rintro s₃ rfl
    have nsC : ((h1.push { cls := .type "list", dict := none, data := .seq ([] : List Value).toArray }).push { cls := .type "dict", data := .dict #[] }).Ns (h1.objs.size + 1) (fun _ => none) := by
      have := Heap.Ns.new (h1.push { cls := .type "list", dict := none, data := .seq ([] : List Value).toArray }) (.type "dict")
      rwa [hD] at this
    refine compLoop_core (C := h1.objs.size + 1) (V := h1.objs.size + 1) (h0 := s.heap) (o0 := none) (F := F) (G := G) (xs := xs) (p := p) (n := n) hA W hlive hfp hP mF mG (slot_loc (cenv := compEnvC scope cl (h1.objs.size + 1) env) kx hkind)
      (Ne.symm (Nat.ne_of_lt lI)) (Nat.ne_of_lt (Nat.lt_succ_self _)) (Nat.ne_of_lt (Nat.lt_succ_self _)) (Nat.ne_of_lt (Nat.lt_succ_of_lt lI)) (Nat.ne_of_lt (Nat.lt_succ_of_lt lI)) fC fD fI fC
      ?_ (le1.trans le2) hok ?_ ?_ ⟨_, nsC⟩ ⟨_, nsC, rfl⟩ ?_ ?_ ?_ hsz
    · rintro h h' m _ _ (⟨m', hm, _⟩ | ⟨v, m', hm, _⟩) <;> exact ⟨m', hm⟩
    · refine W.frame _ _ _ st1 fun b hb o e => le2 _ _ e
    · exact ⟨_, Le.push _ _ _ _ (Heap.get?_push_size _ rfl)⟩
    · rintro i a v H N ha hle hsb fa ⟨m, hn, hm⟩ _
      exact htest i a v _ H N ha hle hsb fa (NameIs.loc hn hm hkind kx hd)
    · rintro i a v H N ha hpa hle hsb fa ⟨m, hn, hm⟩ _
      exact helt i a v _ H N ha hpa hle hsb fa (NameIs.loc hn hm hkind kx hd)
    · intro H tk N ys e le sb ok new ap hDl pr ns
      exact hR _ _ H tk N ys e fC fD (Nat.ne_of_lt (Nat.lt_succ_self _)) le sb ok new ap hDl pr ns
  exact codeAny_compStart_list (loop _ rfl) (W.self 0 _ _ _ (W.frame _ _ _ st1 fun b hb o e => le2 _ _ e) (loop _ rfl))

/-- the same where the name is kept in a cell of the comprehension's own -/
theorem compBlock_cel (hA : Aok k A) (hit : Iters prog w k n xv xs.length P) (hP : ∀ i v, i < xs.length → P i v → ∃ a, xs[i]? = some a ∧ F a n v) (mF : ∀ a, Mono (F a)) (mG : ∀ a, Mono (G a))
    (hok : GOk n s.heap) (hkind : scope.kind = .function) (hx : ∀ e : Env, (relabel scope e).names.lookup x = some .cell) (hpc : ∀ h, pushCells h scope.names = h.push { cls := .type "cell", data := .cell none }) (hcf : ∀ c, cellsFrom c scope.names cl = (x, c) :: cl)
    (htest : ∀ (i : Nat) a v C H N, xs[i]? = some a → Le s.heap H → Sub n N → F a N v → H.IsCell (C + 1) (some v) → Ev prog w k H N (testsOf ifs (compEnvC scope ((x, C + 1) :: cl) C env)) (fun _ b => b = p a))
    (helt : ∀ (i : Nat) a v C H N, xs[i]? = some a → p a = true → Le s.heap H → Sub n N → F a N v → H.IsCell (C + 1) (some v) → Ev prog w k H N (eval elt (compEnvC scope ((x, C + 1) :: cl) C env)) (G a))
    (hR : CompEnd G xs p s.heap n RR s) (hsz : xs.length ≤ 1000000) :
    wpAny (model prog w) A (pyIter xv) (fun it s₂ => wpAny (model prog w) A (newList []) (fun acc s₃ => wpAny (model prog w) A (newFunctionEnv scope env.globals cl [] env.qual none .none (some env)) (fun cenv s₄ =>
      codeAny (model prog w) A (.compStart (.ListComp elt [⟨.Name x px, iter, ifs, 0⟩] scope pos) 0 it acc { cenv with scope := relabel scope env }) (RR acc cenv.locals) s₄) E s₃) E s₂) E s := by
  refine hit A s _ E hA hok fun I h1 fp St fI le1 hlive W st1 hfp => ?_
  refine wpAny_newObj_type ?_
  refine newCompEnv ?_
  rw [hpc, hcf]
  dsimp only
  obtain ⟨oI, hoI⟩ := hlive _ _ st1
  have lI : I < h1.objs.size := Heap.lt_size hoI
  have hD : (h1.push { cls := .type "list", dict := none, data := .seq ([] : List Value).toArray }).objs.size = h1.objs.size + 1 := Heap.size_push ..
  have hC : ((h1.push { cls := .type "list", dict := none, data := .seq ([] : List Value).toArray }).push { cls := .type "dict", data := .dict #[] }).objs.size = h1.objs.size + 1 + 1 := by rw [Heap.size_push, hD]
  have le2 : Le h1 (((h1.push { cls := .type "list", dict := none, data := .seq ([] : List Value).toArray }).push { cls := .type "dict", data := .dict #[] }).push { cls := .type "cell", data := .cell none }) := ((Le.push _ _).trans (Le.push _ _)).trans (Le.push _ _)
  have fD : s.heap.get? h1.objs.size = none := le1.none (new_none _)
  have fC : s.heap.get? (h1.objs.size + 1) = none := le1.none (new_none' (Nat.le_succ _))
  have fV : s.heap.get? (h1.objs.size + 1 + 1) = none := le1.none (new_none' (Nat.le_trans (Nat.le_succ _) (Nat.le_succ _)))
  rw [hD]
  have loop : ∀ s₃ : Shared, s₃ = { s with heap := ((h1.push { cls := .type "list", dict := none, data := .seq ([] : List Value).toArray }).push { cls := .type "dict", data := .dict #[] }).push { cls := .type "cell", data := .cell none } } →
      codeAny (model prog w) A (.compLoop (.ListComp elt [⟨.Name x px, iter, ifs, 0⟩] scope pos) 0 (.ref I) (.ref h1.objs.size) (compEnvC scope ((x, h1.objs.size + 1 + 1) :: cl) (h1.objs.size + 1) env)) (RR (.ref h1.objs.size) (h1.objs.size + 1)) s₃ := by
    rintro s₃ rfl
    have nsC : (((h1.push { cls := .type "list", dict := none, data := .seq ([] : List Value).toArray }).push { cls := .type "dict", data := .dict #[] }).push { cls := .type "cell", data := .cell none }).Ns (h1.objs.size + 1) (fun _ => none) := by
      have := Heap.Ns.new (h1.push { cls := .type "list", dict := none, data := .seq ([] : List Value).toArray }) (.type "dict")
      rw [hD] at this
      exact this.keeps (Le.push _ _)
    have cV : (((h1.push { cls := .type "list", dict := none, data := .seq ([] : List Value).toArray }).push { cls := .type "dict", data := .dict #[] }).push { cls := .type "cell", data := .cell none }).IsCell (h1.objs.size + 1 + 1) none := by
      have := Heap.get?_push_size (h := (h1.push { cls := .type "list", dict := none, data := .seq ([] : List Value).toArray }).push { cls := .type "dict", data := .dict #[] }) (o := { cls := .type "cell", data := .cell none }) rfl
      rw [hC] at this
      exact ⟨_, this, rfl⟩
    refine compLoop_core (C := h1.objs.size + 1) (V := h1.objs.size + 1 + 1) (h0 := s.heap) (o0 := none) (F := F) (G := G) (xs := xs) (p := p) (n := n) hA W hlive hfp hP mF mG
      (slot_cel (cenv := compEnvC scope ((x, h1.objs.size + 1 + 1) :: cl) (h1.objs.size + 1) env) (c := h1.objs.size + 1 + 1) (hx env) hkind (by simp [compEnvC]))
      (Ne.symm (Nat.ne_of_lt lI)) (Nat.ne_of_lt (Nat.lt_succ_self _)) (Nat.ne_of_lt (Nat.lt_succ_of_lt (Nat.lt_succ_self _))) (Nat.ne_of_lt (Nat.lt_succ_of_lt lI)) (Nat.ne_of_lt (Nat.lt_succ_of_lt (Nat.lt_succ_of_lt lI))) fC fD fI fV
      ?_ (le1.trans le2) hok ?_ ?_ ⟨_, nsC⟩ cV ?_ ?_ ?_ hsz
    · intro h h' m hm sm _
      exact ⟨m, hm.sameBut sm (Nat.ne_of_lt (Nat.lt_succ_self _))⟩
    · refine W.frame _ _ _ st1 fun b hb o e => le2 _ _ e
    · exact ⟨_, Le.push _ _ _ _ (Le.push _ _ _ _ (Heap.get?_push_size _ rfl))⟩
    · intro i a v H N ha hle hsb fa hc _
      exact htest i a v _ H N ha hle hsb fa hc
    · intro i a v H N ha hpa hle hsb fa hc _
      exact helt i a v _ H N ha hpa hle hsb fa hc
    · intro H tk N ys e le sb ok new ap hDl pr ns
      exact hR _ _ H tk N ys e fC fD (Nat.ne_of_lt (Nat.lt_succ_self _)) le sb ok new ap hDl pr ns
  exact codeAny_compStart_list (loop _ rfl) (W.self 0 _ _ _ (W.frame _ _ _ st1 fun b hb o e => le2 _ _ e) (loop _ rfl))
end
end
end Mine
end
section
open PySem PySem.W PyProof.Rows PySem.Calls
set_option Elab.async false
set_option autoImplicit false
namespace Mine
section
variable {prog : Program} {w : World}

/-- an iterable that hands out the xs, each as F says -/
def Hands (prog : Program) (w : World) {α : Type} (k : Nat) (F : α → VP) (xs : List α) (n : GL) (xv : Value) : Prop :=
  ∃ P, Iters prog w k n xv xs.length P ∧ ∀ i v, i < xs.length → P i v → ∃ a, xs[i]? = some a ∧ F a n v
theorem hands_list {α : Type} {k : Nat} {F : α → VP} {xs : List α} {n : GL} {v : Value} (x : ListV F xs n v) : Hands prog w k F xs n v := by
  obtain ⟨a, vs, e, rfl, hm, hp⟩ := x
  refine ⟨_, by rw [hp.length]; exact iters_list hm, fun i v _ hv => ?_⟩
  obtain ⟨y, hy, fy⟩ := Paired.get' hp hv
  exact ⟨y, hy, fy⟩
def rangeL (a b : Int) : List Int := (List.range (b - a).toNat).map fun (i : Nat) => a + (i : Int)
theorem rangeL_length (a b : Int) : (rangeL a b).length = (b - a).toNat := by simp [rangeL]
theorem hands_range {k : Nat} {a b : Int} {n : GL} {v : Value} (ha : a.natAbs < 2 ^ 40) (hb : b.natAbs < 2 ^ 40) (x : RangeV a b n v) : Hands prog w k IntV (rangeL a b) n v := by
  obtain ⟨r, t, u, t', rfl, hm⟩ := x
  refine ⟨_, by rw [rangeL_length]; exact iters_range hm ha hb, ?_⟩
  rintro i v hi ⟨t, rfl⟩
  rw [rangeL_length] at hi
  exact ⟨a + i, by simp [rangeL, hi], t, rfl⟩
def sgn (c : Nat) : VP := StrV ⟨#[c]⟩
theorem hands_str {k : Nat} {x : Str} {n : GL} {v : Value} (h : StrV x n v) : Hands prog w k sgn x.cps.toList n v := by
  obtain ⟨t, rfl⟩ := h
  refine ⟨_, by rw [Array.length_toList]; exact iters_str, ?_⟩
  rintro i v hi ⟨c, u, hc, rfl⟩
  exact ⟨c, by simpa using hc, u, rfl⟩

section
variable {α : Type} {k : Nat} {h : Heap} {elt iter : Expr} {x : Str} {px : Pos} {ifs : List Expr} {scope : Scope} {pos : Pos} {env : Env} {cl : List (Str × Addr)} {F G : α → VP} {Fi : VP} {xs : List α} {p : α → Bool} {n : GL}

theorem compEnd_none {A : Around} {E : Value → Shared → Prop} {s s₁ : Shared} {n₁ n₂ : GL} {Q : Value → Shared → Prop} (mG : ∀ a, Mono (G a)) (g : Grow s.heap n₁ s₁.heap n₂) (hs : ∃ h' tk, s₁ = { s with heap := h', toks := tk })
    (q : ∀ v h' tk n', Grow s.heap n₁ h' n' → ListV G (xs.filter p) n' v → Q v { s with heap := h', toks := tk }) :
    CompEnd G xs p s₁.heap n₂ (fun acc C => compPost (model prog w) A E none Q acc C) s₁ := by
  intro D C H tk N ys e fC fD hDC le sb ok new ap hD pr ns
  obtain ⟨h', tk', rfl⟩ := hs
  obtain ⟨m, hm⟩ := ns
  refine ⟨m, hm, fun H' sm => ?_⟩
  have ok' : GOk N H' := fun a ha => sm.extBut _ _ (ap a ha).1 (ok a ha)
  have le' : Le h' H' := fun b o e => sm.extBut b o (by rintro rfl; rw [fC] at e; cases e) (le b o e)
  have hD' : H'.get? D = some (lst ys e) := sm.extBut _ _ hDC hD
  refine q _ H' tk ((D, lst ys e) :: N) (g.trans ⟨le', sb.trans (Sub.cons _ _), ?_, ?_⟩) ⟨D, ys, e, rfl, .head _, Paired.mono' (fun a y z => mG a _ _ _ (Sub.cons _ _) z) pr⟩
  · intro a ha
    rcases List.mem_cons.mp ha with rfl | ha
    · exact hD'
    · exact ok' a ha
  · intro a ha
    rcases List.mem_cons.mp ha with rfl | ha
    · exact .inr fD
    · exact new a ha

/-- a comprehension whose name is a plain local -/
theorem Ev.compL (hiter : Ev prog w k h n (eval iter env) Fi) (hit : ∀ n' xv, Sub n n' → Fi n' xv → Hands prog w k F xs n' xv) (mF : ∀ a, Mono (F a)) (mG : ∀ a, Mono (G a))
    (htest : ∀ (i : Nat) a v C H N, xs[i]? = some a → Le h H → Sub n N → F a N v → NameIs prog w (compEnvC scope cl C env) H x v → Ev prog w k H N (testsOf ifs (compEnvC scope cl C env)) (fun _ b => b = p a))
    (helt : ∀ (i : Nat) a v C H N, xs[i]? = some a → p a = true → Le h H → Sub n N → F a N v → NameIs prog w (compEnvC scope cl C env) H x v → Ev prog w k H N (eval elt (compEnvC scope cl C env)) (G a))
    (hsz : xs.length ≤ 1000000) (hclos : closureFor scope env = pure cl := by rfl) (hkind : scope.kind = .function := by rfl) (hnames : ∀ y ∈ scope.names, y.2 = .local → scope.names.lookup y.1 = some .local := by decide)
    (hx : scope.names.lookup x = some .local := by rfl) (hpc : ∀ h, pushCells h scope.names = h := by intro _; rfl) (hcf : ∀ c, cellsFrom c scope.names cl = cl := by intro _; rfl) (hd : (x == ("__debug__" : Str)) = false := by decide)
    (hs : ∀ x, foldedSetIterable iter env x = Pure.pure x := by intro _; rfl) :
    Ev prog w k h n (eval (.ListComp elt [⟨.Name x px, iter, ifs, 0⟩] scope pos) env) (ListV G (xs.filter p)) := by
  intro A s n₁ Q E hA l sb ok q
  rw [eval_ListComp]
  refine wpAny_comprehension_free (use := none) rfl hs hclos hkind hnames (hiter A s n₁ _ E hA l sb ok fun xv h1 t1 n1 g1 f1 => ?_)
  obtain ⟨P, hI, hP⟩ := hit n1 xv (sb.trans g1.more) f1
  refine compBlock_loc (s := { s with heap := h1, toks := t1 }) hA hI hP mF mG g1.at_ hkind hx hpc hcf ?_ ?_ (compEnd_none (s := s) mG g1 ⟨h1, t1, rfl⟩ q) hsz hd
  · intro i a v C H N ha le sb' fa nm
    exact htest i a v C H N ha ((l.trans g1.keep).trans le) ((sb.trans g1.more).trans sb') fa nm
  · intro i a v C H N ha hpa le sb' fa nm
    exact helt i a v C H N ha hpa ((l.trans g1.keep).trans le) ((sb.trans g1.more).trans sb') fa nm
/-- a comprehension whose name is kept in a cell of its own -/
theorem Ev.compC (hiter : Ev prog w k h n (eval iter env) Fi) (hit : ∀ n' xv, Sub n n' → Fi n' xv → Hands prog w k F xs n' xv) (mF : ∀ a, Mono (F a)) (mG : ∀ a, Mono (G a))
    (htest : ∀ (i : Nat) a v C H N, xs[i]? = some a → Le h H → Sub n N → F a N v → H.IsCell (C + 1) (some v) → Ev prog w k H N (testsOf ifs (compEnvC scope ((x, C + 1) :: cl) C env)) (fun _ b => b = p a))
    (helt : ∀ (i : Nat) a v C H N, xs[i]? = some a → p a = true → Le h H → Sub n N → F a N v → H.IsCell (C + 1) (some v) → Ev prog w k H N (eval elt (compEnvC scope ((x, C + 1) :: cl) C env)) (G a))
    (hsz : xs.length ≤ 1000000) (hclos : closureFor scope env = pure cl := by rfl) (hkind : scope.kind = .function := by rfl) (hnames : ∀ y ∈ scope.names, y.2 = .local → scope.names.lookup y.1 = some .local := by decide)
    (hx : ∀ e : Env, (relabel scope e).names.lookup x = some .cell := by intro _; rfl) (hpc : ∀ h, pushCells h scope.names = h.push { cls := .type "cell", data := .cell none } := by intro _; rfl) (hcf : ∀ c, cellsFrom c scope.names cl = (x, c) :: cl := by intro _; rfl)
    (hs : ∀ x, foldedSetIterable iter env x = Pure.pure x := by intro _; rfl) :
    Ev prog w k h n (eval (.ListComp elt [⟨.Name x px, iter, ifs, 0⟩] scope pos) env) (ListV G (xs.filter p)) := by
  intro A s n₁ Q E hA l sb ok q
  rw [eval_ListComp]
  refine wpAny_comprehension_free (use := none) rfl hs hclos hkind hnames (hiter A s n₁ _ E hA l sb ok fun xv h1 t1 n1 g1 f1 => ?_)
  obtain ⟨P, hI, hP⟩ := hit n1 xv (sb.trans g1.more) f1
  refine compBlock_cel (s := { s with heap := h1, toks := t1 }) hA hI hP mF mG g1.at_ hkind hx hpc hcf ?_ ?_ (compEnd_none (s := s) mG g1 ⟨h1, t1, rfl⟩ q) hsz
  · intro i a v C H N ha le sb' fa nm
    exact htest i a v C H N ha ((l.trans g1.keep).trans le) ((sb.trans g1.more).trans sb') fa nm
  · intro i a v C H N ha hpa le sb' fa nm
    exact helt i a v C H N ha hpa ((l.trans g1.keep).trans le) ((sb.trans g1.more).trans sb') fa nm
theorem Ev.tests0 {p : Bool} {cenv : Env} (hp : p = true) : Ev prog w k h n (testsOf [] cenv) (fun _ b => b = p) := fun _ s n₁ _ _ _ _ _ ok q => wpAny_tests_nil (q true s.heap s.toks n₁ (Grow.refl ok) hp.symm)
theorem Ev.tests1 {p : Bool} {cenv : Env} {c : Expr} (x : Ev prog w k h n (isTrue c cenv (eval c cenv)) (fun _ b => b = p)) : Ev prog w k h n (testsOf [c] cenv) (fun _ b => b = p) :=
  fun A s n₁ Q E hA l sb ok q => wpAny_tests_one (x A s n₁ Q E hA l sb ok q)
end
end
end Mine
end
section
open PySem PySem.W PyProof.Rows PySem.Calls
set_option Elab.async false
set_option autoImplicit false
namespace Mine

/-- a body's ground: B the heap and n₀ the ghost at the start, ow what is the body's own and may turn -/
structure Fx (B : Heap) (n₀ : GL) (ow : List Addr) (h : Heap) (n : GL) : Prop where
  keep : Le B h
  more : Sub n₀ n
  ok : GOk n h
  new : ∀ p, p ∈ n → p ∈ n₀ ∨ B.get? p.1 = none
  apart : ∀ p, p ∈ n → ∀ a, a ∈ ow → p.1 ≠ a
  live : ∀ a, a ∈ ow → ∃ o, h.get? a = some o
  fresh : ∀ a, a ∈ ow → B.get? a = none
namespace Fx
variable {B : Heap} {n₀ : GL} {ow : List Addr} {h h' : Heap} {n n' : GL}
theorem done (x : Fx B n₀ ow h n) : Grow B n₀ h n := ⟨x.keep, x.more, x.ok, x.new⟩
theorem grow (x : Fx B n₀ ow h n) (g : Grow h n h' n') : Fx B n₀ ow h' n' where
  keep := x.keep.trans g.keep
  more := x.more.trans g.more
  ok := g.at_
  new := fun p hp => (g.new p hp).elim (x.new p) fun q => .inr (x.keep.none q)
  apart := fun p hp a ha => (g.new p hp).elim (fun q => x.apart p q a ha) fun q e => by
    obtain ⟨o, ho⟩ := x.live a ha
    rw [e, ho] at q; cases q
  live := fun a ha => (x.live a ha).imp fun o ho => g.keep _ _ ho
  fresh := x.fresh
theorem upd (x : Fx B n₀ ow h n) {a : Addr} (ha : a ∈ ow) (sm : Heap.SameBut a h h') (hl : ∃ o, h'.get? a = some o) : Fx B n₀ ow h' n where
  keep := fun b o e => sm.extBut b o (by rintro rfl; rw [x.fresh _ ha] at e; cases e) (x.keep b o e)
  more := x.more
  ok := fun p hp => sm.extBut _ _ (x.apart p hp a ha) (x.ok p hp)
  new := x.new
  apart := x.apart
  live := fun b hb => by
    by_cases e : b = a
    · exact e ▸ hl
    · exact (x.live b hb).imp fun o ho => sm.extBut _ _ e ho
  fresh := x.fresh
theorem own (x : Fx B n₀ ow h n) {a : Addr} {o : Obj} (le : Le h h') (f : h.get? a = none) (ho : h'.get? a = some o) : Fx B n₀ (a :: ow) h' n where
  keep := x.keep.trans le
  more := x.more
  ok := x.ok.keep le
  new := x.new
  apart := fun p hp b hb => by
    rcases List.mem_cons.mp hb with rfl | hb
    · intro e
      have := x.ok p hp
      rw [e, f] at this; cases this
    · exact x.apart p hp b hb
  live := fun b hb => by
    rcases List.mem_cons.mp hb with rfl | hb
    · exact ⟨o, ho⟩
    · exact (x.live b hb).imp fun o ho => le _ _ ho
  fresh := fun b hb => by
    rcases List.mem_cons.mp hb with rfl | hb
    · exact x.keep.none f
    · exact x.fresh b hb
theorem less (x : Fx B n₀ ow h n) {ow' : List Addr} (hs : ∀ a, a ∈ ow' → a ∈ ow) : Fx B n₀ ow' h n :=
  ⟨x.keep, x.more, x.ok, x.new, fun p hp a ha => x.apart p hp a (hs a ha), fun a ha => x.live a (hs a ha), fun a ha => x.fresh a (hs a ha)⟩
theorem freeze (x : Fx B n₀ ow h n) {a : Addr} {o : Obj} {ow' : List Addr} (ha : a ∈ ow) (ho : h.get? a = some o) (hs : ∀ b, b ∈ ow' → b ∈ ow ∧ b ≠ a) : Fx B n₀ ow' h ((a, o) :: n) where
  keep := x.keep
  more := x.more.trans (Sub.cons _ _)
  ok := fun p hp => by
    rcases List.mem_cons.mp hp with rfl | hp
    · exact ho
    · exact x.ok p hp
  new := fun p hp => by
    rcases List.mem_cons.mp hp with rfl | hp
    · exact .inr (x.fresh _ ha)
    · exact x.new p hp
  apart := fun p hp b hb => by
    rcases List.mem_cons.mp hp with rfl | hp
    · exact Ne.symm (hs b hb).2
    · exact x.apart p hp b (hs b hb).1
  live := fun b hb => x.live b (hs b hb).1
  fresh := fun b hb => x.fresh b (hs b hb).1
/-- another base: all that stands now but what is one's own -/
theorem rebase (x : Fx B n₀ ow h n) : Fx (hideAll h ow) n ow h n :=
  ⟨fun _ _ e => of_hideAll _ e, Sub.refl _, x.ok, fun _ hp => .inl hp, x.apart, x.live, fun _ ha => hideAll_none _ ha⟩
theorem back (x : Fx B n₀ ow h n) (y : Fx (hideAll h ow) n ow h' n') : Fx B n₀ ow h' n' where
  keep := fun b o e => y.keep b o (hideAll_get _ (x.keep b o e) fun hb => by rw [x.fresh _ hb] at e; cases e)
  more := x.more.trans y.more
  ok := y.ok
  new := fun p hp => (y.new p hp).elim (x.new p) fun q => .inr (by
    cases e : B.get? p.1 with
    | none => rfl
    | some o =>
      have := hideAll_get ow (x.keep _ _ e) fun hb => by rw [x.fresh _ hb] at e; cases e
      rw [this] at q; cases q)
  apart := y.apart
  live := y.live
  fresh := x.fresh
end Fx

section
variable {prog : Program} {w : World}

theorem allC {P : Addr → Prop} {a : Addr} {l : List Addr} (x : P a) (r : ∀ q, q ∈ l → P q) : ∀ q, q ∈ a :: l → P q := List.forall_mem_cons.mpr ⟨x, r⟩
theorem allN {P : Addr → Prop} : ∀ q, q ∈ ([] : List Addr) → P q := fun _ h => nomatch h
theorem all1 {P : Addr → Prop} {a : Addr} (x : P a) : ∀ q, q ∈ [a] → P q := allC x allN
theorem nsLive {h : Heap} {L : Addr} {m : Str → Option Value} (x : h.Ns L m) : ∃ o, h.get? L = some o := let ⟨o, _, _, ho, _⟩ := x; ⟨o, ho⟩
theorem cellLive {h : Heap} {c : Addr} {v : Option Value} (x : h.IsCell c v) : ∃ o, h.get? c = some o := let ⟨o, ho, _⟩ := x; ⟨o, ho⟩
/-- what follows a block -/
def Then (prog : Program) (w : World) (A : Around) (E : Value → Shared → Prop) (env : Env) (rest : List Stmt) (Q : Flow → Shared → Prop) (f : Flow) (s' : Shared) : Prop := match f with | .next => wpAny (model prog w) A (execs rest env) Q E s' | f => Q f s'
/-- how a body ends: the flow, the heap, the ghost -/
def Ends (B : Heap) (n₀ : GL) (s : Shared) (R : GL → Value → Prop) (f : Flow) (s' : Shared) : Prop := ∃ h' tk n', s' = { s with heap := h', toks := tk } ∧ Grow B n₀ h' n' ∧ R n' (match f with | .ret v => v | _ => .none)

theorem Ev.enter {K : Frag} {mg mb : Str → Option Value} {k : Nat} {h : Heap} {n : GL} {fa : Addr} {fd : FuncData} {body : List Stmt} {vs : List Value} {binds : List (Str × Value)} {R : GL → Value → Prop} {oc : Value} {od : Option Addr} {osl : Array (Option Value)}
    (G : Gd K mg mb h) (hK : K.lookup fa = some ⟨oc, od, .func fd, osl⟩) (hcd : codeIn K fd.code fd.qualname = true) (hbody : fd.body = .stmts body) (hbind : bindArgs fd ⟨vs, []⟩ = pure binds)
    (H : ∀ (A : Around) (s : Shared) (h₁ : Heap) (n₁ : GL) (tk : Nat), Aok k A → Le h s.heap → Sub n n₁ → h₁.Ns s.heap.objs.size (fun x => binds.reverse.lookup x) → Fx s.heap n₁ [s.heap.objs.size] h₁ n₁ →
      wpAny (model prog w) A (execs body (callEnv fd s.heap.objs.size fa)) (Ends s.heap n₁ s R) (fun _ _ => False) { s with heap := h₁, toks := tk })
    (hcell : ∀ x ∈ fd.scope.names, x.2 ≠ .cell := by decide) (hloc : ∀ x ∈ binds, fd.scope.names.lookup x.1 = some .local := by exact locs rfl)
    (hco : fd.scope.isCoroutine = false := by rfl) (hgen : fd.scope.isGenerator = false := by rfl) (hk : fd.scope.kind = .function := by rfl) : Ev prog w (k + 1) h n (call (.ref fa) vs) R := by
  intro A s n₁ Q E hA l sb ok q
  have G' := G.keeps l
  refine wpAny_call (codeAny_call_def hA.room (G'.K _ _ hK) rfl G'.nolimit (codeRec_of G'.K hcd) hbody (BindsTo.of_eq hbind) hcell hloc (fun h₀ hns hk0 => ?_) hco hgen hk)
  refine wpAny_mono (H _ s h₀ n₁ _ ?_ l sb hns ?_) (fun f s' hf => ?_) fun _ _ e => e.elim
  · exact (hA.deep _)
  · refine ⟨hk0, Sub.refl _, ok.keep hk0, fun _ e => .inl e, fun p hp a ha => ?_, fun a ha => ?_, fun a ha => ?_⟩
    · rw [List.mem_singleton.mp ha]; exact Nat.ne_of_lt (Heap.lt_size (ok p hp))
    · rw [List.mem_singleton.mp ha]; obtain ⟨o, _, _, ho, _⟩ := hns; exact ⟨o, ho⟩
    · rw [List.mem_singleton.mp ha]; exact new_none _
  · obtain ⟨h', tk, n', rfl, g, r⟩ := hf
    exact q _ h' tk n' g r

/-- the same for a def with names in cells -/
theorem Ev.enterC {K : Frag} {mg mb : Str → Option Value} {k : Nat} {h : Heap} {n : GL} {fa : Addr} {fd : FuncData} {body : List Stmt} {vs : List Value} {binds : List (Str × Value)} {R : GL → Value → Prop} {oc : Value} {od : Option Addr} {osl : Array (Option Value)}
    (G : Gd K mg mb h) (hK : K.lookup fa = some ⟨oc, od, .func fd, osl⟩) (hcd : codeIn K fd.code fd.qualname = true) (hbody : fd.body = .stmts body) (hbind : bindArgs fd ⟨vs, []⟩ = pure binds) (hclo : fd.closure = [])
    (hkind : (binds.all fun y => fd.scope.names.lookup y.1 == some .local || fd.scope.names.lookup y.1 == some .cell) = true)
    (H : ∀ (A : Around) (s : Shared) (h₁ : Heap) (n₁ : GL) (tk : Nat), Aok k A → Le h s.heap → Sub n n₁ →
      h₁.Ns s.heap.objs.size (bindL (callEnvC fd s.heap.objs.size fa).kindOf binds fun _ => none) →
      (∀ x c, (callEnvC fd s.heap.objs.size fa).cells.lookup x = some c → h₁.IsCell c (bindC (callEnvC fd s.heap.objs.size fa).kindOf binds (fun _ => none) x)) →
      Fx s.heap n₁ (s.heap.objs.size :: (callEnvC fd s.heap.objs.size fa).cells.map (·.2)) h₁ n₁ →
      wpAny (model prog w) A (execs body (callEnvC fd s.heap.objs.size fa)) (Ends s.heap n₁ s R) (fun _ _ => False) { s with heap := h₁, toks := tk })
    (hnd : ((cellsFrom 0 fd.scope.names []).map (·.1)).Nodup := by decide +kernel)
    (hco : fd.scope.isCoroutine = false := by rfl) (hgen : fd.scope.isGenerator = false := by rfl) (hk : fd.scope.kind = .function := by rfl) : Ev prog w (k + 1) h n (call (.ref fa) vs) R := by
  intro A s n₁ Q E hA l sb ok q
  have G' := G.keeps l
  refine wpAny_call (codeAny_call_cells hA.room (G'.K _ _ hK) rfl G'.nolimit (codeRec_of G'.K hcd) hbody hbind hclo (kindsX hkind _) (fun s₁ x => ?_) hco hgen hk)
  obtain ⟨h₁, tk, rfl, hk0⟩ := x.done
  have nd : ((callEnvC fd s.heap.objs.size fa).cells.map (·.1)).Nodup := cellsFrom_names fd.scope.names 0 (s.heap.objs.size + 1) [] [] rfl ▸ hnd
  refine wpAny_mono (H _ s h₁ n₁ tk ?_ l sb x.toInCall.ns x.cell ?_) (fun f s' hf => ?_) fun _ _ e => e.elim
  · exact (hA.deep _)
  · have above : ∀ a, a ∈ s.heap.objs.size :: (callEnvC fd s.heap.objs.size fa).cells.map (·.2) → s.heap.objs.size ≤ a := fun a ha => by
      rcases List.mem_cons.mp ha with rfl | ha
      · exact Nat.le_refl _
      · obtain ⟨⟨y, c⟩, hc, rfl⟩ := List.mem_map.mp ha
        exact Nat.le_of_lt (x.above y c hc)
    refine ⟨hk0, Sub.refl _, ok.keep hk0, fun _ e => .inl e, fun p hp a ha => ?_, fun a ha => ?_, fun a ha => new_none' (above a ha)⟩
    · exact Nat.ne_of_lt (Nat.lt_of_lt_of_le (Heap.lt_size (ok p hp)) (above a ha))
    · rcases List.mem_cons.mp ha with rfl | ha
      · obtain ⟨o, _, _, ho, _⟩ := x.toInCall.ns; exact ⟨o, ho⟩
      · obtain ⟨⟨y, c⟩, hc, rfl⟩ := List.mem_map.mp ha
        obtain ⟨o, ho, _⟩ := x.cell y c (lookup_of_mem_nodup nd hc)
        exact ⟨o, ho⟩
  · obtain ⟨h', tk, n', rfl, g, r⟩ := hf
    exact q _ h' tk n' g r

section
variable {A : Around} {E : Value → Shared → Prop} {s : Shared} {k : Nat} {env : Env} {B : Heap} {n₀ n : GL} {ow : List Addr} {m : Str → Option Value} {rest : List Stmt} {Q : Flow → Shared → Prop} {F : VP}

theorem st_assign {x : Str} {px pos : Pos} {e : Expr} (hA : Aok k A) (X : Fx B n₀ ow s.heap n) (N : s.heap.Ns env.locals m) (hL : env.locals ∈ ow) (he : Ev prog w k s.heap n (eval e env) F)
    (next : ∀ v h' tk n', Fx B n₀ ow h' n' → h'.Ns env.locals (fun y => if y = x then some v else m y) → Sub n n' → F n' v → (∀ b o, b ≠ env.locals → s.heap.get? b = some o → h'.get? b = some o) →
      wpAny (model prog w) A (execs rest env) Q E { s with heap := h', toks := tk })
    (hx : env.kindOf x = some .local := by rfl) (hk : env.scope.kind = .function := by rfl) (hsw : swapsWith e (some (.Name x px)) pos.line env = Pure.pure false := by rfl) :
    wpAny (model prog w) A (execs (.Assign [.Name x px] e pos :: rest) env) Q E s := by
  refine wpAny_execs_cons (wpAny_Assign_Name (he A s n _ E hA (Le.refl _) (Sub.refl _) X.ok fun v h1 t1 n1 g1 f1 => ?_) hsw)
  refine wpAny_storeName_local hx (N.keeps g1.keep) (fun h2 hn2 sm2 => ?_) (by rw [hk]; rfl)
  exact next v h2 _ n1 ((X.grow g1).upd hL sm2 (let ⟨o, _, _, ho, _⟩ := hn2; ⟨o, ho⟩)) hn2 g1.more f1 fun b o hb e => sm2.extBut b o hb (g1.keep b o e)
theorem st_assignI {x : Str} {px pos : Pos} {e : Expr} {i : Int} (hA : Aok k A) (X : Fx B n₀ ow s.heap n) (N : s.heap.Ns env.locals m) (hL : env.locals ∈ ow) (he : Ev prog w k s.heap n (eval e env) (IntV i))
    (next : ∀ u h' tk n', Fx B n₀ ow h' n' → h'.Ns env.locals (fun y => if y = x then some (.int i u) else m y) → Sub n n' → (∀ b o, b ≠ env.locals → s.heap.get? b = some o → h'.get? b = some o) →
      wpAny (model prog w) A (execs rest env) Q E { s with heap := h', toks := tk })
    (hx : env.kindOf x = some .local := by rfl) (hk : env.scope.kind = .function := by rfl) (hsw : swapsWith e (some (.Name x px)) pos.line env = Pure.pure false := by rfl) :
    wpAny (model prog w) A (execs (.Assign [.Name x px] e pos :: rest) env) Q E s :=
  st_assign hA X N hL he (fun v h' tk n' X' N' sb f kp => by
    obtain ⟨u, rfl⟩ := f; exact next u h' tk n' X' N' sb kp) hx hk hsw
theorem st_assignC {x : Str} {px pos : Pos} {e : Expr} {c : Addr} {ov : Option Value} (hA : Aok k A) (X : Fx B n₀ ow s.heap n) (N : s.heap.IsCell c ov) (hL : c ∈ ow) (he : Ev prog w k s.heap n (eval e env) F)
    (next : ∀ v h' tk n', Fx B n₀ ow h' n' → h'.IsCell c (some v) → Sub n n' → F n' v → (∀ b o, b ≠ c → s.heap.get? b = some o → h'.get? b = some o) →
      wpAny (model prog w) A (execs rest env) Q E { s with heap := h', toks := tk })
    (hc : env.cells.lookup x = some c := by rfl) (hx : env.kindOf x = some .cell := by rfl) (hk : env.scope.kind = .function := by rfl) (hsw : swapsWith e (some (.Name x px)) pos.line env = Pure.pure false := by rfl) :
    wpAny (model prog w) A (execs (.Assign [.Name x px] e pos :: rest) env) Q E s := by
  refine wpAny_execs_cons (wpAny_Assign_Name (he A s n _ E hA (Le.refl _) (Sub.refl _) X.ok fun v h1 t1 n1 g1 f1 => ?_) hsw)
  refine wpAny_storeName_cell hk hx hc (N.keeps g1.keep) fun h2 hn2 sm2 => ?_
  exact next v h2 _ n1 ((X.grow g1).upd hL sm2 (let ⟨o, ho, _⟩ := hn2; ⟨o, ho⟩)) hn2 g1.more f1 fun b o hb e => sm2.extBut b o hb (g1.keep b o e)
theorem st_return {pos : Pos} {e : Expr} (hA : Aok k A) (X : Fx B n₀ ow s.heap n) (he : Ev prog w k s.heap n (eval e env) F)
    (next : ∀ v h' tk n', Fx B n₀ ow h' n' → Sub n n' → F n' v → Le s.heap h' → Q (.ret v) { s with heap := h', toks := tk }) :
    wpAny (model prog w) A (execs (.Return (some e) pos :: rest) env) Q E s := by
  refine wpAny_execs_cons (wpAny_Return_some (he A s n _ E hA (Le.refl _) (Sub.refl _) X.ok fun v h1 t1 n1 g1 f1 => ?_))
  exact next v h1 t1 n1 (X.grow g1) g1.more f1 g1.keep
theorem st_if {test : Expr} {body orelse : List Stmt} {pos : Pos} {c : Bool} (hA : Aok k A) (X : Fx B n₀ ow s.heap n) (ht : Ev prog w k s.heap n (isTrue test env (eval test env)) (fun _ b => b = c))
    (yes : c = true → ∀ h' tk n', Fx B n₀ ow h' n' → Sub n n' → Le s.heap h' → wpAny (model prog w) A (execs body env) (Then prog w A E env rest Q) E { s with heap := h', toks := tk })
    (no : c = false → ∀ h' tk n', Fx B n₀ ow h' n' → Sub n n' → Le s.heap h' → wpAny (model prog w) A (execs orelse env) (Then prog w A E env rest Q) E { s with heap := h', toks := tk }) :
    wpAny (model prog w) A (execs (.If test body orelse pos :: rest) env) Q E s := by
  refine wpAny_execs_cons (wpAny_If (ht A s n _ E hA (Le.refl _) (Sub.refl _) X.ok fun b h1 t1 n1 g1 hb => ?_))
  subst hb
  cases hc : b with
  | true => exact yes hc h1 t1 n1 (X.grow g1) g1.more g1.keep
  | false => exact no hc h1 t1 n1 (X.grow g1) g1.more g1.keep
end
end
end Mine
end
section
open PySem PySem.W PyProof.Rows PySem.Calls
set_option Elab.async false
set_option autoImplicit false
namespace Mine
section
variable {prog : Program} {w : World} {k : Nat} {h : Heap} {n : GL} {env : Env}

/-- a list display or a call's arguments -/
theorem Ev.args0 {pos : Pos} : Ev prog w k h n (spliced (backTo pos (starEach [] env))) (fun n' vs => Paired (fun (F : VP) v => F n' v) [] vs) :=
  fun _ s n₁ _ _ _ _ _ ok q => args_nil (q [] s.heap s.toks n₁ (Grow.refl ok) .nil)
theorem Ev.argsS {pos : Pos} {e : Expr} {rest : List Expr} {F : VP} {Fs : List VP} (mF : Mono F) (he : Ev prog w k h n (eval e env) F) (hr : Ev prog w k h n (spliced (backTo pos (starEach rest env))) (fun n' vs => Paired (fun (F : VP) v => F n' v) Fs vs))
    (hs : starEach (e :: rest) env = (false, eval e env) :: starEach rest env := by rfl) :
    Ev prog w k h n (spliced (backTo pos (starEach (e :: rest) env))) (fun n' vs => Paired (fun (F : VP) v => F n' v) (F :: Fs) vs) := by
  intro A s n₁ Q E hA l sb ok q
  refine args_cons (he A s n₁ _ E hA l sb ok fun v h1 t1 n1 g1 f1 => ?_) hs
  refine hr A _ n1 _ E hA (l.trans g1.keep) (sb.trans g1.more) g1.at_ fun vs h2 t2 n2 g2 f2 => ?_
  exact q _ h2 t2 n2 (g1.trans g2) (.cons (mF _ _ _ g2.more f1) f2)
theorem paired1 {n : GL} {F : VP} {vs : List Value} (x : Paired (fun (F : VP) v => F n v) [F] vs) : ∃ v, vs = [v] ∧ F n v := by
  cases x with | cons h t => cases t; exact ⟨_, rfl, h⟩
theorem paired2 {n : GL} {F G : VP} {vs : List Value} (x : Paired (fun (F : VP) v => F n v) [F, G] vs) : ∃ u v, vs = [u, v] ∧ F n u ∧ G n v := by
  cases x with | cons h t => obtain ⟨v, rfl, hv⟩ := paired1 t; exact ⟨_, _, rfl, h, hv⟩
theorem paired3 {n : GL} {F G H : VP} {vs : List Value} (x : Paired (fun (F : VP) v => F n v) [F, G, H] vs) : ∃ u v w, vs = [u, v, w] ∧ F n u ∧ G n v ∧ H n w := by
  cases x with | cons h t => obtain ⟨v, w, rfl, hv, hw⟩ := paired2 t; exact ⟨_, _, _, rfl, h, hv, hw⟩

theorem arg1 {n : GL} {F : VP} {X : List Value → GL → Prop} (f : ∀ v n', Sub n n' → F n' v → X [v] n') : ∀ vs n', Sub n n' → Paired (fun (F : VP) v => F n' v) [F] vs → X vs n' := fun vs n' s x => by
  obtain ⟨v, rfl, hv⟩ := paired1 x; exact f v n' s hv
theorem arg2 {n : GL} {F G : VP} {X : List Value → GL → Prop} (f : ∀ u v n', Sub n n' → F n' u → G n' v → X [u, v] n') : ∀ vs n', Sub n n' → Paired (fun (F : VP) v => F n' v) [F, G] vs → X vs n' := fun vs n' s x => by
  obtain ⟨u, v, rfl, hu, hv⟩ := paired2 x; exact f u v n' s hu hv
section
variable {fn : Expr} {e₁ e₂ e₃ : Expr} {pos : Pos} {F₁ F₂ F₃ R : VP}
theorem callDef {K : Frag} {mg mb : Str → Option Value} {fa : Addr} {fd : FuncData} {oc : Value} {od : Option Addr} {osl : Array (Option Value)} {e : Expr} {rest : List Expr} {Fs : List VP}
    (G : Gd K mg mb h) (hK : K.lookup fa = some ⟨oc, od, .func fd, osl⟩) (hf : Ev prog w k h n (eval fn env) (EqV (.ref fa)))
    (ha : Ev prog w k h n (spliced (backTo pos (starEach (e :: rest) env))) (fun n' vs => Paired (fun (F : VP) v => F n' v) Fs vs))
    (hc : ∀ vs n', Sub n n' → Paired (fun (F : VP) v => F n' v) Fs vs → Ev prog w k h n' (call (.ref fa) vs) R)
    (he : eval (.Call fn (e :: rest) [] pos) env = (do callWith pos (← eval fn env) [] (backTo pos (starEach (e :: rest) env)) (backToKw pos (keywordEach [] env))) := by rfl)
    (hs : starEach (e :: rest) env = (false, eval e env) :: starEach rest env := by rfl) : Ev prog w k h n (eval (.Call fn (e :: rest) [] pos) env) R := by
  intro A s n₁ Q E hA l sb ok q
  refine Call_ (hf A s n₁ _ E hA l sb ok fun f h1 t1 n1 g1 f1 => ?_) he
  have e1 : f = .ref fa := f1
  subst e1
  refine callWith_def (o := ⟨oc, od, .func fd, osl⟩) rfl (ha A _ n1 _ E hA (l.trans g1.keep) (sb.trans g1.more) g1.at_ fun vs h2 t2 n2 g2 f2 => ?_) hs
  refine ⟨(G.keeps (l.trans (g1.trans g2).keep)).K _ _ hK, ?_⟩
  exact hc vs n2 (sb.trans (g1.trans g2).more) f2 A _ n2 Q E hA (l.trans (g1.trans g2).keep) (Sub.refl _) g2.at_ fun v h3 t3 n3 g3 f3 => q v h3 t3 n3 ((g1.trans g2).trans g3) f3
theorem callBui {id : String} {e : Expr} {rest : List Expr} {Fs : List VP} (hf : Ev prog w k h n (eval fn env) (EqV (.builtin id)))
    (ha : Ev prog w k h n (spliced (backTo pos (starEach (e :: rest) env))) (fun n' vs => Paired (fun (F : VP) v => F n' v) Fs vs))
    (hc : ∀ vs n', Sub n n' → Paired (fun (F : VP) v => F n' v) Fs vs → Ev prog w k h n' (call (.builtin id) vs) R)
    (he : eval (.Call fn (e :: rest) [] pos) env = (do callWith pos (← eval fn env) [] (backTo pos (starEach (e :: rest) env)) (backToKw pos (keywordEach [] env))) := by rfl)
    (hs : starEach (e :: rest) env = (false, eval e env) :: starEach rest env := by rfl) (hp : (backTo pos (starEach rest env)).any (·.1) = false := by rfl) : Ev prog w k h n (eval (.Call fn (e :: rest) [] pos) env) R := by
  intro A s n₁ Q E hA l sb ok q
  refine Call_ (hf A s n₁ _ E hA l sb ok fun f h1 t1 n1 g1 f1 => ?_) he
  have e1 : f = .builtin id := f1
  subst e1
  refine PyProof.Rows.callWith_builtin1 (ha A _ n1 _ E hA (l.trans g1.keep) (sb.trans g1.more) g1.at_ fun vs h2 t2 n2 g2 f2 => ?_) hs hp
  exact hc vs n2 (sb.trans (g1.trans g2).more) f2 A _ n2 Q E hA (l.trans (g1.trans g2).keep) (Sub.refl _) g2.at_ fun v h3 t3 n3 g3 f3 => q v h3 t3 n3 ((g1.trans g2).trans g3) f3
theorem callTyp {id : String} {e : Expr} {rest : List Expr} {Fs : List VP} (hf : Ev prog w k h n (eval fn env) (EqV (.type id)))
    (ha : Ev prog w k h n (spliced (backTo pos (starEach (e :: rest) env))) (fun n' vs => Paired (fun (F : VP) v => F n' v) Fs vs))
    (hc : ∀ vs n', Sub n n' → Paired (fun (F : VP) v => F n' v) Fs vs → Ev prog w k h n' (call (.type id) vs) R)
    (he : eval (.Call fn (e :: rest) [] pos) env = (do callWith pos (← eval fn env) [] (backTo pos (starEach (e :: rest) env)) (backToKw pos (keywordEach [] env))) := by rfl)
    (hs : starEach (e :: rest) env = (false, eval e env) :: starEach rest env := by rfl) (hp : (backTo pos (starEach rest env)).any (·.1) = false := by rfl) : Ev prog w k h n (eval (.Call fn (e :: rest) [] pos) env) R := by
  intro A s n₁ Q E hA l sb ok q
  refine Call_ (hf A s n₁ _ E hA l sb ok fun f h1 t1 n1 g1 f1 => ?_) he
  have e1 : f = .type id := f1
  subst e1
  refine PyProof.Rows.callWith_type1 (ha A _ n1 _ E hA (l.trans g1.keep) (sb.trans g1.more) g1.at_ fun vs h2 t2 n2 g2 f2 => ?_) hs hp
  exact hc vs n2 (sb.trans (g1.trans g2).more) f2 A _ n2 Q E hA (l.trans (g1.trans g2).keep) (Sub.refl _) g2.at_ fun v h3 t3 n3 g3 f3 => q v h3 t3 n3 ((g1.trans g2).trans g3) f3

theorem op_range1 {i : Int} {v : Value} {n : GL} (x : IntV i n v) : Ev prog w k h n (call (.type "range") [v]) (RangeV 0 i) := by
  obtain ⟨t, rfl⟩ := x
  intro A s n₁ Q E hA l sb ok q
  refine call_range_1 ?_
  exact q _ _ _ _ (Grow.push ok _) ⟨_, _, _, _, rfl, .head _⟩
theorem op_range2 {a b : Int} {u v : Value} {n : GL} (x : IntV a n u) (y : IntV b n v) : Ev prog w k h n (call (.type "range") [u, v]) (RangeV a b) := by
  obtain ⟨t, rfl⟩ := x
  obtain ⟨t', rfl⟩ := y
  intro A s n₁ Q E hA l sb ok q
  refine call_range_2 ?_
  exact q _ _ _ _ (Grow.push ok _) ⟨_, _, _, _, rfl, .head _⟩
theorem op_lenL {α : Type} {F : α → VP} {xs : List α} {v : Value} {n : GL} (x : ListV F xs n v) (hsz : xs.length ≤ 1000000) : Ev prog w k h n (call (.builtin "len") [v]) (IntV xs.length) := by
  obtain ⟨a, vs, rfl, hp, hlen, hl⟩ := x.isList
  refine Ev.readT (f := fun u => Value.int xs.length u) (fun _ _ _ _ _ _ ok q => PyProof.Rows.len_list (hl _ ok) (by simp; omega) ?_) fun u _ _ => ⟨u, rfl⟩
  simp only [List.size_toArray, hlen]
  exact q _ _
theorem Ev.list0 {pos : Pos} {α : Type} {F : α → VP} : Ev prog w k h n (eval (.List [] pos) env) (ListV F []) := by
  intro A s n₁ Q E hA l sb ok q
  refine List_ (args_nil ?_)
  refine wpAny_newObj_type ?_
  exact q _ _ _ _ (Grow.push ok _) ⟨_, [], 0, rfl, .head _, .nil⟩
theorem Ev.listN {pos : Pos} {es : List Expr} {α : Type} {F : α → VP} {xs : List α} (m : ∀ x, Mono (F x)) (hx : xs.length ≤ 1000000) (ha : Ev prog w k h n (spliced (backTo pos (starEach es env))) (fun n' vs => Paired (fun (F : VP) v => F n' v) (xs.map F) vs)) :
    Ev prog w k h n (eval (.List es pos) env) (ListV F xs) := by
  intro A s n₁ Q E hA l sb ok q
  refine List_ (ha A s n₁ _ E hA l sb ok fun vs h1 t1 n1 g1 f1 => ?_)
  have conv : ∀ {xs : List α} {vs : List Value}, Paired (fun (F : VP) v => F n1 v) (xs.map F) vs → Paired (fun x v => F x n1 v) xs vs := by
    intro xs
    induction xs with
    | nil => intro vs x; cases x; exact .nil
    | cons y r ih => intro vs x; cases x with | cons h t => exact .cons h (ih t)
  have f1' := conv f1
  have hl := f1'.length
  refine wpAny_newObj_type ?_ (by show vs.toArray.size ≤ sizeLine; rw [sizeLine_eq]; simp; omega)
  exact q _ _ _ _ (g1.trans (Grow.push g1.at_ _)) ⟨_, vs, 0, rfl, .head _, Paired.mono' (fun x v z => m x _ _ v (Sub.cons _ _) z) f1'⟩
end
end
end Mine
end
section
open PySem PySem.W PyProof.Rows PySem.Calls
set_option Elab.async false
set_option autoImplicit false
set_option maxRecDepth 100000
namespace Mine
noncomputable abbrev KF (w : World) : Frag := hd.heap_39 w.params
section
variable {prog : Program} {w : World} {mg mb : Str → Option Value} {k : Nat} {h : Heap} {n : GL}

theorem rangeL_get {a b : Int} {i : Nat} {x : Int} (h : (rangeL a b)[i]? = some x) : x = a + i ∧ a ≤ x ∧ x < b := by
  unfold rangeL at h
  rw [List.getElem?_map] at h
  cases q : (List.range (b - a).toNat)[i]? with
  | none => rw [q] at h; cases h
  | some j =>
    rw [q] at h
    have hlt : i < (b - a).toNat := by
      have := (List.getElem?_eq_some_iff.mp q).1
      simpa using this
    rw [List.getElem?_range hlt] at q
    cases q
    simp at h
    omega
theorem getD_some {α : Type} {xs : List α} {i : Nat} {d : α} (h : i < xs.length) : xs[i]? = some (xs.getD i d) := by
  simp [List.getD, List.getElem?_eq_getElem h]

/-- the seven places at which the first is not farther left -/
def notLeft (xs ys : List Int) : List Int := (rangeL 0 7).filter fun i => decide (ys.getD i.toNat 0 ≤ xs.getD i.toNat 0)
theorem left_of_ev {xs ys : List Int} {u v : Value} (G : Gd (KF w) mg mb h) (hx : ListV IntV xs n u) (hy : ListV IntV ys n v) (lx : xs.length = 7) (ly : ys.length = 7) :
    Ev prog w (k + 2) h n (call (.ref 120) [u, v]) (BoolV (decide (notLeft xs ys = []))) := by
  refine Ev.enterC (k := k + 1) G (by rfl) (by rfl) (by rfl) (by rfl) (by rfl) (by rfl) ?_
  intro A s h₁ n₁ tk hA le sb N C X
  have G₁ := G.keeps (le.trans X.keep)
  have c1 := C "one" _ rfl
  have c2 := C "other" _ rfl
  refine st_return (s := { s with heap := h₁, toks := tk }) hA X (F := BoolV (decide (notLeft xs ys = []))) ?_ ?_
  · refine Ev.Cmp (F2 := ListV IntV []) (Ev.compL (F := IntV) (G := IntV) (xs := rangeL 0 7) (Fi := RangeV 0 7) (p := fun i => decide (ys.getD i.toNat 0 ≤ xs.getD i.toNat 0)) ?_ ?_ mono_IntV mono_IntV ?_ ?_ (by decide)) Ev.list0 (mono_ListV mono_IntV _) ?_
    · refine callTyp (Ev.nameE (NameIs.bui (v := .type "range") G₁ (by rfl) (by decide +kernel))) (Ev.argsS (mono_IntV 7) Ev.cint Ev.args0) ?_
      refine arg1 fun v n' _ hv => ?_
      exact op_range1 hv
    · exact fun n' xv _ hv => hands_range (by decide) (by decide) hv
    · intro i a v C H N ha hle hsb fa nm
      obtain ⟨_, a0, a7⟩ := rangeL_get ha
      refine Ev.tests1 (Ev.CmpT (Ev.item (xs := xs) mono_IntV a0 (by exact Int.le_trans (by assumption) (by decide)) (getD_some (d := 0) (by omega)) ?_ (Ev.name nm (mono_IntV a) fa)) (Ev.item (xs := ys) mono_IntV a0 (by exact Int.le_trans (by assumption) (by decide)) (getD_some (d := 0) (by omega)) ?_ (Ev.name nm (mono_IntV a) fa)) (mono_IntV _) fun _ _ _ _ x y => op_geI x y)
      · exact Ev.name (NameIs.cel (c1.keeps hle)) (mono_ListV mono_IntV _) (mono_ListV mono_IntV _ _ _ _ (sb.trans hsb) hx)
      · exact Ev.name (NameIs.cel (c2.keeps hle)) (mono_ListV mono_IntV _) (mono_ListV mono_IntV _ _ _ _ (sb.trans hsb) hy)
    · intro i a v C H N ha _ hle hsb fa nm
      exact Ev.name nm (mono_IntV a) fa
    · intro a b n' _ x y
      exact op_eqL (by exact Nat.le_add_left _ _) x y
  · intro v h' tk' n' X' _ f _
    exact ⟨h', tk', n', rfl, X'.done, f⟩
end
end Mine
end
section
open PySem PySem.W PyProof.Rows PySem.Calls
set_option Elab.async false
set_option autoImplicit false
namespace Mine
theorem Fx.but {B : Heap} {n₀ : GL} {ow : List Addr} {h h' : Heap} {n : GL} (x : Fx B n₀ ow h n) {I : Addr} (hb : ∀ b o, b ≠ I → h.get? b = some o → h'.get? b = some o) (fB : B.get? I = none) (fn : ∀ p, p ∈ n → p.1 ≠ I) (fo : I ∉ ow) : Fx B n₀ ow h' n where
  keep := fun b o e => hb b o (by rintro rfl; rw [fB] at e; cases e) (x.keep b o e)
  more := x.more
  ok := fun p hp => hb _ _ (fn p hp) (x.ok p hp)
  new := x.new
  apart := x.apart
  live := fun a ha => (x.live a ha).imp fun o ho => hb _ _ (by rintro rfl; exact fo ha) ho
  fresh := x.fresh
section
variable {prog : Program} {w : World} {α : Type} {A : Around} {E : Value → Shared → Prop} {s : Shared} {k : Nat} {env : Env} {B : Heap} {n₀ n : GL} {ow : List Addr} {m : Str → Option Value} {rest : List Stmt} {Q : Flow → Shared → Prop}

/-- what a turn of a loop leaves -/
def TurnEnd (env : Env) (B₂ : Heap) (n₂ : GL) (ow : List Addr) (s : Shared) (J JB : Heap → GL → (Str → Option Value) → Prop) (JR : Value → Heap → GL → Prop) (f : Flow) (s' : Shared) : Prop :=
  ∃ H tk N M, s' = { s with heap := H, toks := tk } ∧ Fx B₂ n₂ ow H N ∧ H.Ns env.locals M ∧ (match f with | .next | .cont => J H N M | .brk => JB H N M | .ret v => JR v H N)

/-- a for's place, told by numbers -/
inductive ForAt {α : Type} (s : Shared) (St : Nat → Heap → Prop) (B : Heap) (n₀ n₁ : GL) (ow : List Addr) (I L : Addr) (J : Nat → Heap → GL → (Str → Option Value) → Prop) (xs : List α) : Nat → Shared → Prop
  | mk (H : Heap) (tk : Nat) (N : GL) (M : Str → Option Value) (i : Nat) : St i H → Fx B n₀ ow H N → (∀ p, p ∈ N → p.1 ≠ I) → H.Ns L M → J i H N M → Sub n₁ N → i ≤ xs.length → ForAt s St B n₀ n₁ ow I L J xs (xs.length + 1 - i) { s with heap := H, toks := tk }
theorem st_for {x : Str} {px : Pos} {iter : Expr} {body orelse : List Stmt} {pos : Pos} {F : α → VP} {Fi : VP} {xs : List α} (hA : Aok k A) (X : Fx B n₀ ow s.heap n) (NS : s.heap.Ns env.locals m) (hL : env.locals ∈ ow)
    (hiter : Ev prog w k s.heap n (eval iter env) Fi) (hit : ∀ n' xv, Sub n n' → Fi n' xv → Hands prog w k F xs n' xv) (mF : ∀ a, Mono (F a))
    (J : Nat → Heap → GL → (Str → Option Value) → Prop) (JB : Heap → GL → (Str → Option Value) → Prop) (JR : Value → Heap → GL → Prop)
    (jH : ∀ i H H' N M, J i H N M → (∀ a, a ∈ ow → a ≠ env.locals → H'.get? a = H.get? a) → J i H' N M) (jx : ∀ i H N M v, J i H N M → J i H N (fun y => if y = x then some v else M y))
    (init : ∀ h' n', Le s.heap h' → Sub n n' → J 0 h' n' m)
    (turn : ∀ (i : Nat) a v H N (M : Str → Option Value) tk B₂ n₂, xs[i]? = some a → Fx B₂ n₂ ow H N → Le B H → H.Ns env.locals (fun y => if y = x then some v else M y) → J i H N (fun y => if y = x then some v else M y) → F a N v → Sub n N →
      wpAny (model prog w) A (execs body env) (TurnEnd env B₂ n₂ ow s (J (i + 1)) JB JR) (fun _ _ => False) { s with heap := H, toks := tk })
    (fin : ∀ H N M tk, Fx B n₀ ow H N → H.Ns env.locals M → J xs.length H N M → Sub n N →
      wpAny (model prog w) A (execs orelse env) (Then prog w A E env rest Q) (fun _ _ => False) { s with heap := H, toks := tk })
    (brk : ∀ H N M tk, Fx B n₀ ow H N → H.Ns env.locals M → JB H N M → Sub n N → wpAny (model prog w) A (execs rest env) Q E { s with heap := H, toks := tk })
    (ret : ∀ v H N tk, Fx B n₀ ow H N → JR v H N → Sub n N → Q (.ret v) { s with heap := H, toks := tk })
    (hx : env.kindOf x = some .local := by rfl) (hk : env.scope.kind = .function := by rfl) (hs : ∀ x, foldedSetIterable iter env x = Pure.pure x := by intro _; rfl) :
    wpAny (model prog w) A (execs (.For (.Name x px) iter body orelse pos :: rest) env) Q E s := by
  refine wpAny_execs_cons (wpAny_For (hiter A s n _ E hA (Le.refl _) (Sub.refl _) X.ok fun xv h1 t1 n1 g1 f1 => ?_) hs)
  obtain ⟨P, hI, hP⟩ := hit n1 xv g1.more f1
  refine hI A { s with heap := h1, toks := t1 } _ E hA g1.at_ fun I h2 fp St fI le2 hlive W st2 hfp => ?_
  have X1 := X.grow g1
  have X2 : Fx B n₀ ow h2 n1 := X1.grow (Grow.heap g1.at_ le2)
  have fB : B.get? I = none := X1.keep.none fI
  have fO : I ∉ ow := fun hm => by obtain ⟨o, ho⟩ := X1.live I hm; rw [show h1.get? I = none from fI] at ho; cases ho
  have fL : I ≠ env.locals := fun e => fO (e ▸ hL)
  have fn1 : ∀ p, p ∈ n1 → p.1 ≠ I := fun p hp e => by have := g1.at_ p hp; rw [e, show h1.get? I = none from fI] at this; cases this
  have stK : ∀ (i : Nat) (N' : GL) (H1 H2 : Heap), Sub n1 N' → St i H1 → (∀ ob, H1.get? I = some ob → H2.get? I = some ob) → GOk N' H1 → GOk N' H2 → St i H2 := by
    intro i N' H1 H2 sb st kI g1 g2
    refine W.frame _ _ _ st fun b hb o e => ?_
    rcases hfp b hb with rfl | ⟨ob, hob⟩
    · exact kI o e
    · have e1 := g1 _ (sb _ hob)
      have e2 := g2 _ (sb _ hob)
      dsimp only at e1 e2
      rw [e] at e1
      rw [e2, e1]
  refine codeAny_forLoop_any
    (ForAt s St B n₀ n1 ow I env.locals J xs) ?_ (xs.length + 1)
    (.mk h2 t1 n1 m 0 st2 X2 fn1 (NS.keeps (g1.keep.trans le2)) (init h2 n1 (g1.keep.trans le2) g1.more) (Sub.refl _) (Nat.zero_le _))
  rintro j s' ⟨H, tk, N, M, i, st, XN, fN, nsM, hJ, sbN, hi⟩
  by_cases hlt : i < xs.length
  · refine W.item i _ _ _ hlt st fun v H1 tk1 hPv st1 hk1 => ?_
    obtain ⟨a, ha, fa⟩ := hP i v hlt hPv
    have hk1' : ∀ b o, b ≠ I → H.get? b = some o → H1.get? b = some o := fun b o hb e => hk1 b o (nin1 hb) e
    have XN1 : Fx B n₀ ow H1 N := XN.but hk1' fB fN fO
    have hJ1 : J i H1 N M := jH i H H1 N M hJ fun a ha hn => by
      obtain ⟨o, ho⟩ := XN.live a ha
      rw [ho]; exact hk1' _ _ (by rintro rfl; exact fO ha) ho
    refine wpAny_pure ?_
    refine wpAny_assign_Name (wpAny_storeName_local hx (nsM.at' fun o e => hk1' _ o (Ne.symm fL) e) (fun H2 hn2 sm2 => ?_) (by rw [hk]; rfl))
    have XN2 : Fx B n₀ ow H2 N := XN1.upd hL sm2 (let ⟨o, _, _, ho, _⟩ := hn2; ⟨o, ho⟩)
    have hJ2 : J i H2 N (fun y => if y = x then some v else M y) := jx _ _ _ _ _ (jH i H1 H2 N M hJ1 fun a ha hn => (sm2.2 a hn))
    have st2' : St (i + 1) H2 := stK _ N H1 H2 sbN st1 (fun ob e => sm2.extBut _ _ fL e) XN1.ok XN2.ok
    obtain ⟨oI, hoI⟩ := hlive _ _ st2'
    have IB : (hideAll H2 ow).get? I = some oI := hideAll_get _ hoI fO
    refine wpAny_mono (turn i a v H2 N M _ (hideAll H2 ow) N ha XN2.rebase XN2.keep hn2 hJ2 (mF a _ _ _ sbN fa) (g1.more.trans sbN)) (fun f s3 h3 => ?_) fun _ _ e => e.elim
    obtain ⟨H3, tk3, N3, M3, rfl, X3, ns3, hf⟩ := h3
    have X3' : Fx B n₀ ow H3 N3 := XN2.back X3
    have hI3 : H3.get? I = some oI := X3.keep _ _ IB
    have fN3 : ∀ p, p ∈ N3 → p.1 ≠ I := fun p hp e => (X3.new p hp).elim (fun q => fN p q e) fun q => by rw [e, IB] at q; cases q
    have next : J (i + 1) H3 N3 M3 → ∃ m_1, m_1 < xs.length + 1 - i ∧ ForAt s St B n₀ n1 ow I env.locals J xs m_1 { s with heap := H3, toks := tk3 } := fun hj =>
      ⟨xs.length + 1 - (i + 1), dec_lt hlt, H3, tk3, N3, M3, i + 1, stK _ N H2 H3 sbN st2' (fun ob e => by rw [hoI] at e; cases e; exact hI3) XN2.ok (X3.ok.sub X3.more), X3', fN3, ns3, hj, sbN.trans X3.more, hlt⟩
    cases f with
    | next => exact next hf
    | cont => exact next hf
    | brk => exact brk H3 N3 M3 tk3 X3' ns3 hf (g1.more.trans (sbN.trans X3.more))
    | ret v => exact ret v H3 N3 tk3 X3' hf (g1.more.trans (sbN.trans X3.more))
  · have hin : i = xs.length := Nat.le_antisymm hi (Nat.not_lt.mp hlt)
    subst hin
    refine W.done _ _ _ st fun H1 tk1 hk1 => ?_
    have hk1' : ∀ b o, b ≠ I → H.get? b = some o → H1.get? b = some o := fun b o hb e => hk1 b o (nin1 hb) e
    have XN1 : Fx B n₀ ow H1 N := XN.but hk1' fB fN fO
    have hJ1 : J xs.length H1 N M := jH _ H H1 N M hJ fun a ha hn => by
      obtain ⟨o, ho⟩ := XN.live a ha
      rw [ho]; exact hk1' _ _ (by rintro rfl; exact fO ha) ho
    exact wpAny_mono (fin H1 N M tk1 XN1 (nsM.at' fun o e => hk1' _ o (Ne.symm fL) e) hJ1 (g1.more.trans sbN)) (fun _ _ e => e) fun _ _ e => e.elim

/-- what a turn of a while leaves -/
def WhileTurn (prog : Program) (w : World) (A : Around) (E : Value → Shared → Prop) (env : Env) (rest : List Stmt) (Q : Flow → Shared → Prop) (s : Shared) (B : Heap) (n₀ n : GL) (ow : List Addr) (J : Nat → Heap → GL → (Str → Option Value) → Prop) (j : Nat) (f : Flow) (s' : Shared) : Prop := match f with
  | .next | .cont => ∃ H' tk' N' M' j', s' = { s with heap := H', toks := tk' } ∧ Fx B n₀ ow H' N' ∧ H'.Ns env.locals M' ∧ J j' H' N' M' ∧ Sub n N' ∧ j' < j
  | .brk => wpAny (model prog w) A (execs rest env) Q E s'
  | .ret v => Q (.ret v) s'
/-- a while: the invariant over the heap, the ghost and the names, with a number that falls -/
theorem st_while {test : Expr} {body orelse : List Stmt} {pos : Pos} (hA : Aok k A) (X : Fx B n₀ ow s.heap n) (NS : s.heap.Ns env.locals m)
    (J : Nat → Heap → GL → (Str → Option Value) → Prop) (c : Nat → Bool) (j₀ : Nat) (init : J j₀ s.heap n m)
    (tst : ∀ j H N M B₂ n₂, Fx B₂ n₂ ow H N → Le B H → H.Ns env.locals M → J j H N M → Sub n N → Ev prog w k H N (isTrue test env (eval test env)) (fun _ b => b = c j))
    (jG : ∀ j H H' N N' M, J j H N M → Grow H N H' N' → J j H' N' M)
    (turn : ∀ j H N M tk, c j = true → Fx B n₀ ow H N → H.Ns env.locals M → J j H N M → Sub n N →
      wpAny (model prog w) A (execs body env) (WhileTurn prog w A E env rest Q s B n₀ n ow J j) (notedBy (model prog w) A env fun e s' => cameBackBy (model prog w) A env E e s') { s with heap := H, toks := tk })
    (fin : ∀ j H N M tk, c j = false → Fx B n₀ ow H N → H.Ns env.locals M → J j H N M → Sub n N →
      wpAny (model prog w) A (execs orelse env) (Then prog w A E env rest Q) (fun _ _ => False) { s with heap := H, toks := tk }) :
    wpAny (model prog w) A (execs (.While test body orelse pos :: rest) env) Q E s := by
  refine wpAny_execs_cons (wpAny_While (codeAny_whileLoop (fun j s' => ∃ H tk N M, s' = { s with heap := H, toks := tk } ∧ Fx B n₀ ow H N ∧ H.Ns env.locals M ∧ J j H N M ∧ Sub n N) ?_ j₀ ⟨s.heap, s.toks, n, m, rfl, X, NS, init, Sub.refl _⟩))
  rintro j s' ⟨H, tk, N, M, rfl, XN, ns, hJ, sb⟩
  refine tst j H N M B n₀ XN XN.keep ns hJ sb A _ N _ _ hA (Le.refl _) (Sub.refl _) XN.ok fun b H1 tk1 N1 g1 hb => ?_
  subst hb
  cases hc : c j with
  | true =>
    simp only [if_true]
    refine wpAny_mono (turn j H1 N1 M tk1 hc (XN.grow g1) (ns.keeps g1.keep) (jG _ _ _ _ _ _ hJ g1) (sb.trans g1.more)) (fun f s3 h3 => ?_) fun _ _ e => e
    have next : (∃ H' tk' N' M' j', s3 = { s with heap := H', toks := tk' } ∧ Fx B n₀ ow H' N' ∧ H'.Ns env.locals M' ∧ J j' H' N' M' ∧ Sub n N' ∧ j' < j) → ∃ m_1, m_1 < j ∧ ∃ H tk N M, s3 = { s with heap := H, toks := tk } ∧ Fx B n₀ ow H N ∧ H.Ns env.locals M ∧ J m_1 H N M ∧ Sub n N := by
      rintro ⟨H', tk', N', M', j', e, a, b, c, d, lt⟩
      exact ⟨j', lt, H', tk', N', M', e, a, b, c, d⟩
    cases f with
    | next => exact next h3
    | cont => exact next h3
    | brk => exact h3
    | ret v => exact h3
  | false =>
    simp only [Bool.false_eq_true, if_false]
    exact wpAny_mono (fin j H1 N1 M tk1 hc (XN.grow g1) (ns.keeps g1.keep) (jG _ _ _ _ _ _ hJ g1) (sb.trans g1.more)) (fun _ _ e => e) fun _ _ e => e.elim
end
end Mine
end
section
open PySem PySem.W PyProof.Rows PySem.Calls
set_option Elab.async false
set_option autoImplicit false
namespace Mine
section
variable {prog : Program} {w : World} {k : Nat} {h : Heap} {n : GL} {env : Env}

/-- xs[a:] and xs[:b] -/
theorem Ev.sliceFrom {α : Type} {F : α → VP} {xs : List α} {a : Nat} {value e : Expr} {p pos : Pos} (m : ∀ x, Mono (F x)) (hsz : xs.length ≤ 1000000) (hv : Ev prog w k h n (eval value env) (ListV F xs)) (he : Ev prog w k h n (eval e env) (IntV a)) :
    Ev prog w k h n (eval (.Subscript value (.Slice (some e) none none p) pos) env) (ListV F (xs.drop a)) := by
  intro A s n₁ Q E hA l sb ok q
  refine Subscript_ (hv A s n₁ _ E hA l sb ok fun o h1 t1 n1 g1 f1 => ?_)
  refine wpAny_Slice ?_
  rw [evalPart_some, evalPart_none]
  refine he A _ n1 _ E hA (l.trans g1.keep) (sb.trans g1.more) g1.at_ fun b h2 t2 n2 g2 f2 => ?_
  obtain ⟨u, rfl⟩ := f2
  refine wpAny_pure (wpAny_pure ?_)
  obtain ⟨a', vs, rfl, hp, hlen, hL⟩ := (mono_ListV m xs _ _ _ g2.more f1).isList
  have g3 : Grow h2 n2 (h2.push { cls := .type "slice", data := .fields #[.int (a : Int) u, .none, .none] }) n2 := Grow.heap g2.at_ (Le.push _ _)
  have hlist := hL _ g3.at_
  refine tail_any (T := "list") (ops := [.ref h2.objs.size, .ref a']) hlist.typeIs slot_list_getitem.lookup ?_ (by rfl)
  refine wpAny_getItem_list_slice hlist (Heap.IsSliceOf.new h2 (.int (a : Int) u) .none .none) (lo := some (a : Int)) (hi := none) (st := none) (.int _ _) .none .none (by simp) ?_ (by rw [sizeLine_eq]; simp; grind)
  rw [slicePick_from']
  refine q _ _ _ _ (((g1.trans g2).trans g3).trans (Grow.push g3.at_ _)) ⟨_, vs.drop a, 0, rfl, .head _, Paired.mono' (fun x v z => m x _ _ v (Sub.cons _ _) z) (Paired.drop a hp)⟩
theorem Ev.sliceTo {α : Type} {F : α → VP} {xs : List α} {a : Nat} {value e : Expr} {p pos : Pos} (m : ∀ x, Mono (F x)) (hsz : xs.length ≤ 1000000) (hv : Ev prog w k h n (eval value env) (ListV F xs)) (he : Ev prog w k h n (eval e env) (IntV a)) :
    Ev prog w k h n (eval (.Subscript value (.Slice none (some e) none p) pos) env) (ListV F (xs.take a)) := by
  intro A s n₁ Q E hA l sb ok q
  refine Subscript_ (hv A s n₁ _ E hA l sb ok fun o h1 t1 n1 g1 f1 => ?_)
  refine wpAny_Slice ?_
  rw [evalPart_some, evalPart_none]
  refine wpAny_pure ?_
  refine he A _ n1 _ E hA (l.trans g1.keep) (sb.trans g1.more) g1.at_ fun b h2 t2 n2 g2 f2 => ?_
  obtain ⟨u, rfl⟩ := f2
  refine wpAny_pure ?_
  obtain ⟨a', vs, rfl, hp, hlen, hL⟩ := (mono_ListV m xs _ _ _ g2.more f1).isList
  have g3 : Grow h2 n2 (h2.push { cls := .type "slice", data := .fields #[.none, .int (a : Int) u, .none] }) n2 := Grow.heap g2.at_ (Le.push _ _)
  have hlist := hL _ g3.at_
  refine tail_any (T := "list") (ops := [.ref h2.objs.size, .ref a']) hlist.typeIs slot_list_getitem.lookup ?_ (by rfl)
  refine wpAny_getItem_list_slice hlist (Heap.IsSliceOf.new h2 .none (.int (a : Int) u) .none) (lo := none) (hi := some (a : Int)) (st := none) .none (.int _ _) .none (by simp) ?_ (by rw [sizeLine_eq]; simp; grind)
  rw [slicePick_upto']
  refine q _ _ _ _ (((g1.trans g2).trans g3).trans (Grow.push g3.at_ _)) ⟨_, vs.take a, 0, rfl, .head _, Paired.mono' (fun x v z => m x _ _ v (Sub.cons _ _) z) (Paired.take a hp)⟩
end

section
variable {prog : Program} {w : World} {A : Around} {E : Value → Shared → Prop} {s : Shared} {k : Nat} {env : Env} {B : Heap} {n₀ n : GL} {ow : List Addr} {rest : List Stmt} {Q : Flow → Shared → Prop} {F : VP}

/-- «o.meth(e)», a statement upon a list of one's own -/
theorem st_lmeth {o meth : Str} {po ap pos sp : Pos} {e : Expr} {D : Addr} {vs : List Value} {e0 : Nat} {id : String} {R : GL → Value → List Value → Prop} (hA : Aok k A) (X : Fx B n₀ ow s.heap n) (hD : D ∈ ow) (hd : s.heap.get? D = some (lst vs e0))
    (nm : NameIs prog w env s.heap o (.ref D)) (he : Ev prog w k s.heap n (eval e env) F) (slot : PySem.Slot "list" meth id) (hty : typeOf (.builtin id) = Pure.pure (.type "method_descriptor"))
    (op : ∀ (s₁ : Shared) v n₁ (Q : Value → Shared → Prop), GOk n₁ s₁.heap → Sub n n₁ → F n₁ v → s₁.heap.get? D = some (lst vs e0) → (∀ h' e' vs', h'.get? D = some (lst vs' e') → R n₁ v vs' → Heap.SameBut D s₁.heap h' → Q .none { s₁ with heap := h' }) → wpAny (model prog w) A (call (.builtin id) [.ref D, v]) Q E s₁)
    (next : ∀ h' tk n' e' v vs', Fx B n₀ ow h' n' → Sub n n' → F n' v → R n' v vs' → h'.get? D = some (lst vs' e') → (∀ b o, b ≠ D → s.heap.get? b = some o → h'.get? b = some o) → wpAny (model prog w) A (execs rest env) Q E { s with heap := h', toks := tk })
    (hbase : attributeBase (.Name o po) meth env (eval (.Name o po) env) = eval (.Name o po) env := by rfl) (hline : (ap.endLine == pos.line) = true := by rfl) (htrees : backTo pos (starEach [e] env) = [(false, eval e env)] := by rfl)
    (hi : interactive env = false := by rfl) (hs : swapsWith (.Call (.Attribute (.Name o po) meth ap) [e] [] pos) none sp.line env = Pure.pure false := by rfl) :
    wpAny (model prog w) A (execs (.Expr (.Call (.Attribute (.Name o po) meth ap) [e] [] pos) sp :: rest) env) Q E s := by
  refine wpAny_execs_cons (wpAny_Expr ?_ hi hs)
  refine wpAny_Call_method1_late hbase hline htrees ?_
  refine nm po A _ E s (fun _ _ e => e) ?_
  refine ⟨"list", id, PySem.F.plainAttrs_list, slot, hty, ⟨_, hd, rfl⟩, fun a ha => ?_, ?_⟩
  · cases ha; exact ⟨_, hd, rfl⟩
  refine Calls.callWith_builtin rfl (Calls.evalArgs_plain (Calls.spliced_cons (he A s n _ E hA (Le.refl _) (Sub.refl _) X.ok fun v h1 t1 n1 g1 f1 => Calls.spliced_nil ?_)))
  refine op { s with heap := h1, toks := t1 } v n1 _ g1.at_ g1.more f1 (g1.keep _ _ hd) fun h2 e2 vs2 hd2 hr sm => ?_
  exact next h2 t1 n1 e2 v vs2 ((X.grow g1).upd hD sm ⟨_, hd2⟩) g1.more f1 hr hd2 fun b o hb e => sm.extBut b o hb (g1.keep b o e)
end
end Mine
end
section
open PySem PySem.W PyProof.Rows PySem.Calls
set_option Elab.async false
set_option autoImplicit false
namespace Mine
section
variable {prog : Program} {w : World} {A : Around} {E : Value → Shared → Prop} {s : Shared} {k : Nat} {env : Env} {B : Heap} {n₀ n : GL} {ow : List Addr} {rest : List Stmt} {Q : Flow → Shared → Prop} {F : VP}

theorem st_append {o : Str} {po ap pos sp : Pos} {e : Expr} {D : Addr} {vs : List Value} {e0 : Nat} (hA : Aok k A) (X : Fx B n₀ ow s.heap n) (hD : D ∈ ow) (hd : s.heap.get? D = some (lst vs e0)) (hsz : vs.length ≤ 1000000)
    (nm : NameIs prog w env s.heap o (.ref D)) (he : Ev prog w k s.heap n (eval e env) F)
    (next : ∀ h' tk n' e' v, Fx B n₀ ow h' n' → Sub n n' → F n' v → h'.get? D = some (lst (vs ++ [v]) e') → (∀ b o, b ≠ D → s.heap.get? b = some o → h'.get? b = some o) → wpAny (model prog w) A (execs rest env) Q E { s with heap := h', toks := tk })
    (hbase : attributeBase (.Name o po) (Str.ofString "append") env (eval (.Name o po) env) = eval (.Name o po) env := by rfl) (hline : (ap.endLine == pos.line) = true := by rfl) (htrees : backTo pos (starEach [e] env) = [(false, eval e env)] := by rfl)
    (hi : interactive env = false := by rfl) (hs : swapsWith (.Call (.Attribute (.Name o po) (Str.ofString "append") ap) [e] [] pos) none sp.line env = Pure.pure false := by rfl) :
    wpAny (model prog w) A (execs (.Expr (.Call (.Attribute (.Name o po) (Str.ofString "append") ap) [e] [] pos) sp :: rest) env) Q E s := by
  refine st_lmeth (R := fun _ v vs' => vs' = vs ++ [v]) hA X hD hd nm he PySem.F.slot_list_append PySem.F.type_list_append ?_ ?_ hbase hline htrees hi hs
  · intro s₁ v n₁ Q' _ _ _ hd' q
    refine wpAny_list_append_plain (items := vs.toArray) (hsz := by rw [sizeLine_eq]; simp; exact Nat.le_trans (by assumption) (by decide)) ⟨_, hd'⟩ fun h' hl sm => ?_
    obtain ⟨e', he'⟩ := hl
    exact q h' e' (vs ++ [v]) (by simpa using he') rfl sm
  · rintro h' tk n' e' v vs' X' sb f rfl hd' kp
    exact next h' tk n' e' v X' sb f hd' kp
theorem get_mapSeq {h : Heap} {D : Addr} {vs : List Value} {e : Nat} (hd : h.get? D = some (lst vs e)) (f : Array Value → Array Value) : ∃ e', (h.update D (Obj.mapSeq f)).get? D = some (lst (f vs.toArray).toList e') := by
  refine ⟨if (f vs.toArray).size == vs.toArray.size then e else e + 1, ?_⟩
  rw [Heap.get?_update_self _ hd rfl]
  simp [Obj.mapSeq]
theorem erase_idx : ∀ {vs : List Value} {ns : List Int} {i : Int}, IntsAre vs ns → i ∈ ns → ∃ j, ∃ hj : j < vs.length, isInt i vs[j] = true ∧ (∀ m (hm : m < vs.length), m < j → isInt i vs[m] = false) ∧ IntsAre (vs.eraseIdx j) (ns.erase i)
  | _, _, i, .nil, h => by cases h
  | _, _, i, .cons (vs := vs) (ns := ns) a t r, h => by
    by_cases e : a = i
    · subst e
      refine ⟨0, by simp, by simp [isInt], fun m _ hm => absurd hm (Nat.not_lt_zero _), ?_⟩
      simpa using r
    · have hi : i ∈ ns := by
        rcases List.mem_cons.mp h with h | h
        · exact absurd h.symm e
        · exact h
      obtain ⟨j, hj, h1, h2, h3⟩ := erase_idx r hi
      refine ⟨j + 1, by simpa using hj, by simpa using h1, fun m hm hlt => ?_, ?_⟩
      · cases m with
        | zero => simp [isInt, e]
        | succ m => simpa using h2 m (by simpa using hm) (by grind)
      · have : (a :: ns).erase i = a :: ns.erase i := by simp [e]
        rw [this, List.eraseIdx_cons_succ]
        exact .cons a t h3
theorem st_remove {o : Str} {po ap pos sp : Pos} {e : Expr} {D : Addr} {vs : List Value} {ns : List Int} {i : Int} {e0 : Nat} (hA : Aok k A) (X : Fx B n₀ ow s.heap n) (hD : D ∈ ow) (hd : s.heap.get? D = some (lst vs e0)) (hsz : vs.length ≤ 1000000) (hI : IntsAre vs ns) (hm : i ∈ ns)
    (nm : NameIs prog w env s.heap o (.ref D)) (he : Ev prog w k s.heap n (eval e env) (IntV i))
    (next : ∀ h' tk n' e' vs', Fx B n₀ ow h' n' → Sub n n' → IntsAre vs' (ns.erase i) → h'.get? D = some (lst vs' e') → (∀ b o, b ≠ D → s.heap.get? b = some o → h'.get? b = some o) → wpAny (model prog w) A (execs rest env) Q E { s with heap := h', toks := tk })
    (hbase : attributeBase (.Name o po) (Str.ofString "remove") env (eval (.Name o po) env) = eval (.Name o po) env := by rfl) (hline : (ap.endLine == pos.line) = true := by rfl) (htrees : backTo pos (starEach [e] env) = [(false, eval e env)] := by rfl)
    (hi : interactive env = false := by rfl) (hs : swapsWith (.Call (.Attribute (.Name o po) (Str.ofString "remove") ap) [e] [] pos) none sp.line env = Pure.pure false := by rfl) :
    wpAny (model prog w) A (execs (.Expr (.Call (.Attribute (.Name o po) (Str.ofString "remove") ap) [e] [] pos) sp :: rest) env) Q E s := by
  refine st_lmeth (R := fun _ v vs' => IntsAre vs' (ns.erase i)) hA X hD hd nm he PySem.F.slot_list_remove PySem.F.type_list_remove ?_ ?_ hbase hline htrees hi hs
  · rintro s₁ v n₁ Q' _ _ ⟨t, rfl⟩ hd' q
    obtain ⟨j, hj, h1, h2, h3⟩ := erase_idx hI hm
    refine call_meets PySem.F.slot_list_remove ⟨_, hd', rfl⟩ PySem.F.entry_list_remove (PySem.F.args_list_remove_2 _ _)
      (MeetsSeq.list_remove D vs.toArray e0 (.int i t) (isInt i) (fun y hy => eq_isInt i t hI y (by simpa using hy)) j (by simpa using hj) (by simpa using h1) (fun m hm hlt => by simpa using h2 m (by simpa using hm) hlt) (by rw [sizeLine_eq]; simp; exact Nat.le_trans (by assumption) (by decide))) ⟨hd', ?_⟩
    obtain ⟨e', he'⟩ := get_mapSeq hd' fun xs => xs.eraseIdxIfInBounds j
    refine q _ e' (vs.eraseIdx j) ?_ h3 (Heap.SameBut.update ..)
    rw [he']
    simp [Array.eraseIdxIfInBounds, hj]
  · intro h' tk n' e' v vs' X' sb f r hd' kp
    exact next h' tk n' e' vs' X' sb r hd' kp
/-- «o.extend(e)» by a list -/
theorem st_extend {o : Str} {po ap pos sp : Pos} {e : Expr} {D : Addr} {vs : List Value} {α : Type} {G : α → VP} {ys : List α} {e0 : Nat} (hA : Aok k A) (X : Fx B n₀ ow s.heap n) (hD : D ∈ ow) (hd : s.heap.get? D = some (lst vs e0)) (hsz : vs.length + ys.length ≤ 1000000)
    (nm : NameIs prog w env s.heap o (.ref D)) (he : Ev prog w k s.heap n (eval e env) (ListV G ys))
    (next : ∀ h' tk n' e' ws, Fx B n₀ ow h' n' → Sub n n' → Paired (fun a v => G a n' v) ys ws → h'.get? D = some (lst (vs ++ ws) e') → (∀ b o, b ≠ D → s.heap.get? b = some o → h'.get? b = some o) → wpAny (model prog w) A (execs rest env) Q E { s with heap := h', toks := tk })
    (hbase : attributeBase (.Name o po) (Str.ofString "extend") env (eval (.Name o po) env) = eval (.Name o po) env := by rfl) (hline : (ap.endLine == pos.line) = true := by rfl) (htrees : backTo pos (starEach [e] env) = [(false, eval e env)] := by rfl)
    (hi : interactive env = false := by rfl) (hs : swapsWith (.Call (.Attribute (.Name o po) (Str.ofString "extend") ap) [e] [] pos) none sp.line env = Pure.pure false := by rfl) :
    wpAny (model prog w) A (execs (.Expr (.Call (.Attribute (.Name o po) (Str.ofString "extend") ap) [e] [] pos) sp :: rest) env) Q E s := by
  refine st_lmeth (F := ListV G ys) (R := fun n' v vs' => ∃ ws, Paired (fun x v => G x n' v) ys ws ∧ vs' = vs ++ ws) hA X hD hd nm he PySem.F.slot_list_extend PySem.F.type_list_extend ?_ ?_ hbase hline htrees hi hs
  · rintro s₁ v n₁ Q' ok _ ⟨b, ws, e1, rfl, hm, hp⟩ hd' q
    have hl := hp.length
    refine call_meets PySem.F.slot_list_extend ⟨_, hd', rfl⟩ PySem.F.entry_list_extend (PySem.F.args_list_extend_2 _ _)
      (AutoSeq1.list_extend_list_list_0 D vs.toArray e0 b ws.toArray e1 ?_ (by rw [sizeLine_eq]; simp; grind) (by rw [sizeLine_eq]; simp; grind)) ⟨hd', ok _ hm, ?_⟩
    · have hz : ¬ (vs.toArray.size + ws.toArray.size > sizeLine) := by rw [sizeLine_eq]; simp; grind
      simp only [Builtin.List.listTooLong, hz, decide_false, Bool.and_false]
      exact Bool.false_ne_true
    · obtain ⟨e', he'⟩ := get_mapSeq hd' fun x => x ++ ws.toArray
      exact q _ e' (vs ++ ws) (by rw [he']; simp) ⟨ws, hp, rfl⟩ (Heap.SameBut.update ..)
  · rintro h' tk n' e' v vs' X' sb f ⟨ws, hp, rfl⟩ hd' kp
    exact next h' tk n' e' ws X' sb hp hd' kp
end
end Mine
end
section
open PySem PySem.W PyProof.Rows PySem.Calls
set_option Elab.async false
set_option autoImplicit false
set_option maxRecDepth 100000
namespace Mine
section
variable {prog : Program} {w : World} {mg mb : Str → Option Value} {k : Nat} {h : Heap} {n : GL}
abbrev RowV : List Int → VP := ListV IntV
theorem mono_RowV : ∀ xs, Mono (RowV xs) := mono_ListV mono_IntV
abbrev RowsV : List (List Int) → VP := ListV RowV
theorem mono_RowsV : ∀ xs, Mono (RowsV xs) := mono_ListV mono_RowV

def lowOf (left : List Int) (row : List Int) : List Int := row.filter fun m => left.any (· == m)
def freeF (left : List Int) (below : List (List Int)) : List Int := left.filter fun k => decide (lowOf left (below.getD k.toNat []) = [])
theorem free_ev {left : List Int} {below : List (List Int)} {u v : Value} (G : Gd (KF w) mg mb h) (hl : RowV left n u) (hb : RowsV below n v) (bd : ∀ i ∈ left, 0 ≤ i ∧ i < below.length) (s1 : left.length ≤ 1000) (s2 : below.length ≤ 1000) (s3 : ∀ r ∈ below, r.length ≤ 1000) :
    Ev prog w (k + 2) h n (call (.ref 125) [u, v]) (RowV (freeF left below)) := by
  refine Ev.enterC (k := k + 1) G (by rfl) (by rfl) (by rfl) (by rfl) (by rfl) (by rfl) ?_
  intro A s h₁ n₁ tk hA le sb N C X
  have G₁ := G.keeps (le.trans X.keep)
  have c1 := C "left" _ rfl
  have c2 := C "below" _ rfl
  refine st_return (s := { s with heap := h₁, toks := tk }) hA X (F := RowV (freeF left below)) ?_ ?_
  · refine Ev.compL (F := IntV) (G := IntV) (xs := left) (Fi := RowV left) (p := fun k => decide (lowOf left (below.getD k.toNat []) = [])) ?_ ?_ mono_IntV mono_IntV ?_ ?_ (by exact Nat.le_trans (by assumption) (by decide))
    · exact Ev.name (NameIs.cel c1) (mono_RowV _) (mono_RowV _ _ _ _ sb hl)
    · exact fun n' xv _ hv => hands_list hv
    · intro i a v C H N ha hle hsb fa nm
      obtain ⟨b0, b1⟩ := bd a (List.mem_of_getElem? ha)
      have hrow : below[a.toNat]? = some (below.getD a.toNat []) := getD_some (by exact (Int.toNat_lt (by assumption)).mpr (by assumption))
      have hsz := s3 _ (List.mem_of_getElem? hrow)
      refine Ev.tests1 (Ev.CmpT (F2 := RowV []) (Ev.compL (F := IntV) (G := IntV) (xs := below.getD a.toNat []) (Fi := RowV (below.getD a.toNat [])) (p := fun m => left.any (· == m)) ?_ ?_ mono_IntV mono_IntV ?_ ?_ (by exact Nat.le_trans (by assumption) (by decide))) Ev.list0 (mono_RowV _) ?_)
      · refine Ev.item (xs := below) mono_RowV b0 (by omega) hrow ?_ (Ev.name nm (mono_IntV a) fa)
        exact Ev.name (NameIs.cel (c2.keeps hle)) (mono_RowsV _) (mono_RowsV _ _ _ _ (sb.trans hsb) hb)
      · exact fun n' xv _ hv => hands_list hv
      · intro i a' v C' H' N' ha' hle' hsb' fa' nm'
        refine Ev.tests1 (Ev.CmpT (Ev.name nm' (mono_IntV a') fa') (Ev.name (NameIs.cel (c1.keeps (hle.trans hle'))) (mono_RowV _) (mono_RowV _ _ _ _ ((sb.trans hsb).trans hsb') hl)) (mono_IntV _) fun _ _ _ _ x y => op_inL x y)
      · intro i a' v C' H' N' ha' _ hle' hsb' fa' nm'
        exact Ev.name nm' (mono_IntV a') fa'
      · intro a b n' _ x y
        exact op_eqL (by exact Nat.le_add_left _ _) x y
    · intro i a v C H N ha _ hle hsb fa nm
      exact Ev.name nm (mono_IntV a) fa
  · intro v h' tk' n' X' _ f _
    exact ⟨h', tk', n', rfl, X'.done, f⟩
end
end Mine
end
section
open PySem PySem.W PyProof.Rows PySem.Calls
set_option Elab.async false
set_option autoImplicit false
set_option maxRecDepth 100000
namespace Mine
theorem at_same {m : Str → Option Value} {x : Str} {v : Value} : (fun y => if y = x then some v else m y) x = some v := by simp
theorem at_ne {m : Str → Option Value} {x y : Str} {v : Value} {o : Option Value} (e : m y = o) (h : y ≠ x := by decide) : (fun y => if y = x then some v else m y) y = o := by simp [h, e]
section
variable {prog : Program} {w : World} {mg mb : Str → Option Value} {k : Nat} {h : Heap} {n : GL}

def stepL (under : List (List Int)) (line : List Int) : List Int := (under.getD (line.headD 0).toNat []).take 1 ++ line
def iterL (under : List (List Int)) : Nat → List Int → List Int
  | 0, line => line
  | i + 1, line => stepL under (iterL under i line)
def InB (b : Int) (xs : List Int) : Prop := ∀ i ∈ xs, 0 ≤ i ∧ i < b
theorem stepL_ok {under : List (List Int)} {line : List Int} (hu : ∀ r ∈ under, InB under.length r) (hl : InB under.length line) (hne : line ≠ []) : InB under.length (stepL under line) ∧ stepL under line ≠ [] ∧ (stepL under line).length ≤ line.length + 1 := by
  unfold stepL
  refine ⟨fun i hi => ?_, by simp [hne], by simp; grind⟩
  rcases List.mem_append.mp hi with h | h
  · have h1 := List.mem_of_mem_take h
    obtain ⟨a, r, rfl⟩ := List.exists_cons_of_ne_nil hne
    obtain ⟨a0, a1⟩ := hl a (.head _)
    have e : under[a.toNat]? = some (under.getD a.toNat []) := getD_some (by exact (Int.toNat_lt (by assumption)).mpr (by assumption))
    exact hu _ (List.mem_of_getElem? e) i h1
  · exact hl i h
theorem iterL_ok {under : List (List Int)} {line : List Int} (hu : ∀ r ∈ under, InB under.length r) (hl : InB under.length line) (hne : line ≠ []) : ∀ i, InB under.length (iterL under i line) ∧ iterL under i line ≠ [] ∧ (iterL under i line).length ≤ line.length + i
  | 0 => ⟨hl, hne, Nat.le_refl _⟩
  | i + 1 => by
    obtain ⟨a, b, c⟩ := iterL_ok hu hl hne i
    obtain ⟨a', b', c'⟩ := stepL_ok hu a b
    exact ⟨a', b', by show (stepL under (iterL under i line)).length ≤ _; grind⟩
def lineF (under : List (List Int)) (k : Int) : List Int := iterL under under.length [k]

def LineJ (under : List (List Int)) (i₀ : Int) (u : Value) (i : Nat) (_H : Heap) (N : GL) (M : Str → Option Value) : Prop := ∃ lv, M "line" = some lv ∧ RowV (iterL under i [i₀]) N lv ∧ M "under" = some u ∧ RowsV under N u
theorem line_ev {under : List (List Int)} {i₀ : Int} {u v : Value} (G : Gd (KF w) mg mb h) (hu : RowsV under n u) (hv : IntV i₀ n v) (bi : 0 ≤ i₀ ∧ i₀ < under.length) (bu : ∀ r ∈ under, InB under.length r) (s2 : under.length ≤ 1000) (s3 : ∀ r ∈ under, r.length ≤ 1000) :
    Ev prog w (k + 2) h n (call (.ref 144) [u, v]) (RowV (lineF under i₀)) := by
  refine Ev.enter (k := k + 1) G (by rfl) (by rfl) (by rfl) (by rfl) ?_
  intro A s h₁ n₁ tk hA le sb N X
  have hu₁ := mono_RowsV _ _ _ _ sb hu
  refine st_assign (s := { s with heap := h₁, toks := tk }) hA X N (.head _) (F := RowV [i₀]) (Ev.listN mono_IntV (by simp) (Ev.argsS (mono_IntV i₀) (Ev.name (NameIs.loc N (by rfl)) (mono_IntV i₀) hv) Ev.args0)) ?_
  intro lv h2 t2 n2 X2 N2 sb2 f2 _
  have ok := iterL_ok (line := [i₀]) bu (by intro i hi; rw [List.mem_singleton.mp hi]; exact bi) (by simp)
  refine st_for (s := { s with heap := h2, toks := t2 }) (F := RowV) (xs := under) (Fi := RowsV under) hA X2 N2 (.head _) ?_ (fun n' xv _ hv => hands_list hv) mono_RowV
    (LineJ under i₀ u) (fun _ _ _ => False) (fun _ _ _ => False) ?_ ?_ ?_ ?_ ?_ ?_ ?_
  · exact Ev.name (NameIs.loc N2 (by rfl)) (mono_RowsV _) (mono_RowsV _ _ _ _ sb2 hu₁)
  · intro i H H' N M hj _; exact hj
  · rintro i H N M v ⟨lv, a, b, c, d⟩
    exact ⟨lv, at_ne a, b, at_ne c, d⟩
  · intro h' n' _ sb'
    exact ⟨lv, if_pos rfl, mono_RowV _ _ _ _ sb' f2, by rfl, mono_RowsV _ _ _ _ (sb2.trans sb') hu₁⟩
  · rintro i a v H N M tk B₂ n₂ ha X' _ ns ⟨lv, a1, b1, c1, d1⟩ fa sb'
    obtain ⟨o1, o2, o3⟩ := ok i
    obtain ⟨hd', tl, ehd⟩ := List.exists_cons_of_ne_nil o2
    have hlt : i < under.length := (List.getElem?_eq_some_iff.mp ha).1
    obtain ⟨z0, z1⟩ := o1 hd' (by rw [ehd]; exact .head _)
    have hrow : under[hd'.toNat]? = some (under.getD hd'.toNat []) := getD_some (by exact (Int.toNat_lt (by assumption)).mpr (by assumption))
    have hsz := s3 _ (List.mem_of_getElem? hrow)
    refine st_assign (s := { s with heap := H, toks := tk }) hA X' ns (.head _) (F := RowV (iterL under (i + 1) [i₀])) ?_ ?_
    · have e : iterL under (i + 1) [i₀] = (under.getD hd'.toNat []).take 1 ++ iterL under i [i₀] := by
        show stepL under (iterL under i [i₀]) = _
        unfold stepL; rw [ehd]; rfl
      rw [e]
      refine Ev.addL mono_IntV (by simp at o3 ⊢; grind) (Ev.sliceTo (a := 1) mono_IntV (by exact Nat.le_trans (by assumption) (by decide)) (Ev.item (xs := under) mono_RowV z0 (by grind) hrow ?_ ?_) Ev.cint) ?_
      · exact Ev.name (NameIs.loc ns c1) (mono_RowsV _) d1
      · refine Ev.item (xs := iterL under i [i₀]) (i := 0) mono_IntV (by decide) (by decide) (by rw [ehd]; rfl) ?_ Ev.cint
        exact Ev.name (NameIs.loc ns a1) (mono_RowV _) b1
      · exact Ev.name (NameIs.loc ns a1) (mono_RowV _) b1
    · intro lv' h' tk' n' X'' N'' sb'' f'' _
      exact wpAny_execs_nil ⟨h', tk', n', _, rfl, X'', N'', lv', at_same, f'', at_ne c1, mono_RowsV _ _ _ _ sb'' d1⟩
  · rintro H N M tk X' ns ⟨lv, a1, b1, c1, d1⟩ sb'
    refine wpAny_execs_nil ?_
    refine st_return (s := { s with heap := H, toks := tk }) hA X' (F := RowV (lineF under i₀)) (Ev.name (NameIs.loc ns a1) (mono_RowV _) b1) ?_
    intro v h' tk' n' X'' _ f _
    exact ⟨h', tk', n', rfl, X''.done, f⟩
  · intro H N M tk _ _ hf; exact hf.elim
  · intro v H N tk _ hf; exact hf.elim
end
end Mine
end
section
open PySem PySem.W PyProof.Rows PySem.Calls
set_option Elab.async false
set_option autoImplicit false
namespace Mine
section
variable {prog : Program} {w : World}
/-- under a ghost with one more, where the answer does not lean on the ghost -/
theorem Ev.temp {α : Type} {k : Nat} {h : Heap} {n : GL} {t : Sem α} {P : GL → α → Prop} {a : Addr} {o : Obj} (x : Ev prog w k h ((a, o) :: n) t P) (hp : ∀ n n' v, P n v → P n' v) (ha : h.get? a = some o) : Ev prog w k h n t P := by
  intro A s n₁ Q E hA l sb ok q
  refine x A s ((a, o) :: n₁) Q E hA l (fun p hp => ?_) (fun p hp => ?_) fun v h' tk n' g f => q v h' tk n₁ (Grow.heap ok g.keep) (hp _ _ _ f)
  · rcases List.mem_cons.mp hp with rfl | hp
    · exact .head _
    · exact .tail _ (sb _ hp)
  · rcases List.mem_cons.mp hp with rfl | hp
    · exact l _ _ ha
    · exact ok p hp

theorem Grow.one {h h' : Heap} {n n' : GL} {a : Addr} {o : Obj} (g : Grow h n h' n') (f : h.get? a = none) (ho : h'.get? a = some o) : Grow h n h' ((a, o) :: n') :=
  ⟨g.keep, g.more.trans (Sub.cons _ _), fun p hp => by
    rcases List.mem_cons.mp hp with rfl | hp
    · exact ho
    · exact g.at_ p hp, fun p hp => by
    rcases List.mem_cons.mp hp with rfl | hp
    · exact .inr f
    · exact g.new p hp⟩

/-- a tree that makes a new list, not yet in the ghost -/
def EvN (prog : Program) (w : World) {α : Type} (k : Nat) (h : Heap) (n : GL) (t : Sem Value) (F : α → VP) (xs : List α) : Prop :=
  ∀ (A : Around) (s : Shared) (n₁ : GL) (Q : Value → Shared → Prop) (E : Value → Shared → Prop), Aok k A → Le h s.heap → Sub n n₁ → GOk n₁ s.heap →
    (∀ a vs e h' tk n', Grow s.heap n₁ h' n' → s.heap.get? a = none → (∀ p, p ∈ n' → p.1 ≠ a) → h'.get? a = some (lst vs e) → Paired (fun x v => F x n' v) xs vs → Q (.ref a) { s with heap := h', toks := tk }) → wpAny (model prog w) A t Q E s
theorem EvN.ev {α : Type} {k : Nat} {h : Heap} {n : GL} {t : Sem Value} {F : α → VP} {xs : List α} (m : ∀ x, Mono (F x)) (x : EvN prog w k h n t F xs) : Ev prog w k h n t (ListV F xs) := by
  intro A s n₁ Q E hA l sb ok q
  exact x A s n₁ Q E hA l sb ok fun a vs e h' tk n' g f ap ho hp => q _ h' tk ((a, lst vs e) :: n') (g.one f ho) ⟨a, vs, e, rfl, .head _, Paired.mono' (fun x v z => m x _ _ v (Sub.cons _ _) z) hp⟩
section
variable {α : Type} {k : Nat} {h : Heap} {n : GL} {env : Env} {F : α → VP} {xs ys : List α}
theorem apart_new {n : GL} {h : Heap} (ok : GOk n h) {a : Addr} (f : h.get? a = none) : ∀ p, p ∈ n → p.1 ≠ a := fun p hp e => by have := ok p hp; rw [e, f] at this; cases this
theorem EvN.list0 {pos : Pos} : EvN prog w k h n (eval (.List [] pos) env) F [] := by
  intro A s n₁ Q E hA l sb ok q
  refine List_ (args_nil ?_)
  refine wpAny_newObj_type ?_
  exact q _ [] 0 _ _ n₁ (Grow.heap ok (Le.push _ _)) (new_none _) (apart_new ok (new_none _)) (Heap.get?_push_size _ rfl) .nil
theorem EvN.listN {pos : Pos} {es : List Expr} (hx : xs.length ≤ 1000000) (ha : Ev prog w k h n (spliced (backTo pos (starEach es env))) (fun n' vs => Paired (fun (F : VP) v => F n' v) (xs.map F) vs)) :
    EvN prog w k h n (eval (.List es pos) env) F xs := by
  intro A s n₁ Q E hA l sb ok q
  refine List_ (ha A s n₁ _ E hA l sb ok fun vs h1 t1 n1 g1 f1 => ?_)
  have conv : ∀ {xs : List α} {vs : List Value}, Paired (fun (F : VP) v => F n1 v) (xs.map F) vs → Paired (fun x v => F x n1 v) xs vs := by
    intro xs
    induction xs with
    | nil => intro vs x; cases x; exact .nil
    | cons y r ih => intro vs x; cases x with | cons h t => exact .cons h (ih t)
  have f1' := conv f1
  have hl := f1'.length
  refine wpAny_newObj_type ?_ (by show vs.toArray.size ≤ sizeLine; rw [sizeLine_eq]; simp; omega)
  exact q _ vs 0 _ _ n1 (g1.trans (Grow.heap g1.at_ (Le.push _ _))) (g1.keep.none (new_none _)) (apart_new g1.at_ (new_none _)) (Heap.get?_push_size _ rfl) f1'
theorem EvN.addL {l r : Expr} {pos : Pos} (m : ∀ x, Mono (F x)) (hsz : xs.length + ys.length ≤ 1000000) (hl : Ev prog w k h n (eval l env) (ListV F xs)) (hr : Ev prog w k h n (eval r env) (ListV F ys)) :
    EvN prog w k h n (eval (.BinOp l .Add r pos) env) F (xs ++ ys) := by
  intro A s n₁ Q E hA l sb ok q
  refine wpAny_BinOp (hl A s n₁ _ E hA l sb ok fun u h1 t1 n1 g1 f1 => ?_)
  refine hr A _ n1 _ E hA (l.trans g1.keep) (sb.trans g1.more) g1.at_ fun v h2 t2 n2 g2 f2 => ?_
  obtain ⟨a, vs, e, rfl, hm, hp⟩ := mono_ListV m xs _ _ _ g2.more f1
  obtain ⟨b, ws, e', rfl, hm', hp'⟩ := f2
  have l1 := hp.length
  have l2 := hp'.length
  have ee : vs.toArray ++ ws.toArray = (vs ++ ws).toArray := by simp
  refine concat_meets ⟨_, g2.at_ _ hm, rfl⟩ ⟨_, g2.at_ _ hm', rfl⟩ noFill_list_add seq_list_add PySem.F.slot_list_add PySem.F.entry_list_add (PySem.F.args_list_add_2 _ _)
    (list_addW a b vs.toArray ws.toArray e e' _ _ _ _ (by rw [sizeLine_eq]; simp; omega)) ⟨g2.at_ _ hm, g2.at_ _ hm', ?_⟩
  rw [ee]
  exact q _ (vs ++ ws) 0 _ _ n2 ((g1.trans g2).trans (Grow.heap g2.at_ (Le.push _ _))) ((g1.trans g2).keep.none (new_none _)) (apart_new g2.at_ (new_none _)) (Heap.get?_push_size _ rfl) (Paired.app hp hp')
theorem paired_of {α β : Type} {F : α → β → Prop} : ∀ {l₁ : List α} {l₂ : List β}, l₁.length = l₂.length → (∀ (i : Nat) x y, l₁[i]? = some x → l₂[i]? = some y → F x y) → Paired F l₁ l₂
  | [], [], _, _ => .nil
  | [], _ :: _, e, _ => by simp at e
  | _ :: _, [], e, _ => by simp at e
  | a :: l, b :: r, e, h => .cons (h 0 a b rfl rfl) (paired_of (by simpa using e) fun i x y h1 h2 => h (i + 1) x y (by simpa using h1) (by simpa using h2))
theorem paired_range {n : GL} {a : Int} {vs : Array Value} {N : Nat} (x : ItemsOf (fun i v => ∃ t, v = .int (a + i * 1) t) vs N) (b : Int) (hN : N = (b - a).toNat) : Paired (fun x v => IntV x n v) (rangeL a b) vs.toList := by
  obtain ⟨h1, h2⟩ := x
  refine paired_of (by rw [rangeL_length, Array.length_toList, h1, hN]) fun i x y hx hy => ?_
  obtain ⟨t, rfl⟩ := h2 i y (by simpa using hy)
  unfold rangeL at hx
  rw [List.getElem?_map] at hx
  cases q : (List.range (b - a).toNat)[i]? with
  | none => rw [q] at hx; cases hx
  | some j =>
    rw [q] at hx
    have hlt : i < (b - a).toNat := by
      have := (List.getElem?_eq_some_iff.mp q).1
      simpa using this
    rw [List.getElem?_range hlt] at q
    cases q
    simp at hx
    subst hx
    exact ⟨t, by rw [Int.mul_one]⟩
theorem opN_listRange {a b : Int} {v : Value} {n : GL} (ha : a.natAbs < 2 ^ 20) (hb : b.natAbs < 2 ^ 20) (x : RangeV a b n v) : EvN prog w k h n (call (.type "list") [v]) IntV (rangeL a b) := by
  obtain ⟨r, t, u, t', rfl, hm⟩ := x
  intro A s n₁ Q E hA l sb ok q
  refine call_list_range (n := (b - a).toNat) hA.handled (ok _ (sb _ hm)) (small_one (by omega) (by omega) (by omega) (by omega)) (rangeSize_one a b) (by omega) fun h' tk acc' c' hk hS hacc => ?_
  exact q _ acc'.toList c' h' tk n₁ (Grow.heap ok hk) (new_none _) (apart_new ok (new_none _)) (by simpa using hS) (paired_range hacc b rfl)
end

section
variable {α : Type} {A : Around} {E : Value → Shared → Prop} {s : Shared} {k : Nat} {env : Env} {B : Heap} {n₀ n : GL} {ow : List Addr} {m : Str → Option Value} {rest : List Stmt} {Q : Flow → Shared → Prop} {F : α → VP} {xs : List α}
/-- a new list of one's own, bound to a local name -/
theorem st_assignN {x : Str} {px pos : Pos} {e : Expr} (hA : Aok k A) (X : Fx B n₀ ow s.heap n) (N : s.heap.Ns env.locals m) (hL : env.locals ∈ ow) (he : EvN prog w k s.heap n (eval e env) F xs)
    (next : ∀ a vs e' h' tk n', Fx B n₀ (a :: ow) h' n' → h'.Ns env.locals (fun y => if y = x then some (.ref a) else m y) → Sub n n' → a ∉ ow → h'.get? a = some (lst vs e') → Paired (fun x v => F x n' v) xs vs → (∀ b o, b ≠ env.locals → s.heap.get? b = some o → h'.get? b = some o) →
      wpAny (model prog w) A (execs rest env) Q E { s with heap := h', toks := tk })
    (hx : env.kindOf x = some .local := by rfl) (hk : env.scope.kind = .function := by rfl) (hsw : swapsWith e (some (.Name x px)) pos.line env = Pure.pure false := by rfl) :
    wpAny (model prog w) A (execs (.Assign [.Name x px] e pos :: rest) env) Q E s := by
  refine wpAny_execs_cons (wpAny_Assign_Name (he A s n _ E hA (Le.refl _) (Sub.refl _) X.ok fun a vs e' h1 t1 n1 g1 f1 ap ho hp => ?_) hsw)
  have nO : a ∉ ow := fun hm => by obtain ⟨o, h2⟩ := X.live a hm; rw [f1] at h2; cases h2
  have hLa : env.locals ≠ a := fun e => nO (e ▸ hL)
  refine wpAny_storeName_local hx (N.keeps g1.keep) (fun h2 hn2 sm2 => ?_) (by rw [hk]; rfl)
  have X1 := (X.grow g1).upd hL sm2 (let ⟨o, _, _, ho, _⟩ := hn2; ⟨o, ho⟩)
  have ho2 : h2.get? a = some (lst vs e') := sm2.extBut _ _ (Ne.symm hLa) ho
  refine next a vs e' h2 _ n1 ⟨X1.keep, X1.more, X1.ok, X1.new, fun p hp b hb => ?_, fun b hb => ?_, fun b hb => ?_⟩ hn2 g1.more nO ho2 hp fun b o hb e => sm2.extBut b o hb (g1.keep b o e)
  · rcases List.mem_cons.mp hb with rfl | hb
    · exact ap p hp
    · exact X1.apart p hp b hb
  · rcases List.mem_cons.mp hb with rfl | hb
    · exact ⟨_, ho2⟩
    · exact X1.live b hb
  · rcases List.mem_cons.mp hb with rfl | hb
    · exact X.keep.none f1
    · exact X1.fresh b hb
end
end
end Mine
end
section
open PySem PySem.W PyProof.Rows PySem.Calls
set_option Elab.async false
set_option autoImplicit false
set_option maxRecDepth 100000
namespace Mine
section
variable {prog : Program} {w : World} {mg mb : Str → Option Value} {k : Nat} {h : Heap} {n : GL}

theorem nmLen {K : Frag} {env : Env} (G : Gd K mg mb h) (e : nsIn K mainGlobals (Str.ofString "len") = some none) (hg : env.globals = mainGlobals := by rfl) (hb : env.builtins = builtinsNs := by rfl) (hk : env.scope.kind = .function := by rfl) (hx : env.kindOf (Str.ofString "len") = some .globalImplicit := by rfl) :
    NameIs prog w env h (Str.ofString "len") (.builtin "len") := NameIs.bui G e (by decide +kernel) (by decide) hg hb hk hx
theorem nmRange {K : Frag} {env : Env} (G : Gd K mg mb h) (e : nsIn K mainGlobals (Str.ofString "range") = some none) (hg : env.globals = mainGlobals := by rfl) (hb : env.builtins = builtinsNs := by rfl) (hk : env.scope.kind = .function := by rfl) (hx : env.kindOf (Str.ofString "range") = some .globalImplicit := by rfl) :
    NameIs prog w env h (Str.ofString "range") (.type "range") := NameIs.bui G e (by decide +kernel) (by decide) hg hb hk hx
theorem nmList {K : Frag} {env : Env} (G : Gd K mg mb h) (e : nsIn K mainGlobals (Str.ofString "list") = some none) (hg : env.globals = mainGlobals := by rfl) (hb : env.builtins = builtinsNs := by rfl) (hk : env.scope.kind = .function := by rfl) (hx : env.kindOf (Str.ofString "list") = some .globalImplicit := by rfl) :
    NameIs prog w env h (Str.ofString "list") (.type "list") := NameIs.bui G e (by decide +kernel) (by decide) hg hb hk hx

/-- range(len(e)) -/
theorem ev_rangeLen {env : Env} {α : Type} {F : α → VP} {xs : List α} {e : Expr} {p1 p2 p3 p4 : Pos} (m : ∀ x, Mono (F x)) (hsz : xs.length ≤ 1000000) (n1 : NameIs prog w env h (Str.ofString "range") (.type "range")) (n2 : NameIs prog w env h (Str.ofString "len") (.builtin "len")) (he : Ev prog w k h n (eval e env) (ListV F xs))
    (hs : starEach [e] env = [(false, eval e env)] := by rfl)
    (hs2 : starEach [Expr.Call (.Name (Str.ofString "len") p2) [e] [] p3] env = [(false, eval (Expr.Call (.Name (Str.ofString "len") p2) [e] [] p3) env)] := by rfl) :
    Ev prog w k h n (eval (.Call (.Name (Str.ofString "range") p1) [.Call (.Name (Str.ofString "len") p2) [e] [] p3] [] p4) env) (RangeV 0 xs.length) := by
  refine callTyp (Ev.nameE n1) (Ev.argsS (mono_IntV xs.length) (callBui (Ev.nameE n2) (Ev.argsS (mono_ListV m xs) he Ev.args0 hs) ?_ (by rfl) hs) Ev.args0 hs2) ?_ (by rfl) hs2
  · refine arg1 fun v n' _ hv => ?_
    exact op_lenL hv hsz
  · refine arg1 fun v n' _ hv => ?_
    exact op_range1 hv

theorem callTypN {env : Env} {fn : Expr} {pos : Pos} {α : Type} {F : α → VP} {xs : List α} {id : String} {e : Expr} {rest : List Expr} {Fs : List VP} (hf : Ev prog w k h n (eval fn env) (EqV (.type id)))
    (ha : Ev prog w k h n (spliced (backTo pos (starEach (e :: rest) env))) (fun n' vs => Paired (fun (F : VP) v => F n' v) Fs vs))
    (hc : ∀ vs n', Sub n n' → Paired (fun (F : VP) v => F n' v) Fs vs → EvN prog w k h n' (call (.type id) vs) F xs)
    (he : eval (.Call fn (e :: rest) [] pos) env = (do callWith pos (← eval fn env) [] (backTo pos (starEach (e :: rest) env)) (backToKw pos (keywordEach [] env))) := by rfl)
    (hs : starEach (e :: rest) env = (false, eval e env) :: starEach rest env := by rfl) (hp : (backTo pos (starEach rest env)).any (·.1) = false := by rfl) : EvN prog w k h n (eval (.Call fn (e :: rest) [] pos) env) F xs := by
  intro A s n₁ Q E hA l sb ok q
  refine Call_ (hf A s n₁ _ E hA l sb ok fun f h1 t1 n1 g1 f1 => ?_) he
  have e1 : f = .type id := f1
  subst e1
  refine PyProof.Rows.callWith_type1 (ha A _ n1 _ E hA (l.trans g1.keep) (sb.trans g1.more) g1.at_ fun vs h2 t2 n2 g2 f2 => ?_) hs hp
  exact hc vs n2 (sb.trans (g1.trans g2).more) f2 A _ n2 Q E hA (l.trans (g1.trans g2).keep) (Sub.refl _) g2.at_ fun a vs' e' h3 t3 n3 g3 f3 ap ho hp => q a vs' e' h3 t3 n3 ((g1.trans g2).trans g3) ((g1.trans g2).keep.none f3) ap ho hp

def orderGo (below : List (List Int)) : Nat → List Int → List Int → List Int
  | 0, _, acc => acc
  | f + 1, left, acc => orderGo below f (left.erase ((freeF left below).headD 0)) (acc ++ [(freeF left below).headD 0])
def orderF (below : List (List Int)) : List Int := orderGo below below.length (rangeL 0 below.length) []

theorem erase_length_mem {xs : List Int} {i : Int} (h : i ∈ xs) : (xs.erase i).length = xs.length - 1 := List.length_erase_of_mem h
theorem InB.erase {b : Int} {xs : List Int} (h : InB b xs) (i : Int) : InB b (xs.erase i) := fun j hj => h j (List.mem_of_mem_erase hj)
theorem rangeL_inB (b : Int) : InB b (rangeL 0 b) := fun i hi => by
  obtain ⟨j, hj⟩ := List.mem_iff_getElem?.mp hi
  obtain ⟨_, h1, h2⟩ := rangeL_get hj
  exact ⟨h1, h2⟩
theorem freeF_sub {left : List Int} {below : List (List Int)} {i : Int} (h : i ∈ freeF left below) : i ∈ left := (List.mem_filter.mp h).1

inductive OrderJ (below : List (List Int)) (D O : Addr) (u : Value) (H : Heap) (M : Str → Option Value) : Nat → Prop
  | mk (left acc : List Int) (vsL : List Value) (eL : Nat) (vsA : List Value) (eA : Nat) : H.get? D = some (lst vsL eL) → IntsAre vsL left → H.get? O = some (lst vsA eA) → IntsAre vsA acc → M "left" = some (.ref D) → M "order" = some (.ref O) → M "below" = some u → InB below.length left →
      acc.length + left.length ≤ 1000 → orderGo below left.length left acc = orderF below → OrderJ below D O u H M left.length
theorem order_ev {below : List (List Int)} {u : Value} (G : Gd (KF w) mg mb h) (hb : RowsV below n u) (hfree : ∀ left, left ≠ [] → InB below.length left → freeF left below ≠ []) (s2 : below.length ≤ 1000) (s3 : ∀ r ∈ below, r.length ≤ 1000) :
    Ev prog w (k + 4) h n (call (.ref 132) [u]) (RowV (orderF below)) := by
  refine Ev.enter (k := k + 3) G (by rfl) (by rfl) (by rfl) (by rfl) ?_
  intro A s h₁ n₁ tk hA le sb N X
  have G₁ := G.keeps (le.trans X.keep)
  have hb₁ := mono_RowsV _ _ _ _ sb hb
  refine st_assignN (s := { s with heap := h₁, toks := tk }) hA X N (.head _) (F := IntV) (xs := rangeL 0 below.length) ?_ ?_
  · refine callTypN (Ev.nameE (nmList G₁ (by rfl))) (Ev.argsS (mono_RangeV 0 below.length) (ev_rangeLen mono_RowV (by exact Nat.le_trans (by assumption) (by decide)) (nmRange G₁ (by rfl)) (nmLen G₁ (by rfl)) (Ev.name (NameIs.loc N (by rfl)) (mono_RowsV _) hb₁)) Ev.args0) ?_
    refine arg1 fun v n' _ hv => ?_
    exact opN_listRange (by decide) (by exact Nat.lt_of_le_of_lt (by assumption) (by decide)) hv
  intro D vsD eD h2 t2 n2 X2 N2 sb2 nD hD pD kp2
  refine st_assignN (s := { s with heap := h2, toks := t2 }) hA X2 N2 (.tail _ (.head _)) (F := IntV) (xs := []) EvN.list0 ?_
  intro O vsO eO h3 t3 n3 X3 N3 sb3 nO hO pO kp3
  cases pO
  have hDL : D ≠ s.heap.objs.size := fun e => nD (by rw [e]; exact .head _)
  have hOD : O ≠ D := fun e => nO (by rw [e]; exact .head _)
  have hOL : O ≠ s.heap.objs.size := fun e => nO (by rw [e]; exact .tail _ (.head _))
  have hD3 := kp3 _ _ hDL hD
  have hb₃ := mono_RowsV _ _ _ _ (sb2.trans sb3) hb₁
  refine st_while (s := { s with heap := h3, toks := t3 }) hA X3 N3
    (fun j H _ M => OrderJ below D O u H M j)
    (fun j => !decide (j = 0)) (rangeL 0 below.length).length ?_ ?_ ?_ ?_ ?_
  · refine ⟨rangeL 0 below.length, [], vsD, eD, [], eO, hD3, intsAre_of pD, hO, .nil, by rfl, by rfl, by rfl, rangeL_inB _, ?_, ?_⟩
    · rw [rangeL_length]; simp; assumption
    · rw [rangeL_length]; simp [orderF]
  · rintro j H N M B₂ n₂ X' leB ns ⟨left, acc, vsL, eL, vsA, eA, hL, iL, hO', iA, m1, m2, m3, bL, sz, go⟩ sb'
    refine Ev.temp (a := D) (o := lst vsL eL) ?_ (fun _ _ _ e => e) hL
    have e : (!decide (left.length = 0)) = !decide (left = []) := by cases left <;> simp
    rw [e]
    refine Ev.CmpT (F2 := RowV []) (Ev.name (NameIs.loc ns m1) (mono_RowV left) ⟨D, vsL, eL, rfl, .head _, of_intsAre iL⟩) Ev.list0 (mono_RowV _) fun _ _ _ _ x y => op_neL (by exact Nat.le_add_left _ _) x y
  · rintro j H H' N N' M ⟨left, acc, vsL, eL, vsA, eA, hL, iL, hO', iA, r1, r2, r3, r4, r5, r6⟩ g
    exact ⟨left, acc, vsL, eL, vsA, eA, g.keep _ _ hL, iL, g.keep _ _ hO', iA, r1, r2, r3, r4, r5, r6⟩
  · rintro j H N M tk hc X' ns ⟨left, acc, vsL, eL, vsA, eA, hL, iL, hO', iA, m1, m2, m3, bL, sz, go⟩ sb'
    have hne : left ≠ [] := by intro e; subst e; simp at hc
    obtain ⟨lo, r, elo⟩ := List.exists_cons_of_ne_nil (hfree left hne bL)
    have hlo : lo ∈ left := freeF_sub (by rw [elo]; exact .head _)
    have GH := G.keeps (le.trans X'.keep)
    have hbN := mono_RowsV _ _ _ _ sb' hb₃
    refine st_assign (s := { s with heap := H, toks := tk }) hA X' ns (.tail _ (.tail _ (.head _))) (F := IntV lo) ?_ ?_
    · refine Ev.temp (a := D) (o := lst vsL eL) ?_ (fun _ _ _ e => e) hL
      refine Ev.item (F := IntV) (xs := freeF left below) (i := 0) mono_IntV (by decide) (by decide) (by rw [elo]; rfl) ?_ Ev.cint
      refine callDef (fa := 125) GH (by rfl) (Ev.nameE (NameIs.glo GH (by rfl))) (Ev.argsS (mono_RowV left) (Ev.name (NameIs.loc ns m1) (mono_RowV left) ⟨D, vsL, eL, rfl, .head _, of_intsAre iL⟩) (Ev.argsS (mono_RowsV below) (Ev.name (NameIs.loc ns m3) (mono_RowsV below) (mono_RowsV _ _ _ _ (Sub.cons _ _) hbN)) Ev.args0)) ?_
      refine arg2 fun u' v' n' _ hu' hv' => ?_
      exact free_ev (k := k + 1) GH hu' hv' bL (by grind) s2 s3
    · intro lv h4 t4 n4 X4 N4 sb4 f4 kp4
      have hL4 := kp4 _ _ hDL hL
      have hO4 := kp4 _ _ hOL hO'
      have lA := iA.length
      have lL := iL.length
      refine st_append (s := { s with heap := h4, toks := t4 }) (F := IntV lo) hA X4 (.head _) hO4 (by grind) (NameIs.loc N4 (at_ne m2)) (Ev.name (NameIs.loc N4 at_same) (mono_IntV lo) f4) ?_
      rintro h5 t5 n5 e5 v5 X5 sb5 ⟨tv, rfl⟩ hO5 kp5
      have hL5 := kp5 _ _ (Ne.symm hOD) hL4
      have N5 := N4.at' fun o e => kp5 _ _ (Ne.symm hOL) e
      refine st_remove (s := { s with heap := h5, toks := t5 }) (i := lo) hA X5 (.tail _ (.head _)) hL5 (by grind) iL hlo (NameIs.loc N5 (at_ne m1)) (Ev.name (NameIs.loc N5 at_same) (mono_IntV lo) f4) ?_
      intro h6 t6 n6 e6 vs6 X6 sb6 i6 hL6 kp6
      have N6 := N5.at' fun o e => kp6 _ _ (Ne.symm hDL) e
      refine wpAny_execs_nil ⟨h6, t6, n6, _, (left.erase lo).length, rfl, X6, N6, ⟨left.erase lo, acc ++ [lo], vs6, e6, _, e5, hL6, i6, kp6 _ _ hOD hO5, ?_, at_ne m1, at_ne m2, at_ne m3, bL.erase lo, ?_, ?_⟩, ((sb'.trans sb4).trans sb5).trans sb6, ?_⟩
      · exact intsAre_of (n := []) (Paired.app (of_intsAre iA) (.cons ⟨tv, rfl⟩ .nil))
      · rw [erase_length_mem hlo]; simp; have := List.length_pos_of_mem hlo; grind
      · rw [← go]
        obtain ⟨q, hq⟩ : ∃ q, left.length = q + 1 := ⟨left.length - 1, by have := List.length_pos_of_mem hlo; grind⟩
        rw [erase_length_mem hlo, hq]
        show _ = orderGo below q (left.erase ((freeF left below).headD 0)) (acc ++ [(freeF left below).headD 0])
        rw [elo]; rfl
      · rw [erase_length_mem hlo]; have := List.length_pos_of_mem hlo; grind
  · rintro j H N M tk hc X' ns ⟨left, acc, vsL, eL, vsA, eA, hL, iL, hO', iA, m1, m2, m3, bL, sz, go⟩ sb'
    have hz : left.length = 0 := by simpa using hc
    rw [hz] at go
    have go' : acc = orderF below := go
    refine wpAny_execs_nil ?_
    have X'' : Fx s.heap n₁ [D, s.heap.objs.size] H ((O, lst vsA eA) :: N) := X'.freeze (.head _) hO' fun b hb => ⟨.tail _ hb, fun e => nO (e ▸ hb)⟩
    refine st_return (s := { s with heap := H, toks := tk }) hA X'' (F := RowV (orderF below)) (Ev.name (NameIs.loc ns m2) (mono_RowV _) ⟨O, vsA, eA, rfl, .head _, go' ▸ of_intsAre iA⟩) ?_
    intro v h' tk' n' X3 _ f _
    exact ⟨h', tk', n', rfl, X3.done, f⟩
end
end Mine
end
section
open PySem PySem.W PyProof.Rows PySem.Calls
set_option Elab.async false
set_option autoImplicit false
namespace Mine
theorem Fx.addG {B : Heap} {n₀ : GL} {ow : List Addr} {h : Heap} {n : GL} (x : Fx B n₀ ow h n) {a : Addr} {o : Obj} (ho : h.get? a = some o) (fB : B.get? a = none) (nO : a ∉ ow) : Fx B n₀ ow h ((a, o) :: n) where
  keep := x.keep
  more := x.more.trans (Sub.cons _ _)
  ok := fun p hp => by
    rcases List.mem_cons.mp hp with rfl | hp
    · exact ho
    · exact x.ok p hp
  new := fun p hp => by
    rcases List.mem_cons.mp hp with rfl | hp
    · exact .inr fB
    · exact x.new p hp
  apart := fun p hp b hb => by
    rcases List.mem_cons.mp hp with rfl | hp
    · rintro rfl; exact nO hb
    · exact x.apart p hp b hb
  live := x.live
  fresh := x.fresh
section
variable {prog : Program} {w : World} {α : Type} {A : Around} {E : Value → Shared → Prop} {s : Shared} {k : Nat} {elt iter : Expr} {x y : Str} {px py : Pos} {ifs : List Expr} {scope : Scope} {pos spos : Pos} {env : Env} {cl : List (Str × Addr)} {F G : α → VP} {Fi : VP} {xs : List α} {p : α → Bool}
  {B : Heap} {n₀ n : GL} {ow : List Addr} {m : Str → Option Value} {rest : List Stmt} {Q : Flow → Shared → Prop}

theorem compEnd_assign {s₁ : Shared} {n₂ : GL} {Qn : Shared → Prop} (mG : ∀ a, Mono (G a)) (g : Grow s.heap n s₁.heap n₂) (hs : ∃ h' tk, s₁ = { s with heap := h', toks := tk }) (X : Fx B n₀ ow s.heap n) (NS : s.heap.Ns env.locals m) (hL : env.locals ∈ ow)
    (next : ∀ v h' tk n', Fx B n₀ ow h' n' → h'.Ns env.locals (fun z => if z = y then some v else m z) → Sub n n' → ListV G (xs.filter p) n' v → (∀ b o, b ≠ env.locals → s.heap.get? b = some o → h'.get? b = some o) → Qn { s with heap := h', toks := tk })
    (hy : env.kindOf y = some .local) (hk : env.scope.kind = .function) :
    CompEnd G xs p s₁.heap n₂ (fun acc C => compPost (model prog w) A E (some (assign (.Name y py) env)) (fun _ s' => Qn s') acc C) s₁ := by
  intro D C H tk N ys e fC fD hDC le sb ok new ap hD pr ns
  obtain ⟨h', tk', rfl⟩ := hs
  dsimp only at *
  obtain ⟨m', hm'⟩ := ns
  have X1 := X.grow g
  have nC : C ∉ ow := fun hm => by obtain ⟨o, ho⟩ := X1.live C hm; rw [fC] at ho; cases ho
  have nD : D ∉ ow := fun hm => by obtain ⟨o, ho⟩ := X1.live D hm; rw [fD] at ho; cases ho
  have hLC : env.locals ≠ C := fun e => nC (e ▸ hL)
  have hLD : env.locals ≠ D := fun e => nD (e ▸ hL)
  show wpAny _ A (assign (.Name y py) env (.ref D)) _ _ _
  refine wpAny_assign_Name (wpAny_storeName_local hy ((NS.keeps g.keep).keeps le) (fun h2 hn2 sm2 => ?_) (by rw [hk]; rfl))
  refine ⟨m', hm'.sameBut sm2 (Ne.symm hLC), fun h3 sm3 => ?_⟩
  have X2 : Fx B n₀ ow H N := X1.grow ⟨le, sb, ok, new⟩
  have X3 := X2.upd hL sm2 (let ⟨o, _, _, ho, _⟩ := hn2; ⟨o, ho⟩)
  have X4 : Fx B n₀ ow h3 N := X3.but (I := C) (fun b o hb e => sm3.extBut b o hb e) (X1.keep.none fC) (fun q hq => (ap q hq).1) nC
  have hD3 : h3.get? D = some (lst ys e) := sm3.extBut _ _ hDC (sm2.extBut _ _ (Ne.symm hLD) hD)
  refine next (.ref D) h3 _ ((D, lst ys e) :: N) (X4.addG hD3 (X1.keep.none fD) nD) (hn2.sameBut sm3 hLC) ((g.more.trans sb).trans (Sub.cons _ _)) ⟨D, ys, e, rfl, .head _, Paired.mono' (fun a y z => mG a _ _ _ (Sub.cons _ _) z) pr⟩ fun b o hb e => ?_
  have hb1 := g.keep b o e
  exact sm3.extBut b o (by rintro rfl; rw [fC] at hb1; cases hb1) (sm2.extBut b o hb (le b o hb1))

/-- «y = [.. for x in ..]», y and x plain locals -/
theorem st_assignCompL (hA : Aok k A) (X : Fx B n₀ ow s.heap n) (NS : s.heap.Ns env.locals m) (hL : env.locals ∈ ow)
    (hiter : Ev prog w k s.heap n (eval iter env) Fi) (hit : ∀ n' xv, Sub n n' → Fi n' xv → Hands prog w k F xs n' xv) (mF : ∀ a, Mono (F a)) (mG : ∀ a, Mono (G a))
    (htest : ∀ (i : Nat) a v C H N, xs[i]? = some a → Le s.heap H → Sub n N → F a N v → NameIs prog w (compEnvC scope cl C env) H x v → Ev prog w k H N (testsOf ifs (compEnvC scope cl C env)) (fun _ b => b = p a))
    (helt : ∀ (i : Nat) a v C H N, xs[i]? = some a → p a = true → Le s.heap H → Sub n N → F a N v → NameIs prog w (compEnvC scope cl C env) H x v → Ev prog w k H N (eval elt (compEnvC scope cl C env)) (G a))
    (hsz : xs.length ≤ 1000000)
    (next : ∀ v h' tk n', Fx B n₀ ow h' n' → h'.Ns env.locals (fun z => if z = y then some v else m z) → Sub n n' → ListV G (xs.filter p) n' v → (∀ b o, b ≠ env.locals → s.heap.get? b = some o → h'.get? b = some o) → wpAny (model prog w) A (execs rest env) Q E { s with heap := h', toks := tk })
    (hsw : swapsWith (.ListComp elt [⟨.Name x px, iter, ifs, 0⟩] scope pos) (some (.Name y py)) spos.line env = Pure.pure true := by rfl) (hy : env.kindOf y = some .local := by rfl) (hk : env.scope.kind = .function := by rfl)
    (hclos : closureFor scope env = Pure.pure cl := by rfl) (hkind : scope.kind = .function := by rfl) (hnames : ∀ y ∈ scope.names, y.2 = .local → scope.names.lookup y.1 = some .local := by decide)
    (hx : scope.names.lookup x = some .local := by rfl) (hpc : ∀ h, pushCells h scope.names = h := by intro _; rfl) (hcf : ∀ c, cellsFrom c scope.names cl = cl := by intro _; rfl) (hd : (x == ("__debug__" : Str)) = false := by decide)
    (hs : ∀ x, foldedSetIterable iter env x = Pure.pure x := by intro _; rfl) :
    wpAny (model prog w) A (execs (.Assign [.Name y py] (.ListComp elt [⟨.Name x px, iter, ifs, 0⟩] scope pos) spos :: rest) env) Q E s := by
  refine wpAny_execs_cons ?_
  rw [exec_Assign_Name_used _ _ _ _ hsw]
  refine wpAny_bind (wpAny_standAt (wpAny_bind ?_))
  show wpAny _ A (do let _ ← comprehension (.ListComp elt [⟨.Name x px, iter, ifs, 0⟩] scope pos) scope env _ (newList []) false (eval iter env) (some (assign (.Name y py) env))) _ _ s
  refine wpAny_bind (wpAny_mono (wpAny_comprehension_free (use := some (assign (.Name y py) env)) (Q := fun _ s' => wpAny (model prog w) A (execs rest env) Q E s') rfl hs hclos hkind hnames
    (hiter A s n _ E hA (Le.refl _) (Sub.refl _) X.ok fun xv h1 t1 n1 g1 f1 => ?_)) (fun _ s' hq => wpAny_pure (wpAny_pure hq)) fun _ _ e => e)
  obtain ⟨P, hI, hP⟩ := hit n1 xv g1.more f1
  refine compBlock_loc (s := { s with heap := h1, toks := t1 }) hA hI hP mF mG g1.at_ hkind hx hpc hcf ?_ ?_ (compEnd_assign (s := s) mG g1 ⟨h1, t1, rfl⟩ X NS hL next hy hk) hsz hd
  · intro i a v C H N ha le sb' fa nm
    exact htest i a v C H N ha (g1.keep.trans le) (g1.more.trans sb') fa nm
  · intro i a v C H N ha hpa le sb' fa nm
    exact helt i a v C H N ha hpa (g1.keep.trans le) (g1.more.trans sb') fa nm
/-- the same, x in a cell of the comprehension's own -/
theorem st_assignCompC (hA : Aok k A) (X : Fx B n₀ ow s.heap n) (NS : s.heap.Ns env.locals m) (hL : env.locals ∈ ow)
    (hiter : Ev prog w k s.heap n (eval iter env) Fi) (hit : ∀ n' xv, Sub n n' → Fi n' xv → Hands prog w k F xs n' xv) (mF : ∀ a, Mono (F a)) (mG : ∀ a, Mono (G a))
    (htest : ∀ (i : Nat) a v C H N, xs[i]? = some a → Le s.heap H → Sub n N → F a N v → H.IsCell (C + 1) (some v) → Ev prog w k H N (testsOf ifs (compEnvC scope ((x, C + 1) :: cl) C env)) (fun _ b => b = p a))
    (helt : ∀ (i : Nat) a v C H N, xs[i]? = some a → p a = true → Le s.heap H → Sub n N → F a N v → H.IsCell (C + 1) (some v) → Ev prog w k H N (eval elt (compEnvC scope ((x, C + 1) :: cl) C env)) (G a))
    (hsz : xs.length ≤ 1000000)
    (next : ∀ v h' tk n', Fx B n₀ ow h' n' → h'.Ns env.locals (fun z => if z = y then some v else m z) → Sub n n' → ListV G (xs.filter p) n' v → (∀ b o, b ≠ env.locals → s.heap.get? b = some o → h'.get? b = some o) → wpAny (model prog w) A (execs rest env) Q E { s with heap := h', toks := tk })
    (hsw : swapsWith (.ListComp elt [⟨.Name x px, iter, ifs, 0⟩] scope pos) (some (.Name y py)) spos.line env = Pure.pure true := by rfl) (hy : env.kindOf y = some .local := by rfl) (hk : env.scope.kind = .function := by rfl)
    (hclos : closureFor scope env = Pure.pure cl := by rfl) (hkind : scope.kind = .function := by rfl) (hnames : ∀ y ∈ scope.names, y.2 = .local → scope.names.lookup y.1 = some .local := by decide)
    (hx : ∀ e : Env, (relabel scope e).names.lookup x = some .cell := by intro _; rfl) (hpc : ∀ h, pushCells h scope.names = h.push { cls := .type "cell", data := .cell none } := by intro _; rfl) (hcf : ∀ c, cellsFrom c scope.names cl = (x, c) :: cl := by intro _; rfl)
    (hs : ∀ x, foldedSetIterable iter env x = Pure.pure x := by intro _; rfl) :
    wpAny (model prog w) A (execs (.Assign [.Name y py] (.ListComp elt [⟨.Name x px, iter, ifs, 0⟩] scope pos) spos :: rest) env) Q E s := by
  refine wpAny_execs_cons ?_
  rw [exec_Assign_Name_used _ _ _ _ hsw]
  refine wpAny_bind (wpAny_standAt (wpAny_bind ?_))
  show wpAny _ A (do let _ ← comprehension (.ListComp elt [⟨.Name x px, iter, ifs, 0⟩] scope pos) scope env _ (newList []) false (eval iter env) (some (assign (.Name y py) env))) _ _ s
  refine wpAny_bind (wpAny_mono (wpAny_comprehension_free (use := some (assign (.Name y py) env)) (Q := fun _ s' => wpAny (model prog w) A (execs rest env) Q E s') rfl hs hclos hkind hnames
    (hiter A s n _ E hA (Le.refl _) (Sub.refl _) X.ok fun xv h1 t1 n1 g1 f1 => ?_)) (fun _ s' hq => wpAny_pure (wpAny_pure hq)) fun _ _ e => e)
  obtain ⟨P, hI, hP⟩ := hit n1 xv g1.more f1
  refine compBlock_cel (s := { s with heap := h1, toks := t1 }) hA hI hP mF mG g1.at_ hkind hx hpc hcf ?_ ?_ (compEnd_assign (s := s) mG g1 ⟨h1, t1, rfl⟩ X NS hL next hy hk) hsz
  · intro i a v C H N ha le sb' fa nm
    exact htest i a v C H N ha (g1.keep.trans le) (g1.more.trans sb') fa nm
  · intro i a v C H N ha hpa le sb' fa nm
    exact helt i a v C H N ha hpa (g1.keep.trans le) (g1.more.trans sb') fa nm
end
end Mine
end
section
open PySem PySem.W PyProof.Rows PySem.Calls
set_option Elab.async false
set_option autoImplicit false
set_option maxRecDepth 100000
namespace Mine
/-- a text by its signs -/
abbrev S (l : List Nat) : Str := ⟨l.toArray⟩
theorem S_append (a b : List Nat) : S a ++ S b = S (a ++ b) := by
  show (⟨a.toArray ++ b.toArray⟩ : Str) = _
  simp
section
variable {prog : Program} {w : World} {mg mb : Str → Option Value} {k : Nat} {h : Heap} {n : GL} {env : Env}
theorem Ev.cS {x : Str} {c : Nat} {pos : Pos} (l : List Nat) (e : x = S l := by decide +kernel) : Ev prog w k h n (eval (.Constant (.str x) c pos) env) (StrV (S l)) := e ▸ Ev.cstr
theorem mulS_eq (c : Nat) {i : Int} (h0 : 0 ≤ i) (h2 : i ≤ 2) : Txt.mul (S [c]) i = S (List.replicate i.toNat c) := by
  have : i = 0 ∨ i = 1 ∨ i = 2 := by omega
  rcases this with rfl | rfl | rfl
  · rfl
  · rfl
  · rfl
theorem Ev.mulS {l r : Expr} {pos : Pos} {c : Nat} {i : Int} (h0 : 0 ≤ i) (h2 : i ≤ 2) (hl : Ev prog w k h n (eval l env) (StrV (S [c]))) (hr : Ev prog w k h n (eval r env) (IntV i)) :
    Ev prog w k h n (eval (.BinOp l .Mult r pos) env) (StrV (S (List.replicate i.toNat c))) := by
  refine Ev.BinOp hl hr (mono_StrV _) ?_
  rintro _ _ n' _ ⟨t, rfl⟩ ⟨u, rfl⟩
  refine Ev.readT (f := fun u => Value.str (S (List.replicate i.toNat c)) u) (fun _ _ _ _ _ _ _ q => SB.mul (mulOk_of 1 2 (by simp [Str.length]) (by assumption) (by omega) (by decide) (by decide)) ?_) fun u _ _ => ⟨u, rfl⟩
  intro t' tk
  rw [mulS_eq c h0 h2]
  exact q _ _
theorem Ev.addS {l r : Expr} {pos : Pos} {a b : List Nat} (hsz : a.length + b.length ≤ 1000000) (hl : Ev prog w k h n (eval l env) (StrV (S a))) (hr : Ev prog w k h n (eval r env) (StrV (S b))) :
    Ev prog w k h n (eval (.BinOp l .Add r pos) env) (StrV (S (a ++ b))) := by
  refine Ev.BinOp hl hr (mono_StrV _) ?_
  rintro _ _ n' _ ⟨t, rfl⟩ ⟨u, rfl⟩
  refine Ev.readT (f := fun u => Value.str (S (a ++ b)) u) (fun _ _ _ _ _ _ _ q => SB.add ?_ (by rw [sizeLine_eq]; simp [Str.length]; exact Nat.le_trans (by assumption) (by decide))) fun u _ _ => ⟨u, rfl⟩
  intro t' tk
  rw [S_append]
  exact q _ _

def leadL (a b c d e : Nat) : List Nat := List.replicate a 32 ++ List.replicate b 9 ++ List.replicate c 32 ++ List.replicate d 9 ++ List.replicate e 32 ++ [120]
def leadOf (x : Int) : List Nat := leadL (x.fmod 3).toNat ((x.fdiv 3).fmod 2).toNat ((x.fdiv 6).fmod 3).toNat ((x.fdiv 18).fmod 3).toNat ((x.fdiv 54).fmod 3).toNat
theorem fm {x : Int} {d : Int} (h : 0 < d) : 0 ≤ x.fmod d ∧ x.fmod d < d := ⟨Int.fmod_nonneg_of_pos x h, Int.fmod_lt_of_pos x h⟩
theorem le2 {i : Int} (h : i < 3) : i ≤ 2 := Int.le_of_lt_add_one h
theorem rep2 {i : Int} {c : Nat} (h : i < 3) : (List.replicate i.toNat c).length ≤ 2 := by rw [List.length_replicate]; exact Int.toNat_le.mpr (le2 h)
theorem lenApp {xs ys : List Nat} {m n : Nat} (hx : xs.length ≤ m) (hy : ys.length ≤ n) : (xs ++ ys).length ≤ m + n := by rw [List.length_append]; exact Nat.add_le_add hx hy
theorem lenSum {xs ys : List Nat} {m n : Nat} (hx : xs.length ≤ m) (hy : ys.length ≤ n) (h : m + n ≤ 1000000) : xs.length + ys.length ≤ 1000000 := Nat.le_trans (Nat.add_le_add hx hy) h
theorem f23 {i : Int} (h : i < 2) : i < 3 := Int.lt_trans h (by decide)
theorem leadOf_len (x : Int) : (leadOf x).length ≤ 12 :=
  Nat.le_trans (lenApp (lenApp (lenApp (lenApp (lenApp (rep2 (fm (by decide)).2) (rep2 (f23 (fm (by decide)).2))) (rep2 (fm (by decide)).2)) (rep2 (fm (by decide)).2)) (rep2 (fm (by decide)).2)) (Nat.le_refl 1)) (by decide)
theorem lead_ev {x : Int} {v : Value} (G : Gd (KF w) mg mb h) (hv : IntV x n v) : Ev prog w (k + 2) h n (call (.ref 108) [v]) (StrV (S (leadOf x))) := by
  refine Ev.enter (k := k + 1) G (by rfl) (by rfl) (by rfl) (by rfl) ?_
  intro A s h₁ n₁ tk hA le sb N X
  have f1 := @fm x 3 (by decide)
  have f2 := @fm (x.fdiv 3) 2 (by decide)
  have f3 := @fm (x.fdiv 6) 3 (by decide)
  have f4 := @fm (x.fdiv 18) 3 (by decide)
  have f5 := @fm (x.fdiv 54) 3 (by decide)
  have r1 := rep2 (c := 32) f1.2
  have r2 := lenApp r1 (rep2 (c := 9) (f23 f2.2))
  have r3 := lenApp r2 (rep2 (c := 32) f3.2)
  have r4 := lenApp r3 (rep2 (c := 9) f4.2)
  refine st_return (s := { s with heap := h₁, toks := tk }) hA X (F := StrV (S (leadOf x))) ?_ ?_
  · unfold leadOf leadL
    refine Ev.addS (lenSum (lenApp r4 (rep2 f5.2)) (Nat.le_refl 1) (by decide)) (Ev.addS (lenSum r4 (rep2 f5.2) (by decide)) (Ev.addS (lenSum r3 (rep2 f4.2) (by decide)) (Ev.addS (lenSum r2 (rep2 f3.2) (by decide)) (Ev.addS (lenSum r1 (rep2 (f23 f2.2)) (by decide)) ?_ ?_) ?_) ?_) ?_) (Ev.cS [120])
    · exact Ev.mulS f1.1 (le2 f1.2) (Ev.cS [32]) (Ev.modI (by decide) (Ev.name (NameIs.loc N (by rfl)) (mono_IntV x) hv) Ev.cint)
    · exact Ev.mulS f2.1 (le2 (f23 f2.2)) (Ev.cS [9]) (Ev.modI (by decide) (Ev.fdivI (by decide) (by decide) (Ev.name (NameIs.loc N (by rfl)) (mono_IntV x) hv) Ev.cint) Ev.cint)
    · exact Ev.mulS f3.1 (le2 f3.2) (Ev.cS [32]) (Ev.modI (by decide) (Ev.fdivI (by decide) (by decide) (Ev.name (NameIs.loc N (by rfl)) (mono_IntV x) hv) Ev.cint) Ev.cint)
    · exact Ev.mulS f4.1 (le2 f4.2) (Ev.cS [9]) (Ev.modI (by decide) (Ev.fdivI (by decide) (by decide) (Ev.name (NameIs.loc N (by rfl)) (mono_IntV x) hv) Ev.cint) Ev.cint)
    · exact Ev.mulS f5.1 (le2 f5.2) (Ev.cS [32]) (Ev.modI (by decide) (Ev.fdivI (by decide) (by decide) (Ev.name (NameIs.loc N (by rfl)) (mono_IntV x) hv) Ev.cint) Ev.cint)
  · intro v h' tk' n' X' _ f _
    exact ⟨h', tk', n', rfl, X'.done, f⟩
end
end Mine
end
section
open PySem PySem.W PyProof.Rows PySem.Calls
set_option Elab.async false
set_option autoImplicit false
namespace Mine
section
variable {prog : Program} {w : World} {α : Type} {A : Around} {E : Value → Shared → Prop} {s : Shared} {k : Nat} {env : Env} {B : Heap} {n₀ n : GL} {ow : List Addr} {m : Str → Option Value} {rest : List Stmt} {Q : Flow → Shared → Prop}
/-- a for without an else: what stands behind it, broken off or not -/
theorem st_forE {x : Str} {px : Pos} {iter : Expr} {body : List Stmt} {pos : Pos} {F : α → VP} {Fi : VP} {xs : List α} (hA : Aok k A) (X : Fx B n₀ ow s.heap n) (NS : s.heap.Ns env.locals m) (hL : env.locals ∈ ow)
    (hiter : Ev prog w k s.heap n (eval iter env) Fi) (hit : ∀ n' xv, Sub n n' → Fi n' xv → Hands prog w k F xs n' xv) (mF : ∀ a, Mono (F a))
    (J : Nat → Heap → GL → (Str → Option Value) → Prop) (JB : Heap → GL → (Str → Option Value) → Prop) (JR : Value → Heap → GL → Prop)
    (jH : ∀ i H H' N M, J i H N M → (∀ a, a ∈ ow → a ≠ env.locals → H'.get? a = H.get? a) → J i H' N M) (jx : ∀ i H N M v, J i H N M → J i H N (fun y => if y = x then some v else M y))
    (init : ∀ h' n', Le s.heap h' → Sub n n' → J 0 h' n' m)
    (turn : ∀ (i : Nat) a v H N (M : Str → Option Value) tk B₂ n₂, xs[i]? = some a → Fx B₂ n₂ ow H N → Le B H → H.Ns env.locals (fun y => if y = x then some v else M y) → J i H N (fun y => if y = x then some v else M y) → F a N v → Sub n N →
      wpAny (model prog w) A (execs body env) (TurnEnd env B₂ n₂ ow s (J (i + 1)) JB JR) (fun _ _ => False) { s with heap := H, toks := tk })
    (jEnd : ∀ H N M, J xs.length H N M → JB H N M)
    (after : ∀ H N M tk, Fx B n₀ ow H N → H.Ns env.locals M → JB H N M → Sub n N → wpAny (model prog w) A (execs rest env) Q E { s with heap := H, toks := tk })
    (ret : ∀ v H N tk, Fx B n₀ ow H N → JR v H N → Sub n N → Q (.ret v) { s with heap := H, toks := tk })
    (hx : env.kindOf x = some .local := by rfl) (hk : env.scope.kind = .function := by rfl) (hs : ∀ x, foldedSetIterable iter env x = Pure.pure x := by intro _; rfl) :
    wpAny (model prog w) A (execs (.For (.Name x px) iter body [] pos :: rest) env) Q E s :=
  st_for hA X NS hL hiter hit mF J JB JR jH jx init turn (fun H N M tk X' ns hj sb => wpAny_execs_nil (after H N M tk X' ns (jEnd H N M hj) sb)) after ret hx hk hs
theorem st_break {pos : Pos} (h : Q .brk s) : wpAny (model prog w) A (execs (.Break pos :: rest) env) Q E s := wpAny_execs_cons (wpAny_Break h)
end
end Mine
end
section
open PySem PySem.W PyProof.Rows PySem.Calls
set_option Elab.async false
set_option autoImplicit false
set_option maxRecDepth 100000
namespace Mine
section
variable {prog : Program} {w : World} {mg mb : Str → Option Value} {k : Nat} {h : Heap} {n : GL}
def colGo (size : Int) : Int → List Nat → Int
  | c, [] => c
  | c, s :: r => if s = 32 then colGo size (c + 1) r else if s = 9 then colGo size (c - c.fmod size + size) r else c
def columnsF (l : List Nat) : List Int := (rangeL 1 8).map fun size => colGo size 0 l
theorem drop_cons {α : Type} {l : List α} {i : Nat} {a : α} (h : l[i]? = some a) : l.drop i = a :: l.drop (i + 1) := by
  obtain ⟨hi, rfl⟩ := List.getElem?_eq_some_iff.mp h
  exact List.drop_eq_getElem_cons hi
theorem op_sgn {c d : Nat} {u v : Value} (x : sgn c n u) (y : StrV (S [d]) n v) : Ev prog w k h n (compareOp .Eq u v) (BoolV (decide (c = d))) := by
  refine Ev.cons (op_eqS x y) ?_
  rintro n' v' _ rfl
  have : (([c] : List Nat) == [d]) = decide (c = d) := by
    by_cases e : c = d <;> simp [e]
  show Value.bool (([c] : List Nat) == [d]) = _
  rw [this]
theorem mono_sgn : ∀ c, Mono (sgn c) := fun _ => mono_StrV _

def ColJ (l : List Nat) (D : Addr) (v : Value) (i : Nat) (H : Heap) (_N : GL) (M : Str → Option Value) : Prop := ∃ vs e, H.get? D = some (lst vs e) ∧ IntsAre vs (((rangeL 1 8).take i).map fun size => colGo size 0 l) ∧ M "told" = some (.ref D) ∧ M "text" = some v
def ColI (l : List Nat) (D : Addr) (v : Value) (vs : List Value) (e : Nat) (sv : Value) (size : Int) (j : Nat) (H : Heap) (_N : GL) (M : Str → Option Value) : Prop := H.get? D = some (lst vs e) ∧ M "told" = some (.ref D) ∧ M "text" = some v ∧ M "size" = some sv ∧ ∃ c t, M "column" = some (.int c t) ∧ colGo size c (l.drop j) = colGo size 0 l
def ColB (l : List Nat) (D : Addr) (v : Value) (vs : List Value) (e : Nat) (size : Int) (H : Heap) (_N : GL) (M : Str → Option Value) : Prop := H.get? D = some (lst vs e) ∧ M "told" = some (.ref D) ∧ M "text" = some v ∧ ∃ t, M "column" = some (.int (colGo size 0 l) t)
theorem columns_ev {l : List Nat} {v : Value} (G : Gd (KF w) mg mb h) (hv : StrV (S l) n v) (hsz : l.length ≤ 1000) : Ev prog w (k + 2) h n (call (.ref 115) [v]) (RowV (columnsF l)) := by
  refine Ev.enter (k := k + 1) G (by rfl) (by rfl) (by rfl) (by rfl) ?_
  intro A s h₁ n₁ tk hA le sb N X
  have G₁ := G.keeps (le.trans X.keep)
  refine st_assignN (s := { s with heap := h₁, toks := tk }) hA X N (.head _) (F := IntV) (xs := []) EvN.list0 ?_
  intro D vs eD h2 t2 n2 X2 N2 sb2 nD hD pD kp2
  cases pD
  have hDL : D ≠ s.heap.objs.size := fun e => nD (by rw [e]; exact .head _)
  refine st_for (s := { s with heap := h2, toks := t2 }) (F := IntV) (xs := rangeL 1 8) (Fi := RangeV 1 8) hA X2 N2 (.tail _ (.head _)) ?_ (fun n' xv _ hv => hands_range (by decide) (by decide) hv) mono_IntV
    (ColJ l D v) (fun _ _ _ => False) (fun _ _ _ => False) ?_ ?_ ?_ ?_ ?_ ?_ ?_
  · refine callTyp (Ev.nameE (nmRange (G.keeps (le.trans X2.keep)) (by rfl))) (Ev.argsS (mono_IntV 1) Ev.cint (Ev.argsS (mono_IntV 8) Ev.cint Ev.args0)) ?_
    refine arg2 fun a b n' _ ha hb => ?_
    exact op_range2 ha hb
  · rintro i H H' N M ⟨vs, e, a, b, c, d⟩ hk
    exact ⟨vs, e, by rw [hk D (.head _) hDL]; exact a, b, c, d⟩
  · rintro i H N M v ⟨vs, e, a, b, c, d⟩
    exact ⟨vs, e, a, b, at_ne c, at_ne d⟩
  · intro h' n' hle _
    exact ⟨[], eD, hle _ _ hD, .nil, by rfl, by rfl⟩
  · rintro i size sv H N M tk B₂ n₂ ha X' _ ns ⟨vs, e, hD', iv, m1, m2⟩ fsz sb'
    refine st_assign (s := { s with heap := H, toks := tk }) hA X' ns (.tail _ (.head _)) (F := IntV 0) Ev.cint ?_
    intro cv h3 t3 n3 X3 N3 sb3 f3 kp3
    have hD3 := kp3 _ _ hDL hD'
    refine st_forE (s := { s with heap := h3, toks := t3 }) (F := sgn) (xs := l) (Fi := StrV (S l)) hA X3 N3 (.tail _ (.head _)) (Ev.name (NameIs.loc N3 (at_ne m2)) (mono_StrV _) hv) (fun n' xv _ hv => by simpa using hands_str hv) mono_sgn
      (ColI l D v vs e sv size)
      (ColB l D v vs e size) (fun _ _ _ => False) ?_ ?_ ?_ ?_ ?_ ?_ ?_
    · rintro j H H' N M ⟨a, b⟩ hk
      exact ⟨by rw [hk D (.head _) hDL]; exact a, b⟩
    · rintro j H N M v ⟨a, b, c, d, cc, t, e1, e2⟩
      exact ⟨a, at_ne b, at_ne c, at_ne d, cc, t, at_ne e1, e2⟩
    · intro h' n' hle _
      obtain ⟨t, rfl⟩ := f3
      exact ⟨hle _ _ hD3, at_ne m1, at_ne m2, by rfl, 0, t, at_same, rfl⟩
    · rintro j sg gv H N M tk B₃ n₃ hj X4 _ ns4 ⟨a, b, c, d, cc, t, e1, e2⟩ fg sb4
      rw [drop_cons hj] at e2
      obtain ⟨ts, rfl⟩ := fsz
      have hs1 : (1 : Int) ≤ size := (rangeL_get ha).2.1
      refine st_if (s := { s with heap := H, toks := tk }) hA X4 (c := decide (sg = 32)) (Ev.CmpT (Ev.name (NameIs.loc ns4 at_same) (mono_sgn _) fg) (Ev.cS [32]) (mono_sgn _) fun _ _ _ _ x y => op_sgn x y) ?_ ?_
      · intro hc h5 t5 n5 X5 sb5 le5
        have hc' : sg = 32 := by simpa using hc
        refine st_assignI (s := { s with heap := h5, toks := t5 }) hA X5 (ns4.keeps le5) (.tail _ (.head _)) (i := (cc + 1)) (Ev.addI (Ev.name (NameIs.loc (ns4.keeps le5) e1) (mono_IntV cc) ⟨t, rfl⟩) Ev.cint) ?_
        intro tv h6 t6 n6 X6 N6 sb6 kp6
        refine wpAny_execs_nil (wpAny_execs_nil ⟨h6, t6, n6, _, rfl, X6, N6, kp6 _ _ hDL (le5 _ _ a), at_ne b, at_ne c, at_ne d, cc + 1, tv, at_same, ?_⟩)
        rw [← e2, colGo, if_pos hc']
      · intro hc h5 t5 n5 X5 sb5 le5
        have hc' : ¬ sg = 32 := by simpa using hc
        refine st_if (s := { s with heap := h5, toks := t5 }) hA X5 (c := decide (sg = 9)) (Ev.CmpT (Ev.name (NameIs.loc (ns4.keeps le5) at_same) (mono_sgn _) (mono_sgn _ _ _ _ sb5 fg)) (Ev.cS [9]) (mono_sgn _) fun _ _ _ _ x y => op_sgn x y) ?_ ?_
        · intro hd h6 t6 n6 X6 sb6 le6
          have hd' : sg = 9 := by simpa using hd
          have ns6 := ns4.keeps (le5.trans le6)
          refine st_assign (s := { s with heap := h6, toks := t6 }) hA X6 ns6 (.tail _ (.head _)) (F := IntV (cc - cc.fmod size + size))
            (Ev.addI (Ev.subI (Ev.name (NameIs.loc ns6 e1) (mono_IntV cc) ⟨t, rfl⟩) (Ev.modI (by grind) (Ev.name (NameIs.loc ns6 e1) (mono_IntV cc) ⟨t, rfl⟩) (Ev.name (NameIs.loc ns6 d) (mono_IntV size) ⟨ts, rfl⟩))) (Ev.name (NameIs.loc ns6 d) (mono_IntV size) ⟨ts, rfl⟩)) ?_
          rintro v7 h7 t7 n7 X7 N7 sb7 ⟨tv, rfl⟩ kp7
          refine wpAny_execs_nil (wpAny_execs_nil (wpAny_execs_nil ⟨h7, t7, n7, _, rfl, X7, N7, kp7 _ _ hDL (le6 _ _ (le5 _ _ a)), at_ne b, at_ne c, at_ne d, _, tv, at_same, ?_⟩))
          rw [← e2, colGo, if_neg hc', if_pos hd']
        · intro hd h6 t6 n6 X6 sb6 le6
          have hd' : ¬ sg = 9 := by simpa using hd
          refine st_break ⟨h6, t6, n6, _, rfl, X6, ns4.keeps (le5.trans le6), le6 _ _ (le5 _ _ a), b, c, t, ?_⟩
          rw [e1, ← e2, colGo, if_neg hc', if_neg hd']
    · rintro H N M ⟨a, b, c, d, cc, t, e1, e2⟩
      rw [List.drop_length] at e2
      exact ⟨a, b, c, t, by rw [e1]; have : cc = colGo size 0 l := e2; rw [this]⟩
    · rintro H N M tk X4 ns4 ⟨a, b, c, t, e1⟩ sb4
      have lv := iv.length
      have lr : ((rangeL 1 8).take i).length ≤ 7 := by rw [List.length_take]; exact Nat.le_trans (Nat.min_le_right _ _) (by decide)
      refine st_append (s := { s with heap := H, toks := tk }) (F := IntV (colGo size 0 l)) hA X4 (.head _) a (by simp at lv lr; grind) (NameIs.loc ns4 b) (Ev.name (NameIs.loc ns4 e1) (mono_IntV _) ⟨t, rfl⟩) ?_
      rintro h5 t5 n5 e5 v5 X5 sb5 ⟨tv, rfl⟩ hD5 kp5
      have N5 := ns4.at' fun o e => kp5 _ _ (Ne.symm hDL) e
      refine wpAny_execs_nil ⟨h5, t5, n5, _, rfl, X5, N5, _, e5, hD5, ?_, b, c⟩
      have e : (rangeL 1 8).take (i + 1) = (rangeL 1 8).take i ++ [size] := by rw [List.take_add_one, ha]; rfl
      rw [e, List.map_append]
      exact intsAre_of (n := []) (Paired.app (of_intsAre iv) (.cons ⟨tv, rfl⟩ .nil))
    · intro v H N tk _ hf; exact hf.elim
  · rintro H N M tk X' ns ⟨vs, e, hD', iv, m1, m2⟩ sb'
    refine wpAny_execs_nil ?_
    have X'' : Fx s.heap n₁ [s.heap.objs.size] H ((D, lst vs e) :: N) := X'.freeze (.head _) hD' fun b hb => ⟨.tail _ hb, fun e => nD (e ▸ hb)⟩
    refine st_return (s := { s with heap := H, toks := tk }) hA X'' (F := RowV (columnsF l)) (Ev.name (NameIs.loc ns m1) (mono_RowV _) ⟨D, vs, e, rfl, .head _, of_intsAre iv⟩) ?_
    intro v h' tk' n' X3 _ f _
    exact ⟨h', tk', n', rfl, X3.done, f⟩
  · intro H N M tk _ _ hf; exact hf.elim
  · intro v H N tk _ hf; exact hf.elim
end
end Mine
end
section
open PySem PySem.W PyProof.Rows PySem.Calls
set_option Elab.async false
set_option autoImplicit false
set_option maxRecDepth 100000
namespace Mine
/-- what a Whitespace bears -/
structure Ws where
  n : Int
  nt : Int
  cnt : List Int
  b : Int
def wsEnts (P : Params) (t1 t2 t3 t4 t5 : Tok) (vr vn vt vm vs : Value) : List DictEntry :=
  [⟨PyData.keyHash P (Str.ofString "raw"), .str (Str.ofString "raw") t1, vr⟩, ⟨PyData.keyHash P (Str.ofString "n"), .str (Str.ofString "n") t2, vn⟩, ⟨PyData.keyHash P (Str.ofString "nt"), .str (Str.ofString "nt") t3, vt⟩,
   ⟨PyData.keyHash P (Str.ofString "norm"), .str (Str.ofString "norm") t4, vm⟩, ⟨PyData.keyHash P (Str.ofString "is_simple"), .str (Str.ofString "is_simple") t5, vs⟩]
def NormV (cnt : List Int) (b : Int) : VP := fun n v => ∃ a v1 v2 e, v = .ref a ∧ (a, tupo [v1, v2] e) ∈ n ∧ TupV IntV cnt n v1 ∧ IntV b n v2
theorem mono_NormV (cnt : List Int) (b : Int) : Mono (NormV cnt b) := by
  rintro n n' v sb ⟨a, v1, v2, e, rfl, hm, h1, h2⟩
  exact ⟨a, v1, v2, e, rfl, sb _ hm, mono_TupV mono_IntV _ _ _ _ sb h1, h2⟩
def WsV (P : Params) (W : Ws) : VP := fun n v => ∃ x dx e t1 t2 t3 t4 t5 vr vn vt vm vs, v = .ref x ∧ (x, instObj 97 dx) ∈ n ∧ (dx, dictOf (wsEnts P t1 t2 t3 t4 t5 vr vn vt vm vs) e) ∈ n ∧
  IntV W.n n vn ∧ IntV W.nt n vt ∧ NormV W.cnt W.b n vm ∧ BoolV (decide (W.cnt.length ≤ 1)) n vs
theorem mono_WsV (P : Params) (W : Ws) : Mono (WsV P W) := by
  rintro n n' v sb ⟨x, dx, e, t1, t2, t3, t4, t5, vr, vn, vt, vm, vs, rfl, h1, h2, h3, h4, h5, h6⟩
  exact ⟨x, dx, e, t1, t2, t3, t4, t5, vr, vn, vt, vm, vs, rfl, sb _ h1, sb _ h2, h3, h4, mono_NormV _ _ _ _ _ sb h5, h6⟩
section
variable {prog : Program} {w : World} {mg mb : Str → Option Value} {k : Nat} {h : Heap} {n : GL} {env : Env}
theorem getWs {x dx : Addr} {e : Nat} {t1 t2 t3 t4 t5 : Tok} {vr vn vt vm vs v : Value} {name : Str} {expr : Bool} (G : Gd (KF w) mg mb h) (h1 : (x, instObj 97 dx) ∈ n) (h2 : (dx, dictOf (wsEnts w.params t1 t2 t3 t4 t5 vr vn vt vm vs) e) ∈ n)
    (ha : findIn (KF w) (.ref 97) name = some none) (hl : getL name (wsEnts w.params t1 t2 t3 t4 t5 vr vn vt vm vs) = some (some v)) (hv : handedIn v = true) : Ev prog w k h n (getAttr (.ref x) name expr) (EqV v) :=
  Ev.read (v := v) (fun A s Q E hA le ok q => get_value (G.keeps le).K ⟨ok _ h1, rfl, rfl, ok _ h2⟩ (by rfl) (findObj_own (K := KF w) (C := 97) (by rfl) ha (by rfl) (by rw [lookIn_dict]; exact hl)) hv (q _)) fun _ _ => rfl
theorem handed_int {n : GL} {i : Int} {v : Value} (h : IntV i n v) : handedIn v = true := by obtain ⟨t, rfl⟩ := h; rfl
theorem Ev.Attr {value : Expr} {attr : Str} {pos : Pos} {F R : VP} (hv : Ev prog w k h n (eval value env) F) (o : ∀ v n', Sub n n' → F n' v → Ev prog w k h n' (getAttr v attr true) R)
    (he : eval (.Attribute value attr pos) env = (do
      let o ← eval value env
      standAt pos.atName
      let r ← holding [o] (getAttr o attr true)
      letTemporaryGo value o r
      return r) := by rfl) : Ev prog w k h n (eval (.Attribute value attr pos) env) R := by
  intro A s n₁ Q E hA l sb ok q
  refine Attribute_any_ (hv A s n₁ _ E hA l sb ok fun v h1 t1 n1 g1 f1 => ?_) he
  exact o v n1 (sb.trans g1.more) f1 A _ n1 Q E hA (l.trans g1.keep) (Sub.refl _) g1.at_ fun r h2 t2 n2 g2 f2 => q r h2 t2 n2 (g1.trans g2) f2
theorem Ev.wsN {W : Ws} {value : Expr} {pos : Pos} (G : Gd (KF w) mg mb h) (hv : Ev prog w k h n (eval value env) (WsV w.params W)) (he : eval (.Attribute value (Str.ofString "n") pos) env = (do let o ← eval value env; standAt pos.atName; let r ← holding [o] (getAttr o (Str.ofString "n") true); letTemporaryGo value o r; return r) := by rfl) :
    Ev prog w k h n (eval (.Attribute value (Str.ofString "n") pos) env) (IntV W.n) := by
  refine Ev.Attr hv ?_ he
  rintro v n' _ ⟨x, dx, e, t1, t2, t3, t4, t5, vr, vn, vt, vm, vs, rfl, h1, h2, h3, h4, h5, h6⟩
  exact Ev.cons (getWs (v := vn) G h1 h2 (by rfl) (by rfl) (handed_int h3)) fun _ v _ e => by cases e; exact h3
theorem Ev.wsNt {W : Ws} {value : Expr} {pos : Pos} (G : Gd (KF w) mg mb h) (hv : Ev prog w k h n (eval value env) (WsV w.params W)) (he : eval (.Attribute value (Str.ofString "nt") pos) env = (do let o ← eval value env; standAt pos.atName; let r ← holding [o] (getAttr o (Str.ofString "nt") true); letTemporaryGo value o r; return r) := by rfl) :
    Ev prog w k h n (eval (.Attribute value (Str.ofString "nt") pos) env) (IntV W.nt) := by
  refine Ev.Attr hv ?_ he
  rintro v n' _ ⟨x, dx, e, t1, t2, t3, t4, t5, vr, vn, vt, vm, vs, rfl, h1, h2, h3, h4, h5, h6⟩
  exact Ev.cons (getWs (v := vt) G h1 h2 (by rfl) (by rfl) (handed_int h4)) fun _ v _ e => by cases e; exact h4
theorem Ev.wsNorm {W : Ws} {value : Expr} {pos : Pos} (G : Gd (KF w) mg mb h) (hv : Ev prog w k h n (eval value env) (WsV w.params W)) (he : eval (.Attribute value (Str.ofString "norm") pos) env = (do let o ← eval value env; standAt pos.atName; let r ← holding [o] (getAttr o (Str.ofString "norm") true); letTemporaryGo value o r; return r) := by rfl) :
    Ev prog w k h n (eval (.Attribute value (Str.ofString "norm") pos) env) (NormV W.cnt W.b) := by
  refine Ev.Attr hv ?_ he
  rintro v n' _ ⟨x, dx, e, t1, t2, t3, t4, t5, vr, vn, vt, vm, vs, rfl, h1, h2, h3, h4, h5, h6⟩
  exact Ev.cons (getWs (v := vm) G h1 h2 (by rfl) (by rfl) (by obtain ⟨_, _, _, _, rfl, _⟩ := h5; rfl)) fun _ v sb e => by cases e; exact mono_NormV _ _ _ _ _ sb h5
theorem Ev.wsSim {W : Ws} {value : Expr} {pos : Pos} (G : Gd (KF w) mg mb h) (hv : Ev prog w k h n (eval value env) (WsV w.params W)) (he : eval (.Attribute value (Str.ofString "is_simple") pos) env = (do let o ← eval value env; standAt pos.atName; let r ← holding [o] (getAttr o (Str.ofString "is_simple") true); letTemporaryGo value o r; return r) := by rfl) :
    Ev prog w k h n (eval (.Attribute value (Str.ofString "is_simple") pos) env) (BoolV (decide (W.cnt.length ≤ 1))) := by
  refine Ev.Attr hv ?_ he
  rintro v n' _ ⟨x, dx, e, t1, t2, t3, t4, t5, vr, vn, vt, vm, vs, rfl, h1, h2, h3, h4, h5, h6⟩
  exact Ev.cons (getWs (v := vs) G h1 h2 (by rfl) (by rfl) (by cases h6; rfl)) fun _ v _ e => by cases e; exact h6

/-- a method of a Whitespace -/
theorem Ev.wsMeth {W : Ws} {value : Expr} {name : Str} {ap pos : Pos} {args : List Expr} {Fs : List VP} {R : VP} {fa : Addr} {fd : FuncData} {oc : Value} {od : Option Addr} {osl : Array (Option Value)}
    (G : Gd (KF w) mg mb h) (hK : (KF w).lookup fa = some ⟨oc, od, .func fd, osl⟩) (hf : findIn (KF w) (.ref 97) name = some (some (.ref fa))) (ht : typeIn (KF w) (.ref fa) = some (.type "function"))
    (hsh : ∀ t1 t2 t3 t4 t5 vr vn vt vm vs, getL name (wsEnts w.params t1 t2 t3 t4 t5 vr vn vt vm vs) = some none)
    (hv : Ev prog w k h n (eval value env) (WsV w.params W)) (ha : Ev prog w k h n (spliced (backTo pos (starEach args env))) (fun n' vs => Paired (fun (F : VP) v => F n' v) Fs vs))
    (hc : ∀ x vs n', Sub n n' → WsV w.params W n' x → Paired (fun (F : VP) v => F n' v) Fs vs → Ev prog w k h n' (call (.ref fa) (x :: vs)) R)
    (hbase : attributeBase value name env (eval value env) = eval value env := by rfl)
    (hfew : ((backTo pos (starEach args env)).all (fun x => !x.1) && (backToKw pos (keywordEach [] env)).all (fun x => x.1.isSome) && decide (args.length + ([] : List Keyword).length + (if ([] : List Keyword).isEmpty then 0 else 1) < 30)) = true := by rfl)
    (hline : (ap.endLine == pos.line) = true := by rfl)
    (hargs : ∀ A (s : Shared) x Q E, wpAny (model prog w) A (spliced (backTo pos (starEach args env))) (fun vs s₁ => (s₁.heap.get? fa = some ⟨oc, od, .func fd, osl⟩) ∧ wpAny (model prog w) A (call (.ref fa) (x :: vs)) Q E s₁) E s → wpAny (model prog w) A (callWith pos (.ref fa) [x] (backTo pos (starEach args env)) []) Q E s) :
    Ev prog w k h n (eval (.Call (.Attribute value name ap) args [] pos) env) R := by
  intro A s n₁ Q E hA l sb ok q
  rw [arm_eval_Call, hbase]
  refine wpAny_bind (hv A s n₁ _ E hA l sb ok fun v h1 t1 n1 g1 f1 => wpAny_bind (wpAny_standAt ?_))
  have f1' := f1
  obtain ⟨x, dx, e, t1, t2, t3, t4, t5, vr, vn, vt, vm, vs, rfl, p1, p2, p3⟩ := f1
  have hform : methodCallForm (args.length + ([] : List Keyword).length) (backTo pos (starEach args env)) (backToKw pos (keywordEach [] env)) = true := hfew
  have hpos : methodCallPos true value env ap pos = Pure.pure pos := by unfold methodCallPos; simp [hline]
  have G1 := G.keeps (l.trans g1.keep)
  unfold methodCall
  rw [hform]
  refine wpAny_bind (wpAny_holding (method_fn (ox := instObj 97 dx) (od := some (dictOf (wsEnts w.params t1 t2 t3 t4 t5 vr vn vt vm vs) e)) G1.K ⟨g1.at_ _ p1, rfl, rfl, g1.at_ _ p2⟩ (by rfl) (by rfl) hf ht (by show (lookIn name (dictOf _ _)).map _ = _; rw [lookIn_dict, hsh]; rfl) ?_))
  refine wpAny_bind (wpAny_of_eq hpos (hargs A _ (.ref x) Q E ?_))
  refine ha A _ n1 _ E hA (l.trans g1.keep) (sb.trans g1.more) g1.at_ fun ws h2 t2 n2 g2 f2 => ⟨(G.keeps (l.trans (g1.trans g2).keep)).K _ _ hK, ?_⟩
  exact hc _ ws n2 (sb.trans (g1.trans g2).more) (mono_WsV _ _ _ _ _ g2.more f1') f2 A _ n2 Q E hA (l.trans (g1.trans g2).keep) (Sub.refl _) g2.at_ fun v h3 t3 n3 g3 f3 => q v h3 t3 n3 ((g1.trans g2).trans g3) f3
theorem Ev.wsMeth0 {W : Ws} {value : Expr} {name : Str} {ap pos : Pos} {R : VP} {fa : Addr} {fd : FuncData} {oc : Value} {od : Option Addr} {osl : Array (Option Value)}
    (G : Gd (KF w) mg mb h) (hK : (KF w).lookup fa = some ⟨oc, od, .func fd, osl⟩) (hf : findIn (KF w) (.ref 97) name = some (some (.ref fa))) (ht : typeIn (KF w) (.ref fa) = some (.type "function"))
    (hsh : ∀ t1 t2 t3 t4 t5 vr vn vt vm vs, getL name (wsEnts w.params t1 t2 t3 t4 t5 vr vn vt vm vs) = some none)
    (hv : Ev prog w k h n (eval value env) (WsV w.params W))
    (hc : ∀ x n', Sub n n' → WsV w.params W n' x → Ev prog w k h n' (call (.ref fa) [x]) R)
    (hbase : attributeBase value name env (eval value env) = eval value env := by rfl) (hline : (ap.endLine == pos.line) = true := by rfl) :
    Ev prog w k h n (eval (.Call (.Attribute value name ap) [] [] pos) env) R := by
  intro A s n₁ Q E hA l sb ok q
  rw [arm_eval_Call, hbase]
  refine wpAny_bind (hv A s n₁ _ E hA l sb ok fun v h1 t1 n1 g1 f1 => wpAny_bind (wpAny_standAt ?_))
  have f1' := f1
  obtain ⟨x, dx, e, t1, t2, t3, t4, t5, vr, vn, vt, vm, vs, rfl, p1, p2, p3⟩ := f1
  have hform : methodCallForm (([] : List Expr).length + ([] : List Keyword).length) (backTo pos (starEach [] env)) (backToKw pos (keywordEach [] env)) = true := by rfl
  have hpos : methodCallPos true value env ap pos = Pure.pure pos := by unfold methodCallPos; simp [hline]
  have G1 := G.keeps (l.trans g1.keep)
  unfold methodCall
  rw [hform]
  refine wpAny_bind (wpAny_holding (method_fn (ox := instObj 97 dx) (od := some (dictOf (wsEnts w.params t1 t2 t3 t4 t5 vr vn vt vm vs) e)) G1.K ⟨g1.at_ _ p1, rfl, rfl, g1.at_ _ p2⟩ (by rfl) (by rfl) hf ht (by show (lookIn name (dictOf _ _)).map _ = _; rw [lookIn_dict, hsh]; rfl) ?_))
  refine wpAny_bind (wpAny_of_eq hpos (callWith_meth0 (o := ⟨oc, od, .func fd, osl⟩) rfl (G1.K _ _ hK) ?_))
  exact hc _ n1 (sb.trans g1.more) f1' A _ n1 Q E hA (l.trans g1.keep) (Sub.refl _) g1.at_ fun v h3 t3 n3 g3 f3 => q v h3 t3 n3 (g1.trans g3) f3
theorem meth_args1 {fa : Addr} {o : Obj} {fd : FuncData} {pos : Pos} {e : Expr} {rest : List Expr} (hd : o.data = .func fd) (he : starEach (e :: rest) env = (false, eval e env) :: starEach rest env := by rfl) :
    ∀ A (s : Shared) x Q E, wpAny (model prog w) A (spliced (backTo pos (starEach (e :: rest) env))) (fun vs s₁ => (s₁.heap.get? fa = some o) ∧ wpAny (model prog w) A (call (.ref fa) (x :: vs)) Q E s₁) E s → wpAny (model prog w) A (callWith pos (.ref fa) [x] (backTo pos (starEach (e :: rest) env)) []) Q E s := by
  intro A s x Q E hh
  rw [he] at hh ⊢
  exact Calls.callWith_function (o := o) (fd := fd) (Calls.evalArgs_plain (wpAny_mono hh (fun vs s₁ h₁ => ⟨⟨h₁.1, hd⟩, h₁.2⟩) fun _ _ x => x))
end
end Mine
end
section
open PySem PySem.W PyProof.Rows PySem.Calls
set_option Elab.async false
set_option autoImplicit false
set_option maxRecDepth 100000
namespace Mine
section
variable {prog : Program} {w : World} {A : Around} {E : Value → Shared → Prop} {s : Shared} {k : Nat} {env : Env} {B : Heap} {n₀ n : GL} {ow : List Addr} {m : Str → Option Value} {rest : List Stmt} {Q : Flow → Shared → Prop}
/-- «a, b = e», e a pair -/
theorem st_unpack2 {a b : Str} {pa pb tp pos : Pos} {c : Nat} {e : Expr} {F : Value → Value → GL → Prop} (hA : Aok k A) (X : Fx B n₀ ow s.heap n) (N : s.heap.Ns env.locals m) (hL : env.locals ∈ ow)
    (he : Ev prog w k s.heap n (eval e env) (fun n' v => ∃ t v1 v2 e', v = .ref t ∧ (t, tupo [v1, v2] e') ∈ n' ∧ F v1 v2 n'))
    (next : ∀ v1 v2 h' tk n', Fx B n₀ ow h' n' → h'.Ns env.locals (fun y => if y = b then some v2 else (fun y => if y = a then some v1 else m y) y) → Sub n n' → F v1 v2 n' → (∀ b o, b ≠ env.locals → s.heap.get? b = some o → h'.get? b = some o) →
      wpAny (model prog w) A (execs rest env) Q E { s with heap := h', toks := tk })
    (ha : env.kindOf a = some .local := by rfl) (hb : env.kindOf b = some .local := by rfl) (hk : env.scope.kind = .function := by rfl)
    (hs : swapsWithSole [.Tuple [.Name a pa, .Name b pb] c tp] e pos.line env = Pure.pure false := by rfl) (hw : swappedStores [.Tuple [.Name a pa, .Name b pb] c tp] e env = Pure.pure none := by rfl)
    (hae : assignEach [.Name a pa, .Name b pb] env = [(false, assign (.Name a pa) env), (false, assign (.Name b pb) env)] := by rfl) :
    wpAny (model prog w) A (execs (.Assign [.Tuple [.Name a pa, .Name b pb] c tp] e pos :: rest) env) Q E s := by
  refine wpAny_execs_cons (Assign_Tuple (he A s n _ E hA (Le.refl _) (Sub.refl _) X.ok fun v h1 t1 n1 g1 f1 => ?_) hs hw)
  obtain ⟨t, v1, v2, e', rfl, hm, hF⟩ := f1
  have ht : IsTup h1 t [v1, v2].toArray := ⟨_, g1.at_ _ hm, rfl, _, rfl⟩
  refine assign_Tuple_tuple hA.handled ht (by rw [hae]; rfl) (by rw [hae]; rfl) fun h2 ex => ?_
  rw [hae]
  have le2 : Le h1 h2 := fun b o q => ex b o (Nat.ne_of_lt (Heap.lt_size q)) q
  have X2 := (X.grow g1).grow (Grow.heap g1.at_ le2)
  have N2 := (N.keeps g1.keep).keeps le2
  show wpAny _ _ (do holding [v2] (assign (.Name a pa) env v1); (do holding [] (assign (.Name b pb) env v2); Pure.pure ())) _ _ _
  refine wpAny_bind (wpAny_holding (wpAny_assign_Name (wpAny_storeName_local ha N2 (fun h3 hn3 sm3 => ?_) (by rw [hk]; rfl))))
  refine wpAny_bind (wpAny_holding (wpAny_assign_Name (wpAny_storeName_local hb hn3 (fun h4 hn4 sm4 => ?_) (by rw [hk]; rfl))))
  have X3 := X2.upd hL sm3 (let ⟨o, _, _, ho, _⟩ := hn3; ⟨o, ho⟩)
  have X4 := X3.upd hL sm4 (let ⟨o, _, _, ho, _⟩ := hn4; ⟨o, ho⟩)
  exact wpAny_pure (next v1 v2 h4 _ n1 X4 hn4 g1.more hF fun b o hb q => sm4.extBut b o hb (sm3.extBut b o hb (le2 b o (g1.keep b o q))))
end
section
variable {prog : Program} {w : World} {mg mb : Str → Option Value} {k : Nat} {h : Heap} {n : GL} {env : Env}
theorem op_lenT {α : Type} {F : α → VP} {xs : List α} {v : Value} {n : GL} (x : TupV F xs n v) (hsz : xs.length ≤ 1000000) : Ev prog w k h n (call (.builtin "len") [v]) (IntV xs.length) := by
  obtain ⟨a, vs, e, rfl, hm, hp⟩ := x
  have hl := hp.length
  refine Ev.readT (f := fun u => Value.int xs.length u) (fun _ _ _ _ _ _ ok q => PyProof.Rows.len_tuple (items := vs.toArray) ⟨_, ok _ hm, rfl, _, rfl⟩ (by simp; grind) ?_) fun u _ _ => ⟨u, rfl⟩
  simp only [List.size_toArray, ← hl]
  exact q _ _
theorem op_max2 {a b : Int} {u v : Value} {n : GL} (x : IntV a n u) (y : IntV b n v) : Ev prog w k h n (call (.builtin "max") [u, v]) (IntV (max a b)) := by
  obtain ⟨t, rfl⟩ := x
  obtain ⟨t', rfl⟩ := y
  intro A s n₁ Q E hA l sb ok q
  refine max_two_ints hA.handled fun h' tk le => ?_
  by_cases c : b > a
  · rw [if_pos c]; exact q _ h' tk n₁ (Grow.heap ok le) ⟨t', by rw [show max a b = b by grind]⟩
  · rw [if_neg c]; exact q _ h' tk n₁ (Grow.heap ok le) ⟨t, by rw [show max a b = a by grind]⟩
theorem nmMax {K : Frag} (G : Gd K mg mb h) (e : nsIn K mainGlobals (Str.ofString "max") = some none) (hg : env.globals = mainGlobals := by rfl) (hb : env.builtins = builtinsNs := by rfl) (hk : env.scope.kind = .function := by rfl) (hx : env.kindOf (Str.ofString "max") = some .globalImplicit := by rfl) :
    NameIs prog w env h (Str.ofString "max") (.builtin "max") := NameIs.bui G e (by decide +kernel) (by decide) hg hb hk hx

def longestF (W : Ws) : Int := max ((W.cnt.length : Int) - 1) W.b
theorem longest_ev {W : Ws} {u : Value} (G : Gd (KF w) mg mb h) (hu : WsV w.params W n u) (hsz : W.cnt.length ≤ 1000) : Ev prog w (k + 2) h n (call (.ref 59) [u]) (IntV (longestF W)) := by
  refine Ev.enter (k := k + 1) G (by rfl) (by rfl) (by rfl) (by rfl) ?_
  intro A s h₁ n₁ tk hA le sb N X
  have G₁ := G.keeps (le.trans X.keep)
  refine st_unpack2 (s := { s with heap := h₁, toks := tk }) (F := fun v1 v2 n' => TupV IntV W.cnt n' v1 ∧ IntV W.b n' v2) hA X N (.head _) ?_ ?_
  · refine Ev.cons (Ev.wsNorm G₁ (Ev.name (NameIs.loc N (by rfl)) (mono_WsV _ _) (mono_WsV _ _ _ _ _ sb hu))) ?_
    rintro n' v _ ⟨a, v1, v2, e, rfl, h1, h2, h3⟩
    exact ⟨a, v1, v2, e, rfl, h1, h2, h3⟩
  · rintro v1 v2 h2 t2 n2 X2 N2 sb2 ⟨f1, f2⟩ _
    have G₂ := G.keeps (le.trans X2.keep)
    refine st_return (s := { s with heap := h2, toks := t2 }) hA X2 (F := IntV (longestF W)) ?_ ?_
    · refine callBui (Ev.nameE (nmMax G₂ (by rfl))) (Ev.argsS (mono_IntV ((W.cnt.length : Int) - 1)) (Ev.subI ?_ Ev.cint) (Ev.argsS (mono_IntV W.b) (Ev.name (NameIs.loc N2 (by rfl)) (mono_IntV _) f2) Ev.args0)) ?_
      · refine callBui (Ev.nameE (nmLen G₂ (by rfl))) (Ev.argsS (mono_TupV mono_IntV W.cnt) (Ev.name (NameIs.loc N2 (by rfl)) (mono_TupV mono_IntV _) f1) Ev.args0) ?_
        refine arg1 fun v n' _ hv => ?_
        exact op_lenT hv (by exact Nat.le_trans (by assumption) (by decide))
      · refine arg2 fun u v n' _ hu hv => ?_
        exact op_max2 hu hv
    · intro v h' tk' n' X' _ f _
      exact ⟨h', tk', n', rfl, X'.done, f⟩
end
end Mine
end
section
open PySem PySem.W PyProof.Rows PySem.Calls
set_option Elab.async false
set_option autoImplicit false
set_option maxRecDepth 100000
namespace Mine
section
variable {prog : Program} {w : World} {mg mb : Str → Option Value} {k : Nat} {h : Heap} {n : GL} {env : Env}
theorem seqIndex_nn {i : Int} {n : Nat} (h0 : 0 ≤ i) (h1 : i.toNat < n) : seqIndex? i n = some i.toNat := by
  unfold seqIndex?
  have : ¬ i < 0 := by omega
  simp [this, h0]
  omega
theorem Ev.itemT {α : Type} {F : α → VP} {xs : List α} {x : α} {i : Int} {l r : Expr} {pos : Pos} (m : ∀ x, Mono (F x)) (h0 : 0 ≤ i) (h1 : i < 2 ^ 60) (hx : xs[i.toNat]? = some x) (hl : Ev prog w k h n (eval l env) (TupV F xs)) (hr : Ev prog w k h n (eval r env) (IntV i))
    (hs : ∀ a u, subscripted r false (.ref a) (.int i u) = operate [.ref a, .int i u] (getItem (.ref a) (.int i u)) := by intro _ _; with_unfolding_all rfl) :
    Ev prog w k h n (eval (.Subscript l r pos) env) (F x) := by
  intro A s n₁ Q E hA lh sb ok q
  refine Subscript_ (hl A s n₁ _ E hA lh sb ok fun a h1' t1 n1 g1 f1 => ?_)
  refine hr A _ n1 _ E hA (lh.trans g1.keep) (sb.trans g1.more) g1.at_ fun b h2 t2 n2 g2 f2 => ?_
  obtain ⟨u, rfl⟩ := f2
  obtain ⟨l', vs, e, rfl, hm, hp⟩ := mono_TupV m xs _ _ _ g2.more f1
  obtain ⟨y, hy, fy⟩ := Paired.get hp hx
  have hlen := hp.length
  have hlt : i.toNat < vs.length := (List.getElem?_eq_some_iff.mp hy).1
  exact item_tupleT (l := vs) ⟨_, g2.at_ _ hm, rfl, _, rfl⟩ (by omega) (by exact Int.le_trans (by assumption) (by decide)) (seqIndex_nn h0 hlt) hy (q y h2 t2 n2 (g1.trans g2) fy) (hs _ _)
theorem Ev.testB {e : Expr} {c : Bool} (x : Ev prog w k h n (eval e env) (BoolV c)) (he : isTrue e env (eval e env) = (do let v ← eval e env; standAt e.pos; holding [v] (truthy v)) := by rfl) : Ev prog w k h n (isTrue e env (eval e env)) (fun _ b => b = c) := by
  intro A s n₁ Q E hA l sb ok q
  refine wpAny_isTrue_value (x A s n₁ _ E hA l sb ok fun v h1 t1 n1 g1 f1 => ?_) he
  cases f1
  exact wpAny_truthy_bool (q c h1 t1 n1 g1 rfl)
theorem Ev.and2 {a b : Expr} {pos : Pos} {c d : Bool} {whole : Sem Value} (x : Ev prog w k h n (isTrue a env (eval a env)) (fun _ r => r = c)) (y : Ev prog w k h n (isTrue b env (eval b env)) (fun _ r => r = d)) :
    Ev prog w k h n (isTrue (.BoolOp .And [a, b] pos) env whole) (fun _ r => r = (c && d)) := by
  intro A s n₁ Q E hA l sb ok q
  refine wpAny_isTrue_BoolOp (wpAny_allTrue_And_cons (x A s n₁ _ E hA l sb ok fun r h1 t1 n1 g1 f1 => ?_))
  subst f1
  cases hr : r with
  | false => simp only [Bool.false_eq_true, if_false]; exact q false h1 t1 n1 g1 (by simp [hr])
  | true =>
    simp only [if_true]
    refine wpAny_allTrue_And_cons (y A _ n1 _ E hA (l.trans g1.keep) (sb.trans g1.more) g1.at_ fun r' h2 t2 n2 g2 f2 => ?_)
    subst f2
    cases hr' : r' with
    | false => simp only [Bool.false_eq_true, if_false]; exact q false h2 t2 n2 (g1.trans g2) (by simp [hr'])
    | true => simp only [if_true]; exact wpAny_allTrue_And_nil (q true h2 t2 n2 (g1.trans g2) (by simp [hr, hr']))

def ilGo (ts : Int) (cnt : List Int) (is : List Int) : Int := is.foldl (fun il i => il + i.fdiv ts * cnt.getD i.toNat 0) 0
def indentF (W : Ws) (ts : Int) : Int := W.b + ts * (ilGo ts W.cnt (rangeL ts W.cnt.length) + W.nt)
theorem ilGo_snoc (ts : Int) (cnt is : List Int) (i : Int) : ilGo ts cnt (is ++ [i]) = ilGo ts cnt is + i.fdiv ts * cnt.getD i.toNat 0 := by
  unfold ilGo; rw [List.foldl_append]; rfl
theorem fdiv_small {i ts : Int} (h0 : 0 ≤ i) (h1 : i < 1000) (h2 : 1 ≤ ts) : (i.fdiv ts).natAbs < 2 ^ 60 := by
  have e := Int.mul_fdiv_add_fmod i ts
  have m0 := Int.fmod_nonneg_of_pos i (show 0 < ts by assumption)
  have q0 : 0 ≤ i.fdiv ts := Int.fdiv_nonneg h0 (by exact Int.le_of_lt (by assumption))
  have : i.fdiv ts ≤ ts * i.fdiv ts := by
    have := Int.mul_le_mul_of_nonneg_right (a := 1) (b := ts) (c := i.fdiv ts) (by assumption) q0
    omega
  omega
def IndJ (W : Ws) (ts : Int) (v1 v2 v u : Value) (i : Nat) (_H : Heap) (_N : GL) (M : Str → Option Value) : Prop := (∃ t, M "il" = some (.int (ilGo ts W.cnt ((rangeL ts W.cnt.length).take i)) t)) ∧ M "count" = some v1 ∧ M "trailing" = some v2 ∧ M "tabsize" = some v ∧ M "self" = some u
def IndB (W : Ws) (ts : Int) (v2 v u : Value) (_H : Heap) (_N : GL) (M : Str → Option Value) : Prop := (∃ t, M "il" = some (.int (ilGo ts W.cnt (rangeL ts W.cnt.length)) t)) ∧ M "trailing" = some v2 ∧ M "tabsize" = some v ∧ M "self" = some u
theorem indent_ev {W : Ws} {ts : Int} {u v : Value} (G : Gd (KF w) mg mb h) (hu : WsV w.params W n u) (hv : IntV ts n v) (hts : 2 ≤ ts ∧ ts < 1000) (hsz : W.cnt.length ≤ 1000) : Ev prog w (k + 2) h n (call (.ref 66) [u, v]) (IntV (indentF W ts)) := by
  refine Ev.enter (k := k + 1) G (by rfl) (by rfl) (by rfl) (by rfl) ?_
  intro A s h₁ n₁ tk hA le sb N X
  have G₁ := G.keeps (le.trans X.keep)
  have hu₁ := mono_WsV _ _ _ _ _ sb hu
  refine st_unpack2 (s := { s with heap := h₁, toks := tk }) (F := fun v1 v2 n' => TupV IntV W.cnt n' v1 ∧ IntV W.b n' v2) hA X N (.head _) ?_ ?_
  · refine Ev.cons (Ev.wsNorm G₁ (Ev.name (NameIs.loc N (by rfl)) (mono_WsV _ _) hu₁)) ?_
    rintro n' v _ ⟨a, v1, v2, e, rfl, h1, h2, h3⟩
    exact ⟨a, v1, v2, e, rfl, h1, h2, h3⟩
  · rintro v1 v2 h2 t2 n2 X2 N2 sb2 ⟨f1, f2⟩ _
    refine st_assignI (s := { s with heap := h2, toks := t2 }) hA X2 N2 (.head _) (i := 0) Ev.cint ?_
    intro tv3 h3 t3 n3 X3 N3 sb3 _
    have G₃ := G.keeps (le.trans X3.keep)
    have f1₃ := mono_TupV mono_IntV _ _ _ _ sb3 f1
    refine st_forE (s := { s with heap := h3, toks := t3 }) (F := IntV) (xs := rangeL ts W.cnt.length) (Fi := RangeV ts W.cnt.length) hA X3 N3 (.head _) ?_ (fun n' xv _ hv => hands_range (by omega) (by exact Nat.lt_of_le_of_lt (by assumption) (by decide)) hv) mono_IntV
      (IndJ W ts v1 v2 v u)
      (IndB W ts v2 v u) (fun _ _ _ => False) ?_ ?_ ?_ ?_ ?_ ?_ ?_
    · refine callTyp (Ev.nameE (nmRange G₃ (by rfl))) (Ev.argsS (mono_IntV ts) (Ev.name (NameIs.loc N3 (by rfl)) (mono_IntV ts) hv) (Ev.argsS (mono_IntV W.cnt.length) (callBui (Ev.nameE (nmLen G₃ (by rfl))) (Ev.argsS (mono_TupV mono_IntV W.cnt) (Ev.name (NameIs.loc N3 (by rfl)) (mono_TupV mono_IntV _) f1₃) Ev.args0) ?_) Ev.args0)) ?_
      · refine arg1 fun v n' _ hv => ?_
        exact op_lenT hv (by exact Nat.le_trans (by assumption) (by decide))
      · refine arg2 fun a b n' _ ha hb => ?_
        exact op_range2 ha hb
    · intro i H H' N M hj _; exact hj
    · rintro i H N M v ⟨⟨t, a⟩, b, c, d, e⟩
      exact ⟨⟨t, at_ne a⟩, at_ne b, at_ne c, at_ne d, at_ne e⟩
    · intro h' n' _ _
      exact ⟨⟨tv3, by rfl⟩, by rfl, by rfl, by rfl, by rfl⟩
    · rintro i a av H N M tk B₂ n₂ ha X' _ ns ⟨⟨t, m1⟩, m2, m3, m4, m5⟩ fa sb'
      obtain ⟨_, a0, a1⟩ := rangeL_get ha
      refine st_assignI (s := { s with heap := H, toks := tk }) hA X' ns (.head _) (i := (ilGo ts W.cnt ((rangeL ts W.cnt.length).take (i + 1)))) ?_ ?_
      · have e : (rangeL ts W.cnt.length).take (i + 1) = (rangeL ts W.cnt.length).take i ++ [a] := by rw [List.take_add_one, ha]; rfl
        rw [e, ilGo_snoc]
        refine Ev.addI (Ev.name (NameIs.loc ns m1) (mono_IntV _) ⟨t, rfl⟩) (Ev.mulI (fdiv_small (by omega) (by omega) (by omega)) (Ev.fdivI (by omega) (by omega) (Ev.name (NameIs.loc ns at_same) (mono_IntV a) fa) (Ev.name (NameIs.loc ns m4) (mono_IntV ts) hv)) ?_)
        exact Ev.itemT (xs := W.cnt) mono_IntV (by omega) (by omega) (getD_some (d := 0) (by omega)) (Ev.name (NameIs.loc ns m2) (mono_TupV mono_IntV _) (mono_TupV mono_IntV _ _ _ _ sb' f1₃)) (Ev.name (NameIs.loc ns at_same) (mono_IntV a) fa)
      · intro tv h5 t5 n5 X5 N5 sb5 _
        exact wpAny_execs_nil ⟨h5, t5, n5, _, rfl, X5, N5, ⟨tv, at_same⟩, at_ne m2, at_ne m3, at_ne m4, at_ne m5⟩
    · rintro H N M ⟨⟨t, m1⟩, m2, m3, m4, m5⟩
      rw [List.take_length] at m1
      exact ⟨⟨t, m1⟩, m3, m4, m5⟩
    · rintro H N M tk X' ns ⟨⟨t, m1⟩, m3, m4, m5⟩ sb'
      have GH := G.keeps (le.trans X'.keep)
      refine st_return (s := { s with heap := H, toks := tk }) hA X' (F := IntV (indentF W ts)) ?_ ?_
      · refine Ev.addI (Ev.name (NameIs.loc ns m3) (mono_IntV W.b) f2) (Ev.mulI (by omega) (Ev.name (NameIs.loc ns m4) (mono_IntV ts) hv) (Ev.addI (Ev.name (NameIs.loc ns m1) (mono_IntV _) ⟨t, rfl⟩) (Ev.wsNt GH (Ev.name (NameIs.loc ns m5) (mono_WsV _ _) (mono_WsV _ _ _ _ _ ((sb2.trans sb3).trans sb') hu₁)))))
      · intro v h' tk' n' X'' _ f _
        exact ⟨h', tk', n', rfl, X''.done, f⟩
    · intro v H N tk _ hf; exact hf.elim
end
end Mine
end
section
open PySem PySem.W PyProof.Rows PySem.Calls
set_option Elab.async false
set_option autoImplicit false
set_option maxRecDepth 100000
namespace Mine
section
variable {prog : Program} {w : World} {mg mb : Str → Option Value} {k : Nat} {h : Heap} {n : GL} {env : Env}
def lessF (a b : Ws) : Bool :=
  if b.n ≤ a.n then false else if decide (a.cnt.length ≤ 1) && decide (b.cnt.length ≤ 1) then decide (a.nt ≤ b.nt)
  else (rangeL 2 (max (longestF a) (longestF b) + 1 + 1)).all fun ts => !decide (indentF b ts ≤ indentF a ts)
structure Ws.Ok (W : Ws) : Prop where
  cnt : W.cnt.length ≤ 100
  b0 : 0 ≤ W.b
  b1 : W.b ≤ 100
theorem Ev.cbool {b : Bool} {c : Nat} {pos : Pos} : Ev prog w k h n (eval (.Constant (.bool b) c pos) env) (BoolV b) := Ev.read (P := BoolV b) (v := Value.bool b) (fun _ s _ _ _ _ _ q => wpAny_Constant_bool (q s.toks)) fun n' _ => show BoolV b n' (.bool b) from rfl
def LessJ (W V : Ws) (u v : Value) (i : Nat) (_H : Heap) (_N : GL) (M : Str → Option Value) : Prop := M "self" = some u ∧ M "other" = some v ∧ ((rangeL 2 (max (longestF W) (longestF V) + 1 + 1)).take i).all (fun ts => !decide (indentF V ts ≤ indentF W ts)) = true
def LessB (W V : Ws) (_H : Heap) (_N : GL) (_M : Str → Option Value) : Prop := lessF W V = true
def LessR (W V : Ws) (r : Value) (_H : Heap) (_N : GL) : Prop := r = .bool false ∧ lessF W V = false
theorem less_ev {W V : Ws} {u v : Value} (G : Gd (KF w) mg mb h) (hu : WsV w.params W n u) (hv : WsV w.params V n v) (oW : W.Ok) (oV : V.Ok) : Ev prog w (k + 4) h n (call (.ref 87) [u, v]) (BoolV (lessF W V)) := by
  refine Ev.enter (k := k + 3) G (by rfl) (by rfl) (by rfl) (by rfl) ?_
  intro A s h₁ n₁ tk hA le sb N X
  have G₁ := G.keeps (le.trans X.keep)
  have hu₁ := mono_WsV _ _ _ _ _ sb hu
  have hv₁ := mono_WsV _ _ _ _ _ sb hv
  refine st_if (s := { s with heap := h₁, toks := tk }) hA X (c := decide (V.n ≤ W.n)) (Ev.CmpT (Ev.wsN G₁ (Ev.name (NameIs.loc N (by rfl)) (mono_WsV _ _) hu₁)) (Ev.wsN G₁ (Ev.name (NameIs.loc N (by rfl)) (mono_WsV _ _) hv₁)) (mono_IntV _) fun _ _ _ _ x y => op_geI x y) ?_ ?_
  · intro hc h2 t2 n2 X2 sb2 le2
    refine st_return (s := { s with heap := h2, toks := t2 }) hA X2 (F := BoolV false) Ev.cbool ?_
    intro v h' tk' n' X' _ f _
    exact ⟨h', tk', n', rfl, X'.done, by rw [show lessF W V = false by unfold lessF; rw [if_pos (by simpa using hc)]]; exact f⟩
  intro hc h2 t2 n2 X2 sb2 le2
  have hc' : ¬ V.n ≤ W.n := by simpa using hc
  refine wpAny_execs_nil ?_
  have N2 := N.keeps le2
  have G₂ := G.keeps (le.trans X2.keep)
  have hu₂ := mono_WsV _ _ _ _ _ sb2 hu₁
  have hv₂ := mono_WsV _ _ _ _ _ sb2 hv₁
  refine st_if (s := { s with heap := h2, toks := t2 }) hA X2 (c := decide (W.cnt.length ≤ 1) && decide (V.cnt.length ≤ 1))
    (Ev.and2 (Ev.testB (Ev.wsSim G₂ (Ev.name (NameIs.loc N2 (by rfl)) (mono_WsV _ _) hu₂))) (Ev.testB (Ev.wsSim G₂ (Ev.name (NameIs.loc N2 (by rfl)) (mono_WsV _ _) hv₂)))) ?_ ?_
  · intro hd h3 t3 n3 X3 sb3 le3
    have N3 := N2.keeps le3
    have G₃ := G.keeps (le.trans X3.keep)
    refine st_return (s := { s with heap := h3, toks := t3 }) hA X3 (F := BoolV (decide (W.nt ≤ V.nt))) (Ev.Cmp (Ev.wsNt G₃ (Ev.name (NameIs.loc N3 (by rfl)) (mono_WsV _ _) (mono_WsV _ _ _ _ _ sb3 hu₂))) (Ev.wsNt G₃ (Ev.name (NameIs.loc N3 (by rfl)) (mono_WsV _ _) (mono_WsV _ _ _ _ _ sb3 hv₂))) (mono_IntV _) fun _ _ _ _ x y => op_leI x y) ?_
    intro v h' tk' n' X' _ f _
    exact ⟨h', tk', n', rfl, X'.done, by rw [show lessF W V = decide (W.nt ≤ V.nt) by unfold lessF; rw [if_neg hc', if_pos hd]]; exact f⟩
  intro hd h3 t3 n3 X3 sb3 le3
  refine wpAny_execs_nil ?_
  have N3 := N2.keeps le3
  have G₃ := G.keeps (le.trans X3.keep)
  have hu₃ := mono_WsV _ _ _ _ _ sb3 hu₂
  have hv₃ := mono_WsV _ _ _ _ _ sb3 hv₂
  have eL : lessF W V = (rangeL 2 (max (longestF W) (longestF V) + 1 + 1)).all fun ts => !decide (indentF V ts ≤ indentF W ts) := by unfold lessF; rw [if_neg hc', if_neg (by rw [hd]; decide)]
  have bL : ∀ U : Ws, U.Ok → 0 ≤ longestF U ∧ longestF U ≤ 100 := fun U o => by have := o.cnt; have := o.b0; have := o.b1; unfold longestF; omega
  have b1 := bL W oW
  have b2 := bL V oV
  refine st_assignI (s := { s with heap := h3, toks := t3 }) hA X3 N3 (.head _) (i := (max (longestF W) (longestF V) + 1)) ?_ ?_
  · refine Ev.addI (callBui (Ev.nameE (nmMax G₃ (by rfl))) (Ev.argsS (mono_IntV (longestF W)) ?_ (Ev.argsS (mono_IntV (longestF V)) ?_ Ev.args0)) ?_) Ev.cint
    · exact Ev.wsMeth0 (fa := 59) G₃ (by rfl) (by rfl) (by rfl) (by intros; rfl) (Ev.name (NameIs.loc N3 (by rfl)) (mono_WsV _ _) hu₃) fun x n' _ hx => longest_ev (k := k + 1) G₃ hx (by have := oW.cnt; exact Nat.le_trans (by assumption) (by decide))
    · exact Ev.wsMeth0 (fa := 59) G₃ (by rfl) (by rfl) (by rfl) (by intros; rfl) (Ev.name (NameIs.loc N3 (by rfl)) (mono_WsV _ _) hv₃) fun x n' _ hx => longest_ev (k := k + 1) G₃ hx (by have := oV.cnt; exact Nat.le_trans (by assumption) (by decide))
    · refine arg2 fun u v n' _ hu hv => ?_
      exact op_max2 hu hv
  · intro tn h4 t4 n4 X4 N4 sb4 _
    have G₄ := G.keeps (le.trans X4.keep)
    have hu₄ := mono_WsV _ _ _ _ _ sb4 hu₃
    have hv₄ := mono_WsV _ _ _ _ _ sb4 hv₃
    refine st_forE (s := { s with heap := h4, toks := t4 }) (F := IntV) (xs := rangeL 2 (max (longestF W) (longestF V) + 1 + 1)) (Fi := RangeV 2 (max (longestF W) (longestF V) + 1 + 1)) hA X4 N4 (.head _) ?_ (fun n' xv _ hv => hands_range (by decide) (by omega) hv) mono_IntV
      (LessJ W V u v)
      (LessB W V) (LessR W V) ?_ ?_ ?_ ?_ ?_ ?_ ?_
    · refine callTyp (Ev.nameE (nmRange G₄ (by rfl))) (Ev.argsS (mono_IntV 2) Ev.cint (Ev.argsS (mono_IntV _) (Ev.addI (Ev.name (NameIs.loc N4 (by rfl)) (mono_IntV _) ⟨tn, rfl⟩) Ev.cint) Ev.args0)) ?_
      refine arg2 fun a b n' _ ha hb => ?_
      exact op_range2 ha hb
    · intro i H H' N M hj _; exact hj
    · rintro i H N M v ⟨a, b, c⟩
      exact ⟨at_ne a, at_ne b, c⟩
    · intro h' n' _ _
      exact ⟨by rfl, by rfl, by simp⟩
    · rintro i ts tv H N M tk B₂ n₂ ha X' leB ns ⟨m1, m2, m3⟩ fa sb'
      obtain ⟨_, a0, a1⟩ := rangeL_get ha
      have GH := G.keeps (le.trans leB)
      have huH := mono_WsV _ _ _ _ _ sb' hu₄
      have hvH := mono_WsV _ _ _ _ _ sb' hv₄
      refine st_if (s := { s with heap := H, toks := tk }) hA X' (c := decide (indentF V ts ≤ indentF W ts)) (Ev.CmpT (F1 := IntV (indentF W ts)) (F2 := IntV (indentF V ts)) ?_ ?_ (mono_IntV _) fun _ _ _ _ x y => op_geI x y) ?_ ?_
      · refine Ev.wsMeth (fa := 66) (Fs := [IntV ts]) GH (by rfl) (by rfl) (by rfl) (by intros; rfl) (Ev.name (NameIs.loc ns m1) (mono_WsV _ _) huH) (Ev.argsS (mono_IntV ts) (Ev.name (NameIs.loc ns at_same) (mono_IntV ts) fa) Ev.args0) ?_ (hargs := meth_args1 rfl)
        intro x vs n' _ hx hp
        obtain ⟨y, rfl, hy⟩ := paired1 hp
        exact indent_ev (k := k + 1) GH hx hy (by omega) (by have := oW.cnt; exact Nat.le_trans (by assumption) (by decide))
      · refine Ev.wsMeth (fa := 66) (Fs := [IntV ts]) GH (by rfl) (by rfl) (by rfl) (by intros; rfl) (Ev.name (NameIs.loc ns m2) (mono_WsV _ _) hvH) (Ev.argsS (mono_IntV ts) (Ev.name (NameIs.loc ns at_same) (mono_IntV ts) fa) Ev.args0) ?_ (hargs := meth_args1 rfl)
        intro x vs n' _ hx hp
        obtain ⟨y, rfl, hy⟩ := paired1 hp
        exact indent_ev (k := k + 1) GH hx hy (by omega) (by have := oV.cnt; exact Nat.le_trans (by assumption) (by decide))
      · intro hcc h5 t5 n5 X5 sb5 le5
        refine st_return (s := { s with heap := h5, toks := t5 }) hA X5 (F := BoolV false) Ev.cbool ?_
        rintro rv h6 t6 n6 X6 _ rfl le6
        refine ⟨h6, t6, n6, _, rfl, X6, (ns.keeps le5).keeps le6, rfl, ?_⟩
        rw [eL, List.all_eq_false]
        exact ⟨ts, List.mem_of_getElem? ha, by rw [hcc]; decide⟩
      · intro hcc h5 t5 n5 X5 sb5 le5
        refine wpAny_execs_nil (wpAny_execs_nil ⟨h5, t5, n5, _, rfl, X5, ns.keeps le5, m1, m2, ?_⟩)
        rw [List.take_add_one, ha, List.all_append, m3]
        simp [hcc]
    · rintro H N M ⟨m1, m2, m3⟩
      rw [List.take_length] at m3
      show lessF W V = true
      rw [eL]; exact m3
    · rintro H N M tk X' ns hl sb'
      have hl : lessF W V = true := hl
      refine st_return (s := { s with heap := H, toks := tk }) hA X' (F := BoolV true) Ev.cbool ?_
      intro v h' tk' n' X'' _ f _
      exact ⟨h', tk', n', rfl, X''.done, by rw [hl]; exact f⟩
    · rintro r H N tk X' ⟨rfl, hl⟩ _
      exact ⟨H, tk, N, rfl, X'.done, by rw [hl]; rfl⟩
end
end Mine
end
section
open PySem PySem.W PyProof.Rows PySem.Calls
set_option Elab.async false
set_option autoImplicit false
set_option maxRecDepth 100000
namespace Mine
section
variable {prog : Program} {w : World} {A : Around} {E : Value → Shared → Prop} {s : Shared}
/-- an object's attribute set, its dict told -/
theorem setA {K : Frag} {C x dx : Addr} {name : Str} {v : Value} {es : List DictEntry} {e : Nat} {Q : Unit → Shared → Prop} (X : K.In s.heap) (hx : s.heap.get? x = some (instObj C dx)) (hd : s.heap.get? dx = some (dictOf es e))
    (hs : findIn K (.ref C) "__setattr__" = some (some (.builtin "object.__setattr__"))) (hp : plainOver K C = true) (ht : takerIn K C name = some none) (hh : (clsIn K C).any (·.hasDict) = true)
    (hr : es.any (·.refKey) = false) (hz : es.length ≤ 100)
    (q : ∀ h' tk t e', h'.get? dx = some (dictOf (putL name (PyData.keyHash w.params name) (.str name t) v es) e') → Heap.SameBut dx s.heap h' → Q () { s with heap := h', toks := tk }) :
    wpAny (model prog w) A (setAttr (.ref x) name v) Q E s := by
  have I : InstAt s.heap x (instObj C dx) C (some (dictOf es e)) := ⟨hx, rfl, rfl, hd⟩
  refine set_plain X I hs (osa_open (s := { s with toks := s.toks + 1 }) X I hp ht fun b => ?_)
  obtain ⟨cd, hc, hd'⟩ := any_some hh
  refine wpAny_bind (wpAny_pure (wpAny_bind (wpAny_bind (wpAny_loadPart hx (wpAny_bind (looks_clsIn X hc _ _ _ _ (fun _ _ e => e) ?_))))))
  rw [hd']
  refine wpAny_pure (a := some dx) (wpAny_bind (wpAny_pure (wpAny_bind ?_)))
  unfold nsSet
  refine wpAny_bind (wpAny_bind (wpAny_askSetting (wpAny_pure (wpAny_bind (wpAny_mkText (wpAny_bind (wpAny_loadPart hd ?_)))))))
  have c : aRefKeyMayBeTheName name es.toArray = false := by
    rw [aRefKeyMayBeTheName_at, ← Array.any_toList, ← Array.any_toList, hr, Bool.and_false]
  dsimp only
  rw [c]
  have up := Heap.get?_update_self (Obj.putName name (PyData.keyHash w.params name) (.str name (s.toks + 1)) v) hd (by rw [putName_dict]; rfl)
  rw [putName_dict] at up
  have len : ∀ l : List DictEntry, (putL name (PyData.keyHash w.params name) (.str name (s.toks + 1)) v l).length ≤ l.length + 1 := by
    intro l
    induction l with
    | nil => simp [putL]
    | cons a r ih => unfold putL; split <;> simp <;> assumption
  have ln := len es
  refine wpAny_updatePart hd ?_
  refine wpAny_bind (wpAny_lookBehind up (pastItsLine_dict (by rw [List.size_toArray, sizeLine_eq]; grind)) ?_)
  exact wpAny_pure (q _ _ _ _ up (Heap.SameBut.update ..))

variable {k : Nat} {env : Env} {B : Heap} {n₀ n : GL} {ow : List Addr} {rest : List Stmt} {Q : Flow → Shared → Prop} {F : VP} {mg mb : Str → Option Value}
/-- «o.name = e», o a Whitespace of one's own -/
theorem st_attr {o name : Str} {po ap pos : Pos} {e : Expr} {x dx : Addr} {es : List DictEntry} {e0 : Nat} (hA : Aok k A) (X : Fx B n₀ ow s.heap n) (G : Gd (KF w) mg mb s.heap) (hD : dx ∈ ow) (hx : s.heap.get? x = some (instObj 97 dx)) (hd : s.heap.get? dx = some (dictOf es e0))
    (nm : NameIs prog w env s.heap o (.ref x)) (he : Ev prog w k s.heap n (eval e env) F) (ht : takerIn (KF w) 97 name = some none) (hr : es.any (·.refKey) = false) (hz : es.length ≤ 100)
    (next : ∀ v h' tk n' t e', Fx B n₀ ow h' n' → Sub n n' → F n' v → h'.get? dx = some (dictOf (putL name (PyData.keyHash w.params name) (.str name t) v es) e') → (∀ b o, b ≠ dx → s.heap.get? b = some o → h'.get? b = some o) → wpAny (model prog w) A (execs rest env) Q E { s with heap := h', toks := tk })
    (hsw : swapsWith e (some (.Attribute (.Name o po) name ap)) pos.line env = Pure.pure false := by rfl) :
    wpAny (model prog w) A (execs (.Assign [.Attribute (.Name o po) name ap] e pos :: rest) env) Q E s := by
  refine wpAny_execs_cons (plainObj_wpAny_Assign_Attribute (he A s n _ E hA (Le.refl _) (Sub.refl _) X.ok fun v h1 t1 n1 g1 f1 => ?_) hsw)
  refine nm po A _ E { s with heap := h1, toks := t1 } g1.keep ?_
  refine setA (s := { s with heap := h1, toks := t1 }) (G.keeps g1.keep).K (g1.keep _ _ hx) (g1.keep _ _ hd) (by rfl) (by rfl) ht (by rfl) hr hz fun h2 tk t e' hd2 sm => ?_
  exact next v h2 tk n1 t e' ((X.grow g1).upd hD sm ⟨_, hd2⟩) g1.more f1 hd2 fun b o hb e => sm.extBut b o hb (g1.keep b o e)
end
end Mine
end
section
open PySem PySem.W PyProof.Rows PySem.Calls
set_option Elab.async false
set_option autoImplicit false
namespace Mine
/-- back to the earlier base, the owned set turned meanwhile -/
theorem Fx.backW {B : Heap} {n₀ : GL} {ow ow' : List Addr} {h h' : Heap} {n n' : GL} (x : Fx B n₀ ow h n) (y : Fx (hideAll h ow) n ow' h' n') : Fx B n₀ ow' h' n' where
  keep := fun b o e => y.keep b o (hideAll_get _ (x.keep b o e) fun hb => by rw [x.fresh _ hb] at e; cases e)
  more := x.more.trans y.more
  ok := y.ok
  new := fun p hp => (y.new p hp).elim (x.new p) fun q => .inr (by
    cases e : B.get? p.1 with
    | none => rfl
    | some o =>
      have := hideAll_get ow (x.keep _ _ e) fun hb => by rw [x.fresh _ hb] at e; cases e
      rw [this] at q; cases q)
  apart := y.apart
  live := y.live
  fresh := fun a ha => by
    cases e : B.get? a with
    | none => rfl
    | some o =>
      have := hideAll_get ow (x.keep _ _ e) fun hb => by rw [x.fresh _ hb] at e; cases e
      rw [y.fresh a ha] at this; cases this
section
variable {prog : Program} {w : World} {α : Type} {A : Around} {E : Value → Shared → Prop} {s : Shared} {k : Nat} {env : Env} {B : Heap} {n₀ n : GL} {ow : List Addr} {m : Str → Option Value} {rest : List Stmt} {Q : Flow → Shared → Prop}

/-- what a turn of a loop leaves, the owned set told anew -/
def TurnEndW (env : Env) (B₂ : Heap) (n₂ : GL) (s : Shared) (J JB : List Addr → Heap → GL → (Str → Option Value) → Prop) (f : Flow) (s' : Shared) : Prop :=
  ∃ H tk N M ow', s' = { s with heap := H, toks := tk } ∧ Fx B₂ n₂ ow' H N ∧ env.locals ∈ ow' ∧ H.Ns env.locals M ∧ (match f with | .next | .cont => J ow' H N M | .brk => JB ow' H N M | .ret _ => False)

inductive ForAtW {α : Type} (s : Shared) (St : Nat → Heap → Prop) (B : Heap) (n₀ n₁ : GL) (I L : Addr) (J : Nat → List Addr → Heap → GL → (Str → Option Value) → Prop) (xs : List α) : Nat → Shared → Prop
  | mk (H : Heap) (tk : Nat) (N : GL) (M : Str → Option Value) (i : Nat) (ow' : List Addr) : St i H → Fx B n₀ ow' H N → L ∈ ow' → I ∉ ow' → (∀ p, p ∈ N → p.1 ≠ I) → H.Ns L M → J i ow' H N M → Sub n₁ N → i ≤ xs.length → ForAtW s St B n₀ n₁ I L J xs (xs.length + 1 - i) { s with heap := H, toks := tk }
theorem st_forW {x : Str} {px : Pos} {iter : Expr} {body : List Stmt} {pos : Pos} {F : α → VP} {Fi : VP} {xs : List α} (hA : Aok k A) (X : Fx B n₀ ow s.heap n) (NS : s.heap.Ns env.locals m) (hL : env.locals ∈ ow)
    (hiter : Ev prog w k s.heap n (eval iter env) Fi) (hit : ∀ n' xv, Sub n n' → Fi n' xv → Hands prog w k F xs n' xv) (mF : ∀ a, Mono (F a))
    (J : Nat → List Addr → Heap → GL → (Str → Option Value) → Prop) (JB : List Addr → Heap → GL → (Str → Option Value) → Prop)
    (jH : ∀ i ow' H H' N M, J i ow' H N M → (∀ a, a ∈ ow' → a ≠ env.locals → H'.get? a = H.get? a) → J i ow' H' N M) (jx : ∀ i ow' H N M v, J i ow' H N M → J i ow' H N (fun y => if y = x then some v else M y))
    (init : ∀ h' n', Le s.heap h' → Sub n n' → J 0 ow h' n' m)
    (turn : ∀ (i : Nat) a v H N (M : Str → Option Value) tk B₂ n₂ ow', xs[i]? = some a → Fx B₂ n₂ ow' H N → env.locals ∈ ow' → Le B H → H.Ns env.locals (fun y => if y = x then some v else M y) → J i ow' H N (fun y => if y = x then some v else M y) → F a N v → Sub n N →
      wpAny (model prog w) A (execs body env) (TurnEndW env B₂ n₂ s (J (i + 1)) JB) (fun _ _ => False) { s with heap := H, toks := tk })
    (jEnd : ∀ ow' H N M, J xs.length ow' H N M → JB ow' H N M)
    (after : ∀ H N M tk ow', Fx B n₀ ow' H N → env.locals ∈ ow' → H.Ns env.locals M → JB ow' H N M → Sub n N → wpAny (model prog w) A (execs rest env) Q E { s with heap := H, toks := tk })
    (hx : env.kindOf x = some .local := by rfl) (hk : env.scope.kind = .function := by rfl) (hs : ∀ x, foldedSetIterable iter env x = Pure.pure x := by intro _; rfl) :
    wpAny (model prog w) A (execs (.For (.Name x px) iter body [] pos :: rest) env) Q E s := by
  refine wpAny_execs_cons (wpAny_For (hiter A s n _ E hA (Le.refl _) (Sub.refl _) X.ok fun xv h1 t1 n1 g1 f1 => ?_) hs)
  obtain ⟨P, hI, hP⟩ := hit n1 xv g1.more f1
  refine hI A { s with heap := h1, toks := t1 } _ E hA g1.at_ fun I h2 fp St fI le2 hlive W st2 hfp => ?_
  have X1 := X.grow g1
  have X2 : Fx B n₀ ow h2 n1 := X1.grow (Grow.heap g1.at_ le2)
  have fB : B.get? I = none := X1.keep.none fI
  have fO₀ : I ∉ ow := fun hm => by obtain ⟨o, ho⟩ := X1.live I hm; rw [show h1.get? I = none from fI] at ho; cases ho
  have fn1 : ∀ p, p ∈ n1 → p.1 ≠ I := fun p hp e => by have := g1.at_ p hp; rw [e, show h1.get? I = none from fI] at this; cases this
  have stK : ∀ (i : Nat) (N' : GL) (H1 H2 : Heap), Sub n1 N' → St i H1 → (∀ ob, H1.get? I = some ob → H2.get? I = some ob) → GOk N' H1 → GOk N' H2 → St i H2 := by
    intro i N' H1 H2 sb st kI g1 g2
    refine W.frame _ _ _ st fun b hb o e => ?_
    rcases hfp b hb with rfl | ⟨ob, hob⟩
    · exact kI o e
    · have e1 := g1 _ (sb _ hob)
      have e2 := g2 _ (sb _ hob)
      dsimp only at e1 e2
      rw [e] at e1
      rw [e2, e1]
  refine codeAny_forLoop_any
    (ForAtW s St B n₀ n1 I env.locals J xs) ?_ (xs.length + 1)
    (.mk h2 t1 n1 m 0 ow st2 X2 hL fO₀ fn1 (NS.keeps (g1.keep.trans le2)) (init h2 n1 (g1.keep.trans le2) g1.more) (Sub.refl _) (Nat.zero_le _))
  rintro j s' ⟨H, tk, N, M, i, ow', st, XN, hL', fO, fN, nsM, hJ, sbN, hi⟩
  have fL : I ≠ env.locals := fun e => fO (e ▸ hL')
  by_cases hlt : i < xs.length
  · refine W.item i _ _ _ hlt st fun v H1 tk1 hPv st1 hk1 => ?_
    obtain ⟨a, ha, fa⟩ := hP i v hlt hPv
    have hk1' : ∀ b o, b ≠ I → H.get? b = some o → H1.get? b = some o := fun b o hb e => hk1 b o (nin1 hb) e
    have XN1 : Fx B n₀ ow' H1 N := XN.but hk1' fB fN fO
    have hJ1 : J i ow' H1 N M := jH i ow' H H1 N M hJ fun a ha hn => by
      obtain ⟨o, ho⟩ := XN.live a ha
      rw [ho]; exact hk1' _ _ (by rintro rfl; exact fO ha) ho
    refine wpAny_pure ?_
    refine wpAny_assign_Name (wpAny_storeName_local hx (nsM.at' fun o e => hk1' _ o (Ne.symm fL) e) (fun H2 hn2 sm2 => ?_) (by rw [hk]; rfl))
    have XN2 : Fx B n₀ ow' H2 N := XN1.upd hL' sm2 (let ⟨o, _, _, ho, _⟩ := hn2; ⟨o, ho⟩)
    have hJ2 : J i ow' H2 N (fun y => if y = x then some v else M y) := jx _ _ _ _ _ _ (jH i ow' H1 H2 N M hJ1 fun a ha hn => (sm2.2 a hn))
    have st2' : St (i + 1) H2 := stK _ N H1 H2 sbN st1 (fun ob e => sm2.extBut _ _ fL e) XN1.ok XN2.ok
    obtain ⟨oI, hoI⟩ := hlive _ _ st2'
    have IB : (hideAll H2 ow').get? I = some oI := hideAll_get _ hoI fO
    refine wpAny_mono (turn i a v H2 N M _ (hideAll H2 ow') N ow' ha XN2.rebase hL' XN2.keep hn2 hJ2 (mF a _ _ _ sbN fa) (g1.more.trans sbN)) (fun f s3 h3 => ?_) fun _ _ e => e.elim
    obtain ⟨H3, tk3, N3, M3, ow3, rfl, X3, hL3, ns3, hf⟩ := h3
    have X3' : Fx B n₀ ow3 H3 N3 := XN2.backW X3
    have hI3 : H3.get? I = some oI := X3.keep _ _ IB
    have fO3 : I ∉ ow3 := fun hm => by have := X3.fresh I hm; rw [IB] at this; cases this
    have fN3 : ∀ p, p ∈ N3 → p.1 ≠ I := fun p hp e => (X3.new p hp).elim (fun q => fN p q e) fun q => by rw [e, IB] at q; cases q
    have next : J (i + 1) ow3 H3 N3 M3 → ∃ m_1, m_1 < xs.length + 1 - i ∧ ForAtW s St B n₀ n1 I env.locals J xs m_1 { s with heap := H3, toks := tk3 } := fun hj =>
      ⟨xs.length + 1 - (i + 1), dec_lt hlt, H3, tk3, N3, M3, i + 1, ow3, stK _ N H2 H3 sbN st2' (fun ob e => by rw [hoI] at e; cases e; exact hI3) XN2.ok (X3.ok.sub X3.more), X3', hL3, fO3, fN3, ns3, hj, sbN.trans X3.more, hlt⟩
    cases f with
    | next => exact next hf
    | cont => exact next hf
    | brk => exact after H3 N3 M3 tk3 ow3 X3' hL3 ns3 hf (g1.more.trans (sbN.trans X3.more))
    | ret v => exact hf.elim
  · have hin : i = xs.length := Nat.le_antisymm hi (Nat.not_lt.mp hlt)
    subst hin
    refine W.done _ _ _ st fun H1 tk1 hk1 => ?_
    have hk1' : ∀ b o, b ≠ I → H.get? b = some o → H1.get? b = some o := fun b o hb e => hk1 b o (nin1 hb) e
    have XN1 : Fx B n₀ ow' H1 N := XN.but hk1' fB fN fO
    have hJ1 : J xs.length ow' H1 N M := jH _ ow' H H1 N M hJ fun a ha hn => by
      obtain ⟨o, ho⟩ := XN.live a ha
      rw [ho]; exact hk1' _ _ (by rintro rfl; exact fO ha) ho
    refine wpAny_mono (wpAny_execs_nil (E := fun _ _ => False) ?_) (fun _ _ e => e) fun _ _ e => e.elim
    exact after H1 N M tk1 ow' XN1 hL' (nsM.at' fun o e => hk1' _ o (Ne.symm fL) e) (jEnd _ _ _ _ hJ1) (g1.more.trans sbN)
end
end Mine
end
section
open PySem PySem.W PyProof.Rows PySem.Calls
set_option Elab.async false
set_option autoImplicit false
set_option maxRecDepth 100000
namespace Mine
section
variable {prog : Program} {w : World} {mg mb : Str → Option Value} {k : Nat} {h : Heap} {n : GL} {env : Env}
theorem cls_S (w : World) : ∃ t, findCls (KF w) (.ref 97) (.type "type") (Str.ofString "S") = some (.val (.str (S [32]) t)) := ⟨_, rfl⟩
theorem cls_T (w : World) : ∃ t, findCls (KF w) (.ref 97) (.type "type") (Str.ofString "T") = some (.val (.str (S [9]) t)) := ⟨_, rfl⟩
theorem Ev.clsS {value : Expr} {pos : Pos} (G : Gd (KF w) mg mb h) (hv : Ev prog w k h n (eval value env) (EqV (.ref 97))) (he : eval (.Attribute value (Str.ofString "S") pos) env = (do let o ← eval value env; standAt pos.atName; let r ← holding [o] (getAttr o (Str.ofString "S") true); letTemporaryGo value o r; return r) := by rfl) :
    Ev prog w k h n (eval (.Attribute value (Str.ofString "S") pos) env) (StrV (S [32])) := by
  refine Ev.Attr hv ?_ he
  rintro v n' _ rfl
  obtain ⟨t, e⟩ := cls_S w
  exact Ev.read (v := Value.str (S [32]) t) (fun A s Q E hA le ok q => cls_value (G.keeps le).K (mc := .type "type") (by rfl) e (by rfl) (q _)) fun _ _ => ⟨t, rfl⟩
theorem Ev.clsT {value : Expr} {pos : Pos} (G : Gd (KF w) mg mb h) (hv : Ev prog w k h n (eval value env) (EqV (.ref 97))) (he : eval (.Attribute value (Str.ofString "T") pos) env = (do let o ← eval value env; standAt pos.atName; let r ← holding [o] (getAttr o (Str.ofString "T") true); letTemporaryGo value o r; return r) := by rfl) :
    Ev prog w k h n (eval (.Attribute value (Str.ofString "T") pos) env) (StrV (S [9])) := by
  refine Ev.Attr hv ?_ he
  rintro v n' _ rfl
  obtain ⟨t, e⟩ := cls_T w
  exact Ev.read (v := Value.str (S [9]) t) (fun A s Q E hA le ok q => cls_value (G.keeps le).K (mc := .type "type") (by rfl) e (by rfl) (q _)) fun _ _ => ⟨t, rfl⟩
/-- a pair -/
theorem Ev.pair {e1 e2 : Expr} {c : Nat} {pos : Pos} {F1 F2 : VP} (m1 : Mono F1) (m2 : Mono F2) (h1 : Ev prog w k h n (eval e1 env) F1) (h2 : Ev prog w k h n (eval e2 env) F2)
    (s1 : starEach [e1, e2] env = (false, eval e1 env) :: starEach [e2] env := by rfl) (s2 : starEach [e2] env = (false, eval e2 env) :: starEach [] env := by rfl) :
    Ev prog w k h n (eval (.Tuple [e1, e2] c pos) env) (fun n' v => ∃ t v1 v2 e', v = .ref t ∧ (t, tupo [v1, v2] e') ∈ n' ∧ F1 n' v1 ∧ F2 n' v2) := by
  intro A s n₁ Q E hA l sb ok q
  refine wpAny_Tuple ((Ev.argsS m1 h1 (Ev.argsS m2 h2 Ev.args0 s2) s1) A s n₁ _ E hA l sb ok fun vs h3 t3 n3 g3 f3 => ?_)
  obtain ⟨u, v, rfl, hu, hv⟩ := paired2 f3
  refine ⟨by rw [sizeLine_eq]; simp, q _ _ _ _ (g3.trans (Grow.push g3.at_ _)) ⟨_, u, v, 0, rfl, .head _, m1 _ _ _ (Sub.cons _ _) hu, m2 _ _ _ (Sub.cons _ _) hv⟩⟩
/-- an own attribute of a Whitespace under way -/
theorem getOwn {x dx : Addr} {es : List DictEntry} {e : Nat} {v : Value} {name : Str} {expr : Bool} (G : Gd (KF w) mg mb h) (h1 : h.get? x = some (instObj 97 dx)) (h2 : h.get? dx = some (dictOf es e))
    (ha : findIn (KF w) (.ref 97) name = some none) (hl : getL name es = some (some v)) (hv : handedIn v = true) : Ev prog w k h n (getAttr (.ref x) name expr) (EqV v) :=
  Ev.read (v := v) (fun A s Q E hA le ok q => get_value (G.keeps le).K ⟨le _ _ h1, rfl, rfl, le _ _ h2⟩ (by rfl) (findObj_own (K := KF w) (C := 97) (by rfl) ha (by rfl) (by rw [lookIn_dict]; exact hl)) hv (q _)) fun _ _ => rfl
/-- [x] * m -/
theorem rep_one (u : Value) (m : Nat) : List.foldl (fun x1 x2 => x1 ++ x2) #[] (List.replicate m #[u]) = (List.replicate m u).toArray := by
  have : ∀ m (acc : Array Value), List.foldl (fun x1 x2 => x1 ++ x2) acc (List.replicate m #[u]) = acc ++ (List.replicate m u).toArray := by
    intro m
    induction m with
    | zero => intro acc; simp
    | succ m ih => intro acc; rw [List.replicate_succ, List.foldl_cons, ih, List.replicate_succ]; apply Array.toList_inj.mp; simp
  rw [this]; simp
theorem paired_rep {α β : Type} {F : α → β → Prop} {a : α} {b : β} (h : F a b) : ∀ m, Paired F (List.replicate m a) (List.replicate m b)
  | 0 => .nil
  | m + 1 => .cons h (paired_rep h m)
theorem Ev.rep1 {l r : Expr} {pos : Pos} {a i : Int} (h0 : 0 ≤ i) (h1 : i ≤ 1000) (hl : Ev prog w k h n (eval l env) (ListV IntV [a])) (hr : Ev prog w k h n (eval r env) (IntV i)) :
    Ev prog w k h n (eval (.BinOp l .Mult r pos) env) (ListV IntV (List.replicate i.toNat a)) := by
  refine Ev.BinOp hl hr (mono_ListV mono_IntV _) ?_
  rintro _ _ n' _ ⟨c, vs, e, rfl, hm, hp⟩ ⟨u, rfl⟩
  cases hp with | cons hu ht =>
  cases ht
  rename_i uv
  refine Ev.make (o := lst (List.replicate i.toNat uv) 0) (fun A s Q E _ _ ok q => ?_) fun c n2 sb hc => ⟨c, _, _, rfl, hc, paired_rep (F := fun x v => IntV x n2 v) hu _⟩
  have hl := ok _ hm
  refine PySem.wpAny_binaryOp_repeat_ref (T := "list") (U := "int") (by decide) ⟨_, hl, rfl⟩ (fun s' => typeIs_int s' i u) noFill_list_mul F.fills_int_mul F.slot_int_rmul repeat_list F.slot_int_index.lookup
    (call_meets F.slot_int_rmul (typeIs_int s i u) F.entry_int_rmul (F.args_int_rmul_2 _ _) (int___rmul___int_list i u c [uv].toArray e)
      ⟨hl, rfl, ⟨_, hl, rfl⟩, call_meets F.slot_list_mul ⟨_, hl, rfl⟩ F.entry_list_mul (F.args_list_mul_2 _ _)
        (AutoListH.list___mul___list_int_3 c [uv].toArray e i u (by simp [Builtin.List.listFitsIndex]; grind) (by simp; exact Int.le_trans (by assumption) (by decide)) (by simp [Builtin.List.listTooLong, sizeLine]; exact Int.le_trans (by assumption) (by decide)))
        ⟨hl, ?_⟩⟩)
  have e1 : (if ([uv].toArray : Array Value).isEmpty = true then 0 else i.toNat) = i.toNat := by simp
  have := rep_one uv i.toNat
  rw [e1]
  rw [show ([uv].toArray : Array Value) = #[uv] from rfl, this]
  exact q _ _ _ (Le.push _ _) (new_none _) (Heap.get?_push_size _ rfl)
theorem op_tupL {α : Type} {F : α → VP} {xs : List α} {v : Value} {n : GL} (m : ∀ x, Mono (F x)) (x : ListV F xs n v) (hsz : xs.length ≤ 1000000) : Ev prog w k h n (call (.type "tuple") [v]) (TupV F xs) := by
  obtain ⟨a, vs, rfl, hp, hlen, hl⟩ := x.isList
  refine Ev.make (o := tupo vs 0) (fun A s Q E _ _ ok q => PySem.call_tuple_list (hl _ ok) (fun h' hk => q _ _ _ ?_ ?_ ?_) (by rw [sizeLine_eq]; simp; grind)) fun c n2 sb hc => ⟨c, vs, 0, rfl, hc, Paired.mono' (fun x v q => m x _ _ v sb q) hp⟩
  · exact fun b o e => Le.push _ _ _ _ (hk b o e)
  · exact Le.none (fun b o e => hk b o e) (new_none _)
  · exact Heap.get?_push_size _ rfl
end
section
variable {prog : Program} {w : World} {A : Around} {E : Value → Shared → Prop} {s : Shared} {k : Nat} {env : Env} {B : Heap} {n₀ n : GL} {ow : List Addr} {m : Str → Option Value} {rest : List Stmt} {Q : Flow → Shared → Prop}
/-- «a, b = e1, e2» -/
theorem st_unpack2S {a b : Str} {pa pb tp pos : Pos} {c : Nat} {e : Expr} {F : Value → Value → GL → Prop} (hA : Aok k A) (X : Fx B n₀ ow s.heap n) (N : s.heap.Ns env.locals m) (hL : env.locals ∈ ow)
    (he : Ev prog w k s.heap n (eval e env) (fun n' v => ∃ t v1 v2 e', v = .ref t ∧ (t, tupo [v1, v2] e') ∈ n' ∧ F v1 v2 n'))
    (next : ∀ v1 v2 h' tk n', Fx B n₀ ow h' n' → h'.Ns env.locals (fun y => if y = a then some v1 else (fun y => if y = b then some v2 else m y) y) → Sub n n' → F v1 v2 n' → (∀ b o, b ≠ env.locals → s.heap.get? b = some o → h'.get? b = some o) →
      wpAny (model prog w) A (execs rest env) Q E { s with heap := h', toks := tk })
    (ha : env.kindOf a = some .local := by rfl) (hb : env.kindOf b = some .local := by rfl) (hk : env.scope.kind = .function := by rfl)
    (hs : swapsWithSole [.Tuple [.Name a pa, .Name b pb] c tp] e pos.line env = Pure.pure false := by rfl) (hw : swappedStores [.Tuple [.Name a pa, .Name b pb] c tp] e env = Pure.pure (some [a, b]) := by rfl) :
    wpAny (model prog w) A (execs (.Assign [.Tuple [.Name a pa, .Name b pb] c tp] e pos :: rest) env) Q E s := by
  refine wpAny_execs_cons (Assign_Tuple_swapped (names := [a, b]) (he A s n _ E hA (Le.refl _) (Sub.refl _) X.ok fun v h1 t1 n1 g1 f1 => ?_) hs hw)
  obtain ⟨t, v1, v2, e', rfl, hm, hF⟩ := f1
  have ht : IsTup h1 t [v1, v2].toArray := ⟨_, g1.at_ _ hm, rfl, _, rfl⟩
  refine PyProof.Rows.unpackItems_tuple (s := { s with heap := h1, toks := t1 }) (items := [v1, v2].toArray) hA.handled ht fun h2 ex => ?_
  have le2 : Le h1 h2 := fun b o q => ex b o (Nat.ne_of_lt (Heap.lt_size q)) q
  have X2 := (X.grow g1).grow (Grow.heap g1.at_ le2)
  have N2 := (N.keeps g1.keep).keeps le2
  refine assignInOrder_cons ?_
  refine wpAny_bind (wpAny_holding (wpAny_point (wpAny_bind (wpAny_storeName_local hb N2 (fun h3 hn3 sm3 => wpAny_point ?_) (by rw [hk]; rfl)))))
  refine assignInOrder_cons ?_
  refine wpAny_bind (wpAny_holding (wpAny_point (wpAny_bind (wpAny_storeName_local ha hn3 (fun h4 hn4 sm4 => wpAny_point ?_) (by rw [hk]; rfl)))))
  refine assignInOrder_nil ?_
  have X3 := X2.upd hL sm3 (let ⟨o, _, _, ho, _⟩ := hn3; ⟨o, ho⟩)
  have X4 := X3.upd hL sm4 (let ⟨o, _, _, ho, _⟩ := hn4; ⟨o, ho⟩)
  exact next v1 v2 h4 _ n1 X4 hn4 g1.more hF fun b o hb q => sm4.extBut b o hb (sm3.extBut b o hb (le2 b o (g1.keep b o q)))
/-- «a = b = c = e» -/
theorem st_assign3 {a b c : Str} {pa pb pc pos : Pos} {e : Expr} {F : VP} (hA : Aok k A) (X : Fx B n₀ ow s.heap n) (N : s.heap.Ns env.locals m) (hL : env.locals ∈ ow)
    (he : Ev prog w k s.heap n (eval e env) F)
    (next : ∀ v h' tk n', Fx B n₀ ow h' n' → h'.Ns env.locals (fun y => if y = c then some v else (fun y => if y = b then some v else (fun y => if y = a then some v else m y) y) y) → Sub n n' → F n' v → (∀ b o, b ≠ env.locals → s.heap.get? b = some o → h'.get? b = some o) →
      wpAny (model prog w) A (execs rest env) Q E { s with heap := h', toks := tk })
    (ha : env.kindOf a = some .local := by rfl) (hb : env.kindOf b = some .local := by rfl) (hc : env.kindOf c = some .local := by rfl) (hk : env.scope.kind = .function := by rfl)
    (hee : (assignEach [.Name a pa, .Name b pb, .Name c pc] env).map (·.2) = [assign (.Name a pa) env, assign (.Name b pb) env, assign (.Name c pc) env] := by rfl) (hw : swappedStores [.Name a pa, .Name b pb, .Name c pc] e env = Pure.pure none := by rfl) :
    wpAny (model prog w) A (execs (.Assign [.Name a pa, .Name b pb, .Name c pc] e pos :: rest) env) Q E s := by
  refine wpAny_execs_cons (wpAny_Assign_three (he A s n _ E hA (Le.refl _) (Sub.refl _) X.ok fun v h1 t1 n1 g1 f1 => ?_) hee hw)
  refine wpAny_assign_Name (wpAny_storeName_local ha (N.keeps g1.keep) (fun h2 hn2 sm2 => ?_) (by rw [hk]; rfl))
  refine wpAny_assign_Name (wpAny_storeName_local hb hn2 (fun h3 hn3 sm3 => ?_) (by rw [hk]; rfl))
  refine wpAny_assign_Name (wpAny_storeName_local hc hn3 (fun h4 hn4 sm4 => ?_) (by rw [hk]; rfl))
  have X2 := (X.grow g1).upd hL sm2 (let ⟨o, _, _, ho, _⟩ := hn2; ⟨o, ho⟩)
  have X3 := X2.upd hL sm3 (let ⟨o, _, _, ho, _⟩ := hn3; ⟨o, ho⟩)
  have X4 := X3.upd hL sm4 (let ⟨o, _, _, ho, _⟩ := hn4; ⟨o, ho⟩)
  exact next v h4 _ n1 X4 hn4 g1.more f1 fun b o hb q => sm4.extBut b o hb (sm3.extBut b o hb (sm2.extBut b o hb (g1.keep b o q)))
theorem setItemL {D : Addr} {vs : List Value} {e0 : Nat} {i : Nat} {j : Int} {u : Tok} {v : Value} {Q : Unit → Shared → Prop} (hj : j = (i : Int)) (hd : s.heap.get? D = some (lst vs e0)) (hi : i < vs.length) (hf : (i : Int) < 2 ^ 63)
    (q : ∀ h' e', h'.get? D = some (lst (vs.set i v) e') → Heap.SameBut D s.heap h' → Q () { s with heap := h' }) : wpAny (model prog w) A (setItem (.ref D) (.int j u) v) Q E s := by
  have hl : s.heap.IsList D vs.toArray := ⟨_, hd, rfl, _, rfl⟩
  have hx : vs.toArray[i]? = some vs[i] := by simp [hi]
  unfold setItem
  try with_reducible refine wpAny_holding ?_
  first | refine wpAny_bind (wpAny_pure ?_) | skip
  refine wpAny_bind (wpAny_sequenceKey hl.typeIs (by decide) (wpAny_bind (wpAny_callSpecial?_slot (name := Str.ofString "__setitem__") hl.typeIs PySem.slot_list_setitem (wpAny_call_entry PySem.slot_list_setitem hl.typeIs PySem.entry_list_setitem ?_ (PySem.args_list_setitem _ _ _)))))
  show wpAny _ _ (Builtin.List.listSubscript? (.int j u) >>= _) _ _ s
  refine wpAny_bind (wpAny_listSubscript_int (fitsIndex_of (by grind) (by grind)) ?_)
  subst hj
  show wpAny _ _ ((seqItemAt D i >>= fun r => Pure.pure (r.map (i, ·))) >>= _) _ _ s
  refine wpAny_bind (wpAny_bind (wpAny_seqItemAt hd rfl (wpAny_pure ?_)))
  rw [hx]
  show wpAny _ _ (setSeqItemAt D i v >>= _) _ _ s
  obtain ⟨e', he'⟩ := get_mapSeq hd (·.setIfInBounds i v)
  have he2 : (s.heap.update D (Obj.mapSeq (·.setIfInBounds i v))).get? D = some (lst (vs.set i v) e') := by rw [he']; simp
  refine wpAny_bind (wpAny_setSeqItemAt hd rfl ?_)
  first
    | exact wpAny_bind (wpAny_pure (wpAny_pure ⟨.none, rfl, wpAny_pure (q _ _ he2 (Heap.SameBut.update ..))⟩))
    | exact wpAny_pure ⟨.none, rfl, wpAny_pure (q _ _ he2 (Heap.SameBut.update ..))⟩
/-- «o[i] = e», o a list of one's own -/
theorem st_setitem {o : Str} {po pos' pos : Pos} {ie e : Expr} {D : Addr} {vs : List Value} {e0 : Nat} {i : Int} {F : VP} (hA : Aok k A) (X : Fx B n₀ ow s.heap n) (hD : D ∈ ow) (hd : s.heap.get? D = some (lst vs e0))
    (h0 : 0 ≤ i) (hf : i < 2 ^ 60) (hi : i < vs.length) (nm : NameIs prog w env s.heap o (.ref D)) (he : Ev prog w k s.heap n (eval e env) F) (hie : ∀ h' n', Le s.heap h' → Sub n n' → Ev prog w k h' n' (eval ie env) (IntV i))
    (next : ∀ v h' tk n' n2 e', Fx B n₀ ow h' n2 → Sub n n' → Sub n' n2 → F n' v → h'.get? D = some (lst (vs.set i.toNat v) e') → (∀ b o, b ≠ D → s.heap.get? b = some o → h'.get? b = some o) → wpAny (model prog w) A (execs rest env) Q E { s with heap := h', toks := tk })
    (hsw : swapsWith e (some (.Subscript (.Name o po) ie pos')) pos.line env = Pure.pure false := by rfl) :
    wpAny (model prog w) A (execs (.Assign [.Subscript (.Name o po) ie pos'] e pos :: rest) env) Q E s := by
  refine wpAny_execs_cons (wpAny_Assign_Subscript (he A s n _ E hA (Le.refl _) (Sub.refl _) X.ok fun v h1 t1 n1 g1 f1 => ?_) hsw)
  refine nm po A _ E { s with heap := h1, toks := t1 } g1.keep ?_
  refine hie h1 n1 g1.keep g1.more A { s with heap := h1, toks := t1 } n1 _ E hA (Le.refl _) (Sub.refl _) g1.at_ fun iv h2 t2 n2 g2 f2 => ?_
  obtain ⟨u, rfl⟩ := f2
  have hd2 := g2.keep _ _ (g1.keep _ _ hd)
  obtain ⟨j, rfl⟩ := Int.eq_ofNat_of_zero_le h0
  refine setItemL (s := { s with heap := h2, toks := t2 }) rfl hd2 (by grind) (by grind) fun h3 e3 he3 sm3 => ?_
  exact next v h3 t2 n1 n2 e3 (((X.grow g1).grow g2).upd hD sm3 ⟨_, he3⟩) g1.more g2.more f1 he3 fun b o hb q => sm3.extBut b o hb (g2.keep b o (g1.keep b o q))
end
end Mine
end
section
open PySem PySem.W PyProof.Rows PySem.Calls
set_option Elab.async false
set_option autoImplicit false
set_option maxRecDepth 100000
namespace Mine
section
variable {prog : Program} {w : World} {A : Around} {E : Value → Shared → Prop} {s : Shared} {k : Nat} {env : Env} {B : Heap} {n₀ n : GL} {ow : List Addr} {rest : List Stmt} {Q : Flow → Shared → Prop}
theorem st_ifJ {test : Expr} {body orelse : List Stmt} {pos : Pos} {c : Bool} (P : Heap → GL → Prop) (hA : Aok k A) (X : Fx B n₀ ow s.heap n) (ht : Ev prog w k s.heap n (isTrue test env (eval test env)) (fun _ b => b = c))
    (yes : c = true → ∀ h' tk n', Fx B n₀ ow h' n' → Sub n n' → Le s.heap h' → wpAny (model prog w) A (execs body env) (fun f s' => f = .next ∧ ∃ H tk N, s' = { s with heap := H, toks := tk } ∧ P H N) E { s with heap := h', toks := tk })
    (no : c = false → ∀ h' tk n', Fx B n₀ ow h' n' → Sub n n' → Le s.heap h' → wpAny (model prog w) A (execs orelse env) (fun f s' => f = .next ∧ ∃ H tk N, s' = { s with heap := H, toks := tk } ∧ P H N) E { s with heap := h', toks := tk })
    (join : ∀ H tk N, P H N → wpAny (model prog w) A (execs rest env) Q E { s with heap := H, toks := tk }) :
    wpAny (model prog w) A (execs (.If test body orelse pos :: rest) env) Q E s := by
  refine st_if hA X ht (fun hc h' tk n' X' sb le => wpAny_mono (yes hc h' tk n' X' sb le) ?_ fun _ _ e => e) fun hc h' tk n' X' sb le => wpAny_mono (no hc h' tk n' X' sb le) ?_ fun _ _ e => e
  · rintro f s' ⟨rfl, H, tk, N, rfl, p⟩; exact join H tk N p
  · rintro f s' ⟨rfl, H, tk, N, rfl, p⟩; exact join H tk N p
theorem EvN.temp {h : Heap} {t : Sem Value} {xs : List Int} {a : Addr} {o : Obj} (x : EvN prog w k h ((a, o) :: n) t IntV xs) (ha : h.get? a = some o) : EvN prog w k h n t IntV xs := by
  intro A s n₁ Q E hA l sb ok q
  refine x A s ((a, o) :: n₁) Q E hA l (fun p hp => ?_) (fun p hp => ?_) fun b vs e h' tk n' g f ap ho hp => q b vs e h' tk n₁ (Grow.heap ok g.keep) f (fun p hp => ap p (g.more p (.tail _ hp))) ho (of_intsAre (intsAre_of hp))
  · rcases List.mem_cons.mp hp with rfl | hp
    · exact .head _
    · exact .tail _ (sb _ hp)
  · rcases List.mem_cons.mp hp with rfl | hp
    · exact l _ _ ha
    · exact ok p hp
end

def padTo (cnt : List Int) (b : Nat) : List Int := if cnt.length ≤ b then cnt ++ List.replicate (b - cnt.length + 1) 0 else cnt
def bump (cnt : List Int) (b : Nat) : List Int := (padTo cnt b).set b ((padTo cnt b).getD b 0 + 1)
def wsGo : List Nat → Ws → Ws
  | [], W => W
  | c :: r, W => if c = 32 then wsGo r ⟨W.n + 1, W.nt, W.cnt, W.b + 1⟩ else if c = 9 then wsGo r ⟨W.n + 1, W.nt + 1, bump W.cnt W.b.toNat, 0⟩ else W
def wsOf (l : List Nat) : Ws := wsGo l ⟨0, 0, [], 0⟩
theorem padTo_len (cnt : List Int) (b : Nat) : b < (padTo cnt b).length := by unfold padTo; split <;> (try simp) <;> grind
theorem padTo_le (cnt : List Int) (b : Nat) : (padTo cnt b).length ≤ max cnt.length (b + 1) := by unfold padTo; split <;> (try simp) <;> grind
theorem bump_len (cnt : List Int) (b : Nat) : (bump cnt b).length = (padTo cnt b).length := by simp [bump]
theorem intsAre_set {vs : List Value} {ns : List Int} : ∀ (_ : IntsAre vs ns) (i : Nat) (a : Int) (t : Tok), IntsAre (vs.set i (.int a t)) (ns.set i a)
  | .nil, _, _, _ => by simpa using IntsAre.nil
  | .cons _ _ r, 0, a, t => .cons a t r
  | .cons b u r, i + 1, a, t => .cons b u (intsAre_set r i a t)

structure WI (x dx L : Addr) (vS vT : Value) (es : List DictEntry) (W : Ws) (D : Addr) (vs : List Value) (e e1 : Nat) (tb tn tt : Tok) (H : Heap) (M : Str → Option Value) : Prop where
  hD : H.get? D = some (lst vs e)
  iv : IntsAre vs W.cnt
  hx : H.get? x = some (instObj 97 dx)
  hd : H.get? dx = some (dictOf es e1)
  m1 : M "self" = some (.ref x)
  m2 : M "S" = some vS
  m3 : M "T" = some vT
  m4 : M "count" = some (.ref D)
  m5 : M "b" = some (.int W.b tb)
  m6 : M "n" = some (.int W.n tn)
  m7 : M "nt" = some (.int W.nt tt)
  nL : D ≠ L
  nd : D ≠ dx
  nx : D ≠ x
theorem WI.of {x dx L : Addr} {vS vT : Value} {es : List DictEntry} {W : Ws} {D : Addr} {vs : List Value} {e e1 : Nat} {tb tn tt : Tok} {H : Heap} {M : Str → Option Value} (_ : H.Ns L M) (hD : H.get? D = some (lst vs e)) (iv : IntsAre vs W.cnt) (hx : H.get? x = some (instObj 97 dx)) (hd : H.get? dx = some (dictOf es e1))
    (m1 : M "self" = some (.ref x)) (m2 : M "S" = some vS) (m3 : M "T" = some vT) (m4 : M "count" = some (.ref D)) (m5 : M "b" = some (.int W.b tb)) (m6 : M "n" = some (.int W.n tn)) (m7 : M "nt" = some (.int W.nt tt)) (nL : D ≠ L) (nd : D ≠ dx) (nx : D ≠ x) :
    WI x dx L vS vT es W D vs e e1 tb tn tt H M := ⟨hD, iv, hx, hd, m1, m2, m3, m4, m5, m6, m7, nL, nd, nx⟩
theorem WI.keep {x dx L : Addr} {vS vT : Value} {es : List DictEntry} {W : Ws} {D : Addr} {vs : List Value} {e e1 : Nat} {tb tn tt : Tok} {H H' : Heap} {M : Str → Option Value} (i : WI x dx L vS vT es W D vs e e1 tb tn tt H M) (le : Le H H') : WI x dx L vS vT es W D vs e e1 tb tn tt H' M :=
  { i with hD := le _ _ i.hD, hx := le _ _ i.hx, hd := le _ _ i.hd }
section
variable {prog : Program} {w : World} {mg mb : Str → Option Value} {k : Nat} {h : Heap} {n : GL}
theorem nmTuple {K : Frag} {env : Env} (G : Gd K mg mb h) (e : nsIn K mainGlobals (Str.ofString "tuple") = some none) (hg : env.globals = mainGlobals := by rfl) (hb : env.builtins = builtinsNs := by rfl) (hk : env.scope.kind = .function := by rfl) (hx : env.kindOf (Str.ofString "tuple") = some .globalImplicit := by rfl) :
    NameIs prog w env h (Str.ofString "tuple") (.type "tuple") := NameIs.bui G e (by decide +kernel) (by decide) hg hb hk hx
def rawEs (P : Params) (v : Value) (t : Tok) : List DictEntry := [⟨PyData.keyHash P (Str.ofString "raw"), .str (Str.ofString "raw") t, v⟩]
inductive WsJ (P : Params) (l : List Nat) (x dx L : Addr) (vS vT v : Value) (t : Tok) (i : Nat) (H : Heap) (M : Str → Option Value) : List Addr → Prop
  | mk (W : Ws) (D : Addr) (vs : List Value) (e e1 : Nat) (tb tn tt : Tok) : WI x dx L vS vT (rawEs P v t) W D vs e e1 tb tn tt H M → wsGo (l.drop i) W = wsOf l → 0 ≤ W.b → W.b ≤ i → W.cnt.length ≤ i + 1 → WsJ P l x dx L vS vT v t i H M [D, L, dx, x]
inductive WsB (P : Params) (l : List Nat) (x dx L : Addr) (vS vT v : Value) (t : Tok) (H : Heap) (M : Str → Option Value) : List Addr → Prop
  | mk (D : Addr) (vs : List Value) (e e1 : Nat) (tb tn tt : Tok) : WI x dx L vS vT (rawEs P v t) (wsOf l) D vs e e1 tb tn tt H M → 0 ≤ (wsOf l).b → (wsOf l).b ≤ 100 → (wsOf l).cnt.length ≤ 100 → WsB P l x dx L vS vT v t H M [D, L, dx, x]
def WsP (P : Params) (B₂ hh : Heap) (n₂ n5 : GL) (x dx L : Addr) (vS vT v : Value) (t : Tok) (W : Ws) (tb u9 u10 : Tok) (H : Heap) (N : GL) : Prop := ∃ D vs e M, Fx B₂ n₂ [D, L, dx, x] H N ∧ H.Ns L M ∧ Le hh H ∧ Sub n5 N ∧ ∃ e1, WI x dx L vS vT (rawEs P v t) ⟨W.n + 1, W.nt + 1, padTo W.cnt W.b.toNat, W.b⟩ D vs e e1 tb u9 u10 H M
theorem ws_ev {l : List Nat} {v : Value} (G : Gd (KF w) mg mb h) (hv : StrV (S l) n v) (hsz : l.length ≤ 50) : Ev prog w (k + 6) h n (call (.ref 97) [v]) (WsV w.params (wsOf l)) := by
  intro A s n₁ Q E hA lh sb ok q
  have G' := G.keeps lh
  obtain ⟨hh, g, d, t, os⟩ := s
  have hv₁ : StrV (S l) n₁ v := hv
  refine wpAny_call (make_core (C := 97) (init := .ref 52) (makes_of G'.K (by rfl)) (looks_findIn G'.K (by rfl)) (fun self => bind_fn G'.K self (by rfl)) (.inl rfl) ?_)
  dsimp only at G' ok lh q
  have hA1 : Aok (k + 5) (A.under (.builtin "type.__call__" ⟨[.ref 97, v], []⟩)) := ⟨hA.handled, by have := hA.depth; show A.depth + 1 + (k + 5) < _; grind, by have := hA.units; show A.units + 1 + 100 * (k + 5) < _; grind⟩
  generalize A.under (.builtin "type.__call__" ⟨[.ref 97, v], []⟩) = A1 at hA1 ⊢
  have le1 : Le hh ((hh.push emptyDict).push (instObj 97 hh.objs.size)) := (Le.push _ _).trans (Le.push _ _)
  have hx0 : ((hh.push emptyDict).push (instObj 97 hh.objs.size)).get? (hh.objs.size + 1) = some (instObj 97 hh.objs.size) := by heap_get
  have hd0 : ((hh.push emptyDict).push (instObj 97 hh.objs.size)).get? hh.objs.size = some emptyDict := by heap_get
  have hsz0 : ((hh.push emptyDict).push (instObj 97 hh.objs.size)).objs.size = hh.objs.size + 2 := by simp [Heap.size_push]
  have G0 := G'.keeps le1
  generalize (hh.push emptyDict).push (instObj 97 hh.objs.size) = h1 at *
  refine codeAny_call_def (s := ⟨h1, g, d, t, os⟩) (by have := hA1.depth; grind) (G0.K _ _ (by rfl)) rfl G0.nolimit (codeRec_of G0.K (by rfl)) (by rfl) (BindsTo.of_eq (by rfl)) (by decide) (by exact locs rfl) (fun h₀ hns hk0 => ?_)
  have hA2 : ∀ env, Aok (k + 4) (A1.deeper env) := fun env => ⟨hA1.handled, by have := hA1.depth; show A1.depth + 1 + (k + 4) < _; grind, by have := hA1.units; show A1.units + 3 + 100 * (k + 4) < _; grind⟩
  have X : Fx hh n₁ [h1.objs.size, hh.objs.size, hh.objs.size + 1] h₀ n₁ := by
    have z0 : hh.objs.size ≤ h1.objs.size := by rw [hsz0]; exact Nat.le_add_right _ _
    exact ⟨le1.trans hk0, Sub.refl _, ok.keep (le1.trans hk0), fun _ e => .inl e, fun p hp => allC (Nat.ne_of_lt (Nat.lt_of_lt_of_le (Heap.lt_size (ok p hp)) z0)) (allC (Nat.ne_of_lt (Heap.lt_size (ok p hp))) (all1 (Nat.ne_of_lt (Nat.lt_succ_of_lt (Heap.lt_size (ok p hp)))))),
      allC (nsLive hns) (allC ⟨_, hk0 _ _ hd0⟩ (all1 ⟨_, hk0 _ _ hx0⟩)), allC (new_none' z0) (allC (new_none' (Nat.le_refl _)) (all1 (new_none' (Nat.le_succ _))))⟩
  have hx1 := hk0 _ _ hx0
  have hd1 := hk0 _ _ hd0
  have Ld : hh.objs.size ≠ h1.objs.size := by rw [hsz0]; exact Nat.ne_of_lt (by grind)
  have Lx : hh.objs.size + 1 ≠ h1.objs.size := by rw [hsz0]; exact Nat.ne_of_lt (by exact Nat.le_refl _)
  have dxx : hh.objs.size + 1 ≠ hh.objs.size := Nat.ne_of_gt (Nat.lt_succ_self _)
  refine wpAny_mono (Q := fun f s' => f = .next ∧ ∃ h' tk n', s' = (⟨h', g, d, tk, os⟩ : Shared) ∧ Grow hh n₁ h' n' ∧ WsV w.params (wsOf l) n' (.ref (hh.objs.size + 1))) (E := fun _ _ => False) ?_ (fun f s' hf => ?_) fun _ _ e => e.elim
  rotate_left
  · obtain ⟨rfl, h', tk, n', rfl, gr, wv⟩ := hf
    exact ⟨rfl, q _ h' tk n' gr wv⟩
  generalize hh.objs.size + 1 = x at *
  generalize hdx : hh.objs.size = dx at *
  generalize h1.objs.size = L at *
  have Gk : ∀ {H : Heap}, Le hh H → Gd (KF w) mg mb H := fun le => G'.keeps le
  dsimp only at hns
  -- self.raw = ws
  refine st_attr (s := ⟨h₀, g, d, _, os⟩) (F := EqV v) (x := x) (dx := dx) (es := []) (hA2 _) X (Gk X.keep) (.tail _ (.head _)) hx1 hd1 (NameIs.loc hns (by rfl)) (Ev.nameE (NameIs.loc hns (by rfl))) (by rfl) (by rfl) (by decide) ?_
  intro v' h2 t2 n2 t_1 e2 X2 sb2 ev' hd2 kp2
  have ev : v = v' := ev'.symm
  subst ev
  have N2 := hns.at' fun o e => kp2 _ _ (Ne.symm Ld) e
  have hx2 := kp2 _ _ dxx hx1
  -- S, T = Whitespace.S, Whitespace.T
  refine st_unpack2S (s := ⟨h2, g, d, t2, os⟩) (F := fun v1 v2 n' => StrV (S [32]) n' v1 ∧ StrV (S [9]) n' v2) (hA2 _) X2 N2 (.head _) ?_ ?_
  · refine Ev.cons (Ev.pair (mono_StrV (S [32])) (mono_StrV (S [9])) (Ev.clsS (Gk X2.keep) (Ev.nameE (NameIs.glo (Gk X2.keep) (by rfl)))) (Ev.clsT (Gk X2.keep) (Ev.nameE (NameIs.glo (Gk X2.keep) (by rfl))))) ?_
    rintro n' v _ ⟨t, v1, v2, e', rfl, hm, f1, f2⟩
    exact ⟨t, v1, v2, e', rfl, hm, f1, f2⟩
  rintro vS vT h3 t3 n3 X3 N3 sb3 ⟨fS, fT⟩ kp3
  -- count = []
  refine st_assignN (s := ⟨h3, g, d, t3, os⟩) (hA2 _) X3 N3 (.head _) (F := IntV) (xs := []) EvN.list0 ?_
  intro D vsD eD h4 t4 n4 X4 N4 sb4 nD hD pD kp4
  cases pD
  have DL : D ≠ L := fun e => nD (by rw [e]; exact .head _)
  have Dd : D ≠ dx := fun e => nD (by rw [e]; exact .tail _ (.head _))
  have Dx : D ≠ x := fun e => nD (by rw [e]; exact .tail _ (.tail _ (.head _)))
  -- b = n = nt = 0
  refine st_assign3 (s := ⟨h4, g, d, t4, os⟩) (hA2 _) X4 N4 (.tail _ (.head _)) (F := IntV 0) Ev.cint ?_
  rintro _ h5 t5 n5 X5 N5 sb5 ⟨t0, rfl⟩ kp5
  have hd5 := kp5 _ _ Ld (kp4 _ _ Ld (kp3 _ _ Ld hd2))
  have hx5 := kp5 _ _ Lx (kp4 _ _ Lx (kp3 _ _ Lx hx2))
  have hD5 := kp5 _ _ DL hD
  have W5 : WI x dx L vS vT (rawEs w.params v t_1) ⟨0, 0, [], 0⟩ D [] eD e2 t0 t0 t0 h5 _ := WI.of N5 hD5 .nil hx5 hd5 (by rfl) (by rfl) (by rfl) (by rfl) (by rfl) (by rfl) (by rfl) DL Dd Dx
  -- for ch in self.raw
  refine st_forW (s := ⟨h5, g, d, t5, os⟩) (F := sgn) (xs := l) (Fi := StrV (S l)) (hA2 _) X5 N5 (.tail _ (.head _)) ?_ (fun n' xv _ hv => by simpa using hands_str hv) mono_sgn
    (fun i ow' H _ M => WsJ w.params l x dx L vS vT v t_1 i H M ow')
    (fun ow' H _ M => WsB w.params l x dx L vS vT v t_1 H M ow') ?_ ?_ ?_ ?_ ?_ ?_
  · refine Ev.Attr (Ev.nameE (NameIs.loc N5 W5.m1)) ?_
    rintro _ n' _ rfl
    exact Ev.cons (getOwn (Gk X5.keep) W5.hx W5.hd (by rfl) (by rfl) (by obtain ⟨_, rfl⟩ := hv; rfl)) fun _ v' _ e => by cases e; exact hv
  · rintro i ow' H H' N M ⟨W, D, vs, e, e1, tb, tn, tt, I, r1, r2, r3, r4⟩ hk
    refine ⟨W, D, vs, e, e1, tb, tn, tt, { I with hD := ?_, hx := ?_, hd := ?_ }, r1, r2, r3, r4⟩
    · rw [hk D (.head _) I.nL]; exact I.hD
    · rw [hk x (.tail _ (.tail _ (.tail _ (.head _)))) Lx]; exact I.hx
    · rw [hk dx (.tail _ (.tail _ (.head _))) Ld]; exact I.hd
  · rintro i ow' H N M cv ⟨W, D, vs, e, e1, tb, tn, tt, I, r1, r2, r3, r4⟩
    exact ⟨W, D, vs, e, e1, tb, tn, tt, { I with m1 := at_ne I.m1, m2 := at_ne I.m2, m3 := at_ne I.m3, m4 := at_ne I.m4, m5 := at_ne I.m5, m6 := at_ne I.m6, m7 := at_ne I.m7 }, r1, r2, r3, r4⟩
  · intro h' n' le _
    exact ⟨_, D, [], eD, e2, t0, t0, t0, W5.keep le, rfl, by decide, by decide, by decide⟩
  · rintro i sg cv H N M tk B₂ n₂ ow' ha X6 hL6 leB ns ⟨W, D, vs, e, e1, tb, tn, tt, I, go, b0, b1, c1⟩ fg sb6
    rw [drop_cons ha] at go
    have il : i < l.length := (List.getElem?_eq_some_iff.mp ha).1
    have Gt := Gk leB
    refine st_if (s := ⟨H, g, d, tk, os⟩) (hA2 _) X6 (c := decide (sg = 32)) (Ev.CmpT (Ev.name (NameIs.loc ns at_same) (mono_sgn _) fg) (Ev.name (NameIs.loc ns I.m2) (mono_StrV _) fS) (mono_sgn _) fun _ _ _ _ x y => op_sgn x y) ?_ ?_
    · intro hc h7 t7 n7 X7 sb7 le7
      have hc' : sg = 32 := by simpa using hc
      have ns7 := ns.keeps le7
      have I7 := I.keep le7
      refine st_assignI (s := ⟨h7, g, d, t7, os⟩) (hA2 _) X7 ns7 (.tail _ (.head _)) (i := (W.n + 1)) (Ev.addI (Ev.name (NameIs.loc ns7 I7.m6) (mono_IntV _) ⟨_, rfl⟩) Ev.cint) ?_
      intro u8 h8 t8 n8 X8 N8 sb8 kp8
      refine st_assignI (s := ⟨h8, g, d, t8, os⟩) (hA2 _) X8 N8 (.tail _ (.head _)) (i := (W.b + 1)) (Ev.addI (Ev.name (NameIs.loc N8 (at_ne I7.m5)) (mono_IntV _) ⟨_, rfl⟩) Ev.cint) ?_
      intro u9 h9 t9 n9 X9 N9 sb9 kp9
      have I9 : WI x dx L vS vT (rawEs w.params v t_1) ⟨W.n + 1, W.nt, W.cnt, W.b + 1⟩ D vs e e1 u9 u8 tt h9 _ := WI.of N9 (kp9 _ _ I.nL (kp8 _ _ I.nL I7.hD)) I.iv (kp9 _ _ Lx (kp8 _ _ Lx I7.hx)) (kp9 _ _ Ld (kp8 _ _ Ld I7.hd)) I.m1 I.m2 I.m3 I.m4 rfl rfl I.m7 I.nL I.nd I.nx
      refine wpAny_execs_nil (wpAny_execs_nil ⟨h9, t9, n9, _, [D, L, dx, x], rfl, X9, .tail _ (.head _), N9, _, D, vs, e, e1, u9, u8, tt, I9, ?_, ?_, ?_, ?_⟩)
      · rw [← go, wsGo, if_pos hc']
      · show (0 : Int) ≤ W.b + 1; grind
      · show W.b + 1 ≤ ((i + 1 : Nat) : Int); grind
      · show W.cnt.length ≤ _; exact Nat.le_succ_of_le (by assumption)
    · intro hc h7 t7 n7 X7 sb7 le7
      have hc' : ¬ sg = 32 := by simpa using hc
      have ns7 := ns.keeps le7
      have I7 := I.keep le7
      refine st_if (s := ⟨h7, g, d, t7, os⟩) (hA2 _) X7 (c := decide (sg = 9)) (Ev.CmpT (Ev.name (NameIs.loc ns7 at_same) (mono_sgn _) fg) (Ev.name (NameIs.loc ns7 I7.m3) (mono_StrV _) fT) (mono_sgn _) fun _ _ _ _ x y => op_sgn x y) ?_ ?_
      · intro hd h8 t8 n8 X8 sb8 le8
        have hd' : sg = 9 := by simpa using hd
        have ns8 := ns7.keeps le8
        have I8 := I7.keep le8
        refine st_assignI (s := ⟨h8, g, d, t8, os⟩) (hA2 _) X8 ns8 (.tail _ (.head _)) (i := (W.n + 1)) (Ev.addI (Ev.name (NameIs.loc ns8 I8.m6) (mono_IntV _) ⟨_, rfl⟩) Ev.cint) ?_
        intro u9 h9 t9 n9 X9 N9 sb9 kp9
        refine st_assignI (s := ⟨h9, g, d, t9, os⟩) (hA2 _) X9 N9 (.tail _ (.head _)) (i := (W.nt + 1)) (Ev.addI (Ev.name (NameIs.loc N9 (at_ne I8.m7)) (mono_IntV _) ⟨_, rfl⟩) Ev.cint) ?_
        intro u10 h10 t10 n10 X10 N10 sb10 kp10
        have I10 : WI x dx L vS vT (rawEs w.params v t_1) ⟨W.n + 1, W.nt + 1, W.cnt, W.b⟩ D vs e e1 tb u9 u10 h10 _ := WI.of N10 (kp10 _ _ I.nL (kp9 _ _ I.nL I8.hD)) I.iv (kp10 _ _ Lx (kp9 _ _ Lx I8.hx)) (kp10 _ _ Ld (kp9 _ _ Ld I8.hd)) I.m1 I.m2 I.m3 I.m4 I.m5 rfl rfl I.nL I.nd I.nx
        have nLb : ∀ {b : Addr} {o : Obj}, hh.get? b = some o → b ≠ L := fun e q => by rw [q, X.fresh L (.head _)] at e; cases e
        have le10 : Le hh h10 := fun b o e => kp10 b o (nLb e) (kp9 b o (nLb e) (le8 _ _ (le7 _ _ (leB _ _ e))))
        have G10 := Gk le10
        refine st_ifJ (s := ⟨h10, g, d, t10, os⟩) (WsP w.params B₂ hh n₂ n5 x dx L vS vT v t_1 W tb u9 u10) (hA2 _) X10 (c := decide ((W.cnt.length : Int) ≤ W.b)) ?_ ?_ ?_ ?_
        · refine Ev.temp (a := D) (o := lst vs e) ?_ (fun _ _ _ e => e) I10.hD
          refine Ev.CmpT (Ev.name (NameIs.loc N10 I10.m5) (mono_IntV _) ⟨_, rfl⟩) (callBui (Ev.nameE (nmLen G10 (by rfl))) (Ev.argsS (mono_ListV mono_IntV W.cnt) (Ev.name (NameIs.loc N10 I10.m4) (mono_ListV mono_IntV _) ⟨D, vs, e, rfl, .head _, of_intsAre I10.iv⟩) Ev.args0) ?_) (mono_IntV _) fun _ _ _ _ x y => op_geI x y
          refine arg1 fun v n' _ hv => ?_
          exact op_lenL hv (by grind)
        · intro hb h11 t11 n11 X11 sb11 le11
          have hb' : (W.cnt.length : Int) ≤ W.b := by simpa using hb
          have N11 := N10.keeps le11
          have I11 := I10.keep le11
          have G11 := G10.keeps le11
          refine st_assignN (s := ⟨h11, g, d, t11, os⟩) (hA2 _) X11 N11 (.tail _ (.head _)) (F := IntV) (xs := W.cnt ++ List.replicate (W.b - W.cnt.length + 1).toNat 0) ?_ ?_
          · refine EvN.temp (a := D) (o := lst vs e) ?_ I11.hD
            refine EvN.addL mono_IntV (by simp; grind) (Ev.name (NameIs.loc N11 I11.m4) (mono_ListV mono_IntV _) ⟨D, vs, e, rfl, .head _, of_intsAre I11.iv⟩) (Ev.rep1 (a := 0) (by grind) (by grind) (Ev.listN mono_IntV (by decide) (Ev.argsS (mono_IntV 0) Ev.cint Ev.args0)) (Ev.addI (Ev.subI (Ev.name (NameIs.loc N11 I11.m5) (mono_IntV _) ⟨_, rfl⟩) ?_) Ev.cint))
            refine callBui (Ev.nameE (nmLen G11 (by rfl))) (Ev.argsS (mono_ListV mono_IntV W.cnt) (Ev.name (NameIs.loc N11 I11.m4) (mono_ListV mono_IntV _) ⟨D, vs, e, rfl, .head _, of_intsAre I11.iv⟩) Ev.args0) ?_
            refine arg1 fun v n' _ hv => ?_
            exact op_lenL hv (by grind)
          · intro D' vs' e' h12 t12 n12 X12 N12 sb12 nD' hD' pD' kp12
            have q1 : D' ≠ L := fun e => nD' (by rw [e]; exact .tail _ (.head _))
            have q2 : D' ≠ dx := fun e => nD' (by rw [e]; exact .tail _ (.tail _ (.head _)))
            have q3 : D' ≠ x := fun e => nD' (by rw [e]; exact .tail _ (.tail _ (.tail _ (.head _))))
            have ep : W.cnt ++ List.replicate (W.b - W.cnt.length + 1).toNat 0 = padTo W.cnt W.b.toNat := by
              unfold padTo
              rw [if_pos (by grind), show (W.b - W.cnt.length + 1).toNat = W.b.toNat - W.cnt.length + 1 by grind]
            rw [ep] at pD'
            refine wpAny_execs_nil ⟨rfl, h12, t12, n12, rfl, D', vs', e', _, X12.less (allC (.head _) (allC (.tail _ (.tail _ (.head _))) (allC (.tail _ (.tail _ (.tail _ (.head _)))) (all1 (.tail _ (.tail _ (.tail _ (.tail _ (.head _))))))))), N12, fun b o e => kp12 b o (nLb e) (le11 _ _ (le10 _ _ e)), (sb6.trans (sb7.trans (sb8.trans (sb9.trans (sb10.trans (sb11.trans sb12)))))), e1, WI.of N12 hD' (intsAre_of pD') (kp12 _ _ Lx I11.hx) (kp12 _ _ Ld I11.hd) I11.m1 I11.m2 I11.m3 rfl I11.m5 I11.m6 I11.m7 q1 q2 q3⟩
        · intro hb h11 t11 n11 X11 sb11 le11
          have hb' : ¬ (W.cnt.length : Int) ≤ W.b := by simpa using hb
          have ep : W.cnt = padTo W.cnt W.b.toNat := by unfold padTo; rw [if_neg (by grind)]
          have I11 := I10.keep le11
          refine wpAny_execs_nil ⟨rfl, h11, t11, n11, rfl, D, vs, e, _, X11, N10.keeps le11, fun b o e => le11 _ _ (le10 _ _ e), (sb6.trans (sb7.trans (sb8.trans (sb9.trans (sb10.trans sb11))))), e1, ?_⟩
          rw [← ep]; exact I11
        · rintro h12 t12 n12 ⟨D, vs, e, M, X12, N12, le12, sb12, e1, I12⟩
          have pl := padTo_len W.cnt W.b.toNat
          have pm := padTo_le W.cnt W.b.toNat
          have lv : vs.length = (padTo W.cnt W.b.toNat).length := I12.iv.length
          refine st_setitem (s := ⟨h12, g, d, t12, os⟩) (i := W.b) (F := IntV ((padTo W.cnt W.b.toNat).getD W.b.toNat 0 + 1)) (hA2 _) X12 (.head _) I12.hD b0 (by grind) (by rw [lv]; grind) (NameIs.loc N12 I12.m4) ?_ (fun h' n' le _ => Ev.name (NameIs.loc (N12.keeps le) I12.m5) (mono_IntV _) ⟨_, rfl⟩) ?_
          · refine Ev.temp (a := D) (o := lst vs e) ?_ (fun _ _ _ e => e) I12.hD
            refine Ev.addI (Ev.item (F := IntV) (xs := padTo W.cnt W.b.toNat) (i := W.b) mono_IntV b0 (by grind) ?_ (Ev.name (NameIs.loc N12 I12.m4) (mono_ListV mono_IntV _) ⟨D, vs, e, rfl, .head _, of_intsAre I12.iv⟩) (Ev.name (NameIs.loc N12 I12.m5) (mono_IntV _) ⟨_, rfl⟩)) Ev.cint
            rw [List.getD_eq_getElem?_getD, List.getElem?_eq_getElem pl]; rfl
          · rintro _ h13 t13 n13 n14 e13 X13 sb13 sb14 ⟨u13, rfl⟩ hD13 kp13
            have N13 := N12.at' fun o e => kp13 _ _ (Ne.symm I12.nL) e
            refine st_assignI (s := ⟨h13, g, d, t13, os⟩) (hA2 _) X13 N13 (.tail _ (.head _)) (i := 0) Ev.cint ?_
            intro u15 h15 t15 n15 X15 N15 sb15 kp15
            have I15 : WI x dx L vS vT (rawEs w.params v t_1) ⟨W.n + 1, W.nt + 1, bump W.cnt W.b.toNat, 0⟩ D _ e13 e1 u15 u9 u10 h15 _ := WI.of N15 (kp15 _ _ I12.nL hD13) (intsAre_set I12.iv _ _ _) (kp15 _ _ Lx (kp13 _ _ (Ne.symm I12.nx) I12.hx)) (kp15 _ _ Ld (kp13 _ _ (Ne.symm I12.nd) I12.hd)) I12.m1 I12.m2 I12.m3 I12.m4 rfl I12.m6 I12.m7 I12.nL I12.nd I12.nx
            refine wpAny_execs_nil (wpAny_execs_nil (wpAny_execs_nil ⟨h15, t15, n15, _, [D, L, dx, x], rfl, X15, .tail _ (.head _), N15, _, D, _, e13, e1, u15, u9, u10, I15, ?_, ?_, ?_, ?_⟩))
            · rw [← go, wsGo, if_neg hc', if_pos hd']
            · show (0 : Int) ≤ 0; decide
            · show (0 : Int) ≤ ((i + 1 : Nat) : Int); grind
            · show (bump W.cnt W.b.toNat).length ≤ _; rw [bump_len]; grind
      · intro hd h8 t8 n8 X8 sb8 le8
        have hd' : ¬ sg = 9 := by simpa using hd
        have e : W = wsOf l := by rw [← go, wsGo, if_neg hc', if_neg hd']
        subst e
        exact st_break ⟨h8, t8, n8, _, [D, L, dx, x], rfl, X8, .tail _ (.head _), ns7.keeps le8, D, vs, e, e1, tb, tn, tt, I7.keep le8, b0, by grind, by grind⟩
  · rintro ow' H N M ⟨W, D, vs, e, e1, tb, tn, tt, I, go, b0, b1, c1⟩
    rw [List.drop_length] at go
    have : W = wsOf l := go
    subst this
    exact ⟨D, vs, e, e1, tb, tn, tt, I, b0, by grind, by grind⟩
  · rintro H N M tk ow' X6 hL6 ns ⟨D, vs, e, e1, tb, tn, tt, I, b0, b1, c1⟩ sb6
    have X7 : Fx hh n₁ [L, dx, x] H ((D, lst vs e) :: N) := X6.freeze (.head _) I.hD (allC ⟨.tail _ (.head _), Ne.symm I.nL⟩ (allC ⟨.tail _ (.tail _ (.head _)), Ne.symm I.nd⟩ (all1 ⟨.tail _ (.tail _ (.tail _ (.head _))), Ne.symm I.nx⟩)))
    have fD : ListV IntV (wsOf l).cnt ((D, lst vs e) :: N) (.ref D) := ⟨D, vs, e, rfl, .head _, of_intsAre I.iv⟩
    refine st_attr (s := ⟨H, g, d, tk, os⟩) (F := IntV (wsOf l).n) (x := x) (dx := dx) (es := [⟨PyData.keyHash w.params (Str.ofString "raw"), .str (Str.ofString "raw") t_1, v⟩]) (hA2 _) X7 (Gk X7.keep) (.tail _ (.head _)) I.hx I.hd (NameIs.loc ns I.m1) (Ev.name (NameIs.loc ns I.m6) (mono_IntV _) ⟨_, rfl⟩) (by rfl) (by rfl) (Nat.le_of_ble_eq_true (by rfl)) ?_
    intro v8 h8 t8 n8 ta e8 X8 sb8 f8 hd8 kp8
    have ns8 := ns.at' fun o e => kp8 _ _ (Ne.symm Ld) e
    have hx8 := kp8 _ _ dxx I.hx
    refine st_attr (s := ⟨h8, g, d, t8, os⟩) (F := IntV (wsOf l).nt) (x := x) (dx := dx) (hA2 _) X8 (Gk X8.keep) (.tail _ (.head _)) hx8 hd8 (NameIs.loc ns8 I.m1) (Ev.name (NameIs.loc ns8 I.m7) (mono_IntV _) ⟨_, rfl⟩) (by rfl) (by rfl) (Nat.le_of_ble_eq_true (by rfl)) ?_
    intro v9 h9 t9 n9 tb' e9 X9 sb9 f9 hd9 kp9
    have ns9 := ns8.at' fun o e => kp9 _ _ (Ne.symm Ld) e
    have hx9 := kp9 _ _ dxx hx8
    refine st_attr (s := ⟨h9, g, d, t9, os⟩) (F := NormV (wsOf l).cnt (wsOf l).b) (x := x) (dx := dx) (hA2 _) X9 (Gk X9.keep) (.tail _ (.head _)) hx9 hd9 (NameIs.loc ns9 I.m1) ?_ (by rfl) (by rfl) (Nat.le_of_ble_eq_true (by rfl)) ?_
    · refine Ev.pair (mono_TupV mono_IntV (wsOf l).cnt) (mono_IntV (wsOf l).b) ?_ (Ev.name (NameIs.loc ns9 I.m5) (mono_IntV _) ⟨_, rfl⟩)
      refine callTyp (Ev.nameE (nmTuple (Gk X9.keep) (by rfl))) (Ev.argsS (mono_ListV mono_IntV (wsOf l).cnt) (Ev.name (NameIs.loc ns9 I.m4) (mono_ListV mono_IntV _) (mono_ListV mono_IntV _ _ _ _ (sb8.trans sb9) fD)) Ev.args0) ?_
      refine arg1 fun v n' _ hv => ?_
      exact op_tupL mono_IntV hv (by grind)
    intro v10 h10 t10 n10 tc e10 X10 sb10 f10 hd10 kp10
    have ns10 := ns9.at' fun o e => kp10 _ _ (Ne.symm Ld) e
    have hx10 := kp10 _ _ dxx hx9
    refine st_attr (s := ⟨h10, g, d, t10, os⟩) (F := BoolV (decide ((wsOf l).cnt.length ≤ 1))) (x := x) (dx := dx) (hA2 _) X10 (Gk X10.keep) (.tail _ (.head _)) hx10 hd10 (NameIs.loc ns10 I.m1) ?_ (by rfl) (by rfl) (Nat.le_of_ble_eq_true (by rfl)) ?_
    · have e1 : decide ((wsOf l).cnt.length ≤ 1) = decide (((wsOf l).cnt.length : Int) ≤ 1) := by rw [decide_eq_decide]; grind
      rw [e1]
      refine Ev.Cmp (F1 := IntV (wsOf l).cnt.length) (callBui (Ev.nameE (nmLen (Gk X10.keep) (by rfl))) (Ev.argsS (mono_ListV mono_IntV (wsOf l).cnt) (Ev.name (NameIs.loc ns10 I.m4) (mono_ListV mono_IntV _) (mono_ListV mono_IntV _ _ _ _ ((sb8.trans sb9).trans sb10) fD)) Ev.args0) ?_) Ev.cint (mono_IntV _) fun _ _ _ _ x y => op_leI x y
      refine arg1 fun v n' _ hv => ?_
      exact op_lenL hv (by grind)
    intro v11 h11 t11 n11 td e11 X11 sb11 f11 hd11 kp11
    have hx11 := kp11 _ _ dxx hx10
    have X12 : Fx hh n₁ [L, x] h11 _ := X11.freeze (.tail _ (.head _)) hd11 (allC ⟨.head _, Ne.symm Ld⟩ (all1 ⟨.tail _ (.tail _ (.head _)), dxx⟩))
    have X13 : Fx hh n₁ [L] h11 _ := X12.freeze (.tail _ (.head _)) hx11 (all1 ⟨.head _, Ne.symm Lx⟩)
    refine wpAny_execs_nil ⟨rfl, h11, t11, _, rfl, X13.done, ?_⟩
    refine ⟨x, dx, _, t_1, ta, tb', tc, td, v, v8, v9, v10, v11, rfl, .head _, .tail _ (.head _), f8, f9, ?_, f11⟩
    exact mono_NormV _ _ _ _ _ (sb11.trans ((Sub.cons _ _).trans (Sub.cons _ _))) f10
end
end Mine
end
section
open PySem PySem.W PyProof.Rows PySem.Calls
set_option Elab.async false
set_option autoImplicit false
set_option maxRecDepth 100000
namespace Mine
def goodC (ss : List (List Int)) (c : Int) : Bool := ss.all fun s => !(s.tail.any (· == c))
def candF (ss : List (List Int)) : Option Int := (ss.map (·.headD 0)).find? (goodC ss)
def popS (c : Int) (s : List Int) : List Int := if s.headD 0 == c then s.tail else s
def neS (ss : List (List Int)) : List (List Int) := ss.filter fun s => !s.isEmpty
def mergeGo : Nat → List (List Int) → List Int → Option (List Int)
  | 0, _, _ => none
  | f + 1, ss, acc => if neS ss = [] then some acc else match candF (neS ss) with
    | none => none
    | some c => mergeGo f ((neS ss).map (popS c)) (acc ++ [c])
def totalL (ss : List (List Int)) : Nat := (ss.map List.length).sum
def mergeF (ss : List (List Int)) : Option (List Int) := mergeGo (totalL ss + 1) ss []

theorem totalL_neS (ss : List (List Int)) : totalL (neS ss) = totalL ss := by
  induction ss with
  | nil => rfl
  | cons s r ih =>
    unfold neS totalL at *
    cases s with
    | nil => simpa using ih
    | cons a t => simp; simpa using ih
theorem popS_le (c : Int) (s : List Int) : (popS c s).length ≤ s.length := by unfold popS; split <;> simp
theorem totalL_pop_le (c : Int) (ss : List (List Int)) : totalL (ss.map (popS c)) ≤ totalL ss := by
  induction ss with
  | nil => simp [totalL]
  | cons s r ih => unfold totalL at *; simp; have := popS_le c s; simp at ih; grind
theorem totalL_pop_lt {c : Int} {ss : List (List Int)} {s : List Int} (hs : s ∈ ss) (hne : s ≠ []) (hc : s.headD 0 = c) : totalL (ss.map (popS c)) < totalL ss := by
  induction ss with
  | nil => cases hs
  | cons t r ih =>
    have hle := totalL_pop_le c r
    rcases List.mem_cons.mp hs with rfl | hs
    · unfold totalL at *
      cases s with
      | nil => exact absurd rfl hne
      | cons a u =>
        have : popS c (a :: u) = u := by unfold popS; rw [if_pos (by simpa using hc)]; rfl
        simp [this]; simp at hle; grind
    · have h1 := ih hs
      have h2 := popS_le c t
      unfold totalL at *
      simp; simp at h1; grind
theorem len_le_total {ss : List (List Int)} {s : List Int} (hs : s ∈ ss) : s.length ≤ totalL ss := by
  induction ss with
  | nil => cases hs
  | cons t r ih =>
    unfold totalL at *
    rcases List.mem_cons.mp hs with rfl | hs
    · simp
    · have := ih hs; simp only [List.map_cons, List.sum_cons]; grind
theorem find_first {l : List Int} {p : Int → Bool} {i : Nat} {a : Int} (hi : l[i]? = some a) (ha : p a = true) (hb : ∀ (j : Nat) b, j < i → l[j]? = some b → p b = false) : l.find? p = some a := by
  induction l generalizing i with
  | nil => simp at hi
  | cons x r ih =>
    cases i with
    | zero => simp at hi; subst hi; simp [ha]
    | succ i =>
      have h0 : p x = false := hb 0 x (Nat.succ_pos _) rfl
      rw [List.find?_cons, h0]
      exact ih (by simpa using hi) fun j b hj hjb => hb (j + 1) b (by exact Nat.succ_le_succ (by assumption)) (by simpa using hjb)
theorem find_none {l : List Int} {p : Int → Bool} (hb : ∀ (j : Nat) b, l[j]? = some b → p b = false) : l.find? p = none := by
  rw [List.find?_eq_none]
  intro x hx
  obtain ⟨j, hj⟩ := List.mem_iff_getElem?.mp hx
  rw [hb j x hj]; decide

section
variable {prog : Program} {w : World} {mg mb : Str → Option Value} {k : Nat} {h : Heap} {n : GL} {env : Env}
theorem Ev.truthA {e : Expr} {a : Addr} {vs : List Value} {e0 : Nat} (x : Ev prog w k h n (eval e env) (EqV (.ref a))) (ha : h.get? a = some (lst vs e0)) (hsz : vs.length ≤ 1000000) (he : isTrue e env (eval e env) = (do let v ← eval e env; standAt e.pos; holding [v] (truthy v)) := by rfl) :
    Ev prog w k h n (isTrue e env (eval e env)) (fun _ b => b = !vs.isEmpty) := by
  intro A s n₁ Q E hA l sb ok q
  refine wpAny_isTrue_value (x A s n₁ _ E hA l sb ok fun v h1 t1 n1 g1 f1 => ?_) he
  cases f1
  refine wpAny_truthy_list (items := vs.toArray) ⟨_, g1.keep _ _ (l _ _ ha), rfl, _, rfl⟩ (by simp; grind) ?_
  rw [List.isEmpty_toArray]
  exact q _ h1 _ n1 g1 rfl
theorem Ev.truthL {α : Type} {F : α → VP} {xs : List α} {e : Expr} (x : Ev prog w k h n (eval e env) (ListV F xs)) (hsz : xs.length ≤ 1000000) (he : isTrue e env (eval e env) = (do let v ← eval e env; standAt e.pos; holding [v] (truthy v)) := by rfl) :
    Ev prog w k h n (isTrue e env (eval e env)) (fun _ b => b = !xs.isEmpty) := by
  intro A s n₁ Q E hA l sb ok q
  refine wpAny_isTrue_value (x A s n₁ _ E hA l sb ok fun v h1 t1 n1 g1 f1 => ?_) he
  obtain ⟨a, vs, rfl, hp, hl, hL⟩ := f1.isList
  refine wpAny_truthy_list (hL _ g1.at_) (by simp; grind) ?_
  have e1 : vs.isEmpty = xs.isEmpty := by cases hp <;> rfl
  rw [List.isEmpty_toArray, e1]
  exact q _ h1 _ n1 g1 rfl
theorem Ev.not1 {x : Expr} {pos : Pos} {whole : Sem Value} {c : Bool} (y : Ev prog w k h n (isTrue x env (eval x env)) (fun _ b => b = c)) : Ev prog w k h n (isTrue (.UnaryOp .Not x pos) env whole) (fun _ b => b = !c) :=
  fun A s n₁ Q E hA l sb ok q => wpAny_isTrue_Not (y A s n₁ _ E hA l sb ok fun b h1 t1 n1 g1 f1 => q _ h1 t1 n1 g1 (by rw [f1]))
theorem Ev.cnone {c : Nat} {pos : Pos} : Ev prog w k h n (eval (.Constant .none c pos) env) NoneV := Ev.read (P := NoneV) (v := Value.none) (fun _ s _ _ _ _ _ q => wpAny_Constant_none (q s.toks)) fun n' _ => show NoneV n' .none from rfl
theorem op_isNone {u v : Value} {a : Value} {n : GL} (x : EqV a n u) (y : NoneV n v) : Ev prog w k h n (compareOp .Is u v) (BoolV (a == .none)) := by
  have e1 : u = a := x
  have e2 : v = .none := y
  subst e1 e2
  exact Ev.read (v := Value.bool (u == Value.none)) (fun _ s _ _ _ _ _ q => PyProof.Rows.is_none_gen (q s.toks)) fun _ _ => rfl
def PV (p : Addr × List Int) : VP := EqV (.ref p.1)
theorem mono_PV (p : Addr × List Int) : Mono (PV p) := mono_EqV _
end
section
variable {prog : Program} {w : World} {A : Around} {E : Value → Shared → Prop} {s : Shared} {k : Nat} {env : Env} {B : Heap} {n₀ n : GL} {ow : List Addr} {rest : List Stmt} {Q : Flow → Shared → Prop}
/-- «del o[0]» -/
theorem st_del0 {o : Str} {po pp pos' pos : Pos} {c : Nat} {D : Addr} {v0 : Value} {vs : List Value} {e0 : Nat} (hA : Aok k A) (X : Fx B n₀ ow s.heap n) (hD : D ∈ ow) (hd : s.heap.get? D = some (lst (v0 :: vs) e0)) (hsz : vs.length ≤ 100000)
    (nm : NameIs prog w env s.heap o (.ref D))
    (next : ∀ h' tk e', Fx B n₀ ow h' n → h'.get? D = some (lst vs e') → (∀ b o, b ≠ D → s.heap.get? b = some o → h'.get? b = some o) → wpAny (model prog w) A (execs rest env) Q E { s with heap := h', toks := tk }) :
    wpAny (model prog w) A (execs (.Delete [.Subscript (.Name o po) (.Constant (.int 0) c pp) pos'] pos :: rest) env) Q E s := by
  refine wpAny_execs_cons (wpAny_Delete (wpAny_deleteEach_cons (wpAny_delete_Subscript ?_)))
  refine nm po A _ E s (fun _ _ e => e) (wpAny_Constant_int ?_)
  refine delItem_at (s := { s with toks := s.toks + 1 }) (its := (v0 :: vs).toArray) hd (by decide) (k := 0) (by simp [seqIndex?]) (fun h' sm hd' => wpAny_deleteEach_nil ?_) (by rw [sizeLine_eq]; simp; exact Nat.le_trans (by assumption) (by decide))
  exact next h' _ _ (X.upd hD sm ⟨_, hd'⟩) hd' fun b o hb e => sm.extBut b o hb e
end
end Mine
end
section
open PySem PySem.W PyProof.Rows PySem.Calls
set_option Elab.async false
set_option autoImplicit false
set_option maxRecDepth 100000
namespace Mine
theorem isEmpty_of_len {α β : Type} {l : List α} {r : List β} (h : l.length = r.length) : l.isEmpty = r.isEmpty := by cases l <;> cases r <;> simp_all
theorem nodup_idx {α : Type} {l : List α} (h : l.Nodup) {i j : Nat} {a : α} (hi : l[i]? = some a) (hj : l[j]? = some a) : i = j := by
  induction l generalizing i j with
  | nil => simp at hi
  | cons x r ih =>
    rw [List.nodup_cons] at h
    cases i with
    | zero =>
      cases j with
      | zero => rfl
      | succ j => simp at hi hj; subst hi; exact absurd (List.mem_of_getElem? hj) h.1
    | succ i =>
      cases j with
      | zero => simp at hi hj; subst hj; exact absurd (List.mem_of_getElem? hi) h.1
      | succ j => exact congrArg Nat.succ (ih h.2 (i := i) (j := j) (by simpa using hi) (by simpa using hj))
theorem paired_map {α γ β : Type} {F : α → β → Prop} {G : γ → β → Prop} {f : α → γ} (h : ∀ x v, F x v → G (f x) v) : ∀ {l : List α} {r : List β}, Paired F l r → Paired G (l.map f) r
  | _, _, .nil => .nil
  | _, _, .cons a t => .cons (h _ _ a) (paired_map h t)
structure MI (addrs : List Addr) (O : Addr) (ps : List (Addr × List Int)) (acc : List Int) (H : Heap) (N : GL) (M : Str → Option Value) : Prop where
  q : ∃ v, M "sequences" = some v ∧ ListV PV ps N v
  ats : ∀ p, p ∈ ps → ∃ vs e, H.get? p.1 = some (lst vs e) ∧ IntsAre vs p.2
  nd : (ps.map (·.1)).Nodup
  sub : ∀ p, p ∈ ps → p.1 ∈ addrs
  res : ∃ vs e, H.get? O = some (lst vs e) ∧ IntsAre vs acc
  mr : M "result" = some (.ref O)
namespace MI
variable {addrs : List Addr} {O : Addr} {ps : List (Addr × List Int)} {acc : List Int} {H H' : Heap} {N N' : GL} {M M' : Str → Option Value}
theorem mono (I : MI addrs O ps acc H N M) (hO : ∀ o, H.get? O = some o → H'.get? O = some o) (hp : ∀ a, a ∈ addrs → ∀ o, H.get? a = some o → H'.get? a = some o) (sb : Sub N N') (m1 : M' "sequences" = M "sequences") (m2 : M' "result" = M "result") : MI addrs O ps acc H' N' M' where
  q := let ⟨v, a, b⟩ := I.q; ⟨v, m1.trans a, mono_ListV mono_PV _ _ _ _ sb b⟩
  ats := fun p h => let ⟨vs, e, a, b⟩ := I.ats p h; ⟨vs, e, hp _ (I.sub p h) _ a, b⟩
  nd := I.nd
  sub := I.sub
  res := let ⟨vs, e, a, b⟩ := I.res; ⟨vs, e, hO _ a, b⟩
  mr := m2.trans I.mr
theorem le (I : MI addrs O ps acc H N M) (l : Le H H') (sb : Sub N N') : MI addrs O ps acc H' N' M := I.mono (fun _ e => l _ _ e) (fun _ _ _ e => l _ _ e) sb rfl rfl
end MI
theorem MI.same {addrs : List Addr} {O L : Addr} {ps : List (Addr × List Int)} {acc : List Int} {H H' : Heap} {N : GL} {M : Str → Option Value} (I : MI addrs O ps acc H N M) (hOL : O ≠ L) (hLa : L ∉ addrs) (hk : ∀ a, a ∈ O :: L :: addrs → a ≠ L → H'.get? a = H.get? a) : MI addrs O ps acc H' N M :=
  I.mono (fun o e => by rw [hk O (.head _) hOL]; exact e) (fun a ha o e => by rw [hk a (.tail _ (.tail _ ha)) (fun q => hLa (q ▸ ha))]; exact e) (Sub.refl _) rfl rfl
inductive C3J (addrs : List Addr) (O : Addr) (ps₀ : List (Addr × List Int)) (j : Nat) (H : Heap) (N : GL) (M : Str → Option Value) : Prop
  | mk (ps : List (Addr × List Int)) (acc : List Int) : MI addrs O ps acc H N M → mergeGo j (ps.map (·.2)) acc = mergeF (ps₀.map (·.2)) → totalL (ps.map (·.2)) < j → acc.length + totalL (ps.map (·.2)) ≤ 10000 → ps.length ≤ 1000 → C3J addrs O ps₀ j H N M
def C3F1 (addrs : List Addr) (O : Addr) (ps' : List (Addr × List Int)) (acc : List Int) (i : Nat) (H : Heap) (N : GL) (M : Str → Option Value) : Prop := MI addrs O ps' acc H N M ∧ (∀ i' p, i' < i → ps'[i']? = some p → goodC (ps'.map (·.2)) (p.2.headD 0) = false) ∧ (0 < i → M "candidate" = some .none)
def C3B1 (addrs : List Addr) (O : Addr) (ps' : List (Addr × List Int)) (acc : List Int) (H : Heap) (N : GL) (M : Str → Option Value) : Prop := MI addrs O ps' acc H N M ∧ ∃ v, M "candidate" = some v ∧ match candF (ps'.map (·.2)) with | none => v = .none | some c => ∃ t, v = .int c t
def C3F2 (addrs : List Addr) (O : Addr) (ps' : List (Addr × List Int)) (acc : List Int) (p : Addr × List Int) (tc : Tok) (j : Nat) (H : Heap) (N : GL) (M : Str → Option Value) : Prop := MI addrs O ps' acc H N M ∧ M "candidate" = some (.int (p.2.headD 0) tc) ∧ ∀ j' p', j' < j → ps'[j']? = some p' → (p'.2.tail.any (· == p.2.headD 0)) = false
def C3B2 (addrs : List Addr) (O : Addr) (ps' : List (Addr × List Int)) (acc : List Int) (p : Addr × List Int) (H : Heap) (N : GL) (M : Str → Option Value) : Prop := MI addrs O ps' acc H N M ∧ M "candidate" = some .none ∧ goodC (ps'.map (·.2)) (p.2.headD 0) = false
inductive C3F3 (ps' : List (Addr × List Int)) (sv6 : Value) (O : Addr) (c : Int) (tc : Tok) (vsR : List Value) (tv : Tok) (e7 : Nat) (i : Nat) (H : Heap) (N : GL) (M : Str → Option Value) : Prop
  | mk : M "sequences" = some sv6 → ListV PV ps' N sv6 → M "result" = some (.ref O) → M "candidate" = some (.int c tc) → H.get? O = some (lst (vsR ++ [.int c tv]) e7) →
      (∀ (j : Nat) p, ps'[j]? = some p → ∃ vs e, H.get? p.1 = some (lst vs e) ∧ IntsAre vs (if j < i then popS c p.2 else p.2)) → C3F3 ps' sv6 O c tc vsR tv e7 i H N M
inductive C3B3 (ps' : List (Addr × List Int)) (sv6 : Value) (O : Addr) (c : Int) (vsR : List Value) (tv : Tok) (e7 : Nat) (H : Heap) (N : GL) (M : Str → Option Value) : Prop
  | mk : M "sequences" = some sv6 → ListV PV ps' N sv6 → M "result" = some (.ref O) → H.get? O = some (lst (vsR ++ [.int c tv]) e7) →
      (∀ (j : Nat) p, ps'[j]? = some p → ∃ vs e, H.get? p.1 = some (lst vs e) ∧ IntsAre vs (popS c p.2)) → C3B3 ps' sv6 O c vsR tv e7 H N M
section
variable {prog : Program} {w : World} {mg mb : Str → Option Value} {k : Nat} {s : Shared} {n₁ : GL} {A : Around} {E : Value → Shared → Prop} {Q : Value → Shared → Prop}
theorem c3_call {ps₀ : List (Addr × List Int)} {ov : Value} (hA : Aok (k + 4) A) (G : Gd (KF w) mg mb (hideAll s.heap (ps₀.map (·.1)))) (ok : GOk n₁ s.heap) (ho : ListV PV ps₀ n₁ ov)
    (hps : ∀ p, p ∈ ps₀ → ∃ vs e, s.heap.get? p.1 = some (lst vs e) ∧ IntsAre vs p.2) (nd : (ps₀.map (·.1)).Nodup) (hn : ∀ p, p ∈ n₁ → p.1 ∉ ps₀.map (·.1)) (z1 : ps₀.length ≤ 1000) (z2 : totalL (ps₀.map (·.2)) ≤ 10000)
    (qok : ∀ r, mergeF (ps₀.map (·.2)) = some r → ∀ v h' tk n', Grow (hideAll s.heap (ps₀.map (·.1))) n₁ h' n' → RowV r n' v → Q v { s with heap := h', toks := tk })
    (qno : mergeF (ps₀.map (·.2)) = none → ∃ base outer, A.frames = some outer ∧ base.StaysIn (hideAll s.heap (ps₀.map (·.1))) ∧ (hideAll s.heap (ps₀.map (·.1))).FunFrames base outer ∧
      ∀ e h' tk t, Heap.FlyingW base outer e (.type "RuntimeError") (.ref t) h' → (hideAll s.heap (ps₀.map (·.1))).UpToSlots h' → E (.ref e) { s with heap := h', toks := tk }) :
    wpAny (model prog w) A (call (.ref 35) [ov]) Q E s := by
  generalize hadd : ps₀.map (·.1) = addrs at *
  have G' : Gd (KF w) mg mb s.heap := G.keeps fun _ _ e => of_hideAll _ e
  refine wpAny_call (codeAny_call_def hA.room (G'.K _ _ (by rfl)) rfl G'.nolimit (codeRec_of G'.K (by rfl)) (by rfl) (BindsTo.of_eq (by rfl)) (by decide) (by exact locs rfl) (fun h₀ hns hk0 => ?_))
  have hA1 : ∀ env, Aok (k + 3) (A.deeper env) := fun env => (hA.deep _)
  have X : Fx (hideAll s.heap addrs) n₁ (s.heap.objs.size :: addrs) h₀ n₁ := by
    refine ⟨fun b o e => hk0 _ _ (of_hideAll _ e), Sub.refl _, ok.keep hk0, fun _ e => .inl e, fun p hp a ha => ?_, fun a ha => ?_, fun a ha => ?_⟩
    · rcases List.mem_cons.mp ha with rfl | ha
      · exact Nat.ne_of_lt (Heap.lt_size (ok p hp))
      · intro e; exact hn p hp (e ▸ ha)
    · rcases List.mem_cons.mp ha with rfl | ha
      · obtain ⟨o, _, _, ho, _⟩ := hns; exact ⟨o, ho⟩
      · subst hadd
        obtain ⟨p, hp, rfl⟩ := List.mem_map.mp ha
        obtain ⟨vs, e, h1, _⟩ := hps p hp
        exact ⟨_, hk0 _ _ h1⟩
    · rcases List.mem_cons.mp ha with rfl | ha
      · cases e : (hideAll s.heap addrs).get? s.heap.objs.size with
        | none => rfl
        | some o => have := of_hideAll _ e; rw [new_none] at this; cases this
      · exact hideAll_none _ ha
  have hLa : s.heap.objs.size ∉ addrs := fun hm => by
    subst hadd
    obtain ⟨p, hp, e1⟩ := List.mem_map.mp hm
    obtain ⟨vs, e, h1, _⟩ := hps p hp
    rw [e1, new_none] at h1; cases h1
  refine st_assignN (s := { s with heap := h₀, toks := _ }) (hA1 _) X hns (.head _) (F := IntV) (xs := []) EvN.list0 ?_
  intro O vsO eO h2 t2 n2 X2 N2 sb2 nO hO pO kp2
  cases pO
  have hOL : O ≠ s.heap.objs.size := fun e => nO (by rw [e]; exact .head _)
  have hOa : O ∉ addrs := fun e => nO (.tail _ e)
  refine st_while (s := { s with heap := h2, toks := t2 }) (hA1 _) X2 N2
    (C3J addrs O ps₀)
    (fun _ => true) (totalL (ps₀.map (·.2)) + 1) ?_ ?_ ?_ ?_ ?_
  · refine ⟨ps₀, [], ⟨⟨ov, by rfl, mono_ListV mono_PV _ _ _ _ sb2 ho⟩, fun p hp => ?_, by rw [hadd]; exact nd, fun p hp => by rw [← hadd]; exact List.mem_map_of_mem hp, ⟨[], eO, hO, .nil⟩, by rfl⟩, rfl, Nat.lt_succ_self _, by simp; assumption, z1⟩
    obtain ⟨vs, e, h1, hi⟩ := hps p hp
    exact ⟨vs, e, kp2 _ _ (fun q => hLa (by rw [← hadd, ← show p.1 = s.heap.objs.size from q]; exact List.mem_map_of_mem hp)) (hk0 _ _ h1), hi⟩
  · intro j H N M B₂ n₂ X' _ ns _ _
    exact Ev.testB Ev.cbool
  · rintro j H H' N N' M ⟨ps, acc, I, r1, r2, r3, r4⟩ g
    exact ⟨ps, acc, I.le g.keep g.more, r1, r2, r3, r4⟩
  · rintro j H N M tk - X' ns ⟨ps, acc, I, hgo, hlt, hsz, hl⟩ sb'
    refine wpAny_passesOwn PassesOwn.leaving ?_
    have GH := G.keeps X'.keep
    obtain ⟨qv, mq, fq⟩ := I.q
    have hL1 : ∀ {x y : Addr} {l : List Addr}, y ∈ x :: y :: l := .tail _ (.head _)
    refine st_assignCompL (s := { s with heap := H, toks := tk }) (hA1 _) X' ns (.tail _ (.head _)) (F := PV) (G := PV) (xs := ps) (p := fun p => !p.2.isEmpty) (Fi := ListV PV ps) (Ev.name (NameIs.loc ns mq) (mono_ListV mono_PV _) fq) (fun n' xv _ hv => hands_list hv) mono_PV mono_PV ?_ ?_ (by exact Nat.le_trans (by assumption) (by decide)) ?_
    · intro i a v C H' N' ha le' _ fa nm
      obtain ⟨vs, e, h1, hi⟩ := I.ats a (List.mem_of_getElem? ha)
      have e1 : a.2.isEmpty = vs.isEmpty := isEmpty_of_len hi.length.symm
      have hlen : vs.length ≤ 10000 := by
        have := len_le_total (List.mem_map_of_mem (f := (·.2)) (List.mem_of_getElem? ha))
        rw [hi.length]; grind
      cases fa
      refine Ev.tests1 ?_
      rw [e1]
      exact Ev.truthA (Ev.nameE nm) (le' _ _ h1) (by exact Nat.le_trans (by assumption) (by decide))
    · intro i a v C H' N' ha _ le' _ fa nm
      exact Ev.name nm (mono_PV a) fa
    intro sv h3 t3 n3 X3 N3 sb3 f3 kp3
    generalize hps' : ps.filter (fun p => !p.2.isEmpty) = ps' at f3
    have hss : ps'.map (·.2) = neS (ps.map (·.2)) := by rw [← hps', neS, List.filter_map]; rfl
    have sub' : ∀ p, p ∈ ps' → p ∈ ps := fun p hp => by rw [← hps'] at hp; exact (List.mem_filter.mp hp).1
    have ne' : ∀ p, p ∈ ps' → p.2 ≠ [] := fun p hp => by rw [← hps'] at hp; have := (List.mem_filter.mp hp).2; intro e; rw [e] at this; simp at this
    have nd' : (ps'.map (·.1)).Nodup := by rw [← hps']; exact I.nd.sublist (List.Sublist.map _ List.filter_sublist)
    have tot' : totalL (ps'.map (·.2)) = totalL (ps.map (·.2)) := by rw [hss, totalL_neS]
    have len' : ps'.length ≤ 1000 := by rw [← hps']; exact Nat.le_trans (List.length_filter_le _ _) hl
    have small : ∀ p, p ∈ ps' → p.2.length ≤ 10000 := fun p hp => by
      have := len_le_total (List.mem_map_of_mem (f := (·.2)) hp); grind
    have I3 : MI addrs O ps' acc h3 n3 (fun z => if z = (Str.ofString "sequences") then some sv else M z) := by
      refine ⟨⟨sv, at_same, f3⟩, fun p hp => ?_, nd', fun p hp => I.sub p (sub' p hp), ?_, at_ne I.mr⟩
      · obtain ⟨vs, e, h1, hi⟩ := I.ats p (sub' p hp)
        exact ⟨vs, e, kp3 _ _ (fun q => hLa (by rw [← show p.1 = s.heap.objs.size from q]; exact I.sub p (sub' p hp))) h1, hi⟩
      · obtain ⟨vs, e, h1, hi⟩ := I.res
        exact ⟨vs, e, kp3 _ _ hOL h1, hi⟩
    generalize hM3 : (fun z => if z = (Str.ofString "sequences") then some sv else M z) = M3 at *
    obtain ⟨j, rfl⟩ : ∃ j', j = j' + 1 := ⟨j - 1, by grind⟩
    rw [mergeGo, ← hss] at hgo
    refine st_if (s := { s with heap := h3, toks := t3 }) (hA1 _) X3 (c := !(!ps'.isEmpty)) (Ev.not1 (Ev.truthL (Ev.name (NameIs.loc N3 I3.q.choose_spec.1) (mono_ListV mono_PV _) I3.q.choose_spec.2) (by exact Nat.le_trans (by assumption) (by decide)))) ?_ ?_
    · intro hc h4 t4 n4 X4 sb4 le4
      have hnil : ps' = [] := by simpa using hc
      have hgo' : mergeF (ps₀.map (·.2)) = some acc := by rw [← hgo, hnil]; rfl
      obtain ⟨vs, e, hOv, hi⟩ := (I3.le le4 sb4).res
      have X5 : Fx (hideAll s.heap addrs) n₁ (s.heap.objs.size :: addrs) h4 ((O, lst vs e) :: n4) := X4.freeze (.head _) hOv fun b hb => ⟨.tail _ hb, fun q => by
        rcases List.mem_cons.mp hb with q' | q'
        · exact hOL (q.symm.trans q')
        · exact hOa (q ▸ q')⟩
      refine st_return (s := { s with heap := h4, toks := t4 }) (hA1 _) X5 (F := RowV acc) (Ev.name (NameIs.loc (N3.keeps le4) I3.mr) (mono_RowV _) ⟨O, vs, e, rfl, .head _, of_intsAre hi⟩) ?_
      intro v h' tk' n' X6 _ f _
      exact qok acc hgo' v h' tk' n' X6.done f
    intro hc h4 t4 n4 X4 sb4 le4
    have hne : ps' ≠ [] := by intro e; rw [e] at hc; simp at hc
    rw [if_neg (by simpa using hne)] at hgo
    refine wpAny_execs_nil ?_
    have N4 := N3.keeps le4
    have I4 := I3.le le4 sb4
    have hMr : M3 "result" = some (.ref O) := I3.mr
    have item0 : ∀ {H : Heap} {N : GL} {Mx : Str → Option Value} {env : Env} {x : Str} {px pp pos : Pos} {c : Nat} {p : Addr × List Int} {vs : List Value} {e : Nat}, p ∈ ps' → H.get? p.1 = some (lst vs e) → IntsAre vs p.2 → NameIs prog w env H x (.ref p.1) →
        (∀ Q E A s, wpAny (model prog w) A (eval (.Name x px) env) (fun lv s₁ => wpAny (model prog w) A (eval (.Constant (.int 0) c pp) env) (fun rv s₂ => wpAny (model prog w) A (subscriptTail (.Name x px) (.Constant (.int 0) c pp) lv rv) Q E s₂) E s₁) E s → wpAny (model prog w) A (eval (.Subscript (.Name x px) (.Constant (.int 0) c pp) pos) env) Q E s) →
        Ev prog w (k + 3) H N (eval (.Subscript (.Name x px) (.Constant (.int 0) c pp) pos) env) (IntV (p.2.headD 0)) := by
      intro H N Mx env x px pp pos c p vs e hp hH hi nm he
      refine Ev.temp (a := p.1) (o := lst vs e) ?_ (fun _ _ _ e => e) hH
      refine Ev.item (F := IntV) (xs := p.2) (i := 0) mono_IntV (by decide) (by decide) ?_ (Ev.name nm (mono_RowV _) ⟨p.1, vs, e, rfl, .head _, of_intsAre hi⟩) Ev.cint (he := he)
      cases h : p.2 with
      | nil => exact absurd h (ne' p hp)
      | cons a r => rfl
    refine st_forE (s := { s with heap := h4, toks := t4 }) (F := PV) (xs := ps') (Fi := ListV PV ps') (hA1 _) X4 N4 (.tail _ (.head _)) (Ev.name (NameIs.loc N4 I4.q.choose_spec.1) (mono_ListV mono_PV _) I4.q.choose_spec.2) (fun n' xv _ hv => hands_list hv) mono_PV
      (C3F1 addrs O ps' acc)
      (C3B1 addrs O ps' acc)
      (fun _ _ _ => False) ?_ ?_ ?_ ?_ ?_ ?_ ?_
    · rintro i H H' N M ⟨I, r⟩ hk
      exact ⟨I.same hOL hLa hk, r⟩
    · rintro i H N M v ⟨I, r, c⟩
      exact ⟨I.mono (fun _ e => e) (fun _ _ _ e => e) (Sub.refl _) (at_ne rfl) (at_ne rfl), r, fun hi => at_ne (c hi)⟩
    · intro h' n' le' sb'
      exact ⟨I4.le le' sb', fun i' p hi => absurd hi (Nat.not_lt_zero _), fun hi => absurd hi (Nat.lt_irrefl _)⟩
    · rintro i p pv H5 N5 M5 tk5 B₂ n₂ ha X5 _ ns5 ⟨I5, hg5, hc5⟩ fp sb5
      cases fp
      have hp : p ∈ ps' := List.mem_of_getElem? ha
      obtain ⟨vs, e, h5p, hi⟩ := I5.ats p hp
      refine st_assignI (s := { s with heap := H5, toks := tk5 }) (hA1 _) X5 ns5 (.tail _ (.head _)) (i := (p.2.headD 0)) (item0 (Mx := M5) hp h5p hi (NameIs.loc ns5 at_same) (by intro Q E A s hh; exact Subscript_ hh)) ?_
      intro tc h6 t6 n6 X6 N6 sb6 kp6
      have I6 : MI addrs O ps' acc h6 n6 _ := I5.mono (M' := fun y => if y = Str.ofString "candidate" then some (Value.int (p.2.headD 0) tc) else (fun y => if y = Str.ofString "s1" then some (Value.ref p.1) else M5 y) y) (fun o e => kp6 _ _ hOL e) (fun a ha o e => kp6 _ _ (fun q => hLa ((show a = s.heap.objs.size from q) ▸ ha)) e) sb6 (at_ne rfl) (at_ne rfl)
      generalize hM6 : (fun y => if y = Str.ofString "candidate" then some (Value.int (p.2.headD 0) tc) else (fun y => if y = Str.ofString "s1" then some (Value.ref p.1) else M5 y) y) = M6 at *
      have mc6 : M6 "candidate" = some (Value.int (p.2.headD 0) tc) := by rw [← hM6]; exact at_same
      refine st_for (s := { s with heap := h6, toks := t6 }) (F := PV) (xs := ps') (Fi := ListV PV ps') (hA1 _) X6 N6 (.tail _ (.head _)) (Ev.name (NameIs.loc N6 I6.q.choose_spec.1) (mono_ListV mono_PV _) I6.q.choose_spec.2) (fun n' xv _ hv => hands_list hv) mono_PV
        (C3F2 addrs O ps' acc p tc)
        (C3B2 addrs O ps' acc p)
        (fun _ _ _ => False) ?_ ?_ ?_ ?_ ?_ ?_ ?_
      · rintro i H H' N M ⟨I, r⟩ hk
        exact ⟨I.same hOL hLa hk, r⟩
      · rintro i H N M v ⟨I, c, r⟩
        exact ⟨I.mono (fun _ e => e) (fun _ _ _ e => e) (Sub.refl _) (at_ne rfl) (at_ne rfl), at_ne c, r⟩
      · intro h' n' le' sb'
        exact ⟨I6.le le' sb', mc6, fun i' p hi => absurd hi (Nat.not_lt_zero _)⟩
      · rintro j2 p2 pv2 H7 N7 M7 tk7 B₃ n₃ ha2 X7 _ ns7 ⟨I7, mc7, hr7⟩ fp2 sb7
        cases fp2
        have hp2 : p2 ∈ ps' := List.mem_of_getElem? ha2
        obtain ⟨vs2, e2, h7p, hi2⟩ := I7.ats p2 hp2
        have sm2 := small p2 hp2
        refine st_if (s := { s with heap := H7, toks := tk7 }) (hA1 _) X7 (c := p2.2.tail.any (· == p.2.headD 0)) ?_ ?_ ?_
        · refine Ev.temp (a := p2.1) (o := lst vs2 e2) ?_ (fun _ _ _ e => e) h7p
          rw [← List.drop_one]
          exact Ev.CmpT (Ev.name (NameIs.loc ns7 mc7) (mono_IntV _) ⟨tc, rfl⟩) (Ev.sliceFrom (a := 1) (F := IntV) (xs := p2.2) mono_IntV (by exact Nat.le_trans (by assumption) (by decide)) (Ev.name (NameIs.loc ns7 at_same) (mono_RowV _) ⟨p2.1, vs2, e2, rfl, .head _, of_intsAre hi2⟩) Ev.cint) (mono_IntV _) fun _ _ _ _ x y => op_inL x y
        · intro hb h8 t8 n8 X8 sb8 le8
          refine st_assign (s := { s with heap := h8, toks := t8 }) (hA1 _) X8 (ns7.keeps le8) (.tail _ (.head _)) (F := NoneV) Ev.cnone ?_
          intro v9 h9 t9 n9 X9 N9 sb9 f9 kp9
          have e9 : v9 = .none := f9
          subst e9
          refine st_break ⟨h9, t9, n9, _, rfl, X9, N9, (I7.le le8 sb8).mono (fun o e => kp9 _ _ hOL e) (fun a ha o e => kp9 _ _ (fun q => hLa ((show a = s.heap.objs.size from q) ▸ ha)) e) sb9 (at_ne rfl) (at_ne rfl), at_same, ?_⟩
          unfold goodC
          rw [List.all_eq_false]
          exact ⟨p2.2, List.mem_map_of_mem hp2, by rw [hb]; decide⟩
        · intro hb h8 t8 n8 X8 sb8 le8
          refine wpAny_execs_nil (wpAny_execs_nil ⟨h8, t8, n8, _, rfl, X8, ns7.keeps le8, I7.le le8 sb8, mc7, fun j' p' hj hp' => ?_⟩)
          by_cases hjj : j' < j2
          · exact hr7 j' p' hjj hp'
          · have : j' = j2 := by grind
            subst this
            rw [ha2] at hp'; cases hp'
            exact hb
      · rintro H7 N7 M7 tk7 X7 ns7 ⟨I7, mc7, hr7⟩ sb7
        refine st_break ⟨H7, tk7, N7, M7, rfl, X7, ns7, I7, _, mc7, ?_⟩
        have hgood : goodC (ps'.map (·.2)) (p.2.headD 0) = true := by
          unfold goodC
          rw [List.all_eq_true]
          intro x hx
          obtain ⟨p', hp', rfl⟩ := List.mem_map.mp hx
          obtain ⟨j', hj'⟩ := List.mem_iff_getElem?.mp hp'
          rw [hr7 j' p' (List.getElem?_eq_some_iff.mp hj').1 hj']; rfl
        have : candF (ps'.map (·.2)) = some (p.2.headD 0) := by
          unfold candF
          refine find_first (i := i) (by simp [ha]) hgood fun j' b hj hb => ?_
          rw [List.map_map, List.getElem?_map] at hb
          cases hq : ps'[j']? with
          | none => rw [hq] at hb; cases hb
          | some p' => rw [hq] at hb; cases hb; exact hg5 j' p' hj hq
        rw [this]
        exact ⟨tc, rfl⟩
      · rintro H7 N7 M7 tk7 X7 ns7 ⟨I7, mc7, hr7⟩ sb7
        refine wpAny_execs_nil ⟨H7, tk7, N7, M7, rfl, X7, ns7, I7, fun i' p' hi' hp' => ?_, fun _ => mc7⟩
        by_cases hjj : i' < i
        · exact hg5 i' p' hjj hp'
        · have : i' = i := by grind
          subst this
          rw [ha] at hp'; cases hp'
          exact hr7
      · intro v H N tk _ hf; exact hf.elim
    · rintro H N M ⟨I, hg, hc⟩
      refine ⟨I, .none, hc (List.length_pos_iff.mpr hne), ?_⟩
      have : candF (ps'.map (·.2)) = none := by
        unfold candF
        refine find_none fun j' b hb => ?_
        rw [List.map_map, List.getElem?_map] at hb
        cases hq : ps'[j']? with
        | none => rw [hq] at hb; cases hb
        | some p' => rw [hq] at hb; cases hb; exact hg j' p' (List.getElem?_eq_some_iff.mp hq).1 hq
      rw [this]
    · rintro H5 N5 M5 tk5 X5 ns5 ⟨I5, cv, mc5, hcv⟩ sb5
      have G5 := G.keeps X5.keep
      refine st_if (s := { s with heap := H5, toks := tk5 }) (hA1 _) X5 (c := cv == .none) (Ev.CmpT (Ev.nameE (NameIs.loc ns5 mc5)) Ev.cnone (mono_EqV _) fun _ _ _ _ x y => op_isNone x y) ?_ ?_
      · intro hb h6 t6 n6 X6 sb6 le6
        have hcn : candF (ps'.map (·.2)) = none := by
          cases hq : candF (ps'.map (·.2)) with
          | none => rfl
          | some c => rw [hq] at hcv; obtain ⟨t, rfl⟩ := hcv; simp at hb
        have hno : mergeF (ps₀.map (·.2)) = none := by rw [← hgo, hcn]
        obtain ⟨base, outer, hfr, hst, hff, hE⟩ := qno hno
        refine wpAny_execs_cons (wpAny_Raise_call PySem.F.excCall_RuntimeError PySem.F.excRaise_RuntimeError (hA1 _).handled (by rfl) ?_)
        refine NameIs.bui (G.keeps X6.keep) (x := Str.ofString "RuntimeError") (by rfl) (v := .type "RuntimeError") (by decide +kernel) (by decide) (by rfl) (by rfl) (by rfl) (by rfl) (by decide) _ _ _ _ _ (fun _ _ e => e) ⟨rfl, ?_⟩
        refine Calls.evalArgs_plain (args_cons (wpAny_Constant_str (args_nil ⟨rfl, by rw [sizeLine_eq]; simp, fun h' e hm => ?_⟩)) rfl)
        refine wpAny_leaves_madeW (base := base) (outer := outer) (h := h6) (L := s.heap.objs.size) (Around.frames_deeper hfr) (by rfl) (fun b o e => X6.keep _ _ (hst b o e)) ?_ hm.of fun h'' t fl tup bt up => ?_
        · refine Heap.FunFrames.cons (L := s.heap.objs.size) (by intro q; cases q) (by rfl) (ns5.keeps le6) ?_ ?_
          · cases e : base.get? s.heap.objs.size with
            | none => rfl
            | some o => have := of_hideAll _ (hst _ _ e); rw [new_none] at this; cases this
          · exact hff.of_keeps fun b o hb _ => ⟨o, X6.keep _ _ hb, rfl⟩
        · exact hE e h'' _ t fl ((Heap.UpToSlots.of_keeps X6.keep).trans ((Heap.UpToSlots.of_keeps hm.keeps).trans up))
      · intro hb h6 t6 n6 X6 sb6 le6
        obtain ⟨c, hcc⟩ : ∃ c, candF (ps'.map (·.2)) = some c := by
          cases hq : candF (ps'.map (·.2)) with
          | none => rw [hq] at hcv; have e : cv = .none := hcv; subst e; simp at hb
          | some c => exact ⟨c, rfl⟩
        rw [hcc] at hcv hgo
        obtain ⟨tc, rfl⟩ := hcv
        obtain ⟨pc, hpc, hpcc⟩ : ∃ p, p ∈ ps' ∧ p.2.headD 0 = c := by
          have := List.mem_of_find?_eq_some hcc
          rw [List.map_map] at this
          obtain ⟨p, hp, e⟩ := List.mem_map.mp this
          exact ⟨p, hp, e⟩
        have hdec : totalL ((ps'.map (·.2)).map (popS c)) < totalL (ps'.map (·.2)) := totalL_pop_lt (List.mem_map_of_mem hpc) (ne' pc hpc) hpcc
        refine wpAny_execs_nil ?_
        have I6 := I5.le le6 sb6
        have ns6 := ns5.keeps le6
        obtain ⟨vsR, eR, hOR, iR⟩ := I6.res
        have lR := iR.length
        refine st_append (s := { s with heap := h6, toks := t6 }) (F := IntV c) (hA1 _) X6 (.head _) hOR (by grind) (NameIs.loc ns6 I6.mr) (Ev.name (NameIs.loc ns6 mc5) (mono_IntV c) ⟨tc, rfl⟩) ?_
        rintro h7 t7 n7 e7 v7 X7 sb7 ⟨tv, rfl⟩ hO7 kp7
        have ns7 := ns6.at' fun o e => kp7 _ _ (Ne.symm hOL) e
        obtain ⟨sv6, ms6, fs6⟩ := I6.q
        have ats7 : ∀ p, p ∈ ps' → ∃ vs e, h7.get? p.1 = some (lst vs e) ∧ IntsAre vs p.2 := fun p hp => by
          obtain ⟨vs, e, a, b⟩ := I6.ats p hp
          exact ⟨vs, e, kp7 _ _ (fun q => hOa (q ▸ I6.sub p hp)) a, b⟩
        refine st_forE (s := { s with heap := h7, toks := t7 }) (F := PV) (xs := ps') (Fi := ListV PV ps') (hA1 _) X7 ns7 (.tail _ (.head _)) (Ev.name (NameIs.loc ns7 ms6) (mono_ListV mono_PV _) (mono_ListV mono_PV _ _ _ _ sb7 fs6)) (fun n' xv _ hv => hands_list hv) mono_PV
          (C3F3 ps' sv6 O c tc vsR tv e7)
          (C3B3 ps' sv6 O c vsR tv e7)
          (fun _ _ _ => False) ?_ ?_ ?_ ?_ ?_ ?_ ?_
        · rintro i H H' N M ⟨a1, a2, a3, a4, a5, a6⟩ hk
          refine ⟨a1, a2, a3, a4, by rw [hk O (.head _) hOL]; exact a5, fun j p hp => ?_⟩
          obtain ⟨vs, e, b1, b2⟩ := a6 j p hp
          have hpa := I6.sub p (List.mem_of_getElem? hp)
          exact ⟨vs, e, by rw [hk p.1 (.tail _ (.tail _ hpa)) (fun q => hLa ((show p.1 = s.heap.objs.size from q) ▸ hpa))]; exact b1, b2⟩
        · rintro i H N M v ⟨a1, a2, a3, a4, a5, a6⟩
          exact ⟨at_ne a1, a2, at_ne a3, at_ne a4, a5, a6⟩
        · intro h' n' le' sb'
          refine ⟨ms6, mono_ListV mono_PV _ _ _ _ (sb7.trans sb') fs6, I6.mr, mc5, le' _ _ hO7, fun j p hp => ?_⟩
          obtain ⟨vs, e, b1, b2⟩ := ats7 p (List.mem_of_getElem? hp)
          exact ⟨vs, e, le' _ _ b1, by rw [if_neg (Nat.not_lt_zero _)]; exact b2⟩
        · rintro i p pv H8 N8 M8 tk8 B₂ n₂ ha X8 _ ns8 ⟨a1, a2, a3, a4, a5, a6⟩ fp sb8
          cases fp
          have hp : p ∈ ps' := List.mem_of_getElem? ha
          have hpa := I6.sub p hp
          obtain ⟨vs, e, h8p, hi⟩ := a6 i p ha
          rw [if_neg (Nat.lt_irrefl _)] at hi
          have hpO : p.1 ≠ O := fun q => hOa (q ▸ hpa)
          have hdiff : ∀ (j : Nat) p', ps'[j]? = some p' → j ≠ i → p'.1 ≠ p.1 := fun j p' hj hji he => by
            have e1 : (ps'.map (·.1))[j]? = some p'.1 := by simp [hj]
            have e2 : (ps'.map (·.1))[i]? = some p.1 := by simp [ha]
            rw [he] at e1
            exact hji (nodup_idx I6.nd e1 e2)
          refine st_if (s := { s with heap := H8, toks := tk8 }) (hA1 _) X8 (c := p.2.headD 0 == c) (Ev.CmpT (item0 (Mx := M8) hp h8p hi (NameIs.loc ns8 at_same) (by intro Q E A s hh; exact Subscript_ hh)) (Ev.name (NameIs.loc ns8 a4) (mono_IntV c) ⟨tc, rfl⟩) (mono_IntV _) fun _ _ _ _ x y => op_eqI x y) ?_ ?_
          · intro hb9 h9 t9 n9 X9 sb9 le9
            have hpop : popS c p.2 = p.2.tail := by unfold popS; rw [if_pos hb9]
            have ns9 := ns8.keeps le9
            obtain ⟨a, r, hq⟩ := List.exists_cons_of_ne_nil (ne' p hp)
            rw [hq] at hi hpop
            cases hi with
            | cons _ ta hr =>
              refine st_del0 (s := { s with heap := h9, toks := t9 }) (D := p.1) (hA1 _) X9 (.tail _ (.tail _ hpa)) (le9 _ _ h8p) (by have := small p hp; rw [hq] at this; have := hr.length; simp at *; grind) (NameIs.loc ns9 at_same) ?_
              intro h10 t10 e10 X10 hD10 kp10
              have ns10 := ns9.at' fun o e => kp10 _ _ (fun q => hLa ((show s.heap.objs.size = p.1 from q) ▸ hpa)) e
              refine wpAny_execs_nil (wpAny_execs_nil ⟨h10, t10, n9, _, rfl, X10, ns10, a1, mono_ListV mono_PV _ _ _ _ sb9 a2, a3, a4, kp10 _ _ (Ne.symm hpO) (le9 _ _ a5), fun j p' hj => ?_⟩)
              by_cases hji : j = i
              · subst hji
                rw [ha] at hj; cases hj
                refine ⟨_, _, hD10, ?_⟩
                rw [if_pos (Nat.lt_succ_self _), hq, hpop]
                exact hr
              · obtain ⟨vs', e', b1, b2⟩ := a6 j p' hj
                refine ⟨vs', e', kp10 _ _ (hdiff j p' hj hji) (le9 _ _ b1), ?_⟩
                by_cases hlt' : j < i
                · rw [if_pos (by exact Nat.lt_succ_of_lt (by assumption))]; rw [if_pos hlt'] at b2; exact b2
                · rw [if_neg (by grind)]; rw [if_neg hlt'] at b2; exact b2
          · intro hb9 h9 t9 n9 X9 sb9 le9
            have hpop : popS c p.2 = p.2 := by unfold popS; rw [if_neg (by rw [hb9]; decide)]
            refine wpAny_execs_nil (wpAny_execs_nil ⟨h9, t9, n9, _, rfl, X9, ns8.keeps le9, a1, mono_ListV mono_PV _ _ _ _ sb9 a2, a3, a4, le9 _ _ a5, fun j p' hj => ?_⟩)
            obtain ⟨vs', e', b1, b2⟩ := a6 j p' hj
            refine ⟨vs', e', le9 _ _ b1, ?_⟩
            by_cases hji : j = i
            · subst hji
              rw [ha] at hj; cases hj
              rw [if_pos (Nat.lt_succ_self _), hpop]
              rw [if_neg (Nat.lt_irrefl _)] at b2; exact b2
            · by_cases hlt' : j < i
              · rw [if_pos (by exact Nat.lt_succ_of_lt (by assumption))]; rw [if_pos hlt'] at b2; exact b2
              · rw [if_neg (by grind)]; rw [if_neg hlt'] at b2; exact b2
        · rintro H N M ⟨a1, a2, a3, a4, a5, a6⟩
          refine ⟨a1, a2, a3, a5, fun j p hp => ?_⟩
          obtain ⟨vs, e, b1, b2⟩ := a6 j p hp
          rw [if_pos (List.getElem?_eq_some_iff.mp hp).1] at b2
          exact ⟨vs, e, b1, b2⟩
        · rintro H8 N8 M8 tk8 X8 ns8 ⟨a1, a2, a3, a5, a6⟩ sb8
          have hmap : (ps'.map fun p => (p.1, popS c p.2)).map (·.2) = (ps'.map (·.2)).map (popS c) := by simp
          refine wpAny_execs_nil ⟨H8, tk8, N8, M8, j, rfl, X8, ns8, ⟨ps'.map fun p => (p.1, popS c p.2), acc ++ [c], ⟨⟨sv6, a1, ?_⟩, fun p hp => ?_, by rw [List.map_map]; exact I6.nd, fun p hp => ?_, ⟨_, _, a5, ?_⟩, a3⟩, ?_, ?_, ?_, by simpa using len'⟩, ?_, by exact Nat.le_refl _⟩
          · obtain ⟨a, vs, e, rfl, hm, hp⟩ := a2
            refine ⟨a, vs, e, rfl, hm, ?_⟩
            exact paired_map (f := fun (p : Addr × List Int) => (p.1, popS c p.2)) (fun x v h => h) hp
          · obtain ⟨p', hp', rfl⟩ := List.mem_map.mp hp
            obtain ⟨j', hj'⟩ := List.mem_iff_getElem?.mp hp'
            exact a6 j' p' hj'
          · obtain ⟨p', hp', rfl⟩ := List.mem_map.mp hp
            exact I6.sub p' hp'
          · exact intsAre_of (n := []) (Paired.app (of_intsAre iR) (.cons ⟨tv, rfl⟩ .nil))
          · rw [hmap]; exact hgo
          · rw [hmap]; grind
          · rw [hmap, List.length_append, List.length_singleton]; grind
          · exact ((((sb'.trans sb3).trans sb4).trans sb5).trans sb6).trans (sb7.trans sb8)
        · intro v H N tk _ hf; exact hf.elim
    · intro v H N tk _ hf; exact hf.elim
  · intro j H N M tk hc
    cases hc
end
end Mine
end
section
open PySem PySem.W PyProof.Rows PySem.Calls
set_option Elab.async false
set_option autoImplicit false
namespace Mine
section
variable {prog : Program} {w : World} {A : Around} {R : Result → Shared → Prop} {s : Shared}
abbrev two (elt t1 i1 t2 i2 : Expr) (scope : Scope) (pos : Pos) : Expr := .ListComp elt [⟨t1, i1, [], 0⟩, ⟨t2, i2, [], 0⟩] scope pos
theorem turn2a (elt t1 i1 t2 i2 : Expr) (scope : Scope) (pos : Pos) (it acc : Value) (env : Env) :
    compTurn (two elt t1 i1 t2 i2 scope pos) 0 it acc env = (standAt i1.pos >>= fun _ => pyNext it >>= fun r => match r with
      | none => pure (.done .next)
      | some v => letOwnedTupleGo t1 it v >>= fun _ => assign t1 env v >>= fun _ =>
        (eval i2 env >>= fun x => standAt i2.pos >>= fun _ => foldedSetIterable i2 env x >>= fun x => holding [x] (pyIter x) >>= fun it2 => runOwn (.compStart (two elt t1 i1 t2 i2 scope pos) 1 it2 acc env) env >>= fun _ =>
          again (.compLoop (two elt t1 i1 t2 i2 scope pos) 0 it acc env))) := by rfl
theorem turn2b (elt t1 i1 t2 i2 : Expr) (scope : Scope) (pos : Pos) (it acc : Value) (env : Env) :
    compTurn (two elt t1 i1 t2 i2 scope pos) 1 it acc env = (standAt i2.pos >>= fun _ => pyNext it >>= fun r => match r with
      | none => pure (.done .next)
      | some v => letOwnedTupleGo t2 it v >>= fun _ => assign t2 env v >>= fun _ =>
        (eval elt env >>= fun x => call (.builtin "list.append") [acc, x] >>= fun _ => pure ()) >>= fun _ =>
          again (.compLoop (two elt t1 i1 t2 i2 scope pos) 1 it acc env)) := by rfl
theorem loop2a {elt t1 i1 t2 i2 : Expr} {scope : Scope} {pos : Pos} {it acc : Value} {env : Env} (I : Nat → Shared → Prop)
    (turn : ∀ n s, I n s → wpAny (model prog w) A (pyNext it) (fun r s₁ => match r with
      | none => R (.ok .next) s₁
      | some v => wpAny (model prog w) A (assign t1 env v) (fun _ s₂ => wpAny (model prog w) A (eval i2 env) (fun x s₃ => wpAny (model prog w) A (pyIter x) (fun it2 s₄ =>
          codeAny (model prog w) A (.compStart (two elt t1 i1 t2 i2 scope pos) 1 it2 acc env) (fun r s₅ => match r with | .ok _ => ∃ m, m < n ∧ I m s₅ | .error _ => False) s₄) (fun _ _ => False) s₃) (fun _ _ => False) s₂) (fun _ _ => False) s₁) (fun _ _ => False) s)
    (n : Nat) (h : I n s) (ht : ∀ v, letOwnedTupleGo t1 it v = pure ()) (hs : ∀ x, foldedSetIterable i2 env x = pure x) :
    codeAny (model prog w) A (.compLoop (two elt t1 i1 t2 i2 scope pos) 0 it acc env) R s := by
  refine codeAny_loop rfl I (fun n s hI => ?_) n h
  show wpAny _ A ((compTurn (two elt t1 i1 t2 i2 scope pos) 0 it acc env).onRaise (fun x => do noteFrame x env; theTreesLotGoes x)) _ _ s
  refine wpAny_noted ?_
  rw [turn2a]
  refine wpAny_bind (wpAny_standAt (wpAny_bind (wpAny_mono (turn n s hI) (fun r s₁ h₁ => ?_) fun _ _ h' => h'.elim)))
  cases r with
  | none => exact wpAny_pure h₁
  | some v =>
    refine wpAny_bind (wpAny_of_eq (ht v) ?_)
    refine wpAny_bind (wpAny_mono h₁ (fun _ s₂ h₂ => ?_) fun _ _ h' => h'.elim)
    refine wpAny_bind (wpAny_mono h₂ (fun x s₃ h₃ => ?_) fun _ _ h' => h'.elim)
    refine wpAny_bind (wpAny_standAt (wpAny_bind (wpAny_of_eq (hs x) (wpAny_bind (wpAny_holding (wpAny_mono h₃ (fun it2 s₄ h₄ => ?_) fun _ _ h' => h'.elim))))))
    refine wpAny_bind (wpAny_runOwn (h := none) (codeAny_mono h₄ fun r s₅ h₅ => ?_))
    cases r with
    | ok f => exact wpAny_pure ⟨rfl, h₅⟩
    | error e => exact h₅.elim
theorem start2b {elt t1 i1 t2 i2 : Expr} {scope : Scope} {pos : Pos} {it acc : Value} {env : Env}
    (h0 : codeAny (model prog w) A (.compLoop (two elt t1 i1 t2 i2 scope pos) 1 it acc env) R s)
    (h : wpAny (model prog w) A (pyIter it) (fun it' s' => codeAny (model prog w) A (.compLoop (two elt t1 i1 t2 i2 scope pos) 1 it' acc env) R s')
      (notedBy (model prog w) A env fun x s' => R (.error x) s') s) :
    codeAny (model prog w) A (.compStart (two elt t1 i1 t2 i2 scope pos) 1 it acc env) R s := by
  refine codeAny_of_tree ?_
  show wpAny _ _ ((compStart (two elt t1 i1 t2 i2 scope pos) 1 it acc env).onRaise (fun x => do noteFrame x env; standAt theWindowsPlace)) _ _ s
  refine wpAny_notedAt ?_
  unfold compStart
  show wpAny _ _ (ask >>= _) _ _ s
  refine wpAny_bind (wpAny_askSetting (wpAny_ite ?_))
  split
  · first
      | exact wpAny_bind (wpAny_pure (wpAny_pure (And.intro rfl h0)))
      | exact wpAny_pure (And.intro rfl h0)
  · first
      | exact wpAny_bind (wpAny_rule (wpAny_bind (wpAny_standAt (wpAny_bind (wpAny_mono h (fun it' s' h' => wpAny_pure (And.intro rfl h')) fun _ _ x => x)))))
      | (refine wpAny_bind (wpAny_rule ?_); show wpAny _ _ (standAt i2.pos >>= _) _ _ s; exact wpAny_bind (wpAny_standAt (wpAny_bind (wpAny_mono h (fun it' s' h' => wpAny_pure (And.intro rfl h')) fun _ _ x => x))))
theorem loop2b {elt t1 i1 t2 i2 : Expr} {scope : Scope} {pos : Pos} {it acc : Value} {env : Env} (I : Nat → Shared → Prop)
    (turn : ∀ n s, I n s → wpAny (model prog w) A (pyNext it) (fun r s₁ => match r with
      | none => R (.ok .next) s₁
      | some v => wpAny (model prog w) A (assign t2 env v) (fun _ s₂ => wpAny (model prog w) A (eval elt env) (fun x s₃ =>
          wpAny (model prog w) A (call (.builtin "list.append") [acc, x]) (fun _ s₄ => ∃ m, m < n ∧ I m s₄) (fun _ _ => False) s₃) (fun _ _ => False) s₂) (fun _ _ => False) s₁) (fun _ _ => False) s)
    (n : Nat) (h : I n s) (ht : ∀ v, letOwnedTupleGo t2 it v = pure ()) :
    codeAny (model prog w) A (.compLoop (two elt t1 i1 t2 i2 scope pos) 1 it acc env) R s := by
  refine codeAny_loop rfl I (fun n s hI => ?_) n h
  show wpAny _ A ((compTurn (two elt t1 i1 t2 i2 scope pos) 1 it acc env).onRaise (fun x => do noteFrame x env; theTreesLotGoes x)) _ _ s
  refine wpAny_noted ?_
  rw [turn2b]
  refine wpAny_bind (wpAny_standAt (wpAny_bind (wpAny_mono (turn n s hI) (fun r s₁ h₁ => ?_) fun _ _ h' => h'.elim)))
  cases r with
  | none => exact wpAny_pure h₁
  | some v =>
    refine wpAny_bind (wpAny_of_eq (ht v) ?_)
    refine wpAny_bind (wpAny_mono h₁ (fun _ s₂ h₂ => ?_) fun _ _ h' => h'.elim)
    exact wpAny_bind (wpAny_bind (wpAny_mono h₂ (fun x s₃ h₃ => wpAny_bind (wpAny_mono h₃ (fun _ s₄ h₄ => wpAny_pure (wpAny_pure ⟨rfl, h₄⟩)) fun _ _ h' => h'.elim)) fun _ _ h' => h'.elim))
end
end Mine
end
section
open PySem PySem.W PyProof.Rows PySem.Calls
set_option Elab.async false
set_option autoImplicit false
namespace Mine
theorem Fx.ownN {B : Heap} {n₀ : GL} {ow : List Addr} {h h' : Heap} {n n' : GL} (X : Fx B n₀ ow h n) (g : Grow h n h' n') {a : Addr} {o : Obj} (f : h.get? a = none) (ap : ∀ p, p ∈ n' → p.1 ≠ a) (ho : h'.get? a = some o) : Fx B n₀ (a :: ow) h' n' := by
  have X1 := X.grow g
  refine ⟨X1.keep, X1.more, X1.ok, X1.new, fun p hp b hb => ?_, fun b hb => ?_, fun b hb => ?_⟩
  · rcases List.mem_cons.mp hb with rfl | hb
    · exact ap p hp
    · exact X1.apart p hp b hb
  · rcases List.mem_cons.mp hb with rfl | hb
    · exact ⟨_, ho⟩
    · exact X1.live b hb
  · rcases List.mem_cons.mp hb with rfl | hb
    · exact X.keep.none f
    · exact X1.fresh b hb
theorem Fx.join {B : Heap} {n₀ : GL} {ow ow2 : List Addr} {h h' : Heap} {n n' : GL} (X : Fx B n₀ ow h n) (Y : Fx h n ow2 h' n') : Fx B n₀ (ow2 ++ ow) h' n' := by
  have X1 := X.grow Y.done
  refine ⟨X1.keep, X1.more, X1.ok, X1.new, fun p hp b hb => ?_, fun b hb => ?_, fun b hb => ?_⟩
  · rcases List.mem_append.mp hb with hb | hb
    · exact Y.apart p hp b hb
    · exact X1.apart p hp b hb
  · rcases List.mem_append.mp hb with hb | hb
    · exact Y.live b hb
    · exact X1.live b hb
  · rcases List.mem_append.mp hb with hb | hb
    · exact X.keep.none (Y.fresh b hb)
    · exact X1.fresh b hb
def RowsAt (ps : List (Addr × List Int)) (H : Heap) : Prop := ∀ p, p ∈ ps → ∃ vs e, H.get? p.1 = some (lst vs e) ∧ IntsAre vs p.2
theorem RowsAt.keep {ps : List (Addr × List Int)} {H H' : Heap} (x : RowsAt ps H) (k : ∀ p, p ∈ ps → ∀ o, H.get? p.1 = some o → H'.get? p.1 = some o) : RowsAt ps H' := fun p hp => let ⟨vs, e, a, b⟩ := x p hp; ⟨vs, e, k p hp _ a, b⟩
section
variable {prog : Program} {w : World}
inductive WAt {α : Type} (s : Shared) (St : Nat → Heap → Prop) (B : Heap) (n₀ n₁ : GL) (I : Addr) (J : Nat → List Addr → Heap → GL → Prop) (xs : List α) : Nat → Shared → Prop
  | mk (H : Heap) (tk : Nat) (N : GL) (i : Nat) (ow' : List Addr) : St i H → Fx B n₀ ow' H N → I ∉ ow' → (∀ p, p ∈ N → p.1 ≠ I) → J i ow' H N → Sub n₁ N → i ≤ xs.length → WAt s St B n₀ n₁ I J xs (xs.length + 1 - i) { s with heap := H, toks := tk }
theorem walkW {α : Type} {A : Around} {s : Shared} {B : Heap} {n₀ n1 : GL} {ow : List Addr} {I : Addr} {fp : List Addr} {P : Nat → Value → Prop} {St : Nat → Heap → Prop} {F : α → VP} {xs : List α}
    (W : Walks prog w A I fp [I] xs.length P St) (hlive : ∀ i h, St i h → ∃ o, h.get? I = some o) (hfp : ∀ b, b ∈ fp → b = I ∨ ∃ o, (b, o) ∈ n1)
    (hP : ∀ i v, i < xs.length → P i v → ∃ a, xs[i]? = some a ∧ F a n1 v) (mF : ∀ a, Mono (F a)) (fB : B.get? I = none)
    (J : Nat → List Addr → Heap → GL → Prop) (jH : ∀ i ow' H H' N, J i ow' H N → (∀ a, a ∈ ow' → H'.get? a = H.get? a) → J i ow' H' N)
    (T : Value → (Shared → Prop) → Shared → Prop) (Tm : ∀ v (p q : Shared → Prop) s, (∀ s, p s → q s) → T v p s → T v q s) (End : Shared → Prop) {Conc : Prop}
    (hloop : ∀ (Inv : Nat → Shared → Prop), (∀ m s', Inv m s' → wpAny (model prog w) A (pyNext (.ref I)) (fun r s₁ => match r with | none => End s₁ | some v => T v (fun s₂ => ∃ m', m' < m ∧ Inv m' s₂) s₁) (fun _ _ => False) s') → ∀ m, Inv m s → Conc)
    (X : Fx B n₀ ow s.heap n1) (fO : I ∉ ow) (fN : ∀ p, p ∈ n1 → p.1 ≠ I) (st : St 0 s.heap) (init : J 0 ow s.heap n1)
    (turn : ∀ (i : Nat) a v H N tk ow', xs[i]? = some a → Fx (hideAll H ow') N ow' H N → Fx B n₀ ow' H N → J i ow' H N → F a N v → Sub n1 N →
      T v (fun s' => ∃ H' tk' N' ow'', s' = { s with heap := H', toks := tk' } ∧ Fx (hideAll H ow') N ow'' H' N' ∧ J (i + 1) ow'' H' N') { s with heap := H, toks := tk })
    (fin : ∀ H N tk ow', Fx B n₀ ow' H N → J xs.length ow' H N → Sub n1 N → End { s with heap := H, toks := tk }) : Conc := by
  have stK : ∀ (i : Nat) (N' : GL) (H1 H2 : Heap), Sub n1 N' → St i H1 → (∀ ob, H1.get? I = some ob → H2.get? I = some ob) → GOk N' H1 → GOk N' H2 → St i H2 := by
    intro i N' H1 H2 sb st kI g1 g2
    refine W.frame _ _ _ st fun b hb o e => ?_
    rcases hfp b hb with rfl | ⟨ob, hob⟩
    · exact kI o e
    · have e1 := g1 _ (sb _ hob)
      have e2 := g2 _ (sb _ hob)
      dsimp only at e1 e2
      rw [e] at e1
      rw [e2, e1]
  refine hloop (WAt s St B n₀ n1 I J xs) ?_ (xs.length + 1)
    (.mk s.heap s.toks n1 0 ow st X fO fN init (Sub.refl _) (Nat.zero_le _))
  rintro j s' ⟨H, tk, N, i, ow', st, XN, fO, fN, hJ, sbN, hi⟩
  have but : ∀ {H1 : Heap}, (∀ b o, b ≠ I → H.get? b = some o → H1.get? b = some o) → Fx B n₀ ow' H1 N ∧ J i ow' H1 N := fun hk => by
    refine ⟨XN.but hk fB fN fO, jH i ow' H _ N hJ fun a ha => ?_⟩
    obtain ⟨o, ho⟩ := XN.live a ha
    rw [ho]; exact hk _ _ (by rintro rfl; exact fO ha) ho
  by_cases hlt : i < xs.length
  · refine W.item i _ _ _ hlt st fun v H1 tk1 hPv st1 hk1 => ?_
    obtain ⟨a, ha, fa⟩ := hP i v hlt hPv
    obtain ⟨XN1, hJ1⟩ := but fun b o hb e => hk1 b o (nin1 hb) e
    obtain ⟨oI, hoI⟩ := hlive _ _ st1
    have IB : (hideAll H1 ow').get? I = some oI := hideAll_get _ hoI fO
    refine Tm _ _ _ _ ?_ (turn i a v H1 N tk1 ow' ha XN1.rebase XN1 hJ1 (mF a _ _ _ sbN fa) sbN)
    rintro _ ⟨H3, tk3, N3, ow3, rfl, X3, hj⟩
    have hI3 : H3.get? I = some oI := X3.keep _ _ IB
    have fO3 : I ∉ ow3 := fun hm => by have := X3.fresh I hm; rw [IB] at this; cases this
    have fN3 : ∀ p, p ∈ N3 → p.1 ≠ I := fun p hp e => (X3.new p hp).elim (fun q => fN p q e) fun q => by rw [e, IB] at q; cases q
    exact ⟨xs.length + 1 - (i + 1), dec_lt hlt, H3, tk3, N3, i + 1, ow3, stK _ N H1 H3 sbN st1 (fun ob e => by rw [hoI] at e; cases e; exact hI3) XN1.ok (X3.ok.sub X3.more), XN1.backW X3, fO3, fN3, hj, sbN.trans X3.more, hlt⟩
  · have hin : i = xs.length := Nat.le_antisymm hi (Nat.not_lt.mp hlt)
    subst hin
    refine W.done _ _ _ st fun H1 tk1 hk1 => ?_
    obtain ⟨XN1, hJ1⟩ := but fun b o hb e => hk1 b o (nin1 hb) e
    exact fin H1 N tk1 ow' XN1 hJ1 sbN

/-- a tree that makes a new list of new rows, each one's own -/
def EvF (prog : Program) (w : World) (k : Nat) (h : Heap) (n : GL) (t : Sem Value) (css : List (List Int)) : Prop :=
  ∀ (A : Around) (s : Shared) (n₁ : GL) (Q : Value → Shared → Prop) (E : Value → Shared → Prop), Aok k A → Le h s.heap → Sub n n₁ → GOk n₁ s.heap →
    (∀ v h' tk n' (ps : List (Addr × List Int)), Fx s.heap n₁ (ps.map (·.1)) h' n' → ListV PV ps n' v → RowsAt ps h' → (ps.map (·.1)).Nodup → ps.map (·.2) = css → Q v { s with heap := h', toks := tk }) → wpAny (model prog w) A t Q E s

/-- the accumulated rows of a comprehension -/
structure CJ (C D : Addr) (css : List (List Int)) (mk : (Str → Option Value) → Prop) (ow' : List Addr) (H : Heap) : Prop where
  out : ∃ ps m e, ow' = C :: D :: ps.map (·.1) ∧ H.Ns C m ∧ mk m ∧ H.get? D = some (lst (ps.map fun p => .ref p.1) e) ∧ RowsAt ps H ∧ (ps.map (·.1)).Nodup ∧ C ∉ ps.map (·.1) ∧ D ∉ ps.map (·.1) ∧ C ≠ D ∧ ps.map (·.2) = css
theorem CJ.same {C D : Addr} {css : List (List Int)} {mk : (Str → Option Value) → Prop} {ow' : List Addr} {H H' : Heap} (x : CJ C D css mk ow' H) (hk : ∀ a, a ∈ ow' → H'.get? a = H.get? a) : CJ C D css mk ow' H' := by
  obtain ⟨ps, m, e, rfl, ns, hm, hD, ra, nd, nC, nD, cd, hc⟩ := x.out
  exact ⟨ps, m, e, rfl, ns.at' fun o q => by rw [hk C (.head _)]; exact q, hm, by rw [hk D (.tail _ (.head _))]; exact hD, ra.keep fun p hp o q => by rw [hk p.1 (.tail _ (.tail _ (List.mem_map_of_mem hp)))]; exact q, nd, nC, nD, cd, hc⟩
theorem CJ.nil {C D : Addr} {H : Heap} {m : Str → Option Value} {e : Nat} (ns : H.Ns C m) (hD : H.get? D = some (lst [] e)) (cd : C ≠ D) : CJ C D [] (fun _ => True) [C, D] H :=
  ⟨⟨[], m, e, rfl, ns, trivial, hD, (fun p hp => nomatch hp), List.nodup_nil, (fun h => nomatch h), (fun h => nomatch h), cd, rfl⟩⟩
theorem pairedPV (N : GL) : ∀ ps : List (Addr × List Int), Paired (fun p v => PV p N v) ps (ps.map fun p => .ref p.1)
  | [] => .nil
  | _ :: r => .cons rfl (pairedPV N r)
theorem Fx.of {h h' : Heap} {n n' : GL} (g : Grow h n h' n') : Fx h n [] h' n' := ⟨g.keep, g.more, g.at_, g.new, (fun _ _ _ h => nomatch h), (fun _ h => nomatch h), (fun _ h => nomatch h)⟩
/-- from the base of a walk to a turn of it -/
theorem turnLe {B : Heap} {n₀ N N' n2 : GL} {ow' : List Addr} {H H' : Heap} {ow2 : List Addr} (X0 : Fx B n₀ ow' H N) (X : Fx (hideAll H ow') n2 ow2 H' N') : Le B H' :=
  fun b o e => X.keep _ _ (hideAll_get _ (X0.keep _ _ e) fun hm => by rw [X0.fresh b hm] at e; cases e)
/-- one row more -/
theorem emitTurn {A : Around} {s : Shared} {k : Nat} {cenv : Env} {elt : Expr} {x : Str} {px : Pos} {v : Value} {C D : Addr} {B : Heap} {n₀ N : GL} {ow' : List Addr} {css : List (List Int)} {row : List Int} {mk mk' : (Str → Option Value) → Prop} {E : Value → Shared → Prop} {post : Shared → Prop}
    (hA : Aok k A) (X : Fx B n₀ ow' s.heap N) (J : CJ C D css mk ow' s.heap) (hC : cenv.locals = C) (hx : cenv.kindOf x = some .local) (hk : cenv.scope.kind = .function) (hsz : css.length ≤ 100000)
    (hmk : ∀ m, mk m → mk' (fun y => if y = x then some v else m y))
    (helt : ∀ H m, Fx B n₀ ow' H N → H.Ns C m → mk' m → m x = some v → EvN prog w k H N (eval elt cenv) IntV row)
    (q : ∀ H' tk' N' ow'', Fx B n₀ ow'' H' N' → CJ C D (css ++ [row]) mk' ow'' H' → post { s with heap := H', toks := tk' }) :
    wpAny (model prog w) A (assign (.Name x px) cenv v) (fun _ s₂ => wpAny (model prog w) A (eval elt cenv) (fun y s₃ => wpAny (model prog w) A (call (.builtin "list.append") [.ref D, y]) (fun _ s₄ => post s₄) E s₃) E s₂) E s := by
  obtain ⟨ps, m, e, rfl, ns, hm, hD, ra, nd, nC, nD, cd, hc⟩ := J.out
  subst hC
  refine wpAny_assign_Name (wpAny_storeName_local hx ns (fun H1 ns1 sm1 => ?_) (by rw [hk]; rfl))
  have X1 := X.upd (.head _) sm1 (let ⟨o, _, _, ho, _⟩ := ns1; ⟨o, ho⟩)
  have hD1 := sm1.extBut _ _ (Ne.symm cd) hD
  have ra1 : RowsAt ps H1 := ra.keep fun p hp o e => sm1.extBut _ _ (fun q => nC (q ▸ List.mem_map_of_mem hp)) e
  refine helt H1 _ X1 ns1 (hmk m hm) (by simp) A { s with heap := H1, toks := _ } N _ _ hA (Le.refl _) (Sub.refl _) X1.ok fun a vs e2 H2 tk2 N2 g2 f2 ap2 ho2 hp2 => ?_
  have X2 := X1.ownN g2 f2 ap2 ho2
  have lD : (ps.map fun p => Value.ref p.1).length ≤ 100000 := by
    have := congrArg List.length hc
    simp at this ⊢; omega
  refine wpAny_list_append_plain (s := { s with heap := H2, toks := tk2 }) (items := (ps.map fun p => Value.ref p.1).toArray) (hsz := by rw [sizeLine_eq]; simp at lD ⊢; exact Nat.le_trans (by assumption) (by decide)) ⟨e, g2.keep _ _ hD1⟩ fun H3 hl3 sm3 => ?_
  obtain ⟨e3, he3⟩ := hl3
  have aC : a ≠ cenv.locals := fun q => by obtain ⟨o, _, _, ho, _⟩ := ns1; rw [q, ho] at f2; cases f2
  have aD : a ≠ D := fun q => by rw [q, hD1] at f2; cases f2
  have aP : a ∉ ps.map (·.1) := fun q => by
    obtain ⟨p, hp, rfl⟩ := List.mem_map.mp q
    obtain ⟨_, _, h1, _⟩ := ra1 p hp
    rw [h1] at f2; cases f2
  have X3 := X2.upd (.tail _ (.tail _ (.head _))) sm3 ⟨_, he3⟩
  refine q H3 tk2 N2 (cenv.locals :: D :: (ps ++ [(a, row)]).map (·.1)) (X3.less fun b hb => ?_) ⟨ps ++ [(a, row)], _, e3, rfl, (ns1.keeps g2.keep).sameBut sm3 cd, hmk m hm, ?_, ?_, ?_, ?_, ?_, cd, ?_⟩
  · simp only [List.map_append, List.mem_cons, List.mem_append, List.map_cons, List.map_nil, List.not_mem_nil, or_false] at hb ⊢
    rcases hb with h | h | h | h
    · exact .inr (.inl h)
    · exact .inr (.inr (.inl h))
    · exact .inr (.inr (.inr h))
    · exact .inl h
  · rw [he3]; simp
  · intro p hp
    rcases List.mem_append.mp hp with hp | hp
    · obtain ⟨vs', e', h1, h2⟩ := ra1 p hp
      exact ⟨vs', e', sm3.extBut _ _ (fun q => nD (q ▸ List.mem_map_of_mem hp)) (g2.keep _ _ h1), h2⟩
    · rw [List.mem_singleton.mp hp]
      exact ⟨vs, e2, sm3.extBut _ _ aD ho2, intsAre_of hp2⟩
  · rw [List.map_append, List.nodup_append]
    refine ⟨nd, by simp, fun b hb c hc' => ?_⟩
    simp at hc'; subst hc'
    rintro rfl; exact aP hb
  · simp only [List.map_append, List.mem_append]; rintro (h | h)
    · exact nC h
    · simp at h; exact aC h.symm
  · simp only [List.map_append, List.mem_append]; rintro (h | h)
    · exact nD h
    · simp at h; exact aD h.symm
  · simp [hc]
end
end Mine
end
section
open PySem PySem.W PyProof.Rows PySem.Calls
set_option Elab.async false
set_option autoImplicit false
namespace Mine
section
variable {prog : Program} {w : World}
/-- the head of a comprehension's block: iterator, list, names -/
theorem blockF {A : Around} {E : Value → Shared → Prop} {s : Shared} {k : Nat} {e : Expr} {scope : Scope} {env : Env} {cl : List (Str × Addr)} {xv : Value} {M : Nat} {P : Nat → Value → Prop} {n : GL} {RR : Value → Addr → Result → Shared → Prop}
    (hA : Aok k A) (hit : Iters prog w k n xv M P) (hok : GOk n s.heap) (hpc : ∀ h, pushCells h scope.names = h) (hcf : ∀ c, cellsFrom c scope.names cl = cl)
    (body : ∀ I D C h2 fp St, s.heap.get? I = none → (∀ i h, St i h → ∃ o, h.get? I = some o) → Walks prog w A I fp [I] M P St → St 0 h2 → (∀ b, b ∈ fp → b = I ∨ ∃ o, (b, o) ∈ n) → I ≠ C → I ≠ D → (∀ p, p ∈ n → p.1 ≠ I) →
      Fx s.heap n [C, D] h2 n → CJ C D [] (fun _ => True) [C, D] h2 → codeAny (model prog w) A (.compStart e 0 (.ref I) (.ref D) (compEnvC scope cl C env)) (RR (.ref D) C) { s with heap := h2 }) :
    wpAny (model prog w) A (pyIter xv) (fun it s₂ => wpAny (model prog w) A (newList []) (fun acc s₃ => wpAny (model prog w) A (newFunctionEnv scope env.globals cl [] env.qual none .none (some env)) (fun cenv s₄ =>
      codeAny (model prog w) A (.compStart e 0 it acc { cenv with scope := relabel scope env }) (RR acc cenv.locals) s₄) E s₃) E s₂) E s := by
  refine hit A s _ E hA hok fun I h1 fp St fI le1 hlive W st1 hfp => ?_
  refine wpAny_newObj_type ?_
  refine newCompEnv ?_
  rw [hpc, hcf]
  dsimp only
  obtain ⟨oI, hoI⟩ := hlive _ _ st1
  have lI : I < h1.objs.size := Heap.lt_size hoI
  have hD : (h1.push { cls := .type "list", dict := none, data := .seq ([] : List Value).toArray }).objs.size = h1.objs.size + 1 := Heap.size_push ..
  have le2 : Le h1 ((h1.push { cls := .type "list", dict := none, data := .seq ([] : List Value).toArray }).push { cls := .type "dict", data := .dict #[] }) := (Le.push _ _).trans (Le.push _ _)
  have fD : s.heap.get? h1.objs.size = none := le1.none (new_none _)
  have fC : s.heap.get? (h1.objs.size + 1) = none := le1.none (new_none' (Nat.le_succ _))
  rw [hD]
  have nsC : ((h1.push { cls := .type "list", dict := none, data := .seq ([] : List Value).toArray }).push { cls := .type "dict", data := .dict #[] }).Ns (h1.objs.size + 1) (fun _ => none) := by
    have := Heap.Ns.new (h1.push { cls := .type "list", dict := none, data := .seq ([] : List Value).toArray }) (.type "dict")
    rwa [hD] at this
  have hDl : ((h1.push { cls := .type "list", dict := none, data := .seq ([] : List Value).toArray }).push { cls := .type "dict", data := .dict #[] }).get? h1.objs.size = some (lst [] 0) := Le.push _ _ _ _ (Heap.get?_push_size _ rfl)
  refine body I h1.objs.size (h1.objs.size + 1) _ fp St fI hlive W (W.frame _ _ _ st1 fun b hb o e => le2 _ _ e) hfp (Nat.ne_of_lt (Nat.lt_succ_of_lt lI)) (Nat.ne_of_lt lI) (apart_new hok fI) ?_ ?_
  · refine ⟨le1.trans le2, Sub.refl _, hok.keep (le1.trans le2), fun _ e => .inl e, fun p hp a ha => ?_, fun a ha => ?_, fun a ha => ?_⟩
    · simp only [List.mem_cons, List.not_mem_nil, or_false] at ha
      rcases ha with rfl | rfl
      · exact apart_new hok fC p hp
      · exact apart_new hok fD p hp
    · simp only [List.mem_cons, List.not_mem_nil, or_false] at ha
      rcases ha with rfl | rfl
      · obtain ⟨o, _, _, ho, _⟩ := nsC; exact ⟨o, ho⟩
      · exact ⟨_, hDl⟩
    · simp only [List.mem_cons, List.not_mem_nil, or_false] at ha
      rcases ha with rfl | rfl
      · exact fC
      · exact fD
  · exact CJ.nil nsC hDl (Nat.ne_of_gt (Nat.lt_succ_self _))

/-- the end of a comprehension: the names gone, the list frozen -/
theorem endF {A : Around} {E : Value → Shared → Prop} {s : Shared} {n N : GL} {C D : Addr} {css : List (List Int)} {mk : (Str → Option Value) → Prop} {H : Heap} {tk : Nat} {ow' : List Addr} {Q : Value → Shared → Prop}
    (X : Fx s.heap n ow' H N) (J : CJ C D css mk ow' H)
    (q : ∀ v h' tk n' (ps : List (Addr × List Int)), Fx s.heap n (ps.map (·.1)) h' n' → ListV PV ps n' v → RowsAt ps h' → (ps.map (·.1)).Nodup → ps.map (·.2) = css → Q v { s with heap := h', toks := tk }) :
    compPost (model prog w) A E none Q (.ref D) C (.ok .next) { s with heap := H, toks := tk } := by
  obtain ⟨ps, m, e, rfl, ns, hm, hD, ra, nd, nC, nD, cd, hc⟩ := J.out
  refine ⟨m, ns, fun H' sm => ?_⟩
  have X1 : Fx s.heap n (D :: ps.map (·.1)) H' N := by
    have := (X.less (ow' := D :: ps.map (·.1)) fun a ha => .tail _ ha)
    refine this.but (I := C) (fun b o hb e => sm.extBut b o hb e) (X.fresh C (.head _)) (fun p hp => X.apart p hp C (.head _)) ?_
    intro h
    rcases List.mem_cons.mp h with h | h
    · exact cd h
    · exact nC h
  have hD1 := sm.extBut _ _ (Ne.symm cd) hD
  have X2 : Fx s.heap n (ps.map (·.1)) H' ((D, lst (ps.map fun p => .ref p.1) e) :: N) := X1.freeze (.head _) hD1 fun b hb => ⟨.tail _ hb, fun q => nD (q ▸ hb)⟩
  exact q (.ref D) H' tk _ ps X2 ⟨D, _, e, rfl, .head _, pairedPV _ ps⟩ (ra.keep fun p hp o e => sm.extBut _ _ (fun q => nC (q ▸ List.mem_map_of_mem hp)) e) nd hc

variable {α : Type} {k : Nat} {h : Heap} {n : GL} {elt iter : Expr} {x : Str} {px : Pos} {scope : Scope} {pos : Pos} {env : Env} {cl : List (Str × Addr)} {F : α → VP} {Fi : VP} {xs : List α}
theorem EvF.comp1 {row : α → List Int} (hiter : Ev prog w k h n (eval iter env) Fi) (hit : ∀ n' xv, Sub n n' → Fi n' xv → Hands prog w k F xs n' xv) (mF : ∀ a, Mono (F a))
    (helt : ∀ (i : Nat) a v C H N, xs[i]? = some a → Le h H → Sub n N → F a N v → NameIs prog w (compEnvC scope cl C env) H x v → EvN prog w k H N (eval elt (compEnvC scope cl C env)) IntV (row a))
    (hsz : xs.length ≤ 100000) (hclos : closureFor scope env = pure cl := by rfl) (hkind : scope.kind = .function := by rfl) (hnames : ∀ y ∈ scope.names, y.2 = .local → scope.names.lookup y.1 = some .local := by decide)
    (hx : scope.names.lookup x = some .local := by rfl) (hpc : ∀ h, pushCells h scope.names = h := by intro _; rfl) (hcf : ∀ c, cellsFrom c scope.names cl = cl := by intro _; rfl) (hd : (x == ("__debug__" : Str)) = false := by decide)
    (hs : ∀ x, foldedSetIterable iter env x = Pure.pure x := by intro _; rfl) :
    EvF prog w k h n (eval (.ListComp elt [⟨.Name x px, iter, [], 0⟩] scope pos) env) (xs.map row) := by
  intro A s n₁ Q E hA l sb ok q
  rw [eval_ListComp]
  refine wpAny_comprehension_free (use := none) rfl hs hclos hkind hnames (hiter A s n₁ _ E hA l sb ok fun xv h1 t1 n1 g1 f1 => ?_)
  obtain ⟨P, hI, hP⟩ := hit n1 xv (sb.trans g1.more) f1
  refine blockF (s := { s with heap := h1, toks := t1 }) (RR := fun acc C => compPost (model prog w) A E none Q acc C) hA hI g1.at_ hpc hcf ?_
  intro I D C h2 fp St fI hlive W st hfp hIC hID hnI X2 J2
  have kx : (compEnvC scope cl C env).kindOf x = some .local := lookup_relabel_local hx
  have loop : codeAny (model prog w) A (.compLoop (.ListComp elt [⟨.Name x px, iter, [], 0⟩] scope pos) 0 (.ref I) (.ref D) (compEnvC scope cl C env)) (compPost (model prog w) A E none Q (.ref D) C) { s with heap := h2, toks := t1 } := by
    refine walkW (s := { s with heap := h2, toks := t1 }) (xs := xs) (F := F) W hlive hfp hP mF fI (fun i ow' H N => CJ C D ((xs.take i).map row) (fun _ => True) ow' H) (fun i ow' H H' N hj hk => hj.same hk)
      (fun v post s₁ => wpAny (model prog w) A (assign (.Name x px) (compEnvC scope cl C env) v) (fun _ s₂ => wpAny (model prog w) A (eval elt (compEnvC scope cl C env)) (fun y s₃ => wpAny (model prog w) A (call (.builtin "list.append") [.ref D, y]) (fun _ s₄ => post s₄) (fun _ _ => False) s₃) (fun _ _ => False) s₂) (fun _ _ => False) s₁)
      ?_ (fun s' => compPost (model prog w) A E none Q (.ref D) C (.ok .next) s') ?_ X2 ?_ hnI st J2 ?_ ?_
    · intro v p q s hpq hT
      exact wpAny_mono hT (fun _ _ h2 => wpAny_mono h2 (fun _ _ h3 => wpAny_mono h3 (fun _ _ h4 => hpq _ h4) fun _ _ e => e) fun _ _ e => e) fun _ _ e => e
    · intro Inv ht m hm
      refine codeAny_compLoop_list Inv (fun m' s' hi => ?_) m hm
      refine wpAny_mono (ht m' s' hi) (fun r s₁ h₁ => ?_) fun _ _ e => e.elim
      cases r with
      | none => exact h₁
      | some v => exact wpAny_mono h₁ (fun _ _ h2 => wpAny_mono h2 (fun _ _ h3 => wpAny_mono h3 (fun _ _ h4 => h4) fun _ _ e => e.elim) fun _ _ e => e.elim) fun _ _ e => e.elim
    · simp only [List.mem_cons, List.not_mem_nil, or_false]
      rintro (h | h)
      · exact hIC h
      · exact hID h
    · intro i a v H N tk ow' ha X' leB hJ fa sbN
      have hlt : i < xs.length := (List.getElem?_eq_some_iff.mp ha).1
      refine emitTurn (s := { s with heap := H, toks := tk }) (mk := fun _ => True) (mk' := fun _ => True) (row := row a) hA X' hJ rfl kx hkind (by simp; grind) (fun _ _ => trivial) ?_ ?_
      · intro H' m X'' ns _ hm
        have leH : Le h H' := (l.trans g1.keep).trans (turnLe leB X'')
        exact helt i a v C H' N ha leH ((sb.trans g1.more).trans sbN) fa (NameIs.loc ns hm hkind kx hd)
      · intro H' tk' N' ow'' X'' J''
        refine ⟨H', tk', N', ow'', rfl, X'', ?_⟩
        have : (xs.take (i + 1)).map row = (xs.take i).map row ++ [row a] := by rw [List.take_add_one, ha]; simp
        rw [this]; exact J''
    · intro H N tk ow' X' hJ sbN
      rw [List.take_length] at hJ
      refine endF (s := { s with heap := h1, toks := t1 }) X' hJ fun v h' tk' n' ps X3 fv ra nd hc => ?_
      have := (Fx.of g1).join X3
      rw [List.append_nil] at this
      exact q v h' tk' n' ps this fv ra nd hc
  exact codeAny_compStart_list loop (W.self 0 _ _ _ st loop)
end
end Mine
end
section
open PySem PySem.W PyProof.Rows PySem.Calls
set_option Elab.async false
set_option autoImplicit false
namespace Mine
theorem CJ.keep {C D : Addr} {css : List (List Int)} {mk : (Str → Option Value) → Prop} {ow' : List Addr} {H H' : Heap} (x : CJ C D css mk ow' H) (le : Le H H') : CJ C D css mk ow' H' := by
  obtain ⟨ps, m, e, rfl, ns, hm, hD, ra, r⟩ := x.out
  exact ⟨ps, m, e, rfl, ns.keeps le, hm, le _ _ hD, ra.keep fun p hp o q => le _ _ q, r⟩
theorem CJ.weak {C D : Addr} {css : List (List Int)} {mk mk' : (Str → Option Value) → Prop} {ow' : List Addr} {H : Heap} (x : CJ C D css mk ow' H) (hm : ∀ m, mk m → mk' m) : CJ C D css mk' ow' H := by
  obtain ⟨ps, m, e, h1, ns, h2, r⟩ := x.out
  exact ⟨ps, m, e, h1, ns, hm m h2, r⟩
theorem CJ.put {C D : Addr} {css : List (List Int)} {mk mk' : (Str → Option Value) → Prop} {ow' : List Addr} {H H' : Heap} {m' : Str → Option Value} (x : CJ C D css mk ow' H) (sm : Heap.SameBut C H H') (ns' : H'.Ns C m') (hm : mk' m') : CJ C D css mk' ow' H' := by
  obtain ⟨ps, m, e, rfl, ns, h2, hD, ra, nd, nC, nD, cd, hc⟩ := x.out
  exact ⟨ps, m', e, rfl, ns', hm, sm.extBut _ _ (Ne.symm cd) hD, ra.keep fun p hp o q => sm.extBut _ _ (fun e => nC (e ▸ List.mem_map_of_mem hp)) q, nd, nC, nD, cd, hc⟩
section
variable {prog : Program} {w : World} {α β : Type} {A : Around} {E : Value → Shared → Prop} {s : Shared} {k : Nat} {elt i1 i2 : Expr} {x1 x2 y : Str} {p1 p2 py : Pos} {scope : Scope} {pos spos : Pos} {env : Env} {cl : List (Str × Addr)} {F : α → VP} {F2 : β → VP} {Fi : VP} {Fi2 : α → VP} {xs : List α} {ys : α → List β} {row : α → β → List Int}
  {B : Heap} {n₀ n : GL} {ow : List Addr} {m : Str → Option Value} {rest : List Stmt} {Q : Flow → Shared → Prop}
/-- «y = [elt for x1 in i1 for x2 in i2]», the elements new rows of one's own -/
theorem st_assignF2 (hA : Aok k A) (X : Fx B n₀ ow s.heap n) (NS : s.heap.Ns env.locals m) (hL : env.locals ∈ ow)
    (hiter : Ev prog w k s.heap n (eval i1 env) Fi) (hit : ∀ n' xv, Sub n n' → Fi n' xv → Hands prog w k F xs n' xv) (mF : ∀ a, Mono (F a)) (mF2 : ∀ a, Mono (F2 a))
    (hin : ∀ (i : Nat) a v C H N, xs[i]? = some a → Le s.heap H → Sub n N → F a N v → NameIs prog w (compEnvC scope cl C env) H x1 v → Ev prog w k H N (eval i2 (compEnvC scope cl C env)) (Fi2 a))
    (hit2 : ∀ a n' xv, Fi2 a n' xv → Hands prog w k F2 (ys a) n' xv)
    (helt : ∀ (i : Nat) a v b u C H N, xs[i]? = some a → b ∈ ys a → Le s.heap H → Sub n N → F a N v → F2 b N u → NameIs prog w (compEnvC scope cl C env) H x1 v → NameIs prog w (compEnvC scope cl C env) H x2 u → EvN prog w k H N (eval elt (compEnvC scope cl C env)) IntV (row a b))
    (hsz : (xs.flatMap fun a => (ys a).map (row a)).length ≤ 100000)
    (next : ∀ v h' tk n' (ps : List (Addr × List Int)), Fx B n₀ (ps.map (·.1) ++ ow) h' n' → h'.Ns env.locals (fun z => if z = y then some v else m z) → Sub n n' → ListV PV ps n' v → RowsAt ps h' → (ps.map (·.1)).Nodup → ps.map (·.2) = (xs.flatMap fun a => (ys a).map (row a)) → (∀ a, a ∈ ps.map (·.1) → a ∉ ow) →
      (∀ b o, b ≠ env.locals → s.heap.get? b = some o → h'.get? b = some o) → wpAny (model prog w) A (execs rest env) Q E { s with heap := h', toks := tk })
    (hsw : swapsWith (two elt (.Name x1 p1) i1 (.Name x2 p2) i2 scope pos) (some (.Name y py)) spos.line env = Pure.pure true := by rfl) (hy : env.kindOf y = some .local := by rfl) (hk : env.scope.kind = .function := by rfl)
    (hclos : closureFor scope env = Pure.pure cl := by rfl) (hkind : scope.kind = .function := by rfl) (hnames : ∀ y ∈ scope.names, y.2 = .local → scope.names.lookup y.1 = some .local := by decide)
    (hx1 : scope.names.lookup x1 = some .local := by rfl) (hx2 : scope.names.lookup x2 = some .local := by rfl) (hne : x1 ≠ x2 := by decide) (hpc : ∀ h, pushCells h scope.names = h := by intro _; rfl) (hcf : ∀ c, cellsFrom c scope.names cl = cl := by intro _; rfl) (hd1 : (x1 == ("__debug__" : Str)) = false := by decide) (hd2 : (x2 == ("__debug__" : Str)) = false := by decide)
    (hs : ∀ x, foldedSetIterable i1 env x = Pure.pure x := by intro _; rfl) (hs2 : ∀ C x, foldedSetIterable i2 (compEnvC scope cl C env) x = Pure.pure x := by intro _ _; rfl) :
    wpAny (model prog w) A (execs (.Assign [.Name y py] (two elt (.Name x1 p1) i1 (.Name x2 p2) i2 scope pos) spos :: rest) env) Q E s := by
  refine wpAny_execs_cons ?_
  rw [exec_Assign_Name_used _ _ _ _ hsw]
  refine wpAny_bind (wpAny_standAt (wpAny_bind ?_))
  show wpAny _ A (do let _ ← comprehension (two elt (.Name x1 p1) i1 (.Name x2 p2) i2 scope pos) scope env _ (newList []) false (eval i1 env) (some (assign (.Name y py) env))) _ _ s
  refine wpAny_bind (wpAny_mono (wpAny_comprehension_free (use := some (assign (.Name y py) env)) (Q := fun _ s' => wpAny (model prog w) A (execs rest env) Q E s') rfl hs hclos hkind hnames
    (hiter A s n _ E hA (Le.refl _) (Sub.refl _) X.ok fun xv h1 t1 n1 g1 f1 => ?_)) (fun _ s' hq => wpAny_pure (wpAny_pure hq)) fun _ _ e => e)
  obtain ⟨P, hI, hP⟩ := hit n1 xv g1.more f1
  refine blockF (s := { s with heap := h1, toks := t1 }) (RR := fun acc C => compPost (model prog w) A E (some (assign (.Name y py) env)) (fun _ s' => wpAny (model prog w) A (execs rest env) Q E s') acc C) hA hI g1.at_ hpc hcf ?_
  intro I D C h2 fp St fI hlive W st hfp hIC hID hnI X2 J2
  have kx1 : (compEnvC scope cl C env).kindOf x1 = some .local := lookup_relabel_local hx1
  have kx2 : (compEnvC scope cl C env).kindOf x2 = some .local := lookup_relabel_local hx2
  have small : ∀ i, ((xs.take i).flatMap fun a => (ys a).map (row a)).length ≤ 100000 := fun i => by
    refine Nat.le_trans ?_ hsz
    have e : xs.flatMap (fun a => (ys a).map (row a)) = (xs.take i).flatMap (fun a => (ys a).map (row a)) ++ (xs.drop i).flatMap (fun a => (ys a).map (row a)) := by rw [← List.flatMap_append, List.take_append_drop]
    rw [e, List.length_append]; exact Nat.le_add_right _ _
  have loop : codeAny (model prog w) A (.compLoop (two elt (.Name x1 p1) i1 (.Name x2 p2) i2 scope pos) 0 (.ref I) (.ref D) (compEnvC scope cl C env)) (compPost (model prog w) A E (some (assign (.Name y py) env)) (fun _ s' => wpAny (model prog w) A (execs rest env) Q E s') (.ref D) C) { s with heap := h2, toks := t1 } := by
    refine walkW (s := { s with heap := h2, toks := t1 }) (xs := xs) (F := F) W hlive hfp hP mF fI (fun i ow' H N => CJ C D ((xs.take i).flatMap fun a => (ys a).map (row a)) (fun _ => True) ow' H) (fun i ow' H H' N hj hk => hj.same hk)
      (fun v post s₁ => wpAny (model prog w) A (assign (.Name x1 p1) (compEnvC scope cl C env) v) (fun _ s₂ => wpAny (model prog w) A (eval i2 (compEnvC scope cl C env)) (fun x s₃ => wpAny (model prog w) A (pyIter x) (fun it2 s₄ =>
        codeAny (model prog w) A (.compStart (two elt (.Name x1 p1) i1 (.Name x2 p2) i2 scope pos) 1 it2 (.ref D) (compEnvC scope cl C env)) (fun r s₅ => match r with | .ok _ => post s₅ | .error _ => False) s₄) (fun _ _ => False) s₃) (fun _ _ => False) s₂) (fun _ _ => False) s₁)
      ?_ (fun s' => compPost (model prog w) A E (some (assign (.Name y py) env)) (fun _ s' => wpAny (model prog w) A (execs rest env) Q E s') (.ref D) C (.ok .next) s') ?_ X2 ?_ hnI st J2 ?_ ?_
    · intro v p q s hpq hT
      refine wpAny_mono hT (fun _ _ h2 => wpAny_mono h2 (fun _ _ h3 => wpAny_mono h3 (fun _ _ h4 => codeAny_mono h4 fun r s' h5 => ?_) fun _ _ e => e) fun _ _ e => e) fun _ _ e => e
      cases r with
      | ok f => exact hpq _ h5
      | error e => exact h5
    · intro Inv ht m hm
      exact loop2a Inv (fun m' s' hi => ht m' s' hi) m hm (by intro _; rfl) (hs2 C)
    · simp only [List.mem_cons, List.not_mem_nil, or_false]
      rintro (h | h)
      · exact hIC h
      · exact hID h
    · intro i a v H N tk ow' ha X' X0 hJ fa sbN
      obtain ⟨ps0, m0, e0, how, ns0, _, hD0, _, _, nC0, nD0, cd0, _⟩ := hJ.out
      have hCow : C ∈ ow' := by rw [how]; exact .head _
      refine wpAny_assign_Name (wpAny_storeName_local (env := compEnvC scope cl C env) kx1 ns0 (fun H1 ns1 sm1 => ?_) (by rw [show (compEnvC scope cl C env).scope.kind = .function from hkind]; rfl))
      have X1 := X'.upd hCow sm1 (let ⟨o, _, _, ho, _⟩ := ns1; ⟨o, ho⟩)
      have J1 : CJ C D ((xs.take i).flatMap fun a => (ys a).map (row a)) (fun m => m x1 = some v) ow' H1 := hJ.put sm1 ns1 (by simp)
      have le1 : Le s.heap H1 := g1.keep.trans (turnLe X0 X1)
      refine hin i a v C H1 N ha le1 (g1.more.trans sbN) fa (NameIs.loc ns1 (by simp) hkind kx1 hd1) A { s with heap := H1, toks := _ } N _ _ hA (Le.refl _) (Sub.refl _) X1.ok fun xv2 H2 t2 N2 g2 f2 => ?_
      obtain ⟨P2, hI2, hP2⟩ := hit2 a N2 xv2 f2
      refine hI2 A { s with heap := H2, toks := t2 } _ _ hA g2.at_ fun I2 H3 fp2 St2 fI2 le3 hlive2 W2 st3 hfp2 => ?_
      have X3 : Fx (hideAll H ow') N ow' H3 N2 := (X1.grow g2).grow (Grow.heap g2.at_ le3)
      have J3 := J1.keep (g2.keep.trans le3)
      have fI2' : I2 ∉ ow' := fun hm => by obtain ⟨o, ho⟩ := (X1.grow g2).live I2 hm; rw [show H2.get? I2 = none from fI2] at ho; cases ho
      have loop' : codeAny (model prog w) A (.compLoop (two elt (.Name x1 p1) i1 (.Name x2 p2) i2 scope pos) 1 (.ref I2) (.ref D) (compEnvC scope cl C env)) (fun r s₅ => match r with | .ok _ => (∃ H' tk' N' ow'', s₅ = ({ s with heap := H', toks := tk' } : Shared) ∧ Fx (hideAll H ow') N ow'' H' N' ∧ CJ C D ((xs.take (i + 1)).flatMap fun a => (ys a).map (row a)) (fun _ => True) ow'' H') | .error _ => False) { s with heap := H3, toks := t2 } := by
        refine walkW (s := { s with heap := H3, toks := t2 }) (xs := ys a) (F := F2) W2 hlive2 hfp2 hP2 mF2 ((X1.grow g2).keep.none fI2) (fun j ow'' H N => CJ C D (((xs.take i).flatMap fun a => (ys a).map (row a)) ++ ((ys a).take j).map (row a)) (fun m => m x1 = some v) ow'' H) (fun i ow' H H' N hj hk => hj.same hk)
          (fun v post s₁ => wpAny (model prog w) A (assign (.Name x2 p2) (compEnvC scope cl C env) v) (fun _ s₂ => wpAny (model prog w) A (eval elt (compEnvC scope cl C env)) (fun y s₃ => wpAny (model prog w) A (call (.builtin "list.append") [.ref D, y]) (fun _ s₄ => post s₄) (fun _ _ => False) s₃) (fun _ _ => False) s₂) (fun _ _ => False) s₁)
          ?_ (fun s₅ => ∃ H' tk' N' ow'', s₅ = ({ s with heap := H', toks := tk' } : Shared) ∧ Fx (hideAll H ow') N ow'' H' N' ∧ CJ C D ((xs.take (i + 1)).flatMap fun a => (ys a).map (row a)) (fun _ => True) ow'' H') ?_ X3 fI2' (apart_new g2.at_ fI2) st3 (by simpa using J3) ?_ ?_
        · intro v p q s hpq hT
          exact wpAny_mono hT (fun _ _ h2 => wpAny_mono h2 (fun _ _ h3 => wpAny_mono h3 (fun _ _ h4 => hpq _ h4) fun _ _ e => e) fun _ _ e => e) fun _ _ e => e
        · intro Inv ht m hm
          exact loop2b Inv (fun m' s' hi => ht m' s' hi) m hm (by intro _; rfl)
        · intro j b u H4 N4 tk4 ow4 hb X4 X40 hJ4 fb sb4
          have hfull : (((xs.take i).flatMap fun a => (ys a).map (row a)) ++ ((ys a).take j).map (row a)).length ≤ 100000 := by
            have e : (xs.take (i + 1)).flatMap (fun a => (ys a).map (row a)) = (xs.take i).flatMap (fun a => (ys a).map (row a)) ++ (ys a).map (row a) := by rw [List.take_add_one, ha]; simp [List.flatMap_append]
            have := small (i + 1)
            rw [e, List.length_append] at this
            rw [List.length_append]
            simp at this ⊢; omega
          refine emitTurn (s := { s with heap := H4, toks := tk4 }) (mk := fun m => m x1 = some v) (mk' := fun m => m x1 = some v) (row := row a b) hA X4 hJ4 rfl kx2 hkind hfull (fun m hm => by simp [hne, hm]) ?_ ?_
          · intro H5 m5 X5 ns5 hm1 hm2
            exact helt i a v b u C H5 N4 ha (List.mem_of_getElem? hb) (g1.keep.trans (turnLe X0 ⟨fun b o e => turnLe X40 X5 b o e, X40.more, X5.ok, X40.new, X5.apart, X5.live, X40.fresh⟩)) ((g1.more.trans sbN).trans (g2.more.trans sb4)) (mF a _ _ _ (g2.more.trans sb4) fa) fb (NameIs.loc ns5 hm1 hkind kx1 hd1) (NameIs.loc ns5 hm2 hkind kx2 hd2)
          · intro H' tk' N' ow'' X'' J''
            refine ⟨H', tk', N', ow'', rfl, X'', ?_⟩
            have : ((ys a).take (j + 1)).map (row a) = ((ys a).take j).map (row a) ++ [row a b] := by rw [List.take_add_one, hb]; simp
            rw [this, ← List.append_assoc]; exact J''
        · intro H4 N4 tk4 ow4 X4 hJ4 sb4
          refine ⟨H4, tk4, N4, ow4, rfl, X4, ?_⟩
          have e : (xs.take (i + 1)).flatMap (fun a => (ys a).map (row a)) = (xs.take i).flatMap (fun a => (ys a).map (row a)) ++ (ys a).map (row a) := by rw [List.take_add_one, ha]; simp [List.flatMap_append]
          rw [List.take_length] at hJ4
          rw [e]
          exact hJ4.weak fun _ _ => trivial
      exact start2b loop' (W2.self 0 _ _ _ st3 loop')
    · intro H N tk ow' X' hJ sbN
      rw [List.take_length] at hJ
      obtain ⟨ps, m', e, rfl, ns, _, hD, ra, nd, nC, nD, cd, hc⟩ := hJ.out
      have Xc := X.grow g1
      have XJ := Xc.join X'
      have nO : ∀ a, a ∈ C :: D :: ps.map (·.1) → a ∉ ow := fun a ha hm => by obtain ⟨o, ho⟩ := Xc.live a hm; rw [X'.fresh a ha] at ho; cases ho
      have hLC : env.locals ≠ C := fun e => nO C (.head _) (e ▸ hL)
      have hLD : env.locals ≠ D := fun e => nO D (.tail _ (.head _)) (e ▸ hL)
      have hLp : env.locals ∉ ps.map (·.1) := fun e => nO _ (.tail _ (.tail _ e)) hL
      show wpAny _ A (assign (.Name y py) env (.ref D)) _ _ _
      refine wpAny_assign_Name (wpAny_storeName_local hy (NS.keeps (g1.keep.trans X'.keep)) (fun H3 hn3 sm3 => ?_) (by rw [hk]; rfl))
      refine ⟨m', ns.sameBut sm3 (Ne.symm hLC), fun H4 sm4 => ?_⟩
      have X3 := XJ.upd (List.mem_append.mpr (.inr hL)) sm3 (let ⟨o, _, _, ho, _⟩ := hn3; ⟨o, ho⟩)
      have hD4 : H4.get? D = some (lst (ps.map fun p => .ref p.1) e) := sm4.extBut _ _ (Ne.symm cd) (sm3.extBut _ _ (Ne.symm hLD) hD)
      have X4 : Fx B n₀ (D :: (ps.map (·.1) ++ ow)) H4 N := by
        refine (X3.less (ow' := D :: (ps.map (·.1) ++ ow)) fun a ha => ?_).but (I := C) (fun b o hb e => sm4.extBut b o hb e) (XJ.fresh C (.head _)) (fun p hp => X'.apart p hp C (.head _)) ?_
        · rcases List.mem_cons.mp ha with h | h
          · exact h ▸ .tail _ (.head _)
          · exact .tail _ (.tail _ h)
        · intro h
          rcases List.mem_cons.mp h with h | h
          · exact cd h
          · rcases List.mem_append.mp h with h | h
            · exact nC h
            · exact nO C (.head _) h
      have X5 : Fx B n₀ (ps.map (·.1) ++ ow) H4 ((D, lst (ps.map fun p => .ref p.1) e) :: N) := X4.freeze (.head _) hD4 fun b hb => ⟨.tail _ hb, fun q => by
        rcases List.mem_append.mp hb with h | h
        · exact nD (q ▸ h)
        · exact nO D (.tail _ (.head _)) (q ▸ h)⟩
      refine next (.ref D) H4 _ _ ps X5 (hn3.sameBut sm4 hLC) ((g1.more.trans sbN).trans (Sub.cons _ _)) ⟨D, _, e, rfl, .head _, pairedPV _ ps⟩ (ra.keep fun p hp o q => sm4.extBut _ _ (fun z => nC (z ▸ List.mem_map_of_mem hp)) (sm3.extBut _ _ (fun z => hLp (z ▸ List.mem_map_of_mem hp)) q)) nd hc (fun a ha => nO a (.tail _ (.tail _ ha))) fun b o hb q => ?_
      have q1 := g1.keep b o q
      exact sm4.extBut b o (by rintro rfl; rw [X'.fresh b (.head _)] at q1; cases q1) (sm3.extBut b o hb (X'.keep b o q1))
  exact codeAny_compStart_list loop (W.self 0 _ _ _ st loop)
end
end Mine
end
section
open PySem PySem.W PyProof.Rows PySem.Calls
set_option Elab.async false
set_option autoImplicit false
set_option maxRecDepth 100000
namespace Mine
def rowF (under : List (List Int)) (k m : Int) : List Int := lineF under m ++ [k]
def linesF (under : List (List Int)) : List (List Int) := (rangeL 0 under.length).flatMap fun k => (under.getD k.toNat []).map (rowF under k)
def mergeIn (under ws : List (List Int)) : List (List Int) := (rangeL 0 under.length).map (fun k => [k]) ++ linesF under ++ ws
theorem rt_isExc : isSubtype (.type "RuntimeError") (.type "BaseException") = pure true := PySem.F.excRaise_RuntimeError.isExc
theorem rt_self : isSubtype (.type "RuntimeError") (.type "RuntimeError") = pure true := by rw [isSubtype_type]; kernel_rfl
theorem rt_notTuple : isSubtype (.type ((Manifest.find? "RuntimeError").elim "type" fun x => x.metatype)) (.type "tuple") = pure false := by
  rw [show ((Manifest.find? "RuntimeError").elim "type" fun x => x.metatype) = "type" from by kernel_rfl, isSubtype_type]; kernel_rfl
theorem iterL_len (under : List (List Int)) : ∀ (f : Nat) (l : List Int), (iterL under f l).length ≤ l.length + f
  | 0, l => by simp [iterL]
  | f + 1, l => by
    have h1 := iterL_len under f l
    have h2 : (stepL under (iterL under f l)).length ≤ (iterL under f l).length + 1 := by unfold stepL; rw [List.length_append, List.length_take]; grind
    show (stepL under (iterL under f l)).length ≤ _
    grind
theorem lineF_len (under : List (List Int)) (b : Int) : (lineF under b).length ≤ under.length + 1 := by
  have := iterL_len under under.length [b]
  unfold lineF; simp at this; grind
section
variable {prog : Program} {w : World} {mg mb : Str → Option Value} {k : Nat} {s : Shared} {n₁ : GL} {A : Around} {E : Value → Shared → Prop} {Q : Value → Shared → Prop}
theorem merged_call {under : List (List Int)} {ps₃ : List (Addr × List Int)} {uv wv : Value} (hA : Aok (k + 6) A) (G : Gd (KF w) mg mb (hideAll s.heap (ps₃.map (·.1)))) (ok : GOk n₁ s.heap) (hu : RowsV under n₁ uv) (hw : ListV PV ps₃ n₁ wv)
    (hps : RowsAt ps₃ s.heap) (nd : (ps₃.map (·.1)).Nodup) (hn : ∀ p, p ∈ n₁ → p.1 ∉ ps₃.map (·.1)) (bu : ∀ r ∈ under, InB under.length r) (z1 : under.length ≤ 50) (z0 : ∀ r ∈ under, r.length ≤ 1000) (z2 : (mergeIn under (ps₃.map (·.2))).length ≤ 1000) (z3 : totalL (mergeIn under (ps₃.map (·.2))) ≤ 10000)
    (qok : ∀ r, mergeF (mergeIn under (ps₃.map (·.2))) = some r → ∀ v h' tk n', Grow (hideAll s.heap (ps₃.map (·.1))) n₁ h' n' → RowV r n' v → Q v { s with heap := h', toks := tk })
    (qno : mergeF (mergeIn under (ps₃.map (·.2))) = none → ∃ base outer, A.frames = some outer ∧ base.StaysIn (hideAll s.heap (ps₃.map (·.1))) ∧ (hideAll s.heap (ps₃.map (·.1))).FunFrames base outer ∧ Gd (KF w) mg mb base ∧
      ∀ a h' tk t e, base.StaysIn h' → (hideAll s.heap (ps₃.map (·.1))).UpToSlots h' → base.get? a = none → h'.get? a = some (lst [.str (Str.ofString "refused") t] e) → Q (.ref a) { s with heap := h', toks := tk }) :
    wpAny (model prog w) A (call (.ref 149) [uv, wv]) Q E s := by
  generalize hadd : ps₃.map (·.1) = addrs at *
  have G' : Gd (KF w) mg mb s.heap := G.keeps fun _ _ e => of_hideAll _ e
  refine wpAny_call (codeAny_call_cells hA.room (G'.K _ _ (by rfl)) rfl G'.nolimit (codeRec_of G'.K (by rfl)) (by rfl) (by rfl) (by rfl) (kindsX (by rfl) _) (fun s₁ x => ?_))
  obtain ⟨h₁, tk, rfl, hk0⟩ := x.done
  have hA1 : ∀ env, Aok (k + 5) (A.deeper env) := fun env => (hA.deep _)
  have ns1 := x.toInCall.ns
  have cu := x.cell (Str.ofString "under") (s.heap.objs.size + 1) (by rfl)
  have fresh1 : ∀ a, s.heap.objs.size ≤ a → (hideAll s.heap addrs).get? a = none := fun a ha => by
    cases e : (hideAll s.heap addrs).get? a with
    | none => rfl
    | some o => have := of_hideAll _ e; rw [new_none' ha] at this; cases this
  have liveA : ∀ a, a ∈ addrs → ∃ o, s.heap.get? a = some o := fun a ha => by
    subst hadd
    obtain ⟨p, hp, rfl⟩ := List.mem_map.mp ha
    obtain ⟨vs, e, h1, _⟩ := hps p hp
    exact ⟨_, h1⟩
  have ltA : ∀ a, a ∈ addrs → a < s.heap.objs.size := fun a ha => let ⟨_, ho⟩ := liveA a ha; Heap.lt_size ho
  have X : Fx (hideAll s.heap addrs) n₁ (s.heap.objs.size :: (s.heap.objs.size + 1) :: addrs) h₁ n₁ := by
    refine ⟨fun b o e => hk0 _ _ (of_hideAll _ e), Sub.refl _, ok.keep hk0, fun _ e => .inl e, fun p hp a ha => ?_, fun a ha => ?_, fun a ha => ?_⟩
    · rcases List.mem_cons.mp ha with rfl | ha
      · exact Nat.ne_of_lt (Heap.lt_size (ok p hp))
      · rcases List.mem_cons.mp ha with rfl | ha
        · exact Nat.ne_of_lt (Nat.lt_succ_of_lt (Heap.lt_size (ok p hp)))
        · intro e; exact hn p hp (e ▸ ha)
    · rcases List.mem_cons.mp ha with rfl | ha
      · obtain ⟨o, _, _, ho, _⟩ := ns1; exact ⟨o, ho⟩
      · rcases List.mem_cons.mp ha with rfl | ha
        · obtain ⟨o, ho, _⟩ := cu; exact ⟨o, ho⟩
        · exact (liveA a ha).imp fun o ho => hk0 _ _ ho
    · rcases List.mem_cons.mp ha with rfl | ha
      · exact fresh1 _ (Nat.le_refl _)
      · rcases List.mem_cons.mp ha with rfl | ha
        · exact fresh1 _ (Nat.le_succ _)
        · exact hideAll_none _ ha
  have cL : s.heap.objs.size + 1 ≠ s.heap.objs.size := Nat.ne_of_gt (Nat.lt_succ_self _)
  have LA : s.heap.objs.size ∉ addrs := fun h => Nat.lt_irrefl _ (ltA _ h)
  have cA : s.heap.objs.size + 1 ∉ addrs := fun h => Nat.lt_irrefl _ (Nat.lt_trans (ltA _ h) (Nat.lt_succ_self _))
  have rows1 : RowsAt ps₃ h₁ := hps.keep fun p hp o e => hk0 _ _ e
  have addIn : ∀ p, p ∈ ps₃ → p.1 ∈ addrs := fun p hp => by rw [← hadd]; exact List.mem_map_of_mem hp
  -- places = range(len(under))
  refine st_assign (s := { s with heap := h₁, toks := tk }) (hA1 _) X ns1 (.head _) (F := RangeV 0 under.length) (ev_rangeLen mono_RowV (by exact Nat.le_trans (by assumption) (by decide)) (nmRange (G.keeps X.keep) (by rfl)) (nmLen (G.keeps X.keep) (by rfl)) (Ev.name (NameIs.cel cu) (mono_RowsV _) hu)) ?_
  intro plv h2 t2 n2 X2 N2 sb2 fpl kp2
  have cu2 : h2.IsCell (s.heap.objs.size + 1) (some uv) := by obtain ⟨o, ho, r⟩ := cu; exact ⟨o, kp2 _ _ cL ho, r⟩
  have hu2 := mono_RowsV _ _ _ _ sb2 hu
  have rows2 : RowsAt ps₃ h2 := rows1.keep fun p hp o e => kp2 _ _ (fun q => LA ((show p.1 = s.heap.objs.size from q) ▸ addIn p hp)) e
  have getU : ∀ {a : Int}, a ∈ rangeL 0 (under.length : Int) → 0 ≤ a ∧ a < under.length ∧ under[a.toNat]? = some (under.getD a.toNat []) := fun {a} ha => by
    obtain ⟨h1, h2⟩ := rangeL_inB _ a ha
    exact ⟨h1, h2, by rw [List.getD_eq_getElem?_getD, List.getElem?_eq_getElem (by exact (Int.toNat_lt (by assumption)).mpr (by assumption))]; rfl⟩
  have rowMem : ∀ {a : Int}, a ∈ rangeL 0 (under.length : Int) → under.getD a.toNat [] ∈ under := fun ha => List.mem_of_getElem? (getU ha).2.2
  -- lines = [..]
  refine st_assignF2 (s := { s with heap := h2, toks := t2 }) (hA1 _) X2 N2 (.head _) (F := IntV) (F2 := IntV) (Fi := RangeV 0 under.length) (Fi2 := fun a => RowV (under.getD a.toNat [])) (xs := rangeL 0 under.length) (ys := fun a => under.getD a.toNat []) (row := rowF under)
    (Ev.name (NameIs.loc N2 (by rfl)) (mono_RangeV _ _) fpl) (fun n' xv _ hv => hands_range (by decide) (by exact Nat.lt_of_le_of_lt (by assumption) (by decide)) hv) mono_IntV mono_IntV ?_ (fun a n' xv hv => hands_list hv) ?_ ?_ ?_
  · intro i a v C H N ha le' sb' fa nm
    have hm := List.mem_of_getElem? ha
    obtain ⟨h0, h1, hx⟩ := getU hm
    exact Ev.item (F := RowV) (xs := under) (i := a) mono_RowV h0 (by grind) hx (Ev.name (NameIs.cel (cu2.keeps le')) (mono_RowsV _) (mono_RowsV _ _ _ _ sb' hu2)) (Ev.name nm (mono_IntV _) fa)
  · intro i a v b u C H N ha hb le' sb' fa fb nm1 nm2
    have hm := List.mem_of_getElem? ha
    have GH := (G.keeps X2.keep).keeps le'
    refine EvN.addL mono_IntV ?_ (callDef (fa := 144) GH (by rfl) (Ev.nameE (NameIs.glo GH (by rfl))) (Ev.argsS (mono_RowsV under) (Ev.name (NameIs.cel (cu2.keeps le')) (mono_RowsV _) (mono_RowsV _ _ _ _ sb' hu2)) (Ev.argsS (mono_IntV b) (Ev.name nm2 (mono_IntV _) fb) Ev.args0)) ?_) (Ev.listN mono_IntV (by simp) (Ev.argsS (mono_IntV a) (Ev.name nm1 (mono_IntV _) fa) Ev.args0))
    · have := lineF_len under b
      simp only [List.length_singleton]; grind
    · refine arg2 fun u' v' n' _ hu' hv' => ?_
      exact line_ev (k := k + 3) GH hu' hv' (bu _ (rowMem hm) b hb) bu (by exact Nat.le_trans (by assumption) (by decide)) z0
  · have := z2; unfold mergeIn linesF at this; simp only [List.length_append] at this; grind
  intro lv h3 t3 n3 ps₂ X3 N3 sb3 fl rows3 nd2 hc2 ap2 kp3
  have hc2' : ps₂.map (·.2) = linesF under := hc2
  have G3 := G.keeps X3.keep
  have rows3' : RowsAt ps₃ h3 := rows2.keep fun p hp o e => kp3 _ _ (fun q => LA ((show p.1 = s.heap.objs.size from q) ▸ addIn p hp)) e
  have hw3 := mono_ListV mono_PV _ _ _ _ (sb2.trans sb3) hw
  -- try
  refine wpAny_execs_cons (wpAny_Try_except ?_)
  refine wpAny_execs_cons (wpAny_Return_some (Call_ ?_))
  refine NameIs.glo G3 (by rfl) (by rfl) (by rfl) (by rfl) (by decide) _ _ _ _ { s with heap := h3, toks := t3 } (fun _ _ e => e) ?_
  obtain ⟨oc, od, fd, osl, hK⟩ : ∃ oc od fd osl, (KF w).lookup 35 = some ⟨oc, od, .func fd, osl⟩ := ⟨_, _, _, _, by rfl⟩
  refine callWith_def (o := ⟨oc, od, .func fd, osl⟩) (fd := fd) rfl (args_cons (wpAny_BinOp (wpAny_BinOp ?_)) rfl) rfl
  refine (EvF.comp1 (F := IntV) (Fi := RangeV 0 under.length) (xs := rangeL 0 under.length) (row := fun a => [a]) (h := h3) (n := n3) (Ev.name (NameIs.loc N3 (by rfl)) (mono_RangeV _ _) (mono_RangeV _ _ _ _ _ sb3 fpl)) (fun n' xv _ hv => hands_range (by decide) (by exact Nat.lt_of_le_of_lt (by assumption) (by decide)) hv) mono_IntV ?_ (by rw [rangeL_length]; exact Nat.le_trans (by assumption) (by decide))) _ { s with heap := h3, toks := t3 } n3 _ _ (hA1 _) (Le.refl _) (Sub.refl _) X3.ok ?_
  · intro i a v C H N ha le' sb' fa nm
    exact EvN.listN (by simp) (Ev.argsS (mono_IntV a) (Ev.name nm (mono_IntV _) fa) Ev.args0)
  intro v1 h4 t4 n4 ps₁ X4 f1 rows4 nd1 hc1
  have le4 : Le h3 h4 := X4.keep
  have XX := X3.join X4
  refine (Ev.name (k := k + 5) (n := n4) (h := h4) (NameIs.loc (N3.keeps le4) (by rfl)) (mono_ListV mono_PV ps₂) (mono_ListV mono_PV _ _ _ _ X4.more fl)) _ { s with heap := h4, toks := t4 } n4 _ _ (hA1 _) (Le.refl _) (Sub.refl _) X4.ok ?_
  intro v2 h5 t5 n5 g5 f2
  have le5 : Le h4 h5 := g5.keep
  have f1' := mono_ListV mono_PV _ _ _ _ g5.more f1
  have len12 : ps₁.length + ps₂.length + ps₃.length ≤ 1000 := by
    have e1 := congrArg List.length hc1
    have e2 := congrArg List.length hc2'
    have e3 := z2
    unfold mergeIn at e3
    simp only [List.length_append, List.length_map] at e1 e2 e3
    grind
  refine (op_addL (k := k + 5) (h := h5) mono_PV f1' f2 (by grind)) _ { s with heap := h5, toks := t5 } n5 _ _ (hA1 _) (Le.refl _) (Sub.refl _) g5.at_ ?_
  intro v12 h6 t6 n6 g6 f12
  refine (Ev.name (k := k + 5) (n := n6) (h := h6) (NameIs.loc (((N3.keeps le4).keeps le5).keeps g6.keep) (by rfl)) (mono_ListV mono_PV ps₃) (mono_ListV mono_PV _ _ _ _ (X4.more.trans (g5.more.trans g6.more)) hw3)) _ { s with heap := h6, toks := t6 } n6 _ _ (hA1 _) (Le.refl _) (Sub.refl _) g6.at_ ?_
  intro v3 h7 t7 n7 g7 f3
  refine (op_addL (k := k + 5) (h := h7) mono_PV (mono_ListV mono_PV _ _ _ _ g7.more f12) f3 (by simp; exact Nat.le_trans (by assumption) (by decide))) _ { s with heap := h7, toks := t7 } n7 _ _ (hA1 _) (Le.refl _) (Sub.refl _) g7.at_ ?_
  intro vA h8 t8 n8 g8 fA
  have XA : Fx (hideAll s.heap addrs) n₁ _ h8 n8 := ((XX.grow g5).grow (g6.trans g7)).grow g8
  have le8 : Le h4 h8 := ((le5.trans g6.keep).trans g7.keep).trans g8.keep
  refine args_nil ⟨(G.keeps XA.keep).K _ _ hK, ?_⟩
  have hcs : (ps₁ ++ ps₂ ++ ps₃).map (·.2) = mergeIn under (ps₃.map (·.2)) := by rw [List.map_append, List.map_append, hc1, hc2']; rfl
  have inOw : ∀ a, a ∈ (ps₁ ++ ps₂ ++ ps₃).map (·.1) → a ∈ ps₁.map (·.1) ++ (ps₂.map (·.1) ++ s.heap.objs.size :: (s.heap.objs.size + 1) :: addrs) := fun a ha => by
    rw [List.map_append, List.map_append] at ha
    rcases List.mem_append.mp ha with ha | ha
    · rcases List.mem_append.mp ha with ha | ha
      · exact List.mem_append.mpr (.inl ha)
      · exact List.mem_append.mpr (.inr (List.mem_append.mpr (.inl ha)))
    · exact List.mem_append.mpr (.inr (List.mem_append.mpr (.inr (.tail _ (.tail _ (by rw [← hadd]; exact ha))))))
  have leB : Le (hideAll s.heap addrs) (hideAll h8 ((ps₁ ++ ps₂ ++ ps₃).map (·.1))) := fun b o e => hideAll_get _ (XA.keep _ _ e) fun hm => by rw [XA.fresh b (inOw b hm)] at e; cases e
  have rowsA : RowsAt (ps₁ ++ ps₂ ++ ps₃) h8 := fun p hp => by
    rcases List.mem_append.mp hp with hp | hp
    · rcases List.mem_append.mp hp with hp | hp
      · obtain ⟨vs, e, a, b⟩ := rows4 p hp; exact ⟨vs, e, le8 _ _ a, b⟩
      · obtain ⟨vs, e, a, b⟩ := rows3 p hp; exact ⟨vs, e, le8 _ _ (le4 _ _ a), b⟩
    · obtain ⟨vs, e, a, b⟩ := rows3' p hp; exact ⟨vs, e, le8 _ _ (le4 _ _ a), b⟩
  have ap1 : ∀ a, a ∈ ps₁.map (·.1) → h3.get? a = none := fun a ha => X4.fresh a ha
  have ndA : ((ps₁ ++ ps₂ ++ ps₃).map (·.1)).Nodup := by
    rw [List.map_append, List.map_append, List.nodup_append, List.nodup_append]
    refine ⟨⟨nd1, nd2, fun a ha b hb e => ?_⟩, by rw [hadd]; exact nd, fun a ha b hb e => ?_⟩
    · subst e
      obtain ⟨p, hp, rfl⟩ := List.mem_map.mp hb
      obtain ⟨_, _, h1, _⟩ := rows3 p hp
      rw [ap1 _ ha] at h1; cases h1
    · subst e
      rw [hadd] at hb
      rcases List.mem_append.mp ha with ha | ha
      · obtain ⟨p, hp, rfl⟩ := List.mem_map.mp (by rw [← hadd] at hb; exact hb)
        obtain ⟨_, _, h1, _⟩ := rows3' p hp
        rw [ap1 _ ha] at h1; cases h1
      · exact ap2 a ha (.tail _ (.tail _ hb))
  have LB : ∀ {o : Obj}, h8.get? s.heap.objs.size = some o → (hideAll h8 ((ps₁ ++ ps₂ ++ ps₃).map (·.1))).get? s.heap.objs.size = some o := fun ho => hideAll_get _ ho fun hm => by
    rw [List.map_append, List.map_append] at hm
    rcases List.mem_append.mp hm with hm | hm
    · rcases List.mem_append.mp hm with hm | hm
      · have := ap1 _ hm
        obtain ⟨o, _, _, ho, _⟩ := N3
        rw [show h3.get? s.heap.objs.size = some o from ho] at this; cases this
      · exact ap2 _ hm (.head _)
    · rw [hadd] at hm; exact LA hm
  refine c3_call (k := k + 1) (s := { s with heap := h8, toks := t8 }) (ps₀ := ps₁ ++ ps₂ ++ ps₃) (hA1 _) (G.keeps leB) g8.at_ fA rowsA ndA (fun p hp hm => XA.apart p hp _ (inOw _ hm) rfl) (by simp; grind) (by rw [hcs]; exact z3) ?_ ?_
  · intro r hr v h' tk' n' g fr
    rw [hcs] at hr
    exact qok r hr v h' tk' n' ⟨leB.trans g.keep, XA.more.trans g.more, g.at_, fun p hp => (g.new p hp).elim (XA.new p) fun q => .inr (leB.none q)⟩ fr
  · intro hr
    rw [hcs] at hr
    obtain ⟨base, outer, hfr, hst, hff, Gb, hq⟩ := qno hr
    have stB : base.StaysIn (hideAll h8 ((ps₁ ++ ps₂ ++ ps₃).map (·.1))) := fun b o e => leB _ _ (hst b o e)
    have hLnew : base.get? s.heap.objs.size = none := by
      cases e : base.get? s.heap.objs.size with
      | none => rfl
      | some o => have := of_hideAll _ (hst _ _ e); rw [new_none] at this; cases this
    have N8 := (N3.keeps le4).keeps le8
    refine ⟨base, _ :: outer, Around.frames_deeper hfr, stB, Heap.FunFrames.cons (L := s.heap.objs.size) (by intro q; cases q) (by rfl) (N8.at' fun o e => LB e) hLnew (hff.of_keeps fun b o hb _ => ⟨o, leB _ _ hb, rfl⟩), ?_⟩
    intro e h9 tk9 ta fly up
    refine wpAny_looks_onW (s := { s with heap := h9, toks := tk9 }) (L := s.heap.objs.size) (Around.frames_deeper hfr) (by rfl) fly fun h10 held up10 => ?_
    refine wpAny_landsW (s := { s with heap := h10, toks := tk9 }) held fun h11 fly11 up11 => ?_
    refine wpAny_handleBy_builtin (X := "RuntimeError") (T := "RuntimeError") (b := true) rt_isExc rt_notTuple rt_self ?_
    refine NameIs.bui (Gb.keeps fly11.1) (x := Str.ofString "RuntimeError") (by rfl) (v := .type "RuntimeError") (by decide +kernel) (by decide) (by rfl) (by rfl) (by rfl) (by rfl) (by decide) _ _ _ _ { s with heap := h11, toks := tk9 } (fun _ _ e => e) ⟨rfl, ?_, ?_⟩
    · obtain ⟨ob, h1, h2⟩ := fly11.there
      exact ⟨ob, h1, h2⟩
    simp only [if_true]
    refine wpAny_setFlight_noneW (s := { s with heap := h11, toks := tk9 }) fly11.1 fly11.2.2.1 fly11.2.2.2.at fun h12 st12 ff12 tr12 kp12 => ?_
    refine wpAny_execs_cons (wpAny_Return_some (List_ (args_cons (wpAny_Constant_str (args_nil (wpAny_newObj_type ?_))) rfl)))
    refine hq h12.objs.size _ _ _ 0 (fun b o e => Le.push _ _ _ _ (st12 b o e)) ?_ ?_ (Heap.get?_push_size _ rfl)
    · exact (Heap.UpToSlots.of_keeps leB).trans (up.trans (up10.trans (up11.trans (Heap.UpToSlots.trans (fun b o e hn => ⟨o.slots, kp12 b o e hn⟩) (Heap.UpToSlots.of_keeps (Le.push _ _))))))
    · exact Heap.StaysIn.fresh st12
end
end Mine
end
section
open PySem PySem.W PyProof.Rows PySem.Calls
set_option Elab.async false
set_option autoImplicit false
namespace Mine
/-- a tree of questions, answered by lt: each asks two places that differ, and the end is as P says -/
def Sat {α : Type} (n : Nat) (lt : Nat → Nat → Bool) : KasT α → (α → Prop) → Prop
  | .ret a, P => P a
  | .ask i j k, P => i ≠ j ∧ i < n ∧ j < n ∧ Sat n lt (k (lt i j)) P
theorem Sat.bind {α β : Type} {n : Nat} {lt : Nat → Nat → Bool} {f : α → KasT β} {P : α → Prop} {R : β → Prop} (hf : ∀ a, P a → Sat n lt (f a) R) : ∀ (t : KasT α), Sat n lt t P → Sat n lt (t.bind f) R
  | .ret a, h => hf a h
  | .ask i j k, h => ⟨h.1, h.2.1, h.2.2.1, Sat.bind hf (k (lt i j)) h.2.2.2⟩
theorem Sat.wp {α : Type} {n : Nat} {lt : Nat → Nat → Bool} {cmp : Nat → Nat → (Bool → Shared → Prop) → Shared → Prop} {P : α → Prop} {Q : α → Shared → Prop} {Inv : Shared → Prop}
    (hc : ∀ i j C s, i ≠ j → i < n → j < n → Inv s → (∀ s', Inv s' → C (lt i j) s') → cmp i j C s) (hq : ∀ a s, P a → Inv s → Q a s) : ∀ (t : KasT α) (s : Shared), Sat n lt t P → Inv s → t.kasWp cmp Q s
  | .ret a, s, h, hI => hq a s h hI
  | .ask i j k, s, h, hI => hc i j _ s h.1 h.2.1 h.2.2.1 hI fun s' hI' => Sat.wp hc hq (k (lt i j)) s' h.2.2.2 hI'

section
variable {n : Nat} {key : Nat → Int}
def Pm (n : Nat) (p : Array Nat) : Prop := p.toList.Perm (List.range n)
abbrev kp (key : Nat → Int) (p : Array Nat) (i : Nat) : Int := key (p.getD i 0)
theorem Pm.size {p : Array Nat} (h : Pm n p) : p.size = n := by have := h.length_eq; simpa using this
theorem Pm.lt {p : Array Nat} (h : Pm n p) {i : Nat} (hi : i < n) : p.getD i 0 < n := by
  have hz := h.size
  have e : p.getD i 0 = p[i] := by simp [Array.getD, hz, hi]
  rw [e]
  have : p[i] ∈ p.toList := by simp
  simpa using h.mem_iff.mp this
theorem Pm.inj {p : Array Nat} (h : Pm n p) {i j : Nat} (hi : i < n) (hj : j < n) (e : p.getD i 0 = p.getD j 0) : i = j := by
  have hz := h.size
  have hn : p.toList.Nodup := h.nodup_iff.mpr List.nodup_range
  have e1 : p.toList[i]? = some (p.getD i 0) := by simp [Array.getD, hz, hi]
  have e2 : p.toList[j]? = some (p.getD i 0) := by rw [e]; simp [Array.getD, hz, hj]
  exact nodup_idx hn e1 e2
/-- the first m stand in order -/
def Mo (r : Int → Int → Prop) (key : Nat → Int) (p : Array Nat) (m : Nat) : Prop := ∀ i j, i < j → j < m → r (kp key p i) (kp key p j)
abbrev Up (key : Nat → Int) (p : Array Nat) (m : Nat) : Prop := Mo (· < ·) key p m
abbrev Dn (key : Nat → Int) (p : Array Nat) (m : Nat) : Prop := Mo (fun a b => b < a) key p m
theorem Mo.snoc {r : Int → Int → Prop} (tr : ∀ a b c, r a b → r b c → r a c) {p : Array Nat} {m : Nat} (hu : Mo r key p m) (hl : r (kp key p (m - 1)) (kp key p m)) : Mo r key p (m + 1) := fun i j hij hj => by
  rcases Nat.lt_or_eq_of_le (Nat.le_of_lt_succ hj) with e | rfl
  · exact hu i j hij e
  · rcases Nat.lt_or_eq_of_le (Nat.le_sub_one_of_lt hij) with e | rfl
    · exact tr _ _ _ (hu i (j - 1) e (Nat.sub_one_lt_of_lt hij)) hl
    · exact hl
theorem a1 {m f : Nat} (h : m + (f + 1) ≤ n) : m < n := Nat.lt_of_lt_of_le (Nat.lt_add_of_pos_right (Nat.succ_pos f)) h
theorem a2 {m f : Nat} (h : m + (f + 1) ≤ n) : m - 1 < n := Nat.lt_of_le_of_lt (Nat.sub_le m 1) (a1 h)
theorem a3 {m : Nat} (h : 1 ≤ m) : m ≠ m - 1 := Nat.ne_of_gt (Nat.sub_one_lt_of_lt h)
theorem a4 {m f : Nat} (h : m + (f + 1) ≤ n) : m + 1 + f ≤ n := Nat.le_trans (Nat.le_of_eq (Nat.add_right_comm m 1 f)) h
theorem Sat.mono {α : Type} {lt : Nat → Nat → Bool} {P R : α → Prop} (hpr : ∀ a, P a → R a) : ∀ (t : KasT α), Sat n lt t P → Sat n lt t R
  | .ret a, h => hpr a h
  | .ask i j k, h => ⟨h.1, h.2.1, h.2.2.1, Sat.mono hpr (k (lt i j)) h.2.2.2⟩
theorem Sat.ask {α : Type} {P : α → Prop} {i j : Nat} {k : Bool → KasT α} (hij : i ≠ j) (hi : i < n) (hj : j < n) (yes : key i < key j → Sat n (fun i j => decide (key i < key j)) (k true) P) (no : ¬ key i < key j → Sat n (fun i j => decide (key i < key j)) (k false) P) :
    Sat n (fun i j => decide (key i < key j)) (.ask i j k) P := by
  refine ⟨hij, hi, hj, ?_⟩
  by_cases c : key i < key j
  · rw [show (fun i j => decide (key i < key j)) i j = true from decide_eq_true c]; exact yes c
  · rw [show (fun i j => decide (key i < key j)) i j = false from decide_eq_false c]; exact no c
variable (hk : ∀ i j, i < n → j < n → key i = key j → i = j)
include hk
theorem kp_ne {p : Array Nat} (h : Pm n p) {i j : Nat} (hi : i < n) (hj : j < n) (hij : i ≠ j) : kp key p i ≠ kp key p j := fun e => hij (h.inj hi hj (hk _ _ (h.lt hi) (h.lt hj) e))
theorem kp_lt {p : Array Nat} (h : Pm n p) {i j : Nat} (hi : i < n) (hj : j < n) (hij : i ≠ j) (c : ¬ kp key p i < kp key p j) : kp key p j < kp key p i := Int.lt_iff_le_and_ne.mpr ⟨Int.not_lt.mp c, kp_ne hk h hj hi (Ne.symm hij)⟩
/-- the run, with its stop told -/
theorem sat_asc {p : Array Nat} (h : Pm n p) : ∀ (f m : Nat), 1 ≤ m → m + f ≤ n → Up key p m → Sat n (fun i j => decide (key i < key j)) (kas_asc p f m) (fun r => m ≤ r ∧ r ≤ m + f ∧ Up key p r ∧ (r < m + f → kp key p r < kp key p (r - 1)))
  | 0, m, _, _, hu => ⟨Nat.le_refl _, Nat.le_refl _, hu, fun q => absurd q (Nat.lt_irrefl _)⟩
  | f + 1, m, h1, h2, hu => by
    refine Sat.ask (fun e => a3 h1 (h.inj (a1 h2) (a2 h2) e)) (h.lt (a1 h2)) (h.lt (a2 h2)) (fun c => ⟨Nat.le_refl _, Nat.le_add_right _ _, hu, fun _ => c⟩) fun c => ?_
    have ih := sat_asc h f (m + 1) (Nat.le_add_left 1 m) (a4 h2) (Mo.snoc (r := (· < ·)) (fun _ _ _ => Int.lt_trans) hu (kp_lt hk h (a1 h2) (a2 h2) (a3 h1) c))
    rw [Nat.add_right_comm m 1 f] at ih
    exact Sat.mono (fun r hr => ⟨Nat.le_trans (Nat.le_add_right m 1) hr.1, hr.2⟩) _ ih
theorem sat_desc {p : Array Nat} (h : Pm n p) : ∀ (f m : Nat), 1 ≤ m → m + f ≤ n → Dn key p m → Sat n (fun i j => decide (key i < key j)) (kas_desc f p m 0) (fun r => ∃ q, r = (p, q, 0) ∧ 1 ≤ q ∧ q ≤ n ∧ Dn key p q)
  | 0, m, h1, h2, hu => ⟨m, rfl, h1, h2, hu⟩
  | f + 1, m, h1, h2, hu => by
    refine Sat.ask (fun e => a3 h1 (h.inj (a1 h2) (a2 h2) e)) (h.lt (a1 h2)) (h.lt (a2 h2)) (fun c => ?_) fun c => ?_
    · exact sat_desc h f (m + 1) (Nat.le_add_left 1 m) (a4 h2) (Mo.snoc (r := fun a b => b < a) (fun _ _ _ a b => Int.lt_trans b a) hu c)
    · exact Sat.ask (fun e => a3 h1 (h.inj (a2 h2) (a1 h2) e).symm) (h.lt (a2 h2)) (h.lt (a1 h2)) (fun _ => ⟨m, rfl, h1, Nat.le_of_lt (a1 h2), hu⟩) fun c' => absurd (kp_lt hk h (a1 h2) (a2 h2) (a3 h1) c) c'
omit hk in
theorem Pm.rev {p : Array Nat} (h : Pm n p) (i j : Nat) : Pm n (kas_rev p i j) := (Array.perm_iff_toList_perm.mp (mirror_perm p i j _)).trans h
omit hk in
theorem Pm.bub {p : Array Nat} (h : Pm n p) (i j : Nat) : Pm n (bubble p i j) := (Array.perm_iff_toList_perm.mp (bubble_perm p i j)).trans h
omit hk in
theorem kp_of {p q : Array Nat} {i j : Nat} (h : p[i]? = q[j]?) : kp key p i = kp key q j := by
  unfold kp
  rw [Array.getD_eq_getD_getElem?, Array.getD_eq_getD_getElem?, h]
theorem sat_tail3 {p : Array Nat} (h : Pm n p) {m : Nat} (h1 : 1 ≤ m) (h2 : m ≤ n) (hd : Dn key p m) : Sat n (fun i j => decide (key i < key j)) (kas_tail3 m n p) (fun r => 1 ≤ r.1 ∧ r.1 ≤ n ∧ Pm n r.2 ∧ Up key r.2 r.1) := by
  have hz := h.size
  have hu : Up key (kas_rev p 0 m) m := fun i j hij hj => by
    have e : ∀ k, k < m → kp key (kas_rev p 0 m) k = kp key p (m - 1 - k) := fun k hk' => kp_of (by
      unfold kas_rev
      rw [getElem?_mirror_all (by grind), if_pos (by grind)]
      congr 1; grind)
    rw [e i (Nat.lt_trans hij hj), e j hj]
    exact hd _ _ (by grind) (by grind)
  unfold kas_tail3
  refine Sat.bind ?_ _ (sat_asc hk (h.rev 0 m) (n - m) m h1 (Nat.le_of_eq (Nat.add_sub_cancel' h2)) hu)
  rintro r ⟨hr1, hr2, hr3, _⟩
  exact ⟨Nat.le_trans h1 hr1, Nat.le_trans hr2 (Nat.le_of_eq (Nat.add_sub_cancel' h2)), h.rev 0 m, hr3⟩
theorem sat_descPart {p : Array Nat} (h : Pm n p) (h2 : 2 ≤ n) (hd : kp key p 1 < kp key p 0) : Sat n (fun i j => decide (key i < key j)) (kas_descPart 1 n p) (fun r => 1 ≤ r.1 ∧ r.1 ≤ n ∧ Pm n r.2 ∧ Up key r.2 r.1) := by
  unfold kas_descPart
  refine Sat.bind ?_ _ (sat_desc hk h (n - (1 + 1)) (1 + 1) (Nat.le_add_left 1 1) (Nat.le_of_eq (Nat.add_sub_cancel' h2)) (Mo.snoc (r := fun a b => b < a) (m := 1) (fun _ _ _ a b => Int.lt_trans b a) (fun i j hij hj => absurd (Nat.lt_of_le_of_lt (Nat.zero_le i) hij) (Nat.not_lt.mpr (Nat.le_of_lt_succ hj))) hd))
  rintro _ ⟨q, rfl, q1, q2, q3⟩
  simp only [gt_iff_lt, Nat.lt_irrefl, if_false]
  exact sat_tail3 hk h q1 q2 q3
theorem sat_count {p : Array Nat} (h : Pm n p) (h2 : 2 ≤ n) : Sat n (fun i j => decide (key i < key j)) (kas_count n p) (fun r => 1 ≤ r.1 ∧ r.1 ≤ n ∧ Pm n r.2 ∧ Up key r.2 r.1) := by
  unfold kas_count
  have n1 : 1 ≤ n := Nat.le_of_succ_le h2
  have e1 : 1 + (n - 1) = n := Nat.add_sub_cancel' n1
  have st := sat_asc hk h (n - 1) 1 (Nat.le_refl _) (Nat.le_of_eq e1) fun i j hij hj => absurd (Nat.lt_of_le_of_lt (Nat.zero_le i) hij) (Nat.not_lt.mpr (Nat.le_of_lt_succ hj))
  rw [e1] at st
  refine Sat.bind ?_ _ st
  rintro r ⟨r1, r2, r3, r4⟩
  by_cases e : (r == n) = true
  · simp only [e, if_true]
    exact ⟨r1, r2, h, r3⟩
  · have hlt : r < n := Nat.lt_of_le_of_ne r2 fun q => e (by rw [q]; exact beq_self_eq_true _)
    simp only [e, Bool.false_eq_true, if_false]
    by_cases e2 : r > 1
    · simp only [e2, if_true]
      have l1 : r - 1 < r := Nat.sub_one_lt_of_lt r1
      have l0 : 0 < r - 1 := Nat.sub_pos_of_lt e2
      have hn : r - 1 < n := Nat.lt_trans l1 hlt
      exact Sat.ask (fun q => Nat.ne_of_lt l0 (h.inj n1 hn q)) (h.lt n1) (h.lt hn) (fun _ => ⟨r1, r2, h, r3⟩) fun c => absurd (r3 0 (r - 1) l0 l1) c
    · simp only [e2, if_false]
      have : r = 1 := Nat.le_antisymm (Nat.not_lt.mp e2) r1
      subst this
      exact sat_descPart hk h h2 (r4 hlt)
theorem sat_place {p : Array Nat} (h : Pm n p) {k : Nat} (hkn : k < n) (hu : Up key p k) : ∀ (f l r : Nat), l ≤ r → r ≤ k → r ≤ l + f → (∀ j, j < l → kp key p j < kp key p k) → (∀ j, r ≤ j → j < k → kp key p k < kp key p j) →
    Sat n (fun i j => decide (key i < key j)) (kas_place p k f l r) (fun l' => l' ≤ k ∧ (∀ j, j < l' → kp key p j < kp key p k) ∧ (∀ j, l' ≤ j → j < k → kp key p k < kp key p j))
  | 0, l, r, h1, h2, h3, a, b => ⟨Nat.le_trans h1 h2, a, fun j hj => b j (Nat.le_trans h3 hj)⟩
  | f + 1, l, r, h1, h2, h3, a, b => by
    unfold kas_place
    by_cases e : l ≥ r
    · simp only [e, if_true]
      exact ⟨Nat.le_trans h1 h2, a, fun j hj => b j (Nat.le_trans e hj)⟩
    · simp only [e, if_false]
      obtain ⟨m1, m2, m3, m4⟩ : l ≤ (l + r) / 2 ∧ (l + r) / 2 < r ∧ (l + r) / 2 ≤ l + f ∧ r ≤ (l + r) / 2 + 1 + f := by grind
      generalize (l + r) / 2 = mid at m1 m2 m3 m4 ⊢
      have hm : mid < k := Nat.lt_of_lt_of_le m2 h2
      have hmn : mid < n := Nat.lt_trans hm hkn
      refine Sat.ask (fun q => Nat.ne_of_gt hm (h.inj hkn hmn q)) (h.lt hkn) (h.lt hmn) (fun c => ?_) fun c => ?_
      · refine sat_place h hkn hu f l mid m1 (Nat.le_of_lt hm) m3 a fun j hj hjk => ?_
        rcases Nat.lt_or_eq_of_le hj with e2 | rfl
        · exact Int.lt_trans c (hu _ _ e2 hjk)
        · exact c
      · have hlt := kp_lt hk h hkn hmn (Nat.ne_of_gt hm) c
        refine sat_place h hkn hu f (mid + 1) r m2 h2 m4 (fun j hj => ?_) b
        rcases Nat.lt_or_eq_of_le (Nat.le_of_lt_succ hj) with e2 | rfl
        · exact Int.lt_trans (hu _ _ e2 hm) hlt
        · exact hlt
theorem sat_bin : ∀ (f : Nat) (p : Array Nat) (k : Nat), Pm n p → k + f = n → Up key p k → Sat n (fun i j => decide (key i < key j)) (kas_bin f p k) (fun p' => Pm n p' ∧ Up key p' n)
  | 0, p, k, h, hf, hu => ⟨h, by cases hf; exact hu⟩
  | f + 1, p, k, h, hf, hu => by
    have hz := h.size
    have hkn : k < n := a1 (Nat.le_of_eq hf)
    refine Sat.bind ?_ _ (sat_place hk h hkn hu k 0 k (Nat.zero_le _) (Nat.le_refl _) (Nat.le_add_left _ _) (fun j hj => absurd hj (Nat.not_lt_zero _)) fun j h1 h2 => absurd h2 (Nat.not_lt.mpr h1))
    rintro l ⟨l1, l2, l3⟩
    refine sat_bin f _ (k + 1) (h.bub k (k - l)) ((Nat.add_right_comm k 1 f).trans hf) fun i j hij hj => ?_
    have e : ∀ q, q < k + 1 → kp key (bubble p k (k - l)) q = if q = l then kp key p k else if l < q then kp key p (q - 1) else kp key p q := fun q hq => by
      have g := getElem?_bubble (xs := p) (src := k) (by rw [hz]; exact hkn) (k - l) (Nat.sub_le k l) q
      rw [Nat.sub_sub_self l1] at g
      by_cases c1 : q = l
      · rw [if_pos c1] at g ⊢; exact kp_of g
      · rw [if_neg c1] at g ⊢
        by_cases c2 : l < q
        · rw [if_pos ⟨c2, Nat.le_of_lt_succ hq⟩] at g; rw [if_pos c2]; exact kp_of g
        · rw [if_neg fun c => c2 c.1] at g; rw [if_neg c2]; exact kp_of g
    have hik : i < k := Nat.lt_of_lt_of_le hij (Nat.le_of_lt_succ hj)
    have hj1 : j - 1 < k := Nat.lt_of_lt_of_le (Nat.sub_one_lt_of_lt hij) (Nat.le_of_lt_succ hj)
    rw [e i (Nat.lt_succ_of_lt hik), e j hj]
    rcases Nat.lt_trichotomy i l with c | rfl | c
    · rw [if_neg (Nat.ne_of_lt c), if_neg (Nat.not_lt.mpr (Nat.le_of_lt c))]
      by_cases c3 : j = l
      · rw [if_pos c3]; exact l2 i c
      · rw [if_neg c3]
        by_cases c4 : l < j
        · rw [if_pos c4]
          exact hu _ _ (Nat.lt_of_lt_of_le c (Nat.le_sub_one_of_lt c4)) hj1
        · rw [if_neg c4]; exact hu _ _ hij (Nat.lt_of_lt_of_le (Nat.lt_of_le_of_ne (Nat.not_lt.mp c4) c3) l1)
    · rw [if_pos rfl, if_neg (Nat.ne_of_gt hij), if_pos hij]
      exact l3 _ (Nat.le_sub_one_of_lt hij) hj1
    · rw [if_neg (Nat.ne_of_gt c), if_pos c, if_neg (Nat.ne_of_gt (Nat.lt_trans c hij)), if_pos (Nat.lt_trans c hij)]
      exact hu _ _ (Nat.sub_lt_sub_right (Nat.succ_le_of_lt (Nat.lt_of_le_of_lt (Nat.zero_le l) c)) hij) hj1
theorem sat_sort (h2 : 2 ≤ n) : Sat n (fun i j => decide (key i < key j)) (kas_sort n) (fun p => Pm n p ∧ Up key p n) := by
  unfold kas_sort
  have h : Pm n (List.toArray (List.range n)) := List.Perm.refl _
  refine Sat.bind ?_ _ (sat_count hk h h2)
  rintro ⟨r, p⟩ ⟨r1, r2, r3, r4⟩
  show Sat n _ (if r < n then _ else _) _
  by_cases e : r < n
  · rw [if_pos e, Nat.max_eq_left r1]
    exact sat_bin hk (n - r) p r r3 (Nat.add_sub_cancel' r2) r4
  · rw [if_neg e]
    cases Nat.le_antisymm r2 (Nat.not_lt.mp e)
    exact ⟨r3, r4⟩
end
end Mine
end
section
open PySem PySem.W PyProof.Rows PySem.Calls
set_option Elab.async false
set_option autoImplicit false
set_option maxRecDepth 100000
namespace Mine
section
open PySem.SeqAt MeetsSeq MeetsSeq2 MeetsSeq3
open AutoSeq1 (wpAny_loadPart')
theorem lt_loop0 (l b : Addr) (items items2 : Array Value) (n n2 : Nat) (x y : Int) (t u : Tok) (h0 : items[0]? = some (.int x t)) (h1 : items2[0]? = some (.int y u)) (hne : x ≠ y) :
    Meets (Builtin.«list.__eq__.loop» ⟨[.ref l, .ref b, rawInt 0, rawInt 0], []⟩)
      (fun _ R s => s.heap.get? l = some { cls := .type "list", data := .seq items n } ∧ s.heap.get? b = some { cls := .type "list", data := .seq items2 n2 } ∧ R (.ok (.ret (.bool (decide (x < y))))) s) := by
  intro prog w A R s h
  obtain ⟨hp, g, d, tk, os⟩ := s; obtain ⟨hl, hb, h⟩ := h
  wp_walk using wpAny_loadPart' hl, wpAny_loadPart' hb
  have hi1 : items[((0 : Nat) : Int).toNat]? = some (.int x t) := by simpa using h0
  have hi2 : items2[((0 : Nat) : Int).toNat]? = some (.int y u) := by simpa using h1
  have hi1' : items[(0 : Int).toNat]? = some (.int x t) := by simpa using h0
  have hi2' : items2[(0 : Int).toNat]? = some (.int y u) := by simpa using h1
  first | rw [hi1, hi2] | rw [hi1', hi2']
  have hq := EqAt.int_int (A := A.in1) (s := ⟨hp, g, d, tk, os⟩) x t y u
  refine wpAny_bind (hq prog w _ _ ?_)
  have : (x == y) = false := by simpa using hne
  rw [this]
  wp_walk using wpAny_loadPart' hl, wpAny_loadPart' hb
  first | rw [hi1, hi2] | rw [hi1', hi2']
  refine wpAny_bind (wpAny_lt_int (prog := prog) (w := w) ?_)
  wp_walk
  exact h
theorem list_lt0 (l b : Addr) (items items2 : Array Value) (n n2 : Nat) (x y : Int) (t u : Tok) (h0 : items[0]? = some (.int x t)) (h1 : items2[0]? = some (.int y u)) (hne : x ≠ y) :
    Meets (Builtin.«list.__lt__» ⟨[.ref l, .ref b], []⟩)
      (fun _ R s => s.heap.get? l = some { cls := .type "list", data := .seq items n } ∧ s.heap.get? b = some { cls := .type "list", data := .seq items2 n2 } ∧ R (.ok (.ret (.bool (decide (x < y))))) s) := by
  intro prog w A R s h
  obtain ⟨hp, g, d, tk, os⟩ := s; obtain ⟨hl, hb, h⟩ := h
  have f3 := AutoSeq1.sub_list_list
  wp_walk using wpAny_loadPart' hl, wpAny_loadPart' hb
  exact ⟨plainId_quiet plain_eq_loop _, codeAny_builtin entry_eq_loop (by
    rw [Around.under_plainId plain_eq_loop _]
    exact lt_loop0 l b items items2 n n2 x y t u h0 h1 hne prog w A R _ ⟨hl, hb, h⟩)⟩
end
section
variable {prog : Program} {w : World} {A : Around} {E : Value → Shared → Prop} {s : Shared}
theorem row_lt {l b : Addr} {vs ws : List Value} {n n2 : Nat} {x y : Int} {t u : Tok} {Q : Bool → Shared → Prop} (hu : A.units < cLine) (hl : s.heap.get? l = some (lst vs n)) (hb : s.heap.get? b = some (lst ws n2)) (h0 : vs[0]? = some (.int x t)) (h1 : ws[0]? = some (.int y u)) (hne : x ≠ y)
    (h : Q (decide (x < y)) s) : wpAny (model prog w) A (keyLt' oneType' (.ref l) (.ref b)) Q E s := by
  rw [keyLt'_oneType, oneLt'_eq]
  simp only [if_true]
  refine wpAny_bind (wpAny_cRoomFor hu ?_)
  refine wpAny_bind (wpAny_callSpecialIfBound?_slot (name := Str.ofString "__lt__") ⟨_, hl, rfl⟩ PySem.F.slot_list_lt (call_meets PySem.F.slot_list_lt ⟨_, hl, rfl⟩ PySem.F.entry_list_lt (PySem.F.args_list_lt_2 _ _) (list_lt0 l b vs.toArray ws.toArray n n2 x y t u (by simpa using h0) (by simpa using h1) hne) ⟨hl, hb, ?_⟩))
  exact wpAny_truthy_bool h
end
end Mine
end
section
open PySem PySem.W PyProof.Rows PySem.Calls
set_option Elab.async false
set_option autoImplicit false
set_option maxRecDepth 100000
namespace Mine
def allBut (h : Heap) (L : Addr) : List (Addr × Obj) := (List.range h.objs.size).filterMap fun b => if b = L then none else (h.get? b).map (b, ·)
theorem mem_allBut {h : Heap} {L : Addr} {p : Addr × Obj} : p ∈ allBut h L ↔ p.1 ≠ L ∧ h.get? p.1 = some p.2 := by
  unfold allBut
  rw [List.mem_filterMap]
  constructor
  · rintro ⟨b, _, hb⟩
    by_cases e : b = L
    · rw [if_pos e] at hb; cases hb
    · rw [if_neg e] at hb
      cases q : h.get? b with
      | none => rw [q] at hb; cases hb
      | some o => rw [q] at hb; cases hb; exact ⟨e, q⟩
  · rintro ⟨h1, h2⟩
    refine ⟨p.1, List.mem_range.mpr (Heap.lt_size h2), ?_⟩
    rw [if_neg h1, h2]; rfl
abbrev noHeap : Heap := { objs := #[] }
theorem noHeap_none (b : Addr) : noHeap.get? b = none := Heap.get?_none_of_le (Nat.zero_le _)
theorem sorted_unique {α : Type} {lt : α → α → Prop} (asym : ∀ a b, lt a b → lt b a → False) : ∀ {l r : List α}, l.Perm r → l.Pairwise lt → r.Pairwise lt → l = r := by
  intro l r hp hl hr
  exact hp.eq_of_pairwise (fun a b _ _ h1 h2 => (asym a b h1 h2).elim) hl hr
theorem heads_int {n : GL} {r : List Int} {v : Value} (h : RowV r n v) (hne : r ≠ []) : ∃ a vs e t, v = .ref a ∧ (a, lst vs e) ∈ n ∧ vs[0]? = some (.int (r.headD 0) t) := by
  obtain ⟨a, vs, e, rfl, hm, hp⟩ := h
  obtain ⟨x, r', rfl⟩ := List.exists_cons_of_ne_nil hne
  cases hp with
  | cons h t => obtain ⟨tk, rfl⟩ := h; exact ⟨a, _, e, tk, rfl, hm, rfl⟩
section
variable {prog : Program} {w : World} {A : Around} {E : Value → Shared → Prop} {s : Shared} {k : Nat}
theorem sorted_rows {B : Heap} {n₀ n : GL} {ow : List Addr} {L l : Addr} {m : Str → Option Value} {vs : List Value} {e0 : Nat} {rows out : List (List Int)} {Q : Value → Shared → Prop} (hA : Aok (k + 1) A) (X : Fx B n₀ ow s.heap n) (N : s.heap.Ns L m) (hL : L ∈ ow)
    (hl : s.heap.get? l = some (lst vs e0)) (hv : Paired (fun r v => RowV r n v) rows vs) (h2 : 2 ≤ rows.length) (h64 : rows.length < 64) (hne : ∀ r ∈ rows, r ≠ []) (hd : (rows.map (·.headD 0)).Nodup)
    (hp : out.Perm rows) (hs : out.Pairwise fun r r' => r.headD 0 < r'.headD 0)
    (q : ∀ D vs' e h', Fx B n₀ ow h' ((D, lst vs' e) :: n) → h'.Ns L m → Paired (fun r v => RowV r n v) out vs' → (∀ b o, b ≠ L → s.heap.get? b = some o → h'.get? b = some o) → Q (.ref D) { s with heap := h' }) :
    wpAny (model prog w) A (call (.builtin "sorted") [.ref l]) Q E s := by
  have lv := hv.length
  have getV : ∀ i, i < vs.length → ∃ a ws e t, vs.getD i .none = .ref a ∧ (a, lst ws e) ∈ n ∧ ws[0]? = some (.int ((rows.getD i []).headD 0) t) := fun i hi => by
    have e1 : vs[i]? = some (vs.getD i .none) := getD_some hi
    obtain ⟨r, hr, fr⟩ := Paired.get' hv e1
    have e2 : rows.getD i [] = r := by simp [List.getD, hr]
    rw [e2]
    exact heads_int fr (hne r (List.mem_of_getElem? hr))
  have nL : ∀ p, p ∈ n → p.1 ≠ L := fun p hp => X.apart p hp L hL
  refine kas_sorted (h₀ := noHeap) (L := L) (m := m) (news := allBut s.heap L) (vs := vs) (T := .type "list") ⟨N, (fun b o e => by rw [noHeap_none] at e; exact absurd e (by simp)), Nat.zero_le _⟩ (fun p hp => ⟨(mem_allBut.mp hp).2, (mem_allBut.mp hp).1, noHeap_none _⟩)
    ⟨_, hl, rfl, _, rfl⟩ (by grind) (by grind) ?_ (by decide) ?_
  · intro h F' N' v hvm
    obtain ⟨i, hi⟩ := List.mem_iff_getElem?.mp hvm
    have hlt : i < vs.length := (List.getElem?_eq_some_iff.mp hi).1
    obtain ⟨a, ws, e, t, e1, hm, _⟩ := getV i hlt
    have e2 : v = .ref a := by rw [← e1]; simp [List.getD, hi]
    subst e2
    have hh := (N' (a, lst ws e) (mem_allBut.mpr ⟨nL _ hm, X.ok _ hm⟩)).1
    exact (Looks.ld (part := none) hh).andThen .now
  · intro D e1 h' F' N' hlt
    have keep1 : ∀ b o, b ≠ L → s.heap.get? b = some o → h'.get? b = some o := fun b o hb e => (N' (b, o) (.tail _ (mem_allBut.mpr ⟨hb, e⟩))).1
    have hDn : s.heap.get? D = none := by
      cases e : s.heap.get? D with
      | none => rfl
      | some o =>
        by_cases hDL : D = L
        · have := (N' _ (.head _)).2.1; exact absurd hDL this
        · have := hlt (D, o) (mem_allBut.mpr ⟨hDL, e⟩); exact absurd this (Nat.lt_irrefl _)
    refine Sat.wp (n := vs.length) (lt := fun i j => decide ((rows.getD i []).headD 0 < (rows.getD j []).headD 0)) (P := fun p => Pm vs.length p ∧ Up (fun i => (rows.getD i []).headD 0) p vs.length) (Inv := fun s' => s' = { s with heap := h' }) ?_ ?_ _ _ (sat_sort ?_ (by grind)) rfl
    · rintro i j C _ hij hi hj rfl hC
      obtain ⟨a, ws, e, t, e1, hm, hw⟩ := getV i hi
      obtain ⟨b, us, e', u, e2, hm', hu⟩ := getV j hj
      show wpAny _ _ (keyLt' oneType' (vs.getD i .none) (vs.getD j .none)) C _ _
      rw [e1, e2]
      refine row_lt (by have := hA.units; show A.units + 1 + 1 < _; grind) (keep1 _ _ (nL _ hm) (X.ok _ hm)) (keep1 _ _ (nL _ hm') (X.ok _ hm')) hw hu ?_ (hC _ rfl)
      intro e
      refine hij (nodup_idx hd (a := (rows.getD i []).headD 0) ?_ ?_)
      · rw [List.getElem?_map, getD_some (d := []) (by grind)]; rfl
      · rw [List.getElem?_map, getD_some (d := []) (by grind), e]; rfl
    · rintro p _ ⟨hpm, hup⟩ rfl
      refine KasFin.intro F' N' (.head fun p hp => Nat.ne_of_lt (hlt p hp)) fun h'' c F'' N'' => ?_
      have keep2 : ∀ b o, b ≠ L → s.heap.get? b = some o → h''.get? b = some o := fun b o hb e => (N'' (b, o) (.tail _ (mem_allBut.mpr ⟨hb, e⟩))).1
      have hD2 : h''.get? D = some (lst (p.toList.map fun i => vs.getD i .none) c) := (N'' _ (.head _)).1
      have DL : D ≠ L := (N'' _ (.head _)).2.1
      have X1 : Fx B n₀ ow h'' n := by
        refine ⟨fun b o e => keep2 b o (fun q => by rw [q, X.fresh L hL] at e; cases e) (X.keep b o e), X.more, fun p hp => keep2 _ _ (nL p hp) (X.ok p hp), X.new, X.apart, fun a ha => ?_, X.fresh⟩
        by_cases e : a = L
        · subst e; obtain ⟨o, _, _, ho, _⟩ := F''.ns; exact ⟨o, ho⟩
        · exact (X.live a ha).imp fun o ho => keep2 _ _ e ho
      have nD : D ∉ ow := fun hm => by obtain ⟨o, ho⟩ := X.live D hm; rw [hDn] at ho; cases ho
      have X2 := X1.addG hD2 (X.keep.none hDn) nD
      refine q D _ c h'' X2 F''.ns ?_ keep2
      -- out is the told order
      have hout : out = p.toList.map fun i => rows.getD i [] := by
        refine sorted_unique (lt := fun r r' : List Int => r.headD 0 < r'.headD 0) (fun a b h1 h2 => by grind) (hp.trans ?_) hs ?_
        · have e1 : (p.toList.map fun i => rows.getD i []).Perm ((List.range rows.length).map fun i => rows.getD i []) := by
            have := hpm.map fun i => rows.getD i []
            rwa [← lv] at this
          have e2 : ((List.range rows.length).map fun i => rows.getD i []) = rows := by
            apply List.ext_getElem?
            intro i
            rw [List.getElem?_map]
            by_cases hi : i < rows.length
            · rw [List.getElem?_range hi, getD_some (d := []) hi]; rfl
            · rw [List.getElem?_eq_none (by simpa using hi), List.getElem?_eq_none (by grind)]; rfl
          rw [e2] at e1
          exact e1.symm
        · rw [List.pairwise_map]
          rw [List.pairwise_iff_getElem]
          intro i j hi hj hij
          have hz := hpm.size
          simp only [Array.length_toList] at hi hj
          have := hup i j hij (by grind)
          simpa [kp, Array.getD, hi, hj] using this
      rw [hout]
      have : ∀ l : List Nat, (∀ i ∈ l, i < vs.length) → Paired (fun r v => RowV r n v) (l.map fun i => rows.getD i []) (l.map fun i => vs.getD i .none) := by
        intro l
        induction l with
        | nil => intro _; exact .nil
        | cons i r ih =>
          intro hl
          refine .cons ?_ (ih fun j hj => hl j (.tail _ hj))
          have hi := hl i (.head _)
          have e1 : vs[i]? = some (vs.getD i .none) := getD_some hi
          obtain ⟨r, hr, fr⟩ := Paired.get' hv e1
          have e2 : rows.getD i [] = r := by simp [List.getD, hr]
          show RowV (rows.getD i []) n (vs.getD i .none)
          rw [e2]; exact fr
      refine this _ fun i hi => ?_
      simpa using hpm.mem_iff.mp hi
    · intro i j hi hj e
      refine nodup_idx hd (a := (rows.getD i []).headD 0) ?_ ?_
      · rw [List.getElem?_map, getD_some (d := []) (by grind)]; rfl
      · rw [List.getElem?_map, getD_some (d := []) (by grind)]; exact congrArg some e.symm
end
end Mine
end
section
open PySem PySem.W PyProof.Rows PySem.Calls
set_option Elab.async false
set_option autoImplicit false
set_option maxRecDepth 100000
namespace Mine
section
variable {prog : Program} {w : World} {A : Around} {E : Value → Shared → Prop} {s : Shared} {k : Nat} {env : Env} {B : Heap} {n₀ n : GL} {ow : List Addr} {m : Str → Option Value} {rest : List Stmt} {Q : Flow → Shared → Prop}
theorem st_returnSorted {p1 p2 pos : Pos} {e : Expr} {rows out : List (List Int)} (hA : Aok (k + 1) A) (X : Fx B n₀ ow s.heap n) (N : s.heap.Ns env.locals m) (hL : env.locals ∈ ow) (nm : NameIs prog w env s.heap (Str.ofString "sorted") (.builtin "sorted")) (he : Ev prog w (k + 1) s.heap n (eval e env) (RowsV rows))
    (h2 : 2 ≤ rows.length) (h64 : rows.length < 64) (hne : ∀ r ∈ rows, r ≠ []) (hd : (rows.map (·.headD 0)).Nodup) (hp : out.Perm rows) (hs : out.Pairwise fun r r' => r.headD 0 < r'.headD 0)
    (next : ∀ v h' tk n', Fx B n₀ ow h' n' → Sub n n' → RowsV out n' v → Q (.ret v) { s with heap := h', toks := tk })
    (hc : eval (.Call (.Name (Str.ofString "sorted") p1) [e] [] p2) env = (do callWith p2 (← eval (.Name (Str.ofString "sorted") p1) env) [] (backTo p2 (starEach [e] env)) (backToKw p2 (keywordEach [] env))) := by rfl)
    (hst : starEach [e] env = (false, eval e env) :: starEach [] env := by rfl) :
    wpAny (model prog w) A (execs (.Return (some (.Call (.Name (Str.ofString "sorted") p1) [e] [] p2)) pos :: rest) env) Q E s := by
  refine wpAny_execs_cons (wpAny_Return_some (Call_ ?_ hc))
  refine nm p1 A _ E s (fun _ _ e => e) ?_
  refine PyProof.Rows.callWith_builtin1 ((Ev.argsS (mono_RowsV rows) he Ev.args0 hst) A s n _ E hA (Le.refl _) (Sub.refl _) X.ok fun vs h2' t2 n2 g2 f2 => ?_) hst (by rfl)
  obtain ⟨v, rfl, hv⟩ := paired1 f2
  obtain ⟨l, vs, e0, rfl, hm, hpr⟩ := hv
  refine sorted_rows (s := { s with heap := h2', toks := t2 }) hA (X.grow g2) (N.keeps g2.keep) hL (g2.at_ _ hm) hpr h2 h64 hne hd hp hs fun D vs' e' h' X' N' hp' kp => ?_
  exact next _ h' t2 _ X' (g2.more.trans (Sub.cons _ _)) ⟨D, vs', e', rfl, .head _, Paired.mono' (fun r v z => mono_RowV r _ _ _ (Sub.cons _ _) z) hp'⟩
theorem nmSorted {K : Frag} {mg mb : Str → Option Value} {h : Heap} {env : Env} (G : Gd K mg mb h) (e : nsIn K mainGlobals (Str.ofString "sorted") = some none) (hg : env.globals = mainGlobals := by rfl) (hb : env.builtins = builtinsNs := by rfl) (hk : env.scope.kind = .function := by rfl) (hx : env.kindOf (Str.ofString "sorted") = some .globalImplicit := by rfl) :
    NameIs prog w env h (Str.ofString "sorted") (.builtin "sorted") := NameIs.bui G e (by decide +kernel) (by decide) hg hb hk hx
end
def turnsGo (below : List (List Int)) : Nat → Int → List Int → List (List Int) → List (List Int)
  | 0, _, _, acc => acc
  | f + 1, t, left, acc => if left = [] then acc else turnsGo below f (t + 1) (left.filter fun k => !((freeF left below).any (· == k))) (acc ++ (freeF left below).map fun k => [k, t])
def turnsF (below : List (List Int)) : List (List Int) := turnsGo below below.length 1 (rangeL 0 below.length) []
theorem turnsGo_nil (below : List (List Int)) (t : Int) (acc : List (List Int)) : ∀ f, turnsGo below f t [] acc = acc
  | 0 => rfl
  | f + 1 => by simp [turnsGo]
theorem lengths_filter {α : Type} (p : α → Bool) : ∀ l : List α, (l.filter p).length + (l.filter fun a => !p a).length = l.length
  | [] => rfl
  | a :: l => by
    have := lengths_filter p l
    cases h : p a <;> simp [h] <;> grind
theorem left_shrinks {left : List Int} {below : List (List Int)} (h : freeF left below ≠ []) : (left.filter fun k => !((freeF left below).any (· == k))).length < left.length := by
  have e := lengths_filter (fun k => (freeF left below).any (· == k)) left
  have : 0 < (left.filter fun k => (freeF left below).any (· == k)).length := by
    obtain ⟨x, r, hx⟩ := List.exists_cons_of_ne_nil h
    have hm : x ∈ freeF left below := by rw [hx]; exact .head _
    refine List.length_pos_of_mem (a := x) (List.mem_filter.mpr ⟨freeF_sub hm, ?_⟩)
    rw [List.any_eq_true]
    exact ⟨x, hm, by simp⟩
  grind
theorem free_sum {left : List Int} {below : List (List Int)} (_ : left.Nodup) : (freeF left below).length + (left.filter fun k => !((freeF left below).any (· == k))).length ≤ left.length := by
  have e := lengths_filter (fun k => (freeF left below).any (· == k)) left
  have : (freeF left below).length ≤ (left.filter fun k => (freeF left below).any (· == k)).length := by
    have hsub : freeF left below = left.filter fun k => (freeF left below).any (· == k) := by
      unfold freeF
      apply List.filter_congr
      intro x hx
      cases hd : decide (lowOf left (below.getD x.toNat []) = []) with
      | true =>
        symm
        rw [List.any_eq_true]
        exact ⟨x, List.mem_filter.mpr ⟨hx, hd⟩, by simp⟩
      | false =>
        symm
        rw [List.any_eq_false]
        intro y hy
        have := (List.mem_filter.mp hy).2
        intro e
        have e' : y = x := by simpa using e
        subst e'
        rw [hd] at this; cases this
    rw [← hsub]; exact Nat.le_refl _
  grind
section
variable {prog : Program} {w : World} {mg mb : Str → Option Value} {k : Nat} {h : Heap} {n : GL}
theorem rangeL_nodup (a b : Int) : (rangeL a b).Nodup := by
  unfold rangeL
  rw [List.nodup_iff_pairwise_ne, List.pairwise_map]
  exact (List.nodup_iff_pairwise_ne.mp (List.nodup_range (n := (b - a).toNat))).imp fun {i j} h e => h (by grind)
inductive TurnsJ (below : List (List Int)) (O L : Addr) (u : Value) (H : Heap) (N : GL) (M : Str → Option Value) : Nat → Prop
  | mk (left : List Int) (acc : List (List Int)) (t : Int) (vsA : List Value) (eA : Nat) (tt : Tok) (lv : Value) (ov : Option Value) (f : Nat) : H.get? O = some (lst vsA eA) → Paired (fun r v => RowV r N v) acc vsA → H.IsCell (L + 1) (some (.int t tt)) → H.IsCell (L + 1 + 1) ov →
      M "left" = some lv → RowV left N lv → M "turns" = some (.ref O) → M "below" = some u → InB below.length left → left.Nodup → acc.length + left.length ≤ 100 → left.length ≤ f → turnsGo below f t left acc = turnsF below → TurnsJ below O L u H N M left.length
theorem turns_ev {below out : List (List Int)} {u : Value} (G : Gd (KF w) mg mb h) (hb : RowsV below n u) (hfree : ∀ left, left ≠ [] → InB below.length left → freeF left below ≠ []) (s1 : 2 ≤ below.length) (s2 : below.length < 64) (s3 : ∀ r ∈ below, r.length ≤ 1000)
    (hlen : (turnsF below).length = below.length) (hd : ((turnsF below).map (·.headD 0)).Nodup) (hne : ∀ r ∈ turnsF below, r ≠ []) (hp : out.Perm (turnsF below)) (hs : out.Pairwise fun r r' => r.headD 0 < r'.headD 0) :
    Ev prog w (k + 4) h n (call (.ref 137) [u]) (RowsV out) := by
  refine Ev.enterC (k := k + 3) G (by rfl) (by rfl) (by rfl) (by rfl) (by rfl) (by rfl) ?_
  intro A s h₁ n₁ tk hA le sb N C X
  have G₁ := G.keeps (le.trans X.keep)
  have hb₁ := mono_RowsV _ _ _ _ sb hb
  have c1 := C "turn" _ rfl
  have c2 := C "free" _ rfl
  have cT1 : h₁.IsCell (s.heap.objs.size + 1) none := c1
  have cF1 : h₁.IsCell (s.heap.objs.size + 1 + 1) none := c2
  have X1 : Fx s.heap n₁ [s.heap.objs.size, s.heap.objs.size + 1 + 1, s.heap.objs.size + 1] h₁ n₁ := X
  clear c1 c2 C X
  have LT : s.heap.objs.size + 1 ≠ s.heap.objs.size := Nat.ne_of_gt (Nat.lt_succ_self _)
  have LF : s.heap.objs.size + 1 + 1 ≠ s.heap.objs.size := Nat.ne_of_gt (Nat.lt_succ_of_lt (Nat.lt_succ_self _))
  have TF : s.heap.objs.size + 1 ≠ s.heap.objs.size + 1 + 1 := Nat.ne_of_lt (Nat.lt_succ_self _)
  refine st_assign (s := { s with heap := h₁, toks := tk }) hA X1 N (.head _) (F := RowV (rangeL 0 below.length)) ?_ ?_
  · refine EvN.ev mono_IntV (callTypN (Ev.nameE (nmList G₁ (by rfl))) (Ev.argsS (mono_RangeV 0 below.length) (ev_rangeLen mono_RowV (by grind) (nmRange G₁ (by rfl)) (nmLen G₁ (by rfl)) (Ev.name (NameIs.loc N (by rfl)) (mono_RowsV _) hb₁)) Ev.args0) ?_)
    refine arg1 fun v n' _ hv => ?_
    exact opN_listRange (by decide) (by exact Nat.le_trans (by assumption) (by decide)) hv
  intro lv2 h2 t2 n2 X2 N2 sb2 f2 kp2
  refine st_assignN (s := { s with heap := h2, toks := t2 }) hA X2 N2 (.head _) (F := RowV) (xs := []) EvN.list0 ?_
  intro O vsO eO h3 t3 n3 X3 N3 sb3 nO hO pO kp3
  cases pO
  have hOL : O ≠ s.heap.objs.size := fun e => nO (by rw [e]; exact .head _)
  have hOF : O ≠ s.heap.objs.size + 1 + 1 := fun e => nO (by rw [e]; exact .tail _ (.head _))
  have hOT : O ≠ s.heap.objs.size + 1 := fun e => nO (by rw [e]; exact .tail _ (.tail _ (.head _)))
  have cT3 : h3.IsCell (s.heap.objs.size + 1) none := by obtain ⟨o, ho, r⟩ := cT1; exact ⟨o, kp3 _ _ LT (kp2 _ _ LT ho), r⟩
  have cF3 : h3.IsCell (s.heap.objs.size + 1 + 1) none := by obtain ⟨o, ho, r⟩ := cF1; exact ⟨o, kp3 _ _ LF (kp2 _ _ LF ho), r⟩
  refine st_assignC (s := { s with heap := h3, toks := t3 }) (c := s.heap.objs.size + 1) hA X3 cT3 (.tail _ (.tail _ (.tail _ (.head _)))) (F := IntV 1) Ev.cint ?_
  rintro tv4 h4 t4 n4 X4 cT4 sb4 ⟨tt4, rfl⟩ kp4
  have N4 := N3.at' fun o e => kp4 _ _ (Ne.symm LT) e
  have cF4 : h4.IsCell (s.heap.objs.size + 1 + 1) none := by obtain ⟨o, ho, r⟩ := cF3; exact ⟨o, kp4 _ _ (Ne.symm TF) ho, r⟩
  have hO4 := kp4 _ _ hOT hO
  have hb₄ := mono_RowsV _ _ _ _ ((sb2.trans sb3).trans sb4) hb₁
  have f4 := mono_RowV _ _ _ _ (sb3.trans sb4) f2
  refine st_while (s := { s with heap := h4, toks := t4 }) hA X4 N4
    (fun j H N M => TurnsJ below O s.heap.objs.size u H N M j)
    (fun j => !decide (j = 0)) (rangeL 0 below.length).length ?_ ?_ ?_ ?_ ?_
  · refine ⟨rangeL 0 below.length, [], 1, [], eO, tt4, lv2, none, below.length, hO4, .nil, cT4, cF4, by rfl, f4, by rfl, by rfl, rangeL_inB _, rangeL_nodup _ _, ?_, ?_, rfl⟩
    · rw [rangeL_length]; simp; grind
    · rw [rangeL_length]; exact Nat.le_refl _
  · rintro j H N M B₂ n₂ X' leB ns ⟨left, acc, t, vsA, eA, tt, lv, ov, f, hO', pA, cT, cF, m1, fl, m2, m3, bL, nd, sz, lf, go⟩ sb'
    have e : (!decide (left.length = 0)) = !decide (left = []) := by cases left <;> simp
    rw [e]
    exact Ev.CmpT (F2 := RowV []) (Ev.name (NameIs.loc ns m1) (mono_RowV left) fl) Ev.list0 (mono_RowV _) fun _ _ _ _ x y => op_neL (by exact Nat.le_add_left _ _) x y
  · rintro j H H' N N' M ⟨left, acc, t, vsA, eA, tt, lv, ov, f, hO', pA, cT, cF, m1, fl, r1, r2, r3, r4, r5, r6, r7⟩ g
    exact ⟨left, acc, t, vsA, eA, tt, lv, ov, f, g.keep _ _ hO', Paired.mono' (fun r v q => mono_RowV r _ _ _ g.more q) pA, cT.keeps g.keep, cF.keeps g.keep, m1, mono_RowV _ _ _ _ g.more fl, r1, r2, r3, r4, r5, r6, r7⟩
  · rintro j H N M tk hc X' ns ⟨left, acc, t, vsA, eA, tt, lv, ov, f, hO', pA, cT, cF, m1, fl, m2, m3, bL, nd, sz, lf, go⟩ sb'
    have hne' : left ≠ [] := by intro e; subst e; simp at hc
    have hfr := hfree left hne' bL
    have GH := G.keeps (le.trans X'.keep)
    have hbN := mono_RowsV _ _ _ _ sb' hb₄
    refine st_assignC (s := { s with heap := H, toks := tk }) (c := s.heap.objs.size + 1 + 1) hA X' cF (.tail _ (.tail _ (.head _))) (F := RowV (freeF left below)) ?_ ?_
    · refine callDef (fa := 125) GH (by rfl) (Ev.nameE (NameIs.glo GH (by rfl))) (Ev.argsS (mono_RowV left) (Ev.name (NameIs.loc ns m1) (mono_RowV left) fl) (Ev.argsS (mono_RowsV below) (Ev.name (NameIs.loc ns m3) (mono_RowsV below) hbN) Ev.args0)) ?_
      refine arg2 fun u' v' n' _ hu' hv' => ?_
      exact free_ev (k := k + 1) GH hu' hv' bL (by grind) (by grind) s3
    · intro fv h5 t5 n5 X5 cF5 sb5 f5 kp5
      have ns5 := ns.at' fun o e => kp5 _ _ (Ne.symm LF) e
      have cT5 : h5.IsCell (s.heap.objs.size + 1) (some (.int t tt)) := by obtain ⟨o, ho, r⟩ := cT; exact ⟨o, kp5 _ _ TF ho, r⟩
      have hO5 := kp5 _ _ hOF hO'
      have lA := pA.length
      have fsum := free_sum (below := below) nd
      refine st_extend (s := { s with heap := h5, toks := t5 }) (G := RowV) (ys := (freeF left below).map fun k => [k, t]) hA X5 (.head _) hO5 (by simp; grind) (NameIs.loc ns5 m2) ?_ ?_
      · refine Ev.cons (Ev.compL (cl := [(Str.ofString "turn", s.heap.objs.size + 1)]) (F := IntV) (G := fun k => RowV [k, t]) (xs := freeF left below) (Fi := RowV (freeF left below)) (p := fun _ => true)
          (Ev.name (NameIs.cel cF5) (mono_RowV _) f5) (fun n' xv _ hv => hands_list hv) mono_IntV (fun k => mono_RowV _) (fun i a v C H N ha hle hsb fa nm => Ev.tests0 rfl)
          (fun i a v C H N ha _ hle hsb fa nm => Ev.listN mono_IntV (by simp) (Ev.argsS (mono_IntV a) (Ev.name nm (mono_IntV a) fa) (Ev.argsS (mono_IntV t) (Ev.name (NameIs.cel (cT5.keeps hle)) (mono_IntV t) ⟨tt, rfl⟩) Ev.args0)))
          (by grind)) ?_
        rintro n' v _ ⟨a, vs, e, rfl, hm, hp⟩
        rw [List.filter_eq_self.mpr (fun _ _ => rfl)] at hp
        exact ⟨a, vs, e, rfl, hm, paired_map (f := fun k => [k, t]) (fun x v h => h) hp⟩
      · intro h6 t6 n6 e6 ws6 X6 sb6 p6 hO6 kp6
        have ns6 := ns5.at' fun o e => kp6 _ _ (Ne.symm hOL) e
        have cF6 : h6.IsCell (s.heap.objs.size + 1 + 1) (some fv) := by obtain ⟨o, ho, r⟩ := cF5; exact ⟨o, kp6 _ _ (Ne.symm hOF) ho, r⟩
        have cT6 : h6.IsCell (s.heap.objs.size + 1) (some (.int t tt)) := by obtain ⟨o, ho, r⟩ := cT5; exact ⟨o, kp6 _ _ (Ne.symm hOT) ho, r⟩
        refine st_assignCompL (s := { s with heap := h6, toks := t6 }) (F := IntV) (G := IntV) (xs := left) (Fi := RowV left) (p := fun k => !((freeF left below).any (· == k))) hA X6 ns6 (.tail _ (.head _))
          (Ev.name (NameIs.loc ns6 m1) (mono_RowV _) (mono_RowV _ _ _ _ (sb5.trans sb6) fl)) (fun n' xv _ hv => hands_list hv) mono_IntV mono_IntV ?_ ?_ (by grind) ?_
        · intro i a v C H N ha hle hsb fa nm
          exact Ev.tests1 (Ev.CmpT (Ev.name nm (mono_IntV a) fa) (Ev.name (NameIs.cel (cF6.keeps hle)) (mono_RowV _) (mono_RowV _ _ _ _ (sb6.trans hsb) f5)) (mono_IntV _) fun _ _ _ _ x y => op_ninL x y)
        · intro i a v C H N ha _ hle hsb fa nm
          exact Ev.name nm (mono_IntV a) fa
        · intro lv7 h7 t7 n7 X7 N7 sb7 f7 kp7
          have cT7 : h7.IsCell (s.heap.objs.size + 1) (some (.int t tt)) := by obtain ⟨o, ho, r⟩ := cT6; exact ⟨o, kp7 _ _ LT ho, r⟩
          have cF7 : h7.IsCell (s.heap.objs.size + 1 + 1) (some fv) := by obtain ⟨o, ho, r⟩ := cF6; exact ⟨o, kp7 _ _ LF ho, r⟩
          have hO7 := kp7 _ _ hOL hO6
          refine st_assignC (s := { s with heap := h7, toks := t7 }) (c := s.heap.objs.size + 1) hA X7 cT7 (.tail _ (.tail _ (.tail _ (.head _)))) (F := IntV (t + 1)) (Ev.addI (Ev.name (NameIs.cel cT7) (mono_IntV t) ⟨tt, rfl⟩) Ev.cint) ?_
          rintro tv8 h8 t8 n8 X8 cT8 sb8 ⟨tt8, rfl⟩ kp8
          have N8 := N7.at' fun o e => kp8 _ _ (Ne.symm LT) e
          have cF8 : h8.IsCell (s.heap.objs.size + 1 + 1) (some fv) := by obtain ⟨o, ho, r⟩ := cF7; exact ⟨o, kp8 _ _ (Ne.symm TF) ho, r⟩
          have shr := left_shrinks hfr
          obtain ⟨f', rfl⟩ : ∃ f', f = f' + 1 := ⟨f - 1, by grind⟩
          refine wpAny_execs_nil ⟨h8, t8, n8, _, (left.filter fun k => !((freeF left below).any (· == k))).length, rfl, X8, N8, ⟨left.filter fun k => !((freeF left below).any (· == k)), acc ++ (freeF left below).map fun k => [k, t], t + 1, _, e6, tt8, lv7, some fv, f',
            kp8 _ _ hOT hO7, ?_, cT8, cF8, at_same, mono_RowV _ _ _ _ sb8 f7, at_ne m2, at_ne m3, ?_, nd.filter _, ?_, by grind, ?_⟩, ((((sb'.trans sb5).trans sb6).trans sb7).trans sb8), shr⟩
          · refine Paired.app (Paired.mono' (fun r v q => mono_RowV r _ _ _ (((sb5.trans sb6).trans sb7).trans sb8) q) pA) (Paired.mono' (fun r v q => mono_RowV r _ _ _ (sb7.trans sb8) q) p6)
          · exact fun i hi => bL i (List.mem_filter.mp hi).1
          · rw [List.length_append, List.length_map]; grind
          · rw [← go]
            show _ = (if left = [] then acc else _)
            rw [if_neg hne']
  · rintro j H N M tk hc X' ns ⟨left, acc, t, vsA, eA, tt, lv, ov, f, hO', pA, cT, cF, m1, fl, m2, m3, bL, nd, sz, lf, go⟩ sb'
    have hz : left = [] := by simpa using hc
    subst hz
    rw [turnsGo_nil] at go
    subst go
    have GH := G.keeps (le.trans X'.keep)
    refine wpAny_execs_nil ?_
    have X'' : Fx s.heap n₁ [s.heap.objs.size, s.heap.objs.size + 1 + 1, s.heap.objs.size + 1] H ((O, lst vsA eA) :: N) := X'.freeze (.head _) hO' fun b hb => ⟨.tail _ hb, fun e => nO (e ▸ hb)⟩
    refine st_returnSorted (s := { s with heap := H, toks := tk }) (rows := turnsF below) (out := out) hA X'' ns (.head _) (nmSorted GH (by rfl)) (Ev.name (NameIs.loc ns m2) (mono_RowsV _) ⟨O, vsA, eA, rfl, .head _, Paired.mono' (fun r v q => mono_RowV r _ _ _ (Sub.cons _ _) q) pA⟩) (by grind) (by grind) hne hd hp hs ?_
    intro v h' tk' n' X3 _ f
    exact ⟨h', tk', n', rfl, X3.done, f⟩
end
end Mine
end
section
open PySem PySem.W PyProof.Rows PySem.Calls
set_option Elab.async false
set_option autoImplicit false
set_option maxRecDepth 100000
namespace Mine
section
variable {prog : Program} {w : World} {A : Around} {E : Value → Shared → Prop} {s : Shared} {k : Nat}
theorem unpack_list2 {n : GL} {a : Addr} {x y : Value} {e : Nat} {Q : List Value → Shared → Prop} (hA : Aok k A) (ok : GOk n s.heap) (hm : (a, lst [x, y] e) ∈ n) (q : ∀ h' tk, Le s.heap h' → Q [x, y] { s with heap := h', toks := tk }) :
    wpAny (model prog w) A (unpackItems (.ref a) 2 none) Q E s := by
  unfold unpackItems
  refine wpAny_bind ?_
  unfold notIterableAtAll
  refine wpAny_bind (wpAny_specialOf (T := "list") ⟨_, ok _ hm, rfl⟩ PySem.slot_list_iter.lookup ?_)
  refine wpAny_pure ?_
  simp only [Bool.false_eq_true, if_false]
  refine wpAny_bind (wpAny_holding ?_)
  refine (iters_list hm) A s _ E hA ok fun I h1 fp St fI le1 hlive W st1 hfp => ?_
  have but : ∀ {H : Heap}, (∀ b o, b ∉ [I] → h1.get? b = some o → H.get? b = some o) → Le s.heap H := fun hk b o e => hk b o (by simp; rintro rfl; rw [fI] at e; cases e) (le1 b o e)
  refine wpAny_bind (wpAny_holding ?_)
  show wpAny _ _ (pyNext (.ref I) >>= _) _ _ _
  refine wpAny_bind (W.item 0 _ _ _ (by simp) st1 fun v1 H1 tk1 hP1 st2 hk1 => ?_)
  have e1 : v1 = x := by simpa using hP1.symm
  subst e1
  refine wpAny_bind (wpAny_holding ?_)
  show wpAny _ _ (pyNext (.ref I) >>= _) _ _ _
  refine wpAny_bind (W.item 1 _ _ _ (by simp) st2 fun v2 H2 tk2 hP2 st3 hk2 => ?_)
  have e2 : v2 = y := by simpa using hP2.symm
  subst e2
  refine wpAny_bind (wpAny_holding ?_)
  show wpAny _ _ (pure []) _ _ _
  refine wpAny_pure (wpAny_pure (wpAny_pure ?_))
  rw [if_neg (by simp)]
  refine wpAny_bind (wpAny_holding (W.done _ _ _ st3 fun H3 tk3 hk3 => ?_))
  simp only [Option.isSome_none, Bool.false_eq_true, if_false]
  exact wpAny_pure (q H3 tk3 (but fun b o hb e => hk3 b o hb (hk2 b o hb (hk1 b o hb e))))
theorem assign_pair {n : GL} {env : Env} {x1 x2 : Str} {p1 p2 tp : Pos} {c : Nat} {a : Addr} {x y : Value} {e : Nat} {m : Str → Option Value} {Q : Unit → Shared → Prop} (hA : Aok k A) (ok : GOk n s.heap) (hm : (a, lst [x, y] e) ∈ n) (N : s.heap.Ns env.locals m)
    (h1 : env.kindOf x1 = some .local) (h2 : env.kindOf x2 = some .local) (hk : env.scope.kind = .function)
    (q : ∀ h' tk, (∀ b o, b ≠ env.locals → s.heap.get? b = some o → h'.get? b = some o) → h'.Ns env.locals (fun z => if z = x2 then some y else (fun z => if z = x1 then some x else m z) z) → Q () { s with heap := h', toks := tk })
    (hae : assignEach [.Name x1 p1, .Name x2 p2] env = [(false, assign (.Name x1 p1) env), (false, assign (.Name x2 p2) env)] := by rfl) :
    wpAny (model prog w) A (assign (.Tuple [.Name x1 p1, .Name x2 p2] c tp) env (.ref a)) Q E s := by
  rw [assign_Tuple]
  refine wpAny_bind (wpAny_standAt ?_)
  unfold unpack
  rw [hae]
  refine wpAny_bind (wpAny_holding (unpack_list2 hA ok hm fun h1' tk1 le1 => ?_))
  show wpAny _ _ (do holding [y] (assign (.Name x1 p1) env x); (do holding [] (assign (.Name x2 p2) env y); Pure.pure ())) _ _ _
  refine wpAny_bind (wpAny_holding (wpAny_assign_Name (wpAny_storeName_local h1 (N.keeps le1) (fun h3 hn3 sm3 => ?_) (by rw [hk]; rfl))))
  refine wpAny_bind (wpAny_holding (wpAny_assign_Name (wpAny_storeName_local h2 hn3 (fun h4 hn4 sm4 => ?_) (by rw [hk]; rfl))))
  exact wpAny_pure (q h4 _ (fun b o hb e => sm4.extBut b o hb (sm3.extBut b o hb (le1 b o e))) hn4)

theorem loopT {R : Result → Shared → Prop} {elt target iter : Expr} {ifs : List Expr} {scope : Scope} {pos : Pos} {it acc : Value} {env : Env} (I : Nat → Shared → Prop)
    (turn : ∀ n s, I n s → wpAny (model prog w) A (pyNext it) (fun r s₁ => match r with
      | none => R (.ok .next) s₁
      | some v => wpAny (model prog w) A (letOwnedTupleGo target it v) (fun _ s₁' => wpAny (model prog w) A (assign target env v) (fun _ s₂ =>
          wpAny (model prog w) A (testsOf ifs env) (fun ok s₃ =>
            if ok = true then wpAny (model prog w) A (eval elt env) (fun x s₄ =>
              wpAny (model prog w) A (call (.builtin "list.append") [acc, x]) (fun _ s₅ => ∃ m, m < n ∧ I m s₅) (fun _ _ => False) s₄) (fun _ _ => False) s₃
            else ∃ m, m < n ∧ I m s₃) (fun _ _ => False) s₂) (fun _ _ => False) s₁') (fun _ _ => False) s₁) (fun _ _ => False) s)
    (n : Nat) (h : I n s) :
    codeAny (model prog w) A (.compLoop (.ListComp elt [⟨target, iter, ifs, 0⟩] scope pos) 0 it acc env) R s := by
  refine codeAny_loop rfl I (fun n s hI => ?_) n h
  show wpAny _ A ((compTurn (.ListComp elt [⟨target, iter, ifs, 0⟩] scope pos) 0 it acc env).onRaise (fun x => do noteFrame x env; theTreesLotGoes x)) _ _ s
  refine wpAny_noted ?_
  rw [compTurn_list]
  refine wpAny_bind (wpAny_standAt (wpAny_bind (wpAny_mono (turn n s hI) (fun r s₁ h₁ => ?_) fun _ _ h' => h'.elim)))
  cases r with
  | none => exact wpAny_pure h₁
  | some v =>
    refine wpAny_bind (wpAny_mono h₁ (fun _ s₁' h₁' => ?_) fun _ _ h' => h'.elim)
    refine wpAny_bind (wpAny_mono h₁' (fun _ s₂ h₂ => wpAny_bind (wpAny_mono h₂ (fun ok s₃ h₃ => ?_) fun _ _ h' => h'.elim)) fun _ _ h' => h'.elim)
    cases ok with
    | false => exact wpAny_pure ⟨rfl, h₃⟩
    | true =>
      exact wpAny_bind (wpAny_bind (wpAny_mono h₃ (fun x s₄ h₄ => wpAny_bind (wpAny_mono h₄ (fun _ s₅ h₅ => wpAny_pure (wpAny_pure ⟨rfl, h₅⟩)) fun _ _ h' => h'.elim)) fun _ _ h' => h'.elim))
end

section
variable {prog : Program} {w : World} {A : Around} {R : Result → Shared → Prop} {s : Shared} {k : Nat} {elt iter : Expr} {x1 x2 : Str} {p1 p2 tp : Pos} {ct : Nat} {ifs : List Expr} {scope : Scope} {pos : Pos} {I D C a0 : Addr} {cenv : Env}
    {G : List Int → VP} {rows : List (List Int)} {p : List Int → Bool} {n : GL} {h0 : Heap} {vs : List Value} {e0 : Nat}
theorem row2 {n : GL} {r : List Int} {v : Value} (h : RowV r n v) (h2 : r.length = 2) : ∃ a e t u, v = .ref a ∧ (a, lst [.int (r.getD 0 0) t, .int (r.getD 1 0) u] e) ∈ n := by
  obtain ⟨a, vs, e, rfl, hm, hp⟩ := h
  match r, h2 with
  | [x, y], _ =>
    cases hp with
    | cons h t => cases t with
      | cons h' t' => cases t'; obtain ⟨t1, rfl⟩ := h; obtain ⟨t2, rfl⟩ := h'; exact ⟨a, e, t1, t2, rfl, hm⟩
inductive PAt (s : Shared) (a0 : Addr) (h0 : Heap) (n : GL) (G : List Int → VP) (rows : List (List Int)) (p : List Int → Bool) (C D I : Addr) : Nat → Shared → Prop
  | mk (H : Heap) (tk : Nat) (N : GL) (ys : List Value) (i : Nat) : H.IsListIter I a0 i → H.PlainList D ys.toArray → (∃ m, H.Ns C m) → Le h0 H → Sub n N → GOk N H → (∀ q, q ∈ N → q ∈ n ∨ h0.get? q.1 = none) →
      (∀ q, q ∈ N → q.1 ≠ C ∧ q.1 ≠ D ∧ q.1 ≠ I) → Paired (fun a y => G a N y) ((rows.take i).filter p) ys → i ≤ rows.length → PAt s a0 h0 n G rows p C D I (rows.length + 1 - i) { s with heap := H, toks := tk }
theorem compLoop_pair (hA : Aok k A) (hm : (a0, lst vs e0) ∈ n) (hp : Paired (fun r v => RowV r n v) rows vs) (h2 : ∀ r ∈ rows, r.length = 2) (mG : ∀ r, Mono (G r))
    (hC : cenv.locals = C) (k1 : cenv.kindOf x1 = some .local) (k2 : cenv.kindOf x2 = some .local) (hkf : cenv.scope.kind = .function) (hx12 : x1 ≠ x2) (hd1 : (x1 == ("__debug__" : Str)) = false) (hd2 : (x2 == ("__debug__" : Str)) = false)
    (hDI : D ≠ I) (hDC : D ≠ C) (hIC : I ≠ C) (fC : h0.get? C = none) (fD : h0.get? D = none) (fI : h0.get? I = none)
    (hk0 : Le h0 s.heap) (hok : GOk n h0) (hst : s.heap.IsListIter I a0 0) (hacc : s.heap.PlainList D #[]) (hns : ∃ m, s.heap.Ns C m)
    (htest : ∀ r v1 v2 H N, r ∈ rows → Le h0 H → Sub n N → IntV (r.getD 0 0) N v1 → IntV (r.getD 1 0) N v2 → NameIs prog w cenv H x1 v1 → NameIs prog w cenv H x2 v2 → Ev prog w k H N (testsOf ifs cenv) (fun _ b => b = p r))
    (helt : ∀ r v1 v2 H N, r ∈ rows → p r = true → Le h0 H → Sub n N → IntV (r.getD 0 0) N v1 → IntV (r.getD 1 0) N v2 → NameIs prog w cenv H x1 v1 → NameIs prog w cenv H x2 v2 → Ev prog w k H N (eval elt cenv) (G r))
    (hR : ∀ H tk N ys e, Le h0 H → Sub n N → GOk N H → (∀ q, q ∈ N → q ∈ n ∨ h0.get? q.1 = none) → (∀ q, q ∈ N → q.1 ≠ C ∧ q.1 ≠ D) → H.get? D = some (lst ys e) → Paired (fun a y => G a N y) (rows.filter p) ys → (∃ m, H.Ns C m) →
      R (.ok .next) { s with heap := H, toks := tk }) (hsz : rows.length ≤ 1000000)
    (hae : assignEach [.Name x1 p1, .Name x2 p2] cenv = [(false, assign (.Name x1 p1) cenv), (false, assign (.Name x2 p2) cenv)] := by rfl) :
    codeAny (model prog w) A (.compLoop (.ListComp elt [⟨.Tuple [.Name x1 p1, .Name x2 p2] ct tp, iter, ifs, 0⟩] scope pos) 0 (.ref I) (.ref D) cenv) R s := by
  have hlen := hp.length
  have hne : a0 ≠ I := fun e => by have := hok _ hm; rw [e, fI] at this; cases this
  have W : Walks prog w A I [I, a0] [I] vs.toArray.size (fun i v => vs.toArray[i]? = some v) (fun i h => h.IsListIter I a0 i ∧ h.IsList a0 vs.toArray) := Walks.list hA.handled _ _ hne _
  refine loopT
    (PAt s a0 h0 n G rows p C D I) ?_ (rows.length + 1)
    (.mk s.heap s.toks n [] 0 hst hacc hns hk0 (Sub.refl _) (hok.keep hk0) (fun _ e => .inl e) ?_ (by simpa using Paired.nil) (Nat.zero_le _))
  rotate_left
  · intro q hq
    have := hok q hq
    exact ⟨(ne_live fC this).symm, (ne_live fD this).symm, (ne_live fI this).symm⟩
  rintro j s' ⟨H, tk, N, ys, i, hst', hacc', hns', hk, hsb, hokN, hnew, hap, hpr, hi⟩
  have isL : ∀ {H : Heap} {N : GL}, Sub n N → GOk N H → H.IsList a0 vs.toArray := fun sb ok => ⟨_, ok _ (sb _ hm), rfl, _, rfl⟩
  by_cases hlt : i < rows.length
  · refine W.item i _ _ _ (by simp; grind) ⟨hst', isL hsb hokN⟩ fun v H1 tk1 hPv hst1 hk1 => ?_
    obtain ⟨r, hr, fr⟩ := Paired.get' hp (show vs[i]? = some v by simpa using hPv)
    have hrm := List.mem_of_getElem? hr
    obtain ⟨T, eT, t1, t2, rfl, hTm⟩ := row2 fr (h2 r hrm)
    have hk1' : ∀ b o, b ≠ I → H.get? b = some o → H1.get? b = some o := fun b o hb e => hk1 b o (nin1 hb) e
    have ok1 : GOk N H1 := fun q hq => hk1' _ _ (hap q hq).2.2 (hokN q hq)
    refine wpAny_letOwnedTupleGo_listiter hst1.1 ?_
    obtain ⟨m', hnC⟩ := hns'
    subst hC
    refine assign_pair (n := N) (s := { s with heap := H1, toks := tk1 }) (m := m') hA ok1 (hsb _ hTm) (hnC.at' fun o e => hk1' _ o (Ne.symm hIC) e) k1 k2 hkf (fun H2 tk2 kp2 ns2 => ?_) hae
    have ok2 : GOk N H2 := fun q hq => kp2 _ _ (hap q hq).1 (ok1 q hq)
    have le2 : Le h0 H2 := fun b o e => kp2 b o (by rintro rfl; rw [fC] at e; cases e) (hk1' b o (by rintro rfl; rw [fI] at e; cases e) (hk b o e))
    have st2 : H2.IsListIter I a0 (i + 1) := hst1.1.at fun o e => kp2 _ _ hIC e
    have D2 : H2.PlainList D ys.toArray := (hacc'.at fun o e => hk1' _ o hDI e).at fun o e => kp2 _ _ hDC e
    have nm1 : ∀ {H3 : Heap}, Le H2 H3 → NameIs prog w cenv H3 x1 (.int (r.getD 0 0) t1) := fun le => NameIs.loc (ns2.keeps le) (by simp [hx12]) hkf k1 hd1
    have nm2 : ∀ {H3 : Heap}, Le H2 H3 → NameIs prog w cenv H3 x2 (.int (r.getD 1 0) t2) := fun le => NameIs.loc (ns2.keeps le) (by simp) hkf k2 hd2
    have hs1 : (rows.take (i + 1)).filter p = (rows.take i).filter p ++ (if p r then [r] else []) := take_succ_filter p rows i r hr
    refine htest r _ _ H2 N hrm le2 hsb ⟨t1, rfl⟩ ⟨t2, rfl⟩ (nm1 (Le.refl _)) (nm2 (Le.refl _)) A _ N _ _ hA (Le.refl _) (Sub.refl _) ok2 fun b H3 tk3 N3 g3 hb => ?_
    subst hb
    have ap3 : ∀ q, q ∈ N3 → q.1 ≠ cenv.locals ∧ q.1 ≠ D ∧ q.1 ≠ I := fun q hq => by
      rcases g3.new q hq with h | h
      · exact hap q h
      · obtain ⟨oC, _, _, hoC, _⟩ := ns2
        obtain ⟨eD, hoD⟩ := D2
        obtain ⟨oI, hoI, _⟩ := st2
        exact ⟨ne_live h hoC, ne_live h hoD, ne_live h hoI⟩
    have new3 : ∀ q, q ∈ N3 → q ∈ n ∨ h0.get? q.1 = none := fun q hq => (g3.new q hq).elim (hnew q) fun h => .inr (le2.none h)
    have st3 : H3.IsListIter I a0 (i + 1) := st2.at fun o e => g3.keep _ _ e
    have D3 : H3.PlainList D ys.toArray := D2.at fun o e => g3.keep _ _ e
    have ns3 : ∃ m, H3.Ns cenv.locals m := ⟨_, ns2.keeps g3.keep⟩
    have pr3 : Paired (fun a y => G a N3 y) ((rows.take i).filter p) ys := Paired.mono' (fun a y q => mG a _ _ _ g3.more q) hpr
    cases hpa : p r with
    | false =>
      simp only [Bool.false_eq_true, if_false]
      refine ⟨rows.length + 1 - (i + 1), dec_lt hlt, H3, tk3, N3, ys, i + 1, st3, D3, ns3, le2.trans g3.keep, hsb.trans g3.more, g3.at_, new3, ap3, ?_, hlt⟩
      rw [hs1, hpa]; simpa using pr3
    | true =>
      simp only [if_true]
      refine helt r _ _ H3 N3 hrm hpa (le2.trans g3.keep) (hsb.trans g3.more) ⟨t1, rfl⟩ ⟨t2, rfl⟩ (nm1 g3.keep) (nm2 g3.keep) A _ N3 _ _ hA (Le.refl _) (Sub.refl _) g3.at_ fun y H4 tk4 N4 g4 fy => ?_
      have D4 : H4.PlainList D ys.toArray := D3.at fun o e => g4.keep _ _ e
      have ap4 : ∀ q, q ∈ N4 → q.1 ≠ cenv.locals ∧ q.1 ≠ D ∧ q.1 ≠ I := fun q hq => by
        rcases g4.new q hq with h | h
        · exact ap3 q h
        · obtain ⟨_, oC, _, _, hoC, _⟩ := ns3
          obtain ⟨eD, hoD⟩ := D3
          obtain ⟨oI, hoI, _⟩ := st3
          exact ⟨ne_live h hoC, ne_live h hoD, ne_live h hoI⟩
      have hys : ys.toArray.size ≤ sizeLine := by
        have e1 := hpr.length
        have e2 : ((rows.take i).filter p).length ≤ (rows.take i).length := List.length_filter_le _ _
        exact Nat.le_trans (Nat.le_of_eq e1.symm) (Nat.le_trans e2 (Nat.le_trans (List.length_take_le' _ _) (Nat.le_trans hsz million)))
      refine wpAny_list_append_plain (hsz := hys) D4 fun H5 hl5 sm5 => ?_
      have ok5 : GOk N4 H5 := fun q hq => sm5.extBut _ _ (ap4 q hq).2.1 (g4.at_ q hq)
      have le4 : Le h0 H4 := (le2.trans g3.keep).trans g4.keep
      refine ⟨rows.length + 1 - (i + 1), dec_lt hlt, H5, tk4, N4, ys ++ [y], i + 1, ?_, by simpa using hl5, ?_, ?_, (hsb.trans g3.more).trans g4.more, ok5, ?_, ap4, ?_, hlt⟩
      · exact st3.at fun o e => sm5.extBut _ _ (Ne.symm hDI) (g4.keep _ _ e)
      · exact ns3.imp fun m x => (x.keeps g4.keep).sameBut sm5 (Ne.symm hDC)
      · exact fun b o e => sm5.extBut b o (by rintro rfl; rw [fD] at e; cases e) (le4 b o e)
      · exact fun q hq => (g4.new q hq).elim (new3 q) fun h => .inr ((le2.trans g3.keep).none h)
      · rw [hs1, hpa]
        exact Paired.app (Paired.mono' (fun a y q => mG a _ _ _ g4.more q) pr3) (show Paired (fun a y => G a N4 y) [r] [y] from Paired.cons (F := fun a y => G a N4 y) fy Paired.nil)
  · have hin : i = rows.length := Nat.le_antisymm hi (Nat.not_lt.mp hlt)
    subst hin
    refine W.done _ _ _ ⟨by simpa [hlen] using hst', isL hsb hokN⟩ fun H1 tk1 hk1 => ?_
    have hk1' : ∀ b o, b ≠ I → H.get? b = some o → H1.get? b = some o := fun b o hb e => hk1 b o (nin1 hb) e
    obtain ⟨e, he⟩ := hacc'
    refine hR H1 tk1 N ys e (fun b o q => hk1' b o (by rintro rfl; rw [fI] at q; cases q) (hk b o q)) hsb (fun q hq => hk1' _ _ (hap q hq).2.2 (hokN q hq)) hnew (fun q hq => ⟨(hap q hq).1, (hap q hq).2.1⟩) (hk1' _ _ hDI he) (by simpa using hpr) ?_
    exact hns'.imp fun m x => x.at' fun o q => hk1' _ o (Ne.symm hIC) q
end
end Mine
end
section
open PySem PySem.W PyProof.Rows PySem.Calls
set_option Elab.async false
set_option autoImplicit false
set_option maxRecDepth 100000
namespace Mine
section
variable {prog : Program} {w : World} {k : Nat} {h : Heap} {elt iter : Expr} {x1 x2 : Str} {p1 p2 tp : Pos} {ct : Nat} {ifs : List Expr} {scope : Scope} {pos : Pos} {env : Env} {cl : List (Str × Addr)} {G : List Int → VP} {rows : List (List Int)} {p : List Int → Bool} {n : GL}
/-- «[elt for x1, x2 in rows if ..]» -/
theorem Ev.compP (hiter : Ev prog w k h n (eval iter env) (RowsV rows)) (hr2 : ∀ r ∈ rows, r.length = 2) (mG : ∀ r, Mono (G r))
    (htest : ∀ r v1 v2 C H N, r ∈ rows → Le h H → Sub n N → IntV (r.getD 0 0) N v1 → IntV (r.getD 1 0) N v2 → NameIs prog w (compEnvC scope cl C env) H x1 v1 → NameIs prog w (compEnvC scope cl C env) H x2 v2 → Ev prog w k H N (testsOf ifs (compEnvC scope cl C env)) (fun _ b => b = p r))
    (helt : ∀ r v1 v2 C H N, r ∈ rows → p r = true → Le h H → Sub n N → IntV (r.getD 0 0) N v1 → IntV (r.getD 1 0) N v2 → NameIs prog w (compEnvC scope cl C env) H x1 v1 → NameIs prog w (compEnvC scope cl C env) H x2 v2 → Ev prog w k H N (eval elt (compEnvC scope cl C env)) (G r))
    (hsz : rows.length ≤ 1000000) (hclos : closureFor scope env = pure cl := by rfl) (hkind : scope.kind = .function := by rfl) (hnames : ∀ y ∈ scope.names, y.2 = .local → scope.names.lookup y.1 = some .local := by decide)
    (hx1 : scope.names.lookup x1 = some .local := by rfl) (hx2 : scope.names.lookup x2 = some .local := by rfl) (hx12 : x1 ≠ x2 := by decide) (hpc : ∀ h, pushCells h scope.names = h := by intro _; rfl) (hcf : ∀ c, cellsFrom c scope.names cl = cl := by intro _; rfl)
    (hd1 : (x1 == ("__debug__" : Str)) = false := by decide) (hd2 : (x2 == ("__debug__" : Str)) = false := by decide)
    (hs : ∀ x, foldedSetIterable iter env x = Pure.pure x := by intro _; rfl)
    (hae : ∀ C, assignEach [.Name x1 p1, .Name x2 p2] (compEnvC scope cl C env) = [(false, assign (.Name x1 p1) (compEnvC scope cl C env)), (false, assign (.Name x2 p2) (compEnvC scope cl C env))] := by intro _; rfl) :
    Ev prog w k h n (eval (.ListComp elt [⟨.Tuple [.Name x1 p1, .Name x2 p2] ct tp, iter, ifs, 0⟩] scope pos) env) (ListV G (rows.filter p)) := by
  intro A s n₁ Q E hA l sb ok q
  rw [eval_ListComp]
  refine wpAny_comprehension_free (use := none) rfl hs hclos hkind hnames (hiter A s n₁ _ E hA l sb ok fun xv h1 t1 n1 g1 f1 => ?_)
  obtain ⟨a0, vs, e0, rfl, hm, hp⟩ := f1
  have hend := compEnd_none (prog := prog) (w := w) (A := A) (E := E) (s := s) (s₁ := { s with heap := h1, toks := t1 }) (xs := rows) (p := p) mG g1 ⟨h1, t1, rfl⟩ q
  have hl : h1.IsList a0 vs.toArray := ⟨_, g1.at_ _ hm, rfl, _, rfl⟩
  refine wpAny_pyIter_list (s := { s with heap := h1, toks := t1 }) hl ?_
  refine wpAny_newObj_type ?_
  refine newCompEnv ?_
  rw [hpc, hcf]
  dsimp only
  generalize hh2 : h1.push _ = h2
  have le12 : Le h1 h2 := by rw [← hh2]; exact Le.push _ _
  have itr : h2.IsListIter h1.objs.size a0 0 := by rw [← hh2]; exact ⟨_, Heap.get?_push_size _ rfl, rfl, rfl⟩
  have sz2 : h2.objs.size = h1.objs.size + 1 := by rw [← hh2]; exact Heap.size_push ..
  have hD : (h2.push { cls := .type "list", dict := none, data := .seq ([] : List Value).toArray }).objs.size = h2.objs.size + 1 := Heap.size_push ..
  have le2 : Le h2 ((h2.push { cls := .type "list", dict := none, data := .seq ([] : List Value).toArray }).push { cls := .type "dict", data := .dict #[] }) := (Le.push _ _).trans (Le.push _ _)
  have fI : h1.get? h1.objs.size = none := new_none _
  have fD : h1.get? h2.objs.size = none := le12.none (new_none _)
  have fC : h1.get? (h2.objs.size + 1) = none := le12.none (new_none' (Nat.le_succ _))
  have lI : h1.objs.size < h2.objs.size := by rw [sz2]; exact Nat.lt_succ_self _
  rw [hD]
  have kx1 : (compEnvC scope cl (h2.objs.size + 1) env).kindOf x1 = some .local := lookup_relabel_local hx1
  have kx2 : (compEnvC scope cl (h2.objs.size + 1) env).kindOf x2 = some .local := lookup_relabel_local hx2
  have nsC : ((h2.push { cls := .type "list", dict := none, data := .seq ([] : List Value).toArray }).push { cls := .type "dict", data := .dict #[] }).Ns (h2.objs.size + 1) (fun _ => none) := by
    have := Heap.Ns.new (h2.push { cls := .type "list", dict := none, data := .seq ([] : List Value).toArray }) (.type "dict")
    rwa [hD] at this
  have W : Walks prog w A h1.objs.size [h1.objs.size, a0] [h1.objs.size] vs.toArray.size (fun i v => vs.toArray[i]? = some v) (fun i h => h.IsListIter h1.objs.size a0 i ∧ h.IsList a0 vs.toArray) :=
    Walks.list hA.handled _ _ (Nat.ne_of_lt (Heap.lt_size (g1.at_ _ hm))) _
  have loop : codeAny (model prog w) A (.compLoop (.ListComp elt [⟨.Tuple [.Name x1 p1, .Name x2 p2] ct tp, iter, ifs, 0⟩] scope pos) 0 (.ref h1.objs.size) (.ref h2.objs.size) (compEnvC scope cl (h2.objs.size + 1) env)) (compPost (model prog w) A E none Q (.ref h2.objs.size) (h2.objs.size + 1))
      { s with heap := (h2.push { cls := .type "list", dict := none, data := .seq ([] : List Value).toArray }).push { cls := .type "dict", data := .dict #[] }, toks := t1 } := by
    refine compLoop_pair (C := h2.objs.size + 1) (h0 := h1) (G := G) (rows := rows) (p := p) (n := n1) hA hm hp hr2 mG rfl kx1 kx2 hkind hx12 hd1 hd2
      (Ne.symm (Nat.ne_of_lt lI)) (Nat.ne_of_lt (Nat.lt_succ_self _)) (Nat.ne_of_lt (Nat.lt_succ_of_lt lI)) fC fD fI (le12.trans le2) g1.at_ (itr.at fun o e => le2 _ _ e) ⟨_, Le.push _ _ _ _ (Heap.get?_push_size _ rfl)⟩ ⟨_, nsC⟩ ?_ ?_ ?_ hsz (hae _)
    · intro r v1 v2 H N hr hle hsb f1 f2 nm1 nm2
      exact htest r v1 v2 _ H N hr ((l.trans g1.keep).trans hle) ((sb.trans g1.more).trans hsb) f1 f2 nm1 nm2
    · intro r v1 v2 H N hr hpr hle hsb f1 f2 nm1 nm2
      exact helt r v1 v2 _ H N hr hpr ((l.trans g1.keep).trans hle) ((sb.trans g1.more).trans hsb) f1 f2 nm1 nm2
    · intro H tk N ys e le sb' ok' new ap hDl pr ns
      exact hend _ _ H tk N ys e fC fD (Nat.ne_of_lt (Nat.lt_succ_self _)) le sb' ok' new ap hDl pr ns
  exact codeAny_compStart_list loop (W.self 0 _ _ _ ⟨itr.at fun o e => le2 _ _ e, ⟨_, le2 _ _ (le12 _ _ (g1.at_ _ hm)), rfl, _, rfl⟩⟩ loop)
end
end Mine
end
section
open PySem PySem.W PyProof.Rows PySem.Calls
set_option Elab.async false
set_option autoImplicit false
set_option maxRecDepth 100000
namespace Mine
def max0 (hs : List Int) : Int := hs.foldl max 0
theorem foldl_max_ge : ∀ (hs : List Int) (a : Int), a ≤ hs.foldl max a ∧ (∀ x ∈ hs, x ≤ hs.foldl max a) ∧ (hs.foldl max a = a ∨ hs.foldl max a ∈ hs)
  | [], a => ⟨Int.le_refl _, (fun x h => nomatch h), .inl rfl⟩
  | y :: r, a => by
    obtain ⟨h1, h2, h3⟩ := foldl_max_ge r (max a y)
    simp only [List.foldl_cons]
    refine ⟨by grind, fun x hx => ?_, ?_⟩
    · rcases List.mem_cons.mp hx with rfl | hx
      · grind
      · exact h2 x hx
    · rcases h3 with h3 | h3
      · rw [h3]
        by_cases c : a ≤ y
        · right; rw [show max a y = y by grind]; exact .head _
        · left; grind
      · right; exact .tail _ h3
theorem max0_unique {hs : List Int} {M : Int} (hm : M ∈ 0 :: hs) (hle : ∀ a ∈ 0 :: hs, a ≤ M) : M = max0 hs := by
  obtain ⟨h1, h2, h3⟩ := foldl_max_ge hs 0
  unfold max0
  have u1 : hs.foldl max 0 ≤ M := by
    rcases h3 with h3 | h3
    · rw [h3]; exact hle 0 (.head _)
    · exact hle _ (.tail _ h3)
  have u2 : M ≤ hs.foldl max 0 := by
    rcases List.mem_cons.mp hm with rfl | hm
    · exact h1
    · exact h2 _ hm
  grind
theorem Fx.updB {B : Heap} {n₀ : GL} {ow : List Addr} {h h' : Heap} {n : GL} (x : Fx B n₀ ow h n) {a : Addr} (ha : a ∈ ow) (hb : ∀ b o, b ≠ a → h.get? b = some o → h'.get? b = some o) (hl : ∃ o, h'.get? a = some o) : Fx B n₀ ow h' n where
  keep := fun b o e => hb b o (by rintro rfl; rw [x.fresh _ ha] at e; cases e) (x.keep b o e)
  more := x.more
  ok := fun p hp => hb _ _ (x.apart p hp a ha) (x.ok p hp)
  new := x.new
  apart := x.apart
  live := fun b hb' => by
    by_cases e : b = a
    · exact e ▸ hl
    · exact (x.live b hb').imp fun o ho => hb _ _ e ho
  fresh := x.fresh
section
variable {prog : Program} {w : World} {k : Nat} {h : Heap} {n : GL} {env : Env}
theorem op_maxL {hs : List Int} {v : Value} (x : RowV (0 :: hs) n v) : Ev prog w k h n (call (.builtin "max") [v]) (IntV (max0 hs)) := by
  obtain ⟨l, vs, e, rfl, hm, hp⟩ := x
  intro A s n₁ Q E hA le sb ok q
  obtain ⟨xs, ex⟩ := (intsAre_of hp).allInts.items
  have hns : (0 :: hs) = xs.toList.map (·.1) := by rw [← (intsAre_of hp).numsOf, ← nums_intItems, ← ex]
  have hl : s.heap.IsList l (intItems xs) := by rw [← ex]; exact ⟨_, ok _ (sb _ hm), rfl, _, rfl⟩
  have hsz : 0 < xs.size := by
    have := congrArg List.length hns
    simp at this; grind
  refine max_intList hA.handled hl hsz fun v h' tk hv hk => ?_
  obtain ⟨t, rfl⟩ := intItems_at hv
  obtain ⟨h1, h2⟩ := argBest_gt (numAt xs) (xs.size - 1)
  refine q _ h' tk n₁ (Grow.heap ok hk) ⟨t, congrArg (Value.int · t) (max0_unique ?_ fun a ha => ?_)⟩
  · rw [hns, numAt_eq]
    have hlt : argBest (fun i j => decide (numAt xs i > numAt xs j)) (xs.size - 1) < (xs.toList.map (·.1)).length := by rw [List.length_map, Array.length_toList]; grind
    exact List.mem_of_getElem? (getD_some (d := 0) hlt)
  · rw [hns] at ha
    obtain ⟨j, hj⟩ := List.mem_iff_getElem?.mp ha
    have hlt := (List.getElem?_eq_some_iff.mp hj).1
    rw [List.length_map, Array.length_toList] at hlt
    have e2 : a = numAt xs j := by rw [numAt_eq]; simp [List.getD, hj]
    rw [e2]
    exact h2 j (by grind)
/-- a call of a def that lies in the ghost -/
theorem callFn {fn : Expr} {pos : Pos} {R : VP} {fa : Addr} {fd : FuncData} {oc : Value} {od : Option Addr} {osl : Array (Option Value)} {e : Expr} {rest : List Expr} {Fs : List VP}
    (hK : (fa, (⟨oc, od, .func fd, osl⟩ : Obj)) ∈ n) (hf : Ev prog w k h n (eval fn env) (EqV (.ref fa)))
    (ha : Ev prog w k h n (spliced (backTo pos (starEach (e :: rest) env))) (fun n' vs => Paired (fun (F : VP) v => F n' v) Fs vs))
    (hc : ∀ vs n', Sub n n' → Paired (fun (F : VP) v => F n' v) Fs vs → Ev prog w k h n' (call (.ref fa) vs) R)
    (he : eval (.Call fn (e :: rest) [] pos) env = (do callWith pos (← eval fn env) [] (backTo pos (starEach (e :: rest) env)) (backToKw pos (keywordEach [] env))) := by rfl)
    (hs : starEach (e :: rest) env = (false, eval e env) :: starEach rest env := by rfl) : Ev prog w k h n (eval (.Call fn (e :: rest) [] pos) env) R := by
  intro A s n₁ Q E hA l sb ok q
  refine Call_ (hf A s n₁ _ E hA l sb ok fun f h1 t1 n1 g1 f1 => ?_) he
  have e1 : f = .ref fa := f1
  subst e1
  refine callWith_def (o := ⟨oc, od, .func fd, osl⟩) rfl (ha A _ n1 _ E hA (l.trans g1.keep) (sb.trans g1.more) g1.at_ fun vs h2 t2 n2 g2 f2 => ?_) hs
  refine ⟨g2.at_ _ ((sb.trans (g1.trans g2).more) _ hK), ?_⟩
  exact hc vs n2 (sb.trans (g1.trans g2).more) f2 A _ n2 Q E hA (l.trans (g1.trans g2).keep) (Sub.refl _) g2.at_ fun v h3 t3 n3 g3 f3 => q v h3 t3 n3 ((g1.trans g2).trans g3) f3
end
section
variable {prog : Program} {w : World} {A : Around} {s : Shared}
abbrev envS (fd : FuncData) (L fa : Addr) (cl : List (Str × Addr)) : Env := newEnv fd.scope L fd.globals cl (fd.qualname ++ ".<locals>.") (some fa) fd.code none fd.builtins
/-- a def with two parameters, the second in a cell, and a closure -/
theorem call_step {R : Result → Shared → Prop} {fa : Addr} {o : Obj} {fd : FuncData} {body : List Stmt} {x1 x2 : Str} {v1 v2 : Value} {cl : List (Str × Addr)} (hroom : A.depth < recursionLimit) (ho : s.heap.get? fa = some o) (hd : o.data = .func fd) (hlim : s.heap.NoLimit) (hcd : s.heap.CodeRec fd.code fd.qualname)
    (hbody : fd.body = .stmts body) (hbind : bindArgs fd ⟨[v1, v2], []⟩ = pure [(x1, v1), (x2, v2)]) (hclo : fd.closure = cl)
    (hpc : ∀ h, pushCells h fd.scope.names = h.push { cls := .type "cell", data := .cell none }) (hcf : ∀ c, cellsFrom c fd.scope.names cl = (x2, c) :: cl) (h1 : fd.scope.names.lookup x1 = some .local) (h2 : fd.scope.names.lookup x2 = some .cell)
    (hco : fd.scope.isCoroutine = false) (hgen : fd.scope.isGenerator = false) (hk : fd.scope.kind = .function)
    (h : ∀ h₁ tk, Le s.heap h₁ → h₁.Ns s.heap.objs.size (fun y => if y = x1 then some v1 else none) → h₁.IsCell (s.heap.objs.size + 1) (some v2) →
      wpAny (model prog w) (A.deeper (envS fd s.heap.objs.size fa ((x2, s.heap.objs.size + 1) :: cl))) (execs body (envS fd s.heap.objs.size fa ((x2, s.heap.objs.size + 1) :: cl))) (fun f s' => R (.ok (.ret (match f with | .ret v => v | _ => .none))) s') (fun _ _ => False) { s with heap := h₁, toks := tk }) :
    codeAny (model prog w) A (.call (.ref fa) ⟨[v1, v2], []⟩) R s := by
  refine codeAny_call_function hroom ho hd hco hgen hbody hcd ?_
  rw [hbind, hclo]
  refine wpAny_pure ?_
  simp only [newFunctionEnv, Option.isSome_none, Bool.false_eq_true, if_false]
  refine wpAny_bind (wpAny_alloc ?_)
  refine wpAny_bind (wpAny_layCells _ (fun name kind cells => by cases kind == NameKind.cell <;> simp) _ _ _ _ ?_)
  rw [show ({ s with heap := s.heap.push { cls := .type "frame", data := .dict #[] } } : Shared).heap.objs.size = s.heap.objs.size + 1 from Heap.size_push ..]
  rw [hcf, hpc]
  have hsz : (s.heap.push { cls := .type "frame", data := .dict #[] }).objs.size = s.heap.objs.size + 1 := Heap.size_push ..
  have ns0 := (Heap.Ns.new s.heap (.type "frame")).keeps (Le.push (s.heap.push { cls := .type "frame", data := .dict #[] }) { cls := .type "cell", data := .cell none })
  have c0 : ((s.heap.push { cls := .type "frame", data := .dict #[] }).push { cls := .type "cell", data := .cell none }).IsCell (s.heap.objs.size + 1) none := by
    have := Heap.get?_push_size (h := s.heap.push { cls := .type "frame", data := .dict #[] }) (o := { cls := .type "cell", data := .cell none }) rfl
    rw [hsz] at this
    exact ⟨_, this, rfl⟩
  refine wpAny_bind ?_
  rw [List.forIn_cons]
  have kl : (envS fd s.heap.objs.size fa ((x2, s.heap.objs.size + 1) :: cl)).kindOf x1 = some .local := h1
  have kc : (envS fd s.heap.objs.size fa ((x2, s.heap.objs.size + 1) :: cl)).kindOf x2 = some .cell := h2
  have hLc : s.heap.objs.size ≠ s.heap.objs.size + 1 := Nat.ne_of_lt (Nat.lt_succ_self _)
  refine wpAny_bind (wpAny_bind (wpAny_storeName_local (env := envS fd s.heap.objs.size fa ((x2, s.heap.objs.size + 1) :: cl)) kl ns0 (fun h1' hn1 sm1 => wpAny_pure ?_) (by show (fd.scope.kind == .class || (fd.scope.kind == .module && (s.heap.objs.size != fd.globals))) = false; rw [hk]; rfl)))
  dsimp only
  rw [List.forIn_cons]
  have c1 : h1'.IsCell (s.heap.objs.size + 1) none := c0.sameBut sm1 (Ne.symm hLc)
  refine wpAny_bind (wpAny_bind (wpAny_storeName_cell (env := envS fd s.heap.objs.size fa ((x2, s.heap.objs.size + 1) :: cl)) hk kc (by show List.lookup x2 ((x2, s.heap.objs.size + 1) :: cl) = _; simp) c1 fun h2' hc2 sm2 => wpAny_pure ?_))
  dsimp only
  rw [List.forIn_nil]
  have le : Le s.heap h2' := fun b o e => by
    have hb : b < s.heap.objs.size := Heap.lt_size e
    exact sm2.extBut b o (Nat.ne_of_lt (Nat.lt_succ_of_lt hb)) (sm1.extBut b o (Nat.ne_of_lt hb) (Le.push _ _ _ _ (Le.push _ _ _ _ e)))
  refine wpAny_pure (wpAny_pure ⟨hlim.keeps le, codeAny_func (wpAny_mono (h h2' _ le (hn1.sameBut sm2 hLc) hc2) (fun _ _ x => x) fun _ _ e => e.elim)⟩)
end
end Mine
end
section
open PySem PySem.W PyProof.Rows PySem.Calls
set_option Elab.async false
set_option autoImplicit false
set_option maxRecDepth 100000
set_option maxHeartbeats 4000000
namespace Mine
/-- the inner def of _law_heights, read off its maker -/
noncomputable def stepDef (w : World) : Option (Arguments × List Stmt × Scope) := match (KF w).lookup 156 with
  | some ⟨_, _, .func fd, _⟩ => (match fd.body with
    | .stmts (.FunctionDef _ args body _ _ _ scope _ _ _ :: _) => some (args, body, scope)
    | _ => none)
  | _ => none
noncomputable def stepParts (w : World) : { x : Arguments × List Stmt × Scope // stepDef w = some x } := ⟨_, rfl⟩
noncomputable abbrev stepArgs (w : World) : Arguments := (stepParts w).1.1
noncomputable abbrev stepBody (w : World) : List Stmt := (stepParts w).1.2.1
noncomputable abbrev stepScope (w : World) : Scope := (stepParts w).1.2.2
theorem step_names (w : World) : (stepScope w).names = [(Str.ofString "heights", .local), (Str.ofString "k", .cell), (Str.ofString "leads", .free), (Str.ofString "max", .globalImplicit)] := rfl
noncomputable abbrev stepFd (w : World) (qual : Str) (c c' : Addr) (doc pm ctv : Value) : FuncData := fnX (Str.ofString "_law_step") qual (stepArgs w) (stepBody w) (stepScope w) [(Str.ofString "leads", c)] .none .none doc pm none (.ref c') ctv
def cellO (v : Value) (sl : Array (Option Value)) (od : Option Addr) (oc : Value) : Obj := ⟨oc, od, .cell (some v), sl⟩

def hOf (L : List Ws) (rows : List (List Int)) (k : Int) : List Int := (rows.filter fun r => lessF (L.getD (r.getD 0 0).toNat ⟨0, 0, [], 0⟩) (L.getD k.toNat ⟨0, 0, [], 0⟩)).map fun r => r.getD 1 0
def stepF (L : List Ws) (rows : List (List Int)) (k : Int) : List (List Int) := rows ++ [[k, 1 + max0 (hOf L rows k)]]

section
variable {prog : Program} {w : World} {mg mb : Str → Option Value} {k : Nat} {h : Heap} {n : GL}
theorem step_ev {L : List Ws} {rows : List (List Int)} {i : Int} {fs c c' : Addr} {qual : Str} {doc pm ctv lv u v : Value} {oc oo : Obj} {vs : Array Value} {tq : Tok} (G : Gd (KF w) mg mb h) (hf : (fs, (⟨.type "function", none, .func (stepFd w qual c c' doc pm ctv), #[]⟩ : Obj)) ∈ n)
    (hcode : (c', oc) ∈ n) (hcd : oc.data = .fields vs) (hcq : vs[1]? = some (.str qual tq)) (hcell : (c, oo) ∈ n) (hcv : oo.data = .cell (some lv)) (hl : ListV (WsV w.params) L n lv) (hL : ∀ W ∈ L, W.Ok) (hsz : L.length ≤ 1000)
    (hu : RowsV rows n u) (hv : IntV i n v) (bi : 0 ≤ i ∧ i < L.length) (hr : ∀ r ∈ rows, r.length = 2 ∧ 0 ≤ r.getD 0 0 ∧ r.getD 0 0 < L.length) (hrz : rows.length ≤ 1000) :
    Ev prog w (k + 6) h n (call (.ref fs) [u, v]) (RowsV (stepF L rows i)) := by
  intro A s n₁ Q E hA l sb ok q
  have G' := G.keeps l
  have rec' : s.heap.CodeRec (.ref c') qual := ⟨c', oc, vs, tq, rfl, ok _ (sb _ hcode), hcd, hcq⟩
  refine wpAny_call (call_step (fd := stepFd w qual c c' doc pm ctv) (x1 := Str.ofString "heights") (x2 := Str.ofString "k") (cl := [(Str.ofString "leads", c)]) hA.room (ok _ (sb _ hf)) rfl G'.nolimit rec' rfl (by rfl) rfl (by intro _; rfl) (by intro _; rfl) (by rfl) (by rfl) (by rfl) (by rfl) (by rfl) fun h₁ tk le ns ck => ?_)
  have hA1 : ∀ env, Aok (k + 5) (A.deeper env) := fun env => (hA.deep _)
  have ok1 : GOk n₁ h₁ := ok.keep le
  have G1 := G'.keeps le
  have hu1 := mono_RowsV _ _ _ _ sb hu
  have hl1 := mono_ListV (mono_WsV w.params) _ _ _ _ sb hl
  have cl1 : h₁.IsCell c (some lv) := ⟨_, ok1 _ (sb _ hcell), hcv⟩
  have X : Fx s.heap n₁ [s.heap.objs.size, s.heap.objs.size + 1] h₁ n₁ :=
    ⟨le, Sub.refl _, ok1, fun _ e => .inl e, fun p hp => allC (Nat.ne_of_lt (Heap.lt_size (ok p hp))) (all1 (Nat.ne_of_lt (Nat.lt_succ_of_lt (Heap.lt_size (ok p hp))))), allC (nsLive ns) (all1 (cellLive ck)), allC (new_none' (Nat.le_refl _)) (all1 (new_none' (Nat.le_succ _)))⟩
  refine wpAny_mono (Q := Ends s.heap n₁ s (RowsV (stepF L rows i))) ?_ (fun f s' hf => ?_) fun _ _ e => e
  rotate_left
  · obtain ⟨h', tk, n', rfl, g, r⟩ := hf
    exact q _ h' tk n' g r
  refine st_return (s := { s with heap := h₁, toks := tk }) (hA1 _) X (F := RowsV (stepF L rows i)) ?_ ?_
  · refine Ev.addL mono_RowV (by simp; exact Nat.le_trans (by assumption) (by decide)) (Ev.name (NameIs.loc ns (by rfl)) (mono_RowsV _) hu1) (Ev.listN mono_RowV (by simp) (Ev.argsS (mono_RowV [i, 1 + max0 (hOf L rows i)]) (Ev.listN mono_IntV (by simp) (Ev.argsS (mono_IntV i) (Ev.name (NameIs.cel ck) (mono_IntV i) hv) (Ev.argsS (mono_IntV _) (Ev.addI Ev.cint ?_) Ev.args0))) Ev.args0))
    refine callBui (Ev.nameE (nmMax G1 (by rfl))) (Ev.argsS (mono_RowV (0 :: hOf L rows i)) ?_ Ev.args0) ?_
    · refine Ev.addL (xs := [0]) (ys := hOf L rows i) mono_IntV ?_ (Ev.listN mono_IntV (by simp) (Ev.argsS (mono_IntV 0) Ev.cint Ev.args0)) ?_
      · have : (hOf L rows i).length ≤ rows.length := by unfold hOf; rw [List.length_map]; exact List.length_filter_le _ _
        simp; omega
      · refine Ev.cons (Ev.compP (cl := [(Str.ofString "leads", c), (Str.ofString "k", s.heap.objs.size + 1)]) (G := fun r => IntV (r.getD 1 0)) (rows := rows) (p := fun r => lessF (L.getD (r.getD 0 0).toNat ⟨0, 0, [], 0⟩) (L.getD i.toNat ⟨0, 0, [], 0⟩))
          (Ev.name (NameIs.loc ns (by rfl)) (mono_RowsV _) hu1) (fun r hr' => (hr r hr').1) (fun r => mono_IntV _) ?_ ?_ (by exact Nat.le_trans (by assumption) (by decide))) ?_
        · intro r v1 v2 C H N hrm hle hsb f1 f2 nm1 nm2
          obtain ⟨_, r0, r1⟩ := hr r hrm
          have GH := G1.keeps hle
          have hlN := mono_ListV (mono_WsV w.params) _ _ _ _ hsb hl1
          have e1 : L[(r.getD 0 0).toNat]? = some (L.getD (r.getD 0 0).toNat ⟨0, 0, [], 0⟩) := getD_some (by exact (Int.toNat_lt (by assumption)).mpr (by assumption))
          have e2 : L[i.toNat]? = some (L.getD i.toNat ⟨0, 0, [], 0⟩) := getD_some (by omega)
          refine Ev.tests1 (Ev.testB ?_)
          refine Ev.wsMeth (fa := 87) (W := L.getD (r.getD 0 0).toNat ⟨0, 0, [], 0⟩) (Fs := [WsV w.params (L.getD i.toNat ⟨0, 0, [], 0⟩)]) GH (by rfl) (by rfl) (by rfl) (by intros; rfl)
            (Ev.item (xs := L) (mono_WsV w.params) r0 (by omega) e1 (Ev.name (NameIs.free (cl1.keeps hle)) (mono_ListV (mono_WsV w.params) _) hlN) (Ev.name nm1 (mono_IntV _) f1))
            (Ev.argsS (mono_WsV w.params _) (Ev.item (xs := L) (mono_WsV w.params) bi.1 (by omega) e2 (Ev.name (NameIs.free (cl1.keeps hle)) (mono_ListV (mono_WsV w.params) _) hlN) (Ev.name (NameIs.cel (ck.keeps hle)) (mono_IntV _) hv)) Ev.args0) ?_ (hargs := meth_args1 rfl)
          intro x vs n' _ hx hp
          obtain ⟨y, rfl, hy⟩ := paired1 hp
          exact less_ev (k := k + 1) GH hx hy (hL _ (List.mem_of_getElem? e1)) (hL _ (List.mem_of_getElem? e2))
        · intro r v1 v2 C H N hrm hpr hle hsb f1 f2 nm1 nm2
          exact Ev.name nm2 (mono_IntV _) f2
        · rintro n' v _ ⟨a, vs, e, rfl, hm, hp⟩
          exact ⟨a, vs, e, rfl, hm, paired_map (f := fun r : List Int => r.getD 1 0) (fun x v h => h) hp⟩
    · refine arg1 fun x n' _ hx => ?_
      exact op_maxL hx
  · intro v h' tk' n' X' _ f _
    exact ⟨h', tk', n', rfl, X'.done, f⟩
end
end Mine
end
section
open PySem PySem.W PyProof.Rows PySem.Calls
set_option Elab.async false
set_option autoImplicit false
set_option maxRecDepth 100000
namespace Mine
section
variable {prog : Program} {w : World} {mg mb : Str → Option Value} {k : Nat} {h : Heap} {n : GL}
theorem Ev.enterB {K : Frag} {mg mb : Str → Option Value} {k : Nat} {h : Heap} {n : GL} {fa : Addr} {fd : FuncData} {body : List Stmt} {vs : List Value} {binds : List (Str × Value)} {R : GL → Value → Prop} {oc : Value} {od : Option Addr} {osl : Array (Option Value)}
    (G : Gd K mg mb h) (hK : K.lookup fa = some ⟨oc, od, .func fd, osl⟩) (hcd : codeIn K fd.code fd.qualname = true) (hbody : fd.body = .stmts body) (hbind : ∀ s : Shared, K.In s.heap → BindsTo s fd ⟨vs, []⟩ binds)
    (H : ∀ (A : Around) (s : Shared) (h₁ : Heap) (n₁ : GL) (tk : Nat), Aok k A → Le h s.heap → Sub n n₁ → h₁.Ns s.heap.objs.size (fun x => binds.reverse.lookup x) → Fx s.heap n₁ [s.heap.objs.size] h₁ n₁ →
      wpAny (model prog w) A (execs body (callEnv fd s.heap.objs.size fa)) (Ends s.heap n₁ s R) (fun _ _ => False) { s with heap := h₁, toks := tk })
    (hcell : ∀ x ∈ fd.scope.names, x.2 ≠ .cell := by decide) (hloc : ∀ x ∈ binds, fd.scope.names.lookup x.1 = some .local := by exact locs rfl)
    (hco : fd.scope.isCoroutine = false := by rfl) (hgen : fd.scope.isGenerator = false := by rfl) (hk : fd.scope.kind = .function := by rfl) : Ev prog w (k + 1) h n (call (.ref fa) vs) R := by
  intro A s n₁ Q E hA l sb ok q
  have G' := G.keeps l
  refine wpAny_call (codeAny_call_def hA.room (G'.K _ _ hK) rfl G'.nolimit (codeRec_of G'.K hcd) hbody (hbind s G'.K) hcell hloc (fun h₀ hns hk0 => ?_) hco hgen hk)
  refine wpAny_mono (H _ s h₀ n₁ _ ?_ l sb hns ?_) (fun f s' hf => ?_) fun _ _ e => e.elim
  · exact (hA.deep _)
  · refine ⟨hk0, Sub.refl _, ok.keep hk0, fun _ e => .inl e, fun p hp a ha => ?_, fun a ha => ?_, fun a ha => ?_⟩
    · rw [List.mem_singleton.mp ha]; exact Nat.ne_of_lt (Heap.lt_size (ok p hp))
    · rw [List.mem_singleton.mp ha]; obtain ⟨o, _, _, ho, _⟩ := hns; exact ⟨o, ho⟩
    · rw [List.mem_singleton.mp ha]; exact new_none _
  · obtain ⟨h', tk, n', rfl, g, r⟩ := hf
    exact q _ h' tk n' g r
theorem nmIter {K : Frag} {env : Env} (G : Gd K mg mb h) (e : nsIn K mainGlobals (Str.ofString "iter") = some none) (hg : env.globals = mainGlobals := by rfl) (hb : env.builtins = builtinsNs := by rfl) (hk : env.scope.kind = .function := by rfl) (hx : env.kindOf (Str.ofString "iter") = some .globalImplicit := by rfl) :
    NameIs prog w env h (Str.ofString "iter") (.builtin "iter") := NameIs.bui G e (by decide +kernel) (by decide) hg hb hk hx
theorem call_iter {A : Around} {E : Value → Shared → Prop} {s : Shared} {l : Addr} {items : Array Value} {Q : Value → Shared → Prop} (hl : s.heap.IsList l items)
    (q : Q (.ref s.heap.objs.size) { s with heap := s.heap.push { cls := .type "list_iterator", data := .fields #[.ref l, .int 0 0] } }) : wpAny (model prog w) A (call (.builtin "iter") [.ref l]) Q E s := by
  refine call_function_entry (by decide +kernel) (by decide +kernel) kdk_entry_iter (kdk_args_iter _) ?_
  unfold Builtin.«iter»
  refine wpAny_bind (m := someArgs "iter" 1 2 _) (wpAny_of_eq (a := [Value.ref l]) (by first | rfl | kernel_rfl) ?_)
  show wpAny _ _ (pyIter (.ref l) >>= _) _ _ _
  refine wpAny_bind (wpAny_pyIter_list hl ?_)
  exact wpAny_pure ⟨_, rfl, q⟩
inductive RedAt (s : Shared) (n₁ n4 : GL) (I l fs : Addr) (order : List Int) (f : List (List Int) → Int → List (List Int)) (acc₀ : List (List Int)) : Nat → Shared → Prop
  | mk (H : Heap) (tk : Nat) (N : GL) (M : Str → Option Value) (i : Nat) (av : Value) : H.IsListIter I l i → Fx s.heap n₁ [I, s.heap.objs.size] H N → H.Ns s.heap.objs.size M → M "value" = some av → RowsV ((order.take i).foldl f acc₀) N av → M "function" = some (.ref fs) → Sub n4 N → i ≤ order.length →
      RedAt s n₁ n4 I l fs order f acc₀ (order.length + 1 - i) { s with heap := H, toks := tk }
theorem reduce_ev {order : List Int} {acc₀ : List (List Int)} {f : List (List Int) → Int → List (List Int)} {fs : Addr} {fd : FuncData} {ov iv : Value} (G : Gd (KF w) mg mb h) (hf : (fs, (⟨.type "function", none, .func fd, #[]⟩ : Obj)) ∈ n) (ho : RowV order n ov) (hi : RowsV acc₀ n iv)
    (hstep : ∀ h' n' (i : Nat) a u v, Le h h' → Sub n n' → order[i]? = some a → RowsV ((order.take i).foldl f acc₀) n' u → IntV a n' v → Ev prog w (k + 6) h' n' (call (.ref fs) [u, v]) (RowsV (f ((order.take i).foldl f acc₀) a))) :
    Ev prog w (k + 7) h n (call (.ref 30) [.ref fs, ov, iv]) (RowsV (order.foldl f acc₀)) := by
  refine Ev.enterB (k := k + 6) G (by rfl) (by rfl) (by rfl) (fun s X => binds_K X rfl (by rfl) rfl rfl rfl) ?_
  intro A s h₁ n₁ tk hA le sb N X
  have G₁ := G.keeps (le.trans X.keep)
  obtain ⟨l, vs, eL, rfl, hlm, hlp⟩ := mono_RowV _ _ _ _ sb ho
  have hi1 := mono_RowsV _ _ _ _ sb hi
  have hlen := hlp.length
  -- it = iter(sequence)
  refine wpAny_execs_cons (wpAny_Assign_Name (Call_ ?_) (by rfl))
  refine (nmIter G₁ (by rfl) : NameIs prog w _ h₁ _ _) _ _ _ _ { s with heap := h₁, toks := tk } (fun _ _ e => e) ?_
  refine PyProof.Rows.callWith_builtin1 (args_cons ((NameIs.loc (v := .ref l) N (by rfl) : NameIs prog w _ h₁ _ _) _ _ _ _ { s with heap := h₁, toks := tk } (fun _ _ e => e) (args_nil ?_)) rfl) rfl (by rfl)
  have hl1 : h₁.IsList l vs.toArray := ⟨_, X.ok _ hlm, rfl, _, rfl⟩
  refine call_iter (s := { s with heap := h₁, toks := tk }) hl1 ?_
  have le12 : Le h₁ (h₁.push { cls := .type "list_iterator", data := .fields #[.ref l, .int 0 0] }) := Le.push _ _
  refine wpAny_storeName_local (by rfl) (N.keeps le12) (fun h2 N2 sm2 => ?_) (by rfl)
  have hLI : s.heap.objs.size ≠ h₁.objs.size := by obtain ⟨o, _, _, ho, _⟩ := N; exact Nat.ne_of_lt (Heap.lt_size ho)
  have X1 := X.own le12 (new_none _) (Heap.get?_push_size _ rfl)
  have X2 : Fx s.heap n₁ [h₁.objs.size, s.heap.objs.size] h2 n₁ := X1.upd (.tail _ (.head _)) sm2 (let ⟨o, _, _, ho, _⟩ := N2; ⟨o, ho⟩)
  have it2 : h2.IsListIter h₁.objs.size l 0 := ⟨_, sm2.extBut _ _ (Ne.symm hLI) (Heap.get?_push_size _ rfl), rfl, rfl⟩
  generalize hI : h₁.objs.size = I at *
  -- if initial is _initial_missing
  obtain ⟨ia, ivs, ie, rfl, him, hip⟩ := hi1
  have G₂ := G.keeps (le.trans X2.keep)
  obtain ⟨o22, hK22, h22c⟩ : ∃ o, (KF w).lookup 22 = some o ∧ o.cls = .type "object" := ⟨_, by rfl, by rfl⟩
  have ne22 : ia ≠ 22 := fun e => by
    have e1 := X2.ok _ him
    have e2 := G₂.K _ _ hK22
    dsimp only at e1
    rw [e, e2] at e1
    have e3 := congrArg Obj.cls (Option.some.inj e1)
    rw [h22c] at e3
    exact absurd e3 (by simp)
  refine st_if (s := { s with heap := h2, toks := tk + 1 }) hA X2 (c := false) (Ev.CmpT (Ev.nameE (NameIs.loc (v := .ref ia) N2 (by rfl))) (Ev.nameE (NameIs.glo (v := .ref 22) G₂ (by rfl))) (mono_EqV _) ?_) (fun hc => by cases hc) ?_
  · rintro _ _ n' hsb rfl rfl
    refine Ev.read (v := Value.bool false) (fun A s Q E _ le' ok q => ?_) fun _ _ => rfl
    exact PySem.W.kto_is (le' _ _ (X2.ok _ him)) (le' _ _ (G₂.K _ _ hK22)) ne22 (by simp) (q _)
  intro _ h3 t3 n3 X3 sb3 le3
  refine st_assign (s := { s with heap := h3, toks := t3 }) hA X3 (N2.keeps le3) (.tail _ (.head _)) (F := RowsV acc₀) (Ev.name (NameIs.loc (N2.keeps le3) (by rfl)) (mono_RowsV _) ⟨ia, ivs, ie, rfl, sb3 _ him, Paired.mono' (fun r v q => mono_RowV r _ _ _ sb3 q) hip⟩) ?_
  intro v4 h4 t4 n4 X4 N4 sb4 f4 kp4
  refine wpAny_execs_nil ?_
  have it4 : h4.IsListIter I l 0 := (it2.at fun o e => le3 _ _ e).at fun o e => kp4 _ _ (Ne.symm hLI) e
  have hlm4 := sb4 _ (sb3 _ hlm)
  have hne : l ≠ I := fun e => X4.apart _ hlm4 I (.head _) e
  -- for element in it
  refine wpAny_execs_cons (wpAny_For ?_ (by intro _; rfl))
  refine (NameIs.loc (v := .ref I) N4 (by rfl) : NameIs prog w _ h4 _ _) _ _ _ _ { s with heap := h4, toks := t4 } (fun _ _ e => e) ?_
  have W : Walks prog w (A) I [I, l] [I] vs.toArray.size (fun i v => vs.toArray[i]? = some v) (fun i h => h.IsListIter I l i ∧ h.IsList l vs.toArray) := Walks.list hA.handled _ _ hne _
  have isL : ∀ {H : Heap} {N : GL}, Sub n4 N → GOk N H → H.IsList l vs.toArray := fun sb ok => ⟨_, ok _ (sb _ hlm4), rfl, _, rfl⟩
  refine W.self 0 _ _ _ ⟨it4, isL (Sub.refl _) X4.ok⟩ ?_
  refine codeAny_forLoop_any
    (RedAt s n₁ n4 I l fs order f acc₀) ?_ (order.length + 1)
    (.mk h4 t4 n4 _ 0 v4 it4 X4 N4 (if_pos rfl) f4 (by rfl) (Sub.refl _) (Nat.zero_le _))
  rintro j s' ⟨H, tk', N', M, i, av, itH, XH, nsM, mv, fv, mf, sbN, hi'⟩
  have keepB : ∀ {H1 : Heap}, (∀ b o, b ∉ [I] → H.get? b = some o → H1.get? b = some o) → ∀ b o, b ≠ I → H.get? b = some o → H1.get? b = some o := fun hk b o hb e => hk b o (nin1 hb) e
  by_cases hlt : i < order.length
  · refine W.item i _ _ _ (by simp; grind) ⟨itH, isL sbN XH.ok⟩ fun v H1 tk1 hPv hst1 hk1 => ?_
    obtain ⟨a, ha, fa⟩ := Paired.get' hlp (show vs[i]? = some v by simpa using hPv)
    obtain ⟨oI, hoI, hoI'⟩ := hst1.1
    have X1' : Fx s.heap n₁ [I, s.heap.objs.size] H1 N' := XH.updB (.head _) (keepB hk1) ⟨oI, hoI⟩
    have ns1 := nsM.at' fun o e => keepB hk1 _ o hLI e
    refine wpAny_of_eq (rfl : letOwnedTupleGo _ (.ref I) v = pure ()) ?_
    refine wpAny_assign_Name (wpAny_storeName_local (by rfl) ns1 (fun H2 ns2 sm2 => ?_) (by rfl))
    have XH2 := X1'.upd (.tail _ (.head _)) sm2 (let ⟨o, _, _, ho, _⟩ := ns2; ⟨o, ho⟩)
    have it2' : H2.IsListIter I l (i + 1) := ⟨oI, sm2.extBut _ _ (Ne.symm hLI) hoI, hoI'⟩
    have G2 := G.keeps (le.trans XH2.keep)
    refine wpAny_mono (E := fun _ _ => False) (st_assign (s := { s with heap := H2, toks := _ }) (Q := fun fl s' => fl = .next ∧ ∃ m, m < order.length + 1 - i ∧ RedAt s n₁ n4 I l fs order f acc₀ m s')
      hA XH2 ns2 (.tail _ (.head _)) (F := RowsV ((order.take (i + 1)).foldl f acc₀)) ?_ ?_) (fun fl s' hq => ?_) fun _ _ e => e.elim
    · have e : (order.take (i + 1)).foldl f acc₀ = f ((order.take i).foldl f acc₀) a := by rw [List.take_add_one, ha, List.foldl_append]; rfl
      rw [e]
      refine callFn (fa := fs) (fd := fd) (sbN _ (sb4 _ (sb3 _ (sb _ hf)))) (Ev.nameE (NameIs.loc ns2 (at_ne mf))) (Ev.argsS (mono_RowsV _) (Ev.name (NameIs.loc ns2 (at_ne mv)) (mono_RowsV _) fv) (Ev.argsS (mono_IntV a) (Ev.name (NameIs.loc ns2 at_same) (mono_IntV a) fa) Ev.args0)) ?_
      refine arg2 fun u' v' n' hsb hu' hv' => ?_
      exact hstep H2 n' i a u' v' (le.trans XH2.keep) ((((sb.trans sb3).trans sb4).trans sbN).trans hsb) ha hu' hv'
    · intro v5 h5 t5 n5 X5 N5 sb5 f5 kp5
      refine wpAny_execs_nil ⟨rfl, order.length + 1 - (i + 1), dec_lt hlt, h5, t5, n5, _, i + 1, v5, it2'.at fun o e => kp5 _ _ (Ne.symm hLI) e, X5, N5, at_same, f5, (if_neg (by decide)).trans ((if_neg (by decide)).trans mf), sbN.trans sb5, hlt⟩
    · obtain ⟨rfl, r⟩ := hq
      exact r
  · have hin : i = order.length := Nat.le_antisymm hi' (Nat.not_lt.mp hlt)
    subst hin
    refine W.done _ _ _ ⟨by simpa [hlen] using itH, isL sbN XH.ok⟩ fun H1 tk1 hk1 => ?_
    rw [List.take_length] at fv
    have ns1 := nsM.at' fun o e => keepB hk1 _ o hLI e
    refine wpAny_mono (E := fun _ _ => False) (wpAny_execs_nil ?_) (fun _ _ e => e) fun _ _ e => e.elim
    have X1' : Fx s.heap n₁ [s.heap.objs.size] H1 N' := (XH.less (ow' := [s.heap.objs.size]) fun a ha => .tail _ ha).but (keepB hk1) (XH.fresh I (.head _)) (fun p hp => XH.apart p hp I (.head _)) (by simp; exact Ne.symm hLI)
    refine st_return (s := { s with heap := H1, toks := tk1 }) hA X1' (F := RowsV (order.foldl f acc₀)) (Ev.name (NameIs.loc ns1 mv) (mono_RowsV _) fv) ?_
    intro v h' tk' n' X3 _ f _
    exact ⟨h', tk', n', rfl, X3.done, f⟩
end
end Mine
end
section
open PySem PySem.W PyProof.Rows PySem.Calls
set_option Elab.async false
set_option autoImplicit false
set_option maxRecDepth 100000
set_option maxHeartbeats 4000000
namespace Mine
def heightsF (L : List Ws) (order : List Int) : List (List Int) := order.foldl (stepF L) []
theorem foldl_step (L : List Ws) (b : Int) : ∀ (order : List Int) (acc : List (List Int)), (∀ r ∈ acc, r.length = 2 ∧ 0 ≤ r.getD 0 0 ∧ r.getD 0 0 < b) → (∀ i ∈ order, 0 ≤ i ∧ i < b) →
    (∀ r ∈ order.foldl (stepF L) acc, r.length = 2 ∧ 0 ≤ r.getD 0 0 ∧ r.getD 0 0 < b) ∧ (order.foldl (stepF L) acc).length = acc.length + order.length
  | [], acc, h1, _ => ⟨h1, rfl⟩
  | k :: r, acc, h1, h2 => by
    have hk := h2 k (.head _)
    obtain ⟨a, c⟩ := foldl_step L b r (stepF L acc k) (fun x hx => by
      rcases List.mem_append.mp hx with hx | hx
      · exact h1 x hx
      · rw [List.mem_singleton.mp hx]; exact ⟨rfl, hk.1, hk.2⟩) fun i hi => h2 i (.tail _ hi)
    refine ⟨a, ?_⟩
    rw [List.foldl_cons, c]
    simp [stepF]; grind
section
variable {prog : Program} {w : World} {mg mb : Str → Option Value} {k : Nat} {s : Shared} {n₁ : GL} {A : Around} {E : Value → Shared → Prop} {Q : Value → Shared → Prop}
theorem heights_call {L : List Ws} {order : List Int} {out : List (List Int)} {lv ov : Value} (hA : Aok (k + 9) A) (G : Gd (KF w) mg mb (hideAll s.heap [151])) (hP : s.heap.get? 151 = some (tabObj #[])) (hC : CodeHd (hideAll s.heap [151]) 155 151) (hB : (hideAll s.heap [151]).BuiltinsAt mg 151)
    (ok : GOk n₁ s.heap) (hn : ∀ p, p ∈ n₁ → p.1 ≠ 151) (hl : ListV (WsV w.params) L n₁ lv) (hL : ∀ W ∈ L, W.Ok) (hsz : L.length ≤ 1000) (ho : RowV order n₁ ov) (bo : ∀ i ∈ order, 0 ≤ i ∧ i < L.length) (z1 : 2 ≤ order.length) (z2 : order.length < 64)
    (hd : ((heightsF L order).map (·.headD 0)).Nodup) (hp : out.Perm (heightsF L order)) (hs : out.Pairwise fun r r' => r.headD 0 < r'.headD 0)
    (q : ∀ v h' tk n' ps, Grow (hideAll s.heap [151]) n₁ h' n' → RowsV out n' v → (151, tabObj ps) ∈ n' → Q v { s with heap := h', toks := tk }) :
    wpAny (model prog w) A (call (.ref 156) [lv, ov]) Q E s := by
  have G' : Gd (KF w) mg mb s.heap := G.keeps fun _ _ e => of_hideAll _ e
  refine wpAny_call (codeAny_call_cells hA.room (G'.K _ _ (by rfl)) rfl G'.nolimit (codeRec_of G'.K (by rfl)) (by rfl) (by rfl) (by rfl) (kindsX (by rfl) _) (fun s₁ x => ?_))
  obtain ⟨h₁, tk, rfl, hk0⟩ := x.done
  have hA1 : ∀ env, Aok (k + 8) (A.deeper env) := fun env => (hA.deep _)
  have ns1 := x.toInCall.ns
  have cl1 := x.cell (Str.ofString "leads") (s.heap.objs.size + 1) (by rfl)
  have cl1' : h₁.IsCell (s.heap.objs.size + 1) (some lv) := cl1
  have fresh1 : ∀ a, s.heap.objs.size ≤ a → (hideAll s.heap [151]).get? a = none := fun a ha => by
    cases e : (hideAll s.heap [151]).get? a with
    | none => rfl
    | some o => have := of_hideAll _ e; rw [new_none' ha] at this; cases this
  have lt151 : 151 < s.heap.objs.size := Heap.lt_size hP
  have cL : s.heap.objs.size + 1 ≠ s.heap.objs.size := Nat.ne_of_gt (Nat.lt_succ_self _)
  have PL : (151 : Addr) ≠ s.heap.objs.size := Nat.ne_of_lt lt151
  have Pc : (151 : Addr) ≠ s.heap.objs.size + 1 := Nat.ne_of_lt (Nat.lt_succ_of_lt lt151)
  have X : Fx (hideAll s.heap [151]) n₁ [s.heap.objs.size, s.heap.objs.size + 1, 151] h₁ n₁ := by
    exact ⟨fun b o e => hk0 _ _ (of_hideAll _ e), Sub.refl _, ok.keep hk0, fun _ e => .inl e, fun p hp => allC (Nat.ne_of_lt (Heap.lt_size (ok p hp))) (allC (Nat.ne_of_lt (Nat.lt_succ_of_lt (Heap.lt_size (ok p hp)))) (all1 (hn p hp))),
      allC (nsLive ns1) (allC (cellLive cl1') (all1 ⟨_, hk0 _ _ hP⟩)), allC (fresh1 _ (Nat.le_refl _)) (allC (fresh1 _ (Nat.le_succ _)) (all1 (hideAll_none _ (.head _))))⟩
  have G1 := G.keeps X.keep
  -- def _law_step
  refine wpAny_execs_cons (nestDef_K (by rfl) (by rfl) (by rfl) ?_)
  have B1 : h₁.BuiltinsAt mg 151 := by
    obtain ⟨bm, ob, b1, b2, b3, b4, b5, b6⟩ := hB
    exact ⟨bm, ob, b1, b2, b3, b4, X.keep _ _ b5, b6⟩
  refine makeFunction_K (clos := [(Str.ofString "leads", s.heap.objs.size + 1)]) (mg := mg) (by rfl) rfl G1.g (c := 155) (by rfl) (hC.keeps X.keep) (hk0 _ _ hP) (by first | trivial | exact .nil | simp [TriplesOk]) (by rfl) (by decide) B1 fun c' ctv doc h2 tk2 hx hge hlt hrec htb => ?_
  obtain ⟨c2, oc, vs, tq, ec, hoc, hocd, hocq⟩ := hrec
  cases ec
  generalize hfo : fnMade _ _ _ _ _ _ doc _ c' ctv = fo
  have X2 : Fx (hideAll s.heap [151]) n₁ [s.heap.objs.size, s.heap.objs.size + 1, 151] h2 n₁ := X.updB (.tail _ (.tail _ (.head _))) (fun b o hb e => hx b o hb e) ⟨_, htb⟩
  have le3 : Le h2 (h2.push fo) := Le.push _ _
  have X3 := X2.grow (Grow.heap X2.ok le3)
  have nof : ∀ a, h2.objs.size ≤ a → a ∉ [s.heap.objs.size, s.heap.objs.size + 1, 151] := fun a ha hm => by obtain ⟨o, ho⟩ := X2.live a hm; rw [new_none' ha] at ho; cases ho
  have noc : c' ∉ [s.heap.objs.size, s.heap.objs.size + 1, 151] := fun hm => by obtain ⟨o, ho⟩ := X.live c' hm; rw [new_none' hge] at ho; cases ho
  have hfn : (h2.push fo).get? h2.objs.size = some fo := Heap.get?_push_size _ (by rw [← hfo]; rfl)
  have X4 := X3.addG hfn (X2.keep.none (new_none _)) (nof _ (Nat.le_refl _))
  have X5 := X4.addG (le3 _ _ hoc) (X.keep.none (new_none' hge)) noc
  obtain ⟨oo, hoo, hood⟩ := cl1'
  have hoo2 : h2.get? (s.heap.objs.size + 1) = some oo := hx _ _ (Ne.symm Pc) hoo
  have X6 : Fx (hideAll s.heap [151]) n₁ [s.heap.objs.size, 151] (h2.push fo) ((s.heap.objs.size + 1, oo) :: (c', oc) :: (h2.objs.size, fo) :: n₁) := X5.freeze (.tail _ (.head _)) (le3 _ _ hoo2) (allC ⟨.head _, Ne.symm cL⟩ (all1 ⟨.tail _ (.tail _ (.head _)), Pc⟩))
  have X6 : Fx (hideAll s.heap [151]) n₁ [s.heap.objs.size] (h2.push fo) ((151, _) :: (s.heap.objs.size + 1, oo) :: (c', oc) :: (h2.objs.size, fo) :: n₁) := X6.freeze (.tail _ (.head _)) (le3 _ _ htb) (all1 ⟨.head _, Ne.symm PL⟩)
  have ns2 := ((ns1.at' fun o e => hx _ o (Ne.symm PL) e).keeps le3)
  refine wpAny_storeName_local (by rfl) ns2 (fun h4 ns4 sm4 => ?_) (by rfl)
  have X7 := X6.upd (.head _) sm4 (let ⟨o, _, _, ho, _⟩ := ns4; ⟨o, ho⟩)
  have G7 := G.keeps X7.keep
  generalize hn7 : ((151, _) :: (s.heap.objs.size + 1, oo) :: (c', oc) :: (h2.objs.size, fo) :: n₁ : GL) = n7 at *
  have sb7 : Sub n₁ n7 := by rw [← hn7]; exact fun p hp => .tail _ (.tail _ (.tail _ (.tail _ hp)))
  have m151 : ∃ ps, (151, tabObj ps) ∈ n7 := by rw [← hn7]; exact ⟨_, .head _⟩
  have mcell : (s.heap.objs.size + 1, oo) ∈ n7 := by rw [← hn7]; exact .tail _ (.head _)
  have mcode : (c', oc) ∈ n7 := by rw [← hn7]; exact .tail _ (.tail _ (.head _))
  have mfn : (h2.objs.size, fo) ∈ n7 := by rw [← hn7]; exact .tail _ (.tail _ (.tail _ (.head _)))
  have ho7 := mono_RowV _ _ _ _ sb7 ho
  have hl7 := mono_ListV (mono_WsV w.params) _ _ _ _ sb7 hl
  have hfold := foldl_step L L.length order [] (fun r hr => nomatch hr) bo
  have hlenH : (heightsF L order).length = order.length := by rw [heightsF, hfold.2]; simp
  refine wpAny_mono (E := fun _ _ => False) (st_returnSorted (s := { s with heap := h4, toks := _ }) (Q := Ends (hideAll s.heap [151]) n₁ s (fun n' v => RowsV out n' v ∧ ∃ ps, (151, tabObj ps) ∈ n')) (rows := heightsF L order) (out := out) (hA1 _) X7 ns4 (.head _) (nmSorted G7 (by rfl)) ?_ (by grind) (by grind) ?_ hd hp hs ?_) (fun f s' hf => ?_) fun _ _ e => e.elim
  · refine callDef (fa := 30) G7 (by rfl) (Ev.nameE (NameIs.glo G7 (by rfl))) (Ev.argsS (mono_EqV (.ref h2.objs.size)) (Ev.nameE (NameIs.loc ns4 at_same)) (Ev.argsS (mono_RowV order) (Ev.name (NameIs.loc ns4 (by rfl)) (mono_RowV _) ho7) (Ev.argsS (mono_RowsV []) Ev.list0 Ev.args0))) ?_
    intro vs' n' hsb hpv
    obtain ⟨a1, a2, a3, rfl, rfl, f2, f3⟩ := paired3 hpv
    subst hfo
    refine reduce_ev (k := k + 1) G7 (hsb _ mfn) f2 f3 ?_
    intro h' n2 i a u v le' hsb' ha fu fv
    have hi : i < order.length := (List.getElem?_eq_some_iff.mp ha).1
    have hft := foldl_step L L.length (order.take i) [] (fun r hr => nomatch hr) fun j hj => bo j (List.mem_of_mem_take hj)
    have hsb2 := hsb.trans hsb'
    exact step_ev (k := k + 1) (G7.keeps le') (hsb2 _ mfn) (hsb2 _ mcode) hocd hocq (hsb2 _ mcell) hood (mono_ListV (mono_WsV w.params) _ _ _ _ hsb2 hl7) hL hsz fu fv (bo a (List.mem_of_getElem? ha)) hft.1 (by rw [hft.2]; simp; grind)
  · intro r hr e
    have := (hfold.1 r hr).1
    rw [e] at this; cases this
  · intro v h' tk' n' X8 sb8 f
    obtain ⟨ps, hps⟩ := m151
    exact ⟨h', tk', n', rfl, X8.done, f, ps, sb8 _ hps⟩
  · obtain ⟨h', tk', n', rfl, g, r, ps, hps⟩ := hf
    exact q _ h' tk' n' ps g r hps
end
end Mine
end
section
open PySem PySem.W PyProof.Rows PySem.Calls PySem.Spec
set_option Elab.async false
set_option autoImplicit false
set_option maxRecDepth 100000
namespace Mine
def pdRow (r : List Int) : PyData := .list (r.map PyData.int)
def pdRows (rs : List (List Int)) : PyData := .list (rs.map pdRow)
theorem canLay_rows : ∀ rs : List (List Int), PyData.canLayAll0 (rs.map pdRow) = true
  | [] => rfl
  | r :: t => by simp [PyData.canLayAll0, pdRow, PyData.canLay0, ke_canLayAll0, canLay_rows t]
theorem depth_rows : ∀ rs : List (List Int), PyData.depthAll (rs.map pdRow) ≤ 1
  | [] => by simp [PyData.depthAll]
  | r :: t => by
    have := depth_rows t
    simp [PyData.depthAll, pdRow, PyData.depth, ke_depthAll]
    grind
theorem shaped_rows (rs : List (List Int)) : SeqAt.shaped (pdRows rs) = true := by
  have := depth_rows rs
  simp [SeqAt.shaped, pdRows, PyData.canLay0, PyData.depth, canLay_rows]
  exact Nat.le_trans (by assumption) (by decide)
theorem sameAll_rows : ∀ rs ts : List (List Int), PySem.Spec.sameAll (rs.map pdRow) (ts.map pdRow) = decide (rs = ts)
  | [], [] => by simp [PySem.Spec.sameAll]
  | [], _ :: _ => by simp [PySem.Spec.sameAll]
  | _ :: _, [] => by simp [PySem.Spec.sameAll]
  | a :: r, b :: t => by
    simp only [List.map_cons, PySem.Spec.sameAll, sameAll_rows r t]
    rw [show PySem.Spec.same (pdRow a) (pdRow b) = decide (a = b) from ke_same a b]
    by_cases h : a = b <;> by_cases h' : r = t <;> simp [h, h']
theorem same_rows (rs ts : List (List Int)) : PySem.Spec.same (pdRows rs) (pdRows ts) = decide (rs = ts) := by
  simp only [pdRows, PySem.Spec.same]; exact sameAll_rows rs ts
theorem has_rows (rs : List (List Int)) : (Shape.list (.list .int)).has (pdRows rs) = true := by
  unfold pdRows
  refine list_map_has fun r => ?_
  exact list_map_has fun _ => rfl
theorem readsInts {h : Heap} {n : GL} : ∀ {r : List Int} {vs : List Value}, Paired (fun x v => IntV x n v) r vs → ∃ as, ReadsAll h vs (r.map PyData.int) as
  | _, _, .nil => ⟨_, .nil⟩
  | _, _, .cons ⟨t, e⟩ p => by
    subst e
    obtain ⟨as, h2⟩ := readsInts (h := h) p
    exact ⟨_, .cons (.int _ t) h2⟩
theorem readsRow {h : Heap} {n : GL} {r : List Int} {v : Value} (ok : GOk n h) (x : RowV r n v) : ∃ as, Reads h v (pdRow r) as := by
  obtain ⟨a, vs, e, rfl, hm, hp⟩ := x
  obtain ⟨as, h2⟩ := readsInts (h := h) hp
  exact ⟨_, .list (ok _ hm) rfl rfl h2⟩
theorem readsRowsAll {h : Heap} {n : GL} (ok : GOk n h) : ∀ {rs : List (List Int)} {vs : List Value}, Paired (fun x v => RowV x n v) rs vs → ∃ as, ReadsAll h vs (rs.map pdRow) as
  | _, _, .nil => ⟨_, .nil⟩
  | _, _, .cons x p => by
    obtain ⟨as, h1⟩ := readsRow ok x
    obtain ⟨bs, h2⟩ := readsRowsAll ok p
    exact ⟨_, .cons h1 h2⟩
theorem readsRows {h : Heap} {n : GL} {rs : List (List Int)} {v : Value} (ok : GOk n h) (x : RowsV rs n v) : ∃ as, Reads h v (pdRows rs) as := by
  obtain ⟨a, vs, e, rfl, hm, hp⟩ := x
  obtain ⟨as, h2⟩ := readsRowsAll ok hp
  exact ⟨_, .list (ok _ hm) rfl rfl h2⟩
section
variable {prog : Program} {w : World} {k : Nat} {h : Heap} {n : GL} {env : Env} {mg mb : Str → Option Value}
theorem op_eqLL {rs ts : List (List Int)} {u v : Value} (hk : 1 ≤ k) (x : RowsV rs n u) (y : RowsV ts n v) : Ev prog w k h n (compareOp .Eq u v) (BoolV (decide (rs = ts))) := by
  refine Ev.read (v := Value.bool (decide (rs = ts))) (fun A s Q E hA _ ok q => ?_) fun _ _ => rfl
  obtain ⟨as, ra⟩ := readsRows ok x
  obtain ⟨bs, rb⟩ := readsRows ok y
  exact eq_dataH_same ra rb (shaped_rows _) (shaped_rows _) (by have := hA.units; grind) (SeqAt.noMix_of_shape (.list (.list .int)) rfl _ _ (has_rows _) (has_rows _)) (by rw [same_rows]; exact q _)
theorem op_neLL {rs ts : List (List Int)} {u v : Value} (hk : 1 ≤ k) (x : RowsV rs n u) (y : RowsV ts n v) : Ev prog w k h n (compareOp .NotEq u v) (BoolV (!decide (rs = ts))) := by
  refine Ev.read (v := Value.bool (!decide (rs = ts))) (fun A s Q E hA _ ok q => ?_) fun _ _ => rfl
  obtain ⟨as, ra⟩ := readsRows ok x
  obtain ⟨bs, rb⟩ := readsRows ok y
  exact ne_dataH_same ra rb (shaped_rows _) (shaped_rows _) (by have := hA.units; grind) (SeqAt.noMix_of_shape (.list (.list .int)) rfl _ _ (has_rows _) (has_rows _)) (by rw [same_rows]; exact q _)
/-- two lists of the same one text -/
theorem ne_one {A : Around} {E : Value → Shared → Prop} {s : Shared} {a b : Addr} {x : Str} {t u : Tok} {e e' : Nat} {Q : Value → Shared → Prop} (hx : PyData.strOk x = true) (hu : A.units + 64 < cLine) (ha : s.heap.get? a = some (lst [.str x t] e)) (hb : s.heap.get? b = some (lst [.str x u] e')) (q : Q (.bool false) s) :
    wpAny (model prog w) A (compareOp .NotEq (.ref a) (.ref b)) Q E s := by
  have ra : Reads s.heap (.ref a) (.list [.str x]) _ := .list ha rfl rfl (.cons (.str x t) .nil)
  have rb : Reads s.heap (.ref b) (.list [.str x]) _ := .list hb rfl rfl (.cons (.str x u) .nil)
  have sh : SeqAt.shaped (.list [.str x]) = true := by simp [SeqAt.shaped, PyData.canLay0, PyData.canLayAll0, PyData.depth, PyData.depthAll, hx]
  refine ne_dataH_same ra rb sh sh hu (SeqAt.noMix_of_shape (.list .str) rfl _ _ (by simp [Shape.has]) (by simp [Shape.has])) ?_
  have : PySem.Spec.same (.list [.str x]) (.list [.str x]) = true := by simp [PySem.Spec.same, PySem.Spec.sameAll]
  rw [this]; exact q
theorem Ev.sliceToL {xs : List Int} {vs : List Value} {a : Nat} {sl : Addr} {value e : Expr} {p pos : Pos} (hl : h.IsList sl vs.toArray) (hI : IntsAre vs xs) (hsz : vs.length ≤ 1000000) (hv : Ev prog w k h n (eval value env) (EqV (.ref sl))) (he : Ev prog w k h n (eval e env) (IntV a)) :
    Ev prog w k h n (eval (.Subscript value (.Slice none (some e) none p) pos) env) (RowV (xs.take a)) := by
  intro A s n₁ Q E hA l sb ok q
  refine Subscript_ (hv A s n₁ _ E hA l sb ok fun o h1 t1 n1 g1 f1 => ?_)
  have e1 : o = .ref sl := f1
  subst e1
  refine wpAny_Slice ?_
  rw [evalPart_some, evalPart_none]
  refine wpAny_pure ?_
  refine he A _ n1 _ E hA (l.trans g1.keep) (sb.trans g1.more) g1.at_ fun b h2 t2 n2 g2 f2 => ?_
  obtain ⟨u, rfl⟩ := f2
  refine wpAny_pure ?_
  have g3 : Grow h2 n2 (h2.push { cls := .type "slice", data := .fields #[.none, .int (a : Int) u, .none] }) n2 := Grow.heap g2.at_ (Le.push _ _)
  have hlist : (h2.push { cls := .type "slice", data := .fields #[.none, .int (a : Int) u, .none] }).IsList sl vs.toArray := by
    obtain ⟨o, ho, r⟩ := hl
    exact ⟨o, g3.keep _ _ ((l.trans (g1.trans g2).keep) _ _ ho), r⟩
  refine tail_any (T := "list") (ops := [.ref h2.objs.size, .ref sl]) hlist.typeIs slot_list_getitem.lookup ?_ (by rfl)
  refine wpAny_getItem_list_slice hlist (Heap.IsSliceOf.new h2 .none (.int (a : Int) u) .none) (lo := none) (hi := some (a : Int)) (st := none) .none (.int _ _) .none (by simp) ?_ (by rw [sizeLine_eq]; simp; exact Nat.le_trans (by assumption) (by decide))
  rw [slicePick_upto']
  refine q _ _ _ _ (((g1.trans g2).trans g3).trans (Grow.push g3.at_ _)) ⟨_, vs.take a, 0, rfl, .head _, Paired.take a (of_intsAre hI)⟩
theorem callCls {fn : Expr} {pos : Pos} {R : VP} {K : Frag} {C : Addr} {e : Expr} {rest : List Expr} {Fs : List VP}
    (G : Gd K mg mb h) (hk : keepIn K (.ref C) = true) (hf : Ev prog w k h n (eval fn env) (EqV (.ref C)))
    (ha : Ev prog w k h n (spliced (backTo pos (starEach (e :: rest) env))) (fun n' vs => Paired (fun (F : VP) v => F n' v) Fs vs))
    (hc : ∀ vs n', Sub n n' → Paired (fun (F : VP) v => F n' v) Fs vs → Ev prog w k h n' (call (.ref C) vs) R)
    (he : eval (.Call fn (e :: rest) [] pos) env = (do callWith pos (← eval fn env) [] (backTo pos (starEach (e :: rest) env)) (backToKw pos (keywordEach [] env))) := by rfl)
    (hs : starEach (e :: rest) env = (false, eval e env) :: starEach rest env := by rfl) (hp : (backTo pos (starEach rest env)).any (·.1) = false := by rfl) : Ev prog w k h n (eval (.Call fn (e :: rest) [] pos) env) R := by
  intro A s n₁ Q E hA l sb ok q
  refine Call_ (hf A s n₁ _ E hA l sb ok fun f h1 t1 n1 g1 f1 => ?_) he
  have e1 : f = .ref C := f1
  subst e1
  refine callWith_K (K := K) (h₀ := h) G.K hk (ha A _ n1 _ E hA (l.trans g1.keep) (sb.trans g1.more) g1.at_ fun vs h2 t2 n2 g2 f2 => ⟨(G.keeps (l.trans (g1.trans g2).keep)).K, ?_⟩) hs hp
  exact hc vs n2 (sb.trans (g1.trans g2).more) f2 A _ n2 Q E hA (l.trans (g1.trans g2).keep) (Sub.refl _) g2.at_ fun v h3 t3 n3 g3 f3 => q v h3 t3 n3 ((g1.trans g2).trans g3) f3
end
end Mine
end
section
open PySem PySem.W PyProof.Rows PySem.Calls
set_option Elab.async false
set_option autoImplicit false
set_option maxRecDepth 100000
set_option maxHeartbeats 4000000
namespace Mine
/-- the law's own text, read off its function object -/
noncomputable def lawDef (w : World) : Option (List Stmt × Scope) := match (KF w).lookup 161 with
  | some ⟨_, _, .func fd, _⟩ => (match fd.body with
    | .stmts body => some (body, fd.scope)
    | _ => none)
  | _ => none
noncomputable def lawParts (w : World) : { x : List Stmt × Scope // lawDef w = some x } := ⟨_, rfl⟩
noncomputable abbrev lawBody (w : World) : List Stmt := (lawParts w).1.1
noncomputable abbrev lawScope (w : World) : Scope := (lawParts w).1.2
noncomputable abbrev envL (w : World) (L fa : Addr) (cd : Value) : Env := envOfC (Str.ofString "law") (lawScope w) L fa cd

def scriptL (xs : List Int) : List Int := xs.take 6 ++ [22, 2, 3, 0]
def textsL (xs : List Int) : List (List Nat) := (scriptL xs).map fun x => leadOf (x.fmod 1000000)
def leftRow (cols : List (List Int)) (N k : Int) : List Int := (rangeL 0 N).filter fun m => decide (notLeft (cols.getD m.toNat []) (cols.getD k.toNat []) = [])
def belowF (cols : List (List Int)) : List (List Int) := (rangeL 0 cols.length).map (leftRow cols cols.length)
def lessRow (ws : List Ws) (N k : Int) : List Int := (rangeL 0 N).filter fun m => lessF (ws.getD m.toNat ⟨0, 0, [], 0⟩) (ws.getD k.toNat ⟨0, 0, [], 0⟩)
def lesserF (ws : List Ws) : List (List Int) := (rangeL 0 ws.length).map (lessRow ws ws.length)
def underRow (lesser : List (List Int)) (row : List Int) : List Int := row.filter fun m => decide ((row.filter fun j => (lesser.getD j.toNat []).any (· == m)) = [])
def underF (lesser : List (List Int)) : List (List Int) := lesser.map (underRow lesser)

section
variable {prog : Program} {w : World} {k : Nat} {h : Heap} {n : GL} {env : Env} {mg mb : Str → Option Value}
theorem filter_tt {α : Type} (l : List α) : (l.filter fun _ => true) = l := by simp
theorem listV_map {α β : Type} {F : α → VP} {G : β → VP} {f : α → β} {xs : List α} {n : GL} {v : Value} (h : ∀ a v, F a n v → G (f a) n v) (x : ListV F (xs.filter fun _ => true) n v) : ListV G (xs.map f) n v := by
  obtain ⟨a, vs, e, rfl, hm, hp⟩ := x
  rw [filter_tt] at hp
  exact ⟨a, vs, e, rfl, hm, paired_map (f := f) h hp⟩
/-- _law_merged, where it is not refused, and the wishes are none -/
theorem merged_ev {under : List (List Int)} {r : List Int} {uv wv : Value} (G : Gd (KF w) mg mb h) (hu : RowsV under n uv) (hw : ListV PV [] n wv)
    (bu : ∀ r ∈ under, InB under.length r) (z1 : under.length ≤ 50) (z0 : ∀ r ∈ under, r.length ≤ 1000) (z2 : (mergeIn under []).length ≤ 1000) (z3 : totalL (mergeIn under []) ≤ 10000) (hr : mergeF (mergeIn under []) = some r) :
    Ev prog w (k + 6) h n (call (.ref 149) [uv, wv]) (RowV r) := by
  intro A s n₁ Q E hA l sb ok q
  refine merged_call (ps₃ := []) (s := s) (n₁ := n₁) hA (G.keeps l) ok (mono_RowsV _ _ _ _ sb hu) (mono_ListV mono_PV _ _ _ _ sb hw) (fun p hp => nomatch hp) List.nodup_nil (fun p _ hm => nomatch hm) bu z1 z0 z2 z3 ?_ ?_
  · intro r' e v h' tk n' g f
    rw [List.map_nil, hr] at e
    cases e
    exact q v h' tk n' g f
  · intro e
    rw [List.map_nil, hr] at e
    cases e
end
end Mine
end
section
open PySem PySem.W PyProof.Rows PySem.Calls
set_option Elab.async false
set_option autoImplicit false
set_option maxRecDepth 100000
set_option maxHeartbeats 4000000
namespace Mine
structure LS (L : Addr) (m : Str → Option Value) (a b c d : Option Value) (h : Heap) : Prop where
  ns : h.Ns L m
  c1 : h.IsCell (L + 1) a
  c2 : h.IsCell (L + 1 + 1) b
  c3 : h.IsCell (L + 1 + 1 + 1) c
  c4 : h.IsCell (L + 1 + 1 + 1 + 1) d
  tab : h.get? 151 = some (tabObj #[])
theorem cellAt {h h' : Heap} {c x : Addr} {o : Option Value} (y : h.IsCell c o) (hx : c ≠ x) (kp : ∀ b o, b ≠ x → h.get? b = some o → h'.get? b = some o) : h'.IsCell c o := let ⟨ob, e, r⟩ := y; ⟨ob, kp _ _ hx e, r⟩
namespace LS
variable {L : Addr} {m m' : Str → Option Value} {a b c d v : Option Value} {h h' : Heap}
theorem le (x : LS L m a b c d h) (l : Le h h') : LS L m a b c d h' := ⟨x.ns.keeps l, x.c1.keeps l, x.c2.keeps l, x.c3.keeps l, x.c4.keeps l, l _ _ x.tab⟩
theorem loc (x : LS L m a b c d h) (n : h'.Ns L m') (hL : 151 < L) (kp : ∀ b o, b ≠ L → h.get? b = some o → h'.get? b = some o) : LS L m' a b c d h' :=
  ⟨n, cellAt x.c1 (Nat.ne_of_gt (by show (L:Nat) < L + 1; exact Nat.lt_succ_self _)) kp, cellAt x.c2 (Nat.ne_of_gt (Nat.lt_add_right 1 (Nat.lt_succ_self L))) kp, cellAt x.c3 (Nat.ne_of_gt (Nat.lt_add_right 1 (Nat.lt_add_right 1 (Nat.lt_succ_self L)))) kp,
   cellAt x.c4 (Nat.ne_of_gt (Nat.lt_add_right 1 (Nat.lt_add_right 1 (Nat.lt_add_right 1 (Nat.lt_succ_self L))))) kp, kp _ _ (Nat.ne_of_lt hL) x.tab⟩
theorem nsAt {x : Addr} (n : h.Ns L m) (hx : L ≠ x) (kp : ∀ b o, b ≠ x → h.get? b = some o → h'.get? b = some o) : h'.Ns L m := n.at' fun o e => kp _ o hx e
theorem s1 (x : LS L m a b c d h) (n : h'.IsCell (L + 1) v) (hL : 151 < L) (kp : ∀ b o, b ≠ L + 1 → h.get? b = some o → h'.get? b = some o) : LS L m v b c d h' :=
  ⟨nsAt x.ns (Nat.ne_of_lt (Nat.lt_succ_self _)) kp, n, cellAt x.c2 (Nat.ne_of_gt (Nat.lt_succ_self _)) kp, cellAt x.c3 (Nat.ne_of_gt (Nat.lt_add_right 1 (Nat.lt_succ_self _))) kp, cellAt x.c4 (Nat.ne_of_gt (Nat.lt_add_right 1 (Nat.lt_add_right 1 (Nat.lt_succ_self _)))) kp,
   kp _ _ (Nat.ne_of_lt (Nat.lt_add_right 1 hL)) x.tab⟩
theorem s2 (x : LS L m a b c d h) (n : h'.IsCell (L + 1 + 1) v) (hL : 151 < L) (kp : ∀ b o, b ≠ L + 1 + 1 → h.get? b = some o → h'.get? b = some o) : LS L m a v c d h' :=
  ⟨nsAt x.ns (Nat.ne_of_lt (Nat.lt_add_right 1 (Nat.lt_succ_self _))) kp, cellAt x.c1 (Nat.ne_of_lt (Nat.lt_succ_self _)) kp, n, cellAt x.c3 (Nat.ne_of_gt (Nat.lt_succ_self _)) kp, cellAt x.c4 (Nat.ne_of_gt (Nat.lt_add_right 1 (Nat.lt_succ_self _))) kp,
   kp _ _ (Nat.ne_of_lt (Nat.lt_add_right 1 (Nat.lt_add_right 1 hL))) x.tab⟩
theorem s3 (x : LS L m a b c d h) (n : h'.IsCell (L + 1 + 1 + 1) v) (hL : 151 < L) (kp : ∀ b o, b ≠ L + 1 + 1 + 1 → h.get? b = some o → h'.get? b = some o) : LS L m a b v d h' :=
  ⟨nsAt x.ns (Nat.ne_of_lt (Nat.lt_add_right 1 (Nat.lt_add_right 1 (Nat.lt_succ_self _)))) kp, cellAt x.c1 (Nat.ne_of_lt (Nat.lt_add_right 1 (Nat.lt_succ_self _))) kp, cellAt x.c2 (Nat.ne_of_lt (Nat.lt_succ_self _)) kp, n, cellAt x.c4 (Nat.ne_of_gt (Nat.lt_succ_self _)) kp,
   kp _ _ (Nat.ne_of_lt (Nat.lt_add_right 1 (Nat.lt_add_right 1 (Nat.lt_add_right 1 hL)))) x.tab⟩
theorem s4 (x : LS L m a b c d h) (n : h'.IsCell (L + 1 + 1 + 1 + 1) v) (hL : 151 < L) (kp : ∀ b o, b ≠ L + 1 + 1 + 1 + 1 → h.get? b = some o → h'.get? b = some o) : LS L m a b c v h' :=
  ⟨nsAt x.ns (Nat.ne_of_lt (Nat.lt_add_right 1 (Nat.lt_add_right 1 (Nat.lt_add_right 1 (Nat.lt_succ_self _))))) kp, cellAt x.c1 (Nat.ne_of_lt (Nat.lt_add_right 1 (Nat.lt_add_right 1 (Nat.lt_succ_self _)))) kp, cellAt x.c2 (Nat.ne_of_lt (Nat.lt_add_right 1 (Nat.lt_succ_self _))) kp,
   cellAt x.c3 (Nat.ne_of_lt (Nat.lt_succ_self _)) kp, n, kp _ _ (Nat.ne_of_lt (Nat.lt_add_right 1 (Nat.lt_add_right 1 (Nat.lt_add_right 1 (Nat.lt_add_right 1 hL))))) x.tab⟩
end LS
theorem scriptL_len (xs : List Int) : (scriptL xs).length ≤ 10 := by unfold scriptL; rw [List.length_append, List.length_take]; simp; omega
theorem textsL_len (xs : List Int) : (textsL xs).length ≤ 10 := by unfold textsL; rw [List.length_map]; exact scriptL_len xs
theorem textsL_each {xs : List Int} {l : List Nat} (h : l ∈ textsL xs) : l.length ≤ 12 := by
  obtain ⟨x, _, rfl⟩ := List.mem_map.mp h
  exact leadOf_len _
theorem columnsF_len (l : List Nat) : (columnsF l).length = 7 := by unfold columnsF; rw [List.length_map, rangeL_length]; rfl
section
variable {prog : Program} {w : World} {mg mb : Str → Option Value} {A : Around} {s : Shared} {E : Value → Shared → Prop} {Q : Flow → Shared → Prop} {B : Heap} {L fa : Addr} {cd : Value} {m : Str → Option Value}
abbrev owL (L : Addr) : List Addr := [L, L + 1, L + 1 + 1, L + 1 + 1 + 1, L + 1 + 1 + 1 + 1, 151]
noncomputable abbrev lawTail (w : World) (j : Nat) : List Stmt := (lawBody w).drop j

/-- texts, leads, columns, places -/
theorem law_one {xs : List Int} {sl : Addr} {vs : List Value} (hA : Aok 20 A) (G : Gd (KF w) mg mb B) (X : Fx B [] (owL L) s.heap []) (S : LS L m none none none none s.heap) (hm : m "script" = some (.ref sl)) (hsl : B.IsList sl vs.toArray) (hI : IntsAre vs xs) (hlen : xs.length ≤ 63) (hL : 151 < L)
    (next : ∀ h' tk n' m' tv lv cv pv, Fx B [] (owL L) h' n' → LS L m' (some lv) (some cv) (some pv) none h' → m' "texts" = some tv → ListV (fun l => StrV (Mine.S l)) (textsL xs) n' tv → ListV (WsV w.params) ((textsL xs).map wsOf) n' lv → RowsV ((textsL xs).map columnsF) n' cv → RangeV 0 (textsL xs).length n' pv →
      wpAny (model prog w) A (execs (lawTail w 4) (envL w L fa cd)) Q E { s with heap := h', toks := tk }) :
    wpAny (model prog w) A (execs (lawBody w) (envL w L fa cd)) Q E s := by
  have hvs : vs.length ≤ 63 := by rw [hI.length]; exact hlen
  have mS : ∀ l : List Nat, Mono (StrV (Mine.S l)) := fun l => mono_StrV _
  have tl := textsL_len xs
  have sl10 := scriptL_len xs
  -- texts
  refine st_assignCompL (s := s) hA X S.ns (.head _) (F := IntV) (G := fun x => StrV (Mine.S (leadOf (x.fmod 1000000)))) (xs := scriptL xs) (Fi := RowV (scriptL xs)) (p := fun _ => true) ?_ (fun n' xv _ hv => hands_list hv) mono_IntV (fun x => mono_StrV _) ?_ ?_ (by exact Nat.le_trans (by assumption) (by decide)) ?_
  · refine Ev.addL mono_IntV ?_ (Ev.sliceToL (a := 6) (vs := vs) ?_ hI (by exact Nat.le_trans (by assumption) (by decide)) (Ev.nameE (NameIs.loc S.ns hm)) Ev.cint) (Ev.listN mono_IntV (by simp) (Ev.argsS (mono_IntV 22) Ev.cint (Ev.argsS (mono_IntV 2) Ev.cint (Ev.argsS (mono_IntV 3) Ev.cint (Ev.argsS (mono_IntV 0) Ev.cint Ev.args0)))))
    · rw [List.length_take]; simp; omega
    · obtain ⟨o, ho, r⟩ := hsl; exact ⟨o, X.keep _ _ ho, r⟩
  · intro i a v C H N' ha hle hsb fa' nm
    exact Ev.tests0 rfl
  · intro i a v C H N' ha _ hle hsb fa' nm
    have GH := (G.keeps X.keep).keeps hle
    refine callDef (fa := 108) GH (by rfl) (Ev.nameE (NameIs.glo GH (by rfl))) (Ev.argsS (mono_IntV (a.fmod 1000000)) (Ev.modI (by decide) (Ev.name nm (mono_IntV a) fa') Ev.cint) Ev.args0) ?_
    refine arg1 fun u n' _ hu => ?_
    exact lead_ev (k := 18) GH hu
  intro tv h1 t1 n1 X1 N1 sb1 f1' kp1
  have f1 : ListV (fun l => StrV (Mine.S l)) (textsL xs) n1 tv := listV_map (fun a v h => h) f1'
  have S1 := S.loc N1 hL kp1
  -- leads
  refine st_assignC (s := { s with heap := h1, toks := t1 }) (c := L + 1) hA X1 S1.c1 (.tail _ (.head _)) (F := ListV (WsV w.params) ((textsL xs).map wsOf)) ?_ ?_
  · refine Ev.cons (Ev.compL (F := fun l => StrV (Mine.S l)) (G := fun l => WsV w.params (wsOf l)) (xs := textsL xs) (Fi := ListV (fun l => StrV (Mine.S l)) (textsL xs)) (p := fun _ => true) ?_ (fun n' xv _ hv => hands_list hv) mS (fun x => mono_WsV _ _) ?_ ?_ (by exact Nat.le_trans (by assumption) (by decide))) fun n' v _ x => listV_map (fun a v h => h) x
    · exact Ev.name (NameIs.loc S1.ns at_same) (mono_ListV mS _) f1
    · intro i a v C H N' ha hle hsb fa' nm
      exact Ev.tests0 rfl
    · intro i a v C H N' ha _ hle hsb fa' nm
      have GH := (G.keeps X1.keep).keeps hle
      refine callCls (C := 97) GH (by rfl) (Ev.nameE (NameIs.glo GH (by rfl))) (Ev.argsS (mS a) (Ev.name nm (mS a) fa') Ev.args0) ?_
      refine arg1 fun u n' _ hu => ?_
      exact ws_ev (k := 14) GH hu (by have := textsL_each (List.mem_of_getElem? ha); exact Nat.le_trans (by assumption) (by decide))
  intro lv h2 t2 n2 X2 N2 sb2 f2 kp2
  have S2 := S1.s1 N2 hL kp2
  -- columns
  refine st_assignC (s := { s with heap := h2, toks := t2 }) (c := L + 1 + 1) hA X2 S2.c2 (.tail _ (.tail _ (.head _))) (F := RowsV ((textsL xs).map columnsF)) ?_ ?_
  · refine Ev.cons (Ev.compL (F := fun l => StrV (Mine.S l)) (G := fun l => RowV (columnsF l)) (xs := textsL xs) (Fi := ListV (fun l => StrV (Mine.S l)) (textsL xs)) (p := fun _ => true) ?_ (fun n' xv _ hv => hands_list hv) mS (fun x => mono_RowV _) ?_ ?_ (by exact Nat.le_trans (by assumption) (by decide))) fun n' v _ x => listV_map (fun a v h => h) x
    · exact Ev.name (NameIs.loc S2.ns at_same) (mono_ListV mS _) (mono_ListV mS _ _ _ _ sb2 f1)
    · intro i a v C H N' ha hle hsb fa' nm
      exact Ev.tests0 rfl
    · intro i a v C H N' ha _ hle hsb fa' nm
      have GH := (G.keeps X2.keep).keeps hle
      refine callDef (fa := 115) GH (by rfl) (Ev.nameE (NameIs.glo GH (by rfl))) (Ev.argsS (mS a) (Ev.name nm (mS a) fa') Ev.args0) ?_
      refine arg1 fun u n' _ hu => ?_
      exact columns_ev (k := 18) GH hu (by have := textsL_each (List.mem_of_getElem? ha); exact Nat.le_trans (by assumption) (by decide))
  intro cv h3 t3 n3 X3 N3 sb3 f3 kp3
  have S3 := S2.s2 N3 hL kp3
  have G3 := G.keeps X3.keep
  -- places
  refine st_assignC (s := { s with heap := h3, toks := t3 }) (c := L + 1 + 1 + 1) hA X3 S3.c3 (.tail _ (.tail _ (.tail _ (.head _)))) (F := RangeV 0 (textsL xs).length) (ev_rangeLen mS (by exact Nat.le_trans (by assumption) (by decide)) (nmRange G3 (by rfl)) (nmLen G3 (by rfl)) (Ev.name (NameIs.loc S3.ns at_same) (mono_ListV mS _) (mono_ListV mS _ _ _ _ (sb2.trans sb3) f1))) ?_
  intro pv h4 t4 n4 X4 N4 sb4 f4 kp4
  have S4 := S3.s3 N4 hL kp4
  exact next h4 t4 n4 _ tv lv cv pv X4 S4 at_same (mono_ListV mS _ _ _ _ (sb2.trans (sb3.trans sb4)) f1) (mono_ListV (mono_WsV _) _ _ _ _ (sb3.trans sb4) f2) (mono_RowsV _ _ _ _ sb4 f3) f4
end
end Mine
end
section
open PySem PySem.W PyProof.Rows PySem.Calls
set_option Elab.async false
set_option autoImplicit false
set_option maxRecDepth 100000
set_option maxHeartbeats 4000000
namespace Mine
theorem belowF_len (cols : List (List Int)) : (belowF cols).length = cols.length := by unfold belowF; rw [List.length_map, rangeL_length]; grind
theorem lesserF_len (ws : List Ws) : (lesserF ws).length = ws.length := by unfold lesserF; rw [List.length_map, rangeL_length]; grind
theorem rangeL_mem {a b i : Int} (h : i ∈ rangeL a b) : a ≤ i ∧ i < b := by
  obtain ⟨j, hj⟩ := List.mem_iff_getElem?.mp h
  exact (rangeL_get hj).2
section
variable {prog : Program} {w : World} {mg mb : Str → Option Value} {A : Around} {s : Shared} {E : Value → Shared → Prop} {Q : Flow → Shared → Prop} {B : Heap} {L fa : Addr} {cd : Value} {m : Str → Option Value} {n : GL}
/-- below, lesser, and the first question -/
theorem law_two {ws : List Ws} {cols : List (List Int)} {lv cv pv : Value} (hA : Aok 20 A) (G : Gd (KF w) mg mb B) (X : Fx B [] (owL L) s.heap n) (S : LS L m (some lv) (some cv) (some pv) none s.heap) (hL : 151 < L)
    (hlv : ListV (WsV w.params) ws n lv) (hcv : RowsV cols n cv) (hpv : RangeV 0 cols.length n pv) (hN : ws.length = cols.length) (z : cols.length ≤ 10) (h7 : ∀ c ∈ cols, c.length = 7) (hok : ∀ W ∈ ws, W.Ok) (hsame : lesserF ws = belowF cols)
    (next : ∀ h' tk n' m' bv sv, Fx B [] (owL L) h' n' → Sub n n' → LS L m' (some lv) (some cv) (some pv) (some sv) h' → (∀ y : Str, y ≠ "below" → m' y = m y) → m' "below" = some bv → RowsV (belowF cols) n' bv → RowsV (belowF cols) n' sv →
      wpAny (model prog w) A (execs (lawTail w 7) (envL w L fa cd)) Q E { s with heap := h', toks := tk }) :
    wpAny (model prog w) A (execs (lawTail w 4) (envL w L fa cd)) Q E s := by
  have hz : (rangeL 0 (cols.length : Int)).length ≤ 10 := by rw [rangeL_length]; assumption
  have getC : ∀ {i : Int}, 0 ≤ i → i < cols.length → cols[i.toNat]? = some (cols.getD i.toNat []) := fun h0 h1 => getD_some (by exact (Int.toNat_lt (by assumption)).mpr (by assumption))
  have getW : ∀ {i : Int}, 0 ≤ i → i < cols.length → ws[i.toNat]? = some (ws.getD i.toNat ⟨0, 0, [], 0⟩) := fun h0 h1 => getD_some (by grind)
  -- below
  refine st_assignCompC (s := s) hA X S.ns (.head _) (F := IntV) (G := fun i => RowV (leftRow cols cols.length i)) (xs := rangeL 0 cols.length) (Fi := RangeV 0 cols.length) (p := fun _ => true)
    (Ev.name (NameIs.cel S.c3) (mono_RangeV _ _) hpv) (fun n' xv _ hv => hands_range (by decide) (by exact Nat.lt_of_le_of_lt (by assumption) (by decide)) hv) mono_IntV (fun x => mono_RowV _) ?_ ?_ (by exact Nat.le_trans (by assumption) (by decide)) ?_
  · intro i a v C H N' ha hle hsb fa' hc
    exact Ev.tests0 rfl
  · intro i a v C H N' ha _ hle hsb fa' hc
    obtain ⟨a0, a1⟩ := rangeL_mem (List.mem_of_getElem? ha)
    have SH := S.le hle
    refine Ev.compL (F := IntV) (G := IntV) (xs := rangeL 0 cols.length) (Fi := RangeV 0 cols.length) (p := fun m => decide (notLeft (cols.getD m.toNat []) (cols.getD a.toNat []) = []))
      (Ev.name (NameIs.cel SH.c3) (mono_RangeV _ _) (mono_RangeV _ _ _ _ _ hsb hpv)) (fun n' xv _ hv => hands_range (by decide) (by exact Nat.lt_of_le_of_lt (by assumption) (by decide)) hv) mono_IntV mono_IntV ?_ ?_ (by exact Nat.le_trans (by assumption) (by decide))
    · intro i' a' v' C' H' N'' ha' hle' hsb' fa'' nm
      obtain ⟨b0, b1⟩ := rangeL_mem (List.mem_of_getElem? ha')
      have SH' := SH.le hle'
      have GH := ((G.keeps X.keep).keeps hle).keeps hle'
      have hcv' := mono_RowsV _ _ _ _ (hsb.trans hsb') hcv
      refine Ev.tests1 (Ev.testB (callDef (fa := 120) GH (by rfl) (Ev.nameE (NameIs.glo GH (by rfl)))
        (Ev.argsS (mono_RowV (cols.getD a'.toNat [])) (Ev.item (xs := cols) mono_RowV b0 (by grind) (getC b0 b1) (Ev.name (NameIs.cel SH'.c2) (mono_RowsV _) hcv') (Ev.name nm (mono_IntV a') fa''))
        (Ev.argsS (mono_RowV (cols.getD a.toNat [])) (Ev.item (xs := cols) mono_RowV a0 (by grind) (getC a0 a1) (Ev.name (NameIs.cel SH'.c2) (mono_RowsV _) hcv') (Ev.name (NameIs.cel (hc.keeps hle')) (mono_IntV a) (mono_IntV _ _ _ _ hsb' fa'))) Ev.args0)) ?_))
      refine arg2 fun u u' n' _ hu hu' => ?_
      exact left_of_ev (k := 18) GH hu hu' (h7 _ (List.mem_of_getElem? (getC b0 b1))) (h7 _ (List.mem_of_getElem? (getC a0 a1)))
    · intro i' a' v' C' H' N'' ha' _ hle' hsb' fa'' nm
      exact Ev.name nm (mono_IntV a') fa''
  intro bv h1 t1 n1 X1 N1 sb1 f1' kp1
  have f1 : RowsV (belowF cols) n1 bv := listV_map (fun a v h => h) f1'
  have S1 := S.loc N1 hL kp1
  have hlv1 := mono_ListV (mono_WsV w.params) _ _ _ _ sb1 hlv
  -- lesser
  refine st_assignC (s := { s with heap := h1, toks := t1 }) (c := L + 1 + 1 + 1 + 1) hA X1 S1.c4 (.tail _ (.tail _ (.tail _ (.tail _ (.head _))))) (F := RowsV (lesserF ws)) ?_ ?_
  · refine Ev.cons (Ev.compC (F := IntV) (G := fun i => RowV (lessRow ws ws.length i)) (xs := rangeL 0 ws.length) (Fi := RangeV 0 ws.length) (p := fun _ => true)
      (Ev.name (NameIs.cel S1.c3) (mono_RangeV _ _) (by rw [hN]; exact mono_RangeV _ _ _ _ _ sb1 hpv)) (fun n' xv _ hv => hands_range (by decide) (by grind) hv) mono_IntV (fun x => mono_RowV _) ?_ ?_ (by rw [hN]; exact Nat.le_trans (by assumption) (by decide))) fun n' v _ x => listV_map (fun a v h => h) x
    · intro i a v C H N' ha hle hsb fa' hc
      exact Ev.tests0 rfl
    · intro i a v C H N' ha _ hle hsb fa' hc
      obtain ⟨a0, a1⟩ := rangeL_mem (List.mem_of_getElem? ha)
      rw [hN] at a1
      have SH := S1.le hle
      refine Ev.compL (F := IntV) (G := IntV) (xs := rangeL 0 ws.length) (Fi := RangeV 0 ws.length) (p := fun m => lessF (ws.getD m.toNat ⟨0, 0, [], 0⟩) (ws.getD a.toNat ⟨0, 0, [], 0⟩))
        (Ev.name (NameIs.cel SH.c3) (mono_RangeV _ _) (by rw [hN]; exact mono_RangeV _ _ _ _ _ (sb1.trans hsb) hpv)) (fun n' xv _ hv => hands_range (by decide) (by grind) hv) mono_IntV mono_IntV ?_ ?_ (by rw [hN]; exact Nat.le_trans (by assumption) (by decide))
      · intro i' a' v' C' H' N'' ha' hle' hsb' fa'' nm
        obtain ⟨b0, b1⟩ := rangeL_mem (List.mem_of_getElem? ha')
        rw [hN] at b1
        have SH' := SH.le hle'
        have GH := ((G.keeps X1.keep).keeps hle).keeps hle'
        have hlN := mono_ListV (mono_WsV w.params) _ _ _ _ (hsb.trans hsb') hlv1
        refine Ev.tests1 (Ev.testB ?_)
        refine Ev.wsMeth (fa := 87) (W := ws.getD a'.toNat ⟨0, 0, [], 0⟩) (Fs := [WsV w.params (ws.getD a.toNat ⟨0, 0, [], 0⟩)]) GH (by rfl) (by rfl) (by rfl) (by intros; rfl)
          (Ev.item (xs := ws) (mono_WsV w.params) b0 (by grind) (getW b0 b1) (Ev.name (NameIs.cel SH'.c1) (mono_ListV (mono_WsV w.params) _) hlN) (Ev.name nm (mono_IntV _) fa''))
          (Ev.argsS (mono_WsV w.params _) (Ev.item (xs := ws) (mono_WsV w.params) a0 (by grind) (getW a0 a1) (Ev.name (NameIs.cel SH'.c1) (mono_ListV (mono_WsV w.params) _) hlN) (Ev.name (NameIs.cel (hc.keeps hle')) (mono_IntV _) (mono_IntV _ _ _ _ hsb' fa'))) Ev.args0) ?_ (hargs := meth_args1 rfl)
        intro x vs n' _ hx hp
        obtain ⟨y, rfl, hy⟩ := paired1 hp
        exact less_ev (k := 16) GH hx hy (hok _ (List.mem_of_getElem? (getW b0 b1))) (hok _ (List.mem_of_getElem? (getW a0 a1)))
      · intro i' a' v' C' H' N'' ha' _ hle' hsb' fa'' nm
        exact Ev.name nm (mono_IntV a') fa''
  rw [hsame]
  intro sv h2 t2 n2 X2 N2 sb2 f2 kp2
  have S2 := S1.s4 N2 hL kp2
  -- if lesser != below
  refine st_if (s := { s with heap := h2, toks := t2 }) hA X2 (c := !decide (belowF cols = belowF cols)) (Ev.CmpT (Ev.name (NameIs.cel S2.c4) (mono_RowsV _) f2) (Ev.name (NameIs.loc S2.ns at_same) (mono_RowsV _) (mono_RowsV _ _ _ _ sb2 f1)) (mono_RowsV _) fun _ _ _ _ x y => op_neLL (by decide) x y) ?_ ?_
  · intro hc; simp at hc
  · intro _ h3 t3 n3 X3 sb3 le3
    refine wpAny_execs_nil ?_
    exact next h3 t3 n3 _ bv sv X3 ((sb1.trans sb2).trans sb3) (S2.le le3) (fun y hy => if_neg hy) at_same (mono_RowsV _ _ _ _ (sb2.trans sb3) f1) (mono_RowsV _ _ _ _ sb3 f2)
end
end Mine
end
section
open PySem PySem.W PyProof.Rows PySem.Calls
set_option Elab.async false
set_option autoImplicit false
set_option maxRecDepth 100000
set_option maxHeartbeats 4000000
namespace Mine
section
variable {prog : Program} {w : World} {mg mb : Str → Option Value} {A : Around} {s : Shared} {E : Value → Shared → Prop} {Q : Flow → Shared → Prop} {B : Heap} {L fa : Addr} {cd : Value} {m : Str → Option Value} {n : GL}
/-- under, told, and the second question -/
theorem law_three {below : List (List Int)} {lv cv pv sv bv : Value} (hA : Aok 20 A) (G : Gd (KF w) mg mb B) (X : Fx B [] (owL L) s.heap n) (S : LS L m (some lv) (some cv) (some pv) (some sv) s.heap) (hL : 151 < L)
    (hbv : RowsV below n bv) (hsv : RowsV below n sv) (hmb : m "below" = some bv) (z : below.length ≤ 10) (zr : ∀ r ∈ below, r.length ≤ 10) (bb : ∀ r ∈ below, InB below.length r)
    (z2 : (mergeIn (underF below) []).length ≤ 1000) (z3 : totalL (mergeIn (underF below) []) ≤ 10000) (hfree : ∀ left, left ≠ [] → InB below.length left → freeF left below ≠ []) (hmerge : mergeF (mergeIn (underF below) []) = some (orderF below))
    (next : ∀ h' tk n' m' uv tv, Fx B [] (owL L) h' n' → Sub n n' → LS L m' (some lv) (some cv) (some pv) (some sv) h' → (∀ y : Str, y ≠ "under" → y ≠ "told" → m' y = m y) → m' "under" = some uv → m' "told" = some tv → RowsV (underF below) n' uv → RowV (orderF below) n' tv →
      wpAny (model prog w) A (execs (lawTail w 10) (envL w L fa cd)) Q E { s with heap := h', toks := tk }) :
    wpAny (model prog w) A (execs (lawTail w 7) (envL w L fa cd)) Q E s := by
  have getB : ∀ {i : Int}, 0 ≤ i → i < below.length → below[i.toNat]? = some (below.getD i.toNat []) := fun h0 h1 => getD_some (by exact (Int.toNat_lt (by assumption)).mpr (by assumption))
  have bu : ∀ r ∈ underF below, InB (underF below).length r := by
    intro r hr
    have e : (underF below).length = below.length := by unfold underF; exact List.length_map _
    rw [e]
    obtain ⟨q, hq, rfl⟩ := List.mem_map.mp hr
    intro i hi
    exact bb q hq i (List.mem_filter.mp hi).1
  have zu : (underF below).length ≤ 10 := by unfold underF; rw [List.length_map]; exact z
  have zur : ∀ r ∈ underF below, r.length ≤ 10 := by
    intro r hr
    obtain ⟨q, hq, rfl⟩ := List.mem_map.mp hr
    exact Nat.le_trans (List.length_filter_le _ _) (zr q hq)
  -- under
  refine st_assignCompC (s := s) hA X S.ns (.head _) (F := RowV) (G := fun row => RowV (underRow below row)) (xs := below) (Fi := RowsV below) (p := fun _ => true)
    (Ev.name (NameIs.cel S.c4) (mono_RowsV _) hsv) (fun n' xv _ hv => hands_list hv) mono_RowV (fun x => mono_RowV _) ?_ ?_ (by exact Nat.le_trans (by assumption) (by decide)) ?_
  · intro i a v C H N' ha hle hsb fa' hc
    exact Ev.tests0 rfl
  · intro i row v C H N' ha _ hle hsb frow hc
    have hrow := List.mem_of_getElem? ha
    have zrow := zr _ hrow
    have SH := S.le hle
    refine Ev.compC (F := IntV) (G := IntV) (xs := row) (Fi := RowV row) (p := fun m => decide ((row.filter fun j => (below.getD j.toNat []).any (· == m)) = []))
      (Ev.name (NameIs.cel hc) (mono_RowV _) frow) (fun n' xv _ hv => hands_list hv) mono_IntV mono_IntV ?_ ?_ (by exact Nat.le_trans (by assumption) (by decide))
    · intro i' a' v' C' H' N'' ha' hle' hsb' fa'' hc'
      have frow' := mono_RowV _ _ _ _ hsb' frow
      have SH' := SH.le hle'
      refine Ev.tests1 (Ev.CmpT (F2 := RowV []) (Ev.compL (F := IntV) (G := IntV) (xs := row) (Fi := RowV row) (p := fun j => (below.getD j.toNat []).any (· == a')) ?_ (fun n' xv _ hv => hands_list hv) mono_IntV mono_IntV ?_ ?_ (by exact Nat.le_trans (by assumption) (by decide))) Ev.list0 (mono_RowV _) ?_)
      · exact Ev.name (NameIs.cel (hc.keeps hle')) (mono_RowV _) frow'
      · intro i₂ j v₂ C₂ H₂ N₂ hj hle₂ hsb₂ fj nm
        obtain ⟨j0, j1⟩ := bb _ hrow j (List.mem_of_getElem? hj)
        have SH₂ := SH'.le hle₂
        refine Ev.tests1 (Ev.CmpT (Ev.name (NameIs.cel (hc'.keeps hle₂)) (mono_IntV a') (mono_IntV _ _ _ _ hsb₂ fa'')) (Ev.item (xs := below) mono_RowV j0 (by grind) (getB j0 j1) (Ev.name (NameIs.cel SH₂.c4) (mono_RowsV _) (mono_RowsV _ _ _ _ ((hsb.trans hsb').trans hsb₂) hsv)) (Ev.name nm (mono_IntV j) fj)) (mono_IntV _) fun _ _ _ _ x y => op_inL x y)
      · intro i₂ j v₂ C₂ H₂ N₂ hj _ hle₂ hsb₂ fj nm
        exact Ev.name nm (mono_IntV j) fj
      · intro x y n' _ hx hy
        exact op_eqL (by decide) hx hy
    · intro i' a' v' C' H' N'' ha' _ hle' hsb' fa'' hc'
      exact Ev.name (NameIs.cel hc') (mono_IntV a') fa''
  intro uv h1 t1 n1 X1 N1 sb1 f1' kp1
  have f1 : RowsV (underF below) n1 uv := listV_map (fun a v h => h) f1'
  have S1 := S.loc N1 hL kp1
  have G1 := G.keeps X1.keep
  -- told
  refine st_assign (s := { s with heap := h1, toks := t1 }) hA X1 S1.ns (.head _) (F := RowV (orderF below)) ?_ ?_
  · refine callDef (fa := 149) G1 (by rfl) (Ev.nameE (NameIs.glo G1 (by rfl))) (Ev.argsS (mono_RowsV _) (Ev.name (NameIs.loc S1.ns at_same) (mono_RowsV _) f1) (Ev.argsS (mono_ListV mono_PV []) Ev.list0 Ev.args0)) ?_
    refine arg2 fun u u' n' _ hu hu' => ?_
    exact merged_ev (k := 14) G1 hu hu' bu (by exact Nat.le_trans (by assumption) (by decide)) (fun r hr => by have := zur r hr; exact Nat.le_trans (by assumption) (by decide)) z2 z3 hmerge
  intro tv h2 t2 n2 X2 N2 sb2 f2 kp2
  have S2 := S1.loc N2 hL kp2
  have G2 := G.keeps X2.keep
  have hmb2 : (if Str.ofString "below" = Str.ofString "told" then some tv else if Str.ofString "below" = Str.ofString "under" then some uv else m "below") = some bv := by
    rw [if_neg (by decide), if_neg (by decide)]; exact hmb
  -- if told != _law_order(below)
  refine st_if (s := { s with heap := h2, toks := t2 }) hA X2 (c := !decide (orderF below = orderF below)) (Ev.CmpT (Ev.name (NameIs.loc S2.ns at_same) (mono_RowV _) f2) (callDef (fa := 132) G2 (by rfl) (Ev.nameE (NameIs.glo G2 (by rfl))) (Ev.argsS (mono_RowsV _) (Ev.name (NameIs.loc S2.ns hmb2) (mono_RowsV _) (mono_RowsV _ _ _ _ (sb1.trans sb2) hbv)) Ev.args0) ?_) (mono_RowV _) fun _ _ _ _ x y => op_neL (by decide) x y) ?_ ?_
  · refine arg1 fun u n' _ hu => ?_
    exact order_ev (k := 16) G2 hu hfree (by exact Nat.le_trans (by assumption) (by decide)) (fun r hr => by have := zr r hr; exact Nat.le_trans (by assumption) (by decide))
  · intro hc; simp at hc
  · intro _ h3 t3 n3 X3 sb3 le3
    refine wpAny_execs_nil ?_
    refine next h3 t3 n3 _ uv tv X3 ((sb1.trans sb2).trans sb3) (S2.le le3) (fun y hy1 hy2 => ?_) ?_ at_same (mono_RowsV _ _ _ _ (sb2.trans sb3) f1) (mono_RowV _ _ _ _ sb3 f2)
    · rw [if_neg hy2, if_neg hy1]
    · rw [if_neg (by decide), if_pos rfl]
end
end Mine
end
section
open PySem PySem.W PyProof.Rows PySem.Calls
set_option Elab.async false
set_option autoImplicit false
set_option maxRecDepth 100000
set_option maxHeartbeats 4000000
namespace Mine
/-- one more of one's own, a list just made -/
theorem Fx.own1 {B : Heap} {n₀ : GL} {ow : List Addr} {h : Heap} {n : GL} (x : Fx B n₀ ow h n) {a : Addr} {o : Obj} (ho : h.get? a = some o) (fB : B.get? a = none) (ap : ∀ p, p ∈ n → p.1 ≠ a) : Fx B n₀ (a :: ow) h n where
  keep := x.keep
  more := x.more
  ok := x.ok
  new := x.new
  apart := fun p hp b hb => by
    rcases List.mem_cons.mp hb with rfl | hb
    · exact ap p hp
    · exact x.apart p hp b hb
  live := fun b hb => by
    rcases List.mem_cons.mp hb with rfl | hb
    · exact ⟨o, ho⟩
    · exact x.live b hb
  fresh := fun b hb => by
    rcases List.mem_cons.mp hb with rfl | hb
    · exact fB
    · exact x.fresh b hb
section
variable {prog : Program} {w : World} {mg mb : Str → Option Value} {A : Around} {s : Shared} {E : Value → Shared → Prop} {Q : Flow → Shared → Prop} {B : Heap} {L fa : Addr} {cd : Value} {m : Str → Option Value} {n : GL}
/-- the refusal -/
theorem law_four {T : List (List Nat)} {under : List (List Int)} {lv cv pv sv uv xv : Value} (hA : Aok 20 A) (hfr : A.frames = some [envL w L fa cd]) (G : Gd (KF w) mg mb B) (X : Fx B [] (owL L) s.heap n) (S : LS L m (some lv) (some cv) (some pv) (some sv) s.heap) (hL : 151 < L)
    (huv : RowsV under n uv) (hxv : ListV (fun l => StrV (Mine.S l)) T n xv) (hmu : m "under" = some uv) (hmx : m "texts" = some xv) (hN : under.length = T.length) (z : T.length ≤ 10) (zr : ∀ r ∈ under, r.length ≤ 10) (bu : ∀ r ∈ under, InB under.length r)
    (z2 : (mergeIn under [[(T.length : Int) - 4, (T.length : Int) - 1]]).length ≤ 1000) (z3 : totalL (mergeIn under [[(T.length : Int) - 4, (T.length : Int) - 1]]) ≤ 10000) (hno : mergeF (mergeIn under [[(T.length : Int) - 4, (T.length : Int) - 1]]) = none)
    (next : ∀ h' tk n', Fx B [] (owL L) h' n' → Sub n n' → LS L m (some lv) (some cv) (some pv) (some sv) h' →
      wpAny (model prog w) A (execs (lawTail w 11) (envL w L fa cd)) Q E { s with heap := h', toks := tk }) :
    wpAny (model prog w) A (execs (lawTail w 10) (envL w L fa cd)) Q E s := by
  have mS : ∀ l : List Nat, Mono (StrV (Mine.S l)) := fun l => mono_StrV _
  have G0 := G.keeps X.keep
  refine wpAny_execs_cons (wpAny_If (wpAny_isTrue_Compare1 (Call_ ?_)))
  refine NameIs.glo G0 (by rfl) (by rfl) (by rfl) (by rfl) (by decide) _ _ _ _ s (fun _ _ e => e) ?_
  obtain ⟨oc, od, fd, osl, hK⟩ : ∃ oc od fd osl, (KF w).lookup 149 = some ⟨oc, od, .func fd, osl⟩ := ⟨_, _, _, _, by rfl⟩
  refine callWith_def (o := ⟨oc, od, .func fd, osl⟩) (fd := fd) rfl (args_cons ?_ rfl) rfl
  refine (Ev.name (k := 20) (n := n) (h := s.heap) (NameIs.loc S.ns hmu) (mono_RowsV under) huv) _ s n _ _ hA (Le.refl _) (Sub.refl _) X.ok ?_
  intro u1 h1 t1 n1 g1 f1
  have S1 := S.le g1.keep
  have X1 := X.grow g1
  have G1 := G.keeps X1.keep
  refine args_cons (List_ (args_cons ?_ rfl)) rfl
  have lenT : ∀ {p1 p2 p3 : Pos}, Ev prog w 20 h1 n1 (eval (.Call (.Name (Str.ofString "len") p1) [.Name (Str.ofString "texts") p2] [] p3) (envL w L fa cd)) (IntV T.length) := by
    intro p1 p2 p3
    refine callBui (Ev.nameE (nmLen G1 (by rfl))) (Ev.argsS (mono_ListV mS T) (Ev.name (NameIs.loc S1.ns hmx) (mono_ListV mS _) (mono_ListV mS _ _ _ _ g1.more hxv)) Ev.args0) ?_
    refine arg1 fun v n' _ hv => ?_
    exact op_lenL hv (Nat.le_trans z (by decide))
  refine (EvN.listN (k := 20) (n := n1) (h := h1) (F := IntV) (xs := [(T.length : Int) - 4, (T.length : Int) - 1]) (by simp) (Ev.argsS (mono_IntV _) (Ev.subI lenT Ev.cint) (Ev.argsS (mono_IntV _) (Ev.subI lenT Ev.cint) Ev.args0))) _ { s with heap := h1, toks := t1 } n1 _ _ hA (Le.refl _) (Sub.refl _) X1.ok ?_
  intro a vsa ea h2 t2 n2 g2 fa2 ap2 ha2 hpa
  have X2 := (X1.grow g2).own1 ha2 (X1.keep.none fa2) ap2
  have S2 := S1.le g2.keep
  have noa : ∀ b, b ∈ owL L → b ≠ a := fun b hb e => by obtain ⟨o, ho⟩ := X1.live b hb; rw [e, show h1.get? a = none from fa2] at ho; cases ho
  refine args_nil (wpAny_newObj_type ?_)
  generalize hh3 : Heap.push _ _ = h3
  have le3 : Le h2 h3 := by rw [← hh3]; exact Le.push _ _
  have hO : h3.get? h2.objs.size = some (lst [.ref a] 0) := by rw [← hh3]; exact Heap.get?_push_size _ rfl
  have fO : h2.get? h2.objs.size = none := new_none _
  have X3 := (X2.grow (Grow.heap X2.ok le3)).addG hO (X2.keep.none fO) fun hm => by obtain ⟨o, ho⟩ := X2.live _ hm; rw [fO] at ho; cases ho
  have S3 := S2.le le3
  have ha3 := le3 _ _ ha2
  refine args_nil ⟨(G.keeps X3.keep).K _ _ hK, ?_⟩
  have Bhide : ∀ l : List Addr, (∀ b, b ∈ l → b ∈ a :: owL L) → Le B (hideAll h3 l) := fun l hl b o e => hideAll_get _ (X3.keep _ _ e) fun hm => by rw [X3.fresh b (hl b hm)] at e; cases e
  have sub3 : Sub n1 ((h2.objs.size, lst [.ref a] 0) :: n2) := g2.more.trans (Sub.cons _ _)
  refine merged_call (k := 14) (s := { s with heap := h3, toks := t2 }) (n₁ := (h2.objs.size, lst [.ref a] 0) :: n2) (ps₃ := [(a, [(T.length : Int) - 4, (T.length : Int) - 1])]) (under := under) hA (G.keeps (Bhide [a] fun b hb => by rw [List.mem_singleton.mp hb]; exact .head _)) X3.ok (mono_RowsV _ _ _ _ sub3 f1)
    ⟨h2.objs.size, [.ref a], 0, rfl, .head _, .cons rfl .nil⟩ ?_ (by simp) ?_ bu (by grind) (fun r hr => by have := zr r hr; exact Nat.le_trans (by assumption) (by decide)) z2 z3 ?_ ?_
  · intro p hp
    rw [List.mem_singleton.mp hp]
    exact ⟨vsa, ea, ha3, intsAre_of hpa⟩
  · intro p hp hm
    exact X3.apart p hp a (.head _) (List.mem_singleton.mp hm)
  · intro r hr
    rw [show ([(a, [(T.length : Int) - 4, (T.length : Int) - 1])].map (·.2)) = [[(T.length : Int) - 4, (T.length : Int) - 1]] from rfl, hno] at hr
    cases hr
  intro _
  have LaNe : L ≠ a := noa L (.head _)
  have stays : (hideAll h3 [L, a]).StaysIn (hideAll h3 [a]) := fun b o e => hideAll_get _ (of_hideAll _ e) fun hm => by rw [hideAll_none [L, a] (.tail _ hm)] at e; cases e
  have inBase : ∀ {b : Addr} {o : Obj}, h3.get? b = some o → b ≠ L → b ≠ a → (hideAll h3 [L, a]).get? b = some o := fun ho h1 h2 => hideAll_get _ ho fun hm => by
    simp only [List.mem_cons, List.not_mem_nil, or_false] at hm
    exact hm.elim h1 h2
  have nsA : (hideAll h3 [a]).Ns L m := S3.ns.at' fun o e => hideAll_get _ e fun hm => LaNe (List.mem_singleton.mp hm)
  refine ⟨hideAll h3 [L, a], _, hfr, stays, Heap.FunFrames.cons (L := L) (by intro q; cases q) (by rfl) nsA (hideAll_none _ (.head _)) trivial, G.keeps (Bhide _ fun b hb => ?_), ?_⟩
  · simp only [List.mem_cons, List.not_mem_nil, or_false] at hb
    rcases hb with rfl | rfl
    · exact .tail _ (.head _)
    · exact .head _
  intro a4 h4 t4 tr er st4 up4 new4 ha4
  have ns4 : h4.Ns L m := up4.ns nsA
  have kp4 : ∀ {b : Addr} {o : Obj}, h3.get? b = some o → b ≠ L → b ≠ a → h4.get? b = some o := fun ho h1 h2 => st4 _ _ (inBase ho h1 h2)
  have cellK : ∀ {c : Addr} {v : Option Value}, h3.IsCell c v → c ∈ owL L → c ≠ L → h4.IsCell c v := fun hc hm hne => let ⟨o, ho, r⟩ := hc; ⟨o, kp4 ho hne (noa _ hm), r⟩
  have S4 : LS L m (some lv) (some cv) (some pv) (some sv) h4 :=
    ⟨ns4, cellK S3.c1 (.tail _ (.head _)) (Nat.ne_of_gt (Nat.lt_succ_self _)), cellK S3.c2 (.tail _ (.tail _ (.head _))) (Nat.ne_of_gt (Nat.lt_add_right 1 (Nat.lt_succ_self _))), cellK S3.c3 (.tail _ (.tail _ (.tail _ (.head _)))) (Nat.ne_of_gt (Nat.lt_add_right 1 (Nat.lt_add_right 1 (Nat.lt_succ_self _)))),
     cellK S3.c4 (.tail _ (.tail _ (.tail _ (.tail _ (.head _))))) (Nat.ne_of_gt (Nat.lt_add_right 1 (Nat.lt_add_right 1 (Nat.lt_add_right 1 (Nat.lt_succ_self _))))), kp4 S3.tab (Nat.ne_of_lt hL) (noa _ (.tail _ (.tail _ (.tail _ (.tail _ (.tail _ (.head _)))))))⟩
  have X4 : Fx B [] (owL L) h4 ((h2.objs.size, lst [.ref a] 0) :: n2) := by
    refine ⟨fun b o e => kp4 (X3.keep _ _ e) (fun q => ?_) (fun q => ?_), X3.more, fun p hp => kp4 (X3.ok p hp) (X3.apart p hp L (.tail _ (.head _))) (X3.apart p hp a (.head _)), X3.new, fun p hp b hb => X3.apart p hp b (.tail _ hb), fun b hb => ?_, fun b hb => X3.fresh b (.tail _ hb)⟩
    · rw [q, X3.fresh L (.tail _ (.head _))] at e; cases e
    · rw [q, X3.fresh a (.head _)] at e; cases e
    · by_cases hbL : b = L
      · subst hbL; obtain ⟨o, _, _, ho, _⟩ := ns4; exact ⟨o, ho⟩
      · obtain ⟨o, ho⟩ := X3.live b (.tail _ hb)
        exact ⟨o, kp4 ho hbL (noa b hb)⟩
  -- ['refused']
  refine List_ (args_cons (wpAny_Constant_str (args_nil (wpAny_newObj_type ?_))) rfl)
  generalize hh5 : Heap.push _ _ = h5
  have le5 : Le h4 h5 := by rw [← hh5]; exact Le.push _ _
  obtain ⟨u5, hO5⟩ : ∃ u, h5.get? h4.objs.size = some (lst [.str (Str.ofString "refused") u] 0) := ⟨_, by rw [← hh5]; exact Heap.get?_push_size _ rfl⟩
  refine ne_one (x := Str.ofString "refused") (by decide +kernel) (by have := hA.units; grind) (le5 _ _ ha4) hO5 ?_
  refine wpAny_truthy_bool ?_
  simp only [Bool.false_eq_true, if_false]
  refine wpAny_execs_nil ?_
  exact next h5 _ _ (X4.grow (Grow.heap X4.ok le5)) ((g1.more.trans g2.more).trans (Sub.cons _ _)) (S4.le le5)
/-- heights against turns -/
theorem law_five {ws : List Ws} {below out : List (List Int)} {order : List Int} {lv tv bv : Value} {cv pv sv : Option Value} (hA : Aok 20 A) (G : Gd (KF w) mg mb B) (hC : CodeHd B 155 151) (hB : B.BuiltinsAt mg 151) (X : Fx B [] (owL L) s.heap n) (S : LS L m (some lv) cv pv sv s.heap)
    (hlv : ListV (WsV w.params) ws n lv) (htv : RowV order n tv) (hbv : RowsV below n bv) (hmt : m "told" = some tv) (hmb : m "below" = some bv) (hok : ∀ W ∈ ws, W.Ok) (z : ws.length ≤ 10) (bo : ∀ i ∈ order, 0 ≤ i ∧ i < ws.length) (o1 : 2 ≤ order.length) (o2 : order.length < 64)
    (hd : ((heightsF ws order).map (·.headD 0)).Nodup) (hp : out.Perm (heightsF ws order)) (hs : out.Pairwise fun r r' => r.headD 0 < r'.headD 0)
    (hfree : ∀ left, left ≠ [] → InB below.length left → freeF left below ≠ []) (b1 : 2 ≤ below.length) (b2 : below.length ≤ 10) (b3 : ∀ r ∈ below, r.length ≤ 10) (hlen : (turnsF below).length = below.length) (hd' : ((turnsF below).map (·.headD 0)).Nodup) (hne : ∀ r ∈ turnsF below, r ≠ []) (hp' : out.Perm (turnsF below))
    (q : ∀ h' tk ps, Le B h' → h'.get? 151 = some (tabObj ps) → Q (.ret (.bool true)) { s with heap := h', toks := tk }) :
    wpAny (model prog w) A (execs (lawTail w 11) (envL w L fa cd)) Q E s := by
  have G0 := G.keeps X.keep
  refine wpAny_execs_cons (wpAny_Return_some (wpAny_Compare1 (Call_ ?_)))
  refine NameIs.glo G0 (by rfl) (by rfl) (by rfl) (by rfl) (by decide) _ _ _ _ s (fun _ _ e => e) ?_
  obtain ⟨oc, od, fd, osl, hK⟩ : ∃ oc od fd osl, (KF w).lookup 156 = some ⟨oc, od, .func fd, osl⟩ := ⟨_, _, _, _, by rfl⟩
  refine callWith_def (o := ⟨oc, od, .func fd, osl⟩) (fd := fd) rfl ?_ rfl
  refine (Ev.argsS (k := 20) (n := n) (h := s.heap) (mono_ListV (mono_WsV w.params) ws) (Ev.name (NameIs.cel S.c1) (mono_ListV (mono_WsV w.params) ws) hlv) (Ev.argsS (mono_RowV order) (Ev.name (NameIs.loc S.ns hmt) (mono_RowV _) htv) Ev.args0)) _ s n _ _ hA (Le.refl _) (Sub.refl _) X.ok ?_
  intro vs h1 t1 n1 g1 hpv
  obtain ⟨u1, u2, rfl, f1, f2⟩ := paired2 hpv
  have X1 := X.grow g1
  have S1 := S.le g1.keep
  have m151 : (151 : Addr) ∈ owL L := .tail _ (.tail _ (.tail _ (.tail _ (.tail _ (.head _)))))
  have leB : Le B (hideAll h1 [151]) := fun b o e => hideAll_get _ (X1.keep _ _ e) fun hm => by rw [List.mem_singleton.mp hm, X1.fresh 151 m151] at e; cases e
  have hB1 : (hideAll h1 [151]).BuiltinsAt mg 151 := by
    obtain ⟨bm, ob, b1, b2, b3, b4, b5, b6⟩ := hB
    exact ⟨bm, ob, b1, b2, b3, b4, leB _ _ b5, b6⟩
  refine ⟨(G.keeps X1.keep).K _ _ hK, ?_⟩
  refine heights_call (k := 11) (s := { s with heap := h1, toks := t1 }) (n₁ := n1) (L := ws) (order := order) (out := out) hA (G.keeps leB) S1.tab (hC.keeps leB) hB1 g1.at_ (fun p hp => X1.apart p hp 151 m151) f1 hok (by exact Nat.le_trans (by assumption) (by decide)) f2 bo o1 o2 hd hp hs ?_
  intro v2 h2 t2 n2 ps g2 f3 m2
  have le2 : Le B h2 := leB.trans g2.keep
  have G2 := G.keeps le2
  have L151 : L ≠ 151 := fun e => by
    obtain ⟨o, es, ep, ho, hd, _⟩ := S1.ns
    rw [e, S1.tab] at ho; cases ho; cases hd
  have ns2 : h2.Ns L m := S1.ns.at' fun o e => g2.keep _ _ (hideAll_get _ e fun hm => L151 (List.mem_singleton.mp hm))
  refine (callDef (fa := 137) (k := 20) (n := n2) (h := h2) (R := RowsV out) G2 (by rfl) (Ev.nameE (NameIs.glo G2 (by rfl))) (Ev.argsS (mono_RowsV below) (Ev.name (NameIs.loc ns2 hmb) (mono_RowsV _) (mono_RowsV _ _ _ _ (g1.more.trans g2.more) hbv)) Ev.args0) ?_) _ { s with heap := h2, toks := t2 } n2 _ _ hA (Le.refl _) (Sub.refl _) g2.at_ ?_
  · refine arg1 fun u n' _ hu => ?_
    exact turns_ev (k := 16) G2 hu hfree b1 (by exact Nat.lt_of_le_of_lt (by assumption) (by decide)) (fun r hr => by have := b3 r hr; exact Nat.le_trans (by assumption) (by decide)) hlen hd' hne hp' hs
  intro v3 h3 t3 n3 g3 f4
  refine (op_eqLL (k := 20) (h := h3) (by decide) (mono_RowsV _ _ _ _ g3.more f3) f4) _ { s with heap := h3, toks := t3 } n3 _ _ hA (Le.refl _) (Sub.refl _) g3.at_ ?_
  intro v4 h4 t4 n4 g4 f5
  have e5 : v4 = .bool (decide (out = out)) := f5
  rw [e5, decide_eq_true rfl]
  exact q h4 t4 ps ((le2.trans g3.keep).trans g4.keep) (g4.at_ _ (g4.more _ (g3.more _ m2)))
end
end Mine
end
section
open PySem PySem.W PyProof.Rows PySem.Calls
set_option Elab.async false
set_option autoImplicit false
set_option maxRecDepth 100000
set_option maxHeartbeats 4000000
namespace Mine
theorem length_flatMap_le {α β : Type} {f : α → List β} {c : Nat} : ∀ {l : List α}, (∀ a ∈ l, (f a).length ≤ c) → (l.flatMap f).length ≤ l.length * c
  | [], _ => by simp
  | a :: r, h => by
    have h1 := h a (.head _)
    have h2 := length_flatMap_le (f := f) (c := c) (l := r) fun b hb => h b (.tail _ hb)
    rw [List.flatMap_cons, List.length_append, List.length_cons, Nat.add_mul]
    grind
theorem totalL_le {c : Nat} : ∀ {ss : List (List Int)}, (∀ s ∈ ss, s.length ≤ c) → totalL ss ≤ ss.length * c
  | [], _ => by simp [totalL]
  | a :: r, h => by
    have h1 := h a (.head _)
    have h2 := totalL_le (c := c) (ss := r) fun b hb => h b (.tail _ hb)
    unfold totalL at *
    rw [List.map_cons, List.sum_cons, List.length_cons, Nat.add_mul]
    grind
theorem linesF_len {under : List (List Int)} (z : under.length ≤ 10) (zr : ∀ r ∈ under, r.length ≤ 10) : (linesF under).length ≤ 100 := by
  unfold linesF
  refine Nat.le_trans (length_flatMap_le (c := 10) fun a ha => ?_) ?_
  · obtain ⟨h0, h1⟩ := rangeL_mem ha
    rw [List.length_map]
    exact zr _ (List.mem_of_getElem? (getD_some (d := []) (i := a.toNat) (by exact (Int.toNat_lt (by assumption)).mpr (by assumption))))
  · rw [rangeL_length]; grind
theorem mergeIn_sizes {under ws : List (List Int)} (z : under.length ≤ 10) (zr : ∀ r ∈ under, r.length ≤ 10) (zw : ws.length ≤ 1) (zw' : ∀ r ∈ ws, r.length ≤ 2) : (mergeIn under ws).length ≤ 1000 ∧ totalL (mergeIn under ws) ≤ 10000 := by
  have h1 := linesF_len z zr
  have h2 : (mergeIn under ws).length ≤ 111 := by
    unfold mergeIn; rw [List.length_append, List.length_append, List.length_map, rangeL_length]; grind
  have h3 : ∀ s ∈ mergeIn under ws, s.length ≤ 12 := by
    intro s hs
    unfold mergeIn at hs
    rcases List.mem_append.mp hs with hs | hs
    · rcases List.mem_append.mp hs with hs | hs
      · obtain ⟨k, _, rfl⟩ := List.mem_map.mp hs; simp
      · unfold linesF at hs
        obtain ⟨k, _, hs⟩ := List.mem_flatMap.mp hs
        obtain ⟨m, _, rfl⟩ := List.mem_map.mp hs
        have := lineF_len under m
        unfold rowF; rw [List.length_append]; simp; grind
    · have := zw' s hs; exact Nat.le_trans (by assumption) (by decide)
  have h4 := totalL_le h3
  grind

abbrev wsL (xs : List Int) : List Ws := (textsL xs).map wsOf
abbrev colsL (xs : List Int) : List (List Int) := (textsL xs).map columnsF
abbrev belL (xs : List Int) : List (List Int) := belowF (colsL xs)
/-- all that is left to show of a script, with no program in sight -/
structure Facts (xs : List Int) : Prop where
  ok : ∀ W ∈ wsL xs, W.Ok
  same : lesserF (wsL xs) = belL xs
  free : ∀ left, left ≠ [] → InB (belL xs).length left → freeF left (belL xs) ≠ []
  merge : mergeF (mergeIn (underF (belL xs)) []) = some (orderF (belL xs))
  no : mergeF (mergeIn (underF (belL xs)) [[((textsL xs).length : Int) - 4, ((textsL xs).length : Int) - 1]]) = none
  ordB : ∀ i ∈ orderF (belL xs), 0 ≤ i ∧ i < (belL xs).length
  ordL : (orderF (belL xs)).length = (belL xs).length
  hD : ((heightsF (wsL xs) (orderF (belL xs))).map (·.headD 0)).Nodup
  tL : (turnsF (belL xs)).length = (belL xs).length
  tD : ((turnsF (belL xs)).map (·.headD 0)).Nodup
  tN : ∀ r ∈ turnsF (belL xs), r ≠ []
  out : ∃ out : List (List Int), out.Perm (heightsF (wsL xs) (orderF (belL xs))) ∧ (out.Pairwise fun r r' => r.headD 0 < r'.headD 0) ∧ out.Perm (turnsF (belL xs))

theorem belowF_rows {cols : List (List Int)} {r : List Int} (h : r ∈ belowF cols) : r.length ≤ cols.length ∧ InB (belowF cols).length r := by
  rw [belowF_len]
  unfold belowF at h
  obtain ⟨k, _, rfl⟩ := List.mem_map.mp h
  refine ⟨?_, fun i hi => rangeL_mem (List.mem_filter.mp hi).1⟩
  refine Nat.le_trans (List.length_filter_le _ _) ?_
  rw [rangeL_length]; exact Nat.le_refl _
theorem textsL_four (xs : List Int) : 4 ≤ (textsL xs).length := by unfold textsL scriptL; rw [List.length_map, List.length_append]; simp
section
variable {prog : Program} {w : World} {mg mb : Str → Option Value} {A : Around} {s : Shared} {E : Value → Shared → Prop} {Q : Flow → Shared → Prop} {B : Heap} {L fa : Addr} {cd : Value} {m : Str → Option Value}
theorem law_walk {xs : List Int} {sl : Addr} {vs : List Value} (hA : Aok 20 A) (hfr : A.frames = some [envL w L fa cd]) (G : Gd (KF w) mg mb B) (hC : CodeHd B 155 151) (hB : B.BuiltinsAt mg 151) (X : Fx B [] (owL L) s.heap []) (S : LS L m none none none none s.heap) (hm : m "script" = some (.ref sl)) (hsl : B.IsList sl vs.toArray) (hI : IntsAre vs xs) (hlen : xs.length ≤ 63) (hL : 151 < L)
    (F : Facts xs) (q : ∀ h' tk ps, Le B h' → h'.get? 151 = some (tabObj ps) → Q (.ret (.bool true)) { s with heap := h', toks := tk }) :
    wpAny (model prog w) A (execs (lawBody w) (envL w L fa cd)) Q E s := by
  have t10 := textsL_len xs
  have t4 := textsL_four xs
  have cl : (colsL xs).length = (textsL xs).length := List.length_map _
  have wl : (wsL xs).length = (textsL xs).length := List.length_map _
  have bl : (belL xs).length = (textsL xs).length := by rw [belowF_len]; exact cl
  have ul : (underF (belL xs)).length = (textsL xs).length := by unfold underF; rw [List.length_map]; exact bl
  have rb : ∀ r ∈ belL xs, r.length ≤ 10 := fun r hr => by have := (belowF_rows hr).1; grind
  have ru : ∀ r ∈ underF (belL xs), r.length ≤ 10 := by
    intro r hr
    obtain ⟨p, hp, rfl⟩ := List.mem_map.mp hr
    exact Nat.le_trans (List.length_filter_le _ _) (rb p hp)
  have bu : ∀ r ∈ underF (belL xs), InB (underF (belL xs)).length r := by
    intro r hr
    rw [ul, ← bl]
    obtain ⟨p, hp, rfl⟩ := List.mem_map.mp hr
    intro i hi
    exact (belowF_rows hp).2 i (List.mem_filter.mp hi).1
  have z1 := mergeIn_sizes (under := underF (belL xs)) (ws := []) (by grind) ru (by simp) (by simp)
  have z2 := mergeIn_sizes (under := underF (belL xs)) (ws := [[((textsL xs).length : Int) - 4, ((textsL xs).length : Int) - 1]]) (by grind) ru (by simp) (by simp)
  refine law_one (s := s) hA G X S hm hsl hI hlen hL ?_
  intro h1 t1 n1 m1 tv lv cv pv X1 S1 mt f1 f2 f3 f4
  refine law_two (s := { s with heap := h1, toks := t1 }) (ws := wsL xs) (cols := colsL xs) hA G X1 S1 hL f2 f3 (by rw [cl]; exact f4) (by rw [wl, cl]) (by grind) (fun c hc => ?_) F.ok F.same ?_
  · obtain ⟨l, _, rfl⟩ := List.mem_map.mp hc; exact columnsF_len l
  intro h2 t2 n2 m2 bv sv X2 sb2 S2 mk2 mb2 fb fs
  refine law_three (s := { s with heap := h2, toks := t2 }) (below := belL xs) hA G X2 S2 hL fb fs mb2 (by grind) rb (fun r hr => (belowF_rows hr).2) z1.1 z1.2 F.free F.merge ?_
  intro h3 t3 n3 m3 uv ov X3 sb3 S3 mk3 mu3 mt3 fu fo
  refine law_four (s := { s with heap := h3, toks := t3 }) (T := textsL xs) (under := underF (belL xs)) (xv := tv) hA hfr G X3 S3 hL fu (mono_ListV (fun l => mono_StrV _) _ _ _ _ (sb2.trans sb3) f1) mu3 (by rw [mk3 _ (by decide) (by decide), mk2 _ (by decide)]; exact mt) ul (by assumption) ru bu z2.1 z2.2 F.no ?_
  intro h4 t4' n4 X4 sb4 S4
  obtain ⟨out, o1, o2, o3⟩ := F.out
  refine law_five (s := { s with heap := h4, toks := t4' }) (ws := wsL xs) (below := belL xs) (order := orderF (belL xs)) (out := out) hA G hC hB X4 S4 (mono_ListV (mono_WsV _) _ _ _ _ ((sb2.trans sb3).trans sb4) f2) (mono_RowV _ _ _ _ sb4 fo) (mono_RowsV _ _ _ _ (sb3.trans sb4) fb)
    mt3 (by rw [mk3 _ (by decide) (by decide)]; exact mb2) F.ok (by grind) (fun i hi => by have := F.ordB i hi; grind) (by rw [F.ordL]; grind) (by rw [F.ordL]; grind) F.hD o1 o2 F.free (by grind) (by grind) rb F.tL F.tD F.tN o3 ?_
  exact q
end
end Mine
end
section
open PySem PySem.W PyProof.Rows PySem.Calls
set_option Elab.async false
set_option autoImplicit false
set_option maxRecDepth 100000
set_option maxHeartbeats 4000000
namespace Mine
section
variable {prog : Program} {w : World} {mg mb : Str → Option Value} {s : Shared} {E : Value → Shared → Prop} {Q : Flow → Shared → Prop} {B h₁ : Heap} {L fa : Addr} {cd : Value} {m : Str → Option Value} {tk : Nat}
theorem gd_of {p : Program} {loose : List Str} {mean : ExcName → Option Value} (X : (KF w).In B) (T : Top p loose mean mg mb B) : Gd (KF w) mg mb B := ⟨X, T.g, T.b, T.nolimit, T.builtins⟩
theorem builtinsAt_of {p : Program} {loose : List Str} {mean : ExcName → Option Value} (T : Top p loose mean mg mb B) {a : Addr} (ha : B.get? a = none) : B.BuiltinsAt mg a := by
  obtain ⟨bm, ob, a1, a2, a3, a4, a5, a6⟩ := T.bmain
  refine ⟨bm, ob, a1, a2, ?_, ?_, a3, a4, a5, a6⟩
  · intro e
    obtain ⟨o, es, ep, ho, hd, _⟩ := T.g
    rw [← e, a3] at ho
    cases ho
    rw [a6] at hd; cases hd
  · intro e
    rw [e, ha] at a3; cases a3
theorem law_goal {p : Program} {loose : List Str} {mean : ExcName → Option Value} {xs : List Int} {sl : Addr} {vs : List Value} {o1 o2 o3 o4 : Obj} (X : (KF w).In B) (T : Top p loose mean mg mb B) (hC : CodeHd B 155 151) (F' : Fr B L h₁ m)
    (N : News B L h₁ [(L + 1 + 1 + 1 + 1, o4), (L + 1 + 1 + 1, o3), (L + 1 + 1, o2), (L + 1, o1), (151, tabObj #[])]) (d1 : o1.data = .cell none) (d2 : o2.data = .cell none) (d3 : o3.data = .cell none) (d4 : o4.data = .cell none)
    (hm : m "script" = some (.ref sl)) (hsl : B.IsList sl vs.toArray) (hI : IntsAre vs xs) (hlen : xs.length ≤ 63) (hL : 151 < L) (F : Facts xs)
    (q : ∀ h' tk ps, Le B h' → h'.get? 151 = some (tabObj ps) → Q (.ret (.bool true)) { s with heap := h', toks := tk }) :
    wpAny (model prog w) (callerA.deeper (envL w L fa cd)) (execs (lawBody w) (envL w L fa cd)) Q E { s with heap := h₁, toks := tk } := by
  have m1 := N _ (.tail _ (.tail _ (.tail _ (.head _))))
  have m2 := N _ (.tail _ (.tail _ (.head _)))
  have m3 := N _ (.tail _ (.head _))
  have m4 := N _ (.head _)
  have m5 := N _ (.tail _ (.tail _ (.tail _ (.tail _ (.head _)))))
  have hA : Aok 20 (callerA.deeper (envL w L fa cd)) := ⟨rfl, by show 1 + claimMargin + 1 + 20 < recursionLimit; decide, by show 4 + 3 + 100 * 20 < cLine; decide +kernel⟩
  refine law_walk (s := { s with heap := h₁, toks := tk }) hA (Around.frames_deeper rfl) (gd_of X T) hC (builtinsAt_of T m5.2.2) ?_ ⟨F'.ns, ⟨_, m1.1, d1⟩, ⟨_, m2.1, d2⟩, ⟨_, m3.1, d3⟩, ⟨_, m4.1, d4⟩, m5.1⟩ hm hsl hI hlen hL F q
  exact ⟨F'.keep, Sub.refl _, fun p hp => (nomatch hp), fun p hp => (nomatch hp), fun p hp => (nomatch hp), allC (nsLive F'.ns) (allC ⟨_, m1.1⟩ (allC ⟨_, m2.1⟩ (allC ⟨_, m3.1⟩ (allC ⟨_, m4.1⟩ (all1 ⟨_, m5.1⟩))))),
    allC (new_none' F'.above) (allC m1.2.2 (allC m2.2.2 (allC m3.2.2 (allC m4.2.2 (all1 m5.2.2)))))⟩
end
end Mine
end
section
set_option Elab.async false
set_option autoImplicit false
namespace Mine
theorem mem_rangeL {N : Nat} {i : Int} : i ∈ rangeL 0 N ↔ 0 ≤ i ∧ i < N := by
  constructor
  · exact rangeL_mem
  · rintro ⟨h0, h1⟩
    unfold rangeL
    refine List.mem_map.mpr ⟨i.toNat, List.mem_range.mpr (by exact (Int.toNat_lt (by assumption)).mpr (by assumption)), by grind⟩
/-- a strict order upon the places, with its rows and a measure -/
structure Ord (N : Nat) (R : Int → Int → Bool) (bel : List (List Int)) (ms : Int → Nat) : Prop where
  len : bel.length = N
  row : ∀ k : Int, 0 ≤ k → k < (N : Int) → bel.getD k.toNat [] = (rangeL 0 N).filter fun m => R m k
  tr : ∀ a b c, R a b = true → R b c = true → R a c = true
  up : ∀ a b, R a b = true → ms a < ms b
def freeP (R : Int → Int → Bool) (left : List Int) (k : Int) : Bool := left.all fun m => !R m k
theorem freeP_iff {R : Int → Int → Bool} {left : List Int} {k : Int} : freeP R left k = true ↔ ∀ m ∈ left, R m k = false := by
  unfold freeP
  rw [List.all_eq_true]
  exact ⟨fun h m hm => by have := h m hm; simpa using this, fun h m hm => by simp [h m hm]⟩
theorem exists_min {ms : Int → Nat} : ∀ {l : List Int}, l ≠ [] → ∃ k ∈ l, ∀ m ∈ l, ms k ≤ ms m
  | [], h => absurd rfl h
  | [a], _ => ⟨a, .head _, fun m hm => by rw [List.mem_singleton.mp hm]; exact Nat.le_refl _⟩
  | a :: b :: r, _ => by
    obtain ⟨k, hk, h⟩ := exists_min (ms := ms) (l := b :: r) (by simp)
    by_cases c : ms a ≤ ms k
    · exact ⟨a, .head _, fun m hm => by
        rcases List.mem_cons.mp hm with rfl | hm
        · exact Nat.le_refl _
        · exact Nat.le_trans c (h m hm)⟩
    · exact ⟨k, .tail _ hk, fun m hm => by
        rcases List.mem_cons.mp hm with rfl | hm
        · grind
        · exact h m hm⟩
theorem exists_max {ms : Int → Nat} : ∀ {l : List Int}, l ≠ [] → ∃ k ∈ l, ∀ m ∈ l, ms m ≤ ms k
  | [], h => absurd rfl h
  | [a], _ => ⟨a, .head _, fun m hm => by rw [List.mem_singleton.mp hm]; exact Nat.le_refl _⟩
  | a :: b :: r, _ => by
    obtain ⟨k, hk, h⟩ := exists_max (ms := ms) (l := b :: r) (by simp)
    by_cases c : ms k ≤ ms a
    · exact ⟨a, .head _, fun m hm => by
        rcases List.mem_cons.mp hm with rfl | hm
        · exact Nat.le_refl _
        · exact Nat.le_trans (h m hm) c⟩
    · exact ⟨k, .tail _ hk, fun m hm => by
        rcases List.mem_cons.mp hm with rfl | hm
        · grind
        · exact h m hm⟩
namespace Ord
variable {N : Nat} {R : Int → Int → Bool} {bel : List (List Int)} {ms : Int → Nat}
theorem irr (O : Ord N R bel ms) (a : Int) : R a a = false := by
  cases h : R a a with
  | false => rfl
  | true => exact absurd (O.up a a h) (Nat.lt_irrefl _)
theorem mem (O : Ord N R bel ms) {k m : Int} (h0 : 0 ≤ k) (h1 : k < N) : m ∈ bel.getD k.toNat [] ↔ (0 ≤ m ∧ m < N) ∧ R m k = true := by
  rw [O.row k h0 h1, List.mem_filter, mem_rangeL]
theorem freeF_eq (O : Ord N R bel ms) {left : List Int} (hb : InB N left) : freeF left bel = left.filter (freeP R left) := by
  unfold freeF
  apply List.filter_congr
  intro k hk
  obtain ⟨h0, h1⟩ := hb k hk
  rw [Bool.eq_iff_iff, freeP_iff, decide_eq_true_iff]
  unfold lowOf
  rw [List.filter_eq_nil_iff]
  constructor
  · intro h m hm
    cases hr : R m k with
    | false => rfl
    | true =>
      refine absurd ?_ (h m ((O.mem h0 h1).mpr ⟨hb m hm, hr⟩))
      rw [List.any_eq_true]
      exact ⟨m, hm, by simp⟩
  · intro h m hm hany
    rw [List.any_eq_true] at hany
    obtain ⟨x, hx, e⟩ := hany
    have : x = m := by simpa using e
    subst this
    have h2 := ((O.mem h0 h1).mp hm).2
    rw [h x hx] at h2
    cases h2
theorem free_ne (O : Ord N R bel ms) {left : List Int} (hne : left ≠ []) (hb : InB N left) : freeF left bel ≠ [] := by
  obtain ⟨k, hk, h⟩ := exists_min (ms := ms) hne
  have : k ∈ freeF left bel := by
    rw [O.freeF_eq hb, List.mem_filter, freeP_iff]
    refine ⟨hk, fun m hm => ?_⟩
    cases hr : R m k with
    | false => rfl
    | true => have := O.up m k hr; have := h m hm; grind
  intro e
  rw [e] at this
  cases this
/-- one right under, above a lower bound that goes up -/
theorem cover (O : Ord N R bel ms) {P : Int → Prop} {k m : Int} (hm : 0 ≤ m ∧ m < N) (hr : R m k = true) (hp : P m) (up : ∀ a b : Int, 0 ≤ b → b < (N : Int) → P a → R a b = true → P b) :
    ∃ m' : Int, (0 ≤ m' ∧ m' < (N : Int)) ∧ R m' k = true ∧ P m' ∧ ∀ j : Int, 0 ≤ j → j < (N : Int) → R m' j = true → R j k = true → False := by
  classical
  obtain ⟨m', h1, h2⟩ := exists_max (ms := ms) (l := (rangeL 0 N).filter fun a => R a k && decide (P a)) (by
    intro e
    have : m ∈ (rangeL 0 N).filter fun a => R a k && decide (P a) := List.mem_filter.mpr ⟨mem_rangeL.mpr hm, by simp [hr, hp]⟩
    rw [e] at this
    cases this)
  rw [List.mem_filter, mem_rangeL] at h1
  obtain ⟨hb, hc⟩ := h1
  simp only [Bool.and_eq_true, decide_eq_true_eq] at hc
  refine ⟨m', hb, hc.1, hc.2, fun j j0 j1 a b => ?_⟩
  have := h2 j (List.mem_filter.mpr ⟨mem_rangeL.mpr ⟨j0, j1⟩, by simp [b, up m' j j0 j1 hc.2 a]⟩)
  have := O.up m' j a
  grind
end Ord

/-! the order -/
theorem orderGo_acc (below : List (List Int)) : ∀ (f : Nat) (left acc : List Int), orderGo below f left acc = acc ++ orderGo below f left []
  | 0, _, acc => by simp [orderGo]
  | f + 1, left, acc => by
    unfold orderGo
    rw [orderGo_acc below f _ (acc ++ _), orderGo_acc below f _ ([] ++ _)]
    simp
abbrev lf (N : Nat) (p : Int → Bool) : List Int := (rangeL 0 N).filter p
theorem mem_lf {N : Nat} {p : Int → Bool} {i : Int} : i ∈ lf N p ↔ (0 ≤ i ∧ i < N) ∧ p i = true := by rw [List.mem_filter, mem_rangeL]
theorem lf_inB {N : Nat} {p : Int → Bool} : InB N (lf N p) := fun _ hi => (mem_lf.mp hi).1
theorem lf_nodup {N : Nat} {p : Int → Bool} : (lf N p).Nodup := List.Nodup.sublist List.filter_sublist (rangeL_nodup 0 N)
def cut (p : Int → Bool) (c : Int) (x : Int) : Bool := p x && !(x == c)
theorem lf_erase {N : Nat} {p : Int → Bool} {c : Int} : (lf N p).erase c = lf N (cut p c) := by
  rw [lf_nodup.erase_eq_filter, List.filter_filter]
  apply List.filter_congr
  intro x _
  unfold cut
  cases p x <;> simp [bne]
theorem headD_mem {l : List Int} (h : l ≠ []) : l.headD 0 ∈ l := by
  cases l with
  | nil => exact absurd rfl h
  | cons a r => exact .head _
/-- what is left goes up -/
def UpC (N : Nat) (R : Int → Int → Bool) (p : Int → Bool) : Prop := ∀ a b : Int, (0 ≤ a ∧ a < (N : Int)) → (0 ≤ b ∧ b < (N : Int)) → p a = true → R a b = true → p b = true
section
variable {N : Nat} {R : Int → Int → Bool} {bel : List (List Int)} {ms : Int → Nat}
/-- the lowest free one -/
theorem head_free (O : Ord N R bel ms) {p : Int → Bool} (hne : lf N p ≠ []) : (freeF (lf N p) bel).headD 0 ∈ lf N p ∧ ∀ m ∈ lf N p, R m ((freeF (lf N p) bel).headD 0) = false := by
  have h := headD_mem (O.free_ne hne lf_inB)
  generalize (freeF (lf N p) bel).headD 0 = c at *
  rw [O.freeF_eq lf_inB, List.mem_filter, freeP_iff] at h
  exact h
theorem upC_cut {p : Int → Bool} {c : Int} (U : UpC N R p) (hc : ∀ m ∈ lf N p, R m c = false) : UpC N R (cut p c) := by
  intro a b ha hb h hr
  unfold cut at h ⊢
  simp only [Bool.and_eq_true, Bool.not_eq_true', beq_eq_false_iff_ne] at h ⊢
  refine ⟨U a b ha hb h.1 hr, ?_⟩
  rintro rfl
  rw [hc a (mem_lf.mpr ⟨ha, h.1⟩)] at hr
  cases hr
theorem lf_cut_len {p : Int → Bool} {c : Int} (h : c ∈ lf N p) : (lf N (cut p c)).length + 1 = (lf N p).length := by
  rw [← lf_erase, List.length_erase_of_mem h]
  have := List.length_pos_of_mem h
  grind
theorem order_perm (O : Ord N R bel ms) : ∀ (f : Nat) (p : Int → Bool), (lf N p).length = f → (orderGo bel f (lf N p) []).Perm (lf N p)
  | 0, p, h => by rw [List.length_eq_zero_iff.mp h]; exact .refl _
  | f + 1, p, h => by
    have hne : lf N p ≠ [] := fun e => by rw [e] at h; cases h
    obtain ⟨hc, _⟩ := head_free O hne
    unfold orderGo
    rw [orderGo_acc]
    generalize (freeF (lf N p) bel).headD 0 = c at *
    have ih := order_perm O f (cut p c) (by have := lf_cut_len hc; grind)
    rw [lf_erase]
    refine .trans (.cons c ih) ?_
    rw [← lf_erase]
    exact (List.perm_cons_erase hc).symm
end
end Mine
end
section
set_option Elab.async false
set_option autoImplicit false
namespace Mine
section
variable {N : Nat} {R : Int → Int → Bool} {bel : List (List Int)} {ms : Int → Nat}
/-! the lines -/
def Up2 (R : Int → Int → Bool) (l : List Int) : Prop := l.Pairwise fun a b => R a b = true
/-- what is right under -/
def Und (N : Nat) (R : Int → Int → Bool) (m k : Int) : Prop := (0 ≤ m ∧ m < (N : Int)) ∧ R m k = true ∧ ∀ j : Int, 0 ≤ j → j < (N : Int) → R m j = true → R j k = true → False
theorem under_mem (O : Ord N R bel ms) {k m : Int} (hk : 0 ≤ k ∧ k < (N : Int)) : m ∈ (underF bel).getD k.toNat [] ↔ Und N R m k := by
  have e : (underF bel).getD k.toNat [] = underRow bel (bel.getD k.toNat []) := by
    unfold underF
    have hl : k.toNat < bel.length := by rw [O.len]; omega
    simp [List.getD, List.getElem?_map, List.getElem?_eq_getElem hl]
  rw [e]
  unfold underRow
  rw [List.mem_filter, O.mem hk.1 hk.2, decide_eq_true_iff, List.filter_eq_nil_iff]
  constructor
  · rintro ⟨⟨hm, hr⟩, h⟩
    refine ⟨hm, hr, fun j j0 j1 a b => ?_⟩
    refine h j ((O.mem hk.1 hk.2).mpr ⟨⟨j0, j1⟩, b⟩) ?_
    rw [List.any_eq_true]
    exact ⟨m, (O.mem j0 j1).mpr ⟨hm, a⟩, by simp⟩
  · rintro ⟨hm, hr, h⟩
    refine ⟨⟨hm, hr⟩, fun j hj hany => ?_⟩
    obtain ⟨⟨j0, j1⟩, b⟩ := (O.mem hk.1 hk.2).mp hj
    rw [List.any_eq_true] at hany
    obtain ⟨x, hx, e⟩ := hany
    have : x = m := by simpa using e
    subst this
    exact h j j0 j1 ((O.mem j0 j1).mp hx).2 b
theorem under_len (O : Ord N R bel ms) : (underF bel).length = N := by unfold underF; rw [List.length_map, O.len]
/-- a line goes up, stays within the places and ends with its place -/
structure LineOk (N : Nat) (R : Int → Int → Bool) (m : Int) (l : List Int) : Prop where
  up : Up2 R l
  inb : InB N l
  last : ∃ u, l = u ++ [m]
theorem stepL_line (O : Ord N R bel ms) {m : Int} {l : List Int} (x : LineOk N R m l) : LineOk N R m (stepL (underF bel) l) := by
  obtain ⟨up, inb, u, e⟩ := x
  have hne : l ≠ [] := by rw [e]; simp
  obtain ⟨a, r, rfl⟩ := List.exists_cons_of_ne_nil hne
  have ha := inb a (.head _)
  unfold stepL
  show LineOk N R m (((underF bel).getD a.toNat []).take 1 ++ a :: r)
  cases h : (underF bel).getD a.toNat [] with
  | nil => exact ⟨by simpa using up, by simpa using inb, u, by simpa using e⟩
  | cons b t =>
    have hb : b ∈ (underF bel).getD a.toNat [] := by rw [h]; exact .head _
    obtain ⟨b0, b1, _⟩ := (under_mem O ha).mp hb
    refine ⟨?_, ?_, b :: u, by simp [e]⟩
    · simp only [List.take_succ_cons, List.take_zero, List.singleton_append]
      unfold Up2 at up ⊢
      rw [List.pairwise_cons]
      refine ⟨fun c hc => ?_, up⟩
      rcases List.mem_cons.mp hc with rfl | hc
      · exact b1
      · exact O.tr b a c b1 ((List.pairwise_cons.mp up).1 c hc)
    · intro i hi
      simp only [List.take_succ_cons, List.take_zero, List.singleton_append] at hi
      rcases List.mem_cons.mp hi with rfl | hi
      · exact b0
      · exact inb i hi
theorem iterL_line (O : Ord N R bel ms) {m : Int} {l : List Int} (x : LineOk N R m l) : ∀ f, LineOk N R m (iterL (underF bel) f l)
  | 0 => x
  | f + 1 => stepL_line O (iterL_line O x f)
theorem lineF_line (O : Ord N R bel ms) {m : Int} (hm : 0 ≤ m ∧ m < (N : Int)) : LineOk N R m (lineF (underF bel) m) :=
  iterL_line O ⟨List.pairwise_singleton _ _, fun i hi => by rw [List.mem_singleton.mp hi]; exact hm, [], rfl⟩ _
theorem rowF_ok (O : Ord N R bel ms) {k m : Int} (hk : 0 ≤ k ∧ k < (N : Int)) (h : Und N R m k) : Up2 R (rowF (underF bel) k m) ∧ InB N (rowF (underF bel) k m) ∧ ∃ u, rowF (underF bel) k m = u ++ [m, k] := by
  obtain ⟨up, inb, u, e⟩ := lineF_line O h.1
  unfold rowF
  refine ⟨?_, ?_, u, by rw [e]; simp⟩
  · unfold Up2 at up ⊢
    rw [List.pairwise_append]
    refine ⟨up, List.pairwise_singleton _ _, fun a ha b hb => ?_⟩
    rw [List.mem_singleton.mp hb]
    rw [e] at ha up
    rcases List.mem_append.mp ha with ha | ha
    · exact O.tr a m k ((List.pairwise_append.mp up).2.2 a ha m (.head _)) h.2.1
    · rw [List.mem_singleton.mp ha]; exact h.2.1
  · intro i hi
    rcases List.mem_append.mp hi with hi | hi
    · exact inb i hi
    · rw [List.mem_singleton.mp hi]; exact hk
theorem linesF_mem (O : Ord N R bel ms) {s : List Int} : s ∈ linesF (underF bel) ↔ ∃ k m, (0 ≤ k ∧ k < (N : Int)) ∧ Und N R m k ∧ s = rowF (underF bel) k m := by
  unfold linesF
  rw [List.mem_flatMap, under_len O]
  constructor
  · rintro ⟨k, hk, hs⟩
    obtain ⟨m, hm, rfl⟩ := List.mem_map.mp hs
    have hk := mem_rangeL.mp hk
    exact ⟨k, m, hk, (under_mem O hk).mp hm, rfl⟩
  · rintro ⟨k, m, hk, hu, rfl⟩
    exact ⟨k, mem_rangeL.mpr hk, List.mem_map.mpr ⟨m, (under_mem O hk).mpr hu, rfl⟩⟩

/-! the refusal -/
theorem mem_tail_app {u v : List Int} {y z : Int} (h : z ∈ v) : z ∈ (u ++ y :: v).tail := by
  cases u with
  | nil => exact h
  | cons a u => exact List.mem_append_right _ (.tail _ h)
theorem refused {Z : Int → Prop} (z0 : ∃ z, Z z) : ∀ (f : Nat) (ss : List (List Int)) (acc : List Int), (∀ z, Z z → ∃ s ∈ ss, ∃ u y v, s = u ++ y :: v ∧ Z y ∧ z ∈ v) → mergeGo f ss acc = none
  | 0, _, _, _ => rfl
  | f + 1, ss, acc, h => by
    have ne : ∀ z, Z z → ∃ s ∈ neS ss, ∃ u y v, s = u ++ y :: v ∧ Z y ∧ z ∈ v := fun z hz => by
      obtain ⟨s, hs, u, y, v, e, hy, hv⟩ := h z hz
      exact ⟨s, List.mem_filter.mpr ⟨hs, by rw [e]; cases u <;> rfl⟩, u, y, v, e, hy, hv⟩
    unfold mergeGo
    have h0 : neS ss ≠ [] := by
      obtain ⟨z, hz⟩ := z0
      obtain ⟨s, hs, _⟩ := ne z hz
      intro e; rw [e] at hs; cases hs
    rw [if_neg h0]
    cases hc : candF (neS ss) with
    | none => rfl
    | some c =>
      dsimp only
      have good : goodC (neS ss) c = true := List.find?_some hc
      unfold goodC at good
      rw [List.all_eq_true] at good
      have notZ : ¬ Z c := fun hz => by
        obtain ⟨s, hs, u, y, v, e, _, hv⟩ := ne c hz
        have hg := good s hs
        rw [e] at hg
        have : ((u ++ y :: v).tail.any fun x => x == c) = true := by rw [List.any_eq_true]; exact ⟨c, mem_tail_app hv, by simp⟩
        rw [this] at hg
        cases hg
      refine refused z0 f _ _ fun z hz => ?_
      obtain ⟨s, hs, u, y, v, e, hy, hv⟩ := ne z hz
      refine ⟨popS c s, List.mem_map_of_mem hs, ?_⟩
      subst e
      cases u with
      | nil =>
        refine ⟨[], y, v, ?_, hy, hv⟩
        unfold popS
        have : ¬ ((([] ++ y :: v : List Int).headD 0 == c) = true) := by
          intro q
          have : y = c := by simpa using q
          exact notZ (this ▸ hy)
        rw [if_neg this]
      | cons a u =>
        unfold popS
        split
        · exact ⟨u, y, v, rfl, hy, hv⟩
        · exact ⟨a :: u, y, v, rfl, hy, hv⟩
theorem merge_refused (O : Ord N R bel ms) {p q : Int} (hp : 0 ≤ p ∧ p < (N : Int)) (hq : 0 ≤ q ∧ q < (N : Int)) (hr : R q p = true) : mergeF (mergeIn (underF bel) [[p, q]]) = none := by
  unfold mergeF
  refine refused (Z := fun z => (0 ≤ z ∧ z < (N : Int)) ∧ (z = q ∨ R q z = true) ∧ (z = p ∨ R z p = true)) ⟨q, hq, .inl rfl, .inr hr⟩ _ _ _ ?_
  rintro z ⟨hz, h1, h2⟩
  rcases h1 with rfl | h1
  · exact ⟨[p, z], List.mem_append_right _ (.head _), [], p, [z], rfl, ⟨hp, .inr hr, .inl rfl⟩, .head _⟩
  · obtain ⟨m', hm, hmz, hP, hno⟩ := O.cover (P := fun m => m = q ∨ R q m = true) (k := z) hq h1 (.inl rfl) (fun a b _ _ ha hab => .inr (by
      rcases ha with rfl | ha
      · exact hab
      · exact O.tr q a b ha hab))
    have hu : Und N R m' z := ⟨hm, hmz, hno⟩
    obtain ⟨_, _, u, e⟩ := rowF_ok O hz hu
    refine ⟨_, List.mem_append_left _ (List.mem_append_right _ ((linesF_mem O).mpr ⟨z, m', hz, hu, rfl⟩)), u, m', [z], e, ⟨hm, hP, ?_⟩, .head _⟩
    rcases h2 with rfl | h2
    · exact .inr hmz
    · exact .inr (O.tr m' z p hmz h2)
end
end Mine
end
section
set_option Elab.async false
set_option autoImplicit false
namespace Mine
theorem neS_app (a b : List (List Int)) : neS (a ++ b) = neS a ++ neS b := by unfold neS; exact List.filter_append _ _
theorem neS_map {g : List Int → List Int} (h : g [] = []) : ∀ ss : List (List Int), neS ((neS ss).map g) = neS (ss.map g)
  | [] => rfl
  | [] :: r => by
    have ih := neS_map h r
    unfold neS at *
    simpa [h] using ih
  | (a :: t) :: r => by
    have ih := neS_map h r
    unfold neS at *
    simp only [List.filter_cons, List.isEmpty_cons, Bool.not_false, if_true, List.map_cons]
    rw [ih]
theorem mem_neS {s : List Int} {ss : List (List Int)} : s ∈ neS ss ↔ s ∈ ss ∧ s ≠ [] := by
  unfold neS
  rw [List.mem_filter]
  cases s <;> simp
theorem neS_singles (p : Int → Bool) : ∀ l : List Int, neS ((l.map fun k => [k]).map (List.filter p)) = (l.filter p).map fun k => [k]
  | [] => rfl
  | a :: r => by
    have ih := neS_singles p r
    unfold neS at *
    cases h : p a <;> simp [h] <;> simpa using ih
theorem popS_nil (c : Int) : popS c [] = [] := by unfold popS; split <;> rfl
theorem popS_cut {p : Int → Bool} {c : Int} {s : List Int} (hs : (s.filter p).Nodup) (hg : ((s.filter p).tail.any (· == c)) = false) : popS c (s.filter p) = s.filter (cut p c) := by
  have e : s.filter (cut p c) = (s.filter p).filter fun x => !(x == c) := by
    rw [List.filter_filter]
    apply List.filter_congr
    intro x _
    unfold cut
    cases p x <;> simp
  rw [e]
  generalize s.filter p = t at *
  cases t with
  | nil => exact popS_nil c
  | cons a r =>
    have hr : r.filter (fun x => !(x == c)) = r := by
      rw [List.filter_eq_self]
      intro x hx
      have hg' : (r.any (· == c)) = false := hg
      rw [List.any_eq_false] at hg'
      have := hg' x hx
      simpa using this
    unfold popS
    show (if (a == c) = true then r else a :: r) = _
    rw [List.filter_cons, hr]
    cases h : a == c <;> simp
section
variable {N : Nat} {R : Int → Int → Bool} {bel : List (List Int)} {ms : Int → Nat}
theorem up2_nodup (O : Ord N R bel ms) {l : List Int} (h : Up2 R l) : l.Nodup := by
  unfold Up2 at h
  rw [List.nodup_iff_pairwise_ne]
  exact h.imp fun {a b} r e => by rw [e, O.irr] at r; cases r
abbrev sing (N : Nat) : List (List Int) := (rangeL 0 N).map fun k => [k]
abbrev orig (N : Nat) (bel : List (List Int)) : List (List Int) := sing N ++ linesF (underF bel)
theorem orig_ok (O : Ord N R bel ms) {s : List Int} (h : s ∈ orig N bel) : Up2 R s ∧ InB N s := by
  rcases List.mem_append.mp h with h | h
  · obtain ⟨k, hk, rfl⟩ := List.mem_map.mp h
    exact ⟨List.pairwise_singleton _ _, fun i hi => by rw [List.mem_singleton.mp hi]; exact mem_rangeL.mp hk⟩
  · obtain ⟨k, m, hk, hu, rfl⟩ := (linesF_mem O).mp h
    exact ⟨(rowF_ok O hk hu).1, (rowF_ok O hk hu).2.1⟩
theorem good_iff (O : Ord N R bel ms) {p : Int → Bool} (U : UpC N R p) {k : Int} (hk : k ∈ lf N p) : goodC (neS ((orig N bel).map (List.filter p))) k = freeP R (lf N p) k := by
  rw [Bool.eq_iff_iff, freeP_iff]
  unfold goodC
  rw [List.all_eq_true]
  obtain ⟨hkb, hkp⟩ := mem_lf.mp hk
  constructor
  · intro h m hm
    obtain ⟨hmb, hmp⟩ := mem_lf.mp hm
    cases hr : R m k with
    | false => rfl
    | true =>
      obtain ⟨m', hb, hmk, hP, hno⟩ := O.cover (P := fun m => (0 ≤ m ∧ m < (N : Int)) ∧ p m = true) hmb hr ⟨hmb, hmp⟩ (fun a b b0 b1 ha hab => ⟨⟨b0, b1⟩, U a b ha.1 ⟨b0, b1⟩ ha.2 hab⟩)
      have hu : Und N R m' k := ⟨hb, hmk, hno⟩
      obtain ⟨_, _, u, e⟩ := rowF_ok O hkb hu
      have hf : (rowF (underF bel) k m').filter p = u.filter p ++ m' :: [k] := by rw [e, List.filter_append]; simp [hP.2, hkp]
      have hmem : (rowF (underF bel) k m').filter p ∈ neS ((orig N bel).map (List.filter p)) := mem_neS.mpr ⟨List.mem_map_of_mem (List.mem_append_right _ ((linesF_mem O).mpr ⟨k, m', hkb, hu, rfl⟩)), by rw [hf]; simp⟩
      have hg := h _ hmem
      rw [hf] at hg
      have : ((u.filter p ++ m' :: [k]).tail.any fun x => x == k) = true := by rw [List.any_eq_true]; exact ⟨k, mem_tail_app (.head _), by simp⟩
      rw [this] at hg
      cases hg
  · intro h s hs
    obtain ⟨hs, hne⟩ := mem_neS.mp hs
    obtain ⟨t, ht, rfl⟩ := List.mem_map.mp hs
    obtain ⟨up, inb⟩ := orig_ok O ht
    have up' : Up2 R (t.filter p) := List.Pairwise.sublist List.filter_sublist up
    have sub : ∀ x ∈ t.filter p, x ∈ lf N p := fun x hx => mem_lf.mpr ⟨inb x (List.mem_filter.mp hx).1, (List.mem_filter.mp hx).2⟩
    generalize t.filter p = s at *
    cases s with
    | nil => exact absurd rfl hne
    | cons a r =>
      show (!(r.any (· == k))) = true
      cases hany : r.any (· == k) with
      | false => rfl
      | true =>
        rw [List.any_eq_true] at hany
        obtain ⟨x, hx, e⟩ := hany
        have : x = k := by simpa using e
        subst this
        have := (List.pairwise_cons.mp up').1 x hx
        rw [h a (sub a (.head _))] at this
        cases this
theorem cand_eq (O : Ord N R bel ms) {p : Int → Bool} (U : UpC N R p) (hne : lf N p ≠ []) : candF (neS ((orig N bel).map (List.filter p))) = some ((freeF (lf N p) bel).headD 0) := by
  unfold candF
  have e1 : (neS ((orig N bel).map (List.filter p))).map (·.headD 0) = lf N p ++ (neS ((linesF (underF bel)).map (List.filter p))).map (·.headD 0) := by
    rw [List.map_append, neS_app, neS_singles, List.map_append, List.map_map]
    congr 1
    exact List.map_id' _
  rw [e1, List.find?_append]
  have e2 : (lf N p).find? (goodC (neS ((orig N bel).map (List.filter p)))) = some ((freeF (lf N p) bel).headD 0) := by
    rw [← List.head?_filter, List.filter_congr (q := freeP R (lf N p)) (fun k hk => good_iff O U hk), ← O.freeF_eq lf_inB]
    have := O.free_ne hne lf_inB
    cases h : freeF (lf N p) bel with
    | nil => exact absurd h this
    | cons a r => rfl
  rw [e2]
  rfl
theorem merge_go (O : Ord N R bel ms) : ∀ (f : Nat) (p : Int → Bool) (ss : List (List Int)) (acc : List Int), UpC N R p → (lf N p).length < f → neS ss = neS ((orig N bel).map (List.filter p)) → mergeGo f ss acc = some (orderGo bel (lf N p).length (lf N p) acc)
  | 0, _, _, _, _, h, _ => absurd h (Nat.not_lt_zero _)
  | f + 1, p, ss, acc, U, h, e => by
    unfold mergeGo
    rw [e]
    by_cases hl : lf N p = []
    · have hn : neS ((orig N bel).map (List.filter p)) = [] := by
        rw [List.eq_nil_iff_forall_not_mem]
        intro s hs
        obtain ⟨hs, hne⟩ := mem_neS.mp hs
        obtain ⟨t, ht, rfl⟩ := List.mem_map.mp hs
        obtain ⟨x, r, hx⟩ := List.exists_cons_of_ne_nil hne
        have hm : x ∈ t.filter p := by rw [hx]; exact .head _
        have : x ∈ lf N p := mem_lf.mpr ⟨(orig_ok O ht).2 x (List.mem_filter.mp hm).1, (List.mem_filter.mp hm).2⟩
        rw [hl] at this
        cases this
      rw [if_pos hn, hl]
      rfl
    · have hn : neS ((orig N bel).map (List.filter p)) ≠ [] := by
        obtain ⟨x, r, hx⟩ := List.exists_cons_of_ne_nil hl
        intro q
        have hm : [x] ∈ neS ((orig N bel).map (List.filter p)) := by
          rw [List.map_append, neS_app, neS_singles]
          exact List.mem_append_left _ (List.mem_map.mpr ⟨x, by rw [show List.filter p (rangeL 0 N) = x :: r from hx]; exact .head _, rfl⟩)
        rw [q] at hm
        cases hm
      rw [if_neg hn, cand_eq O U hl]
      dsimp only
      obtain ⟨hc, hfree⟩ := head_free O hl
      have hlen := lf_cut_len hc
      obtain ⟨n, hnn⟩ : ∃ n, (lf N p).length = n + 1 := ⟨_, hlen.symm⟩
      have e3 : orderGo bel (lf N p).length (lf N p) acc = orderGo bel (lf N (cut p ((freeF (lf N p) bel).headD 0))).length (lf N (cut p ((freeF (lf N p) bel).headD 0))) (acc ++ [(freeF (lf N p) bel).headD 0]) := by
        rw [hnn, orderGo, lf_erase, show n = (lf N (cut p ((freeF (lf N p) bel).headD 0))).length by grind]
      have gi := good_iff O U hc
      rw [freeP_iff.mpr hfree] at gi
      rw [e3]
      generalize (freeF (lf N p) bel).headD 0 = c at *
      refine merge_go O f (cut p c) _ _ (upC_cut U hfree) (by grind) ?_
      rw [neS_map (popS_nil c), List.map_map]
      congr 1
      apply List.map_congr_left
      intro s hs
      show popS c (s.filter p) = s.filter (cut p c)
      have up' : Up2 R (s.filter p) := List.Pairwise.sublist List.filter_sublist (orig_ok O hs).1
      refine popS_cut (up2_nodup O up') ?_
      unfold goodC at gi
      rw [List.all_eq_true] at gi
      by_cases hne : s.filter p = []
      · rw [hne]; rfl
      · have := gi _ (mem_neS.mpr ⟨List.mem_map_of_mem hs, hne⟩)
        simpa using this
theorem lf_all : lf N (fun _ => true) = rangeL 0 N := by unfold lf; exact List.filter_eq_self.mpr fun _ _ => rfl
theorem length_le_total : ∀ {l : List Int} {ss : List (List Int)}, l.length ≤ totalL ((l.map fun k => [k]) ++ ss)
  | [], _ => Nat.zero_le _
  | a :: r, ss => by
    have := length_le_total (l := r) (ss := ss)
    unfold totalL at *
    simp only [List.map_cons, List.cons_append, List.sum_cons, List.length_cons, List.length_nil] at *
    grind
theorem merge_order (O : Ord N R bel ms) : mergeF (mergeIn (underF bel) []) = some (orderF bel) := by
  unfold mergeF
  have e : mergeIn (underF bel) [] = orig N bel := by unfold mergeIn; rw [List.append_nil, under_len O]
  rw [e, merge_go O _ (fun _ => true) _ _ (fun _ _ _ _ _ _ => rfl) ?_ ?_]
  · unfold orderF
    rw [lf_all, rangeL_length, O.len]
    congr 2
  · rw [lf_all]
    exact Nat.lt_succ_of_le length_le_total
  · congr 1
    refine (List.map_id' _).symm.trans ?_
    apply List.map_congr_left
    intro s _
    exact (List.filter_eq_self.mpr fun _ _ => rfl).symm
end
end Mine
end
section
set_option Elab.async false
set_option autoImplicit false
namespace Mine
theorem max0_ge {hs : List Int} {x : Int} (h : x ∈ hs) : x ≤ max0 hs := (foldl_max_ge hs 0).2.1 x h
theorem max0_nn (hs : List Int) : 0 ≤ max0 hs := (foldl_max_ge hs 0).1
theorem max0_in (hs : List Int) : max0 hs = 0 ∨ max0 hs ∈ hs := (foldl_max_ge hs 0).2.2
theorem max0_congr {a b : List Int} (h : ∀ x, x ∈ a ↔ x ∈ b) : max0 a = max0 b := by
  refine max0_unique ?_ fun x hx => ?_
  · rcases max0_in a with e | e
    · rw [e]; exact .head _
    · exact .tail _ ((h _).mp e)
  · rcases List.mem_cons.mp hx with rfl | hx
    · exact max0_nn a
    · exact max0_ge ((h x).mpr hx)
/-- the height, by fuel -/
def htF (N : Nat) (R : Int → Int → Bool) : Nat → Int → Int
  | 0, _ => 0
  | f + 1, k => 1 + max0 (((rangeL 0 N).filter fun m => R m k).map (htF N R f))
def hgt (N : Nat) (R : Int → Int → Bool) (ms : Int → Nat) (k : Int) : Int := htF N R (ms k + 1) k
section
variable {N : Nat} {R : Int → Int → Bool} {bel : List (List Int)} {ms : Int → Nat}
theorem ht_fix (O : Ord N R bel ms) : ∀ (n : Nat) (k : Int) (f : Nat), ms k ≤ n → ms k < f → htF N R f k = hgt N R ms k
  | n, k, 0, _, h => absurd h (Nat.not_lt_zero _)
  | n, k, f + 1, hn, h => by
    unfold hgt
    unfold htF
    congr 2
    apply List.map_congr_left
    intro m hm
    have hr : R m k = true := (List.mem_filter.mp hm).2
    have hlt := O.up m k hr
    cases n with
    | zero => grind
    | succ n => rw [ht_fix O n m f (by grind) (by grind), ht_fix O n m (ms k) (by grind) hlt]
theorem hgt_eq (O : Ord N R bel ms) (k : Int) : hgt N R ms k = 1 + max0 (((rangeL 0 N).filter fun m => R m k).map (hgt N R ms)) := by
  show htF N R (ms k + 1) k = _
  rw [htF]
  congr 2
  apply List.map_congr_left
  intro m hm
  have hr : R m k = true := (List.mem_filter.mp hm).2
  exact ht_fix O _ m (ms k) (Nat.le_refl _) (O.up m k hr)
theorem hgt_pos (O : Ord N R bel ms) (k : Int) : 1 ≤ hgt N R ms k := by rw [hgt_eq O]; have := max0_nn (((rangeL 0 N).filter fun m => R m k).map (hgt N R ms)); grind
abbrev hrow (N : Nat) (R : Int → Int → Bool) (ms : Int → Nat) (k : Int) : List Int := [k, hgt N R ms k]

/-! turns -/
theorem turns_free (O : Ord N R bel ms) {t : Int} (ht : 1 ≤ t) : freeF (lf N fun k => decide (t ≤ hgt N R ms k)) bel = (lf N fun k => decide (t ≤ hgt N R ms k)).filter fun k => decide (hgt N R ms k = t) := by
  rw [O.freeF_eq lf_inB]
  apply List.filter_congr
  intro k hk
  obtain ⟨hb, hp⟩ := mem_lf.mp hk
  have hp : t ≤ hgt N R ms k := by simpa using hp
  rw [Bool.eq_iff_iff, freeP_iff, decide_eq_true_iff]
  have he := hgt_eq O k
  constructor
  · intro h
    rcases max0_in (((rangeL 0 N).filter fun m => R m k).map (hgt N R ms)) with e | e
    · grind
    · obtain ⟨m, hm, e'⟩ := List.mem_map.mp e
      obtain ⟨hm1, hm2⟩ := List.mem_filter.mp hm
      by_cases c : t ≤ hgt N R ms m
      · have := h m (mem_lf.mpr ⟨mem_rangeL.mp hm1, by simpa using c⟩)
        rw [this] at hm2; cases hm2
      · grind
  · intro h m hm
    obtain ⟨hmb, hmp⟩ := mem_lf.mp hm
    have hmp : t ≤ hgt N R ms m := by simpa using hmp
    cases hr : R m k with
    | false => rfl
    | true =>
      have := max0_ge (List.mem_map_of_mem (f := hgt N R ms) (List.mem_filter.mpr ⟨mem_rangeL.mpr hmb, hr⟩ : m ∈ (rangeL 0 N).filter fun m => R m k))
      grind
theorem turns_next (O : Ord N R bel ms) {t : Int} (ht : 1 ≤ t) : ((lf N fun k => decide (t ≤ hgt N R ms k)).filter fun k => !((freeF (lf N fun k => decide (t ≤ hgt N R ms k)) bel).any (· == k))) = lf N fun k => decide (t + 1 ≤ hgt N R ms k) := by
  rw [turns_free O ht]
  show _ = (rangeL 0 N).filter _
  rw [List.filter_filter]
  apply List.filter_congr
  intro k hk
  have key : (((lf N fun k => decide (t ≤ hgt N R ms k)).filter fun k => decide (hgt N R ms k = t)).any (· == k)) = decide (hgt N R ms k = t) := by
    rw [Bool.eq_iff_iff, List.any_eq_true, decide_eq_true_iff]
    constructor
    · rintro ⟨x, hx, e⟩
      have : x = k := by simpa using e
      subst this
      simpa using (List.mem_filter.mp hx).2
    · intro e
      exact ⟨k, List.mem_filter.mpr ⟨mem_lf.mpr ⟨mem_rangeL.mp hk, by simp; grind⟩, by simpa using e⟩, by simp⟩
  rw [key]
  by_cases c : hgt N R ms k = t
  · simp [c]; grind
  · by_cases d : t ≤ hgt N R ms k
    · simp [c, d]; grind
    · simp [d]; grind
theorem turns_go (O : Ord N R bel ms) : ∀ (f : Nat) (t : Int) (acc : List (List Int)), 1 ≤ t → (lf N fun k => decide (t ≤ hgt N R ms k)).length ≤ f →
    (turnsGo bel f t (lf N fun k => decide (t ≤ hgt N R ms k)) acc).Perm (acc ++ (lf N fun k => decide (t ≤ hgt N R ms k)).map (hrow N R ms))
  | 0, t, acc, _, h => by
    rw [List.length_eq_zero_iff.mp (Nat.le_zero.mp h)]
    simp [turnsGo]
  | f + 1, t, acc, ht, h => by
    unfold turnsGo
    by_cases hl : (lf N fun k => decide (t ≤ hgt N R ms k)) = []
    · rw [if_pos hl, hl]; simp
    · rw [if_neg hl]
      have hsh := left_shrinks (O.free_ne hl lf_inB)
      rw [turns_next O ht] at hsh ⊢
      refine (turns_go O f (t + 1) _ (by grind) (by grind)).trans ?_
      rw [List.append_assoc]
      refine List.Perm.append_left acc ?_
      have e1 : (freeF (lf N fun k => decide (t ≤ hgt N R ms k)) bel).map (fun k => [k, t]) = ((lf N fun k => decide (t ≤ hgt N R ms k)).filter fun k => decide (hgt N R ms k = t)).map (hrow N R ms) := by
        rw [turns_free O ht]
        apply List.map_congr_left
        intro k hk
        have : hgt N R ms k = t := by simpa using (List.mem_filter.mp hk).2
        rw [hrow, this]
      rw [e1, ← List.map_append]
      refine List.Perm.map _ ?_
      have e2 : (lf N fun k => decide (t + 1 ≤ hgt N R ms k)) = (lf N fun k => decide (t ≤ hgt N R ms k)).filter fun k => !decide (hgt N R ms k = t) := by
        show (rangeL 0 N).filter _ = _
        rw [List.filter_filter]
        apply List.filter_congr
        intro k _
        by_cases c : hgt N R ms k = t
        · simp [c]; grind
        · by_cases d : t ≤ hgt N R ms k
          · simp [c, d]; grind
          · simp [d]; grind
      rw [e2]
      exact List.filter_append_perm _ _
theorem turns_perm (O : Ord N R bel ms) : (turnsF bel).Perm ((rangeL 0 N).map (hrow N R ms)) := by
  unfold turnsF
  have e : (lf N fun k => decide (1 ≤ hgt N R ms k)) = rangeL 0 N := List.filter_eq_self.mpr fun k _ => by simpa using hgt_pos O k
  have h := turns_go O bel.length 1 [] (Int.le_refl _) (by rw [e, rangeL_length, O.len]; exact Nat.le_refl _)
  rw [e] at h
  rw [O.len] at *
  exact h

/-! heights -/
theorem heights_go (O : Ord N R bel ms) {L : List Ws} (hless : ∀ m k : Int, (0 ≤ m ∧ m < (N : Int)) → (0 ≤ k ∧ k < (N : Int)) → lessF (L.getD m.toNat ⟨0, 0, [], 0⟩) (L.getD k.toNat ⟨0, 0, [], 0⟩) = R m k) :
    ∀ (n : Nat) (p : Int → Bool) (done : List Int), (lf N p).length = n → (∀ m : Int, m ∈ done ↔ (0 ≤ m ∧ m < (N : Int)) ∧ p m = false) →
      (orderGo bel n (lf N p) []).foldl (stepF L) (done.map (hrow N R ms)) = (done ++ orderGo bel n (lf N p) []).map (hrow N R ms)
  | 0, p, done, _, _ => by simp [orderGo]
  | n + 1, p, done, h, hd => by
    have hne : lf N p ≠ [] := fun e => by rw [e] at h; cases h
    obtain ⟨hc, hfree⟩ := head_free O hne
    unfold orderGo
    rw [orderGo_acc]
    generalize (freeF (lf N p) bel).headD 0 = c at *
    have hlen := lf_cut_len hc
    obtain ⟨hcb, hcp⟩ := mem_lf.mp hc
    rw [lf_erase]
    rw [List.nil_append, List.singleton_append, List.foldl_cons]
    have e1 : stepF L (done.map (hrow N R ms)) c = (done ++ [c]).map (hrow N R ms) := by
      unfold stepF
      rw [List.map_append]
      congr 1
      show [[c, _]] = [[c, hgt N R ms c]]
      rw [hgt_eq O c]
      congr 4
      refine max0_congr fun x => ?_
      unfold hOf
      rw [List.mem_map, List.mem_map]
      constructor
      · rintro ⟨r, hr, rfl⟩
        obtain ⟨hr1, hr2⟩ := List.mem_filter.mp hr
        obtain ⟨m, hm, rfl⟩ := List.mem_map.mp hr1
        have hmb := ((hd m).mp hm).1
        refine ⟨m, List.mem_filter.mpr ⟨mem_rangeL.mpr hmb, ?_⟩, rfl⟩
        rw [← hless m c hmb hcb]
        exact hr2
      · rintro ⟨m, hm, rfl⟩
        obtain ⟨hm1, hm2⟩ := List.mem_filter.mp hm
        have hmb := mem_rangeL.mp hm1
        refine ⟨hrow N R ms m, List.mem_filter.mpr ⟨List.mem_map_of_mem ((hd m).mpr ⟨hmb, ?_⟩), ?_⟩, rfl⟩
        · cases hp : p m with
          | false => rfl
          | true =>
            rw [hfree m (mem_lf.mpr ⟨hmb, hp⟩)] at hm2
            cases hm2
        · show lessF (L.getD m.toNat ⟨0, 0, [], 0⟩) (L.getD c.toNat ⟨0, 0, [], 0⟩) = true
          rw [hless m c hmb hcb]
          exact hm2
    rw [e1, heights_go O hless n (cut p c) (done ++ [c]) (by grind) ?_]
    · simp
    · intro m
      rw [List.mem_append, hd, List.mem_singleton]
      unfold cut
      constructor
      · rintro (⟨hb, hp⟩ | rfl)
        · exact ⟨hb, by simp [hp]⟩
        · exact ⟨hcb, by simp⟩
      · rintro ⟨hb, hp⟩
        by_cases e : m = c
        · exact .inr e
        · refine .inl ⟨hb, ?_⟩
          simpa [e] using hp
theorem heights_eq (O : Ord N R bel ms) {L : List Ws} (hless : ∀ m k : Int, (0 ≤ m ∧ m < (N : Int)) → (0 ≤ k ∧ k < (N : Int)) → lessF (L.getD m.toNat ⟨0, 0, [], 0⟩) (L.getD k.toNat ⟨0, 0, [], 0⟩) = R m k) :
    heightsF L (orderF bel) = (orderF bel).map (hrow N R ms) := by
  have e : (lf N fun _ => true).length = bel.length := by rw [lf_all, rangeL_length, O.len]; grind
  have h := heights_go O hless bel.length (fun _ => true) [] e (fun m => by simp)
  rw [lf_all] at h
  unfold heightsF orderF
  rw [O.len] at *
  exact h
theorem order_perm' (O : Ord N R bel ms) : (orderF bel).Perm (rangeL 0 N) := by
  have e : (lf N fun _ => true).length = bel.length := by rw [lf_all, rangeL_length, O.len]; grind
  have h := order_perm O bel.length (fun _ => true) e
  rw [lf_all] at h
  unfold orderF
  rw [O.len] at *
  exact h
end
end Mine
end
section
set_option Elab.async false
set_option autoImplicit false
set_option maxRecDepth 100000
namespace Mine
theorem mem_rangeL2 {a b i : Int} : i ∈ rangeL a b ↔ a ≤ i ∧ i < b := by
  constructor
  · exact rangeL_mem
  · rintro ⟨h0, h1⟩
    unfold rangeL
    refine List.mem_map.mpr ⟨(i - a).toNat, List.mem_range.mpr (by grind), by grind⟩
abbrev colA (l : List Nat) (s : Int) : Int := (columnsF l).getD (s - 1).toNat 0
def leadOk (l : List Nat) : Bool :=
  decide ((wsOf l).cnt.length ≤ 7) && decide (0 ≤ (wsOf l).b) && decide ((wsOf l).b ≤ 6) && decide (0 ≤ (wsOf l).nt) && decide ((wsOf l).n = colA l 1) && decide (0 ≤ colA l 1)
    && (rangeL 2 8).all (fun s => decide (indentF (wsOf l) s = colA l s))
    && (rangeL 1 8).all (fun s => !decide (longestF (wsOf l) < s) || decide (colA l s = (wsOf l).b + s * (wsOf l).nt))
    && (rangeL 1 8).all (fun s => !decide ((wsOf l).cnt.length ≤ 1) || decide (colA l s = (wsOf l).b + s * (wsOf l).nt))
theorem leads_ok : ∀ a < 3, ∀ b < 2, ∀ c < 3, ∀ d < 3, ∀ e < 3, leadOk (leadL a b c d e) = true := by decide +kernel
theorem leadOf_ok (x : Int) : leadOk (leadOf x) = true := by
  unfold leadOf
  have f1 := @fm x 3 (by decide)
  have f2 := @fm (x.fdiv 3) 2 (by decide)
  have f3 := @fm (x.fdiv 6) 3 (by decide)
  have f4 := @fm (x.fdiv 18) 3 (by decide)
  have f5 := @fm (x.fdiv 54) 3 (by decide)
  exact leads_ok _ ((Int.toNat_lt f1.1).mpr f1.2) _ ((Int.toNat_lt f2.1).mpr f2.2) _ ((Int.toNat_lt f3.1).mpr f3.2) _ ((Int.toNat_lt f4.1).mpr f4.2) _ ((Int.toNat_lt f5.1).mpr f5.2)
structure LeadOk (l : List Nat) : Prop where
  len : (wsOf l).cnt.length ≤ 7
  b0 : 0 ≤ (wsOf l).b
  b6 : (wsOf l).b ≤ 6
  t0 : 0 ≤ (wsOf l).nt
  n : (wsOf l).n = colA l 1
  c0 : 0 ≤ colA l 1
  ind : ∀ s, 2 ≤ s → s ≤ 7 → indentF (wsOf l) s = colA l s
  lin : ∀ s, 1 ≤ s → s ≤ 7 → longestF (wsOf l) < s → colA l s = (wsOf l).b + s * (wsOf l).nt
  sim : (wsOf l).cnt.length ≤ 1 → ∀ s, 1 ≤ s → s ≤ 7 → colA l s = (wsOf l).b + s * (wsOf l).nt
theorem LeadOk.of {l : List Nat} (h : leadOk l = true) : LeadOk l := by
  unfold leadOk at h
  simp only [Bool.and_eq_true, decide_eq_true_eq, List.all_eq_true, Bool.or_eq_true, Bool.not_eq_true', decide_eq_false_iff_not] at h
  obtain ⟨⟨⟨⟨⟨⟨⟨⟨h1, h2⟩, h3⟩, h4⟩, h5⟩, h6⟩, h7⟩, h8⟩, h9⟩ := h
  refine ⟨h1, h2, h3, h4, h5, h6, fun s a b => h7 s (mem_rangeL2.mpr ⟨a, by exact Int.lt_of_le_of_lt (by assumption) (by decide)⟩), fun s a b c => ?_, fun c s a b => ?_⟩
  · exact (h8 s (mem_rangeL2.mpr ⟨a, by exact Int.lt_of_le_of_lt (by assumption) (by decide)⟩)).resolve_left fun q => q c
  · exact (h9 s (mem_rangeL2.mpr ⟨a, by exact Int.lt_of_le_of_lt (by assumption) (by decide)⟩)).resolve_left fun q => q c
theorem LeadOk.ok {l : List Nat} (h : LeadOk l) : (wsOf l).Ok := ⟨by have := h.len; exact Nat.le_trans (by assumption) (by decide), h.b0, by have := h.b6; exact Int.le_trans (by assumption) (by decide)⟩
theorem notLeft_iff {xs ys : List Int} : notLeft xs ys = [] ↔ ∀ i : Int, 0 ≤ i → i < 7 → xs.getD i.toNat 0 < ys.getD i.toNat 0 := by
  unfold notLeft
  rw [List.filter_eq_nil_iff]
  constructor
  · intro h i h0 h1
    have := h i (mem_rangeL2.mpr ⟨h0, h1⟩)
    rw [decide_eq_true_eq] at this
    grind
  · intro h i hi
    obtain ⟨h0, h1⟩ := mem_rangeL2.mp hi
    have := h i h0 h1
    rw [decide_eq_true_eq]
    grind
theorem notLeft_cols {l l' : List Nat} : notLeft (columnsF l) (columnsF l') = [] ↔ ∀ s : Int, 1 ≤ s → s ≤ 7 → colA l s < colA l' s := by
  rw [notLeft_iff]
  constructor
  · intro h s h0 h1
    exact h (s - 1) (by grind) (by grind)
  · intro h i h0 h1
    have := h (i + 1) (by grind) (by assumption)
    unfold colA at this
    rw [show i + 1 - 1 = i by grind] at this
    exact this
theorem mul_mono {s a b : Int} (hs : 0 ≤ s) (h : a ≤ b) : s * a ≤ s * b := Int.mul_le_mul_of_nonneg_left h hs
/-- less is farther left at every size -/
theorem pair_law {l l' : List Nat} (h : LeadOk l) (h' : LeadOk l') : lessF (wsOf l) (wsOf l') = decide (notLeft (columnsF l) (columnsF l') = []) := by
  rw [Bool.eq_iff_iff, decide_eq_true_iff, notLeft_cols]
  have hn := h.n
  have hn' := h'.n
  have lg : longestF (wsOf l) = max (((wsOf l).cnt.length : Int) - 1) (wsOf l).b := rfl
  have lg' : longestF (wsOf l') = max (((wsOf l').cnt.length : Int) - 1) (wsOf l').b := rfl
  have e1 := h.len
  have e2 := h'.len
  have e3 := h.b6
  have e4 := h'.b6
  have e5 := h.b0
  have e6 := h'.b0
  unfold lessF
  by_cases hle : (wsOf l').n ≤ (wsOf l).n
  · rw [if_pos hle]
    constructor
    · intro q; cases q
    · intro q
      have := q 1 (by decide) (by decide)
      grind
  rw [if_neg hle]
  by_cases hs : (wsOf l).cnt.length ≤ 1 ∧ (wsOf l').cnt.length ≤ 1
  · have hs1 := h.sim hs.1
    have hs2 := h'.sim hs.2
    rw [if_pos (by simp [hs.1, hs.2]), decide_eq_true_iff]
    constructor
    · intro q s s1 s7
      have := hs1 1 (by decide) (by decide)
      have := hs2 1 (by decide) (by decide)
      rw [hs1 s s1 s7, hs2 s s1 s7]
      have q2 := mul_mono (s := s - 1) (by grind) q
      rw [Int.sub_mul, Int.sub_mul] at q2
      grind
    · intro q
      have q7 := q 7 (by decide) (by decide)
      rw [hs1 7 (by decide) (by decide), hs2 7 (by decide) (by decide)] at q7
      grind
  · rw [if_neg (by simpa using hs), List.all_eq_true]
    generalize hM : max (longestF (wsOf l)) (longestF (wsOf l')) = M
    have m6 : M ≤ 6 := by grind
    have m1 : 1 ≤ M := by grind
    have ma : longestF (wsOf l) ≤ M := by grind
    have mb : longestF (wsOf l') ≤ M := by grind
    constructor
    · intro q s s1 s7
      have qq : ∀ ts : Int, 2 ≤ ts → ts ≤ M + 1 → colA l ts < colA l' ts := fun ts a b => by
        have := q ts (mem_rangeL2.mpr ⟨a, by grind⟩)
        rw [h.ind ts a (by grind), h'.ind ts a (by grind)] at this
        simp only [Bool.not_eq_true', decide_eq_false_iff_not] at this
        grind
      by_cases c1 : s = 1
      · subst c1; grind
      by_cases c2 : s ≤ M + 1
      · exact qq s (by grind) c2
      have qM := qq (M + 1) (by grind) (by grind)
      rw [h.lin (M + 1) (by grind) (by exact Int.lt_of_le_of_lt (by assumption) (by decide)) (by grind), h'.lin (M + 1) (by grind) (by exact Int.lt_of_le_of_lt (by assumption) (by decide)) (by grind)] at qM
      rw [h.lin s s1 s7 (by grind), h'.lin s s1 s7 (by grind)]
      have hnt : (wsOf l).nt ≤ (wsOf l').nt := by
        by_cases c3 : (wsOf l).nt ≤ (wsOf l').nt
        · exact c3
        · have q3 := mul_mono (s := M + 1) (a := (wsOf l').nt + 1) (b := (wsOf l).nt) (by grind) (by grind)
          rw [Int.mul_add] at q3
          grind
      have q2 := mul_mono (s := s - (M + 1)) (by grind) hnt
      rw [Int.sub_mul, Int.sub_mul] at q2
      grind
    · intro q ts hts
      obtain ⟨a, b⟩ := mem_rangeL2.mp hts
      rw [h.ind ts a (by grind), h'.ind ts a (by grind)]
      have := q ts (by exact Int.le_of_lt (by assumption)) (by grind)
      simp only [Bool.not_eq_true', decide_eq_false_iff_not]
      grind
end Mine
end
section
set_option Elab.async false
set_option autoImplicit false
set_option maxRecDepth 100000
namespace Mine
def leftR (cols : List (List Int)) (m k : Int) : Bool := decide (notLeft (cols.getD m.toNat []) (cols.getD k.toNat []) = [])
def msC (cols : List (List Int)) (k : Int) : Nat := ((cols.getD k.toNat []).getD 0 0).toNat
theorem getD_map {α β : Type} {f : α → β} {l : List α} {i : Nat} {d : β} {d' : α} (h : i < l.length) : (l.map f).getD i d = f (l.getD i d') := by
  simp [List.getD, List.getElem?_map, List.getElem?_eq_getElem h]
theorem getD_rangeL {N : Nat} {k : Int} (h0 : 0 ≤ k) (h1 : k < N) : (rangeL 0 N).getD k.toNat 0 = k := by
  have hl : k.toNat < (rangeL 0 (N : Int)).length := by rw [rangeL_length]; exact (Int.toNat_lt (by assumption)).mpr (by assumption)
  have := getD_some (d := 0) hl
  have := (rangeL_get this).1
  grind
theorem ord_of {cols : List (List Int)} (hc : ∀ c ∈ cols, 0 ≤ c.getD 0 0) : Ord cols.length (leftR cols) (belowF cols) (msC cols) where
  len := belowF_len cols
  row := fun k h0 h1 => by
    have hl : k.toNat < (rangeL 0 (cols.length : Int)).length := by rw [rangeL_length]; exact (Int.toNat_lt (by assumption)).mpr (by assumption)
    unfold belowF
    rw [getD_map (d' := 0) hl, getD_rangeL h0 h1]
    rfl
  tr := fun a b c h1 h2 => by
    unfold leftR at *
    rw [decide_eq_true_iff, notLeft_iff] at *
    intro i h0 h7
    have := h1 i h0 h7
    have := h2 i h0 h7
    grind
  up := fun a b h => by
    unfold leftR at h
    rw [decide_eq_true_iff, notLeft_iff] at h
    have h1 := h 0 (by decide) (by decide)
    have h0 : 0 ≤ (cols.getD a.toNat []).getD 0 0 := by
      by_cases hl : a.toNat < cols.length
      · exact hc _ (List.mem_of_getElem? (getD_some hl))
      · have e : cols.getD a.toNat [] = [] := by
          rw [List.getD_eq_getElem?_getD, List.getElem?_eq_none (Nat.le_of_not_lt hl)]
          rfl
        rw [e]
        decide
    unfold msC
    have e : (0 : Int).toNat = 0 := rfl
    rw [e] at h1
    grind
theorem textsL_ok {xs : List Int} {l : List Nat} (h : l ∈ textsL xs) : LeadOk l := by
  obtain ⟨x, _, rfl⟩ := List.mem_map.mp h
  exact LeadOk.of (leadOf_ok _)
theorem less_R {xs : List Int} {m k : Int} (hm : 0 ≤ m ∧ m < ((colsL xs).length : Int)) (hk : 0 ≤ k ∧ k < ((colsL xs).length : Int)) :
    lessF ((wsL xs).getD m.toNat ⟨0, 0, [], 0⟩) ((wsL xs).getD k.toNat ⟨0, 0, [], 0⟩) = leftR (colsL xs) m k := by
  have cl : (colsL xs).length = (textsL xs).length := List.length_map _
  have m1 : m.toNat < (textsL xs).length := by grind
  have k1 : k.toNat < (textsL xs).length := by grind
  unfold leftR
  rw [getD_map (d' := []) m1, getD_map (d' := []) k1, getD_map (d' := []) m1, getD_map (d' := []) k1]
  exact pair_law (textsL_ok (List.mem_of_getElem? (getD_some m1))) (textsL_ok (List.mem_of_getElem? (getD_some k1)))
theorem getD_app {α : Type} {a b : List α} {i : Nat} {d : α} : (a ++ b).getD (a.length + i) d = b.getD i d := by
  simp [List.getD, List.getElem?_append_right]
theorem last_four (xs : List Int) : ∃ A : List (List Int), colsL xs = A ++ [columnsF (leadOf 22), columnsF (leadOf 2), columnsF (leadOf 3), columnsF (leadOf 0)] := by
  refine ⟨((xs.take 6).map fun x => leadOf (x.fmod 1000000)).map columnsF, ?_⟩
  unfold colsL textsL scriptL
  rw [List.map_append, List.map_append]
  rfl
theorem facts (xs : List Int) : Facts xs := by
  have cl : (colsL xs).length = (textsL xs).length := List.length_map _
  have wl : (wsL xs).length = (textsL xs).length := List.length_map _
  have O : Ord (colsL xs).length (leftR (colsL xs)) (belL xs) (msC (colsL xs)) := ord_of fun c hc => by
    obtain ⟨l, hl, rfl⟩ := List.mem_map.mp hc
    exact (textsL_ok hl).c0
  have bl : (belL xs).length = (colsL xs).length := O.len
  have hh := heights_eq O (L := wsL xs) fun m k hm hk => less_R hm hk
  have op := order_perm' O
  have tp := turns_perm O
  have hd0 : ∀ l : List Int, (l.map (hrow (colsL xs).length (leftR (colsL xs)) (msC (colsL xs)))).map (·.headD 0) = l := fun l => by
    rw [List.map_map]; exact List.map_id' l
  have nd := rangeL_nodup 0 ((colsL xs).length : Int)
  refine ⟨?_, ?_, ?_, merge_order O, ?_, ?_, ?_, ?_, ?_, ?_, ?_, ?_⟩
  · intro W hW
    obtain ⟨l, hl, rfl⟩ := List.mem_map.mp hW
    exact (textsL_ok hl).ok
  · unfold lesserF belL belowF
    rw [wl, ← cl]
    apply List.map_congr_left
    intro k hk
    unfold lessRow leftRow
    apply List.filter_congr
    intro m hm
    exact less_R (mem_rangeL.mp hm) (mem_rangeL.mp hk)
  · intro left hne hb
    rw [bl] at hb
    exact O.free_ne hne hb
  · have t4 := textsL_four xs
    obtain ⟨A, hA⟩ := last_four xs
    have hl : (colsL xs).length = A.length + 4 := by rw [hA]; simp
    rw [← cl]
    refine merge_refused O ⟨by grind, by grind⟩ ⟨by grind, by grind⟩ ?_
    unfold leftR
    rw [show (((colsL xs).length : Int) - 1).toNat = A.length + 3 by grind, show (((colsL xs).length : Int) - 4).toNat = A.length + 0 by grind, hA, getD_app, getD_app]
    decide +kernel
  · intro i hi
    rw [bl]
    exact mem_rangeL.mp (op.mem_iff.mp hi)
  · rw [op.length_eq, rangeL_length, bl]
    grind
  · rw [hh, hd0]
    exact op.nodup_iff.mpr nd
  · rw [tp.length_eq, List.length_map, rangeL_length, bl]
    grind
  · have := (tp.map (·.headD 0)).nodup_iff.mpr (by rw [hd0]; exact nd)
    exact this
  · intro r hr
    obtain ⟨k, _, rfl⟩ := List.mem_map.mp (tp.mem_iff.mp hr)
    exact List.cons_ne_nil _ _
  · refine ⟨(rangeL 0 ((colsL xs).length : Int)).map (hrow (colsL xs).length (leftR (colsL xs)) (msC (colsL xs))), ?_, ?_, tp.symm⟩
    · rw [hh]
      exact (op.map _).symm
    · rw [List.pairwise_map]
      unfold rangeL
      rw [List.pairwise_map]
      exact List.pairwise_lt_range.imp fun {i j} h => by
        show (0 + (i : Int)) < 0 + (j : Int)
        grind
end Mine
end
open PySem PySem.W PyProof.Rows PySem.Calls
set_option Elab.async false
set_option maxRecDepth 100000 in
set_option maxHeartbeats 8000000 in
theorem PySem.Challenge.cw_mq0278_01_holds : PySem.Challenge.rw_mq0278_01.Holds := by
  refine Mine.hd ?_
  w_strict (k_go0; all_goals try k_fold)
  rename_i w s₀ s₁ mg mb G Y fa o pm cd doc ho hcd hg X V T B TE TW xs hs hlay0 hL hr hl2 w1 w2 w3 w4 w5 hIsL ra ww1 r0 hI hr' hlen ht hD h₁ tk₁ u4 u3 u2 u1 d4 d3 d2 d1 X0 X' T' K' F' N' l0
  have hlen' : xs.length ≤ 63 := by omega
  refine Mine.law_goal (s := s₁) (L := s₁.heap.objs.size) (fa := fa) (cd := cd) X' T' codeHd F' N' d1 d2 d3 d4 (by rfl) lifted hI hlen' l0 (Mine.facts xs) ?_
  intro h' tk ps le h151
  refine ⟨⟨.inl ⟨.bool true, .bool true, [], rfl, ?_, .bool _, ?_, ?_⟩, le, rfl, hg⟩, ⟨ps, h151⟩, trivial⟩
  · intro _; rfl
  · wrow_post
  · intro _; exact ⟨List.nodup_nil, fun a ha => nomatch ha⟩
