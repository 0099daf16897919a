import PyProof.Rows.All
import Wide.All
import OpenK.AllK
import KE.KIntText
import Wide.FinOn
import Lean
import PySem.Challenge.RW_bg0011_01
set_option Elab.async false
set_option maxRecDepth 100000
set_option linter.unusedVariables false
section Hd1x
open PySem PySem.W PyProof.Rows
set_option maxHeartbeats 8000000 
namespace Mine
open_top hd for PySem.Challenge.rw_bg0011_01
end Mine
end Hd1x
section Core1x
open PySem PySem.W PyProof.Rows PySem.Calls
namespace Mine

/-! ## heaps -/
def Gr (h h' : Heap) : Prop := ∀ b o, h.get? b = some o → h'.get? b = some o
theorem Gr.refl (h : Heap) : Gr h h := fun _ _ e => e
theorem Gr.trans {a b c : Heap} (x : Gr a b) (y : Gr b c) : Gr a c := fun _ _ e => y _ _ (x _ _ e)
theorem Gr.push (h : Heap) (o : Obj) : Gr h (h.push o) := fun _ _ e => Heap.get?_push_of_some _ e

def nonCell (o : Obj) : Prop := ∀ v, o.data ≠ .cell v
/-- all stands but the object at L and the cells behind it -/
def But (L : Addr) (h h' : Heap) : Prop := ∀ b o, h.get? b = some o → (b < L ∨ (nonCell o ∧ b ≠ L)) → h'.get? b = some o
theorem Gr.but {L : Addr} {h h' : Heap} (g : Gr h h') : But L h h' := fun _ _ e _ => g _ _ e
theorem But.trans {L : Addr} {a b c : Heap} (x : But L a b) (y : But L b c) : But L a c := fun _ _ e n => y _ _ (x _ _ e n) n
theorem But.refl (L : Addr) (h : Heap) : But L h h := (Gr.refl h).but
theorem sameBut_but {L : Addr} {h h' : Heap} (s : Heap.SameBut L h h') : But L h h' := fun b _ e l => (s.2 b (l.elim Nat.ne_of_lt (·.2))).trans e

/-- an iterator of the kinds that a loop turns -/
def isIter (o : Obj) : Prop := o.cls = .type "list_iterator" ∨ o.cls = .type "range_iterator" ∨ o.cls = .type "tuple_iterator"
theorem notIter {o : Obj} {n : String} (e : o.cls = .type n) (d : n ≠ "list_iterator" ∧ n ≠ "range_iterator" ∧ n ≠ "tuple_iterator" := by decide) : ¬ isIter o := by
  unfold isIter; rw [e]; simp [d]
/-- .. and but the iterators behind it -/
def WBut (L : Addr) (h h' : Heap) : Prop := ∀ b o, h.get? b = some o → (b < L ∨ (nonCell o ∧ ¬ isIter o ∧ b ≠ L)) → h'.get? b = some o
theorem But.weak {L : Addr} {h h' : Heap} (x : But L h h') : WBut L h h' := fun b o e n => x b o e (n.imp id fun n => ⟨n.1, n.2.2⟩)

/-! ## descriptions of values -/
structure D where
  at' : Option Addr → Value → Heap → Prop
  mono : ∀ {f v h h'}, at' f v h → Gr h h' → at' f v h'
  stay : ∀ {L v h h' m}, at' (some L) v h → h.Ns L m → WBut L h h' → at' (some L) v h'
  enter : ∀ {f v h L}, at' f v h → h.objs.size ≤ L → at' (some L) v h

def D.int (n : Int) : D := ⟨fun _ v _ => ∃ t, v = .int n t, fun x _ => x, fun x _ _ => x, fun x _ => x⟩
def D.bool (b : Bool) : D := ⟨fun _ v _ => v = .bool b, fun x _ => x, fun x _ _ => x, fun x _ => x⟩
def D.val (u : Value) : D := ⟨fun _ v _ => v = u, fun x _ => x, fun x _ _ => x, fun x _ => x⟩
def D.str (s : Str) : D := ⟨fun _ v _ => ∃ t, v = .str s t, fun x _ => x, fun x _ _ => x, fun x _ => x⟩

inductive All2 {α β : Type} (R : α → β → Prop) : List α → List β → Prop
  | nil : All2 R [] []
  | cons {a b l r} : R a b → All2 R l r → All2 R (a :: l) (b :: r)
theorem All2.imp {α β : Type} {R S : α → β → Prop} (f : ∀ a b, R a b → S a b) : ∀ {l : List α} {r : List β}, All2 R l r → All2 S l r
  | _, _, .nil => .nil
  | _, _, .cons x y => .cons (f _ _ x) (y.imp f)
theorem All2.length {α β : Type} {R : α → β → Prop} : ∀ {l : List α} {r : List β}, All2 R l r → l.length = r.length
  | _, _, .nil => rfl
  | _, _, .cons _ y => congrArg (· + 1) y.length
theorem All2.get {α β : Type} {R : α → β → Prop} : ∀ {l : List α} {r : List β}, All2 R l r → ∀ (i : Nat) (b : β), r[i]? = some b → ∃ a, l[i]? = some a ∧ R a b
  | _, _, .nil, i, b, h => by simp at h
  | _, _, .cons (a := a) x y, 0, b, h => by simp at h; subst h; exact ⟨a, by simp, x⟩
  | _, _, .cons x y, i + 1, b, h => by
    have := y.get i b (by simpa using h)
    simpa using this
theorem All2.get' {α β : Type} {R : α → β → Prop} : ∀ {l : List α} {r : List β}, All2 R l r → ∀ (i : Nat) (a : α), l[i]? = some a → ∃ b, r[i]? = some b ∧ R a b
  | _, _, .nil, i, b, h => by simp at h
  | _, _, .cons (b := b) x y, 0, a, h => by simp at h; subst h; exact ⟨b, by simp, x⟩
  | _, _, .cons x y, i + 1, b, h => by
    have := y.get' i b (by simpa using h)
    simpa using this
theorem All2.append {α β : Type} {R : α → β → Prop} : ∀ {l : List α} {r : List β} {l' : List α} {r' : List β}, All2 R l r → All2 R l' r' → All2 R (l ++ l') (r ++ r')
  | _, _, _, _, .nil, z => z
  | _, _, _, _, .cons x y, z => .cons x (y.append z)
theorem All2.map_right {α β γ : Type} {R : α → β → Prop} {f : γ → β} : ∀ {l : List α} {r : List γ}, All2 (fun a c => R a (f c)) l r → All2 R l (r.map f)
  | _, _, .nil => .nil
  | _, _, .cons x y => .cons x y.map_right
theorem All2.of_map_right {α β γ : Type} {R : α → β → Prop} {f : γ → β} : ∀ {l : List α} {r : List γ}, All2 R l (r.map f) → All2 (fun a c => R a (f c)) l r
  | [], [], _ => .nil
  | [], _ :: _, h => by cases h
  | _ :: _, [], h => by cases h
  | _ :: _, _ :: _, .cons x y => .cons x y.of_map_right

theorem isList_but {L a : Addr} {h h' : Heap} {m : Str → Option Value} {xs : Array Value} (x : h.IsList a xs) (n : h.Ns L m) (b : WBut L h h') : h'.IsList a xs := by
  obtain ⟨o, ho, hc, k, hd⟩ := x
  refine ⟨o, b a o ho (.inr ⟨fun v e => ?_, notIter hc, fun e => ?_⟩), hc, k, hd⟩
  · rw [hd] at e; cases e
  · obtain ⟨oL, es, ep, hL, hdL, _⟩ := n
    subst e; rw [hL] at ho; cases ho; rw [hdL] at hd; cases hd
theorem isList_grow {a : Addr} {h h' : Heap} {xs : Array Value} (x : h.IsList a xs) (g : Gr h h') : h'.IsList a xs :=
  let ⟨o, ho, r⟩ := x; ⟨o, g _ _ ho, r⟩

theorem All2.one {α β : Type} {R : α → β → Prop} {l : List α} {b : β} : All2 R l [b] → ∃ a, l = [a] ∧ R a b
  | .cons x .nil => ⟨_, rfl, x⟩
theorem All2.two {α β : Type} {R : α → β → Prop} {l : List α} {b c : β} : All2 R l [b, c] → ∃ a a', l = [a, a'] ∧ R a b ∧ R a' c
  | .cons x (.cons y .nil) => ⟨_, _, rfl, x, y⟩
theorem All2.three {α β : Type} {R : α → β → Prop} {l : List α} {b c d : β} : All2 R l [b, c, d] → ∃ a a' a'', l = [a, a', a''] ∧ R a b ∧ R a' c ∧ R a'' d
  | .cons x (.cons y (.cons z .nil)) => ⟨_, _, _, rfl, x, y, z⟩

/-- a list whose items are so described -/
def D.list (ds : List D) : D where
  at' f v h := ∃ a vs, v = .ref a ∧ h.IsList a (List.toArray vs) ∧ All2 (fun u d => d.at' f u h) vs ds
  mono := fun ⟨a, vs, e, l, r⟩ g => ⟨a, vs, e, isList_grow l g, r.imp fun _ d x => d.mono x g⟩
  stay := fun ⟨a, vs, e, l, r⟩ n b => ⟨a, vs, e, isList_but l n b, r.imp fun _ d x => d.stay x n b⟩
  enter := fun ⟨a, vs, e, l, r⟩ g => ⟨a, vs, e, l, r.imp fun _ d x => d.enter x g⟩
abbrev D.ints (ns : List Int) : D := D.list (ns.map D.int)

theorem isTup_but {L a : Addr} {h h' : Heap} {m : Str → Option Value} {xs : Array Value} (x : IsTup h a xs) (n : h.Ns L m) (b : WBut L h h') : IsTup h' a xs := by
  obtain ⟨o, ho, hc, k, hd⟩ := x
  refine ⟨o, b a o ho (.inr ⟨fun v e => ?_, notIter hc, fun e => ?_⟩), hc, k, hd⟩
  · rw [hd] at e; cases e
  · obtain ⟨oL, es, ep, hL, hdL, _⟩ := n
    subst e; rw [hL] at ho; cases ho; rw [hdL] at hd; cases hd
def D.tup (ds : List D) : D where
  at' f v h := ∃ a vs, v = .ref a ∧ IsTup h a (List.toArray vs) ∧ All2 (fun u d => d.at' f u h) vs ds
  mono := fun ⟨a, vs, e, ⟨o, l, q⟩, r⟩ g => ⟨a, vs, e, ⟨o, g _ _ l, q⟩, r.imp fun _ d x => d.mono x g⟩
  stay := fun ⟨a, vs, e, l, r⟩ n b => ⟨a, vs, e, isTup_but l n b, r.imp fun _ d x => d.stay x n b⟩
  enter := fun ⟨a, vs, e, l, r⟩ g => ⟨a, vs, e, l, r.imp fun _ d x => d.enter x g⟩

/-- a range object -/
def D.range (a b c : Int) : D where
  at' _ v h := ∃ r t u w, v = .ref r ∧ IsRange h r a b c t u w
  mono := fun ⟨r, t, u, w, e, x⟩ g => ⟨r, t, u, w, e, g _ _ x⟩
  stay := fun ⟨r, t, u, w, e, x⟩ n b => ⟨r, t, u, w, e, b _ _ x (.inr ⟨fun _ e => (by cases e), notIter rfl, fun q => by
      obtain ⟨oL, es, ep, hL, hdL, _⟩ := n
      have x' : _ = some _ := x
      subst q; rw [hL] at x'; cases x'; cases hdL⟩)⟩
  enter := fun x _ => x

/-! ## triples -/
variable {prog : Program} {w : World} {A : Around} {α β : Type} {h : Heap}
def T (prog : Program) (w : World) (A : Around) (t : Sem α) (h : Heap) (Φ : α → Heap → Prop) : Prop :=
  ∀ (s : Shared) (Q : α → Shared → Prop) (E : Value → Shared → Prop), s.heap = h → (∀ a h' tk', Φ a h' → Q a { s with heap := h', toks := tk' }) → wpAny (model prog w) A t Q E s
theorem T.pure {a : α} {Φ : α → Heap → Prop} (x : Φ a h) : T prog w A (pure a) h Φ := fun s Q E e k => wpAny_pure (by subst e; exact k a s.heap s.toks x)
theorem T.mono {t : Sem α} {Φ Ψ : α → Heap → Prop} (x : T prog w A t h Φ) (f : ∀ a h', Φ a h' → Ψ a h') : T prog w A t h Ψ :=
  fun s Q E e k => x s Q E e fun a h' tk' p => k a h' tk' (f a h' p)
theorem T.bind {t : Sem α} {f : α → Sem β} {Φ : α → Heap → Prop} {Ψ : β → Heap → Prop} (x : T prog w A t h Φ) (y : ∀ a h', Φ a h' → T prog w A (f a) h' Ψ) : T prog w A (t >>= f) h Ψ :=
  fun s Q E e k => wpAny_bind (x s _ E e fun a h' tk' p => y a h' p { s with heap := h', toks := tk' } Q E rfl fun b h'' tk'' q => k b h'' tk'' q)
/-- from T to wpAny -/
theorem T.wp {t : Sem α} {s : Shared} {Φ : α → Heap → Prop} {Q : α → Shared → Prop} {E : Value → Shared → Prop} (x : T prog w A t s.heap Φ) (k : ∀ a h' tk', Φ a h' → Q a { s with heap := h', toks := tk' }) : wpAny (model prog w) A t Q E s :=
  x s Q E rfl k

end Mine
end Core1x
section Core2x
open PySem PySem.W PyProof.Rows PySem.Calls
namespace Mine

/-! ## what stands under every call -/
structure Gd (K : Frag) (h : Heap) : Prop where
  X : K.In h
  top : ∃ p loose mg mb, TopRead p loose mg mb h
theorem Gd.mono {K : Frag} {h h' : Heap} (x : Gd K h) (g : Gr h h') : Gd K h' :=
  ⟨x.X.keeps g, let ⟨p, l, a, b, t⟩ := x.top; ⟨p, l, a, b, t.keeps g⟩⟩

/-- what a name holds -/
def Val (env : Env) (h : Heap) (x : Str) (v : Value) : Prop :=
  (env.kindOf x = some .local ∧ ∃ m, h.Ns env.locals m ∧ m x = some v) ∨ (env.kindOf x = some .cell ∧ ∃ c, env.cells.lookup x = some c ∧ h.IsCell c (some v))
theorem Val.mono {env : Env} {h h' : Heap} {x : Str} {v : Value} (z : Val env h x v) (g : Gr h h') : Val env h' x v :=
  z.imp (fun ⟨k, m, n, e⟩ => ⟨k, m, n.keeps g, e⟩) fun ⟨k, c, l, i⟩ => ⟨k, c, l, i.keeps g⟩

abbrev Names := List (Str × D)
structure Cx (K : Frag) (env : Env) (μ : Names) (h : Heap) : Prop where
  kind : env.scope.kind = .function
  glob : env.globals = mainGlobals
  blt : env.builtins = builtinsNs
  gd : Gd K h
  nm : ∀ x d, μ.lookup x = some d → ∃ v, Val env h x v ∧ d.at' env.frame v h
  live : ∀ L, env.frame = some L → ∃ o, h.get? L = some o
theorem Cx.mono {K : Frag} {env : Env} {μ : Names} {h h' : Heap} (c : Cx K env μ h) (g : Gr h h') : Cx K env μ h' :=
  ⟨c.kind, c.glob, c.blt, c.gd.mono g, fun x d e => let ⟨v, a, b⟩ := c.nm x d e; ⟨v, a.mono g, d.mono b g⟩, fun L e => let ⟨o, q⟩ := c.live L e; ⟨o, g _ _ q⟩⟩

variable {prog : Program} {w : World} {A : Around} {K : Frag} {env : Env} {μ : Names} {h : Heap}
/-- an expression that makes nothing fall, whose value is so described -/
def Ev (prog : Program) (w : World) (A : Around) (env : Env) (h : Heap) (e : Expr) (d : D) : Prop :=
  ∀ h', Gr h h' → T prog w A (eval e env) h' fun v h'' => Gr h' h'' ∧ d.at' env.frame v h''
theorem Ev.up {e : Expr} {d : D} {h' : Heap} (x : Ev prog w A env h e d) (g : Gr h h') : Ev prog w A env h' e d := fun h'' g' => x h'' (g.trans g')
theorem Ev.mono {e : Expr} {d d' : D} (x : Ev prog w A env h e d) (f : ∀ v h', d.at' env.frame v h' → d'.at' env.frame v h') : Ev prog w A env h e d' :=
  fun h' g => (x h' g).mono fun v h'' p => ⟨p.1, f v h'' p.2⟩
/-- a test -/
def Ts (prog : Program) (w : World) (A : Around) (env : Env) (h : Heap) (e : Expr) (b : Bool) : Prop :=
  ∀ h', Gr h h' → T prog w A (isTrue e env (eval e env)) h' fun v h'' => Gr h' h'' ∧ v = b
theorem Ts.up {e : Expr} {b : Bool} {h' : Heap} (x : Ts prog w A env h e b) (g : Gr h h') : Ts prog w A env h' e b := fun h'' g' => x h'' (g.trans g')

theorem Ev.name {x : Str} {pos : Pos} {d : D} (c : Cx K env μ h) (hx : μ.lookup x = some d) (hb : (x == ("__debug__" : Str)) = false := by decide) : Ev prog w A env h (.Name x pos) d := by
  intro h' g s Q E e k
  subst e
  obtain ⟨v, a, b⟩ := (c.mono g).nm x d hx
  refine wpAny_Name ?_ hb
  rcases a with ⟨kl, m, n, q⟩ | ⟨kc, cc, l, i⟩
  · exact wpAny_loadName_local c.kind kl n q (k v s.heap s.toks ⟨Gr.refl _, b⟩)
  · exact wpAny_loadName_cell c.kind kc l i (k v s.heap s.toks ⟨Gr.refl _, b⟩)
theorem Ev.glob {x : Str} {pos : Pos} {v : Value} (c : Cx K env μ h) (hk : env.kindOf x = some .globalImplicit) (hx : nsIn K mainGlobals x = some (some v)) (hb : (x == ("__debug__" : Str)) = false := by decide) :
    Ev prog w A env h (.Name x pos) (D.val v) := by
  intro h' g s Q E e k
  subst e
  obtain ⟨p, l, mg, mb, t⟩ := (c.mono g).gd.top
  exact Name_function_global c.kind hk (loadGlobal_global (by rw [c.glob]; exact t.g) (mg_of (c.mono g).gd.X t.g hx) (k v s.heap s.toks ⟨Gr.refl _, rfl⟩)) hb
theorem Ev.bltin {x : Str} {pos : Pos} {v : Value} (c : Cx K env μ h) (hk : env.kindOf x = some .globalImplicit) (hx : nsIn K mainGlobals x = some none) (hv : bootBuiltins x = some v) (hn : x ≠ "__name__")
    (hb : (x == ("__debug__" : Str)) = false := by decide) : Ev prog w A env h (.Name x pos) (D.val v) := by
  intro h' g s Q E e k
  subst e
  obtain ⟨p, l, mg, mb, t⟩ := (c.mono g).gd.top
  exact Name_function_global c.kind hk (loadGlobal_builtin (by rw [c.glob]; exact t.g) (mg_none_of (c.mono g).gd.X t.g hx) (by rw [c.blt]; exact t.b) ((t.builtins x hn).trans hv) (k v s.heap s.toks ⟨Gr.refl _, rfl⟩)) hb

theorem Ev.lit {i : Int} {n : Nat} {pos : Pos} : Ev prog w A env h (.Constant (.int i) n pos) (D.int i) := fun h' g s Q E e k =>
  wpAny_Constant_int (k _ s.heap _ ⟨by subst e; exact Gr.refl _, _, rfl⟩)
theorem Ev.litb {b : Bool} {n : Nat} {pos : Pos} : Ev prog w A env h (.Constant (.bool b) n pos) (D.bool b) := fun h' g s Q E e k =>
  wpAny_Constant_bool (k _ s.heap s.toks ⟨by subst e; exact Gr.refl _, rfl⟩)
theorem Ev.lits {b : Str} {n : Nat} {pos : Pos} : Ev prog w A env h (.Constant (.str b) n pos) (D.str b) := fun h' g s Q E e k =>
  wpAny_Constant_str (k _ s.heap _ ⟨by subst e; exact Gr.refl _, _, rfl⟩)

/-- two values, one operation -/
theorem Ev.bin {op : Operator} {l r : Expr} {pos : Pos} {a b c : D} (x : Ev prog w A env h l a) (y : Ev prog w A env h r b)
    (f : ∀ u v h', Gr h h' → a.at' env.frame u h' → b.at' env.frame v h' → T prog w A (binaryOp op u v) h' fun z h'' => Gr h' h'' ∧ c.at' env.frame z h'') : Ev prog w A env h (.BinOp l op r pos) c := by
  intro h' g s Q E e k
  subst e
  refine wpAny_BinOp (x _ g s _ E rfl fun u h₁ t₁ p₁ => y _ (g.trans p₁.1) _ _ E rfl fun v h₂ t₂ p₂ => f u v h₂ (g.trans (p₁.1.trans p₂.1)) (a.mono p₁.2 p₂.1) p₂.2 _ _ E rfl fun z h₃ t₃ p₃ => ?_)
  exact k z h₃ t₃ ⟨p₁.1.trans (p₂.1.trans p₃.1), p₃.2⟩
theorem Ev.bini {op : Operator} {l r : Expr} {pos : Pos} {a b c : Int} (x : Ev prog w A env h l (D.int a)) (y : Ev prog w A env h r (D.int b))
    (f : ∀ (s : Shared) (t u : Tok) (Q : Value → Shared → Prop) (E : Value → Shared → Prop), Q (.int c s.toks) { s with toks := s.toks + 1 } → wpAny (model prog w) A (binaryOp op (.int a t) (.int b u)) Q E s) :
    Ev prog w A env h (.BinOp l op r pos) (D.int c) :=
  Ev.bin x y fun u v h' _ ⟨t, e₁⟩ ⟨t', e₂⟩ s Q E e k => by subst e₁ e₂ e; exact f s t t' Q E (k _ s.heap _ ⟨Gr.refl _, _, rfl⟩)
theorem Ev.add {l r : Expr} {pos : Pos} {a b : Int} (x : Ev prog w A env h l (D.int a)) (y : Ev prog w A env h r (D.int b)) : Ev prog w A env h (.BinOp l .Add r pos) (D.int (a + b)) := x.bini y fun _ _ _ _ _ k => PyProof.Rows.add_int k
theorem Ev.sub {l r : Expr} {pos : Pos} {a b : Int} (x : Ev prog w A env h l (D.int a)) (y : Ev prog w A env h r (D.int b)) : Ev prog w A env h (.BinOp l .Sub r pos) (D.int (a - b)) := x.bini y fun _ _ _ _ _ k => PyProof.Rows.sub_int k
theorem Ev.mul {l r : Expr} {pos : Pos} {a b : Int} (x : Ev prog w A env h l (D.int a)) (y : Ev prog w A env h r (D.int b)) (z : IntMulOk a b) : Ev prog w A env h (.BinOp l .Mult r pos) (D.int (a * b)) := x.bini y fun _ _ _ _ _ k => PyProof.Rows.mul_int k z
theorem Ev.mod {l r : Expr} {pos : Pos} {a b : Int} (x : Ev prog w A env h l (D.int a)) (y : Ev prog w A env h r (D.int b)) (z : b ≠ 0) : Ev prog w A env h (.BinOp l .Mod r pos) (D.int (a.fmod b)) := x.bini y fun _ _ _ _ _ k => PyProof.Rows.mod_int' z k
theorem Ev.fdiv {l r : Expr} {pos : Pos} {a b : Int} (x : Ev prog w A env h l (D.int a)) (y : Ev prog w A env h r (D.int b)) (z : b ≠ 0) (hp : Builtin.divisionGoesByPylong a b = false) : Ev prog w A env h (.BinOp l .FloorDiv r pos) (D.int (a.fdiv b)) := x.bini y fun _ _ _ _ _ k => PyProof.Rows.floordiv_int z k (.inl hp)
theorem Ev.shl {l r : Expr} {pos : Pos} {a b : Int} (x : Ev prog w A env h l (D.int a)) (y : Ev prog w A env h r (D.int b)) (z : 0 ≤ b) (z' : b ≤ 1000000) (z'' : a.natAbs < 2 ^ 64) : Ev prog w A env h (.BinOp l .LShift r pos) (D.int (a * 2 ^ b.toNat)) :=
  x.bini y fun _ _ _ _ _ k => PyProof.Rows.lshift_int_small z z' z'' k
theorem Ev.shr {l r : Expr} {pos : Pos} {a b : Int} (x : Ev prog w A env h l (D.int a)) (y : Ev prog w A env h r (D.int b)) (z : 0 ≤ b) : Ev prog w A env h (.BinOp l .RShift r pos) (D.int (a.fdiv (2 ^ b.toNat))) := x.bini y fun _ _ _ _ _ k => PyProof.Rows.rshift_int z k
theorem Ev.and {l r : Expr} {pos : Pos} {a b : Int} (x : Ev prog w A env h l (D.int a)) (y : Ev prog w A env h r (D.int b)) : Ev prog w A env h (.BinOp l .BitAnd r pos) (D.int (Builtin.bitAnd a b)) := x.bini y fun _ _ _ _ _ k => PyProof.Rows.and_int k
theorem Ev.or {l r : Expr} {pos : Pos} {a b : Int} (x : Ev prog w A env h l (D.int a)) (y : Ev prog w A env h r (D.int b)) : Ev prog w A env h (.BinOp l .BitOr r pos) (D.int (Builtin.bitOr a b)) := x.bini y fun _ _ _ _ _ k => PyProof.Rows.or_int k
theorem Ev.xor {l r : Expr} {pos : Pos} {a b : Int} (x : Ev prog w A env h l (D.int a)) (y : Ev prog w A env h r (D.int b)) : Ev prog w A env h (.BinOp l .BitXor r pos) (D.int (Builtin.bitXor a b)) := x.bini y fun _ _ _ _ _ k => PyProof.Rows.xor_int k
theorem Ev.pow {l r : Expr} {pos : Pos} {a b : Int} (x : Ev prog w A env h l (D.int a)) (y : Ev prog w A env h r (D.int b)) (z : 0 ≤ b) (z' : b ≤ 1000000) (z'' : a.natAbs < 2 ^ 64) : Ev prog w A env h (.BinOp l .Pow r pos) (D.int (a ^ b.toNat)) :=
  x.bini y fun _ _ _ _ _ k => PyProof.Rows.pow_int_small z z' z'' k

/-- one comparison, as a value and as a test -/
theorem Ev.cmp {op : CmpOp} {l r : Expr} {pos : Pos} {a b c : D} (x : Ev prog w A env h l a) (y : Ev prog w A env h r b)
    (f : ∀ u v h', Gr h h' → a.at' env.frame u h' → b.at' env.frame v h' → T prog w A (compareOp op u v) h' fun z h'' => Gr h' h'' ∧ c.at' env.frame z h'')
    (hm : behindInMarks op r = false := by with_unfolding_all rfl) : Ev prog w A env h (.Compare l [op] [r] pos) c := by
  intro h' g s Q E e k
  subst e
  refine wpAny_Compare1 (x _ g s _ E rfl fun u h₁ t₁ p₁ => y _ (g.trans p₁.1) _ _ E rfl fun v h₂ t₂ p₂ => f u v h₂ (g.trans (p₁.1.trans p₂.1)) (a.mono p₁.2 p₂.1) p₂.2 _ _ E rfl fun z h₃ t₃ p₃ => ?_) hm
  exact k z h₃ t₃ ⟨p₁.1.trans (p₂.1.trans p₃.1), p₃.2⟩
theorem Ts.cmp {op : CmpOp} {l r : Expr} {pos : Pos} {a b : D} {c : Bool} (x : Ev prog w A env h l a) (y : Ev prog w A env h r b)
    (f : ∀ u v h', Gr h h' → a.at' env.frame u h' → b.at' env.frame v h' → T prog w A (compareOp op u v) h' fun z h'' => Gr h' h'' ∧ z = .bool c)
    (hm : behindInMarks op r = false := by with_unfolding_all rfl) : Ts prog w A env h (.Compare l [op] [r] pos) c := by
  intro h' g s Q E e k
  subst e
  refine wpAny_isTrue_Compare1 (x _ g s _ E rfl fun u h₁ t₁ p₁ => y _ (g.trans p₁.1) _ _ E rfl fun v h₂ t₂ p₂ => f u v h₂ (g.trans (p₁.1.trans p₂.1)) (a.mono p₁.2 p₂.1) p₂.2 _ _ E rfl fun z h₃ t₃ p₃ => ?_) hm
  obtain ⟨p, rfl⟩ := p₃
  exact wpAny_truthy_bool (k c h₃ t₃ ⟨p₁.1.trans (p₂.1.trans p), rfl⟩)
theorem cmpi {op : CmpOp} {a b : Int} {c : Bool} (f : ∀ (s : Shared) (t u : Tok) (Q : Value → Shared → Prop) (E : Value → Shared → Prop), Q (.bool c) s → wpAny (model prog w) A (compareOp op (.int a t) (.int b u)) Q E s) :
    ∀ (fr : Option Addr) u v h', Gr h h' → (D.int a).at' fr u h' → (D.int b).at' fr v h' → T prog w A (compareOp op u v) h' fun z h'' => Gr h' h'' ∧ z = .bool c :=
  fun _ u v h' _ ⟨t, e₁⟩ ⟨t', e₂⟩ s Q E e k => by subst e₁ e₂ e; exact f s t t' Q E (k _ s.heap s.toks ⟨Gr.refl _, rfl⟩)
theorem Ev.eq {l r : Expr} {pos : Pos} {a b : Int} (x : Ev prog w A env h l (D.int a)) (y : Ev prog w A env h r (D.int b)) (hm : behindInMarks .Eq r = false := by with_unfolding_all rfl) : Ev prog w A env h (.Compare l [.Eq] [r] pos) (D.bool (a == b)) :=
  x.cmp y (cmpi (fun _ _ _ _ _ k => PyProof.Rows.eq_int k) _) hm
theorem Ts.eq {l r : Expr} {pos : Pos} {a b : Int} (x : Ev prog w A env h l (D.int a)) (y : Ev prog w A env h r (D.int b)) (hm : behindInMarks .Eq r = false := by with_unfolding_all rfl) : Ts prog w A env h (.Compare l [.Eq] [r] pos) (a == b) :=
  Ts.cmp x y (cmpi (fun _ _ _ _ _ k => PyProof.Rows.eq_int k) _) hm
theorem Ev.ne {l r : Expr} {pos : Pos} {a b : Int} (x : Ev prog w A env h l (D.int a)) (y : Ev prog w A env h r (D.int b)) (hm : behindInMarks .NotEq r = false := by with_unfolding_all rfl) : Ev prog w A env h (.Compare l [.NotEq] [r] pos) (D.bool (a != b)) :=
  x.cmp y (cmpi (fun _ _ _ _ _ k => PyProof.Rows.ne_int k) _) hm
theorem Ts.ne {l r : Expr} {pos : Pos} {a b : Int} (x : Ev prog w A env h l (D.int a)) (y : Ev prog w A env h r (D.int b)) (hm : behindInMarks .NotEq r = false := by with_unfolding_all rfl) : Ts prog w A env h (.Compare l [.NotEq] [r] pos) (a != b) :=
  Ts.cmp x y (cmpi (fun _ _ _ _ _ k => PyProof.Rows.ne_int k) _) hm
theorem Ts.lt {l r : Expr} {pos : Pos} {a b : Int} (x : Ev prog w A env h l (D.int a)) (y : Ev prog w A env h r (D.int b)) (hm : behindInMarks .Lt r = false := by with_unfolding_all rfl) : Ts prog w A env h (.Compare l [.Lt] [r] pos) (decide (a < b)) :=
  Ts.cmp x y (cmpi (fun _ _ _ _ _ k => PyProof.Rows.lt_int k) _) hm
theorem eq_bools {a b : Bool} {Q : Value → Shared → Prop} {E : Value → Shared → Prop} {s : Shared} (k : Q (.bool (a == b)) s) : wpAny (model prog w) A (compareOp .Eq (.bool a) (.bool b)) Q E s := by
  exact PyProof.Rows.eq_bool k

theorem Ev.ite {t b o : Expr} {pos : Pos} {c : Bool} {d : D} (x : Ts prog w A env h t c) (y : c = true → Ev prog w A env h b d) (z : c = false → Ev prog w A env h o d) : Ev prog w A env h (.IfExp t b o pos) d := by
  intro h' g s Q E e k
  subst e
  refine IfExp_ (x _ g s _ E rfl fun v h₁ t₁ p₁ => ?_)
  obtain ⟨p, rfl⟩ := p₁
  cases v with
  | true => exact y rfl _ (g.trans p) _ _ E rfl fun u h₂ t₂ q => k u h₂ t₂ ⟨p.trans q.1, q.2⟩
  | false => exact z rfl _ (g.trans p) _ _ E rfl fun u h₂ t₂ q => k u h₂ t₂ ⟨p.trans q.1, q.2⟩

/-- a test by its value's truth -/
theorem Ts.plain {e : Expr} {d : D} {b : Bool} (x : Ev prog w A env h e d) (f : ∀ v h', Gr h h' → d.at' env.frame v h' → T prog w A (truthy v) h' fun c h'' => Gr h' h'' ∧ c = b)
    (he : isTrue e env (eval e env) = (do let v ← eval e env; standAt e.pos; holding [v] (truthy v)) := by rfl) : Ts prog w A env h e b := by
  intro h' g s Q E e k
  subst e
  refine isTrue_plain (x _ g s _ E rfl fun v h₁ t₁ p₁ => f v h₁ (g.trans p₁.1) p₁.2 _ _ E rfl fun c h₂ t₂ p₂ => ?_) he
  exact k c h₂ t₂ ⟨p₁.1.trans p₂.1, p₂.2⟩
theorem truthy_b {b : Bool} : ∀ (fr : Option Addr) v h', Gr h h' → (D.bool b).at' fr v h' → T prog w A (truthy v) h' fun c h'' => Gr h' h'' ∧ c = b := fun _ v h' _ e s Q E e' k => by
  have e : v = .bool b := e
  subst e e'; exact wpAny_truthy_bool (k b s.heap s.toks ⟨Gr.refl _, rfl⟩)
theorem Ts.bool {e : Expr} {b : Bool} (x : Ev prog w A env h e (D.bool b)) (he : isTrue e env (eval e env) = (do let v ← eval e env; standAt e.pos; holding [v] (truthy v)) := by rfl) : Ts prog w A env h e b :=
  Ts.plain x (truthy_b _) he
theorem Ts.not {e : Expr} {pos : Pos} {b : Bool} (x : Ts prog w A env h e b) : Ts prog w A env h (.UnaryOp .Not e pos) (!b) := by
  intro h' g s Q E e k
  subst e
  exact isTrue_not (x _ g s _ E rfl fun c h₁ t₁ p => k _ h₁ t₁ ⟨p.1, by rw [p.2]⟩)
theorem Ts.and2 {e₁ e₂ : Expr} {pos : Pos} {a b : Bool} (x : Ts prog w A env h e₁ a) (y : a = true → Ts prog w A env h e₂ b) : Ts prog w A env h (.BoolOp .And [e₁, e₂] pos) (a && b) := by
  intro h' g s Q E e k
  subst e
  refine isTrue_and (x _ g s _ E rfl fun c h₁ t₁ p => ?_)
  obtain ⟨p, rfl⟩ := p
  cases c with
  | false => exact k _ h₁ t₁ ⟨p, rfl⟩
  | true =>
    refine isTrue_and (y rfl _ (g.trans p) _ _ E rfl fun c' h₂ t₂ q => ?_)
    obtain ⟨q, rfl⟩ := q
    cases c' with
    | false => exact k _ h₂ t₂ ⟨p.trans q, rfl⟩
    | true => exact isTrue_and_nil (k _ h₂ t₂ ⟨p.trans q, rfl⟩)
theorem Ts.or2 {e₁ e₂ : Expr} {pos : Pos} {a b : Bool} (x : Ts prog w A env h e₁ a) (y : a = false → Ts prog w A env h e₂ b) : Ts prog w A env h (.BoolOp .Or [e₁, e₂] pos) (a || b) := by
  intro h' g s Q E e k
  subst e
  refine isTrue_or (x _ g s _ E rfl fun c h₁ t₁ p => ?_)
  obtain ⟨p, rfl⟩ := p
  cases c with
  | true => exact k _ h₁ t₁ ⟨p, rfl⟩
  | false =>
    refine isTrue_or (y rfl _ (g.trans p) _ _ E rfl fun c' h₂ t₂ q => ?_)
    obtain ⟨q, rfl⟩ := q
    cases c' with
    | true => exact k _ h₂ t₂ ⟨p.trans q, rfl⟩
    | false => exact isTrue_or_nil (k _ h₂ t₂ ⟨p.trans q, rfl⟩)
/-- a chain of two comparisons, as a test -/
theorem Ts.chain2 {op₁ op₂ : CmpOp} {l r₁ r₂ : Expr} {pos : Pos} {a b d : D} {c c' : Bool} (x : Ev prog w A env h l a) (y : Ev prog w A env h r₁ b) (z : Ev prog w A env h r₂ d)
    (f : ∀ u v h', Gr h h' → a.at' env.frame u h' → b.at' env.frame v h' → T prog w A (compareOp op₁ u v) h' fun z h'' => Gr h' h'' ∧ z = .bool c)
    (f' : ∀ u v h', Gr h h' → b.at' env.frame u h' → d.at' env.frame v h' → T prog w A (compareOp op₂ u v) h' fun z h'' => Gr h' h'' ∧ z = .bool c')
    (hm : lastMarks [op₁, op₂] [r₁, r₂] = false := by with_unfolding_all rfl) : Ts prog w A env h (.Compare l [op₁, op₂] [r₁, r₂] pos) (c && c') := by
  intro h' g s Q E e k
  subst e
  refine isTrue_chain (x _ g s _ E rfl fun u h₁ t₁ p₁ => test_link (y _ (g.trans p₁.1) _ _ E rfl fun v h₂ t₂ p₂ => f u v h₂ (g.trans (p₁.1.trans p₂.1)) (a.mono p₁.2 p₂.1) p₂.2 _ _ E rfl fun q h₃ t₃ p₃ => ?_)) hm
  obtain ⟨p₃, rfl⟩ := p₃
  refine wpAny_truthy_bool ?_
  cases c with
  | false => exact k _ h₃ t₃ ⟨p₁.1.trans (p₂.1.trans p₃), rfl⟩
  | true =>
    refine test_last (z _ (g.trans (p₁.1.trans (p₂.1.trans p₃))) _ _ E rfl fun v' h₄ t₄ p₄ => f' v v' h₄ (g.trans (p₁.1.trans (p₂.1.trans (p₃.trans p₄.1)))) (b.mono p₂.2 (p₃.trans p₄.1)) p₄.2 _ _ E rfl fun q' h₅ t₅ p₅ => ?_)
    obtain ⟨p₅, rfl⟩ := p₅
    exact wpAny_truthy_bool (k _ h₅ t₅ ⟨p₁.1.trans (p₂.1.trans (p₃.trans (p₄.1.trans p₅))), rfl⟩)

/-! ## arguments -/
def Evs (prog : Program) (w : World) (A : Around) (env : Env) (h : Heap) (pos : Pos) (es : List Expr) (ds : List D) : Prop :=
  ∀ h', Gr h h' → T prog w A (spliced (backTo pos (starEach es env))) h' fun vs h'' => Gr h' h'' ∧ All2 (fun v d => d.at' env.frame v h'') vs ds
theorem Evs.nil {pos : Pos} : Evs prog w A env h pos [] [] := fun h' g s Q E e k => args_nil (by subst e; exact k _ s.heap s.toks ⟨Gr.refl _, .nil⟩)
theorem Evs.cons {pos : Pos} {e : Expr} {es : List Expr} {d : D} {ds : List D} (x : Ev prog w A env h e d) (y : Evs prog w A env h pos es ds)
    (he : starEach (e :: es) env = (false, eval e env) :: starEach es env := by rfl) : Evs prog w A env h pos (e :: es) (d :: ds) := by
  intro h' g s Q E e k
  subst e
  exact args_cons (x _ g s _ E rfl fun v h₁ t₁ p => y _ (g.trans p.1) _ _ E rfl fun vs h₂ t₂ q => k _ h₂ t₂ ⟨p.1.trans q.1, .cons (d.mono p.2 q.1) q.2⟩) he

/-- a call of a value that is known -/
theorem Ev.call_of {f : Expr} {es : List Expr} {pos : Pos} {u : Value} {ds : List D} {d : D} (x : Ev prog w A env h f (D.val u)) (y : Evs prog w A env h pos es ds)
    (cw : ∀ (s : Shared) (Q : Value → Shared → Prop) (E : Value → Shared → Prop), Gr h s.heap → wpAny (model prog w) A (spliced (backTo pos (starEach es env))) (fun vs s₁ => Gr s.heap s₁.heap ∧ wpAny (model prog w) A (call u vs) Q E s₁) E s → wpAny (model prog w) A (callWith pos u [] (backTo pos (starEach es env)) []) Q E s)
    (z : ∀ vs h', Gr h h' → All2 (fun v d => d.at' env.frame v h') vs ds → T prog w A (call u vs) h' fun v h'' => Gr h' h'' ∧ d.at' env.frame v h'')
    (he : eval (.Call f es [] pos) env = (do callWith pos (← eval f env) [] (backTo pos (starEach es env)) (backToKw pos (keywordEach [] env))) := by rfl) : Ev prog w A env h (.Call f es [] pos) d := by
  intro h' g s Q E e k
  subst e
  refine Call_ (x _ g s _ E rfl fun v h₁ t₁ p₁ => ?_) he
  obtain ⟨p₁, q⟩ := p₁
  have q : v = u := q
  subst q
  refine cw { s with heap := h₁, toks := t₁ } Q E (g.trans p₁) (y _ (g.trans p₁) _ _ E rfl fun vs h₂ t₂ p₂ => ⟨p₂.1, z vs h₂ (g.trans (p₁.trans p₂.1)) p₂.2 _ _ E rfl fun v h₃ t₃ p₃ => ?_⟩)
  exact k v h₃ t₃ ⟨p₁.trans (p₂.1.trans p₃.1), p₃.2⟩
theorem Ev.callb {f : Expr} {e : Expr} {es : List Expr} {pos : Pos} {id : String} {ds : List D} {d : D} (x : Ev prog w A env h f (D.val (.builtin id))) (y : Evs prog w A env h pos (e :: es) ds)
    (z : ∀ vs h', Gr h h' → All2 (fun v d => d.at' env.frame v h') vs ds → T prog w A (call (.builtin id) vs) h' fun v h'' => Gr h' h'' ∧ d.at' env.frame v h'')
    (he : eval (.Call f (e :: es) [] pos) env = (do callWith pos (← eval f env) [] (backTo pos (starEach (e :: es) env)) (backToKw pos (keywordEach [] env))) := by rfl)
    (hs : starEach (e :: es) env = (false, eval e env) :: starEach es env := by rfl) (hplain : (backTo pos (starEach es env)).any (·.1) = false := by rfl) : Ev prog w A env h (.Call f (e :: es) [] pos) d :=
  x.call_of y (fun s Q E _ k => callWith_builtin1 (wpAny_mono k (fun _ _ q => q.2) fun _ _ q => q) hs hplain) z he
theorem Ev.callt {f : Expr} {e : Expr} {es : List Expr} {pos : Pos} {id : String} {ds : List D} {d : D} (x : Ev prog w A env h f (D.val (.type id))) (y : Evs prog w A env h pos (e :: es) ds)
    (z : ∀ vs h', Gr h h' → All2 (fun v d => d.at' env.frame v h') vs ds → T prog w A (call (.type id) vs) h' fun v h'' => Gr h' h'' ∧ d.at' env.frame v h'')
    (he : eval (.Call f (e :: es) [] pos) env = (do callWith pos (← eval f env) [] (backTo pos (starEach (e :: es) env)) (backToKw pos (keywordEach [] env))) := by rfl)
    (hs : starEach (e :: es) env = (false, eval e env) :: starEach es env := by rfl) (hplain : (backTo pos (starEach es env)).any (·.1) = false := by rfl) : Ev prog w A env h (.Call f (e :: es) [] pos) d :=
  x.call_of y (fun s Q E _ k => callWith_type1 (wpAny_mono k (fun _ _ q => q.2) fun _ _ q => q) hs hplain) z he
/-- .. of an own def or class -/
theorem Ev.callk {f : Expr} {e : Expr} {es : List Expr} {pos : Pos} {u : Value} {ds : List D} {d : D} (c : Cx K env μ h) (x : Ev prog w A env h f (D.val u)) (hk : keepIn K u = true) (y : Evs prog w A env h pos (e :: es) ds)
    (z : ∀ vs h', Gr h h' → All2 (fun v d => d.at' env.frame v h') vs ds → T prog w A (call u vs) h' fun v h'' => Gr h' h'' ∧ d.at' env.frame v h'')
    (he : eval (.Call f (e :: es) [] pos) env = (do callWith pos (← eval f env) [] (backTo pos (starEach (e :: es) env)) (backToKw pos (keywordEach [] env))) := by rfl)
    (hs : starEach (e :: es) env = (false, eval e env) :: starEach es env := by rfl) (hplain : (backTo pos (starEach es env)).any (·.1) = false := by rfl) : Ev prog w A env h (.Call f (e :: es) [] pos) d :=
  x.call_of y (fun s Q E g k => callWith_K (first := []) (c.mono g).gd.X hk (wpAny_mono k (fun _ _ q => ⟨((c.mono g).mono q.1).gd.X, q.2⟩) fun _ _ q => q) hs hplain) z he

end Mine
end Core2x
section Core3x
open PySem PySem.W PyProof.Rows PySem.Calls
namespace Mine
variable {prog : Program} {w : World} {A : Around} {K : Frag} {env : Env} {μ : Names} {h h₀ : Heap}

/-! ## a def's frame -/
structure Fm (K : Frag) (h₀ : Heap) (env : Env) (μ : Names) (h : Heap) : Prop where
  cx : Cx K env μ h
  gd0 : Gd K h₀
  ns : ∃ m, h.Ns env.locals m
  cells : ∀ x c, env.cells.lookup x = some c → ∃ v, h.IsCell c v
  apart : ∀ x y c, env.cells.lookup x = some c → env.cells.lookup y = some c → x = y
  keep : Gr h₀ h
  fresh : h₀.objs.size ≤ env.locals
  cabove : ∀ x c, env.cells.lookup x = some c → env.locals < c
  fr : env.frame = some env.locals
theorem ns_live {env : Env} {h : Heap} {m : Str → Option Value} (e : env.frame = some env.locals) (n : h.Ns env.locals m) : ∀ L, env.frame = some L → ∃ o, h.get? L = some o := fun L q => by
  rw [e] at q; cases q
  obtain ⟨o, _, _, ho, _⟩ := n
  exact ⟨o, ho⟩
theorem Fm.mono {h' : Heap} (F : Fm K h₀ env μ h) (g : Gr h h') : Fm K h₀ env μ h' :=
  ⟨F.cx.mono g, F.gd0, let ⟨m, n⟩ := F.ns; ⟨m, n.keeps g⟩, fun x c e => let ⟨v, i⟩ := F.cells x c e; ⟨v, i.keeps g⟩, F.apart, F.keep.trans g, F.fresh, F.cabove, F.fr⟩
theorem Fm.gd (F : Fm K h₀ env μ h) : Gd K h := F.gd0.mono F.keep
theorem mem_lookup {μ : Names} {x : Str} {d : D} (e : μ.lookup x = some d) : (x, d) ∈ μ := mem_of_lookup e
/-- fewer names -/
theorem Fm.sub {μ' : Names} (F : Fm K h₀ env μ h) (s : ∀ p ∈ μ', μ.lookup p.1 = some p.2) : Fm K h₀ env μ' h :=
  ⟨⟨F.cx.kind, F.cx.glob, F.cx.blt, F.cx.gd, fun x d e => F.cx.nm x d (s (x, d) (mem_lookup e)), F.cx.live⟩, F.gd0, F.ns, F.cells, F.apart, F.keep, F.fresh, F.cabove, F.fr⟩
/-- other words for the same -/
theorem Fm.re {μ' : Names} (F : Fm K h₀ env μ h) (s : ∀ x d, μ'.lookup x = some d → ∃ d', μ.lookup x = some d' ∧ ∀ v, d'.at' env.frame v h → d.at' env.frame v h) : Fm K h₀ env μ' h :=
  ⟨⟨F.cx.kind, F.cx.glob, F.cx.blt, F.cx.gd, fun x d e => let ⟨d', e', f⟩ := s x d e; let ⟨v, a, b⟩ := F.cx.nm x d' e'; ⟨v, a, f v b⟩, F.cx.live⟩, F.gd0, F.ns, F.cells, F.apart, F.keep, F.fresh, F.cabove, F.fr⟩

theorem ns_same {h : Heap} {a : Addr} {m m' : Str → Option Value} (n : h.Ns a m) (n' : h.Ns a m') : m = m' := by
  obtain ⟨o, es, ep, e, d, _, f⟩ := n
  obtain ⟨o', es', ep', e', d', _, f'⟩ := n'
  rw [e] at e'; cases e'
  rw [d] at d'; cases d'
  exact funext fun x => (f x).symm.trans (f' x)
theorem cell_ne_ns {h : Heap} {a c : Addr} {m : Str → Option Value} {v : Option Value} (n : h.Ns a m) (i : h.IsCell c v) : c ≠ a := by
  obtain ⟨o, es, ep, e, d, _⟩ := n
  obtain ⟨o', e', d'⟩ := i
  intro q; subst q; rw [e] at e'; cases e'; rw [d] at d'; cases d'

theorem Fm.store {x : Str} {v : Value} {d : D} (F : Fm K h₀ env μ h) (hx : env.kindOf x = some .local ∨ (env.kindOf x = some .cell ∧ (env.cells.lookup x).isSome = true)) (hd : d.at' env.frame v h) :
    T prog w A (storeName env x v) h fun _ h' => But env.locals h h' ∧ Fm K h₀ env ((x, d) :: μ) h' := by
  intro s Q E e k
  subst e
  obtain ⟨m, n⟩ := F.ns
  have hfr := F.fr
  rcases hx with hl | ⟨hc, hs⟩
  · refine wpAny_storeName_local hl n (fun h' hn hs => k () h' _ ?_) (by rw [F.cx.kind]; rfl)
    have hb : But env.locals s.heap h' := sameBut_but hs
    have kp : Gr h₀ h' := fun b o e => (hs.2 b (Nat.ne_of_lt (Nat.lt_of_lt_of_le (Heap.lt_size e) F.fresh))).trans (F.keep b o e)
    have cl : ∀ {c v}, s.heap.IsCell c v → h'.IsCell c v := fun {c v} i => i.sameBut hs (cell_ne_ns n i)
    refine ⟨hb, ⟨F.cx.kind, F.cx.glob, F.cx.blt, F.gd0.mono kp, fun y d' e => ?_, ns_live F.fr hn⟩, F.gd0, ⟨_, hn⟩, fun y c e => let ⟨v, i⟩ := F.cells y c e; ⟨v, cl i⟩, F.apart, kp, F.fresh, F.cabove, F.fr⟩
    rw [List.lookup_cons] at e
    by_cases q : y = x
    · subst q
      rw [beq_self_eq_true] at e
      cases e
      refine ⟨v, .inl ⟨hl, _, hn, by simp⟩, ?_⟩
      rw [hfr] at hd ⊢
      exact d.stay hd n hb.weak
    · rw [beq_eq_false_iff_ne.mpr q] at e
      obtain ⟨u, a, b⟩ := F.cx.nm y d' e
      refine ⟨u, ?_, by rw [hfr] at b ⊢; exact d'.stay b n hb.weak⟩
      rcases a with ⟨kl, m', n', q'⟩ | ⟨kc, c, l, i⟩
      · rw [ns_same n' n] at q'
        exact .inl ⟨kl, _, hn, by simpa [q] using q'⟩
      · exact .inr ⟨kc, c, l, cl i⟩
  · obtain ⟨c, hc'⟩ := Option.isSome_iff_exists.mp hs
    obtain ⟨v₀, i₀⟩ := F.cells x c hc'
    refine wpAny_storeName_cell F.cx.kind hc hc' i₀ fun h' hi hs => k () h' s.toks ?_
    have hcL := cell_ne_ns n i₀
    have hb : But env.locals s.heap h' := fun b o e nc => by
      refine (hs.2 b fun q => ?_).trans e
      subst q
      rcases nc with lt | ⟨nc, l⟩
      · exact Nat.lt_irrefl _ (Nat.lt_trans lt (F.cabove x _ hc'))
      · obtain ⟨o', e', d'⟩ := i₀
        rw [e] at e'; cases e'
        exact nc _ d'
    have kp : Gr h₀ h' := fun b o e => (hs.2 b (Nat.ne_of_lt (Nat.lt_trans (Nat.lt_of_lt_of_le (Heap.lt_size e) F.fresh) (F.cabove x c hc')))).trans (F.keep b o e)
    have hn' : ∀ {m'}, s.heap.Ns env.locals m' → h'.Ns env.locals m' := fun z => z.sameBut hs (Ne.symm hcL)
    refine ⟨hb, ⟨F.cx.kind, F.cx.glob, F.cx.blt, F.gd0.mono kp, fun y d' e => ?_, ns_live F.fr (hn' n)⟩, F.gd0, ⟨_, hn' n⟩, fun y c' e => ?_, F.apart, kp, F.fresh, F.cabove, F.fr⟩
    · rw [List.lookup_cons] at e
      by_cases q : y = x
      · subst q
        rw [beq_self_eq_true] at e
        cases e
        exact ⟨v, .inr ⟨hc, c, hc', hi⟩, by rw [hfr] at hd ⊢; exact d.stay hd n hb.weak⟩
      · rw [beq_eq_false_iff_ne.mpr q] at e
        obtain ⟨u, a, b⟩ := F.cx.nm y d' e
        refine ⟨u, ?_, by rw [hfr] at b ⊢; exact d'.stay b n hb.weak⟩
        rcases a with ⟨kl, m', n', q'⟩ | ⟨kc, c', l, i⟩
        · exact .inl ⟨kl, _, hn' n', q'⟩
        · exact .inr ⟨kc, c', l, i.sameBut hs fun q' => q (F.apart y x c (q' ▸ l) hc')⟩
    · by_cases q : c' = c
      · subst q; exact ⟨_, hi⟩
      · obtain ⟨u, i⟩ := F.cells y c' e
        exact ⟨u, i.sameBut hs q⟩

/-! ## statements -/
def X (prog : Program) (w : World) (A : Around) (env : Env) (h : Heap) (st : Stmt) (Φ : Flow → Heap → Prop) : Prop := T prog w A (exec st env) h fun f h' => But env.locals h h' ∧ Φ f h'
def Xs (prog : Program) (w : World) (A : Around) (env : Env) (h : Heap) (st : List Stmt) (Φ : Flow → Heap → Prop) : Prop := T prog w A (execs st env) h fun f h' => But env.locals h h' ∧ Φ f h'
/-- goes on, with this -/
def go (P : Heap → Prop) : Flow → Heap → Prop := fun f h => f = .next ∧ P h
/-- hands back -/
def back (fr : Option Addr) (d : D) : Flow → Heap → Prop := fun f h => ∃ v, f = .ret v ∧ d.at' fr v h
theorem Xs.nil {Φ : Flow → Heap → Prop} (x : Φ .next h) : Xs prog w A env h [] Φ := fun s Q E e k => wpAny_execs_nil (by subst e; exact k _ s.heap s.toks ⟨But.refl _ _, x⟩)
theorem Xs.cons {st : Stmt} {rest : List Stmt} {P : Heap → Prop} {Φ : Flow → Heap → Prop} (x : X prog w A env h st (go P)) (y : ∀ h', P h' → Xs prog w A env h' rest Φ) : Xs prog w A env h (st :: rest) Φ := by
  intro s Q E e k
  refine wpAny_execs_cons (x s _ E e fun f h' tk' p => ?_)
  obtain ⟨p₁, rfl, p₂⟩ := p
  exact y h' p₂ { s with heap := h', toks := tk' } Q E rfl fun f h'' tk'' q => k f h'' tk'' ⟨p₁.trans q.1, q.2⟩
theorem Xs.last {st : Stmt} {rest : List Stmt} {Φ : Flow → Heap → Prop} (x : X prog w A env h st fun f h' => (∃ v, f = .ret v) ∧ Φ f h') : Xs prog w A env h (st :: rest) Φ := by
  intro s Q E e k
  refine wpAny_execs_cons (x s _ E e fun f h' tk' p => ?_)
  obtain ⟨p₁, ⟨v, rfl⟩, p₂⟩ := p
  exact k _ h' tk' ⟨p₁, p₂⟩
theorem Xs.mono {st : List Stmt} {Φ Ψ : Flow → Heap → Prop} (x : Xs prog w A env h st Φ) (f : ∀ a h', Φ a h' → Ψ a h') : Xs prog w A env h st Ψ := T.mono x fun a h' p => ⟨p.1, f a h' p.2⟩
theorem X.mono {st : Stmt} {Φ Ψ : Flow → Heap → Prop} (x : X prog w A env h st Φ) (f : ∀ a h', Φ a h' → Ψ a h') : X prog w A env h st Ψ := T.mono x fun a h' p => ⟨p.1, f a h' p.2⟩
/-- the first goes on or hands back; behind it the rest -/
theorem Xs.cons' {st : Stmt} {rest : List Stmt} {P : Heap → Prop} {Φ : Flow → Heap → Prop} (x : X prog w A env h st fun f h' => go P f h' ∨ ((∃ v, f = .ret v) ∧ Φ f h')) (y : ∀ h', P h' → Xs prog w A env h' rest Φ) : Xs prog w A env h (st :: rest) Φ := by
  intro s Q E e k
  refine wpAny_execs_cons (x s _ E e fun f h' tk' p => ?_)
  obtain ⟨p₁, ⟨rfl, p₂⟩ | ⟨⟨v, rfl⟩, p₂⟩⟩ := p
  · exact y h' p₂ { s with heap := h', toks := tk' } Q E rfl fun f h'' tk'' q => k f h'' tk'' ⟨p₁.trans q.1, q.2⟩
  · exact k _ h' tk' ⟨p₁, p₂⟩

theorem X.assign {x : Str} {p pos : Pos} {e : Expr} {d : D} (F : Fm K h₀ env μ h) (y : Ev prog w A env h e d) (hx : env.kindOf x = some .local ∨ (env.kindOf x = some .cell ∧ (env.cells.lookup x).isSome = true))
    (hs : swapsWith e (some (.Name x p)) pos.line env = pure false := by rfl) : X prog w A env h (.Assign [.Name x p] e pos) (go (Fm K h₀ env ((x, d) :: μ))) := by
  intro s Q E q k
  subst q
  refine wpAny_Assign_Name (y _ (Gr.refl _) s _ E rfl fun v h₁ t₁ p₁ => Fm.store (F.mono p₁.1) hx p₁.2 _ _ E rfl fun _ h₂ t₂ p₂ => ?_) hs
  exact k .next h₂ t₂ ⟨p₁.1.but.trans p₂.1, rfl, p₂.2⟩

theorem Ev.tup {es : List Expr} {n : Nat} {pos : Pos} {ds : List D} (y : Evs prog w A env h pos es ds) (hz : es.length ≤ 1000) (hl : ds.length = es.length) : Ev prog w A env h (.Tuple es n pos) (D.tup ds) := by
  intro h' g s Q E e k
  subst e
  refine PyProof.Rows.Tuple_ (y _ g s _ E rfl fun vs h₁ t₁ p₁ => ?_)
  refine wpAny_newObj_type (k _ _ t₁ ⟨p₁.1.trans (Gr.push _ _), _, vs, rfl, ⟨_, Heap.get?_push_size _ rfl, rfl, 0, rfl⟩, p₁.2.imp fun u d q => d.mono q (Gr.push _ _)⟩) ?_
  show vs.toArray.size ≤ sizeLine
  rw [List.size_toArray, p₁.2.length, hl, sizeLine_eq]; omega
theorem Ev.disp {es : List Expr} {pos : Pos} {ds : List D} (y : Evs prog w A env h pos es ds) (hz : es.length ≤ 1000) (hl : ds.length = es.length) : Ev prog w A env h (.List es pos) (D.list ds) := by
  intro h' g s Q E e k
  subst e
  refine PyProof.Rows.List_ (y _ g s _ E rfl fun vs h₁ t₁ p₁ => ?_)
  refine wpAny_newObj_type (k _ _ t₁ ⟨p₁.1.trans (Gr.push _ _), _, vs, rfl, ⟨_, Heap.get?_push_size _ rfl, rfl, 0, rfl⟩, p₁.2.imp fun u d q => d.mono q (Gr.push _ _)⟩) ?_
  show vs.toArray.size ≤ sizeLine
  rw [List.size_toArray, p₁.2.length, hl, sizeLine_eq]; omega

theorem extBut_gr {h h' : Heap} (x : Heap.ExtBut h.objs.size h h') : Gr h h' := fun b o e => x b o (Nat.ne_of_lt (Heap.lt_size e)) e
/-- two names at once -/
theorem X.assign2 {x y : Str} {p p' q pos : Pos} {n : Nat} {e : Expr} {d d' : D} (hh : A.handled = none) (F : Fm K h₀ env μ h) (z : Ev prog w A env h e (D.tup [d, d']))
    (hx : env.kindOf x = some .local ∨ (env.kindOf x = some .cell ∧ (env.cells.lookup x).isSome = true)) (hy : env.kindOf y = some .local ∨ (env.kindOf y = some .cell ∧ (env.cells.lookup y).isSome = true))
    (hs : swapsWithSole [.Tuple [.Name x p, .Name y p'] n q] e pos.line env = pure false := by rfl) (hw : swappedStores [.Tuple [.Name x p, .Name y p'] n q] e env = pure none := by rfl) :
    X prog w A env h (.Assign [.Tuple [.Name x p, .Name y p'] n q] e pos) (go (Fm K h₀ env ((y, d') :: (x, d) :: μ))) := by
  intro s Q E qq k
  subst qq
  refine PyProof.Rows.Assign_Tuple (z _ (Gr.refl _) s _ E rfl fun v h₁ t₁ p₁ => ?_) hs hw
  obtain ⟨g₁, a, vs, rfl, ht, hv⟩ := p₁
  obtain ⟨v, v', rfl, hd, hd'⟩ := hv.two
  refine PyProof.Rows.assign_Tuple_tuple hh ht rfl rfl fun h₂ he => ?_
  have g₂ := extBut_gr he
  show wpAny _ A (assignInOrder [PySem.assign (.Name x p) env, PySem.assign (.Name y p') env] [v, v']) _ _ _
  refine assignInOrder_cons (PyProof.Rows.assign_Name (Fm.store (F.mono (g₁.trans g₂)) hx (d.mono hd g₂) _ _ E rfl fun _ h₃ t₃ p₃ => ?_))
  refine assignInOrder_cons (PyProof.Rows.assign_Name (Fm.store p₃.2 hy (d := d') ?_ _ _ E rfl fun _ h₄ t₄ p₄ => assignInOrder_nil ?_))
  · obtain ⟨m, nn⟩ := F.ns
    have := d'.mono hd' g₂
    rw [F.fr] at this ⊢
    exact d'.stay this (nn.keeps (g₁.trans g₂)) p₃.1.weak
  · exact k .next h₄ t₄ ⟨(g₁.trans g₂).but.trans (p₃.1.trans p₄.1), rfl, p₄.2⟩
/-- .. both of the frame: the later one is stored first -/
theorem X.assign2s {x y : Str} {p p' q pos : Pos} {n : Nat} {e : Expr} {d d' : D} (hh : A.handled = none) (F : Fm K h₀ env μ h) (z : Ev prog w A env h e (D.tup [d, d']))
    (hx : env.kindOf x = some .local ∨ (env.kindOf x = some .cell ∧ (env.cells.lookup x).isSome = true)) (hy : env.kindOf y = some .local ∨ (env.kindOf y = some .cell ∧ (env.cells.lookup y).isSome = true))
    (hs : swapsWithSole [.Tuple [.Name x p, .Name y p'] n q] e pos.line env = pure false := by rfl) (hw : swappedStores [.Tuple [.Name x p, .Name y p'] n q] e env = pure (some [x, y]) := by rfl) :
    X prog w A env h (.Assign [.Tuple [.Name x p, .Name y p'] n q] e pos) (go (Fm K h₀ env ((x, d) :: (y, d') :: μ))) := by
  intro s Q E qq k
  subst qq
  have key : ∀ v h₁ t₁, Gr s.heap h₁ → (D.tup [d, d']).at' env.frame v h₁ → wpAny (model prog w) A (unpackItems v 2 none) (fun items s₂ =>
      wpAny (model prog w) A (assignInOrder [bindName env y, bindName env x] items.reverse) (fun _ => Q .next) E s₂) E { s with heap := h₁, toks := t₁ } := by
    intro v h₁ t₁ g₁ hv
    obtain ⟨a, vs, rfl, ht, hv⟩ := hv
    obtain ⟨v, v', rfl, hd, hd'⟩ := hv.two
    have ht : IsTup h₁ a #[v, v'] := ht
    refine PyProof.Rows.unpackItems_tuple (items := #[v, v']) hh ht fun h₂ he => ?_
    have g₂ : Gr h₁ h₂ := extBut_gr he
    show wpAny _ A (assignInOrder [bindName env y, bindName env x] [v', v]) _ _ _
    refine assignInOrder_cons (PyProof.Rows.bindName_ (Fm.store (F.mono (g₁.trans g₂)) hy (d'.mono hd' g₂) _ _ E rfl fun _ h₃ t₃ p₃ => ?_))
    refine assignInOrder_cons (PyProof.Rows.bindName_ (Fm.store p₃.2 hx (d := d) ?_ _ _ E rfl fun _ h₄ t₄ p₄ => assignInOrder_nil ?_))
    · obtain ⟨m, nn⟩ := F.ns
      have := d.mono hd g₂
      rw [F.fr] at this ⊢
      exact d.stay this (nn.keeps (g₁.trans g₂)) p₃.1.weak
    · exact k .next h₄ t₄ ⟨(g₁.trans g₂).but.trans (p₃.1.trans p₄.1), rfl, p₄.2⟩
  refine PyProof.Rows.Assign_Tuple_swapped (names := [x, y]) (z _ (Gr.refl _) s _ E rfl fun v h₁ t₁ p₁ => key v h₁ t₁ p₁.1 p₁.2) hs hw

theorem X.ret {e : Expr} {pos : Pos} {d : D} (y : Ev prog w A env h e d) : X prog w A env h (.Return (some e) pos) (back env.frame d) := by
  intro s Q E q k
  subst q
  exact wpAny_Return_some (y _ (Gr.refl _) s _ E rfl fun v h₁ t₁ p₁ => k _ h₁ t₁ ⟨p₁.1.but, v, rfl, p₁.2⟩)
theorem Xs.ret {e : Expr} {pos : Pos} {rest : List Stmt} {d : D} (y : Ev prog w A env h e d) : Xs prog w A env h (.Return (some e) pos :: rest) (back env.frame d) :=
  Xs.last ((X.ret y).mono fun f h' ⟨v, e, p⟩ => ⟨⟨v, e⟩, v, e, p⟩)
theorem X.if {t : Expr} {b o : List Stmt} {pos : Pos} {c : Bool} {Φ : Flow → Heap → Prop} (x : Ts prog w A env h t c) (y : c = true → ∀ h', Gr h h' → Xs prog w A env h' b Φ) (z : c = false → ∀ h', Gr h h' → Xs prog w A env h' o Φ) : X prog w A env h (.If t b o pos) Φ := by
  intro s Q E q k
  subst q
  refine wpAny_If (x _ (Gr.refl _) s _ E rfl fun v h₁ t₁ p₁ => ?_)
  obtain ⟨g, rfl⟩ := p₁
  cases v with
  | true => exact y rfl h₁ g _ _ E rfl fun f h₂ t₂ p₂ => k f h₂ t₂ ⟨g.but.trans p₂.1, p₂.2⟩
  | false => exact z rfl h₁ g _ _ E rfl fun f h₂ t₂ p₂ => k f h₂ t₂ ⟨g.but.trans p₂.1, p₂.2⟩
/-- an if that does not do its body -/
theorem X.skip {t : Expr} {b : List Stmt} {pos : Pos} {c : Bool} (F : Fm K h₀ env μ h) (x : Ts prog w A env h t c) (hc : c = false) : X prog w A env h (.If t b [] pos) (go (Fm K h₀ env μ)) :=
  X.if x (fun q => by rw [hc] at q; cases q) fun _ h' g => Xs.nil ⟨rfl, F.mono g⟩
/-- x op= e, of ints -/
theorem X.aug {x : Str} {p pos : Pos} {op : Operator} {e : Expr} {a b c : Int} (F : Fm K h₀ env μ h) (hl : μ.lookup x = some (D.int a)) (y : Ev prog w A env h e (D.int b))
    (f : ∀ (s : Shared) (t u : Tok) (Q : Value → Shared → Prop) (E : Value → Shared → Prop), Q (.int c s.toks) { s with toks := s.toks + 1 } → wpAny (model prog w) A (inplaceOp op (.int a t) (.int b u)) Q E s)
    (hx : env.kindOf x = some .local ∨ (env.kindOf x = some .cell ∧ (env.cells.lookup x).isSome = true)) : X prog w A env h (.AugAssign (.Name x p) op e pos) (go (Fm K h₀ env ((x, D.int c) :: μ))) := by
  intro s Q E q k
  subst q
  refine wpAny_AugAssign_Name ?_
  obtain ⟨v, av, t, rfl⟩ := F.cx.nm x _ hl
  have rest : wpAny (model prog w) A (eval e env) (fun v s₂ => wpAny (model prog w) A (inplaceOp op (.int a t) v) (fun r s₃ => wpAny (model prog w) A (storeName env x r) (fun _ => Q .next) E s₃) E s₂) E s := by
    refine y _ (Gr.refl _) s _ E rfl fun v h₁ t₁ p₁ => ?_
    obtain ⟨g, u, rfl⟩ := p₁
    refine f _ t u _ E (Fm.store (F.mono g) hx (d := D.int c) ⟨_, rfl⟩ _ _ E rfl fun _ h₂ t₂ p₂ => ?_)
    exact k .next h₂ t₂ ⟨g.but.trans p₂.1, rfl, p₂.2⟩
  rcases av with ⟨kl, m, n, q⟩ | ⟨kc, cc, l, i⟩
  · exact wpAny_loadName_local F.cx.kind kl n q rest
  · exact wpAny_loadName_cell F.cx.kind kc l i rest

/-! ## a call of an own def -/
def room (n : Nat) (A : Around) : Prop := A.handled = none ∧ A.depth + n < recursionLimit ∧ A.units + 10 * n < cLine
theorem room.le {n m : Nat} (r : room n A) (l : m ≤ n) : room m A := ⟨r.1, by have := r.2.1; omega, by have := r.2.2; omega⟩
theorem room.deeper {n : Nat} (r : room (n + 1) A) (env : Env) : room n (A.deeper env) := ⟨r.1, by have := r.2.1; show A.depth + 1 + n < _; omega, by have := r.2.2; show A.units + 3 + 10 * n < _; omega⟩
theorem room.in1 {n : Nat} (r : room (n + 1) A) : room n A.in1 := ⟨r.1, by have := r.2.1; show A.depth + n < _; omega, by have := r.2.2; show A.units + 1 + 10 * n < _; omega⟩

theorem Cl_look {cs : List (Str × Addr)} (ap : cs.Pairwise fun x y => x.2 ≠ y.2) {x y : Str} {c : Addr} (e : cs.lookup x = some c) (e' : cs.lookup y = some c) : x = y := name_of_addr ap (mem_of_lookup e) (mem_of_lookup e')

/-- the frame that a call of the def lays -/
def fenv (fd : FuncData) (h : Heap) (f : Addr) : Env := callEnvC fd h.objs.size f
def bindD (fd : FuncData) (ns : List Str) (vs : List Value) : List (Str × Value) := ns.zip vs
theorem lookup_bindL (kind : Str → Option NameKind) : ∀ (binds : List (Str × Value)) (m : Str → Option Value) (x : Str), kind x = some .local → (binds.map (·.1)).Nodup →
    bindL kind binds m x = (binds.lookup x).or (m x)
  | [], m, x, _, _ => by simp [bindL]
  | (n, v) :: r, m, x, hk, nd => by
    unfold bindL
    rw [List.map_cons, List.nodup_cons] at nd
    rw [lookup_bindL kind r _ x hk nd.2, List.lookup_cons]
    by_cases q : x = n
    · subst q
      have : r.lookup x = none := by
        cases e : r.lookup x with
        | none => rfl
        | some u => exact absurd (List.mem_map_of_mem (mem_of_lookup e)) nd.1
      simp [this, hk]
    · have : (x == n) = false := beq_eq_false_iff_ne.mpr q
      rw [this]
      congr 1
      split <;> simp [q]
theorem lookup_bindC (kind : Str → Option NameKind) : ∀ (binds : List (Str × Value)) (m : Str → Option Value) (x : Str), kind x = some .cell → (binds.map (·.1)).Nodup →
    bindC kind binds m x = (binds.lookup x).or (m x)
  | [], m, x, _, _ => by simp [bindC]
  | (n, v) :: r, m, x, hk, nd => by
    unfold bindC
    rw [List.map_cons, List.nodup_cons] at nd
    rw [lookup_bindC kind r _ x hk nd.2, List.lookup_cons]
    by_cases q : x = n
    · subst q
      have : r.lookup x = none := by
        cases e : r.lookup x with
        | none => rfl
        | some u => exact absurd (List.mem_map_of_mem (mem_of_lookup e)) nd.1
      simp [this, hk]
    · have : (x == n) = false := beq_eq_false_iff_ne.mpr q
      rw [this]
      congr 1
      split <;> simp [q]

theorem All2.lookup {R : Value → D → Prop} : ∀ {ns : List Str} {vs : List Value} {ds : List D}, All2 R vs ds → ∀ {x : Str} {d : D}, (ns.zip ds).lookup x = some d → ∃ v, (ns.zip vs).lookup x = some v ∧ R v d
  | [], _, _, _, x, d, e => by simp at e
  | n :: ns, _, _, .nil, x, d, e => by simp at e
  | n :: ns, _, _, .cons (a := a) z r, x, d, e => by
    rw [List.zip_cons_cons, List.lookup_cons] at e ⊢
    cases q : x == n with
    | true => rw [q] at e; cases e; exact ⟨a, rfl, z⟩
    | false => rw [q] at e; exact r.lookup e

/-- what a def does for these arguments: told once -/
theorem call_core {fd : FuncData} {body : List Stmt} {f : Addr} {o : Obj} {ns : List Str} {vs : List Value} {ds : List D} {args : Args} {Φ : Value → Heap → Prop} {fr : Option Addr}
    (hroom : A.depth < recursionLimit) (gd : Gd K h) (ho : K.lookup f = some o) (hdata : o.data = .func fd) (hcd : codeIn K fd.code fd.qualname = true) (hbody : fd.body = .stmts body)
    (hbind : ∀ s : Shared, s.heap = h → BindsTo s fd args (ns.zip vs)) (hclo : fd.closure = []) (hg : fd.globals = mainGlobals) (hb : fd.builtins = builtinsNs)
    (hlen : ns.length = vs.length) (hnd : ns.Nodup) (hv : All2 (fun v d => d.at' fr v h) vs ds)
    (hkind : (ns.all fun x => fd.scope.names.lookup x == some .local || fd.scope.names.lookup x == some .cell) = true)
    (hbd : ∀ h₁, Gr h h₁ → Fm K h (fenv fd h f) (ns.zip ds) h₁ → T prog w (A.deeper (fenv fd h f)) (execs body (fenv fd h f)) h₁ fun fl h' => Φ (match fl with | .ret v => v | _ => .none) h')
    (hco : fd.scope.isCoroutine = false := by rfl) (hgen : fd.scope.isGenerator = false := by rfl) (hk : fd.scope.kind = .function := by rfl) :
    ∀ (s : Shared) (R : Result → Shared → Prop), s.heap = h → (∀ v h' tk', Φ v h' → R (.ok (.ret v)) { s with heap := h', toks := tk' }) → codeAny (model prog w) A (.call (.ref f) args) R s := by
  intro s R e k
  subst e
  have hlim : s.heap.NoLimit := by obtain ⟨p, l, mg, mb, t⟩ := gd.top; exact t.nolimit
  have hmap : (ns.zip vs).map (·.1) = ns := by rw [List.map_fst_zip]; omega
  have hkind : ∀ x ∈ ns, fd.scope.names.lookup x = some .local ∨ (fd.scope.names.lookup x = some .cell ∧ ((cellsFrom (s.heap.objs.size + 1) fd.scope.names []).lookup x).isSome = true) := fun x hx => by
    have := List.all_eq_true.mp hkind x hx
    rw [Bool.or_eq_true, beq_iff_eq, beq_iff_eq] at this
    exact this.imp id fun q => ⟨q, cellsFrom_some _ _ _ (.inl q)⟩
  refine codeAny_call_function hroom (gd.X _ _ ho) hdata hco hgen hbody (codeRec_of gd.X hcd) (hbind s rfl _ _ _ _ ?_)
  rw [hclo]
  refine wpAny_newFunctionEnv_cells hk (fun x hx => hkind x.1 (List.of_mem_zip (show (x.1, x.2) ∈ ns.zip vs from hx)).1) fun env he s' x => ?_
  refine ⟨hlim.keeps x.toInCall.keep, codeAny_func ?_⟩
  have he' : env = fenv fd s.heap f := he
  subst he'
  obtain ⟨h₁, tk, rfl, _⟩ := x.done
  have g : Gr s.heap h₁ := x.toInCall.keep
  have F : Fm K s.heap (fenv fd s.heap f) (ns.zip ds) h₁ := by
    refine ⟨⟨hk, hg, hb, gd.mono g, fun y d e => ?_, ns_live rfl x.toInCall.ns⟩, gd, ⟨_, x.toInCall.ns⟩, fun y c e => ⟨_, x.cell y c e⟩, fun y z c e e' => Cl_look x.apart e e', g, Nat.le_refl _, fun y c e => x.above y c (mem_of_lookup e), rfl⟩
    obtain ⟨v, ev, dv⟩ := hv.lookup e
    have hyn : y ∈ ns := (List.of_mem_zip (mem_of_lookup ev)).1
    refine ⟨v, ?_, d.mono (d.enter dv (Nat.le_refl _)) g⟩
    rcases hkind y hyn with q | ⟨q, q'⟩
    · refine .inl ⟨q, _, x.toInCall.ns, ?_⟩
      rw [lookup_bindL _ _ _ _ q (by rw [hmap]; exact hnd), ev]; rfl
    · obtain ⟨c, hc⟩ := Option.isSome_iff_exists.mp q'
      refine .inr ⟨q, c, hc, ?_⟩
      have := x.cell y c hc
      rw [lookup_bindC _ _ _ _ q (by rw [hmap]; exact hnd), ev] at this
      exact this
  refine wpAny_mono (hbd h₁ g F { s with heap := h₁, toks := tk } (fun fl s' => R (.ok (.ret (match fl with | .ret v => v | _ => .none))) s') (fun _ _ => False) rfl fun fl h' tk' p => k _ h' tk' p) (fun _ _ q => q) fun _ _ q => q.elim
/-- .. of a def that leaves all that stood -/
theorem call_own {fd : FuncData} {body : List Stmt} {f : Addr} {o : Obj} {ns : List Str} {vs : List Value} {ds : List D} {args : Args} {Φ : Value → Heap → Prop} {fr : Option Addr}
    (hroom : A.depth < recursionLimit) (gd : Gd K h) (ho : K.lookup f = some o) (hdata : o.data = .func fd) (hcd : codeIn K fd.code fd.qualname = true) (hbody : fd.body = .stmts body)
    (hbind : ∀ s : Shared, s.heap = h → BindsTo s fd args (ns.zip vs)) (hclo : fd.closure = []) (hg : fd.globals = mainGlobals) (hb : fd.builtins = builtinsNs)
    (hlen : ns.length = vs.length) (hnd : ns.Nodup) (hv : All2 (fun v d => d.at' fr v h) vs ds)
    (hkind : (ns.all fun x => fd.scope.names.lookup x == some .local || fd.scope.names.lookup x == some .cell) = true)
    (hbd : ∀ h₁, Gr h h₁ → Fm K h (fenv fd h f) (ns.zip ds) h₁ → Xs prog w (A.deeper (fenv fd h f)) (fenv fd h f) h₁ body fun fl h' => Gr h h' → Φ (match fl with | .ret v => v | _ => .none) h')
    (hco : fd.scope.isCoroutine = false := by rfl) (hgen : fd.scope.isGenerator = false := by rfl) (hk : fd.scope.kind = .function := by rfl) :
    ∀ (s : Shared) (R : Result → Shared → Prop), s.heap = h → (∀ v h' tk', Gr h h' → Φ v h' → R (.ok (.ret v)) { s with heap := h', toks := tk' }) → codeAny (model prog w) A (.call (.ref f) args) R s := by
  intro s R e k
  refine call_core (Φ := fun v h' => Gr h h' ∧ Φ v h') hroom gd ho hdata hcd hbody hbind hclo hg hb hlen hnd hv hkind (fun h₁ g F => T.mono (hbd h₁ g F) fun fl h' p => ?_) hco hgen hk s R e fun v h' tk' q => k v h' tk' q.1 q.2
  have g' : Gr h h' := fun b o e => p.1 b o (g b o e) (.inl (Heap.lt_size e))
  exact ⟨g', p.2 g'⟩

end Mine
end Core3x
section Core4x
open PySem PySem.W PyProof.Rows PySem.Calls
namespace Mine
variable {prog : Program} {w : World} {A : Around} {K : Frag} {env : Env} {μ : Names} {h h₀ : Heap}

/-- a list made behind lo -/
def D.listGt (lo : Nat) (ds : List D) : D where
  at' f v h := ∃ a vs, v = .ref a ∧ lo ≤ a ∧ h.IsList a (List.toArray vs) ∧ All2 (fun u d => d.at' f u h) vs ds
  mono := fun ⟨a, vs, e, z, l, r⟩ g => ⟨a, vs, e, z, isList_grow l g, r.imp fun _ d x => d.mono x g⟩
  stay := fun ⟨a, vs, e, z, l, r⟩ n b => ⟨a, vs, e, z, isList_but l n b, r.imp fun _ d x => d.stay x n b⟩
  enter := fun ⟨a, vs, e, z, l, r⟩ g => ⟨a, vs, e, z, l, r.imp fun _ d x => d.enter x g⟩
theorem D.listGt.plain {lo : Nat} {ds : List D} {f : Option Addr} {v : Value} {h : Heap} (x : (D.listGt lo ds).at' f v h) : (D.list ds).at' f v h := let ⟨a, vs, e, _, r⟩ := x; ⟨a, vs, e, r⟩

/-! ## what a loop draws from -/
structure Pl (prog : Program) (w : World) (A : Around) (tg : Expr) (it : Value) (env' : Env) (hb : Heap) (n : Nat) (μs : Nat → Names) (fp wr : List Addr) (St : Nat → Heap → Prop) : Prop where
  sub : ∀ b ∈ wr, b ∈ fp
  fresh : ∀ b ∈ wr, hb.objs.size ≤ b
  frame : ∀ i h h', St i h → (∀ b ∈ fp, ∀ o, h.get? b = some o → h'.get? b = some o) → St i h'
  more : ∀ i (s : Shared) (Q : Shared → Prop) (E : Value → Shared → Prop) m, i < n → St i s.heap → Gr hb s.heap → s.heap.Ns env'.locals m → env'.locals ∉ fp → hb.objs.size ≤ env'.locals →
    (∀ h' tk m', St (i + 1) h' → Gr hb h' → h'.Ns env'.locals m' → (∀ x d, (μs i).lookup x = some d → ∃ v, m' x = some v ∧ d.at' env'.frame v hb) → (∀ x, (μs i).lookup x = none → m' x = m x) →
      (∀ b o, b ∉ wr → b ≠ env'.locals → s.heap.get? b = some o → h'.get? b = some o) → Q { s with heap := h', toks := tk }) →
    wpAny (model prog w) A (pyNext it) (fun r s₁ => ∃ v, r = some v ∧ wpAny (model prog w) A (letOwnedTupleGo tg it v) (fun _ s₂ => wpAny (model prog w) A (PySem.assign tg env' v) (fun _ s₃ => Q s₃) E s₂) E s₁) E s
  done : ∀ (s : Shared) (Q : Shared → Prop) (E : Value → Shared → Prop), St n s.heap → (∀ h' tk, (∀ b o, b ∉ wr → s.heap.get? b = some o → h'.get? b = some o) → Q { s with heap := h', toks := tk }) →
    wpAny (model prog w) A (pyNext it) (fun r s₁ => r = none ∧ Q s₁) E s
  self : ∀ i (s : Shared) (Q : Shared → Prop) (E : Value → Shared → Prop), St i s.heap → Q s → wpAny (model prog w) A (pyIter it) (fun v s₁ => v = it ∧ Q s₁) E s

def tgLocal (tg : Expr) (env' : Env) : Prop := env'.scope.kind = .function ∧ match tg with
  | .Name x _ => env'.kindOf x = some .local
  | .Tuple [.Name x _, .Name y _] _ _ => env'.kindOf x = some .local ∧ env'.kindOf y = some .local ∧ x ≠ y
  | _ => False

theorem Pl.name {x : Str} {px : Pos} {I : Addr} {env' : Env} {hb : Heap} {n : Nat} {ds : Nat → D} {fp wr : List Addr} {St : Nat → Heap → Prop} {P : Nat → Value → Prop}
    (W : Walks prog w A I fp wr n P St) (hf : ∀ b ∈ wr, hb.objs.size ≤ b) (hP : ∀ i v, i < n → P i v → (ds i).at' env'.frame v hb) (ht : tgLocal (.Name x px) env') :
    Pl prog w A (.Name x px) (.ref I) env' hb n (fun i => [(x, ds i)]) fp wr St where
  sub := W.sub
  fresh := hf
  frame := W.frame
  more := by
    intro i s Q E m hi st gb hn hL hLb k
    refine W.item i s _ E hi st fun v h₁ tk₁ pv st₁ kp => ⟨v, rfl, ?_⟩
    have hLw : env'.locals ∉ wr := fun q => hL (W.sub _ q)
    have gb₁ : Gr hb h₁ := fun b o e => kp b o (fun q => Nat.lt_irrefl _ (Nat.lt_of_lt_of_le (Heap.lt_size e) (hf b q))) (gb b o e)
    refine wpAny_of_eq (show letOwnedTupleGo (.Name x px) (.ref I) v = pure () from rfl) ?_
    refine wpAny_assign_Name (wpAny_storeName_local ht.2 (hn.at' fun o e => kp _ o hLw e) (fun h₂ hn₂ hs₂ => ?_) (by rw [ht.1]; rfl))
    have gb₂ : Gr hb h₂ := fun b o e => hs₂.extBut b o (fun q => by rw [q] at e; exact Nat.lt_irrefl _ (Nat.lt_of_lt_of_le (Heap.lt_size e) hLb)) (gb₁ b o e)
    refine k h₂ _ _ (W.frame _ _ _ st₁ fun b hbf o e => hs₂.extBut b o (fun q => hL (q ▸ hbf)) e) gb₂ hn₂ (fun y d e => ?_) (fun y e => ?_) fun b o hbw hbL e => hs₂.extBut b o hbL (kp b o hbw e)
    · rw [List.lookup_cons] at e
      by_cases q : y = x
      · subst q
        rw [beq_self_eq_true] at e; cases e
        exact ⟨v, by simp, hP i v hi pv⟩
      · rw [beq_eq_false_iff_ne.mpr q] at e; cases e
    · rw [List.lookup_cons] at e
      by_cases q : y = x
      · subst q; rw [beq_self_eq_true] at e; cases e
      · simp [q]
  done := fun s Q E st k => W.done s _ E st fun h' tk kp => ⟨rfl, k h' tk kp⟩
  self := fun i s Q E st k => W.self i s _ E st ⟨rfl, k⟩

theorem Pl.pair {x y : Str} {px py q : Pos} {c : Nat} {I : Addr} {env' : Env} {hb : Heap} {n : Nat} {ds ds' : Nat → D} {fp wr : List Addr} {St : Nat → Heap → Prop} {P : Nat → Array Value → Prop} {Mid : Nat → Addr → Heap → Prop}
    (hh : A.handled = none) (W : WalksT prog w A I fp wr n P St Mid) (hf : ∀ b ∈ wr, hb.objs.size ≤ b)
    (hP : ∀ i vs, i < n → P i vs → ∃ u v, vs = #[u, v] ∧ (ds i).at' env'.frame u hb ∧ (ds' i).at' env'.frame v hb) (ht : tgLocal (.Tuple [.Name x px, .Name y py] c q) env') :
    Pl prog w A (.Tuple [.Name x px, .Name y py] c q) (.ref I) env' hb n (fun i => [(x, ds i), (y, ds' i)]) fp wr St where
  sub := W.sub
  fresh := hf
  frame := W.frame
  more := by
    intro i s Q E m hi st gb hn hL hLb k
    refine W.item i s _ E hi st fun t vs h₁ tk₁ pv ht₁ hT mid kp => ⟨_, rfl, ?_⟩
    have hLw : env'.locals ∉ wr := fun q => hL (W.sub _ q)
    obtain ⟨u, v, rfl, du, dv⟩ := hP i vs hi pv
    have gb₁ : Gr hb h₁ := fun b o e => kp b o (fun q => Nat.lt_irrefl _ (Nat.lt_of_lt_of_le (Heap.lt_size e) (hf b q))) (gb b o e)
    refine W.go _ _ _ i t _ _ E mid fun h₂ st₂ kp₂ => ?_
    have gb₂ : Gr hb h₂ := fun b o e => kp₂ b o (fun q => Nat.lt_irrefl _ (Nat.lt_of_lt_of_le (Heap.lt_size e) (hf b q))) (gb₁ b o e)
    have hT₂ : h₂.IsTuple t #[u, v] := hT.at fun o e => kp₂ t o (W.apart _ _ _ mid) e
    refine wpAny_bind (wpAny_standAt (wpAny_unpack_tuple hh hT₂ rfl rfl fun h₃ he => ?_))
    have g₃ : Gr h₂ h₃ := extBut_gr he
    obtain ⟨hk, hx, hy, hxy⟩ := ht
    have hn₃ := ((hn.at' fun o e => kp _ o hLw e).at' fun o e => kp₂ _ o hLw e).keeps g₃
    show wpAny _ A (assignInOrder [PySem.assign (.Name x px) env', PySem.assign (.Name y py) env'] [u, v]) _ _ _
    refine assignInOrder_cons (wpAny_assign_Name (wpAny_storeName_local hx hn₃ (fun h₄ hn₄ hs₄ => ?_) (by rw [hk]; rfl)))
    refine assignInOrder_cons (wpAny_assign_Name (wpAny_storeName_local hy hn₄ (fun h₅ hn₅ hs₅ => assignInOrder_nil ?_) (by rw [hk]; rfl)))
    have g₅ : ∀ b o, b ≠ env'.locals → h₃.get? b = some o → h₅.get? b = some o := fun b o hb e => hs₅.extBut b o hb (hs₄.extBut b o hb e)
    have gb₅ : Gr hb h₅ := fun b o e => g₅ b o (fun q => by rw [q] at e; exact Nat.lt_irrefl _ (Nat.lt_of_lt_of_le (Heap.lt_size e) hLb)) (g₃ b o (gb₂ b o e))
    refine k h₅ _ _ (W.frame _ _ _ st₂ fun b hbf o e => g₅ b o (fun q => hL (q ▸ hbf)) (g₃ b o e)) gb₅ hn₅ (fun z d e => ?_) (fun z e => ?_) fun b o hbw hbL e => g₅ b o hbL (g₃ b o (kp₂ b o hbw (kp b o hbw e)))
    · rw [List.lookup_cons] at e
      by_cases q : z = x
      · subst q
        rw [beq_self_eq_true] at e; cases e
        exact ⟨u, by simp [hxy], du⟩
      · rw [beq_eq_false_iff_ne.mpr q, List.lookup_cons] at e
        by_cases q' : z = y
        · subst q'
          rw [beq_self_eq_true] at e; cases e
          exact ⟨v, by simp, dv⟩
        · rw [beq_eq_false_iff_ne.mpr q'] at e; cases e
    · rw [List.lookup_cons] at e
      by_cases q : z = x
      · subst q; rw [beq_self_eq_true] at e; cases e
      · rw [beq_eq_false_iff_ne.mpr q, List.lookup_cons] at e
        by_cases q' : z = y
        · subst q'; rw [beq_self_eq_true] at e; cases e
        · simp [q, q']
  done := fun s Q E st k => W.done s _ E st fun h' tk kp => ⟨rfl, k h' tk kp⟩
  self := fun i s Q E st k => W.self i s _ E st ⟨rfl, k⟩

/-- an iterable in a loop's head -/
def Src (prog : Program) (w : World) (A : Around) (env : Env) (h : Heap) (iter tg : Expr) (n : Nat) (μs : Nat → Names) : Prop :=
  ∀ (s : Shared) (Q : Value → Shared → Prop) (E : Value → Shared → Prop), Gr h s.heap →
    (∀ it h' tk' hb fp wr St, Gr s.heap hb → Gr hb h' → (∀ env', tgLocal tg env' → env'.frame = env.frame → Pl prog w A tg it env' hb n μs fp wr St) → (∃ I, it = .ref I) → St 0 h' → (∀ b ∈ fp, b < h'.objs.size) → hb.objs.size ≤ h'.objs.size → Q it { s with heap := h', toks := tk' }) →
    wpAny (model prog w) A (eval iter env) (fun x s₁ => wpAny (model prog w) A (pyIter x) Q E s₁) E s
theorem Src.up {iter tg : Expr} {n : Nat} {μs : Nat → Names} {h' : Heap} (x : Src prog w A env h iter tg n μs) (g : Gr h h') : Src prog w A env h' iter tg n μs := fun s Q E g' k => x s Q E (g.trans g') k

theorem Src.list {iter : Expr} {x : Str} {px : Pos} {ds : List D} {dz : D} (hh : A.handled = none) (y : Ev prog w A env h iter (D.list ds)) : Src prog w A env h iter (.Name x px) ds.length (fun i => [(x, ds.getD i dz)]) := by
  intro s Q E g k
  refine y _ g s _ E rfl fun v h₁ t₁ p₁ => ?_
  obtain ⟨g₁, a, vs, rfl, l, r⟩ := p₁
  have hlt : a < h₁.objs.size := by obtain ⟨o, ho, _⟩ := l; exact Heap.lt_size ho
  refine wpAny_pyIter_list l (k _ _ _ h₁ [h₁.objs.size, a] [h₁.objs.size] (fun i h => h.IsListIter h₁.objs.size a i ∧ h.IsList a vs.toArray) g₁ (Gr.push _ _) (fun env' ht hfr => ?_) ⟨_, rfl⟩ ⟨⟨_, Heap.get?_push_size _ rfl, rfl, rfl⟩, l.push _⟩ (fun b hb => ?_) (by rw [Heap.size_push]; exact Nat.le_succ _))
  · have W := Walks.list (prog := prog) (w := w) hh h₁.objs.size a (Nat.ne_of_lt hlt) vs.toArray
    rw [show vs.toArray.size = ds.length by rw [List.size_toArray]; exact r.length] at W
    refine Pl.name W (fun b hb => by rw [List.mem_singleton.mp hb]; exact Nat.le_refl _) (fun i v hi hv => ?_) ht
    obtain ⟨d, e, hd⟩ := r.get' i v (by simpa using hv)
    rw [hfr, List.getD_eq_getElem?_getD, e]; exact hd
  · show b < (h₁.push _).objs.size
    rw [Heap.size_push]
    rcases List.mem_cons.mp hb with rfl | hb
    · exact Nat.lt_succ_self _
    · rw [List.mem_singleton.mp hb]; exact Nat.lt_succ_of_lt hlt

theorem Src.range {iter : Expr} {x : Str} {px : Pos} {a b c : Int} {n : Nat} (hh : A.handled = none) (y : Ev prog w A env h iter (D.range a b c)) (hsm : Builtin.Range.small a b c = true) (hn : Builtin.Range.rangeSize a b c = ((n : Nat) : Int)) :
    Src prog w A env h iter (.Name x px) n (fun i => [(x, D.int (a + (i : Int) * c))]) := by
  intro s Q E g k
  refine y _ g s _ E rfl fun v h₁ t₁ p₁ => ?_
  obtain ⟨g₁, r, t, u, q, rfl, hr⟩ := p₁
  refine wpAny_pyIter_range (s := { s with heap := h₁, toks := t₁ }) hr hsm (k _ _ _ h₁ [h₁.objs.size] [h₁.objs.size] (fun i h => IsRangeIter h h₁.objs.size (a + (i : Nat) * c) ((n : Int) - (i : Nat)) c) g₁ (Gr.push _ _) (fun env' ht hfr => ?_) ⟨_, rfl⟩ ?_ (fun b hb => ?_) (by rw [Heap.size_push]; exact Nat.le_succ _))
  · refine Pl.name (Walks.range hh h₁.objs.size a c n) (fun b hb => by rw [List.mem_singleton.mp hb]; exact Nat.le_refl _) (fun i v hi hv => ?_) ht
    exact hv
  · show IsRangeIter _ _ _ _ _
    rw [hn]; simpa using Heap.get?_push_size _ rfl
  · show b < (h₁.push _).objs.size
    rw [List.mem_singleton.mp hb, Heap.size_push]; exact Nat.lt_succ_self _

theorem Src.enum {f e : Expr} {pos : Pos} {x y : Str} {px py q : Pos} {c : Nat} {ds : List D} {dz : D} (hh : A.handled = none) (z : Ev prog w A env h f (D.val (.type "enumerate"))) (ye : Ev prog w A env h e (D.list ds))
    (he : eval (.Call f [e] [] pos) env = (do callWith pos (← eval f env) [] (backTo pos (starEach [e] env)) (backToKw pos (keywordEach [] env))) := by rfl)
    (hs : starEach [e] env = (false, eval e env) :: starEach [] env := by rfl) :
    Src prog w A env h (.Call f [e] [] pos) (.Tuple [.Name x px, .Name y py] c q) ds.length (fun i => [(x, D.int i), (y, ds.getD i dz)]) := by
  intro s Q E g k
  refine Call_ (z _ g s _ E rfl fun v h₁ t₁ p₁ => ?_) he
  obtain ⟨g₁, p₁⟩ := p₁
  have p₁ : v = .type "enumerate" := p₁
  subst p₁
  refine callWith_type1 ?_ hs rfl
  refine args_cons (ye _ (g.trans g₁) _ _ E rfl fun v h₂ t₂ p₂ => args_nil ?_) hs
  obtain ⟨g₂, a, vs, rfl, l, r⟩ := p₂
  have hlt : a < h₂.objs.size := by obtain ⟨o, ho, _⟩ := l; exact Heap.lt_size ho
  refine call_enumerate_list l fun h₃ hen hit hsz kp => ?_
  have hsz : h₃.objs.size = h₂.objs.size + 2 := hsz
  have kp : Gr h₂ h₃ := kp
  refine wpAny_pyIter_enum hen ?_
  have hne : a ≠ h₂.objs.size := Nat.ne_of_lt hlt
  have Dr := Draws.list (prog := prog) (w := w) (A := A.in1) hh h₂.objs.size a hne vs.toArray
  have W := WalksT.enumerateD Dr (h₂.objs.size + 1) (Nat.succ_ne_self _) (fun m => by
    rcases List.mem_cons.mp m with q | m
    · exact Nat.succ_ne_self _ q
    · rw [← List.mem_singleton.mp m] at hlt; exact Nat.lt_irrefl _ (Nat.lt_of_succ_lt hlt)) List.mem_cons_self
  refine k _ _ _ h₂ [h₂.objs.size + 1, h₂.objs.size, a] [h₂.objs.size + 1, h₂.objs.size] (fun i h => (∃ old, IsEnum h (h₂.objs.size + 1) h₂.objs.size i old) ∧ (h.IsListIter h₂.objs.size a i ∧ h.IsList a vs.toArray)) (g₁.trans g₂) kp (fun env' ht hfr => ?_) ⟨_, rfl⟩ ⟨⟨_, by simpa using hen⟩, hit, isList_grow l kp⟩ (fun b hb => ?_) (by rw [hsz]; exact Nat.le_add_right _ _)
  · rw [show vs.toArray.size = ds.length by rw [List.size_toArray]; exact r.length] at W
    refine Pl.pair hh W (fun b hb => ?_) (fun i us hi hv => ?_) ht
    · rcases List.mem_cons.mp hb with rfl | hb
      · exact Nat.le_succ _
      · rw [List.mem_singleton.mp hb]; exact Nat.le_refl _
    · obtain ⟨t, v, hv, rfl⟩ := hv
      obtain ⟨d, e, hd⟩ := r.get' i v (by simpa using hv)
      refine ⟨_, _, rfl, ⟨t, rfl⟩, ?_⟩
      rw [hfr, List.getD_eq_getElem?_getD, e]; exact hd
  · show b < h₃.objs.size
    rw [hsz]
    rcases List.mem_cons.mp hb with rfl | hb
    · exact Nat.lt_succ_self _
    · rcases List.mem_cons.mp hb with rfl | hb
      · exact Nat.lt_succ_of_lt (Nat.lt_succ_self _)
      · rw [List.mem_singleton.mp hb]; exact Nat.lt_succ_of_lt (Nat.lt_succ_of_lt hlt)

end Mine
end Core4x
section Core5x
open PySem PySem.W PyProof.Rows PySem.Calls
namespace Mine
variable {prog : Program} {w : World} {A : Around} {K : Frag} {env : Env} {μ : Names} {h h₀ : Heap}

/-- a description that looks at no object below lo -/
def Far (lo : Nat) (d : D) : Prop := ∀ (f : Option Addr) (u : Value) (h h' : Heap), (∀ b o, lo ≤ b → h.get? b = some o → h'.get? b = some o) → d.at' f u h → d.at' f u h'
theorem Far.int {lo : Nat} {n : Int} : Far lo (D.int n) := fun _ _ _ _ _ x => x
theorem Far.listInts {lo : Nat} {ns : List Int} : Far lo (D.listGt lo (ns.map D.int)) := fun f u h h' g ⟨a, vs, e, z, ⟨o, ho, l⟩, r⟩ =>
  ⟨a, vs, e, z, ⟨o, g _ _ z ho, l⟩, All2.map_right ((All2.of_map_right r).imp fun _ _ x => x)⟩

/-! ## names closed over -/
def clos (names : List (Str × NameKind)) (env : Env) : List (Str × Addr) := names.foldl (fun cs p => if p.2 == .free then (p.1, (env.cells.lookup p.1).getD 0) :: cs else cs) []
theorem closureFor_clos {scope : Scope} (e : (scope.names.all fun y => y.2 != .free || (env.cells.lookup y.1).isSome) = true) : closureFor scope env = pure (clos scope.names env) := by
  have key : ∀ (names : List (Str × NameKind)) (acc : List (Str × Addr)), (names.all fun y => y.2 != .free || (env.cells.lookup y.1).isSome) = true →
      (forIn names acc (fun (x : Str × NameKind) (r : List (Str × Addr)) => if (x.2 == .free) = true then (do let a ← cellOf env x.1; pure (ForInStep.yield ((x.1, a) :: r))) else pure (ForInStep.yield r)) : Sem (List (Str × Addr)))
        = pure (names.foldl (fun cs p => if p.2 == .free then (p.1, (env.cells.lookup p.1).getD 0) :: cs else cs) acc) := by
    intro names
    induction names with
    | nil => intro acc _; rfl
    | cons x r ih =>
      intro acc ha
      rw [List.all_cons, Bool.and_eq_true] at ha
      rw [List.forIn_cons, List.foldl_cons]
      by_cases q : (x.2 == .free) = true
      · rw [if_pos q, if_pos q]
        have hs : (env.cells.lookup x.1).isSome = true := by
          have := ha.1
          have q' : (x.2 != NameKind.free) = false := by simpa using q
          rw [q', Bool.false_or] at this; exact this
        obtain ⟨c, hc⟩ := Option.isSome_iff_exists.mp hs
        have : cellOf env x.1 = pure c := by unfold cellOf; rw [hc]
        rw [this, hc]
        exact ih _ ha.2
      · rw [if_neg q, if_neg q]
        exact ih _ ha.2
  unfold closureFor clos
  have := key scope.names [] e
  simp only [bind_pure] at this ⊢
  exact this
theorem clos_lookup {x : Str} {env : Env} : ∀ {names : List (Str × NameKind)} {acc : List (Str × Addr)}, (∃ p ∈ names, p.1 = x ∧ p.2 = .free) ∨ acc.lookup x = some ((env.cells.lookup x).getD 0) →
    (names.foldl (fun cs p => if p.2 == .free then (p.1, (env.cells.lookup p.1).getD 0) :: cs else cs) acc).lookup x = some ((env.cells.lookup x).getD 0)
  | [], acc, h => by
    rcases h with ⟨p, hp, _⟩ | h
    · cases hp
    · exact h
  | p :: r, acc, h => by
    rw [List.foldl_cons]
    refine clos_lookup ?_
    by_cases q : (p.2 == .free) = true
    · rw [if_pos q]
      by_cases q' : x = p.1
      · right; subst q'; simp
      · have : (x == p.1) = false := beq_eq_false_iff_ne.mpr q'
        rcases h with ⟨p', hp, e, e'⟩ | h
        · rcases List.mem_cons.mp hp with rfl | hp
          · exact absurd e.symm q'
          · exact .inl ⟨p', hp, e, e'⟩
        · right; rw [List.lookup_cons, this]; exact h
    · rw [if_neg q]
      rcases h with ⟨p', hp, e, e'⟩ | h
      · rcases List.mem_cons.mp hp with rfl | hp
        · exact absurd (by rw [e']; rfl) q
        · exact .inl ⟨p', hp, e, e'⟩
      · exact .inr h

def capt (μ : Names) (xs : List Str) : Names := xs.filterMap fun x => (μ.lookup x).map fun d => (x, d)
theorem capt_lookup {μ : Names} {x : Str} {d : D} : ∀ {xs : List Str}, (capt μ xs).lookup x = some d → μ.lookup x = some d ∧ x ∈ xs
  | [], e => by simp [capt] at e
  | y :: r, e => by
    unfold capt at e
    rw [List.filterMap_cons] at e
    cases hy : μ.lookup y with
    | none =>
      rw [hy] at e
      obtain ⟨a, b⟩ := capt_lookup (xs := r) e
      exact ⟨a, List.mem_cons_of_mem _ b⟩
    | some d' =>
      rw [hy] at e
      simp only [Option.map_some, List.lookup_cons] at e
      by_cases q : x = y
      · subst q
        rw [beq_self_eq_true] at e
        exact ⟨by rw [hy]; exact e, List.mem_cons_self⟩
      · rw [beq_eq_false_iff_ne.mpr q] at e
        obtain ⟨a, b⟩ := capt_lookup (xs := r) e
        exact ⟨a, List.mem_cons_of_mem _ b⟩

def capOk (scope : Scope) (env : Env) (xs : List Str) : Bool := xs.all fun x => scope.names.lookup x == some .free && env.kindOf x == some .cell && (env.cells.lookup x).isSome
abbrev cenvOf (scope : Scope) (env : Env) (C : Addr) : Env := compEnvC scope (clos scope.names env) C env
theorem lookup_relabel_cell {env : Env} (hk : env.scope.kind = .function) : ∀ {names : List (Str × NameKind)} {x : Str}, names.lookup x = some .free → env.kindOf x = some .cell →
    (names.map fun (n, k) => if (k == NameKind.free && env.scope.kind == .function && env.kindOf n == some .cell) then (n, NameKind.cell) else (n, k)).lookup x = some .cell
  | [], _, h, _ => by simp at h
  | (n, k) :: r, x, h, hc => by
    have ih := @lookup_relabel_cell env hk r x
    show List.lookup x ((if (k == NameKind.free && env.scope.kind == .function && env.kindOf n == some .cell) = true then (n, NameKind.cell) else (n, k)) :: _) = _
    cases hx : x == n with
    | true =>
      simp only [List.lookup_cons, hx] at h
      cases h
      have e : x = n := beq_iff_eq.mp hx
      subst e
      simp [hk, hc]
    | false =>
      simp only [List.lookup_cons, hx] at h
      by_cases hq : (k == NameKind.free && env.scope.kind == .function && env.kindOf n == some .cell) = true
      · rw [if_pos hq]; simp only [List.lookup_cons, hx]; exact ih h hc
      · rw [if_neg hq]; simp only [List.lookup_cons, hx]; exact ih h hc

theorem Cx.comp {scope : Scope} {C : Addr} {m : Str → Option Value} {μl : Names} {xs : List Str} {hb h : Heap} (c : Cx K env μ hb) (g : Gr hb h) (hC : h.Ns C m)
    (hl : ∀ x d, μl.lookup x = some d → scope.names.lookup x = some .local ∧ ∃ v, m x = some v ∧ d.at' env.frame v h) (hx : capOk scope env xs = true) (hk : scope.kind = .function) :
    Cx K (cenvOf scope env C) (μl ++ capt μ xs) h := by
  refine ⟨hk, c.glob, c.blt, c.gd.mono g, fun x d e => ?_, fun L e => let ⟨o, q⟩ := c.live L e; ⟨o, g _ _ q⟩⟩
  rw [List.lookup_append] at e
  cases el : μl.lookup x with
  | some d' =>
    rw [el] at e
    cases e
    obtain ⟨q, v, a, b⟩ := hl x _ el
    exact ⟨v, .inl ⟨lookup_relabel_local q, m, hC, a⟩, b⟩
  | none =>
    rw [el, Option.none_or] at e
    obtain ⟨e', hm⟩ := capt_lookup e
    have hx' := List.all_eq_true.mp hx x hm
    rw [Bool.and_eq_true, Bool.and_eq_true] at hx'
    obtain ⟨⟨h1, h2⟩, h3⟩ := hx'
    obtain ⟨v, a, b⟩ := c.nm x d e'
    refine ⟨v, .inr ⟨lookup_relabel_cell c.kind (by simpa using h1) (by simpa using h2), ?_⟩, d.mono b g⟩
    rcases a with ⟨kl, _⟩ | ⟨_, cc, l, i⟩
    · rw [show env.kindOf x = some .cell by simpa using h2] at kl; cases kl
    · refine ⟨cc, ?_, i.keeps g⟩
      have := clos_lookup (env := env) (names := scope.names) (acc := []) (x := x) (.inl ⟨(x, .free), mem_of_lookup (by simpa using h1), rfl, rfl⟩)
      rw [l] at this
      exact this

/-! ## one clause's loop -/
abbrev testsTree (ifs : List Expr) (env : Env) : Sem Bool := forIn ifs true fun c r => if r = true then do let ok ← isTrue c env (eval c env); pure (ForInStep.yield ok) else pure (ForInStep.yield r)
def Tests (prog : Program) (w : World) (A : Around) (env : Env) (h : Heap) (ifs : List Expr) (b : Bool) : Prop := match ifs with
  | [] => b = true
  | [t] => Ts prog w A env h t b
  | _ => False
theorem Tests.tree {ifs : List Expr} {b : Bool} (x : Tests prog w A env h ifs b) : T prog w A (testsTree ifs env) h fun v h' => Gr h h' ∧ v = b := by
  intro s Q E e k
  subst e
  match ifs, x with
  | [], x =>
    have x : b = true := x
    exact wpAny_tests_nil (k _ s.heap s.toks ⟨Gr.refl _, x.symm⟩)
  | [t], x => exact wpAny_tests_one ((show Ts prog w A env s.heap t b from x) _ (Gr.refl _) s _ E rfl k)

abbrev turnTree (e elt tg iter : Expr) (ifs : List Expr) (dep : Nat) (it acc : Value) (env : Env) : Sem Fin := (do
      standAt iter.pos
      match ← pyNext it with
      | none => pure (.done .next)
      | some v =>
        letOwnedTupleGo tg it v
        PySem.assign tg env v
        let mut ok := true
        for c in ifs do
          if ok then ok ← isTrue c env (eval c env)
        if ok then
          (do let _ ← call (.builtin "list.append") [acc, ← eval elt env])
        again (.compLoop e dep it acc env))

theorem append_any {l : Addr} {vs : List Value} {x : Value} {s : Shared} {Q : Value → Shared → Prop} {E : Value → Shared → Prop} (hl : s.heap.IsList l vs.toArray)
    (hQ : ∀ h', h'.IsList l (vs ++ [x]).toArray → Heap.SameBut l s.heap h' → Q .none { s with heap := h' }) (hsz : vs.length ≤ sizeLine) : wpAny (model prog w) A (call (.builtin "list.append") [.ref l, x]) Q E s :=
  wpAny_list_append hl (fun h' a b => hQ h' (by simpa using a) b) (by simpa using hsz)

theorem take_filter {α : Type} (p : Nat → Bool) (e : Nat → α) (i : Nat) : ((List.range (i + 1)).filter p).map e = ((List.range i).filter p).map e ++ (if p i then [e i] else []) := by
  rw [List.range_succ, List.filter_append, List.map_append]
  congr 1
  cases q : p i <;> simp [q]

theorem turn_next {tg : Expr} {it : Value} {env : Env} {rest : Sem PySem.Fin} {Q : PySem.Fin → Shared → Prop} {E : Value → Shared → Prop} {s : Shared}
    (x : wpAny (model prog w) A (pyNext it) (fun r s₁ => ∃ v, r = some v ∧ wpAny (model prog w) A (letOwnedTupleGo tg it v) (fun _ s₂ => wpAny (model prog w) A (PySem.assign tg env v) (fun _ s₃ => wpAny (model prog w) A rest Q E s₃) E s₂) E s₁) E s) :
    wpAny (model prog w) A (pyNext it >>= fun r => match r with
      | none => pure (.done .next)
      | some v => letOwnedTupleGo tg it v >>= fun _ => PySem.assign tg env v >>= fun _ => rest) Q E s := by
  refine wpAny_bind (wpAny_mono x (fun r s₁ hr => ?_) fun _ _ q => q)
  obtain ⟨v, rfl, hr⟩ := hr
  exact wpAny_bind (wpAny_mono hr (fun _ s₂ h₂ => wpAny_bind (wpAny_mono h₂ (fun _ s₃ h₃ => h₃) fun _ _ q => q)) fun _ _ q => q)
theorem turn_done {it : Value} {f : Value → Sem PySem.Fin} {Q : PySem.Fin → Shared → Prop} {E : Value → Shared → Prop} {s : Shared}
    (x : wpAny (model prog w) A (pyNext it) (fun r s₁ => r = none ∧ Q (.done .next) s₁) E s) :
    wpAny (model prog w) A (pyNext it >>= fun r => match r with
      | none => pure (.done .next)
      | some v => f v) Q E s := by
  refine wpAny_bind (wpAny_mono x (fun r s₁ hr => ?_) fun _ _ q => q)
  obtain ⟨rfl, hr⟩ := hr
  exact wpAny_pure hr

theorem comp_loop {e elt tg iter : Expr} {ifs : List Expr} {scope : Scope} {gens : List Comprehension} {pos : Pos} {dep : Nat} {it : Value} {Da : Addr} {cenv : Env} {hb : Heap} {n lo : Nat} {μs : Nat → Names} {fp wr : List Addr} {St : Nat → Heap → Prop} {m₀ : Str → Option Value} {ys₀ : List Value} {ds₀ : List D} {p : Nat → Bool} {dd : Nat → D}
    (he : e = .ListComp elt gens scope pos) (hturn : compTurn e dep it (.ref Da) cenv = turnTree e elt tg iter ifs dep it (.ref Da) cenv)
    (P : Pl prog w A tg it cenv hb n μs fp wr St) (s : Shared) (R : Result → Shared → Prop) (hst : St 0 s.heap) (hg : Gr hb s.heap) (hn : s.heap.Ns cenv.locals m₀) (hl : s.heap.IsList Da ys₀.toArray)
    (hv : All2 (fun u d => d.at' cenv.frame u s.heap) ys₀ ds₀) (hCf : cenv.locals ∉ fp) (hDf : Da ∉ fp) (hCb : hb.objs.size ≤ cenv.locals) (hDb : hb.objs.size ≤ Da) (hCD : cenv.locals ≠ Da)
    (hf₀ : ∀ d ∈ ds₀, Far lo d) (hf : ∀ i, i < n → Far lo (dd i)) (hClo : cenv.locals < lo) (hDlo : Da < lo) (hwlo : ∀ b ∈ wr, b < lo)
    (ht : ∀ i h₁ m₁, i < n → Gr hb h₁ → h₁.Ns cenv.locals m₁ → (∀ x d, (μs i).lookup x = some d → ∃ v, m₁ x = some v ∧ d.at' cenv.frame v hb) → (∀ x, (∀ j, j < n → (μs j).lookup x = none) → m₁ x = m₀ x) → Tests prog w A cenv h₁ ifs (p i))
    (hel : ∀ i h₁ m₁, i < n → p i = true → Gr hb h₁ → h₁.Ns cenv.locals m₁ → (∀ x d, (μs i).lookup x = some d → ∃ v, m₁ x = some v ∧ d.at' cenv.frame v hb) → (∀ x, (∀ j, j < n → (μs j).lookup x = none) → m₁ x = m₀ x) →
      T prog w A (eval elt cenv) h₁ fun y h₂ => Gr h₁ h₂ ∧ (dd i).at' cenv.frame y h₂)
    (hsz : ys₀.length + n ≤ sizeLine)
    (hR : ∀ h' tk m' ys, Gr hb h' → h'.Ns cenv.locals m' → (∀ x, (∀ j, j < n → (μs j).lookup x = none) → m' x = m₀ x) → h'.IsList Da (List.toArray ys) → All2 (fun u d => d.at' cenv.frame u h') ys (ds₀ ++ ((List.range n).filter p).map dd) →
      (∀ b o, b ∉ wr → b ≠ cenv.locals → b ≠ Da → s.heap.get? b = some o → h'.get? b = some o) → R (.ok .next) { s with heap := h', toks := tk }) :
    codeAny (model prog w) A (.compLoop e dep it (.ref Da) cenv) R s := by
  have far_keep : ∀ {ds : List D} {ys : List Value} {h h' : Heap}, (∀ d ∈ ds, Far lo d) → (∀ b o, b ∉ wr → b ≠ cenv.locals → b ≠ Da → h.get? b = some o → h'.get? b = some o) → All2 (fun u d => d.at' cenv.frame u h) ys ds → All2 (fun u d => d.at' cenv.frame u h') ys ds := by
    intro ds ys h h' hfd hk hv
    induction hv with
    | nil => exact .nil
    | cons x r ih =>
      refine .cons (hfd _ List.mem_cons_self _ _ _ _ (fun b o hb e => hk b o (fun q => Nat.lt_irrefl _ (Nat.lt_of_lt_of_le (hwlo b q) hb)) (fun q => ?_) (fun q => ?_) e) x) (ih fun d hd => hfd d (List.mem_cons_of_mem _ hd))
      · rw [q] at hb; exact Nat.lt_irrefl _ (Nat.lt_of_lt_of_le hClo hb)
      · rw [q] at hb; exact Nat.lt_irrefl _ (Nat.lt_of_lt_of_le hDlo hb)
  have hCw : cenv.locals ∉ wr := fun q => hCf (P.sub _ q)
  have hDw : Da ∉ wr := fun q => hDf (P.sub _ q)
  have farAll : ∀ i, i ≤ n → ∀ d ∈ ds₀ ++ ((List.range i).filter p).map dd, Far lo d := by
    intro i hi d hd
    rcases List.mem_append.mp hd with hd | hd
    · exact hf₀ d hd
    · obtain ⟨j, hj, rfl⟩ := List.mem_map.mp hd
      exact hf j (Nat.lt_of_lt_of_le (List.mem_range.mp (List.mem_filter.mp hj).1) hi)
  refine codeAny_loop (by subst he; rfl) (fun k s' => ∃ i h' tk m' ys, s' = { s with heap := h', toks := tk } ∧ i ≤ n ∧ k = n + 1 - i ∧ St i h' ∧ Gr hb h' ∧ h'.Ns cenv.locals m' ∧ (∀ x, (∀ j, j < n → (μs j).lookup x = none) → m' x = m₀ x) ∧
      h'.IsList Da (List.toArray ys) ∧ All2 (fun u d => d.at' cenv.frame u h') ys (ds₀ ++ ((List.range i).filter p).map dd) ∧ (∀ b o, b ∉ wr → b ≠ cenv.locals → b ≠ Da → s.heap.get? b = some o → h'.get? b = some o)) ?_ (n + 1)
    ⟨0, s.heap, s.toks, m₀, ys₀, rfl, Nat.zero_le _, rfl, hst, hg, hn, fun _ _ => rfl, hl, by simpa using hv, fun _ _ _ _ _ e => e⟩
  rintro k s' ⟨i, h', tk, m', ys, rfl, hi, rfl, hst', hg', hn', hm', hl', hv', hk'⟩
  have hden : (model prog w).den (.compLoop e dep it (.ref Da) cenv) = (compTurn e dep it (.ref Da) cenv).onRaise (fun x => do noteFrame x cenv; theTreesLotGoes x) := by subst he; rfl
  have hund : A.under (.compLoop e dep it (.ref Da) cenv) = A := by subst he; rfl
  rw [hden, hund]
  refine wpAny_noted ?_
  rw [hturn]
  refine wpAny_bind (wpAny_standAt ?_)
  by_cases hlt : i < n
  · refine turn_next (P.more i _ _ _ m' hlt hst' hg' hn' hCf hCb ?_)
    · intro h₁ tk₁ m₁ st₁ gb₁ hn₁ hμ₁ hx₁ kp₁
      have hx₁' : ∀ x, (∀ j, j < n → (μs j).lookup x = none) → m₁ x = m₀ x := fun x hx => (hx₁ x (hx i hlt)).trans (hm' x hx)
      have hl₁ : h₁.IsList Da (List.toArray ys) := by obtain ⟨o, ho, r⟩ := hl'; exact ⟨o, kp₁ _ _ hDw (Ne.symm hCD) ho, r⟩
      have hv₁ := far_keep (farAll i hi) (fun b o hw hc _ e => kp₁ b o hw hc e) hv'
      refine wpAny_bind (m := testsTree ifs cenv) (Tests.tree (ht i h₁ m₁ hlt gb₁ hn₁ hμ₁ hx₁') { s with heap := h₁, toks := tk₁ } _ _ rfl fun ok h₂ tk₂ p₂ => ?_)
      obtain ⟨g₂, rfl⟩ := p₂
      cases hp : p i with
      | false =>
        simp only [Bool.false_eq_true, if_false]
        refine wpAny_bind (wpAny_pure (wpAny_pure ⟨rfl, _, ?_, i + 1, h₂, tk₂, m₁, ys, rfl, hlt, rfl, P.frame _ _ _ st₁ fun b _ o e => g₂ b o e, gb₁.trans g₂, hn₁.keeps g₂, hx₁', isList_grow hl₁ g₂, ?_, fun b o hw hc hd e => g₂ b o (kp₁ b o hw hc (hk' b o hw hc hd e))⟩))
        · omega
        · rw [take_filter, hp]; simpa using hv₁.imp fun u d x => d.mono x g₂
      | true =>
        simp only [if_true]
        refine wpAny_bind (wpAny_bind (hel i h₂ m₁ hlt hp (gb₁.trans g₂) (hn₁.keeps g₂) hμ₁ hx₁' { s with heap := h₂, toks := tk₂ } _ _ rfl fun y h₃ tk₃ p₃ => ?_))
        obtain ⟨g₃, dy⟩ := p₃
        have g := g₂.trans g₃
        have hlen : ys.length ≤ sizeLine := by
          have e1 := hv'.length
          have e2 := hv.length
          rw [List.length_append, List.length_map] at e1
          have e3 := List.length_filter_le p (List.range i)
          rw [List.length_range] at e3
          omega
        refine wpAny_bind (append_any (isList_grow hl₁ g) (fun h₄ hl₄ hs₄ => ?_) hlen)
        have hs₄ : Heap.SameBut Da h₃ h₄ := hs₄
        refine wpAny_pure (wpAny_pure ⟨rfl, _, ?_, i + 1, h₄, tk₃, m₁, ys ++ [y], rfl, hlt, rfl, ?_, ?_, ?_, hx₁', hl₄, ?_, fun b o hw hc hd e => hs₄.extBut b o hd (g b o (kp₁ b o hw hc (hk' b o hw hc hd e)))⟩)
        · omega
        · exact P.frame _ _ _ st₁ fun b hbf o e => hs₄.extBut b o (fun q => hDf (q ▸ hbf)) (g b o e)
        · exact fun b o e => hs₄.extBut b o (fun q => by rw [q] at e; exact Nat.lt_irrefl _ (Nat.lt_of_lt_of_le (Heap.lt_size e) hDb)) (g b o (gb₁ b o e))
        · exact (hn₁.keeps g).sameBut hs₄ hCD
        · rw [take_filter, hp]
          simp only [if_true]
          rw [← List.append_assoc]
          refine All2.append (far_keep (farAll i hi) (fun b o hw hc hd e => hs₄.extBut b o hd e) (hv₁.imp fun u d x => d.mono x g)) (.cons ?_ .nil)
          exact hf i hlt _ _ _ _ (fun b o hb e => hs₄.extBut b o (fun q => by rw [q] at hb; exact Nat.lt_irrefl _ (Nat.lt_of_lt_of_le hDlo hb)) e) dy
  · obtain rfl : i = n := Nat.le_antisymm hi (Nat.not_lt.mp hlt)
    refine turn_done (P.done _ (fun s₁ => R (.ok .next) s₁) _ hst' fun h₁ tk₁ kp₁ => ?_)
    · refine hR h₁ tk₁ m' ys (fun b o e => kp₁ b o (fun q => Nat.lt_irrefl _ (Nat.lt_of_lt_of_le (Heap.lt_size e) (P.fresh b q))) (hg' b o e)) (hn'.at' fun o e => kp₁ _ o hCw e) hm' ?_ (far_keep (farAll _ (Nat.le_refl _)) (fun b o hw _ _ e => kp₁ b o hw e) hv') fun b o hw hc hd e => kp₁ b o hw (hk' b o hw hc hd e)
      obtain ⟨o, ho, r⟩ := hl'; exact ⟨o, kp₁ _ _ hDw ho, r⟩

end Mine
end Core5x
section Core6x
open PySem PySem.W PyProof.Rows PySem.Calls
namespace Mine
variable {prog : Program} {w : World} {A : Around} {K : Frag} {env : Env} {μ : Names} {h h₀ : Heap}

theorem comp_start {elt : Expr} {gens : List Comprehension} {scope : Scope} {pos : Pos} {dep : Nat} {g : Comprehension} {it acc : Value} {env : Env} {R : Result → Shared → Prop} {s : Shared} (hg : gens[dep]? = some g) (ha : g.is_async = 0)
    (h0 : codeAny (model prog w) A (.compLoop (.ListComp elt gens scope pos) dep it acc env) R s)
    (h : wpAny (model prog w) A (pyIter it) (fun it' s' => codeAny (model prog w) A (.compLoop (.ListComp elt gens scope pos) dep it' acc env) R s') (notedBy (model prog w) A env fun x s' => R (.error x) s') s) :
    codeAny (model prog w) A (.compStart (.ListComp elt gens scope pos) dep it acc env) R s := by
  refine codeAny_of_tree ?_
  show wpAny _ _ ((compStart (.ListComp elt gens scope pos) dep it acc env).onRaise (fun x => do noteFrame x env; standAt theWindowsPlace)) _ _ s
  refine wpAny_notedAt ?_
  unfold compStart
  have e1 : (clausesOf (.ListComp elt gens scope pos))[dep]? = some g := hg
  rw [e1]
  have e2 : (some g).elim false (fun x => x.is_async != 0) = false := by simp [ha]
  rw [e2]
  simp only [Bool.false_eq_true, if_false]
  show wpAny _ _ (ask >>= _) _ _ s
  refine wpAny_bind (wpAny_askSetting (wpAny_ite ?_))
  split
  · exact wpAny_bind (wpAny_pure (wpAny_pure (And.intro rfl h0)))
  · refine wpAny_bind (wpAny_rule (wpAny_bind (wpAny_standAt (wpAny_bind (wpAny_mono h (fun it' s' h' => wpAny_pure (And.intro rfl h')) fun _ _ x => x)))))

def compOk (scope : Scope) (env : Env) : Bool := (scope.names.all fun y => y.2 != .free || (env.cells.lookup y.1).isSome) && (scope.names.all fun y => y.2 != .cell) && scope.kind == .function && (scope.names.all fun y => y.2 != .local || scope.names.lookup y.1 == some .local)
structure CompOk (scope : Scope) (env : Env) : Prop where
  clos : closureFor scope env = pure (clos scope.names env)
  cell : ∀ y ∈ scope.names, y.2 ≠ .cell
  kind : scope.kind = .function
  names : ∀ y ∈ scope.names, y.2 = .local → scope.names.lookup y.1 = some .local
theorem compOk_of {scope : Scope} {env : Env} (e : compOk scope env = true) : CompOk scope env := by
  unfold compOk at e
  rw [Bool.and_eq_true, Bool.and_eq_true, Bool.and_eq_true] at e
  obtain ⟨⟨⟨e1, e2⟩, e3⟩, e4⟩ := e
  exact ⟨closureFor_clos e1, fun y hy => by have := List.all_eq_true.mp e2 y hy; simpa using this, by simpa using e3, fun y hy q => by have := List.all_eq_true.mp e4 y hy; rw [q] at this; simpa using this⟩

/-- the names of a target -/
def tgNames : Expr → List Str
  | .Name x _ => [x]
  | .Tuple [.Name x _, .Name y _] _ _ => [x, y]
  | _ => []
def tgOk (tg : Expr) (scope : Scope) : Bool := match tg with
  | .Name x _ => scope.names.lookup x == some .local
  | .Tuple [.Name x _, .Name y _] _ _ => scope.names.lookup x == some .local && scope.names.lookup y == some .local && x != y
  | _ => false
theorem tgLocal_of {tg : Expr} {scope : Scope} {env : Env} {C : Addr} (e : tgOk tg scope = true) (hk : scope.kind = .function) : tgLocal tg (cenvOf scope env C) := by
  refine ⟨hk, ?_⟩
  unfold tgOk at e
  split at e
  · exact lookup_relabel_local (by simpa using e)
  · simp only [Bool.and_eq_true, bne_iff_ne, ne_eq, beq_iff_eq] at e
    exact ⟨lookup_relabel_local e.1.1, lookup_relabel_local e.1.2, e.2⟩
  · cases e

/-- what stands when a comprehension's loop begins -/
theorem comp_block {e : Expr} {tg iter : Expr} {scope : Scope} {gens : List Comprehension} {pos pos' : Pos} {elt : Expr} {ifs : List Expr} {n : Nat} {μs : Nat → Names} {use : Option (Value → Sem Unit)} {Q : Value → Shared → Prop} {E : Value → Shared → Prop}
    (src : Src prog w A env h iter tg n μs) (he : e = .ListComp elt (⟨tg, iter, ifs, 0⟩ :: gens) scope pos) (ok : CompOk scope env) (tl : tgOk tg scope = true) (s : Shared) (hs : Gr h s.heap)
    (hfold : ∀ x, foldedSetIterable iter env x = pure x)
    (k : ∀ it I h₁ tk₁ hb fp wr St C m₀, it = .ref I → Gr s.heap hb → Gr hb h₁ → Pl prog w A tg it (cenvOf scope env C) hb n μs fp wr St → St 0 h₁ → h₁.Ns C m₀ → h₁.IsList (C - 1) #[] → C ∉ fp → C - 1 ∉ fp → hb.objs.size ≤ C - 1 → 0 < C → (∀ b ∈ wr, b < C) →
      codeAny (model prog w) A (.compLoop e 0 it (.ref (C - 1)) (cenvOf scope env C)) (compPost (model prog w) A E use Q (.ref (C - 1)) C) { s with heap := h₁, toks := tk₁ }) :
    wpAny (model prog w) A (comprehension e scope env pos' (newList []) false (eval iter env) use) Q E s := by
  subst he
  refine wpAny_comprehension_free rfl hfold ok.clos ok.kind ok.names (src s _ E hs fun it h' tk' hb fp wr St g₁ g₂ P hI st hfp hbl => ?_)
  obtain ⟨I, rfl⟩ := hI
  refine wpAny_newObj_type (wpAny_newFunctionEnv ok.cell (by intro y hy; simp at hy) (fun h₁ hns₁ hsb₁ => ?_) ok.kind)
  dsimp only at hns₁ hsb₁ ⊢
  generalize hH2 : h'.push { cls := .type "list", dict := none, data := .seq ([] : List Value).toArray } = H2 at hns₁ hsb₁ ⊢
  have hC : H2.objs.size = h'.objs.size + 1 := by rw [← hH2, Heap.size_push]
  have hC1 : H2.objs.size - 1 = h'.objs.size := by rw [hC]; rfl
  have below : ∀ b, b < h'.objs.size → b ≠ H2.objs.size ∧ b ≠ h'.objs.size := fun b hb => ⟨by rw [hC]; exact Nat.ne_of_lt (Nat.lt_succ_of_lt hb), Nat.ne_of_lt hb⟩
  have old : ∀ b o, h'.get? b = some o → h₁.get? b = some o := fun b o e => hsb₁.extBut b o (below b (Heap.lt_size e)).1 (Heap.get?_push_of_some _ (hH2 ▸ Heap.get?_push_of_some _ e))
  have hDC : h'.objs.size ≠ H2.objs.size := by rw [hC]; exact Nat.ne_of_lt (Nat.lt_succ_self _)
  have hacc : h₁.IsList (H2.objs.size - 1) #[] := by
    rw [hC1]
    exact ⟨_, hsb₁.extBut _ _ hDC (Heap.get?_push_of_some _ (hH2 ▸ Heap.get?_push_size _ rfl)), rfl, 0, rfl⟩
  have key := k (.ref I) I h₁ (tk' + ([] : List (Str × Value)).length) hb fp wr St H2.objs.size _ rfl g₁ (g₂.trans old) (P _ (tgLocal_of tl ok.kind) rfl) ((P (cenvOf scope env 0) (tgLocal_of tl ok.kind) rfl).frame _ _ _ st fun b _ o e => old b o e) hns₁ hacc
    (fun q => Nat.lt_irrefl _ (Nat.lt_trans (hfp _ q) (by rw [hC]; exact Nat.lt_succ_self _))) (fun q => by rw [hC1] at q; exact Nat.lt_irrefl _ (hfp _ q)) (by rw [hC1]; exact hbl) (by rw [hC]; exact Nat.succ_pos _)
    (fun b q => by rw [hC]; exact Nat.lt_succ_of_lt (hfp b ((P (cenvOf scope env 0) (tgLocal_of tl ok.kind) rfl).sub b q)))
  rw [hC1] at key
  refine comp_start (g := ⟨tg, iter, ifs, 0⟩) rfl rfl key (wpAny_mono ((P (cenvOf scope env 0) (tgLocal_of tl ok.kind) rfl).self 0 _ (fun s' => codeAny (model prog w) A (.compLoop (.ListComp elt (⟨tg, iter, ifs, 0⟩ :: gens) scope pos) 0 (.ref I) (.ref h'.objs.size) (cenvOf scope env H2.objs.size)) (compPost (model prog w) A E use Q (.ref h'.objs.size) H2.objs.size) s') _ ((P (cenvOf scope env 0) (tgLocal_of tl ok.kind) rfl).frame _ _ _ st fun b _ o e => old b o e) key) (fun v s' hv => ?_) fun _ _ q => q)
  obtain ⟨rfl, hv⟩ := hv
  exact hv

end Mine
namespace Mine
variable {prog : Program} {w : World} {A : Around} {K : Frag} {env : Env} {μ : Names} {h h₀ : Heap}

theorem names_local {tg : Expr} {scope : Scope} {μl : Names} (tl : tgOk tg scope = true) (hn : μl.map (·.1) = tgNames tg) {x : Str} {d : D} (e : μl.lookup x = some d) : scope.names.lookup x = some .local := by
  have hm : x ∈ tgNames tg := by rw [← hn]; exact List.mem_map_of_mem (mem_of_lookup e)
  unfold tgOk at tl
  unfold tgNames at hm
  split at tl
  · rw [List.mem_singleton.mp hm]; simpa using tl
  · simp only [Bool.and_eq_true, beq_iff_eq] at tl
    rcases List.mem_cons.mp hm with rfl | hm
    · exact tl.1.1
    · rw [List.mem_singleton.mp hm]; exact tl.1.2
  · cases tl

theorem comp_run {elt tg iter : Expr} {ifs : List Expr} {scope : Scope} {pos pos' : Pos} {n : Nat} {μs : Nat → Names} {p : Nat → Bool} {dd : Nat → Nat → D} {use : Option (Value → Sem Unit)} {Q : Value → Shared → Prop} {E : Value → Shared → Prop} (c : Cx K env μ h) (src : Src prog w A env h iter tg n μs) (xs : List Str)
    (ok : compOk scope env = true) (tl : tgOk tg scope = true) (cap : capOk scope env xs = true) (hμ : ∀ i, (μs i).map (·.1) = tgNames tg)
    (ht : ∀ i, i < n → ∀ C h₁, Gr h h₁ → Cx K (cenvOf scope env C) (μs i ++ capt μ xs) h₁ → Tests prog w A (cenvOf scope env C) h₁ ifs (p i))
    (hel : ∀ i, i < n → p i = true → ∀ C h₁, Gr h h₁ → C < h₁.objs.size → Cx K (cenvOf scope env C) (μs i ++ capt μ xs) h₁ → Ev prog w A (cenvOf scope env C) h₁ elt (dd (C + 1) i))
    (hfar : ∀ lo i, i < n → Far lo (dd lo i)) (hz : n ≤ 1000000) (hfold : ∀ x, foldedSetIterable iter env x = pure x) (s : Shared) (hs : Gr h s.heap)
    (k : ∀ C h₁ tk₁ m₁ ys hb, Gr s.heap hb → Gr hb h₁ → h₁.Ns C m₁ → h₁.IsList (C - 1) (List.toArray ys) → All2 (fun u d => d.at' env.frame u h₁) ys (((List.range n).filter p).map (dd (C + 1))) → hb.objs.size ≤ C - 1 → 0 < C →
      compPost (model prog w) A E use Q (.ref (C - 1)) C (.ok .next) { s with heap := h₁, toks := tk₁ }) :
    wpAny (model prog w) A (comprehension (.ListComp elt [⟨tg, iter, ifs, 0⟩] scope pos) scope env pos' (newList []) false (eval iter env) use) Q E s := by
  have ok' := compOk_of ok
  refine comp_block src rfl ok' tl s hs hfold fun it I h₁ tk₁ hb fp wr St C m₀ hit g₁ g₂ P st hC hD hCf hDf hDb hC0 hwr => ?_
  have hCloc : (cenvOf scope env C).locals = C := rfl
  have mk : ∀ i h₂ m₂, i < n → Gr hb h₂ → h₂.Ns C m₂ → (∀ x d, (μs i).lookup x = some d → ∃ v, m₂ x = some v ∧ d.at' env.frame v hb) → Cx K (cenvOf scope env C) (μs i ++ capt μ xs) h₂ := fun i h₂ m₂ hi gb hn hm =>
    Cx.comp ((c.mono hs).mono g₁) gb hn (fun x d e => ⟨names_local tl (hμ i) e, let ⟨v, a, b⟩ := hm x d e; ⟨v, a, d.mono b gb⟩⟩) cap ok'.kind
  refine comp_loop (cenv := cenvOf scope env C) (ifs := ifs) (p := p) (dd := dd (C + 1)) (ys₀ := []) (ds₀ := []) (lo := C + 1) (m₀ := m₀) rfl (by subst hit; rfl) P { s with heap := h₁, toks := tk₁ } _ st g₂ hC (by simpa using hD) .nil hCf hDf (Nat.le_trans hDb (Nat.sub_le _ _)) hDb (Nat.ne_of_gt (Nat.sub_lt hC0 Nat.one_pos))
    (fun _ hd => nomatch hd) (fun i hi => hfar (C + 1) i hi) (Nat.lt_succ_self _) (Nat.lt_succ_of_le (Nat.sub_le _ _)) (fun b q => Nat.lt_succ_of_lt (hwr b q))
    (fun i h₂ m₂ hi gb hn hm _ => ht i hi C h₂ (hs.trans (g₁.trans gb)) (mk i h₂ m₂ hi gb hn hm))
    (fun i h₂ m₂ hi hp gb hn hm _ => (hel i hi hp C h₂ (hs.trans (g₁.trans gb)) hn.lt (mk i h₂ m₂ hi gb hn hm)) _ (Gr.refl _)) (by rw [sizeLine_eq]; simp; omega) ?_
  intro h₂ tk₂ m₂ ys gb hn _ hl hv _
  exact k C h₂ tk₂ m₂ ys hb g₁ gb hn hl (by have hv' := hv; rw [List.nil_append] at hv'; exact hv') hDb hC0

theorem far_all {lo : Nat} {fr : Option Addr} {h h' : Heap} (g : ∀ b o, lo ≤ b → h.get? b = some o → h'.get? b = some o) : ∀ {ys : List Value} {ds : List D}, (∀ d ∈ ds, Far lo d) → All2 (fun u d => d.at' fr u h) ys ds → All2 (fun u d => d.at' fr u h') ys ds
  | _, _, _, .nil => .nil
  | _, _, f, .cons x r => .cons (f _ List.mem_cons_self _ _ _ _ g x) (far_all g (fun d hd => f d (List.mem_cons_of_mem _ hd)) r)
theorem All2.weak {fr : Option Addr} {h : Heap} {dd dd' : Nat → D} (f : ∀ i u, (dd i).at' fr u h → (dd' i).at' fr u h) : ∀ {is : List Nat} {ys : List Value}, All2 (fun u d => d.at' fr u h) ys (is.map dd) → All2 (fun u d => d.at' fr u h) ys (is.map dd')
  | [], _, .nil => .nil
  | i :: is, _, .cons x r => .cons (f i _ x) (All2.weak f r)

/-- a list comprehension of one clause -/
theorem Ev.compGt {elt tg iter : Expr} {ifs : List Expr} {scope : Scope} {pos : Pos} {n lo : Nat} {μs : Nat → Names} {p : Nat → Bool} {dd : Nat → Nat → D} {dd' : Nat → D} (c : Cx K env μ h) (src : Src prog w A env h iter tg n μs) (xs : List Str)
    (hlo : ∀ h', Gr h h' → lo ≤ h'.objs.size)
    (ht : ∀ i, i < n → ∀ C h₁, Gr h h₁ → Cx K (cenvOf scope env C) (μs i ++ capt μ xs) h₁ → Tests prog w A (cenvOf scope env C) h₁ ifs (p i))
    (hel : ∀ i, i < n → p i = true → ∀ C h₁, Gr h h₁ → C < h₁.objs.size → Cx K (cenvOf scope env C) (μs i ++ capt μ xs) h₁ → Ev prog w A (cenvOf scope env C) h₁ elt (dd (C + 1) i))
    (hfar : ∀ lo i, i < n → Far lo (dd lo i)) (hw : ∀ lo i f u h, (dd lo i).at' f u h → (dd' i).at' f u h) (hz : n ≤ 1000000)
    (ok : compOk scope env = true := by rfl) (tl : tgOk tg scope = true := by rfl) (cap : capOk scope env xs = true := by rfl) (hμ : ∀ i, (μs i).map (·.1) = tgNames tg := by intro _; rfl) (hfold : ∀ x, foldedSetIterable iter env x = pure x := by intro _; rfl) :
    Ev prog w A env h (.ListComp elt [⟨tg, iter, ifs, 0⟩] scope pos) (D.listGt lo (((List.range n).filter p).map dd')) := by
  intro h' g s Q E e k
  subst e
  rw [eval_ListComp]
  refine comp_run c src xs ok tl cap hμ ht hel hfar hz hfold s g fun C h₁ tk₁ m₁ ys hb g₀ g₁ hn hl hv hCs hC0 => ?_
  refine ⟨m₁, hn, fun h₂ hs₂ => k _ h₂ tk₁ ⟨fun b o e => hs₂.extBut b o (fun q => ?_) (g₁ b o (g₀ b o e)), C - 1, ys, rfl, Nat.le_trans (hlo _ (g.trans g₀)) hCs, hl.extBut hs₂.extBut (Nat.ne_of_lt (Nat.sub_lt hC0 Nat.one_pos)), ?_⟩⟩
  · have := Heap.lt_size (g₀ b o e)
    rw [q] at this
    exact Nat.lt_irrefl _ (Nat.lt_of_lt_of_le this (Nat.le_trans hCs (Nat.sub_le _ _)))
  · refine All2.weak (fun i u => hw (C + 1) i _ u _) (far_all (lo := C + 1) (fun b o hb e => hs₂.extBut b o (fun q => by rw [q] at hb; exact Nat.lt_irrefl _ hb) e) (fun d hd => ?_) hv)
    obtain ⟨i, hi, rfl⟩ := List.mem_map.mp hd
    exact hfar _ _ (List.mem_range.mp (List.mem_filter.mp hi).1)

end Mine
namespace Mine
variable {prog : Program} {w : World} {A : Around} {K : Frag} {env : Env} {μ : Names} {h h₀ : Heap}

/-- a name of the frame's own is stored, somehow -/
theorem Fm.upd {x : Str} {v : Value} {d : D} {m : Str → Option Value} {h' : Heap} (F : Fm K h₀ env μ h) (n : h.Ns env.locals m) (hl : env.kindOf x = some .local) (hn : h'.Ns env.locals (fun y => if y = x then some v else m y))
    (hb : But env.locals h h') (cl : ∀ {c v}, h.IsCell c v → h'.IsCell c v) (hd : d.at' env.frame v h') : Fm K h₀ env ((x, d) :: μ) h' := by
  have hfr := F.fr
  have kp : Gr h₀ h' := fun b o e => hb b o (F.keep b o e) (.inl (Nat.lt_of_lt_of_le (Heap.lt_size e) F.fresh))
  refine ⟨⟨F.cx.kind, F.cx.glob, F.cx.blt, F.gd0.mono kp, fun y d' e => ?_, ns_live F.fr hn⟩, F.gd0, ⟨_, hn⟩, fun y c e => let ⟨v, i⟩ := F.cells y c e; ⟨v, cl i⟩, F.apart, kp, F.fresh, F.cabove, F.fr⟩
  rw [List.lookup_cons] at e
  by_cases q : y = x
  · subst q
    rw [beq_self_eq_true] at e
    cases e
    exact ⟨v, .inl ⟨hl, _, hn, by simp⟩, hd⟩
  · rw [beq_eq_false_iff_ne.mpr q] at e
    obtain ⟨u, a, b⟩ := F.cx.nm y d' e
    refine ⟨u, ?_, by rw [hfr] at b ⊢; exact d'.stay b n hb.weak⟩
    rcases a with ⟨kl, m', n', q'⟩ | ⟨kc, c, l, i⟩
    · rw [ns_same n' n] at q'
      exact .inl ⟨kl, _, hn, by simpa [q] using q'⟩
    · exact .inr ⟨kc, c, l, cl i⟩

/-- y = [..] where y is the frame's own: the list is stored ahead of the loop's own names going -/
theorem X.assignComp {elt tg iter : Expr} {ifs : List Expr} {scope : Scope} {pos spos py : Pos} {y : Str} {n : Nat} {μs : Nat → Names} {p : Nat → Bool} {dd : Nat → Nat → D} {dd' : Nat → D} (F : Fm K h₀ env μ h) (src : Src prog w A env h iter tg n μs) (xs : List Str)
    (ht : ∀ i, i < n → ∀ C h₁, Gr h h₁ → Cx K (cenvOf scope env C) (μs i ++ capt μ xs) h₁ → Tests prog w A (cenvOf scope env C) h₁ ifs (p i))
    (hel : ∀ i, i < n → p i = true → ∀ C h₁, Gr h h₁ → C < h₁.objs.size → Cx K (cenvOf scope env C) (μs i ++ capt μ xs) h₁ → Ev prog w A (cenvOf scope env C) h₁ elt (dd (C + 1) i))
    (hfar : ∀ lo i, i < n → Far lo (dd lo i)) (hw : ∀ lo i f u h, (dd lo i).at' f u h → (dd' i).at' f u h) (hz : n ≤ 1000000)
    (hy : env.kindOf y = some .local) (hsw : swapsWith (.ListComp elt [⟨tg, iter, ifs, 0⟩] scope pos) (some (.Name y py)) spos.line env = pure true := by rfl)
    (ok : compOk scope env = true := by rfl) (tl : tgOk tg scope = true := by rfl) (cap : capOk scope env xs = true := by rfl) (hμ : ∀ i, (μs i).map (·.1) = tgNames tg := by intro _; rfl) (hfold : ∀ x, foldedSetIterable iter env x = pure x := by intro _; rfl) :
    X prog w A env h (.Assign [.Name y py] (.ListComp elt [⟨tg, iter, ifs, 0⟩] scope pos) spos) (go (Fm K h₀ env ((y, D.list (((List.range n).filter p).map dd')) :: μ))) := by
  intro s Q E e k
  subst e
  rw [exec_Assign_Name_used _ _ _ _ hsw]
  refine wpAny_bind (wpAny_standAt (wpAny_bind ?_))
  show wpAny _ A (do let _ ← comprehension (.ListComp elt [⟨tg, iter, ifs, 0⟩] scope pos) scope env _ (newList []) false (eval iter env) (some (PySem.assign (.Name y py) env))) _ _ s
  refine wpAny_bind (wpAny_mono (comp_run (Q := fun _ s' => Q .next s') F.cx src xs ok tl cap hμ ht hel hfar hz hfold s (Gr.refl _) (fun C h₁ tk₁ m₁ ys hb g₀ g₁ hn hl hv hCs hC0 => ?_)) (fun _ s' hq => wpAny_pure (wpAny_pure hq)) fun _ _ q => q)
  obtain ⟨m, hm⟩ := F.ns
  have g : Gr s.heap h₁ := g₀.trans g₁
  have hLC : env.locals ≠ C := fun q => by
    have := (hm.keeps g₀).lt
    rw [q] at this
    exact Nat.lt_irrefl _ (Nat.lt_of_lt_of_le this (Nat.le_trans hCs (Nat.sub_le _ _)))
  have hLlt : env.locals < C := Nat.lt_of_lt_of_le (hm.keeps g₀).lt (Nat.le_trans hCs (Nat.sub_le _ _))
  have hLD : env.locals ≠ C - 1 := Nat.ne_of_lt (Nat.lt_of_lt_of_le (hm.keeps g₀).lt hCs)
  show wpAny _ A (PySem.assign (.Name y py) env (.ref (C - 1))) _ _ _
  refine wpAny_assign_Name (wpAny_storeName_local hy (hm.keeps g) (fun h₂ hn₂ hs₂ => ⟨m₁, hn.sameBut hs₂ (Ne.symm hLC), fun h₃ hs₃ => ?_⟩) (by rw [F.cx.kind]; rfl))
  have hCn : ∀ b o, s.heap.get? b = some o → b ≠ C := fun b o e q => by
    have := Heap.lt_size (g₀ b o e)
    rw [q] at this
    exact Nat.lt_irrefl _ (Nat.lt_of_lt_of_le this (Nat.le_trans hCs (Nat.sub_le _ _)))
  have hb' : But env.locals s.heap h₃ := fun b o e nc => hs₃.extBut b o (hCn b o e) (hs₂.extBut b o (nc.elim Nat.ne_of_lt (·.2)) (g b o e))
  refine k .next h₃ _ ⟨hb', rfl, F.upd hm hy (hn₂.sameBut hs₃ hLC) hb' (fun {c v} i => ?_) ?_⟩
  · refine ((i.keeps g).sameBut hs₂ (cell_ne_ns hm i)).sameBut hs₃ fun q => ?_
    obtain ⟨o, ho, _⟩ := i
    exact hCn c o ho q
  · refine ⟨C - 1, ys, rfl, (hl.extBut hs₂.extBut (Ne.symm hLD)).extBut hs₃.extBut (Nat.ne_of_lt (Nat.sub_lt hC0 Nat.one_pos)), ?_⟩
    refine All2.weak (fun i u => hw (C + 1) i _ u _) (far_all (lo := C + 1) (fun b o hb e => hs₃.extBut b o (fun q => by rw [q] at hb; exact Nat.lt_irrefl _ hb) (hs₂.extBut b o (fun q => by rw [q] at hb; exact Nat.lt_irrefl _ (Nat.lt_of_lt_of_le hLlt (Nat.le_of_succ_le hb))) e)) (fun d hd => ?_) hv)
    obtain ⟨i, hi, rfl⟩ := List.mem_map.mp hd
    exact hfar _ _ (List.mem_range.mp (List.mem_filter.mp hi).1)

abbrev turn2Tree (e tg iter iter2 : Expr) (it acc : Value) (env : Env) : Sem Fin := (do
      standAt iter.pos
      match ← pyNext it with
      | none => pure (.done .next)
      | some v =>
        letOwnedTupleGo tg it v
        PySem.assign tg env v
        let x ← eval iter2 env
        standAt iter2.pos
        let x ← foldedSetIterable iter2 env x
        let _ ← runOwn (.compStart e 1 (← holding [x] (pyIter x)) acc env) env
        again (.compLoop e 0 it acc env))
theorem turn2_eq (elt tg iter tg2 iter2 : Expr) (scope : Scope) (pos : Pos) (it acc : Value) (env : Env) :
    compTurn (.ListComp elt [⟨tg, iter, [], 0⟩, ⟨tg2, iter2, [], 0⟩] scope pos) 0 it acc env = turn2Tree (.ListComp elt [⟨tg, iter, [], 0⟩, ⟨tg2, iter2, [], 0⟩] scope pos) tg iter iter2 it acc env := by rfl

/-- two clauses, the inner one a range, ints -/
theorem Ev.comp2 {elt tg iter iter2 : Expr} {x2 : Str} {px2 : Pos} {scope : Scope} {pos : Pos} {n n2 : Nat} {μs : Nat → Names} {val : Nat → Nat → Int} {a2 c2 b2 : Int} (hh : A.handled = none) (c : Cx K env μ h) (src : Src prog w A env h iter tg n μs) (xs : List Str)
    (hin : ∀ i, i < n → ∀ C h₁, Gr h h₁ → Cx K (cenvOf scope env C) (μs i ++ capt μ xs) h₁ → Ev prog w A (cenvOf scope env C) h₁ iter2 (D.range a2 b2 c2))
    (hsm : Builtin.Range.small a2 b2 c2 = true) (hn2 : Builtin.Range.rangeSize a2 b2 c2 = ((n2 : Nat) : Int))
    (hel : ∀ i, i < n → ∀ j, j < n2 → ∀ C h₁, Gr h h₁ → Cx K (cenvOf scope env C) ((x2, D.int (a2 + (j : Int) * c2)) :: μs i ++ capt μ xs) h₁ → Ev prog w A (cenvOf scope env C) h₁ elt (D.int (val i j)))
    (hz : n * n2 ≤ 1000000) (hx2 : ∀ i, (μs i).lookup x2 = none)
    (ok : compOk scope env = true := by rfl) (tl : tgOk tg scope = true := by rfl) (tl2 : scope.names.lookup x2 = some .local := by rfl) (cap : capOk scope env xs = true := by rfl) (hμ : ∀ i, (μs i).map (·.1) = tgNames tg := by intro _; rfl)
    (hfold : ∀ x, foldedSetIterable iter env x = pure x := by intro _; rfl) (hfold2 : ∀ x env', foldedSetIterable iter2 env' x = pure x := by intro _ _; rfl) :
    Ev prog w A env h (.ListComp elt [⟨tg, iter, [], 0⟩, ⟨.Name x2 px2, iter2, [], 0⟩] scope pos) (D.list (((List.range n).flatMap fun i => (List.range n2).map fun j => D.int (val i j)))) := by
  intro h' g s Q E e k
  subst e
  rw [eval_ListComp]
  have ok' := compOk_of ok
  refine comp_block (gens := [⟨.Name x2 px2, iter2, [], 0⟩]) src rfl ok' tl s g hfold fun it I h₁ tk₁ hb fp wr St C m₀ hit g₁ g₂ P st hC hD hCf hDf hDb hC0 hwr => ?_
  have hCD : C ≠ C - 1 := Nat.ne_of_gt (Nat.sub_lt hC0 Nat.one_pos)
  have hCb : hb.objs.size ≤ C := Nat.le_trans hDb (Nat.sub_le _ _)
  have hCw : C ∉ wr := fun q => hCf (P.sub _ q)
  have hDw : C - 1 ∉ wr := fun q => hDf (P.sub _ q)
  let res : Nat → List D := fun i => (List.range i).flatMap fun i => (List.range n2).map fun j => D.int (val i j)
  have hres : ∀ i, res (i + 1) = res i ++ (List.range n2).map fun j => D.int (val i j) := fun i => by
    show (List.range (i + 1)).flatMap _ = _
    rw [List.range_succ, List.flatMap_append]; simp [res]
  have hlen : ∀ i, (res i).length = i * n2 := fun i => by
    induction i with
    | zero => simp [res]
    | succ i ih => rw [hres, List.length_append, ih, List.length_map, List.length_range, Nat.succ_mul]
  have hfree : ∀ i, ∀ d ∈ res i, ∀ (f : Option Addr) (u : Value) (h h' : Heap), d.at' f u h → d.at' f u h' := by
    intro i d hd f u h h' x
    obtain ⟨j, _, hd⟩ := List.mem_flatMap.mp hd
    obtain ⟨l, _, rfl⟩ := List.mem_map.mp hd
    exact x
  have free2 : ∀ {i : Nat} {ys : List Value} {h h' : Heap}, All2 (fun u d => d.at' env.frame u h) ys (res i) → All2 (fun u d => d.at' env.frame u h') ys (res i) := by
    intro i ys h h' hv
    exact far_all (lo := 0) (fr := env.frame) (h := h) (h' := h) (fun _ _ _ e => e) (fun d hd f u a b _ x => hfree i d hd f u a b x) hv |> fun z => by
      have : ∀ {ys : List Value} {ds : List D}, (∀ d ∈ ds, ∀ (f : Option Addr) (u : Value) (h h' : Heap), d.at' f u h → d.at' f u h') → All2 (fun u d => d.at' env.frame u h) ys ds → All2 (fun u d => d.at' env.frame u h') ys ds := by
        intro ys ds hf hv
        induction hv with
        | nil => exact .nil
        | cons x r ih => exact .cons (hf _ List.mem_cons_self _ _ _ _ x) (ih fun d hd => hf d (List.mem_cons_of_mem _ hd))
      exact this (hfree i) z
  refine codeAny_loop (by rfl) (fun k s' => ∃ i h' tk m' ys, s' = { s with heap := h', toks := tk } ∧ i ≤ n ∧ k = n + 1 - i ∧ St i h' ∧ Gr hb h' ∧ h'.Ns C m' ∧ h'.IsList (C - 1) (List.toArray ys) ∧ All2 (fun u d => d.at' env.frame u h') ys (res i)) ?_ (n + 1)
    ⟨0, h₁, tk₁, m₀, [], rfl, Nat.zero_le _, rfl, st, g₂, hC, by simpa using hD, .nil⟩
  rintro q s' ⟨i, h', tk, m', ys, rfl, hi, rfl, st', g', hn', hl', hv'⟩
  have hden : ∀ it, (model prog w).den (.compLoop (.ListComp elt [⟨tg, iter, [], 0⟩, ⟨.Name x2 px2, iter2, [], 0⟩] scope pos) 0 it (.ref (C - 1)) (cenvOf scope env C)) = (compTurn (.ListComp elt [⟨tg, iter, [], 0⟩, ⟨.Name x2 px2, iter2, [], 0⟩] scope pos) 0 it (.ref (C - 1)) (cenvOf scope env C)).onRaise (fun x => do noteFrame x (cenvOf scope env C); theTreesLotGoes x) := fun _ => rfl
  have hund : A.under (.compLoop (.ListComp elt [⟨tg, iter, [], 0⟩, ⟨.Name x2 px2, iter2, [], 0⟩] scope pos) 0 it (.ref (C - 1)) (cenvOf scope env C)) = A := rfl
  rw [hden, hund]
  refine wpAny_noted ?_
  rw [turn2_eq]
  refine wpAny_bind (wpAny_standAt ?_)
  by_cases hlt : i < n
  · refine turn_next (P.more i _ _ _ m' hlt st' g' hn' hCf hCb ?_)
    intro h₂ tk₂ m₂ st₂ gb₂ hn₂ hμ₂ hx₂ kp₂
    have cx₂ : Cx K (cenvOf scope env C) (μs i ++ capt μ xs) h₂ := Cx.comp ((c.mono g).mono g₁) gb₂ hn₂ (fun x d e => ⟨names_local tl (hμ i) e, let ⟨v, a, b⟩ := hμ₂ x d e; ⟨v, a, d.mono b gb₂⟩⟩) cap ok'.kind
    refine wpAny_bind (hin i hlt C h₂ (g.trans (g₁.trans gb₂)) cx₂ _ (Gr.refl _) { s with heap := h₂, toks := tk₂ } _ _ rfl fun v h₃ tk₃ p₃ => ?_)
    obtain ⟨g₃, r, t, u, z, rfl, hr⟩ := p₃
    refine wpAny_bind (wpAny_standAt (wpAny_bind (wpAny_of_eq (hfold2 _ _) (wpAny_bind (wpAny_holding (wpAny_pyIter_range hr hsm ?_))))))
    obtain ⟨h₄, hI⟩ : ∃ h₄, h₃.push { cls := .type "range_iterator", data := .fields #[rawInt a2, rawInt (Builtin.Range.rangeSize a2 b2 c2), rawInt c2] } = h₄ := ⟨_, rfl⟩
    have g₄ : Gr h₃ h₄ := hI ▸ Gr.push _ _
    have hit₄ : IsRangeIter h₄ h₃.objs.size (a2 + ((0 : Nat) : Int) * c2) ((n2 : Int) - ((0 : Nat) : Int)) c2 := by
      show h₄.get? _ = some _
      rw [← hI, ← hn2]; simpa using Heap.get?_push_size (o := { cls := .type "range_iterator", data := .fields #[rawInt a2, rawInt (Builtin.Range.rangeSize a2 b2 c2), rawInt c2] }) h₃ rfl
    have hn₃ : h₃.Ns C m₂ := hn₂.keeps g₃
    have hC3 : C < h₃.objs.size := hn₃.lt
    have gb₃ : Gr hb h₃ := gb₂.trans g₃
    have hl₃ : h₃.IsList (C - 1) (List.toArray ys) := by obtain ⟨o, ho, r⟩ := hl'; exact ⟨o, g₃ _ _ (kp₂ _ _ hDw (Ne.symm hCD) ho), r⟩
    have hbI : hb.objs.size ≤ h₃.objs.size := Nat.le_trans hCb (Nat.le_of_lt hC3)
    have P2 : Pl prog w A (.Name x2 px2) (.ref h₃.objs.size) (cenvOf scope env C) hb n2 (fun j => [(x2, D.int (a2 + (j : Int) * c2))]) [h₃.objs.size] [h₃.objs.size] (fun i h => IsRangeIter h h₃.objs.size (a2 + (i : Nat) * c2) ((n2 : Int) - (i : Nat)) c2) :=
      Pl.name (Walks.range hh h₃.objs.size a2 c2 n2) (fun b hb => by rw [List.mem_singleton.mp hb]; exact hbI) (fun i v hi hv => hv) ⟨ok'.kind, lookup_relabel_local tl2⟩
    refine wpAny_bind (wpAny_runOwn ?_)
    have hI3 : C - 1 < h₃.objs.size := Nat.lt_of_le_of_lt (Nat.sub_le _ _) hC3
    have loop : codeAny (model prog w) A (.compLoop (.ListComp elt [⟨tg, iter, [], 0⟩, ⟨.Name x2 px2, iter2, [], 0⟩] scope pos) 1 (.ref h₃.objs.size) (.ref (C - 1)) (cenvOf scope env C)) (fun r s' => r = .ok .next ∧ ∃ h₅ tk₅ m₅ ys₅, s' = { s with heap := h₅, toks := tk₅ } ∧ Gr hb h₅ ∧ h₅.Ns C m₅ ∧ h₅.IsList (C - 1) (List.toArray ys₅) ∧ All2 (fun u d => d.at' env.frame u h₅) ys₅ (res (i + 1)) ∧ (∀ b o, b ∉ [h₃.objs.size] → b ≠ C → b ≠ C - 1 → h₄.get? b = some o → h₅.get? b = some o)) { s with heap := h₄, toks := tk₃ } := by
      refine comp_loop (cenv := cenvOf scope env C) (ifs := []) (p := fun _ => true) (dd := fun j => D.int (val i j)) (ys₀ := ys) (ds₀ := res i) (lo := h₃.objs.size + 1) (m₀ := m₂) rfl (by rfl) P2 { s with heap := h₄, toks := tk₃ } _ hit₄ (gb₃.trans g₄) (hn₃.keeps g₄) (isList_grow hl₃ g₄) (free2 hv')
        (fun q => by rw [List.mem_singleton] at q; have q' : C = h₃.objs.size := q; rw [q'] at hC3; exact Nat.lt_irrefl _ hC3) (fun q => by rw [List.mem_singleton.mp q] at hI3; exact Nat.lt_irrefl _ hI3) hCb hDb hCD
        (fun d hd f u a b _ x => hfree i d hd f u a b x) (fun j _ => Far.int) (Nat.lt_succ_of_lt hC3) (Nat.lt_succ_of_lt hI3) (fun b q => by rw [List.mem_singleton.mp q]; exact Nat.lt_succ_self _)
        (fun _ _ _ _ _ _ _ _ => rfl) (fun j h₅ m₅ hj _ gb₅ hn₅ hm₅ hx₅ => ?_) ?_ ?_
      · refine (hel i hlt j hj C h₅ (g.trans (g₁.trans gb₅)) (Cx.comp (μl := (x2, D.int (a2 + (j : Int) * c2)) :: μs i) ((c.mono g).mono g₁) gb₅ hn₅ (fun x d e => ?_) cap ok'.kind)) _ (Gr.refl _)
        rw [List.lookup_cons] at e
        by_cases q : x = x2
        · subst q
          rw [beq_self_eq_true] at e
          cases e
          obtain ⟨v, a, b⟩ := hm₅ x (D.int (a2 + (j : Int) * c2)) (by simp)
          exact ⟨tl2, v, a, b⟩
        · rw [beq_eq_false_iff_ne.mpr q] at e
          refine ⟨names_local tl (hμ i) e, ?_⟩
          obtain ⟨v, a, b⟩ := hμ₂ x d e
          refine ⟨v, (hx₅ x fun j _ => ?_).trans a, d.mono b gb₅⟩
          simpa using q
      · have e1 := hv'.length
        rw [e1, hlen, sizeLine_eq]
        have : (i + 1) * n2 ≤ n * n2 := Nat.mul_le_mul_right _ hlt
        rw [Nat.succ_mul] at this
        omega
      · intro h₅ tk₅ m₅ ys₅ gb₅ hn₅ _ hl₅ hv₅ kp₅
        refine ⟨rfl, h₅, tk₅, m₅, ys₅, rfl, gb₅, hn₅, hl₅, ?_, kp₅⟩
        rw [hres]
        have e : (List.range n2).filter (fun _ => true) = List.range n2 := List.filter_eq_self.mpr fun _ _ => rfl
        rw [e] at hv₅
        exact hv₅
    have fin : ∀ (r : Result) (s' : Shared), (r = .ok .next ∧ ∃ h₅ tk₅ m₅ ys₅, s' = { s with heap := h₅, toks := tk₅ } ∧ Gr hb h₅ ∧ h₅.Ns C m₅ ∧ h₅.IsList (C - 1) (List.toArray ys₅) ∧ All2 (fun u d => d.at' env.frame u h₅) ys₅ (res (i + 1)) ∧ (∀ b o, b ∉ [h₃.objs.size] → b ≠ C → b ≠ C - 1 → h₄.get? b = some o → h₅.get? b = some o)) → ∃ i' h' tk m' ys, s' = { s with heap := h', toks := tk } ∧ i' ≤ n ∧ n + 1 - (i + 1) = n + 1 - i' ∧ St i' h' ∧ Gr hb h' ∧ h'.Ns C m' ∧ h'.IsList (C - 1) (List.toArray ys) ∧ All2 (fun u d => d.at' env.frame u h') ys (res i') := by
      rintro r s' ⟨_, h₅, tk₅, m₅, ys₅, rfl, gb₅, hn₅, hl₅, hv₅, kp₅⟩
      refine ⟨i + 1, h₅, tk₅, m₅, ys₅, rfl, hlt, rfl, P.frame _ _ _ st₂ fun b hbf o e => ?_, gb₅, hn₅, hl₅, hv₅⟩
      refine kp₅ b o (fun q => ?_) (fun q => hCf (q ▸ hbf)) (fun q => hDf (q ▸ hbf)) (g₄ b o (g₃ b o e))
      have := Heap.lt_size (g₃ b o e)
      rw [List.mem_singleton.mp q] at this
      exact Nat.lt_irrefl _ this
    have loop' := codeAny_mono (R' := fun (r : Result) s' => r = .ok .next ∧ ∃ i' h' tk m' ys, s' = { s with heap := h', toks := tk } ∧ i' ≤ n ∧ n + 1 - (i + 1) = n + 1 - i' ∧ St i' h' ∧ Gr hb h' ∧ h'.Ns C m' ∧ h'.IsList (C - 1) (List.toArray ys) ∧ All2 (fun u d => d.at' env.frame u h') ys (res i')) loop fun r s' hq => ⟨hq.1, fin r s' hq⟩
    have start := comp_start (g := ⟨.Name x2 px2, iter2, [], 0⟩) (elt := elt) (gens := [⟨tg, iter, [], 0⟩, ⟨.Name x2 px2, iter2, [], 0⟩]) (scope := scope) (pos := pos) (dep := 1) rfl rfl loop' (wpAny_mono (P2.self 0 { s with heap := h₄, toks := tk₃ } _ _ hit₄ loop') (fun v s' hv => by obtain ⟨rfl, hv⟩ := hv; exact hv) fun _ _ q => q)
    subst hI
    refine codeAny_mono start fun r s' hq => ?_
    obtain ⟨rfl, hq⟩ := hq
    exact wpAny_pure ⟨rfl, _, by omega, hq⟩
  · obtain rfl : i = n := Nat.le_antisymm hi (Nat.not_lt.mp hlt)
    refine turn_done (P.done _ _ _ st' fun h₂ tk₂ kp₂ => ?_)
    have hn₂ : h₂.Ns C m' := hn'.at' fun o e => kp₂ _ o hCw e
    have gb₂ : Gr hb h₂ := fun b o e => kp₂ b o (fun q => Nat.lt_irrefl _ (Nat.lt_of_lt_of_le (Heap.lt_size e) (P.fresh b q))) (g' b o e)
    have hl₂ : h₂.IsList (C - 1) (List.toArray ys) := by obtain ⟨o, ho, r⟩ := hl'; exact ⟨o, kp₂ _ _ hDw ho, r⟩
    refine ⟨m', hn₂, fun h₃ hs₃ => k _ h₃ tk₂ ⟨fun b o e => hs₃.extBut b o (fun q => ?_) (gb₂ b o (g₁ b o e)), C - 1, ys, rfl, hl₂.extBut hs₃.extBut (Ne.symm hCD), free2 hv'⟩⟩
    have := Heap.lt_size (g₁ b o e)
    rw [q] at this
    exact Nat.lt_irrefl _ (Nat.lt_of_lt_of_le this hCb)

end Mine
end Core6x
section Core7x
open PySem PySem.W PyProof.Rows PySem.Calls
namespace Mine
variable {prog : Program} {w : World} {A : Around} {K : Frag} {env : Env} {μ : Names} {h h₀ : Heap}

/-- an iterator has turned -/
theorem Fm.weak {h' : Heap} {m : Str → Option Value} (F : Fm K h₀ env μ h) (n : h.Ns env.locals m) (n' : h'.Ns env.locals m) (b : WBut env.locals h h') (cl : ∀ {c v}, h.IsCell c v → h'.IsCell c v) : Fm K h₀ env μ h' := by
  have hfr := F.fr
  have kp : Gr h₀ h' := fun c o e => b c o (F.keep c o e) (.inl (Nat.lt_of_lt_of_le (Heap.lt_size e) F.fresh))
  refine ⟨⟨F.cx.kind, F.cx.glob, F.cx.blt, F.gd0.mono kp, fun y d' e => ?_, ns_live F.fr n'⟩, F.gd0, ⟨_, n'⟩, fun y c e => let ⟨v, i⟩ := F.cells y c e; ⟨v, cl i⟩, F.apart, kp, F.fresh, F.cabove, F.fr⟩
  obtain ⟨u, a, q⟩ := F.cx.nm y d' e
  refine ⟨u, ?_, by rw [hfr] at q ⊢; exact d'.stay q n b⟩
  rcases a with ⟨kl, m', n₁, q'⟩ | ⟨kc, c, l, i⟩
  · rw [ns_same n₁ n] at q'
    exact .inl ⟨kl, _, n', q'⟩
  · exact .inr ⟨kc, c, l, cl i⟩

structure WkF (prog : Program) (w : World) (A : Around) (I : Addr) (n : Nat) (ds : Nat → D) (fr : Option Addr) (hb : Heap) (fp : List Addr) (P : Nat → Value → Prop) (St : Nat → Heap → Prop) : Prop where
  walks : Walks prog w A I fp [I] n P St
  item : ∀ i v, i < n → P i v → (ds i).at' fr v hb
  fresh : hb.objs.size ≤ I
  kind : ∀ i h, St i h → ∀ b ∈ fp, ∀ o, h.get? b = some o → nonCell o ∧ ∀ es ep, o.data ≠ .dict es ep
  iter : ∀ i h, St i h → ∃ o, h.get? I = some o ∧ isIter o

def FSrc (prog : Program) (w : World) (A : Around) (env : Env) (h : Heap) (iter : Expr) (n : Nat) (ds : Nat → D) : Prop :=
  ∀ (s : Shared) (Q : Value → Shared → Prop) (E : Value → Shared → Prop), Gr h s.heap →
    (∀ I h' tk' hb fp P St, Gr s.heap hb → Gr hb h' → WkF prog w A I n ds env.frame hb fp P St → St 0 h' → Q (.ref I) { s with heap := h', toks := tk' }) →
    wpAny (model prog w) A (eval iter env) (fun x s₁ => wpAny (model prog w) A (pyIter x) Q E s₁) E s

theorem FSrc.list {iter : Expr} {ds : List D} {dz : D} (hh : A.handled = none) (y : Ev prog w A env h iter (D.list ds)) : FSrc prog w A env h iter ds.length (fun i => ds.getD i dz) := by
  intro s Q E g k
  refine y _ g s _ E rfl fun v h₁ t₁ p₁ => ?_
  obtain ⟨g₁, a, vs, rfl, l, r⟩ := p₁
  have hlt : a < h₁.objs.size := by obtain ⟨o, ho, _⟩ := l; exact Heap.lt_size ho
  have W := Walks.list (prog := prog) (w := w) hh h₁.objs.size a (Nat.ne_of_lt hlt) vs.toArray
  rw [show vs.toArray.size = ds.length by rw [List.size_toArray]; exact r.length] at W
  refine wpAny_pyIter_list l (k _ _ _ h₁ _ _ _ g₁ (Gr.push _ _) ⟨W, fun i v hi hv => ?_, Nat.le_refl _, fun i h st b hb o e => ?_, fun i h st => ?_⟩ ⟨⟨_, Heap.get?_push_size _ rfl, rfl, rfl⟩, l.push _⟩)
  · obtain ⟨d, e, hd⟩ := r.get' i v (by simpa using hv)
    rw [List.getD_eq_getElem?_getD, e]; exact hd
  · rcases List.mem_cons.mp hb with rfl | hb
    · obtain ⟨o', e', _, hd⟩ := st.1
      rw [e] at e'; cases e'
      refine ⟨fun v q => ?_, fun es ep q => ?_⟩ <;> rw [hd] at q <;> cases q
    · rw [List.mem_singleton.mp hb] at e
      obtain ⟨o', e', _, n, hd⟩ := st.2
      rw [e] at e'; cases e'
      refine ⟨fun v q => ?_, fun es ep q => ?_⟩ <;> rw [hd] at q <;> cases q
  · obtain ⟨o', e', hc, hd⟩ := st.1
    exact ⟨o', e', .inl hc⟩
theorem FSrc.tup {iter : Expr} {ds : List D} {dz : D} (hh : A.handled = none) (y : Ev prog w A env h iter (D.tup ds)) : FSrc prog w A env h iter ds.length (fun i => ds.getD i dz) := by
  intro s Q E g k
  refine y _ g s _ E rfl fun v h₁ t₁ p₁ => ?_
  obtain ⟨g₁, a, vs, rfl, l, r⟩ := p₁
  have l : h₁.IsTuple a vs.toArray := l
  have hlt : a < h₁.objs.size := by obtain ⟨o, ho, _⟩ := l; exact Heap.lt_size ho
  have W := Walks.tuple (prog := prog) (w := w) hh h₁.objs.size a (Nat.ne_of_lt hlt) vs.toArray
  rw [show vs.toArray.size = ds.length by rw [List.size_toArray]; exact r.length] at W
  refine wpAny_pyIter_tuple l (k _ _ _ h₁ _ _ _ g₁ (Gr.push _ _) ⟨W, fun i v hi hv => ?_, Nat.le_refl _, fun i h st b hb o e => ?_, fun i h st => ?_⟩ ⟨⟨_, Heap.get?_push_size _ rfl, rfl, rfl⟩, l.push _⟩)
  · obtain ⟨d, e, hd⟩ := r.get' i v (by simpa using hv)
    rw [List.getD_eq_getElem?_getD, e]; exact hd
  · rcases List.mem_cons.mp hb with rfl | hb
    · obtain ⟨o', e', _, hd⟩ := st.1
      rw [e] at e'; cases e'
      refine ⟨fun v q => ?_, fun es ep q => ?_⟩ <;> rw [hd] at q <;> cases q
    · rw [List.mem_singleton.mp hb] at e
      obtain ⟨o', e', _, n, hd⟩ := st.2
      rw [e] at e'; cases e'
      refine ⟨fun v q => ?_, fun es ep q => ?_⟩ <;> rw [hd] at q <;> cases q
  · obtain ⟨o', e', hc, hd⟩ := st.1
    exact ⟨o', e', .inr (.inr hc)⟩
theorem FSrc.range {iter : Expr} {a b c : Int} {n : Nat} (hh : A.handled = none) (y : Ev prog w A env h iter (D.range a b c)) (hsm : Builtin.Range.small a b c = true) (hn : Builtin.Range.rangeSize a b c = ((n : Nat) : Int)) :
    FSrc prog w A env h iter n (fun i => D.int (a + (i : Int) * c)) := by
  intro s Q E g k
  refine y _ g s _ E rfl fun v h₁ t₁ p₁ => ?_
  obtain ⟨g₁, r, t, u, q, rfl, hr⟩ := p₁
  refine wpAny_pyIter_range (s := { s with heap := h₁, toks := t₁ }) hr hsm (k _ _ _ h₁ _ _ _ g₁ (Gr.push _ _) ⟨Walks.range hh h₁.objs.size a c n, fun i v hi hv => hv, Nat.le_refl _, fun i h st b hb o e => ?_, fun i h st => ⟨_, st, .inr (.inl rfl)⟩⟩ ?_)
  · rw [List.mem_singleton.mp hb] at e
    have st : h.get? _ = some _ := st
    rw [e] at st; cases st
    exact ⟨fun v q => (by cases q), fun es ep q => by cases q⟩
  · show IsRangeIter _ _ _ _ _
    rw [hn]; simpa using Heap.get?_push_size _ rfl

/-- a for over what is drawn, its body going on -/
theorem X.for {x : Str} {px pos : Pos} {iter : Expr} {body : List Stmt} {n : Nat} {ds : Nat → D} (μi : Nat → Names) (F : Fm K h₀ env (μi 0) h) (src : FSrc prog w A env h iter n ds) (hx : env.kindOf x = some .local ∨ (env.kindOf x = some .cell ∧ (env.cells.lookup x).isSome = true))
    (turn : ∀ i, i < n → ∀ h', Fm K h₀ env ((x, ds i) :: μi i) h' → Xs prog w A env h' body (go (Fm K h₀ env (μi (i + 1)))))
    (hs : ∀ x, foldedSetIterable iter env x = pure x := by intro _; rfl) : X prog w A env h (.For (.Name x px) iter body [] pos) (go (Fm K h₀ env (μi n))) := by
  intro s Q E e k
  subst e
  refine wpAny_For (src s _ E (Gr.refl _) fun I h₁ t₁ hb fp P St g₁ g₂ W st => ?_) hs
  have hL₀ : ∃ m, hb.Ns env.locals m := (F.mono g₁).ns
  have hbI : ∀ b o, hb.get? b = some o → b ≠ I := fun b o e => Nat.ne_of_lt (Nat.lt_of_lt_of_le (Heap.lt_size e) W.fresh)
  have hLI : env.locals < I := by obtain ⟨m, hm⟩ := hL₀; exact Nat.lt_of_lt_of_le hm.lt W.fresh
  refine codeAny_forLoop (fun k' s' => ∃ i h' tk, s' = { s with heap := h', toks := tk } ∧ i ≤ n ∧ k' = n + 1 - i ∧ St i h' ∧ Fm K h₀ env (μi i) h' ∧ But env.locals hb h') ?_ (n + 1) ⟨0, h₁, t₁, rfl, Nat.zero_le _, rfl, st, F.mono (g₁.trans g₂), g₂.but⟩
  rintro q s' ⟨i, h', tk, rfl, hi, rfl, st', F', b'⟩
  obtain ⟨m, hm⟩ := F'.ns
  obtain ⟨oI, heI, hIi⟩ := W.iter _ _ st'
  have step : ∀ {h₂ : Heap}, (∀ b o, b ∉ [I] → h'.get? b = some o → h₂.get? b = some o) → Fm K h₀ env (μi i) h₂ ∧ But env.locals hb h₂ := by
    intro h₂ kp
    have kp' : ∀ b o, b ≠ I → h'.get? b = some o → h₂.get? b = some o := fun b o hb e => kp b o (by simpa using hb) e
    refine ⟨F'.weak hm (hm.at' fun o e => kp' _ o (Nat.ne_of_lt hLI) e) (fun b o e n => kp' b o (fun q => ?_) e) fun {c v} ic => ?_, fun b o e n => kp' b o (hbI b o e) (b' b o e n)⟩
    · subst q
      rw [heI] at e; cases e
      rcases n with n | n
      · exact Nat.lt_irrefl _ (Nat.lt_trans hLI n)
      · exact n.2.1 hIi
    · obtain ⟨o, ho, hd⟩ := ic
      refine ⟨o, kp' c o (fun q => ?_) ho, hd⟩
      have := (W.kind _ _ st' I (W.walks.sub I (List.mem_singleton.mpr rfl)) oI heI).1
      rw [q, heI] at ho; cases ho
      exact this _ hd
  by_cases hlt : i < n
  · refine W.walks.item i _ _ _ hlt st' fun v h₂ t₂ pv st₂ kp => ?_
    obtain ⟨F₂, b₂⟩ := step kp
    refine wpAny_assign_Name (Fm.store F₂ hx (d := ds i) ?_ _ _ _ rfl fun _ h₃ t₃ p₃ => ?_)
    · obtain ⟨m₀, hm₀⟩ := hL₀
      have := W.item i v hlt pv
      rw [F.fr] at this ⊢
      exact (ds i).stay this hm₀ b₂.weak
    · refine turn i hlt h₃ p₃.2 _ _ _ rfl fun f h₄ t₄ p₄ => ?_
      obtain ⟨b₄, rfl, F₄⟩ := p₄
      refine ⟨n + 1 - (i + 1), by omega, i + 1, h₄, t₄, rfl, hlt, rfl, ?_, F₄, b₂.trans (p₃.1.trans b₄)⟩
      obtain ⟨m₂, hm₂⟩ := F₂.ns
      refine W.walks.frame _ _ _ st₂ fun b hbf o e => b₄ b o (p₃.1 b o e ?_) ?_
      all_goals
        have kd := W.kind _ _ st₂ b hbf o e
        refine .inr ⟨kd.1, fun q => ?_⟩
        obtain ⟨oL, es, ep, hL, hd, _⟩ := hm₂
        rw [q, hL] at e; cases e
        exact kd.2 _ _ hd
  · obtain rfl : i = n := Nat.le_antisymm hi (Nat.not_lt.mp hlt)
    refine W.walks.done _ _ _ st' fun h₂ t₂ kp => ?_
    obtain ⟨F₂, b₂⟩ := step kp
    exact wpAny_execs_nil (k .next h₂ t₂ ⟨g₁.but.trans b₂, rfl, F₂⟩)

/-- a while of n turns -/
theorem X.while {test : Expr} {body : List Stmt} {pos : Pos} (n : Nat) (μi : Nat → Names) (F : Fm K h₀ env (μi 0) h) (ts : ∀ i, i ≤ n → ∀ h', Fm K h₀ env (μi i) h' → Ts prog w A env h' test (decide (i < n)))
    (turn : ∀ i, i < n → ∀ h', Fm K h₀ env (μi i) h' → Xs prog w A env h' body (go (Fm K h₀ env (μi (i + 1))))) : X prog w A env h (.While test body [] pos) (go (Fm K h₀ env (μi n))) := by
  intro s Q E e k
  subst e
  refine wpAny_While (codeAny_whileLoop (fun k' s' => ∃ i h' tk, s' = { s with heap := h', toks := tk } ∧ i ≤ n ∧ k' = n + 1 - i ∧ Fm K h₀ env (μi i) h' ∧ But env.locals s.heap h') ?_ (n + 1) ⟨0, s.heap, s.toks, rfl, Nat.zero_le _, rfl, F, But.refl _ _⟩)
  rintro q s' ⟨i, h', tk, rfl, hi, rfl, F', b'⟩
  refine ts i hi h' F' _ (Gr.refl _) _ _ _ rfl fun b h₁ t₁ p₁ => ?_
  obtain ⟨g₁, rfl⟩ := p₁
  by_cases hlt : i < n
  · rw [decide_eq_true hlt]
    simp only [if_true]
    refine turn i hlt h₁ (F'.mono g₁) _ _ _ rfl fun f h₂ t₂ p₂ => ?_
    obtain ⟨b₂, rfl, F₂⟩ := p₂
    exact ⟨n + 1 - (i + 1), by omega, i + 1, h₂, t₂, rfl, hlt, rfl, F₂, b'.trans (g₁.but.trans b₂)⟩
  · rw [decide_eq_false hlt]
    obtain rfl : i = n := Nat.le_antisymm hi (Nat.not_lt.mp hlt)
    exact wpAny_execs_nil (k .next h₁ t₁ ⟨b'.trans g₁.but, rfl, F'.mono g₁⟩)

/-! ## built-in calls -/
theorem toItems : ∀ {vs : List Value} {ns : List Int} {f : Option Addr} {h : Heap}, All2 (fun u d => d.at' f u h) vs (ns.map D.int) → IntsAre vs ns
  | [], [], _, _, .nil => .nil
  | _, n :: ns, _, _, .cons x r => by obtain ⟨t, rfl⟩ := x; exact .cons n t (toItems r)
theorem ofItems : ∀ {vs : List Value} {ns : List Int} {f : Option Addr} {h : Heap}, IntsAre vs ns → All2 (fun u d => d.at' f u h) vs (ns.map D.int)
  | _, _, _, _, .nil => .nil
  | _, _, _, _, .cons n t r => .cons ⟨t, rfl⟩ (ofItems r)

theorem Ev.len {p pos : Pos} {e : Expr} {ds : List D} (x : Ev prog w A env h (.Name "len" p) (D.val (.builtin "len"))) (y : Ev prog w A env h e (D.list ds)) (hz : ds.length ≤ 1000000)
    (hs : starEach [e] env = (false, eval e env) :: starEach [] env := by rfl) : Ev prog w A env h (.Call (.Name "len" p) [e] [] pos) (D.int ds.length) := by
  refine Ev.callb x (Evs.cons y Evs.nil hs) (fun vs h' g hv => ?_) rfl hs
  obtain ⟨v, rfl, a, us, rfl, l, r⟩ := hv.one
  intro s Q E e k
  subst e
  have := r.length
  refine len_list l (by rw [List.size_toArray]; omega) (k _ s.heap _ ⟨Gr.refl _, s.toks + 1, ?_⟩)
  rw [List.size_toArray, this]
theorem Ev.max {p pos : Pos} {e₁ e₂ : Expr} {a b : Int} (hh : A.handled = none) (x : Ev prog w A env h (.Name "max" p) (D.val (.builtin "max"))) (y : Ev prog w A env h e₁ (D.int a)) (z : Ev prog w A env h e₂ (D.int b))
    (hs : starEach [e₁, e₂] env = (false, eval e₁ env) :: starEach [e₂] env := by rfl) (hs' : starEach [e₂] env = (false, eval e₂ env) :: starEach [] env := by rfl) (hplain : (backTo pos (starEach [e₂] env)).any (·.1) = false := by rfl) :
    Ev prog w A env h (.Call (.Name "max" p) [e₁, e₂] [] pos) (D.int (Max.max a b)) := by
  refine Ev.callb x (Evs.cons y (Evs.cons z Evs.nil hs') hs) (fun vs h' g hv => ?_) rfl hs hplain
  obtain ⟨v, v', rfl, ⟨t, rfl⟩, ⟨t', rfl⟩⟩ := hv.two
  intro s Q E e k
  subst e
  refine max_two_ints hh fun h' tk kp => k _ h' tk ⟨kp, ?_⟩
  by_cases q : b > a
  · exact ⟨t', by rw [if_pos q, Int.max_eq_right (by omega)]⟩
  · exact ⟨t, by rw [if_neg q, Int.max_eq_left (by omega)]⟩
theorem Ev.min {p pos : Pos} {e₁ e₂ : Expr} {a b : Int} (hh : A.handled = none) (x : Ev prog w A env h (.Name "min" p) (D.val (.builtin "min"))) (y : Ev prog w A env h e₁ (D.int a)) (z : Ev prog w A env h e₂ (D.int b))
    (hs : starEach [e₁, e₂] env = (false, eval e₁ env) :: starEach [e₂] env := by rfl) (hs' : starEach [e₂] env = (false, eval e₂ env) :: starEach [] env := by rfl) (hplain : (backTo pos (starEach [e₂] env)).any (·.1) = false := by rfl) :
    Ev prog w A env h (.Call (.Name "min" p) [e₁, e₂] [] pos) (D.int (Min.min a b)) := by
  refine Ev.callb x (Evs.cons y (Evs.cons z Evs.nil hs') hs) (fun vs h' g hv => ?_) rfl hs hplain
  obtain ⟨v, v', rfl, ⟨t, rfl⟩, ⟨t', rfl⟩⟩ := hv.two
  intro s Q E e k
  subst e
  refine min_two_ints hh fun h' tk kp => k _ h' tk ⟨kp, ?_⟩
  by_cases q : b < a
  · exact ⟨t', by rw [if_pos q, Int.min_eq_right (by omega)]⟩
  · exact ⟨t, by rw [if_neg q, Int.min_eq_left (by omega)]⟩
theorem Ev.abs {p pos : Pos} {e : Expr} {a : Int} (x : Ev prog w A env h (.Name "abs" p) (D.val (.builtin "abs"))) (y : Ev prog w A env h e (D.int a))
    (hs : starEach [e] env = (false, eval e env) :: starEach [] env := by rfl) : Ev prog w A env h (.Call (.Name "abs" p) [e] [] pos) (D.int a.natAbs) := by
  refine Ev.callb x (Evs.cons y Evs.nil hs) (fun vs h' g hv => ?_) rfl hs
  obtain ⟨v, rfl, t, rfl⟩ := hv.one
  intro s Q E e k
  subst e
  refine call_abs_int fun u tk => k _ s.heap tk ⟨Gr.refl _, u, ?_⟩
  congr 1
  split <;> omega
theorem Ev.sum {p pos : Pos} {e : Expr} {ns : List Int} (hh : A.handled = none) (x : Ev prog w A env h (.Name "sum" p) (D.val (.builtin "sum"))) (y : Ev prog w A env h e (D.ints ns))
    (hfit : ∀ j, j < ns.length → InLong (ns.getD j 0) ∧ InLong ((ns.take (j + 1)).sum))
    (hs : starEach [e] env = (false, eval e env) :: starEach [] env := by rfl) : Ev prog w A env h (.Call (.Name "sum" p) [e] [] pos) (D.int ns.sum) := by
  refine Ev.callb x (Evs.cons y Evs.nil hs) (fun vs h' g hv => ?_) rfl hs
  obtain ⟨v, rfl, a, us, rfl, l, r⟩ := hv.one
  intro s Q E e k
  subst e
  have hI := toItems r
  have hall := hI.allInts
  obtain ⟨xs, hxs⟩ := hall.items
  rw [hxs] at l
  have hn : numsOf (intItems xs).toList = ns := by rw [← hxs]; exact hI.numsOf
  rw [nums_intItems] at hn
  refine sum_intList hh l (fun j hj => ?_) fun h' tk t' hk => k _ h' tk ⟨hk, t', ?_⟩
  · rw [numAt_eq, preSum_eq, hn]; exact hfit j (by rw [← hn]; simpa using hj)
  · rw [preSum_eq, hn, List.take_of_length_le (by rw [← hn]; simp)]
theorem Ev.range1 {p pos : Pos} {e : Expr} {n : Int} (x : Ev prog w A env h (.Name "range" p) (D.val (.type "range"))) (y : Ev prog w A env h e (D.int n))
    (hs : starEach [e] env = (false, eval e env) :: starEach [] env := by rfl) : Ev prog w A env h (.Call (.Name "range" p) [e] [] pos) (D.range 0 n 1) := by
  refine Ev.callt x (Evs.cons y Evs.nil hs) (fun vs h' g hv => ?_) rfl hs
  obtain ⟨v, rfl, t, rfl⟩ := hv.one
  intro s Q E e k
  subst e
  exact call_range_1 (k _ _ _ ⟨Gr.push _ _, _, _, _, _, rfl, IsRange.new ..⟩)
theorem Ev.range2 {p pos : Pos} {e₁ e₂ : Expr} {a b : Int} (x : Ev prog w A env h (.Name "range" p) (D.val (.type "range"))) (y : Ev prog w A env h e₁ (D.int a)) (z : Ev prog w A env h e₂ (D.int b))
    (hs : starEach [e₁, e₂] env = (false, eval e₁ env) :: starEach [e₂] env := by rfl) (hs' : starEach [e₂] env = (false, eval e₂ env) :: starEach [] env := by rfl) (hplain : (backTo pos (starEach [e₂] env)).any (·.1) = false := by rfl) :
    Ev prog w A env h (.Call (.Name "range" p) [e₁, e₂] [] pos) (D.range a b 1) := by
  refine Ev.callt x (Evs.cons y (Evs.cons z Evs.nil hs') hs) (fun vs h' g hv => ?_) rfl hs hplain
  obtain ⟨v, v', rfl, ⟨t, rfl⟩, ⟨t', rfl⟩⟩ := hv.two
  intro s Q E e k
  subst e
  exact call_range_2 (k _ _ _ ⟨Gr.push _ _, _, _, _, _, rfl, IsRange.new ..⟩)
theorem Ev.range3 {p pos : Pos} {e₁ e₂ e₃ : Expr} {a b c : Int} (x : Ev prog w A env h (.Name "range" p) (D.val (.type "range"))) (y : Ev prog w A env h e₁ (D.int a)) (z : Ev prog w A env h e₂ (D.int b)) (u : Ev prog w A env h e₃ (D.int c)) (hc : c ≠ 0)
    (hp : Builtin.divisionGoesByPylong (b - a) c = false)
    (hs : starEach [e₁, e₂, e₃] env = (false, eval e₁ env) :: starEach [e₂, e₃] env := by rfl) (hs' : starEach [e₂, e₃] env = (false, eval e₂ env) :: starEach [e₃] env := by rfl) (hs'' : starEach [e₃] env = (false, eval e₃ env) :: starEach [] env := by rfl)
    (hplain : (backTo pos (starEach [e₂, e₃] env)).any (·.1) = false := by rfl) :
    Ev prog w A env h (.Call (.Name "range" p) [e₁, e₂, e₃] [] pos) (D.range a b c) := by
  refine Ev.callt x (Evs.cons y (Evs.cons z (Evs.cons u Evs.nil hs'') hs') hs) (fun vs h' g hv => ?_) rfl hs hplain
  obtain ⟨v, v', v'', rfl, ⟨t, rfl⟩, ⟨t', rfl⟩, ⟨t'', rfl⟩⟩ := hv.three
  intro s Q E e k
  subst e
  exact call_range_3 hc (k _ _ _ ⟨Gr.push _ _, _, _, _, _, rfl, IsRange.new ..⟩) (.inl hp)

/-! ## names of the world -/
structure KB (K : Frag) : Prop where
  len : nsIn K mainGlobals "len" = some none
  max : nsIn K mainGlobals "max" = some none
  min : nsIn K mainGlobals "min" = some none
  abs : nsIn K mainGlobals "abs" = some none
  sum : nsIn K mainGlobals "sum" = some none
  range : nsIn K mainGlobals "range" = some none
  enumerate : nsIn K mainGlobals "enumerate" = some none
  sorted : nsIn K mainGlobals "sorted" = some none
  set : nsIn K mainGlobals "set" = some none
  isinstance : nsIn K mainGlobals "isinstance" = some none
  int : nsIn K mainGlobals "int" = some none
  bool : nsIn K mainGlobals "bool" = some none
theorem Ev.bLen {p : Pos} (c : Cx K env μ h) (b : KB K) (hk : env.kindOf "len" = some .globalImplicit := by rfl) : Ev prog w A env h (.Name "len" p) (D.val (.builtin "len")) := Ev.bltin c hk b.len (by decide +kernel) (by decide)
theorem Ev.bMax {p : Pos} (c : Cx K env μ h) (b : KB K) (hk : env.kindOf "max" = some .globalImplicit := by rfl) : Ev prog w A env h (.Name "max" p) (D.val (.builtin "max")) := Ev.bltin c hk b.max (by decide +kernel) (by decide)
theorem Ev.bMin {p : Pos} (c : Cx K env μ h) (b : KB K) (hk : env.kindOf "min" = some .globalImplicit := by rfl) : Ev prog w A env h (.Name "min" p) (D.val (.builtin "min")) := Ev.bltin c hk b.min (by decide +kernel) (by decide)
theorem Ev.bAbs {p : Pos} (c : Cx K env μ h) (b : KB K) (hk : env.kindOf "abs" = some .globalImplicit := by rfl) : Ev prog w A env h (.Name "abs" p) (D.val (.builtin "abs")) := Ev.bltin c hk b.abs (by decide +kernel) (by decide)
theorem Ev.bSum {p : Pos} (c : Cx K env μ h) (b : KB K) (hk : env.kindOf "sum" = some .globalImplicit := by rfl) : Ev prog w A env h (.Name "sum" p) (D.val (.builtin "sum")) := Ev.bltin c hk b.sum (by decide +kernel) (by decide)
theorem Ev.bRange {p : Pos} (c : Cx K env μ h) (b : KB K) (hk : env.kindOf "range" = some .globalImplicit := by rfl) : Ev prog w A env h (.Name "range" p) (D.val (.type "range")) := Ev.bltin c hk b.range (by decide +kernel) (by decide)
theorem Ev.bEnum {p : Pos} (c : Cx K env μ h) (b : KB K) (hk : env.kindOf "enumerate" = some .globalImplicit := by rfl) : Ev prog w A env h (.Name "enumerate" p) (D.val (.type "enumerate")) := Ev.bltin c hk b.enumerate (by decide +kernel) (by decide)
theorem Ev.bSorted {p : Pos} (c : Cx K env μ h) (b : KB K) (hk : env.kindOf "sorted" = some .globalImplicit := by rfl) : Ev prog w A env h (.Name "sorted" p) (D.val (.builtin "sorted")) := Ev.bltin c hk b.sorted (by decide +kernel) (by decide)
theorem Ev.bSet {p : Pos} (c : Cx K env μ h) (b : KB K) (hk : env.kindOf "set" = some .globalImplicit := by rfl) : Ev prog w A env h (.Name "set" p) (D.val (.type "set")) := Ev.bltin c hk b.set (by decide +kernel) (by decide)
theorem Ev.bIsinstance {p : Pos} (c : Cx K env μ h) (b : KB K) (hk : env.kindOf "isinstance" = some .globalImplicit := by rfl) : Ev prog w A env h (.Name "isinstance" p) (D.val (.builtin "isinstance")) := Ev.bltin c hk b.isinstance (by decide +kernel) (by decide)
theorem Ev.bInt {p : Pos} (c : Cx K env μ h) (b : KB K) (hk : env.kindOf "int" = some .globalImplicit := by rfl) : Ev prog w A env h (.Name "int" p) (D.val (.type "int")) := Ev.bltin c hk b.int (by decide +kernel) (by decide)
theorem Ev.bBool {p : Pos} (c : Cx K env μ h) (b : KB K) (hk : env.kindOf "bool" = some .globalImplicit := by rfl) : Ev prog w A env h (.Name "bool" p) (D.val (.type "bool")) := Ev.bltin c hk b.bool (by decide +kernel) (by decide)

end Mine
end Core7x
section Core8x
open PySem PySem.W PyProof.Rows PySem.Calls
namespace Mine
variable {prog : Program} {w : World} {A : Around} {K : Frag} {env : Env} {μ : Names} {h h₀ : Heap}

/-! ## items, slices -/
theorem tailAny {value slice : Expr} {o i : Value} {T id : String} {ops : List Value} {s : Shared} {Q : Value → Shared → Prop} {E : Value → Shared → Prop} (hT : s.TypeIs o T)
    (hl : typeLookup (.type T) "__getitem__" = pure (some (.builtin id))) (x : wpAny (model prog w) A (getItem o i) Q E s)
    (hs : subscripted slice false o i = operate ops (getItem o i)) : wpAny (model prog w) A (subscriptTail value slice o i) Q E s := by
  unfold subscriptTail
  refine wpAny_bind ?_
  rw [getitemInPython_of_ne hT.not_modules]
  refine wpAny_bind (wpAny_specialOf hT hl ?_)
  refine wpAny_pure (wpAny_bind ?_)
  rw [hs]
  exact wpAny_operating (wpAny_mono x (fun r s₃ h₃ => wpAny_bind (wpAny_letTemporaryGo (wpAny_pure h₃))) fun _ _ q => q)

theorem Ev.item {value slice : Expr} {pos : Pos} {ds : List D} {k : Int} {d : D} (x : Ev prog w A env h value (D.list ds)) (y : Ev prog w A env h slice (D.int k)) (h0 : 0 ≤ k) (h1 : k < 2 ^ 63) (hd : ds[k.toNat]? = some d)
    (hs : ∀ l u, subscripted slice false (.ref l) (.int k u) = operate [.ref l, .int k u] (getItem (.ref l) (.int k u)) := by intros; rfl) : Ev prog w A env h (.Subscript value slice pos) d := by
  intro h' g s Q E e kk
  subst e
  refine Subscript_ (x _ g s _ E rfl fun v h₁ t₁ p₁ => y _ (g.trans p₁.1) _ _ E rfl fun u h₂ t₂ p₂ => ?_)
  obtain ⟨g₁, a, vs, rfl, l, r⟩ := p₁
  obtain ⟨g₂, t, rfl⟩ := p₂
  obtain ⟨u, eu, du⟩ := r.get _ _ hd
  have l₂ := isList_grow l g₂
  refine tailAny (s := { s with heap := h₂, toks := t₂ }) l₂.typeIs slot_list_getitem.lookup (wpAny_getItem_list l₂ h0 h1 (x := u) (by simpa using eu) ?_) (hs a t)
  exact kk u h₂ t₂ ⟨g₁.trans g₂, d.mono du g₂⟩

/-- a run of a list's ints, made anew -/
theorem Ev.slice {value lo hi : Expr} {p pos : Pos} {ns : List Int} {a b : Int} {lo' : Nat} (x : Ev prog w A env h value (D.ints ns)) (y : Ev prog w A env h lo (D.int a)) (z : Ev prog w A env h hi (D.int b)) (hz : ns.length ≤ 1000000)
    (hlo : ∀ h', Gr h h' → lo' ≤ h'.objs.size) :
    Ev prog w A env h (.Subscript value (.Slice (some lo) (some hi) none p) pos) (D.listGt lo' (((ns.drop (clipAt ns.length a)).take (clipAt ns.length b - clipAt ns.length a)).map D.int)) := by
  intro h' g s Q E e kk
  subst e
  refine Subscript_ (x _ g s _ E rfl fun v h₁ t₁ p₁ => wpAny_Slice ?_)
  rw [evalPart_some, evalPart_some]
  refine y _ (g.trans p₁.1) { s with heap := h₁, toks := t₁ } _ E rfl fun u h₂ t₂ p₂ => z _ (g.trans (p₁.1.trans p₂.1)) _ _ E rfl fun u' h₃ t₃ p₃ => ?_
  rw [evalPart_none]
  refine wpAny_pure ?_
  obtain ⟨g₁, l, vs, rfl, hl, r⟩ := p₁
  obtain ⟨g₂, t, rfl⟩ := p₂
  obtain ⟨g₃, t', rfl⟩ := p₃
  have l₃ := isList_grow hl (g₂.trans g₃)
  have hr := toItems r
  refine tailAny (T := "list") (s := { s with heap := h₃.push { cls := .type "slice", data := .fields #[.int a t, .int b t', .none] }, toks := t₃ }) (Heap.IsList.typeIs (s := { s with heap := h₃.push { cls := .type "slice", data := .fields #[.int a t, .int b t', .none] }, toks := t₃ }) (l₃.push _)) list_getitem_lookup
    (wpAny_getItem_list_slice (l₃.push _) (Heap.IsSliceOf.new ..) (.int a t) (.int b t') .none (by simp) ?_ (by have := hr.length; rw [List.size_toArray, sizeLine_eq]; omega)) (ops := [.ref h₃.objs.size, .ref l]) rfl
  refine kk _ _ t₃ ⟨g₁.trans (g₂.trans (g₃.trans ((Gr.push _ _).trans (Gr.push _ _)))), _, (slicePick vs.toArray (some a) (some b) none).toList, rfl, ?_, ?_, ofItems ?_⟩
  · show lo' ≤ (h₃.push _).objs.size
    rw [Heap.size_push]
    exact Nat.le_succ_of_le (hlo _ (g.trans (g₁.trans (g₂.trans g₃))))
  · exact ⟨_, Heap.get?_push_size _ rfl, rfl, 0, rfl⟩
  · exact slice_ints_plain hr a b

/-- two lists of ints, one behind the other -/
theorem Ev.cat {l r : Expr} {pos : Pos} {ns ms : List Int} (x : Ev prog w A env h l (D.ints ns)) (y : Ev prog w A env h r (D.ints ms)) (hz : ns.length + ms.length ≤ 1000000) : Ev prog w A env h (.BinOp l .Add r pos) (D.ints (ns ++ ms)) := by
  refine Ev.bin x y fun u v h' g hu hv s Q E e k => ?_
  subst e
  obtain ⟨a, us, rfl, la, ra⟩ := hu
  obtain ⟨b, vs, rfl, lb, rb⟩ := hv
  have e1 := ra.length
  have e2 := rb.length
  rw [List.length_map] at e1 e2
  obtain ⟨⟨c1, d1, t1, s1⟩, h1, hc1, n1, hd1⟩ := la
  obtain ⟨⟨c2, d2, t2, s2⟩, h2, hc2, n2, hd2⟩ := lb
  simp only at hc1 hd1 hc2 hd2
  subst hc1 hd1 hc2 hd2
  refine concat_meets ⟨_, h1, rfl⟩ ⟨_, h2, rfl⟩ noFill_list_add seq_list_add PySem.F.slot_list_add PySem.F.entry_list_add (PySem.F.args_list_add_2 _ _)
    (list_addW a b us.toArray vs.toArray n1 n2 d1 d2 s1 s2 (by rw [List.size_toArray, List.size_toArray, sizeLine_eq]; omega)) ⟨h1, h2, ?_⟩
  refine k _ _ s.toks ⟨Gr.push _ _, _, us ++ vs, rfl, ⟨_, Heap.get?_push_size _ rfl, rfl, 0, by simp⟩, ?_⟩
  rw [List.map_append]
  exact All2.append (ofItems (toItems ra)) (ofItems (toItems rb))

/-! ## instances -/
inductive FD where
  | int (n : Int)
  | bool (b : Bool)
def FD.at : FD → Value → Prop
  | .int n, v => ∃ t, v = .int n t
  | .bool b, v => v = .bool b
def FD.toD : FD → D
  | .int n => D.int n
  | .bool b => D.bool b
theorem FD.handed : ∀ {d : FD} {v : Value}, d.at v → handedIn v = true
  | .int n, _, ⟨t, rfl⟩ => rfl
  | .bool b, _, rfl => rfl
theorem FD.toD_at : ∀ {d : FD} {v : Value} {f : Option Addr} {h : Heap}, d.at v → d.toD.at' f v h
  | .int n, _, _, _, x => x
  | .bool b, _, _, _, x => x
theorem FD.of_toD : ∀ {d : FD} {v : Value} {f : Option Addr} {h : Heap}, d.toD.at' f v h → d.at v
  | .int n, _, _, _, x => x
  | .bool b, _, _, _, x => x
def Fs (es : List DictEntry) (fs : List (Str × FD)) : Prop := All2 (fun (e : DictEntry) (f : Str × FD) => (∃ t, e.key = .str f.1 t) ∧ f.2.at e.val) es fs
theorem isStr_eq {e : DictEntry} {x y : Str} {t : Tok} (h : e.key = .str y t) : e.key.isStr x = (x == y) := by
  rw [h]
  show (y == x) = (x == y)
  by_cases q : x = y
  · rw [q]
  · rw [beq_eq_false_iff_ne.mpr q, beq_eq_false_iff_ne.mpr (Ne.symm q)]
theorem Fs.get : ∀ {es : List DictEntry} {fs : List (Str × FD)}, Fs es fs → ∀ {x : Str} {d : FD}, fs.lookup x = some d → ∃ v, getL x es = some (some v) ∧ d.at v
  | _, _, .nil, x, d, e => by simp at e
  | e' :: es, f :: fs, .cons (a := _) (b := _) ⟨⟨t, hk⟩, hv⟩ r, x, d, e => by
    obtain ⟨y, fd⟩ := f
    rw [List.lookup_cons] at e
    unfold getL
    rw [List.find?_cons, isStr_eq hk]
    cases q : x == y with
    | true => rw [q] at e; cases e; exact ⟨_, rfl, hv⟩
    | false =>
      rw [q] at e
      obtain ⟨v, hg, ha⟩ := Fs.get r e
      refine ⟨v, ?_, ha⟩
      unfold getL at hg
      dsimp only
      cases hf : es.find? (fun x_1 => x_1.key.isStr x) with
      | some en => rw [hf] at hg; exact hg
      | none => rw [hf] at hg; dsimp only at hg; split at hg <;> exact nomatch hg
theorem Fs.miss : ∀ {es : List DictEntry} {fs : List (Str × FD)}, Fs es fs → ∀ {x : Str}, fs.lookup x = none → getL x es = some none := by
  intro es fs r x e
  have key : ∀ {es : List DictEntry} {fs : List (Str × FD)}, Fs es fs → fs.lookup x = none → es.find? (·.key.isStr x) = none ∧ es.any (·.refKey) = false := by
    intro es fs r
    induction r with
    | nil => intro _; exact ⟨rfl, rfl⟩
    | cons p r ih =>
      rename_i a b l rr
      intro e
      obtain ⟨⟨t, hk⟩, hv⟩ := p
      obtain ⟨y, fd⟩ := b
      rw [List.lookup_cons] at e
      cases q : x == y with
      | true => rw [q] at e; cases e
      | false =>
        rw [q] at e
        obtain ⟨i1, i2⟩ := ih e
        refine ⟨by rw [List.find?_cons, isStr_eq hk, q]; exact i1, by rw [List.any_cons, i2, Bool.or_false]; unfold DictEntry.refKey; rw [hk]⟩
  obtain ⟨a, b⟩ := key r e
  unfold getL
  rw [a, b]
  rfl
def putF (x : Str) (d : FD) : List (Str × FD) → List (Str × FD)
  | [] => [(x, d)]
  | f :: r => if x == f.1 then (f.1, d) :: r else f :: putF x d r
theorem Fs.put {x : Str} {d : FD} {v : Value} {hsh : Int} {t : Tok} (hv : d.at v) : ∀ {es : List DictEntry} {fs : List (Str × FD)}, Fs es fs → Fs (putL x hsh (.str x t) v es) (putF x d fs)
  | _, _, .nil => .cons ⟨⟨t, rfl⟩, hv⟩ .nil
  | e :: es, f :: fs, .cons ⟨⟨u, hk⟩, ha⟩ r => by
    unfold putL putF
    rw [isStr_eq hk]
    cases q : x == f.1 with
    | true => exact .cons ⟨⟨u, hk⟩, hv⟩ r
    | false => exact .cons ⟨⟨u, hk⟩, ha⟩ (Fs.put hv r)
theorem putL_len (x : Str) (hsh : Int) (k v : Value) : ∀ es : List DictEntry, (putL x hsh k v es).length ≤ es.length + 1
  | [] => Nat.le_refl _
  | e :: r => by
    unfold putL
    split
    · exact Nat.le_succ _
    · exact Nat.succ_le_succ (putL_len x hsh k v r)

/-- an object of an own class that holds ints and bools -/
def D.inst (C : Addr) (fs : List (Str × FD)) : D where
  at' f v h := ∃ x dx es n, v = .ref x ∧ h.get? x = some (instObj C dx) ∧ h.get? dx = some (dictOf es n) ∧ f ≠ some dx ∧ Fs es fs
  mono := fun ⟨x, dx, es, n, e, a, b, c, d⟩ g => ⟨x, dx, es, n, e, g _ _ a, g _ _ b, c, d⟩
  stay := by
    rintro L v h h' m ⟨x, dx, es, n, e, a, b, c, d⟩ hn g
    obtain ⟨oL, esL, epL, hL, hdL, _⟩ := hn
    refine ⟨x, dx, es, n, e, g _ _ a (.inr ⟨fun v q => (by cases q), fun q => (by rcases q with q | q | q <;> cases q), fun q => ?_⟩), g _ _ b (.inr ⟨fun v q => (by cases q), notIter (n := "dict") rfl, fun q => c (by rw [q])⟩), c, d⟩
    rw [q, hL] at a; cases a; cases hdL
  enter := fun ⟨x, dx, es, n, e, a, b, c, d⟩ g => ⟨x, dx, es, n, e, a, b, fun q => by
    cases q
    exact Nat.lt_irrefl _ (Nat.lt_of_lt_of_le (Heap.lt_size b) g), d⟩

theorem instAt_of {h : Heap} {x dx C : Addr} {es : List DictEntry} {n : Nat} (a : h.get? x = some (instObj C dx)) (b : h.get? dx = some (dictOf es n)) : InstAt h x (instObj C dx) C (some (dictOf es n)) := ⟨a, rfl, rfl, b⟩

/-- the class lets its objects' own fields be read -/
structure FieldOk (K : Frag) (C : Addr) (name : Str) : Prop where
  plain : plainGet K C name = true
  has : hasDictIn K C = true
  attr : ∃ attr, findIn K (.ref C) name = some attr ∧ noGet K attr = true
theorem Ev.attr {value : Expr} {name : Str} {pos : Pos} {C : Addr} {fs : List (Str × FD)} {d : FD} (c : Cx K env μ h) (x : Ev prog w A env h value (D.inst C fs)) (ok : FieldOk K C name) (hd : fs.lookup name = some d)
    (he : eval (.Attribute value name pos) env = (do
      let o ← eval value env
      standAt pos.atName
      let r ← holding [o] (getAttr o name true)
      letTemporaryGo value o r
      pure r) := by with_unfolding_all rfl) : Ev prog w A env h (.Attribute value name pos) d.toD := by
  intro h' g s Q E e k
  subst e
  refine Attribute_any_ (x _ g s _ E rfl fun v h₁ t₁ p₁ => ?_) he
  obtain ⟨g₁, y, dx, es, n, rfl, a, b, ne, r⟩ := p₁
  obtain ⟨v, hl, hv⟩ := r.get hd
  obtain ⟨attr, ha, hn⟩ := ok.attr
  exact get_value (s := { s with heap := h₁, toks := t₁ }) ((c.mono g).mono g₁).gd.X (instAt_of a b) (plainGet_of ok.plain).1 (findObj_own ok.has ha hn hl) (FD.handed hv) (k v h₁ (t₁ + 1) ⟨g₁, FD.toD_at hv⟩)

/-- a method's call on such an object -/
structure MethOk (K : Frag) (C : Addr) (name : Str) (f : Addr) : Prop where
  plain : plainGet K C name = true
  find : findIn K (.ref C) name = some (some (.ref f))
  fn : isFn K (.ref f) = true
  keep : keepIn K (.ref f) = true
theorem Ev.meth {o e : Expr} {es : List Expr} {name : Str} {apos pos : Pos} {C f : Addr} {fs : List (Str × FD)} {ds : List D} {d : D} {pl : Sem Bool} (c : Cx K env μ h) (x : Ev prog w A env h o (D.inst C fs)) (ok : MethOk K C name f) (hm : fs.lookup name = none) (y : Evs prog w A env h pos (e :: es) ds)
    (z : ∀ v vs h', Gr h h' → (D.inst C fs).at' env.frame v h' → All2 (fun v d => d.at' env.frame v h') vs ds → T prog w A (call (.ref f) (v :: vs)) h' fun v h'' => Gr h' h'' ∧ d.at' env.frame v h'')
    (he : eval (.Call (.Attribute o name apos) (e :: es) [] pos) env = (do
      let ov ← eval o env
      standAt apos.atName
      let (f, first) ← holding [ov] (getMethod ov name pl)
      callWith pos f first (backTo pos (starEach (e :: es) env)) (backToKw pos (keywordEach [] env))) := by rfl)
    (hs : starEach (e :: es) env = (false, eval e env) :: starEach es env := by rfl) (hplain : (backTo pos (starEach es env)).any (·.1) = false := by rfl) : Ev prog w A env h (.Call (.Attribute o name apos) (e :: es) [] pos) d := by
  intro h' g s Q E q k
  subst q
  refine methodCall_KW (x _ g s _ E rfl fun v h₁ t₁ p₁ => ?_) he
  obtain ⟨g₁, px⟩ := p₁
  obtain ⟨yv, dx, es', n, rfl, a, b, ne, r⟩ := id px
  refine method_fn (s := { s with heap := h₁, toks := t₁ }) ((c.mono g).mono g₁).gd.X (instAt_of a b) (plainGet_of ok.plain).1 (plainGet_of ok.plain).2 ok.find (beq_iff_eq.mp ok.fn) (by show (lookIn name (dictOf es' n)).map _ = _; rw [lookIn_dict, r.miss hm]; rfl) ?_
  show wpAny _ A (callWith pos (.ref f) [.ref yv] _ []) _ _ _
  refine callWith_K (first := [.ref yv]) ((c.mono g).mono g₁).gd.X ok.keep (y _ (g.trans g₁) _ _ E rfl fun vs h₂ t₂ p₂ => ⟨(((c.mono g).mono g₁).mono p₂.1).gd.X, ?_⟩) hs hplain
  exact z _ vs h₂ (g.trans (g₁.trans p₂.1)) ((D.inst C fs).mono px p₂.1) p₂.2 _ _ E rfl fun v h₃ t₃ p₃ => k v h₃ t₃ ⟨g₁.trans (p₂.1.trans p₃.1), p₃.2⟩

end Mine
end Core8x
section Core9x
open PySem PySem.W PyProof.Rows PySem.Calls
namespace Mine
variable {prog : Program} {w : World} {A : Around} {K : Frag} {env : Env} {μ : Names} {h h₀ : Heap}

/-! ## static methods, by the class or by an object of it -/
structure StatOk (K : Frag) (C : Addr) (name : Str) (f : Addr) : Prop where
  ga : specialIn K (.ref C) "__getattribute__" = some (some (.builtin "type.__getattribute__"))
  reads : readsIn K C (.type "type") = true
  find : ∃ p rest, findCls K (.ref C) (.type "type") name = some (.get (.builtin "staticmethod.__get__") (.ref p) .none (.ref C)) ∧ recIn K p "staticmethod" = some (.ref f :: rest)
  keep : keepIn K (.ref f) = true
theorem Ev.stat {o e : Expr} {es : List Expr} {name : Str} {apos pos : Pos} {C f : Addr} {ds : List D} {d : D} {pl : Sem Bool} (c : Cx K env μ h) (x : Ev prog w A env h o (D.val (.ref C))) (ok : StatOk K C name f) (y : Evs prog w A env h pos (e :: es) ds)
    (z : ∀ vs h', Gr h h' → All2 (fun v d => d.at' env.frame v h') vs ds → T prog w A (call (.ref f) vs) h' fun v h'' => Gr h' h'' ∧ d.at' env.frame v h'')
    (he : eval (.Call (.Attribute o name apos) (e :: es) [] pos) env = (do
      let ov ← eval o env
      standAt apos.atName
      let (f, first) ← holding [ov] (getMethod ov name pl)
      callWith pos f first (backTo pos (starEach (e :: es) env)) (backToKw pos (keywordEach [] env))) := by rfl)
    (hs : starEach (e :: es) env = (false, eval e env) :: starEach es env := by rfl) (hplain : (backTo pos (starEach es env)).any (·.1) = false := by rfl) : Ev prog w A env h (.Call (.Attribute o name apos) (e :: es) [] pos) d := by
  intro h' g s Q E q k
  subst q
  refine methodCall_KW (x _ g s _ E rfl fun v h₁ t₁ p₁ => ?_) he
  obtain ⟨g₁, px⟩ := p₁
  have px : v = .ref C := px
  subst px
  obtain ⟨p, rest, e1, e2⟩ := ok.find
  have X₁ := ((c.mono g).mono g₁).gd.X
  refine method_cls (s := { s with heap := h₁, toks := t₁ }) X₁ ok.ga (cls_bind (s := { s with heap := h₁, toks := t₁ }) X₁ ok.reads e1 (wpAny_call (sm_get (s := { s with heap := h₁, toks := t₁ + 1 }) X₁ e2 (handed_on rfl ?_))))
  show wpAny _ A (callWith pos (.ref f) [] _ []) _ _ _
  refine callWith_K (first := []) X₁ ok.keep (y _ (g.trans g₁) _ _ E rfl fun vs h₂ t₂ p₂ => ⟨(((c.mono g).mono g₁).mono p₂.1).gd.X, ?_⟩) hs hplain
  exact z vs h₂ (g.trans (g₁.trans p₂.1)) p₂.2 _ _ E rfl fun v h₃ t₃ p₃ => k v h₃ t₃ ⟨g₁.trans (p₂.1.trans p₃.1), p₃.2⟩

structure StatInst (K : Frag) (C : Addr) (name : Str) (f : Addr) : Prop where
  plain : plainGet K C name = true
  has : hasDictIn K C = true
  find : ∃ p rest, findIn K (.ref C) name = some (some (.ref p)) ∧ typeIn K (.ref p) = some (.type "staticmethod") ∧ specialIn K (.ref p) "__get__" = some (some (.builtin "staticmethod.__get__")) ∧ takesIn K (.ref p) = some false ∧ recIn K p "staticmethod" = some (.ref f :: rest)
  copied : copiedNames.contains name = false
  keep : keepIn K (.ref f) = true
theorem Ev.statInst {o e : Expr} {es : List Expr} {name : Str} {apos pos : Pos} {C f : Addr} {fs : List (Str × FD)} {ds : List D} {d : D} {pl : Sem Bool} (c : Cx K env μ h) (x : Ev prog w A env h o (D.inst C fs)) (ok : StatInst K C name f) (hm : fs.lookup name = none) (y : Evs prog w A env h pos (e :: es) ds)
    (z : ∀ vs h', Gr h h' → All2 (fun v d => d.at' env.frame v h') vs ds → T prog w A (call (.ref f) vs) h' fun v h'' => Gr h' h'' ∧ d.at' env.frame v h'')
    (he : eval (.Call (.Attribute o name apos) (e :: es) [] pos) env = (do
      let ov ← eval o env
      standAt apos.atName
      let (f, first) ← holding [ov] (getMethod ov name pl)
      callWith pos f first (backTo pos (starEach (e :: es) env)) (backToKw pos (keywordEach [] env))) := by rfl)
    (hs : starEach (e :: es) env = (false, eval e env) :: starEach es env := by rfl) (hplain : (backTo pos (starEach es env)).any (·.1) = false := by rfl) : Ev prog w A env h (.Call (.Attribute o name apos) (e :: es) [] pos) d := by
  intro h' g s Q E q k
  subst q
  refine methodCall_KW (x _ g s _ E rfl fun v h₁ t₁ p₁ => ?_) he
  obtain ⟨g₁, px⟩ := p₁
  obtain ⟨yv, dx, es', n, rfl, a, b, ne, r⟩ := id px
  obtain ⟨p, rest, e1, e2, e3, e4, e5⟩ := ok.find
  have X₁ := ((c.mono g).mono g₁).gd.X
  have I := instAt_of a b
  refine method_usual (s := { s with heap := h₁, toks := t₁ }) (r := some (.ref p)) X₁ I (plainGet_of ok.plain).1 (plainGet_of ok.plain).2 e1 (by simp only [Option.all_some, e2, Option.any_some]; decide +kernel)
    (get_bind (s := { s with heap := h₁, toks := t₁ }) X₁ I (plainGet_of ok.plain).1 (findObj_fn ok.has e1 e3 e4 ok.copied (by show lookIn name (dictOf es' n) = _; rw [lookIn_dict, r.miss hm])) (plainGet_of ok.plain).2
      (wpAny_call (sm_get (s := { s with heap := h₁, toks := t₁ + 1 }) X₁ e5 (handed_on rfl ?_))))
  show wpAny _ A (callWith pos (.ref f) [] _ []) _ _ _
  refine callWith_K (first := []) X₁ ok.keep (y _ (g.trans g₁) _ _ E rfl fun vs h₂ t₂ p₂ => ⟨(((c.mono g).mono g₁).mono p₂.1).gd.X, ?_⟩) hs hplain
  exact z vs h₂ (g.trans (g₁.trans p₂.1)) p₂.2 _ _ E rfl fun v h₃ t₃ p₃ => k v h₃ t₃ ⟨g₁.trans (p₂.1.trans p₃.1), p₃.2⟩

/-- what a call's code does, as one word -/
def Cd (prog : Program) (w : World) (A : Around) (c : Code) (h : Heap) (Φ : Value → Heap → Prop) : Prop :=
  ∀ (s : Shared) (R : Result → Shared → Prop), s.heap = h → (∀ v h' tk', Φ v h' → R (.ok (.ret v)) { s with heap := h', toks := tk' }) → codeAny (model prog w) A c R s
theorem Cd.call {f : Value} {pos : List Value} {kw : List (Str × Value)} {Φ : Value → Heap → Prop} (x : Cd prog w A (.call f ⟨pos, kw⟩) h Φ) : T prog w A (call f pos kw) h Φ := fun s Q E e k => wpAny_call (x s _ e k)
theorem Cd.mono {c : Code} {Φ Ψ : Value → Heap → Prop} (x : Cd prog w A c h Φ) (f : ∀ v h', Φ v h' → Ψ v h') : Cd prog w A c h Ψ := fun s R e k => x s R e fun v h' tk' p => k v h' tk' (f v h' p)

/-! ## an object that is called -/
structure CallOk (K : Frag) (C f : Addr) : Prop where
  find : findIn K (.ref C) "__call__" = some (some (.ref f))
  fn : isFn K (.ref f) = true
  fnIn : fnIn K f = true
theorem Ev.callInst {fe e : Expr} {es : List Expr} {pos : Pos} {C f : Addr} {fs : List (Str × FD)} {ds : List D} {d : D} (c : Cx K env μ h) (x : Ev prog w A env h fe (D.inst C fs)) (ok : CallOk K C f) (y : Evs prog w A env h pos (e :: es) ds)
    (z : ∀ v vs h', Gr h h' → (D.inst C fs).at' env.frame v h' → All2 (fun v d => d.at' env.frame v h') vs ds → Cd prog w A (.call (.ref f) ⟨v :: vs, []⟩) h' fun v h'' => Gr h' h'' ∧ d.at' env.frame v h'')
    (he : eval (.Call fe (e :: es) [] pos) env = (do callWith pos (← eval fe env) [] (backTo pos (starEach (e :: es) env)) (backToKw pos (keywordEach [] env))) := by rfl)
    (hs : starEach (e :: es) env = (false, eval e env) :: starEach es env := by rfl) (hplain : (backTo pos (starEach es env)).any (·.1) = false := by rfl) : Ev prog w A env h (.Call fe (e :: es) [] pos) d := by
  intro h' g s Q E q k
  subst q
  refine Call_ (x _ g s _ E rfl fun v h₁ t₁ p₁ => ?_) he
  obtain ⟨g₁, px⟩ := p₁
  obtain ⟨yv, dx, es', n, rfl, a, b, ne, r⟩ := id px
  have X₁ := ((c.mono g).mono g₁).gd.X
  refine kco_callWith (s := { s with heap := h₁, toks := t₁ }) X₁ (instAt_of a b) rfl ok.find (y _ (g.trans g₁) _ _ E rfl fun vs h₂ t₂ p₂ => ⟨⟨X₁.keeps p₂.1, instAt_of (p₂.1 _ _ a) (p₂.1 _ _ b)⟩, ?_⟩) hs hplain
  refine wpAny_call (kco_code (s := { s with heap := h₂, toks := t₂ }) (X₁.keeps p₂.1) (instAt_of (p₂.1 _ _ a) (p₂.1 _ _ b)) rfl ok.find ok.fn ok.fnIn ?_)
  refine z _ vs h₂ (g.trans (g₁.trans p₂.1)) ((D.inst C fs).mono px p₂.1) p₂.2 { s with heap := h₂, toks := t₂ } _ rfl fun v h₃ t₃ p₃ => ?_
  exact k v h₃ t₃ ⟨g₁.trans (p₂.1.trans p₃.1), p₃.2⟩

/-! ## objects of own classes, made -/
def NewInst (C : Addr) (fs : List (Str × FD)) (h : Heap) (v : Value) (h' : Heap) : Prop :=
  Gr h h' ∧ ∃ x dx es n, v = .ref x ∧ h'.get? x = some (instObj C dx) ∧ h'.get? dx = some (dictOf es n) ∧ Fs es fs ∧ h.objs.size ≤ dx ∧ h.objs.size ≤ x
theorem NewInst.at {C : Addr} {fs : List (Str × FD)} {v : Value} {h' : Heap} {fr : Option Addr} (x : NewInst C fs h v h') (l : ∀ L, fr = some L → ∃ o, h.get? L = some o) : (D.inst C fs).at' fr v h' := by
  obtain ⟨g, x, dx, es, n, rfl, a, b, f, s1, s2⟩ := x
  refine ⟨x, dx, es, n, rfl, a, b, fun q => ?_, f⟩
  obtain ⟨o, ho⟩ := l dx q
  exact Nat.lt_irrefl _ (Nat.lt_of_lt_of_le (Heap.lt_size ho) s1)

/-- setting a field -/
structure SetOk (K : Frag) (C : Addr) (name : Str) : Prop where
  set : findIn K (.ref C) "__setattr__" = some (some (.builtin "object.__setattr__"))
  over : plainOver K C = true
  taker : takerIn K C name = some none
  has : hasDictIn K C = true

/-- a frame beside an object of the call's own, whose fields it fills -/
structure Sf (K : Frag) (h₀ : Heap) (env : Env) (μ : Names) (C x dx : Addr) (fs : List (Str × FD)) (h : Heap) : Prop where
  fm : Fm K h₀ env μ h
  inst : h.get? x = some (instObj C dx)
  dict : ∃ es n, h.get? dx = some (dictOf es n) ∧ Fs es fs
  nx : h₀.get? x = none
  ndx : h₀.get? dx = none
  xL : x ≠ env.locals
  dL : dx ≠ env.locals
  free : ∀ p ∈ μ, ∀ (f : Option Addr) (v : Value) (a b : Heap), p.2.at' f v a → p.2.at' f v b
  noCells : env.cells = []
theorem Sf.mono {C x dx : Addr} {fs : List (Str × FD)} {h' : Heap} (S : Sf K h₀ env μ C x dx fs h) (g : Gr h h') : Sf K h₀ env μ C x dx fs h' :=
  ⟨S.fm.mono g, g _ _ S.inst, let ⟨es, n, a, b⟩ := S.dict; ⟨es, n, g _ _ a, b⟩, S.nx, S.ndx, S.xL, S.dL, S.free, S.noCells⟩

theorem Sf.set {C x dx : Addr} {fs : List (Str × FD)} {name : Str} {v : Value} {d : FD} (S : Sf K h₀ env μ C x dx fs h) (ok : SetOk K C name) (hv : d.at v) (hz : fs.length ≤ 900) :
    T prog w A (setAttr (.ref x) name v) h fun _ h' => Sf K h₀ env μ C x dx (putF name d fs) h' := by
  intro s Q E e k
  subst e
  obtain ⟨m, hm⟩ := S.fm.ns
  obtain ⟨es, n, hd, hf⟩ := S.dict
  have hxd : x ≠ dx := fun q => by
    have a := S.inst; rw [q, hd] at a; cases a
  have hl : (getL name es).isSome = true := by
    cases q : fs.lookup name with
    | some d' => obtain ⟨v', e, _⟩ := hf.get q; rw [e]; rfl
    | none => rw [hf.miss q]; rfl
  have hlen := hf.length
  refine set_dict (news := [(x, instObj C dx), (dx, dictOf es n)]) (h₀ := h₀) (L := env.locals) (m := m) ⟨hm, S.fm.keep, S.fm.fresh⟩ S.fm.gd0.X (fun p hp => ?_) (instAt_of S.inst hd) rfl ok.set ok.over ok.taker ok.has hl rfl
    (.tail hxd (.head fun _ hp => nomatch hp)) (by have := putL_len name (PyData.keyHash w.params name) (.str name (s.toks + 1)) v es; omega) fun h' F' N' => k () h' _ ?_
  · rcases List.mem_cons.mp hp with rfl | hp
    · exact ⟨S.inst, S.xL, S.nx⟩
    · rw [List.mem_singleton.mp hp]; exact ⟨hd, S.dL, S.ndx⟩
  · have hd' := (N' _ (List.mem_cons_of_mem _ List.mem_cons_self)).1
    have hx' := (N' _ List.mem_cons_self).1
    refine ⟨⟨⟨S.fm.cx.kind, S.fm.cx.glob, S.fm.cx.blt, S.fm.gd0.mono F'.keep, fun y d' e => ?_, ns_live S.fm.fr F'.ns⟩, S.fm.gd0, ⟨_, F'.ns⟩, fun y c e => (by rw [S.noCells] at e; cases e), S.fm.apart, F'.keep, S.fm.fresh, S.fm.cabove, S.fm.fr⟩, hx', ⟨_, _, hd', hf.put hv⟩, S.nx, S.ndx, S.xL, S.dL, S.free, S.noCells⟩
    obtain ⟨u, a, b⟩ := S.fm.cx.nm y d' e
    refine ⟨u, ?_, S.free _ (mem_lookup e) _ _ _ _ b⟩
    rcases a with ⟨kl, m', n', q'⟩ | ⟨kc, c, l, i⟩
    · rw [ns_same n' hm] at q'
      exact .inl ⟨kl, _, F'.ns, q'⟩
    · rw [S.noCells] at l; cases l

/-- self.name = value -/
theorem Sf.assign {C x dx : Addr} {fs : List (Str × FD)} {o value : Expr} {name : Str} {p pos : Pos} {d : FD} (S : Sf K h₀ env μ C x dx fs h) (y : Ev prog w A env h value d.toD) (ho : Ev prog w A env h o (D.val (.ref x))) (ok : SetOk K C name) (hz : fs.length ≤ 900)
    (hs : swapsWith value (some (.Attribute o name p)) pos.line env = pure false := by rfl) : T prog w A (exec (.Assign [.Attribute o name p] value pos) env) h (go (Sf K h₀ env μ C x dx (putF name d fs))) := by
  intro s Q E e k
  subst e
  refine plainObj_wpAny_Assign_Attribute (y _ (Gr.refl _) s _ E rfl fun v h₁ t₁ p₁ => ho _ p₁.1 _ _ E rfl fun u h₂ t₂ p₂ => ?_) hs
  obtain ⟨g₂, q⟩ := p₂
  have q : u = .ref x := q
  subst q
  exact Sf.set (S.mono (p₁.1.trans g₂)) ok (FD.of_toD p₁.2) hz _ _ E rfl fun _ h₃ t₃ p₃ => k .next h₃ t₃ ⟨rfl, p₃⟩
theorem Sf.skip {C x dx : Addr} {fs : List (Str × FD)} {t : Expr} {b : List Stmt} {pos : Pos} {c : Bool} (S : Sf K h₀ env μ C x dx fs h) (y : Ts prog w A env h t c) (hc : c = false) : T prog w A (exec (.If t b [] pos) env) h (go (Sf K h₀ env μ C x dx fs)) := by
  intro s Q E e k
  subst e
  refine wpAny_If (y _ (Gr.refl _) s _ E rfl fun v h₁ t₁ p₁ => ?_)
  obtain ⟨g, rfl⟩ := p₁
  subst hc
  exact wpAny_execs_nil (k .next h₁ t₁ ⟨rfl, S.mono g⟩)
theorem Zs.cons {st : Stmt} {rest : List Stmt} {P : Heap → Prop} {Φ : Flow → Heap → Prop} (x : T prog w A (exec st env) h (go P)) (y : ∀ h', P h' → T prog w A (execs rest env) h' Φ) : T prog w A (execs (st :: rest) env) h Φ := by
  intro s Q E e k
  refine wpAny_execs_cons (x s _ E e fun f h' tk' p => ?_)
  obtain ⟨rfl, p₂⟩ := p
  exact y h' p₂ { s with heap := h', toks := tk' } Q E rfl fun f h'' tk'' q => k f h'' tk'' q
theorem Zs.nil {Φ : Flow → Heap → Prop} (x : Φ .next h) : T prog w A (execs [] env) h Φ := fun s Q E e k => wpAny_execs_nil (by subst e; exact k _ s.heap s.toks x)

end Mine
end Core9x
section Core10x
open PySem PySem.W PyProof.Rows PySem.Calls
namespace Mine
variable {prog : Program} {w : World} {A : Around} {K : Frag} {env : Env} {μ : Names} {h h₀ : Heap}

theorem Ev.isInt {p q pos : Pos} {e : Expr} {n : Int} (c : Cx K env μ h) (b : KB K) (y : Ev prog w A env h e (D.int n)) (hk : env.kindOf "isinstance" = some .globalImplicit := by rfl) (hk' : env.kindOf "int" = some .globalImplicit := by rfl)
    (hs : starEach [e, .Name "int" q] env = (false, eval e env) :: starEach [.Name "int" q] env := by rfl) (hs' : starEach [.Name "int" q] env = (false, eval (.Name "int" q) env) :: starEach [] env := by rfl) (hplain : (backTo pos (starEach [.Name "int" q] env)).any (·.1) = false := by rfl) :
    Ev prog w A env h (.Call (.Name "isinstance" p) [e, .Name "int" q] [] pos) (D.bool true) := by
  refine Ev.callb (Ev.bIsinstance c b hk) (Evs.cons y (Evs.cons (Ev.bInt c b hk') Evs.nil hs') hs) (fun vs h' g hv => ?_) rfl hs hplain
  obtain ⟨v, v', rfl, ⟨t, rfl⟩, e'⟩ := hv.two
  have e' : v' = .type "int" := e'
  subst e'
  intro s Q E e k
  subst e
  exact IsiPair.int_int (k _ s.heap s.toks ⟨Gr.refl _, rfl⟩)
theorem Ev.toBool {p pos : Pos} {e : Expr} {n : Bool} (c : Cx K env μ h) (b : KB K) (y : Ev prog w A env h e (D.bool n)) (hk : env.kindOf "bool" = some .globalImplicit := by rfl)
    (hs : starEach [e] env = (false, eval e env) :: starEach [] env := by rfl) : Ev prog w A env h (.Call (.Name "bool" p) [e] [] pos) (D.bool n) := by
  refine Ev.callt (Ev.bBool c b hk) (Evs.cons y Evs.nil hs) (fun vs h' g hv => ?_) rfl hs
  obtain ⟨v, rfl, e⟩ := hv.one
  have e : v = .bool n := e
  subst e
  intro s Q E e k
  subst e
  exact call_bool_bool (k _ s.heap s.toks ⟨Gr.refl _, rfl⟩)

theorem call_in_range {s : Shared} {E : Value → Shared → Prop} {r : Addr} {a b c i : Int} {t u v t' : Tok} {Q : Value → Shared → Prop} (hr : IsRange s.heap r a b c t u v)
    (h : Q (.bool (Builtin.Range.rangePlace? a b c i).isSome) s) : wpAny (model prog w) A (call (.builtin "range.__contains__") [.ref r, .int i t']) Q E s := by
  have hT : s.TypeIs (.ref r) "range" := ⟨_, hr, rfl⟩
  refine wpAny_call_entry F.slot_range_contains hT F.entry_range_contains ?_ (F.args_range_contains_2 _ _)
  obtain ⟨hp, g, d, tk, os⟩ := s
  wp_walk using AutoSeq1.wpAny_loadPart' hr
  all_goals exact ⟨_, rfl, h⟩
theorem notin_range {s : Shared} {E : Value → Shared → Prop} {r : Addr} {a b c i : Int} {t u v t' : Tok} {Q : Value → Shared → Prop} (hr : IsRange s.heap r a b c t u v)
    (h : Q (.bool (!(Builtin.Range.rangePlace? a b c i).isSome)) s) : wpAny (model prog w) A (compareOp .NotIn (.int i t') (.ref r)) Q E s := by
  show wpAny _ _ (do return .bool (!(← contains (.ref r) (.int i t')))) Q E s
  refine wpAny_bind (wpAny_contains_slot (T := "range") ⟨_, hr, rfl⟩ F.slot_range_contains (call_in_range hr (wpAny_truthy_bool (wpAny_pure h))))
theorem Ts.inRange {l r : Expr} {pos : Pos} {a b : Int} (x : Ev prog w A env h l (D.int a)) (y : Ev prog w A env h r (D.range 0 b 1)) (h0 : 0 ≤ a) (h1 : a < b) (hm : behindInMarks .NotIn r = false := by with_unfolding_all rfl) :
    Ts prog w A env h (.Compare l [.NotIn] [r] pos) false :=
  Ts.cmp x y (fun u v h' g ⟨t, e₁⟩ ⟨r, t1, t2, t3, e₂, hr⟩ s Q E e k => by
    subst e₁ e₂ e
    refine notin_range hr (k _ s.heap s.toks ⟨Gr.refl _, ?_⟩)
    unfold Builtin.Range.rangePlace?
    simp [h0, h1]) hm

/-! ## objects made -/
theorem emptyDict_eq : emptyDict = dictOf [] 0 := rfl
theorem Cd.make {C fI : Addr} {rest : List Value} {kw : List (Str × Value)} {Φ : Value → Heap → Prop} (X : K.In h) (hm : makesIn K C = true) (hi : findIn K (.ref C) "__init__" = some (some (.ref fI))) (hf : typeIn K (.ref fI) = some (.type "function"))
    (y : Cd prog w (A.under (.builtin "type.__call__" ⟨.ref C :: rest, kw⟩)) (.call (.ref fI) ⟨.ref (h.objs.size + 1) :: rest, kw⟩) ((h.push emptyDict).push (instObj C h.objs.size)) fun v h' => v = .none ∧ Φ (.ref (h.objs.size + 1)) h') :
    Cd prog w A (.call (.ref C) ⟨rest, kw⟩) h Φ := by
  intro s R e k
  obtain ⟨hh, g, d, t, os⟩ := s
  have e : hh = h := e
  subst e
  refine make_core (makes_of X hm) (looks_findIn X hi) (fun self => bind_fn X self hf) (.inl rfl) (y _ _ rfl fun v h' tk' p => ?_)
  obtain ⟨rfl, p⟩ := p
  exact ⟨rfl, k _ h' tk' p⟩

/-! ## keywords -/
def Evk (prog : Program) (w : World) (A : Around) (env : Env) (h : Heap) (pos : Pos) (ks : List Keyword) (ds : List D) : Prop :=
  ∀ h', Gr h h' → T prog w A (evalAll ((backToKw pos (keywordEach ks env)).map (·.2))) h' fun vs h'' => Gr h' h'' ∧ All2 (fun v d => d.at' env.frame v h'') vs ds
theorem Evk.nil {pos : Pos} : Evk prog w A env h pos [] [] := fun h' g s Q E e k => kwAll_nil (by subst e; exact k _ s.heap s.toks ⟨Gr.refl _, .nil⟩)
theorem Evk.cons {pos p : Pos} {n : Str} {e : Expr} {ks : List Keyword} {d : D} {ds : List D} (x : Ev prog w A env h e d) (y : Evk prog w A env h pos ks ds) : Evk prog w A env h pos (⟨some n, e, p⟩ :: ks) (d :: ds) := by
  intro h' g s Q E e k
  subst e
  exact kwAll_cons (x _ g s _ E rfl fun v h₁ t₁ p => y _ (g.trans p.1) _ _ E rfl fun vs h₂ t₂ q => k _ h₂ t₂ ⟨p.1.trans q.1, .cons (d.mono p.2 q.1) q.2⟩)
theorem Ev.callkw {f : Expr} {ks : List Keyword} {pos : Pos} {u : Value} {ds : List D} {d : D} (c : Cx K env μ h) (x : Ev prog w A env h f (D.val u)) (hk : keepIn K u = true) (y : Evk prog w A env h pos ks ds)
    (z : ∀ vs h', Gr h h' → All2 (fun v d => d.at' env.frame v h') vs ds → T prog w A (call u [] (((backToKw pos (keywordEach ks env)).filterMap (·.1)).zip vs)) h' fun v h'' => Gr h' h'' ∧ d.at' env.frame v h'')
    (hall : (backToKw pos (keywordEach ks env)).all (·.1.isSome) = true := by rfl)
    (he : eval (.Call f [] ks pos) env = (do callWith pos (← eval f env) [] (backTo pos (starEach [] env)) (backToKw pos (keywordEach ks env))) := by rfl)
    (hplain : ((backTo pos (starEach [] env)).any (·.1) || (backToKw pos (keywordEach ks env)).any (·.1.isNone)) = false := by rfl) : Ev prog w A env h (.Call f [] ks pos) d := by
  intro h' g s Q E q k
  subst q
  rw [he]
  refine wpAny_bind (x _ g s _ E rfl fun v h₁ t₁ p₁ => ?_)
  obtain ⟨g₁, q⟩ := p₁
  have q : v = u := q
  subst q
  refine callWith_KW0 (first := []) ((c.mono g).mono g₁).gd.X hk hall (y _ (g.trans g₁) _ _ E rfl fun vs h₂ t₂ p₂ => ⟨(((c.mono g).mono g₁).mono p₂.1).gd.X, ?_⟩) hplain
  exact z vs h₂ (g.trans (g₁.trans p₂.1)) p₂.2 _ _ E rfl fun v h₃ t₃ p₃ => k v h₃ t₃ ⟨g₁.trans (p₂.1.trans p₃.1), p₃.2⟩

/-! ## op= -/
theorem X.ixor {x : Str} {p pos : Pos} {e : Expr} {a b : Int} (F : Fm K h₀ env μ h) (hl : μ.lookup x = some (D.int a)) (y : Ev prog w A env h e (D.int b)) (hx : env.kindOf x = some .local ∨ (env.kindOf x = some .cell ∧ (env.cells.lookup x).isSome = true)) :
    X prog w A env h (.AugAssign (.Name x p) .BitXor e pos) (go (Fm K h₀ env ((x, D.int (Builtin.bitXor a b)) :: μ))) := X.aug F hl y (fun _ _ _ _ _ k => ixor_int k) hx
theorem X.iand {x : Str} {p pos : Pos} {e : Expr} {a b : Int} (F : Fm K h₀ env μ h) (hl : μ.lookup x = some (D.int a)) (y : Ev prog w A env h e (D.int b)) (hx : env.kindOf x = some .local ∨ (env.kindOf x = some .cell ∧ (env.cells.lookup x).isSome = true)) :
    X prog w A env h (.AugAssign (.Name x p) .BitAnd e pos) (go (Fm K h₀ env ((x, D.int (Builtin.bitAnd a b)) :: μ))) := X.aug F hl y (fun _ _ _ _ _ k => iand_int k) hx
theorem X.ishl {x : Str} {p pos : Pos} {e : Expr} {a b : Int} (F : Fm K h₀ env μ h) (hl : μ.lookup x = some (D.int a)) (y : Ev prog w A env h e (D.int b)) (h0 : 0 ≤ b) (h1 : (Builtin.Int.intBits a : Int) + b ≤ 2 ^ 27) (hx : env.kindOf x = some .local ∨ (env.kindOf x = some .cell ∧ (env.cells.lookup x).isSome = true)) :
    X prog w A env h (.AugAssign (.Name x p) .LShift e pos) (go (Fm K h₀ env ((x, D.int (a * 2 ^ b.toNat)) :: μ))) := X.aug F hl y (fun _ _ _ _ _ k => ilshift_int h0 h1 k) hx
theorem X.ishr {x : Str} {p pos : Pos} {e : Expr} {a b : Int} (F : Fm K h₀ env μ h) (hl : μ.lookup x = some (D.int a)) (y : Ev prog w A env h e (D.int b)) (h0 : 0 ≤ b) (hx : env.kindOf x = some .local ∨ (env.kindOf x = some .cell ∧ (env.cells.lookup x).isSome = true)) :
    X prog w A env h (.AugAssign (.Name x p) .RShift e pos) (go (Fm K h₀ env ((x, D.int (a.fdiv (2 ^ b.toNat))) :: μ))) := X.aug F hl y (fun _ _ _ _ _ k => irshift_int h0 k) hx
theorem Ev.shl' {l r : Expr} {pos : Pos} {a b : Int} (x : Ev prog w A env h l (D.int a)) (y : Ev prog w A env h r (D.int b)) (z : 0 ≤ b) (hsz : (Builtin.Int.intBits a : Int) + b ≤ 2 ^ 27) : Ev prog w A env h (.BinOp l .LShift r pos) (D.int (a * 2 ^ b.toNat)) :=
  x.bini y fun _ _ _ _ _ k => PyProof.Rows.lshift_int z hsz k
theorem Ts.gt {l r : Expr} {pos : Pos} {a b : Int} (x : Ev prog w A env h l (D.int a)) (y : Ev prog w A env h r (D.int b)) (hm : behindInMarks .Gt r = false := by with_unfolding_all rfl) : Ts prog w A env h (.Compare l [.Gt] [r] pos) (decide (b < a)) :=
  Ts.cmp x y (cmpi (fun _ _ _ _ _ k => PyProof.Rows.gt_int k) _) hm
theorem Ts.nz {e : Expr} {n : Int} (x : Ev prog w A env h e (D.int n)) (he : isTrue e env (eval e env) = (do let v ← eval e env; standAt e.pos; holding [v] (truthy v)) := by rfl) : Ts prog w A env h e (n != 0) :=
  Ts.plain x (fun v h' g ⟨t, e'⟩ s Q E e k => by
    subst e' e
    exact PyProof.Rows.truthy_int (k _ s.heap s.toks ⟨Gr.refl _, rfl⟩)) he
end Mine
end Core10x
section Core11x
open PySem PySem.W PyProof.Rows PySem.Calls
namespace Mine
variable {prog : Program} {w : World} {A : Around} {K : Frag} {env : Env} {μ : Names} {h h₀ : Heap}

/-! ## whole numbers -/
abbrev D.nat (n : Nat) : D := D.int (n : Int)
abbrev D.nats (ws : List Nat) : D := D.list (ws.map D.nat)
theorem nats_ints (ws : List Nat) : D.nats ws = D.ints (ws.map fun n : Nat => (n : Int)) := by
  show D.list (ws.map D.nat) = D.list ((ws.map fun n : Nat => (n : Int)).map D.int)
  rw [List.map_map]; rfl
theorem Ev.cast {e : Expr} {a b : Int} (x : Ev prog w A env h e (D.int a)) (q : a = b) : Ev prog w A env h e (D.int b) := q ▸ x
theorem Ev.to {e : Expr} {a b : D} (x : Ev prog w A env h e a) (q : a = b) : Ev prog w A env h e b := q ▸ x
theorem Ev.litN {n : Nat} {k : Nat} {pos : Pos} : Ev prog w A env h (.Constant (.int (Int.ofNat n)) k pos) (D.nat n) := Ev.lit
theorem Ev.addN {l r : Expr} {pos : Pos} {a b : Nat} (x : Ev prog w A env h l (D.nat a)) (y : Ev prog w A env h r (D.nat b)) : Ev prog w A env h (.BinOp l .Add r pos) (D.nat (a + b)) := (Ev.add x y).cast (by omega)
theorem Ev.subN {l r : Expr} {pos : Pos} {a b : Nat} (x : Ev prog w A env h l (D.nat a)) (y : Ev prog w A env h r (D.nat b)) (q : b ≤ a) : Ev prog w A env h (.BinOp l .Sub r pos) (D.nat (a - b)) := (Ev.sub x y).cast (by omega)
theorem bits_le {a k : Nat} (h : a < 2 ^ k) : (Builtin.Int.intBits (a : Int) : Int) ≤ k := by
  have := intBits_le (a := (a : Int)) (k := k) (by rw [Int.natAbs_natCast]; exact h)
  omega
theorem shl_cast (a b : Nat) : (a : Int) * 2 ^ (b : Int).toNat = ((a * 2 ^ b : Nat) : Int) := by
  rw [Int.toNat_natCast, Int.natCast_mul, Int.natCast_pow]; rfl
theorem fdiv_cast (a b : Nat) : (a : Int).fdiv (b : Int) = ((a / b : Nat) : Int) := by
  rw [Int.fdiv_eq_ediv_of_nonneg _ (by omega)]; rfl
theorem shr_cast (a b : Nat) : (a : Int).fdiv (2 ^ (b : Int).toNat) = ((a / 2 ^ b : Nat) : Int) := by
  rw [Int.toNat_natCast, show (2 : Int) ^ b = ((2 ^ b : Nat) : Int) by rw [Int.natCast_pow]; rfl, fdiv_cast]
theorem and_cast (a b : Nat) : Builtin.bitAnd (a : Int) (b : Int) = ((a &&& b : Nat) : Int) := by simp [Builtin.bitAnd]
theorem or_cast (a b : Nat) : Builtin.bitOr (a : Int) (b : Int) = ((a ||| b : Nat) : Int) := by
  have hn : ∀ x : Nat, ¬ 0 ≤ Builtin.bitNot (x : Int) := fun x => by unfold Builtin.bitNot; omega
  have hnn : ∀ x : Int, Builtin.bitNot (Builtin.bitNot x) = x := fun x => by unfold Builtin.bitNot; omega
  unfold Builtin.bitOr
  rw [bitAnd_nn (hn a) (hn b), hnn, hnn, hnn, Int.toNat_natCast, Int.toNat_natCast]
theorem or_split (k : Nat) : ∀ a b : Nat, a + b ≤ k → a ||| b = (a &&& b) + (a ^^^ b) := by
  induction k with
  | zero => intro a b h; have h1 : a = 0 := by omega
            have h2 : b = 0 := by omega
            subst h1 h2; rfl
  | succ k ih =>
    intro a b h
    by_cases q : a + b = 0
    · have h1 : a = 0 := by omega
      have h2 : b = 0 := by omega
      subst h1 h2; rfl
    · have := ih (a / 2) (b / 2) (by omega)
      rw [← Nat.or_div_two, ← Nat.and_div_two, ← Nat.xor_div_two] at this
      have m : (a ||| b) % 2 = (a &&& b) % 2 + (a ^^^ b) % 2 := by
        have e1 : (a ||| b) % 2 = ((a ||| b).testBit 0).toNat := by rw [Nat.testBit_zero]; rcases Nat.mod_two_eq_zero_or_one (a ||| b) with e | e <;> rw [e] <;> rfl
        have e2 : (a &&& b) % 2 = ((a &&& b).testBit 0).toNat := by rw [Nat.testBit_zero]; rcases Nat.mod_two_eq_zero_or_one (a &&& b) with e | e <;> rw [e] <;> rfl
        have e3 : (a ^^^ b) % 2 = ((a ^^^ b).testBit 0).toNat := by rw [Nat.testBit_zero]; rcases Nat.mod_two_eq_zero_or_one (a ^^^ b) with e | e <;> rw [e] <;> rfl
        rw [e1, e2, e3, Nat.testBit_or, Nat.testBit_and, Nat.testBit_xor]
        cases a.testBit 0 <;> cases b.testBit 0 <;> rfl
      omega
theorem xor_cast (a b : Nat) : Builtin.bitXor (a : Int) (b : Int) = ((a ^^^ b : Nat) : Int) := by
  unfold Builtin.bitXor
  rw [or_cast, and_cast, or_split _ a b (Nat.le_refl _)]
  omega
theorem Ev.shlN {l r : Expr} {pos : Pos} {a b : Nat} (k : Nat) (x : Ev prog w A env h l (D.nat a)) (y : Ev prog w A env h r (D.nat b)) (q : a < 2 ^ k) (q' : k + b ≤ 1000) : Ev prog w A env h (.BinOp l .LShift r pos) (D.nat (a * 2 ^ b)) :=
  (Ev.shl' x y (by omega) (by have := bits_le q; omega)).cast (shl_cast a b)
theorem Ev.shrN {l r : Expr} {pos : Pos} {a b : Nat} (x : Ev prog w A env h l (D.nat a)) (y : Ev prog w A env h r (D.nat b)) : Ev prog w A env h (.BinOp l .RShift r pos) (D.nat (a / 2 ^ b)) := (Ev.shr x y (by omega)).cast (shr_cast a b)
theorem Ev.andN {l r : Expr} {pos : Pos} {a b : Nat} (x : Ev prog w A env h l (D.nat a)) (y : Ev prog w A env h r (D.nat b)) : Ev prog w A env h (.BinOp l .BitAnd r pos) (D.nat (a &&& b)) := (Ev.and x y).cast (and_cast a b)
theorem Ev.orN {l r : Expr} {pos : Pos} {a b : Nat} (x : Ev prog w A env h l (D.nat a)) (y : Ev prog w A env h r (D.nat b)) : Ev prog w A env h (.BinOp l .BitOr r pos) (D.nat (a ||| b)) := (Ev.or x y).cast (or_cast a b)
theorem Ev.xorN {l r : Expr} {pos : Pos} {a b : Nat} (x : Ev prog w A env h l (D.nat a)) (y : Ev prog w A env h r (D.nat b)) : Ev prog w A env h (.BinOp l .BitXor r pos) (D.nat (a ^^^ b)) := (Ev.xor x y).cast (xor_cast a b)
theorem Ev.modN {l r : Expr} {pos : Pos} {a b : Nat} (x : Ev prog w A env h l (D.nat a)) (y : Ev prog w A env h r (D.nat b)) (z : 0 < b) : Ev prog w A env h (.BinOp l .Mod r pos) (D.nat (a % b)) :=
  (Ev.mod x y (by omega)).cast (by rw [Int.fmod_eq_emod_of_nonneg _ (by omega)]; rfl)
/-- the rest of any whole number -/
theorem Ev.modI {l r : Expr} {pos : Pos} {a : Int} {b : Nat} (x : Ev prog w A env h l (D.int a)) (y : Ev prog w A env h r (D.nat b)) (z : 0 < b) : Ev prog w A env h (.BinOp l .Mod r pos) (D.nat (a % (b : Int)).toNat) :=
  (Ev.mod x y (by omega)).cast (by
    rw [Int.fmod_eq_emod_of_nonneg _ (by omega)]
    have := Int.emod_nonneg a (show (b : Int) ≠ 0 by omega)
    omega)
theorem Ts.eqN {l r : Expr} {pos : Pos} {a b : Nat} (x : Ev prog w A env h l (D.nat a)) (y : Ev prog w A env h r (D.nat b)) (hm : behindInMarks .Eq r = false := by with_unfolding_all rfl) : Ts prog w A env h (.Compare l [.Eq] [r] pos) (a == b) := by
  have := Ts.eq (pos := pos) x y hm
  rwa [show (((a : Int) == (b : Int)) : Bool) = (a == b) by rw [Bool.eq_iff_iff, beq_iff_eq, beq_iff_eq]; omega] at this
theorem Ts.neN {l r : Expr} {pos : Pos} {a b : Nat} (x : Ev prog w A env h l (D.nat a)) (y : Ev prog w A env h r (D.nat b)) (hm : behindInMarks .NotEq r = false := by with_unfolding_all rfl) : Ts prog w A env h (.Compare l [.NotEq] [r] pos) (a != b) := by
  have := Ts.ne (pos := pos) x y hm
  rwa [show (((a : Int) != (b : Int)) : Bool) = (a != b) by rw [Bool.eq_iff_iff, bne_iff_ne, bne_iff_ne]; omega] at this
theorem Ev.eqN {l r : Expr} {pos : Pos} {a b : Nat} (x : Ev prog w A env h l (D.nat a)) (y : Ev prog w A env h r (D.nat b)) (hm : behindInMarks .Eq r = false := by with_unfolding_all rfl) : Ev prog w A env h (.Compare l [.Eq] [r] pos) (D.bool (a == b)) := by
  have := Ev.eq (pos := pos) x y hm
  rwa [show (((a : Int) == (b : Int)) : Bool) = (a == b) by rw [Bool.eq_iff_iff, beq_iff_eq, beq_iff_eq]; omega] at this
theorem Ev.neN {l r : Expr} {pos : Pos} {a b : Nat} (x : Ev prog w A env h l (D.nat a)) (y : Ev prog w A env h r (D.nat b)) (hm : behindInMarks .NotEq r = false := by with_unfolding_all rfl) : Ev prog w A env h (.Compare l [.NotEq] [r] pos) (D.bool (a != b)) := by
  have := Ev.ne (pos := pos) x y hm
  rwa [show (((a : Int) != (b : Int)) : Bool) = (a != b) by rw [Bool.eq_iff_iff, bne_iff_ne, bne_iff_ne]; omega] at this
theorem Ts.nzN {e : Expr} {n : Nat} (x : Ev prog w A env h e (D.nat n)) (he : isTrue e env (eval e env) = (do let v ← eval e env; standAt e.pos; holding [v] (truthy v)) := by rfl) : Ts prog w A env h e (n != 0) := by
  have := Ts.nz x he
  rwa [show (((n : Int) != 0) : Bool) = (n != 0) by rw [Bool.eq_iff_iff, bne_iff_ne, bne_iff_ne]; omega] at this
/-- lo <= x <= hi -/
theorem Ts.within {l r₁ r₂ : Expr} {pos : Pos} {a b d : Int} (x : Ev prog w A env h l (D.int a)) (y : Ev prog w A env h r₁ (D.int b)) (z : Ev prog w A env h r₂ (D.int d)) (q : a ≤ b) (q' : b ≤ d) (hm : lastMarks [CmpOp.LtE, CmpOp.LtE] [r₁, r₂] = false := by with_unfolding_all rfl) :
    Ts prog w A env h (.Compare l [.LtE, .LtE] [r₁, r₂] pos) true := by
  have := Ts.chain2 (pos := pos) x y z (cmpi (fun _ _ _ _ _ k => PyProof.Rows.le_int k) _) (cmpi (fun _ _ _ _ _ k => PyProof.Rows.le_int k) _) hm
  rwa [decide_eq_true q, decide_eq_true q'] at this

/-! ## names picked -/
abbrev Fm.p (F : Fm K h₀ env μ h) (μ' : Names) : Heap → Prop := Fm K h₀ env μ'
theorem Fm.pick (F : Fm K h₀ env μ h) (xs : List Str) : Fm K h₀ env (capt μ xs) h :=
  F.re fun x d e => ⟨d, (capt_lookup e).1, fun _ q => q⟩
theorem FSrc.nats {iter : Expr} {ws : List Nat} (hh : A.handled = none) (y : Ev prog w A env h iter (D.nats ws)) : FSrc prog w A env h iter ws.length (fun i => D.nat (ws.getD i 0)) := by
  have := FSrc.list (dz := D.nat 0) hh y
  rw [List.length_map] at this
  have e : (fun i => (ws.map D.nat).getD i (D.nat 0)) = fun i => D.nat (ws.getD i 0) := by
    funext i
    rw [List.getD_eq_getElem?_getD, List.getD_eq_getElem?_getD, List.getElem?_map]
    cases ws[i]? <;> rfl
  rwa [e] at this
theorem upto_size (n : Nat) : Builtin.Range.rangeSize 0 n 1 = ((n : Nat) : Int) := by unfold Builtin.Range.rangeSize; simp; omega
theorem upto_small {n : Nat} (hn : n ≤ 1000000) : Builtin.Range.small 0 n 1 = true := by
  have := upto_size n
  unfold Builtin.Range.small
  rw [this]
  simp [Builtin.Range.rangeFitsLong]
  omega
theorem FSrc.upto {iter : Expr} {n : Nat} (hh : A.handled = none) (y : Ev prog w A env h iter (D.range 0 n 1)) (hn : n ≤ 1000000) : FSrc prog w A env h iter n (fun i => D.nat i) := by
  have := FSrc.range (n := n) hh y (upto_small hn) (upto_size n)
  have e : (fun i : Nat => D.int (0 + (i : Int) * 1)) = fun i : Nat => D.nat i := by
    funext i; rw [Int.mul_one, Int.zero_add]
  rwa [e] at this
theorem Src.nats {iter : Expr} {x : Str} {px : Pos} {ws : List Nat} (hh : A.handled = none) (y : Ev prog w A env h iter (D.nats ws)) : Src prog w A env h iter (.Name x px) ws.length (fun i => [(x, D.nat (ws.getD i 0))]) := by
  have := Src.list (x := x) (px := px) (dz := D.nat 0) hh y
  rw [List.length_map] at this
  have e : (fun i => [(x, (ws.map D.nat).getD i (D.nat 0))]) = fun i => [(x, D.nat (ws.getD i 0))] := by
    funext i
    rw [List.getD_eq_getElem?_getD, List.getD_eq_getElem?_getD, List.getElem?_map]
    cases ws[i]? <;> rfl
  rwa [e] at this
theorem Src.upto {iter : Expr} {x : Str} {px : Pos} {n : Nat} (hh : A.handled = none) (y : Ev prog w A env h iter (D.range 0 n 1)) (hn : n ≤ 1000000) : Src prog w A env h iter (.Name x px) n (fun i => [(x, D.nat i)]) := by
  have := Src.range (x := x) (px := px) (n := n) hh y (upto_small hn) (upto_size n)
  have e : (fun i : Nat => [(x, D.int (0 + (i : Int) * 1))]) = fun i : Nat => [(x, D.nat i)] := by
    funext i; rw [Int.mul_one, Int.zero_add]
  rwa [e] at this
theorem X.ixorN {x : Str} {p pos : Pos} {e : Expr} {a b : Nat} (F : Fm K h₀ env μ h) (hl : μ.lookup x = some (D.nat a)) (y : Ev prog w A env h e (D.nat b)) (hx : env.kindOf x = some .local ∨ (env.kindOf x = some .cell ∧ (env.cells.lookup x).isSome = true)) :
    X prog w A env h (.AugAssign (.Name x p) .BitXor e pos) (go (Fm K h₀ env ((x, D.nat (a ^^^ b)) :: μ))) := by
  have := X.ixor (pos := pos) (p := p) F hl y hx
  rwa [xor_cast] at this
theorem X.iandN {x : Str} {p pos : Pos} {e : Expr} {a b : Nat} (F : Fm K h₀ env μ h) (hl : μ.lookup x = some (D.nat a)) (y : Ev prog w A env h e (D.nat b)) (hx : env.kindOf x = some .local ∨ (env.kindOf x = some .cell ∧ (env.cells.lookup x).isSome = true)) :
    X prog w A env h (.AugAssign (.Name x p) .BitAnd e pos) (go (Fm K h₀ env ((x, D.nat (a &&& b)) :: μ))) := by
  have := X.iand (pos := pos) (p := p) F hl y hx
  rwa [and_cast] at this
theorem X.ishrN {x : Str} {p pos : Pos} {e : Expr} {a b : Nat} (F : Fm K h₀ env μ h) (hl : μ.lookup x = some (D.nat a)) (y : Ev prog w A env h e (D.nat b)) (hx : env.kindOf x = some .local ∨ (env.kindOf x = some .cell ∧ (env.cells.lookup x).isSome = true)) :
    X prog w A env h (.AugAssign (.Name x p) .RShift e pos) (go (Fm K h₀ env ((x, D.nat (a / 2 ^ b)) :: μ))) := by
  have := X.ishr (pos := pos) (p := p) F hl y (by omega) hx
  rwa [shr_cast] at this
theorem X.ishlN {x : Str} {p pos : Pos} {e : Expr} {a b : Nat} (k : Nat) (F : Fm K h₀ env μ h) (hl : μ.lookup x = some (D.nat a)) (y : Ev prog w A env h e (D.nat b)) (q : a < 2 ^ k) (q' : k + b ≤ 1000) (hx : env.kindOf x = some .local ∨ (env.kindOf x = some .cell ∧ (env.cells.lookup x).isSome = true)) :
    X prog w A env h (.AugAssign (.Name x p) .LShift e pos) (go (Fm K h₀ env ((x, D.nat (a * 2 ^ b)) :: μ))) := by
  have := X.ishl (pos := pos) (p := p) F hl y (by omega) (by have := bits_le q; omega) hx
  rwa [shl_cast] at this
theorem and_top (c k : Nat) : ((c &&& (1 * 2 ^ k)) != 0) = c.testBit k := by
  rw [Nat.one_mul]
  cases q : c.testBit k with
  | true =>
    rw [bne_iff_ne]
    intro e
    have := congrArg (fun z => z.testBit k) e
    simp [Nat.testBit_and, q] at this
  | false =>
    have : c &&& 2 ^ k = 0 := by
      refine Nat.eq_of_testBit_eq fun i => ?_
      rw [Nat.testBit_and, Nat.testBit_two_pow]
      by_cases e : k = i
      · subst e; simp [q]
      · simp [e]
    rw [this]; rfl
theorem and_mask (c k : Nat) : c &&& (1 * 2 ^ k - 1) = c % 2 ^ k := by rw [Nat.one_mul, Nat.and_two_pow_sub_one_eq_mod]
end Mine
end Core11x
section Core12x
open PySem PySem.W PyProof.Rows PySem.Calls
namespace Mine
variable {prog : Program} {w : World} {A : Around} {K : Frag} {env : Env} {μ : Names} {h h₀ : Heap}
theorem Ts.gtN {l r : Expr} {pos : Pos} {a b : Nat} (x : Ev prog w A env h l (D.nat a)) (y : Ev prog w A env h r (D.nat b)) (hm : behindInMarks .Gt r = false := by with_unfolding_all rfl) : Ts prog w A env h (.Compare l [.Gt] [r] pos) (decide (b < a)) := by
  have := Ts.gt (pos := pos) x y hm
  rwa [show decide ((b : Int) < (a : Int)) = decide (b < a) by rw [Bool.eq_iff_iff, decide_eq_true_iff, decide_eq_true_iff]; omega] at this
theorem Ev.mulN {l r : Expr} {pos : Pos} {a b : Nat} (x : Ev prog w A env h l (D.nat a)) (y : Ev prog w A env h r (D.nat b)) (q : a ≤ 1000000) (q' : b ≤ 1000000) : Ev prog w A env h (.BinOp l .Mult r pos) (D.nat (a * b)) :=
  (Ev.mul x y (IntMulOk.of_left (intBits_le_64 (by omega) (by omega)))).cast (Int.natCast_mul a b).symm
theorem noPy {a : Int} {b : Nat} (hb : b ≤ 1000000) : Builtin.divisionGoesByPylong a (b : Int) = false := PyProof.noPylong_small (by rw [Int.natAbs_natCast]; omega)
theorem Ev.fdivN {l r : Expr} {pos : Pos} {a b : Nat} (x : Ev prog w A env h l (D.nat a)) (y : Ev prog w A env h r (D.nat b)) (z : 0 < b) (hb : b ≤ 1000000) : Ev prog w A env h (.BinOp l .FloorDiv r pos) (D.nat (a / b)) :=
  (Ev.fdiv x y (by omega) (noPy hb)).cast (fdiv_cast a b)
theorem by_size {m n : Nat} (hn : 1 ≤ n) : Builtin.Range.rangeSize 0 ((m * n : Nat) : Int) (n : Int) = ((m : Nat) : Int) := by
  unfold Builtin.Range.rangeSize
  rw [if_pos (by omega)]
  cases m with
  | zero => simp
  | succ k =>
    have h0 : 0 < (k + 1) * n := Nat.mul_pos (by omega) (by omega)
    rw [if_pos (by omega)]
    have e : (((k + 1) * n : Nat) : Int) - 0 - 1 = (((k + 1) * n - 1 : Nat) : Int) := by omega
    rw [e]
    have e2 : ((k + 1) * n - 1) / n = k := by
      refine Nat.div_eq_of_lt_le ?_ ?_
      · rw [Nat.succ_mul]; omega
      · omega
    have e3 : ((((k + 1) * n - 1 : Nat) : Int)) / (n : Int) = ((((k + 1) * n - 1) / n : Nat) : Int) := rfl
    rw [e3, e2]
    omega
theorem by_small {m n : Nat} (hn : 1 ≤ n) (h1 : m * n ≤ 1000000) (h2 : n ≤ 1000000) : Builtin.Range.small 0 ((m * n : Nat) : Int) (n : Int) = true := by
  have e := by_size (m := m) hn
  have hm : m ≤ m * n := Nat.le_mul_of_pos_right m hn
  unfold Builtin.Range.small
  rw [e, if_pos (by omega)]
  simp only [Builtin.Range.rangeFitsLong, Bool.and_eq_true, Bool.or_eq_true, decide_eq_true_eq]
  refine ⟨⟨⟨⟨by omega, by omega⟩, by omega, by omega⟩, by omega, by omega⟩, .inr ⟨by omega, by omega⟩⟩
theorem Src.by {iter : Expr} {x : Str} {px : Pos} {m n : Nat} (hh : A.handled = none) (y : Ev prog w A env h iter (D.range 0 ((m * n : Nat) : Int) n)) (hn : 1 ≤ n) (h1 : m * n ≤ 1000000) (h2 : n ≤ 1000000) : Src prog w A env h iter (.Name x px) m (fun i => [(x, D.nat (i * n))]) := by
  have := Src.range (x := x) (px := px) (n := m) hh y (by_small hn h1 h2) (by_size hn)
  have e : (fun i : Nat => [(x, D.int (0 + (i : Int) * (n : Int)))]) = fun i : Nat => [(x, D.nat (i * n))] := by
    funext i; rw [Int.zero_add, ← Int.natCast_mul]
  rwa [e] at this
theorem Src.enumN {f e : Expr} {pos : Pos} {x y : Str} {px py q : Pos} {c : Nat} {ws : List Nat} (hh : A.handled = none) (z : Ev prog w A env h f (D.val (.type "enumerate"))) (ye : Ev prog w A env h e (D.nats ws))
    (he : eval (.Call f [e] [] pos) env = (do callWith pos (← eval f env) [] (backTo pos (starEach [e] env)) (backToKw pos (keywordEach [] env))) := by rfl)
    (hs : starEach [e] env = (false, eval e env) :: starEach [] env := by rfl) :
    Src prog w A env h (.Call f [e] [] pos) (.Tuple [.Name x px, .Name y py] c q) ws.length (fun i => [(x, D.nat i), (y, D.nat (ws.getD i 0))]) := by
  have := Src.enum (x := x) (y := y) (px := px) (py := py) (q := q) (c := c) (dz := D.nat 0) hh z ye he hs
  rw [List.length_map] at this
  have e : (fun i : Nat => [(x, D.int (i : Int)), (y, (ws.map D.nat).getD i (D.nat 0))]) = fun i : Nat => [(x, D.nat i), (y, D.nat (ws.getD i 0))] := by
    funext i
    have : (ws.map D.nat).getD i (D.nat 0) = D.nat (ws.getD i 0) := by
      rw [List.getD_eq_getElem?_getD, List.getD_eq_getElem?_getD, List.getElem?_map]
      cases ws[i]? <;> rfl
    rw [this]
  rwa [e] at this
theorem filt (m : Nat) : (List.range m).filter (fun _ => true) = List.range m := List.filter_eq_self.mpr fun _ _ => rfl
theorem clip_nat {L a : Nat} (q : a ≤ L) : clipAt L (a : Int) = a := by
  unfold clipAt
  rw [if_neg (by omega)]
  omega
/-- a piece of a list of whole numbers -/
theorem Ev.sliceN {value lo hi : Expr} {p pos : Pos} {ns : List Nat} {a b : Nat} {lo' : Nat} (x : Ev prog w A env h value (D.nats ns)) (y : Ev prog w A env h lo (D.nat a)) (z : Ev prog w A env h hi (D.nat b)) (hz : ns.length ≤ 1000000)
    (hlo : ∀ h', Gr h h' → lo' ≤ h'.objs.size) (q : a ≤ ns.length) (q' : b ≤ ns.length) :
    Ev prog w A env h (.Subscript value (.Slice (some lo) (some hi) none p) pos) (D.listGt lo' (((ns.drop a).take (b - a)).map D.nat)) := by
  have := Ev.slice (p := p) (pos := pos) (lo' := lo') (Ev.to x (nats_ints ns)) y z (by rw [List.length_map]; exact hz) hlo
  rw [List.length_map, clip_nat q, clip_nat q', ← List.map_drop, ← List.map_take, List.map_map] at this
  exact this
theorem Far.nats {lo : Nat} {ns : List Nat} : Far lo (D.listGt lo (ns.map D.nat)) := by
  have := Far.listInts (lo := lo) (ns := ns.map fun n : Nat => (n : Int))
  rwa [List.map_map] at this
theorem sum_take_le : ∀ (ns : List Nat) (k : Nat), (ns.take k).sum ≤ ns.sum
  | [], k => by simp
  | n :: ns, 0 => by simp
  | n :: ns, k + 1 => by
    rw [List.take_succ_cons, List.sum_cons, List.sum_cons]
    have := sum_take_le ns k
    omega
theorem sum_cast : ∀ (ns : List Nat), (ns.map fun n : Nat => (n : Int)).sum = ((ns.sum : Nat) : Int)
  | [] => rfl
  | n :: ns => by rw [List.map_cons, List.sum_cons, List.sum_cons, sum_cast ns]; omega
theorem le_sum : ∀ (ns : List Nat) (n : Nat), n ∈ ns → n ≤ ns.sum
  | m :: ns, n, h => by
    rw [List.sum_cons]
    rcases List.mem_cons.mp h with rfl | h
    · omega
    · have := le_sum ns n h; omega
theorem Ev.sumN {p pos : Pos} {e : Expr} {ns : List Nat} (hh : A.handled = none) (x : Ev prog w A env h (.Name "sum" p) (D.val (.builtin "sum"))) (y : Ev prog w A env h e (D.nats ns)) (hz : ns.sum < 2 ^ 62)
    (hs : starEach [e] env = (false, eval e env) :: starEach [] env := by rfl) : Ev prog w A env h (.Call (.Name "sum" p) [e] [] pos) (D.nat ns.sum) := by
  have := Ev.sum (p := p) (pos := pos) hh x (Ev.to y (nats_ints ns)) (fun j hj => ?_) hs
  · rwa [sum_cast] at this
  · rw [List.length_map] at hj
    rw [← List.map_take, sum_cast, List.getD_eq_getElem?_getD, List.getElem?_map, List.getElem?_eq_getElem hj, Option.map_some, Option.getD_some]
    have h1 := sum_take_le ns (j + 1)
    have h2 := le_sum ns ns[j] (List.getElem_mem hj)
    exact ⟨⟨by omega, by omega⟩, ⟨by omega, by omega⟩⟩
theorem Ev.lenN {p pos : Pos} {e : Expr} {ns : List Nat} (x : Ev prog w A env h (.Name "len" p) (D.val (.builtin "len"))) (y : Ev prog w A env h e (D.nats ns)) (hz : ns.length ≤ 1000000)
    (hs : starEach [e] env = (false, eval e env) :: starEach [] env := by rfl) : Ev prog w A env h (.Call (.Name "len" p) [e] [] pos) (D.nat ns.length) := by
  have := Ev.len (p := p) (pos := pos) x y (by rw [List.length_map]; exact hz) hs
  rwa [List.length_map] at this
end Mine
end Core12x
section Core13x
open PySem PySem.W PyProof.Rows PySem.Calls
namespace Mine
variable {prog : Program} {w : World} {A : Around} {K : Frag} {env : Env} {μ : Names} {h h₀ : Heap}

theorem WBut.trans {L : Addr} {a b c : Heap} (x : WBut L a b) (y : WBut L b c) : WBut L a c := fun _ _ e n => y _ _ (x _ _ e n) n
/-- .. and back -/
theorem Fm.desc {K : Frag} {h₀ h : Heap} {env : Env} {μ : Names} (F : Fm K h₀ env μ h) {x : Str} {v : Value} {d : D} (e : μ.lookup x = some (D.val v)) (q : d.at' env.frame v h) : Fm K h₀ env ((x, d) :: μ) h := by
  obtain ⟨u, a, b⟩ := F.cx.nm x _ e
  have b : u = v := b
  subst b
  refine ⟨⟨F.cx.kind, F.cx.glob, F.cx.blt, F.cx.gd, fun y d' e' => ?_, F.cx.live⟩, F.gd0, F.ns, F.cells, F.apart, F.keep, F.fresh, F.cabove, F.fr⟩
  rw [List.lookup_cons] at e'
  by_cases q' : y = x
  · subst q'; rw [beq_self_eq_true] at e'; cases e'; exact ⟨u, a, q⟩
  · rw [beq_eq_false_iff_ne.mpr q'] at e'; exact F.cx.nm y d' e'

def Free (d : D) : Prop := ∀ (f : Option Addr) (v : Value) (a b : Heap), d.at' f v a → d.at' f v b
/-- a frame beside a list of its own that grows -/
structure Lf (K : Frag) (h₀ : Heap) (env : Env) (μ : Names) (hp : Heap) (a : Addr) (ds : List D) (h : Heap) : Prop where
  fm : Fm K h₀ env μ h
  free : ∀ p ∈ μ, Free p.2
  wb : WBut env.locals hp h
  list : ∃ vs, PlainL h a (List.toArray vs) ∧ All2 (fun u d => d.at' env.frame u h) vs ds
  far : ∀ d ∈ ds, Far (a + 1) d
  na : hp.get? a = none
  n0 : h₀.get? a = none
theorem Lf.aL (S : Lf K h₀ env μ hp a ds h) : a ≠ env.locals := by
  obtain ⟨vs, ⟨o, n, e, c, _, d⟩, _⟩ := S.list
  obtain ⟨m, oL, es, ep, hL, hd, _⟩ := S.fm.ns
  intro q; rw [q, hL] at e; cases e; rw [hd] at d; cases d
theorem Lf.mono {h' : Heap} (S : Lf K h₀ env μ hp a ds h) (g : Gr h h') : Lf K h₀ env μ hp a ds h' :=
  ⟨S.fm.mono g, S.free, S.wb.trans g.but.weak, let ⟨vs, l, r⟩ := S.list; ⟨vs, l.keeps g, r.imp fun _ d x => d.mono x g⟩, S.far, S.na, S.n0⟩
theorem Lf.store {x : Str} {v : Value} {d : D} (S : Lf K h₀ env μ hp a ds h) (hx : env.kindOf x = some .local ∨ (env.kindOf x = some .cell ∧ (env.cells.lookup x).isSome = true)) (hd : d.at' env.frame v h) (hf : Free d) :
    T prog w A (storeName env x v) h fun _ h' => But env.locals h h' ∧ Lf K h₀ env ((x, d) :: μ) hp a ds h' := by
  refine T.mono (Fm.store S.fm hx hd) fun _ h' p => ⟨p.1, p.2, fun q hq => ?_, S.wb.trans p.1.weak, ?_, S.far, S.na, S.n0⟩
  · rcases List.mem_cons.mp hq with rfl | hq
    · exact hf
    · exact S.free q hq
  · obtain ⟨vs, ⟨o, n, e, c, dn, dd⟩, r⟩ := S.list
    obtain ⟨m, nn⟩ := S.fm.ns
    refine ⟨vs, ⟨o, n, p.1 a o e (.inr ⟨fun v q => (by rw [dd] at q; cases q), S.aL⟩), c, dn, dd⟩, r.imp fun u d q => ?_⟩
    rw [S.fm.fr] at q ⊢
    exact d.stay q nn p.1.weak
theorem Lf.append {v : Value} {d : D} (S : Lf K h₀ env μ hp a ds h) (hv : d.at' env.frame v h) (hf : Far (a + 1) d) (hz : ds.length ≤ 1000) :
    T prog w A (call (.builtin "list.append") [.ref a, v]) h fun u h' => u = .none ∧ Heap.SameBut a h h' ∧ Lf K h₀ env μ hp a (ds ++ [d]) h' := by
  intro s Q E e k
  subst e
  obtain ⟨vs, hl, r⟩ := S.list
  refine list_append_plainL hl (fun h' hl' hs => k _ h' s.toks ⟨rfl, hs, ?_⟩) (by rw [List.size_toArray, r.length, sizeLine_eq]; omega)
  have kp : ∀ b o, b ≠ a → s.heap.get? b = some o → h'.get? b = some o := fun b o n e => (hs.2 b n).trans e
  have k0 : Gr h₀ h' := fun b o e => kp b o (fun q => by rw [q, S.n0] at e; cases e) (S.fm.keep b o e)
  obtain ⟨m, nn⟩ := S.fm.ns
  have nn' : ∀ {m'}, s.heap.Ns env.locals m' → h'.Ns env.locals m' := fun n => n.at' fun o e => kp _ o (Ne.symm S.aL) e
  have cl : ∀ {c v}, s.heap.IsCell c v → h'.IsCell c v := fun {c v} i => by
    obtain ⟨o, ho, hd⟩ := i
    refine ⟨o, kp c o (fun q => ?_) ho, hd⟩
    obtain ⟨o', n', e', _, _, d'⟩ := hl
    rw [q, e'] at ho; cases ho; rw [d'] at hd; cases hd
  refine ⟨⟨⟨S.fm.cx.kind, S.fm.cx.glob, S.fm.cx.blt, S.fm.gd0.mono k0, fun y d' e => ?_, ns_live S.fm.fr (nn' nn)⟩, S.fm.gd0, ⟨_, nn' nn⟩, fun y c e => let ⟨v, i⟩ := S.fm.cells y c e; ⟨v, cl i⟩, S.fm.apart, k0, S.fm.fresh, S.fm.cabove, S.fm.fr⟩, S.free,
    fun b o e n => kp b o (fun q => by rw [q, S.na] at e; cases e) (S.wb b o e n), ⟨vs ++ [v], by simpa using hl', ?_⟩, fun d' hd' => ?_, S.na, S.n0⟩
  · obtain ⟨u, av, b⟩ := S.fm.cx.nm y d' e
    refine ⟨u, ?_, S.free _ (mem_lookup e) _ _ _ _ b⟩
    rcases av with ⟨kl, m', n', q'⟩ | ⟨kc, c, l, i⟩
    · exact .inl ⟨kl, _, nn' n', q'⟩
    · exact .inr ⟨kc, c, l, cl i⟩
  · have kk : ∀ b o, a + 1 ≤ b → s.heap.get? b = some o → h'.get? b = some o := fun b o hb e => kp b o (fun q => by rw [q] at hb; exact Nat.lt_irrefl _ hb) e
    exact All2.append (far_all kk S.far r) (.cons (hf _ _ _ _ kk hv) .nil)
  · rcases List.mem_append.mp hd' with q | q
    · exact S.far d' q
    · rw [List.mem_singleton.mp q]; exact hf
/-- the list begun -/
theorem Lf.start {x : Str} {p q pos : Pos} (F : Fm K h₀ env μ h) (hf : ∀ p ∈ μ, Free p.2) (hx : env.kindOf x = some .local ∨ (env.kindOf x = some .cell ∧ (env.cells.lookup x).isSome = true)) :
    T prog w A (exec (.Assign [.Name x p] (.List [] q) pos) env) h (go fun h' => Lf K h₀ env ((x, D.val (.ref h.objs.size)) :: μ) h h.objs.size [] h') := by
  intro s Q E e k
  subst e
  refine wpAny_Assign_Name (PyProof.Rows.List_ (args_nil (wpAny_newObj_type ?_ (by show (#[] : Array Value).size ≤ sizeLine; exact Nat.zero_le _)))) rfl
  have none_at : s.heap.get? s.heap.objs.size = none := by
    cases q : s.heap.get? s.heap.objs.size with
    | none => rfl
    | some o => exact absurd (Heap.lt_size q) (Nat.lt_irrefl _)
  refine Fm.store (F.mono (Gr.push _ _)) hx (d := D.val (.ref s.heap.objs.size)) rfl _ _ E rfl fun _ h₂ t₂ p₂ => k .next h₂ t₂ ⟨rfl, p₂.2, fun q hq => ?_, (Gr.push _ _).but.weak.trans p₂.1.weak, ⟨[], ?_, .nil⟩, fun _ hd => (nomatch hd), none_at, ?_⟩
  · rcases List.mem_cons.mp hq with rfl | hq
    · exact fun _ _ _ _ q => q
    · exact hf q hq
  · refine ⟨_, 0, p₂.1 _ _ (Heap.get?_push_size _ rfl) (.inr ⟨fun v q => (by cases q), fun q => ?_⟩), rfl, rfl, rfl⟩
    obtain ⟨m, oL, es, ep, hL, _⟩ := F.ns
    have := Heap.lt_size hL
    rw [← q] at this
    exact Nat.lt_irrefl _ this
  · cases q : h₀.get? s.heap.objs.size with
    | none => rfl
    | some o => rw [F.keep _ _ q] at none_at; cases none_at

/-- all stands but a, L and cells -/
def LB (L a : Addr) (h h' : Heap) : Prop := ∀ b o, h.get? b = some o → nonCell o → b ≠ L → b ≠ a → h'.get? b = some o
theorem Lf.for {x : Str} {px pos : Pos} {iter : Expr} {body : List Stmt} {n : Nat} (μi : Nat → Names) (its : Nat → List D) {hp : Heap} {a : Addr} (hh : A.handled = none) (S : Lf K h₀ env (μi 0) hp a (its 0) h) (y : Ev prog w A env h iter (D.range 0 n 1)) (hn : n ≤ 1000000)
    (hx : env.kindOf x = some .local ∨ (env.kindOf x = some .cell ∧ (env.cells.lookup x).isSome = true))
    (turn : ∀ i, i < n → ∀ h', Lf K h₀ env ((x, D.nat i) :: μi i) hp a (its i) h' → T prog w A (execs body env) h' (fun f h'' => f = .next ∧ LB env.locals a h' h'' ∧ Lf K h₀ env (μi (i + 1)) hp a (its (i + 1)) h''))
    (hs : ∀ x, foldedSetIterable iter env x = pure x := by intro _; rfl) : T prog w A (exec (.For (.Name x px) iter body [] pos) env) h (go (Lf K h₀ env (μi n) hp a (its n))) := by
  intro s Q E e k
  subst e
  refine wpAny_For (y _ (Gr.refl _) s _ E rfl fun v h₁ t₁ p₁ => ?_) hs
  obtain ⟨g₁, r, t, u, q, rfl, hr⟩ := p₁
  refine wpAny_pyIter_range (s := { s with heap := h₁, toks := t₁ }) hr (upto_small hn) ?_
  have W := Walks.range (prog := prog) (w := w) hh h₁.objs.size 0 1 n
  have g₂ : Gr h₁ (h₁.push { cls := .type "range_iterator", data := .fields #[rawInt 0, rawInt (Builtin.Range.rangeSize 0 n 1), rawInt 1] }) := Gr.push _ _
  have st0 : IsRangeIter (h₁.push { cls := .type "range_iterator", data := .fields #[rawInt 0, rawInt (Builtin.Range.rangeSize 0 n 1), rawInt 1] }) h₁.objs.size (0 + ((0 : Nat) : Int) * 1) ((n : Int) - ((0 : Nat) : Int)) 1 := by
    show _ = _
    rw [upto_size]; simpa using Heap.get?_push_size _ rfl
  refine codeAny_forLoop (fun k' s' => ∃ i h' tk, s' = { s with heap := h', toks := tk } ∧ i ≤ n ∧ k' = n + 1 - i ∧ IsRangeIter h' h₁.objs.size (0 + (i : Int) * 1) ((n : Int) - (i : Int)) 1 ∧ Lf K h₀ env (μi i) hp a (its i) h') ?_ (n + 1) ⟨0, _, t₁, rfl, Nat.zero_le _, rfl, st0, S.mono (g₁.trans g₂)⟩
  have S₁ := S.mono g₁
  have hLI : env.locals < h₁.objs.size := by obtain ⟨m, hm⟩ := S₁.fm.ns; exact hm.lt
  have haI : a < h₁.objs.size := by obtain ⟨vs, hl, _⟩ := S₁.list; exact hl.lt
  rintro q' s' ⟨i, h', tk, rfl, hi, rfl, st', S'⟩
  have step : ∀ {h₂ : Heap}, (∀ b o, b ∉ [h₁.objs.size] → h'.get? b = some o → h₂.get? b = some o) → Lf K h₀ env (μi i) hp a (its i) h₂ := by
    intro h₂ kp
    have kp' : ∀ b o, b ≠ h₁.objs.size → h'.get? b = some o → h₂.get? b = some o := fun b o hb e => kp b o (by simpa using hb) e
    obtain ⟨m, hm⟩ := S'.fm.ns
    have wbI : WBut env.locals h' h₂ := fun b o e n => kp' b o (fun q => by
      have st' : h'.get? _ = some _ := st'
      subst q
      rw [st'] at e; cases e
      rcases n with n | n
      · exact Nat.lt_irrefl _ (Nat.lt_trans hLI n)
      · exact n.2.1 (.inr (.inl rfl))) e
    have cl : ∀ {c v}, h'.IsCell c v → h₂.IsCell c v := fun {c v} ic => by
      obtain ⟨o, ho, hd⟩ := ic
      refine ⟨o, kp' c o (fun q => ?_) ho, hd⟩
      have st' : h'.get? _ = some _ := st'
      rw [q, st'] at ho; cases ho; cases hd
    have n₂ : h₂.Ns env.locals m := hm.at' fun o e => kp' _ o (Nat.ne_of_lt hLI) e
    refine ⟨S'.fm.weak hm n₂ wbI cl, S'.free, S'.wb.trans wbI, ?_, S'.far, S'.na, S'.n0⟩
    obtain ⟨vs, ⟨o, nn, e, c, dn, dd⟩, r⟩ := S'.list
    refine ⟨vs, ⟨o, nn, kp' _ _ (Nat.ne_of_lt haI) e, c, dn, dd⟩, r.imp fun u d q => ?_⟩
    rw [S'.fm.fr] at q ⊢
    exact d.stay q hm wbI
  by_cases hlt : i < n
  · refine W.item i _ _ _ hlt st' fun v h₂ t₂ pv st₂ kp => ?_
    have S₂ := step kp
    have pv : (D.nat i).at' env.frame v h₂ := by
      have pv : ∃ t, v = .int (0 + (i : Int) * 1) t := pv
      obtain ⟨t, rfl⟩ := pv
      exact ⟨t, by rw [Int.mul_one, Int.zero_add]⟩
    refine wpAny_assign_Name (Lf.store S₂ hx pv (fun _ _ _ _ q => q) _ _ _ rfl fun _ h₃ t₃ p₃ => ?_)
    refine turn i hlt h₃ p₃.2 _ _ _ rfl fun f h₄ t₄ p₄ => ?_
    obtain ⟨rfl, b₄, S₄⟩ := p₄
    refine ⟨n + 1 - (i + 1), by omega, i + 1, h₄, t₄, rfl, hlt, rfl, ?_, S₄⟩
    have st₂ : IsRangeIter h₂ h₁.objs.size _ _ _ := st₂
    have e₃ := p₃.1 _ _ st₂ (.inr ⟨fun v q => (by cases q), Nat.ne_of_gt hLI⟩)
    have e₄ := b₄ _ _ e₃ (fun v q => (by cases q)) (Nat.ne_of_gt hLI) (Nat.ne_of_gt haI)
    exact e₄
  · obtain rfl : i = n := Nat.le_antisymm hi (Nat.not_lt.mp hlt)
    refine W.done _ _ _ st' fun h₂ t₂ kp => ?_
    exact wpAny_execs_nil (k .next h₂ t₂ ⟨rfl, step kp⟩)

theorem Lf.push {o elt : Expr} {apos pos pos' : Pos} {hp : Heap} {a : Addr} {ds : List D} {d : D} (S : Lf K h₀ env μ hp a ds h) (ho : Ev prog w A env h o (D.val (.ref a))) (y : Ev prog w A env h elt d) (hf : Far (a + 1) d) (hz : ds.length ≤ 1000)
    (hbase : attributeBase o "append" env (eval o env) = eval o env := by rfl)
    (hfew : ((backTo pos (starEach [elt] env)).all (fun x => !x.1) && (backToKw pos (keywordEach [] env)).all (fun x => x.1.isSome)
      && decide (([elt] : List Expr).length + ([] : List Keyword).length + (if ([] : List Keyword).isEmpty then 0 else 1) < 30)) = true := by rfl)
    (hline : (apos.endLine == pos.line) = true := by rfl) (htrees : backTo pos (starEach [elt] env) = [(false, eval elt env)] := by rfl)
    (hi : interactive env = false := by rfl) (hs : swapsWith (.Call (.Attribute o "append" apos) [elt] [] pos) none pos'.line env = pure false := by rfl) :
    T prog w A (exec (.Expr (.Call (.Attribute o "append" apos) [elt] [] pos) pos') env) h fun f h' => f = .next ∧ LB env.locals a h h' ∧ Lf K h₀ env μ hp a (ds ++ [d]) h' := by
  intro s Q E e k
  subst e
  refine wpAny_Expr (wpAny_Call_append hbase hfew hline htrees (ho _ (Gr.refl _) s _ E rfl fun v h₁ t₁ p₁ => ?_)) hi hs
  obtain ⟨g₁, q⟩ := p₁
  obtain ⟨vs, hl, _⟩ := (S.mono g₁).list
  refine ⟨a, _, q, hl, y _ g₁ _ _ E rfl fun u h₂ t₂ p₂ => ?_⟩
  refine (S.mono (g₁.trans p₂.1)).append p₂.2 hf hz _ _ E rfl fun z h₃ t₃ p₃ => ?_
  obtain ⟨rfl, hsb, S₃⟩ := p₃
  exact k .next h₃ t₃ ⟨rfl, fun b o e _ _ n => (hsb.2 b n).trans (p₂.1 _ _ (g₁ _ _ e)), S₃⟩

theorem T.one {st : Stmt} {Φ : Flow → Heap → Prop} (x : T prog w A (exec st env) h Φ) (q : ∀ f h', Φ f h' → f = .next) : T prog w A (execs [st] env) h Φ := by
  intro s Q E e k
  refine wpAny_execs_cons (x s _ E e fun f h' tk p => ?_)
  have := q f h' p
  subst this
  exact wpAny_execs_nil (k .next h' tk p)
theorem capt_mem {μ : Names} {x : Str} {d : D} : ∀ {xs : List Str}, (x, d) ∈ capt μ xs → (x, d) ∈ μ
  | y :: r, e => by
    unfold capt at e
    rw [List.filterMap_cons] at e
    cases q : μ.lookup y with
    | none => rw [q] at e; exact capt_mem (xs := r) e
    | some d' =>
      rw [q] at e
      rcases List.mem_cons.mp e with e | e
      · cases e; exact mem_lookup q
      · exact capt_mem (xs := r) e
theorem Lf.pick (S : Lf K h₀ env μ hp a ds h) (xs : List Str) : Lf K h₀ env (capt μ xs) hp a ds h :=
  ⟨S.fm.pick xs, fun p q => S.free p (capt_mem (x := p.1) (d := p.2) q), S.wb, S.list, S.far, S.na, S.n0⟩
theorem Lf.lo (S : Lf K h₀ env μ hp a ds h) {h' : Heap} (g : Gr h h') : a + 1 ≤ h'.objs.size := by
  obtain ⟨vs, hl, _⟩ := (S.mono g).list
  exact hl.lt
theorem free_val (v : Value) : Free (D.val v) := fun _ _ _ _ q => q
theorem free_nat (n : Nat) : Free (D.nat n) := fun _ _ _ _ q => q
theorem free_bool (b : Bool) : Free (D.bool b) := fun _ _ _ _ q => q

theorem Lf.at (S : Lf K h₀ env μ hp a ds h) (n : ∃ m, hp.Ns env.locals m) {d : D} {v : Value} (q : d.at' env.frame v hp) : d.at' env.frame v h := by
  obtain ⟨m, n⟩ := n
  rw [S.fm.fr] at q ⊢
  exact d.stay q n S.wb
end Mine
end Core13x
section Kfx
open PySem PySem.W PyProof.Rows PySem.Calls
namespace Mine
noncomputable abbrev KK (P : Params) : Frag := Mine.hd.heap_39 P
theorem kb (P : Params) : KB (KK P) where
  len := by kernel_rfl
  max := by kernel_rfl
  min := by kernel_rfl
  abs := by kernel_rfl
  sum := by kernel_rfl
  range := by kernel_rfl
  enumerate := by kernel_rfl
  sorted := by kernel_rfl
  set := by kernel_rfl
  isinstance := by kernel_rfl
  int := by kernel_rfl
  bool := by kernel_rfl
theorem gAt (P : Params) : nsIn (KK P) mainGlobals "_law_at" = some (some (.ref 156)) := by kernel_rfl
theorem gBits (P : Params) : nsIn (KK P) mainGlobals "_law_bits" = some (some (.ref 161)) := by kernel_rfl
theorem gWords (P : Params) : nsIn (KK P) mainGlobals "_law_words" = some (some (.ref 166)) := by kernel_rfl
theorem gOrder (P : Params) : nsIn (KK P) mainGlobals "_law_order" = some (some (.ref 173)) := by kernel_rfl
theorem gAlg (P : Params) : nsIn (KK P) mainGlobals "Algorithm" = some (some (.ref 77)) := by kernel_rfl
theorem gPar (P : Params) : nsIn (KK P) mainGlobals "Parameters" = some (some (.ref 145)) := by kernel_rfl
theorem gOp (P : Params) : nsIn (KK P) mainGlobals "operator" = some (some (.ref 41)) := by kernel_rfl
theorem fo77_crc_width (P : Params) : FieldOk (KK P) 77 "crc_width" := ⟨by kernel_rfl, by kernel_rfl, none, by kernel_rfl, rfl⟩
theorem so77_crc_width (P : Params) : SetOk (KK P) 77 "crc_width" := ⟨by kernel_rfl, by kernel_rfl, by kernel_rfl, by kernel_rfl⟩
theorem fo77_polynomial (P : Params) : FieldOk (KK P) 77 "polynomial" := ⟨by kernel_rfl, by kernel_rfl, none, by kernel_rfl, rfl⟩
theorem so77_polynomial (P : Params) : SetOk (KK P) 77 "polynomial" := ⟨by kernel_rfl, by kernel_rfl, by kernel_rfl, by kernel_rfl⟩
theorem fo77_initial_crc (P : Params) : FieldOk (KK P) 77 "initial_crc" := ⟨by kernel_rfl, by kernel_rfl, none, by kernel_rfl, rfl⟩
theorem so77_initial_crc (P : Params) : SetOk (KK P) 77 "initial_crc" := ⟨by kernel_rfl, by kernel_rfl, by kernel_rfl, by kernel_rfl⟩
theorem fo77_reflect_input (P : Params) : FieldOk (KK P) 77 "reflect_input" := ⟨by kernel_rfl, by kernel_rfl, none, by kernel_rfl, rfl⟩
theorem so77_reflect_input (P : Params) : SetOk (KK P) 77 "reflect_input" := ⟨by kernel_rfl, by kernel_rfl, by kernel_rfl, by kernel_rfl⟩
theorem fo77_reflect_output (P : Params) : FieldOk (KK P) 77 "reflect_output" := ⟨by kernel_rfl, by kernel_rfl, none, by kernel_rfl, rfl⟩
theorem so77_reflect_output (P : Params) : SetOk (KK P) 77 "reflect_output" := ⟨by kernel_rfl, by kernel_rfl, by kernel_rfl, by kernel_rfl⟩
theorem fo77_xor_output (P : Params) : FieldOk (KK P) 77 "xor_output" := ⟨by kernel_rfl, by kernel_rfl, none, by kernel_rfl, rfl⟩
theorem so77_xor_output (P : Params) : SetOk (KK P) 77 "xor_output" := ⟨by kernel_rfl, by kernel_rfl, by kernel_rfl, by kernel_rfl⟩
theorem fo145_crc_width (P : Params) : FieldOk (KK P) 145 "_crc_width" := ⟨by kernel_rfl, by kernel_rfl, none, by kernel_rfl, rfl⟩
theorem so145_crc_width (P : Params) : SetOk (KK P) 145 "_crc_width" := ⟨by kernel_rfl, by kernel_rfl, by kernel_rfl, by kernel_rfl⟩
theorem fo145_polynomial (P : Params) : FieldOk (KK P) 145 "_polynomial" := ⟨by kernel_rfl, by kernel_rfl, none, by kernel_rfl, rfl⟩
theorem so145_polynomial (P : Params) : SetOk (KK P) 145 "_polynomial" := ⟨by kernel_rfl, by kernel_rfl, by kernel_rfl, by kernel_rfl⟩
theorem fo145_initial_crc (P : Params) : FieldOk (KK P) 145 "_initial_crc" := ⟨by kernel_rfl, by kernel_rfl, none, by kernel_rfl, rfl⟩
theorem so145_initial_crc (P : Params) : SetOk (KK P) 145 "_initial_crc" := ⟨by kernel_rfl, by kernel_rfl, by kernel_rfl, by kernel_rfl⟩
theorem fo145_reflect_input (P : Params) : FieldOk (KK P) 145 "_reflect_input" := ⟨by kernel_rfl, by kernel_rfl, none, by kernel_rfl, rfl⟩
theorem so145_reflect_input (P : Params) : SetOk (KK P) 145 "_reflect_input" := ⟨by kernel_rfl, by kernel_rfl, by kernel_rfl, by kernel_rfl⟩
theorem fo145_reflect_output (P : Params) : FieldOk (KK P) 145 "_reflect_output" := ⟨by kernel_rfl, by kernel_rfl, none, by kernel_rfl, rfl⟩
theorem so145_reflect_output (P : Params) : SetOk (KK P) 145 "_reflect_output" := ⟨by kernel_rfl, by kernel_rfl, by kernel_rfl, by kernel_rfl⟩
theorem fo145_xor_output (P : Params) : FieldOk (KK P) 145 "_xor_output" := ⟨by kernel_rfl, by kernel_rfl, none, by kernel_rfl, rfl⟩
theorem so145_xor_output (P : Params) : SetOk (KK P) 145 "_xor_output" := ⟨by kernel_rfl, by kernel_rfl, by kernel_rfl, by kernel_rfl⟩
theorem fo145_data_width (P : Params) : FieldOk (KK P) 145 "data_width" := ⟨by kernel_rfl, by kernel_rfl, none, by kernel_rfl, rfl⟩
theorem so145_data_width (P : Params) : SetOk (KK P) 145 "data_width" := ⟨by kernel_rfl, by kernel_rfl, by kernel_rfl, by kernel_rfl⟩
theorem mCompute (P : Params) : MethOk (KK P) 145 "compute" 118 := ⟨by kernel_rfl, by kernel_rfl, by kernel_rfl, by kernel_rfl⟩
theorem mResidue (P : Params) : MethOk (KK P) 145 "residue" 111 := ⟨by kernel_rfl, by kernel_rfl, by kernel_rfl, by kernel_rfl⟩
theorem sIndex (P : Params) : StatOk (KK P) 41 "index" 35 := ⟨by kernel_rfl, by kernel_rfl, ⟨37, [.bool false], by kernel_rfl, by kernel_rfl⟩, by kernel_rfl⟩
theorem sReflect (P : Params) : StatInst (KK P) 145 "_reflect" 125 := ⟨by kernel_rfl, by kernel_rfl, ⟨127, [.bool false], by kernel_rfl, by kernel_rfl, by kernel_rfl, by kernel_rfl, by kernel_rfl⟩, by decide +kernel, by kernel_rfl⟩
theorem cAlg (P : Params) : CallOk (KK P) 77 67 := ⟨by kernel_rfl, by kernel_rfl, by kernel_rfl⟩
end Mine
end Kfx
section Fn1x
open PySem PySem.W PyProof.Rows PySem.Calls
namespace Mine
variable {prog : Program} {w : World} {A : Around} {env : Env} {μ : Names} {h h₀ : Heap}

theorem ct_at (r : room 2 A) (gd : Gd (KK w.params) h) {fr : Option Addr} {vs : List Value} {ns : List Int} {k d : Int} (hv : All2 (fun v d => d.at' fr v h) vs [D.ints ns, D.int k, D.int d]) (hk : 0 ≤ k) (hn : ns.length ≤ 63) (hk' : k < 2 ^ 62) :
    Cd prog w A (.call (.ref 156) ⟨vs, []⟩) h fun v h' => Gr h h' ∧ ∃ t, v = .int (ns.getD k.toNat d) t := by
  obtain ⟨a, b, c, rfl, h1, h2, h3⟩ := hv.three
  have rd := r.deeper
  intro s R e kk
  refine call_own (K := KK w.params) (ns := ["script", "k", "other"]) (fr := fr) (Φ := fun v _ => ∃ t, v = .int (ns.getD k.toNat d) t) (by have := r.2.1; omega) gd (by rfl) (by rfl) (by kernel_rfl) (by rfl) (fun s _ => BindsTo.of_eq (by rfl)) (by rfl) (by rfl) (by rfl) rfl (by decide) hv (by rfl) (fun h₁ g F => ?_) (by rfl) (by rfl) (by rfl) s R e fun v h' tk' g p => kk v h' tk' ⟨g, p⟩
  have c := F.cx
  refine Xs.mono (Xs.ret (d := D.int (ns.getD k.toNat d)) (Ev.ite (Ts.lt (Ev.name c (by rfl)) (Ev.len (Ev.bLen c (kb _)) (Ev.name c (by rfl)) (by rw [List.length_map]; omega))) (fun hc => Ev.item (Ev.name c (by rfl)) (Ev.name c (by rfl)) hk (by omega) ?_) fun hc => (Ev.name c (by rfl)).mono fun v h' x => ?_)) ?_
  · have hc := of_decide_eq_true hc
    rw [List.length_map] at hc
    have : k.toNat < ns.length := by omega
    rw [List.getElem?_map, List.getElem?_eq_getElem this, Option.map_some, List.getD_eq_getElem?_getD, List.getElem?_eq_getElem this, Option.getD_some]
  · have hc := of_decide_eq_false hc
    rw [List.length_map] at hc
    have : ns.length ≤ k.toNat := by omega
    rw [List.getD_eq_getElem?_getD, List.getElem?_eq_none this, Option.getD_none]
    exact x
  · rintro fl h' ⟨v, rfl, x⟩ _
    exact x
end Mine
end Fn1x
section Fn2x
open PySem PySem.W PyProof.Rows PySem.Calls
namespace Mine
variable {prog : Program} {w : World} {A : Around} {env : Env} {μ : Names} {h h₀ : Heap}

theorem ct_index (r : room 2 A) (gd : Gd (KK w.params) h) {fr : Option Addr} {vs : List Value} {n : Int} (hv : All2 (fun v d => d.at' fr v h) vs [D.int n]) :
    Cd prog w A (.call (.ref 35) ⟨vs, []⟩) h fun v h' => Gr h h' ∧ ∃ t, v = .int n t := by
  obtain ⟨a, rfl, h1⟩ := hv.one
  have rd := r.deeper
  intro s R e kk
  refine call_own (K := KK w.params) (ns := ["value"]) (fr := fr) (Φ := fun v _ => ∃ t, v = .int n t) (by have := r.2.1; omega) gd (by rfl) (by rfl) (by kernel_rfl) (by rfl) (fun s _ => BindsTo.of_eq (by rfl)) (by rfl) (by rfl) (by rfl) rfl (by decide) hv (by rfl) (fun h₁ g F => ?_) (by rfl) (by rfl) (by rfl) s R e fun v h' tk' g p => kk v h' tk' ⟨g, p⟩
  refine Xs.cons (X.skip F (Ts.not (Ts.bool (Ev.isInt F.cx (kb _) (Ev.name F.cx (by rfl))))) rfl) fun h₂ F => ?_
  refine Xs.mono (Xs.ret (Ev.name F.cx (by rfl))) ?_
  rintro fl h' ⟨v, rfl, x⟩ _
  exact x

theorem Ev.attri {K : Frag} {value : Expr} {name : Str} {pos : Pos} {C : Addr} {fs : List (Str × FD)} {n : Int} (c : Cx K env μ h) (x : Ev prog w A env h value (D.inst C fs)) (ok : FieldOk K C name) (hd : fs.lookup name = some (.int n))
    (he : eval (.Attribute value name pos) env = (do
      let o ← eval value env
      standAt pos.atName
      let r ← holding [o] (getAttr o name true)
      letTemporaryGo value o r
      pure r) := by with_unfolding_all rfl) : Ev prog w A env h (.Attribute value name pos) (D.int n) := Ev.attr (d := .int n) c x ok hd he
theorem Ev.attrb {K : Frag} {value : Expr} {name : Str} {pos : Pos} {C : Addr} {fs : List (Str × FD)} {n : Bool} (c : Cx K env μ h) (x : Ev prog w A env h value (D.inst C fs)) (ok : FieldOk K C name) (hd : fs.lookup name = some (.bool n))
    (he : eval (.Attribute value name pos) env = (do
      let o ← eval value env
      standAt pos.atName
      let r ← holding [o] (getAttr o name true)
      letTemporaryGo value o r
      pure r) := by with_unfolding_all rfl) : Ev prog w A env h (.Attribute value name pos) (D.bool n) := Ev.attr (d := .bool n) c x ok hd he
/-- the frame, told from an earlier heap -/
theorem Fm.base {K : Frag} {hb h₀ h : Heap} {env : Env} {μ : Names} (F : Fm K h₀ env μ h) (gd : Gd K hb) (g : Gr hb h₀) (hs : hb.objs.size ≤ h₀.objs.size) : Fm K hb env μ h :=
  ⟨F.cx, gd, F.ns, F.cells, F.apart, g.trans F.keep, Nat.le_trans hs F.fresh, F.cabove, F.fr⟩
theorem Sf.self {K : Frag} {h₀ h : Heap} {env : Env} {μ : Names} {C x dx : Addr} {fs : List (Str × FD)} {o : Expr} (S : Sf K h₀ env μ C x dx fs h) (ho : Ev prog w A env h o (D.val (.ref x))) : Ev prog w A env h o (D.inst C fs) := by
  intro h' g
  refine T.mono (ho h' g) fun v h'' p => ⟨p.1, ?_⟩
  obtain ⟨es, n, hd, hf⟩ := S.dict
  refine ⟨x, dx, es, n, p.2, p.1 _ _ (g _ _ S.inst), p.1 _ _ (g _ _ hd), ?_, hf⟩
  rw [S.fm.fr]
  intro q
  exact S.dL (Option.some.inj q).symm
theorem size_push2 (h : Heap) (a b : Obj) : ((h.push a).push b).objs.size = h.objs.size + 2 := by rw [Heap.size_push, Heap.size_push]

/-- an object beside a fresh frame -/
theorem Sf.start {K : Frag} {hb h₁ : Heap} {fd : FuncData} {f : Addr} {μ : Names} {C : Addr} (gd : Gd K hb) (F : Fm K ((hb.push emptyDict).push (instObj C hb.objs.size)) (fenv fd ((hb.push emptyDict).push (instObj C hb.objs.size)) f) μ h₁)
    (hfree : ∀ p ∈ μ, ∀ (f : Option Addr) (v : Value) (a b : Heap), p.2.at' f v a → p.2.at' f v b) (hc : (fenv fd ((hb.push emptyDict).push (instObj C hb.objs.size)) f).cells = []) :
    Sf K hb (fenv fd ((hb.push emptyDict).push (instObj C hb.objs.size)) f) μ C (hb.objs.size + 1) hb.objs.size [] h₁ := by
  have hz := size_push2 hb emptyDict (instObj C hb.objs.size)
  have hfr := F.fresh
  refine ⟨F.base gd ((Gr.push _ _).trans (Gr.push _ _)) (by omega), ?_, ⟨[], 0, ?_, .nil⟩, ?_, ?_, Nat.ne_of_lt (by omega), Nat.ne_of_lt (by omega), hfree, hc⟩
  · refine F.keep _ _ ?_
    heap_get
  · refine F.keep _ _ ?_
    show _ = some emptyDict
    heap_get
  · cases q : hb.get? (hb.objs.size + 1) with
    | none => rfl
    | some o => exact absurd (Heap.lt_size q) (by show ¬ hb.objs.size + 1 < hb.objs.size; omega)
  · cases q : hb.get? hb.objs.size with
    | none => rfl
    | some o => exact absurd (Heap.lt_size q) (by show ¬ hb.objs.size < hb.objs.size; omega)
theorem Sf.new {K : Frag} {h₀ h : Heap} {env : Env} {μ : Names} {C : Addr} {fs : List (Str × FD)} (S : Sf K h₀ env μ C (h₀.objs.size + 1) h₀.objs.size fs h) : NewInst C fs h₀ (.ref (h₀.objs.size + 1)) h := by
  obtain ⟨es, n, a, b⟩ := S.dict
  exact ⟨S.fm.keep, _, _, es, n, rfl, S.inst, a, b, Nat.le_refl _, Nat.le_succ _⟩
theorem room.making {n : Nat} {C : Addr} {vals : List Value} {kw : List (Str × Value)} (r : room (n + 1) A) : room n (A.under (.builtin "type.__call__" ⟨.ref C :: vals, kw⟩)) := by
  have e1 : (A.under (.builtin "type.__call__" ⟨.ref C :: vals, kw⟩)).depth = A.depth + 1 := rfl
  have e2 : (A.under (.builtin "type.__call__" ⟨.ref C :: vals, kw⟩)).units = A.units + 1 := rfl
  exact ⟨r.1, by rw [e1]; have := r.2.1; omega, by rw [e2]; have := r.2.2; omega⟩
theorem len6 : ∀ {vs : List Value}, vs.length = 6 → ∃ a b c d e f, vs = [a, b, c, d, e, f]
  | [a, b, c, d, e, f], _ => ⟨a, b, c, d, e, f, rfl⟩
def algFs (wd p i : Int) (ri ro : Bool) (x : Int) : List (Str × FD) := [("crc_width", .int wd), ("polynomial", .int p), ("initial_crc", .int i), ("reflect_input", .bool ri), ("reflect_output", .bool ro), ("xor_output", .int x)]
theorem ct_alg_init (r : room 5 A) {hb : Heap} (gd : Gd (KK w.params) hb) {fr : Option Addr} {vs : List Value} {wd p i x : Int} {ri ro : Bool}
    (hv : All2 (fun v d => d.at' fr v hb) vs [D.int wd, D.int p, D.int i, D.bool ri, D.bool ro, D.int x]) (h0 : 0 < wd) (h1 : wd ≤ 1000) (hp : 0 ≤ p ∧ p < 2 ^ wd.toNat) (hi : 0 ≤ i ∧ i < 2 ^ wd.toNat) (hx : 0 ≤ x ∧ x < 2 ^ wd.toNat) :
    Cd prog w A (.call (.ref 59) ⟨[.ref (hb.objs.size + 1)], (["crc_width", "polynomial", "initial_crc", "reflect_input", "reflect_output", "xor_output"] : List Str).zip vs⟩) ((hb.push emptyDict).push (instObj 77 hb.objs.size)) fun v h' => v = .none ∧ NewInst 77 (algFs wd p i ri ro x) hb (.ref (hb.objs.size + 1)) h' := by
  obtain ⟨v1, v2, v3, v4, v5, v6, rfl⟩ := len6 hv.length
  have hv' : All2 (fun v d => d.at' fr v ((hb.push emptyDict).push (instObj 77 hb.objs.size))) (.ref (hb.objs.size + 1) :: [v1, v2, v3, v4, v5, v6]) [D.val (.ref (hb.objs.size + 1)), D.int wd, D.int p, D.int i, D.bool ri, D.bool ro, D.int x] :=
    .cons rfl (hv.imp fun v d q => d.mono q ((Gr.push _ _).trans (Gr.push _ _)))
  have gd' := gd.mono ((Gr.push hb emptyDict).trans (Gr.push _ (instObj 77 hb.objs.size)))
  have rd := r.deeper
  intro s R e kk
  refine call_core (K := KK w.params) (ns := ["self", "crc_width", "polynomial", "initial_crc", "reflect_input", "reflect_output", "xor_output"]) (fr := fr) (Φ := fun v h' => v = .none ∧ NewInst 77 (algFs wd p i ri ro x) hb (.ref (hb.objs.size + 1)) h')
    (by have := r.2.1; omega) gd' (by rfl) (by rfl) (by kernel_rfl) (by rfl) (fun s hs => kp_binds (by rw [hs]; exact gd'.X) (fun S => by first | kernel_rfl | rfl)) (by rfl) (by rfl) (by rfl) rfl (by decide) hv' (by rfl) (fun h₁ g F => ?_) (by rfl) (by rfl) (by rfl) s R e fun v h' tk' p => kk v h' tk' p
  have S := Sf.start gd F (fun p hp => by
    simp only [List.zip_cons_cons, List.zip_nil_right, List.mem_cons, List.not_mem_nil, or_false] at hp
    rcases hp with rfl | rfl | rfl | rfl | rfl | rfl | rfl <;> exact fun _ _ _ _ q => q) (by rfl)
  refine Zs.cons (Sf.assign (d := .int wd) S (Ev.stat S.fm.cx (Ev.glob S.fm.cx (by rfl) (gOp _)) (sIndex _) (Evs.cons (Ev.name S.fm.cx (by rfl)) Evs.nil) fun vs h' g hv => (ct_index (rd _ |>.le (by omega)) ((S.mono g).fm.gd) hv).call) (Ev.name S.fm.cx (by rfl)) (so77_crc_width _) (Nat.le_of_ble_eq_true rfl)) fun h₂ S => ?_
  refine Zs.cons (Sf.assign (d := .int p) S (Ev.stat S.fm.cx (Ev.glob S.fm.cx (by rfl) (gOp _)) (sIndex _) (Evs.cons (Ev.name S.fm.cx (by rfl)) Evs.nil) fun vs h' g hv => (ct_index (rd _ |>.le (by omega)) ((S.mono g).fm.gd) hv).call) (Ev.name S.fm.cx (by rfl)) (so77_polynomial _) (Nat.le_of_ble_eq_true rfl)) fun h₂ S => ?_
  refine Zs.cons (Sf.assign (d := .int i) S (Ev.stat S.fm.cx (Ev.glob S.fm.cx (by rfl) (gOp _)) (sIndex _) (Evs.cons (Ev.name S.fm.cx (by rfl)) Evs.nil) fun vs h' g hv => (ct_index (rd _ |>.le (by omega)) ((S.mono g).fm.gd) hv).call) (Ev.name S.fm.cx (by rfl)) (so77_initial_crc _) (Nat.le_of_ble_eq_true rfl)) fun h₂ S => ?_
  refine Zs.cons (Sf.assign (d := .bool ri) S (Ev.toBool S.fm.cx (kb _) (Ev.name S.fm.cx (by rfl))) (Ev.name S.fm.cx (by rfl)) (so77_reflect_input _) (Nat.le_of_ble_eq_true rfl)) fun h₂ S => ?_
  refine Zs.cons (Sf.assign (d := .bool ro) S (Ev.toBool S.fm.cx (kb _) (Ev.name S.fm.cx (by rfl))) (Ev.name S.fm.cx (by rfl)) (so77_reflect_output _) (Nat.le_of_ble_eq_true rfl)) fun h₂ S => ?_
  refine Zs.cons (Sf.assign (d := .int x) S (Ev.stat S.fm.cx (Ev.glob S.fm.cx (by rfl) (gOp _)) (sIndex _) (Evs.cons (Ev.name S.fm.cx (by rfl)) Evs.nil) fun vs h' g hv => (ct_index (rd _ |>.le (by omega)) ((S.mono g).fm.gd) hv).call) (Ev.name S.fm.cx (by rfl)) (so77_xor_output _) (Nat.le_of_ble_eq_true rfl)) fun h₂ S => ?_
  refine Zs.cons (Sf.skip S (Ts.not (Ts.gt (Ev.attri S.fm.cx (S.self (Ev.name S.fm.cx (by rfl))) (fo77_crc_width _) (by rfl)) Ev.lit)) (by simpa using h0)) fun h₂ S => ?_
  refine Zs.cons (Sf.skip S (Ts.inRange (Ev.attri S.fm.cx (S.self (Ev.name S.fm.cx (by rfl))) (fo77_polynomial _) (by rfl)) (Ev.range1 (Ev.bRange S.fm.cx (kb _)) (Ev.pow Ev.lit (Ev.attri S.fm.cx (S.self (Ev.name S.fm.cx (by rfl))) (fo77_crc_width _) (by rfl)) (by omega) (by omega) (by decide))) hp.1 hp.2) rfl) fun h₂ S => ?_
  refine Zs.cons (Sf.skip S (Ts.inRange (Ev.attri S.fm.cx (S.self (Ev.name S.fm.cx (by rfl))) (fo77_initial_crc _) (by rfl)) (Ev.range1 (Ev.bRange S.fm.cx (kb _)) (Ev.pow Ev.lit (Ev.attri S.fm.cx (S.self (Ev.name S.fm.cx (by rfl))) (fo77_crc_width _) (by rfl)) (by omega) (by omega) (by decide))) hi.1 hi.2) rfl) fun h₂ S => ?_
  refine Zs.cons (Sf.skip S (Ts.inRange (Ev.attri S.fm.cx (S.self (Ev.name S.fm.cx (by rfl))) (fo77_xor_output _) (by rfl)) (Ev.range1 (Ev.bRange S.fm.cx (kb _)) (Ev.pow Ev.lit (Ev.attri S.fm.cx (S.self (Ev.name S.fm.cx (by rfl))) (fo77_crc_width _) (by rfl)) (by omega) (by omega) (by decide))) hx.1 hx.2) rfl) fun h₂ S => ?_
  exact Zs.nil ⟨rfl, S.new⟩
end Mine
end Fn2x
section Fn3x
open PySem PySem.W PyProof.Rows PySem.Calls
namespace Mine
variable {prog : Program} {w : World} {A : Around} {env : Env} {μ : Names} {h h₀ : Heap}

structure AlgOk (wd p i x : Int) : Prop where
  h0 : 0 < wd
  h1 : wd ≤ 1000
  hp : 0 ≤ p ∧ p < 2 ^ wd.toNat
  hi : 0 ≤ i ∧ i < 2 ^ wd.toNat
  hx : 0 ≤ x ∧ x < 2 ^ wd.toNat
theorem ct_alg_new (r : room 6 A) (gd : Gd (KK w.params) h) {fr : Option Addr} {vs : List Value} {wd p i x : Int} {ri ro : Bool}
    (hv : All2 (fun v d => d.at' fr v h) vs [D.int wd, D.int p, D.int i, D.bool ri, D.bool ro, D.int x]) (ok : AlgOk wd p i x) :
    Cd prog w A (.call (.ref 77) ⟨[], (["crc_width", "polynomial", "initial_crc", "reflect_input", "reflect_output", "xor_output"] : List Str).zip vs⟩) h fun v h' => NewInst 77 (algFs wd p i ri ro x) h v h' :=
  Cd.make gd.X (by kernel_rfl) (by kernel_rfl) (by kernel_rfl) (ct_alg_init r.making gd hv ok.h0 ok.h1 ok.hp ok.hi ok.hx)

/-- an object that is none of an earlier heap's -/
def D.instN (hb : Heap) (C : Addr) (fs : List (Str × FD)) : D where
  at' f v h := ∃ x dx es n, v = .ref x ∧ h.get? x = some (instObj C dx) ∧ h.get? dx = some (dictOf es n) ∧ f ≠ some dx ∧ Fs es fs ∧ hb.get? dx = none ∧ hb.get? x = none
  mono := fun ⟨x, dx, es, n, e, a, b, c, d⟩ g => ⟨x, dx, es, n, e, g _ _ a, g _ _ b, c, d⟩
  stay := by
    rintro L v h h' m ⟨x, dx, es, n, e, a, b, c, d, f⟩ hn g
    obtain ⟨x', dx', es', n', e', a', b', c', d'⟩ := (D.inst C fs).stay ⟨x, dx, es, n, e, a, b, c, d⟩ hn g
    refine ⟨x, dx, es, n, e, ?_, ?_, c, d, f⟩
    · obtain ⟨oL, esL, epL, hL, hdL, _⟩ := hn
      exact g _ _ a (.inr ⟨fun v q => (by cases q), fun q => (by rcases q with q | q | q <;> cases q), fun q => by rw [q, hL] at a; cases a; cases hdL⟩)
    · exact g _ _ b (.inr ⟨fun v q => (by cases q), notIter (n := "dict") rfl, fun q => c (by rw [q])⟩)
  enter := fun ⟨x, dx, es, n, e, a, b, c, d⟩ g => ⟨x, dx, es, n, e, a, b, fun q => by
    cases q
    exact Nat.lt_irrefl _ (Nat.lt_of_lt_of_le (Heap.lt_size b) g), d⟩
theorem D.instN.plain {hb : Heap} {C : Addr} {fs : List (Str × FD)} {f : Option Addr} {v : Value} {h : Heap} (x : (D.instN hb C fs).at' f v h) : (D.inst C fs).at' f v h := let ⟨x, dx, es, n, e, a, b, c, d, _⟩ := x; ⟨x, dx, es, n, e, a, b, c, d⟩
theorem D.instN.any {hb : Heap} {C : Addr} {fs : List (Str × FD)} {f fr : Option Addr} {v : Value} {h : Heap} (x : (D.instN hb C fs).at' f v h) (l : ∀ L, fr = some L → ∃ o, hb.get? L = some o) : (D.instN hb C fs).at' fr v h := by
  obtain ⟨x, dx, es, n, e, a, b, c, d, f, f'⟩ := x
  refine ⟨x, dx, es, n, e, a, b, fun q => ?_, d, f, f'⟩
  obtain ⟨o, ho⟩ := l dx q
  rw [f] at ho; cases ho
theorem NewInst.fresh {C : Addr} {fs : List (Str × FD)} {hb h : Heap} {v : Value} {h' : Heap} {fr : Option Addr} (x₀ : NewInst C fs h v h') (g : Gr hb h) (l : ∀ L, fr = some L → ∃ o, h.get? L = some o) : (D.instN hb C fs).at' fr v h' := by
  obtain ⟨x, dx, es, n, rfl, a, b, c, d⟩ := x₀.at l
  obtain ⟨g', x', dx', es', n', e, a', b', f, s1, s2⟩ := id x₀
  cases e
  have hdx : dx = dx' := by rw [a] at a'; injection a' with a'; injection a' with _ a' _ _; exact Option.some.inj a'
  subst hdx
  refine ⟨_, dx, es, n, rfl, a, b, c, d, ?_, ?_⟩
  · cases q : hb.get? dx with
    | none => rfl
    | some o => exact absurd (Heap.lt_size (g _ _ q)) (Nat.not_lt.mpr s1)
  · cases q : hb.get? x with
    | none => rfl
    | some o => exact absurd (Heap.lt_size (g _ _ q)) (Nat.not_lt.mpr s2)
end Mine
end Fn3x
section Fn4x
open PySem PySem.W PyProof.Rows PySem.Calls
namespace Mine
variable {prog : Program} {w : World} {A : Around} {env : Env} {μ : Names} {h h₀ : Heap}

theorem Sf.other {K : Frag} {h₀ h : Heap} {env : Env} {μ : Names} {C C' x dx : Addr} {fs fs' : List (Str × FD)} {o : Expr} {v : Value} {fr : Option Addr} (S : Sf K h₀ env μ C x dx fs h) (ha : (D.inst C' fs').at' fr v h₀) (ho : Ev prog w A env h o (D.val v)) : Ev prog w A env h o (D.inst C' fs') := by
  intro h' g
  refine T.mono (ho h' g) fun u h'' p => ⟨p.1, ?_⟩
  obtain ⟨xa, dxa, es, n, e, a, b, c, d⟩ := ha
  have q : u = v := p.2
  have k : Gr h₀ h'' := S.fm.keep.trans (g.trans p.1)
  refine ⟨xa, dxa, es, n, q.trans e, k _ _ a, k _ _ b, ?_, d⟩
  rw [S.fm.fr]
  intro q
  have := Option.some.inj q
  have l := Heap.lt_size b
  have f := S.fm.fresh
  rw [this] at f
  exact Nat.lt_irrefl _ (Nat.lt_of_lt_of_le l f)

def parFs (wd p i : Int) (ri ro : Bool) (x n : Int) : List (Str × FD) := [("_crc_width", .int wd), ("_polynomial", .int p), ("_initial_crc", .int i), ("_reflect_input", .bool ri), ("_reflect_output", .bool ro), ("_xor_output", .int x), ("data_width", .int n)]
theorem ct_par_init (r : room 5 A) {hb : Heap} (gd : Gd (KK w.params) hb) {fr : Option Addr} {va v2 : Value} {wd p i x n : Int} {ri ro : Bool}
    (ha : (D.inst 77 (algFs wd p i ri ro x)).at' fr va hb) (hn2 : (D.int n).at' fr v2 hb) (hn : 0 < n) :
    Cd prog w A (.call (.ref 96) ⟨[.ref (hb.objs.size + 1), va, v2], []⟩) ((hb.push emptyDict).push (instObj 145 hb.objs.size)) fun v h' => v = .none ∧ NewInst 145 (parFs wd p i ri ro x n) hb (.ref (hb.objs.size + 1)) h' := by
  have hv' : All2 (fun v d => d.at' fr v ((hb.push emptyDict).push (instObj 145 hb.objs.size))) [.ref (hb.objs.size + 1), va, v2] [D.val (.ref (hb.objs.size + 1)), D.val va, D.int n] :=
    .cons rfl (.cons rfl (.cons hn2 .nil))
  have gd' := gd.mono ((Gr.push hb emptyDict).trans (Gr.push _ (instObj 145 hb.objs.size)))
  have rd := r.deeper
  intro s R e kk
  refine call_core (K := KK w.params) (ns := ["self", "algorithm", "data_width"]) (fr := fr) (Φ := fun v h' => v = .none ∧ NewInst 145 (parFs wd p i ri ro x n) hb (.ref (hb.objs.size + 1)) h')
    (by have := r.2.1; omega) gd' (by rfl) (by rfl) (by kernel_rfl) (by rfl) (fun s hs => kp_binds (by rw [hs]; exact gd'.X) (fun S => by first | kernel_rfl | rfl)) (by rfl) (by rfl) (by rfl) rfl (by decide) hv' (by rfl) (fun h₁ g F => ?_) (by rfl) (by rfl) (by rfl) s R e fun v h' tk' p => kk v h' tk' p
  have S := Sf.start gd F (fun p hp => by
    simp only [List.zip_cons_cons, List.zip_nil_right, List.mem_cons, List.not_mem_nil, or_false] at hp
    rcases hp with rfl | rfl | rfl <;> exact fun _ _ _ _ q => q) (by rfl)
  refine Zs.cons (Sf.assign (d := .int wd) S (Ev.attri S.fm.cx (S.other ha (Ev.name S.fm.cx (by rfl))) (fo77_crc_width _) (by rfl)) (Ev.name S.fm.cx (by rfl)) (so145_crc_width _) (Nat.le_of_ble_eq_true rfl)) fun h₂ S => ?_
  refine Zs.cons (Sf.assign (d := .int p) S (Ev.attri S.fm.cx (S.other ha (Ev.name S.fm.cx (by rfl))) (fo77_polynomial _) (by rfl)) (Ev.name S.fm.cx (by rfl)) (so145_polynomial _) (Nat.le_of_ble_eq_true rfl)) fun h₂ S => ?_
  refine Zs.cons (Sf.assign (d := .int i) S (Ev.attri S.fm.cx (S.other ha (Ev.name S.fm.cx (by rfl))) (fo77_initial_crc _) (by rfl)) (Ev.name S.fm.cx (by rfl)) (so145_initial_crc _) (Nat.le_of_ble_eq_true rfl)) fun h₂ S => ?_
  refine Zs.cons (Sf.assign (d := .bool ri) S (Ev.attrb S.fm.cx (S.other ha (Ev.name S.fm.cx (by rfl))) (fo77_reflect_input _) (by rfl)) (Ev.name S.fm.cx (by rfl)) (so145_reflect_input _) (Nat.le_of_ble_eq_true rfl)) fun h₂ S => ?_
  refine Zs.cons (Sf.assign (d := .bool ro) S (Ev.attrb S.fm.cx (S.other ha (Ev.name S.fm.cx (by rfl))) (fo77_reflect_output _) (by rfl)) (Ev.name S.fm.cx (by rfl)) (so145_reflect_output _) (Nat.le_of_ble_eq_true rfl)) fun h₂ S => ?_
  refine Zs.cons (Sf.assign (d := .int x) S (Ev.attri S.fm.cx (S.other ha (Ev.name S.fm.cx (by rfl))) (fo77_xor_output _) (by rfl)) (Ev.name S.fm.cx (by rfl)) (so145_xor_output _) (Nat.le_of_ble_eq_true rfl)) fun h₂ S => ?_
  refine Zs.cons (Sf.assign (d := .int n) S (Ev.stat S.fm.cx (Ev.glob S.fm.cx (by rfl) (gOp _)) (sIndex _) (Evs.cons (Ev.name S.fm.cx (by rfl)) Evs.nil) fun vs h' g hv => (ct_index (rd _ |>.le (by omega)) ((S.mono g).fm.gd) hv).call) (Ev.name S.fm.cx (by rfl)) (so145_data_width _) (Nat.le_of_ble_eq_true rfl)) fun h₂ S => ?_
  refine Zs.cons (Sf.skip S (Ts.not (Ts.gt (Ev.attri S.fm.cx (S.self (Ev.name S.fm.cx (by rfl))) (fo145_data_width _) (by rfl)) Ev.lit)) (by simpa using hn)) fun h₂ S => ?_
  exact Zs.nil ⟨rfl, S.new⟩

theorem ct_par_new (r : room 6 A) (gd : Gd (KK w.params) h) {fr : Option Addr} {vs : List Value} {wd p i x n : Int} {ri ro : Bool}
    (hv : All2 (fun v d => d.at' fr v h) vs [D.inst 77 (algFs wd p i ri ro x), D.int n]) (hn : 0 < n) :
    Cd prog w A (.call (.ref 145) ⟨vs, []⟩) h fun v h' => NewInst 145 (parFs wd p i ri ro x n) h v h' := by
  obtain ⟨a, b, rfl, h1, h2⟩ := hv.two
  exact Cd.make gd.X (by kernel_rfl) (by kernel_rfl) (by kernel_rfl) (ct_par_init r.making gd h1 h2 hn)

/-- algorithm(n) -/
theorem ct_acall (r : room 8 A) (gd : Gd (KK w.params) h) {fr : Option Addr} {vs : List Value} {wd p i x n : Int} {ri ro : Bool}
    (hv : All2 (fun v d => d.at' fr v h) vs [D.inst 77 (algFs wd p i ri ro x), D.int n]) (hn : 0 < n) (l : ∀ L, fr = some L → ∃ o, h.get? L = some o) :
    Cd prog w A (.call (.ref 67) ⟨vs, []⟩) h fun v h' => Gr h h' ∧ (D.instN h 145 (parFs wd p i ri ro x n)).at' fr v h' := by
  obtain ⟨a, b, rfl, h1, h2⟩ := hv.two
  have rd := r.deeper
  intro s R e kk
  refine call_own (K := KK w.params) (ns := ["self", "data_width"]) (fr := fr) (Φ := fun v h' => (D.instN h 145 (parFs wd p i ri ro x n)).at' fr v h') (by have := r.2.1; omega) gd (by rfl) (by rfl) (by kernel_rfl) (by rfl) (fun s hs => kp_binds (by rw [hs]; exact gd.X) (fun S => by first | kernel_rfl | rfl)) (by rfl) (by rfl) (by rfl) rfl (by decide) hv (by rfl) (fun h₁ g F => ?_) (by rfl) (by rfl) (by rfl) s R e fun v h' tk' g p => kk v h' tk' ⟨g, p⟩
  have c := F.cx
  refine Xs.mono (Xs.ret (d := D.instN h 145 (parFs wd p i ri ro x n)) (Ev.callk c (Ev.glob c (by rfl) (gPar _)) (by kernel_rfl) (Evs.cons (Ev.name c (by rfl)) (Evs.cons (Ev.name c (by rfl)) Evs.nil)) fun vs h' g' hv => ?_)) ?_
  · exact (Cd.mono (ct_par_new (rd _ |>.le (by omega)) ((c.mono g').gd) hv hn) fun v h'' p => ⟨p.1, p.fresh (g.trans g') (c.mono g').live⟩).call
  · rintro fl h' ⟨v, rfl, x⟩ _
    exact D.instN.any x l
end Mine
end Fn4x
section Refl1x
open PySem PySem.W PyProof.Rows PySem.Calls
namespace Mine
variable {prog : Program} {w : World} {A : Around} {E : Value → Shared → Prop} {s : Shared}

/-! ## the text of f'{x:0{n}b}' -/
/-- the lowest n bits, highest first -/
def bitsHi (n x : Nat) : List Bool := (List.range n).map fun k => x.testBit (n - 1 - k)
def bitCh (b : Bool) : Nat := if b then 49 else 48
def binText (n x : Nat) : Str := ⟨((bitsHi n x).map bitCh).toArray⟩
def specOf (n : Nat) : Str := ("0" : Str) ++ Str.ofString (toString (n : Int)) ++ ("b" : Str)

theorem bitsHi_succ (n x : Nat) : bitsHi (n + 1) x = bitsHi n (x / 2) ++ [x.testBit 0] := by
  unfold bitsHi
  rw [List.range_succ, List.map_append]
  congr 1
  · refine List.map_congr_left fun k hk => ?_
    have := List.mem_range.mp hk
    rw [show n + 1 - 1 - k = (n - 1 - k) + 1 by omega, Nat.testBit_succ]
  · simp
theorem digitChar_two : ∀ d : Nat, d < 2 → (Nat.digitChar d).toNat = bitCh (d.testBit 0) := by decide
theorem digs_two : ∀ (n x : Nat), x < 2 ^ (n + 1) → List.replicate (n + 1 - (Nat.toDigits 2 x).length) 48 ++ (Nat.toDigits 2 x).map Char.toNat = (bitsHi (n + 1) x).map bitCh
  | 0, x, h => by
    have hx : x < 2 := by simpa using h
    rw [Nat.toDigits_of_lt_base hx]
    simp [bitsHi, digitChar_two x hx]
  | n + 1, x, h => by
    rw [bitsHi_succ, List.map_append]
    have hq : x / 2 < 2 ^ (n + 1) := by rw [Nat.pow_succ] at h; omega
    by_cases hx : x < 2
    · rw [Nat.toDigits_of_lt_base hx]
      have : x / 2 = 0 := by omega
      rw [this, List.map_cons, List.map_nil, List.map_cons, List.map_nil, digitChar_two x hx]
      congr 1
      have := digs_two n 0 (Nat.two_pow_pos _)
      rw [← this, Nat.toDigits_of_lt_base (by decide)]
      show List.replicate (n + 2 - 1) 48 = List.replicate (n + 1 - 1) 48 ++ [48]
      rw [← List.replicate_succ']
      rfl
    · have e : x = 2 * (x / 2) + x % 2 := by omega
      have hd : Nat.toDigits 2 x = Nat.toDigits 2 (x / 2) ++ Nat.toDigits 2 (x % 2) := by
        conv => lhs; rw [e]
        exact (Nat.toDigits_append_toDigits (by decide) (by omega) (by omega)).symm
      rw [hd, Nat.toDigits_of_lt_base (show x % 2 < 2 by omega), List.length_append, List.map_append, ← List.append_assoc]
      rw [show n + 1 + 1 - ((Nat.toDigits 2 (x / 2)).length + [(x % 2).digitChar].length) = n + 1 - (Nat.toDigits 2 (x / 2)).length by simp]
      rw [digs_two n (x / 2) hq]
      congr 1
      rw [List.map_cons, List.map_nil, digitChar_two _ (by omega)]
      simp [Nat.testBit_zero]

open Builtin Float in
def specGood (n : Nat) : Bool := match parseFormatSpec (specOf n).cps.toList "int" 62 with
  | .ok f => f.fill == 48 && f.align == 61 && f.width == some n && f.type == some 98 && f.sign.isNone && !f.noNeg0 && !f.alt && f.grouping.isNone && f.precision.isNone
  | .error _ => false
def specLook (n : Nat) : Bool := !((specOf n).length == 0) && !(((specOf n).cps.toList.drop 1).any (· ≥ 128) || ((specOf n).cps.getD 0 0 ≥ 128 && !([60, 62, 61, 94] : List Nat).contains ((specOf n).cps.getD 1 0))) && decide ((specOf n).length ≤ 10)
theorem specGood_all : ((List.range 41).all fun n => n == 0 || (specGood n && specLook n)) = true := by decide +kernel

theorem retStr_eq {M : Model} {t y : Str} {Q : Fin → Shared → Prop} (e : t = y) (h : wpAny M A (retStr y) Q E s) : wpAny M A (retStr t) Q E s := by rw [e]; exact h
theorem hmap {x : Nat} : ((Nat.toDigits 2 x).map fun c => (if ((98 : Nat) == 88) = true then c.toUpper else c).toNat) = (Nat.toDigits 2 x).map Char.toNat := rfl
theorem digs_len {n x : Nat} (hn : 1 ≤ n) (hx : x < 2 ^ n) : (Nat.toDigits 2 x).length ≤ n := by
  obtain ⟨m, rfl⟩ : ∃ m, n = m + 1 := ⟨n - 1, by omega⟩
  have := congrArg List.length (digs_two m x hx)
  simp [bitsHi] at this
  omega
open Builtin Float in
theorem intField'_plain {f : FormatSpec} {n : Nat} {ds : List Nat} (hsg : f.sign = none) (hwidth : f.width = some n) (hfill : f.fill = 48) (halign : f.align = 61) (hgr : f.grouping = none) (hemp : ds.isEmpty = false) (hl : ds.length ≤ n) :
    intField' f false [] ds [] 4 = (⟨(List.replicate (n - ds.length) 48 ++ ds).toArray⟩ : Str) := by
  unfold intField'
  simp only [hsg, hwidth, hfill, halign, hgr, hemp, Bool.false_eq_true, if_false, List.length_nil]
  have e : (((n : Int) - (((0 : Nat) : Int) + ((0 : Nat) : Int) + ((0 : Nat) : Int))).toNat) = n := by omega
  simp
  have : (n : Int).toNat - ds.length + ds.length = n := by omega
  simp_all
  omega
open Builtin Float in
theorem format_bin {n x : Nat} {t : Tok} {Q : Value → Shared → Prop} (hn : 1 ≤ n) (hn' : n ≤ 40) (hx : x < 2 ^ n) (h : Q (.str (binText n x) (s.toks + 1)) { s with toks := s.toks + 1 + 1 }) :
    wpAny (model prog w) A (formatField (.int x t) (specOf n)) Q E s := by
  have hall := List.all_eq_true.mp specGood_all n (List.mem_range.mpr (by omega))
  rw [Bool.or_eq_true, Bool.and_eq_true] at hall
  have hn0 : (n == 0) = false := beq_eq_false_iff_ne.mpr (by omega)
  rw [hn0] at hall
  obtain ⟨hgood, hlook⟩ := hall.resolve_left (by decide)
  unfold specLook at hlook
  simp only [Bool.and_eq_true] at hlook
  obtain ⟨⟨hne, hasc⟩, hlen⟩ := hlook
  simp only [Bool.not_eq_true'] at hne hasc
  unfold specGood at hgood
  cases hp : parseFormatSpec (specOf n).cps.toList "int" 62 with
  | error m => rw [hp] at hgood; simp at hgood
  | ok f =>
  rw [hp] at hgood
  simp only [Bool.and_eq_true, beq_iff_eq, Bool.not_eq_true', Option.isNone_iff_eq_none] at hgood
  obtain ⟨⟨⟨⟨⟨⟨⟨⟨hfill, halign⟩, hwidth⟩, htype⟩, hsg⟩, hz⟩, hal⟩, hgr⟩, hpr⟩ := hgood
  have hlen := of_decide_eq_true hlen
  have key : (⟨(List.replicate (n - (Nat.toDigits 2 x).length) 48 ++ (Nat.toDigits 2 x).map Char.toNat).toArray⟩ : Str) = binText n x := by
    unfold binText
    congr 2
    obtain ⟨m, rfl⟩ : ∃ m, n = m + 1 := ⟨n - 1, by omega⟩
    exact digs_two m x hx
  generalize specOf n = spec at hp hne hasc hlen
  have e : formatField (.int (x : Int) t) spec = holding [.int x t] (pyFormat (.int x t) spec) := by
    unfold formatField
    simp only [hne, Bool.false_eq_true, if_false]
  rw [e]
  refine wpAny_holding ?_
  unfold pyFormat
  refine wpAny_bind (wpAny_mkStr ?_ (by rw [sizeLine_eq]; omega))
  refine wpAny_bind (m := callSpecial? (.int x t) (Str.ofString "__format__") [.str spec s.toks]) (wpAny_callSpecial?_slot (name := Str.ofString "__format__") (typeIs_int _ x t) slot_int_format ?_)
  refine wpAny_call (codeAny_call_builtin slot_int_format.plain entry_int_format (slot_int_format.check _ _ _ _ _ _ _ _ (typeIs_int _ x t) (args_int_format _ _) ?_))
  unfold Builtin.«int.__format__»
  simp only [selfAndOne, noKeywords, Int.intOfSelf, asInt?, asStr?, List.isEmpty_nil, if_true, pure_bind, bind_pure, bind_assoc, hne, hasc, Bool.false_eq_true, if_false,
    show (Value.str spec s.toks == Value.none) = false from rfl]
  refine wpAny_bind (wpAny_typeNameOf (T := "str") (typeIs_str _ _ _) (by decide) fun _ => ?_)
  first | refine wpAny_bind (wpAny_typeNameOfCut_int ?_) | refine wpAny_bind (wpAny_typeNameOf_int ?_)
  simp only [hp, htype, Option.getD_some]
  rw [if_pos (by decide)]
  show wpAny _ _ (if _ then _ else _) _ _ _
  rw [if_neg (by simp [hpr])]
  show wpAny _ _ (if _ then _ else _) _ _ _
  rw [if_neg (by simp [hz])]
  show wpAny _ _ (if _ then _ else _) _ _ _
  rw [if_neg (by decide)]
  show wpAny _ _ (if _ then _ else _) _ _ _
  rw [if_neg (by decide)]
  show wpAny _ _ (if _ then _ else _) _ _ _
  rw [if_neg (by simp [hwidth]; omega)]
  refine retStr_eq ?_ ?_ (y := binText n x)
  · have hlt : decide ((x : Int) < 0) = false := decide_eq_false (by omega)
    simp only [hal, hlt, Bool.false_eq_true, if_false, Int.natAbs_natCast, hmap]
    refine Eq.trans (b := intField' f false [] ((Nat.toDigits 2 x).map Char.toNat) [] 4) (by first | kernel_rfl | with_unfolding_all rfl) ?_
    rw [← key]
    have hge := tDigits_len_ge 2 x
    have hemp : ((Nat.toDigits 2 x).map Char.toNat).isEmpty = false := by
      cases h : Nat.toDigits 2 x with
      | nil => rw [h] at hge; simp at hge
      | cons a b => rfl
    have := intField'_plain hsg hwidth hfill halign hgr hemp (by rw [List.length_map]; exact digs_len hn hx)
    rwa [List.length_map] at this
  · unfold retStr
    refine wpAny_bind (wpAny_mkStr (wpAny_pure ?_) ?hs2)
    case hs2 =>
      show ((bitsHi n x).map bitCh).toArray.size ≤ _
      rw [sizeLine_eq]
      simp [bitsHi]
      omega
    dsimp only
    exact wpAny_bind (wpAny_isInstance (typeIs_str _ _ _) isSubtype_str_str (wpAny_pure h))
end Mine
end Refl1x
section Refl2x
open PySem PySem.W PyProof.Rows PySem.Calls
namespace Mine
open PySem.NumText
/-! ## int(text, 2) -/
def Bins (cs : List Nat) : Prop := ∀ c ∈ cs, c = 48 ∨ c = 49
theorem Bins.tail {c : Nat} {cs : List Nat} (h : Bins (c :: cs)) : Bins cs := fun d hd => h d (List.mem_cons_of_mem _ hd)
theorem Bins.head {c : Nat} {cs : List Nat} (h : Bins (c :: cs)) : c = 48 ∨ c = 49 := h c List.mem_cons_self
theorem Bins.all {cs : List Nat} (h : Bins cs) : AllDigits cs := fun c hc => by rcases h c hc with e | e <;> subst e <;> decide
theorem step_bin {ds : Array Nat} {b : Bool} {c : Nat} (h : c = 48 ∨ c = 49) : step 2 (ds, b) c = some (ds.push (c - 48), true) := by
  rcases h with e | e <;> subst e <;> rfl
theorem foldl_bins : ∀ (cs : List Nat) (ds : Array Nat), Bins cs → cs.foldlM (step 2) (ds, true) = some (cs.foldl (fun acc c => acc.push (c - 48)) ds, true)
  | [], _, _ => rfl
  | c :: cs, ds, h => by
    rw [List.foldlM_cons, step_bin h.head]
    show cs.foldlM (step 2) (ds.push (c - 48), true) = _
    exact foldl_bins cs (ds.push (c - 48)) h.tail
theorem digits_bin {cs : List Nat} (h : Bins cs) (hne : cs ≠ []) : digits? 2 cs = some (cs.foldl (fun acc c => acc.push (c - 48)) #[]) := by
  cases cs with
  | nil => exact absurd rfl hne
  | cons c cs =>
    unfold digits?
    rw [List.foldlM_cons, step_bin h.head]
    show (cs.foldlM (step 2) ((#[] : Array Nat).push (c - 48), true)).bind _ = _
    rw [foldl_bins cs _ h.tail]
    rfl
def binVal (cs : List Nat) : Nat := cs.foldl (fun acc c => acc * 2 + (c - 48)) 0
theorem push_fold2 : ∀ (cs : List Nat) (ds : Array Nat), (cs.foldl (fun acc c => acc.push (c - 48)) ds).foldl (fun acc d => acc * 2 + d) 0 = cs.foldl (fun acc c => acc * 2 + (c - 48)) (ds.foldl (fun acc d => acc * 2 + d) 0)
  | [], _ => rfl
  | c :: cs, ds => by
    rw [List.foldl_cons, push_fold2 cs (ds.push (c - 48)), List.foldl_cons]
    congr 1
    simp
theorem prefix_bin : ∀ {cs : List Nat}, Bins cs → prefix? cs = none
  | [], _ => rfl
  | [c], h => by rcases h.head with e | e <;> subst e <;> rfl
  | c :: d :: r, h => by rcases h.head with e | e <;> rcases h.tail.head with e' | e' <;> subst e <;> subst e' <;> rfl
theorem read_bin {cs : List Nat} (h : Bins cs) (hne : cs ≠ []) : (int_private% "readNumeral") 0 2 cs = (int_private% "Numeral.value") (binVal cs : Nat) := by
  refine (readNumeral_eq 0 2 cs).trans ?_
  rw [dropWhile_digits h.all]
  have es : sign cs = (false, cs) := by
    cases cs with
    | nil => rfl
    | cons c r => exact sign_of (by rcases h.head with e | e <;> omega) (by rcases h.head with e | e <;> omega)
  have eb : based 2 cs = (2, false, cs) := by unfold based; rw [prefix_bin h]; rfl
  rw [es, eb]
  dsimp only
  rw [dropWhile_digits h.all.reverse, List.reverse_reverse, digits_bin h hne]
  have hv := push_fold2 cs #[]
  unfold judge
  dsimp only
  rw [hv]
  rfl
theorem wp_bin {M : Model} {A : Around} {E : Value → Shared → Prop} {s : Shared} {Q : Value → Shared → Prop} {v : Value} {text : List Nat} {n : Int}
    (hs : (text.takeWhile (· != 0)).length ≤ 640) (hr : (int_private% "readNumeral") 0 2 (text.takeWhile (· != 0)) = (int_private% "Numeral.value") n)
    (ha : ((text.takeWhile (· != 0)).length == text.length) = true) (h : Q (.int n s.toks) { s with toks := s.toks + 1 }) :
    wpAny M A ((int_private% "intFromText") v text 2) Q E s := by
  obtain ⟨hp, g, d, tk, os⟩ := s
  repeat (any_goals (first
    | assumption
    | (with_reducible refine wpAny_ite_true (decide_eq_true hs) ?_)
    | (with_reducible refine wpAny_ite_true (decide_eq_true ha) ?_)
    | wp_step))
  all_goals (try rw [hr])
  all_goals (try dsimp only)
  repeat (any_goals (first
    | assumption
    | (with_reducible refine wpAny_ite_true (decide_eq_true hs) ?_)
    | (with_reducible refine wpAny_ite_true (decide_eq_true ha) ?_)
    | wp_step))
structure Hid (p : Prop) : Prop where
  out : p
set_option maxHeartbeats 4000000 in
theorem gives_bin {x : Str} {u v : Tok} (hl : x.length ≤ 640) (hb : Bins x.cps.toList) (hne : x.cps.toList ≠ []) : Gives (Builtin.«int.__new__» ⟨[.type "int", .str x u, .int 2 v], []⟩) (.int (binVal x.cps.toList : Nat)) :=
  .of_wp fun M A E s Q h => by
    obtain ⟨hp, g, d, tk, os⟩ := s
    have f1 := F.conv_sub_int
    have f2 := F.madeHere_int
    have hseen : x.cps.toList.takeWhile (· != 0) = x.cps.toList := takeWhile_all fun c hc => by rcases hb c hc with e | e <;> subst e <;> rfl
    have hk : Hid (x.cps.all (· < 128) = true) := ⟨by
      rw [← Array.all_toList, List.all_eq_true]
      intro c hc
      rcases hb c hc with e | e <;> subst e <;> rfl⟩
    have hs : (x.cps.toList.takeWhile (· != 0)).length ≤ 640 := by rw [hseen]; rw [Array.length_toList]; exact hl
    have hr : (int_private% "readNumeral") 0 2 (x.cps.toList.takeWhile (· != 0)) = (int_private% "Numeral.value") (binVal x.cps.toList : Nat) := by rw [hseen]; exact read_bin hb hne
    have ha : ((x.cps.toList.takeWhile (· != 0)).length == x.cps.toList.length) = true := by rw [hseen]; exact beq_self_eq_true _
    have hk2 := Hid.mk (And.intro hs (And.intro hr ha))
    clear hs hr hl hb hne hseen ha
    repeat (any_goals (first
      | assumption
      | ((with_reducible show wpAny _ _ ((int_private% "intFromText") _ _ _) _ _ _); rw [if_pos hk.out]; exact wp_bin hk2.out.1 hk2.out.2.1 hk2.out.2.2 (by first | assumption | exact wpAny_pure ⟨_, rfl, h⟩ | (repeat wp_step; all_goals first | assumption | exact ⟨_, rfl, h⟩)))
      | wp_step))
    all_goals first | exact ⟨_, rfl, h⟩ | skip
end Mine
end Refl2x
section Refl3x
open PySem PySem.W PyProof.Rows PySem.Calls
namespace Mine
variable {prog : Program} {w : World} {A : Around} {env : Env} {μ : Names} {h h₀ : Heap}

/-- what bits make, highest first -/
def val (bs : List Bool) : Nat := bs.foldl (fun a b => 2 * a + b.toNat) 0
/-- the lowest n bits, the other way round -/
def reflN (n x : Nat) : Nat := val ((List.range n).map fun k => x.testBit k)
theorem bitsHi_rev (n x : Nat) : (bitsHi n x).reverse = (List.range n).map fun k => x.testBit k := by
  refine List.ext_getElem (by simp [bitsHi]) fun i h1 h2 => ?_
  simp only [List.length_map, List.length_range] at h2
  simp [bitsHi, List.getElem_reverse]
  congr 1
  omega
theorem binVal_val : ∀ (bs : List Bool) (a : Nat), (bs.map bitCh).foldl (fun acc c => acc * 2 + (c - 48)) a = bs.foldl (fun a b => 2 * a + b.toNat) a
  | [], _ => rfl
  | b :: bs, a => by
    rw [List.map_cons, List.foldl_cons, List.foldl_cons, binVal_val bs]
    congr 1
    cases b <;> simp [bitCh] <;> omega
def revText (n x : Nat) : Str := ⟨((bitsHi n x).reverse.map bitCh).toArray⟩
theorem binVal_rev (n x : Nat) : binVal (revText n x).cps.toList = reflN n x := by
  unfold binVal revText reflN val
  rw [← bitsHi_rev, List.toList_toArray]
  exact binVal_val _ 0

theorem rev_idx : ((List.range 41).all fun n => Builtin.Str.strSliceIndices none none (-1) n == (List.range n).reverse) = true := by decide +kernel
theorem pick_take {α : Type} (l : List α) : ∀ n : Nat, ((List.range n).filterMap fun i => l[i]?) = l.take n
  | 0 => by simp
  | n + 1 => by
    rw [List.range_succ, List.filterMap_append, pick_take l n, List.take_succ]
    congr 1
theorem pick_rev {α : Type} (l : List α) : ((List.range l.length).reverse.filterMap fun i => l[i]?) = l.reverse := by
  rw [List.filterMap_reverse, pick_take, List.take_length]
theorem spec_len {n : Nat} (hn : 1 ≤ n) (hn' : n ≤ 40) : (specOf n).length ≤ 10 := by
  have hall := List.all_eq_true.mp specGood_all n (List.mem_range.mpr (by omega))
  rw [Bool.or_eq_true, Bool.and_eq_true, beq_iff_eq] at hall
  have := (hall.resolve_left (by omega)).2
  unfold specLook at this
  simp only [Bool.and_eq_true] at this
  exact of_decide_eq_true this.2

theorem Ev.neg {e : Expr} {pos : Pos} {a : Int} (x : Ev prog w A env h e (D.int a)) : Ev prog w A env h (.UnaryOp .USub e pos) (D.int (-a)) := by
  intro h' g s Q E q k
  subst q
  refine UnaryOp_ (x _ g s _ E rfl fun v h₁ t₁ p₁ => ?_)
  obtain ⟨g₁, t, rfl⟩ := p₁
  exact PyProof.Rows.neg_int (k _ h₁ _ ⟨g₁, _, rfl⟩)

theorem Ev.fbin {e₁ e₂ : Expr} {p q₁ q₂ q₃ q₄ q₅ : Pos} {n₁ n₂ : Nat} {x n : Nat} (y : Ev prog w A env h e₁ (D.int x)) (z : Ev prog w A env h e₂ (D.int n)) (hn : 1 ≤ n) (hn' : n ≤ 40) (hx : x < 2 ^ n)
    (hev : evalEach [.FormattedValue e₂ (-1) none q₂, .Constant (.str "b") n₂ q₃] env = [eval (.FormattedValue e₂ (-1) none q₂) env, eval (.Constant (.str "b") n₂ q₃) env] := by rfl) :
    Ev prog w A env h (.JoinedStr [.FormattedValue e₁ (-1) (some (.JoinedStr [.Constant (.str "0") n₁ q₁, .FormattedValue e₂ (-1) none q₂, .Constant (.str "b") n₂ q₃] q₄)) q₅] p) (D.str (binText n x)) := by
  intro h' g s Q E q k
  subst q
  refine JoinedStr_one (wpAny_FormattedValue_spec (y _ g s _ E rfl fun v h₁ t₁ p₁ => ?_))
  obtain ⟨g₁, t, rfl⟩ := p₁
  refine JoinedStr_many (joinParts_cons ?_)
  refine wpAny_Constant_str ⟨by decide +kernel, ?_⟩
  refine joinParts_cons (FormattedValue_plain (z _ (g.trans g₁) _ _ E rfl fun v h₂ t₂ p₂ => ?_))
  obtain ⟨g₂, t', rfl⟩ := p₂
  have hlog : ((n : Nat) : Int).natAbs.log2 < 1920 := by
    rw [Int.natAbs_natCast]
    exact Nat.lt_of_le_of_lt (Nat.log2_le_self n) (by omega)
  have hl := spec_len hn hn'
  have he : Str.empty ++ Str.ofString "0" ++ Str.ofString (toString (n : Int)) ++ Str.ofString "b" = specOf n := by
    unfold specOf
    rw [Str.empty_append]
  have hl' : (Str.empty ++ Str.ofString "0" ++ Str.ofString (toString (n : Int))).length ≤ 10 := by
    rw [← he, Str.length_append] at hl
    omega
  refine wpAny_formatField_int hlog ⟨by rw [sizeLine_eq]; omega, ?_⟩
  refine joinParts_cons ?_
  refine wpAny_Constant_str ⟨by rw [he, sizeLine_eq]; omega, ?_⟩
  rw [he]
  refine joinParts_nil ?_ (by rw [sizeLine_eq]; omega)
  exact ⟨_, _, rfl, format_bin hn hn' hx (k _ h₂ _ ⟨g₁.trans g₂, _, rfl⟩)⟩

theorem Ev.rev {e e₁ : Expr} {p pos : Pos} {x n : Nat} (y : Ev prog w A env h e (D.str (binText n x))) (z : Ev prog w A env h e₁ (D.int (-1))) (hn' : n ≤ 40) :
    Ev prog w A env h (.Subscript e (.Slice none none (some e₁) p) pos) (D.str (revText n x)) := by
  intro h' g s Q E q k
  subst q
  refine Subscript_ (y _ g s _ E rfl fun v h₁ t₁ p₁ => wpAny_Slice ?_)
  rw [evalPart_none]
  refine wpAny_pure (wpAny_pure ?_)
  rw [evalPart_some]
  refine z _ (g.trans p₁.1) { s with heap := h₁, toks := t₁ } _ E rfl fun u h₂ t₂ p₂ => ?_
  obtain ⟨g₁, t, rfl⟩ := p₁
  obtain ⟨g₂, t', rfl⟩ := p₂
  have hlen : (binText n x).length = n := by unfold binText Str.length; simp [bitsHi]
  refine tailAny (T := "str") (s := { s with heap := h₂.push { cls := .type "slice", data := .fields #[.none, .none, .int (-1) t'] }, toks := t₂ }) (typeIs_str _ _ _) F.slot_str_getitem.lookup
    (wpAny_getItem_str_slice (l := none) (u := none) (st := some (-1, t')) ⟨_, Heap.get?_push_size _ rfl, rfl, rfl⟩ rfl ?_) (ops := [.ref h₂.objs.size, .str (binText n x) t]) rfl
  have hp : slicePicked (binText n x) none none (some (-1, t')) = (List.range n).reverse := by
    unfold slicePicked
    rw [hlen]
    have := List.all_eq_true.mp rev_idx n (List.mem_range.mpr (by omega))
    exact beq_iff_eq.mp this
  have hm : sliceMade (binText n x) t none none (some (-1, t')) = .str (revText n x) := by
    unfold sliceMade
    rw [if_neg (by simp), hp]
    congr 1
    unfold revText
    congr 2
    have hsz : (binText n x).cps.toList.length = n := by rw [Array.length_toList]; exact hlen
    have := pick_rev (binText n x).cps.toList
    rw [hsz] at this
    simp only [Array.getElem?_toList] at this
    rw [this]
    unfold binText
    rw [List.toList_toArray, List.map_reverse]
  rw [hm]
  refine ⟨?_, k _ _ _ ⟨g₁.trans (g₂.trans (Gr.push _ _)), _, rfl⟩⟩
  show ((bitsHi n x).reverse.map bitCh).toArray.size ≤ _
  rw [sizeLine_eq]
  simp [bitsHi]
  omega
namespace FF
theorem typeCall_int_2 (a b : Value) : checkTypeCall "int" ⟨[a, b], []⟩ = pure () := by kernel_rfl
theorem newCall_int_2 (a b : Value) : checkBuiltinCall "int.__new__" ⟨[.type "int", a, b], []⟩ = pure () := by kernel_rfl
end FF
theorem Ev.int2 {e e₁ : Expr} {p pos : Pos} {x n : Nat} (f : Ev prog w A env h (.Name "int" p) (D.val (.type "int"))) (y : Ev prog w A env h e (D.str (revText n x))) (z : Ev prog w A env h e₁ (D.int 2)) (hn : 1 ≤ n) (hn' : n ≤ 40)
    (hs : starEach [e, e₁] env = (false, eval e env) :: starEach [e₁] env := by rfl) (hs' : starEach [e₁] env = (false, eval e₁ env) :: starEach [] env := by rfl) (hplain : (backTo pos (starEach [e₁] env)).any (·.1) = false := by rfl) :
    Ev prog w A env h (.Call (.Name "int" p) [e, e₁] [] pos) (D.int (reflN n x : Nat)) := by
  refine Ev.callt f (Evs.cons y (Evs.cons z Evs.nil hs') hs) (fun vs h' g hv => ?_) rfl hs hplain
  obtain ⟨v, v', rfl, ⟨t, rfl⟩, ⟨t', rfl⟩⟩ := hv.two
  intro s Q E q k
  subst q
  have hlen : (revText n x).cps.toList.length = n := by unfold revText; simp [bitsHi]
  refine callType_new F.called_int F.newNe_int (FF.typeCall_int_2 _ _) (FF.newCall_int_2 _ _) (fun obj => F.args_object_init_3 obj _ _) F.entry_int_new (gives_bin (by show (revText n x).cps.size ≤ _; rw [Array.length_toList] at hlen; omega) ?_ ?_).meets ⟨rfl, ?_⟩
  · intro c hc
    unfold revText at hc
    simp only [List.toList_toArray, List.mem_map] at hc
    obtain ⟨b, _, rfl⟩ := hc
    cases b
    · exact .inl rfl
    · exact .inr rfl
  · intro e
    rw [e] at hlen
    simp at hlen
    omega
  · rw [binVal_rev]
    exact k _ _ _ ⟨Gr.refl _, _, rfl⟩

theorem ct_reflect (r : room 2 A) (gd : Gd (KK w.params) h) {fr : Option Addr} {vs : List Value} {x n : Nat} (hv : All2 (fun v d => d.at' fr v h) vs [D.int x, D.int n]) (hn : 1 ≤ n) (hn' : n ≤ 40) (hx : x < 2 ^ n) :
    Cd prog w A (.call (.ref 125) ⟨vs, []⟩) h fun v h' => Gr h h' ∧ ∃ t, v = .int (reflN n x : Nat) t := by
  obtain ⟨a, b, rfl, h1, h2⟩ := hv.two
  have rd := r.deeper
  intro s R e kk
  refine call_own (K := KK w.params) (ns := ["word", "n"]) (fr := fr) (Φ := fun v _ => ∃ t, v = .int (reflN n x : Nat) t) (by have := r.2.1; omega) gd (by rfl) (by rfl) (by kernel_rfl) (by rfl) (fun s _ => BindsTo.of_eq (by rfl)) (by rfl) (by rfl) (by rfl) rfl (by decide) hv (by rfl) (fun h₁ g F => ?_) (by rfl) (by rfl) (by rfl) s R e fun v h' tk' g p => kk v h' tk' ⟨g, p⟩
  have c := F.cx
  refine Xs.mono (Xs.ret (Ev.int2 (Ev.bInt c (kb _)) (Ev.rev (Ev.fbin (Ev.name c (by rfl)) (Ev.name c (by rfl)) hn hn' hx) (Ev.neg Ev.lit) hn') Ev.lit hn hn')) ?_
  rintro fl h' ⟨v, rfl, x⟩ _
  exact x
end Mine
end Refl3x
section Crc1x
namespace Mine.Crc

/-! the register, bit by bit -/
def step (w p s : Nat) (b : Bool) : Nat := ((2 * s) % 2 ^ w) ^^^ (if xor (s.testBit (w - 1)) b then p else 0)
def run (w p s : Nat) (bs : List Bool) : Nat := bs.foldl (step w p) s

theorem step_lt {w p s : Nat} {b : Bool} (hp : p < 2 ^ w) : step w p s b < 2 ^ w := by
  unfold step
  refine Nat.xor_lt_two_pow (Nat.mod_lt _ (Nat.two_pow_pos w)) ?_
  split
  · exact hp
  · exact Nat.two_pow_pos w
theorem run_lt {w p : Nat} (hp : p < 2 ^ w) : ∀ (bs : List Bool) {s : Nat}, s < 2 ^ w → run w p s bs < 2 ^ w
  | [], _, h => h
  | b :: bs, s, _ => run_lt hp bs (s := step w p s b) (step_lt hp)

theorem two_mul_xor (a b : Nat) : 2 * (a ^^^ b) = 2 * a ^^^ 2 * b := by
  have := Nat.shiftLeft_xor_distrib (a := a) (b := b) (i := 1)
  simpa [Nat.shiftLeft_eq, Nat.mul_comm] using this
theorem xlc (a b c : Nat) : a ^^^ (b ^^^ c) = b ^^^ (a ^^^ c) := by rw [← Nat.xor_assoc, Nat.xor_comm a b, Nat.xor_assoc]
theorem xxc (a b : Nat) : a ^^^ (a ^^^ b) = b := by rw [← Nat.xor_assoc, Nat.xor_self, Nat.zero_xor]
theorem step_xor (w p s s' : Nat) (b b' : Bool) : step w p (s ^^^ s') (xor b b') = step w p s b ^^^ step w p s' b' := by
  unfold step
  rw [two_mul_xor, Nat.xor_mod_two_pow, Nat.testBit_xor]
  generalize (2 * s) % 2 ^ w = x
  generalize (2 * s') % 2 ^ w = y
  generalize s.testBit (w - 1) = t
  generalize s'.testBit (w - 1) = t'
  cases t <;> cases t' <;> cases b <;> cases b' <;> simp [Nat.xor_assoc, Nat.xor_comm, xlc, xxc]
theorem run_xor (w p : Nat) : ∀ (bs bs' : List Bool) (s s' : Nat), bs.length = bs'.length → run w p (s ^^^ s') (List.zipWith xor bs bs') = run w p s bs ^^^ run w p s' bs'
  | [], [], _, _, _ => rfl
  | [], _ :: _, _, _, h => by simp at h
  | _ :: _, [], _, _, h => by simp at h
  | b :: bs, b' :: bs', s, s', h => by
    show run w p (step w p (s ^^^ s') (xor b b')) (List.zipWith xor bs bs') = _
    rw [step_xor]
    exact run_xor w p bs bs' _ _ (by simpa using h)
theorem run_append (w p s : Nat) (a b : List Bool) : run w p s (a ++ b) = run w p (run w p s a) b := List.foldl_append ..

/-- the errors alone decide -/
theorem run_err {w p s : Nat} {bs e : List Bool} (h : bs.length = e.length) : run w p s (List.zipWith xor bs e) = run w p s bs ↔ run w p 0 e = 0 := by
  have := run_xor w p bs e s 0 h
  rw [Nat.xor_zero] at this
  rw [this]
  constructor
  · intro h
    have : run w p s bs ^^^ (run w p s bs ^^^ run w p 0 e) = run w p s bs ^^^ run w p s bs := by rw [h]
    rwa [← Nat.xor_assoc, Nat.xor_self, Nat.zero_xor] at this
  · intro h; rw [h, Nat.xor_zero]

/-! zeros -/
theorem step_zero (w p : Nat) : step w p 0 false = 0 := by simp [step]
theorem step_one (w p : Nat) : step w p 0 true = p := by simp [step]
theorem run_zeros0 (w p : Nat) : ∀ n, run w p 0 (List.replicate n false) = 0
  | 0 => rfl
  | n + 1 => by rw [List.replicate_succ]; show run w p (step w p 0 false) _ = 0; rw [step_zero]; exact run_zeros0 w p n

/-- the low bit tells whether the polynomial was put in -/
theorem step_bit0 {w p s : Nat} {b : Bool} (hw : 1 ≤ w) (hp : p % 2 = 1) : (step w p s b).testBit 0 = xor (s.testBit (w - 1)) b := by
  unfold step
  rw [Nat.testBit_xor, Nat.testBit_mod_two_pow]
  have h1 : (2 * s).testBit 0 = false := by simp [Nat.testBit_zero]
  rw [h1, Bool.and_false, Bool.false_xor]
  cases xor (s.testBit (w - 1)) b
  · simp
  · simp [Nat.testBit_zero, hp]
theorem back {w p s j : Nat} {b : Bool} (hw : 1 ≤ w) (hp : p % 2 = 1) (h1 : 1 ≤ j) (hj : j ≤ w) (h : step w p s b % 2 ^ j = 0) : xor (s.testBit (w - 1)) b = false ∧ s % 2 ^ (j - 1) = 0 := by
  have h0 : (step w p s b).testBit 0 = false := by
    have e : (step w p s b % 2 ^ j).testBit 0 = false := by rw [h]; simp
    rw [Nat.testBit_mod_two_pow] at e
    have : decide (0 < j) = true := decide_eq_true (by omega)
    rwa [this, Bool.true_and] at e
  rw [step_bit0 hw hp] at h0
  refine ⟨h0, ?_⟩
  unfold step at h
  rw [h0] at h
  simp only [Bool.false_eq_true, if_false, Nat.xor_zero] at h
  rw [Nat.mod_mod_of_dvd _ (Nat.pow_dvd_pow 2 hj)] at h
  obtain ⟨k, rfl⟩ : ∃ k, j = k + 1 := ⟨j - 1, by omega⟩
  rw [Nat.pow_succ, Nat.mul_comm (2 ^ k) 2, Nat.mul_mod_mul_left] at h
  show s % 2 ^ k = 0
  omega
theorem run_back {w p : Nat} (hw : 1 ≤ w) (hp : p % 2 = 1) : ∀ (bs : List Bool) (s j : Nat), bs.length ≤ j → j ≤ w → run w p s bs % 2 ^ j = 0 → s % 2 ^ (j - bs.length) = 0
  | [], s, j, _, _, h => h
  | b :: bs, s, j, hl, hj, h => by
    have hl' : bs.length + 1 ≤ j := by simpa using hl
    have h1 := run_back hw hp bs (step w p s b) j (by omega) hj h
    have h2 := (back hw hp (by omega) (by omega) h1).2
    rw [List.length_cons]
    rwa [Nat.sub_sub] at h2
theorem zero_back {w p s : Nat} (hw : 1 ≤ w) (hp : p % 2 = 1) (hs : s < 2 ^ w) (h : step w p s false = 0) : s = 0 := by
  obtain ⟨a, b⟩ := back (j := w) hw hp hw (Nat.le_refl _) (by rw [h]; simp)
  rw [Bool.xor_false] at a
  have hlt : s < 2 ^ (w - 1) := by
    refine Nat.lt_pow_two_of_testBit _ fun i hi => ?_
    by_cases q : i = w - 1
    · rw [q]; exact a
    · exact Nat.testBit_lt_two_pow (Nat.lt_of_lt_of_le hs (Nat.pow_le_pow_right (by decide) (by omega)))
  rwa [Nat.mod_eq_of_lt hlt] at b
theorem zeros_back {w p : Nat} (hw : 1 ≤ w) (hp : p % 2 = 1) (hp' : p < 2 ^ w) : ∀ (n : Nat) {s : Nat}, s < 2 ^ w → run w p s (List.replicate n false) = 0 → s = 0
  | 0, _, _, h => h
  | n + 1, s, hs, h => by
    rw [List.replicate_succ] at h
    exact zero_back hw hp hs (zeros_back hw hp hp' n (step_lt hp') h)

/-- a run of turned bits no longer than the check is wide is seen -/
theorem burst {w p a r : Nat} {mid : List Bool} (hw : 1 ≤ w) (hp : p % 2 = 1) (hp' : p < 2 ^ w) (hm : mid.length + 1 ≤ w) :
    run w p 0 (List.replicate a false ++ (true :: mid) ++ List.replicate r false) ≠ 0 := by
  rw [run_append, run_append, run_zeros0]
  intro h
  have h1 := zeros_back hw hp hp' r (run_lt hp' _ (Nat.two_pow_pos w)) h
  have h2 : run w p (step w p 0 true) mid = 0 := h1
  rw [step_one] at h2
  have h3 := run_back hw hp mid p w (by omega) (Nat.le_refl _) (by rw [h2]; simp)
  have h4 : p % 2 = 0 := by
    have : 2 ∣ 2 ^ (w - mid.length) := Nat.dvd_trans (by simp) (Nat.pow_dvd_pow 2 (show 1 ≤ w - mid.length by omega))
    exact Nat.mod_eq_zero_of_dvd (Nat.dvd_trans this (Nat.dvd_of_mod_eq_zero h3))
  omega

/-! the order -/
def Z (w p : Nat) : Nat → Nat → Nat
  | 0, s => s
  | n + 1, s => Z w p n (step w p s false)
theorem Z_run (w p : Nat) : ∀ n s, run w p s (List.replicate n false) = Z w p n s
  | 0, _ => rfl
  | n + 1, s => by rw [List.replicate_succ]; exact Z_run w p n _
theorem Z_add (w p : Nat) : ∀ m n s, Z w p (m + n) s = Z w p n (Z w p m s)
  | 0, n, s => by rw [Nat.zero_add]; rfl
  | m + 1, n, s => by rw [Nat.succ_add]; exact Z_add w p m n _
theorem Z_succ (w p n s : Nat) : Z w p (n + 1) s = step w p (Z w p n s) false := by rw [Z_add]; rfl
theorem Z_lt {w p : Nat} (hp : p < 2 ^ w) : ∀ n {s : Nat}, s < 2 ^ w → Z w p n s < 2 ^ w
  | 0, _, h => h
  | n + 1, _, _ => Z_lt hp n (step_lt hp)
theorem Z_xor (w p : Nat) : ∀ n s s', Z w p n (s ^^^ s') = Z w p n s ^^^ Z w p n s'
  | 0, _, _ => rfl
  | n + 1, s, s' => by
    show Z w p n (step w p (s ^^^ s') false) = _
    have := step_xor w p s s' false false
    rw [Bool.xor_false] at this
    rw [this]; exact Z_xor w p n _ _
theorem xor_eq_zero {a b : Nat} (h : a ^^^ b = 0) : a = b := by
  have : a ^^^ (a ^^^ b) = a ^^^ 0 := by rw [h]
  rw [← Nat.xor_assoc, Nat.xor_self, Nat.zero_xor, Nat.xor_zero] at this
  exact this.symm
theorem Z_inj {w p : Nat} (hw : 1 ≤ w) (hp : p % 2 = 1) (hp' : p < 2 ^ w) {n s s' : Nat} (hs : s < 2 ^ w) (hs' : s' < 2 ^ w) (h : Z w p n s = Z w p n s') : s = s' := by
  have : Z w p n (s ^^^ s') = 0 := by rw [Z_xor, h, Nat.xor_self]
  rw [← Z_run] at this
  exact xor_eq_zero (zeros_back hw hp hp' n (Nat.xor_lt_two_pow hs hs') this)
theorem step_pow {w p k : Nat} (hk : k + 1 < w) : step w p (2 ^ k) false = 2 ^ (k + 1) := by
  unfold step
  have h1 : (2 ^ k).testBit (w - 1) = false := Nat.testBit_lt_two_pow (Nat.pow_lt_pow_right (by decide) (by omega))
  rw [h1, Nat.mod_eq_of_lt (by rw [← Nat.pow_succ']; exact Nat.pow_lt_pow_right (by decide) hk)]
  simp [Nat.pow_succ, Nat.mul_comm]
theorem step_top {w p : Nat} (hw : 1 ≤ w) : step w p (2 ^ (w - 1)) false = p := by
  unfold step
  have e : 2 * 2 ^ (w - 1) = 2 ^ w := by rw [← Nat.pow_succ']; congr 1; omega
  rw [e, Nat.mod_self, Nat.testBit_two_pow_self]
  simp
theorem Z_pow {w p : Nat} : ∀ k, k < w → Z w p k 1 = 2 ^ k
  | 0, _ => rfl
  | k + 1, h => by rw [Z_succ, Z_pow k (by omega), step_pow h]
theorem Z_w {w p : Nat} (hw : 1 ≤ w) : Z w p w 1 = p := by
  obtain ⟨k, rfl⟩ : ∃ k, w = k + 1 := ⟨w - 1, by omega⟩
  rw [Z_succ, Z_pow k (by omega)]
  exact step_top (w := k + 1) (by omega)
theorem one_lt {w : Nat} (hw : 1 ≤ w) : 1 < 2 ^ w := Nat.one_lt_two_pow (by omega)

theorem step_true (w p s : Nat) : step w p s true = step w p s false ^^^ p := by
  have := step_xor w p s 0 false true
  rw [Nat.xor_zero, Bool.false_xor, step_one] at this
  exact this
/-- two turned bits are unseen just where x to their distance is 1 -/
theorem two_bits {w p a d r : Nat} (hw : 1 ≤ w) (hp : p % 2 = 1) (hp' : p < 2 ^ w) :
    run w p 0 (List.replicate a false ++ (true :: List.replicate d false) ++ (true :: List.replicate r false)) = 0 ↔ Z w p (d + 1) 1 = 1 := by
  rw [run_append, run_append, run_zeros0]
  show run w p (step w p (run w p (step w p 0 true) (List.replicate d false)) true) (List.replicate r false) = 0 ↔ _
  rw [step_one, Z_run, Z_run, step_true, ← Z_succ]
  have hpw : Z w p w 1 = p := Z_w hw
  have e : Z w p (d + 1) p = Z w p w (Z w p (d + 1) 1) := by
    have e1 : Z w p (d + 1) (Z w p w 1) = Z w p w (Z w p (d + 1) 1) := by rw [← Z_add, ← Z_add, Nat.add_comm]
    rwa [hpw] at e1
  have hlt := Z_lt (p := p) hp' (d + 1) (one_lt hw)
  constructor
  · intro h
    have h1 := zeros_back hw hp hp' r (Nat.xor_lt_two_pow (Z_lt hp' _ hp') hp') (by rw [Z_run]; exact h)
    have h2 := xor_eq_zero h1
    rw [e] at h2
    exact Z_inj hw hp hp' (n := w) hlt (one_lt hw) (h2.trans hpw.symm)
  · intro h
    rw [e, h, hpw, Nat.xor_self]
    rw [← Z_run]
    exact run_zeros0 w p r

/-- among n + 1 numbers below n two are the same -/
theorem pigeon : ∀ (n : Nat) (f : Nat → Nat), (∀ i, i ≤ n → f i < n) → ∃ i j, i < j ∧ j ≤ n ∧ f i = f j
  | 0, f, h => absurd (h 0 (Nat.le_refl _)) (Nat.not_lt_zero _)
  | n + 1, f, h => by
    by_cases q : ∃ i, i ≤ n ∧ f i = f (n + 1)
    · obtain ⟨i, hi, e⟩ := q
      exact ⟨i, n + 1, by omega, Nat.le_refl _, e⟩
    · have q' : ∀ i, i ≤ n → f i ≠ f (n + 1) := fun i hi e => q ⟨i, hi, e⟩
      have hl := h (n + 1) (Nat.le_refl _)
      obtain ⟨i, j, hij, hj, e⟩ := pigeon n (fun i => if f i < f (n + 1) then f i else f i - 1) (fun i hi => by
        have h1 := h i (by omega)
        have h2 := q' i hi
        split <;> omega)
      refine ⟨i, j, hij, by omega, ?_⟩
      have h1 := q' i (by omega)
      have h2 := q' j hj
      split at e <;> split at e <;> omega
theorem order_ex {w p : Nat} (hw : 1 ≤ w) (hp : p % 2 = 1) (hp' : p < 2 ^ w) : ∃ n, 1 ≤ n ∧ n ≤ 2 ^ w ∧ Z w p n 1 = 1 := by
  obtain ⟨i, j, hij, hj, e⟩ := pigeon (2 ^ w) (fun n => Z w p n 1) fun i _ => Z_lt hp' i (one_lt hw)
  refine ⟨j - i, by omega, by omega, ?_⟩
  have e' : Z w p j 1 = Z w p i (Z w p (j - i) 1) := by rw [← Z_add]; congr 1; omega
  have h : Z w p i 1 = Z w p i (Z w p (j - i) 1) := e.trans e'
  exact (Z_inj hw hp hp' (one_lt hw) (Z_lt hp' _ (one_lt hw)) h).symm
theorem Z_mul {w p n : Nat} (h : Z w p n 1 = 1) : ∀ k, Z w p (n * k) 1 = 1
  | 0 => rfl
  | k + 1 => by rw [Nat.mul_succ, Z_add, Z_mul h k, h]
theorem order_dvd {w p n d : Nat} (hn : 1 ≤ n) (h : Z w p n 1 = 1) (least : ∀ m, 1 ≤ m → m < n → Z w p m 1 ≠ 1) : Z w p d 1 = 1 ↔ d % n = 0 := by
  constructor
  · intro hd
    have e : d = n * (d / n) + d % n := (Nat.div_add_mod d n).symm
    rw [e, Z_add, Z_mul h] at hd
    by_cases q : d % n = 0
    · exact q
    · exact absurd hd (least _ (by omega) (Nat.mod_lt _ (by omega)))
  · intro hd
    obtain ⟨k, rfl⟩ := Nat.dvd_of_mod_eq_zero hd
    exact Z_mul h k
/-- the least one -/
theorem order_least {w p : Nat} (hw : 1 ≤ w) (hp : p % 2 = 1) (hp' : p < 2 ^ w) : ∃ n, 1 ≤ n ∧ n ≤ 2 ^ w ∧ Z w p n 1 = 1 ∧ ∀ m, 1 ≤ m → m < n → Z w p m 1 ≠ 1 := by
  obtain ⟨n, h1, h2, h3⟩ := order_ex hw hp hp'
  have key : ∀ k n, n ≤ k → 1 ≤ n → n ≤ 2 ^ w → Z w p n 1 = 1 → ∃ n, 1 ≤ n ∧ n ≤ 2 ^ w ∧ Z w p n 1 = 1 ∧ ∀ m, 1 ≤ m → m < n → Z w p m 1 ≠ 1 := by
    intro k
    induction k with
    | zero => intro n h h1; omega
    | succ k ih =>
      intro n hk h1 h2 h3
      by_cases q : ∃ m, 1 ≤ m ∧ m < n ∧ Z w p m 1 = 1
      · obtain ⟨m, a, b, c⟩ := q
        exact ih m (by omega) a (by omega) c
      · exact ⟨n, h1, h2, h3, fun m a b c => q ⟨m, a, b, c⟩⟩
  exact key n n (Nat.le_refl _) h1 h2 h3

/-! parity -/
def par (s : Nat) : Nat → Bool
  | 0 => false
  | n + 1 => xor (par s n) (s.testBit n)
theorem par_xor (s s' : Nat) : ∀ n, par (s ^^^ s') n = xor (par s n) (par s' n)
  | 0 => rfl
  | n + 1 => by
    unfold par
    rw [par_xor s s' n, Nat.testBit_xor]
    cases par s n <;> cases par s' n <;> cases s.testBit n <;> cases s'.testBit n <;> rfl
theorem par_zero : ∀ n, par 0 n = false
  | 0 => rfl
  | n + 1 => by unfold par; rw [par_zero n]; simp
theorem par_shift (s w : Nat) : ∀ n, n + 1 ≤ w → par ((2 * s) % 2 ^ w) (n + 1) = par s n
  | 0, h => by
    unfold par par
    rw [Nat.testBit_mod_two_pow]
    simp [Nat.testBit_zero]
  | n + 1, h => by
    show xor (par ((2 * s) % 2 ^ w) (n + 1)) _ = xor (par s n) _
    rw [par_shift s w n (by omega), Nat.testBit_mod_two_pow]
    have : (2 * s).testBit (n + 1) = s.testBit n := by
      rw [Nat.testBit_succ]; congr 1; omega
    rw [this, decide_eq_true (show n + 1 < w by omega), Bool.true_and]
theorem par_step {w p s : Nat} {b : Bool} (hw : 1 ≤ w) (h : par p w = true) : par (step w p s b) w = xor (par s w) b := by
  obtain ⟨k, rfl⟩ : ∃ k, w = k + 1 := ⟨w - 1, by omega⟩
  unfold step
  rw [par_xor, par_shift s (k + 1) k (Nat.le_refl _)]
  show _ = xor (xor (par s k) (s.testBit k)) b
  rw [Nat.add_sub_cancel]
  cases s.testBit k <;> cases b <;> simp [h, par_zero]
theorem par_run {w p : Nat} (hw : 1 ≤ w) (h : par p w = true) : ∀ (bs : List Bool) (s : Nat), par (run w p s bs) w = bs.foldl xor (par s w)
  | [], _ => rfl
  | b :: bs, s => by
    show par (run w p (step w p s b) bs) w = _
    rw [par_run hw h bs, par_step hw h]; rfl
theorem odd_seen {w p : Nat} {e : List Bool} (hw : 1 ≤ w) (h : par p w = true) (ho : e.foldl xor false = true) : run w p 0 e ≠ 0 := by
  intro q
  have := par_run hw h e 0
  rw [q, par_zero, ho] at this
  cases this
end Mine.Crc
end Crc1x
section Crc2x
namespace Mine.Crc
/-! the register with the word beside it -/
def ti (w n p c : Nat) : Nat := if c.testBit (w + n - 1) then (2 * c) ^^^ (p * 2 ^ n) else 2 * c
def tis (w n p : Nat) : Nat → Nat → Nat
  | 0, c => c
  | k + 1, c => ti w n p (tis w n p k c)
theorem mul_pow_xor (a b n : Nat) : (a ^^^ b) * 2 ^ n = a * 2 ^ n ^^^ b * 2 ^ n := by
  have := Nat.shiftLeft_xor_distrib (a := a) (b := b) (i := n)
  simpa [Nat.shiftLeft_eq] using this
theorem pow_mod (a w n : Nat) : (a * 2 ^ n) % 2 ^ (w + n) = (a % 2 ^ w) * 2 ^ n := by
  rw [Nat.pow_add, Nat.mul_mod_mul_right]
theorem ti_lt {w n p c k : Nat} (hp : p < 2 ^ w) (hc : c < 2 ^ (w + n + k)) : ti w n p c < 2 ^ (w + n + (k + 1)) := by
  unfold ti
  have h1 : 2 * c < 2 ^ (w + n + (k + 1)) := by rw [← Nat.add_assoc, Nat.pow_succ]; omega
  split
  · refine Nat.xor_lt_two_pow h1 ?_
    have h2 : p * 2 ^ n < 2 ^ (w + n) := by rw [Nat.pow_add]; exact Nat.mul_lt_mul_of_pos_right hp (Nat.two_pow_pos n)
    exact Nat.lt_of_lt_of_le h2 (Nat.pow_le_pow_right (by decide) (by omega))
  · exact h1
theorem tis_lt {w n p c : Nat} (hp : p < 2 ^ w) (hc : c < 2 ^ (w + n)) : ∀ k, tis w n p k c < 2 ^ (w + n + k)
  | 0 => hc
  | k + 1 => ti_lt hp (tis_lt hp hc k)
/-- one turn, below the line -/
theorem ti_mod {w n p c : Nat} (hp : p < 2 ^ w) (hw : 1 ≤ w + n) : ti w n p c % 2 ^ (w + n) = (2 * (c % 2 ^ (w + n))) % 2 ^ (w + n) ^^^ (if (c % 2 ^ (w + n)).testBit (w + n - 1) then p * 2 ^ n else 0) := by
  have h2 : p * 2 ^ n < 2 ^ (w + n) := by rw [Nat.pow_add]; exact Nat.mul_lt_mul_of_pos_right hp (Nat.two_pow_pos n)
  have hb : (c % 2 ^ (w + n)).testBit (w + n - 1) = c.testBit (w + n - 1) := by
    rw [Nat.testBit_mod_two_pow, decide_eq_true (by omega), Bool.true_and]
  rw [hb]
  have hm : (2 * (c % 2 ^ (w + n))) % 2 ^ (w + n) = (2 * c) % 2 ^ (w + n) := by rw [Nat.mul_mod, Nat.mod_mod, ← Nat.mul_mod]
  rw [hm]
  unfold ti
  split
  · rw [Nat.xor_mod_two_pow, Nat.mod_eq_of_lt h2]
  · rw [Nat.xor_zero]
theorem tis_mod {w n p s x : Nat} (hw : 1 ≤ w) (hp : p < 2 ^ w) (hs : s < 2 ^ w) (hx : x < 2 ^ n) : ∀ i, i ≤ n →
    tis w n p i (s * 2 ^ n ^^^ x * 2 ^ w) % 2 ^ (w + n) = (run w p s ((bitsHi n x).take i)) * 2 ^ n ^^^ (x * 2 ^ (w + i)) % 2 ^ (w + n)
  | 0, _ => by
    show (s * 2 ^ n ^^^ x * 2 ^ w) % 2 ^ (w + n) = s * 2 ^ n ^^^ _
    have h1 : s * 2 ^ n < 2 ^ (w + n) := by rw [Nat.pow_add]; exact Nat.mul_lt_mul_of_pos_right hs (Nat.two_pow_pos n)
    rw [Nat.xor_mod_two_pow, Nat.mod_eq_of_lt h1]
    rfl
  | i + 1, hi => by
    have ih := tis_mod hw hp hs hx i (by omega)
    show ti w n p _ % _ = _
    rw [ti_mod hp (by omega), ih]
    have hl : i < (bitsHi n x).length := by simp [bitsHi]; omega
    rw [List.take_succ_eq_append_getElem hl, run_append]
    generalize hq : run w p s ((bitsHi n x).take i) = q
    have hqlt : q < 2 ^ w := hq ▸ run_lt hp _ hs
    have hbit : (bitsHi n x)[i] = x.testBit (n - 1 - i) := by simp [bitsHi]
    rw [hbit]
    show _ = step w p q (x.testBit (n - 1 - i)) * 2 ^ n ^^^ _
    have htop : (q * 2 ^ n ^^^ x * 2 ^ (w + i) % 2 ^ (w + n)).testBit (w + n - 1) = xor (q.testBit (w - 1)) (x.testBit (n - 1 - i)) := by
      rw [Nat.testBit_xor, Nat.testBit_mod_two_pow, Nat.testBit_mul_two_pow, Nat.testBit_mul_two_pow]
      rw [decide_eq_true (show n ≤ w + n - 1 by omega), decide_eq_true (show w + n - 1 < w + n by omega), decide_eq_true (show w + i ≤ w + n - 1 by omega)]
      rw [show w + n - 1 - n = w - 1 by omega, show w + n - 1 - (w + i) = n - 1 - i by omega]
      simp
    rw [htop, two_mul_xor, Nat.xor_mod_two_pow]
    have e1 : (2 * (q * 2 ^ n)) % 2 ^ (w + n) = ((2 * q) % 2 ^ w) * 2 ^ n := by rw [← Nat.mul_assoc, pow_mod]
    have e2 : (2 * (x * 2 ^ (w + i) % 2 ^ (w + n))) % 2 ^ (w + n) = (x * 2 ^ (w + (i + 1))) % 2 ^ (w + n) := by
      have e3 : 2 * (x * 2 ^ (w + i)) = x * 2 ^ (w + (i + 1)) := by rw [← Nat.add_assoc, Nat.pow_succ, Nat.mul_comm 2 (x * 2 ^ (w + i)), Nat.mul_assoc]
      rw [← e3]
      generalize x * 2 ^ (w + i) = y
      generalize 2 ^ (w + n) = z
      rw [Nat.mul_mod, Nat.mod_mod, ← Nat.mul_mod]
    rw [e1, e2]
    unfold step
    rw [mul_pow_xor]
    rw [Nat.xor_assoc, Nat.xor_assoc, Nat.xor_comm ((x * 2 ^ (w + (i + 1))) % 2 ^ (w + n))]
    congr 2
    split <;> simp
/-- a word put in -/
theorem word_in {w n p s x : Nat} (hw : 1 ≤ w) (hp : p < 2 ^ w) (hs : s < 2 ^ w) (hx : x < 2 ^ n) : tis w n p n (s * 2 ^ n ^^^ x * 2 ^ w) % 2 ^ (w + n) = run w p s (bitsHi n x) * 2 ^ n := by
  rw [tis_mod hw hp hs hx n (Nat.le_refl _), List.take_of_length_le (by simp [bitsHi]), Nat.mul_mod_left, Nat.xor_zero]
theorem start_lt {w n s x : Nat} (hs : s < 2 ^ w) (hx : x < 2 ^ n) : s * 2 ^ n ^^^ x * 2 ^ w < 2 ^ (w + n) := by
  refine Nat.xor_lt_two_pow ?_ ?_
  · rw [Nat.pow_add]; exact Nat.mul_lt_mul_of_pos_right hs (Nat.two_pow_pos n)
  · rw [Nat.add_comm w n, Nat.pow_add]; exact Nat.mul_lt_mul_of_pos_right hx (Nat.two_pow_pos w)

/-- a word's bits in the order in which they come -/
def wbits (n : Nat) (ri : Bool) (x : Nat) : List Bool := if ri then (List.range n).map fun k => x.testBit k else bitsHi n x
def bitsOf (n : Nat) (ri : Bool) (ws : List Nat) : List Bool := ws.flatMap (wbits n ri)
theorem wbits_length (n : Nat) (ri : Bool) (x : Nat) : (wbits n ri x).length = n := by unfold wbits; split <;> simp [bitsHi]

/-! bits and what they make -/
theorem val_snoc (bs : List Bool) (b : Bool) : val (bs ++ [b]) = 2 * val bs + b.toNat := by unfold val; rw [List.foldl_append]; rfl
theorem val_lt (bs : List Bool) : val bs < 2 ^ bs.length := by
  have key : ∀ (bs : List Bool) (a : Nat), bs.foldl (fun a b => 2 * a + b.toNat) a < (a + 1) * 2 ^ bs.length := by
    intro bs
    induction bs with
    | nil => intro a; simp
    | cons b bs ih =>
      intro a
      rw [List.foldl_cons, List.length_cons, Nat.pow_succ]
      refine Nat.lt_of_lt_of_le (ih _) ?_
      rw [Nat.mul_comm (2 ^ bs.length) 2, ← Nat.mul_assoc]
      refine Nat.mul_le_mul_right _ ?_
      cases b <;> simp <;> omega
  have := key bs 0
  rw [Nat.zero_add, Nat.one_mul] at this
  exact this
theorem bitsHi_val : ∀ (n : Nat) (bs : List Bool), bs.length = n → bitsHi n (val bs) = bs
  | 0, bs, h => by
    have : bs = [] := List.length_eq_zero_iff.mp h
    subst this; rfl
  | n + 1, bs, h => by
    have hne : bs ≠ [] := by intro e; rw [e] at h; simp at h
    have e := List.dropLast_concat_getLast hne
    generalize bs.dropLast = ini at e
    generalize bs.getLast hne = c at e
    subst e
    have hl : ini.length = n := by simpa using h
    rw [val_snoc, bitsHi_succ]
    have h1 : (2 * val ini + c.toNat) / 2 = val ini := by cases c <;> simp <;> omega
    rw [h1, bitsHi_val n ini hl]
    congr 2
    cases c <;> simp [Nat.testBit_zero] <;> omega
theorem val_bitsHi : ∀ (n x : Nat), x < 2 ^ n → val (bitsHi n x) = x
  | 0, x, h => by
    have : x = 0 := by simpa using h
    subst this; rfl
  | n + 1, x, h => by
    rw [bitsHi_succ, val_snoc, val_bitsHi n (x / 2) (by rw [Nat.pow_succ] at h; omega)]
    have : (x.testBit 0).toNat = x % 2 := by
      rw [Nat.testBit_zero]
      rcases Nat.mod_two_eq_zero_or_one x with e | e <;> rw [e] <;> rfl
    omega
theorem reflN_lt (n x : Nat) : reflN n x < 2 ^ n := by
  have := val_lt ((List.range n).map fun k => x.testBit k)
  simpa [reflN] using this
theorem bitsHi_refl (n x : Nat) : bitsHi n (reflN n x) = (List.range n).map fun k => x.testBit k := bitsHi_val n _ (by simp)
theorem reflN_refl {n x : Nat} (h : x < 2 ^ n) : reflN n (reflN n x) = x := by
  unfold reflN
  have e : ((List.range n).map fun k => (val ((List.range n).map fun k => x.testBit k)).testBit k) = bitsHi n x := by
    have h1 := bitsHi_rev n (reflN n x)
    rw [bitsHi_refl, ← bitsHi_rev n x, List.reverse_reverse] at h1
    exact h1.symm
  rw [e, val_bitsHi n x h]
end Mine.Crc
end Crc2x
section Fn5x
open PySem PySem.W PyProof.Rows PySem.Calls
namespace Mine
variable {prog : Program} {w : World} {A : Around} {env : Env} {μ : Names} {h h₀ : Heap}
open Crc
/-- the check of words -/
def fin (ro : Bool) (wd x s : Nat) : Nat := (if ro then reflN wd s else s) ^^^ x
def check (wd p i : Nat) (ri ro : Bool) (x n : Nat) (ws : List Nat) : Nat := fin ro wd x (run wd p i (bitsOf n ri ws))
structure ParOk (wd p i x n : Nat) : Prop where
  h0 : 1 ≤ wd
  h1 : wd ≤ 40
  hp : p < 2 ^ wd
  hi : i < 2 ^ wd
  n0 : 1 ≤ n
  n1 : n ≤ 40
theorem ct_compute (r : room 6 A) (gd : Gd (KK w.params) h) {fr : Option Addr} {vs : List Value} {wd p i x n : Nat} {ri ro : Bool} {ws : List Nat}
    (hv : All2 (fun v d => d.at' fr v h) vs [D.inst 145 (parFs wd p i ri ro x n), D.nats ws]) (ok : ParOk wd p i x n) (hw : ∀ a ∈ ws, a < 2 ^ n) :
    Cd prog w A (.call (.ref 118) ⟨vs, []⟩) h fun v h' => Gr h h' ∧ ∃ t, v = .int (check wd p i ri ro x n ws : Nat) t := by
  obtain ⟨a, b, rfl, h1, h2⟩ := hv.two
  have rd := r.deeper
  intro s R e kk
  refine call_own (K := KK w.params) (ns := ["self", "data"]) (fr := fr) (Φ := fun v _ => ∃ t, v = .int (check wd p i ri ro x n ws : Nat) t) (by have := r.2.1; omega) gd (by rfl) (by rfl) (by kernel_rfl) (by rfl) (fun s _ => BindsTo.of_eq (by rfl)) (by rfl) (by rfl) (by rfl) rfl (by decide) hv (by rfl) (fun h₁ g F => ?_) (by rfl) (by rfl) (by rfl) s R e fun v h' tk' g p => kk v h' tk' ⟨g, p⟩
  have hd := ok.hp
  have hn2 : 1 * 2 ^ (wd + n - 1) < 2 ^ 100 := by rw [Nat.one_mul]; exact Nat.pow_lt_pow_right (by decide) (by have := ok.h1; have := ok.n1; omega)
  have h1n := ok.n1
  have h1w := ok.h1
  have h0n := ok.n0
  have h0w := ok.h0
  refine Xs.cons (X.assign (d := D.nat (1 * 2 ^ n - 1)) F (Ev.subN (Ev.shlN 1 Ev.litN (Ev.attri F.cx (Ev.name F.cx (by rfl)) (fo145_data_width _) (by rfl)) (by decide) (by omega)) Ev.litN (by rw [Nat.one_mul]; exact Nat.two_pow_pos n)) (.inl (by rfl))) fun h₂ F => ?_
  refine Xs.cons (X.assign (d := D.nat (1 * 2 ^ (wd + n - 1))) F (Ev.shlN 1 Ev.litN (Ev.subN (Ev.addN (Ev.attri F.cx (Ev.name F.cx (by rfl)) (fo145_crc_width _) (by rfl)) (Ev.attri F.cx (Ev.name F.cx (by rfl)) (fo145_data_width _) (by rfl))) Ev.litN (by omega)) (by decide) (by omega)) (.inl (by rfl))) fun h₂ F => ?_
  refine Xs.cons (X.assign (d := D.nat (1 * 2 ^ (wd + n) - 1)) F (Ev.subN (Ev.shlN 1 Ev.litN (Ev.addN (Ev.attri F.cx (Ev.name F.cx (by rfl)) (fo145_crc_width _) (by rfl)) (Ev.attri F.cx (Ev.name F.cx (by rfl)) (fo145_data_width _) (by rfl))) (by decide) (by omega)) Ev.litN (by rw [Nat.one_mul]; exact Nat.two_pow_pos _)) (.inl (by rfl))) fun h₂ F => ?_
  refine Xs.cons (X.assign (d := D.nat (p * 2 ^ n)) F (Ev.shlN wd (Ev.attri F.cx (Ev.name F.cx (by rfl)) (fo145_polynomial _) (by rfl)) (Ev.attri F.cx (Ev.name F.cx (by rfl)) (fo145_data_width _) (by rfl)) ok.hp (by omega)) (.inl (by rfl))) fun h₂ F => ?_
  refine Xs.cons (X.assign (d := D.nat (i * 2 ^ n)) F (Ev.shlN wd (Ev.attri F.cx (Ev.name F.cx (by rfl)) (fo145_initial_crc _) (by rfl)) (Ev.attri F.cx (Ev.name F.cx (by rfl)) (fo145_data_width _) (by rfl)) ok.hi (by omega)) (.inl (by rfl))) fun h₂ F => ?_
  let rest : Names := [("self", D.inst 145 (parFs wd p i ri ro x n)), ("data", D.nats ws), ("word_max", D.nat (1 * 2 ^ n - 1)), ("top_bit", D.nat (1 * 2 ^ (wd + n - 1))), ("crc_mask", D.nat (1 * 2 ^ (wd + n) - 1)), ("poly_shifted", D.nat (p * 2 ^ n))]
  have F₀ := F.pick ["crc", "self", "data", "word_max", "top_bit", "crc_mask", "poly_shifted"]
  refine Xs.cons (X.for (μi := fun k => ("crc", D.nat (run wd p i (bitsOf n ri (ws.take k)) * 2 ^ n)) :: rest) F₀ (FSrc.nats r.1 (Ev.name F.cx (by rfl))) (.inl (by rfl)) fun k hk h₃ F => ?_) fun h₃ F => ?_
  · generalize hS : run wd p i (bitsOf n ri (ws.take k)) = S at F
    have hSlt : S < 2 ^ wd := hS ▸ run_lt ok.hp _ ok.hi
    have hxk : ws.getD k 0 < 2 ^ n := hw _ (by rw [List.getD_eq_getElem?_getD, List.getElem?_eq_getElem hk, Option.getD_some]; exact List.getElem_mem hk)
    have hnext : run wd p i (bitsOf n ri (ws.take (k + 1))) = run wd p S (wbits n ri (ws.getD k 0)) := by
      rw [List.take_succ_eq_append_getElem hk]
      unfold bitsOf
      rw [List.flatMap_append, run_append, List.getD_eq_getElem?_getD, List.getElem?_eq_getElem hk, Option.getD_some]
      rw [← hS]
      simp [bitsOf]
    generalize ws.getD k 0 = y at F hxk hnext
    refine Xs.cons (X.skip F (Ts.not (Ts.within Ev.lit (Ev.name F.cx (by rfl)) (Ev.name F.cx (by rfl)) (by omega) (by omega))) rfl) fun h₄ F => ?_
    let y' := if ri then reflN n y else y
    have hy' : y' < 2 ^ n := by show (if ri then _ else _) < _; split; exact reflN_lt n y; exact hxk
    have hwb : wbits n ri y = bitsHi n y' := by
      show (if ri then _ else _) = bitsHi n (if ri then _ else _)
      cases ri
      · rfl
      · exact (bitsHi_refl n y).symm
    refine Xs.cons (P := Fm _ _ _ (("word", D.nat y') :: ("crc", D.nat (S * 2 ^ n)) :: rest)) (X.if (Ts.bool (Ev.attrb F.cx (Ev.name F.cx (by rfl)) (fo145_reflect_input _) (by rfl))) (fun hc h₅ g => Xs.cons (X.assign (d := D.nat y') (F.mono g) ?_ (.inl (by rfl))) fun h₆ F => Xs.nil ⟨rfl, F.pick ["word", "crc", "self", "data", "word_max", "top_bit", "crc_mask", "poly_shifted"]⟩) fun hc h₅ g => Xs.nil ⟨rfl, ?_⟩) fun h₅ F => ?_
    · have F := F.mono g
      refine (Ev.statInst (d := D.nat (reflN n y)) F.cx (Ev.name F.cx (by rfl)) (sReflect _) (by rfl) (Evs.cons (Ev.name F.cx (by rfl)) (Evs.cons (Ev.attri F.cx (Ev.name F.cx (by rfl)) (fo145_data_width _) (by rfl)) Evs.nil)) fun vs h' g hv => (ct_reflect (x := y) (n := n) ((rd _).le (by omega)) ((F.mono g).gd) hv h0n h1n hxk).call).to ?_
      show D.nat (reflN n y) = D.nat (if ri then reflN n y else y)
      rw [hc]; rfl
    · have F := F.mono g
      have e : y' = y := by show (if ri then reflN n y else y) = y; rw [hc]; rfl
      rw [e]; exact F
    refine Xs.cons (X.ixorN F (by rfl) (Ev.shlN n (Ev.name F.cx (by rfl)) (Ev.attri F.cx (Ev.name F.cx (by rfl)) (fo145_crc_width _) (by rfl)) hy' (by omega)) (.inl (by rfl))) fun h₆ F => ?_
    have F₀ := F.pick ["crc", "self", "data", "word_max", "top_bit", "crc_mask", "poly_shifted"]
    refine Xs.cons (X.for (μi := fun j => ("crc", D.nat (tis wd n p j (S * 2 ^ n ^^^ y' * 2 ^ wd))) :: rest) F₀ (FSrc.upto r.1 (Ev.range1 (Ev.bRange F.cx (kb _)) (Ev.attri F.cx (Ev.name F.cx (by rfl)) (fo145_data_width _) (by rfl))) (by omega)) (.inl (by rfl)) fun j hj h₇ F => ?_) fun h₇ F => ?_
    · have hc0 := start_lt (w := wd) (n := n) hSlt hy'
      have hlt := tis_lt (p := p) ok.hp hc0 j
      show Xs _ _ _ _ _ _ (go (Fm _ _ _ (("crc", D.nat (ti wd n p (tis wd n p j (S * 2 ^ n ^^^ y' * 2 ^ wd)))) :: rest)))
      generalize tis wd n p j (S * 2 ^ n ^^^ y' * 2 ^ wd) = c at F hlt ⊢
      refine Xs.cons (P := Fm _ _ _ (("crc", D.nat (ti wd n p c)) :: rest)) (X.if (Ts.nzN (Ev.andN (Ev.name F.cx (by rfl)) (Ev.name F.cx (by rfl)))) (fun hc h₅ g => ?_) fun hc h₅ g => ?_) fun h₈ F => Xs.nil ⟨rfl, F⟩
      · have F := F.mono g
        rw [and_top] at hc
        refine Xs.cons (X.assign (d := D.nat (c * 2 ^ 1 ^^^ p * 2 ^ n)) F (Ev.xorN (Ev.shlN (wd + n + j) (Ev.name F.cx (by rfl)) Ev.litN hlt (by omega)) (Ev.name F.cx (by rfl))) (.inl (by rfl))) fun h₆ F => Xs.nil ⟨rfl, ?_⟩
        have F₀ := F.pick ["crc", "self", "data", "word_max", "top_bit", "crc_mask", "poly_shifted"]
        have e : ti wd n p c = c * 2 ^ 1 ^^^ p * 2 ^ n := by unfold ti; rw [hc, if_pos rfl, Nat.pow_one, Nat.mul_comm c 2]
        rw [e]; exact F₀
      · have F := F.mono g
        rw [and_top] at hc
        refine Xs.cons (X.ishlN (b := 1) (wd + n + j) F (by rfl) Ev.litN hlt (by omega) (.inl (by rfl))) fun h₆ F => Xs.nil ⟨rfl, ?_⟩
        have F₀ := F.pick ["crc", "self", "data", "word_max", "top_bit", "crc_mask", "poly_shifted"]
        have e : ti wd n p c = c * 2 ^ 1 := by unfold ti; rw [hc, if_neg (by decide), Nat.pow_one, Nat.mul_comm c 2]
        rw [e]; exact F₀
    have hin := word_in (w := wd) (n := n) (p := p) (s := S) (x := y') h0w ok.hp hSlt hy'
    rw [← hwb, ← hnext] at hin
    generalize tis wd n p n (S * 2 ^ n ^^^ y' * 2 ^ wd) = c at F hin
    refine Xs.cons (X.iandN F (by rfl) (Ev.name F.cx (by rfl)) (.inl (by rfl))) fun h₈ F => Xs.nil ⟨rfl, ?_⟩
    have F₀ := F.pick ["crc", "self", "data", "word_max", "top_bit", "crc_mask", "poly_shifted"]
    rw [and_mask, hin] at F₀
    exact F₀
  · rw [List.take_length] at F
    generalize hS : run wd p i (bitsOf n ri ws) = S at F
    have hSlt : S < 2 ^ wd := hS ▸ run_lt ok.hp _ ok.hi
    refine Xs.cons (X.ishrN F (by rfl) (Ev.attri F.cx (Ev.name F.cx (by rfl)) (fo145_data_width _) (by rfl)) (.inl (by rfl))) fun h₄ F => ?_
    have F₀ := F.pick ["crc", "self"]
    rw [Nat.mul_div_cancel _ (Nat.two_pow_pos n)] at F₀
    refine Xs.cons (P := Fm _ _ _ [("crc", D.nat (if ro then reflN wd S else S)), ("self", D.inst 145 (parFs wd p i ri ro x n))]) (X.if (Ts.bool (Ev.attrb F.cx (Ev.name F.cx (by rfl)) (fo145_reflect_output _) (by rfl))) (fun hc h₅ g => Xs.cons (X.assign (d := D.nat (if ro then reflN wd S else S)) (F₀.mono g) ?_ (.inl (by rfl))) fun h₆ F => Xs.nil ⟨rfl, F.pick ["crc", "self"]⟩) fun hc h₅ g => Xs.nil ⟨rfl, ?_⟩) fun h₅ F => ?_
    · have F := F₀.mono g
      refine (Ev.statInst (d := D.nat (reflN wd S)) F.cx (Ev.name F.cx (by rfl)) (sReflect _) (by rfl) (Evs.cons (Ev.name F.cx (by rfl)) (Evs.cons (Ev.attri F.cx (Ev.name F.cx (by rfl)) (fo145_crc_width _) (by rfl)) Evs.nil)) fun vs h' g hv => (ct_reflect (x := S) (n := wd) ((rd _).le (by omega)) ((F.mono g).gd) hv h0w h1w hSlt).call).to ?_
      rw [hc]; rfl
    · have F := F₀.mono g
      have e : (if ro then reflN wd S else S) = S := by rw [hc]; rfl
      rw [e]; exact F
    refine Xs.cons (X.ixorN F (by rfl) (Ev.attri F.cx (Ev.name F.cx (by rfl)) (fo145_xor_output _) (by rfl)) (.inl (by rfl))) fun h₆ F => ?_
    refine Xs.mono (Xs.ret (Ev.name F.cx (by rfl))) ?_
    rintro fl h' ⟨v, rfl, x⟩ _
    unfold check fin
    rw [hS]
    exact x
end Mine
end Fn5x
section Fn6x
open PySem PySem.W PyProof.Rows PySem.Calls
namespace Mine
variable {prog : Program} {w : World} {A : Around} {env : Env} {μ : Names} {h h₀ : Heap}
structure PropOk (K : Frag) (C : Addr) (name : Str) (fget : Addr) : Prop where
  plain : plainGet K C name = true
  has : hasDictIn K C = true
  find : ∃ p rest, findIn K (.ref C) name = some (some (.ref p)) ∧ specialIn K (.ref p) "__get__" = some (some (.builtin "property.__get__")) ∧ takesIn K (.ref p) = some true ∧ recIn K p "property" = some (.ref fget :: rest)
theorem Ev.prop {K : Frag} {value : Expr} {name : Str} {pos : Pos} {C fget : Addr} {fs : List (Str × FD)} {d : D} (c : Cx K env μ h) (x : Ev prog w A env h value (D.inst C fs)) (ok : PropOk K C name fget)
    (z : ∀ v h', Gr h h' → (D.inst C fs).at' env.frame v h' → Cd prog w A.in1 (.call (.ref fget) ⟨[v], []⟩) h' fun u h'' => Gr h' h'' ∧ d.at' env.frame u h'') (hd : ∀ u h', d.at' env.frame u h' → handedIn u = true)
    (he : eval (.Attribute value name pos) env = (do
      let o ← eval value env
      standAt pos.atName
      let r ← holding [o] (getAttr o name true)
      letTemporaryGo value o r
      pure r) := by with_unfolding_all rfl) : Ev prog w A env h (.Attribute value name pos) d := by
  intro h' g s Q E e k
  subst e
  refine Attribute_any_ (x _ g s _ E rfl fun v h₁ t₁ p₁ => ?_) he
  obtain ⟨g₁, px⟩ := p₁
  obtain ⟨y, dx, es, n, rfl, a, b, ne, r⟩ := id px
  obtain ⟨p, rest, f1, f2, f3, f4⟩ := ok.find
  have X₁ := ((c.mono g).mono g₁).gd.X
  have hh := ok.has
  refine get_bind (s := { s with heap := h₁, toks := t₁ }) X₁ (instAt_of a b) (plainGet_of ok.plain).1 (findObj_data (by obtain ⟨cd, hc, _⟩ := any_some hh; rw [hc]; rfl) f1 f2 f3) (plainGet_of ok.plain).2
    (wpAny_call (prop_get (s := { s with heap := h₁, toks := t₁ + 1 }) X₁ f4 ?_))
  refine z _ h₁ (g.trans g₁) px { s with heap := h₁, toks := t₁ + 1 } _ rfl fun u h₂ t₂ p₂ => ?_
  exact handed_on (hd u h₂ p₂.2) (k u h₂ t₂ ⟨g₁.trans p₂.1, p₂.2⟩)

theorem pAlg (P : Params) : PropOk (KK P) 145 "algorithm" 103 := ⟨by kernel_rfl, by kernel_rfl, 104, _, by kernel_rfl, by kernel_rfl, by kernel_rfl, by rfl⟩
theorem ct_algprop (r : room 8 A) (gd : Gd (KK w.params) h) {fr : Option Addr} {v : Value} {wd p i x n : Int} {ri ro : Bool}
    (hv : (D.inst 145 (parFs wd p i ri ro x n)).at' fr v h) (ok : AlgOk wd p i x) (l : ∀ L, fr = some L → ∃ o, h.get? L = some o) :
    Cd prog w A (.call (.ref 103) ⟨[v], []⟩) h fun v h' => Gr h h' ∧ (D.instN h 77 (algFs wd p i ri ro x)).at' fr v h' := by
  have rd := r.deeper
  intro s R e kk
  refine call_own (K := KK w.params) (ns := ["self"]) (ds := [D.inst 145 (parFs wd p i ri ro x n)]) (fr := fr) (Φ := fun v h' => (D.instN h 77 (algFs wd p i ri ro x)).at' fr v h') (by have := r.2.1; omega) gd (by rfl) (by rfl) (by kernel_rfl) (by rfl) (fun s hs => BindsTo.of_eq (by rfl)) (by rfl) (by rfl) (by rfl) rfl (by decide) (.cons hv .nil) (by rfl) (fun h₁ g F => ?_) (by rfl) (by rfl) (by rfl) s R e fun v h' tk' g p => kk v h' tk' ⟨g, p⟩
  have c := F.cx
  refine Xs.mono (Xs.ret (d := D.instN h 77 (algFs wd p i ri ro x)) (Ev.callkw c (Ev.glob c (by rfl) (gAlg _)) (by kernel_rfl)
    (Evk.cons (Ev.attri c (Ev.name c (by rfl)) (fo145_crc_width _) (by rfl)) (Evk.cons (Ev.attri c (Ev.name c (by rfl)) (fo145_polynomial _) (by rfl)) (Evk.cons (Ev.attri c (Ev.name c (by rfl)) (fo145_initial_crc _) (by rfl))
      (Evk.cons (Ev.attrb c (Ev.name c (by rfl)) (fo145_reflect_input _) (by rfl)) (Evk.cons (Ev.attrb c (Ev.name c (by rfl)) (fo145_reflect_output _) (by rfl)) (Evk.cons (Ev.attri c (Ev.name c (by rfl)) (fo145_xor_output _) (by rfl)) Evk.nil))))))
    fun vs h' g' hv => ?_)) ?_
  · exact (Cd.mono (ct_alg_new (rd _ |>.le (by omega)) ((c.mono g').gd) hv ok) fun v h'' p => ⟨p.1, p.fresh (g.trans g') (c.mono g').live⟩).call
  · rintro fl h' ⟨v, rfl, x⟩ _
    exact D.instN.any x l

/-- from a frame alone to a frame beside an object of its own -/
theorem Sf.of {K : Frag} {h₀ h : Heap} {env : Env} {μ : Names} {C x dx : Addr} {fs : List (Str × FD)} (F : Fm K h₀ env μ h) (a : h.get? x = some (instObj C dx)) (b : ∃ es n, h.get? dx = some (dictOf es n) ∧ Fs es fs) (nx : h₀.get? x = none) (ndx : h₀.get? dx = none) (dL : dx ≠ env.locals)
    (hfree : ∀ p ∈ μ, ∀ (f : Option Addr) (v : Value) (a b : Heap), p.2.at' f v a → p.2.at' f v b) (hc : env.cells = []) : Sf K h₀ env μ C x dx fs h := by
  refine ⟨F, a, b, nx, ndx, ?_, dL, hfree, hc⟩
  obtain ⟨m, n⟩ := F.ns
  intro q
  obtain ⟨oL, es, ep, hL, hd, _⟩ := n
  rw [q, hL] at a; cases a; cases hd
/-- .. of a name that holds it -/
theorem Fm.reval {K : Frag} {h₀ h : Heap} {env : Env} {μ : Names} (F : Fm K h₀ env μ h) {x : Str} {d : D} (e : μ.lookup x = some d) : ∃ v, d.at' env.frame v h ∧ Fm K h₀ env ((x, D.val v) :: μ) h := by
  obtain ⟨v, a, b⟩ := F.cx.nm x d e
  refine ⟨v, b, ⟨F.cx.kind, F.cx.glob, F.cx.blt, F.cx.gd, fun y d' e' => ?_, F.cx.live⟩, F.gd0, F.ns, F.cells, F.apart, F.keep, F.fresh, F.cabove, F.fr⟩
  rw [List.lookup_cons] at e'
  by_cases q : y = x
  · subst q; rw [beq_self_eq_true] at e'; cases e'; exact ⟨v, a, rfl⟩
  · rw [beq_eq_false_iff_ne.mpr q] at e'; exact F.cx.nm y d' e'
end Mine
end Fn6x
section Fn7x
open PySem PySem.W PyProof.Rows PySem.Calls
namespace Mine
variable {prog : Program} {w : World} {A : Around} {env : Env} {μ : Names} {h h₀ : Heap}
theorem Fm.other {K : Frag} {h₀ h : Heap} {env : Env} {μ : Names} {C' : Addr} {fs' : List (Str × FD)} {o : Expr} {v : Value} {fr : Option Addr} (F : Fm K h₀ env μ h) (ha : (D.inst C' fs').at' fr v h₀) (ho : Ev prog w A env h o (D.val v)) : Ev prog w A env h o (D.inst C' fs') := by
  intro h' g
  refine T.mono (ho h' g) fun u h'' p => ⟨p.1, ?_⟩
  obtain ⟨xa, dxa, es, n, e, a, b, c, d⟩ := ha
  have q : u = v := p.2
  have k : Gr h₀ h'' := F.keep.trans (g.trans p.1)
  refine ⟨xa, dxa, es, n, q.trans e, k _ _ a, k _ _ b, ?_, d⟩
  rw [F.fr]
  intro q
  have := Option.some.inj q
  have l := Heap.lt_size b
  have f := F.fresh
  rw [this] at f
  exact Nat.lt_irrefl _ (Nat.lt_of_lt_of_le l f)
theorem Fm.nm {K : Frag} {h₀ h : Heap} {env : Env} {μ : Names} {C' : Addr} {fs' : List (Str × FD)} {x : Str} {pos : Pos} {v : Value} {fr : Option Addr} (F : Fm K h₀ env μ h) (ha : (D.inst C' fs').at' fr v h₀) (e : μ.lookup x = some (D.val v)) (hb : (x == ("__debug__" : Str)) = false := by decide) : Ev prog w A env h (.Name x pos) (D.inst C' fs') :=
  F.other ha (Ev.name F.cx e hb)
theorem D.instN.up {hb h' k : Heap} {C : Addr} {fs : List (Str × FD)} {f : Option Addr} {v : Value} (g : Gr hb h') (x : (D.instN h' C fs).at' f v k) : (D.instN hb C fs).at' f v k := by
  obtain ⟨x1, dx1, es1, n1, e1, a1, b1, c1, d1, f1, f2⟩ := x
  have nn : ∀ a, h'.get? a = none → hb.get? a = none := fun a ha => by
    cases q : hb.get? a with
    | none => rfl
    | some o => rw [g _ _ q] at ha; cases ha
  exact ⟨x1, dx1, es1, n1, e1, a1, b1, c1, d1, nn _ f1, nn _ f2⟩
theorem Zs.consX {st : Stmt} {rest : List Stmt} {P : Heap → Prop} {Φ : Flow → Heap → Prop} (x : X prog w A env h st (go P)) (y : ∀ h', P h' → T prog w A (execs rest env) h' Φ) : T prog w A (execs (st :: rest) env) h Φ :=
  Zs.cons (T.mono x fun _ _ p => p.2) y
theorem ct_residue (r : room 12 A) (gd : Gd (KK w.params) h) {fr : Option Addr} {v : Value} {wd p i x n : Nat} {ri ro : Bool}
    (hv : (D.inst 145 (parFs wd p i ri ro x n)).at' fr v h) (ok : ParOk wd p i x n) (hx : x < 2 ^ wd) :
    Cd prog w A (.call (.ref 111) ⟨[v], []⟩) h fun v h' => Gr h h' := by
  have rd := r.deeper
  have h1w := ok.h1
  have h0w := ok.h0
  have ik : ∀ a : Nat, a < 2 ^ wd → 0 ≤ (a : Int) ∧ (a : Int) < 2 ^ (wd : Int).toNat := fun a ha => ⟨by omega, by
    rw [Int.toNat_natCast]
    have : ((2 ^ wd : Nat) : Int) = (2 : Int) ^ wd := by rw [Int.natCast_pow]; rfl
    omega⟩
  intro s R e kk
  refine call_core (K := KK w.params) (ns := ["self"]) (ds := [D.val v]) (fr := fr) (Φ := fun v h' => Gr h h') (by have := r.2.1; omega) gd (by rfl) (by rfl) (by kernel_rfl) (by rfl) (fun s hs => BindsTo.of_eq (by rfl)) (by rfl) (by rfl) (by rfl) rfl (by decide) (.cons rfl .nil) (by rfl) (fun h₁ g F => ?_) (by rfl) (by rfl) (by rfl) s R e fun v h' tk' g => kk v h' tk' g
  let z := if ro then reflN wd x else x
  have hz : z < 2 ^ wd := by show (if ro then _ else _) < _; split; exact Crc.reflN_lt wd x; exact hx
  have hz' := ok.h0
  refine Zs.consX (P := F.p [("init", D.nat z), ("self", D.val v)]) ((X.if (Ts.bool (Ev.attrb F.cx (F.nm hv (by rfl)) (fo145_reflect_output _) (by rfl))) (fun hc h₅ g => ?_) fun hc h₅ g => ?_)) fun h₂ F => ?_
  · have F := F.mono g
    refine Xs.cons (X.assign (d := D.nat z) F ((Ev.statInst (d := D.nat (reflN wd x)) F.cx (F.nm hv (by rfl)) (sReflect _) (by rfl) (Evs.cons (Ev.attri F.cx (F.nm hv (by rfl)) (fo145_xor_output _) (by rfl)) (Evs.cons (Ev.attri F.cx (F.nm hv (by rfl)) (fo145_crc_width _) (by rfl)) Evs.nil)) fun vs h' g hv => (ct_reflect (x := x) (n := wd) ((rd _).le (by omega)) ((F.mono g).gd) hv h0w h1w hx).call).to ?_) (.inl (by rfl))) fun h₆ F => Xs.nil ⟨rfl, F⟩
    show D.nat (reflN wd x) = D.nat (if ro then reflN wd x else x)
    rw [hc]; rfl
  · have F := F.mono g
    refine Xs.cons (X.assign (d := D.nat z) F ((Ev.attri F.cx (F.nm hv (by rfl)) (fo145_xor_output _) (by rfl)).to ?_) (.inl (by rfl))) fun h₆ F => Xs.nil ⟨rfl, F⟩
    show D.nat x = D.nat (if ro then reflN wd x else x)
    rw [hc]; rfl
  refine Zs.consX ((X.assign (d := D.instN h 77 (algFs wd p i ri ro x)) F (Ev.prop F.cx (F.nm hv (by rfl)) (pAlg _) (fun v h' g hv => ?_) fun u h' ⟨_, _, _, _, e, _⟩ => by rw [e]; rfl) (.inl (by rfl)))) fun h₃ F => ?_
  · have F' := F.mono g
    refine Cd.mono (ct_algprop (((rd _).in1).le (by omega)) F'.gd hv ⟨by omega, by omega, ik p ok.hp, ik i ok.hi, ik x hx⟩ F'.cx.live) fun u h'' q => ⟨q.1, ?_⟩
    obtain ⟨x1, dx1, es1, n1, e1, a1, b1, c1, d1, f1, f2⟩ := q.2
    have nn : ∀ a, h'.get? a = none → h.get? a = none := fun a ha => by
      cases q : h.get? a with
      | none => rfl
      | some o => rw [F'.keep _ _ q] at ha; cases ha
    exact ⟨x1, dx1, es1, n1, e1, a1, b1, c1, d1, nn _ f1, nn _ f2⟩
  obtain ⟨va, hva, F⟩ := F.reval (x := "algo") (by rfl)
  obtain ⟨xa, dxa, es, na, rfl, ha, hb, hc, hd, n1, n2⟩ := hva
  have S := Sf.of (F.pick ["algo", "init", "self"]) ha ⟨es, na, hb, hd⟩ n2 n1 (fun q => hc (by rw [F.fr, q])) (fun p hp => by
    have hp : p ∈ [(("algo" : Str), D.val (.ref xa)), ("init", D.nat z), ("self", D.val v)] := hp
    simp only [List.mem_cons, List.not_mem_nil, or_false] at hp
    rcases hp with rfl | rfl | rfl <;> exact fun _ _ _ _ q => q) (by rfl)
  refine Zs.cons (Sf.assign (d := .int z) S (Ev.name S.fm.cx (by rfl)) (Ev.name S.fm.cx (by rfl)) (so77_initial_crc _) (Nat.le_of_ble_eq_true rfl)) fun h₄ S => ?_
  refine Zs.cons (Sf.assign (d := .bool false) S Ev.litb (Ev.name S.fm.cx (by rfl)) (so77_reflect_input _) (Nat.le_of_ble_eq_true rfl)) fun h₄ S => ?_
  refine Zs.cons (Sf.assign (d := .int ((0 : Nat) : Int)) S Ev.litN (Ev.name S.fm.cx (by rfl)) (so77_xor_output _) (Nat.le_of_ble_eq_true rfl)) fun h₄ S => ?_
  have S : Sf _ _ _ _ _ _ _ (algFs wd p z false ro ((0 : Nat) : Int)) h₄ := S
  refine T.mono (Xs.ret (d := D.nat (check wd p z false ro 0 wd [0])) (Ev.meth S.fm.cx ((Ev.callInst (d := D.instN h₄ 145 (parFs wd p z false ro ((0 : Nat) : Int) wd)) S.fm.cx (S.self (Ev.name S.fm.cx (by rfl))) (cAlg _) (Evs.cons (Ev.attri S.fm.cx (S.fm.nm hv (by rfl)) (fo145_crc_width _) (by rfl)) Evs.nil) fun v vs h' g hv hvs => ?_).mono fun v h' q => D.instN.plain q) (mCompute _) (by rfl) (Evs.cons (Ev.disp (Evs.cons (Ev.litN (n := 0)) Evs.nil) (by decide) rfl) Evs.nil) fun v vs h' g hv hvs => (ct_compute (ws := [0]) ((rd _).le (by omega)) ((S.mono g).fm.gd) (.cons hv hvs) ⟨h0w, h1w, ok.hp, hz, h0w, h1w⟩ (fun a ha => by rw [List.mem_singleton.mp ha]; exact Nat.two_pow_pos _)).call)) fun fl h' p => fun b o e => p.1 b o (S.fm.keep b o e) (.inl (Nat.lt_of_lt_of_le (Heap.lt_size e) S.fm.fresh))
  exact Cd.mono (ct_acall (wd := wd) (p := p) (i := z) (ri := false) (ro := ro) (x := ((0 : Nat) : Int)) (n := wd) ((rd _).le (by omega)) ((S.mono g).fm.gd) (.cons hv hvs) (by omega) (S.mono g).fm.cx.live) fun v h'' q => ⟨q.1, D.instN.up g q.2⟩
end Mine
end Fn7x
section Crc3x
namespace Mine.Crc
theorem range_getD {α : Type} (ws : List α) (d : α) : (List.range ws.length).map (fun i => ws.getD i d) = ws := by
  refine List.ext_getElem (by simp) fun i h1 h2 => ?_
  simp [List.getD_eq_getElem?_getD, List.getElem?_eq_getElem h2]
theorem range_flatMap {α β : Type} (ws : List α) (d : α) (f : α → List β) : ((List.range ws.length).flatMap fun i => f (ws.getD i d)) = ws.flatMap f := by
  conv => rhs; rw [← range_getD ws d]
  rw [List.flatMap_map]
def nb (bs : List Bool) : List Nat := bs.map Bool.toNat
/-- what a row of bits makes -/
def wordOf (lo : Bool) (row : List Bool) : Nat := val (if lo then row.reverse else row)
def bwords (m n : Nat) (lo : Bool) (bs : List Bool) : List Nat := (List.range m).map fun k => wordOf lo ((bs.drop (k * n)).take n)
theorem wbits_wordOf {n : Nat} {lo : Bool} {row : List Bool} (h : row.length = n) : wbits n lo (wordOf lo row) = row := by
  unfold wbits wordOf
  cases lo
  · exact bitsHi_val n row h
  · simp only [if_true]
    rw [← bitsHi_rev, bitsHi_val n row.reverse (by rw [List.length_reverse]; exact h), List.reverse_reverse]
theorem wordOf_lt {lo : Bool} {row : List Bool} : wordOf lo row < 2 ^ row.length := by
  unfold wordOf
  have := val_lt (if lo then row.reverse else row)
  have e : (if lo = true then row.reverse else row).length = row.length := by split <;> simp
  rwa [e] at this
theorem wordOf_wbits {n x : Nat} {lo : Bool} (h : x < 2 ^ n) : wordOf lo (wbits n lo x) = x := by
  unfold wordOf wbits
  cases lo
  · exact val_bitsHi n x h
  · simp only [if_true]
    rw [← bitsHi_rev, List.reverse_reverse]
    exact val_bitsHi n x h
theorem chunk_len {n m k : Nat} {bs : List Bool} (h : bs.length = m * n) (hk : k < m) : ((bs.drop (k * n)).take n).length = n := by
  rw [List.length_take, List.length_drop, h]
  have : (k + 1) * n ≤ m * n := Nat.mul_le_mul_right n hk
  rw [Nat.succ_mul] at this
  omega
theorem bwords_lt {m n : Nat} {lo : Bool} {bs : List Bool} (h : bs.length = m * n) : ∀ a ∈ bwords m n lo bs, a < 2 ^ n := by
  intro a ha
  unfold bwords at ha
  obtain ⟨k, hk, rfl⟩ := List.mem_map.mp ha
  have := wordOf_lt (lo := lo) (row := (bs.drop (k * n)).take n)
  rwa [chunk_len h (List.mem_range.mp hk)] at this
theorem chunks_join {n : Nat} : ∀ (m : Nat) (bs : List Bool), bs.length = m * n → ((List.range m).flatMap fun k => (bs.drop (k * n)).take n) = bs
  | 0, bs, h => by
    have : bs = [] := List.length_eq_zero_iff.mp (by omega)
    subst this; rfl
  | m + 1, bs, h => by
    rw [List.range_succ_eq_map, List.flatMap_cons, List.flatMap_map]
    have ih := chunks_join (n := n) m (bs.drop n) (by rw [List.length_drop, h, Nat.succ_mul]; omega)
    have e : ((List.range m).flatMap fun k => (bs.drop (k.succ * n)).take n) = bs.drop n := by
      conv => rhs; rw [← ih]
      congr 1
      funext k
      rw [List.drop_drop]
      congr 2
      rw [Nat.succ_mul]; omega
    rw [e, Nat.zero_mul, List.drop_zero]
    exact List.take_append_drop n bs
theorem bitsOf_bwords {m n : Nat} {lo : Bool} {bs : List Bool} (h : bs.length = m * n) : bitsOf n lo (bwords m n lo bs) = bs := by
  unfold bitsOf bwords
  rw [List.flatMap_map]
  conv => rhs; rw [← chunks_join m bs h]
  have : ∀ k ∈ List.range m, wbits n lo (wordOf lo ((bs.drop (k * n)).take n)) = (bs.drop (k * n)).take n := fun k hk => wbits_wordOf (chunk_len h (List.mem_range.mp hk))
  have key : ∀ l : List Nat, (∀ k ∈ l, wbits n lo (wordOf lo ((bs.drop (k * n)).take n)) = (bs.drop (k * n)).take n) → (l.flatMap fun k => wbits n lo (wordOf lo ((bs.drop (k * n)).take n))) = l.flatMap fun k => (bs.drop (k * n)).take n := by
    intro l
    induction l with
    | nil => intro _; rfl
    | cons a l ih =>
      intro hl
      rw [List.flatMap_cons, List.flatMap_cons, hl a List.mem_cons_self, ih fun k hk => hl k (List.mem_cons_of_mem _ hk)]
  exact key _ this
theorem bitsOf_length (n : Nat) (lo : Bool) (ws : List Nat) : (bitsOf n lo ws).length = ws.length * n := by
  induction ws with
  | nil => simp [bitsOf]
  | cons x ws ih =>
    show (wbits n lo x ++ bitsOf n lo ws).length = _
    rw [List.length_append, ih, wbits_length, List.length_cons, Nat.succ_mul]; omega
theorem bitsOf_append (n : Nat) (lo : Bool) (a b : List Nat) : bitsOf n lo (a ++ b) = bitsOf n lo a ++ bitsOf n lo b := List.flatMap_append ..

/-- the sum of a row's shifted bits -/
theorem sum_hi : ∀ (row : List Bool), ((List.range row.length).map fun j => (row.getD j false).toNat * 2 ^ (row.length - 1 - j)).sum = val row := by
  intro row
  have key : ∀ (n : Nat) (row : List Bool), row.length = n → ((List.range n).map fun j => (row.getD j false).toNat * 2 ^ (n - 1 - j)).sum = val row := by
    intro n
    induction n with
    | zero => intro row h; have : row = [] := List.length_eq_zero_iff.mp h; subst this; rfl
    | succ n ih =>
      intro row h
      have hne : row ≠ [] := by intro e; rw [e] at h; simp at h
      have e := List.dropLast_concat_getLast hne
      generalize row.dropLast = ini at e
      generalize row.getLast hne = c at e
      subst e
      have hl : ini.length = n := by simpa using h
      rw [List.range_succ, List.map_append, List.sum_append, val_snoc, ← ih ini hl]
      have h1 : ∀ j ∈ List.range n, ((ini ++ [c]).getD j false).toNat * 2 ^ (n + 1 - 1 - j) = 2 * ((ini.getD j false).toNat * 2 ^ (n - 1 - j)) := by
        intro j hj
        have hj := List.mem_range.mp hj
        have e1 : (ini ++ [c]).getD j false = ini.getD j false := by
          rw [List.getD_eq_getElem?_getD, List.getD_eq_getElem?_getD, List.getElem?_append_left (by omega)]
        rw [e1, show n + 1 - 1 - j = (n - 1 - j) + 1 by omega, Nat.pow_succ]
        rw [Nat.mul_comm (2 ^ (n - 1 - j)) 2, ← Nat.mul_assoc, Nat.mul_comm _ 2, Nat.mul_assoc]
      rw [List.map_congr_left h1]
      have h2 : (ini ++ [c]).getD n false = c := by
        rw [List.getD_eq_getElem?_getD, List.getElem?_append_right (by omega), hl]; simp
      have h3 : ∀ (l : List Nat) (f : Nat → Nat), (l.map fun j => 2 * f j).sum = 2 * (l.map f).sum := by
        intro l f
        induction l with
        | nil => rfl
        | cons a l ih => rw [List.map_cons, List.sum_cons, List.map_cons, List.sum_cons, ih]; omega
      rw [h3, List.map_cons, List.map_nil, List.sum_cons, List.sum_nil, h2]
      simp
  exact key row.length row rfl
theorem sum_rev (n : Nat) (f : Nat → Nat) : ((List.range n).map fun j => f (n - 1 - j)).sum = ((List.range n).map f).sum := by
  have e : ((List.range n).map fun j => f (n - 1 - j)) = ((List.range n).map f).reverse := by
    refine List.ext_getElem (by simp) fun i h1 h2 => ?_
    simp [List.getElem_reverse]
  rw [e, List.sum_reverse]
theorem sum_lo (row : List Bool) : ((List.range row.length).map fun j => (row.getD j false).toNat * 2 ^ j).sum = val row.reverse := by
  rw [← sum_hi row.reverse, ← sum_rev row.length (fun j => (row.getD j false).toNat * 2 ^ j), List.length_reverse]
  congr 1
  refine List.map_congr_left fun j hj => ?_
  have hj := List.mem_range.mp hj
  rw [List.getD_eq_getElem?_getD, List.getD_eq_getElem?_getD, List.getElem?_reverse (by omega)]
theorem sum_word (lo : Bool) (row : List Bool) : ((List.range row.length).map fun j => (row.getD j false).toNat * 2 ^ (if lo then j else row.length - 1 - j)).sum = wordOf lo row := by
  cases lo
  · exact sum_hi row
  · exact sum_lo row
end Mine.Crc
end Crc3x
section Fn8x
open PySem PySem.W PyProof.Rows PySem.Calls
namespace Mine
variable {prog : Program} {w : World} {A : Around} {env : Env} {μ : Names} {h h₀ : Heap}
open Crc
theorem and_one (a : Nat) : a &&& 1 = (a.testBit 0).toNat := by
  rw [Nat.and_one_is_mod, Nat.testBit_zero]
  rcases Nat.mod_two_eq_zero_or_one a with e | e <;> rw [e] <;> rfl
theorem shift_bit (x k : Nat) : (x / 2 ^ k) &&& 1 = (x.testBit k).toNat := by
  rw [and_one]
  congr 1
  rw [← Nat.shiftRight_eq_div_pow, Nat.testBit_shiftRight]
  rfl
theorem D.nats_any {ws : List Nat} {f f' : Option Addr} {v : Value} {h : Heap} (x : (D.nats ws).at' f v h) : (D.nats ws).at' f' v h := by
  obtain ⟨a, vs, e, l, r⟩ := x
  exact ⟨a, vs, e, l, All2.map_right ((All2.of_map_right r).imp fun _ _ q => q)⟩
theorem wbits_range (n : Nat) (lo : Bool) (x : Nat) : wbits n lo x = (List.range n).map fun j => x.testBit (if lo then j else n - 1 - j) := by
  unfold wbits bitsHi
  cases lo <;> rfl
theorem ct_bits (r : room 4 A) (gd : Gd (KK w.params) h) {fr : Option Addr} {vs : List Value} {ws : List Nat} {n : Nat} {lo : Bool}
    (hv : All2 (fun v d => d.at' fr v h) vs [D.nats ws, D.nat n, D.bool lo]) (hn : n ≤ 1000) (hw : ws.length ≤ 1000) (l : ∀ L, fr = some L → ∃ o, h.get? L = some o) :
    Cd prog w A (.call (.ref 161) ⟨vs, []⟩) h fun v h' => Gr h h' ∧ (D.nats (nb (bitsOf n lo ws))).at' fr v h' := by
  obtain ⟨a, b, c, rfl, h1, h2, h3⟩ := hv.three
  have rd := r.deeper
  intro s R e kk
  refine call_own (K := KK w.params) (ns := ["words", "width", "lowest"]) (fr := fr) (Φ := fun v h' => (D.nats (nb (bitsOf n lo ws))).at' fr v h') (by have := r.2.1; omega) gd (by rfl) (by rfl) (by kernel_rfl) (by rfl) (fun s _ => BindsTo.of_eq (by rfl)) (by rfl) (by rfl) (by rfl) rfl (by decide) hv (by rfl) (fun h₁ g F => ?_) (by rfl) (by rfl) (by rfl) s R e fun v h' tk' g p => kk v h' tk' ⟨g, p⟩
  have c := F.cx
  have eq : ((List.range ws.length).flatMap fun i => (List.range n).map fun j => D.int ((((ws.getD i 0).testBit (if lo then j else n - 1 - j)).toNat : Nat) : Int)) = (nb (bitsOf n lo ws)).map D.nat := by
    rw [range_flatMap ws 0 (fun x => (List.range n).map fun j => D.int (((x.testBit (if lo then j else n - 1 - j)).toNat : Nat) : Int))]
    unfold nb bitsOf
    rw [List.map_flatMap, List.map_flatMap]
    congr 1
    funext x
    rw [wbits_range, List.map_map, List.map_map]
    rfl
  refine Xs.mono (Xs.ret (d := D.nats (nb (bitsOf n lo ws))) (Ev.to (Ev.comp2 (n := ws.length) (n2 := n) (μs := fun i => [("word", D.nat (ws.getD i 0))]) (val := fun i j => ((((ws.getD i 0).testBit (if lo then j else n - 1 - j)).toNat : Nat) : Int)) (a2 := 0) (b2 := n) (c2 := 1) r.1 c (Src.nats r.1 (Ev.name c (by rfl))) ["width", "lowest"]
    (fun i hi C h₁ g c => Ev.range1 (Ev.bRange c (kb _)) (Ev.name c (by rfl))) (upto_small (by omega)) (upto_size n) (fun i hi j hj C h₁ g c => ?_) ?_ (fun i => by rfl)) ?_)) ?_
  · refine Ev.to (Ev.andN (Ev.shrN (a := ws.getD i 0) (b := if lo then j else n - 1 - j) (Ev.name c (by rfl)) (Ev.ite (Ts.bool (Ev.name c (by rfl))) (fun hc => ?_) fun hc => ?_)) Ev.litN) (by rw [shift_bit])
    · rw [hc]; exact Ev.cast (a := 0 + (j : Int) * 1) (Ev.name c (by rfl)) (by rw [if_pos rfl]; omega)
    · rw [hc]; exact Ev.subN (Ev.subN (Ev.name c (by rfl)) Ev.litN (by omega)) (Ev.cast (a := 0 + (j : Int) * 1) (b := ((j : Nat) : Int)) (Ev.name c (by rfl)) (by omega)) (by omega)
  · exact Nat.le_trans (Nat.mul_le_mul hw hn) (by decide)
  · show D.list _ = D.list _
    rw [eq]
  · rintro fl h' ⟨v, rfl, x⟩ _
    exact D.nats_any x
end Mine
end Fn8x
section Fn9x
open PySem PySem.W PyProof.Rows PySem.Calls
namespace Mine
variable {prog : Program} {w : World} {A : Around} {env : Env} {μ : Names} {h h₀ : Heap}
open Crc
theorem nb_getD (bs : List Bool) (j : Nat) : (nb bs).getD j 0 = (bs.getD j false).toNat := by
  unfold nb
  rw [List.getD_eq_getElem?_getD, List.getD_eq_getElem?_getD, List.getElem?_map]
  cases bs[j]? <;> rfl
theorem nb_chunk (bs : List Bool) (k n : Nat) : ((nb bs).drop (k * n)).take (k * n + n - k * n) = nb ((bs.drop (k * n)).take n) := by
  unfold nb
  rw [Nat.add_sub_cancel_left, List.map_take, List.map_drop]
theorem Cx.lives {K : Frag} {env : Env} {μ : Names} {h : Heap} {x : Str} {d : D} (c : Cx K env μ h) (e : μ.lookup x = some d) (k : env.kindOf x = some .local) {h' : Heap} (g : Gr h h') : env.locals < h'.objs.size := by
  obtain ⟨v, a, b⟩ := c.nm x d e
  rcases a with ⟨_, m, n, _⟩ | ⟨kc, _⟩
  · exact (n.keeps g).lt
  · rw [k] at kc; cases kc
theorem ct_words (r : room 4 A) (gd : Gd (KK w.params) h) {fr : Option Addr} {vs : List Value} {bs : List Bool} {m n : Nat} {lo : Bool}
    (hv : All2 (fun v d => d.at' fr v h) vs [D.nats (nb bs), D.nat n, D.bool lo]) (hl : bs.length = m * n) (hn : 1 ≤ n) (hn' : n ≤ 40) (hm : m ≤ 1000) :
    Cd prog w A (.call (.ref 166) ⟨vs, []⟩) h fun v h' => Gr h h' ∧ (D.nats (bwords m n lo bs)).at' fr v h' := by
  obtain ⟨a, b, c, rfl, h1, h2, h3⟩ := hv.three
  have rd := r.deeper
  have hmn : m * n ≤ 40000 := Nat.le_trans (Nat.mul_le_mul hm hn') (by decide)
  have hnbl : (nb bs).length = m * n := by unfold nb; rw [List.length_map, hl]
  intro s R e kk
  refine call_own (K := KK w.params) (ns := ["bits", "width", "lowest"]) (fr := fr) (Φ := fun v h' => (D.nats (bwords m n lo bs)).at' fr v h') (by have := r.2.1; omega) gd (by rfl) (by rfl) (by kernel_rfl) (by rfl) (fun s _ => BindsTo.of_eq (by rfl)) (by rfl) (by rfl) (by rfl) rfl (by decide) hv (by rfl) (fun h₁ g F => ?_) (by rfl) (by rfl) (by rfl) s R e fun v h' tk' g p => kk v h' tk' ⟨g, p⟩
  have c := F.cx
  refine Xs.cons (X.assignComp (n := m) (μs := fun k => [("k", D.nat (k * n))]) (p := fun _ => true) (dd := fun lo k => D.listGt lo ((nb ((bs.drop (k * n)).take n)).map D.nat)) (dd' := fun k => D.nats (nb ((bs.drop (k * n)).take n))) F
    (Src.by r.1 (Ev.range3 (Ev.bRange c (kb _)) Ev.lit (Ev.to (Ev.lenN (Ev.bLen c (kb _)) (Ev.name c (by rfl)) (by omega)) (by rw [hnbl])) (Ev.name c (by rfl)) (by omega) (noPy (by omega))) hn (by omega) (by omega)) ["bits", "width"]
    (fun k hk C h₁ g c => rfl) (fun k hk _ C h₁ g hC c => ?_) (fun lo k _ => Far.nats) (fun lo k f u h q => D.listGt.plain q) (by omega) (by rfl)) fun h₂ F => ?_
  · have hk1 : k * n + n ≤ m * n := by
      have : (k + 1) * n ≤ m * n := Nat.mul_le_mul_right n hk
      rw [Nat.succ_mul] at this; exact this
    rw [← nb_chunk]
    exact Ev.sliceN (Ev.name c (by rfl)) (Ev.name c (by rfl)) (Ev.addN (Ev.name c (by rfl)) (Ev.name c (by rfl))) (by omega) (fun h' g => c.lives (x := "k") (by rfl) (by rfl) g) (by omega) (by omega)
  · rw [filt] at F
    have c := F.cx
    have hlen : ((List.range m).map fun k => D.nats (nb ((bs.drop (k * n)).take n))).length = m := by simp
    have hget : ∀ i, i < m → ((List.range m).map fun k => D.nats (nb ((bs.drop (k * n)).take n))).getD i (D.nats []) = D.nats (nb ((bs.drop (i * n)).take n)) := fun i hi => by
      rw [List.getD_eq_getElem?_getD, List.getElem?_map, List.getElem?_range hi]; rfl
    refine Xs.mono (Xs.ret (d := D.nats (bwords m n lo bs)) (Ev.mono (d := D.listGt 0 ((((List.range ((List.range m).map fun k => D.nats (nb ((bs.drop (k * n)).take n))).length).filter fun _ => true).map fun k => D.nat (wordOf lo ((bs.drop (k * n)).take n))))) (Ev.compGt
      (μs := fun i => [("row", ((List.range m).map fun k => D.nats (nb ((bs.drop (k * n)).take n))).getD i (D.nats []))]) (p := fun _ => true) (dd := fun _ k => D.nat (wordOf lo ((bs.drop (k * n)).take n))) c (Src.list r.1 (Ev.name c (by rfl))) ["lowest", "width"] (fun h' g => Nat.zero_le _) (fun k hk C h₁ g c => rfl)
      (fun i hi _ C h₁ g hC c => ?_) (fun _ _ _ => Far.int) (fun _ _ _ _ _ q => q) (by omega)) ?_)) ?_
    · rw [hlen] at hi
      rw [hget i hi] at c
      have hrow := chunk_len hl hi
      generalize (bs.drop (i * n)).take n = row at c hrow
      have hnr : (nb row).length = n := by unfold nb; rw [List.length_map, hrow]
      have hsum := sum_word lo row
      rw [hrow] at hsum
      have hlt := wordOf_lt (lo := lo) (row := row)
      rw [hrow] at hlt
      have hlt2 : 2 ^ n < 2 ^ 62 := Nat.pow_lt_pow_right (by decide) (by omega)
      refine Ev.to (Ev.sumN (ns := (List.range (nb row).length).map fun j => (row.getD j false).toNat * 2 ^ (if lo then j else n - 1 - j)) r.1 (Ev.bSum c (kb _)) (Ev.mono (d := D.listGt 0 (((List.range (nb row).length).filter fun _ => true).map fun j => D.nat ((row.getD j false).toNat * 2 ^ (if lo then j else n - 1 - j)))) (Ev.compGt
        (μs := fun i => [("k", D.nat i), ("bit", D.nat ((nb row).getD i 0))]) (p := fun _ => true) (dd := fun _ j => D.nat ((row.getD j false).toNat * 2 ^ (if lo then j else n - 1 - j))) c (Src.enumN r.1 (Ev.bEnum c (kb _)) (Ev.name c (by rfl))) ["lowest", "width"] (fun h' g => Nat.zero_le _) (fun k hk C h₁ g c => rfl)
        (fun j hj _ C h₁ g hC c => ?_) (fun _ _ _ => Far.int) (fun _ _ _ _ _ q => q) (by omega)) ?_) ?_) ?_
      · rw [nb_getD] at c
        rw [hnr] at hj
        refine Ev.shlN 1 (Ev.name c (by rfl)) (Ev.ite (Ts.bool (Ev.name c (by rfl))) (fun hc => ?_) fun hc => ?_) (by cases row.getD j false <;> decide) (by split <;> omega)
        · rw [hc]; exact Ev.name c (by rfl)
        · rw [hc]; exact Ev.subN (Ev.subN (Ev.name c (by rfl)) Ev.litN (by omega)) (Ev.name c (by rfl)) (by omega)
      · intro v h' q
        have q := D.listGt.plain q
        rw [filt] at q
        show (D.list _).at' _ _ _
        rw [List.map_map]; exact q
      · rw [hnr, hsum]; omega
      · rw [hnr, hsum]
    · intro v h' q
      have q := D.listGt.plain q
      rw [filt, hlen] at q
      show (D.list ((bwords m n lo bs).map D.nat)).at' _ _ _
      unfold bwords
      rw [List.map_map]; exact q
    · rintro fl h' ⟨v, rfl, x⟩ _
      exact D.nats_any x
end Mine
end Fn9x
section Fn10x
open PySem PySem.W PyProof.Rows PySem.Calls
namespace Mine
variable {prog : Program} {w : World} {A : Around} {env : Env} {μ : Names} {h h₀ : Heap}
open Crc
/-- one step with nothing put in, as the order's loop does it -/
theorem step_loop {wd p s : Nat} (hw : 1 ≤ wd) (hp : p < 2 ^ wd) (hs : s < 2 ^ wd) : Crc.step wd p s false = if (((s * 2) / 2 ^ wd &&& 1) == 1) = true then (s * 2) ^^^ (1 * 2 ^ wd ||| p) else s * 2 := by
  rw [shift_bit]
  have hb : (s * 2).testBit wd = s.testBit (wd - 1) := by
    obtain ⟨k, rfl⟩ : ∃ k, wd = k + 1 := ⟨wd - 1, by omega⟩
    rw [Nat.testBit_succ]
    congr 1
    omega
  rw [hb]
  unfold Crc.step
  rw [Bool.xor_false]
  have h2 : s * 2 < 2 ^ (wd + 1) := by rw [Nat.pow_succ]; omega
  cases q : s.testBit (wd - 1) with
  | false =>
    have hlt : s * 2 < 2 ^ wd := by
      refine Nat.lt_pow_two_of_testBit _ fun i hi => ?_
      by_cases e : i = wd
      · rw [e, hb, q]
      · exact Nat.testBit_lt_two_pow (Nat.lt_of_lt_of_le h2 (Nat.pow_le_pow_right (by decide) (by omega)))
    rw [Nat.mul_comm 2 s, Nat.mod_eq_of_lt hlt]
    simp
  | true =>
    have hor : (1 * 2 ^ wd ||| p) = 2 ^ wd ^^^ p := by
      refine Nat.eq_of_testBit_eq fun i => ?_
      rw [Nat.one_mul, Nat.testBit_or, Nat.testBit_xor, Nat.testBit_two_pow]
      by_cases e : wd = i
      · subst e; rw [Nat.testBit_lt_two_pow hp]; simp
      · simp [e]
    have hm : s * 2 = 2 ^ wd ^^^ (s * 2) % 2 ^ wd := by
      refine Nat.eq_of_testBit_eq fun i => ?_
      rw [Nat.testBit_xor, Nat.testBit_two_pow, Nat.testBit_mod_two_pow]
      by_cases e : wd = i
      · subst e; rw [hb, q]; simp
      · by_cases l : i < wd
        · simp [e, l]
        · rw [Nat.testBit_lt_two_pow (Nat.lt_of_lt_of_le h2 (Nat.pow_le_pow_right (by decide) (by omega)))]
          simp [e, l]
    rw [Nat.mul_comm 2 s, hor]
    simp only [Bool.toNat_true, beq_self_eq_true, if_true]
    conv => rhs; rw [hm]
    rw [Nat.xor_assoc, ← Nat.xor_assoc _ (2 ^ wd) p, Nat.xor_comm _ (2 ^ wd), Nat.xor_assoc (2 ^ wd), xxc]
theorem ct_order (r : room 4 A) (gd : Gd (KK w.params) h) {fr : Option Addr} {vs : List Value} {wd p n : Nat}
    (hv : All2 (fun v d => d.at' fr v h) vs [D.nat wd, D.nat p]) (hw : 1 ≤ wd) (hw' : wd ≤ 8) (hp1 : p % 2 = 1) (hp : p < 2 ^ wd) (hn : 1 ≤ n) (hz : Z wd p n 1 = 1) (least : ∀ m, 1 ≤ m → m < n → Z wd p m 1 ≠ 1) :
    Cd prog w A (.call (.ref 173) ⟨vs, []⟩) h fun v h' => Gr h h' ∧ (D.nat n).at' fr v h' := by
  obtain ⟨a, b, rfl, h1, h2⟩ := hv.two
  have rd := r.deeper
  intro s R e kk
  refine call_own (K := KK w.params) (ns := ["width", "polynomial"]) (fr := fr) (Φ := fun v h' => (D.nat n).at' fr v h') (by have := r.2.1; omega) gd (by rfl) (by rfl) (by kernel_rfl) (by rfl) (fun s _ => BindsTo.of_eq (by rfl)) (by rfl) (by rfl) (by rfl) rfl (by decide) hv (by rfl) (fun h₁ g F => ?_) (by rfl) (by rfl) (by rfl) s R e fun v h' tk' g p => kk v h' tk' ⟨g, p⟩
  have h1w := one_lt (w := wd) hw
  have hZ1 : Z wd p 1 1 = if decide (1 < wd) = true then 2 else 2 ^^^ (1 * 2 ^ wd ||| p) := by
    show Crc.step wd p 1 false = _
    rw [step_loop hw hp h1w]
    by_cases q : wd = 1
    · subst q; rfl
    · have : 2 ^ 1 < 2 ^ wd := Nat.pow_lt_pow_right (by decide) (by omega)
      rw [Nat.one_mul, Nat.div_eq_of_lt (by omega), decide_eq_true (show 1 < wd by omega)]
      rfl
  refine Xs.cons (X.assign (d := D.nat (1 * 2 ^ wd ||| p)) F (Ev.orN (Ev.shlN 1 Ev.litN (Ev.name F.cx (by rfl)) (by decide) (by omega)) (Ev.name F.cx (by rfl))) (.inl (by rfl))) fun h₂ F => ?_
  refine Xs.cons (X.assign2s (d := D.nat (Z wd p 1 1)) (d' := D.nat 1) r.1 F (Ev.tup (Evs.cons (Ev.ite (c := decide (1 < wd)) (Ts.gtN (Ev.name F.cx (by rfl)) Ev.litN) (fun hc => Ev.to Ev.litN (by rw [hZ1, hc]; rfl)) fun hc => Ev.to (Ev.xorN (a := 2) Ev.litN (Ev.name F.cx (by rfl))) (by rw [hZ1, hc]; rfl)) (Evs.cons Ev.litN Evs.nil)) (by decide) rfl) (.inl (by rfl)) (.inl (by rfl))) fun h₃ F => ?_
  have F₀ := F.pick ["state", "count", "whole", "width"]
  have hlt8 : 2 ^ wd ≤ 2 ^ 8 := Nat.pow_le_pow_right (by decide) hw'
  refine Xs.cons (X.while (n - 1) (fun i => [("state", D.nat (Z wd p (i + 1) 1)), ("count", D.nat (i + 1)), ("whole", D.nat (1 * 2 ^ wd ||| p)), ("width", D.nat wd)]) F₀ (fun i hi h' F => ?_) fun i hi h' F => ?_) fun h₄ F => ?_
  · have e : (Z wd p (i + 1) 1 != 1) = decide (i < n - 1) := by
      by_cases q : i < n - 1
      · rw [decide_eq_true q, bne_iff_ne]
        exact least _ (by omega) (by omega)
      · rw [decide_eq_false q]
        have : i + 1 = n := by omega
        rw [this, hz]; rfl
    rw [← e]
    exact Ts.neN (Ev.name F.cx (by rfl)) Ev.litN
  · have hs := Z_lt (w := wd) (p := p) hp (i + 1) h1w
    have hnext : Z wd p (i + 1 + 1) 1 = if (((Z wd p (i + 1) 1 * 2) / 2 ^ wd &&& 1) == 1) = true then (Z wd p (i + 1) 1 * 2) ^^^ (1 * 2 ^ wd ||| p) else Z wd p (i + 1) 1 * 2 := by
      rw [Z_succ, step_loop hw hp hs]
    generalize Z wd p (i + 1) 1 = S at F hs hnext
    refine Xs.cons (X.assign (d := D.nat (S * 2)) F (Ev.mulN (Ev.name F.cx (by rfl)) Ev.litN (by omega) (by omega)) (.inl (by rfl))) fun h₂ F => ?_
    refine Xs.cons (P := F.p [("state", D.nat (Z wd p (i + 1 + 1) 1)), ("count", D.nat (i + 1)), ("whole", D.nat (1 * 2 ^ wd ||| p)), ("width", D.nat wd)]) (X.if (Ts.eqN (Ev.andN (Ev.shrN (Ev.name F.cx (by rfl)) (Ev.name F.cx (by rfl))) Ev.litN) Ev.litN) (fun hc h₅ g => ?_) fun hc h₅ g => ?_) fun h₅ F => ?_
    · have F := F.mono g
      refine Xs.cons (X.assign (d := D.nat (S * 2 ^^^ (1 * 2 ^ wd ||| p))) F (Ev.xorN (Ev.name F.cx (by rfl)) (Ev.name F.cx (by rfl))) (.inl (by rfl))) fun h₂ F => Xs.nil ⟨rfl, ?_⟩
      rw [hnext, hc, if_pos rfl]
      exact F.pick ["state", "count", "whole", "width"]
    · have F := F.mono g
      refine Xs.nil ⟨rfl, ?_⟩
      rw [hnext, hc, if_neg (by decide)]
      exact F.pick ["state", "count", "whole", "width"]
    refine Xs.cons (X.assign (d := D.nat (i + 1 + 1)) F (Ev.addN (Ev.name F.cx (by rfl)) Ev.litN) (.inl (by rfl))) fun h₂ F => Xs.nil ⟨rfl, F.pick ["state", "count", "whole", "width"]⟩
  · have e : n - 1 + 1 = n := by omega
    refine Xs.mono (Xs.ret (Ev.name F.cx (by rfl))) ?_
    rintro fl h' ⟨v, rfl, x⟩ _
    rw [e] at x
    exact x
end Mine
end Fn10x
section Rules1x
open PySem PySem.W PyProof.Rows PySem.Calls
namespace Mine
variable {prog : Program} {w : World} {A : Around} {env : Env} {μ : Names} {h h₀ : Heap}
open Crc
theorem ik {wd a : Nat} (ha : a < 2 ^ wd) : 0 ≤ (a : Int) ∧ (a : Int) < 2 ^ (wd : Int).toNat := ⟨by omega, by
    rw [Int.toNat_natCast]
    have : ((2 ^ wd : Nat) : Int) = (2 : Int) ^ wd := by rw [Int.natCast_pow]; rfl
    omega⟩
theorem Ev.newAlg {ks : List Keyword} {p pos : Pos} {wd pl i x : Nat} {ri ro : Bool} (r : room 6 A) (c : Cx (KK w.params) env μ h) (y : Evk prog w A env h pos ks [D.nat wd, D.nat pl, D.nat i, D.bool ri, D.bool ro, D.nat x]) (h0 : 1 ≤ wd) (h1 : wd ≤ 40) (hp : pl < 2 ^ wd) (hi : i < 2 ^ wd) (hx : x < 2 ^ wd)
    (hnames : (backToKw pos (keywordEach ks env)).filterMap (·.1) = (["crc_width", "polynomial", "initial_crc", "reflect_input", "reflect_output", "xor_output"] : List Str) := by rfl) (hk : env.kindOf "Algorithm" = some .globalImplicit := by rfl)
    (hall : (backToKw pos (keywordEach ks env)).all (·.1.isSome) = true := by rfl)
    (he : eval (.Call (.Name "Algorithm" p) [] ks pos) env = (do callWith pos (← eval (.Name "Algorithm" p) env) [] (backTo pos (starEach [] env)) (backToKw pos (keywordEach ks env))) := by rfl)
    (hplain : ((backTo pos (starEach [] env)).any (·.1) || (backToKw pos (keywordEach ks env)).any (·.1.isNone)) = false := by rfl) : Ev prog w A env h (.Call (.Name "Algorithm" p) [] ks pos) (D.inst 77 (algFs wd pl i ri ro x)) :=
  Ev.callkw c (Ev.glob c hk (gAlg _)) (by kernel_rfl) y (fun vs h' g hv => by
    rw [hnames]
    exact (Cd.mono (ct_alg_new (prog := prog) r ((c.mono g).gd) hv ⟨by omega, by omega, ik hp, ik hi, ik hx⟩) fun v h'' p => ⟨p.1, p.at (c.mono g).live⟩).call) hall he hplain
theorem Ev.acall {fe e : Expr} {pos : Pos} {wd pl i x : Int} {n : Nat} {ri ro : Bool} (r : room 8 A) (c : Cx (KK w.params) env μ h) (x' : Ev prog w A env h fe (D.inst 77 (algFs wd pl i ri ro x))) (y : Ev prog w A env h e (D.nat n)) (hn : 0 < n)
    (he : eval (.Call fe [e] [] pos) env = (do callWith pos (← eval fe env) [] (backTo pos (starEach [e] env)) (backToKw pos (keywordEach [] env))) := by rfl)
    (hs : starEach [e] env = (false, eval e env) :: starEach [] env := by rfl) (hplain : (backTo pos (starEach [] env)).any (·.1) = false := by rfl) : Ev prog w A env h (.Call fe [e] [] pos) (D.inst 145 (parFs wd pl i ri ro x n)) :=
  Ev.callInst c x' (cAlg _) (Evs.cons y Evs.nil hs) (fun v vs h' g hv hvs => Cd.mono (ct_acall r ((c.mono g).gd) (.cons hv hvs) (by omega) (c.mono g).live) fun v h'' q => ⟨q.1, D.instN.plain q.2⟩) he hs hplain
theorem Ev.compute {o e : Expr} {apos pos : Pos} {pl' : Sem Bool} {wd pl i x n : Nat} {ri ro : Bool} {ws : List Nat} (r : room 6 A) (c : Cx (KK w.params) env μ h) (x' : Ev prog w A env h o (D.inst 145 (parFs wd pl i ri ro x n))) (y : Ev prog w A env h e (D.nats ws)) (ok : ParOk wd pl i x n) (hw : ∀ a ∈ ws, a < 2 ^ n)
    (he : eval (.Call (.Attribute o "compute" apos) [e] [] pos) env = (do
      let ov ← eval o env
      standAt apos.atName
      let (f, first) ← holding [ov] (getMethod ov "compute" pl')
      callWith pos f first (backTo pos (starEach [e] env)) (backToKw pos (keywordEach [] env))) := by rfl)
    (hs : starEach [e] env = (false, eval e env) :: starEach [] env := by rfl) (hplain : (backTo pos (starEach [] env)).any (·.1) = false := by rfl) : Ev prog w A env h (.Call (.Attribute o "compute" apos) [e] [] pos) (D.nat (check wd pl i ri ro x n ws)) :=
  Ev.meth c x' (mCompute _) rfl (Evs.cons y Evs.nil hs) (fun v vs h' g hv hvs => (ct_compute r ((c.mono g).gd) (.cons hv hvs) ok hw).call) he hs hplain
theorem Ev.lawBits {e₁ e₂ e₃ : Expr} {p pos : Pos} {ws : List Nat} {n : Nat} {lo : Bool} (r : room 4 A) (c : Cx (KK w.params) env μ h) (y₁ : Ev prog w A env h e₁ (D.nats ws)) (y₂ : Ev prog w A env h e₂ (D.nat n)) (y₃ : Ev prog w A env h e₃ (D.bool lo)) (hn : n ≤ 1000) (hw : ws.length ≤ 1000)
    (hk : env.kindOf "_law_bits" = some .globalImplicit := by rfl)
    (he : eval (.Call (.Name "_law_bits" p) [e₁, e₂, e₃] [] pos) env = (do callWith pos (← eval (.Name "_law_bits" p) env) [] (backTo pos (starEach [e₁, e₂, e₃] env)) (backToKw pos (keywordEach [] env))) := by rfl)
    (h1 : starEach [e₁, e₂, e₃] env = (false, eval e₁ env) :: starEach [e₂, e₃] env := by rfl) (h2 : starEach [e₂, e₃] env = (false, eval e₂ env) :: starEach [e₃] env := by rfl) (h3 : starEach [e₃] env = (false, eval e₃ env) :: starEach [] env := by rfl)
    (hplain : (backTo pos (starEach [e₂, e₃] env)).any (·.1) = false := by rfl) : Ev prog w A env h (.Call (.Name "_law_bits" p) [e₁, e₂, e₃] [] pos) (D.nats (nb (bitsOf n lo ws))) :=
  Ev.callk c (Ev.glob c hk (gBits _)) (by kernel_rfl) (Evs.cons y₁ (Evs.cons y₂ (Evs.cons y₃ Evs.nil h3) h2) h1) (fun vs h' g hv => (ct_bits r ((c.mono g).gd) hv hn hw (c.mono g).live).call) he h1 hplain
theorem Ev.lawWords {e₁ e₂ e₃ : Expr} {p pos : Pos} {bs : List Bool} {n m : Nat} {lo : Bool} (r : room 4 A) (c : Cx (KK w.params) env μ h) (y₁ : Ev prog w A env h e₁ (D.nats (nb bs))) (y₂ : Ev prog w A env h e₂ (D.nat n)) (y₃ : Ev prog w A env h e₃ (D.bool lo)) (hl : bs.length = m * n) (hn : 1 ≤ n) (hn' : n ≤ 40) (hm : m ≤ 1000)
    (hk : env.kindOf "_law_words" = some .globalImplicit := by rfl)
    (he : eval (.Call (.Name "_law_words" p) [e₁, e₂, e₃] [] pos) env = (do callWith pos (← eval (.Name "_law_words" p) env) [] (backTo pos (starEach [e₁, e₂, e₃] env)) (backToKw pos (keywordEach [] env))) := by rfl)
    (h1 : starEach [e₁, e₂, e₃] env = (false, eval e₁ env) :: starEach [e₂, e₃] env := by rfl) (h2 : starEach [e₂, e₃] env = (false, eval e₂ env) :: starEach [e₃] env := by rfl) (h3 : starEach [e₃] env = (false, eval e₃ env) :: starEach [] env := by rfl)
    (hplain : (backTo pos (starEach [e₂, e₃] env)).any (·.1) = false := by rfl) : Ev prog w A env h (.Call (.Name "_law_words" p) [e₁, e₂, e₃] [] pos) (D.nats (bwords m n lo bs)) :=
  Ev.callk c (Ev.glob c hk (gWords _)) (by kernel_rfl) (Evs.cons y₁ (Evs.cons y₂ (Evs.cons y₃ Evs.nil h3) h2) h1) (fun vs h' g hv => (ct_words r ((c.mono g).gd) hv hl hn hn' hm).call) he h1 hplain
theorem Ev.lawOrder {e₁ e₂ : Expr} {p pos : Pos} {wd pl n : Nat} (r : room 4 A) (c : Cx (KK w.params) env μ h) (y₁ : Ev prog w A env h e₁ (D.nat wd)) (y₂ : Ev prog w A env h e₂ (D.nat pl)) (hw : 1 ≤ wd) (hw' : wd ≤ 8) (hp1 : pl % 2 = 1) (hp : pl < 2 ^ wd) (hn : 1 ≤ n) (hz : Z wd pl n 1 = 1) (least : ∀ m, 1 ≤ m → m < n → Z wd pl m 1 ≠ 1)
    (hk : env.kindOf "_law_order" = some .globalImplicit := by rfl)
    (he : eval (.Call (.Name "_law_order" p) [e₁, e₂] [] pos) env = (do callWith pos (← eval (.Name "_law_order" p) env) [] (backTo pos (starEach [e₁, e₂] env)) (backToKw pos (keywordEach [] env))) := by rfl)
    (h1 : starEach [e₁, e₂] env = (false, eval e₁ env) :: starEach [e₂] env := by rfl) (h2 : starEach [e₂] env = (false, eval e₂ env) :: starEach [] env := by rfl)
    (hplain : (backTo pos (starEach [e₂] env)).any (·.1) = false := by rfl) : Ev prog w A env h (.Call (.Name "_law_order" p) [e₁, e₂] [] pos) (D.nat n) :=
  Ev.callk c (Ev.glob c hk (gOrder _)) (by kernel_rfl) (Evs.cons y₁ (Evs.cons y₂ Evs.nil h2) h1) (fun vs h' g hv => (ct_order r ((c.mono g).gd) hv hw hw' hp1 hp hn hz least).call) he h1 hplain
theorem Ev.itemN {value slice : Expr} {pos : Pos} {ws : List Nat} {k : Nat} (x : Ev prog w A env h value (D.nats ws)) (y : Ev prog w A env h slice (D.nat k)) (hk : k < ws.length) (hz : ws.length ≤ 1000)
    (hs : ∀ l u, subscripted slice false (.ref l) (.int k u) = operate [.ref l, .int k u] (getItem (.ref l) (.int k u)) := by intros; rfl) : Ev prog w A env h (.Subscript value slice pos) (D.nat (ws.getD k 0)) :=
  Ev.item x y (by omega) (by omega) (by rw [Int.toNat_natCast, List.getElem?_map, List.getElem?_eq_getElem hk, Option.map_some, List.getD_eq_getElem?_getD, List.getElem?_eq_getElem hk, Option.getD_some]) hs
theorem Ev.methZ {K : Frag} {o : Expr} {name : Str} {apos pos : Pos} {C f : Addr} {fs : List (Str × FD)} {pl : Sem Bool} (c : Cx K env μ h) (x : Ev prog w A env h o (D.inst C fs)) (ok : MethOk K C name f) (hm : fs.lookup name = none)
    (z : ∀ v h', Gr h h' → (D.inst C fs).at' env.frame v h' → T prog w A (call (.ref f) [v]) h' fun v h'' => Gr h' h'')
    (he : eval (.Call (.Attribute o name apos) [] [] pos) env = (do
      let ov ← eval o env
      standAt apos.atName
      let (f, first) ← holding [ov] (getMethod ov name pl)
      callWith pos f first (backTo pos (starEach [] env)) (backToKw pos (keywordEach [] env))) := by rfl) : ∀ h', Gr h h' → T prog w A (eval (.Call (.Attribute o name apos) [] [] pos) env) h' fun v h'' => Gr h' h'' := by
  intro h' g s Q E q k
  subst q
  refine methodCall_KW (x _ g s _ E rfl fun v h₁ t₁ p₁ => ?_) he
  obtain ⟨g₁, px⟩ := p₁
  obtain ⟨yv, dx, es', n, rfl, a, b, ne, r⟩ := id px
  refine method_fn (s := { s with heap := h₁, toks := t₁ }) ((c.mono g).mono g₁).gd.X (instAt_of a b) (plainGet_of ok.plain).1 (plainGet_of ok.plain).2 ok.find (beq_iff_eq.mp ok.fn) (by show (lookIn name (dictOf es' n)).map _ = _; rw [lookIn_dict, r.miss hm]; rfl) ?_
  show wpAny _ A (callWith pos (.ref f) [.ref yv] _ []) _ _ _
  refine callWith_K0 (s := { s with heap := h₁, toks := t₁ }) ((c.mono g).mono g₁).gd.X ok.keep ?_
  exact z _ h₁ (g.trans g₁) px { s with heap := h₁, toks := t₁ } _ E rfl fun v h₃ t₃ p₃ => k v h₃ t₃ (g₁.trans p₃)
end Mine
end Rules1x
section Crc4x
namespace Mine
open Crc
theorem bit_xor (a b : Nat) (x y : Bool) : (2 * a + x.toNat) ^^^ (2 * b + y.toNat) = 2 * (a ^^^ b) + (xor x y).toNat := by
  have d : ∀ (a : Nat) (x : Bool), (2 * a + x.toNat) / 2 = a := fun a x => by cases x <;> simp <;> omega
  have z : ∀ (a : Nat) (x : Bool), (2 * a + x.toNat).testBit 0 = x := fun a x => by
    rw [Nat.testBit_zero]; cases x <;> simp <;> omega
  refine Nat.eq_of_testBit_eq fun i => ?_
  cases i with
  | zero => rw [Nat.testBit_xor, z, z, z]
  | succ i => rw [Nat.testBit_xor, Nat.testBit_succ, Nat.testBit_succ, Nat.testBit_succ, d, d, d, Nat.testBit_xor]
theorem val_xor (bs bs' : List Bool) (h : bs.length = bs'.length) : val (List.zipWith xor bs bs') = val bs ^^^ val bs' := by
  have key : ∀ (bs bs' : List Bool) (a b : Nat), bs.length = bs'.length → (List.zipWith xor bs bs').foldl (fun a b => 2 * a + b.toNat) (a ^^^ b) = bs.foldl (fun a b => 2 * a + b.toNat) a ^^^ bs'.foldl (fun a b => 2 * a + b.toNat) b := by
    intro bs
    induction bs with
    | nil => intro bs' a b h; cases bs' with
      | nil => rfl
      | cons _ _ => simp at h
    | cons x bs ih => intro bs' a b h; cases bs' with
      | nil => simp at h
      | cons y bs' =>
        rw [List.zipWith_cons_cons, List.foldl_cons, List.foldl_cons, List.foldl_cons, ← bit_xor]
        exact ih bs' _ _ (by simpa using h)
  have := key bs bs' 0 0 h
  rwa [Nat.xor_zero] at this
theorem map_zip {α : Type} (l : List α) (f g : α → Bool) : l.map (fun k => xor (f k) (g k)) = List.zipWith xor (l.map f) (l.map g) := by
  induction l with
  | nil => rfl
  | cons a l ih => rw [List.map_cons, List.map_cons, List.map_cons, List.zipWith_cons_cons, ih]
theorem reflN_xor (n a b : Nat) : reflN n (a ^^^ b) = reflN n a ^^^ reflN n b := by
  unfold reflN
  rw [← val_xor _ _ (by simp), ← map_zip]
  congr 1
  refine List.map_congr_left fun k _ => ?_
  rw [Nat.testBit_xor]
theorem wbits_xor (n : Nat) (lo : Bool) (a b : Nat) : wbits n lo (a ^^^ b) = List.zipWith xor (wbits n lo a) (wbits n lo b) := by
  unfold wbits bitsHi
  cases lo
  · show List.map _ _ = List.zipWith xor (List.map _ _) (List.map _ _)
    rw [← map_zip]
    refine List.map_congr_left fun k _ => by rw [Nat.testBit_xor]
  · show List.map _ _ = List.zipWith xor (List.map _ _) (List.map _ _)
    rw [← map_zip]
    refine List.map_congr_left fun k _ => by rw [Nat.testBit_xor]
theorem bitsOf_xor (n : Nat) (lo : Bool) : ∀ (a b : List Nat), a.length = b.length → bitsOf n lo (List.zipWith (· ^^^ ·) a b) = List.zipWith xor (bitsOf n lo a) (bitsOf n lo b)
  | [], [], _ => rfl
  | [], _ :: _, h => by simp at h
  | _ :: _, [], h => by simp at h
  | x :: a, y :: b, h => by
    show wbits n lo (x ^^^ y) ++ bitsOf n lo (List.zipWith _ a b) = List.zipWith xor (wbits n lo x ++ bitsOf n lo a) (wbits n lo y ++ bitsOf n lo b)
    rw [List.zipWith_append (by rw [wbits_length, wbits_length]), wbits_xor, bitsOf_xor n lo a b (by simpa using h)]
theorem fin_xor3 (ro : Bool) (wd x a b c : Nat) : fin ro wd x (a ^^^ b ^^^ c) = fin ro wd x a ^^^ fin ro wd x b ^^^ fin ro wd x c := by
  have k : ∀ u v t : Nat, u ^^^ v ^^^ t ^^^ x = (u ^^^ x) ^^^ (v ^^^ x) ^^^ (t ^^^ x) := by
    intro u v t
    simp only [Nat.xor_assoc]
    congr 1
    rw [xlc x v, xlc x t, Nat.xor_comm t x]
    congr 1
    rw [Nat.xor_self, Nat.xor_zero]
  unfold fin
  cases ro
  · exact k a b c
  · simp only [if_true]
    rw [reflN_xor, reflN_xor]
    exact k _ _ _
theorem check_xor3 {wd p i x n : Nat} {ri ro : Bool} {a b c : List Nat} (h1 : a.length = b.length) (h2 : b.length = c.length) :
    check wd p i ri ro x n (List.zipWith (· ^^^ ·) (List.zipWith (· ^^^ ·) a b) c) = check wd p i ri ro x n a ^^^ check wd p i ri ro x n b ^^^ check wd p i ri ro x n c := by
  unfold check
  have l : ∀ a : List Nat, (bitsOf n ri a).length = a.length * n := fun a => bitsOf_length n ri a
  rw [← fin_xor3, bitsOf_xor n ri _ _ (by rw [List.length_zipWith, h1, h2, Nat.min_self]), bitsOf_xor n ri _ _ h1]
  congr 1
  have e1 := run_xor wd p (bitsOf n ri a) (bitsOf n ri b) i i (by rw [l, l, h1])
  have e2 := run_xor wd p (List.zipWith xor (bitsOf n ri a) (bitsOf n ri b)) (bitsOf n ri c) (i ^^^ i) i (by rw [List.length_zipWith, l, l, l, h1, h2, Nat.min_self])
  rw [e1] at e2
  rw [← e2, Nat.xor_self, Nat.zero_xor]
theorem fin_inj {ro : Bool} {wd x a b : Nat} (ha : a < 2 ^ wd) (hb : b < 2 ^ wd) (h : fin ro wd x a = fin ro wd x b) : a = b := by
  have xc : ∀ {u v : Nat}, u ^^^ x = v ^^^ x → u = v := fun {u v} h => by
    have := congrArg (· ^^^ x) h
    simpa [Nat.xor_assoc] using this
  unfold fin at h
  have h := xc h
  cases ro
  · exact h
  · simp only [if_true] at h
    have := congrArg (reflN wd) h
    rwa [reflN_refl ha, reflN_refl hb] at this
/-- the errors alone decide -/
theorem check_err {wd p i x n m : Nat} {ri ro : Bool} {ws : List Nat} {e : List Bool} (hp : p < 2 ^ wd) (hi : i < 2 ^ wd) (hl : e.length = (bitsOf n ri ws).length) (hm : (bitsOf n ri ws).length = m * n) :
    check wd p i ri ro x n (bwords m n ri (List.zipWith xor (bitsOf n ri ws) e)) = check wd p i ri ro x n ws ↔ run wd p 0 e = 0 := by
  unfold check
  rw [bitsOf_bwords (by rw [List.length_zipWith, hl, Nat.min_self, hm])]
  rw [← run_err (w := wd) (p := p) (s := i) (bs := bitsOf n ri ws) hl.symm]
  constructor
  · intro h; exact fin_inj (run_lt hp _ hi) (run_lt hp _ hi) h
  · intro h; rw [h]
theorem check_cut {wd p i x n m o : Nat} {ri ro : Bool} {ws : List Nat} (hm : (bitsOf n ri ws).length = m * o) : check wd p i ri ro x o (bwords m o ri (bitsOf n ri ws)) = check wd p i ri ro x n ws := by
  unfold check
  rw [bitsOf_bwords hm]
theorem check_cat {wd p i x n : Nat} {ri ro : Bool} {a b : List Nat} : check wd p i ri ro x n (a ++ b) = check wd p (run wd p i (bitsOf n ri a)) ri ro x n b := by
  unfold check
  rw [bitsOf_append, run_append]
theorem check_nil {wd p i x n : Nat} {ri ro : Bool} : check wd p i ri ro x n [] = (if ro then reflN wd i else i) ^^^ x := rfl
theorem check_bare {wd p i x : Nat} {ri ro : Bool} : check wd p i ri ro x 1 [1] ^^^ check wd p i ri ro x 1 [0] = if ro then reflN wd p else p := by
  have e1 : bitsOf 1 ri [1] = [true] := by cases ri <;> rfl
  have e0 : bitsOf 1 ri [0] = [false] := by cases ri <;> rfl
  unfold check
  rw [e1, e0]
  show fin ro wd x (step wd p i true) ^^^ fin ro wd x (step wd p i false) = _
  have hs : step wd p i true ^^^ step wd p i false = p := by
    rw [step_true, Nat.xor_comm, xxc]
  have k : ∀ u v : Nat, (u ^^^ x) ^^^ (v ^^^ x) = u ^^^ v := fun u v => by
    rw [Nat.xor_assoc, xlc x v x, Nat.xor_self, Nat.xor_zero]
  unfold fin
  rw [k]
  cases ro
  · exact hs
  · simp only [if_true]
    rw [← reflN_xor, hs]
/-- what stands in the register, told from the check -/
theorem check_left {wd p i x n : Nat} {ri ro : Bool} {ws : List Nat} (hp : p < 2 ^ wd) (hi : i < 2 ^ wd) : (if ro then reflN wd (check wd p i ri ro x n ws ^^^ x) else check wd p i ri ro x n ws ^^^ x) = run wd p i (bitsOf n ri ws) := by
  unfold check fin
  rw [Nat.xor_assoc, Nat.xor_self, Nat.xor_zero]
  cases ro
  · rfl
  · simp only [if_true]
    exact reflN_refl (run_lt hp _ hi)
theorem refl_sum (wd x : Nat) : ((List.range wd).map fun k => (x.testBit k).toNat * 2 ^ (wd - 1 - k)).sum = reflN wd x := by
  have := sum_hi ((List.range wd).map fun k => x.testBit k)
  rw [List.length_map, List.length_range] at this
  unfold reflN
  rw [← this]
  congr 1
  refine List.map_congr_left fun k hk => ?_
  have hk := List.mem_range.mp hk
  rw [List.getD_eq_getElem?_getD, List.getElem?_map, List.getElem?_range hk]; rfl

theorem xor3_list {a b c : List Nat} {n : Nat} (h0 : a.length = n) (h1 : b.length = n) (h2 : c.length = n) : (List.range n).map (fun j => a.getD j 0 ^^^ b.getD j 0 ^^^ c.getD j 0) = List.zipWith (· ^^^ ·) (List.zipWith (· ^^^ ·) a b) c := by
  refine List.ext_getElem (by simp [h0, h1, h2]) fun i g1 g2 => ?_
  simp only [List.length_map, List.length_range] at g1
  simp [List.getD_eq_getElem?_getD, List.getElem?_eq_getElem (show i < a.length by omega), List.getElem?_eq_getElem (show i < b.length by omega), List.getElem?_eq_getElem (show i < c.length by omega)]
theorem xor3_check {wd p i x n m : Nat} {ri ro : Bool} {a b c : List Nat} (h0 : a.length = m) (h1 : b.length = m) (h2 : c.length = m) :
    check wd p i ri ro x n ((List.range m).map fun j => a.getD j 0 ^^^ b.getD j 0 ^^^ c.getD j 0) = check wd p i ri ro x n a ^^^ check wd p i ri ro x n b ^^^ check wd p i ri ro x n c := by
  rw [xor3_list h0 h1 h2, check_xor3 (by omega) (by omega)]
theorem getD_lt {a : List Nat} {n j : Nat} (h : ∀ b ∈ a, b < 2 ^ n) : a.getD j 0 < 2 ^ n := by
  rw [List.getD_eq_getElem?_getD]
  cases q : a[j]? with
  | none => exact Nat.two_pow_pos n
  | some v => exact h v (List.mem_of_getElem? q)
theorem xor3_lt {a b c : List Nat} {n m : Nat} (h0 : ∀ x ∈ a, x < 2 ^ n) (h1 : ∀ x ∈ b, x < 2 ^ n) (h2 : ∀ x ∈ c, x < 2 ^ n) : ∀ y ∈ (List.range m).map (fun j => a.getD j 0 ^^^ b.getD j 0 ^^^ c.getD j 0), y < 2 ^ n := by
  intro y hy
  obtain ⟨j, _, rfl⟩ := List.mem_map.mp hy
  exact Nat.xor_lt_two_pow (Nat.xor_lt_two_pow (getD_lt h0) (getD_lt h1)) (getD_lt h2)
theorem ne_of {a b : Nat} (h : a = b) : (a != b) = false := bne_eq_false_iff_eq.mpr h
/-- the two ways in which the bits are cut anew -/
theorem cuts {n L i : Nat} (hi : i < 2) (hL : n ≤ 40) (hl : L = n) (h1 : 1 ≤ n) : ∃ m, n = m * [1, L].getD i 0 ∧ m ≤ 1000 ∧ 1 ≤ [1, L].getD i 0 ∧ [1, L].getD i 0 ≤ 40 := by
  subst hl
  match i, hi with
  | 0, _ => exact ⟨L, by simp, by omega, by simp, by simp⟩
  | 1, _ => exact ⟨1, by simp, by omega, by simpa using h1, by simpa using hL⟩

theorem mem_app {a b : List Nat} {P : Nat → Prop} (h0 : ∀ x ∈ a, P x) (h1 : ∀ x ∈ b, P x) : ∀ y ∈ a ++ b, P y := fun y hy => (List.mem_append.mp hy).elim (h0 y) (h1 y)
theorem one_lt2_1 : ∀ a ∈ [1], a < 2 ^ 1 := by decide
theorem one_lt2_0 : ∀ a ∈ [0], a < 2 ^ 1 := by decide
end Mine
end Crc4x
section Rules2x
open PySem PySem.W PyProof.Rows PySem.Calls
namespace Mine
variable {prog : Program} {w : World} {A : Around} {K : Frag} {env : Env} {μ : Names} {h h₀ : Heap}
open Crc
/-- a list of whole numbers, one for each turn -/
theorem Ev.mapComp {elt tg iter : Expr} {scope : Scope} {pos : Pos} {n : Nat} {f : Nat → Nat} {μs : Nat → Names} (c : Cx K env μ h) (src : Src prog w A env h iter tg n μs) (xs : List Str)
    (hel : ∀ i, i < n → ∀ C h₁, Gr h h₁ → Cx K (cenvOf scope env C) (μs i ++ capt μ xs) h₁ → Ev prog w A (cenvOf scope env C) h₁ elt (D.nat (f i))) (hz : n ≤ 1000000)
    (ok : compOk scope env = true := by rfl) (tl : tgOk tg scope = true := by rfl) (cap : capOk scope env xs = true := by rfl) (hμ : ∀ i, (μs i).map (·.1) = tgNames tg := by intro _; rfl) (hfold : ∀ x, foldedSetIterable iter env x = pure x := by intro _; rfl) :
    Ev prog w A env h (.ListComp elt [⟨tg, iter, [], 0⟩] scope pos) (D.nats ((List.range n).map f)) := by
  refine Ev.mono (d := D.listGt 0 (((List.range n).filter fun _ => true).map fun k => D.nat (f k))) (Ev.compGt (μs := μs) (p := fun _ => true) (dd := fun _ k => D.nat (f k)) c src xs (fun h' g => Nat.zero_le _) (fun k hk C h₁ g c => rfl)
    (fun i hi _ C h₁ g hC c => hel i hi C h₁ g c) (fun _ _ _ => Far.int) (fun _ _ _ _ _ q => q) hz ok tl cap hμ hfold) fun v h' q => ?_
  have q := D.listGt.plain q
  rw [filt] at q
  show (D.list _).at' _ _ _
  rw [List.map_map]; exact q
theorem Ev.sumComp {elt tg iter : Expr} {scope : Scope} {p pos' pos : Pos} {n : Nat} {f : Nat → Nat} {μs : Nat → Names} (hh : A.handled = none) (c : Cx K env μ h) (fn : Ev prog w A env h (.Name "sum" p) (D.val (.builtin "sum"))) (src : Src prog w A env h iter tg n μs) (xs : List Str)
    (hel : ∀ i, i < n → ∀ C h₁, Gr h h₁ → Cx K (cenvOf scope env C) (μs i ++ capt μ xs) h₁ → Ev prog w A (cenvOf scope env C) h₁ elt (D.nat (f i))) (hz : n ≤ 1000000) (hb : ((List.range n).map f).sum < 2 ^ 62)
    (ok : compOk scope env = true := by rfl) (tl : tgOk tg scope = true := by rfl) (cap : capOk scope env xs = true := by rfl) (hμ : ∀ i, (μs i).map (·.1) = tgNames tg := by intro _; rfl) (hfold : ∀ x, foldedSetIterable iter env x = pure x := by intro _; rfl)
    (hs : starEach [.ListComp elt [⟨tg, iter, [], 0⟩] scope pos'] env = (false, eval (.ListComp elt [⟨tg, iter, [], 0⟩] scope pos') env) :: starEach [] env := by rfl) :
    Ev prog w A env h (.Call (.Name "sum" p) [.ListComp elt [⟨tg, iter, [], 0⟩] scope pos'] [] pos) (D.nat ((List.range n).map f).sum) :=
  Ev.sumN hh fn (Ev.mapComp c src xs hel hz ok tl cap hμ hfold) hb hs
theorem X.expr {e : Expr} {pos : Pos} (F : Fm K h₀ env μ h) (x : ∀ h', Gr h h' → T prog w A (eval e env) h' fun _ h'' => Gr h' h'') (hi : interactive env = false := by rfl) (hs : swapsWith e none pos.line env = pure false := by rfl) :
    X prog w A env h (.Expr e pos) (go (Fm K h₀ env μ)) := by
  intro s Q E q k
  subst q
  exact wpAny_Expr_any (x _ (Gr.refl _) s _ E rfl fun v h₁ t₁ g => k .next h₁ t₁ ⟨g.but, rfl, F.mono g⟩) hi hs
theorem Ts.neB {l r : Expr} {pos : Pos} {a b : Bool} (x : Ev prog w A env h l (D.bool a)) (y : Ev prog w A env h r (D.bool b)) (hm : behindInMarks .NotEq r = false := by with_unfolding_all rfl) : Ts prog w A env h (.Compare l [.NotEq] [r] pos) (a != b) :=
  Ts.cmp x y (fun u v h' g e₁ e₂ s Q E e k => by
    have e₁ : u = .bool a := e₁
    have e₂ : v = .bool b := e₂
    subst e₁ e₂ e
    exact PyProof.Rows.ne_bool (k _ s.heap s.toks ⟨Gr.refl _, rfl⟩)) hm
theorem any_cast (ws : List Nat) (k : Nat) : (ws.map fun n : Nat => (n : Int)).any (· == (k : Int)) = ws.any (· == k) := by
  rw [List.any_map]
  congr 1
  funext n
  show ((n : Int) == (k : Int)) = (n == k)
  rw [Bool.eq_iff_iff, beq_iff_eq, beq_iff_eq]; omega
theorem Ts.inList {l r : Expr} {pos : Pos} {k : Nat} {ws : List Nat} (x : Ev prog w A env h l (D.nat k)) (y : Ev prog w A env h r (D.nats ws)) (hm : behindInMarks .In r = false := by with_unfolding_all rfl) : Ts prog w A env h (.Compare l [.In] [r] pos) (ws.any (· == k)) :=
  Ts.cmp x y (fun u v h' g ⟨t, e₁⟩ e₂ s Q E e kk => by
    subst e₁ e
    rw [nats_ints] at e₂
    obtain ⟨a, vs, rfl, la, ra⟩ := e₂
    refine in_list_ints la (toItems ra) (kk _ s.heap s.toks ⟨Gr.refl _, ?_⟩)
    rw [any_cast]) hm
theorem Ts.inTup {l r : Expr} {pos : Pos} {k : Nat} {ws : List Nat} (x : Ev prog w A env h l (D.nat k)) (y : Ev prog w A env h r (D.tup (ws.map D.nat))) (hm : behindInMarks .In r = false := by with_unfolding_all rfl) : Ts prog w A env h (.Compare l [.In] [r] pos) (ws.any (· == k)) :=
  Ts.cmp x y (fun u v h' g ⟨t, e₁⟩ e₂ s Q E e kk => by
    subst e₁ e
    obtain ⟨a, vs, rfl, la, ra⟩ := e₂
    have ra : All2 (fun u d => d.at' env.frame u s.heap) vs ((ws.map fun n : Nat => (n : Int)).map D.int) := by rw [List.map_map]; exact ra
    refine in_tuple_ints la (toItems ra) (kk _ s.heap s.toks ⟨Gr.refl _, ?_⟩)
    rw [any_cast]) hm
theorem FSrc.tupN {iter : Expr} {ws : List Nat} (hh : A.handled = none) (y : Ev prog w A env h iter (D.tup (ws.map D.nat))) : FSrc prog w A env h iter ws.length (fun i => D.nat (ws.getD i 0)) := by
  have := FSrc.tup (dz := D.nat 0) hh y
  rw [List.length_map] at this
  have e : (fun i => (ws.map D.nat).getD i (D.nat 0)) = fun i => D.nat (ws.getD i 0) := by
    funext i
    rw [List.getD_eq_getElem?_getD, List.getD_eq_getElem?_getD, List.getElem?_map]
    cases ws[i]? <;> rfl
  rwa [e] at this
theorem Src.rows {iter : Expr} {x : Str} {px : Pos} {rs : List (List Nat)} (hh : A.handled = none) (y : Ev prog w A env h iter (D.list (rs.map D.nats))) : Src prog w A env h iter (.Name x px) rs.length (fun i => [(x, D.nats (rs.getD i []))]) := by
  have := Src.list (x := x) (px := px) (dz := D.nats []) hh y
  rw [List.length_map] at this
  have e : (fun i => [(x, (rs.map D.nats).getD i (D.nats []))]) = fun i => [(x, D.nats (rs.getD i []))] := by
    funext i
    rw [List.getD_eq_getElem?_getD, List.getD_eq_getElem?_getD, List.getElem?_map]
    cases rs[i]? <;> rfl
  rwa [e] at this
theorem span_size (a n : Nat) : Builtin.Range.rangeSize (a : Int) ((a + n : Nat) : Int) 1 = ((n : Nat) : Int) := by unfold Builtin.Range.rangeSize; simp; omega
theorem span_small {a n : Nat} (hn : a + n ≤ 1000000) : Builtin.Range.small (a : Int) ((a + n : Nat) : Int) 1 = true := by
  have := span_size a n
  unfold Builtin.Range.small
  rw [this]
  simp [Builtin.Range.rangeFitsLong]
  omega
theorem Src.span {iter : Expr} {x : Str} {px : Pos} {a n : Nat} (hh : A.handled = none) (y : Ev prog w A env h iter (D.range a ((a + n : Nat) : Int) 1)) (hn : a + n ≤ 1000000) : Src prog w A env h iter (.Name x px) n (fun i => [(x, D.nat (a + i))]) := by
  have := Src.range (x := x) (px := px) (n := n) hh y (span_small hn) (span_size a n)
  have e : (fun i : Nat => [(x, D.int ((a : Int) + (i : Int) * 1))]) = fun i : Nat => [(x, D.nat (a + i))] := by
    funext i; rw [Int.mul_one, ← Int.natCast_add]
  rwa [e] at this
theorem Ev.catN {l r : Expr} {pos : Pos} {ns ms : List Nat} (x : Ev prog w A env h l (D.nats ns)) (y : Ev prog w A env h r (D.nats ms)) (hz : ns.length + ms.length ≤ 1000000) : Ev prog w A env h (.BinOp l .Add r pos) (D.nats (ns ++ ms)) := by
  have := Ev.cat (pos := pos) (Ev.to x (nats_ints ns)) (Ev.to y (nats_ints ms)) (by rw [List.length_map, List.length_map]; exact hz)
  rw [← List.map_append, ← nats_ints] at this
  exact this
theorem Ev.minN {p pos : Pos} {e₁ e₂ : Expr} {a b : Nat} (hh : A.handled = none) (x : Ev prog w A env h (.Name "min" p) (D.val (.builtin "min"))) (y : Ev prog w A env h e₁ (D.nat a)) (z : Ev prog w A env h e₂ (D.nat b))
    (hs : starEach [e₁, e₂] env = (false, eval e₁ env) :: starEach [e₂] env := by rfl) (hs' : starEach [e₂] env = (false, eval e₂ env) :: starEach [] env := by rfl) (hplain : (backTo pos (starEach [e₂] env)).any (·.1) = false := by rfl) :
    Ev prog w A env h (.Call (.Name "min" p) [e₁, e₂] [] pos) (D.nat (Min.min a b)) := (Ev.min hh x y z hs hs' hplain).cast (by omega)
theorem Lf.rows3 {hp : Heap} {a : Addr} {lo : Nat} {r0 r1 r2 : List Nat} (S : Lf K h₀ env μ hp a [D.listGt lo (r0.map D.nat), D.listGt lo (r1.map D.nat), D.listGt lo (r2.map D.nat)] h) : (D.list [D.nats r0, D.nats r1, D.nats r2]).at' env.frame (.ref a) h := by
  obtain ⟨vs, hl, q⟩ := S.list
  obtain ⟨v0, v1, v2, rfl, q0, q1, q2⟩ := q.three
  exact ⟨a, _, rfl, hl.isList, .cons (D.listGt.plain q0) (.cons (D.listGt.plain q1) (.cons (D.listGt.plain q2) .nil))⟩
theorem all3 {r0 r1 r2 : List Nat} {P : Nat → Prop} (h0 : ∀ b ∈ r0, P b) (h1 : ∀ b ∈ r1, P b) (h2 : ∀ b ∈ r2, P b) : ∀ k, k < 3 → ∀ b ∈ [r0, r1, r2].getD k [], P b
  | 0, _ => h0
  | 1, _ => h1
  | 2, _ => h2
/-- a number's lowest bits turned round, as the law tells it -/
theorem Ev.reflSum {elt tg iter : Expr} {scope : Scope} {p pos' pos : Pos} {n x : Nat} {μs : Nat → Names} (hh : A.handled = none) (c : Cx K env μ h) (fn : Ev prog w A env h (.Name "sum" p) (D.val (.builtin "sum"))) (src : Src prog w A env h iter tg n μs) (xs : List Str)
    (hel : ∀ i, i < n → ∀ C h₁, Gr h h₁ → Cx K (cenvOf scope env C) (μs i ++ capt μ xs) h₁ → Ev prog w A (cenvOf scope env C) h₁ elt (D.nat ((x / 2 ^ i &&& 1) * 2 ^ (n - 1 - i)))) (hz : n ≤ 40)
    (ok : compOk scope env = true := by rfl) (tl : tgOk tg scope = true := by rfl) (cap : capOk scope env xs = true := by rfl) (hμ : ∀ i, (μs i).map (·.1) = tgNames tg := by intro _; rfl) (hfold : ∀ x, foldedSetIterable iter env x = pure x := by intro _; rfl)
    (hs : starEach [.ListComp elt [⟨tg, iter, [], 0⟩] scope pos'] env = (false, eval (.ListComp elt [⟨tg, iter, [], 0⟩] scope pos') env) :: starEach [] env := by rfl) :
    Ev prog w A env h (.Call (.Name "sum" p) [.ListComp elt [⟨tg, iter, [], 0⟩] scope pos'] [] pos) (D.nat (reflN n x)) := by
  have e : (List.range n).map (fun k => (x / 2 ^ k &&& 1) * 2 ^ (n - 1 - k)) = (List.range n).map (fun k => (x.testBit k).toNat * 2 ^ (n - 1 - k)) := List.map_congr_left fun k _ => by rw [shift_bit]
  have hlt : reflN n x < 2 ^ 62 := Nat.lt_of_lt_of_le (reflN_lt n x) (Nat.pow_le_pow_right (by decide) (by omega))
  refine Ev.to (Ev.sumComp hh c fn src xs hel (by omega) (by rw [e, refl_sum]; exact hlt) ok tl cap hμ hfold hs) ?_
  rw [e, refl_sum]
theorem bit_lt2 (x k : Nat) : (x / 2 ^ k &&& 1) < 2 ^ 1 := by rw [Nat.and_one_is_mod]; exact Nat.mod_lt _ (by decide)
theorem if1 {b : Bool} (h : b = true) : D.nat 1 = D.nat (if b = true then 1 else 0) := by rw [h]; rfl
theorem if0 {b : Bool} (h : b = false) : D.nat 0 = D.nat (if b = true then 1 else 0) := by rw [h]; rfl
/-- errors at the places that e tells -/
def errs (n : Nat) (e : Nat → Bool) : List Bool := (List.range n).map e
theorem errs_length (n : Nat) (e : Nat → Bool) : (errs n e).length = n := by simp [errs]
theorem flip_eq (B : List Bool) (e : Nat → Bool) : (List.range B.length).map (fun k => (B.getD k false).toNat ^^^ (if e k then 1 else 0)) = nb (List.zipWith xor B (errs B.length e)) := by
  unfold nb errs
  refine List.ext_getElem (by simp) fun i h1 h2 => ?_
  simp only [List.length_map, List.length_range] at h1
  simp [List.getD_eq_getElem?_getD, List.getElem?_eq_getElem h1]
  cases B[i] <;> cases e i <;> rfl
end Mine
end Rules2x
section Crc5x
namespace Mine
open Crc
theorem map_false {α : Type} (l : List α) (e : α → Bool) (h : ∀ k ∈ l, e k = false) : l.map e = List.replicate l.length false := by
  rw [List.map_congr_left h, List.map_const']
theorem any_span {lg fst k : Nat} {P : Nat → Bool} : (((List.range lg).filter P).map (fst + ·)).any (· == k) = (decide (fst ≤ k ∧ k < fst + lg) && P (k - fst)) := by
  rw [Bool.eq_iff_iff, List.any_eq_true, Bool.and_eq_true, decide_eq_true_iff]
  constructor
  · rintro ⟨x, hx, e⟩
    obtain ⟨i, hi, rfl⟩ := List.mem_map.mp hx
    obtain ⟨h1, h2⟩ := List.mem_filter.mp hi
    have h1 := List.mem_range.mp h1
    have e := beq_iff_eq.mp e
    subst e
    exact ⟨by omega, by rw [Nat.add_sub_cancel_left]; exact h2⟩
  · rintro ⟨⟨h1, h2⟩, h3⟩
    exact ⟨k, List.mem_map.mpr ⟨k - fst, List.mem_filter.mpr ⟨List.mem_range.mpr (by omega), h3⟩, by omega⟩, beq_self_eq_true _⟩
theorem burst_errs {L fst lg : Nat} {P : Nat → Bool} (h : fst + lg ≤ L) (hlg : 1 ≤ lg) (hP0 : P 0 = true) :
    ∃ mid, mid.length + 1 = lg ∧ errs L (fun k => (((List.range lg).filter P).map (fst + ·)).any (· == k)) = List.replicate fst false ++ (true :: mid) ++ List.replicate (L - fst - lg) false := by
  obtain ⟨r, rfl⟩ : ∃ r, L = fst + lg + r := ⟨L - fst - lg, by omega⟩
  obtain ⟨m, rfl⟩ : ∃ m, lg = m + 1 := ⟨lg - 1, by omega⟩
  refine ⟨(List.range m).map fun i => P (i + 1), by simp, ?_⟩
  have he : ∀ k, (fun k => (((List.range (m + 1)).filter P).map (fst + ·)).any (· == k)) k = (decide (fst ≤ k ∧ k < fst + (m + 1)) && P (k - fst)) := fun k => any_span
  generalize (fun k => (((List.range (m + 1)).filter P).map (fst + ·)).any (· == k)) = E at he ⊢
  unfold errs
  rw [List.range_add, List.range_add (n := fst), List.map_append, List.map_append, List.map_map, List.map_map]
  have e0 : (List.range fst).map E = List.replicate fst false := by
    have := map_false (List.range fst) E (fun k hk => by
      have hk := List.mem_range.mp hk
      rw [he, decide_eq_false (by omega), Bool.false_and])
    rwa [List.length_range] at this
  have e2 : (List.range r).map (E ∘ fun x => fst + (m + 1) + x) = List.replicate r false := by
    have := map_false (List.range r) (E ∘ fun x => fst + (m + 1) + x) (fun k hk => by
      show E (fst + (m + 1) + k) = false
      rw [he, decide_eq_false (by omega), Bool.false_and])
    rwa [List.length_range] at this
  have e1 : (List.range (m + 1)).map (E ∘ fun x => fst + x) = true :: (List.range m).map fun i => P (i + 1) := by
    have : ∀ k ∈ List.range (m + 1), (E ∘ fun x => fst + x) k = P k := fun k hk => by
      have hk := List.mem_range.mp hk
      show E (fst + k) = P k
      rw [he, decide_eq_true (by omega), Bool.true_and, Nat.add_sub_cancel_left]
    rw [List.map_congr_left this, List.range_succ_eq_map, List.map_cons, hP0, List.map_map]
    rfl
  rw [e0, e1, e2]
  congr 2
  omega
/-- a run of turned bits is seen -/
theorem burst_seen {L fst lg wd p : Nat} {P : Nat → Bool} (h : fst + lg ≤ L) (hlg : 1 ≤ lg) (hlw : lg ≤ wd) (hP0 : P 0 = true) (hw : 1 ≤ wd) (hp1 : p % 2 = 1) (hp : p < 2 ^ wd) :
    run wd p 0 (errs L (fun k => (((List.range lg).filter P).map (fst + ·)).any (· == k))) ≠ 0 := by
  obtain ⟨mid, h1, h2⟩ := burst_errs h hlg hP0
  rw [h2]
  exact burst hw hp1 hp (by omega)
theorem two_errs {L a d r : Nat} (h : L = a + 1 + d + 1 + r) : errs L (fun k => [a, a + 1 + d].any (· == k)) = List.replicate a false ++ (true :: List.replicate d false) ++ (true :: List.replicate r false) := by
  subst h
  have f : ∀ k, k ≠ a → k ≠ a + 1 + d → [a, a + 1 + d].any (· == k) = false := fun k h1 h2 => by simp; omega
  have mf : ∀ (n c : Nat), (∀ k, k < n → c + k ≠ a ∧ c + k ≠ a + 1 + d) → (List.range n).map ((fun k => [a, a + 1 + d].any (· == k)) ∘ fun x => c + x) = List.replicate n false := fun n c hc => by
    have := map_false (List.range n) ((fun k => [a, a + 1 + d].any (· == k)) ∘ fun x => c + x) (fun k hk => f _ (hc k (List.mem_range.mp hk)).1 (hc k (List.mem_range.mp hk)).2)
    rwa [List.length_range] at this
  unfold errs
  rw [List.range_add (n := a + 1 + d + 1), List.range_succ (n := a + 1 + d), List.range_add (n := a + 1), List.range_succ (n := a)]
  simp only [List.map_append, List.map_map, List.map_cons, List.map_nil]
  rw [mf d (a + 1) (fun k hk => by omega), mf r (a + 1 + d + 1) (fun k hk => by omega)]
  have := mf a 0 (fun k hk => by omega)
  have e0 : (List.range a).map (fun k => [a, a + 1 + d].any (· == k)) = List.replicate a false := by
    rw [← this]
    refine List.map_congr_left fun k _ => ?_
    show _ = [a, a + 1 + d].any (· == 0 + k)
    rw [Nat.zero_add]
  rw [e0]
  have t1 : [a, a + 1 + d].any (· == a) = true := by simp
  have t2 : [a, a + 1 + d].any (· == a + 1 + d) = true := by simp
  rw [t1, t2]
  simp [List.append_assoc]
/-- two turned bits are seen just where they are not a whole number of orders apart -/
theorem two_seen {L one two wd p n : Nat} (h1 : one < L) (h2 : two < L) (hne : one ≠ two) (hw : 1 ≤ wd) (hp1 : p % 2 = 1) (hp : p < 2 ^ wd) (hn : 1 ≤ n) (hz : Z wd p n 1 = 1) (least : ∀ m, 1 ≤ m → m < n → Z wd p m 1 ≠ 1) :
    run wd p 0 (errs L (fun k => [one, two].any (· == k))) = 0 ↔ ((one : Int) - (two : Int)).natAbs % n = 0 := by
  have key : ∀ a b : Nat, a < b → b < L → (run wd p 0 (errs L (fun k => [a, b].any (· == k))) = 0 ↔ (b - a) % n = 0) := by
    intro a b hab hb
    obtain ⟨d, rfl⟩ : ∃ d, b = a + 1 + d := ⟨b - a - 1, by omega⟩
    rw [two_errs (r := L - (a + 1 + d + 1)) (by omega), two_bits hw hp1 hp, order_dvd hn hz least]
    rw [show a + 1 + d - a = d + 1 by omega]
  rcases Nat.lt_or_gt_of_ne hne with q | q
  · rw [key one two q h2]
    rw [show ((one : Int) - (two : Int)).natAbs = two - one by omega]
  · have e : (fun k => [one, two].any (· == k)) = fun k => [two, one].any (· == k) := by
      funext k
      simp only [List.any_cons, List.any_nil, Bool.or_false]
      exact Bool.or_comm _ _
    rw [e, key two one q h1]
    rw [show ((one : Int) - (two : Int)).natAbs = one - two by omega]
theorem foldl_xor : ∀ (l : List Bool) (b : Bool), l.foldl xor b = xor b (l.foldl xor false)
  | [], b => by simp
  | a :: l, b => by
    rw [List.foldl_cons, List.foldl_cons, foldl_xor l (xor b a), foldl_xor l (xor false a)]
    cases b <;> cases a <;> simp
theorem foldl_zip : ∀ (a b : List Bool), a.length = b.length → (List.zipWith xor a b).foldl xor false = xor (a.foldl xor false) (b.foldl xor false)
  | [], [], _ => rfl
  | [], _ :: _, h => by simp at h
  | _ :: _, [], h => by simp at h
  | x :: a, y :: b, h => by
    rw [List.zipWith_cons_cons, List.foldl_cons, List.foldl_cons, List.foldl_cons, foldl_xor _ (xor false _), foldl_zip a b (by simpa using h), foldl_xor a (xor false x), foldl_xor b (xor false y)]
    cases x <;> cases y <;> cases a.foldl xor false <;> cases b.foldl xor false <;> rfl
theorem foldl_replicate : ∀ n, (List.replicate n false).foldl xor false = false
  | 0 => rfl
  | n + 1 => by rw [List.replicate_succ, List.foldl_cons]; exact foldl_replicate n
theorem single_parity {L x : Nat} (hx : x < L) : (errs L (fun k => x == k)).foldl xor false = true := by
  obtain ⟨r, rfl⟩ : ∃ r, L = x + 1 + r := ⟨L - x - 1, by omega⟩
  unfold errs
  rw [List.range_add, List.range_succ, List.map_append, List.map_append, List.map_map, List.map_cons, List.map_nil]
  have e0 := map_false (List.range x) (fun k => x == k) (fun k hk => by have := List.mem_range.mp hk; exact beq_eq_false_iff_ne.mpr (by omega))
  have e1 := map_false (List.range r) ((fun k => x == k) ∘ fun y => x + 1 + y) (fun k hk => by show (x == x + 1 + k) = false; exact beq_eq_false_iff_ne.mpr (by omega))
  rw [e0, e1, List.foldl_append, List.foldl_append, foldl_replicate, beq_self_eq_true]
  show (List.replicate _ false).foldl xor true = true
  rw [foldl_xor, foldl_replicate]; rfl
theorem odd_parity {L : Nat} : ∀ (od : List Nat), od.Nodup → (∀ x ∈ od, x < L) → (errs L (fun k => od.any (· == k))).foldl xor false = (od.length % 2 == 1)
  | [], _, _ => by
    have := map_false (List.range L) (fun k => ([] : List Nat).any (· == k)) (fun k _ => rfl)
    unfold errs
    rw [this, foldl_replicate]; rfl
  | x :: od, hnd, hlt => by
    have hn := List.nodup_cons.mp hnd
    have e : errs L (fun k => (x :: od).any (· == k)) = List.zipWith xor (errs L (fun k => x == k)) (errs L (fun k => od.any (· == k))) := by
      unfold errs
      rw [← map_zip]
      refine List.map_congr_left fun k _ => ?_
      rw [List.any_cons]
      cases q : x == k with
      | false => simp
      | true =>
        have q := beq_iff_eq.mp q
        subst q
        have : od.any (· == x) = false := by
          rw [Bool.eq_false_iff]
          intro h
          obtain ⟨y, hy, e⟩ := List.any_eq_true.mp h
          rw [beq_iff_eq.mp e] at hy
          exact hn.1 hy
        rw [this]; rfl
    rw [e, foldl_zip _ _ (by rw [errs_length, errs_length]), single_parity (hlt x List.mem_cons_self), odd_parity od hn.2 fun y hy => hlt y (List.mem_cons_of_mem _ hy)]
    rw [List.length_cons]
    rcases Nat.mod_two_eq_zero_or_one od.length with q | q
    · rw [q, show (od.length + 1) % 2 = 1 by omega]; rfl
    · rw [q, show (od.length + 1) % 2 = 0 by omega]; rfl
/-- the polynomial's terms -/
theorem par_sum (p : Nat) : ∀ n, par p n = (((List.range n).map fun k => p / 2 ^ k &&& 1).sum % 2 == 1)
  | 0 => rfl
  | n + 1 => by
    unfold par
    rw [par_sum p n, List.range_succ, List.map_append, List.sum_append, List.map_cons, List.map_nil, List.sum_cons, List.sum_nil, shift_bit]
    generalize ((List.range n).map fun k => p / 2 ^ k &&& 1).sum = s
    cases p.testBit n
    · simp
    · rcases Nat.mod_two_eq_zero_or_one s with q | q
      · rw [q, show (s + ((true : Bool).toNat + 0)) % 2 = 1 by simp; omega]; rfl
      · rw [q, show (s + ((true : Bool).toNat + 0)) % 2 = 0 by simp; omega]; rfl
theorem par_bound (p n : Nat) : ((List.range n).map fun k => p / 2 ^ k &&& 1).sum ≤ n := by
  induction n with
  | zero => simp
  | succ n ih =>
    rw [List.range_succ, List.map_append, List.sum_append, List.map_cons, List.map_nil, List.sum_cons, List.sum_nil]
    have := bit_lt2 p n
    omega
theorem odd_run {L wd p : Nat} {od : List Nat} (hw : 1 ≤ wd) (hnd : od.Nodup) (hlt : ∀ x ∈ od, x < L) (h1 : (od.length % 2 == 1) = true) (h2 : (((List.range wd).map fun k => p / 2 ^ k &&& 1).sum % 2 == 1) = true) :
    run wd p 0 (errs L (fun k => od.any (· == k))) ≠ 0 :=
  odd_seen hw (by rw [par_sum]; exact h2) (by rw [odd_parity od hnd hlt]; exact h1)

theorem five_lt {one two L : Nat} {x : Int} {os : List Nat} (h1 : one < L) (h2 : two < L) (hL : 0 < L) (hm : ∀ y ∈ os, y ∈ [one, two, (x % (L : Int)).toNat, (one + 1) % L, (two + 2) % L]) : ∀ y ∈ os, y < L := by
  intro y hy
  have e1 := Int.emod_nonneg x (show (L : Int) ≠ 0 by omega)
  have e2 := Int.emod_lt_of_pos x (show (0 : Int) < L by omega)
  have := hm y hy
  simp only [List.mem_cons, List.not_mem_nil, or_false] at this
  rcases this with rfl | rfl | rfl | rfl | rfl
  · exact h1
  · exact h2
  · omega
  · exact Nat.mod_lt _ hL
  · exact Nat.mod_lt _ hL
end Mine
end Crc5x
section Set2x
open PySem
namespace Mine
/-! ## the places of a set's table -/
def Rise (xs : Array Nat) : Prop := xs.toList.Pairwise (· < ·)
theorem Rise.lt {xs : Array Nat} (h : Rise xs) {i j : Nat} (hij : i < j) (hj : j < xs.size) : xs.getD i 0 < xs.getD j 0 := by
  have hi : i < xs.size := Nat.lt_trans hij hj
  have := (List.pairwise_iff_getElem.mp h) i j (by simpa using hi) (by simpa using hj) hij
  simp only [Array.getElem_toList] at this
  rw [Array.getD_eq_getD_getElem?, Array.getD_eq_getD_getElem?, Array.getElem?_eq_getElem hi, Array.getElem?_eq_getElem hj]
  exact this
structure Cut (xs : Array Nat) (j r : Nat) : Prop where
  le : r ≤ xs.size
  lo : ∀ i, i < r → xs.getD i 0 < j
  hi : ∀ i, r ≤ i → i < xs.size → j ≤ xs.getD i 0
theorem below_go {xs : Array Nat} (h : Rise xs) (j : Nat) : ∀ fuel lo hi, lo ≤ hi → hi ≤ xs.size → hi - lo ≤ fuel → (∀ i, i < lo → xs.getD i 0 < j) → (∀ i, hi ≤ i → i < xs.size → j ≤ xs.getD i 0) → Cut xs j (SetTable.below.go xs j fuel lo hi)
  | 0, lo, hi, h1, h2, h3, h4, h5 => by
    have e : lo = hi := by omega
    subst e
    exact ⟨h2, h4, h5⟩
  | fuel + 1, lo, hi, h1, h2, h3, h4, h5 => by
    unfold SetTable.below.go
    by_cases q : lo < hi
    · rw [if_pos q]
      have hm : (lo + hi) / 2 < xs.size := by omega
      have em : xs.getD ((lo + hi) / 2) j = xs.getD ((lo + hi) / 2) 0 := by
        rw [Array.getD_eq_getD_getElem?, Array.getD_eq_getD_getElem?, Array.getElem?_eq_getElem hm]; rfl
      show Cut xs j (if xs.getD ((lo + hi) / 2) j < j then SetTable.below.go xs j fuel ((lo + hi) / 2 + 1) hi else SetTable.below.go xs j fuel lo ((lo + hi) / 2))
      rw [em]
      by_cases q' : xs.getD ((lo + hi) / 2) 0 < j
      · rw [if_pos q']
        refine below_go h j fuel _ _ (by omega) h2 (by omega) (fun i hi' => ?_) h5
        by_cases e : i = (lo + hi) / 2
        · rw [e]; exact q'
        · exact Nat.lt_trans (h.lt (show i < (lo + hi) / 2 by omega) hm) q'
      · rw [if_neg q']
        refine below_go h j fuel _ _ (by omega) (by omega) (by omega) h4 (fun i hi1 hi2 => ?_)
        by_cases e : i = (lo + hi) / 2
        · rw [e]; omega
        · have := h.lt (show (lo + hi) / 2 < i by omega) hi2
          omega
    · rw [if_neg q]
      have e : lo = hi := by omega
      subst e
      exact ⟨h2, h4, h5⟩
theorem below_cut {xs : Array Nat} (h : Rise xs) (j : Nat) : Cut xs j (SetTable.below xs j) :=
  below_go h j xs.size 0 xs.size (Nat.zero_le _) (Nat.le_refl _) (by omega) (fun i hi => absurd hi (Nat.not_lt_zero _)) fun i h1 h2 => absurd h2 (Nat.not_lt.mpr h1)
theorem below_next {xs : Array Nat} (h : Rise xs) {i : Nat} (hi : i < xs.size) : SetTable.below xs (xs.getD i 0 + 1) = i + 1 := by
  have c := below_cut h (xs.getD i 0 + 1)
  generalize SetTable.below xs (xs.getD i 0 + 1) = r at c
  by_cases q : r ≤ i
  · have := c.hi i q hi; omega
  · by_cases q' : i + 1 < r
    · have := c.lo (i + 1) q'
      have := h.lt (show i < i + 1 by omega) (Nat.lt_of_lt_of_le q' c.le)
      omega
    · omega
theorem below_zero {xs : Array Nat} (h : Rise xs) : SetTable.below xs 0 = 0 := by
  have c := below_cut h 0
  generalize SetTable.below xs 0 = r at c
  by_cases q : 0 < r
  · have := c.lo 0 q; omega
  · omega
/-- a slot that holds no element -/
def NotLive (t : SetTable) (j : Nat) : Prop := t.place[SetTable.below t.place j]? ≠ some j
theorem notLive_of {t : SetTable} {j : Nat} (h : t.slot j = .empty ∨ t.slot j = .dummy) : NotLive t j := by
  intro e
  unfold SetTable.slot at h
  dsimp only at h
  rw [e] at h
  simp at h
theorem put_rise {t : SetTable} {j : Nat} (h : Rise t.place) (hn : NotLive t j) : Rise (t.put j).1.place := by
  have c := below_cut h j
  show Rise (SetTable.insertAt t.place (SetTable.below t.place j) j)
  unfold NotLive at hn
  unfold Rise
  rw [SetTable.toList_insertAt]
  generalize SetTable.below t.place j = p at c hn
  have gd : ∀ i, i < t.place.size → ∀ x, t.place.toList[i]? = some x → x = t.place.getD i 0 := fun i hi x e => by
    rw [Array.getElem?_toList] at e
    rw [Array.getD_eq_getD_getElem?, e]; rfl
  have ltp : ∀ x ∈ t.place.toList.take p, x < j := fun x hx => by
    obtain ⟨i, hi, e⟩ := List.mem_take_iff_getElem.mp hx
    have hi' : i < t.place.size := by have := hi; simp at this; omega
    have hip : i < p := by have := hi; simp at this; omega
    have := gd i hi' x (by rw [← e]; exact List.getElem?_eq_getElem _)
    rw [this]; exact c.lo i hip
  have gtp : ∀ x ∈ t.place.toList.drop p, j < x := fun x hx => by
    obtain ⟨i, hi, e⟩ := List.mem_drop_iff_getElem.mp hx
    have hi' : p + i < t.place.size := by have := hi; simp at this; omega
    have e1 := gd (p + i) hi' x (by rw [← e]; exact List.getElem?_eq_getElem _)
    have ge := c.hi (p + i) (Nat.le_add_right _ _) hi'
    have gep := c.hi p (Nat.le_refl _) (by omega)
    have hp : p < t.place.size := by omega
    have np : t.place.getD p 0 ≠ j := fun q => hn (by
      rw [Array.getElem?_eq_getElem hp]
      rw [Array.getD_eq_getD_getElem?, Array.getElem?_eq_getElem hp] at q
      exact congrArg some q)
    by_cases q : i = 0
    · subst q
      rw [e1]
      simp only [Nat.add_zero]
      omega
    · have := h.lt (show p < p + i by omega) hi'
      rw [e1]; omega
  have hs := h
  unfold Rise at hs
  refine List.pairwise_append.mpr ⟨hs.sublist (List.take_sublist _ _), List.pairwise_cons.mpr ⟨gtp, hs.sublist (List.drop_sublist _ _)⟩, fun x hx y hy => ?_⟩
  rcases List.mem_cons.mp hy with rfl | hy
  · exact ltp x hx
  · exact Nat.lt_trans (ltp x hx) (gtp y hy)
theorem probe_go {t : SetTable} {hashAt : Nat → Int} {hsh : Int} : ∀ (fuel : Nat) (p : SetTable.Probe) {j : Nat} {d : Option Nat}, (∀ d, p.dummy = some d → NotLive t d) → SetTable.probe.go t hashAt hsh fuel p = some (.empty j d) → NotLive t (d.getD j)
  | 0, p, j, d, _, e => by simp [SetTable.probe.go] at e
  | fuel + 1, p, j, d, hd, e => by
    unfold SetTable.probe.go at e
    cases q : t.slot p.j with
    | empty =>
      rw [q] at e
      simp only [Option.some.injEq, SetTable.Met.empty.injEq] at e
      obtain ⟨rfl, rfl⟩ := e
      cases q' : p.dummy with
      | none => exact notLive_of (.inl q)
      | some d => exact hd d q'
    | dummy =>
      rw [q] at e
      refine probe_go fuel _ (fun d' hd' => ?_) e
      have : (t.advance { p with dummy := some p.j }).dummy = some p.j := by
        unfold SetTable.advance
        split <;> rfl
      rw [this] at hd'
      cases hd'
      exact notLive_of (.inr q)
    | live i =>
      rw [q] at e
      dsimp only at e
      split at e
      · simp at e
      · refine probe_go fuel _ (fun d' hd' => ?_) e
        have : (t.advance p).dummy = p.dummy := by
          unfold SetTable.advance
          split <;> rfl
        rw [this] at hd'
        exact hd d' hd'
theorem freeSlot_notLive {t : SetTable} {hsh : Int} {j : Nat} {b : Bool} (e : t.freeSlot hsh = some (j, b)) : NotLive t j := by
  unfold SetTable.freeSlot at e
  cases q : t.probe (fun _ => hsh + 1) hsh (t.probeStart hsh) with
  | none => rw [q] at e; simp at e
  | some m =>
    rw [q] at e
    cases m with
    | empty j' d =>
      simp only [Option.some.injEq, Prod.mk.injEq] at e
      obtain ⟨rfl, _⟩ := e
      exact probe_go _ _ (fun d hd => by simp [SetTable.probeStart] at hd) q
    | candidate a b c => simp at e
theorem standIn_rise (t : SetTable) (n : Nat) : Rise (t.standIn n).place := by
  show (Array.range n).toList.Pairwise (· < ·)
  rw [Array.toList_range]
  exact List.pairwise_lt_range
theorem orStandIn_rise {t : SetTable} {n : Nat} (h : Rise t.place) : Rise (t.orStandIn n).place := by
  unfold SetTable.orStandIn
  split
  · exact h
  · exact standIn_rise t n
theorem orStandIn_led (t : SetTable) (n : Nat) : (t.orStandIn n).led = t.led := by
  unfold SetTable.orStandIn
  split <;> rfl
theorem layNew_rise {t : SetTable} (es : Array (Int × Value)) (hsh : Int) (x : Value) (h : Rise t.place) : Rise (layNew t es hsh x).2.1.place := by
  unfold layNew
  split
  · rename_i slot b e
    exact orStandIn_rise (put_rise h (freeSlot_notLive e))
  · exact standIn_rise t _
theorem layNew_led (t : SetTable) (es : Array (Int × Value)) (hsh : Int) (x : Value) : (layNew t es hsh x).2.1.led = t.led := by
  unfold layNew
  split
  · exact orStandIn_led _ _
  · rfl
theorem fst_sub {f : Nat → Option Nat} : ∀ l : List Nat, ((l.filterMap fun j => (f j).map (j, ·)).map (·.1)).Sublist l
  | [] => .slnil
  | a :: l => by
    rw [List.filterMap_cons]
    cases q : f a with
    | none => exact .cons _ (fst_sub l)
    | some v => exact .cons_cons _ (fst_sub l)
theorem relaid_facts {t t' : SetTable} {hs : Array Int} {wanted : Nat} {order : Array Nat} (e : t.relaid hs wanted = some (t', order)) : Rise t'.place ∧ t'.led = t.led := by
  unfold SetTable.relaid SetTable.laid at e
  obtain ⟨owner, _, e⟩ := Option.bind_eq_some_iff.mp e
  simp only [pure, Option.some.injEq, Prod.mk.injEq] at e
  obtain ⟨rfl, _⟩ := e
  refine ⟨?_, rfl⟩
  show (List.toArray _).toList.Pairwise (· < ·)
  rw [List.toList_toArray]
  exact List.pairwise_lt_range.sublist (fst_sub _)
theorem relayAll_rise {t : SetTable} (es : Array (Int × Value)) (wanted : Nat) : Rise (relayAll t es wanted).2.1.place := by
  unfold relayAll
  split
  · rename_i t' order e
    dsimp only
    split
    · exact (relaid_facts e).1
    · exact standIn_rise _ _
  · exact standIn_rise _ _
theorem relayAll_led {t : SetTable} (es : Array (Int × Value)) (wanted : Nat) : (relayAll t es wanted).2.1.led = t.led := by
  unfold relayAll
  split
  · rename_i t' order e
    dsimp only
    split
    · exact (relaid_facts e).2
    · rfl
  · rfl
end Mine
end Set2x
section Set3x
open PySem PySem.W PyProof.Rows PySem.Calls
namespace Mine
variable {prog : Program} {w : World} {A : Around} {E : Value → Shared → Prop} {s : Shared}
def valI : Value → Int
  | .int n _ => n
  | _ => 0
def vals (es : Array (Int × Value)) : List Int := es.toList.map fun e => valI e.2
/-- a set of whole numbers, none but these in it, with the order of its table -/
def SetX (prog : Program) (w : World) (h : Heap) (a : Addr) (b : Bool) (ns : List Int) : Prop :=
  ∃ o es ep t, h.get? a = some o ∧ o.ExactSet ∧ o.data = .set es ep t ∧ ElemsOf (intKind prog w) es.toList ∧ (vals es).Nodup ∧ (∀ n ∈ vals es, n ∈ ns) ∧ es.size ≤ ns.length ∧ es.size < scanBound ∧ t.fits es.size = true ∧ t.led = b ∧ Rise t.place
theorem isInt_val {k : Int} {v : Value} (h : (intKind prog w).is k v = true) : ∃ t, v = .int k t := Value.isInt_shape h
theorem SetX.of_eq {h h' : Heap} {a : Addr} {b : Bool} {ns : List Int} (x : SetX prog w h a b ns) (g : ∀ o, h.get? a = some o → h'.get? a = some o) : SetX prog w h' a b ns := by
  obtain ⟨o, es, ep, t, ho, r⟩ := x
  exact ⟨o, es, ep, t, g o ho, r⟩
theorem nodup_size {l ns : List Int} (hn : l.Nodup) (hm : ∀ n ∈ l, n ∈ ns) : l.length ≤ ns.length := by
  induction l generalizing ns with
  | nil => simp
  | cons a l ih =>
    have hn' := List.nodup_cons.mp hn
    have ha := hm a List.mem_cons_self
    have := ih (ns := ns.erase a) hn'.2 (fun n hn => (List.mem_erase_of_ne (fun e => hn'.1 (by rw [← e]; exact hn))).mpr (hm n (List.mem_cons_of_mem _ hn)))
    rw [List.length_erase_of_mem ha] at this
    have := List.length_pos_of_mem ha
    rw [List.length_cons]; omega
theorem setX_store {h : Heap} {a : Addr} {o : Obj} {es : Array (Int × Value)} {ep : Nat} {t : SetTable} (ho : h.get? a = some o) (hex : o.ExactSet) (hd : o.data = .set es ep t) (es' : Array (Int × Value)) (t' : SetTable) :
    (h.update a (Obj.putSet es' t')).get? a = some { o with data := .set es' (ep + 1) t' } := by
  have := Heap.get?_update_self (Obj.putSet es' t') ho (by rw [putSet_of es' t' hd]; rfl)
  rw [putSet_of es' t' hd] at this; exact this
theorem setX_add {a : Addr} {b : Bool} {ns : List Int} {k : Int} {u : Tok} {Q : Bool → Shared → Prop} (S : SetX prog w s.heap a b ns) (hk : k ∈ ns) (hz : ns.length + 1 < scanBound)
    (h : ∀ h' r, Heap.SameBut a s.heap h' → SetX prog w h' a b ns → Q r { s with heap := h' }) : wpAny (model prog w) A (setAddHashed a (.int k u) ((intKind prog w).hash k)) Q E s := by
  obtain ⟨o, es, ep, t, ho, hex, hd, hel, hnd, hsub, hle, hb, hf, hled, hri⟩ := S
  have hkey : (intKind prog w).is k (.int k u) = true := intKind_is _ _ _ _
  unfold setAddHashed setAddHashedIn
  refine wpAny_holding (wpAny_bind (wpAny_setState_of ho hd hf ?_))
  dsimp only
  rw [byScan_of (knd := intKind prog w) rfl hb hel]
  simp only [↓reduceIte]
  unfold setAddByScan
  refine wpAny_bind ?_
  refine wpAny_bind (wpAny_rule ?_)
  refine wpAny_bind (wpAny_setScan_of hkey ho hd hf hel ?_)
  cases hr : List.findIdx? (fun e => (intKind prog w).is k e.2) es.toList with
  | some j =>
    dsimp only
    exact wpAny_pure (wpAny_pure (h s.heap _ (Heap.SameBut.refl a s.heap) ⟨o, es, ep, t, ho, hex, hd, hel, hnd, hsub, hle, hb, hf, hled, hri⟩))
  | none =>
    dsimp only
    have hnew : k ∉ vals es := fun hm => by
      obtain ⟨e, he, hv⟩ := List.mem_map.mp hm
      obtain ⟨⟨k', hk', _⟩, _⟩ := hel e he
      obtain ⟨t', et⟩ := isInt_val hk'
      rw [et] at hv
      have hv : k' = k := hv
      have := List.findIdx?_eq_none_iff.mp hr e he
      rw [← hv, hk'] at this; cases this
    have hperm := layNew_perm t es ((intKind prog w).hash k) (.int k u)
    have hfits := layNew_fits t es ((intKind prog w).hash k) (.int k u)
    have hri1 := layNew_rise es ((intKind prog w).hash k) (.int k u) hri
    have hled1 := layNew_led t es ((intKind prog w).hash k) (.int k u)
    generalize layNew t es ((intKind prog w).hash k) (.int k u) = L at hperm hfits hri1 hled1 ⊢
    obtain ⟨es1, t1, wasDummy, gave⟩ := L
    dsimp only at hperm hfits hri1 hled1 ⊢
    rw [Array.toList_push] at hperm
    have hel1 : ElemsOf (intKind prog w) es1.toList := (hel.push hkey rfl).perm hperm
    have hv1 : List.Perm (vals es1) (vals es ++ [k]) := by
      have := hperm.map fun e : Int × Value => valI e.2
      rwa [List.map_append] at this
    have hnd1 : (vals es1).Nodup := by
      rw [hv1.nodup_iff]
      refine List.nodup_append.mpr ⟨hnd, by simp, fun x hx y hy e => ?_⟩
      rw [List.mem_singleton] at hy
      exact hnew (by rw [← hy, ← e]; exact hx)
    have hsub1 : ∀ n ∈ vals es1, n ∈ ns := fun n hn => by
      rcases List.mem_append.mp (hv1.mem_iff.mp hn) with q | q
      · exact hsub n q
      · rw [List.mem_singleton.mp q]; exact hk
    have hvs : ∀ es : Array (Int × Value), (vals es).length = es.size := fun es => by unfold vals; rw [List.length_map, Array.length_toList]
    have hle1 : es1.size ≤ ns.length := by rw [← hvs]; exact nodup_size hnd1 hsub1
    have hb1 : es1.size < scanBound := by omega
    have tail : ∀ (t2 : SetTable), t2.fits es1.size = true → t2.led = b → Rise t2.place → ∀ (g : Bool → Sem Unit) (hg : ∀ (b : Bool) (s₁ : Shared) (Q' : Unit → Shared → Prop), Q' () s₁ → wpAny (model prog w) A (g b) Q' E s₁) (R : Option Bool → Shared → Prop),
        (∀ h', Heap.SameBut a s.heap h' → SetX prog w h' a b ns → R (some true) { s with heap := h' }) → wpAny (model prog w) A (do
          storeSet a es1 t2
          if (!wasDummy && t2.tooFull) = true then do
              g (relayAll t2 es1 (SetTable.grown es1.size)).2.2
              storeSet a (relayAll t2 es1 (SetTable.grown es1.size)).1 (relayAll t2 es1 (SetTable.grown es1.size)).2.1
              pure (some true)
            else pure (some true)) R E s := by
      intro t2 hf2 hl2 hr2 g hg R hR
      refine wpAny_bind (wpAny_storeSet_of ho hd ?_ (fits_of_scanBound hb1))
      have ho1 := setX_store ho hex hd es1 t2
      have hsb1 := Heap.SameBut.update s.heap a (Obj.putSet es1 t2)
      split
      · have hp := relayAll_perm t2 es1 (SetTable.grown es1.size)
        have hfr := relayAll_fits t2 es1 (SetTable.grown es1.size)
        have hrr := relayAll_rise (t := t2) es1 (SetTable.grown es1.size)
        have hlr := relayAll_led (t := t2) es1 (SetTable.grown es1.size)
        generalize relayAll t2 es1 (SetTable.grown es1.size) = Rl at hp hfr hrr hlr ⊢
        obtain ⟨es2, t3, gave2⟩ := Rl
        dsimp only at hp hfr hrr hlr ⊢
        have hv2 : List.Perm (vals es2) (vals es1) := hp.map _
        have hsz : es2.size = es1.size := by rw [← Array.length_toList, hp.length_eq, Array.length_toList]
        refine wpAny_bind (hg _ _ _ ?_)
        refine wpAny_bind (wpAny_storeSet_of ho1 rfl ?_ (fits_of_scanBound (by omega)))
        have ho2 := setX_store ho1 hex rfl es2 t3
        exact wpAny_pure (hR _ (hsb1.trans (Heap.SameBut.update _ a _)) ⟨_, es2, _, t3, ho2, hex, rfl, hel1.perm hp, hv2.nodup_iff.mpr hnd1, fun n hn => hsub1 n (hv2.mem_iff.mp hn), by omega, by omega, hfr, hlr.trans hl2, hrr⟩)
      · exact wpAny_pure (hR _ hsb1 ⟨_, es1, _, t2, ho1, hex, rfl, hel1, hnd1, hsub1, hle1, hb1, hf2, hl2, hr2⟩)
    refine wpAny_bind ?_
    have hgw : ∀ (b : Bool) (s₁ : Shared) (Q' : Unit → Shared → Prop), Q' () s₁ → wpAny (model prog w) A (match b with | true => rule "set.scan.the-table-gave-way" | false => pure ()) Q' E s₁ :=
      fun b s₁ Q' hq => by cases b <;> first | exact wpAny_pure hq | exact wpAny_rule hq
    refine (hgw _ _ _ ?_)
    split
    · refine wpAny_bind ?_
      rw [hashByValue_scannable 8 rfl]
      refine wpAny_pure ?_
      refine tail _ ?_ ?_ ?_ _ ?_ _ fun h' hsb S' => ?_
      · split
        · exact hfits
        · exact SetTable.fits_plain_off hfits
      · split <;> exact hled1.trans hled
      · split <;> exact hri1
      · intro b s₁ Q' hq; cases b <;> first | exact wpAny_pure hq | exact wpAny_rule hq
      · dsimp only; exact wpAny_pure (h h' _ hsb S')
    · refine wpAny_bind (wpAny_pure ?_)
      simp only [↓reduceIte]
      refine tail _ hfits (hled1.trans hled) hri1 _ ?_ _ fun h' hsb S' => ?_
      · intro b s₁ Q' hq; cases b <;> first | exact wpAny_pure hq | exact wpAny_rule hq
      · dsimp only; exact wpAny_pure (h h' _ hsb S')
end Mine
end Set3x
section Set4x
open PySem PySem.W PyProof.Rows PySem.Calls
namespace Mine
variable {prog : Program} {w : World} {A : Around} {E : Value → Shared → Prop} {s : Shared}
section
variable {R : Result → Shared → Prop} {I : Addr} {fp wr : List Addr} {G : Array GenState → Array GenState → Prop} {n : Nat} {P : Nat → Value → Prop} {St : Nat → Shared → Prop}
theorem setX_loop (W : WalksS prog w A.in1 I fp wr G n P St) (S : Addr) (hSf : S ∉ fp) {b : Bool} {ns : List Int}
    (hval : ∀ i v, i < n → P i v → ∃ k t, v = .int k t ∧ k ∈ ns) (hz : ns.length + 1 < scanBound) :
    ∀ (k i : Nat) (s : Shared), n - i = k → i ≤ n → St i s → SetX prog w s.heap S b ns → (∀ s', Moved (S :: wr) G s s' → SetX prog w s'.heap S b ns → R (.ok (.ret .none)) s') →
      codeAny (model prog w) A (.builtin "set.update.loop" ⟨[.ref S, .ref I], []⟩) R s := by
  have hSw : S ∉ wr := fun h => hSf (W.sub _ h)
  have hsub : ∀ b ∈ wr, b ∈ S :: wr := fun b hb => List.mem_cons_of_mem _ hb
  intro k
  induction k with
  | zero =>
    intro i s hk hi hst hS hR
    have hin : i = n := by omega
    subst hin
    refine codeAny_builtin PyProof.Rows.F.entry_set_update_loop ?_
    rw [Around.under_plainId PyProof.Rows.F.plain_set_update_loop _]
    show wpAny _ A.in1 (pyNext (.ref I) >>= _) _ _ s
    refine wpAny_bind (W.done s _ _ hst fun s' hm => ?_)
    show wpAny _ A.in1 (ret Value.none) _ _ s'
    exact wpAny_pure (hR s' (hm.mono hsub) (hS.of_eq fun o e => hm.heap S o hSw e))
  | succ k ih =>
    intro i s hk hi hst hS hR
    have hlt : i < n := by omega
    refine codeAny_builtin PyProof.Rows.F.entry_set_update_loop ?_
    rw [Around.under_plainId PyProof.Rows.F.plain_set_update_loop _]
    show wpAny _ A.in1 (pyNext (.ref I) >>= _) _ _ s
    refine wpAny_bind (W.item i s _ _ hlt hst fun v s' hP hst' hm => ?_)
    obtain ⟨v', t, rfl, hv'⟩ := hval i v hlt hP
    have hS' := hS.of_eq (h' := s'.heap) fun o e => hm.heap S o hSw e
    show wpAny _ A.in1 (holding [Value.int v' t] (setAdd S (.int v' t)) >>= _) _ _ s'
    refine wpAny_bind (wpAny_holding ?_)
    unfold setAdd
    refine wpAny_holding ?_
    refine wpAny_bind ((intKind prog w).pyHash (k := v') (intKind_is _ _ _ _) ?_)
    refine setX_add (s := { s' with toks := s'.toks + 1 }) hS' hv' hz fun h' r hsb hS2 => ?_
    refine wpAny_pure ⟨plainId_quiet PyProof.Rows.F.plain_set_update_loop _, ih (i + 1) _ (by omega) hlt (W.frame _ s' _ _ hst' (Nat.le_succ _) fun b hb o e => ?_) hS2 fun s'' hm'' hS'' => ?_⟩
    · rw [hsb.2 b (fun h : b = S => hSf (by rw [← h]; exact hb))]; exact e
    · refine hR s'' (Moved.trans W.gtrans ((hm.mono hsub).then_heap (Nat.le_succ _) fun b o hb e => ?_) hm'') hS''
      rw [hsb.2 b (fun h : b = S => hb (by rw [h]; exact List.mem_cons_self))]; exact e
end

/-- the sets' order goes by the text -/
def byText (w : World) : Bool := w.params.followText "set-order"
def freshSet (w : World) : Obj := { cls := .type "set", dict := none, data := .set #[] 0 (.fresh 0 0 (!byText w)) }
theorem freshX {h : Heap} {a : Addr} {ns : List Int} (ha : h.get? a = some (freshSet w)) : SetX prog w h a (!byText w) ns :=
  ⟨_, #[], 0, _, ha, ⟨rfl, rfl, rfl⟩, rfl, fun e he => by simp at he, by simp [vals], fun n hn => by simp [vals] at hn, Nat.zero_le _, by decide, by rfl, rfl, List.Pairwise.nil⟩
theorem code_set_newX (a : Value) {Q₁ : Value → Shared → Prop} (h : Q₁ (.ref s.heap.objs.size) { s with heap := s.heap.push (freshSet w) }) :
    codeAny (model prog w) A (.call (.builtin "set.__new__") ⟨[.type "set", a], []⟩) (wants Q₁ E) s := by
  refine codeAny_of_tree ?_
  show wpAny _ A.in1 (do checkBuiltinCall "set.__new__" ⟨[.type "set", a], []⟩; again (.builtin "set.__new__" ⟨[.type "set", a], []⟩)) _ _ s
  refine wpAny_bind (wpAny_of_eq (PySem.F.newCall_set_1 a) (wpAny_pure ⟨plainId_quiet PySem.F.plain_set_new _, codeAny_builtin PySem.F.entry_set_new ?_⟩))
  rw [Around.under_plainId PySem.F.plain_set_new _]
  unfold Builtin.«set.__new__» Builtin.Frozenset.newClass
  have hsub := sub_set_self
  obtain ⟨hp, g, d, tk, os⟩ := s
  dsimp only
  wp_walk
  refine wpAny_askSetting (wpAny_pure ?_)
  dsimp only
  simp only [newObj]
  refine wpAny_bind (wpAny_alloc (wpAny_pure ?_))
  exact wpAny_pure h
end Mine
end Set4x
section Set5x
open PySem PySem.W PyProof.Rows PySem.Calls
namespace Mine
variable {prog : Program} {w : World} {A : Around} {E : Value → Shared → Prop} {s : Shared}
theorem moved_eq {wr : List Addr} {s s' : Shared} (hm : Moved wr (fun a b => b = a) s s') : s' = { s with heap := s'.heap, toks := s'.toks } := by
  obtain ⟨h', g', d', tk', os'⟩ := s'
  have e1 : g' = s.gens := hm.gens
  have e2 : d' = s.drawn := hm.drawn
  have e3 : os' = s.os := hm.os
  subst e1 e2 e3
  rfl
set_option maxHeartbeats 4000000 in
theorem call_setX {l : Addr} {items : Array Value} {ns : List Int} {Q : Value → Shared → Prop} (hh : A.handled = none) (hl : s.heap.IsList l items) (hi : IntsAre items.toList ns) (hz : ns.length + 1 < scanBound)
    (h : ∀ (h' : Heap) (tk : Nat), SetX prog w h' s.heap.objs.size (!byText w) ns → (∀ b o, b < s.heap.objs.size → s.heap.get? b = some o → h'.get? b = some o) → Q (.ref s.heap.objs.size) { s with heap := h', toks := tk }) :
    wpAny (model prog w) A (call (.type "set") [.ref l]) Q E s := by
  obtain ⟨c, tl, hmro⟩ := PySem.F.called_set.mro
  have hmade := PySem.F.called_set.made
  have hsub := PySem.F.called_set.sub
  refine wpAny_call (codeAny_of_tree ?_)
  show wpAny _ _ (callAny (.type "set") _) _ _ _
  refine wpAny_pure ⟨Code.quiet_builtin _ (by decide +kernel), codeAny_builtin PySem.F.entry_type_call ?_⟩
  rw [Around.under_plain (weight_type_call_type "set" [.ref l] []) rfl]
  have h1 := PySem.F.called_set.notType
  have h2 := PySem.F.called_set.canCreate
  have hct := PySem.F.typeCall_set_1 (.ref l)
  repeat (any_goals (first | assumption | wp_step))
  refine codeAny_mono (code_set_newX (.ref l) (E := E) (Q₁ := fun obj s₁ => obj = .ref s.heap.objs.size ∧ s₁ = { s with heap := s.heap.push (freshSet w) }) ⟨rfl, rfl⟩) fun r s₁ hr => ?_
  cases r with
  | error e => exact hr
  | ok fl =>
    cases fl with
    | ret obj =>
      obtain ⟨rfl, rfl⟩ := hr
      have hS : (s.heap.push (freshSet w)).get? s.heap.objs.size = some (freshSet w) := Heap.get?_push_size _ rfl
      have hT : Shared.TypeIs { s with heap := s.heap.push (freshSet w) } (.ref s.heap.objs.size) "set" := ⟨_, hS, rfl⟩
      have hli := PySem.F.called_set.init.lookup
      have hbi := PySem.F.called_set.init.bind (.ref s.heap.objs.size)
      repeat (any_goals (first | assumption | wp_step))
      refine codeAny_mono (codeAny_call_builtin (R := wants (fun r s₂ => r = .none ∧ ∃ h' tk, s₂ = { s with heap := h', toks := tk } ∧
          SetX prog w h' s.heap.objs.size (!byText w) ns ∧ (∀ b o, b < s.heap.objs.size → s.heap.get? b = some o → h'.get? b = some o)) E) PySem.F.called_set.init.plain PySem.F.entry_set_init (check_set_init_1 hT ?_)) fun r₂ s₂ hr₂ => ?_
      · obtain ⟨ol, hol, hcl, nl, hdl⟩ := hl
        obtain ⟨ocls, odict, odata, oslots⟩ := ol
        simp only at hcl hdl
        subst hcl; subst hdl
        have hol' : (s.heap.push (freshSet w)).get? l = some { cls := .type "list", dict := odict, data := .seq items nl, slots := oslots } := Heap.get?_push_of_some _ hol
        have hsls := PySem.F.sub_list_set
        have hslf := PySem.F.sub_list_frozenset
        have hne : (Value.type "list" == Value.type "dict") = false := by decide
        have hl1 : (s.heap.push (freshSet w)).IsList l items := ⟨_, hol', rfl, nl, rfl⟩
        unfold Builtin.«set.__init__» noKeywords Builtin.Frozenset.updateFrom
        generalize hPI : pyIter = PI
        unfold freshSet at *
        wp_walk
        subst hPI
        refine wpAny_pyIter_list hl1 ?_
        refine wpAny_bind (wpAny_runValue ?_)
        have hlS : l < s.heap.objs.size := Heap.lt_size hol
        have hh3 : A.in1.in1.in1.handled = none := by simp [hh]
        have hsz1 : (s.heap.push { cls := .type "set", dict := none, data := .set #[] 0 (.fresh 0 0 (!byText w)) }).objs.size = s.heap.objs.size + 1 := Heap.size_push ..
        have hneI : l ≠ (s.heap.push { cls := .type "set", dict := none, data := .set #[] 0 (.fresh 0 0 (!byText w)) }).objs.size := by
          rw [hsz1]; exact Nat.ne_of_lt (Nat.lt_succ_of_lt hlS)
        have hSf : s.heap.objs.size ∉ [(s.heap.push { cls := .type "set", dict := none, data := .set #[] 0 (.fresh 0 0 (!byText w)) }).objs.size, l] := by
          rw [hsz1]; simp only [List.mem_cons, List.not_mem_nil, or_false, not_or]
          exact ⟨Nat.ne_of_lt (Nat.lt_succ_self _), Nat.ne_of_gt hlS⟩
        refine setX_loop (b := !byText w) (ns := ns) ((Walks.list hh3 _ l hneI items).toS) s.heap.objs.size hSf (fun i v hlt hv => ?hv) hz (items.size - 0) 0 _ (by omega) (Nat.zero_le _)
          ⟨⟨_, Heap.get?_push_size _ rfl, rfl, rfl⟩, (hl1.push _)⟩ ?hS0 ?hR
        case hv =>
          have hv : items[i]? = some v := hv
          rw [← Array.getElem?_toList] at hv
          obtain ⟨t, e⟩ := PyProof.Rows.IntsAre.int_at hi i v hv
          refine ⟨_, t, e, ?_⟩
          have hle : i < ns.length := by rw [← hi.length, Array.length_toList]; exact hlt
          rw [List.getD_eq_getElem?_getD, List.getElem?_eq_getElem hle]
          exact List.getElem_mem hle
        case hS0 => exact freshX (Heap.get?_push_of_some _ hS)
        case hR =>
          intro s' hm hS'
          rw [moved_eq hm] at hS' ⊢
          show wpAny _ _ _ _ _ _
          refine wpAny_pure ?_
          show wpAny _ _ (ret Value.none) _ _ _
          refine wpAny_pure ⟨rfl, s'.heap, s'.toks, rfl, hS', fun b o hb e => ?_⟩
          have hb1 : b ≠ s.heap.objs.size := Nat.ne_of_lt hb
          have hb2 : b ≠ (s.heap.push { cls := .type "set", dict := none, data := .set #[] 0 (.fresh 0 0 (!byText w)) }).objs.size := by
            rw [hsz1]; exact Nat.ne_of_lt (Nat.lt_succ_of_lt hb)
          exact hm.heap b o (by simp only [List.mem_cons, List.not_mem_nil, or_false, not_or]; exact ⟨hb1, hb2⟩) (Heap.get?_push_of_some _ (Heap.get?_push_of_some _ e))
      · cases r₂ with
        | error e => exact hr₂
        | ok fl₂ =>
          cases fl₂ with
          | ret r =>
            obtain ⟨rfl, h', tk, rfl, hS', hk'⟩ := hr₂
            repeat (any_goals (first | assumption | wp_step))
            exact h _ _ hS' hk'
          | _ => exact hr₂.elim
    | _ => exact hr.elim
end Mine
end Set5x
section Set6x
open PySem PySem.W PyProof.Rows PySem.Calls
namespace Mine
variable {prog : Program} {w : World} {A : Around} {E : Value → Shared → Prop} {s : Shared}
theorem wpAny_pick {M : Model} {src : Source} {n : Nat} {Q : Nat → Shared → Prop} (hn : n ≠ 0) (h : ∀ k d', k < n → Q k { s with drawn := d' }) : wpAny M A (choose src n) Q E s :=
  fun _ _ _ => ⟨hn, h _ _ (Nat.mod_lt _ (Nat.pos_of_ne_zero hn))⟩
namespace SF
theorem slot_next : Slot "set_iterator" "__next__" "set_iterator.__next__" :=
  .of (owner := "set_iterator") (n := "__next__") (by rw [typeLookup_type, builtinLookup_eq_fast]; kernel_rfl) (by decide +kernel) (by decide +kernel) (by decide +kernel)
    (by first | exact .inl (by decide +kernel) | exact .inr (by decide +kernel)) (by rw [isSubtype_type]; kernel_rfl)
theorem entry_next : entryFor table "set_iterator.__next__" = some Builtin.«set_iterator.__next__» := entryFor_of_tree (by kernel_rfl)
theorem args_next (a : Value) : argsOk "set_iterator.__next__" ⟨[a], []⟩ := by unfold argsOk; kernel_rfl
theorem entry_iter : entryFor table "set.__iter__" = some Builtin.«frozenset.__iter__» := entryFor_alias (id' := "frozenset.__iter__") (by kernel_rfl) rfl (by decide +kernel) (by kernel_rfl)
theorem slot_iter_iter : Slot "set_iterator" "__iter__" "set_iterator.__iter__" :=
  .of (owner := "set_iterator") (n := "__iter__") (by rw [typeLookup_type, builtinLookup_eq_fast]; kernel_rfl) (by decide +kernel) (by decide +kernel) (by decide +kernel)
    (by first | exact .inl (by decide +kernel) | exact .inr (by decide +kernel)) (by rw [isSubtype_type]; kernel_rfl)
theorem entry_iter_iter : entryFor table "set_iterator.__iter__" = some Builtin.«dict_keyiterator.__iter__» := entryFor_alias (id' := "dict_keyiterator.__iter__") (by kernel_rfl) rfl (by decide +kernel) (by kernel_rfl)
theorem args_iter_iter (a : Value) : argsOk "set_iterator.__iter__" ⟨[a], []⟩ := by unfold argsOk; kernel_rfl
end SF
theorem erase_perm {α : Type} (l : List α) (k : Nat) (hk : k < l.length) : List.Perm (l[k] :: l.eraseIdx k) l := by
  have e : l = l.take k ++ l[k] :: l.drop (k + 1) := by simp
  rw [List.eraseIdx_eq_take_drop_succ]
  exact (List.perm_middle.symm).trans (List.Perm.of_eq e.symm)
/-- a drawn order is an order -/
theorem draw_perm {M : Model} {α : Type} : ∀ (n : Nat) (xs : List α) (s : Shared) (Q : List α → Shared → Prop), xs.length = n → (∀ ys d', List.Perm ys xs → Q ys { s with drawn := d' }) → wpAny M A (drawOrder n xs) Q E s
  | 0, [], s, Q, _, h => wpAny_pure (h [] s.drawn .nil)
  | 0, _ :: _, s, Q, e, h => by simp at e
  | n + 1, [], s, Q, e, h => by simp at e
  | n + 1, x :: xs, s, Q, e, h => by
    unfold drawOrder
    refine wpAny_bind (wpAny_pick (by simp) fun k d' hk => ?_)
    have hk' : (x :: xs)[k]? = some (x :: xs)[k] := List.getElem?_eq_getElem hk
    rw [hk']
    dsimp only
    have hl : ((x :: xs).eraseIdx k).length = n := by rw [List.length_eraseIdx_of_lt hk, e]; rfl
    refine wpAny_bind (draw_perm n _ _ _ hl fun ys d'' hp => ?_)
    refine wpAny_pure (h _ d'' ?_)
    refine (List.Perm.cons _ hp).trans ?_
    exact erase_perm _ _ hk

/-- what a set's iterator walks: by the text, drawn, by places -/
def iterObj (first : Value) (i : Nat) (a : Addr) (n ep : Nat) : Obj := { cls := .type "set_iterator", data := .fields #[first, rawInt i, .ref a, rawInt n, rawInt ep] }
theorem setsByText_at {Q : Bool → Shared → Prop} (h : Q (byText w) s) : wpAny (model prog w) A setsByText Q E s := by
  unfold setsByText
  exact wpAny_bind (wpAny_askSetting (wpAny_pure h))
/-- the order drawn, if it is -/
def Firsts (w : World) (es : Array (Int × Value)) (t : SetTable) (first : Value) (h : Heap) : Prop :=
  ((!byText w && (!t.plain && decide (es.size > 1))) = false ∧ first = rawInt 0) ∨
    ((!byText w && (!t.plain && decide (es.size > 1))) = true ∧ ∃ T places, first = .ref T ∧ IsTup h T (places.map fun i : Nat => rawInt i).toArray ∧ List.Perm places (List.range es.size))
theorem pyIter_set {a : Addr} {o : Obj} {es : Array (Int × Value)} {ep : Nat} {t : SetTable} {Q : Value → Shared → Prop} (ho : s.heap.get? a = some o) (hc : o.cls = .type "set") (hd : o.data = .set es ep t) (hf : t.fits es.size = true) (hb : es.size < scanBound)
    (h : ∀ first h' d', Gr s.heap h' → Firsts w es t first h' → Q (.ref h'.objs.size) { s with heap := h'.push (iterObj first 0 a es.size ep), drawn := d' }) : wpAny (model prog w) A (pyIter (.ref a)) Q E s := by
  have hT : s.TypeIs (.ref a) "set" := ⟨_, ho, hc⟩
  refine wpAny_pyIter_slot hT PySem.F.slot_set_iter (wpAny_call_entry PySem.F.slot_set_iter hT SF.entry_iter ?_ (PySem.F.args_set_iter_1 _))
  unfold Builtin.«frozenset.__iter__» Builtin.Frozenset.slot0 slotArgs
  simp only [List.isEmpty_nil, Bool.not_true, Bool.false_eq_true, ↓reduceIte, bind_assoc, List.length_nil, bne_self_eq_false]
  unfold Builtin.Frozenset.addrOf Builtin.Frozenset.sizeOf
  refine wpAny_bind (wpAny_pure ?_)
  try dsimp only
  refine wpAny_bind (wpAny_pure ?_)
  refine wpAny_bind (wpAny_bind (wpAny_setEntries_of ho hd hf (wpAny_pure ?_)))
  have fin : ∀ (first : Value) (h' : Heap) (d' : Drawn), Gr s.heap h' → Firsts w es t first h' → wpAny (model prog w) A.in1 (do
      let ep ← setEpoch a
      let r ← newFields "set_iterator" [first, rawInt 0, .ref a, rawInt es.size, rawInt ep]
      ret r) (fun fin s' => ∃ v, fin = Fin.done (Flow.ret v) ∧ ∃ T' r, s'.TypeIs v T' ∧ typeLookup (Value.type T') (Str.ofString "__next__") = pure (some r) ∧ Q v s') E { s with heap := h', drawn := d' } := by
    intro first h' d' g hF
    refine wpAny_bind (wpAny_setEpoch_of (g _ _ ho) hd hf ?_)
    unfold newFields
    refine wpAny_bind (wpAny_newObj_type (wpAny_pure ⟨_, rfl, "set_iterator", _, ⟨_, Heap.get?_push_size _ rfl, rfl⟩, SF.slot_next.lookup, h first h' d' g hF⟩) (by size_fits))
  refine wpAny_bind ?_
  unfold setDrawn
  refine wpAny_bind (wpAny_setState_of ho hd hf (wpAny_bind (setsByText_at (wpAny_pure ?_))))
  by_cases q : (!byText w && (!t.plain && decide (es.size > 1))) = true
  · refine wpAny_ite_true (decide_eq_true q) ?_
    refine wpAny_bind (draw_perm _ _ _ _ (by simp) fun ys d' hp => ?_)
    refine wpAny_bind (wpAny_newObj_type ?_ (by
      show (ys.map fun i : Nat => rawInt i).toArray.size ≤ sizeLine
      have := hp.length_eq
      rw [List.length_range] at this
      rw [List.size_toArray, List.length_map, this]
      exact fits_of_scanBound hb))
    exact fin _ _ d' (Gr.push _ _) (.inr ⟨q, _, ys, rfl, ⟨_, Heap.get?_push_size _ rfl, rfl, 0, rfl⟩, hp⟩)
  · refine wpAny_ite_false (decide_eq_false q) ?_
    refine wpAny_bind (wpAny_pure ?_)
    exact fin _ s.heap s.drawn (Gr.refl _) (.inl ⟨Bool.eq_false_iff.mpr q, rfl⟩)
end Mine
end Set6x
section Set7x
open PySem PySem.W PyProof.Rows PySem.Calls
namespace Mine
variable {prog : Program} {w : World} {A : Around} {E : Value → Shared → Prop} {s : Shared}
/-- one step, where the order is not drawn -/
def nx (w : World) (a : Addr) (es : Array (Int × Value)) (ep : Nat) (t : SetTable) (slot given : Nat) : Option (Value × Nat) :=
  if byText w then ((pickOrder (w.params.setOrder a ep) es)[given]?).map fun e => (e.2, slot)
  else match es[SetTable.below t.place slot]?, t.place[SetTable.below t.place slot]? with
    | some (_, x), some j => some (x, j + 1)
    | _, _ => none
theorem setNext_at {a : Addr} {o : Obj} {es : Array (Int × Value)} {ep : Nat} {t : SetTable} {slot given : Nat} {Q : Option (Value × Nat) → Shared → Prop} (ho : s.heap.get? a = some o) (hd : o.data = .set es ep t) (hf : t.fits es.size = true)
    (hl : t.led = !byText w) (hnd : (!byText w && (!t.plain && decide (es.size > 1))) = false) (h : Q (nx w a es ep t slot given) s) : wpAny (model prog w) A (setNext a slot given ep) Q E s := by
  unfold setNext
  refine wpAny_bind (wpAny_setState_of ho hd hf ?_)
  refine wpAny_bind (setsByText_at ?_)
  by_cases q : byText w = true
  · refine wpAny_ite_true (decide_eq_true q) ?_
    have hne : (ep != ep) = false := by simp
    simp only [hne, Bool.false_eq_true, if_false]
    refine wpAny_bind ?_
    unfold setWalk
    refine wpAny_bind (wpAny_setState_of ho hd hf ?_)
    refine wpAny_bind (setsByText_at ?_)
    refine wpAny_ite_true (decide_eq_true q) ?_
    refine wpAny_bind (wpAny_askSetting (wpAny_pure ?_))
    refine wpAny_pure ?_
    unfold nx at h
    rw [if_pos q] at h
    exact h
  · have q : byText w = false := Bool.eq_false_iff.mpr q
    refine wpAny_ite_false (decide_eq_false (by rw [q]; decide)) ?_
    rw [q] at hnd hl
    refine wpAny_ite_false (decide_eq_false (by
      intro e
      have e : (!t.plain && decide (es.size > 1)) = true := e
      rw [e] at hnd; cases hnd)) ?_
    refine wpAny_bind ?_
    have led : (!t.led && !es.isEmpty) = false := by rw [hl]; rfl
    refine wpAny_ite_false (decide_eq_false (by
      intro e
      have e : (!t.led && !es.isEmpty) = true := e
      rw [led] at e; cases e)) ?_
    refine wpAny_pure (wpAny_pure ?_)
    unfold nx at h
    rw [if_neg (by rw [q]; decide)] at h
    exact h
/-- the picked order is an order -/
theorem pick_perm {α : Type} (next : Nat → Nat) : ∀ (n k : Nat) (left : List α) (out : Array α), left.length = n → List.Perm (pickOrder.go next n k left out).toList (out.toList ++ left)
  | 0, k, left, out, h => by
    have : left = [] := List.length_eq_zero_iff.mp h
    subst this
    unfold pickOrder.go
    simp
  | n + 1, k, left, out, h => by
    unfold pickOrder.go
    have hk : next k % left.length < left.length := Nat.mod_lt _ (by omega)
    rw [List.getElem?_eq_getElem hk]
    dsimp only
    refine (pick_perm next n (k + 1) _ _ (by rw [List.length_eraseIdx_of_lt hk, h]; rfl)).trans ?_
    rw [Array.toList_push, List.append_assoc]
    exact List.Perm.append_left _ (erase_perm left _ hk)
theorem pickOrder_perm {α : Type} (next : Nat → Nat) (xs : Array α) : List.Perm (pickOrder next xs).toList xs.toList := by
  have := pick_perm next xs.size 0 xs.toList #[] (by simp)
  simpa [pickOrder] using this
theorem next_body {a I : Addr} {o : Obj} {es : Array (Int × Value)} {ep i slot : Nat} {t : SetTable} {R : Fin → Shared → Prop} (hI : s.heap.get? I = some (iterObj (rawInt slot) i a es.size ep)) (ho : s.heap.get? a = some o) (hd : o.data = .set es ep t) (hf : t.fits es.size = true)
    (hl : t.led = !byText w) (hnd : (!byText w && (!t.plain && decide (es.size > 1))) = false)
    (hs : ∀ x nxt, nx w a es ep t slot i = some (x, nxt) → ∀ h', h'.get? I = some (iterObj (rawInt nxt) (i + 1) a es.size ep) → Heap.SameBut I s.heap h' → R (.done (.ret x)) { s with heap := h' })
    (hn : nx w a es ep t slot i = none → A.handled = none ∧ ∀ h' e, Heap.ExtBut I s.heap h' → (∃ ob, h'.get? e = some ob ∧ ob.cls = .type "StopIteration") → E (.ref e) { s with heap := h' }) :
    wpAny (model prog w) A (Builtin.«set_iterator.__next__» ⟨[.ref I], []⟩) R E s := by
  unfold Builtin.«set_iterator.__next__» slotArgs
  simp only [List.isEmpty_nil, Bool.not_true, Bool.false_eq_true, ↓reduceIte, bind_assoc, List.length_nil, bne_self_eq_false]
  refine wpAny_bind (wpAny_pure ?_)
  unfold fieldsOf
  refine wpAny_bind (wpAny_bind (wpAny_load hI (wpAny_pure ?_)))
  dsimp only [iterObj]
  refine wpAny_bind (wpAny_setEntries_of ho hd hf ?_)
  refine wpAny_ite_false (decide_eq_false (by simp)) ?_
  show wpAny _ _ (do
      let r ← setNext a (slot : Int).toNat (i : Int).toNat (ep : Int).toNat
      match r with
        | some (x, next) => do
          setField (Value.ref I) 0 (rawInt ↑next)
          setField (Value.ref I) 1 (rawInt (i + 1))
          ret x
        | none => do
          setField (Value.ref I) 2 Value.none
          let e ← newExc (Value.type "StopIteration") []
          raiseNew e) _ _ _
  rw [Int.toNat_natCast, Int.toNat_natCast, Int.toNat_natCast]
  refine wpAny_bind (setNext_at ho hd hf hl hnd ?_)
  cases q : nx w a es ep t slot i with
  | some r =>
    obtain ⟨x, nxt⟩ := r
    dsimp only
    refine wpAny_bind (wpAny_setField_rec hI (by simp) fun h' e1 s1 => ?_)
    refine wpAny_bind (wpAny_setField_rec e1 (by simp) fun h'' e2 s2 => ?_)
    exact wpAny_pure (hs x nxt q h'' e2 (s1.trans s2))
  | none =>
    dsimp only
    obtain ⟨hh, hE⟩ := hn q
    refine wpAny_bind (wpAny_setField_rec hI (by simp) fun h' e1 s1 => ?_)
    show wpAny _ _ (newExc (.type "StopIteration") [] >>= _) _ _ _
    refine wpAny_bind ?_
    simp only [newExc, newTuple]
    refine wpAny_bind (wpAny_newObj_type ?_ (by size_fits))
    refine wpAny_bind (m := firstArgMember _ _) (wpAny_of_eq (a := Value.none) (by first | rfl | (simp only [firstArgMember]; rfl)) ?_)
    refine wpAny_newObj_type ?_ (by size_fits)
    simp only [raiseNew]
    refine wpAny_bind (wpAny_handled ?_)
    rw [hh]
    refine wpAny_bind (wpAny_pure (wpAny_throw ?_))
    exact hE _ _ ((s1.extBut.push _).push _) ⟨_, Heap.get?_push_size _ rfl, rfl⟩

theorem self_iter {I a : Addr} {first : Value} {i n ep : Nat} {Q : Value → Shared → Prop} (hI : s.heap.get? I = some (iterObj first i a n ep)) (h : Q (.ref I) s) : wpAny (model prog w) A (pyIter (.ref I)) Q E s := by
  have hT : s.TypeIs (.ref I) "set_iterator" := ⟨_, hI, rfl⟩
  refine wpAny_pyIter_slot hT SF.slot_iter_iter (wpAny_call_entry SF.slot_iter_iter hT SF.entry_iter_iter ?_ (SF.args_iter_iter _))
  show wpAny _ _ (ret (.ref I)) _ _ s
  exact wpAny_pure ⟨_, rfl, "set_iterator", _, hT, SF.slot_next.lookup, h⟩
/-- the walk where the order is not drawn -/
theorem walks_set {a I : Addr} {o : Obj} {es : Array (Int × Value)} {ep : Nat} {t : SetTable} (hh : A.handled = none) (hne : a ≠ I) (hd : o.data = .set es ep t) (hf : t.fits es.size = true) (hl : t.led = !byText w) (hnd : (!byText w && (!t.plain && decide (es.size > 1))) = false)
    (slot : Nat → Nat) (ys : List Value) (hs : ∀ i, i < ys.length → ∃ x, ys[i]? = some x ∧ nx w a es ep t (slot i) i = some (x, slot (i + 1))) (he : nx w a es ep t (slot ys.length) ys.length = none) :
    Walks prog w A I [I, a] [I] ys.length (fun i v => ys[i]? = some v) (fun i h => h.get? I = some (iterObj (rawInt (slot i)) i a es.size ep) ∧ h.get? a = some o) where
  sub := fun b hb => by simp at hb; simp [hb]
  frame := fun _ _ _ st hk => ⟨hk I (by simp) _ st.1, hk a (by simp) _ st.2⟩
  item := fun i s Q E hi st hQ => by
    obtain ⟨hI, ho⟩ := st
    have hT : s.TypeIs (.ref I) "set_iterator" := ⟨_, hI, rfl⟩
    obtain ⟨x, hx, hn⟩ := hs i hi
    unfold pyNext
    refine wpAny_bind (wpAny_attempt (wpAny_callSpecial?_slot (name := Str.ofString "__next__") hT SF.slot_next (wpAny_call_entry SF.slot_next hT SF.entry_next ?_ (SF.args_next _))))
    refine next_body hI ho hd hf hl hnd (fun x' nxt e h' hI' hsb => ?_) (fun e => by rw [hn] at e; cases e)
    rw [hn] at e
    cases e
    refine ⟨_, rfl, wpAny_pure (hQ x h' s.toks hx ⟨hI', ?_⟩ fun b o hb e => (hsb.2 b (fun q => hb (by simp [q]))).trans e)⟩
    exact (hsb.2 a hne).trans ho
  done := fun s Q E st hQ => by
    obtain ⟨hI, ho⟩ := st
    have hT : s.TypeIs (.ref I) "set_iterator" := ⟨_, hI, rfl⟩
    unfold pyNext
    refine wpAny_bind (wpAny_attempt (wpAny_callSpecial?_slot (name := Str.ofString "__next__") hT SF.slot_next (wpAny_call_entry SF.slot_next hT SF.entry_next ?_ (SF.args_next _))))
    refine next_body hI ho hd hf hl hnd (fun x' nxt e h' hI' hsb => by rw [he] at e; cases e) (fun _ => ⟨hh, fun h' e hx hc => ?_⟩)
    obtain ⟨ob, hob, hc⟩ := hc
    refine wpAny_bind (wpAny_isInstance (T := "StopIteration") (b := true) ⟨ob, hob, hc⟩ isSubtype_stop ?_)
    exact wpAny_pure (hQ h' s.toks fun b o hb e => hx b o (fun q => hb (by simp [q])) e)
  self := fun i s Q E st hQ => self_iter st.1 hQ

/-- .. where it is -/
theorem drawn_body {a I T : Addr} {o : Obj} {es : Array (Int × Value)} {ep i : Nat} {t : SetTable} {places : List Nat} {R : Fin → Shared → Prop} (hI : s.heap.get? I = some (iterObj (.ref T) i a es.size ep)) (ho : s.heap.get? a = some o) (hd : o.data = .set es ep t) (hf : t.fits es.size = true)
    (hT : IsTup s.heap T (places.map fun i : Nat => rawInt i).toArray)
    (hs : ∀ k e, places[i]? = some k → es[k]? = some e → ∀ h', h'.get? I = some (iterObj (.ref T) (i + 1) a es.size ep) → Heap.SameBut I s.heap h' → R (.done (.ret e.2)) { s with heap := h' })
    (hin : ∀ k, places[i]? = some k → k < es.size)
    (hn : places[i]? = none → A.handled = none ∧ ∀ h' e, Heap.ExtBut I s.heap h' → (∃ ob, h'.get? e = some ob ∧ ob.cls = .type "StopIteration") → E (.ref e) { s with heap := h' }) :
    wpAny (model prog w) A (Builtin.«set_iterator.__next__» ⟨[.ref I], []⟩) R E s := by
  unfold Builtin.«set_iterator.__next__» slotArgs
  simp only [List.isEmpty_nil, Bool.not_true, Bool.false_eq_true, ↓reduceIte, bind_assoc, List.length_nil, bne_self_eq_false]
  refine wpAny_bind (wpAny_pure ?_)
  unfold fieldsOf
  refine wpAny_bind (wpAny_bind (wpAny_load hI (wpAny_pure ?_)))
  dsimp only [iterObj]
  refine wpAny_bind (wpAny_setEntries_of ho hd hf ?_)
  refine wpAny_ite_false (decide_eq_false (by simp)) ?_
  obtain ⟨oT, hoT, _, nT, hdT⟩ := hT
  show wpAny _ _ (do
      let r ← seqItems? (.ref T)
      match r with
        | some places =>
          match places[(i : Int).toNat]? with
          | some (Value.int place tok) => do
            let x ← setNextDrawn a place.toNat (ep : Int).toNat
            setField (Value.ref I) 1 (rawInt (i + 1))
            ret x
          | some _ => unsupported "internal:set_iterator"
          | none => do
            setField (Value.ref I) 0 (rawInt 0)
            setField (Value.ref I) 2 .none
            let e ← newExc (Value.type "StopIteration") []
            raiseNew e
        | _ => unsupported "internal:set_iterator") _ _ _
  refine wpAny_bind (wpAny_seqItems hoT hdT ?_)
  dsimp only
  rw [Int.toNat_natCast, Int.toNat_natCast, List.getElem?_toArray, List.getElem?_map]
  cases q : places[i]? with
  | some k =>
    have hk := hin k q
    show wpAny _ _ (do
            let x ← setNextDrawn a (k : Int).toNat ep
            setField (Value.ref I) 1 (rawInt (i + 1))
            ret x) _ _ _
    rw [Int.toNat_natCast]
    refine wpAny_bind ?_
    unfold setNextDrawn
    refine wpAny_bind (wpAny_setState_of ho hd hf ?_)
    refine wpAny_ite_false (decide_eq_false (by simp)) ?_
    have he : es[k]? = some es[k] := Array.getElem?_eq_getElem hk
    dsimp only
    rw [he]
    dsimp only
    refine wpAny_pure ?_
    refine wpAny_bind (wpAny_setField_rec hI (by simp) fun h' e1 s1 => ?_)
    exact wpAny_pure (hs k es[k] q he h' e1 s1)
  | none =>
    obtain ⟨hh, hE⟩ := hn q
    dsimp only [Option.map_none]
    refine wpAny_bind (wpAny_setField_rec hI (by simp) fun h' e1 s1 => ?_)
    refine wpAny_bind (wpAny_setField_rec e1 (by simp) fun h'' e2 s2 => ?_)
    show wpAny _ _ (newExc (.type "StopIteration") [] >>= _) _ _ _
    refine wpAny_bind ?_
    simp only [newExc, newTuple]
    refine wpAny_bind (wpAny_newObj_type ?_ (by size_fits))
    refine wpAny_bind (m := firstArgMember _ _) (wpAny_of_eq (a := Value.none) (by first | rfl | (simp only [firstArgMember]; rfl)) ?_)
    refine wpAny_newObj_type ?_ (by size_fits)
    simp only [raiseNew]
    refine wpAny_bind (wpAny_handled ?_)
    rw [hh]
    refine wpAny_bind (wpAny_pure (wpAny_throw ?_))
    exact hE _ _ (((s1.trans s2).extBut.push _).push _) ⟨_, Heap.get?_push_size _ rfl, rfl⟩
theorem walks_drawn {a I T : Addr} {o : Obj} {es : Array (Int × Value)} {ep : Nat} {t : SetTable} {places : List Nat} (hh : A.handled = none) (hne : a ≠ I) (hTI : T ≠ I) (hd : o.data = .set es ep t) (hf : t.fits es.size = true) (hin : ∀ k ∈ places, k < es.size) :
    Walks prog w A I [I, a, T] [I] places.length (fun i v => (places.filterMap fun k => es[k]?.map (·.2))[i]? = some v) (fun i h => h.get? I = some (iterObj (.ref T) i a es.size ep) ∧ h.get? a = some o ∧ IsTup h T (places.map fun i : Nat => rawInt i).toArray) where
  sub := fun b hb => by simp at hb; simp [hb]
  frame := fun _ _ _ st hk => ⟨hk I (by simp) _ st.1, hk a (by simp) _ st.2.1, let ⟨o, q, r⟩ := st.2.2; ⟨o, hk T (by simp) _ q, r⟩⟩
  item := fun i s Q E hi st hQ => by
    obtain ⟨hI, ho, hTu⟩ := st
    have hT : s.TypeIs (.ref I) "set_iterator" := ⟨_, hI, rfl⟩
    have hall : (places.filterMap fun k => es[k]?.map (·.2)) = places.map fun k => (es[k]?.map (·.2)).getD .none := by
      have : ∀ l : List Nat, (∀ k ∈ l, k < es.size) → (l.filterMap fun k => es[k]?.map (·.2)) = l.map fun k => (es[k]?.map (·.2)).getD .none := by
        intro l
        induction l with
        | nil => intro _; rfl
        | cons k l ih =>
          intro hl
          have hk := hl k List.mem_cons_self
          rw [List.filterMap_cons, List.map_cons, Array.getElem?_eq_getElem hk, ih fun k hk => hl k (List.mem_cons_of_mem _ hk)]
          rfl
      exact this places hin
    unfold pyNext
    refine wpAny_bind (wpAny_attempt (wpAny_callSpecial?_slot (name := Str.ofString "__next__") hT SF.slot_next (wpAny_call_entry SF.slot_next hT SF.entry_next ?_ (SF.args_next _))))
    refine drawn_body hI ho hd hf hTu (fun k e hk he h' hI' hsb => ?_) (fun k hk => hin k (List.mem_of_getElem? hk)) (fun e => by rw [List.getElem?_eq_getElem hi] at e; cases e)
    refine ⟨_, rfl, wpAny_pure (hQ e.2 h' s.toks ?_ ⟨hI', (hsb.2 a hne).trans ho, let ⟨o, q, r⟩ := hTu; ⟨o, (hsb.2 T hTI).trans q, r⟩⟩ fun b o hb e => (hsb.2 b (fun q => hb (by simp [q]))).trans e)⟩
    rw [hall, List.getElem?_map, hk, Option.map_some, he]; rfl
  done := fun s Q E st hQ => by
    obtain ⟨hI, ho, hTu⟩ := st
    have hT : s.TypeIs (.ref I) "set_iterator" := ⟨_, hI, rfl⟩
    unfold pyNext
    refine wpAny_bind (wpAny_attempt (wpAny_callSpecial?_slot (name := Str.ofString "__next__") hT SF.slot_next (wpAny_call_entry SF.slot_next hT SF.entry_next ?_ (SF.args_next _))))
    refine drawn_body hI ho hd hf hTu (fun k e hk he h' hI' hsb => by simp at hk) (fun k hk => by simp at hk) (fun _ => ⟨hh, fun h' e hx hc => ?_⟩)
    obtain ⟨ob, hob, hc⟩ := hc
    refine wpAny_bind (wpAny_isInstance (T := "StopIteration") (b := true) ⟨ob, hob, hc⟩ isSubtype_stop ?_)
    exact wpAny_pure (hQ h' s.toks fun b o hb e => hx b o (fun q => hb (by simp [q])) e)
  self := fun i s Q E st hQ => self_iter st.1 hQ
end Mine
end Set7x
section Set8x
open PySem PySem.W PyProof.Rows PySem.Calls
namespace Mine
variable {prog : Program} {w : World} {A : Around} {E : Value → Shared → Prop} {s : Shared}
theorem take_snd {α β : Type} (es : Array (α × β)) : ∀ n : Nat, ((List.range n).filterMap fun k => es[k]?.map (·.2)) = (es.toList.map (·.2)).take n
  | 0 => by simp
  | n + 1 => by
    rw [List.range_succ, List.filterMap_append, take_snd es n, List.take_succ]
    congr 1
    rw [List.getElem?_map, Array.getElem?_toList]
    cases h : es[n]? <;> simp [h]
structure Walked (prog : Program) (w : World) (A : Around) (a I : Addr) (ys : List Value) (h' : Heap) (fp : List Addr) (St : Nat → Heap → Prop) : Prop where
  walks : Walks prog w A I fp [I] ys.length (fun i v => ys[i]? = some v) St
  start : St 0 h'
  nolist : ∀ b ∈ fp, ∀ o, h'.get? b = some o → o.cls ≠ .type "list"
theorem set_walk {a : Addr} {o : Obj} {es : Array (Int × Value)} {ep : Nat} {t : SetTable} {first : Value} {h' : Heap} (hh : A.handled = none) (ho : h'.get? a = some o) (hd : o.data = .set es ep t) (hf : t.fits es.size = true) (hc : o.cls = .type "set") (hl : t.led = !byText w) (hr : Rise t.place) (hF : Firsts w es t first h') :
    ∃ ys fp St, Walked prog w A a h'.objs.size ys (h'.push (iterObj first 0 a es.size ep)) fp St ∧ List.Perm ys (es.toList.map (·.2)) := by
  have hlt : a < h'.objs.size := Heap.lt_size ho
  have hne : a ≠ h'.objs.size := Nat.ne_of_lt hlt
  have hsz : (h'.push (iterObj first 0 a es.size ep)).objs.size = h'.objs.size + 1 := Heap.size_push ..
  have hI : (h'.push (iterObj first 0 a es.size ep)).get? h'.objs.size = some (iterObj first 0 a es.size ep) := Heap.get?_push_size _ rfl
  have ho' : (h'.push (iterObj first 0 a es.size ep)).get? a = some o := Heap.get?_push_of_some _ ho
  have big : ∀ b o', b = h'.objs.size ∨ b = a → (h'.push (iterObj first 0 a es.size ep)).get? b = some o' → o'.cls ≠ .type "list" := fun b o' hb e => by
    rcases hb with rfl | rfl
    · rw [hI] at e; cases e; show Value.type "set_iterator" ≠ Value.type "list"; decide
    · rw [ho'] at e; cases e; rw [hc]; decide
  rcases hF with ⟨hnd, rfl⟩ | ⟨hdr, T, places, rfl, hT, hp⟩
  · cases q : byText w with
    | true =>
      have hpk := (pickOrder_perm (w.params.setOrder a ep) es).map (·.2)
      refine ⟨(pickOrder (w.params.setOrder a ep) es).toList.map (·.2), _, _, ⟨walks_set hh hne hd hf hl hnd (fun _ => 0) _ (fun i hi => ?_) ?_, ⟨hI, ho'⟩, fun b hb ob hob => ?_⟩, hpk⟩
      · have hi' : i < (pickOrder (w.params.setOrder a ep) es).size := by simpa using hi
        refine ⟨(pickOrder (w.params.setOrder a ep) es)[i].2, ?_, ?_⟩
        · rw [List.getElem?_map, Array.getElem?_toList, Array.getElem?_eq_getElem hi']; rfl
        · unfold nx
          rw [if_pos q, Array.getElem?_eq_getElem hi']; rfl
      · unfold nx
        rw [if_pos q, Array.getElem?_eq_none (by simp)]; rfl
      · simp only [List.mem_cons, List.not_mem_nil, or_false] at hb
        exact big b ob hb hob
    | false =>
      have hps : t.place.size = es.size := by
        simp only [SetTable.fits, Bool.and_eq_true, beq_iff_eq] at hf
        exact hf.1
      let slot : Nat → Nat := fun i => if i = 0 then 0 else t.place.getD (i - 1) 0 + 1
      have hb : ∀ i, i ≤ es.size → SetTable.below t.place (slot i) = i := fun i hi => by
        by_cases e : i = 0
        · subst e; exact below_zero hr
        · have := below_next hr (i := i - 1) (by omega)
          show SetTable.below t.place (if i = 0 then 0 else t.place.getD (i - 1) 0 + 1) = i
          rw [if_neg e, this]; omega
      have hyl : (es.toList.map (·.2)).length = es.size := by simp
      refine ⟨es.toList.map (·.2), _, _, ⟨walks_set hh hne hd hf hl hnd slot _ (fun i hi => ?_) ?_, ⟨hI, ho'⟩, fun b hb ob hob => ?_⟩, .refl _⟩
      · rw [hyl] at hi
        have hip : i < t.place.size := by omega
        refine ⟨es[i].2, ?_, ?_⟩
        · rw [List.getElem?_map, Array.getElem?_toList, Array.getElem?_eq_getElem hi]; rfl
        · unfold nx
          rw [if_neg (by rw [q]; decide), hb i (by omega), Array.getElem?_eq_getElem hi, Array.getElem?_eq_getElem hip]
          show some (es[i].2, t.place[i] + 1) = some (es[i].2, slot (i + 1))
          congr 2
          show _ = if i + 1 = 0 then 0 else t.place.getD (i + 1 - 1) 0 + 1
          rw [if_neg (by omega), Nat.add_sub_cancel, Array.getD_eq_getD_getElem?, Array.getElem?_eq_getElem hip]; rfl
      · unfold nx
        rw [if_neg (by rw [q]; decide), hyl, hb es.size (Nat.le_refl _), Array.getElem?_eq_none (Nat.le_refl _)]
      · simp only [List.mem_cons, List.not_mem_nil, or_false] at hb
        exact big b ob hb hob
  · have hTlt : T < h'.objs.size := by obtain ⟨o, q, _⟩ := hT; exact Heap.lt_size q
    have hin : ∀ k ∈ places, k < es.size := fun k hk => List.mem_range.mp (hp.mem_iff.mp hk)
    have hpm : List.Perm (places.filterMap fun k => es[k]?.map (·.2)) (es.toList.map (·.2)) := by
      refine (hp.filterMap _).trans (List.Perm.of_eq ?_)
      rw [take_snd, List.take_of_length_le (by simp)]
    have hlen : (places.filterMap fun k => es[k]?.map (·.2)).length = places.length := by
      rw [hpm.length_eq, hp.length_eq]; simp
    have W := walks_drawn (prog := prog) (w := w) (A := A) (I := h'.objs.size) (ep := ep) hh hne (Nat.ne_of_lt hTlt) hd hf hin
    rw [← hlen] at W
    refine ⟨_, _, _, ⟨W, ⟨hI, ho', let ⟨o, q, r⟩ := hT; ⟨o, Heap.get?_push_of_some _ q, r⟩⟩, fun b hb ob hob => ?_⟩, hpm⟩
    simp only [List.mem_cons, List.not_mem_nil, or_false] at hb
    rcases hb with hb | hb | rfl
    · exact big b ob (.inl hb) hob
    · exact big b ob (.inr hb) hob
    · obtain ⟨oT, q, hcT, _⟩ := hT
      rw [Heap.get?_push_of_some _ q] at hob; cases hob
      rw [hcT]; decide
end Mine
end Set8x
section Set9x
open PySem PySem.W PyProof.Rows PySem.Calls
namespace Mine
variable {prog : Program} {w : World} {A : Around} {E : Value → Shared → Prop} {s : Shared}
theorem hint_set {a : Addr} {o : Obj} {Q : Bool → Shared → Prop} (ho : s.heap.get? a = some o) (hc : o.cls = .type "set") (h : Q false s) : wpAny (model prog w) A (Builtin.List.listLengthHint (.ref a)) Q E s := by
  have hT : s.TypeIs (.ref a) "set" := ⟨_, ho, hc⟩
  unfold Builtin.List.listLengthHint
  refine wpAny_bind (wpAny_specialOf hT PySem.F.slot_set_len.lookup ?_)
  generalize hid : ("set.__len__" : String) = id0
  wp_delta
  rw [show splitId id0 = some ("set", "__len__") from by subst hid; decide +kernel]
  subst hid
  refine wpAny_bind (wpAny_isInstance (T := "set") (b := true) hT (by rw [isSubtype_type]; kernel_rfl) ?_)
  refine wpAny_ite_split (fun hab => absurd hab (by decide)) (fun _ => ?_)
  refine wpAny_ite_split (fun _ => ?_) (fun hab => absurd (by decide +kernel) hab)
  refine wpAny_bind (wpAny_typeOf hT ?_)
  exact wpAny_pure h
theorem collect_set {a : Addr} {ns : List Int} {Q : List Value → Shared → Prop} (hh : A.handled = none) (S : SetX prog w s.heap a (!byText w) ns)
    (h : ∀ vs ms h' tk d', IntsAre vs ms → ms.Nodup → (∀ n ∈ ms, n ∈ ns) → vs.length ≤ ns.length → Gr s.heap h' → Q vs { s with heap := h', toks := tk, drawn := d' }) : wpAny (model prog w) A (collect (.ref a)) Q E s := by
  obtain ⟨o, es, ep, t, ho, hex, hd, hel, hnd, hsub, hle, hb, hf, hled, hri⟩ := S
  have hlt : a < s.heap.objs.size := Heap.lt_size ho
  unfold collect
  refine wpAny_bind (wpAny_runValue (codeAny_builtin entry_proto_collect' ?_))
  show wpAny _ _ (do again (.builtin "list.__iadd__" ⟨[← newList [], .ref a], []⟩)) _ _ s
  refine wpAny_bind (wpAny_newList (wpAny_pure ⟨Code.quiet_builtin _ (by decide +kernel), codeAny_builtin entry_list_iadd' ?_⟩))
  show wpAny _ _ (Builtin.List.listExtendWith (.ref s.heap.objs.size) (.ref a) (.ref s.heap.objs.size)) _ _ { s with heap := s.heap.push (seqObj "list" #[] 0) }
  unfold Builtin.List.listExtendWith
  have ho' : (s.heap.push (seqObj "list" #[] 0)).get? a = some o := Heap.get?_push_of_some _ ho
  have hL : (s.heap.push (seqObj "list" #[] 0)).get? s.heap.objs.size = some (seqObj "list" #[] 0) := Heap.get?_push_size _ rfl
  refine wpAny_bind (wpAny_typeOf (T := "set") ⟨o, ho', hex.1⟩ ?_)
  have h1 : Builtin.List.listSameRef (.ref s.heap.objs.size) (.ref a) = false := by simp [Builtin.List.listSameRef, Nat.ne_of_gt hlt]
  have h2 : (Value.type "set" == Value.type "list") = false := by decide
  have h3 : (Value.type "set" == Value.type "tuple") = false := by decide
  simp only [h1, h2, h3, Bool.or_false, Bool.false_eq_true, if_false]
  refine wpAny_bind (pyIter_set (s := { s with heap := s.heap.push (seqObj "list" #[] 0) }) ho' hex.1 hd hf hb fun first h₁ d₁ g₁ hF => ?_)
  have ho₁ := g₁ _ _ ho'
  have hL₁ := g₁ _ _ hL
  refine wpAny_bind (wpAny_holding (hint_set (Heap.get?_push_of_some _ ho₁) hex.1 ?_))
  obtain ⟨ys, fp, St, W, hperm⟩ := set_walk (prog := prog) (w := w) (A := A.in1) (h' := h₁) (first := first) (by simpa using hh) ho₁ hd hf hex.1 hled hri hF
  have hyl : ys.length = es.size := by rw [hperm.length_eq]; simp
  have hI₁ : h₁.objs.size = h₁.objs.size := rfl
  have hLlt : s.heap.objs.size < h₁.objs.size := Heap.lt_size hL₁
  have hfpL : s.heap.objs.size ∉ fp := fun hm => W.nolist _ hm _ (Heap.get?_push_of_some _ hL₁) rfl
  have hL₂ : (h₁.push (iterObj first 0 a es.size ep)).get? s.heap.objs.size = some (seqObj "list" #[] 0) := Heap.get?_push_of_some _ hL₁
  refine wpAny_ite_true (by rfl) ?_
  refine wpAny_bind (wpAny_rule ?_)
  refine wpAny_bind ?_
  show wpAny _ _ (updateSeq s.heap.objs.size (·.push .none) >>= fun _ => updateSeq s.heap.objs.size (·.pop)) _ _ _
  refine wpAny_bind (wpAny_updateSeq hL₂ rfl ?_)
  have hS₂ := Heap.get?_update_self (Obj.mapSeq (·.push Value.none)) hL₂ rfl
  refine wpAny_updateSeq (hz := by seq_fits) hS₂ rfl ?_
  have hS₃ := Heap.get?_update_self (Obj.mapSeq (·.pop)) hS₂ rfl
  have oth : ∀ b o, b ≠ s.heap.objs.size → (h₁.push (iterObj first 0 a es.size ep)).get? b = some o → (((h₁.push (iterObj first 0 a es.size ep)).update s.heap.objs.size (Obj.mapSeq (·.push Value.none))).update s.heap.objs.size (Obj.mapSeq (·.pop))).get? b = some o :=
    fun b o hb e => (Heap.get?_update_other _ _ (Ne.symm hb)).trans ((Heap.get?_update_other _ _ (Ne.symm hb)).trans e)
  refine wpAny_pure ⟨plainId_quiet PySem.F.plain_extend_loop _, ?_⟩
  refine codeAny_extend_loopS W.walks.toS (by rw [hyl]; exact fits_of_scanBound hb) s.heap.objs.size hfpL (.ref s.heap.objs.size) ys.length 0 _ _ _ rfl (Nat.zero_le _) ?_ hS₃ (ItemsOf.nil _) fun s' acc' c' hm hS' hacc => ?_
  · exact W.walks.frame _ _ _ W.start fun b hb o e => oth b o (fun q => hfpL (q ▸ hb)) e
  · show wpAny _ A (load s.heap.objs.size >>= _) _ _ s'
    refine wpAny_bind (wpAny_load hS' ?_)
    have hvs : acc'.toList = ys := by
      refine List.ext_getElem? fun i => ?_
      rw [Array.getElem?_toList]
      cases q : acc'[i]? with
      | some v => exact (hacc.2 i v q).symm
      | none =>
        have : ys.length ≤ i := by rw [← hacc.1]; exact Array.getElem?_eq_none_iff.mp q
        rw [List.getElem?_eq_none this]
    have hms : IntsAre ys (ys.map valI) := by
      have : ∀ l : List Value, (∀ v ∈ l, ∃ k t, v = .int k t) → IntsAre l (l.map valI) := by
        intro l
        induction l with
        | nil => intro _; exact .nil
        | cons v l ih =>
          intro hl
          obtain ⟨k, t, rfl⟩ := hl v List.mem_cons_self
          exact .cons k t (ih fun v hv => hl v (List.mem_cons_of_mem _ hv))
      refine this ys fun v hv => ?_
      obtain ⟨e, he, rfl⟩ := List.mem_map.mp (hperm.mem_iff.mp hv)
      obtain ⟨⟨k, hk, _⟩, _⟩ := hel e he
      obtain ⟨t, et⟩ := isInt_val hk
      exact ⟨k, t, et⟩
    have hpv : List.Perm (ys.map valI) (vals es) := by
      have := hperm.map valI
      rwa [List.map_map] at this
    rw [moved_eq hm]
    dsimp only
    refine wpAny_pure ?_
    rw [hvs]
    refine h ys (ys.map valI) s'.heap s'.toks d₁ hms (hpv.nodup_iff.mpr hnd) (fun n hn => hsub n (hpv.mem_iff.mp hn)) (by omega) fun b o e => ?_
    have hbl := Heap.lt_size e
    have hb1 : b ≠ s.heap.objs.size := Nat.ne_of_lt hbl
    refine hm.heap b o (fun q => ?_) (oth b o hb1 (Heap.get?_push_of_some _ (g₁ _ _ (Heap.get?_push_of_some _ e))))
    rcases List.mem_cons.mp q with q | q
    · exact hb1 q
    · rw [List.mem_singleton.mp q] at hbl
      exact Nat.lt_irrefl _ (Nat.lt_trans hbl hLlt)
end Mine
end Set9x
section Set10x
open PySem PySem.W PyProof.Rows PySem.Calls
namespace Mine
variable {prog : Program} {w : World} {A : Around} {E : Value → Shared → Prop}
theorem call_sorted_set {s : Shared} {a : Addr} {ns : List Int} {Q : Value → Shared → Prop} (hh : A.handled = none) (S : SetX prog w s.heap a (!byText w) ns) (hz : ns.length < 64)
    (h : ∀ L out ms h' tk d', h'.IsList L out → IntsAre out.toList ms → ms.Nodup → (∀ n ∈ ms, n ∈ ns) → ms.length ≤ ns.length → Gr s.heap h' → Q (.ref L) { s with heap := h', toks := tk, drawn := d' }) : wpAny (model prog w) A (call (.builtin "sorted") [.ref a]) Q E s := by
  refine Calls.call_function_entry kind_sorted plain_sorted entry_sorted (args_sorted1 _) ?_
  unfold Builtin.«sorted»
  refine wpAny_bind (m := checkCount "sorted" 1 1 _) (wpAny_pure ?_)
  refine wpAny_bind (collect_set (by simpa using hh) S fun vs ms h' tk d' hI hnd hsub hle g => ?_)
  refine wpAny_bind (wpAny_newList (hsz := by rw [sizeLine_eq]; omega) ?_)
  have hoL : (h'.push (seqObj "list" vs.toArray 0)).get? h'.objs.size = some (seqObj "list" vs.toArray 0) := Heap.get?_push_size _ rfl
  refine wpAny_bind (wpAny_holding (wpAny_call_entry slot_list_sort ⟨_, hoL, rfl⟩ entry_list_sort (list_sort_tree hoL hI (by omega) fun out ns' a1 a2 a3 => ⟨_, rfl, ?_⟩) (args_list_sort _)))
  obtain ⟨e, he⟩ := sortedHeap_at (out := out) hoL
  refine wpAny_pure ⟨_, rfl, h h'.objs.size out ns' _ tk d' ⟨_, he, rfl, e, rfl⟩ a1 (a2.nodup_iff.mpr hnd) (fun n hn => hsub n (a2.mem_iff.mp hn)) (by rw [a2.length_eq, ← hI.length]; exact hle) fun b o hb => ?_⟩
  have hb' := g b o hb
  have hlt := Heap.lt_size hb'
  refine (sortedHeap_old (Nat.ne_of_lt hlt) (by rw [Heap.size_push]; exact Nat.lt_succ_of_lt hlt)).trans (Heap.get?_push_of_some _ hb')

/-! ## triples behind which another order may be drawn -/
variable {α β : Type} {h : Heap} {K : Frag} {env : Env} {μ : Names} {h₀ : Heap}
def TD (prog : Program) (w : World) (A : Around) (t : Sem α) (h : Heap) (Φ : α → Heap → Prop) : Prop :=
  ∀ (s : Shared) (Q : α → Shared → Prop) (E : Value → Shared → Prop), s.heap = h → (∀ a h' tk' d', Φ a h' → Q a { s with heap := h', toks := tk', drawn := d' }) → wpAny (model prog w) A t Q E s
theorem T.d {t : Sem α} {Φ : α → Heap → Prop} (x : T prog w A t h Φ) : TD prog w A t h Φ := fun s Q E e k => x s Q E e fun a h' tk' p => k a h' tk' s.drawn p
theorem Zd.cons {st : Stmt} {rest : List Stmt} {P : Heap → Prop} {Φ : Flow → Heap → Prop} (x : TD prog w A (exec st env) h (go P)) (y : ∀ h', P h' → TD prog w A (execs rest env) h' Φ) : TD prog w A (execs (st :: rest) env) h Φ := by
  intro s Q E e k
  refine wpAny_execs_cons (x s _ E e fun f h' tk' d' p => ?_)
  obtain ⟨rfl, p₂⟩ := p
  exact y h' p₂ { s with heap := h', toks := tk', drawn := d' } Q E rfl fun f h'' tk'' d'' q => k f h'' tk'' d'' q
theorem Zd.consX {st : Stmt} {rest : List Stmt} {P : Heap → Prop} {Φ : Flow → Heap → Prop} (x : X prog w A env h st (go P)) (y : ∀ h', P h' → TD prog w A (execs rest env) h' Φ) : TD prog w A (execs (st :: rest) env) h Φ :=
  Zd.cons (T.d (T.mono x fun _ _ p => p.2)) y
theorem Zd.consT {st : Stmt} {rest : List Stmt} {P : Heap → Prop} {Φ : Flow → Heap → Prop} (x : T prog w A (exec st env) h (go P)) (y : ∀ h', P h' → TD prog w A (execs rest env) h' Φ) : TD prog w A (execs (st :: rest) env) h Φ :=
  Zd.cons (T.d x) y
def EvD (prog : Program) (w : World) (A : Around) (env : Env) (h : Heap) (e : Expr) (d : D) : Prop :=
  ∀ h', Gr h h' → TD prog w A (eval e env) h' fun v h'' => Gr h' h'' ∧ d.at' env.frame v h''
theorem X.assignD {x : Str} {p pos : Pos} {e : Expr} {d : D} (F : Fm K h₀ env μ h) (y : EvD prog w A env h e d) (hx : env.kindOf x = some .local ∨ (env.kindOf x = some .cell ∧ (env.cells.lookup x).isSome = true))
    (hs : swapsWith e (some (.Name x p)) pos.line env = pure false := by rfl) : TD prog w A (exec (.Assign [.Name x p] e pos) env) h (go (Fm K h₀ env ((x, d) :: μ))) := by
  intro s Q E q k
  subst q
  refine wpAny_Assign_Name (y _ (Gr.refl _) s _ E rfl fun v h₁ t₁ d₁ p₁ => Fm.store (F.mono p₁.1) hx p₁.2 _ _ E rfl fun _ h₂ t₂ p₂ => ?_) hs
  exact k .next h₂ t₂ d₁ ⟨rfl, p₂.2⟩

/-- some list of whole numbers, of which this holds -/
def D.some (P : List Nat → Prop) : D where
  at' f v h := ∃ od, P od ∧ (D.nats od).at' f v h
  mono := fun ⟨od, p, q⟩ g => ⟨od, p, (D.nats od).mono q g⟩
  stay := fun ⟨od, p, q⟩ n b => ⟨od, p, (D.nats od).stay q n b⟩
  enter := fun ⟨od, p, q⟩ g => ⟨od, p, (D.nats od).enter q g⟩
theorem nat_list : ∀ {ms : List Int} {ws : List Nat}, (∀ n ∈ ms, n ∈ ws.map fun n : Nat => (n : Int)) → ms = (ms.map Int.toNat).map fun n : Nat => (n : Int)
  | [], ws, _ => rfl
  | m :: ms, ws, h => by
    obtain ⟨k, _, e⟩ := List.mem_map.mp (h m List.mem_cons_self)
    rw [List.map_cons, List.map_cons, ← nat_list (ws := ws) fun n hn => h n (List.mem_cons_of_mem _ hn)]
    congr 1
    omega
/-- sorted(set(..)) of a few whole numbers -/
theorem EvD.sortedSet {e : Expr} {p q pos pos' : Pos} {ws : List Nat} (hh : A.handled = none) (c : Cx K env μ h) (b : KB K) (y : Ev prog w A env h e (D.nats ws)) (hz : ws.length ≤ 5) (hk : env.kindOf "sorted" = some .globalImplicit := by rfl) (hk' : env.kindOf "set" = some .globalImplicit := by rfl)
    (he : eval (.Call (.Name "sorted" p) [.Call (.Name "set" q) [e] [] pos'] [] pos) env = (do callWith pos (← eval (.Name "sorted" p) env) [] (backTo pos (starEach [.Call (.Name "set" q) [e] [] pos'] env)) (backToKw pos (keywordEach [] env))) := by rfl)
    (he' : eval (.Call (.Name "set" q) [e] [] pos') env = (do callWith pos' (← eval (.Name "set" q) env) [] (backTo pos' (starEach [e] env)) (backToKw pos' (keywordEach [] env))) := by rfl)
    (hs : starEach [e] env = (false, eval e env) :: starEach [] env := by rfl) (hs' : starEach [.Call (.Name "set" q) [e] [] pos'] env = (false, eval (.Call (.Name "set" q) [e] [] pos') env) :: starEach [] env := by rfl) :
    EvD prog w A env h (.Call (.Name "sorted" p) [.Call (.Name "set" q) [e] [] pos'] [] pos) (D.some fun od => od.Nodup ∧ (∀ x ∈ od, x ∈ ws) ∧ od.length ≤ 5) := by
  intro h' g s Q E eq k
  subst eq
  refine Call_ (Ev.bSorted c b hk _ g s _ E rfl fun v h₁ t₁ p₁ => ?_) he
  obtain ⟨g₁, p₁⟩ := p₁
  have p₁ : v = .builtin "sorted" := p₁
  subst p₁
  refine callWith_builtin1 ?_ hs' rfl
  refine args_cons (Call_ (Ev.bSet c b hk' _ (g.trans g₁) _ _ E rfl fun v h₂ t₂ p₂ => ?_) he') hs'
  obtain ⟨g₂, p₂⟩ := p₂
  have p₂ : v = .type "set" := p₂
  subst p₂
  refine callWith_type1 ?_ hs rfl
  refine args_cons (y _ (g.trans (g₁.trans g₂)) _ _ E rfl fun v h₃ t₃ p₃ => args_nil ?_) hs
  obtain ⟨g₃, p₃⟩ := p₃
  rw [nats_ints] at p₃
  obtain ⟨l, us, rfl, hl, hr⟩ := p₃
  have hI := toItems hr
  refine call_setX (s := { s with heap := h₃, toks := t₃ }) hh hl hI (by rw [List.length_map]; unfold scanBound; omega) fun h₄ t₄ hS k₄ => ?_
  have g₄ : Gr h₃ h₄ := fun b o e => k₄ b o (Heap.lt_size e) e
  refine args_nil ?_
  refine call_sorted_set (s := { s with heap := h₄, toks := t₄ }) hh hS (by rw [List.length_map]; omega) fun L out ms h₅ t₅ d₅ hL hIm hnd hsub hle g₅ => ?_
  refine k _ h₅ t₅ d₅ ⟨g₁.trans (g₂.trans (g₃.trans (g₄.trans g₅))), ms.map Int.toNat, ⟨?_, fun x hx => ?_, ?_⟩, ?_⟩
  · have e := nat_list hsub
    rw [e] at hnd
    exact (List.pairwise_map.mp hnd).imp fun {a b} q e => q (by rw [e])
  · obtain ⟨m, hm, rfl⟩ := List.mem_map.mp hx
    obtain ⟨k, hk, e⟩ := List.mem_map.mp (hsub m hm)
    have : m.toNat = k := by omega
    rw [this]; exact hk
  · have := hle
    rw [List.length_map] at this ⊢
    omega
  · have e := nat_list hsub
    rw [nats_ints, ← e]
    exact ⟨L, out.toList, rfl, hL, ofItems hIm⟩
end Mine
end Set10x
section Core14x
open PySem PySem.W PyProof.Rows PySem.Calls
namespace Mine
variable {prog : Program} {w : World} {A : Around} {K : Frag} {env : Env} {μ : Names} {h h₀ : Heap}

/-- what a def does, where another order may be drawn -/
theorem call_coreD {fd : FuncData} {body : List Stmt} {f : Addr} {o : Obj} {ns : List Str} {vs : List Value} {ds : List D} {args : Args} {Φ : Value → Heap → Prop} {fr : Option Addr}
    (hroom : A.depth < recursionLimit) (gd : Gd K h) (ho : K.lookup f = some o) (hdata : o.data = .func fd) (hcd : codeIn K fd.code fd.qualname = true) (hbody : fd.body = .stmts body)
    (hbind : ∀ s : Shared, s.heap = h → BindsTo s fd args (ns.zip vs)) (hclo : fd.closure = []) (hg : fd.globals = mainGlobals) (hb : fd.builtins = builtinsNs)
    (hlen : ns.length = vs.length) (hnd : ns.Nodup) (hv : All2 (fun v d => d.at' fr v h) vs ds)
    (hkind : (ns.all fun x => fd.scope.names.lookup x == some .local || fd.scope.names.lookup x == some .cell) = true)
    (hbd : ∀ h₁, Gr h h₁ → Fm K h (fenv fd h f) (ns.zip ds) h₁ → TD prog w (A.deeper (fenv fd h f)) (execs body (fenv fd h f)) h₁ fun fl h' => Φ (match fl with | .ret v => v | _ => .none) h')
    (hco : fd.scope.isCoroutine = false := by rfl) (hgen : fd.scope.isGenerator = false := by rfl) (hk : fd.scope.kind = .function := by rfl) :
    ∀ (s : Shared) (R : Result → Shared → Prop), s.heap = h → (∀ v h' tk' d', Φ v h' → R (.ok (.ret v)) { s with heap := h', toks := tk', drawn := d' }) → codeAny (model prog w) A (.call (.ref f) args) R s := by
  intro s R e k
  subst e
  have hlim : s.heap.NoLimit := by obtain ⟨p, l, mg, mb, t⟩ := gd.top; exact t.nolimit
  have hmap : (ns.zip vs).map (·.1) = ns := by rw [List.map_fst_zip]; omega
  have hkind : ∀ x ∈ ns, fd.scope.names.lookup x = some .local ∨ (fd.scope.names.lookup x = some .cell ∧ ((cellsFrom (s.heap.objs.size + 1) fd.scope.names []).lookup x).isSome = true) := fun x hx => by
    have := List.all_eq_true.mp hkind x hx
    rw [Bool.or_eq_true, beq_iff_eq, beq_iff_eq] at this
    exact this.imp id fun q => ⟨q, cellsFrom_some _ _ _ (.inl q)⟩
  refine codeAny_call_function hroom (gd.X _ _ ho) hdata hco hgen hbody (codeRec_of gd.X hcd) (hbind s rfl _ _ _ _ ?_)
  rw [hclo]
  refine wpAny_newFunctionEnv_cells hk (fun x hx => hkind x.1 (List.of_mem_zip (show (x.1, x.2) ∈ ns.zip vs from hx)).1) fun env he s' x => ?_
  refine ⟨hlim.keeps x.toInCall.keep, codeAny_func ?_⟩
  have he' : env = fenv fd s.heap f := he
  subst he'
  obtain ⟨h₁, tk, rfl, _⟩ := x.done
  have g : Gr s.heap h₁ := x.toInCall.keep
  have F : Fm K s.heap (fenv fd s.heap f) (ns.zip ds) h₁ := by
    refine ⟨⟨hk, hg, hb, gd.mono g, fun y d e => ?_, ns_live rfl x.toInCall.ns⟩, gd, ⟨_, x.toInCall.ns⟩, fun y c e => ⟨_, x.cell y c e⟩, fun y z c e e' => Cl_look x.apart e e', g, Nat.le_refl _, fun y c e => x.above y c (mem_of_lookup e), rfl⟩
    obtain ⟨v, ev, dv⟩ := hv.lookup e
    have hyn : y ∈ ns := (List.of_mem_zip (mem_of_lookup ev)).1
    refine ⟨v, ?_, d.mono (d.enter dv (Nat.le_refl _)) g⟩
    rcases hkind y hyn with q | ⟨q, q'⟩
    · refine .inl ⟨q, _, x.toInCall.ns, ?_⟩
      rw [lookup_bindL _ _ _ _ q (by rw [hmap]; exact hnd), ev]; rfl
    · obtain ⟨c, hc⟩ := Option.isSome_iff_exists.mp q'
      refine .inr ⟨q, c, hc, ?_⟩
      have := x.cell y c hc
      rw [lookup_bindC _ _ _ _ q (by rw [hmap]; exact hnd), ev] at this
      exact this
  refine wpAny_mono (hbd h₁ g F { s with heap := h₁, toks := tk } (fun fl s' => R (.ok (.ret (match fl with | .ret v => v | _ => .none))) s') (fun _ _ => False) rfl fun fl h' tk' d' p => k _ h' tk' d' p) (fun _ _ q => q) fun _ _ q => q.elim

end Mine
end Core14x
section Law1x
open PySem PySem.W PyProof.Rows PySem.Calls
set_option maxHeartbeats 20000000
namespace Mine
variable {prog : Program} {w : World} {A : Around} {env : Env} {μ : Names} {h h₀ : Heap}
open Crc
theorem Ev.lawAt {e₁ e₂ : Expr} {p q pos : Pos} {ns : List Int} {k : Nat} {d : Int} (r : room 2 A) (c : Cx (KK w.params) env μ h) (hs : μ.lookup ("script" : Str) = some (D.ints ns)) (y : Ev prog w A env h e₁ (D.nat k)) (z : Ev prog w A env h e₂ (D.int d)) (hn : ns.length ≤ 63) (hk' : k < 2 ^ 60)
    (hk : env.kindOf "_law_at" = some .globalImplicit := by rfl)
    (he : eval (.Call (.Name "_law_at" p) [.Name "script" q, e₁, e₂] [] pos) env = (do callWith pos (← eval (.Name "_law_at" p) env) [] (backTo pos (starEach [.Name "script" q, e₁, e₂] env)) (backToKw pos (keywordEach [] env))) := by rfl)
    (h1 : starEach [.Name "script" q, e₁, e₂] env = (false, eval (.Name "script" q) env) :: starEach [e₁, e₂] env := by rfl) (h2 : starEach [e₁, e₂] env = (false, eval e₁ env) :: starEach [e₂] env := by rfl) (h3 : starEach [e₂] env = (false, eval e₂ env) :: starEach [] env := by rfl)
    (hplain : (backTo pos (starEach [e₁, e₂] env)).any (·.1) = false := by rfl) : Ev prog w A env h (.Call (.Name "_law_at" p) [.Name "script" q, e₁, e₂] [] pos) (D.int (ns.getD k d)) :=
  Ev.callk c (Ev.glob c hk (gAt _)) (by kernel_rfl) (Evs.cons (Ev.name c hs) (Evs.cons y (Evs.cons z Evs.nil h3) h2) h1) (fun vs h' g hv => by
    have := (ct_at (prog := prog) r ((c.mono g).gd) hv (by omega) hn (by omega)).call
    rw [Int.toNat_natCast] at this
    exact this) he h1 hplain
/-- n % 2 ^ k of any whole number -/
def md (n : Int) (b : Nat) : Nat := (n % (b : Int)).toNat
theorem md_lt {n : Int} {b : Nat} (hb : 0 < b) : md n b < b := by
  unfold md
  have h1 := Int.emod_nonneg n (show (b : Int) ≠ 0 by omega)
  have h2 := Int.emod_lt_of_pos n (show (0 : Int) < b by omega)
  omega
theorem room.m {n m : Nat} (r : room n A) (l : m ≤ n := by decide) : room m A := r.le l
/-- what the script says -/
structure Sc (ns : List Int) where
  wd : Nat
  sz : Nat
theorem ct_law (r : room 30 A) (gd : Gd (KK w.params) h) {fr : Option Addr} {vs : List Value} {ns : List Int}
    (hv : All2 (fun v d => d.at' fr v h) vs [D.ints ns]) (hn : ns.length ≤ 63) :
    ∀ (s : Shared) (R : Result → Shared → Prop), s.heap = h → (∀ v h' tk' d', (Gr h h' ∧ v = .bool true) → R (.ok (.ret v)) { s with heap := h', toks := tk', drawn := d' }) → codeAny (model prog w) A (.call (.ref 178) ⟨vs, []⟩) R s := by
  obtain ⟨a, rfl, h1⟩ := hv.one
  have rd := r.deeper
  have rd2 : ∀ e, room 2 (A.deeper e) := fun e => (rd e).m
  intro s R e kk
  refine call_coreD (K := KK w.params) (ns := ["script"]) (fr := fr) (Φ := fun v h' => Gr h h' ∧ v = .bool true) (by have := r.2.1; omega) gd (by rfl) (by rfl) (by kernel_rfl) (by rfl) (fun s _ => BindsTo.of_eq (by rfl)) (by rfl) (by rfl) (by rfl) rfl (by decide) hv (by rfl) (fun h₁ g F => ?_) (by rfl) (by rfl) (by rfl) s R e fun v h' tk' d' q => kk v h' tk' d' q
  have hwd : 1 ≤ 1 + md (ns.getD 0 7) 8 ∧ 1 + md (ns.getD 0 7) 8 ≤ 8 := by have := md_lt (n := ns.getD 0 7) (b := 8) (by decide); omega
  have hsz : 1 ≤ 1 + md (ns.getD 2 7) 8 ∧ 1 + md (ns.getD 2 7) 8 ≤ 8 := by have := md_lt (n := ns.getD 2 7) (b := 8) (by decide); omega
  refine Zd.consX (X.assign2 (d := D.nat (1 + md (ns.getD 0 7) 8)) (d' := D.nat (1 + md (ns.getD 2 7) 8)) r.1 F
    (Ev.tup (Evs.cons (Ev.addN Ev.litN (Ev.modI (Ev.lawAt (rd2 _) F.cx (by rfl) Ev.litN Ev.lit hn (by decide)) (Ev.litN (n := 8)) (by decide))) (Evs.cons (Ev.addN Ev.litN (Ev.modI (Ev.lawAt (rd2 _) F.cx (by rfl) Ev.litN Ev.lit hn (by decide)) (Ev.litN (n := 8)) (by decide))) Evs.nil)) (by decide) rfl)
    (.inr ⟨by rfl, by rfl⟩) (.inr ⟨by rfl, by rfl⟩)) fun h₂ F => ?_
  generalize 1 + md (ns.getD 0 7) 8 = wd at F hwd
  generalize 1 + md (ns.getD 2 7) 8 = sz at F hsz
  refine Zd.consX (X.assign (d := D.nat (1 * 2 ^ wd)) F (Ev.shlN 1 Ev.litN (Ev.name F.cx (by rfl)) (by decide) (by omega)) (.inl (by rfl))) fun h₂ F => ?_
  have h2w : 0 < 1 * 2 ^ wd := by rw [Nat.one_mul]; exact Nat.two_pow_pos wd
  refine Zd.consX (X.assign (d := D.nat (md (ns.getD 1 7) (1 * 2 ^ wd) ||| 1)) F (Ev.orN (Ev.modI (Ev.lawAt (rd2 _) F.cx (by rfl) (Ev.litN (n := 1)) (Ev.lit (i := 7)) hn (by decide)) (Ev.name F.cx (by rfl)) h2w) Ev.litN) (.inr ⟨by rfl, by rfl⟩)) fun h₂ F => ?_
  have hpw : (md (ns.getD 1 7) (1 * 2 ^ wd) ||| 1) < 2 ^ wd ∧ (md (ns.getD 1 7) (1 * 2 ^ wd) ||| 1) % 2 = 1 := by
    refine ⟨Nat.or_lt_two_pow ?_ (one_lt hwd.1), ?_⟩
    · have := md_lt (n := ns.getD 1 7) h2w
      rwa [Nat.one_mul] at this ⊢
    · have e : ((md (ns.getD 1 7) (1 * 2 ^ wd) ||| 1).testBit 0) = true := by rw [Nat.testBit_or]; simp
      rw [Nat.testBit_zero] at e
      exact of_decide_eq_true e
  generalize (md (ns.getD 1 7) (1 * 2 ^ wd) ||| 1) = p at F hpw
  refine Zd.consX (X.assign2 (d := D.nat (md (ns.getD 3 1) (1 * 2 ^ wd))) (d' := D.nat (md (ns.getD 4 2) (1 * 2 ^ wd))) r.1 F
    (Ev.tup (Evs.cons (Ev.modI (Ev.lawAt (rd2 _) F.cx (by rfl) (Ev.litN (n := 3)) (Ev.lit (i := 1)) hn (by decide)) (Ev.name F.cx (by rfl)) h2w) (Evs.cons (Ev.modI (Ev.lawAt (rd2 _) F.cx (by rfl) (Ev.litN (n := 4)) (Ev.lit (i := 2)) hn (by decide)) (Ev.name F.cx (by rfl)) h2w) Evs.nil)) (by decide) rfl) (.inr ⟨by rfl, by rfl⟩) (.inl (by rfl))) fun h₂ F => ?_
  have hbg : md (ns.getD 3 1) (1 * 2 ^ wd) < 2 ^ wd := by have := md_lt (n := ns.getD 3 1) h2w; rwa [Nat.one_mul] at this ⊢
  have htu : md (ns.getD 4 2) (1 * 2 ^ wd) < 2 ^ wd := by have := md_lt (n := ns.getD 4 2) h2w; rwa [Nat.one_mul] at this ⊢
  generalize md (ns.getD 3 1) (1 * 2 ^ wd) = bg at F hbg
  generalize md (ns.getD 4 2) (1 * 2 ^ wd) = tu at F htu
  refine Zd.consX (X.assign2s (d := D.bool (md (ns.getD 5 0) 2 == 1)) (d' := D.bool (md ((ns.getD 5 0).fdiv 2) 2 == 1)) r.1 F
    (Ev.tup (Evs.cons (Ev.eqN (Ev.modI (Ev.lawAt (rd2 _) F.cx (by rfl) (Ev.litN (n := 5)) (Ev.lit (i := 0)) hn (by decide)) (Ev.litN (n := 2)) (by decide)) Ev.litN) (Evs.cons (Ev.eqN (Ev.modI (Ev.fdiv (Ev.lawAt (rd2 _) F.cx (by rfl) (Ev.litN (n := 5)) (Ev.lit (i := 0)) hn (by decide)) Ev.lit (by decide) (noPy (b := 2) (by decide))) (Ev.litN (n := 2)) (by decide)) Ev.litN) Evs.nil)) (by decide) rfl) (.inl (by rfl)) (.inl (by rfl))) fun h₂ F => ?_
  generalize (md (ns.getD 5 0) 2 == 1) = lo at F
  generalize (md ((ns.getD 5 0).fdiv 2) 2 == 1) = fl at F
  have F := F.pick ["width", "size", "polynomial", "beginning", "turning", "lowest", "flipped", "script"]
  have r6 : ∀ e, room 6 (A.deeper e) := fun e => (rd e).m
  have r8 : ∀ e, room 8 (A.deeper e) := fun e => (rd e).m
  refine Zd.consX (X.assign (d := D.inst 77 (algFs wd p bg lo fl tu)) F (Ev.newAlg (r6 _) F.cx (Evk.cons (Ev.name F.cx (by rfl)) (Evk.cons (Ev.name F.cx (by rfl)) (Evk.cons (Ev.name F.cx (by rfl)) (Evk.cons (Ev.name F.cx (by rfl)) (Evk.cons (Ev.name F.cx (by rfl)) (Evk.cons (Ev.name F.cx (by rfl)) Evk.nil)))))) hwd.1 (by omega) hpw.1 hbg htu) (.inl (by rfl))) fun h₂ F => ?_
  refine Zd.consX (X.assign (d := D.inst 145 (parFs wd p bg lo fl tu sz)) F (Ev.acall (r8 _) F.cx (Ev.name F.cx (by rfl)) (Ev.name F.cx (by rfl)) hsz.1) (.inr ⟨by rfl, by rfl⟩)) fun h₂ F => ?_
  obtain ⟨vC, hC, F⟩ := F.reval (x := "check") (by rfl)
  obtain ⟨vA, hA, F⟩ := F.reval (x := "algorithm") (by rfl)
  obtain ⟨vS, hS, F⟩ := F.reval (x := "script") (by rfl)
  have F := F.pick ["width", "size", "polynomial", "beginning", "turning", "lowest", "flipped", "script", "algorithm", "check"]
  have hpn := F.ns
  refine Zd.consT (Lf.start F (fun q hq => ?_) (.inr ⟨by rfl, by rfl⟩)) fun h₃ S => ?_
  · have hq : q ∈ [(("width" : Str), D.nat wd), ("size", D.nat sz), ("polynomial", D.nat p), ("beginning", D.nat bg), ("turning", D.nat tu), ("lowest", D.bool lo), ("flipped", D.bool fl), ("script", D.val vS), ("algorithm", D.val vA), ("check", D.val vC)] := hq
    simp only [List.mem_cons, List.not_mem_nil, or_false] at hq
    rcases hq with rfl | rfl | rfl | rfl | rfl | rfl | rfl | rfl | rfl | rfl <;> exact fun _ _ _ _ q => q
  have S := S.pick ["rows", "width", "size", "polynomial", "beginning", "turning", "lowest", "flipped", "script", "algorithm", "check"]
  generalize ha : h₂.objs.size = aR at S
  have hcn : 1 ≤ 1 + md (max ((ns.length : Int) - 6) 0) 5 ∧ 1 + md (max ((ns.length : Int) - 6) 0) 5 ≤ 5 := by have := md_lt (n := max ((ns.length : Int) - 6) 0) (b := 5) (by decide); omega
  let rowE : Nat → Nat → Nat := fun k j => md (ns.getD (6 + j) ((49 + j : Nat) : Int) + (k : Int) * ns.getD (7 + j) 5 * ((j + 3 : Nat) : Int)) (1 * 2 ^ sz)
  let rowV : Nat → List Nat := fun k => (List.range (1 + md (max ((ns.length : Int) - 6) 0) 5)).map (rowE k)
  have hrow : ∀ k, ∀ b ∈ rowV k, b < 2 ^ sz := by
    intro k b hb
    obtain ⟨j, _, rfl⟩ := List.mem_map.mp hb
    have := md_lt (n := ns.getD (6 + j) ((49 + j : Nat) : Int) + (k : Int) * ns.getD (7 + j) 5 * ((j + 3 : Nat) : Int)) (b := 1 * 2 ^ sz) (by rw [Nat.one_mul]; exact Nat.two_pow_pos sz)
    show md _ _ < _
    rwa [Nat.one_mul] at this ⊢
  have hrl : ∀ k, (rowV k).length = 1 + md (max ((ns.length : Int) - 6) 0) 5 := fun k => by show (List.map _ _).length = _; rw [List.length_map, List.length_range]
  refine Zd.consT (Lf.for (n := 3) (fun _ => [("rows", D.val (.ref aR)), ("width", D.nat wd), ("size", D.nat sz), ("polynomial", D.nat p), ("beginning", D.nat bg), ("turning", D.nat tu), ("lowest", D.bool lo), ("flipped", D.bool fl), ("script", D.val vS), ("algorithm", D.val vA), ("check", D.val vC)])
    (fun i => (List.range i).map fun k => D.listGt (aR + 1) ((rowV k).map D.nat)) r.1 S (Ev.range1 (Ev.bRange S.fm.cx (kb _)) (Ev.lit (i := 3))) (by decide) (.inr ⟨by rfl, by rfl⟩) fun k hk h₄ S => ?_) fun h₄ S => ?_
  · have F' := S.fm.desc (x := "script") (d := D.ints ns) (by rfl) (S.at hpn hS)
    have c := F'.cx
    refine T.one (T.mono (Lf.push (d := D.listGt (aR + 1) ((rowV k).map D.nat)) S (Ev.name S.fm.cx (by rfl)) (Ev.mono (d := D.listGt (aR + 1) (((List.range (1 + md (max ((ns.length : Int) - 6) 0) 5)).filter fun _ => true).map fun j => D.nat (rowE k j))) (Ev.compGt
      (μs := fun j => [("j", D.nat j)]) (p := fun _ => true) (dd := fun _ j => D.nat (rowE k j)) c
      (Src.upto r.1 (Ev.range1 (Ev.bRange c (kb _)) (Ev.addN Ev.litN (Ev.modI (Ev.max r.1 (Ev.bMax c (kb _)) (Ev.sub (Ev.to (Ev.len (Ev.bLen c (kb _)) (Ev.name c (by rfl)) (by rw [List.length_map]; omega)) (by rw [List.length_map])) Ev.lit) Ev.lit) (Ev.litN (n := 5)) (by decide)))) (by omega)) ["script", "k", "size"] (fun h' g => S.lo g)
      (fun j hj C h₁ g c => rfl) (fun j hj _ C h₁ g hC c => ?_) (fun _ _ _ => Far.int) (fun _ _ _ _ _ q => q) (by omega)) ?_) Far.nats ?_) ?_) ?_
    · refine Ev.modI (Ev.add (Ev.lawAt (rd2 _) c (by rfl) (Ev.addN (Ev.litN (n := 6)) (Ev.name c (by rfl))) (Ev.addN (Ev.litN (n := 49)) (Ev.name c (by rfl))) hn (by omega)) (Ev.mul (Ev.mul (a := (k : Int)) (Ev.name c (by rfl)) (Ev.lawAt (rd2 _) c (by rfl) (Ev.addN (Ev.litN (n := 7)) (Ev.name c (by rfl))) (Ev.lit (i := 5)) hn (by omega)) ?_) (Ev.addN (Ev.name c (by rfl)) (Ev.litN (n := 3))) ?_)) (Ev.shlN 1 Ev.litN (Ev.name c (by rfl)) (by decide) (by omega)) ?_
      · exact IntMulOk.of_left (intBits_le_64 (by omega) (by omega))
      · exact IntMulOk.of_right (intBits_le_64 (by omega) (by omega))
      · rw [Nat.one_mul]; exact Nat.two_pow_pos sz
    · intro v h' q
      rw [filt] at q
      show (D.listGt (aR + 1) (List.map D.nat (List.map (rowE k) (List.range _)))).at' _ _ _
      rw [List.map_map]
      exact q
    · show (List.map _ (List.range k)).length ≤ 1000
      rw [List.length_map, List.length_range]; omega
    · rintro f h' ⟨rfl, b, S'⟩
      refine ⟨rfl, b, ?_⟩
      have S' := S'.pick ["rows", "width", "size", "polynomial", "beginning", "turning", "lowest", "flipped", "script", "algorithm", "check"]
      show Lf _ _ _ _ _ _ (List.map (fun k => D.listGt (aR + 1) ((rowV k).map D.nat)) (List.range (k + 1))) _
      rw [List.range_succ, List.map_append]
      exact S'
    · rintro f h' ⟨rfl, _⟩
      rfl
  have F := S.fm.desc (x := "script") (d := D.ints ns) (by rfl) (S.at hpn hS)
  have F := F.desc (x := "algorithm") (d := D.inst 77 (algFs wd p bg lo fl tu)) (by rfl) (S.at hpn hA)
  have F := F.desc (x := "check") (d := D.inst 145 (parFs wd p bg lo fl tu sz)) (by rfl) (S.at hpn hC)
  have F := F.desc (x := "rows") (d := D.list [D.nats (rowV 0), D.nats (rowV 1), D.nats (rowV 2)]) (by rfl) (Lf.rows3 (lo := aR + 1) (r0 := rowV 0) (r1 := rowV 1) (r2 := rowV 2) S)
  have F := F.pick ["rows", "width", "size", "polynomial", "beginning", "turning", "lowest", "flipped", "script", "algorithm", "check"]
  have hr0 := hrow 0
  have hr1 := hrow 1
  have hr2 := hrow 2
  have hl0 := hrl 0
  have hl1 := hrl 1
  have hl2 := hrl 2
  clear hrow hrl
  generalize rowV 0 = r0 at F hr0 hl0
  generalize rowV 1 = r1 at F hr1 hl1
  generalize rowV 2 = r2 at F hr2 hl2
  generalize 1 + md (max ((ns.length : Int) - 6) 0) 5 = cn at hcn hl0 hl1 hl2
  clear S hS hA hC
  have pok : ParOk wd p bg tu sz := ⟨hwd.1, by omega, hpw.1, hbg, hsz.1, by omega⟩
  let ck : List Nat → Nat := check wd p bg lo fl tu sz
  refine Zd.consX (X.assignComp (n := 3) (μs := fun i => [("row", D.nats ([r0, r1, r2].getD i []))]) (p := fun _ => true) (dd := fun _ i => D.nat (ck ([r0, r1, r2].getD i []))) (dd' := fun i => D.nat (ck ([r0, r1, r2].getD i []))) F (Src.rows (rs := [r0, r1, r2]) r.1 (Ev.name F.cx (by rfl))) ["check"]
    (fun k hk C h₁ g c => rfl) (fun k hk _ C h₁ g hC c => Ev.compute (r6 _) c (Ev.name c (by rfl)) (Ev.name c (by rfl)) pok (all3 hr0 hr1 hr2 k hk)) (fun _ _ _ => Far.int) (fun _ _ _ _ _ q => q) (by decide) (by rfl)) fun h₅ F => ?_
  have F := F.pick ["told", "rows", "width", "size", "polynomial", "beginning", "turning", "lowest", "flipped", "script", "algorithm", "check"]
  have F : Fm _ _ _ [("told", D.nats [ck r0, ck r1, ck r2]), ("rows", D.list [D.nats r0, D.nats r1, D.nats r2]), ("width", D.nat wd), ("size", D.nat sz), ("polynomial", D.nat p), ("beginning", D.nat bg), ("turning", D.nat tu), ("lowest", D.bool lo), ("flipped", D.bool fl), ("script", D.ints ns), ("algorithm", D.inst 77 (algFs wd p bg lo fl tu)), ("check", D.inst 145 (parFs wd p bg lo fl tu sz))] _ := F
  refine Zd.consX (X.skip F (Ts.neN (b := ck r0 ^^^ ck r1 ^^^ ck r2) (Ev.compute (r6 _) F.cx (Ev.name F.cx (by rfl)) (Ev.mapComp (f := fun j => r0.getD j 0 ^^^ r1.getD j 0 ^^^ r2.getD j 0) (μs := fun j => [("j", D.nat j)]) F.cx (Src.upto r.1 (Ev.range1 (Ev.bRange F.cx (kb _)) (Ev.to (Ev.lenN (Ev.bLen F.cx (kb _)) (Ev.item (ds := [D.nats r0, D.nats r1, D.nats r2]) (k := 0) (Ev.name F.cx (by rfl)) Ev.lit (by decide) (by decide) (by rfl)) (by omega)) (by rw [hl0]))) (by omega)) ["rows"]
    (fun j hj C h₁ g c => Ev.xorN (Ev.xorN (Ev.itemN (Ev.item (ds := [D.nats r0, D.nats r1, D.nats r2]) (k := 0) (Ev.name c (by rfl)) Ev.lit (by decide) (by decide) (by rfl)) (Ev.name c (by rfl)) (by omega) (by omega)) (Ev.itemN (Ev.item (ds := [D.nats r0, D.nats r1, D.nats r2]) (k := 1) (Ev.name c (by rfl)) Ev.lit (by decide) (by decide) (by rfl)) (Ev.name c (by rfl)) (by omega) (by omega))) (Ev.itemN (Ev.item (ds := [D.nats r0, D.nats r1, D.nats r2]) (k := 2) (Ev.name c (by rfl)) Ev.lit (by decide) (by decide) (by rfl)) (Ev.name c (by rfl)) (by omega) (by omega))) (by omega)) pok (xor3_lt hr0 hr1 hr2))
    (Ev.xorN (Ev.xorN (Ev.itemN (ws := [ck r0, ck r1, ck r2]) (k := 0) (Ev.name F.cx (by rfl)) Ev.litN (by simp) (by simp)) (Ev.itemN (ws := [ck r0, ck r1, ck r2]) (k := 1) (Ev.name F.cx (by rfl)) Ev.litN (by simp) (by simp))) (Ev.itemN (ws := [ck r0, ck r1, ck r2]) (k := 2) (Ev.name F.cx (by rfl)) Ev.litN (by simp) (by simp)))) (ne_of (xor3_check hl0 hl1 hl2))) fun h₅ F => ?_
  have r4 : ∀ e, room 4 (A.deeper e) := fun e => (rd e).m
  refine Zd.consX (X.assign (d := D.nats (nb (bitsOf sz lo r0))) F (Ev.lawBits (r4 _) F.cx (Ev.item (ds := [D.nats r0, D.nats r1, D.nats r2]) (k := 0) (Ev.name F.cx (by rfl)) Ev.lit (by decide) (by decide) (by rfl)) (Ev.name F.cx (by rfl)) (Ev.name F.cx (by rfl)) (by omega) (by omega)) (.inl (by rfl))) fun h₅ F => ?_
  have hB : (bitsOf sz lo r0).length = cn * sz := by rw [bitsOf_length, hl0]
  have hcut : ∀ m o, cn * sz = m * o → check wd p bg lo fl tu o (bwords m o lo (bitsOf sz lo r0)) = ck r0 := fun m o e => check_cut (hB.trans e)
  have hleft : (if fl then reflN wd (ck r0 ^^^ tu) else ck r0 ^^^ tu) = run wd p bg (bitsOf sz lo r0) := check_left hpw.1 hbg
  have hcat : ck (r0 ++ r1) = check wd p (run wd p bg (bitsOf sz lo r0)) lo fl tu sz r1 := check_cat
  have herr : ∀ e : Nat → Bool, check wd p bg lo fl tu sz (bwords cn sz lo (List.zipWith xor (bitsOf sz lo r0) (errs (bitsOf sz lo r0).length e))) = ck r0 ↔ run wd p 0 (errs (bitsOf sz lo r0).length e) = 0 := fun e => check_err hpw.1 hbg (errs_length _ _) hB
  generalize bitsOf sz lo r0 = B at F hB hcut hleft hcat herr
  have hL1 : 1 ≤ cn * sz := Nat.mul_pos (by omega) (by omega)
  have hL40 : cn * sz ≤ 40 := Nat.le_trans (Nat.mul_le_mul hcn.2 hsz.2) (by decide)
  have hnB : (nb B).length = cn * sz := by unfold nb; rw [List.length_map, hB]
  have F := F.pick ["bits", "told", "rows", "width", "size", "polynomial", "beginning", "turning", "lowest", "flipped", "script", "algorithm", "check"]
  let mB : Names := [("bits", D.nats (nb B)), ("told", D.nats [ck r0, ck r1, ck r2]), ("rows", D.list [D.nats r0, D.nats r1, D.nats r2]), ("width", D.nat wd), ("size", D.nat sz), ("polynomial", D.nat p), ("beginning", D.nat bg), ("turning", D.nat tu), ("lowest", D.bool lo), ("flipped", D.bool fl), ("script", D.ints ns), ("algorithm", D.inst 77 (algFs wd p bg lo fl tu)), ("check", D.inst 145 (parFs wd p bg lo fl tu sz))]
  refine Zd.consX (X.for (n := 2) (ds := fun i => D.nat ([1, cn * sz].getD i 0)) (fun _ => mB) F (FSrc.tupN (ws := [1, cn * sz]) r.1 (Ev.tup (Evs.cons Ev.litN (Evs.cons (Ev.to (Ev.lenN (Ev.bLen F.cx (kb _)) (Ev.name F.cx (by rfl)) (by omega)) (by rw [hnB])) Evs.nil)) (by decide) rfl)) (.inl (by rfl)) fun i hi h₆ F => ?_) fun h₆ F => ?_
  · obtain ⟨m, e1, e2, e3, e4⟩ := cuts hi hL40 rfl hL1
    refine Xs.cons (X.skip F (Ts.neN (b := ck r0) (Ev.compute (r6 _) F.cx (Ev.acall (r8 _) F.cx (Ev.name F.cx (by rfl)) (Ev.name F.cx (by rfl)) e3) (Ev.lawWords (r4 _) F.cx (Ev.name F.cx (by rfl)) (Ev.name F.cx (by rfl)) (Ev.name F.cx (by rfl)) (hB.trans e1) e3 e4 e2) ⟨hwd.1, by omega, hpw.1, hbg, e3, e4⟩ (bwords_lt (hB.trans e1))) (Ev.itemN (ws := [ck r0, ck r1, ck r2]) (k := 0) (Ev.name F.cx (by rfl)) Ev.litN (by simp) (by simp))) (ne_of (hcut m _ e1))) fun h₇ F => Xs.nil ⟨rfl, ?_⟩
    exact F.pick ["bits", "told", "rows", "width", "size", "polynomial", "beginning", "turning", "lowest", "flipped", "script", "algorithm", "check"]
  refine Zd.consX (X.assign (d := D.nat (check wd p bg lo fl tu 1 [1] ^^^ check wd p bg lo fl tu 1 [0])) F (Ev.xorN (Ev.compute (ws := [1]) (r6 _) F.cx (Ev.acall (n := 1) (r8 _) F.cx (Ev.name F.cx (by rfl)) Ev.litN (by decide)) (Ev.disp (Evs.cons (Ev.litN (n := 1)) Evs.nil) (by decide) rfl) ⟨hwd.1, by omega, hpw.1, hbg, by decide, by decide⟩ one_lt2_1) (Ev.compute (ws := [0]) (r6 _) F.cx (Ev.acall (n := 1) (r8 _) F.cx (Ev.name F.cx (by rfl)) Ev.litN (by decide)) (Ev.disp (Evs.cons (Ev.litN (n := 0)) Evs.nil) (by decide) rfl) ⟨hwd.1, by omega, hpw.1, hbg, by decide, by decide⟩ one_lt2_0)) (.inl (by rfl))) fun h₇ F => ?_
  refine Zd.consX (X.skip F (Ts.neN (b := if fl = true then reflN wd p else p) (Ev.name F.cx (by rfl)) (Ev.ite (d := D.nat (if fl = true then reflN wd p else p)) (Ts.bool (Ev.name F.cx (by rfl))) (fun hc => Ev.to (Ev.reflSum (n := wd) (x := p) (μs := fun k => [("k", D.nat k)]) r.1 F.cx (Ev.bSum F.cx (kb _)) (Src.upto r.1 (Ev.range1 (Ev.bRange F.cx (kb _)) (Ev.name F.cx (by rfl))) (by omega)) ["polynomial", "width"]
      (fun k hk C h₁ g c => Ev.shlN 1 (Ev.andN (Ev.shrN (Ev.name c (by rfl)) (Ev.name c (by rfl))) Ev.litN) (Ev.subN (Ev.subN (Ev.name c (by rfl)) Ev.litN (by omega)) (Ev.name c (by rfl)) (by omega)) (bit_lt2 _ _) (by omega)) (by omega)) (by rw [if_pos hc])) fun hc => Ev.to (Ev.name F.cx (by rfl)) (by rw [if_neg (by rw [hc]; decide)]))) (ne_of check_bare)) fun h₈ F => ?_
  have F := F.pick ["bits", "told", "rows", "width", "size", "polynomial", "beginning", "turning", "lowest", "flipped", "script", "algorithm", "check"]
  refine Zd.consX (X.assign (d := D.nat (ck r0 ^^^ tu)) F (Ev.xorN (Ev.itemN (ws := [ck r0, ck r1, ck r2]) (k := 0) (Ev.name F.cx (by rfl)) Ev.litN (by simp) (by simp)) (Ev.name F.cx (by rfl))) (.inr ⟨by rfl, by rfl⟩)) fun h₉ F => ?_
  refine Zd.consX (X.assign (d := D.nat (if fl = true then reflN wd (ck r0 ^^^ tu) else ck r0 ^^^ tu)) F (Ev.ite (d := D.nat (if fl = true then reflN wd (ck r0 ^^^ tu) else ck r0 ^^^ tu)) (Ts.bool (Ev.name F.cx (by rfl))) (fun hc => Ev.to (Ev.reflSum (n := wd) (x := ck r0 ^^^ tu) (μs := fun k => [("k", D.nat k)]) r.1 F.cx (Ev.bSum F.cx (kb _)) (Src.upto r.1 (Ev.range1 (Ev.bRange F.cx (kb _)) (Ev.name F.cx (by rfl))) (by omega)) ["left", "width"]
      (fun k hk C h₁ g c => Ev.shlN 1 (Ev.andN (Ev.shrN (Ev.name c (by rfl)) (Ev.name c (by rfl))) Ev.litN) (Ev.subN (Ev.subN (Ev.name c (by rfl)) Ev.litN (by omega)) (Ev.name c (by rfl)) (by omega)) (bit_lt2 _ _) (by omega)) (by omega)) (by rw [if_pos hc])) fun hc => Ev.to (Ev.name F.cx (by rfl)) (by rw [if_neg (by rw [hc]; decide)])) (.inr ⟨by rfl, by rfl⟩)) fun h₉ F => ?_
  rw [hleft] at F
  have hS0 : run wd p bg B < 2 ^ wd := run_lt hpw.1 _ hbg
  generalize run wd p bg B = S0 at F hcat hS0
  refine Zd.consX (X.assign (d := D.inst 77 (algFs wd p S0 lo fl tu)) F (Ev.newAlg (r6 _) F.cx (Evk.cons (Ev.name F.cx (by rfl)) (Evk.cons (Ev.name F.cx (by rfl)) (Evk.cons (Ev.name F.cx (by rfl)) (Evk.cons (Ev.name F.cx (by rfl)) (Evk.cons (Ev.name F.cx (by rfl)) (Evk.cons (Ev.name F.cx (by rfl)) Evk.nil)))))) hwd.1 (by omega) hpw.1 hS0 htu) (.inl (by rfl))) fun h₉ F => ?_
  refine Zd.consX (X.skip F (Ts.neN (b := check wd p S0 lo fl tu sz r1) (Ev.compute (r6 _) F.cx (Ev.name F.cx (by rfl)) (Ev.catN (Ev.item (ds := [D.nats r0, D.nats r1, D.nats r2]) (k := 0) (Ev.name F.cx (by rfl)) Ev.lit (by decide) (by decide) (by rfl)) (Ev.item (ds := [D.nats r0, D.nats r1, D.nats r2]) (k := 1) (Ev.name F.cx (by rfl)) Ev.lit (by decide) (by decide) (by rfl)) (by omega)) pok (mem_app hr0 hr1)) (Ev.compute (r6 _) F.cx (Ev.acall (r8 _) F.cx (Ev.name F.cx (by rfl)) (Ev.name F.cx (by rfl)) hsz.1) (Ev.item (ds := [D.nats r0, D.nats r1, D.nats r2]) (k := 1) (Ev.name F.cx (by rfl)) Ev.lit (by decide) (by decide) (by rfl)) ⟨hwd.1, by omega, hpw.1, hS0, hsz.1, by omega⟩ hr1)) (ne_of hcat)) fun h₉ F => ?_
  have F := F.pick ["bits", "told", "rows", "width", "size", "polynomial", "beginning", "turning", "lowest", "flipped", "script", "algorithm", "check"]
  have r12 : ∀ e, room 12 (A.deeper e) := fun e => (rd e).m
  refine Zd.consX (X.expr F (Ev.methZ F.cx (Ev.name F.cx (by rfl)) (mResidue _) rfl fun v h' g hv => (ct_residue (r12 _) ((F.mono g).gd) hv pok htu).call)) fun h₉ F => ?_
  refine Zd.consX (X.skip F (Ts.neN (b := ck r0) (Ev.compute (r6 _) F.cx (Ev.name F.cx (by rfl)) (Ev.item (ds := [D.nats r0, D.nats r1, D.nats r2]) (k := 0) (Ev.name F.cx (by rfl)) Ev.lit (by decide) (by decide) (by rfl)) pok hr0) (Ev.itemN (ws := [ck r0, ck r1, ck r2]) (k := 0) (Ev.name F.cx (by rfl)) Ev.litN (by simp) (by simp))) (ne_of rfl)) fun h₉ F => ?_
  refine Zd.consX (X.skip F (Ts.neN (b := (if fl = true then reflN wd bg else bg) ^^^ tu) (Ev.compute (ws := []) (r6 _) F.cx (Ev.name F.cx (by rfl)) (Ev.disp Evs.nil (by decide) rfl) pok (fun a ha => by cases ha)) (Ev.xorN (Ev.ite (d := D.nat (if fl = true then reflN wd bg else bg)) (Ts.bool (Ev.name F.cx (by rfl))) (fun hc => Ev.to (Ev.reflSum (n := wd) (x := bg) (μs := fun k => [("k", D.nat k)]) r.1 F.cx (Ev.bSum F.cx (kb _)) (Src.upto r.1 (Ev.range1 (Ev.bRange F.cx (kb _)) (Ev.name F.cx (by rfl))) (by omega)) ["beginning", "width"]
      (fun k hk C h₁ g c => Ev.shlN 1 (Ev.andN (Ev.shrN (Ev.name c (by rfl)) (Ev.name c (by rfl))) Ev.litN) (Ev.subN (Ev.subN (Ev.name c (by rfl)) Ev.litN (by omega)) (Ev.name c (by rfl)) (by omega)) (bit_lt2 _ _) (by omega)) (by omega)) (by rw [if_pos hc])) fun hc => Ev.to (Ev.name F.cx (by rfl)) (by rw [if_neg (by rw [hc]; decide)])) (Ev.name F.cx (by rfl)))) (ne_of check_nil)) fun h₉ F => ?_
  have F := F.pick ["bits", "told", "rows", "width", "size", "polynomial", "beginning", "turning", "lowest", "flipped", "script", "algorithm", "check"]
  rw [hB] at herr
  have hmn : 0 < min wd (cn * sz) := by omega
  refine Zd.consX (X.assign (d := D.int (ns.getD 11 6)) F (Ev.lawAt (rd2 _) F.cx (by rfl) (Ev.litN (n := 11)) (Ev.lit (i := 6)) hn (by decide)) (.inr ⟨by rfl, by rfl⟩)) fun h₉ F => ?_
  generalize ns.getD 11 6 = nv at F
  have hlg := md_lt (n := nv) hmn
  refine Zd.consX (X.assign (d := D.nat (1 + md nv (min wd (cn * sz)))) F (Ev.addN Ev.litN (Ev.modI (Ev.name F.cx (by rfl)) (Ev.minN r.1 (Ev.bMin F.cx (kb _)) (Ev.name F.cx (by rfl)) (Ev.to (Ev.lenN (Ev.bLen F.cx (kb _)) (Ev.name F.cx (by rfl)) (by omega)) (by rw [hnB]))) hmn)) (.inr ⟨by rfl, by rfl⟩)) fun h₉ F => ?_
  have hlg1 : 1 ≤ 1 + md nv (min wd (cn * sz)) ∧ 1 + md nv (min wd (cn * sz)) ≤ wd ∧ 1 + md nv (min wd (cn * sz)) ≤ cn * sz := by omega
  generalize 1 + md nv (min wd (cn * sz)) = lg at F hlg1
  have hfs := md_lt (n := nv.fdiv 8) (b := cn * sz - lg + 1) (by omega)
  refine Zd.consX (X.assign (d := D.nat (md (nv.fdiv 8) (cn * sz - lg + 1))) F (Ev.modI (Ev.fdiv (Ev.name F.cx (by rfl)) Ev.lit (by decide) (noPy (b := 8) (by decide))) (Ev.addN (Ev.subN (Ev.to (Ev.lenN (Ev.bLen F.cx (kb _)) (Ev.name F.cx (by rfl)) (by omega)) (by rw [hnB])) (Ev.name F.cx (by rfl)) hlg1.2.2) Ev.litN) (by omega)) (.inr ⟨by rfl, by rfl⟩)) fun h₉ F => ?_
  have hfs1 : md (nv.fdiv 8) (cn * sz - lg + 1) + lg ≤ cn * sz := by omega
  generalize md (nv.fdiv 8) (cn * sz - lg + 1) = fs at F hfs1
  clear hfs hlg
  let P : Nat → Bool := fun i => [fs, fs + lg - 1].any (· == fs + i) || (Builtin.bitAnd ((nv.fdiv 64).fdiv (2 ^ ((fs + i - fs : Nat) : Int).toNat)) 1 == 1)
  have hP0 : P 0 = true := by show ([fs, fs + lg - 1].any (· == fs + 0) || _) = true; simp
  refine Zd.consX (X.assign (d := D.nats (((List.range lg).filter P).map (fs + ·))) F (Ev.mono (d := D.listGt 0 (((List.range lg).filter P).map fun i => D.nat (fs + i))) (Ev.compGt (μs := fun i => [("k", D.nat (fs + i))]) (p := P) (dd := fun _ i => D.nat (fs + i)) F.cx (Src.span r.1 (Ev.range2 (Ev.bRange F.cx (kb _)) (Ev.name F.cx (by rfl)) (Ev.addN (Ev.name F.cx (by rfl)) (Ev.name F.cx (by rfl)))) (by omega)) ["first", "long", "n"] (fun h' g => Nat.zero_le _)
    (fun i hi C h₁ g c => Ts.or2 (Ts.inTup (ws := [fs, fs + lg - 1]) (Ev.name c (by rfl)) (Ev.tup (Evs.cons (Ev.name c (by rfl)) (Evs.cons (Ev.subN (Ev.addN (Ev.name c (by rfl)) (Ev.name c (by rfl))) Ev.litN (by omega)) Evs.nil)) (by decide) rfl)) fun _ => Ts.eq (Ev.and (Ev.shr (Ev.fdiv (Ev.name c (by rfl)) Ev.lit (by decide) (noPy (b := 64) (by decide))) (Ev.subN (Ev.name c (by rfl)) (Ev.name c (by rfl)) (by omega)) (by omega)) Ev.lit) Ev.lit)
    (fun i hi _ C h₁ g hC c => (Ev.name c (by rfl))) (fun _ _ _ => Far.int) (fun _ _ _ _ _ q => q) (by omega)) (fun v h' q => by
      have q := D.listGt.plain q
      show (D.list (List.map D.nat (List.map (fs + ·) _))).at' _ _ _
      rw [List.map_map]; exact q)) (.inr ⟨by rfl, by rfl⟩)) fun h₉ F => ?_
  have hbu := burst_seen (L := cn * sz) hfs1 hlg1.1 hlg1.2.1 hP0 hwd.1 hpw.2 hpw.1
  generalize (((List.range lg).filter P).map (fs + ·)) = tv at F hbu
  refine Zd.consX (X.skip F (Ts.eqN (b := ck r0) (Ev.compute (r6 _) F.cx (Ev.name F.cx (by rfl)) (Ev.lawWords (m := cn) (r4 _) F.cx (Ev.to (Ev.mapComp (n := (nb B).length) (f := fun k => (B.getD k false).toNat ^^^ (if (fun k => tv.any (· == k)) k then 1 else 0)) (μs := fun k => [("k", D.nat k), ("bit", D.nat ((nb B).getD k 0))]) F.cx (Src.enumN r.1 (Ev.bEnum F.cx (kb _)) (Ev.name F.cx (by rfl))) ["turned"]
      (fun k hk C h₁ g c => Ev.xorN (Ev.to (Ev.name c (by rfl)) (by rw [nb_getD])) (Ev.ite (d := D.nat (if (fun k => tv.any (· == k)) k then 1 else 0)) (Ts.inList (Ev.name c (by rfl)) (Ev.name c (by rfl))) (fun hc => Ev.to Ev.litN (if1 hc)) fun hc => Ev.to Ev.litN (if0 hc))) (by omega)) (by rw [hnB, ← hB]; exact congrArg D.nats (flip_eq B (fun k => tv.any (· == k))))) (Ev.name F.cx (by rfl)) (Ev.name F.cx (by rfl)) (by rw [List.length_zipWith, errs_length, Nat.min_self, hB]) hsz.1 (by omega) (by omega)) pok (bwords_lt (by rw [List.length_zipWith, errs_length, Nat.min_self, hB]))) (Ev.itemN (ws := [ck r0, ck r1, ck r2]) (k := 0) (Ev.name F.cx (by rfl)) Ev.litN (by simp) (by simp))) (by
    rw [hB, beq_eq_false_iff_ne]
    exact fun q => hbu ((herr _).mp q))) fun h₉ F => ?_
  have F := F.pick ["bits", "told", "rows", "width", "size", "polynomial", "beginning", "turning", "lowest", "flipped", "script", "algorithm", "check"]
  refine Zd.consX (X.assign (d := D.int (ns.getD 12 9)) F (Ev.lawAt (rd2 _) F.cx (by rfl) (Ev.litN (n := 12)) (Ev.lit (i := 9)) hn (by decide)) (.inr ⟨by rfl, by rfl⟩)) fun h₉ F => ?_
  generalize ns.getD 12 9 = nw at F
  have hLp : 0 < cn * sz := by omega
  refine Zd.consX (X.assign2 (d := D.nat (md nw (cn * sz))) (d' := D.nat (md (nw.fdiv 64) (cn * sz))) r.1 F
    (Ev.tup (Evs.cons (Ev.modI (Ev.name F.cx (by rfl)) (Ev.to (Ev.lenN (Ev.bLen F.cx (kb _)) (Ev.name F.cx (by rfl)) (by omega)) (by rw [hnB])) hLp) (Evs.cons (Ev.modI (Ev.fdiv (Ev.name F.cx (by rfl)) Ev.lit (by decide) (noPy (b := 64) (by decide))) (Ev.to (Ev.lenN (Ev.bLen F.cx (kb _)) (Ev.name F.cx (by rfl)) (by omega)) (by rw [hnB])) hLp) Evs.nil)) (by decide) rfl) (.inr ⟨by rfl, by rfl⟩) (.inr ⟨by rfl, by rfl⟩)) fun h₉ F => ?_
  have h1L := md_lt (n := nw) hLp
  have h2L := md_lt (n := nw.fdiv 64) hLp
  generalize md nw (cn * sz) = one at F h1L
  generalize md (nw.fdiv 64) (cn * sz) = two at F h2L
  have F := F.pick ["n", "one", "two", "bits", "told", "rows", "width", "size", "polynomial", "beginning", "turning", "lowest", "flipped", "script", "algorithm", "check"]
  obtain ⟨od, ho1, ho2, ho3, ho4⟩ := order_least hwd.1 hpw.2 hpw.1
  have F : Fm _ _ _ (("n", D.int nw) :: ("one", D.nat one) :: ("two", D.nat two) :: mB) _ := F
  refine Zd.consX (P := F.p (("n", D.int nw) :: ("one", D.nat one) :: ("two", D.nat two) :: mB)) (X.if (Ts.neN (Ev.name F.cx (by rfl)) (Ev.name F.cx (by rfl))) (fun hc h₅ g => ?_) fun hc h₅ g => Xs.nil ⟨rfl, F.mono g⟩) fun h₉ F => ?_
  · have F := F.mono g
    have hne : one ≠ two := bne_iff_ne.mp hc
    have htw := two_seen (L := cn * sz) h1L h2L hne hwd.1 hpw.2 hpw.1 ho1 ho3 ho4
    refine Xs.cons (X.assign (d := D.bool (check wd p bg lo fl tu sz (bwords cn sz lo (List.zipWith xor B (errs B.length fun k => [one, two].any (· == k)))) == ck r0)) F (Ev.eqN (Ev.compute (r6 _) F.cx (Ev.name F.cx (by rfl)) (Ev.lawWords (m := cn) (r4 _) F.cx (Ev.to (Ev.mapComp (n := (nb B).length) (f := fun k => (B.getD k false).toNat ^^^ (if (fun k => [one, two].any (· == k)) k then 1 else 0)) (μs := fun k => [("k", D.nat k), ("bit", D.nat ((nb B).getD k 0))]) F.cx (Src.enumN r.1 (Ev.bEnum F.cx (kb _)) (Ev.name F.cx (by rfl))) ["one", "two"]
      (fun k hk C h₁ g c => Ev.xorN (Ev.to (Ev.name c (by rfl)) (by rw [nb_getD])) (Ev.ite (d := D.nat (if (fun k => [one, two].any (· == k)) k then 1 else 0)) (Ts.inTup (ws := [one, two]) (Ev.name c (by rfl)) (Ev.tup (Evs.cons (Ev.name c (by rfl)) (Evs.cons (Ev.name c (by rfl)) Evs.nil)) (by decide) rfl)) (fun hc => Ev.to Ev.litN (if1 hc)) fun hc => Ev.to Ev.litN (if0 hc))) (by omega)) (by rw [hnB, ← hB]; exact congrArg D.nats (flip_eq B (fun k => [one, two].any (· == k))))) (Ev.name F.cx (by rfl)) (Ev.name F.cx (by rfl)) (by rw [List.length_zipWith, errs_length, Nat.min_self, hB]) hsz.1 (by omega) (by omega)) pok (bwords_lt (by rw [List.length_zipWith, errs_length, Nat.min_self, hB]))) (Ev.itemN (ws := [ck r0, ck r1, ck r2]) (k := 0) (Ev.name F.cx (by rfl)) Ev.litN (by simp) (by simp))) (.inl (by rfl))) fun h₆ F => ?_
    refine Xs.cons (X.skip F (Ts.neB (Ev.name F.cx (by rfl)) (Ev.eqN (Ev.modN (a := ((one : Int) - (two : Int)).natAbs) (Ev.abs (Ev.bAbs F.cx (kb _)) (Ev.sub (a := (one : Int)) (b := (two : Int)) (Ev.name F.cx (by rfl)) (Ev.name F.cx (by rfl)))) (Ev.lawOrder (r4 _) F.cx (Ev.name F.cx (by rfl)) (Ev.name F.cx (by rfl)) hwd.1 hwd.2 hpw.2 hpw.1 ho1 ho3 ho4) (by omega)) Ev.litN)) (by
      rw [hB, bne_eq_false_iff_eq, Bool.eq_iff_iff, beq_iff_eq, beq_iff_eq]
      exact (herr _).trans htw)) fun h₇ F => Xs.nil ⟨rfl, F.pick ["n", "one", "two", "bits", "told", "rows", "width", "size", "polynomial", "beginning", "turning", "lowest", "flipped", "script", "algorithm", "check"]⟩
  refine Zd.cons (X.assignD (d := D.some fun od => od.Nodup ∧ (∀ x ∈ od, x ∈ [one, two, md (nw.fdiv 4096) (cn * sz), (one + 1) % (cn * sz), (two + 2) % (cn * sz)]) ∧ od.length ≤ 5) F (EvD.sortedSet (ws := [one, two, md (nw.fdiv 4096) (cn * sz), (one + 1) % (cn * sz), (two + 2) % (cn * sz)]) r.1 F.cx (kb _)
    (Ev.disp (Evs.cons (Ev.name F.cx (by rfl)) (Evs.cons (Ev.name F.cx (by rfl)) (Evs.cons (Ev.modI (Ev.fdiv (Ev.name F.cx (by rfl)) Ev.lit (by decide) (noPy (b := 4096) (by decide))) (Ev.to (Ev.lenN (Ev.bLen F.cx (kb _)) (Ev.name F.cx (by rfl)) (by omega)) (by rw [hnB])) hLp) (Evs.cons (Ev.modN (Ev.addN (Ev.name F.cx (by rfl)) Ev.litN) (Ev.to (Ev.lenN (Ev.bLen F.cx (kb _)) (Ev.name F.cx (by rfl)) (by omega)) (by rw [hnB])) hLp) (Evs.cons (Ev.modN (Ev.addN (Ev.name F.cx (by rfl)) Ev.litN) (Ev.to (Ev.lenN (Ev.bLen F.cx (kb _)) (Ev.name F.cx (by rfl)) (by omega)) (by rw [hnB])) hLp) Evs.nil))))) (by decide) rfl) (Nat.le_refl 5)) (.inr ⟨by rfl, by rfl⟩)) fun h₁₀ F => ?_
  obtain ⟨vo, ⟨os, ⟨hnd, hmem, hle⟩, hq⟩, F⟩ := F.reval (x := "odd") (by rfl)
  have F := F.desc (x := "odd") (d := D.nats os) (by rfl) hq
  have hlt : ∀ x ∈ os, x < cn * sz := five_lt h1L h2L hLp hmem
  have F : Fm _ _ _ (("odd", D.nats os) :: mB) _ := F.pick ["odd", "bits", "told", "rows", "width", "size", "polynomial", "beginning", "turning", "lowest", "flipped", "script", "algorithm", "check"]
  refine T.d (T.mono (Xs.cons' (P := F.p mB) (Φ := fun fl _ => fl = .ret (.bool true)) (X.if (Ts.and2 (Ts.eqN (a := os.length % 2) (Ev.modN (Ev.lenN (Ev.bLen F.cx (kb _)) (Ev.name F.cx (by rfl)) (by omega)) Ev.litN (by decide)) Ev.litN) fun _ => Ts.eqN (a := ((List.range wd).map fun k => p / 2 ^ k &&& 1).sum % 2) (Ev.modN (Ev.sumComp (f := fun k => p / 2 ^ k &&& 1) (μs := fun k => [("k", D.nat k)]) r.1 F.cx (Ev.bSum F.cx (kb _)) (Src.upto r.1 (Ev.range1 (Ev.bRange F.cx (kb _)) (Ev.name F.cx (by rfl))) (by omega)) ["polynomial"] (fun k hk C h₁ g c => Ev.andN (Ev.shrN (Ev.name c (by rfl)) (Ev.name c (by rfl))) Ev.litN) (by omega) (Nat.lt_of_le_of_lt (par_bound p wd) (by omega))) Ev.litN (by decide)) Ev.litN) (fun hc h₅ g => ?_) fun hc h₅ g => ?_) fun h₁₁ F' => ?_) fun fl h' q => ?_)
  · have F := F.mono g
    rw [Bool.and_eq_true] at hc
    have hod := odd_run (L := cn * sz) hwd.1 hnd hlt hc.1 hc.2
    refine Xs.mono (Xs.ret (d := D.bool (check wd p bg lo fl tu sz (bwords cn sz lo (List.zipWith xor B (errs B.length fun k => os.any (· == k)))) != ck r0)) (Ev.neN (Ev.compute (r6 _) F.cx (Ev.name F.cx (by rfl)) (Ev.lawWords (m := cn) (r4 _) F.cx (Ev.to (Ev.mapComp (n := (nb B).length) (f := fun k => (B.getD k false).toNat ^^^ (if (fun k => os.any (· == k)) k then 1 else 0)) (μs := fun k => [("k", D.nat k), ("bit", D.nat ((nb B).getD k 0))]) F.cx (Src.enumN r.1 (Ev.bEnum F.cx (kb _)) (Ev.name F.cx (by rfl))) ["odd"]
      (fun k hk C h₁ g c => Ev.xorN (Ev.to (Ev.name c (by rfl)) (by rw [nb_getD])) (Ev.ite (d := D.nat (if (fun k => os.any (· == k)) k then 1 else 0)) (Ts.inList (Ev.name c (by rfl)) (Ev.name c (by rfl))) (fun hc => Ev.to Ev.litN (if1 hc)) fun hc => Ev.to Ev.litN (if0 hc))) (by omega)) (by rw [hnB, ← hB]; exact congrArg D.nats (flip_eq B (fun k => os.any (· == k))))) (Ev.name F.cx (by rfl)) (Ev.name F.cx (by rfl)) (by rw [List.length_zipWith, errs_length, Nat.min_self, hB]) hsz.1 (by omega) (by omega)) pok (bwords_lt (by rw [List.length_zipWith, errs_length, Nat.min_self, hB]))) (Ev.itemN (ws := [ck r0, ck r1, ck r2]) (k := 0) (Ev.name F.cx (by rfl)) Ev.litN (by simp) (by simp)))) ?_
    rintro f h'' ⟨v, rfl, x⟩
    have x : v = .bool _ := x
    have e : (check wd p bg lo fl tu sz (bwords cn sz lo (List.zipWith xor B (errs B.length fun k => os.any (· == k)))) != ck r0) = true := by
      rw [hB, bne_iff_ne]
      exact fun q => hod ((herr _).mp q)
    rw [e] at x
    exact .inr ⟨⟨_, rfl⟩, by rw [x]⟩
  · exact Xs.nil (.inl ⟨rfl, (F.mono g).pick ["bits", "told", "rows", "width", "size", "polynomial", "beginning", "turning", "lowest", "flipped", "script", "algorithm", "check"]⟩)
  · refine Xs.mono (Xs.ret (d := D.bool true) Ev.litb) ?_
    rintro f h'' ⟨v, rfl, x⟩
    have x : v = .bool true := x
    rw [x]
  · have q2 : fl = .ret (.bool true) := q.2
    subst q2
    exact ⟨fun b o e => q.1 b o (F.keep b o e) (.inl (Nat.lt_of_lt_of_le (Heap.lt_size e) F.fresh)), rfl⟩
end Mine
end Law1x
section Ent2x
open PySem PySem.W PyProof.Rows
set_option maxHeartbeats 8000000 
namespace Mine
theorem gLaw (P : Params) : nsIn (KK P) mainGlobals "law" = some (some (.ref 178)) := by kernel_rfl
theorem entry : PySem.Challenge.rw_bg0011_01.Holds := by
  refine Mine.hd ?_
  intro w s₀ s₁ mg mb G Y fa o pm cd doc dV kV ho hd hcd hD hmg hg args vals as hpre hlay hrd hwl hlo
  have KX := kIn_of Y
  have X := (Ground.X G).1
  have V := (Ground.X G).2
  refine Ground.open G ?_
  intro T B D TE TW
  have hlaw := mg_of KX T.g (gLaw w.params)
  have hfa : fa = 178 := by
    have e := hlaw.symm.trans hmg
    injection e with e
    injection e with e
    exact e.symm
  subst hfa
  have gd : Gd (KK w.params) s₁.heap := ⟨KX, _, _, _, _, topRead_of T⟩
  wrow_args hpre hlay hrd hwl hlo
  all_goals (
    first | refine callC_kw (enter_call ?_) | refine enter_call ?_ | refine callC_kw (enter_callW ?_) | refine enter_callW ?_ | w_how)
  all_goals (w_top on)
  all_goals (try refine codeAny_mono ?_ (fun _ _ g => GoodW.toG g))
  rename_i hL ra w1 r0 hI hr hcond hcond'
  refine ct_law (fr := none) ⟨rfl, by decide, by decide⟩ gd (.cons ⟨_, _, rfl, hL, ofItems hI⟩ .nil) (by omega) s₁ _ rfl fun v h' tk' d' p => ?_
  obtain ⟨g, rfl⟩ := p
  refine ⟨.inl ⟨.bool true, .bool true, [], rfl, raisesW_false (by wrow_none_raised), .bool true, ?_, unshared_nil⟩, g, rfl, hg⟩
  exact postW_of (X := true) (by first | rfl | kernel_rfl) (by first | rfl | kernel_rfl) rfl
end Mine
end Ent2x
theorem PySem.Challenge.cw_bg0011_01_holds : PySem.Challenge.rw_bg0011_01.Holds := by
  exact Mine.entry
