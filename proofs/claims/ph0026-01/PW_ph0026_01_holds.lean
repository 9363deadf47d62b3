import PyProof.Rows.All
import Wide.All
import OpenK.AllK
import Wide.FinOn
import PySem.Challenge.RW_ph0026_01
set_option Elab.async false
section PartHead26
open PySem PySem.W PyProof.Rows
namespace Mine
set_option maxRecDepth 100000 in
set_option maxHeartbeats 0 in
open_top hd for PySem.Challenge.rw_ph0026_01
end Mine
end PartHead26
section PartQ0
open PySem PySem.W PyProof.Rows PySem.Calls
set_option maxRecDepth 100000
namespace Mine

abbrev P : Program := PySem.Challenge.pw_ph0026_01

/-! the parts of the text, by projection -/
def bodyOf (i : Nat) : List Stmt := match P.main.body[i]? with | some (.FunctionDef _ _ b _ _ _ _ _ _ _) => b | _ => []
def scopeOf (i : Nat) : Scope := match P.main.body[i]? with | some (.FunctionDef _ _ _ _ _ _ sc _ _ _) => sc | _ => { kind := .module, names := [], isGenerator := false, isCoroutine := false }
def paramsOf (i : Nat) : Arguments := match P.main.body[i]? with | some (.FunctionDef _ a _ _ _ _ _ _ _ _) => a | _ => { posonlyargs := [], args := [], vararg := none, kwonlyargs := [], kw_defaults := [], kwarg := none, defaults := [] }

def Sub (h h' : Heap) : Prop := ∀ b o, h.get? b = some o → h'.get? b = some o
theorem Sub.refl (h : Heap) : Sub h h := fun _ _ e => e
theorem Sub.trans {a b c : Heap} (x : Sub a b) (y : Sub b c) : Sub a c := fun q o e => y q o (x q o e)
theorem Sub.push (h : Heap) (o : Obj) : Sub h (h.push o) := fun _ _ e => Heap.get?_push_of_some _ e

structure FnAt (h : Heap) (a : Addr) (i : Nat) : Prop where
  ex : ∃ o nm q doc pm an cdv ct, h.get? a = some o ∧ o.data = .func (fnOf nm q (paramsOf i) (bodyOf i) (scopeOf i) .none .none doc pm an cdv ct) ∧ h.CodeRec cdv q
theorem FnAt.mono {h h' : Heap} {a : Addr} {i : Nat} (x : FnAt h a i) (k : Sub h h') : FnAt h' a i := by
  obtain ⟨o, nm, q, doc, pm, an, cdv, ct, h1, h2, h3⟩ := x.ex
  exact ⟨o, nm, q, doc, pm, an, cdv, ct, k _ _ h1, h2, h3.keeps k⟩

def flagTab : List (Int × Str) := [(1, "OPTIMIZED"), (2, "NEWLOCALS"), (4, "VARARGS"), (8, "VARKEYWORDS"), (16, "NESTED"), (32, "GENERATOR"), (64, "NOFREE"), (128, "COROUTINE"), (256, "ITERABLE_COROUTINE"), (512, "ASYNC_GENERATOR")]

/-- what the call finds at the top -/
structure G (w : World) (h : Heap) : Prop where
  lim : h.NoLimit
  ns : ∃ mg mb, h.Ns mainGlobals mg ∧ h.Ns builtinsNs mb ∧
    (mg "replace" = some (.ref 21) ∧ mg "_split_list" = some (.ref 28) ∧ mg "COMPILER_FLAG_NAMES" = some (.ref 29) ∧ mg "pretty_flags" = some (.ref 36) ∧ mg "_law_word" = some (.ref 43) ∧
     mg "_law_bits" = some (.ref 48) ∧ mg "_law_told" = some (.ref 53) ∧ mg "_law_line" = some (.ref 58) ∧ mg "_law_carried" = some (.ref 63)) ∧
    (mg "range" = none ∧ mg "sum" = none ∧ mg "enumerate" = none ∧ mg "hex" = none ∧ mg "max" = none) ∧
    (mb "range" = some (.type "range") ∧ mb "sum" = some (.builtin "sum") ∧ mb "enumerate" = some (.type "enumerate") ∧ mb "hex" = some (.builtin "hex") ∧ mb "max" = some (.builtin "max"))
  replace : FnAt h 21 1
  splitList : FnAt h 28 2
  flags : FnAt h 36 5
  word : FnAt h 43 7
  bits : FnAt h 48 8
  told : FnAt h 53 9
  line : FnAt h 58 10
  carried : FnAt h 63 11
  tab : ∃ f, h.MapOf (intKind P w) 29 f ∧ (∀ k x, flagTab.lookup k = some x → ∃ t, f k = some (.str x t)) ∧ (∀ k, flagTab.lookup k = none → f k = none)
theorem G.mono {w : World} {h h' : Heap} (g : G w h) (k : Sub h h') : G w h' where
  lim := g.lim.keeps k
  ns := let ⟨mg, mb, a, b, r⟩ := g.ns; ⟨mg, mb, a.keeps k, b.keeps k, r⟩
  replace := g.replace.mono k
  splitList := g.splitList.mono k
  flags := g.flags.mono k
  word := g.word.mono k
  bits := g.bits.mono k
  told := g.told.mono k
  line := g.line.mono k
  carried := g.carried.mono k
  tab := let ⟨f, ⟨o, es, ep, ho, r⟩, q⟩ := g.tab; ⟨f, ⟨o, es, ep, k _ _ ho, r⟩, q⟩

/-- what holds of the stack -/
structure Room (A : Around) (n : Nat) : Prop where
  hand : A.handled = none
  depth : A.depth + n < recursionLimit
  units : A.units + 10 * n < cLine
end Mine
end PartQ0
section PartQ1
open PySem PySem.W PyProof.Rows PySem.Calls
set_option maxRecDepth 100000
namespace Mine

def IsI (n : Int) (v : Value) : Prop := ∃ t, v = .int n t
def IsS (x : Str) (v : Value) : Prop := ∃ t, v = .str x t
def LS (h : Heap) (a : Addr) (xs : List Str) : Prop := ∃ ys : List Value, h.IsList a ys.toArray ∧ Paired IsS xs ys
def LI (h : Heap) (a : Addr) (ns : List Int) : Prop := ∃ ys : List Value, h.IsList a ys.toArray ∧ Paired IsI ns ys
def TS (h : Heap) (a : Addr) (xs : List Str) : Prop := ∃ (ys : List Value) (n : Nat), h.get? a = some { cls := .type "tuple", data := .seq ys.toArray n } ∧ Paired IsS xs ys
theorem LS.mono {h h' : Heap} {a xs} (x : LS h a xs) (k : Sub h h') : LS h' a xs := let ⟨ys, l, p⟩ := x; ⟨ys, l.at fun o e => k _ o e, p⟩
theorem LI.mono {h h' : Heap} {a xs} (x : LI h a xs) (k : Sub h h') : LI h' a xs := let ⟨ys, l, p⟩ := x; ⟨ys, l.at fun o e => k _ o e, p⟩
theorem TS.mono {h h' : Heap} {a xs} (x : TS h a xs) (k : Sub h h') : TS h' a xs := let ⟨ys, n, l, p⟩ := x; ⟨ys, n, k _ _ l, p⟩
theorem TS.tup {h : Heap} {a xs} (x : TS h a xs) : ∃ ys : List Value, IsTup h a ys.toArray ∧ Paired IsS xs ys := let ⟨ys, n, l, p⟩ := x; ⟨ys, ⟨_, l, rfl, n, rfl⟩, p⟩
theorem LS.at {h h' : Heap} {a xs} (x : LS h a xs) (k : ∀ o, h.get? a = some o → h'.get? a = some o) : LS h' a xs := let ⟨ys, l, p⟩ := x; ⟨ys, l.at k, p⟩
theorem LI.at {h h' : Heap} {a xs} (x : LI h a xs) (k : ∀ o, h.get? a = some o → h'.get? a = some o) : LI h' a xs := let ⟨ys, l, p⟩ := x; ⟨ys, l.at k, p⟩
theorem paired_get {α β : Type} {F : α → β → Prop} : ∀ {l₁ : List α} {l₂ : List β}, Paired F l₁ l₂ → ∀ (i : Nat) (a : α), l₁[i]? = some a → ∃ b, l₂[i]? = some b ∧ F a b
  | _, _, .nil, i, a, h => by simp at h
  | _, _, .cons hf t, 0, a, h => by simp at h; subst h; exact ⟨_, rfl, hf⟩
  | _, _, .cons hf t, i + 1, a, h => by simpa using paired_get t i a (by simpa using h)
theorem paired_get' {α β : Type} {F : α → β → Prop} : ∀ {l₁ : List α} {l₂ : List β}, Paired F l₁ l₂ → ∀ (i : Nat) (b : β), l₂[i]? = some b → ∃ a, l₁[i]? = some a ∧ F a b
  | _, _, .nil, i, a, h => by simp at h
  | _, _, .cons hf t, 0, a, h => by simp at h; subst h; exact ⟨_, rfl, hf⟩
  | _, _, .cons hf t, i + 1, a, h => by simpa using paired_get' t i a (by simpa using h)
theorem paired_append {α β : Type} {F : α → β → Prop} : ∀ {l₁ : List α} {l₂ : List β} {r₁ : List α} {r₂ : List β}, Paired F l₁ l₂ → Paired F r₁ r₂ → Paired F (l₁ ++ r₁) (l₂ ++ r₂)
  | _, _, _, _, .nil, h => h
  | _, _, _, _, .cons hf t, h => .cons hf (paired_append t h)

/-- a run that ends well (closed, so that nothing looks into the tree) -/
structure Wp (w : World) (A : Around) {α : Type} (t : Sem α) (Q : α → Shared → Prop) (E : Value → Shared → Prop) (s : Shared) : Prop where
  run : wpAny (model P w) A t Q E s

section
variable {w : World} {A : Around} {env : Env} {h : Heap} {e : Expr}

def EvK (w : World) (A : Around) (env : Env) (h : Heap) (e : Expr) (V : Value → Heap → Prop) : Prop :=
  ∀ (s : Shared) (E : Value → Shared → Prop) (Q : Value → Shared → Prop), s.heap = h → (∀ x h' k, Sub h h' → V x h' → Q x { s with heap := h', toks := k }) → Wp w A (eval e env) Q E s
def Ev (w : World) (A : Around) (env : Env) (h : Heap) (e : Expr) (V : Value → Prop) : Prop :=
  ∀ (s : Shared) (E : Value → Shared → Prop) (Q : Value → Shared → Prop), s.heap = h → (∀ x k, V x → Q x { s with toks := k }) → Wp w A (eval e env) Q E s
theorem Ev.k {V : Value → Prop} (x : Ev w A env h e V) : EvK w A env h e (fun v _ => V v) := fun s E Q hs hq => by
  subst hs
  exact x s E Q rfl fun v k hv => hq v s.heap k (Sub.refl _) hv
theorem EvK.mono {V V' : Value → Heap → Prop} (x : EvK w A env h e V) (hm : ∀ v h', Sub h h' → V v h' → V' v h') : EvK w A env h e V' := fun s E Q hs hq => x s E Q hs fun v h' k hk hv => hq v h' k hk (hm v h' hk hv)
theorem Ev.mono {V V' : Value → Prop} (x : Ev w A env h e V) (hm : ∀ v, V v → V' v) : Ev w A env h e V' := fun s E Q hs hq => x s E Q hs fun v k hv => hq v k (hm v hv)

/-- the frame: its locals, its cells -/
structure Loc (env : Env) (h : Heap) (m cm : Str → Option Value) : Prop where
  kind : env.scope.kind = .function
  ns : h.Ns env.locals m
  cells : ∀ n c, env.cells.lookup n = some c → h.IsCell c (cm n)
theorem Loc.mono {h' : Heap} {m cm : Str → Option Value} (x : Loc env h m cm) (k : Sub h h') : Loc env h' m cm := ⟨x.kind, x.ns.keeps k, fun n c e => (x.cells n c e).keeps k⟩

theorem ev_int {n : Int} {k : Nat} {pos : Pos} : Ev w A env h (.Constant (.int n) k pos) (IsI n) := fun _ _ _ _ hq => ⟨wpAny_Constant_int (hq _ _ ⟨_, rfl⟩)⟩
theorem ev_str {x : Str} {k : Nat} {pos : Pos} : Ev w A env h (.Constant (.str x) k pos) (IsS x) := fun _ _ _ _ hq => ⟨wpAny_Constant_str (hq _ _ ⟨_, rfl⟩)⟩
theorem ev_local {m cm : Str → Option Value} {x : Str} {pos : Pos} {v : Value} (F : Loc env h m cm) (hl : env.kindOf x = some .local) (hv : m x = some v) (hd : (x == ("__debug__" : Str)) = false := by decide) :
    Ev w A env h (.Name x pos) (· = v) := fun s _ _ hs hq => by
  subst hs
  exact ⟨wpAny_Name (wpAny_loadName_local F.kind hl F.ns hv (hq v s.toks rfl)) hd⟩
theorem ev_cell {m cm : Str → Option Value} {x : Str} {pos : Pos} {v : Value} {c : Addr} (F : Loc env h m cm) (hl : env.kindOf x = some .cell) (hc : env.cells.lookup x = some c) (hv : cm x = some v) (hd : (x == ("__debug__" : Str)) = false := by decide) :
    Ev w A env h (.Name x pos) (· = v) := fun s _ _ hs hq => by
  subst hs
  exact ⟨wpAny_Name (wpAny_loadName_cell F.kind hl hc (hv ▸ F.cells x c hc) (hq v s.toks rfl)) hd⟩
theorem ev_free {m cm : Str → Option Value} {x : Str} {pos : Pos} {v : Value} {c : Addr} (F : Loc env h m cm) (hl : env.kindOf x = some .free) (hc : env.cells.lookup x = some c) (hv : cm x = some v) (hd : (x == ("__debug__" : Str)) = false := by decide)
    (hn : (x == ("__classdict__" : Str)) = false := by decide) : Ev w A env h (.Name x pos) (· = v) := fun s _ _ hs hq => by
  subst hs
  exact ⟨wpAny_Name (wpAny_loadName_free F.kind hl hc (hv ▸ F.cells x c hc) (hq v s.toks rfl) hn) hd⟩

theorem ev_bin {l r : Expr} {op : Operator} {pos : Pos} {V1 V2 V : Value → Prop} (hl : Ev w A env h l V1) (hr : Ev w A env h r V2)
    (hop : ∀ a b (s : Shared) (E : Value → Shared → Prop) (Q : Value → Shared → Prop), s.heap = h → V1 a → V2 b → (∀ x k, V x → Q x { s with toks := k }) → wpAny (model P w) A (binaryOp op a b) Q E s) :
    Ev w A env h (.BinOp l op r pos) V := fun s E Q hs hq =>
  ⟨wpAny_BinOp (Wp.run (hl s E _ hs fun a k ha => (Wp.run (hr _ E _ hs fun b k' hb => hop a b _ E Q hs ha hb fun x k'' hx => hq x k'' hx))))⟩

theorem ev_add {l r : Expr} {pos : Pos} {a b : Int} (hl : Ev w A env h l (IsI a)) (hr : Ev w A env h r (IsI b)) : Ev w A env h (.BinOp l .Add r pos) (IsI (a + b)) :=
  ev_bin hl hr fun x y s E Q _ ⟨t, hx⟩ ⟨u, hy⟩ hq => by subst hx; subst hy; exact wpAny_add_int (hq _ _ ⟨_, rfl⟩)
theorem ev_sub {l r : Expr} {pos : Pos} {a b : Int} (hl : Ev w A env h l (IsI a)) (hr : Ev w A env h r (IsI b)) : Ev w A env h (.BinOp l .Sub r pos) (IsI (a - b)) :=
  ev_bin hl hr fun x y s E Q _ ⟨t, hx⟩ ⟨u, hy⟩ hq => by subst hx; subst hy; exact PyProof.Rows.sub_int (hq _ _ ⟨_, rfl⟩)
theorem ev_mul {l r : Expr} {pos : Pos} {a b : Int} (hl : Ev w A env h l (IsI a)) (hr : Ev w A env h r (IsI b)) (hm : IntMulOk a b) : Ev w A env h (.BinOp l .Mult r pos) (IsI (a * b)) :=
  ev_bin hl hr fun x y s E Q _ ⟨t, hx⟩ ⟨u, hy⟩ hq => by subst hx; subst hy; exact PyProof.Rows.mul_int (hq _ _ ⟨_, rfl⟩) hm
theorem ev_mod {l r : Expr} {pos : Pos} {a b : Int} (hl : Ev w A env h l (IsI a)) (hr : Ev w A env h r (IsI b)) (hb : b ≠ 0) : Ev w A env h (.BinOp l .Mod r pos) (IsI (a.fmod b)) :=
  ev_bin hl hr fun x y s E Q _ ⟨t, hx⟩ ⟨u, hy⟩ hq => by subst hx; subst hy; exact mod_int' hb (hq _ _ ⟨_, rfl⟩)
theorem ev_fdiv {l r : Expr} {pos : Pos} {a b : Int} (hl : Ev w A env h l (IsI a)) (hr : Ev w A env h r (IsI b)) (hb : b ≠ 0) (hp : Builtin.divisionGoesByPylong a b = false) : Ev w A env h (.BinOp l .FloorDiv r pos) (IsI (a.fdiv b)) :=
  ev_bin hl hr fun x y s E Q _ ⟨t, hx⟩ ⟨u, hy⟩ hq => by subst hx; subst hy; exact floordiv_int hb (hq _ _ ⟨_, rfl⟩) (.inl hp)
theorem ev_pow {l r : Expr} {pos : Pos} {a n : Int} (hl : Ev w A env h l (IsI a)) (hr : Ev w A env h r (IsI n)) (h0 : 0 ≤ n) (h1 : n ≤ 1000000) (ha : a.natAbs < 2 ^ 64) : Ev w A env h (.BinOp l .Pow r pos) (IsI (a ^ n.toNat)) :=
  ev_bin hl hr fun x y s E Q _ ⟨t, hx⟩ ⟨u, hy⟩ hq => by subst hx; subst hy; exact pow_int_small h0 h1 ha (hq _ _ ⟨_, rfl⟩)
theorem str_zero {a : Str} (h : (a.length == 0) = true) : a = Str.empty := by
  have h : a.length = 0 := by simpa using h
  refine Str.ext' ?_
  have : a.cps.size = 0 := h
  exact Array.eq_empty_of_size_eq_zero this
theorem add_strs {a b : Str} {t u : Tok} {s : Shared} {E : Value → Shared → Prop} {Q : Value → Shared → Prop} (hsz : a.length + b.length ≤ sizeLine) (hq : ∀ x k, IsS (a ++ b) x → Q x { s with toks := k }) :
    wpAny (model P w) A (binaryOp .Add (.str a t) (.str b u)) Q E s := by
  refine PySem.P.add_str ?_
  split
  · rename_i h0
    rw [str_zero h0, Str.empty_append] at hq
    exact hq _ s.toks ⟨_, rfl⟩
  · split
    · rename_i h0
      rw [str_zero h0, Str.append_empty] at hq
      exact hq _ s.toks ⟨_, rfl⟩
    · exact ⟨by rw [Str.length_append]; exact hsz, hq _ _ ⟨_, rfl⟩⟩
theorem ev_adds {l r : Expr} {pos : Pos} {a b : Str} (hl : Ev w A env h l (IsS a)) (hr : Ev w A env h r (IsS b)) (hsz : a.length + b.length ≤ sizeLine) : Ev w A env h (.BinOp l .Add r pos) (IsS (a ++ b)) :=
  ev_bin hl hr fun x y s E Q _ ⟨t, hx⟩ ⟨u, hy⟩ hq => by
    subst hx; subst hy
    exact add_strs hsz hq
theorem ev_muls {l r : Expr} {pos : Pos} {a : Str} {n : Int} (hl : Ev w A env h l (IsS a)) (hr : Ev w A env h r (IsI n)) (hok : MulOk a n) : Ev w A env h (.BinOp l .Mult r pos) (IsS (Txt.mul a n)) :=
  ev_bin hl hr fun x y s E Q _ ⟨t, hx⟩ ⟨u, hy⟩ hq => by
    subst hx; subst hy
    exact SB.mul hok fun t' k => hq _ _ ⟨_, rfl⟩

/-- an item of a list or tuple at a known place -/
theorem ev_sub_list {value slice : Expr} {pos : Pos} {a : Addr} {items : Array Value} {k : Int} {V : Value → Prop} (hv : Ev w A env h value (· = .ref a)) (hi : Ev w A env h slice (IsI k)) (hl : h.IsList a items) (h0 : 0 ≤ k) (hb : k < 2 ^ 63)
    (hx : ∃ x, items[k.toNat]? = some x ∧ V x) (hs : ∀ u, subscripted slice false (.ref a) (.int k u) = operate [.ref a, .int k u] (getItem (.ref a) (.int k u))) : Ev w A env h (.Subscript value slice pos) V := fun s E Q hsh hq =>
  ⟨Subscript_ (Wp.run (hv s E _ hsh fun o k1 ho => (Wp.run (hi _ E _ hsh fun i k2 hi' => by
    obtain ⟨u, rfl⟩ := hi'
    subst ho
    obtain ⟨x, hx, hV⟩ := hx
    subst hsh
    exact tail_any (T := "list") (id := "list.__getitem__") hl.typeIs slot_list_getitem.lookup (wpAny_getItem_list (s := { s with toks := k2 }) hl h0 hb hx (hq x k2 hV)) (hs u)))))⟩
theorem ev_sub_tuple {value slice : Expr} {pos : Pos} {a : Addr} {items : Array Value} {k : Int} {V : Value → Prop} (hv : Ev w A env h value (· = .ref a)) (hi : Ev w A env h slice (IsI k)) (hl : IsTup h a items) (h0 : 0 ≤ k) (hb : k < 2 ^ 63)
    (hx : ∃ x, items[k.toNat]? = some x ∧ V x) (hs : ∀ u, subscripted slice false (.ref a) (.int k u) = operate [.ref a, .int k u] (getItem (.ref a) (.int k u))) : Ev w A env h (.Subscript value slice pos) V := fun s E Q hsh hq =>
  ⟨Subscript_ (Wp.run (hv s E _ hsh fun o k1 ho => (Wp.run (hi _ E _ hsh fun i k2 hi' => by
    obtain ⟨u, rfl⟩ := hi'
    subst ho
    obtain ⟨x, hx, hV⟩ := hx
    subst hsh
    have hlt : k.toNat < items.size := (Array.getElem?_eq_some_iff.mp hx).1
    exact tail_any (T := "tuple") (id := "tuple.__getitem__") (s := { s with toks := k2 }) (IsTup.typeIs hl) slot_tuple_getitem.lookup (getItem_tuple (s := { s with toks := k2 }) hl (by omega) hb (seqIndex_of h0 (by omega)) hx (hq x k2 hV)) (hs u)))))⟩
theorem ev_item_S {value slice : Expr} {pos : Pos} {a : Addr} {xs : List Str} {k : Int} {x : Str} (hv : Ev w A env h value (· = .ref a)) (hi : Ev w A env h slice (IsI k)) (hl : LS h a xs) (h0 : 0 ≤ k) (hb : k < 2 ^ 63)
    (hx : xs[k.toNat]? = some x) (hs : ∀ u, subscripted slice false (.ref a) (.int k u) = operate [.ref a, .int k u] (getItem (.ref a) (.int k u)) := by intro _; with_unfolding_all rfl) : Ev w A env h (.Subscript value slice pos) (IsS x) := by
  obtain ⟨ys, hl, hp⟩ := hl
  obtain ⟨b, hb', hF⟩ := paired_get hp _ _ hx
  exact ev_sub_list hv hi hl h0 hb ⟨b, by simpa using hb', hF⟩ hs
theorem ev_item_I {value slice : Expr} {pos : Pos} {a : Addr} {xs : List Int} {k : Int} {x : Int} (hv : Ev w A env h value (· = .ref a)) (hi : Ev w A env h slice (IsI k)) (hl : LI h a xs) (h0 : 0 ≤ k) (hb : k < 2 ^ 63)
    (hx : xs[k.toNat]? = some x) (hs : ∀ u, subscripted slice false (.ref a) (.int k u) = operate [.ref a, .int k u] (getItem (.ref a) (.int k u)) := by intro _; with_unfolding_all rfl) : Ev w A env h (.Subscript value slice pos) (IsI x) := by
  obtain ⟨ys, hl, hp⟩ := hl
  obtain ⟨b, hb', hF⟩ := paired_get hp _ _ hx
  exact ev_sub_list hv hi hl h0 hb ⟨b, by simpa using hb', hF⟩ hs
theorem ev_item_T {value slice : Expr} {pos : Pos} {a : Addr} {xs : List Str} {k : Int} {x : Str} (hv : Ev w A env h value (· = .ref a)) (hi : Ev w A env h slice (IsI k)) (hl : TS h a xs) (h0 : 0 ≤ k) (hb : k < 2 ^ 63)
    (hx : xs[k.toNat]? = some x) (hs : ∀ u, subscripted slice false (.ref a) (.int k u) = operate [.ref a, .int k u] (getItem (.ref a) (.int k u)) := by intro _; with_unfolding_all rfl) : Ev w A env h (.Subscript value slice pos) (IsS x) := by
  obtain ⟨ys, hl, hp⟩ := hl.tup
  obtain ⟨b, hb', hF⟩ := paired_get hp _ _ hx
  exact ev_sub_tuple hv hi hl h0 hb ⟨b, by simpa using hb', hF⟩ hs

/-- what a for or a comprehension goes over -/
def Src (w : World) (A : Around) (env : Env) (h : Heap) (iter : Expr) (srcs : List Addr) (n : Nat) (Pv : Nat → Value → Prop) : Prop :=
  ∀ (s : Shared) (E : Value → Shared → Prop) (K : Value → Shared → Prop), s.heap = h →
    (∀ I fp St h' k, Sub h h' → Walks P w A I fp [I] n Pv St → St 0 h' → (∀ b ∈ fp, b < h'.objs.size) → h.objs.size ≤ I → (∀ b ∈ fp, b = I ∨ b ∈ srcs) → K (.ref I) { s with heap := h', toks := k }) →
    Wp w A (eval iter env) (fun xv s₁ => wpAny (model P w) A (pyIter xv) K E s₁) E s

theorem src_list {iter : Expr} {a : Addr} {items : Array Value} (hh : A.handled = none) (hv : Ev w A env h iter (· = .ref a)) (hl : h.IsList a items) : Src w A env h iter [a] items.size (fun i v => items[i]? = some v) := fun s E K hs hK => by
  subst hs
  refine hv s E _ rfl fun x k hx => ?_
  subst hx
  obtain ⟨ol, hol, hcl⟩ := id hl
  have hlt : a < s.heap.objs.size := Heap.lt_size hol
  have hne : a ≠ s.heap.objs.size := Nat.ne_of_lt hlt
  refine wpAny_pyIter_list (s := { s with toks := k }) hl ?_
  refine hK _ _ _ _ k (Sub.push _ _) (Walks.list hh s.heap.objs.size a hne items) ⟨⟨_, Heap.get?_push_size _ rfl, rfl, rfl⟩, hl.push _⟩ (fun b hb => ?_) (Nat.le_refl _) (fun b hb => ?_)
  · rw [Heap.size_push]
    rcases List.mem_cons.mp hb with rfl | hb
    · exact Nat.lt_succ_self _
    · rw [List.mem_singleton.mp hb]; exact Nat.lt_succ_of_lt hlt
  · rcases List.mem_cons.mp hb with rfl | hb
    · exact .inl rfl
    · exact .inr hb

theorem ev_builtin {x : Str} {pos : Pos} {v : Value} {mg mb : Str → Option Value} (hk : env.scope.kind = .function) (hx : env.kindOf x = some .globalImplicit) (hg : env.globals = mainGlobals) (hbn : env.builtins = builtinsNs)
    (h1 : h.Ns mainGlobals mg) (h2 : h.Ns builtinsNs mb) (hm : mg x = none) (hv : mb x = some v) (hd : (x == ("__debug__" : Str)) = false := by decide) : Ev w A env h (.Name x pos) (· = v) := fun s _ _ hs hq => by
  subst hs
  exact ⟨Name_function_global hk hx (loadGlobal_builtin (hg ▸ h1) hm (hbn ▸ h2) hv (hq v s.toks rfl)) hd⟩
theorem ev_global {x : Str} {pos : Pos} {v : Value} {mg : Str → Option Value} (hk : env.scope.kind = .function) (hx : env.kindOf x = some .globalImplicit) (hg : env.globals = mainGlobals)
    (h1 : h.Ns mainGlobals mg) (hv : mg x = some v) (hd : (x == ("__debug__" : Str)) = false := by decide) : Ev w A env h (.Name x pos) (· = v) := fun s _ _ hs hq => by
  subst hs
  exact ⟨Name_function_global hk hx (loadGlobal_global (hg ▸ h1) hv (hq v s.toks rfl)) hd⟩

theorem src_range1 {rp rpos : Pos} {e : Expr} {N : Nat} (hh : A.handled = none) (hr : Ev w A env h (.Name "range" rp) (· = .type "range")) (he : Ev w A env h e (IsI N)) (hN : (N : Int) < 2 ^ 62)
    (hse : backTo rpos (starEach [e] env) = [(false, eval e env)] := by rfl) : Src w A env h (.Call (.Name "range" rp) [e] [] rpos) [] N (fun i v => IsI i v) := fun s E K hs hK => by
  refine ⟨wpAny_Call_NameR (Wp.run (hr s E _ hs fun f k hf => ?_))⟩
  subst hf
  rw [hse]
  refine PyProof.Rows.callWith_type rfl (Calls.evalArgs_plain (Calls.spliced_cons (Wp.run (he _ E _ hs fun x k' hx => Calls.spliced_nil ?_))))
  obtain ⟨t, rfl⟩ := hx
  subst hs
  refine call_range_1 ?_
  refine wpAny_pyIter_range (IsRange.new ..) (small_one (by decide) (by decide) (by omega) hN) ?_
  have hsz : Builtin.Range.rangeSize 0 N 1 = (N : Int) := by rw [rangeSize_one]; split <;> omega
  have W := Walks.range (prog := P) (w := w) hh (s.heap.push { cls := .type "range", data := .fields #[.int 0 k', .int N t, .int 1 (k' + 1)] }).objs.size 0 1 N
  have e0 : (fun (i : Nat) (v : Value) => ∃ t, v = Value.int (0 + (i : Int) * 1) t) = fun (i : Nat) (v : Value) => IsI i v := by
    funext i v; simp [IsI]
  rw [e0] at W
  refine hK _ _ _ _ _ ((Sub.push _ _).trans (Sub.push _ _)) W ?_ (fun b hb => ?_) (by rw [Heap.size_push]; exact Nat.le_succ _) (fun b hb => .inl (List.mem_singleton.mp hb))
  · have e1 : (0 + ((0 : Nat) : Int) * 1) = 0 := by simp
    have e2 : ((N : Int) - ((0 : Nat) : Int)) = Builtin.Range.rangeSize 0 N 1 := by rw [hsz]; simp
    rw [e1, e2]
    exact Heap.get?_push_size _ rfl
  · rw [List.mem_singleton.mp hb, Heap.size_push (h := Heap.push _ _)]; exact Nat.lt_succ_self _
theorem src_range2 {rp rpos : Pos} {e1 e2 : Expr} {a b : Int} {N : Nat} (hh : A.handled = none) (hr : Ev w A env h (.Name "range" rp) (· = .type "range")) (he1 : Ev w A env h e1 (IsI a)) (he2 : Ev w A env h e2 (IsI b)) (ha : 0 ≤ a) (hb : b = a + N) (hN : b < 2 ^ 62)
    (hse : backTo rpos (starEach [e1, e2] env) = [(false, eval e1 env), (false, eval e2 env)] := by rfl) : Src w A env h (.Call (.Name "range" rp) [e1, e2] [] rpos) [] N (fun i v => IsI (a + i) v) := fun s E K hs hK => by
  refine ⟨wpAny_Call_NameR (Wp.run (hr s E _ hs fun f k hf => ?_))⟩
  subst hf
  rw [hse]
  refine PyProof.Rows.callWith_type rfl (Calls.evalArgs_plain (Calls.spliced_cons (Wp.run (he1 _ E _ hs fun x k' hx => Calls.spliced_cons (Wp.run (he2 _ E _ hs fun y k'' hy => Calls.spliced_nil ?_))))))
  obtain ⟨t, rfl⟩ := hx
  obtain ⟨u, rfl⟩ := hy
  subst hs
  refine call_range_2 ?_
  refine wpAny_pyIter_range (IsRange.new ..) (small_one (by omega) (by omega) (by omega) hN) ?_
  have hsz : Builtin.Range.rangeSize a b 1 = (N : Int) := by rw [rangeSize_one]; split <;> omega
  have W := Walks.range (prog := P) (w := w) hh (s.heap.push { cls := .type "range", data := .fields #[.int a t, .int b u, .int 1 k''] }).objs.size a 1 N
  have e0 : (fun (i : Nat) (v : Value) => ∃ t, v = Value.int (a + (i : Int) * 1) t) = fun (i : Nat) (v : Value) => IsI (a + i) v := by
    funext i v; simp [IsI]
  rw [e0] at W
  refine hK _ _ _ _ _ ((Sub.push _ _).trans (Sub.push _ _)) W ?_ (fun b hb => ?_) (by rw [Heap.size_push]; exact Nat.le_succ _) (fun b hb => .inl (List.mem_singleton.mp hb))
  · have e1 : (a + ((0 : Nat) : Int) * 1) = a := by simp
    have e2 : ((N : Int) - ((0 : Nat) : Int)) = Builtin.Range.rangeSize a b 1 := by rw [hsz]; simp
    rw [e1, e2]
    exact Heap.get?_push_size _ rfl
  · rw [List.mem_singleton.mp hb, Heap.size_push (h := Heap.push _ _)]; exact Nat.lt_succ_self _

/-- a comprehension whose source, tests and element are known -/
theorem comp_ev {elt iter : Expr} {x : Str} {px : Pos} {ifs : List Expr} {scope : Scope} {cl : List (Str × Addr)} {pos : Pos} {srcs : List Addr} {n : Nat} {Pv : Nat → Value → Prop} (p : Value → Bool) (F : Value → Value → Prop)
    (src : Src w A env h iter srcs n Pv) (hn : n ≤ sizeLine) (hclos : closureFor scope env = pure cl) (hcell : ∀ y ∈ scope.names, y.2 ≠ .cell) (hkind : scope.kind = .function)
    (hnames : ∀ y ∈ scope.names, y.2 = .local → scope.names.lookup y.1 = some .local) (hx : scope.names.lookup x = some .local)
    (htests : ∀ C i v (s₃ : Shared) m₃ (E' : Value → Shared → Prop), Pv i v → s₃.heap.Ns C m₃ → m₃ x = some v → Sub h s₃.heap →
      wpAny (model P w) A (forIn ifs true fun c r => if r = true then do let ok ← isTrue c (compEnvC scope cl C env) (eval c (compEnvC scope cl C env)); pure (ForInStep.yield ok) else pure (ForInStep.yield r)) (fun ok s₄ => ok = p v ∧ Keeps s₃ s₄) E' s₃)
    (helt : ∀ C i v h₃ m₃, Pv i v → p v = true → h₃.Ns C m₃ → m₃ x = some v → Sub h h₃ → EvK w A (compEnvC scope cl C env) h₃ elt (fun y _ => F v y))
    (hs : ∀ x, foldedSetIterable iter env x = pure x := by intro _; rfl) :
    EvK w A env h (.ListComp elt [⟨.Name x px, iter, ifs, 0⟩] scope pos) (fun y h' => ∃ (D : Addr) (ys : Array Value) (vs : List Value), y = .ref D ∧ h.get? D = none ∧ h'.PlainList D ys ∧ vs.length = n ∧ (∀ j v, vs[j]? = some v → Pv j v) ∧ Paired F (vs.filter p) ys.toList) := fun s E Q hsh hq => by
  subst hsh
  refine ⟨wpAny_ListComp_free p F hclos hcell hkind hnames hx (Wp.run (src s E _ rfl fun I fp St h₂ k₂ hsub W hst hfp hI _ => ?_)) hs⟩
  have off : ∀ (b : Addr) (o : Obj), s.heap.get? b = some o → b ∉ [I] := fun b o e hb => by
    have := Heap.lt_size e
    rw [List.mem_singleton.mp hb] at this
    exact absurd this (Nat.not_lt.mpr hI)
  refine ⟨I, fp, [I], n, Pv, St, rfl, W, hn, hst, hfp, ⟨fun C i v s₃ m₃ E' _ hP hns hm hk _ => htests C i v s₃ m₃ E' hP hns hm fun b o e => hk b o (off b o e) (hsub b o e),
    fun C i v s₃ m₃ E' _ hP hp hns hm hk _ => (Wp.run (helt C i v s₃.heap m₃ hP hp hns hm (fun b o e => hk b o (off b o e) (hsub b o e)) s₃ E' _ rfl fun y h' k' hs' hF => ⟨hF, h', k', rfl, hs'⟩))⟩, fun D h' tk ys vs hD hl hpl hlen hP hF hk => ?_⟩
  have hDn : s.heap.get? D = none := by
    cases e : s.heap.get? D with
    | none => rfl
    | some o => have := hsub D o e; rw [hD] at this; cases this
  refine hq _ h' tk (fun b o e => hk b o (off b o e) (hsub b o e)) ⟨D, ys, vs, rfl, hDn, hpl, hlen, hP, hF⟩
end
end Mine
end PartQ1
section PartQ2
open PySem PySem.W PyProof.Rows PySem.Calls
set_option maxRecDepth 100000
set_option linter.unusedVariables false
namespace Mine

def up (m : Str → Option Value) (x : Str) (v : Value) : Str → Option Value := fun y => if y = x then some v else m y

/-- the frame over what stays as it is (gh) -/
structure Fm (gh : Heap) (env : Env) (h : Heap) (m cm : Str → Option Value) : Prop where
  loc : Loc env h m cm
  base : Sub gh h
  off : gh.get? env.locals = none
  coff : ∀ p ∈ env.cells, gh.get? p.2 = none
  apart : env.cells.Pairwise fun x y => x.2 ≠ y.2
  look : ∀ p ∈ env.cells, env.cells.lookup p.1 = some p.2

section
variable {w : World} {A : Around} {env : Env} {gh h h' : Heap} {m cm : Str → Option Value}

theorem Fm.mono (F : Fm gh env h m cm) (k : Sub h h') : Fm gh env h' m cm := ⟨F.loc.mono k, F.base.trans k, F.off, F.coff, F.apart, F.look⟩
theorem Ns.ne_cell {L c : Addr} {v : Option Value} (hn : h.Ns L m) (hc : h.IsCell c v) : c ≠ L := by
  rintro rfl
  obtain ⟨o, es, ep, h1, h2, _⟩ := hn
  obtain ⟨o', h3, h4⟩ := hc
  rw [h1] at h3; cases h3; rw [h2] at h4; cases h4
theorem Ns.ne_list {L a : Addr} {items : Array Value} (hn : h.Ns L m) (hc : h.IsList a items) : a ≠ L := by
  rintro rfl
  obtain ⟨o, es, ep, h1, h2, _⟩ := hn
  obtain ⟨o', h3, _, n, h4⟩ := hc
  rw [h1] at h3; cases h3; rw [h2] at h4; cases h4
theorem Cell.ne_list {c a : Addr} {v : Option Value} {items : Array Value} (hn : h.IsCell c v) (hc : h.IsList a items) : a ≠ c := by
  rintro rfl
  obtain ⟨o, h1, h2⟩ := hn
  obtain ⟨o', h3, _, n, h4⟩ := hc
  rw [h1] at h3; cases h3; rw [h2] at h4; cases h4
theorem Fm.setLocal (F : Fm gh env h m cm) {x : Str} {v : Value} (hn : h'.Ns env.locals (up m x v)) (hs : Heap.SameBut env.locals h h') : Fm gh env h' (up m x v) cm :=
  ⟨⟨F.loc.kind, hn, fun n c e => (F.loc.cells n c e).sameBut hs (Ns.ne_cell F.loc.ns (F.loc.cells n c e))⟩,
   fun b o e => hs.extBut b o (fun q => by rw [q, F.off] at e; cases e) (F.base b o e), F.off, F.coff, F.apart, F.look⟩
theorem Fm.setCell (F : Fm gh env h m cm) {x : Str} {v : Value} {c : Addr} (hc : env.cells.lookup x = some c) (hn : h'.IsCell c (some v)) (hs : Heap.SameBut c h h') : Fm gh env h' m (up cm x v) :=
  ⟨⟨F.loc.kind, F.loc.ns.sameBut hs (Ne.symm (Ns.ne_cell F.loc.ns (F.loc.cells x c hc))), fun n c' e => by
      unfold up
      by_cases hx : n = x
      · subst hx; rw [hc] at e; cases e; simpa using hn
      · rw [if_neg hx]; exact (F.loc.cells n c' e).sameBut hs fun q => hx (name_of_addr F.apart (mem_of_lookup e) (q ▸ mem_of_lookup hc))⟩,
   fun b o e => hs.extBut b o (fun q => by rw [q, F.coff _ (mem_of_lookup hc)] at e; cases e) (F.base b o e), F.off, F.coff, F.apart, F.look⟩
theorem Fm.g (F : Fm gh env h m cm) (g : G w gh) : G w h := g.mono F.base

/-- what is not turned may be laid below -/
theorem Fm.grow (F : Fm gh env h m cm) (D : List Addr) : Fm (hideAll h (env.locals :: (env.cells.map (·.2) ++ D))) env h m cm ∧ ((∀ d ∈ D, gh.get? d = none) → Sub gh (hideAll h (env.locals :: (env.cells.map (·.2) ++ D)))) := by
  refine ⟨⟨F.loc, fun b o e => of_hideAll _ e, hideAll_none _ List.mem_cons_self, fun p e => hideAll_none _ (List.mem_cons_of_mem _ (List.mem_append_left _ (List.mem_map.mpr ⟨_, e, rfl⟩))), F.apart, F.look⟩, fun hD b o e => ?_⟩
  refine hideAll_get _ (F.base b o e) fun hm => ?_
  rcases List.mem_cons.mp hm with rfl | hm
  · rw [F.off] at e; cases e
  · rcases List.mem_append.mp hm with hm | hm
    · obtain ⟨p, hq, rfl⟩ := List.mem_map.mp hm
      rw [F.coff _ hq] at e; cases e
    · rw [hD _ hm] at e; cases e
theorem hide_list {D : List Addr} {a : Addr} {xs : List Str} (x : LS h a xs) (hn : a ∉ D) : LS (hideAll h D) a xs := x.at fun o e => hideAll_get _ e hn
theorem hide_ints {D : List Addr} {a : Addr} {xs : List Int} (x : LI h a xs) (hn : a ∉ D) : LI (hideAll h D) a xs := x.at fun o e => hideAll_get _ e hn

theorem ex_seq {s : Shared} {E : Value → Shared → Prop} {Q : Flow → Shared → Prop} {st : Stmt} {rest : List Stmt}
    (h : wpAny (model P w) A (exec st env) (fun f s' => match f with | .next => Wp w A (execs rest env) Q E s' | f => Q f s') E s) : Wp w A (execs (st :: rest) env) Q E s :=
  ⟨wpAny_execs_cons (wpAny_mono h (fun f s' hf => by cases f <;> first | exact hf.run | exact hf) fun _ _ x => x)⟩
theorem ex_nil {s : Shared} {E : Value → Shared → Prop} {Q : Flow → Shared → Prop} (h : Q .next s) : Wp w A (execs [] env) Q E s := ⟨wpAny_execs_nil h⟩
theorem ex_assign {s : Shared} {E : Value → Shared → Prop} {Q : Flow → Shared → Prop} {x : Str} {px pos : Pos} {value : Expr} {rest : List Stmt} {V : Value → Heap → Prop} (F : Fm gh env s.heap m cm) (hl : env.kindOf x = some .local)
    (hv : EvK w A env s.heap value V) (hq : ∀ v h₁ h₂ k, Sub s.heap h₁ → V v h₁ → Heap.SameBut env.locals h₁ h₂ → Fm gh env h₂ (up m x v) cm → Wp w A (execs rest env) Q E { s with heap := h₂, toks := k })
    (hsw : swapsWith value (some (.Name x px)) pos.line env = pure false := by rfl) : Wp w A (execs (.Assign [.Name x px] value pos :: rest) env) Q E s :=
  ex_seq (wpAny_Assign_Name (Wp.run (hv s E _ rfl fun v h₁ k hs hV => wpAny_storeName_local hl (F.mono hs).loc.ns (fun h₂ hn₂ hs₂ => hq v h₁ h₂ _ hs hV hs₂ ((F.mono hs).setLocal hn₂ hs₂)) (by rw [F.loc.kind]; rfl))) hsw)
theorem ex_assignC {s : Shared} {E : Value → Shared → Prop} {Q : Flow → Shared → Prop} {x : Str} {px pos : Pos} {value : Expr} {rest : List Stmt} {V : Value → Heap → Prop} {c : Addr} (F : Fm gh env s.heap m cm) (hl : env.kindOf x = some .cell) (hc : env.cells.lookup x = some c)
    (hv : EvK w A env s.heap value V) (hq : ∀ v h₁ h₂ k, Sub s.heap h₁ → V v h₁ → Heap.SameBut c h₁ h₂ → Fm gh env h₂ m (up cm x v) → Wp w A (execs rest env) Q E { s with heap := h₂, toks := k })
    (hsw : swapsWith value (some (.Name x px)) pos.line env = pure false := by rfl) : Wp w A (execs (.Assign [.Name x px] value pos :: rest) env) Q E s :=
  ex_seq (wpAny_Assign_Name (Wp.run (hv s E _ rfl fun v h₁ k hs hV => wpAny_storeName_cell F.loc.kind hl hc ((F.mono hs).loc.cells x c hc) (fun h₂ hn₂ hs₂ => hq v h₁ h₂ _ hs hV hs₂ ((F.mono hs).setCell hc hn₂ hs₂)))) hsw)
theorem ex_return {s : Shared} {E : Value → Shared → Prop} {Q : Flow → Shared → Prop} {pos : Pos} {value : Expr} {rest : List Stmt} {V : Value → Heap → Prop}
    (hv : EvK w A env s.heap value V) (hq : ∀ v h₁ k, Sub s.heap h₁ → V v h₁ → Q (.ret v) { s with heap := h₁, toks := k }) : Wp w A (execs (.Return (some value) pos :: rest) env) Q E s :=
  ex_seq (wpAny_Return_some (Wp.run (hv s E _ rfl hq)))

/-- calls -/
def CallK (w : World) (A : Around) (s : Shared) (f : Value) (vals : List Value) (V : Value → Heap → Prop) : Prop :=
  ∀ (E : Value → Shared → Prop) (Q : Value → Shared → Prop), (∀ v h' k, Sub s.heap h' → V v h' → Q v { s with heap := h', toks := k }) → Wp w A (call f vals) Q E s

theorem call_fn {i : Nat} {a : Addr} {vals : List Value} {binds : List (Str × Value)} {V : Value → Heap → Prop} {s : Shared} (x : FnAt s.heap a i) (lim : s.heap.NoLimit) (room : A.depth < recursionLimit)
    (hb : ∀ nm q doc pm an cdv ct, bindArgs (fnOf nm q (paramsOf i) (bodyOf i) (scopeOf i) .none .none doc pm an cdv ct) ⟨vals, []⟩ = pure binds)
    (hkind : (binds.all fun y => (scopeOf i).names.lookup y.1 == some .local || (scopeOf i).names.lookup y.1 == some .cell) = true)
    (hco : (scopeOf i).isCoroutine = false) (hgen : (scopeOf i).isGenerator = false) (hk : (scopeOf i).kind = .function)
    (body : ∀ q cdv (s₁ : Shared) (E' : Value → Shared → Prop), Keeps s s₁ → Fm s.heap (envOfC q (scopeOf i) s.heap.objs.size a cdv) s₁.heap (bindL (envOfC q (scopeOf i) s.heap.objs.size a cdv).kindOf binds fun _ => none) (bindC (envOfC q (scopeOf i) s.heap.objs.size a cdv).kindOf binds fun _ => none) →
      Wp w (A.deeper (envOfC q (scopeOf i) s.heap.objs.size a cdv)) (execs (bodyOf i) (envOfC q (scopeOf i) s.heap.objs.size a cdv)) (fun f s' => ∃ v, f = .ret v ∧ Keeps s s' ∧ V v s'.heap) E' s₁)
    (hlook : ∀ L, ∀ p ∈ cellsFrom (L + 1) (scopeOf i).names [], (cellsFrom (L + 1) (scopeOf i).names []).lookup p.1 = some p.2 := by intro L p hp; first | (cases hp; done) | (rcases List.mem_cons.mp hp with e | hp; (subst e; rfl); cases hp; done) | (rcases List.mem_cons.mp hp with e | hp; (subst e; rfl); rcases List.mem_cons.mp hp with e | hp; (subst e; rfl); cases hp; done)) :
    CallK w A s (.ref a) vals V := fun E Q hq => by
  obtain ⟨o, nm, q, doc, pm, an, cdv, ct, h1, h2, h3⟩ := x.ex
  refine ⟨wpAny_call (codeAny_call_cells room h1 h2 lim h3 rfl (hb nm q doc pm an cdv ct) rfl (kindsX hkind _) (fun s₁ X => ?_) hco hgen hk)⟩
  obtain ⟨h₁, tk₁, e₁⟩ := X.toInCall.same
  refine wpAny_mono (Wp.run (body q cdv s₁ _ ⟨h₁, tk₁, e₁, ?_⟩ ⟨⟨hk, X.toInCall.ns, fun n c e => X.cell n c e⟩, X.toInCall.keep, Heap.get?_none_of_le (Nat.le_refl _), fun p e => Heap.get?_none_of_le (Nat.le_of_lt (X.above p.1 p.2 e)), X.apart, hlook _⟩)) (fun f s' hf => ?_) fun _ _ z => z
  · subst e₁; exact X.toInCall.keep
  · obtain ⟨v, rfl, ⟨h', k, rfl, hk'⟩, hV⟩ := hf
    exact hq v h' k hk' hV
end
end Mine
end PartQ2
section PartQ3
open PySem PySem.W PyProof.Rows PySem.Calls
set_option maxRecDepth 100000
set_option linter.unusedVariables false
namespace Mine

section
variable {w : World} {A : Around} {env : Env} {gh h h' : Heap} {m cm : Str → Option Value}

/-- displays -/
def Evs (w : World) (A : Around) (env : Env) (h : Heap) (pos : Pos) (elts : List Expr) (R : List Value → Prop) : Prop :=
  ∀ (s : Shared) (E : Value → Shared → Prop) (Q : List Value → Shared → Prop), s.heap = h → (∀ vs k, R vs → Q vs { s with toks := k }) → Wp w A (spliced (backTo pos (starEach elts env))) Q E s
theorem evs_nilP {pos : Pos} {α : Type} {F : α → Value → Prop} : Evs w A env h pos [] (Paired F []) := fun s E Q hs hq => ⟨wpAny_items_nil (hq [] s.toks .nil)⟩
theorem evs_consP {pos : Pos} {e : Expr} {rest : List Expr} {α : Type} {F : α → Value → Prop} {x : α} {xs : List α} (he : Ev w A env h e (F x)) (hr : Evs w A env h pos rest (Paired F xs))
    (hst : starEach (e :: rest) env = (false, eval e env) :: starEach rest env := by rfl) : Evs w A env h pos (e :: rest) (Paired F (x :: xs)) := fun s E Q hs hq =>
  ⟨wpAny_items_cons (Wp.run (he s E _ hs fun v k hv => Wp.run (hr _ E _ hs fun vs k' hvs => hq _ k' (.cons hv hvs)))) hst⟩
theorem evk_tuple {pos : Pos} {n : Nat} {elts : List Expr} {xs : List Str} (he : Evs w A env h pos elts (Paired IsS xs)) (hx : xs.length ≤ sizeLine) :
    EvK w A env h (.Tuple elts n pos) (fun v h' => ∃ a, v = .ref a ∧ h.get? a = none ∧ TS h' a xs) := fun s E Q hs hq => by
  subst hs
  refine ⟨wpAny_Tuple (Wp.run (he s E _ rfl fun vs k hvs => ⟨by rw [← hvs.length]; exact hx, hq _ _ _ (Sub.push _ _) ⟨_, rfl, Heap.get?_none_of_le (Nat.le_refl _), vs, _, Heap.get?_push_size _ rfl, hvs⟩⟩))⟩
theorem evk_list {pos : Pos} {elts : List Expr} {R : List Value → Prop} (he : Evs w A env h pos elts R) (hx : ∀ vs, R vs → vs.length ≤ sizeLine) :
    EvK w A env h (.List elts pos) (fun v h' => ∃ a vs, v = .ref a ∧ h.get? a = none ∧ h'.PlainList a (List.toArray vs) ∧ R vs) := fun s E Q hs hq => by
  subst hs
  refine ⟨wpAny_List (Wp.run (he s E _ rfl fun vs k hvs => ⟨hx vs hvs, hq _ _ _ (Sub.push _ _) ⟨_, vs, rfl, Heap.get?_none_of_le (Nat.le_refl _), ⟨_, Heap.get?_push_size _ rfl⟩, hvs⟩⟩))⟩

/-- tests -/
def TstK (w : World) (A : Around) (env : Env) (h : Heap) (e : Expr) (b : Bool) : Prop :=
  ∀ (s : Shared) (E : Value → Shared → Prop) (Q : Bool → Shared → Prop), s.heap = h → (∀ h' k, Sub h h' → Q b { s with heap := h', toks := k }) → Wp w A (isTrue e env (eval e env)) Q E s
theorem tst_cmp {l r : Expr} {op : CmpOp} {pos : Pos} {V1 V2 : Value → Prop} {b : Bool} (hl : Ev w A env h l V1) (hr : Ev w A env h r V2)
    (hop : ∀ x y (s : Shared) (E : Value → Shared → Prop) (Q : Value → Shared → Prop), s.heap = h → V1 x → V2 y → Q (.bool b) s → wpAny (model P w) A (compareOp op x y) Q E s)
    (hm : behindInMarks op r = false := by with_unfolding_all rfl) : TstK w A env h (.Compare l [op] [r] pos) b := fun s E Q hs hq => by
  subst hs
  exact ⟨wpAny_isTrue_Compare1 (Wp.run (hl s E _ rfl fun x k hx => Wp.run (hr _ E _ rfl fun y k' hy => hop x y _ E _ rfl hx hy (wpAny_truthy_bool (hq _ k' (Sub.refl _)))))) hm⟩
theorem tst_lt {l r : Expr} {pos : Pos} {a b : Int} (hl : Ev w A env h l (IsI a)) (hr : Ev w A env h r (IsI b)) (hm : behindInMarks .Lt r = false := by with_unfolding_all rfl) : TstK w A env h (.Compare l [.Lt] [r] pos) (decide (a < b)) :=
  tst_cmp hl hr (fun x y s E Q _ ⟨t, hx⟩ ⟨u, hy⟩ hq => by subst hx; subst hy; exact wpAny_lt_int hq) hm
theorem tst_eq {l r : Expr} {pos : Pos} {a b : Int} (hl : Ev w A env h l (IsI a)) (hr : Ev w A env h r (IsI b)) (hm : behindInMarks .Eq r = false := by with_unfolding_all rfl) : TstK w A env h (.Compare l [.Eq] [r] pos) (a == b) :=
  tst_cmp hl hr (fun x y s E Q _ ⟨t, hx⟩ ⟨u, hy⟩ hq => by subst hx; subst hy; exact PyProof.Rows.eq_int hq) hm
theorem ex_if {s : Shared} {E : Value → Shared → Prop} {Q : Flow → Shared → Prop} {test : Expr} {body orelse rest : List Stmt} {pos : Pos} {b : Bool} (ht : TstK w A env s.heap test b)
    (hq : ∀ h' k, Sub s.heap h' → Wp w A (execs (if b = true then body else orelse) env) (fun f s' => match f with | .next => Wp w A (execs rest env) Q E s' | f => Q f s') E { s with heap := h', toks := k }) :
    Wp w A (execs (.If test body orelse pos :: rest) env) Q E s := by
  refine ex_seq (wpAny_If (Wp.run (ht s E _ rfl fun h' k hs => ?_)))
  have := hq h' k hs
  cases b <;> exact this.run
/-- a test that fails, nothing in its else -/
theorem ex_ifF {s : Shared} {E : Value → Shared → Prop} {Q : Flow → Shared → Prop} {test : Expr} {body rest : List Stmt} {pos : Pos} (ht : TstK w A env s.heap test false)
    (hq : ∀ h' k, Sub s.heap h' → Wp w A (execs rest env) Q E { s with heap := h', toks := k }) : Wp w A (execs (.If test body [] pos :: rest) env) Q E s :=
  ex_if ht fun h' k hs => ex_nil (hq h' k hs)

theorem ev_strItem {value slice : Expr} {pos : Pos} {x : Str} {k : Int} (hv : Ev w A env h value (IsS x)) (hi : Ev w A env h slice (IsI k)) (hr : fitsSsize k = true) (hin : (Txt.charAt x k).isSome = true)
    (hs : ∀ t u, subscripted slice false (.str x t) (.int k u) = operate [.str x t, .int k u] (getItem (.str x t) (.int k u)) := by intro _ _; with_unfolding_all rfl) : Ev w A env h (.Subscript value slice pos) (IsS (Txt.item x k)) := fun s E Q hsh hq =>
  ⟨Subscript_ (Wp.run (hv s E _ hsh fun o k1 ho => Wp.run (hi _ E _ hsh fun i k2 hi' => by
    obtain ⟨u, rfl⟩ := hi'
    obtain ⟨t, rfl⟩ := ho
    exact tail_any (T := "str") (typeIs_str _ _ _) F.slot_str_getitem.lookup (SB.getItem hr hin (hq _ _ ⟨_, rfl⟩)) (hs t u))))⟩
end

def names10 : List Str := ["OPTIMIZED", "NEWLOCALS", "VARARGS", "VARKEYWORDS", "NESTED", "GENERATOR", "NOFREE", "COROUTINE", "ITERABLE_COROUTINE", "ASYNC_GENERATOR"]
def wordS (p : Nat) : Str := if p < 10 then names10.getD p Str.empty else (("0x" : Str) ++ Txt.item "1248" ((p : Int).fmod 4)) ++ Txt.mul "0" ((p : Int).fdiv 4)

theorem word_cases : ∀ p : Fin 32, (p.1 < 10 → names10[p.1]? = some (wordS p.1)) ∧ fitsSsize ((p.1 : Int).fmod 4) = true ∧ (Txt.charAt "1248" ((p.1 : Int).fmod 4)).isSome = true ∧ (Txt.item "1248" ((p.1 : Int).fmod 4)).length ≤ 1 ∧ (Txt.mul "0" ((p.1 : Int).fdiv 4)).length ≤ 7 ∧ (0 : Int) ≤ (p.1 : Int).fdiv 4 ∧ (p.1 : Int).fdiv 4 ≤ 8 := by decide +kernel
theorem mulOk_small {x : Str} {n : Int} (h0 : 0 ≤ n) (h1 : n ≤ 1000) (hx : x.length ≤ 1000) : MulOk x n := by
  have e1 : ¬ (n < -(2 ^ 63 : Int)) := by omega
  have e2 : ¬ (n ≥ (2 ^ 63 : Int)) := by omega
  refine ⟨by simp only [e1, e2, decide_false, Bool.or_self], fun hn _ hgt => ?_, fun hn _ => ?_⟩
  · have hn1 : 1 ≤ n := by omega
    have h2 : (x.length : Int) * n ≤ 1000 * 1000 := Int.mul_le_mul (by omega) h1 h0 (by omega)
    have h3 : (x.length : Int) ≤ (2 ^ 63 - 1) / n := (Int.le_ediv_iff_mul_le (by omega)).mpr (by omega)
    omega
  · have h2 : x.length * n.toNat ≤ 1000 * 1000 := Nat.mul_le_mul hx (by omega)
    unfold Builtin.Str.tooLong
    have h4 : sizeLine = 16777216 := by decide
    simp only [decide_eq_false_iff_not]
    omega
theorem TS.same {h h' : Heap} {L a : Addr} {xs : List Str} {m : Str → Option Value} (x : TS h a xs) (hn : h.Ns L m) (hs : Heap.SameBut L h h') : TS h' a xs := by
  obtain ⟨ys, n, h1, p⟩ := x
  obtain ⟨o', es, ep, h4, h5, _⟩ := hn
  have hne : a ≠ L := by rintro rfl; rw [h1] at h4; cases h4; cases h5
  exact ⟨ys, n, hs.extBut a _ hne h1, p⟩
theorem LS.same {h h' : Heap} {L a : Addr} {xs : List Str} {m : Str → Option Value} (x : LS h a xs) (hn : h.Ns L m) (hs : Heap.SameBut L h h') : LS h' a xs := by
  obtain ⟨ys, l, p⟩ := x
  exact ⟨ys, l.at fun o e => hs.extBut a o (Ns.ne_list hn l) e, p⟩
theorem LI.same {h h' : Heap} {L a : Addr} {xs : List Int} {m : Str → Option Value} (x : LI h a xs) (hn : h.Ns L m) (hs : Heap.SameBut L h h') : LI h' a xs := by
  obtain ⟨ys, l, p⟩ := x
  exact ⟨ys, l.at fun o e => hs.extBut a o (Ns.ne_list hn l) e, p⟩
theorem LS.sameC {h h' : Heap} {c a : Addr} {xs : List Str} {v : Option Value} (x : LS h a xs) (hn : h.IsCell c v) (hs : Heap.SameBut c h h') : LS h' a xs := by
  obtain ⟨ys, l, p⟩ := x
  exact ⟨ys, l.at fun o e => hs.extBut a o (Cell.ne_list hn l) e, p⟩
theorem LI.sameC {h h' : Heap} {c a : Addr} {xs : List Int} {v : Option Value} (x : LI h a xs) (hn : h.IsCell c v) (hs : Heap.SameBut c h h') : LI h' a xs := by
  obtain ⟨ys, l, p⟩ := x
  exact ⟨ys, l.at fun o e => hs.extBut a o (Cell.ne_list hn l) e, p⟩
theorem keeps_to {s s₁ s' : Shared} (hk : Keeps s s₁) (hb : Sub s.heap s'.heap) (he : ∃ h k, s' = { s₁ with heap := h, toks := k }) : Keeps s s' := by
  obtain ⟨h', k', rfl, _⟩ := hk
  obtain ⟨h, k, rfl⟩ := he
  exact ⟨h, k, rfl, hb⟩
theorem c_word {w : World} {A : Around} {s : Shared} {p : Nat} {t : Tok} (g : G w s.heap) (room : A.depth < recursionLimit) (hp : p < 32) : CallK w A s (.ref 43) [.int p t] (fun v _ => IsS (wordS p) v) := by
  refine call_fn (binds := [("place", .int p t)]) g.word g.lim room (fun _ _ _ _ _ _ _ => rfl) rfl rfl rfl rfl fun q cdv s₁ E' hk F => ?_
  generalize hen : envOfC q (scopeOf 7) s.heap.objs.size 43 cdv = env at F ⊢
  have kP : env.kindOf "place" = some .local := by rw [← hen]; rfl
  have kN : env.kindOf "named" = some .local := by rw [← hen]; rfl
  have vP : bindL env.kindOf [("place", .int p t)] (fun _ => none) "place" = some (.int p t) := by rw [← hen]; rfl
  have wc := word_cases ⟨p, hp⟩
  dsimp only at wc
  obtain ⟨w1, w2, w3, w4, w5, w6, w7⟩ := wc
  refine ex_assign F kN (evk_tuple (evs_consP ev_str (evs_consP ev_str (evs_consP ev_str (evs_consP ev_str (evs_consP ev_str (evs_consP ev_str (evs_consP ev_str (evs_consP ev_str (evs_consP ev_str (evs_consP ev_str evs_nilP)))))))))) (by decide)) ?_
  intro v h₁ h₂ k hs ⟨a, hv, ha, hT⟩ hsb F₂
  subst hv
  have vN : up (bindL env.kindOf [("place", .int p t)] (fun _ => none)) "named" (.ref a) "named" = some (.ref a) := rfl
  have vP' : up (bindL env.kindOf [("place", .int p t)] (fun _ => none)) "named" (.ref a) "place" = some (.int p t) := vP
  have eP : ∀ {A : Around} {pos : Pos}, Ev w A env h₂ (.Name "place" pos) (IsI p) := (ev_local F₂.loc kP vP').mono fun v hv => ⟨t, hv⟩
  have hT₂ : TS h₂ a names10 := hT.same (F.mono hs).loc.ns hsb
  refine ex_if (tst_lt eP ev_int) fun h₃ k₃ hs₃ => ?_
  have F₃ := F₂.mono hs₃
  have eP : ∀ {A : Around} {pos : Pos}, Ev w A env h₃ (.Name "place" pos) (IsI p) := (ev_local F₃.loc kP vP').mono fun v hv => ⟨t, hv⟩
  by_cases h10 : p < 10
  · rw [if_pos (by simpa using (by omega : (p : Int) < 10))]
    refine ex_return (Ev.k (ev_item_T (ev_local F₃.loc kN vN) eP (hT₂.mono hs₃) (by omega) (by omega) (by simpa using w1 h10))) fun v h₄ k₄ hs₄ hv => ?_
    exact ⟨v, rfl, keeps_to hk (F₃.base.trans hs₄) ⟨_, _, rfl⟩, hv⟩
  · rw [if_neg (by simpa using (by omega : ¬ (p : Int) < 10))]
    refine ex_nil ?_
    have e4 : wordS p = (("0x" : Str) ++ Txt.item "1248" ((p : Int).fmod 4)) ++ Txt.mul "0" ((p : Int).fdiv 4) := by unfold wordS; rw [if_neg h10]
    have l1 : (("0x" : Str)).length = 2 := by decide
    have l4 : sizeLine = 16777216 := by decide
    refine ex_return (Ev.k (ev_adds (ev_adds ev_str (ev_strItem ev_str (ev_mod eP ev_int (by decide)) w2 w3) (by rw [l1, l4]; omega)) (ev_muls ev_str (ev_fdiv eP ev_int (by decide) (PyProof.noPylong_small (by decide))) (mulOk_small w6 (by omega) (by decide))) (by rw [Str.length_append, l1, l4]; omega))) fun v h₄ k₄ hs₄ hv => ?_
    exact ⟨v, rfl, keeps_to hk (F₃.base.trans hs₄) ⟨_, _, rfl⟩, e4 ▸ hv⟩
end Mine
end PartQ3
section PartQ4
open PySem PySem.W PyProof.Rows PySem.Calls
set_option maxRecDepth 100000
set_option linter.unusedVariables false
namespace Mine

theorem Walks.bdd {w : World} {A : Around} {I : Addr} {fp wr : List Addr} {n : Nat} {Pv : Nat → Value → Prop} {St : Nat → Heap → Prop} (W : Walks P w A I fp wr n Pv St) : Walks P w A I fp wr n (fun i v => i < n ∧ Pv i v) St where
  sub := W.sub
  frame := W.frame
  item := fun i s Q E hi st hQ => W.item i s Q E hi st fun v h' tk hv => hQ v h' tk ⟨hi, hv⟩
  done := W.done
  self := W.self

theorem comp_out {κ α : Type} {K : κ → Value → Prop} {R : α → Value → Prop} {f : κ → α} {pk : κ → Bool} {p : Value → Bool} (hp : ∀ a v, K a v → p v = pk a) :
    ∀ {is : List κ} {vs : List Value}, Paired K is vs → ∀ {ys : List Value}, Paired (fun v y => ∀ a, K a v → R (f a) y) (vs.filter p) ys → Paired R ((is.filter pk).map f) ys
  | _, _, .nil, _, h => by cases h; exact .nil
  | _, _, .cons (a := a) (b := v) (l₁ := is) (l₂ := vs) hk t, ys, h => by
    rw [List.filter_cons] at h ⊢
    rw [hp a v hk] at h
    cases hpa : pk a with
    | true =>
      rw [hpa] at h
      simp only [if_true] at h ⊢
      cases h with
      | cons h1 h2 => exact .cons (h1 a hk) (comp_out hp t h2)
    | false =>
      rw [hpa] at h
      simp only [Bool.false_eq_true, if_false] at h ⊢
      exact comp_out hp t h
theorem paired_of_get {α β : Type} {F : α → β → Prop} : ∀ {l₁ : List α} {l₂ : List β}, l₁.length = l₂.length → (∀ (i : Nat) a b, l₁[i]? = some a → l₂[i]? = some b → F a b) → Paired F l₁ l₂
  | [], [], _, _ => .nil
  | a :: l₁, b :: l₂, hl, h => .cons (h 0 a b rfl rfl) (paired_of_get (by simpa using hl) fun i a b ha hb => h (i + 1) a b (by simpa using ha) (by simpa using hb))
theorem isI_inj (a b : Int) (v : Value) (h1 : IsI a v) (h2 : IsI b v) : a = b := by obtain ⟨t, rfl⟩ := h1; obtain ⟨u, h⟩ := h2; cases h; rfl
theorem isS_inj (a b : Str) (v : Value) (h1 : IsS a v) (h2 : IsS b v) : a = b := by obtain ⟨t, rfl⟩ := h1; obtain ⟨u, h⟩ := h2; cases h; rfl

section
variable {w : World} {A : Around} {env : Env} {gh h h' : Heap} {m cm : Str → Option Value}
theorem Src.bdd {iter : Expr} {srcs : List Addr} {n : Nat} {Pv : Nat → Value → Prop} (x : Src w A env h iter srcs n Pv) : Src w A env h iter srcs n (fun i v => i < n ∧ Pv i v) := fun s E K hs hK =>
  x s E K hs fun I fp St h' k h1 W h2 h3 h4 h5 => hK I fp St h' k h1 (Walks.bdd W) h2 h3 h4 h5

/-- the frame of a comprehension -/
theorem compLoc {C : Addr} {m₃ : Str → Option Value} {h₃ : Heap} {scope : Scope} {cl : List (Str × Addr)} (F : Loc env h m cm) (hcl : ∀ n c, (n, c) ∈ cl → env.cells.lookup n = some c) (hk : scope.kind = .function) (hns : h₃.Ns C m₃) (hs : Sub h h₃) : Loc (compEnvC scope cl C env) h₃ m₃ cm :=
  ⟨hk, hns, fun n c e => (F.cells n c (hcl n c (mem_of_lookup e))).keeps hs⟩

theorem comp_map {κ α : Type} {K : κ → Value → Prop} {R : α → Value → Prop} {elt iter : Expr} {x : Str} {px : Pos} {ifs : List Expr} {scope : Scope} {cl : List (Str × Addr)} {pos : Pos} {srcs : List Addr} {Pv : Nat → Value → Prop} (f : κ → α) (pk : κ → Bool) (p : Value → Bool) (is : List κ)
    (Kinj : ∀ a b v, K a v → K b v → a = b) (hp : ∀ a v, K a v → p v = pk a) (src : Src w A env h iter srcs is.length Pv) (hK : ∀ (i : Nat) v a, Pv i v → is[i]? = some a → K a v)
    (hn : is.length ≤ sizeLine) (hclos : closureFor scope env = pure cl) (hcell : ∀ y ∈ scope.names, y.2 ≠ .cell) (hkind : scope.kind = .function)
    (hnames : ∀ y ∈ scope.names, y.2 = .local → scope.names.lookup y.1 = some .local) (hx : scope.names.lookup x = some .local)
    (htests : ∀ C a v (s₃ : Shared) m₃ (E' : Value → Shared → Prop), a ∈ is → K a v → s₃.heap.Ns C m₃ → m₃ x = some v → Sub h s₃.heap →
      wpAny (model P w) A (forIn ifs true fun c r => if r = true then do let ok ← isTrue c (compEnvC scope cl C env) (eval c (compEnvC scope cl C env)); pure (ForInStep.yield ok) else pure (ForInStep.yield r)) (fun ok s₄ => ok = pk a ∧ Keeps s₃ s₄) E' s₃)
    (helt : ∀ C a v h₃ m₃, a ∈ is → K a v → pk a = true → h₃.Ns C m₃ → m₃ x = some v → Sub h h₃ → EvK w A (compEnvC scope cl C env) h₃ elt (fun y _ => R (f a) y))
    (hs : ∀ x, foldedSetIterable iter env x = pure x := by intro _; rfl) :
    EvK w A env h (.ListComp elt [⟨.Name x px, iter, ifs, 0⟩] scope pos) (fun y h' => ∃ (D : Addr) (ys : List Value), y = .ref D ∧ h.get? D = none ∧ h'.PlainList D ys.toArray ∧ Paired R ((is.filter pk).map f) ys) := by
  have get : ∀ i v, (i < is.length ∧ Pv i v) → ∃ a, a ∈ is ∧ K a v := fun i v ⟨hi, hv⟩ => ⟨is[i], List.getElem_mem hi, hK i v _ hv (by simp [hi])⟩
  refine EvK.mono (comp_ev p (fun v y => ∀ a, K a v → R (f a) y) src.bdd hn hclos hcell hkind hnames hx (fun C i v s₃ m₃ E' hP hns hm hsub => ?_) (fun C i v h₃ m₃ hP hpv hns hm hsub => ?_) hs) ?_
  · obtain ⟨a, ha, hk⟩ := get i v hP
    refine wpAny_mono (htests C a v s₃ m₃ E' ha hk hns hm hsub) (fun ok s₄ q => ⟨q.1.trans (hp a v hk).symm, q.2⟩) fun _ _ z => z
  · obtain ⟨a, ha, hk⟩ := get i v hP
    exact (helt C a v h₃ m₃ ha hk ((hp a v hk).symm.trans hpv) hns hm hsub).mono fun y _ _ hR b hb => Kinj b a v hb hk ▸ hR
  · rintro y h' hsub ⟨D, ys, vs, rfl, hD, hpl, hlen, hP, hF⟩
    refine ⟨D, ys.toList, rfl, hD, by simpa using hpl, comp_out hp (paired_of_get hlen.symm fun i a b ha hb => hK i b a (hP i b hb).2 ha) hF⟩

theorem comp_map0 {κ α : Type} {K : κ → Value → Prop} {R : α → Value → Prop} {elt iter : Expr} {x : Str} {px : Pos} {scope : Scope} {cl : List (Str × Addr)} {pos : Pos} {srcs : List Addr} {Pv : Nat → Value → Prop} (f : κ → α) (is : List κ)
    (Kinj : ∀ a b v, K a v → K b v → a = b) (src : Src w A env h iter srcs is.length Pv) (hK : ∀ (i : Nat) v a, Pv i v → is[i]? = some a → K a v)
    (hn : is.length ≤ sizeLine) (hclos : closureFor scope env = pure cl) (hcell : ∀ y ∈ scope.names, y.2 ≠ .cell) (hkind : scope.kind = .function)
    (hnames : ∀ y ∈ scope.names, y.2 = .local → scope.names.lookup y.1 = some .local) (hx : scope.names.lookup x = some .local)
    (helt : ∀ C a v h₃ m₃, a ∈ is → K a v → h₃.Ns C m₃ → m₃ x = some v → Sub h h₃ → EvK w A (compEnvC scope cl C env) h₃ elt (fun y _ => R (f a) y))
    (hs : ∀ x, foldedSetIterable iter env x = pure x := by intro _; rfl) :
    EvK w A env h (.ListComp elt [⟨.Name x px, iter, [], 0⟩] scope pos) (fun y h' => ∃ (D : Addr) (ys : List Value), y = .ref D ∧ h.get? D = none ∧ h'.PlainList D ys.toArray ∧ Paired R (is.map f) ys) := by
  have := comp_map (K := K) (R := R) (elt := elt) (x := x) (px := px) (ifs := []) (scope := scope) (cl := cl) (pos := pos) f (fun _ => true) (fun _ => true) is Kinj (fun _ _ _ => rfl) src hK hn hclos hcell hkind hnames hx
    (fun C a v s₃ m₃ E' _ _ _ _ _ => wpAny_tests_nil ⟨rfl, s₃.heap, s₃.toks, rfl, fun _ _ e => e⟩) (fun C a v h₃ m₃ ha hk _ hns hm hsub => helt C a v h₃ m₃ ha hk hns hm hsub) hs
  simpa only [List.filter_eq_self.mpr (fun _ _ => rfl)] using this

theorem comp_map1 {κ α : Type} {K : κ → Value → Prop} {R : α → Value → Prop} {elt iter c : Expr} {x : Str} {px : Pos} {scope : Scope} {cl : List (Str × Addr)} {pos : Pos} {srcs : List Addr} {Pv : Nat → Value → Prop} (f : κ → α) (pk : κ → Bool) (p : Value → Bool) (is : List κ)
    (Kinj : ∀ a b v, K a v → K b v → a = b) (hp : ∀ a v, K a v → p v = pk a) (src : Src w A env h iter srcs is.length Pv) (hK : ∀ (i : Nat) v a, Pv i v → is[i]? = some a → K a v)
    (hn : is.length ≤ sizeLine) (hclos : closureFor scope env = pure cl) (hcell : ∀ y ∈ scope.names, y.2 ≠ .cell) (hkind : scope.kind = .function)
    (hnames : ∀ y ∈ scope.names, y.2 = .local → scope.names.lookup y.1 = some .local) (hx : scope.names.lookup x = some .local)
    (htest : ∀ C a v h₃ m₃, a ∈ is → K a v → h₃.Ns C m₃ → m₃ x = some v → Sub h h₃ → TstK w A (compEnvC scope cl C env) h₃ c (pk a))
    (helt : ∀ C a v h₃ m₃, a ∈ is → K a v → pk a = true → h₃.Ns C m₃ → m₃ x = some v → Sub h h₃ → EvK w A (compEnvC scope cl C env) h₃ elt (fun y _ => R (f a) y))
    (hs : ∀ x, foldedSetIterable iter env x = pure x := by intro _; rfl) :
    EvK w A env h (.ListComp elt [⟨.Name x px, iter, [c], 0⟩] scope pos) (fun y h' => ∃ (D : Addr) (ys : List Value), y = .ref D ∧ h.get? D = none ∧ h'.PlainList D ys.toArray ∧ Paired R ((is.filter pk).map f) ys) :=
  comp_map (K := K) (R := R) f pk p is Kinj hp src hK hn hclos hcell hkind hnames hx
    (fun C a v s₃ m₃ E' ha hk hns hm hsub => wpAny_tests_one (Wp.run (htest C a v s₃.heap m₃ ha hk hns hm hsub s₃ E' _ rfl fun h' k' hs' => ⟨rfl, h', k', rfl, hs'⟩))) helt hs

theorem LI.of {D : Addr} {ys : List Value} {ns : List Int} (hl : h.PlainList D ys.toArray) (hp : Paired IsI ns ys) : LI h D ns := ⟨ys, hl.isList, hp⟩
theorem LS.of {D : Addr} {ys : List Value} {ns : List Str} (hl : h.PlainList D ys.toArray) (hp : Paired IsS ns ys) : LS h D ns := ⟨ys, hl.isList, hp⟩
theorem G.range {env : Env} (g : G w h) (hk : env.scope.kind = .function) (hg : env.globals = mainGlobals) (hb : env.builtins = builtinsNs) (hx : env.kindOf "range" = some .globalImplicit) {pos : Pos} {A : Around} : Ev w A env h (.Name "range" pos) (· = .type "range") := by
  obtain ⟨mg, mb, a, b, _, ⟨n, _⟩, ⟨v, _⟩⟩ := g.ns
  exact ev_builtin hk hx hg hb a b n v
/-- the ints of range(7) -/
def r7 : List Int := [0, 1, 2, 3, 4, 5, 6]
theorem r7_get (i : Nat) (v : Value) (a : Int) (hv : IsI i v) (ha : r7[i]? = some a) : IsI a v := by
  have : a = i := by
    rcases i with _ | _ | _ | _ | _ | _ | _ | i <;> simp [r7] at ha <;> omega
  exact this ▸ hv
theorem r7_mem {a : Int} (ha : a ∈ r7) : 0 ≤ a ∧ a ≤ 6 := by simp [r7] at ha; omega
end

/-- the binary places of a number -/
def bitI (n : Int) (k : Int) : Int := (n.fdiv (2 ^ k.toNat)).fmod 2

theorem pow_small : ∀ a ∈ r7, ((2 : Int) ^ a.toNat).natAbs < 1073741824 := by decide
def csc8 : Scope := match bodyOf 8 with | [.Return (some (.ListComp _ _ sc _)) _] => sc | _ => scopeOf 8
theorem c_bits {w : World} {A : Around} {s : Shared} {n : Int} {t : Tok} (g : G w s.heap) (room : Room A 3) : CallK w A s (.ref 48) [.int n t] (fun v h' => ∃ D, v = .ref D ∧ s.heap.get? D = none ∧ LI h' D (r7.map (bitI n))) := by
  refine call_fn (binds := [("number", .int n t)]) g.bits g.lim (by have := room.depth; omega) (fun _ _ _ _ _ _ _ => rfl) rfl rfl rfl rfl fun q cdv s₁ E' hk F => ?_
  have hcl : closureFor csc8 (envOfC q (scopeOf 8) s.heap.objs.size 48 cdv) = (pure [("number", s.heap.objs.size + 1)] : Sem (List (Str × Addr))) := rfl
  have kr : (envOfC q (scopeOf 8) s.heap.objs.size 48 cdv).kindOf "range" = some .globalImplicit := rfl
  have vc : (bindC (envOfC q (scopeOf 8) s.heap.objs.size 48 cdv).kindOf [("number", .int n t)] fun _ => none) "number" = some (.int n t) := rfl
  have hA : (A.deeper (envOfC q (scopeOf 8) s.heap.objs.size 48 cdv)).handled = none := room.hand
  refine ex_return (comp_map0 (K := IsI) (R := IsI) (bitI n) r7 isI_inj (src_range1 (N := 7) hA ((F.g g).range rfl rfl rfl kr) ev_int (by decide)) r7_get (by decide) hcl (by decide) rfl (by decide) rfl fun C a v h₃ m₃ ha hv hns hm hsub => ?_) fun v h₁ k₁ hs₁ hV => ?_
  · have L3 := compLoc (scope := csc8) (cl := [("number", s.heap.objs.size + 1)]) F.loc (by intro n c hm; rcases List.mem_cons.mp hm with e | e; (cases e; rfl); cases e) rfl hns hsub
    have b := r7_mem ha
    obtain ⟨ta, rfl⟩ := hv
    refine Ev.k (ev_mod (ev_fdiv ((ev_cell L3 rfl rfl vc).mono fun v hv => ⟨t, hv⟩) (ev_pow ev_int ((ev_local L3 rfl hm).mono fun v hv => ⟨ta, hv⟩) b.1 (by omega) (by decide)) ?_ ?_) ev_int (by decide))
    · exact Int.ne_of_gt (Int.pow_pos (by decide))
    · exact PyProof.noPylong_small (pow_small a ha)
  · obtain ⟨D, ys, rfl, hD, hpl, hp⟩ := hV
    refine ⟨_, rfl, keeps_to hk (F.base.trans hs₁) ⟨_, _, rfl⟩, D, rfl, ?_, LI.of hpl hp⟩
    cases e : s.heap.get? D with
    | none => rfl
    | some o => have := F.base D o e; rw [hD] at this; cases this
end Mine
end PartQ4
section PartQ5
open PySem PySem.W PyProof.Rows PySem.Calls
set_option maxRecDepth 100000
set_option linter.unusedVariables false
namespace Mine

theorem sizeLine_is : sizeLine = 16777216 := by decide
theorem strVals : ∀ {xs : List Str} {ys : List Value}, Paired IsS xs ys → ∃ l : List (Str × Tok), ys = strValues l ∧ l.map (·.1) = xs
  | _, _, .nil => ⟨[], rfl, rfl⟩
  | _, _, .cons (a := x) ⟨t, e⟩ r => by
    obtain ⟨l, h1, h2⟩ := strVals r
    subst e
    exact ⟨(x, t) :: l, by rw [h1]; rfl, by simp [h2]⟩
theorem paired_strs : ∀ (l : List (Str × Tok)), Paired IsS (l.map (·.1)) (strValues l)
  | [] => .nil
  | (x, t) :: r => .cons ⟨t, rfl⟩ (paired_strs r)
theorem foldl_len {sep : Str} {B : Nat} : ∀ (xs : List Str) (n : Nat), (∀ x ∈ xs, x.length ≤ B) → xs.foldl (fun a x => a + x.length + sep.length) n ≤ n + xs.length * (B + sep.length)
  | [], n, _ => by simp
  | x :: r, n, h => by
    have h1 := foldl_len (sep := sep) r (n + x.length + sep.length) fun y hy => h y (List.mem_cons_of_mem _ hy)
    have h2 := h x List.mem_cons_self
    rw [List.foldl_cons, List.length_cons, Nat.succ_mul]
    omega
theorem joinOk_of {sep : Str} {xs : List Str} {B N : Nat} (hx : ∀ x ∈ xs, x.length ≤ B) (hN : xs.length ≤ N) (hb : N * (B + sep.length) ≤ 16777216) : JoinOk sep xs = true := by
  unfold JoinOk Builtin.Str.tooLong
  have h1 := foldl_len (sep := sep) xs 0 hx
  have h2 : xs.length * (B + sep.length) ≤ N * (B + sep.length) := Nat.mul_le_mul_right _ hN
  rw [sizeLine_is]
  simp only [List.foldl_toArray, Bool.not_eq_true', decide_eq_false_iff_not]
  omega

theorem sum_len {B : Nat} : ∀ (xs : List Str), (∀ x ∈ xs, x.length ≤ B) → (xs.map (·.length)).sum ≤ xs.length * B
  | [], _ => by simp
  | x :: r, h => by
    have h1 := sum_len r fun y hy => h y (List.mem_cons_of_mem _ hy)
    have h2 := h x List.mem_cons_self
    rw [List.map_cons, List.sum_cons, List.length_cons, Nat.succ_mul]
    omega
theorem join_len {sep : Str} {xs : List Str} {B N : Nat} (hx : ∀ x ∈ xs, x.length ≤ B) (hN : xs.length ≤ N) : (Txt.join sep xs).length ≤ N * (B + sep.length) := by
  unfold Txt.join
  rw [StrLaws.glued_eq_join]
  have h1 := StrLaws.join_length_le sep xs
  have h2 := sum_len xs hx
  have h3 : xs.length * (B + sep.length) ≤ N * (B + sep.length) := Nat.mul_le_mul_right _ hN
  rw [Nat.mul_add] at h3
  omega

section
variable {w : World} {A : Around} {env : Env} {gh h h' : Heap} {m cm : Str → Option Value}

theorem evk_join {o e : Expr} {apos pos : Pos} {sep : Str} {xs : List Str} (ho : Ev w A env h o (IsS sep)) (he : EvK w A env h e (fun v h' => ∃ D, v = .ref D ∧ LS h' D xs)) (hok : JoinOk sep xs = true)
    (hbase : attributeBase o "join" env (eval o env) = eval o env := by rfl) (hst : backTo pos (starEach [e] env) = [(false, eval e env)] := by rfl) (hline : (apos.endLine == pos.line) = true := by rfl) :
    EvK w A env h (.Call (.Attribute o "join" apos) [e] [] pos) (fun v _ => IsS (Txt.join sep xs) v) := fun s E Q hs hq => by
  refine ⟨wpAny_Call_method hbase (by rw [hst]; rfl) hline F.plainAttrs_str F.slot_str_join F.type_str_join (Wp.run (ho s E _ hs fun v k hv => ?_))⟩
  obtain ⟨t, rfl⟩ := hv
  refine ⟨typeIs_str _ _ _, (fun a e => by cases e), ?_⟩
  rw [hst]
  refine callWith_builtin rfl (evalArgs_plain (spliced_cons (Wp.run (he _ E _ hs fun v h₁ k₁ hs₁ hV => spliced_nil ?_))))
  obtain ⟨D, rfl, ys, hl, hp⟩ := hV
  obtain ⟨l, rfl, hm⟩ := strVals hp
  exact SC.join (s := { s with heap := h₁, toks := k₁ }) hl hm hok fun t' k' => hq _ _ _ hs₁ ⟨_, rfl⟩

theorem split_len (x y : Str) : (Txt.split x y).length ≤ x.length + 2 := split_le x y
theorem call_split {s : Shared} {E : Value → Shared → Prop} {Q : Value → Shared → Prop} {x y : Str} {t u : Tok} (hy : (y.length == 0) = false) (hx : x.length + 2 ≤ sizeLine)
    (hq : ∀ D (l : List (Str × Tok)) h' k, l.map (·.1) = Txt.split x y → Sub s.heap h' → s.heap.get? D = none → h'.IsList D (strValues l).toArray → Q (.ref D) { s with heap := h', toks := k }) :
    wpAny (model P w) A (call (.builtin "str.split") [.str x t, .str y u]) Q E s := by
  have new : s.heap.get? s.heap.objs.size = none := Heap.get?_none_of_le (Nat.le_refl _)
  have hle := split_len x y
  cases h1 : (decide (x.length < y.length) || decide (Builtin.Str.strKind x < Builtin.Str.strKind y)) with
  | true =>
    exact call_meets F.slot_str_split (typeIs_str _ _ _) F.entry_str_split (F.args_str_split_2 _ _) (meets_str_split_cannot_occur x y t u h1)
      (hq _ [(x, t)] _ s.toks (if_pos h1).symm (Sub.push _ _) new ⟨_, Heap.get?_push_size _ rfl, rfl, _, rfl⟩)
  | false =>
    cases hf : (Builtin.Str.occurrences x y 0 x.length (x.length + 1)).isEmpty with
    | true =>
    exact call_meets F.slot_str_split (typeIs_str _ _ _) F.entry_str_split (F.args_str_split_2 _ _) (meets_str_split_not_found x y t u h1 hy hf)
        (hq _ [(x, t)] _ s.toks ((if_neg (ne_true_of_eq_false h1)).trans (if_pos hf)).symm (Sub.push _ _) new ⟨_, Heap.get?_push_size _ rfl, rfl, _, rfl⟩)
    | false =>
      have he : Txt.split x y = Builtin.Str.partsBetween x (Builtin.Str.occurrences x y 0 x.length (x.length + 1)) y.length := (if_neg (ne_true_of_eq_false h1)).trans (if_neg (ne_true_of_eq_false hf))
      refine call_meets F.slot_str_split (typeIs_str _ _ _) F.entry_str_split (F.args_str_split_2 _ _) (meets_str_split_sep x y t u h1 hy hf (by omega) (by rw [← he]; omega)) ?_
      show wants Q E _ { s with toks := _, heap := s.heap.push { cls := .type "list", data := .seq (strsFrom s.toks (Builtin.Str.partsBetween x (Builtin.Str.occurrences x y 0 x.length (x.length + 1)) y.length)).toArray } }
      rw [strsFrom_eq]
      exact hq _ (numbered s.toks _) _ _ ((numbered_texts _ _).trans he.symm) (Sub.push _ _) new ⟨_, Heap.get?_push_size _ rfl, rfl, _, rfl⟩
theorem evk_split {o e : Expr} {apos pos : Pos} {x y : Str} (ho : Ev w A env h o (IsS x)) (he : Ev w A env h e (IsS y)) (hy : (y.length == 0) = false) (hx : x.length + 2 ≤ sizeLine)
    (hbase : attributeBase o "split" env (eval o env) = eval o env := by rfl) (hst : backTo pos (starEach [e] env) = [(false, eval e env)] := by rfl) (hline : (apos.endLine == pos.line) = true := by rfl) :
    EvK w A env h (.Call (.Attribute o "split" apos) [e] [] pos) (fun v h' => ∃ D, v = .ref D ∧ h.get? D = none ∧ LS h' D (Txt.split x y)) := fun s E Q hs hq => by
  subst hs
  refine ⟨wpAny_Call_method hbase (by rw [hst]; rfl) hline F.plainAttrs_str F.slot_str_split F.type_str_split (Wp.run (ho s E _ rfl fun v k hv => ?_))⟩
  obtain ⟨t, rfl⟩ := hv
  refine ⟨typeIs_str _ _ _, (fun a e => by cases e), ?_⟩
  rw [hst]
  refine callWith_builtin rfl (evalArgs_plain (spliced_cons (Wp.run (he _ E _ rfl fun v k₁ hV => spliced_nil ?_))))
  obtain ⟨u, rfl⟩ := hV
  exact call_split hy hx fun D l h' k' hm hs' hD hl => hq _ h' k' hs' ⟨D, rfl, hD, strValues l, hl, hm ▸ paired_strs l⟩

theorem ev_or {x y : Expr} {pos : Pos} {a b : Str} (hx : EvK w A env h x (fun v _ => IsS a v)) (hy : ∀ {h'}, Sub h h' → Ev w A env h' y (IsS b)) (ha : a.length < 1000000) : EvK w A env h (.BoolOp .Or [x, y] pos) (fun v _ => IsS (if a.length = 0 then b else a) v) := fun s E Q hs hq => by
  refine ⟨wpAny_Or2 (Wp.run (hx s E _ hs fun v h₁ k hs₁ hv => ?_))⟩
  obtain ⟨t, rfl⟩ := hv
  refine PySem.P.truthy_str (by omega) ?_
  by_cases h0 : a.length = 0
  · have : ((a.length : Int) != 0) = false := by simp [h0]
    rw [this]
    simp only [Bool.false_eq_true, if_false]
    rw [if_pos h0] at hq
    exact Wp.run (hy hs₁ _ E Q rfl fun v k' hv => hq v _ _ hs₁ hv)
  · have : ((a.length : Int) != 0) = true := by simp [h0]
    rw [this]
    simp only [if_true]
    rw [if_neg h0] at hq
    exact hq _ _ _ hs₁ ⟨t, rfl⟩
end

/-- the words of a number, as the law tells them -/
def toldL (ws : List Str) (n : Int) : List Str := (r7.filter fun k => bitI n k == 1).map fun k => ws.getD k.toNat Str.empty
def toldS (ws : List Str) (n : Int) : Str := if (Txt.join (", " : Str) (toldL ws n)).length = 0 then ("0x0" : Str) else Txt.join (", " : Str) (toldL ws n)

def isIntWith (p : Int → Bool) : Value → Bool
  | .int i _ => p i
  | _ => false
def csc9 : Scope := match bodyOf 9 with | [.Return (some (.BoolOp _ (.Call _ (.ListComp _ _ sc _ :: _) _ _ :: _) _)) _] => sc | _ => scopeOf 9

theorem c_told {w : World} {A : Around} {s : Shared} {n : Int} {t : Tok} {a : Addr} {ws : List Str} (g : G w s.heap) (room : Room A 3) (hl : LS s.heap a ws) (hlen : ws.length = 7) (hb : ∀ x ∈ ws, x.length ≤ 100) :
    CallK w A s (.ref 53) [.ref a, .int n t] (fun v _ => IsS (toldS ws n) v) := by
  refine call_fn (binds := [("words", .ref a), ("number", .int n t)]) g.told g.lim (by have := room.depth; omega) (fun _ _ _ _ _ _ _ => rfl) rfl rfl rfl rfl fun q cdv s₁ E' hk F => ?_
  have hcl : closureFor csc9 (envOfC q (scopeOf 9) s.heap.objs.size 53 cdv) = (pure [("words", s.heap.objs.size + 1), ("number", s.heap.objs.size + 2)] : Sem (List (Str × Addr))) := rfl
  have kr : (envOfC q (scopeOf 9) s.heap.objs.size 53 cdv).kindOf "range" = some .globalImplicit := rfl
  have vc : (bindC (envOfC q (scopeOf 9) s.heap.objs.size 53 cdv).kindOf [("words", .ref a), ("number", .int n t)] fun _ => none) "number" = some (.int n t) := rfl
  have vw : (bindC (envOfC q (scopeOf 9) s.heap.objs.size 53 cdv).kindOf [("words", .ref a), ("number", .int n t)] fun _ => none) "words" = some (.ref a) := rfl
  have hA : (A.deeper (envOfC q (scopeOf 9) s.heap.objs.size 53 cdv)).handled = none := room.hand
  have get : ∀ k : Int, 0 ≤ k → k ≤ 6 → ws[k.toNat]? = some (ws.getD k.toNat Str.empty) := fun k h0 h1 => by
    have : k.toNat < ws.length := by omega
    simp [this]
  have hlT : ∀ x ∈ toldL ws n, x.length ≤ 100 := by
    intro x hx
    obtain ⟨k, hk', rfl⟩ := List.mem_map.mp hx
    have b := r7_mem (List.mem_filter.mp hk').1
    exact hb _ (List.mem_of_getElem? (get k b.1 b.2))
  have hnT : (toldL ws n).length ≤ 7 := by unfold toldL; rw [List.length_map]; exact List.length_filter_le _ _
  refine ex_return (ev_or (evk_join ev_str (EvK.mono (comp_map1 (K := IsI) (R := IsS) (fun k => ws.getD k.toNat Str.empty) (fun k => bitI n k == 1) (isIntWith fun k => bitI n k == 1) r7 isI_inj (fun k v ⟨u, e⟩ => by rw [e]; rfl)
    (src_range1 (N := 7) hA ((F.g g).range rfl rfl rfl kr) ev_int (by decide)) r7_get (by decide) hcl (by decide) rfl (by decide) rfl (fun C k v h₃ m₃ hk3 hv hns hm hsub => ?_) (fun C k v h₃ m₃ hk3 hv hpk hns hm hsub => ?_))
      fun v h' hs hV => by obtain ⟨D, ys, e, hD, hpl, hp⟩ := hV; exact ⟨D, e, LS.of hpl hp⟩) (joinOk_of (B := 100) (N := 7) hlT hnT (by decide))) (fun _ => ev_str) ?_) fun v h₁ k₁ hs₁ hV => ?_
  · have L3 := compLoc (scope := csc9) (cl := [("words", s.heap.objs.size + 1), ("number", s.heap.objs.size + 2)]) F.loc (by intro n c hm; rcases List.mem_cons.mp hm with e | e; (cases e; rfl); rcases List.mem_cons.mp e with e | e; (cases e; rfl); cases e) rfl hns hsub
    have b := r7_mem hk3
    obtain ⟨ta, rfl⟩ := hv
    exact tst_eq (ev_mod (ev_fdiv ((ev_cell L3 rfl rfl vc).mono fun v hv => ⟨t, hv⟩) (ev_pow ev_int ((ev_local L3 rfl hm).mono fun v hv => ⟨ta, hv⟩) b.1 (by omega) (by decide)) (Int.ne_of_gt (Int.pow_pos (by decide))) (PyProof.noPylong_small (pow_small k hk3))) ev_int (by decide)) ev_int
  · have L3 := compLoc (scope := csc9) (cl := [("words", s.heap.objs.size + 1), ("number", s.heap.objs.size + 2)]) F.loc (by intro n c hm; rcases List.mem_cons.mp hm with e | e; (cases e; rfl); rcases List.mem_cons.mp e with e | e; (cases e; rfl); cases e) rfl hns hsub
    have b := r7_mem hk3
    obtain ⟨ta, rfl⟩ := hv
    exact Ev.k (ev_item_S (ev_cell L3 rfl rfl vw) ((ev_local L3 rfl hm).mono fun v hv => ⟨ta, hv⟩) ((hl.mono F.base).mono hsub) b.1 (by omega) (get k b.1 b.2))
  · exact Nat.lt_of_le_of_lt (join_len hlT hnT) (by decide)
  · exact ⟨v, rfl, keeps_to hk (F.base.trans hs₁) ⟨_, _, rfl⟩, hV⟩
end Mine
end PartQ5
section PartQ6
open PySem PySem.W PyProof.Rows PySem.Calls
set_option maxRecDepth 100000
set_option linter.unusedVariables false
namespace Mine

section
variable {w : World} {A : Around} {env : Env} {gh h h' : Heap} {m cm : Str → Option Value}
theorem add_listsR {s : Shared} {E : Value → Shared → Prop} {l b : Addr} {vs ws : List Value} {Q : Value → Shared → Prop} (hl : s.heap.IsList l vs.toArray) (hb : s.heap.IsList b ws.toArray)
    (h : Q (.ref s.heap.objs.size) { s with heap := s.heap.push { cls := .type "list", data := .seq (vs ++ ws).toArray } }) (hsz : vs.length + ws.length ≤ sizeLine) :
    wpAny (model P w) A (binaryOp .Add (.ref l) (.ref b)) Q E s := by
  obtain ⟨⟨cls, dd, data, sl⟩, ho, hc, n, hd⟩ := id hl
  obtain ⟨⟨cls2, dd2, data2, sl2⟩, ho2, hc2, n2, hd2⟩ := id hb
  simp only at hc hd hc2 hd2
  subst hc hd hc2 hd2
  refine concat_meets ⟨_, ho, rfl⟩ ⟨_, ho2, rfl⟩ noFill_list_add seq_list_add PySem.F.slot_list_add PySem.F.entry_list_add (PySem.F.args_list_add_2 _ _) (list_addW l b vs.toArray ws.toArray n n2 dd dd2 sl sl2 (by simpa using hsz)) ⟨ho, ho2, ?_⟩
  rw [show vs.toArray ++ ws.toArray = (vs ++ ws).toArray by simp]
  exact h
/-- a list in hand -/
def IsL {α : Type} (K : α → Value → Prop) (xs : List α) (v : Value) (h : Heap) : Prop := ∃ (D : Addr) (ys : List Value), v = .ref D ∧ h.IsList D ys.toArray ∧ Paired K xs ys
theorem IsL.mono {α : Type} {K : α → Value → Prop} {xs : List α} {v : Value} (x : IsL K xs v h) (k : Sub h h') : IsL K xs v h' := let ⟨D, ys, e, l, p⟩ := x; ⟨D, ys, e, l.at fun o e => k _ o e, p⟩
/-- the sum of two lists is a new list -/
theorem evk_addL {α : Type} {K : α → Value → Prop} {l r : Expr} {pos : Pos} {xs ys : List α} (hl : EvK w A env h l (IsL K xs)) (hr : ∀ {h'}, Sub h h' → EvK w A env h' r (IsL K ys)) (hsz : xs.length + ys.length ≤ sizeLine) :
    EvK w A env h (.BinOp l .Add r pos) (fun v h' => ∃ (D : Addr) (zs : List Value), v = .ref D ∧ h.get? D = none ∧ h'.PlainList D zs.toArray ∧ Paired K (xs ++ ys) zs) := fun s E Q hs hq => by
  subst hs
  refine ⟨wpAny_BinOp (Wp.run (hl s E _ rfl fun v h₁ k₁ hs₁ hv => Wp.run (hr hs₁ _ E _ rfl fun u h₂ k₂ hs₂ hu => ?_)))⟩
  obtain ⟨D1, y1, rfl, l1, p1⟩ := hv.mono hs₂
  obtain ⟨D2, y2, rfl, l2, p2⟩ := hu
  refine add_listsR (s := { s with heap := h₂, toks := k₂ }) l1 l2 ?_ (by rw [← p1.length, ← p2.length]; exact hsz)
  refine hq _ _ k₂ ((hs₁.trans hs₂).trans (Sub.push _ _)) ⟨_, _, rfl, ?_, ⟨_, Heap.get?_push_size _ rfl⟩, paired_append p1 p2⟩
  cases e : s.heap.get? h₂.objs.size with
  | none => rfl
  | some o => exact absurd (Heap.lt_size ((hs₁.trans hs₂) _ _ e)) (Nat.lt_irrefl _)
end

def tok (x : Str) : Str := (("[" : Str) ++ x) ++ ("]" : Str)
def lineS (ws : List Str) (cs : List Int) : Str := Txt.join ("" : Str) (r7.map fun k => Txt.mul (tok (ws.getD (6 - k).toNat Str.empty)) (cs.getD (6 - k).toNat 0))
theorem tok_len (x : Str) : (tok x).length = x.length + 2 := by
  unfold tok; rw [Str.length_append, Str.length_append, show ("[" : Str).length = 1 by decide, show ("]" : Str).length = 1 by decide]; omega
theorem foldl_rep (y : Array Nat) : ∀ (n : Nat) (a : Array Nat), ((List.replicate n y).foldl (· ++ ·) a).size = a.size + n * y.size
  | 0, a => by simp
  | n + 1, a => by rw [List.replicate_succ, List.foldl_cons, foldl_rep y n]; simp [Nat.succ_mul]; omega
theorem mul_len (x : Str) (n : Int) : (Txt.mul x n).length ≤ n.toNat * x.length := by
  unfold Txt.mul
  split
  · rw [show (Str.empty).length = 0 by decide]; omega
  · rename_i h
    have hn : 1 ≤ n.toNat := by omega
    split
    · exact Nat.le_mul_of_pos_left _ hn
    · show (Array.size _) ≤ _
      rw [foldl_rep]
      simp [Str.length]

def csc10 : Scope := match bodyOf 10 with | [.Return (some (.Call _ (.ListComp _ _ sc _ :: _) _ _)) _] => sc | _ => scopeOf 10
theorem c_line {w : World} {A : Around} {s : Shared} {a b : Addr} {ws : List Str} {cs : List Int} (g : G w s.heap) (room : Room A 3) (hl : LS s.heap a ws) (hlen : ws.length = 7) (hb : ∀ x ∈ ws, x.length ≤ 100) (hc : LI s.heap b cs) (hclen : cs.length = 7) (hcb : ∀ c ∈ cs, 0 ≤ c ∧ c ≤ 200) :
    CallK w A s (.ref 58) [.ref a, .ref b] (fun v _ => IsS (lineS ws cs) v) := by
  refine call_fn (binds := [("words", .ref a), ("counts", .ref b)]) g.line g.lim (by have := room.depth; omega) (fun _ _ _ _ _ _ _ => rfl) rfl rfl rfl rfl fun q cdv s₁ E' hk F => ?_
  have hcl : closureFor csc10 (envOfC q (scopeOf 10) s.heap.objs.size 58 cdv) = (pure [("words", s.heap.objs.size + 1), ("counts", s.heap.objs.size + 2)] : Sem (List (Str × Addr))) := rfl
  have kr : (envOfC q (scopeOf 10) s.heap.objs.size 58 cdv).kindOf "range" = some .globalImplicit := rfl
  have vc : (bindC (envOfC q (scopeOf 10) s.heap.objs.size 58 cdv).kindOf [("words", .ref a), ("counts", .ref b)] fun _ => none) "counts" = some (.ref b) := rfl
  have vw : (bindC (envOfC q (scopeOf 10) s.heap.objs.size 58 cdv).kindOf [("words", .ref a), ("counts", .ref b)] fun _ => none) "words" = some (.ref a) := rfl
  have hA : (A.deeper (envOfC q (scopeOf 10) s.heap.objs.size 58 cdv)).handled = none := room.hand
  have get : ∀ k : Int, 0 ≤ k → k ≤ 6 → ws[k.toNat]? = some (ws.getD k.toNat Str.empty) := fun k h0 h1 => by
    have : k.toNat < ws.length := by omega
    simp [this]
  have getc : ∀ k : Int, 0 ≤ k → k ≤ 6 → cs[k.toNat]? = some (cs.getD k.toNat 0) := fun k h0 h1 => by
    have : k.toNat < cs.length := by omega
    simp [this]
  have hit : ∀ k : Int, 0 ≤ k → k ≤ 6 → (tok (ws.getD k.toNat Str.empty)).length ≤ 102 := fun k h0 h1 => by
    rw [tok_len]; have := hb _ (List.mem_of_getElem? (get k h0 h1)); omega
  have hic : ∀ k : Int, 0 ≤ k → k ≤ 6 → 0 ≤ cs.getD k.toNat 0 ∧ cs.getD k.toNat 0 ≤ 200 := fun k h0 h1 => hcb _ (List.mem_of_getElem? (getc k h0 h1))
  refine ex_return (evk_join ev_str (EvK.mono (comp_map0 (K := IsI) (R := IsS) (fun k => Txt.mul (tok (ws.getD (6 - k).toNat Str.empty)) (cs.getD (6 - k).toNat 0)) r7 isI_inj
    (src_range1 (N := 7) hA ((F.g g).range rfl rfl rfl kr) ev_int (by decide)) r7_get (by decide) hcl (by decide) rfl (by decide) rfl (fun C k v h₃ m₃ hk3 hv hns hm hsub => ?_))
      fun v h' hs hV => by obtain ⟨D, ys, e, hD, hpl, hp⟩ := hV; exact ⟨D, e, LS.of hpl hp⟩) ?_) fun v h₁ k₁ hs₁ hV => ?_
  · have L3 := compLoc (scope := csc10) (cl := [("words", s.heap.objs.size + 1), ("counts", s.heap.objs.size + 2)]) F.loc (by intro n c hm; rcases List.mem_cons.mp hm with e | e; (cases e; rfl); rcases List.mem_cons.mp e with e | e; (cases e; rfl); cases e) rfl hns hsub
    have b' := r7_mem hk3
    obtain ⟨ta, rfl⟩ := hv
    have ek : ∀ {A : Around} {pos : Pos}, Ev w A (compEnvC csc10 [("words", s.heap.objs.size + 1), ("counts", s.heap.objs.size + 2)] C (envOfC q (scopeOf 10) s.heap.objs.size 58 cdv)) h₃ (.Name "k" pos) (IsI k) := (ev_local L3 rfl hm).mono fun v hv => ⟨ta, hv⟩
    have hw := get (6 - k) (by omega) (by omega)
    have hlw := hit (6 - k) (by omega) (by omega)
    have hcw := hic (6 - k) (by omega) (by omega)
    have hx := hb _ (List.mem_of_getElem? hw)
    exact Ev.k (ev_muls (ev_adds (ev_adds ev_str (ev_item_S (ev_cell L3 rfl rfl vw) (ev_sub ev_int ek) ((hl.mono F.base).mono hsub) (by omega) (by omega) hw) (by rw [show ("[" : Str).length = 1 by decide, sizeLine_is]; omega)) ev_str (by rw [Str.length_append, show ("[" : Str).length = 1 by decide, show ("]" : Str).length = 1 by decide, sizeLine_is]; omega))
      (ev_item_I (ev_cell L3 rfl rfl vc) (ev_sub ev_int ek) ((hc.mono F.base).mono hsub) (by omega) (by omega) (getc (6 - k) (by omega) (by omega))) (mulOk_small hcw.1 (by omega) (Nat.le_trans hlw (by decide))))
  · refine joinOk_of (B := 20400) (N := 7) (fun x hx => ?_) (by rw [List.length_map]; decide) (by decide)
    obtain ⟨k, hk', rfl⟩ := List.mem_map.mp hx
    have b' := r7_mem hk'
    refine Nat.le_trans (mul_len _ _) ?_
    have h1 := hit (6 - k) (by omega) (by omega)
    have h2 := hic (6 - k) (by omega) (by omega)
    exact Nat.mul_le_mul (show _ ≤ 200 by omega) h1
  · exact ⟨v, rfl, keeps_to hk (F.base.trans hs₁) ⟨_, _, rfl⟩, hV⟩

def r5 : List Int := [1, 2, 3, 4, 5]
theorem r5_get (i : Nat) (v : Value) (a : Int) (hv : IsI (1 + i) v) (ha : r5[i]? = some a) : IsI a v := by
  have : a = 1 + i := by
    rcases i with _ | _ | _ | _ | _ | i <;> simp [r5] at ha <;> omega
  exact this ▸ hv
theorem r5_mem {a : Int} (ha : a ∈ r5) : 1 ≤ a ∧ a ≤ 5 := by simp [r5] at ha; omega
def carriedL (cs : List Int) : List Int := [(cs.getD 0 0).fmod 2] ++ r5.map (fun k => (cs.getD k.toNat 0).fmod 2 + (cs.getD (k - 1).toNat 0).fdiv 2) ++ [cs.getD 6 0 + (cs.getD 5 0).fdiv 2]
def csc11 : Scope := match bodyOf 11 with | .Assign _ (.ListComp _ _ sc _) _ :: _ => sc | _ => scopeOf 11

section
variable {w : World} {A : Around} {env : Env} {gh h h' : Heap} {m cm : Str → Option Value}
/-- a comprehension laid under a local name -/
theorem ex_assignComp {κ α : Type} {K : κ → Value → Prop} {R : α → Value → Prop} {s : Shared} {E : Value → Shared → Prop} {Q : Flow → Shared → Prop} {elt iter : Expr} {x y : Str} {px py : Pos} {scope : Scope} {cl : List (Str × Addr)} {pos spos : Pos} {rest : List Stmt} {srcs : List Addr} {Pv : Nat → Value → Prop} (f : κ → α) (is : List κ)
    (F : Fm gh env s.heap m cm) (hy : env.kindOf y = some .local) (hsw : swapsWith (.ListComp elt [⟨.Name x px, iter, [], 0⟩] scope pos) (some (.Name y py)) spos.line env = pure true)
    (Kinj : ∀ a b v, K a v → K b v → a = b) (src : Src w A env s.heap iter srcs is.length Pv) (hK : ∀ (i : Nat) v a, Pv i v → is[i]? = some a → K a v)
    (hn : is.length ≤ sizeLine) (hclos : closureFor scope env = pure cl) (hcell : ∀ y ∈ scope.names, y.2 ≠ .cell) (hkind : scope.kind = .function)
    (hnames : ∀ y ∈ scope.names, y.2 = .local → scope.names.lookup y.1 = some .local) (hx : scope.names.lookup x = some .local)
    (helt : ∀ C a v h₃ m₃, a ∈ is → K a v → h₃.Ns C m₃ → m₃ x = some v → Sub s.heap h₃ → EvK w A (compEnvC scope cl C env) h₃ elt (fun y _ => R (f a) y))
    (hq : ∀ (D : Addr) (ys : List Value) h₂ k, s.heap.get? D = none → h₂.PlainList D ys.toArray → Paired R (is.map f) ys → (∀ b o, b ≠ env.locals → s.heap.get? b = some o → h₂.get? b = some o) → Fm gh env h₂ (up m y (.ref D)) cm → Wp w A (execs rest env) Q E { s with heap := h₂, toks := k })
    (hs : ∀ x, foldedSetIterable iter env x = pure x := by intro _; rfl) :
    Wp w A (execs (.Assign [.Name y py] (.ListComp elt [⟨.Name x px, iter, [], 0⟩] scope pos) spos :: rest) env) Q E s := by
  refine ex_seq (wpAny_Assign_ListComp_free (fun _ => true) (fun v z => ∀ a, K a v → R (f a) z) hsw hclos hcell hkind hnames hx hy (by rw [F.loc.kind]; rfl) (Wp.run (src.bdd s E _ rfl fun I fp St h₂ k₂ hsub W hst hfp hI hfpk => ?_)) hs)
  have off : ∀ (b : Addr) (o : Obj), s.heap.get? b = some o → b ∉ [I] := fun b o e hb => by
    have := Heap.lt_size e
    rw [List.mem_singleton.mp hb] at this
    exact absurd this (Nat.not_lt.mpr hI)
  have get : ∀ i v, (i < is.length ∧ Pv i v) → ∃ a, a ∈ is ∧ K a v := fun i v ⟨hi, hv⟩ => ⟨is[i], List.getElem_mem hi, hK i v _ hv (by simp [hi])⟩
  obtain ⟨oL, es, ep, hL, _⟩ := id F.loc.ns
  refine ⟨I, fp, [I], is.length, _, St, m, rfl, W, hn, hst, hfp, off _ _ hL, F.loc.ns.keeps hsub, ⟨fun C i v s₃ m₃ E' _ _ _ _ _ _ => wpAny_tests_nil ⟨rfl, s₃.heap, s₃.toks, rfl, fun _ _ e => e⟩,
    fun C i v s₃ m₃ E' _ hP _ hns hm hk _ => ?_⟩, fun D h' tk ys vs hD hl hpl hlen hP hF hns hk => ?_⟩
  · obtain ⟨a, ha, hka⟩ := get i v hP
    exact Wp.run (helt C a v s₃.heap m₃ ha hka hns hm (fun b o e => hk b o (off b o e) (hsub b o e)) s₃ E' _ rfl fun z h' k' hs' hR => ⟨fun b hb => Kinj b a v hb hka ▸ hR, h', k', rfl, hs'⟩)
  · have up' : ∀ b o, b ≠ env.locals → s.heap.get? b = some o → h'.get? b = some o := fun b o hb e => hk b o hb (off b o e) (hsub b o e)
    refine hq D ys.toList h' tk ?_ (by simpa using hpl) ?_ up' ⟨⟨F.loc.kind, hns, fun n c e => ?_⟩, fun b o e => up' b o (fun q => by rw [q, F.off] at e; cases e) (F.base b o e), F.off, F.coff, F.apart, F.look⟩
    · cases e : s.heap.get? D with
      | none => rfl
      | some o => have := hsub D o e; rw [hD] at this; cases this
    · have := comp_out (K := K) (R := R) (f := f) (pk := fun _ => true) (p := fun _ => true) (fun _ _ _ => rfl) (paired_of_get hlen.symm fun i a b ha hb => hK i b a (hP i b hb).2 ha) hF
      simpa only [List.filter_eq_self.mpr (fun _ _ => rfl)] using this
    · have hc := F.loc.cells n c e
      obtain ⟨o, ho, hd⟩ := id hc
      exact ⟨o, up' c o (Ns.ne_cell F.loc.ns hc) ho, hd⟩
end

theorem evk_list1 {w : World} {A : Around} {env : Env} {h : Heap} {e : Expr} {pos : Pos} {n : Int} (he : Ev w A env h e (IsI n)) (hst : starEach [e] env = (false, eval e env) :: starEach [] env := by rfl) : EvK w A env h (.List [e] pos) (IsL IsI [n]) :=
  (evk_list (evs_consP he evs_nilP hst) (fun vs hv => by rw [← hv.length, sizeLine_is]; show 1 ≤ _; decide)).mono fun v h' _ ⟨a, vs, e, _, hl, hp⟩ => ⟨a, vs, e, hl.isList, hp⟩

theorem c_carried {w : World} {A : Around} {s : Shared} {b : Addr} {cs : List Int} (g : G w s.heap) (room : Room A 3) (hc : LI s.heap b cs) (hclen : cs.length = 7) :
    CallK w A s (.ref 63) [.ref b] (fun v h' => ∃ D, v = .ref D ∧ s.heap.get? D = none ∧ LI h' D (carriedL cs)) := by
  refine call_fn (binds := [("counts", .ref b)]) g.carried g.lim (by have := room.depth; omega) (fun _ _ _ _ _ _ _ => rfl) rfl rfl rfl rfl fun q cdv s₁ E' hk F => ?_
  have hcl : closureFor csc11 (envOfC q (scopeOf 11) s.heap.objs.size 63 cdv) = (pure [("counts", s.heap.objs.size + 1)] : Sem (List (Str × Addr))) := rfl
  have kr : (envOfC q (scopeOf 11) s.heap.objs.size 63 cdv).kindOf "range" = some .globalImplicit := rfl
  have vc : (bindC (envOfC q (scopeOf 11) s.heap.objs.size 63 cdv).kindOf [("counts", .ref b)] fun _ => none) "counts" = some (.ref b) := rfl
  have hA : (A.deeper (envOfC q (scopeOf 11) s.heap.objs.size 63 cdv)).handled = none := room.hand
  have getc : ∀ k : Int, 0 ≤ k → k ≤ 6 → cs[k.toNat]? = some (cs.getD k.toNat 0) := fun k h0 h1 => by
    have : k.toNat < cs.length := by omega
    simp [this]
  refine ex_assignComp (K := IsI) (R := IsI) (fun k => (cs.getD k.toNat 0).fmod 2 + (cs.getD (k - 1).toNat 0).fdiv 2) r5 F rfl rfl isI_inj
    (src_range2 (a := 1) (b := 6) (N := 5) hA ((F.g g).range rfl rfl rfl kr) ev_int ev_int (by decide) (by decide) (by decide)) r5_get (by decide) hcl (by decide) rfl (by decide) rfl (fun C k v h₃ m₃ hk3 hv hns hm hsub => ?_) fun D ys h₂ k₂ hD hpl hp hke F₂ => ?_
  · have L3 := compLoc (scope := csc11) (cl := [("counts", s.heap.objs.size + 1)]) F.loc (by intro n c hm; rcases List.mem_cons.mp hm with e | e; (cases e; rfl); cases e) rfl hns hsub
    have b' := r5_mem hk3
    obtain ⟨ta, rfl⟩ := hv
    have ek : ∀ {A : Around} {pos : Pos}, Ev w A (compEnvC csc11 [("counts", s.heap.objs.size + 1)] C (envOfC q (scopeOf 11) s.heap.objs.size 63 cdv)) h₃ (.Name "k" pos) (IsI k) := (ev_local L3 rfl hm).mono fun v hv => ⟨ta, hv⟩
    have hc3 := (hc.mono F.base).mono hsub
    exact Ev.k (ev_add (ev_mod (ev_item_I (ev_cell L3 rfl rfl vc) ek hc3 (by omega) (by omega) (getc k (by omega) (by omega))) ev_int (by decide))
      (ev_fdiv (ev_item_I (ev_cell L3 rfl rfl vc) (ev_sub ek ev_int) hc3 (by omega) (by omega) (getc (k - 1) (by omega) (by omega))) ev_int (by decide) (PyProof.noPylong_small (by decide))))
  · have hc2 := hc.mono F₂.base
    have ec : ∀ {h' : Heap}, Sub h₂ h' → ∀ {A : Around} {pos : Pos}, Ev w A (envOfC q (scopeOf 11) s.heap.objs.size 63 cdv) h' (.Name "counts" pos) (· = .ref b) := fun hs => ev_cell (F₂.mono hs).loc rfl rfl vc
    refine ex_return (evk_addL (K := IsI) (EvK.mono (evk_addL (K := IsI) (ys := r5.map (fun k => (cs.getD k.toNat 0).fmod 2 + (cs.getD (k - 1).toNat 0).fdiv 2)) (evk_list1 (ev_mod (ev_item_I (ec (Sub.refl _)) ev_int hc2 (by decide) (by decide) (getc 0 (by decide) (by decide))) ev_int (by decide))) (fun {h'} hs => ?_) ?_) fun v h' _ ⟨D', zs, e, _, hl, hp⟩ => ⟨D', zs, e, hl.isList, hp⟩)
      (fun {h'} hs => evk_list1 (ev_add (ev_item_I (ec hs) ev_int (hc2.mono hs) (by decide) (by decide) (getc 6 (by decide) (by decide))) (ev_fdiv (ev_item_I (ec hs) ev_int (hc2.mono hs) (by decide) (by decide) (getc 5 (by decide) (by decide))) ev_int (by decide) (PyProof.noPylong_small (by decide))))) ?_) fun v h₄ k₄ hs₄ hV => ?_
    · exact (Ev.k (ev_local (F₂.mono hs).loc rfl rfl)).mono fun v h'' hs'' hv => ⟨D, ys, hv, (hpl.isList.at fun o e => hs _ o e).at fun o e => hs'' _ o e, hp⟩
    · rw [sizeLine_is, List.length_map]; show 1 + 5 ≤ _; decide
    · rw [sizeLine_is]; simp [r5]
    · obtain ⟨D', zs, rfl, hD', hl', hp'⟩ := hV
      refine ⟨_, rfl, keeps_to hk (F₂.base.trans hs₄) ⟨_, _, rfl⟩, D', rfl, ?_, LI.of hl' hp'⟩
      cases e : s.heap.get? D' with
      | none => rfl
      | some o => have := F₂.base D' o e; rw [hD'] at this; cases this
end Mine
end PartQ6
section PartQ7
open PySem PySem.W PyProof.Rows PySem.Calls
set_option maxRecDepth 100000
set_option linter.unusedVariables false
namespace Mine

def repl (x a b : Str) : Str := Txt.join b (Txt.split x a)
noncomputable def replAll : Str → List Str → Str
  | x, a :: b :: r => replAll (repl x a b) r
  | x, _ => x
noncomputable def ReplOk : Str → List Str → Prop
  | x, a :: b :: r => (a.length == 0) = false ∧ x.length + 2 ≤ sizeLine ∧ JoinOk b (Txt.split x a) = true ∧ ReplOk (repl x a b) r
  | _, [] => True
  | _, [_] => False

theorem paired_drop {α β : Type} {F : α → β → Prop} : ∀ {l₁ : List α} {l₂ : List β}, Paired F l₁ l₂ → ∀ n, Paired F (l₁.drop n) (l₂.drop n)
  | _, _, .nil, n => by simpa using Paired.nil
  | _, _, .cons h t, 0 => .cons h t
  | _, _, .cons h t, n + 1 => paired_drop t n
theorem bind_replace (v : Value) : ∀ (vs : List Value) (nm q doc pm an cdv ct), bindArgs (fnOf nm q (paramsOf 1) (bodyOf 1) (scopeOf 1) .none .none doc pm an cdv ct) ⟨v :: vs, []⟩ = (newTuple vs >>= fun t => pure ([(("text" : Str), v), ("pairs", t)] : List (Str × Value)))
  | [], _, _, _, _, _, _, _ => rfl
  | _ :: _, _, _, _, _, _, _, _ => rfl

section
variable {w : World} {A : Around} {env : Env} {gh h h' : Heap} {m cm : Str → Option Value}
theorem evk_tupFrom2 {value e : Expr} {p pos : Pos} {a : Addr} {xs : List Str} (hv : Ev w A env h value (· = .ref a)) (he : Ev w A env h e (IsI 2)) (ht : TS h a xs) (h2 : 2 ≤ xs.length) (hb : xs.length ≤ 1000)
    (hl : ∀ o r, letTemporaryGo value o r = pure () := by intro _ _; rfl) :
    EvK w A env h (.Subscript value (.Slice (some e) none none p) pos) (fun v h' => ∃ D, v = .ref D ∧ TS h' D (xs.drop 2)) := fun s E Q hs hq => by
  subst hs
  obtain ⟨ys, n, hg, hp⟩ := ht
  refine ⟨wpAny_Subscript_Slice slot_tuple_getitem.lookup (Wp.run (hv s E _ rfl fun o k ho => wpAny_Slice (wpAny_evalPart_some (Wp.run (he _ E _ rfl fun i k' hi => wpAny_evalPart_none (wpAny_evalPart_none ?_)))))) hl⟩
  subst ho
  obtain ⟨u, rfl⟩ := hi
  have hg' : (s.heap.push { cls := .type "slice", data := .fields #[.int 2 u, .none, .none] }).get? a = some { cls := .type "tuple", data := .seq ys.toArray n } := Heap.get?_push_of_some _ hg
  have hlen : ys.length = xs.length := hp.length.symm
  refine ⟨⟨_, hg', rfl⟩, getItem_tuple_from (s := { s with heap := s.heap.push _, toks := k' }) (a := 2) ⟨_, hg', rfl, n, rfl⟩ (Heap.IsSliceOf.new ..) (by decide) (by simp; omega) ?_ (by rw [sizeLine_is]; simp; omega)⟩
  refine hq _ _ k' ((Sub.push _ _).trans (Sub.push _ _)) ⟨_, rfl, ys.drop 2, _, Heap.get?_push_size _ rfl, paired_drop hp 2⟩
theorem tst_tup {x : Str} {pos : Pos} {a : Addr} {xs : List Str} (hv : Ev w A env h (.Name x pos) (· = .ref a)) (ht : TS h a xs) (hb : xs.length ≤ 1000) : TstK w A env h (.Name x pos) (!xs.isEmpty) := fun s E Q hs hq => by
  subst hs
  obtain ⟨ys, n, hg, hp⟩ := ht
  refine ⟨wpAny_isTrue_value (Wp.run (hv s E _ rfl fun v k hv => ?_))⟩
  subst hv
  refine ktl_truthy hg (by have := hp.length; simp; omega) ?_
  have : (!ys.toArray.isEmpty) = !xs.isEmpty := by
    cases hp with
    | nil => rfl
    | cons _ _ => simp
  rw [this]
  exact hq _ _ (Sub.refl _)
theorem ex_while {s : Shared} {E : Value → Shared → Prop} {Q : Flow → Shared → Prop} {test : Expr} {body rest : List Stmt} {pos : Pos} (I : Nat → Shared → Prop)
    (turn : ∀ n s' (E' : Value → Shared → Prop), I n s' → ∃ b, TstK w A env s'.heap test b ∧ ∀ h' k, Sub s'.heap h' → if b = true then
      Wp w A (execs body env) (fun f s₃ => match f with | .next => ∃ m, m < n ∧ I m s₃ | .cont => ∃ m, m < n ∧ I m s₃ | .brk => Wp w A (execs rest env) Q E s₃ | .ret v => Q (.ret v) s₃) E' { s' with heap := h', toks := k }
      else Wp w A (execs rest env) Q E { s' with heap := h', toks := k }) (n : Nat) (h : I n s) : Wp w A (execs (.While test body [] pos :: rest) env) Q E s := by
  refine ex_seq (wpAny_While (codeAny_whileLoop I (fun n s' hI => ?_) n h))
  obtain ⟨b, ht, hb⟩ := turn n s' _ hI
  refine Wp.run (ht s' _ _ rfl fun h' k hs => ?_)
  have := hb h' k hs
  cases b with
  | true =>
    simp only [if_true] at this ⊢
    refine wpAny_mono this.run (fun f s₃ hf => ?_) fun _ _ x => x
    cases f <;> exact hf
  | false =>
    simp only [Bool.false_eq_true, if_false] at this ⊢
    exact wpAny_execs_nil this
end

theorem replace_body {w : World} {A : Around} {env : Env} {gh : Heap} {m cm : Str → Option Value} {s : Shared} {E : Value → Shared → Prop} {vt : Value} {D : Addr} {x : Str} {ps : List Str} (F : Fm gh env s.heap m cm)
    (kT : env.kindOf "text" = some .local) (kP : env.kindOf "pairs" = some .local) (hm : m "text" = some vt) (hx : IsS x vt) (hp : m "pairs" = some (.ref D)) (hT : TS s.heap D ps) (hok : ReplOk x ps) (hn : ps.length ≤ 100) :
    Wp w A (execs (bodyOf 1) env) (fun f s' => ∃ v, f = .ret v ∧ (∃ h k, s' = { s with heap := h, toks := k }) ∧ Sub gh s'.heap ∧ IsS (replAll x ps) v) E s := by
  refine ex_while (fun n s' => ∃ x' ps' vt' D' m', (∃ h k, s' = { s with heap := h, toks := k }) ∧ Fm gh env s'.heap m' cm ∧ m' "text" = some vt' ∧ IsS x' vt' ∧ m' "pairs" = some (.ref D') ∧ TS s'.heap D' ps' ∧ ReplOk x' ps' ∧ replAll x' ps' = replAll x ps ∧ ps'.length = n ∧ n ≤ 100)
    ?_ ps.length ⟨x, ps, vt, D, m, ⟨_, _, rfl⟩, F, hm, hx, hp, hT, hok, rfl, rfl, hn⟩
  rintro n s' E' ⟨x', ps', vt', D', m', ⟨h', k', rfl⟩, F', hm', hx', hp', hT', hok', hr, hlen, hn'⟩
  refine ⟨_, tst_tup (ev_local F'.loc kP hp') hT' (by omega), fun h₂ k₂ hs₂ => ?_⟩
  have F₂ := F'.mono hs₂
  have hT₂ := hT'.mono hs₂
  obtain ⟨t, rfl⟩ := hx'
  match ps', hok', hr, hlen, hT₂ with
  | [], _, hr, _, _ =>
    show Wp _ _ _ _ _ _
    refine ex_return (Ev.k ((ev_local F₂.loc kT hm').mono fun v hv => (⟨t, hv⟩ : IsS x' v))) fun v h₁ k₁ hs₁ hv => ⟨v, rfl, ⟨_, _, rfl⟩, F₂.base.trans hs₁, ?_⟩
    rw [← hr]; exact hv
  | a :: b :: r, ⟨o1, o2, o3, o4⟩, hr, hlen, hT₂ =>
    simp only [List.length_cons] at hlen
    show Wp _ _ _ _ _ _
    have eT : ∀ {A : Around} {pos : Pos}, Ev w A env h₂ (.Name "text" pos) (IsS x') := (ev_local F₂.loc kT hm').mono fun v hv => ⟨t, hv⟩
    have eP : ∀ {A : Around} {pos : Pos}, Ev w A env h₂ (.Name "pairs" pos) (· = .ref D') := ev_local F₂.loc kP hp'
    refine ex_assign F₂ kT (evk_join (ev_item_T eP ev_int hT₂ (by decide) (by decide) rfl) ((evk_split eT (ev_item_T eP ev_int hT₂ (by decide) (by decide) rfl) o1 o2).mono fun v h' _ ⟨D, e, _, hl⟩ => ⟨D, e, hl⟩) o3) fun v h₃ h₄ k₄ hs₃ hv hsb F₄ => ?_
    have hT₄ : TS h₄ D' (a :: b :: r) := (hT₂.mono hs₃).same (F₂.mono hs₃).loc.ns hsb
    have hp4 : up m' "text" v "pairs" = some (.ref D') := hp'
    refine ex_assign F₄ kP (evk_tupFrom2 (ev_local F₄.loc kP hp4) ev_int hT₄ (by simp) (by simp; omega)) fun v' h₅ h₆ k₆ hs₅ hv' hsb' F₆ => ?_
    obtain ⟨D₂, rfl, hT₅⟩ := hv'
    refine ex_nil ⟨r.length, by omega, repl x' a b, r, v, D₂, _, ⟨_, _, rfl⟩, F₆, rfl, hv, rfl, hT₅.same (F₄.mono hs₅).loc.ns hsb', o4, hr, rfl, by omega⟩

theorem c_replace {w : World} {A : Around} {s : Shared} {vt : Value} {vs : List Value} {x : Str} {ps : List Str} (g : G w s.heap) (room : Room A 3) (hx : IsS x vt) (hp : Paired IsS ps vs) (hok : ReplOk x ps) (hn : ps.length ≤ 100) :
    CallK w A s (.ref 21) (vt :: vs) (fun v _ => IsS (replAll x ps) v) := fun E Q hq => by
  obtain ⟨o, nm, q, doc, pm, an, cdv, ct, h1, h2, h3⟩ := g.replace.ex
  have hroom : A.depth < recursionLimit := by have := room.depth; omega
  refine ⟨wpAny_call (codeAny_call_function hroom h1 h2 rfl rfl rfl h3 ?_)⟩
  rw [bind_replace]
  refine wpAny_bind (wpAny_newTuple ?_ (by rw [← hp.length, sizeLine_is]; omega))
  refine wpAny_pure (wpAny_newFunctionEnv (show ∀ x ∈ (scopeOf 1).names, x.2 ≠ .cell from by decide) (by intro y hy; rcases List.mem_cons.mp hy with e | hy; (rw [e]; rfl); rcases List.mem_cons.mp hy with e | hy; (rw [e]; rfl); cases hy) (fun h₁ hns hsb => ⟨(g.lim.push _).fresh _ hsb, ?_⟩) rfl)
  show codeAny _ _ (.func (bodyOf 1) (envOfC q (scopeOf 1) (s.heap.push { cls := .type "tuple", data := .seq vs.toArray }).objs.size 21 cdv)) _ _
  generalize hD : s.heap.objs.size = D at hns hsb ⊢
  have hk₁ : Sub (s.heap.push { cls := .type "tuple", data := .seq vs.toArray }) h₁ := fun b o e => hsb.extBut b o (Nat.ne_of_lt (Heap.lt_size e)) (Heap.get?_push_of_some _ e)
  generalize hL : (s.heap.push { cls := .type "tuple", data := .seq vs.toArray }).objs.size = L at hns hsb ⊢
  refine codeAny_func ?_
  have hTS : TS h₁ D ps := ⟨vs, _, hk₁ D _ (hD ▸ Heap.get?_push_size _ rfl), hp⟩
  have hLn : s.heap.get? L = none := Heap.get?_none_of_le (by rw [← hL, Heap.size_push]; exact Nat.le_succ _)
  have F : Fm s.heap (envOfC q (scopeOf 1) L 21 cdv) h₁ (fun y => (([(("text" : Str), vt), ("pairs", Value.ref D)] : List (Str × Value)).reverse).lookup y) (fun _ => none) :=
    ⟨⟨rfl, hns, fun n c e => by cases e⟩, (Sub.push _ _).trans hk₁, hLn, (fun p hp => by cases hp), .nil, fun p hp => by cases hp⟩
  refine wpAny_mono (Wp.run (replace_body (s := { s with heap := h₁, toks := _ }) F rfl rfl rfl hx rfl hTS hok hn)) (fun f s' hf => ?_) fun _ _ z => z
  obtain ⟨v, rfl, ⟨h', k, rfl⟩, hb, hv⟩ := hf
  exact hq v h' k hb hv
end Mine
end PartQ7
section PartQ8
open PySem PySem.W PyProof.Rows PySem.Calls
set_option maxRecDepth 100000
set_option linter.unusedVariables false
namespace Mine
section
variable {w : World} {A : Around} {env : Env} {gh h h' : Heap} {m cm : Str → Option Value}
theorem Fm.weaken {g' : Heap} (F : Fm g' env h m cm) (k : Sub gh g') : Fm gh env h m cm :=
  ⟨F.loc, k.trans F.base, by cases e : gh.get? env.locals with | none => rfl | some o => exact absurd (k _ _ e) (by rw [F.off]; exact fun q => by cases q),
   fun p hp => by cases e : gh.get? p.2 with | none => rfl | some o => exact absurd (k _ _ e) (by rw [F.coff p hp]; exact fun q => by cases q), F.apart, F.look⟩

/-- the hidden part: the frame's own dict, its cells, the lists that are turned -/
def hid (env : Env) (D : List Addr) : List Addr := env.locals :: (env.cells.map (·.2) ++ D)

theorem for_core {s : Shared} {E : Value → Shared → Prop} {Q : Flow → Shared → Prop} {target iter : Expr} {body orelse rest : List Stmt} {pos : Pos} {srcs : List Addr} {n : Nat} {Pv : Nat → Value → Prop} {D : List Addr}
    (um : (Str → Option Value) → Value → Str → Option Value) (uc : (Str → Option Value) → Value → Str → Option Value)
    (asg : ∀ (g' : Heap) v (s' : Shared) m₁ cm₁ (E' : Value → Shared → Prop) (Q' : Unit → Shared → Prop), Fm g' env s'.heap m₁ cm₁ → (∀ h₂ k c, Fm g' env h₂ (um m₁ v) (uc cm₁ v) → Heap.SameBut c s'.heap h₂ → (c = env.locals ∨ c ∈ env.cells.map (·.2)) → Q' () { s' with heap := h₂, toks := k }) → wpAny (model P w) A (assign target env v) Q' E' s')
    (F : Fm gh env s.heap m cm) (hD : ∀ d ∈ D, gh.get? d = none) (hDs : ∀ d ∈ D, ∃ o, s.heap.get? d = some o) (hDL : ∀ d ∈ D, d ≠ env.locals ∧ d ∉ env.cells.map (·.2))
    (src : Src w A env s.heap iter srcs n Pv) (hsrc : ∀ b ∈ srcs, ∃ o, gh.get? b = some o)
    (J : Nat → Heap → (Str → Option Value) → (Str → Option Value) → Prop) (J0 : J 0 s.heap m cm)
    (Jm : ∀ i h h' m cm, J i h m cm → (∀ d ∈ D, ∀ o, h.get? d = some o → h'.get? d = some o) → J i h' m cm)
    (turn : ∀ (gb : Heap) i v h₁ m₁ cm₁ k (E' : Value → Shared → Prop), Sub gh gb → (∀ d ∈ D, gb.get? d = none) → i < n → Pv i v → J i h₁ m₁ cm₁ → (∀ d ∈ D, ∃ o, h₁.get? d = some o) → Fm gb env h₁ (um m₁ v) (uc cm₁ v) →
      Wp w A (execs body env) (fun f s₃ => match f with
        | .next => ∃ h₃ k₃ m₃ cm₃, s₃ = { s with heap := h₃, toks := k₃ } ∧ Fm gb env h₃ m₃ cm₃ ∧ J (i + 1) h₃ m₃ cm₃ ∧ (∀ d ∈ D, ∃ o, h₃.get? d = some o)
        | .cont => False
        | .brk => Wp w A (execs rest env) Q E s₃
        | .ret v => Q (.ret v) s₃) E' { s with heap := h₁, toks := k })
    (done : ∀ h₁ m₁ cm₁ k (E' : Value → Shared → Prop), J n h₁ m₁ cm₁ → (∀ d ∈ D, ∃ o, h₁.get? d = some o) → Fm gh env h₁ m₁ cm₁ → Wp w A (execs orelse env) (fun f s₃ => match f with | .next => Wp w A (execs rest env) Q E s₃ | f => Q f s₃) E' { s with heap := h₁, toks := k })
    (hs : ∀ x, foldedSetIterable iter env x = pure x) (ht : ∀ it v, letOwnedTupleGo target it v = pure ()) :
    Wp w A (execs (.For target iter body orelse pos :: rest) env) Q E s := by
  refine ex_seq (wpAny_For (Wp.run (src s E _ rfl fun I fp St h₂ k₂ hsub W hst hfp hI hfpk => ?_)) hs)
  have below : ∀ (b : Addr) (o : Obj), s.heap.get? b = some o → b ≠ I := fun b o e hb => absurd (Heap.lt_size e) (Nat.not_lt.mpr (hb ▸ hI))
  have hLI : env.locals ≠ I := by obtain ⟨o, _, _, e, _⟩ := id F.loc.ns; exact below _ _ e
  have hCI : ∀ c ∈ env.cells.map (·.2), c ≠ I := fun c hc => by
    obtain ⟨p, hp, rfl⟩ := List.mem_map.mp hc
    obtain ⟨o, e, _⟩ := F.loc.cells _ _ (F.look p hp)
    exact below _ _ e
  have hDI : ∀ d ∈ D, d ≠ I := fun d hd => by obtain ⟨o, e⟩ := hDs d hd; exact below _ _ e
  -- what stays through the loop
  have F₂ : Fm gh env h₂ m cm := F.mono hsub
  have ghI : gh.get? I = none := by
    cases e : gh.get? I with
    | none => rfl
    | some o => exact absurd rfl (below I o (F.base I o e))
  refine codeAny_forLoop (fun k s' => ∃ i h₁ tk m₁ cm₁, s' = { s with heap := h₁, toks := tk } ∧ i ≤ n ∧ k = n - i ∧ St i h₁ ∧ Fm gh env h₁ m₁ cm₁ ∧ J i h₁ m₁ cm₁ ∧ (∀ d ∈ D, ∃ o, h₁.get? d = some o)) ?_ n
    ⟨0, h₂, k₂, m, cm, rfl, Nat.zero_le _, rfl, hst, F₂, Jm 0 _ _ _ _ J0 (fun d _ o e => hsub d o e), fun d hd => let ⟨o, e⟩ := hDs d hd; ⟨o, hsub d o e⟩⟩ (ht _)
  rintro k s' ⟨i, h₁, tk, m₁, cm₁, rfl, hi, rfl, hst₁, F₁, J₁, hD₁⟩
  by_cases hlt : i < n
  · refine W.item i _ _ _ hlt hst₁ fun v h₃ tk₃ hv hst₃ hk₃ => ?_
    have hk3 : ∀ b o, b ≠ I → h₁.get? b = some o → h₃.get? b = some o := fun b o hb e => hk₃ b o (fun hm => hb (List.mem_singleton.mp hm)) e
    have F₃ : Fm gh env h₃ m₁ cm₁ := by
      refine ⟨⟨F₁.loc.kind, F₁.loc.ns.at' fun o e => hk3 _ o hLI e, fun n c e => ?_⟩, fun b o e => hk3 b o (fun q => by rw [q, ghI] at e; cases e) (F₁.base b o e), F₁.off, F₁.coff, F₁.apart, F₁.look⟩
      obtain ⟨o, ho, hd⟩ := F₁.loc.cells n c e
      exact ⟨o, hk3 c o (hCI c (List.mem_map.mpr ⟨_, mem_of_lookup e, rfl⟩)) ho, hd⟩
    refine asg gh v _ m₁ cm₁ _ _ F₃ fun h₄ k₄ c F₄ hsb hc => ?_
    have hDc : ∀ d ∈ D, d ≠ c := fun d hd q => by
      rcases hc with e | e
      · exact (hDL d hd).1 (q.trans e)
      · exact (hDL d hd).2 (q ▸ e)
    have hD4 : ∀ d ∈ D, ∀ o, h₁.get? d = some o → h₄.get? d = some o := fun d hd o e => hsb.extBut d o (hDc d hd) (hk3 d o (hDI d hd) e)
    have hIc : I ≠ c := fun q => by
      rcases hc with e | e
      · exact hLI (q.trans e).symm
      · exact hCI c e q.symm
    have hsc : ∀ b ∈ srcs, b ≠ c := fun b hb q => by
      obtain ⟨o, e⟩ := hsrc b hb
      rcases hc with h' | h'
      · rw [q, h', F.off] at e; cases e
      · obtain ⟨p, hp, rfl⟩ := List.mem_map.mp h'
        rw [q, F.coff p hp] at e; cases e
    have hst₄ : St (i + 1) h₄ := W.frame _ _ _ hst₃ fun b hb o e => hsb.extBut b o (by rcases hfpk b hb with rfl | hb'; exact hIc; exact hsc b hb') e
    have GW := F₄.grow D
    refine wpAny_mono (Wp.run (turn _ i v h₄ m₁ cm₁ k₄ _ (GW.2 hD) (fun d hd => hideAll_none _ (List.mem_cons_of_mem _ (List.mem_append_right _ hd))) hlt hv (Jm _ _ _ _ _ J₁ hD4) (fun d hd => let ⟨o, e⟩ := hD₁ d hd; ⟨o, hD4 d hd o e⟩) GW.1)) (fun f s₃ hf => ?_) fun _ _ x => x
    cases f with
    | next =>
      obtain ⟨h₅, k₅, m₅, cm₅, rfl, F₅, J₅, hD₅⟩ := hf
      refine ⟨n - (i + 1), by omega, i + 1, h₅, k₅, m₅, cm₅, rfl, hlt, rfl, ?_, F₅.weaken (GW.2 hD), J₅, hD₅⟩
      refine W.frame _ _ _ hst₄ fun b hb o e => F₅.base b o (hideAll_get _ e fun hm => ?_)
      rcases hfpk b hb with rfl | hb'
      · rcases List.mem_cons.mp hm with e' | hm
        · exact hLI e'.symm
        · rcases List.mem_append.mp hm with hm | hm
          · exact hCI _ hm rfl
          · exact hDI _ hm rfl
      · obtain ⟨o', e'⟩ := hsrc b hb'
        rcases List.mem_cons.mp hm with q | hm
        · rw [q, F.off] at e'; cases e'
        · rcases List.mem_append.mp hm with hm | hm
          · obtain ⟨p, hp, rfl⟩ := List.mem_map.mp hm
            rw [F.coff p hp] at e'; cases e'
          · rw [hD _ hm] at e'; cases e'
    | cont => exact hf.elim
    | brk => exact hf
    | ret v => exact hf
  · have hin : i = n := by omega
    subst hin
    refine W.done _ _ _ hst₁ fun h₃ tk₃ hk₃ => ?_
    have hk3 : ∀ b o, b ≠ I → h₁.get? b = some o → h₃.get? b = some o := fun b o hb e => hk₃ b o (fun hm => hb (List.mem_singleton.mp hm)) e
    have F₃ : Fm gh env h₃ m₁ cm₁ := by
      refine ⟨⟨F₁.loc.kind, F₁.loc.ns.at' fun o e => hk3 _ o hLI e, fun n c e => ?_⟩, fun b o e => hk3 b o (fun q => by rw [q, ghI] at e; cases e) (F₁.base b o e), F₁.off, F₁.coff, F₁.apart, F₁.look⟩
      obtain ⟨o, ho, hd⟩ := F₁.loc.cells n c e
      exact ⟨o, hk3 c o (hCI c (List.mem_map.mpr ⟨_, mem_of_lookup e, rfl⟩)) ho, hd⟩
    refine wpAny_mono (Wp.run (done h₃ m₁ cm₁ tk₃ _ (Jm _ _ _ _ _ J₁ fun d hd o e => hk3 d o (hDI d hd) e) (fun d hd => let ⟨o, e⟩ := hD₁ d hd; ⟨o, hk3 d o (hDI d hd) e⟩) F₃)) (fun f s₃ hf => hf) fun _ _ x => x
end
end Mine
end PartQ8
section PartQ9
open PySem PySem.W PyProof.Rows PySem.Calls
set_option maxRecDepth 100000
set_option linter.unusedVariables false
namespace Mine
section
variable {w : World} {A : Around} {env : Env} {gh h h' : Heap} {m cm : Str → Option Value}

theorem ex_forL {s : Shared} {E : Value → Shared → Prop} {Q : Flow → Shared → Prop} {x : Str} {px : Pos} {iter : Expr} {body orelse rest : List Stmt} {pos : Pos} {srcs : List Addr} {n : Nat} {Pv : Nat → Value → Prop} (D : List Addr)
    (hl : env.kindOf x = some .local)
    (F : Fm gh env s.heap m cm) (hD : ∀ d ∈ D, gh.get? d = none) (hDs : ∀ d ∈ D, ∃ o, s.heap.get? d = some o) (hDL : ∀ d ∈ D, d ≠ env.locals ∧ d ∉ env.cells.map (·.2))
    (src : Src w A env s.heap iter srcs n Pv) (hsrc : ∀ b ∈ srcs, ∃ o, gh.get? b = some o)
    (J : Nat → Heap → (Str → Option Value) → (Str → Option Value) → Prop) (J0 : J 0 s.heap m cm)
    (Jm : ∀ i h h' m cm, J i h m cm → (∀ d ∈ D, ∀ o, h.get? d = some o → h'.get? d = some o) → J i h' m cm)
    (turn : ∀ (gb : Heap) i v h₁ m₁ cm₁ k (E' : Value → Shared → Prop), Sub gh gb → (∀ d ∈ D, gb.get? d = none) → i < n → Pv i v → J i h₁ m₁ cm₁ → (∀ d ∈ D, ∃ o, h₁.get? d = some o) → Fm gb env h₁ (up m₁ x v) cm₁ →
      Wp w A (execs body env) (fun f s₃ => match f with
        | .next => ∃ h₃ k₃ m₃ cm₃, s₃ = { s with heap := h₃, toks := k₃ } ∧ Fm gb env h₃ m₃ cm₃ ∧ J (i + 1) h₃ m₃ cm₃ ∧ (∀ d ∈ D, ∃ o, h₃.get? d = some o)
        | .cont => False
        | .brk => Wp w A (execs rest env) Q E s₃
        | .ret v => Q (.ret v) s₃) E' { s with heap := h₁, toks := k })
    (done : ∀ h₁ m₁ cm₁ k (E' : Value → Shared → Prop), J n h₁ m₁ cm₁ → (∀ d ∈ D, ∃ o, h₁.get? d = some o) → Fm gh env h₁ m₁ cm₁ → Wp w A (execs orelse env) (fun f s₃ => match f with | .next => Wp w A (execs rest env) Q E s₃ | f => Q f s₃) E' { s with heap := h₁, toks := k })
    (hs : ∀ x, foldedSetIterable iter env x = pure x := by intro _; rfl) :
    Wp w A (execs (.For (.Name x px) iter body orelse pos :: rest) env) Q E s :=
  for_core (fun m v => up m x v) (fun cm _ => cm) (fun g' v s' m₁ cm₁ E' Q' F' hq => wpAny_assign_Name (wpAny_storeName_local hl F'.loc.ns (fun h₂ hn₂ hs₂ => hq h₂ _ _ (F'.setLocal hn₂ hs₂) hs₂ (.inl rfl)) (by rw [F'.loc.kind]; rfl)))
    F hD hDs hDL src hsrc J J0 Jm turn done hs (fun _ _ => rfl)
theorem ex_forC {s : Shared} {E : Value → Shared → Prop} {Q : Flow → Shared → Prop} {x : Str} {px : Pos} {iter : Expr} {body orelse rest : List Stmt} {pos : Pos} {srcs : List Addr} {n : Nat} {Pv : Nat → Value → Prop} {c : Addr} (D : List Addr)
    (hl : env.kindOf x = some .cell) (hc : env.cells.lookup x = some c)
    (F : Fm gh env s.heap m cm) (hD : ∀ d ∈ D, gh.get? d = none) (hDs : ∀ d ∈ D, ∃ o, s.heap.get? d = some o) (hDL : ∀ d ∈ D, d ≠ env.locals ∧ d ∉ env.cells.map (·.2))
    (src : Src w A env s.heap iter srcs n Pv) (hsrc : ∀ b ∈ srcs, ∃ o, gh.get? b = some o)
    (J : Nat → Heap → (Str → Option Value) → (Str → Option Value) → Prop) (J0 : J 0 s.heap m cm)
    (Jm : ∀ i h h' m cm, J i h m cm → (∀ d ∈ D, ∀ o, h.get? d = some o → h'.get? d = some o) → J i h' m cm)
    (turn : ∀ (gb : Heap) i v h₁ m₁ cm₁ k (E' : Value → Shared → Prop), Sub gh gb → (∀ d ∈ D, gb.get? d = none) → i < n → Pv i v → J i h₁ m₁ cm₁ → (∀ d ∈ D, ∃ o, h₁.get? d = some o) → Fm gb env h₁ m₁ (up cm₁ x v) →
      Wp w A (execs body env) (fun f s₃ => match f with
        | .next => ∃ h₃ k₃ m₃ cm₃, s₃ = { s with heap := h₃, toks := k₃ } ∧ Fm gb env h₃ m₃ cm₃ ∧ J (i + 1) h₃ m₃ cm₃ ∧ (∀ d ∈ D, ∃ o, h₃.get? d = some o)
        | .cont => False
        | .brk => Wp w A (execs rest env) Q E s₃
        | .ret v => Q (.ret v) s₃) E' { s with heap := h₁, toks := k })
    (done : ∀ h₁ m₁ cm₁ k (E' : Value → Shared → Prop), J n h₁ m₁ cm₁ → (∀ d ∈ D, ∃ o, h₁.get? d = some o) → Fm gh env h₁ m₁ cm₁ → Wp w A (execs orelse env) (fun f s₃ => match f with | .next => Wp w A (execs rest env) Q E s₃ | f => Q f s₃) E' { s with heap := h₁, toks := k })
    (hs : ∀ x, foldedSetIterable iter env x = pure x := by intro _; rfl) :
    Wp w A (execs (.For (.Name x px) iter body orelse pos :: rest) env) Q E s :=
  for_core (fun m _ => m) (fun cm v => up cm x v) (fun g' v s' m₁ cm₁ E' Q' F' hq => wpAny_assign_Name (wpAny_storeName_cell F'.loc.kind hl hc (F'.loc.cells x c hc) (fun h₂ hn₂ hs₂ => hq h₂ _ _ (F'.setCell hc hn₂ hs₂) hs₂ (.inr (List.mem_map.mpr ⟨_, mem_of_lookup hc, rfl⟩)))))
    F hD hDs hDL src hsrc J J0 Jm turn done hs (fun _ _ => rfl)

theorem ex_append {s : Shared} {E : Value → Shared → Prop} {Q : Flow → Shared → Prop} {o e : Expr} {ap cp ep : Pos} {rest : List Stmt} {D : Addr} {items : Array Value} {V : Value → Heap → Prop}
    (ho : Ev w A env s.heap o (· = .ref D)) (hl : s.heap.PlainList D items) (he : EvK w A env s.heap e V) (hsz : items.size ≤ sizeLine)
    (hq : ∀ v h₁ h₂ k, Sub s.heap h₁ → V v h₁ → h₂.PlainList D (items.push v) → Heap.SameBut D h₁ h₂ → Wp w A (execs rest env) Q E { s with heap := h₂, toks := k })
    (hi : interactive env = false := by rfl) (hsw : swapsWith (.Call (.Attribute o "append" ap) [e] [] cp) none ep.line env = pure false := by rfl)
    (hbase : attributeBase o "append" env (eval o env) = eval o env := by rfl) (hst : backTo cp (starEach [e] env) = [(false, eval e env)] := by rfl) (hline : (ap.endLine == cp.line) = true := by rfl) :
    Wp w A (execs (.Expr (.Call (.Attribute o "append" ap) [e] [] cp) ep :: rest) env) Q E s := by
  refine ex_seq (wpAny_Expr (wpAny_Call_method hbase (by rw [hst]; rfl) hline F.plainAttrs_list slot_list_append F.type_list_append (Wp.run (ho s E _ rfl fun v k hv => ?_))) hi hsw)
  subst hv
  obtain ⟨n, hg⟩ := id hl
  refine ⟨⟨_, hg, rfl⟩, (fun a e => by cases e; exact ⟨_, hg, rfl⟩), ?_⟩
  rw [hst]
  refine callWith_builtin rfl (evalArgs_plain (spliced_cons (Wp.run (he _ E _ rfl fun v h₁ k₁ hs₁ hV => spliced_nil ?_))))
  exact wpAny_list_append_plain (s := { s with heap := h₁, toks := k₁ }) (hl.at fun o e => hs₁ _ o e) (fun h₂ hl₂ hs₂ => hq v h₁ h₂ k₁ hs₁ hV hl₂ hs₂) hsz
end
end Mine
end PartQ9
section PartQ10
open PySem PySem.W PyProof.Rows PySem.Calls
set_option maxRecDepth 100000
set_option linter.unusedVariables false
namespace Mine

/-- the words of the set places below i -/
def setW (N : Nat) (i : Nat) : List Str := ((List.range i).filter fun j => N / 2 ^ j % 2 == 1).map wordS
def Fl (N i : Nat) : Nat := 2 ^ i * (N / 2 ^ i)
def flagsS (N : Nat) : Str := if N = 0 then ("0x0" : Str) else Txt.join (", " : Str) (setW N 32)
theorem setW_succ (N i : Nat) : setW N (i + 1) = setW N i ++ (if N / 2 ^ i % 2 = 1 then [wordS i] else []) := by
  unfold setW
  rw [List.range_succ, List.filter_append, List.map_append]
  congr 1
  by_cases h : N / 2 ^ i % 2 = 1
  · rw [if_pos h]; simp [h]
  · rw [if_neg h]; simp [h]
theorem div_succ (N i : Nat) : N / 2 ^ (i + 1) = N / 2 ^ i / 2 := by rw [Nat.pow_succ, Nat.div_div_eq_div_mul]
theorem Fl_div (N i : Nat) : Fl N i / 2 ^ i = N / 2 ^ i := by unfold Fl; exact Nat.mul_div_cancel_left _ (Nat.pow_pos (by decide))
theorem Fl_bit {N i : Nat} (h : N / 2 ^ i % 2 = 1) : Fl N (i + 1) + 2 ^ i = Fl N i := by
  unfold Fl
  rw [div_succ]
  generalize N / 2 ^ i = q at h
  have : q = 2 * (q / 2) + 1 := by omega
  rw [Nat.pow_succ]
  conv => rhs; rw [this]
  rw [Nat.mul_add, Nat.mul_assoc, Nat.mul_one]
theorem Fl_no {N i : Nat} (h : ¬ N / 2 ^ i % 2 = 1) : Fl N (i + 1) = Fl N i := by
  unfold Fl
  rw [div_succ]
  generalize N / 2 ^ i = q at h
  have : q = 2 * (q / 2) := by omega
  rw [Nat.pow_succ]
  conv => rhs; rw [this]
  rw [Nat.mul_assoc]
theorem setW_all {N i : Nat} (h : Fl N i = 0) (hi : i ≤ 32) : setW N i = setW N 32 := by
  have h0 : N / 2 ^ i = 0 := by
    unfold Fl at h
    rcases Nat.mul_eq_zero.mp h with h | h
    · exact absurd h (Nat.ne_of_gt (Nat.pow_pos (by decide)))
    · exact h
  have key : ∀ d, setW N (i + d) = setW N i := by
    intro d
    induction d with
    | zero => rfl
    | succ d ih =>
      have : N / 2 ^ (i + d) = 0 := by rw [Nat.pow_add, ← Nat.div_div_eq_div_mul, h0, Nat.zero_div]
      rw [← Nat.add_assoc, setW_succ, ih, this]
      simp
  have := key (32 - i)
  rw [show i + (32 - i) = 32 by omega] at this
  exact this.symm
theorem and_bit (N i : Nat) : Builtin.bitAnd ((Fl N i : Nat) : Int) (2 ^ i) = if N / 2 ^ i % 2 = 1 then 2 ^ i else 0 := by
  rw [kbt_bit]
  have e : ((Fl N i : Nat) : Int) / 2 ^ i = ((N / 2 ^ i : Nat) : Int) := by
    have := Fl_div N i
    rw [← this]
    push_cast
    rfl
  rw [e]
  have e2 : ((N / 2 ^ i : Nat) : Int) % 2 = ((N / 2 ^ i % 2 : Nat) : Int) := by push_cast; rfl
  rw [e2]
  split
  · rename_i h; rw [h]; simp
  · rename_i h
    have : N / 2 ^ i % 2 = 0 := by omega
    rw [this]; simp
theorem name_cases : ∀ i : Fin 32, (match flagTab.lookup ((2 : Int) ^ i.1) with | some x => x | none => PySem.baseText "0x" 16 ((2 : Int) ^ i.1)) = wordS i.1 ∧ (PySem.baseText "0x" 16 ((2 : Int) ^ i.1)).length ≤ 100 ∧ (wordS i.1).length ≤ 100 := by decide +kernel
theorem hex0 : PySem.baseText "0x" 16 0 = ("0x0" : Str) := by decide +kernel

section
variable {w : World} {A : Around} {env : Env} {gh h h' : Heap} {m cm : Str → Option Value}
theorem ev_shl {l r : Expr} {pos : Pos} {a n : Int} (hl : Ev w A env h l (IsI a)) (hr : Ev w A env h r (IsI n)) (h0 : 0 ≤ n) (h1 : n ≤ 1000000) (ha : a.natAbs < 2 ^ 64) : Ev w A env h (.BinOp l .LShift r pos) (IsI (a * 2 ^ n.toNat)) :=
  ev_bin hl hr fun x y s E Q _ ⟨t, hx⟩ ⟨u, hy⟩ hq => by subst hx; subst hy; exact lshift_int_small h0 h1 ha (hq _ _ ⟨_, rfl⟩)
theorem ev_and {l r : Expr} {pos : Pos} {a b : Int} (hl : Ev w A env h l (IsI a)) (hr : Ev w A env h r (IsI b)) : Ev w A env h (.BinOp l .BitAnd r pos) (IsI (Builtin.bitAnd a b)) :=
  ev_bin hl hr fun x y s E Q _ ⟨t, hx⟩ ⟨u, hy⟩ hq => by subst hx; subst hy; exact and_int (hq _ _ ⟨_, rfl⟩)
theorem tst_int {e : Expr} {a : Int} (he : Ev w A env h e (IsI a)) (hv : ∀ whole : Sem Value, isTrue e env whole = (do let v ← whole; standAt e.pos; holding [v] (truthy v))) : TstK w A env h e (a != 0) := fun s E Q hs hq => by
  subst hs
  refine ⟨wpAny_isTrue_value (Wp.run (he s E _ rfl fun v k hv => ?_)) (hv _)⟩
  obtain ⟨t, rfl⟩ := hv
  exact PyProof.Rows.truthy_int (hq _ _ (Sub.refl _))
theorem tst_not {e : Expr} {pos : Pos} {b : Bool} (he : TstK w A env h e b) : TstK w A env h (.UnaryOp .Not e pos) (!b) := fun s E Q hs hq =>
  ⟨wpAny_isTrue_Not (Wp.run (he s E _ hs fun h' k hs' => hq h' k hs'))⟩
theorem ex_break {s : Shared} {E : Value → Shared → Prop} {Q : Flow → Shared → Prop} {pos : Pos} {rest : List Stmt} (h : Q .brk s) : Wp w A (execs (.Break pos :: rest) env) Q E s := ex_seq (wpAny_Break h)
theorem ex_aug {s : Shared} {E : Value → Shared → Prop} {Q : Flow → Shared → Prop} {x : Str} {px pos : Pos} {op : Operator} {value : Expr} {rest : List Stmt} {V1 V2 V : Value → Prop} {v₀ : Value} (F : Fm gh env s.heap m cm) (hl : env.kindOf x = some .local) (hx : m x = some v₀) (h1 : V1 v₀)
    (hv : Ev w A env s.heap value V2)
    (hop : ∀ a b (s : Shared) (E : Value → Shared → Prop) (Q : Value → Shared → Prop), V1 a → V2 b → (∀ x k, V x → Q x { s with toks := k }) → wpAny (model P w) A (inplaceOp op a b) Q E s)
    (hq : ∀ v h₂ k, V v → Heap.SameBut env.locals s.heap h₂ → Fm gh env h₂ (up m x v) cm → Wp w A (execs rest env) Q E { s with heap := h₂, toks := k }) :
    Wp w A (execs (.AugAssign (.Name x px) op value pos :: rest) env) Q E s :=
  ex_seq (wpAny_AugAssign_Name (wpAny_loadName_local F.loc.kind hl F.loc.ns hx (Wp.run (hv s E _ rfl fun b k hb => hop v₀ b _ E _ h1 hb fun v k' hV => wpAny_storeName_local hl F.loc.ns (fun h₂ hn₂ hs₂ => hq v h₂ _ hV hs₂ (F.setLocal hn₂ hs₂)) (by rw [F.loc.kind]; rfl)))))
theorem PlainList.same {L D : Addr} {ys : Array Value} (x : h.PlainList D ys) (hn : h.Ns L m) (hs : Heap.SameBut L h h') : h'.PlainList D ys := x.at fun o e => hs.extBut D o (Ns.ne_list hn x.isList) e
theorem PlainList.sub {D : Addr} {ys : Array Value} (x : h.PlainList D ys) (k : Sub h h') : h'.PlainList D ys := x.at fun o e => k _ o e

/-- COMPILER_FLAG_NAMES.get(flag, hex(flag)) -/
theorem evk_flagName {p1 p2 p3 ap cp : Pos} {i : Nat} (g : G w h) (hk : env.scope.kind = .function) (hg : env.globals = mainGlobals) (hb : env.builtins = builtinsNs) (k1 : env.kindOf "COMPILER_FLAG_NAMES" = some .globalImplicit) (k2 : env.kindOf "hex" = some .globalImplicit)
    (hf : ∀ {pos}, Ev w A env h (.Name "flag" pos) (IsI (2 ^ i))) (hi : i < 32)
    (hline : (ap.endLine == cp.line) = true := by rfl) {pa pb : Pos} :
    EvK w A env h (.Call (.Attribute (.Name "COMPILER_FLAG_NAMES" p1) "get" ap) [.Name "flag" p2, .Call (.Name "hex" p3) [.Name "flag" pa] [] pb] [] cp) (fun v _ => IsS (wordS i) v) := fun s E Q hs hq => by
  subst hs
  obtain ⟨mg, mb, a, b, ⟨_, _, hc, _⟩, ⟨_, _, _, hx, _⟩, ⟨_, _, _, hy, _⟩⟩ := g.ns
  obtain ⟨f, hmap, hin, hout⟩ := g.tab
  have nc := name_cases ⟨i, hi⟩
  dsimp only at nc
  have hst : backTo cp (starEach [.Name "flag" p2, .Call (.Name "hex" p3) [.Name "flag" pa] [] pb] env) = [(false, eval (.Name "flag" p2) env), (false, eval (.Call (.Name "hex" p3) [.Name "flag" pa] [] pb) env)] := rfl
  have e1 : Ev w A env s.heap (.Name "COMPILER_FLAG_NAMES" p1) (· = .ref 29) := ev_global hk k1 hg a hc
  have e2 : Ev w A env s.heap (.Name "hex" p3) (· = .builtin "hex") := ev_builtin hk k2 hg hb a b hx hy
  refine ⟨wpAny_Call_method rfl (by rw [hst]; rfl) hline F.plainAttrs_dict F.slot_dict_get F.type_dict_get (Wp.run (e1 s E _ rfl fun v k hv => ?_))⟩
  subst hv
  refine ⟨hmap.typeIs, hmap.noDict, ?_⟩
  rw [hst]
  refine wpAny_dict_get2 (knd := intKind P w) (by decide) (Wp.run (hf _ E _ rfl fun v k₁ hv => ?_))
  obtain ⟨t, rfl⟩ := hv
  refine wpAny_Call_NameR (Wp.run (e2 _ E _ rfl fun v k₂ hv => ?_))
  subst hv
  refine callWith_builtin rfl (evalArgs_plain (spliced_cons (Wp.run (hf _ E _ rfl fun v k₃ hv => spliced_nil ?_))))
  obtain ⟨u, rfl⟩ := hv
  refine PySem.P.hex_of_int ?_ (Nat.le_trans nc.2.1 (by rw [sizeLine_is]; decide))
  refine ⟨_, f, intKind_is P w _ _, hmap, ?_⟩
  refine hq _ _ _ (Sub.refl _) ?_
  cases hl : flagTab.lookup ((2 : Int) ^ i) with
  | some x =>
    obtain ⟨t', e⟩ := hin _ _ hl
    rw [e]
    have := nc.1
    rw [hl] at this
    exact ⟨t', by rw [← this]; rfl⟩
  | none =>
    rw [hout _ hl]
    have := nc.1
    rw [hl] at this
    exact ⟨_, by rw [← this]; rfl⟩
end
end Mine
end PartQ10
section PartQ11
open PySem PySem.W PyProof.Rows PySem.Calls
set_option maxRecDepth 100000
set_option linter.unusedVariables false
namespace Mine
theorem setW_len (N i : Nat) : (setW N i).length ≤ i := by
  unfold setW; rw [List.length_map]; exact Nat.le_trans (List.length_filter_le _ _) (by simp)
theorem setW_mem {N i : Nat} (hi : i ≤ 32) : ∀ x ∈ setW N i, x.length ≤ 100 := by
  intro x hx
  unfold setW at hx
  obtain ⟨j, hj, rfl⟩ := List.mem_map.mp hx
  have := List.mem_range.mp (List.mem_filter.mp hj).1
  exact (name_cases ⟨j, by omega⟩).2.2
theorem flags_body {w : World} {A : Around} {env : Env} {gh : Heap} {m cm : Str → Option Value} {s : Shared} {E : Value → Shared → Prop} {N : Nat} {t : Tok} (g : G w gh) (F : Fm gh env s.heap m cm) (hh : A.handled = none)
    (kF : env.kindOf "flags" = some .local) (kN : env.kindOf "names" = some .local) (kI : env.kindOf "i" = some .local) (kG : env.kindOf "flag" = some .local) (kC : env.kindOf "COMPILER_FLAG_NAMES" = some .globalImplicit) (kH : env.kindOf "hex" = some .globalImplicit) (kR : env.kindOf "range" = some .globalImplicit)
    (hg : env.globals = mainGlobals) (hb : env.builtins = builtinsNs) (hc0 : env.cells = []) (hin : interactive env = false)
    (hm : m "flags" = some (.int N t)) (hN : N < 2 ^ 32) :
    Wp w A (execs (bodyOf 5) env) (fun f s' => ∃ v, f = .ret v ∧ (∃ h k, s' = { s with heap := h, toks := k }) ∧ Sub gh s'.heap ∧ IsS (flagsS N) v) E s := by
  refine ex_assign F kN (evk_list (R := fun vs => vs = []) (fun s E Q hs hq => ⟨wpAny_items_nil (hq [] s.toks rfl)⟩) (fun vs hv => by rw [hv]; exact Nat.zero_le _)) fun v h₁ h₂ k₂ hs₁ hv hsb F₂ => ?_
  obtain ⟨Dn, vs, rfl, hDn, hpl₁, rfl⟩ := hv
  have hpl₂ := PlainList.same hpl₁ (F.mono hs₁).loc.ns hsb
  have hDg : gh.get? Dn = none := by
    cases e : gh.get? Dn with
    | none => rfl
    | some o => have := F.base Dn o e; rw [hDn] at this; cases this
  have hDa : ∀ {h : Heap} {ys : Array Value}, h.PlainList Dn ys → ∀ d ∈ [Dn], ∃ o, h.get? d = some o := fun hp d hd => by rw [List.mem_singleton.mp hd]; obtain ⟨n, e⟩ := hp; exact ⟨_, e⟩
  have hneL : Dn ≠ env.locals := Ns.ne_list F₂.loc.ns hpl₂.isList
  have fin : ∀ (h₃ : Heap) k₃ m₃ cm₃ (E' : Value → Shared → Prop) (ys : List Value) (xs : List Str), Fm gh env h₃ m₃ cm₃ → h₃.PlainList Dn ys.toArray → Paired IsS xs ys → m₃ "names" = some (.ref Dn) → (∀ x ∈ xs, x.length ≤ 100) → xs.length ≤ 33 → Txt.join (", " : Str) xs = flagsS N →
      Wp w A (execs ((bodyOf 5).drop 2) env) (fun f s' => ∃ v, f = .ret v ∧ (∃ h k, s' = { s with heap := h, toks := k }) ∧ Sub gh s'.heap ∧ IsS (flagsS N) v) E' { s with heap := h₃, toks := k₃ } := by
    intro h₃ k₃ m₃ cm₃ E' ys xs F₃ hpl hp hnm hl hlen hj
    refine ex_return (evk_join ev_str ((Ev.k (ev_local F₃.loc kN hnm)).mono fun v h' hs' hv => ⟨Dn, hv, (LS.of hpl hp).mono hs'⟩) (joinOk_of (B := 100) (N := 33) hl hlen (by decide))) fun v h₄ k₄ hs₄ hv => ⟨v, rfl, ⟨_, _, rfl⟩, F₃.base.trans hs₄, hj ▸ hv⟩
  refine ex_forL (n := 32) [Dn] kI F₂ (fun d hd => by rw [List.mem_singleton.mp hd]; exact hDg) (hDa hpl₂) (fun d hd => by rw [List.mem_singleton.mp hd, hc0]; exact ⟨hneL, fun q => by cases q⟩)
    (src_range1 (N := 32) hh ((F₂.g g).range F.loc.kind hg hb kR) ev_int (by decide)) (fun b hb => by cases hb)
    (fun i h m cm => ∃ ys : List Value, h.PlainList Dn ys.toArray ∧ Paired IsS (setW N i) ys ∧ (∃ t, m "flags" = some (.int (Fl N i) t)) ∧ m "names" = some (.ref Dn) ∧ (N = 0 ∨ Fl N i ≠ 0))
    ⟨[], hpl₂, .nil, ⟨t, by rw [show Fl N 0 = N by simp [Fl]]; exact hm⟩, rfl, by rw [show Fl N 0 = N by simp [Fl]]; omega⟩
    (fun i h h' m cm ⟨ys, hpl, r⟩ hk => ⟨ys, hpl.at fun o e => hk Dn (List.mem_singleton.mpr rfl) o e, r⟩) ?_ ?_
  · rintro gb i v h₃ m₃ cm₃ k₃ E' hsub hDb hi ⟨ti, rfl⟩ ⟨ys, hpl, hp, ⟨tf, hf⟩, hnm, hne⟩ hal F₃
    have hf3 : up m₃ "i" (.int i ti) "flags" = some (.int (Fl N i) tf) := hf
    refine ex_assign F₃ kG (Ev.k (ev_shl ev_int ((ev_local F₃.loc kI rfl).mono fun v hv => (⟨ti, hv⟩ : IsI (i : Int) v)) (by omega) (by omega) (by decide))) fun v h₄ h₅ k₅ hs₄ hv hsb₅ F₅ => ?_
    have hv : IsI (2 ^ i) v := by simpa using hv
    have hpl₅ := PlainList.same (PlainList.sub hpl hs₄) (F₃.mono hs₄).loc.ns hsb₅
    have hf5 : up (up m₃ "i" (.int i ti)) "flag" v "flags" = some (.int (Fl N i) tf) := hf
    have hg5 : up (up m₃ "i" (.int i ti)) "flag" v "flag" = some v := rfl
    have hn5 : up (up m₃ "i" (.int i ti)) "flag" v "names" = some (.ref Dn) := hnm
    have eF : ∀ {A : Around} {pos : Pos}, Ev w A env h₅ (.Name "flags" pos) (IsI (Fl N i)) := (ev_local F₅.loc kF hf5).mono fun v hv => ⟨tf, hv⟩
    have eG : ∀ {A : Around} {pos : Pos}, Ev w A env h₅ (.Name "flag" pos) (IsI (2 ^ i)) := (ev_local F₅.loc kG hg5).mono fun u hu => hu ▸ hv
    refine ex_if (tst_int (ev_and eF eG) (fun _ => rfl)) fun h₆ k₆ hs₆ => ?_
    have F₆ := F₅.mono hs₆
    have hpl₆ := PlainList.sub hpl₅ hs₆
    by_cases hbit : N / 2 ^ i % 2 = 1
    · have hb1 : (Builtin.bitAnd ((Fl N i : Nat) : Int) (2 ^ i) != 0) = true := by
        rw [and_bit, if_pos hbit]
        exact bne_iff_ne.mpr (Int.ne_of_gt (Int.pow_pos (by decide)))
      rw [hb1, if_pos rfl]
      have eG6 : ∀ {A : Around} {pos : Pos}, Ev w A env h₆ (.Name "flag" pos) (IsI (2 ^ i)) := (ev_local F₆.loc kG hg5).mono fun u hu => hu ▸ hv
      have hlen := hp.length
      have hsl := setW_len N i
      refine ex_append (ev_local F₆.loc kN hn5) hpl₆ (evk_flagName (F₆.g (g.mono hsub)) F₆.loc.kind hg hb kC kH eG6 hi) (by rw [sizeLine_is]; simp; omega) (fun v' h₇ h₈ k₈ hs₇ hv' hpl₈ hsb₈ => ?_) hin
      have F₈ : Fm gb env h₈ (up (up m₃ "i" (.int i ti)) "flag" v) cm₃ := by
        have F₇ := F₆.mono hs₇
        refine ⟨⟨F₇.loc.kind, F₇.loc.ns.sameBut hsb₈ (Ne.symm hneL), fun n c e => by rw [hc0] at e; cases e⟩, fun b o e => hsb₈.extBut b o (fun q => by rw [q, hDb Dn (List.mem_singleton.mpr rfl)] at e; cases e) (F₇.base b o e), F₇.off, F₇.coff, F₇.apart, F₇.look⟩
      refine ex_aug (V1 := IsI (Fl N i)) (V2 := IsI (2 ^ i)) (V := IsI (Fl N (i + 1))) F₈ kF hf5 ⟨tf, rfl⟩ ((ev_local F₈.loc kG hg5).mono fun u hu => hu ▸ hv) (fun a b s E Q ⟨t1, e1⟩ ⟨t2, e2⟩ hq => by
          subst e1; subst e2
          refine ixor_int ?_
          have e : Builtin.bitXor ((Fl N i : Nat) : Int) (2 ^ i) = ((Fl N (i + 1) : Nat) : Int) := by
            rw [bitXor_and, and_bit, if_pos hbit]
            have := Fl_bit hbit
            have h3 : ((Fl N i : Nat) : Int) = ((Fl N (i + 1) : Nat) : Int) + 2 ^ i := by rw [← this]; push_cast; rfl
            rw [h3]; omega
          rw [e]
          exact hq _ _ ⟨_, rfl⟩) fun v'' h₉ k₉ hv'' hsb₉ F₉ => ?_
      obtain ⟨t9, rfl⟩ := hv''
      have hpl₉ := PlainList.same hpl₈ F₈.loc.ns hsb₉
      have hp' : Paired IsS (setW N (i + 1)) (ys ++ [v']) := by
        rw [setW_succ, if_pos hbit]
        exact paired_append hp (.cons hv' .nil)
      have hpl₉' : h₉.PlainList Dn (ys ++ [v']).toArray := by simpa using hpl₉
      refine ex_if (tst_not (tst_int ((ev_local F₉.loc kF rfl).mono fun v hv => (⟨t9, hv⟩ : IsI (Fl N (i + 1)) v)) (fun _ => rfl))) fun h₁₀ k₁₀ hs₁₀ => ?_
      have F₁₀ := F₉.mono hs₁₀
      by_cases h0 : Fl N (i + 1) = 0
      · have hb2 : (!(((Fl N (i + 1) : Nat) : Int) != 0)) = true := by rw [h0]; rfl
        rw [hb2, if_pos rfl]
        refine ex_break ?_
        have hN0 : N ≠ 0 := fun q => by subst q; simp at hbit
        refine fin h₁₀ _ _ _ _ (ys ++ [v']) (setW N 32) (F₁₀.weaken hsub) (PlainList.sub hpl₉' hs₁₀) ((setW_all h0 (by omega)) ▸ hp') hnm (setW_mem (Nat.le_refl _)) (Nat.le_trans (setW_len N 32) (by decide)) ?_
        unfold flagsS; rw [if_neg hN0]
      · have hb2 : (!(((Fl N (i + 1) : Nat) : Int) != 0)) = false := by
          have : ((Fl N (i + 1) : Nat) : Int) ≠ 0 := by omega
          rw [bne_iff_ne.mpr this]; rfl
        rw [hb2, if_neg (by decide)]
        refine ex_nil (ex_nil (ex_nil ⟨_, _, _, _, rfl, F₁₀, ⟨ys ++ [v'], PlainList.sub hpl₉' hs₁₀, hp', ⟨t9, rfl⟩, hnm, .inr h0⟩, hDa (PlainList.sub hpl₉' hs₁₀)⟩))
    · have hb1 : (Builtin.bitAnd ((Fl N i : Nat) : Int) (2 ^ i) != 0) = false := by rw [and_bit, if_neg hbit]; rfl
      rw [hb1, if_neg (by decide)]
      refine ex_nil (ex_nil ⟨_, _, _, _, rfl, F₆, ⟨ys, hpl₆, ?_, ⟨tf, ?_⟩, hn5, ?_⟩, hDa hpl₆⟩)
      · rw [setW_succ, if_neg hbit, List.append_nil]; exact hp
      · rw [Fl_no hbit]; exact hf5
      · rw [Fl_no hbit]; exact hne
  · rintro h₃ m₃ cm₃ k₃ E' ⟨ys, hpl, hp, ⟨tf, hf⟩, hnm, hne⟩ hal F₃
    have h0 : Fl N 32 = 0 := by
      unfold Fl
      rw [Nat.div_eq_of_lt hN]
    have hN0 : N = 0 := hne.resolve_right (fun q => q h0)
    have hs0 : setW N 32 = [] := by rw [hN0]; decide
    rw [hs0] at hp
    cases hp
    rw [h0] at hf
    obtain ⟨mg, mb, a, b, _, ⟨_, _, _, hx, _⟩, ⟨_, _, _, hy, _⟩⟩ := (F₃.g g).ns
    refine ex_append (V := fun v _ => IsS ("0x0" : Str) v) (ev_local F₃.loc kN hnm) hpl ?_ (by decide) (fun v' h₇ h₈ k₈ hs₇ hv' hpl₈ hsb₈ => ?_) hin
    · intro s' E'' Q' hs' hq'
      have e2 : ∀ {pos : Pos}, Ev w A env h₃ (.Name "hex" pos) (· = .builtin "hex") := ev_builtin F₃.loc.kind kH hg hb a b hx hy
      refine ⟨wpAny_Call_NameR (Wp.run (e2 s' E'' _ hs' fun v k hv => ?_))⟩
      subst hv
      have e3 : ∀ {pos : Pos}, Ev w A env h₃ (.Name "flags" pos) (· = .int ((0 : Nat) : Int) tf) := ev_local F₃.loc kF hf
      have hst : ∀ {pos p : Pos}, backTo pos (starEach [.Name "flags" p] env) = [(false, eval (.Name "flags" p) env)] := rfl
      rw [hst]
      refine callWith_builtin rfl (evalArgs_plain (spliced_cons (Wp.run (e3 _ E'' _ hs' fun v k₁ hv => spliced_nil ?_))))
      subst hv
      refine PySem.P.hex_of_int ?_ (by show (PySem.baseText "0x" 16 0).length ≤ _; rw [hex0, sizeLine_is]; decide)
      subst hs'
      exact hq' _ _ _ (Sub.refl _) ⟨_, by show Value.str (PySem.baseText "0x" 16 0) _ = _; rw [hex0]⟩
    · have F₈ : Fm gh env h₈ m₃ cm₃ := by
        have F₇ := F₃.mono hs₇
        refine ⟨⟨F₇.loc.kind, F₇.loc.ns.sameBut hsb₈ (Ne.symm hneL), fun n c e => by rw [hc0] at e; cases e⟩, fun b o e => hsb₈.extBut b o (fun q => by rw [q, hDg] at e; cases e) (F₇.base b o e), F₇.off, F₇.coff, F₇.apart, F₇.look⟩
      refine ex_nil (fin h₈ _ _ _ _ [v'] ["0x0"] F₈ (by simpa using hpl₈) (.cons hv' .nil) hnm (by decide) (by decide) ?_)
      unfold flagsS; rw [if_pos hN0]; decide +kernel
theorem c_flags {w : World} {A : Around} {s : Shared} {N : Nat} {t : Tok} (g : G w s.heap) (room : Room A 3) (hN : N < 2 ^ 32) : CallK w A s (.ref 36) [.int N t] (fun v _ => IsS (flagsS N) v) := by
  refine call_fn (binds := [("flags", .int N t)]) g.flags g.lim (by have := room.depth; omega) (fun _ _ _ _ _ _ _ => rfl) rfl rfl rfl rfl fun q cdv s₁ E' hk F => ?_
  refine ⟨wpAny_mono (Wp.run (flags_body g F room.hand rfl rfl rfl rfl rfl rfl rfl rfl rfl rfl rfl rfl hN)) (fun f s' hf => ?_) fun _ _ z => z⟩
  obtain ⟨v, rfl, hs', hb, hv⟩ := hf
  exact ⟨v, rfl, keeps_to hk hb hs', hv⟩
end Mine
end PartQ11
section PartQ12
open PySem PySem.W PyProof.Rows PySem.Calls
set_option maxRecDepth 100000
set_option linter.unusedVariables false
namespace Mine
section
variable {w : World} {A : Around} {env : Env} {gh h h' : Heap} {m cm : Str → Option Value}
theorem evk_call1 {fn : Str} {p pos : Pos} {e : Expr} {a : Addr} {o : Obj} {fd : FuncData} {V1 V : Value → Heap → Prop} (hf : Ev w A env h (.Name fn p) (· = .ref a)) (ho : h.get? a = some o) (hd : o.data = .func fd) (he : EvK w A env h e V1)
    (hc : ∀ v (s : Shared), Sub h s.heap → V1 v s.heap → CallK w A s (.ref a) [v] V) (hse : backTo pos (starEach [e] env) = [(false, eval e env)] := by rfl) : EvK w A env h (.Call (.Name fn p) [e] [] pos) V := fun s E Q hs hq => by
  refine ⟨wpAny_Call_NameR (Wp.run (hf s E _ hs fun f k hf => ?_))⟩
  subst hf
  rw [hse]
  refine callWith_function (o := o) (fd := fd) (evalArgs_plain (spliced_cons (Wp.run (he _ E _ hs fun v h₁ k₁ hs₁ hv => spliced_nil ⟨⟨hs₁ _ _ ho, hd⟩, ?_⟩))))
  exact Wp.run (hc v { s with heap := h₁, toks := k₁ } hs₁ hv E Q fun r h₂ k₂ hs₂ hr => hq r h₂ k₂ (hs₁.trans hs₂) hr)
theorem evk_call2 {fn : Str} {p pos : Pos} {e1 e2 : Expr} {a : Addr} {o : Obj} {fd : FuncData} {V1 : Value → Prop} {V2 V : Value → Heap → Prop} (hf : Ev w A env h (.Name fn p) (· = .ref a)) (ho : h.get? a = some o) (hd : o.data = .func fd) (he1 : Ev w A env h e1 V1) (he2 : EvK w A env h e2 V2)
    (hc : ∀ v1 v2 (s : Shared), Sub h s.heap → V1 v1 → V2 v2 s.heap → CallK w A s (.ref a) [v1, v2] V) (hse : backTo pos (starEach [e1, e2] env) = [(false, eval e1 env), (false, eval e2 env)] := by rfl) : EvK w A env h (.Call (.Name fn p) [e1, e2] [] pos) V := fun s E Q hs hq => by
  refine ⟨wpAny_Call_NameR (Wp.run (hf s E _ hs fun f k hf => ?_))⟩
  subst hf
  rw [hse]
  refine callWith_function (o := o) (fd := fd) (evalArgs_plain (spliced_cons (Wp.run (he1 _ E _ hs fun v1 k₁ hv1 => spliced_cons (Wp.run (he2 _ E _ hs fun v2 h₂ k₂ hs₂ hv2 => spliced_nil ⟨⟨hs₂ _ _ ho, hd⟩, ?_⟩))))))
  exact Wp.run (hc v1 v2 { s with heap := h₂, toks := k₂ } hs₂ hv1 hv2 E Q fun r h₃ k₃ hs₃ hr => hq r h₃ k₃ (hs₂.trans hs₃) hr)
theorem tst_bool {e : Expr} {b : Bool} (he : EvK w A env h e (fun v _ => v = .bool b)) (hv : ∀ whole : Sem Value, isTrue e env whole = (do let v ← whole; standAt e.pos; holding [v] (truthy v))) : TstK w A env h e b := fun s E Q hs hq => by
  refine ⟨wpAny_isTrue_value (Wp.run (he s E _ hs fun v h₁ k hs₁ hv => ?_)) (hv _)⟩
  subst hv
  exact wpAny_truthy_bool (hq _ _ hs₁)
theorem evk_tupleR {pos : Pos} {n : Nat} {elts : List Expr} {R : List Value → Prop} (he : Evs w A env h pos elts R) (hx : ∀ vs, R vs → vs.length ≤ sizeLine) :
    EvK w A env h (.Tuple elts n pos) (fun v h' => ∃ (a : Addr) (vs : List Value) (k : Nat), v = .ref a ∧ h.get? a = none ∧ h'.get? a = some { cls := .type "tuple", data := .seq vs.toArray k } ∧ R vs) := fun s E Q hs hq => by
  subst hs
  refine ⟨wpAny_Tuple (Wp.run (he s E _ rfl fun vs k hvs => ⟨hx vs hvs, hq _ _ _ (Sub.push _ _) ⟨_, vs, _, rfl, Heap.get?_none_of_le (Nat.le_refl _), Heap.get?_push_size _ rfl, hvs⟩⟩))⟩
theorem evs_two {pos : Pos} {e1 e2 : Expr} {a b : Value} (h1 : Ev w A env h e1 (· = a)) (h2 : Ev w A env h e2 (· = b)) (hs1 : starEach [e1, e2] env = (false, eval e1 env) :: starEach [e2] env := by rfl) (hs2 : starEach [e2] env = (false, eval e2 env) :: starEach [] env := by rfl) :
    Evs w A env h pos [e1, e2] (fun vs => vs = [a, b]) := fun s E Q hs hq =>
  ⟨wpAny_items_cons (Wp.run (h1 s E _ hs fun v k hv => wpAny_items_cons (Wp.run (h2 _ E _ hs fun u k' hu => wpAny_items_nil (hq _ k' (by rw [hv, hu])))) hs2)) hs1⟩
theorem Fm.setList {D : Addr} (F : Fm gh env h m cm) (hs : Heap.SameBut D h h') (hD : gh.get? D = none) (hL : D ≠ env.locals) (hC : D ∉ env.cells.map (·.2)) : Fm gh env h' m cm := by
  refine ⟨⟨F.loc.kind, F.loc.ns.sameBut hs (Ne.symm hL), fun n c e => (F.loc.cells n c e).sameBut hs fun q => hC (q ▸ List.mem_map.mpr ⟨_, mem_of_lookup e, rfl⟩)⟩, fun b o e => hs.extBut b o (fun q => by rw [q, hD] at e; cases e) (F.base b o e), F.off, F.coff, F.apart, F.look⟩
theorem Fm.listOff {D : Addr} {ys : Array Value} (F : Fm gh env h m cm) (hl : h.PlainList D ys) : D ≠ env.locals ∧ D ∉ env.cells.map (·.2) := by
  refine ⟨Ns.ne_list F.loc.ns hl.isList, fun hm => ?_⟩
  obtain ⟨p, hp, rfl⟩ := List.mem_map.mp hm
  exact Cell.ne_list (F.loc.cells _ _ (F.look p hp)) hl.isList rfl
end

theorem split_body {w : World} {A : Around} {env : Env} {gh : Heap} {m cm : Str → Option Value} {s : Shared} {E : Value → Shared → Prop} {a f : Addr} {of : Obj} {fdf : FuncData} {xs : List Str} (pb : Str → Bool) (F : Fm gh env s.heap m cm) (hh : A.handled = none)
    (kS : env.kindOf "s" = some .local) (kP : env.kindOf "predicate" = some .local) (kY : env.kindOf "yes" = some .local) (kN : env.kindOf "no" = some .local) (kX : env.kindOf "x" = some .local) (hin : interactive env = false)
    (hms : m "s" = some (.ref a)) (hmp : m "predicate" = some (.ref f)) (hl : LS gh a xs) (hf : gh.get? f = some of) (hfd : of.data = .func fdf) (hlen : xs.length ≤ 1000)
    (hp : ∀ (s' : Shared) v x, Sub gh s'.heap → IsS x v → x ∈ xs → CallK w A s' (.ref f) [v] (fun r _ => r = .bool (pb x))) :
    Wp w A (execs (bodyOf 2) env) (fun fl s' => ∃ v, fl = .ret v ∧ (∃ h k, s' = { s with heap := h, toks := k }) ∧ Sub gh s'.heap ∧
      ∃ (T D1 D2 : Addr) (k : Nat) (ys zs : List Value), v = .ref T ∧ gh.get? T = none ∧ gh.get? D1 = none ∧ gh.get? D2 = none ∧ D1 ≠ D2 ∧ s'.heap.get? T = some { cls := .type "tuple", data := .seq #[.ref D1, .ref D2] k } ∧ s'.heap.PlainList D1 ys.toArray ∧ s'.heap.PlainList D2 zs.toArray ∧ Paired IsS (xs.filter pb) ys ∧ Paired IsS (xs.filter fun x => !pb x) zs) E s := by
  have nil : ∀ {h : Heap} {pos : Pos}, EvK w A env h (.List [] pos) (fun v h' => ∃ a vs, v = .ref a ∧ h.get? a = none ∧ h'.PlainList a (List.toArray vs) ∧ vs = []) := evk_list (R := fun vs => vs = []) (fun s E Q hs hq => ⟨wpAny_items_nil (hq [] s.toks rfl)⟩) (fun vs hv => by rw [hv]; exact Nat.zero_le _)
  refine ex_assign F kY nil fun v h₁ h₂ k₂ hs₁ hv hsb F₂ => ?_
  obtain ⟨D1, vs, rfl, hD1, hpl1, rfl⟩ := hv
  have hpl1 := PlainList.same hpl1 (F.mono hs₁).loc.ns hsb
  refine ex_assign F₂ kN nil fun v h₃ h₄ k₄ hs₃ hv hsb₄ F₄ => ?_
  obtain ⟨D2, vs, rfl, hD2, hpl2, rfl⟩ := hv
  have hpl2 := PlainList.same hpl2 (F₂.mono hs₃).loc.ns hsb₄
  have hpl1 := PlainList.same (PlainList.sub hpl1 hs₃) (F₂.mono hs₃).loc.ns hsb₄
  have g1 : gh.get? D1 = none := by cases e : gh.get? D1 with | none => rfl | some o => exact absurd (F.base D1 o e) (by rw [hD1]; exact fun q => by cases q)
  have g2 : gh.get? D2 = none := by cases e : gh.get? D2 with | none => rfl | some o => exact absurd (F₂.base D2 o e) (by rw [hD2]; exact fun q => by cases q)
  have hne : D1 ≠ D2 := by
    rintro rfl
    obtain ⟨o, e⟩ := PlainList.same (h' := h₂) (by assumption : h₁.PlainList D1 _) (F.mono hs₁).loc.ns hsb
    rw [hD2] at e; cases e
  obtain ⟨vs0, hlist, hpair⟩ := hl
  have hsz : vs0.toArray.size = xs.length := by simp [hpair.length]
  have off1 := F₄.listOff hpl1
  have off2 := F₄.listOff hpl2
  have al : ∀ {h : Heap} {ys zs : Array Value}, h.PlainList D1 ys → h.PlainList D2 zs → ∀ d ∈ [D1, D2], ∃ o, h.get? d = some o := fun h1 h2 d hd => by
    rcases List.mem_cons.mp hd with rfl | hd
    · obtain ⟨n, e⟩ := h1; exact ⟨_, e⟩
    · rw [List.mem_singleton.mp hd]; obtain ⟨n, e⟩ := h2; exact ⟨_, e⟩
  have m1 : D1 ∈ [D1, D2] := List.mem_cons_self
  have m2 : D2 ∈ [D1, D2] := List.mem_cons_of_mem _ List.mem_cons_self
  refine ex_forL (n := vs0.toArray.size) [D1, D2] kX F₄ (fun d hd => by rcases List.mem_cons.mp hd with rfl | hd; exact g1; rw [List.mem_singleton.mp hd]; exact g2) (al hpl1 hpl2)
    (fun d hd => by rcases List.mem_cons.mp hd with rfl | hd; exact off1; rw [List.mem_singleton.mp hd]; exact off2)
    (src_list hh (ev_local F₄.loc kS hms) (hlist.at fun o e => F₄.base _ o e)) (fun b hb => by rw [List.mem_singleton.mp hb]; obtain ⟨o, e, _⟩ := hlist; exact ⟨o, e⟩)
    (fun i h m cm => ∃ ys zs : List Value, h.PlainList D1 ys.toArray ∧ h.PlainList D2 zs.toArray ∧ Paired IsS ((xs.take i).filter pb) ys ∧ Paired IsS ((xs.take i).filter fun x => !pb x) zs ∧ m "yes" = some (.ref D1) ∧ m "no" = some (.ref D2) ∧ m "predicate" = some (.ref f))
    ⟨[], [], hpl1, hpl2, .nil, .nil, rfl, rfl, hmp⟩
    (fun i h h' m cm ⟨ys, zs, h1, h2, r⟩ hk => ⟨ys, zs, h1.at fun o e => hk D1 m1 o e, h2.at fun o e => hk D2 m2 o e, r⟩) ?_ ?_
  · rintro gb i v h₅ m₅ cm₅ k₅ E' hsub hDb hi hv ⟨ys, zs, hy, hz, py, pz, my, mn, mp⟩ hal F₅
    have hv' : vs0[i]? = some v := by simpa using hv
    obtain ⟨x, hx, hxv⟩ := paired_get' hpair i v hv'
    have hmem : x ∈ xs := List.mem_of_getElem? hx
    have htk : xs.take (i + 1) = xs.take i ++ [x] := by rw [List.take_add_one, hx]; rfl
    have mp5 : up m₅ "x" v "predicate" = some (.ref f) := mp
    have my5 : up m₅ "x" v "yes" = some (.ref D1) := my
    have mn5 : up m₅ "x" v "no" = some (.ref D2) := mn
    have ly := py.length
    have lz := pz.length
    have t1 : ((xs.take i).filter pb).length ≤ 1000 := Nat.le_trans (List.length_filter_le _ _) (by rw [List.length_take]; omega)
    have t2 : ((xs.take i).filter fun x => !pb x).length ≤ 1000 := Nat.le_trans (List.length_filter_le _ _) (by rw [List.length_take]; omega)
    refine ex_if (tst_bool (evk_call1 (ev_local F₅.loc kP mp5) (F₅.base _ _ (hsub _ _ hf)) hfd (Ev.k ((ev_local F₅.loc kX rfl).mono fun u hu => (hu ▸ hxv : IsS x u))) (fun u s' hs' hu => hp s' u x (hsub.trans (F₅.base.trans hs')) hu hmem)) (fun _ => rfl)) fun h₆ k₆ hs₆ => ?_
    have F₆ := F₅.mono hs₆
    have o1 := F₆.listOff (PlainList.sub hy hs₆)
    have o2 := F₆.listOff (PlainList.sub hz hs₆)
    cases hpx : pb x with
    | true =>
      rw [if_pos rfl]
      refine ex_append (V := fun u _ => IsS x u) (ev_local F₆.loc kY my5) (PlainList.sub hy hs₆) (Ev.k ((ev_local F₆.loc kX rfl).mono fun u hu => (hu ▸ hxv : IsS x u))) (by rw [sizeLine_is]; simp; omega) (fun v' h₇ h₈ k₈ hs₇ hv' hpl₈ hsb₈ => ?_) hin
      have F₈ := (F₆.mono hs₇).setList hsb₈ (hDb D1 m1) o1.1 o1.2
      have hz8 : h₈.PlainList D2 zs.toArray := (PlainList.sub hz (hs₆.trans hs₇)).at fun o e => hsb₈.extBut D2 o (Ne.symm hne) e
      have hy8 : h₈.PlainList D1 (ys ++ [v']).toArray := by simpa using hpl₈
      refine ex_nil (ex_nil ⟨_, _, _, _, rfl, F₈, ⟨ys ++ [v'], zs, hy8, hz8, ?_, ?_, my5, mn5, mp5⟩, al hy8 hz8⟩)
      · rw [htk, List.filter_append, List.filter_cons, hpx]; exact paired_append py (.cons hv' .nil)
      · rw [htk, List.filter_append, List.filter_cons, hpx]; simpa using pz
    | false =>
      rw [if_neg (by decide)]
      refine ex_append (V := fun u _ => IsS x u) (ev_local F₆.loc kN mn5) (PlainList.sub hz hs₆) (Ev.k ((ev_local F₆.loc kX rfl).mono fun u hu => (hu ▸ hxv : IsS x u))) (by rw [sizeLine_is]; simp; omega) (fun v' h₇ h₈ k₈ hs₇ hv' hpl₈ hsb₈ => ?_) hin
      have F₈ := (F₆.mono hs₇).setList hsb₈ (hDb D2 m2) o2.1 o2.2
      have hy8 : h₈.PlainList D1 ys.toArray := (PlainList.sub hy (hs₆.trans hs₇)).at fun o e => hsb₈.extBut D1 o hne e
      have hz8 : h₈.PlainList D2 (zs ++ [v']).toArray := by simpa using hpl₈
      refine ex_nil (ex_nil ⟨_, _, _, _, rfl, F₈, ⟨ys, zs ++ [v'], hy8, hz8, ?_, ?_, my5, mn5, mp5⟩, al hy8 hz8⟩)
      · rw [htk, List.filter_append, List.filter_cons, hpx]; simpa using py
      · rw [htk, List.filter_append, List.filter_cons, hpx]; exact paired_append pz (.cons hv' .nil)
  · rintro h₅ m₅ cm₅ k₅ E' ⟨ys, zs, hy, hz, py, pz, my, mn, mp⟩ hal F₅
    rw [hsz, List.take_length] at py pz
    refine ex_nil (ex_return (evk_tupleR (evs_two (ev_local F₅.loc kY my) (ev_local F₅.loc kN mn)) (fun vs hv => by rw [hv, sizeLine_is]; show 2 ≤ _; decide)) fun v h₆ k₆ hs₆ hv => ?_)
    obtain ⟨T, vs, k, rfl, hT, hTg, rfl⟩ := hv
    refine ⟨_, rfl, ⟨_, _, rfl⟩, F₅.base.trans hs₆, T, D1, D2, k, ys, zs, rfl, ?_, g1, g2, hne, hTg, PlainList.sub hy hs₆, PlainList.sub hz hs₆, py, pz⟩
    cases e : gh.get? T with
    | none => rfl
    | some o => exact absurd (F₅.base T o e) (by rw [hT]; exact fun q => by cases q)

theorem c_split {w : World} {A : Around} {s : Shared} {a f : Addr} {of : Obj} {fdf : FuncData} {xs : List Str} (pb : Str → Bool) (g : G w s.heap) (room : Room A 5) (hl : LS s.heap a xs) (hf : s.heap.get? f = some of) (hfd : of.data = .func fdf) (hlen : xs.length ≤ 1000)
    (hp : ∀ (A' : Around) (s' : Shared) v x, Room A' 4 → Sub s.heap s'.heap → IsS x v → x ∈ xs → CallK w A' s' (.ref f) [v] (fun r _ => r = .bool (pb x))) :
    CallK w A s (.ref 28) [.ref a, .ref f] (fun v h' => ∃ (T D1 D2 : Addr) (k : Nat) (ys zs : List Value), v = .ref T ∧ s.heap.get? T = none ∧ s.heap.get? D1 = none ∧ s.heap.get? D2 = none ∧ D1 ≠ D2 ∧ h'.get? T = some { cls := .type "tuple", data := .seq #[.ref D1, .ref D2] k } ∧ h'.PlainList D1 ys.toArray ∧ h'.PlainList D2 zs.toArray ∧ Paired IsS (xs.filter pb) ys ∧ Paired IsS (xs.filter fun x => !pb x) zs) := by
  refine call_fn (binds := [("s", .ref a), ("predicate", .ref f)]) g.splitList g.lim (by have := room.depth; omega) (fun _ _ _ _ _ _ _ => rfl) rfl rfl rfl rfl fun q cdv s₁ E' hk F => ?_
  refine ⟨wpAny_mono (Wp.run (split_body pb F room.hand rfl rfl rfl rfl rfl rfl rfl rfl hl hf hfd hlen fun s' v x hs hv hx => hp _ s' v x ⟨room.hand, ?_, ?_⟩ hs hv hx)) (fun f s' hf => ?_) fun _ _ z => z⟩
  · have := room.depth
    show A.depth + 1 + 4 < _
    omega
  · have := room.units
    show A.units + 3 + 10 * 4 < _
    omega
  · obtain ⟨v, rfl, hs', hb, hv⟩ := hf
    exact ⟨v, rfl, keeps_to hk hb hs', hv⟩
end Mine
end PartQ12
section PartQ13
open PySem PySem.W PyProof.Rows PySem.Calls
set_option maxRecDepth 100000
set_option linter.unusedVariables false
namespace Mine
theorem LI.ints {h : Heap} {a : Addr} {ns : List Int} (x : LI h a ns) : ∃ vs : List Value, h.IsList a vs.toArray ∧ IntsAre vs ns := by
  obtain ⟨ys, hl, hp⟩ := x
  refine ⟨ys, hl, ?_⟩
  clear hl
  induction hp with
  | nil => exact .nil
  | cons hv _ ih => obtain ⟨t, rfl⟩ := hv; exact .cons _ _ ih
theorem paired_ints : ∀ {vs : List Value} {ns : List Int}, IntsAre vs ns → Paired IsI ns vs
  | _, _, .nil => .nil
  | _, _, .cons k t r => .cons ⟨t, rfl⟩ (paired_ints r)
section
variable {w : World} {A : Around} {env : Env} {gh h h' : Heap} {m cm : Str → Option Value}

theorem call_sumL {s : Shared} {E : Value → Shared → Prop} {Q : Value → Shared → Prop} {a : Addr} {ns : List Int} (hh : A.handled = none) (hl : LI s.heap a ns) (hq : ∀ h' k t, Sub s.heap h' → Q (.int ns.sum t) { s with heap := h', toks := k }) :
    wpAny (model P w) A (call (.builtin "sum") [.ref a]) Q E s := by
  obtain ⟨ys, hl, hp⟩ := hl
  obtain ⟨ol, hol, hcl⟩ := id hl
  have hlt : a < s.heap.objs.size := Heap.lt_size hol
  have hne : a ≠ s.heap.objs.size := Nat.ne_of_lt hlt
  refine call_sum_walkG (wpAny_pyIter_list hl ?_)
  refine ⟨_, _, _, _, _, _, fun i => ns.getD i 0, rfl, Walks.list (A := A.in1) hh s.heap.objs.size a hne ys.toArray, ⟨⟨_, Heap.get?_push_size _ rfl, rfl, rfl⟩, hl.push _⟩, fun b hb => ?_, fun i v hv => ?_, fun h' k t hk => ?_⟩
  · rw [Heap.size_push]
    rcases List.mem_cons.mp hb with rfl | hb
    · exact Nat.lt_succ_self _
    · rw [List.mem_singleton.mp hb]; exact Nat.lt_succ_of_lt hlt
  · obtain ⟨n, hn, t, e⟩ := paired_get' hp i v (by simpa using hv)
    exact ⟨t, by rw [e]; simp [hn]⟩
  · have e : preSum (fun i => ns.getD i 0) ys.toArray.size = ns.sum := by
      rw [preSum_getD, List.take_of_length_le]
      have := hp.length
      simp; omega
    rw [e]
    exact hq h' k t fun b o e => hk b o (fun hb => by have := Heap.lt_size e; rw [List.mem_singleton.mp hb] at this; exact Nat.lt_irrefl _ this) (Heap.get?_push_of_some _ e)
theorem evk_builtin1 {fn : Str} {id : String} {p pos : Pos} {e : Expr} {V1 V : Value → Heap → Prop} (hf : Ev w A env h (.Name fn p) (· = .builtin id)) (he : EvK w A env h e V1)
    (hc : ∀ v (s : Shared) (E : Value → Shared → Prop) (Q : Value → Shared → Prop), Sub h s.heap → V1 v s.heap → (∀ r h' k, Sub s.heap h' → V r h' → Q r { s with heap := h', toks := k }) → wpAny (model P w) A (call (.builtin id) [v]) Q E s)
    (hse : backTo pos (starEach [e] env) = [(false, eval e env)] := by rfl) : EvK w A env h (.Call (.Name fn p) [e] [] pos) V := fun s E Q hs hq => by
  refine ⟨wpAny_Call_NameR (Wp.run (hf s E _ hs fun f k hf => ?_))⟩
  subst hf
  rw [hse]
  refine callWith_builtin rfl (evalArgs_plain (spliced_cons (Wp.run (he _ E _ hs fun v h₁ k₁ hs₁ hv => spliced_nil ?_))))
  exact hc v { s with heap := h₁, toks := k₁ } E Q hs₁ hv fun r h₂ k₂ hs₂ hr => hq r h₂ k₂ (hs₁.trans hs₂) hr
theorem G.sum {env : Env} (g : G w h) (hk : env.scope.kind = .function) (hg : env.globals = mainGlobals) (hb : env.builtins = builtinsNs) (hx : env.kindOf "sum" = some .globalImplicit) {pos : Pos} {A : Around} : Ev w A env h (.Name "sum" pos) (· = .builtin "sum") := by
  obtain ⟨mg, mb, a, b, _, ⟨_, n, _⟩, ⟨_, v, _⟩⟩ := g.ns
  exact ev_builtin hk hx hg hb a b n v
theorem G.max {env : Env} (g : G w h) (hk : env.scope.kind = .function) (hg : env.globals = mainGlobals) (hb : env.builtins = builtinsNs) (hx : env.kindOf "max" = some .globalImplicit) {pos : Pos} {A : Around} : Ev w A env h (.Name "max" pos) (· = .builtin "max") := by
  obtain ⟨mg, mb, a, b, _, ⟨_, _, _, _, n⟩, ⟨_, _, _, _, v⟩⟩ := g.ns
  exact ev_builtin hk hx hg hb a b n v
theorem evk_sum {p pos : Pos} {e : Expr} {ns : List Int} (hf : Ev w A env h (.Name "sum" p) (· = .builtin "sum")) (hh : A.handled = none) (he : EvK w A env h e (fun v h' => ∃ D, v = .ref D ∧ LI h' D ns)) (hse : backTo pos (starEach [e] env) = [(false, eval e env)] := by rfl) :
    EvK w A env h (.Call (.Name "sum" p) [e] [] pos) (fun v _ => IsI ns.sum v) :=
  evk_builtin1 hf he (fun v s E Q hs hv hq => by obtain ⟨D, rfl, hl⟩ := hv; exact call_sumL hh hl fun h' k t hs' => hq _ h' k hs' ⟨t, rfl⟩) hse

/-- the greatest of a list -/
def maxL (ns : List Int) (v : Int) : Prop := v ∈ ns ∧ ∀ n ∈ ns, n ≤ v
theorem best_max (val : Nat → Int) : ∀ k, (∀ i, i ≤ k → val i ≤ val (argBest (fun i j => decide (val i > val j)) k)) ∧ argBest (fun i j => decide (val i > val j)) k ≤ k
  | 0 => ⟨fun i hi => by have : i = 0 := by omega
                         subst this; exact Int.le_refl _, Nat.le_refl _⟩
  | k + 1 => by
    obtain ⟨h1, h2⟩ := best_max val k
    unfold argBest
    split
    · rename_i hc
      have hc : val (k + 1) > val (argBest (fun i j => decide (val i > val j)) k) := by simpa using hc
      exact ⟨fun i hi => by
        by_cases e : i = k + 1
        · subst e; exact Int.le_refl _
        · have := h1 i (by omega); omega, Nat.le_refl _⟩
    · rename_i hc
      have hc : ¬ val (k + 1) > val (argBest (fun i j => decide (val i > val j)) k) := by simpa using hc
      exact ⟨fun i hi => by
        by_cases e : i = k + 1
        · subst e; omega
        · exact h1 i (by omega), by omega⟩
theorem call_maxL {s : Shared} {E : Value → Shared → Prop} {Q : Value → Shared → Prop} {a : Addr} {ns : List Int} (hh : A.handled = none) (hl : LI s.heap a ns) (hn : ns ≠ []) (hq : ∀ v h' k t, maxL ns v → Sub s.heap h' → Q (.int v t) { s with heap := h', toks := k }) :
    wpAny (model P w) A (call (.builtin "max") [.ref a]) Q E s := by
  obtain ⟨ys, hl, hp⟩ := hl
  obtain ⟨ol, hol, hcl⟩ := id hl
  have hlt : a < s.heap.objs.size := Heap.lt_size hol
  have hne : a ≠ s.heap.objs.size := Nat.ne_of_lt hlt
  have hlen := hp.length
  have h0 : 0 < ys.toArray.size := by
    cases ns with
    | nil => exact absurd rfl hn
    | cons _ _ => simp at hlen ⊢; omega
  refine call_max_walk (wpAny_pyIter_list hl ?_)
  refine ⟨_, _, _, _, _, _, fun i j => decide (ns.getD i 0 > ns.getD j 0), rfl, Walks.list (A := A.in1) hh s.heap.objs.size a hne ys.toArray, ⟨⟨_, Heap.get?_push_size _ rfl, rfl, rfl⟩, hl.push _⟩, fun b hb => ?_, h0, fun i j vi vj s' Q' E' hi hj hQ' => ?_, fun v h' k hv hk => ?_⟩
  · rw [Heap.size_push]
    rcases List.mem_cons.mp hb with rfl | hb
    · exact Nat.lt_succ_self _
    · rw [List.mem_singleton.mp hb]; exact Nat.lt_succ_of_lt hlt
  · obtain ⟨n, hn, t, e⟩ := paired_get' hp i vi (by simpa using hi)
    obtain ⟨n', hn', t', e'⟩ := paired_get' hp j vj (by simpa using hj)
    rw [e, e']
    have e1 : ns.getD i 0 = n := by simp [hn]
    have e2 : ns.getD j 0 = n' := by simp [hn']
    dsimp only at hQ'
    rw [e1, e2] at hQ'
    exact PySem.P.gt_int hQ'
  · obtain ⟨n, hn', t, e⟩ := paired_get' hp _ v (by simpa using hv)
    rw [e]
    obtain ⟨b1, b2⟩ := best_max (fun i => ns.getD i 0) (ys.toArray.size - 1)
    have e1 : ns.getD (argBest (fun i j => decide (ns.getD i 0 > ns.getD j 0)) (ys.toArray.size - 1)) 0 = n := by simp [hn']
    refine hq n h' k t ⟨List.mem_of_getElem? hn', fun q hq' => ?_⟩ fun b o e => hk b o (fun hb => by have := Heap.lt_size e; rw [List.mem_singleton.mp hb] at this; exact Nat.lt_irrefl _ this) (Heap.get?_push_of_some _ e)
    obtain ⟨i, hi, rfl⟩ := List.getElem_of_mem hq'
    have := b1 i (by simp; omega)
    rw [e1] at this
    simpa [hi] using this
end
end Mine
end PartQ13
section PartQ14
open PySem PySem.W PyProof.Rows PySem.Calls PySem.Spec PySem.SeqAt
set_option maxRecDepth 100000
set_option linter.unusedVariables false
namespace Mine
/-! two lists of texts compared -/
theorem readsAll_strs {h : Heap} : ∀ {xs : List Str} {vs : List Value}, Paired IsS xs vs → ReadsAll h vs (xs.map PyData.str) []
  | _, _, .nil => .nil
  | _, _, .cons (a := x) ⟨t, e⟩ r => by
    subst e
    have := ReadsAll.cons (Reads.str (h := h) x t) (readsAll_strs (h := h) r)
    simpa using this
theorem reads_strs {h : Heap} {a : Addr} {vs : List Value} {xs : List Str} (hl : h.IsList a vs.toArray) (hp : Paired IsS xs vs) : Reads h (.ref a) (.list (xs.map PyData.str)) [a] := by
  obtain ⟨o, ho, hc, n, hd⟩ := hl
  exact Reads.list ho hc hd (by simpa using readsAll_strs hp)
theorem canLay_strs : ∀ xs : List Str, (∀ x ∈ xs, PyData.strOk x = true) → PyData.canLayAll0 (xs.map PyData.str) = true
  | [], _ => by simp [PyData.canLayAll0]
  | n :: r, h => by simp [PyData.canLayAll0, PyData.canLay0, canLay_strs r (fun x hx => h x (List.mem_cons_of_mem _ hx)), h n List.mem_cons_self]
theorem depth_strs : ∀ xs : List Str, PyData.depthAll (xs.map PyData.str) ≤ 1
  | [] => by simp [PyData.depthAll]
  | n :: r => by
    have := depth_strs r
    simp only [List.map_cons, PyData.depthAll, PyData.depth]
    omega
theorem shaped_strs (xs : List Str) (hx : ∀ x ∈ xs, PyData.strOk x = true) : shaped (.list (xs.map PyData.str)) = true := by
  have h1 := depth_strs xs
  have h2 : PyData.depth (.list (xs.map PyData.str)) ≤ 64 := by simp only [PyData.depth]; omega
  show (PyData.canLay0 (.list (xs.map PyData.str)) && decide (PyData.depth (.list (xs.map PyData.str)) ≤ 64)) = true
  rw [Bool.and_eq_true]
  exact ⟨by simp only [PyData.canLay0]; exact canLay_strs xs hx, decide_eq_true h2⟩
theorem noMix_strs : ∀ xs ys : List Str, noMixAll (xs.map PyData.str) (ys.map PyData.str) = true
  | [], [] => by simp [noMixAll]
  | [], _ :: _ => by simp [noMixAll]
  | _ :: _, [] => by simp [noMixAll]
  | _ :: r, _ :: q => by simp [noMixAll, noMix, noMix_strs r q]
theorem same_refl : ∀ xs : List Str, PySem.Spec.sameAll (xs.map PyData.str) (xs.map PyData.str) = true
  | [] => by simp [PySem.Spec.sameAll]
  | n :: r => by simp [PySem.Spec.sameAll, PySem.Spec.same, same_refl r]
section
variable {w : World} {A : Around} {env : Env} {gh h h' : Heap} {m cm : Str → Option Value}
theorem ne_lists {s : Shared} {E : Value → Shared → Prop} {Q : Value → Shared → Prop} {a b : Addr} {vs us : List Value} {xs : List Str} (hl : s.heap.IsList a vs.toArray) (hp : Paired IsS xs vs) (hl' : s.heap.IsList b us.toArray) (hp' : Paired IsS xs us) (hu : A.units + 64 < cLine) (hx : ∀ x ∈ xs, PyData.strOk x = true)
    (h : Q (.bool false) s) : wpAny (model P w) A (compareOp .NotEq (.ref a) (.ref b)) Q E s :=
  ne_dataH_same (reads_strs hl hp) (reads_strs hl' hp') (shaped_strs xs hx) (shaped_strs xs hx) hu (by simp only [noMix]; exact noMix_strs xs xs) (by simp only [PySem.Spec.same]; rw [same_refl]; exact h)
/-- a comparison != of two texts that are one -/
theorem tst_neS {l r : Expr} {pos : Pos} {x : Str} (hl : EvK w A env h l (fun v _ => IsS x v)) (hr : ∀ {h'}, Sub h h' → EvK w A env h' r (fun v _ => IsS x v)) (hm : behindInMarks .NotEq r = false := by with_unfolding_all rfl) : TstK w A env h (.Compare l [.NotEq] [r] pos) false := fun s E Q hs hq => by
  refine ⟨wpAny_isTrue_Compare1 (Wp.run (hl s E _ hs fun v h₁ k₁ hs₁ hv => Wp.run (hr hs₁ _ E _ rfl fun u h₂ k₂ hs₂ hu => ?_))) hm⟩
  obtain ⟨t, rfl⟩ := hv
  obtain ⟨t', rfl⟩ := hu
  refine PySem.P.ne_str (wpAny_truthy_bool ?_)
  have : (x.cps.toList != x.cps.toList) = false := by simp
  rw [this]
  exact hq _ _ (hs₁.trans hs₂)
theorem tst_neL {l r : Expr} {pos : Pos} {xs : List Str} (hl : EvK w A env h l (IsL IsS xs)) (hr : ∀ {h'}, Sub h h' → EvK w A env h' r (IsL IsS xs)) (hu : A.units + 64 < cLine) (hx : ∀ x ∈ xs, PyData.strOk x = true) (hm : behindInMarks .NotEq r = false := by with_unfolding_all rfl) : TstK w A env h (.Compare l [.NotEq] [r] pos) false := fun s E Q hs hq => by
  refine ⟨wpAny_isTrue_Compare1 (Wp.run (hl s E _ hs fun v h₁ k₁ hs₁ hv => Wp.run (hr hs₁ _ E _ rfl fun u h₂ k₂ hs₂ hu' => ?_))) hm⟩
  obtain ⟨D1, y1, rfl, l1, p1⟩ := hv.mono hs₂
  obtain ⟨D2, y2, rfl, l2, p2⟩ := hu'
  exact ne_lists (s := { s with heap := h₂, toks := k₂ }) l1 p1 l2 p2 hu hx (wpAny_truthy_bool (hq _ _ (hs₁.trans hs₂)))

/-- xs.count(k) -/
theorem evk_count {o e : Expr} {apos pos : Pos} {a : Addr} {ns : List Int} {k : Int} (ho : Ev w A env h o (· = .ref a)) (hl : LI h a ns) (hpl : ∃ ys, h.PlainList a ys) (he : Ev w A env h e (IsI k))
    (hbase : attributeBase o "count" env (eval o env) = eval o env := by rfl) (hst : backTo pos (starEach [e] env) = [(false, eval e env)] := by rfl) (hline : (apos.endLine == pos.line) = true := by rfl) :
    Ev w A env h (.Call (.Attribute o "count" apos) [e] [] pos) (IsI (ns.count k : Nat)) := fun s E Q hs hq => by
  subst hs
  refine ⟨wpAny_Call_method hbase (by rw [hst]; rfl) hline F.plainAttrs_list F.slot_list_count F.type_list_count (Wp.run (ho s E _ rfl fun v k hv => ?_))⟩
  subst hv
  obtain ⟨vs, hL, hI⟩ := hl.ints
  obtain ⟨ys, n, hg⟩ := hpl
  refine ⟨hL.typeIs, (fun b e => by cases e; exact ⟨_, hg, rfl⟩), ?_⟩
  rw [hst]
  refine callWith_builtin rfl (evalArgs_plain (spliced_cons (Wp.run (he _ E _ rfl fun v k₁ hv => spliced_nil ?_))))
  obtain ⟨t, rfl⟩ := hv
  exact count_list_ints hL hI (hq _ _ ⟨_, rfl⟩)

/-- a list times an int -/
theorem rep_one (v : Value) : ∀ n : Nat, ((List.replicate n #[v]).foldl (· ++ ·) #[]).toList = List.replicate n v
  | n => by
    have key : ∀ (n : Nat) (a : Array Value), ((List.replicate n #[v]).foldl (· ++ ·) a).toList = a.toList ++ List.replicate n v := by
      intro n
      induction n with
      | zero => intro a; simp
      | succ n ih => intro a; rw [List.replicate_succ, List.foldl_cons, ih, List.replicate_succ]; simp
    simpa using key n #[]
theorem paired_rep {x : Str} {v : Value} (h : IsS x v) : ∀ n : Nat, Paired IsS (List.replicate n x) (List.replicate n v)
  | 0 => .nil
  | n + 1 => .cons h (paired_rep h n)
theorem mulL1 {x : Int} (h0 : 0 ≤ x) (hn : x ≤ 1000) : ¬(!Builtin.List.listFitsIndex x) = true := by
  have := fitsIndex_of (k := x) h0 (by omega)
  rw [this]; decide
theorem mulL2 {x : Int} {k : Nat} (hk : k = 1) (hn : x ≤ 1000) : ¬ k * x.toNat > (2 ^ 63 - 1) / 8 := by
  subst hk
  omega
theorem mulL3 {x : Int} {k : Nat} (hk : k = 1) (hn : x ≤ 1000) : ¬ Builtin.List.listTooLong (k * x.toNat) = true := by
  subst hk
  unfold Builtin.List.listTooLong
  rw [sizeLine_is]
  simp
  omega
theorem mul_one_list {s : Shared} {E : Value → Shared → Prop} {Q : Value → Shared → Prop} {a : Addr} {its : Array Value} {k : Nat} {x : Int} {t : Tok} (hg : s.heap.get? a = some { cls := .type "list", data := .seq its k }) (hi : its.size = 1) (h0 : 0 ≤ x) (hn : x ≤ 1000)
    (hq : Q (.ref s.heap.objs.size) { s with heap := s.heap.push { cls := .type "list", data := .seq (List.foldl (fun x1 x2 => x1 ++ x2) #[] (List.replicate (if its.isEmpty = true then 0 else x.toNat) its)) } }) :
    wpAny (model P w) A (binaryOp .Mult (.ref a) (.int x t)) Q E s := by
  have h1 := mulL1 h0 hn
  have h2 := mulL2 (x := x) hi hn
  have h3 := mulL3 (x := x) hi hn
  have M := AutoListH.list___mul___list_int_3 a its k x t h1 h2 h3
  exact wpAny_binaryOp_repeat_ref (T := "list") (U := "int") (by decide) ⟨_, hg, rfl⟩ (fun s' => typeIs_int s' x t) noFill_list_mul F.fills_int_mul F.slot_int_rmul repeat_list F.slot_int_index.lookup
      (call_meets F.slot_int_rmul (typeIs_int _ x t) F.entry_int_rmul (F.args_int_rmul_2 _ _) (int___rmul___int_list x t a its k)
        ⟨hg, rfl, ⟨_, hg, rfl⟩, call_meets F.slot_list_mul ⟨_, hg, rfl⟩ F.entry_list_mul (F.args_list_mul_2 _ _) M ⟨hg, hq⟩⟩)
theorem evk_mulL {l r : Expr} {pos : Pos} {c : Str} {x : Int} (hl : EvK w A env h l (fun v h' => ∃ a vs, v = .ref a ∧ h.get? a = none ∧ h'.PlainList a (List.toArray vs) ∧ Paired IsS [c] vs)) (hr : ∀ {h'}, Sub h h' → Ev w A env h' r (IsI x)) (h0 : 0 ≤ x) (hn : x ≤ 1000) :
    EvK w A env h (.BinOp l .Mult r pos) (IsL IsS (List.replicate x.toNat c)) := fun s E Q hs hq => by
  subst hs
  refine ⟨wpAny_BinOp (Wp.run (hl s E _ rfl fun v h₁ k₁ hs₁ hv => Wp.run (hr hs₁ _ E _ rfl fun u k₂ hu => ?_)))⟩
  obtain ⟨a, vs, rfl, _, ⟨k, hg⟩, hp⟩ := hv
  obtain ⟨t, rfl⟩ := hu
  cases hp with
  | cons hx hnil =>
    rename_i v0 _
    cases hnil
    refine mul_one_list (s := { s with heap := h₁, toks := k₂ }) hg rfl h0 hn ?_
    have e : List.foldl (fun x1 x2 => x1 ++ x2) #[] (List.replicate (if ([v0].toArray).isEmpty = true then 0 else x.toNat) [v0].toArray) = (List.replicate x.toNat v0).toArray := by
      apply Array.toList_inj.mp
      rw [if_neg (by simp), rep_one]
    rw [e]
    exact hq _ _ k₂ (hs₁.trans (Sub.push _ _)) ⟨_, _, rfl, ⟨_, Heap.get?_push_size _ rfl, rfl, _, rfl⟩, paired_rep hx _⟩

/-- xs += ys -/
theorem seqI_list : seqSlot? (.type "list") (dunderI "add") = pure (some (.builtin "list.__iadd__")) := PySem.seqSlot_of F.slot_list_iadd.lookup (by decide +kernel)
theorem iadd_list {s : Shared} {E : Value → Shared → Prop} {Q : Value → Shared → Prop} {l b : Addr} {vs ws : Array Value} (hl : s.heap.PlainList l vs) (hb : s.heap.PlainList b ws) (hsz : vs.size + ws.size ≤ 100000)
    (h : ∀ h', h'.PlainList l (vs ++ ws) → Heap.SameBut l s.heap h' → Q (.ref l) { s with heap := h' }) : wpAny (model P w) A (inplaceOp .Add (.ref l) (.ref b)) Q E s := by
  obtain ⟨n, ho⟩ := hl
  obtain ⟨n2, ho2⟩ := hb
  unfold inplaceOp
  refine wpAny_holding ?_
  have hfi : fillsInplaceSlot (.type "list") "add" (Operator.Add == .Add) = pure false := by
    unfold fillsInplaceSlot
    show (typeLookup (.type "list") (dunderI "add") >>= fun fi => pure (fi.isSome && !isSeqSlot fi)) = pure false
    rw [F.slot_list_iadd.lookup]
    have : isSeqSlot (some (.builtin "list.__iadd__")) = true := by decide +kernel
    show (pure (true && !isSeqSlot (some (.builtin "list.__iadd__"))) : Sem Bool) = _
    rw [this]; rfl
  refine wpAny_bind (wpAny_typeOf (T := "list") ⟨_, ho, rfl⟩ (wpAny_bind (wpAny_of_eq hfi ?_)))
  show wpAny _ A (if false = true then _ else _) Q E s
  rw [if_neg Bool.false_ne_true]
  refine wpAny_bind (wpAny_binaryOp1_none (nm := "add") (T := "list") ⟨_, ho, rfl⟩ ⟨_, ho2, rfl⟩ noFill_list_add ?_)
  refine wpAny_bind (wpAny_of_eq seqI_list ?_)
  refine wpAny_bind (wpAny_rule ?_)
  have hz : sizeLine = 16777216 := sizeLine_is
  refine call_meets F.slot_list_iadd ⟨_, ho, rfl⟩ F.entry_list_iadd (F.args_list_iadd_2 _ _) (AutoSeq1.list___iadd___list_list_0 l vs n b ws n2 ?_ (by omega) (by omega)) ⟨ho, ho2, ?_⟩
  · intro hc
    have := (Bool.and_eq_true_iff.mp hc).2
    unfold Builtin.List.listTooLong at this
    simp [hz] at this
    omega
  · have e : ∃ n', Obj.mapSeq (fun x => x ++ ws) { cls := .type "list", data := .seq vs n } = { cls := .type "list", data := .seq (vs ++ ws) n' } := ⟨_, rfl⟩
    obtain ⟨n', e⟩ := e
    refine h _ ⟨n', ?_⟩ (Heap.SameBut.update ..)
    rw [Heap.get?_update_self _ ho (by rw [e]; rfl), e]
end
end Mine
end PartQ14
section PartQ15
open PySem PySem.W PyProof.Rows PySem.Calls
set_option maxRecDepth 100000
set_option linter.unusedVariables false
namespace Mine

/-- the frame of a comprehension, its own cells too -/
def cenvOf (scope : Scope) (cl : List (Str × Addr)) (C : Addr) (env : Env) : Env :=
  { scope := relabel scope env, locals := C, globals := env.globals, cells := cellsFrom (C + 1) scope.names cl, qual := env.qual, func := none, code := env.code, frame := env.frame, builtins := env.builtins }

/-- how the next thing is drawn and bound -/
structure Draw (w : World) (A : Around) (target : Expr) (ce : Addr → Env) (I : Addr) (fp wr : List Addr) (n : Nat) (St : Nat → Heap → Prop) (CF : Addr → Heap → Prop) (CFi : Nat → Addr → Heap → Prop) : Prop where
  sub : ∀ b ∈ wr, b ∈ fp
  frame : ∀ i h h', St i h → (∀ b ∈ fp, ∀ o, h.get? b = some o → h'.get? b = some o) → St i h'
  item : ∀ i C (s : Shared) (Q : Unit → Shared → Prop) (E : Value → Shared → Prop), i < n → (∀ b ∈ fp, b < C) → St i s.heap → CF C s.heap →
    (∀ h' k, St (i + 1) h' → CFi i C h' → (∀ b o, b ∉ wr → b < C → s.heap.get? b = some o → h'.get? b = some o) → Q () { s with heap := h', toks := k }) →
    wpAny (model P w) A (pyNext (.ref I)) (fun r s₁ => match r with | none => False | some v => wpAny (model P w) A (letOwnedTupleGo target (.ref I) v) (fun _ s₀ => wpAny (model P w) A (assign target (ce C) v) Q E s₀) E s₁) E s
  done : ∀ (s : Shared) (Q : Option Value → Shared → Prop) (E : Value → Shared → Prop), St n s.heap →
    (∀ h' tk, (∀ b o, b ∉ wr → s.heap.get? b = some o → h'.get? b = some o) → Q none { s with heap := h', toks := tk }) → wpAny (model P w) A (pyNext (.ref I)) Q E s
  self : ∀ i (s : Shared) (Q : Value → Shared → Prop) (E : Value → Shared → Prop), St i s.heap → Q (.ref I) s → wpAny (model P w) A (pyIter (.ref I)) Q E s

theorem newEnvC {M : Model} {A : Around} {E : Value → Shared → Prop} {s : Shared} {scope : Scope} {cl : List (Str × Addr)} {env : Env} {Q : Env → Shared → Prop}
    (hQ : Q { scope, locals := s.heap.objs.size, globals := env.globals, cells := cellsFrom (s.heap.objs.size + 1) scope.names cl, qual := env.qual, func := none, code := env.code, frame := env.frame, builtins := env.builtins }
      { s with heap := pushCells (s.heap.push { cls := .type "dict", data := .dict #[] }) scope.names }) :
    wpAny M A (newFunctionEnv scope env.globals cl [] env.qual none .none (some env)) Q E s := by
  simp only [newFunctionEnv, Option.isSome_some, if_true]
  refine wpAny_bind (wpAny_alloc ?_)
  refine wpAny_bind (wpAny_layCells _ (fun name kind cells => by cases hkc : kind == NameKind.cell <;> simp [hkc]) _ _ _ _ ?_)
  rw [show ({ s with heap := s.heap.push { cls := .type "dict", data := .dict #[] } } : Shared).heap.objs.size = s.heap.objs.size + 1 from Heap.size_push ..]
  simp only [List.forIn_nil]
  exact wpAny_bind (wpAny_pure (wpAny_pure hQ))

section
variable {w : World} {A : Around} {env : Env} {h : Heap}
theorem comp_core {elt iter target : Expr} {scope : Scope} {cl : List (Str × Addr)} {pos : Pos} {s₂ : Shared} {E : Value → Shared → Prop} {I : Addr} {fp wr : List Addr} {n : Nat} {St : Nat → Heap → Prop} {CF : Addr → Heap → Prop} {CFi : Nat → Addr → Heap → Prop}
    (DR : Draw w A target (fun C => cenvOf scope cl C env) I fp wr n St CF CFi) (hsz : n ≤ sizeLine) (R : Nat → Value → Prop) {RR : Value → Addr → Result → Shared → Prop}
    (hst : St 0 s₂.heap) (hfp : ∀ b ∈ fp, b < s₂.heap.objs.size)
    (cf0 : ∀ (h : Heap), CF h.objs.size (pushCells (h.push { cls := .type "dict", data := .dict #[] }) scope.names))
    (cfi : ∀ i C h, CFi i C h → CF C h) (cfF : ∀ C h h', CF C h → (∀ b o, C ≤ b → h.get? b = some o → h'.get? b = some o) → CF C h') (cfN : ∀ C h, CF C h → ∃ m, h.Ns C m)
    (helt : ∀ i C h₃, i < n → CFi i C h₃ → (∀ b o, b ∉ wr → s₂.heap.get? b = some o → h₃.get? b = some o) → EvK w A (cenvOf scope cl C env) h₃ elt (fun y _ => R i y))
    (hRR : ∀ D C h' tk m' ys, s₂.heap.get? D = none → s₂.heap.get? C = none → D ≠ C → h'.Ns C m' → h'.PlainList D ys → ys.size = n → (∀ i y, ys[i]? = some y → R i y) → (∀ b o, b ∉ wr → s₂.heap.get? b = some o → h'.get? b = some o) → RR (.ref D) C (.ok .next) { s₂ with heap := h', toks := tk }) :
    wpAny (model P w) A (newList []) (fun acc s₃ => wpAny (model P w) A (newFunctionEnv scope env.globals cl [] env.qual none .none (some env)) (fun cenv s₄ =>
      codeAny (model P w) A (.compStart (.ListComp elt [⟨target, iter, [], 0⟩] scope pos) 0 (.ref I) acc { cenv with scope := relabel scope env }) (RR acc cenv.locals) s₄) E s₃) E s₂ := by
  refine wpAny_newObj_type (newEnvC ?_)
  dsimp only
  generalize hH2 : s₂.heap.push { cls := .type "list", dict := none, data := .seq ([] : List Value).toArray } = H2
  have hC : H2.objs.size = s₂.heap.objs.size + 1 := by rw [← hH2, Heap.size_push]
  generalize hH1 : pushCells (H2.push { cls := .type "dict", data := .dict #[] }) scope.names = h₁
  have hDC : s₂.heap.objs.size ≠ H2.objs.size := by rw [hC]; exact Nat.ne_of_lt (Nat.lt_succ_self _)
  have below : ∀ b, b < s₂.heap.objs.size → b < H2.objs.size ∧ b ≠ s₂.heap.objs.size := fun b hb => ⟨by rw [hC]; exact Nat.lt_succ_of_lt hb, Nat.ne_of_lt hb⟩
  have old : ∀ b o, s₂.heap.get? b = some o → h₁.get? b = some o := fun b o e => hH1 ▸ pushCells_keeps _ _ b o (Heap.get?_push_of_some _ (hH2 ▸ Heap.get?_push_of_some _ e))
  have hacc : h₁.PlainList s₂.heap.objs.size #[] := ⟨_, hH1 ▸ pushCells_keeps _ _ _ _ (Heap.get?_push_of_some _ (hH2 ▸ Heap.get?_push_size _ rfl))⟩
  have hst₁ : St 0 h₁ := DR.frame _ _ _ hst fun b _ o e => old b o e
  have hcf₁ : CF H2.objs.size h₁ := hH1 ▸ cf0 H2
  have fresh : ∀ a, s₂.heap.objs.size ≤ a → s₂.heap.get? a = none := fun a ha => Heap.get?_none_of_le ha
  have hDf : ∀ b ∈ fp, b ≠ s₂.heap.objs.size := fun b hb => Nat.ne_of_lt (hfp b hb)
  have loop : ∀ s₃ : Shared, (∃ k, s₃ = { s₂ with heap := h₁, toks := k }) →
      codeAny (model P w) A (.compLoop (.ListComp elt [⟨target, iter, [], 0⟩] scope pos) 0 (.ref I) (.ref s₂.heap.objs.size) (cenvOf scope cl H2.objs.size env))
        (RR (.ref s₂.heap.objs.size) H2.objs.size) s₃ := by
    rintro s₃ ⟨k, rfl⟩
    refine kcp_loop
      (fun k s' => ∃ i h' tk ys, s' = { s₂ with heap := h', toks := tk } ∧ i ≤ n ∧ k = n + 1 - i ∧ St i h' ∧ CF H2.objs.size h' ∧ h'.PlainList s₂.heap.objs.size ys ∧ ys.size = i ∧ (∀ i y, ys[i]? = some y → R i y) ∧
        (∀ b o, b ∉ wr → s₂.heap.get? b = some o → h'.get? b = some o)) ?_ (n + 1)
      ⟨0, h₁, k, #[], rfl, Nat.zero_le _, rfl, hst₁, hcf₁, hacc, rfl, fun i y hy => by simp at hy, fun b o _ e => old b o e⟩
    rintro k s' ⟨i, h', tk, ys, rfl, hi, rfl, hst', hcf', hpl', hsz', hR', hk'⟩
    by_cases hlt : i < n
    · refine wpAny_mono (DR.item i H2.objs.size _ (fun _ s₂' => wpAny (model P w) A (eval elt (cenvOf scope cl H2.objs.size env)) (fun x s₄ =>
            wpAny (model P w) A (call (.builtin "list.append") [.ref s₂.heap.objs.size, x]) (fun _ s₅ => ∃ m, m < n + 1 - i ∧ ∃ i h' tk ys, s₅ = { s₂ with heap := h', toks := tk } ∧ i ≤ n ∧ m = n + 1 - i ∧ St i h' ∧ CF H2.objs.size h' ∧ h'.PlainList s₂.heap.objs.size ys ∧ ys.size = i ∧ (∀ i y, ys[i]? = some y → R i y) ∧
        (∀ b o, b ∉ wr → s₂.heap.get? b = some o → h'.get? b = some o)) (notedBy (model P w) A (cenvOf scope cl H2.objs.size env) fun e s' => RR (.ref s₂.heap.objs.size) H2.objs.size (.error e) s') s₄) (notedBy (model P w) A (cenvOf scope cl H2.objs.size env) fun e s' => RR (.ref s₂.heap.objs.size) H2.objs.size (.error e) s') s₂')
          _ hlt (fun b hb => (below b (hfp b hb)).1) hst' hcf' fun h₃ k₃ hst₃ hcf₃ hk₃ => ?_) (fun r s₁ hr => ?_) fun _ _ e => e
      · have hpl₃ : h₃.PlainList s₂.heap.objs.size ys := hpl'.at fun o e => hk₃ _ o (fun hm => hDf _ (DR.sub _ hm) rfl) (by rw [hC]; exact Nat.lt_succ_self _) e
        have keep₃ : ∀ b o, b ∉ wr → s₂.heap.get? b = some o → h₃.get? b = some o := fun b o hb e => hk₃ b o hb (below b (Heap.lt_size e)).1 (hk' b o hb e)
        refine Wp.run (helt i H2.objs.size h₃ hlt hcf₃ keep₃ _ _ _ rfl fun y h₄ k₄ hs₄ hy => ?_)
        have hpl₄ : h₄.PlainList s₂.heap.objs.size ys := hpl₃.at fun o e => hs₄ _ o e
        refine wpAny_list_append_plain (s := { s₂ with heap := h₄, toks := k₄ }) hpl₄ (fun h₅ hl₅ hs₅ => ?_) (by rw [hsz']; exact Nat.le_trans hi hsz)
        refine ⟨n + 1 - (i + 1), by omega, i + 1, h₅, _, ys.push y, rfl, hlt, rfl, ?_, ?_, hl₅, by rw [Array.size_push, hsz'], fun j z hz => ?_, fun b o hb e => hs₅.extBut b o (below b (Heap.lt_size e)).2 (hs₄ b o (keep₃ b o hb e))⟩
        · exact DR.frame _ _ _ hst₃ fun b hb o e => hs₅.extBut b o (hDf b hb) (hs₄ b o e)
        · exact cfF _ _ _ (cfi _ _ _ hcf₃) fun b o hb e => hs₅.extBut b o (fun q => by rw [q, hC] at hb; exact Nat.not_succ_le_self _ hb) (hs₄ b o e)
        · rw [Array.getElem?_push] at hz
          split at hz
          · cases hz
            rename_i hj
            rw [hj, hsz']; exact hy
          · exact hR' j z hz
      · cases r with
        | none => exact hr.elim
        | some v => exact hr
    · have hin : i = n := by omega
      subst hin
      refine DR.done _ _ _ hst' fun h₃ tk₃ hk₃ => ?_
      obtain ⟨m', hn'⟩ := cfN _ _ hcf'
      have hwC : H2.objs.size ∉ wr := fun hm => Nat.lt_irrefl _ (below _ (hfp _ (DR.sub _ hm))).1
      exact hRR _ _ h₃ tk₃ m' ys (fresh _ (Nat.le_refl _)) (fresh _ (by rw [hC]; exact Nat.le_succ _)) hDC (hn'.at' fun o e => hk₃ _ o hwC e) (hpl'.at fun o e => hk₃ _ o (fun hm => hDf _ (DR.sub _ hm) rfl) e) hsz' hR'
        fun b o hb e => hk₃ b o hb (hk' b o hb e)
  exact codeAny_compStart_list (loop _ ⟨_, rfl⟩) (DR.self 0 _ _ _ hst₁ (loop _ ⟨_, rfl⟩))

/-- a source whose things are drawn and bound -/
def Src2 (w : World) (A : Around) (env : Env) (h : Heap) (target : Expr) (ce : Addr → Env) (iter : Expr) (n : Nat) (CF : Addr → Heap → Prop) (CFi : Nat → Addr → Heap → Prop) : Prop :=
  ∀ (s : Shared) (E : Value → Shared → Prop) (K : Value → Shared → Prop), s.heap = h →
    (∀ I fp wr St h' k, Sub h h' → Draw w A target ce I fp wr n St CF CFi → St 0 h' → (∀ b ∈ fp, b < h'.objs.size) → (∀ b ∈ wr, h.get? b = none) → K (.ref I) { s with heap := h', toks := k }) →
    Wp w A (eval iter env) (fun xv s₁ => wpAny (model P w) A (pyIter xv) K E s₁) E s

theorem comp2_ev {elt iter target : Expr} {scope : Scope} {cl : List (Str × Addr)} {pos : Pos} {n : Nat} {CF : Addr → Heap → Prop} {CFi : Nat → Addr → Heap → Prop} (R : Nat → Value → Prop)
    (src : Src2 w A env h target (fun C => cenvOf scope cl C env) iter n CF CFi) (hsz : n ≤ sizeLine) (hclos : closureFor scope env = pure cl) (hkind : scope.kind = .function)
    (hnames : ∀ y ∈ scope.names, y.2 = .local → scope.names.lookup y.1 = some .local)
    (cf0 : ∀ (h : Heap), CF h.objs.size (pushCells (h.push { cls := .type "dict", data := .dict #[] }) scope.names))
    (cfi : ∀ i C h, CFi i C h → CF C h) (cfF : ∀ C h h', CF C h → (∀ b o, C ≤ b → h.get? b = some o → h'.get? b = some o) → CF C h') (cfN : ∀ C h, CF C h → ∃ m, h.Ns C m)
    (helt : ∀ i C h₃, i < n → CFi i C h₃ → Sub h h₃ → EvK w A (cenvOf scope cl C env) h₃ elt (fun y _ => R i y))
    (hs : ∀ x, foldedSetIterable iter env x = pure x := by intro _; rfl) :
    EvK w A env h (.ListComp elt [⟨target, iter, [], 0⟩] scope pos) (fun y h' => ∃ (D : Addr) (ys : List Value), y = .ref D ∧ h.get? D = none ∧ h'.PlainList D ys.toArray ∧ ys.length = n ∧ ∀ i y, ys[i]? = some y → R i y) := fun s E Q hsh hq => by
  subst hsh
  refine ⟨?_⟩
  rw [eval_ListComp]
  refine wpAny_comprehension_free (use := none) rfl hs hclos hkind hnames (Wp.run (src s E _ rfl fun I fp wr St h₂ k₂ hsub DR hst hfp hwr => ?_))
  refine comp_core (RR := fun acc C => compPost (model P w) A E none Q acc C) DR hsz R hst hfp cf0 cfi cfF cfN (fun i C h₃ hi hc hk => helt i C h₃ hi hc fun b o e => hk b o (fun hm => by rw [hwr b hm] at e; cases e) (hsub b o e)) ?_
  intro D C h' tk m' ys hD hC hDC hn hpl hlen hR hk
  refine ⟨m', hn, fun h'' hs'' => hq _ h'' tk (fun b o e => ?_) ⟨D, ys.toList, rfl, ?_, by simpa using hpl.extBut hs''.extBut hDC, by simpa using hlen, fun i y hy => hR i y (by simpa using hy)⟩⟩
  · have e₂ := hsub b o e
    exact hs''.extBut b o (fun q => by rw [q, hC] at e₂; cases e₂) (hk b o (fun hm => by rw [hwr b hm] at e; cases e) e₂)
  · cases e : s.heap.get? D with
    | none => rfl
    | some o => have := hsub D o e; rw [hD] at this; cases this

theorem ex_assignComp2 {gh : Heap} {m cm : Str → Option Value} {s : Shared} {E : Value → Shared → Prop} {Q : Flow → Shared → Prop} {elt iter target : Expr} {y : Str} {py : Pos} {scope : Scope} {cl : List (Str × Addr)} {pos spos : Pos} {rest : List Stmt} {n : Nat} {CF : Addr → Heap → Prop} {CFi : Nat → Addr → Heap → Prop} (R : Nat → Value → Prop)
    (F : Fm gh env s.heap m cm) (hy : env.kindOf y = some .local) (hsw : swapsWith (.ListComp elt [⟨target, iter, [], 0⟩] scope pos) (some (.Name y py)) spos.line env = pure true)
    (src : Src2 w A env s.heap target (fun C => cenvOf scope cl C env) iter n CF CFi) (hsz : n ≤ sizeLine) (hclos : closureFor scope env = pure cl) (hkind : scope.kind = .function)
    (hnames : ∀ y ∈ scope.names, y.2 = .local → scope.names.lookup y.1 = some .local)
    (cf0 : ∀ (h : Heap), CF h.objs.size (pushCells (h.push { cls := .type "dict", data := .dict #[] }) scope.names))
    (cfi : ∀ i C h, CFi i C h → CF C h) (cfF : ∀ C h h', CF C h → (∀ b o, C ≤ b → h.get? b = some o → h'.get? b = some o) → CF C h') (cfN : ∀ C h, CF C h → ∃ m, h.Ns C m)
    (helt : ∀ i C h₃, i < n → CFi i C h₃ → Sub s.heap h₃ → EvK w A (cenvOf scope cl C env) h₃ elt (fun y _ => R i y))
    (hq : ∀ (D : Addr) (ys : List Value) h₂ k, s.heap.get? D = none → h₂.PlainList D ys.toArray → ys.length = n → (∀ i y, ys[i]? = some y → R i y) → (∀ b o, b ≠ env.locals → s.heap.get? b = some o → h₂.get? b = some o) → Fm gh env h₂ (up m y (.ref D)) cm → Wp w A (execs rest env) Q E { s with heap := h₂, toks := k })
    (hs : ∀ x, foldedSetIterable iter env x = pure x := by intro _; rfl) :
    Wp w A (execs (.Assign [.Name y py] (.ListComp elt [⟨target, iter, [], 0⟩] scope pos) spos :: rest) env) Q E s := by
  refine ex_seq ?_
  rw [exec_Assign_Name_used _ _ _ _ hsw]
  refine wpAny_bind (wpAny_standAt (wpAny_bind ?_))
  show wpAny _ A (do let _ ← comprehension (.ListComp elt [⟨target, iter, [], 0⟩] scope pos) scope env _ (newList []) false (eval iter env) (some (assign (.Name y py) env))) _ _ s
  refine wpAny_bind (wpAny_mono (wpAny_comprehension_free (use := some (assign (.Name y py) env)) (Q := fun _ s' => Wp w A (execs rest env) Q E s') rfl hs hclos hkind hnames
    (Wp.run (src s E _ rfl fun I fp wr St h₂ k₂ hsub DR hst hfp hwr => ?_))) (fun _ s' hq => wpAny_pure (wpAny_pure hq)) fun _ _ e => e)
  obtain ⟨oL, es, ep, hL, _⟩ := id F.loc.ns
  have F₂ := F.mono hsub
  refine comp_core (RR := fun acc C => compPost (model P w) A E (some (assign (.Name y py) env)) (fun _ s' => Wp w A (execs rest env) Q E s') acc C) DR hsz R hst hfp cf0 cfi cfF cfN (fun i C h₃ hi hc hk => helt i C h₃ hi hc fun b o e => hk b o (fun hm => by rw [hwr b hm] at e; cases e) (hsub b o e)) ?_
  intro D C h' tk m' ys hD hC hDC hnC hpl hlen hR hk
  have keep : Sub s.heap h' := fun b o e => hk b o (fun hm => by rw [hwr b hm] at e; cases e) (hsub b o e)
  have F' : Fm gh env h' m cm := F.mono keep
  have hLC : env.locals ≠ C := by rintro rfl; rw [hsub _ _ hL] at hC; cases hC
  have hLD : env.locals ≠ D := by rintro rfl; rw [hsub _ _ hL] at hD; cases hD
  show wpAny _ A (assign (.Name y py) env (.ref D)) _ _ _
  refine wpAny_assign_Name (wpAny_storeName_local hy F'.loc.ns (fun h₃ hn₃ hs₃ => ?_) (by rw [F.loc.kind]; rfl))
  refine ⟨m', hnC.sameBut hs₃ (Ne.symm hLC), fun h₄ hs₄ => ?_⟩
  have F₃ := F'.setLocal hn₃ hs₃
  have hCs : s.heap.get? C = none := by
    cases e : s.heap.get? C with
    | none => rfl
    | some o => have := hsub C o e; rw [hC] at this; cases this
  have up4 : ∀ b o, b ≠ env.locals → s.heap.get? b = some o → h₄.get? b = some o := fun b o hb e => hs₄.extBut b o (fun q => by rw [q, hCs] at e; cases e) (hs₃.extBut b o hb (keep b o e))
  refine hq D ys.toList h₄ _ ?_ (by simpa using (hpl.extBut hs₃.extBut (Ne.symm hLD)).extBut hs₄.extBut hDC) (by simpa using hlen) (fun i y hy => hR i y (by simpa using hy)) up4 ⟨⟨F.loc.kind, ?_, fun n c e => ?_⟩, fun b o e => up4 b o (fun q => by rw [q, F.off] at e; cases e) (F.base b o e), F.off, F.coff, F.apart, F.look⟩
  · cases e : s.heap.get? D with
    | none => rfl
    | some o => have := hsub D o e; rw [hD] at this; cases this
  · exact F₃.loc.ns.sameBut hs₄ hLC
  · have hc := F.loc.cells n c e
    obtain ⟨o, ho, hd⟩ := id hc
    exact ⟨o, up4 c o (Ns.ne_cell F.loc.ns hc) ho, hd⟩
end
end Mine
end PartQ15
section PartQ16
open PySem PySem.W PyProof.Rows PySem.Calls
open AutoSeq1 (wpAny_loadPart')
set_option maxRecDepth 100000
set_option linter.unusedVariables false
namespace Mine
/-! enumerate over a tuple -/
theorem nextOf_tuple_item {w : World} {A : Around} {E : Value → Shared → Prop} {s : Shared} {it t : Addr} {i : Nat} {items : Array Value} {x : Value} {Q : Value → Shared → Prop} (hit : s.heap.IsTupleIter it t i)
    (ht : s.heap.IsTuple t items) (hx : items[i]? = some x) (hQ : ∀ h', h'.IsTupleIter it t (i + 1) → Heap.SameBut it s.heap h' → Q x { s with heap := h' }) :
    wpAny (model P w) A (Builtin.SmallTypes.nextOf (.ref it)) Q E s := by
  obtain ⟨o, ho, hc, hd⟩ := id hit
  obtain ⟨ol, hol, _, nl, hdl⟩ := ht
  unfold Builtin.SmallTypes.nextOf
  refine wpAny_bind (wpAny_callSpecial?_slot (name := Str.ofString "__next__") hit.typeIs F.slot_tuple_iterator_next
    (wpAny_call_entry F.slot_tuple_iterator_next hit.typeIs F.entry_tuple_iterator_next ?_ (F.args_tuple_iterator_next_1 _)))
  show wpAny _ _ (field (.ref it) 0 >>= _) _ _ s
  refine wpAny_bind (wpAny_field ho hd (x := .ref t) rfl ?_)
  show wpAny _ _ (if (Value.ref t == Value.none) = true then _ else _) _ _ s
  rw [if_neg (show ¬ ((Value.ref t == Value.none) = true) from Bool.false_ne_true)]
  show wpAny _ _ (field (.ref it) 1 >>= _) _ _ s
  refine wpAny_bind (wpAny_field ho hd (x := .int i 0) rfl ?_)
  show wpAny _ _ (seqItems? (.ref t) >>= _) _ _ s
  refine wpAny_bind (wpAny_seqItems hol hdl ?_)
  simp only [Int.toNat_natCast, hx]
  refine wpAny_bind (wpAny_setField ho hd (by simp) (wpAny_pure ⟨x, rfl, wpAny_pure (hQ _ ?_ (Heap.SameBut.update ..))⟩))
  exact ⟨_, Heap.get?_update_self _ ho (Obj.isFreed_of_fields (Obj.data_mapFields hd _)), (Obj.cls_mapFields ..).trans hc, by
    rw [Obj.data_mapFields hd]; simp [rawInt]⟩
theorem nextOf_tuple_end {w : World} {A : Around} {E : Value → Shared → Prop} {s : Shared} {it t : Addr} {i : Nat} {items : Array Value} {Q : Value → Shared → Prop} (hh : A.handled = none)
    (hit : s.heap.IsTupleIter it t i) (ht : s.heap.IsTuple t items) (hx : items[i]? = none)
    (hE : ∀ h' e, Heap.ExtBut it s.heap h' → (∃ o, h'.get? e = some o ∧ o.cls = .type "StopIteration") → E (.ref e) { s with heap := h' }) :
    wpAny (model P w) A (Builtin.SmallTypes.nextOf (.ref it)) Q E s := by
  obtain ⟨o, ho, hc, hd⟩ := id hit
  obtain ⟨ol, hol, _, nl, hdl⟩ := ht
  unfold Builtin.SmallTypes.nextOf
  refine wpAny_bind (wpAny_callSpecial?_slot (name := Str.ofString "__next__") hit.typeIs F.slot_tuple_iterator_next
    (wpAny_call_entry F.slot_tuple_iterator_next hit.typeIs F.entry_tuple_iterator_next ?_ (F.args_tuple_iterator_next_1 _)))
  show wpAny _ _ (field (.ref it) 0 >>= _) _ _ s
  refine wpAny_bind (wpAny_field ho hd (x := .ref t) rfl ?_)
  show wpAny _ _ (if (Value.ref t == Value.none) = true then _ else _) _ _ s
  rw [if_neg (show ¬ ((Value.ref t == Value.none) = true) from Bool.false_ne_true)]
  show wpAny _ _ (field (.ref it) 1 >>= _) _ _ s
  refine wpAny_bind (wpAny_field ho hd (x := .int i 0) rfl ?_)
  show wpAny _ _ (seqItems? (.ref t) >>= _) _ _ s
  refine wpAny_bind (wpAny_seqItems hol hdl ?_)
  simp only [Int.toNat_natCast, hx]
  refine wpAny_bind (wpAny_rule (wpAny_bind (wpAny_setField ho hd (by simp) ?_)))
  show wpAny _ _ (newExc (.type "StopIteration") [] >>= _) _ _ _
  refine wpAny_bind ?_
  simp only [newExc, newTuple]
  refine wpAny_bind (wpAny_newObj_type ?_ (by size_fits))
  refine wpAny_bind (m := firstArgMember _ _) (wpAny_of_eq (a := Value.none) (by first | rfl | (simp only [firstArgMember]; rfl)) ?_)
  refine wpAny_newObj_type ?_ (by size_fits)
  simp only [raiseNew]
  refine wpAny_bind (wpAny_handled ?_)
  first | rw [show A.in1.handled = none from hh] | rw [hh]
  refine wpAny_bind (wpAny_pure (wpAny_throw ?_))
  exact hE _ _ (((Heap.SameBut.update ..).extBut.push _).push _) ⟨_, Heap.get?_push_size _ rfl, rfl⟩
theorem tupIter_at {h h' : Heap} {it t : Addr} {i : Nat} (x : h.IsTupleIter it t i) (k : ∀ o, h.get? it = some o → h'.get? it = some o) : h'.IsTupleIter it t i := let ⟨o, ho, r⟩ := x; ⟨o, k o ho, r⟩
theorem tup_at {h h' : Heap} {t : Addr} {items : Array Value} (x : h.IsTuple t items) (k : ∀ o, h.get? t = some o → h'.get? t = some o) : h'.IsTuple t items := let ⟨o, ho, r⟩ := x; ⟨o, k o ho, r⟩
theorem drawsTuple {w : World} {A : Around} (hh : A.handled = none) (it l : Addr) (hne : l ≠ it) (items : Array Value) :
    Draws P w A it [it, l] items.size (fun i v => items[i]? = some v) (fun i h => h.IsTupleIter it l i ∧ h.IsTuple l items) where
  live := fun _ _ st => let ⟨o, ho, _⟩ := st.1; ⟨o, ho⟩
  frame := fun _ _ _ st hk => ⟨tupIter_at st.1 fun o e => hk it (by simp) o e, tup_at st.2 fun o e => hk l (by simp) o e⟩
  item := fun i s Q E hi st hQ => by
    refine nextOf_tuple_item st.1 st.2 (x := items[i]) (by simp [hi]) fun h' hit' hs' => ?_
    exact hQ _ h' s.toks (by simp [hi]) ⟨hit', st.2.extBut hs'.extBut hne⟩ hs'
  done := fun s Q E st hE => nextOf_tuple_end hh st.1 st.2 (by simp) hE

theorem meets_enum_newT (l : Addr) (items : Array Value) (n : Nat) :
    Meets (Builtin.«enumerate.__new__» ⟨[.type "enumerate", .ref l], []⟩) (fun _ R s => s.heap.get? l = some { cls := .type "tuple", data := .seq items n } ∧
      R (.ok (.ret (.ref (s.heap.push { cls := .type "tuple_iterator", data := .fields #[.ref l, .int 0 0] }).objs.size)))
        { s with heap := (s.heap.push { cls := .type "tuple_iterator", data := .fields #[.ref l, .int 0 0] }).push { cls := .type "enumerate", data := .fields #[.none, .bool false, .ref s.heap.objs.size, rawInt 0, .none, .none] } }) :=
  .of_wp fun prog w A R s h => by
    obtain ⟨hp, g, d, tk, os⟩ := s; obtain ⟨hl, h⟩ := h
    have hsub := sub_enumerate
    have hL : Heap.IsTuple (Shared.heap ⟨hp, g, d, tk, os⟩) l items := ⟨_, hl, rfl, n, rfl⟩
    wp_walk using wpAny_loadPart' hl
    refine wpAny_stack_any fun st => wpAny_pure ?_
    split
    · rename_i c _ _ _ _ _
      cases (c == Value.type "enumerate")
      · wp_walk using wpAny_loadPart' hl, wpAny_pyIter_tuple hL
        exact ⟨_, rfl, h⟩
      · wp_walk using wpAny_loadPart' hl, wpAny_pyIter_tuple hL
        exact ⟨_, rfl, h⟩
    · wp_walk using wpAny_loadPart' hl, wpAny_pyIter_tuple hL
      exact ⟨_, rfl, h⟩
theorem call_enum_tuple {w : World} {A : Around} {E : Value → Shared → Prop} {s : Shared} {l : Addr} {items : Array Value} {n : Nat} {Q : Value → Shared → Prop} (hl : s.heap.get? l = some { cls := .type "tuple", data := .seq items n })
    (h : ∀ h', IsEnum h' (s.heap.objs.size + 1) s.heap.objs.size 0 .none → h'.IsTupleIter s.heap.objs.size l 0 → h'.objs.size = s.heap.objs.size + 2 →
      (∀ b o, s.heap.get? b = some o → h'.get? b = some o) → Q (.ref (s.heap.objs.size + 1)) { s with heap := h' }) :
    wpAny (model P w) A (call (.type "enumerate") [.ref l]) Q E s := by
  refine callType_new F.called_enumerate (by decide) (F.typeCall_enumerate_1 _) (F.newCall_enumerate_1 _) (fun obj => F.args_object_init_2 obj _) F.entry_enumerate_new
    (meets_enum_newT l items n) ⟨hl, ?_⟩
  have hz : (s.heap.push { cls := .type "tuple_iterator", data := .fields #[.ref l, .int 0 0] }).objs.size = s.heap.objs.size + 1 := Heap.size_push ..
  show _ ∧ _
  rw [hz]
  have he : IsEnum ((s.heap.push { cls := .type "tuple_iterator", data := .fields #[.ref l, .int 0 0] }).push
      { cls := .type "enumerate", data := .fields #[.none, .bool false, .ref s.heap.objs.size, rawInt 0, .none, .none] }) (s.heap.objs.size + 1) s.heap.objs.size 0 .none := by
    have := Heap.get?_push_size (s.heap.push { cls := .type "tuple_iterator", data := .fields #[.ref l, .int 0 0] })
      (o := { cls := .type "enumerate", data := .fields #[.none, .bool false, .ref s.heap.objs.size, rawInt 0, .none, .none] }) rfl
    rw [hz] at this; exact this
  refine ⟨⟨_, he, rfl⟩, h _ he ⟨_, Heap.get?_push_of_some _ (Heap.get?_push_size _ rfl), rfl, rfl⟩ (by rw [Heap.size_push, hz]) fun b o x => Heap.get?_push_of_some _ (Heap.get?_push_of_some _ x)⟩

section
variable {w : World} {A : Around} {env : Env} {h : Heap}
/-- a pair drawn, bound to two names of the comprehension -/
theorem draw_pair {a b : Str} {pa pb tp : Pos} {kk : Nat} {ce : Addr → Env} {I : Addr} {fp wr : List Addr} {n : Nat} {Pt : Nat → Array Value → Prop} {St : Nat → Heap → Prop} {Mid : Nat → Addr → Heap → Prop} (hh : A.handled = none)
    (W : WalksT P w A I fp wr n Pt St Mid) (hpt : ∀ i vals, Pt i vals → ∃ x y, vals = #[x, y]) (hL : ∀ C, (ce C).locals = C) (hk : ∀ C, (ce C).scope.kind = .function) (ha : ∀ C, (ce C).kindOf a = some .local) (hb : ∀ C, (ce C).kindOf b = some .local) (hab : a ≠ b) :
    Draw w A (.Tuple [.Name a pa, .Name b pb] kk tp) ce I fp wr n St (fun C h => ∃ m, h.Ns C m) (fun i C h => ∃ m x y, h.Ns C m ∧ m a = some x ∧ m b = some y ∧ Pt i #[x, y]) where
  sub := W.sub
  frame := W.frame
  item := fun i C s Q E hi hfp hst ⟨m, hn⟩ hQ => by
    refine W.item i s _ _ hi hst fun T vals h₁ k₁ hP hT hT' hm hk₁ => ?_
    dsimp only
    obtain ⟨x, y, rfl⟩ := hpt i vals hP
    refine W.go _ _ _ i T _ _ _ hm fun h₂ hst₂ hk₂ => ?_
    have hTw : T ∉ wr := W.apart _ _ _ hm
    have hwC : C ∉ wr := fun q => Nat.lt_irrefl _ (hfp _ (W.sub _ q))
    have hn₂ : h₂.Ns C m := (hn.at' fun o e => hk₁ _ o hwC e).at' fun o e => hk₂ _ o hwC e
    have hT₂ : h₂.IsTuple T #[x, y] := tup_at hT' fun o e => hk₂ _ o hTw e
    refine kcp_assign (s := { s with heap := h₂, toks := k₁ }) hh hT₂ (ha C) (hb C) (by rw [hk C]; rfl) ((hL C).symm ▸ hn₂) fun h₃ k₃ hn₃ hk₃ => ?_
    rw [hL C] at hn₃ hk₃
    refine hQ h₃ k₃ (W.frame _ _ _ hst₂ fun c hc o e => hk₃ c o (Nat.ne_of_lt (hfp c hc)) e) ⟨_, x, y, hn₃, ?_, ?_, hP⟩ fun c o hcw hcC e => hk₃ c o (Nat.ne_of_lt hcC) (hk₂ c o hcw (hk₁ c o hcw e))
    · rw [if_neg hab, if_pos rfl]
    · rw [if_pos rfl]
  done := W.done
  self := W.self
theorem IsTuple_of {l : Addr} {items : Array Value} {n : Nat} (e : h.get? l = some { cls := .type "tuple", data := .seq items n }) : h.IsTuple l items := ⟨_, e, rfl, n, rfl⟩
theorem src_enumT {a b : Str} {pa pb tp p pos pt : Pos} {kk nn : Nat} {elts : List Expr} {ns : List Int} {ce : Addr → Env} (hh : A.handled = none) (hL : ∀ C, (ce C).locals = C) (hk : ∀ C, (ce C).scope.kind = .function) (ha : ∀ C, (ce C).kindOf a = some .local) (hb : ∀ C, (ce C).kindOf b = some .local) (hab : a ≠ b)
    (he : Ev w A env h (.Name "enumerate" p) (· = .type "enumerate")) (hn : ns.length ≤ sizeLine) (helts : Evs w A env h pt elts (Paired IsI ns))
    (hse : backTo pos (starEach [.Tuple elts nn pt] env) = [(false, eval (.Tuple elts nn pt) env)] := by rfl) :
    Src2 w A env h (.Tuple [.Name a pa, .Name b pb] kk tp) ce (.Call (.Name "enumerate" p) [.Tuple elts nn pt] [] pos) ns.length (fun C h => ∃ m, h.Ns C m)
      (fun i C h => ∃ m x y, h.Ns C m ∧ m a = some x ∧ m b = some y ∧ IsI i x ∧ ∃ z, ns[i]? = some z ∧ IsI z y) := fun s E K hs hK => by
  subst hs
  refine ⟨wpAny_Call_NameR (Wp.run (he s E _ rfl fun f k hf => ?_))⟩
  subst hf
  rw [hse]
  refine PyProof.Rows.callWith_type rfl (Calls.evalArgs_plain (Calls.spliced_cons (Wp.run (evk_tupleR helts (fun vs hv => by rw [← hv.length]; exact hn) _ E _ rfl fun v h₁ k₁ hs₁ hv => Calls.spliced_nil ?_))))
  obtain ⟨T, vs, kq, rfl, hT, hTg, hp⟩ := hv
  refine call_enum_tuple (s := { s with heap := h₁, toks := k₁ }) hTg fun h₂ hE hI hsz hk₂ => ?_
  have hE0 : IsEnum h₂ (h₁.objs.size + 1) h₁.objs.size ((0 : Nat) : Int) .none := hE
  refine wpAny_pyIter_enum (s := { s with heap := h₂, toks := k₁ }) hE0 ?_
  have hTlt : T < h₁.objs.size := Heap.lt_size hTg
  have D0 := drawsTuple (w := w) (A := A.in1) hh h₁.objs.size T (Nat.ne_of_lt hTlt) vs.toArray
  have W := WalksT.enumerateD D0 (h₁.objs.size + 1) (Nat.succ_ne_self _) (fun q => by rcases List.mem_cons.mp q with q | q; exact Nat.succ_ne_self _ q; rw [← List.mem_singleton.mp q] at hTlt; exact Nat.not_succ_lt_self hTlt) (by simp)
  have hlen : vs.toArray.size = ns.length := by simp [hp.length]
  rw [hlen] at W
  have DD := draw_pair (pa := pa) (pb := pb) (tp := tp) (kk := kk) hh W (fun i vals ⟨t, x, _, e⟩ => ⟨_, _, e⟩) hL hk ha hb hab
  refine hK _ _ _ _ h₂ k₁ (fun b o e => hk₂ b o (hs₁ b o e)) ⟨DD.sub, DD.frame, fun i C s' Q E' hi hfp hst hcf hQ => DD.item i C s' Q E' hi hfp hst hcf fun h' k' hst' hc hkk => hQ h' k' hst' ?_ hkk, DD.done, DD.self⟩ ⟨⟨_, hE0⟩, hI, IsTuple_of (hk₂ _ _ hTg)⟩ (fun b hb => ?_) (fun b hb => ?_)
  · obtain ⟨m, x, y, hm, hx, hy, t, z, hz, e⟩ := hc
    have e1 : [x, y] = [.int i t, z] := congrArg Array.toList e
    injection e1 with e1 e2
    injection e2 with e2 _
    subst e1 e2
    obtain ⟨q, hq, hqv⟩ := paired_get' hp i y (by simpa using hz)
    exact ⟨m, _, y, hm, hx, hy, ⟨t, rfl⟩, q, hq, hqv⟩
  · have : h₂.objs.size = h₁.objs.size + 2 := hsz
    rw [this]
    rcases List.mem_cons.mp hb with rfl | hb
    · exact Nat.lt_succ_self _
    · rcases List.mem_cons.mp hb with rfl | hb
      · exact Nat.lt_add_of_pos_right (by decide)
      · rw [List.mem_singleton.mp hb]; exact Nat.lt_add_right 2 hTlt
  · have nn : ∀ b, h₁.objs.size ≤ b → s.heap.get? b = none := fun b hb => by
      cases e : s.heap.get? b with
      | none => rfl
      | some o => exact absurd (Heap.lt_size (hs₁ _ _ e)) (Nat.not_lt.mpr hb)
    rcases List.mem_cons.mp hb with rfl | hb
    · exact nn _ (Nat.le_succ _)
    · rw [List.mem_singleton.mp hb]; exact nn _ (Nat.le_refl _)

/-- a thing drawn, bound to the comprehension's own cell (its one) -/
theorem src_cell {x : Str} {px : Pos} {iter : Expr} {ce : Addr → Env} {srcs : List Addr} {n : Nat} {Pv : Nat → Value → Prop} (hL : ∀ C, (ce C).locals = C) (hk : ∀ C, (ce C).scope.kind = .function) (hx : ∀ C, (ce C).kindOf x = some .cell) (hc : ∀ C, (ce C).cells.lookup x = some (C + 1))
    (src : Src w A env h iter srcs n Pv) : Src2 w A env h (.Name x px) ce iter n (fun C h => (∃ m, h.Ns C m) ∧ ∃ v, h.IsCell (C + 1) v) (fun i C h => (∃ m, h.Ns C m) ∧ ∃ v, Pv i v ∧ h.IsCell (C + 1) (some v)) := fun s E K hs hK => by
  subst hs
  refine src s E K rfl fun I fp St h₁ k₁ hs₁ W hst hfp hI hfpk => hK I fp [I] St h₁ k₁ hs₁ ⟨W.sub, W.frame, fun i C s' Q E' hi hfC hst' hcf hQ => ?_, W.done, W.self⟩ hst hfp fun b hb => ?_
  · obtain ⟨⟨m, hn⟩, v0, hv0⟩ := hcf
    refine W.item i s' _ _ hi hst' fun v h₂ k₂ hv hst₂ hk₂ => ?_
    dsimp only
    have hIC : I < C := hfC I (W.sub I (List.mem_singleton.mpr rfl))
    have kp : ∀ b o, C ≤ b → s'.heap.get? b = some o → h₂.get? b = some o := fun b o hb e => hk₂ b o (fun q => by rw [List.mem_singleton.mp q] at hb; exact Nat.not_lt.mpr hb hIC) e
    show wpAny _ A (pure ()) _ _ _
    refine wpAny_pure (wpAny_assign_Name (wpAny_storeName_cell (s := { s' with heap := h₂, toks := k₂ }) (hk C) (hx C) (hc C) (v₀ := v0) (by obtain ⟨o, e, d⟩ := hv0; exact ⟨o, kp _ _ (Nat.le_succ _) e, d⟩) fun h₃ hc₃ hs₃ => ?_))
    refine hQ h₃ _ (W.frame _ _ _ hst₂ fun b hb o e => hs₃.extBut b o (Nat.ne_of_lt (Nat.lt_succ_of_lt (hfC b hb))) e) ⟨⟨m, (hn.at' fun o e => kp _ o (Nat.le_refl _) e).sameBut hs₃ (Nat.ne_of_lt (Nat.lt_succ_self _))⟩, v, hv, hc₃⟩ fun b o hb hbC e => hs₃.extBut b o (Nat.ne_of_lt (Nat.lt_succ_of_lt hbC)) (hk₂ b o hb e)
  · cases e : s.heap.get? b with
    | none => rfl
    | some o => rw [List.mem_singleton.mp hb] at e; exact absurd (Heap.lt_size e) (Nat.not_lt.mpr hI)
end
end Mine
end PartQ16
section PartQ17
open PySem PySem.W PyProof.Rows PySem.Calls
set_option maxRecDepth 100000
set_option linter.unusedVariables false
namespace Mine
section
variable {w : World} {A : Around} {env : Env} {gh h h' : Heap} {m cm : Str → Option Value}
theorem evk_bin {l r : Expr} {op : Operator} {pos : Pos} {V1 V2 V : Value → Prop} (hl : EvK w A env h l (fun v _ => V1 v)) (hr : ∀ {h'}, Sub h h' → EvK w A env h' r (fun v _ => V2 v))
    (hop : ∀ a b (s : Shared) (E : Value → Shared → Prop) (Q : Value → Shared → Prop), V1 a → V2 b → (∀ x k, V x → Q x { s with toks := k }) → wpAny (model P w) A (binaryOp op a b) Q E s) :
    EvK w A env h (.BinOp l op r pos) (fun v _ => V v) := fun s E Q hs hq =>
  ⟨wpAny_BinOp (Wp.run (hl s E _ hs fun a h₁ k hs₁ ha => (Wp.run (hr hs₁ _ E _ rfl fun b h₂ k' hs₂ hb => hop a b _ E Q ha hb fun x k'' hx => hq x h₂ k'' (hs₁.trans hs₂) hx))))⟩
theorem evk_addI {l r : Expr} {pos : Pos} {a b : Int} (hl : EvK w A env h l (fun v _ => IsI a v)) (hr : ∀ {h'}, Sub h h' → EvK w A env h' r (fun v _ => IsI b v)) : EvK w A env h (.BinOp l .Add r pos) (fun v _ => IsI (a + b) v) :=
  evk_bin hl hr fun x y s E Q ⟨t, hx⟩ ⟨u, hy⟩ hq => by subst hx; subst hy; exact wpAny_add_int (hq _ _ ⟨_, rfl⟩)
theorem evk_modI {l r : Expr} {pos : Pos} {a b : Int} (hl : EvK w A env h l (fun v _ => IsI a v)) (hr : ∀ {h'}, Sub h h' → EvK w A env h' r (fun v _ => IsI b v)) (hb : b ≠ 0) : EvK w A env h (.BinOp l .Mod r pos) (fun v _ => IsI (a.fmod b) v) :=
  evk_bin hl hr fun x y s E Q ⟨t, hx⟩ ⟨u, hy⟩ hq => by subst hx; subst hy; exact mod_int' hb (hq _ _ ⟨_, rfl⟩)

/-- slices of a list of ints -/
theorem pick_ints {vs : List Value} {ns : List Int} (hi : IntsAre vs ns) (lo hi' st : Option Int) : ∃ ns', IntsAre (slicePick vs.toArray lo hi' st).toList ns' ∧ ns'.length ≤ ns.length := by
  have h := IntsAre.places hi (sliceRange (sliceBounds lo hi' st vs.toArray.size).1 (sliceBounds lo hi' st vs.toArray.size).2.1 (sliceBounds lo hi' st vs.toArray.size).2.2)
  have e : (slicePick vs.toArray lo hi' st).toList = (sliceRange (sliceBounds lo hi' st vs.toArray.size).1 (sliceBounds lo hi' st vs.toArray.size).2.1 (sliceBounds lo hi' st vs.toArray.size).2.2).filterMap (vs[·]?) := by
    unfold slicePick
    simp
  refine ⟨_, e ▸ h, ?_⟩
  rw [← h.length, ← e, Array.length_toList]
  refine Nat.le_trans (slicePick_size_le _ _ _ _) ?_
  simp [hi.length]
theorem evk_sliceTo {value up : Expr} {p pos : Pos} {a : Addr} {ns : List Int} {k : Int} (hv : Ev w A env h value (· = .ref a)) (hl : LI h a ns) (hn : ns.length ≤ sizeLine) (hu : Ev w A env h up (IsI k)) (ht : ∀ o r, letTemporaryGo value o r = pure () := by intro _ _; rfl) :
    EvK w A env h (.Subscript value (.Slice none (some up) none p) pos) (fun v h' => ∃ D ns', v = .ref D ∧ h.get? D = none ∧ LI h' D ns' ∧ ns'.length ≤ ns.length) := fun s E Q hs hq => by
  subst hs
  obtain ⟨vs, hL, hI⟩ := hl.ints
  refine ⟨wpAny_Subscript_list_slice (Wp.run (hv s E _ rfl fun o k₁ ho => wpAny_evalPart_none (wpAny_evalPart_some (Wp.run (hu _ E _ rfl fun u k₂ hu' => ?_))))) ht⟩
  subst ho
  obtain ⟨t, rfl⟩ := hu'
  obtain ⟨ns', h1, h2⟩ := pick_ints hI none (some k) none
  refine ⟨a, vs.toArray, none, some k, rfl, hL, by simpa [hI.length] using hn, .none, .int k t, ?_⟩
  refine hq _ _ k₂ ((Sub.push _ _).trans (Sub.push _ _)) ⟨_, ns', rfl, Heap.get?_none_of_le (Nat.le_succ _), ⟨_, ?_, paired_ints h1⟩, h2⟩
  have := Heap.get?_push_size (s.heap.push { cls := .type "slice", data := .fields #[Value.none, .int k t, .none] }) (o := { cls := .type "list", data := .seq (slicePick vs.toArray none (some k) none) }) rfl
  rw [Heap.size_push] at this
  exact ⟨_, this, rfl, _, rfl⟩
theorem evk_sliceBy {value lo st : Expr} {p pos : Pos} {a : Addr} {ns : List Int} {k j : Int} (hv : Ev w A env h value (· = .ref a)) (hl : LI h a ns) (hn : ns.length ≤ sizeLine) (hlo : Ev w A env h lo (IsI k)) (hst : Ev w A env h st (IsI j)) (hj : j ≠ 0) (ht : ∀ o r, letTemporaryGo value o r = pure () := by intro _ _; rfl) :
    EvK w A env h (.Subscript value (.Slice (some lo) none (some st) p) pos) (fun v h' => ∃ D ns', v = .ref D ∧ LI h' D ns') := fun s E Q hs hq => by
  subst hs
  obtain ⟨vs, hL, hI⟩ := hl.ints
  refine ⟨wpAny_Subscript_Slice_step (T := "list") list_getitem_lookup (Wp.run (hv s E _ rfl fun o k₁ ho => wpAny_Slice (wpAny_evalPart_some (Wp.run (hlo _ E _ rfl fun u k₂ hu => wpAny_evalPart_none (wpAny_evalPart_some (Wp.run (hst _ E _ rfl fun u' k₃ hu' => ?_)))))))) ht⟩
  subst ho
  obtain ⟨t, rfl⟩ := hu
  obtain ⟨t', rfl⟩ := hu'
  obtain ⟨ns', h1, h2⟩ := pick_ints hI (some k) none (some j)
  have hL' := hL.push { cls := .type "slice", data := .fields #[.int k t, .none, .int j t'] }
  refine ⟨Heap.IsList.typeIs (s := { s with heap := s.heap.push _, toks := k₃ }) hL', wpAny_getItem_list_slice (s := { s with heap := s.heap.push _, toks := k₃ }) hL' (Heap.IsSliceOf.new ..) (.int k t) .none (.int j t') (fun q => hj (Option.some.inj q)) ?_ (by simpa [hI.length] using hn)⟩
  refine hq _ _ k₃ ((Sub.push _ _).trans (Sub.push _ _)) ⟨_, ns', rfl, _, ?_, paired_ints h1⟩
  exact ⟨_, Heap.get?_push_size _ rfl, rfl, _, rfl⟩

/-- tests -/
theorem tst_ltK {l r : Expr} {pos : Pos} {a b : Int} (hl : EvK w A env h l (fun v _ => IsI a v)) (hr : ∀ {h'}, Sub h h' → Ev w A env h' r (IsI b)) (hm : behindInMarks .Lt r = false := by with_unfolding_all rfl) : TstK w A env h (.Compare l [.Lt] [r] pos) (decide (a < b)) := fun s E Q hs hq => by
  refine ⟨wpAny_isTrue_Compare1 (Wp.run (hl s E _ hs fun v h₁ k₁ hs₁ hv => Wp.run (hr hs₁ _ E _ rfl fun u k₂ hu => ?_))) hm⟩
  obtain ⟨t, rfl⟩ := hv
  obtain ⟨t', rfl⟩ := hu
  exact wpAny_lt_int (wpAny_truthy_bool (hq _ _ hs₁))
theorem tst_true {k : Nat} {pos : Pos} : TstK w A env h (.Constant (.bool true) k pos) true :=
  tst_bool (fun s E Q hs hq => ⟨wpAny_Constant_bool (by subst hs; exact hq _ s.heap s.toks (Sub.refl _) rfl)⟩) (fun _ => rfl)
theorem tst_orF {x y : Expr} {pos : Pos} (hx : TstK w A env h x false) (hy : ∀ {h'}, Sub h h' → TstK w A env h' y false) : TstK w A env h (.BoolOp .Or [x, y] pos) false := fun s E Q hs hq => by
  refine ⟨PyProof.Rows.isTrue_or (Wp.run (hx s E _ hs fun h₁ k₁ hs₁ => ?_))⟩
  rw [if_neg (by decide)]
  refine PyProof.Rows.isTrue_or (Wp.run (hy hs₁ _ E _ rfl fun h₂ k₂ hs₂ => ?_))
  rw [if_neg (by decide)]
  exact PyProof.Rows.isTrue_or_nil (hq h₂ k₂ (hs₁.trans hs₂))
theorem evk_eqS {l r : Expr} {pos : Pos} {x : Str} (hl : EvK w A env h l (fun v _ => IsS x v)) (hr : ∀ {h'}, Sub h h' → EvK w A env h' r (fun v _ => IsS x v)) (hm : behindInMarks .Eq r = false := by with_unfolding_all rfl) : EvK w A env h (.Compare l [.Eq] [r] pos) (fun v _ => v = .bool true) := fun s E Q hs hq => by
  refine ⟨wpAny_Compare1 (Wp.run (hl s E _ hs fun v h₁ k₁ hs₁ hv => Wp.run (hr hs₁ _ E _ rfl fun u h₂ k₂ hs₂ hu => ?_))) hm⟩
  obtain ⟨t, rfl⟩ := hv
  obtain ⟨t', rfl⟩ := hu
  refine PySem.P.eq_str ?_
  have : (x.cps.toList == x.cps.toList) = true := by simp
  rw [this]
  exact hq _ _ _ (hs₁.trans hs₂) rfl

/-- replace(x, *ps) -/
theorem evk_star {fn : Str} {p pos sp : Pos} {e1 e2 : Expr} {a b : Addr} {o : Obj} {fd : FuncData} {vs : List Value} {V1 : Value → Prop} {V : Value → Heap → Prop} (hf : Ev w A env h (.Name fn p) (· = .ref a)) (ho : h.get? a = some o) (hd : o.data = .func fd) (he1 : Ev w A env h e1 V1) (he2 : Ev w A env h e2 (· = .ref b))
    (hl : h.IsList b vs.toArray) (hn : vs.length ≤ sizeLine) (hc : ∀ v1 (s : Shared), Sub h s.heap → V1 v1 → CallK w A s (.ref a) (v1 :: vs) V)
    (h1 : starEach [e1, .Starred e2 sp] env = (false, eval e1 env) :: starEach [.Starred e2 sp] env := by rfl) (h2 : starEach [.Starred e2 sp] env = (true, eval e2 env) :: starEach [] env := by rfl) : EvK w A env h (.Call (.Name fn p) [e1, .Starred e2 sp] [] pos) V := fun s E Q hs hq => by
  subst hs
  refine ⟨wpAny_Call_NameR (Wp.run (hf s E _ rfl fun f k hf => ?_))⟩
  subst hf
  refine callWith_function (o := o) (fd := fd) ?_
  have hst : backTo pos (starEach [e1, .Starred e2 sp] env) = (false, eval e1 env) :: backTo pos (starEach [.Starred e2 sp] env) := by rw [h1]; rfl
  rw [hst]
  refine evalArgs_plain (spliced_cons (Wp.run (he1 _ E _ rfl fun v1 k₁ hv1 => ?_)))
  refine items_star (Wp.run (he2 _ E _ rfl fun v2 k₂ hv2 => ?_)) h2
  subst hv2
  obtain ⟨ob, hob, hcb, n, hdb⟩ := id hl
  have fin : ∀ h', (∀ c o', s.heap.get? c = some o' → h'.get? c = some o') → wpAny (model P w) A (spliced (backTo pos (starEach [] env))) (fun ws s₃ => (s₃.heap.get? a = some o ∧ o.data = .func fd) ∧ wpAny (model P w) A (call (.ref a) ([] ++ (v1 :: (vs.toArray.toList ++ ws)))) Q E s₃) E { s with heap := h', toks := k₂ } := fun h' hk => by
    refine wpAny_items_nil ⟨⟨hk _ _ ho, hd⟩, ?_⟩
    rw [List.append_nil]
    exact Wp.run (hc v1 { s with heap := h', toks := k₂ } hk hv1 E Q fun r h₃ k₃ hs₃ hr => hq r h₃ k₃ (Sub.trans hk hs₃) hr)
  unfold StarOf notIterableAtAll
  have hT : Shared.TypeIs { s with toks := k₂ } (.ref b) "list" := ⟨ob, hob, hcb⟩
  exact wpAny_bind (wpAny_specialOf hT PySem.F.slot_list_iter.lookup (wpAny_pure ⟨rfl, wpAny_collect_seq (s := { s with toks := k₂ }) b (.inl rfl) hob hcb hdb (fun h' hk => fin h' hk) (by simpa using hn)⟩))

/-- x += ys, in place -/
theorem ex_augL {s : Shared} {E : Value → Shared → Prop} {Q : Flow → Shared → Prop} {x : Str} {px pos : Pos} {value : Expr} {rest : List Stmt} {D : Addr} {vs : List Value} {R : List Value → Prop} (F : Fm gh env s.heap m cm) (hl : env.kindOf x = some .local) (hx : m x = some (.ref D)) (hpl : s.heap.PlainList D vs.toArray) (hD : gh.get? D = none)
    (hv : EvK w A env s.heap value (fun v h' => ∃ b ws, v = .ref b ∧ h'.PlainList b (List.toArray ws) ∧ R ws)) (hsz : ∀ ws, R ws → vs.length + ws.length ≤ 100000)
    (hq : ∀ ws h₂ k, R ws → h₂.PlainList D (vs ++ ws).toArray → (∀ b o, b ≠ D → b ≠ env.locals → s.heap.get? b = some o → h₂.get? b = some o) → Fm gh env h₂ (up m x (.ref D)) cm → Wp w A (execs rest env) Q E { s with heap := h₂, toks := k }) :
    Wp w A (execs (.AugAssign (.Name x px) .Add value pos :: rest) env) Q E s := by
  refine ex_seq (wpAny_AugAssign_Name (wpAny_loadName_local F.loc.kind hl F.loc.ns hx (Wp.run (hv s E _ rfl fun b h₁ k hs₁ hb => ?_))))
  obtain ⟨b, ws, rfl, hb, hR⟩ := hb
  have hpl₁ := PlainList.sub hpl hs₁
  refine iadd_list (s := { s with heap := h₁, toks := k }) hpl₁ hb (by simpa using hsz ws hR) fun h₂ hpl₂ hs₂ => ?_
  have off := (F.mono hs₁).listOff hpl₁
  have F₂ := (F.mono hs₁).setList hs₂ hD off.1 off.2
  refine wpAny_storeName_local hl F₂.loc.ns (fun h₃ hn₃ hs₃ => ?_) (by rw [F.loc.kind]; rfl)
  refine hq ws h₃ _ hR ?_ (fun b o hbD hbL e => hs₃.extBut b o hbL (hs₂.extBut b o hbD (hs₁ b o e))) (F₂.setLocal hn₃ hs₃)
  have : (vs ++ ws).toArray = vs.toArray ++ ws.toArray := by simp
  rw [this]
  exact PlainList.same hpl₂ F₂.loc.ns hs₃
/-- two texts in a display -/
theorem evs_pair {pos : Pos} {e1 e2 : Expr} {x y : Str} (h1 : Ev w A env h e1 (IsS x)) (h2 : Ev w A env h e2 (IsS y)) (hs1 : starEach [e1, e2] env = (false, eval e1 env) :: starEach [e2] env := by rfl) (hs2 : starEach [e2] env = (false, eval e2 env) :: starEach [] env := by rfl) :
    Evs w A env h pos [e1, e2] (Paired IsS [x, y]) := evs_consP h1 (evs_consP h2 evs_nilP hs2) hs1
end
end Mine
end PartQ17
section PartQ18
open PySem PySem.W PyProof.Rows PySem.Calls
set_option maxRecDepth 100000
set_option linter.unusedVariables false
namespace Mine
section
variable {w : World} {A : Around} {env : Env} {gh h h' : Heap} {m cm : Str → Option Value}
/-- a source whose iterator stays alive -/
def SrcL (w : World) (A : Around) (env : Env) (h : Heap) (iter : Expr) (srcs : List Addr) (n : Nat) (Pv : Nat → Value → Prop) : Prop :=
  ∀ (s : Shared) (E : Value → Shared → Prop) (K : Value → Shared → Prop), s.heap = h →
    (∀ I fp St h' k, Sub h h' → Walks P w A I fp [I] n Pv St → (∀ i h, St i h → ∃ o, h.get? I = some o) → St 0 h' → (∀ b ∈ fp, b < h'.objs.size) → h.objs.size ≤ I → (∀ b ∈ fp, b = I ∨ b ∈ srcs) → K (.ref I) { s with heap := h', toks := k }) →
    Wp w A (eval iter env) (fun xv s₁ => wpAny (model P w) A (pyIter xv) K E s₁) E s
theorem srcL_range1 {rp rpos : Pos} {e : Expr} {N : Nat} (hh : A.handled = none) (hr : Ev w A env h (.Name "range" rp) (· = .type "range")) (he : Ev w A env h e (IsI N)) (hN : (N : Int) < 2 ^ 62)
    (hse : backTo rpos (starEach [e] env) = [(false, eval e env)] := by rfl) : SrcL w A env h (.Call (.Name "range" rp) [e] [] rpos) [] N (fun i v => IsI i v) := fun s E K hs hK => by
  refine ⟨wpAny_Call_NameR (Wp.run (hr s E _ hs fun f k hf => ?_))⟩
  subst hf
  rw [hse]
  refine PyProof.Rows.callWith_type rfl (Calls.evalArgs_plain (Calls.spliced_cons (Wp.run (he _ E _ hs fun x k' hx => Calls.spliced_nil ?_))))
  obtain ⟨t, rfl⟩ := hx
  subst hs
  refine call_range_1 ?_
  refine wpAny_pyIter_range (IsRange.new ..) (small_one (by decide) (by decide) (by omega) hN) ?_
  have hsz : Builtin.Range.rangeSize 0 N 1 = (N : Int) := by rw [rangeSize_one]; split <;> omega
  have W := Walks.range (prog := P) (w := w) hh (s.heap.push { cls := .type "range", data := .fields #[.int 0 k', .int N t, .int 1 (k' + 1)] }).objs.size 0 1 N
  have e0 : (fun (i : Nat) (v : Value) => ∃ t, v = Value.int (0 + (i : Int) * 1) t) = fun (i : Nat) (v : Value) => IsI i v := by
    funext i v; simp [IsI]
  rw [e0] at W
  refine hK _ _ _ _ _ ((Sub.push _ _).trans (Sub.push _ _)) W (fun i h st => ⟨_, st⟩) ?_ (fun b hb => ?_) (by rw [Heap.size_push]; exact Nat.le_succ _) (fun b hb => .inl (List.mem_singleton.mp hb))
  · have e1 : (0 + ((0 : Nat) : Int) * 1) = 0 := by simp
    have e2 : ((N : Int) - ((0 : Nat) : Int)) = Builtin.Range.rangeSize 0 N 1 := by rw [hsz]; simp
    rw [e1, e2]
    exact Heap.get?_push_size _ rfl
  · rw [List.mem_singleton.mp hb, Heap.size_push (h := Heap.push _ _)]; exact Nat.lt_succ_self _

theorem for_core2 {s : Shared} {E : Value → Shared → Prop} {Q : Flow → Shared → Prop} {target iter : Expr} {body orelse rest : List Stmt} {pos : Pos} {srcs : List Addr} {n : Nat} {Pv : Nat → Value → Prop} {D : List Addr}
    (um : (Str → Option Value) → Value → Str → Option Value) (uc : (Str → Option Value) → Value → Str → Option Value)
    (asg : ∀ (g' : Heap) v (s' : Shared) m₁ cm₁ (E' : Value → Shared → Prop) (Q' : Unit → Shared → Prop), Fm g' env s'.heap m₁ cm₁ → (∀ h₂ k c, Fm g' env h₂ (um m₁ v) (uc cm₁ v) → Heap.SameBut c s'.heap h₂ → (c = env.locals ∨ c ∈ env.cells.map (·.2)) → Q' () { s' with heap := h₂, toks := k }) → wpAny (model P w) A (assign target env v) Q' E' s')
    (F : Fm gh env s.heap m cm) (hD : ∀ d ∈ D, gh.get? d = none) (hDs : ∀ d ∈ D, ∃ o, s.heap.get? d = some o) (hDL : ∀ d ∈ D, d ≠ env.locals ∧ d ∉ env.cells.map (·.2))
    (src : SrcL w A env s.heap iter srcs n Pv) (hsrc : ∀ b ∈ srcs, ∃ o, gh.get? b = some o)
    (J : List Addr → Nat → Heap → (Str → Option Value) → (Str → Option Value) → Prop) (J0 : ∀ X, (∀ d ∈ D, d ∉ X) → (∀ d o, s.heap.get? d = some o → d ≠ env.locals → d ∉ env.cells.map (·.2) → d ∉ X) → J X 0 s.heap m cm)
    (Jm : ∀ X i h h' m cm, J X i h m cm → (∀ b o, b ∉ X → h.get? b = some o → h'.get? b = some o) → J X i h' m cm)
    (turn : ∀ (gb : Heap) (X : List Addr) i v h₁ m₁ cm₁ k (E' : Value → Shared → Prop), Sub gh gb → (∀ d ∈ D, gb.get? d = none) → i < n → Pv i v → J X i h₁ m₁ cm₁ → (∀ d ∈ D, ∃ o, h₁.get? d = some o) → (∀ b ∈ X, ∃ o, h₁.get? b = some o) → (∀ b o, b ∉ D → b ≠ env.locals → b ∉ env.cells.map (·.2) → h₁.get? b = some o → gb.get? b = some o) → Fm gb env h₁ (um m₁ v) (uc cm₁ v) →
      Wp w A (execs body env) (fun f s₃ => match f with
        | .next => ∃ h₃ k₃ m₃ cm₃, s₃ = { s with heap := h₃, toks := k₃ } ∧ Fm gb env h₃ m₃ cm₃ ∧ J X (i + 1) h₃ m₃ cm₃ ∧ (∀ d ∈ D, ∃ o, h₃.get? d = some o)
        | .cont => False
        | .brk => Wp w A (execs rest env) Q E s₃
        | .ret v => Q (.ret v) s₃) E' { s with heap := h₁, toks := k })
    (done : ∀ X h₁ m₁ cm₁ k (E' : Value → Shared → Prop), J X n h₁ m₁ cm₁ → (∀ d ∈ D, ∃ o, h₁.get? d = some o) → Fm gh env h₁ m₁ cm₁ → Wp w A (execs orelse env) (fun f s₃ => match f with | .next => Wp w A (execs rest env) Q E s₃ | f => Q f s₃) E' { s with heap := h₁, toks := k })
    (hs : ∀ x, foldedSetIterable iter env x = pure x) (ht : ∀ it v, letOwnedTupleGo target it v = pure ()) :
    Wp w A (execs (.For target iter body orelse pos :: rest) env) Q E s := by
  refine ex_seq (wpAny_For (Wp.run (src s E _ rfl fun I fp St h₂ k₂ hsub W live hst hfp hI hfpk => ?_)) hs)
  have below : ∀ (b : Addr) (o : Obj), s.heap.get? b = some o → b ≠ I := fun b o e hb => absurd (Heap.lt_size e) (Nat.not_lt.mpr (hb ▸ hI))
  have hLI : env.locals ≠ I := by obtain ⟨o, _, _, e, _⟩ := id F.loc.ns; exact below _ _ e
  have hCI : ∀ c ∈ env.cells.map (·.2), c ≠ I := fun c hc => by
    obtain ⟨p, hp, rfl⟩ := List.mem_map.mp hc
    obtain ⟨o, e, _⟩ := F.loc.cells _ _ (F.look p hp)
    exact below _ _ e
  have hDI : ∀ d ∈ D, d ≠ I := fun d hd => by obtain ⟨o, e⟩ := hDs d hd; exact below _ _ e
  -- what stays through the loop
  let X : List Addr := I :: env.locals :: env.cells.map (·.2)
  have hXD : ∀ d ∈ D, d ∉ X := fun d hd hm => by
    rcases List.mem_cons.mp hm with e | hm
    · exact hDI d hd e
    · rcases List.mem_cons.mp hm with e | hm
      · exact (hDL d hd).1 e
      · exact (hDL d hd).2 hm
  have J0' : J X 0 s.heap m cm := J0 X hXD fun d o e h1 h2 hm => by
    rcases List.mem_cons.mp hm with e' | hm
    · exact below d o e e'
    · rcases List.mem_cons.mp hm with e' | hm
      · exact h1 e'
      · exact h2 hm
  have F₂ : Fm gh env h₂ m cm := F.mono hsub
  have ghI : gh.get? I = none := by
    cases e : gh.get? I with
    | none => rfl
    | some o => exact absurd rfl (below I o (F.base I o e))
  refine codeAny_forLoop (fun k s' => ∃ i h₁ tk m₁ cm₁, s' = { s with heap := h₁, toks := tk } ∧ i ≤ n ∧ k = n - i ∧ St i h₁ ∧ Fm gh env h₁ m₁ cm₁ ∧ J X i h₁ m₁ cm₁ ∧ (∀ d ∈ D, ∃ o, h₁.get? d = some o)) ?_ n
    ⟨0, h₂, k₂, m, cm, rfl, Nat.zero_le _, rfl, hst, F₂, Jm X 0 _ _ _ _ J0' (fun d o _ e => hsub d o e), (fun d hd => let ⟨o, e⟩ := hDs d hd; ⟨o, hsub d o e⟩)⟩ (ht _)
  rintro k s' ⟨i, h₁, tk, m₁, cm₁, rfl, hi, rfl, hst₁, F₁, J₁, hD₁⟩
  by_cases hlt : i < n
  · refine W.item i _ _ _ hlt hst₁ fun v h₃ tk₃ hv hst₃ hk₃ => ?_
    have hk3 : ∀ b o, b ≠ I → h₁.get? b = some o → h₃.get? b = some o := fun b o hb e => hk₃ b o (fun hm => hb (List.mem_singleton.mp hm)) e
    have F₃ : Fm gh env h₃ m₁ cm₁ := by
      refine ⟨⟨F₁.loc.kind, F₁.loc.ns.at' fun o e => hk3 _ o hLI e, fun n c e => ?_⟩, fun b o e => hk3 b o (fun q => by rw [q, ghI] at e; cases e) (F₁.base b o e), F₁.off, F₁.coff, F₁.apart, F₁.look⟩
      obtain ⟨o, ho, hd⟩ := F₁.loc.cells n c e
      exact ⟨o, hk3 c o (hCI c (List.mem_map.mpr ⟨_, mem_of_lookup e, rfl⟩)) ho, hd⟩
    refine asg gh v _ m₁ cm₁ _ _ F₃ fun h₄ k₄ c F₄ hsb hc => ?_
    have hDc : ∀ d ∈ D, d ≠ c := fun d hd q => by
      rcases hc with e | e
      · exact (hDL d hd).1 (q.trans e)
      · exact (hDL d hd).2 (q ▸ e)
    have hD4 : ∀ d ∈ D, ∀ o, h₁.get? d = some o → h₄.get? d = some o := fun d hd o e => hsb.extBut d o (hDc d hd) (hk3 d o (hDI d hd) e)
    have hIc : I ≠ c := fun q => by
      rcases hc with e | e
      · exact hLI (q.trans e).symm
      · exact hCI c e q.symm
    have hsc : ∀ b ∈ srcs, b ≠ c := fun b hb q => by
      obtain ⟨o, e⟩ := hsrc b hb
      rcases hc with h' | h'
      · rw [q, h', F.off] at e; cases e
      · obtain ⟨p, hp, rfl⟩ := List.mem_map.mp h'
        rw [q, F.coff p hp] at e; cases e
    have hst₄ : St (i + 1) h₄ := W.frame _ _ _ hst₃ fun b hb o e => hsb.extBut b o (by rcases hfpk b hb with rfl | hb'; exact hIc; exact hsc b hb') e
    have GW := F₄.grow D
    have hX4 : ∀ b o, b ∉ X → h₁.get? b = some o → h₄.get? b = some o := fun b o hb e => by
      refine hsb.extBut b o (fun q => hb ?_) (hk3 b o (fun q => hb (q ▸ List.mem_cons_self)) e)
      rcases hc with e' | e'
      · rw [q, e']; exact List.mem_cons_of_mem _ List.mem_cons_self
      · rw [q]; exact List.mem_cons_of_mem _ (List.mem_cons_of_mem _ e')
    have hXa : ∀ b ∈ X, ∃ o, h₄.get? b = some o := fun b hb => by
      rcases List.mem_cons.mp hb with rfl | hb
      · obtain ⟨o, e⟩ := live _ _ hst₃; exact ⟨o, hsb.extBut _ o hIc e⟩
      · rcases List.mem_cons.mp hb with rfl | hb
        · obtain ⟨o, _, _, e, _⟩ := id F₄.loc.ns; exact ⟨o, e⟩
        · obtain ⟨p, hp, rfl⟩ := List.mem_map.mp hb
          obtain ⟨o, e, _⟩ := F₄.loc.cells _ _ (F₄.look p hp); exact ⟨o, e⟩
    refine wpAny_mono (Wp.run (turn _ X i v h₄ m₁ cm₁ k₄ _ (GW.2 hD) (fun d hd => hideAll_none _ (List.mem_cons_of_mem _ (List.mem_append_right _ hd))) hlt hv (Jm _ _ _ _ _ _ J₁ hX4) (fun d hd => let ⟨o, e⟩ := hD₁ d hd; ⟨o, hD4 d hd o e⟩) hXa (fun b o h1 h2 h3 e => hideAll_get _ e fun hm => by
      rcases List.mem_cons.mp hm with e' | hm
      · exact h2 e'
      · rcases List.mem_append.mp hm with hm | hm
        · exact h3 hm
        · exact h1 hm) GW.1)) (fun f s₃ hf => ?_) fun _ _ x => x
    cases f with
    | next =>
      obtain ⟨h₅, k₅, m₅, cm₅, rfl, F₅, J₅, hD₅⟩ := hf
      refine ⟨n - (i + 1), by omega, i + 1, h₅, k₅, m₅, cm₅, rfl, hlt, rfl, ?_, F₅.weaken (GW.2 hD), J₅, hD₅⟩
      refine W.frame _ _ _ hst₄ fun b hb o e => F₅.base b o (hideAll_get _ e fun hm => ?_)
      rcases hfpk b hb with rfl | hb'
      · rcases List.mem_cons.mp hm with e' | hm
        · exact hLI e'.symm
        · rcases List.mem_append.mp hm with hm | hm
          · exact hCI _ hm rfl
          · exact hDI _ hm rfl
      · obtain ⟨o', e'⟩ := hsrc b hb'
        rcases List.mem_cons.mp hm with q | hm
        · rw [q, F.off] at e'; cases e'
        · rcases List.mem_append.mp hm with hm | hm
          · obtain ⟨p, hp, rfl⟩ := List.mem_map.mp hm
            rw [F.coff p hp] at e'; cases e'
          · rw [hD _ hm] at e'; cases e'
    | cont => exact hf.elim
    | brk => exact hf
    | ret v => exact hf
  · have hin : i = n := by omega
    subst hin
    refine W.done _ _ _ hst₁ fun h₃ tk₃ hk₃ => ?_
    have hk3 : ∀ b o, b ≠ I → h₁.get? b = some o → h₃.get? b = some o := fun b o hb e => hk₃ b o (fun hm => hb (List.mem_singleton.mp hm)) e
    have F₃ : Fm gh env h₃ m₁ cm₁ := by
      refine ⟨⟨F₁.loc.kind, F₁.loc.ns.at' fun o e => hk3 _ o hLI e, fun n c e => ?_⟩, fun b o e => hk3 b o (fun q => by rw [q, ghI] at e; cases e) (F₁.base b o e), F₁.off, F₁.coff, F₁.apart, F₁.look⟩
      obtain ⟨o, ho, hd⟩ := F₁.loc.cells n c e
      exact ⟨o, hk3 c o (hCI c (List.mem_map.mpr ⟨_, mem_of_lookup e, rfl⟩)) ho, hd⟩
    refine wpAny_mono (Wp.run (done X h₃ m₁ cm₁ tk₃ _ (Jm _ _ _ _ _ _ J₁ fun d o hd e => hk3 d o (fun q => hd (q ▸ List.mem_cons_self)) e) (fun d hd => let ⟨o, e⟩ := hD₁ d hd; ⟨o, hk3 d o (hDI d hd) e⟩) F₃)) (fun f s₃ hf => hf) fun _ _ x => x
end

/-! the lambda -/
def lamOf (ss : List Stmt) : Arguments × Expr × Scope × Pos := match ss with
  | .For _ _ (.Assign _ (.Call _ [_, .Lambda a b sc p] _ _) _ :: _) _ _ :: _ => (a, b, sc, p)
  | _ => (paramsOf 0, .List [] ⟨0, 0, 0, 0⟩, scopeOf 0, ⟨0, 0, 0, 0⟩)
def lamA : Arguments := (lamOf ((bodyOf 12).drop 7)).1
def lamB : Expr := (lamOf ((bodyOf 12).drop 7)).2.1
def lamS : Scope := (lamOf ((bodyOf 12).drop 7)).2.2.1
def lamP : Pos := (lamOf ((bodyOf 12).drop 7)).2.2.2

def LamTop (h : Heap) : Prop := ∃ mg, h.Ns mainGlobals mg ∧ CodeHd h 67 65 ∧ h.BuiltinsAt mg 65
theorem LamTop.mono {h h' : Heap} (x : LamTop h) (k : Sub h h') : LamTop h' :=
  let ⟨mg, a, b, bm, o, r1, r2, r3, r4, r5, r6⟩ := x; ⟨mg, a.keeps k, b.keeps k, bm, o, r1, r2, r3, r4, k _ _ r5, r6⟩
def TabSt (h : Heap) (qual : Str) (ok : Addr → Prop) : Prop := h.get? 65 = some (tabObj #[]) ∨ ∃ c' : Addr, h.get? 65 = some (tabObj #[rawInt lamP.line, rawInt lamP.col, .ref c']) ∧ h.CodeRec (.ref c') qual ∧ c' ≠ 65 ∧ ok c'
theorem codeRec_at {h h' : Heap} {c' : Addr} {q : Str} (x : h.CodeRec (.ref c') q) (k : ∀ o, h.get? c' = some o → h'.get? c' = some o) : h'.CodeRec (.ref c') q :=
  let ⟨c, o, vs, t, e, g, r⟩ := x
  ⟨c, o, vs, t, e, by cases e; exact k _ g, r⟩
theorem lam_eval {w : World} {A : Around} {s : Shared} {E : Value → Shared → Prop} {Q : Value → Shared → Prop} {env : Env} {clos : List (Str × Addr)} {qual : Str} {ok : Addr → Prop} (LT : LamTop s.heap) (T : TabSt s.heap qual ok) (hcl : closureFor lamS env = pure clos) (hdef : defaultsOf lamA env = ([], [])) (hge : env.globals = mainGlobals) (hcode : env.code = .ref 67) (hq : env.qual ++ "<lambda>" = qual)
    (hok : ∀ c', s.heap.get? c' = none → ok c')
    (hQ : ∀ f h' k c' pm ctv, (∀ b o, b ≠ 65 → s.heap.get? b = some o → h'.get? b = some o) → s.heap.get? f = none → h'.get? f = some (kla_obj "<lambda>" qual lamA lamB lamS clos pm c' ctv) → h'.CodeRec (.ref c') qual → TabSt h' qual ok → Q (.ref f) { s with heap := h', toks := k }) :
    wpAny (model P w) A (eval (.Lambda lamA lamB lamS lamP) env) Q E s := by
  obtain ⟨mg, hns, hC, hB⟩ := LT
  refine kla_eval hdef ?_
  rw [hq]
  rcases T with T | ⟨c', T, hrec, hc65, hokc⟩
  · refine kla_makeFunction (ps := #[]) hcl hge hns hcode hC T trivial rfl (by decide) hB fun c' ctv h' tk hx hge' hlt hrec htb => ?_
    have hf : s.heap.get? h'.objs.size = none := Heap.get?_none_of_le (Nat.le_of_lt (Nat.lt_of_le_of_lt hge' hlt))
    have hc : s.heap.get? c' = none := Heap.get?_none_of_le hge'
    refine hQ _ _ _ c' _ ctv (fun b o hb e => Heap.get?_push_of_some _ (hx b o hb e)) hf (Heap.get?_push_size _ rfl) (hrec.push _) (.inr ⟨c', Heap.get?_push_of_some _ (by simpa using htb), hrec.push _, fun q => ?_, hok c' hc⟩)
    rw [q, T] at hc; cases hc
  · refine kla_makeFunctionHit (cv := .ref c') hcl hge hns hcode hC T trivial (by simp [codeAmong, rawInt]) hB fun ctv h' tk hk hsz => ?_
    have hf : s.heap.get? h'.objs.size = none := Heap.get?_none_of_le hsz
    exact hQ _ _ _ c' _ ctv (fun b o _ e => Heap.get?_push_of_some _ (hk b o e)) hf (Heap.get?_push_size _ rfl) ((hrec.keeps hk).push _) (.inr ⟨c', Heap.get?_push_of_some _ (hk _ _ T), (hrec.keeps hk).push _, hc65, hokc⟩)

theorem c_lam {w : World} {A : Around} {s : Shared} {f c' a b W : Addr} {pm ctv v : Value} {qual : Str} {x y : Str} {ws : List Str} {i : Int} {ti : Tok} (lim : s.heap.NoLimit) (room : A.depth < recursionLimit)
    (hf : s.heap.get? f = some (kla_obj "<lambda>" qual lamA lamB lamS [("words", a), ("k", b)] pm c' ctv)) (hrec : s.heap.CodeRec (.ref c') qual) (hx : IsS x v)
    (ha : s.heap.IsCell a (some (.ref W))) (hb : s.heap.IsCell b (some (.int i ti))) (hW : LS s.heap W ws) (h0 : 0 ≤ i) (h6 : i ≤ 6) (hy : ws[(6 - i).toNat]? = some y) :
    CallK w A s (.ref f) [v] (fun r _ => r = .bool (x == y)) := fun E Q hq => by
  refine ⟨wpAny_call (kla_callFunE room hf rfl rfl rfl rfl hrec ?_)⟩
  have hbind : bindArgs (kla_fn "<lambda>" qual lamA lamB lamS [("words", a), ("k", b)] pm (.ref c') ctv) ⟨[v], []⟩ = (pure [(("word" : Str), v)] : Sem (List (Str × Value))) := rfl
  rw [hbind]
  refine wpAny_pure (wpAny_newFunctionEnv (show ∀ z ∈ lamS.names, z.2 ≠ .cell by decide) (show ∀ z ∈ [(("word" : Str), v)], lamS.names.lookup z.1 = some .local by intro z hz; rw [List.mem_singleton.mp hz]; rfl) (fun h₁ hns hsb => ⟨lim.fresh _ hsb, ?_⟩) rfl)
  have hk₁ : Sub s.heap h₁ := fun b o e => hsb.extBut b o (Nat.ne_of_lt (Heap.lt_size e)) (Heap.get?_push_of_some _ e)
  show codeAny _ _ (.expr lamB (envX qual lamS s.heap.objs.size f (.ref c') [("words", a), ("k", b)])) _ _
  have L : Loc (envX qual lamS s.heap.objs.size f (.ref c') [("words", a), ("k", b)]) h₁ (fun z => [(("word" : Str), v)].reverse.lookup z) (fun z => if z = "words" then some (.ref W) else some (.int i ti)) :=
    ⟨rfl, hns, fun n c e => by
      have e' : [(("words" : Str), a), ("k", b)].lookup n = some c := e
      by_cases h1 : n = "words"
      · subst h1; cases e'; simpa using ha.keeps hk₁
      · rw [if_neg h1]
        rw [List.lookup_cons, beq_eq_false_iff_ne.mpr h1] at e'
        dsimp only at e'
        rw [List.lookup_cons] at e'
        split at e'
        · cases e'; exact hb.keeps hk₁
        · cases e'⟩
  refine kla_codeExpr (wpAny_mono (Wp.run (show Wp w (A.deeper (envX qual lamS s.heap.objs.size f (.ref c') [("words", a), ("k", b)])) (eval lamB (envX qual lamS s.heap.objs.size f (.ref c') [("words", a), ("k", b)])) (fun r s' => ∃ k, r = .bool (x == y) ∧ s' = { s with heap := h₁, toks := k }) _ _ from ⟨?_⟩)) (fun r s' hr => ?_) fun _ _ z => z)
  · refine wpAny_Compare1 (Wp.run ((ev_local L rfl (show _ = some v from rfl)) _ _ _ rfl fun u k hu => Wp.run ((ev_item_S (ev_free L rfl rfl (show _ = some (Value.ref W) from rfl)) (ev_sub ev_int ((ev_free L rfl rfl (show _ = some (Value.int i ti) from rfl)).mono fun u hu => ⟨ti, hu⟩)) (hW.mono hk₁) (by omega) (by omega) hy) _ _ _ rfl fun u' k' hu' => ?_)))
    subst hu
    obtain ⟨t, rfl⟩ := hx
    obtain ⟨t', rfl⟩ := hu'
    exact PyProof.Rows.eq_str ⟨_, rfl, rfl⟩
  · obtain ⟨k, rfl, rfl⟩ := hr
    exact hq _ h₁ k hk₁ rfl
end Mine
end PartQ18
section PartP1
open PySem PySem.W PyProof.Rows PySem.Calls
open PySem.Builtin PySem.Builtin.Str PySem.StrLaws
set_option maxRecDepth 100000
set_option linter.unusedVariables false
namespace Mine
/-! split and replace on lists of numbers -/
noncomputable def splitL (y : List Nat) : List Nat → Nat → List Nat → List (List Nat)
  | acc, _, [] => [acc]
  | acc, 0, c :: t => if y.isPrefixOf (c :: t) then acc :: splitL y [] (y.length - 1) t else splitL y (acc ++ [c]) 0 t
  | acc, k + 1, c :: t => splitL y acc k t
noncomputable def cutsL (y : List Nat) : Nat → Nat → List Nat → List Nat
  | _, _, [] => []
  | p, 0, c :: t => if y.isPrefixOf (c :: t) then p :: cutsL y (p + 1) (y.length - 1) t else cutsL y (p + 1) 0 t
  | p, k + 1, c :: t => cutsL y (p + 1) k t
noncomputable def repL (y b : List Nat) : Nat → List Nat → List Nat
  | _, [] => []
  | 0, c :: t => if y.isPrefixOf (c :: t) then b ++ repL y b (y.length - 1) t else c :: repL y b 0 t
  | k + 1, c :: t => repL y b k t
noncomputable def joinL (b : List Nat) : List (List Nat) → List Nat
  | [] => []
  | [x] => x
  | x :: y :: r => x ++ b ++ joinL b (y :: r)

theorem prefix_iff (y l : List Nat) : y.isPrefixOf l = true ↔ y.length ≤ l.length ∧ (l.take y.length == y) = true := by
  rw [List.isPrefixOf_iff_prefix, beq_iff_eq]
  constructor
  · rintro ⟨t, rfl⟩; simp
  · rintro ⟨_, h⟩; rw [← h]; exact List.take_prefix _ _

theorem occ_cuts (x y : Str) (hy : 1 ≤ y.length) : ∀ (m i : Nat) (found : Array Nat) (free : Nat), i + m = x.length + 1 → found.size ≤ i →
    (forIn (List.range' i m) (found, free) (occBody x y x.length (x.length + 1))).run.fst.toList = found.toList ++ cutsL y.cps.toList i (free - i) (x.cps.toList.drop i)
  | 0, i, found, free, hm, hf => by
    have e : x.cps.toList.drop i = [] := List.drop_eq_nil_of_le (by simp [Str.length] at hm ⊢; omega)
    rw [e]
    cases free - i <;> simp [cutsL]
  | m + 1, i, found, free, hm, hf => by
    have hl : x.cps.toList.length = x.length := by simp [Str.length]
    rw [List.range'_succ, List.forIn_cons]
    by_cases hi : i < x.length
    · have hd : x.cps.toList.drop i = x.cps.toList[i]'(by omega) :: x.cps.toList.drop (i + 1) := List.drop_eq_getElem_cons (by omega)
      have hpre : y.cps.toList.isPrefixOf (x.cps.toList.drop i) = true ↔ (i + y.length ≤ x.length ∧ subAt x y i = true) := by
        rw [prefix_iff, subAt_eq]
        have : y.cps.toList.length = y.length := by simp [Str.length]
        rw [this, List.length_drop, hl]
        constructor <;> rintro ⟨a, b⟩ <;> exact ⟨by omega, b⟩
      have hyl : y.cps.toList.length = y.length := by simp [Str.length]
      unfold occBody
      by_cases hc : ((found.size < x.length + 1 ∧ free ≤ i) ∧ i + y.length ≤ x.length) ∧ subAt x y i = true
      · rw [if_pos hc]
        show (forIn (List.range' (i + 1) m) (found.push i, i + y.length) (occBody x y x.length (x.length + 1))).run.fst.toList = _
        rw [occ_cuts x y hy m (i + 1) (found.push i) (i + y.length) (by omega) (by rw [Array.size_push]; omega)]
        have h0 : free - i = 0 := by omega
        have hp := hpre.mpr ⟨hc.1.2, hc.2⟩
        rw [h0, hd] at *
        rw [cutsL, if_pos hp, hyl]
        simp only [Array.toList_push, List.append_assoc, List.singleton_append]
        congr 3
        omega
      · rw [if_neg hc]
        show (forIn (List.range' (i + 1) m) (found, free) (occBody x y x.length (x.length + 1))).run.fst.toList = _
        rw [occ_cuts x y hy m (i + 1) found free (by omega) (by omega)]
        congr 1
        by_cases h0 : free ≤ i
        · have hp : ¬ y.cps.toList.isPrefixOf (x.cps.toList.drop i) = true := fun h => hc ⟨⟨⟨by omega, h0⟩, (hpre.mp h).1⟩, (hpre.mp h).2⟩
          rw [show free - i = 0 by omega, show free - (i + 1) = 0 by omega]
          rw [hd] at hp ⊢
          rw [cutsL, if_neg hp]
        · rw [show free - i = (free - (i + 1)) + 1 by omega, hd, cutsL]
    · have e : x.cps.toList.drop i = [] := List.drop_eq_nil_of_le (by omega)
      have e' : x.cps.toList.drop (i + 1) = [] := List.drop_eq_nil_of_le (by omega)
      unfold occBody
      rw [if_neg (fun h => by have := h.1.2; omega)]
      show (forIn (List.range' (i + 1) m) (found, free) (occBody x y x.length (x.length + 1))).run.fst.toList = _
      rw [occ_cuts x y hy m (i + 1) found free (by omega) (by omega), e, e']
      cases free - i <;> cases free - (i + 1) <;> simp [cutsL]

theorem parts_split (x : Str) (y : List Nat) (hy : 1 ≤ y.length) : ∀ (m i a k : Nat), i + m = x.length → a ≤ x.length → (k = 0 ∧ a ≤ i ∨ a = i + k) →
    (partsFrom x y.length a (cutsL y i k (x.cps.toList.drop i))).map (fun s => s.cps.toList) = splitL y ((x.cps.toList.drop a).take (i - a)) k (x.cps.toList.drop i)
  | 0, i, a, k, hm, ha, hk => by
    have hl : x.cps.toList.length = x.length := by simp [Str.length]
    have e : x.cps.toList.drop i = [] := List.drop_eq_nil_of_le (by omega)
    have hi : i = x.length := by omega
    rw [e]
    have e2 : cutsL y i k [] = [] := by cases k <;> rfl
    have e3 : ∀ acc, splitL y acc k [] = [acc] := fun acc => by cases k <;> rfl
    rw [e2, e3]
    simp only [partsFrom, List.map_cons, List.map_nil, strSub_toList]
    rw [hi]
  | m + 1, i, a, k, hm, ha, hk => by
    have hl : x.cps.toList.length = x.length := by simp [Str.length]
    have hd : x.cps.toList.drop i = x.cps.toList[i]'(by omega) :: x.cps.toList.drop (i + 1) := List.drop_eq_getElem_cons (by omega)
    cases k with
    | zero =>
      have ha' : a ≤ i := by omega
      by_cases hp : y.isPrefixOf (x.cps.toList.drop i) = true
      · have hlen := (prefix_iff _ _).mp hp
        rw [List.length_drop, hl] at hlen
        rw [hd] at hp ⊢
        rw [cutsL, if_pos hp, splitL, if_pos hp, partsFrom, List.map_cons, strSub_toList]
        rw [parts_split x y hy m (i + 1) (i + y.length) (y.length - 1) (by omega) (by omega) (.inr (by omega))]
        congr 2
        rw [show i + 1 - (i + y.length) = 0 by omega, List.take_zero]
      · rw [hd] at hp ⊢
        rw [cutsL, if_neg hp, splitL, if_neg hp, parts_split x y hy m (i + 1) a 0 (by omega) ha (.inl ⟨rfl, by omega⟩)]
        congr 1
        rw [show i + 1 - a = (i - a) + 1 by omega, List.take_add_one, List.getElem?_drop, show a + (i - a) = i by omega]
        simp [List.getElem?_eq_getElem (show i < x.cps.toList.length by omega)]
    | succ k =>
      rw [hd, cutsL, splitL, parts_split x y hy m (i + 1) a k (by omega) ha (.inr (by omega))]
      congr 1
      rw [show i + 1 - a = 0 by omega, show i - a = 0 by omega]

theorem strKind_pos (x : Str) : 1 ≤ Builtin.Str.strKind x := by unfold Builtin.Str.strKind; split; decide; split <;> decide
theorem split_is (x y : Str) (hy : 1 ≤ y.length) (hk : Builtin.Str.strKind y = 1) : (Txt.split x y).map (fun s => s.cps.toList) = splitL y.cps.toList [] 0 x.cps.toList := by
  have hyl : y.cps.toList.length = y.length := by simp [Str.length]
  have hocc : occurrences x y 0 x.length (x.length + 1) = cutsL y.cps.toList 0 0 x.cps.toList := by
    rw [occ_eq, occ_cuts x y hy _ 0 #[] 0 (by omega) (by simp)]
    simp
  have key : (partsBetween x (occurrences x y 0 x.length (x.length + 1)) y.length).map (fun s => s.cps.toList) = splitL y.cps.toList [] 0 x.cps.toList := by
    rw [hocc, partsBetween_eq, ← hyl]
    have := parts_split x y.cps.toList (by omega) x.length 0 0 0 (by omega) (by omega) (.inl ⟨rfl, by omega⟩)
    simpa using this
  have none : occurrences x y 0 x.length (x.length + 1) = [] → [x] = partsBetween x (occurrences x y 0 x.length (x.length + 1)) y.length := fun h => by
    rw [h, partsBetween_eq, partsFrom, sub_whole]
  unfold Txt.split
  split
  · rename_i h
    rw [← key, ← none ?_]
    have hlt : x.length < y.length := by
      rcases Bool.or_eq_true_iff.mp h with h | h
      · simpa using h
      · have := strKind_pos x; rw [hk] at h; simp at h; omega
    rw [hocc]
    have : ∀ (l : List Nat) (p : Nat), l.length < y.cps.toList.length → cutsL y.cps.toList p 0 l = [] := by
      intro l
      induction l with
      | nil => intro p _; rfl
      | cons c t ih =>
        intro p hl
        rw [cutsL, if_neg (fun h => Nat.not_le_of_lt hl ((prefix_iff _ _).mp h).1)]
        exact ih (p + 1) (Nat.lt_of_succ_lt hl)
    exact this _ _ (by rw [hyl]; simpa [Str.length] using hlt)
  · split
    · rename_i h
      rw [← key, ← none (List.isEmpty_iff.mp h)]
    · exact key

theorem joinL_is (b : Str) : ∀ xs : List Str, (Str.join b xs).cps.toList = joinL b.cps.toList (xs.map fun s => s.cps.toList)
  | [] => rfl
  | [x] => rfl
  | x :: y :: r => by
    show (x ++ b ++ Str.join b (y :: r)).cps.toList = x.cps.toList ++ b.cps.toList ++ joinL b.cps.toList ((y :: r).map fun s => s.cps.toList)
    rw [← joinL_is b (y :: r)]
    simp only [Str.cps_append, Array.toList_append]
theorem splitL_ne (y acc : List Nat) (k : Nat) (l : List Nat) : splitL y acc k l ≠ [] := by
  induction l generalizing acc k with
  | nil => cases k <;> simp [splitL]
  | cons c t ih =>
    cases k with
    | zero => rw [splitL]; split <;> simp [ih]
    | succ k => rw [splitL]; exact ih _ _
theorem joinL_split (y b : List Nat) : ∀ (l acc : List Nat) (k : Nat), joinL b (splitL y acc k l) = acc ++ repL y b k l
  | [], acc, k => by cases k <;> simp [splitL, repL, joinL]
  | c :: t, acc, 0 => by
    rw [splitL, repL]
    split
    · have ih := joinL_split y b t [] (y.length - 1)
      cases h : splitL y [] (y.length - 1) t with
      | nil => exact absurd h (splitL_ne _ _ _ _)
      | cons z r =>
        rw [h] at ih
        show acc ++ b ++ joinL b (z :: r) = _
        rw [ih]; simp
    · rw [joinL_split y b t (acc ++ [c]) 0]; simp
  | c :: t, acc, k + 1 => by rw [splitL, repL]; exact joinL_split y b t acc k

theorem repl_is (x y b : Str) (hy : 1 ≤ y.length) (hk : Builtin.Str.strKind y = 1) : (repl x y b).cps.toList = repL y.cps.toList b.cps.toList 0 x.cps.toList := by
  unfold repl Txt.join
  rw [glued_eq_join, joinL_is, split_is x y hy hk, joinL_split]
  rfl
theorem str_of_list {a b : Str} (h : a.cps.toList = b.cps.toList) : a = b := Str.ext' (Array.toList_inj.mp h)

/-! tokens -/
theorem repL_skip (y b : List Nat) : ∀ (k : Nat) (l : List Nat), repL y b k l = repL y b 0 (l.drop k)
  | 0, l => by simp
  | k + 1, [] => by simp [repL]
  | k + 1, c :: t => by rw [repL, List.drop_succ_cons]; exact repL_skip y b k t
theorem repL_pass {y0 : Nat} {y b : List Nat} : ∀ (u v : List Nat), y0 ∉ u → repL (y0 :: y) b 0 (u ++ v) = u ++ repL (y0 :: y) b 0 v
  | [], v, _ => rfl
  | c :: t, v, h => by
    have hc : y0 ≠ c := fun q => h (q ▸ List.mem_cons_self)
    have : (y0 :: y).isPrefixOf (c :: (t ++ v)) = false := by simp [List.isPrefixOf, hc]
    rw [List.cons_append, repL, if_neg (by rw [this]; decide), repL_pass t v (fun q => h (List.mem_cons_of_mem _ q))]
    rfl
theorem repL_all {y0 : Nat} {y b : List Nat} (u : List Nat) (h : y0 ∉ u) : repL (y0 :: y) b 0 u = u := by
  have := repL_pass (y := y) (b := b) u [] h
  simpa [repL] using this
def tokL (w : List Nat) : List Nat := 91 :: (w ++ [93])
def flatL (W : Nat → List Nat) (ts : List Nat) : List Nat := ts.flatMap fun k => tokL (W k)
theorem flatL_cons (W : Nat → List Nat) (t : Nat) (ts : List Nat) : flatL W (t :: ts) = tokL (W t) ++ flatL W ts := by unfold flatL; simp
theorem flatL_append (W : Nat → List Nat) (us ts : List Nat) : flatL W (us ++ ts) = flatL W us ++ flatL W ts := by unfold flatL; simp
theorem end_eq : ∀ {n t u v : List Nat}, 93 ∉ n → 93 ∉ t → (n ++ 93 :: u) <+: (t ++ 93 :: v) → n = t ∧ u <+: v
  | [], [], u, v, _, _, h => ⟨rfl, (List.cons_prefix_cons.mp h).2⟩
  | [], c :: t, u, v, _, ht, h => absurd (List.mem_cons.mpr (.inl (List.cons_prefix_cons.mp h).1)) ht
  | c :: n, [], u, v, hn, _, h => absurd (List.mem_cons.mpr (.inl (List.cons_prefix_cons.mp h).1.symm)) hn
  | c :: n, d :: t, u, v, hn, ht, h => by
    obtain ⟨e, h'⟩ := List.cons_prefix_cons.mp h
    obtain ⟨a, b⟩ := end_eq (fun q => hn (List.mem_cons_of_mem _ q)) (fun q => ht (List.mem_cons_of_mem _ q)) h'
    exact ⟨by rw [e, a], b⟩
structure Words (W : Nat → List Nat) : Prop where
  noOpen : ∀ k, k ≤ 6 → 91 ∉ W k
  noEnd : ∀ k, k ≤ 6 → 93 ∉ W k
  inj : ∀ k j, k ≤ 6 → j ≤ 6 → W k = W j → k = j
theorem flat_prefix {W : Nat → List Nat} (hW : Words W) : ∀ {ns ts : List Nat}, (∀ k ∈ ns, k ≤ 6) → (∀ k ∈ ts, k ≤ 6) → (flatL W ns <+: flatL W ts ↔ ns <+: ts)
  | [], ts, _, _ => by simp [flatL]
  | n :: ns, [], _, _ => by
    rw [flatL_cons]
    constructor
    · rintro ⟨t, h⟩; simp [tokL, flatL] at h
    · rintro ⟨t, h⟩; simp at h
  | n :: ns, t :: ts, hn, ht => by
    have ih := flat_prefix hW (ns := ns) (ts := ts) (fun k hk => hn k (List.mem_cons_of_mem _ hk)) (fun k hk => ht k (List.mem_cons_of_mem _ hk))
    have h1 := hn n List.mem_cons_self
    have h2 := ht t List.mem_cons_self
    rw [flatL_cons, flatL_cons, List.cons_prefix_cons]
    constructor
    · intro h
      have h' : 91 :: (W n ++ 93 :: flatL W ns) <+: 91 :: (W t ++ 93 :: flatL W ts) := by simpa [tokL] using h
      obtain ⟨e, h3⟩ := end_eq (hW.noEnd n h1) (hW.noEnd t h2) (List.cons_prefix_cons.mp h').2
      exact ⟨hW.inj n t h1 h2 e, ih.mp h3⟩
    · rintro ⟨rfl, h⟩
      exact List.prefix_append_right_inj _ |>.mpr (ih.mpr h)
theorem rep_flat {W : Nat → List Nat} (hW : Words W) {n0 : Nat} {ns bs : List Nat} (hn : ∀ k ∈ n0 :: ns, k ≤ 6) : ∀ (m : Nat) (ts : List Nat), ts.length = m → (∀ k ∈ ts, k ≤ 6) → repL (flatL W (n0 :: ns)) (flatL W bs) 0 (flatL W ts) = flatL W (repL (n0 :: ns) bs 0 ts) := by
  intro m
  induction m using Nat.strongRecOn with
  | _ m ih =>
    intro ts hm ht
    cases ts with
    | nil => simp [flatL, repL]
    | cons t ts =>
      have ht2 := ht t List.mem_cons_self
      by_cases hp : (n0 :: ns).isPrefixOf (t :: ts) = true
      · obtain ⟨r, hr⟩ := List.isPrefixOf_iff_prefix.mp hp
        have hp' : (flatL W (n0 :: ns)).isPrefixOf (flatL W (t :: ts)) = true := List.isPrefixOf_iff_prefix.mpr ((flat_prefix hW hn ht).mpr ⟨r, hr⟩)
        rw [repL, if_pos hp, flatL_append, repL_skip (n0 :: ns)]
        have e1 : ts.drop ((n0 :: ns).length - 1) = r := by
          have : ts = ns ++ r := (List.cons.inj hr).2.symm
          rw [this]; simp
        have hlr : r.length < m := by
          have := congrArg List.length hr
          simp at this hm
          omega
        rw [e1, ← ih r.length hlr r rfl (fun k hk => ht k (hr ▸ List.mem_append_right _ hk))]
        have hfl : flatL W (t :: ts) = 91 :: (W t ++ 93 :: flatL W ts) := by rw [flatL_cons]; simp [tokL]
        rw [hfl] at hp' ⊢
        rw [repL, if_pos hp', repL_skip]
        congr 2
        have e2 : 91 :: (W t ++ 93 :: flatL W ts) = flatL W (n0 :: ns) ++ flatL W r := by rw [← hfl, ← hr, flatL_append]
        have e3 : (W t ++ 93 :: flatL W ts) = (91 :: (W t ++ 93 :: flatL W ts)).drop 1 := rfl
        have hpos : 1 ≤ (flatL W (n0 :: ns)).length := by rw [flatL_cons]; simp [tokL]
        rw [e3, List.drop_drop, e2, show 1 + ((flatL W (n0 :: ns)).length - 1) = (flatL W (n0 :: ns)).length by omega, List.drop_left]
      · have hp' : ¬ (flatL W (n0 :: ns)).isPrefixOf (flatL W (t :: ts)) = true := fun h => hp (List.isPrefixOf_iff_prefix.mpr ((flat_prefix hW hn ht).mp (List.isPrefixOf_iff_prefix.mp h)))
        rw [repL, if_neg hp, flatL_cons W t (repL (n0 :: ns) bs 0 ts), ← ih ts.length (by simp at hm; omega) ts rfl (fun k hk => ht k (List.mem_cons_of_mem _ hk))]
        have hfl : flatL W (t :: ts) = 91 :: ((W t ++ [93]) ++ flatL W ts) := by rw [flatL_cons]; simp [tokL]
        have hfn : flatL W (n0 :: ns) = 91 :: ((W n0 ++ [93]) ++ flatL W ns) := by rw [flatL_cons]; simp [tokL]
        rw [hfl] at hp'
        have : repL (flatL W (n0 :: ns)) (flatL W bs) 0 (91 :: ((W t ++ [93]) ++ flatL W ts)) = 91 :: repL (flatL W (n0 :: ns)) (flatL W bs) 0 ((W t ++ [93]) ++ flatL W ts) := by rw [repL, if_neg hp']
        rw [hfl, this]
        rw [hfn, repL_pass _ _ (fun q => by rcases List.mem_append.mp q with q | q; exact hW.noOpen t ht2 q; simp at q)]
        simp [tokL]
end Mine
end PartP1
section PartP2
open PySem PySem.W PyProof.Rows PySem.Calls
open PySem.Builtin PySem.Builtin.Str PySem.StrLaws
set_option maxRecDepth 100000
set_option linter.unusedVariables false
namespace Mine
/-! lines that stand in order -/
noncomputable def dn (c : Nat → Nat) : Nat → List Nat
  | 0 => []
  | n + 1 => List.replicate (c n) n ++ dn c n
theorem dn_lt (c : Nat → Nat) : ∀ (n : Nat), ∀ x ∈ dn c n, x < n
  | 0, x, h => by simp [dn] at h
  | n + 1, x, h => by
    rcases List.mem_append.mp h with h | h
    · have := (List.mem_replicate.mp h).2; omega
    · have := dn_lt c n x h; omega
theorem dn_congr {c d : Nat → Nat} : ∀ (n : Nat), (∀ j, j < n → c j = d j) → dn c n = dn d n
  | 0, _ => rfl
  | n + 1, h => by
    rw [dn, dn, h n (by omega), dn_congr n fun j hj => h j (by omega)]
theorem rep_two {k : Nat} {b rest : List Nat} (hr : k ∉ rest) : ∀ m : Nat, repL [k, k] b 0 (List.replicate m k ++ rest) = (List.replicate (m / 2) b).flatten ++ (List.replicate (m % 2) k ++ rest)
  | 0 => by simp [repL_all rest hr]
  | 1 => by
    have : [k, k].isPrefixOf (k :: rest) = false := by
      cases rest with
      | nil => simp [List.isPrefixOf]
      | cons c t =>
        have : k ≠ c := fun q => hr (q ▸ List.mem_cons_self)
        simp [List.isPrefixOf, this]
    show repL [k, k] b 0 (k :: rest) = k :: rest
    rw [repL, if_neg (by rw [this]; decide), repL_all rest hr]
  | m + 2 => by
    have ih := rep_two (b := b) hr m
    have e : List.replicate (m + 2) k ++ rest = k :: k :: (List.replicate m k ++ rest) := by simp [List.replicate_succ]
    rw [e, repL, if_pos (by simp [List.isPrefixOf])]
    show b ++ repL [k, k] b 1 (k :: (List.replicate m k ++ rest)) = _
    rw [repL, ih, show (m + 2) / 2 = m / 2 + 1 by omega, show (m + 2) % 2 = m % 2 by omega, List.replicate_succ, List.flatten_cons, List.append_assoc]
theorem rep_one1 {k : Nat} {b rest : List Nat} (hr : k ∉ rest) : ∀ m : Nat, repL [k] b 0 (List.replicate m k ++ rest) = (List.replicate m b).flatten ++ rest
  | 0 => by simp [repL_all rest hr]
  | m + 1 => by
    have ih := rep_one1 (b := b) hr m
    rw [List.replicate_succ, List.cons_append, repL, if_pos (by simp [List.isPrefixOf])]
    show b ++ repL [k] b 0 (List.replicate m k ++ rest) = _
    rw [ih, List.replicate_succ, List.flatten_cons, List.append_assoc]
theorem flat_one (x : Nat) : ∀ m : Nat, (List.replicate m [x]).flatten = List.replicate m x
  | 0 => rfl
  | m + 1 => by rw [List.replicate_succ, List.flatten_cons, flat_one x m]; rfl
theorem flat_two (x : Nat) : ∀ m : Nat, (List.replicate m [x, x]).flatten = List.replicate (2 * m) x
  | 0 => rfl
  | m + 1 => by rw [List.replicate_succ, List.flatten_cons, flat_two x m, show 2 * (m + 1) = 2 * m + 2 by omega]; simp [List.replicate_succ]
theorem flat_nil' : ∀ m : Nat, (List.replicate m ([] : List Nat)).flatten = []
  | 0 => rfl
  | m + 1 => by rw [List.replicate_succ, List.flatten_cons, flat_nil' m]; rfl
theorem rep_two_out {k n : Nat} {b : List Nat} {c : Nat → Nat} (hk : k < n) : repL [k, k] b 0 (dn c (n + 1)) = List.replicate (c n) n ++ repL [k, k] b 0 (dn c n) := by
  rw [dn]
  exact repL_pass _ _ fun q => by have := (List.mem_replicate.mp q).2; omega
theorem rep_one_out {k n : Nat} {b : List Nat} {c : Nat → Nat} (hk : k < n) : repL [k] b 0 (dn c (n + 1)) = List.replicate (c n) n ++ repL [k] b 0 (dn c n) := by
  rw [dn]
  exact repL_pass _ _ fun q => by have := (List.mem_replicate.mp q).2; omega
theorem k_not_dn (c : Nat → Nat) (k : Nat) : k ∉ dn c k := fun q => Nat.lt_irrefl _ (dn_lt c k k q)

def carryF (k : Nat) (c : Nat → Nat) : Nat → Nat := fun j => if j = k + 1 then c (k + 1) + c k / 2 else if j = k then c k % 2 else c j
def downF (k : Nat) (c : Nat → Nat) : Nat → Nat := fun j => if j = k + 1 then 0 else if j = k then c k + 2 * c (k + 1) else c j
def oddF (k : Nat) (c : Nat → Nat) : Nat → Nat := fun j => if j = k then c k % 2 else c j
def halfF (k : Nat) (c : Nat → Nat) : Nat → Nat := fun j => if j = k then (c k + 1) / 2 else c j
theorem dn_carry {k : Nat} {c : Nat → Nat} : ∀ d : Nat, repL [k, k] [k + 1] 0 (dn c (k + 2 + d)) = dn (carryF k c) (k + 2 + d)
  | 0 => by
    show repL [k, k] [k + 1] 0 (dn c (k + 1 + 1)) = dn (carryF k c) (k + 1 + 1)
    rw [rep_two_out (by omega), dn, rep_two (k_not_dn c k), flat_one, dn, dn]
    have e1 : carryF k c (k + 1) = c (k + 1) + c k / 2 := by simp [carryF]
    have e2 : carryF k c k = c k % 2 := by simp [carryF]
    rw [e1, e2, dn_congr (c := carryF k c) (d := c) k (fun j hj => by unfold carryF; rw [if_neg (by omega), if_neg (by omega)]), ← List.replicate_append_replicate]
    simp only [List.append_assoc]
  | d + 1 => by
    have ih := dn_carry (k := k) (c := c) d
    show repL [k, k] [k + 1] 0 (dn c (k + 2 + d + 1)) = dn (carryF k c) (k + 2 + d + 1)
    rw [rep_two_out (by omega), ih, dn]
    have : carryF k c (k + 2 + d) = c (k + 2 + d) := by unfold carryF; rw [if_neg (by omega), if_neg (by omega)]
    rw [this]
theorem dn_down {k : Nat} {c : Nat → Nat} : ∀ d : Nat, repL [k + 1] [k, k] 0 (dn c (k + 2 + d)) = dn (downF k c) (k + 2 + d)
  | 0 => by
    show repL [k + 1] [k, k] 0 (dn c (k + 1 + 1)) = dn (downF k c) (k + 1 + 1)
    rw [dn, rep_one1 (k_not_dn c (k + 1)), flat_two, dn, dn, dn]
    have e1 : downF k c (k + 1) = 0 := by simp [downF]
    have e2 : downF k c k = 2 * c (k + 1) + c k := by simp [downF]; omega
    rw [e1, e2, dn_congr (c := downF k c) (d := c) k (fun j hj => by unfold downF; rw [if_neg (by omega), if_neg (by omega)]), ← List.replicate_append_replicate]
    simp only [List.append_assoc, List.replicate_zero, List.nil_append]
  | d + 1 => by
    have ih := dn_down (k := k) (c := c) d
    show repL [k + 1] [k, k] 0 (dn c (k + 2 + d + 1)) = dn (downF k c) (k + 2 + d + 1)
    rw [rep_one_out (by omega), ih, dn]
    have : downF k c (k + 2 + d) = c (k + 2 + d) := by unfold downF; rw [if_neg (by omega), if_neg (by omega)]
    rw [this]
theorem dn_odd {k : Nat} {c : Nat → Nat} : ∀ d : Nat, repL [k, k] [] 0 (dn c (k + 1 + d)) = dn (oddF k c) (k + 1 + d)
  | 0 => by
    show repL [k, k] [] 0 (dn c (k + 1)) = dn (oddF k c) (k + 1)
    rw [dn, rep_two (k_not_dn c k), flat_nil', dn]
    have e2 : oddF k c k = c k % 2 := by simp [oddF]
    rw [e2, dn_congr (c := oddF k c) (d := c) k (fun j hj => by simp [oddF]; omega)]
    simp
  | d + 1 => by
    have ih := dn_odd (k := k) (c := c) d
    show repL [k, k] [] 0 (dn c (k + 1 + d + 1)) = dn (oddF k c) (k + 1 + d + 1)
    rw [rep_two_out (by omega), ih, dn]
    have : oddF k c (k + 1 + d) = c (k + 1 + d) := by simp [oddF]; omega
    rw [this]
theorem dn_half {k : Nat} {c : Nat → Nat} : ∀ d : Nat, repL [k, k] [k] 0 (dn c (k + 1 + d)) = dn (halfF k c) (k + 1 + d)
  | 0 => by
    show repL [k, k] [k] 0 (dn c (k + 1)) = dn (halfF k c) (k + 1)
    rw [dn, rep_two (k_not_dn c k), flat_one, dn]
    have e2 : halfF k c k = c k / 2 + c k % 2 := by simp [halfF]; omega
    rw [e2, dn_congr (c := halfF k c) (d := c) k (fun j hj => by simp [halfF]; omega), ← List.replicate_append_replicate]
    simp only [List.append_assoc]
  | d + 1 => by
    have ih := dn_half (k := k) (c := c) d
    show repL [k, k] [k] 0 (dn c (k + 1 + d + 1)) = dn (halfF k c) (k + 1 + d + 1)
    rw [rep_two_out (by omega), ih, dn]
    have : halfF k c (k + 1 + d) = c (k + 1 + d) := by simp [halfF]; omega
    rw [this]

/-! the weight of a line -/
def Wt (c : Nat → Nat) : Nat := c 0 + 2 * c 1 + 4 * c 2 + 8 * c 3 + 16 * c 4 + 32 * c 5 + 64 * c 6
theorem six {Pk : Nat → Prop} {k : Nat} (hk : k ≤ 5) (h0 : Pk 0) (h1 : Pk 1) (h2 : Pk 2) (h3 : Pk 3) (h4 : Pk 4) (h5 : Pk 5) : Pk k := by
  rcases k with _ | _ | _ | _ | _ | _ | k
  · exact h0
  · exact h1
  · exact h2
  · exact h3
  · exact h4
  · exact h5
  · omega
theorem seven {Pk : Nat → Prop} {k : Nat} (hk : k < 7) (h0 : Pk 0) (h1 : Pk 1) (h2 : Pk 2) (h3 : Pk 3) (h4 : Pk 4) (h5 : Pk 5) (h6 : Pk 6) : Pk k := by
  rcases k with _ | _ | _ | _ | _ | _ | _ | k
  · exact h0
  · exact h1
  · exact h2
  · exact h3
  · exact h4
  · exact h5
  · exact h6
  · omega
theorem Wt_carry {k : Nat} (hk : k ≤ 5) (c : Nat → Nat) : Wt (carryF k c) = Wt c := by
  revert c
  refine six (Pk := fun k => ∀ c, Wt (carryF k c) = Wt c) hk ?_ ?_ ?_ ?_ ?_ ?_ <;> (intro c; simp [Wt, carryF]; try omega)
theorem Wt_down {k : Nat} (hk : k ≤ 5) (c : Nat → Nat) : Wt (downF k c) = Wt c := by
  revert c
  refine six (Pk := fun k => ∀ c, Wt (downF k c) = Wt c) hk ?_ ?_ ?_ ?_ ?_ ?_ <;> (intro c; simp [Wt, downF]; try omega)
theorem Wt_odd {k : Nat} (hk : k < 7) (c : Nat → Nat) : Wt (oddF k c) ≤ Wt c := by
  revert c
  refine seven (Pk := fun k => ∀ c, Wt (oddF k c) ≤ Wt c) hk ?_ ?_ ?_ ?_ ?_ ?_ ?_ <;> (intro c; simp [Wt, oddF]; try omega)
theorem Wt_half {k : Nat} (hk : k < 7) (c : Nat → Nat) : Wt (halfF k c) ≤ Wt c := by
  revert c
  refine seven (Pk := fun k => ∀ c, Wt (halfF k c) ≤ Wt c) hk ?_ ?_ ?_ ?_ ?_ ?_ ?_ <;> (intro c; simp [Wt, halfF]; try omega)
theorem dn_len (c : Nat → Nat) : (dn c 7).length = c 0 + c 1 + c 2 + c 3 + c 4 + c 5 + c 6 := by
  simp [dn]; try omega
theorem dn_len_le (c : Nat → Nat) : (dn c 7).length ≤ Wt c := by rw [dn_len]; unfold Wt; omega

/-! the texts -/
def Wd (p : Nat) (k : Nat) : List Nat := (wordS (p + k)).cps.toList
def txt (p : Nat) (ts : List Nat) : Str := ⟨(flatL (Wd p) ts).toArray⟩
theorem txt_list (p : Nat) (ts : List Nat) : (txt p ts).cps.toList = flatL (Wd p) ts := by simp [txt]
theorem words32 : ∀ i : Fin 32, 91 ∉ (wordS i.1).cps.toList ∧ 93 ∉ (wordS i.1).cps.toList ∧ 44 ∉ (wordS i.1).cps.toList ∧ (wordS i.1).cps.toList.all (· < 256) = true ∧ (wordS i.1).length ≤ 20 ∧ 1 ≤ (wordS i.1).length ∧ wordS i.1 ≠ "0x0" := by decide +kernel
theorem words_inj : ∀ i j : Fin 32, wordS i.1 = wordS j.1 → i = j := by decide +kernel
theorem words_ok {p : Nat} (hp : p < 26) : Words (Wd p) where
  noOpen := fun k hk => (words32 ⟨p + k, by omega⟩).1
  noEnd := fun k hk => (words32 ⟨p + k, by omega⟩).2.1
  inj := fun k j hk hj h => by
    have := words_inj ⟨p + k, by omega⟩ ⟨p + j, by omega⟩ (str_of_list h)
    have := congrArg Fin.val this
    simp at this
    exact this
theorem txt_len {p : Nat} (hp : p < 26) : ∀ (ts : List Nat), (∀ k ∈ ts, k ≤ 6) → (txt p ts).length ≤ ts.length * 22
  | [], _ => by simp [txt, flatL, Str.length]
  | t :: ts, h => by
    have ih := txt_len hp ts fun k hk => h k (List.mem_cons_of_mem _ hk)
    have hw := (words32 ⟨p + t, by have := h t List.mem_cons_self; omega⟩).2.2.2.2.1
    have e : (txt p (t :: ts)).length = (wordS (p + t)).length + 2 + (txt p ts).length := by
      simp [txt, flatL, Str.length, tokL, Wd]; omega
    rw [e, List.length_cons]
    simp only at hw
    omega
theorem strKind_one {x : Str} (h : x.cps.toList.all (· < 256) = true) : Builtin.Str.strKind x = 1 := by
  unfold Builtin.Str.strKind
  rw [if_pos (by simpa using h)]
theorem txt_kind {p : Nat} (hp : p < 26) (ts : List Nat) (h : ∀ k ∈ ts, k ≤ 6) : Builtin.Str.strKind (txt p ts) = 1 := by
  refine strKind_one (List.all_eq_true.mpr fun x hx => ?_)
  rw [txt_list] at hx
  obtain ⟨t, ht, hx⟩ := List.mem_flatMap.mp hx
  have hw := (words32 ⟨p + t, by have := h t ht; omega⟩).2.2.2.1
  rcases List.mem_cons.mp hx with rfl | hx
  · decide
  · rcases List.mem_append.mp hx with hx | hx
    · exact List.all_eq_true.mp hw x hx
    · rw [List.mem_singleton.mp hx]; decide
theorem txt_pos (p n : Nat) (ns : List Nat) : 1 ≤ (txt p (n :: ns)).length := by
  simp [txt, flatL, Str.length, tokL]; try omega
theorem repl_txt {p : Nat} (hp : p < 26) {n : Nat} {ns bs ts : List Nat} (hn : ∀ k ∈ n :: ns, k ≤ 6) (ht : ∀ k ∈ ts, k ≤ 6) : repl (txt p ts) (txt p (n :: ns)) (txt p bs) = txt p (repL (n :: ns) bs 0 ts) := by
  refine str_of_list ?_
  rw [repl_is _ _ _ (txt_pos p n ns) (txt_kind hp _ hn), txt_list, txt_list, txt_list, txt_list, rep_flat (words_ok hp) hn _ ts rfl ht]
theorem join_len_ge (sep : Str) : ∀ texts : List Str, (texts.map (·.length)).sum ≤ (Str.join sep texts).length
  | [] => Nat.zero_le _
  | [x] => by simp [Str.join]
  | x :: y :: r => by
    have h := join_len_ge sep (y :: r)
    show _ ≤ (x ++ sep ++ Str.join sep (y :: r)).length
    rw [Str.length_append, Str.length_append]
    simp only [List.map_cons, List.sum_cons] at h ⊢
    omega
theorem split_sum (x y : Str) : ((Txt.split x y).map (·.length)).sum ≤ x.length := by
  have := join_len_ge y (Txt.split x y)
  rwa [join_split] at this
theorem joinOk_split {x a b : Str} (hx : x.length ≤ 10000) (hb : b.length ≤ 100) : JoinOk b (Txt.split x a) = true := by
  unfold JoinOk Builtin.Str.tooLong
  have h1 := split_sum x a
  have h2 := split_len x a
  have h3 : (Txt.split x a).length * b.length ≤ 10002 * 100 := Nat.mul_le_mul (by omega) hb
  rw [StrLaws.joinTotal, sizeLine_is]
  simp only [Bool.not_eq_true', decide_eq_false_iff_not]
  omega

noncomputable def tx (p : Nat) (c : Nat → Nat) : Str := txt p (dn c 7)
theorem tx_congr {p : Nat} {c d : Nat → Nat} (h : ∀ j, j < 7 → c j = d j) : tx p c = tx p d := by unfold tx; rw [dn_congr 7 h]
def Goes (x : Str) (ps : List Str) (y : Str) : Prop := ReplOk x ps ∧ replAll x ps = y
theorem goes_nil {x : Str} : Goes x [] x := ⟨trivial, rfl⟩
theorem dn_le (c : Nat → Nat) : ∀ k ∈ dn c 7, k ≤ 6 := fun k hk => by have := dn_lt c 7 k hk; omega
theorem tx_len {p : Nat} (hp : p < 26) {c : Nat → Nat} (hc : Wt c ≤ 200) : (tx p c).length ≤ 4400 := by
  have h1 := txt_len hp (dn c 7) (dn_le c)
  have h2 := dn_len_le c
  unfold tx
  omega
theorem goes_step {p : Nat} (hp : p < 26) {n : Nat} {ns bs : List Nat} {c d : Nat → Nat} {rest : List Str} {y : Str} (hn : ∀ k ∈ n :: ns, k ≤ 6) (hb : ∀ k ∈ bs, k ≤ 6) (hbl : bs.length ≤ 2) (hc : Wt c ≤ 200) (hd : repL (n :: ns) bs 0 (dn c 7) = dn d 7) (h : Goes (tx p d) rest y) :
    Goes (tx p c) (txt p (n :: ns) :: txt p bs :: rest) y := by
  have e : repl (tx p c) (txt p (n :: ns)) (txt p bs) = tx p d := by unfold tx; rw [repl_txt hp hn (dn_le c), hd]
  have hl := tx_len hp hc
  have hbl' := txt_len hp bs hb
  have h0 := txt_pos p n ns
  refine ⟨⟨beq_eq_false_iff_ne.mpr (by omega), by rw [sizeLine_is]; omega, joinOk_split (by omega) (by omega), by rw [e]; exact h.1⟩, ?_⟩
  show replAll (repl (tx p c) (txt p (n :: ns)) (txt p bs)) rest = y
  rw [e]; exact h.2
theorem goes_carry {p : Nat} (hp : p < 26) {k : Nat} (hk : k ≤ 5) {c : Nat → Nat} {rest : List Str} {y : Str} (hc : Wt c ≤ 200) (h : Goes (tx p (carryF k c)) rest y) : Goes (tx p c) (txt p [k, k] :: txt p [k + 1] :: rest) y :=
  goes_step hp (by simp; omega) (by simp; omega) (by simp) hc (by have := dn_carry (k := k) (c := c) (5 - k); rwa [show k + 2 + (5 - k) = 7 by omega] at this) h
theorem goes_down {p : Nat} (hp : p < 26) {k : Nat} (hk : k ≤ 5) {c : Nat → Nat} {rest : List Str} {y : Str} (hc : Wt c ≤ 200) (h : Goes (tx p (downF k c)) rest y) : Goes (tx p c) (txt p [k + 1] :: txt p [k, k] :: rest) y :=
  goes_step hp (by simp; omega) (by simp; omega) (by simp) hc (by have := dn_down (k := k) (c := c) (5 - k); rwa [show k + 2 + (5 - k) = 7 by omega] at this) h
theorem goes_odd {p : Nat} (hp : p < 26) {k : Nat} (hk : k < 7) {c : Nat → Nat} {rest : List Str} {y : Str} (hc : Wt c ≤ 200) (h : Goes (tx p (oddF k c)) rest y) : Goes (tx p c) (txt p [k, k] :: txt p [] :: rest) y :=
  goes_step hp (by simp; omega) (by simp) (by simp) hc (by have := dn_odd (k := k) (c := c) (6 - k); rwa [show k + 1 + (6 - k) = 7 by omega] at this) h
theorem goes_half {p : Nat} (hp : p < 26) {k : Nat} (hk : k < 7) {c : Nat → Nat} {rest : List Str} {y : Str} (hc : Wt c ≤ 200) (h : Goes (tx p (halfF k c)) rest y) : Goes (tx p c) (txt p [k, k] :: txt p [k] :: rest) y :=
  goes_step hp (by simp; omega) (by simp; omega) (by simp) hc (by have := dn_half (k := k) (c := c) (6 - k); rwa [show k + 1 + (6 - k) = 7 by omega] at this) h

/-! the four lists of pairs -/
noncomputable def risingL (p : Nat) : Nat → List Str
  | 0 => []
  | k + 1 => risingL p k ++ [txt p [k, k], txt p [k + 1]]
noncomputable def fallingL (p : Nat) : Nat → List Str
  | 0 => []
  | k + 1 => txt p [k, k] :: txt p [k + 1] :: fallingL p k
noncomputable def turnedL (p : Nat) : Nat → List Str
  | 0 => []
  | k + 1 => txt p [k + 1] :: txt p [k, k] :: turnedL p k
noncomputable def struckL (p : Nat) : Nat → List Str
  | 0 => []
  | k + 1 => struckL p k ++ [txt p [k, k], txt p []]
noncomputable def halvedL (p : Nat) : Nat → List Str
  | 0 => []
  | k + 1 => halvedL p k ++ [txt p [k, k], txt p [k]]
def bitF (n : Nat) : Nat → Nat := fun j => n / 2 ^ j % 2
def fallF (c : Nat → Nat) : Nat → Nat := fun j => if j = 0 then c 0 % 2 else if j = 6 then c 6 + c 5 / 2 else c j % 2 + c (j - 1) / 2
theorem goes_rising {p : Nat} (hp : p < 26) {c : Nat → Nat} (hc : Wt c < 128) : Goes (tx p c) (risingL p 6) (tx p (bitF (Wt c))) := by
  have e : tx p (bitF (Wt c)) = tx p (carryF 5 (carryF 4 (carryF 3 (carryF 2 (carryF 1 (carryF 0 c)))))) := tx_congr fun j hj => by
    refine seven (Pk := fun j => bitF (Wt c) j = carryF 5 (carryF 4 (carryF 3 (carryF 2 (carryF 1 (carryF 0 c))))) j) hj ?_ ?_ ?_ ?_ ?_ ?_ ?_ <;>
      (simp [bitF, carryF, Wt] at hc ⊢; omega)
  rw [e]
  refine goes_carry hp (k := 0) (by decide) (by omega) ?_
  have h0 := Wt_carry (k := 0) (by decide) c
  refine goes_carry hp (k := 1) (by decide) (by omega) ?_
  have h1 := Wt_carry (k := 1) (by decide) (carryF 0 c)
  refine goes_carry hp (k := 2) (by decide) (by omega) ?_
  have h2 := Wt_carry (k := 2) (by decide) (carryF 1 (carryF 0 c))
  refine goes_carry hp (k := 3) (by decide) (by omega) ?_
  have h3 := Wt_carry (k := 3) (by decide) (carryF 2 (carryF 1 (carryF 0 c)))
  refine goes_carry hp (k := 4) (by decide) (by omega) ?_
  have h4 := Wt_carry (k := 4) (by decide) (carryF 3 (carryF 2 (carryF 1 (carryF 0 c))))
  exact goes_carry hp (k := 5) (by decide) (by omega) goes_nil
theorem goes_falling {p : Nat} (hp : p < 26) {c : Nat → Nat} (hc : Wt c < 128) : Goes (tx p c) (fallingL p 6) (tx p (fallF c)) := by
  have e : tx p (fallF c) = tx p (carryF 0 (carryF 1 (carryF 2 (carryF 3 (carryF 4 (carryF 5 c)))))) := tx_congr fun j hj => by
    refine seven (Pk := fun j => fallF c j = carryF 0 (carryF 1 (carryF 2 (carryF 3 (carryF 4 (carryF 5 c))))) j) hj ?_ ?_ ?_ ?_ ?_ ?_ ?_ <;>
      simp [fallF, carryF]
  rw [e]
  refine goes_carry hp (k := 5) (by decide) (by omega) ?_
  have h0 := Wt_carry (k := 5) (by decide) c
  refine goes_carry hp (k := 4) (by decide) (by omega) ?_
  have h1 := Wt_carry (k := 4) (by decide) (carryF 5 c)
  refine goes_carry hp (k := 3) (by decide) (by omega) ?_
  have h2 := Wt_carry (k := 3) (by decide) (carryF 4 (carryF 5 c))
  refine goes_carry hp (k := 2) (by decide) (by omega) ?_
  have h3 := Wt_carry (k := 2) (by decide) (carryF 3 (carryF 4 (carryF 5 c)))
  refine goes_carry hp (k := 1) (by decide) (by omega) ?_
  have h4 := Wt_carry (k := 1) (by decide) (carryF 2 (carryF 3 (carryF 4 (carryF 5 c))))
  exact goes_carry hp (k := 0) (by decide) (by omega) goes_nil
def oneF (n : Nat) : Nat → Nat := fun j => if j = 0 then n else 0
theorem goes_turned {p : Nat} (hp : p < 26) {c : Nat → Nat} (hc : Wt c < 128) : Goes (tx p c) (turnedL p 6) (tx p (oneF (Wt c))) := by
  have e : tx p (oneF (Wt c)) = tx p (downF 0 (downF 1 (downF 2 (downF 3 (downF 4 (downF 5 c)))))) := tx_congr fun j hj => by
    refine seven (Pk := fun j => oneF (Wt c) j = downF 0 (downF 1 (downF 2 (downF 3 (downF 4 (downF 5 c))))) j) hj ?_ ?_ ?_ ?_ ?_ ?_ ?_ <;>
      (simp [oneF, downF, Wt]; try omega)
  rw [e]
  refine goes_down hp (k := 5) (by decide) (by omega) ?_
  have h0 := Wt_down (k := 5) (by decide) c
  refine goes_down hp (k := 4) (by decide) (by omega) ?_
  have h1 := Wt_down (k := 4) (by decide) (downF 5 c)
  refine goes_down hp (k := 3) (by decide) (by omega) ?_
  have h2 := Wt_down (k := 3) (by decide) (downF 4 (downF 5 c))
  refine goes_down hp (k := 2) (by decide) (by omega) ?_
  have h3 := Wt_down (k := 2) (by decide) (downF 3 (downF 4 (downF 5 c)))
  refine goes_down hp (k := 1) (by decide) (by omega) ?_
  have h4 := Wt_down (k := 1) (by decide) (downF 2 (downF 3 (downF 4 (downF 5 c))))
  exact goes_down hp (k := 0) (by decide) (by omega) goes_nil
theorem goes_struck {p : Nat} (hp : p < 26) {c : Nat → Nat} (hc : Wt c < 128) : Goes (tx p c) (struckL p 7) (tx p (fun j => c j % 2)) := by
  have e : tx p (fun j => c j % 2) = tx p (oddF 6 (oddF 5 (oddF 4 (oddF 3 (oddF 2 (oddF 1 (oddF 0 c))))))) := tx_congr fun j hj => by
    refine seven (Pk := fun j => c j % 2 = oddF 6 (oddF 5 (oddF 4 (oddF 3 (oddF 2 (oddF 1 (oddF 0 c)))))) j) hj ?_ ?_ ?_ ?_ ?_ ?_ ?_ <;> simp [oddF]
  rw [e]
  refine goes_odd hp (k := 0) (by decide) (by omega) ?_
  have h0 := Wt_odd (k := 0) (by decide) c
  refine goes_odd hp (k := 1) (by decide) (by omega) ?_
  have h1 := Wt_odd (k := 1) (by decide) (oddF 0 c)
  refine goes_odd hp (k := 2) (by decide) (by omega) ?_
  have h2 := Wt_odd (k := 2) (by decide) (oddF 1 (oddF 0 c))
  refine goes_odd hp (k := 3) (by decide) (by omega) ?_
  have h3 := Wt_odd (k := 3) (by decide) (oddF 2 (oddF 1 (oddF 0 c)))
  refine goes_odd hp (k := 4) (by decide) (by omega) ?_
  have h4 := Wt_odd (k := 4) (by decide) (oddF 3 (oddF 2 (oddF 1 (oddF 0 c))))
  refine goes_odd hp (k := 5) (by decide) (by omega) ?_
  have h5 := Wt_odd (k := 5) (by decide) (oddF 4 (oddF 3 (oddF 2 (oddF 1 (oddF 0 c)))))
  exact goes_odd hp (k := 6) (by decide) (by omega) goes_nil
theorem goes_halved {p : Nat} (hp : p < 26) {c : Nat → Nat} (hc : Wt c < 128) : Goes (tx p c) (halvedL p 7) (tx p (fun j => (c j + 1) / 2)) := by
  have e : tx p (fun j => (c j + 1) / 2) = tx p (halfF 6 (halfF 5 (halfF 4 (halfF 3 (halfF 2 (halfF 1 (halfF 0 c))))))) := tx_congr fun j hj => by
    refine seven (Pk := fun j => (c j + 1) / 2 = halfF 6 (halfF 5 (halfF 4 (halfF 3 (halfF 2 (halfF 1 (halfF 0 c)))))) j) hj ?_ ?_ ?_ ?_ ?_ ?_ ?_ <;> simp [halfF]
  rw [e]
  refine goes_half hp (k := 0) (by decide) (by omega) ?_
  have h0 := Wt_half (k := 0) (by decide) c
  refine goes_half hp (k := 1) (by decide) (by omega) ?_
  have h1 := Wt_half (k := 1) (by decide) (halfF 0 c)
  refine goes_half hp (k := 2) (by decide) (by omega) ?_
  have h2 := Wt_half (k := 2) (by decide) (halfF 1 (halfF 0 c))
  refine goes_half hp (k := 3) (by decide) (by omega) ?_
  have h3 := Wt_half (k := 3) (by decide) (halfF 2 (halfF 1 (halfF 0 c)))
  refine goes_half hp (k := 4) (by decide) (by omega) ?_
  have h4 := Wt_half (k := 4) (by decide) (halfF 3 (halfF 2 (halfF 1 (halfF 0 c))))
  refine goes_half hp (k := 5) (by decide) (by omega) ?_
  have h5 := Wt_half (k := 5) (by decide) (halfF 4 (halfF 3 (halfF 2 (halfF 1 (halfF 0 c)))))
  exact goes_half hp (k := 6) (by decide) (by omega) goes_nil
end Mine
end PartP2
section PartP3
open PySem PySem.W PyProof.Rows PySem.Calls
open PySem.Builtin PySem.Builtin.Str PySem.StrLaws
set_option maxRecDepth 100000
set_option linter.unusedVariables false
namespace Mine
def wsOf (p : Nat) : List Str := r7.map fun k => wordS (p + k.toNat)
def csOf (c : Nat → Nat) : List Int := r7.map fun k => ((c k.toNat : Nat) : Int)
theorem cps_inj {a b : Str} (h : a.cps.toList = b.cps.toList) : a = b := str_of_list h
theorem append_list (a b : Str) : (a ++ b).cps.toList = a.cps.toList ++ b.cps.toList := by rw [Str.cps_append]; simp
theorem open_list : ("[" : Str).cps.toList = [91] := by decide
theorem close_list : ("]" : Str).cps.toList = [93] := by decide
theorem mid_list : ("][" : Str).cps.toList = [93, 91] := by decide
theorem empty_list : ("" : Str).cps.toList = [] := by decide
theorem tok_list (x : Str) : (tok x).cps.toList = tokL x.cps.toList := by
  unfold tok tokL; rw [append_list, append_list, open_list, close_list]; simp
theorem foldl_list (y : Array Nat) : ∀ (n : Nat) (a : Array Nat), ((List.replicate n y).foldl (· ++ ·) a).toList = a.toList ++ (List.replicate n y.toList).flatten
  | 0, a => by simp
  | n + 1, a => by rw [List.replicate_succ, List.foldl_cons, foldl_list y n, List.replicate_succ]; simp
theorem mul_list (x : Str) (n : Nat) : (Txt.mul x (n : Int)).cps.toList = (List.replicate n x.cps.toList).flatten := by
  unfold Txt.mul
  split
  · rename_i h
    have : n = 0 := by omega
    subst this
    rfl
  · split
    · rename_i h1 h2
      have h2 : n = 1 ∨ x.length = 0 := by
        rcases Bool.or_eq_true_iff.mp h2 with h | h
        · left; have := beq_iff_eq.mp h; omega
        · right; exact beq_iff_eq.mp h
      rcases h2 with h2 | h2
      · subst h2; simp
      · have e : x.cps.toList = [] := by
          have : x.cps.toList.length = 0 := by simpa [Str.length] using h2
          exact List.length_eq_zero_iff.mp this
        rw [e]
        exact (flat_nil' n).symm
    · show (Array.toList _) = _
      rw [foldl_list]
      simp
theorem flat_rep (W : Nat → List Nat) (k : Nat) : ∀ m : Nat, flatL W (List.replicate m k) = (List.replicate m (tokL (W k))).flatten
  | 0 => rfl
  | m + 1 => by rw [List.replicate_succ, flatL_cons, flat_rep W k m, List.replicate_succ, List.flatten_cons]
theorem joinL_nil : ∀ xs : List (List Nat), joinL [] xs = xs.flatten
  | [] => rfl
  | [x] => by simp [joinL]
  | x :: y :: r => by rw [joinL, joinL_nil (y :: r)]; simp
theorem join_empty (xs : List Str) : (Txt.join ("" : Str) xs).cps.toList = (xs.map fun s => s.cps.toList).flatten := by
  unfold Txt.join
  rw [glued_eq_join, joinL_is, empty_list, joinL_nil]
theorem line_is (p : Nat) (c : Nat → Nat) : lineS (wsOf p) (csOf c) = tx p c := by
  refine cps_inj ?_
  unfold lineS tx
  rw [join_empty, txt_list]
  have e : dn c 7 = List.replicate (c 6) 6 ++ (List.replicate (c 5) 5 ++ (List.replicate (c 4) 4 ++ (List.replicate (c 3) 3 ++ (List.replicate (c 2) 2 ++ (List.replicate (c 1) 1 ++ (List.replicate (c 0) 0 ++ [])))))) := rfl
  rw [e]
  simp only [flatL_append, flat_rep]
  have g : ∀ j : Nat, j < 7 → (wsOf p).getD j Str.empty = wordS (p + j) ∧ (csOf c).getD j 0 = ((c j : Nat) : Int) := fun j hj => by
    refine seven (Pk := fun j => (wsOf p).getD j Str.empty = wordS (p + j) ∧ (csOf c).getD j 0 = ((c j : Nat) : Int)) hj ⟨rfl, rfl⟩ ⟨rfl, rfl⟩ ⟨rfl, rfl⟩ ⟨rfl, rfl⟩ ⟨rfl, rfl⟩ ⟨rfl, rfl⟩ ⟨rfl, rfl⟩
  have h6 := g 6 (by decide); have h5 := g 5 (by decide); have h4 := g 4 (by decide); have h3 := g 3 (by decide); have h2 := g 2 (by decide); have h1 := g 1 (by decide); have h0 := g 0 (by decide)
  simp only [r7, List.map_cons, List.map_nil]
  rw [show ((6 : Int) - 0).toNat = 6 from rfl, show ((6 : Int) - 1).toNat = 5 from rfl, show ((6 : Int) - 2).toNat = 4 from rfl, show ((6 : Int) - 3).toNat = 3 from rfl, show ((6 : Int) - 4).toNat = 2 from rfl, show ((6 : Int) - 5).toNat = 1 from rfl, show ((6 : Int) - 6).toNat = 0 from rfl]
  rw [h6.1, h5.1, h4.1, h3.1, h2.1, h1.1, h0.1, h6.2, h5.2, h4.2, h3.2, h2.2, h1.2, h0.2]
  simp only [mul_list, tok_list, List.flatten_cons, List.flatten_nil, Wd]
  rfl
def twiceS (w : Str) : Str := (((("[" : Str) ++ w) ++ ("][" : Str)) ++ w) ++ ("]" : Str)
theorem twice_is (p k : Nat) : twiceS (wordS (p + k)) = txt p [k, k] := by
  refine cps_inj ?_
  unfold twiceS
  rw [txt_list, append_list, append_list, append_list, append_list, open_list, close_list, mid_list]
  simp [flatL, tokL, Wd]
theorem tok_is (p k : Nat) : tok (wordS (p + k)) = txt p [k] := by
  refine cps_inj ?_
  rw [tok_list, txt_list]
  simp [flatL, Wd]
theorem nil_is (p : Nat) : ("" : Str) = txt p [] := by
  refine cps_inj ?_
  rw [txt_list, empty_list]; rfl
theorem many_is (p n : Nat) : Txt.mul (tok (wordS (p + 0))) (n : Int) = tx p (oneF n) := by
  refine cps_inj ?_
  unfold tx
  rw [mul_list, txt_list, tok_list]
  have e : dn (oneF n) 7 = List.replicate n 0 := by simp [dn, oneF]
  rw [e, flat_rep]
  rfl

/-! the words of a number -/
def idx (n : Nat) : List Nat := (List.range 7).filter fun k => n / 2 ^ k % 2 == 1
theorem bitI_nat (n : Nat) (k : Nat) : bitI (n : Int) (k : Int) = ((n / 2 ^ k % 2 : Nat) : Int) := by
  unfold bitI
  rw [Int.toNat_natCast]
  have e1 : ((n : Int).fdiv (2 ^ k)) = ((n / 2 ^ k : Nat) : Int) := by
    rw [Int.fdiv_eq_ediv_of_nonneg _ (Int.le_of_lt (Int.pow_pos (by decide)))]
    push_cast
    rfl
  rw [e1, Int.fmod_eq_emod_of_nonneg _ (by decide)]
  push_cast
  rfl
theorem told_idx (p n : Nat) : toldL (wsOf p) (n : Int) = (idx n).map fun k => wordS (p + k) := by
  have e : r7 = (List.range 7).map fun k => ((k : Nat) : Int) := rfl
  unfold toldL idx
  rw [e, List.filter_map, List.map_map]
  have h1 : ((fun k => bitI (n : Int) k == 1) ∘ fun (k : Nat) => (k : Int)) = fun k : Nat => n / 2 ^ k % 2 == 1 := by
    funext k
    show (bitI (n : Int) (k : Int) == 1) = _
    rw [bitI_nat]
    rcases Nat.mod_two_eq_zero_or_one (n / 2 ^ k) with h | h <;> rw [h] <;> rfl
  rw [h1]
  refine List.map_congr_left fun k hk => ?_
  have hk7 : k < 7 := by simpa using (List.mem_filter.mp hk).1
  show (wsOf p).getD ((k : Int)).toNat Str.empty = wordS (p + k)
  rw [Int.toNat_natCast]
  exact seven (Pk := fun k => (wsOf p).getD k Str.empty = wordS (p + k)) hk7 rfl rfl rfl rfl rfl rfl rfl
theorem setW_shift {n p : Nat} (hn : n < 128) (hp : p < 26) : setW (n * 2 ^ p) 32 = (idx n).map fun k => wordS (p + k) := by
  unfold setW idx
  have e : List.range 32 = List.range p ++ ((List.range 7).map (p + ·) ++ (List.range (25 - p)).map (p + 7 + ·)) := by
    rw [show 32 = p + (7 + (25 - p)) by omega, List.range_add, List.range_add, List.map_append, List.map_map]
    congr 2
    refine List.map_congr_left fun k _ => ?_
    show p + (7 + k) = p + 7 + k
    omega
  rw [e, List.filter_append, List.filter_append]
  have h1 : (List.range p).filter (fun j => n * 2 ^ p / 2 ^ j % 2 == 1) = [] := by
    rw [List.filter_eq_nil_iff]
    intro j hj
    have hj : j < p := by simpa using hj
    have : n * 2 ^ p / 2 ^ j = 2 * (n * 2 ^ (p - j - 1)) := by
      have e2 : n * 2 ^ p = (2 * (n * 2 ^ (p - j - 1))) * 2 ^ j := by
        have : 2 ^ p = 2 ^ (p - j - 1) * 2 * 2 ^ j := by rw [← Nat.pow_succ, ← Nat.pow_add]; congr 1; omega
        rw [this]; ac_rfl
      rw [e2, Nat.mul_div_cancel _ (Nat.pow_pos (by decide))]
    rw [this]
    simp
  have h3 : ((List.range (25 - p)).map (p + 7 + ·)).filter (fun j => n * 2 ^ p / 2 ^ j % 2 == 1) = [] := by
    rw [List.filter_eq_nil_iff]
    intro j hj
    obtain ⟨k, _, rfl⟩ := List.mem_map.mp hj
    have : n * 2 ^ p / 2 ^ (p + 7 + k) = 0 := by
      refine Nat.div_eq_of_lt ?_
      have h4 : 128 * 2 ^ p ≤ 2 ^ (p + 7 + k) := by
        have : 2 ^ (p + 7 + k) = 2 ^ k * (128 * 2 ^ p) := by rw [Nat.pow_add, Nat.pow_add]; show 2 ^ p * 128 * 2 ^ k = _; ac_rfl
        rw [this]
        exact Nat.le_mul_of_pos_left _ (Nat.pow_pos (by decide))
      have h5 : n * 2 ^ p < 128 * 2 ^ p := Nat.mul_lt_mul_of_pos_right hn (Nat.pow_pos (by decide))
      omega
    rw [this]
    decide
  rw [h1, h3, List.nil_append, List.append_nil, List.filter_map, List.map_map]
  have h2 : ((fun j => n * 2 ^ p / 2 ^ j % 2 == 1) ∘ (p + ·)) = fun k => n / 2 ^ k % 2 == 1 := by
    funext k
    show (n * 2 ^ p / 2 ^ (p + k) % 2 == 1) = _
    have : n * 2 ^ p / 2 ^ (p + k) = n / 2 ^ k := by
      rw [Nat.pow_add, ← Nat.div_div_eq_div_mul, Nat.mul_div_cancel _ (Nat.pow_pos (by decide))]
    rw [this]
  rw [h2]
  rfl
theorem idx_nil {n : Nat} (hn : n < 128) (h : idx n = []) : n = 0 := by
  have : ∀ k, k < 7 → n / 2 ^ k % 2 ≠ 1 := fun k hk => by
    have := (List.filter_eq_nil_iff.mp h) k (by simpa using hk)
    simpa using this
  have h0 := this 0 (by decide); have h1 := this 1 (by decide); have h2 := this 2 (by decide); have h3 := this 3 (by decide); have h4 := this 4 (by decide); have h5 := this 5 (by decide); have h6 := this 6 (by decide)
  simp at h0 h1 h2 h3 h4 h5 h6
  omega
theorem idx_zero : idx 0 = [] := by decide
theorem idx_lt {n k : Nat} (h : k ∈ idx n) : k < 7 := by simpa using (List.mem_filter.mp h).1
theorem join_pos {p : Nat} (hp : p < 26) {n : Nat} (h : idx n ≠ []) : (Txt.join (", " : Str) ((idx n).map fun k => wordS (p + k))).length ≠ 0 := by
  unfold Txt.join
  rw [glued_eq_join]
  have h1 := join_len_ge (", " : Str) ((idx n).map fun k => wordS (p + k))
  cases hi : idx n with
  | nil => exact absurd hi h
  | cons a r =>
    rw [hi] at h1
    have hw := (words32 ⟨p + a, by have := idx_lt (hi ▸ List.mem_cons_self : a ∈ idx n); omega⟩).2.2.2.2.2.1
    simp only [List.map_cons, List.sum_cons] at h1 hw
    rw [List.map_cons]
    omega
theorem told_is {n p : Nat} (hn : n < 128) (hp : p < 26) : toldS (wsOf p) (n : Int) = if n = 0 then ("0x0" : Str) else Txt.join (", " : Str) ((idx n).map fun k => wordS (p + k)) := by
  unfold toldS
  rw [told_idx]
  by_cases h : n = 0
  · subst h; rw [idx_zero]; rfl
  · rw [if_neg h, if_neg (join_pos hp fun q => h (idx_nil hn q))]
theorem flags_told {n p : Nat} (hn : n < 128) (hp : p < 26) : flagsS (n * 2 ^ p) = toldS (wsOf p) (n : Int) := by
  rw [told_is hn hp]
  unfold flagsS
  rw [setW_shift hn hp]
  by_cases h : n = 0
  · subst h; simp
  · rw [if_neg h, if_neg (Nat.mul_ne_zero h (Nat.ne_of_gt (Nat.pow_pos (by decide))))]

/-! split of the told words -/
theorem splitL_pass {u : List Nat} : ∀ (acc v : List Nat), 44 ∉ u → splitL [44, 32] acc 0 (u ++ v) = splitL [44, 32] (acc ++ u) 0 v := by
  induction u with
  | nil => intro acc v _; simp
  | cons c t ih =>
    intro acc v h
    have hc : 44 ≠ c := fun q => h (q ▸ List.mem_cons_self)
    have : [44, 32].isPrefixOf (c :: (t ++ v)) = false := by simp [List.isPrefixOf, hc]
    rw [List.cons_append, splitL, if_neg (by rw [this]; decide), ih _ _ (fun q => h (List.mem_cons_of_mem _ q))]
    simp
theorem splitL_join : ∀ (x : List Nat) (xs : List (List Nat)), (∀ y ∈ x :: xs, 44 ∉ y) → splitL [44, 32] [] 0 (joinL [44, 32] (x :: xs)) = x :: xs
  | x, [], h => by
    have := splitL_pass (u := x) [] [] (h x List.mem_cons_self)
    simpa [joinL, splitL] using this
  | x, y :: r, h => by
    have ih := splitL_join y r fun z hz => h z (List.mem_cons_of_mem _ hz)
    rw [joinL, List.append_assoc, splitL_pass [] _ (h x List.mem_cons_self)]
    show splitL [44, 32] x 0 (44 :: 32 :: joinL [44, 32] (y :: r)) = _
    rw [splitL, if_pos (by simp [List.isPrefixOf])]
    show x :: splitL [44, 32] [] 1 (32 :: joinL [44, 32] (y :: r)) = _
    rw [splitL, ih]
theorem comma_list : (", " : Str).cps.toList = [44, 32] := by decide
theorem map_inj_str {xs ys : List Str} (h : xs.map (fun s => s.cps.toList) = ys.map fun s => s.cps.toList) : xs = ys := by
  induction xs generalizing ys with
  | nil => cases ys with
    | nil => rfl
    | cons _ _ => simp at h
  | cons x r ih => cases ys with
    | nil => simp at h
    | cons y q => simp only [List.map_cons, List.cons.injEq] at h; rw [str_of_list h.1, ih h.2]
theorem split_join {x : Str} {xs : List Str} (h : ∀ y ∈ x :: xs, 44 ∉ y.cps.toList) : Txt.split (Txt.join (", " : Str) (x :: xs)) (", " : Str) = x :: xs := by
  refine map_inj_str ?_
  rw [split_is _ _ (by decide) (strKind_one (by rw [comma_list]; decide))]
  unfold Txt.join
  rw [glued_eq_join, joinL_is, comma_list, List.map_cons, splitL_join]
  intro y hy
  rcases List.mem_cons.mp hy with rfl | hy
  · exact h x List.mem_cons_self
  · obtain ⟨z, hz, rfl⟩ := List.mem_map.mp hy
    exact h z (List.mem_cons_of_mem _ hz)
def leftW (p n : Nat) : List Str := if n = 0 then ["0x0"] else (idx n).map fun k => wordS (p + k)
theorem split_told {n p : Nat} (hn : n < 128) (hp : p < 26) : Txt.split (toldS (wsOf p) (n : Int)) (", " : Str) = leftW p n := by
  rw [told_is hn hp]
  unfold leftW
  by_cases h : n = 0
  · rw [if_pos h, if_pos h]; decide +kernel
  · rw [if_neg h, if_neg h]
    cases hi : idx n with
    | nil => exact absurd (idx_nil hn hi) h
    | cons a r =>
      refine split_join fun y hy => ?_
      have hy' : y ∈ (a :: r).map fun k => wordS (p + k) := hy
      obtain ⟨k, hk, rfl⟩ := List.mem_map.mp hy'
      exact (words32 ⟨p + k, by have := idx_lt (hi ▸ hk : k ∈ idx n); omega⟩).2.2.1
end Mine
end PartP3
section PartP4
open PySem PySem.W PyProof.Rows PySem.Calls
open PySem.Builtin PySem.Builtin.Str PySem.StrLaws
set_option maxRecDepth 100000
set_option linter.unusedVariables false
namespace Mine
/-! taking the words out -/
def leftAll (p : Nat) (ns : List Nat) : List Str := ns.flatMap (leftW p)
noncomputable def remL (p : Nat) : Nat → List Str → List Str
  | 0, L => L
  | i + 1, L => (remL p i L).filter fun x => !(x == wordS (p + (6 - i)))
noncomputable def laidL (p : Nat) : Nat → List Str → List Str
  | 0, _ => []
  | i + 1, L => laidL p i L ++ (remL p i L).filter fun x => x == wordS (p + (6 - i))
def cnt (ns : List Nat) : Nat → Nat := fun j => (ns.map fun n => n / 2 ^ j % 2).sum
theorem word_ne {p i j : Nat} (hp : p < 26) (hi : i ≤ 6) (hj : j ≤ 6) (h : i ≠ j) : wordS (p + i) ≠ wordS (p + j) := fun q => by
  have := congrArg Fin.val (words_inj ⟨p + i, by omega⟩ ⟨p + j, by omega⟩ q)
  simp at this
  exact h this
theorem rem_keep {p : Nat} (hp : p < 26) (L : List Str) (j : Nat) : ∀ i, i + j ≤ 6 → (remL p i L).filter (fun x => x == wordS (p + j)) = L.filter fun x => x == wordS (p + j)
  | 0, _ => rfl
  | i + 1, h => by
    rw [← rem_keep hp L j i (by omega), remL, List.filter_filter]
    congr 1
    funext x
    by_cases hx : x = wordS (p + j)
    · subst hx
      have : wordS (p + j) ≠ wordS (p + (6 - i)) := word_ne hp (by omega) (by omega) (by omega)
      simp [this]
    · simp [hx]
theorem idx_filter (n j : Nat) (hj : j < 7) : (idx n).filter (fun k => k == j) = List.replicate (n / 2 ^ j % 2) j := by
  unfold idx
  rw [List.filter_filter]
  generalize hq : (fun k => n / 2 ^ k % 2 == 1) = q
  have hqj : q j = (n / 2 ^ j % 2 == 1) := by rw [← hq]
  have e : (List.range 7).filter (fun a => (a == j) && q a) = if q j then [j] else [] := by
    have r : List.range 7 = [0, 1, 2, 3, 4, 5, 6] := rfl
    rw [r]
    refine seven (Pk := fun j => [0, 1, 2, 3, 4, 5, 6].filter (fun a => (a == j) && q a) = if q j then [j] else []) hj ?_ ?_ ?_ ?_ ?_ ?_ ?_ <;> simp [List.filter_cons]
  have e' : (List.range 7).filter (fun a => (a == j) && (n / 2 ^ a % 2 == 1)) = if q j then [j] else [] := by
    rw [← e, ← hq]
  rw [e', hqj]
  rcases Nat.mod_two_eq_zero_or_one (n / 2 ^ j) with h | h <;> rw [h] <;> rfl
theorem left_filter {p : Nat} (hp : p < 26) (n j : Nat) (hn : n < 128) (hj : j < 7) : (leftW p n).filter (fun x => x == wordS (p + j)) = List.replicate (n / 2 ^ j % 2) (wordS (p + j)) := by
  unfold leftW
  by_cases h : n = 0
  · subst h
    rw [if_pos rfl]
    have := (words32 ⟨p + j, by omega⟩).2.2.2.2.2.2
    simp only at this
    have e : (("0x0" : Str) == wordS (p + j)) = false := beq_eq_false_iff_ne.mpr (Ne.symm this)
    rw [List.filter_cons, e]
    simp
  · rw [if_neg h, List.filter_map]
    have e : (idx n).filter ((fun x => x == wordS (p + j)) ∘ fun k => wordS (p + k)) = (idx n).filter fun k => k == j := by
      refine List.filter_congr fun k hk => ?_
      have hk := idx_lt hk
      show (wordS (p + k) == wordS (p + j)) = (k == j)
      by_cases hkj : k = j
      · subst hkj; simp
      · have := word_ne hp (i := k) (j := j) (by omega) (by omega) hkj
        rw [beq_eq_false_iff_ne.mpr this, beq_eq_false_iff_ne.mpr hkj]
    rw [e, idx_filter n j hj, List.map_replicate]
theorem all_filter {p : Nat} (hp : p < 26) (j : Nat) (hj : j < 7) : ∀ ns : List Nat, (∀ n ∈ ns, n < 128) → (leftAll p ns).filter (fun x => x == wordS (p + j)) = List.replicate (cnt ns j) (wordS (p + j))
  | [], _ => rfl
  | n :: ns, h => by
    have ih := all_filter hp j hj ns fun m hm => h m (List.mem_cons_of_mem _ hm)
    show (leftW p n ++ leftAll p ns).filter _ = _
    rw [List.filter_append, ih, left_filter hp n j (h n List.mem_cons_self) hj, List.replicate_append_replicate]
    rfl
theorem laid_is {p : Nat} (hp : p < 26) {ns : List Nat} (h : ∀ n ∈ ns, n < 128) : laidL p 7 (leftAll p ns) = (dn (cnt ns) 7).map fun k => wordS (p + k) := by
  have st : ∀ i, i ≤ 6 → (remL p i (leftAll p ns)).filter (fun x => x == wordS (p + (6 - i))) = List.replicate (cnt ns (6 - i)) (wordS (p + (6 - i))) := fun i hi => by
    rw [rem_keep hp _ _ i (by omega), all_filter hp _ (by omega) ns h]
  simp only [laidL]
  rw [st 0 (by decide), st 1 (by decide), st 2 (by decide), st 3 (by decide), st 4 (by decide), st 5 (by decide), st 6 (by decide)]
  simp only [dn, List.map_append, List.map_replicate, List.map_nil, List.nil_append, List.append_nil, List.append_assoc, Nat.sub_zero]
theorem laid_line {p : Nat} (hp : p < 26) {ns : List Nat} (h : ∀ n ∈ ns, n < 128) : Txt.join ("" : Str) ((laidL p 7 (leftAll p ns)).map tok) = tx p (cnt ns) := by
  refine cps_inj ?_
  unfold tx
  rw [join_empty, laid_is hp h, txt_list, List.map_map, List.map_map]
  unfold flatL
  rw [List.flatMap_def]
  congr 1
  refine List.map_congr_left fun k _ => ?_
  exact tok_list _
theorem rem_append (p : Nat) (L M : List Str) : ∀ i, remL p i (L ++ M) = remL p i L ++ remL p i M
  | 0 => rfl
  | i + 1 => by rw [remL, rem_append p L M i, List.filter_append]; rfl
theorem rem_sub (p : Nat) (L : List Str) : ∀ i, ∀ x ∈ remL p i L, x ∈ L ∧ ∀ j, j < i → x ≠ wordS (p + (6 - j))
  | 0, x, h => ⟨h, fun j hj => absurd hj (Nat.not_lt_zero _)⟩
  | i + 1, x, h => by
    obtain ⟨h1, h2⟩ := List.mem_filter.mp h
    obtain ⟨a, b⟩ := rem_sub p L i x h1
    refine ⟨a, fun j hj => ?_⟩
    by_cases e : j = i
    · subst e; simpa using h2
    · exact b j (by omega)
theorem rem_zero {p : Nat} (hp : p < 26) : ∀ i, i ≤ 7 → remL p i [("0x0" : Str)] = [("0x0" : Str)]
  | 0, _ => rfl
  | i + 1, hi => by
    rw [remL, rem_zero hp i (by omega), List.filter_cons]
    have := (words32 ⟨p + (6 - i), by omega⟩).2.2.2.2.2.2
    simp only at this
    have e : (("0x0" : Str) == wordS (p + (6 - i))) = false := beq_eq_false_iff_ne.mpr (Ne.symm this)
    rw [e]
    simp
theorem rem_left {p : Nat} (hp : p < 26) (n : Nat) : remL p 7 (leftW p n) = if n = 0 then [("0x0" : Str)] else [] := by
  unfold leftW
  by_cases h : n = 0
  · rw [if_pos h, if_pos h]; exact rem_zero hp 7 (Nat.le_refl _)
  · rw [if_neg h, if_neg h]
    refine List.eq_nil_iff_forall_not_mem.mpr fun x hx => ?_
    obtain ⟨h1, h2⟩ := rem_sub p _ 7 x hx
    obtain ⟨k, hk, rfl⟩ := List.mem_map.mp h1
    have hk := idx_lt hk
    exact h2 (6 - k) (by omega) (by rw [show 6 - (6 - k) = k by omega])
theorem rem_nil (p : Nat) : ∀ i, remL p i [] = []
  | 0 => rfl
  | i + 1 => by rw [remL, rem_nil p i]; rfl
theorem rem_all {p : Nat} (hp : p < 26) : ∀ ns : List Nat, remL p 7 (leftAll p ns) = List.replicate (ns.count 0) ("0x0" : Str)
  | [] => rem_nil p 7
  | n :: ns => by
    show remL p 7 (leftW p n ++ leftAll p ns) = _
    rw [rem_append, rem_left hp, rem_all hp ns, List.count_cons]
    by_cases h : n = 0
    · subst h; simp [List.replicate_succ]
    · simp [h]
theorem left_len {p n : Nat} : (leftW p n).length ≤ 7 := by
  unfold leftW
  split
  · decide
  · rw [List.length_map]; exact Nat.le_trans (List.length_filter_le _ _) (by simp)
theorem leftAll_len (p : Nat) : ∀ ns : List Nat, (leftAll p ns).length ≤ 7 * ns.length
  | [] => by simp [leftAll]
  | n :: ns => by
    have := leftAll_len p ns
    have h2 := left_len (p := p) (n := n)
    show (leftW p n ++ leftAll p ns).length ≤ _
    rw [List.length_append, List.length_cons]
    omega
theorem rem_len (p : Nat) (L : List Str) : ∀ i, (remL p i L).length ≤ L.length
  | 0 => Nat.le_refl _
  | i + 1 => Nat.le_trans (List.length_filter_le _ _) (rem_len p L i)
theorem laid_len (p : Nat) (L : List Str) : ∀ i, (laidL p i L).length ≤ i * L.length
  | 0 => by simp [laidL]
  | i + 1 => by
    have h1 := laid_len p L i
    have h2 := Nat.le_trans (List.length_filter_le (fun x => x == wordS (p + (6 - i))) (remL p i L)) (rem_len p L i)
    show (laidL p i L ++ _).length ≤ _
    rw [List.length_append, Nat.succ_mul]
    omega

/-! the counts -/
theorem cnt_cons (n : Nat) (ns : List Nat) (j : Nat) : cnt (n :: ns) j = n / 2 ^ j % 2 + cnt ns j := rfl
theorem Wt_cnt : ∀ ns : List Nat, (∀ n ∈ ns, n < 128) → Wt (cnt ns) = ns.sum
  | [], _ => rfl
  | n :: ns, h => by
    have ih := Wt_cnt ns fun m hm => h m (List.mem_cons_of_mem _ hm)
    have hn := h n List.mem_cons_self
    unfold Wt at ih ⊢
    rw [List.sum_cons, ← ih]
    simp only [cnt_cons]
    have e0 : n / 2 ^ 0 = n := by simp
    rw [e0, show (2 : Nat) ^ 1 = 2 from rfl, show (2 : Nat) ^ 2 = 4 from rfl, show (2 : Nat) ^ 3 = 8 from rfl, show (2 : Nat) ^ 4 = 16 from rfl, show (2 : Nat) ^ 5 = 32 from rfl, show (2 : Nat) ^ 6 = 64 from rfl]
    omega
theorem sum16 : ∀ ns : List Nat, (∀ n ∈ ns, n < 16) → ns.sum ≤ 15 * ns.length
  | [], _ => by simp
  | n :: ns, h => by
    have ih := sum16 ns fun m hm => h m (List.mem_cons_of_mem _ hm)
    have hn := h n List.mem_cons_self
    rw [List.sum_cons, List.length_cons]
    omega
noncomputable def xorAll : List Nat → Nat → Nat
  | [], a => a
  | n :: ns, a => xorAll ns (a ^^^ n)
theorem xor16 : ∀ a b : Fin 16, a.1 ^^^ b.1 < 16 ∧ Builtin.bitXor ((a.1 : Nat) : Int) ((b.1 : Nat) : Int) = ((a.1 ^^^ b.1 : Nat) : Int) ∧ ∀ j : Fin 7, (a.1 ^^^ b.1) / 2 ^ j.1 % 2 = (a.1 / 2 ^ j.1 % 2 + b.1 / 2 ^ j.1 % 2) % 2 := by decide +kernel
theorem xorAll_lt : ∀ (ns : List Nat) (a : Nat), a < 16 → (∀ n ∈ ns, n < 16) → xorAll ns a < 16
  | [], a, ha, _ => ha
  | n :: ns, a, ha, h => xorAll_lt ns _ (xor16 ⟨a, ha⟩ ⟨n, h n List.mem_cons_self⟩).1 fun m hm => h m (List.mem_cons_of_mem _ hm)
theorem xor_cnt (j : Nat) (hj : j < 7) : ∀ (ns : List Nat) (a : Nat), a < 16 → (∀ n ∈ ns, n < 16) → xorAll ns a / 2 ^ j % 2 = (a / 2 ^ j % 2 + cnt ns j) % 2
  | [], a, ha, _ => by simp [xorAll, cnt]
  | n :: ns, a, ha, h => by
    have x := xor16 ⟨a, ha⟩ ⟨n, h n List.mem_cons_self⟩
    have ih := xor_cnt j hj ns (a ^^^ n) x.1 fun m hm => h m (List.mem_cons_of_mem _ hm)
    have e := x.2.2 ⟨j, hj⟩
    simp only at e
    show xorAll ns (a ^^^ n) / 2 ^ j % 2 = _
    rw [ih, e, cnt_cons]
    omega
theorem odd_is {p : Nat} {ns : List Nat} (h : ∀ n ∈ ns, n < 16) : tx p (fun j => cnt ns j % 2) = tx p (bitF (xorAll ns 0)) := tx_congr fun j hj => by
  show cnt ns j % 2 = xorAll ns 0 / 2 ^ j % 2
  rw [xor_cnt j hj ns 0 (by decide) h]
  simp
theorem bits_is (n : Nat) : r7.map (bitI (n : Int)) = csOf (bitF n) := by
  unfold csOf
  refine List.map_congr_left fun k hk => ?_
  have hk' := r7_mem hk
  have e : k = ((k.toNat : Nat) : Int) := by omega
  rw [e, bitI_nat, Int.toNat_natCast]
  rfl
theorem fmod_nat (a : Nat) : ((a : Nat) : Int).fmod 2 = ((a % 2 : Nat) : Int) := by rw [Int.fmod_eq_emod_of_nonneg _ (by decide)]; push_cast; rfl
theorem fdiv_nat (a : Nat) : ((a : Nat) : Int).fdiv 2 = ((a / 2 : Nat) : Int) := by rw [Int.fdiv_eq_ediv_of_nonneg _ (by decide)]; push_cast; rfl
theorem carried_is (c : Nat → Nat) : carriedL (csOf c) = csOf (fallF c) := by
  have g : ∀ j : Nat, j < 7 → (csOf c).getD j 0 = ((c j : Nat) : Int) := fun j hj => seven (Pk := fun j => (csOf c).getD j 0 = ((c j : Nat) : Int)) hj rfl rfl rfl rfl rfl rfl rfl
  have h6 := g 6 (by decide); have h5 := g 5 (by decide); have h4 := g 4 (by decide); have h3 := g 3 (by decide); have h2 := g 2 (by decide); have h1 := g 1 (by decide); have h0 := g 0 (by decide)
  unfold carriedL
  simp only [r5, List.map_cons, List.map_nil]
  rw [show (1 : Int).toNat = 1 from rfl, show (2 : Int).toNat = 2 from rfl, show (3 : Int).toNat = 3 from rfl, show (4 : Int).toNat = 4 from rfl, show (5 : Int).toNat = 5 from rfl,
    show ((1 : Int) - 1).toNat = 0 from rfl, show ((2 : Int) - 1).toNat = 1 from rfl, show ((3 : Int) - 1).toNat = 2 from rfl, show ((4 : Int) - 1).toNat = 3 from rfl, show ((5 : Int) - 1).toNat = 4 from rfl]
  rw [h6, h5, h4, h3, h2, h1, h0]
  simp only [fmod_nat, fdiv_nat]
  simp [csOf, r7, fallF]
theorem halves_is (c : Nat → Nat) : (csOf c).map (fun n => (n + 1).fdiv 2) = csOf fun j => (c j + 1) / 2 := by
  unfold csOf
  rw [List.map_map]
  refine List.map_congr_left fun k _ => ?_
  show (((c k.toNat : Nat) : Int) + 1).fdiv 2 = _
  have : ((c k.toNat : Nat) : Int) + 1 = ((c k.toNat + 1 : Nat) : Int) := by push_cast; rfl
  rw [this, fdiv_nat]
theorem counts_is (ns : List Nat) : r7.map (fun k => ((ns.map fun n => ((n : Nat) : Int)).map fun n => bitI n k).sum) = csOf (cnt ns) := by
  unfold csOf
  refine List.map_congr_left fun k hk => ?_
  have hk' := r7_mem hk
  have e : k = ((k.toNat : Nat) : Int) := by omega
  generalize k.toNat = j at e
  subst e
  rw [List.map_map]
  induction ns with
  | nil => rfl
  | cons n ns ih =>
    rw [List.map_cons, List.sum_cons, ih, cnt_cons]
    show bitI (n : Int) (j : Int) + _ = _
    rw [bitI_nat]
    push_cast
    rfl
theorem csOf_len (c : Nat → Nat) : (csOf c).length = 7 := by unfold csOf; rw [List.length_map]; rfl
theorem wsOf_len (p : Nat) : (wsOf p).length = 7 := by unfold wsOf; rw [List.length_map]; rfl
theorem csOf_bd {c : Nat → Nat} (h : Wt c ≤ 200) : ∀ n ∈ csOf c, 0 ≤ n ∧ n ≤ 200 := fun n hn => by
  obtain ⟨k, hk, rfl⟩ := List.mem_map.mp hn
  have hk' := r7_mem hk
  have : c k.toNat ≤ Wt c := seven (Pk := fun j => c j ≤ Wt c) (show k.toNat < 7 by omega) (by unfold Wt; omega) (by unfold Wt; omega) (by unfold Wt; omega) (by unfold Wt; omega) (by unfold Wt; omega) (by unfold Wt; omega) (by unfold Wt; omega)
  omega
theorem wsOf_bd {p : Nat} (hp : p < 26) : ∀ x ∈ wsOf p, x.length ≤ 100 := fun x hx => by
  obtain ⟨k, hk, rfl⟩ := List.mem_map.mp hx
  have hk' := r7_mem hk
  have := (words32 ⟨p + k.toNat, by omega⟩).2.2.2.2.1
  simp only at this
  omega
theorem wsOf_get {p j : Nat} (hj : j < 7) : (wsOf p)[j]? = some (wordS (p + j)) := seven (Pk := fun j => (wsOf p)[j]? = some (wordS (p + j))) hj rfl rfl rfl rfl rfl rfl rfl

/-! the end of the while -/
def tot (c : Nat → Nat) : Nat := c 0 + c 1 + c 2 + c 3 + c 4 + c 5 + c 6
theorem Wt_fall (c : Nat → Nat) : Wt (fallF c) = Wt c := by simp [Wt, fallF]; omega
theorem tot_fall {c : Nat → Nat} (hW : Wt c < 128) {v : Int} (hv : maxL (csOf c) v) (h2 : ¬ v < 2) : tot (fallF c) < tot c := by
  obtain ⟨k, hk, e⟩ := List.mem_map.mp hv.1
  have hk' := r7_mem hk
  have hk7 : k.toNat < 7 := by omega
  have hc : 2 ≤ c k.toNat := by omega
  generalize k.toNat = j at hk7 hc
  revert hc
  refine seven (Pk := fun j => 2 ≤ c j → tot (fallF c) < tot c) hk7 ?_ ?_ ?_ ?_ ?_ ?_ ?_ <;> (intro hc; simp [tot, fallF, Wt] at hW ⊢; omega)
end Mine
end PartP4
section PartL0
open PySem PySem.W PyProof.Rows PySem.Calls
set_option maxRecDepth 100000
set_option linter.unusedVariables false
namespace Mine
/-- the frame of law -/
abbrev lawEnv (nm : Str) (L fa : Addr) : Env := envOfC nm (scopeOf 12) L fa (.ref 67)
section
variable {w : World} {A : Around} {env : Env} {gh h h' : Heap} {m cm : Str → Option Value}
theorem G.enumN (g : G w h) (hk : env.scope.kind = .function) (hg : env.globals = mainGlobals) (hb : env.builtins = builtinsNs) (hx : env.kindOf "enumerate" = some .globalImplicit) {pos : Pos} {A : Around} : Ev w A env h (.Name "enumerate" pos) (· = .type "enumerate") := by
  obtain ⟨mg, mb, a, b, _, ⟨_, _, n, _⟩, ⟨_, _, v, _⟩⟩ := g.ns
  exact ev_builtin hk hx hg hb a b n v
theorem G.replaceN (g : G w h) (hk : env.scope.kind = .function) (hg : env.globals = mainGlobals) (hx : env.kindOf "replace" = some .globalImplicit) {pos : Pos} {A : Around} : Ev w A env h (.Name "replace" pos) (· = .ref 21) := by
  obtain ⟨mg, mb, a, b, ⟨r, _⟩, _⟩ := g.ns
  exact ev_global hk hx hg a r
theorem G.splitN (g : G w h) (hk : env.scope.kind = .function) (hg : env.globals = mainGlobals) (hx : env.kindOf "_split_list" = some .globalImplicit) {pos : Pos} {A : Around} : Ev w A env h (.Name "_split_list" pos) (· = .ref 28) := by
  obtain ⟨mg, mb, a, b, ⟨_, r, _⟩, _⟩ := g.ns
  exact ev_global hk hx hg a r
theorem G.flagsN (g : G w h) (hk : env.scope.kind = .function) (hg : env.globals = mainGlobals) (hx : env.kindOf "pretty_flags" = some .globalImplicit) {pos : Pos} {A : Around} : Ev w A env h (.Name "pretty_flags" pos) (· = .ref 36) := by
  obtain ⟨mg, mb, a, b, ⟨_, _, _, r, _⟩, _⟩ := g.ns
  exact ev_global hk hx hg a r
theorem G.wordN (g : G w h) (hk : env.scope.kind = .function) (hg : env.globals = mainGlobals) (hx : env.kindOf "_law_word" = some .globalImplicit) {pos : Pos} {A : Around} : Ev w A env h (.Name "_law_word" pos) (· = .ref 43) := by
  obtain ⟨mg, mb, a, b, ⟨_, _, _, _, r, _⟩, _⟩ := g.ns
  exact ev_global hk hx hg a r
theorem G.bitsN (g : G w h) (hk : env.scope.kind = .function) (hg : env.globals = mainGlobals) (hx : env.kindOf "_law_bits" = some .globalImplicit) {pos : Pos} {A : Around} : Ev w A env h (.Name "_law_bits" pos) (· = .ref 48) := by
  obtain ⟨mg, mb, a, b, ⟨_, _, _, _, _, r, _⟩, _⟩ := g.ns
  exact ev_global hk hx hg a r
theorem G.toldN (g : G w h) (hk : env.scope.kind = .function) (hg : env.globals = mainGlobals) (hx : env.kindOf "_law_told" = some .globalImplicit) {pos : Pos} {A : Around} : Ev w A env h (.Name "_law_told" pos) (· = .ref 53) := by
  obtain ⟨mg, mb, a, b, ⟨_, _, _, _, _, _, r, _⟩, _⟩ := g.ns
  exact ev_global hk hx hg a r
theorem G.lineN (g : G w h) (hk : env.scope.kind = .function) (hg : env.globals = mainGlobals) (hx : env.kindOf "_law_line" = some .globalImplicit) {pos : Pos} {A : Around} : Ev w A env h (.Name "_law_line" pos) (· = .ref 58) := by
  obtain ⟨mg, mb, a, b, ⟨_, _, _, _, _, _, _, r, _⟩, _⟩ := g.ns
  exact ev_global hk hx hg a r
theorem G.carriedN (g : G w h) (hk : env.scope.kind = .function) (hg : env.globals = mainGlobals) (hx : env.kindOf "_law_carried" = some .globalImplicit) {pos : Pos} {A : Around} : Ev w A env h (.Name "_law_carried" pos) (· = .ref 63) := by
  obtain ⟨mg, mb, a, b, ⟨_, _, _, _, _, _, _, _, r⟩, _⟩ := g.ns
  exact ev_global hk hx hg a r
theorem evk_fn1 {fn : Str} {p pos : Pos} {e : Expr} {a : Addr} {i : Nat} {V1 V : Value → Heap → Prop} (hf : Ev w A env h (.Name fn p) (· = .ref a)) (x : FnAt h a i) (he : EvK w A env h e V1)
    (hc : ∀ v (s : Shared), Sub h s.heap → V1 v s.heap → CallK w A s (.ref a) [v] V) (hse : backTo pos (starEach [e] env) = [(false, eval e env)] := by rfl) : EvK w A env h (.Call (.Name fn p) [e] [] pos) V := by
  obtain ⟨o, nm, q, doc, pm, an, cdv, ct, h1, h2, h3⟩ := x.ex
  exact evk_call1 hf h1 h2 he hc hse
theorem evk_fn2 {fn : Str} {p pos : Pos} {e1 e2 : Expr} {a : Addr} {i : Nat} {V1 : Value → Prop} {V2 V : Value → Heap → Prop} (hf : Ev w A env h (.Name fn p) (· = .ref a)) (x : FnAt h a i) (he1 : Ev w A env h e1 V1) (he2 : EvK w A env h e2 V2)
    (hc : ∀ v1 v2 (s : Shared), Sub h s.heap → V1 v1 → V2 v2 s.heap → CallK w A s (.ref a) [v1, v2] V) (hse : backTo pos (starEach [e1, e2] env) = [(false, eval e1 env), (false, eval e2 env)] := by rfl) : EvK w A env h (.Call (.Name fn p) [e1, e2] [] pos) V := by
  obtain ⟨o, nm, q, doc, pm, an, cdv, ct, h1, h2, h3⟩ := x.ex
  exact evk_call2 hf h1 h2 he1 he2 hc hse
/-- replace(x, *ps) -/
theorem evk_replace {p pos sp : Pos} {e1 e2 : Expr} {b : Addr} {x y : Str} {ps : List Str} (g : G w h) (room : Room A 3) (hk : env.scope.kind = .function) (hg : env.globals = mainGlobals) (hx : env.kindOf "replace" = some .globalImplicit) (he1 : Ev w A env h e1 (IsS x)) (he2 : Ev w A env h e2 (· = .ref b))
    (hl : LS h b ps) (hn : ps.length ≤ 100) (hgo : Goes x ps y)
    (h1 : starEach [e1, .Starred e2 sp] env = (false, eval e1 env) :: starEach [.Starred e2 sp] env := by rfl) (h2 : starEach [.Starred e2 sp] env = (true, eval e2 env) :: starEach [] env := by rfl) : EvK w A env h (.Call (.Name "replace" p) [e1, .Starred e2 sp] [] pos) (fun v _ => IsS y v) := by
  obtain ⟨o, nm, q, doc, pm, an, cdv, ct, q1, q2, q3⟩ := g.replace.ex
  obtain ⟨vs, hL, hP⟩ := hl
  refine evk_star (g.replaceN hk hg hx) q1 q2 he1 he2 hL (by rw [← hP.length, sizeLine_is]; omega) (fun v1 s hs hv => ?_) h1 h2
  have := c_replace (w := w) (A := A) (s := s) (g.mono hs) room hv hP hgo.1 hn
  rwa [hgo.2] at this
theorem nats_of : ∀ {ys : List Value} {B : Nat}, (∀ (i : Nat) y, ys[i]? = some y → ∃ n : Nat, n < B ∧ IsI n y) → ∃ ns : List Nat, Paired IsI (ns.map fun n => ((n : Nat) : Int)) ys ∧ (∀ n ∈ ns, n < B) ∧ ns.length = ys.length
  | [], _, _ => ⟨[], .nil, fun n h => (nomatch h), rfl⟩
  | y :: ys, B, h => by
    obtain ⟨n, hn, hy⟩ := h 0 y rfl
    obtain ⟨ns, h1, h2, h3⟩ := nats_of (ys := ys) (B := B) fun i z hz => h (i + 1) z (by simpa using hz)
    exact ⟨n :: ns, .cons hy h1, fun k hk => by rcases List.mem_cons.mp hk with rfl | hk; exact hn; exact h2 k hk, by simp [h3]⟩
theorem fmod_small (a : Int) {B : Nat} (hB : 0 < B) : ∃ n : Nat, n < B ∧ a.fmod B = (n : Int) := by
  have h1 : 0 ≤ a.fmod B := Int.fmod_nonneg_of_pos _ (by omega)
  have h2 : a.fmod B < B := Int.fmod_lt_of_pos _ (by omega)
  exact ⟨(a.fmod B).toNat, by omega, by omega⟩
theorem PlainList.sameC {c D : Addr} {ys : Array Value} {v : Option Value} (x : h.PlainList D ys) (hn : h.IsCell c v) (hs : Heap.SameBut c h h') : h'.PlainList D ys := x.at fun o e => hs.extBut D o (Cell.ne_list hn x.isList) e
end

theorem evk_sumE {w : World} {A : Around} {env : Env} {h : Heap} {p pos : Pos} {e : Expr} (hf : Ev w A env h (.Name "sum" p) (· = .builtin "sum")) (hh : A.handled = none) (he : EvK w A env h e (fun v h' => ∃ D ns, v = .ref D ∧ LI h' D ns)) (hse : backTo pos (starEach [e] env) = [(false, eval e env)] := by rfl) :
    EvK w A env h (.Call (.Name "sum" p) [e] [] pos) (fun v _ => ∃ n, IsI n v) :=
  evk_builtin1 hf he (fun v s E Q hs hv hq => by obtain ⟨D, ns, rfl, hl⟩ := hv; exact call_sumL hh hl fun h' k t hs' => hq _ h' k hs' ⟨_, t, rfl⟩) hse
theorem evk_addE {w : World} {A : Around} {env : Env} {h : Heap} {l r : Expr} {pos : Pos} (hl : EvK w A env h l (fun v _ => ∃ n, IsI n v)) (hr : ∀ {h'}, Sub h h' → EvK w A env h' r (fun v _ => ∃ n, IsI n v)) : EvK w A env h (.BinOp l .Add r pos) (fun v _ => ∃ n, IsI n v) :=
  evk_bin (V := fun v => ∃ n, IsI n v) hl hr fun x y s E Q ⟨a, t, hx⟩ ⟨b, u, hy⟩ hq => by subst hx; subst hy; exact wpAny_add_int (hq _ _ ⟨_, _, rfl⟩)
theorem evk_modE {w : World} {A : Around} {env : Env} {h : Heap} {l r : Expr} {pos : Pos} {B : Nat} (hB : 0 < B) (hl : EvK w A env h l (fun v _ => ∃ n, IsI n v)) (hr : ∀ {h'}, Sub h h' → EvK w A env h' r (fun v _ => IsI (B : Int) v)) : EvK w A env h (.BinOp l .Mod r pos) (fun v _ => ∃ n : Nat, n < B ∧ IsI n v) :=
  evk_bin (V := fun v => ∃ n : Nat, n < B ∧ IsI n v) hl hr fun x y s E Q ⟨a, t, hx⟩ ⟨u, hy⟩ hq => by
    subst hx; subst hy
    obtain ⟨n, hn, e⟩ := fmod_small a hB
    exact mod_int' (by omega) (hq _ _ ⟨n, hn, _, by rw [e]⟩)
theorem compLoc2 {w : World} {env : Env} {h : Heap} {m cm : Str → Option Value} {C : Addr} {m₃ : Str → Option Value} {h₃ : Heap} {scope : Scope} {cl : List (Str × Addr)} (F : Loc env h m cm) (hcl : ∀ n c, (n, c) ∈ cl → env.cells.lookup n = some c) (hk : scope.kind = .function) (hc0 : cellsFrom (C + 1) scope.names cl = cl) (hns : h₃.Ns C m₃) (hs : Sub h h₃) : Loc (cenvOf scope cl C env) h₃ m₃ cm :=
  ⟨hk, hns, fun n c e => by
    have e' : (cellsFrom (C + 1) scope.names cl).lookup n = some c := e
    rw [hc0] at e'
    exact (F.cells n c (hcl n c (mem_of_lookup e'))).keeps hs⟩
theorem one_cl {env : Env} {x : Str} {a : Addr} (h : env.cells.lookup x = some a) : ∀ n c, (n, c) ∈ [(x, a)] → env.cells.lookup n = some c := by
  intro n c hm
  rcases List.mem_cons.mp hm with e | e
  · cases e; exact h
  · cases e

/-- what the law has made: five sizes, the place, the seven words -/
structure LG (w : World) (gb : Heap) (p : Nat) (ns : List Nat) (S W : Addr) : Prop where
  g : G w gb
  lam : LamTop gb
  hp : p < 26
  hns : ∀ n ∈ ns, n < 16
  len : ns.length = 5
  sizes : ∃ ys : List Value, gb.PlainList S ys.toArray ∧ Paired IsI (ns.map fun n => ((n : Nat) : Int)) ys
  words : LS gb W (wsOf p)
theorem LG.mono {w : World} {gb gc : Heap} {p : Nat} {ns : List Nat} {S W : Addr} (x : LG w gb p ns S W) (k : Sub gb gc) : LG w gc p ns S W :=
  ⟨x.g.mono k, x.lam.mono k, x.hp, x.hns, x.len, let ⟨ys, a, b⟩ := x.sizes; ⟨ys, a.at fun o e => k _ o e, b⟩, x.words.mono k⟩
structure LC (cm : Str → Option Value) (p : Nat) (S W : Addr) : Prop where
  sizes : cm "sizes" = some (.ref S)
  words : cm "words" = some (.ref W)
  place : ∃ t, cm "place" = some (.int (p : Int) t)
/-- what a segment hands on -/
def Next (w : World) (A : Around) (E : Value → Shared → Prop) (Q : Flow → Shared → Prop) (env : Env) (rest : List Stmt) (s : Shared) (Inv : Heap → Heap → (Str → Option Value) → (Str → Option Value) → Prop) : Prop :=
  ∀ gb h' k m' cm', Fm gb env h' m' cm' → Inv gb h' m' cm' → Wp w A (execs rest env) Q E { s with heap := h', toks := k }

theorem segA {w : World} {A : Around} {s : Shared} {E : Value → Shared → Prop} {Q : Flow → Shared → Prop} {gh : Heap} {L l fa : Addr} {nm : Str} {ns0 : List Int} {m cm : Str → Option Value}
    (F : Fm gh (lawEnv nm L fa) s.heap m cm) (g : G w gh) (lam : LamTop gh) (room : Room A 20) (hm : m "script" = some (.ref l)) (hl : LI gh l ns0) (hn0 : ns0.length ≤ 63)
    (next : Next w A E Q (lawEnv nm L fa) ((bodyOf 12).drop 4) s fun gb h' m' cm' => Sub gh gb ∧ (∀ b o, b ≠ L → b ∉ (lawEnv nm L fa).cells.map (·.2) → s.heap.get? b = some o → h'.get? b = some o ∧ gb.get? b = some o) ∧ ∃ p ns S W, LG w gb p ns S W ∧ LC cm' p S W) :
    Wp w A (execs (bodyOf 12) (lawEnv nm L fa)) Q E s := by
  have hh : A.handled = none := room.hand
  have k1 : (lawEnv nm L fa).kindOf "drawn" = some .cell := rfl
  have c1 : (lawEnv nm L fa).cells.lookup ("drawn" : Str) = some (L + 1) := rfl
  have k3 : (lawEnv nm L fa).kindOf "sizes" = some .cell := rfl
  have c3 : (lawEnv nm L fa).cells.lookup ("sizes" : Str) = some (L + 1 + 1 + 1) := rfl
  have k4 : (lawEnv nm L fa).kindOf "place" = some .cell := rfl
  have c4 : (lawEnv nm L fa).cells.lookup ("place" : Str) = some (L + 1 + 1 + 1 + 1) := rfl
  have k5 : (lawEnv nm L fa).kindOf "words" = some .cell := rfl
  have c5 : (lawEnv nm L fa).cells.lookup ("words" : Str) = some (L + 1 + 1 + 1 + 1 + 1) := rfl
  have kS : (lawEnv nm L fa).kindOf "script" = some .local := rfl
  have kE : (lawEnv nm L fa).kindOf "enumerate" = some .globalImplicit := rfl
  have kU : (lawEnv nm L fa).kindOf "sum" = some .globalImplicit := rfl
  have kR : (lawEnv nm L fa).kindOf "range" = some .globalImplicit := rfl
  refine ex_assignC F k1 c1 (evk_sliceTo (ev_local F.loc kS hm) (hl.mono F.base) (by rw [sizeLine_is]; omega) ev_int) fun v h₁ h₂ q₂ hs₁ hv hsb₂ F₂ => ?_
  obtain ⟨D, dr, rfl, hDn, hD, hDl⟩ := hv
  have hD := hD.sameC ((F.mono hs₁).loc.cells _ _ c1) hsb₂
  have ecs : Ev w A (lawEnv nm L fa) h₂ (.Name "drawn" ⟨0, 0, 0, 0⟩) (· = .ref D) := ev_cell F₂.loc k1 c1 rfl
  refine ex_assignC F₂ k3 c3 (comp2_ev (cl := [("drawn", L + 1)]) (fun i y => ∃ n : Nat, n < 16 ∧ IsI n y)
    (src_enumT (ns := [3, 5, 6, 1, 7]) hh (fun _ => rfl) (fun _ => rfl) (fun _ => rfl) (fun _ => rfl) (by decide) ((F₂.g g).enumN rfl rfl rfl kE) (by decide) (evs_consP ev_int (evs_consP ev_int (evs_consP ev_int (evs_consP ev_int (evs_consP ev_int evs_nilP))))))
    (by decide) rfl rfl (by decide) (fun h => ⟨_, Heap.Ns.new h (.type "dict")⟩) (fun i C h ⟨m, x, y, hm, _⟩ => ⟨m, hm⟩) (fun C h h' ⟨m, hm⟩ k => ⟨m, hm.at' fun o e => k _ o (Nat.le_refl _) e⟩) (fun C h x => x)
    (fun i C h₃ hi ⟨m₃, x, y, hns, hx, hy, hxi, z, hz, hyz⟩ hsub => ?_)) fun v h₃ h₄ q₄ hs₃ hv hsb₄ F₄ => ?_
  · have L3 := compLoc2 (w := w) (C := C) (scope := (match (bodyOf 12).drop 1 with | .Assign _ (.ListComp _ _ sc _) _ :: _ => sc | _ => scopeOf 12)) (cl := [("drawn", L + 1)]) F₂.loc (one_cl c1) rfl rfl hns hsub
    have g3 := (F₂.g g).mono hsub
    refine evk_modE (B := 16) (by decide) (evk_addE ((Ev.k (ev_local L3 rfl hy)).mono fun v h' _ hv => ⟨z, hv ▸ hyz⟩) (fun {h'} hs => evk_sumE ((g3.mono hs).sum rfl rfl rfl rfl) hh ((evk_sliceBy (ev_cell (L3.mono hs) rfl rfl rfl) ((hD.mono hsub).mono hs) (by rw [sizeLine_is]; omega) ((ev_local (L3.mono hs) rfl hx).mono fun v hv => hv ▸ hxi) ev_int (by decide)).mono fun v h'' _ hv => hv))) (fun _ => Ev.k ev_int)
  obtain ⟨S, ys, rfl, hSn, hS, hSl, hSv⟩ := hv
  obtain ⟨ns, hp1, hp2, hp3⟩ := nats_of hSv
  have hD := (hD.mono hs₃).sameC ((F₂.mono hs₃).loc.cells _ _ c3) hsb₄
  have hS := PlainList.sameC hS ((F₂.mono hs₃).loc.cells _ _ c3) hsb₄
  refine ex_assignC F₄ k4 c4 (evk_modE (B := 26) (by decide) (evk_addE ((Ev.k ev_int).mono fun v h' _ hv => ⟨7, hv⟩) (fun {h'} hs => evk_sumE (((F₄.g g).mono hs).sum rfl rfl rfl kU) hh ((Ev.k (ev_cell (F₄.mono hs).loc k1 c1 rfl)).mono fun v h'' hs' hv => ⟨D, dr, hv, (hD.mono hs).mono hs'⟩))) (fun _ => Ev.k ev_int)) fun v h₅ h₆ q₆ hs₅ hv hsb₆ F₆ => ?_
  obtain ⟨p, hp, t, rfl⟩ := hv
  have hS := PlainList.sameC (PlainList.sub hS hs₅) ((F₄.mono hs₅).loc.cells _ _ c4) hsb₆
  refine ex_assignC F₆ k5 c5 (comp_map0 (K := IsI) (R := IsS) (cl := [("place", L + 1 + 1 + 1 + 1)]) (fun k => wordS (p + k.toNat)) r7 isI_inj (src_range1 (N := 7) hh ((F₆.g g).range rfl rfl rfl kR) ev_int (by decide)) r7_get (by decide) rfl (by decide) rfl (by decide) rfl (fun C k v h₃ m₃ hk3 hv hns hm hsub => ?_)) fun v h₇ h₈ q₈ hs₇ hv hsb₈ F₈ => ?_
  · have L3 := compLoc (scope := (match (bodyOf 12).drop 3 with | .Assign _ (.ListComp _ _ sc _) _ :: _ => sc | _ => scopeOf 12)) (cl := [("place", L + 1 + 1 + 1 + 1)]) F₆.loc (one_cl c4) rfl hns hsub
    have b := r7_mem hk3
    have g3 := (F₆.g g).mono hsub
    obtain ⟨ta, rfl⟩ := hv
    refine evk_fn1 (V1 := fun v _ => IsI (p + k) v) (g3.wordN rfl rfl rfl) g3.word (Ev.k (ev_add ((ev_cell L3 rfl rfl rfl).mono fun v hv => ⟨t, hv⟩) ((ev_local L3 rfl hm).mono fun v hv => ⟨ta, hv⟩))) (fun v s' hs hv => ?_)
    obtain ⟨tv, rfl⟩ := hv
    have e : ((p : Int) + k) = ((p + k.toNat : Nat) : Int) := by omega
    rw [e]
    exact c_word (g3.mono hs) (by have := room.depth; omega) (by omega)
  obtain ⟨W, ws, rfl, hWn, hW, hWp⟩ := hv
  have hW := PlainList.sameC hW ((F₆.mono hs₇).loc.cells _ _ c5) hsb₈
  have hS := PlainList.sameC (PlainList.sub hS hs₇) ((F₆.mono hs₇).loc.cells _ _ c5) hsb₈
  have GW := F₈.grow []
  have hgb := GW.2 (fun d hd => nomatch hd)
  have mc : ∀ {x : Str} {c : Addr}, (lawEnv nm L fa).cells.lookup x = some c → c ∈ (lawEnv nm L fa).cells.map (·.2) := fun h => List.mem_map.mpr ⟨_, mem_of_lookup h, rfl⟩
  have toGb : ∀ b o, b ≠ L → b ∉ (lawEnv nm L fa).cells.map (·.2) → h₈.get? b = some o → (hideAll h₈ ((lawEnv nm L fa).locals :: ((lawEnv nm L fa).cells.map (·.2) ++ []))).get? b = some o := fun b o h1 h2 e => hideAll_get _ e fun hm => by
    rcases List.mem_cons.mp hm with q | hm
    · exact h1 q
    · rw [List.append_nil] at hm; exact h2 hm
  have offS := F₈.listOff hS
  have offW := F₈.listOff hW
  refine next _ h₈ q₈ _ _ GW.1 ⟨hgb, fun b o h1 h2 e => ?_, p, ns, S, W, ⟨g.mono hgb, lam.mono hgb, hp, hp2, ?_, ⟨ys, ?_, hp1⟩, ⟨ws, ?_, hWp⟩⟩, ⟨rfl, rfl, t, rfl⟩⟩
  · have ne : ∀ {x : Str} {c : Addr}, (lawEnv nm L fa).cells.lookup x = some c → b ≠ c := fun hc q => h2 (q ▸ mc hc)
    have e8 : h₈.get? b = some o := hsb₈.extBut b o (ne c5) (hs₇ b o (hsb₆.extBut b o (ne c4) (hs₅ b o (hsb₄.extBut b o (ne c3) (hs₃ b o (hsb₂.extBut b o (ne c1) (hs₁ b o e)))))))
    exact ⟨e8, toGb b o h1 h2 e8⟩
  · rw [hp3, hSl]; rfl
  · exact hS.at fun o e => toGb S o offS.1 offS.2 e
  · exact hW.isList.at fun o e => toGb W o offW.1 offW.2 e
end Mine
end PartL0
section PartL1
open PySem PySem.W PyProof.Rows PySem.Calls
set_option maxRecDepth 100000
set_option linter.unusedVariables false
namespace Mine
section
variable {w : World} {A : Around} {env : Env} {gh h h' : Heap} {m cm : Str → Option Value}
theorem call_splitP {s : Shared} {E : Value → Shared → Prop} {Q : Value → Shared → Prop} {x y : Str} {t u : Tok} (hy : (y.length == 0) = false) (hx : x.length + 2 ≤ sizeLine)
    (hq : ∀ D (l : List (Str × Tok)) h' k, l.map (·.1) = Txt.split x y → Sub s.heap h' → s.heap.get? D = none → h'.PlainList D (strValues l).toArray → Q (.ref D) { s with heap := h', toks := k }) :
    wpAny (model P w) A (call (.builtin "str.split") [.str x t, .str y u]) Q E s := by
  have new : s.heap.get? s.heap.objs.size = none := Heap.get?_none_of_le (Nat.le_refl _)
  have hle := split_len x y
  cases h1 : (decide (x.length < y.length) || decide (Builtin.Str.strKind x < Builtin.Str.strKind y)) with
  | true =>
    exact call_meets F.slot_str_split (typeIs_str _ _ _) F.entry_str_split (F.args_str_split_2 _ _) (meets_str_split_cannot_occur x y t u h1)
      (hq _ [(x, t)] _ s.toks (if_pos h1).symm (Sub.push _ _) new ⟨_, Heap.get?_push_size _ rfl⟩)
  | false =>
    cases hf : (Builtin.Str.occurrences x y 0 x.length (x.length + 1)).isEmpty with
    | true =>
    exact call_meets F.slot_str_split (typeIs_str _ _ _) F.entry_str_split (F.args_str_split_2 _ _) (meets_str_split_not_found x y t u h1 hy hf)
        (hq _ [(x, t)] _ s.toks ((if_neg (ne_true_of_eq_false h1)).trans (if_pos hf)).symm (Sub.push _ _) new ⟨_, Heap.get?_push_size _ rfl⟩)
    | false =>
      have he : Txt.split x y = Builtin.Str.partsBetween x (Builtin.Str.occurrences x y 0 x.length (x.length + 1)) y.length := (if_neg (ne_true_of_eq_false h1)).trans (if_neg (ne_true_of_eq_false hf))
      refine call_meets F.slot_str_split (typeIs_str _ _ _) F.entry_str_split (F.args_str_split_2 _ _) (meets_str_split_sep x y t u h1 hy hf (by omega) (by rw [← he]; omega)) ?_
      show wants Q E _ { s with toks := _, heap := s.heap.push { cls := .type "list", data := .seq (strsFrom s.toks (Builtin.Str.partsBetween x (Builtin.Str.occurrences x y 0 x.length (x.length + 1)) y.length)).toArray } }
      rw [strsFrom_eq]
      exact hq _ (numbered s.toks _) _ _ ((numbered_texts _ _).trans he.symm) (Sub.push _ _) new ⟨_, Heap.get?_push_size _ rfl⟩
theorem evk_splitP {o e : Expr} {apos pos : Pos} {x y : Str} (ho : Ev w A env h o (IsS x)) (he : Ev w A env h e (IsS y)) (hy : (y.length == 0) = false) (hx : x.length + 2 ≤ sizeLine)
    (hbase : attributeBase o "split" env (eval o env) = eval o env := by rfl) (hst : backTo pos (starEach [e] env) = [(false, eval e env)] := by rfl) (hline : (apos.endLine == pos.line) = true := by rfl) :
    EvK w A env h (.Call (.Attribute o "split" apos) [e] [] pos) (fun v h' => ∃ b ws, v = .ref b ∧ h'.PlainList b (List.toArray ws) ∧ Paired IsS (Txt.split x y) ws) := fun s E Q hs hq => by
  subst hs
  refine ⟨wpAny_Call_method hbase (by rw [hst]; rfl) hline F.plainAttrs_str F.slot_str_split F.type_str_split (Wp.run (ho s E _ rfl fun v k hv => ?_))⟩
  obtain ⟨t, rfl⟩ := hv
  refine ⟨typeIs_str _ _ _, (fun a e => by cases e), ?_⟩
  rw [hst]
  refine callWith_builtin rfl (evalArgs_plain (spliced_cons (Wp.run (he _ E _ rfl fun v k₁ hV => spliced_nil ?_))))
  obtain ⟨u, rfl⟩ := hV
  exact call_splitP hy hx fun D l h' k' hm hs' hD hl => hq _ h' k' hs' ⟨D, strValues l, rfl, hl, hm ▸ paired_strs l⟩
end
theorem mul_ok128 {n : Nat} (hn : n < 128) (b : Int) : IntMulOk (n : Int) b := by
  have : ∀ n : Fin 128, Builtin.Int.intBits (n.1 : Int) ≤ 64 := by decide +kernel
  exact IntMulOk.of_left (this ⟨n, hn⟩)
theorem told_len {p n : Nat} (hn : n < 128) (hp : p < 26) : (toldS (wsOf p) (n : Int)).length ≤ 1000 := by
  rw [told_is hn hp]
  split
  · decide
  · refine Nat.le_trans (join_len (B := 20) (N := 7) (fun x hx => ?_) ?_) (by decide)
    · obtain ⟨k, hk, rfl⟩ := List.mem_map.mp hx
      have := idx_lt hk
      exact (words32 ⟨p + k, by omega⟩).2.2.2.2.1
    · rw [List.length_map]
      exact Nat.le_trans (List.length_filter_le _ _) (by simp)
theorem take_all {p : Nat} {ns : List Nat} {i n : Nat} (h : ns[i]? = some n) : leftAll p (ns.take (i + 1)) = leftAll p (ns.take i) ++ leftW p n := by
  unfold leftAll
  rw [List.take_add_one, h, List.flatMap_append]
  simp

theorem segB {w : World} {A : Around} {s : Shared} {E : Value → Shared → Prop} {Q : Flow → Shared → Prop} {gb : Heap} {L fa : Addr} {nm : Str} {m cm : Str → Option Value} {p : Nat} {ns : List Nat} {S W : Addr}
    (F : Fm gb (lawEnv nm L fa) s.heap m cm) (G : LG w gb p ns S W) (C : LC cm p S W) (room : Room A 20)
    (next : Next w A E Q (lawEnv nm L fa) ((bodyOf 12).drop 7) s fun gb' h' m' cm' => gb' = gb ∧ LC cm' p S W ∧ ∃ DL DD zs, m' "left" = some (.ref DL) ∧ h'.PlainList DL (List.toArray zs) ∧ Paired IsS (leftAll p ns) zs ∧ m' "laid" = some (.ref DD) ∧ h'.PlainList DD #[] ∧ gb.get? DD = none ∧ DL ≠ DD) :
    Wp w A (execs ((bodyOf 12).drop 4) (lawEnv nm L fa)) Q E s := by
  have hh : A.handled = none := room.hand
  have kL : (lawEnv nm L fa).kindOf "left" = some .local := rfl
  have kZ : (lawEnv nm L fa).kindOf "size" = some .local := rfl
  have kT : (lawEnv nm L fa).kindOf "listed" = some .local := rfl
  have kD : (lawEnv nm L fa).kindOf "laid" = some .local := rfl
  have k3 : (lawEnv nm L fa).kindOf "sizes" = some .cell := rfl
  have c3 : (lawEnv nm L fa).cells.lookup ("sizes" : Str) = some (L + 1 + 1 + 1) := rfl
  have k4 : (lawEnv nm L fa).kindOf "place" = some .cell := rfl
  have c4 : (lawEnv nm L fa).cells.lookup ("place" : Str) = some (L + 1 + 1 + 1 + 1) := rfl
  have k5 : (lawEnv nm L fa).kindOf "words" = some .cell := rfl
  have c5 : (lawEnv nm L fa).cells.lookup ("words" : Str) = some (L + 1 + 1 + 1 + 1 + 1) := rfl
  have nil : ∀ {h : Heap} {pos : Pos}, EvK w A (lawEnv nm L fa) h (.List [] pos) (fun v h' => ∃ a vs, v = .ref a ∧ h.get? a = none ∧ h'.PlainList a (List.toArray vs) ∧ vs = []) := evk_list (R := fun vs => vs = []) (fun s E Q hs hq => ⟨wpAny_items_nil (hq [] s.toks rfl)⟩) (fun vs hv => by rw [hv]; exact Nat.zero_le _)
  refine ex_assign F kL nil fun v h₁ h₂ k₂ hs₁ hv hsb F₂ => ?_
  obtain ⟨DL, vs, rfl, hDL, hpl1, rfl⟩ := hv
  have hpl1 := PlainList.same hpl1 (F.mono hs₁).loc.ns hsb
  have g1 : gb.get? DL = none := by cases e : gb.get? DL with | none => rfl | some o => exact absurd (F.base DL o e) (by rw [hDL]; exact fun q => by cases q)
  obtain ⟨sv, hSp, hSi⟩ := G.sizes
  have hsz : sv.toArray.size = ns.length := by simp [← hSi.length]
  have al : ∀ {h : Heap} {ys : Array Value}, h.PlainList DL ys → ∀ d ∈ [DL], ∃ o, h.get? d = some o := fun hp d hd => by rw [List.mem_singleton.mp hd]; obtain ⟨n, e⟩ := hp; exact ⟨_, e⟩
  refine ex_forL (n := sv.toArray.size) [DL] kZ F₂ (fun d hd => by rw [List.mem_singleton.mp hd]; exact g1) (al hpl1) (fun d hd => by rw [List.mem_singleton.mp hd]; exact F₂.listOff hpl1)
    (src_list hh (ev_cell F₂.loc k3 c3 C.sizes) (hSp.isList.at fun o e => F₂.base _ o e)) (fun b hb => by rw [List.mem_singleton.mp hb]; obtain ⟨n, e⟩ := hSp; exact ⟨_, e⟩)
    (fun i h m cm => ∃ zs : List Value, h.PlainList DL zs.toArray ∧ Paired IsS (leftAll p (ns.take i)) zs ∧ m "left" = some (.ref DL) ∧ LC cm p S W)
    ⟨[], hpl1, .nil, rfl, C⟩ (fun i h h' m cm ⟨zs, h1, r⟩ hk => ⟨zs, h1.at fun o e => hk DL (List.mem_singleton.mpr rfl) o e, r⟩) ?_ ?_
  · rintro gc i v h₃ m₃ cm₃ k₃ E' hsub hDb hi hv ⟨zs, hz, pz, ml, C₃⟩ hal F₃
    have hv' : sv[i]? = some v := by simpa using hv
    obtain ⟨z, hz', hzv⟩ := paired_get' hSi i v hv'
    rw [List.getElem?_map] at hz'
    cases hn : ns[i]? with
    | none => rw [hn] at hz'; cases hz'
    | some n =>
      rw [hn] at hz'
      cases hz'
      have hn16 : n < 16 := G.hns n (List.mem_of_getElem? hn)
      have G₃ := G.mono hsub
      obtain ⟨tp, hpl⟩ := C₃.place
      have eZ : ∀ {h' : Heap} {m' cm' : Str → Option Value} (F' : Fm gc (lawEnv nm L fa) h' m' cm') (e : m' "size" = some v) {A : Around} {pos : Pos}, Ev w A (lawEnv nm L fa) h' (.Name "size" pos) (IsI n) := fun F' e => (ev_local F'.loc kZ e).mono fun u hu => hu ▸ hzv
      have ez3 : up m₃ "size" v "size" = some v := rfl
      have hlt : n * 2 ^ p < 2 ^ 32 := by
        have h1 : n * 2 ^ p ≤ 16 * 2 ^ 25 := Nat.mul_le_mul (by omega) (Nat.pow_le_pow_right (by decide) (by have := G.hp; omega))
        exact Nat.lt_of_le_of_lt h1 (by decide)
      refine ex_assign F₃ kT (evk_fn1 (V1 := fun v _ => IsI ((n * 2 ^ p : Nat) : Int) v) ((F₃.g G₃.g).flagsN rfl rfl rfl) (F₃.g G₃.g).flags
        ((Ev.k (ev_mul (eZ F₃ ez3) (ev_pow ev_int ((ev_cell F₃.loc k4 c4 hpl).mono fun u hu => ⟨tp, hu⟩) (by omega) (by have := G.hp; omega) (by decide)) (mul_ok128 (by omega) _))).mono fun v h' _ hv => by
          have e : ((n * 2 ^ p : Nat) : Int) = (n : Int) * 2 ^ ((p : Int)).toNat := by rw [Int.toNat_natCast]; push_cast; rfl
          rw [e]; exact hv)
        (fun v s' hs hv => by obtain ⟨t, rfl⟩ := hv; exact c_flags ((F₃.g G₃.g).mono hs) ⟨room.hand, by have := room.depth; omega, by have := room.units; omega⟩ hlt)) fun v₁ h₄ h₅ k₅ hs₄ hv₁ hsb₅ F₅ => ?_
      have hz5 := PlainList.same (PlainList.sub hz hs₄) (F₃.mono hs₄).loc.ns hsb₅
      rw [flags_told (by omega) G.hp] at hv₁
      have et : ∀ {h' : Heap} {m' cm' : Str → Option Value} (F' : Fm gc (lawEnv nm L fa) h' m' cm') (e : m' "listed" = some v₁) {A : Around} {pos : Pos}, Ev w A (lawEnv nm L fa) h' (.Name "listed" pos) (IsS (toldS (wsOf p) n)) := fun F' e => (ev_local F'.loc kT e).mono fun u hu => hu ▸ hv₁
      have et5 : up (up m₃ "size" v) "listed" v₁ "listed" = some v₁ := rfl
      have ez5 : up (up m₃ "size" v) "listed" v₁ "size" = some v := rfl
      have ml5 : up (up m₃ "size" v) "listed" v₁ "left" = some (.ref DL) := ml
      refine ex_ifF (tst_neS (Ev.k (et F₅ et5)) (fun {h'} hs => evk_fn2 (V1 := fun v => v = .ref W) (V2 := fun v _ => IsI n v) (((F₅.g G₃.g).mono hs).toldN rfl rfl rfl) ((F₅.g G₃.g).mono hs).told (ev_cell (F₅.mono hs).loc k5 c5 C₃.words) (Ev.k (eZ (F₅.mono hs) ez5))
        (fun v1 v2 s' hs' h1 h2 => by subst h1; obtain ⟨t, rfl⟩ := h2; exact c_told (((F₅.g G₃.g).mono hs).mono hs') ⟨room.hand, by have := room.depth; omega, by have := room.units; omega⟩ (((G₃.words.mono F₅.base).mono hs).mono hs') (wsOf_len p) (wsOf_bd G.hp)))) fun h₆ k₆ hs₆ => ?_
      have F₆ := F₅.mono hs₆
      have hl1 := pz.length
      have hl2 := leftAll_len p (ns.take i)
      have hl3 : (ns.take i).length ≤ 5 := by rw [List.length_take, G.len]; omega
      have htl := told_len (p := p) (n := n) (by omega) G.hp
      refine ex_augL (R := fun ws => Paired IsS (leftW p n) ws) F₆ kL ml5 (PlainList.sub hz5 hs₆) (hDb DL (List.mem_singleton.mpr rfl)) ((evk_splitP (et F₆ et5) ev_str (by decide) (by rw [sizeLine_is]; omega)).mono fun v h' _ hv => by rw [← split_told (by omega) G.hp]; exact hv)
        (fun ws hw => by have := hw.length; have := left_len (p := p) (n := n); omega) fun ws h₇ k₇ hw hpl₇ hk₇ F₇ => ?_
      refine ex_nil ⟨_, _, _, _, rfl, F₇, ⟨zs ++ ws, hpl₇, ?_, rfl, C₃⟩, al hpl₇⟩
      rw [take_all hn]
      exact paired_append pz hw
  · rintro h₃ m₃ cm₃ k₃ E' ⟨zs, hz, pz, ml, C₃⟩ hal F₃
    rw [hsz, List.take_length] at pz
    refine ex_nil ?_
    refine ex_assign F₃ kD nil fun v h₄ h₅ k₅ hs₄ hv hsb₅ F₅ => ?_
    obtain ⟨DD, vs, rfl, hDD, hpl2, rfl⟩ := hv
    have hpl2 := PlainList.same hpl2 (F₃.mono hs₄).loc.ns hsb₅
    have hz5 := PlainList.same (PlainList.sub hz hs₄) (F₃.mono hs₄).loc.ns hsb₅
    refine next gb h₅ k₅ _ _ F₅ ⟨rfl, C₃, DL, DD, zs, ml, hz5, pz, rfl, hpl2, ?_, ?_⟩
    · cases e : gb.get? DD with
      | none => rfl
      | some o => exact absurd (F₃.base DD o e) (by rw [hDD]; exact fun q => by cases q)
    · rintro rfl
      obtain ⟨n, e⟩ := hz
      rw [hDD] at e; cases e
end Mine
end PartL1
section PartL2
open PySem PySem.W PyProof.Rows PySem.Calls
set_option maxRecDepth 100000
set_option linter.unusedVariables false
namespace Mine
theorem TabSt.at {h h' : Heap} {qual : Str} {ok : Addr → Prop} (x : TabSt h qual ok) (h65 : ∀ o, h.get? 65 = some o → h'.get? 65 = some o) (hk : ∀ c o, ok c → h.get? c = some o → h'.get? c = some o) : TabSt h' qual ok := by
  rcases x with e | ⟨c', e, r, n, k⟩
  · exact .inl (h65 _ e)
  · exact .inr ⟨c', h65 _ e, codeRec_at r fun o => hk c' o k, n, k⟩
/-- the call of _split_list with the lambda -/
theorem ev_splitLam {w : World} {A : Around} {nm : Str} {L fa : Addr} {gb h : Heap} {m cm : Str → Option Value} {p i : Nat} {ns : List Nat} {S W DL : Addr} {L0 : List Str} {ti : Tok} {ok : Addr → Prop} {p0 p1 pos : Pos}
    (F : Fm gb (lawEnv nm L fa) h m cm) (G : LG w gb p ns S W) (room : Room A 20) (hw : cm "words" = some (.ref W)) (hk : cm "k" = some (.int (i : Int) ti)) (hi : i < 7) (hm : m "left" = some (.ref DL)) (hl : LS h DL L0) (hlen : L0.length ≤ 1000) (h65 : gb.get? 65 = none) (T : TabSt h ((lawEnv nm L fa).qual ++ "<lambda>") ok) (hok : ∀ c', h.get? c' = none → ok c')
    (hL65 : (65 : Addr) ≠ L) (hC65 : (65 : Addr) ∉ (lawEnv nm L fa).cells.map (·.2)) {s : Shared} {E : Value → Shared → Prop} {Q : Value → Shared → Prop} (hs : s.heap = h)
    (hq : ∀ (T D1 D2 : Addr) (k : Nat) (ys zs : List Value) h' tk, (∀ b o, b ≠ 65 → h.get? b = some o → h'.get? b = some o) → h.get? D1 = none → h.get? D2 = none → D1 ≠ D2 → h'.get? T = some { cls := .type "tuple", data := .seq #[.ref D1, .ref D2] k } → h'.PlainList D1 ys.toArray → h'.PlainList D2 zs.toArray →
      Paired IsS (L0.filter fun x => x == wordS (p + (6 - i))) ys → Paired IsS (L0.filter fun x => !(x == wordS (p + (6 - i)))) zs → TabSt h' ((lawEnv nm L fa).qual ++ "<lambda>") ok → Q (.ref T) { s with heap := h', toks := tk }) :
    Wp w A (eval (.Call (.Name "_split_list" p0) [.Name "left" p1, .Lambda lamA lamB lamS lamP] [] pos) (lawEnv nm L fa)) Q E s := by
  subst hs
  have kL : (lawEnv nm L fa).kindOf "left" = some .local := rfl
  have kk : (lawEnv nm L fa).kindOf "k" = some .cell := rfl
  have ck : (lawEnv nm L fa).cells.lookup ("k" : Str) = some (L + 1 + 1) := rfl
  have k5 : (lawEnv nm L fa).kindOf "words" = some .cell := rfl
  have c5 : (lawEnv nm L fa).cells.lookup ("words" : Str) = some (L + 1 + 1 + 1 + 1 + 1) := rfl
  have hse : backTo pos (starEach [.Name "left" p1, .Lambda lamA lamB lamS lamP] (lawEnv nm L fa)) = [(false, eval (.Name "left" p1) (lawEnv nm L fa)), (false, eval (.Lambda lamA lamB lamS lamP) (lawEnv nm L fa))] := rfl
  obtain ⟨o, nm', q, doc, pm, an, cdv, ct, q1, q2, q3⟩ := G.g.splitList.ex
  refine ⟨wpAny_Call_NameR (Wp.run ((F.g G.g).splitN rfl rfl rfl s E _ rfl fun f k hf => ?_))⟩
  subst hf
  rw [hse]
  refine callWith_function (o := o) (fd := fnOf nm' q (paramsOf 2) (bodyOf 2) (scopeOf 2) .none .none doc pm an cdv ct) (evalArgs_plain (spliced_cons (Wp.run ((ev_local F.loc kL hm) _ E _ rfl fun v k₁ hv => spliced_cons ?_))))
  subst hv
  refine lam_eval (s := { s with toks := k₁ }) (clos := [("words", L + 1 + 1 + 1 + 1 + 1), ("k", L + 1 + 1)]) (G.lam.mono F.base) T rfl rfl rfl rfl rfl hok fun f h₂ k₂ c' pm' ctv hk₂ hf hfo hrec T₂ => spliced_nil ?_
  have fromGb : Sub gb h₂ := fun b o e => hk₂ b o (fun q => by rw [q, h65] at e; cases e) (F.base b o e)
  have alive65 : ∃ o, h₂.get? 65 = some o := by rcases T₂ with e | ⟨_, e, _⟩ <;> exact ⟨_, e⟩
  refine ⟨⟨fromGb _ _ q1, q2⟩, ?_⟩
  have cellAt : ∀ {x : Str} {c : Addr} {v : Value}, (lawEnv nm L fa).cells.lookup x = some c → cm x = some v → h₂.IsCell c (some v) := fun hc hv => by
    obtain ⟨o, e, d⟩ := F.loc.cells _ _ hc
    exact ⟨o, hk₂ _ _ (fun q => hC65 (q ▸ List.mem_map.mpr ⟨_, mem_of_lookup hc, rfl⟩)) e, by rw [d, hv]⟩
  have hl₂ : LS h₂ DL L0 := by
    refine hl.at fun o e => hk₂ DL o (fun q => ?_) e
    obtain ⟨ys, ⟨o', e', hc', n', hd'⟩, _⟩ := hl
    rw [q] at e'
    rcases T with t | ⟨_, t, _⟩ <;> (have t' : s.heap.get? 65 = _ := t; rw [t'] at e'; cases e'; cases hc')
  refine Wp.run (c_split (w := w) (A := A) (s := { s with heap := h₂, toks := k₂ }) (fun x => x == wordS (p + (6 - i))) (G.g.mono fromGb) ⟨room.hand, by have := room.depth; omega, by have := room.units; omega⟩ hl₂ hfo rfl hlen (fun A' s' v x room' hs' hx hmem => ?_) E Q fun v h₃ k₃ hs₃ hv => ?_)
  · refine c_lam (W := W) (ws := wsOf p) (i := (i : Int)) (ti := ti) ((G.g.lim.keeps fromGb).keeps hs') (by have := room'.depth; omega) (hs' _ _ hfo) (hrec.keeps hs') hx ((cellAt c5 hw).keeps hs') ((cellAt ck hk).keeps hs') ((G.words.mono fromGb).mono hs') (by omega) (by omega) ?_
    rw [show ((6 : Int) - (i : Int)).toNat = 6 - i by omega]
    exact wsOf_get (by omega)
  · obtain ⟨Tt, D1, D2, kk', ys, zs, rfl, hT, hD1, hD2, hne, hTg, hp1, hp2, py, pz⟩ := hv
    have fr : ∀ D, h₂.get? D = none → s.heap.get? D = none := fun D hD => by
      cases e : s.heap.get? D with
      | none => rfl
      | some o =>
        by_cases q : D = 65
        · obtain ⟨o', e'⟩ := alive65; rw [q, e'] at hD; cases hD
        · rw [hk₂ D o q e] at hD; cases hD
    exact hq Tt D1 D2 kk' ys zs h₃ k₃ (fun b o hb e => hs₃ b o (hk₂ b o hb e)) (fr D1 hD1) (fr D2 hD2) hne hTg hp1 hp2 py pz (T₂.at (fun o e => hs₃ _ o e) fun c o _ e => hs₃ _ o e)
theorem Fm.change {env : Env} {gb h h' : Heap} {m m' cm : Str → Option Value} {X : Addr} (F : Fm gb env h m cm) (hn : h'.Ns env.locals m') (hk : ∀ b o, b ≠ env.locals → b ≠ X → h.get? b = some o → h'.get? b = some o) (hX : gb.get? X = none) (hC : X ∉ env.cells.map (·.2)) : Fm gb env h' m' cm :=
  ⟨⟨F.loc.kind, hn, fun n c e => by
      have hc := F.loc.cells n c e
      obtain ⟨o, ho, hd⟩ := id hc
      exact ⟨o, hk c o (Ns.ne_cell F.loc.ns hc) (fun q => hC (q ▸ List.mem_map.mpr ⟨_, mem_of_lookup e, rfl⟩)) ho, hd⟩⟩,
    fun b o e => hk b o (fun q => by rw [q, F.off] at e; cases e) (fun q => by rw [q, hX] at e; cases e) (F.base b o e), F.off, F.coff, F.apart, F.look⟩

theorem segC {w : World} {A : Around} {s : Shared} {E : Value → Shared → Prop} {Q : Flow → Shared → Prop} {gb : Heap} {L fa : Addr} {nm : Str} {m cm : Str → Option Value} {p : Nat} {ns : List Nat} {S W DL DD : Addr} {zs : List Value}
    (F : Fm gb (lawEnv nm L fa) s.heap m cm) (G : LG w gb p ns S W) (C : LC cm p S W) (room : Room A 20) (h65 : gb.get? 65 = none) (t65 : s.heap.get? 65 = some (tabObj #[])) (hL65 : (65 : Addr) ≠ L) (hC65 : (65 : Addr) ∉ (lawEnv nm L fa).cells.map (·.2))
    (ml : m "left" = some (.ref DL)) (hpl : s.heap.PlainList DL (List.toArray zs)) (pz : Paired IsS (leftAll p ns) zs) (md : m "laid" = some (.ref DD)) (hpd : s.heap.PlainList DD #[]) (gd : gb.get? DD = none) (hne : DL ≠ DD)
    (next : Next w A E Q (lawEnv nm L fa) ((bodyOf 12).drop 8) s fun gb' h' m' cm' => gb' = gb ∧ LC cm' p S W ∧ (∃ ps, h'.get? 65 = some (tabObj ps)) ∧ ∃ DL us vs, m' "left" = some (.ref DL) ∧ h'.IsList DL (List.toArray us) ∧ Paired IsS (remL p 7 (leftAll p ns)) us ∧ m' "laid" = some (.ref DD) ∧ h'.PlainList DD (List.toArray vs) ∧ Paired IsS (laidL p 7 (leftAll p ns)) vs) :
    Wp w A (execs ((bodyOf 12).drop 7) (lawEnv nm L fa)) Q E s := by
  have hh : A.handled = none := room.hand
  have kL : (lawEnv nm L fa).kindOf "left" = some .local := rfl
  have kF : (lawEnv nm L fa).kindOf "found" = some .local := rfl
  have kD : (lawEnv nm L fa).kindOf "laid" = some .local := rfl
  have kk : (lawEnv nm L fa).kindOf "k" = some .cell := rfl
  have ck : (lawEnv nm L fa).cells.lookup ("k" : Str) = some (L + 1 + 1) := rfl
  have kR : (lawEnv nm L fa).kindOf "range" = some .globalImplicit := rfl
  have hlen : (leftAll p ns).length ≤ 35 := by have := leftAll_len p ns; rw [G.len] at this; exact this
  have ne65 : ∀ {h : Heap} {D : Addr} {ys : Array Value} {o : Obj}, h.IsList D ys → h.get? 65 = some o → o.cls = .none → D ≠ 65 := fun hl ho hc q => by
    obtain ⟨o', e', hc', _⟩ := hl
    rw [q, ho] at e'; cases e'; rw [hc] at hc'; cases hc'
  have tab65 : ∀ {h : Heap} {q : Str} {ok : Addr → Prop}, TabSt h q ok → ∃ ps, h.get? 65 = some (tabObj ps) := fun T => by rcases T with e | ⟨_, e, _⟩ <;> exact ⟨_, e⟩
  have al : ∀ {h : Heap} {ys : Array Value}, h.PlainList DD ys → (∃ ps, h.get? 65 = some (tabObj ps)) → ∀ d ∈ [DD, (65 : Addr)], ∃ o, h.get? d = some o := fun hp ⟨ps, h6⟩ d hd => by
    rcases List.mem_cons.mp hd with rfl | hd
    · obtain ⟨n, e⟩ := hp; exact ⟨_, e⟩
    · rw [List.mem_singleton.mp hd]; exact ⟨_, h6⟩
  have offD := F.listOff hpd
  have dne : DD ≠ 65 := ne65 hpd.isList t65 rfl
  refine for_core2 (n := 7) (D := [DD, 65]) (fun m _ => m) (fun cm v => up cm "k" v)
    (fun g' v s' m₁ cm₁ E' Q' F' hq => wpAny_assign_Name (wpAny_storeName_cell F'.loc.kind kk ck (F'.loc.cells _ _ ck) (fun h₂ hn₂ hs₂ => hq h₂ _ _ (F'.setCell ck hn₂ hs₂) hs₂ (.inr (List.mem_map.mpr ⟨_, mem_of_lookup ck, rfl⟩)))))
    F (fun d hd => by rcases List.mem_cons.mp hd with rfl | hd; exact gd; rw [List.mem_singleton.mp hd]; exact h65) (al hpd ⟨_, t65⟩)
    (fun d hd => by rcases List.mem_cons.mp hd with rfl | hd; exact offD; rw [List.mem_singleton.mp hd]; exact ⟨hL65, hC65⟩)
    (srcL_range1 (N := 7) hh ((F.g G.g).range rfl rfl rfl kR) ev_int (by decide)) (fun b hb => by cases hb)
    (fun X i h m cm => ∃ DL us vs, m "left" = some (.ref DL) ∧ h.IsList DL (List.toArray us) ∧ Paired IsS (remL p i (leftAll p ns)) us ∧ DL ∉ X ∧ DL ≠ DD ∧ m "laid" = some (.ref DD) ∧ h.PlainList DD (List.toArray vs) ∧ Paired IsS (laidL p i (leftAll p ns)) vs ∧ LC cm p S W ∧
      TabSt h ((lawEnv nm L fa).qual ++ "<lambda>") (fun c => c ∉ X ∧ c ≠ DD ∧ c ≠ L) ∧ (65 : Addr) ∉ X ∧ DD ∉ X)
    (fun X hX hX2 => ⟨DL, zs, [], ml, hpl.isList, pz, by obtain ⟨n, e⟩ := id hpl; exact hX2 DL _ e (F.listOff hpl).1 (F.listOff hpl).2, hne, md, hpd, .nil, C, .inl t65, hX 65 (by simp), hX DD (by simp)⟩)
    (fun X i h h' m cm ⟨DL, us, vs, a1, a2, a3, a4, a5, a6, a7, a8, a9, a10, a11, a12⟩ hk => ⟨DL, us, vs, a1, a2.at fun o e => hk _ o a4 e, a3, a4, a5, a6, a7.at fun o e => hk _ o a12 e, a8, a9, a10.at (fun o e => hk _ o a11 e) (fun c o hc e => hk c o hc.1 e), a11, a12⟩)
    ?_ ?_ (fun _ => rfl) (fun _ _ => rfl)
  · rintro gc X i v h₁ m₁ cm₁ k₁ E' hsub hDb hi ⟨ti, rfl⟩ ⟨DL', us, vs, ml₁, hl₁, pl₁, dX, dD, md₁, hd₁, pd₁, C₁, T₁, X65, XD⟩ hal hXa hgb F₁
    have C₁' : LC (up cm₁ "k" (.int (i : Int) ti)) p S W := ⟨C₁.sizes, C₁.words, C₁.place⟩
    have g65 : gc.get? 65 = none := hDb 65 (by simp)
    have gDD : gc.get? DD = none := hDb DD (by simp)
    have lr := rem_len p (leftAll p ns) i
    refine ex_seq (Assign_Tuple (Wp.run (ev_splitLam F₁ (G.mono hsub) room C₁'.words rfl hi ml₁ ⟨us, hl₁, pl₁⟩ (by omega) g65 T₁ (fun c hc => ⟨(fun q => by obtain ⟨o, e⟩ := hXa c q; rw [hc] at e; cases e), (fun q => by obtain ⟨n, e⟩ := hd₁; rw [q, e] at hc; cases hc), (fun q => by obtain ⟨o, _, _, e, _⟩ := id F₁.loc.ns; have e' : h₁.get? L = some o := e; rw [q, e'] at hc; cases hc)⟩) hL65 hC65 rfl
      fun Tt D1 D2 kq ys₁ zs₁ h₂ k₂ hk₂ f1 f2 fne hT hp1 hp2 py pz' T₂ => ?_)))
    have hn₂ : h₂.Ns (lawEnv nm L fa).locals m₁ := F₁.loc.ns.at' fun o e => hk₂ _ o (Ne.symm hL65) e
    refine kcp_assign (s := { s with heap := h₂, toks := k₂ }) (env := lawEnv nm L fa) hh (IsTuple_of hT) kF kL (by rw [F₁.loc.kind]; rfl) hn₂ fun h₃ k₃ hn₃ hk₃ => ?_
    have F₃ : Fm gc (lawEnv nm L fa) h₃ _ _ := F₁.change (X := 65) hn₃ (fun b o h1 h2 e => hk₃ b o h1 (hk₂ b o h2 e)) g65 hC65
    have neL : ∀ {D : Addr} {ys : Array Value}, h₂.PlainList D ys → D ≠ (lawEnv nm L fa).locals := fun hp => Ns.ne_list hn₂ hp.isList
    have hp1₃ : h₃.PlainList D1 ys₁.toArray := hp1.at fun o e => hk₃ _ o (neL hp1) e
    have hp2₃ : h₃.PlainList D2 zs₁.toArray := hp2.at fun o e => hk₃ _ o (neL hp2) e
    have hd₂ : h₂.PlainList DD vs.toArray := hd₁.at fun o e => hk₂ _ o dne e
    have hd₃ : h₃.PlainList DD vs.toArray := hd₂.at fun o e => hk₃ _ o (neL hd₂) e
    have T₃ : TabSt h₃ ((lawEnv nm L fa).qual ++ "<lambda>") (fun c => c ∉ X ∧ c ≠ DD ∧ c ≠ L) := T₂.at (fun o e => hk₃ _ o hL65 e) fun c o hc e => hk₃ c o hc.2.2 e
    have dead : ∀ {D : Addr} {ys : Array Value}, h₁.PlainList D ys → h₁.get? D ≠ none := fun hp q => by obtain ⟨n, e⟩ := hp; rw [q] at e; cases e
    have D2D : D2 ≠ DD := fun q => dead hd₁ (q ▸ f2)
    have D1D : D1 ≠ DD := fun q => dead hd₁ (q ▸ f1)
    have ll := laid_len p (leftAll p ns) i
    have lle : (laidL p i (leftAll p ns)).length ≤ 7 * 35 := Nat.le_trans ll (Nat.mul_le_mul (by omega) hlen)
    have lf : ((remL p i (leftAll p ns)).filter fun x => x == wordS (p + (6 - i))).length ≤ 35 := Nat.le_trans (List.length_filter_le _ _) (by omega)
    have pl1 := pd₁.length
    have pl2 := py.length
    refine ex_augL (R := fun ws => ws = ys₁) F₃ kD (show (if ("laid" : Str) = "left" then some (Value.ref D2) else if ("laid" : Str) = "found" then some (.ref D1) else m₁ "laid") = some (.ref DD) from md₁) hd₃ gDD
      ((Ev.k (ev_local F₃.loc kF (show (if ("found" : Str) = "left" then some (Value.ref D2) else if ("found" : Str) = "found" then some (.ref D1) else m₁ "found") = some (.ref D1) from rfl))).mono fun v h' hs hv => ⟨D1, ys₁, hv, PlainList.sub hp1₃ hs, rfl⟩) (fun ws hw => by subst hw; omega) fun ws h₄ k₄ hw hpl₄ hk₄ F₄ => ?_
    subst hw
    have n65 : ∀ {D : Addr} {ys : Array Value}, h₃.PlainList D ys → D ≠ 65 := fun hp => by
      obtain ⟨ps, e⟩ := tab65 T₃
      exact ne65 hp.isList e rfl
    refine ex_nil ⟨_, _, _, _, rfl, F₄, ⟨D2, zs₁, vs ++ ws, rfl, (hp2₃.at fun o e => hk₄ _ o D2D (Ns.ne_list F₃.loc.ns hp2₃.isList) e).isList, pz', (fun q => by obtain ⟨o, e⟩ := hXa D2 q; rw [f2] at e; cases e), D2D, rfl, hpl₄, ?_, C₁',
      T₃.at (fun o e => hk₄ _ o (Ne.symm dne) hL65 e) (fun c o hc e => hk₄ c o hc.2.1 hc.2.2 e), X65, XD⟩, al hpl₄ ?_⟩
    · exact paired_append pd₁ py
    · obtain ⟨ps, e⟩ := tab65 T₃
      exact ⟨ps, hk₄ _ _ (Ne.symm dne) hL65 e⟩
  · rintro X h₁ m₁ cm₁ k₁ E' ⟨DL', us, vs, ml₁, hl₁, pl₁, dX, dD, md₁, hd₁, pd₁, C₁, T₁, X65, XD⟩ hal F₁
    exact ex_nil (next gb h₁ k₁ m₁ cm₁ F₁ ⟨rfl, C₁, tab65 T₁, DL', us, vs, ml₁, hl₁, pl₁, md₁, hd₁, pd₁⟩)
end Mine
end PartL2
section PartL3
open PySem PySem.W PyProof.Rows PySem.Calls
set_option maxRecDepth 100000
set_option linter.unusedVariables false
namespace Mine
theorem count_cast : ∀ ns : List Nat, (ns.map fun n => ((n : Nat) : Int)).count 0 = ns.count 0
  | [] => rfl
  | n :: ns => by
    rw [List.map_cons, List.count_cons, List.count_cons, count_cast ns]
    by_cases h : n = 0
    · subst h; rfl
    · have h1 : (((n : Nat) : Int) == 0) = false := by simp [h]
      have h2 : (n == 0) = false := by simp [h]
      rw [h1, h2]
theorem laid_word {p : Nat} (hp : p < 26) {ns : List Nat} (h : ∀ n ∈ ns, n < 128) : ∀ x ∈ laidL p 7 (leftAll p ns), x.length ≤ 100 := fun x hx => by
  rw [laid_is hp h] at hx
  obtain ⟨k, hk, rfl⟩ := List.mem_map.mp hx
  have := dn_le _ k hk
  have := (words32 ⟨p + k, by omega⟩).2.2.2.2.1
  simp only at this
  omega
/-- what the base holds of the code table -/
def Tb (gb : Heap) : Prop := ∃ ps, gb.get? 65 = some (tabObj ps)
theorem toGrow {env : Env} {gb h : Heap} {m cm : Str → Option Value} (F : Fm gb env h m cm) {b : Addr} {o : Obj} (h1 : b ≠ env.locals) (h2 : b ∉ env.cells.map (·.2)) (e : h.get? b = some o) : (hideAll h (env.locals :: (env.cells.map (·.2) ++ []))).get? b = some o := hideAll_get _ e fun hm => by
  rcases List.mem_cons.mp hm with q | hm
  · exact h1 q
  · rw [List.append_nil] at hm; exact h2 hm
theorem growLS {env : Env} {gb h : Heap} {m cm : Str → Option Value} (F : Fm gb env h m cm) {D : Addr} {xs : List Str} (x : LS h D xs) : LS (hideAll h (env.locals :: (env.cells.map (·.2) ++ []))) D xs := by
  obtain ⟨ys, hl, hp⟩ := x
  refine ⟨ys, hl.at fun o e => toGrow F (Ns.ne_list F.loc.ns hl) (fun hm => ?_) e, hp⟩
  obtain ⟨q, hq, e'⟩ := List.mem_map.mp hm
  exact Cell.ne_list (F.loc.cells _ _ (F.look q hq)) hl e'.symm
theorem growLI {env : Env} {gb h : Heap} {m cm : Str → Option Value} (F : Fm gb env h m cm) {D : Addr} {xs : List Int} (x : LI h D xs) : LI (hideAll h (env.locals :: (env.cells.map (·.2) ++ []))) D xs := by
  obtain ⟨ys, hl, hp⟩ := x
  refine ⟨ys, hl.at fun o e => toGrow F (Ns.ne_list F.loc.ns hl) (fun hm => ?_) e, hp⟩
  obtain ⟨q, hq, e'⟩ := List.mem_map.mp hm
  exact Cell.ne_list (F.loc.cells _ _ (F.look q hq)) hl e'.symm

theorem segD {w : World} {A : Around} {s : Shared} {E : Value → Shared → Prop} {Q : Flow → Shared → Prop} {gb : Heap} {L fa : Addr} {nm : Str} {m cm : Str → Option Value} {p : Nat} {ns : List Nat} {S W DL DD : Addr} {us vs : List Value}
    (F : Fm gb (lawEnv nm L fa) s.heap m cm) (G : LG w gb p ns S W) (C : LC cm p S W) (room : Room A 20) (t65 : Tb s.heap) (hL65 : (65 : Addr) ≠ L) (hC65 : (65 : Addr) ∉ (lawEnv nm L fa).cells.map (·.2))
    (ml : m "left" = some (.ref DL)) (hpl : s.heap.IsList DL (List.toArray us)) (pz : Paired IsS (remL p 7 (leftAll p ns)) us) (md : m "laid" = some (.ref DD)) (hpd : s.heap.PlainList DD (List.toArray vs)) (pd : Paired IsS (laidL p 7 (leftAll p ns)) vs)
    (next : Next w A E Q (lawEnv nm L fa) ((bodyOf 12).drop 10) s fun gb' h' m' cm' => Sub gb gb' ∧ Tb gb' ∧ LC cm' p S W ∧ ∃ v, m' "line" = some v ∧ IsS (tx p (cnt ns)) v) :
    Wp w A (execs ((bodyOf 12).drop 8) (lawEnv nm L fa)) Q E s := by
  have hh : A.handled = none := room.hand
  have kL : (lawEnv nm L fa).kindOf "left" = some .local := rfl
  have kD : (lawEnv nm L fa).kindOf "laid" = some .local := rfl
  have kN : (lawEnv nm L fa).kindOf "line" = some .local := rfl
  have k3 : (lawEnv nm L fa).kindOf "sizes" = some .cell := rfl
  have c3 : (lawEnv nm L fa).cells.lookup ("sizes" : Str) = some (L + 1 + 1 + 1) := rfl
  obtain ⟨sv, hSp, hSi⟩ := G.sizes
  have hn128 : ∀ n ∈ ns, n < 128 := fun n hn => by have := G.hns n hn; omega
  have hcl : ns.count 0 ≤ 5 := by have := List.count_le_length (a := 0) (l := ns); rw [G.len] at this; exact this
  rw [rem_all G.hp ns] at pz
  refine ex_ifF (tst_neL (xs := List.replicate (ns.count 0) ("0x0" : Str)) ((Ev.k (ev_local F.loc kL ml)).mono fun v h' hs hv => ⟨DL, us, hv, hpl.at fun o e => hs _ o e, pz⟩)
    (fun {h'} hs => EvK.mono (evk_mulL (c := ("0x0" : Str)) (x := (((ns.map fun n => ((n : Nat) : Int)).count 0 : Nat) : Int)) (evk_list (evs_consP ev_str evs_nilP) (fun vs hv => by rw [← hv.length, sizeLine_is]; decide)) (fun {h''} hs' => evk_count (ev_cell (F.mono (hs.trans hs')).loc k3 c3 C.sizes) (k := 0) ⟨sv, ((hSp.isList.at fun o e => F.base _ o e).at fun o e => hs _ o e).at fun o e => hs' _ o e, hSi⟩ ⟨sv.toArray, ((hSp.at fun o e => F.base _ o e).at fun o e => hs _ o e).at fun o e => hs' _ o e⟩ ev_int) (by omega) (by rw [count_cast]; omega)) fun v h'' _ hv => by
      rw [count_cast, Int.toNat_natCast] at hv
      exact hv) (by have := room.units; omega) (fun x hx => by rw [(List.mem_replicate.mp hx).2]; decide +kernel)) fun h₁ k₁ hs₁ => ?_
  have F₁ := F.mono hs₁
  have hpd₁ := PlainList.sub hpd hs₁
  have hll : (leftAll p ns).length ≤ 35 := by have := leftAll_len p ns; rw [G.len] at this; exact this
  have hlen : (laidL p 7 (leftAll p ns)).length ≤ 245 := Nat.le_trans (laid_len p (leftAll p ns) 7) (by omega)
  have hsz : vs.toArray.size = (laidL p 7 (leftAll p ns)).length := by simp [← pd.length]
  have hw := laid_word G.hp hn128
  refine ex_assign F₁ kN (evk_join ev_str (EvK.mono (comp_map0 (K := IsS) (R := IsS) (cl := []) tok (laidL p 7 (leftAll p ns)) isS_inj (hsz ▸ src_list hh (ev_local F₁.loc kD md) hpd₁.isList) (fun i v a hv ha => by
      obtain ⟨b, hb, hF⟩ := paired_get pd i a ha
      have : vs[i]? = some v := by simpa using hv
      rw [this] at hb; cases hb; exact hF) (by rw [sizeLine_is]; omega) rfl (by decide) rfl (by decide) rfl (fun C' x v h₃ m₃ hx3 hv hns hm hsub => ?_))
      fun v h' hs hV => by obtain ⟨D, ys, e, hD, hpl, hp⟩ := hV; exact ⟨D, e, LS.of hpl hp⟩) (joinOk_of (B := 102) (N := 245) (fun x hx => ?_) (by rw [List.length_map]; exact hlen) (by decide))) fun v h₂ h₃ k₃ hs₂ hv hsb₃ F₃ => ?_
  · have L3 := compLoc (scope := (match (bodyOf 12).drop 9 with | .Assign _ (.Call _ (.ListComp _ _ sc _ :: _) _ _) _ :: _ => sc | _ => scopeOf 12)) (C := C') (cl := []) F₁.loc (fun n c e => nomatch e) rfl hns hsub
    have hx := hw x hx3
    exact Ev.k (ev_adds (ev_adds ev_str ((ev_local L3 rfl hm).mono fun u hu => hu ▸ hv) (by rw [show ("[" : Str).length = 1 by decide, sizeLine_is]; omega)) ev_str (by rw [Str.length_append, show ("[" : Str).length = 1 by decide, show ("]" : Str).length = 1 by decide, sizeLine_is]; omega))
  · obtain ⟨y, hy, rfl⟩ := List.mem_map.mp hx
    rw [tok_len]
    have := hw y hy
    omega
  rw [laid_line G.hp hn128] at hv
  have GW := F₃.grow []
  obtain ⟨ps, e65⟩ := t65
  have e3 : h₃.get? 65 = some (tabObj ps) := hsb₃.extBut _ _ hL65 (hs₂ _ _ (hs₁ _ _ e65))
  exact next _ h₃ k₃ _ _ GW.1 ⟨GW.2 (fun d hd => nomatch hd), ⟨ps, toGrow F₃ hL65 hC65 e3⟩, C, v, rfl, hv⟩
end Mine
end PartL3
section PartL4
open PySem PySem.W PyProof.Rows PySem.Calls
set_option maxRecDepth 100000
set_option linter.unusedVariables false
namespace Mine
section
variable {w : World} {A : Around} {env : Env} {gh h h' : Heap} {m cm : Str → Option Value}
theorem Fm.lsOff {D : Addr} {xs : List Str} (F : Fm gh env h m cm) (hl : LS h D xs) : D ≠ env.locals ∧ D ∉ env.cells.map (·.2) := by
  obtain ⟨ys, hl, _⟩ := hl
  refine ⟨Ns.ne_list F.loc.ns hl, fun hm => ?_⟩
  obtain ⟨p, hp, rfl⟩ := List.mem_map.mp hm
  exact Cell.ne_list (F.loc.cells _ _ (F.look p hp)) hl rfl
theorem LS.alive {D : Addr} {xs : List Str} (hl : LS h D xs) : ∃ o, h.get? D = some o := let ⟨_, ⟨o, e, _⟩, _⟩ := hl; ⟨o, e⟩
theorem evk_nameL {x : Str} {pos : Pos} {D : Addr} {xs : List Str} (F : Fm gh env h m cm) (hl : env.kindOf x = some .local) (hx : m x = some (.ref D)) (hd : LS h D xs) (hb : (x == ("__debug__" : Str)) = false := by decide) : EvK w A env h (.Name x pos) (IsL IsS xs) :=
  (Ev.k (ev_local F.loc hl hx hb)).mono fun v h' hs hv => let ⟨ys, a, b⟩ := hd.mono hs; ⟨D, ys, hv, a, b⟩
theorem evk_pairL {pos : Pos} {e1 e2 : Expr} {x y : Str} (h1 : Ev w A env h e1 (IsS x)) (h2 : Ev w A env h e2 (IsS y)) (hs1 : starEach [e1, e2] env = (false, eval e1 env) :: starEach [e2] env := by rfl) (hs2 : starEach [e2] env = (false, eval e2 env) :: starEach [] env := by rfl) :
    EvK w A env h (.List [e1, e2] pos) (IsL IsS [x, y]) :=
  (evk_list (evs_pair h1 h2 hs1 hs2) (fun vs hv => by rw [← hv.length, sizeLine_is]; show 2 ≤ _; decide)).mono fun v h' _ ⟨a, vs, e, _, hl, hp⟩ => ⟨a, vs, e, hl.isList, hp⟩
theorem alive_step {X : List Addr} {h₁ h₂ : Heap} {L : Addr} {m' : Str → Option Value} (ha : ∀ b ∈ X, ∃ o, h.get? b = some o) (hs : Sub h h₁) (hsb : Heap.SameBut L h₁ h₂) (hn : h₂.Ns L m') : ∀ b ∈ X, ∃ o, h₂.get? b = some o := fun b hb => by
  obtain ⟨o, e⟩ := ha b hb
  by_cases q : b = L
  · obtain ⟨o', _, _, e', _⟩ := hn; exact ⟨o', q ▸ e'⟩
  · exact ⟨o, hsb.extBut b o q (hs b o e)⟩
end
theorem rising_len (p : Nat) : ∀ k, (risingL p k).length = 2 * k
  | 0 => rfl
  | k + 1 => by rw [risingL, List.length_append, rising_len p k]; simp; omega
theorem falling_len (p : Nat) : ∀ k, (fallingL p k).length = 2 * k
  | 0 => rfl
  | k + 1 => by rw [fallingL, List.length_cons, List.length_cons, falling_len p k]; omega
theorem turned_len (p : Nat) : ∀ k, (turnedL p k).length = 2 * k
  | 0 => rfl
  | k + 1 => by rw [turnedL, List.length_cons, List.length_cons, turned_len p k]; omega
theorem len_open : ("[" : Str).length = 1 := by decide
theorem len_close : ("]" : Str).length = 1 := by decide
theorem len_mid : ("][" : Str).length = 2 := by decide
theorem word_len {q : Nat} (h : q < 32) : (wordS q).length ≤ 20 := (words32 ⟨q, h⟩).2.2.2.2.1
/-- '[' + e + '][' + e + ']' -/
theorem ev_twice {w : World} {A : Around} {env : Env} {h : Heap} {e1 e2 : Expr} {x : Str} {k0 k1 k2 : Nat} {p0 p1 p2 p3 p4 p5 p6 : Pos} (hx : x.length ≤ 20) (he1 : Ev w A env h e1 (IsS x)) (he2 : Ev w A env h e2 (IsS x)) :
    Ev w A env h (.BinOp (.BinOp (.BinOp (.BinOp (.Constant (.str "[") k0 p0) .Add e1 p1) .Add (.Constant (.str "][") k1 p2) p3) .Add e2 p4) .Add (.Constant (.str "]") k2 p5) p6) (IsS (twiceS x)) :=
  ev_adds (ev_adds (ev_adds (ev_adds ev_str he1 (by rw [sizeLine_is, len_open]; omega)) ev_str (by rw [sizeLine_is, Str.length_append, len_open, len_mid]; omega)) he2 (by rw [sizeLine_is, Str.length_append, Str.length_append, len_open, len_mid]; omega)) ev_str
    (by rw [sizeLine_is, Str.length_append, Str.length_append, Str.length_append, len_open, len_mid, len_close]; omega)
/-- '[' + e + ']' -/
theorem ev_tok {w : World} {A : Around} {env : Env} {h : Heap} {e1 : Expr} {x : Str} {k0 k2 : Nat} {p0 p1 p5 p6 : Pos} (hx : x.length ≤ 20) (he1 : Ev w A env h e1 (IsS x)) :
    Ev w A env h (.BinOp (.BinOp (.Constant (.str "[") k0 p0) .Add e1 p1) .Add (.Constant (.str "]") k2 p5) p6) (IsS (tok x)) :=
  ev_adds (ev_adds ev_str he1 (by rw [sizeLine_is, len_open]; omega)) ev_str (by rw [sizeLine_is, Str.length_append, len_open, len_close]; omega)

theorem segE {w : World} {A : Around} {s : Shared} {E : Value → Shared → Prop} {Q : Flow → Shared → Prop} {gb : Heap} {L fa : Addr} {nm : Str} {m cm : Str → Option Value} {p : Nat} {ns : List Nat} {S W : Addr} {vl : Value}
    (F : Fm gb (lawEnv nm L fa) s.heap m cm) (G : LG w gb p ns S W) (C : LC cm p S W) (room : Room A 20) (ml : m "line" = some vl)
    (next : Next w A E Q (lawEnv nm L fa) ((bodyOf 12).drop 14) s fun gb' h' m' cm' => Sub gb gb' ∧ LC cm' p S W ∧ m' "line" = some vl ∧ ∃ R Fa Tu, m' "rising" = some (.ref R) ∧ LS gb' R (risingL p 6) ∧ m' "falling" = some (.ref Fa) ∧ LS gb' Fa (fallingL p 6) ∧ m' "turned" = some (.ref Tu) ∧ LS gb' Tu (turnedL p 6)) :
    Wp w A (execs ((bodyOf 12).drop 10) (lawEnv nm L fa)) Q E s := by
  have hh : A.handled = none := room.hand
  have kRi : (lawEnv nm L fa).kindOf "rising" = some .local := rfl
  have kFa : (lawEnv nm L fa).kindOf "falling" = some .local := rfl
  have kTu : (lawEnv nm L fa).kindOf "turned" = some .local := rfl
  have kTw : (lawEnv nm L fa).kindOf "twice" = some .local := rfl
  have kAb : (lawEnv nm L fa).kindOf "above" = some .local := rfl
  have kk : (lawEnv nm L fa).kindOf "k" = some .cell := rfl
  have ck : (lawEnv nm L fa).cells.lookup ("k" : Str) = some (L + 1 + 1) := rfl
  have k5 : (lawEnv nm L fa).kindOf "words" = some .cell := rfl
  have c5 : (lawEnv nm L fa).cells.lookup ("words" : Str) = some (L + 1 + 1 + 1 + 1 + 1) := rfl
  have kR : (lawEnv nm L fa).kindOf "range" = some .globalImplicit := rfl
  have nil : ∀ {h : Heap} {pos : Pos}, EvK w A (lawEnv nm L fa) h (.List [] pos) (fun v h' => ∃ a, v = .ref a ∧ LS h' a []) := (evk_list (R := fun vs => vs = []) (fun s E Q hs hq => ⟨wpAny_items_nil (hq [] s.toks rfl)⟩) (fun vs hv => by rw [hv]; exact Nat.zero_le _)).mono fun v h' _ ⟨a, vs, e, _, hl, hv⟩ => ⟨a, e, vs, hl.isList, by rw [hv]; exact .nil⟩
  refine ex_assign F kRi nil fun v h₁ h₂ k₂ hs₁ hv hsb F₂ => ?_
  obtain ⟨R, rfl, lR⟩ := hv
  have lR := lR.same (F.mono hs₁).loc.ns hsb
  refine ex_assign F₂ kFa nil fun v h₃ h₄ k₄ hs₃ hv hsb₄ F₄ => ?_
  obtain ⟨Fa, rfl, lF⟩ := hv
  have lR := (lR.mono hs₃).same (F₂.mono hs₃).loc.ns hsb₄
  have lF := lF.same (F₂.mono hs₃).loc.ns hsb₄
  refine ex_assign F₄ kTu nil fun v h₅ h₆ k₆ hs₅ hv hsb₆ F₆ => ?_
  obtain ⟨Tu, rfl, lT⟩ := hv
  have lR := (lR.mono hs₅).same (F₄.mono hs₅).loc.ns hsb₆
  have lF := (lF.mono hs₅).same (F₄.mono hs₅).loc.ns hsb₆
  have lT := lT.same (F₄.mono hs₅).loc.ns hsb₆
  refine for_core2 (n := 6) (D := []) (fun m _ => m) (fun cm v => up cm "k" v)
    (fun g' v s' m₁ cm₁ E' Q' F' hq => wpAny_assign_Name (wpAny_storeName_cell F'.loc.kind kk ck (F'.loc.cells _ _ ck) (fun h₂ hn₂ hs₂ => hq h₂ _ _ (F'.setCell ck hn₂ hs₂) hs₂ (.inr (List.mem_map.mpr ⟨_, mem_of_lookup ck, rfl⟩)))))
    F₆ (fun d hd => nomatch hd) (fun d hd => nomatch hd) (fun d hd => nomatch hd)
    (srcL_range1 (N := 6) hh ((F₆.g G.g).range rfl rfl rfl kR) ev_int (by decide)) (fun b hb => by cases hb)
    (fun X i h m cm => ∃ R Fa Tu, m "rising" = some (.ref R) ∧ LS h R (risingL p i) ∧ R ∉ X ∧ m "falling" = some (.ref Fa) ∧ LS h Fa (fallingL p i) ∧ Fa ∉ X ∧ m "turned" = some (.ref Tu) ∧ LS h Tu (turnedL p i) ∧ Tu ∉ X ∧ m "line" = some vl ∧ LC cm p S W)
    (fun X hX hX2 => ⟨R, Fa, Tu, rfl, lR, (let ⟨o, e⟩ := lR.alive; hX2 R o e (F₆.lsOff lR).1 (F₆.lsOff lR).2), rfl, lF, (let ⟨o, e⟩ := lF.alive; hX2 Fa o e (F₆.lsOff lF).1 (F₆.lsOff lF).2), rfl, lT, (let ⟨o, e⟩ := lT.alive; hX2 Tu o e (F₆.lsOff lT).1 (F₆.lsOff lT).2), ml, C⟩)
    (fun X i h h' m cm ⟨R, Fa, Tu, a1, a2, a3, b1, b2, b3, c1, c2, c3, r⟩ hk => ⟨R, Fa, Tu, a1, a2.at fun o e => hk _ o a3 e, a3, b1, b2.at fun o e => hk _ o b3 e, b3, c1, c2.at fun o e => hk _ o c3 e, c3, r⟩)
    ?_ ?_ (fun _ => rfl) (fun _ _ => rfl)
  · rintro gc X i v h₁ m₁ cm₁ k₁ E' hsub hDb hi ⟨ti, rfl⟩ ⟨R, Fa, Tu, a1, a2, a3, b1, b2, b3, c1, c2, c3, ml₁, C₁⟩ hal hXa hgb F₁
    have C₁' : LC (up cm₁ "k" (.int (i : Int) ti)) p S W := ⟨C₁.sizes, C₁.words, C₁.place⟩
    have Gc := G.mono hsub
    have hp := G.hp
    have ek : ∀ {h' : Heap} {m' : Str → Option Value} (F' : Fm gc (lawEnv nm L fa) h' m' (up cm₁ "k" (.int (i : Int) ti))) {A : Around} {pos : Pos}, Ev w A (lawEnv nm L fa) h' (.Name "k" pos) (IsI i) := fun F' => (ev_cell F'.loc kk ck rfl).mono fun u hu => ⟨ti, hu⟩
    have ew : ∀ {h' : Heap} {m' : Str → Option Value} (F' : Fm gc (lawEnv nm L fa) h' m' (up cm₁ "k" (.int (i : Int) ti))) {A : Around} {pos : Pos}, Ev w A (lawEnv nm L fa) h' (.Name "words" pos) (· = .ref W) := fun F' => ev_cell F'.loc k5 c5 C₁'.words
    refine ex_assign F₁ kTw (Ev.k (ev_twice (x := wordS (p + i)) (word_len (by omega)) (ev_item_S (ew F₁) (ek F₁) (Gc.words.mono F₁.base) (by omega) (by omega) (by rw [Int.toNat_natCast]; exact wsOf_get (by omega))) (ev_item_S (ew F₁) (ek F₁) (Gc.words.mono F₁.base) (by omega) (by omega) (by rw [Int.toNat_natCast]; exact wsOf_get (by omega))))) fun v h₂ h₃ k₃ hs₂ hv hsb₃ F₃ => ?_
    rw [twice_is] at hv
    have X₃ := alive_step hXa hs₂ hsb₃ F₃.loc.ns
    have a2 := (a2.mono hs₂).same (F₁.mono hs₂).loc.ns hsb₃
    have b2 := (b2.mono hs₂).same (F₁.mono hs₂).loc.ns hsb₃
    have c2 := (c2.mono hs₂).same (F₁.mono hs₂).loc.ns hsb₃
    refine ex_assign F₃ kAb (Ev.k (ev_tok (x := wordS (p + (i + 1))) (word_len (by omega)) (ev_item_S (ew F₃) (ev_add (ek F₃) ev_int) (Gc.words.mono F₃.base) (by omega) (by omega) (by rw [show ((i : Int) + 1).toNat = i + 1 by omega]; exact wsOf_get (by omega))))) fun v' h₄ h₅ k₅ hs₄ hv' hsb₅ F₅ => ?_
    rw [tok_is] at hv'
    have X₅ := alive_step X₃ hs₄ hsb₅ F₅.loc.ns
    have a2 := (a2.mono hs₄).same (F₃.mono hs₄).loc.ns hsb₅
    have b2 := (b2.mono hs₄).same (F₃.mono hs₄).loc.ns hsb₅
    have c2 := (c2.mono hs₄).same (F₃.mono hs₄).loc.ns hsb₅
    have et : ∀ {h' : Heap} {m' : Str → Option Value} (F' : Fm gc (lawEnv nm L fa) h' m' (up cm₁ "k" (.int (i : Int) ti))) (e : m' "twice" = some v) {A : Around} {pos : Pos}, Ev w A (lawEnv nm L fa) h' (.Name "twice" pos) (IsS (txt p [i, i])) := fun F' e => (ev_local F'.loc kTw e).mono fun u hu => hu ▸ hv
    have ea : ∀ {h' : Heap} {m' : Str → Option Value} (F' : Fm gc (lawEnv nm L fa) h' m' (up cm₁ "k" (.int (i : Int) ti))) (e : m' "above" = some v') {A : Around} {pos : Pos}, Ev w A (lawEnv nm L fa) h' (.Name "above" pos) (IsS (txt p [i + 1])) := fun F' e => (ev_local F'.loc kAb e).mono fun u hu => hu ▸ hv'
    have fresh : ∀ {h : Heap} {D : Addr}, (∀ b ∈ X, ∃ o, h.get? b = some o) → h.get? D = none → D ∉ X := fun ha hD q => by obtain ⟨o, e⟩ := ha _ q; rw [hD] at e; cases e
    have lr := rising_len p i
    have lf := falling_len p i
    have lt := turned_len p i
    refine ex_assign F₅ kRi (evk_addL (K := IsS) (xs := risingL p i) (ys := [txt p [i, i], txt p [i + 1]]) (evk_nameL F₅ kRi (show _ = some (Value.ref R) from a1) a2) (fun {h'} hs => evk_pairL (et (F₅.mono hs) rfl) (ea (F₅.mono hs) rfl)) (by rw [sizeLine_is]; simp only [List.length_cons, List.length_nil]; omega)) fun v₁ h₆ h₇ k₇ hs₆ hv₁ hsb₇ F₇ => ?_
    obtain ⟨R', zr, rfl, fR, hR, pR⟩ := hv₁
    have lR' : LS h₇ R' (risingL p (i + 1)) := LS.same ⟨zr, hR.isList, pR⟩ (F₅.mono hs₆).loc.ns hsb₇
    have nR := fresh X₅ fR
    have X₇ := alive_step X₅ hs₆ hsb₇ F₇.loc.ns
    have b2 := (b2.mono hs₆).same (F₅.mono hs₆).loc.ns hsb₇
    have c2 := (c2.mono hs₆).same (F₅.mono hs₆).loc.ns hsb₇
    refine ex_assign F₇ kFa (evk_addL (K := IsS) (xs := [txt p [i, i], txt p [i + 1]]) (ys := fallingL p i) (evk_pairL (et F₇ rfl) (ea F₇ rfl)) (fun {h'} hs => evk_nameL (F₇.mono hs) kFa (show _ = some (Value.ref Fa) from b1) (b2.mono hs)) (by rw [sizeLine_is]; simp only [List.length_cons, List.length_nil]; omega)) fun v₂ h₈ h₉ k₉ hs₈ hv₂ hsb₉ F₉ => ?_
    obtain ⟨Fa', zf, rfl, fF, hF, pF⟩ := hv₂
    have lF' : LS h₉ Fa' (fallingL p (i + 1)) := LS.same ⟨zf, hF.isList, pF⟩ (F₇.mono hs₈).loc.ns hsb₉
    have nF := fresh X₇ fF
    have X₉ := alive_step X₇ hs₈ hsb₉ F₉.loc.ns
    have lR' := (lR'.mono hs₈).same (F₇.mono hs₈).loc.ns hsb₉
    have c2 := (c2.mono hs₈).same (F₇.mono hs₈).loc.ns hsb₉
    refine ex_assign F₉ kTu (evk_addL (K := IsS) (xs := [txt p [i + 1], txt p [i, i]]) (ys := turnedL p i) (evk_pairL (ea F₉ rfl) (et F₉ rfl)) (fun {h'} hs => evk_nameL (F₉.mono hs) kTu (show _ = some (Value.ref Tu) from c1) (c2.mono hs)) (by rw [sizeLine_is]; simp only [List.length_cons, List.length_nil]; omega)) fun v₃ hA hB kB hsA hv₃ hsbB FB => ?_
    obtain ⟨Tu', zt, rfl, fT, hT, pT⟩ := hv₃
    have lT' : LS hB Tu' (turnedL p (i + 1)) := LS.same ⟨zt, hT.isList, pT⟩ (F₉.mono hsA).loc.ns hsbB
    have nT := fresh X₉ fT
    have lR' := (lR'.mono hsA).same (F₉.mono hsA).loc.ns hsbB
    have lF' := (lF'.mono hsA).same (F₉.mono hsA).loc.ns hsbB
    exact ex_nil ⟨_, _, _, _, rfl, FB, ⟨R', Fa', Tu', rfl, lR', nR, rfl, lF', nF, rfl, lT', nT, ml₁, C₁'⟩, fun d hd => nomatch hd⟩
  · rintro X h₁ m₁ cm₁ k₁ E' ⟨R, Fa, Tu, a1, a2, a3, b1, b2, b3, c1, c2, c3, ml₁, C₁⟩ hal F₁
    have GW := F₁.grow []
    exact ex_nil (next _ h₁ k₁ m₁ cm₁ GW.1 ⟨GW.2 (fun d hd => nomatch hd), C₁, ml₁, R, Fa, Tu, a1, growLS F₁ a2, b1, growLS F₁ b2, c1, growLS F₁ c2⟩)
end Mine
end PartL4
section PartL5
open PySem PySem.W PyProof.Rows PySem.Calls
set_option maxRecDepth 100000
set_option linter.unusedVariables false
namespace Mine
theorem sum_cast : ∀ ns : List Nat, (ns.map fun n => ((n : Nat) : Int)).sum = ((ns.sum : Nat) : Int)
  | [] => rfl
  | n :: ns => by rw [List.map_cons, List.sum_cons, sum_cast ns, List.sum_cons]; push_cast; rfl
theorem LG.sum_lt {w : World} {gb : Heap} {p : Nat} {ns : List Nat} {S W : Addr} (G : LG w gb p ns S W) : ns.sum < 76 := by
  have := sum16 ns G.hns
  rw [G.len] at this
  omega
theorem LG.wt {w : World} {gb : Heap} {p : Nat} {ns : List Nat} {S W : Addr} (G : LG w gb p ns S W) : Wt (cnt ns) = ns.sum := Wt_cnt ns fun n hn => by have := G.hns n hn; omega
theorem LG.li {w : World} {gb : Heap} {p : Nat} {ns : List Nat} {S W : Addr} (G : LG w gb p ns S W) : LI gb S (ns.map fun n => ((n : Nat) : Int)) := let ⟨ys, a, b⟩ := G.sizes; ⟨ys, a.isList, b⟩
/-- _law_line(words, e) -/
theorem evk_line {w : World} {A : Around} {env : Env} {h : Heap} {p0 pw pos : Pos} {e : Expr} {p : Nat} {c : Nat → Nat} {W : Addr} (g : G w h) (room : Room A 20) (hk : env.scope.kind = .function) (hg : env.globals = mainGlobals) (hx : env.kindOf "_law_line" = some .globalImplicit)
    (hp : p < 26) (hW : LS h W (wsOf p)) (hw : Ev w A env h (.Name "words" pw) (· = .ref W)) (he : EvK w A env h e (fun v h' => ∃ D, v = .ref D ∧ LI h' D (csOf c))) (hc : Wt c ≤ 200)
    (hse : backTo pos (starEach [.Name "words" pw, e] env) = [(false, eval (.Name "words" pw) env), (false, eval e env)] := by rfl) :
    EvK w A env h (.Call (.Name "_law_line" p0) [.Name "words" pw, e] [] pos) (fun v _ => IsS (tx p c) v) :=
  evk_fn2 (V1 := fun v => v = .ref W) (g.lineN hk hg hx) g.line hw he (fun v1 v2 s' hs' h1 h2 => by
    subst h1
    obtain ⟨D, rfl, hD⟩ := h2
    have := c_line (w := w) (A := A) (s := s') (g.mono hs') ⟨room.hand, by have := room.depth; omega, by have := room.units; omega⟩ (hW.mono hs') (wsOf_len p) (wsOf_bd hp) hD (csOf_len c) (csOf_bd hc)
    rwa [line_is] at this) hse

theorem segF {w : World} {A : Around} {s : Shared} {E : Value → Shared → Prop} {Q : Flow → Shared → Prop} {gb : Heap} {L fa : Addr} {nm : Str} {m cm : Str → Option Value} {p : Nat} {ns : List Nat} {S W R : Addr} {vl : Value}
    (F : Fm gb (lawEnv nm L fa) s.heap m cm) (G : LG w gb p ns S W) (C : LC cm p S W) (room : Room A 20) (ml : m "line" = some vl) (hvl : IsS (tx p (cnt ns)) vl)
    (mR : m "rising" = some (.ref R)) (lR : LS gb R (risingL p 6))
    (next : Next w A E Q (lawEnv nm L fa) ((bodyOf 12).drop 17) s fun gb' h' m' cm' => gb' = gb ∧ cm' = cm ∧ (∀ x : Str, x ≠ ("many" : Str) → m' x = m x) ∧ ∃ t, m' "many" = some (.int (ns.sum : Nat) t)) :
    Wp w A (execs ((bodyOf 12).drop 14) (lawEnv nm L fa)) Q E s := by
  have hh : A.handled = none := room.hand
  have room3 : Room A 3 := ⟨room.hand, by have := room.depth; omega, by have := room.units; omega⟩
  have kM : (lawEnv nm L fa).kindOf "many" = some .local := rfl
  have kLi : (lawEnv nm L fa).kindOf "line" = some .local := rfl
  have kRi : (lawEnv nm L fa).kindOf "rising" = some .local := rfl
  have k3 : (lawEnv nm L fa).kindOf "sizes" = some .cell := rfl
  have c3 : (lawEnv nm L fa).cells.lookup ("sizes" : Str) = some (L + 1 + 1 + 1) := rfl
  have k4 : (lawEnv nm L fa).kindOf "place" = some .cell := rfl
  have c4 : (lawEnv nm L fa).cells.lookup ("place" : Str) = some (L + 1 + 1 + 1 + 1) := rfl
  have k5 : (lawEnv nm L fa).kindOf "words" = some .cell := rfl
  have c5 : (lawEnv nm L fa).cells.lookup ("words" : Str) = some (L + 1 + 1 + 1 + 1 + 1) := rfl
  have hM := G.sum_lt
  have hWt := G.wt
  have hp := G.hp
  refine ex_assign F kM (evk_sum ((F.g G.g).sum rfl rfl rfl rfl) hh ((Ev.k (ev_cell F.loc k3 c3 C.sizes)).mono fun v h' hs hv => ⟨S, hv, (G.li.mono F.base).mono hs⟩)) fun v h₁ h₂ k₂ hs₁ hv hsb F₂ => ?_
  rw [sum_cast] at hv
  obtain ⟨tm, rfl⟩ := hv
  have eM : ∀ {h' : Heap} (F' : Fm gb (lawEnv nm L fa) h' (up m "many" (.int (ns.sum : Nat) tm)) cm) {A : Around} {pos : Pos}, Ev w A (lawEnv nm L fa) h' (.Name "many" pos) (IsI (ns.sum : Nat)) := fun F' => (ev_local F'.loc kM rfl).mono fun u hu => ⟨tm, hu⟩
  have ml₂ : up m "many" (.int (ns.sum : Nat) tm) "line" = some vl := ml
  have mR₂ : up m "many" (.int (ns.sum : Nat) tm) "rising" = some (.ref R) := mR
  have gr := goes_rising (p := p) hp (c := cnt ns) (by rw [hWt]; omega)
  rw [hWt] at gr
  have wb : Wt (bitF ns.sum) ≤ 200 := by
    have : ∀ j, bitF ns.sum j ≤ 1 := fun j => by have := Nat.mod_lt (ns.sum / 2 ^ j) (y := 2) (by decide); unfold bitF; omega
    have h0 := this 0; have h1 := this 1; have h2 := this 2; have h3 := this 3; have h4 := this 4; have h5 := this 5; have h6 := this 6
    unfold Wt; omega
  refine ex_ifF (tst_neS (x := tx p (bitF ns.sum)) (evk_replace (F₂.g G.g) room3 rfl rfl rfl ((ev_local F₂.loc kLi ml₂).mono fun u hu => hu ▸ hvl) (ev_local F₂.loc kRi mR₂) (lR.mono F₂.base) (by rw [rising_len]; omega) gr)
    (fun {h'} hs => evk_line ((F₂.mono hs).g G.g) room rfl rfl rfl hp (G.words.mono (F₂.mono hs).base) (ev_cell (F₂.mono hs).loc k5 c5 C.words)
      (evk_fn1 (V1 := fun v _ => IsI (ns.sum : Nat) v) (((F₂.mono hs).g G.g).bitsN rfl rfl rfl) ((F₂.mono hs).g G.g).bits (Ev.k (eM (F₂.mono hs))) (fun v s' hs' hv => by
        obtain ⟨t, rfl⟩ := hv
        have := c_bits (w := w) (A := A) (s := s') (n := ((ns.sum : Nat) : Int)) (t := t) (((F₂.mono hs).g G.g).mono hs') room3
        rw [bits_is] at this
        exact fun E Q hq => this E Q fun v h' k hs'' ⟨D, e, _, hD⟩ => hq v h' k hs'' ⟨D, e, hD⟩)) wb)) fun h₃ k₃ hs₃ => ?_
  have F₃ := F₂.mono hs₃
  obtain ⟨tp, hpl⟩ := C.place
  have hlt : ns.sum * 2 ^ p < 2 ^ 32 := by
    have h1 : ns.sum * 2 ^ p ≤ 76 * 2 ^ 25 := Nat.mul_le_mul (by omega) (Nat.pow_le_pow_right (by decide) (by omega))
    exact Nat.lt_of_le_of_lt h1 (by decide)
  refine ex_ifF (tst_neS (x := toldS (wsOf p) (ns.sum : Nat)) (EvK.mono (evk_fn1 (V1 := fun v _ => IsI ((ns.sum * 2 ^ p : Nat) : Int) v) ((F₃.g G.g).flagsN rfl rfl rfl) (F₃.g G.g).flags
      ((Ev.k (ev_mul (eM F₃) (ev_pow ev_int ((ev_cell F₃.loc k4 c4 hpl).mono fun u hu => ⟨tp, hu⟩) (by omega) (by omega) (by decide)) (mul_ok128 (by omega) _))).mono fun v h' _ hv => by
        have e : ((ns.sum * 2 ^ p : Nat) : Int) = ((ns.sum : Nat) : Int) * 2 ^ ((p : Int)).toNat := by rw [Int.toNat_natCast]; push_cast; rfl
        rw [e]; exact hv)
      (fun v s' hs hv => by obtain ⟨t, rfl⟩ := hv; exact c_flags ((F₃.g G.g).mono hs) room3 hlt)) fun v h' _ hv => by rw [flags_told (by omega) hp] at hv; exact hv)
    (fun {h'} hs => evk_fn2 (V1 := fun v => v = .ref W) (V2 := fun v _ => IsI (ns.sum : Nat) v) (((F₃.mono hs).g G.g).toldN rfl rfl rfl) ((F₃.mono hs).g G.g).told (ev_cell (F₃.mono hs).loc k5 c5 C.words) (Ev.k (eM (F₃.mono hs)))
      (fun v1 v2 s' hs' h1 h2 => by subst h1; obtain ⟨t, rfl⟩ := h2; exact c_told (((F₃.mono hs).g G.g).mono hs') room3 ((G.words.mono (F₃.mono hs).base).mono hs') (wsOf_len p) (wsOf_bd hp)))) fun h₄ k₄ hs₄ => ?_
  exact next gb h₄ k₄ _ _ (F₃.mono hs₄) ⟨rfl, rfl, fun x hx => by unfold up; rw [if_neg hx], tm, rfl⟩
end Mine
end PartL5
section PartL6
open PySem PySem.W PyProof.Rows PySem.Calls
set_option maxRecDepth 100000
set_option linter.unusedVariables false
namespace Mine
theorem segG {w : World} {A : Around} {s : Shared} {E : Value → Shared → Prop} {Q : Flow → Shared → Prop} {gb : Heap} {L fa : Addr} {nm : Str} {m cm : Str → Option Value} {p : Nat} {ns : List Nat} {S W Fa Tu : Addr} {vl vm : Value}
    (F : Fm gb (lawEnv nm L fa) s.heap m cm) (G : LG w gb p ns S W) (C : LC cm p S W) (room : Room A 20) (ml : m "line" = some vl) (mF : m "falling" = some (.ref Fa)) (mT : m "turned" = some (.ref Tu)) (mM : m "many" = some vm)
    (next : Next w A E Q (lawEnv nm L fa) ((bodyOf 12).drop 20) s fun gb' h' m' cm' => Sub gb gb' ∧ cm' = cm ∧ m' "line" = some vl ∧ m' "falling" = some (.ref Fa) ∧ m' "turned" = some (.ref Tu) ∧ m' "many" = some vm ∧ m' "now" = some vl ∧ (∃ DH, m' "halves" = some (.ref DH) ∧ LI gb' DH (csOf fun j => (cnt ns j + 1) / 2)) ∧ ∃ DC, m' "counts" = some (.ref DC) ∧ LI gb' DC (csOf (cnt ns))) :
    Wp w A (execs ((bodyOf 12).drop 17) (lawEnv nm L fa)) Q E s := by
  have hh : A.handled = none := room.hand
  have kC : (lawEnv nm L fa).kindOf "counts" = some .local := rfl
  have kH : (lawEnv nm L fa).kindOf "halves" = some .local := rfl
  have kN : (lawEnv nm L fa).kindOf "now" = some .local := rfl
  have kLi : (lawEnv nm L fa).kindOf "line" = some .local := rfl
  have kR : (lawEnv nm L fa).kindOf "range" = some .globalImplicit := rfl
  have k3 : (lawEnv nm L fa).kindOf "sizes" = some .cell := rfl
  have c3 : (lawEnv nm L fa).cells.lookup ("sizes" : Str) = some (L + 1 + 1 + 1) := rfl
  have hp := G.hp
  have hM := G.sum_lt
  have hWt := G.wt
  have g := F.g G.g
  refine ex_assignComp2 (cl := [("sizes", L + 1 + 1 + 1)]) (fun i y => IsI (((ns.map fun n => ((n : Nat) : Int)).map fun n => bitI n (i : Int)).sum) y) F kC rfl
    (src_cell (fun _ => rfl) (fun _ => rfl) (fun _ => rfl) (fun _ => rfl) (src_range1 (N := 7) hh (g.range rfl rfl rfl kR) ev_int (by decide))) (by decide) rfl rfl (by decide)
    (fun h => ⟨⟨_, (Heap.Ns.new h (.type "dict")).push _⟩, none, ⟨_, by
      have := Heap.get?_push_size (h.push { cls := .type "dict", data := .dict #[] }) (o := { cls := .type "cell", data := .cell none }) rfl
      rw [Heap.size_push] at this
      exact this, rfl⟩⟩)
    (fun i C h ⟨a, v, _, b⟩ => ⟨a, some v, b⟩) (fun C h h' ⟨⟨m, hm⟩, v, o, e, d⟩ k => ⟨⟨m, hm.at' fun o e => k _ o (Nat.le_refl _) e⟩, v, o, k _ o (Nat.le_succ _) e, d⟩) (fun C h x => x.1)
    (fun i C' h₃ hi ⟨⟨m₃, hns⟩, v, hv, hcv⟩ hsub => ?_) fun DC ys h₂ k₂ hDC hplC hlenC hC hkC F₂ => ?_
  · obtain ⟨ti, rfl⟩ := hv
    have L3 : Loc (cenvOf (match (bodyOf 12).drop 17 with | .Assign _ (.ListComp _ _ sc _) _ :: _ => sc | _ => scopeOf 12) [("sizes", L + 1 + 1 + 1)] C' (lawEnv nm L fa)) h₃ m₃ (up cm "k" (.int (i : Int) ti)) :=
      ⟨rfl, hns, fun n c e => by
        have e' : [(("k" : Str), C' + 1), ("sizes", L + 1 + 1 + 1)].lookup n = some c := e
        by_cases hnk : n = "k"
        · subst hnk; cases e'; unfold up; rw [if_pos rfl]; exact hcv
        · rw [List.lookup_cons, beq_eq_false_iff_ne.mpr hnk] at e'
          dsimp only at e'
          rw [List.lookup_cons] at e'
          unfold up; rw [if_neg hnk]
          split at e'
          · rename_i hb
            cases e'
            rw [beq_iff_eq.mp hb]
            exact (F.loc.cells _ _ c3).keeps hsub
          · cases e'⟩
    have g3 := g.mono hsub
    obtain ⟨ys, hys, hyp⟩ := (G.li.mono F.base).mono hsub
    have hsz : ys.toArray.size = (ns.map fun n => ((n : Nat) : Int)).length := by simp [← hyp.length]
    refine evk_sum (g3.sum rfl rfl rfl rfl) hh (EvK.mono (comp_map0 (K := IsI) (R := IsI) (cl := [("k", C' + 1)]) (fun n => bitI n (i : Int)) (ns.map fun n => ((n : Nat) : Int)) isI_inj (hsz ▸ src_list hh (ev_cell L3 rfl rfl (show up cm "k" (Value.int (i : Int) ti) "sizes" = some (Value.ref S) from C.sizes)) hys) (fun j v a hv ha => by
        obtain ⟨b, hb, hF⟩ := paired_get hyp j a ha
        have : ys[j]? = some v := by simpa using hv
        rw [this] at hb; cases hb; exact hF) (by rw [List.length_map, G.len, sizeLine_is]; decide) rfl (by decide) rfl (by decide) rfl (fun C₂ n v h₄ m₄ hn hv hns₄ hm₄ hsub₄ => ?_)) fun v h' hs hV => by obtain ⟨D, zs, e, hD, hpl, hp⟩ := hV; exact ⟨D, e, LI.of hpl hp⟩)
    have L4 := compLoc (scope := (match (bodyOf 12).drop 17 with | .Assign _ (.ListComp (.Call _ (.ListComp _ _ sc _ :: _) _ _) _ _ _) _ :: _ => sc | _ => scopeOf 12)) (C := C₂) (cl := [("k", C' + 1)]) L3 (one_cl (show (cenvOf (match (bodyOf 12).drop 17 with | .Assign _ (.ListComp _ _ sc _) _ :: _ => sc | _ => scopeOf 12) [("sizes", L + 1 + 1 + 1)] C' (lawEnv nm L fa)).cells.lookup ("k" : Str) = some (C' + 1) from rfl)) rfl hns₄ hsub₄
    obtain ⟨ta, rfl⟩ := hv
    have pk : ((i : Int)).toNat ≤ 6 := by omega
    refine Ev.k (ev_mod (ev_fdiv ((ev_local L4 rfl hm₄).mono fun v hv => ⟨ta, hv⟩) (ev_pow ev_int ((ev_cell L4 rfl rfl (show up cm "k" (Value.int (i : Int) ti) "k" = some (Value.int (i : Int) ti) from rfl)).mono fun v hv => ⟨ti, hv⟩) (by omega) (by omega) (by decide)) (Int.ne_of_gt (Int.pow_pos (by decide))) (PyProof.noPylong_small ?_)) ev_int (by decide))
    have : ∀ j : Fin 7, ((2 : Int) ^ j.1).natAbs < 1073741824 := by decide
    exact this ⟨((i : Int)).toNat, by omega⟩
  have lC : LI h₂ DC (csOf (cnt ns)) := by
    refine ⟨ys, hplC.isList, ?_⟩
    rw [← counts_is]
    refine paired_of_get (by rw [List.length_map, hlenC]; rfl) fun j a b ha hb => ?_
    rw [List.getElem?_map] at ha
    cases hr : r7[j]? with
    | none => rw [hr] at ha; cases ha
    | some k =>
      rw [hr] at ha
      cases ha
      have ek : k = (j : Int) := by
        rcases j with _ | _ | _ | _ | _ | _ | _ | j <;> simp [r7] at hr <;> omega
      rw [ek]
      exact hC j b hb
  have eC : ∀ {h' : Heap} {m' cm' : Str → Option Value} {gc : Heap} (F' : Fm gc (lawEnv nm L fa) h' m' cm') (e : m' "counts" = some (.ref DC)) {A : Around} {pos : Pos}, Ev w A (lawEnv nm L fa) h' (.Name "counts" pos) (· = .ref DC) := fun F' e => ev_local F'.loc kC e
  obtain ⟨yc, hyc, hycp⟩ := id lC
  have hszc : yc.toArray.size = (csOf (cnt ns)).length := by simp [← hycp.length]
  refine ex_assignComp (K := IsI) (R := IsI) (cl := []) (fun n => (n + 1).fdiv 2) (csOf (cnt ns)) F₂ kH rfl isI_inj (hszc ▸ src_list hh (eC F₂ rfl) hyc) (fun j v a hv ha => by
      obtain ⟨b, hb, hF⟩ := paired_get hycp j a ha
      have : yc[j]? = some v := by simpa using hv
      rw [this] at hb; cases hb; exact hF) (by rw [csOf_len, sizeLine_is]; decide) rfl (by decide) rfl (by decide) rfl (fun C₂ n v h₄ m₄ hn hv hns₄ hm₄ hsub₄ => ?_) fun DH zs h₃ k₃ hDH hplH hpH hkH F₃ => ?_
  · have L4 := compLoc (scope := (match (bodyOf 12).drop 18 with | .Assign _ (.ListComp _ _ sc _) _ :: _ => sc | _ => scopeOf 12)) (C := C₂) (cl := []) F₂.loc (fun n c e => nomatch e) rfl hns₄ hsub₄
    obtain ⟨ta, rfl⟩ := hv
    exact Ev.k (ev_fdiv (ev_add ((ev_local L4 rfl hm₄).mono fun v hv => ⟨ta, hv⟩) ev_int) ev_int (by decide) (PyProof.noPylong_small (by decide)))
  have lH : LI h₃ DH (csOf fun j => (cnt ns j + 1) / 2) := by rw [← halves_is]; exact LI.of hplH hpH
  have lC₃ : LI h₃ DC (csOf (cnt ns)) := by
    obtain ⟨ys', hl', hp'⟩ := lC
    exact ⟨ys', hl'.at fun o e => hkH DC o (Ns.ne_list F₂.loc.ns hl') e, hp'⟩
  have ml₃ : up (up m "counts" (.ref DC)) "halves" (.ref DH) "line" = some vl := ml
  refine ex_assign F₃ kN (Ev.k (ev_local F₃.loc kLi ml₃)) fun v h₄ h₅ k₅ hs₄ hv hsb₅ F₅ => ?_
  subst hv
  have lH := (lH.mono hs₄).same (F₃.mono hs₄).loc.ns hsb₅
  have lC₃ := (lC₃.mono hs₄).same (F₃.mono hs₄).loc.ns hsb₅
  have GW := F₅.grow []
  exact next _ h₅ k₅ _ _ GW.1 ⟨GW.2 (fun d hd => nomatch hd), rfl, ml, mF, mT, mM, rfl, ⟨DH, rfl, growLI F₅ lH⟩, DC, rfl, growLI F₅ lC₃⟩
end Mine
end PartL6
section PartL7
open PySem PySem.W PyProof.Rows PySem.Calls
set_option maxRecDepth 100000
set_option linter.unusedVariables false
namespace Mine
theorem maxL_ex : ∀ ns : List Int, ns ≠ [] → ∃ v, maxL ns v
  | [], h => absurd rfl h
  | [n], _ => ⟨n, by simp, by simp⟩
  | n :: k :: r, _ => by
    obtain ⟨v, h1, h2⟩ := maxL_ex (k :: r) (by simp)
    by_cases h : n ≤ v
    · exact ⟨v, List.mem_cons_of_mem _ h1, fun q hq => by rcases List.mem_cons.mp hq with rfl | hq; exact h; exact h2 q hq⟩
    · exact ⟨n, List.mem_cons_self, fun q hq => by
        rcases List.mem_cons.mp hq with rfl | hq
        · exact Int.le_refl _
        · have := h2 q hq; omega⟩
theorem maxL_one {ns : List Int} {a b : Int} (h1 : maxL ns a) (h2 : maxL ns b) : a = b := Int.le_antisymm (h2.2 a h1.1) (h1.2 b h2.1)
theorem evk_max {w : World} {A : Around} {env : Env} {h : Heap} {p pos : Pos} {e : Expr} {ns : List Int} {v₀ : Int} (hf : Ev w A env h (.Name "max" p) (· = .builtin "max")) (hh : A.handled = none) (he : EvK w A env h e (fun v h' => ∃ D, v = .ref D ∧ LI h' D ns)) (hn : ns ≠ []) (h0 : maxL ns v₀) (hse : backTo pos (starEach [e] env) = [(false, eval e env)] := by rfl) :
    EvK w A env h (.Call (.Name "max" p) [e] [] pos) (fun v _ => IsI v₀ v) :=
  evk_builtin1 hf he (fun v s E Q hs hv hq => by obtain ⟨D, rfl, hl⟩ := hv; exact call_maxL hh hl hn fun x h' k t hx hs' => hq _ h' k hs' ⟨t, by rw [maxL_one hx h0]⟩) hse
theorem csOf_ne (c : Nat → Nat) : csOf c ≠ [] := fun h => by have := csOf_len c; rw [h] at this; cases this

theorem segH {w : World} {A : Around} {s : Shared} {E : Value → Shared → Prop} {Q : Flow → Shared → Prop} {gb : Heap} {L fa : Addr} {nm : Str} {m cm : Str → Option Value} {p : Nat} {ns : List Nat} {S W Fa Tu DC DH : Addr} {vl : Value} {tm : Tok}
    (F : Fm gb (lawEnv nm L fa) s.heap m cm) (G : LG w gb p ns S W) (C : LC cm p S W) (room : Room A 20) (ml : m "line" = some vl) (hvl : IsS (tx p (cnt ns)) vl) (mF : m "falling" = some (.ref Fa)) (lF : LS gb Fa (fallingL p 6)) (mT : m "turned" = some (.ref Tu)) (lT : LS gb Tu (turnedL p 6))
    (mM : m "many" = some (.int (ns.sum : Nat) tm)) (mN : m "now" = some vl) (mH : m "halves" = some (.ref DH)) (mC : m "counts" = some (.ref DC)) (lC : LI gb DC (csOf (cnt ns)))
    (next : Next w A E Q (lawEnv nm L fa) ((bodyOf 12).drop 21) s fun gb' h' m' cm' => gb' = gb ∧ cm' = cm ∧ m' "line" = some vl ∧ m' "halves" = some (.ref DH)) :
    Wp w A (execs ((bodyOf 12).drop 20) (lawEnv nm L fa)) Q E s := by
  have hh : A.handled = none := room.hand
  have room3 : Room A 3 := ⟨room.hand, by have := room.depth; omega, by have := room.units; omega⟩
  have kC : (lawEnv nm L fa).kindOf "counts" = some .local := rfl
  have kN : (lawEnv nm L fa).kindOf "now" = some .local := rfl
  have kM : (lawEnv nm L fa).kindOf "many" = some .local := rfl
  have kFa : (lawEnv nm L fa).kindOf "falling" = some .local := rfl
  have kTu : (lawEnv nm L fa).kindOf "turned" = some .local := rfl
  have k5 : (lawEnv nm L fa).kindOf "words" = some .cell := rfl
  have c5 : (lawEnv nm L fa).cells.lookup ("words" : Str) = some (L + 1 + 1 + 1 + 1 + 1) := rfl
  have hp := G.hp
  have hM := G.sum_lt
  have hWt := G.wt
  refine ex_while (fun n s' => ∃ c h k m' vn DC, s' = { s with heap := h, toks := k } ∧ Fm gb (lawEnv nm L fa) h m' cm ∧ m' "now" = some vn ∧ IsS (tx p c) vn ∧ m' "counts" = some (.ref DC) ∧ LI h DC (csOf c) ∧ Wt c = ns.sum ∧ tot c = n ∧ m' "line" = some vl ∧ m' "falling" = some (.ref Fa) ∧ m' "turned" = some (.ref Tu) ∧ m' "many" = some (.int (ns.sum : Nat) tm) ∧ m' "halves" = some (.ref DH))
    ?_ _ ⟨cnt ns, s.heap, s.toks, m, vl, DC, rfl, F, mN, hvl, mC, lC.mono F.base, hWt, rfl, ml, mF, mT, mM, mH⟩
  rintro n s' E' ⟨c, h₁, k₁, m₁, vn, DC₁, rfl, F₁, mN₁, hvn, mC₁, lC₁, hWc, htot, ml₁, mF₁, mT₁, mM₁, mH₁⟩
  refine ⟨true, tst_true, fun h₂ k₂ hs₂ => ?_⟩
  rw [if_pos rfl]
  have F₂ := F₁.mono hs₂
  have lC₂ := lC₁.mono hs₂
  have eN : ∀ {h' : Heap} (F' : Fm gb (lawEnv nm L fa) h' m₁ cm) {A : Around} {pos : Pos}, Ev w A (lawEnv nm L fa) h' (.Name "now" pos) (IsS (tx p c)) := fun F' => (ev_local F'.loc kN mN₁).mono fun u hu => hu ▸ hvn
  have eW : ∀ {h' : Heap} {m' : Str → Option Value} (F' : Fm gb (lawEnv nm L fa) h' m' cm) {A : Around} {pos : Pos}, Ev w A (lawEnv nm L fa) h' (.Name "words" pos) (· = .ref W) := fun F' => ev_cell F'.loc k5 c5 C.words
  have gt := goes_turned (p := p) hp (c := c) (by omega)
  rw [hWc] at gt
  have gf := goes_falling (p := p) hp (c := c) (by omega)
  refine ex_ifF (tst_orF (tst_neS (Ev.k (eN F₂)) (fun {h'} hs => evk_line ((F₂.mono hs).g G.g) room rfl rfl rfl hp (G.words.mono (F₂.mono hs).base) (eW (F₂.mono hs)) ((Ev.k (ev_local (F₂.mono hs).loc kC mC₁)).mono fun v h'' hs' hv => ⟨DC₁, hv, (lC₂.mono hs).mono hs'⟩) (by omega)))
    (fun {h'} hs => tst_neS (x := tx p (oneF ns.sum)) (evk_replace ((F₂.mono hs).g G.g) room3 rfl rfl rfl (eN (F₂.mono hs)) (ev_local (F₂.mono hs).loc kTu mT₁) (lT.mono (F₂.mono hs).base) (by rw [turned_len]; omega) gt)
      (fun {h''} hs' => EvK.mono (Ev.k (ev_muls (ev_tok (x := wordS (p + 0)) (word_len (by omega)) (ev_item_S (k := 0) (eW ((F₂.mono hs).mono hs')) ev_int (G.words.mono ((F₂.mono hs).mono hs').base) (by decide) (by decide) (wsOf_get (by decide)))) ((ev_local ((F₂.mono hs).mono hs').loc kM mM₁).mono fun u hu => (⟨tm, hu⟩ : IsI ((ns.sum : Nat) : Int) u)) (mulOk_small (by omega) (by omega) (by rw [tok_len]; have := word_len (q := p + 0) (by omega); omega)))) fun v h₃ _ hv => by rw [many_is] at hv; exact hv))) fun h₃ k₃ hs₃ => ?_
  have F₃ := F₂.mono hs₃
  have lC₃ := lC₂.mono hs₃
  obtain ⟨v₀, hv₀⟩ := maxL_ex (csOf c) (csOf_ne c)
  refine ex_if (tst_ltK (evk_max ((F₃.g G.g).max rfl rfl rfl rfl) hh ((Ev.k (ev_local F₃.loc kC mC₁)).mono fun v h'' hs' hv => ⟨DC₁, hv, lC₃.mono hs'⟩) (csOf_ne c) hv₀) (fun _ => ev_int)) fun h₄ k₄ hs₄ => ?_
  have F₄ := F₃.mono hs₄
  have lC₄ := lC₃.mono hs₄
  by_cases hlt : v₀ < 2
  · rw [if_pos (by simpa using hlt)]
    exact ex_break (next gb h₄ k₄ m₁ cm F₄ ⟨rfl, rfl, ml₁, mH₁⟩)
  · rw [if_neg (by simpa using hlt)]
    refine ex_nil ?_
    refine ex_assign F₄ kN (evk_replace (F₄.g G.g) room3 rfl rfl rfl (eN F₄) (ev_local F₄.loc kFa mF₁) (lF.mono F₄.base) (by rw [falling_len]; omega) gf) fun v h₅ h₆ k₆ hs₅ hv hsb₆ F₆ => ?_
    have lC₆ := (lC₄.mono hs₅).same (F₄.mono hs₅).loc.ns hsb₆
    refine ex_assign F₆ kC (evk_fn1 (V1 := fun v _ => v = .ref DC₁) (V := fun v h' => ∃ D, v = .ref D ∧ LI h' D (carriedL (csOf c))) ((F₆.g G.g).carriedN rfl rfl rfl) (F₆.g G.g).carried (Ev.k (ev_local F₆.loc kC (show _ = some (Value.ref DC₁) from mC₁))) (fun v s' hs hv => by subst hv; exact fun E Q hq => c_carried ((F₆.g G.g).mono hs) room3 (lC₆.mono hs) (csOf_len c) E Q fun v h' k hs'' ⟨D, e, _, hD⟩ => hq v h' k hs'' ⟨D, e, hD⟩)) fun v' h₇ h₈ k₈ hs₇ hv' hsb₈ F₈ => ?_
    obtain ⟨D', rfl, lD'⟩ := hv'
    rw [carried_is] at lD'
    have lD' := lD'.same (F₆.mono hs₇).loc.ns hsb₈
    exact ex_nil ⟨tot (fallF c), htot ▸ tot_fall (by omega) hv₀ hlt, fallF c, h₈, k₈, _, v, D', rfl, F₈, rfl, hv, rfl, lD', by rw [Wt_fall]; exact hWc, rfl, ml₁, mF₁, mT₁, mM₁, mH₁⟩
end Mine
end PartL7
section PartL8
open PySem PySem.W PyProof.Rows PySem.Calls
set_option maxRecDepth 100000
set_option linter.unusedVariables false
namespace Mine
theorem xorAll_append : ∀ (xs ys : List Nat) (a : Nat), xorAll (xs ++ ys) a = xorAll ys (xorAll xs a)
  | [], _, _ => rfl
  | x :: xs, ys, a => xorAll_append xs ys (a ^^^ x)
theorem struck_len (p : Nat) : ∀ k, (struckL p k).length = 2 * k
  | 0 => rfl
  | k + 1 => by rw [struckL, List.length_append, struck_len p k]; simp; omega
theorem halved_len (p : Nat) : ∀ k, (halvedL p k).length = 2 * k
  | 0 => rfl
  | k + 1 => by rw [halvedL, List.length_append, halved_len p k]; simp; omega
theorem Wt_le_one {c : Nat → Nat} (h : ∀ j, c j ≤ 1) : Wt c ≤ 200 := by
  have h0 := h 0; have h1 := h 1; have h2 := h 2; have h3 := h 3; have h4 := h 4; have h5 := h 5; have h6 := h 6
  unfold Wt; omega
theorem Wt_half_le (c : Nat → Nat) : Wt (fun j => (c j + 1) / 2) ≤ Wt c := by
  unfold Wt; dsimp only; omega

theorem segI {w : World} {A : Around} {s : Shared} {E : Value → Shared → Prop} {Q : Flow → Shared → Prop} {gb : Heap} {L fa : Addr} {nm : Str} {m cm : Str → Option Value} {p : Nat} {ns : List Nat} {S W DH : Addr} {vl : Value}
    (F : Fm gb (lawEnv nm L fa) s.heap m cm) (G : LG w gb p ns S W) (C : LC cm p S W) (room : Room A 20) (ml : m "line" = some vl) (hvl : IsS (tx p (cnt ns)) vl) (mH : m "halves" = some (.ref DH)) (lH : LI gb DH (csOf fun j => (cnt ns j + 1) / 2))
    (fin : ∀ h' k m' cm', Fm gb (lawEnv nm L fa) h' m' cm' → Q (.ret (.bool true)) { s with heap := h', toks := k }) :
    Wp w A (execs ((bodyOf 12).drop 21) (lawEnv nm L fa)) Q E s := by
  have hh : A.handled = none := room.hand
  have room3 : Room A 3 := ⟨room.hand, by have := room.depth; omega, by have := room.units; omega⟩
  have kS : (lawEnv nm L fa).kindOf "struck" = some .local := rfl
  have kHv : (lawEnv nm L fa).kindOf "halved" = some .local := rfl
  have kHs : (lawEnv nm L fa).kindOf "halves" = some .local := rfl
  have kW : (lawEnv nm L fa).kindOf "word" = some .local := rfl
  have kZ : (lawEnv nm L fa).kindOf "size" = some .local := rfl
  have kO : (lawEnv nm L fa).kindOf "without" = some .local := rfl
  have kLi : (lawEnv nm L fa).kindOf "line" = some .local := rfl
  have k3 : (lawEnv nm L fa).kindOf "sizes" = some .cell := rfl
  have c3 : (lawEnv nm L fa).cells.lookup ("sizes" : Str) = some (L + 1 + 1 + 1) := rfl
  have k5 : (lawEnv nm L fa).kindOf "words" = some .cell := rfl
  have c5 : (lawEnv nm L fa).cells.lookup ("words" : Str) = some (L + 1 + 1 + 1 + 1 + 1) := rfl
  have hp := G.hp
  have hM := G.sum_lt
  have hWt := G.wt
  have nil : ∀ {h : Heap} {pos : Pos}, EvK w A (lawEnv nm L fa) h (.List [] pos) (fun v h' => ∃ a vs, v = .ref a ∧ h.get? a = none ∧ h'.PlainList a (List.toArray vs) ∧ vs = []) := evk_list (R := fun vs => vs = []) (fun s E Q hs hq => ⟨wpAny_items_nil (hq [] s.toks rfl)⟩) (fun vs hv => by rw [hv]; exact Nat.zero_le _)
  refine ex_assign F kS nil fun v h₁ h₂ k₂ hs₁ hv hsb F₂ => ?_
  obtain ⟨DS, vs, rfl, hDS, hpS, rfl⟩ := hv
  have hpS := PlainList.same hpS (F.mono hs₁).loc.ns hsb
  refine ex_assign F₂ kHv nil fun v h₃ h₄ k₄ hs₃ hv hsb₄ F₄ => ?_
  obtain ⟨DV, vs, rfl, hDV, hpV, rfl⟩ := hv
  have hpV := PlainList.same hpV (F₂.mono hs₃).loc.ns hsb₄
  have hne : DS ≠ DV := by
    rintro rfl
    obtain ⟨n, e⟩ := hpS
    rw [hDV] at e; cases e
  have hpS := PlainList.same (PlainList.sub hpS hs₃) (F₂.mono hs₃).loc.ns hsb₄
  have gS : gb.get? DS = none := by cases e : gb.get? DS with | none => rfl | some o => exact absurd (F.base DS o e) (by rw [hDS]; exact fun q => by cases q)
  have gV : gb.get? DV = none := by cases e : gb.get? DV with | none => rfl | some o => exact absurd (F₂.base DV o e) (by rw [hDV]; exact fun q => by cases q)
  have al : ∀ {h : Heap} {ys zs : Array Value}, h.PlainList DS ys → h.PlainList DV zs → ∀ d ∈ [DS, DV], ∃ o, h.get? d = some o := fun h1 h2 d hd => by
    rcases List.mem_cons.mp hd with rfl | hd
    · obtain ⟨n, e⟩ := h1; exact ⟨_, e⟩
    · rw [List.mem_singleton.mp hd]; obtain ⟨n, e⟩ := h2; exact ⟨_, e⟩
  have m1 : DS ∈ [DS, DV] := List.mem_cons_self
  have m2 : DV ∈ [DS, DV] := List.mem_cons_of_mem _ List.mem_cons_self
  obtain ⟨wv, hWl, hWp⟩ := id G.words
  have hszW : wv.toArray.size = 7 := by have := hWp.length; rw [wsOf_len] at this; simp [← this]
  refine ex_forL (n := wv.toArray.size) [DS, DV] kW F₄ (fun d hd => by rcases List.mem_cons.mp hd with rfl | hd; exact gS; rw [List.mem_singleton.mp hd]; exact gV) (al hpS hpV)
    (fun d hd => by rcases List.mem_cons.mp hd with rfl | hd; exact F₄.listOff hpS; rw [List.mem_singleton.mp hd]; exact F₄.listOff hpV)
    (src_list hh (ev_cell F₄.loc k5 c5 C.words) (hWl.at fun o e => F₄.base _ o e)) (fun b hb => by rw [List.mem_singleton.mp hb]; obtain ⟨o, e, _⟩ := hWl; exact ⟨o, e⟩)
    (fun i h m' cm' => ∃ us zs : List Value, h.PlainList DS us.toArray ∧ h.PlainList DV zs.toArray ∧ Paired IsS (struckL p i) us ∧ Paired IsS (halvedL p i) zs ∧ m' "struck" = some (.ref DS) ∧ m' "halved" = some (.ref DV) ∧ m' "line" = some vl ∧ m' "halves" = some (.ref DH) ∧ cm' = cm)
    ⟨[], [], hpS, hpV, .nil, .nil, rfl, rfl, ml, mH, rfl⟩
    (fun i h h' m cm ⟨us, zs, h1, h2, r⟩ hk => ⟨us, zs, h1.at fun o e => hk DS m1 o e, h2.at fun o e => hk DV m2 o e, r⟩) ?_ ?_
  · rintro gc i v h₅ m₅ cm₅ k₅ E' hsub hDb hi hv ⟨us, zs, hu, hz, pu, pz, mS, mV, ml₅, mH₅, rfl⟩ hal F₅
    rw [hszW] at hi
    have hv' : wv[i]? = some v := by simpa using hv
    obtain ⟨x, hx, hxv⟩ := paired_get' hWp i v hv'
    rw [wsOf_get hi] at hx
    cases hx
    have ew : ∀ {h' : Heap} {m' : Str → Option Value} {cm' : Str → Option Value} (F' : Fm gc (lawEnv nm L fa) h' m' cm') (e : m' "word" = some v) {A : Around} {pos : Pos}, Ev w A (lawEnv nm L fa) h' (.Name "word" pos) (IsS (wordS (p + i))) := fun F' e => (ev_local F'.loc kW e).mono fun u hu => hu ▸ hxv
    have wl := word_len (q := p + i) (by omega)
    have l1 := struck_len p i
    have l2 := halved_len p i
    have l3 := pu.length
    have l4 := pz.length
    have pair : ∀ {h : Heap} {pos : Pos} {e1 e2 : Expr} {x y : Str} (h1 : Ev w A (lawEnv nm L fa) h e1 (IsS x)) (h2 : Ev w A (lawEnv nm L fa) h e2 (IsS y)) (hs1 : starEach [e1, e2] (lawEnv nm L fa) = (false, eval e1 (lawEnv nm L fa)) :: starEach [e2] (lawEnv nm L fa)) (hs2 : starEach [e2] (lawEnv nm L fa) = (false, eval e2 (lawEnv nm L fa)) :: starEach [] (lawEnv nm L fa)),
        EvK w A (lawEnv nm L fa) h (.List [e1, e2] pos) (fun v h' => ∃ b ws, v = .ref b ∧ h'.PlainList b (List.toArray ws) ∧ Paired IsS [x, y] ws) := fun h1 h2 hs1 hs2 =>
      (evk_list (evs_pair h1 h2 hs1 hs2) (fun vs hv => by rw [← hv.length, sizeLine_is]; show 2 ≤ _; decide)).mono fun v h' _ ⟨a, vs, e, _, hl, hp⟩ => ⟨a, vs, e, hl, hp⟩
    refine ex_augL F₅ kS (show up m₅ "word" v "struck" = some (Value.ref DS) from mS) hu (hDb DS m1) (pair (ev_twice wl (ew F₅ rfl) (ew F₅ rfl)) ev_str rfl rfl) (fun ws hw => by have := hw.length; simp only [List.length_cons, List.length_nil] at this; omega) fun ws h₆ k₆ hw hpl₆ hk₆ F₆ => ?_
    have hz₆ : h₆.PlainList DV zs.toArray := hz.at fun o e => hk₆ DV o (Ne.symm hne) (F₅.listOff hz).1 e
    refine ex_augL F₆ kHv (show up (up m₅ "word" v) "struck" (.ref DS) "halved" = some (Value.ref DV) from mV) hz₆ (hDb DV m2) (pair (ev_twice wl (ew F₆ rfl) (ew F₆ rfl)) (ev_tok wl (ew F₆ rfl)) rfl rfl) (fun ws hw => by have := hw.length; simp only [List.length_cons, List.length_nil] at this; omega) fun ws₂ h₇ k₇ hw₂ hpl₇ hk₇ F₇ => ?_
    have hu₇ : h₇.PlainList DS (us ++ ws).toArray := hpl₆.at fun o e => hk₇ DS o hne (F₆.listOff hpl₆).1 e
    rw [twice_is, nil_is p] at hw
    rw [twice_is, tok_is] at hw₂
    exact ex_nil ⟨_, _, _, _, rfl, F₇, ⟨us ++ ws, zs ++ ws₂, hu₇, hpl₇, paired_append pu hw, paired_append pz hw₂, rfl, rfl, ml₅, mH₅, rfl⟩, al hu₇ hpl₇⟩
  · rintro h₅ m₅ cm₅ k₅ E' ⟨us, zs, hu, hz, pu, pz, mS, mV, ml₅, mH₅, rfl⟩ hal F₅
    rw [hszW] at pu pz
    refine ex_nil ?_
    refine ex_assign F₅ kO (Ev.k ev_int) fun v h₆ h₇ k₇ hs₆ hv hsb₇ F₇ => ?_
    have lS : LS h₇ DS (struckL p 7) := ((LS.of hu pu).mono hs₆).same (F₅.mono hs₆).loc.ns hsb₇
    have lV : LS h₇ DV (halvedL p 7) := ((LS.of hz pz).mono hs₆).same (F₅.mono hs₆).loc.ns hsb₇
    obtain ⟨sv, hSp, hSi⟩ := G.sizes
    have hsz : sv.toArray.size = ns.length := by simp [← hSi.length]
    have GW := F₇.grow []
    have hgb := GW.2 (fun d hd => nomatch hd)
    have lS := growLS F₇ lS
    have lV := growLS F₇ lV
    have G' := G.mono hgb
    have lH' := lH.mono hgb
    have F₇' := GW.1
    have done' : ∀ h' k m' cm', Fm (hideAll h₇ ((lawEnv nm L fa).locals :: ((lawEnv nm L fa).cells.map (·.2) ++ []))) (lawEnv nm L fa) h' m' cm' → Q (.ret (.bool true)) { s with heap := h', toks := k } := fun h' k m' cm' F' => fin h' k m' cm' (F'.weaken hgb)
    clear GW F₇
    generalize (hideAll h₇ ((lawEnv nm L fa).locals :: ((lawEnv nm L fa).cells.map (·.2) ++ []))) = gd at hgb lS lV G' lH' F₇' done'
    refine ex_forL (n := sv.toArray.size) [] kZ F₇' (fun d hd => nomatch hd) (fun d hd => nomatch hd) (fun d hd => nomatch hd)
      (src_list hh (ev_cell F₇'.loc k3 c3 C.sizes) ((hSp.isList.at fun o e => hgb _ o e).at fun o e => F₇'.base _ o e)) (fun b hb => by rw [List.mem_singleton.mp hb]; obtain ⟨n, e⟩ := hSp; exact ⟨_, hgb _ _ e⟩)
      (fun i h m' cm' => (∃ t, m' "without" = some (.int ((xorAll (ns.take i) 0 : Nat) : Int) t)) ∧ m' "struck" = some (.ref DS) ∧ m' "halved" = some (.ref DV) ∧ m' "line" = some vl ∧ m' "halves" = some (.ref DH) ∧ cm' = cm₅)
      ⟨by obtain ⟨t, rfl⟩ := hv; exact ⟨t, rfl⟩, mS, mV, ml₅, mH₅, rfl⟩ (fun i h h' m cm r hk => r) ?_ ?_
    · rintro gc i v h₈ m₈ cm₈ k₈ E'' hsub hDb hi hv ⟨⟨tw, mO⟩, mS, mV, ml₈, mH₈, rfl⟩ hal F₈
      have hv' : sv[i]? = some v := by simpa using hv
      obtain ⟨z, hz', hzv⟩ := paired_get' hSi i v hv'
      rw [List.getElem?_map] at hz'
      cases hn : ns[i]? with
      | none => rw [hn] at hz'; cases hz'
      | some n =>
        rw [hn] at hz'
        cases hz'
        have hn16 : n < 16 := G.hns n (List.mem_of_getElem? hn)
        have ha16 : xorAll (ns.take i) 0 < 16 := xorAll_lt _ _ (by decide) fun k hk => G.hns k (List.mem_of_mem_take hk)
        refine ex_aug (V1 := IsI ((xorAll (ns.take i) 0 : Nat) : Int)) (V2 := IsI (n : Int)) (V := IsI ((xorAll (ns.take (i + 1)) 0 : Nat) : Int)) F₈ kO (show up m₈ "size" v "without" = _ from mO) ⟨tw, rfl⟩ ((ev_local F₈.loc kZ rfl).mono fun u hu => hu ▸ hzv) (fun a b s E Q ⟨t1, e1⟩ ⟨t2, e2⟩ hq => by
            subst e1; subst e2
            refine ixor_int ?_
            have e := (xor16 ⟨_, ha16⟩ ⟨n, hn16⟩).2.1
            simp only at e
            have e2 : xorAll (ns.take (i + 1)) 0 = xorAll (ns.take i) 0 ^^^ n := by rw [List.take_add_one, hn, xorAll_append]; rfl
            rw [e, ← e2]
            exact hq _ _ ⟨_, rfl⟩) fun v' h₉ k₉ hv' hsb₉ F₉ => ?_
        obtain ⟨t9, rfl⟩ := hv'
        exact ex_nil ⟨_, _, _, _, rfl, F₉, ⟨⟨t9, rfl⟩, mS, mV, ml₈, mH₈, rfl⟩, fun d hd => nomatch hd⟩
    · rintro h₈ m₈ cm₈ k₈ E'' ⟨⟨tw, mO⟩, mS, mV, ml₈, mH₈, rfl⟩ hal F₈
      rw [hsz, List.take_length] at mO
      refine ex_nil ?_
      have eL : ∀ {h' : Heap} (F' : Fm gd (lawEnv nm L fa) h' m₈ cm₈) {A : Around} {pos : Pos}, Ev w A (lawEnv nm L fa) h' (.Name "line" pos) (IsS (tx p (cnt ns))) := fun F' => (ev_local F'.loc kLi ml₈).mono fun u hu => hu ▸ hvl
      have gh := goes_halved (p := p) hp (c := cnt ns) (by omega)
      have gs := goes_struck (p := p) hp (c := cnt ns) (by omega)
      rw [odd_is G.hns] at gs
      have wh := Wt_half_le (cnt ns)
      refine ex_ifF (tst_neS (x := tx p (fun j => (cnt ns j + 1) / 2)) (evk_replace (F₈.g G'.g) room3 rfl rfl rfl (eL F₈) (ev_local F₈.loc kHv mV) (lV.mono F₈.base) (by rw [halved_len]; omega) gh)
        (fun {h'} hs => evk_line ((F₈.mono hs).g G'.g) room rfl rfl rfl hp (G'.words.mono (F₈.mono hs).base) (ev_cell (F₈.mono hs).loc k5 c5 C.words) ((Ev.k (ev_local (F₈.mono hs).loc kHs mH₈)).mono fun v h'' hs' hv => ⟨DH, hv, (lH'.mono (F₈.mono hs).base).mono hs'⟩) (by omega))) fun h₉ k₉ hs₉ => ?_
      have F₉ := F₈.mono hs₉
      refine ex_return (evk_eqS (x := tx p (bitF (xorAll ns 0))) (evk_replace (F₉.g G'.g) room3 rfl rfl rfl (eL F₉) (ev_local F₉.loc kS mS) (lS.mono F₉.base) (by rw [struck_len]; omega) gs)
        (fun {h'} hs => evk_line ((F₉.mono hs).g G'.g) room rfl rfl rfl hp (G'.words.mono (F₉.mono hs).base) (ev_cell (F₉.mono hs).loc k5 c5 C.words)
          (evk_fn1 (V1 := fun v _ => IsI (xorAll ns 0 : Nat) v) (((F₉.mono hs).g G'.g).bitsN rfl rfl rfl) ((F₉.mono hs).g G'.g).bits (Ev.k ((ev_local (F₉.mono hs).loc kO mO).mono fun u hu => ⟨tw, hu⟩)) (fun v s' hs' hv => by
            obtain ⟨t, rfl⟩ := hv
            have := c_bits (w := w) (A := A) (s := s') (n := ((xorAll ns 0 : Nat) : Int)) (t := t) (((F₉.mono hs).g G'.g).mono hs') room3
            rw [bits_is] at this
            exact fun E Q hq => this E Q fun v h' k hs'' ⟨D, e, _, hD⟩ => hq v h' k hs'' ⟨D, e, hD⟩)) (Wt_le_one fun j => by have := Nat.mod_lt (xorAll ns 0 / 2 ^ j) (y := 2) (by decide); unfold bitF; omega))) fun v hA kA hsA hv => ?_
      subst hv
      exact done' hA kA _ _ (F₉.mono hsA)
end Mine
end PartL8
section PartL9
open PySem PySem.W PyProof.Rows PySem.Calls
set_option maxRecDepth 100000
set_option linter.unusedVariables false
namespace Mine
theorem law_body {w : World} {A : Around} {s : Shared} {E : Value → Shared → Prop} {Q : Flow → Shared → Prop} {gh : Heap} {L : Addr} {nm : Str} {ns : List Int} {vs : List Value} {l : Addr} {m : Str → Option Value} {o1 o2 o3 o4 o5 : Obj} {fa : Addr} {cd : Value} {prog loose mean mg mb}
   (T : Top prog loose mean mg mb gh) (g : G w gh) (hA : Room A 20) (C : CodeHd gh 67 65) (F : Fr gh L s.heap m) (N : News gh L s.heap [(L+1+1+1+1+1, o1), (L+1+1+1+1, o2), (L+1+1+1, o3), (L+1+1, o4), (L+1, o5), (65, tabObj #[])])
   (d1 : o1.data = .cell none) (d2 : o2.data = .cell none) (d3 : o3.data = .cell none) (d4 : o4.data = .cell none) (d5 : o5.data = .cell none)
   (hm : m "script" = some (.ref l)) (hl : gh.IsList l vs.toArray) (hi : IntsAre vs ns) (hn : ns.length ≤ 63)
   (hcd : cd = .ref 67) (hQ : ∀ h' tk m' ps, Fr gh L h' m' → h'.get? 65 = some (tabObj ps) → Q (.ret (.bool true)) { s with heap := h', toks := tk }) :
   wpAny (model P w) A (execs (bodyOf 12) (envOfC nm (scopeOf 12) L fa cd)) Q E s := by
  subst hcd
  have n1 := N (L+1+1+1+1+1, o1) (by simp)
  have n2 := N (L+1+1+1+1, o2) (by simp)
  have n3 := N (L+1+1+1, o3) (by simp)
  have n4 := N (L+1+1, o4) (by simp)
  have n5 := N (L+1, o5) (by simp)
  have n6 := N (65, tabObj #[]) (by simp)
  have t65 : s.heap.get? 65 = some (tabObj #[]) := n6.1
  have g65 : gh.get? 65 = none := n6.2.2
  have hL65 : (65 : Addr) ≠ L := n6.2.1
  have cells : (lawEnv nm L fa).cells = [(("words" : Str), L+1+1+1+1+1), ("place", L+1+1+1+1), ("sizes", L+1+1+1), ("k", L+1+1), ("drawn", L+1)] := rfl
  have apart65 : ∀ {c : Addr} {o : Obj}, s.heap.get? c = some o → o.data = .cell none → (65 : Addr) ≠ c := fun e d q => by
    rw [← q, t65] at e; cases e; cases d
  have hC65 : (65 : Addr) ∉ (lawEnv nm L fa).cells.map (·.2) := by
    rw [cells]
    intro hm
    simp only [List.map_cons, List.map_nil, List.mem_cons, List.not_mem_nil, or_false] at hm
    rcases hm with q | q | q | q | q
    · exact apart65 n1.1 d1 q
    · exact apart65 n2.1 d2 q
    · exact apart65 n3.1 d3 q
    · exact apart65 n4.1 d4 q
    · exact apart65 n5.1 d5 q
  have F0 : Fm gh (lawEnv nm L fa) s.heap m (fun _ => none) := by
    refine ⟨⟨rfl, F.ns, fun n c e => ?_⟩, fun b o e => F.keep b o e, Heap.get?_none_of_le F.above, fun p hp => ?_, ?_, fun p hp => ?_⟩
    · have hm := mem_of_lookup e
      rw [cells] at hm
      simp only [List.mem_cons, List.not_mem_nil, or_false, Prod.mk.injEq] at hm
      rcases hm with ⟨_, q⟩ | ⟨_, q⟩ | ⟨_, q⟩ | ⟨_, q⟩ | ⟨_, q⟩
      · rw [q]; exact ⟨_, n1.1, d1⟩
      · rw [q]; exact ⟨_, n2.1, d2⟩
      · rw [q]; exact ⟨_, n3.1, d3⟩
      · rw [q]; exact ⟨_, n4.1, d4⟩
      · rw [q]; exact ⟨_, n5.1, d5⟩
    · rw [cells] at hp
      simp only [List.mem_cons, List.not_mem_nil, or_false] at hp
      rcases hp with rfl | rfl | rfl | rfl | rfl
      · exact n1.2.2
      · exact n2.2.2
      · exact n3.2.2
      · exact n4.2.2
      · exact n5.2.2
    · rw [cells]
      have key : ∀ L : Nat, List.Pairwise (fun x y : Str × Nat => x.2 ≠ y.2) [(("words" : Str), L+1+1+1+1+1), ("place", L+1+1+1+1), ("sizes", L+1+1+1), ("k", L+1+1), ("drawn", L+1)] := fun L => by
        simp only [List.pairwise_cons, List.mem_cons, List.not_mem_nil, or_false]
        refine ⟨?_, ?_, ?_, ?_, ?_, List.Pairwise.nil⟩ <;> intro y hy
        · rcases hy with rfl | rfl | rfl | rfl <;> simp <;> omega
        · rcases hy with rfl | rfl | rfl <;> simp <;> omega
        · rcases hy with rfl | rfl <;> simp <;> omega
        · subst hy; simp
        · exact hy.elim
      exact key L
    · rw [cells] at hp
      simp only [List.mem_cons, List.not_mem_nil, or_false] at hp
      rcases hp with rfl | rfl | rfl | rfl | rfl <;> rfl
  have lam : LamTop gh := by
    obtain ⟨bm, ob, b1, b2, b3, b4, b5, b6⟩ := T.bmain
    refine ⟨mg, T.g, C, bm, ob, b1, b2, fun q => ?_, fun q => ?_, b3, b4, b5, b6⟩
    · obtain ⟨o, es, ep, e, hd, _⟩ := T.g
      rw [q, e] at b3; cases b3; rw [hd] at b6; cases b6
    · rw [q, g65] at b3; cases b3
  refine Wp.run (segA F0 g lam hA hm ⟨vs, hl, paired_ints hi⟩ hn fun gb h₁ k₁ m₁ cm₁ F₁ ⟨sub₁, keep₁, p, nz, S, W, G₁, C₁⟩ => ?_)
  have e65 := keep₁ 65 _ hL65 hC65 t65
  refine segB F₁ G₁ C₁ hA fun gb₂ h₂ k₂ m₂ cm₂ F₂ ⟨eg, C₂, DL, DD, zs, mL, pL, qL, mD, pD, gD, hne⟩ => ?_
  subst eg
  have subc : Sub (hideAll gb₂ [65]) gb₂ := fun b o e => of_hideAll _ e
  have subh : Sub gh (hideAll gb₂ [65]) := fun b o e => hideAll_get _ (sub₁ b o e) fun hm => by rw [List.mem_singleton.mp hm, g65] at e; cases e
  have not65 : ∀ {D : Addr} {ys : Array Value}, gb₂.IsList D ys → D ∉ [(65 : Addr)] := fun hl hm => by
    obtain ⟨o', e', hc', _⟩ := hl
    rw [List.mem_singleton.mp hm, e65.2] at e'; cases e'; cases hc'
  have G₂ : LG w (hideAll gb₂ [65]) p nz S W := by
    obtain ⟨ys, a, b⟩ := G₁.sizes
    obtain ⟨ws, a', b'⟩ := G₁.words
    exact ⟨g.mono subh, lam.mono subh, G₁.hp, G₁.hns, G₁.len, ⟨ys, a.at fun o e => hideAll_get _ e (not65 a.isList), b⟩, ⟨ws, a'.at fun o e => hideAll_get _ e (not65 a'), b'⟩⟩
  refine segC (F₂.weaken subc) G₂ C₂ hA (hideAll_none _ (by simp)) (F₂.base _ _ e65.2) hL65 hC65 mL pL qL mD pD (by
    cases e : (hideAll gb₂ [65]).get? DD with
    | none => rfl
    | some o => have := subc _ _ e; rw [gD] at this; cases this) hne fun gb₃ h₃ k₃ m₃ cm₃ F₃ ⟨eg, C₃, tb₃, DL₃, us, vs₃, mL₃, pL₃, qL₃, mD₃, pD₃, qD₃⟩ => ?_
  subst eg
  refine segD F₃ G₂ C₃ hA tb₃ hL65 hC65 mL₃ pL₃ qL₃ mD₃ pD₃ qD₃ fun gb₄ h₄ k₄ m₄ cm₄ F₄ ⟨sub₄, tb₄, C₄, vl, mLi, hvl⟩ => ?_
  refine segE F₄ (G₂.mono sub₄) C₄ hA mLi fun gb₅ h₅ k₅ m₅ cm₅ F₅ ⟨sub₅, C₅, mLi₅, R, Fa, Tu, mR, lR, mF, lF, mT, lT⟩ => ?_
  have G₅ := (G₂.mono sub₄).mono sub₅
  refine segF F₅ G₅ C₅ hA mLi₅ hvl mR lR fun gb₆ h₆ k₆ m₆ cm₆ F₆ ⟨eg, ec, mx, tm, mM⟩ => ?_
  subst eg ec
  refine segG F₆ G₅ C₅ hA ((mx _ (by decide)).trans mLi₅) ((mx _ (by decide)).trans mF) ((mx _ (by decide)).trans mT) mM fun gb₇ h₇ k₇ m₇ cm₇ F₇ ⟨sub₇, ec, mLi₇, mF₇, mT₇, mM₇, mN₇, ⟨DH, mH₇, lH₇⟩, DC, mC₇, lC₇⟩ => ?_
  subst ec
  have G₇ := G₅.mono sub₇
  refine segH F₇ G₇ C₅ hA mLi₇ hvl mF₇ (lF.mono sub₇) mT₇ (lT.mono sub₇) mM₇ mN₇ mH₇ mC₇ lC₇ fun gb₈ h₈ k₈ m₈ cm₈ F₈ ⟨eg, ec, mLi₈, mH₈⟩ => ?_
  subst eg ec
  refine segI F₈ G₇ C₅ hA mLi₈ hvl mH₈ lH₇ fun h' k' m' cm' F' => ?_
  obtain ⟨ps, e⟩ := tb₄
  exact hQ h' k' m' ps ⟨F'.loc.ns, fun b o e => F'.base _ _ (sub₇ _ _ (sub₅ _ _ (sub₄ _ _ (subh _ _ e)))), F.above⟩ (F'.base _ _ (sub₇ _ _ (sub₅ _ _ e)))
end Mine
end PartL9
section PartMkG
open PySem PySem.W PyProof.Rows
set_option maxRecDepth 100000
set_option linter.unusedVariables false
namespace Mine
theorem fnAt_of {gh : Heap} {a c : Addr} {i : Nat} {o oc : Obj} (nm q doc pm an ct) (h1 : gh.get? a = some o) (h2 : o.data = .func (fnOf nm q (paramsOf i) (bodyOf i) (scopeOf i) .none .none doc pm an (.ref c) ct)) (h3 : gh.get? c = some oc) {vs t} (h4 : oc.data = .fields vs) (h5 : vs[1]? = some (.str q t)) : FnAt gh a i :=
  ⟨o, nm, q, doc, pm, an, .ref c, ct, h1, h2, c, oc, vs, t, rfl, h3, h4, h5⟩
section
variable {w : World} {gh : Heap} {prog loose mean mg mb}
theorem fn21 (X : (Mine.hd.heap_39 w.params).In gh) : FnAt gh 21 1 := fnAt_of (c := 20) "replace" "replace" _ _ _ _ (X 21 _ rfl) rfl (X 20 _ rfl) rfl rfl
theorem fn28 (X : (Mine.hd.heap_39 w.params).In gh) : FnAt gh 28 2 := fnAt_of (c := 27) "_split_list" "_split_list" _ _ _ _ (X 28 _ rfl) rfl (X 27 _ rfl) rfl rfl
theorem fn36 (X : (Mine.hd.heap_39 w.params).In gh) : FnAt gh 36 5 := fnAt_of (c := 35) "pretty_flags" "pretty_flags" _ _ _ _ (X 36 _ rfl) rfl (X 35 _ rfl) rfl rfl
theorem fn43 (X : (Mine.hd.heap_39 w.params).In gh) : FnAt gh 43 7 := fnAt_of (c := 42) "_law_word" "_law_word" _ _ _ _ (X 43 _ rfl) rfl (X 42 _ rfl) rfl rfl
theorem fn48 (X : (Mine.hd.heap_39 w.params).In gh) : FnAt gh 48 8 := fnAt_of (c := 47) "_law_bits" "_law_bits" _ _ _ _ (X 48 _ rfl) rfl (X 47 _ rfl) rfl rfl
theorem fn53 (X : (Mine.hd.heap_39 w.params).In gh) : FnAt gh 53 9 := fnAt_of (c := 52) "_law_told" "_law_told" _ _ _ _ (X 53 _ rfl) rfl (X 52 _ rfl) rfl rfl
theorem fn58 (X : (Mine.hd.heap_39 w.params).In gh) : FnAt gh 58 10 := fnAt_of (c := 57) "_law_line" "_law_line" _ _ _ _ (X 58 _ rfl) rfl (X 57 _ rfl) rfl rfl
theorem fn63 (X : (Mine.hd.heap_39 w.params).In gh) : FnAt gh 63 11 := fnAt_of (c := 62) "_law_carried" "_law_carried" _ _ _ _ (X 63 _ rfl) rfl (X 62 _ rfl) rfl rfl

def flagToks : List (Int × Str × Tok × Tok) := [(1, "OPTIMIZED", 210, 211), (2, "NEWLOCALS", 212, 213), (4, "VARARGS", 214, 215), (8, "VARKEYWORDS", 216, 217), (16, "NESTED", 218, 219), (32, "GENERATOR", 220, 221), (64, "NOFREE", 222, 223), (128, "COROUTINE", 224, 225), (256, "ITERABLE_COROUTINE", 226, 227), (512, "ASYNC_GENERATOR", 228, 229)]
def flagEntry (p : Int × Str × Tok × Tok) : DictEntry := { hash := p.1, key := .int p.1 p.2.2.1, val := .str p.2.1 p.2.2.2 }
theorem flag_find (k : Int) : ∀ l : List (Int × Str × Tok × Tok), findBy Value.isInt (l.map flagEntry).toArray k = ((l.find? fun p => p.1 == k).map fun p => .str p.2.1 p.2.2.2)
  | [] => rfl
  | p :: r => by
    have ih := flag_find k r
    unfold findBy at ih ⊢
    rw [List.find?_toArray] at ih ⊢
    rw [List.map_cons, List.find?_cons, List.find?_cons]
    have e : Value.isInt k (flagEntry p).key = (p.1 == k) := by
      simp [flagEntry, Value.isInt]
    rw [e]
    cases (p.1 == k) with
    | true => rfl
    | false => exact ih
theorem flag_look (k : Int) : ∀ l : List (Int × Str × Tok × Tok), (l.map fun p => (p.1, p.2.1)).lookup k = (l.find? fun p => p.1 == k).map fun p => p.2.1
  | [] => rfl
  | p :: r => by
    rw [List.map_cons, List.lookup_cons, List.find?_cons]
    have e : (k == p.1) = (p.1 == k) := BEq.comm
    rw [e]
    cases (p.1 == k) with
    | true => rfl
    | false => exact flag_look k r
theorem tab29 (X : (Mine.hd.heap_39 w.params).In gh) : ∃ f, gh.MapOf (intKind P w) 29 f ∧ (∀ k x, flagTab.lookup k = some x → ∃ t, f k = some (.str x t)) ∧ (∀ k, flagTab.lookup k = none → f k = none) := by
  have e : flagTab = flagToks.map fun p => (p.1, p.2.1) := rfl
  refine ⟨fun k => ((flagToks.find? fun (p : Int × Str × Tok × Tok) => p.1 == k).map fun (p : Int × Str × Tok × Tok) => Value.str p.2.1 p.2.2.2), ⟨_, (flagToks.map flagEntry).toArray, 10, X 29 _ rfl, ⟨rfl, rfl, rfl⟩, rfl, ?_, fun k => flag_find k _⟩, fun k x h => ?_, fun k h => ?_⟩
  · intro e he
    have he : e ∈ flagToks.map flagEntry := by simpa using he
    obtain ⟨p, hp, rfl⟩ := List.mem_map.mp he
    refine ⟨p.1, intKind_is P w _ _, ?_⟩
    have : ∀ p ∈ flagToks, hashInt p.1 = p.1 := by decide
    exact (this p hp).symm
  · rw [e, flag_look] at h
    cases hf : (flagToks.find? fun p => p.1 == k) with
    | none => rw [hf] at h; cases h
    | some p => rw [hf] at h; cases h; exact ⟨p.2.2.2, by simp [hf]⟩
  · rw [e, flag_look] at h
    cases hf : (flagToks.find? fun p => p.1 == k) with
    | none => simp [hf]
    | some p => rw [hf] at h; cases h
theorem mk_G (T : Top prog loose mean mg mb gh) (X : (Mine.hd.heap_39 w.params).In gh) : G w gh where
  lim := T.nolimit
  ns := by
    refine ⟨mg, mb, T.g, T.b, ⟨?_, ?_, ?_, ?_, ?_, ?_, ?_, ?_, ?_⟩, ⟨?_, ?_, ?_, ?_, ?_⟩, ⟨?_, ?_, ?_, ?_, ?_⟩⟩
    iterate 9 exact mg_of X T.g rfl
    iterate 5 exact ns_none_of X T.g rfl
    all_goals exact (T.builtins _ (by decide)).trans (by decide +kernel)
  replace := fn21 X
  splitList := fn28 X
  flags := fn36 X
  word := fn43 X
  bits := fn48 X
  told := fn53 X
  line := fn58 X
  carried := fn63 X
  tab := tab29 X
end
end Mine
end PartMkG
section PartFin1
open PySem PySem.W PyProof.Rows
set_option maxRecDepth 100000
set_option maxHeartbeats 2000000 in
theorem PySem.Challenge.cw_ph0026_01_holds : PySem.Challenge.rw_ph0026_01.Holds :=
  Mine.hd (by
  k_go0
  rename Top topProg _ _ _ _ _ => T
  rename Frag.In _ _ => X
  rename CodeHd _ _ _ => C
  rename Fr _ _ _ _ => F
  rename News _ _ _ _ => N
  rename IntsAre _ _ => hI
  rename Heap.IsList (ghostOf _ _) _ _ => hl
  have g := Mine.mk_G T X
  refine Mine.law_body T g ?room C F N ?d1 ?d2 ?d3 ?d4 ?d5 ?hm hl hI ?len ?cd ?fin
  case fin =>
    intro h' tk m' ps F' hP
    dsimp only
    refine ⟨?_, ⟨_, hP⟩, trivial⟩
    wrow_close
  case room => exact ⟨rfl, (show callerA.depth + 1 + 20 < recursionLimit from by decide), (show callerA.units + 3 + 10 * 20 < cLine from by decide)⟩
  case len => omega
  case cd => rfl
  case hm => rfl
  all_goals assumption)
end PartFin1
