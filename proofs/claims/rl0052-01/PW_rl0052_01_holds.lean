import PyProof.Rows.All
import Wide.All
import OpenK.AllK
import Wide.FinOn
import PySem.Challenge.RW_rl0052_01
set_option Elab.async false
section
open PySem PySem.W PySem.Calls PyProof.Rows
set_option maxRecDepth 100000
set_option Elab.async false
namespace Mine

/-! the text's defs, out of the program's term -/
def theDefAt (n : Nat) : Arguments × List Stmt × Scope := match PySem.Challenge.pw_rl0052_01.main.body[n]? with
  | some (.FunctionDef _ a b _ _ _ sc _ _ _) => (a, b, sc)
  | _ => (⟨[], [], none, [], [], none, []⟩, [], default)
def theMethAt (n k : Nat) : Arguments × List Stmt × Scope := match PySem.Challenge.pw_rl0052_01.main.body[n]? with
  | some (.ClassDef _ _ _ b _ _ _ _ _ _ _) => (match b[k]? with
    | some (.FunctionDef _ a b _ _ _ sc _ _ _) => (a, b, sc)
    | _ => (⟨[], [], none, [], [], none, []⟩, [], default))
  | _ => (⟨[], [], none, [], [], none, []⟩, [], default)

/-- what a call leaves as it was -/
structure Kp (T : List Addr) (s s' : Shared) : Prop where
  keep : ∀ b o, b ∉ T → s.heap.get? b = some o → s'.heap.get? b = some o
  os : s'.os = s.os
  gens : AllBare s.gens → AllBare s'.gens
theorem Kp.refl {T : List Addr} {s : Shared} : Kp T s s := ⟨fun _ _ _ e => e, rfl, id⟩
theorem Kp.all {s s' : Shared} (k : Kp [] s s') (b : Addr) (o : Obj) (e : s.heap.get? b = some o) : s'.heap.get? b = some o := k.keep b o (List.not_mem_nil) e
theorem Kp.trans {T : List Addr} {s s' s'' : Shared} (k : Kp T s s') (k' : Kp T s' s'') : Kp T s s'' :=
  ⟨fun b o n e => k'.keep b o n (k.keep b o n e), k'.os.trans k.os, fun g => k'.gens (k.gens g)⟩
theorem Kp.mono {T T' : List Addr} {s s' : Shared} (k : Kp T s s') (h : ∀ x ∈ T, x ∈ T') : Kp T' s s' :=
  ⟨fun b o n e => k.keep b o (fun q => n (h b q)) e, k.os, k.gens⟩
theorem Kp.of {T : List Addr} {s : Shared} {h' : Heap} {tk : Nat} (k : ∀ b o, b ∉ T → s.heap.get? b = some o → h'.get? b = some o) : Kp T s { s with heap := h', toks := tk } := ⟨k, rfl, id⟩
theorem Kp.fr {s s' : Shared} {L : Addr} {m : Str → Option Value} {h₀ : Heap} (k : Kp [] s s') (F : Fr h₀ L s.heap m) : Fr h₀ L s'.heap m := ⟨F.ns.keeps k.all, fun b o e => k.all b o (F.keep b o e), F.above⟩
theorem Kp.news {s s' : Shared} {L : Addr} {h₀ : Heap} {news : List (Addr × Obj)} (k : Kp [] s s') (N : News h₀ L s.heap news) : News h₀ L s'.heap news := fun p hp => ⟨k.all _ _ (N p hp).1, (N p hp).2⟩

/-- room on the stack -/
def Rm (n : Nat) (A : Around) : Prop := A.depth + n ≤ 1000 ∧ A.units + 10 * n ≤ 9900 ∧ A.handled = none
theorem Rm.deeper {n : Nat} {A : Around} (h : Rm (n + 1) A) (env : Env) : Rm n (A.deeper env) := by
  obtain ⟨a, b, c⟩ := h
  exact ⟨by show A.depth + 1 + n ≤ 1000; omega, by show A.units + 3 + 10 * n ≤ 9900; omega, c⟩
theorem Rm.in1 {n : Nat} {A : Around} (h : Rm (n + 1) A) : Rm n A.in1 := by
  obtain ⟨a, b, c⟩ := h
  exact ⟨by show A.depth + n ≤ 1000; omega, by show A.units + 1 + 10 * n ≤ 9900; omega, c⟩
theorem Rm.less {n k : Nat} {A : Around} (h : Rm n A) (hk : k ≤ n) : Rm k A := by
  obtain ⟨a, b, c⟩ := h
  exact ⟨by omega, by omega, c⟩
theorem Rm.room {n : Nat} {A : Around} (h : Rm (n + 1) A) : A.depth < recursionLimit := by
  obtain ⟨a, b, c⟩ := h
  show A.depth < 1000
  omega
theorem Rm.units {n : Nat} {A : Around} (h : Rm (n + 1) A) : A.units < cLine := by
  obtain ⟨a, b, c⟩ := h
  show A.units < 9900
  omega

/-- a def of the text stands at f -/
inductive FnAt (h : Heap) (f : Addr) (name qual : Str) (d : Arguments × List Stmt × Scope) (cl : List (Str × Addr)) (dV kV cdv : Value) : Prop
  | mk (o : Obj) (doc pm : Value) (an : Option Addr) (ct : Value) (h1 : h.get? f = some o) (h2 : o.data = .func (fnX name qual d.1 d.2.1 d.2.2 cl dV kV doc pm an cdv ct)) (h3 : h.CodeRec cdv qual) : FnAt h f name qual d cl dV kV cdv
theorem FnAt.keeps {h h' : Heap} {f : Addr} {name qual : Str} {d : Arguments × List Stmt × Scope} {cl : List (Str × Addr)} {dV kV cdv : Value} (x : FnAt h f name qual d cl dV kV cdv)
    (k : ∀ b o, h.get? b = some o → h'.get? b = some o) : FnAt h' f name qual d cl dV kV cdv :=
  let ⟨o, doc, pm, an, ct, h1, h2, h3⟩ := x
  ⟨o, doc, pm, an, ct, k _ _ h1, h2, h3.keeps k⟩

section
variable {prog : Program} {w : World} {A : Around} {s : Shared} {R : Result → Shared → Prop} {f : Addr} {name qual : Str} {d : Arguments × List Stmt × Scope} {cl : List (Str × Addr)} {dV kV cdv : Value} {args : Args} {binds : List (Str × Value)}
def retV : Flow → Value
  | .ret v => v
  | _ => .none
theorem callF {n : Nat} (hf : FnAt s.heap f name qual d cl dV kV cdv) (hlim : s.heap.NoLimit) (hr : Rm (n + 1) A)
    (hbind : ∀ doc pm an ct, BindsTo s (fnX name qual d.1 d.2.1 d.2.2 cl dV kV doc pm an cdv ct) args binds)
    (h : ∀ L h₁, L = s.heap.objs.size → Fr s.heap L h₁ (fun x => binds.reverse.lookup x) → Rm n (A.deeper (envX qual d.2.2 L f cdv cl)) →
      wpAny (model prog w) (A.deeper (envX qual d.2.2 L f cdv cl)) (execs d.2.1 (envX qual d.2.2 L f cdv cl)) (fun fl s' => R (.ok (.ret (retV fl))) s') (fun _ _ => False)
        { s with heap := h₁, toks := s.toks + binds.length })
    (hcell : ∀ x ∈ d.2.2.names, x.2 ≠ .cell) (hloc : ∀ x ∈ binds, d.2.2.names.lookup x.1 = some .local)
    (hco : d.2.2.isCoroutine = false := by rfl) (hgen : d.2.2.isGenerator = false := by rfl) (hk : d.2.2.kind = .function := by rfl) :
    codeAny (model prog w) A (.call (.ref f) args) R s := by
  obtain ⟨o, doc, pm, an, ct, h1, h2, h3⟩ := hf
  refine codeAny_call_def hr.room h1 h2 hlim h3 rfl (hbind doc pm an ct) hcell hloc (fun h₁ hns hk₁ => ?_) hco hgen hk
  refine wpAny_mono (h _ h₁ rfl ⟨hns, hk₁, Nat.le_refl _⟩ (hr.deeper _)) (fun fl s' q => ?_) fun _ _ x => x.elim
  cases fl <;> exact q
end

section
variable {M : Model} {A : Around} {E : Value → Shared → Prop} {s : Shared} {env : Env} {x : Str} {pos : Pos} {v : Value} {Q : Value → Shared → Prop} {m mg mb : Str → Option Value} {c : Addr}
theorem ldL (hn : s.heap.Ns env.locals m) (hv : m x = some v) (h : Q v s) (hk : env.scope.kind = .function := by rfl) (hx : env.kindOf x = some .local := by rfl) (hd : (x == ("__debug__" : Str)) = false := by decide) :
    wpAny M A (eval (.Name x pos) env) Q E s := wpAny_Name (wpAny_loadName_local hk hx hn hv h) hd
theorem ldG (hg : s.heap.Ns env.globals mg) (hv : mg x = some v) (h : Q v s) (hk : env.scope.kind = .function := by rfl) (hx : env.kindOf x = some .globalImplicit := by rfl) (hd : (x == ("__debug__" : Str)) = false := by decide) :
    wpAny M A (eval (.Name x pos) env) Q E s := Name_function_global hk hx (loadGlobal_global hg hv h) hd
theorem ldB (hg : s.heap.Ns env.globals mg) (hm : mg x = none) (hb : s.heap.Ns env.builtins mb) (hv : mb x = some v) (h : Q v s) (hk : env.scope.kind = .function := by rfl) (hx : env.kindOf x = some .globalImplicit := by rfl) (hd : (x == ("__debug__" : Str)) = false := by decide) :
    wpAny M A (eval (.Name x pos) env) Q E s := Name_function_global hk hx (loadGlobal_builtin hg hm hb hv h) hd
theorem ldC (hc : env.cells.lookup x = some c) (hv : s.heap.IsCell c (some v)) (h : Q v s) (hk : env.scope.kind = .function := by rfl) (hx : env.kindOf x = some .cell := by rfl) (hd : (x == ("__debug__" : Str)) = false := by decide) :
    wpAny M A (eval (.Name x pos) env) Q E s := wpAny_Name (wpAny_loadName_cell hk hx hc hv h) hd
theorem ldF (hc : env.cells.lookup x = some c) (hv : s.heap.IsCell c (some v)) (h : Q v s) (hk : env.scope.kind = .function := by rfl) (hx : env.kindOf x = some .free := by rfl) (hd : (x == ("__debug__" : Str)) = false := by decide) (hn : (x == ("__classdict__" : Str)) = false := by decide) :
    wpAny M A (eval (.Name x pos) env) Q E s := wpAny_Name (wpAny_loadName_free hk hx hc hv h hn) hd
end

abbrev dSC := theDefAt 5
abbrev dSX := theDefAt 6

section
variable {prog : Program} {w : World} {A : Around} {s : Shared} {f : Addr} {cdv : Value}
theorem strcoll_spec {n : Nat} {x y : Str} {t u : Tok} {R : Result → Shared → Prop} (hf : FnAt s.heap f "_strcoll" "_strcoll" dSC [] .none .none cdv) (hlim : s.heap.NoLimit) (hr : Rm (n + 1) A)
    (h : ∀ s' tk, Kp [] s s' → R (.ok (.ret (.int (b2i (decide (y.cps.toList < x.cps.toList)) - b2i (decide (x.cps.toList < y.cps.toList))) tk))) s') :
    codeAny (model prog w) A (.call (.ref f) ⟨[.str x t, .str y u], []⟩) R s := by
  refine callF (binds := [("a", .str x t), ("b", .str y u)]) hf hlim hr (fun _ _ _ _ => BindsTo.of_eq rfl) (fun L h₁ hL F hr' => ?_) (by decide) (locs rfl)
  refine wpAny_execs_cons (wpAny_Return_some (wpAny_BinOp (wpAny_Compare1 ?_)))
  refine ldL F.ns rfl (ldL F.ns rfl (PySem.P.gt_str ?_))
  refine wpAny_Compare1 (ldL F.ns rfl (ldL F.ns rfl (lt_str ?_)))
  refine sub_bool ?_
  exact h _ _ ⟨fun b o _ e => F.keep b o e, rfl, id⟩
theorem strxfrm_spec {n : Nat} {v : Value} {R : Result → Shared → Prop} (hf : FnAt s.heap f "_strxfrm" "_strxfrm" dSX [] .none .none cdv) (hlim : s.heap.NoLimit) (hr : Rm (n + 1) A)
    (h : ∀ s', Kp [] s s' → R (.ok (.ret v)) s') : codeAny (model prog w) A (.call (.ref f) ⟨[v], []⟩) R s := by
  refine callF (binds := [("s", v)]) hf hlim hr (fun _ _ _ _ => BindsTo.of_eq rfl) (fun L h₁ hL F hr' => ?_) (by decide) (locs rfl)
  exact wpAny_execs_cons (wpAny_Return_some (ldL F.ns rfl (h _ ⟨fun b o _ e => F.keep b o e, rfl, id⟩)))
end
end Mine
end
section
open PySem PySem.W PySem.Calls PyProof.Rows
set_option maxRecDepth 100000
set_option Elab.async false
set_option linter.unusedVariables false
namespace Mine
abbrev dIR := theDefAt 1
abbrev dBR := theDefAt 2
abbrev dBL := theDefAt 3

def upd (m : Str → Option Value) (x : Str) (v : Value) : Str → Option Value := fun y => if y = x then some v else m y

/-- in a frame L, its names m; since the state s₀ nothing but T has turned -/
structure Loc (s₀ : Shared) (T : List Addr) (L : Addr) (m : Str → Option Value) (s : Shared) : Prop where
  ns : s.heap.Ns L m
  kp : Kp T s₀ s
  above : s₀.heap.objs.size ≤ L
theorem none_of_le {h : Heap} {L : Addr} (h' : h.objs.size ≤ L) : h.get? L = none := Heap.get?_none_of_le h'
theorem Loc.fresh {s₀ s : Shared} {T : List Addr} {L : Addr} {m : Str → Option Value} (I : Loc s₀ T L m s) : s₀.heap.get? L = none := none_of_le I.above
theorem Loc.old {s₀ s : Shared} {L : Addr} {m : Str → Option Value} (I : Loc s₀ [] L m s) (b : Addr) (o : Obj) (e : s₀.heap.get? b = some o) : s.heap.get? b = some o := I.kp.all b o e
theorem Loc.tok {s₀ s : Shared} {T : List Addr} {L : Addr} {m : Str → Option Value} (I : Loc s₀ T L m s) {tk : Nat} : Loc s₀ T L m { s with toks := tk } := ⟨I.ns, ⟨I.kp.keep, I.kp.os, I.kp.gens⟩, I.above⟩
/-- behind a call that turns nothing -/
theorem Loc.call {s₀ s s' : Shared} {T : List Addr} {L : Addr} {m : Str → Option Value} (I : Loc s₀ T L m s) (k : Kp [] s s') : Loc s₀ T L m s' :=
  ⟨I.ns.keeps k.all, ⟨fun b o n e => k.all b o (I.kp.keep b o n e), k.os.trans I.kp.os, fun g => k.gens (I.kp.gens g)⟩, I.above⟩
theorem Loc.start {s : Shared} {L : Addr} {h₁ : Heap} {m : Str → Option Value} {tk : Nat} (F : Fr s.heap L h₁ m) : Loc s [] L m { s with heap := h₁, toks := tk } := ⟨F.ns, ⟨fun b o _ e => F.keep b o e, rfl, id⟩, F.above⟩

def SameL (L : Addr) (s s' : Shared) : Prop := ∀ b, b ≠ L → s'.heap.get? b = s.heap.get? b

section
variable {M : Model} {A : Around} {E : Value → Shared → Prop} {s s₀ : Shared} {env : Env} {x : Str} {v : Value} {m : Str → Option Value} {L : Addr} {T : List Addr}
/-- a name of the frame is stored -/
theorem stL {Q : Unit → Shared → Prop} (I : Loc s₀ T env.locals m s) (h : ∀ s', Loc s₀ T env.locals (upd m x v) s' → SameL env.locals s s' → Q () s')
    (hk : env.scope.kind = .function := by rfl) (hx : env.kindOf x = some .local := by rfl) : wpAny M A (storeName env x v) Q E s :=
  wpAny_storeName_local hx I.ns (fun h' hn hs => h _ ⟨hn, ⟨fun b o n e => (hs.2 b (fun q => by have := I.fresh; rw [q, this] at e; cases e)).trans (I.kp.keep b o n e), I.kp.os, I.kp.gens⟩, I.above⟩ hs.2) (by rw [hk]; rfl)
/-- x = value -/
theorem setL {Q : Flow → Shared → Prop} {e : Expr} {rest : List Stmt} {p1 p2 : Pos} (h : wpAny M A (eval e env) (fun v s₁ => wpAny M A (storeName env x v) (fun _ s₂ => wpAny M A (execs rest env) Q E s₂) E s₁) E s)
    (hs : swapsWith e (some (.Name x p1)) p2.line env = pure false := by rfl) : wpAny M A (execs (.Assign [.Name x p1] e p2 :: rest) env) Q E s := wpAny_execs_cons (wpAny_Assign_Name h hs)
end

structure Glo (h : Heap) (mg mb : Str → Option Value) : Prop where
  g : h.Ns mainGlobals mg
  b : h.Ns builtinsNs mb
  lim : h.NoLimit
  bi : ∀ x : Str, x ≠ "__name__" → mb x = bootBuiltins x
theorem Glo.keeps {h h' : Heap} {mg mb : Str → Option Value} (x : Glo h mg mb) (k : ∀ b o, h.get? b = some o → h'.get? b = some o) : Glo h' mg mb := ⟨x.g.keeps k, x.b.keeps k, x.lim.keeps k, x.bi⟩

section
variable {prog : Program} {w : World} {A : Around} {E : Value → Shared → Prop} {s s₀ : Shared}

/-- x < y comes out as b -/
def LtIs (prog : Program) (w : World) (x y : Value) (b : Bool) : Prop := ∀ (A : Around) (E : Value → Shared → Prop) (s : Shared) (Q : Value → Shared → Prop), Q (.bool b) s → wpAny (model prog w) A (compareOp .Lt x y) Q E s
theorem LtIs.int (a b : Int) (t u : Tok) : LtIs prog w (.int a t) (.int b u) (decide (a < b)) := fun _ _ _ _ h => lt_int h
theorem LtIs.str (x y : Str) (t u : Tok) : LtIs prog w (.str x t) (.str y u) (decide (x.cps.toList < y.cps.toList)) := fun _ _ _ _ h => lt_str h

/-- the call of k on v gives something that P holds of, and leaves all as it was -/
def KeyOk (prog : Program) (w : World) (n : Nat) (s : Shared) (k v : Value) (P : Value → Prop) : Prop :=
  ∀ (A : Around) (s' : Shared) (Q : Value → Shared → Prop), Rm n A → Kp [] s s' → (∀ r s'', Kp [] s' s'' → P r → Q r s'') → wpAny (model prog w) A (call k [v]) Q (fun _ _ => False) s'

/-- the value that bisect looks at, at place i: the item, or the key's answer -/
def Probe (prog : Program) (w : World) (n : Nat) (s : Shared) (kv : Value) (items : Array Value) (lo hi : Nat) (P : Nat → Value → Prop) : Prop :=
  (kv = .none ∧ ∀ i v, lo ≤ i → i < hi → items[i]? = some v → P i v) ∨
  (∃ q o fd, kv = .ref q ∧ s.heap.get? q = some o ∧ o.data = .func fd ∧ ∀ i v, lo ≤ i → i < hi → items[i]? = some v → KeyOk prog w n s kv v (P i))

theorem lst_item {value slice : Expr} {l : Addr} {items : Array Value} {k : Int} {u : Tok} {x : Value} {Q : Value → Shared → Prop} (hl : s.heap.IsList l items) (h0 : 0 ≤ k) (hfit : k < 2 ^ 63) (hx : items[k.toNat]? = some x) (h : Q x s)
    (hs : subscripted slice false (.ref l) (.int k u) = operate [.ref l, .int k u] (getItem (.ref l) (.int k u)) := by with_unfolding_all rfl) :
    wpAny (model prog w) A (subscriptTail value slice (.ref l) (.int k u)) Q E s := tail_any hl.typeIs slot_list_getitem.lookup (wpAny_getItem_list hl h0 hfit hx h) hs

inductive BisInv (s₀ : Shared) (L a : Addr) (xv kv : Value) (c : Nat → Bool) (lo₀ hi₀ : Nat) (n : Nat) (s : Shared) : Prop
  | mk (m : Str → Option Value) (lo hi : Nat) (t u : Tok) (F : Loc s₀ [] L m s) (e1 : m "a" = some (.ref a)) (e2 : m "x" = some xv) (e3 : m "key" = some kv) (e4 : m "lo" = some (.int lo t)) (e5 : m "hi" = some (.int hi u))
    (e6 : n = hi - lo) (e7 : lo₀ ≤ lo) (e8 : lo ≤ hi) (e9 : hi ≤ hi₀) (e10 : lo₀ < lo → c (lo - 1) = false) (e11 : hi < hi₀ → c hi = true) : BisInv s₀ L a xv kv c lo₀ hi₀ n s

theorem fdiv2 (a b : Nat) : ((a : Int) + b).fdiv 2 = ((a + b) / 2 : Nat) := by
  rw [Int.fdiv_eq_ediv_of_nonneg _ (by decide)]; omega

/-- one turn's head: mid is reckoned; the rest goes on -/
theorem bis_mid {env : Env} {m : Str → Option Value} {lo hi : Nat} {t u : Tok} {rest : List Stmt} {p1 p2 p3 p4 p5 p6 p7 : Pos} {k1 : Nat} {Q : Flow → Shared → Prop} (I : Loc s₀ [] env.locals m s) (hlo : m "lo" = some (.int lo t)) (hhi : m "hi" = some (.int hi u))
    (hk : env.scope.kind = .function) (h1 : env.kindOf "lo" = some .local) (h2 : env.kindOf "hi" = some .local) (h3 : env.kindOf "mid" = some .local)
    (h : ∀ s' t', Loc s₀ [] env.locals (upd m "mid" (.int ((lo + hi) / 2 : Nat) t')) s' → wpAny (model prog w) A (execs rest env) Q E s') :
    wpAny (model prog w) A (execs (.Assign [.Name "mid" p1] (.BinOp (.BinOp (.Name "lo" p2) .Add (.Name "hi" p3) p4) .FloorDiv (.Constant (.int 2) k1 p5) p6) p7 :: rest) env) Q E s := by
  refine setL (wpAny_BinOp (wpAny_BinOp ?_))
  refine ldL I.ns hlo (ldL I.ns hhi (add_int (wpAny_Constant_int (floordiv_int (by decide) ?_ (Or.inl (PyProof.noPylong_small (by omega)))))) hk h2) hk h1
  rw [fdiv2]
  exact stL I.tok (fun s' I' _ => h s' _ I') hk h3

theorem bis_half {lo₀ hi₀ lo hi : Nat} {c : Nat → Bool} {L a : Addr} {xv kv : Value} {m : Str → Option Value} {t' tk2 u : Tok} (I : Loc s₀ [] L (upd (upd m "mid" (.int ((lo + hi) / 2 : Nat) t')) "hi" (.int ((lo + hi) / 2 : Nat) tk2)) s) (ha : m "a" = some (.ref a)) (hx : m "x" = some xv) (hk : m "key" = some kv) (hlo : m "lo" = some (.int lo u))
    (h1 : lo₀ ≤ lo) (h2 : lo < hi) (h3 : hi ≤ hi₀) (h4 : lo₀ < lo → c (lo - 1) = false) (hc : c ((lo + hi) / 2) = true) : ∃ n', n' < hi - lo ∧ BisInv s₀ L a xv kv c lo₀ hi₀ n' s :=
  ⟨(lo + hi) / 2 - lo, by omega, ⟨_, lo, (lo + hi) / 2, u, tk2, I, ha, hx, hk, hlo, rfl, rfl, h1, by omega, by omega, h4, fun _ => hc⟩⟩
theorem bis_up {lo₀ hi₀ lo hi : Nat} {c : Nat → Bool} {L a : Addr} {xv kv : Value} {m : Str → Option Value} {t' tk2 u : Tok} (I : Loc s₀ [] L (upd (upd m "mid" (.int ((lo + hi) / 2 : Nat) t')) "lo" (.int (((lo + hi) / 2 : Nat) + 1) tk2)) s) (ha : m "a" = some (.ref a)) (hx : m "x" = some xv) (hk : m "key" = some kv) (hhi : m "hi" = some (.int hi u))
    (h1 : lo₀ ≤ lo) (h2 : lo < hi) (h3 : hi ≤ hi₀) (h5 : hi < hi₀ → c hi = true) (hc : c ((lo + hi) / 2) = false) : ∃ n', n' < hi - lo ∧ BisInv s₀ L a xv kv c lo₀ hi₀ n' s :=
  ⟨hi - ((lo + hi) / 2 + 1), by omega, ⟨_, (lo + hi) / 2 + 1, hi, tk2, u, I, ha, hx, hk, rfl, hhi, rfl, by omega, by omega, h3, fun _ => by rw [Nat.add_sub_cancel]; exact hc, h5⟩⟩

/-- f(args) of a def or a lambda -/
theorem cwF {env : Env} {p : Pos} {q : Addr} {o : Obj} {fd : FuncData} {e : Expr} {rest : List Expr} {kws : List Keyword} {first : List Value} {Q : Value → Shared → Prop}
    (h : wpAny (model prog w) A (spliced (backTo p (starEach (e :: rest) env))) (fun vs s₁ => wpAny (model prog w) A (evalAll ((backToKw p (keywordEach kws env)).map (·.2))) (fun ks s₂ => (s₂.heap.get? q = some o ∧ o.data = .func fd) ∧
      wpAny (model prog w) A (call (.ref q) (first ++ vs) (((backToKw p (keywordEach kws env)).filterMap (·.1)).zip ks)) Q E s₂) E s₁) E s)
    (he : starEach (e :: rest) env = (false, eval e env) :: starEach rest env := by rfl) (hall : (backToKw p (keywordEach kws env)).all (·.1.isSome) = true := by rfl) :
    wpAny (model prog w) A (callWith p (.ref q) first (backTo p (starEach (e :: rest) env)) (backToKw p (keywordEach kws env))) Q E s := by
  rw [he] at h ⊢
  exact callWith_function_kw (o := o) (fd := fd) (evalArgs_kw hall h)
/-- f() -/
theorem cwF0 {env : Env} {p : Pos} {q : Addr} {o : Obj} {fd : FuncData} {first : List Value} {Q : Value → Shared → Prop} (hq : s.heap.get? q = some o) (hfd : o.data = .func fd)
    (h : wpAny (model prog w) A (call (.ref q) (first ++ [])) Q E s) : wpAny (model prog w) A (callWith p (.ref q) first (backTo p (starEach [] env)) (backToKw p (keywordEach [] env))) Q E s :=
  callWith_function_kw (o := o) (fd := fd) (evalArgs_kw_nil rfl (wpAny_pure ⟨⟨hq, hfd⟩, h⟩))
/-- the same without keywords -/
theorem cwP {env : Env} {p : Pos} {q : Addr} {o : Obj} {fd : FuncData} {e : Expr} {rest : List Expr} {first : List Value} {Q : Value → Shared → Prop}
    (h : wpAny (model prog w) A (spliced (backTo p (starEach (e :: rest) env))) (fun vs s₁ => (s₁.heap.get? q = some o ∧ o.data = .func fd) ∧ wpAny (model prog w) A (call (.ref q) (first ++ vs)) Q E s₁) E s)
    (he : starEach (e :: rest) env = (false, eval e env) :: starEach rest env := by rfl) :
    wpAny (model prog w) A (callWith p (.ref q) first (backTo p (starEach (e :: rest) env)) (backToKw p (keywordEach [] env))) Q E s :=
  cwF (o := o) (fd := fd) (wpAny_mono h (fun vs s₁ h₁ => wpAny_evalAll_nil h₁) fun _ _ x => x) he rfl
/-- a built-in function, without keywords -/
theorem cwB {env : Env} {p : Pos} {id : String} {e : Expr} {rest : List Expr} {first : List Value} {Q : Value → Shared → Prop}
    (h : wpAny (model prog w) A (spliced (backTo p (starEach (e :: rest) env))) (fun vs s₁ => wpAny (model prog w) A (call (.builtin id) (first ++ vs)) Q E s₁) E s)
    (he : starEach (e :: rest) env = (false, eval e env) :: starEach rest env := by rfl) (hplain : (backTo p (starEach rest env)).any (·.1) = false := by rfl) :
    wpAny (model prog w) A (callWith p (.builtin id) first (backTo p (starEach (e :: rest) env)) (backToKw p (keywordEach [] env))) Q E s := by
  rw [he] at h ⊢
  exact callWith_builtin (by show (false || (backTo p (starEach rest env)).any (·.1)) = false; rw [hplain]; rfl) (evalArgs_plain h)

variable {f a : Addr} {cdv xv kv : Value} {c : Nat → Bool} {lo₀ hi₀ : Nat} {items : Array Value} {mg mb : Str → Option Value}

theorem bisR_body {n : Nat} {L : Addr} {m : Str → Option Value} {t : Tok} {R : Flow → Shared → Prop} (G : Glo s₀.heap mg mb) (hlen : mg "len" = none) (I : Loc s₀ [] L m s) (hr : Rm (n + 1) A)
    (ha : m "a" = some (.ref a)) (hx : m "x" = some xv) (hk : m "key" = some kv) (hlo : m "lo" = some (.int lo₀ t)) (hl : s₀.heap.IsList a items) (hle : lo₀ ≤ hi₀) (hsz : hi₀ ≤ items.size) (hbig : items.size < 2 ^ 40)
    (hhi : (m "hi" = some .none ∧ hi₀ = items.size) ∨ ∃ u, m "hi" = some (.int hi₀ u))
    (P : Probe prog w (n + 1) s₀ kv items lo₀ hi₀ fun i v => LtIs prog w xv v (c i))
    (h : ∀ (r : Nat) s' tk, Kp [] s₀ s' → lo₀ ≤ r → r ≤ hi₀ → (lo₀ < r → c (r - 1) = false) → (r < hi₀ → c r = true) → R (.ret (.int r tk)) s') :
    wpAny (model prog w) A (execs dBR.2.1 (envX "bisect_right" dBR.2.2 L f cdv [])) R (fun _ _ => False) s := by
  -- lo < 0
  refine wpAny_execs_cons (wpAny_If (wpAny_isTrue_Compare1 (ldL I.ns hlo (wpAny_Constant_int (lt_int (wpAny_truthy_bool ?_))))))
  rw [decide_eq_false (by omega : ¬ (lo₀ : Int) < 0)]
  refine wpAny_execs_nil ?_
  have step : ∀ s₁ : Shared, BisInv s₀ L a xv kv c lo₀ hi₀ (hi₀ - lo₀) s₁ → wpAny (model prog w) A (execs (dBR.2.1.drop 2) (envX "bisect_right" dBR.2.2 L f cdv [])) R (fun _ _ => False) s₁ := by
    intro s₁ I₁
    have fin : ∀ s₂, BisInv s₀ L a xv kv c lo₀ hi₀ 0 s₂ → wpAny (model prog w) A (execs (dBR.2.1.drop 3) (envX "bisect_right" dBR.2.2 L f cdv [])) R (fun _ _ => False) s₂ := by
      rintro s₂ ⟨m₂, lo, hi, t₂, u₂, F₂, -, -, -, e4, -, e6, e7, e8, e9, e10, e11⟩
      have : lo = hi := by omega
      subst this
      exact wpAny_execs_cons (wpAny_Return_some (ldL F₂.ns e4 (h lo _ _ F₂.kp e7 e9 e10 e11)))
    obtain ⟨m₁, lo, hi, t₁, u₁, F₁, e1, e2, e3, e4, e5, e6, e7, e8, e9, e10, e11⟩ := id I₁
    refine wpAny_execs_cons (wpAny_If (wpAny_isTrue_Compare1 (ldL F₁.ns e3 (wpAny_Constant_none (is_none (wpAny_truthy_bool ?_))))))
    rcases P with ⟨rfl, P⟩ | ⟨q, o, fd, rfl, hq, hfd, P⟩
    · -- no key
      refine wpAny_execs_cons (wpAny_While (codeAny_whileLoop (BisInv s₀ L a xv .none c lo₀ hi₀) (fun n' s₂ I₂ => ?_) _ I₁))
      obtain ⟨m₂, lo, hi, t₂, u₂, F₂, e1, e2, e3, e4, e5, e6, e7, e8, e9, e10, e11⟩ := id I₂
      refine wpAny_isTrue_Compare1 (ldL F₂.ns e4 (ldL F₂.ns e5 (lt_int (wpAny_truthy_bool ?_))))
      by_cases hlt : lo < hi
      · rw [decide_eq_true (by omega : (lo : Int) < hi)]
        refine bis_mid F₂ e4 e5 rfl rfl rfl rfl fun s₃ t' F₃ => ?_
        obtain ⟨v, hv⟩ : ∃ v, items[(lo + hi) / 2]? = some v := ⟨_, Array.getElem?_eq_getElem (by omega)⟩
        refine wpAny_execs_cons (wpAny_If (wpAny_isTrue_Compare1 (ldL F₃.ns e2 (Subscript_ (ldL F₃.ns e1 (ldL F₃.ns rfl ?_))))))
        refine lst_item (stays_list F₃.old hl) (by omega) (by omega) (by rw [Int.toNat_natCast]; exact hv) ?_
        refine P _ v (by omega) (by omega) hv _ _ _ _ (wpAny_truthy_bool ?_)
        cases hc : c ((lo + hi) / 2) with
        | true => exact setL (ldL F₃.ns rfl (stL F₃ fun s₄ F₄ _ => wpAny_execs_nil (wpAny_execs_nil (e6 ▸ bis_half F₄ e1 e2 e3 e4 e7 hlt e9 e10 hc))))
        | false => exact setL (wpAny_BinOp (ldL F₃.ns rfl (wpAny_Constant_int (add_int (stL F₃.tok fun s₄ F₄ _ => wpAny_execs_nil (wpAny_execs_nil (e6 ▸ bis_up F₄ e1 e2 e3 e5 e7 hlt e9 e11 hc)))))))
      · rw [decide_eq_false (by omega : ¬ (lo : Int) < hi)]
        refine wpAny_execs_nil (wpAny_execs_nil (fin _ ?_))
        have : n' = 0 := by omega
        exact this ▸ I₂
    · -- by the key
      refine wpAny_execs_cons (wpAny_While (codeAny_whileLoop (BisInv s₀ L a xv (.ref q) c lo₀ hi₀) (fun n' s₂ I₂ => ?_) _ I₁))
      obtain ⟨m₂, lo, hi, t₂, u₂, F₂, e1, e2, e3, e4, e5, e6, e7, e8, e9, e10, e11⟩ := id I₂
      refine wpAny_isTrue_Compare1 (ldL F₂.ns e4 (ldL F₂.ns e5 (lt_int (wpAny_truthy_bool ?_))))
      by_cases hlt : lo < hi
      · rw [decide_eq_true (by omega : (lo : Int) < hi)]
        refine bis_mid F₂ e4 e5 rfl rfl rfl rfl fun s₃ t' F₃ => ?_
        obtain ⟨v, hv⟩ : ∃ v, items[(lo + hi) / 2]? = some v := ⟨_, Array.getElem?_eq_getElem (by omega)⟩
        refine wpAny_execs_cons (wpAny_If (wpAny_isTrue_Compare1 (ldL F₃.ns e2 (wpAny_Call_Name_kw (ldL F₃.ns e3 (cwP (o := o) (fd := fd) (wpAny_items_cons (Subscript_ (ldL F₃.ns e1 (ldL F₃.ns rfl ?_))))))))))
        refine lst_item (stays_list F₃.old hl) (by omega) (by omega) (by rw [Int.toNat_natCast]; exact hv) ?_
        refine wpAny_items_nil ⟨⟨F₃.old _ _ hq, hfd⟩, ?_⟩
        refine wpAny_mono (P _ v (by omega) (by omega) hv _ s₃ _ hr F₃.kp fun r s₄ k₄ hr₄ => ?_) (fun _ _ x => x) (fun _ _ x => x.elim)
        have F₄ := F₃.call k₄
        refine hr₄ _ _ _ _ (wpAny_truthy_bool ?_)
        cases hc : c ((lo + hi) / 2) with
        | true => exact setL (ldL F₄.ns rfl (stL F₄ fun s₄ F₄ _ => wpAny_execs_nil (wpAny_execs_nil (e6 ▸ bis_half F₄ e1 e2 e3 e4 e7 hlt e9 e10 hc))))
        | false => exact setL (wpAny_BinOp (ldL F₄.ns rfl (wpAny_Constant_int (add_int (stL F₄.tok fun s₄ F₄ _ => wpAny_execs_nil (wpAny_execs_nil (e6 ▸ bis_up F₄ e1 e2 e3 e5 e7 hlt e9 e11 hc)))))))
      · rw [decide_eq_false (by omega : ¬ (lo : Int) < hi)]
        refine wpAny_execs_nil (wpAny_execs_nil (fin _ ?_))
        have : n' = 0 := by omega
        exact this ▸ I₂
  -- hi is None
  rcases hhi with ⟨hhi, rfl⟩ | ⟨u, hhi⟩
  · refine wpAny_execs_cons (wpAny_If (wpAny_isTrue_Compare1 (ldL I.ns hhi (wpAny_Constant_none (is_none (wpAny_truthy_bool ?_))))))
    refine setL (wpAny_Call_Name_kw (ldB (mg := mg) (mb := mb) (G.keeps I.old).g hlen (G.keeps I.old).b ((G.bi _ (by decide)).trans boot_len) ?_))
    refine cwB (wpAny_items_cons (ldL I.ns ha (wpAny_items_nil ?_)))
    refine len_list (stays_list I.old hl) (by omega) ?_
    refine stL I.tok fun s₂ I₂ _ => wpAny_execs_nil (step s₂ ?_)
    exact ⟨_, lo₀, items.size, t, _, I₂, ha, hx, hk, hlo, rfl, rfl, Nat.le_refl _, hle, Nat.le_refl _, fun q => absurd q (Nat.lt_irrefl _), fun q => absurd q (Nat.lt_irrefl _)⟩
  · refine wpAny_execs_cons (wpAny_If (wpAny_isTrue_Compare1 (ldL I.ns hhi (wpAny_Constant_none (is_none (wpAny_truthy_bool ?_))))))
    refine wpAny_execs_nil (step _ ?_)
    exact ⟨_, lo₀, hi₀, t, u, I.tok, ha, hx, hk, hlo, hhi, rfl, Nat.le_refl _, hle, Nat.le_refl _, fun q => absurd q (Nat.lt_irrefl _), fun q => absurd q (Nat.lt_irrefl _)⟩
theorem bisL_body {n : Nat} {L : Addr} {m : Str → Option Value} {t : Tok} {R : Flow → Shared → Prop} (G : Glo s₀.heap mg mb) (hlen : mg "len" = none) (I : Loc s₀ [] L m s) (hr : Rm (n + 1) A)
    (ha : m "a" = some (.ref a)) (hx : m "x" = some xv) (hk : m "key" = some kv) (hlo : m "lo" = some (.int lo₀ t)) (hl : s₀.heap.IsList a items) (hle : lo₀ ≤ hi₀) (hsz : hi₀ ≤ items.size) (hbig : items.size < 2 ^ 40)
    (hhi : (m "hi" = some .none ∧ hi₀ = items.size) ∨ ∃ u, m "hi" = some (.int hi₀ u))
    (P : Probe prog w (n + 1) s₀ kv items lo₀ hi₀ fun i v => LtIs prog w v xv (!(c i)))
    (h : ∀ (r : Nat) s' tk, Kp [] s₀ s' → lo₀ ≤ r → r ≤ hi₀ → (lo₀ < r → c (r - 1) = false) → (r < hi₀ → c r = true) → R (.ret (.int r tk)) s') :
    wpAny (model prog w) A (execs dBL.2.1 (envX "bisect_left" dBL.2.2 L f cdv [])) R (fun _ _ => False) s := by
  -- lo < 0
  refine wpAny_execs_cons (wpAny_If (wpAny_isTrue_Compare1 (ldL I.ns hlo (wpAny_Constant_int (lt_int (wpAny_truthy_bool ?_))))))
  rw [decide_eq_false (by omega : ¬ (lo₀ : Int) < 0)]
  refine wpAny_execs_nil ?_
  have step : ∀ s₁ : Shared, BisInv s₀ L a xv kv c lo₀ hi₀ (hi₀ - lo₀) s₁ → wpAny (model prog w) A (execs (dBL.2.1.drop 2) (envX "bisect_left" dBL.2.2 L f cdv [])) R (fun _ _ => False) s₁ := by
    intro s₁ I₁
    have fin : ∀ s₂, BisInv s₀ L a xv kv c lo₀ hi₀ 0 s₂ → wpAny (model prog w) A (execs (dBL.2.1.drop 3) (envX "bisect_left" dBL.2.2 L f cdv [])) R (fun _ _ => False) s₂ := by
      rintro s₂ ⟨m₂, lo, hi, t₂, u₂, F₂, -, -, -, e4, -, e6, e7, e8, e9, e10, e11⟩
      have : lo = hi := by omega
      subst this
      exact wpAny_execs_cons (wpAny_Return_some (ldL F₂.ns e4 (h lo _ _ F₂.kp e7 e9 e10 e11)))
    obtain ⟨m₁, lo, hi, t₁, u₁, F₁, e1, e2, e3, e4, e5, e6, e7, e8, e9, e10, e11⟩ := id I₁
    refine wpAny_execs_cons (wpAny_If (wpAny_isTrue_Compare1 (ldL F₁.ns e3 (wpAny_Constant_none (is_none (wpAny_truthy_bool ?_))))))
    rcases P with ⟨rfl, P⟩ | ⟨q, o, fd, rfl, hq, hfd, P⟩
    · -- no key
      refine wpAny_execs_cons (wpAny_While (codeAny_whileLoop (BisInv s₀ L a xv .none c lo₀ hi₀) (fun n' s₂ I₂ => ?_) _ I₁))
      obtain ⟨m₂, lo, hi, t₂, u₂, F₂, e1, e2, e3, e4, e5, e6, e7, e8, e9, e10, e11⟩ := id I₂
      refine wpAny_isTrue_Compare1 (ldL F₂.ns e4 (ldL F₂.ns e5 (lt_int (wpAny_truthy_bool ?_))))
      by_cases hlt : lo < hi
      · rw [decide_eq_true (by omega : (lo : Int) < hi)]
        refine bis_mid F₂ e4 e5 rfl rfl rfl rfl fun s₃ t' F₃ => ?_
        obtain ⟨v, hv⟩ : ∃ v, items[(lo + hi) / 2]? = some v := ⟨_, Array.getElem?_eq_getElem (by omega)⟩
        refine wpAny_execs_cons (wpAny_If (wpAny_isTrue_Compare1 (Subscript_ (ldL F₃.ns e1 (ldL F₃.ns rfl ?_)))))
        refine lst_item (stays_list F₃.old hl) (by omega) (by omega) (by rw [Int.toNat_natCast]; exact hv) ?_
        refine ldL F₃.ns e2 (P _ v (by omega) (by omega) hv _ _ _ _ (wpAny_truthy_bool ?_))
        cases hc : c ((lo + hi) / 2) with
        | true => exact setL (ldL F₃.ns rfl (stL F₃ fun s₄ F₄ _ => wpAny_execs_nil (wpAny_execs_nil (e6 ▸ bis_half F₄ e1 e2 e3 e4 e7 hlt e9 e10 hc))))
        | false => exact setL (wpAny_BinOp (ldL F₃.ns rfl (wpAny_Constant_int (add_int (stL F₃.tok fun s₄ F₄ _ => wpAny_execs_nil (wpAny_execs_nil (e6 ▸ bis_up F₄ e1 e2 e3 e5 e7 hlt e9 e11 hc)))))))
      · rw [decide_eq_false (by omega : ¬ (lo : Int) < hi)]
        refine wpAny_execs_nil (wpAny_execs_nil (fin _ ?_))
        have : n' = 0 := by omega
        exact this ▸ I₂
    · -- by the key
      refine wpAny_execs_cons (wpAny_While (codeAny_whileLoop (BisInv s₀ L a xv (.ref q) c lo₀ hi₀) (fun n' s₂ I₂ => ?_) _ I₁))
      obtain ⟨m₂, lo, hi, t₂, u₂, F₂, e1, e2, e3, e4, e5, e6, e7, e8, e9, e10, e11⟩ := id I₂
      refine wpAny_isTrue_Compare1 (ldL F₂.ns e4 (ldL F₂.ns e5 (lt_int (wpAny_truthy_bool ?_))))
      by_cases hlt : lo < hi
      · rw [decide_eq_true (by omega : (lo : Int) < hi)]
        refine bis_mid F₂ e4 e5 rfl rfl rfl rfl fun s₃ t' F₃ => ?_
        obtain ⟨v, hv⟩ : ∃ v, items[(lo + hi) / 2]? = some v := ⟨_, Array.getElem?_eq_getElem (by omega)⟩
        refine wpAny_execs_cons (wpAny_If (wpAny_isTrue_Compare1 (wpAny_Call_Name_kw (ldL F₃.ns e3 (cwP (o := o) (fd := fd) (wpAny_items_cons (Subscript_ (ldL F₃.ns e1 (ldL F₃.ns rfl ?_)))))))))
        refine lst_item (stays_list F₃.old hl) (by omega) (by omega) (by rw [Int.toNat_natCast]; exact hv) ?_
        refine wpAny_items_nil ⟨⟨F₃.old _ _ hq, hfd⟩, ?_⟩
        refine wpAny_mono (P _ v (by omega) (by omega) hv _ s₃ _ hr F₃.kp fun r s₄ k₄ hr₄ => ?_) (fun _ _ x => x) (fun _ _ x => x.elim)
        have F₄ := F₃.call k₄
        refine ldL F₄.ns e2 (hr₄ _ _ _ _ (wpAny_truthy_bool ?_))
        cases hc : c ((lo + hi) / 2) with
        | true => exact setL (ldL F₄.ns rfl (stL F₄ fun s₄ F₄ _ => wpAny_execs_nil (wpAny_execs_nil (e6 ▸ bis_half F₄ e1 e2 e3 e4 e7 hlt e9 e10 hc))))
        | false => exact setL (wpAny_BinOp (ldL F₄.ns rfl (wpAny_Constant_int (add_int (stL F₄.tok fun s₄ F₄ _ => wpAny_execs_nil (wpAny_execs_nil (e6 ▸ bis_up F₄ e1 e2 e3 e5 e7 hlt e9 e11 hc)))))))
      · rw [decide_eq_false (by omega : ¬ (lo : Int) < hi)]
        refine wpAny_execs_nil (wpAny_execs_nil (fin _ ?_))
        have : n' = 0 := by omega
        exact this ▸ I₂
  -- hi is None
  rcases hhi with ⟨hhi, rfl⟩ | ⟨u, hhi⟩
  · refine wpAny_execs_cons (wpAny_If (wpAny_isTrue_Compare1 (ldL I.ns hhi (wpAny_Constant_none (is_none (wpAny_truthy_bool ?_))))))
    refine setL (wpAny_Call_Name_kw (ldB (mg := mg) (mb := mb) (G.keeps I.old).g hlen (G.keeps I.old).b ((G.bi _ (by decide)).trans boot_len) ?_))
    refine cwB (wpAny_items_cons (ldL I.ns ha (wpAny_items_nil ?_)))
    refine len_list (stays_list I.old hl) (by omega) ?_
    refine stL I.tok fun s₂ I₂ _ => wpAny_execs_nil (step s₂ ?_)
    exact ⟨_, lo₀, items.size, t, _, I₂, ha, hx, hk, hlo, rfl, rfl, Nat.le_refl _, hle, Nat.le_refl _, fun q => absurd q (Nat.lt_irrefl _), fun q => absurd q (Nat.lt_irrefl _)⟩
  · refine wpAny_execs_cons (wpAny_If (wpAny_isTrue_Compare1 (ldL I.ns hhi (wpAny_Constant_none (is_none (wpAny_truthy_bool ?_))))))
    refine wpAny_execs_nil (step _ ?_)
    exact ⟨_, lo₀, hi₀, t, u, I.tok, ha, hx, hk, hlo, hhi, rfl, Nat.le_refl _, hle, Nat.le_refl _, fun q => absurd q (Nat.lt_irrefl _), fun q => absurd q (Nat.lt_irrefl _)⟩
end
end Mine
end
section
open PySem PySem.W PySem.Calls PyProof.Rows
set_option maxRecDepth 100000
set_option Elab.async false
set_option linter.unusedVariables false
namespace Mine

/-- the defaults (0, None) and {key: None} -/
inductive DfltAt (h : Heap) (dV kV : Value) : Prop
  | mk (T D : Addr) (t u : Tok) (hs : Int) (n e : Nat) (h1 : dV = .ref T) (h2 : kV = .ref D) (h3 : h.get? T = some ⟨.type "tuple", none, .seq #[.int 0 t, .none] n, #[]⟩) (h4 : h.get? D = some ⟨.type "dict", none, .dict #[⟨hs, .str "key" u, .none⟩] e, #[]⟩)
theorem DfltAt.keeps {h h' : Heap} {dV kV : Value} (x : DfltAt h dV kV) (k : ∀ b o, h.get? b = some o → h'.get? b = some o) : DfltAt h' dV kV :=
  let ⟨T, D, t, u, hs, n, e, e1, e2, e3, e4⟩ := x
  ⟨T, D, t, u, hs, n, e, e1, e2, k _ _ e3, k _ _ e4⟩
theorem frag2 {h : Heap} {T D : Addr} {o p : Obj} (e3 : h.get? T = some o) (e4 : h.get? D = some p) : Frag.In [(T, o), (D, p)] h := by
  intro b q hb
  simp only [List.lookup_cons, List.lookup_nil] at hb
  split at hb
  · rename_i hh; obtain rfl := beq_iff_eq.mp hh; cases hb; exact e3
  · split at hb
    · rename_i hh; obtain rfl := beq_iff_eq.mp hh; cases hb; exact e4
    · cases hb

def parB (p1 p2 p3 p4 p5 : Pos) (kd : List (Option Expr)) (ds : List Expr) : Arguments := ⟨[], [⟨"a", none, p1⟩, ⟨"x", none, p2⟩, ⟨"lo", none, p3⟩, ⟨"hi", none, p4⟩], none, [⟨"key", none, p5⟩], kd, none, ds⟩
section
variable {p1 p2 p3 p4 p5 : Pos} {kd : List (Option Expr)} {ds : List Expr} {s : Shared} {dV kV : Value} {name qual : Str} {body : List Stmt} {scope : Scope} {cl : List (Str × Addr)} {doc pm cdv ct : Value} {an : Option Addr} {a x lo hi k : Value}
/-- (a, x, lo, hi, key=k) -/
theorem bind4k (D : DfltAt s.heap dV kV) : BindsTo s (fnX name qual (parB p1 p2 p3 p4 p5 kd ds) body scope cl dV kV doc pm an cdv ct) ⟨[a, x, lo, hi], [("key", k)]⟩ [("a", a), ("x", x), ("lo", lo), ("hi", hi), ("key", k)] := by
  obtain ⟨T, D, t, u, hs, n, e, rfl, rfl, e3, e4⟩ := D
  exact BindsTo.of_defaults rfl e3 rfl rfl rfl
theorem bind4 (D : DfltAt s.heap dV kV) : BindsTo s (fnX name qual (parB p1 p2 p3 p4 p5 kd ds) body scope cl dV kV doc pm an cdv ct) ⟨[a, x, lo, hi], []⟩ [("a", a), ("x", x), ("lo", lo), ("hi", hi), ("key", .none)] := by
  obtain ⟨T, D, t, u, hs, n, e, rfl, rfl, e3, e4⟩ := D
  intro M A E Q hq Γ p hΓ
  with_unfolding_all refine ⟨_, e3, ?_⟩
  with_unfolding_all refine ⟨_, e4, ?_⟩
  with_unfolding_all exact hq
theorem bind2 (D : DfltAt s.heap dV kV) : ∃ t, ∀ doc pm an ct, BindsTo s (fnX name qual (parB p1 p2 p3 p4 p5 kd ds) body scope cl dV kV doc pm an cdv ct) ⟨[a, x], []⟩ [("a", a), ("x", x), ("lo", .int 0 t), ("hi", .none), ("key", .none)] := by
  obtain ⟨T, D, t, u, hs, n, e, rfl, rfl, e3, e4⟩ := D
  refine ⟨t, fun doc pm an ct => ?_⟩
  intro M A E Q hq Γ p hΓ
  with_unfolding_all refine ⟨_, e3, ?_⟩
  with_unfolding_all refine ⟨_, e4, ?_⟩
  with_unfolding_all exact hq
theorem bind2k (D : DfltAt s.heap dV kV) : ∃ t, ∀ doc pm an ct, BindsTo s (fnX name qual (parB p1 p2 p3 p4 p5 kd ds) body scope cl dV kV doc pm an cdv ct) ⟨[a, x], [("key", k)]⟩ [("a", a), ("x", x), ("lo", .int 0 t), ("hi", .none), ("key", k)] := by
  obtain ⟨T, D, t, u, hs, n, e, rfl, rfl, e3, e4⟩ := D
  exact ⟨t, fun doc pm an ct => BindsTo.of_defaults rfl e3 rfl rfl rfl⟩
end

section
variable {prog : Program} {w : World} {A : Around} {s : Shared} {f a : Addr} {cdv xv kv hv dV kV : Value} {c : Nat → Bool} {lo₀ hi₀ : Nat} {items : Array Value} {mg mb : Str → Option Value} {t : Tok} {R : Result → Shared → Prop} {n : Nat} {args : Args}

/-- what a bisection tells of its end -/
abbrev BisEnd (c : Nat → Bool) (lo₀ hi₀ r : Nat) : Prop := lo₀ ≤ r ∧ r ≤ hi₀ ∧ (lo₀ < r → c (r - 1) = false) ∧ (r < hi₀ → c r = true)
theorem bisR_call (hf : FnAt s.heap f "bisect_right" "bisect_right" dBR [] dV kV cdv) (G : Glo s.heap mg mb) (hlen : mg "len" = none) (hr : Rm (n + 2) A)
    (hb : ∀ doc pm an ct, BindsTo s (fnX "bisect_right" "bisect_right" dBR.1 dBR.2.1 dBR.2.2 [] dV kV doc pm an cdv ct) args [("a", .ref a), ("x", xv), ("lo", .int lo₀ t), ("hi", hv), ("key", kv)])
    (hl : s.heap.IsList a items) (hle : lo₀ ≤ hi₀) (hsz : hi₀ ≤ items.size) (hbig : items.size < 2 ^ 40) (hhi : (hv = .none ∧ hi₀ = items.size) ∨ ∃ u, hv = .int hi₀ u)
    (P : Probe prog w (n + 1) s kv items lo₀ hi₀ fun i v => LtIs prog w xv v (c i))
    (h : ∀ (r : Nat) s' tk, Kp [] s s' → BisEnd c lo₀ hi₀ r → R (.ok (.ret (.int r tk))) s') : codeAny (model prog w) A (.call (.ref f) args) R s := by
  refine callF hf G.lim hr hb (fun L h₁ hL F hr' => ?_) (by decide) (locs rfl)
  refine bisR_body G hlen (Loc.start F) hr' rfl rfl rfl rfl hl hle hsz hbig ?_ P fun r s' tk k e1 e2 e3 e4 => h r s' tk k ⟨e1, e2, e3, e4⟩
  rcases hhi with ⟨rfl, e⟩ | ⟨u, rfl⟩
  · exact .inl ⟨rfl, e⟩
  · exact .inr ⟨u, rfl⟩
theorem bisL_call (hf : FnAt s.heap f "bisect_left" "bisect_left" dBL [] dV kV cdv) (G : Glo s.heap mg mb) (hlen : mg "len" = none) (hr : Rm (n + 2) A)
    (hb : ∀ doc pm an ct, BindsTo s (fnX "bisect_left" "bisect_left" dBL.1 dBL.2.1 dBL.2.2 [] dV kV doc pm an cdv ct) args [("a", .ref a), ("x", xv), ("lo", .int lo₀ t), ("hi", hv), ("key", kv)])
    (hl : s.heap.IsList a items) (hle : lo₀ ≤ hi₀) (hsz : hi₀ ≤ items.size) (hbig : items.size < 2 ^ 40) (hhi : (hv = .none ∧ hi₀ = items.size) ∨ ∃ u, hv = .int hi₀ u)
    (P : Probe prog w (n + 1) s kv items lo₀ hi₀ fun i v => LtIs prog w v xv (!(c i)))
    (h : ∀ (r : Nat) s' tk, Kp [] s s' → BisEnd c lo₀ hi₀ r → R (.ok (.ret (.int r tk))) s') : codeAny (model prog w) A (.call (.ref f) args) R s := by
  refine callF hf G.lim hr hb (fun L h₁ hL F hr' => ?_) (by decide) (locs rfl)
  refine bisL_body G hlen (Loc.start F) hr' rfl rfl rfl rfl hl hle hsz hbig ?_ P fun r s' tk k e1 e2 e3 e4 => h r s' tk k ⟨e1, e2, e3, e4⟩
  rcases hhi with ⟨rfl, e⟩ | ⟨u, rfl⟩
  · exact .inl ⟨rfl, e⟩
  · exact .inr ⟨u, rfl⟩
end
end Mine
end
section
open PySem PySem.W PySem.Calls PyProof.Rows
set_option maxRecDepth 100000
set_option Elab.async false
set_option linter.unusedVariables false
namespace Mine

/-- a list object -/
def LsAt (h : Heap) (l : Addr) (vs : List Value) : Prop := ∃ n, h.get? l = some (listOf vs.toArray n)
theorem LsAt.keeps {h h' : Heap} {l : Addr} {vs : List Value} (x : LsAt h l vs) (k : ∀ b o, h.get? b = some o → h'.get? b = some o) : LsAt h' l vs := let ⟨n, e⟩ := x; ⟨n, k _ _ e⟩
theorem LsAt.isList {h : Heap} {l : Addr} {vs : List Value} (x : LsAt h l vs) : h.IsList l vs.toArray := let ⟨n, e⟩ := x; ⟨_, e, rfl, n, rfl⟩
theorem LsAt.of_eq {h h' : Heap} {l : Addr} {vs : List Value} (x : LsAt h l vs) (k : h'.get? l = h.get? l) : LsAt h' l vs := let ⟨n, e⟩ := x; ⟨n, k.trans e⟩

/-- nothing but the object l has turned -/
structure Only (l : Addr) (s s' : Shared) : Prop where
  same : ∀ b, b ≠ l → s'.heap.get? b = s.heap.get? b
  os : s'.os = s.os
  gens : s'.gens = s.gens
theorem Only.kp {l : Addr} {s s' : Shared} (x : Only l s s') : Kp [l] s s' := ⟨fun b o n e => (x.same b (fun q => n (by rw [q]; exact List.mem_singleton.mpr rfl))).trans e, x.os, fun g => x.gens ▸ g⟩
theorem Only.update {l : Addr} {s : Shared} {f : Obj → Obj} {tk : Nat} : Only l s { s with heap := s.heap.update l f, toks := tk } := ⟨fun b n => Heap.get?_update_ne _ _ _ _ n, rfl, rfl⟩
theorem LsAt.update {h : Heap} {l : Addr} {vs ws : List Value} {f : Array Value → Array Value} (x : LsAt h l vs) (e : f vs.toArray = ws.toArray) : LsAt (h.update l (Obj.mapSeq f)) l ws := by
  obtain ⟨n, x⟩ := x
  exact ⟨_, e ▸ PySem.IsL.update x f⟩

section
variable {prog : Program} {w : World} {A : Around} {E : Value → Shared → Prop} {s s₀ : Shared} {l : Addr} {vs : List Value} {Q : Value → Shared → Prop} {name : Str} {id : String} {pl : Sem Bool}
theorem methL {Q : Value × List Value → Shared → Prop} (x : LsAt s.heap l vs) (slot : Slot "list" name id) (hty : typeOf (.builtin id) = pure (.type "method_descriptor"))
    (h : Q (.builtin id, [.ref l]) s) : wpAny (model prog w) A (getMethod (.ref l) name pl) Q E s := by
  obtain ⟨n, x⟩ := x
  exact getMethod_builtin ⟨_, x, rfl⟩ PySem.F.plainAttrs_list slot hty (fun a e => by cases e; exact ⟨_, x, rfl⟩) h
theorem ins_list (l : List Value) (k : Nat) (y : Value) : (l.toArray.extract 0 k).push y ++ l.toArray.extract k = (l.take k ++ y :: l.drop k).toArray := kl_ins_eq l k y
theorem insI {k : Int} {u : Tok} {y : Value} (x : LsAt s.heap l vs) (hk0 : 0 ≤ k) (hk : k.toNat ≤ vs.length) (hf : Builtin.List.listFitsIndex k = true) (hz : vs.toArray.size ≤ sizeLine) (h : ∀ s', LsAt s'.heap l (vs.take k.toNat ++ y :: vs.drop k.toNat) → Only l s s' → Q .none s') :
    wpAny (model prog w) A (call (.builtin "list.insert") [.ref l, .int k u, y]) Q E s := by
  obtain ⟨n, e⟩ := id x
  have hc0 : ¬(!Builtin.List.listFitsIndex k) = true := by rw [hf]; exact Bool.false_ne_true
  have g := PySem.AutoSeq1.list_insert_list_int_val_1 l vs.toArray n k u y hc0 hz
  refine call_meets PySem.F.slot_list_insert ⟨_, e, rfl⟩ PySem.F.entry_list_insert (PySem.F.args_list_insert_3 _ _ _) g ⟨e, ?_⟩
  refine h _ (LsAt.update x ?_) Only.update
  show (vs.toArray.extract 0 (if k < 0 then (k + (vs.toArray.size : Int)).toNat else min k.toNat vs.toArray.size)).push y ++ vs.toArray.extract (if k < 0 then (k + (vs.toArray.size : Int)).toNat else min k.toNat vs.toArray.size) = _
  rw [if_neg (by omega), Nat.min_eq_left (by rw [List.size_toArray]; exact hk)]
  exact ins_list vs k.toNat y
theorem fitsI {k : Nat} (h : k < 2 ^ 40) : Builtin.List.listFitsIndex (k : Int) = true := by
  unfold Builtin.List.listFitsIndex
  simp only [Bool.and_eq_true, decide_eq_true_eq]
  omega
theorem insL {k : Nat} {u : Tok} {y : Value} (x : LsAt s.heap l vs) (hk : k ≤ vs.length) (hz : vs.length < 2 ^ 20) (h : ∀ s', LsAt s'.heap l (vs.take k ++ y :: vs.drop k) → Only l s s' → Q .none s') :
    wpAny (model prog w) A (call (.builtin "list.insert") [.ref l, .int k u, y]) Q E s :=
  insI x (by omega) (by rw [Int.toNat_natCast]; exact hk) (fitsI (by omega)) (by rw [List.size_toArray, sizeLine_eq]; omega) (by rw [Int.toNat_natCast]; exact h)
end

section
variable {prog : Program} {w : World} {A : Around} {s : Shared} {fI fB a : Addr} {cdI cdB xv kv dI kI dB kB : Value} {c : Nat → Bool} {vs : List Value} {mg mb : Str → Option Value} {R : Result → Shared → Prop} {n : Nat} {args : Args}

/-- insort_right(a, x) and insort_right(a, x, key=k) -/
theorem insort_call {PX : Value → Prop} (hf : FnAt s.heap fI "insort_right" "insort_right" dIR [] dI kI cdI) (DI : DfltAt s.heap dI kI) (hb : FnAt s.heap fB "bisect_right" "bisect_right" dBR [] dB kB cdB) (DB : DfltAt s.heap dB kB)
    (G : Glo s.heap mg mb) (hlen : mg "len" = none) (hmB : mg "bisect_right" = some (.ref fB)) (hr : Rm (n + 3) A) (hl : LsAt s.heap a vs) (hz : vs.length < 2 ^ 20)
    (hkw : (kv = .none ∧ args = ⟨[.ref a, xv], []⟩ ∧ PX xv) ∨ (∃ q o fd, kv = .ref q ∧ s.heap.get? q = some o ∧ o.data = .func fd ∧ args = ⟨[.ref a, xv], [("key", kv)]⟩ ∧ KeyOk prog w (n + 2) s kv xv PX))
    (P : ∀ xk, PX xk → Probe prog w (n + 1) s kv vs.toArray 0 vs.length fun i v => LtIs prog w xk v (c i))
    (h : ∀ (r : Nat) s', Kp [a] s s' → LsAt s'.heap a (vs.take r ++ xv :: vs.drop r) → BisEnd c 0 vs.length r → R (.ok (.ret .none)) s') : codeAny (model prog w) A (.call (.ref fI) args) R s := by
  have hbind : ∃ t, ∀ doc pm an ct, BindsTo s (fnX "insort_right" "insort_right" dIR.1 dIR.2.1 dIR.2.2 [] dI kI doc pm an cdI ct) args [("a", .ref a), ("x", xv), ("lo", .int 0 t), ("hi", .none), ("key", kv)] := by
    rcases hkw with ⟨rfl, rfl, _⟩ | ⟨q, o, fd, rfl, _, _, rfl, _⟩
    · exact bind2 DI
    · exact bind2k DI
  obtain ⟨t, hbind⟩ := hbind
  refine callF hf G.lim hr hbind (fun L h₁ hL F hr' => ?_) (by decide) (locs rfl)
  have I := Loc.start (tk := s.toks + 5) F
  -- behind the if: a.insert(lo, x)
  have fin : ∀ s₁ m r tk, Loc s [] L m s₁ → m "a" = some (.ref a) → m "x" = some xv → m "lo" = some (.int (r : Nat) tk) → BisEnd c 0 vs.length r →
      wpAny (model prog w) (A.deeper (envX "insort_right" dIR.2.2 L fI cdI [])) (execs (dIR.2.1.drop 1) (envX "insort_right" dIR.2.2 L fI cdI [])) (fun fl s' => R (.ok (.ret (retV fl))) s') (fun _ _ => False) s₁ := by
    intro s₁ m r tk I₁ e1 e2 e3 hB
    refine wpAny_execs_cons (wpAny_Expr ?_)
    refine MethodCall_ (ldL I₁.ns e1 (methL (hl.keeps I₁.old) PySem.F.slot_list_insert PySem.F.type_list_insert ?_))
    refine callWith_method1 (wpAny_items_cons (ldL I₁.ns e3 (wpAny_items_cons (ldL I₁.ns e2 (wpAny_items_nil ?_)))))
    refine insL (hl.keeps I₁.old) hB.2.1 hz fun s₂ l₂ o₂ => ?_
    refine wpAny_execs_nil (h r s₂ ?_ l₂ hB)
    exact (I₁.kp.mono (fun _ q => by cases q)).trans o₂.kp
  rcases hkw with ⟨rfl, _, px⟩ | ⟨q, o, fd, rfl, hq, hfd, _, px⟩
  · refine wpAny_execs_cons (wpAny_If (wpAny_isTrue_Compare1 (ldL I.ns rfl (wpAny_Constant_none (is_none (wpAny_truthy_bool ?_))))))
    obtain ⟨ob, doc, pm, an, ct, b1, b2, b3⟩ := id hb
    refine setL (wpAny_Call_Name_kw (ldG (mg := mg) (G.keeps I.old).g hmB (cwP (o := ob) (fd := fnX "bisect_right" "bisect_right" dBR.1 dBR.2.1 dBR.2.2 [] dB kB doc pm an cdB ct) ?_)))
    refine wpAny_items_cons (ldL I.ns rfl (wpAny_items_cons (ldL I.ns rfl (wpAny_items_cons (ldL I.ns rfl (wpAny_items_cons (ldL I.ns rfl (wpAny_items_nil ?_))))))))
    refine ⟨⟨I.old _ _ b1, b2⟩, wpAny_call ?_⟩
    refine bisR_call (s := { s with heap := h₁, toks := s.toks + 5 }) (c := c) (lo₀ := 0) (t := t) (hi₀ := vs.length) (hb.keeps I.old) (G.keeps I.old) hlen hr' (fun doc pm an ct => bind4 (DB.keeps I.old)) (hl.keeps I.old).isList (Nat.zero_le _) (by simp) (by simp; omega) (.inl ⟨rfl, by simp⟩) ?_ fun r s₂ tk k₂ hB => ?_

    · rcases P _ px with ⟨_, P⟩ | ⟨q, o, fd, e, _⟩
      · exact .inl ⟨rfl, P⟩
      · cases e
    · exact stL (I.call k₂) fun s₃ I₃ _ => wpAny_execs_nil (fin s₃ _ r tk I₃ rfl rfl rfl hB)
  · refine wpAny_execs_cons (wpAny_If (wpAny_isTrue_Compare1 (ldL I.ns rfl (wpAny_Constant_none (is_none (wpAny_truthy_bool ?_))))))
    obtain ⟨ob, doc, pm, an, ct, b1, b2, b3⟩ := id hb
    refine setL (wpAny_Call_Name_kw (ldG (mg := mg) (G.keeps I.old).g hmB (cwF (o := ob) (fd := fnX "bisect_right" "bisect_right" dBR.1 dBR.2.1 dBR.2.2 [] dB kB doc pm an cdB ct) ?_)))
    refine wpAny_items_cons (ldL I.ns rfl (wpAny_items_cons (wpAny_Call_Name_kw (ldL I.ns rfl (cwP (o := o) (fd := fd) (wpAny_items_cons (ldL I.ns rfl (wpAny_items_nil ?_))))))))
    refine ⟨⟨I.old _ _ hq, hfd⟩, wpAny_mono (px _ _ _ hr' I.kp fun xk s₂ k₂ hx => ?_) (fun _ _ x => x) (fun _ _ x => x.elim)⟩
    have I₂ := I.call k₂
    refine wpAny_items_cons (ldL I₂.ns rfl (wpAny_items_cons (ldL I₂.ns rfl (wpAny_items_nil ?_))))
    refine wpAny_evalAll_cons (wpAny_bind (ldL I₂.ns rfl (wpAny_bind (wpAny_standAt (wpAny_pure (wpAny_evalAll_nil ?_))))))
    refine ⟨⟨I₂.old _ _ b1, b2⟩, wpAny_call ?_⟩
    refine bisR_call (s := s₂) (c := c) (lo₀ := 0) (t := t) (hi₀ := vs.length) (hb.keeps I₂.old) (G.keeps I₂.old) hlen hr' (fun doc pm an ct => bind4k (DB.keeps I₂.old)) (hl.keeps I₂.old).isList (Nat.zero_le _) (by simp) (by simp; omega) (.inl ⟨rfl, by simp⟩) ?_ fun r s₃ tk k₃ hB => ?_

    · rcases P _ hx with ⟨e, _⟩ | ⟨q', o', fd', e, q1, q2, P⟩
      · cases e
      · cases e
        exact .inr ⟨q, o', fd', rfl, I₂.old _ _ q1, q2, fun i v h1 h2 h3 A' s' Q' hr'' k' hQ => P i v h1 h2 h3 A' s' Q' hr'' (I₂.kp.trans k') hQ⟩
    · exact stL (I₂.call k₃) fun s₄ I₄ _ => wpAny_execs_nil (fin s₄ _ r tk I₄ rfl rfl rfl hB)
end
end Mine
end
section
open PySem PySem.W PySem.Calls PyProof.Rows
set_option maxRecDepth 100000
set_option Elab.async false
set_option linter.unusedVariables false
namespace Mine

/-- a lambda of the text -/
abbrev Lam := Arguments × Expr × Scope
def LamAt (h : Heap) (f : Addr) (qual : Str) (d : Lam) (cl : List (Str × Addr)) (c' : Addr) : Prop := ∃ pm ctv, h.get? f = some (kla_obj "<lambda>" qual d.1 d.2.1 d.2.2 cl pm c' ctv) ∧ h.CodeRec (.ref c') qual
theorem LamAt.keeps {h h' : Heap} {f : Addr} {qual : Str} {d : Lam} {cl : List (Str × Addr)} {c' : Addr} (x : LamAt h f qual d cl c') (k : ∀ b o, h.get? b = some o → h'.get? b = some o) : LamAt h' f qual d cl c' :=
  let ⟨pm, ctv, h1, h2⟩ := x; ⟨pm, ctv, k _ _ h1, h2.keeps k⟩
theorem LamAt.fn {h : Heap} {f : Addr} {qual : Str} {d : Lam} {cl : List (Str × Addr)} {c' : Addr} (x : LamAt h f qual d cl c') : ∃ o fd, h.get? f = some o ∧ o.data = .func fd := let ⟨pm, ctv, h1, _⟩ := x; ⟨_, _, h1, rfl⟩

section
variable {prog : Program} {w : World} {A : Around} {s : Shared} {R : Result → Shared → Prop} {f c' : Addr} {qual : Str} {d : Lam} {cl : List (Str × Addr)} {args : Args} {binds : List (Str × Value)}
theorem callE {n : Nat} (hf : LamAt s.heap f qual d cl c') (hlim : s.heap.NoLimit) (hr : Rm (n + 1) A)
    (hbind : ∀ pm ctv, bindArgs (kla_fn "<lambda>" qual d.1 d.2.1 d.2.2 cl pm (.ref c') ctv) args = pure binds)
    (h : ∀ L h₁, L = s.heap.objs.size → Fr s.heap L h₁ (fun x => binds.reverse.lookup x) → Rm n (A.deeper (envX qual d.2.2 L f (.ref c') cl)) →
      wpAny (model prog w) (A.deeper (envX qual d.2.2 L f (.ref c') cl)) (eval d.2.1 (envX qual d.2.2 L f (.ref c') cl)) (fun v s' => R (.ok (.ret v)) s') (fun _ _ => False)
        { s with heap := h₁, toks := s.toks + binds.length })
    (hcell : ∀ x ∈ d.2.2.names, x.2 ≠ .cell) (hloc : ∀ x ∈ binds, d.2.2.names.lookup x.1 = some .local)
    (hco : d.2.2.isCoroutine = false := by rfl) (hgen : d.2.2.isGenerator = false := by rfl) (hk : d.2.2.kind = .function := by rfl) :
    codeAny (model prog w) A (.call (.ref f) args) R s := by
  obtain ⟨pm, ctv, h1, h2⟩ := hf
  refine kla_callFunE hr.room h1 rfl hco hgen rfl h2 ?_
  rw [hbind]
  refine wpAny_pure (wpAny_newFunctionEnv hcell hloc (fun h₁ hns hsb => ⟨hlim.fresh _ hsb, ?_⟩) hk)
  have hk₁ : ∀ b o, s.heap.get? b = some o → h₁.get? b = some o := fun b o e => hsb.extBut b o (Nat.ne_of_lt (Heap.lt_size e)) (Heap.get?_push_of_some _ e)
  exact kla_codeExpr (wpAny_mono (h _ h₁ rfl ⟨hns, hk₁, Nat.le_refl _⟩ (hr.deeper _)) (fun v s' q => q) fun _ _ x => x.elim)
end

section
variable {prog : Program} {w : World} {A : Around} {E : Value → Shared → Prop} {s s₀ : Shared} {l : Addr} {vs : List Value} {Q : Value → Shared → Prop}
theorem popL0 {u : Tok} {y : Value} (x : LsAt s.heap l (y :: vs)) (hz : vs.length < 2 ^ 20) (h : ∀ s', LsAt s'.heap l vs → Only l s s' → Q y s') :
    wpAny (model prog w) A (call (.builtin "list.pop") [.ref l, .int 0 u]) Q E s := by
  obtain ⟨n, e⟩ := id x
  have hz' : (y :: vs).toArray.size ≤ sizeLine := by rw [List.size_toArray, sizeLine_eq, List.length_cons]; omega
  have hk : seqIndex? 0 (y :: vs).toArray.size = some 0 := by
    rw [List.size_toArray, List.length_cons]
    unfold seqIndex?
    simp
  have g := PySem.MeetsSeq.list_pop_at l (y :: vs).toArray n 0 u 0 y rfl hk (by simp) hz'
  refine call_meets PySem.F.slot_list_pop ⟨_, e, rfl⟩ PySem.F.entry_list_pop (PySem.F.args_list_pop_2 _ _) g ⟨e, ?_⟩
  refine h _ (LsAt.update x ?_) Only.update
  exact kl_erase [] vs y
theorem truthL (x : LsAt s.heap l vs) (hz : vs.length < 2 ^ 20) {Q : Bool → Shared → Prop} (h : ∀ tk, Q (!vs.isEmpty) { s with toks := tk }) : wpAny (model prog w) A (truthy (.ref l)) Q E s := by
  refine wpAny_truthy_list x.isList (by rw [List.size_toArray]; omega) ?_
  have := h
  cases vs <;> simpa using h _
end
end Mine
end
section
open PySem PySem.W PySem.Calls PyProof.Rows
set_option maxRecDepth 100000
set_option Elab.async false
set_option linter.unusedVariables false
namespace Mine
abbrev dLS := theDefAt 12
abbrev dRC := theMethAt 10 1
abbrev dGT := theMethAt 10 2
abbrev dPT := theMethAt 10 3
abbrev dIN := theMethAt 10 0
def lamLS : Lam := match (dLS.2.1[1]? : Option Stmt) with
  | some (Stmt.Assign _ (Expr.Lambda a b sc _) _) => (a, b, sc)
  | _ => (⟨[], [], none, [], [], none, []⟩, .Constant .none 0 default, default)

/-- the values of a text's signs -/
def ChVs : List Value → List Nat → Prop
  | [], [] => True
  | v :: vs, c :: cs => (∃ t, v = .str ⟨#[c]⟩ t) ∧ ChVs vs cs
  | _, _ => False

/-- where the lexer's things stand -/
structure Lx where
  C : Addr
  x : Addr
  dx : Addr
  st : Addr
  ds : Addr
  rd : Addr
  cl : Addr
  left : Addr
  pb : Addr
  c' : Addr
structure LxFix (h : Heap) (a : Lx) : Prop where
  x : h.get? a.x = some (instObj a.C a.dx)
  st : h.get? a.st = some (instObj a.C a.ds)
  ds : ∃ (es : List DictEntry) (n : Nat), h.get? a.ds = some (dictOf es n) ∧ getL "read" es = some (some (.ref a.rd))
  rd : LamAt h a.rd "_law_stream.<locals>.<lambda>" lamLS [("left", a.cl)] a.c'
  cl : h.IsCell a.cl (some (.ref a.left))
  dsx : a.ds ≠ a.dx
def lexEs (a : Lx) (ln : Int) (h1 h2 h3 h4 : Int) (t1 t2 t3 t4 t5 t6 : Tok) : List DictEntry :=
  [⟨h1, .str "lineno" t1, .int ln t5⟩, ⟨h2, .str "instream" t2, .ref a.st⟩, ⟨h3, .str "whitespace" t3, .str "\n\t\r " t6⟩, ⟨h4, .str "pushback" t4, .ref a.pb⟩]
inductive LxD (h : Heap) (a : Lx) (ln : Int) : Prop
  | mk (h1 h2 h3 h4 : Int) (t1 t2 t3 t4 t5 t6 : Tok) (n : Nat) (e : h.get? a.dx = some (dictOf (lexEs a ln h1 h2 h3 h4 t1 t2 t3 t4 t5 t6) n)) : LxD h a ln
structure LxSt (h : Heap) (a : Lx) (cps : List Nat) (ln : Int) : Prop where
  dx : LxD h a ln
  left : ∃ vs, LsAt h a.left vs ∧ ChVs vs cps

theorem ChVs.len : ∀ {vs : List Value} {cs : List Nat}, ChVs vs cs → vs.length = cs.length
  | [], [], _ => rfl
  | _ :: _, _ :: _, h => by rw [List.length_cons, List.length_cons, ChVs.len h.2]
  | [], _ :: _, h => h.elim
  | _ :: _, [], h => h.elim

theorem ne_of_get {h : Heap} {a b : Addr} {o p : Obj} (e : h.get? a = some o) (e' : h.get? b = some p) (n : o ≠ p) : a ≠ b := fun q => n (by rw [q, e'] at e; exact (Option.some.inj e).symm)

/-- what the lexer reads stays where only its own dict and the text turn -/
theorem LxFix.kp {s s' : Shared} {a : Lx} {cps : List Nat} {ln : Int} (F : LxFix s.heap a) (S : LxSt s.heap a cps ln) (k : Kp [a.dx, a.left] s s') : LxFix s'.heap a := by
  obtain ⟨h1, h2, h3, h4, t1, t2, t3, t4, t5, t6, n, dx⟩ := S.dx
  obtain ⟨vs, ⟨nl, left⟩, _⟩ := S.left
  have go : ∀ b o, s.heap.get? b = some o → (∀ es n, o.data ≠ .dict es n) → (∀ its n, o.data ≠ .seq its n) → s'.heap.get? b = some o := by
    intro b o e n1 n2
    refine k.keep b o ?_ e
    simp only [List.mem_cons, List.not_mem_nil, or_false, not_or]
    exact ⟨ne_of_get e dx fun q => n1 _ _ (by rw [q]), ne_of_get e left fun q => n2 _ _ (by rw [q])⟩
  obtain ⟨es, n', d1, d2⟩ := F.ds
  obtain ⟨pm, ctv, r1, c, oc, cv, tc, rc, r2, r3, r4⟩ := F.rd
  obtain ⟨oc2, k1, k2⟩ := F.cl
  refine ⟨go _ _ F.x (fun _ _ q => by cases q) (fun _ _ q => by cases q), go _ _ F.st (fun _ _ q => by cases q) (fun _ _ q => by cases q), ⟨es, n', k.keep _ _ ?_ d1, d2⟩,
    ⟨pm, ctv, go _ _ r1 (fun _ _ q => by cases q) (fun _ _ q => by cases q), c, oc, cv, tc, rc, go _ _ r2 (fun _ _ q => by rw [r3] at q; cases q) (fun _ _ q => by rw [r3] at q; cases q), r3, r4⟩,
    ⟨oc2, go _ _ k1 (fun _ _ q => by rw [k2] at q; cases q) (fun _ _ q => by rw [k2] at q; cases q), k2⟩, F.dsx⟩
  simp only [List.mem_cons, List.not_mem_nil, or_false, not_or]
  exact ⟨F.dsx, ne_of_get d1 left fun q => by cases congrArg Obj.data q⟩

section
variable {prog : Program} {w : World} {A : Around} {s s₀ : Shared} {R : Result → Shared → Prop} {a : Lx}
theorem readLam_spec {n : Nat} {v : Value} {vs : List Value} (F : LxFix s.heap a) (hl : LsAt s.heap a.left vs) (hz : vs.length < 2 ^ 20) (hlim : s.heap.NoLimit) (hr : Rm (n + 1) A)
    (h0 : vs = [] → ∀ s' t, Kp [] s s' → R (.ok (.ret (.str "" t))) s') (h1 : ∀ v₀ vs', vs = v₀ :: vs' → ∀ s', Kp [a.left] s s' → LsAt s'.heap a.left vs' → R (.ok (.ret v₀)) s') :
    codeAny (model prog w) A (.call (.ref a.rd) ⟨[v], []⟩) R s := by
  refine callE (binds := [("size", v)]) F.rd hlim hr (fun _ _ => rfl) (fun L h₁ hL F₁ hr' => ?_) (by decide) (locs rfl)
  have I := Loc.start (tk := s.toks + 1) F₁
  have hc : h₁.IsCell a.cl (some (.ref a.left)) := F.cl.keeps I.old
  refine wpAny_IfExp (isTrue_plain (ldF (c := a.cl) rfl hc (truthL (hl.keeps I.old) hz fun tk => ?_)))
  cases vs with
  | nil => exact wpAny_Constant_str (h0 rfl _ _ ⟨fun b o _ e => I.old b o e, rfl, id⟩)
  | cons v₀ vs' =>
    refine MethodCall_ (ldF (c := a.cl) rfl hc (methL (hl.keeps I.old) PySem.F.slot_list_pop PySem.F.type_list_pop ?_))
    refine callWith_method1 (wpAny_items_cons (wpAny_Constant_int (wpAny_items_nil ?_)))
    refine popL0 (hl.keeps I.old) (by rw [List.length_cons] at hz; omega) fun s₂ l₂ o₂ => h1 v₀ vs' rfl s₂ ?_ l₂
    exact ⟨fun b o nb e => (o₂.kp).keep b o nb (I.old b o e), o₂.os, fun g => o₂.gens ▸ g⟩
end
end Mine
end
section
open PySem PySem.W PySem.Calls PyProof.Rows
set_option maxRecDepth 100000
set_option Elab.async false
set_option linter.unusedVariables false
namespace Mine

/-- what the class of the lexer is looked up for -/
structure ClsF (K : Frag) (C : Addr) : Prop where
  ga : findIn K (.ref C) "__getattribute__" = some (some (.builtin "object.__getattribute__"))
  gt : findIn K (.ref C) "__getattr__" = some none
  hd : hasDictIn K C = true
  sa : findIn K (.ref C) "__setattr__" = some (some (.builtin "object.__setattr__"))
  po : plainOver K C = true
  no : ∀ n ∈ (["lineno", "instream", "whitespace", "pushback", "read"] : List Str), findIn K (.ref C) n = some none

section
variable {prog : Program} {w : World} {A : Around} {E : Value → Shared → Prop} {s : Shared} {K : Frag} {x C dx : Addr} {es : List DictEntry} {n : Nat} {name : Str} {v : Value}
theorem inst_of {h : Heap} (hx : h.get? x = some (instObj C dx)) (hn : h.get? dx = some (dictOf es n)) : InstAt h x (instObj C dx) C (some (dictOf es n)) := ⟨hx, rfl, rfl, hn⟩
/-- x.name, out of the object's own dict -/
theorem attrO {expr : Bool} {Q : Value → Shared → Prop} (X : K.In s.heap) (c : ClsF K C) (hc : findIn K (.ref C) name = some none) (hx : s.heap.get? x = some (instObj C dx)) (hn : s.heap.get? dx = some (dictOf es n)) (hv : getL name es = some (some v)) (hh : handedIn v = true)
    (h : ∀ tk, Q v { s with toks := tk }) : wpAny (model prog w) A (getAttr (.ref x) name expr) Q E s :=
  get_value X (inst_of hx hn) c.ga (findObj_own c.hd hc rfl hv) hh (h _)
/-- the callee of x.name(..), out of the object's own dict -/
theorem methO {pl : Sem Bool} {Q : Value × List Value → Shared → Prop} (X : K.In s.heap) (c : ClsF K C) (hc : findIn K (.ref C) name = some none) (hx : s.heap.get? x = some (instObj C dx)) (hn : s.heap.get? dx = some (dictOf es n)) (hv : getL name es = some (some v)) (hh : handedIn v = true)
    (h : ∀ tk, Q (v, []) { s with toks := tk }) : wpAny (model prog w) A (getMethod (.ref x) name pl) Q E s := by
  have I := inst_of hx hn
  have hcan := PySem.F.canon_object_ga
  unfold getMethod specialOf
  refine wpAny_bind (wpAny_bind (I.type.here ((looks_findIn X c.ga).here ?_)))
  dsimp only
  rw [hcan, if_neg (by decide)]
  refine wpAny_bind (wpAny_bind (I.type.here ((looks_findIn X c.gt).here ?_)))
  refine wpAny_bind (wpAny_bind (I.type.here ((looks_findIn X hc).here ?_)))
  exact wpAny_bind (attrO X c hc hx hn hv hh fun tk => wpAny_pure (h tk))
/-- the callee of x.name(..), a def of the class -/
theorem methC {pl : Sem Bool} {f : Addr} {Q : Value × List Value → Shared → Prop} (X : K.In s.heap) (c : ClsF K C) (hc : findIn K (.ref C) name = some (some (.ref f))) (hf : isFn K (.ref f) = true) (hx : s.heap.get? x = some (instObj C dx)) (hn : s.heap.get? dx = some (dictOf es n)) (hv : getL name es = some none)
    (h : Q (.ref f, [.ref x]) s) : wpAny (model prog w) A (getMethod (.ref x) name pl) Q E s :=
  method_fn X (inst_of hx hn) c.ga c.gt hc (beq_iff_eq.mp hf) (by show (lookIn name (dictOf es n)).map _ = _; rw [lookIn_dict, hv]; rfl) h
/-- x.name = v -/
theorem attrS {Q : Unit → Shared → Prop} (X : K.In s.heap) (c : ClsF K C) (hc : findIn K (.ref C) name = some none) (hx : s.heap.get? x = some (instObj C dx)) (hn : s.heap.get? dx = some (dictOf es n)) (hl : (getL name es).isSome = true)
    (hz : (putL name (PyData.keyHash w.params name) (.str name (s.toks + 1)) v es).length ≤ 1000)
    (h : ∀ s', s'.heap.get? dx = some (dictOf (putL name (PyData.keyHash w.params name) (.str name (s.toks + 1)) v es) (putN name es n)) → Only dx s s' → Q () s') : wpAny (model prog w) A (setAttr (.ref x) name v) Q E s := by
  have I := inst_of hx hn
  obtain ⟨cd, hcd, hd'⟩ := any_some c.hd
  refine set_plain X I c.sa (osa_open (s := { s with toks := s.toks + 1 }) X I c.po (r := none) (by unfold takerIn; rw [hc]; rfl) fun b => ?_)
  refine wpAny_bind (wpAny_pure (wpAny_bind (wpAny_bind (wpAny_loadPart hx (wpAny_bind (Looks.here (s := { s with toks := s.toks + 1 }) (looks_clsIn X hcd) ?_))))))
  rw [hd']
  refine wpAny_pure (a := some dx) (wpAny_bind (wpAny_pure (wpAny_bind ?_)))
  unfold nsSet
  refine wpAny_bind (wpAny_bind (wpAny_askSetting (wpAny_pure (wpAny_bind (wpAny_mkText (wpAny_bind (wpAny_loadPart hn ?_)))))))
  dsimp only
  have hc2 : (!es.toArray.any (·.key.isStr name) && es.toArray.any (·.refKey)) = false := by
    unfold getL at hl
    rw [← Array.any_toList, ← Array.any_toList]
    split at hl
    · rename_i en he
      rw [List.any_eq_true.mpr ⟨en, List.mem_of_find?_eq_some he, List.find?_some he⟩]; rfl
    · split at hl
      · cases hl
      · rename_i z; rw [Bool.not_eq_true] at z; rw [z, Bool.and_false]
  rw [aRefKeyMayBeTheName_at, hc2]
  have D' : (s.heap.update dx (Obj.putName name (PyData.keyHash w.params name) (.str name (s.toks + 1)) v)).get? dx = some (dictOf (putL name (PyData.keyHash w.params name) (.str name (s.toks + 1)) v es) (putN name es n)) := by
    rw [← putName_dict]
    exact Heap.get?_update_self _ hn (by rw [putName_dict]; rfl)
  refine wpAny_updatePart hn ?_
  refine wpAny_bind (wpAny_lookBehind D' (pastItsLine_dict (by rw [List.size_toArray, sizeLine_eq]; omega)) ?_)
  exact wpAny_pure (h ⟨_, s.gens, s.drawn, s.toks + 1 + 1, s.os⟩ D' Only.update)
end

/-- one read of the lexer -/
def LxRead (s s' : Shared) (a : Lx) (cps : List Nat) (ln : Int) (v : Value) : Prop :=
  Kp [a.dx, a.left] s s' ∧ ((cps = [] ∧ (∃ t, v = .str "" t) ∧ LxSt s'.heap a [] ln) ∨ ∃ c cs t, cps = c :: cs ∧ v = .str ⟨#[c]⟩ t ∧ LxSt s'.heap a cs (if c = 10 then ln + 1 else ln))

theorem beq_nl (c : Nat) : ((⟨#[c]⟩ : Str) == ("\n" : Str)) = decide (c = 10) := by
  have e : ("\n" : Str) = ⟨#[10]⟩ := by decide +kernel
  rw [e]
  by_cases h : c = 10
  · subst h; simp
  · rw [decide_eq_false h]
    apply beq_false_of_ne
    intro q
    injection q with q
    simp at q
    exact h q

section
variable {prog : Program} {w : World} {A : Around} {s : Shared} {R : Result → Shared → Prop} {a : Lx} {K : Frag} {fRC : Addr} {cdv : Value}
theorem LxSt.keeps {h h' : Heap} {a : Lx} {cps : List Nat} {ln : Int} (S : LxSt h a cps ln) (k : ∀ b o, h.get? b = some o → h'.get? b = some o) : LxSt h' a cps ln :=
  let ⟨h1, h2, h3, h4, t1, t2, t3, t4, t5, t6, n, e⟩ := S.dx
  let ⟨vs, l, c⟩ := S.left
  ⟨⟨h1, h2, h3, h4, t1, t2, t3, t4, t5, t6, n, k _ _ e⟩, ⟨vs, l.keeps k, c⟩⟩
theorem LxFix.keeps {h h' : Heap} {a : Lx} (S : LxFix h a) (k : ∀ b o, h.get? b = some o → h'.get? b = some o) : LxFix h' a :=
  ⟨k _ _ S.x, k _ _ S.st, let ⟨ms, n, e, r⟩ := S.ds; ⟨ms, n, k _ _ e, r⟩, S.rd.keeps k, S.cl.keeps k, S.dsx⟩

theorem readChar_spec {n : Nat} {cps : List Nat} {ln : Int} (hf : FnAt s.heap fRC "_read_char" "_netrclex._read_char" dRC [] .none .none cdv) (X : K.In s.heap) (c : ClsF K a.C) (hKd : K.lookup a.dx = none) (hKl : K.lookup a.left = none) (F : LxFix s.heap a) (S : LxSt s.heap a cps ln) (hz : cps.length < 2 ^ 20) (hlim : s.heap.NoLimit) (hr : Rm (n + 2) A)
    (h : ∀ s' v, LxRead s s' a cps ln v → R (.ok (.ret v)) s') : codeAny (model prog w) A (.call (.ref fRC) ⟨[.ref a.x], []⟩) R s := by
  refine callF (binds := [("self", .ref a.x)]) hf hlim hr (fun _ _ _ _ => BindsTo.of_eq rfl) (fun L h₁ hL F₁ hr' => ?_) (by decide) (locs rfl)
  have I := Loc.start (tk := s.toks + 1) F₁
  obtain ⟨h1, h2, h3, h4, t1, t2, t3, t4, t5, t6, nn, nx⟩ := S.dx
  obtain ⟨es, ns, ns1, r1⟩ := F.ds
  obtain ⟨vs, hl, hch⟩ := S.left
  have hvs := hch.len
  obtain ⟨orr, frr, q1, q2⟩ := F.rd.fn
  refine setL (MethodCall_ (Attribute_Name_ (ldL I.ns rfl (attrO (dx := a.dx) (Frag.In.keeps X I.old) c (c.no "instream" (by decide)) (I.old _ _ F.x) (I.old _ _ nx) rfl rfl fun tk => ?_))))
  refine methO (dx := a.ds) (Frag.In.keeps X I.old) c (c.no "read" (by decide)) (I.old _ _ F.st) (I.old _ _ ns1) r1 rfl fun tk => ?_
  refine cwP (o := orr) (fd := frr) (wpAny_items_cons (wpAny_Constant_int (wpAny_items_nil ⟨⟨I.old _ _ q1, q2⟩, wpAny_call ?_⟩)))
  have hLl : L ≠ a.left := fun q => by
    obtain ⟨nl, el⟩ := hl
    have := I.fresh
    rw [q, el] at this; cases this
  have hLd : L ≠ a.dx := fun q => by
    have := I.fresh
    rw [q, nx] at this; cases this
  have hld : a.left ≠ a.dx := fun q => by
    obtain ⟨nl, el⟩ := hl
    rw [q, nx] at el; cases congrArg Obj.data (Option.some.inj el)
  refine readLam_spec (n := n) (F.keeps I.old) (hl.keeps I.old) (by omega) (hlim.keeps I.old) hr' (fun hv s₂ t₂ k₂ => ?_) (fun v₀ vs' hv s₂ k₂ l₂ => ?_)
  · subst hv
    have I₂ := I.tok.call k₂
    have hc : cps = [] := by cases cps with | nil => rfl | cons _ _ => exact hch.elim
    subst hc
    refine stL I₂ fun s₃ I₃ _ => ?_
    refine wpAny_execs_cons (wpAny_If (wpAny_isTrue_Compare1 (ldL I₃.ns rfl (wpAny_Constant_str (PyProof.Rows.eq_str (wpAny_truthy_bool ?_))))))
    rw [show ((("" : Str) == ("\n" : Str))) = false from by decide +kernel]
    refine wpAny_execs_nil (wpAny_execs_cons (wpAny_Return_some (ldL I₃.ns rfl (h _ _ ⟨?_, .inl ⟨rfl, ⟨_, rfl⟩, ?_⟩⟩))))
    · exact ⟨fun b o _ e => I₃.old b o e, I₃.kp.os, I₃.kp.gens⟩
    · exact S.keeps I₃.old
  · subst hv
    cases cps with
    | nil => exact hch.elim
    | cons cc cs =>
    obtain ⟨⟨t₀, rfl⟩, hch'⟩ := hch
    have K₂ : Kp [a.dx, a.left] s s₂ := ⟨fun b o nb e => k₂.keep b o (fun q => nb (by rw [List.mem_singleton.mp q]; simp)) (I.old b o e), k₂.os, fun g => k₂.gens g⟩
    have I₂ : Loc s [a.dx, a.left] L _ s₂ := ⟨let ⟨o, es, ep, e, r⟩ := I.ns; ⟨o, es, ep, k₂.keep _ _ (fun q => hLl (List.mem_singleton.mp q)) e, r⟩, K₂, I.above⟩
    have nx₂ := k₂.keep _ _ (fun q => hld (List.mem_singleton.mp q).symm) (I.old _ _ nx)
    refine stL I₂ fun s₃ I₃ sm => ?_
    have nx₃ := (sm _ hLd.symm).trans nx₂
    have l₃ : LsAt s₃.heap a.left vs' := l₂.of_eq (sm _ hLl.symm)
    have X₃ : K.In s₃.heap := fun b o e => I₃.kp.keep b o (by
      simp only [List.mem_cons, List.not_mem_nil, or_false, not_or]
      exact ⟨fun q => (by rw [q, hKd] at e; cases e), fun q => (by rw [q, hKl] at e; cases e)⟩) (X b o e)
    have F₃ : LxFix s₃.heap a := F.kp S I₃.kp
    refine wpAny_execs_cons (wpAny_If (wpAny_isTrue_Compare1 (ldL I₃.ns rfl (wpAny_Constant_str (PyProof.Rows.eq_str (wpAny_truthy_bool ?_))))))
    rw [beq_nl]
    by_cases hc : cc = 10
    · rw [decide_eq_true hc]
      refine wpAny_execs_cons (wpAny_AugAssign_AttributeAny (ldL I₃.ns rfl (attrO (dx := a.dx) X₃ c (c.no "lineno" (by decide)) F₃.x nx₃ rfl rfl fun tk => ?_)))
      refine wpAny_Constant_int (iadd_int (attrS (dx := a.dx) X₃ c (c.no "lineno" (by decide)) F₃.x nx₃ rfl (Nat.le_of_ble_eq_true rfl) fun s₄ nx₄ o₄ => ?_))
      have I₄ : Loc s [a.dx, a.left] L _ s₄ := ⟨let ⟨o, es, ep, e, r⟩ := I₃.ns; ⟨o, es, ep, (o₄.same _ hLd).trans e, r⟩, ⟨fun b o nb e => (o₄.same _ (fun q => nb (by rw [q]; simp))).trans (I₃.kp.keep b o nb e), o₄.os.trans I₃.kp.os, fun g => o₄.gens ▸ I₃.kp.gens g⟩, I₃.above⟩
      refine wpAny_execs_nil (wpAny_execs_cons (wpAny_Return_some (ldL I₄.ns rfl (h _ _ ⟨I₄.kp, .inr ⟨cc, cs, t₀, rfl, rfl, ?_⟩⟩))))
      rw [if_pos hc]
      exact ⟨⟨h1, h2, h3, h4, t1, t2, t3, t4, _, t6, nn, nx₄⟩, ⟨vs', l₃.of_eq (o₄.same _ hld), hch'⟩⟩
    · rw [decide_eq_false hc]
      refine wpAny_execs_nil (wpAny_execs_cons (wpAny_Return_some (ldL I₃.ns rfl (h _ _ ⟨?_, .inr ⟨cc, cs, t₀, rfl, rfl, ?_⟩⟩))))
      · exact ⟨I₃.kp.keep, I₃.kp.os, I₃.kp.gens⟩
      · rw [if_neg hc]
        exact ⟨⟨h1, h2, h3, h4, t1, t2, t3, t4, t5, t6, nn, nx₃⟩, ⟨vs', l₃, hch'⟩⟩
end
end Mine
end
section
open PySem PySem.W PySem.Calls PyProof.Rows
set_option maxRecDepth 100000
set_option Elab.async false
set_option linter.unusedVariables false
namespace Mine

theorem slot_ci_next : Slot "callable_iterator" "__next__" "callable_iterator.__next__" :=
  .of (owner := "callable_iterator") (n := "__next__") (by rw [typeLookup_type, builtinLookup_eq_fast]; kernel_rfl) (by decide +kernel) (by decide +kernel) (by decide +kernel)
    (by first | exact .inl (by decide +kernel) | exact .inr (by decide +kernel)) (by rw [isSubtype_type]; kernel_rfl)
theorem entry_ci_next : entryFor table "callable_iterator.__next__" = some Builtin.«callable_iterator.__next__» := entryFor_of_tree (by kernel_rfl)
theorem args_ci_next (a : Value) : argsOk "callable_iterator.__next__" ⟨[a], []⟩ := by unfold argsOk; kernel_rfl
theorem slot_ci_iter : Slot "callable_iterator" "__iter__" "callable_iterator.__iter__" :=
  .of (owner := "callable_iterator") (n := "__iter__") (by rw [typeLookup_type, builtinLookup_eq_fast]; kernel_rfl) (by decide +kernel) (by decide +kernel) (by decide +kernel)
    (by first | exact .inl (by decide +kernel) | exact .inr (by decide +kernel)) (by rw [isSubtype_type]; kernel_rfl)
theorem entry_ci_iter : entryFor table "callable_iterator.__iter__" = some Builtin.«dict_keyiterator.__iter__» :=
  entryFor_alias (id' := "dict_keyiterator.__iter__") (by kernel_rfl) rfl (by decide +kernel) (by kernel_rfl)
theorem args_ci_iter (a : Value) : argsOk "callable_iterator.__iter__" ⟨[a], []⟩ := by unfold argsOk; kernel_rfl

/-- iter(q, '') that has not ended -/
abbrev ciObj (q : Addr) (t : Tok) : Obj := { cls := .type "callable_iterator", data := .fields #[.ref q, .str "" t, .bool false] }

section
variable {prog : Program} {w : World} {A : Around} {E : Value → Shared → Prop} {s : Shared}
theorem wpAny_callBorrowed {M : Model} {f : Value} {pos : List Value} {Q : Value → Shared → Prop} (hc : codeAny M A (.call f ⟨pos, []⟩) (fun r s' => match r with | .ok (.ret v) => Q v s' | .ok _ => False | .error e => E e s') s) : wpAny M A (callBorrowed f pos) Q E s := by
  intro Γ p hΓ
  have h := hc _ p rfl (hΓ.enter (.call f ⟨pos, []⟩) none p (by intro x; cases x))
  unfold callBorrowed
  rw [Sem.wp_call]
  refine wpCode_mono (fun r s' z => ?_) h
  rcases r with e | (v | _ | _ | _)
  · rw [Sem.wp_raise]; exact z
  · exact z.elim
  · exact z.elim
  · exact z.elim
  · rw [Sem.wp_pure]; exact z

theorem ci_next {it q f x : Addr} {of : Obj} {fd : FuncData} {t : Tok} {Q : Option Value → Shared → Prop} (hh : A.handled = none) (hi : s.heap.get? it = some (ciObj q t)) (hq : s.heap.get? q = some (methodObj (.ref f) (.ref x))) (hf : s.heap.get? f = some of) (hfd : of.data = .func fd)
    (hc : codeAny (model prog w) A.in1 (.call (.ref f) ⟨[.ref x], []⟩) (fun r s' => ∃ z u, r = .ok (.ret (.str z u)) ∧ s'.heap.get? it = some (ciObj q t) ∧ s'.heap.get? q = some (methodObj (.ref f) (.ref x)) ∧ s'.heap.get? f = some of ∧
      (z ≠ "" → Q (some (.str z u)) s') ∧ (z = "" → ∀ s'', Kp [it] s' s'' → Q none s'')) s) : wpAny (model prog w) A (pyNext (.ref it)) Q E s := by
  have hT : s.TypeIs (.ref it) "callable_iterator" := ⟨_, hi, rfl⟩
  unfold pyNext
  refine wpAny_bind (wpAny_attempt (wpAny_callSpecial?_slot (name := Str.ofString "__next__") hT slot_ci_next
    (wpAny_call_entry slot_ci_next hT entry_ci_next ?_ (args_ci_next _))))
  show wpAny _ _ (field (.ref it) 2 >>= _) _ _ s
  refine wpAny_bind (wpAny_field hi rfl (x := .bool false) rfl ?_)
  show wpAny _ _ (field (.ref it) 0 >>= _) _ _ s
  refine wpAny_bind (wpAny_field hi rfl (x := .ref q) rfl ?_)
  refine wpAny_bind (wpAny_attempt ?_)
  have hbx : ∀ {s' : Shared} {A' : Around} {E' : Value → Shared → Prop} {Q' : Bool → Shared → Prop}, s'.heap.get? q = some (methodObj (.ref f) (.ref x)) → s'.heap.get? f = some of → Q' true s' → wpAny (model prog w) A' (borrowsExactly (.ref q)) Q' E' s' := by
    intro s' A' E' Q' e1 e2 hQ
    unfold borrowsExactly
    refine wpAny_bind (wpAny_load e1 ?_)
    dsimp only
    rw [if_pos (by decide)]
    show wpAny _ _ (load f >>= _) _ _ s'
    refine wpAny_bind (wpAny_load e2 ?_)
    rw [hfd]
    exact wpAny_pure hQ
  unfold callOutOfASlot
  refine wpAny_bind (hbx hq hf ?_)
  rw [if_pos rfl]
  refine wpAny_callBorrowed (method_call hq (codeAny_mono hc fun r s' z => ?_))
  obtain ⟨z, u, rfl, i1, i2, i3, g1, g2⟩ := z
  show wpAny _ _ (field (.ref it) 2 >>= _) _ _ s'
  refine wpAny_bind (wpAny_field i1 rfl (x := .bool false) rfl ?_)
  show wpAny _ _ (field (.ref it) 1 >>= _) _ _ s'
  refine wpAny_bind (wpAny_field i1 rfl (x := .str "" t) rfl ?_)
  refine wpAny_bind (wpAny_holding (PySem.wpAny_eqBool_str ?_))
  by_cases hz : z = ""
  · rw [decide_eq_true hz.symm]
    show wpAny _ _ (rule _ >>= _) _ _ s'
    refine wpAny_bind (wpAny_rule ?_)
    refine wpAny_bind ?_
    show wpAny _ _ (field (.ref it) 0 >>= _) _ _ s'
    refine wpAny_bind (wpAny_field i1 rfl (x := .ref q) rfl ?_)
    refine wpAny_bind ?_
    unfold slotLetsGo
    refine wpAny_bind (hbx i2 i3 ?_)
    rw [if_pos rfl]
    refine wpAny_pure ?_
    have go : ∀ (s₁ : Shared) (vs : Array Value) (j : Nat) (y : Value) (A' : Around) (E' : Value → Shared → Prop) (Q' : Unit → Shared → Prop), s₁.heap.get? it = some { cls := .type "callable_iterator", data := .fields vs } → j < vs.size →
        (∀ s₂, s₂.heap.get? it = some { cls := .type "callable_iterator", data := .fields (vs.setIfInBounds j y) } → Kp [it] s₁ s₂ → Q' () s₂) → wpAny (model prog w) A' (setField (.ref it) j y) Q' E' s₁ := by
      intro s₁ vs j y A' E' Q' e1 hj hQ
      refine wpAny_setField e1 rfl hj (hQ _ ?_ (Only.kp (Only.update (tk := s₁.toks))))
      exact Heap.get?_update_self _ e1 rfl
    refine wpAny_bind (go s' _ 0 _ _ _ _ i1 (by simp) fun s₁ e1 k1 => ?_)
    refine wpAny_bind (go s₁ _ 1 _ _ _ _ e1 (by simp) fun s₂ e2 k2 => ?_)
    refine go s₂ _ 2 _ _ _ _ e2 (by simp) fun s₃ e3 k3 => ?_
    show wpAny _ _ (newExc (.type "StopIteration") [] >>= _) _ _ _
    refine wpAny_bind ?_
    simp only [newExc, newTuple]
    refine wpAny_bind (wpAny_newObj_type ?_ (by size_fits))
    refine wpAny_bind (m := firstArgMember _ _) (wpAny_of_eq (a := Value.none) (by first | rfl | (simp only [firstArgMember]; rfl)) ?_)
    refine wpAny_newObj_type ?_ (by size_fits)
    simp only [raiseNew]
    refine wpAny_bind (wpAny_handled ?_)
    rw [show A.in1.handled = none from hh]
    refine wpAny_bind (wpAny_pure (wpAny_throw ?_))
    refine wpAny_bind (wpAny_isInstance (T := "StopIteration") (b := true) ⟨_, Heap.get?_push_size _ rfl, rfl⟩ isSubtype_stop ?_)
    refine wpAny_pure (g2 hz _ ?_)
    have k := (k1.trans k2).trans k3
    exact ⟨fun b o nb e => Heap.get?_push_of_some _ (Heap.get?_push_of_some _ (k.keep b o nb e)), k.os, k.gens⟩
  · rw [decide_eq_false (fun e => hz e.symm)]
    exact wpAny_pure ⟨_, rfl, wpAny_pure (g1 hz)⟩
theorem ci_iter {it q : Addr} {t : Tok} {Q : Value → Shared → Prop} (hi : s.heap.get? it = some (ciObj q t)) (h : Q (.ref it) s) : wpAny (model prog w) A (pyIter (.ref it)) Q E s := by
  have hT : s.TypeIs (.ref it) "callable_iterator" := ⟨_, hi, rfl⟩
  refine wpAny_pyIter_slot hT slot_ci_iter (wpAny_call_entry slot_ci_iter hT entry_ci_iter ?_ (args_ci_iter _))
  show wpAny _ _ (ret (.ref it)) _ _ s
  exact wpAny_pure ⟨_, rfl, "callable_iterator", _, hT, slot_ci_next.lookup, h⟩
theorem slot_method_call : Slot "method" "__call__" "method.__call__" :=
  .of (owner := "method") (n := "__call__") (by rw [typeLookup_type, builtinLookup_eq_fast]; kernel_rfl) (by decide +kernel) (by decide +kernel) (by decide +kernel)
    (by first | exact .inl (by decide +kernel) | exact .inr (by decide +kernel)) (by rw [isSubtype_type]; kernel_rfl)
theorem kind_iter : builtinKind "iter" = none := by decide +kernel
theorem plain_iter : plainId "iter" = true := by decide +kernel
theorem entry_iter : entryFor table "iter" = some Builtin.«iter» := entryFor_of_tree (by kernel_rfl)
theorem args_iter2 (a b : Value) : argsOk "iter" ⟨[a, b], []⟩ := by unfold argsOk; kernel_rfl
theorem iter2 {q : Addr} {g self sen : Value} {Q : Value → Shared → Prop} (hq : s.heap.get? q = some (methodObj g self))
    (h : ∀ it s', it = s.heap.objs.size → s'.heap.get? it = some { cls := .type "callable_iterator", data := .fields #[.ref q, sen, .bool false] } → Kp [] s s' → Q (.ref it) s') :
    wpAny (model prog w) A (call (.builtin "iter") [.ref q, sen]) Q E s := by
  refine call_function_entry kind_iter plain_iter entry_iter (args_iter2 _ _) ?_
  unfold Builtin.«iter»
  refine wpAny_bind (m := someArgs "iter" 1 2 _) (wpAny_pure ?_)
  dsimp only
  refine wpAny_bind (wpAny_specialOf (T := "method") ⟨_, hq, rfl⟩ slot_method_call.lookup ?_)
  show wpAny _ _ (rule _ >>= _) _ _ s
  refine wpAny_bind (wpAny_rule (wpAny_bind (wpAny_newObj_type ?_ (by size_fits))))
  exact wpAny_pure ⟨_, rfl, h _ _ rfl (Heap.get?_push_size _ rfl) ⟨fun b o _ e => Heap.get?_push_of_some _ e, rfl, id⟩⟩
end
end Mine
end
section
open PySem PySem.W PySem.Calls PyProof.Rows
set_option maxRecDepth 100000
set_option Elab.async false
set_option autoImplicit false
set_option linter.unusedVariables false
namespace Mine

/-- so many blanks -/
def bl (n : Nat) : Str := ⟨Array.replicate n 32⟩
theorem bl_succ (n : Nat) : bl n ++ (⟨#[32]⟩ : Str) = bl (n + 1) := by
  apply Str.ext'
  rw [Str.cps_append]
  show Array.replicate n 32 ++ #[32] = Array.replicate (n + 1) 32
  rw [Array.replicate_succ]; rfl
theorem bl_len (n : Nat) : (bl n).length = n := by show (Array.replicate n 32).size = n; simp
theorem bl_zero : bl 0 = "" := by decide +kernel

/-- where the text's things stand -/
structure Ads where
  K : Frag
  C : Addr
  fIR : Addr
  fBR : Addr
  fBL : Addr
  fSC : Addr
  fSX : Addr
  fGI : Addr
  fLS : Addr
  fLL : Addr
  fLW : Addr
  fLH : Addr
  fLC : Addr
  fIN : Addr
  fRC : Addr
  fGT : Addr
  fPT : Addr
  dIR : Value
  kIR : Value
  dBR : Value
  kBR : Value
  dBL : Value
  kBL : Value
  cIR : Value
  cBR : Value
  cBL : Value
  cSC : Value
  cSX : Value
  cGI : Value
  cLS : Value
  cLL : Value
  cLW : Value
  cLH : Value
  cLC : Value
  cIN : Value
  cRC : Value
  cGT : Value
  cPT : Value
abbrev dGI := theDefAt 8
abbrev dLL := theDefAt 13
abbrev dLW := theDefAt 14
abbrev dLH := theDefAt 15
abbrev dLC := theDefAt 16
abbrev dLaw := theDefAt 17
/-- what stands from the text's top on -/
structure Sg (G : Heap) (mg mb : Str → Option Value) (d : Ads) : Prop where
  X : d.K.In G
  glo : Glo G mg mb
  cls : ClsF d.K d.C
  no : ∀ x ∈ (["len", "range", "min", "max", "list", "sorted", "repr", "zip", "iter"] : List Str), mg x = none
  mIR : mg "insort_right" = some (.ref d.fIR)
  mBR : mg "bisect_right" = some (.ref d.fBR)
  mBL : mg "bisect_left" = some (.ref d.fBL)
  mSC : mg "_strcoll" = some (.ref d.fSC)
  mSX : mg "_strxfrm" = some (.ref d.fSX)
  mGI : mg "_grouping_intervals" = some (.ref d.fGI)
  mC : mg "_netrclex" = some (.ref d.C)
  mLS : mg "_law_stream" = some (.ref d.fLS)
  mLL : mg "_law_line" = some (.ref d.fLL)
  mLW : mg "_law_written" = some (.ref d.fLW)
  mLH : mg "_law_by_height" = some (.ref d.fLH)
  mLC : mg "_law_crossed" = some (.ref d.fLC)
  mCM : ∃ t, mg "CHAR_MAX" = some (.int 127 t)
  IR : FnAt G d.fIR "insort_right" "insort_right" dIR [] d.dIR d.kIR d.cIR
  BR : FnAt G d.fBR "bisect_right" "bisect_right" dBR [] d.dBR d.kBR d.cBR
  BL : FnAt G d.fBL "bisect_left" "bisect_left" dBL [] d.dBL d.kBL d.cBL
  DIR : DfltAt G d.dIR d.kIR
  DBR : DfltAt G d.dBR d.kBR
  DBL : DfltAt G d.dBL d.kBL
  SC : FnAt G d.fSC "_strcoll" "_strcoll" dSC [] .none .none d.cSC
  SX : FnAt G d.fSX "_strxfrm" "_strxfrm" dSX [] .none .none d.cSX
  GI : FnAt G d.fGI "_grouping_intervals" "_grouping_intervals" dGI [] .none .none d.cGI
  LS : FnAt G d.fLS "_law_stream" "_law_stream" dLS [] .none .none d.cLS
  LL : FnAt G d.fLL "_law_line" "_law_line" dLL [] .none .none d.cLL
  LW : FnAt G d.fLW "_law_written" "_law_written" dLW [] .none .none d.cLW
  LH : FnAt G d.fLH "_law_by_height" "_law_by_height" dLH [] .none .none d.cLH
  LC : FnAt G d.fLC "_law_crossed" "_law_crossed" dLC [] .none .none d.cLC
  IN : FnAt G d.fIN "__init__" "_netrclex.__init__" dIN [] .none .none d.cIN
  RC : FnAt G d.fRC "_read_char" "_netrclex._read_char" dRC [] .none .none d.cRC
  GT : FnAt G d.fGT "get_token" "_netrclex.get_token" dGT [] .none .none d.cGT
  PT : FnAt G d.fPT "push_token" "_netrclex.push_token" dPT [] .none .none d.cPT
  kRC : findIn d.K (.ref d.C) "_read_char" = some (some (.ref d.fRC))
  kGT : findIn d.K (.ref d.C) "get_token" = some (some (.ref d.fGT))
  kPT : findIn d.K (.ref d.C) "push_token" = some (some (.ref d.fPT))
  kIN : findIn d.K (.ref d.C) "__init__" = some (some (.ref d.fIN))
  iRC : isFn d.K (.ref d.fRC) = true
  iGT : isFn d.K (.ref d.fGT) = true
  iPT : isFn d.K (.ref d.fPT) = true
  iIN : isFn d.K (.ref d.fIN) = true
  gRC : specialIn d.K (.ref d.fRC) "__get__" = some (some (.builtin "function.__get__"))
  tRC : takesIn d.K (.ref d.fRC) = some false
  bm : ∃ bm ob, mg "__builtins__" = some (.ref bm) ∧ bm ≠ builtinsNs ∧ bm ≠ mainGlobals ∧ G.get? bm = some ob ∧ ob.cls = .type "module" ∧ ob.dict = some builtinsNs ∧ ob.data = .plain
  made : makesIn d.K d.C = true
  kept : keepIn d.K (.ref d.C) = true

section
variable {prog : Program} {w : World} {A : Around} {E : Value → Shared → Prop} {s : Shared} {K : Frag} {x C dx f : Addr} {es : List DictEntry} {n : Nat} {name : Str}
/-- x.name, a bound method -/
theorem attrM {expr : Bool} {Q : Value → Shared → Prop} (X : K.In s.heap) (c : ClsF K C) (hc : findIn K (.ref C) name = some (some (.ref f))) (hf : isFn K (.ref f) = true) (hg : specialIn K (.ref f) "__get__" = some (some (.builtin "function.__get__"))) (ht : takesIn K (.ref f) = some false)
    (hx : s.heap.get? x = some (instObj C dx)) (hn : s.heap.get? dx = some (dictOf es n)) (hv : getL name es = some none) (hcn : copiedNames.contains name = false)
    (h : ∀ q s', q = s.heap.objs.size → s'.heap.get? q = some (methodObj (.ref f) (.ref x)) → Kp [] s s' → Q (.ref q) s') : wpAny (model prog w) A (getAttr (.ref x) name expr) Q E s := by
  have hfo : findObj K C (some (dictOf es n)) name = some (.bind (.builtin "function.__get__") (.ref f)) := by
    obtain ⟨cd, hcd, hd'⟩ := any_some c.hd
    unfold findObj
    have ho : PySem.W.ownOf cd (some (dictOf es n)) name = some none := by unfold PySem.W.ownOf; rw [if_pos hd']; exact hv
    rw [hcd, Option.bind_some, hc, Option.bind_some]
    simp only [hg, ht, ho, hcn, Option.bind_some, Bool.false_and, Bool.false_eq_true, if_false]
  refine get_bind X (inst_of hx hn) c.ga hfo c.gt (wpAny_call (fn_get (s := { s with toks := s.toks + 1 }) X (beq_iff_eq.mp hf) ?_))
  refine handed_on rfl (h _ _ rfl (Heap.get?_push_size _ rfl) ⟨fun b o _ e => Heap.get?_push_of_some _ e, rfl, id⟩)
end

theorem not2 {b x y : Addr} (h1 : b ≠ x) (h2 : b ≠ y) : b ∉ [x, y] := by
  simp only [List.mem_cons, List.not_mem_nil, or_false, not_or]; exact ⟨h1, h2⟩
/-- the lexer in the state where a call of its begins -/
structure Lx0 (G : Heap) (mg mb : Str → Option Value) (d : Ads) (a : Lx) (s₀ : Shared) : Prop where
  sg : Sg G mg mb d
  hC : a.C = d.C
  F : LxFix s₀.heap a
  S : ∃ cps ln, LxSt s₀.heap a cps ln
  gs : ∀ b o, G.get? b = some o → s₀.heap.get? b = some o
  gd : G.get? a.dx = none ∧ G.get? a.left = none
section
variable {G : Heap} {mg mb : Str → Option Value} {d : Ads} {a : Lx} {s₀ s s' : Shared}
theorem Lx0.fix (z : Lx0 G mg mb d a s₀) (k : Kp [a.dx, a.left] s₀ s) : LxFix s.heap a := let ⟨_, _, S⟩ := z.S; z.F.kp S k
theorem Lx0.gnd (z : Lx0 G mg mb d a s₀) (k : Kp [a.dx, a.left] s₀ s) (b : Addr) (o : Obj) (e : G.get? b = some o) : s.heap.get? b = some o :=
  k.keep b o (not2 (fun q => by rw [q, z.gd.1] at e; cases e) (fun q => by rw [q, z.gd.2] at e; cases e)) (z.gs b o e)
theorem Lx0.noK (z : Lx0 G mg mb d a s₀) : d.K.lookup a.dx = none ∧ d.K.lookup a.left = none := by
  refine ⟨?_, ?_⟩
  · cases e : d.K.lookup a.dx with
    | none => rfl
    | some o => have := z.sg.X _ _ e; rw [z.gd.1] at this; cases this
  · cases e : d.K.lookup a.left with
    | none => rfl
    | some o => have := z.sg.X _ _ e; rw [z.gd.2] at this; cases this
theorem Lx0.dx (z : Lx0 G mg mb d a s₀) : (∃ o, s₀.heap.get? a.dx = some o) ∧ ∃ o, s₀.heap.get? a.left = some o := by
  obtain ⟨_, _, ⟨h1, h2, h3, h4, t1, t2, t3, t4, t5, t6, n, e⟩, vs, ⟨n', e'⟩, _⟩ := z.S
  exact ⟨⟨_, e⟩, ⟨_, e'⟩⟩
end

/-- in get_token's frame, its iterator made -/
structure GTs (d : Ads) (a : Lx) (s₀ : Shared) (L it q : Addr) (m : Str → Option Value) (cps : List Nat) (ln : Int) (s : Shared) : Prop where
  I : Loc s₀ [a.dx, a.left] L m s
  hit : ∃ t, s.heap.get? it = some (ciObj q t)
  hq : s.heap.get? q = some (methodObj (.ref d.fRC) (.ref a.x))
  S : LxSt s.heap a cps ln
  nL : L ≠ a.dx ∧ L ≠ a.left
  nit : it ≠ a.dx ∧ it ≠ a.left ∧ it ≠ L
  new : s₀.heap.get? it = none
  nq : q ≠ a.dx ∧ q ≠ a.left ∧ q ≠ L
  mit : m "fiter" = some (.ref it)
  mself : m "self" = some (.ref a.x)

section
variable {prog : Program} {w : World} {A : Around} {E : Value → Shared → Prop} {G : Heap} {mg mb : Str → Option Value} {d : Ads} {a : Lx} {s₀ s s' : Shared} {L it q : Addr} {m : Str → Option Value} {cps cs : List Nat} {ln ln' : Int} {n c : Nat}
theorem GTs.tok (g : GTs d a s₀ L it q m cps ln s) {tk : Nat} : GTs d a s₀ L it q m cps ln { s with toks := tk } := ⟨g.I.tok, g.hit, g.hq, ⟨g.S.dx, g.S.left⟩, g.nL, g.nit, g.new, g.nq, g.mit, g.mself⟩
/-- behind one read -/
theorem GTs.read (g : GTs d a s₀ L it q m cps ln s) (k : Kp [a.dx, a.left] s s') (S' : LxSt s'.heap a cs ln') : GTs d a s₀ L it q m cs ln' s' where
  I := ⟨let ⟨o, es, ep, e, r⟩ := g.I.ns; ⟨o, es, ep, k.keep _ _ (not2 g.nL.1 g.nL.2) e, r⟩, g.I.kp.trans k, g.I.above⟩
  hit := let ⟨t, e⟩ := g.hit; ⟨t, k.keep _ _ (not2 g.nit.1 g.nit.2.1) e⟩
  hq := k.keep _ _ (not2 g.nq.1 g.nq.2.1) g.hq
  S := S'
  nL := g.nL
  nit := g.nit
  new := g.new
  nq := g.nq
  mit := g.mit
  mself := g.mself
theorem LxSt.same (S : LxSt s.heap a cps ln) (h1 : s'.heap.get? a.dx = s.heap.get? a.dx) (h2 : s'.heap.get? a.left = s.heap.get? a.left) : LxSt s'.heap a cps ln :=
  let ⟨x1, x2, x3, x4, t1, t2, t3, t4, t5, t6, n, e⟩ := S.dx
  let ⟨vs, l, c⟩ := S.left
  ⟨⟨x1, x2, x3, x4, t1, t2, t3, t4, t5, t6, n, h1.trans e⟩, ⟨vs, l.of_eq h2, c⟩⟩
theorem LxSt.off (S : LxSt s.heap a cps ln) (k : Kp [it] s s') (n1 : it ≠ a.dx) (n2 : it ≠ a.left) : LxSt s'.heap a cps ln :=
  let ⟨x1, x2, x3, x4, t1, t2, t3, t4, t5, t6, n, e⟩ := S.dx
  let ⟨vs, ⟨nl, l⟩, c⟩ := S.left
  ⟨⟨x1, x2, x3, x4, t1, t2, t3, t4, t5, t6, n, k.keep _ _ (fun q => n1 (List.mem_singleton.mp q).symm) e⟩, ⟨vs, ⟨nl, k.keep _ _ (fun q => n2 (List.mem_singleton.mp q).symm) l⟩, c⟩⟩
/-- behind a store of a name -/
theorem GTs.store {x : Str} {v : Value} (g : GTs d a s₀ L it q m cps ln s) (I : Loc s₀ [a.dx, a.left] L (upd m x v) s') (sm : SameL L s s') (h1 : ("fiter" : Str) ≠ x) (h2 : ("self" : Str) ≠ x) : GTs d a s₀ L it q (upd m x v) cps ln s' where
  I := I
  hit := let ⟨t, e⟩ := g.hit; ⟨t, (sm _ g.nit.2.2).trans e⟩
  hq := (sm _ g.nq.2.2).trans g.hq
  S := g.S.same (sm _ g.nL.1.symm) (sm _ g.nL.2.symm)
  nL := g.nL
  nit := g.nit
  new := g.new
  nq := g.nq
  mit := (if_neg h1).trans g.mit
  mself := (if_neg h2).trans g.mself

/-- next(fiter), a sign left -/
theorem GTs.next {Q : Option Value → Shared → Prop} (z : Lx0 G mg mb d a s₀) (g : GTs d a s₀ L it q m (c :: cs) ln s) (hz : cs.length < 2 ^ 19) (hr : Rm (n + 4) A)
    (h : ∀ s' t, GTs d a s₀ L it q m cs (if c = 10 then ln + 1 else ln) s' → Q (some (.str ⟨#[c]⟩ t)) s') : wpAny (model prog w) A (pyNext (.ref it)) Q E s := by
  obtain ⟨t, hit⟩ := g.hit
  have hG := z.gnd g.I.kp
  have RC := z.sg.RC.keeps hG
  obtain ⟨o, doc, pm, an, ct, r1, r2, r3⟩ := id RC
  have hr1 : Rm (n + 3) A.in1 := hr.in1
  refine ci_next hr.2.2 hit g.hq r1 r2 ?_
  refine readChar_spec (n := n) RC (Frag.In.keeps z.sg.X hG) (by rw [z.hC]; exact z.sg.cls) z.noK.1 z.noK.2 (z.fix g.I.kp) g.S (by rw [List.length_cons]; omega) (z.sg.glo.lim.keeps hG) (hr1.less (by omega)) fun s' v hv => ?_
  obtain ⟨k, ⟨e, _⟩ | ⟨c', cs', t', e, rfl, S'⟩⟩ := hv
  · cases e
  · cases e
    have g' := g.read k S'
    refine ⟨_, t', rfl, k.keep _ _ (not2 g.nit.1 g.nit.2.1) hit, g'.hq, k.keep _ _ ?_ r1, fun _ => h s' t' g', fun e => ?_⟩
    · have q1 := z.sg.RC
      obtain ⟨o', _, _, _, _, p1, _, _⟩ := q1
      exact not2 (fun q => by rw [q, z.gd.1] at p1; cases p1) (fun q => by rw [q, z.gd.2] at p1; cases p1)
    · have : (⟨#[c]⟩ : Str).cps.size = ("" : Str).cps.size := by rw [e]
      have e0 : ("" : Str).cps.size = 0 := by decide +kernel
      rw [e0] at this
      simp at this
end
end Mine
end
section
open PySem PySem.W PySem.Calls PyProof.Rows
set_option maxRecDepth 100000
set_option Elab.async false
set_option autoImplicit false
set_option linter.unusedVariables false
namespace Mine
theorem in10 : Txt.contains ("\n\t\r " : Str) ⟨#[10]⟩ = true := by decide +kernel
theorem in32 : Txt.contains ("\n\t\r " : Str) ⟨#[32]⟩ = true := by decide +kernel
theorem in34 : Txt.contains ("\n\t\r " : Str) ⟨#[34]⟩ = false := by decide +kernel
theorem in92 : Txt.contains ("\n\t\r " : Str) ⟨#[92]⟩ = false := by decide +kernel
theorem q34 : ((⟨#[34]⟩ : Str) == ("\"" : Str)) = true := by decide +kernel
theorem q32 : ((⟨#[32]⟩ : Str) == ("\"" : Str)) = false := by decide +kernel
theorem q92 : ((⟨#[92]⟩ : Str) == ("\"" : Str)) = false := by decide +kernel
theorem b32 : ((⟨#[32]⟩ : Str) == ("\\" : Str)) = false := by decide +kernel
theorem b92 : ((⟨#[92]⟩ : Str) == ("\\" : Str)) = true := by decide +kernel

section
variable {prog : Program} {w : World} {A : Around} {E : Value → Shared → Prop} {G : Heap} {mg mb : Str → Option Value} {d : Ads} {a : Lx} {s₀ s s' : Shared} {L it q : Addr} {m : Str → Option Value} {cps cs : List Nat} {ln ln' : Int} {n c : Nat} {env : Env} {cdv : Value}

/-- self.whitespace -/
theorem GTs.ws {pos p2 : Pos} {Q : Value → Shared → Prop} (z : Lx0 G mg mb d a s₀) (g : GTs d a s₀ L it q m cps ln s) (hL : env.locals = L) (hk : env.scope.kind = .function) (hx : env.kindOf "self" = some .local)
    (h : ∀ tk t, Q (.str "\n\t\r " t) { s with toks := tk }) : wpAny (model prog w) A (eval (.Attribute (.Name "self" pos) "whitespace" p2) env) Q E s := by
  obtain ⟨x1, x2, x3, x4, t1, t2, t3, t4, t5, t6, n, e⟩ := g.S.dx
  have hG := z.gnd g.I.kp
  refine Attribute_name (ldL (m := m) (by rw [hL]; exact g.I.ns) g.mself ?_ hk hx)
  refine attrO (dx := a.dx) (Frag.In.keeps z.sg.X hG) (by rw [z.hC]; exact z.sg.cls) (by rw [z.hC]; exact z.sg.cls.no "whitespace" (by decide)) (z.fix g.I.kp).x e rfl rfl fun tk => h tk _

/-- ch = self._read_char() -/
theorem GTs.rd {pos p2 p3 : Pos} {Q : Value → Shared → Prop} (z : Lx0 G mg mb d a s₀) (g : GTs d a s₀ L it q m (c :: cs) ln s) (hz : cs.length < 2 ^ 19) (hr : Rm (n + 4) A) (hL : env.locals = L) (hk : env.scope.kind = .function) (hx : env.kindOf "self" = some .local)
    (h : ∀ s' t, GTs d a s₀ L it q m cs (if c = 10 then ln + 1 else ln) s' → Q (.str ⟨#[c]⟩ t) s')
    (he : eval (.Call (.Attribute (.Name "self" pos) "_read_char" p2) [] [] p3) env = (do
      let ov ← eval (.Name "self" pos) env
      standAt p2.atName
      let (f, first) ← holding [ov] (getMethod ov "_read_char" (do return (← importBound (.Name "self" pos) env).getD true))
      callWith p3 f first (backTo p3 (starEach [] env)) []) := by rfl) : wpAny (model prog w) A (eval (.Call (.Attribute (.Name "self" pos) "_read_char" p2) [] [] p3) env) Q (fun _ _ => False) s := by
  obtain ⟨x1, x2, x3, x4, t1, t2, t3, t4, t5, t6, n', e⟩ := g.S.dx
  have hG := z.gnd g.I.kp
  have RC := z.sg.RC.keeps hG
  obtain ⟨o, doc, pm, an, ct, r1, r2, r3⟩ := id RC
  refine MethodCall_ (ldL (m := m) (by rw [hL]; exact g.I.ns) g.mself ?_ hk hx) he
  refine methC (dx := a.dx) (f := d.fRC) (Frag.In.keeps z.sg.X hG) (by rw [z.hC]; exact z.sg.cls) (by rw [z.hC]; exact z.sg.kRC) z.sg.iRC (z.fix g.I.kp).x e rfl ?_
  refine cwF0 r1 r2 (wpAny_call ?_)
  refine readChar_spec (n := n) RC (Frag.In.keeps z.sg.X hG) (by rw [z.hC]; exact z.sg.cls) z.noK.1 z.noK.2 (z.fix g.I.kp) g.S (by rw [List.length_cons]; omega) (z.sg.glo.lim.keeps hG) (hr.less (by omega)) fun s' v hv => ?_
  obtain ⟨k, ⟨e, _⟩ | ⟨c', cs', t', e, rfl, S'⟩⟩ := hv
  · cases e
  · cases e
    exact h s' t' (g.read k S')

/-- a token in quotes -/
theorem gt_quoted {rest : List Nat} {k h : Nat} {R : Flow → Shared → Prop} {t : Tok} (z : Lx0 G mg mb d a s₀) (hz : (k + h + rest.length) < 1000) (hr : Rm (n + 6) A)
    (g : GTs d a s₀ L it q m (List.replicate k 10 ++ 34 :: (List.replicate h 32 ++ 34 :: rest)) ln s) (htok : m "token" = some (.str "" t))
    (hR : ∀ s' t', Kp [a.dx, a.left] s₀ s' → LxSt s'.heap a rest (ln + k) → R (.ret (.str (bl h) t')) s') :
    wpAny (model prog w) A (execs (dGT.2.1.drop 3) (envX "_netrclex.get_token" dGT.2.2 L d.fGT cdv [])) R (fun _ _ => False) s := by
  obtain ⟨ti, hit⟩ := g.hit
  refine wpAny_execs_cons (wpAny_For (ldL g.I.ns g.mit (ci_iter hit ?_)))
  refine codeAny_forLoop (fun j s₁ => ∃ m₁ t₁, GTs d a s₀ L it q m₁ (List.replicate j 10 ++ 34 :: (List.replicate h 32 ++ 34 :: rest)) (ln + (k - j : Int)) s₁ ∧ m₁ "token" = some (.str "" t₁) ∧ j ≤ k) (fun j s₁ hI => ?_) k ⟨m, t, by rw [Int.sub_self, Int.add_zero]; exact g, htok, Nat.le_refl _⟩
  obtain ⟨m₁, t₁, g₁, ht₁, hjk⟩ := hI
  cases j with
  | succ j =>
    -- an end of row
    rw [List.replicate_succ, List.cons_append] at g₁
    refine g₁.next (n := n) z (by simp; omega) (hr.less (by omega)) fun s₂ t₂ g₂ => ?_
    refine wpAny_assign_Name (stL g₂.I fun s₃ I₃ sm => ?_)
    have g₃ := g₂.store I₃ sm (by decide) (by decide)
    refine wpAny_execs_cons (wpAny_If (wpAny_isTrue_Compare1 (ldL g₃.I.ns rfl (g₃.ws z rfl rfl rfl fun tk t₃ => SB.contains (wpAny_truthy_bool ?_)))))
    rw [in10]
    rw [if_pos rfl] at g₃
    have : ln + (k - (j + 1 : Nat) : Int) + 1 = ln + (k - j : Int) := by omega
    rw [this] at g₃
    exact wpAny_execs_cons (wpAny_Continue ⟨j, Nat.lt_succ_self _, _, t₁, g₃.tok, (if_neg (by decide)).trans ht₁, by omega⟩)
  | zero =>
    rw [List.replicate_zero, List.nil_append] at g₁
    refine g₁.next (n := n) z (by simp; omega) (hr.less (by omega)) fun s₂ t₂ g₂ => ?_
    refine wpAny_assign_Name (stL g₂.I fun s₃ I₃ sm => ?_)
    have g₃ := g₂.store I₃ sm (by decide) (by decide)
    rw [if_neg (by decide)] at g₃
    refine wpAny_execs_cons (wpAny_If (wpAny_isTrue_Compare1 (ldL g₃.I.ns rfl (g₃.ws z rfl rfl rfl fun tk t₃ => SB.contains (wpAny_truthy_bool ?_)))))
    rw [in34]
    refine wpAny_execs_nil (wpAny_execs_cons (wpAny_If (wpAny_isTrue_Compare1 (ldL g₃.I.ns rfl (wpAny_Constant_str (PyProof.Rows.eq_str (wpAny_truthy_bool ?_)))))))
    rw [q34]
    obtain ⟨ti3, hit3⟩ := g₃.hit
    rw [show ln + ((k : Int) - (0 : Nat)) = ln + k from by omega] at g₃
    refine wpAny_execs_cons (wpAny_For (ldL g₃.I.ns g₃.mit (ci_iter hit3 ?_)))
    refine codeAny_forLoop (fun j s₁ => ∃ m₁ t₁, GTs d a s₀ L it q m₁ (List.replicate j 32 ++ 34 :: rest) (ln + k) s₁ ∧ m₁ "token" = some (.str (bl (h - j)) t₁) ∧ j ≤ h) (fun j s₄ hI => ?_) h ⟨_, t₁, g₃.tok, by rw [Nat.sub_self, bl_zero]; exact (if_neg (by decide)).trans ht₁, Nat.le_refl _⟩
    · obtain ⟨m₄, t₄, g₄, ht₄, hj⟩ := hI
      cases j with
      | succ j =>
        rw [List.replicate_succ, List.cons_append] at g₄
        refine g₄.next (n := n) z (by simp; omega) (hr.less (by omega)) fun s₅ t₅ g₅ => ?_
        refine wpAny_assign_Name (stL g₅.I fun s₆ I₆ sm => ?_)
        have g₆ := g₅.store I₆ sm (by decide) (by decide)
        rw [if_neg (by decide)] at g₆
        refine wpAny_execs_cons (wpAny_If (wpAny_isTrue_Compare1 (ldL g₆.I.ns rfl (wpAny_Constant_str (PyProof.Rows.eq_str (wpAny_truthy_bool ?_))))))
        rw [q32]
        refine wpAny_execs_cons (wpAny_If (wpAny_isTrue_Compare1 (ldL g₆.I.ns rfl (wpAny_Constant_str (PyProof.Rows.eq_str (wpAny_truthy_bool ?_))))))
        rw [b32]
        refine wpAny_execs_nil (wpAny_execs_nil (wpAny_execs_cons (wpAny_AugAssign_Name ?_)))
        refine wpAny_loadName_local rfl rfl g₆.I.ns ((if_neg (by decide)).trans ht₄) (ldL g₆.I.ns rfl (PyProof.Rows.iadd_str (fun t₇ tk => ?_) ?_))
        · refine stL g₆.tok.I fun s₈ I₈ sm₈ => wpAny_execs_nil ⟨j, Nat.lt_succ_self _, _, t₇, g₆.tok.store I₈ sm₈ (by decide) (by decide), ?_, by omega⟩
          rw [bl_succ, show h - (j + 1) + 1 = h - j from by omega]
          exact if_pos rfl
        · rw [bl_len, sizeLine_eq]
          show _ + 1 ≤ _
          omega
      | zero =>
        rw [List.replicate_zero, List.nil_append] at g₄
        refine g₄.next (n := n) z (by omega) (hr.less (by omega)) fun s₅ t₅ g₅ => ?_
        refine wpAny_assign_Name (stL g₅.I fun s₆ I₆ sm => ?_)
        have g₆ := g₅.store I₆ sm (by decide) (by decide)
        rw [if_neg (by decide)] at g₆
        refine wpAny_execs_cons (wpAny_If (wpAny_isTrue_Compare1 (ldL g₆.I.ns rfl (wpAny_Constant_str (PyProof.Rows.eq_str (wpAny_truthy_bool ?_))))))
        rw [q34]
        refine wpAny_execs_cons (wpAny_Return_some (ldL g₆.I.ns ((if_neg (by decide)).trans ht₄) ?_))
        exact hR _ _ ⟨g₆.I.kp.keep, g₆.I.kp.os, g₆.I.kp.gens⟩ ⟨g₆.S.dx, g₆.S.left⟩

/-- nothing but ends of rows left -/
theorem gt_end {k : Nat} {R : Flow → Shared → Prop} {t : Tok} (z : Lx0 G mg mb d a s₀) (hz : k < 1000) (hr : Rm (n + 6) A)
    (g : GTs d a s₀ L it q m (List.replicate k 10) ln s) (htok : m "token" = some (.str "" t))
    (hR : ∀ s' t', Kp [a.dx, a.left] s₀ s' → LxSt s'.heap a [] (ln + k) → R (.ret (.str "" t')) s') :
    wpAny (model prog w) A (execs (dGT.2.1.drop 3) (envX "_netrclex.get_token" dGT.2.2 L d.fGT cdv [])) R (fun _ _ => False) s := by
  obtain ⟨ti, hit⟩ := g.hit
  refine wpAny_execs_cons (wpAny_For (ldL g.I.ns g.mit (ci_iter hit ?_)))
  refine codeAny_forLoop (fun j s₁ => ∃ m₁ t₁, GTs d a s₀ L it q m₁ (List.replicate j 10) (ln + (k - j : Int)) s₁ ∧ m₁ "token" = some (.str "" t₁) ∧ j ≤ k) (fun j s₁ hI => ?_) k ⟨m, t, by rw [Int.sub_self, Int.add_zero]; exact g, htok, Nat.le_refl _⟩
  obtain ⟨m₁, t₁, g₁, ht₁, hjk⟩ := hI
  cases j with
  | succ j =>
    rw [List.replicate_succ] at g₁
    refine g₁.next (n := n) z (by simp; omega) (hr.less (by omega)) fun s₂ t₂ g₂ => ?_
    refine wpAny_assign_Name (stL g₂.I fun s₃ I₃ sm => ?_)
    have g₃ := g₂.store I₃ sm (by decide) (by decide)
    refine wpAny_execs_cons (wpAny_If (wpAny_isTrue_Compare1 (ldL g₃.I.ns rfl (g₃.ws z rfl rfl rfl fun tk t₃ => SB.contains (wpAny_truthy_bool ?_)))))
    rw [in10]
    rw [if_pos rfl] at g₃
    have : ln + (k - (j + 1 : Nat) : Int) + 1 = ln + (k - j : Int) := by omega
    rw [this] at g₃
    exact wpAny_execs_cons (wpAny_Continue ⟨j, Nat.lt_succ_self _, _, t₁, g₃.tok, (if_neg (by decide)).trans ht₁, by omega⟩)
  | zero =>
    rw [List.replicate_zero] at g₁
    obtain ⟨ti₁, hit₁⟩ := g₁.hit
    have hG := z.gnd g₁.I.kp
    have RC := z.sg.RC.keeps hG
    obtain ⟨o, doc, pm, an, ct, r1, r2, r3⟩ := id RC
    refine ci_next hr.2.2 hit₁ g₁.hq r1 r2 ?_
    refine readChar_spec (n := n) RC (Frag.In.keeps z.sg.X hG) (by rw [z.hC]; exact z.sg.cls) z.noK.1 z.noK.2 (z.fix g₁.I.kp) g₁.S (by simp) (z.sg.glo.lim.keeps hG) (hr.in1.less (by omega)) fun s' v hv => ?_
    obtain ⟨kk, ⟨_, ⟨t', rfl⟩, S'⟩ | ⟨c', cs', t', e, _, _⟩⟩ := hv
    · have g' := g₁.read kk S'
      refine ⟨_, t', rfl, kk.keep _ _ (not2 g₁.nit.1 g₁.nit.2.1) hit₁, g'.hq, kk.keep _ _ ?_ r1, fun e => absurd rfl e, fun _ s₂ k₂ => ?_⟩
      · obtain ⟨o', _, _, _, _, p1, _, _⟩ := z.sg.RC
        exact not2 (fun q => by rw [q, z.gd.1] at p1; cases p1) (fun q => by rw [q, z.gd.2] at p1; cases p1)
      · -- the iterator is new: the state's own things stand
        have hnew := g'.new
        have I₂ : Loc s₀ [a.dx, a.left] L m₁ s₂ := ⟨let ⟨o, es, ep, e, r⟩ := g'.I.ns; ⟨o, es, ep, k₂.keep _ _ (fun q => g'.nit.2.2 (List.mem_singleton.mp q).symm) e, r⟩,
          ⟨fun b o nb e => k₂.keep b o (fun q => by rw [List.mem_singleton.mp q, hnew] at e; cases e) (g'.I.kp.keep b o nb e), k₂.os.trans g'.I.kp.os, fun gg => k₂.gens (g'.I.kp.gens gg)⟩, g'.I.above⟩
        refine wpAny_execs_nil (wpAny_execs_cons (wpAny_Return_some (ldL I₂.ns ht₁ (hR _ _ ⟨I₂.kp.keep, I₂.kp.os, I₂.kp.gens⟩ ?_))))
        have S₂ := g'.S.off k₂ g'.nit.1 g'.nit.2.1
        rw [show ln + ((k : Int) - (0 : Nat)) = ln + k from by omega] at S₂
        exact S₂
    · cases e

/-- the signs of a word with a backslash ahead of each blank -/
def bs : Nat → List Nat
  | 0 => []
  | k + 1 => 92 :: 32 :: bs k
theorem bs_len : ∀ k, (bs k).length = 2 * k
  | 0 => rfl
  | k + 1 => by show (bs k).length + 1 + 1 = _; rw [bs_len k]; omega
/-- a token by backslashes -/
theorem gt_slashed {rest : List Nat} {k h : Nat} {R : Flow → Shared → Prop} {t : Tok} (z : Lx0 G mg mb d a s₀) (hz : (k + 2 * h + rest.length) < 1000) (hr : Rm (n + 6) A)
    (g : GTs d a s₀ L it q m (List.replicate k 10 ++ (bs (h + 1) ++ 10 :: rest)) ln s) (htok : m "token" = some (.str "" t))
    (hR : ∀ s' t', Kp [a.dx, a.left] s₀ s' → LxSt s'.heap a rest (ln + k + 1) → R (.ret (.str (bl (h + 1)) t')) s') :
    wpAny (model prog w) A (execs (dGT.2.1.drop 3) (envX "_netrclex.get_token" dGT.2.2 L d.fGT cdv [])) R (fun _ _ => False) s := by
  obtain ⟨ti, hit⟩ := g.hit
  refine wpAny_execs_cons (wpAny_For (ldL g.I.ns g.mit (ci_iter hit ?_)))
  refine codeAny_forLoop (fun j s₁ => ∃ m₁ t₁, GTs d a s₀ L it q m₁ (List.replicate j 10 ++ (bs (h + 1) ++ 10 :: rest)) (ln + (k - j : Int)) s₁ ∧ m₁ "token" = some (.str "" t₁) ∧ j ≤ k) (fun j s₁ hI => ?_) k ⟨m, t, by rw [Int.sub_self, Int.add_zero]; exact g, htok, Nat.le_refl _⟩
  obtain ⟨m₁, t₁, g₁, ht₁, hjk⟩ := hI
  have hbl := bs_len h
  cases j with
  | succ j =>
    rw [List.replicate_succ, List.cons_append] at g₁
    refine g₁.next (n := n) z (by simp [bs_len]; omega) (hr.less (by omega)) fun s₂ t₂ g₂ => ?_
    refine wpAny_assign_Name (stL g₂.I fun s₃ I₃ sm => ?_)
    have g₃ := g₂.store I₃ sm (by decide) (by decide)
    refine wpAny_execs_cons (wpAny_If (wpAny_isTrue_Compare1 (ldL g₃.I.ns rfl (g₃.ws z rfl rfl rfl fun tk t₃ => SB.contains (wpAny_truthy_bool ?_)))))
    rw [in10]
    rw [if_pos rfl] at g₃
    have : ln + (k - (j + 1 : Nat) : Int) + 1 = ln + (k - j : Int) := by omega
    rw [this] at g₃
    exact wpAny_execs_cons (wpAny_Continue ⟨j, Nat.lt_succ_self _, _, t₁, g₃.tok, (if_neg (by decide)).trans ht₁, by omega⟩)
  | zero =>
    rw [List.replicate_zero, List.nil_append] at g₁
    refine g₁.next (c := 92) (cs := 32 :: (bs h ++ 10 :: rest)) (n := n) z (by simp [bs_len]; omega) (hr.less (by omega)) fun s₂ t₂ g₂ => ?_
    refine wpAny_assign_Name (stL g₂.I fun s₃ I₃ sm => ?_)
    have g₃ := g₂.store I₃ sm (by decide) (by decide)
    rw [if_neg (by decide), show ln + ((k : Int) - (0 : Nat)) = ln + k from by omega] at g₃
    refine wpAny_execs_cons (wpAny_If (wpAny_isTrue_Compare1 (ldL g₃.I.ns rfl (g₃.ws z rfl rfl rfl fun tk t₃ => SB.contains (wpAny_truthy_bool ?_)))))
    rw [in92]
    refine wpAny_execs_nil (wpAny_execs_cons (wpAny_If (wpAny_isTrue_Compare1 (ldL g₃.I.ns rfl (wpAny_Constant_str (PyProof.Rows.eq_str (wpAny_truthy_bool ?_)))))))
    rw [q92]
    refine wpAny_execs_cons (wpAny_If (wpAny_isTrue_Compare1 (ldL g₃.I.ns rfl (wpAny_Constant_str (PyProof.Rows.eq_str (wpAny_truthy_bool ?_))))))
    rw [b92]
    refine setL (wpAny_mono (GTs.rd (n := n) z g₃.tok (by simp [bs_len]; omega) (hr.less (by omega)) rfl rfl rfl fun s₄ t₄ g₄ => ?_) (fun _ _ x => x) fun _ _ x => x.elim)
    rw [if_neg (by decide)] at g₄
    refine stL g₄.I fun s₅ I₅ sm₅ => wpAny_execs_nil ?_
    have g₅ := g₄.store I₅ sm₅ (by decide) (by decide)
    refine wpAny_execs_cons (wpAny_AugAssign_Name ?_)
    refine wpAny_loadName_local rfl rfl g₅.I.ns ((if_neg (by decide)).trans ((if_neg (by decide)).trans ht₁)) (ldL g₅.I.ns rfl (PyProof.Rows.iadd_str (fun t₇ tk7 => ?_) (by rw [sizeLine_eq]; decide)))
    refine stL g₅.tok.I fun s₈ I₈ sm₈ => ?_
    have g₈ := g₅.tok.store I₈ sm₈ (by decide) (by decide)
    obtain ⟨ti8, hit8⟩ := g₈.hit
    refine wpAny_execs_cons (wpAny_For (ldL g₈.I.ns g₈.mit (ci_iter hit8 ?_)))
    refine codeAny_forLoop (fun j s₁ => ∃ m₁ t₁, GTs d a s₀ L it q m₁ (bs j ++ 10 :: rest) (ln + k) s₁ ∧ m₁ "token" = some (.str (bl (h + 1 - j)) t₁) ∧ j ≤ h) (fun j s₉ hI => ?_) h ⟨_, t₇, g₈.tok, by rw [Nat.add_sub_cancel_left, ← bl_succ, bl_zero]; exact if_pos rfl, Nat.le_refl _⟩
    obtain ⟨m₉, t₉, g₉, ht₉, hj⟩ := hI
    have hbj := bs_len j
    cases j with
    | succ j =>
      refine g₉.next (c := 92) (cs := 32 :: (bs j ++ 10 :: rest)) (n := n) z (by simp [bs_len]; omega) (hr.less (by omega)) fun s₂ t₂ g₂ => ?_
      refine wpAny_assign_Name (stL g₂.I fun s₃ I₃ sm => ?_)
      have g₃ := g₂.store I₃ sm (by decide) (by decide)
      rw [if_neg (by decide)] at g₃
      refine wpAny_execs_cons (wpAny_If (wpAny_isTrue_Compare1 (ldL g₃.I.ns rfl (g₃.ws z rfl rfl rfl fun tk t₃ => SB.contains (wpAny_truthy_bool ?_)))))
      rw [in92]
      refine wpAny_execs_cons (wpAny_If (wpAny_isTrue_Compare1 (ldL g₃.I.ns rfl (wpAny_Constant_str (PyProof.Rows.eq_str (wpAny_truthy_bool ?_))))))
      rw [b92]
      refine setL (wpAny_mono (GTs.rd (n := n) z g₃.tok (by simp [bs_len]; omega) (hr.less (by omega)) rfl rfl rfl fun s₄ t₄ g₄ => ?_) (fun _ _ x => x) fun _ _ x => x.elim)
      rw [if_neg (by decide)] at g₄
      refine stL g₄.I fun s₅ I₅ sm₅ => wpAny_execs_nil (wpAny_execs_nil ?_)
      have g₅ := g₄.store I₅ sm₅ (by decide) (by decide)
      refine wpAny_execs_cons (wpAny_AugAssign_Name ?_)
      refine wpAny_loadName_local rfl rfl g₅.I.ns ((if_neg (by decide)).trans ((if_neg (by decide)).trans ht₉)) (ldL g₅.I.ns rfl (PyProof.Rows.iadd_str (fun t₇ tk7 => ?_) ?_))
      · refine stL g₅.tok.I fun s₈ I₈ sm₈ => wpAny_execs_nil ⟨j, Nat.lt_succ_self _, _, t₇, g₅.tok.store I₈ sm₈ (by decide) (by decide), ?_, by omega⟩
        rw [bl_succ, show h + 1 - (j + 1) + 1 = h + 1 - j from by omega]
        exact if_pos rfl
      · rw [bl_len, sizeLine_eq]
        show _ + 1 ≤ _
        omega
    | zero =>
      refine g₉.next (c := 10) (cs := rest) (n := n) z (by omega) (hr.less (by omega)) fun s₂ t₂ g₂ => ?_
      refine wpAny_assign_Name (stL g₂.I fun s₃ I₃ sm => ?_)
      have g₃ := g₂.store I₃ sm (by decide) (by decide)
      rw [if_pos rfl] at g₃
      refine wpAny_execs_cons (wpAny_If (wpAny_isTrue_Compare1 (ldL g₃.I.ns rfl (g₃.ws z rfl rfl rfl fun tk t₃ => SB.contains (wpAny_truthy_bool ?_)))))
      rw [in10]
      refine wpAny_execs_cons (wpAny_Return_some (ldL g₃.I.ns ((if_neg (by decide)).trans ht₉) ?_))
      exact hR _ _ ⟨g₃.I.kp.keep, g₃.I.kp.os, g₃.I.kp.gens⟩ ⟨g₃.S.dx, g₃.S.left⟩
end
end Mine
end
section
open PySem PySem.W PySem.Calls PyProof.Rows
set_option maxRecDepth 100000
set_option Elab.async false
set_option autoImplicit false
set_option linter.unusedVariables false
namespace Mine
section
variable {prog : Program} {w : World} {A : Around} {G : Heap} {mg mb : Str → Option Value} {d : Ads} {a : Lx} {s : Shared} {n : Nat} {R : Result → Shared → Prop} {cps : List Nat} {ln : Int}

theorem Glo.name {h : Heap} {x : Str} {v : Value} (g : Glo h mg mb) (hb : bootBuiltins x = some v) (hn : x ≠ "__name__") : mb x = some v := (g.bi x hn).trans hb

/-- a waiting word -/
theorem getToken_pop {v : Value} {vs : List Value} (z : Lx0 G mg mb d a s) (hpb : LsAt s.heap a.pb (v :: vs)) (hz : vs.length < 1000) (hr : Rm (n + 1) A)
    (h : ∀ s', Kp [a.pb] s s' → LsAt s'.heap a.pb vs → R (.ok (.ret v)) s') : codeAny (model prog w) A (.call (.ref d.fGT) ⟨[.ref a.x], []⟩) R s := by
  refine callF (binds := [("self", .ref a.x)]) (z.sg.GT.keeps z.gs) (z.sg.glo.lim.keeps z.gs) hr (fun _ _ _ _ => BindsTo.of_eq rfl) (fun L h₁ hL F₁ hr' => ?_) (by decide) (locs rfl)
  have I := Loc.start (tk := s.toks + 1) F₁
  obtain ⟨cps, ln, ⟨x1, x2, x3, x4, t1, t2, t3, t4, t5, t6, nn, nx⟩, _⟩ := z.S
  have X : d.K.In h₁ := Frag.In.keeps z.sg.X fun b o e => I.old b o (z.gs b o e)
  have c : ClsF d.K a.C := by rw [z.hC]; exact z.sg.cls
  refine wpAny_execs_cons (wpAny_If (isTrue_plain (Attribute_name (ldL I.ns rfl (attrO (dx := a.dx) (v := .ref a.pb) X c (c.no "pushback" (by decide)) (I.old _ _ z.F.x) (I.old _ _ nx) rfl rfl fun tk => ?_)))))
  refine truthL (hpb.keeps I.tok.old) (by rw [List.length_cons]; omega) fun tk' => ?_
  refine wpAny_execs_cons (wpAny_Return_some (MethodCall_ (Attribute_name (ldL I.ns rfl (attrO (dx := a.dx) (v := .ref a.pb) X c (c.no "pushback" (by decide)) (I.old _ _ z.F.x) (I.old _ _ nx) rfl rfl fun tk => ?_)))))
  refine methL (hpb.keeps I.tok.old) PySem.F.slot_list_pop PySem.F.type_list_pop ?_
  refine callWith_method1 (wpAny_items_cons (wpAny_Constant_int (wpAny_items_nil ?_)))
  refine popL0 (hpb.keeps I.tok.old) (by omega) fun s₂ l₂ o₂ => h s₂ ?_ l₂
  exact ⟨fun b o nb e => (o₂.kp).keep b o nb (I.old b o e), o₂.os, fun g => o₂.gens ▸ g⟩

/-- out of the text -/
theorem getToken_text (z : Lx0 G mg mb d a s) (S : LxSt s.heap a cps ln) (hpb : LsAt s.heap a.pb []) (hr : Rm (n + 8) A)
    (h : ∀ L it q m s₁ cdv A', Rm (n + 6) A' → GTs d a s L it q m cps ln s₁ → (∃ t, m "token" = some (.str "" t)) →
      wpAny (model prog w) A' (execs (dGT.2.1.drop 3) (envX "_netrclex.get_token" dGT.2.2 L d.fGT cdv [])) (fun fl s' => R (.ok (.ret (retV fl))) s') (fun _ _ => False) s₁) :
    codeAny (model prog w) A (.call (.ref d.fGT) ⟨[.ref a.x], []⟩) R s := by
  refine callF (n := n + 7) (binds := [("self", .ref a.x)]) (z.sg.GT.keeps z.gs) (z.sg.glo.lim.keeps z.gs) hr (fun _ _ _ _ => BindsTo.of_eq rfl) (fun L h₁ hL F₁ hr' => ?_) (by decide) (locs rfl)
  have I := Loc.start (tk := s.toks + 1) F₁
  obtain ⟨x1, x2, x3, x4, t1, t2, t3, t4, t5, t6, nn, nx⟩ := S.dx
  have X : d.K.In h₁ := Frag.In.keeps z.sg.X fun b o e => I.old b o (z.gs b o e)
  have c : ClsF d.K a.C := by rw [z.hC]; exact z.sg.cls
  refine wpAny_execs_cons (wpAny_If (isTrue_plain (Attribute_name (ldL I.ns rfl (attrO (dx := a.dx) (v := .ref a.pb) X c (c.no "pushback" (by decide)) (I.old _ _ z.F.x) (I.old _ _ nx) rfl rfl fun tk => ?_)))))
  refine truthL (hpb.keeps I.tok.old) (by decide) fun tk' => ?_
  refine wpAny_execs_nil ?_
  refine setL (wpAny_Constant_str (stL I.tok fun s₂ I₂ _ => ?_))
  have G₂ : ∀ b o, G.get? b = some o → s₂.heap.get? b = some o := fun b o e => I₂.old b o (z.gs b o e)
  have gl := z.sg.glo.keeps G₂
  refine setL (wpAny_Call_Name_kw (ldB (mg := mg) (mb := mb) gl.g (z.sg.no "iter" (by decide)) gl.b (gl.name boot_iter (by decide)) ?_))
  refine cwB (wpAny_items_cons (Attribute_name (ldL I₂.ns rfl ?_)))
  refine attrM (dx := a.dx) (Frag.In.keeps z.sg.X G₂) c (by rw [z.hC]; exact z.sg.kRC) z.sg.iRC z.sg.gRC z.sg.tRC (I₂.old _ _ z.F.x) (I₂.old _ _ nx) rfl (by decide) fun q s₃ hq q₃ k₃ => ?_
  have I₃ := I₂.call k₃
  refine wpAny_items_cons (wpAny_Constant_str (wpAny_items_nil ?_))
  refine iter2 q₃ fun it s₄ hit i₄ k₄ => ?_
  have I₄ := I₃.tok.call k₄
  refine stL I₄ fun s₅ I₅ sm₅ => ?_
  have hLs : L < s₂.heap.objs.size := I₂.ns.lt
  have hqL : q ≠ L := by rw [hq]; exact Nat.ne_of_gt hLs
  have hL3 : L < s₃.heap.objs.size := I₃.ns.lt
  have hitL : it ≠ L := by rw [hit]; exact Nat.ne_of_gt hL3
  have old3 : ∀ b o, s.heap.get? b = some o → b < s₂.heap.objs.size := fun b o e => Heap.lt_size (I₂.old b o e)
  have old4 : ∀ b o, s.heap.get? b = some o → b < s₃.heap.objs.size := fun b o e => Heap.lt_size (I₃.old b o e)
  obtain ⟨⟨od, ed⟩, ⟨ol, el⟩⟩ := z.dx
  have nLd : ∀ {b : Addr} {o : Obj}, s.heap.get? b = some o → L ≠ b := fun e q => by have := I.fresh; rw [q, e] at this; cases this
  refine h L it q _ s₅ _ _ (hr'.less (Nat.le_succ _)) ⟨⟨I₅.ns, I₅.kp.mono (fun _ q => by cases q), I₅.above⟩, ⟨_, (sm₅ _ hitL).trans i₄⟩, (sm₅ _ hqL).trans (k₄.all _ _ q₃), S.keeps I₅.old, ⟨nLd ed, nLd el⟩, ⟨?_, ?_, hitL⟩, ?_, ⟨?_, ?_, hqL⟩, if_pos rfl, rfl⟩ ⟨_, rfl⟩
  · rw [hit]; exact Nat.ne_of_gt (old4 _ _ ed)
  · rw [hit]; exact Nat.ne_of_gt (old4 _ _ el)
  · cases e : s.heap.get? it with
    | none => rfl
    | some o => exact absurd (old4 _ _ e) (by rw [hit]; exact Nat.lt_irrefl _)
  · rw [hq]; exact Nat.ne_of_gt (old3 _ _ ed)
  · rw [hq]; exact Nat.ne_of_gt (old3 _ _ el)

theorem getToken_quoted {k hh : Nat} {rest : List Nat} (z : Lx0 G mg mb d a s) (S : LxSt s.heap a (List.replicate k 10 ++ 34 :: (List.replicate hh 32 ++ 34 :: rest)) ln) (hz : k + hh + rest.length < 1000) (hpb : LsAt s.heap a.pb []) (hr : Rm (n + 8) A)
    (h : ∀ s' t, Kp [a.dx, a.left] s s' → LxSt s'.heap a rest (ln + k) → R (.ok (.ret (.str (bl hh) t))) s') : codeAny (model prog w) A (.call (.ref d.fGT) ⟨[.ref a.x], []⟩) R s :=
  getToken_text z S hpb hr fun L it q m s₁ cdv A' hr' g ⟨t, ht⟩ => gt_quoted z hz hr' g ht h
theorem getToken_slashed {k hh : Nat} {rest : List Nat} (z : Lx0 G mg mb d a s) (S : LxSt s.heap a (List.replicate k 10 ++ (bs (hh + 1) ++ 10 :: rest)) ln) (hz : k + 2 * hh + rest.length < 1000) (hpb : LsAt s.heap a.pb []) (hr : Rm (n + 8) A)
    (h : ∀ s' t, Kp [a.dx, a.left] s s' → LxSt s'.heap a rest (ln + k + 1) → R (.ok (.ret (.str (bl (hh + 1)) t))) s') : codeAny (model prog w) A (.call (.ref d.fGT) ⟨[.ref a.x], []⟩) R s :=
  getToken_text z S hpb hr fun L it q m s₁ cdv A' hr' g ⟨t, ht⟩ => gt_slashed z hz hr' g ht h
theorem getToken_end {k : Nat} (z : Lx0 G mg mb d a s) (S : LxSt s.heap a (List.replicate k 10) ln) (hz : k < 1000) (hpb : LsAt s.heap a.pb []) (hr : Rm (n + 8) A)
    (h : ∀ s' t, Kp [a.dx, a.left] s s' → LxSt s'.heap a [] (ln + k) → R (.ok (.ret (.str "" t))) s') : codeAny (model prog w) A (.call (.ref d.fGT) ⟨[.ref a.x], []⟩) R s :=
  getToken_text z S hpb hr fun L it q m s₁ cdv A' hr' g ⟨t, ht⟩ => gt_end z hz hr' g ht h
end
end Mine
end
section
open PySem PySem.W PySem.Calls PyProof.Rows
set_option maxRecDepth 100000
set_option Elab.async false
set_option autoImplicit false
set_option linter.unusedVariables false
namespace Mine

section
variable {prog : Program} {w : World} {A : Around} {E : Value → Shared → Prop} {s s₀ : Shared} {l : Addr} {vs : List Value} {Q : Value → Shared → Prop}
theorem appL {y : Value} (x : LsAt s.heap l vs) (hz : vs.length < 2 ^ 20) (h : ∀ s', LsAt s'.heap l (vs ++ [y]) → Only l s s' → Q .none s') :
    wpAny (model prog w) A (call (.builtin "list.append") [.ref l, y]) Q E s := by
  obtain ⟨n, e⟩ := id x
  have hz' : vs.toArray.size ≤ sizeLine := by rw [List.size_toArray, sizeLine_eq]; omega
  have g := PySem.AutoListH.list_append_list_val_0 l vs.toArray n y hz'
  refine call_meets PySem.F.slot_list_append ⟨_, e, rfl⟩ PySem.F.entry_list_append (PySem.F.args_list_append_2 _ _) g ⟨e, ?_⟩
  refine h _ (LsAt.update x ?_) Only.update
  simp
end

/-- a code object's table of the codes made in it -/
structure Tab (h : Heap) (c P : Addr) (qual : Str) : Prop where
  hd : CodeHd h c P
  ex : ∃ ps, h.get? P = some (tabObj ps) ∧ TriplesOk ps.toList ∧ ∀ pos cv, codeAmong pos ps.toList = some cv → ∃ c', cv = .ref c' ∧ h.CodeRec cv qual
theorem Tab.keeps {h h' : Heap} {c P : Addr} {qual : Str} (x : Tab h c P qual) (k : ∀ b o, h.get? b = some o → h'.get? b = some o) : Tab h' c P qual :=
  ⟨x.hd.keeps k, let ⟨ps, e, t, r⟩ := x.ex; ⟨ps, k _ _ e, t, fun pos cv q => let ⟨c', e1, e2⟩ := r pos cv q; ⟨c', e1, e2.keeps k⟩⟩⟩
theorem codeAmong_app (pos pos' : Pos) (c : Value) : ∀ (l : List Value), TriplesOk l → ∀ cv, codeAmong pos (l ++ [rawInt pos'.line, rawInt pos'.col, c]) = some cv → codeAmong pos l = some cv ∨ cv = c := by
  intro l
  fun_induction TriplesOk l with
  | case1 =>
    intro _ cv h
    simp only [List.nil_append, codeAmong, rawInt] at h
    split at h
    · exact .inr (Option.some.inj h).symm
    · cases h
  | case2 a b c' d e rest ih =>
    intro ht cv h
    simp only [List.cons_append, codeAmong] at h ⊢
    split at h
    · rename_i q; rw [if_pos q]; exact .inl h
    · rename_i q; rw [if_neg q]; exact ih ht cv h
  | case3 => intro h; exact h.elim

section
variable {prog : Program} {w : World} {A : Around} {E : Value → Shared → Prop} {s : Shared} {mg mb : Str → Option Value} {env : Env} {c P : Addr} {params : Arguments} {body : Expr} {scope : Scope} {pos : Pos} {clos : List (Str × Addr)} {Q : Value → Shared → Prop}
/-- a lambda is made -/
theorem mkLam (hdef : defaultsOf params env = ([], [])) (hcl : closureFor scope env = pure clos) (hge : env.globals = mainGlobals) (hg : s.heap.Ns mainGlobals mg) (hcode : env.code = .ref c) (T : Tab s.heap c P (env.qual ++ "<lambda>")) (hgP : mainGlobals ≠ P) (hb : s.heap.BuiltinsAt mg P)
    (h : ∀ f c' s', s.heap.get? f = none → LamAt s'.heap f (env.qual ++ "<lambda>") (params, body, scope) clos c' → Tab s'.heap c P (env.qual ++ "<lambda>") → Kp [P] s s' → Q (.ref f) s') :
    wpAny (model prog w) A (eval (.Lambda params body scope pos) env) Q E s := by
  refine kla_eval hdef ?_
  obtain ⟨ps, hP, ht, hr⟩ := T.ex
  cases hf : codeAmong pos ps.toList with
  | none =>
    refine kla_makeFunction hcl hge hg hcode T.hd hP ht hf hgP hb fun c' ctv h' tk hx h1 h2 hrec hP' => ?_
    have hPn : P ≠ h'.objs.size := Nat.ne_of_lt (Heap.lt_size hP')
    refine h _ c' _ (Heap.get?_none_of_le (Nat.le_of_lt (Nat.lt_of_le_of_lt h1 h2))) ⟨_, ctv, Heap.get?_push_size _ rfl, hrec.push _⟩ ⟨?_, ps ++ #[rawInt pos.line, rawInt pos.col, .ref c'], Heap.get?_push_of_some _ hP', ?_, fun p' cv q => ?_⟩ ⟨fun b o nb e => Heap.get?_push_of_some _ (hx b o (fun q => nb (by rw [q]; exact List.mem_singleton.mpr rfl)) e), rfl, id⟩
    · obtain ⟨o, vs, file, tf, flags, tg, inF, text, tt, e, r⟩ := T.hd
      exact ⟨o, vs, file, tf, flags, tg, inF, text, tt, Heap.get?_push_of_some _ (hx _ _ r.2.2.2.2.2.2.2.2 e), r⟩
    · rw [Array.toList_append]
      exact TriplesOk_snoc _ _ _ _ ht
    · rw [Array.toList_append] at q
      rcases codeAmong_app p' pos (.ref c') ps.toList ht cv q with q | q
      · obtain ⟨c₁, e1, c₂, o₂, vs₂, t₂, e2, e3, e4, e5⟩ := hr p' cv q
        refine ⟨c₁, e1, c₂, o₂, vs₂, t₂, e2, Heap.get?_push_of_some _ (hx _ _ (fun z => ?_) e3), e4, e5⟩
        rw [z, hP] at e3
        cases e3
        have e4' : ps = vs₂ := by cases e4; rfl
        subst e4'
        -- the table is no code record: its second place is an int
        cases hps : ps.toList with
        | nil => rw [← Array.getElem?_toList, hps] at e5; cases e5
        | cons v r =>
          rw [hps] at ht
          rw [← Array.getElem?_toList, hps] at e5
          cases v <;> try exact ht
          cases r with
          | nil => cases e5
          | cons v2 r2 =>
            cases v2 <;> first | exact ht | (simp at e5)
      · exact ⟨c', q, q ▸ hrec.push _⟩
  | some cv =>
    obtain ⟨c', rfl, hrec⟩ := hr pos cv hf
    refine kla_makeFunctionHit hcl hge hg hcode T.hd hP ht hf hb fun ctv h' tk hk hsz => ?_
    refine h _ c' _ (Heap.get?_none_of_le hsz) ⟨_, ctv, Heap.get?_push_size _ rfl, (hrec.keeps hk).push _⟩ ((T.keeps hk).keeps fun b o e => Heap.get?_push_of_some _ e) ⟨fun b o _ e => Heap.get?_push_of_some _ (hk b o e), rfl, id⟩
end
end Mine
end
section
open PySem PySem.W PySem.Calls PyProof.Rows
set_option maxRecDepth 100000
set_option Elab.async false
set_option autoImplicit false
set_option linter.unusedVariables false
namespace Mine

/-- a frame with cells -/
structure LocC (s₀ : Shared) (T : List Addr) (L : Addr) (m : Str → Option Value) (cs : List (Str × Addr)) (cm : Str → Option Value) (s : Shared) : Prop where
  I : Loc s₀ T L m s
  cell : ∀ n c, cs.lookup n = some c → s.heap.IsCell c (cm n)
  apart : cs.Pairwise fun x y => x.2 ≠ y.2
  above : ∀ n c, (n, c) ∈ cs → L < c
section
variable {M : Model} {A : Around} {E : Value → Shared → Prop} {s₀ s s' : Shared} {T : List Addr} {L : Addr} {m cm : Str → Option Value} {cs : List (Str × Addr)} {env : Env} {x : Str} {v : Value}
theorem LocC.tok (C : LocC s₀ T L m cs cm s) {tk : Nat} : LocC s₀ T L m cs cm { s with toks := tk } := ⟨C.I.tok, C.cell, C.apart, C.above⟩
theorem LocC.call (C : LocC s₀ T L m cs cm s) (k : Kp [] s s') : LocC s₀ T L m cs cm s' := ⟨C.I.call k, fun n c e => (C.cell n c e).keeps k.all, C.apart, C.above⟩
/-- behind a call that turns T' (all of it told in T), none of it the frame's own -/
theorem LocC.turn {T' : List Addr} (C : LocC s₀ T L m cs cm s) (k : Kp T' s s') (hT : ∀ b ∈ T', b ∈ T ∨ s₀.heap.get? b = none) (hL : L ∉ T') (hc : ∀ n c, cs.lookup n = some c → c ∉ T') : LocC s₀ T L m cs cm s' where
  I := ⟨let ⟨o, es, ep, e, r⟩ := C.I.ns; ⟨o, es, ep, k.keep _ _ hL e, r⟩, ⟨fun b o nb e => k.keep b o (fun q => (hT b q).elim nb fun z => by rw [z] at e; cases e) (C.I.kp.keep b o nb e), k.os.trans C.I.kp.os, fun g => k.gens (C.I.kp.gens g)⟩, C.I.above⟩
  cell := fun n c e => let ⟨o, e1, e2⟩ := C.cell n c e; ⟨o, k.keep _ _ (hc n c e) e1, e2⟩
  apart := C.apart
  above := C.above
theorem stLC' {Q : Unit → Shared → Prop} (C : LocC s₀ T env.locals m env.cells cm s) (h : ∀ s', LocC s₀ T env.locals (upd m x v) env.cells cm s' → SameL env.locals s s' → Q () s')
    (hk : env.scope.kind = .function := by rfl) (hx : env.kindOf x = some .local := by rfl) : wpAny M A (storeName env x v) Q E s :=
  stL C.I (fun s' I' sm => h s' ⟨I', fun n c e => let ⟨o, e1, e2⟩ := C.cell n c e; ⟨o, (sm c (Nat.ne_of_gt (C.above n c (mem_of_lookup e)))).trans e1, e2⟩, C.apart, C.above⟩ sm) hk hx
theorem stCC' {Q : Unit → Shared → Prop} {c : Addr} (C : LocC s₀ T env.locals m env.cells cm s) (hc : env.cells.lookup x = some c) (h : ∀ s', LocC s₀ T env.locals m env.cells (upd cm x v) s' → (∀ b, b ≠ c → s'.heap.get? b = s.heap.get? b) → Q () s')
    (hk : env.scope.kind = .function := by rfl) (hx : env.kindOf x = some .cell := by rfl) : wpAny M A (storeName env x v) Q E s := by
  have hLc := C.above x c (mem_of_lookup hc)
  refine wpAny_storeName_cell hk hx hc (C.cell x c hc) fun h' hc' hs' => h _ ⟨⟨C.I.ns.sameBut hs' (Nat.ne_of_lt hLc), ⟨fun b o nb e => ?_, C.I.kp.os, C.I.kp.gens⟩, C.I.above⟩, fun k c' hk' => ?_, C.apart, C.above⟩ hs'.2
  · exact (hs'.2 b (Nat.ne_of_lt (Nat.lt_trans (Nat.lt_of_lt_of_le (Heap.lt_size e) C.I.above) hLc))).trans (C.I.kp.keep b o nb e)
  · by_cases hkn : k = x
    · subst hkn
      rw [hc] at hk'; cases hk'
      unfold upd; rw [if_pos rfl]; exact hc'
    · unfold upd; rw [if_neg hkn]
      exact (C.cell k c' hk').sameBut hs' fun e => hkn (name_of_addr C.apart (mem_of_lookup hk') (e ▸ mem_of_lookup hc))
end

section
variable {prog : Program} {w : World} {A : Around} {s : Shared} {R : Result → Shared → Prop} {f : Addr} {name qual : Str} {d : Arguments × List Stmt × Scope} {cdv : Value} {vals : List Value} {binds : List (Str × Value)}
theorem callFC {n : Nat} (hf : FnAt s.heap f name qual d [] .none .none cdv) (hlim : s.heap.NoLimit) (hr : Rm (n + 1) A)
    (hbind : ∀ doc pm an ct, bindArgs (fnX name qual d.1 d.2.1 d.2.2 [] .none .none doc pm an cdv ct) ⟨vals, []⟩ = pure binds) (hkind : (binds.all fun y => d.2.2.names.lookup y.1 == some .local || d.2.2.names.lookup y.1 == some .cell) = true)
    (h : ∀ L s₁, L = s.heap.objs.size → LocC s [] L (bindL (envX qual d.2.2 L f cdv (cellsFrom (L + 1) d.2.2.names [])).kindOf binds fun _ => none) (cellsFrom (L + 1) d.2.2.names []) (bindC (envX qual d.2.2 L f cdv (cellsFrom (L + 1) d.2.2.names [])).kindOf binds fun _ => none) s₁ →
      Rm n (A.deeper (envX qual d.2.2 L f cdv (cellsFrom (L + 1) d.2.2.names []))) →
      wpAny (model prog w) (A.deeper (envX qual d.2.2 L f cdv (cellsFrom (L + 1) d.2.2.names []))) (execs d.2.1 (envX qual d.2.2 L f cdv (cellsFrom (L + 1) d.2.2.names []))) (fun fl s' => R (.ok (.ret (retV fl))) s') (fun _ _ => False) s₁)
    (hco : d.2.2.isCoroutine = false := by rfl) (hgen : d.2.2.isGenerator = false := by rfl) (hk : d.2.2.kind = .function := by rfl) :
    codeAny (model prog w) A (.call (.ref f) ⟨vals, []⟩) R s := by
  obtain ⟨o, doc, pm, an, ct, h1, h2, h3⟩ := hf
  refine codeAny_call_cells hr.room h1 h2 hlim h3 rfl (hbind doc pm an ct) rfl (fun x hx => kindsX hkind _ x hx) (fun s₁ C => ?_) hco hgen hk
  refine wpAny_mono (h _ s₁ rfl ⟨⟨C.toInCall.ns, ?_, C.toInCall.fresh⟩, C.cell, C.apart, C.above⟩ (hr.deeper _)) (fun fl s' q => ?_) fun _ _ x => x.elim
  · obtain ⟨h', tk, e⟩ := C.toInCall.same
    exact ⟨fun b o _ e => C.toInCall.keep b o e, by rw [e], fun g => by rw [e]; exact g⟩
  · cases fl <;> exact q
end

theorem Loc.only {s₀ s s' : Shared} {T : List Addr} {L b : Addr} {m : Str → Option Value} (I : Loc s₀ T L m s) (o : Only b s s') (hb : b ∈ T) (hL : L ≠ b) : Loc s₀ T L m s' :=
  ⟨let ⟨ob, es, ep, e, r⟩ := I.ns; ⟨ob, es, ep, (o.same _ hL).trans e, r⟩, ⟨fun x ox nx e => (o.same _ (fun (q : x = b) => nx (by rw [q]; exact hb))).trans (I.kp.keep x ox nx e), o.os.trans I.kp.os, fun g => o.gens ▸ I.kp.gens g⟩, I.above⟩
theorem Loc.wide {s₀ s : Shared} {T : List Addr} {L : Addr} {m : Str → Option Value} (I : Loc s₀ [] L m s) : Loc s₀ T L m s := ⟨I.ns, I.kp.mono (fun _ q => by cases q), I.above⟩
theorem Rm.make {n : Nat} {A : Around} {C : Addr} {rest : List Value} (h : Rm (n + 1) A) : Rm n (A.under (.builtin "type.__call__" ⟨.ref C :: rest, []⟩)) := by
  obtain ⟨a, b, c⟩ := h
  refine ⟨?_, ?_, c⟩
  · rw [depth_under_make]; omega
  · rw [units_under_make]; omega

section
variable {prog : Program} {w : World} {A : Around} {G : Heap} {mg mb : Str → Option Value} {d : Ads} {s : Shared} {n : Nat} {R : Result → Shared → Prop}
/-- push_token -/
theorem pushToken_spec {a : Lx} {v : Value} {vs : List Value} (z : Lx0 G mg mb d a s) (hpb : LsAt s.heap a.pb vs) (hz : vs.length < 1000) (hr : Rm (n + 1) A)
    (h : ∀ s', Kp [a.pb] s s' → LsAt s'.heap a.pb (vs ++ [v]) → R (.ok (.ret .none)) s') : codeAny (model prog w) A (.call (.ref d.fPT) ⟨[.ref a.x, v], []⟩) R s := by
  refine callF (binds := [("self", .ref a.x), ("token", v)]) (z.sg.PT.keeps z.gs) (z.sg.glo.lim.keeps z.gs) hr (fun _ _ _ _ => BindsTo.of_eq rfl) (fun L h₁ hL F₁ hr' => ?_) (by decide) (locs rfl)
  have I := Loc.start (tk := s.toks + 2) F₁
  obtain ⟨cps, ln, ⟨x1, x2, x3, x4, t1, t2, t3, t4, t5, t6, nn, nx⟩, _⟩ := z.S
  have X : d.K.In h₁ := Frag.In.keeps z.sg.X fun b o e => I.old b o (z.gs b o e)
  have c : ClsF d.K a.C := by rw [z.hC]; exact z.sg.cls
  refine wpAny_execs_cons (wpAny_Expr (MethodCall_ (Attribute_name (ldL I.ns rfl (attrO (dx := a.dx) (v := .ref a.pb) X c (c.no "pushback" (by decide)) (I.old _ _ z.F.x) (I.old _ _ nx) rfl rfl fun tk => ?_)))))
  refine methL (hpb.keeps I.tok.old) PySem.F.slot_list_append PySem.F.type_list_append ?_
  refine callWith_method1 (wpAny_items_cons (ldL I.ns rfl (wpAny_items_nil ?_)))
  refine appL (hpb.keeps I.tok.old) (by omega) fun s₂ l₂ o₂ => wpAny_execs_nil (h s₂ ?_ l₂)
  exact ⟨fun b o nb e => (o₂.kp).keep b o nb (I.old b o e), o₂.os, fun g => o₂.gens ▸ g⟩

/-- the entries that __init__ lays -/
def initEs (P : Params) (fp : Value) (pb : Addr) (t1 t2 t3 t4 t5 t6 : Tok) : List DictEntry :=
  [⟨PyData.keyHash P "lineno", .str "lineno" t1, .int 1 t5⟩, ⟨PyData.keyHash P "instream", .str "instream" t2, fp⟩, ⟨PyData.keyHash P "whitespace", .str "whitespace" t3, .str "\n\t\r " t6⟩, ⟨PyData.keyHash P "pushback", .str "pushback" t4, .ref pb⟩]
/-- _netrclex(fp) -/
theorem newLex_spec {fp : Value} (sg : Sg G mg mb d) (hG : ∀ b o, G.get? b = some o → s.heap.get? b = some o) (hr : Rm (n + 3) A)
    (h : ∀ s' x dx pb t1 t2 t3 t4 t5 t6 nn, Kp [] s s' → s.heap.get? x = none → s.heap.get? dx = none → s.heap.get? pb = none → s'.heap.get? x = some (instObj d.C dx) → s'.heap.get? dx = some (dictOf (initEs w.params fp pb t1 t2 t3 t4 t5 t6) nn) → LsAt s'.heap pb [] → R (.ok (.ret (.ref x))) s') :
    codeAny (model prog w) A (.call (.ref d.C) ⟨[fp], []⟩) R s := by
  have X₀ : d.K.In s.heap := Frag.In.keeps sg.X hG
  obtain ⟨hh, g, dr, t, os⟩ := s
  refine make_core (makes_of X₀ sg.made) (looks_findIn X₀ sg.kIN) (fun self => bind_fn X₀ self (beq_iff_eq.mp sg.iIN)) (.inl rfl) ?_
  have k0 : ∀ b o, hh.get? b = some o → ((hh.push emptyDict).push (instObj d.C hh.objs.size)).get? b = some o := fun b o e => Heap.get?_push_of_some _ (Heap.get?_push_of_some _ e)
  have hx0 : ((hh.push emptyDict).push (instObj d.C hh.objs.size)).get? (hh.objs.size + 1) = some (instObj d.C hh.objs.size) := by
    have := Heap.get?_push_size (hh.push emptyDict) (o := instObj d.C hh.objs.size) rfl
    rw [Heap.size_push] at this; exact this
  have hd0 : ((hh.push emptyDict).push (instObj d.C hh.objs.size)).get? hh.objs.size = some (dictOf [] 0) := Heap.get?_push_of_some _ (Heap.get?_push_size _ rfl)
  refine callF (n := n + 1) (binds := [("self", .ref (hh.objs.size + 1)), ("fp", fp)]) (s := ⟨(hh.push emptyDict).push (instObj d.C hh.objs.size), g, dr, t, os⟩) (sg.IN.keeps fun b o e => k0 b o (hG b o e)) (sg.glo.lim.keeps fun b o e => k0 b o (hG b o e)) hr.make (fun _ _ _ _ => BindsTo.of_eq rfl) (fun L h₁ hL F₁ hr' => ?_) (by decide) (locs rfl)
  have I0 := Loc.start (tk := t + 2) F₁
  have I : Loc _ [hh.objs.size] L _ _ := I0.wide
  have hLd : L ≠ hh.objs.size := by rw [hL]; simp [Heap.size_push]; omega
  have hLx : L ≠ hh.objs.size + 1 := by rw [hL]; simp [Heap.size_push]
  have X1 : ∀ {s' : Shared}, Kp [hh.objs.size] ⟨(hh.push emptyDict).push (instObj d.C hh.objs.size), g, dr, t, os⟩ s' → d.K.In s'.heap := fun k b o e => k.keep b o (fun q => by
      rw [List.mem_singleton.mp q] at e
      have := Heap.lt_size (hG _ _ (sg.X _ _ e))
      exact absurd this (Nat.lt_irrefl _)) (k0 b o (hG b o (sg.X b o e)))
  have x1 : ∀ {s' : Shared}, Kp [hh.objs.size] ⟨(hh.push emptyDict).push (instObj d.C hh.objs.size), g, dr, t, os⟩ s' → s'.heap.get? (hh.objs.size + 1) = some (instObj d.C hh.objs.size) := fun k => k.keep _ _ (fun q => absurd (List.mem_singleton.mp q) (Nat.succ_ne_self _)) hx0
  have c := sg.cls
  refine wpAny_execs_cons (plainObj_wpAny_Assign_Attribute (wpAny_Constant_int (ldL I.ns rfl (attrS (dx := hh.objs.size) (es := []) (X1 I.tok.kp) c (c.no "lineno" (by decide)) (x1 I.tok.kp) (I0.old _ _ hd0) rfl (Nat.le_of_ble_eq_true rfl) fun s₂ d₂ o₂ => ?_))))
  have I₂ := I.tok.only o₂ (List.mem_singleton.mpr rfl) hLd
  refine wpAny_execs_cons (plainObj_wpAny_Assign_Attribute (ldL I₂.ns rfl (ldL I₂.ns rfl (attrS (dx := hh.objs.size) (X1 I₂.kp) c (c.no "instream" (by decide)) (x1 I₂.kp) d₂ rfl (Nat.le_of_ble_eq_true rfl) fun s₃ d₃ o₃ => ?_))))
  have I₃ := I₂.only o₃ (List.mem_singleton.mpr rfl) hLd
  refine wpAny_execs_cons (plainObj_wpAny_Assign_Attribute (wpAny_Constant_str (ldL I₃.ns rfl (attrS (dx := hh.objs.size) (X1 I₃.tok.kp) c (c.no "whitespace" (by decide)) (x1 I₃.tok.kp) d₃ rfl (Nat.le_of_ble_eq_true rfl) fun s₄ d₄ o₄ => ?_))))
  have I₄ := I₃.tok.only o₄ (List.mem_singleton.mpr rfl) hLd
  refine wpAny_execs_cons (plainObj_wpAny_Assign_Attribute (wpAny_List (wpAny_items_nil ⟨by decide, ?_⟩)))
  have kp5 : Kp [] s₄ { s₄ with heap := s₄.heap.push { cls := .type "list", data := .seq ([] : List Value).toArray } } := ⟨fun b o _ e => Heap.get?_push_of_some _ e, rfl, id⟩
  have I₅ := I₄.call kp5
  have hpb : s₄.heap.objs.size ≠ hh.objs.size := Nat.ne_of_gt (Heap.lt_size d₄)
  refine ldL I₅.ns rfl (attrS (dx := hh.objs.size) (X1 I₅.kp) c (c.no "pushback" (by decide)) (x1 I₅.kp) (kp5.all _ _ d₄) rfl (Nat.le_of_ble_eq_true rfl) fun s₆ d₆ o₆ => ?_)
  have I₆ := I₅.only o₆ (List.mem_singleton.mpr rfl) hLd
  refine wpAny_execs_nil ⟨rfl, h s₆ (hh.objs.size + 1) hh.objs.size s₄.heap.objs.size _ _ _ _ _ _ _ ?_ (Heap.get?_none_of_le (Nat.le_succ _)) (Heap.get?_none_of_le (Nat.le_refl _)) ?_ (x1 I₆.kp) d₆ ⟨0, ?_⟩⟩
  · exact ⟨fun b o _ e => I₆.kp.keep b o (fun q => by rw [List.mem_singleton.mp q] at e; exact absurd (Heap.lt_size e) (Nat.lt_irrefl _)) (k0 b o e), I₆.kp.os, I₆.kp.gens⟩
  · exact Heap.get?_none_of_le (Nat.le_of_lt (Heap.lt_size d₄))
  · exact (o₆.same _ hpb).trans (Heap.get?_push_size _ rfl)
end
end Mine
end
section
open PySem PySem.W PySem.Calls PyProof.Rows
set_option maxRecDepth 100000
set_option Elab.async false
set_option autoImplicit false
set_option linter.unusedVariables false
namespace Mine
theorem qualLS : ("_law_stream" ++ ".<locals>." ++ "<lambda>" : Str) = "_law_stream.<locals>.<lambda>" := by decide +kernel
theorem LocC.wide {s₀ s : Shared} {T : List Addr} {L : Addr} {m cm : Str → Option Value} {cs : List (Str × Addr)} (C : LocC s₀ [] L m cs cm s) : LocC s₀ T L m cs cm s := ⟨C.I.wide, C.cell, C.apart, C.above⟩
section
variable {prog : Program} {w : World} {A : Around} {G : Heap} {mg mb : Str → Option Value} {d : Ads} {s : Shared} {n : Nat} {R : Result → Shared → Prop}
theorem Sg.builtins {h : Heap} {P : Addr} (sg : Sg G mg mb d) (k : ∀ b o, G.get? b = some o → h.get? b = some o) (hP : G.get? P = none) : h.BuiltinsAt mg P ∧ mainGlobals ≠ P := by
  obtain ⟨bm, ob, e1, e2, e3, e4, e5⟩ := sg.bm
  refine ⟨⟨bm, ob, e1, e2, e3, fun q => ?_, k _ _ e4, e5⟩, fun q => ?_⟩
  · rw [q, hP] at e4; cases e4
  · obtain ⟨o, _, _, e, _⟩ := sg.glo.g
    rw [q, hP] at e; cases e

theorem lawStream_spec {left c P : Addr} (sg : Sg G mg mb d) (hG : ∀ b o, G.get? b = some o → s.heap.get? b = some o) (hc : d.cLS = .ref c) (T : Tab s.heap c P ("_law_stream" ++ ".<locals>." ++ "<lambda>")) (hP : G.get? P = none) (hr : Rm (n + 5) A)
    (h : ∀ s' st ds rd cl c', Kp [P] s s' → s.heap.get? st = none → s.heap.get? ds = none → s'.heap.get? st = some (instObj d.C ds) → (∃ es nn, s'.heap.get? ds = some (dictOf es nn) ∧ getL "read" es = some (some (.ref rd))) →
      LamAt s'.heap rd "_law_stream.<locals>.<lambda>" lamLS [("left", cl)] c' → s'.heap.IsCell cl (some (.ref left)) → R (.ok (.ret (.ref st))) s') :
    codeAny (model prog w) A (.call (.ref d.fLS) ⟨[.ref left], []⟩) R s := by
  refine callFC (n := n + 4) (binds := [("left", .ref left)]) (sg.LS.keeps hG) (sg.glo.lim.keeps hG) hr (fun _ _ _ _ => rfl) rfl (fun L s₁ hL C hr' => ?_)
  have hG1 : ∀ {s' : Shared}, Kp [P] s s' → ∀ b o, G.get? b = some o → s'.heap.get? b = some o := fun k b o e => k.keep b o (fun q => by rw [List.mem_singleton.mp q, hP] at e; cases e) (hG b o e)
  have C1 : LocC s [P] L _ _ _ s₁ := C.wide
  have g1 := sg.glo.keeps (hG1 C1.I.kp)
  refine setL (wpAny_Call_Name_kw (ldG (mg := mg) g1.g sg.mC ?_))
  refine callWith_K (K := d.K) (h₀ := s₁.heap) (Frag.In.keeps sg.X (hG1 C1.I.kp)) sg.kept (wpAny_items_cons (wpAny_Constant_none (wpAny_items_nil ⟨Frag.In.keeps sg.X (hG1 C1.I.kp), wpAny_call ?_⟩)))
  refine newLex_spec (n := n + 1) sg (hG1 C1.I.kp) hr' fun s₂ x dx pb t1 t2 t3 t4 t5 t6 nn k₂ nx ndx npb ex edx epb => ?_
  have C2 := C1.call k₂
  refine stLC' C2 fun s₃ C3 sm3 => ?_
  have hxL : x ≠ L := fun q => by obtain ⟨o, es, ep, e, _⟩ := C1.I.ns; rw [q, e] at nx; cases nx
  have hdL : dx ≠ L := fun q => by obtain ⟨o, es, ep, e, _⟩ := C1.I.ns; rw [q, e] at ndx; cases ndx
  have ex3 := (sm3 _ hxL).trans ex
  have ed3 := (sm3 _ hdL).trans edx
  have fresh : ∀ {b : Addr}, s₁.heap.get? b = none → s.heap.get? b = none := fun {b} e => by
    cases q : s.heap.get? b with
    | none => rfl
    | some o => have := C.I.old _ _ q; rw [e] at this; cases this
  have hPd : P ≠ dx := fun q => by
    obtain ⟨ps, e, _⟩ := T.ex
    have := fresh ndx
    rw [← q, e] at this; cases this
  have hPx : P ≠ x := fun q => by
    obtain ⟨ps, e, _⟩ := T.ex
    have := fresh nx
    rw [← q, e] at this; cases this
  have hPL : P ≠ L := fun q => by
    obtain ⟨ps, e, _⟩ := T.ex
    have := C.I.fresh
    rw [← q, e] at this; cases this
  -- the table as it stood
  have T3 : Tab s₃.heap c P ("_law_stream" ++ ".<locals>." ++ "<lambda>") := by
    refine T.keeps fun b o e => ?_
    have e1 := k₂.all b o (C.I.old b o e)
    exact (sm3 b (fun (q : b = L) => by have := C.I.fresh; rw [← q, e] at this; cases this)).trans e1
  have bi := sg.builtins (hG1 C3.I.kp) hP
  refine wpAny_execs_cons (plainObj_wpAny_Assign_Attribute ?_)
  refine mkLam (c := c) (P := P) (clos := [("left", L + 1)]) rfl rfl rfl (sg.glo.keeps (hG1 C3.I.kp)).g hc T3 bi.2 bi.1 fun f c' s₄ nf lf T4 k4 => ?_
  have C4 := C3.turn k4 (fun b hb => .inl hb) (fun q => hPL (List.mem_singleton.mp q).symm) (fun nm cc e q => ?_)
  · have nP : ∀ {b : Addr} {o : Obj}, b ≠ P → s₃.heap.get? b = some o → s₄.heap.get? b = some o := fun nb e => k4.keep _ _ (fun q => nb (List.mem_singleton.mp q)) e
    refine ldL C4.I.ns rfl (attrS (dx := dx) (Frag.In.keeps sg.X (hG1 C4.I.kp)) sg.cls (sg.cls.no "read" (by decide)) (nP hPx.symm ex3) (nP hPd.symm ed3) rfl (Nat.le_of_ble_eq_true rfl) fun s₅ ed5 o5 => ?_)
    have C5 := C4.turn o5.kp (fun b hb => .inr (by rw [List.mem_singleton.mp hb]; exact fresh ndx)) (fun q => hdL (List.mem_singleton.mp q).symm) (fun nm cc e q => ?_)
    · refine wpAny_execs_cons (wpAny_Return_some (ldL C5.I.ns rfl (h s₅ x dx f (L + 1) c' ?_ (fresh nx) (fresh ndx) ((o5.same _ ?_).trans (nP hPx.symm ex3)) ⟨_, _, ed5, rfl⟩ ?_ ?_)))
      · exact C5.I.kp
      · exact ne_of_get ex3 ed3 fun q => by cases congrArg Obj.data q
      · obtain ⟨pm, ctv, l1, cc, oc, vs, tt, r1, r2, r3, r4⟩ := lf
        have nd : ∀ {b : Addr} {o : Obj}, s₄.heap.get? b = some o → (∀ es n, o.data ≠ .dict es n) → s₅.heap.get? b = some o := fun e hd => (o5.same _ (fun q => by
          have := nP hPd.symm ed3
          rw [← q, e] at this
          cases this
          exact hd _ _ rfl)).trans e
        rw [← qualLS]
        exact ⟨pm, ctv, nd l1 (fun _ _ q => by cases q), cc, oc, vs, tt, r1, nd r2 (fun _ _ q => by rw [r3] at q; cases q), r3, r4⟩
      · exact C5.cell "left" (L + 1) rfl
    · -- no cell is the dict
      obtain ⟨o, e1, e2⟩ := C4.cell nm cc e
      rw [List.mem_singleton.mp q, nP hPd.symm ed3] at e1
      cases e1
      cases e2
  · obtain ⟨o, e1, e2⟩ := C3.cell nm cc e
    obtain ⟨ps, e3, _⟩ := T3.ex
    rw [List.mem_singleton.mp q, e3] at e1
    cases e1
    cases e2
end
end Mine
end
section
open PySem PySem.W PySem.Calls PyProof.Rows
set_option maxRecDepth 100000
set_option Elab.async false
set_option autoImplicit false
set_option linter.unusedVariables false
namespace Mine

section
variable {prog : Program} {w : World} {A : Around} {E : Value → Shared → Prop} {s : Shared} {env : Env} {it l : Addr} {x : Str} {px : Pos} {body orelse : List Stmt} {R : Result → Shared → Prop}

theorem Only.of_same {b : Addr} {s : Shared} {h' : Heap} {tk : Nat} (hs : Heap.SameBut b s.heap h') : Only b s { s with heap := h', toks := tk } := ⟨fun c n => hs.2 c n, rfl, rfl⟩

/-- for x in range(..), by an invariant over the turns -/
theorem forR (J : Nat → Shared → Prop) (N : Nat) (x0 step : Int) (hh : A.handled = none)
    (hJ : ∀ i s, J i s → IsRangeIter s.heap it (x0 + i * step) (N - i) step ∧ i ≤ N)
    (turn : ∀ i s, i < N → J i s → ∀ s' t, Only it s s' → IsRangeIter s'.heap it (x0 + (i + 1 : Nat) * step) (N - (i + 1 : Nat)) step →
      wpAny (model prog w) A (storeName env x (.int (x0 + i * step) t)) (fun _ s₂ => wpAny (model prog w) A (execs body env) (fun f s₃ => match f with
        | .next | .cont => J (i + 1) s₃
        | .brk => R (.ok .next) s₃
        | .ret v => R (.ok (.ret v)) s₃) (fun _ _ => False) s₂) (fun _ _ => False) s')
    (fin : ∀ s s', J N s → Kp [it] s s' → wpAny (model prog w) A (execs orelse env) (fun f s₃ => R (.ok f) s₃) (fun _ _ => False) s') (start : J 0 s) :
    codeAny (model prog w) A (.forLoop (.Name x px) (.ref it) body orelse env) R s := by
  refine codeAny_forLoop (fun n s => ∃ i, n = N - i ∧ J i s) (fun n s hI => ?_) N ⟨0, rfl, start⟩
  obtain ⟨i, rfl, hi⟩ := hI
  obtain ⟨hit, hle⟩ := hJ i s hi
  by_cases hlt : i < N
  · refine wpAny_pyNext_range_item hit (by omega) fun h' hit' hs => ?_
    refine wpAny_assign_Name (wpAny_mono (turn i s hlt hi _ s.toks (Only.of_same hs) ?_) (fun _ s₂ q => wpAny_mono q (fun f s₃ q => ?_) fun _ _ q => q.elim) fun _ _ q => q.elim)
    · have e1 : x0 + i * step + step = x0 + (i + 1 : Nat) * step := by rw [Int.natCast_add, Int.add_mul]; simp [Int.add_assoc]
      have e2 : (N : Int) - i - 1 = N - (i + 1 : Nat) := by omega
      rw [e1, e2] at hit'
      exact hit'
    · cases f with
      | next => exact ⟨N - (i + 1), by omega, i + 1, rfl, q⟩
      | cont => exact ⟨N - (i + 1), by omega, i + 1, rfl, q⟩
      | brk => exact q
      | ret v => exact q
  · have : i = N := by omega
    subst this
    refine wpAny_pyNext_range_end hh hit (by omega) fun h' hx => ?_
    exact wpAny_mono (fin s _ hi ⟨fun b o nb e => hx b o (fun q => nb (List.mem_singleton.mpr q)) e, rfl, id⟩) (fun _ _ q => q) fun _ _ q => q.elim

/-- for x in a list, by an invariant over the turns -/
theorem forL (J : Nat → Shared → Prop) (N : Nat) (item : Nat → Value) (hh : A.handled = none)
    (hJ : ∀ i s, J i s → s.heap.IsListIter it l i ∧ (∃ items, s.heap.IsList l items ∧ items.size = N ∧ ∀ j, j < N → items[j]? = some (item j)) ∧ i ≤ N)
    (turn : ∀ i s, i < N → J i s → ∀ s', Only it s s' → s'.heap.IsListIter it l (i + 1) →
      wpAny (model prog w) A (storeName env x (item i)) (fun _ s₂ => wpAny (model prog w) A (execs body env) (fun f s₃ => match f with
        | .next | .cont => J (i + 1) s₃
        | .brk => R (.ok .next) s₃
        | .ret v => R (.ok (.ret v)) s₃) (fun _ _ => False) s₂) (fun _ _ => False) s')
    (fin : ∀ s s', J N s → Kp [it] s s' → wpAny (model prog w) A (execs orelse env) (fun f s₃ => R (.ok f) s₃) (fun _ _ => False) s') (start : J 0 s) :
    codeAny (model prog w) A (.forLoop (.Name x px) (.ref it) body orelse env) R s := by
  refine codeAny_forLoop (fun n s => ∃ i, n = N - i ∧ J i s) (fun n s hI => ?_) N ⟨0, rfl, start⟩
  obtain ⟨i, rfl, hi⟩ := hI
  obtain ⟨hit, ⟨items, hl, hN, hitem⟩, hle⟩ := hJ i s hi
  by_cases hlt : i < N
  · refine wpAny_pyNext_list_item hit hl (hitem i hlt) fun h' hit' hs => ?_
    refine wpAny_assign_Name (wpAny_mono (turn i s hlt hi _ (Only.of_same hs) hit') (fun _ s₂ q => wpAny_mono q (fun f s₃ q => ?_) fun _ _ q => q.elim) fun _ _ q => q.elim)
    cases f with
    | next => exact ⟨N - (i + 1), by omega, i + 1, rfl, q⟩
    | cont => exact ⟨N - (i + 1), by omega, i + 1, rfl, q⟩
    | brk => exact q
    | ret v => exact q
  · have : i = N := by omega
    subst this
    refine wpAny_pyNext_list_end hh hit hl (Array.getElem?_eq_none (by omega)) fun h' hx => ?_
    exact wpAny_mono (fin s _ hi ⟨fun b o nb e => hx b o (fun q => nb (List.mem_singleton.mpr q)) e, rfl, id⟩) (fun _ _ q => q) fun _ _ q => q.elim
end
end Mine
end
section
open PySem PySem.W PySem.Calls PyProof.Rows
set_option maxRecDepth 100000
set_option Elab.async false
set_option maxHeartbeats 4000000
set_option autoImplicit false
set_option linter.unusedVariables false
namespace Mine
section
variable {M : Model} {A : Around} {E : Value → Shared → Prop} {hp : Heap} {g : Array GenState} {dr : Drawn} {tk : Nat} {os : OsState} {env : Env} {Q : Value → Shared → Prop}
theorem cInt {i : Int} {k : Nat} {pos : Pos} (h : ∀ t tk', Q (.int i t) ⟨hp, g, dr, tk', os⟩) : wpAny M A (eval (.Constant (.int i) k pos) env) Q E ⟨hp, g, dr, tk, os⟩ := wpAny_Constant_int (h _ _)
theorem cStr {x : Str} {k : Nat} {pos : Pos} (h : ∀ t tk', Q (.str x t) ⟨hp, g, dr, tk', os⟩) : wpAny M A (eval (.Constant (.str x) k pos) env) Q E ⟨hp, g, dr, tk, os⟩ := wpAny_Constant_str (h _ _)
end
section
variable {prog : Program} {w : World} {A : Around} {E : Value → Shared → Prop} {s : Shared} {l b : Addr} {vs ws : List Value} {Q : Value → Shared → Prop} {env : Env}
theorem Kp.push {T : List Addr} {s : Shared} {o : Obj} {tk : Nat} : Kp T s { s with heap := s.heap.push o, toks := tk } := ⟨fun b o _ e => Heap.get?_push_of_some _ e, rfl, id⟩
theorem addLL (hl : s.heap.IsList l vs.toArray) (hb : s.heap.IsList b ws.toArray) (hz : vs.length + ws.length < 2 ^ 20) (h : ∀ s' r, s.heap.get? r = none → LsAt s'.heap r (vs ++ ws) → Kp [] s s' → Q (.ref r) s') :
    wpAny (model prog w) A (binaryOp .Add (.ref l) (.ref b)) Q E s := by
  obtain ⟨⟨cls, dd, data, sl⟩, ho, hc, n, hd⟩ := id hl
  obtain ⟨⟨cls2, dd2, data2, sl2⟩, ho2, hc2, n2, hd2⟩ := id hb
  simp only at hc hd hc2 hd2
  subst hc hd hc2 hd2
  have e : vs.toArray ++ ws.toArray = (vs ++ ws).toArray := by simp
  refine concat_meets ⟨_, ho, rfl⟩ ⟨_, ho2, rfl⟩ noFill_list_add seq_list_add PySem.F.slot_list_add PySem.F.entry_list_add (PySem.F.args_list_add_2 _ _) (list_addW l b vs.toArray ws.toArray n n2 dd dd2 sl sl2 (by rw [List.size_toArray, List.size_toArray, sizeLine_eq]; omega)) ⟨ho, ho2, ?_⟩
  rw [e]
  exact h _ _ (Heap.get?_none_of_le (Nat.le_refl _)) ⟨0, Heap.get?_push_size _ rfl⟩ Kp.push
/-- a display of a list -/
theorem newL {elts : List Expr} {pos : Pos} (h : wpAny (model prog w) A (spliced (backTo pos (starEach elts env))) (fun vs s₁ => vs.length ≤ sizeLine ∧ ∀ s' r, s₁.heap.get? r = none → LsAt s'.heap r vs → Kp [] s₁ s' → Q (.ref r) s') E s) :
    wpAny (model prog w) A (eval (.List elts pos) env) Q E s :=
  wpAny_List (wpAny_mono h (fun vs s₁ h₁ => ⟨h₁.1, h₁.2 _ _ (Heap.get?_none_of_le (Nat.le_refl _)) ⟨0, Heap.get?_push_size _ rfl⟩ Kp.push⟩) fun _ _ x => x)
/-- l[:k] of a name -/
theorem cutL {value slice : Expr} {vl vu vk : Value} {lo hi st : Option Int} {ops : List Value} {sl : Addr} (hl : s.heap.IsList l vs.toArray) (hs : s.heap.IsSliceOf sl vl vu vk) (pl : IsPart vl lo) (pu : IsPart vu hi) (pk : IsPart vk st) (h0 : st ≠ some 0) (hz : vs.length < 2 ^ 20)
    (h : ∀ s' r, s.heap.get? r = none → LsAt s'.heap r (slicePick vs.toArray lo hi st).toList → Kp [] s s' → Q (.ref r) s')
    (hsub : subscripted slice false (.ref l) (.ref sl) = operate ops (getItem (.ref l) (.ref sl))) (ht : ∀ r, letTemporaryGo value (.ref l) r = pure () := by intro _; with_unfolding_all rfl) :
    wpAny (model prog w) A (subscriptTail value slice (.ref l) (.ref sl)) Q E s := by
  refine subscriptTail_ops hl.typeIs list_getitem_lookup (wpAny_getItem_list_slice hl hs pl pu pk h0 ?_ (by rw [List.size_toArray, sizeLine_eq]; omega)) hsub ht
  exact h _ _ (Heap.get?_none_of_le (Nat.le_refl _)) ⟨0, by rw [Array.toArray_toList]; exact Heap.get?_push_size _ rfl⟩ Kp.push
theorem setI {k : Nat} {t : Tok} {v : Value} {Q : Unit → Shared → Prop} (hl : s.heap.IsList l vs.toArray) (hk : k < vs.length) (hz : vs.length < 2 ^ 20) (h : ∀ s', s'.heap.IsList l (vs.set k v).toArray → Only l s s' → Q () s') :
    wpAny (model prog w) A (setItem (.ref l) (.int k t) v) Q E s := by
  refine wpAny_setItem_list hl (by omega) (by omega) (by rw [List.size_toArray]; omega) fun h' hl' hs => h _ ?_ (Only.of_same hs)
  rw [Int.toNat_natCast] at hl'
  simpa using hl'
/-- the slice x[:k] -/
theorem sliceTo {e : Expr} {p : Pos} (h : wpAny (model prog w) A (eval e env) (fun u s₁ => ∀ sl s', s₁.heap.get? sl = none → s'.heap.IsSliceOf sl .none u .none → Kp [] s₁ s' → Q (.ref sl) s') E s) :
    wpAny (model prog w) A (eval (.Slice none (some e) none p) env) Q E s := by
  rw [arm_eval_Slice]
  refine wpAny_bind (wpAny_pure (wpAny_bind (wpAny_holding (wpAny_mono h (fun u s₁ h₁ => ?_) fun _ _ x => x))))
  refine wpAny_bind (wpAny_holding (wpAny_pure (wpAny_newObj_type (h₁ _ _ (Heap.get?_none_of_le (Nat.le_refl _)) ⟨_, Heap.get?_push_size _ rfl, rfl, rfl⟩ Kp.push) (by size_fits))))
end

theorem Loc.off {s₀ s s' : Shared} {T : List Addr} {L b : Addr} {m : Str → Option Value} (I : Loc s₀ T L m s) (o : Kp [b] s s') (h0 : s₀.heap.get? b = none) (hL : L ≠ b) : Loc s₀ T L m s' :=
  ⟨let ⟨ob, es, ep, e, r⟩ := I.ns; ⟨ob, es, ep, o.keep _ _ (fun q => hL (List.mem_singleton.mp q)) e, r⟩, ⟨fun x ox nx e => o.keep _ _ (fun q => by rw [List.mem_singleton.mp q, h0] at e; cases e) (I.kp.keep x ox nx e), o.os.trans I.kp.os, fun g => o.gens (I.kp.gens g)⟩, I.above⟩
theorem isList_off {s s' : Shared} {b l : Addr} {items : Array Value} (x : s.heap.IsList l items) (o : Only b s s') (h : l ≠ b) : s'.heap.IsList l items := let ⟨ob, e, r⟩ := x; ⟨ob, (o.same _ h).trans e, r⟩
theorem isList_same {s s' : Shared} {L l : Addr} {items : Array Value} (x : s.heap.IsList l items) (o : SameL L s s') (h : l ≠ L) : s'.heap.IsList l items := let ⟨ob, e, r⟩ := x; ⟨ob, (o _ h).trans e, r⟩
theorem IntsAre.at {vs : List Value} {ns : List Int} (h : IntsAre vs ns) : ∀ i, i < ns.length → ∃ z t, vs[i]? = some (.int z t) := by
  induction h with
  | nil => intro i hi; cases hi
  | cons n t _ ih =>
    intro i hi
    cases i with
    | zero => exact ⟨n, t, rfl⟩
    | succ i => obtain ⟨z, u, e⟩ := ih i (by simpa using hi); exact ⟨z, u, by simpa using e⟩
theorem fmod10 (a : Int) : ∃ z : Nat, a.fmod 10 = z ∧ z ≤ 9 := by
  have h1 : 0 ≤ a.fmod 10 := Int.fmod_nonneg_of_pos a (by decide)
  have h2 : a.fmod 10 < 10 := Int.fmod_lt_of_pos a (by decide)
  exact ⟨(a.fmod 10).toNat, by omega, by omega⟩

section
variable {prog : Program} {w : World} {A : Around} {E : Value → Shared → Prop} {s : Shared} {Q : Value → Shared → Prop}
theorem len1 {l : Addr} {items : Array Value} (hl : s.heap.IsList l items) (hz : items.size < 2 ^ 40) (h : ∀ t s', Kp [] s s' → Q (.int (items.size : Nat) t) s') : wpAny (model prog w) A (call (.builtin "len") [.ref l]) Q E s :=
  len_list hl (by omega) (h _ _ ⟨fun _ _ _ e => e, rfl, id⟩)
theorem min2 {a b : Int} {t u : Tok} (hh : A.handled = none) (h : ∀ v s', Kp [] s s' → Q (.int (if b < a then b else a) v) s') : wpAny (model prog w) A (call (.builtin "min") [.int a t, .int b u]) Q E s := by
  refine min_two_ints hh fun h' tk k => ?_
  by_cases q : b < a
  · rw [if_pos q]; have := h u ⟨h', s.gens, s.drawn, tk, s.os⟩ ⟨fun c o _ e => k c o e, rfl, id⟩; rw [if_pos q] at this; exact this
  · rw [if_neg q]; have := h t ⟨h', s.gens, s.drawn, tk, s.os⟩ ⟨fun c o _ e => k c o e, rfl, id⟩; rw [if_neg q] at this; exact this
/-- range(n), and its iterator -/
theorem rangeIt {n : Nat} {t : Tok} {K : Value → Shared → Prop} (hn : n < 2 ^ 40) (h : ∀ it s', s.heap.get? it = none → IsRangeIter s'.heap it 0 n 1 → Kp [] s s' → K (.ref it) s') :
    wpAny (model prog w) A (call (.type "range") [.int n t]) (fun x s₁ => wpAny (model prog w) A (pyIter x) K E s₁) E s := by
  refine call_range_1 (wpAny_pyIter_range (IsRange.new _ _ _ _ _ _ _) (small_one (by omega) (by omega) (by omega) (by omega)) ?_)
  rw [rangeSize_one]
  have hsz0 : (if (0 : Int) < n then (n : Int) - 0 else 0) = n := by split <;> omega
  rw [hsz0]
  refine h _ _ (Heap.get?_none_of_le (by show _ ≤ (s.heap.push _).objs.size; rw [Heap.size_push]; exact Nat.le_succ _)) (Heap.get?_push_size _ rfl) ⟨fun b o _ e => Heap.get?_push_of_some _ (Heap.get?_push_of_some _ e), rfl, id⟩
end
theorem ne_of_none {s : Shared} {a b : Addr} (h1 : s.heap.get? a = none) {o : Obj} (h2 : s.heap.get? b = some o) : a ≠ b := fun q => by rw [q, h2] at h1; cases h1
theorem Kp.none {s s' : Shared} {b : Addr} (k : Kp [] s s') (h : s'.heap.get? b = none) : s.heap.get? b = none := by
  cases q : s.heap.get? b with
  | none => rfl
  | some o => have := k.all _ _ q; rw [h] at this; cases this
theorem ns_some {h : Heap} {L : Addr} {m : Str → Option Value} (n : h.Ns L m) : ∃ o, h.get? L = some o := let ⟨o, _, _, e, _⟩ := n; ⟨o, e⟩

/-- ten digits, or more -/
def Digs (vs : List Value) (n : Nat) : Prop := vs.length = n ∧ ∀ i, i < n → ∃ (z : Nat) (t : Tok), vs[i]? = some (.int z t) ∧ z ≤ 9
theorem Digs.set {vs : List Value} {n k z : Nat} {t : Tok} (h : Digs vs n) (hz : z ≤ 9) : Digs (vs.set k (.int z t)) n := by
  refine ⟨by rw [List.length_set]; exact h.1, fun i hi => ?_⟩
  by_cases e : k = i
  · subst e
    exact ⟨z, t, by rw [List.getElem?_set_self (by rw [h.1]; exact hi)], hz⟩
  · rw [List.getElem?_set_ne e]
    exact h.2 i hi

section
variable {prog : Program} {w : World} {A : Around} {G : Heap} {mg mb : Str → Option Value} {d : Ads} {s : Shared} {n : Nat} {R : Result → Shared → Prop}
theorem line_spec {sc : Addr} {ivs : List Value} {ns : List Int} (sg : Sg G mg mb d) (hG : ∀ b o, G.get? b = some o → s.heap.get? b = some o) (hs : s.heap.IsList sc ivs.toArray) (hi : IntsAre ivs ns) (hn : ns.length ≤ 63) (hr : Rm (n + 3) A)
    (h : ∀ s' r vs, Kp [] s s' → s.heap.get? r = none → LsAt s'.heap r vs → Digs vs 11 → vs[10]? = vs[0]? → R (.ok (.ret (.ref r))) s') :
    codeAny (model prog w) A (.call (.ref d.fLL) ⟨[.ref sc], []⟩) R s := by
  refine callF (n := n + 2) (binds := [("script", .ref sc)]) (sg.LL.keeps hG) (sg.glo.lim.keeps hG) hr (fun _ _ _ _ => BindsTo.of_eq rfl) (fun L h₁ hL F₁ hr' => ?_) (by decide) (locs rfl)
  have I := Loc.start (tk := s.toks + 1) F₁
  refine setL ?_
  refine newL ?_
  iterate 10 (refine wpAny_items_cons (cInt fun _ _ => ?_))
  refine wpAny_items_nil ⟨by rw [sizeLine_eq]; simp, fun s₂ r nr lr k₂ => ?_⟩
  have I₂ := I.tok.call k₂
  refine stL I₂ fun s₃ I₃ sm₃ => ?_
  have hrL : r ≠ L := fun q => by obtain ⟨o, es, ep, e, _⟩ := I.ns; rw [q] at nr; rw [e] at nr; cases nr
  have fresh : ∀ {b : Addr}, h₁.get? b = none → s.heap.get? b = none := fun {b} e => by
    cases q : s.heap.get? b with
    | none => rfl
    | some o => have := F₁.keep _ _ q; rw [e] at this; cases this
  have nr0 : s.heap.get? r = none := fresh nr
  have l3 : s₃.heap.IsList r _ := (lr.of_eq (sm₃ _ hrL)).isList
  -- range(min(10, len(script)))
  have G3 : ∀ b o, G.get? b = some o → s₃.heap.get? b = some o := fun b o e => I₃.old b o (hG b o e)
  have g3 := sg.glo.keeps G3
  refine wpAny_execs_cons (wpAny_For ?_)
  refine wpAny_Call_Name_kw (ldB (mg := mg) (mb := mb) g3.g (sg.no "range" (by decide)) g3.b (g3.name boot_range (by decide)) ?_)
  refine callWith_type1 (wpAny_items_cons (wpAny_Call_Name_kw (ldB (mg := mg) (mb := mb) g3.g (sg.no "min" (by decide)) g3.b (g3.name boot_min (by decide)) ?_)))
  refine cwB (wpAny_items_cons (cInt fun t4 tk4 => wpAny_items_cons (wpAny_Call_Name_kw (ldB (mg := mg) (mb := mb) g3.g (sg.no "len" (by decide)) g3.b (g3.name boot_len (by decide)) ?_))))
  refine cwB (wpAny_items_cons (ldL I₃.ns rfl (wpAny_items_nil ?_)))
  have hlen : ivs.length = ns.length := hi.length
  refine len1 (stays_list I₃.tok.old hs) (by rw [List.size_toArray]; omega) fun t5 s₅ k5 => ?_
  refine wpAny_items_nil (min2 hr'.2.2 fun t6 s₆ k6 => ?_)
  have I₆ := (I₃.tok.call k5).call k6
  obtain ⟨N, eN, hN1, hN2⟩ : ∃ N : Nat, (if ((ivs.toArray.size : Nat) : Int) < 10 then ((ivs.toArray.size : Nat) : Int) else 10) = N ∧ N ≤ 10 ∧ N ≤ ns.length := by
    rw [List.size_toArray, hlen]
    by_cases q : (ns.length : Int) < 10
    · rw [if_pos q]; exact ⟨ns.length, rfl, by omega, Nat.le_refl _⟩
    · rw [if_neg q]; exact ⟨10, rfl, Nat.le_refl _, by omega⟩
  rw [eN]
  refine wpAny_items_nil (rangeIt (by omega) fun it s₇ n7 i7 k7 => ?_)
  have I₇ := I₆.call k7
  have r6 : s₆.heap.IsList r _ := stays_list k6.all (stays_list k5.all l3)
  obtain ⟨oL, eL⟩ := ns_some I₆.ns
  have itL : L ≠ it := (ne_of_none n7 eL).symm
  have rit : r ≠ it := let ⟨o, e, _⟩ := r6; (ne_of_none n7 e).symm
  have it0 : s.heap.get? it = none := I₆.kp.none n7
  refine forR (fun i s' => ∃ m vs, Loc s [] L m s' ∧ m "line" = some (.ref r) ∧ m "script" = some (.ref sc) ∧ s'.heap.IsList r vs.toArray ∧ Digs vs 10 ∧ IsRangeIter s'.heap it (0 + i * 1) (N - i) 1 ∧ i ≤ N) N 0 1 hr'.2.2 (fun i s' ⟨m, vs, _, _, _, _, _, h6, h7⟩ => ⟨h6, h7⟩) ?turn ?fin ?start
  case start =>
    refine ⟨_, _, I₇, rfl, rfl, stays_list k7.all r6, ⟨rfl, fun i hi => ?_⟩, by simpa using i7, Nat.zero_le _⟩
    match i, hi with
    | 0, _ => exact ⟨5, _, rfl, by decide⟩
    | 1, _ => exact ⟨0, _, rfl, by decide⟩
    | 2, _ => exact ⟨2, _, rfl, by decide⟩
    | 3, _ => exact ⟨7, _, rfl, by decide⟩
    | 4, _ => exact ⟨1, _, rfl, by decide⟩
    | 5, _ => exact ⟨4, _, rfl, by decide⟩
    | 6, _ => exact ⟨8, _, rfl, by decide⟩
    | 7, _ => exact ⟨4, _, rfl, by decide⟩
    | 8, _ => exact ⟨6, _, rfl, by decide⟩
    | 9, _ => exact ⟨9, _, rfl, by decide⟩
  case turn =>
    rintro i s' hlt ⟨m, vs, J1, J2, J3, J4, J5, J6, J7⟩ s'' t hO hit
    have J1' := J1.off hO.kp it0 itL
    refine stL J1' fun s₈ I₈ sm₈ => ?_
    have J4' := isList_same (isList_off J4 hO rit) sm₈ hrL
    have hit8 : IsRangeIter s₈.heap it (0 + (i + 1 : Nat) * 1) (N - (i + 1 : Nat)) 1 := (sm₈ _ itL.symm).trans hit
    have hk : (0 : Int) + i * 1 = (i : Nat) := by omega
    obtain ⟨z, tz, ez, hz9⟩ := J5.2 i (by omega)
    obtain ⟨y, ty, ey⟩ := IntsAre.at hi i (Nat.lt_of_lt_of_le hlt hN2)
    refine wpAny_execs_cons (wpAny_Assign_Subscript ?_)
    refine wpAny_BinOp (wpAny_BinOp (Subscript_ (ldL I₈.ns ((if_neg (by decide)).trans J2) (ldL I₈.ns rfl ?_))))
    rw [hk]
    refine lst_item J4' (by omega) (by omega) (by rw [Int.toNat_natCast]; simpa using ez) ?_
    refine Subscript_ (ldL I₈.ns ((if_neg (by decide)).trans J3) (ldL I₈.ns rfl ?_))
    rw [hk]
    refine lst_item (stays_list I₈.old hs) (by omega) (by omega) (by rw [Int.toNat_natCast]; simpa using ey) ?_
    refine add_int (wpAny_Constant_int (mod_int' (by decide) ?_))
    obtain ⟨q, eq, hq9⟩ := fmod10 ((z : Int) + y)
    rw [eq]
    refine ldL I₈.ns ((if_neg (by decide)).trans J2) (ldL I₈.ns rfl ?_)
    rw [hk]
    refine setI J4' (by rw [J5.1]; omega) (by rw [J5.1]; decide) fun s₉ l9 o9 => wpAny_execs_nil ?_
    exact ⟨_, _, (I₈.tok).off o9.kp nr0 hrL.symm, (if_neg (by decide)).trans J2, (if_neg (by decide)).trans J3, l9, J5.set hq9, (o9.same _ rit.symm).trans hit8, hlt⟩
  case fin =>
    rintro s' s'' ⟨m, vs, J1, J2, J3, J4, J5, J6, J7⟩ hk
    have I₉ := J1.off hk it0 itL
    have l9 : s''.heap.IsList r vs.toArray := let ⟨ob, e, q⟩ := J4; ⟨ob, hk.keep _ _ (fun q => rit (List.mem_singleton.mp q)) e, q⟩
    refine wpAny_execs_nil (wpAny_execs_cons (wpAny_Return_some (wpAny_BinOp (ldL I₉.ns J2 (Subscript_ (ldL I₉.ns J2 ?_))))))
    refine sliceTo (cInt fun t1 tk1 sl s₁₀ n10 sl10 k10 => ?_)
    have I₁₀ := I₉.tok.call k10
    refine cutL (stays_list k10.all l9) sl10 .none (.int 1 t1) .none (by simp) (by rw [J5.1]; decide) (fun s₁₁ r2 n11 l11 k11 => ?_) (by with_unfolding_all rfl)
    have I₁₁ := I₁₀.call k11
    refine addLL (stays_list k11.all (stays_list k10.all l9)) l11.isList ?_ fun s₁₂ r3 n12 l12 k12 => ?_
    · have := slicePick_size_le vs.toArray none (some 1) none
      have e2 : vs.length = 10 := J5.1
      have e3 : vs.toArray.size = 10 := e2
      have e4 : (slicePick vs.toArray none (some 1) none).toList.length = (slicePick vs.toArray none (some 1) none).size := Array.length_toList
      omega
    · have I₁₂ := I₁₁.call k12
      have e1 : (slicePick vs.toArray none (some 1) none).toList = vs.take 1 := by
        have := slicePick_upto vs.toArray 1 (by rw [List.size_toArray, J5.1]; decide)
        rw [show (some (1 : Int)) = some ((1 : Nat) : Int) from rfl, this]
      rw [e1] at l12
      refine h s₁₂ r3 _ I₁₂.kp (I₁₁.kp.none n12) l12 ⟨by simp [J5.1], fun i hi => ?_⟩ ?_
      · by_cases q : i < 10
        · rw [List.getElem?_append_left (by rw [J5.1]; exact q)]
          exact J5.2 i q
        · have : i = 10 := by omega
          subst this
          rw [List.getElem?_append_right (by rw [J5.1]; exact Nat.le_refl _), J5.1]
          have := J5.2 0 (by decide)
          simpa [List.getElem?_take] using this
      · rw [List.getElem?_append_right (by rw [J5.1]; exact Nat.le_refl _), List.getElem?_append_left (by rw [J5.1]; decide), J5.1]
        simp
end
end Mine
end
section
open PySem PySem.W PySem.Calls PyProof.Rows
set_option maxRecDepth 100000
set_option Elab.async false
set_option maxHeartbeats 4000000
set_option autoImplicit false
set_option linter.unusedVariables false
namespace Mine
section
variable {prog : Program} {w : World} {A : Around} {E : Value → Shared → Prop} {s : Shared} {env : Env}

/-- what a comprehension's end tells -/
structure CompEnd (s₂ : Shared) (T : List Addr) (n : Nat) (J : Nat → List Value → Shared → Prop) (C D : Addr) (ys : List Value) (s' : Shared) : Prop where
  nD : s₂.heap.get? D = none
  nC : s₂.heap.get? C = none
  ne : D ≠ C
  kp : Kp T s₂ s'
  ls : LsAt s'.heap D ys
  len : ys.length = n
  j : J n ys s'
  cn : ∃ m, s'.heap.Ns C m

/-- a comprehension's turns, by an invariant: C its frame, D its list -/
theorem comp_block {elt iter : Expr} {x : Str} {px : Pos} {scope : Scope} {cl : List (Str × Addr)} {pos : Pos} {s₂ : Shared} {I : Addr} {fp wr : List Addr} {n : Nat} {P : Nat → Value → Prop} {St : Nat → Heap → Prop} {T : List Addr}
    {RR : Value → Addr → Result → Shared → Prop} (W : Walks prog w A I fp wr n P St) (hsz : n < 1000) (J : Nat → List Value → Shared → Prop)
    (hcell : ∀ y ∈ scope.names, y.2 ≠ .cell) (hkind : scope.kind = .function) (hx : scope.names.lookup x = some .local) (hst : St 0 s₂.heap) (hfp : ∀ b ∈ fp, b < s₂.heap.objs.size) (hTf : ∀ b ∈ T, b ∉ fp) (hT : ∀ b ∈ T, b < s₂.heap.objs.size) (hJ0 : J 0 [] s₂)
    (hJ : ∀ i ys (s s' : Shared), J i ys s → (∀ b o, b < s₂.heap.objs.size → b ∉ wr → s.heap.get? b = some o → s'.heap.get? b = some o) → J i ys s')
    (turn : ∀ C i v s m ys, i < n → P i v → Loc s₂ (wr ++ T) C m s → m x = some v → ys.length = i → J i ys s →
      wpAny (model prog w) A (eval elt (compEnvC scope cl C env)) (fun y s' => Kp T s s' ∧ J (i + 1) (ys ++ [y]) s') (fun _ _ => False) s)
    (hRR : ∀ D C m s' ys, s'.heap.Ns C m → CompEnd s₂ (wr ++ T) n J C D ys s' → RR (.ref D) C (.ok .next) s') :
    wpAny (model prog w) A (newList []) (fun acc s₃ => wpAny (model prog w) A (newFunctionEnv scope env.globals cl [] env.qual none .none (some env)) (fun cenv s₄ =>
      codeAny (model prog w) A (.compStart (.ListComp elt [⟨.Name x px, iter, [], 0⟩] scope pos) 0 (.ref I) acc { cenv with scope := relabel scope env }) (RR acc cenv.locals) s₄) E s₃) E s₂ := by
  refine wpAny_newObj_type (wpAny_newFunctionEnv hcell (by intro y hy; simp at hy) (fun h₁ hns₁ hsb₁ => ?_) hkind)
  dsimp only at hns₁ hsb₁ ⊢
  generalize hH2 : s₂.heap.push { cls := .type "list", dict := none, data := .seq ([] : List Value).toArray } = H2 at hns₁ hsb₁ ⊢
  have hC : H2.objs.size = s₂.heap.objs.size + 1 := by rw [← hH2, Heap.size_push]
  have hDC : s₂.heap.objs.size ≠ H2.objs.size := by rw [hC]; exact Nat.ne_of_lt (Nat.lt_succ_self _)
  have below : ∀ b, b < s₂.heap.objs.size → b ≠ H2.objs.size ∧ b ≠ s₂.heap.objs.size := fun b hb => ⟨by rw [hC]; exact Nat.ne_of_lt (Nat.lt_succ_of_lt hb), Nat.ne_of_lt hb⟩
  have hDf : s₂.heap.objs.size ∉ fp := fun hm => Nat.lt_irrefl _ (hfp _ hm)
  have hCf : H2.objs.size ∉ fp := fun hm => by have := hfp _ hm; rw [hC] at this; exact Nat.lt_irrefl _ (Nat.lt_of_succ_lt this)
  have hDT : s₂.heap.objs.size ∉ T := fun hm => Nat.lt_irrefl _ (hT _ hm)
  have hCT : H2.objs.size ∉ T := fun hm => by have := hT _ hm; rw [hC] at this; exact Nat.lt_irrefl _ (Nat.lt_of_succ_lt this)
  have hDw : s₂.heap.objs.size ∉ wr := fun h => hDf (W.sub _ h)
  have hCw : H2.objs.size ∉ wr := fun h => hCf (W.sub _ h)
  have old : ∀ b o, s₂.heap.get? b = some o → h₁.get? b = some o := fun b o e => hsb₁.extBut b o (below b (Heap.lt_size e)).1 (Heap.get?_push_of_some _ (hH2 ▸ Heap.get?_push_of_some _ e))
  have hacc : LsAt h₁ s₂.heap.objs.size [] := ⟨0, hsb₁.extBut _ _ hDC (Heap.get?_push_of_some _ (hH2 ▸ Heap.get?_push_size _ rfl))⟩
  have hst₁ : St 0 h₁ := W.frame _ _ _ hst fun b _ o e => old b o e
  have nD : s₂.heap.get? s₂.heap.objs.size = none := Heap.get?_none_of_le (Nat.le_refl _)
  have nC : s₂.heap.get? H2.objs.size = none := Heap.get?_none_of_le (by rw [hC]; exact Nat.le_succ _)
  have loop : ∀ s₃ : Shared, s₃ = { s₂ with heap := h₁, toks := s₂.toks + ([] : List (Str × Value)).length } →
      codeAny (model prog w) A (.compLoop (.ListComp elt [⟨.Name x px, iter, [], 0⟩] scope pos) 0 (.ref I) (.ref s₂.heap.objs.size) (compEnvC scope cl H2.objs.size env))
        (RR (.ref s₂.heap.objs.size) H2.objs.size) s₃ := by
    rintro s₃ rfl
    refine codeAny_compLoop_list (fun k s' => ∃ i m ys, i ≤ n ∧ k = n + 1 - i ∧ St i s'.heap ∧ LsAt s'.heap s₂.heap.objs.size ys ∧ Loc s₂ (wr ++ T) H2.objs.size m s' ∧ ys.length = i ∧ J i ys s') ?_ (n + 1) ⟨0, _, [], Nat.zero_le _, rfl, hst₁, hacc, ⟨hns₁, ⟨fun b o _ e => old b o e, rfl, id⟩, by rw [hC]; exact Nat.le_succ _⟩, rfl, hJ 0 [] _ _ hJ0 fun b o hb _ e => old b o e⟩
    rintro k s' ⟨i, m, ys, hi, rfl, hst', hacc', I', hlen, hj⟩
    by_cases hlt : i < n
    · refine W.item i _ _ _ hlt hst' fun v h₂ tk₂ hPv hst₂ hk₂ => ?_
      refine wpAny_assign_Name (wpAny_storeName_local (lookup_relabel_local hx) (I'.ns.at' fun o e => hk₂ _ o hCw e) (fun h₃ hn₃ hs₃ => ?_) (by simp [compEnvC, relabel, hkind]))
      have up : ∀ b o, b ≠ H2.objs.size → b ∉ wr → s'.heap.get? b = some o → h₃.get? b = some o := fun b o hbC hbf e => hs₃.extBut b o hbC (hk₂ b o hbf e)
      have hst₃ : St (i + 1) h₃ := W.frame _ _ _ hst₂ fun b hb o e => hs₃.extBut b o (fun (h : b = H2.objs.size) => hCf (h ▸ hb)) e
      have I₃ : Loc s₂ (wr ++ T) H2.objs.size (upd m x v) { s' with heap := h₃, toks := tk₂ + 1 } := ⟨hn₃, ⟨fun b o nb e => up b o (below b (Heap.lt_size e)).1 (fun q => nb (List.mem_append.mpr (.inl q))) (I'.kp.keep b o nb e), I'.kp.os, I'.kp.gens⟩, I'.above⟩
      have hacc₃ : LsAt h₃ s₂.heap.objs.size ys := let ⟨q, e⟩ := hacc'; ⟨q, up _ _ hDC hDw e⟩
      have hj₃ := hJ i ys _ { s' with heap := h₃, toks := tk₂ + 1 } hj fun b o hb hbw e => up b o (below b hb).1 hbw e
      refine wpAny_mono (turn H2.objs.size i v { s' with heap := h₃, toks := tk₂ + 1 } _ ys hlt hPv I₃ (if_pos rfl) hlen hj₃) (fun y s₄ h₄ => ?_) fun _ _ e => e.elim
      obtain ⟨k₄, j₄⟩ := h₄
      have hacc₄ : LsAt s₄.heap s₂.heap.objs.size ys := let ⟨q, e⟩ := hacc₃; ⟨q, k₄.keep _ _ hDT e⟩
      refine appL hacc₄ (by omega) fun s₅ l₅ o₅ => ?_
      refine ⟨n + 1 - (i + 1), by omega, i + 1, _, ys ++ [y], hlt, rfl, ?_, l₅, ⟨(I₃.ns.at' fun o e => k₄.keep _ o hCT e).at' fun o e => (o₅.same _ (Ne.symm hDC)).trans e, ?_, I₃.above⟩, by rw [List.length_append, hlen]; rfl, ?_⟩
      · refine W.frame _ _ _ (W.frame _ _ _ hst₃ fun b hb o e => k₄.keep b o (fun q => hTf b q hb) e) fun b hb o e => (o₅.same b (fun q => hDf (q ▸ hb))).trans e
      · exact ⟨fun b o nb e => (o₅.same b (below b (Heap.lt_size e)).2).trans (k₄.keep b o (fun q => nb (List.mem_append.mpr (.inr q))) (I₃.kp.keep b o nb e)), o₅.os.trans (k₄.os.trans I₃.kp.os), fun g => o₅.gens ▸ k₄.gens (I₃.kp.gens g)⟩
      · exact hJ _ _ _ _ j₄ fun b o hb _ e => (o₅.same b (below b hb).2).trans e
    · obtain rfl : i = n := Nat.le_antisymm hi (Nat.not_lt.mp hlt)
      refine W.done _ _ _ hst' fun h₂ tk₂ hk₂ => ?_
      refine hRR _ _ m _ ys (I'.ns.at' fun o e => hk₂ _ o hCw e) ⟨nD, nC, hDC, ?_, let ⟨q, e⟩ := hacc'; ⟨q, hk₂ _ _ hDw e⟩, hlen, hJ _ _ _ _ hj fun b o _ hbw e => hk₂ b o hbw e, ⟨m, I'.ns.at' fun o e => hk₂ _ o hCw e⟩⟩
      exact ⟨fun b o nb e => hk₂ b o (fun q => nb (List.mem_append.mpr (.inl q))) (I'.kp.keep b o nb e), I'.kp.os, I'.kp.gens⟩
  exact codeAny_compStart_list (loop _ rfl) (W.self 0 _ _ _ hst₁ (loop _ rfl))

/-- the source of a comprehension, and what its turns and its end ask -/
def CompSrc (prog : Program) (w : World) (A : Around) (env : Env) (elt : Expr) (x : Str) (scope : Scope) (cl : List (Str × Addr)) (Fin : Addr → Addr → List Value → Shared → Prop) (it : Value) (s₂ : Shared) : Prop :=
  ∃ I fp wr n P St T J, it = .ref I ∧ Walks prog w A I fp wr n P St ∧ n < 1000 ∧ St 0 s₂.heap ∧ (∀ b ∈ fp, b < s₂.heap.objs.size) ∧ (∀ b ∈ T, b ∉ fp) ∧ (∀ b ∈ T, b < s₂.heap.objs.size) ∧ J 0 [] s₂ ∧
    (∀ i ys (s s' : Shared), J i ys s → (∀ b o, b < s₂.heap.objs.size → b ∉ wr → s.heap.get? b = some o → s'.heap.get? b = some o) → J i ys s') ∧
    (∀ C i v s m ys, i < n → P i v → Loc s₂ (wr ++ T) C m s → m x = some v → ys.length = i → J i ys s →
      wpAny (model prog w) A (eval elt (compEnvC scope cl C env)) (fun y s' => Kp T s s' ∧ J (i + 1) (ys ++ [y]) s') (fun _ _ => False) s) ∧
    (∀ D C s' ys, CompEnd s₂ (wr ++ T) n J C D ys s' → Fin C D ys s')

theorem compE {elt iter : Expr} {x : Str} {px : Pos} {scope : Scope} {cl : List (Str × Addr)} {pos : Pos} {Q : Value → Shared → Prop}
    (h : wpAny (model prog w) A (eval iter env) (fun xv s₁ => wpAny (model prog w) A (pyIter xv) (CompSrc prog w A env elt x scope cl fun C D ys s' => ∀ s'', Kp [C] s' s'' → Q (.ref D) s'') E s₁) E s)
    (hclos : closureFor scope env = pure cl := by rfl) (hcell : ∀ y ∈ scope.names, y.2 ≠ .cell := by decide) (hkind : scope.kind = .function := by rfl)
    (hnames : ∀ y ∈ scope.names, y.2 = .local → scope.names.lookup y.1 = some .local := by decide) (hx : scope.names.lookup x = some .local := by rfl)
    (hs : ∀ x, foldedSetIterable iter env x = pure x := by intro _; rfl) :
    wpAny (model prog w) A (eval (.ListComp elt [⟨.Name x px, iter, [], 0⟩] scope pos) env) Q E s := by
  rw [eval_ListComp]
  refine wpAny_comprehension_free (use := none) rfl hs hclos hkind hnames (wpAny_mono h (fun xv s₁ h₁ => wpAny_mono h₁ (fun it s₂ h₂ => ?_) fun _ _ e => e) fun _ _ e => e)
  obtain ⟨I, fp, wr, n, P, St, T, J, rfl, W, hsz, hst, hfp, hTf, hT, hJ0, hJ, turn, fin⟩ := h₂
  refine comp_block (RR := fun acc C => compPost (model prog w) A E none Q acc C) W hsz J hcell hkind hx hst hfp hTf hT hJ0 hJ turn ?_
  intro D C m s' ys hn ce
  exact ⟨m, hn, fun h'' hs'' => fin D C s' ys ce _ ⟨fun b o nb e => hs''.extBut b o (fun q => nb (List.mem_singleton.mpr q)) e, rfl, id⟩⟩

theorem compA {elt iter : Expr} {x y : Str} {px py : Pos} {scope : Scope} {cl : List (Str × Addr)} {pos spos : Pos} {rest : List Stmt} {Q : Flow → Shared → Prop}
    (h : wpAny (model prog w) A (eval iter env) (fun xv s₁ => wpAny (model prog w) A (pyIter xv) (CompSrc prog w A env elt x scope cl fun C D ys s' =>
      wpAny (model prog w) A (storeName env y (.ref D)) (fun _ s'' => (∀ m, s'.heap.Ns C m → s''.heap.Ns C m) ∧ ∀ s''', Kp [C] s'' s''' → wpAny (model prog w) A (execs rest env) Q E s''') E s') E s₁) E s)
    (hsw : swapsWith (.ListComp elt [⟨.Name x px, iter, [], 0⟩] scope pos) (some (.Name y py)) spos.line env = pure true := by with_unfolding_all rfl)
    (hclos : closureFor scope env = pure cl := by rfl) (hcell : ∀ y ∈ scope.names, y.2 ≠ .cell := by decide) (hkind : scope.kind = .function := by rfl)
    (hnames : ∀ y ∈ scope.names, y.2 = .local → scope.names.lookup y.1 = some .local := by decide) (hx : scope.names.lookup x = some .local := by rfl)
    (hs : ∀ x, foldedSetIterable iter env x = pure x := by intro _; rfl) :
    wpAny (model prog w) A (execs (.Assign [.Name y py] (.ListComp elt [⟨.Name x px, iter, [], 0⟩] scope pos) spos :: rest) env) Q E s := by
  refine wpAny_execs_cons ?_
  rw [exec_Assign_Name_used _ _ _ _ hsw]
  refine wpAny_bind (wpAny_standAt (wpAny_bind ?_))
  show wpAny _ A (do let _ ← comprehension (.ListComp elt [⟨.Name x px, iter, [], 0⟩] scope pos) scope env _ (newList []) false (eval iter env) (some (assign (.Name y py) env))) _ _ s
  refine wpAny_bind (wpAny_mono (wpAny_comprehension_free (use := some (assign (.Name y py) env)) (Q := fun _ s' => wpAny (model prog w) A (execs rest env) Q E s') rfl hs hclos hkind hnames
    (wpAny_mono h (fun xv s₁ h₁ => wpAny_mono h₁ (fun it s₂ h₂ => ?_) fun _ _ e => e) fun _ _ e => e)) (fun _ s' hq => wpAny_pure (wpAny_pure hq)) fun _ _ e => e)
  obtain ⟨I, fp, wr, n, P, St, T, J, rfl, W, hsz, hst, hfp, hTf, hT, hJ0, hJ, turn, fin⟩ := h₂
  refine comp_block (RR := fun acc C => compPost (model prog w) A E (some (assign (.Name y py) env)) (fun _ s' => wpAny (model prog w) A (execs rest env) Q E s') acc C) W hsz J hcell hkind hx hst hfp hTf hT hJ0 hJ turn ?_
  intro D C m s' ys hn ce
  show wpAny _ A (assign (.Name y py) env (.ref D)) _ _ _
  refine wpAny_assign_Name (wpAny_mono (fin D C s' ys ce) (fun _ s'' h'' => ?_) fun _ _ e => e)
  exact ⟨m, h''.1 m hn, fun h₃ hs₃ => h''.2 _ ⟨fun b o nb e => hs₃.extBut b o (fun q => nb (List.mem_singleton.mpr q)) e, rfl, id⟩⟩
end
end Mine
end
section
open PySem PySem.W PySem.Calls PyProof.Rows
set_option maxRecDepth 100000
set_option Elab.async false
set_option maxHeartbeats 4000000
set_option autoImplicit false
set_option linter.unusedVariables false
namespace Mine
section
variable {M : Model} {A : Around} {R : GenEnd} {Y : Protocol} {n : Nat} {s₀ : Shared} {c : Code} {fs : List Frame} {s : Shared} {env : Env}
  {K : Flow → Sem Fin} {H : Value → Sem Fin} {gd : Bool → Bool} {lv : List Value → List Value}
/-- a for statement inside a generator -/
theorem seg_For {target iter : Expr} {body orelse : List Stmt} {pos : Pos}
    (h : wpAny M (A.over c fs) (eval iter env) (fun x s₁ => wpAny M (A.over c fs) (pyIter x) (fun it s₂ => ∀ p, Seg M A R Y n s₀ (.forLoop target it body orelse env) (M.den (.forLoop target it body orelse env))
      (.ret (fun r => ((match r with | .ok f => (.pure f : Sem Flow) | .error e => .raise e).onRaise fun (x : Value) => do
        if (← field x 1) == Value.none then unsupported "frame.own-activation:exception-without-traceback"
        setFlight x env.frame).wrap K H gd lv) none (gd false) (lv []) c p [] :: fs) s₂) (fun _ _ => False) s₁) (fun _ _ => False) s)
    (hs : ∀ x, foldedSetIterable iter env x = pure x := by intro _; rfl) :
    Seg M A R Y n s₀ c ((exec (.For target iter body orelse pos) env).wrap K H gd lv) fs s := by
  rw [exec_For]
  refine seg_bind_wrap (wpAny_standAt ?_)
  refine seg_bind_wrap (wpAny_mono h (fun x s₁ h₁ => ?_) fun _ _ e => e.elim)
  refine seg_bind_wrap (wpAny_of_eq (hs x) ?_)
  refine seg_bind_wrap (wpAny_standAt ?_)
  refine seg_bind_wrap (wpAny_holding (wpAny_mono h₁ (fun it s₂ h₂ => ?_) fun _ _ e => e.elim))
  exact seg_call h₂
end
section
variable {prog : Program} {w : World} {A : Around} {R : GenEnd} {Y : Protocol} {n : Nat} {s₀ : Shared} {fs : List Frame} {s : Shared} {env : Env}
/-- one turn of it -/
theorem seg_forTurn {x : Str} {px : Pos} {it : Value} {body orelse : List Stmt}
    (h : wpAny (model prog w) (A.over (.forLoop (.Name x px) it body orelse env) fs) (pyNext it) (fun r s₁ => ∃ v, r = some v ∧
      wpAny (model prog w) (A.over (.forLoop (.Name x px) it body orelse env) fs) (storeName env x v) (fun _ s₂ =>
        Seg (model prog w) A R Y n s₀ (.forLoop (.Name x px) it body orelse env) ((execs body env).wrap (fun f => match f with
            | .next | .cont => .pure (.again (.forLoop (.Name x px) it body orelse env))
            | .brk => .pure (.done .next)
            | .ret v => .pure (.done (.ret v))) (fun e => (do noteFrame e env; theTreesLotGoes e : Sem Unit).wrap (fun _ => .raise e) .raise id id) id id) fs s₂) (fun _ _ => False) s₁) (fun _ _ => False) s) :
    Seg (model prog w) A R Y n s₀ (.forLoop (.Name x px) it body orelse env) ((model prog w).den (.forLoop (.Name x px) it body orelse env)) fs s := by
  show Seg _ A R Y n s₀ _ ((forTurn (.Name x px) it body orelse env).onRaise (fun x => do noteFrame x env; theTreesLotGoes x)) fs s
  unfold forTurn
  rw [Sem.onRaise_eq_wrap]
  refine seg_bind_wrap (wpAny_standAt ?_)
  refine seg_bind_wrap (wpAny_onRaise (wpAny_mono h (fun r s₁ h₁ => ?_) fun _ _ e => e.elim))
  obtain ⟨v, rfl, h₁⟩ := h₁
  dsimp only
  refine seg_bind_wrap (wpAny_of_eq (rfl : letOwnedTupleGo (.Name x px) it v = pure ()) ?_)
  refine seg_bind_wrap (wpAny_assign_Name (wpAny_mono h₁ (fun _ s₂ h₂ => ?_) fun _ _ e => e.elim))
  rw [Sem.bind_eq_wrap', Sem.wrap_wrap]
  rw [Sem.wrap_congr (execs body env) _ _ (K' := fun f => match f with
            | .next | .cont => .pure (.again (.forLoop (.Name x px) it body orelse env))
            | .brk => .pure (.done .next)
            | .ret v => .pure (.done (.ret v))) (H' := (fun e => (do noteFrame e env; theTreesLotGoes e : Sem Unit).wrap (fun _ => .raise e) .raise id id))
        (fun f => by cases f <;> rfl)
        (fun e => by first | exact Sem.bind_eq_wrap _ _ | (show (do noteFrame e env; theTreesLotGoes e : Sem Unit).bind (fun _ => .raise e) = _; rw [Sem.bind_eq_wrap]))]
  exact h₂
end

/-- what the generator's frame at rest needs of the heap -/
structure GIs (mg : Str → Option Value) (L it gl : Addr) (vs : List Value) (i : Nat) (h : Heap) : Prop where
  ns : ∃ m, h.Ns L m
  it : h.IsListIter it gl i
  gl : h.IsList gl vs.toArray
  g : h.Ns mainGlobals mg
theorem GIs.keep {mg : Str → Option Value} {L it gl : Addr} {vs : List Value} {i : Nat} {h h' : Heap} (x : GIs mg L it gl vs i h) (k : ∀ b ∈ [L, it, gl, mainGlobals], ∀ o, h.get? b = some o → h'.get? b = some o) : GIs mg L it gl vs i h' :=
  ⟨let ⟨m, e⟩ := x.ns; ⟨m, e.at' fun o e => k _ (by simp) o e⟩, let ⟨o, e, r⟩ := x.it; ⟨o, k _ (by simp) o e, r⟩, let ⟨o, e, r⟩ := x.gl; ⟨o, k _ (by simp) o e, r⟩, x.g.at' fun o e => k _ (by simp) o e⟩

/-- the frame L and what stands from B on may have turned -/
def GSince (L B : Addr) (s₀ s : Shared) : Prop := ∃ h' tk, s = { s₀ with heap := h', toks := tk } ∧ ∀ b o, b ≠ L → b < B → s₀.heap.get? b = some o → h'.get? b = some o
theorem GSince.refl (L B : Addr) (s : Shared) : GSince L B s s := ⟨s.heap, s.toks, rfl, fun _ _ _ _ e => e⟩
theorem GSince.step {L B : Addr} {s₀ s : Shared} (x : GSince L B s₀ s) {h' : Heap} {tk : Nat} (hk : ∀ b o, b ≠ L → b < B → s.heap.get? b = some o → h'.get? b = some o) : GSince L B s₀ { s with heap := h', toks := tk } := by
  obtain ⟨h₁, tk₁, rfl, hk₁⟩ := x
  exact ⟨h', tk, rfl, fun b o hC hw e => hk b o hC hw (hk₁ b o hC hw e)⟩
/-- the yields: each gives a, and touches the frame and what is new alone -/
def giY (L gl B : Addr) (a : Int) : Protocol := fun _ s₀ v s kap => (∃ t, v = .int a t) ∧ GSince L B s₀ s ∧ ∃ it, B ≤ it ∧ ∀ s'' : Shared, B ≤ s''.heap.objs.size → (∀ b ∈ [L, it, gl, mainGlobals], ∀ o, s.heap.get? b = some o → s''.heap.get? b = some o) → kap (.send .none) s''
def giP (L B : Addr) (n : Nat) (s₀ s₁ : Shared) : Prop := n = 0 ∧ GSince L B s₀ s₁
abbrev giR (L B : Addr) : GenEnd := fun n s₀ r s₁ => r = .ok (.ret .none) ∧ giP L B n s₀ s₁

section
variable {prog : Program} {w : World} {A : Around} {mg : Str → Option Value} {L it gl B f : Addr} {cdv : Value} {a : Nat} {r : Nat} {vs : List Value} {pp : Pos}
abbrev giBody : List Stmt := match (dGI.2.1[1]? : Option Stmt) with | some (.For _ _ b _ _) => b | _ => []
abbrev giPx : Pos := match (dGI.2.1[1]? : Option Stmt) with | some (.For (.Name _ p) _ _ _ _) => p | _ => default
abbrev giEnv (L f : Addr) (cdv : Value) : Env := envX "_grouping_intervals" dGI.2.2 L f cdv []

/-- the loop over the row of sizes -/
theorem gi_loop (ha : 0 < a) (ha2 : a ≤ 10) (hv : ∀ i, i < r → ∃ t, vs[i]? = some (.int a t)) (hr : ∃ t, vs[r]? = some (.int 127 t)) (hcm : ∃ t, mg "CHAR_MAX" = some (.int 127 t)) (hB : B ≤ it) (hne : L ≠ it ∧ L ≠ gl ∧ L ≠ mainGlobals ∧ it ≠ gl ∧ it ≠ mainGlobals)
    (k₀ : Result → Sem Fin) (c₀ : Code) (hk₀ : ∀ s₀ s, GSince L B s₀ s → Seg (model prog w) A (giR L B) (giY L gl B a) 0 s₀ c₀ (k₀ (.ok (.ret .none))) [] s) :
    ∀ (k i : Nat) (s₀ s : Shared), r - i = k → i ≤ r → GIs mg L it gl vs i s.heap → GSince L B s₀ s →
      Seg (model prog w) A (giR L B) (giY L gl B a) k s₀ (.forLoop (.Name "interval" giPx) (.ref it) giBody [] (giEnv L f cdv))
        ((model prog w).den (.forLoop (.Name "interval" giPx) (.ref it) giBody [] (giEnv L f cdv))) [.ret k₀ none false [] c₀ pp []] s := by
  intro k
  induction k with
  | zero =>
    intro i s₀ s hk hi G S
    have : i = r := by omega
    subst this
    obtain ⟨t, hr⟩ := hr
    obtain ⟨tc, hcm⟩ := hcm
    refine seg_forTurn (wpAny_pyNext_list_item G.it G.gl (x := .int 127 t) (by simpa using hr) fun h' hit' hs' => ⟨_, rfl, ?_⟩)
    obtain ⟨m, ns⟩ := G.ns
    have ns' := ns.sameBut hs' hne.1
    refine wpAny_storeName_local rfl ns' (fun h₂ hn₂ hs₂ => ?_) rfl
    have g₂ : h₂.Ns mainGlobals mg := (G.g.sameBut hs' hne.2.2.2.2.symm).sameBut hs₂ hne.2.2.1.symm
    refine seg_execs_cons ?_
    refine seg_wrap (wpAny_If (wpAny_isTrue_Compare1 (ldL hn₂ (if_pos rfl) (ldG (mg := mg) g₂ hcm (PyProof.Rows.eq_int (wpAny_truthy_bool ?_))))))
    rw [show ((127 : Int) == 127) = true from rfl]
    refine wpAny_execs_cons (wpAny_Return_none ?_)
    exact seg_leaf (.ok (.ret .none)) (hk₀ _ _ (S.step fun b o hb hw e => hs₂.extBut b o hb (hs'.extBut b o (Nat.ne_of_lt (Nat.lt_of_lt_of_le hw hB)) e)))
  | succ k ih =>
    intro i s₀ s hk hi G S
    have hlt : i < r := by omega
    obtain ⟨t, hv'⟩ := hv i hlt
    obtain ⟨tc, hcm'⟩ := hcm
    refine seg_forTurn (wpAny_pyNext_list_item G.it G.gl (x := .int a t) (by simpa using hv') fun h' hit' hs' => ⟨_, rfl, ?_⟩)
    obtain ⟨m, ns⟩ := G.ns
    have ns' := ns.sameBut hs' hne.1
    refine wpAny_storeName_local rfl ns' (fun h₂ hn₂ hs₂ => ?_) rfl
    have g₂ : h₂.Ns mainGlobals mg := (G.g.sameBut hs' hne.2.2.2.2.symm).sameBut hs₂ hne.2.2.1.symm
    refine seg_execs_cons ?_
    refine seg_wrap (wpAny_If (wpAny_isTrue_Compare1 (ldL hn₂ (if_pos rfl) (ldG (mg := mg) g₂ hcm' (PyProof.Rows.eq_int (wpAny_truthy_bool ?_))))))
    rw [show ((a : Int) == 127) = false from by rw [beq_eq_false_iff_ne]; omega]
    refine wpAny_execs_nil ?_
    refine seg_execs_cons ?_
    refine seg_wrap (wpAny_If (wpAny_isTrue_Compare1 (ldL hn₂ (if_pos rfl) (wpAny_Constant_int (PyProof.Rows.eq_int (wpAny_truthy_bool ?_))))))
    rw [show ((a : Int) == 0) = false from by rw [beq_eq_false_iff_ne]; omega]
    refine wpAny_execs_nil ?_
    refine seg_execs_cons ?_
    have gl₂ : h₂.IsList gl vs.toArray := (G.gl.extBut hs'.extBut hne.2.2.2.1.symm).extBut hs₂.extBut hne.2.1.symm
    have it₂ : h₂.IsListIter it gl (i + 1) := hit'.at fun o e => hs₂.extBut _ o hne.1.symm e
    refine seg_Expr_Yield rfl rfl rfl (ldL hn₂ (if_pos rfl) fun kap hkap => ⟨⟨_, rfl⟩, (S.step fun b o hb hw e => hs₂.extBut b o hb (hs'.extBut b o (Nat.ne_of_lt (Nat.lt_of_lt_of_le hw hB)) e)), it, hB, fun s'' _ hal => hkap .none s'' ?_⟩)
    have G' : GIs mg L it gl vs (i + 1) s''.heap := GIs.keep ⟨⟨_, hn₂⟩, it₂, gl₂, g₂⟩ hal
    have n'' := hn₂.at' fun o e => hal L (by simp) o e
    refine seg_execs_cons ?_
    refine seg_wrap (wpAny_Assign_Name (ldL n'' (if_pos rfl) (wpAny_storeName_local rfl n'' (fun h₃ hn₃ hs₃ => ?_) rfl)) rfl)
    refine seg_execs_nil ?_
    refine seg_again rfl (ih (i + 1) s'' _ (by omega) hlt ?_ ((GSince.refl _ _ _).step fun b o hb _ e => hs₃.extBut b o hb e))
    exact ⟨⟨_, hn₃⟩, G'.it.at fun o e => hs₃.extBut _ o hne.1.symm e, G'.gl.extBut hs₃.extBut hne.2.1.symm, G'.g.sameBut hs₃ hne.2.2.1.symm⟩

/-- the generator, j yields behind -/
structure GAt (prog : Program) (w : World) (A : Around) (x : Addr) (g : Nat) (L gl B : Addr) (a r j : Nat) (s : Shared) : Prop where
  gen : s.heap.IsGen x g
  ex : ∃ gs, s.gens[g]? = some gs ∧ ∃ it, B ≤ it ∧ ∀ s'' : Shared, B ≤ s''.heap.objs.size → (∀ b ∈ [L, it, gl, mainGlobals], ∀ o, s.heap.get? b = some o → s''.heap.get? b = some o) →
    gs.Goes (model prog w) A.in1 (giR L B) (giY L gl B a) (r - j) (.send .none) s''
theorem GAt.frame {s s' : Shared} {x : Addr} {g j : Nat} {T : List Addr} (G : GAt prog w A x g L gl B a r j s) (hg : s'.gens = s.gens) (hk : ∀ b o, b ∉ T → s.heap.get? b = some o → s'.heap.get? b = some o) (hT : ∀ b ∈ T, b < B) (hL : L ∉ T) (hgl : gl ∉ T) (hm : mainGlobals ∉ T) (hx : x ∉ T) : GAt prog w A x g L gl B a r j s' := by
  obtain ⟨o, nm, qn, ho, r'⟩ := G.gen
  obtain ⟨gs, e, it, hB, go⟩ := G.ex
  refine ⟨⟨o, nm, qn, hk _ _ hx ho, r'⟩, gs, hg ▸ e, it, hB, fun s'' hz hal => go s'' hz fun b hb o e => hal b hb o (hk b o (fun q => ?_) e)⟩
  simp only [List.mem_cons, List.not_mem_nil, or_false] at hb
  rcases hb with rfl | rfl | rfl | rfl
  · exact hL q
  · exact absurd (hT _ q) (Nat.not_lt.mpr hB)
  · exact hgl q
  · exact hm q
theorem gi_next {s : Shared} {x : Addr} {g j : Nat} {E : Value → Shared → Prop} {Q : Option Value → Shared → Prop} (hh : A.handled = none) (hl : s.heap.NoLimit) (hroom : A.depth < recursionLimit) (G : GAt prog w A x g L gl B a r j s) (hj : j < r) (hxL : x ≠ L) (hxB : @Eq Nat B (x + 1))
    (h : ∀ s' t, GAt prog w A x g L gl B a r (j + 1) s' → (∀ b o, b ≠ L → b < B → s.heap.get? b = some o → s'.heap.get? b = some o) → GenOnly g s.gens s'.gens → s'.os = s.os → Q (some (.int a t)) s') :
    wpAny (model prog w) A (pyNext (.ref x)) Q E s := by
  obtain ⟨gs, hgs, it, hB, go⟩ := G.ex
  obtain ⟨m, hm⟩ : ∃ m, r - j = m + 1 := ⟨r - j - 1, by omega⟩
  rw [hm] at go
  refine wpAny_pyNext_gen (P := giP L B) hh hl hroom G.gen hgs (go _ (let ⟨o, nm, qn, ho, _⟩ := G.gen; hxB ▸ Heap.lt_size ho) fun _ _ _ e => e) (fun v s₁ gs' hv => ?_) fun s₁ hp => absurd hp.1 (Nat.succ_ne_zero m)
  obtain ⟨⟨t, rfl⟩, ⟨h₁, tk₁, rfl, hk₁⟩, it', hB', hkap⟩ := hv
  refine h _ t ⟨let ⟨o, nm, qn, ho, r'⟩ := G.gen; ⟨o, nm, qn, hk₁ x o hxL (by rw [hxB]; exact Nat.lt_succ_self _) ho, r'⟩, gs', setGen_self (gs := .running) (setGen_self hgs), it', hB', fun s'' hz hal => ?_⟩ hk₁ ((GenOnly.setGen s g .running).trans (GenOnly.setGen _ g gs')) rfl
  rw [show r - (j + 1) = m from by omega]
  exact hkap s'' hz hal
theorem gi_done {s : Shared} {x : Addr} {g : Nat} {E : Value → Shared → Prop} {Q : Option Value → Shared → Prop} (hh : A.handled = none) (hl : s.heap.NoLimit) (hroom : A.depth < recursionLimit) (G : GAt prog w A x g L gl B a r r s) (hxL : x ≠ L) (hxB : @Eq Nat B (x + 1))
    (h : ∀ s', (∀ b o, b ≠ L → b < B → s.heap.get? b = some o → s'.heap.get? b = some o) → GenOnly g s.gens s'.gens → s'.gens[g]? = some .finished → s'.os = s.os → Q none s') :
    wpAny (model prog w) A (pyNext (.ref x)) Q E s := by
  obtain ⟨gs, hgs, it, hB, go⟩ := G.ex
  rw [Nat.sub_self] at go
  refine wpAny_pyNext_gen (P := giP L B) hh hl hroom G.gen hgs (go _ (let ⟨o, nm, qn, ho, _⟩ := G.gen; hxB ▸ Heap.lt_size ho) fun _ _ _ e => e) (fun v s₁ gs' hv => ?_) fun s₁ hp h' hk => ?_
  · obtain ⟨_, ⟨h₁, tk₁, rfl, hk₁⟩, it', _, hkap⟩ := hv
    obtain ⟨o, nm, qn, ho, _⟩ := G.gen
    exact False.elim (hkap _ (hxB ▸ Heap.lt_size (hk₁ x o hxL (by rw [hxB]; exact Nat.lt_succ_self _) ho)) fun _ _ _ e => e)
  · obtain ⟨_, h₁, tk₁, rfl, hk₁⟩ := hp
    exact h _ (fun b o hb hB e => hk b o (hk₁ b o hb hB e)) ((GenOnly.setGen s g .running).trans (GenOnly.setGen _ g .finished)) (setGen_self (gs := .running) (setGen_self hgs)) rfl

/-- the call makes the generator -/
theorem gi_call {G₀ : Heap} {mb : Str → Option Value} {d : Ads} {s : Shared} {n : Nat} {RR : Result → Shared → Prop} (sg : Sg G₀ mg mb d) (hG : ∀ b o, G₀.get? b = some o → s.heap.get? b = some o) (hr' : Rm (n + 3) A)
    (hgl : s.heap.IsList gl vs.toArray) (ha : 0 < a) (ha2 : a ≤ 10) (hv : ∀ i, i < r → ∃ t, vs[i]? = some (.int a t)) (hr : ∃ t, vs[r]? = some (.int 127 t))
    (h : ∀ s' x L B, Kp [] s s' → s.heap.get? x = none → s.heap.get? L = none → x ≠ L → @Eq Nat B (x + 1) → @LE.le Nat _ s.heap.objs.size B → @LT.lt Nat _ L B → s'.gens.size = s.gens.size + 1 → (∀ i, i < s.gens.size → s'.gens[i]? = s.gens[i]?) →
      (∀ A' : Around, A'.handled = none → GAt prog w A' x s.gens.size L gl B a r 0 s') → RR (.ok (.ret (.ref x))) s') :
    codeAny (model prog w) A (.call (.ref d.fGI) ⟨[.ref gl], []⟩) RR s := by
  obtain ⟨o, doc, pm, an, ct, h1, h2, h3⟩ := sg.GI.keeps hG
  refine codeAny_call_generator (body := dGI.2.1) hr'.room h1 h2 rfl rfl rfl h3 ?_
  refine wpAny_of_eq (a := ([("grouping", .ref gl)] : List (Str × Value))) rfl ?_
  refine wpAny_newFunctionEnv (scope := dGI.2.2) (by decide) (locs rfl) (fun h₁ hns hsb => ⟨?_, ?_⟩) rfl
  · exact (sg.glo.lim.keeps hG).fresh _ hsb
  have hk₁ : ∀ b o, s.heap.get? b = some o → h₁.get? b = some o := fun b o e => hsb.extBut b o (Nat.ne_of_lt (Heap.lt_size e)) (Heap.get?_push_of_some _ e)
  have hsz : h₁.objs.size = s.heap.objs.size + 1 := by rw [hsb.1, Heap.size_push]
  have hgl_lt : gl < s.heap.objs.size := let ⟨o, e, _⟩ := hgl; Heap.lt_size e
  have hmg_lt : mainGlobals < s.heap.objs.size := let ⟨o, _, _, e, _⟩ := sg.glo.g; Heap.lt_size (hG _ _ e)
  have nL : s.heap.get? s.heap.objs.size = none := Heap.get?_none_of_le (Nat.le_refl _)
  refine h _ h₁.objs.size s.heap.objs.size (h₁.objs.size + 1) ⟨fun b o _ e => Heap.get?_push_of_some _ (hk₁ b o e), rfl, fun g => AllBare.push g rfl⟩ (Heap.get?_none_of_le (by rw [hsz]; exact Nat.le_succ _)) nL (by rw [hsz]; exact Nat.succ_ne_self _) rfl (by rw [hsz]; exact Nat.le_add_right _ 2) (by rw [hsz]; exact Nat.lt_succ_of_lt (Nat.lt_succ_self _)) (Array.size_push ..) (fun i hi => by
      show (s.gens.push _)[i]? = _
      rw [Array.getElem?_push_lt hi, Array.getElem?_eq_getElem hi]) fun A' hA' => ?_
  refine ⟨⟨_, _, _, Heap.get?_push_size _ rfl, rfl, rfl, rfl⟩, _, Array.getElem?_push_size .., h₁.objs.size + 1, Nat.le_refl _, fun s'' hz hal => ⟨rfl, ?_⟩⟩
  have hns'' : s''.heap.Ns s.heap.objs.size _ := (hns.push _).at' fun o e => hal _ (by simp) o e
  have gl'' : s''.heap.IsList gl vs.toArray := let ⟨o, e, q⟩ := hgl; ⟨o, hal _ (by simp) o (Heap.get?_push_of_some _ (hk₁ _ _ e)), q⟩
  have g'' : s''.heap.Ns mainGlobals mg := (sg.glo.keeps fun b o e => Heap.get?_push_of_some _ (hk₁ b o (hG b o e))).g.at' fun o e => hal _ (by simp) o e
  refine seg_func (seg_execs_cons (seg_wrap (wpAny_Assign_Name (wpAny_Constant_none (wpAny_storeName_local rfl hns'' (fun h₂ hn₂ hs₂ => ?_) rfl)) rfl)))
  have gl₂ : h₂.IsList gl vs.toArray := gl''.extBut hs₂.extBut (Nat.ne_of_lt hgl_lt)
  refine seg_execs_cons (seg_For (ldL hn₂ rfl (wpAny_pyIter_list gl₂ fun p => ?_)))
  have sz2 : h₂.objs.size = s''.heap.objs.size := hs₂.1
  have hB2 : h₁.objs.size + 1 ≤ h₂.objs.size := by rw [sz2]; exact hz
  have hL2 : s.heap.objs.size < h₂.objs.size := by omega
  refine gi_loop (mg := mg) (L := s.heap.objs.size) (it := h₂.objs.size) (gl := gl) (B := h₁.objs.size + 1) (r := r) (vs := vs) ha ha2 hv hr sg.mCM hB2 ⟨Nat.ne_of_lt hL2, (Nat.ne_of_lt hgl_lt).symm, (Nat.ne_of_lt hmg_lt).symm, (Nat.ne_of_lt (Nat.lt_trans hgl_lt hL2)).symm, (Nat.ne_of_lt (Nat.lt_trans hmg_lt hL2)).symm⟩ _ _ (fun s₀ s₁ S => ?_) r 0 s'' _ rfl (Nat.zero_le _) ?_ ?_
  · exact seg_end (.ok (.ret .none)) ⟨rfl, rfl, S⟩
  · exact ⟨⟨_, hn₂.push _⟩, ⟨_, Heap.get?_push_size _ rfl, rfl, rfl⟩, gl₂.push _, (g''.sameBut hs₂ (Nat.ne_of_lt hmg_lt)).push _⟩
  · exact (GSince.refl _ _ _).step fun b o hb hB e => Heap.get?_push_of_some _ (hs₂.extBut b o hb e)
end
end Mine
end
section
open PySem PySem.W PySem.Calls PyProof.Rows
set_option maxRecDepth 100000
set_option Elab.async false
set_option maxHeartbeats 4000000
set_option autoImplicit false
set_option linter.unusedVariables false
namespace Mine
/-- a text by its signs -/
def tx (l : List Nat) : Str := ⟨l.toArray⟩
theorem tx_len (l : List Nat) : (tx l).length = l.length := by show l.toArray.size = _; simp
theorem tx_app (l m : List Nat) : tx l ++ tx m = tx (l ++ m) := by
  apply Str.ext'
  rw [Str.cps_append]
  show l.toArray ++ m.toArray = (l ++ m).toArray
  simp
theorem foldl_app (x : List Nat) : ∀ (n : Nat) (acc : Array Nat), (List.replicate n x.toArray).foldl (· ++ ·) acc = acc ++ (List.replicate n x).flatten.toArray
  | 0, acc => by simp
  | n + 1, acc => by
    rw [List.replicate_succ, List.replicate_succ, List.foldl_cons, foldl_app x n, List.flatten_cons]
    apply Array.ext'
    simp
theorem mul_tx (l : List Nat) (n : Nat) : Txt.mul (tx l) n = tx (List.replicate n l).flatten := by
  unfold Txt.mul
  by_cases h0 : (n : Int) < 1
  · have : n = 0 := by omega
    subst this
    rw [if_pos h0]
    show Str.empty = tx []
    decide +kernel
  · rw [if_neg h0]
    by_cases h1 : ((n : Int) == 1 || (tx l).length == 0) = true
    · rw [if_pos h1]
      rw [Bool.or_eq_true, beq_iff_eq, beq_iff_eq, tx_len] at h1
      rcases h1 with h1 | h1
      · have : n = 1 := by omega
        subst this
        simp
      · have : l = [] := List.length_eq_zero_iff.mp h1
        subst this
        have : (List.replicate n ([] : List Nat)).flatten = [] := by simp
        rw [this]
    · rw [if_neg h1]
      apply Str.ext'
      show (List.replicate (n : Int).toNat l.toArray).foldl (· ++ ·) #[] = (List.replicate n l).flatten.toArray
      rw [Int.toNat_natCast, foldl_app]
      simp
theorem mulOk_tx (l : List Nat) (n : Nat) (hl : l.length ≤ 2) (hn : n ≤ 100) : MulOk (tx l) n := by
  refine ⟨?_, fun h0 _ => ?_, fun _ _ => ?_⟩
  · rw [Bool.or_eq_false_iff]
    exact ⟨decide_eq_false (by omega), decide_eq_false (by omega)⟩
  · rw [tx_len]
    have : (2 : Int) ≤ (2 ^ 63 - 1) / n := by
      apply Int.le_ediv_of_mul_le (by omega)
      omega
    omega
  · rw [tx_len, Int.toNat_natCast]
    unfold Builtin.Str.tooLong
    have : l.length * n ≤ 200 := Nat.le_trans (Nat.mul_le_mul hl hn) (by decide)
    have e := sizeLine_eq
    simp
    omega
theorem bs_flat : ∀ n, (List.replicate n [92, 32]).flatten = bs n
  | 0 => rfl
  | n + 1 => by rw [List.replicate_succ, List.flatten_cons, bs_flat n]; rfl
theorem one_flat (c : Nat) : ∀ n, (List.replicate n [c]).flatten = List.replicate n c
  | 0 => rfl
  | n + 1 => by rw [List.replicate_succ, List.flatten_cons, one_flat c n, List.replicate_succ]; rfl
theorem bl_tx (n : Nat) : bl n = tx (List.replicate n 32) := by
  apply Str.ext'
  show Array.replicate n 32 = (List.replicate n 32).toArray
  simp

/-- the heights of a line -/
structure Lin (vs : List Value) (ht : Nat → Nat) : Prop where
  len : vs.length = 11
  at_ : ∀ i, i < 11 → ∃ t, vs[i]? = some (.int (ht i : Nat) t)
  le : ∀ i, i < 11 → ht i ≤ 9
  back : ht 10 = ht 0
theorem Digs.lin {vs : List Value} (h : Digs vs 11) (e : vs[10]? = vs[0]?) : ∃ ht, Lin vs ht := by
  refine ⟨fun i => match (vs[i]? : Option Value) with | some (.int z _) => z.toNat | _ => 0, h.1, fun i hi => ?_, fun i hi => ?_, ?_⟩
  · obtain ⟨z, t, q, _⟩ := h.2 i hi
    exact ⟨t, by rw [q]; simp⟩
  · obtain ⟨z, t, q, l⟩ := h.2 i hi
    rw [q]; simpa using l
  · show (match (vs[10]? : Option Value) with | some (.int z _) => z.toNat | _ => 0) = (match (vs[0]? : Option Value) with | some (.int z _) => z.toNat | _ => 0)
    rw [e]

/-- a word as it is written -/
def pc (k h : Nat) : List Nat := if 0 < h ∧ k % 2 = 1 then bs h ++ [10] else 34 :: (List.replicate h 32 ++ [34, 10])
def wri (ht : Nat → Nat) : Nat → List Nat
  | 0 => []
  | k + 1 => wri ht k ++ pc k (ht k)
theorem pc_len (k h : Nat) (hh : h ≤ 9) : (pc k h).length ≤ 20 := by
  unfold pc
  split
  · rw [List.length_append, bs_len]; simp; omega
  · simp; omega
theorem wri_len {ht : Nat → Nat} : ∀ k, (∀ i, i < k → ht i ≤ 9) → (wri ht k).length ≤ 20 * k
  | 0, _ => Nat.le_refl _
  | k + 1, h => by
    have h1 := wri_len k fun i hi => h i (by omega)
    have h2 := pc_len k (ht k) (h k (by omega))
    show (wri ht k ++ pc k (ht k)).length ≤ _
    rw [List.length_append]; omega

theorem lit_bs : ("\\ " : Str) = tx [92, 32] := by decide +kernel
theorem lit_nl : ("\n" : Str) = tx [10] := by decide +kernel
theorem lit_q : ("\"" : Str) = tx [34] := by decide +kernel
theorem lit_sp : (" " : Str) = tx [32] := by decide +kernel
theorem lit_qn : ("\"\n" : Str) = tx [34, 10] := by decide +kernel
theorem lit_e : ("" : Str) = tx [] := by decide +kernel

section
variable {prog : Program} {w : World} {A : Around} {E : Value → Shared → Prop} {s : Shared} {Q : Value → Shared → Prop} {t u : Tok}
theorem mulT {l : List Nat} {n : Nat} (hl : l.length ≤ 2) (hn : n ≤ 100) (h : ∀ t' k, Q (.str (tx (List.replicate n l).flatten) t') { s with toks := k }) : wpAny (model prog w) A (binaryOp .Mult (.str (tx l) t) (.int n u)) Q E s :=
  SB.mul (mulOk_tx l n hl hn) fun t' k => by rw [mul_tx]; exact h t' k
theorem addT {l m : List Nat} (hz : l.length + m.length < 2 ^ 20) (h : ∀ t' k, Q (.str (tx (l ++ m)) t') { s with toks := k }) : wpAny (model prog w) A (binaryOp .Add (.str (tx l) t) (.str (tx m) u)) Q E s :=
  PyProof.Rows.add_str (fun t' k => by rw [tx_app]; exact h t' k) (by rw [tx_len, tx_len, sizeLine_eq]; omega)
theorem iaddT {l m : List Nat} (hz : l.length + m.length < 2 ^ 20) (h : ∀ t' k, Q (.str (tx (l ++ m)) t') { s with toks := k }) : wpAny (model prog w) A (inplaceOp .Add (.str (tx l) t) (.str (tx m) u)) Q E s :=
  PyProof.Rows.iadd_str (fun t' k => by rw [tx_app]; exact h t' k) (by rw [tx_len, tx_len, sizeLine_eq]; omega)
theorem chvs_of {l : List Nat} {vs : List Value} (hlen : vs.length = l.length) (h : ∀ (i : Nat) v, vs[i]? = some v → ∃ c u, l[i]? = some c ∧ v = Value.str ⟨#[c]⟩ u) : ChVs vs l := by
  induction vs generalizing l with
  | nil => cases l with
    | nil => trivial
    | cons _ _ => cases hlen
  | cons v vs ih => cases l with
    | nil => cases hlen
    | cons c cs =>
      obtain ⟨c', u, e, rfl⟩ := h 0 v rfl
      cases e
      exact ⟨⟨u, rfl⟩, ih (by simpa using hlen) fun i v hv => by simpa using h (i + 1) v (by simpa using hv)⟩
/-- list(text) -/
theorem listT {l : List Nat} (hh : A.handled = none) (hz : l.length < 2 ^ 20) (h : ∀ s' r vs, s.heap.get? r = none → Kp [] s s' → LsAt s'.heap r vs → ChVs vs l → Q (.ref r) s') : wpAny (model prog w) A (call (.type "list") [.str (tx l) t]) Q E s := by
  refine call_list_str hh (tx l) t (fun h' tk acc c k e it => ?_) (by show l.toArray.size ≤ _; rw [List.size_toArray, sizeLine_eq]; omega)
  have hsz : acc.size = l.length := it.1.trans (by show l.toArray.size = _; simp)
  refine h _ _ acc.toList (Heap.get?_none_of_le (Nat.le_refl _)) ⟨fun b o _ e => k b o e, rfl, id⟩ ⟨c, by simpa using e⟩ (chvs_of (by simpa using hsz) fun i v hv => ?_)
  obtain ⟨c', u', hc, rfl⟩ := it.2 i v (by simpa using hv)
  exact ⟨c', u', by simpa [tx] using hc, rfl⟩
end

section
variable {prog : Program} {w : World} {A : Around} {G : Heap} {mg mb : Str → Option Value} {d : Ads} {s : Shared} {n : Nat} {R : Result → Shared → Prop}
theorem written_spec {ln : Addr} {vs : List Value} {ht : Nat → Nat} (sg : Sg G mg mb d) (hG : ∀ b o, G.get? b = some o → s.heap.get? b = some o) (hl : LsAt s.heap ln vs) (X : Lin vs ht) (hr : Rm (n + 3) A)
    (h : ∀ s' t, Kp [] s s' → R (.ok (.ret (.str (tx (wri ht 11)) t))) s') :
    codeAny (model prog w) A (.call (.ref d.fLW) ⟨[.ref ln], []⟩) R s := by
  refine callF (n := n + 2) (binds := [("line", .ref ln)]) (sg.LW.keeps hG) (sg.glo.lim.keeps hG) hr (fun _ _ _ _ => BindsTo.of_eq rfl) (fun L h₁ hL F₁ hr' => ?_) (by decide) (locs rfl)
  have I := Loc.start (tk := s.toks + 1) F₁
  refine setL (cStr fun t1 tk1 => stL I.tok fun s₃ I₃ sm₃ => ?_)
  have G3 : ∀ b o, G.get? b = some o → s₃.heap.get? b = some o := fun b o e => I₃.old b o (hG b o e)
  have g3 := sg.glo.keeps G3
  refine wpAny_execs_cons (wpAny_For ?_)
  refine wpAny_Call_Name_kw (ldB (mg := mg) (mb := mb) g3.g (sg.no "range" (by decide)) g3.b (g3.name boot_range (by decide)) ?_)
  refine callWith_type1 (wpAny_items_cons (wpAny_Call_Name_kw (ldB (mg := mg) (mb := mb) g3.g (sg.no "len" (by decide)) g3.b (g3.name boot_len (by decide)) ?_)))
  refine cwB (wpAny_items_cons (ldL I₃.ns rfl (wpAny_items_nil ?_)))
  refine len1 (hl.keeps I₃.old).isList (by rw [List.size_toArray, X.len]; decide) fun t5 s₅ k5 => ?_
  have I₅ := I₃.call k5
  rw [List.size_toArray, X.len]
  refine wpAny_items_nil (rangeIt (by decide) fun it s₇ n7 i7 k7 => ?_)
  have I₇ := I₅.call k7
  obtain ⟨oL, eL⟩ := ns_some I₅.ns
  have itL : L ≠ it := (ne_of_none n7 eL).symm
  have it0 : s.heap.get? it = none := I₅.kp.none n7
  refine forR (fun i s' => ∃ m t, Loc s [] L m s' ∧ m "line" = some (.ref ln) ∧ m "text" = some (.str (tx (wri ht i)) t) ∧ IsRangeIter s'.heap it (0 + i * 1) ((11 : Nat) - i) 1 ∧ i ≤ 11) 11 0 1 hr'.2.2 (fun i s' ⟨m, t, _, _, _, h6, h7⟩ => ⟨h6, h7⟩) ?turn ?fin ?start
  case start => exact ⟨_, t1, I₇, rfl, by rw [lit_e]; rfl, by simpa using i7, Nat.zero_le _⟩
  case turn =>
    rintro i s' hlt ⟨m, t, J1, J2, J3, J6, J7⟩ s'' tt hO hit
    have J1' := J1.off hO.kp it0 itL
    refine stL J1' fun s₈ I₈ sm₈ => ?_
    have hit8 : IsRangeIter s₈.heap it (0 + (i + 1 : Nat) * 1) ((11 : Nat) - (i + 1 : Nat)) 1 := (sm₈ _ itL.symm).trans hit
    have hk : (0 : Int) + i * 1 = (i : Nat) := by omega
    obtain ⟨tz, ez⟩ := X.at_ i hlt
    have hz9 := X.le i hlt
    have hlen := wri_len (ht := ht) i fun j hj => X.le j (by omega)
    have hpl := pc_len i (ht i) hz9
    have item : ∀ {E' : Value → Shared → Prop} {value slice : Expr} {Q' : Value → Shared → Prop} {u : Tok} {tk : Nat}, Q' (.int (ht i : Nat) tz) { s₈ with toks := tk } → (subscripted slice false (.ref ln) (.int i u) = operate [.ref ln, .int i u] (getItem (.ref ln) (.int i u))) →
        wpAny (model prog w) (A.deeper (envX "_law_written" dLW.2.2 L d.fLW d.cLW [])) (subscriptTail value slice (.ref ln) (.int i u)) Q' E' { s₈ with toks := tk } := fun {E' value slice Q' u tk} q hs =>
      lst_item (hl.keeps I₈.old).isList (by omega) (by omega) (by rw [Int.toNat_natCast]; simpa using ez) q hs
    have put : ∀ {tk : Nat} {u : Tok}, wpAny (model prog w) (A.deeper (envX "_law_written" dLW.2.2 L d.fLW d.cLW [])) (inplaceOp .Add (.str (tx (wri ht i)) t) (.str (tx (pc i (ht i))) u)) (fun v s₁ => wpAny (model prog w) (A.deeper (envX "_law_written" dLW.2.2 L d.fLW d.cLW [])) (storeName (envX "_law_written" dLW.2.2 L d.fLW d.cLW []) "text" v) (fun _ s₂ => ∃ m t, Loc s [] L m s₂ ∧ m "line" = some (.ref ln) ∧ m "text" = some (.str (tx (wri ht (i + 1))) t) ∧ IsRangeIter s₂.heap it (0 + (i + 1 : Nat) * 1) ((11 : Nat) - (i + 1 : Nat)) 1 ∧ i + 1 ≤ 11) (fun _ _ => False) s₁) (fun _ _ => False) { s₈ with toks := tk } := by
      intro tk u
      refine iaddT (by omega) fun t' k => ?_
      refine stL (s := { s₈ with toks := k }) I₈.tok fun s₉ I₉ sm₉ => ⟨_, t', I₉, ?_, if_pos rfl, (sm₉ _ itL.symm).trans hit8, hlt⟩
      exact (if_neg (by decide)).trans ((if_neg (by decide)).trans J2)
    refine wpAny_execs_cons (wpAny_If (wpAny_mono (Q := fun b s' => b = decide (0 < ht i ∧ i % 2 = 1) ∧ ∃ tk, s' = { s₈ with toks := tk }) ?_ (fun b s' hb => ?_) fun _ _ x => x))
    · refine isTrue_and (wpAny_isTrue_Compare1 (Subscript_ (ldL I₈.ns ((if_neg (by decide)).trans J2) (ldL I₈.ns rfl ?_))))
      rw [hk]
      refine item (tk := s₈.toks) (wpAny_Constant_int (PyProof.Rows.gt_int (wpAny_truthy_bool ?_))) (by with_unfolding_all rfl)
      by_cases h0 : 0 < ht i
      · rw [decide_eq_true (by omega : (0 : Int) < (ht i : Nat)), if_pos rfl]
        refine isTrue_and (wpAny_isTrue_Compare1 (wpAny_BinOp (ldL I₈.ns rfl ?_)))
        rw [hk]
        refine wpAny_Constant_int (mod_int' (by decide) (wpAny_Constant_int (PyProof.Rows.eq_int (wpAny_truthy_bool ?_))))
        have e2 : ((i : Int).fmod 2 == 1) = decide (i % 2 = 1) := by
          rw [Int.fmod_eq_emod_of_nonneg _ (by decide)]
          by_cases q : i % 2 = 1
          · rw [decide_eq_true q, beq_iff_eq]; omega
          · rw [decide_eq_false q, beq_eq_false_iff_ne]; omega
        rw [e2]
        by_cases q : i % 2 = 1
        · rw [decide_eq_true q, if_pos rfl]
          exact isTrue_and_nil ⟨(decide_eq_true ⟨h0, q⟩).symm, _, rfl⟩
        · rw [decide_eq_false q, if_neg Bool.false_ne_true]
          exact ⟨(decide_eq_false fun z => q z.2).symm, _, rfl⟩
      · rw [decide_eq_false (by omega : ¬ (0 : Int) < (ht i : Nat)), if_neg Bool.false_ne_true]
        exact ⟨(decide_eq_false fun z => h0 z.1).symm, _, rfl⟩
    · obtain ⟨rfl, tk, rfl⟩ := hb
      have hpc : pc i (ht i) = if 0 < ht i ∧ i % 2 = 1 then bs (ht i) ++ [10] else 34 :: (List.replicate (ht i) 32 ++ [34, 10]) := rfl
      by_cases hyes : 0 < ht i ∧ i % 2 = 1
      · rw [decide_eq_true hyes]
        rw [if_pos hyes] at hpc
        refine wpAny_execs_cons (wpAny_AugAssign_Name ?_)
        refine wpAny_loadName_local rfl rfl I₈.ns ((if_neg (by decide)).trans J3) ?_
        refine wpAny_BinOp (wpAny_BinOp (cStr fun _ _ => Subscript_ (ldL I₈.ns ((if_neg (by decide)).trans J2) (ldL I₈.ns rfl ?_))))
        rw [hk]
        refine item ?_ (by with_unfolding_all rfl)
        rw [lit_bs]
        refine mulT (by decide) (by omega) fun _ _ => cStr fun _ _ => ?_
        rw [bs_flat, lit_nl]
        refine addT (by simp [bs_len]; omega) fun _ _ => ?_
        rw [← hpc]
        refine wpAny_mono put (fun v s₁ q => wpAny_mono q (fun _ s₂ q => wpAny_execs_nil (wpAny_execs_nil q)) fun _ _ x => x) fun _ _ x => x
      · rw [decide_eq_false hyes]
        rw [if_neg hyes] at hpc
        refine wpAny_execs_cons (wpAny_AugAssign_Name ?_)
        refine wpAny_loadName_local rfl rfl I₈.ns ((if_neg (by decide)).trans J3) ?_
        refine wpAny_BinOp (wpAny_BinOp (cStr fun _ _ => wpAny_BinOp (cStr fun _ _ => Subscript_ (ldL I₈.ns ((if_neg (by decide)).trans J2) (ldL I₈.ns rfl ?_)))))
        rw [hk]
        refine item ?_ (by with_unfolding_all rfl)
        rw [lit_sp, lit_q]
        refine mulT (by decide) (by omega) fun _ _ => ?_
        rw [one_flat]
        refine addT (by simp; omega) fun _ _ => cStr fun _ _ => ?_
        rw [lit_qn]
        refine addT (by simp; omega) fun _ _ => ?_
        have e1 : [34] ++ List.replicate (ht i) 32 ++ [34, 10] = pc i (ht i) := by rw [hpc]; simp
        rw [e1]
        refine wpAny_mono put (fun v s₁ q => wpAny_mono q (fun _ s₂ q => wpAny_execs_nil (wpAny_execs_nil q)) fun _ _ x => x) fun _ _ x => x
  case fin =>
    rintro s' s'' ⟨m, t, J1, J2, J3, J6, J7⟩ hk
    have I₉ := J1.off hk it0 itL
    exact wpAny_execs_nil (wpAny_execs_cons (wpAny_Return_some (ldL I₉.ns J3 (h _ _ I₉.kp))))
end
end Mine
end
section
open PySem PySem.W PySem.Calls PyProof.Rows
set_option maxRecDepth 100000
set_option Elab.async false
set_option maxHeartbeats 4000000
set_option autoImplicit false
set_option linter.unusedVariables false
namespace Mine

/-! the sort is stable: its items are their first places -/
def It (xs : Array Keyed) (i : Nat) : Int := match xs[i]? with
  | some p => numOf p.2
  | none => 0
def LexS (xs : Array Keyed) (n : Nat) : Prop := ∀ i j, i < j → j < n → K xs i < K xs j ∨ (K xs i = K xs j ∧ It xs i < It xs j)
def LexD (xs : Array Keyed) (n : Nat) : Prop := ∀ i j, i < j → j < n → K xs j < K xs i ∨ (K xs i = K xs j ∧ It xs j < It xs i)
def Rst (xs : Array Keyed) (n : Nat) : Prop := (∀ k, n ≤ k → k < xs.size → It xs k = k) ∧ ∀ i, i < n → It xs i < n
theorem It_congr {xs ys : Array Keyed} {i j : Nat} (h : xs[i]? = ys[j]?) : It xs i = It ys j := by unfold It; rw [h]
theorem It_bubble {xs : Array Keyed} {src d : Nat} (hs : src < xs.size) (hd : d ≤ src) (k : Nat) :
    It (bubble xs src d) k = if k = src - d then It xs src else if src - d < k ∧ k ≤ src then It xs (k - 1) else It xs k := by
  have e := getElem?_bubble hs d hd k
  by_cases h1 : k = src - d
  · rw [if_pos h1] at e ⊢; exact It_congr e
  · rw [if_neg h1] at e ⊢
    by_cases h2 : src - d < k ∧ k ≤ src
    · rw [if_pos h2] at e ⊢; exact It_congr e
    · rw [if_neg h2] at e ⊢; exact It_congr e
theorem It_mirror {xs : Array Keyed} {i j : Nat} (hj : j ≤ xs.size) (k : Nat) :
    It (mirror xs i j ((j - i) / 2)) k = if i ≤ k ∧ k < j then It xs (i + j - 1 - k) else It xs k := by
  have e := getElem?_mirror_all (i := i) hj k
  by_cases h1 : i ≤ k ∧ k < j
  · rw [if_pos h1] at e ⊢; exact It_congr e
  · rw [if_neg h1] at e ⊢; exact It_congr e
theorem LexS.sorted {xs : Array Keyed} {n : Nat} (h : LexS xs n) : SortedTo xs n := by
  intro i j hij hj
  rcases Nat.lt_or_eq_of_le hij with q | rfl
  · rcases h i j q hj with h | h <;> omega
  · exact Int.le_refl _
theorem LexD.inc {xs : Array Keyed} {n : Nat} (h : LexD xs n) : NonInc xs n := by
  intro i j hij hj
  rcases Nat.lt_or_eq_of_le hij with q | rfl
  · rcases h i j q hj with h | h <;> omega
  · exact Int.le_refl _
/-- the run goes on upwards, in the order of the start -/
theorem asc_lex {xs : Array Keyed} {a n : Nat} (hs : LexS xs a) (hr : Rst xs a) (h : SortedTo xs n) (han : a ≤ n) (hn : n ≤ xs.size) : LexS xs n ∧ Rst xs n := by
  have le : ∀ i j, i < j → a ≤ j → j < n → It xs i < It xs j := fun i j hij haj hj => by
    rw [hr.1 j haj (by omega)]
    by_cases q : i < a
    · have := hr.2 i q; omega
    · rw [hr.1 i (by omega) (by omega)]; omega
  refine ⟨fun i j hij hj => ?_, fun k hk hk' => hr.1 k (by omega) hk', fun i hi => ?_⟩
  · by_cases q : j < a
    · exact hs i j hij q
    · have h1 := h i j (by omega) hj
      have h2 := le i j hij (by omega) hj
      omega
  · by_cases q : i < a
    · have := hr.2 i q; omega
    · rw [hr.1 i (by omega) (by omega)]; omega
theorem Rst.mirror {xs : Array Keyed} {n i j : Nat} (hr : Rst xs n) (hj : j ≤ n) (hn : n ≤ xs.size) : Rst (mirror xs i j ((j - i) / 2)) n := by
  refine ⟨fun k hk hk' => ?_, fun k hk => ?_⟩
  · rw [mirror_size] at hk'
    rw [It_mirror (by omega), if_neg (by omega)]
    exact hr.1 k hk hk'
  · rw [It_mirror (by omega)]
    split
    · exact hr.2 _ (by omega)
    · exact hr.2 _ hk
theorem LexD.mirror {xs : Array Keyed} {n : Nat} (h : LexD xs n) (hn : n ≤ xs.size) : LexS (mirror xs 0 n ((n - 0) / 2)) n := by
  intro i j hij hj
  rw [K_mirror hn, K_mirror hn, It_mirror hn, It_mirror hn, if_pos (by omega), if_pos (by omega), if_pos (by omega), if_pos (by omega)]
  have := h (0 + n - 1 - j) (0 + n - 1 - i) (by omega) (by omega)
  omega

/-- going down, the last ones alike -/
structure DInv (xs : Array Keyed) (x q : Nat) : Prop where
  le : q + 1 ≤ x
  d : LexD xs (x - (q + 1))
  gt : ∀ i j, i < x - (q + 1) → x - (q + 1) ≤ j → j < x → K xs j < K xs i
  eq : ∀ i, x - (q + 1) ≤ i → i < x → K xs i = K xs (x - 1)
  up : ∀ i j, x - (q + 1) ≤ i → i < j → j < x → It xs i < It xs j
  r : Rst xs x
theorem DInv.flat {xs : Array Keyed} {x : Nat} (h : DInv xs x 0) : LexD xs x := by
  intro i j hij hj
  have := h.le
  by_cases q : j < x - 1
  · exact h.d i j hij q
  · exact .inl (h.gt i j (by omega) (by omega) hj)
theorem DInv.turn {xs : Array Keyed} {x q : Nat} (h : DInv xs x q) (hx : x ≤ xs.size) : LexD (mirror xs (x - (q + 1)) x ((x - (x - (q + 1))) / 2)) x := by
  have := h.le
  intro i j hij hj
  rw [K_mirror hx, K_mirror hx, It_mirror hx, It_mirror hx]
  by_cases hi : x - (q + 1) ≤ i
  · rw [if_pos (by omega), if_pos (by omega), if_pos (by omega), if_pos (by omega)]
    have e1 := h.eq (x - (q + 1) + x - 1 - i) (by omega) (by omega)
    have e2 := h.eq (x - (q + 1) + x - 1 - j) (by omega) (by omega)
    have e3 := h.up (x - (q + 1) + x - 1 - j) (x - (q + 1) + x - 1 - i) (by omega) (by omega) (by omega)
    exact .inr ⟨by rw [e1, e2], e3⟩
  · by_cases hj' : x - (q + 1) ≤ j
    · rw [if_pos (by omega), if_neg (by omega), if_pos (by omega), if_neg (by omega)]
      exact .inl (h.gt i _ (by omega) (by omega) (by omega))
    · rw [if_neg (by omega), if_neg (by omega), if_neg (by omega), if_neg (by omega)]
      exact h.d i j hij (by omega)

section
variable {prog : Program} {w : World} {A : Around} {E : Value → Shared → Prop} {s : Shared} {a₀ : Array Keyed}
theorem ltb {a b : Int} (h : a < b) : decide (a < b) = true := decide_eq_true h
theorem stDesc {st : SortSt} {n nrem : Nat} {Q : DescSt → SortSt → Prop} (h0 : IntKeys a₀) (hn : nrem ≤ a₀.size) (hnn : n ≤ nrem) (hB : SBase a₀ st) (hs : DInv (arrOf st) n 0)
    (h : ∀ m neq st', SBase a₀ st' → n ≤ m → m ≤ nrem → DInv (arrOf st') m neq → Q (none, m, neq) st') :
    wpS (model prog w) A E s (descLoop n nrem) Q st := by
  unfold descLoop
  refine wpS_forRange (I := fun x c st' => ∃ neq, c = (none, x, neq) ∧ SBase a₀ st' ∧ DInv (arrOf st') x neq) ?step ?fin ⟨0, rfl, hB, hs⟩
  case fin =>
    rintro c st' ⟨neq, rfl, hB', hs'⟩
    rw [show max n nrem = nrem by omega] at hs' ⊢
    exact h nrem neq st' hB' hnn (Nat.le_refl _) hs'
  case step =>
    rintro x c st' hax hxn ⟨neq, rfl, hB', hs'⟩
    dsimp only
    have hsz : x ≤ (arrOf st').size := by rw [hB'.size]; omega
    have hle := hs'.le
    refine wpS_bind (wpS_ltK hB' h0 (by omega) (by omega) ?_)
    by_cases hless : K (arrOf st') x < K (arrOf st') (x - 1)
    · simp only [hless, decide_true, if_true]
      have base : ∀ xs : Array Keyed, xs.size = (arrOf st').size → (∀ k, K xs k = K (arrOf st') k) → LexD xs x → Rst xs x → DInv xs (x + 1) 0 := by
        intro xs hz hk hd hr
        refine ⟨by omega, hd, fun i j hi hj1 hj2 => ?_, fun i h1 h2 => by congr 1; omega, fun i j h1 h2 h3 => by omega, fun k hk1 hk2 => hr.1 k (by omega) hk2, fun i hi => ?_⟩
        · have : j = x := by omega
          subst this
          rw [hk, hk]
          by_cases q : i < j - (neq + 1)
          · have := hs'.gt i (j - 1) q (by omega) (by omega); omega
          · rw [hs'.eq i (by omega) (by omega)]; exact hless
        · by_cases q : i < x
          · have := hr.2 i q; omega
          · have : i = x := by omega
            subst this
            rw [hr.1 i (Nat.le_refl _) (by rw [hz, hB'.size]; omega)]; omega
      by_cases hneq : neq > 0
      · rw [if_pos hneq]
        refine wpS_bind (wpS_reverse (wpS_pure ⟨0, rfl, hB'.setArr (mirror_perm _ _ _ _), ?_⟩))
        exact base _ (mirror_size _ _ _ _) (fun k => K_mirror_equal hsz hs'.eq k) (hs'.turn hsz) (hs'.r.mirror (Nat.le_refl _) hsz)
      · rw [if_neg hneq]
        have : neq = 0 := by omega
        subst this
        exact wpS_pure ⟨0, rfl, hB', base _ rfl (fun _ => rfl) hs'.flat hs'.r⟩
    · simp only [hless, decide_false, Bool.false_eq_true, if_false]
      refine wpS_bind (wpS_ltK hB' h0 (by omega) (by omega) ?_)
      by_cases hlarger : K (arrOf st') (x - 1) < K (arrOf st') x
      · simp only [hlarger, decide_true, if_true]
        exact wpS_pure (h x neq st' hB' hax (by omega) hs')
      · simp only [hlarger, decide_false, Bool.false_eq_true, if_false]
        have heqx : K (arrOf st') x = K (arrOf st') (x - 1) := by omega
        have hix : It (arrOf st') x = x := hs'.r.1 x (Nat.le_refl _) (by rw [hB'.size]; omega)
        have ez : x + 1 - (neq + 1 + 1) = x - (neq + 1) := by omega
        refine wpS_pure ⟨neq + 1, rfl, hB', ⟨by omega, by rw [ez]; exact hs'.d, fun i j h1 h2 h3 => ?_, fun i h1 h2 => ?_, fun i j h1 h2 h3 => ?_, fun k hk1 hk2 => hs'.r.1 k (by omega) hk2, fun i hi => ?_⟩⟩
        · rw [ez] at h1 h2
          by_cases q : j < x
          · exact hs'.gt i j h1 h2 q
          · have : j = x := by omega
            subst this
            rw [heqx]; exact hs'.gt i (j - 1) h1 (by omega) (by omega)
        · rw [ez] at h1
          rw [show x + 1 - 1 = x by omega]
          by_cases q : i = x
          · subst q; rfl
          · rw [heqx]; exact hs'.eq i h1 (by omega)
        · rw [ez] at h1
          by_cases q : j < x
          · exact hs'.up i j h1 h2 q
          · have : j = x := by omega
            subst this
            rw [hix]; exact hs'.r.2 i h2
        · by_cases q : i < x
          · have := hs'.r.2 i q; omega
          · have : i = x := by omega
            subst this
            rw [hix]; omega
theorem stTail {st : SortSt} {n nrem : Nat} {Q : Option Nat → SortSt → Prop} (h0 : IntKeys a₀) (hn : nrem ≤ a₀.size) (h1 : 1 ≤ n) (hnn : n ≤ nrem) (hB : SBase a₀ st)
    (hs : LexD (arrOf st) n) (hr : Rst (arrOf st) n) (h : ∀ m st', SBase a₀ st' → 1 ≤ m → m ≤ nrem → LexS (arrOf st') m → Rst (arrOf st') m → Q (some m) st') :
    wpS (model prog w) A E s (tail3 n nrem) Q st := by
  unfold tail3
  have hsz : n ≤ (arrOf st).size := by rw [hB.size]; omega
  have hS := hs.mirror hsz
  have hR : Rst (mirror (arrOf st) 0 n ((n - 0) / 2)) n := hr.mirror (Nat.le_refl _) hsz
  refine wpS_bind (wpS_reverse ?_)
  have hB' : SBase a₀ (setArr st (mirror (arrOf st) 0 n ((n - 0) / 2))) := hB.setArr (mirror_perm _ _ _ _)
  refine wpS_bind (wpS_ascLoop h0 hn h1 hnn hB' hS.sorted fun m hm1 hm2 hsm _ => ?_)
  have := asc_lex (xs := arrOf (setArr st (mirror (arrOf st) 0 n ((n - 0) / 2)))) hS hR hsm hm1 (by rw [hB'.size]; omega)
  exact wpS_pure (h m _ hB' (by omega) hm2 this.1 this.2)
theorem stDescPart {st : SortSt} {n nrem : Nat} {Q : Option Nat → SortSt → Prop} (h0 : IntKeys a₀) (hn : nrem ≤ a₀.size) (hnn : n + 1 ≤ nrem) (hB : SBase a₀ st)
    (hs : DInv (arrOf st) (n + 1) 0) (h : ∀ m st', SBase a₀ st' → 1 ≤ m → m ≤ nrem → LexS (arrOf st') m → Rst (arrOf st') m → Q (some m) st') :
    wpS (model prog w) A E s (descPart n nrem) Q st := by
  unfold descPart
  refine wpS_bind (wpS_lift (wpAny_rule ⟨rfl, ?_⟩))
  refine wpS_bind (stDesc h0 hn hnn hB hs fun m neq st' hB' hm1 hm2 hs' => ?_)
  dsimp only
  have hsz : m ≤ (arrOf st').size := by rw [hB'.size]; omega
  by_cases hneq : neq > 0
  · rw [if_pos hneq]
    exact wpS_bind (wpS_reverse (stTail h0 hn (by omega) hm2 (hB'.setArr (mirror_perm _ _ _ _)) (hs'.turn hsz) (hs'.r.mirror (Nat.le_refl _) hsz) h))
  · rw [if_neg hneq]
    have : neq = 0 := by omega
    subst this
    exact stTail h0 hn (by omega) hm2 hB' hs'.flat hs'.r h
theorem stCount {st : SortSt} {nrem : Nat} {Q : Option Nat → SortSt → Prop} (h0 : IntKeys a₀) (hn : nrem ≤ a₀.size) (h1 : 1 ≤ nrem) (hB : SBase a₀ st) (hr0 : Rst (arrOf st) 0)
    (h : ∀ m st', SBase a₀ st' → 1 ≤ m → m ≤ nrem → LexS (arrOf st') m → Rst (arrOf st') m → Q (some m) st') :
    wpS (model prog w) A E s (countRun' 0 nrem) Q st := by
  rw [countRun0_eq]
  refine wpS_bind (wpS_ascLoop h0 hn (Nat.le_refl 1) h1 hB (fun i j hij hj => by have : i = j := by omega
                                                                                 subst this; exact Int.le_refl _) fun n hn1 hn2 hsn hor => ?_)
  have hN : n ≤ (arrOf st).size := by rw [hB.size]; omega
  have hL := asc_lex (fun i j h1 h2 => by omega) hr0 hsn (Nat.zero_le _) hN
  dsimp only
  by_cases hnn : n = nrem
  · rw [if_pos (by simpa using hnn)]
    exact wpS_pure (h n st hB hn1 hn2 hL.1 hL.2)
  · rw [if_neg (by simpa using hnn)]
    have hlt : K (arrOf st) n < K (arrOf st) (n - 1) := hor.resolve_left hnn
    by_cases hgt : n > 1
    · rw [if_pos hgt]
      refine wpS_bind (wpS_ltK hB h0 (by omega) (by omega) ?_)
      by_cases hrose : K (arrOf st) 0 < K (arrOf st) (n - 1)
      · simp only [hrose, decide_true, if_true]
        exact wpS_pure (h n st hB hn1 hn2 hL.1 hL.2)
      · simp only [hrose, decide_false, Bool.false_eq_true, if_false]
        have hall : ∀ k, k < n → K (arrOf st) k = K (arrOf st) (n - 1) := by
          intro k hk
          have a1 := hsn 0 k (by omega) hk
          have a2 := hsn k (n - 1) (by omega) (by omega)
          omega
        have hone : DInv (arrOf st) n (n - 1) := by
          have e : n - (n - 1 + 1) = 0 := by omega
          refine ⟨by omega, by rw [e]; exact fun i j _ h => by omega, fun i j h1 _ _ => by omega, fun i _ h2 => hall i h2, fun i j _ h2 h3 => ?_, hL.2⟩
          rw [hr0.1 i (Nat.zero_le _) (by omega), hr0.1 j (Nat.zero_le _) (by omega)]; omega
        have e0 : n - (n - 1 + 1) = 0 := by omega
        have hT := hone.turn hN
        have hR := hone.r.mirror (i := 0) (Nat.le_refl n) hN
        rw [e0] at hT
        have hKm : ∀ k, K (mirror (arrOf st) 0 n ((n - 0) / 2)) k = K (arrOf st) k := fun k => K_mirror_equal hN (fun k _ hk => hall k hk) k
        refine wpS_bind (wpS_reverse (stDescPart h0 hn (by omega) (hB.setArr (mirror_perm _ _ _ _)) ?_ h))
        refine ⟨by omega, hT, fun i j h1 h2 h3 => ?_, fun i h1 h2 => by congr 1; omega, fun i j h1 h2 h3 => by omega, fun k hk1 hk2 => hR.1 k (by omega) hk2, fun i hi => ?_⟩
        · have : j = n := by omega
          subst this
          show K (mirror (arrOf st) 0 j ((j - 0) / 2)) j < K (mirror (arrOf st) 0 j ((j - 0) / 2)) i
          rw [hKm, hKm, hall i (by omega)]; exact hlt
        · by_cases q : i < n
          · have := hR.2 i q
            show It (mirror (arrOf st) 0 n ((n - 0) / 2)) i < _
            omega
          · have : i = n := by omega
            subst this
            have := hR.1 i (Nat.le_refl _) (by rw [mirror_size, hB.size]; omega)
            show It (mirror (arrOf st) 0 i ((i - 0) / 2)) i < _
            omega
    · rw [if_neg hgt]
      have hn1' : n = 1 := by omega
      subst hn1'
      refine stDescPart h0 hn (by omega) hB ⟨by omega, fun i j _ h => by omega, fun i j h1 h2 h3 => ?_, fun i h1 h2 => by congr 1; omega, fun i j h1 h2 h3 => by omega, fun k hk1 hk2 => hr0.1 k (Nat.zero_le _) hk2, fun i hi => ?_⟩ h
      · have : i = 0 := by omega
        have : j = 1 := by omega
        subst_vars
        exact hlt
      · rw [hr0.1 i (Nat.zero_le _) (by rw [hB.size]; omega)]; omega
theorem stBin {st : SortSt} {n ok : Nat} {Q : Bool → SortSt → Prop} (h0 : IntKeys a₀) (hn : n ≤ a₀.size) (h1 : 1 ≤ ok) (hok : ok ≤ n) (hB : SBase a₀ st) (hs : LexS (arrOf st) ok) (hr : Rst (arrOf st) ok)
    (h : ∀ st', SBase a₀ st' → LexS (arrOf st') n → Q true st') : wpS (model prog w) A E s (binarySort' 0 n ok) Q st := by
  rw [binarySort'_eq]
  simp only [Nat.zero_add]
  refine wpS_bind (wpS_mono (wpS_forRange (I := fun k c st' => c = (none, ()) ∧ SBase a₀ st' ∧ LexS (arrOf st') (min k n) ∧ Rst (arrOf st') (min k n))
    (Q := fun c st' => c = (none, ()) ∧ SBase a₀ st' ∧ LexS (arrOf st') n) ?step ?fin ?init) ?post)
  case post =>
    rintro c st' ⟨rfl, hB', hs'⟩
    exact wpS_pure (h st' hB' hs')
  case init =>
    rw [show min (max ok 1) n = ok by omega]
    exact ⟨rfl, hB, hs, hr⟩
  case fin =>
    rintro c st' ⟨hc, hB', hs', _⟩
    refine ⟨hc, hB', ?_⟩
    rwa [show min (max (max ok 1) n) n = n by omega] at hs'
  case step =>
    rintro k c st' hak hkn ⟨rfl, hB', hL', hr'⟩
    rw [show min k n = k by omega] at hL' hr'
    have hs' := hL'.sorted
    have hk : k < a₀.size := by omega
    refine wpS_bind (wpS_mono (wpS_forRange (I := fun x c st'' => st'' = st' ∧ ∃ l r, c = (none, l, r) ∧ l ≤ r ∧ r ≤ k ∧ r - l ≤ k - x ∧
        (∀ i, i < l → K (arrOf st') i ≤ K (arrOf st') k) ∧ (∀ i, r ≤ i → i < k → K (arrOf st') k < K (arrOf st') i))
      (Q := fun c st'' => st'' = st' ∧ ∃ l r, c = (none, l, r) ∧ l ≤ k ∧
        (∀ i, i < l → K (arrOf st') i ≤ K (arrOf st') k) ∧ (∀ i, l ≤ i → i < k → K (arrOf st') k < K (arrOf st') i)) ?istep ?ifin ?iinit) ?ipost)
    case iinit => exact ⟨rfl, 0, k, rfl, by omega, by omega, by omega, fun i hi => by omega, fun i h1 h2 => by omega⟩
    case ifin =>
      rintro c st'' ⟨rfl, l, r, rfl, hlr, hrk, hm, hlo, hhi⟩
      have : l = r := by omega
      subst this
      exact ⟨rfl, l, l, rfl, hrk, hlo, hhi⟩
    case istep =>
      rintro x c st'' _ hxk ⟨rfl, l, r, rfl, hlr, hrk, hm, hlo, hhi⟩
      dsimp only
      by_cases hge : l ≥ r
      · rw [if_pos hge]
        have : l = r := by omega
        subst this
        exact wpS_pure ⟨rfl, l, l, rfl, hrk, hlo, hhi⟩
      · rw [if_neg hge]
        refine wpS_bind (wpS_ltK hB' h0 hk (by omega) ?_)
        by_cases hless : K (arrOf st'') k < K (arrOf st'') ((l + r) / 2)
        · simp only [hless, decide_true, if_true]
          refine wpS_pure ⟨rfl, l, (l + r) / 2, rfl, by omega, by omega, by omega, hlo, fun i h1 h2 => ?_⟩
          exact Int.lt_of_lt_of_le hless (hs' _ _ h1 h2)
        · simp only [hless, decide_false, Bool.false_eq_true, if_false]
          refine wpS_pure ⟨rfl, (l + r) / 2 + 1, r, rfl, by omega, by omega, by omega, fun i h1 => ?_, hhi⟩
          exact Int.le_trans (hs' i ((l + r) / 2) (by omega) (by omega)) (Int.not_lt.mp hless)
    case ipost =>
      rintro c st'' ⟨rfl, l, r, rfl, hlk, hlo, hhi⟩
      show wpS _ _ _ _ (do moveDown' k l; pure (ForInStep.yield (none, ()))) _ _
      rw [moveDown'_eq]
      have hks : k < (arrOf st'').size := by rw [hB'.size]; exact hk
      have hIk : It (arrOf st'') k = k := hr'.1 k (Nat.le_refl _) hks
      refine wpS_bind (wpS_modify (wpS_pure ⟨rfl, hB'.setArr (bubble_perm _ _ _), ?_, ?_⟩))
      · rw [show min (k + 1) n = k + 1 by omega]
        intro i j hij hj
        show K (bubble (arrOf st'') k (k - l)) i < K (bubble (arrOf st'') k (k - l)) j ∨ (K (bubble (arrOf st'') k (k - l)) i = K (bubble (arrOf st'') k (k - l)) j ∧ It (bubble (arrOf st'') k (k - l)) i < It (bubble (arrOf st'') k (k - l)) j)
        have src : ∀ t, t ≤ k → ∃ a, K (bubble (arrOf st'') k (k - l)) t = K (arrOf st'') a ∧ It (bubble (arrOf st'') k (k - l)) t = It (arrOf st'') a ∧ ((t = l ∧ a = k) ∨ (l < t ∧ a = t - 1) ∨ (t < l ∧ a = t)) := by
          intro t ht
          rw [K_bubble hks (by omega), It_bubble hks (by omega), show k - (k - l) = l by omega]
          by_cases h1 : t = l
          · rw [if_pos h1, if_pos h1]; exact ⟨k, rfl, rfl, .inl ⟨h1, rfl⟩⟩
          · rw [if_neg h1, if_neg h1]
            by_cases h2 : l < t
            · rw [if_pos ⟨h2, ht⟩, if_pos ⟨h2, ht⟩]; exact ⟨t - 1, rfl, rfl, .inr (.inl ⟨h2, rfl⟩)⟩
            · rw [if_neg (by omega), if_neg (by omega)]; exact ⟨t, rfl, rfl, .inr (.inr ⟨by omega, rfl⟩)⟩
        obtain ⟨a, ka, ia, ha⟩ := src i (by omega)
        obtain ⟨b, kb, ib, hb⟩ := src j (by omega)
        rw [ka, kb, ia, ib]
        rcases ha with ⟨h1, rfl⟩ | ⟨h1, rfl⟩ | ⟨h1, rfl⟩
        · exact .inl (hhi b (by omega) (by omega))
        · exact hL' _ _ (by omega) (by omega)
        · by_cases hj1 : j = l
          · have : b = k := by omega
            subst this
            rw [hIk]
            have a1 := hlo a h1
            have a2 := hr'.2 a (by omega)
            omega
          · exact hL' _ _ (by omega) (by omega)
      · rw [show min (k + 1) n = k + 1 by omega]
        refine ⟨fun i h1 h2 => ?_, fun i hi => ?_⟩
        · show It (bubble (arrOf st'') k (k - l)) i = i
          have h2' : i < (arrOf st'').size := by rw [← bubble_size (arrOf st'') k (k - l)]; exact h2
          rw [It_bubble hks (by omega), if_neg (by omega), if_neg (by omega)]
          exact hr'.1 i (by omega) h2'
        · show It (bubble (arrOf st'') k (k - l)) i < _
          rw [It_bubble hks (by omega)]
          split
          · rw [hIk]; omega
          · split
            · have := hr'.2 (i - 1) (by omega); omega
            · have := hr'.2 i (by omega); omega
def SDoneL (a₀ : Array Keyed) (st : SortSt) : Prop := (arrOf st).Perm a₀ ∧ failedOf st = none ∧ pendingOf st = #[(0, a₀.size, 0)] ∧ LexS (arrOf st) a₀.size
theorem doneL {st : SortSt} (hB : SBase a₀ st) (hs : LexS (arrOf st) a₀.size) : SDoneL a₀ (setPending st ((pendingOf st).push (0, a₀.size, 0))) :=
  ⟨hB.perm, hB.failed, by show (pendingOf st).push _ = _; rw [hB.pend]; rfl, hs⟩
theorem stRuns {st : SortSt} {Q : Unit → SortSt → Prop} (h0 : IntKeys a₀) (hB : SBase a₀ st) (hr0 : Rst (arrOf st) 0) (h2 : 2 ≤ a₀.size) (h64 : a₀.size < 64)
    (h : ∀ st', (arrOf st').Perm a₀ → failedOf st' = none → LexS (arrOf st') a₀.size → Q () st') : wpS (model prog w) A E s sortRuns' Q st := by
  rw [sortRuns'_eq]
  refine wpS_bind (wpS_get ?_)
  dsimp only
  have hmr : minRun' a₀.size a₀.size 0 = a₀.size := by
    obtain ⟨f, hf⟩ : ∃ f, a₀.size = f + 1 := ⟨a₀.size - 1, by omega⟩
    have : minRun' (f + 1) a₀.size 0 = a₀.size := by rw [minRun'_succ, if_pos h64]; rfl
    rwa [← hf] at this
  simp only [hB.size, hmr]
  refine wpS_bind (wpS_mono (wpS_forRange
    (I := fun x c st' => (x = 0 ∧ c = (none, 0) ∧ SBase a₀ st' ∧ Rst (arrOf st') 0) ∨ (1 ≤ x ∧ c = (none, a₀.size) ∧ SDoneL a₀ st'))
    (Q := fun c st' => c = (none, a₀.size) ∧ SDoneL a₀ st') ?step ?fin (.inl ⟨rfl, rfl, hB, hr0⟩)) ?post)
  case fin =>
    rintro c st' (⟨hx, _, _⟩ | ⟨_, hc, hD⟩)
    · omega
    · exact ⟨hc, hD⟩
  case step =>
    rintro x c st' _ hx (⟨rfl, rfl, hB', hr'⟩ | ⟨hx1, rfl, hD⟩)
    · dsimp only
      rw [if_neg (by omega)]
      simp only [Nat.sub_zero, Nat.min_self, Nat.zero_add]
      refine wpS_bind (stCount h0 (Nat.le_refl _) (by omega) hB' hr' fun m st2 hB2 hm1 hm2 hs2 hr2 => ?_)
      dsimp only
      by_cases hlt : m < a₀.size
      · rw [if_pos hlt]
        refine wpS_bind (wpS_lift (wpAny_rule ⟨rfl, ?_⟩))
        refine wpS_bind (stBin h0 (Nat.le_refl _) hm1 hm2 hB2 hs2 hr2 fun st3 hB3 hs3 => ?_)
        simp only [Bool.not_true, Bool.false_eq_true, if_false]
        refine wpS_bind (wpS_get ?_)
        have hb : (pendingOf st3).back? = none := by rw [hB3.pend]; rfl
        rw [hb]
        dsimp only
        exact wpS_bind (wpS_modify (wpS_pure (.inr ⟨by omega, rfl, doneL hB3 hs3⟩)))
      · rw [if_neg hlt]
        have hm : m = a₀.size := by omega
        subst hm
        refine wpS_bind (wpS_get ?_)
        have hb : (pendingOf st2).back? = none := by rw [hB2.pend]; rfl
        rw [hb]
        dsimp only
        exact wpS_bind (wpS_modify (wpS_pure (.inr ⟨by omega, rfl, doneL hB2 hs2⟩)))
    · dsimp only
      rw [if_pos (Nat.le_refl _)]
      exact wpS_pure ⟨rfl, hD⟩
  case post =>
    rintro c st' ⟨rfl, hD⟩
    dsimp only
    refine wpS_bind (wpS_mono (wpS_forRange (I := fun _ c st'' => st'' = st' ∧ c = (none, ())) (Q := fun c st'' => st'' = st' ∧ c = (none, ())) ?_ (fun _ _ hh => hh) ⟨rfl, rfl⟩) ?_)
    · rintro x c st'' _ _ ⟨rfl, rfl⟩
      refine wpS_bind (wpS_get ?_)
      rw [if_pos (by rw [hD.2.2.1]; exact Nat.le_refl 1)]
      exact wpS_pure ⟨rfl, rfl⟩
    · rintro c st'' ⟨rfl, rfl⟩
      exact wpS_pure (h _ hD.1 hD.2.1 hD.2.2.2)
end
end Mine
end
section
open PySem PySem.W PySem.Calls PyProof.Rows
set_option maxRecDepth 100000
set_option Elab.async false
set_option maxHeartbeats 4000000
set_option autoImplicit false
set_option linter.unusedVariables false
namespace Mine
theorem Kp.new {T : List Addr} {x : Addr} {s₀ s s' : Shared} (k : Kp T s₀ s) (k' : Kp [x] s s') (h : s₀.heap.get? x = Option.none) : Kp T s₀ s' :=
  ⟨fun b o nb e => k'.keep b o (fun q => by rw [List.mem_singleton.mp q, h] at e; cases e) (k.keep b o nb e), k'.os.trans k.os, fun g => k'.gens (k.gens g)⟩
theorem Kp.upd1 {x : Addr} {s : Shared} {f : Obj → Obj} {tk : Nat} : Kp [x] s { s with heap := s.heap.update x f, toks := tk } := Only.update.kp

/-- what sorted gives: the places 0 .. n - 1 by key, like ones as they came -/
structure SortOut (key : Int → Int) (n : Nat) (out : List Value) (zs : List Int) : Prop where
  isI : IntsAre out zs
  perm : zs.Perm ((List.range n).map fun (i : Nat) => (i : Int))
  ord : zs.Pairwise fun x y => key x < key y ∨ (key x = key y ∧ x < y)

section
variable {prog : Program} {w : World} {A : Around} {E : Value → Shared → Prop} {s s₀ : Shared}
theorem iadd_range {R : Result → Shared → Prop} {r : Addr} {a b c : Int} {t u v : Tok} {n : Nat} (hh : A.handled = none) (hr : IsRange s.heap r a b c t u v) (hsmall : Builtin.Range.small a b c = true)
    (hn : Builtin.Range.rangeSize a b c = n) (hlen : n ≤ 2 ^ 24) (S : Addr) (hS : s.heap.get? S = some { cls := .type "list", data := .seq #[] 0 })
    (hR : ∀ h' tk acc' c', (∀ b o, b ≠ S → s.heap.get? b = some o → h'.get? b = some o) → h'.get? S = some { cls := .type "list", dict := none, data := .seq acc' c', slots := #[] } →
      ItemsOf (fun i v => ∃ t, v = .int (a + i * c) t) acc' n → R (.ok (.ret (.ref S))) { s with heap := h', toks := tk }) :
    codeAny (model prog w) A (.builtin "list.__iadd__" ⟨[.ref S, .ref r], []⟩) R s :=
  codeAny_builtin entry_list_iadd' (wpAny_extend_range hh hr hsmall hn hlen S (.ref S) 0 hS hR)
theorem collect_range {r : Addr} {a b c : Int} {t u v : Tok} {n : Nat} {Q : List Value → Shared → Prop} (hh : A.handled = none) (hr : IsRange s.heap r a b c t u v) (hsmall : Builtin.Range.small a b c = true)
    (hn : Builtin.Range.rangeSize a b c = n) (hlen : n ≤ 2 ^ 24)
    (h : ∀ s' acc, Kp [] s s' → ItemsOf (fun i v => ∃ t, v = .int (a + i * c) t) acc n → Q acc.toList s') : wpAny (model prog w) A (collect (.ref r)) Q E s := by
  unfold collect
  refine wpAny_bind (wpAny_runValue (codeAny_builtin entry_proto_collect' ?_))
  show wpAny _ _ (do again (.builtin "list.__iadd__" ⟨[← newList [], .ref r], []⟩)) _ _ s
  refine wpAny_bind (wpAny_newList (wpAny_pure ⟨Code.quiet_builtin _ (by decide +kernel), ?_⟩))
  refine iadd_range (s := { s with heap := s.heap.push (seqObj "list" #[] 0) }) hh (Heap.get?_push_of_some _ hr) hsmall hn hlen s.heap.objs.size (Heap.get?_push_size _ rfl) fun h' tk acc' c' hk hS hacc => ?_
  show wpAny (model prog w) A (do
      let o ← load s.heap.objs.size
      match o.data with
      | .seq xs _ => pure xs.toList
      | _ => unsupported "internal:collect") Q E { s with heap := h', toks := tk }
  refine wpAny_bind (wpAny_load hS (wpAny_pure (h _ _ ⟨fun b o _ e => hk b o (Nat.ne_of_lt (Heap.lt_size e)) (Heap.get?_push_of_some _ e), rfl, id⟩ hacc)))

variable {kS a : Addr} {vs : List Value} {kz : List Int} {keys : Array Value} {e e1 : Nat} {P : PySem.Fin → Shared → Prop} {key : Int → Int} {n : Nat}
/-- the two lists that the sort works on -/
structure SL (s₀ : Shared) (kS a : Addr) (keys : Array Value) (e e1 : Nat) (s : Shared) : Prop where
  kp : Kp [] s₀ s
  gk : s.heap.get? kS = some (seqObj "list" keys e)
  ga : s.heap.get? a = some (seqObj "list" #[] e1)
  nk : s₀.heap.get? kS = none
  na : s₀.heap.get? a = none
  ne : kS ≠ a
theorem srt_tail {st : SortSt} (S : SL s₀ kS a keys e e1 s) (hz : keys.size < 64) (hz2 : (arrOf st).size < 64) (hfl : failedOf st = none)
    (h : ∀ s' c, Kp [] s₀ s' → s'.heap.get? a = some (seqObj "list" ((arrOf st).map (·.2)) c) → P (.done (.ret .none)) s') :
    wpAny (model prog w) A (ksk_tail a false e1 (.ref kS) st) P E s := by
  have s1 := Heap.SameBut.update s.heap kS (Obj.mapSeq fun _ => (#[] : Array Value))
  have na1 : (s.heap.update kS (Obj.mapSeq fun _ => (#[] : Array Value))).get? a = some (seqObj "list" #[] e1) := (s1.2 a S.ne.symm).trans S.ga
  have hc2 := get?_update_seq na1 fun _ => (arrOf st).map (·.2)
  unfold ksk_tail
  try dsimp only
  refine wpAny_bind (listUpdate_at S.gk rfl ?_ (by rw [sizeLine_eq]; omega) (Nat.zero_le _))
  refine wpAny_bind (wpAny_letGo ?_)
  refine wpAny_bind (seqEpoch_at na1 rfl ?_)
  refine wpAny_bind (listUpdate_at na1 rfl ?_ (Nat.zero_le _) (by simp only [Bool.false_eq_true, if_false, Array.size_map]; rw [sizeLine_eq]; omega))
  rw [hfl]
  simp only [bne_self_eq_false, Bool.false_eq_true, if_false]
  refine wpAny_pure (h _ _ ?_ hc2)
  exact (S.kp.new (Kp.upd1 (tk := s.toks)) S.nk).new (Kp.upd1 (tk := s.toks)) S.na

theorem srt_out (hkeys : IntsAre keys.toList kz) (hvs : vs.length = n) (hv : ∀ i, i < n → ∃ t, vs[i]? = some (.int (i : Nat) t)) (hkz : kz.length = n) (hkk : ∀ i, i < n → kz[i]? = some (key (i : Nat)))
    {xs : Array Keyed} (hp : xs.Perm (keys.zip vs.toArray)) (hs : LexS xs xs.size) : ∃ zs, SortOut key n (xs.map (·.2)).toList zs := by
  have hl : xs.toList.Perm (keys.toList.zip vs) := by rw [← ksk_zip]; exact Array.perm_iff_toList_perm.mp hp
  have hkl : keys.toList.length = n := by rw [hkeys.length, hkz]
  have hrel : ∀ p ∈ keys.toList.zip vs, numOf p.1 = key (numOf p.2) ∧ ∃ z t, p.2 = .int z t := by
    intro p hp'
    obtain ⟨i, hi, e⟩ := List.mem_iff_getElem.mp hp'
    rw [List.length_zip] at hi
    have hi' : i < n := by omega
    obtain ⟨t, et⟩ := hv i hi'
    obtain ⟨u, eu⟩ := hkeys.get i _ (hkk i hi')
    rw [List.getElem_zip] at e
    have e1 := (List.getElem?_eq_some_iff.mp eu).2
    have e2 := (List.getElem?_eq_some_iff.mp et).2
    subst e
    rw [e1, e2]
    exact ⟨rfl, _, _, rfl⟩
  have hmem : ∀ p ∈ xs.toList, numOf p.1 = key (numOf p.2) ∧ ∃ z t, p.2 = .int z t := fun p hp' => hrel p (hl.mem_iff.mp hp')
  have hvn : vs.map numOf = (List.range n).map fun (i : Nat) => (i : Int) := by
    apply List.ext_getElem (by simp [hvs])
    intro i h1 h2
    have hi : i < n := by simpa using h2
    obtain ⟨t, et⟩ := hv i hi
    have e2 := (List.getElem?_eq_some_iff.mp et).2
    simp [e2, numOf]
  refine ⟨xs.toList.map fun p => numOf p.2, ?_, ?_, ?_⟩
  · rw [Array.toList_map]
    have h1 := intsAre_map (xs.toList.map (·.2)) (by
      intro v hv'
      obtain ⟨p, hp', rfl⟩ := List.mem_map.mp hv'
      exact (hmem p hp').2)
    rwa [List.map_map] at h1
  · have h1 := hl.map fun p => numOf p.2
    have e2 : (keys.toList.zip vs).map (fun p => numOf p.2) = vs.map numOf := by
      have : (keys.toList.zip vs).map (fun p => numOf p.2) = ((keys.toList.zip vs).map Prod.snd).map numOf := by rw [List.map_map]; rfl
      rw [this, List.map_snd_zip (by omega)]
    rwa [e2, hvn] at h1
  · rw [List.pairwise_iff_getElem]
    intro i j hi hj hij
    have hi' : i < xs.size := by simpa using hi
    have hj' : j < xs.size := by simpa using hj
    have q := hs i j hij hj'
    have kI : ∀ i (h : i < xs.size), K xs i = key (numOf xs[i].2) ∧ It xs i = numOf xs[i].2 := fun i h => by
      refine ⟨(K_eq h).trans (hmem xs[i] (by simp)).1, ?_⟩
      unfold It; rw [getElem?_pos xs i h]
    rw [(kI i hi').1, (kI j hj').1, (kI i hi').2, (kI j hj').2] at q
    simpa using q

theorem srt_end (S : SL s₀ kS a keys e e1 s) (hkeys : IntsAre keys.toList kz) (hvs : vs.length = n) (hv : ∀ i, i < n → ∃ t, vs[i]? = some (.int (i : Nat) t)) (hkz : kz.length = n) (hkk : ∀ i, i < n → kz[i]? = some (key (i : Nat))) (h2 : 2 ≤ n) (h64 : n < 64)
    (h : ∀ s' c out zs, Kp [] s₀ s' → s'.heap.get? a = some (seqObj "list" out c) → SortOut key n out.toList zs → P (.done (.ret .none)) s') :
    wpAny (model prog w) A (ksk_end a false vs.toArray e1 (.ref kS) keys) P E s := by
  have hsz : keys.size = n := by
    have h1 := hkeys.length
    rw [Array.length_toList] at h1
    omega
  have hzs : (keys.zip vs.toArray).size = n := by rw [Array.size_zip, hsz, List.size_toArray, hvs, Nat.min_self]
  unfold ksk_end
  simp only [Bool.false_eq_true, if_false]
  rw [if_neg (by rw [List.size_toArray]; omega), if_neg (by rw [List.size_toArray]; omega), ksk_kind hkeys (by omega)]
  refine wpAny_bind (wpAny_pure ?_)
  have hR : Rst (keys.zip vs.toArray) 0 := by
    refine ⟨fun k _ hk => ?_, fun i hi => by omega⟩
    rw [hzs] at hk
    obtain ⟨t, et⟩ := hv k hk
    obtain ⟨u, eu⟩ := hkeys.get k _ (hkk k hk)
    unfold It
    have e1 : (keys.zip vs.toArray)[k]? = some (.int (key (k : Nat)) u, .int (k : Nat) t) := by
      rw [← Array.getElem?_toList, ksk_zip, List.getElem?_zip_eq_some]
      exact ⟨eu, et⟩
    rw [e1]; rfl
  refine wpAny_bind (wpAny_mono (stRuns (a₀ := keys.zip vs.toArray) (st := SortSt.mk' oneType' (keys.zip vs.toArray) #[] 7 none)
    (Q := fun _ st' => (arrOf st').Perm (keys.zip vs.toArray) ∧ failedOf st' = none ∧ LexS (arrOf st') (keys.zip vs.toArray).size)
    (ksk_intKeys hkeys) ⟨Array.Perm.refl _, rfl, rfl, rfl⟩ hR (by rw [hzs]; exact h2) (by rw [hzs]; exact h64) fun st' a1 a2 a3 => ⟨a1, a2, a3⟩) ?_ fun _ _ e => e)
  rintro ⟨⟨⟩, st'⟩ s' ⟨rfl, hp, hf, hs⟩
  try dsimp only
  have hz2 : (arrOf st').size = (keys.zip vs.toArray).size := hp.size_eq
  refine srt_tail S (by omega) (by show (arrOf st').size < 64; omega) hf fun s' c k' e' => ?_
  obtain ⟨zs, hzs'⟩ := srt_out hkeys hvs hv hkz hkk hp (by rw [hz2]; exact hs)
  exact h s' c _ zs k' e' hzs'

theorem srt_rest {f : Value} {m : Nat} (S : SL s₀ kS a #[] 0 e1 s) (hvs : vs.length = n) (hv : ∀ i, i < n → ∃ t, vs[i]? = some (.int (i : Nat) t)) (h2 : 2 ≤ n) (h64 : n < 64) (hr : Rm m A)
    (turn : ∀ i t, i < n → KeyOk prog w m s₀ f (.int (i : Nat) t) fun v => ∃ u, v = .int (key (i : Nat)) u)
    (h : ∀ s' c out zs, Kp [] s₀ s' → s'.heap.get? a = some (seqObj "list" out c) → SortOut key n out.toList zs → P (.done (.ret .none)) s') :
    wpAny (model prog w) A (ksk_rest a f false vs.toArray e1 (.ref kS)) P E s := by
  unfold ksk_rest
  refine wpAny_bind (wpAny_rule ?_)
  first
    | rw [List.forIn_toArray]
    | (rw [← Array.forIn_toList]; simp only [List.toList_toArray])
    | rw [← Array.forIn_toList]
  refine wpAny_bind (ksk_fold (fun i s' => ∃ kA e, SL s₀ kS a kA e e1 s' ∧ IntsAre kA.toList ((List.range i).map fun (j : Nat) => key (j : Nat))) vs 0 s ⟨#[], 0, S, IntsAre.nil⟩ ?step ?done)
  case step =>
    rintro j x s' hx ⟨kA, e, S', hk⟩
    simp only [Nat.zero_add] at hk ⊢
    have hj : j < n := by have := (List.getElem?_eq_some_iff.mp hx).1; omega
    obtain ⟨t, et⟩ := hv j hj
    rw [et] at hx; cases hx
    have hz : kA.size = j := by
      have h1 := hk.length
      rw [Array.length_toList, List.length_map, List.length_range] at h1
      exact h1
    refine wpAny_bind (wpAny_attempt (wpAny_mono (turn j t hj A s' _ hr S'.kp fun r s'' k'' hr' => (⟨k'', hr'⟩ : Kp [] s' s'' ∧ ∃ u, r = .int (key (j : Nat)) u)) (fun v s'' he => ?_) fun _ _ hF => hF.elim))
    obtain ⟨k'', u, rfl⟩ := he
    try dsimp only
    have nk := k''.all _ _ S'.gk
    obtain ⟨c2, hc2⟩ : ∃ c2, (s''.heap.update kS (Obj.mapSeq (·.push (.int (key (j : Nat)) u)))).get? kS = some (seqObj "list" (kA.push (.int (key (j : Nat)) u)) c2) := ⟨_, get?_update_seq nk (·.push (.int (key (j : Nat)) u))⟩
    refine wpAny_bind (listUpdate_at nk rfl ?_ (by rw [sizeLine_eq]; omega) (Nat.le_trans (Nat.le_of_eq (Array.size_push ..)) (by rw [sizeLine_eq]; omega)))
    refine wpAny_pure ⟨rfl, kA.push (.int (key (j : Nat)) u), c2, ⟨(S'.kp.trans k'').new (Kp.upd1 (tk := s''.toks)) S'.nk, hc2, (Heap.get?_update_ne _ _ _ _ S'.ne.symm).trans (k''.all _ _ S'.ga), S'.nk, S'.na, S'.ne⟩, ?_⟩
    rw [List.range_succ, List.map_append, Array.toList_push]
    exact ksk_snoc hk
  case done =>
    rintro s' ⟨kA, e, S', hk⟩
    rw [Nat.zero_add, hvs] at hk
    try dsimp only
    refine wpAny_bind (listItems_at S'.gk rfl ?_)
    exact srt_end S' hk hvs hv (by simp) (fun i hi => by simp [hi]) h2 h64 h

theorem srt_sort {q : Addr} {m : Nat} (k₀ : Kp [] s₀ s) (ho : s.heap.get? a = some (seqObj "list" vs.toArray e)) (na : s₀.heap.get? a = none) (hvs : vs.length = n) (hv : ∀ i, i < n → ∃ t, vs[i]? = some (.int (i : Nat) t)) (h2 : 2 ≤ n) (h64 : n < 64) (hr : Rm m A)
    (turn : ∀ i t, i < n → KeyOk prog w m s₀ (.ref q) (.int (i : Nat) t) fun v => ∃ u, v = .int (key (i : Nat)) u)
    (h : ∀ s' c out zs, Kp [] s₀ s' → s'.heap.get? a = some (seqObj "list" out c) → SortOut key n out.toList zs → P (.done (.ret .none)) s') :
    wpAny (model prog w) A (ksk_tree a (.ref q) false) P E s := by
  have ha : a < s.heap.objs.size := Heap.lt_size ho
  obtain ⟨e1, ho1⟩ : ∃ e1, (s.heap.update a (Obj.mapSeq fun _ => (#[] : Array Value))).get? a = some (seqObj "list" #[] e1) := ⟨_, get?_update_seq ho fun _ => #[]⟩
  have hkS : ((s.heap.update a (Obj.mapSeq fun _ => (#[] : Array Value))).push (seqObj "tuple" vs.toArray 0)).objs.size = s.heap.objs.size + 1 := by rw [size_push', Heap.size_update]
  unfold ksk_tree
  refine wpAny_bind (listItems_at ho rfl ?_)
  refine wpAny_bind (listUpdate_at ho rfl ?_ (by rw [List.size_toArray, sizeLine_eq]; omega) (Nat.zero_le _))
  refine wpAny_bind (seqEpoch_at ho1 rfl ?_)
  refine wpAny_bind (wpAny_newTuple ?_ (by show vs.length ≤ _; rw [sizeLine_eq]; omega))
  refine wpAny_bind (wpAny_newList ?_ (Nat.zero_le _))
  refine wpAny_holding ?_
  refine srt_rest (s := { s with heap := ((s.heap.update a (Obj.mapSeq fun _ => (#[] : Array Value))).push (seqObj "tuple" vs.toArray 0)).push (seqObj "list" #[] 0) }) (kS := ((s.heap.update a (Obj.mapSeq fun _ => (#[] : Array Value))).push (seqObj "tuple" vs.toArray 0)).objs.size)
    ⟨?_, Heap.get?_push_size _ rfl, Heap.get?_push_of_some _ (Heap.get?_push_of_some _ ho1), ?_, na, ?_⟩ hvs hv h2 h64 hr turn h
  · exact ((k₀.new (Kp.upd1 (tk := s.toks)) na).trans (Kp.push (tk := s.toks))).trans (Kp.push (tk := s.toks))
  · refine k₀.none (Heap.get?_none_of_le ?_)
    rw [hkS]; exact Nat.le_succ _
  · rw [hkS]; exact Nat.ne_of_gt (Nat.lt_succ_of_lt ha)

theorem srt_sorted {q r : Addr} {m : Nat} {t u v : Tok} {Q : Value → Shared → Prop} (hR : IsRange s.heap r 0 (n : Int) 1 t u v) (h2 : 2 ≤ n) (h64 : n < 64) (hr : Rm (m + 2) A)
    (turn : ∀ i t, i < n → KeyOk prog w m s (.ref q) (.int (i : Nat) t) fun v => ∃ u, v = .int (key (i : Nat)) u)
    (h : ∀ s' D out zs, s.heap.get? D = none → Kp [] s s' → LsAt s'.heap D out → SortOut key n out zs → Q (.ref D) s') :
    wpAny (model prog w) A (call (.builtin "sorted") [.ref r] [(Str.ofString "key", .ref q)]) Q E s := by
  refine call_function_entry_kw kind_sorted plain_sorted entry_sorted (ksk_s1 _ _) ?_
  unfold Builtin.«sorted»
  refine wpAny_bind (m := checkCount "sorted" 1 1 _) (wpAny_pure ?_)
  have hh : A.handled = none := hr.2.2
  refine wpAny_bind (collect_range (n := n) hh hR (small_one (by omega) (by omega) (by omega) (by omega)) (by rw [rangeSize_one]; split <;> omega) (by omega) fun s₁ acc k₁ hacc => ?_)
  refine wpAny_bind (wpAny_newList ?_ (by have := hacc.1; rw [Array.length_toList, sizeLine_eq]; omega))
  have hlen : acc.toList.length = n := by rw [Array.length_toList]; exact hacc.1
  have hv : ∀ i, i < n → ∃ t, acc.toList[i]? = some (.int (i : Nat) t) := by
    intro i hi
    obtain ⟨x, hx⟩ : ∃ x, acc[i]? = some x := ⟨_, Array.getElem?_eq_getElem (by rw [hacc.1]; exact hi)⟩
    obtain ⟨t, rfl⟩ := hacc.2 i x hx
    refine ⟨t, ?_⟩
    rw [Array.getElem?_toList, hx]
    congr 2; omega
  have hoL : (s₁.heap.push (seqObj "list" acc.toList.toArray 0)).get? s₁.heap.objs.size = some (seqObj "list" acc.toList.toArray 0) := Heap.get?_push_size _ rfl
  refine wpAny_bind (wpAny_holding (wpAny_call_entry_kw slot_list_sort ⟨_, hoL, rfl⟩ entry_list_sort ?body (ksk_l1 _ _)))
  case body =>
    show wpAny (model prog w) A.in1.in1 (Builtin.«list.sort» ⟨[.ref s₁.heap.objs.size], _⟩) _ _ _
    rw [ksk_t1]
    have nD : s.heap.get? s₁.heap.objs.size = none := k₁.none (Heap.get?_none_of_le (Nat.le_refl _))
    refine srt_sort (s₀ := s) (s := { s₁ with heap := s₁.heap.push (seqObj "list" acc.toList.toArray 0) }) (k₁.trans (Kp.push (tk := s₁.toks))) hoL nD hlen hv h2 h64 (Rm.in1 (Rm.in1 hr)) turn fun s' c out zs k' e' so => ⟨_, rfl, ?_⟩
    exact wpAny_pure ⟨_, rfl, h s' _ out.toList zs nD k' ⟨c, by rw [Array.toArray_toList]; exact e'⟩ so⟩
end
end Mine
end
section
open PySem PySem.W PySem.Calls PyProof.Rows
set_option maxRecDepth 100000
set_option Elab.async false
set_option maxHeartbeats 4000000
set_option autoImplicit false
set_option linter.unusedVariables false
namespace Mine

/-- no code object, no code's record -/
def Dull (o : Obj) : Prop := ∀ vs, o.data = .fields vs → o.cls ≠ .type "code" ∧ ∀ q t, vs[1]? ≠ some (.str q t)
theorem Dull.dict {o : Obj} {es : Array DictEntry} {n : Nat} (h : o.data = .dict es n) : Dull o := fun vs e => by rw [h] at e; cases e
theorem Dull.seq {o : Obj} {es : Array Value} {n : Nat} (h : o.data = .seq es n) : Dull o := fun vs e => by rw [h] at e; cases e
theorem Dull.range {h : Heap} {it : Addr} {x l st : Int} (i : IsRangeIter h it x l st) (o : Obj) (e : h.get? it = some o) : Dull o := by
  rw [i] at e; cases e
  intro vs e; cases e
  exact ⟨by show Value.type "range_iterator" ≠ Value.type "code"; decide, fun q t e => by simp [rawInt] at e⟩
theorem Dull.liter {h : Heap} {it l : Addr} {i : Nat} (x : h.IsListIter it l i) (o : Obj) (e : h.get? it = some o) : Dull o := by
  obtain ⟨o', e1, e2, e3⟩ := x
  rw [e1] at e; cases e
  intro vs e; rw [e3] at e; cases e
  exact ⟨by rw [e2]; decide, fun q t e => by simp at e⟩
theorem Dull.ls {h : Heap} {l : Addr} {vs : List Value} (x : LsAt h l vs) (o : Obj) (e : h.get? l = some o) : Dull o := by
  obtain ⟨n, e1⟩ := x
  rw [e1] at e; cases e
  exact Dull.seq rfl
theorem Dull.ns {h : Heap} {l : Addr} {m : Str → Option Value} (x : h.Ns l m) (o : Obj) (e : h.get? l = some o) : Dull o := by
  obtain ⟨o', es, ep, e1, e2, _⟩ := x
  rw [e1] at e; cases e
  exact Dull.dict e2
/-- what a code's table needs stands where nothing but dull things have turned -/
theorem Tab.off {h h' : Heap} {c P : Addr} {q : Str} {T' : List Addr} (T : Tab h c P q) (k : ∀ b o, b ∉ T' → h.get? b = some o → h'.get? b = some o) (hd : ∀ x ∈ T', x ≠ P ∧ ∀ o, h.get? x = some o → Dull o) : Tab h' c P q := by
  obtain ⟨⟨o, vs, file, tf, flags, tg, inF, text, tt, e1, e2, e3, r⟩, ps, p1, p2, p3⟩ := T
  refine ⟨⟨o, vs, file, tf, flags, tg, inF, text, tt, k _ _ (fun z => ((hd _ z).2 o e1 vs e3).1 e2) e1, e2, e3, r⟩, ps, k _ _ (fun z => (hd _ z).1 rfl) p1, p2, fun pos cv z => ?_⟩
  obtain ⟨c', rfl, c2, o2, vs2, t2, f1, f2, f3, f4⟩ := p3 pos cv z
  exact ⟨c', rfl, c2, o2, vs2, t2, f1, k _ _ (fun z => ((hd _ z).2 o2 f2 vs2 f3).2 _ _ f4) f2, f3, f4⟩
theorem cell_ne {h : Heap} {c x : Addr} {v : Option Value} {o : Obj} (hc : h.IsCell c v) (e : h.get? x = some o) (n : ∀ v, o.data ≠ .cell v) : c ≠ x := fun q => by
  obtain ⟨o', e1, e2⟩ := hc
  rw [q, e] at e1; cases e1
  exact n _ e2
theorem SameL.keep {L : Addr} {s s' : Shared} (h : SameL L s s') (b : Addr) (o : Obj) (n : b ∉ [L]) (e : s.heap.get? b = some o) : s'.heap.get? b = some o := (h b fun q => n (List.mem_singleton.mpr q)).trans e

theorem bl_cps (n : Nat) : (bl n).cps.toList = List.replicate n 32 := by show (Array.replicate n 32).toList = _; simp
theorem rep_lt : ∀ (a b : Nat), List.replicate a 32 < List.replicate b 32 ↔ a < b
  | 0, 0 => by simp
  | 0, b + 1 => by simp [List.replicate_succ]
  | a + 1, 0 => by simp
  | a + 1, b + 1 => by
    rw [List.replicate_succ, List.replicate_succ, List.cons_lt_cons_iff, rep_lt a b]
    simp
theorem bl_lt (a b : Nat) : decide ((bl a).cps.toList < (bl b).cps.toList) = decide (a < b) := by
  rw [bl_cps, bl_cps]
  exact decide_eq_decide.mpr (rep_lt a b)

/-- words so high -/
structure Wds (ws : List Value) (ht : Nat → Nat) : Prop where
  len : ws.length = 11
  at_ : ∀ i, i < 11 → ∃ t, ws[i]? = some (.str (bl (ht i)) t)
def lamLH : Lam := match (dLH.2.1[1]? : Option Stmt) with
  | some (Stmt.For _ _ [Stmt.Expr (Expr.Call _ _ [k] _) _] _ _) => (match k.value with
    | Expr.Lambda a b sc _ => (a, b, sc)
    | _ => (⟨[], [], none, [], [], none, []⟩, .Constant .none 0 default, default))
  | _ => (⟨[], [], none, [], [], none, []⟩, .Constant .none 0 default, default)

theorem SortOut.nil {key : Int → Int} : SortOut key 0 [] [] := ⟨.nil, by simp, .nil⟩
theorem SortOut.lt {key : Int → Int} {n : Nat} {vs : List Value} {zs : List Int} (S : SortOut key n vs zs) (z : Int) (h : z ∈ zs) : ∃ i : Nat, z = i ∧ i < n := by
  have := S.perm.mem_iff.mp h
  simp only [List.mem_map, List.mem_range] at this
  obtain ⟨i, hi, rfl⟩ := this
  exact ⟨i, rfl, hi⟩
theorem SortOut.len {key : Int → Int} {n : Nat} {vs : List Value} {zs : List Int} (S : SortOut key n vs zs) : zs.length = n ∧ vs.length = n := by
  have h1 := S.perm.length_eq
  have h2 := S.isI.length
  simp at h1
  omega
theorem ints_app : ∀ {vs ws : List Value} {ns ms : List Int}, IntsAre vs ns → IntsAre ws ms → IntsAre (vs ++ ws) (ns ++ ms)
  | _, _, _, _, .nil, h => h
  | _, _, _, _, .cons n t h, h' => .cons n t (ints_app h h')
theorem ints_take : ∀ {vs : List Value} {ns : List Int} (k : Nat), IntsAre vs ns → IntsAre (vs.take k) (ns.take k)
  | _, _, 0, _ => by simp; exact .nil
  | _, _, k + 1, .nil => .nil
  | _, _, k + 1, .cons n t h => .cons n t (ints_take k h)
theorem ints_drop : ∀ {vs : List Value} {ns : List Int} (k : Nat), IntsAre vs ns → IntsAre (vs.drop k) (ns.drop k)
  | _, _, 0, h => h
  | _, _, k + 1, .nil => .nil
  | _, _, k + 1, .cons n t h => ints_drop k h
theorem SortOut.ins {key : Int → Int} {n r : Nat} {vs : List Value} {zs : List Int} {t : Tok} (S : SortOut key n vs zs) (hr : r ≤ n)
    (h1 : ∀ z, 0 < r → zs[r - 1]? = some z → key z ≤ key (n : Nat)) (h2 : ∀ z, zs[r]? = some z → key (n : Nat) < key z) : SortOut key (n + 1) (vs.take r ++ .int (n : Nat) t :: vs.drop r) (zs.take r ++ (n : Int) :: zs.drop r) := by
  have hl := S.len.1
  have hp := List.pairwise_iff_getElem.mp S.ord
  have lo : ∀ z ∈ zs.take r, key z ≤ key (n : Nat) := by
    intro z hz
    obtain ⟨i, hi, e⟩ := List.mem_iff_getElem.mp hz
    rw [List.length_take] at hi
    rw [List.getElem_take] at e
    have hr1 : r - 1 < zs.length := by omega
    have := h1 zs[r - 1] (by omega) (List.getElem?_eq_getElem hr1)
    by_cases q : i = r - 1
    · subst q; rw [← e]; exact this
    · have := hp i (r - 1) (by omega) hr1 (by omega)
      rw [← e]; omega
  have hi : ∀ z ∈ zs.drop r, key (n : Nat) < key z := by
    intro z hz
    obtain ⟨i, hi, e⟩ := List.mem_iff_getElem.mp hz
    rw [List.length_drop] at hi
    rw [List.getElem_drop] at e
    have hr1 : r < zs.length := by omega
    have := h2 zs[r] (List.getElem?_eq_getElem hr1)
    by_cases q : i = 0
    · subst q; rw [← e]; exact this
    · have := hp r (r + i) hr1 (by omega) (by omega)
      rw [← e]; omega
  refine ⟨ints_app (ints_take r S.isI) (.cons _ t (ints_drop r S.isI)), ?_, ?_⟩
  · rw [List.range_succ, List.map_append]
    refine List.perm_middle.trans ?_
    rw [List.take_append_drop]
    refine (List.perm_append_singleton _ _).symm.trans ?_
    exact (S.perm.append_right _)
  · rw [List.pairwise_append]
    refine ⟨S.ord.sublist (List.take_sublist _ _), List.pairwise_cons.mpr ⟨fun z hz => .inl (hi z hz), S.ord.sublist (List.drop_sublist _ _)⟩, fun x hx y hy => ?_⟩
    rcases List.mem_cons.mp hy with rfl | hy
    · obtain ⟨i, rfl, hi⟩ := S.lt x (List.mem_of_mem_take hx)
      have := lo _ hx
      omega
    · have a1 := lo x hx
      have a2 := hi y hy
      omega

inductive HJ (s : Shared) (P L c r wl it : Addr) (ht : Nat → Nat) (i : Nat) (s' : Shared) : Prop
  | mk (m cm : Str → Option Value) (vs : List Value) (zs : List Int) (h1 : LocC s [P] L m (cellsFrom (L + 1) dLH.2.2.names []) cm s') (h2 : m "row" = some (.ref r)) (h3 : cm "words" = some (.ref wl)) (h4 : LsAt s'.heap r vs) (h5 : SortOut (fun z => (ht z.toNat : Int)) i vs zs)
    (h6 : Tab s'.heap c P ("_law_by_height" ++ ".<locals>." ++ "<lambda>")) (h7 : IsRangeIter s'.heap it (0 + i * 1) ((11 : Nat) - i) 1) (h8 : i ≤ 11) : HJ s P L c r wl it ht i s'
section
variable {prog : Program} {w : World} {A : Around} {G : Heap} {mg mb : Str → Option Value} {d : Ads} {s : Shared} {n : Nat} {R : Result → Shared → Prop}
theorem lhKey {f c' cw wl : Addr} {ws : List Value} {ht : Nat → Nat} {i : Nat} {t : Tok} (sg : Sg G mg mb d) (hG : ∀ b o, G.get? b = some o → s.heap.get? b = some o) (hf : LamAt s.heap f ("_law_by_height" ++ ".<locals>." ++ "<lambda>") lamLH [("words", cw)] c') (hcw : s.heap.IsCell cw (some (.ref wl)))
    (hl : LsAt s.heap wl ws) (hw : Wds ws ht) (hi : i < 11) : KeyOk prog w (n + 2) s (.ref f) (.int (i : Nat) t) fun r => ∃ u, r = .str (bl (ht i)) u := by
  intro A s' Q hr k h
  refine wpAny_call (callE (n := n + 1) (binds := [("place", .int (i : Nat) t)]) (hf.keeps k.all) ((sg.glo.keeps hG).keeps k.all).lim hr (fun _ _ => rfl) (fun L h₁ hL F₁ hr' => ?_) (by decide) (locs rfl))
  have I := Loc.start (tk := s'.toks + 1) F₁
  have old : ∀ b o, s.heap.get? b = some o → h₁.get? b = some o := fun b o e => I.old b o (k.all b o e)
  have g := (sg.glo.keeps hG).keeps old
  obtain ⟨o, doc, pm, an, ct, r1, r2, r3⟩ := (sg.SX.keeps hG).keeps old
  obtain ⟨tw, ew⟩ := hw.at_ i hi
  refine wpAny_Call_Name_kw (ldG (mg := mg) g.g sg.mSX (cwP (o := o) (fd := fnX "_strxfrm" "_strxfrm" dSX.1 dSX.2.1 dSX.2.2 [] .none .none doc pm an d.cSX ct) (wpAny_items_cons (Subscript_ (ldF (c := cw) rfl (hcw.keeps old) (ldL I.ns rfl ?_))))))
  refine lst_item ((hl.keeps old).isList) (by omega) (by omega) (by rw [Int.toNat_natCast]; simpa using ew) ?_
  refine wpAny_items_nil ⟨⟨r1, r2⟩, wpAny_call ?_⟩
  refine strxfrm_spec (n := n) (A := A.deeper _) ⟨o, doc, pm, an, ct, r1, r2, r3⟩ g.lim hr' fun s₂ k₂ => h _ s₂ ⟨fun b o _ e => k₂.all b o (I.old b o e), k₂.os, k₂.gens⟩ ⟨tw, rfl⟩

theorem byHeight_spec {wl c P : Addr} {ws : List Value} {ht : Nat → Nat} (sg : Sg G mg mb d) (hG : ∀ b o, G.get? b = some o → s.heap.get? b = some o) (hl : LsAt s.heap wl ws) (hw : Wds ws ht) (hc : d.cLH = .ref c) (T : Tab s.heap c P ("_law_by_height" ++ ".<locals>." ++ "<lambda>")) (hP : G.get? P = none) (hr : Rm (n + 5) A)
    (h : ∀ s' r vs zs, Kp [P] s s' → s.heap.get? r = none → LsAt s'.heap r vs → SortOut (fun z => (ht z.toNat : Int)) 11 vs zs → (∃ ps, s'.heap.get? P = some (tabObj ps)) → R (.ok (.ret (.ref r))) s') :
    codeAny (model prog w) A (.call (.ref d.fLH) ⟨[.ref wl], []⟩) R s := by
  refine callFC (n := n + 4) (binds := [("words", .ref wl)]) (sg.LH.keeps hG) (sg.glo.lim.keeps hG) hr (fun _ _ _ _ => rfl) rfl (fun L s₁ hL C hr' => ?_)
  obtain ⟨psT, eT, _⟩ := T.ex
  have hG1 : ∀ {s' : Shared}, Kp [P] s s' → ∀ b o, G.get? b = some o → s'.heap.get? b = some o := fun k b o e => k.keep b o (fun q => by rw [List.mem_singleton.mp q, hP] at e; cases e) (hG b o e)
  have hPL : P ≠ L := fun q => by have := C.I.fresh; rw [← q, eT] at this; cases this
  have hPw : wl ≠ P := fun q => by obtain ⟨nw, ew⟩ := hl; rw [q, eT] at ew; cases congrArg Obj.data (Option.some.inj ew)
  have wls : ∀ {s' : Shared}, Kp [P] s s' → LsAt s'.heap wl ws := fun k => let ⟨nw, ew⟩ := hl; ⟨nw, k.keep _ _ (fun q => hPw (List.mem_singleton.mp q)) ew⟩
  have C1 : LocC s [P] L _ _ _ s₁ := C.wide
  have T1 : Tab s₁.heap c P ("_law_by_height" ++ ".<locals>." ++ "<lambda>") := T.keeps C.I.old
  refine setL (newL (wpAny_items_nil ⟨by rw [sizeLine_eq]; decide, fun s₂ r nr lr k₂ => ?_⟩))
  have C2 := C1.call k₂
  have T2 := T1.keeps k₂.all
  refine stLC' C2 fun s₃ C3 sm3 => ?_
  have nr0 : s.heap.get? r = none := Kp.none (⟨fun b o _ e => C.I.old b o e, C.I.kp.os, C.I.kp.gens⟩ : Kp [] s s₁) nr
  have hrL : r ≠ L := let ⟨o, e⟩ := ns_some C1.I.ns; ne_of_none nr e
  have hrP : r ≠ P := ne_of_none nr0 eT
  have l3 : LsAt s₃.heap r [] := lr.of_eq (sm3 _ hrL)
  have T3 : Tab s₃.heap c P ("_law_by_height" ++ ".<locals>." ++ "<lambda>") := T2.off sm3.keep fun x hx => by rw [List.mem_singleton.mp hx]; exact ⟨hPL.symm, Dull.ns C2.I.ns⟩
  have g3 := sg.glo.keeps (hG1 C3.I.kp)
  refine wpAny_execs_cons (wpAny_For ?_)
  refine wpAny_Call_Name_kw (ldB (mg := mg) (mb := mb) g3.g (sg.no "range" (by decide)) g3.b (g3.name boot_range (by decide)) ?_)
  refine callWith_type1 (wpAny_items_cons (wpAny_Call_Name_kw (ldB (mg := mg) (mb := mb) g3.g (sg.no "len" (by decide)) g3.b (g3.name boot_len (by decide)) ?_)))
  refine cwB (wpAny_items_cons (ldC (c := L + 1) rfl (C3.cell "words" (L + 1) rfl) (wpAny_items_nil ?_)))
  refine len1 (wls C3.I.kp).isList (by rw [List.size_toArray, hw.len]; decide) fun t5 s₅ k5 => ?_
  rw [List.size_toArray, hw.len]
  have C5 := C3.call k5
  refine wpAny_items_nil (rangeIt (by decide) fun it s₇ n7 i7 k7 => ?_)
  have C7 := C5.call k7
  have T7 := (T3.keeps k5.all).keeps k7.all
  have it0 : s.heap.get? it = none := by
    cases q : s.heap.get? it with
    | none => rfl
    | some o =>
      by_cases z : it = P
      · obtain ⟨ps, e, _⟩ := (T3.keeps k5.all).ex
        rw [z, e] at n7; cases n7
      · have := C5.I.kp.keep it o (fun w => z (List.mem_singleton.mp w)) q
        rw [n7] at this; cases this
  have itL : it ≠ L := let ⟨o, e⟩ := ns_some C5.I.ns; ne_of_none n7 e
  have itr : it ≠ r := let ⟨nn, e⟩ := (l3.keeps k5.all); ne_of_none n7 e
  have itP : it ≠ P := ne_of_none it0 eT
  refine forR (HJ s P L c r wl it ht) 11 0 1 hr'.2.2 (fun i s' ⟨m, cm, vs, zs, _, _, _, _, _, _, h6, h7⟩ => ⟨h6, h7⟩) ?turn ?fin ?start
  case start => exact ⟨_, _, [], [], C7, rfl, rfl, (l3.keeps k5.all).keeps k7.all, .nil, T7, by simpa using i7, Nat.zero_le _⟩
  case turn =>
    rintro i s' hlt ⟨m, cm, vs, zs, J1, J2, J3, J4, J5, J6, J7, J8⟩ s'' tt hO hit
    have celln : ∀ {s' : Shared} {m cm : Str → Option Value} {x : Addr} {o : Obj}, LocC s [P] L m (cellsFrom (L + 1) dLH.2.2.names []) cm s' → s'.heap.get? x = some o → (∀ v, o.data ≠ .cell v) → ∀ nm cc, (cellsFrom (L + 1) dLH.2.2.names []).lookup nm = some cc → cc ∉ [x] := fun C e hn nm cc hc q => cell_ne (C.cell nm cc hc) e hn (List.mem_singleton.mp q)
    have J1' := J1.turn hO.kp (fun b hb => .inr (by rw [List.mem_singleton.mp hb]; exact it0)) (fun q => itL (List.mem_singleton.mp q).symm) (celln J1 J7 fun v e => by cases e)
    have J6' : Tab s''.heap c P _ := J6.off hO.kp.keep fun x hx => by rw [List.mem_singleton.mp hx]; exact ⟨itP, Dull.range J7⟩
    have J4' : LsAt s''.heap r vs := J4.of_eq (hO.same _ itr.symm)
    refine stLC' J1' fun s₈ C8 sm8 => ?_
    have T8 : Tab s₈.heap c P _ := J6'.off sm8.keep fun x hx => by rw [List.mem_singleton.mp hx]; exact ⟨hPL.symm, Dull.ns J1'.I.ns⟩
    have l8 : LsAt s₈.heap r vs := J4'.of_eq (sm8 _ hrL)
    have it8 : IsRangeIter s₈.heap it (0 + (i + 1 : Nat) * 1) ((11 : Nat) - (i + 1 : Nat)) 1 := (sm8 _ itL).trans hit
    have hk : (0 : Int) + i * 1 = (i : Nat) := by omega
    have G8 := hG1 C8.I.kp
    obtain ⟨oI, docI, pmI, anI, ctI, a1, a2, a3⟩ := id sg.IR
    refine wpAny_execs_cons (wpAny_Expr (wpAny_Call_Name_kw (ldG (mg := mg) (sg.glo.keeps G8).g sg.mIR (cwF (o := oI) (fd := fnX "insort_right" "insort_right" dIR.1 dIR.2.1 dIR.2.2 [] d.dIR d.kIR docI pmI anI d.cIR ctI) ?_))))
    refine wpAny_items_cons (ldL C8.I.ns ((if_neg (by decide)).trans J2) (wpAny_items_cons (ldL C8.I.ns rfl (wpAny_items_nil ?_))))
    have bi := sg.builtins G8 hP
    refine wpAny_evalAll_cons (wpAny_bind (mkLam (c := c) (P := P) (clos := [("words", L + 1)]) rfl rfl rfl (sg.glo.keeps G8).g hc T8 bi.2 bi.1 fun f c' s₉ nf lf T9 k9 => wpAny_bind (wpAny_standAt (wpAny_pure (wpAny_evalAll_nil ?_)))))
    obtain ⟨ps8, eP8, _⟩ := T8.ex
    have C9 := C8.turn k9 (fun b hb => .inl hb) (fun q => hPL (List.mem_singleton.mp q).symm) (celln C8 eP8 fun v e => by cases e)
    have G9 := hG1 C9.I.kp
    have l9 : LsAt s₉.heap r vs := let ⟨nn, e⟩ := l8; ⟨nn, k9.keep _ _ (fun q => hrP (List.mem_singleton.mp q)) e⟩
    have it9 : IsRangeIter s₉.heap it (0 + (i + 1 : Nat) * 1) ((11 : Nat) - (i + 1 : Nat)) 1 := k9.keep _ _ (fun q => itP (List.mem_singleton.mp q)) it8
    refine ⟨⟨G9 _ _ a1, a2⟩, wpAny_call ?_⟩
    have hcw : s₉.heap.IsCell (L + 1) (some (.ref wl)) := J3 ▸ C9.cell "words" (L + 1) rfl
    have hw9 := wls C9.I.kp
    have hlen := J5.len
    rw [hk]
    obtain ⟨of, ff, of1, of2⟩ := lf.fn
    refine insort_call (n := n + 1) (c := fun j => decide (ht i < ht ((zs[j]?.getD 0).toNat))) (kv := .ref f) (PX := fun r => ∃ u, r = .str (bl (ht i)) u) (sg.IR.keeps G9) (sg.DIR.keeps G9) (sg.BR.keeps G9) (sg.DBR.keeps G9) (sg.glo.keeps G9) (sg.no "len" (by decide)) sg.mBR (hr'.less (by omega)) l9 (by rw [hlen.2]; omega)
      (.inr ⟨f, of, ff, rfl, of1, of2, rfl, lhKey (n := n + 1) sg G9 lf hcw hw9 hw hlt⟩) (fun xk hxk => .inr ⟨f, of, ff, rfl, of1, of2, fun j v _ hj hv => ?_⟩) fun p s₁₀ k10 l10 hB => ?_
    · obtain ⟨u, rfl⟩ := hxk
      obtain ⟨z, tz, ez⟩ : ∃ z t, vs[j]? = some (.int z t) ∧ zs[j]? = some z := by
        obtain ⟨z, hz⟩ : ∃ z, zs[j]? = some z := ⟨_, List.getElem?_eq_getElem (by omega)⟩
        obtain ⟨t, ht'⟩ := J5.isI.get j z hz
        exact ⟨z, t, ht', hz⟩
      have hv' : vs[j]? = some v := by simpa using hv
      rw [ez.1] at hv'; cases hv'
      obtain ⟨iz, rfl, hiz⟩ := J5.lt z (List.mem_of_getElem? ez.2)
      intro A' s' Q' hr'' kk hQ
      refine lhKey (n := n) (ht := ht) sg G9 lf hcw hw9 hw (by omega) A' s' Q' hr'' kk fun r' s'' kk' hr2 => hQ r' s'' kk' ?_
      obtain ⟨u', rfl⟩ := hr2
      have := LtIs.str (prog := prog) (w := w) (bl (ht i)) (bl (ht iz)) u u'
      rw [bl_lt] at this
      rw [ez.2]
      exact this
    · have C10 := C9.turn k10 (fun b hb => .inr (by rw [List.mem_singleton.mp hb]; exact nr0)) (fun q => hrL (List.mem_singleton.mp q).symm) (let ⟨nn, e⟩ := l9; celln C9 e fun v e => by cases e)
      refine wpAny_execs_nil ⟨_, _, _, _, C10, (if_neg (by decide)).trans J2, J3, l10, J5.ins (by have := hB.2.1; omega) (fun z h0 hz => ?_) (fun z hz => ?_), T9.off k10.keep fun x hx => ?_, k10.keep _ _ (fun q => itr (List.mem_singleton.mp q)) it9, hlt⟩
      · have : decide (ht i < ht ((zs[p - 1]?.getD 0).toNat)) = false := hB.2.2.1 h0
        rw [hz] at this
        have := of_decide_eq_false this
        simp only [Option.getD_some] at this
        show (ht z.toNat : Int) ≤ (ht (Int.toNat (i : Nat)) : Int)
        rw [Int.toNat_natCast]; omega
      · have hlt2 : p < vs.length := by have := (List.getElem?_eq_some_iff.mp hz).1; omega
        have : decide (ht i < ht ((zs[p]?.getD 0).toNat)) = true := hB.2.2.2 hlt2
        rw [hz] at this
        have := of_decide_eq_true this
        simp only [Option.getD_some] at this
        show (ht (Int.toNat (i : Nat)) : Int) < (ht z.toNat : Int)
        rw [Int.toNat_natCast]; omega
      · rw [List.mem_singleton.mp hx]
        exact ⟨hrP, Dull.ls l9⟩
  case fin =>
    rintro s' s'' ⟨m, cm, vs, zs, J1, J2, J3, J4, J5, J6, J7, J8⟩ hk
    have I₉ := J1.I.off hk it0 itL.symm
    have l9 : LsAt s''.heap r vs := let ⟨nn, e⟩ := J4; ⟨nn, hk.keep _ _ (fun q => itr (List.mem_singleton.mp q).symm) e⟩
    exact wpAny_execs_nil (wpAny_execs_cons (wpAny_Return_some (ldL I₉.ns J2 (h _ r vs zs I₉.kp nr0 l9 J5 (let ⟨ps, e, _⟩ := J6.ex; ⟨ps, hk.keep _ _ (fun q => itP (List.mem_singleton.mp q).symm) e⟩)))))
end
end Mine
end
section
open PySem PySem.W PySem.Calls PyProof.Rows
set_option maxRecDepth 100000
set_option Elab.async false
set_option maxHeartbeats 4000000
set_option autoImplicit false
set_option linter.unusedVariables false
namespace Mine
section
variable {prog : Program} {w : World} {A : Around} {E : Value → Shared → Prop} {s : Shared} {env : Env}

/-- what the end of a comprehension of pairs with a test tells -/
structure CompEndP (s₂ : Shared) (T : List Addr) (n : Nat) (J : Nat → List Value → Shared → Prop) (C D : Addr) (ys : List Value) (s' : Shared) : Prop where
  nD : s₂.heap.get? D = none
  nC : s₂.heap.get? C = none
  ne : D ≠ C
  kp : Kp T s₂ s'
  ls : LsAt s'.heap D ys
  j : J n ys s'
  cn : ∃ m, s'.heap.Ns C m
theorem comp_blockP {c elt iter : Expr} {x x₂ : Str} {px px₂ tp : Pos} {tk : Nat} {scope : Scope} {cl : List (Str × Addr)} {pos : Pos} {s₂ : Shared} {I : Addr} {fp wr : List Addr} {n : Nat} {Pt : Nat → Array Value → Prop} {St : Nat → Heap → Prop} {Mid : Nat → Addr → Heap → Prop}
    {RR : Value → Addr → Result → Shared → Prop} (hh : A.handled = none) (W : WalksT prog w A I fp wr n Pt St Mid) (hPt : ∀ i vals, Pt i vals → ∃ v₁ v₂, vals = #[v₁, v₂]) (hsz : n < 1000) (J : Nat → List Value → Shared → Prop)
    (hcell : ∀ y ∈ scope.names, y.2 ≠ .cell) (hkind : scope.kind = .function) (hx : scope.names.lookup x = some .local) (hx₂ : scope.names.lookup x₂ = some .local) (hxx : x ≠ x₂) (hst : St 0 s₂.heap) (hfp : ∀ b ∈ fp, b < s₂.heap.objs.size) (hJ0 : J 0 [] s₂)
    (hJ : ∀ i ys (s s' : Shared), J i ys s → (∀ b o, b < s₂.heap.objs.size → b ∉ wr → s.heap.get? b = some o → s'.heap.get? b = some o) → J i ys s')
    (turn : ∀ C i v₁ v₂ s m ys, i < n → Pt i #[v₁, v₂] → Loc s₂ wr C m s → m x = some v₁ → m x₂ = some v₂ → ys.length ≤ i → J i ys s →
      wpAny (model prog w) A (isTrue c (compEnvC scope cl C env) (eval c (compEnvC scope cl C env))) (fun ok s₃ => if ok = true then wpAny (model prog w) A (eval elt (compEnvC scope cl C env)) (fun y s' => Kp [] s s' ∧ J (i + 1) (ys ++ [y]) s') (fun _ _ => False) s₃ else Kp [] s s₃ ∧ J (i + 1) ys s₃) (fun _ _ => False) s)
    (hRR : ∀ D C m s' ys, s'.heap.Ns C m → CompEndP s₂ wr n J C D ys s' → RR (.ref D) C (.ok .next) s') :
    wpAny (model prog w) A (newList []) (fun acc s₃ => wpAny (model prog w) A (newFunctionEnv scope env.globals cl [] env.qual none .none (some env)) (fun cenv s₄ =>
      codeAny (model prog w) A (.compStart (.ListComp elt [⟨.Tuple [.Name x px, .Name x₂ px₂] tk tp, iter, [c], 0⟩] scope pos) 0 (.ref I) acc { cenv with scope := relabel scope env }) (RR acc cenv.locals) s₄) E s₃) E s₂ := by
  refine wpAny_newObj_type (wpAny_newFunctionEnv hcell (by intro y hy; simp at hy) (fun h₁ hns₁ hsb₁ => ?_) hkind)
  dsimp only at hns₁ hsb₁ ⊢
  generalize hH2 : s₂.heap.push { cls := .type "list", dict := none, data := .seq ([] : List Value).toArray } = H2 at hns₁ hsb₁ ⊢
  have hC : H2.objs.size = s₂.heap.objs.size + 1 := by rw [← hH2, Heap.size_push]
  have hDC : s₂.heap.objs.size ≠ H2.objs.size := by rw [hC]; exact Nat.ne_of_lt (Nat.lt_succ_self _)
  have below : ∀ b, b < s₂.heap.objs.size → b ≠ H2.objs.size ∧ b ≠ s₂.heap.objs.size := fun b hb => ⟨by rw [hC]; exact Nat.ne_of_lt (Nat.lt_succ_of_lt hb), Nat.ne_of_lt hb⟩
  have hDf : s₂.heap.objs.size ∉ fp := fun hm => Nat.lt_irrefl _ (hfp _ hm)
  have hCf : H2.objs.size ∉ fp := fun hm => by have := hfp _ hm; rw [hC] at this; exact Nat.lt_irrefl _ (Nat.lt_of_succ_lt this)
  have hDw : s₂.heap.objs.size ∉ wr := fun h => hDf (W.sub _ h)
  have hCw : H2.objs.size ∉ wr := fun h => hCf (W.sub _ h)
  have old : ∀ b o, s₂.heap.get? b = some o → h₁.get? b = some o := fun b o e => hsb₁.extBut b o (below b (Heap.lt_size e)).1 (Heap.get?_push_of_some _ (hH2 ▸ Heap.get?_push_of_some _ e))
  have hacc : LsAt h₁ s₂.heap.objs.size [] := ⟨0, hsb₁.extBut _ _ hDC (Heap.get?_push_of_some _ (hH2 ▸ Heap.get?_push_size _ rfl))⟩
  have hst₁ : St 0 h₁ := W.frame _ _ _ hst fun b _ o e => old b o e
  have nD : s₂.heap.get? s₂.heap.objs.size = none := Heap.get?_none_of_le (Nat.le_refl _)
  have nC : s₂.heap.get? H2.objs.size = none := Heap.get?_none_of_le (by rw [hC]; exact Nat.le_succ _)
  have loop : ∀ s₃ : Shared, s₃ = { s₂ with heap := h₁, toks := s₂.toks + ([] : List (Str × Value)).length } →
      codeAny (model prog w) A (.compLoop (.ListComp elt [⟨.Tuple [.Name x px, .Name x₂ px₂] tk tp, iter, [c], 0⟩] scope pos) 0 (.ref I) (.ref s₂.heap.objs.size) (compEnvC scope cl H2.objs.size env))
        (RR (.ref s₂.heap.objs.size) H2.objs.size) s₃ := by
    rintro s₃ rfl
    refine kct_loop (fun k s' => ∃ i m ys, i ≤ n ∧ k = n + 1 - i ∧ St i s'.heap ∧ LsAt s'.heap s₂.heap.objs.size ys ∧ Loc s₂ wr H2.objs.size m s' ∧ ys.length ≤ i ∧ J i ys s') ?_ (n + 1) ⟨0, _, [], Nat.zero_le _, rfl, hst₁, hacc, ⟨hns₁, ⟨fun b o _ e => old b o e, rfl, id⟩, by rw [hC]; exact Nat.le_succ _⟩, Nat.le_refl _, hJ 0 [] _ _ hJ0 fun b o hb _ e => old b o e⟩
    rintro k s' ⟨i, m, ys, hi, rfl, hst', hacc', I', hlen, hj⟩
    by_cases hlt : i < n
    · refine W.item i _ _ _ hlt hst' fun t vals h₂ tk₂ hPv hnew ht hmid hk₂ => ?_
      refine W.go _ _ _ _ _ _ _ _ hmid fun h₃ hst₃ hk₃ => ?_
      obtain ⟨v₁, v₂, rfl⟩ := hPt i vals hPv
      have htw : t ∉ wr := W.apart _ _ _ hmid
      have ht₃ : IsTup h₃ t #[v₁, v₂] := let ⟨o, e, r⟩ := ht; ⟨o, hk₃ _ _ htw e, r⟩
      refine assign_Tuple_tuple hh ht₃ rfl rfl fun h₄ he => ?_
      have he' : ∀ b o, h₃.get? b = some o → h₄.get? b = some o := fun b o e => he b o (Nat.ne_of_lt (Heap.lt_size e)) e
      have up4 : ∀ b o, b ∉ wr → s'.heap.get? b = some o → h₄.get? b = some o := fun b o hb e => he' _ _ (hk₃ b o hb (hk₂ b o hb e))
      refine assignInOrder_cons (wpAny_assign_Name (wpAny_storeName_local (lookup_relabel_local hx) (I'.ns.at' fun o e => up4 _ o hCw e) (fun h₅ hn₅ hs₅ => ?_) (by simp [compEnvC, relabel, hkind])))
      refine assignInOrder_cons (wpAny_assign_Name (wpAny_storeName_local (lookup_relabel_local hx₂) hn₅ (fun h₆ hn₆ hs₆ => ?_) (by simp [compEnvC, relabel, hkind])))
      refine assignInOrder_nil ?_
      have up : ∀ b o, b ≠ H2.objs.size → b ∉ wr → s'.heap.get? b = some o → h₆.get? b = some o := fun b o hbC hbf e => hs₆.extBut b o hbC (hs₅.extBut b o hbC (up4 b o hbf e))
      have hst₆ : St (i + 1) h₆ := W.frame _ _ _ hst₃ fun b hb o e => hs₆.extBut b o (fun (h : b = H2.objs.size) => hCf (h ▸ hb)) (hs₅.extBut b o (fun (h : b = H2.objs.size) => hCf (h ▸ hb)) (he' b o e))
      have I₆ : Loc s₂ wr H2.objs.size _ { s' with heap := h₆, toks := tk₂ + 1 + 1 } := ⟨hn₆, ⟨fun b o nb e => up b o (below b (Heap.lt_size e)).1 nb (I'.kp.keep b o nb e), I'.kp.os, I'.kp.gens⟩, I'.above⟩
      have hacc₆ : LsAt h₆ s₂.heap.objs.size ys := let ⟨q, e⟩ := hacc'; ⟨q, up _ _ hDC hDw e⟩
      have hj₆ := hJ i ys _ { s' with heap := h₆, toks := tk₂ + 1 + 1 } hj fun b o hb hbw e => up b o (below b hb).1 hbw e
      refine wpAny_mono (turn H2.objs.size i v₁ v₂ { s' with heap := h₆, toks := tk₂ + 1 + 1 } _ ys hlt hPv I₆ (by simp [hxx]) (by simp) hlen hj₆) (fun ok s₇ h₇ => ?_) fun _ _ e => e.elim
      have fin : ∀ (s₈ : Shared) (ys' : List Value), Kp [] { s' with heap := h₆, toks := tk₂ + 1 + 1 } s₈ → J (i + 1) ys' s₈ → ys'.length ≤ i + 1 → LsAt s₈.heap s₂.heap.objs.size ys →
          ∀ s₉ : Shared, Only s₂.heap.objs.size s₈ s₉ → LsAt s₉.heap s₂.heap.objs.size ys' → ∃ m', m' < n + 1 - i ∧ ∃ i m ys, i ≤ n ∧ m' = n + 1 - i ∧ St i s₉.heap ∧ LsAt s₉.heap s₂.heap.objs.size ys ∧ Loc s₂ wr H2.objs.size m s₉ ∧ ys.length ≤ i ∧ J i ys s₉ := by
        intro s₈ ys' k₈ j₈ l₈ a₈ s₉ o₉ a₉
        refine ⟨n + 1 - (i + 1), by omega, i + 1, _, ys', hlt, rfl, ?_, a₉, ⟨(I₆.ns.keeps k₈.all).at' fun o e => (o₉.same _ (Ne.symm hDC)).trans e, ?_, I₆.above⟩, l₈, ?_⟩
        · refine W.frame _ _ _ (W.frame _ _ _ hst₆ fun b hb o e => k₈.all b o e) fun b hb o e => (o₉.same b (fun q => hDf (q ▸ hb))).trans e
        · exact ⟨fun b o nb e => (o₉.same b (below b (Heap.lt_size e)).2).trans (k₈.all b o (I₆.kp.keep b o nb e)), o₉.os.trans (k₈.os.trans I₆.kp.os), fun g => o₉.gens ▸ k₈.gens (I₆.kp.gens g)⟩
        · exact hJ _ _ _ _ j₈ fun b o hb _ e => (o₉.same b (below b hb).2).trans e
      cases ok with
      | false =>
        simp only [Bool.false_eq_true, if_false] at h₇ ⊢
        have a7 := hacc₆.keeps h₇.1.all
        exact fin s₇ ys h₇.1 h₇.2 (Nat.le_succ_of_le hlen) a7 s₇ ⟨fun _ _ => rfl, rfl, rfl⟩ a7
      | true =>
        simp only [if_true] at h₇ ⊢
        refine wpAny_mono h₇ (fun y s₈ h₈ => ?_) fun _ _ e => e.elim
        have a8 := hacc₆.keeps h₈.1.all
        refine appL a8 (by omega) fun s₉ l₉ o₉ => ?_
        exact fin s₈ (ys ++ [y]) h₈.1 h₈.2 (by rw [List.length_append, List.length_singleton]; omega) a8 s₉ o₉ l₉
    · obtain rfl : i = n := Nat.le_antisymm hi (Nat.not_lt.mp hlt)
      refine W.done _ _ _ hst' fun h₂ tk₂ hk₂ => ?_
      refine hRR _ _ m _ ys (I'.ns.at' fun o e => hk₂ _ o hCw e) ⟨nD, nC, hDC, ?_, let ⟨q, e⟩ := hacc'; ⟨q, hk₂ _ _ hDw e⟩, hJ _ _ _ _ hj fun b o _ hbw e => hk₂ b o hbw e, ⟨m, I'.ns.at' fun o e => hk₂ _ o hCw e⟩⟩
      exact ⟨fun b o nb e => hk₂ b o nb (I'.kp.keep b o nb e), I'.kp.os, I'.kp.gens⟩
  exact codeAny_compStart_list (loop _ rfl) (W.self 0 _ _ _ hst₁ (loop _ rfl))

def CompSrcP (prog : Program) (w : World) (A : Around) (env : Env) (c elt : Expr) (x x₂ : Str) (scope : Scope) (cl : List (Str × Addr)) (Fin : Addr → Addr → List Value → Shared → Prop) (it : Value) (s₂ : Shared) : Prop :=
  ∃ I fp wr n Pt St Mid J, it = .ref I ∧ WalksT prog w A I fp wr n Pt St Mid ∧ (∀ i vals, Pt i vals → ∃ v₁ v₂, vals = #[v₁, v₂]) ∧ n < 1000 ∧ St 0 s₂.heap ∧ (∀ b ∈ fp, b < s₂.heap.objs.size) ∧ J 0 [] s₂ ∧
    (∀ i ys (s s' : Shared), J i ys s → (∀ b o, b < s₂.heap.objs.size → b ∉ wr → s.heap.get? b = some o → s'.heap.get? b = some o) → J i ys s') ∧
    (∀ C i v₁ v₂ s m ys, i < n → Pt i #[v₁, v₂] → Loc s₂ wr C m s → m x = some v₁ → m x₂ = some v₂ → ys.length ≤ i → J i ys s →
      wpAny (model prog w) A (isTrue c (compEnvC scope cl C env) (eval c (compEnvC scope cl C env))) (fun ok s₃ => if ok = true then wpAny (model prog w) A (eval elt (compEnvC scope cl C env)) (fun y s' => Kp [] s s' ∧ J (i + 1) (ys ++ [y]) s') (fun _ _ => False) s₃ else Kp [] s s₃ ∧ J (i + 1) ys s₃) (fun _ _ => False) s) ∧
    (∀ D C s' ys, CompEndP s₂ wr n J C D ys s' → Fin C D ys s')

theorem compPA {c elt iter : Expr} {x x₂ y : Str} {px px₂ tp py : Pos} {tk : Nat} {scope : Scope} {cl : List (Str × Addr)} {pos spos : Pos} {rest : List Stmt} {Q : Flow → Shared → Prop} (hh : A.handled = none)
    (h : wpAny (model prog w) A (eval iter env) (fun xv s₁ => wpAny (model prog w) A (pyIter xv) (CompSrcP prog w A env c elt x x₂ scope cl fun C D ys s' =>
      wpAny (model prog w) A (storeName env y (.ref D)) (fun _ s'' => (∀ m, s'.heap.Ns C m → s''.heap.Ns C m) ∧ ∀ s''', Kp [C] s'' s''' → wpAny (model prog w) A (execs rest env) Q E s''') E s') E s₁) E s)
    (hsw : swapsWith (.ListComp elt [⟨.Tuple [.Name x px, .Name x₂ px₂] tk tp, iter, [c], 0⟩] scope pos) (some (.Name y py)) spos.line env = pure true := by with_unfolding_all rfl)
    (hclos : closureFor scope env = pure cl := by rfl) (hcell : ∀ y ∈ scope.names, y.2 ≠ .cell := by decide) (hkind : scope.kind = .function := by rfl)
    (hnames : ∀ y ∈ scope.names, y.2 = .local → scope.names.lookup y.1 = some .local := by decide) (hx : scope.names.lookup x = some .local := by rfl) (hx₂ : scope.names.lookup x₂ = some .local := by rfl) (hxx : x ≠ x₂ := by decide)
    (hs : ∀ x, foldedSetIterable iter env x = pure x := by intro _; rfl) :
    wpAny (model prog w) A (execs (.Assign [.Name y py] (.ListComp elt [⟨.Tuple [.Name x px, .Name x₂ px₂] tk tp, iter, [c], 0⟩] scope pos) spos :: rest) env) Q E s := by
  refine wpAny_execs_cons ?_
  rw [exec_Assign_Name_used _ _ _ _ hsw]
  refine wpAny_bind (wpAny_standAt (wpAny_bind ?_))
  show wpAny _ A (do let _ ← comprehension (.ListComp elt [⟨.Tuple [.Name x px, .Name x₂ px₂] tk tp, iter, [c], 0⟩] scope pos) scope env _ (newList []) false (eval iter env) (some (assign (.Name y py) env))) _ _ s
  refine wpAny_bind (wpAny_mono (wpAny_comprehension_free (use := some (assign (.Name y py) env)) (Q := fun _ s' => wpAny (model prog w) A (execs rest env) Q E s') rfl hs hclos hkind hnames
    (wpAny_mono h (fun xv s₁ h₁ => wpAny_mono h₁ (fun it s₂ h₂ => ?_) fun _ _ e => e) fun _ _ e => e)) (fun _ s' hq => wpAny_pure (wpAny_pure hq)) fun _ _ e => e)
  obtain ⟨I, fp, wr, n, Pt, St, Mid, J, rfl, W, hPt, hsz, hst, hfp, hJ0, hJ, turn, fin⟩ := h₂
  refine comp_blockP (RR := fun acc C => compPost (model prog w) A E (some (assign (.Name y py) env)) (fun _ s' => wpAny (model prog w) A (execs rest env) Q E s') acc C) hh W hPt hsz J hcell hkind hx hx₂ hxx hst hfp hJ0 hJ turn ?_
  intro D C m s' ys hn ce
  show wpAny _ A (assign (.Name y py) env (.ref D)) _ _ _
  refine wpAny_assign_Name (wpAny_mono (fin D C s' ys ce) (fun _ s'' h'' => ?_) fun _ _ e => e)
  exact ⟨m, h''.1 m hn, fun h₃ hs₃ => h''.2 _ ⟨fun b o nb e => hs₃.extBut b o (fun q => nb (List.mem_singleton.mpr q)) e, rfl, id⟩⟩
end
end Mine
end
section
open PySem PySem.W PySem.Calls PyProof.Rows
set_option maxRecDepth 100000
set_option Elab.async false
set_option maxHeartbeats 4000000
set_option autoImplicit false
set_option linter.unusedVariables false
namespace Mine
theorem es_canLayAll0 : ∀ ss : List Str, (∀ x ∈ ss, PyData.strOk x = true) → PyData.canLayAll0 (ss.map PyData.str) = true
  | [], _ => rfl
  | x :: r, h => by simp [PyData.canLayAll0, PyData.canLay0, es_canLayAll0 r fun y hy => h y (List.mem_cons_of_mem _ hy), h x]
theorem es_depthAll : ∀ ns : List Str, PyData.depthAll (ns.map PyData.str) = 0
  | [] => rfl
  | _ :: r => by simp [PyData.depthAll, PyData.depth, es_depthAll r]
theorem es_shaped (ss : List Str) (h : ∀ x ∈ ss, PyData.strOk x = true) : SeqAt.shaped (.list (ss.map PyData.str)) = true := by
  simp [SeqAt.shaped, PyData.canLay0, PyData.depth, es_canLayAll0 ss h, es_depthAll]
theorem es_sameAll : ∀ ns ms : List Str, PySem.Spec.sameAll (ns.map PyData.str) (ms.map PyData.str) = decide (ns = ms)
  | [], [] => by simp [PySem.Spec.sameAll]
  | [], _ :: _ => by simp [PySem.Spec.sameAll]
  | _ :: _, [] => by simp [PySem.Spec.sameAll]
  | a :: r, b :: t => by
    simp only [List.map_cons, PySem.Spec.sameAll, PySem.Spec.same, es_sameAll r t]
    by_cases h : a = b <;> by_cases h' : r = t <;> simp [h, h']
theorem es_same (ns ms : List Str) : PySem.Spec.same (.list (ns.map PyData.str)) (.list (ms.map PyData.str)) = decide (ns = ms) := by
  simp only [PySem.Spec.same]; exact es_sameAll ns ms
theorem es_carried : ∀ {vs : List Value} {ss : List Str}, StrsAre vs ss → CarriedAll vs (ss.map PyData.str)
  | _, _, .nil => .nil
  | _, _, .cons _ t r => .cons (.str _ t) (es_carried r)
theorem Rm.roomy {n : Nat} {A : Around} (h : Rm (n + 7) A) : A.units + 64 < cLine := by
  obtain ⟨a, b, c⟩ := h
  show A.units + 64 < 9900
  omega
section
variable {prog : Program} {w : World} {A : Around} {E : Value → Shared → Prop} {s : Shared} {a b : Addr} {xs ys : List Value} {ss ts : List Str} {Q : Value → Shared → Prop} {n : Nat}
theorem eqS (ha : s.heap.IsList a xs.toArray) (hb : s.heap.IsList b ys.toArray) (hi : StrsAre xs ss) (hj : StrsAre ys ts) (h1 : ∀ x ∈ ss, PyData.strOk x = true) (h2 : ∀ x ∈ ts, PyData.strOk x = true) (hr : Rm (n + 7) A) (h : Q (.bool (decide (ss = ts))) s) :
    wpAny (model prog w) A (compareOp .Eq (.ref a) (.ref b)) Q E s :=
  eq_dataH_same (reads_newData ha (es_carried hi)) (reads_newData hb (es_carried hj)) (es_shaped _ h1) (es_shaped _ h2) hr.roomy (SeqAt.noMix_of_shape (.list .str) rfl _ _ (list_map_has fun _ => rfl) (list_map_has fun _ => rfl)) (by rw [es_same]; exact h)
theorem neS (ha : s.heap.IsList a xs.toArray) (hb : s.heap.IsList b ys.toArray) (hi : StrsAre xs ss) (hj : StrsAre ys ts) (h1 : ∀ x ∈ ss, PyData.strOk x = true) (h2 : ∀ x ∈ ts, PyData.strOk x = true) (hr : Rm (n + 7) A) (h : Q (.bool (!decide (ss = ts))) s) :
    wpAny (model prog w) A (compareOp .NotEq (.ref a) (.ref b)) Q E s :=
  ne_dataH_same (reads_newData ha (es_carried hi)) (reads_newData hb (es_carried hj)) (es_shaped _ h1) (es_shaped _ h2) hr.roomy (SeqAt.noMix_of_shape (.list .str) rfl _ _ (list_map_has fun _ => rfl) (list_map_has fun _ => rfl)) (by rw [es_same]; exact h)
variable {vs : List Value} {ns ms : List Int} {l : Addr}
theorem neI (ha : s.heap.IsList a xs.toArray) (hb : s.heap.IsList b ys.toArray) (hi : IntsAre xs ns) (hj : IntsAre ys ms) (hr : Rm (n + 7) A) (h : Q (.bool (!decide (ns = ms))) s) :
    wpAny (model prog w) A (compareOp .NotEq (.ref a) (.ref b)) Q E s := ke_ne_ints ha hb hi hj hr.roomy h
theorem minL (hh : A.handled = none) (hl : s.heap.IsList l vs.toArray) (hi : IntsAre vs ns) (hne : 0 < ns.length)
    (h : ∀ s' M t, Kp [] s s' → M ∈ ns → (∀ a, a ∈ ns → M ≤ a) → Q (.int M t) s') : wpAny (model prog w) A (call (.builtin "min") [.ref l]) Q E s := by
  obtain ⟨xs, e⟩ := hi.allInts.items
  have hns : ns = xs.toList.map (·.1) := by
    rw [← hi.numsOf, ← nums_intItems, ← e]
  have hsz : 0 < xs.size := by
    have h3 := hne; rw [hns, List.length_map, Array.length_toList] at h3; exact h3
  rw [e] at hl
  refine min_intList hh hl hsz fun v h' tk hv hk => ?_
  obtain ⟨t, rfl⟩ := intItems_at hv
  obtain ⟨h1, h2⟩ := argBest_lt (numAt xs) (xs.size - 1)
  refine h _ _ t ⟨fun b o _ e => hk b o e, rfl, id⟩ ?_ fun a ha => ?_
  · rw [hns, numAt_eq]; exact getD_mem (by rw [List.length_map, Array.length_toList]; omega)
  · rw [hns] at ha
    obtain ⟨j, hj, rfl⟩ := mem_getD ha
    rw [List.length_map, Array.length_toList] at hj
    rw [← numAt_eq]; exact h2 j (by omega)
theorem maxL (hh : A.handled = none) (hl : s.heap.IsList l vs.toArray) (hi : IntsAre vs ns) (hne : 0 < ns.length)
    (h : ∀ s' M t, Kp [] s s' → M ∈ ns → (∀ a, a ∈ ns → a ≤ M) → Q (.int M t) s') : wpAny (model prog w) A (call (.builtin "max") [.ref l]) Q E s := by
  obtain ⟨xs, e⟩ := hi.allInts.items
  have hns : ns = xs.toList.map (·.1) := by
    rw [← hi.numsOf, ← nums_intItems, ← e]
  have hsz : 0 < xs.size := by
    have h3 := hne; rw [hns, List.length_map, Array.length_toList] at h3; exact h3
  rw [e] at hl
  refine max_intList hh hl hsz fun v h' tk hv hk => ?_
  obtain ⟨t, rfl⟩ := intItems_at hv
  obtain ⟨h1, h2⟩ := argBest_gt (numAt xs) (xs.size - 1)
  refine h _ _ t ⟨fun b o _ e => hk b o e, rfl, id⟩ ?_ fun a ha => ?_
  · rw [hns, numAt_eq]; exact getD_mem (by rw [List.length_map, Array.length_toList]; omega)
  · rw [hns] at ha
    obtain ⟨j, hj, rfl⟩ := mem_getD ha
    rw [List.length_map, Array.length_toList] at hj
    rw [← numAt_eq]; exact h2 j (by omega)
/-- False in a list that holds nothing but True -/
theorem inTrue (hl : s.heap.IsList l vs.toArray) (hv : ∀ v ∈ vs, v = .bool true) (h : Q (.bool false) s) : wpAny (model prog w) A (compareOp .In (.bool false) (.ref l)) Q E s := by
  refine SeqAt.in_listAt (fun _ => false) hl (fun y hy => ?_) ?_
  · have := hv y (by simpa using hy)
    subst this
    exact SeqAt.EqAt.bool_bool true false
  · have : (vs.toArray.any fun _ => false) = false := by simp
    rw [this]; exact h
/-- a list against the empty one -/
theorem eqNil (hl : s.heap.IsList l vs.toArray) (hb : s.heap.IsList b ([] : List Value).toArray) (hv : vs ≠ []) (hr : Rm (n + 7) A) (h : Q (.bool false) s) : wpAny (model prog w) A (compareOp .Eq (.ref l) (.ref b)) Q E s := by
  refine SeqAt.eq_list_lengthsAt hl hb ?_ (Nat.lt_of_le_of_lt (Nat.le_add_right _ 64) hr.roomy) h
  cases vs with
  | nil => exact absurd rfl hv
  | cons _ _ => rfl
/-- l[-1] -/
theorem lst_last {value slice : Expr} {u : Tok} {x : Value} (hl : s.heap.IsList l (vs ++ [x]).toArray) (h : Q x s)
    (hs : subscripted slice false (.ref l) (.int (-1) u) = operate [.ref l, .int (-1) u] (getItem (.ref l) (.int (-1) u)) := by with_unfolding_all rfl) :
    wpAny (model prog w) A (subscriptTail value slice (.ref l) (.int (-1) u)) Q E s := by
  refine tail_any hl.typeIs slot_list_getitem.lookup (wpAny_getItem_list_neg hl (by decide) ?_ (by decide) ?_ h) hs
  · rw [List.size_toArray, List.length_append, List.length_singleton]; omega
  · rw [List.size_toArray, List.length_append, List.length_singleton]
    have : (-1 + ((vs.length + 1 : Nat) : Int)).toNat = vs.length := by omega
    rw [this]
    simp
end
end Mine
end
section
open PySem PySem.W PySem.Calls PyProof.Rows
set_option maxRecDepth 100000
set_option Elab.async false
set_option maxHeartbeats 4000000
set_option autoImplicit false
set_option linter.unusedVariables false
namespace Mine

/-- gens that are not bare: what is said of them is said of nothing -/
def badG : Array GenState := #[.suspended (fun _ => .raise .none) [] (.call .none ⟨[], []⟩) default [] true]
theorem badG_not : ¬ AllBare badG := fun h => by
  have := h (.suspended (fun _ => .raise .none) [] (.call .none ⟨[], []⟩) default [] true) (by simp [badG])
  simp [GenState.bare] at this
abbrev fake (s : Shared) : Shared := { s with gens := badG }
theorem Kp.fake {T : List Addr} {s s' : Shared} (k : Kp T s s') : Kp T (fake s) s' := ⟨k.keep, k.os, fun g => absurd g badG_not⟩
theorem Kp.unfake {T : List Addr} {s s' : Shared} (k : Kp T (Mine.fake s) s') (g : AllBare s.gens → AllBare s'.gens) : Kp T s s' := ⟨k.keep, k.os, g⟩

section
variable {M : Model} {A : Around} {E : Value → Shared → Prop} {s₀ s s' : Shared} {T : List Addr} {L : Addr} {m cm : Str → Option Value} {cs : List (Str × Addr)} {env : Env} {x : Str} {v : Value}
theorem stLG {Q : Unit → Shared → Prop} (C : LocC s₀ T env.locals m env.cells cm s) (h : ∀ s', LocC s₀ T env.locals (upd m x v) env.cells cm s' → SameL env.locals s s' → s'.gens = s.gens → Q () s')
    (hk : env.scope.kind = .function := by rfl) (hx : env.kindOf x = some .local := by rfl) : wpAny M A (storeName env x v) Q E s := by
  refine wpAny_storeName_local hx C.I.ns (fun h' hn hs => h _ ⟨⟨hn, ⟨fun b o n e => (hs.2 b (fun q => by have := C.I.fresh; rw [q, this] at e; cases e)).trans (C.I.kp.keep b o n e), C.I.kp.os, C.I.kp.gens⟩, C.I.above⟩, fun n c e => ?_, C.apart, C.above⟩ hs.2 rfl) (by rw [hk]; rfl)
  obtain ⟨o, e1, e2⟩ := C.cell n c e
  exact ⟨o, (hs.2 c (Nat.ne_of_gt (C.above n c (mem_of_lookup e)))).trans e1, e2⟩
end

section
variable {prog : Program} {w : World} {A : Around} {E : Value → Shared → Prop} {s : Shared} {l : Addr} {vs : List Value} {Q : Value → Shared → Prop}
theorem foldV (x : List Value) : ∀ (n : Nat) (acc : Array Value), (List.replicate n x.toArray).foldl (· ++ ·) acc = acc ++ (List.replicate n x).flatten.toArray
  | 0, acc => by simp
  | n + 1, acc => by
    rw [List.replicate_succ, List.replicate_succ, List.foldl_cons, foldV x n, List.flatten_cons]
    apply Array.ext'
    simp
theorem mulG {items : Array Value} {k : Nat} {x : Int} {u : Tok} (hl : s.heap.get? l = some { cls := .type "list", dict := none, data := .seq items k, slots := #[] })
    (hlo : -(2 ^ 63 : Int) ≤ x) (hhi : x < 2 ^ 63) (hsz : items.size * x.toNat ≤ 2 ^ 24)
    (h : Q (.ref s.heap.objs.size) { s with heap := s.heap.push { cls := .type "list", data := .seq (List.foldl (fun x1 x2 => x1 ++ x2) #[] (List.replicate (if items.isEmpty = true then 0 else x.toNat) items)) } }) :
    wpAny (model prog w) A (binaryOp .Mult (.ref l) (.int x u)) Q E s :=
  wpAny_binaryOp_repeat_ref (T := "list") (U := "int") (by decide) ⟨_, hl, rfl⟩ (fun s' => typeIs_int s' x u) noFill_list_mul F.fills_int_mul F.slot_int_rmul repeat_list F.slot_int_index.lookup
    (call_meets F.slot_int_rmul (typeIs_int s x u) F.entry_int_rmul (F.args_int_rmul_2 _ _) (int___rmul___int_list x u l items k)
      ⟨hl, rfl, ⟨_, hl, rfl⟩, call_meets F.slot_list_mul ⟨_, hl, rfl⟩ F.entry_list_mul (F.args_list_mul_2 _ _)
        (AutoListH.list___mul___list_int_3 l items k x u (by simp [Builtin.List.listFitsIndex]; omega) (by omega) (by simp [Builtin.List.listTooLong, sizeLine]; omega))
        ⟨hl, h⟩⟩)
/-- [x] * n -/
theorem mulL1 {v : Value} {n : Nat} {u : Tok} (hl : LsAt s.heap l [v]) (hn : n < 1000) (h : ∀ s' r, s.heap.get? r = none → LsAt s'.heap r (List.replicate n v) → Kp [] s s' → Q (.ref r) s') :
    wpAny (model prog w) A (binaryOp .Mult (.ref l) (.int n u)) Q E s := by
  obtain ⟨k, hl⟩ := hl
  refine mulG hl (by omega) (by omega) (by rw [List.size_toArray, List.length_singleton, Int.toNat_natCast]; omega) (h _ _ (Heap.get?_none_of_le (Nat.le_refl _)) ⟨0, ?_⟩ (Kp.push (tk := s.toks)))
  have e : List.foldl (fun x1 x2 => x1 ++ x2) #[] (List.replicate (if [v].toArray.isEmpty = true then 0 else (n : Int).toNat) [v].toArray) = (List.replicate n v).toArray := by
    rw [if_neg (by simp), Int.toNat_natCast]
    have := foldV [v] n #[]
    rw [this]
    have : ∀ n : Nat, (List.replicate n [v]).flatten = List.replicate n v := fun n => by
      induction n with
      | zero => rfl
      | succ n ih => rw [List.replicate_succ, List.flatten_cons, ih, List.replicate_succ]; rfl
    simp [this]
  rw [e]
  exact Heap.get?_push_size _ rfl
end
abbrev qLC : Str := "_law_crossed" ++ ".<locals>." ++ "<lambda>"
abbrev celC (L : Addr) : List (Str × Addr) := cellsFrom (L + 1) dLC.2.2.names []
abbrev envC (L : Addr) (d : Ads) : Env := envX "_law_crossed" dLC.2.2 L d.fLC d.cLC (celC L)
/-- in _law_crossed's frame -/
structure LCs (s₀ : Shared) (L c P wl gl : Addr) (a : Nat) (m cm : Str → Option Value) (s : Shared) : Prop where
  C : LocC s₀ [P] L m (celC L) cm s
  T : Tab s.heap c P qLC
  w : cm "words" = some (.ref wl)
  g : cm "gaps" = some (.ref gl)
  x : ∃ t, cm "across" = some (.int a t)
  nP : ∃ o, s₀.heap.get? P = some o
section
variable {M : Model} {A : Around} {E : Value → Shared → Prop} {d : Ads} {s₀ s s' : Shared} {L c P wl gl x : Addr} {a : Nat} {m cm : Str → Option Value} {nm : Str} {v : Value}
theorem LCs.PL (S : LCs s₀ L c P wl gl a m cm s) : P ≠ L := fun q => by
  obtain ⟨o, e⟩ := S.nP
  have := S.C.I.fresh
  rw [← q, e] at this; cases this
theorem LCs.call (S : LCs s₀ L c P wl gl a m cm s) (k : Kp [] s s') : LCs s₀ L c P wl gl a m cm s' := ⟨S.C.call k, S.T.keeps k.all, S.w, S.g, S.x, S.nP⟩
theorem LCs.tok (S : LCs s₀ L c P wl gl a m cm s) {tk : Nat} : LCs s₀ L c P wl gl a m cm { s with toks := tk } := ⟨S.C.tok, S.T, S.w, S.g, S.x, S.nP⟩
/-- behind a turn of things that are not the frame's own -/
theorem LCs.offs {T' : List Addr} (S : LCs s₀ L c P wl gl a m cm s) (k : Kp T' s s') (h0 : ∀ b ∈ T', s₀.heap.get? b = none ∧ b ≠ L ∧ ∀ o, s.heap.get? b = some o → Dull o ∧ ∀ v, o.data ≠ .cell v) : LCs s₀ L c P wl gl a m cm s' where
  C := S.C.turn k (fun b hb => .inr (h0 b hb).1) (fun q => (h0 _ q).2.1 rfl) fun n cc e q => by
    obtain ⟨o, e1, e2⟩ := S.C.cell n cc e
    exact ((h0 _ q).2.2 o e1).2 _ e2
  T := S.T.off k.keep fun b hb => ⟨fun q => (by obtain ⟨o, e⟩ := S.nP; have := (h0 b hb).1; rw [q, e] at this; cases this), fun o e => ((h0 b hb).2.2 o e).1⟩
  w := S.w
  g := S.g
  x := S.x
  nP := S.nP
theorem LCs.off (S : LCs s₀ L c P wl gl a m cm s) (k : Kp [x] s s') (h0 : s₀.heap.get? x = none) (h1 : x ≠ L) (h2 : ∀ o, s.heap.get? x = some o → Dull o ∧ ∀ v, o.data ≠ .cell v) : LCs s₀ L c P wl gl a m cm s' :=
  S.offs k fun b hb => by rw [List.mem_singleton.mp hb]; exact ⟨h0, h1, h2⟩
theorem LCs.st {Q : Unit → Shared → Prop} (S : LCs s₀ L c P wl gl a m cm s) (h : ∀ s', LCs s₀ L c P wl gl a (upd m nm v) cm s' → SameL L s s' → s'.gens = s.gens → Q () s') (hx : (envC L d).kindOf nm = some .local := by rfl) : wpAny M A (storeName (envC L d) nm v) Q E s :=
  stLG (env := envC L d) S.C (fun s' C' sm g => h s' ⟨C', S.T.off sm.keep fun b hb => by rw [List.mem_singleton.mp hb]; exact ⟨S.PL.symm, Dull.ns S.C.I.ns⟩, S.w, S.g, S.x, S.nP⟩ sm g) rfl hx
theorem LCs.set {Q : Flow → Shared → Prop} {e : Expr} {rest : List Stmt} {p1 p2 : Pos} (h : wpAny M A (eval e (envC L d)) (fun v s₁ => wpAny M A (storeName (envC L d) nm v) (fun _ s₂ => wpAny M A (execs rest (envC L d)) Q E s₂) E s₁) E s)
    (hs : swapsWith e (some (.Name nm p1)) p2.line (envC L d) = pure false := by rfl) : wpAny M A (execs (.Assign [.Name nm p1] e p2 :: rest) (envC L d)) Q E s := wpAny_execs_cons (wpAny_Assign_Name h hs)
theorem dullL {h : Heap} {l : Addr} {vs : List Value} (x : LsAt h l vs) (o : Obj) (e : h.get? l = some o) : Dull o ∧ ∀ v, o.data ≠ .cell v := by
  refine ⟨Dull.ls x o e, fun v q => ?_⟩
  obtain ⟨n, e1⟩ := x
  rw [e1] at e; cases e; cases q
theorem dullR {h : Heap} {it : Addr} {x l st : Int} (i : IsRangeIter h it x l st) (o : Obj) (e : h.get? it = some o) : Dull o ∧ ∀ v, o.data ≠ .cell v := by
  refine ⟨Dull.range i o e, fun v q => ?_⟩
  rw [i] at e; cases e; cases q
theorem dullN {h : Heap} {l : Addr} {m : Str → Option Value} (x : h.Ns l m) (o : Obj) (e : h.get? l = some o) : Dull o ∧ ∀ v, o.data ≠ .cell v := by
  refine ⟨Dull.ns x o e, fun v q => ?_⟩
  obtain ⟨o', es, ep, e1, e2, _⟩ := x
  rw [e1] at e; cases e; rw [e2] at q; cases q
end

def mkN (a j : Nat) : List Int := (List.range (j + 1)).map fun (i : Nat) => ((i * a : Nat) : Int)
theorem mkN_zero (a : Nat) : mkN a 0 = [0] := by simp [mkN]
theorem mkN_succ (a j : Nat) : mkN a (j + 1) = mkN a j ++ [((j * a : Nat) : Int) + a] := by
  unfold mkN
  rw [List.range_succ, List.map_append]
  congr 1
  simp [Int.add_mul]
theorem GAt.tok {prog : Program} {w : World} {A : Around} {L gl B x : Addr} {g a r j : Nat} {s : Shared} {tk : Nat} (G : GAt prog w A x g L gl B a r j s) : GAt prog w A x g L gl B a r j { s with toks := tk } :=
  ⟨G.gen, let ⟨gs, e, it, hB, go⟩ := G.ex; ⟨gs, e, it, hB, fun s'' hz hal => go s'' hz hal⟩⟩
end Mine
end
section
open PySem PySem.W PySem.Calls PyProof.Rows
set_option maxRecDepth 100000
set_option Elab.async false
set_option maxHeartbeats 4000000
set_option autoImplicit false
set_option linter.unusedVariables false
namespace Mine
section
variable {prog : Program} {w : World} {A : Around} {G : Heap} {mg mb : Str → Option Value} {d : Ads} {s₀ s s' : Shared} {L c P wl gl mk : Addr} {a : Nat} {m m' cm : Str → Option Value} {n : Nat} {R : Flow → Shared → Prop} {vs : List Value}
/-- the frame's facts stand again where its own dict and a list have turned -/
theorem LCs.re (S : LCs s₀ L c P wl gl a m cm s) (hmk : LsAt s.heap mk vs) (h0 : s₀.heap.get? mk = none) (ns : s'.heap.Ns L m') (k : ∀ b o, b ∉ [L, mk] → s.heap.get? b = some o → s'.heap.get? b = some o) (hos : s'.os = s.os) (hg : AllBare s.gens → AllBare s'.gens) : LCs s₀ L c P wl gl a m' cm s' where
  C := {
    I := ⟨ns, ⟨fun b o nb e => k b o (fun q => by
      simp only [List.mem_cons, List.not_mem_nil, or_false] at q
      rcases q with rfl | rfl
      · have := S.C.I.fresh; rw [this] at e; cases e
      · rw [h0] at e; cases e) (S.C.I.kp.keep b o nb e), hos.trans S.C.I.kp.os, fun g => hg (S.C.I.kp.gens g)⟩, S.C.I.above⟩
    cell := fun nm cc e => by
      obtain ⟨o, e1, e2⟩ := S.C.cell nm cc e
      refine ⟨o, k _ _ (fun q => ?_) e1, e2⟩
      simp only [List.mem_cons, List.not_mem_nil, or_false] at q
      rcases q with rfl | rfl
      · exact (dullN S.C.I.ns o e1).2 _ e2
      · exact (dullL hmk o e1).2 _ e2
    apart := S.C.apart
    above := S.C.above }
  T := S.T.off k fun b hb => by
    simp only [List.mem_cons, List.not_mem_nil, or_false] at hb
    rcases hb with rfl | rfl
    · exact ⟨S.PL.symm, Dull.ns S.C.I.ns⟩
    · exact ⟨fun q => (by obtain ⟨o, e⟩ := S.nP; rw [← q, h0] at e; cases e), Dull.ls hmk⟩
  w := S.w
  g := S.g
  x := S.x
  nP := S.nP

theorem gens_bare {g₀ g₁ : Array GenState} (hz : g₁.size = g₀.size + 1) (hs : ∀ i, i < g₀.size → g₁[i]? = g₀[i]?) (hf : g₁[g₀.size]? = some .finished) (h : AllBare g₀) : AllBare g₁ := by
  intro y hy
  obtain ⟨i, hi, e⟩ := Array.mem_iff_getElem.mp hy
  by_cases q : i < g₀.size
  · have := hs i q
    rw [Array.getElem?_eq_getElem hi, Array.getElem?_eq_getElem q] at this
    have := Option.some.inj this
    rw [← e, this]
    exact h _ (by simp)
  · have : i = g₀.size := by omega
    subst this
    rw [Array.getElem?_eq_getElem hi] at hf
    rw [← e, Option.some.inj hf]
    rfl

structure GL (prog : Program) (w : World) (A : Around) (s₄ : Shared) (L mk x L' rl B : Addr) (a r j : Nat) (m : Str → Option Value) (s : Shared) : Prop where
  ns : s.heap.Ns L m
  k : ∀ b o, b ∉ [L, mk] → s₄.heap.get? b = some o → s.heap.get? b = some o
  os : s.os = s₄.os
  mm : m "marks" = some (.ref mk)
  ml : ∃ vs, LsAt s.heap mk vs ∧ IntsAre vs (mkN a j)
  gen : GAt prog w A x s₄.gens.size L' rl B a r j s
  gz : s.gens.size = s₄.gens.size + 1
  gs : ∀ i, i < s₄.gens.size → s.gens[i]? = s₄.gens[i]?
  jr : j ≤ r

theorem fdiv10 {a q : Nat} (ha : 0 < a) (h : a * q = 10) : (10 : Int).fdiv a = q := by
  rw [Int.fdiv_eq_ediv_of_nonneg _ (by omega)]
  have : (10 : Int) = (a : Int) * q := by rw [← Int.natCast_mul, h]; rfl
  rw [this, Int.mul_ediv_cancel_left _ (by omega)]

theorem crossedA {q : Nat} (sg : Sg G mg mb d) (hG : ∀ {s' : Shared}, Kp [P] s₀ s' → ∀ b o, G.get? b = some o → s'.heap.get? b = some o) (ha : 0 < a) (hq : a * q = 10) (S : LCs s₀ L c P wl gl a m cm s) (hr : Rm (n + 4) A)
    (hR : ∀ s' m' mk vs, LCs s₀ L c P wl gl a m' cm s' → m' "marks" = some (.ref mk) → s₀.heap.get? mk = none → mk ≠ L → LsAt s'.heap mk vs → IntsAre vs (mkN a (q - 1)) → wpAny (model prog w) A (execs (dLC.2.1.drop 2) (envC L d)) R (fun _ _ => False) s') :
    wpAny (model prog w) A (execs dLC.2.1 (envC L d)) R (fun _ _ => False) s := by
  have hq1 : 1 ≤ q := by cases q with | zero => simp at hq | succ q => omega
  have ha10 : a ≤ 10 := Nat.le_of_dvd (by decide) ⟨q, hq.symm⟩
  have hq10 : q ≤ 10 := Nat.le_of_dvd (by decide) ⟨a, by rw [Nat.mul_comm]; exact hq.symm⟩
  refine LCs.set (newL (wpAny_items_cons (cInt fun t tk => wpAny_items_nil ⟨by rw [sizeLine_eq]; simp, fun s₂ mk nm lm k₂ => ?_⟩)))
  have S2 := S.tok.call k₂
  refine S2.st fun s₃ S3 sm3 _ => ?_
  have nm0 : s₀.heap.get? mk = none := by
    cases e : s₀.heap.get? mk with
    | none => rfl
    | some o =>
      by_cases z : mk = P
      · obtain ⟨ps, e1, _⟩ := S.T.ex
        have e2 : s.heap.get? mk = none := nm
        rw [z, e1] at e2; cases e2
      · have := S.C.I.kp.keep mk o (fun q => z (List.mem_singleton.mp q)) e
        have e2 : s.heap.get? mk = none := nm
        rw [this] at e2; cases e2
  have hmL : mk ≠ L := let ⟨o, e⟩ := ns_some S.C.I.ns; ne_of_none (s := s) nm e
  have lm3 : LsAt s₃.heap mk [.int 0 t] := lm.of_eq (sm3 _ hmL)
  have G3 := hG S3.C.I.kp
  have g3 := sg.glo.keeps G3
  obtain ⟨tx, ex⟩ := S3.x
  have cx : s₃.heap.IsCell (L + 3) (some (.int a tx)) := ex ▸ S3.C.cell "across" (L + 3) rfl
  refine wpAny_execs_cons (wpAny_For ?_)
  obtain ⟨oG, docG, pmG, anG, ctG, a1, a2, a3⟩ := id sg.GI
  refine wpAny_Call_Name_kw (ldG (mg := mg) g3.g sg.mGI (cwP (o := oG) (fd := fnX "_grouping_intervals" "_grouping_intervals" dGI.1 dGI.2.1 dGI.2.2 [] .none .none docG pmG anG d.cGI ctG) (wpAny_items_cons ?_)))
  refine wpAny_BinOp (wpAny_BinOp (newL (wpAny_items_cons (ldC (c := L + 3) rfl cx (wpAny_items_nil ⟨by rw [sizeLine_eq]; simp, fun s₄ r4 n4 l4 k4 => ?_⟩)))))
  refine wpAny_BinOp (wpAny_BinOp (cInt fun _ _ => ldC (c := L + 3) rfl (cx.keeps k4.all) (floordiv_int (by omega) ?_ (Or.inl (PyProof.noPylong_small (by omega))))))
  rw [fdiv10 ha hq]
  refine cInt fun _ _ => sub_int ?_
  have eq1 : (q : Int) - 1 = ((q - 1 : Nat) : Int) := by omega
  rw [eq1]
  refine mulL1 (v := .int a tx) l4 (by omega) fun s₅ r5 n5 l5 k5 => ?_
  refine newL (wpAny_items_cons (cInt fun t7 _ => wpAny_items_cons (cInt fun t8 _ => wpAny_items_nil ⟨by rw [sizeLine_eq]; simp, fun s₆ r6 n6 l6 k6 => ?_⟩)))
  have S5 := (S3.call k4).tok.call k5
  have S6 := S5.tok.call k6
  have l5' : LsAt s₆.heap r5 _ := l5.keeps k6.all
  refine addLL l5'.isList l6.isList (by simp; omega) fun s₇ r7 n7 l7 k7 => ?_
  have S7 := S6.call k7
  have lm7 : LsAt s₇.heap mk [.int 0 t] := (((lm3.keeps k4.all).keeps k5.all).keeps k6.all).keeps k7.all
  have G7 := hG S7.C.I.kp
  refine wpAny_items_nil ⟨⟨G7 _ _ a1, a2⟩, wpAny_call ?_⟩
  have hlen : (List.replicate (q - 1) (Value.int a tx)).length = q - 1 := List.length_replicate
  refine gi_call (n := n) (a := a) (r := q - 1) (vs := List.replicate (q - 1) (.int a tx) ++ [.int 127 t7, .int 1 t8]) sg G7 (hr.less (by omega)) l7.isList ha ha10 (fun i hi => ⟨tx, ?_⟩) ⟨t7, ?_⟩ fun s₈ x L' B k8 nx nL' hxL hB hsB hLB gz gs gat => ?_
  · rw [List.getElem?_append_left (by rw [hlen]; exact hi), List.getElem?_replicate, if_pos hi]
  · rw [List.getElem?_append_right (by rw [hlen]; exact Nat.le_refl _), hlen, Nat.sub_self]; rfl
  have hLsz : @LT.lt Nat _ L s₇.heap.objs.size := S7.C.I.ns.lt
  have hL'7 : L ≠ L' := let ⟨o, e⟩ := ns_some S7.C.I.ns; (ne_of_none nL' e).symm
  have hLx : L ≠ x := let ⟨o, e⟩ := ns_some S7.C.I.ns; (ne_of_none nx e).symm
  have hmsz : @LT.lt Nat _ mk s₇.heap.objs.size := let ⟨nn, e⟩ := lm7; Heap.lt_size e
  have hmL' : mk ≠ L' := let ⟨nn, e⟩ := lm7; (ne_of_none nL' e).symm
  have hmx : mk ≠ x := let ⟨nn, e⟩ := lm7; (ne_of_none nx e).symm
  have hr7 : r7 ≠ L ∧ r7 ≠ mk := ⟨let ⟨o, e⟩ := ns_some S6.C.I.ns; ne_of_none n7 e, let ⟨nn, e⟩ := (((lm3.keeps k4.all).keeps k5.all).keeps k6.all); ne_of_none n7 e⟩
  have mGm : ∃ o, G.get? mainGlobals = some o := let ⟨o, e, ep, e1, _⟩ := sg.glo.g; ⟨o, e1⟩
  have hmg : mainGlobals ≠ L ∧ mainGlobals ≠ mk := by
    obtain ⟨o, e⟩ := mGm
    have e3 := hG S2.C.I.kp _ _ e
    refine ⟨fun q => ?_, fun q => ?_⟩
    · have := S.C.I.kp
      by_cases z : mainGlobals = P
      · exact S.PL (z.symm.trans q)
      · have e1 := hG (s' := s₀) Kp.refl _ _ e
        have := S.C.I.fresh
        rw [← q, e1] at this; cases this
    · have e1 := hG (s' := s₀) Kp.refl _ _ e
      rw [q, nm0] at e1; cases e1
  refine wpAny_pyIter_gen (gat _ hr.2.2).gen ?_
  have hm8 : s₈.heap.Ns L (upd m "marks" (.ref mk)) := S7.C.I.ns.keeps k8.all
  refine codeAny_forLoop (fun nn s' => ∃ j m, nn = (q - 1) - j ∧ GL prog w A s₇ L mk x L' r7 B a (q - 1) j m s') (fun nn s' hI => ?_) (q - 1) ⟨0, _, rfl, ⟨hm8, fun b o _ e => k8.all b o e, k8.os, if_pos rfl, ⟨_, lm7.keeps k8.all, by rw [mkN_zero]; exact .cons 0 t .nil⟩, gat _ hr.2.2, gz, gs, Nat.zero_le _⟩⟩
  obtain ⟨j, m₁, rfl, J⟩ := hI
  have hlim : s'.heap.NoLimit := sg.glo.lim.keeps fun b o e => J.k b o (fun q => by
    simp only [List.mem_cons, List.not_mem_nil, or_false] at q
    have e1 := hG (s' := s₀) Kp.refl _ _ e
    rcases q with rfl | rfl
    · have := S.C.I.fresh; rw [e1] at this; cases this
    · rw [nm0] at e1; cases e1) (G7 b o e)
  have hfresh8 : ∀ b o, s₇.heap.get? b = some o → b ≠ L' ∧ @LT.lt Nat _ b B := fun b o e => ⟨(ne_of_none nL' e).symm, Nat.lt_of_lt_of_le (Heap.lt_size e) hsB⟩
  by_cases hlt : j < q - 1
  · refine gi_next hr.2.2 hlim hr.room J.gen hlt hxL hB fun s₉ tv G9 k9 go9 os9 => ?_
    obtain ⟨vs, lv, hv⟩ := J.ml
    have ns9 : s₉.heap.Ns L m₁ := J.ns.at' fun o e => k9 _ _ hL'7 (Nat.lt_of_lt_of_le hLsz hsB) e
    have lv9 : LsAt s₉.heap mk vs := let ⟨nn, e⟩ := lv; ⟨nn, k9 _ _ hmL' (Nat.lt_of_lt_of_le hmsz hsB) e⟩
    have kk9 : ∀ b o, b ∉ [L, mk] → s₇.heap.get? b = some o → s₉.heap.get? b = some o := fun b o nb e => k9 b o (hfresh8 b o e).1 (hfresh8 b o e).2 (J.k b o nb e)
    refine wpAny_assign_Name (wpAny_storeName_local rfl ns9 (fun h₁₀ ns10 hs10 => ?_) rfl)
    have lv10 : LsAt h₁₀ mk vs := let ⟨nn, e⟩ := lv9; ⟨nn, (hs10.2 _ hmL).trans e⟩
    refine wpAny_execs_cons (wpAny_Expr (MethodCall_ (ldL ns10 ((if_neg (by decide)).trans J.mm) (methL lv10 PySem.F.slot_list_append PySem.F.type_list_append ?_))))
    have hvl : vs.length = j + 1 := by rw [hv.length]; simp [mkN]
    -- the last mark
    obtain ⟨vs', tl, evs⟩ : ∃ vs' tl, vs = vs' ++ [.int ((j * a : Nat) : Int) tl] := by
      have hne : vs ≠ [] := by intro q; rw [q] at hvl; simp at hvl
      refine ⟨vs.dropLast, ?_⟩
      have h1 : (mkN a j)[j]? = some ((j * a : Nat) : Int) := by simp [mkN]
      obtain ⟨tl, et⟩ := hv.get j _ h1
      refine ⟨tl, ?_⟩
      have h2 : vs.getLast hne = .int ((j * a : Nat) : Int) tl := by
        rw [List.getLast_eq_getElem]
        have := (List.getElem?_eq_some_iff.mp et).2
        rw [← this]
        congr 1
        omega
      rw [← h2]
      exact (List.dropLast_concat_getLast hne).symm
    refine callWith_method1 (wpAny_items_cons (wpAny_BinOp (Subscript_ (ldL ns10 ((if_neg (by decide)).trans J.mm) (wpAny_UnaryOp (cInt fun _ _ => PyProof.Rows.neg_int ?_))))))
    refine lst_last (vs := vs') (by rw [← evs]; exact lv10.isList) ?_
    refine ldL ns10 (if_pos rfl) (add_int (wpAny_items_nil ?_))
    refine appL lv10 (by omega) fun s₁₁ l11 o11 => wpAny_execs_nil ?_
    have ns11 : s₁₁.heap.Ns L _ := ns10.at' fun o e => (o11.same _ hmL.symm).trans e
    refine ⟨(q - 1) - (j + 1), by omega, j + 1, _, rfl, ⟨ns11, fun b o nb e => ?_, ?_, (if_neg (by decide)).trans J.mm, ⟨_, l11, ?_⟩, ?_, ?_, ?_, hlt⟩⟩
    · simp only [List.mem_cons, List.not_mem_nil, or_false, not_or] at nb
      exact (o11.same _ nb.2).trans ((hs10.2 _ nb.1).trans (kk9 b o (by simp [nb]) e))
    · exact o11.os.trans (os9.trans J.os)
    · rw [mkN_succ]
      exact ksk_snoc hv
    · refine GAt.frame (T := [L, mk]) (s := s₉) G9 o11.gens (fun b o nb e => ?_) (fun b hb => ?_) ?_ ?_ ?_ ?_
      · simp only [List.mem_cons, List.not_mem_nil, or_false, not_or] at nb
        exact (o11.same _ nb.2).trans ((hs10.2 _ nb.1).trans e)
      · simp only [List.mem_cons, List.not_mem_nil, or_false] at hb
        rcases hb with rfl | rfl
        · exact Nat.lt_of_lt_of_le hLsz hsB
        · exact Nat.lt_of_lt_of_le hmsz hsB
      · exact not2 hL'7.symm hmL'.symm
      · exact not2 hr7.1 hr7.2
      · exact not2 hmg.1 hmg.2
      · exact not2 hLx.symm hmx.symm
    · rw [o11.gens]
      exact go9.1.trans J.gz
    · intro i hi
      rw [o11.gens]
      exact (go9.2 i (Nat.ne_of_lt hi)).trans (J.gs i hi)
  · have : j = q - 1 := by have := J.jr; omega
    subst this
    refine gi_done hr.2.2 hlim hr.room J.gen hxL hB fun s₉ k9 go9 gf os9 => ?_
    obtain ⟨vs, lv, hv⟩ := J.ml
    have ns9 : s₉.heap.Ns L m₁ := J.ns.at' fun o e => k9 _ _ hL'7 (Nat.lt_of_lt_of_le hLsz hsB) e
    have lv9 : LsAt s₉.heap mk vs := let ⟨nn, e⟩ := lv; ⟨nn, k9 _ _ hmL' (Nat.lt_of_lt_of_le hmsz hsB) e⟩
    refine wpAny_execs_nil (hR s₉ m₁ mk vs ?_ J.mm nm0 hmL lv9 hv)
    refine S7.re lm7 nm0 ns9 (fun b o nb e => k9 b o (hfresh8 b o e).1 (hfresh8 b o e).2 (J.k b o nb e)) (os9.trans J.os) fun gb => gens_bare (go9.1.trans J.gz) (fun i hi => (go9.2 i (Nat.ne_of_lt hi)).trans (J.gs i hi)) gf gb
end
end Mine
end
section
open PySem PySem.W PySem.Calls PyProof.Rows
set_option maxRecDepth 100000
set_option Elab.async false
set_option maxHeartbeats 4000000
set_option autoImplicit false
set_option linter.unusedVariables false
namespace Mine
/-- the sign of a gap -/
def sgZ (ht : Nat → Nat) (a k : Nat) : Int := b2i (decide (ht k < ht (k + a))) - b2i (decide (ht (k + a) < ht k))
def gpZ (ht : Nat → Nat) (a k : Nat) : Int := (ht (k + a) : Int) - ht k
theorem sgZ_cases (ht : Nat → Nat) (a k : Nat) : (sgZ ht a k = 1 ∧ 0 < gpZ ht a k) ∨ (sgZ ht a k = 0 ∧ gpZ ht a k = 0) ∨ (sgZ ht a k = -1 ∧ gpZ ht a k < 0) := by
  unfold sgZ gpZ b2i
  rcases Nat.lt_trichotomy (ht k) (ht (k + a)) with h | h | h
  · left; simp [h]; omega
  · right; left; rw [h]; simp
  · right; right; simp [h]; omega
/-- the gaps' list -/
structure Gps (gv : List Value) (ht : Nat → Nat) (a : Nat) : Prop where
  len : gv.length = 11 - a
  at_ : ∀ k, k < 11 - a → ∃ t, gv[k]? = some (.int (gpZ ht a k) t)
theorem ints_at {vs : List Value} {ns : List Int} (hl : vs.length = ns.length) (h : ∀ (i : Nat) (z : Int), ns[i]? = some z → ∃ t, vs[i]? = some (Value.int z t)) : IntsAre vs ns := by
  induction vs generalizing ns with
  | nil => cases ns with
    | nil => exact .nil
    | cons _ _ => cases hl
  | cons v vs ih => cases ns with
    | nil => cases hl
    | cons z ns =>
      obtain ⟨t, e⟩ := h 0 z rfl
      cases e
      exact .cons z t (ih (by simpa using hl) fun i z hz => by simpa using h (i + 1) z (by simpa using hz))
section
variable {prog : Program} {w : World} {A : Around} {E : Value → Shared → Prop} {s : Shared} {Q : Value → Shared → Prop}
theorem listRange {r : Addr} {a b c : Int} {t u v : Tok} {n : Nat} (hh : A.handled = none) (hr : IsRange s.heap r a b c t u v) (hsmall : Builtin.Range.small a b c = true) (hn : Builtin.Range.rangeSize a b c = n) (hlen : n ≤ 2 ^ 24)
    (h : ∀ s' D vs, s.heap.get? D = none → Kp [] s s' → LsAt s'.heap D vs → vs.length = n → (∀ i, i < n → ∃ t, vs[i]? = some (.int (a + i * c) t)) → Q (.ref D) s') : wpAny (model prog w) A (call (.type "list") [.ref r]) Q E s := by
  refine call_list_range hh hr hsmall hn hlen fun h' tk acc c' k e it => ?_
  refine h _ _ acc.toList (Heap.get?_none_of_le (Nat.le_refl _)) ⟨fun b o _ e => k b o e, rfl, id⟩ ⟨c', by simpa using e⟩ (by simpa using it.1) fun i hi => ?_
  obtain ⟨x, hx⟩ : ∃ x, acc[i]? = some x := ⟨_, Array.getElem?_eq_getElem (by rw [it.1]; exact hi)⟩
  obtain ⟨t, rfl⟩ := it.2 i x hx
  exact ⟨t, by rw [Array.getElem?_toList, hx]⟩
end
theorem aq_cases {a q : Nat} (h : a * q = 10) : (a = 1 ∧ q = 10) ∨ (a = 2 ∧ q = 5) ∨ (a = 5 ∧ q = 2) ∨ (a = 10 ∧ q = 1) := by
  have h1 : a ≤ 10 := Nat.le_of_dvd (by decide) ⟨q, h.symm⟩
  have h2 : q ≤ 10 := Nat.le_of_dvd (by decide) ⟨a, by rw [Nat.mul_comm]; exact h.symm⟩
  have : ∀ a : Fin 11, ∀ q : Fin 11, a.val * q.val = 10 → (a.val = 1 ∧ q.val = 10) ∨ (a.val = 2 ∧ q.val = 5) ∨ (a.val = 5 ∧ q.val = 2) ∨ (a.val = 10 ∧ q.val = 1) := by decide
  exact this ⟨a, by omega⟩ ⟨q, by omega⟩ h
theorem range_aq {a q : Nat} (h : a * q = 10) : Builtin.Range.rangeSize 0 10 a = q ∧ Builtin.Range.small 0 10 a = true := by
  rcases aq_cases h with ⟨rfl, rfl⟩ | ⟨rfl, rfl⟩ | ⟨rfl, rfl⟩ | ⟨rfl, rfl⟩ <;> exact ⟨by decide +kernel, by decide +kernel⟩
theorem mkN_at {a j i : Nat} (h : i ≤ j) : (mkN a j)[i]? = some ((i * a : Nat) : Int) := by
  unfold mkN
  rw [List.getElem?_map, List.getElem?_range (by omega)]
  rfl
theorem mkN_len (a j : Nat) : (mkN a j).length = j + 1 := by simp [mkN]

section
variable {prog : Program} {w : World} {A : Around} {G : Heap} {mg mb : Str → Option Value} {d : Ads} {s₀ s s' : Shared} {L c P wl gl mk : Addr} {a : Nat} {m m' cm : Str → Option Value} {n : Nat} {R : Flow → Shared → Prop} {vs : List Value}
theorem LCs.none0 {r : Addr} (S : LCs s₀ L c P wl gl a m cm s) (h : s.heap.get? r = none) : s₀.heap.get? r = none ∧ r ≠ L := by
  refine ⟨?_, let ⟨o, e⟩ := ns_some S.C.I.ns; ne_of_none h e⟩
  cases e : s₀.heap.get? r with
  | none => rfl
  | some o =>
    by_cases z : r = P
    · obtain ⟨ps, e1, _⟩ := S.T.ex
      rw [z, e1] at h; cases h
    · have := S.C.I.kp.keep r o (fun q => z (List.mem_singleton.mp q)) e
      rw [h] at this; cases this
/-- behind a comprehension: its iterator has turned, its frame is dropped -/
theorem LCs.comp {s₂ s' : Shared} {I C D : Addr} {nn : Nat} {J : Nat → List Value → Shared → Prop} {ys : List Value} (S : LCs s₀ L c P wl gl a m cm s₂) (hI : ∃ l i, s₂.heap.IsListIter I l i) (hI0 : s₀.heap.get? I = none) (hIL : I ≠ L) (ce : CompEnd s₂ ([I] ++ []) nn J C D ys s') :
    LCs s₀ L c P wl gl a m cm s' :=
  S.off ce.kp hI0 hIL fun o e => by
    obtain ⟨l, i, x⟩ := hI
    refine ⟨Dull.liter x o e, fun v q => ?_⟩
    obtain ⟨o', e1, e2, e3⟩ := x
    rw [e1] at e; cases e; rw [e3] at q; cases q
theorem LCs.drop {C : Addr} {m₁ : Str → Option Value} (S : LCs s₀ L c P wl gl a m cm s) (ns : s.heap.Ns C m₁) (hC : s₀.heap.get? C = none) (hL : C ≠ L) (k : Kp [C] s s') : LCs s₀ L c P wl gl a m cm s' :=
  S.off k hC hL fun o e => dullN ns o e

theorem crossedB1 {q : Nat} (sg : Sg G mg mb d) (hG : ∀ {s' : Shared}, Kp [P] s₀ s' → ∀ b o, G.get? b = some o → s'.heap.get? b = some o) (ha : 0 < a) (hq : a * q = 10) (S : LCs s₀ L c P wl gl a m cm s) (hr : Rm (n + 8) A)
    (hm : m "marks" = some (.ref mk)) (lm : LsAt s.heap mk vs) (hv : IntsAre vs (mkN a (q - 1)))
    (hR : ∀ s' m' pl pv, LCs s₀ L c P wl gl a m' cm s' → m' "marks" = some (.ref mk) → LsAt s'.heap mk vs → m' "places" = some (.ref pl) → LsAt s'.heap pl pv → pv.length = 11 → (∀ i, i < 11 → ∃ t, pv[i]? = some (.int (i : Nat) t)) → wpAny (model prog w) A (execs (dLC.2.1.drop 4) (envC L d)) R (fun _ _ => False) s') :
    wpAny (model prog w) A (execs (dLC.2.1.drop 2) (envC L d)) R (fun _ _ => False) s := by
  have G1 := hG S.C.I.kp
  have g1 := sg.glo.keeps G1
  obtain ⟨tx, ex⟩ := S.x
  have cx : s.heap.IsCell (L + 3) (some (.int a tx)) := ex ▸ S.C.cell "across" (L + 3) rfl
  have hh := hr.2.2
  have ha10 : a ≤ 10 := Nat.le_of_dvd (by decide) ⟨q, hq.symm⟩
  refine wpAny_execs_cons (wpAny_If (wpAny_isTrue_Compare1 (ldL S.C.I.ns hm ?_)))
  refine wpAny_Call_Name_kw (ldB (mg := mg) (mb := mb) g1.g (sg.no "list" (by decide)) g1.b (g1.name boot_list (by decide)) ?_)
  refine PyProof.Rows.callWith_type1 (wpAny_items_cons (wpAny_Call_Name_kw (ldB (mg := mg) (mb := mb) g1.g (sg.no "range" (by decide)) g1.b (g1.name boot_range (by decide)) ?_)))
  refine PyProof.Rows.callWith_type1 (wpAny_items_cons (cInt fun _ _ => wpAny_items_cons (cInt fun _ _ => wpAny_items_cons (ldC (c := L + 3) rfl cx (wpAny_items_nil ?_)))))
  obtain ⟨rg1, rg2⟩ := range_aq hq
  refine call_range_3 (by omega) (wpAny_items_nil ?_) (Or.inl (PyProof.noPylong_small (by omega)))
  refine listRange hh (IsRange.new _ _ _ _ _ _ _) rg2 rg1 (by have := aq_cases hq; omega) fun s₂ D dv nD kD lD hdl hd => ?_
  have S2 : LCs s₀ L c P wl gl a m cm s₂ := S.call ⟨fun b o _ e => kD.all b o (Heap.get?_push_of_some _ e), kD.os, kD.gens⟩
  have lm2 : LsAt s₂.heap mk vs := (lm.keeps fun b o e => Heap.get?_push_of_some _ e).keeps kD.all
  have hdi : IntsAre dv (mkN a (q - 1)) := ints_at (by rw [mkN_len]; have := aq_cases hq; omega) fun i z hz => by
    have hi : i < q := by have := (List.getElem?_eq_some_iff.mp hz).1; rw [mkN_len] at this; have := aq_cases hq; omega
    rw [mkN_at (by omega)] at hz
    obtain ⟨t, et⟩ := hd i hi
    refine ⟨t, ?_⟩
    have e0 : (0 : Int) + (i : Int) * (a : Int) = ((i * a : Nat) : Int) := by rw [Int.natCast_mul, Int.zero_add]
    rw [et, ← Option.some.inj hz, e0]
  refine neI (n := n + 1) lm2.isList lD.isList hv hdi hr (wpAny_truthy_bool ?_)
  rw [decide_eq_true rfl]
  refine wpAny_execs_nil ?_
  -- places
  have G2 := hG S2.C.I.kp
  have g2 := sg.glo.keeps G2
  refine LCs.set ?_
  refine wpAny_Call_Name_kw (ldB (mg := mg) (mb := mb) g2.g (sg.no "list" (by decide)) g2.b (g2.name boot_list (by decide)) ?_)
  refine PyProof.Rows.callWith_type1 (wpAny_items_cons (wpAny_Call_Name_kw (ldB (mg := mg) (mb := mb) g2.g (sg.no "range" (by decide)) g2.b (g2.name boot_range (by decide)) ?_)))
  refine PyProof.Rows.callWith_type1 (wpAny_items_cons (cInt fun _ _ => wpAny_items_nil ?_))
  refine call_range_1 (wpAny_items_nil ?_)
  refine listRange (n := 11) hh (IsRange.new _ _ _ _ _ _ _) (by decide +kernel) (by decide +kernel) (by decide) fun s₃ pl pv np k3 lp hpl hp => ?_
  have S3 : LCs s₀ L c P wl gl a m cm s₃ := S2.call ⟨fun b o _ e => k3.all b o (Heap.get?_push_of_some _ e), k3.os, k3.gens⟩
  have lm3 : LsAt s₃.heap mk vs := (lm2.keeps fun b o e => Heap.get?_push_of_some _ e).keeps k3.all
  have hmL : mk ≠ L := fun q => by
    obtain ⟨nn, e⟩ := lm
    obtain ⟨o', es, ep, e1, e2, _⟩ := S.C.I.ns
    rw [q, e1] at e; cases e; cases e2
  have hpL : pl ≠ L := fun z => by
    obtain ⟨o', es, ep, e1, e2, _⟩ := S2.C.I.ns
    rw [z] at np
    have e3 := np.symm.trans (Heap.get?_push_of_some _ e1)
    cases e3
  refine S3.st fun s₄ S4 sm4 _ => ?_
  refine hR s₄ _ pl pv S4 ((if_neg (by decide)).trans hm) (lm3.of_eq (sm4 _ hmL)) (if_pos rfl) (lp.of_eq (sm4 _ hpL)) hpl fun i hi => ?_
  obtain ⟨t, et⟩ := hp i hi
  have e0 : (0 : Int) + (i : Int) * 1 = (i : Nat) := by omega
  exact ⟨t, by rw [et, e0]⟩

theorem crossedB2 {q : Nat} {ht : Nat → Nat} {ws pv : List Value} {pl : Addr} (sg : Sg G mg mb d) (hG : ∀ {s' : Shared}, Kp [P] s₀ s' → ∀ b o, G.get? b = some o → s'.heap.get? b = some o) (ha : 0 < a) (hq : a * q = 10) (S : LCs s₀ L c P wl gl a m cm s) (hr : Rm (n + 8) A)
    (hwl : ∀ {s' : Shared}, Kp [P] s₀ s' → LsAt s'.heap wl ws) (hw : Wds ws ht)
    (hm : m "marks" = some (.ref mk)) (lm : LsAt s.heap mk vs) (hv : IntsAre vs (mkN a (q - 1))) (hp : m "places" = some (.ref pl)) (lp : LsAt s.heap pl pv)
    (hR : ∀ s' m' sd sv, LCs s₀ L c P wl gl a m' cm s' → m' "marks" = some (.ref mk) → LsAt s'.heap mk vs → m' "places" = some (.ref pl) → LsAt s'.heap pl pv → m' "sides" = some (.ref sd) → LsAt s'.heap sd sv → sv.length = q → (∀ j, j < q → ∃ t, sv[j]? = some (.int (sgZ ht a (j * a)) t)) →
      wpAny (model prog w) A (execs (dLC.2.1.drop 5) (envC L d)) R (fun _ _ => False) s') :
    wpAny (model prog w) A (execs (dLC.2.1.drop 4) (envC L d)) R (fun _ _ => False) s := by
  have hh := hr.2.2
  have hvl : vs.length = q := by rw [hv.length, mkN_len]; have := aq_cases hq; omega
  have hmL : mk ≠ L := fun q => by
    obtain ⟨nn, e⟩ := lm
    obtain ⟨o', es, ep, e1, e2, _⟩ := S.C.I.ns
    rw [q, e1] at e; cases e; cases e2
  have hpL : pl ≠ L := fun q => by
    obtain ⟨nn, e⟩ := lp
    obtain ⟨o', es, ep, e1, e2, _⟩ := S.C.I.ns
    rw [q, e1] at e; cases e; cases e2
  refine compA (cl := [("words", L + 1), ("across", L + 3)]) ?main ?hsw ?hclos ?hcell ?hkind ?hnames ?hx ?hs
  case hsw => with_unfolding_all rfl
  case hclos => rfl
  case hcell => decide +kernel
  case hkind => rfl
  case hnames => decide +kernel
  case hx => rfl
  case hs => intro _; rfl
  refine ldL S.C.I.ns hm (wpAny_pyIter_list lm.isList ?_)
  generalize hI : s.heap.objs.size = I
  have hIn : s.heap.get? I = none := by rw [← hI]; exact Heap.get?_none_of_le (Nat.le_refl _)
  have hmI : mk ≠ I := let ⟨nn, e⟩ := lm; (ne_of_none hIn e).symm
  have k2 : Kp [] s { s with heap := s.heap.push { cls := .type "list_iterator", data := .fields #[.ref mk, .int 0 0] } } := Kp.push (tk := s.toks)
  have S2 := S.call k2
  have hit : (s.heap.push { cls := .type "list_iterator", data := .fields #[.ref mk, .int 0 0] }).IsListIter I mk 0 := by rw [← hI]; exact ⟨_, Heap.get?_push_size _ rfl, rfl, rfl⟩
  have lm2 := lm.keeps k2.all
  have I0 := S.none0 hIn
  have W : Walks prog w A I [I, mk] [I] q (fun i v => vs.toArray[i]? = some v) (fun i h => h.IsListIter I mk i ∧ h.IsList mk vs.toArray) := by
    have W := Walks.list (prog := prog) (w := w) (A := A) hh I mk hmI vs.toArray
    rw [List.size_toArray, hvl] at W
    exact W
  have hq1000 : q < 1000 := by have := aq_cases hq; omega
  have hfp : ∀ b ∈ [I, mk], b < (s.heap.push { cls := .type "list_iterator", data := .fields #[.ref mk, .int 0 0] }).objs.size := fun b hb => ?fp
  refine ⟨I, [I, mk], [I], q, fun i v => vs.toArray[i]? = some v, fun i h => h.IsListIter I mk i ∧ h.IsList mk vs.toArray, [], fun i ys _ => ∀ j, j < i → ∃ t, ys[j]? = some (Value.int (sgZ ht a (j * a)) t), rfl, W, hq1000, ⟨hit, lm2.isList⟩, hfp, (fun _ h => by cases h), (fun _ h => by cases h), (fun j hj => absurd hj (Nat.not_lt_zero j)), (fun _ _ _ _ h _ => h), ?turn, ?fin⟩
  case fp =>
    simp only [List.mem_cons, List.not_mem_nil, or_false] at hb
    rcases hb with rfl | rfl
    · exact let ⟨_, e, _⟩ := hit; Heap.lt_size e
    · exact let ⟨_, e⟩ := lm2; Heap.lt_size e
  case turn =>
    intro C i v u m₁ ys hi hvi I₁ hmx hyl hJ
    have ki : Kp [P] s₀ u := ⟨fun b o nb e => I₁.kp.keep b o (fun q => by
      simp only [List.append_nil, List.mem_singleton] at q
      rw [q, I0.1] at e; cases e) (S2.C.I.kp.keep b o nb e), I₁.kp.os.trans S2.C.I.kp.os, fun g => I₁.kp.gens (S2.C.I.kp.gens g)⟩
    have Gu := hG ki
    have gu := sg.glo.keeps Gu
    obtain ⟨oS, docS, pmS, anS, ctS, b1, b2, b3⟩ := id sg.SC
    have cell : ∀ {nm : Str} {cc : Addr}, (celC L).lookup nm = some cc → u.heap.IsCell cc (cm nm) := fun e => by
      obtain ⟨o, e1, e2⟩ := S2.C.cell _ _ e
      refine ⟨o, I₁.kp.keep _ _ (fun q => ?_) e1, e2⟩
      simp only [List.append_nil, List.mem_singleton] at q
      obtain ⟨o', f1, f2, f3⟩ := hit
      rw [q, f1] at e1; cases e1; rw [f3] at e2; cases e2
    obtain ⟨tx, ex⟩ := S.x
    have cx : u.heap.IsCell (L + 3) (some (.int a tx)) := ex ▸ cell (nm := "across") rfl
    have cw : u.heap.IsCell (L + 1) (some (.ref wl)) := S.w ▸ cell (nm := "words") rfl
    have lw := hwl ki
    have hvi' : vs[i]? = some v := by simpa using hvi
    obtain ⟨ti, eti⟩ := hv.get i _ (mkN_at (a := a) (j := q - 1) (i := i) (by omega))
    rw [hvi'] at eti
    cases eti
    have hia : i * a + a ≤ 10 := by
      have : i * a + a = (i + 1) * a := by rw [Nat.add_mul, Nat.one_mul]
      rw [this, ← hq, Nat.mul_comm a q]
      exact Nat.mul_le_mul_right a hi
    obtain ⟨t1, w1⟩ := hw.at_ (i * a + a) (by omega)
    obtain ⟨t2, w2⟩ := hw.at_ (i * a) (by omega)
    have e1 : ((i * a : Nat) : Int) + a = ((i * a + a : Nat) : Int) := by omega
    refine wpAny_Call_Name_kw (ldG (mg := mg) gu.g sg.mSC (cwP (o := oS) (fd := fnX "_strcoll" "_strcoll" dSC.1 dSC.2.1 dSC.2.2 [] .none .none docS pmS anS d.cSC ctS) ?_))
    refine wpAny_items_cons (Subscript_ ?_)
    refine ldC (c := L + 1) rfl cw ?_
    refine wpAny_BinOp ?_
    refine ldL I₁.ns hmx ?_
    refine ldC (c := L + 3) rfl cx ?_
    refine add_int ?_
    rw [e1]
    refine lst_item (k := ((i * a + a : Nat) : Int)) (x := .str (bl (ht (i * a + a))) t1) lw.isList (by omega) (by omega) (by rw [Int.toNat_natCast]; simpa using w1) ?_
    refine wpAny_items_cons (Subscript_ (ldC (c := L + 1) rfl cw (ldL I₁.ns hmx ?_)))
    refine lst_item (k := ((i * a : Nat) : Int)) (x := .str (bl (ht (i * a))) t2) lw.isList (by omega) (by omega) (by rw [Int.toNat_natCast]; simpa using w2) ?_
    refine wpAny_items_nil ⟨⟨Gu _ _ b1, b2⟩, wpAny_call ?_⟩
    refine strcoll_spec (n := n) ⟨oS, docS, pmS, anS, ctS, Gu _ _ b1, b2, b3.keeps Gu⟩ gu.lim (hr.less (by omega)) fun s'' tk k'' => ?_
    rw [bl_lt, bl_lt]
    refine ⟨⟨fun b o _ e => k''.all b o e, k''.os, k''.gens⟩, fun j hj => ?_⟩
    by_cases q : j < i
    · rw [List.getElem?_append_left (by omega)]; exact hJ j q
    · have : j = i := by omega
      subst this
      rw [List.getElem?_append_right (by omega), hyl, Nat.sub_self]
      exact ⟨tk, rfl⟩
  case fin =>
    intro D C s' ys ce
    have S3 : LCs s₀ L c P wl gl a m cm s' := S2.comp ⟨_, _, hit⟩ I0.1 I0.2 ce
    have D0 := S2.none0 ce.nD
    have C0 := S2.none0 ce.nC
    refine S3.st fun s₄ S4 sm4 _ => ⟨fun m₁ ns => ns.at' fun o e => (sm4 _ C0.2).trans e, fun s₅ k5 => ?_⟩
    obtain ⟨m₁, ns⟩ := ce.cn
    have S5 := S4.drop (ns.at' fun o e => (sm4 _ C0.2).trans e) C0.1 C0.2 k5
    have up : ∀ {l : Addr} {xs : List Value}, LsAt s.heap l xs → l ≠ L → LsAt s₅.heap l xs := fun {l xs} x hl => by
      obtain ⟨nn, e⟩ := x
      have e2 := k2.all _ _ e
      refine ⟨nn, k5.keep _ _ (fun q => ?_) ((sm4 _ hl).trans (ce.kp.keep _ _ (fun q => ?_) e2))⟩
      · have := ce.nC
        rw [← List.mem_singleton.mp q, e2] at this; cases this
      · simp only [List.append_nil, List.mem_singleton] at q
        rw [q, hIn] at e; cases e
    have lD : LsAt s₅.heap D ys := by
      obtain ⟨nn, e⟩ := ce.ls
      exact ⟨nn, k5.keep _ _ (fun q => ce.ne (List.mem_singleton.mp q)) ((sm4 _ D0.2).trans e)⟩
    exact hR s₅ _ D ys S5 ((if_neg (by decide)).trans hm) (up lm hmL) ((if_neg (by decide)).trans hp) (up lp hpL) (if_pos rfl) lD ce.len ce.j
end
end Mine
end
section
open PySem PySem.W PySem.Calls PyProof.Rows
set_option maxRecDepth 100000
set_option Elab.async false
set_option maxHeartbeats 4000000
set_option autoImplicit false
set_option linter.unusedVariables false
namespace Mine
theorem LsAt.offL {h h' : Heap} {l : Addr} {xs : List Value} (x : LsAt h l xs) (k : ∀ o, h.get? l = some o → h'.get? l = some o) : LsAt h' l xs := let ⟨nn, e⟩ := x; ⟨nn, k _ e⟩
section
variable {prog : Program} {w : World} {A : Around} {G : Heap} {mg mb : Str → Option Value} {d : Ads} {s₀ s s' : Shared} {L c P wl gl mk pl sd : Addr} {a : Nat} {m m' cm : Str → Option Value} {n : Nat} {R : Flow → Shared → Prop} {vs pv sv : List Value}
theorem LCs.lsL {l : Addr} {xs : List Value} (S : LCs s₀ L c P wl gl a m cm s) (x : LsAt s.heap l xs) : l ≠ L := fun q => by
  obtain ⟨nn, e⟩ := x
  obtain ⟨o', es, ep, e1, e2, _⟩ := S.C.I.ns
  rw [q, e1] at e; cases e; cases e2
theorem crossedB3 {q : Nat} {ht : Nat → Nat} {gv : List Value} (sg : Sg G mg mb d) (hG : ∀ {s' : Shared}, Kp [P] s₀ s' → ∀ b o, G.get? b = some o → s'.heap.get? b = some o) (ha : 0 < a) (hq : a * q = 10) (S : LCs s₀ L c P wl gl a m cm s) (hr : Rm (n + 8) A)
    (hgl : ∀ {s' : Shared}, Kp [P] s₀ s' → LsAt s'.heap gl gv) (hg : Gps gv ht a)
    (hm : m "marks" = some (.ref mk)) (lm : LsAt s.heap mk vs) (hv : IntsAre vs (mkN a (q - 1))) (hp : m "places" = some (.ref pl)) (lp : LsAt s.heap pl pv) (hs : m "sides" = some (.ref sd)) (ls : LsAt s.heap sd sv) (hsl : sv.length = q) (hsv : ∀ j, j < q → ∃ t, sv[j]? = some (.int (sgZ ht a (j * a)) t))
    (hR : ∀ s' m' rt rv, LCs s₀ L c P wl gl a m' cm s' → m' "marks" = some (.ref mk) → LsAt s'.heap mk vs → m' "places" = some (.ref pl) → LsAt s'.heap pl pv → m' "sides" = some (.ref sd) → LsAt s'.heap sd sv → m' "right" = some (.ref rt) → LsAt s'.heap rt rv → s₀.heap.get? rt = none → rt ≠ L → rt ≠ mk → rt ≠ pl → rt ≠ sd →
      rv.length ≤ q → (∀ v ∈ rv, v = .bool true) → (∀ j, j < q → sgZ ht a (j * a) = 0 → rv ≠ []) → wpAny (model prog w) A (execs (dLC.2.1.drop 6) (envC L d)) R (fun _ _ => False) s') :
    wpAny (model prog w) A (execs (dLC.2.1.drop 5) (envC L d)) R (fun _ _ => False) s := by
  have hh := hr.2.2
  have hvl : vs.length = q := by rw [hv.length, mkN_len]; have := aq_cases hq; omega
  have hmL := S.lsL lm
  have hpL := S.lsL lp
  have hsL := S.lsL ls
  have G1 := hG S.C.I.kp
  have g1 := sg.glo.keeps G1
  refine compPA (cl := [("gaps", L + 2)]) hh ?main ?hsw ?hclos ?hcell ?hkind ?hnames ?hx ?hx2 ?hxx ?hs
  case hsw => with_unfolding_all rfl
  case hclos => rfl
  case hcell => decide +kernel
  case hkind => rfl
  case hnames => decide +kernel
  case hx => rfl
  case hx2 => rfl
  case hxx => decide
  case hs => intro _; rfl
  refine wpAny_Call_Name_kw (ldB (mg := mg) (mb := mb) g1.g (sg.no "zip" (by decide)) g1.b (g1.name boot_zip (by decide)) ?_)
  refine PyProof.Rows.callWith_type1 (wpAny_items_cons (ldL S.C.I.ns hm (wpAny_items_cons (ldL S.C.I.ns hs (wpAny_items_nil ?_)))))
  have lt1 : mk < s.heap.objs.size := let ⟨_, e⟩ := lm; Heap.lt_size e
  have lt2 : sd < s.heap.objs.size := let ⟨_, e⟩ := ls; Heap.lt_size e
  refine call_zip_2 lm.isList ls.isList fun h' hz hTI hTO hi1 hi2 hsz hk => ?_
  have D := zipApart_new lt1 lt2
  have k2 : Kp [] s { s with heap := h' } := ⟨fun b o _ e => hk b o e, rfl, id⟩
  have S2 := S.call k2
  have lm2 := lm.keeps k2.all
  have ls2 := ls.keeps k2.all
  have nn : ∀ k, s.heap.get? (s.heap.objs.size + k) = none := fun k => Heap.get?_none_of_le (Nat.le_add_right _ k)
  have z0 := S.none0 (nn 4)
  have TO0 := S.none0 (nn 3)
  have i10 : s₀.heap.get? s.heap.objs.size = none ∧ s.heap.objs.size ≠ L := S.none0 (nn 0)
  have i20 := S.none0 (nn 1)
  refine wpAny_pyIter_zip hz ?_
  have hmin : min vs.toArray.size sv.toArray.size = q := by rw [List.size_toArray, List.size_toArray, hvl, hsl, Nat.min_self]
  have W := WalksT.zip2 (prog := prog) (w := w) (A := A) hh _ _ _ _ _ _ _ D vs.toArray sv.toArray
  rw [hmin] at W
  have hfp : ∀ b ∈ [s.heap.objs.size + 4, s.heap.objs.size + 2, s.heap.objs.size + 3, s.heap.objs.size, s.heap.objs.size + 1, mk, sd], b < h'.objs.size := fun b hb => by
    rw [hsz]
    simp only [List.mem_cons, List.not_mem_nil, or_false] at hb
    rcases hb with rfl | rfl | rfl | rfl | rfl | rfl | rfl
    · exact Nat.add_lt_add_left (by decide) _
    · exact Nat.add_lt_add_left (by decide) _
    · exact Nat.add_lt_add_left (by decide) _
    · exact Nat.lt_add_of_pos_right (by decide)
    · exact Nat.add_lt_add_left (by decide) _
    · exact Nat.lt_of_lt_of_le lt1 (Nat.le_add_right _ _)
    · exact Nat.lt_of_lt_of_le lt2 (Nat.le_add_right _ _)
  have off : ∀ b o, s.heap.get? b = some o → b ∉ [s.heap.objs.size + 4, s.heap.objs.size + 3, s.heap.objs.size, s.heap.objs.size + 1] := fun b o e hb => by
    have hlt := Heap.lt_size e
    simp only [List.mem_cons, List.not_mem_nil, or_false] at hb
    rcases hb with rfl | rfl | rfl | rfl
    · exact absurd hlt (Nat.not_lt.mpr (Nat.le_add_right _ _))
    · exact absurd hlt (Nat.not_lt.mpr (Nat.le_add_right _ _))
    · exact absurd hlt (Nat.lt_irrefl _)
    · exact absurd hlt (Nat.not_lt.mpr (Nat.le_add_right _ _))
  have hJ0 : (fun (i : Nat) (ys : List Value) (_ : Shared) => (∀ v ∈ ys, v = Value.bool true) ∧ ys.length ≤ i ∧ ∀ j, j < i → sgZ ht a (j * a) = 0 → ys ≠ []) 0 [] { s with heap := h' } := ⟨(fun v hv => by cases hv), Nat.le_refl _, fun j hj => absurd hj (Nat.not_lt_zero j)⟩
  refine ⟨_, _, _, q, _, _, _, fun (i : Nat) (ys : List Value) (_ : Shared) => (∀ v ∈ ys, v = Value.bool true) ∧ ys.length ≤ i ∧ ∀ j, j < i → sgZ ht a (j * a) = 0 → ys ≠ [], rfl, W, (fun i vals ⟨x, y, _, _, e⟩ => ⟨x, y, e⟩), (by have := aq_cases hq; omega), ⟨hz, hTI, ⟨_, _, hTO⟩, hi1, hi2, lm2.isList, ls2.isList⟩, hfp, hJ0, (fun _ _ _ _ h _ => h), ?turn, ?fin⟩
  case turn =>
    intro C i v₁ v₂ u m₁ ys hi hvi I₁ hmx hmy hyl hJ
    obtain ⟨x, y, ex, ey, exy⟩ := hvi
    obtain ⟨rfl, rfl⟩ : v₁ = x ∧ v₂ = y := by simpa using congrArg Array.toList exy
    have ex' : vs[i]? = some v₁ := by simpa using ex
    have ey' : sv[i]? = some v₂ := by simpa using ey
    obtain ⟨ti, eti⟩ := hv.get i _ (mkN_at (a := a) (j := q - 1) (i := i) (by omega))
    rw [ex'] at eti; cases eti
    obtain ⟨tj, etj⟩ := hsv i hi
    rw [ey'] at etj; cases etj
    refine wpAny_isTrue_Compare1 (ldL I₁.ns hmy (wpAny_Constant_int (PyProof.Rows.eq_int (wpAny_truthy_bool ?_))))
    rcases sgZ_cases ht a (i * a) with ⟨e1, e2⟩ | ⟨e1, e2⟩ | ⟨e1, e2⟩
    · rw [e1]
      refine ⟨⟨fun _ _ _ e => e, rfl, id⟩, hJ.1, by have := hJ.2.1; omega, fun j hj hz => ?_⟩
      by_cases z : j < i
      · exact hJ.2.2 j z hz
      · have : j = i := by omega
        subst this
        rw [e1] at hz; cases hz
    · rw [e1]
      have ki : Kp [P] s₀ u := ⟨fun b o nb e => I₁.kp.keep b o (fun z => by
          simp only [List.mem_cons, List.not_mem_nil, or_false] at z
          rcases z with rfl | rfl | rfl | rfl
          · rw [z0.1] at e; cases e
          · rw [TO0.1] at e; cases e
          · rw [i10.1] at e; cases e
          · rw [i20.1] at e; cases e) (S2.C.I.kp.keep b o nb e), I₁.kp.os.trans S2.C.I.kp.os, fun g => I₁.kp.gens (S2.C.I.kp.gens g)⟩
      have cg : u.heap.IsCell (L + 2) (some (.ref gl)) := by
        rw [← S.g]
        obtain ⟨o, f1, f2⟩ := S.C.cell "gaps" (L + 2) rfl
        exact ⟨o, I₁.kp.keep _ _ (off _ _ f1) (hk _ _ f1), f2⟩
      have lg := hgl ki
      have hia : i * a < 11 - a := by
        have h1 : i * a + a = (i + 1) * a := by rw [Nat.add_mul, Nat.one_mul]
        have h2 : (i + 1) * a ≤ 10 := by rw [← hq, Nat.mul_comm a q]; exact Nat.mul_le_mul_right a hi
        have h3 : a ≤ 10 := Nat.le_of_dvd (by decide) ⟨q, hq.symm⟩
        omega
      obtain ⟨tg, eg⟩ := hg.at_ (i * a) hia
      refine wpAny_Compare1 (Subscript_ (ldC (c := L + 2) rfl cg (ldL I₁.ns hmx ?_)))
      refine lst_item (k := ((i * a : Nat) : Int)) (x := .int (gpZ ht a (i * a)) tg) lg.isList (by omega) (by omega) (by rw [Int.toNat_natCast]; simpa using eg) ?_
      refine wpAny_Constant_int (PyProof.Rows.eq_int ?_)
      rw [e2]
      refine ⟨⟨fun _ _ _ e => e, rfl, id⟩, fun v hv => ?_, by rw [List.length_append, List.length_singleton]; have := hJ.2.1; omega, fun _ _ _ => by simp⟩
      rcases List.mem_append.mp hv with hv | hv
      · exact hJ.1 v hv
      · rw [List.mem_singleton.mp hv]; rfl
    · rw [e1]
      refine ⟨⟨fun _ _ _ e => e, rfl, id⟩, hJ.1, by have := hJ.2.1; omega, fun j hj hz => ?_⟩
      by_cases z : j < i
      · exact hJ.2.2 j z hz
      · have : j = i := by omega
        subst this
        rw [e1] at hz; cases hz
  case fin =>
    intro D' C s' ys ce
    have S3 : LCs s₀ L c P wl gl a m cm s' := S2.offs ce.kp fun b hb => by
      simp only [List.mem_cons, List.not_mem_nil, or_false] at hb
      have liter : ∀ {b l : Addr} {i : Nat}, h'.IsListIter b l i → ∀ o, h'.get? b = some o → Dull o ∧ ∀ v, o.data ≠ .cell v := fun {b l i} x o e => by
        refine ⟨Dull.liter x o e, fun v q => ?_⟩
        obtain ⟨o', e1, e2, e3⟩ := x
        rw [e1] at e; cases e; rw [e3] at q; cases q
      rcases hb with rfl | rfl | rfl | rfl
      · refine ⟨z0.1, z0.2, fun o e => ?_⟩
        have e' := hz.symm.trans e
        cases e'
        refine ⟨fun xs ex => ?_, fun v ev => by cases ev⟩
        cases ex
        exact ⟨by show Value.type "zip" ≠ Value.type "code"; decide, fun q t ee => by simp at ee⟩
      · refine ⟨TO0.1, TO0.2, fun o e => ?_⟩
        have e' := hTO.symm.trans e
        cases e'
        exact ⟨Dull.seq rfl, fun v ev => by cases ev⟩
      · exact ⟨i10.1, i10.2, liter hi1⟩
      · exact ⟨i20.1, i20.2, liter hi2⟩
    have D0 := S2.none0 ce.nD
    have C0 := S2.none0 ce.nC
    refine S3.st fun s₄ S4 sm4 _ => ⟨fun m₁ ns => ns.at' fun o e => (sm4 _ C0.2).trans e, fun s₅ k5 => ?_⟩
    obtain ⟨m₁, ns⟩ := ce.cn
    have S5 := S4.drop (ns.at' fun o e => (sm4 _ C0.2).trans e) C0.1 C0.2 k5
    have up : ∀ {l : Addr} {xs : List Value}, LsAt s.heap l xs → l ≠ L → LsAt s₅.heap l xs := fun {l xs} x hl => by
      obtain ⟨nn, e⟩ := x
      have e2 := k2.all _ _ e
      refine ⟨nn, k5.keep _ _ (fun q => ?_) ((sm4 _ hl).trans (ce.kp.keep _ _ (off _ _ e) e2))⟩
      have := ce.nC
      rw [← List.mem_singleton.mp q, e2] at this; cases this
    have ne : ∀ {l : Addr} {xs : List Value}, LsAt s.heap l xs → D' ≠ l := fun {l xs} x q => by
      obtain ⟨nn, e⟩ := x
      have := ce.nD
      rw [q, k2.all _ _ e] at this; cases this
    have lD : LsAt s₅.heap D' ys := by
      obtain ⟨nn, e⟩ := ce.ls
      exact ⟨nn, k5.keep _ _ (fun q => ce.ne (List.mem_singleton.mp q)) ((sm4 _ D0.2).trans e)⟩
    exact hR s₅ _ D' ys S5 ((if_neg (by decide)).trans hm) (up lm hmL) ((if_neg (by decide)).trans hp) (up lp hpL) ((if_neg (by decide)).trans hs) (up ls hsL) (if_pos rfl) lD D0.1 D0.2 (ne lm) (ne lp) (ne ls) ce.j.2.1 ce.j.1 ce.j.2.2
end
end Mine
end
section
open PySem PySem.W PySem.Calls PyProof.Rows
set_option maxRecDepth 100000
set_option Elab.async false
set_option maxHeartbeats 4000000
set_option autoImplicit false
set_option linter.unusedVariables false
namespace Mine
def dLCif : List Stmt := match (dLC.2.1[6]? : Option Stmt) with
  | some (.For _ _ [.If _ b _ _] _ _) => b
  | _ => []
def lamLC1 : Lam := match (dLCif[1]? : Option Stmt) with
  | some (.Assign _ (.Call _ _ [k] _) _) => (match k.value with
    | Expr.Lambda a b sc _ => (a, b, sc)
    | _ => (⟨[], [], none, [], [], none, []⟩, .Constant .none 0 default, default))
  | _ => (⟨[], [], none, [], [], none, []⟩, .Constant .none 0 default, default)
def lamLC2 : Lam := match (dLCif[3]? : Option Stmt) with
  | some (.Assign _ (.Call _ _ [k] _) _) => (match k.value with
    | Expr.Lambda a b sc _ => (a, b, sc)
    | _ => (⟨[], [], none, [], [], none, []⟩, .Constant .none 0 default, default))
  | _ => (⟨[], [], none, [], [], none, []⟩, .Constant .none 0 default, default)
theorem sg_mulok {tn x : Int} (h : tn = 1 ∨ tn = -1) : IntMulOk tn x := IntMulOk.of_left (intBits_le_64 (by omega) (by omega))
section
variable {prog : Program} {w : World} {A : Around} {G : Heap} {mg mb : Str → Option Value} {d : Ads} {s₀ s s' : Shared} {L c P wl gl mk pl sd rt : Addr} {a q : Nat} {m m' cm : Str → Option Value} {n : Nat} {R : Flow → Shared → Prop} {vs pv sv rv : List Value} {ht : Nat → Nat}

/-- the key of the halvings -/
theorem lcKey {f c' cw ct cx wl : Addr} {ws : List Value} {p : Nat} {t tt tx : Tok} {tn : Int} {lam : Lam} (hlam : lam = lamLC1 ∨ lam = lamLC2) (sg : Sg G mg mb d) (hG : ∀ b o, G.get? b = some o → s.heap.get? b = some o) (hf : LamAt s.heap f qLC lam [("words", cw), ("turn", ct), ("across", cx)] c')
    (hcw : s.heap.IsCell cw (some (.ref wl))) (hct : s.heap.IsCell ct (some (.int tn tt))) (hcx : s.heap.IsCell cx (some (.int a tx))) (hl : LsAt s.heap wl ws) (hw : Wds ws ht) (hp : p + a ≤ 10) (htn : tn = 1 ∨ tn = -1) :
    KeyOk prog w (n + 2) s (.ref f) (.int (p : Nat) t) fun r => ∃ u, r = .int (tn * sgZ ht a p) u := by
  intro A s' Q hr k h
  rcases hlam with rfl | rfl
  all_goals
    refine wpAny_call (callE (n := n + 1) (binds := [("place", .int (p : Nat) t)]) (hf.keeps k.all) ((sg.glo.keeps hG).keeps k.all).lim hr (fun _ _ => rfl) (fun L h₁ hL F₁ hr' => ?_) (by decide +kernel) (locs rfl))
    have I := Loc.start (tk := s'.toks + 1) F₁
    have old : ∀ b o, s.heap.get? b = some o → h₁.get? b = some o := fun b o e => I.old b o (k.all b o e)
    have g := (sg.glo.keeps hG).keeps old
    obtain ⟨o, doc, pm, an, ct', r1, r2, r3⟩ := (sg.SC.keeps hG).keeps old
    obtain ⟨t1, w1⟩ := hw.at_ (p + a) (by omega)
    obtain ⟨t2, w2⟩ := hw.at_ p (by omega)
    have e0 : ((p : Nat) : Int) + a = ((p + a : Nat) : Int) := by omega
    refine wpAny_BinOp (ldF (c := ct) rfl (hct.keeps old) ?_)
    refine wpAny_Call_Name_kw (ldG (mg := mg) g.g sg.mSC (cwP (o := o) (fd := fnX "_strcoll" "_strcoll" dSC.1 dSC.2.1 dSC.2.2 [] .none .none doc pm an d.cSC ct') ?_))
    refine wpAny_items_cons (Subscript_ ?_)
    refine ldF (c := cw) rfl (hcw.keeps old) ?_
    refine wpAny_BinOp ?_
    refine ldL I.ns rfl ?_
    refine ldF (c := cx) rfl (hcx.keeps old) ?_
    refine add_int ?_
    rw [e0]
    refine lst_item (k := ((p + a : Nat) : Int)) (x := .str (bl (ht (p + a))) t1) (hl.keeps old).isList (by omega) (by omega) (by rw [Int.toNat_natCast]; simpa using w1) ?_
    refine wpAny_items_cons (Subscript_ (ldF (c := cw) rfl (hcw.keeps old) (ldL I.ns rfl ?_)))
    refine lst_item (k := ((p : Nat) : Int)) (x := .str (bl (ht p)) t2) (hl.keeps old).isList (by omega) (by omega) (by rw [Int.toNat_natCast]; simpa using w2) ?_
    refine wpAny_items_nil ⟨⟨r1, r2⟩, wpAny_call ?_⟩
    refine strcoll_spec (n := n) ⟨o, doc, pm, an, ct', r1, r2, r3⟩ g.lim hr' fun s₂ tk k₂ => ?_
    rw [bl_lt, bl_lt]
    exact mul_int (h _ _ ⟨fun b o _ e => k₂.all b o (I.old b o e), k₂.os, k₂.gens⟩ ⟨_, rfl⟩) (sg_mulok htn)

/-- in the last loop -/
structure LCl (s₀ : Shared) (L c P wl gl : Addr) (a : Nat) (mk pl sd rt : Addr) (vs pv sv rv : List Value) (m cm : Str → Option Value) (s : Shared) : Prop where
  S : LCs s₀ L c P wl gl a m cm s
  hm : m "marks" = some (.ref mk)
  hp : m "places" = some (.ref pl)
  hs : m "sides" = some (.ref sd)
  hr : m "right" = some (.ref rt)
  lm : LsAt s.heap mk vs
  lp : LsAt s.heap pl pv
  ls : LsAt s.heap sd sv
  lr : LsAt s.heap rt rv
/-- what does not change in it -/
structure LCf (s₀ : Shared) (L a q : Nat) (mk pl sd rt : Addr) (vs pv sv : List Value) (ht : Nat → Nat) : Prop where
  vi : IntsAre vs (mkN a (q - 1))
  pl_ : pv.length = 11
  pv_ : ∀ i, i < 11 → ∃ t, pv[i]? = some (Value.int (i : Nat) t)
  sl : sv.length = q
  sv_ : ∀ j, j < q → ∃ t, sv[j]? = some (Value.int (sgZ ht a (j * a)) t)
  rt0 : s₀.heap.get? rt = none
  rtL : @Ne Nat rt L
  rtm : rt ≠ mk
  rtp : rt ≠ pl
  rts : rt ≠ sd
theorem LCl.call (S : LCl s₀ L c P wl gl a mk pl sd rt vs pv sv rv m cm s) (k : Kp [] s s') : LCl s₀ L c P wl gl a mk pl sd rt vs pv sv rv m cm s' := ⟨S.S.call k, S.hm, S.hp, S.hs, S.hr, S.lm.keeps k.all, S.lp.keeps k.all, S.ls.keeps k.all, S.lr.keeps k.all⟩
theorem LCl.tok {tk : Nat} (S : LCl s₀ L c P wl gl a mk pl sd rt vs pv sv rv m cm s) : LCl s₀ L c P wl gl a mk pl sd rt vs pv sv rv m cm { s with toks := tk } := ⟨S.S.tok, S.hm, S.hp, S.hs, S.hr, S.lm, S.lp, S.ls, S.lr⟩
theorem LCl.st {M : Model} {A : Around} {E : Value → Shared → Prop} {Q : Unit → Shared → Prop} {nm : Str} {v : Value} (S : LCl s₀ L c P wl gl a mk pl sd rt vs pv sv rv m cm s) (h : ∀ s', LCl s₀ L c P wl gl a mk pl sd rt vs pv sv rv (upd m nm v) cm s' → SameL L s s' → s'.gens = s.gens → Q () s')
    (hx : (envC L d).kindOf nm = some .local := by rfl) (h1 : ("marks" : Str) ≠ nm := by decide) (h2 : ("places" : Str) ≠ nm := by decide) (h3 : ("sides" : Str) ≠ nm := by decide) (h4 : ("right" : Str) ≠ nm := by decide) : wpAny M A (storeName (envC L d) nm v) Q E s :=
  S.S.st (fun s' S' sm g => h s' ⟨S', (if_neg h1).trans S.hm, (if_neg h2).trans S.hp, (if_neg h3).trans S.hs, (if_neg h4).trans S.hr, S.lm.of_eq (sm _ (S.S.lsL S.lm)), S.lp.of_eq (sm _ (S.S.lsL S.lp)), S.ls.of_eq (sm _ (S.S.lsL S.ls)), S.lr.of_eq (sm _ (S.S.lsL S.lr))⟩ sm g) hx
theorem LCs.stC {M : Model} {A : Around} {E : Value → Shared → Prop} {Q : Unit → Shared → Prop} {v : Value} (S : LCs s₀ L c P wl gl a m cm s) (h : ∀ s', LCs s₀ L c P wl gl a m (upd cm "turn" v) s' → (∀ b, b ≠ L + 4 → s'.heap.get? b = s.heap.get? b) → Q () s') : wpAny M A (storeName (envC L d) "turn" v) Q E s := by
  refine stCC' (env := envC L d) (c := L + 4) S.C rfl (fun s' C' sm => h s' ⟨C', S.T.off (T' := [L + 4]) (fun b o nb e => (sm b fun z => nb (by rw [z]; exact List.mem_singleton.mpr rfl)).trans e) fun b hb => ?_, (if_neg (by decide)).trans S.w, (if_neg (by decide)).trans S.g, ?_, S.nP⟩ sm) rfl rfl
  · rw [List.mem_singleton.mp hb]
    obtain ⟨o, e1, e2⟩ := S.C.cell "turn" (L + 4) rfl
    obtain ⟨ps, e3, _⟩ := S.T.ex
    refine ⟨fun z => ?_, fun o' e vs ev => ?_⟩
    · rw [z, e3] at e1; cases e1; cases e2
    · rw [e1] at e; cases e; rw [e2] at ev; cases ev
  · obtain ⟨t, e⟩ := S.x
    exact ⟨t, (if_neg (by decide)).trans e⟩
theorem LCs.lsC {l : Addr} {xs : List Value} (S : LCs s₀ L c P wl gl a m cm s) (x : LsAt s.heap l xs) : l ≠ L + 4 := fun q => by
  obtain ⟨nn, e⟩ := x
  obtain ⟨o, e1, e2⟩ := S.C.cell "turn" (L + 4) rfl
  rw [q, e1] at e; cases e; cases e2
theorem LCl.stC {M : Model} {A : Around} {E : Value → Shared → Prop} {Q : Unit → Shared → Prop} {v : Value} (S : LCl s₀ L c P wl gl a mk pl sd rt vs pv sv rv m cm s) (h : ∀ s', LCl s₀ L c P wl gl a mk pl sd rt vs pv sv rv m (upd cm "turn" v) s' → (∀ b, b ≠ L + 4 → s'.heap.get? b = s.heap.get? b) → Q () s') : wpAny M A (storeName (envC L d) "turn" v) Q E s :=
  S.S.stC fun s' S' sm => h s' ⟨S', S.hm, S.hp, S.hs, S.hr, S.lm.of_eq (sm _ (S.S.lsC S.lm)), S.lp.of_eq (sm _ (S.S.lsC S.lp)), S.ls.of_eq (sm _ (S.S.lsC S.ls)), S.lr.of_eq (sm _ (S.S.lsC S.lr))⟩ sm
theorem LCs.lsP {l : Addr} {xs : List Value} (S : LCs s₀ L c P wl gl a m cm s) (x : LsAt s.heap l xs) : l ≠ P := fun q => by
  obtain ⟨nn, e⟩ := x
  obtain ⟨ps, e1, e2⟩ := S.T.ex
  rw [q, e1] at e; cases e
/-- a lambda was made -/
theorem LCl.lam (S : LCl s₀ L c P wl gl a mk pl sd rt vs pv sv rv m cm s) (k : Kp [P] s s') (T : Tab s'.heap c P qLC) : LCl s₀ L c P wl gl a mk pl sd rt vs pv sv rv m cm s' := by
  have up : ∀ {l : Addr} {xs : List Value}, LsAt s.heap l xs → LsAt s'.heap l xs := fun {l xs} x => x.offL fun o e => k.keep _ _ (fun q => S.S.lsP x (List.mem_singleton.mp q)) e
  refine ⟨⟨S.S.C.turn k (fun b hb => .inl hb) (fun q => S.S.PL (List.mem_singleton.mp q).symm) (fun nm cc e q => ?_), T, S.S.w, S.S.g, S.S.x, S.S.nP⟩, S.hm, S.hp, S.hs, S.hr, up S.lm, up S.lp, up S.ls, up S.lr⟩
  obtain ⟨o, e1, e2⟩ := S.S.C.cell nm cc e
  obtain ⟨ps, e3, _⟩ := S.S.T.ex
  rw [List.mem_singleton.mp q, e3] at e1; cases e1; cases e2
/-- right has grown -/
theorem LCl.app {v : Value} (S : LCl s₀ L c P wl gl a mk pl sd rt vs pv sv rv m cm s) (F : LCf s₀ L a q mk pl sd rt vs pv sv ht) (o : Only rt s s') (l : LsAt s'.heap rt (rv ++ [v])) : LCl s₀ L c P wl gl a mk pl sd rt vs pv sv (rv ++ [v]) m cm s' :=
  ⟨S.S.off o.kp F.rt0 F.rtL (dullL S.lr), S.hm, S.hp, S.hs, S.hr, S.lm.of_eq (o.same _ F.rtm.symm), S.lp.of_eq (o.same _ F.rtp.symm), S.ls.of_eq (o.same _ F.rts.symm), l⟩
end
end Mine
end
section
open PySem PySem.W PySem.Calls PyProof.Rows
set_option maxRecDepth 100000
set_option Elab.async false
set_option maxHeartbeats 4000000
set_option autoImplicit false
set_option linter.unusedVariables false
namespace Mine
section
variable {prog : Program} {w : World} {A : Around} {G : Heap} {mg mb : Str → Option Value} {d : Ads} {s₀ s s' : Shared} {L c P wl gl mk pl sd rt : Addr} {a q : Nat} {m m' cm : Str → Option Value} {n : Nat} {R : Flow → Shared → Prop} {vs pv sv rv : List Value} {ht : Nat → Nat}
/-- what the loop's body leaves -/
def Kq (L P rt : Addr) (s s' : Shared) : Prop := ∀ b o, b ∉ [L, P, rt, L + 4] → s.heap.get? b = some o → s'.heap.get? b = some o
theorem Kq.trans {L P rt : Addr} {s s' s'' : Shared} (h : Kq L P rt s s') (h' : Kq L P rt s' s'') : Kq L P rt s s'' := fun b o n e => h' b o n (h b o n e)
theorem Kq.of {L P rt : Addr} {T : List Addr} {s s' : Shared} (k : ∀ b o, b ∉ T → s.heap.get? b = some o → s'.heap.get? b = some o) (h : ∀ b ∈ T, b ∈ [L, P, rt, L + 4]) : Kq L P rt s s' := fun b o n e => k b o (fun q => n (h b q)) e
theorem Kq.sm {L P rt : Addr} {s s' : Shared} (k : SameL L s s') : Kq L P rt s s' := Kq.of k.keep (by simp)
theorem gp_last {tn : Int} {i : Nat} (h1 : tn = sgZ ht a ((i + 1) * a)) (h2 : sgZ ht a (i * a) * tn < 0) : (tn = 1 ∨ tn = -1) ∧ tn * sgZ ht a (i * a) < 0 ∧ tn * sgZ ht a ((i + 1) * a) = 1 := by
  rcases sgZ_cases ht a ((i + 1) * a) with ⟨e, _⟩ | ⟨e, _⟩ | ⟨e, _⟩
  · rw [e] at h1; subst h1; rw [e]; exact ⟨.inl rfl, by rw [Int.mul_comm]; exact h2, rfl⟩
  · rw [e] at h1; subst h1; simp at h2
  · rw [e] at h1; subst h1; rw [e]; exact ⟨.inr rfl, by rw [Int.mul_comm]; exact h2, rfl⟩
theorem sg_gp {tn : Int} {p : Nat} (ht1 : tn = 1 ∨ tn = -1) : (tn * sgZ ht a p < 0 ↔ tn * gpZ ht a p < 0) ∧ (0 < tn * sgZ ht a p ↔ 0 < tn * gpZ ht a p) := by
  rcases ht1 with rfl | rfl <;> rcases sgZ_cases ht a p with ⟨e, g⟩ | ⟨e, g⟩ | ⟨e, g⟩ <;> rw [e] <;> constructor <;> constructor <;> intro h <;> omega

theorem crossedL {ws gv : List Value} {i : Nat} {tn : Int} {tt tk : Tok} (sg : Sg G mg mb d) (hG : ∀ {s' : Shared}, Kp [P] s₀ s' → ∀ b o, G.get? b = some o → s'.heap.get? b = some o) (hP : G.get? P = none) (hc : d.cLC = .ref c) (ha : 0 < a) (hq : a * q = 10)
    (hwl : ∀ {s' : Shared}, Kp [P] s₀ s' → LsAt s'.heap wl ws) (hw : Wds ws ht) (hgl : ∀ {s' : Shared}, Kp [P] s₀ s' → LsAt s'.heap gl gv) (hg : Gps gv ht a)
    (F : LCf s₀ L a q mk pl sd rt vs pv sv ht) (S : LCl s₀ L c P wl gl a mk pl sd rt vs pv sv rv m cm s) (hk : m "k" = some (.int ((i + 1 : Nat) : Int) tk)) (hct : cm "turn" = some (.int tn tt)) (hi : i + 1 < q) (e1 : tn = sgZ ht a ((i + 1) * a)) (e2 : sgZ ht a (i * a) * tn < 0) (hrv : rv.length < 1000) (hr : Rm (n + 8) A)
    (hR : ∀ s' m', LCl s₀ L c P wl gl a mk pl sd rt vs pv sv (rv ++ [.bool true]) m' cm s' → m' "k" = some (.int ((i + 1 : Nat) : Int) tk) → Kq L P rt s s' → wpAny (model prog w) A (execs (dLCif.drop 3) (envC L d)) R (fun _ _ => False) s') :
    wpAny (model prog w) A (execs (dLCif.drop 1) (envC L d)) R (fun _ _ => False) s := by
  have ha10 : a ≤ 10 := Nat.le_of_dvd (by decide) ⟨q, hq.symm⟩
  have hq10 : q ≤ 10 := Nat.le_of_dvd (by decide) ⟨a, by rw [Nat.mul_comm]; exact hq.symm⟩
  have hi1 : (i + 1) * a + a ≤ 10 := by
    have h1 : (i + 1) * a + a = (i + 1 + 1) * a := by rw [Nat.add_mul (i + 1) 1 a, Nat.one_mul]
    rw [h1, ← hq, Nat.mul_comm a q]; exact Nat.mul_le_mul_right a hi
  have hi0 : i * a + a = (i + 1) * a := by rw [Nat.add_mul, Nat.one_mul]
  obtain ⟨htn, hlo, hhi⟩ := gp_last e1 e2
  have G1 := hG S.S.C.I.kp
  have g1 := sg.glo.keeps G1
  have ek : ((i + 1 : Nat) : Int) - 1 = ((i : Nat) : Int) := by omega
  obtain ⟨t0, m0⟩ := F.vi.get i _ (mkN_at (a := a) (j := q - 1) (i := i) (by omega))
  obtain ⟨t1, m1⟩ := F.vi.get (i + 1) _ (mkN_at (a := a) (j := q - 1) (i := i + 1) (by omega))
  obtain ⟨oB, docB, pmB, anB, ctB, b1, b2, b3⟩ := id sg.BL
  refine LCs.set (wpAny_Call_Name_kw (ldG (mg := mg) g1.g sg.mBL (cwF (o := oB) (fd := fnX "bisect_left" "bisect_left" dBL.1 dBL.2.1 dBL.2.2 [] d.dBL d.kBL docB pmB anB d.cBL ctB) ?_)))
  refine wpAny_items_cons (ldL S.S.C.I.ns S.hp (wpAny_items_cons (cInt fun tz _ => wpAny_items_cons (Subscript_ (ldL S.S.C.I.ns S.hm (wpAny_BinOp (ldL S.S.C.I.ns hk (cInt fun _ _ => sub_int ?_))))))))
  rw [ek]
  refine lst_item (k := ((i : Nat) : Int)) (x := .int ((i * a : Nat) : Int) t0) S.lm.isList (by omega) (by omega) (by rw [Int.toNat_natCast]; simpa using m0) ?_
  refine wpAny_items_cons (Subscript_ (ldL S.S.C.I.ns S.hm (ldL S.S.C.I.ns hk ?_)))
  refine lst_item (k := ((i + 1 : Nat) : Int)) (x := .int (((i + 1) * a : Nat) : Int) t1) S.lm.isList (by omega) (by omega) (by rw [Int.toNat_natCast]; simpa using m1) ?_
  refine wpAny_items_nil ?_
  have bi := sg.builtins G1 hP
  refine wpAny_evalAll_cons (wpAny_bind (mkLam (c := c) (P := P) (clos := [("words", L + 1), ("turn", L + 4), ("across", L + 3)]) rfl rfl rfl g1.g hc S.tok.S.T bi.2 bi.1 fun f c' s₂ nf lf T2 k2 => wpAny_bind (wpAny_standAt (wpAny_pure (wpAny_evalAll_nil ?_)))))
  have S2 : LCl s₀ L c P wl gl a mk pl sd rt vs pv sv rv m cm s₂ := S.tok.lam k2 T2
  have G2 := hG S2.S.C.I.kp
  have g2 := sg.glo.keeps G2
  refine ⟨⟨G2 _ _ b1, b2⟩, wpAny_call ?_⟩
  have hcw : s₂.heap.IsCell (L + 1) (some (.ref wl)) := S2.S.w ▸ S2.S.C.cell "words" (L + 1) rfl
  have hct2 : s₂.heap.IsCell (L + 4) (some (.int tn tt)) := hct ▸ S2.S.C.cell "turn" (L + 4) rfl
  obtain ⟨tx, ex⟩ := S2.S.x
  have hcx : s₂.heap.IsCell (L + 3) (some (.int a tx)) := ex ▸ S2.S.C.cell "across" (L + 3) rfl
  have lw := hwl S2.S.C.I.kp
  obtain ⟨of, ff, of1, of2⟩ := lf.fn
  refine bisL_call (n := n + 1) (s := s₂) (c := fun p => !decide (tn * sgZ ht a p < 0)) (lo₀ := i * a) (t := t0) (hi₀ := (i + 1) * a) (sg.BL.keeps G2) g2 (sg.no "len" (by decide)) (hr.less (by omega)) (fun doc pm an ct => bind4k (sg.DBL.keeps G2)) S2.lp.isList (by omega) (by rw [List.size_toArray, F.pl_]; omega) (by rw [List.size_toArray, F.pl_]; decide) (.inr ⟨t1, rfl⟩)
    (.inr ⟨f, of, ff, rfl, of1, of2, fun j v hj1 hj2 hv => ?_⟩) fun r s₃ tr k3 hB => ?_
  · obtain ⟨tp, ep⟩ := F.pv_ j (by omega)
    have hv' : pv[j]? = some v := by simpa using hv
    rw [ep] at hv'; cases hv'
    intro A' s' Q' hr'' kk hQ
    refine lcKey (n := n) (lam := lamLC1) (.inl rfl) sg G2 lf hcw hct2 hcx lw hw (by omega) htn A' s' Q' hr'' kk fun r' s'' kk' hr2 => hQ r' s'' kk' ?_
    obtain ⟨u', rfl⟩ := hr2
    have := LtIs.int (prog := prog) (w := w) (tn * sgZ ht a j) 0 u' tz
    rw [Bool.not_not]
    exact this
  · have hr0 : i * a < r := by
      rcases Nat.lt_or_ge (i * a) r with h | h
      · exact h
      · have hre : r = i * a := Nat.le_antisymm h hB.1
        have h3 : (!decide (tn * sgZ ht a r < 0)) = true := hB.2.2.2 (by omega)
        rw [hre] at h3
        rw [decide_eq_true hlo] at h3; cases h3
    have cr1 : (!decide (tn * sgZ ht a (r - 1) < 0)) = false := hB.2.2.1 hr0
    have hrh := hB.2.1
    have cr2 : ¬ tn * sgZ ht a r < 0 := by
      rcases Nat.lt_or_ge r ((i + 1) * a) with h | h
      · have h3 : (!decide (tn * sgZ ht a r < 0)) = true := hB.2.2.2 h
        have h2 : decide (tn * sgZ ht a r < 0) = false := by simpa using h3
        exact of_decide_eq_false h2
      · have : r = (i + 1) * a := by omega
        rw [this, hhi]; decide
    have cr3 : tn * gpZ ht a (r - 1) < 0 := by
      have h2 : decide (tn * sgZ ht a (r - 1) < 0) = true := by simpa using cr1
      exact (sg_gp htn).1.mp (of_decide_eq_true h2)
    have S3 := S2.call k3
    refine S3.st fun s₄ S4 sm4 _ => ?_
    have ki4 := S4.S.C.I.kp
    have hct4 : s₄.heap.IsCell (L + 4) (some (.int tn tt)) := hct ▸ S4.S.C.cell "turn" (L + 4) rfl
    have hcg4 : s₄.heap.IsCell (L + 2) (some (.ref gl)) := S4.S.g ▸ S4.S.C.cell "gaps" (L + 2) rfl
    have lg4 := hgl ki4
    obtain ⟨tg1, eg1⟩ := hg.at_ (r - 1) (by omega)
    obtain ⟨tg2, eg2⟩ := hg.at_ r (by omega)
    have er : ((r : Nat) : Int) - 1 = ((r - 1 : Nat) : Int) := by omega
    refine wpAny_execs_cons (wpAny_Expr (MethodCall_ (ldL S4.S.C.I.ns S4.hr (methL S4.lr PySem.F.slot_list_append PySem.F.type_list_append ?_))))
    refine callWith_method1 (wpAny_items_cons (Compare_chain ?_))
    refine wpAny_BinOp (ldC (c := L + 4) rfl hct4 (Subscript_ (ldC (c := L + 2) rfl hcg4 (wpAny_BinOp (ldL S4.S.C.I.ns (if_pos rfl) (cInt fun _ _ => sub_int ?_))))))
    rw [er]
    refine lst_item (k := ((r - 1 : Nat) : Int)) (x := .int (gpZ ht a (r - 1)) tg1) lg4.isList (by omega) (by omega) (by rw [Int.toNat_natCast]; simpa using eg1) ?_
    refine mul_int (chain_link (cInt fun _ _ => ?_)) (sg_mulok htn)
    refine lt_int (wpAny_truthy_bool ?_)
    rw [decide_eq_true cr3, if_pos rfl]
    refine chain_last (wpAny_BinOp (ldC (c := L + 4) rfl hct4 (Subscript_ (ldC (c := L + 2) rfl hcg4 (ldL S4.S.C.I.ns (if_pos rfl) ?_)))))
    refine lst_item (k := ((r : Nat) : Int)) (x := .int (gpZ ht a r) tg2) lg4.isList (by omega) (by omega) (by rw [Int.toNat_natCast]; simpa using eg2) ?_
    refine mul_int (PyProof.Rows.le_int ?_) (sg_mulok htn)
    rw [decide_eq_true (show 0 ≤ tn * gpZ ht a r from by have := (sg_gp (ht := ht) (a := a) (p := r) htn).1; omega)]
    refine wpAny_items_nil (appL (S4.tok.lr) (by omega) fun s₅ l5 o5 => ?_)
    refine hR s₅ _ (S4.tok.app F o5 l5) ((if_neg (by decide)).trans hk) ?_
    have q1 : Kq L P rt s s₂ := Kq.of k2.keep (by simp)
    have q2 : Kq L P rt s₂ s₃ := fun b o _ e => k3.all b o e
    have q3 : Kq L P rt s₃ s₄ := Kq.sm sm4
    have q4 : Kq L P rt s₄ s₅ := Kq.of (T := [rt]) o5.kp.keep (by simp)
    exact ((q1.trans q2).trans q3).trans q4

theorem crossedR {ws gv : List Value} {i : Nat} {tn : Int} {tt tk : Tok} (sg : Sg G mg mb d) (hG : ∀ {s' : Shared}, Kp [P] s₀ s' → ∀ b o, G.get? b = some o → s'.heap.get? b = some o) (hP : G.get? P = none) (hc : d.cLC = .ref c) (ha : 0 < a) (hq : a * q = 10)
    (hwl : ∀ {s' : Shared}, Kp [P] s₀ s' → LsAt s'.heap wl ws) (hw : Wds ws ht) (hgl : ∀ {s' : Shared}, Kp [P] s₀ s' → LsAt s'.heap gl gv) (hg : Gps gv ht a)
    (F : LCf s₀ L a q mk pl sd rt vs pv sv ht) (S : LCl s₀ L c P wl gl a mk pl sd rt vs pv sv rv m cm s) (hk : m "k" = some (.int ((i + 1 : Nat) : Int) tk)) (hct : cm "turn" = some (.int tn tt)) (hi : i + 1 < q) (e1 : tn = sgZ ht a ((i + 1) * a)) (e2 : sgZ ht a (i * a) * tn < 0) (hrv : rv.length < 1000) (hr : Rm (n + 8) A)
    (hR : ∀ s' m', LCl s₀ L c P wl gl a mk pl sd rt vs pv sv (rv ++ [.bool true]) m' cm s' → m' "k" = some (.int ((i + 1 : Nat) : Int) tk) → Kq L P rt s s' → wpAny (model prog w) A (execs (dLCif.drop 5) (envC L d)) R (fun _ _ => False) s') :
    wpAny (model prog w) A (execs (dLCif.drop 3) (envC L d)) R (fun _ _ => False) s := by
  have ha10 : a ≤ 10 := Nat.le_of_dvd (by decide) ⟨q, hq.symm⟩
  have hq10 : q ≤ 10 := Nat.le_of_dvd (by decide) ⟨a, by rw [Nat.mul_comm]; exact hq.symm⟩
  have hi1 : (i + 1) * a + a ≤ 10 := by
    have h1 : (i + 1) * a + a = (i + 1 + 1) * a := by rw [Nat.add_mul (i + 1) 1 a, Nat.one_mul]
    rw [h1, ← hq, Nat.mul_comm a q]; exact Nat.mul_le_mul_right a hi
  have hi0 : i * a + a = (i + 1) * a := by rw [Nat.add_mul, Nat.one_mul]
  obtain ⟨htn, hlo, hhi⟩ := gp_last e1 e2
  have G1 := hG S.S.C.I.kp
  have g1 := sg.glo.keeps G1
  have ek : ((i + 1 : Nat) : Int) - 1 = ((i : Nat) : Int) := by omega
  obtain ⟨t0, m0⟩ := F.vi.get i _ (mkN_at (a := a) (j := q - 1) (i := i) (by omega))
  obtain ⟨t1, m1⟩ := F.vi.get (i + 1) _ (mkN_at (a := a) (j := q - 1) (i := i + 1) (by omega))
  obtain ⟨oB, docB, pmB, anB, ctB, b1, b2, b3⟩ := id sg.BR
  refine LCs.set (wpAny_Call_Name_kw (ldG (mg := mg) g1.g sg.mBR (cwF (o := oB) (fd := fnX "bisect_right" "bisect_right" dBR.1 dBR.2.1 dBR.2.2 [] d.dBR d.kBR docB pmB anB d.cBR ctB) ?_)))
  refine wpAny_items_cons (ldL S.S.C.I.ns S.hp (wpAny_items_cons (cInt fun tz _ => wpAny_items_cons (Subscript_ (ldL S.S.C.I.ns S.hm (wpAny_BinOp (ldL S.S.C.I.ns hk (cInt fun _ _ => sub_int ?_))))))))
  rw [ek]
  refine lst_item (k := ((i : Nat) : Int)) (x := .int ((i * a : Nat) : Int) t0) S.lm.isList (by omega) (by omega) (by rw [Int.toNat_natCast]; simpa using m0) ?_
  refine wpAny_items_cons (Subscript_ (ldL S.S.C.I.ns S.hm (ldL S.S.C.I.ns hk ?_)))
  refine lst_item (k := ((i + 1 : Nat) : Int)) (x := .int (((i + 1) * a : Nat) : Int) t1) S.lm.isList (by omega) (by omega) (by rw [Int.toNat_natCast]; simpa using m1) ?_
  refine wpAny_items_nil ?_
  have bi := sg.builtins G1 hP
  refine wpAny_evalAll_cons (wpAny_bind (mkLam (c := c) (P := P) (clos := [("words", L + 1), ("turn", L + 4), ("across", L + 3)]) rfl rfl rfl g1.g hc S.tok.S.T bi.2 bi.1 fun f c' s₂ nf lf T2 k2 => wpAny_bind (wpAny_standAt (wpAny_pure (wpAny_evalAll_nil ?_)))))
  have S2 : LCl s₀ L c P wl gl a mk pl sd rt vs pv sv rv m cm s₂ := S.tok.lam k2 T2
  have G2 := hG S2.S.C.I.kp
  have g2 := sg.glo.keeps G2
  refine ⟨⟨G2 _ _ b1, b2⟩, wpAny_call ?_⟩
  have hcw : s₂.heap.IsCell (L + 1) (some (.ref wl)) := S2.S.w ▸ S2.S.C.cell "words" (L + 1) rfl
  have hct2 : s₂.heap.IsCell (L + 4) (some (.int tn tt)) := hct ▸ S2.S.C.cell "turn" (L + 4) rfl
  obtain ⟨tx, ex⟩ := S2.S.x
  have hcx : s₂.heap.IsCell (L + 3) (some (.int a tx)) := ex ▸ S2.S.C.cell "across" (L + 3) rfl
  have lw := hwl S2.S.C.I.kp
  obtain ⟨of, ff, of1, of2⟩ := lf.fn
  refine bisR_call (n := n + 1) (s := s₂) (c := fun p => decide (0 < tn * sgZ ht a p)) (lo₀ := i * a) (t := t0) (hi₀ := (i + 1) * a) (sg.BR.keeps G2) g2 (sg.no "len" (by decide)) (hr.less (by omega)) (fun doc pm an ct => bind4k (sg.DBR.keeps G2)) S2.lp.isList (by omega) (by rw [List.size_toArray, F.pl_]; omega) (by rw [List.size_toArray, F.pl_]; decide) (.inr ⟨t1, rfl⟩)
    (.inr ⟨f, of, ff, rfl, of1, of2, fun j v hj1 hj2 hv => ?_⟩) fun r s₃ tr k3 hB => ?_
  · obtain ⟨tp, ep⟩ := F.pv_ j (by omega)
    have hv' : pv[j]? = some v := by simpa using hv
    rw [ep] at hv'; cases hv'
    intro A' s' Q' hr'' kk hQ
    refine lcKey (n := n) (lam := lamLC2) (.inr rfl) sg G2 lf hcw hct2 hcx lw hw (by omega) htn A' s' Q' hr'' kk fun r' s'' kk' hr2 => hQ r' s'' kk' ?_
    obtain ⟨u', rfl⟩ := hr2
    exact LtIs.int (prog := prog) (w := w) 0 (tn * sgZ ht a j) tz u'
  · have hr0 : i * a < r := by
      rcases Nat.lt_or_ge (i * a) r with h | h
      · exact h
      · have hre : r = i * a := Nat.le_antisymm h hB.1
        have h3 : (decide (0 < tn * sgZ ht a r)) = true := hB.2.2.2 (by omega)
        rw [hre] at h3
        have := of_decide_eq_true h3; omega
    have cr1 : (decide (0 < tn * sgZ ht a (r - 1))) = false := hB.2.2.1 hr0
    have hrh := hB.2.1
    have cr2 : 0 < tn * sgZ ht a r := by
      rcases Nat.lt_or_ge r ((i + 1) * a) with h | h
      · have h3 : (decide (0 < tn * sgZ ht a r)) = true := hB.2.2.2 h
        exact of_decide_eq_true h3
      · have : r = (i + 1) * a := by omega
        rw [this, hhi]; decide
    have cr3 : tn * gpZ ht a (r - 1) ≤ 0 := by
      have h2 := of_decide_eq_false cr1
      have := (sg_gp (ht := ht) (a := a) (p := r - 1) htn).2; omega
    have S3 := S2.call k3
    refine S3.st fun s₄ S4 sm4 _ => ?_
    have ki4 := S4.S.C.I.kp
    have hct4 : s₄.heap.IsCell (L + 4) (some (.int tn tt)) := hct ▸ S4.S.C.cell "turn" (L + 4) rfl
    have hcg4 : s₄.heap.IsCell (L + 2) (some (.ref gl)) := S4.S.g ▸ S4.S.C.cell "gaps" (L + 2) rfl
    have lg4 := hgl ki4
    obtain ⟨tg1, eg1⟩ := hg.at_ (r - 1) (by omega)
    obtain ⟨tg2, eg2⟩ := hg.at_ r (by omega)
    have er : ((r : Nat) : Int) - 1 = ((r - 1 : Nat) : Int) := by omega
    refine wpAny_execs_cons (wpAny_Expr (MethodCall_ (ldL S4.S.C.I.ns S4.hr (methL S4.lr PySem.F.slot_list_append PySem.F.type_list_append ?_))))
    refine callWith_method1 (wpAny_items_cons (Compare_chain ?_))
    refine wpAny_BinOp (ldC (c := L + 4) rfl hct4 (Subscript_ (ldC (c := L + 2) rfl hcg4 (wpAny_BinOp (ldL S4.S.C.I.ns (if_pos rfl) (cInt fun _ _ => sub_int ?_))))))
    rw [er]
    refine lst_item (k := ((r - 1 : Nat) : Int)) (x := .int (gpZ ht a (r - 1)) tg1) lg4.isList (by omega) (by omega) (by rw [Int.toNat_natCast]; simpa using eg1) ?_
    refine mul_int (chain_link (cInt fun _ _ => ?_)) (sg_mulok htn)
    refine PyProof.Rows.le_int (wpAny_truthy_bool ?_)
    rw [decide_eq_true cr3, if_pos rfl]
    refine chain_last (wpAny_BinOp (ldC (c := L + 4) rfl hct4 (Subscript_ (ldC (c := L + 2) rfl hcg4 (ldL S4.S.C.I.ns (if_pos rfl) ?_)))))
    refine lst_item (k := ((r : Nat) : Int)) (x := .int (gpZ ht a r) tg2) lg4.isList (by omega) (by omega) (by rw [Int.toNat_natCast]; simpa using eg2) ?_
    refine mul_int (lt_int ?_) (sg_mulok htn)
    rw [decide_eq_true (show 0 < tn * gpZ ht a r from by have := (sg_gp (ht := ht) (a := a) (p := r) htn).2; omega)]
    refine wpAny_items_nil (appL (S4.tok.lr) (by omega) fun s₅ l5 o5 => ?_)
    refine hR s₅ _ (S4.tok.app F o5 l5) ((if_neg (by decide)).trans hk) ?_
    have q1 : Kq L P rt s s₂ := Kq.of k2.keep (by simp)
    have q2 : Kq L P rt s₂ s₃ := fun b o _ e => k3.all b o e
    have q3 : Kq L P rt s₃ s₄ := Kq.sm sm4
    have q4 : Kq L P rt s₄ s₅ := Kq.of (T := [rt]) o5.kp.keep (by simp)
    exact ((q1.trans q2).trans q3).trans q4
end
end Mine
end
section
open PySem PySem.W PySem.Calls PyProof.Rows
set_option maxRecDepth 100000
set_option Elab.async false
set_option maxHeartbeats 4000000
set_option autoImplicit false
set_option linter.unusedVariables false
namespace Mine
/-- Levy: at the marks, or between two next ones, there is a turn -/
theorem levy_up (f : Nat → Int) (g : Nat → Int) (n : Nat) (hg : ∀ j, j < n → (g j = 1 ∧ f j < f (j + 1)) ∨ (g j = 0 ∧ f (j + 1) = f j) ∨ (g j = -1 ∧ f (j + 1) < f j)) (h0 : ∀ j, j < n → g j ≠ 0) (hs : ∀ j, j + 1 < n → ¬ g j * g (j + 1) < 0) :
    ∀ j, j < n → g j = g 0 := by
  intro j
  induction j with
  | zero => intro _; rfl
  | succ j ih =>
    intro hj
    have h1 := ih (by omega)
    have h2 := hs j hj
    have a1 := hg j (by omega)
    have a2 := hg (j + 1) hj
    have b1 := h0 j (by omega)
    have b2 := h0 (j + 1) hj
    rcases a1 with ⟨e, _⟩ | ⟨e, _⟩ | ⟨e, _⟩ <;> rcases a2 with ⟨e', _⟩ | ⟨e', _⟩ | ⟨e', _⟩ <;> rw [e, e'] at h2 <;> first | omega | (rw [e'] ; rw [e] at h1; exact h1) | (simp at h2)
theorem levy (f : Nat → Int) (g : Nat → Int) (n : Nat) (hn : 0 < n) (hg : ∀ j, j < n → (g j = 1 ∧ f j < f (j + 1)) ∨ (g j = 0 ∧ f (j + 1) = f j) ∨ (g j = -1 ∧ f (j + 1) < f j)) (hf : f n = f 0) :
    (∃ j, j < n ∧ g j = 0) ∨ ∃ j, j + 1 < n ∧ g j * g (j + 1) < 0 := by
  refine Classical.byContradiction fun hc => ?_
  have h0 : ∀ j, j < n → g j ≠ 0 := fun j hj e => hc (.inl ⟨j, hj, e⟩)
  have hs : ∀ j, j + 1 < n → ¬ g j * g (j + 1) < 0 := fun j hj e => hc (.inr ⟨j, hj, e⟩)
  have all := levy_up f g n hg h0 hs
  rcases hg 0 hn with ⟨e, _⟩ | ⟨e, _⟩ | ⟨e, _⟩
  · have up : ∀ k, k ≤ n → f 0 + k ≤ f k := by
      intro k
      induction k with
      | zero => intro _; simp
      | succ k ih =>
        intro hk
        have h1 := ih (by omega)
        have h2 := all k (by omega)
        rcases hg k (by omega) with ⟨e', l⟩ | ⟨e', l⟩ | ⟨e', l⟩ <;> rw [e', e] at h2 <;> omega
    have := up n (Nat.le_refl _)
    omega
  · exact h0 0 hn e
  · have dn : ∀ k, k ≤ n → f k + k ≤ f 0 := by
      intro k
      induction k with
      | zero => intro _; simp
      | succ k ih =>
        intro hk
        have h1 := ih (by omega)
        have h2 := all k (by omega)
        rcases hg k (by omega) with ⟨e', l⟩ | ⟨e', l⟩ | ⟨e', l⟩ <;> rw [e', e] at h2 <;> omega
    have := dn n (Nat.le_refl _)
    omega
theorem levy_sg {ht : Nat → Nat} {a q : Nat} (hq : a * q = 10) (hb : ht 10 = ht 0) : (∃ j, j < q ∧ sgZ ht a (j * a) = 0) ∨ ∃ j, j + 1 < q ∧ sgZ ht a (j * a) * sgZ ht a ((j + 1) * a) < 0 := by
  refine levy (fun j => (ht (j * a) : Int)) (fun j => sgZ ht a (j * a)) q (by cases q with | zero => simp at hq | succ q => omega) (fun j hj => ?_) ?_
  · have e : (j + 1) * a = j * a + a := by rw [Nat.add_mul, Nat.one_mul]
    have := sgZ_cases ht a (j * a)
    unfold gpZ at this
    simp only [e]
    omega
  · show (ht (q * a) : Int) = ht (0 * a)
    rw [Nat.mul_comm q a, hq, hb, Nat.zero_mul]

section
variable {prog : Program} {w : World} {A : Around} {E : Value → Shared → Prop} {s : Shared}
/-- range(a, n), and its iterator -/
theorem rangeIt2 {a n : Nat} {t u : Tok} {K : Value → Shared → Prop} (ha : a ≤ n) (hn : n < 2 ^ 40) (h : ∀ it s', s.heap.get? it = none → IsRangeIter s'.heap it a ((n : Int) - a) 1 → Kp [] s s' → K (.ref it) s') :
    wpAny (model prog w) A (call (.type "range") [.int a t, .int n u]) (fun x s₁ => wpAny (model prog w) A (pyIter x) K E s₁) E s := by
  refine call_range_2 (wpAny_pyIter_range (IsRange.new _ _ _ _ _ _ _) (small_one (by omega) (by omega) (by omega) (by omega)) ?_)
  rw [rangeSize_one]
  have hsz0 : (if (a : Int) < n then (n : Int) - a else 0) = (n : Int) - a := by split <;> omega
  rw [hsz0]
  refine h _ _ (Heap.get?_none_of_le (by show _ ≤ (s.heap.push _).objs.size; rw [Heap.size_push]; exact Nat.le_succ _)) (Heap.get?_push_size _ rfl) ⟨fun b o _ e => Heap.get?_push_of_some _ (Heap.get?_push_of_some _ e), rfl, id⟩
end
section
variable {prog : Program} {w : World} {A : Around} {G : Heap} {mg mb : Str → Option Value} {d : Ads} {s₀ s s' : Shared} {L c P wl gl mk pl sd rt : Addr} {a q : Nat} {m m' cm : Str → Option Value} {n : Nat} {R : Flow → Shared → Prop} {vs pv sv rv : List Value} {ht : Nat → Nat}
theorem crossedC {ws gv : List Value} (sg : Sg G mg mb d) (hG : ∀ {s' : Shared}, Kp [P] s₀ s' → ∀ b o, G.get? b = some o → s'.heap.get? b = some o) (hP : G.get? P = none) (hc : d.cLC = .ref c) (ha : 0 < a) (hq : a * q = 10) (hb : ht 10 = ht 0)
    (hwl : ∀ {s' : Shared}, Kp [P] s₀ s' → LsAt s'.heap wl ws) (hw : Wds ws ht) (hgl : ∀ {s' : Shared}, Kp [P] s₀ s' → LsAt s'.heap gl gv) (hg : Gps gv ht a)
    (F : LCf s₀ L a q mk pl sd rt vs pv sv ht) (S : LCl s₀ L c P wl gl a mk pl sd rt vs pv sv rv m cm s) (hl : rv.length ≤ q) (hrv : ∀ v ∈ rv, v = .bool true) (hz : ∀ j, j < q → sgZ ht a (j * a) = 0 → rv ≠ []) (hr : Rm (n + 8) A)
    (hR : ∀ s' rv, Kp [P] s₀ s' → Tab s'.heap c P qLC → LsAt s'.heap rt rv → rv ≠ [] → (∀ v ∈ rv, v = .bool true) → R (.ret (.ref rt)) s') :
    wpAny (model prog w) A (execs (dLC.2.1.drop 6) (envC L d)) R (fun _ _ => False) s := by
  have hq1 : 1 ≤ q := by cases q with | zero => simp at hq | succ q => omega
  have hq10 : q ≤ 10 := Nat.le_of_dvd (by decide) ⟨a, by rw [Nat.mul_comm]; exact hq.symm⟩
  have G1 := hG S.S.C.I.kp
  have g1 := sg.glo.keeps G1
  have hvl : vs.length = q := by rw [F.vi.length, mkN_len]; omega
  refine wpAny_execs_cons (wpAny_For ?_)
  refine wpAny_Call_Name_kw (ldB (mg := mg) (mb := mb) g1.g (sg.no "range" (by decide)) g1.b (g1.name boot_range (by decide)) ?_)
  refine PyProof.Rows.callWith_type1 (wpAny_items_cons (cInt fun _ _ => wpAny_items_cons (wpAny_Call_Name_kw (ldB (mg := mg) (mb := mb) g1.g (sg.no "len" (by decide)) g1.b (g1.name boot_len (by decide)) ?_))))
  refine cwB (wpAny_items_cons (ldL S.S.C.I.ns S.hm (wpAny_items_nil ?_)))
  refine len1 S.tok.lm.isList (by rw [List.size_toArray, hvl]; omega) fun t5 s₂ k2 => wpAny_items_nil ?_
  rw [List.size_toArray, hvl]
  have S2 := S.tok.call k2
  refine rangeIt2 (a := 1) hq1 (by omega) fun it s₃ n3 i3 k3 => ?_
  have S3 := S2.call k3
  have it0 := S2.S.none0 n3
  have itn : ∀ {l : Addr} {xs : List Value}, LsAt s₂.heap l xs → it ≠ l := fun {l xs} x => let ⟨nn, e⟩ := x; ne_of_none n3 e
  have itP : it ≠ P := let ⟨ps, e, _⟩ := S2.S.T.ex; ne_of_none n3 e
  have itC : it ≠ L + 4 := let ⟨o, e, _⟩ := S2.S.C.cell "turn" (L + 4) rfl; ne_of_none n3 e
  have itK : it ∉ [L, P, rt, L + 4] := by
    simp only [List.mem_cons, List.not_mem_nil, or_false, not_or]
    exact ⟨it0.2, itP, itn S2.lr, itC⟩
  refine forR (fun i s' => ∃ m cm rv, LCl s₀ L c P wl gl a mk pl sd rt vs pv sv rv m cm s' ∧ rv.length ≤ q + 2 * i ∧ (∀ v ∈ rv, v = Value.bool true) ∧ (∀ j, j < q → sgZ ht a (j * a) = 0 → rv ≠ []) ∧ (∀ j, j < i → sgZ ht a (j * a) * sgZ ht a ((j + 1) * a) < 0 → rv ≠ []) ∧
      IsRangeIter s'.heap it (1 + i * 1) ((q - 1 : Nat) - i) 1 ∧ i ≤ q - 1) (q - 1) 1 1 hr.2.2 (fun i s' ⟨m, cm, rv, _, _, _, _, _, h6, h7⟩ => ⟨h6, h7⟩) ?turn ?fin ?start
  case start =>
    refine ⟨m, cm, rv, S3, by omega, hrv, hz, fun j hj => absurd hj (Nat.not_lt_zero j), ?_, Nat.zero_le _⟩
    have e1 : ((q - 1 : Nat) : Int) - (0 : Nat) = (q : Int) - (1 : Nat) := by omega
    rw [e1]; simpa using i3
  case turn =>
    rintro i s' hlt ⟨m₁, cm₁, rv₁, J, jl, jt, jz, jn, ji, jq⟩ s'' tt hO hit
    have lr1 : ∀ {l : Addr} {xs : List Value}, LsAt s₂.heap l xs → l ≠ it := fun x => (itn x).symm
    have J1 : LCl s₀ L c P wl gl a mk pl sd rt vs pv sv rv₁ m₁ cm₁ s'' := ⟨J.S.off hO.kp it0.1 it0.2 (dullR ji), J.hm, J.hp, J.hs, J.hr, J.lm.of_eq (hO.same _ (lr1 S2.lm)), J.lp.of_eq (hO.same _ (lr1 S2.lp)), J.ls.of_eq (hO.same _ (lr1 S2.ls)), J.lr.of_eq (hO.same _ (lr1 S2.lr))⟩
    have ek : (1 : Int) + i * 1 = ((i + 1 : Nat) : Int) := by omega
    rw [ek]
    refine J1.st fun s₄ S4 sm4 _ => ?_
    have hit4 : IsRangeIter s₄.heap it (1 + (i + 1 : Nat) * 1) ((q - 1 : Nat) - (i + 1 : Nat)) 1 := (sm4 _ it0.2).trans hit
    have ek1 : ((i + 1 : Nat) : Int) - 1 = ((i : Nat) : Int) := by omega
    obtain ⟨t0, q0⟩ := F.sv_ i (by omega)
    obtain ⟨t1, q1⟩ := F.sv_ (i + 1) (by omega)
    have hkk : upd m₁ "k" (.int ((i + 1 : Nat) : Int) tt) "k" = some (.int ((i + 1 : Nat) : Int) tt) := if_pos rfl
    refine wpAny_execs_cons (wpAny_If (wpAny_isTrue_Compare1 (wpAny_BinOp (Subscript_ (ldL S4.S.C.I.ns S4.hs (wpAny_BinOp (ldL S4.S.C.I.ns hkk (cInt fun _ _ => sub_int ?_))))))))
    rw [ek1]
    refine lst_item (k := ((i : Nat) : Int)) (x := .int (sgZ ht a (i * a)) t0) S4.ls.isList (by omega) (by omega) (by rw [Int.toNat_natCast]; simpa using q0) ?_
    refine Subscript_ (ldL S4.S.C.I.ns S4.hs (ldL S4.S.C.I.ns hkk ?_))
    refine lst_item (k := ((i + 1 : Nat) : Int)) (x := .int (sgZ ht a ((i + 1) * a)) t1) S4.ls.isList (by omega) (by omega) (by rw [Int.toNat_natCast]; simpa using q1) ?_
    refine mul_int (cInt fun _ _ => lt_int (wpAny_truthy_bool ?_)) ?_
    · by_cases hneg : sgZ ht a (i * a) * sgZ ht a ((i + 1) * a) < 0
      · rw [decide_eq_true hneg]
        refine wpAny_execs_cons (wpAny_Assign_Name (Subscript_ (ldL S4.S.C.I.ns S4.hs (ldL S4.S.C.I.ns hkk ?_))))
        refine lst_item (k := ((i + 1 : Nat) : Int)) (x := .int (sgZ ht a ((i + 1) * a)) t1) S4.ls.isList (by omega) (by omega) (by rw [Int.toNat_natCast]; simpa using q1) ?_
        refine S4.tok.stC fun s₅ S5 sm5 => ?_
        have kq5 : Kq L P rt s₄ s₅ := Kq.of (T := [L + 4]) (fun b o nb e => (sm5 b fun z => nb (by rw [z]; exact List.mem_singleton.mpr rfl)).trans e) (by simp)
        refine crossedL (i := i) (tn := sgZ ht a ((i + 1) * a)) (tt := t1) (tk := tt) sg hG hP hc ha hq hwl hw hgl hg F S5 hkk (if_pos rfl) (by omega) rfl hneg (by omega) hr fun s₆ m₆ S6 hk6 kq6 => ?_
        refine crossedR (i := i) (tn := sgZ ht a ((i + 1) * a)) (tt := t1) (tk := tt) sg hG hP hc ha hq hwl hw hgl hg F S6 hk6 (if_pos rfl) (by omega) rfl hneg (by rw [List.length_append, List.length_singleton]; omega) hr fun s₇ m₇ S7 hk7 kq7 => ?_
        have hit7 : IsRangeIter s₇.heap it (1 + (i + 1 : Nat) * 1) ((q - 1 : Nat) - (i + 1 : Nat)) 1 := kq7 _ _ itK (kq6 _ _ itK (kq5 _ _ itK hit4))
        refine wpAny_execs_nil (wpAny_execs_nil ⟨_, _, _, S7, ?_, fun v hv => ?_, fun _ _ _ => by simp, fun _ _ _ => by simp, hit7, hlt⟩)
        · simp only [List.length_append, List.length_singleton]; omega
        · rcases List.mem_append.mp hv with hv | hv
          · rcases List.mem_append.mp hv with hv | hv
            · exact jt v hv
            · exact List.mem_singleton.mp hv
          · exact List.mem_singleton.mp hv
      · rw [decide_eq_false hneg]
        refine wpAny_execs_nil (wpAny_execs_nil ⟨_, _, _, S4.tok, by omega, jt, jz, fun j hj hn => ?_, hit4, hlt⟩)
        by_cases z : j < i
        · exact jn j z hn
        · have : j = i := by omega
          subst this
          exact absurd hn hneg
    · rcases sgZ_cases ht a (i * a) with ⟨e, _⟩ | ⟨e, _⟩ | ⟨e, _⟩ <;> rw [e] <;> exact IntMulOk.of_left (by decide)
  case fin =>
    rintro s' s'' ⟨m₁, cm₁, rv₁, J, jl, jt, jz, jn, ji, jq⟩ hk
    have J1 := J.S.off hk it0.1 it0.2 (dullR ji)
    have lr : LsAt s''.heap rt rv₁ := J.lr.offL fun o e => hk.keep _ _ (fun z => itn S2.lr (List.mem_singleton.mp z).symm) e
    refine wpAny_execs_nil (wpAny_execs_cons (wpAny_Return_some (ldL J1.C.I.ns J.hr (hR s'' rv₁ J1.C.I.kp J1.T lr ?_ jt))))
    rcases levy_sg hq hb with ⟨j, hj, e⟩ | ⟨j, hj, e⟩
    · exact jz j hj e
    · exact jn j (by omega) e

theorem crossed_spec {s : Shared} {ws gv : List Value} {tx : Tok} {RR : Result → Shared → Prop} (sg : Sg G mg mb d) (hG : ∀ b o, G.get? b = some o → s.heap.get? b = some o) (hP : G.get? P = none) (hc : d.cLC = .ref c) (T : Tab s.heap c P qLC) (hq : a * q = 10) (hb : ht 10 = ht 0)
    (hl : LsAt s.heap wl ws) (hw : Wds ws ht) (hgl : LsAt s.heap gl gv) (hg : Gps gv ht a) (hr : Rm (n + 9) A)
    (h : ∀ s' r rv, Kp [P] s s' → Tab s'.heap c P qLC → s.heap.get? r = none → LsAt s'.heap r rv → rv ≠ [] → (∀ v ∈ rv, v = .bool true) → RR (.ok (.ret (.ref r))) s') :
    codeAny (model prog w) A (.call (.ref d.fLC) ⟨[.ref wl, .ref gl, .int a tx], []⟩) RR s := by
  have ha : 0 < a := by cases a with | zero => simp at hq | succ a => omega
  refine callFC (n := n + 8) (binds := [("words", .ref wl), ("gaps", .ref gl), ("across", .int a tx)]) (sg.LC.keeps hG) (sg.glo.lim.keeps hG) hr (fun _ _ _ _ => rfl) rfl (fun L s₁ hL C hr' => ?_)
  obtain ⟨psT, eT, _⟩ := T.ex
  have hG1 : ∀ {s' : Shared}, Kp [P] s s' → ∀ b o, G.get? b = some o → s'.heap.get? b = some o := fun k b o e => k.keep b o (fun q => by rw [List.mem_singleton.mp q, hP] at e; cases e) (hG b o e)
  have lsP : ∀ {l : Addr} {xs : List Value}, LsAt s.heap l xs → ∀ {s' : Shared}, Kp [P] s s' → LsAt s'.heap l xs := fun {l xs} x {s'} k => x.offL fun o e => k.keep _ _ (fun z => by
    rw [List.mem_singleton.mp z, eT] at e
    obtain ⟨nn, e'⟩ := x
    rw [List.mem_singleton.mp z, eT] at e'
    cases congrArg Obj.data (Option.some.inj e')) e
  have S1 : LCs s L c P wl gl a _ _ s₁ := ⟨C.wide, T.keeps C.I.old, rfl, rfl, ⟨tx, rfl⟩, ⟨_, eT⟩⟩
  refine crossedA (n := n + 4) sg hG1 ha hq S1 hr' fun s₂ m₂ mk vs S2 hm2 hmk0 hmkL lm2 hv2 => ?_
  refine crossedB1 (n := n) sg hG1 ha hq S2 hr' hm2 lm2 hv2 fun s₃ m₃ pl pv S3 hm3 lm3 hp3 lp3 hpl hpv => ?_
  refine crossedB2 (n := n) sg hG1 ha hq S3 hr' (lsP hl) hw hm3 lm3 hv2 hp3 lp3 fun s₄ m₄ sd sv S4 hm4 lm4 hp4 lp4 hs4 ls4 hsl hsv => ?_
  refine crossedB3 (n := n) sg hG1 ha hq S4 hr' (lsP hgl) hg hm4 lm4 hv2 hp4 lp4 hs4 ls4 hsl hsv fun s₅ m₅ rt rv S5 hm5 lm5 hp5 lp5 hs5 ls5 hr5 lr5 rt0 rtL rtm rtp rts hrl hrt hrz => ?_
  exact crossedC (n := n) (rv := rv) sg hG1 hP hc ha hq hb (lsP hl) hw (lsP hgl) hg ⟨hv2, hpl, hpv, hsl, hsv, rt0, rtL, rtm, rtp, rts⟩ ⟨S5, hm5, hp5, hs5, hr5, lm5, lp5, ls5, lr5⟩ hrl hrt hrz hr' fun s' rv' k' T' l' hne hall => h s' rt rv' k' T' rt0 l' hne hall
end
end Mine
end
section
open PySem PySem.W PySem.Calls PyProof.Rows
set_option maxRecDepth 100000
set_option Elab.async false
set_option maxHeartbeats 4000000
set_option autoImplicit false
set_option linter.unusedVariables false
namespace Mine
abbrev celW (L : Addr) : List (Str × Addr) := cellsFrom (L + 1) dLaw.2.2.names []
abbrev qLH : Str := "_law_by_height" ++ ".<locals>." ++ "<lambda>"
abbrev qLS : Str := "_law_stream" ++ ".<locals>." ++ "<lambda>"
abbrev qLW : Str := "law" ++ ".<locals>." ++ "<lambda>"
/-- the law's places -/
structure LD where
  s₀ : Shared
  sL : Shared
  L : Addr
  f : Addr
  cdv : Value
  P1 : Addr
  P2 : Addr
  P3 : Addr
  P4 : Addr
  c2 : Addr
  c3 : Addr
  c4 : Addr
  a : Lx
  ln : Addr
  lv : List Value
  ht : Nat → Nat
abbrev envW (D : LD) : Env := envX "law" dLaw.2.2 D.L D.f D.cdv (celW D.L)
abbrev TL (D : LD) : List Addr := [D.L, D.L + 1, D.L + 2, D.L + 3, D.L + 4, D.P2, D.P3, D.P4, D.a.dx, D.a.left, D.a.pb]
abbrev TP (D : LD) : List Addr := [D.P1, D.P2, D.P3, D.P4]
def KL (D : LD) (h' : Heap) : Prop := ∀ b o, b ∉ TL D → D.sL.heap.get? b = some o → h'.get? b = some o
structure LFx (G : Heap) (mg mb : Str → Option Value) (d : Ads) (D : LD) : Prop where
  sg : Sg G mg mb d
  F : ∀ h', KL D h' → LxFix h' D.a
  g : ∀ h', KL D h' → ∀ b o, G.get? b = some o → h'.get? b = some o
  lin : ∀ h', KL D h' → LsAt h' D.ln D.lv
  lnT : D.ln ∉ TL D
  X : Lin D.lv D.ht
  hC : D.a.C = d.C
  gd : G.get? D.a.dx = none ∧ G.get? D.a.left = none
  hP : ∀ P ∈ TP D, G.get? P = none
  fr0 : ∀ b ∈ [D.a.dx, D.a.left, D.a.pb], D.s₀.heap.get? b = none ∧ (∃ o, D.sL.heap.get? b = some o) ∧ b ≠ D.L ∧ b ≠ D.L + 1 ∧ b ≠ D.L + 2 ∧ b ≠ D.L + 3 ∧ b ≠ D.L + 4
  ne : D.a.dx ≠ D.a.left ∧ D.a.pb ≠ D.a.left ∧ D.a.pb ≠ D.a.dx
  hc2 : d.cLH = .ref D.c2
  hc3 : D.cdv = .ref D.c3
  hc4 : d.cLC = .ref D.c4
  tb : ∀ P ∈ TP D, D.s₀.heap.get? P = some (tabObj #[])
  h2 : CodeHd D.s₀.heap D.c2 D.P2
  h3 : CodeHd D.s₀.heap D.c3 D.P3
  h4 : CodeHd D.s₀.heap D.c4 D.P4
  pp : D.P1 ≠ D.P2 ∧ D.P1 ≠ D.P3 ∧ D.P1 ≠ D.P4 ∧ D.P2 ≠ D.P3 ∧ D.P2 ≠ D.P4 ∧ D.P3 ≠ D.P4
structure LW (D : LD) (T : List Addr) (m cm : Str → Option Value) (s : Shared) (cps : List Nat) (lno : Int) (pbv : List Value) : Prop where
  C : LocC D.s₀ T D.L m (celW D.L) cm s
  hT : ∀ P ∈ T, P ∈ TP D
  K : KL D s.heap
  lx : LxSt s.heap D.a cps lno
  pb : LsAt s.heap D.a.pb pbv
  exP : ∀ P ∈ TP D, ∃ ps, s.heap.get? P = some (tabObj ps)
  lm : ∃ ln, cm "line" = some (.ref ln) ∧ ln = D.ln
section
variable {prog : Program} {w : World} {A : Around} {M : Model} {E : Value → Shared → Prop} {G : Heap} {mg mb : Str → Option Value} {d : Ads} {D : LD} {T : List Addr} {s s' : Shared} {m m' cm cm' : Str → Option Value} {cps cps' : List Nat} {lno lno' : Int} {pbv pbv' : List Value} {x r : Addr} {nm : Str} {v : Value}
theorem tab0 {s₀ s : Shared} {T : List Addr} {c P : Addr} {q : Str} (k : Kp T s₀ s) (hT : ∀ x ∈ T, s₀.heap.get? x = some (tabObj #[])) (hd : CodeHd s₀.heap c P) (hP : s₀.heap.get? P = some (tabObj #[])) (hn : P ∉ T) : Tab s.heap c P q := by
  obtain ⟨o, vs, file, tf, flags, tg, inF, text, tt, e1, e2, e3, r⟩ := hd
  refine ⟨⟨o, vs, file, tf, flags, tg, inF, text, tt, k.keep _ _ (fun z => ?_) e1, e2, e3, r⟩, #[], k.keep _ _ hn hP, trivial, fun pos cv z => by simp [codeAmong] at z⟩
  rw [hT _ z] at e1; cases e1; cases e2
theorem LW.gs (W : LW D T m cm s cps lno pbv) (X : LFx G mg mb d D) : ∀ b o, G.get? b = some o → s.heap.get? b = some o := X.g _ W.K
theorem LW.lx0 (W : LW D T m cm s cps lno pbv) (X : LFx G mg mb d D) : Lx0 G mg mb d D.a s := ⟨X.sg, X.hC, X.F _ W.K, ⟨_, _, W.lx⟩, W.gs X, X.gd⟩
theorem LW.glo (W : LW D T m cm s cps lno pbv) (X : LFx G mg mb d D) : Glo s.heap mg mb := X.sg.glo.keeps (W.gs X)
theorem LW.line (W : LW D T m cm s cps lno pbv) (X : LFx G mg mb d D) : LsAt s.heap D.ln D.lv := X.lin _ W.K
theorem KL.keeps {h h' : Heap} (K : KL D h) (k : ∀ b o, b ∉ TL D → D.sL.heap.get? b = some o → h.get? b = some o → h'.get? b = some o) : KL D h' := fun b o n e => k b o n e (K b o n e)
theorem LW.call (W : LW D T m cm s cps lno pbv) (k : Kp [] s s') : LW D T m cm s' cps lno pbv := ⟨W.C.call k, W.hT, W.K.keeps fun b o _ _ e => k.all b o e, W.lx.keeps k.all, W.pb.keeps k.all, fun P hP => let ⟨ps, e⟩ := W.exP P hP; ⟨ps, k.all _ _ e⟩, W.lm⟩
theorem LW.tok (W : LW D T m cm s cps lno pbv) {tk : Nat} : LW D T m cm { s with toks := tk } cps lno pbv := ⟨W.C.tok, W.hT, W.K, ⟨W.lx.dx, W.lx.left⟩, W.pb, W.exP, W.lm⟩
theorem LW.none (W : LW D T m cm s cps lno pbv) (h : s.heap.get? r = none) : D.s₀.heap.get? r = Option.none ∧ D.sL.heap.get? r = Option.none ∧ r ≠ D.L ∧ r ∉ TP D := by
  have nP : r ∉ TP D := fun z => by obtain ⟨ps, e⟩ := W.exP r z; rw [h] at e; cases e
  have nL : r ≠ D.L := let ⟨o, e⟩ := ns_some W.C.I.ns; ne_of_none h e
  have nc : ∀ {nn : Str} {cc : Addr}, (celW D.L).lookup nn = some cc → r ≠ cc := fun e => let ⟨o, e1, _⟩ := W.C.cell _ _ e; ne_of_none h e1
  refine ⟨?_, ?_, nL, nP⟩
  · cases e : D.s₀.heap.get? r with
    | none => rfl
    | some o => have := W.C.I.kp.keep r o (fun z => nP (W.hT _ z)) e; rw [h] at this; cases this
  · cases e : D.sL.heap.get? r with
    | none => rfl
    | some o =>
      have := W.K r o (fun z => ?_) e
      · rw [h] at this; cases this
      · simp only [List.mem_cons, List.not_mem_nil, or_false] at z
        obtain ⟨x1, x2, x3, x4, t1, t2, t3, t4, t5, t6, n, edx⟩ := W.lx.dx
        obtain ⟨vs, ⟨nl, el⟩, _⟩ := W.lx.left
        obtain ⟨np, ep⟩ := W.pb
        rcases z with z | z | z | z | z | z | z | z | z | z | z
        · exact nL z
        · exact nc (nn := "lexer") rfl z
        · exact nc (nn := "words") rfl z
        · exact nc (nn := "across") rfl z
        · exact nc (nn := "line") rfl z
        · exact nP (by rw [z]; simp)
        · exact nP (by rw [z]; simp)
        · exact nP (by rw [z]; simp)
        · rw [z, edx] at h; cases h
        · rw [z, el] at h; cases h
        · rw [z, ep] at h; cases h
/-- new things have turned -/
theorem LW.offs {T' : List Addr} (W : LW D T m cm s cps lno pbv) (X : LFx G mg mb d D) (k : Kp T' s s') (hT : ∀ b ∈ T', D.s₀.heap.get? b = Option.none ∧ D.sL.heap.get? b = Option.none ∧ b ≠ D.L ∧ b ∉ TP D ∧ ∀ o, s.heap.get? b = some o → ∀ v, o.data ≠ .cell v) : LW D T m cm s' cps lno pbv := by
  have nw : ∀ b ∈ [D.a.dx, D.a.left, D.a.pb], b ∉ T' := fun b hb z => by
    obtain ⟨_, ⟨o, e⟩, _⟩ := X.fr0 b hb
    rw [(hT b z).2.1] at e; cases e
  refine ⟨W.C.turn k (fun b hb => .inr (hT b hb).1) (fun q => (hT _ q).2.2.1 rfl) (fun n cc e q => ?_), W.hT, W.K.keeps fun b o _ e0 e => k.keep b o (fun z => by rw [(hT b z).2.1] at e0; cases e0) e, ?_, ?_, fun P hP => let ⟨ps, e⟩ := W.exP P hP; ⟨ps, k.keep _ _ (fun z => (hT _ z).2.2.2.1 hP) e⟩, W.lm⟩
  · obtain ⟨o, e1, e2⟩ := W.C.cell n cc e
    exact (hT _ q).2.2.2.2 o e1 _ e2
  · obtain ⟨⟨x1, x2, x3, x4, t1, t2, t3, t4, t5, t6, n, edx⟩, vs, ⟨nl, el⟩, hc⟩ := W.lx
    exact ⟨⟨x1, x2, x3, x4, t1, t2, t3, t4, t5, t6, n, k.keep _ _ (nw _ (by simp)) edx⟩, vs, ⟨nl, k.keep _ _ (nw _ (by simp)) el⟩, hc⟩
  · exact W.pb.offL fun o e => k.keep _ _ (nw _ (by simp)) e
theorem LW.off (W : LW D T m cm s cps lno pbv) (X : LFx G mg mb d D) (k : Kp [x] s s') (h : D.s₀.heap.get? x = Option.none ∧ D.sL.heap.get? x = Option.none ∧ x ≠ D.L ∧ x ∉ TP D) (hc : ∀ o, s.heap.get? x = some o → Dull o ∧ ∀ v, o.data ≠ .cell v) : LW D T m cm s' cps lno pbv :=
  W.offs X k fun b hb => by rw [List.mem_singleton.mp hb]; exact ⟨h.1, h.2.1, h.2.2.1, h.2.2.2, fun o e => (hc o e).2⟩
theorem LW.lsL {l : Addr} {xs : List Value} (W : LW D T m cm s cps lno pbv) (x : LsAt s.heap l xs) : l ≠ D.L := fun q => by
  obtain ⟨nn, e⟩ := x
  obtain ⟨o', es, ep, e1, e2, _⟩ := W.C.I.ns
  rw [q, e1] at e; cases e; cases e2
theorem LW.lsC {l cc : Addr} {nn : Str} {xs : List Value} (W : LW D T m cm s cps lno pbv) (x : LsAt s.heap l xs) (h : (celW D.L).lookup nn = some cc) : l ≠ cc := fun q => by
  obtain ⟨nn, e⟩ := x
  obtain ⟨o, e1, e2⟩ := W.C.cell _ _ h
  rw [q, e1] at e; cases e; cases e2
theorem LW.st {Q : Unit → Shared → Prop} (W : LW D T m cm s cps lno pbv) (X : LFx G mg mb d D) (h : ∀ s', LW D T (upd m nm v) cm s' cps lno pbv → SameL D.L s s' → Q () s') (hx : (envW D).kindOf nm = some .local := by rfl) : wpAny M A (storeName (envW D) nm v) Q E s := by
  refine stLG (env := envW D) W.C (fun s' C' sm _ => h s' ⟨C', W.hT, W.K.keeps fun b o n _ e => (sm b fun z => n (by rw [z]; simp)).trans e, ?_, W.pb.of_eq (sm _ (X.fr0 _ (by simp)).2.2.1), fun P hP => ?_, W.lm⟩ sm) rfl hx
  · exact W.lx.same (sm _ (X.fr0 _ (by simp)).2.2.1) (sm _ (X.fr0 _ (by simp)).2.2.1)
  · obtain ⟨ps, e⟩ := W.exP P hP
    refine ⟨ps, (sm _ fun z => ?_).trans e⟩
    have f := W.C.I.fresh
    have z' : P = D.L := z
    rw [← z', X.tb P hP] at f; cases f
theorem LW.stC {Q : Unit → Shared → Prop} {cc : Addr} (W : LW D T m cm s cps lno pbv) (X : LFx G mg mb d D) (hc : (celW D.L).lookup nm = some cc) (hcc : cc ∈ [D.L + 1, D.L + 2, D.L + 3, D.L + 4]) (hl : ("line" : Str) ≠ nm) (h : ∀ s', LW D T m (upd cm nm v) s' cps lno pbv → (∀ b, b ≠ cc → s'.heap.get? b = s.heap.get? b) → Q () s') (hx : (envW D).kindOf nm = some .cell := by rfl) : wpAny M A (storeName (envW D) nm v) Q E s := by
  have hne : ∀ b ∈ [D.a.dx, D.a.left, D.a.pb], b ≠ cc := fun b hb z => by
    have f := (X.fr0 b hb).2.2
    simp only [List.mem_cons, List.not_mem_nil, or_false] at hcc
    rcases hcc with rfl | rfl | rfl | rfl
    · exact f.2.1 z
    · exact f.2.2.1 z
    · exact f.2.2.2.1 z
    · exact f.2.2.2.2 z
  refine stCC' (env := envW D) (c := cc) W.C hc (fun s' C' sm => h s' ⟨C', W.hT, W.K.keeps fun b o n _ e => (sm b fun z => n ?_).trans e, W.lx.same (sm _ (hne _ (by simp))) (sm _ (hne _ (by simp))), W.pb.of_eq (sm _ (hne _ (by simp))), fun P hP => ?_, let ⟨l, e, e'⟩ := W.lm; ⟨l, (if_neg hl).trans e, e'⟩⟩ sm) rfl hx
  · rw [z]
    simp only [List.mem_cons, List.not_mem_nil, or_false] at hcc ⊢
    rcases hcc with e | e | e | e <;> simp [e]
  · obtain ⟨ps, e⟩ := W.exP P hP
    refine ⟨ps, (sm _ fun z => ?_).trans e⟩
    obtain ⟨o, e1, e2⟩ := W.C.cell _ _ hc
    rw [← z, e] at e1; cases e1; cases e2
/-- behind a turn of the lexer's own things -/
theorem LW.lexd {T' : List Addr} (W : LW D T m cm s cps lno pbv) (X : LFx G mg mb d D) (k : Kp T' s s') (hT : ∀ b ∈ T', b ∈ [D.a.dx, D.a.left, D.a.pb]) (S' : LxSt s'.heap D.a cps' lno') (hp : LsAt s'.heap D.a.pb pbv') : LW D T m cm s' cps' lno' pbv' := by
  refine ⟨W.C.turn k (fun b hb => .inr (X.fr0 b (hT b hb)).1) (fun q => (X.fr0 _ (hT _ q)).2.2.1 rfl) (fun n cc e q => ?_), W.hT, W.K.keeps fun b o n _ e => k.keep b o (fun z => n ?_) e, S', hp, fun P hP => ?_, W.lm⟩
  · obtain ⟨o, e1, e2⟩ := W.C.cell n cc e
    have := hT _ q
    simp only [List.mem_cons, List.not_mem_nil, or_false] at this
    rcases this with z | z | z
    · obtain ⟨x1, x2, x3, x4, t1, t2, t3, t4, t5, t6, n, edx⟩ := W.lx.dx
      rw [z, edx] at e1; cases e1; cases e2
    · obtain ⟨vs, ⟨nl, el⟩, _⟩ := W.lx.left
      rw [z, el] at e1; cases e1; cases e2
    · obtain ⟨np, ep⟩ := W.pb
      rw [z, ep] at e1; cases e1; cases e2
  · have := hT b z
    simp only [List.mem_cons, List.not_mem_nil, or_false] at this ⊢
    rcases this with z | z | z <;> simp [z]
  · obtain ⟨ps, e⟩ := W.exP P hP
    refine ⟨ps, k.keep _ _ (fun z => ?_) e⟩
    have f := (X.fr0 _ (hT _ z)).1
    rw [X.tb P hP] at f; cases f
/-- behind a turn of a table -/
theorem LW.tab {P : Addr} (W : LW D T m cm s cps lno pbv) (X : LFx G mg mb d D) (k : Kp [P] s s') (hP : P ∈ [D.P2, D.P3, D.P4]) (he : ∃ ps, s'.heap.get? P = some (tabObj ps)) : LW D (P :: T) m cm s' cps lno pbv := by
  have hP' : P ∈ TP D := List.mem_cons_of_mem _ hP
  have ne : ∀ b ∈ [D.a.dx, D.a.left, D.a.pb], b ∉ [P] := fun b hb z => by
    have f := (X.fr0 b hb).1
    rw [List.mem_singleton.mp z, X.tb P hP'] at f; cases f
  refine ⟨LocC.turn (T := P :: T) ⟨⟨W.C.I.ns, W.C.I.kp.mono fun b hb => List.mem_cons_of_mem _ hb, W.C.I.above⟩, W.C.cell, W.C.apart, W.C.above⟩ k (fun b hb => .inl (by rw [List.mem_singleton.mp hb]; exact List.mem_cons_self ..)) (fun q => ?_) (fun n cc e q => ?_), (fun P' h' => (List.mem_cons.mp h').elim (fun z => by rw [z]; exact hP') (W.hT P')), W.K.keeps fun b o n _ e => k.keep b o (fun z => n ?_) e, ?_, W.pb.offL fun o e => k.keep _ _ (ne _ (by simp)) e, fun P' hP2 => ?_, W.lm⟩
  · have f := W.C.I.fresh
    rw [List.mem_singleton.mp q, X.tb P hP'] at f; cases f
  · obtain ⟨o, e1, e2⟩ := W.C.cell n cc e
    obtain ⟨ps, e3⟩ := W.exP P hP'
    rw [List.mem_singleton.mp q, e3] at e1; cases e1; cases e2
  · rw [List.mem_singleton.mp z]
    simp only [List.mem_cons, List.not_mem_nil, or_false] at hP ⊢
    rcases hP with z | z | z <;> simp [z]
  · obtain ⟨⟨x1, x2, x3, x4, t1, t2, t3, t4, t5, t6, n, edx⟩, vs, ⟨nl, el⟩, hc⟩ := W.lx
    exact ⟨⟨x1, x2, x3, x4, t1, t2, t3, t4, t5, t6, n, k.keep _ _ (ne _ (by simp)) edx⟩, vs, ⟨nl, k.keep _ _ (ne _ (by simp)) el⟩, hc⟩
  · by_cases z : P' = P
    · rw [z]; exact he
    · obtain ⟨ps, e⟩ := W.exP P' hP2
      exact ⟨ps, k.keep _ _ (fun q => z (List.mem_singleton.mp q)) e⟩
theorem LW.cw {cc : Addr} (W : LW D T m cm s cps lno pbv) (h : (celW D.L).lookup nm = some cc) (hv : cm nm = some v) : s.heap.IsCell cc (some v) := hv ▸ W.C.cell _ _ h
theorem LW.cline (W : LW D T m cm s cps lno pbv) : s.heap.IsCell (D.L + 4) (some (.ref D.ln)) := let ⟨l, e, e'⟩ := W.lm; W.cw (nm := "line") rfl (e' ▸ e)
theorem LW.wset {Q : Flow → Shared → Prop} {e : Expr} {rest : List Stmt} {p1 p2 : Pos} (h : wpAny M A (eval e (envW D)) (fun v s₁ => wpAny M A (storeName (envW D) nm v) (fun _ s₂ => wpAny M A (execs rest (envW D)) Q E s₂) E s₁) E s)
    (hs : swapsWith e (some (.Name nm p1)) p2.line (envW D) = pure false := by rfl) : wpAny M A (execs (.Assign [.Name nm p1] e p2 :: rest) (envW D)) Q E s := wpAny_execs_cons (wpAny_Assign_Name h hs)
end
end Mine
end
section
open PySem PySem.W PySem.Calls PyProof.Rows
set_option maxRecDepth 100000
set_option Elab.async false
set_option maxHeartbeats 4000000
set_option autoImplicit false
set_option linter.unusedVariables false
namespace Mine
section
variable {prog : Program} {w : World} {A : Around} {G : Heap} {mg mb : Str → Option Value} {d : Ads} {s : Shared} {n : Nat} {R : Result → Shared → Prop}
theorem lawStream2 {left c P : Addr} (sg : Sg G mg mb d) (hG : ∀ b o, G.get? b = some o → s.heap.get? b = some o) (hc : d.cLS = .ref c) (T : Tab s.heap c P ("_law_stream" ++ ".<locals>." ++ "<lambda>")) (hP : G.get? P = none) (hr : Rm (n + 5) A)
    (h : ∀ s' st ds rd cl c', Kp [P] s s' → s.heap.get? st = none → s.heap.get? ds = none → s'.heap.get? st = some (instObj d.C ds) → (∃ es nn, s'.heap.get? ds = some (dictOf es nn) ∧ getL "read" es = some (some (.ref rd))) →
      LamAt s'.heap rd "_law_stream.<locals>.<lambda>" lamLS [("left", cl)] c' → s'.heap.IsCell cl (some (.ref left)) → s.heap.get? cl = none → (∃ ps, s'.heap.get? P = some (tabObj ps)) → R (.ok (.ret (.ref st))) s') :
    codeAny (model prog w) A (.call (.ref d.fLS) ⟨[.ref left], []⟩) R s := by
  refine callFC (n := n + 4) (binds := [("left", .ref left)]) (sg.LS.keeps hG) (sg.glo.lim.keeps hG) hr (fun _ _ _ _ => rfl) rfl (fun L s₁ hL C hr' => ?_)
  have hG1 : ∀ {s' : Shared}, Kp [P] s s' → ∀ b o, G.get? b = some o → s'.heap.get? b = some o := fun k b o e => k.keep b o (fun q => by rw [List.mem_singleton.mp q, hP] at e; cases e) (hG b o e)
  have C1 : LocC s [P] L _ _ _ s₁ := C.wide
  have g1 := sg.glo.keeps (hG1 C1.I.kp)
  refine setL (wpAny_Call_Name_kw (ldG (mg := mg) g1.g sg.mC ?_))
  refine callWith_K (K := d.K) (h₀ := s₁.heap) (Frag.In.keeps sg.X (hG1 C1.I.kp)) sg.kept (wpAny_items_cons (wpAny_Constant_none (wpAny_items_nil ⟨Frag.In.keeps sg.X (hG1 C1.I.kp), wpAny_call ?_⟩)))
  refine newLex_spec (n := n + 1) sg (hG1 C1.I.kp) hr' fun s₂ x dx pb t1 t2 t3 t4 t5 t6 nn k₂ nx ndx npb ex edx epb => ?_
  have C2 := C1.call k₂
  refine stLC' C2 fun s₃ C3 sm3 => ?_
  have hxL : x ≠ L := fun q => by obtain ⟨o, es, ep, e, _⟩ := C1.I.ns; rw [q, e] at nx; cases nx
  have hdL : dx ≠ L := fun q => by obtain ⟨o, es, ep, e, _⟩ := C1.I.ns; rw [q, e] at ndx; cases ndx
  have ex3 := (sm3 _ hxL).trans ex
  have ed3 := (sm3 _ hdL).trans edx
  have fresh : ∀ {b : Addr}, s₁.heap.get? b = none → s.heap.get? b = none := fun {b} e => by
    cases q : s.heap.get? b with
    | none => rfl
    | some o => have := C.I.old _ _ q; rw [e] at this; cases this
  have hPd : P ≠ dx := fun q => by
    obtain ⟨ps, e, _⟩ := T.ex
    have := fresh ndx
    rw [← q, e] at this; cases this
  have hPx : P ≠ x := fun q => by
    obtain ⟨ps, e, _⟩ := T.ex
    have := fresh nx
    rw [← q, e] at this; cases this
  have hPL : P ≠ L := fun q => by
    obtain ⟨ps, e, _⟩ := T.ex
    have := C.I.fresh
    rw [← q, e] at this; cases this
  -- the table as it stood
  have T3 : Tab s₃.heap c P ("_law_stream" ++ ".<locals>." ++ "<lambda>") := by
    refine T.keeps fun b o e => ?_
    have e1 := k₂.all b o (C.I.old b o e)
    exact (sm3 b (fun (q : b = L) => by have := C.I.fresh; rw [← q, e] at this; cases this)).trans e1
  have bi := sg.builtins (hG1 C3.I.kp) hP
  refine wpAny_execs_cons (plainObj_wpAny_Assign_Attribute ?_)
  refine mkLam (c := c) (P := P) (clos := [("left", L + 1)]) rfl rfl rfl (sg.glo.keeps (hG1 C3.I.kp)).g hc T3 bi.2 bi.1 fun f c' s₄ nf lf T4 k4 => ?_
  have C4 := C3.turn k4 (fun b hb => .inl hb) (fun q => hPL (List.mem_singleton.mp q).symm) (fun nm cc e q => ?_)
  · have nP : ∀ {b : Addr} {o : Obj}, b ≠ P → s₃.heap.get? b = some o → s₄.heap.get? b = some o := fun nb e => k4.keep _ _ (fun q => nb (List.mem_singleton.mp q)) e
    refine ldL C4.I.ns rfl (attrS (dx := dx) (Frag.In.keeps sg.X (hG1 C4.I.kp)) sg.cls (sg.cls.no "read" (by decide)) (nP hPx.symm ex3) (nP hPd.symm ed3) rfl (Nat.le_of_ble_eq_true rfl) fun s₅ ed5 o5 => ?_)
    have C5 := C4.turn o5.kp (fun b hb => .inr (by rw [List.mem_singleton.mp hb]; exact fresh ndx)) (fun q => hdL (List.mem_singleton.mp q).symm) (fun nm cc e q => ?_)
    · refine wpAny_execs_cons (wpAny_Return_some (ldL C5.I.ns rfl (h s₅ x dx f (L + 1) c' ?_ (fresh nx) (fresh ndx) ((o5.same _ ?_).trans (nP hPx.symm ex3)) ⟨_, _, ed5, rfl⟩ ?_ ?_ ?_ ?_)))
      · exact C5.I.kp
      · exact ne_of_get ex3 ed3 fun q => by cases congrArg Obj.data q
      · obtain ⟨pm, ctv, l1, cc, oc, vs, tt, r1, r2, r3, r4⟩ := lf
        have nd : ∀ {b : Addr} {o : Obj}, s₄.heap.get? b = some o → (∀ es n, o.data ≠ .dict es n) → s₅.heap.get? b = some o := fun e hd => (o5.same _ (fun q => by
          have := nP hPd.symm ed3
          rw [← q, e] at this
          cases this
          exact hd _ _ rfl)).trans e
        rw [← qualLS]
        exact ⟨pm, ctv, nd l1 (fun _ _ q => by cases q), cc, oc, vs, tt, r1, nd r2 (fun _ _ q => by rw [r3] at q; cases q), r3, r4⟩
      · exact C5.cell "left" (L + 1) rfl
      · exact Heap.get?_none_of_le (by rw [hL]; exact Nat.le_succ _)
      · obtain ⟨ps4, e4, _⟩ := T4.ex
        exact ⟨ps4, (o5.same _ hPd).trans e4⟩
    · -- no cell is the dict
      obtain ⟨o, e1, e2⟩ := C4.cell nm cc e
      rw [List.mem_singleton.mp q, nP hPd.symm ed3] at e1
      cases e1
      cases e2
  · obtain ⟨o, e1, e2⟩ := C3.cell nm cc e
    obtain ⟨ps, e3, _⟩ := T3.ex
    rw [List.mem_singleton.mp q, e3] at e1
    cases e1
    cases e2

theorem dull_tab {h : Heap} {P : Addr} {ps : Array Value} (e : h.get? P = some (tabObj ps)) (hp : ps = #[]) (o : Obj) (e' : h.get? P = some o) : Dull o ∧ ∀ v, o.data ≠ .cell v := by
  rw [e] at e'; cases e'
  subst hp
  refine ⟨fun vs ev => ?_, fun v ev => by cases ev⟩
  cases ev
  exact ⟨by show (Value.none ≠ Value.type "code"); decide, fun q t ee => by simp at ee⟩
theorem law_top {sc fW c1 c2 c3 c4 P1 P2 P3 P4 : Addr} {ivs : List Value} {ns : List Int} {cdv : Value} (sg : Sg G mg mb d) (hG : ∀ b o, G.get? b = some o → s.heap.get? b = some o) (hW : FnAt s.heap fW "law" "law" dLaw [] .none .none cdv)
    (hc1 : d.cLS = .ref c1) (hc2 : d.cLH = .ref c2) (hc3 : cdv = .ref c3) (hc4 : d.cLC = .ref c4) (tb : ∀ P ∈ [P1, P2, P3, P4], s.heap.get? P = some (tabObj #[])) (h1 : CodeHd s.heap c1 P1) (h2 : CodeHd s.heap c2 P2) (h3 : CodeHd s.heap c3 P3) (h4 : CodeHd s.heap c4 P4)
    (pp : P1 ≠ P2 ∧ P1 ≠ P3 ∧ P1 ≠ P4 ∧ P2 ≠ P3 ∧ P2 ≠ P4 ∧ P3 ≠ P4) (hP : ∀ P ∈ [P1, P2, P3, P4], G.get? P = none) (hs : s.heap.IsList sc ivs.toArray) (hi : IntsAre ivs ns) (hn : ns.length ≤ 63) (hr : Rm (n + 12) A)
    (h : ∀ (D : LD) A' m cm s', D.s₀ = s → LFx G mg mb d D → LW D [D.P1] m cm s' (wri D.ht 11) 1 [] → cm "lexer" = some (.ref D.a.x) → m "left" = some (.ref D.a.left) → Rm (n + 11) A' → (D.P1 = P1 ∧ D.P2 = P2 ∧ D.P3 = P3 ∧ D.P4 = P4) → wpAny (model prog w) A' (execs (dLaw.2.1.drop 3) (envW D)) (fun fl s' => R (.ok (.ret (retV fl))) s') (fun _ _ => False) s') :
    codeAny (model prog w) A (.call (.ref fW) ⟨[.ref sc], []⟩) R s := by
  refine callFC (n := n + 11) (binds := [("script", .ref sc)]) hW (sg.glo.lim.keeps hG) hr (fun _ _ _ _ => rfl) rfl (fun L s₁ hL C hr' => ?_)
  have hPm : ∀ {P}, P ∈ [P1, P2, P3, P4] → ∀ {b o}, G.get? b = some o → b ≠ P := fun {P} hp {b o} e q => by
    have := hP _ hp
    rw [← q, e] at this; cases this
  have hG0 : ∀ {s' : Shared}, Kp [] s s' → ∀ b o, G.get? b = some o → s'.heap.get? b = some o := fun k b o e => k.all b o (hG b o e)
  -- line = _law_line(script)
  have g1 := sg.glo.keeps (hG0 C.I.kp)
  obtain ⟨o1, doc1, pm1, an1, ct1, a1, a2, a3⟩ := id sg.LL
  refine wpAny_execs_cons (wpAny_Assign_Name (wpAny_Call_Name_kw (ldG (mg := mg) g1.g sg.mLL (cwP (o := o1) (fd := fnX "_law_line" "_law_line" dLL.1 dLL.2.1 dLL.2.2 [] .none .none doc1 pm1 an1 d.cLL ct1) (wpAny_items_cons (ldL C.I.ns rfl (wpAny_items_nil ⟨⟨hG0 C.I.kp _ _ a1, a2⟩, wpAny_call ?_⟩)))))))
  refine line_spec (n := n) sg (hG0 C.I.kp) (stays_list C.I.kp.all hs) hi hn (hr'.less (by omega)) fun s₂ lnA lv k2 nln l2 hdig hback => ?_
  obtain ⟨ht, X⟩ := hdig.lin hback
  have C2 := C.call k2
  have none0 : ∀ {s' : Shared} {b : Addr}, Kp [] s s' → s'.heap.get? b = none → s.heap.get? b = none := fun k e => k.none e
  have nln0 : s.heap.get? lnA = none := none0 C.I.kp nln
  have hlnL : lnA ≠ L := let ⟨o, e⟩ := ns_some C.I.ns; ne_of_none nln e
  have cel : ∀ {nn : Str} {cc : Addr} {T : List Addr} {m cm : Str → Option Value} {s' : Shared}, LocC s T L m (celW L) cm s' → (celW L).lookup nn = some cc → ∃ o, s'.heap.get? cc = some o ∧ o.data = .cell (cm nn) := fun C e => C.cell _ _ e
  have hlc : ∀ {nn : Str} {cc : Addr}, (celW L).lookup nn = some cc → lnA ≠ cc := fun e => let ⟨o, e1, _⟩ := cel C e; ne_of_none nln e1
  refine stCC' (env := envX "law" dLaw.2.2 L fW cdv (celW L)) (c := L + 4) C2 rfl (fun s₃ C3 sm3 => ?_) rfl rfl
  have l3 : LsAt s₃.heap lnA lv := l2.of_eq (sm3 _ (hlc (nn := "line") rfl))
  -- left = list(_law_written(line))
  have g3 := sg.glo.keeps (hG0 C3.I.kp)
  obtain ⟨o2, doc2, pm2, an2, ct2, b1, b2, b3⟩ := id sg.LW
  have cl3 : s₃.heap.IsCell (L + 4) (some (.ref lnA)) := C3.cell "line" (L + 4) rfl
  refine wpAny_execs_cons (wpAny_Assign_Name (wpAny_Call_Name_kw (ldB (mg := mg) (mb := mb) g3.g (sg.no "list" (by decide)) g3.b (g3.name boot_list (by decide)) ?_)))
  refine PyProof.Rows.callWith_type1 (wpAny_items_cons (wpAny_Call_Name_kw (ldG (mg := mg) g3.g sg.mLW (cwP (o := o2) (fd := fnX "_law_written" "_law_written" dLW.1 dLW.2.1 dLW.2.2 [] .none .none doc2 pm2 an2 d.cLW ct2) (wpAny_items_cons (ldC (c := L + 4) rfl cl3 (wpAny_items_nil ⟨⟨hG0 C3.I.kp _ _ b1, b2⟩, wpAny_call ?_⟩)))))))
  refine written_spec (n := n) sg (hG0 C3.I.kp) l3 X (hr'.less (by omega)) fun s₄ t4 k4 => wpAny_items_nil ?_
  have C4 := C3.call k4
  refine listT hr'.2.2 (by have := wri_len (ht := ht) 11 X.le; omega) fun s₅ lf vs5 n5 k5 l5 hch => ?_
  have C5 := C4.call k5
  have nlf0 : s.heap.get? lf = none := none0 C4.I.kp n5
  have hlfL : lf ≠ L := let ⟨o, e⟩ := ns_some C4.I.ns; ne_of_none n5 e
  have hlfc : ∀ {nn : Str} {cc : Addr}, (celW L).lookup nn = some cc → lf ≠ cc := fun e => let ⟨o, e1, _⟩ := cel C4 e; ne_of_none n5 e1
  have hlfln : lf ≠ lnA := let ⟨nn, e⟩ := l3.keeps k4.all; ne_of_none n5 e
  refine stLC' (env := envX "law" dLaw.2.2 L fW cdv (celW L)) C5 (fun s₆ C6 sm6 => ?_) rfl rfl
  have l6 : LsAt s₆.heap lf vs5 := l5.of_eq (sm6 _ hlfL)
  have ln6 : LsAt s₆.heap lnA lv := ((l3.keeps k4.all).keeps k5.all).of_eq (sm6 _ hlnL)
  -- lexer = _netrclex(_law_stream(left))
  have tP : ∀ {T : List Addr} {s' : Shared} {P : Addr}, Kp T s s' → P ∈ [P1, P2, P3, P4] → P ∉ T → s'.heap.get? P = some (tabObj #[]) := fun k hp hn => k.keep _ _ hn (tb _ hp)
  have T6 : Tab s₆.heap c1 P1 qLS := tab0 C6.I.kp (fun x hx => by cases hx) h1 (tb _ (by simp)) (by simp)
  have g6 := sg.glo.keeps (hG0 C6.I.kp)
  obtain ⟨o3, doc3, pm3, an3, ct3, d1, d2, d3⟩ := id sg.LS
  refine wpAny_execs_cons (wpAny_Assign_Name (wpAny_Call_Name_kw (ldG (mg := mg) g6.g sg.mC ?_)))
  refine callWith_K (K := d.K) (h₀ := s₆.heap) (Frag.In.keeps sg.X (hG0 C6.I.kp)) sg.kept (wpAny_items_cons (wpAny_Call_Name_kw (ldG (mg := mg) g6.g sg.mLS (cwP (o := o3) (fd := fnX "_law_stream" "_law_stream" dLS.1 dLS.2.1 dLS.2.2 [] .none .none doc3 pm3 an3 d.cLS ct3) (wpAny_items_cons (ldL C6.I.ns (if_pos rfl) (wpAny_items_nil ⟨⟨hG0 C6.I.kp _ _ d1, d2⟩, wpAny_call ?_⟩)))))))
  refine lawStream2 (n := n + 6) sg (hG0 C6.I.kp) hc1 T6 (hP _ (by simp)) (hr'.less (by omega)) fun s₇ st ds rd cl c' k7 nst nds est eds lrd ecl ncl exP => ?_
  obtain ⟨ps6, eP6, _⟩ := T6.ex
  have P1L : P1 ≠ L := fun q => by have := C6.I.fresh; rw [← q, tb P1 (by simp)] at this; cases this
  have cellP : ∀ {m cm : Str → Option Value} {s' : Shared} {T : List Addr}, LocC s T L m (celW L) cm s' → (∃ ps, s'.heap.get? P1 = some (tabObj ps)) → ∀ nm cc, (celW L).lookup nm = some cc → cc ∉ [P1] := fun C ⟨ps, e3⟩ nm cc e q => by
    obtain ⟨o, e1, e2⟩ := C.cell nm cc e
    rw [List.mem_singleton.mp q, e3] at e1; cases e1; cases e2
  have C7 : LocC s [P1] L _ (celW L) _ s₇ := (C6.wide (T := [P1])).turn k7 (fun b hb => .inl hb) (fun q => P1L (List.mem_singleton.mp q).symm) (cellP C6 ⟨_, eP6⟩)
  have hG7 : ∀ {s' : Shared}, Kp [P1] s s' → ∀ b o, G.get? b = some o → s'.heap.get? b = some o := fun k b o e => k.keep b o (fun q => hPm (P := P1) (by simp) e (List.mem_singleton.mp q)) (hG b o e)
  have hlfP : lf ≠ P1 := ne_of_none nlf0 (tb P1 (by simp))
  have hlnP : lnA ≠ P1 := ne_of_none nln0 (tb P1 (by simp))
  have l7 : LsAt s₇.heap lf vs5 := l6.offL fun o e => k7.keep _ _ (fun q => hlfP (List.mem_singleton.mp q)) e
  have ln7 : LsAt s₇.heap lnA lv := ln6.offL fun o e => k7.keep _ _ (fun q => hlnP (List.mem_singleton.mp q)) e
  refine wpAny_items_nil ⟨Frag.In.keeps sg.X (hG7 C7.I.kp), wpAny_call ?_⟩
  refine newLex_spec (n := n + 8) sg (hG7 C7.I.kp) hr' fun s₈ x dx pb t1 t2 t3 t4 t5 t6 nn k8 nx ndx npb ex edx epb => ?_
  have C8 := C7.call k8
  have none7 : ∀ {b : Addr}, s₇.heap.get? b = none → s.heap.get? b = none := fun {b} e => by
    cases q : s.heap.get? b with
    | none => rfl
    | some o =>
      by_cases z : b = P1
      · obtain ⟨ps, e1⟩ := exP; rw [z, e1] at e; cases e
      · have := C7.I.kp.keep b o (fun q => z (List.mem_singleton.mp q)) q; rw [e] at this; cases this
  have c7 : ∀ {nn : Str} {cc b : Addr}, (celW L).lookup nn = some cc → s₇.heap.get? b = none → b ≠ cc := fun e h => let ⟨o, e1, _⟩ := cel C7 e; ne_of_none h e1
  have L7 : ∀ {b : Addr}, s₇.heap.get? b = none → b ≠ L := fun h => let ⟨o, e⟩ := ns_some C7.I.ns; ne_of_none h e
  refine stCC' (env := envX "law" dLaw.2.2 L fW cdv (celW L)) (c := L + 1) C8 rfl (fun s₉ C9 sm9 => ?_) rfl rfl
  have up9 : ∀ {b : Addr} {o : Obj}, b ≠ L + 1 → s₈.heap.get? b = some o → s₉.heap.get? b = some o := fun n e => (sm9 _ n).trans e
  have up7 : ∀ {b : Addr} {o : Obj}, b ≠ L + 1 → s₇.heap.get? b = some o → s₉.heap.get? b = some o := fun n e => up9 n (k8.all _ _ e)
  have xL1 := c7 (nn := "lexer") (cc := L + 1) rfl nx
  have dxL1 := c7 (nn := "lexer") (cc := L + 1) rfl ndx
  have pbL1 := c7 (nn := "lexer") (cc := L + 1) rfl npb
  have lfL1 := hlfc (nn := "lexer") (cc := L + 1) rfl
  have dx9 := up9 dxL1 edx
  have pb9 : LsAt s₉.heap pb [] := epb.offL fun o e => up9 pbL1 e
  have lf9 : LsAt s₉.heap lf vs5 := l7.offL fun o e => up7 lfL1 e
  have cl7 : ∀ b ∈ [L + 1, L + 2, L + 3, L + 4], b ≠ cl := fun b hb q => by
    have : s₆.heap.get? cl = none := ncl
    simp only [List.mem_cons, List.not_mem_nil, or_false] at hb
    rcases hb with z | z | z | z
    · obtain ⟨o, e1, _⟩ := cel C6 (nn := "lexer") (cc := L + 1) rfl; rw [← q, z, e1] at this; cases this
    · obtain ⟨o, e1, _⟩ := cel C6 (nn := "words") (cc := L + 2) rfl; rw [← q, z, e1] at this; cases this
    · obtain ⟨o, e1, _⟩ := cel C6 (nn := "across") (cc := L + 3) rfl; rw [← q, z, e1] at this; cases this
    · obtain ⟨o, e1, _⟩ := cel C6 (nn := "line") (cc := L + 4) rfl; rw [← q, z, e1] at this; cases this
  have hdslf : lf ≠ dx := let ⟨nn, e⟩ := l7; (ne_of_none ndx e).symm
  have hpblf : pb ≠ lf := let ⟨nn, e⟩ := l7; ne_of_none npb e
  have hpbdx : pb ≠ dx := fun q => by obtain ⟨nn, e⟩ := epb; rw [q, edx] at e; cases congrArg Obj.data (Option.some.inj e)
  let D : LD := ⟨s, s₉, L, fW, cdv, P1, P2, P3, P4, c2, c3, c4, ⟨d.C, x, dx, st, ds, rd, cl, lf, pb, c'⟩, lnA, lv, ht⟩
  have tabs9 : ∀ P ∈ [P2, P3, P4], s₉.heap.get? P = some (tabObj #[]) := fun P hp => by
    have hp' : P ∈ [P1, P2, P3, P4] := List.mem_cons_of_mem _ hp
    refine C9.I.kp.keep _ _ (fun q => ?_) (tb _ hp')
    rw [List.mem_singleton.mp q] at hp
    simp only [List.mem_cons, List.not_mem_nil, or_false] at hp
    rcases hp with z | z | z
    · exact pp.1 z
    · exact pp.2.1 z
    · exact pp.2.2.1 z
  have L9 : ∃ o, s₉.heap.get? L = some o ∧ ∃ es ep, o.data = .dict es ep := let ⟨o, es, ep, e1, e2, _⟩ := C9.I.ns; ⟨o, e1, es, ep, e2⟩
  -- a thing that is none of those that turn
  have stay : ∀ (b : Addr) (o : Obj), s₉.heap.get? b = some o → b ≠ L → b ∉ [L + 1, L + 2, L + 3, L + 4] → b ≠ dx → (∀ its n, o.data ≠ .seq its n) → o ≠ tabObj #[] → b ∉ TL D := fun b o e e1 e2 e3 e4 e5 z => by
    simp only [List.mem_cons, List.not_mem_nil, or_false, not_or] at z e2
    rcases z with z | z | z | z | z | z | z | z | z | z | z
    · exact e1 z
    · exact e2.1 z
    · exact e2.2.1 z
    · exact e2.2.2.1 z
    · exact e2.2.2.2 z
    · have z' : b = P2 := z; have := tabs9 P2 (by simp); rw [← z', e] at this; exact e5 (Option.some.inj this)
    · have z' : b = P3 := z; have := tabs9 P3 (by simp); rw [← z', e] at this; exact e5 (Option.some.inj this)
    · have z' : b = P4 := z; have := tabs9 P4 (by simp); rw [← z', e] at this; exact e5 (Option.some.inj this)
    · exact e3 z
    · have z' : b = lf := z; obtain ⟨nn, el⟩ := lf9; rw [← z', e] at el; cases el; exact e4 _ _ rfl
    · have z' : b = pb := z; obtain ⟨nn, el⟩ := pb9; rw [← z', e] at el; cases el; exact e4 _ _ rfl
  have notcell : ∀ (b : Addr) (o : Obj), s₉.heap.get? b = some o → (∀ v, o.data ≠ .cell v) → b ∉ [L + 1, L + 2, L + 3, L + 4] := fun b o e hn z => by
    simp only [List.mem_cons, List.not_mem_nil, or_false] at z
    rcases z with z | z | z | z
    · obtain ⟨o', e1, e2⟩ := cel C9 (nn := "lexer") (cc := L + 1) rfl; rw [← z, e] at e1; cases e1; exact hn _ e2
    · obtain ⟨o', e1, e2⟩ := cel C9 (nn := "words") (cc := L + 2) rfl; rw [← z, e] at e1; cases e1; exact hn _ e2
    · obtain ⟨o', e1, e2⟩ := cel C9 (nn := "across") (cc := L + 3) rfl; rw [← z, e] at e1; cases e1; exact hn _ e2
    · obtain ⟨o', e1, e2⟩ := cel C9 (nn := "line") (cc := L + 4) rfl; rw [← z, e] at e1; cases e1; exact hn _ e2
  have notL : ∀ (b : Addr) (o : Obj), s₉.heap.get? b = some o → (∀ es n, o.data ≠ .dict es n) → b ≠ L := fun b o e hn z => by
    obtain ⟨o', e1, es, ep, e2⟩ := L9
    rw [← z, e] at e1; cases e1; exact hn _ _ e2
  have notdx : ∀ (b : Addr) (o : Obj), s₉.heap.get? b = some o → (∀ es n, o.data ≠ .dict es n) → b ≠ dx := fun b o e hn z => by
    rw [← z, e] at dx9; cases dx9; exact hn _ _ rfl
  -- places of the cells are other
  have x9 := up9 xL1 ex
  have st8 := k8.all _ _ est
  have stL1 : st ≠ L + 1 := fun q => by obtain ⟨o, e1, e2⟩ := cel C7 (nn := "lexer") (cc := L + 1) rfl; rw [← q, est] at e1; cases e1; cases e2
  have st9 := up9 stL1 st8
  obtain ⟨es, nd, eds1, eds2⟩ := eds
  have dsL1 : ds ≠ L + 1 := fun q => by obtain ⟨o, e1, e2⟩ := cel C7 (nn := "lexer") (cc := L + 1) rfl; rw [← q, eds1] at e1; cases e1; cases e2
  have ds9 := up7 dsL1 eds1
  have dsL : ds ≠ L := let ⟨o, e⟩ := ns_some C6.I.ns; ne_of_none nds e
  have dsdx : ds ≠ dx := (ne_of_none ndx eds1).symm
  have fx9 : ∀ h', KL D h' → LxFix h' D.a := by
    intro h' K
    refine ⟨K _ _ ?_ x9, K _ _ ?_ st9, ⟨es, nd, K _ _ ?_ ds9, eds2⟩, ?_, ?_, dsdx⟩
    · exact stay x _ x9 (notL x _ x9 fun _ _ q => by cases q) (notcell x _ x9 fun _ q => by cases q) (notdx x _ x9 fun _ _ q => by cases q) (fun _ _ q => by cases q) (fun q => by cases congrArg Obj.data q)
    · exact stay st _ st9 (notL st _ st9 fun _ _ q => by cases q) (notcell st _ st9 fun _ q => by cases q) (notdx st _ st9 fun _ _ q => by cases q) (fun _ _ q => by cases q) (fun q => by cases congrArg Obj.data q)
    · exact stay ds _ ds9 dsL (notcell ds _ ds9 fun _ q => by cases q) dsdx (fun _ _ q => by cases q) (fun q => by cases congrArg Obj.data q)
    · obtain ⟨pm, ctv, r1, cc, oc, cvs, tc, r2, r3, r4, r5⟩ := lrd
      have rdL1 : rd ≠ L + 1 := fun q => by obtain ⟨o, e1, e2⟩ := cel C7 (nn := "lexer") (cc := L + 1) rfl; rw [← q, r1] at e1; cases e1; cases e2
      have ccL1 : cc ≠ L + 1 := fun q => by obtain ⟨o, e1, e2⟩ := cel C7 (nn := "lexer") (cc := L + 1) rfl; rw [← q, r3] at e1; cases e1; rw [r4] at e2; cases e2
      have rd9 := up7 rdL1 r1
      have cc9 := up7 ccL1 r3
      refine ⟨pm, ctv, K _ _ ?_ rd9, cc, oc, cvs, tc, r2, K _ _ ?_ cc9, r4, r5⟩
      · exact stay rd _ rd9 (notL rd _ rd9 fun _ _ q => by cases q) (notcell rd _ rd9 fun _ q => by cases q) (notdx rd _ rd9 fun _ _ q => by cases q) (fun _ _ q => by cases q) (fun q => by cases congrArg Obj.data q)
      · exact stay cc _ cc9 (notL cc _ cc9 fun _ _ q => by rw [r4] at q; cases q) (notcell cc _ cc9 fun _ q => by rw [r4] at q; cases q) (notdx cc _ cc9 fun _ _ q => by rw [r4] at q; cases q) (fun _ _ q => by rw [r4] at q; cases q) (fun q => by rw [q] at r4; cases r4; simp at r5)
    · obtain ⟨ocl, e1, e2⟩ := ecl
      have clL1 : cl ≠ L + 1 := fun q => cl7 (L + 1) (by simp) q.symm
      have c9 := up7 clL1 e1
      refine ⟨ocl, K _ _ ?_ c9, e2⟩
      exact stay cl _ c9 (notL cl _ c9 fun _ _ q => by rw [e2] at q; cases q) (fun z => cl7 cl z rfl) (notdx cl _ c9 fun _ _ q => by rw [e2] at q; cases q) (fun _ _ q => by rw [e2] at q; cases q) (fun q => by rw [q] at e2; cases e2)
  have g9 : ∀ h', KL D h' → ∀ b o, G.get? b = some o → h'.get? b = some o := by
    intro h' K b o e
    have e0 := hG b o e
    have e9 := hG7 C9.I.kp b o e
    have old : ∀ {y : Addr}, s.heap.get? y = none → b ≠ y := fun hy q => by rw [q, hy] at e0; cases e0
    refine K b o (fun z => ?_) e9
    simp only [List.mem_cons, List.not_mem_nil, or_false] at z
    have Ln := C9.I.fresh
    have cn : ∀ {nn : Str} {cc : Addr}, (celW L).lookup nn = some cc → b ≠ cc := fun hcc q => by
      have := C.above _ _ (mem_of_lookup hcc)
      have h1 := Heap.lt_size e0
      have h2 := C.I.above
      rw [q] at h1
      exact absurd (Nat.lt_trans (Nat.lt_of_le_of_lt h2 this) h1) (Nat.lt_irrefl _)
    rcases z with z | z | z | z | z | z | z | z | z | z | z
    · exact old Ln z
    · exact cn (nn := "lexer") rfl z
    · exact cn (nn := "words") rfl z
    · exact cn (nn := "across") rfl z
    · exact cn (nn := "line") rfl z
    · exact hPm (P := P2) (by simp) e z
    · exact hPm (P := P3) (by simp) e z
    · exact hPm (P := P4) (by simp) e z
    · exact old (none7 ndx) z
    · exact old nlf0 z
    · exact old (none7 npb) z
  have lnL1 : lnA ≠ L + 1 := hlc (nn := "lexer") rfl
  have lnT : lnA ∉ TL D := by
    intro z
    simp only [List.mem_cons, List.not_mem_nil, or_false] at z
    rcases z with z | z | z | z | z | z | z | z | z | z | z
    · exact hlnL z
    · exact lnL1 z
    · exact hlc (nn := "words") rfl z
    · exact hlc (nn := "across") rfl z
    · exact hlc (nn := "line") rfl z
    · exact ne_of_none nln0 (tb P2 (by simp)) z
    · exact ne_of_none nln0 (tb P3 (by simp)) z
    · exact ne_of_none nln0 (tb P4 (by simp)) z
    · obtain ⟨nn, e⟩ := ln7; exact (ne_of_none ndx e).symm z
    · exact hlfln z.symm
    · obtain ⟨nn, e⟩ := ln7; exact (ne_of_none npb e).symm z
  have hLn : ∀ h', KL D h' → LsAt h' D.ln D.lv := fun h' K => let ⟨nn, e⟩ := ln7; ⟨nn, K _ _ lnT (up7 lnL1 e)⟩
  have cl5 : ∀ {b : Addr}, s₇.heap.get? b = none → b ≠ L ∧ b ≠ L + 1 ∧ b ≠ L + 2 ∧ b ≠ L + 3 ∧ b ≠ L + 4 := fun e => ⟨L7 e, c7 (nn := "lexer") rfl e, c7 (nn := "words") rfl e, c7 (nn := "across") rfl e, c7 (nn := "line") rfl e⟩
  refine h D _ _ _ s₉ rfl ⟨sg, fx9, g9, hLn, lnT, X, rfl, ⟨?_, ?_⟩, hP, ?_, ⟨hdslf.symm, hpblf, hpbdx⟩, hc2, hc3, hc4, tb, h2, h3, h4, pp⟩ ⟨C9, (fun P hP => by rw [List.mem_singleton.mp hP]; exact List.mem_cons_self ..), fun b o _ e => e, ⟨?_, ?_⟩, pb9, ?_, ⟨lnA, ?_, rfl⟩⟩ ?_ (if_pos rfl) hr' ⟨rfl, rfl, rfl, rfl⟩
  · cases e : G.get? dx with
    | none => rfl
    | some o => have := hG _ _ e; rw [none7 ndx] at this; cases this
  · cases e : G.get? lf with
    | none => rfl
    | some o => have := hG _ _ e; rw [nlf0] at this; cases this
  · intro b hb
    simp only [List.mem_cons, List.not_mem_nil, or_false] at hb
    rcases hb with rfl | rfl | rfl
    · exact ⟨none7 ndx, ⟨_, dx9⟩, cl5 ndx⟩
    · exact ⟨nlf0, let ⟨nn, e⟩ := lf9; ⟨_, e⟩, hlfL, lfL1, hlfc (nn := "words") rfl, hlfc (nn := "across") rfl, hlfc (nn := "line") rfl⟩
    · exact ⟨none7 npb, let ⟨nn, e⟩ := pb9; ⟨_, e⟩, cl5 npb⟩
  · exact ⟨_, _, _, _, t1, t2, t3, t4, t5, t6, nn, dx9⟩
  · exact ⟨vs5, lf9, hch⟩
  · intro P hp
    have hp' := hp
    simp only [List.mem_cons, List.not_mem_nil, or_false] at hp
    rcases hp with z | z
    · obtain ⟨ps, e⟩ := exP
      have : P1 ≠ L + 1 := fun q => by obtain ⟨o, e1, e2⟩ := cel C7 (nn := "lexer") (cc := L + 1) rfl; rw [← q, e] at e1; cases e1; cases e2
      exact ⟨ps, z ▸ up7 this e⟩
    · exact ⟨#[], tabs9 P (by simpa using z)⟩
  · exact rfl
  · exact rfl
end
end Mine
end
section
open PySem PySem.W PySem.Calls PyProof.Rows
set_option maxRecDepth 100000
set_option Elab.async false
set_option maxHeartbeats 4000000
set_option autoImplicit false
set_option linter.unusedVariables false
namespace Mine
section
variable {prog : Program} {w : World} {A : Around} {M : Model} {E : Value → Shared → Prop} {G : Heap} {mg mb : Str → Option Value} {d : Ads} {D : LD} {T T₂ : List Addr} {s s' : Shared} {m m' cm cm' : Str → Option Value} {cps cps' : List Nat} {lno lno' : Int} {pbv pbv' : List Value} {x : Str} {l : Addr} {nm : Str} {v : Value} {n : Nat} {R : Flow → Shared → Prop} {xs : List Value}
/-- the base state is laid anew -/
theorem LFx.rebase (X : LFx G mg mb d D) (W : LW D T m cm s cps lno pbv) : LFx G mg mb d { D with sL := s } ∧ LW { D with sL := s } T m cm s cps lno pbv := by
  have up : ∀ {h' : Heap}, KL { D with sL := s } h' → KL D h' := fun K b o n e => K b o n (W.K b o n e)
  refine ⟨⟨X.sg, fun h' K => X.F h' (up K), fun h' K => X.g h' (up K), fun h' K => X.lin h' (up K), X.lnT, X.X, X.hC, X.gd, X.hP, fun b hb => ?_, X.ne, X.hc2, X.hc3, X.hc4, X.tb, X.h2, X.h3, X.h4, X.pp⟩, ⟨W.C, W.hT, fun b o _ e => e, W.lx, W.pb, W.exP, W.lm⟩⟩
  obtain ⟨f1, _, f2⟩ := X.fr0 b hb
  refine ⟨f1, ?_, f2⟩
  simp only [List.mem_cons, List.not_mem_nil, or_false] at hb
  rcases hb with z | z | z
  · obtain ⟨x1, x2, x3, x4, t1, t2, t3, t4, t5, t6, n, edx⟩ := W.lx.dx
    exact ⟨_, z ▸ edx⟩
  · obtain ⟨vs, ⟨nl, el⟩, _⟩ := W.lx.left
    exact ⟨_, z ▸ el⟩
  · obtain ⟨np, ep⟩ := W.pb
    exact ⟨_, z ▸ ep⟩
/-- what is in no list of the things that turn -/
theorem LW.notTL {l : Addr} (W : LW D T m cm s cps lno pbv) (X : LFx G mg mb d D) (h : D.sL.heap.get? l = Option.none) (hL : l ≠ D.L) (hP : l ∉ TP D) (hc : ∀ cc ∈ [D.L + 1, D.L + 2, D.L + 3, D.L + 4], l ≠ cc) : l ∉ TL D := by
  intro z
  simp only [List.mem_cons, List.not_mem_nil, or_false, not_or] at z hP
  have f : ∀ b ∈ [D.a.dx, D.a.left, D.a.pb], l ≠ b := fun b hb q => by
    obtain ⟨_, ⟨o, e⟩, _⟩ := X.fr0 b hb
    rw [← q, h] at e; cases e
  rcases z with z | z | z | z | z | z | z | z | z | z | z
  · exact hL z
  · exact hc (D.L + 1) (by simp) z
  · exact hc (D.L + 2) (by simp) z
  · exact hc (D.L + 3) (by simp) z
  · exact hc (D.L + 4) (by simp) z
  · exact hP.2.1 z
  · exact hP.2.2.1 z
  · exact hP.2.2.2 z
  · exact f _ (by simp) z
  · exact f _ (by simp) z
  · exact f _ (by simp) z
/-- behind a turn of the lexer's own things and of new ones -/
theorem LW.mix {T' : List Addr} (W : LW D T m cm s cps lno pbv) (X : LFx G mg mb d D) (k : Kp T' s s') (hT : ∀ b ∈ T', b ∈ [D.a.dx, D.a.left, D.a.pb] ∨ (D.s₀.heap.get? b = Option.none ∧ D.sL.heap.get? b = Option.none ∧ b ≠ D.L ∧ b ∉ TP D ∧ ∀ o, s.heap.get? b = some o → ∀ v, o.data ≠ .cell v)) (S' : LxSt s'.heap D.a cps' lno') (hp : LsAt s'.heap D.a.pb pbv') : LW D T m cm s' cps' lno' pbv' := by
  have dl : ∀ b ∈ [D.a.dx, D.a.left, D.a.pb], ∀ o, s.heap.get? b = some o → ∀ v, o.data ≠ .cell v := fun b hb o e v q => by
    simp only [List.mem_cons, List.not_mem_nil, or_false] at hb
    rcases hb with z | z | z
    · obtain ⟨x1, x2, x3, x4, t1, t2, t3, t4, t5, t6, n, edx⟩ := W.lx.dx
      rw [z, edx] at e; cases e; cases q
    · obtain ⟨vs, ⟨nl, el⟩, _⟩ := W.lx.left
      rw [z, el] at e; cases e; cases q
    · obtain ⟨np, ep⟩ := W.pb
      rw [z, ep] at e; cases e; cases q
  refine ⟨W.C.turn k (fun b hb => .inr ((hT b hb).elim (fun h => (X.fr0 b h).1) fun h => h.1)) (fun q => (hT _ q).elim (fun h => (X.fr0 _ h).2.2.1 rfl) fun h => h.2.2.1 rfl) (fun n cc e q => ?_), W.hT, W.K.keeps fun b o n e0 e => k.keep b o (fun z => ?_) e, S', hp, fun P hP => ?_, W.lm⟩
  · obtain ⟨o, e1, e2⟩ := W.C.cell n cc e
    exact (hT _ q).elim (fun h => dl _ h o e1 _ e2) fun h => h.2.2.2.2 o e1 _ e2
  · refine (hT b z).elim (fun h => n ?_) fun h => by rw [h.2.1] at e0; cases e0
    simp only [List.mem_cons, List.not_mem_nil, or_false] at h ⊢
    rcases h with z | z | z <;> simp [z]
  · obtain ⟨ps, e⟩ := W.exP P hP
    refine ⟨ps, k.keep _ _ (fun z => ?_) e⟩
    refine (hT _ z).elim (fun h => ?_) fun h => h.2.2.2.1 hP
    have f := (X.fr0 _ h).1
    rw [X.tb P hP] at f; cases f

theorem dullI {h : Heap} {it l : Addr} {i : Nat} (x : h.IsListIter it l i) (o : Obj) (e : h.get? it = some o) : Dull o ∧ ∀ v, o.data ≠ .cell v := by
  refine ⟨Dull.liter x o e, fun v q => ?_⟩
  obtain ⟨o', e1, e2, e3⟩ := x
  rw [e1] at e; cases e; rw [e3] at q; cases q
/-- a comprehension over a list, in the law's frame -/
theorem LW.compL {elt : Expr} {scope : Scope} {cl : List (Str × Addr)} {Fin : Addr → Addr → List Value → Shared → Prop} (W : LW D T m cm s cps lno pbv) (X : LFx G mg mb d D) (hh : A.handled = Option.none) (hl : LsAt s.heap l xs) (hxs : xs.length < 1000) (J : Nat → List Value → Prop) (hJ0 : J 0 [])
    (turn : ∀ C i v u m₁ ys, xs[i]? = some v → LW D T m cm u cps lno pbv → (∀ b o, s.heap.get? b = some o → u.heap.get? b = some o) → u.heap.Ns C m₁ → m₁ x = some v → ys.length = i → J i ys →
      wpAny (model prog w) A (eval elt (compEnvC scope cl C (envW D))) (fun y s' => Kp [] u s' ∧ J (i + 1) (ys ++ [y])) (fun _ _ => False) u)
    (fin : ∀ C D' ys s', LW D T m cm s' cps lno pbv → (∀ b o, s.heap.get? b = some o → s'.heap.get? b = some o) → (∃ m₁, s'.heap.Ns C m₁) → s.heap.get? C = Option.none → s.heap.get? D' = Option.none → D' ≠ C → LsAt s'.heap D' ys → ys.length = xs.length → J xs.length ys → Fin C D' ys s') :
    wpAny (model prog w) A (pyIter (.ref l)) (CompSrc prog w A (envW D) elt x scope cl Fin) E s := by
  refine wpAny_pyIter_list hl.isList ?_
  generalize hI : s.heap.objs.size = I
  have hIn : s.heap.get? I = Option.none := by rw [← hI]; exact Heap.get?_none_of_le (Nat.le_refl _)
  have hlI : l ≠ I := let ⟨nn, e⟩ := hl; (ne_of_none hIn e).symm
  have k2 : Kp [] s { s with heap := s.heap.push { cls := .type "list_iterator", data := .fields #[.ref l, .int 0 0] } } := Kp.push (tk := s.toks)
  have W2 := W.call k2
  have hit : (s.heap.push { cls := .type "list_iterator", data := .fields #[.ref l, .int 0 0] }).IsListIter I l 0 := by rw [← hI]; exact ⟨_, Heap.get?_push_size _ rfl, rfl, rfl⟩
  have hl2 := hl.keeps k2.all
  have I0 := W.none hIn
  have Wk : Walks prog w A I [I, l] [I] xs.length (fun i v => xs.toArray[i]? = some v) (fun i h => h.IsListIter I l i ∧ h.IsList l xs.toArray) := by
    have Wk := Walks.list (prog := prog) (w := w) (A := A) hh I l hlI xs.toArray
    rw [List.size_toArray] at Wk
    exact Wk
  have hfp : ∀ b ∈ [I, l], b < (s.heap.push { cls := .type "list_iterator", data := .fields #[.ref l, .int 0 0] }).objs.size := fun b hb => by
    simp only [List.mem_cons, List.not_mem_nil, or_false] at hb
    rcases hb with rfl | rfl
    · exact let ⟨_, e, _⟩ := hit; Heap.lt_size e
    · exact let ⟨_, e⟩ := hl2; Heap.lt_size e
  have offI : ∀ {u : Shared}, Kp [I] { s with heap := s.heap.push { cls := .type "list_iterator", data := .fields #[.ref l, .int 0 0] } } u → LW D T m cm u cps lno pbv ∧ ∀ b o, s.heap.get? b = some o → u.heap.get? b = some o := fun {u} k =>
    ⟨W2.off X k I0 (dullI hit), fun b o e => k.keep b o (fun q => by rw [List.mem_singleton.mp q, hIn] at e; cases e) (k2.all b o e)⟩
  refine ⟨I, [I, l], [I], xs.length, fun i v => xs.toArray[i]? = some v, fun i h => h.IsListIter I l i ∧ h.IsList l xs.toArray, [], fun i ys _ => J i ys, rfl, Wk, hxs, ⟨hit, hl2.isList⟩, hfp, (fun _ h => by cases h), (fun _ h => by cases h), hJ0, (fun _ _ _ _ h _ => h), ?turn, ?fin⟩
  case turn =>
    intro C i v u m₁ ys hi hvi I₁ hmx hyl hJ
    have o := offI (u := u) (I₁.kp.mono fun b hb => by simpa using hb)
    refine wpAny_mono (turn C i v u m₁ ys (by simpa using hvi) o.1 o.2 I₁.ns hmx hyl hJ) (fun y s' h => h) fun _ _ e => e
  case fin =>
    intro D' C s' ys ce
    have o := offI (u := s') (ce.kp.mono fun b hb => by simpa using hb)
    refine fin C D' ys s' o.1 o.2 ce.cn ?_ ?_ ce.ne ce.ls ce.len ce.j
    · cases e : s.heap.get? C with
      | none => rfl
      | some o => have := k2.all _ _ e; rw [ce.nC] at this; cases this
    · cases e : s.heap.get? D' with
      | none => rfl
      | some o => have := k2.all _ _ e; rw [ce.nD] at this; cases this
/-- a comprehension over range(n), in the law's frame -/
theorem LW.compR {elt : Expr} {scope : Scope} {cl : List (Str × Addr)} {Fin : Addr → Addr → List Value → Shared → Prop} {k : Nat} {t : Tok} (W : LW D T m cm s cps lno pbv) (X : LFx G mg mb d D) (hh : A.handled = Option.none) (hk : k < 1000) (J : Nat → List Value → Prop) (hJ0 : J 0 [])
    (turn : ∀ C i t u m₁ ys, i < k → LW D T m cm u cps lno pbv → (∀ b o, s.heap.get? b = some o → u.heap.get? b = some o) → u.heap.Ns C m₁ → m₁ x = some (.int (i : Nat) t) → ys.length = i → J i ys →
      wpAny (model prog w) A (eval elt (compEnvC scope cl C (envW D))) (fun y s' => Kp [] u s' ∧ J (i + 1) (ys ++ [y])) (fun _ _ => False) u)
    (fin : ∀ C D' ys s', LW D T m cm s' cps lno pbv → (∀ b o, s.heap.get? b = some o → s'.heap.get? b = some o) → (∃ m₁, s'.heap.Ns C m₁) → s.heap.get? C = Option.none → s.heap.get? D' = Option.none → D' ≠ C → LsAt s'.heap D' ys → ys.length = k → J k ys → Fin C D' ys s') :
    wpAny (model prog w) A (PySem.call (Value.type "range") [Value.int (k : Nat) t]) (fun xv s₁ => wpAny (model prog w) A (pyIter xv) (CompSrc prog w A (envW D) elt x scope cl Fin) E s₁) E s := by
  refine rangeIt (by omega) fun I s₂ hIn hit k2 => ?_
  have W2 := W.call k2
  have I0 := W.none hIn
  have Wk := LCg.range_walks (prog := prog) (w := w) (A := A) (I := I) hh 0 k
  have hit0 : IsRangeIter s₂.heap I (0 + (0 : Nat) * 1) ((k : Int) - (0 : Nat)) 1 := by simpa using hit
  have hfp : ∀ b ∈ [I], b < s₂.heap.objs.size := fun b hb => by rw [List.mem_singleton.mp hb]; exact Heap.lt_size hit
  have offI : ∀ {u : Shared}, Kp [I] s₂ u → LW D T m cm u cps lno pbv ∧ ∀ b o, s.heap.get? b = some o → u.heap.get? b = some o := fun {u} kk =>
    ⟨W2.off X kk I0 (dullR hit), fun b o e => kk.keep b o (fun q => by rw [List.mem_singleton.mp q, hIn] at e; cases e) (k2.all b o e)⟩
  refine ⟨I, [I], [I], k, _, _, [], fun i ys _ => J i ys, rfl, Wk, hk, hit0, hfp, (fun _ h => by cases h), (fun _ h => by cases h), hJ0, (fun _ _ _ _ h _ => h), ?turn, ?fin⟩
  case turn =>
    intro C i v u m₁ ys hi hvi I₁ hmx hyl hJ
    obtain ⟨t, rfl⟩ := hvi
    have o := offI (u := u) (I₁.kp.mono fun b hb => by simpa using hb)
    have e0 : (0 : Int) + i = (i : Nat) := by omega
    rw [e0] at hmx
    exact turn C i t u m₁ ys hi o.1 o.2 I₁.ns hmx hyl hJ
  case fin =>
    intro D' C s' ys ce
    have o := offI (u := s') (ce.kp.mono fun b hb => by simpa using hb)
    refine fin C D' ys s' o.1 o.2 ce.cn ?_ ?_ ce.ne ce.ls ce.len ce.j
    · cases e : s.heap.get? C with
      | none => rfl
      | some o => have := k2.all _ _ e; rw [ce.nC] at this; cases this
    · cases e : s.heap.get? D' with
      | none => rfl
      | some o => have := k2.all _ _ e; rw [ce.nD] at this; cases this
/-- a comprehension's frame is dropped -/
theorem LW.drop {C : Addr} {s₂ : Shared} (W : LW D T m cm s cps lno pbv) (X : LFx G mg mb d D) (hn : ∃ m₁, s.heap.Ns C m₁) (W2 : LW D T₂ m' cm' s₂ cps' lno' pbv') (hC : s₂.heap.get? C = Option.none) (k : Kp [C] s s') : LW D T m cm s' cps lno pbv := by
  obtain ⟨m₁, ns⟩ := hn
  exact W.off X k (W2.none hC) (dullN ns)
end

def rstN (ht : Nat → Nat) : Nat → List Nat
  | 0 => []
  | n + 1 => pc (10 - n) (ht (10 - n)) ++ rstN ht n
theorem rst_all {ht : Nat → Nat} : ∀ k, k ≤ 11 → wri ht k ++ rstN ht (11 - k) = rstN ht 11
  | 0, _ => rfl
  | k + 1, hk => by
    rw [← rst_all k (by omega)]
    have e : 11 - k = (10 - k) + 1 := by omega
    have e2 : 11 - (k + 1) = 10 - k := by omega
    have e3 : 10 - (10 - k) = k := by omega
    rw [e, e2]
    show wri ht k ++ pc k (ht k) ++ _ = wri ht k ++ (pc (10 - (10 - k)) (ht (10 - (10 - k))) ++ _)
    rw [e3, List.append_assoc]
theorem wri_rst {ht : Nat → Nat} : wri ht 11 = rstN ht 11 := by
  have := rst_all (ht := ht) 11 (Nat.le_refl _)
  rw [Nat.sub_self] at this
  rw [← this]
  exact (List.append_nil _).symm
theorem rst_len {ht : Nat → Nat} (h : ∀ i, i < 11 → ht i ≤ 9) : ∀ n, (rstN ht n).length ≤ 20 * n
  | 0 => Nat.le_refl _
  | n + 1 => by
    have h1 := rst_len h n
    have h2 := pc_len (10 - n) (ht (10 - n)) (h _ (by omega))
    show (pc _ _ ++ _).length ≤ _
    rw [List.length_append]; omega
theorem rst_step {ht : Nat → Nat} {i : Nat} (hi : i < 11) : rstN ht (11 - i) = pc i (ht i) ++ rstN ht (11 - (i + 1)) := by
  have e : 11 - i = (10 - i) + 1 := by omega
  have e2 : 11 - (i + 1) = 10 - i := by omega
  have e3 : 10 - (10 - i) = i := by omega
  rw [e, e2]
  show pc (10 - (10 - i)) (ht (10 - (10 - i))) ++ _ = _
  rw [e3]
end Mine
end
section
open PySem PySem.W PySem.Calls PyProof.Rows
set_option maxRecDepth 100000
set_option Elab.async false
set_option maxHeartbeats 4000000
set_option autoImplicit false
set_option linter.unusedVariables false
namespace Mine
section
variable {prog : Program} {w : World} {A : Around} {M : Model} {E : Value → Shared → Prop} {G : Heap} {mg mb : Str → Option Value} {d : Ads} {D : LD} {T T₂ : List Addr} {s s' : Shared} {m m' cm cm' : Str → Option Value} {cps cps' : List Nat} {lno lno' : Int} {pbv pbv' : List Value} {x : Str} {l : Addr} {nm : Str} {v : Value} {n : Nat} {R : Flow → Shared → Prop} {xs : List Value}

theorem law_words (X : LFx G mg mb d D) (W : LW D T m cm s (wri D.ht 11) 1 []) (hlx : cm "lexer" = some (.ref D.a.x)) (hr : Rm (n + 11) A)
    (h : ∀ s' cm' wl ws pd, LW D T m cm' s' (List.replicate pd 10) (12 - pd) [] → pd ≤ 1 → cm' "lexer" = some (.ref D.a.x) → cm' "words" = some (.ref wl) → LsAt s'.heap wl ws → Wds ws D.ht → wl ∉ TL D → wpAny (model prog w) A (execs (dLaw.2.1.drop 4) (envW D)) R (fun _ _ => False) s') :
    wpAny (model prog w) A (execs (dLaw.2.1.drop 3) (envW D)) R (fun _ _ => False) s := by
  have hh := hr.2.2
  have hl := W.line X
  refine LW.wset (compE (cl := [("lexer", D.L + 1)]) ?main ?hclos ?hcell ?hkind ?hnames ?hx ?hs)
  case hclos => rfl
  case hcell => decide +kernel
  case hkind => rfl
  case hnames => decide +kernel
  case hx => rfl
  case hs => intro _; rfl
  refine ldC (c := D.L + 4) rfl W.cline (wpAny_pyIter_list hl.isList ?_)
  generalize hI : s.heap.objs.size = I
  have hIn : s.heap.get? I = none := by rw [← hI]; exact Heap.get?_none_of_le (Nat.le_refl _)
  have hlI : D.ln ≠ I := let ⟨nn, e⟩ := hl; (ne_of_none hIn e).symm
  have k2 : Kp [] s { s with heap := s.heap.push { cls := .type "list_iterator", data := .fields #[.ref D.ln, .int 0 0] } } := Kp.push (tk := s.toks)
  have W2 := W.call k2
  have hit : (s.heap.push { cls := .type "list_iterator", data := .fields #[.ref D.ln, .int 0 0] }).IsListIter I D.ln 0 := by rw [← hI]; exact ⟨_, Heap.get?_push_size _ rfl, rfl, rfl⟩
  have hl2 := hl.keeps k2.all
  have I0 := W.none hIn
  have Wk : Walks prog w A I [I, D.ln] [I] 11 (fun i v => D.lv.toArray[i]? = some v) (fun i h => h.IsListIter I D.ln i ∧ h.IsList D.ln D.lv.toArray) := by
    have Wk := Walks.list (prog := prog) (w := w) (A := A) hh I D.ln hlI D.lv.toArray
    rw [List.size_toArray, X.X.len] at Wk
    exact Wk
  have lt : ∀ {b : Addr} {o : Obj}, s.heap.get? b = some o → b < (s.heap.push { cls := .type "list_iterator", data := .fields #[.ref D.ln, .int 0 0] }).objs.size := fun e => Heap.lt_size (k2.all _ _ e)
  have hfp : ∀ b ∈ [I, D.ln], b < (s.heap.push { cls := .type "list_iterator", data := .fields #[.ref D.ln, .int 0 0] }).objs.size := fun b hb => by
    simp only [List.mem_cons, List.not_mem_nil, or_false] at hb
    rcases hb with rfl | rfl
    · exact let ⟨_, e, _⟩ := hit; Heap.lt_size e
    · exact let ⟨_, e⟩ := hl2; Heap.lt_size e
  have dxI : D.a.dx ≠ I ∧ D.a.left ≠ I ∧ D.a.pb ≠ I := by
    refine ⟨fun q => ?_, fun q => ?_, fun q => ?_⟩
    · obtain ⟨x1, x2, x3, x4, t1, t2, t3, t4, t5, t6, n, edx⟩ := W.lx.dx
      rw [q, hIn] at edx; cases edx
    · obtain ⟨vs, ⟨nl, el⟩, _⟩ := W.lx.left
      rw [q, hIn] at el; cases el
    · obtain ⟨np, ep⟩ := W.pb
      rw [q, hIn] at ep; cases ep
  have dxlt : D.a.dx < (s.heap.push { cls := .type "list_iterator", data := .fields #[.ref D.ln, .int 0 0] }).objs.size := let ⟨x1, x2, x3, x4, t1, t2, t3, t4, t5, t6, n, edx⟩ := W.lx.dx; lt edx
  have lflt : D.a.left < (s.heap.push { cls := .type "list_iterator", data := .fields #[.ref D.ln, .int 0 0] }).objs.size := let ⟨vs, ⟨nl, el⟩, _⟩ := W.lx.left; lt el
  have pblt : D.a.pb < (s.heap.push { cls := .type "list_iterator", data := .fields #[.ref D.ln, .int 0 0] }).objs.size := let ⟨np, ep⟩ := W.pb; lt ep
  have lnt := X.lnT
  simp only [List.mem_cons, List.not_mem_nil, or_false, not_or] at lnt
  have lndx : D.ln ≠ D.a.dx := lnt.2.2.2.2.2.2.2.2.1
  have lnlf : D.ln ≠ D.a.left := lnt.2.2.2.2.2.2.2.2.2.1
  refine ⟨I, [I, D.ln], [I], 11, fun i v => D.lv.toArray[i]? = some v, fun i h => h.IsListIter I D.ln i ∧ h.IsList D.ln D.lv.toArray, [D.a.dx, D.a.left],
    fun i ys u => (∃ pd : Nat, pd ≤ 1 ∧ LxSt u.heap D.a (List.replicate pd 10 ++ rstN D.ht (11 - i)) (1 + i - pd)) ∧ LsAt u.heap D.a.pb [] ∧ ∀ j, j < i → ∃ t, ys[j]? = some (Value.str (bl (D.ht j)) t),
    rfl, Wk, by decide, ⟨hit, hl2.isList⟩, hfp, fun b hb => ?hTf, fun b hb => ?hT, ⟨⟨0, by decide, ?hS⟩, W2.pb, fun j hj => absurd hj (Nat.not_lt_zero j)⟩, ?hJ, ?turn, ?fin⟩
  case hTf =>
    intro z
    simp only [List.mem_cons, List.not_mem_nil, or_false] at z hb
    rcases hb with rfl | rfl
    · rcases z with z | z
      · exact dxI.1 z
      · exact lndx z.symm
    · rcases z with z | z
      · exact dxI.2.1 z
      · exact lnlf z.symm
  case hT =>
    simp only [List.mem_cons, List.not_mem_nil, or_false] at hb
    rcases hb with rfl | rfl
    · exact dxlt
    · exact lflt
  case hS =>
    have S := W2.lx
    rw [wri_rst] at S
    exact S
  case hJ =>
    rintro i ys u u' ⟨⟨pd, hpd, S⟩, lp, hj⟩ kk
    refine ⟨⟨pd, hpd, ?_⟩, lp.offL fun o e => kk _ _ pblt (by simpa using dxI.2.2) e, hj⟩
    obtain ⟨⟨x1, x2, x3, x4, t1, t2, t3, t4, t5, t6, n, edx⟩, vs, ⟨nl, el⟩, hc⟩ := S
    exact ⟨⟨x1, x2, x3, x4, t1, t2, t3, t4, t5, t6, n, kk _ _ dxlt (by simpa using dxI.1) edx⟩, vs, ⟨nl, kk _ _ lflt (by simpa using dxI.2.1) el⟩, hc⟩
  case turn =>
    rintro C i v u m₁ ys hi hvi I₁ hmx hyl ⟨⟨pd, hpd, S⟩, lp, hj⟩
    have Ku : KL D u.heap := fun b o nb e => I₁.kp.keep b o (fun z => by
      simp only [List.singleton_append, List.mem_cons, List.not_mem_nil, or_false] at z nb
      rcases z with z | z | z
      · rw [z, I0.2.1] at e; cases e
      · exact nb (by simp [z])
      · exact nb (by simp [z])) (W2.K b o nb e)
    have Gu := X.g _ Ku
    have zl : Lx0 G mg mb d D.a u := ⟨X.sg, X.hC, X.F _ Ku, ⟨_, _, S⟩, Gu, X.gd⟩
    have cx : u.heap.IsCell (D.L + 1) (some (.ref D.a.x)) := by
      rw [← hlx]
      obtain ⟨o, e1, e2⟩ := W2.C.cell "lexer" (D.L + 1) rfl
      refine ⟨o, I₁.kp.keep _ _ (fun z => ?_) e1, e2⟩
      simp only [List.singleton_append, List.mem_cons, List.not_mem_nil, or_false] at z
      rcases z with z | z | z
      · obtain ⟨o', f1, f2, f3⟩ := hit; rw [z, f1] at e1; cases e1; rw [f3] at e2; cases e2
      · exact (X.fr0 D.a.dx (by simp)).2.2.2.1 z.symm
      · exact (X.fr0 D.a.left (by simp)).2.2.2.1 z.symm
    obtain ⟨oT, docT, pmT, anT, ctT, r1, r2, r3⟩ := X.sg.GT.keeps Gu
    obtain ⟨x1, x2, x3, x4, t1, t2, t3, t4, t5, t6, nn, edx⟩ := S.dx
    have hz9 := X.X.le i hi
    have hrl := rst_len X.X.le (11 - (i + 1))
    have tail : ∀ (u' : Shared) (t : Tok) (pd' : Nat), pd' ≤ 1 → Kp [D.a.dx, D.a.left] u u' → LxSt u'.heap D.a (List.replicate pd' 10 ++ rstN D.ht (11 - (i + 1))) (1 + (i + 1 : Nat) - pd') →
        Kp [D.a.dx, D.a.left] u u' ∧ (∃ pd : Nat, pd ≤ 1 ∧ LxSt u'.heap D.a (List.replicate pd 10 ++ rstN D.ht (11 - (i + 1))) (1 + (i + 1 : Nat) - pd)) ∧ LsAt u'.heap D.a.pb [] ∧ ∀ j, j < i + 1 → ∃ t, (ys ++ [Value.str (bl (D.ht i)) t])[j]? = some (Value.str (bl (D.ht j)) t) := by
      intro u' t pd' hpd' kk S'
      refine ⟨kk, ⟨pd', hpd', S'⟩, lp.offL fun o e => kk.keep _ _ (not2 X.ne.2.2 X.ne.2.1) e, fun j hj' => ?_⟩
      by_cases q : j < i
      · obtain ⟨t', e'⟩ := hj j q
        exact ⟨t', by rw [List.getElem?_append_left (by omega)]; exact e'⟩
      · have : j = i := by omega
        subst this
        exact ⟨t, by rw [List.getElem?_append_right (by omega), hyl, Nat.sub_self]; rfl⟩
    have fixT : ∀ (y : Value) (t : Tok), y = .str (bl (D.ht i)) t → (∀ j, j < i + 1 → ∃ t, (ys ++ [Value.str (bl (D.ht i)) t])[j]? = some (Value.str (bl (D.ht j)) t)) → True := fun _ _ _ _ => trivial
    refine MethodCall_ (ldC (c := D.L + 1) rfl cx ?_)
    refine methC (dx := D.a.dx) (f := d.fGT) (Frag.In.keeps X.sg.X Gu) (by rw [X.hC]; exact X.sg.cls) (by rw [X.hC]; exact X.sg.kGT) X.sg.iGT (X.F _ Ku).x edx rfl ?_
    refine cwF0 r1 r2 (wpAny_call ?_)
    rw [rst_step hi] at S
    by_cases hs : 0 < D.ht i ∧ i % 2 = 1
    · obtain ⟨hh', eh⟩ : ∃ k, D.ht i = k + 1 := ⟨D.ht i - 1, by omega⟩
      have epc : pc i (D.ht i) = bs (hh' + 1) ++ [10] := by unfold pc; rw [if_pos hs, eh]
      rw [epc, List.append_assoc] at S
      refine getToken_slashed (n := n) (k := pd) (hh := hh') (rest := rstN D.ht (11 - (i + 1))) zl S (by omega) lp (hr.less (by omega)) fun u' t kk S' => ?_
      have hln : (1 : Int) + i - pd + pd + 1 = 1 + (i + 1 : Nat) - (0 : Nat) := by omega
      rw [hln] at S'
      rw [← eh]
      obtain ⟨q1, q2, q3, q4⟩ := tail u' t 0 (by decide) kk S'
      refine ⟨q1, q2, q3, fun j hj' => ?_⟩
      by_cases q : j < i
      · obtain ⟨t', e'⟩ := hj j q
        exact ⟨t', by rw [List.getElem?_append_left (by omega)]; exact e'⟩
      · have : j = i := by omega
        subst this
        exact ⟨t, by rw [List.getElem?_append_right (by omega), hyl, Nat.sub_self]; rfl⟩
    · have epc : pc i (D.ht i) = 34 :: (List.replicate (D.ht i) 32 ++ [34, 10]) := by unfold pc; rw [if_neg hs]
      have e2 : List.replicate pd 10 ++ (pc i (D.ht i) ++ rstN D.ht (11 - (i + 1))) = List.replicate pd 10 ++ 34 :: (List.replicate (D.ht i) 32 ++ 34 :: (10 :: rstN D.ht (11 - (i + 1)))) := by rw [epc]; simp
      rw [e2] at S
      refine getToken_quoted (n := n) (k := pd) (hh := D.ht i) zl S (by rw [List.length_cons]; omega) lp (hr.less (by omega)) fun u' t kk S' => ?_
      have hln : (1 : Int) + i - pd + pd = 1 + (i + 1 : Nat) - (1 : Nat) := by omega
      rw [hln] at S'
      obtain ⟨q1, q2, q3, q4⟩ := tail u' t 1 (Nat.le_refl _) kk S'
      refine ⟨q1, q2, q3, fun j hj' => ?_⟩
      by_cases q : j < i
      · obtain ⟨t', e'⟩ := hj j q
        exact ⟨t', by rw [List.getElem?_append_left (by omega)]; exact e'⟩
      · have : j = i := by omega
        subst this
        exact ⟨t, by rw [List.getElem?_append_right (by omega), hyl, Nat.sub_self]; rfl⟩
  case fin =>
    intro D' C s' ys ce
    obtain ⟨⟨pd, hpd, S'⟩, lp, hj⟩ := ce.j
    have W3 : LW D T m cm s' (List.replicate pd 10) (12 - pd) [] := by
      refine W2.mix X ce.kp (fun b hb => ?_) (by simpa [rstN] using S') lp
      simp only [List.singleton_append, List.mem_cons, List.not_mem_nil, or_false] at hb
      rcases hb with z | z | z
      · rw [z]; exact .inr ⟨I0.1, I0.2.1, I0.2.2.1, I0.2.2.2, fun o e => (dullI hit o e).2⟩
      · exact .inl (by simp [z])
      · exact .inl (by simp [z])
    have Dn := W2.none ce.nD
    have Cn := W2.none ce.nC
    have cne : ∀ {b : Addr}, ({ s with heap := s.heap.push { cls := .type "list_iterator", data := .fields #[.ref D.ln, .int 0 0] } } : Shared).heap.get? b = none → ∀ cc ∈ [D.L + 1, D.L + 2, D.L + 3, D.L + 4], b ≠ cc := fun {b} hb cc hcc q => by
      simp only [List.mem_cons, List.not_mem_nil, or_false] at hcc
      rcases hcc with z | z | z | z
      · obtain ⟨o, e1, _⟩ := W2.C.cell "lexer" (D.L + 1) rfl; rw [q, z] at hb; rw [hb] at e1; cases e1
      · obtain ⟨o, e1, _⟩ := W2.C.cell "words" (D.L + 2) rfl; rw [q, z] at hb; rw [hb] at e1; cases e1
      · obtain ⟨o, e1, _⟩ := W2.C.cell "across" (D.L + 3) rfl; rw [q, z] at hb; rw [hb] at e1; cases e1
      · obtain ⟨o, e1, _⟩ := W2.C.cell "line" (D.L + 4) rfl; rw [q, z] at hb; rw [hb] at e1; cases e1
    intro s₄ k4
    have W4 := W3.drop X ce.cn W2 ce.nC k4
    refine W4.stC X (cc := D.L + 2) rfl (by simp) (by decide) fun s₅ W5 sm5 => ?_
    have lD : LsAt s₅.heap D' ys := by
      obtain ⟨nn, e⟩ := ce.ls
      exact ⟨nn, (sm5 _ (cne ce.nD _ (by simp))).trans (k4.keep _ _ (fun q => ce.ne (List.mem_singleton.mp q)) e)⟩
    exact h s₅ _ D' ys pd W5 hpd ((if_neg (by decide)).trans hlx) (if_pos rfl) lD ⟨ce.len, hj⟩ (W2.notTL X Dn.2.1 Dn.2.2.1 Dn.2.2.2 (cne ce.nD))
end
end Mine
end
section
open PySem PySem.W PySem.Calls PyProof.Rows
set_option maxRecDepth 100000
set_option Elab.async false
set_option maxHeartbeats 4000000
set_option autoImplicit false
set_option linter.unusedVariables false
namespace Mine
theorem strs_at {vs : List Value} {ss : List Str} (hl : vs.length = ss.length) (h : ∀ (i : Nat) (z : Str), ss[i]? = some z → ∃ t, vs[i]? = some (Value.str z t)) : StrsAre vs ss := by
  induction vs generalizing ss with
  | nil => cases ss with
    | nil => exact .nil
    | cons _ _ => cases hl
  | cons v vs ih => cases ss with
    | nil => cases hl
    | cons z ss =>
      obtain ⟨t, e⟩ := h 0 z rfl
      cases e
      exact .cons z t (ih (by simpa using hl) fun i z hz => by simpa using h (i + 1) z (by simpa using hz))
theorem bl_ok (k : Nat) : PyData.strOk (bl k) = true := by
  unfold PyData.strOk bl
  rw [Array.all_eq_true]
  intro i hi
  simp
def wdl (ht : Nat → Nat) : List Str := (List.range 11).map fun i => bl (ht i)
theorem wdl_ok (ht : Nat → Nat) : ∀ x ∈ wdl ht, PyData.strOk x = true := fun x hx => by
  unfold wdl at hx
  obtain ⟨i, _, rfl⟩ := List.mem_map.mp hx
  exact bl_ok _
theorem wdl_are {ws : List Value} {ht : Nat → Nat} (hw : Wds ws ht) : StrsAre ws (wdl ht) := strs_at (by rw [hw.len]; simp [wdl]) fun i z hz => by
  have hi : i < 11 := by have := (List.getElem?_eq_some_iff.mp hz).1; simpa [wdl] using this
  obtain ⟨t, e⟩ := hw.at_ i hi
  refine ⟨t, ?_⟩
  rw [e]
  unfold wdl at hz
  rw [List.getElem?_map, List.getElem?_range hi] at hz
  cases hz
  rfl
def lamLW : Lam := match (dLaw.2.1[5]? : Option Stmt) with
  | some (Stmt.If (Expr.Compare _ _ [Expr.Call _ _ [k] _] _) _ _ _) => (match k.value with
    | Expr.Lambda a b sc _ => (a, b, sc)
    | _ => (⟨[], [], none, [], [], none, []⟩, .Constant .none 0 default, default))
  | _ => (⟨[], [], none, [], [], none, []⟩, .Constant .none 0 default, default)
section
variable {prog : Program} {w : World} {A : Around} {M : Model} {E : Value → Shared → Prop} {G : Heap} {mg mb : Str → Option Value} {d : Ads} {D : LD} {T : List Addr} {s s' : Shared} {m m' cm cm' : Str → Option Value} {cps cps' : List Nat} {lno lno' : Int} {pbv pbv' : List Value} {x : Str} {l wl : Addr} {nm : Str} {v : Value} {n : Nat} {R : Flow → Shared → Prop} {xs ws : List Value}
theorem LW.up {T₂ : List Addr} (W : LW D T m cm s cps lno pbv) (hl : l ∉ TL D) (x : LsAt D.sL.heap l xs) : LsAt s.heap l xs := x.offL fun o e => W.K _ _ hl e
theorem law_4 (X : LFx G mg mb d D) (W : LW D T m cm s cps lno pbv) (hwm : cm "words" = some (.ref wl)) (hwT : wl ∉ TL D) (hwl : LsAt D.sL.heap wl ws) (hw : Wds ws D.ht) (hr : Rm (n + 11) A)
    (h : ∀ s', LW D T m cm s' cps lno pbv → wpAny (model prog w) A (execs (dLaw.2.1.drop 5) (envW D)) R (fun _ _ => False) s') :
    wpAny (model prog w) A (execs (dLaw.2.1.drop 4) (envW D)) R (fun _ _ => False) s := by
  have hh := hr.2.2
  refine wpAny_execs_cons (wpAny_If (isTrue_or (wpAny_isTrue_Compare1 (ldC (c := D.L + 2) rfl (W.cw (nm := "words") rfl hwm) ?_))))
  refine compE (cl := []) ?main ?hclos ?hcell ?hkind ?hnames ?hx ?hs
  case hclos => rfl
  case hcell => decide +kernel
  case hkind => rfl
  case hnames => decide +kernel
  case hx => rfl
  case hs => intro _; rfl
  refine ldC (c := D.L + 4) rfl W.cline ?_
  refine W.compL X hh (W.line X) (by rw [X.X.len]; decide) (fun i ys => ∀ j, j < i → ∃ t, ys[j]? = some (Value.str (bl (D.ht j)) t)) (fun j hj => absurd hj (Nat.not_lt_zero j)) (fun C i v u m₁ ys hv Wu _ ns hm hyl hJ => ?_) (fun C D' ys s₂ W2 k2 hC nC nD hne lD hlen hJ => ?_)
  · have hi : i < 11 := by have := (List.getElem?_eq_some_iff.mp hv).1; rw [X.X.len] at this; exact this
    obtain ⟨t, et⟩ := X.X.at_ i hi
    rw [et] at hv; cases hv
    refine wpAny_BinOp (cStr fun _ _ => ldL ns hm ?_)
    rw [lit_sp]
    refine mulT (by decide) (by have := X.X.le i hi; omega) fun t' k => ⟨⟨fun _ _ _ e => e, rfl, id⟩, fun j hj => ?_⟩
    by_cases q : j < i
    · rw [List.getElem?_append_left (by omega)]; exact hJ j q
    · have : j = i := by omega
      subst this
      rw [List.getElem?_append_right (by omega), hyl, Nat.sub_self, one_flat, ← bl_tx]
      exact ⟨t', rfl⟩
  intro s₃ k3
  have W3 := W2.drop X hC W nC k3
  have lD3 : LsAt s₃.heap D' ys := lD.offL fun o e => k3.keep _ _ (fun q => hne (List.mem_singleton.mp q)) e
  have hys : Wds ys D.ht := ⟨hlen.trans X.X.len, fun i hi => hJ i (by rw [X.X.len]; exact hi)⟩
  refine neS (n := n + 4) (W3.up (T₂ := []) hwT hwl).isList lD3.isList (wdl_are hw) (wdl_are hys) (wdl_ok _) (wdl_ok _) hr (wpAny_truthy_bool ?_)
  rw [decide_eq_true rfl]
  refine isTrue_or (wpAny_isTrue_Compare1 ?_)
  refine compE (cl := []) ?main2 ?hclos2 ?hcell2 ?hkind2 ?hnames2 ?hx2 ?hs2
  case hclos2 => rfl
  case hcell2 => decide +kernel
  case hkind2 => rfl
  case hnames2 => decide +kernel
  case hx2 => rfl
  case hs2 => intro _; rfl
  refine ldC (c := D.L + 2) rfl (W3.cw (nm := "words") rfl hwm) ?_
  refine W3.compL X hh (W3.up (T₂ := []) hwT hwl) (by rw [hw.len]; decide) (fun i ys => ∀ j, j < i → ys[j]? = ws[j]?) (fun j hj => absurd hj (Nat.not_lt_zero j)) (fun C i v u m₁ ys hv Wu _ ns hm hyl hJ => ?_) (fun C D2 ys2 s₄ W4 k4 hC4 nC4 nD4 hne4 lD4 hlen4 hJ4 => ?_)
  · have gu := Wu.glo X
    obtain ⟨o, doc, pm, an, ct, r1, r2, r3⟩ := X.sg.SX.keeps (Wu.gs X)
    refine wpAny_Call_Name_kw (ldG (mg := mg) gu.g X.sg.mSX (cwP (o := o) (fd := fnX "_strxfrm" "_strxfrm" dSX.1 dSX.2.1 dSX.2.2 [] .none .none doc pm an d.cSX ct) (wpAny_items_cons (ldL ns hm (wpAny_items_nil ⟨⟨r1, r2⟩, wpAny_call ?_⟩)))))
    refine strxfrm_spec (n := n) ⟨o, doc, pm, an, ct, r1, r2, r3⟩ gu.lim (hr.less (by omega)) fun s₂ k₂ => ⟨k₂, fun j hj => ?_⟩
    by_cases q : j < i
    · rw [List.getElem?_append_left (by omega)]; exact hJ j q
    · have : j = i := by omega
      subst this
      rw [List.getElem?_append_right (by omega), hyl, Nat.sub_self]
      exact hv.symm
  intro s₅ k5
  have W5 := W4.drop X hC4 W3 nC4 k5
  have lD5 : LsAt s₅.heap D2 ys2 := lD4.offL fun o e => k5.keep _ _ (fun q => hne4 (List.mem_singleton.mp q)) e
  have hys2 : Wds ys2 D.ht := ⟨hlen4.trans hw.len, fun i hi => by rw [hJ4 i (by rw [hw.len]; exact hi)]; exact hw.at_ i hi⟩
  refine ldC (c := D.L + 2) rfl (W5.cw (nm := "words") rfl hwm) ?_
  refine neS (n := n + 4) lD5.isList (W5.up (T₂ := []) hwT hwl).isList (wdl_are hys2) (wdl_are hw) (wdl_ok _) (wdl_ok _) hr (wpAny_truthy_bool ?_)
  rw [decide_eq_true rfl]
  exact isTrue_or_nil (wpAny_execs_nil (h s₅ W5))

/-- a built-in function with keywords -/
theorem cwBk {env : Env} {p : Pos} {id : String} {e : Expr} {rest : List Expr} {kws : List Keyword} {first : List Value} {Q : Value → Shared → Prop}
    (h : wpAny (model prog w) A (spliced (backTo p (starEach (e :: rest) env))) (fun vs s₁ => wpAny (model prog w) A (evalAll ((backToKw p (keywordEach kws env)).map (·.2))) (fun ks s₂ => wpAny (model prog w) A (call (.builtin id) (first ++ vs) (((backToKw p (keywordEach kws env)).filterMap (·.1)).zip ks)) Q E s₂) E s₁) E s)
    (he : starEach (e :: rest) env = (false, eval e env) :: starEach rest env := by rfl) (hplain : (backTo p (starEach rest env)).any (·.1) = false := by rfl) (hall : (backToKw p (keywordEach kws env)).all (·.1.isSome) = true := by rfl) (hkw : (backToKw p (keywordEach kws env)).any (·.1.isNone) = false := by rfl) :
    wpAny (model prog w) A (callWith p (.builtin id) first (backTo p (starEach (e :: rest) env)) (backToKw p (keywordEach kws env))) Q E s := by
  rw [he] at h ⊢
  exact callWith_builtin_kwB (by show (false || (backTo p (starEach rest env)).any (·.1)) = false; rw [hplain]; rfl) hkw (evalArgs_kw hall h)
theorem lwKey {f c' cc ln : Addr} {lv : List Value} {ht : Nat → Nat} {i : Nat} {t : Tok} (hlim : s.heap.NoLimit) (hf : LamAt s.heap f qLW lamLW [("line", cc)] c') (hcw : s.heap.IsCell cc (some (.ref ln))) (hl : LsAt s.heap ln lv) (X : Lin lv ht) (hi : i < 11) :
    KeyOk prog w (n + 2) s (.ref f) (.int (i : Nat) t) fun r => ∃ u, r = .int (ht (Int.toNat (i : Nat)) : Int) u := by
  intro A s' Q hr k h
  refine wpAny_call (callE (n := n + 1) (binds := [("place", .int (i : Nat) t)]) (hf.keeps k.all) (hlim.keeps k.all) hr (fun _ _ => rfl) (fun L h₁ hL F₁ hr' => ?_) (by decide +kernel) (locs rfl))
  have I := Loc.start (tk := s'.toks + 1) F₁
  have old : ∀ b o, s.heap.get? b = some o → h₁.get? b = some o := fun b o e => I.old b o (k.all b o e)
  obtain ⟨tw, ew⟩ := X.at_ i hi
  refine Subscript_ (ldF (c := cc) rfl (hcw.keeps old) (ldL I.ns rfl ?_))
  refine lst_item (hl.keeps old).isList (by omega) (by omega) (by rw [Int.toNat_natCast]; simpa using ew) ?_
  exact h _ _ ⟨fun b o _ e => I.old b o e, rfl, id⟩ ⟨tw, by rw [Int.toNat_natCast]⟩
theorem sort_eq {key : Int → Int} {n : Nat} {vs ws : List Value} {zs ys : List Int} (a : SortOut key n vs zs) (b : SortOut key n ws ys) : zs = ys :=
  List.Perm.eq_of_pairwise (fun x y _ _ h1 h2 => by omega) a.ord b.ord (a.perm.trans b.perm.symm)
theorem law_5 (X : LFx G mg mb d D) (W : LW D [D.P1] m cm s cps lno pbv) (hwm : cm "words" = some (.ref wl)) (hwT : wl ∉ TL D) (hwl : LsAt D.sL.heap wl ws) (hw : Wds ws D.ht) (hr : Rm (n + 11) A)
    (h : ∀ s', LW D [D.P3, D.P2, D.P1] m cm s' cps lno pbv → wpAny (model prog w) A (execs (dLaw.2.1.drop 6) (envW D)) R (fun _ _ => False) s') :
    wpAny (model prog w) A (execs (dLaw.2.1.drop 5) (envW D)) R (fun _ _ => False) s := by
  have hh := hr.2.2
  have g1 := W.glo X
  have G1 := W.gs X
  obtain ⟨p12, p13, p14, p23, p24, p34⟩ := X.pp
  obtain ⟨o1, doc1, pm1, an1, ct1, a1, a2, a3⟩ := id X.sg.LH
  refine wpAny_execs_cons (wpAny_If (wpAny_isTrue_Compare1 (wpAny_Call_Name_kw (ldG (mg := mg) g1.g X.sg.mLH (cwP (o := o1) (fd := fnX "_law_by_height" "_law_by_height" dLH.1 dLH.2.1 dLH.2.2 [] .none .none doc1 pm1 an1 d.cLH ct1) ?_)))))
  refine wpAny_items_cons (ldC (c := D.L + 2) rfl (W.cw (nm := "words") rfl hwm) (wpAny_items_nil ⟨⟨G1 _ _ a1, a2⟩, wpAny_call ?_⟩))
  have T2 : Tab s.heap D.c2 D.P2 qLH := tab0 W.C.I.kp (fun x hx => X.tb x (W.hT x hx)) X.h2 (X.tb _ (by simp)) (by simpa using p12.symm)
  obtain ⟨ps2, eP2, _⟩ := T2.ex
  refine byHeight_spec (n := n) X.sg G1 (W.up (T₂ := []) hwT hwl) hw X.hc2 T2 (X.hP _ (by simp)) (hr.less (by omega)) fun s₂ r vs zs k2 nr lr so exP => ?_
  have W2 : LW D [D.P2, D.P1] m cm s₂ cps lno pbv := W.tab X k2 (by simp) exP
  have r0 := W.none nr
  have g2 := W2.glo X
  refine wpAny_Call_Name_kw (ldB (mg := mg) (mb := mb) g2.g (X.sg.no "sorted" (by decide)) g2.b (g2.name boot_sorted (by decide)) (cwBk ?_))
  refine wpAny_items_cons (wpAny_Call_Name_kw (ldB (mg := mg) (mb := mb) g2.g (X.sg.no "range" (by decide)) g2.b (g2.name boot_range (by decide)) (PyProof.Rows.callWith_type1 (wpAny_items_cons (cInt fun _ _ => wpAny_items_nil ?_)))))
  refine call_range_1 (wpAny_items_nil ?_)
  generalize hs3 : ({ heap := s₂.heap.push _, gens := s₂.gens, drawn := s₂.drawn, toks := _, os := s₂.os } : Shared) = s₃
  have k3 : Kp [] s₂ s₃ := by rw [← hs3]; exact Kp.push
  have W3 := W2.call k3
  have T3 : Tab s₃.heap D.c3 D.P3 qLW := tab0 W3.C.I.kp (fun x hx => X.tb x (W3.hT x hx)) X.h3 (X.tb _ (by simp)) (by simp only [List.mem_cons, List.not_mem_nil, or_false, not_or]; exact ⟨p23.symm, p13.symm⟩)
  have bi := X.sg.builtins (W3.gs X) (X.hP D.P3 (by simp))
  refine wpAny_evalAll_cons (wpAny_bind (mkLam (c := D.c3) (P := D.P3) (clos := [("line", D.L + 4)]) rfl rfl rfl (W3.glo X).g X.hc3 T3 bi.2 bi.1 fun f c' s₄ nf lf T3' k4 => wpAny_bind (wpAny_standAt (wpAny_pure (wpAny_evalAll_nil ?_)))))
  obtain ⟨ps3, eP3, _⟩ := T3'.ex
  have W4 : LW D [D.P3, D.P2, D.P1] m cm s₄ cps lno pbv := W3.tab X k4 (by simp) ⟨_, eP3⟩
  have hrP : r ≠ D.P3 := fun q => r0.2.2.2 (by rw [q]; simp)
  have lr4 : LsAt s₄.heap r vs := (lr.keeps k3.all).offL fun o e => k4.keep _ _ (fun q => hrP (List.mem_singleton.mp q)) e
  obtain ⟨u1, u2, u3, hRg⟩ : ∃ t u v, IsRange s₃.heap s₂.heap.objs.size 0 (11 : Nat) 1 t u v := by rw [← hs3]; exact ⟨_, _, _, IsRange.new _ _ _ _ _ _ _⟩
  have hszP : s₂.heap.objs.size ≠ D.P3 := fun q => by
    obtain ⟨ps, e⟩ := W2.exP D.P3 (by simp)
    rw [← q] at e
    exact absurd (Heap.lt_size e) (Nat.lt_irrefl _)
  have hRg4 : IsRange s₄.heap s₂.heap.objs.size 0 (11 : Nat) 1 u1 u2 u3 := k4.keep _ _ (fun q => hszP (List.mem_singleton.mp q)) hRg
  refine srt_sorted (n := 11) (m := n + 2) (key := fun z => (D.ht z.toNat : Int)) hRg4 (by decide) (by decide) (hr.less (by omega)) (fun i t hi => lwKey (n := n) (W4.glo X).lim lf W4.cline (W4.line X) X.X hi) fun s₅ D' out zs2 nD k5 lD so2 => ?_
  have W5 := W4.call k5
  have lr5 := lr4.keeps k5.all
  refine neI (n := n + 4) lr5.isList lD.isList so.isI so2.isI hr (wpAny_truthy_bool ?_)
  rw [sort_eq so so2, decide_eq_true rfl]
  exact wpAny_execs_nil (h s₅ W5)
end
end Mine
end
section
open PySem PySem.W PySem.Calls PyProof.Rows
set_option maxRecDepth 100000
set_option Elab.async false
set_option maxHeartbeats 4000000
set_option autoImplicit false
set_option linter.unusedVariables false
namespace Mine
/-- new to the law's state -/
def Nw (D : LD) (b : Addr) : Prop := D.s₀.heap.get? b = none ∧ D.sL.heap.get? b = none ∧ b ≠ D.L ∧ b ∉ TP D
section
variable {prog : Program} {w : World} {A : Around} {M : Model} {E : Value → Shared → Prop} {G : Heap} {mg mb : Str → Option Value} {d : Ads} {D : LD} {T : List Addr} {s s' : Shared} {m m' cm cm' : Str → Option Value} {cps cps' : List Nat} {lno lno' : Int} {pbv pbv' : List Value} {x : Str} {l wl : Addr} {nm : Str} {v : Value} {n : Nat} {R : Flow → Shared → Prop} {xs ws : List Value}

theorem law_6 (X : LFx G mg mb d D) (W : LW D T m cm s cps lno pbv) (hr : Rm (n + 11) A)
    (h : ∀ s' m' ro du, LW D T m' cm s' cps lno pbv → m' "row" = some (.ref ro) → m' "due" = some (.ref du) → m' "left" = m "left" → LsAt s'.heap ro [] → LsAt s'.heap du [] → Nw D ro → Nw D du → ro ≠ du → wpAny (model prog w) A (execs (dLaw.2.1.drop 7) (envW D)) R (fun _ _ => False) s') :
    wpAny (model prog w) A (execs (dLaw.2.1.drop 6) (envW D)) R (fun _ _ => False) s := by
  have hh := hr.2.2
  refine wpAny_execs_cons ?_
  refine Assign_Tuple_swapped (names := ["row", "due"]) ?main ?hs ?hw
  case hs => rfl
  case hw => rfl
  refine wpAny_Tuple_spliced ?_
  refine wpAny_items_cons ?_
  refine newL ?_
  refine wpAny_items_nil ⟨by rw [sizeLine_eq]; simp, fun s₂ ro n2 l2 k2 => ?_⟩
  refine wpAny_items_cons (newL (wpAny_items_nil ⟨by rw [sizeLine_eq]; simp, fun s₃ du n3 l3 k3 => ?_⟩))
  refine wpAny_items_nil ⟨by rw [sizeLine_eq]; simp, ?_⟩
  have W2 := W.call k2
  have W3 := W2.call k3
  have N2 := W.none n2
  have N3 := W2.none n3
  have hne : du ≠ ro := let ⟨nn, e⟩ := l2; ne_of_none n3 e
  have k4 : Kp [] s₃ { s₃ with heap := s₃.heap.push { cls := .type "tuple", data := .seq [Value.ref ro, Value.ref du].toArray } } := Kp.push (tk := s₃.toks)
  have ht : IsTup (s₃.heap.push { cls := .type "tuple", data := .seq [Value.ref ro, Value.ref du].toArray }) s₃.heap.objs.size [Value.ref ro, Value.ref du].toArray := ⟨_, Heap.get?_push_size _ rfl, rfl, _, rfl⟩
  refine unpackItems_tuple (items := [Value.ref ro, Value.ref du].toArray) (s := { s₃ with heap := s₃.heap.push { cls := .type "tuple", data := .seq [Value.ref ro, Value.ref du].toArray } }) hh ht fun h' he => ?_
  have k5 : Kp [] s₃ { s₃ with heap := h' } := ⟨fun b o _ e => he b o (Nat.ne_of_lt (Heap.lt_size (k4.all _ _ e))) (k4.all _ _ e), rfl, id⟩
  have W5 := W3.call k5
  refine assignInOrder_cons (bindName_ (W5.st X fun s₆ W6 sm6 => ?_))
  refine assignInOrder_cons (bindName_ (W6.st X fun s₇ W7 sm7 => ?_))
  refine assignInOrder_nil ?_
  refine h s₇ _ ro du W7 ?_ ?_ ((if_neg (by decide)).trans (if_neg (by decide))) ((((l2.keeps k3.all).keeps k5.all).of_eq (sm6 _ N2.2.2.1)).of_eq (sm7 _ N2.2.2.1)) (((l3.keeps k5.all).of_eq (sm6 _ N3.2.2.1)).of_eq (sm7 _ N3.2.2.1)) N2 N3 hne.symm
  · rfl
  · rfl

/-- max(x) < 0 or min(x) > 0 -/
theorem mmIf {p1 p2 p3 p4 p5 q1 q2 q3 q4 q5 pos : Pos} {k1 k2 : Nat} {whole : Sem Value} {vs : List Value} {ns : List Int} {Q : Bool → Shared → Prop} (X : LFx G mg mb d D) (W : LW D T m cm s cps lno pbv) (hh : A.handled = none)
    (hx : (envW D).kindOf nm = some .local) (hd : (nm == ("__debug__" : Str)) = false) (hm : m nm = some (.ref l)) (hl : LsAt s.heap l vs) (hi : IntsAre vs ns) (hne : 0 < ns.length)
    (h : ∀ s' b, Kp [] s s' → (b = true ↔ (∀ x ∈ ns, x < 0) ∨ (∀ x ∈ ns, 0 < x)) → Q b s') :
    wpAny (model prog w) A (isTrue (.BoolOp .Or [.Compare (.Call (.Name "max" p1) [.Name nm p2] [] p3) [.Lt] [.Constant (.int 0) k1 p4] p5, .Compare (.Call (.Name "min" q1) [.Name nm q2] [] q3) [.Gt] [.Constant (.int 0) k2 q4] q5] pos) (envW D) whole) Q E s := by
  have g1 := W.glo X
  refine isTrue_or (wpAny_isTrue_Compare1 (wpAny_Call_Name_kw (ldB (mg := mg) (mb := mb) g1.g (X.sg.no "max" (by decide)) g1.b (g1.name boot_max (by decide)) (cwB (wpAny_items_cons (ldL W.C.I.ns hm (wpAny_items_nil ?_) rfl hx hd))))))
  refine maxL hh hl.isList hi hne fun s₂ Mx t k2 hM hMx => ?_
  refine wpAny_Constant_int (lt_int (wpAny_truthy_bool ?_))
  by_cases q : Mx < 0
  · rw [decide_eq_true q]
    exact h _ true ⟨fun b o _ e => k2.all b o e, k2.os, k2.gens⟩ ⟨fun _ => .inl (fun x hx => by have := hMx x hx; omega), fun _ => rfl⟩
  · rw [decide_eq_false q]
    have W2 := W.call k2
    have g2 := W2.glo X
    refine isTrue_or (wpAny_isTrue_Compare1 (wpAny_Call_Name_kw (ldB (mg := mg) (mb := mb) g2.g (X.sg.no "min" (by decide)) g2.b (g2.name boot_min (by decide)) (cwB (wpAny_items_cons (ldL W2.C.I.ns hm (wpAny_items_nil ?_) rfl hx hd))))))
    refine minL hh (hl.keeps k2.all).isList hi hne fun s₃ Mn t k3 hN hMn => ?_
    refine wpAny_Constant_int (PyProof.Rows.gt_int (wpAny_truthy_bool ?_))
    have k : Kp [] s { s₃ with toks := s₃.toks + 1 } := ⟨fun b o _ e => k3.all b o (k2.all b o e), k3.os.trans k2.os, fun g => k3.gens (k2.gens g)⟩
    by_cases q2 : 0 < Mn
    · rw [decide_eq_true q2]
      exact h _ true k ⟨fun _ => .inr (fun x hx => by have := hMn x hx; omega), fun _ => rfl⟩
    · rw [decide_eq_false q2]
      refine isTrue_or_nil (h _ false k ⟨(fun q => by cases q), fun z => ?_⟩)
      rcases z with z | z
      · exact absurd (z _ hM) q
      · exact absurd (z _ hN) q2
end
def gapL (ht : Nat → Nat) (a : Nat) : List Int := (List.range (11 - a)).map (gpZ ht a)
def sgnL (ht : Nat → Nat) (a : Nat) : List Int := (List.range (11 - a)).map (sgZ ht a)
theorem gaps_are {gv : List Value} {ht : Nat → Nat} {a : Nat} (g : Gps gv ht a) : IntsAre gv (gapL ht a) := ints_at (by rw [g.len]; simp [gapL]) fun i z hz => by
  have hi : i < 11 - a := by have := (List.getElem?_eq_some_iff.mp hz).1; simpa [gapL] using this
  obtain ⟨t, e⟩ := g.at_ i hi
  refine ⟨t, ?_⟩
  rw [e]
  unfold gapL at hz
  rw [List.getElem?_map, List.getElem?_range hi] at hz
  cases hz
  rfl
/-- the signs' list -/
structure Sgs (sv : List Value) (ht : Nat → Nat) (a : Nat) : Prop where
  len : sv.length = 11 - a
  at_ : ∀ k, k < 11 - a → ∃ t, sv[k]? = some (.int (sgZ ht a k) t)
theorem sgns_are {gv : List Value} {ht : Nat → Nat} {a : Nat} (g : Sgs gv ht a) : IntsAre gv (sgnL ht a) := ints_at (by rw [g.len]; simp [sgnL]) fun i z hz => by
  have hi : i < 11 - a := by have := (List.getElem?_eq_some_iff.mp hz).1; simpa [sgnL] using this
  obtain ⟨t, e⟩ := g.at_ i hi
  refine ⟨t, ?_⟩
  rw [e]
  unfold sgnL at hz
  rw [List.getElem?_map, List.getElem?_range hi] at hz
  cases hz
  rfl
/-- no chord -/
def ncB (ht : Nat → Nat) (a : Nat) : Bool := (gapL ht a).all (fun x => decide (x < 0)) || (gapL ht a).all (fun x => decide (0 < x))
theorem ncB_gap (ht : Nat → Nat) (a : Nat) : ((∀ x ∈ gapL ht a, x < 0) ∨ (∀ x ∈ gapL ht a, 0 < x)) ↔ ncB ht a = true := by
  unfold ncB
  simp [List.all_eq_true]
theorem ncB_sgn (ht : Nat → Nat) (a : Nat) : ((∀ x ∈ sgnL ht a, x < 0) ∨ (∀ x ∈ sgnL ht a, 0 < x)) ↔ ncB ht a = true := by
  rw [← ncB_gap]
  unfold gapL sgnL
  simp only [List.mem_map, List.mem_range, forall_exists_index, and_imp, forall_apply_eq_imp_iff₂]
  have e1 : ∀ k, (sgZ ht a k < 0 ↔ gpZ ht a k < 0) ∧ (0 < sgZ ht a k ↔ 0 < gpZ ht a k) := fun k => by
    rcases sgZ_cases ht a k with ⟨e, g⟩ | ⟨e, g⟩ | ⟨e, g⟩ <;> rw [e] <;> constructor <;> constructor <;> intro h <;> omega
  constructor
  · rintro (h | h)
    · exact .inl fun k hk => (e1 k).1.mp (h k hk)
    · exact .inr fun k hk => (e1 k).2.mp (h k hk)
  · rintro (h | h)
    · exact .inl fun k hk => (e1 k).1.mpr (h k hk)
    · exact .inr fun k hk => (e1 k).2.mpr (h k hk)
end Mine
end
section
open PySem PySem.W PySem.Calls PyProof.Rows
set_option maxRecDepth 100000
set_option Elab.async false
set_option maxHeartbeats 4000000
set_option autoImplicit false
set_option linter.unusedVariables false
namespace Mine
def dLwB : List Stmt := match (dLaw.2.1[7]? : Option Stmt) with
  | some (Stmt.For _ _ b _ _) => b
  | _ => []
/-- all but Z stands -/
def KX (Z : List Addr) (s s' : Shared) : Prop := ∀ b o, b ∉ Z → s.heap.get? b = some o → s'.heap.get? b = some o
theorem KX.trans {Z : List Addr} {s s' s'' : Shared} (h : KX Z s s') (h' : KX Z s' s'') : KX Z s s'' := fun b o n e => h' b o n (h b o n e)
theorem KX.of {Z T : List Addr} {s s' : Shared} (k : ∀ b o, b ∉ T → s.heap.get? b = some o → s'.heap.get? b = some o) (h : ∀ b ∈ T, b ∈ Z) : KX Z s s' := fun b o n e => k b o (fun q => n (h b q)) e
theorem KX.ls {Z : List Addr} {l : Addr} {xs : List Value} {s s' : Shared} (k : KX Z s s') (h : l ∉ Z) (x : LsAt s.heap l xs) : LsAt s'.heap l xs := let ⟨n, e⟩ := x; ⟨n, k _ _ h e⟩
def rpL (ht : Nat → Nat) (a : Nat) : List Str := (List.range (11 - a)).map fun k => Str.ofString (toString (sgZ ht a k))
theorem rp_ok (ht : Nat → Nat) (a : Nat) : ∀ x ∈ rpL ht a, PyData.strOk x = true := fun x hx => by
  unfold rpL at hx
  obtain ⟨i, _, rfl⟩ := List.mem_map.mp hx
  rcases sgZ_cases ht a i with ⟨e, _⟩ | ⟨e, _⟩ | ⟨e, _⟩ <;> rw [e] <;> decide +kernel
theorem rp_are {ys : List Value} {ht : Nat → Nat} {a : Nat} (hl : ys.length = 11 - a) (h : ∀ j, j < 11 - a → ∃ t, ys[j]? = some (Value.str (Str.ofString (toString (sgZ ht a j))) t)) : StrsAre ys (rpL ht a) := strs_at (by rw [hl]; simp [rpL]) fun i z hz => by
  have hi : i < 11 - a := by have := (List.getElem?_eq_some_iff.mp hz).1; simpa [rpL] using this
  obtain ⟨t, e⟩ := h i hi
  refine ⟨t, ?_⟩
  rw [e]
  unfold rpL at hz
  rw [List.getElem?_map, List.getElem?_range hi] at hz
  cases hz
  rfl
section
variable {prog : Program} {w : World} {A : Around} {M : Model} {E : Value → Shared → Prop} {G : Heap} {mg mb : Str → Option Value} {d : Ads} {D : LD} {T : List Addr} {s s' : Shared} {m m' cm cm' : Str → Option Value} {cps cps' : List Nat} {lno lno' : Int} {pbv pbv' : List Value} {x : Str} {l wl gl sl ro du : Addr} {nm : Str} {v : Value} {n a : Nat} {R : Flow → Shared → Prop} {xs ws gv sv : List Value} {tx : Tok}
theorem max2 {a b : Int} {t u : Tok} {Q : Value → Shared → Prop} (hh : A.handled = none) (h : ∀ v s', Kp [] s s' → Q (.int (if a < b then b else a) v) s') : wpAny (model prog w) A (call (.builtin "max") [.int a t, .int b u]) Q E s := by
  refine max_two_ints hh fun h' tk k => ?_
  by_cases q : a < b
  · rw [if_pos q]; have := h u ⟨h', s.gens, s.drawn, tk, s.os⟩ ⟨fun c o _ e => k c o e, rfl, id⟩; rw [if_pos q] at this; exact this
  · rw [if_neg q]; have := h t ⟨h', s.gens, s.drawn, tk, s.os⟩ ⟨fun c o _ e => k c o e, rfl, id⟩; rw [if_neg q] at this; exact this

theorem law_gaps (X : LFx G mg mb d D) (W : LW D T m cm s cps lno pbv) (hcx : cm "across" = some (.int (a : Nat) tx)) (ha : 1 ≤ a) (ha2 : a ≤ 10) (hr : Rm (n + 11) A)
    (h : ∀ s' gl gv, LW D T (upd m "gaps" (.ref gl)) cm s' cps lno pbv → LsAt s'.heap gl gv → Gps gv D.ht a → s.heap.get? gl = none → Nw D gl → KX [D.L] s s' → wpAny (model prog w) A (execs (dLwB.drop 1) (envW D)) R (fun _ _ => False) s') :
    wpAny (model prog w) A (execs dLwB (envW D)) R (fun _ _ => False) s := by
  have hh := hr.2.2
  have g1 := W.glo X
  have e11 : (11 : Int) - (a : Nat) = ((11 - a : Nat) : Int) := by omega
  refine compA (cl := [("line", D.L + 4), ("across", D.L + 3)]) ?main ?hsw ?hclos ?hcell ?hkind ?hnames ?hx ?hs
  case hsw => with_unfolding_all rfl
  case hclos => rfl
  case hcell => decide +kernel
  case hkind => rfl
  case hnames => decide +kernel
  case hx => rfl
  case hs => intro _; rfl
  refine wpAny_Call_Name_kw (ldB (mg := mg) (mb := mb) g1.g (X.sg.no "range" (by decide)) g1.b (g1.name boot_range (by decide)) ?_)
  refine PyProof.Rows.callWith_type1 (wpAny_items_cons (wpAny_BinOp (cInt fun _ _ => ldC (c := D.L + 3) rfl (W.cw (nm := "across") rfl hcx) (sub_int (wpAny_items_nil ?_)))))
  rw [e11]
  refine W.tok.compR X hh (by omega) (fun i ys => ∀ j, j < i → ∃ t, ys[j]? = some (Value.int (gpZ D.ht a j) t)) (fun j hj => absurd hj (Nat.not_lt_zero j)) (fun C i t u m₁ ys hi Wu ku ns hm hyl hJ => ?_) (fun C D' ys s₂ W2 k2 hC nC nD hne lD hlen hJ => ?_)
  · obtain ⟨t1, q1⟩ := X.X.at_ (i + a) (by omega)
    obtain ⟨t2, q2⟩ := X.X.at_ i (by omega)
    have e1 : ((i : Nat) : Int) + (a : Nat) = ((i + a : Nat) : Int) := by omega
    refine wpAny_BinOp (Subscript_ (ldC (c := D.L + 4) rfl Wu.cline (wpAny_BinOp (ldL ns hm (ldC (c := D.L + 3) rfl (Wu.cw (nm := "across") rfl hcx) (add_int ?_))))))
    rw [e1]
    refine lst_item (k := ((i + a : Nat) : Int)) (x := .int (D.ht (i + a) : Nat) t1) (Wu.line X).isList (by omega) (by omega) (by rw [Int.toNat_natCast]; simpa using q1) ?_
    refine Subscript_ (ldC (c := D.L + 4) rfl Wu.cline (ldL ns hm ?_))
    refine lst_item (k := ((i : Nat) : Int)) (x := .int (D.ht i : Nat) t2) (Wu.line X).isList (by omega) (by omega) (by rw [Int.toNat_natCast]; simpa using q2) ?_
    refine sub_int ⟨⟨fun _ _ _ e => e, rfl, id⟩, fun j hj => ?_⟩
    by_cases q : j < i
    · rw [List.getElem?_append_left (by omega)]; exact hJ j q
    · have : j = i := by omega
      subst this
      rw [List.getElem?_append_right (by omega), hyl, Nat.sub_self]
      exact ⟨_, rfl⟩
  · have Nn := W.none nD
    have Cn := W.none nC
    refine W2.st X fun s₄ W4 sm4 => ⟨fun m₁ ns => ns.at' fun o e => (sm4 _ Cn.2.2.1).trans e, fun s₅ k5 => ?_⟩
    obtain ⟨m₁, ns⟩ := hC
    have W5 := W4.drop X ⟨m₁, ns.at' fun o e => (sm4 _ Cn.2.2.1).trans e⟩ W nC k5
    refine h s₅ D' ys W5 ?_ ⟨hlen, hJ⟩ nD Nn ?_
    · obtain ⟨nn, e⟩ := lD
      exact ⟨nn, k5.keep _ _ (fun q => hne (List.mem_singleton.mp q)) ((sm4 _ Nn.2.2.1).trans e)⟩
    · intro b o nb e
      simp only [List.mem_cons, List.not_mem_nil, or_false] at nb
      exact k5.keep _ _ (fun q => by have e' : s.heap.get? b = some o := e; rw [List.mem_singleton.mp q] at e'; rw [nC] at e'; cases e') ((sm4 _ nb).trans (k2 b o e))

theorem law_sides (X : LFx G mg mb d D) (W : LW D T m cm s cps lno pbv) (hcx : cm "across" = some (.int (a : Nat) tx)) (hwm : cm "words" = some (.ref wl)) (hwT : wl ∉ TL D) (hwl : LsAt D.sL.heap wl ws) (hw : Wds ws D.ht) (ha : 1 ≤ a) (ha2 : a ≤ 10) (hr : Rm (n + 11) A)
    (h : ∀ s' sl sv, LW D T (upd m "sides" (.ref sl)) cm s' cps lno pbv → LsAt s'.heap sl sv → Sgs sv D.ht a → s.heap.get? sl = none → Nw D sl → KX [D.L] s s' → wpAny (model prog w) A (execs (dLwB.drop 2) (envW D)) R (fun _ _ => False) s') :
    wpAny (model prog w) A (execs (dLwB.drop 1) (envW D)) R (fun _ _ => False) s := by
  have hh := hr.2.2
  have g1 := W.glo X
  have e11 : (11 : Int) - (a : Nat) = ((11 - a : Nat) : Int) := by omega
  refine compA (cl := [("words", D.L + 2), ("across", D.L + 3)]) ?main ?hsw ?hclos ?hcell ?hkind ?hnames ?hx ?hs
  case hsw => with_unfolding_all rfl
  case hclos => rfl
  case hcell => decide +kernel
  case hkind => rfl
  case hnames => decide +kernel
  case hx => rfl
  case hs => intro _; rfl
  refine wpAny_Call_Name_kw (ldB (mg := mg) (mb := mb) g1.g (X.sg.no "range" (by decide)) g1.b (g1.name boot_range (by decide)) ?_)
  refine PyProof.Rows.callWith_type1 (wpAny_items_cons (wpAny_BinOp (cInt fun _ _ => ldC (c := D.L + 3) rfl (W.cw (nm := "across") rfl hcx) (sub_int (wpAny_items_nil ?_)))))
  rw [e11]
  refine W.tok.compR X hh (by omega) (fun i ys => ∀ j, j < i → ∃ t, ys[j]? = some (Value.int (sgZ D.ht a j) t)) (fun j hj => absurd hj (Nat.not_lt_zero j)) (fun C i t u m₁ ys hi Wu ku ns hm hyl hJ => ?_) (fun C D' ys s₂ W2 k2 hC nC nD hne lD hlen hJ => ?_)
  · obtain ⟨t1, q1⟩ := hw.at_ (i + a) (by omega)
    obtain ⟨t2, q2⟩ := hw.at_ i (by omega)
    have e1 : ((i : Nat) : Int) + (a : Nat) = ((i + a : Nat) : Int) := by omega
    have gu := Wu.glo X
    have lw := Wu.up (T₂ := []) hwT hwl
    obtain ⟨o, doc, pm, an, ct, r1, r2, r3⟩ := X.sg.SC.keeps (Wu.gs X)
    refine wpAny_Call_Name_kw (ldG (mg := mg) gu.g X.sg.mSC (cwP (o := o) (fd := fnX "_strcoll" "_strcoll" dSC.1 dSC.2.1 dSC.2.2 [] .none .none doc pm an d.cSC ct) ?_))
    refine wpAny_items_cons (Subscript_ ?_)
    refine ldC (c := D.L + 2) rfl (Wu.cw (nm := "words") rfl hwm) ?_
    refine wpAny_BinOp ?_
    refine ldL ns hm ?_
    refine ldC (c := D.L + 3) rfl (Wu.cw (nm := "across") rfl hcx) ?_
    refine add_int ?_
    rw [e1]
    refine lst_item (k := ((i + a : Nat) : Int)) (x := .str (bl (D.ht (i + a))) t1) lw.isList (by omega) (by omega) (by rw [Int.toNat_natCast]; simpa using q1) ?_
    refine wpAny_items_cons (Subscript_ (ldC (c := D.L + 2) rfl (Wu.cw (nm := "words") rfl hwm) (ldL ns hm ?_)))
    refine lst_item (k := ((i : Nat) : Int)) (x := .str (bl (D.ht i)) t2) lw.isList (by omega) (by omega) (by rw [Int.toNat_natCast]; simpa using q2) ?_
    refine wpAny_items_nil ⟨⟨r1, r2⟩, wpAny_call ?_⟩
    refine strcoll_spec (n := n) ⟨o, doc, pm, an, ct, r1, r2, r3⟩ gu.lim (hr.less (by omega)) fun s'' tk k'' => ?_
    rw [bl_lt, bl_lt]
    refine ⟨⟨fun b o _ e => k''.all b o e, k''.os, k''.gens⟩, fun j hj => ?_⟩
    by_cases q : j < i
    · rw [List.getElem?_append_left (by omega)]; exact hJ j q
    · have : j = i := by omega
      subst this
      rw [List.getElem?_append_right (by omega), hyl, Nat.sub_self]
      exact ⟨tk, rfl⟩
  · have Nn := W.none nD
    have Cn := W.none nC
    refine W2.st X fun s₄ W4 sm4 => ⟨fun m₁ ns => ns.at' fun o e => (sm4 _ Cn.2.2.1).trans e, fun s₅ k5 => ?_⟩
    obtain ⟨m₁, ns⟩ := hC
    have W5 := W4.drop X ⟨m₁, ns.at' fun o e => (sm4 _ Cn.2.2.1).trans e⟩ W nC k5
    refine h s₅ D' ys W5 ?_ ⟨hlen, hJ⟩ nD Nn ?_
    · obtain ⟨nn, e⟩ := lD
      exact ⟨nn, k5.keep _ _ (fun q => hne (List.mem_singleton.mp q)) ((sm4 _ Nn.2.2.1).trans e)⟩
    · intro b o nb e
      simp only [List.mem_cons, List.not_mem_nil, or_false] at nb
      exact k5.keep _ _ (fun q => by have e' : s.heap.get? b = some o := e; rw [List.mem_singleton.mp q] at e'; rw [nC] at e'; cases e') ((sm4 _ nb).trans (k2 b o e))

theorem law_repr (X : LFx G mg mb d D) (W : LW D T m cm s cps lno pbv) (hgm : m "gaps" = some (.ref gl)) (hsm : m "sides" = some (.ref sl)) (lg : LsAt s.heap gl gv) (ls : LsAt s.heap sl sv) (hg : Gps gv D.ht a) (hs : Sgs sv D.ht a) (hr : Rm (n + 11) A)
    (h : ∀ s', LW D T m cm s' cps lno pbv → KX [D.L] s s' → wpAny (model prog w) A (execs (dLwB.drop 3) (envW D)) R (fun _ _ => False) s') :
    wpAny (model prog w) A (execs (dLwB.drop 2) (envW D)) R (fun _ _ => False) s := by
  have hh := hr.2.2
  have small : ∀ k, (sgZ D.ht a k).natAbs.log2 < 1920 := fun k => by
    rcases sgZ_cases D.ht a k with ⟨e, _⟩ | ⟨e, _⟩ | ⟨e, _⟩ <;> rw [e] <;> decide +kernel
  refine wpAny_execs_cons (wpAny_If (wpAny_isTrue_Compare1 ?_))
  refine compE (cl := []) ?main ?hclos ?hcell ?hkind ?hnames ?hx ?hs
  case hclos => rfl
  case hcell => decide +kernel
  case hkind => rfl
  case hnames => decide +kernel
  case hx => rfl
  case hs => intro _; rfl
  refine ldL W.C.I.ns hsm ?_
  refine W.compL X hh ls (by rw [hs.len]; omega) (fun i ys => ∀ j, j < i → ∃ t, ys[j]? = some (Value.str (Str.ofString (toString (sgZ D.ht a j))) t)) (fun j hj => absurd hj (Nat.not_lt_zero j)) (fun C i v u m₁ ys hv Wu _ ns hm hyl hJ => ?_) (fun C D' ys s₂ W2 k2 hC nC nD hne lD hlen hJ => ?_)
  · have hi : i < 11 - a := by have := (List.getElem?_eq_some_iff.mp hv).1; rw [hs.len] at this; exact this
    obtain ⟨t, et⟩ := hs.at_ i hi
    rw [et] at hv; cases hv
    have gu := Wu.glo X
    refine wpAny_Call_Name_kw (ldB (mg := mg) (mb := mb) gu.g (X.sg.no "repr" (by decide)) gu.b (gu.name boot_repr (by decide)) (cwB (wpAny_items_cons (ldL ns hm (wpAny_items_nil ?_)))))
    refine PySem.P.repr_of_int (small i) ⟨⟨fun _ _ _ e => e, rfl, id⟩, fun j hj => ?_⟩
    by_cases q : j < i
    · rw [List.getElem?_append_left (by omega)]; exact hJ j q
    · have : j = i := by omega
      subst this
      rw [List.getElem?_append_right (by omega), hyl, Nat.sub_self]
      exact ⟨_, rfl⟩
  intro s₃ k3
  have W3 := W2.drop X hC W nC k3
  have lD3 : LsAt s₃.heap D' ys := lD.offL fun o e => k3.keep _ _ (fun q => hne (List.mem_singleton.mp q)) e
  have up3 : ∀ b o, s.heap.get? b = some o → s₃.heap.get? b = some o := fun b o e => k3.keep _ _ (fun q => by rw [List.mem_singleton.mp q, nC] at e; cases e) (k2 b o e)
  refine compE (cl := []) ?main2 ?hclos2 ?hcell2 ?hkind2 ?hnames2 ?hx2 ?hs2
  case hclos2 => rfl
  case hcell2 => decide +kernel
  case hkind2 => rfl
  case hnames2 => decide +kernel
  case hx2 => rfl
  case hs2 => intro _; rfl
  refine ldL W3.C.I.ns hgm ?_
  refine W3.compL X hh (lg.keeps up3) (by rw [hg.len]; omega) (fun i ys => ∀ j, j < i → ∃ t, ys[j]? = some (Value.str (Str.ofString (toString (sgZ D.ht a j))) t)) (fun j hj => absurd hj (Nat.not_lt_zero j)) (fun C i v u m₁ ys hv Wu _ ns hm hyl hJ => ?_) (fun C2 D2 ys2 s₄ W4 k4 hC4 nC4 nD4 hne4 lD4 hlen4 hJ4 => ?_)
  · have hi : i < 11 - a := by have := (List.getElem?_eq_some_iff.mp hv).1; rw [hg.len] at this; exact this
    obtain ⟨t, et⟩ := hg.at_ i hi
    rw [et] at hv; cases hv
    have gu := Wu.glo X
    refine wpAny_Call_Name_kw (ldB (mg := mg) (mb := mb) gu.g (X.sg.no "repr" (by decide)) gu.b (gu.name boot_repr (by decide)) (cwB (wpAny_items_cons ?_)))
    refine wpAny_Call_Name_kw (ldB (mg := mg) (mb := mb) gu.g (X.sg.no "min" (by decide)) gu.b (gu.name boot_min (by decide)) (cwB (wpAny_items_cons (cInt fun _ _ => wpAny_items_cons ?_))))
    refine wpAny_Call_Name_kw (ldB (mg := mg) (mb := mb) gu.g (X.sg.no "max" (by decide)) gu.b (gu.name boot_max (by decide)) (cwB (wpAny_items_cons (wpAny_UnaryOp (cInt fun _ _ => PyProof.Rows.neg_int (wpAny_items_cons (ldL ns hm (wpAny_items_nil ?_))))))))
    refine max2 hh fun t6 s₆ k6 => wpAny_items_nil (min2 hh fun t7 s₇ k7 => wpAny_items_nil ?_)
    have ev : (if (if (-1 : Int) < gpZ D.ht a i then gpZ D.ht a i else -1) < 1 then (if (-1 : Int) < gpZ D.ht a i then gpZ D.ht a i else -1) else 1) = sgZ D.ht a i := by
      rcases sgZ_cases D.ht a i with ⟨e, g⟩ | ⟨e, g⟩ | ⟨e, g⟩ <;> rw [e] <;> (repeat' split) <;> omega
    rw [ev]
    refine PySem.P.repr_of_int (small i) ⟨⟨fun b o _ e => k7.all b o (k6.all b o e), k7.os.trans k6.os, fun g => k7.gens (k6.gens g)⟩, fun j hj => ?_⟩
    by_cases q : j < i
    · rw [List.getElem?_append_left (by omega)]; exact hJ j q
    · have : j = i := by omega
      subst this
      rw [List.getElem?_append_right (by omega), hyl, Nat.sub_self]
      exact ⟨_, rfl⟩
  intro s₅ k5
  have W5 := W4.drop X hC4 W3 nC4 k5
  have lD5 : LsAt s₅.heap D2 ys2 := lD4.offL fun o e => k5.keep _ _ (fun q => hne4 (List.mem_singleton.mp q)) e
  have up5 : ∀ b o, s₃.heap.get? b = some o → s₅.heap.get? b = some o := fun b o e => k5.keep _ _ (fun q => by rw [List.mem_singleton.mp q, nC4] at e; cases e) (k4 b o e)
  refine neS (n := n + 4) (lD3.keeps up5).isList lD5.isList (rp_are (hlen.trans hs.len) (fun j hj => hJ j (by rw [hs.len]; exact hj))) (rp_are (hlen4.trans hg.len) (fun j hj => hJ4 j (by rw [hg.len]; exact hj))) (rp_ok _ _) (rp_ok _ _) hr (wpAny_truthy_bool ?_)
  rw [decide_eq_true rfl]
  exact wpAny_execs_nil (h s₅ W5 (fun b o _ e => up5 b o (up3 b o e)))
end
end Mine
end
section
open PySem PySem.W PySem.Calls PyProof.Rows
set_option maxRecDepth 100000
set_option Elab.async false
set_option maxHeartbeats 4000000
set_option autoImplicit false
set_option linter.unusedVariables false
namespace Mine
theorem strs_get : ∀ {vs : List Value} {ss : List Str}, StrsAre vs ss → ∀ (i : Nat) (v : Value), vs[i]? = some v → ∃ x t, ss[i]? = some x ∧ v = .str x t
  | _, _, .nil, i, v, h => by simp at h
  | _, _, .cons y t r, 0, v, h => by cases h; exact ⟨y, t, rfl, rfl⟩
  | _, _, .cons y t r, i + 1, v, h => strs_get r i v (by simpa using h)
theorem strs_len : ∀ {vs : List Value} {ss : List Str}, StrsAre vs ss → vs.length = ss.length
  | _, _, .nil => rfl
  | _, _, .cons _ _ r => by rw [List.length_cons, List.length_cons, strs_len r]
section
variable {prog : Program} {w : World} {A : Around} {M : Model} {E : Value → Shared → Prop} {G : Heap} {mg mb : Str → Option Value} {d : Ads} {D : LD} {T : List Addr} {s s' : Shared} {m m' cm cm' : Str → Option Value} {cps cps' : List Nat} {lno lno' : Int} {pbv pbv' : List Value} {x : Str} {l wl gl sl ro du : Addr} {nm : Str} {v : Value} {n a : Nat} {R : Flow → Shared → Prop} {xs ws gv sv rv dv : List Value} {tx : Tok} {rs : List Str}
theorem Nw.ne_lx {b : Addr} (N : Nw D b) (X : LFx G mg mb d D) : ∀ y ∈ [D.a.dx, D.a.left, D.a.pb], b ≠ y := fun y hy q => by
  obtain ⟨_, ⟨o, e⟩, _⟩ := X.fr0 y hy
  rw [← q, N.2.1] at e; cases e
/-- ' ' * across -/
theorem blanks {p1 p2 p3 : Pos} {k : Nat} {Q : Value → Shared → Prop} (W : LW D T m cm s cps lno pbv) (hcx : cm "across" = some (.int (a : Nat) tx)) (ha2 : a ≤ 10) (h : ∀ t tk, Q (.str (bl a) t) { s with toks := tk }) :
    wpAny (model prog w) A (eval (.BinOp (.Constant (.str " ") k p1) .Mult (.Name "across" p2) p3) (envW D)) Q E s := by
  refine wpAny_BinOp (cStr fun _ _ => ldC (c := D.L + 3) rfl (W.cw (nm := "across") rfl hcx) ?_)
  rw [lit_sp]
  refine mulT (by decide) (by omega) fun t' k => ?_
  rw [one_flat, ← bl_tx]
  exact h t' k
theorem law_if1 (X : LFx G mg mb d D) (W : LW D T m cm s cps lno pbv) (hcx : cm "across" = some (.int (a : Nat) tx)) (hlx : cm "lexer" = some (.ref D.a.x)) (ha : 1 ≤ a) (ha2 : a ≤ 10) (hsm : m "sides" = some (.ref sl)) (ls : LsAt s.heap sl sv) (hs : Sgs sv D.ht a)
    (hro : m "row" = some (.ref ro)) (lro : LsAt s.heap ro rv) (Nr : Nw D ro) (hrv : StrsAre rv rs) (hgt : ∀ x ∈ rs, ∃ b, x = bl b ∧ a < b) (hrl : rv.length < 100) (hpl : pbv.length < 100) (hr : Rm (n + 11) A)
    (h : ∀ s' pbv' rv', LW D T m cm s' cps lno pbv' → LsAt s'.heap ro rv' → KX [ro, D.a.pb] s s' → (ncB D.ht a = true → (∃ t, rv' = .str (bl a) t :: rv) ∧ ∃ t, pbv' = pbv ++ [.str (bl a) t]) → (ncB D.ht a = false → rv' = rv ∧ pbv' = pbv) → wpAny (model prog w) A (execs (dLwB.drop 4) (envW D)) R (fun _ _ => False) s') :
    wpAny (model prog w) A (execs (dLwB.drop 3) (envW D)) R (fun _ _ => False) s := by
  have hh := hr.2.2
  refine wpAny_execs_cons (wpAny_If (mmIf X W hh rfl (by decide) hsm ls (sgns_are hs) (by simp [sgnL]; omega) fun s₂ b k2 hb => ?_))
  rw [ncB_sgn] at hb
  have W2 := W.call k2
  have q2 : KX [ro, D.a.pb] s s₂ := fun b o _ e => k2.all b o e
  cases hB : ncB D.ht a with
  | false =>
    have : b = false := by cases b with | false => rfl | true => rw [hb.mp rfl] at hB; cases hB
    subst this
    exact wpAny_execs_nil (h s₂ pbv rv W2 (lro.keeps k2.all) q2 (fun z => by rw [hB] at z; cases z) fun _ => ⟨rfl, rfl⟩)
  | true =>
    have : b = true := hb.mpr hB
    subst this
    have g2 := W2.glo X
    have G2 := W2.gs X
    obtain ⟨o1, doc1, pm1, an1, ct1, a1, a2, a3⟩ := id X.sg.IR
    refine wpAny_execs_cons (wpAny_Expr (wpAny_Call_Name_kw (ldG (mg := mg) g2.g X.sg.mIR (cwP (o := o1) (fd := fnX "insort_right" "insort_right" dIR.1 dIR.2.1 dIR.2.2 [] d.dIR d.kIR doc1 pm1 an1 d.cIR ct1) ?_))))
    refine wpAny_items_cons (ldL W2.C.I.ns hro (wpAny_items_cons (blanks W2 hcx ha2 fun t tk => wpAny_items_nil ⟨⟨G2 _ _ a1, a2⟩, wpAny_call ?_⟩)))
    have W3 : LW D T m cm { s₂ with toks := tk } cps lno pbv := W2.tok
    have l3 : LsAt ({ s₂ with toks := tk } : Shared).heap ro rv := lro.keeps k2.all
    refine insort_call (n := n) (s := { s₂ with toks := tk }) (c := fun _ => true) (kv := .none) (PX := fun v => ∃ t, v = .str (bl a) t) (X.sg.IR.keeps G2) (X.sg.DIR.keeps G2) (X.sg.BR.keeps G2) (X.sg.DBR.keeps G2) g2 (X.sg.no "len" (by decide)) X.sg.mBR (hr.less (by omega)) l3 (by omega)
      (.inl ⟨rfl, rfl, ⟨t, rfl⟩⟩) (fun xk hxk => .inl ⟨rfl, fun j v _ hj hv => ?_⟩) fun p s₄ k4 l4 hB4 => ?_
    · obtain ⟨u, rfl⟩ := hxk
      obtain ⟨y, ty, ey, rfl⟩ := strs_get hrv j v (by simpa using hv)
      obtain ⟨b, rfl, hab⟩ := hgt y (List.mem_of_getElem? ey)
      have := LtIs.str (prog := prog) (w := w) (bl a) (bl b) u ty
      rw [bl_lt, decide_eq_true hab] at this
      exact this
    · have hp0 : p = 0 := by
        rcases Nat.eq_zero_or_pos p with z | z
        · exact z
        · have := hB4.2.2.1 z; cases this
      subst hp0
      rw [List.take_zero, List.drop_zero, List.nil_append] at l4
      have W4 := W3.off X k4 Nr (dullL l3)
      have G4 := W4.gs X
      have cx4 := W4.cw (nm := "lexer") rfl hlx
      obtain ⟨x1, x2, x3, x4, t1, t2, t3, t4, t5, t6, nn, edx⟩ := W4.lx.dx
      obtain ⟨o5, doc5, pm5, an5, ct5, b1, b2, b3⟩ := X.sg.PT.keeps G4
      refine wpAny_execs_cons (wpAny_Expr (MethodCall_ (ldC (c := D.L + 1) rfl cx4 ?_)))
      refine methC (dx := D.a.dx) (f := d.fPT) (Frag.In.keeps X.sg.X G4) (by rw [X.hC]; exact X.sg.cls) (by rw [X.hC]; exact X.sg.kPT) X.sg.iPT (X.F _ W4.K).x edx rfl ?_
      refine cwP (o := o5) (fd := fnX "push_token" "_netrclex.push_token" dPT.1 dPT.2.1 dPT.2.2 [] .none .none doc5 pm5 an5 d.cPT ct5) ?_
      refine wpAny_items_cons (blanks W4 hcx ha2 fun t9 tk9 => wpAny_items_nil ⟨⟨b1, b2⟩, wpAny_call ?_⟩)
      have W5 : LW D T m cm { s₄ with toks := tk9 } cps lno pbv := W4.tok
      refine pushToken_spec (n := n) (s := { s₄ with toks := tk9 }) (W5.lx0 X) W5.pb (by omega) (hr.less (by omega)) fun s₆ k6 l6 => ?_
      have S6 : LxSt s₆.heap D.a cps lno := by
        obtain ⟨⟨x1, x2, x3, x4, t1, t2, t3, t4, t5, t6, n, edx⟩, vs, ⟨nl, el⟩, hc⟩ := W5.lx
        exact ⟨⟨x1, x2, x3, x4, t1, t2, t3, t4, t5, t6, n, k6.keep _ _ (fun q => X.ne.2.2 (List.mem_singleton.mp q).symm) edx⟩, vs, ⟨nl, k6.keep _ _ (fun q => X.ne.2.1 (List.mem_singleton.mp q).symm) el⟩, hc⟩
      have W6 := W5.lexd X k6 (fun b hb => by rw [List.mem_singleton.mp hb]; simp) S6 l6
      refine wpAny_execs_nil (?_)
      refine h s₆ _ _ W6 (l4.offL fun o e => k6.keep _ _ (fun q => Nr.ne_lx X D.a.pb (by simp) (List.mem_singleton.mp q)) e) ?_ (fun _ => ⟨⟨t, rfl⟩, t9, rfl⟩) (fun z => by rw [hB] at z; cases z)
      exact (q2.trans (KX.of (T := [ro]) k4.keep (by simp))).trans (KX.of (T := [D.a.pb]) k6.keep (by simp))
theorem law_if2 (X : LFx G mg mb d D) (W : LW D T m cm s cps lno pbv) (hcx : cm "across" = some (.int (a : Nat) tx)) (ha : 1 ≤ a) (ha2 : a ≤ 10) (hgm : m "gaps" = some (.ref gl)) (lg : LsAt s.heap gl gv) (hg : Gps gv D.ht a)
    (hdu : m "due" = some (.ref du)) (ldu : LsAt s.heap du dv) (Nd : Nw D du) (hdl : dv.length < 100) (hr : Rm (n + 11) A)
    (h : ∀ s' dv', LW D T m cm s' cps lno pbv → LsAt s'.heap du dv' → (∀ b o, b ≠ du → s.heap.get? b = some o → s'.heap.get? b = some o) → (ncB D.ht a = true → ∃ t, dv' = dv ++ [.str (bl a) t]) → (ncB D.ht a = false → dv' = dv) → wpAny (model prog w) A (execs (dLwB.drop 5) (envW D)) R (fun _ _ => False) s') :
    wpAny (model prog w) A (execs (dLwB.drop 4) (envW D)) R (fun _ _ => False) s := by
  have hh := hr.2.2
  refine wpAny_execs_cons (wpAny_If (mmIf X W hh rfl (by decide) hgm lg (gaps_are hg) (by simp [gapL]; omega) fun s₂ b k2 hb => ?_))
  rw [ncB_gap] at hb
  have W2 := W.call k2
  cases hB : ncB D.ht a with
  | false =>
    have : b = false := by cases b with | false => rfl | true => rw [hb.mp rfl] at hB; cases hB
    subst this
    exact wpAny_execs_nil (h s₂ dv W2 (ldu.keeps k2.all) (fun b o _ e => k2.all b o e) (fun z => by rw [hB] at z; cases z) fun _ => rfl)
  | true =>
    have : b = true := hb.mpr hB
    subst this
    have ld2 := ldu.keeps k2.all
    refine wpAny_execs_cons (wpAny_Expr (MethodCall_ (ldL W2.C.I.ns hdu (methL ld2 PySem.F.slot_list_append PySem.F.type_list_append ?_))))
    refine callWith_method1 (wpAny_items_cons (blanks W2 hcx ha2 fun t tk => wpAny_items_nil ?_))
    refine appL (s := { s₂ with toks := tk }) ld2 (by omega) fun s₃ l3 o3 => ?_
    have W3 := W2.tok.off X o3.kp Nd (dullL ld2)
    refine wpAny_execs_nil (?_)
    refine h s₃ _ W3 l3 (fun b o nb e => (o3.same _ nb).trans (k2.all b o e)) (fun _ => ⟨t, rfl⟩) (fun z => by rw [hB] at z; cases z)
theorem fmod10a {a : Nat} (ha : 1 ≤ a) (ha2 : a ≤ 10) : (∃ q, a * q = 10 ∧ ((10 : Int).fmod a == 0) = true) ∨ ((10 : Int).fmod a == 0) = false := by
  have : a = 1 ∨ a = 2 ∨ a = 3 ∨ a = 4 ∨ a = 5 ∨ a = 6 ∨ a = 7 ∨ a = 8 ∨ a = 9 ∨ a = 10 := by omega
  rcases this with rfl | rfl | rfl | rfl | rfl | rfl | rfl | rfl | rfl | rfl
  · exact .inl ⟨10, rfl, by decide⟩
  · exact .inl ⟨5, rfl, by decide⟩
  · exact .inr (by decide)
  · exact .inr (by decide)
  · exact .inl ⟨2, rfl, by decide⟩
  · exact .inr (by decide)
  · exact .inr (by decide)
  · exact .inr (by decide)
  · exact .inr (by decide)
  · exact .inl ⟨1, rfl, by decide⟩
theorem law_if3 (X : LFx G mg mb d D) (W : LW D T m cm s cps lno pbv) (hP4 : D.P4 ∈ T) (T4 : Tab s.heap D.c4 D.P4 qLC) (hcx : cm "across" = some (.int (a : Nat) tx)) (hwm : cm "words" = some (.ref wl)) (hwT : wl ∉ TL D) (hwl : LsAt D.sL.heap wl ws) (hw : Wds ws D.ht) (ha : 1 ≤ a) (ha2 : a ≤ 10) (hgm : m "gaps" = some (.ref gl)) (lg : LsAt s.heap gl gv) (hg : Gps gv D.ht a) (hr : Rm (n + 11) A)
    (h : ∀ s' m', LW D T m' cm s' cps lno pbv → Tab s'.heap D.c4 D.P4 qLC → (∀ nm : Str, nm ≠ ("right" : Str) → m' nm = m nm) → (∀ b o, b ∉ [D.L, D.P4] → s.heap.get? b = some o → s'.heap.get? b = some o) → R .next s') :
    wpAny (model prog w) A (execs (dLwB.drop 5) (envW D)) R (fun _ _ => False) s := by
  have hh := hr.2.2
  refine wpAny_execs_cons (wpAny_If (wpAny_isTrue_Compare1 (wpAny_BinOp (cInt fun _ _ => ldC (c := D.L + 3) rfl (W.cw (nm := "across") rfl hcx) (mod_int' (by omega) (cInt fun _ _ => PyProof.Rows.eq_int (wpAny_truthy_bool ?_)))))))
  rcases fmod10a ha ha2 with ⟨q, hq, hdv⟩ | hdv
  · rw [hdv]
    have g1 := W.glo X
    have G1 := W.gs X
    obtain ⟨o1, doc1, pm1, an1, ct1, a1, a2, a3⟩ := id X.sg.LC
    refine LW.wset (wpAny_Call_Name_kw (ldG (mg := mg) g1.g X.sg.mLC (cwP (o := o1) (fd := fnX "_law_crossed" "_law_crossed" dLC.1 dLC.2.1 dLC.2.2 [] .none .none doc1 pm1 an1 d.cLC ct1) ?_)))
    refine wpAny_items_cons (ldC (c := D.L + 2) rfl (W.cw (nm := "words") rfl hwm) (wpAny_items_cons (ldL W.C.I.ns hgm (wpAny_items_cons (ldC (c := D.L + 3) rfl (W.cw (nm := "across") rfl hcx) (wpAny_items_nil ⟨⟨G1 _ _ a1, a2⟩, wpAny_call ?_⟩))))))
    have lw : LsAt s.heap wl ws := W.up (T₂ := []) hwT hwl
    refine crossed_spec (n := n) (ht := D.ht) X.sg G1 (X.hP _ (by simp)) X.hc4 T4 hq X.X.back lw hw lg hg (hr.less (by omega)) fun s₂ r rv k2 T2 nr lr hne hall => ?_
    obtain ⟨ps, eP, _⟩ := T2.ex
    have N := W.none nr
    have W2 : LW D T m cm s₂ cps lno pbv := by
      have z := W.tab X (s' := s₂) ⟨k2.keep, k2.os, k2.gens⟩ (by simp) ⟨_, eP⟩
      exact ⟨⟨⟨z.C.I.ns, z.C.I.kp.mono fun b hb => (List.mem_cons.mp hb).elim (fun e => by rw [e]; exact hP4) id, z.C.I.above⟩, z.C.cell, z.C.apart, z.C.above⟩, W.hT, z.K, z.lx, z.pb, z.exP, z.lm⟩
    refine W2.st X fun s₃ W3 sm3 => ?_
    have l3 : LsAt s₃.heap r rv := lr.of_eq (sm3 _ N.2.2.1)
    have T3 : Tab s₃.heap D.c4 D.P4 qLC := T2.off sm3.keep fun b hb => by
      rw [List.mem_singleton.mp hb]
      refine ⟨fun q => ?_, Dull.ns W2.C.I.ns⟩
      have f := W2.C.I.fresh
      rw [q, X.tb _ (by simp)] at f; cases f
    refine wpAny_execs_cons (wpAny_If (isTrue_or (wpAny_isTrue_Compare1 (ldL W3.C.I.ns (if_pos rfl) (newL (wpAny_items_nil ⟨by rw [sizeLine_eq]; simp, fun s₄ e4 n4 l4 k4 => ?_⟩))))))
    refine eqNil (n := n + 4) (l3.keeps k4.all).isList l4.isList hne hr (wpAny_truthy_bool ?_)
    have W4 := W3.call k4
    refine isTrue_or (wpAny_isTrue_Compare1 (wpAny_Constant_bool (ldL W4.C.I.ns (if_pos rfl) ?_)))
    refine inTrue (l3.keeps k4.all).isList hall (wpAny_truthy_bool ?_)
    refine isTrue_or_nil (wpAny_execs_nil (wpAny_execs_nil (wpAny_execs_nil ?_)))
    refine h s₄ _ W4 (T3.keeps k4.all) (fun nm hn => if_neg hn) fun b o nb e => ?_
    simp only [List.mem_cons, List.not_mem_nil, or_false, not_or] at nb
    exact k4.all _ _ ((sm3 _ nb.1).trans (k2.keep _ _ (fun q => nb.2 (List.mem_singleton.mp q)) e))
  · rw [hdv]
    exact wpAny_execs_nil (wpAny_execs_nil (h _ m W.tok T4 (fun _ _ => rfl) fun b o _ e => e))
end
end Mine
end
section
open PySem PySem.W PySem.Calls PyProof.Rows
set_option maxRecDepth 100000
set_option Elab.async false
set_option maxHeartbeats 4000000
set_option autoImplicit false
set_option linter.unusedVariables false
namespace Mine
/-- the lengths that are no chords, down from ten, i of them looked at -/
def ncs (ht : Nat → Nat) (i : Nat) : List Nat := ((List.range i).map fun j => 10 - j).filter (ncB ht)
theorem ncs_succ (ht : Nat → Nat) (i : Nat) : ncs ht (i + 1) = ncs ht i ++ if ncB ht (10 - i) = true then [10 - i] else [] := by
  unfold ncs
  rw [List.range_succ, List.map_append, List.filter_append]
  congr 1
  simp only [List.map_cons, List.map_nil, List.filter_cons, List.filter_nil]
theorem ncs_mem {ht : Nat → Nat} {i b : Nat} (h : b ∈ ncs ht i) (hi : i ≤ 10) : 10 - i < b ∧ b ≤ 10 ∧ ncB ht b = true := by
  unfold ncs at h
  rw [List.mem_filter, List.mem_map] at h
  obtain ⟨⟨j, hj, rfl⟩, h2⟩ := h
  rw [List.mem_range] at hj
  exact ⟨by omega, by omega, h2⟩
theorem ncs_len (ht : Nat → Nat) (i : Nat) : (ncs ht i).length ≤ i := by
  unfold ncs
  refine Nat.le_trans (List.length_filter_le _ _) ?_
  simp
theorem strs_app : ∀ {vs ws : List Value} {ns ms : List Str}, StrsAre vs ns → StrsAre ws ms → StrsAre (vs ++ ws) (ns ++ ms)
  | _, _, _, _, .nil, h => h
  | _, _, _, _, .cons n t h, h' => .cons n t (strs_app h h')
inductive LoopJ (D : LD) (cps : List Nat) (lno : Int) (wl ro du it : Addr) (lfv : Option Value) (i : Nat) (s' : Shared) : Prop
  | mk (m cm : Str → Option Value) (pbv rv dv : List Value) (h1 : LW D [D.P4, D.P3, D.P2, D.P1] m cm s' cps lno pbv) (h2 : Tab s'.heap D.c4 D.P4 qLC) (h3 : cm "lexer" = some (.ref D.a.x)) (h4 : cm "words" = some (.ref wl)) (h5 : m "row" = some (.ref ro)) (h6 : m "due" = some (.ref du) ∧ m "left" = lfv)
    (h7 : LsAt s'.heap ro rv) (h8 : LsAt s'.heap du dv) (h9 : StrsAre rv ((ncs D.ht i).reverse.map bl)) (h10 : StrsAre dv ((ncs D.ht i).map bl)) (h11 : StrsAre pbv ((ncs D.ht i).map bl)) (h12 : IsRangeIter s'.heap it (10 + i * (-1)) ((10 : Nat) - i) (-1)) (h13 : i ≤ 10) : LoopJ D cps lno wl ro du it lfv i s'
section
variable {prog : Program} {w : World} {A : Around} {M : Model} {E : Value → Shared → Prop} {G : Heap} {mg mb : Str → Option Value} {d : Ads} {D : LD} {T : List Addr} {s s' : Shared} {m m' cm cm' : Str → Option Value} {cps cps' : List Nat} {lno lno' : Int} {pbv pbv' : List Value} {x : Str} {l wl gl sl ro du : Addr} {nm : Str} {v : Value} {n a : Nat} {R : Flow → Shared → Prop} {xs ws gv sv rv dv : List Value} {tx : Tok} {rs : List Str}
/-- range(10, 0, -1), and its iterator -/
theorem rangeIt3 {t u v : Tok} {K : Value → Shared → Prop} (h : ∀ it s', s.heap.get? it = none → IsRangeIter s'.heap it 10 10 (-1) → Kp [] s s' → K (.ref it) s') :
    wpAny (model prog w) A (call (.type "range") [.int 10 t, .int 0 u, .int (-1) v]) (fun x s₁ => wpAny (model prog w) A (pyIter x) K E s₁) E s := by
  refine call_range_3 (by decide) (wpAny_pyIter_range (IsRange.new _ _ _ _ _ _ _) (by decide +kernel) ?_)
  have e : Builtin.Range.rangeSize 10 0 (-1) = 10 := by decide +kernel
  rw [e]
  exact h _ _ (Heap.get?_none_of_le (by show _ ≤ (s.heap.push _).objs.size; rw [Heap.size_push]; exact Nat.le_succ _)) (Heap.get?_push_size _ rfl) ⟨fun b o _ e => Heap.get?_push_of_some _ (Heap.get?_push_of_some _ e), rfl, id⟩

theorem law_loop (X : LFx G mg mb d D) (W : LW D [D.P3, D.P2, D.P1] m cm s cps lno []) (hlx : cm "lexer" = some (.ref D.a.x)) (hwm : cm "words" = some (.ref wl)) (hwT : wl ∉ TL D) (hwl : LsAt D.sL.heap wl ws) (hw : Wds ws D.ht)
    (hro : m "row" = some (.ref ro)) (hdu : m "due" = some (.ref du)) {lfv : Option Value} (hlf : m "left" = lfv) (lro : LsAt s.heap ro []) (ldu : LsAt s.heap du []) (Nr : Nw D ro) (Nd : Nw D du) (hne : ro ≠ du) (hr : Rm (n + 11) A)
    (h : ∀ s' m' cm' pbv rv dv, LW D [D.P4, D.P3, D.P2, D.P1] m' cm' s' cps lno pbv → cm' "lexer" = some (.ref D.a.x) → cm' "words" = some (.ref wl) → m' "row" = some (.ref ro) → m' "due" = some (.ref du) → m' "left" = lfv → LsAt s'.heap ro rv → LsAt s'.heap du dv →
      StrsAre rv ((ncs D.ht 10).reverse.map bl) → StrsAre dv ((ncs D.ht 10).map bl) → StrsAre pbv ((ncs D.ht 10).map bl) → wpAny (model prog w) A (execs (dLaw.2.1.drop 8) (envW D)) R (fun _ _ => False) s') :
    wpAny (model prog w) A (execs (dLaw.2.1.drop 7) (envW D)) R (fun _ _ => False) s := by
  have hh := hr.2.2
  have g1 := W.glo X
  obtain ⟨p12, p13, p14, p23, p24, p34⟩ := X.pp
  have T4 : Tab s.heap D.c4 D.P4 qLC := tab0 W.C.I.kp (fun x hx => X.tb x (W.hT x hx)) X.h4 (X.tb _ (by simp)) (by simp only [List.mem_cons, List.not_mem_nil, or_false, not_or]; exact ⟨p34.symm, p24.symm, p14.symm⟩)
  have W0 : LW D [D.P4, D.P3, D.P2, D.P1] m cm s cps lno [] := ⟨⟨⟨W.C.I.ns, W.C.I.kp.mono fun b hb => List.mem_cons_of_mem _ hb, W.C.I.above⟩, W.C.cell, W.C.apart, W.C.above⟩, (fun P hP => by
    simp only [List.mem_cons, List.not_mem_nil, or_false] at hP ⊢
    rcases hP with z | z | z | z <;> simp [z]), W.K, W.lx, W.pb, W.exP, W.lm⟩
  refine wpAny_execs_cons (wpAny_For ?_)
  refine wpAny_Call_Name_kw (ldB (mg := mg) (mb := mb) g1.g (X.sg.no "range" (by decide)) g1.b (g1.name boot_range (by decide)) ?_)
  refine PyProof.Rows.callWith_type1 (wpAny_items_cons (cInt fun _ _ => wpAny_items_cons (cInt fun _ _ => wpAny_items_cons (wpAny_UnaryOp (cInt fun _ _ => PyProof.Rows.neg_int (wpAny_items_nil ?_))))))
  refine rangeIt3 fun it s₂ n2 i2 k2 => ?_
  have k2' : Kp [] s s₂ := ⟨fun b o _ e => k2.all b o e, k2.os, k2.gens⟩
  have n2' : s.heap.get? it = none := n2
  have W2 := W0.call k2'
  have N := W.none n2'
  have cne : ∀ {nn : Str} {cc : Addr}, (celW D.L).lookup nn = some cc → it ≠ cc := fun e => let ⟨o, e1, _⟩ := W.C.cell _ _ e; ne_of_none n2' e1
  have itr : it ≠ ro := let ⟨nn, e⟩ := lro; ne_of_none n2' e
  have itd : it ≠ du := let ⟨nn, e⟩ := ldu; ne_of_none n2' e
  have itp : it ≠ D.a.pb := Nw.ne_lx N X D.a.pb (by simp)
  have it4 : it ≠ D.P4 := fun q => N.2.2.2 (by rw [q]; simp)
  have dP : ∀ {b : Addr}, Nw D b → b ≠ D.P4 := fun Nb q => Nb.2.2.2 (by rw [q]; simp)
  refine forR (LoopJ D cps lno wl ro du it lfv) 10 10 (-1) hh (fun i s' ⟨m, cm, pbv, rv, dv, _, _, _, _, _, _, _, _, _, _, _, h6, h7⟩ => ⟨h6, h7⟩) ?turn ?fin ?start
  case start => exact ⟨m, cm, [], [], [], W2, T4.keeps k2'.all, hlx, hwm, hro, ⟨hdu, hlf⟩, lro.keeps k2'.all, ldu.keeps k2'.all, .nil, .nil, .nil, by simpa using i2, Nat.zero_le _⟩
  case turn =>
    rintro i s' hlt ⟨m₁, cm₁, pbv₁, rv₁, dv₁, J, JT, jlx, jwm, jro, ⟨jdu, jlf⟩, jlr, jld, jsr, jsd, jsp, ji, jle⟩ s'' tt hO hit
    have J1 := J.off X hO.kp N (dullR ji)
    have JT1 : Tab s''.heap D.c4 D.P4 qLC := JT.off hO.kp.keep fun b hb => by rw [List.mem_singleton.mp hb]; exact ⟨it4, Dull.range ji⟩
    have ea : (10 : Int) + i * (-1) = ((10 - i : Nat) : Int) := by omega
    rw [ea]
    refine J1.stC X (cc := D.L + 3) rfl (by simp) (by decide) fun s₃ W3 sm3 => ?_
    have lr3 : LsAt s₃.heap ro rv₁ := (jlr.of_eq (hO.same _ itr.symm)).of_eq (sm3 _ (J.lsC jlr (nn := "across") rfl))
    have ld3 : LsAt s₃.heap du dv₁ := (jld.of_eq (hO.same _ itd.symm)).of_eq (sm3 _ (J.lsC jld (nn := "across") rfl))
    have it3 : IsRangeIter s₃.heap it (10 + (i + 1 : Nat) * (-1)) ((10 : Nat) - (i + 1 : Nat)) (-1) := (sm3 _ (cne (nn := "across") rfl)).trans hit
    have JT3 : Tab s₃.heap D.c4 D.P4 qLC := JT1.off (T' := [D.L + 3]) (fun b o nb e => (sm3 b fun z => nb (by rw [z]; exact List.mem_singleton.mpr rfl)).trans e) fun b hb => by
      rw [List.mem_singleton.mp hb]
      obtain ⟨o, e1, e2⟩ := J1.C.cell "across" (D.L + 3) rfl
      obtain ⟨ps, e3, _⟩ := JT1.ex
      refine ⟨fun z => ?_, fun o' e vs ev => ?_⟩
      · rw [z, e3] at e1; cases e1; cases e2
      · rw [e1] at e; cases e; rw [e2] at ev; cases ev
    have hcx : upd cm₁ "across" (.int ((10 - i : Nat) : Int) tt) "across" = some (.int ((10 - i : Nat) : Int) tt) := if_pos rfl
    have hlx3 : upd cm₁ "across" (.int ((10 - i : Nat) : Int) tt) "lexer" = some (.ref D.a.x) := (if_neg (by decide)).trans jlx
    have hwm3 : upd cm₁ "across" (.int ((10 - i : Nat) : Int) tt) "words" = some (.ref wl) := (if_neg (by decide)).trans jwm
    have h1 : 1 ≤ 10 - i := by omega
    have h2 : 10 - i ≤ 10 := by omega
    have hnl := ncs_len D.ht i
    have hrl : rv₁.length < 100 := by rw [strs_len jsr]; simp; omega
    have hdl : dv₁.length < 100 := by rw [strs_len jsd]; simp; omega
    have hpl : pbv₁.length < 100 := by rw [strs_len jsp]; simp; omega
    have oneL : ∀ {b : Addr}, b ≠ D.L → b ∉ [D.L] := fun h q => h (List.mem_singleton.mp q)
    have TL1 : ∀ {u u' : Shared} {T : List Addr} {m cm : Str → Option Value}, LW D T m cm u cps lno pbv₁ → Tab u.heap D.c4 D.P4 qLC → KX [D.L] u u' → Tab u'.heap D.c4 D.P4 qLC := fun {u u' T m cm} Wu t k => t.off k fun b hb => by
      rw [List.mem_singleton.mp hb]
      refine ⟨fun q => ?_, Dull.ns Wu.C.I.ns⟩
      have f := Wu.C.I.fresh
      rw [q, X.tb _ (by simp)] at f; cases f
    refine law_gaps X W3 hcx h1 h2 hr fun s₄ gl gv W4 l4 hg n4 N4 q4 => ?_
    have T4' := TL1 W3 JT3 q4
    have lr4 := q4.ls (oneL Nr.2.2.1) lr3
    have ld4 := q4.ls (oneL Nd.2.2.1) ld3
    have it4' := q4 _ _ (oneL N.2.2.1) it3
    refine law_sides X W4 hcx hwm3 hwT hwl hw h1 h2 hr fun s₅ sl sv W5 l5 hs n5 N5 q5 => ?_
    have T5' := TL1 W4 T4' q5
    have lr5 := q5.ls (oneL Nr.2.2.1) lr4
    have ld5 := q5.ls (oneL Nd.2.2.1) ld4
    have lg5 := q5.ls (oneL N4.2.2.1) l4
    have it5' := q5 _ _ (oneL N.2.2.1) it4'
    have g_r : gl ≠ ro := let ⟨nn, e⟩ := lr3; ne_of_none n4 e
    have g_d : gl ≠ du := let ⟨nn, e⟩ := ld3; ne_of_none n4 e
    have s_r : sl ≠ ro := let ⟨nn, e⟩ := lr4; ne_of_none n5 e
    refine law_repr X W5 ((if_neg (by decide)).trans (if_pos rfl)) (if_pos rfl) lg5 l5 hg hs hr fun s₆ W6 q6 => ?_
    have T6' := TL1 W5 T5' q6
    have lr6 := q6.ls (oneL Nr.2.2.1) lr5
    have ld6 := q6.ls (oneL Nd.2.2.1) ld5
    have lg6 := q6.ls (oneL N4.2.2.1) lg5
    have ls6 := q6.ls (oneL N5.2.2.1) l5
    have it6' := q6 _ _ (oneL N.2.2.1) it5'
    have row6 : upd (upd m₁ "gaps" (.ref gl)) "sides" (.ref sl) "row" = some (.ref ro) := (if_neg (by decide)).trans ((if_neg (by decide)).trans jro)
    have due6 : upd (upd m₁ "gaps" (.ref gl)) "sides" (.ref sl) "due" = some (.ref du) := (if_neg (by decide)).trans ((if_neg (by decide)).trans jdu)
    have gap6 : upd (upd m₁ "gaps" (.ref gl)) "sides" (.ref sl) "gaps" = some (.ref gl) := (if_neg (by decide)).trans (if_pos rfl)
    refine law_if1 X W6 hcx hlx3 h1 h2 (if_pos rfl) ls6 hs row6 lr6 Nr jsr (fun y hy => ?_) hrl hpl hr fun s₇ pbv₇ rv₇ W7 l7 q7 a7 b7 => ?_
    · obtain ⟨b, hb, rfl⟩ := List.mem_map.mp hy
      exact ⟨b, rfl, (ncs_mem (List.mem_reverse.mp hb) (by omega)).1⟩
    have pbx : ∀ {b : Addr}, Nw D b → b ≠ ro → b ∉ [ro, D.a.pb] := fun Nb h => not2 h (Nw.ne_lx Nb X _ (by simp))
    have T7' : Tab s₇.heap D.c4 D.P4 qLC := T6'.off q7 fun b hb => by
      simp only [List.mem_cons, List.not_mem_nil, or_false] at hb
      rcases hb with rfl | rfl
      · exact ⟨dP Nr, Dull.ls lr6⟩
      · refine ⟨fun q => ?_, Dull.ls W6.pb⟩
        have f := (X.fr0 D.a.pb (by simp)).1
        rw [q, X.tb _ (by simp)] at f; cases f
    have ld7 := q7.ls (pbx Nd hne.symm) ld6
    have lg7 := q7.ls (pbx N4 g_r) lg6
    have it7' := q7 _ _ (pbx N itr) it6'
    refine law_if2 X W7 hcx h1 h2 gap6 lg7 hg due6 ld7 Nd hdl hr fun s₈ dv₈ W8 l8 q8 a8 b8 => ?_
    have T8' : Tab s₈.heap D.c4 D.P4 qLC := T7'.off (T' := [du]) (fun b o nb e => q8 b o (fun z => nb (by rw [z]; exact List.mem_singleton.mpr rfl)) e) fun b hb => by
      rw [List.mem_singleton.mp hb]; exact ⟨dP Nd, Dull.ls ld7⟩
    have lr8 : LsAt s₈.heap ro rv₇ := l7.offL fun o e => q8 _ _ hne e
    have lg8 : LsAt s₈.heap gl gv := lg7.offL fun o e => q8 _ _ g_d e
    have it8' := q8 _ _ itd it7'
    refine law_if3 X W8 (by simp) T8' hcx hwm3 hwT hwl hw h1 h2 gap6 lg8 hg hr fun s₉ m₉ W9 T9' hm9 q9 => ?_
    have no9 : ∀ {b : Addr}, b ≠ D.L → b ≠ D.P4 → b ∉ [D.L, D.P4] := fun h h' => not2 h h'
    have lr9 : LsAt s₉.heap ro rv₇ := lr8.offL fun o e => q9 _ _ (no9 Nr.2.2.1 (dP Nr)) e
    have ld9 : LsAt s₉.heap du dv₈ := l8.offL fun o e => q9 _ _ (no9 Nd.2.2.1 (dP Nd)) e
    have it9' := q9 _ _ (no9 N.2.2.1 it4) it8'
    have en := ncs_succ D.ht i
    refine ⟨m₉, _, pbv₇, rv₇, dv₈, W9, T9', hlx3, hwm3, (hm9 _ (by decide)).trans row6, ⟨(hm9 _ (by decide)).trans due6, (hm9 _ (by decide)).trans ((if_neg (by decide)).trans ((if_neg (by decide)).trans jlf))⟩, lr9, ld9, ?_, ?_, ?_, it9', hlt⟩
    · cases hB : ncB D.ht (10 - i) with
      | false => rw [(b7 hB).1, en, hB]; simpa using jsr
      | true =>
        obtain ⟨⟨t, e⟩, _⟩ := a7 hB
        rw [e, en, hB, if_pos rfl, List.reverse_append]
        exact .cons _ t jsr
    · cases hB : ncB D.ht (10 - i) with
      | false => rw [b8 hB, en, hB]; simpa using jsd
      | true =>
        obtain ⟨t, e⟩ := a8 hB
        rw [e, en, hB, if_pos rfl, List.map_append]
        exact strs_app jsd (.cons _ t .nil)
    · cases hB : ncB D.ht (10 - i) with
      | false => rw [(b7 hB).2, en, hB]; simpa using jsp
      | true =>
        obtain ⟨_, t, e⟩ := a7 hB
        rw [e, en, hB, if_pos rfl, List.map_append]
        exact strs_app jsp (.cons _ t .nil)
  case fin =>
    rintro s' s'' ⟨m₁, cm₁, pbv₁, rv₁, dv₁, J, JT, jlx, jwm, jro, ⟨jdu, jlf⟩, jlr, jld, jsr, jsd, jsp, ji, jle⟩ hk
    have J1 := J.off X hk N (dullR ji)
    refine wpAny_execs_nil (h s'' m₁ cm₁ pbv₁ rv₁ dv₁ J1 jlx jwm jro jdu jlf (jlr.offL fun o e => hk.keep _ _ (fun q => itr (List.mem_singleton.mp q).symm) e) (jld.offL fun o e => hk.keep _ _ (fun q => itd (List.mem_singleton.mp q).symm) e) jsr jsd jsp)
end
end Mine
end
section
open PySem PySem.W PySem.Calls PyProof.Rows
set_option maxRecDepth 100000
set_option Elab.async false
set_option maxHeartbeats 4000000
set_option autoImplicit false
set_option linter.unusedVariables false
namespace Mine
/-! Hopf: the lengths that are no chords are closed under adding -/
theorem top_of (f : Nat → Nat) : ∀ n, ∃ x, x ≤ n ∧ ∀ y, y ≤ n → f y ≤ f x
  | 0 => ⟨0, Nat.le_refl _, fun y hy => by rw [Nat.le_zero.mp hy]; exact Nat.le_refl _⟩
  | n + 1 => by
    obtain ⟨x, hx, h⟩ := top_of f n
    by_cases q : f x ≤ f (n + 1)
    · refine ⟨n + 1, Nat.le_refl _, fun y hy => ?_⟩
      by_cases z : y = n + 1
      · rw [z]; exact Nat.le_refl _
      · have := h y (by omega); omega
    · refine ⟨x, by omega, fun y hy => ?_⟩
      by_cases z : y = n + 1
      · rw [z]; omega
      · exact h y (by omega)
theorem ncB_iff {ht : Nat → Nat} {a : Nat} : ncB ht a = true ↔ (∀ k, k < 11 - a → ht (k + a) < ht k) ∨ (∀ k, k < 11 - a → ht k < ht (k + a)) := by
  rw [← ncB_gap]
  unfold gapL gpZ
  simp only [List.mem_map, List.mem_range, forall_exists_index, and_imp, forall_apply_eq_imp_iff₂]
  constructor
  · rintro (h | h)
    · exact .inl fun k hk => by have := h k hk; omega
    · exact .inr fun k hk => by have := h k hk; omega
  · rintro (h | h)
    · exact .inl fun k hk => by have := h k hk; omega
    · exact .inr fun k hk => by have := h k hk; omega
theorem no_both {ht : Nat → Nat} {a b : Nat} (hab : a + b ≤ 10) (h1 : ∀ k, k < 11 - a → ht (k + a) < ht k) (h2 : ∀ k, k < 11 - b → ht k < ht (k + b)) : False := by
  obtain ⟨x, hx, h⟩ := top_of ht 10
  by_cases q : x + b ≤ 10
  · have := h2 x (by omega)
    have := h (x + b) q
    omega
  · have h3 := h1 (x - a) (by omega)
    have e : x - a + a = x := by omega
    rw [e] at h3
    have := h (x - a) (by omega)
    omega
theorem hopf {ht : Nat → Nat} {a b : Nat} (hab : a + b ≤ 10) (ha : ncB ht a = true) (hb : ncB ht b = true) : ncB ht (a + b) = true := by
  rw [ncB_iff] at ha hb ⊢
  rcases ha with ha | ha <;> rcases hb with hb | hb
  · refine .inl fun k hk => ?_
    have h1 := ha k (by omega)
    have h2 := hb (k + a) (by omega)
    rw [← Nat.add_assoc]; omega
  · exact (no_both hab ha hb).elim
  · exact (no_both (a := b) (b := a) (by omega) hb ha).elim
  · refine .inr fun k hk => ?_
    have h1 := ha k (by omega)
    have h2 := hb (k + a) (by omega)
    rw [← Nat.add_assoc]; omega
theorem ncs_all {ht : Nat → Nat} {b : Nat} (h1 : 1 ≤ b) (h2 : b ≤ 10) (h : ncB ht b = true) : b ∈ ncs ht 10 := by
  unfold ncs
  rw [List.mem_filter, List.mem_map]
  exact ⟨⟨10 - b, List.mem_range.mpr (by omega), by omega⟩, h⟩
theorem ncs_ord (ht : Nat → Nat) : ((ncs ht 10).reverse).Pairwise (· < ·) := by
  rw [List.pairwise_reverse]
  unfold ncs
  refine List.Pairwise.filter _ ?_
  rw [List.pairwise_map]
  refine List.Pairwise.imp_of_mem (fun {x y} hx hy h => ?_) List.pairwise_lt_range
  rw [List.mem_range] at hx hy
  omega

section
variable {prog : Program} {w : World} {A : Around} {M : Model} {E : Value → Shared → Prop} {G : Heap} {mg mb : Str → Option Value} {d : Ads} {D : LD} {T : List Addr} {s s' : Shared} {m m' cm cm' : Str → Option Value} {cps cps' : List Nat} {lno lno' : Int} {pbv pbv' : List Value} {x : Str} {l wl gl sl ro du : Addr} {nm : Str} {v : Value} {n a : Nat} {R : Flow → Shared → Prop} {xs ws gv sv rv dv : List Value} {tx : Tok} {rs : List Str}
/-- lexer.get_token(), the words read: a waiting word, or the end -/
theorem law_tok {p1 p2 p3 : Pos} {pd : Nat} {Q : Value → Shared → Prop} (X : LFx G mg mb d D) (W : LW D T m cm s (List.replicate pd 10) lno pbv) (hpd : pd ≤ 1) (hpl : pbv.length < 100) (hlx : cm "lexer" = some (.ref D.a.x)) (hr : Rm (n + 11) A)
    (h1 : ∀ v vs s', pbv = v :: vs → LW D T m cm s' (List.replicate pd 10) lno vs → KX [D.a.pb, D.a.dx, D.a.left] s s' → Q v s')
    (h2 : ∀ t s', pbv = [] → LW D T m cm s' [] (lno + pd) [] → KX [D.a.pb, D.a.dx, D.a.left] s s' → Q (.str "" t) s')
    (he : eval (.Call (.Attribute (.Name "lexer" p1) "get_token" p2) [] [] p3) (envW D) = (do
      let ov ← eval (.Name "lexer" p1) (envW D)
      standAt p2.atName
      let (f, first) ← holding [ov] (getMethod ov "get_token" (do return (← importBound (.Name "lexer" p1) (envW D)).getD true))
      callWith p3 f first (backTo p3 (starEach [] (envW D))) []) := by rfl) :
    wpAny (model prog w) A (eval (.Call (.Attribute (.Name "lexer" p1) "get_token" p2) [] [] p3) (envW D)) Q (fun _ _ => False) s := by
  have Gu := W.gs X
  obtain ⟨oT, docT, pmT, anT, ctT, r1, r2, r3⟩ := X.sg.GT.keeps Gu
  obtain ⟨x1, x2, x3, x4, t1, t2, t3, t4, t5, t6, nn, edx⟩ := W.lx.dx
  refine MethodCall_ (pl := do return (← importBound (.Name "lexer" p1) (envW D)).getD true) (ldC (c := D.L + 1) rfl (W.cw (nm := "lexer") rfl hlx) ?_) he
  refine methC (dx := D.a.dx) (f := d.fGT) (Frag.In.keeps X.sg.X Gu) (by rw [X.hC]; exact X.sg.cls) (by rw [X.hC]; exact X.sg.kGT) X.sg.iGT (X.F _ W.K).x edx rfl ?_
  refine cwF0 r1 r2 (wpAny_call ?_)
  cases hp : pbv with
  | cons v vs =>
    rw [hp] at W hpl
    refine getToken_pop (n := n) (W.lx0 X) W.pb (by simp at hpl; omega) (hr.less (by omega)) fun s₂ k2 l2 => ?_
    have S2 : LxSt s₂.heap D.a (List.replicate pd 10) lno := by
      obtain ⟨⟨x1, x2, x3, x4, t1, t2, t3, t4, t5, t6, n, edx⟩, vs, ⟨nl, el⟩, hc⟩ := W.lx
      exact ⟨⟨x1, x2, x3, x4, t1, t2, t3, t4, t5, t6, n, k2.keep _ _ (fun q => X.ne.2.2 (List.mem_singleton.mp q).symm) edx⟩, vs, ⟨nl, k2.keep _ _ (fun q => X.ne.2.1 (List.mem_singleton.mp q).symm) el⟩, hc⟩
    exact h1 v vs s₂ hp (W.lexd X k2 (fun b hb => by rw [List.mem_singleton.mp hb]; simp) S2 l2) (KX.of k2.keep (by simp))
  | nil =>
    rw [hp] at W
    refine getToken_end (n := n) (k := pd) (W.lx0 X) W.lx (by omega) W.pb (hr.less (by omega)) fun s₂ t k2 S2 => ?_
    refine h2 t s₂ hp (W.lexd X k2 (fun b hb => ?_) S2 (W.pb.offL fun o e => k2.keep _ _ (not2 X.ne.2.2 X.ne.2.1) e)) (KX.of k2.keep (by simp))
    simp only [List.mem_cons, List.not_mem_nil, or_false] at hb
    rcases hb with z | z <;> simp [z]
/-- what a token leaves, k of them taken -/
structure Tk (D : LD) (T : List Addr) (ls : List Str) (pd : Nat) (k : Nat) (m cm : Str → Option Value) (v : Value) (s : Shared) : Prop where
  ex : (∃ t x pbv, k < ls.length ∧ ls[k]? = some x ∧ v = .str x t ∧ StrsAre pbv (ls.drop (k + 1)) ∧ LW D T m cm s (List.replicate pd 10) (12 - pd) pbv) ∨ (∃ t, k = ls.length ∧ v = .str "" t ∧ LW D T m cm s [] 12 [])
theorem strs_cons {v : Value} {vs : List Value} {ls : List Str} (h : StrsAre (v :: vs) ls) : ∃ x t r, ls = x :: r ∧ v = .str x t ∧ StrsAre vs r := by
  cases h with
  | cons y t r => exact ⟨y, t, _, rfl, rfl, r⟩
theorem tk_of {ls : List Str} {pd k : Nat} {p1 p2 p3 : Pos} {Q : Value → Shared → Prop} (X : LFx G mg mb d D) (W : LW D T m cm s (List.replicate pd 10) (12 - pd) pbv) (hpd : pd ≤ 1) (hk : k ≤ ls.length) (hps : StrsAre pbv (ls.drop k)) (hl : ls.length < 50) (hlx : cm "lexer" = some (.ref D.a.x)) (hr : Rm (n + 11) A)
    (h : ∀ v s', Tk D T ls pd k m cm v s' → KX [D.a.pb, D.a.dx, D.a.left] s s' → Q v s')
    (he : eval (.Call (.Attribute (.Name "lexer" p1) "get_token" p2) [] [] p3) (envW D) = (do
      let ov ← eval (.Name "lexer" p1) (envW D)
      standAt p2.atName
      let (f, first) ← holding [ov] (getMethod ov "get_token" (do return (← importBound (.Name "lexer" p1) (envW D)).getD true))
      callWith p3 f first (backTo p3 (starEach [] (envW D))) []) := by rfl) :
    wpAny (model prog w) A (eval (.Call (.Attribute (.Name "lexer" p1) "get_token" p2) [] [] p3) (envW D)) Q (fun _ _ => False) s := by
  have hpl := strs_len hps
  rw [List.length_drop] at hpl
  refine law_tok (n := n) X W hpd (by omega) hlx hr (fun v vs s' e W' kx => ?_) (fun t s' e W' kx => ?_) he
  · rw [e] at hps hpl
    obtain ⟨x, t, r, e1, rfl, hr'⟩ := strs_cons hps
    have hlt : k < ls.length := by rw [List.length_cons] at hpl; omega
    rw [List.drop_eq_getElem_cons hlt] at e1
    obtain ⟨e2, e3⟩ := List.cons.inj e1
    refine h _ s' ⟨.inl ⟨t, x, vs, hlt, ?_, rfl, by rw [e3]; exact hr', W'⟩⟩ kx
    rw [List.getElem?_eq_getElem hlt, e2]
  · rw [e] at hpl
    have : k = ls.length := by simp at hpl; omega
    have e0 : (12 : Int) - pd + pd = 12 := by omega
    rw [e0] at W'
    exact h _ s' ⟨.inr ⟨t, this, rfl, W'⟩⟩ kx

theorem law_8 {ls : List Str} {pd : Nat} (X : LFx G mg mb d D) (W : LW D T m cm s (List.replicate pd 10) (12 - pd) pbv) (hpd : pd ≤ 1) (hps : StrsAre pbv ls) (hl : ls.length < 50) (hlx : cm "lexer" = some (.ref D.a.x)) (hr : Rm (n + 11) A)
    (h : ∀ s' m' go v, Tk D T ls pd 0 m' cm v s' → m' "gone" = some (.ref go) → m' "word" = some v → (∀ nm : Str, nm ≠ ("gone" : Str) → nm ≠ ("word" : Str) → m' nm = m nm) → LsAt s'.heap go [] → s.heap.get? go = none → KX [D.L, D.a.pb, D.a.dx, D.a.left] s s' → wpAny (model prog w) A (execs (dLaw.2.1.drop 9) (envW D)) R (fun _ _ => False) s') :
    wpAny (model prog w) A (execs (dLaw.2.1.drop 8) (envW D)) R (fun _ _ => False) s := by
  have hh := hr.2.2
  refine wpAny_execs_cons ?_
  refine Assign_Tuple_swapped (names := ["gone", "word"]) ?main ?hs ?hw
  case hs => rfl
  case hw => rfl
  refine wpAny_Tuple_spliced ?_
  refine wpAny_items_cons ?_
  refine newL ?_
  refine wpAny_items_nil ⟨by rw [sizeLine_eq]; simp, fun s₂ go n2 l2 k2 => ?_⟩
  refine wpAny_items_cons ?_
  have W2 := W.call k2
  have N2 := W.none n2
  refine tk_of (n := n) X W2 hpd (Nat.zero_le _) (by simpa using hps) hl hlx hr fun v s₃ Tk3 kx3 => ?_
  refine wpAny_items_nil ⟨by rw [sizeLine_eq]; simp, ?_⟩
  have l3 : LsAt s₃.heap go [] := kx3.ls (fun z => by
    simp only [List.mem_cons, List.not_mem_nil, or_false] at z
    rcases z with z | z | z
    · exact Nw.ne_lx N2 X _ (by simp) z
    · exact Nw.ne_lx N2 X _ (by simp) z
    · exact Nw.ne_lx N2 X _ (by simp) z) l2
  have k4 : Kp [] s₃ { s₃ with heap := s₃.heap.push { cls := .type "tuple", data := .seq [Value.ref go, v].toArray } } := Kp.push (tk := s₃.toks)
  have ht : IsTup (s₃.heap.push { cls := .type "tuple", data := .seq [Value.ref go, v].toArray }) s₃.heap.objs.size [Value.ref go, v].toArray := ⟨_, Heap.get?_push_size _ rfl, rfl, _, rfl⟩
  refine unpackItems_tuple (items := [Value.ref go, v].toArray) (s := { s₃ with heap := s₃.heap.push { cls := .type "tuple", data := .seq [Value.ref go, v].toArray } }) hh ht fun h' he => ?_
  have k5 : Kp [] s₃ { s₃ with heap := h' } := ⟨fun b o _ e => he b o (Nat.ne_of_lt (Heap.lt_size (k4.all _ _ e))) (k4.all _ _ e), rfl, id⟩
  have st2 : ∀ {cps : List Nat} {lno : Int} {pbv : List Value}, LW D T m cm s₃ cps lno pbv → ∀ {Q : Unit → Shared → Prop}, (∀ s₇ m', LW D T m' cm s₇ cps lno pbv → m' "gone" = some (.ref go) → m' "word" = some v → (∀ nm : Str, nm ≠ ("gone" : Str) → nm ≠ ("word" : Str) → m' nm = m nm) → LsAt s₇.heap go [] → KX [D.L] s₃ s₇ → Q () s₇) →
      wpAny (model prog w) A (assignInOrder ((["gone", "word"] : List Str).reverse.map fun n => bindName (envW D) n) [Value.ref go, v].toArray.toList.reverse) Q (fun _ _ => False) { s₃ with heap := h' } := by
    intro cps lno pbv W3 Q hQ
    have W5 := W3.call k5
    refine assignInOrder_cons (bindName_ (W5.st X fun s₆ W6 sm6 => ?_))
    refine assignInOrder_cons (bindName_ (W6.st X fun s₇ W7 sm7 => ?_))
    refine assignInOrder_nil (hQ s₇ _ W7 rfl rfl (fun nm h1 h2 => (if_neg h1).trans (if_neg h2)) (((l3.keeps k5.all).of_eq (sm6 _ N2.2.2.1)).of_eq (sm7 _ N2.2.2.1)) fun b o nb e => ?_)
    have nb' : b ≠ D.L := fun q => nb (List.mem_singleton.mpr q)
    exact (sm7 _ nb').trans ((sm6 _ nb').trans (k5.all _ _ e))
  have big : ∀ {s₇ : Shared}, KX [D.L] s₃ s₇ → KX [D.L, D.a.pb, D.a.dx, D.a.left] s s₇ := fun k b o nb e => by
    simp only [List.mem_cons, List.not_mem_nil, or_false, not_or] at nb
    exact k _ _ (fun q => nb.1 (List.mem_singleton.mp q)) (kx3 _ _ (by simp [nb]) (k2.all _ _ e))
  rcases Tk3.ex with ⟨t, x, pbv', hk, hx, hv, hp', W3⟩ | ⟨t, hk, hv, W3⟩
  · exact st2 W3 fun s₇ m' W7 e1 e2 e3 l7 k7 => h s₇ m' go v ⟨.inl ⟨t, x, pbv', hk, hx, hv, hp', W7⟩⟩ e1 e2 e3 l7 n2 (big k7)
  · exact st2 W3 fun s₇ m' W7 e1 e2 e3 l7 k7 => h s₇ m' go v ⟨.inr ⟨t, hk, hv, W7⟩⟩ e1 e2 e3 l7 n2 (big k7)
end
end Mine
end
section
open PySem PySem.W PySem.Calls PyProof.Rows
set_option maxRecDepth 100000
set_option Elab.async false
set_option maxHeartbeats 4000000
set_option autoImplicit false
set_option linter.unusedVariables false
namespace Mine
def dLwh : List Stmt := match (dLaw.2.1[9]? : Option Stmt) with
  | some (Stmt.While _ b _ _) => b
  | _ => []
def dLin : List Stmt := match (dLwh[1]? : Option Stmt) with
  | some (Stmt.For _ _ b _ _) => b
  | _ => []
theorem bis_pos {ls : List Nat} (ho : ls.Pairwise (· < ·)) {p x r : Nat} (hp : ls[p]? = some x) (h : BisEnd (fun j => !decide ((ls[j]?.getD 0) < x)) 0 ls.length r) : r = p := by
  have hpl : p < ls.length := (List.getElem?_eq_some_iff.mp hp).1
  have hpx : ls[p] = x := (List.getElem?_eq_some_iff.mp hp).2
  have ord := List.pairwise_iff_getElem.mp ho
  obtain ⟨_, h1, h2, h3⟩ := h
  rcases Nat.lt_trichotomy r p with q | q | q
  · have h4 : (!decide ((ls[r]?.getD 0) < x)) = true := h3 (by omega)
    have hr : r < ls.length := by omega
    rw [List.getElem?_eq_getElem hr, Option.getD_some] at h4
    have := ord r p hr hpl q
    rw [hpx] at this
    rw [decide_eq_true this] at h4
    cases h4
  · exact q
  · have h4 : (!decide ((ls[r - 1]?.getD 0) < x)) = false := h2 (by omega)
    have hr : r - 1 < ls.length := by omega
    rw [List.getElem?_eq_getElem hr, Option.getD_some] at h4
    have h5 : ls[r - 1] < x := by simpa using h4
    by_cases z : r - 1 = p
    · subst z; omega
    · have := ord p (r - 1) hpl hr (by omega)
      omega
theorem bis_posR {ls : List Nat} (ho : ls.Pairwise (· < ·)) {p x r : Nat} (hp : ls[p]? = some x) (h : BisEnd (fun j => decide (x < (ls[j]?.getD 0))) 0 ls.length r) : r = p + 1 := by
  have hpl : p < ls.length := (List.getElem?_eq_some_iff.mp hp).1
  have hpx : ls[p] = x := (List.getElem?_eq_some_iff.mp hp).2
  have ord := List.pairwise_iff_getElem.mp ho
  obtain ⟨_, h1, h2, h3⟩ := h
  rcases Nat.lt_trichotomy r (p + 1) with q | q | q
  · have hr : r < ls.length := by omega
    have h4 : decide (x < (ls[r]?.getD 0)) = true := h3 hr
    rw [List.getElem?_eq_getElem hr, Option.getD_some] at h4
    have h5 := of_decide_eq_true h4
    by_cases z : r = p
    · subst z; omega
    · have := ord r p hr hpl (by omega)
      omega
  · exact q
  · have hr : r - 1 < ls.length := by omega
    have h4 : decide (x < (ls[r - 1]?.getD 0)) = false := h2 (by omega)
    rw [List.getElem?_eq_getElem hr, Option.getD_some] at h4
    have h5 := of_decide_eq_false h4
    have := ord p (r - 1) hpl hr (by omega)
    omega
theorem bl_add (a b : Nat) : tx (List.replicate a 32 ++ List.replicate b 32) = bl (a + b) := by
  rw [List.replicate_append_replicate, ← bl_tx]
section
variable {prog : Program} {w : World} {A : Around} {M : Model} {E : Value → Shared → Prop} {G : Heap} {mg mb : Str → Option Value} {d : Ads} {D : LD} {T : List Addr} {s s' : Shared} {m m' cm cm' : Str → Option Value} {cps cps' : List Nat} {lno lno' : Int} {pbv pbv' : List Value} {x : Str} {l wl gl sl ro du : Addr} {nm : Str} {v : Value} {n a b : Nat} {R : Flow → Shared → Prop} {xs ws gv sv rv dv : List Value} {tx : Tok} {rs : List Str}
theorem law_turn {ls : List Nat} {tw to : Tok} (X : LFx G mg mb d D) (W : LW D T m cm s cps lno pbv) (hro : m "row" = some (.ref ro)) (lro : LsAt s.heap ro rv) (hrv : StrsAre rv (ls.map bl)) (hls : ls = (ncs D.ht 10).reverse) (hwd : m "word" = some (.str (bl a) tw)) (hot : m "other" = some (.str (bl b) to)) (ha : a ∈ ls) (hb : b ∈ ls) (hr : Rm (n + 11) A)
    (h : ∀ s' m', LW D T m' cm s' cps lno pbv → (∀ nm : Str, nm ≠ ("laid" : Str) → m' nm = m nm) → KX [D.L] s s' → R .next s') :
    wpAny (model prog w) A (execs dLin (envW D)) R (fun _ _ => False) s := by
  have hh := hr.2.2
  rw [hls, List.mem_reverse] at ha hb
  have A1 := ncs_mem ha (Nat.le_refl _)
  have B1 := ncs_mem hb (Nat.le_refl _)
  have hll : ls.length ≤ 10 := by rw [hls, List.length_reverse]; exact ncs_len D.ht 10
  have hrl : rv.length = ls.length := by rw [strs_len hrv, List.length_map]
  refine LW.wset (wpAny_BinOp (ldL W.C.I.ns hwd (ldL W.C.I.ns hot ?_)))
  rw [bl_tx, bl_tx]
  refine addT (by simp; omega) fun tl k => ?_
  rw [bl_add]
  refine W.tok.st X fun s₂ W2 sm2 => ?_
  have lr2 : LsAt s₂.heap ro rv := lro.of_eq (sm2 _ (W.lsL lro))
  have q2 : KX [D.L] s s₂ := fun b o nb e => (sm2 _ (fun q => nb (List.mem_singleton.mpr q))).trans e
  have g2 := W2.glo X
  have G2 := W2.gs X
  have row2 : upd m "laid" (.str (bl (a + b)) tl) "row" = some (.ref ro) := (if_neg (by decide)).trans hro
  have done : ∀ s₃ : Shared, Kp [] s₂ s₃ → R .next s₃ := fun s₃ k3 => h s₃ _ (W2.call k3) (fun nm hn => if_neg hn) (q2.trans fun b o _ e => k3.all b o e)
  refine wpAny_execs_cons (wpAny_If (isTrue_and (wpAny_isTrue_Compare1 (wpAny_Call_Name_kw (ldB (mg := mg) (mb := mb) g2.g (X.sg.no "len" (by decide)) g2.b (g2.name boot_len (by decide)) (cwB (wpAny_items_cons (ldL W2.C.I.ns (if_pos rfl) (wpAny_items_nil ?_)))))))))
  refine PyProof.Rows.len_str (by rw [bl_len]; omega) ?_
  rw [bl_len]
  refine cInt fun _ _ => PyProof.Rows.le_int (wpAny_truthy_bool ?_)
  by_cases hc : a + b ≤ 10
  · rw [decide_eq_true (by omega : ((a + b : Nat) : Int) ≤ 10), if_pos rfl]
    -- the place of the sum in the row
    have hn := hopf hc A1.2.2 B1.2.2
    have hmem : a + b ∈ ls := by rw [hls, List.mem_reverse]; exact ncs_all (by omega) hc hn
    obtain ⟨p, hp⟩ := List.getElem?_of_mem hmem
    have hpl : p < ls.length := (List.getElem?_eq_some_iff.mp hp).1
    have hord : ls.Pairwise (· < ·) := hls ▸ ncs_ord D.ht
    have item : ∀ (j : Nat) (v : Value), rv.toArray[j]? = some v → ∃ t, v = .str (bl (ls[j]?.getD 0)) t := fun j v hv => by
      obtain ⟨y, t, ey, rfl⟩ := strs_get hrv j v (by simpa using hv)
      rw [List.getElem?_map] at ey
      cases e : ls[j]? with
      | none => rw [e] at ey; cases ey
      | some z => rw [e] at ey; cases ey; exact ⟨t, rfl⟩
    generalize hs3 : ({ heap := s₂.heap, gens := s₂.gens, drawn := s₂.drawn, toks := _, os := s₂.os } : Shared) = s₃
    have k3 : Kp [] s₂ s₃ := by rw [← hs3]; exact ⟨fun _ _ _ e => e, rfl, id⟩
    have W3 := W2.call k3
    have lr3 := lr2.keeps k3.all
    have G3 := W3.gs X
    have g3 := W3.glo X
    obtain ⟨oL, docL, pmL, anL, ctL, a1, a2, a3⟩ := id X.sg.BL
    obtain ⟨oR, docR, pmR, anR, ctR, b1, b2, b3⟩ := id X.sg.BR
    refine isTrue_and (wpAny_isTrue_Compare1 (Subscript_ (ldL W3.C.I.ns row2 (wpAny_Slice ?_))))
    refine wpAny_Call_Name_kw (ldG (mg := mg) g3.g X.sg.mBL (cwP (o := oL) (fd := fnX "bisect_left" "bisect_left" dBL.1 dBL.2.1 dBL.2.2 [] d.dBL d.kBL docL pmL anL d.cBL ctL) ?_))
    refine wpAny_items_cons (ldL W3.C.I.ns row2 (wpAny_items_cons (ldL W3.C.I.ns (if_pos rfl) (wpAny_items_nil ⟨⟨G3 _ _ a1, a2⟩, wpAny_call ?_⟩))))
    have hbL : ∃ t, ∀ doc pm an ct, BindsTo s₃ (fnX "bisect_left" "bisect_left" dBL.1 dBL.2.1 dBL.2.2 [] d.dBL d.kBL doc pm an d.cBL ct) ⟨[.ref ro, .str (bl (a + b)) tl], []⟩ [("a", .ref ro), ("x", .str (bl (a + b)) tl), ("lo", .int 0 t), ("hi", .none), ("key", .none)] := bind2 (X.sg.DBL.keeps G3)
    obtain ⟨u1, hbL⟩ := hbL
    refine bisL_call (n := n) (c := fun j => !decide ((ls[j]?.getD 0) < a + b)) (lo₀ := 0) (t := u1) (hi₀ := ls.length) (X.sg.BL.keeps G3) g3 (X.sg.no "len" (by decide)) (hr.less (by omega)) hbL lr3.isList (Nat.zero_le _) (by rw [List.size_toArray, hrl]; exact Nat.le_refl _) (by rw [List.size_toArray, hrl]; omega) (.inl ⟨rfl, by rw [List.size_toArray, hrl]⟩)
      (.inl ⟨rfl, fun j v _ hj hv => ?_⟩) fun r s₄ tr k4 hB => ?_
    · obtain ⟨t, rfl⟩ := item j v hv
      have := LtIs.str (prog := prog) (w := w) (bl (ls[j]?.getD 0)) (bl (a + b)) t tl
      rw [bl_lt] at this
      rw [Bool.not_not]
      exact this
    have er := bis_pos hord hp hB
    subst er
    have W4 := W3.call k4
    have lr4 := lr3.keeps k4.all
    have G4 := W4.gs X
    have g4 := W4.glo X
    refine wpAny_Call_Name_kw (ldG (mg := mg) g4.g X.sg.mBR (cwP (o := oR) (fd := fnX "bisect_right" "bisect_right" dBR.1 dBR.2.1 dBR.2.2 [] d.dBR d.kBR docR pmR anR d.cBR ctR) ?_))
    refine wpAny_items_cons (ldL W4.C.I.ns row2 (wpAny_items_cons (ldL W4.C.I.ns (if_pos rfl) (wpAny_items_nil ⟨⟨G4 _ _ b1, b2⟩, wpAny_call ?_⟩))))
    have hbR : ∃ t, ∀ doc pm an ct, BindsTo s₄ (fnX "bisect_right" "bisect_right" dBR.1 dBR.2.1 dBR.2.2 [] d.dBR d.kBR doc pm an d.cBR ct) ⟨[.ref ro, .str (bl (a + b)) tl], []⟩ [("a", .ref ro), ("x", .str (bl (a + b)) tl), ("lo", .int 0 t), ("hi", .none), ("key", .none)] := bind2 (X.sg.DBR.keeps G4)
    obtain ⟨u2, hbR⟩ := hbR
    refine bisR_call (n := n) (c := fun j => decide (a + b < (ls[j]?.getD 0))) (lo₀ := 0) (t := u2) (hi₀ := ls.length) (X.sg.BR.keeps G4) g4 (X.sg.no "len" (by decide)) (hr.less (by omega)) hbR lr4.isList (Nat.zero_le _) (by rw [List.size_toArray, hrl]; exact Nat.le_refl _) (by rw [List.size_toArray, hrl]; omega) (.inl ⟨rfl, by rw [List.size_toArray, hrl]⟩)
      (.inl ⟨rfl, fun j v _ hj hv => ?_⟩) fun r2 s₅ tr2 k5 hB2 => ?_
    · obtain ⟨t, rfl⟩ := item j v hv
      have := LtIs.str (prog := prog) (w := w) (bl (a + b)) (bl (ls[j]?.getD 0)) tl t
      rw [bl_lt] at this
      exact this
    have er2 := bis_posR hord hp hB2
    subst er2
    have W5 := W4.call k5
    have lr5 := lr4.keeps k5.all
    refine wpAny_pure ?_
    generalize hs6 : ({ heap := s₅.heap.push _, gens := s₅.gens, drawn := s₅.drawn, toks := s₅.toks, os := s₅.os } : Shared) = s₆
    have k6 : Kp [] s₅ s₆ := by rw [← hs6]; exact Kp.push
    have hsl : s₆.heap.IsSliceOf s₅.heap.objs.size (.int (r : Nat) tr) (.int ((r + 1 : Nat) : Int) tr2) .none := by rw [← hs6]; exact ⟨_, Heap.get?_push_size _ rfl, rfl, rfl⟩
    have W6 := W5.call k6
    have lr6 := lr5.keeps k6.all
    refine cutL lr6.isList hsl (.int _ _) (.int _ _) .none (by simp) (by omega) (fun s₇ r7 n7 l7 k7 => ?_) (by with_unfolding_all rfl)
    rw [slicePick_run _ _ _ (by rw [List.size_toArray]; omega) (by omega)] at l7
    have W7 := W6.call k7
    refine newL (wpAny_items_cons (ldL W7.C.I.ns (if_pos rfl) (wpAny_items_nil ⟨by rw [sizeLine_eq]; simp, fun s₈ r8 n8 l8 k8 => ?_⟩)))
    obtain ⟨tp, ep⟩ : ∃ tp, rv[r]? = some (.str (bl (a + b)) tp) := by
      obtain ⟨v, hv⟩ : ∃ v, rv[r]? = some v := ⟨_, List.getElem?_eq_getElem (by omega)⟩
      obtain ⟨t, rfl⟩ := item r v (by simpa using hv)
      rw [hp] at hv
      exact ⟨t, hv⟩
    have e7 : ((rv.toArray.toList.drop r).take (r + 1 - r)) = [.str (bl (a + b)) tp] := by
      have hlt : r < rv.length := by omega
      rw [List.drop_eq_getElem_cons (by simpa using hlt)]
      have h1 : r + 1 - r = 1 := by omega
      rw [h1]
      have h2 := (List.getElem?_eq_some_iff.mp ep).2
      simp [h2]
    have l7' : LsAt s₈.heap r7 [.str (bl (a + b)) tp] := by
      have := l7.keeps k8.all
      rw [e7] at this
      exact this
    refine neS (n := n + 4) (ss := [bl (a + b)]) (ts := [bl (a + b)]) l7'.isList l8.isList (.cons _ _ .nil) (.cons _ _ .nil) (by intro x hx; rw [List.mem_singleton.mp hx]; exact bl_ok _) (by intro x hx; rw [List.mem_singleton.mp hx]; exact bl_ok _) hr (wpAny_truthy_bool ?_)
    rw [decide_eq_true rfl]
    refine wpAny_execs_nil (wpAny_execs_nil (done s₈ ?_))
    exact ((((k3.trans k4).trans k5).trans k6).trans k7).trans k8
  · rw [decide_eq_false (by omega : ¬ ((a + b : Nat) : Int) ≤ 10)]
    exact wpAny_execs_nil (wpAny_execs_nil (done _ ⟨fun _ _ _ e => e, rfl, id⟩))
end
end Mine
end
section
open PySem PySem.W PySem.Calls PyProof.Rows
set_option maxRecDepth 100000
set_option Elab.async false
set_option maxHeartbeats 4000000
set_option autoImplicit false
set_option linter.unusedVariables false
namespace Mine
theorem bl_ne {b : Nat} (h : 1 ≤ b) : (bl b != ("" : Str)) = true := by
  rw [bne_iff_ne]
  intro q
  have := bl_len b
  rw [q] at this
  have e : ("" : Str).length = 0 := by decide +kernel
  rw [e] at this
  omega
theorem strs_snoc {vs : List Value} {ss : List Str} {x : Str} {t : Tok} (h : StrsAre vs ss) : StrsAre (vs ++ [.str x t]) (ss ++ [x]) := strs_app h (.cons x t .nil)
inductive WhJ (D : LD) (T : List Addr) (ls : List Str) (pd : Nat) (m cm : Str → Option Value) (go ro du : Addr) (rv dv : List Value) (n' : Nat) (s : Shared) : Prop
  | mk (k : Nat) (m₁ : Str → Option Value) (v : Value) (gv : List Value) (h1 : n' = ls.length - k) (h2 : k ≤ ls.length) (h3 : Tk D T ls pd k m₁ cm v s) (h4 : m₁ "word" = some v) (h5 : ∀ nm : Str, nm ≠ ("laid" : Str) → nm ≠ ("other" : Str) → nm ≠ ("word" : Str) → m₁ nm = m nm)
    (h6 : LsAt s.heap go gv) (h7 : StrsAre gv (ls.take k)) (h8 : LsAt s.heap ro rv) (h9 : LsAt s.heap du dv) : WhJ D T ls pd m cm go ro du rv dv n' s
section
variable {prog : Program} {w : World} {A : Around} {M : Model} {E : Value → Shared → Prop} {G : Heap} {mg mb : Str → Option Value} {d : Ads} {D : LD} {T : List Addr} {s s' : Shared} {m m' cm cm' : Str → Option Value} {cps cps' : List Nat} {lno lno' : Int} {pbv pbv' : List Value} {x : Str} {l wl gl sl ro du go : Addr} {nm : Str} {v : Value} {n a b pd : Nat} {R : Flow → Shared → Prop} {xs ws gv sv rv dv : List Value} {tx : Tok} {rs : List Str}
/-- the inner loop -/
theorem law_row (X : LFx G mg mb d D) (W : LW D T m cm s cps lno pbv) (hro : m "row" = some (.ref ro)) (lro : LsAt s.heap ro rv) (hrv : StrsAre rv (((ncs D.ht 10).reverse).map bl)) (hwd : m "word" = some (.str (bl a) tx)) (ha : a ∈ (ncs D.ht 10).reverse) (hr : Rm (n + 11) A)
    (h : ∀ s' m', LW D T m' cm s' cps lno pbv → (∀ nm : Str, nm ≠ ("laid" : Str) → nm ≠ ("other" : Str) → m' nm = m nm) → KX [D.L] s s' → wpAny (model prog w) A (execs (dLwh.drop 2) (envW D)) R (fun _ _ => False) s') :
    wpAny (model prog w) A (execs (dLwh.drop 1) (envW D)) R (fun _ _ => False) s := by
  have hh := hr.2.2
  have hrl : rv.length = (ncs D.ht 10).length := by rw [strs_len hrv, List.length_map, List.length_reverse]
  refine wpAny_execs_cons (wpAny_For (ldL W.C.I.ns hro ?_))
  refine wpAny_pyIter_list lro.isList ?_
  generalize hI : s.heap.objs.size = I
  have hIn : s.heap.get? I = Option.none := by rw [← hI]; exact Heap.get?_none_of_le (Nat.le_refl _)
  have hlI : ro ≠ I := let ⟨nn, e⟩ := lro; (ne_of_none hIn e).symm
  have k2 : Kp [] s { s with heap := s.heap.push { cls := .type "list_iterator", data := .fields #[.ref ro, .int 0 0] } } := Kp.push (tk := s.toks)
  have W2 := W.call k2
  have hit : (s.heap.push { cls := .type "list_iterator", data := .fields #[.ref ro, .int 0 0] }).IsListIter I ro 0 := by rw [← hI]; exact ⟨_, Heap.get?_push_size _ rfl, rfl, rfl⟩
  have I0 := W.none hIn
  have item : ∀ j, j < rv.length → ∃ b t, b ∈ (ncs D.ht 10).reverse ∧ rv[j]? = some (.str (bl b) t) := fun j hj => by
    obtain ⟨y, t, ey, e⟩ := strs_get hrv j _ (List.getElem?_eq_getElem hj)
    rw [List.getElem?_map] at ey
    cases e2 : (ncs D.ht 10).reverse[j]? with
    | none => rw [e2] at ey; cases ey
    | some z => rw [e2] at ey; cases ey; exact ⟨z, t, List.mem_of_getElem? e2, by rw [List.getElem?_eq_getElem hj, e]⟩
  refine forL (fun i s' => ∃ m₂, LW D T m₂ cm s' cps lno pbv ∧ (∀ nm : Str, nm ≠ ("laid" : Str) → nm ≠ ("other" : Str) → m₂ nm = m nm) ∧ LsAt s'.heap ro rv ∧ KX [D.L] s s' ∧ s'.heap.IsListIter I ro i ∧ i ≤ rv.length) rv.length (fun j => (rv[j]?).getD .none) hh (fun i s' ⟨m₂, _, _, h2, _, h3, h4⟩ => ⟨h3, ⟨_, h2.isList, by rw [List.size_toArray], fun j hj => by
    rw [List.getElem?_toArray, List.getElem?_eq_getElem hj]; rfl⟩, h4⟩) ?turn ?fin ?start
  case start => exact ⟨m, W2, fun _ _ _ => rfl, lro.keeps k2.all, fun b o _ e => k2.all b o e, hit, Nat.zero_le _⟩
  case turn =>
    rintro i s₂ hlt ⟨m₂, J, jn, jl, jk, ji, jle⟩ s₃ hO hit3
    obtain ⟨b, t, hb, eb⟩ := item i hlt
    show wpAny _ _ (storeName _ _ ((rv[i]?).getD .none)) _ _ _
    rw [eb]
    have J3 := J.off X hO.kp I0 (dullI ji)
    refine J3.st X fun s₄ W4 sm4 => ?_
    have l4 : LsAt s₄.heap ro rv := (jl.of_eq (hO.same _ hlI)).of_eq (sm4 _ (J.lsL jl))
    have i4 : s₄.heap.IsListIter I ro (i + 1) := let ⟨o, e, r⟩ := hit3; ⟨o, (sm4 _ I0.2.2.1).trans e, r⟩
    show wpAny _ _ (execs dLin (envW D)) _ _ _
    refine law_turn (n := n) X W4 ((if_neg (by decide)).trans ((jn _ (by decide) (by decide)).trans hro)) l4 hrv rfl ((if_neg (by decide)).trans ((jn _ (by decide) (by decide)).trans hwd)) (if_pos rfl) ha hb hr fun s₅ m₅ W5 n5 k5 => ?_
    refine ⟨m₅, W5, fun nm h1 h2 => (n5 nm h1).trans ((if_neg h2).trans (jn nm h1 h2)), k5.ls (fun q => W4.lsL l4 (List.mem_singleton.mp q)) l4, fun b o nb e => ?_, ?_, hlt⟩
    · have nb' : b ≠ D.L := fun q => nb (List.mem_singleton.mpr q)
      have nI : b ≠ I := fun q => by rw [q, hIn] at e; cases e
      exact k5 _ _ nb ((sm4 _ nb').trans ((hO.same _ nI).trans (jk _ _ nb e)))
    · obtain ⟨o, e, r⟩ := i4
      exact ⟨o, k5 _ _ (fun q => I0.2.2.1 (List.mem_singleton.mp q)) e, r⟩
  case fin =>
    rintro s₂ s₃ ⟨m₂, J, jn, jl, jk, ji, jle⟩ k3
    have J3 := J.off X k3 I0 (dullI ji)
    refine wpAny_execs_nil ?_
    refine h s₃ m₂ J3 jn fun b o nb e => ?_
    exact k3.keep _ _ (fun q => by rw [List.mem_singleton.mp q, hIn] at e; cases e) (jk _ _ nb e)
theorem law_while {ls : List Str} (hls : ls = (ncs D.ht 10).map bl) (X : LFx G mg mb d D) (hpd : pd ≤ 1) (Tk0 : Tk D T ls pd 0 m cm v s) (hwd : m "word" = some v) (hgo : m "gone" = some (.ref go)) (lgo : LsAt s.heap go []) (Ng : Nw D go)
    (hro : m "row" = some (.ref ro)) (lro : LsAt s.heap ro rv) (Nr : Nw D ro) (hrv : StrsAre rv (((ncs D.ht 10).reverse).map bl)) (ldu : LsAt s.heap du dv) (Nd : Nw D du) (hgr : go ≠ ro) (hgd : go ≠ du) (hlx : cm "lexer" = some (.ref D.a.x)) (hr : Rm (n + 11) A)
    (h : ∀ s' m' gv, LW D T m' cm s' [] 12 [] → (∀ nm : Str, nm ≠ ("laid" : Str) → nm ≠ ("other" : Str) → nm ≠ ("word" : Str) → m' nm = m nm) → LsAt s'.heap go gv → StrsAre gv ls → LsAt s'.heap ro rv → LsAt s'.heap du dv → wpAny (model prog w) A (execs (dLaw.2.1.drop 10) (envW D)) R (fun _ _ => False) s') :
    wpAny (model prog w) A (execs (dLaw.2.1.drop 9) (envW D)) R (fun _ _ => False) s := by
  have hh := hr.2.2
  have hll : ls.length ≤ 10 := by rw [hls, List.length_map]; exact ncs_len D.ht 10
  have zz : ∀ {b : Addr}, Nw D b → ∀ y ∈ [D.a.pb, D.a.dx, D.a.left], b ≠ y := fun N y hy => Nw.ne_lx N X y (by
    simp only [List.mem_cons, List.not_mem_nil, or_false] at hy ⊢
    rcases hy with z | z | z <;> simp [z])
  refine wpAny_execs_cons (wpAny_While (codeAny_whileLoop (WhJ D T ls pd m cm go ro du rv dv) (fun n' s₂ I₂ => ?_) ls.length ⟨0, m, v, [], rfl, Nat.zero_le _, Tk0, hwd, fun _ _ _ _ => rfl, lgo, .nil, lro, ldu⟩))
  obtain ⟨k, m₁, v, gv, rfl, hk, TT, jw, jn, jg, jgs, jr, jd⟩ := I₂
  rcases TT.ex with ⟨t, x, pbv, hlt, hx, rfl, hps, W⟩ | ⟨t, hk2, rfl, W⟩
  · obtain ⟨a, ha, rfl⟩ : ∃ a, a ∈ ncs D.ht 10 ∧ x = bl a := by
      have := List.mem_of_getElem? hx
      rw [hls, List.mem_map] at this
      obtain ⟨a, h1, h2⟩ := this
      exact ⟨a, h1, h2.symm⟩
    have A1 := ncs_mem ha (Nat.le_refl _)
    refine wpAny_isTrue_Compare1 (ldL W.C.I.ns jw (cStr fun t5 tk5 => PyProof.Rows.ne_str (wpAny_truthy_bool ?_)))
    rw [bl_ne (by omega)]
    refine wpAny_mono (Q := fun (f : Flow) s => f = Flow.next ∧ ∃ k', k' < ls.length - k ∧ WhJ D T ls pd m cm go ro du rv dv k' s) (E := fun _ _ => False) ?_ (fun f s' q => ?_) fun _ _ q => q.elim
    · show wpAny _ _ (execs dLwh (envW D)) _ _ _
      have W2 : LW D T m₁ cm { s₂ with toks := tk5 } (List.replicate pd 10) (12 - pd) pbv := W.tok
      have jgl : gv.length ≤ 10 := by rw [strs_len jgs, List.length_take]; omega
      refine wpAny_execs_cons (wpAny_Expr (MethodCall_ (ldL W2.C.I.ns ((jn _ (by decide) (by decide) (by decide)).trans hgo) (methL (s := { s₂ with toks := tk5 }) jg PySem.F.slot_list_append PySem.F.type_list_append ?_))))
      refine callWith_method1 (wpAny_items_cons (ldL W2.C.I.ns jw (wpAny_items_nil ?_)))
      refine appL (s := { s₂ with toks := tk5 }) jg (by omega) fun s₃ l3 o3 => ?_
      have W3 := W2.off X o3.kp Ng (dullL jg)
      have r3 : LsAt s₃.heap ro rv := jr.of_eq (o3.same _ hgr.symm)
      have d3 : LsAt s₃.heap du dv := jd.of_eq (o3.same _ hgd.symm)
      show wpAny _ _ (execs (dLwh.drop 1) (envW D)) _ _ _
      refine law_row (n := n) X W3 ((jn _ (by decide) (by decide) (by decide)).trans hro) r3 hrv jw (List.mem_reverse.mpr ha) hr fun s₄ m₄ W4 n4 k4 => ?_
      refine LW.wset (tk_of (n := n) (k := k + 1) (ls := ls) X W4 hpd hlt hps (by omega) hlx hr fun v' s₅ T5 k5 => ?_)
      have sto : ∀ {b : Addr} {xs : List Value}, Nw D b → LsAt s₃.heap b xs → LsAt s₅.heap b xs := fun {b} {xs} N x => k5.ls (fun q => zz N _ q rfl) (k4.ls (fun q => N.2.2.1 (List.mem_singleton.mp q)) x)
      have g5 := sto Ng l3
      have r5 := sto Nr r3
      have d5 := sto Nd d3
      have gs : StrsAre (gv ++ [.str (bl a) t]) (ls.take (k + 1)) := by
        rw [List.take_succ, hx]
        exact strs_snoc jgs
      have nn : ∀ nm : Str, nm ≠ ("laid" : Str) → nm ≠ ("other" : Str) → nm ≠ ("word" : Str) → upd m₄ "word" v' nm = m nm := fun nm h1 h2 h3 => (if_neg h3).trans ((n4 nm h1 h2).trans (jn nm h1 h2 h3))
      have lt : ls.length - (k + 1) < ls.length - k := by omega
      rcases T5.ex with ⟨t, y, pbv', h1, h2, h3, h4, W5⟩ | ⟨t, h1, h2, W5⟩
      · refine W5.st X fun s₆ W6 sm6 => wpAny_execs_nil ?_
        exact ⟨rfl, _, lt, k + 1, _, _, _, rfl, hlt, ⟨.inl ⟨t, y, pbv', h1, h2, h3, h4, W6⟩⟩, if_pos rfl, nn, g5.of_eq (sm6 _ Ng.2.2.1), gs, r5.of_eq (sm6 _ Nr.2.2.1), d5.of_eq (sm6 _ Nd.2.2.1)⟩
      · refine W5.st X fun s₆ W6 sm6 => wpAny_execs_nil ?_
        exact ⟨rfl, _, lt, k + 1, _, _, _, rfl, hlt, ⟨.inr ⟨t, h1, h2, W6⟩⟩, if_pos rfl, nn, g5.of_eq (sm6 _ Ng.2.2.1), gs, r5.of_eq (sm6 _ Nr.2.2.1), d5.of_eq (sm6 _ Nd.2.2.1)⟩
    · obtain ⟨rfl, q⟩ := q
      exact q
  · refine wpAny_isTrue_Compare1 (ldL W.C.I.ns jw (cStr fun t5 tk5 => PyProof.Rows.ne_str (wpAny_truthy_bool ?_)))
    have e : (("" : Str) != ("" : Str)) = false := by decide +kernel
    rw [e]
    refine wpAny_execs_nil ?_
    have hl : ls.take k = ls := by rw [hk2, List.take_length]
    exact h _ m₁ gv W.tok jn jg (hl ▸ jgs) jr jd
end
end Mine
end
section
open PySem PySem.W PySem.Calls PyProof.Rows
set_option maxRecDepth 100000
set_option Elab.async false
set_option maxHeartbeats 4000000
set_option autoImplicit false
set_option linter.unusedVariables false
namespace Mine
theorem strs_rev : ∀ {vs : List Value} {ss : List Str}, StrsAre vs ss → StrsAre vs.reverse ss.reverse
  | _, _, .nil => .nil
  | _, _, .cons y t r => by rw [List.reverse_cons, List.reverse_cons]; exact strs_snoc (strs_rev r)
theorem ChVs.nil {vs : List Value} (h : ChVs vs []) : vs = [] := by
  cases vs with
  | nil => rfl
  | cons _ _ => exact h.elim
section
variable {prog : Program} {w : World} {A : Around} {M : Model} {E : Value → Shared → Prop} {G : Heap} {mg mb : Str → Option Value} {d : Ads} {D : LD} {T : List Addr} {s s' : Shared} {m m' cm cm' : Str → Option Value} {cps cps' : List Nat} {lno lno' : Int} {pbv pbv' : List Value} {x : Str} {l wl gl sl ro du go : Addr} {nm : Str} {v : Value} {n a b pd : Nat} {R : Flow → Shared → Prop} {xs ws gv sv rv dv : List Value} {tx : Tok} {rs : List Str}
theorem law_ret {ns : List Nat} (X : LFx G mg mb d D) (W : LW D T m cm s [] 12 []) (hgo : m "gone" = some (.ref go)) (lgo : LsAt s.heap go gv) (hgv : StrsAre gv (ns.map bl)) (hro : m "row" = some (.ref ro)) (lro : LsAt s.heap ro rv) (hrv : StrsAre rv (ns.reverse.map bl))
    (hdu : m "due" = some (.ref du)) (ldu : LsAt s.heap du dv) (hdv : StrsAre dv (ns.map bl)) (hlf : m "left" = some (.ref D.a.left)) (hlx : cm "lexer" = some (.ref D.a.x)) (hwm : cm "words" = some (.ref wl)) (hwT : wl ∉ TL D) (hwl : LsAt D.sL.heap wl ws) (hw : Wds ws D.ht) (hnl : ns.length ≤ 10) (hr : Rm (n + 11) A)
    (h : ∀ s', Kp [] s s' → R (.ret (.bool true)) s') :
    wpAny (model prog w) A (execs (dLaw.2.1.drop 10) (envW D)) R (fun _ _ => False) s := by
  have hh := hr.2.2
  have hr7 : Rm (n + 4 + 7) A := hr
  have ok : ∀ l : List Nat, ∀ x ∈ l.map bl, PyData.strOk x = true := fun l x hx => by
    obtain ⟨a, _, rfl⟩ := List.mem_map.mp hx
    exact bl_ok a
  have hdl : dv.length = ns.length := by rw [strs_len hdv, List.length_map]
  refine wpAny_execs_cons (wpAny_Return_some (BoolOp_and (wpAny_Compare1 (ldL W.C.I.ns hgo (ldL W.C.I.ns hdu ?_)))))
  refine eqS (n := n + 4) lgo.isList ldu.isList hgv hdv (ok _) (ok _) hr7 (wpAny_truthy_bool ?_)
  rw [decide_eq_true rfl, if_pos rfl]
  refine BoolOp_and (wpAny_Compare1 (ldL W.C.I.ns hro (Subscript_ (ldL W.C.I.ns hdu (wpAny_Slice (wpAny_pure (wpAny_pure (wpAny_UnaryOp ?_))))))))
  refine wpAny_Constant_int (PyProof.Rows.neg_int ?_)
  generalize hs6 : ({ heap := s.heap.push _, gens := s.gens, drawn := s.drawn, toks := _, os := s.os } : Shared) = s₆
  have k6 : Kp [] s s₆ := by rw [← hs6]; exact Kp.push
  have hsl : ∃ t, s₆.heap.IsSliceOf s.heap.objs.size .none .none (.int (-1) t) := by rw [← hs6]; exact ⟨_, _, Heap.get?_push_size _ rfl, rfl, rfl⟩
  obtain ⟨tt, hsl⟩ := hsl
  have W6 := W.call k6
  refine cutL (ldu.keeps k6.all).isList hsl .none .none (.int _ _) (by decide) (by omega) (fun s₇ r7 n7 l7 k7 => ?_) (by with_unfolding_all rfl)
  rw [PySem.W.krv_pick] at l7
  have W7 := W6.call k7
  have l7' : LsAt s₇.heap r7 dv.reverse := by simpa using l7
  have rd := strs_rev hdv
  rw [← List.map_reverse] at rd
  refine eqS (n := n + 4) ((lro.keeps k6.all).keeps k7.all).isList l7'.isList hrv rd (ok _) (ok _) hr7 (wpAny_truthy_bool ?_)
  rw [decide_eq_true rfl, if_pos rfl]
  obtain ⟨vs, lleft, hch⟩ := W7.lx.left
  cases hch.nil
  refine BoolOp_and (wpAny_Compare1 (ldL W7.C.I.ns hlf (newL (wpAny_items_nil ⟨by rw [sizeLine_eq]; simp, fun s₈ r8 n8 l8 k8 => ?_⟩))))
  have W8 := W7.call k8
  refine eqS (n := n + 4) (ss := []) (ts := []) (lleft.keeps k8.all).isList l8.isList .nil .nil (fun _ h => by cases h) (fun _ h => by cases h) hr7 (wpAny_truthy_bool ?_)
  rw [decide_eq_true rfl, if_pos rfl]
  have Gu := W8.gs X
  obtain ⟨x1, x2, x3, x4, t1, t2, t3, t4, t5, t6, nn, edx⟩ := W8.lx.dx
  refine BoolOp_one (wpAny_Compare1 (Attribute_name (ldC (c := D.L + 1) rfl (W8.cw (nm := "lexer") rfl hlx) ?_)))
  refine attrO (dx := D.a.dx) (Frag.In.keeps X.sg.X Gu) (by rw [X.hC]; exact X.sg.cls) (by rw [X.hC]; exact X.sg.cls.no "lineno" (by decide)) (X.F _ W8.K).x edx rfl rfl fun tk => ?_
  have W9 : LW D T m cm { s₈ with toks := tk } [] 12 [] := W8.tok
  refine wpAny_BinOp (wpAny_Constant_int ?_)
  have WA := W9.tok (tk := tk + 1)
  have gA := WA.glo X
  refine wpAny_Call_Name_kw (ldB (mg := mg) (mb := mb) gA.g (X.sg.no "len" (by decide)) gA.b (gA.name boot_len (by decide)) (cwB (wpAny_items_cons (ldC (c := D.L + 2) rfl (WA.cw (nm := "words") rfl hwm) (wpAny_items_nil ?_)))))
  have lw : LsAt s₈.heap wl ws := let ⟨nn, e⟩ := hwl; ⟨nn, W8.K _ _ hwT e⟩
  refine len1 lw.isList (by rw [List.size_toArray, hw.len]; decide) fun t5 s₉ k9 => ?_
  rw [List.size_toArray, hw.len]
  refine PyProof.Rows.add_int (PyProof.Rows.eq_int ?_)
  have e : ((12 : Int) == 1 + ((11 : Nat) : Int)) = true := by decide
  rw [e]
  refine h _ ?_
  exact ⟨fun b o n e => k9.all _ _ (k8.all _ _ (k7.all _ _ (k6.all _ _ e))), k9.os.trans (k8.os.trans (k7.os.trans k6.os)), fun g => k9.gens (k8.gens (k7.gens (k6.gens g)))⟩
end
end Mine
end
section
open PySem PySem.W PySem.Calls PyProof.Rows
set_option maxRecDepth 100000
set_option Elab.async false
set_option maxHeartbeats 4000000
set_option autoImplicit false
set_option linter.unusedVariables false
namespace Mine
section
variable {prog : Program} {w : World} {A : Around} {M : Model} {E : Value → Shared → Prop} {G : Heap} {mg mb : Str → Option Value} {d : Ads} {s s' : Shared} {n : Nat} {R : Result → Shared → Prop}
theorem law_spec {sc fW c1 c2 c3 c4 P1 P2 P3 P4 : Addr} {ivs : List Value} {ns : List Int} {cdv : Value} (sg : Sg G mg mb d) (hG : ∀ b o, G.get? b = some o → s.heap.get? b = some o) (hW : FnAt s.heap fW "law" "law" dLaw [] .none .none cdv)
    (hc1 : d.cLS = .ref c1) (hc2 : d.cLH = .ref c2) (hc3 : cdv = .ref c3) (hc4 : d.cLC = .ref c4) (tb : ∀ P ∈ [P1, P2, P3, P4], s.heap.get? P = some (tabObj #[])) (h1 : CodeHd s.heap c1 P1) (h2 : CodeHd s.heap c2 P2) (h3 : CodeHd s.heap c3 P3) (h4 : CodeHd s.heap c4 P4)
    (pp : P1 ≠ P2 ∧ P1 ≠ P3 ∧ P1 ≠ P4 ∧ P2 ≠ P3 ∧ P2 ≠ P4 ∧ P3 ≠ P4) (hP : ∀ P ∈ [P1, P2, P3, P4], G.get? P = none) (hs : s.heap.IsList sc ivs.toArray) (hi : IntsAre ivs ns) (hn : ns.length ≤ 63) (hr : Rm (n + 12) A)
    (h : ∀ s', Kp [P4, P3, P2, P1] s s' → (∀ P ∈ [P1, P2, P3, P4], ∃ ps, s'.heap.get? P = some (tabObj ps)) → R (.ok (.ret (.bool true))) s') :
    codeAny (model prog w) A (.call (.ref fW) ⟨[.ref sc], []⟩) R s := by
  refine law_top (n := n) sg hG hW hc1 hc2 hc3 hc4 tb h1 h2 h3 h4 pp hP hs hi hn hr fun D A' m cm s₁ e0 X W hlx hlf hr' hDP => ?_
  refine law_words (n := n) X W hlx hr' fun s₂ cm₂ wl ws pd W2 hpd hlx2 hwm2 hwl hw hwT => ?_
  obtain ⟨X', W2'⟩ := X.rebase W2
  have hwl' : LsAt ({ D with sL := s₂ } : LD).sL.heap wl ws := hwl
  refine law_4 (n := n) (D := { D with sL := s₂ }) X' W2' hwm2 hwT hwl' hw hr' fun s₃ W3 => ?_
  refine law_5 (n := n) (D := { D with sL := s₂ }) X' W3 hwm2 hwT hwl' hw hr' fun s₄ W4 => ?_
  refine law_6 (n := n) (D := { D with sL := s₂ }) X' W4 hr' fun s₅ m₅ ro du W5 hro hdu hl5 lro ldu Nr Nd hne => ?_
  refine law_loop (n := n) (D := { D with sL := s₂ }) X' W5 hlx2 hwm2 hwT hwl' hw hro hdu (hl5.trans hlf) lro ldu Nr Nd hne hr' fun s₆ m₆ cm₆ pbv rv dv W6 hlx6 hwm6 hro6 hdu6 hlf6 lro6 ldu6 srv sdv spb => ?_
  have hll : ((ncs D.ht 10).map bl).length ≤ 10 := by rw [List.length_map]; exact ncs_len D.ht 10
  refine law_8 (n := n) (D := { D with sL := s₂ }) (ls := (ncs D.ht 10).map bl) X' W6 hpd spb (by omega) hlx6 hr' fun s₇ m₇ go v Tk7 hgo hwd nm7 lgo ngo k7 => ?_
  have Ng := W6.none ngo
  have zz : ∀ {b : Addr}, Nw { D with sL := s₂ } b → b ∉ [D.L, D.a.pb, D.a.dx, D.a.left] := fun N z => by
    simp only [List.mem_cons, List.not_mem_nil, or_false] at z
    rcases z with z | z | z | z
    · exact N.2.2.1 z
    · exact Nw.ne_lx N X' D.a.pb (by simp) z
    · exact Nw.ne_lx N X' D.a.dx (by simp) z
    · exact Nw.ne_lx N X' D.a.left (by simp) z
  have hgr : go ≠ ro := let ⟨nn, e⟩ := lro6; ne_of_none ngo e
  have hgd : go ≠ du := let ⟨nn, e⟩ := ldu6; ne_of_none ngo e
  refine law_while (n := n) (D := { D with sL := s₂ }) (ls := (ncs D.ht 10).map bl) rfl X' hpd Tk7 hwd hgo lgo Ng ((nm7 _ (by decide) (by decide)).trans hro6) (k7.ls (zz Nr) lro6) Nr srv (k7.ls (zz Nd) ldu6) Nd hgr hgd hlx6 hr' fun s₈ m₈ gv W8 nm8 lg8 sg8 lr8 ld8 => ?_
  have nm : ∀ x : Str, x ≠ ("laid" : Str) → x ≠ ("other" : Str) → x ≠ ("word" : Str) → x ≠ ("gone" : Str) → m₈ x = m₆ x := fun x h1 h2 h3 h4 => (nm8 x h1 h2 h3).trans (nm7 x h4 h3)
  refine law_ret (n := n) (D := { D with sL := s₂ }) (ns := ncs D.ht 10) X' W8 ((nm8 _ (by decide) (by decide) (by decide)).trans hgo) lg8 sg8 ((nm _ (by decide) (by decide) (by decide) (by decide)).trans hro6) lr8 srv ((nm _ (by decide) (by decide) (by decide) (by decide)).trans hdu6) ld8 sdv ((nm _ (by decide) (by decide) (by decide) (by decide)).trans hlf6) hlx6 hwm6 hwT hwl' hw (ncs_len D.ht 10) hr' fun s₉ k9 => ?_
  have k := (W8.call k9).C.I.kp
  have ex := (W8.call k9).exP
  obtain ⟨q1, q2, q3, q4⟩ := hDP
  subst q1 q2 q3 q4 e0
  exact h s₉ k ex
end
end Mine
end
section
open PySem PySem.W PySem.Calls PyProof.Rows
set_option maxRecDepth 100000
set_option Elab.async false
set_option maxHeartbeats 4000000
set_option autoImplicit false
set_option linter.unusedVariables false
namespace Mine
/-! what the written heap holds, looked up -/
def gA (K : Frag) (x : Str) : Addr := match nsIn K mainGlobals x with
  | some (some (.ref a)) => a
  | _ => 0
def mA (K : Frag) (C : Addr) (x : Str) : Addr := match findIn K (.ref C) x with
  | some (some (.ref a)) => a
  | _ => 0
def fdO (K : Frag) (f : Addr) : Option FuncData := match K.lookup f with
  | some ⟨_, _, .func fd, _⟩ => some fd
  | _ => none
def fV (K : Frag) (f : Addr) (g : FuncData → Value) : Value := match fdO K f with
  | some fd => g fd
  | none => .none
def fAn (K : Frag) (f : Addr) : Option Addr := match fdO K f with
  | some fd => fd.annotations
  | none => none
def codeQ (K : Frag) (v : Value) (q : Str) : Bool := match v with
  | .ref c => (match K.lookup c with
    | some ⟨_, _, .fields vs, _⟩ => (match (vs[1]? : Option Value) with
      | some (.str q' _) => q' == q
      | _ => false)
    | _ => false)
  | _ => false
theorem codeQ_of {K : Frag} {h : Heap} {v : Value} {q : Str} (X : K.In h) (e : codeQ K v q = true) : h.CodeRec v q := by
  unfold codeQ at e
  split at e
  · split at e
    · rename_i hc
      split at e
      · rename_i hv
        rw [beq_iff_eq] at e
        subst e
        exact ⟨_, _, _, _, rfl, X _ _ hc, rfl, hv⟩
      · cases e
    · cases e
  · cases e
/-- a def of the text, at f, as the written heap has it -/
structure FnK (K : Frag) (f : Addr) (name qual : Str) (d : Arguments × List Stmt × Scope) (dV kV : Value) : Prop where
  fd : fdO K f = some (fnX name qual d.1 d.2.1 d.2.2 [] dV kV (fV K f (·.doc)) (fV K f (·.pyModule)) (fAn K f) (fV K f (·.code)) (fV K f (·.closureTuple)))
  cq : codeQ K (fV K f (·.code)) qual = true
theorem FnK.at_ {K : Frag} {h : Heap} {f : Addr} {name qual : Str} {d : Arguments × List Stmt × Scope} {dV kV : Value} (x : FnK K f name qual d dV kV) (X : K.In h) : FnAt h f name qual d [] dV kV (fV K f (·.code)) := by
  obtain ⟨e, e2⟩ := x
  have e' := e
  unfold fdO at e'
  split at e'
  · rename_i hk
    exact ⟨_, _, _, _, _, X _ _ hk, congrArg Data.func (Option.some.inj e'), codeQ_of X e2⟩
  · cases e'
inductive DfIn (K : Frag) (dV kV : Value) : Prop
  | mk (T D : Addr) (t u : Tok) (hs : Int) (n e : Nat) (h1 : dV = .ref T) (h2 : kV = .ref D) (h3 : K.lookup T = some ⟨.type "tuple", none, .seq #[.int 0 t, .none] n, #[]⟩) (h4 : K.lookup D = some ⟨.type "dict", none, .dict #[⟨hs, .str "key" u, .none⟩] e, #[]⟩)
theorem dfIn_of {K : Frag} {h : Heap} {dV kV : Value} (X : K.In h) (x : DfIn K dV kV) : DfltAt h dV kV :=
  let ⟨T, D, t, u, hs, n, e, e1, e2, e3, e4⟩ := x
  ⟨T, D, t, u, hs, n, e, e1, e2, X _ _ e3, X _ _ e4⟩
def adsOf (K : Frag) : Ads :=
  let C := gA K "_netrclex"
  { K := K, C := C, fIR := gA K "insort_right", fBR := gA K "bisect_right", fBL := gA K "bisect_left", fSC := gA K "_strcoll", fSX := gA K "_strxfrm", fGI := gA K "_grouping_intervals", fLS := gA K "_law_stream",
    fLL := gA K "_law_line", fLW := gA K "_law_written", fLH := gA K "_law_by_height", fLC := gA K "_law_crossed", fIN := mA K C "__init__", fRC := mA K C "_read_char", fGT := mA K C "get_token", fPT := mA K C "push_token",
    dIR := fV K (gA K "insort_right") (·.defaults), kIR := fV K (gA K "insort_right") (·.kwdefaults), dBR := fV K (gA K "bisect_right") (·.defaults), kBR := fV K (gA K "bisect_right") (·.kwdefaults),
    dBL := fV K (gA K "bisect_left") (·.defaults), kBL := fV K (gA K "bisect_left") (·.kwdefaults), cIR := fV K (gA K "insort_right") (·.code), cBR := fV K (gA K "bisect_right") (·.code), cBL := fV K (gA K "bisect_left") (·.code),
    cSC := fV K (gA K "_strcoll") (·.code), cSX := fV K (gA K "_strxfrm") (·.code), cGI := fV K (gA K "_grouping_intervals") (·.code), cLS := fV K (gA K "_law_stream") (·.code), cLL := fV K (gA K "_law_line") (·.code),
    cLW := fV K (gA K "_law_written") (·.code), cLH := fV K (gA K "_law_by_height") (·.code), cLC := fV K (gA K "_law_crossed") (·.code), cIN := fV K (mA K C "__init__") (·.code), cRC := fV K (mA K C "_read_char") (·.code),
    cGT := fV K (mA K C "get_token") (·.code), cPT := fV K (mA K C "push_token") (·.code) }
def gOk (K : Frag) : Bool := (["insort_right", "bisect_right", "bisect_left", "_strcoll", "_strxfrm", "_grouping_intervals", "_netrclex", "_law_stream", "_law_line", "_law_written", "_law_by_height", "_law_crossed", "law"] : List Str).all fun x => nsIn K mainGlobals x == some (some (.ref (gA K x)))
def cmIn (K : Frag) : Bool := match nsIn K mainGlobals "CHAR_MAX" with
  | some (some (.int 127 _)) => true
  | _ => false
def noOk (K : Frag) : Bool := (["len", "range", "min", "max", "list", "sorted", "repr", "zip", "iter"] : List Str).all fun x => nsIn K mainGlobals x == some none
def noAt (K : Frag) (C : Addr) : Bool := (["lineno", "instream", "whitespace", "pushback", "read"] : List Str).all fun x => findIn K (.ref C) x == some none
def cutK (K : Frag) : Frag := K.filter fun p => !(([106, 127, 139, 134] : List Addr).contains p.1)
theorem cutK_lookup {K : Frag} {a : Addr} {o : Obj} (e : (cutK K).lookup a = some o) : a ∉ ([106, 127, 139, 134] : List Addr) ∧ K.lookup a = some o := by
  unfold cutK at e
  induction K with
  | nil => cases e
  | cons p r ih =>
    rw [List.filter_cons] at e
    cases hc : ([106, 127, 139, 134] : List Addr).contains p.1 with
    | true =>
      rw [hc] at e
      obtain ⟨h1, h2⟩ := ih e
      refine ⟨h1, ?_⟩
      rw [List.lookup_cons]
      have hne : (a == p.1) = false := by
        rw [beq_eq_false_iff_ne]
        intro q
        rw [← q, List.contains_iff_mem] at hc
        exact h1 hc
      rw [hne]
      exact h2
    | false =>
      rw [hc] at e
      have e2 : List.lookup a (p :: List.filter (fun p => !(([106, 127, 139, 134] : List Addr).contains p.1)) r) = some o := e
      rw [List.lookup_cons] at e2 ⊢
      cases ha : a == p.1 with
      | true =>
        rw [ha] at e2
        refine ⟨fun hm => ?_, e2⟩
        rw [eq_of_beq ha, ← List.contains_iff_mem, hc] at hm
        cases hm
      | false =>
        rw [ha] at e2
        exact ih e2
def tOk (K : Frag) : Bool := tabIn K "_law_stream" == some (110, 106) && tabIn K "_law_by_height" == some (131, 127) && tabIn K "law" == some (141, 139) && tabIn K "_law_crossed" == some (136, 134)
def cdOk (K : Frag) : Bool := (adsOf K).cLS == .ref 110 && (adsOf K).cLH == .ref 131 && fV K (gA K "law") (·.code) == .ref 141 && (adsOf K).cLC == .ref 136
def clsOk (K : Frag) : Bool := let C := gA K "_netrclex"
  findIn K (.ref C) "__getattribute__" == some (some (.builtin "object.__getattribute__")) && findIn K (.ref C) "__getattr__" == some none && hasDictIn K C && findIn K (.ref C) "__setattr__" == some (some (.builtin "object.__setattr__")) && plainOver K C && noAt K C
def meOk (K : Frag) : Bool := let C := gA K "_netrclex"
  (["_read_char", "get_token", "push_token", "__init__"] : List Str).all (fun x => findIn K (.ref C) x == some (some (.ref (mA K C x))) && isFn K (.ref (mA K C x))) && specialIn K (.ref (mA K C "_read_char")) "__get__" == some (some (.builtin "function.__get__")) && takesIn K (.ref (mA K C "_read_char")) == some false && makesIn K C && keepIn K (.ref C)
structure Chk (K : Frag) : Prop where
  g : gOk K = true
  cm : cmIn K = true
  no : noOk K = true
  cd : cdOk K = true
  cls : clsOk K = true
  me : meOk K = true
  f1 : DfIn K (adsOf K).dIR (adsOf K).kIR
  f2 : DfIn K (adsOf K).dBR (adsOf K).kBR
  f3 : DfIn K (adsOf K).dBL (adsOf K).kBL
  IR : FnK K (gA K "insort_right") "insort_right" "insort_right" dIR (adsOf K).dIR (adsOf K).kIR
  BR : FnK K (gA K "bisect_right") "bisect_right" "bisect_right" dBR (adsOf K).dBR (adsOf K).kBR
  BL : FnK K (gA K "bisect_left") "bisect_left" "bisect_left" dBL (adsOf K).dBL (adsOf K).kBL
  SC : FnK K (gA K "_strcoll") "_strcoll" "_strcoll" dSC .none .none
  SX : FnK K (gA K "_strxfrm") "_strxfrm" "_strxfrm" dSX .none .none
  GI : FnK K (gA K "_grouping_intervals") "_grouping_intervals" "_grouping_intervals" dGI .none .none
  LS : FnK K (gA K "_law_stream") "_law_stream" "_law_stream" dLS .none .none
  LL : FnK K (gA K "_law_line") "_law_line" "_law_line" dLL .none .none
  LW : FnK K (gA K "_law_written") "_law_written" "_law_written" dLW .none .none
  LH : FnK K (gA K "_law_by_height") "_law_by_height" "_law_by_height" dLH .none .none
  LC : FnK K (gA K "_law_crossed") "_law_crossed" "_law_crossed" dLC .none .none
  law : FnK K (gA K "law") "law" "law" dLaw .none .none
  IN : FnK K (adsOf K).fIN "__init__" "_netrclex.__init__" dIN .none .none
  RC : FnK K (adsOf K).fRC "_read_char" "_netrclex._read_char" dRC .none .none
  GT : FnK K (adsOf K).fGT "get_token" "_netrclex.get_token" dGT .none .none
  PT : FnK K (adsOf K).fPT "push_token" "_netrclex.push_token" dPT .none .none
end Mine
end
section
open PySem PySem.W PySem.Calls PyProof.Rows
set_option maxRecDepth 100000
set_option Elab.async false
set_option maxHeartbeats 4000000
set_option autoImplicit false
set_option linter.unusedVariables false
namespace Mine
abbrev tabs4 : List (Addr × Addr) := [(110, 106), (131, 127), (141, 139), (136, 134)]
theorem all_eq {α β : Type} [BEq β] [LawfulBEq β] {l : List α} {f g : α → β} (h : (l.all fun x => f x == g x) = true) : ∀ x ∈ l, f x = g x := fun x hx => eq_of_beq (List.all_eq_true.mp h x hx)
theorem tabs_of {K : Frag} {h : Heap} {p : Program} {loose : List Str} {mean : ExcName → Option Value} {mg mb : Str → Option Value} (KX : K.In h) (T : Top p loose mean mg mb h) (ht : tOk K = true)
    (r1 : ∃ d, (recsOf p).find? (fun e => e.name == ("_law_stream" : Str)) = some d) (r2 : ∃ d, (recsOf p).find? (fun e => e.name == ("_law_by_height" : Str)) = some d) (r3 : ∃ d, (recsOf p).find? (fun e => e.name == ("law" : Str)) = some d) (r4 : ∃ d, (recsOf p).find? (fun e => e.name == ("_law_crossed" : Str)) = some d) : TabsAt tabs4 h := by
  unfold tOk at ht
  simp only [Bool.and_eq_true] at ht
  obtain ⟨⟨⟨h1, h2⟩, h3⟩, h4⟩ := ht
  obtain ⟨d1, r1⟩ := r1
  obtain ⟨d2, r2⟩ := r2
  obtain ⟨d3, r3⟩ := r3
  obtain ⟨d4, r4⟩ := r4
  intro q hq
  simp only [List.mem_cons, List.not_mem_nil, or_false] at hq
  rcases hq with rfl | rfl | rfl | rfl
  · exact tab_of T KX r1 (eq_of_beq h1)
  · exact tab_of T KX r2 (eq_of_beq h2)
  · exact tab_of T KX r3 (eq_of_beq h3)
  · exact tab_of T KX r4 (eq_of_beq h4)
theorem sg_of {K : Frag} {h : Heap} {p : Program} {loose : List Str} {mean : ExcName → Option Value} {mg mb : Str → Option Value} (KX : K.In h) (T : Top p loose mean mg mb h) (hT : TabsAt tabs4 h) (Z : Chk (cutK K)) :
    Sg (ghostOf h tabs4) mg mb (adsOf (cutK K)) := by
  have X : (cutK K).In (ghostOf h tabs4) := fun a o e => ghost_ne (KX a o (cutK_lookup e).2) (cutK_lookup e).1
  have Tg := ghost_ns hT T.g
  have G1 := all_eq (f := fun x => nsIn (cutK K) mainGlobals x) Z.g
  have mg1 : ∀ x ∈ (["insort_right", "bisect_right", "bisect_left", "_strcoll", "_strxfrm", "_grouping_intervals", "_netrclex", "_law_stream", "_law_line", "_law_written", "_law_by_height", "_law_crossed", "law"] : List Str), mg x = some (.ref (gA (cutK K) x)) := fun x hx => mg_of X Tg (G1 x hx)
  have N1 := all_eq (f := fun x => nsIn (cutK K) mainGlobals x) (g := fun _ => some none) Z.no
  have cls := Z.cls
  unfold clsOk at cls
  simp only [Bool.and_eq_true] at cls
  obtain ⟨⟨⟨⟨⟨k1, k2⟩, k3⟩, k4⟩, k5⟩, k6⟩ := cls
  have me := Z.me
  unfold meOk at me
  simp only [Bool.and_eq_true] at me
  obtain ⟨⟨⟨⟨e1, e2⟩, e3⟩, e4⟩, e5⟩ := me
  have e1' : ∀ x ∈ (["_read_char", "get_token", "push_token", "__init__"] : List Str), findIn (cutK K) (.ref (gA (cutK K) "_netrclex")) x = some (some (.ref (mA (cutK K) (gA (cutK K) "_netrclex") x))) ∧ isFn (cutK K) (.ref (mA (cutK K) (gA (cutK K) "_netrclex") x)) = true := fun x hx => by
    have := List.all_eq_true.mp e1 x hx
    simp only [Bool.and_eq_true] at this
    exact ⟨eq_of_beq this.1, this.2⟩
  refine ⟨X, ⟨Tg, ghost_ns hT T.b, ?_, T.builtins⟩, ⟨eq_of_beq k1, eq_of_beq k2, k3, eq_of_beq k4, k5, all_eq (f := fun x => findIn (cutK K) (.ref (gA (cutK K) "_netrclex")) x) (g := fun _ => some none) k6⟩, fun x hx => mg_none_of X Tg (N1 x hx),
    mg1 _ (by simp), mg1 _ (by simp), mg1 _ (by simp), mg1 _ (by simp), mg1 _ (by simp), mg1 _ (by simp), mg1 _ (by simp), mg1 _ (by simp), mg1 _ (by simp), mg1 _ (by simp), mg1 _ (by simp), mg1 _ (by simp), ?_,
    Z.IR.at_ X, Z.BR.at_ X, Z.BL.at_ X, dfIn_of X Z.f1, dfIn_of X Z.f2, dfIn_of X Z.f3, Z.SC.at_ X, Z.SX.at_ X, Z.GI.at_ X, Z.LS.at_ X, Z.LL.at_ X, Z.LW.at_ X, Z.LH.at_ X, Z.LC.at_ X, Z.IN.at_ X, Z.RC.at_ X, Z.GT.at_ X, Z.PT.at_ X,
    (e1' _ (by simp)).1, (e1' _ (by simp)).1, (e1' _ (by simp)).1, (e1' _ (by simp)).1, (e1' "_read_char" (by simp)).2, (e1' "get_token" (by simp)).2, (e1' "push_token" (by simp)).2, (e1' "__init__" (by simp)).2, eq_of_beq e2, eq_of_beq e3, ?_, e4, e5⟩
  · obtain ⟨mc, a, r⟩ := T.nolimit
    exact ⟨mc, ghost_ns hT a, r⟩
  · have cm := Z.cm
    unfold cmIn at cm
    split at cm
    · rename_i e
      exact ⟨_, mg_of X Tg e⟩
    · cases cm
  · obtain ⟨bm, ob, a1, a2, a3, a4, a5, a6⟩ := (ghost_top hT T).bmain
    refine ⟨bm, ob, a1, a2, fun q => ?_, a3, a4, a5, a6⟩
    obtain ⟨o, es, ep, e1, e2, _⟩ := Tg
    rw [q, e1] at a3
    cases a3
    rw [a6] at e2
    cases e2
theorem law_post {c : ClaimW} {cl : Str → Option Addr} {mean : ExcName → Option Value} {args : List WData} {s₁ s' : Shared} {tabs : List (Addr × Addr)} (hT : TabsAt tabs s₁.heap) (hk : ∀ b o, b ∉ tabs.map (·.2) → s₁.heap.get? b = some o → s'.heap.get? b = some o)
    (hgr : ∀ q ∈ tabs, ∃ ps, s'.heap.get? q.2 = some (tabObj ps)) (hos : s'.os = s₁.os) (hg : AllBare s'.gens) (hr : ∀ x, c.raises args x = false) (hp : c.post args (.bool true) args = true) : GoodWG c cl mean args s₁ (.ok (.ret (.bool true))) s' := by
  refine ⟨.inl ⟨.bool true, .bool true, [], rfl, hr, .bool true, hp, unshared_nil⟩, ⟨fun b o e => ?_, fun b o e => ?_⟩, hos, hg⟩
  · by_cases hb : b ∈ tabs.map (·.2)
    · obtain ⟨q, hq, rfl⟩ := List.mem_map.mp hb
      have e2 := (hT q hq).2
      rw [e] at e2
      obtain ⟨ps, hP⟩ := hgr q hq
      cases Option.some.inj e2
      exact .inr (.inl ⟨((hT q hq).1.tab (hT q hq).2).isCodeTable, rfl, #[], ps, rfl, by rw [Array.empty_append]; exact hP⟩)
    · exact .inl (hk b o hb e)
  · by_cases hb : b ∈ tabs.map (·.2)
    · obtain ⟨q, hq, rfl⟩ := List.mem_map.mp hb
      obtain ⟨ps, hP⟩ := hgr q hq
      exact ⟨_, hP⟩
    · exact ⟨o, hk b o hb e⟩
theorem law_final {prog : Program} {w : World} {E : Value → Shared → Prop} {K : Frag} {s₁ : Shared} {p : Program} {loose : List Str} {mean mean' : ExcName → Option Value} {mg mb : Str → Option Value} {c : ClaimW} {cl : Str → Option Addr} {args : List WData} {fa sc : Addr} {ivs : List Value} {ns : List Int}
    (KX : K.In s₁.heap) (T : Top p loose mean mg mb s₁.heap) (hT : TabsAt tabs4 s₁.heap) (Z : Chk (cutK K)) (hg : s₁.gens = #[]) (hmg : mg "law" = some (.ref fa)) (hL : s₁.heap.IsList sc ivs.toArray) (hI : IntsAre ivs ns) (hn : ns.length ≤ 63)
    (hr : ∀ x, c.raises args x = false) (hp : c.post args (.bool true) args = true) :
    wpAny (model prog w) callerA (call (.ref fa) [.ref sc]) (fun v s' => GoodWG c cl mean' args s₁ (.ok (.ret v)) s') E s₁ := by
  have X : (cutK K).In (ghostOf s₁.heap tabs4) := fun a o e => ghost_ne (KX a o (cutK_lookup e).2) (cutK_lookup e).1
  have hf : fa = gA (cutK K) "law" := by
    have e := mg_of X (ghost_ns hT T.g) (all_eq (f := fun x => nsIn (cutK K) mainGlobals x) Z.g "law" (by simp))
    rw [hmg] at e
    cases e
    rfl
  subst hf
  have cd := Z.cd
  unfold cdOk at cd
  simp only [Bool.and_eq_true] at cd
  obtain ⟨⟨⟨q1, q2⟩, q3⟩, q4⟩ := cd
  have old : ∀ b o, (ghostOf s₁.heap tabs4).get? b = some o → s₁.heap.get? b = some o := fun b o e => of_hideAll _ e
  refine wpAny_call ?_
  refine law_spec (n := 0) (G := ghostOf s₁.heap tabs4) (d := adsOf (cutK K)) (mg := mg) (mb := mb) (c1 := 110) (c2 := 131) (c3 := 141) (c4 := 136) (P1 := 106) (P2 := 127) (P3 := 139) (P4 := 134) (sg_of KX T hT Z) old ((Z.law.at_ X).keeps old) (eq_of_beq q1) (eq_of_beq q2) (eq_of_beq q3) (eq_of_beq q4) ?tb
    (hT (110, 106) (by simp)).1 (hT (131, 127) (by simp)).1 (hT (141, 139) (by simp)).1 (hT (136, 134) (by simp)).1 (by decide) ?hP hL hI hn ⟨by decide, by decide, rfl⟩ fun s' k ex => ?_
  case tb =>
    intro P hP
    simp only [List.mem_cons, List.not_mem_nil, or_false] at hP
    rcases hP with rfl | rfl | rfl | rfl
    · exact (hT (110, 106) (by simp)).2
    · exact (hT (131, 127) (by simp)).2
    · exact (hT (141, 139) (by simp)).2
    · exact (hT (136, 134) (by simp)).2
  case hP =>
    intro P hP
    exact hideAll_none _ hP
  show GoodWG _ _ _ _ _ _ _
  refine law_post hT (fun b o nb e => k.keep b o (fun z => nb ?_) e) (fun q hq => ?_) k.os (k.gens (by rw [hg]; exact AllBare.empty)) hr hp
  · simp only [List.mem_cons, List.not_mem_nil, or_false, List.map_cons, List.map_nil] at z ⊢
    rcases z with z | z | z | z <;> simp [z]
  · simp only [List.mem_cons, List.not_mem_nil, or_false] at hq
    rcases hq with rfl | rfl | rfl | rfl
    · exact ex 106 (by simp)
    · exact ex 127 (by simp)
    · exact ex 139 (by simp)
    · exact ex 134 (by simp)
end Mine
end
section
open PySem PySem.W PySem.Calls PyProof.Rows
set_option maxRecDepth 100000
set_option Elab.async false
set_option maxHeartbeats 0
set_option autoImplicit false
set_option linter.unusedVariables false
namespace Mine
/-! the head: the text's run, by the kernel's own evaluation, in pieces; what is written of the heap is made from the program's own term -/
abbrev pw := PySem.Challenge.pw_rl0052_01
/-- the text's statements that the view keeps -/
noncomputable def qV : Program := { pw with main := { pw.main with body := ([5, 6, 7, 8, 10, 12, 13, 14, 15, 16, 17] : List Nat).filterMap (pw.main.body[·]?) } }
def de (P : Params) (x : Str) (t : Tok) (v : Value) : DictEntry := ⟨PyData.keyHash P x, .str x t, v⟩
def fnO (name qual : Str) (d : Arguments × List Stmt × Scope) (dV kV pm cd : Value) : Obj := ⟨.type "function", none, .func (fnX name qual d.1 d.2.1 d.2.2 [] dV kV .none pm none cd .none), #[]⟩
def fnT (name qual : Str) (d : Arguments × List Stmt × Scope) : Obj := ⟨.none, none, .func { name := name, qualname := qual, params := d.1, body := .stmts d.2.1, scope := d.2.2, globals := 0, closure := [], defaults := .none, kwdefaults := .none }, #[]⟩
noncomputable def qo43 (P : Params) : Obj := { cls := .type "tuple", data := .seq #[] }
noncomputable def qo44 (P : Params) : Obj := { cls := .none, data := .fields #[] }
noncomputable def qo45 (P : Params) : Obj := { cls := .type "code", data := .fields #[.str ("<module>") 182, .str ("<module>") 183, .str ("/claim/cut.py") 184, .int 1 0, .int 0 0, .int 0 0, .int 0 0, .int 0 0, .ref 11, .bool false, .int 181 0, .ref 12, .none, .none, .none, .none, .int 185 0, .int 1 0, .str ("/claim/cut.py") 186] }
noncomputable def qo46 (P : Params) : Obj := { cls := .type "frame", slots := #[some (.ref 13), some (.ref 3), some (.ref 3), none, some (.str ("__main__") 164), none, some (.ref 0)] }
noncomputable def qo49 (P : Params) : Obj := { cls := .type "dict", data := .dict #[de P "__name__" 165 (.str ("cpy313.netrc") 258), de P "__doc__" 166 (.none), de P "__package__" 167 (.none), de P "__loader__" 168 (.builtin "__main__.__loader__#opaque"), de P "__spec__" 169 (.none), de P "__annotations__" 170 (.ref 6), de P "__builtins__" 171 (.ref 4), de P "__file__" 173 (.str ("/claim/cut.py") 172), de P "__cached__" 174 (.none), de P "insort_right" 201 (.ref 23), de P "bisect_right" 215 (.ref 32), de P "bisect_left" 229 (.ref 41), de P "_strcoll" 239 (.ref 48), de P "_strxfrm" 246 (.ref 55), de P "CHAR_MAX" 248 (.int 127 247), de P "_grouping_intervals" 257 (.ref 62)] 16 }
noncomputable def qo50 (P : Params) : Obj := { cls := .none, data := .fields #[.int 2 0, .int 0 0, .ref 22, .int 8 0, .int 0 0, .ref 31, .int 28 0, .int 0 0, .ref 40, .int 49 0, .int 0 0, .ref 47, .int 51 0, .int 0 0, .ref 54, .int 54 0, .int 0 0, .ref 61] }
noncomputable def qo51 (P : Params) : Obj := { cls := .type "tuple", data := .seq #[.int 0 189, .none] }
noncomputable def qo52 (P : Params) : Obj := { cls := .type "dict", data := .dict #[de P "key" 190 (.none)] 1 }
noncomputable def qo55 (P : Params) : Obj := { cls := .type "tuple", data := .seq #[.str ("a") 194, .str ("x") 195, .str ("lo") 196, .str ("hi") 197, .str ("key") 198] }
noncomputable def qo57 (P : Params) : Obj := fnT "insort_right" "insort_right" dIR
noncomputable def qo58 (P : Params) : Obj := { cls := .type "code", data := .fields #[.str ("insort_right") 191, .str ("insort_right") 192, .str ("/claim/cut.py") 193, .int 2 0, .int 4 0, .int 0 0, .int 1 0, .int 3 0, .ref 17, .bool true, .int 181 0, .ref 18, .none, .ref 19, .ref 20, .ref 21, .int 199 0, .int 2 0, .str ("/claim/cut.py") 200] }
noncomputable def qo59 (P : Params) : Obj := fnO "insort_right" "insort_right" dIR (.ref 15) (.ref 16) (.str ("cpy313.bisect") 187) (.ref 22)
noncomputable def qo60 (P : Params) : Obj := { cls := .type "tuple", data := .seq #[.int 0 202, .none] }
noncomputable def qo61 (P : Params) : Obj := { cls := .type "dict", data := .dict #[de P "key" 203 (.none)] 1 }
noncomputable def qo64 (P : Params) : Obj := { cls := .type "tuple", data := .seq #[.str ("a") 207, .str ("x") 208, .str ("lo") 209, .str ("hi") 210, .str ("key") 211, .str ("mid") 212] }
noncomputable def qo66 (P : Params) : Obj := fnT "bisect_right" "bisect_right" dBR
noncomputable def qo67 (P : Params) : Obj := { cls := .type "code", data := .fields #[.str ("bisect_right") 204, .str ("bisect_right") 205, .str ("/claim/cut.py") 206, .int 8 0, .int 4 0, .int 0 0, .int 1 0, .int 3 0, .ref 26, .bool true, .int 181 0, .ref 27, .none, .ref 28, .ref 29, .ref 30, .int 213 0, .int 8 0, .str ("/claim/cut.py") 214] }
noncomputable def qo68 (P : Params) : Obj := fnO "bisect_right" "bisect_right" dBR (.ref 24) (.ref 25) (.str ("cpy313.bisect") 187) (.ref 31)
noncomputable def qo69 (P : Params) : Obj := { cls := .type "tuple", data := .seq #[.int 0 216, .none] }
noncomputable def qo70 (P : Params) : Obj := { cls := .type "dict", data := .dict #[de P "key" 217 (.none)] 1 }
noncomputable def qo73 (P : Params) : Obj := { cls := .type "tuple", data := .seq #[.str ("a") 221, .str ("x") 222, .str ("lo") 223, .str ("hi") 224, .str ("key") 225, .str ("mid") 226] }
noncomputable def qo75 (P : Params) : Obj := fnT "bisect_left" "bisect_left" dBL
noncomputable def qo76 (P : Params) : Obj := { cls := .type "code", data := .fields #[.str ("bisect_left") 218, .str ("bisect_left") 219, .str ("/claim/cut.py") 220, .int 28 0, .int 4 0, .int 0 0, .int 1 0, .int 3 0, .ref 35, .bool true, .int 181 0, .ref 36, .none, .ref 37, .ref 38, .ref 39, .int 227 0, .int 28 0, .str ("/claim/cut.py") 228] }
noncomputable def qo77 (P : Params) : Obj := fnO "bisect_left" "bisect_left" dBL (.ref 33) (.ref 34) (.str ("cpy313.bisect") 187) (.ref 40)
noncomputable def qo80 (P : Params) : Obj := { cls := .type "tuple", data := .seq #[.str ("a") 235, .str ("b") 236] }
noncomputable def qo82 (P : Params) : Obj := fnT "_strcoll" "_strcoll" dSC
noncomputable def qo83 (P : Params) : Obj := { cls := .type "code", data := .fields #[.str ("_strcoll") 232, .str ("_strcoll") 233, .str ("/claim/cut.py") 234, .int 49 0, .int 2 0, .int 0 0, .int 0 0, .int 3 0, .ref 42, .bool true, .int 181 0, .ref 43, .none, .ref 44, .ref 45, .ref 46, .int 237 0, .int 49 0, .str ("/claim/cut.py") 238] }
noncomputable def qo84 (P : Params) : Obj := fnO "_strcoll" "_strcoll" dSC (.none) (.none) (.str ("cpy313.locale") 230) (.ref 47)
noncomputable def qo87 (P : Params) : Obj := { cls := .type "tuple", data := .seq #[.str ("s") 243] }
noncomputable def qo89 (P : Params) : Obj := fnT "_strxfrm" "_strxfrm" dSX
noncomputable def qo90 (P : Params) : Obj := { cls := .type "code", data := .fields #[.str ("_strxfrm") 240, .str ("_strxfrm") 241, .str ("/claim/cut.py") 242, .int 51 0, .int 1 0, .int 0 0, .int 0 0, .int 3 0, .ref 49, .bool true, .int 181 0, .ref 50, .none, .ref 51, .ref 52, .ref 53, .int 244 0, .int 51 0, .str ("/claim/cut.py") 245] }
noncomputable def qo91 (P : Params) : Obj := fnO "_strxfrm" "_strxfrm" dSX (.none) (.none) (.str ("cpy313.locale") 230) (.ref 54)
noncomputable def qo94 (P : Params) : Obj := { cls := .type "tuple", data := .seq #[.str ("grouping") 252, .str ("last_interval") 253, .str ("interval") 254] }
noncomputable def qo96 (P : Params) : Obj := fnT "_grouping_intervals" "_grouping_intervals" dGI
noncomputable def qo97 (P : Params) : Obj := { cls := .type "code", data := .fields #[.str ("_grouping_intervals") 249, .str ("_grouping_intervals") 250, .str ("/claim/cut.py") 251, .int 54 0, .int 1 0, .int 0 0, .int 0 0, .int 35 0, .ref 56, .bool true, .int 181 0, .ref 57, .none, .ref 58, .ref 59, .ref 60, .int 255 0, .int 54 0, .str ("/claim/cut.py") 256] }
noncomputable def qo98 (P : Params) : Obj := fnO "_grouping_intervals" "_grouping_intervals" dGI (.none) (.none) (.str ("cpy313.locale") 230) (.ref 61)
noncomputable def qo99 (P : Params) : Obj := { cls := .type "dict", data := .dict #[de P "__name__" 165 (.str ("law_rl0052_01") 318), de P "__doc__" 166 (.none), de P "__package__" 167 (.none), de P "__loader__" 168 (.builtin "__main__.__loader__#opaque"), de P "__spec__" 169 (.none), de P "__annotations__" 170 (.ref 6), de P "__builtins__" 171 (.ref 4), de P "__file__" 173 (.str ("/claim/cut.py") 172), de P "__cached__" 174 (.none), de P "insort_right" 201 (.ref 23), de P "bisect_right" 215 (.ref 32), de P "bisect_left" 229 (.ref 41), de P "_strcoll" 239 (.ref 48), de P "_strxfrm" 246 (.ref 55), de P "CHAR_MAX" 248 (.int 127 247), de P "_grouping_intervals" 257 (.ref 62), de P "_netrclex" 317 (.ref 100), de P "_law_stream" 328 (.ref 111), de P "_law_line" 337 (.ref 118)] 19 }
noncomputable def qo100 (P : Params) : Obj := { cls := .none, data := .fields #[.int 2 0, .int 0 0, .ref 22, .int 8 0, .int 0 0, .ref 31, .int 28 0, .int 0 0, .ref 40, .int 49 0, .int 0 0, .ref 47, .int 51 0, .int 0 0, .ref 54, .int 54 0, .int 0 0, .ref 61, .int 67 0, .int 0 0, .ref 68, .int 111 0, .int 0 0, .ref 110, .int 115 0, .int 0 0, .ref 117] }
noncomputable def qo102 (P : Params) : Obj := { cls := .type "builtin_function_or_method", data := .fields #[.builtin "type.__prepare__", .type "type"] }
noncomputable def qo103 (P : Params) : Obj := { cls := .type "dict", data := .dict #[de P "__module__" 267 (.str ("cpy313.netrc") 258), de P "__qualname__" 269 (.str ("_netrclex") 268), de P "__firstlineno__" 271 (.int 67 270), de P "__init__" 279 (.ref 76), de P "_read_char" 287 (.ref 83), de P "get_token" 297 (.ref 90), de P "push_token" 305 (.ref 97), de P "__static_attributes__" 310 (.ref 98)] 8 }
noncomputable def qo105 (P : Params) : Obj := { cls := .none, data := .fields #[.int 69 0, .int 4 0, .ref 75, .int 75 0, .int 4 0, .ref 82, .int 81 0, .int 4 0, .ref 89, .int 108 0, .int 4 0, .ref 96] }
noncomputable def qo106 (P : Params) : Obj := { cls := .type "code", data := .fields #[.str ("_netrclex") 262, .str ("_netrclex") 263, .str ("/claim/cut.py") 264, .int 67 0, .int 0 0, .int 0 0, .int 0 0, .int 0 0, .ref 66, .bool false, .int 181 0, .ref 67, .none, .none, .none, .none, .int 265 0, .int 67 0, .str ("/claim/cut.py") 266] }
noncomputable def qo107 (P : Params) : Obj := { cls := .type "frame", slots := #[some (.ref 68), some (.ref 3), some (.ref 65), none, some (.str ("cpy313.netrc") 258), none, some (.ref 0)] }
noncomputable def qo110 (P : Params) : Obj := { cls := .type "tuple", data := .seq #[.str ("self") 275, .str ("fp") 276] }
noncomputable def qo112 (P : Params) : Obj := fnT "__init__" "_netrclex.__init__" dIN
noncomputable def qo113 (P : Params) : Obj := { cls := .type "code", data := .fields #[.str ("__init__") 272, .str ("_netrclex.__init__") 273, .str ("/claim/cut.py") 274, .int 69 0, .int 2 0, .int 0 0, .int 0 0, .int 3 0, .ref 70, .bool true, .int 181 0, .ref 71, .none, .ref 72, .ref 73, .ref 74, .int 277 0, .int 69 0, .str ("/claim/cut.py") 278] }
noncomputable def qo114 (P : Params) : Obj := fnO "__init__" "_netrclex.__init__" dIN (.none) (.none) (.str ("cpy313.netrc") 258) (.ref 75)
noncomputable def qo117 (P : Params) : Obj := { cls := .type "tuple", data := .seq #[.str ("self") 283, .str ("ch") 284] }
noncomputable def qo119 (P : Params) : Obj := fnT "_read_char" "_netrclex._read_char" dRC
noncomputable def qo120 (P : Params) : Obj := { cls := .type "code", data := .fields #[.str ("_read_char") 280, .str ("_netrclex._read_char") 281, .str ("/claim/cut.py") 282, .int 75 0, .int 1 0, .int 0 0, .int 0 0, .int 3 0, .ref 77, .bool true, .int 181 0, .ref 78, .none, .ref 79, .ref 80, .ref 81, .int 285 0, .int 75 0, .str ("/claim/cut.py") 286] }
noncomputable def qo121 (P : Params) : Obj := fnO "_read_char" "_netrclex._read_char" dRC (.none) (.none) (.str ("cpy313.netrc") 258) (.ref 82)
noncomputable def qo124 (P : Params) : Obj := { cls := .type "tuple", data := .seq #[.str ("self") 291, .str ("token") 292, .str ("fiter") 293, .str ("ch") 294] }
noncomputable def qo126 (P : Params) : Obj := fnT "get_token" "_netrclex.get_token" dGT
noncomputable def qo127 (P : Params) : Obj := { cls := .type "code", data := .fields #[.str ("get_token") 288, .str ("_netrclex.get_token") 289, .str ("/claim/cut.py") 290, .int 81 0, .int 1 0, .int 0 0, .int 0 0, .int 3 0, .ref 84, .bool true, .int 181 0, .ref 85, .none, .ref 86, .ref 87, .ref 88, .int 295 0, .int 81 0, .str ("/claim/cut.py") 296] }
noncomputable def qo128 (P : Params) : Obj := fnO "get_token" "_netrclex.get_token" dGT (.none) (.none) (.str ("cpy313.netrc") 258) (.ref 89)
noncomputable def qo131 (P : Params) : Obj := { cls := .type "tuple", data := .seq #[.str ("self") 301, .str ("token") 302] }
noncomputable def qo133 (P : Params) : Obj := fnT "push_token" "_netrclex.push_token" dPT
noncomputable def qo134 (P : Params) : Obj := { cls := .type "code", data := .fields #[.str ("push_token") 298, .str ("_netrclex.push_token") 299, .str ("/claim/cut.py") 300, .int 108 0, .int 2 0, .int 0 0, .int 0 0, .int 3 0, .ref 91, .bool true, .int 181 0, .ref 92, .none, .ref 93, .ref 94, .ref 95, .int 303 0, .int 108 0, .str ("/claim/cut.py") 304] }
noncomputable def qo135 (P : Params) : Obj := fnO "push_token" "_netrclex.push_token" dPT (.none) (.none) (.str ("cpy313.netrc") 258) (.ref 96)
noncomputable def qo136 (P : Params) : Obj := { cls := .type "tuple", data := .seq #[.str ("instream") 306, .str ("lineno") 307, .str ("pushback") 308, .str ("whitespace") 309] }
noncomputable def qo137 (P : Params) : Obj := { cls := .type "dict", data := .dict #[de P "__module__" 267 (.str ("cpy313.netrc") 258), de P "__firstlineno__" 271 (.int 67 270), de P "__init__" 279 (.ref 76), de P "_read_char" 287 (.ref 83), de P "get_token" 297 (.ref 90), de P "push_token" 305 (.ref 97), de P "__static_attributes__" 310 (.ref 98), de P "__dict__" 312 (.ref 101), de P "__weakref__" 314 (.ref 102), de P "__doc__" 315 (.none)] 4 }
noncomputable def qo138 (P : Params) : Obj := { cls := .type "type", data := .cls { name := "_netrclex", bases := [.type "object"], mro := [.ref 100, .type "object"], ns := 99, qualname := "_netrclex" }, slots := #[none, none, some (.str ("_netrclex") 260), some (.str ("_netrclex") 268), some (.builtin "object.__new__"), some (.bool true)] }
noncomputable def qo139 (P : Params) : Obj := { cls := .type "getset_descriptor", data := .fields #[.str ("__dict__") 311, .ref 100, .builtin "function.__dict__", .builtin "function.__dict__#set"] }
noncomputable def qo140 (P : Params) : Obj := { cls := .type "getset_descriptor", data := .fields #[.str ("__weakref__") 313, .ref 100, .builtin "ExceptionGroup.__weakref__", .none] }
noncomputable def qo141 (P : Params) : Obj := { cls := .type "super", data := .fields #[.ref 100, .ref 100, .ref 100] }
noncomputable def qo142 (P : Params) : Obj := { cls := .type "builtin_function_or_method", data := .fields #[.builtin "object.__init_subclass__", .ref 100] }
noncomputable def qo145 (P : Params) : Obj := { cls := .type "tuple", data := .seq #[.str ("left") 323, .str ("stream") 324] }
noncomputable def qo146 (P : Params) : Obj := { cls := .type "tuple", data := .seq #[.str ("left") 325] }
noncomputable def qo147 (P : Params) : Obj := fnT "_law_stream" "_law_stream" dLS
noncomputable def qo148 (P : Params) : Obj := { cls := .type "code", data := .fields #[.str ("_law_stream") 320, .str ("_law_stream") 321, .str ("/claim/cut.py") 322, .int 111 0, .int 1 0, .int 0 0, .int 0 0, .int 3 0, .ref 105, .bool true, .int 181 0, .ref 106, .none, .ref 107, .ref 108, .ref 109, .int 326 0, .int 111 0, .str ("/claim/cut.py") 327] }
noncomputable def qo149 (P : Params) : Obj := fnO "_law_stream" "_law_stream" dLS (.none) (.none) (.str ("law_rl0052_01") 318) (.ref 110)
noncomputable def qo152 (P : Params) : Obj := { cls := .type "tuple", data := .seq #[.str ("script") 332, .str ("line") 333, .str ("k") 334] }
noncomputable def qo154 (P : Params) : Obj := fnT "_law_line" "_law_line" dLL
noncomputable def qo155 (P : Params) : Obj := { cls := .type "code", data := .fields #[.str ("_law_line") 329, .str ("_law_line") 330, .str ("/claim/cut.py") 331, .int 115 0, .int 1 0, .int 0 0, .int 0 0, .int 3 0, .ref 112, .bool true, .int 181 0, .ref 113, .none, .ref 114, .ref 115, .ref 116, .int 335 0, .int 115 0, .str ("/claim/cut.py") 336] }
noncomputable def qo156 (P : Params) : Obj := fnO "_law_line" "_law_line" dLL (.none) (.none) (.str ("law_rl0052_01") 318) (.ref 117)
noncomputable def qo157 (P : Params) : Obj := { cls := .type "dict", data := .dict #[de P "__name__" 165 (.str ("law_rl0052_01") 318), de P "__doc__" 166 (.none), de P "__package__" 167 (.none), de P "__loader__" 168 (.builtin "__main__.__loader__#opaque"), de P "__spec__" 169 (.none), de P "__annotations__" 170 (.ref 6), de P "__builtins__" 171 (.ref 4), de P "__file__" 173 (.str ("/claim/cut.py") 172), de P "__cached__" 174 (.none), de P "insort_right" 201 (.ref 23), de P "bisect_right" 215 (.ref 32), de P "bisect_left" 229 (.ref 41), de P "_strcoll" 239 (.ref 48), de P "_strxfrm" 246 (.ref 55), de P "CHAR_MAX" 248 (.int 127 247), de P "_grouping_intervals" 257 (.ref 62), de P "_netrclex" 317 (.ref 100), de P "_law_stream" 328 (.ref 111), de P "_law_line" 337 (.ref 118), de P "_law_written" 346 (.ref 125), de P "_law_by_height" 356 (.ref 132), de P "_law_crossed" 362 (.ref 137), de P "law" 368 (.ref 142)] 23 }
noncomputable def qo158 (P : Params) : Obj := { cls := .none, data := .fields #[.int 2 0, .int 0 0, .ref 22, .int 8 0, .int 0 0, .ref 31, .int 28 0, .int 0 0, .ref 40, .int 49 0, .int 0 0, .ref 47, .int 51 0, .int 0 0, .ref 54, .int 54 0, .int 0 0, .ref 61, .int 67 0, .int 0 0, .ref 68, .int 111 0, .int 0 0, .ref 110, .int 115 0, .int 0 0, .ref 117, .int 120 0, .int 0 0, .ref 124, .int 128 0, .int 0 0, .ref 131, .int 133 0, .int 0 0, .ref 136, .int 150 0, .int 0 0, .ref 141] }
noncomputable def qo161 (P : Params) : Obj := { cls := .type "tuple", data := .seq #[.str ("line") 341, .str ("text") 342, .str ("k") 343] }
noncomputable def qo163 (P : Params) : Obj := fnT "_law_written" "_law_written" dLW
noncomputable def qo164 (P : Params) : Obj := { cls := .type "code", data := .fields #[.str ("_law_written") 338, .str ("_law_written") 339, .str ("/claim/cut.py") 340, .int 120 0, .int 1 0, .int 0 0, .int 0 0, .int 3 0, .ref 119, .bool true, .int 181 0, .ref 120, .none, .ref 121, .ref 122, .ref 123, .int 344 0, .int 120 0, .str ("/claim/cut.py") 345] }
noncomputable def qo165 (P : Params) : Obj := fnO "_law_written" "_law_written" dLW (.none) (.none) (.str ("law_rl0052_01") 318) (.ref 124)
noncomputable def qo168 (P : Params) : Obj := { cls := .type "tuple", data := .seq #[.str ("words") 350, .str ("row") 351, .str ("k") 352] }
noncomputable def qo169 (P : Params) : Obj := { cls := .type "tuple", data := .seq #[.str ("words") 353] }
noncomputable def qo170 (P : Params) : Obj := fnT "_law_by_height" "_law_by_height" dLH
noncomputable def qo171 (P : Params) : Obj := { cls := .type "code", data := .fields #[.str ("_law_by_height") 347, .str ("_law_by_height") 348, .str ("/claim/cut.py") 349, .int 128 0, .int 1 0, .int 0 0, .int 0 0, .int 3 0, .ref 126, .bool true, .int 181 0, .ref 127, .none, .ref 128, .ref 129, .ref 130, .int 354 0, .int 128 0, .str ("/claim/cut.py") 355] }
noncomputable def qo172 (P : Params) : Obj := fnO "_law_by_height" "_law_by_height" dLH (.none) (.none) (.str ("law_rl0052_01") 318) (.ref 131)
noncomputable def qo175 (P : Params) : Obj := fnT "_law_crossed" "_law_crossed" dLC
noncomputable def qo176 (P : Params) : Obj := { cls := .type "code", data := .fields #[.str ("_law_crossed") 357, .str ("_law_crossed") 358, .str ("/claim/cut.py") 359, .int 133 0, .int 3 0, .int 0 0, .int 0 0, .int 3 0, .ref 133, .bool true, .int 181 0, .ref 134, .none, .none, .none, .ref 135, .int 360 0, .int 133 0, .str ("/claim/cut.py") 361] }
noncomputable def qo177 (P : Params) : Obj := fnO "_law_crossed" "_law_crossed" dLC (.none) (.none) (.str ("law_rl0052_01") 318) (.ref 136)
noncomputable def qo180 (P : Params) : Obj := fnT "law" "law" dLaw
noncomputable def qo181 (P : Params) : Obj := { cls := .type "code", data := .fields #[.str ("law") 363, .str ("law") 364, .str ("/claim/cut.py") 365, .int 150 0, .int 1 0, .int 0 0, .int 0 0, .int 3 0, .ref 138, .bool true, .int 181 0, .ref 139, .none, .none, .none, .ref 140, .int 366 0, .int 150 0, .str ("/claim/cut.py") 367] }
noncomputable def qo182 (P : Params) : Obj := fnO "law" "law" dLaw (.none) (.none) (.str ("law_rl0052_01") 318) (.ref 141)
noncomputable def tr1 (P : Params) : BT := .node (boot_o_0 P) (.node (boot_o_1 P) (.node (boot_o_3 P) (.node (boot_o_7 P) .nil .nil) (.node (qo43 P) .nil .nil)) (.node (boot_o_5 P) (.node (boot_o_9 P) .nil .nil) (.node (qo45 P) .nil .nil))) (.node (boot_o_2 P) (.node (boot_o_4 P) (.node (boot_o_8 P) .nil .nil) (.node (qo44 P) .nil .nil)) (.node (boot_o_6 P) (.node (boot_o_10 P) .nil .nil) (.node (qo46 P) .nil .nil)))
noncomputable def tr2 (P : Params) : BT := .node (boot_o_0 P) (.node (boot_o_1 P) (.node (qo49 P) (.node (boot_o_7 P) (.node (qo51 P) (.node (qo67 P) .nil .nil) (.node (qo83 P) .nil .nil)) (.node (qo59 P) (.node (qo75 P) .nil .nil) (.node (qo91 P) .nil .nil))) (.node (qo43 P) (.node (qo55 P) (.node (qo43 P) .nil .nil) (.node (qo87 P) .nil .nil)) (.node (qo44 P) (.node (qo44 P) .nil .nil) (.node (qo43 P) .nil .nil)))) (.node (boot_o_5 P) (.node (boot_o_9 P) (.node (qo43 P) (.node (qo69 P) .nil .nil) (.node (qo43 P) .nil .nil)) (.node (qo61 P) (.node (qo77 P) .nil .nil) (.node (qo44 P) .nil .nil))) (.node (qo45 P) (.node (qo57 P) (.node (qo73 P) .nil .nil) (.node (qo89 P) .nil .nil)) (.node (qo43 P) (.node (qo43 P) .nil .nil) (.node (qo97 P) .nil .nil))))) (.node (boot_o_2 P) (.node (boot_o_4 P) (.node (boot_o_8 P) (.node (qo52 P) (.node (qo68 P) .nil .nil) (.node (qo84 P) .nil .nil)) (.node (qo60 P) (.node (qo76 P) .nil .nil) (.node (qo43 P) .nil .nil))) (.node (qo50 P) (.node (qo43 P) (.node (qo44 P) .nil .nil) (.node (qo43 P) .nil .nil)) (.node (qo64 P) (.node (qo80 P) .nil .nil) (.node (qo96 P) .nil .nil)))) (.node (boot_o_6 P) (.node (boot_o_10 P) (.node (qo44 P) (.node (qo70 P) .nil .nil) (.node (qo44 P) .nil .nil)) (.node (qo43 P) (.node (qo43 P) .nil .nil) (.node (qo94 P) .nil .nil))) (.node (qo46 P) (.node (qo58 P) (.node (qo43 P) .nil .nil) (.node (qo90 P) .nil .nil)) (.node (qo66 P) (.node (qo82 P) .nil .nil) (.node (qo98 P) .nil .nil)))))
noncomputable def tr3 (P : Params) : BT := .node (boot_o_0 P) (.node (boot_o_1 P) (.node (qo99 P) (.node (boot_o_7 P) (.node (qo51 P) (.node (qo67 P) (.node (qo43 P) .nil .nil) (.node (qo133 P) .nil .nil)) (.node (qo83 P) (.node (qo117 P) .nil .nil) (.node (qo149 P) .nil .nil))) (.node (qo59 P) (.node (qo75 P) (.node (qo44 P) .nil .nil) (.node (qo141 P) .nil .nil)) (.node (qo91 P) (.node (qo43 P) .nil .nil) .nil))) (.node (qo43 P) (.node (qo55 P) (.node (qo43 P) (.node (qo105 P) .nil .nil) (.node (qo137 P) .nil .nil)) (.node (qo87 P) (.node (qo121 P) .nil .nil) (.node (qo43 P) .nil .nil))) (.node (qo44 P) (.node (qo44 P) (.node (qo113 P) .nil .nil) (.node (qo145 P) .nil .nil)) (.node (qo43 P) (.node (qo43 P) .nil .nil) .nil)))) (.node (boot_o_5 P) (.node (boot_o_9 P) (.node (qo43 P) (.node (qo69 P) (.node (qo103 P) .nil .nil) (.node (qo135 P) .nil .nil)) (.node (qo43 P) (.node (qo119 P) .nil .nil) (.node (qo44 P) .nil .nil))) (.node (qo61 P) (.node (qo77 P) (.node (qo43 P) .nil .nil) (.node (qo43 P) .nil .nil)) (.node (qo44 P) (.node (qo127 P) .nil .nil) .nil))) (.node (qo45 P) (.node (qo57 P) (.node (qo73 P) (.node (qo107 P) .nil .nil) (.node (qo139 P) .nil .nil)) (.node (qo89 P) (.node (qo44 P) .nil .nil) (.node (qo155 P) .nil .nil))) (.node (qo43 P) (.node (qo43 P) (.node (qo43 P) .nil .nil) (.node (qo147 P) .nil .nil)) (.node (qo97 P) (.node (qo131 P) .nil .nil) .nil))))) (.node (boot_o_2 P) (.node (boot_o_4 P) (.node (boot_o_8 P) (.node (qo52 P) (.node (qo68 P) (.node (qo102 P) .nil .nil) (.node (qo134 P) .nil .nil)) (.node (qo84 P) (.node (qo43 P) .nil .nil) (.node (qo43 P) .nil .nil))) (.node (qo60 P) (.node (qo76 P) (.node (qo110 P) .nil .nil) (.node (qo142 P) .nil .nil)) (.node (qo43 P) (.node (qo126 P) .nil .nil) .nil))) (.node (qo100 P) (.node (qo43 P) (.node (qo44 P) (.node (qo106 P) .nil .nil) (.node (qo138 P) .nil .nil)) (.node (qo43 P) (.node (qo43 P) .nil .nil) (.node (qo154 P) .nil .nil))) (.node (qo64 P) (.node (qo80 P) (.node (qo114 P) .nil .nil) (.node (qo146 P) .nil .nil)) (.node (qo96 P) (.node (qo44 P) .nil .nil) .nil)))) (.node (boot_o_6 P) (.node (boot_o_10 P) (.node (qo44 P) (.node (qo70 P) (.node (qo43 P) .nil .nil) (.node (qo136 P) .nil .nil)) (.node (qo44 P) (.node (qo120 P) .nil .nil) (.node (qo152 P) .nil .nil))) (.node (qo43 P) (.node (qo43 P) (.node (qo112 P) .nil .nil) (.node (qo44 P) .nil .nil)) (.node (qo94 P) (.node (qo128 P) .nil .nil) .nil))) (.node (qo46 P) (.node (qo58 P) (.node (qo43 P) (.node (qo43 P) .nil .nil) (.node (qo140 P) .nil .nil)) (.node (qo90 P) (.node (qo124 P) .nil .nil) (.node (qo156 P) .nil .nil))) (.node (qo66 P) (.node (qo82 P) (.node (qo44 P) .nil .nil) (.node (qo148 P) .nil .nil)) (.node (qo98 P) (.node (qo43 P) .nil .nil) .nil)))))
noncomputable def tr4 (P : Params) : BT := .node (boot_o_0 P) (.node (boot_o_1 P) (.node (qo157 P) (.node (boot_o_7 P) (.node (qo51 P) (.node (qo67 P) (.node (qo43 P) (.node (qo44 P) .nil .nil) .nil) (.node (qo133 P) .nil .nil)) (.node (qo83 P) (.node (qo117 P) .nil .nil) (.node (qo149 P) .nil .nil))) (.node (qo59 P) (.node (qo75 P) (.node (qo44 P) (.node (qo175 P) .nil .nil) .nil) (.node (qo141 P) .nil .nil)) (.node (qo91 P) (.node (qo43 P) .nil .nil) (.node (qo43 P) .nil .nil)))) (.node (qo43 P) (.node (qo55 P) (.node (qo43 P) (.node (qo105 P) (.node (qo171 P) .nil .nil) .nil) (.node (qo137 P) .nil .nil)) (.node (qo87 P) (.node (qo121 P) .nil .nil) (.node (qo43 P) .nil .nil))) (.node (qo44 P) (.node (qo44 P) (.node (qo113 P) (.node (qo44 P) .nil .nil) .nil) (.node (qo145 P) .nil .nil)) (.node (qo43 P) (.node (qo43 P) .nil .nil) (.node (qo163 P) .nil .nil))))) (.node (boot_o_5 P) (.node (boot_o_9 P) (.node (qo43 P) (.node (qo69 P) (.node (qo103 P) (.node (qo169 P) .nil .nil) .nil) (.node (qo135 P) .nil .nil)) (.node (qo43 P) (.node (qo119 P) .nil .nil) (.node (qo44 P) .nil .nil))) (.node (qo61 P) (.node (qo77 P) (.node (qo43 P) (.node (qo177 P) .nil .nil) .nil) (.node (qo43 P) .nil .nil)) (.node (qo44 P) (.node (qo127 P) .nil .nil) (.node (qo161 P) .nil .nil)))) (.node (qo45 P) (.node (qo57 P) (.node (qo73 P) (.node (qo107 P) (.node (qo43 P) .nil .nil) .nil) (.node (qo139 P) .nil .nil)) (.node (qo89 P) (.node (qo44 P) .nil .nil) (.node (qo155 P) .nil .nil))) (.node (qo43 P) (.node (qo43 P) (.node (qo43 P) (.node (qo181 P) .nil .nil) .nil) (.node (qo147 P) .nil .nil)) (.node (qo97 P) (.node (qo131 P) .nil .nil) (.node (qo165 P) .nil .nil)))))) (.node (boot_o_2 P) (.node (boot_o_4 P) (.node (boot_o_8 P) (.node (qo52 P) (.node (qo68 P) (.node (qo102 P) (.node (qo168 P) .nil .nil) .nil) (.node (qo134 P) .nil .nil)) (.node (qo84 P) (.node (qo43 P) .nil .nil) (.node (qo43 P) .nil .nil))) (.node (qo60 P) (.node (qo76 P) (.node (qo110 P) (.node (qo176 P) .nil .nil) .nil) (.node (qo142 P) .nil .nil)) (.node (qo43 P) (.node (qo126 P) .nil .nil) (.node (qo44 P) .nil .nil)))) (.node (qo158 P) (.node (qo43 P) (.node (qo44 P) (.node (qo106 P) (.node (qo172 P) .nil .nil) .nil) (.node (qo138 P) .nil .nil)) (.node (qo43 P) (.node (qo43 P) .nil .nil) (.node (qo154 P) .nil .nil))) (.node (qo64 P) (.node (qo80 P) (.node (qo114 P) (.node (qo180 P) .nil .nil) .nil) (.node (qo146 P) .nil .nil)) (.node (qo96 P) (.node (qo44 P) .nil .nil) (.node (qo164 P) .nil .nil))))) (.node (boot_o_6 P) (.node (boot_o_10 P) (.node (qo44 P) (.node (qo70 P) (.node (qo43 P) (.node (qo170 P) .nil .nil) .nil) (.node (qo136 P) .nil .nil)) (.node (qo44 P) (.node (qo120 P) .nil .nil) (.node (qo152 P) .nil .nil))) (.node (qo43 P) (.node (qo43 P) (.node (qo112 P) (.node (qo43 P) .nil .nil) .nil) (.node (qo44 P) .nil .nil)) (.node (qo94 P) (.node (qo128 P) .nil .nil) (.node (qo43 P) .nil .nil)))) (.node (qo46 P) (.node (qo58 P) (.node (qo43 P) (.node (qo43 P) (.node (qo44 P) .nil .nil) .nil) (.node (qo140 P) .nil .nil)) (.node (qo90 P) (.node (qo124 P) .nil .nil) (.node (qo156 P) .nil .nil))) (.node (qo66 P) (.node (qo82 P) (.node (qo44 P) (.node (qo182 P) .nil .nil) .nil) (.node (qo148 P) .nil .nil)) (.node (qo98 P) (.node (qo43 P) .nil .nil) (.node (qo43 P) .nil .nil))))))
noncomputable def hp1 (P : Params) : Heap := ⟨#[boot_o_0 P, boot_o_1 P, boot_o_2 P, boot_o_3 P, boot_o_4 P, boot_o_5 P, boot_o_6 P, boot_o_7 P, boot_o_8 P, boot_o_9 P, boot_o_10 P, qo43 P, qo44 P, qo45 P, qo46 P], {}⟩
noncomputable def hp4 (P : Params) : Heap := ⟨#[boot_o_0 P, boot_o_1 P, boot_o_2 P, qo157 P, boot_o_4 P, boot_o_5 P, boot_o_6 P, boot_o_7 P, boot_o_8 P, boot_o_9 P, boot_o_10 P, qo43 P, qo158 P, qo45 P, qo46 P, qo51 P, qo52 P, qo43 P, qo44 P, qo55 P, qo43 P, qo57 P, qo58 P, qo59 P, qo60 P, qo61 P, qo43 P, qo44 P, qo64 P, qo43 P, qo66 P, qo67 P, qo68 P, qo69 P, qo70 P, qo43 P, qo44 P, qo73 P, qo43 P, qo75 P, qo76 P, qo77 P, qo43 P, qo44 P, qo80 P, qo43 P, qo82 P, qo83 P, qo84 P, qo43 P, qo44 P, qo87 P, qo43 P, qo89 P, qo90 P, qo91 P, qo43 P, qo44 P, qo94 P, qo43 P, qo96 P, qo97 P, qo98 P, qo43 P, qo102 P, qo103 P, qo43 P, qo105 P, qo106 P, qo107 P, qo43 P, qo44 P, qo110 P, qo43 P, qo112 P, qo113 P, qo114 P, qo43 P, qo44 P, qo117 P, qo43 P, qo119 P, qo120 P, qo121 P, qo43 P, qo44 P, qo124 P, qo43 P, qo126 P, qo127 P, qo128 P, qo43 P, qo44 P, qo131 P, qo43 P, qo133 P, qo134 P, qo135 P, qo136 P, qo137 P, qo138 P, qo139 P, qo140 P, qo141 P, qo142 P, qo43 P, qo44 P, qo145 P, qo146 P, qo147 P, qo148 P, qo149 P, qo43 P, qo44 P, qo152 P, qo43 P, qo154 P, qo155 P, qo156 P, qo43 P, qo44 P, qo161 P, qo43 P, qo163 P, qo164 P, qo165 P, qo43 P, qo44 P, qo168 P, qo169 P, qo170 P, qo171 P, qo172 P, qo43 P, qo44 P, qo175 P, qo176 P, qo177 P, qo43 P, qo44 P, qo180 P, qo181 P, qo182 P], {}⟩
noncomputable def KK (P : Params) : Frag := [(3, qo157 P), (15, qo51 P), (16, qo52 P), (22, qo58 P), (23, qo59 P), (24, qo60 P), (25, qo61 P), (31, qo67 P), (32, qo68 P), (33, qo69 P), (34, qo70 P), (40, qo76 P), (41, qo77 P), (47, qo83 P), (48, qo84 P), (54, qo90 P), (55, qo91 P), (61, qo97 P), (62, qo98 P), (75, qo113 P), (76, qo114 P), (82, qo120 P), (83, qo121 P), (89, qo127 P), (90, qo128 P), (96, qo134 P), (97, qo135 P), (99, qo137 P), (100, qo138 P), (110, qo148 P), (111, qo149 P), (117, qo155 P), (118, qo156 P), (124, qo164 P), (125, qo165 P), (131, qo171 P), (132, qo172 P), (136, qo176 P), (137, qo177 P), (141, qo181 P), (142, qo182 P)]
noncomputable def kAs : List Addr := [3, 15, 16, 22, 23, 24, 25, 31, 32, 33, 34, 40, 41, 47, 48, 54, 55, 61, 62, 75, 76, 82, 83, 89, 90, 96, 97, 99, 100, 110, 111, 117, 118, 124, 125, 131, 132, 136, 137, 141, 142]
end Mine
end
section
open PySem PySem.W PySem.Calls PyProof.Rows
set_option maxRecDepth 100000
set_option Elab.async false
set_option maxHeartbeats 0
set_option autoImplicit false
namespace Mine
abbrev anV : Option Value := some (.ref 6)
noncomputable def envV : Env := { scope := pw.main.scope, locals := mainNs, globals := mainNs, cells := [], code := .ref 13, frame := some 14 }
noncomputable abbrev cV : Code := .body (behindTheImports pw) envV
abbrev z0 : Pos := ⟨0, 0, 0, 0⟩
abbrev z1 : Pos := ⟨66, 0, 66, 8⟩
abbrev z2 : Pos := ⟨115, 0, 119, 26⟩
abbrev z3 : Pos := ⟨150, 0, 182, 97⟩
abbrev shV (t : Params → BT) (n k : Nat) (w : World) (os : OsState) : SharedT := ⟨t w.params, n, {}, #[], {}, k, os⟩
noncomputable def stsV (a b : Nat) : List Stmt := (pw.main.body.drop a).take b
theorem preV (w : World) (os : OsState) : topGo treeTable pw w 11 anV 12 ⟨boot_heap w.params, #[], boot_drawn, boot_toks, os⟩ (topStub pw) = some (⟨hp1 w.params, #[], {}, 187, os⟩, ⟨denote treeTable cV, cV, z0, [topFrame z0]⟩) := by kernel_rfl
theorem blkV (w : World) (os : OsState) : segRun treeTable pw w 11 anV 1 1 ⟨hp1 w.params, #[], {}, 187, os⟩ (blockOf (behindTheImports pw) envV cV z0 [topFrame z0]) = some (.next, (shV tr1 15 187 w os).abs, cV, z0) := by kernel_rfl
theorem sg1V (w : World) (os : OsState) : segRunT treeTable pw w 11 anV 1 249 (shV tr1 15 187 w os) (piecesOf (stsV 0 10) envV cV z0 [topFrame z0]) = some (.next, shV tr2 63 260 w os, cV, z1) := by kernel_rfl
theorem sg2T (w : World) (os : OsState) : PySem.W.Fast.tw10110043849684766642 PySem.W.Fast.tw14364793385576792824 pw w 11 anV 1 395 (shV tr2 63 260 w os) (piecesOf (stsV 10 4) envV cV z1 [topFrame z0]) = some (.next, shV tr3 119 338 w os, cV, z2) := by kernel_rfl
theorem sg2V (w : World) (os : OsState) : segRunT treeTable pw w 11 anV 1 395 (shV tr2 63 260 w os) (piecesOf (stsV 10 4) envV cV z1 [topFrame z0]) = some (.next, shV tr3 119 338 w os, cV, z2) := by
  rw [PySem.W.Fast.te10110043849684766642, PySem.W.Fast.te14364793385576792824]
  exact sg2T w os
theorem sg3V (w : World) (os : OsState) : segRunT treeTable pw w 11 anV 1 116 (shV tr3 119 338 w os) (piecesOf (stsV 14 4) envV cV z2 [topFrame z0]) = some (.next, shV tr4 143 369 w os, cV, z3) := by kernel_rfl
theorem finV (w : World) (os : OsState) : topRun treeTable pw w 11 anV 2 (shV tr4 143 369 w os).abs ⟨doneF .next, cV, z3, [topFrame z0]⟩ = some ⟨hp4 w.params, #[], {}, 369, os⟩ := by kernel_rfl
theorem bodyV : behindTheImports pw = stsV 0 10 ++ (stsV 10 4 ++ (stsV 14 4 ++ [])) := by kernel_rfl
theorem runV (w : World) (os : OsState) : topRun treeTable pw w 11 anV (12 + (1 + (249 + (395 + (116 + 2))))) ⟨boot_heap w.params, #[], boot_drawn, boot_toks, os⟩ (topStub pw) = some ⟨hp4 w.params, #[], {}, 369, os⟩ := by
  refine go_top (preV w os) (piece_block (blkV w os) ?_)
  have k3 := piece_app (rest := []) (segRun_of (sg3V w os)) (piece_nil (finV w os))
  have k2 := piece_app (segRun_of (sg2V w os)) k3
  have k1 := piece_app (segRun_of (sg1V w os)) k2
  rw [← bodyV] at k1
  exact k1
theorem openV : ∀ w : World, (fencedOpening treeTable pw w 1640).map (fun s => (s.heap, s.gens, s.drawn, s.toks)) = some (boot_heap w.params, Array.mk [], boot_drawn, boot_toks) := boot_open (by kernel_rfl) (by decide) (fun s => by kernel_rfl)
theorem sizeV (w : World) : ((boot_heap w.params).isNs mainGlobals && (#[] : Array GenState).size == 0, (boot_heap w.params).objs.size, (boot_heap w.params).nsMap mainGlobals "__annotations__") = (true, 11, anV) := by kernel_rfl
abbrev lsV : List Str := ["insort_right", "bisect_right", "bisect_left"]
theorem lkV (w : World) (os : OsState) : (staticsOk (importedModules pw.main.body) (boot_heap w.params) (hp4 w.params) && namesBound pw (hp4 w.params) && gensDone ⟨hp4 w.params, #[], {}, 369, os⟩ && laidKept (boot_heap w.params) (hp4 w.params)) = true := by kernel_rfl
theorem skV (w : World) (os : OsState) : openSeen qV lsV (importedModules pw.main.body) (fun s => xlAt qV [] s && recOk [] s) true ⟨hp4 w.params, #[], {}, 369, os⟩ = openGood qV lsV := by kernel_rfl
theorem okV (w : World) (os : OsState) : kAs.map (⟨hp4 w.params, #[], {}, 369, os⟩ : Shared).heap.get? = (KK w.params).map fun p => some p.2 := by kernel_rfl
theorem leftV : LeftO pw qV lsV (fun s => xlAt qV [] s && recOk [] s) (fun s => kAs.map s.heap.get?) (fun w => (KK w.params).map fun p => some p.2) 1640 :=
  LeftO.of_pieces (H₀ := boot_heap) (H₁ := hp4) (gs₀ := #[]) (gs₁ := #[]) (d₀ := boot_drawn) (d₁ := {}) (k₀ := boot_toks) (k₁ := 369) (m₀ := 11) (ann := anV) (M := 12 + (1 + (249 + (395 + (116 + 2))))) openV sizeV runV (by decide)
    (fun w => funext fun os => by rw [lkV w os, skV w os, okV w os])
end Mine
end
section
open PySem PySem.W PySem.Calls PyProof.Rows
set_option maxRecDepth 100000
set_option Elab.async false
set_option maxHeartbeats 0
set_option autoImplicit false
namespace Mine
theorem saidV : PySem.Challenge.rw_rl0052_01.wellSaid = true := by
  rw [PySem.W.Fast.te9446332074065402090]
  unfold PySem.W.Fast.tw9446332074065402090 PySem.W.Fast.tw17960256430627541270 PySem.W.Fast.tw2436336058641802641 PySem.W.Fast.tw12908688711261696721
  repeat' with_reducible refine look_both ?_ ?_

  all_goals decide +kernel
abbrev rR : OpenRow := PySem.Challenge.rw_rl0052_01.row
noncomputable def dfV : DefRec × List (Str × Expr) := (defOf qV rR.name).getD (⟨"", ⟨[], [], none, [], [], none, []⟩, [], default, ⟨0, 0, 0, 0⟩⟩, [])
theorem asV (P : Params) : kAs = (KK P).map (·.1) := by kernel_rfl
theorem opV : (chainsOk qV && opensWell rR.prog && (frees rR.toRowW && rR.within.isEmpty)) = true := by
  repeat' with_reducible refine look_both ?_ ?_
  all_goals decide +kernel
theorem dfnV : defOf qV rR.name = some (dfV.1, dfV.2) := by kernel_rfl
theorem dpV : rR.prog.theDef rR.name = some (dfV.1.params, dfV.1.body, dfV.1.scope) := by kernel_rfl
theorem kwV : kwWritten? dfV.1.params.kwonlyargs dfV.1.params.kw_defaults = some dfV.2 := by kernel_rfl
theorem headV (hw : rR.toRowW.promised) (hc : WalkO qV lsV (XL qV []) (InK KK) rR.toRowW dfV.1 dfV.2 fun f vs => PySem.call f vs) : PySem.Challenge.rw_rl0052_01.Holds := by
  refine holds_law saidV fun said => ?_
  exact holds_open (q := qV) (loose := lsV) (Xt := fun s => xlAt qV [] s && recOk [] s) (XP := XL qV []) (YP := InK KK) (d := dfV.1) (kwd := dfV.2) leftV (InK.of asV) InK.keeps (fun s e => xl_of s (Bool.and_eq_true_iff.mp e).1) XL.keeps dfnV dpV kwV (fun s e => recFacts_of (Bool.and_eq_true_iff.mp e).2) (by rfl) said opV ⟨rfl, rfl, rfl, rfl, rfl, by decide +kernel⟩ hw hc
end Mine
end
section
open PySem PySem.W PySem.Calls PyProof.Rows
set_option maxRecDepth 100000
set_option Elab.async false
set_option maxHeartbeats 0
set_option autoImplicit false
namespace Mine
theorem chkV (P : Params) : Chk (cutK (KK P)) := ⟨by kernel_rfl, by kernel_rfl, by kernel_rfl, by kernel_rfl, by kernel_rfl, by kernel_rfl, ⟨15, 16, 189, 190, PyData.keyHash P "key", 0, 1, by kernel_rfl, by kernel_rfl, by kernel_rfl, by kernel_rfl⟩, ⟨24, 25, 202, 203, PyData.keyHash P "key", 0, 1, by kernel_rfl, by kernel_rfl, by kernel_rfl, by kernel_rfl⟩, ⟨33, 34, 216, 217, PyData.keyHash P "key", 0, 1, by kernel_rfl, by kernel_rfl, by kernel_rfl, by kernel_rfl⟩, ⟨by kernel_rfl, by kernel_rfl⟩, ⟨by kernel_rfl, by kernel_rfl⟩, ⟨by kernel_rfl, by kernel_rfl⟩, ⟨by kernel_rfl, by kernel_rfl⟩, ⟨by kernel_rfl, by kernel_rfl⟩, ⟨by kernel_rfl, by kernel_rfl⟩, ⟨by kernel_rfl, by kernel_rfl⟩, ⟨by kernel_rfl, by kernel_rfl⟩, ⟨by kernel_rfl, by kernel_rfl⟩, ⟨by kernel_rfl, by kernel_rfl⟩, ⟨by kernel_rfl, by kernel_rfl⟩, ⟨by kernel_rfl, by kernel_rfl⟩, ⟨by kernel_rfl, by kernel_rfl⟩, ⟨by kernel_rfl, by kernel_rfl⟩, ⟨by kernel_rfl, by kernel_rfl⟩, ⟨by kernel_rfl, by kernel_rfl⟩⟩
theorem tokV (P : Params) : tOk (KK P) = true := by kernel_rfl
theorem recV {x : Str} (h : ((recsOf qV).find? (fun e => e.name == x)).isSome = true) : ∃ d, (recsOf qV).find? (fun e => e.name == x) = some d := Option.isSome_iff_exists.mp h
theorem tabsV {h : Heap} {P : Params} {loose : List Str} {mean : ExcName → Option Value} {mg mb : Str → Option Value} (KX : (KK P).In h) (T : Top qV loose mean mg mb h) : TabsAt tabs4 h :=
  tabs_of KX T (tokV P) (recV (by kernel_rfl)) (recV (by kernel_rfl)) (recV (by kernel_rfl)) (recV (by kernel_rfl))
theorem nameV : dfV.1.name = ("law" : Str) := by kernel_rfl
end Mine
end
open PySem PySem.W PySem.W.X PySem.W.ZRun PyProof.Rows
set_option Elab.async false
set_option maxRecDepth 100000 in
set_option maxHeartbeats 0 in
theorem PySem.Challenge.cw_rl0052_01_holds : PySem.Challenge.rw_rl0052_01.Holds := by
  w_on
  refine Mine.headV (by w_witness2) ?_
  intro w s₀ s₁ mg mb G Y fa o pm cd doc dV kV ho hd hcd hD hmg hg args vals as hpre hlay hrd hwl hlo
  have KX : (Mine.KK w.params).In s₁.heap := Y
  refine Ground.open G ?_
  intro T B D TE TW
  wrow_args hpre hlay hrd hwl hlo
  clear ho hd hcd hD B D TE TW
  rw [Mine.nameV] at hmg
  refine Mine.law_final KX T (Mine.tabsV KX T) (Mine.chkV _) hg hmg (by assumption) (by assumption) (by omega) (fun _ => rfl) ?hp
  case hp => first | rfl | kernel_rfl | simp
