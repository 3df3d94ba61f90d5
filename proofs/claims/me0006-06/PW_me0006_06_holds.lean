import PyProof.Rows.All
import Wide.All
import OpenK.AllK
import Wide.FinOn
import PySem.Challenge.RW_me0006_06
open PySem PySem.W PyProof.Rows PySem.Calls
set_option Elab.async false
set_option linter.unusedVariables false
set_option linter.unusedSimpArgs false
set_option maxRecDepth 100000
set_option genSizeOfSpec false
set_option compiler.extract_closed false
namespace M6
section
/-- A value as the walk speaks of it: an int without its token. -/
inductive AV where
  | int (i : Int)
  | bool (b : Bool)
  | none
  | any
  | ref (a : Addr)
  | known (v : Value)
inductive AO where
  | inst (C d : Addr)
  | dict (fs : List (Nat × AV))
  | ints (l : List Int)
  | vals (l : List AV)
  | tup (l : List AV)
  | meth (f x : Addr)
  | raw (o : Obj)
  | wints (l : List Int)
  | iter (l : Addr) (i : Nat)
  | enum (it : Addr) (i : Nat)
  | range (a b c : Int)
  | riter (x left step : Int)
  | ns (m : Str → Option Value)
structure St where
  loc : List (Nat × AV)
  hp : List (Addr × AO)
noncomputable def Rep : AV → Value → Prop
  | .int i, v => ∃ t, v = .int i t
  | .bool b, v => v = .bool b
  | .none, v => v = .none
  | .any, v => handedIn v = true
  | .ref a, v => v = .ref a
  | .known u, v => v = u ∧ handedIn u = true
noncomputable def RepL : List AV → List Value → Prop
  | [], [] => True
  | a :: l, v :: vs => Rep a v ∧ RepL l vs
  | _, _ => False
noncomputable def IntsL : List Int → List Value → Prop
  | [], [] => True
  | a :: l, v :: vs => (∃ t, v = .int a t) ∧ IntsL l vs
  | _, _ => False
variable (N : Nat → Str)
noncomputable def FRep (fs : List (Nat × AV)) (es : List DictEntry) : Prop :=
  es.length = fs.length ∧ (es.any (·.refKey)) = false ∧
  ∀ k, match fs.lookup k with
    | some v => ∃ c, getL (N k) es = some (some c) ∧ Rep v c
    | none => getL (N k) es = some none
noncomputable def ORep : AO → Obj → Prop
  | .inst C d, o => o = instObj C d
  | .dict fs, o => ∃ es n, o = dictOf es n ∧ FRep N fs es
  | .ints l, o => ∃ vs n, o = listOf vs n ∧ IntsL l vs.toList
  | .vals l, o => ∃ vs n, o = listOf vs n ∧ RepL l vs.toList
  | .tup l, o => ∃ vs n, o = { cls := .type "tuple", data := .seq vs n } ∧ RepL l vs.toList
  | .raw c, o => o = c
  | .wints l, o => o.cls = .type "list" ∧ ∃ vs n, o.data = .seq vs n ∧ IntsL l vs.toList
  | .iter l i, o => o.cls = .type "list_iterator" ∧ o.data = .fields #[.ref l, .int i 0]
  | .meth f x, o => o = methodObj (.ref f) (.ref x)
  | .enum it i, o => ∃ old, o = { cls := .type "enumerate", dict := none, data := .fields #[.none, .bool false, .ref it, rawInt i, .none, old], slots := #[] }
  | .range a b c, o => ∃ t u v, o = { cls := .type "range", data := .fields #[.int a t, .int b u, .int c v] }
  | .riter x left step, o => o = { cls := .type "range_iterator", dict := none, data := .fields #[rawInt x, rawInt left, rawInt step], slots := #[] }
  | .ns m, o => ∃ es ep, o.data = .dict es ep ∧ StrKeys es ∧ ∀ name, nsFind es name = m name
noncomputable def HRep : List (Addr × AO) → List (Addr × Obj) → Prop
  | [], [] => True
  | p :: l, q :: r => (p.1 = q.1 ∧ ORep N p.2 q.2) ∧ HRep l r
  | _, _ => False
noncomputable def LRep (cs : Scope) (loc : List (Nat × AV)) (m : Str → Option Value) : Prop :=
  ∀ k v, loc.lookup k = some v → (∃ c, m (N k) = some c ∧ Rep v c) ∧ cs.names.lookup (N k) = some .local
structure NOk : Prop where
  inj : ∀ i j, N i = N j → i = j
  dbg : ∀ n, (N n == ("__debug__" : Str)) = false
inductive Rpl (d : Addr) (o o' : AO) : List (Addr × AO) → List (Addr × AO) → Prop
  | head {r} : Rpl d o o' ((d, o) :: r) ((d, o') :: r)
  | tail {p r r'} : Rpl d o o' r r' → Rpl d o o' (p :: r) (p :: r')
variable {N : Nat → Str}
theorem HRep.keys : ∀ {hp : List (Addr × AO)} {news : List (Addr × Obj)}, HRep N hp news → hp.map (·.1) = news.map (·.1)
  | [], [], _ => rfl
  | [], _ :: _, h => h.elim
  | _ :: _, [], h => h.elim
  | _ :: _, _ :: _, h => by simp only [List.map_cons, h.1.1, h.2.keys]
theorem HRep.mem : ∀ {hp : List (Addr × AO)} {news : List (Addr × Obj)} {d : Addr} {o : AO}, HRep N hp news → (d, o) ∈ hp → ∃ co, (d, co) ∈ news ∧ ORep N o co
  | [], [], _, _, _, hm => nomatch hm
  | [], _ :: _, _, _, h, _ => h.elim
  | _ :: _, [], _, _, h, _ => h.elim
  | (a, x) :: l, (b, y) :: r, d, o, h, hm => by
    rcases List.mem_cons.mp hm with q | q
    · cases q
      obtain ⟨⟨e, hy⟩, _⟩ := h
      cases e
      exact ⟨y, .head _, hy⟩
    · obtain ⟨co, h1, h2⟩ := h.2.mem q
      exact ⟨co, .tail _ h1, h2⟩
theorem Rpl.mem {d : Addr} {o o' : AO} : ∀ {hp hp' : List (Addr × AO)}, Rpl d o o' hp hp' → (d, o) ∈ hp
  | _, _, .head => .head _
  | _, _, .tail h => .tail _ h.mem
theorem HRep.rpl {d : Addr} {o o' : AO} : ∀ {hp hp' : List (Addr × AO)} {news : List (Addr × Obj)}, HRep N hp news → (news.map (·.1)).Nodup → Rpl d o o' hp hp' →
    ∃ co, (d, co) ∈ news ∧ ORep N o co ∧ ∀ co', ORep N o' co' → ∃ news', Upd d co co' news news' ∧ HRep N hp' news' ∧ news'.map (·.1) = news.map (·.1)
  | _, _, [], h, _, .head => h.elim
  | _, _, [], h, _, .tail _ => h.elim
  | (_, _) :: _, _, (b, y) :: r, h, nd, .head => by
    obtain ⟨⟨e, hy⟩, ht⟩ := h
    cases e
    rw [List.map_cons, List.nodup_cons] at nd
    refine ⟨y, .head _, hy, fun co' hc => ⟨(d, co') :: r, .head fun p hp q => nd.1 ?_, ⟨⟨rfl, hc⟩, ht⟩, rfl⟩⟩
    rw [← q]; exact List.mem_map.mpr ⟨p, hp, rfl⟩
  | _ :: _, _, (b, y) :: r, h, nd, .tail u => by
    obtain ⟨⟨e, hy⟩, ht⟩ := h
    rw [List.map_cons, List.nodup_cons] at nd
    obtain ⟨co, h1, h2, h3⟩ := ht.rpl nd.2 u
    refine ⟨co, .tail _ h1, h2, fun co' hc => ?_⟩
    obtain ⟨news', U, H, k⟩ := h3 co' hc
    refine ⟨(b, y) :: news', .tail (fun q => nd.1 ?_) U, ⟨⟨e, hy⟩, H⟩, by simp only [List.map_cons, k]⟩
    show b ∈ _
    rw [show b = d from q]
    exact List.mem_map_of_mem h1
/-- What no frame changes. -/
structure Gl where
  prog : Program
  w : World
  K : Frag
  p : Program
  loose : List Str
  mean : ExcName → Option Value
  mg : Str → Option Value
  mb : Str → Option Value
  os : OsState
/-- The frame that the walk stands in. -/
structure Cx (G : Gl) (cs : Scope) where
  A₀ : Around
  base : Heap
  outer : List Env
  h₀ : Heap
  L : Addr
  cn : Str
  a : Addr
  ccd : Value
  B : Below A₀ base outer h₀
  X : G.K.In h₀
  T : Top G.p G.loose G.mean G.mg G.mb h₀
  kind : cs.kind = .function
  hh : A₀.handled = none
  un : A₀.units ≤ 3 * A₀.depth + 4
variable {G : Gl} {cs : Scope}
noncomputable def Cx.env (Φ : Cx G cs) : Env := envOf Φ.cn cs Φ.L Φ.a Φ.ccd
noncomputable def Cx.A (Φ : Cx G cs) : Around := Φ.A₀.deeper Φ.env
noncomputable abbrev Cx.M (_ : Cx G cs) : Model := model G.prog G.w
theorem Cx.hhA (Φ : Cx G cs) : Φ.A.handled = none := Φ.hh
theorem Cx.unA (Φ : Cx G cs) : Φ.A.units ≤ 3 * Φ.A.depth + 4 := by
  have := Φ.un
  show Φ.A₀.units + 3 ≤ 3 * (Φ.A₀.depth + 1) + 4
  omega
variable (N)
structure SimS (Φ : Cx G cs) (σ : St) (s : Shared) (m : Str → Option Value) (news : List (Addr × Obj)) : Prop where
  F : Fr Φ.h₀ Φ.L s.heap m
  Nw : News Φ.h₀ Φ.L s.heap news
  H : HRep N σ.hp news
  nd : (news.map (·.1)).Nodup
  L : LRep N cs σ.loc m
  o : s.os = G.os
  g : s.gens = #[]
noncomputable def Sim (Φ : Cx G cs) (σ : St) (s : Shared) : Prop := ∃ m news, SimS N Φ σ s m news
/-- What a value, a flow, a call leave. -/
inductive PV (Φ : Cx G cs) (Q : AV → St → Prop) (v : Value) (s : Shared) : Prop where
  | mk (a : AV) (σ : St) (r : Rep a v) (S : Sim N Φ σ s) (q : Q a σ)
inductive PVL (Φ : Cx G cs) (Q : List AV → St → Prop) (v : List Value) (s : Shared) : Prop where
  | mk (a : List AV) (σ : St) (r : RepL a v) (S : Sim N Φ σ s) (q : Q a σ)
inductive PS (Φ : Cx G cs) (Q : St → Prop) (s : Shared) : Prop where
  | mk (σ : St) (S : Sim N Φ σ s) (q : Q σ)
inductive PC (Φ : Cx G cs) (Q : AV → St → Prop) (r : Result) (s : Shared) : Prop where
  | mk (v : Value) (a : AV) (σ : St) (e : r = .ok (.ret v)) (r : Rep a v) (S : Sim N Φ σ s) (q : Q a σ)
structure EV (Φ : Cx G cs) (e : Expr) (σ : St) (Q : AV → St → Prop) : Prop where
  run : ∀ s, Sim N Φ σ s → wpAny Φ.M Φ.A (eval e Φ.env) (fun v s' => PV N Φ Q v s') (fun _ _ => False) s
inductive Fl where
  | next | brk | cont
  | ret (v : AV)
noncomputable def FRel : Fl → Flow → Prop
  | .next, f => f = .next
  | .brk, f => f = .brk
  | .cont, f => f = .cont
  | .ret a, f => ∃ v, f = .ret v ∧ Rep a v
inductive PF (Φ : Cx G cs) (Q : Fl → St → Prop) (v : Flow) (s : Shared) : Prop where
  | mk (a : Fl) (σ : St) (r : FRel a v) (S : Sim N Φ σ s) (q : Q a σ)
structure EX (Φ : Cx G cs) (ss : List Stmt) (σ : St) (Q : Fl → St → Prop) : Prop where
  run : ∀ s, Sim N Φ σ s → wpAny Φ.M Φ.A (execs ss Φ.env) (fun f s' => PF N Φ Q f s') (fun _ _ => False) s
structure EX1 (Φ : Cx G cs) (st : Stmt) (σ : St) (Q : Fl → St → Prop) : Prop where
  run : ∀ s, Sim N Φ σ s → wpAny Φ.M Φ.A (exec st Φ.env) (fun f s' => PF N Φ Q f s') (fun _ _ => False) s
/-- A test. -/
structure TS (Φ : Cx G cs) (e : Expr) (σ : St) (Q : Bool → St → Prop) : Prop where
  run : ∀ s, Sim N Φ σ s → wpAny Φ.M Φ.A (PySem.isTrue e Φ.env (eval e Φ.env)) (fun b s' => PS N Φ (Q b) s') (fun _ _ => False) s
/-- A call of the function at f. -/
structure CL (Φ : Cx G cs) (f : Addr) (args : List AV) (σ : St) (Q : AV → St → Prop) : Prop where
  run : ∀ s vs, Sim N Φ σ s → RepL args vs → codeAny Φ.M Φ.A (.call (.ref f) ⟨vs, []⟩) (fun r s' => PC N Φ Q r s') s
variable {N}
section
variable {Φ : Cx G cs} {σ : St} {s : Shared}
theorem Sim.toks (h : Sim N Φ σ s) (t : Nat) : Sim N Φ σ { s with toks := t } :=
  let ⟨m, news, F, Nw, H, nd, L, o, g⟩ := h
  ⟨m, news, F, Nw, H, nd, L, o, g⟩
theorem Sim.sub {loc' : List (Nat × AV)} (h : Sim N Φ σ s) (hl : ∀ k v, loc'.lookup k = some v → σ.loc.lookup k = some v) : Sim N Φ ⟨loc', σ.hp⟩ s := by
  obtain ⟨m, news, F, Nw, H, nd, L, o, g⟩ := h
  exact ⟨m, news, F, Nw, H, nd, fun k v e => L k v (hl k v e), o, g⟩
theorem EV.mono {e : Expr} {Q Q' : AV → St → Prop} (h : EV N Φ e σ Q) (k : ∀ a σ', Q a σ' → Q' a σ') : EV N Φ e σ Q' :=
  .mk fun s S => wpAny_mono (h.run s S) (fun _ _ ⟨a, σ', r, S', q⟩ => ⟨a, σ', r, S', k a σ' q⟩) fun _ _ x => x
theorem EX.mono {ss : List Stmt} {Q Q' : Fl → St → Prop} (h : EX N Φ ss σ Q) (k : ∀ a σ', Q a σ' → Q' a σ') : EX N Φ ss σ Q' :=
  .mk fun s S => wpAny_mono (h.run s S) (fun _ _ ⟨a, σ', r, S', q⟩ => ⟨a, σ', r, S', k a σ' q⟩) fun _ _ x => x
theorem EX1.mono {ss : Stmt} {Q Q' : Fl → St → Prop} (h : EX1 N Φ ss σ Q) (k : ∀ a σ', Q a σ' → Q' a σ') : EX1 N Φ ss σ Q' :=
  .mk fun s S => wpAny_mono (h.run s S) (fun _ _ ⟨a, σ', r, S', q⟩ => ⟨a, σ', r, S', k a σ' q⟩) fun _ _ x => x
/-- One tree behind another. -/
theorem EV.k {e : Expr} {P : Value → Shared → Prop} {s : Shared} (S : Sim N Φ σ s) (h : EV N Φ e σ fun a σ' => ∀ v s', Rep a v → Sim N Φ σ' s' → P v s') :
    wpAny Φ.M Φ.A (eval e Φ.env) P (fun _ _ => False) s :=
  wpAny_mono (h.run s S) (fun _ _ ⟨_, _, r, S', q⟩ => q _ _ r S') fun _ _ x => x
theorem EV_int {i : Int} {k : Nat} {pos : Pos} {Q : AV → St → Prop} (h : Q (.int i) σ) : EV N Φ (.Constant (.int i) k pos) σ Q :=
  .mk fun _ S => wpAny_Constant_int ⟨.int i, σ, ⟨_, rfl⟩, S.toks _, h⟩
theorem EV_none {k : Nat} {pos : Pos} {Q : AV → St → Prop} (h : Q .none σ) : EV N Φ (.Constant .none k pos) σ Q :=
  .mk fun _ S => wpAny_Constant_none ⟨.none, σ, rfl, S, h⟩
theorem EV_bool {b : Bool} {k : Nat} {pos : Pos} {Q : AV → St → Prop} (h : Q (.bool b) σ) : EV N Φ (.Constant (.bool b) k pos) σ Q :=
  .mk fun _ S => wpAny_Constant_bool ⟨.bool b, σ, rfl, S, h⟩
theorem EV_str {x : Str} {k : Nat} {pos : Pos} {Q : AV → St → Prop} (h : Q .any σ) : EV N Φ (.Constant (.str x) k pos) σ Q :=
  .mk fun _ S => wpAny_Constant_str ⟨.any, σ, rfl, S.toks _, h⟩
theorem EV_Name {n : Nat} {pos : Pos} {v : AV} {Q : AV → St → Prop} (hN : NOk N) (hv : σ.loc.lookup n = some v) (h : Q v σ) : EV N Φ (.Name (N n) pos) σ Q := .mk fun s S => by
  obtain ⟨m, news, F, Nw, H, nd, L, o, g⟩ := id S
  obtain ⟨⟨c, hc, r⟩, hl⟩ := L _ _ hv
  exact ld F hc ⟨v, σ, r, S, h⟩ Φ.kind hl (hN.dbg n)
/-- What an operation on two values must be shown to give. -/
structure BO (N : Nat → Str) (Φ : Cx G cs) (op : Operator) (a b : AV) (σ : St) (Q : AV → St → Prop) : Prop where
  run : ∀ s u v, Rep a u → Rep b v → Sim N Φ σ s → wpAny Φ.M Φ.A (binaryOp op u v) (fun v s' => PV N Φ Q v s') (fun _ _ => False) s
structure IO (N : Nat → Str) (Φ : Cx G cs) (op : Operator) (a b : AV) (σ : St) (Q : AV → St → Prop) : Prop where
  run : ∀ s u v, Rep a u → Rep b v → Sim N Φ σ s → wpAny Φ.M Φ.A (inplaceOp op u v) (fun v s' => PV N Φ Q v s') (fun _ _ => False) s
structure CO (N : Nat → Str) (Φ : Cx G cs) (op : CmpOp) (a b : AV) (σ : St) (Q : AV → St → Prop) : Prop where
  run : ∀ s u v, Rep a u → Rep b v → Sim N Φ σ s → wpAny Φ.M Φ.A (compareOp op u v) (fun v s' => PV N Φ Q v s') (fun _ _ => False) s
structure GA (N : Nat → Str) (Φ : Cx G cs) (a : AV) (n : Str) (σ : St) (Q : AV → St → Prop) : Prop where
  run : ∀ s u, Rep a u → Sim N Φ σ s → wpAny Φ.M Φ.A (getAttr u n true) (fun v s' => PV N Φ Q v s') (fun _ _ => False) s
structure SA (N : Nat → Str) (Φ : Cx G cs) (a : AV) (n : Str) (b : AV) (σ : St) (Q : St → Prop) : Prop where
  run : ∀ s u v, Rep a u → Rep b v → Sim N Φ σ s → wpAny Φ.M Φ.A (setAttr u n v) (fun _ s' => PS N Φ Q s') (fun _ _ => False) s
structure TR (N : Nat → Str) (Φ : Cx G cs) (a : AV) (σ : St) (Q : Bool → St → Prop) : Prop where
  run : ∀ s u, Rep a u → Sim N Φ σ s → wpAny Φ.M Φ.A (truthy u) (fun b s' => PS N Φ (Q b) s') (fun _ _ => False) s
theorem EV_BinOp {l : Expr} {op : Operator} {r : Expr} {pos : Pos} {Q : AV → St → Prop}
    (h : EV N Φ l σ fun a σ₁ => EV N Φ r σ₁ fun b σ₂ => BO N Φ op a b σ₂ Q) : EV N Φ (.BinOp l op r pos) σ Q := .mk fun _ S =>
  wpAny_BinOp (EV.k S (h.mono fun _ _ h₁ _ _ ra S₁ => EV.k S₁ (h₁.mono fun _ _ h₂ _ s₂ rb S₂ => h₂.run s₂ _ _ ra rb S₂)))
theorem EV_Compare {l : Expr} {op : CmpOp} {r : Expr} {pos : Pos} {Q : AV → St → Prop} (hm : behindInMarks op r = false)
    (h : EV N Φ l σ fun a σ₁ => EV N Φ r σ₁ fun b σ₂ => CO N Φ op a b σ₂ Q) : EV N Φ (.Compare l [op] [r] pos) σ Q := .mk fun _ S =>
  wpAny_Compare1 (EV.k S (h.mono fun _ _ h₁ _ _ ra S₁ => EV.k S₁ (h₁.mono fun _ _ h₂ _ s₂ rb S₂ => h₂.run s₂ _ _ ra rb S₂))) hm
theorem EV_Attribute {e : Expr} {n : Str} {pos : Pos} {Q : AV → St → Prop} (h : EV N Φ e σ fun a σ₁ => GA N Φ a n σ₁ Q)
    (he : eval (.Attribute e n pos) Φ.env = (do let o ← eval e Φ.env; standAt pos.atName; let r ← holding [o] (getAttr o n true); letTemporaryGo e o r; pure r)) : EV N Φ (.Attribute e n pos) σ Q := .mk fun _ S =>
  Attribute_any_ (EV.k S (h.mono fun _ _ h₁ _ s₁ ra S₁ => h₁.run s₁ _ ra S₁)) he
theorem EV_Invert {e : Expr} {pos : Pos} {Q : AV → St → Prop} (h : EV N Φ e σ fun a σ₁ => ∃ i, a = .int i ∧ Q (.int (Builtin.bitNot i)) σ₁) : EV N Φ (.UnaryOp .Invert e pos) σ Q := .mk fun _ S =>
  UnaryOp_ (EV.k S (h.mono fun _ σ₁ h₁ _ _ ra S₁ => by
    obtain ⟨i, rfl, q⟩ := h₁
    obtain ⟨t, rfl⟩ := ra
    exact invert_int ⟨.int _, σ₁, ⟨_, rfl⟩, S₁.toks _, q⟩))
end
section
variable {Φ : Cx G cs} {σ : St} {i j : Int} {Q : AV → St → Prop}
theorem BO_add (h : Q (.int (i + j)) σ) : BO N Φ .Add (.int i) (.int j) σ Q := by
  refine ⟨?_⟩
  rintro s _ _ ⟨t, rfl⟩ ⟨u, rfl⟩ S
  exact add_int ⟨.int _, σ, ⟨_, rfl⟩, S.toks _, h⟩
theorem BO_sub (h : Q (.int (i - j)) σ) : BO N Φ .Sub (.int i) (.int j) σ Q := by
  refine ⟨?_⟩
  rintro s _ _ ⟨t, rfl⟩ ⟨u, rfl⟩ S
  exact sub_int ⟨.int _, σ, ⟨_, rfl⟩, S.toks _, h⟩
theorem BO_and (h : Q (.int (Builtin.bitAnd i j)) σ) : BO N Φ .BitAnd (.int i) (.int j) σ Q := by
  refine ⟨?_⟩
  rintro s _ _ ⟨t, rfl⟩ ⟨u, rfl⟩ S
  exact and_int ⟨.int _, σ, ⟨_, rfl⟩, S.toks _, h⟩
theorem BO_or (h : Q (.int (Builtin.bitOr i j)) σ) : BO N Φ .BitOr (.int i) (.int j) σ Q := by
  refine ⟨?_⟩
  rintro s _ _ ⟨t, rfl⟩ ⟨u, rfl⟩ S
  exact or_int ⟨.int _, σ, ⟨_, rfl⟩, S.toks _, h⟩
theorem BO_xor (h : Q (.int (Builtin.bitXor i j)) σ) : BO N Φ .BitXor (.int i) (.int j) σ Q := by
  refine ⟨?_⟩
  rintro s _ _ ⟨t, rfl⟩ ⟨u, rfl⟩ S
  exact xor_int ⟨.int _, σ, ⟨_, rfl⟩, S.toks _, h⟩
theorem BO_shr (hj : 0 ≤ j) (h : Q (.int (Int.fdiv i (2 ^ j.toNat))) σ) : BO N Φ .RShift (.int i) (.int j) σ Q := by
  refine ⟨?_⟩
  rintro s _ _ ⟨t, rfl⟩ ⟨u, rfl⟩ S
  exact rshift_int hj ⟨.int _, σ, ⟨_, rfl⟩, S.toks _, h⟩
theorem BO_shl (hj : 0 ≤ j) (hb : (Builtin.Int.intBits i : Int) + j ≤ 2 ^ 27) (h : Q (.int (i * 2 ^ j.toNat)) σ) : BO N Φ .LShift (.int i) (.int j) σ Q := by
  refine ⟨?_⟩
  rintro s _ _ ⟨t, rfl⟩ ⟨u, rfl⟩ S
  exact lshift_int hj hb ⟨.int _, σ, ⟨_, rfl⟩, S.toks _, h⟩
theorem BO_mod (hj : j ≠ 0) (h : Q (.int (Int.fmod i j)) σ) : BO N Φ .Mod (.int i) (.int j) σ Q := by
  refine ⟨?_⟩
  rintro s _ _ ⟨t, rfl⟩ ⟨u, rfl⟩ S
  exact mod_int hj ⟨.int _, σ, ⟨_, rfl⟩, S.toks _, h⟩
theorem BO_div (hj : j ≠ 0) (hp : Builtin.divisionGoesByPylong i j = false) (h : Q (.int (Int.fdiv i j)) σ) : BO N Φ .FloorDiv (.int i) (.int j) σ Q := by
  refine ⟨?_⟩
  rintro s _ _ ⟨t, rfl⟩ ⟨u, rfl⟩ S
  exact floordiv_int hj ⟨.int _, σ, ⟨_, rfl⟩, S.toks _, h⟩ (.inl hp)
theorem BO_mul (hm : IntMulOk i j) (h : Q (.int (i * j)) σ) : BO N Φ .Mult (.int i) (.int j) σ Q := by
  refine ⟨?_⟩
  rintro s _ _ ⟨t, rfl⟩ ⟨u, rfl⟩ S
  exact mul_int ⟨.int _, σ, ⟨_, rfl⟩, S.toks _, h⟩ hm
theorem CO_eq (h : Q (.bool (i == j)) σ) : CO N Φ .Eq (.int i) (.int j) σ Q := by
  refine ⟨?_⟩
  rintro s _ _ ⟨t, rfl⟩ ⟨u, rfl⟩ S
  exact eq_int ⟨.bool _, σ, rfl, S, h⟩
theorem CO_ne (h : Q (.bool (i != j)) σ) : CO N Φ .NotEq (.int i) (.int j) σ Q := by
  refine ⟨?_⟩
  rintro s _ _ ⟨t, rfl⟩ ⟨u, rfl⟩ S
  exact ne_int ⟨.bool _, σ, rfl, S, h⟩
theorem CO_lt (h : Q (.bool (decide (i < j))) σ) : CO N Φ .Lt (.int i) (.int j) σ Q := by
  refine ⟨?_⟩
  rintro s _ _ ⟨t, rfl⟩ ⟨u, rfl⟩ S
  exact lt_int ⟨.bool _, σ, rfl, S, h⟩
theorem CO_gt (h : Q (.bool (decide (i > j))) σ) : CO N Φ .Gt (.int i) (.int j) σ Q := by
  refine ⟨?_⟩
  rintro s _ _ ⟨t, rfl⟩ ⟨u, rfl⟩ S
  exact gt_int ⟨.bool _, σ, rfl, S, h⟩
theorem CO_le (h : Q (.bool (decide (i ≤ j))) σ) : CO N Φ .LtE (.int i) (.int j) σ Q := by
  refine ⟨?_⟩
  rintro s _ _ ⟨t, rfl⟩ ⟨u, rfl⟩ S
  exact le_int ⟨.bool _, σ, rfl, S, h⟩
theorem CO_ge (h : Q (.bool (decide (i ≥ j))) σ) : CO N Φ .GtE (.int i) (.int j) σ Q := by
  refine ⟨?_⟩
  rintro s _ _ ⟨t, rfl⟩ ⟨u, rfl⟩ S
  exact ge_int ⟨.bool _, σ, rfl, S, h⟩
theorem TR_bool {b : Bool} {Q : Bool → St → Prop} (h : Q b σ) : TR N Φ (.bool b) σ Q := by
  refine ⟨?_⟩
  rintro s _ rfl S
  exact wpAny_truthy_bool ⟨σ, S, h⟩
theorem TR_int {Q : Bool → St → Prop} (h : Q (i != 0) σ) : TR N Φ (.int i) σ Q := by
  refine ⟨?_⟩
  rintro s _ ⟨t, rfl⟩ S
  exact truthy_int ⟨σ, S, h⟩
end
end
section
theorem Rep.handed : ∀ {a : AV} {v : Value}, Rep a v → handedIn v = true
  | .int _, _, ⟨_, rfl⟩ => rfl
  | .bool _, _, rfl => rfl
  | .none, _, rfl => rfl
  | .any, _, h => h
  | .ref _, _, rfl => rfl
  | .known _, _, ⟨rfl, h⟩ => h
noncomputable def put (n : Nat) (v : AV) : List (Nat × AV) → List (Nat × AV)
  | [] => [(n, v)]
  | (k, u) :: r => match k == n with
    | true => (k, v) :: r
    | false => (k, u) :: put n v r
theorem lookup_put (n : Nat) (v : AV) : ∀ (fs : List (Nat × AV)) (j : Nat), (put n v fs).lookup j = if j = n then some v else fs.lookup j
  | [], j => by
    simp only [put, List.lookup]
    by_cases h : j = n
    · subst h; simp
    · simp [h, beq_eq_false_iff_ne.mpr h]
  | (k, u) :: r, j => by
    have ih := lookup_put n v r j
    simp only [put]
    cases hk : k == n with
    | true =>
      have hk := beq_iff_eq.mp hk
      subst hk
      simp only [List.lookup]
      by_cases h : j = k
      · subst h; simp
      · simp [h, beq_eq_false_iff_ne.mpr h]
    | false =>
      have hk := beq_eq_false_iff_ne.mp hk
      simp only [List.lookup]
      cases hj : j == k with
      | true => have hj := beq_iff_eq.mp hj; subst hj; simp [hk]
      | false => exact ih
theorem put_length (n : Nat) (v : AV) : ∀ fs : List (Nat × AV), (put n v fs).length = if (fs.lookup n).isSome then fs.length else fs.length + 1
  | [] => rfl
  | (k, u) :: r => by
    have ih := put_length n v r
    simp only [put]
    cases hk : k == n with
    | true => have hk := beq_iff_eq.mp hk; subst hk; simp [List.lookup]
    | false =>
      have hk' := beq_eq_false_iff_ne.mp hk
      have : (n == k) = false := beq_eq_false_iff_ne.mpr (Ne.symm hk')
      simp only [List.lookup, this, List.length_cons, ih]
      split <;> rfl
theorem putL_length (name : Str) (hsh : Int) (key v : Value) : ∀ es : List DictEntry, (putL name hsh key v es).length = if es.any (·.key.isStr name) then es.length else es.length + 1
  | [] => rfl
  | e :: r => by
    have ih := putL_length name hsh key v r
    simp only [putL, List.any_cons]
    by_cases h : e.key.isStr name = true
    · simp [h]
    · simp only [h, if_false, List.length_cons, Bool.false_or, ih, Bool.false_eq_true]; split <;> rfl
theorem putL_refKey (name : Str) (hsh : Int) (key v : Value) (hk : (⟨hsh, key, v⟩ : DictEntry).refKey = false) : ∀ es : List DictEntry, es.any (·.refKey) = false → (putL name hsh key v es).any (·.refKey) = false
  | [], _ => by simp [putL, hk]
  | e :: r, h => by
    rw [List.any_cons, Bool.or_eq_false_iff] at h
    simp only [putL]
    split
    · rw [List.any_cons, Bool.or_eq_false_iff]; exact ⟨h.1, h.2⟩
    · rw [List.any_cons, Bool.or_eq_false_iff]; exact ⟨h.1, putL_refKey name hsh key v hk r h.2⟩
theorem putL_find_self (name : Str) (hsh : Int) (key v : Value) (hk : key.isStr name = true) : ∀ es : List DictEntry, ((putL name hsh key v es).find? (·.key.isStr name)).map (·.val) = some v
  | [] => by simp [putL, hk]
  | e :: r => by
    simp only [putL]
    split
    · rename_i h; simp [h]
    · rename_i h; simp only [List.find?_cons]; simp only [Bool.not_eq_true] at h; rw [h]; exact putL_find_self name hsh key v hk r
theorem putL_find_other (name name' : Str) (hsh : Int) (key v : Value) (hk : key.isStr name' = false) (hn : ∀ k : Value, k.isStr name = true → k.isStr name' = false) : ∀ es : List DictEntry, ((putL name hsh key v es).find? (·.key.isStr name')).map (·.val) = (es.find? (·.key.isStr name')).map (·.val)
  | [] => by simp [putL, hk]
  | e :: r => by
    simp only [putL]
    split
    · rename_i h; simp only [List.find?_cons, hn _ h]
    · simp only [List.find?_cons]
      split
      · rfl
      · exact putL_find_other name name' hsh key v hk hn r
theorem getL_of (name : Str) (es : List DictEntry) (h : es.any (·.refKey) = false) : getL name es = some ((es.find? (·.key.isStr name)).map (·.val)) := by
  unfold getL
  cases hf : es.find? (·.key.isStr name) with
  | none => simp [h]
  | some e => rfl
theorem isStr_str (a b : Str) (t : Tok) : (Value.str a t).isStr b = (a == b) := rfl
theorem isStr_ne {a b : Str} (h : a ≠ b) : ∀ k : Value, k.isStr a = true → k.isStr b = false := fun k hk => by
  cases k <;> first | (cases hk; done) | skip
  rename_i x t
  rw [isStr_str] at hk ⊢
  have := beq_iff_eq.mp hk
  subst this
  exact beq_eq_false_iff_ne.mpr h
theorem FRep.put {N : Nat → Str} (hN : ∀ i j, N i = N j → i = j) {fs : List (Nat × AV)} {es : List DictEntry} (h : FRep N fs es) (n : Nat) (a : AV) {v : Value} (hr : Rep a v) (hsh : Int) (t : Tok) :
    FRep N (put n a fs) (putL (N n) hsh (.str (N n) t) v es) := by
  obtain ⟨hl, hk, hg⟩ := h
  have hk' := putL_refKey (N n) hsh (.str (N n) t) v rfl es hk
  refine ⟨?_, hk', fun k => ?_⟩
  · rw [putL_length, put_length, hl]
    have := hg n
    rw [getL_of _ _ hk] at this
    cases hq : fs.lookup n with
    | none =>
      rw [hq] at this
      have e : es.find? (·.key.isStr (N n)) = none := by simpa using this
      have : es.any (·.key.isStr (N n)) = false := by
        rw [← Bool.not_eq_true, List.any_eq_true]
        rintro ⟨x, hx, q⟩
        exact absurd q (by simpa using List.find?_eq_none.mp e x hx)
      rw [this]; rfl
    | some u =>
      rw [hq] at this
      obtain ⟨c, e, _⟩ := this
      have e : (es.find? (·.key.isStr (N n))).map (·.val) = some c := by simpa using e
      obtain ⟨x, hx, _⟩ := Option.map_eq_some_iff.mp e
      have : es.any (·.key.isStr (N n)) = true := List.any_eq_true.mpr ⟨x, List.mem_of_find?_eq_some hx, by simpa using List.find?_some hx⟩
      rw [this]; rfl
  · rw [lookup_put, getL_of _ _ hk']
    by_cases e : k = n
    · subst e
      rw [if_pos rfl, putL_find_self _ _ _ _ (by rw [isStr_str]; exact beq_self_eq_true _)]
      exact ⟨v, rfl, hr⟩
    · rw [if_neg e]
      have ne : N n ≠ N k := fun q => e (hN _ _ q).symm
      rw [putL_find_other _ _ _ _ _ (isStr_ne ne _ (by rw [isStr_str]; exact beq_self_eq_true _)) (isStr_ne ne)]
      have := hg k
      rw [getL_of _ _ hk] at this
      exact this
/-- What the class's own table says of one name. -/
structure ClsOk (K : Frag) (C : Addr) : Prop where
  get : plainGet K C "" = true
  has : hasDictIn K C = true
  set : findIn K (.ref C) "__setattr__" = some (some (.builtin "object.__setattr__"))
  over : plainOver K C = true
structure FieldOk (K : Frag) (C : Addr) (n : Str) : Prop where
  find : findIn K (.ref C) n = some none
  taker : takerIn K C n = some none
structure ClsInt (K : Frag) (C : Addr) (n : Str) (i : Int) : Prop where
  ex : ∃ t, findIn K (.ref C) n = some (some (.int i t)) ∧ specialIn K (.int i t) "__get__" = some none
  copied : copiedNames.contains n = false
structure ClsRef (K : Frag) (C : Addr) (n : Str) (a : Addr) : Prop where
  find : findIn K (.ref C) n = some (some (.ref a))
  get : specialIn K (.ref a) "__get__" = some none
  copied : copiedNames.contains n = false
structure ClsFn (K : Frag) (C : Addr) (n : Str) (f : Addr) : Prop where
  find : findIn K (.ref C) n = some (some (.ref f))
  fn : isFn K (.ref f) = true
  get : specialIn K (.ref f) "__get__" = some (some (.builtin "function.__get__"))
  takes : takesIn K (.ref f) = some false
  copied : copiedNames.contains n = false
  keep : keepIn K (.ref f) = true
variable {N : Nat → Str} {G : Gl} {cs : Scope} {Φ : Cx G cs} {σ : St} {x C d : Addr} {fs : List (Nat × AV)} {n : Nat} {v : AV} {Q : AV → St → Prop}
theorem Sim.inst {s : Shared} {m : Str → Option Value} {news : List (Addr × Obj)} (Nw : News Φ.h₀ Φ.L s.heap news) (H : HRep N σ.hp news) (hx : (x, AO.inst C d) ∈ σ.hp) (hd : (d, AO.dict fs) ∈ σ.hp) :
    ∃ es k, InstAt s.heap x (instObj C d) C (some (dictOf es k)) ∧ FRep N fs es := by
  let _ := m
  obtain ⟨co, h1, h2⟩ := H.mem hx
  obtain ⟨cd, h3, es, k, h4, h5⟩ := H.mem hd
  cases h2
  cases h4
  exact ⟨es, k, InstAt.of_news Nw h1 h3, h5⟩
theorem GA_field (O : ClsOk G.K C) (FO : FieldOk G.K C (N n)) (hx : (x, AO.inst C d) ∈ σ.hp) (hd : (d, AO.dict fs) ∈ σ.hp) (hl : fs.lookup n = some v) (h : Q v σ) : GA N Φ (.ref x) (N n) σ Q := by
  refine ⟨?_⟩
  rintro s _ rfl S
  obtain ⟨m, news, F, Nw, H, nd, L, o, g⟩ := id S
  obtain ⟨es, k, I, fr⟩ := Sim.inst (m := m) Nw H hx hd
  have := fr.2.2 n
  rw [hl] at this
  obtain ⟨c, hc, r⟩ := this
  exact get_own F Φ.X I O.get O.has FO.find rfl hc r.handed ⟨v, σ, r, S.toks _, h⟩
theorem GA_int {i : Int} (O : ClsOk G.K C) (FO : ClsInt G.K C (N n) i) (hx : (x, AO.inst C d) ∈ σ.hp) (hd : (d, AO.dict fs) ∈ σ.hp) (hl : fs.lookup n = none) (h : Q (.int i) σ) : GA N Φ (.ref x) (N n) σ Q := by
  refine ⟨?_⟩
  rintro s _ rfl S
  obtain ⟨m, news, F, Nw, H, nd, L, o, g⟩ := id S
  obtain ⟨es, k, I, fr⟩ := Sim.inst (m := m) Nw H hx hd
  have := fr.2.2 n
  rw [hl] at this
  obtain ⟨t, h1, h2⟩ := FO.ex
  exact get_cls F Φ.X I O.get O.has h1 h2 rfl FO.copied this ⟨.int i, σ, ⟨_, rfl⟩, S.toks _, h⟩
theorem GA_ref {a : Addr} (O : ClsOk G.K C) (FO : ClsRef G.K C (N n) a) (hx : (x, AO.inst C d) ∈ σ.hp) (hd : (d, AO.dict fs) ∈ σ.hp) (hl : fs.lookup n = none) (h : Q (.ref a) σ) : GA N Φ (.ref x) (N n) σ Q := by
  refine ⟨?_⟩
  rintro s _ rfl S
  obtain ⟨m, news, F, Nw, H, nd, L, o, g⟩ := id S
  obtain ⟨es, k, I, fr⟩ := Sim.inst (m := m) Nw H hx hd
  have := fr.2.2 n
  rw [hl] at this
  exact get_cls F Φ.X I O.get O.has FO.find FO.get rfl FO.copied this ⟨.ref a, σ, rfl, S.toks _, h⟩
theorem Sim.grow {s : Shared} {m : Str → Option Value} {news : List (Addr × Obj)} {h' : Heap} {q : Addr} {ao : AO} {co : Obj} (S : HRep N σ.hp news) (nd : (news.map (·.1)).Nodup) (L : LRep N cs σ.loc m) (o : s.os = G.os) (g : s.gens = #[])
    (F : Fr Φ.h₀ Φ.L h' m) (Nw : News Φ.h₀ Φ.L h' ((q, co) :: news)) (lt : ∀ p ∈ news, p.1 < q) (r : ORep N ao co) {pre post : List (Addr × AO)} (e : σ.hp = pre ++ post) (t : Nat) :
    Sim N Φ ⟨σ.loc, pre ++ (q, ao) :: post⟩ { s with heap := h', toks := t } := by
  rw [e] at S
  have split : ∀ (a b : List (Addr × AO)) (l : List (Addr × Obj)), HRep N (a ++ b) l → ∃ l1 l2, l = l1 ++ l2 ∧ HRep N (a ++ (q, ao) :: b) (l1 ++ (q, co) :: l2) := by
    intro a
    induction a with
    | nil => intro b l h; exact ⟨[], l, rfl, ⟨rfl, r⟩, h⟩
    | cons p a ih =>
      intro b l h
      cases l with
      | nil => exact h.elim
      | cons y l =>
        obtain ⟨l1, l2, rfl, h2⟩ := ih b l h.2
        exact ⟨y :: l1, l2, rfl, h.1, h2⟩
  obtain ⟨l1, l2, rfl, h2⟩ := split pre post news S
  refine ⟨m, l1 ++ (q, co) :: l2, F, fun p hp => Nw p ?_, h2, ?_, L, o, g⟩
  · rcases List.mem_append.mp hp with z | z
    · exact .tail _ (List.mem_append_left _ z)
    · rcases List.mem_cons.mp z with rfl | z
      · exact .head _
      · exact .tail _ (List.mem_append_right _ z)
  · have nq : q ∉ (l1 ++ l2).map (·.1) := fun z => by
      obtain ⟨p, hp, e⟩ := List.mem_map.mp z
      have := lt p hp
      rw [e] at this
      exact Nat.lt_irrefl _ this
    have : (((q, co) :: (l1 ++ l2)).map (·.1)).Nodup := by rw [List.map_cons, List.nodup_cons]; exact ⟨nq, nd⟩
    refine (List.Perm.nodup_iff (List.Perm.map _ ?_)).mp this
    exact List.perm_middle.symm
/-- A bound method as a value: it is laid behind the first three of the own objects. -/
theorem GA_meth {f : Addr} {pre post : List (Addr × AO)} (O : ClsOk G.K C) (FO : ClsFn G.K C (N n) f) (hx : (x, AO.inst C d) ∈ σ.hp) (hd : (d, AO.dict fs) ∈ σ.hp) (hl : fs.lookup n = none) (e : σ.hp = pre ++ post)
    (h : ∀ q, Q (.ref q) ⟨σ.loc, pre ++ (q, .meth f x) :: post⟩) : GA N Φ (.ref x) (N n) σ Q := by
  refine ⟨?_⟩
  rintro s _ rfl S
  obtain ⟨m, news, F, Nw, H, nd, L, o, g⟩ := id S
  obtain ⟨es, k, I, fr⟩ := Sim.inst (m := m) Nw H hx hd
  have := fr.2.2 n
  rw [hl] at this
  exact kbm_bound F Φ.X Nw I O.get O.has FO.find FO.fn FO.get FO.takes FO.copied this fun q h' F' N' lt => ⟨.ref q, _, rfl, Sim.grow (ao := .meth f x) H nd L o g F' N' lt rfl e _, h q⟩
theorem SA_field {hp' : List (Addr × AO)} {Q : St → Prop} (hN : NOk N) (O : ClsOk G.K C) (FO : FieldOk G.K C (N n)) (hx : (x, AO.inst C d) ∈ σ.hp) (hd : Rpl d (.dict fs) (.dict (put n v fs)) σ.hp hp') (hz : fs.length < 1000) (h : Q ⟨σ.loc, hp'⟩) : SA N Φ (.ref x) (N n) v σ Q := by
  refine ⟨?_⟩
  rintro s _ c rfl r S
  obtain ⟨m, news, F, Nw, H, nd, L, o, g⟩ := id S
  obtain ⟨es, k, I, fr⟩ := Sim.inst (m := m) Nw H hx hd.mem
  obtain ⟨co, h1, h2, h3⟩ := H.rpl nd hd
  obtain ⟨es', k', e1, fr'⟩ := h2
  have e2 : dictOf es k = dictOf es' k' := by
    have a := I.dict
    have b := (Nw _ h1).1
    rw [e1] at b
    simp only at a
    exact Option.some.inj (a.symm.trans b)
  rw [e1, ← e2] at h3
  have P := FRep.put hN.inj fr n v r (PyData.keyHash G.w.params (N n)) (s.toks + 1)
  obtain ⟨news', U, H', kk⟩ := h3 (dictOf (putL (N n) (PyData.keyHash G.w.params (N n)) (.str (N n) (s.toks + 1)) c es) (putN (N n) es k)) ⟨_, _, rfl, P⟩
  refine set_dict F Φ.X Nw I rfl O.set O.over FO.taker O.has (by rw [getL_of _ _ fr.2.1]; rfl) rfl U ?_ fun h' F' N' => ⟨⟨σ.loc, hp'⟩, ⟨m, news', F', N', H', by rw [kk]; exact nd, L, o, g⟩, h⟩
  rw [P.1, put_length]
  split <;> omega
end
section
variable {N : Nat → Str} {G : Gl} {cs : Scope} {Φ : Cx G cs} {σ : St}
theorem EX_nil {Q : Fl → St → Prop} (h : Q .next σ) : EX N Φ [] σ Q := .mk fun _ S => wpAny_execs_nil ⟨.next, σ, rfl, S, h⟩
structure ThenX (f : Fl) (P R : Prop) : Prop where
  run : match f with
    | .next => P
    | _ => R
theorem EX_cons {st : Stmt} {rest : List Stmt} {Q : Fl → St → Prop} (h : EX1 N Φ st σ fun f σ' => ThenX f (EX N Φ rest σ' Q) (Q f σ')) : EX N Φ (st :: rest) σ Q := .mk fun s S => by
  refine wpAny_execs_cons (wpAny_mono (h.run s S) (fun f s' ⟨a, σ', r, S', q⟩ => ?_) fun _ _ x => x)
  cases a with
  | next => cases r; exact q.run.run s' S'
  | brk => cases r; exact ⟨.brk, σ', rfl, S', q.run⟩
  | cont => cases r; exact ⟨.cont, σ', rfl, S', q.run⟩
  | ret v => obtain ⟨u, rfl, r⟩ := r; exact ⟨.ret v, σ', ⟨u, rfl, r⟩, S', q.run⟩
theorem interactive_no : interactive Φ.env = false := by
  unfold interactive
  show (cs.kind == .module && _) = false
  rw [Φ.kind]; rfl
theorem EX1_Expr {e : Expr} {pos : Pos} {Q : Fl → St → Prop} (h : EV N Φ e σ fun _ σ' => Q .next σ') (hs : swapsWith e none pos.line Φ.env = pure false) : EX1 N Φ (.Expr e pos) σ Q := .mk fun s S =>
  wpAny_Expr_any (EV.k S (h.mono fun _ σ' q _ _ _ S' => ⟨.next, σ', rfl, S', q⟩)) interactive_no hs
theorem EX1_Return {e : Expr} {pos : Pos} {Q : Fl → St → Prop} (h : EV N Φ e σ fun a σ' => Q (.ret a) σ') : EX1 N Φ (.Return (some e) pos) σ Q := .mk fun s S =>
  wpAny_Return_some (EV.k S (h.mono fun a σ' q v _ r S' => ⟨.ret a, σ', ⟨v, rfl, r⟩, S', q⟩))
theorem EX1_Return0 {pos : Pos} {Q : Fl → St → Prop} (h : Q (.ret .none) σ) : EX1 N Φ (.Return none pos) σ Q := .mk fun s S =>
  wpAny_Return_none ⟨.ret .none, σ, ⟨_, rfl, rfl⟩, S, h⟩
theorem EX1_Pass {pos : Pos} {Q : Fl → St → Prop} (h : Q .next σ) : EX1 N Φ (.Pass pos) σ Q := .mk fun s S => wpAny_Pass ⟨.next, σ, rfl, S, h⟩
theorem EX1_If {test : Expr} {body orelse : List Stmt} {pos : Pos} {Q : Fl → St → Prop} (h : TS N Φ test σ fun b σ' => (b = true → EX N Φ body σ' Q) ∧ (b = false → EX N Φ orelse σ' Q)) : EX1 N Φ (.If test body orelse pos) σ Q := .mk fun s S => by
  refine wpAny_If (wpAny_mono (h.run s S) (fun b s' ⟨σ', S', q⟩ => ?_) fun _ _ x => x)
  cases b with
  | true => rw [if_pos rfl]; exact (q.1 rfl).run s' S'
  | false => rw [if_neg (by decide)]; exact (q.2 rfl).run s' S'
theorem TS_plain {e : Expr} {Q : Bool → St → Prop} (h : EV N Φ e σ fun a σ' => TR N Φ a σ' Q)
    (he : PySem.isTrue e Φ.env (eval e Φ.env) = (do let v ← eval e Φ.env; standAt e.pos; holding [v] (truthy v))) : TS N Φ e σ Q := .mk fun s S =>
  isTrue_plain (EV.k S (h.mono fun _ _ q _ s' r S' => q.run s' _ r S')) he
theorem TS_Compare {l : Expr} {op : CmpOp} {r : Expr} {pos : Pos} {Q : Bool → St → Prop} (hm : behindInMarks op r = false) (h : EV N Φ l σ fun a σ₁ => EV N Φ r σ₁ fun b σ₂ => CO N Φ op a b σ₂ fun c σ₃ => TR N Φ c σ₃ Q) :
    TS N Φ (.Compare l [op] [r] pos) σ Q := .mk fun s S =>
  wpAny_isTrue_Compare1 (EV.k S (h.mono fun _ _ h₁ _ _ ra S₁ => EV.k S₁ (h₁.mono fun _ _ h₂ _ s₂ rb S₂ =>
    wpAny_mono (h₂.run s₂ _ _ ra rb S₂) (fun _ s₃ ⟨_, _, rc, S₃, q⟩ => q.run s₃ _ rc S₃) fun _ _ x => x))) hm
/-- A name is stored. -/
structure SN (N : Nat → Str) (Φ : Cx G cs) (n : Nat) (a : AV) (σ : St) (Q : St → Prop) : Prop where
  run : ∀ s v, Rep a v → Sim N Φ σ s → wpAny Φ.M Φ.A (storeName Φ.env (N n) v) (fun _ s' => PS N Φ Q s') (fun _ _ => False) s
theorem SN_new {n : Nat} {a : AV} {Q : St → Prop} (hN : NOk N) (hl : cs.names.lookup (N n) = some .local) (h : Q ⟨(n, a) :: σ.loc, σ.hp⟩) : SN N Φ n a σ Q := by
  refine ⟨?_⟩
  intro s v r S
  obtain ⟨m, news, F, Nw, H, nd, L, o, g⟩ := id S
  refine stN F Nw (fun h' F' N' => ⟨⟨(n, a) :: σ.loc, σ.hp⟩, ⟨_, news, F', N', H, nd, fun k u e => ?_, o, g⟩, h⟩) Φ.kind hl
  simp only [List.lookup] at e
  split at e
  · rename_i q
    have q := beq_iff_eq.mp q
    subst q
    cases e
    exact ⟨⟨v, by simp, r⟩, hl⟩
  · rename_i q
    have q := beq_eq_false_iff_ne.mp q
    obtain ⟨⟨c, hc, rc⟩, hk⟩ := L k u e
    refine ⟨⟨c, ?_, rc⟩, hk⟩
    show (if N k = N n then some v else m (N k)) = some c
    rw [if_neg (fun z => q (hN.inj _ _ z))]
    exact hc
theorem SN_old {n : Nat} {a : AV} {Q : St → Prop} (hN : NOk N) (hl : (σ.loc.lookup n).isSome = true) (h : Q ⟨(n, a) :: σ.loc, σ.hp⟩) : SN N Φ n a σ Q := by
  refine ⟨?_⟩
  intro s v r S
  obtain ⟨m, news, F, Nw, H, nd, L, o, g⟩ := id S
  obtain ⟨u, hu⟩ := Option.isSome_iff_exists.mp hl
  exact (SN_new hN (L n u hu).2 h).run s v r S
theorem EX1_Assign {n : Nat} {np : Pos} {value : Expr} {pos : Pos} {Q : Fl → St → Prop} (h : EV N Φ value σ fun a σ₁ => SN N Φ n a σ₁ fun σ₂ => Q .next σ₂)
    (hs : swapsWith value (some (.Name (N n) np)) pos.line Φ.env = pure false) : EX1 N Φ (.Assign [.Name (N n) np] value pos) σ Q := .mk fun s S =>
  wpAny_Assign_Name (EV.k S (h.mono fun _ _ q _ s₁ r S₁ => wpAny_mono (q.run s₁ _ r S₁) (fun _ _ ⟨σ₂, S₂, q₂⟩ => ⟨.next, σ₂, rfl, S₂, q₂⟩) fun _ _ x => x)) hs
theorem EX1_AssignA {o : Expr} {at_ : Str} {np : Pos} {value : Expr} {pos : Pos} {Q : Fl → St → Prop} (h : EV N Φ value σ fun a σ₁ => EV N Φ o σ₁ fun b σ₂ => SA N Φ b at_ a σ₂ fun σ₃ => Q .next σ₃)
    (hs : swapsWith value (some (.Attribute o at_ np)) pos.line Φ.env = pure false) : EX1 N Φ (.Assign [.Attribute o at_ np] value pos) σ Q := .mk fun s S =>
  plainObj_wpAny_Assign_Attribute (EV.k S (h.mono fun _ _ q _ s₁ r S₁ => EV.k S₁ (q.mono fun _ _ q₂ _ s₂ r₂ S₂ => wpAny_mono (q₂.run s₂ _ _ r₂ r S₂) (fun _ _ ⟨σ₃, S₃, q₃⟩ => ⟨.next, σ₃, rfl, S₃, q₃⟩) fun _ _ x => x))) hs
theorem EX1_AugA {o : Expr} {at_ : Str} {np : Pos} {op : Operator} {value : Expr} {pos : Pos} {Q : Fl → St → Prop}
    (h : EV N Φ o σ fun b σ₁ => GA N Φ b at_ σ₁ fun old σ₂ => EV N Φ value σ₂ fun a σ₃ => IO N Φ op old a σ₃ fun new σ₄ => SA N Φ b at_ new σ₄ fun σ₅ => Q .next σ₅) :
    EX1 N Φ (.AugAssign (.Attribute o at_ np) op value pos) σ Q := .mk fun s S =>
  wpAny_AugAssign_AttributeAny (EV.k S (h.mono fun _ _ q _ s₁ rb S₁ => wpAny_mono (q.run s₁ _ rb S₁) (fun _ s₂ ⟨_, _, ro, S₂, q₂⟩ =>
    EV.k S₂ (q₂.mono fun _ _ q₃ _ s₃ ra S₃ => wpAny_mono (q₃.run s₃ _ _ ro ra S₃) (fun _ s₄ ⟨_, _, rn, S₄, q₄⟩ =>
      wpAny_mono (q₄.run s₄ _ _ rb rn S₄) (fun _ _ ⟨σ₅, S₅, q₅⟩ => ⟨.next, σ₅, rfl, S₅, q₅⟩) fun _ _ x => x) fun _ _ x => x)) fun _ _ x => x))
theorem EX1_AugN {n : Nat} {np : Pos} {op : Operator} {value : Expr} {pos : Pos} {v : AV} {Q : Fl → St → Prop} (hN : NOk N) (hv : σ.loc.lookup n = some v)
    (h : EV N Φ value σ fun a σ₁ => IO N Φ op v a σ₁ fun new σ₂ => SN N Φ n new σ₂ fun σ₃ => Q .next σ₃) :
    EX1 N Φ (.AugAssign (.Name (N n) np) op value pos) σ Q := .mk fun s S => by
  obtain ⟨m, news, F, Nw, H, nd, L, o, g⟩ := id S
  obtain ⟨⟨c, hc, r⟩, hl⟩ := L _ _ hv
  let _ := hN
  exact wpAny_AugAssign_Name (ldn F hc (EV.k S (h.mono fun _ _ q₃ _ s₃ ra S₃ => wpAny_mono (q₃.run s₃ _ _ r ra S₃) (fun _ s₄ ⟨_, _, rn, S₄, q₄⟩ =>
      wpAny_mono (q₄.run s₄ _ rn S₄) (fun _ _ ⟨σ₅, S₅, q₅⟩ => ⟨.next, σ₅, rfl, S₅, q₅⟩) fun _ _ x => x) fun _ _ x => x)) Φ.kind hl)
end
section
section
variable {N : Nat → Str} {G : Gl} {cs : Scope} {Φ : Cx G cs} {σ : St} {i j : Int} {Q : AV → St → Prop}
theorem IO_add (h : Q (.int (i + j)) σ) : IO N Φ .Add (.int i) (.int j) σ Q := by
  refine ⟨?_⟩
  rintro s _ _ ⟨t, rfl⟩ ⟨u, rfl⟩ S
  exact iadd_int ⟨.int _, σ, ⟨_, rfl⟩, S.toks _, h⟩
theorem IO_sub (h : Q (.int (i - j)) σ) : IO N Φ .Sub (.int i) (.int j) σ Q := by
  refine ⟨?_⟩
  rintro s _ _ ⟨t, rfl⟩ ⟨u, rfl⟩ S
  exact isub_int ⟨.int _, σ, ⟨_, rfl⟩, S.toks _, h⟩
theorem IO_and (h : Q (.int (Builtin.bitAnd i j)) σ) : IO N Φ .BitAnd (.int i) (.int j) σ Q := by
  refine ⟨?_⟩
  rintro s _ _ ⟨t, rfl⟩ ⟨u, rfl⟩ S
  exact iand_int ⟨.int _, σ, ⟨_, rfl⟩, S.toks _, h⟩
theorem IO_or (h : Q (.int (Builtin.bitOr i j)) σ) : IO N Φ .BitOr (.int i) (.int j) σ Q := by
  refine ⟨?_⟩
  rintro s _ _ ⟨t, rfl⟩ ⟨u, rfl⟩ S
  exact ior_int ⟨.int _, σ, ⟨_, rfl⟩, S.toks _, h⟩
theorem IO_xor (h : Q (.int (Builtin.bitXor i j)) σ) : IO N Φ .BitXor (.int i) (.int j) σ Q := by
  refine ⟨?_⟩
  rintro s _ _ ⟨t, rfl⟩ ⟨u, rfl⟩ S
  exact ixor_int ⟨.int _, σ, ⟨_, rfl⟩, S.toks _, h⟩
theorem CO_is_none {a : AV} (h : Q (.bool (match a with | .none => true | _ => false)) σ) (ha : ∀ u, a ≠ .known u) (ha' : a ≠ .any) : CO N Φ .Is a .none σ Q := by
  refine ⟨?_⟩
  rintro s u _ ra rfl S
  cases a with
  | known u => exact absurd rfl (ha u)
  | any => exact absurd rfl ha'
  | int i => obtain ⟨t, rfl⟩ := ra; exact wpAny_pure ⟨.bool false, σ, rfl, S, h⟩
  | bool b => cases ra; exact wpAny_pure ⟨.bool false, σ, rfl, S, h⟩
  | none => cases ra; exact wpAny_pure ⟨.bool true, σ, rfl, S, h⟩
  | ref r => cases ra; exact wpAny_pure ⟨.bool false, σ, rfl, S, h⟩
end
variable {N : Nat → Str} {G : Gl} {cs : Scope} {Φ : Cx G cs} {σ : St}
/-- An item is read. -/
structure GI (N : Nat → Str) (Φ : Cx G cs) (value slice : Expr) (a b : AV) (σ : St) (Q : AV → St → Prop) : Prop where
  run : ∀ s u v, Rep a u → Rep b v → Sim N Φ σ s → wpAny Φ.M Φ.A (subscriptTail value slice u v) (fun v s' => PV N Φ Q v s') (fun _ _ => False) s
/-- An item is stored. -/
structure SI (N : Nat → Str) (Φ : Cx G cs) (a b c : AV) (σ : St) (Q : St → Prop) : Prop where
  run : ∀ s u v w, Rep a u → Rep b v → Rep c w → Sim N Φ σ s → wpAny Φ.M Φ.A (setItem u v w) (fun _ s' => PS N Φ Q s') (fun _ _ => False) s
theorem EV_Sub {value slice : Expr} {pos : Pos} {Q : AV → St → Prop} (h : EV N Φ value σ fun a σ₁ => EV N Φ slice σ₁ fun b σ₂ => GI N Φ value slice a b σ₂ Q) : EV N Φ (.Subscript value slice pos) σ Q := .mk fun _ S =>
  Subscript_ (EV.k S (h.mono fun _ _ h₁ _ _ ra S₁ => EV.k S₁ (h₁.mono fun _ _ h₂ _ s₂ rb S₂ => h₂.run s₂ _ _ ra rb S₂)))
theorem EX1_AssignS {o i : Expr} {np : Pos} {value : Expr} {pos : Pos} {Q : Fl → St → Prop} (h : EV N Φ value σ fun a σ₁ => EV N Φ o σ₁ fun b σ₂ => EV N Φ i σ₂ fun c σ₃ => SI N Φ b c a σ₃ fun σ₄ => Q .next σ₄)
    (hs : swapsWith value (some (.Subscript o i np)) pos.line Φ.env = pure false) : EX1 N Φ (.Assign [.Subscript o i np] value pos) σ Q := .mk fun s S =>
  wpAny_Assign_Subscript (EV.k S (h.mono fun _ _ q _ s₁ r S₁ => EV.k S₁ (q.mono fun _ _ q₂ _ s₂ r₂ S₂ => EV.k S₂ (q₂.mono fun _ _ q₃ _ s₃ r₃ S₃ => wpAny_mono (q₃.run s₃ _ _ _ r₂ r₃ r S₃) (fun _ _ ⟨σ₄, S₄, q₄⟩ => ⟨.next, σ₄, rfl, S₄, q₄⟩) fun _ _ x => x)))) hs
theorem IntsL.get : ∀ {l : List Int} {vs : List Value} {k : Nat} {z : Int}, IntsL l vs → l[k]? = some z → ∃ t, vs[k]? = some (.int z t)
  | [], [], _, _, _, e => by simp at e
  | [], _ :: _, _, _, h, _ => h.elim
  | _ :: _, [], _, _, h, _ => h.elim
  | a :: l, v :: vs, 0, z, h, e => by
    obtain ⟨t, rfl⟩ := h.1
    simp only [List.getElem?_cons_zero, Option.some.injEq] at e
    subst e
    exact ⟨t, rfl⟩
  | a :: l, v :: vs, k + 1, z, h, e => by
    simp only [List.getElem?_cons_succ] at e ⊢
    exact h.2.get e
theorem IntsL.length : ∀ {l : List Int} {vs : List Value}, IntsL l vs → vs.length = l.length
  | [], [], _ => rfl
  | [], _ :: _, h => h.elim
  | _ :: _, [], h => h.elim
  | _ :: _, _ :: _, h => by simp only [List.length_cons, h.2.length]
theorem IntsL.set : ∀ {l : List Int} {vs : List Value} (k : Nat) {z : Int} {t : Tok}, IntsL l vs → IntsL (l.set k z) (vs.set k (.int z t))
  | [], [], _, _, _, _ => trivial
  | [], _ :: _, _, _, _, h => h.elim
  | _ :: _, [], _, _, _, h => h.elim
  | _ :: _, _ :: _, 0, _, t, h => ⟨⟨t, rfl⟩, h.2⟩
  | _ :: _, _ :: _, k + 1, _, _, h => ⟨h.1, h.2.set k⟩
theorem Sim.list {s : Shared} {news : List (Addr × Obj)} {y : Addr} {l : List Int} (Nw : News Φ.h₀ Φ.L s.heap news) (H : HRep N σ.hp news) (hy : (y, AO.ints l) ∈ σ.hp) :
    ∃ vs, s.heap.IsList y vs ∧ IntsL l vs.toList := by
  obtain ⟨co, h1, vs, n, h3, h4⟩ := H.mem hy
  subst h3
  exact ⟨vs, ⟨_, (Nw _ h1).1, rfl, n, rfl⟩, h4⟩
theorem GI_ints {value slice : Expr} {y : Addr} {l : List Int} {k z : Int} {Q : AV → St → Prop} (hy : (y, AO.ints l) ∈ σ.hp) (h0 : 0 ≤ k) (hk : k < 2 ^ 63) (hz : l[k.toNat]? = some z) (h : Q (.int z) σ)
    (hs : ∀ o i, subscripted slice false o i = operate [o, i] (getItem o i)) : GI N Φ value slice (.ref y) (.int k) σ Q := by
  refine ⟨?_⟩
  rintro s _ _ rfl ⟨t, rfl⟩ S
  obtain ⟨m, news, F, Nw, H, nd, L, o, g⟩ := id S
  obtain ⟨vs, hl, hv⟩ := Sim.list (Φ := Φ) Nw H hy
  obtain ⟨t', e⟩ := hv.get hz
  exact tail_any hl.typeIs slot_list_getitem.lookup (wpAny_getItem_list hl h0 hk (by simpa using e) ⟨.int z, σ, ⟨_, rfl⟩, S, h⟩) (hs _ _)
/-- An item of a list that the top has made. -/
theorem GI_K {value slice : Expr} {y : Addr} {o : Obj} {vs : Array Value} {n : Nat} {k : Int} {a : AV} {v : Value} {Q : AV → St → Prop} (hy : G.K.lookup y = some o) (hc : o.cls = .type "list") (hd : o.data = .seq vs n) (h0 : 0 ≤ k) (hk : k < 2 ^ 63)
    (hz : vs[k.toNat]? = some v) (hr : Rep a v) (h : Q a σ) (hs : ∀ o i, subscripted slice false o i = operate [o, i] (getItem o i)) : GI N Φ value slice (.ref y) (.int k) σ Q := by
  refine ⟨?_⟩
  rintro s _ _ rfl ⟨t, rfl⟩ S
  obtain ⟨m, news, F, Nw, H, nd, L, os, g⟩ := id S
  have hl : s.heap.IsList y vs := ⟨o, F.keep _ _ (Φ.X _ _ hy), hc, n, hd⟩
  exact tail_any hl.typeIs slot_list_getitem.lookup (wpAny_getItem_list hl h0 hk hz ⟨a, σ, hr, S, h⟩) (hs _ _)
theorem Sim.changed {s : Shared} {m : Str → Option Value} {news : List (Addr × Obj)} {h' : Heap} {d : Addr} {co co' : Obj} {news' : List (Addr × Obj)} (F : Fr Φ.h₀ Φ.L s.heap m) (Nw : News Φ.h₀ Φ.L s.heap news)
    (U : Upd d co co' news news') (e : h'.get? d = some co') (sb : Heap.SameBut d s.heap h') : Fr Φ.h₀ Φ.L h' m ∧ News Φ.h₀ Φ.L h' news' := by
  obtain ⟨pre, post, rfl, rfl, h1, h2⟩ := U.split
  have D := Nw (d, co) (by simp)
  obtain ⟨oL, es, ep, hL, r⟩ := F.ns
  refine ⟨⟨⟨oL, es, ep, (sb.2 _ (Ne.symm D.2.1)).trans hL, r⟩, fun b x q => (sb.2 b fun z => ?_).trans (F.keep b x q), F.above⟩, fun p hp => ?_⟩
  · have := D.2.2; rw [← z, q] at this; cases this
  · rcases List.mem_append.mp hp with q | q
    · have P := Nw p (List.mem_append_left _ q); exact ⟨(sb.2 _ (h1 p q)).trans P.1, P.2⟩
    · rcases List.mem_cons.mp q with rfl | q
      · exact ⟨e, D.2⟩
      · have P := Nw p (List.mem_append_right _ (.tail _ q)); exact ⟨(sb.2 _ (h2 p q)).trans P.1, P.2⟩
section
variable {prog : Program} {w : World} {A : Around} {E : Value → Shared → Prop} {s : Shared}
theorem seqIndex_spec {k : Int} {n j : Nat} (h : seqIndex? k n = some j) : j < n ∧ (0 ≤ k → j = k.toNat) := by
  unfold seqIndex? at h
  dsimp only at h
  by_cases hk : k < 0
  · rw [if_pos hk] at h
    by_cases q : (decide (0 ≤ k + (n : Int)) && decide (k + (n : Int) < n)) = true
    · rw [if_pos q] at h
      simp only [Bool.and_eq_true, decide_eq_true_eq] at q
      have := Option.some.inj h
      omega
    · rw [if_neg q] at h; cases h
  · rw [if_neg hk] at h
    by_cases q : (decide (0 ≤ k) && decide (k < (n : Int))) = true
    · rw [if_pos q] at h
      simp only [Bool.and_eq_true, decide_eq_true_eq] at q
      have := Option.some.inj h
      omega
    · rw [if_neg q] at h; cases h
/-- An item of a list is stored, at a signed place. -/
theorem setItem_at {l : Addr} {its : Array Value} {n : Nat} {k : Int} {t : Tok} {j : Nat} {v : Value} {Q : Unit → Shared → Prop} (ho : s.heap.get? l = some (listOf its n)) (hlo : -(2 ^ 63) ≤ k) (hhi : k < 2 ^ 63) (hj : seqIndex? k its.size = some j)
    (h : ∀ h', Heap.SameBut l s.heap h' → h'.get? l = some (listOf (its.setIfInBounds j v) n) → Q () { s with heap := h' }) :
    wpAny (model prog w) A (setItem (.ref l) (.int k t) v) Q E s := by
  have hT : s.TypeIs (.ref l) "list" := ⟨_, ho, rfl⟩
  have hjl : j < its.size := (seqIndex_spec hj).1
  have hx : its[j]? = some its[j] := Array.getElem?_eq_getElem hjl
  have fin : (s.heap.update l (Obj.mapSeq (·.setIfInBounds j v))).get? l = some (listOf (its.setIfInBounds j v) n) := by
    have e : Obj.mapSeq (·.setIfInBounds j v) (listOf its n) = listOf (its.setIfInBounds j v) n := by simp [Obj.mapSeq, W.listOf]
    rw [Heap.get?_update_self _ ho (by rw [e]; rfl), e]
  unfold setItem
  try with_reducible refine wpAny_holding ?_
  first | refine wpAny_bind (wpAny_pure ?_) | skip
  refine wpAny_bind (wpAny_sequenceKey hT (by decide) ?_)
  refine wpAny_bind (wpAny_callSpecial?_slot (name := Str.ofString "__setitem__") hT slot_list_setitem (wpAny_call_entry slot_list_setitem hT entry_list_setitem ?_ (args_list_setitem _ _ _)))
  show wpAny _ _ (Builtin.List.listSubscript? (.int k t) >>= _) _ _ s
  refine wpAny_bind (wpAny_listSubscript_int (by unfold Builtin.List.listFitsIndex; simp only [Bool.and_eq_true, decide_eq_true_eq]; omega) ?_)
  have store : wpAny (model prog w) A.in1 (setSeqItemAt l j v) (fun _ s' => Q () s') E s := wpAny_setSeqItemAt ho rfl (h _ (Heap.SameBut.update ..) fin)
  cases k with
  | ofNat m =>
    have hm : j = m := (seqIndex_spec hj).2 (Int.natCast_nonneg m)
    subst hm
    show wpAny _ _ ((seqItemAt l j >>= fun r => pure (r.map (j, ·))) >>= _) _ _ s
    refine wpAny_bind (wpAny_bind (wpAny_seqItemAt ho rfl (wpAny_pure ?_)))
    rw [hx]
    show wpAny _ _ (setSeqItemAt l j v >>= _) _ _ s
    refine wpAny_bind (wpAny_mono store (fun _ s' q => ?_) fun _ _ q => q)
    first
      | exact wpAny_bind (wpAny_pure (wpAny_pure ⟨.none, rfl, wpAny_pure q⟩))
      | exact wpAny_pure ⟨.none, rfl, wpAny_pure q⟩
  | negSucc m =>
    show wpAny _ _ ((Builtin.List.listItems (.ref l) >>= fun xs => pure ((seqIndex? (Int.negSucc m) xs.size).bind fun j => xs[j]?.map (j, ·))) >>= _) _ _ s
    refine wpAny_bind (wpAny_bind (listItems_at ho rfl (wpAny_pure ?_)))
    rw [hj, Option.bind_some, hx]
    show wpAny _ _ (setSeqItemAt l j v >>= _) _ _ s
    refine wpAny_bind (wpAny_mono store (fun _ s' q => ?_) fun _ _ q => q)
    first
      | exact wpAny_bind (wpAny_pure (wpAny_pure ⟨.none, rfl, wpAny_pure q⟩))
      | exact wpAny_pure ⟨.none, rfl, wpAny_pure q⟩
end
theorem SI_intsN {y : Addr} {l : List Int} {k z : Int} {j : Nat} {hp' : List (Addr × AO)} {Q : St → Prop} (hy : Rpl y (.ints l) (.ints (l.set j z)) σ.hp hp') (h0 : -(2 ^ 63) ≤ k) (hk : k < 2 ^ 63) (hl : seqIndex? k l.length = some j) (h : Q ⟨σ.loc, hp'⟩) :
    SI N Φ (.ref y) (.int k) (.int z) σ Q := by
  refine ⟨?_⟩
  rintro s _ _ _ rfl ⟨t, rfl⟩ ⟨u, rfl⟩ S
  obtain ⟨m, news, F, Nw, H, nd, L, o, g⟩ := id S
  obtain ⟨co, h1, ⟨vs, n, h3, h4⟩, h5⟩ := H.rpl nd hy
  subst h3
  have len : vs.size = l.length := by rw [← Array.length_toList]; exact h4.length
  refine setItem_at (Nw _ h1).1 h0 hk (by rw [len]; exact hl) fun h' sb e1 => ?_
  obtain ⟨news', U, H', kk⟩ := h5 _ ⟨_, n, rfl, by rw [Array.toList_setIfInBounds]; exact h4.set (t := u) _⟩
  obtain ⟨F', N'⟩ := Sim.changed (Φ := Φ) F Nw U e1 sb
  exact ⟨⟨σ.loc, hp'⟩, ⟨m, news', F', N', H', by rw [kk]; exact nd, L, o, g⟩, h⟩
theorem seqIndex_pos {k : Int} {n : Nat} (h0 : 0 ≤ k) (h : k < n) : seqIndex? k n = some k.toNat := by
  unfold seqIndex?
  have : ¬ k < 0 := by omega
  simp only [this, if_false]
  rw [if_pos (by simp; omega)]
theorem SI_ints {y : Addr} {l : List Int} {k z : Int} {hp' : List (Addr × AO)} {Q : St → Prop} (hy : Rpl y (.ints l) (.ints (l.set k.toNat z)) σ.hp hp') (h0 : 0 ≤ k) (hk : k < 2 ^ 63) (hl : k < l.length) (h : Q ⟨σ.loc, hp'⟩) :
    SI N Φ (.ref y) (.int k) (.int z) σ Q := SI_intsN hy (by omega) hk (seqIndex_pos h0 hl) h
end
section
variable {N : Nat → Str} {G : Gl} {cs : Scope} {Φ : Cx G cs} {σ : St}
noncomputable def retv : Fl → AV
  | .ret v => v
  | _ => .none
theorem lookup_zip {ns : List Nat} : ∀ {as : List AV} {vs : List Value}, RepL as vs → ∀ k v, (ns.zip as).lookup k = some v → ∃ c, (ns.zip vs).lookup k = some c ∧ Rep v c := by
  induction ns with
  | nil => intro as vs _ k v e; simp at e
  | cons n ns ih =>
    intro as vs r k v e
    cases as with
    | nil => simp at e
    | cons a as =>
      cases vs with
      | nil => exact r.elim
      | cons u vs =>
        simp only [List.zip_cons_cons, List.lookup] at e ⊢
        cases hk : k == n with
        | true => rw [hk] at e; cases e; exact ⟨u, rfl, r.1⟩
        | false => rw [hk] at e; exact ih r.2 k v e
theorem lookup_names (hN : NOk N) : ∀ {ns : List Nat} {vs : List Value} {k : Nat} {c : Value}, (ns.zip vs).lookup k = some c → ((ns.map N).zip vs).lookup (N k) = some c
  | [], _, _, _, e => by simp at e
  | _ :: _, [], _, _, e => by simp at e
  | n :: ns, v :: vs, k, c, e => by
    simp only [List.map_cons, List.zip_cons_cons, List.lookup] at e ⊢
    cases hk : k == n with
    | true => have := beq_iff_eq.mp hk; subst this; rw [hk] at e; rw [show (N k == N k) = true from beq_self_eq_true _]; exact e
    | false =>
      rw [hk] at e
      rw [show (N k == N n) = false from beq_eq_false_iff_ne.mpr fun z => beq_eq_false_iff_ne.mp hk (hN.inj _ _ z)]
      exact lookup_names hN e
theorem lookup_reverse {α : Type} : ∀ {l : List (Str × α)} {x : Str} {c : α}, (l.map (·.1)).Nodup → l.lookup x = some c → l.reverse.lookup x = some c := by
  intro l
  induction l with
  | nil => intro x c _ e; cases e
  | cons p l ih =>
    intro x c nd e
    obtain ⟨y, d⟩ := p
    rw [List.map_cons, List.nodup_cons] at nd
    rw [List.reverse_cons, List.lookup_append]
    simp only [List.lookup] at e
    cases hx : x == y with
    | true =>
      rw [hx] at e
      cases e
      have := beq_iff_eq.mp hx
      subst this
      have : l.reverse.lookup x = none := by
        rw [List.lookup_eq_none_iff]
        intro q hq
        have := List.mem_reverse.mp hq
        exact bne_iff_ne.mpr fun z => nd.1 (List.mem_map.mpr ⟨q, this, z.symm⟩)
      rw [this]
      simp [List.lookup]
    | false =>
      rw [hx] at e
      rw [ih nd.2 e]
      rfl
theorem map_fst_zip {α β : Type} : ∀ (l : List α) (r : List β), ((l.zip r).map (·.1)).Sublist l
  | [], _ => by simp
  | _ :: _, [] => by simp
  | a :: l, b :: r => by simp only [List.zip_cons_cons, List.map_cons]; exact (map_fst_zip l r).cons_cons a
/-- A function of the text's, by its body. -/
theorem CL_def {f : Addr} {args : List AV} {Q : AV → St → Prop} {name qual : Str} {params : Arguments} {body : List Stmt} {scope : Scope} {dV kV doc pm cdv ct oc : Value} {an od : Option Addr} {osl : Array (Option Value)} {ns : List Nat} (hN : NOk N)
    (ho : G.K.lookup f = some ⟨oc, od, .func (fnOf name qual params body scope dV kV doc pm an cdv ct), osl⟩) (hcd : codeIn G.K cdv qual = true) (hroom : Φ.A.depth < recursionLimit)
    (hbind : ∀ vs s, RepL args vs → BindsTo s (fnOf name qual params body scope dV kV doc pm an cdv ct) ⟨vs, []⟩ ((ns.map N).zip vs))
    (hloc : ∀ n ∈ ns, scope.names.lookup (N n) = some .local) (hnd : ns.Nodup)
    (hco : scope.isCoroutine = false) (hgen : scope.isGenerator = false) (hk : scope.kind = .function) (hcell : ∀ x ∈ scope.names, x.2 ≠ .cell)
    (h : ∀ Φ' : Cx G scope, Φ'.A.depth = Φ.A.depth + 1 → EX N Φ' body ⟨ns.zip args, σ.hp⟩ fun fl σ' => Q (retv fl) ⟨σ.loc, σ'.hp⟩) : CL N Φ f args σ Q := by
  refine ⟨?_⟩
  intro s vs S r
  obtain ⟨m, news, F, Nw, H, nd, L, o, g⟩ := id S
  have nN : (((ns.map N).zip vs).map (·.1)).Nodup := (map_fst_zip _ _).nodup (List.pairwise_map.mpr (List.Pairwise.imp (fun ne e => ne (hN.inj _ _ e)) hnd))
  refine code_def Φ.B F Φ.X Nw Φ.T (Around.frames_deeper Φ.B.stack) rfl Φ.kind ho hcd hroom (hbind vs s r) (fun y hy => ?_) (fun g' L' h₁ FG F' N' B' X' T' => ?_) hco hgen hk hcell
  · have := (map_fst_zip (ns.map N) vs).subset (List.mem_map_of_mem hy)
    obtain ⟨n, hn, e⟩ := List.mem_map.mp this
    rw [← e]; exact hloc n hn
  · let Φ' : Cx G scope := ⟨Φ.A, Φ.base, Φ.env :: Φ.outer, g', L', qual, f, cdv, B', X', T', hk, Φ.hhA, Φ.unA⟩
    have S' : Sim N Φ' ⟨ns.zip args, σ.hp⟩ { s with heap := h₁, toks := s.toks + ((ns.map N).zip vs).length } := by
      refine ⟨_, news, F', N', H, nd, fun k v e => ?_, o, g⟩
      obtain ⟨c, hc, rc⟩ := lookup_zip r k v e
      refine ⟨⟨c, lookup_reverse nN (lookup_names hN hc), rc⟩, ?_⟩
      have : k ∈ ns := by
        refine Classical.byContradiction fun hn => ?_
        have : (ns.zip args).lookup k = none := by
          rw [List.lookup_eq_none_iff]
          intro q hq
          refine bne_iff_ne.mpr fun z => hn ?_
          rw [z]
          exact (map_fst_zip ns args).subset (List.mem_map.mpr ⟨q, hq, rfl⟩)
        rw [this] at e
        cases e
      exact hloc k this
    refine wpAny_mono ((h Φ' rfl).run _ S') (fun fl s' ⟨a, σ', ra, S'', q⟩ => ?_) fun _ _ x => x.elim
    obtain ⟨m'', news'', F'', N'', H'', nd'', _, o'', g''⟩ := S''
    refine leaveK_ F'' N'' fun Fb Nb => ?_
    refine ⟨_, retv a, ⟨σ.loc, σ'.hp⟩, rfl, ?_, ⟨m, news'', Fb, Nb, H'', nd'', L, o'', g''⟩, q⟩
    cases a with
    | next => cases ra; exact rfl
    | brk => cases ra; exact rfl
    | cont => cases ra; exact rfl
    | ret v => obtain ⟨u, rfl, ru⟩ := ra; exact ru
/-- A bound method: its function with the object ahead. -/
theorem CL_meth {q f x : Addr} {args : List AV} {Q : AV → St → Prop} (hq : (q, AO.meth f x) ∈ σ.hp) (h : CL N Φ f (.ref x :: args) σ Q) :
    ∀ s vs, Sim N Φ σ s → RepL args vs → codeAny Φ.M Φ.A (.call (.ref q) ⟨vs, []⟩) (fun r s' => PC N Φ Q r s') s := by
  intro s vs S r
  obtain ⟨m, news, F, Nw, H, nd, L, o, g⟩ := id S
  obtain ⟨co, h1, h2⟩ := H.mem hq
  cases h2
  exact method_call (Nw _ h1).1 (h.run s (.ref x :: vs) S ⟨rfl, r⟩)
theorem CL.wp {f : Value} {args : List Value} {Q : AV → St → Prop} {s : Shared} (h : codeAny Φ.M Φ.A (.call f ⟨args, []⟩) (fun r s' => PC N Φ Q r s') s) :
    wpAny Φ.M Φ.A (call f args) (fun v s' => PV N Φ Q v s') (fun _ _ => False) s :=
  wpAny_call (codeAny_mono h fun r s' ⟨v, a, σ', e, rv, S', q⟩ => by subst e; exact ⟨a, σ', rv, S', q⟩)
/-- A method is looked up for a call. -/
structure GM (G : Gl) (N : Nat → Str) (a : AV) (n : Nat) (σ : St) (P : Addr → Addr → Prop) : Prop where
  ex : ∃ f x C d fs, ClsOk G.K C ∧ ClsFn G.K C (N n) f ∧ a = .ref x ∧ (x, AO.inst C d) ∈ σ.hp ∧ (d, AO.dict fs) ∈ σ.hp ∧ fs.lookup n = none ∧ P f x
theorem GM_inst {f x C d : Addr} {fs : List (Nat × AV)} {n : Nat} {P : Addr → Addr → Prop} (O : ClsOk G.K C) (FO : ClsFn G.K C (N n) f) (hx : (x, AO.inst C d) ∈ σ.hp) (hd : (d, AO.dict fs) ∈ σ.hp) (hl : fs.lookup n = none) (h : P f x) : GM G N (.ref x) n σ P :=
  ⟨f, x, C, d, fs, O, FO, rfl, hx, hd, hl, h⟩
/-- A method of the object's class is called: no argument, one, two. -/
theorem EV_mcall0 {o : Expr} {n : Nat} {apos pos : Pos} {Q : AV → St → Prop}
    (hc : ∃ pl, eval (.Call (.Attribute o (N n) apos) [] [] pos) Φ.env = (do let ov ← eval o Φ.env; standAt apos.atName; let (f, first) ← holding [ov] (getMethod ov (N n) pl); callWith pos f first (backTo pos (starEach [] Φ.env)) (backToKw pos (keywordEach [] Φ.env))))
    (h : EV N Φ o σ fun a σ₁ => GM G N a n σ₁ fun f x => CL N Φ f [.ref x] σ₁ Q) : EV N Φ (.Call (.Attribute o (N n) apos) [] [] pos) σ Q := by
  obtain ⟨pl, hc⟩ := hc
  refine .mk fun _ S => methodCall_KW (he := hc) (EV.k S (h.mono fun a σ₁ ⟨f, x, C, d, fs, O, FO, ea, hx, hd, hl, c⟩ v s₁ ra S₁ => ?_))
  subst ea
  cases ra
  obtain ⟨m, news, F, Nw, H, nd, L, os, g⟩ := id S₁
  obtain ⟨es, k, I, fr⟩ := Sim.inst (m := m) Nw H hx hd
  have := fr.2.2 n
  rw [hl] at this
  exact method_inst F Φ.X I O.get FO.find FO.fn this (callWith_K0 (Φ.X.keeps F.keep) FO.keep (CL.wp (c.run s₁ _ S₁ ⟨rfl, trivial⟩)))
theorem EV_mcall1 {o e : Expr} {n : Nat} {apos pos : Pos} {Q : AV → St → Prop} (he : starEach [e] Φ.env = (false, eval e Φ.env) :: starEach [] Φ.env)
    (hc : ∃ pl, eval (.Call (.Attribute o (N n) apos) [e] [] pos) Φ.env = (do let ov ← eval o Φ.env; standAt apos.atName; let (f, first) ← holding [ov] (getMethod ov (N n) pl); callWith pos f first (backTo pos (starEach [e] Φ.env)) (backToKw pos (keywordEach [] Φ.env))))
    (h : EV N Φ o σ fun a σ₁ => GM G N a n σ₁ fun f x => EV N Φ e σ₁ fun b σ₂ => CL N Φ f [.ref x, b] σ₂ Q) : EV N Φ (.Call (.Attribute o (N n) apos) [e] [] pos) σ Q := by
  obtain ⟨pl, hc⟩ := hc
  refine .mk fun _ S => methodCall_KW (he := hc) (EV.k S (h.mono fun a σ₁ ⟨f, x, C, d, fs, O, FO, ea, hx, hd, hl, c⟩ v s₁ ra S₁ => ?_))
  subst ea
  cases ra
  obtain ⟨m, news, F, Nw, H, nd, L, os, g⟩ := id S₁
  obtain ⟨es, k, I, fr⟩ := Sim.inst (m := m) Nw H hx hd
  have := fr.2.2 n
  rw [hl] at this
  refine method_inst F Φ.X I O.get FO.find FO.fn this (callWith_K Φ.X FO.keep (args_cons (EV.k S₁ (c.mono fun b σ₂ c₂ u s₂ rb S₂ => args_nil ?_)) he) he rfl)
  obtain ⟨m₂, news₂, F₂, _⟩ := id S₂
  exact ⟨Φ.X.keeps F₂.keep, CL.wp (c₂.run s₂ _ S₂ ⟨rfl, rb, trivial⟩)⟩
/-- A bound method that a name holds. -/
structure BM (G : Gl) (a : AV) (σ : St) (P : Addr → Addr → Prop) : Prop where
  ex : ∃ q f x, a = .ref q ∧ (q, AO.meth f x) ∈ σ.hp ∧ fnIn G.K f = true ∧ P f x
theorem BM_mk {q f x : Addr} {P : Addr → Addr → Prop} (hq : (q, AO.meth f x) ∈ σ.hp) (hf : fnIn G.K f = true) (h : P f x) : BM G (.ref q) σ P := ⟨q, f, x, rfl, hq, hf, h⟩
theorem EV_ncall {fn : Expr} {pos : Pos} {Q : AV → St → Prop} (h : EV N Φ fn σ fun a σ₁ => BM G a σ₁ fun f x => CL N Φ f [.ref x] σ₁ Q)
    (he : eval (.Call fn [] [] pos) Φ.env = (do callWith pos (← eval fn Φ.env) [] (backTo pos (starEach [] Φ.env)) (backToKw pos (keywordEach [] Φ.env)))) : EV N Φ (.Call fn [] [] pos) σ Q := by
  refine .mk fun _ S => Call_ (EV.k S (h.mono fun a σ₁ ⟨q, f, x, ea, hq, hf, c⟩ v s₁ ra S₁ => ?_)) he
  subst ea
  cases ra
  obtain ⟨m, news, F, Nw, H, nd, L, os, g⟩ := id S₁
  obtain ⟨co, h1, h2⟩ := H.mem hq
  cases h2
  exact callWith_M0 ⟨(Nw _ h1).1, Φ.X.keeps F.keep⟩ hf (CL.wp (CL_meth hq c s₁ [] S₁ trivial))
/-- A function that the top has made is called with one argument. -/
structure FM (G : Gl) (a : AV) (P : Addr → Prop) : Prop where
  ex : ∃ f, a = .ref f ∧ keepIn G.K (.ref f) = true ∧ P f
theorem FM_mk {f : Addr} {P : Addr → Prop} (hf : keepIn G.K (.ref f) = true) (h : P f) : FM G (.ref f) P := ⟨f, rfl, hf, h⟩
theorem EV_fcall1 {fn e : Expr} {pos : Pos} {Q : AV → St → Prop} (h : EV N Φ fn σ fun a σ₁ => FM G a fun f => EV N Φ e σ₁ fun b σ₂ => CL N Φ f [b] σ₂ Q) (hst : starEach [e] Φ.env = (false, eval e Φ.env) :: starEach [] Φ.env)
    (he : eval (.Call fn [e] [] pos) Φ.env = (do callWith pos (← eval fn Φ.env) [] (backTo pos (starEach [e] Φ.env)) (backToKw pos (keywordEach [] Φ.env)))) : EV N Φ (.Call fn [e] [] pos) σ Q := by
  refine .mk fun _ S => Call_ (EV.k S (h.mono fun a σ₁ ⟨f, ea, hf, c⟩ v s₁ ra S₁ => ?_)) he
  subst ea
  cases ra
  refine callWith_K Φ.X hf (args_cons (EV.k S₁ (c.mono fun b σ₂ c₂ u s₂ rb S₂ => args_nil ?_)) hst) hst rfl
  obtain ⟨m₂, news₂, F₂, _⟩ := id S₂
  exact ⟨Φ.X.keeps F₂.keep, CL.wp (c₂.run s₂ _ S₂ ⟨rb, trivial⟩)⟩
noncomputable def nmOf (l : List Str) (i : Nat) : Str := match l[i]? with
  | some x => x
  | none => ⟨#[2097152 + i]⟩
theorem nmOf_some {l : List Str} {i : Nat} {x : Str} (h : l[i]? = some x) : nmOf l i = x := by unfold nmOf; rw [h]
theorem nmOf_none {l : List Str} {i : Nat} (h : l[i]? = none) : nmOf l i = ⟨#[2097152 + i]⟩ := by unfold nmOf; rw [h]
theorem nmOf_ok {l : List Str} (nd : l.Nodup) (sm : ∀ x ∈ l, ∀ c ∈ x.cps.toList, c < 2097152) (ne : ∀ x ∈ l, x ≠ "__debug__") : NOk (nmOf l) where
  inj := fun i j e => by
    cases hi : l[i]? with
    | none =>
      rw [nmOf_none hi] at e
      cases hj : l[j]? with
      | none =>
        rw [nmOf_none hj] at e
        have := congrArg (fun s : Str => s.cps.toList) e
        simp at this
        exact this
      | some y =>
        rw [nmOf_some hj] at e
        have := sm y (List.mem_of_getElem? hj) (2097152 + i) (by rw [← e]; simp)
        omega
    | some x =>
      rw [nmOf_some hi] at e
      cases hj : l[j]? with
      | none =>
        rw [nmOf_none hj] at e
        have := sm x (List.mem_of_getElem? hi) (2097152 + j) (by rw [e]; simp)
        omega
      | some y =>
        rw [nmOf_some hj] at e
        obtain ⟨h1, e1⟩ := List.getElem?_eq_some_iff.mp hi
        obtain ⟨h2, e2⟩ := List.getElem?_eq_some_iff.mp hj
        have P := List.pairwise_iff_getElem.mp nd
        rcases Nat.lt_trichotomy i j with q | q | q
        · exact absurd (e1.trans (e.trans e2.symm)) (P i j h1 h2 q)
        · exact q
        · exact absurd (e2.trans (e.symm.trans e1.symm)) (P j i h2 h1 q)
  dbg := fun n => by
    refine beq_eq_false_iff_ne.mpr ?_
    cases hi : l[n]? with
    | none =>
      rw [nmOf_none hi]
      intro e
      have e1 : (⟨#[2097152 + n]⟩ : Str).cps.size = (Str.ofString "__debug__").cps.size := by rw [e]
      revert e1
      have : (Str.ofString "__debug__").cps.size = 9 := by decide +kernel
      rw [this]
      simp
    | some x => rw [nmOf_some hi]; exact ne x (List.mem_of_getElem? hi)
end
section
variable {N : Nat → Str} {G : Gl} {cs : Scope} {Φ : Cx G cs} {σ : St}
theorem EV_IfExp {test body orelse : Expr} {pos : Pos} {Q : AV → St → Prop} (h : TS N Φ test σ fun b σ' => (b = true → EV N Φ body σ' Q) ∧ (b = false → EV N Φ orelse σ' Q)) : EV N Φ (.IfExp test body orelse pos) σ Q := .mk fun s S => by
  refine IfExp_ (wpAny_mono (h.run s S) (fun b s' ⟨σ', S', q⟩ => ?_) fun _ _ x => x)
  cases b with
  | true => rw [if_pos rfl]; exact (q.1 rfl).run s' S'
  | false => rw [if_neg (by decide)]; exact (q.2 rfl).run s' S'
theorem TS_and {x : Expr} {rest : List Expr} {pos : Pos} {Q : Bool → St → Prop} (h : TS N Φ x σ fun b σ' => (b = true → TS N Φ (.BoolOp .And rest pos) σ' Q) ∧ (b = false → Q false σ')) : TS N Φ (.BoolOp .And (x :: rest) pos) σ Q := .mk fun s S => by
  refine isTrue_and (wpAny_mono (h.run s S) (fun b s' ⟨σ', S', q⟩ => ?_) fun _ _ x => x)
  cases b with
  | true => rw [if_pos rfl]; exact (q.1 rfl).run s' S'
  | false => rw [if_neg (by decide)]; exact ⟨σ', S', q.2 rfl⟩
theorem TS_and_nil {pos : Pos} {Q : Bool → St → Prop} (h : Q true σ) : TS N Φ (.BoolOp .And [] pos) σ Q := .mk fun s S => isTrue_and_nil ⟨σ, S, h⟩
theorem TS_or {x : Expr} {rest : List Expr} {pos : Pos} {Q : Bool → St → Prop} (h : TS N Φ x σ fun b σ' => (b = true → Q true σ') ∧ (b = false → TS N Φ (.BoolOp .Or rest pos) σ' Q)) : TS N Φ (.BoolOp .Or (x :: rest) pos) σ Q := .mk fun s S => by
  refine isTrue_or (wpAny_mono (h.run s S) (fun b s' ⟨σ', S', q⟩ => ?_) fun _ _ x => x)
  cases b with
  | true => rw [if_pos rfl]; exact ⟨σ', S', q.1 rfl⟩
  | false => rw [if_neg (by decide)]; exact (q.2 rfl).run s' S'
theorem TS_or_nil {pos : Pos} {Q : Bool → St → Prop} (h : Q false σ) : TS N Φ (.BoolOp .Or [] pos) σ Q := .mk fun s S => isTrue_or_nil ⟨σ, S, h⟩
theorem EV_or {e₁ e₂ : Expr} {rest : List Expr} {pos : Pos} {Q : AV → St → Prop} (h : EV N Φ e₁ σ fun a σ₁ => TR N Φ a σ₁ fun b σ₂ => (b = true → Q a σ₂) ∧ (b = false → EV N Φ (.BoolOp .Or (e₂ :: rest) pos) σ₂ Q)) : EV N Φ (.BoolOp .Or (e₁ :: e₂ :: rest) pos) σ Q := .mk fun s S => by
  refine BoolOp_or (EV.k S (h.mono fun a σ₁ q v s₁ r S₁ => wpAny_mono (q.run s₁ v r S₁) (fun b s₂ ⟨σ₂, S₂, q₂⟩ => ?_) fun _ _ x => x))
  cases b with
  | true => rw [if_pos rfl]; exact ⟨a, σ₂, r, S₂, q₂.1 rfl⟩
  | false => rw [if_neg (by decide)]; exact (q₂.2 rfl).run s₂ S₂
theorem EV_bool_one {op : BoolOp} {e : Expr} {pos : Pos} {Q : AV → St → Prop} (h : EV N Φ e σ Q) : EV N Φ (.BoolOp op [e] pos) σ Q := .mk fun s S => BoolOp_one (h.run s S)
/-- A while loop by a measure. -/
theorem EX1_While {test : Expr} {body : List Stmt} {pos : Pos} {Q : Fl → St → Prop} (I : Nat → St → Prop) (n : Nat) (h0 : I n σ)
    (turn : ∀ n σ, I n σ → TS N Φ test σ fun b σ' => (b = true → EX N Φ body σ' fun f σ'' => match f with | .next => ∃ m, m < n ∧ I m σ'' | .cont => ∃ m, m < n ∧ I m σ'' | .brk => Q .next σ'' | .ret v => Q (.ret v) σ'') ∧ (b = false → Q .next σ')) :
    EX1 N Φ (.While test body [] pos) σ Q := .mk fun s S => by
  refine wpAny_While (codeAny_mono (codeAny_whileLoop (R := fun r s' => match r with | .ok f => PF N Φ Q f s' | .error _ => False) (fun n s' => ∃ σ', Sim N Φ σ' s' ∧ I n σ') (fun n s' ⟨σ', S', i⟩ => ?_) n ⟨σ, S, h0⟩) fun r s' q => ?_)
  · have no : ∀ {α : Type} {t : Sem α} {P : α → Shared → Prop} {s : Shared}, wpAny Φ.M Φ.A t P (fun _ _ => False) s → wpAny Φ.M Φ.A t P (notedBy Φ.M Φ.A Φ.env fun _ _ => False) s := fun h => wpAny_mono h (fun _ _ x => x) fun _ _ x => x.elim
    refine no (wpAny_mono ((turn n σ' i).run s' S') (fun b s₂ ⟨σ₂, S₂, q⟩ => ?_) fun _ _ x => x)
    cases b with
    | true =>
      rw [if_pos rfl]
      refine no (wpAny_mono ((q.1 rfl).run s₂ S₂) (fun f s₃ ⟨a, σ₃, r, S₃, q₃⟩ => ?_) fun _ _ x => x)
      cases a with
      | next => cases r; obtain ⟨m, hm, i₃⟩ := q₃; exact ⟨m, hm, σ₃, S₃, i₃⟩
      | cont => cases r; obtain ⟨m, hm, i₃⟩ := q₃; exact ⟨m, hm, σ₃, S₃, i₃⟩
      | brk => cases r; exact ⟨.next, σ₃, rfl, S₃, q₃⟩
      | ret v => obtain ⟨u, rfl, ru⟩ := r; exact ⟨.ret v, σ₃, ⟨u, rfl, ru⟩, S₃, q₃⟩
    | false =>
      rw [if_neg (by decide)]
      exact no (wpAny_execs_nil ⟨.next, σ₂, rfl, S₂, q.2 rfl⟩)
  · cases r with
    | ok f => exact q
    | error e => exact q.elim
/-- The items of a display, or of a call. -/
structure ES (N : Nat → Str) (Φ : Cx G cs) (es : List Expr) (σ : St) (Q : List AV → St → Prop) : Prop where
  run : ∀ pos s, Sim N Φ σ s → wpAny Φ.M Φ.A (spliced (backTo pos (starEach es Φ.env))) (fun vs s' => PVL N Φ Q vs s') (fun _ _ => False) s
theorem ES_nil {Q : List AV → St → Prop} (h : Q [] σ) : ES N Φ [] σ Q := .mk fun pos s S => args_nil ⟨[], σ, trivial, S, h⟩
theorem ES_cons {e : Expr} {rest : List Expr} {Q : List AV → St → Prop} (he : starEach (e :: rest) Φ.env = (false, eval e Φ.env) :: starEach rest Φ.env) (h : EV N Φ e σ fun a σ₁ => ES N Φ rest σ₁ fun as σ₂ => Q (a :: as) σ₂) : ES N Φ (e :: rest) σ Q := .mk fun pos s S =>
  args_cons (EV.k S (h.mono fun a σ₁ q v s₁ r S₁ => wpAny_mono (q.run pos s₁ S₁) (fun vs s₂ ⟨as, σ₂, rs, S₂, q₂⟩ => ⟨a :: as, σ₂, ⟨r, rs⟩, S₂, q₂⟩) fun _ _ x => x)) he
theorem RepL.length : ∀ {l : List AV} {vs : List Value}, RepL l vs → vs.length = l.length
  | [], [], _ => rfl
  | [], _ :: _, h => h.elim
  | _ :: _, [], h => h.elim
  | _ :: _, _ :: _, h => by simp only [List.length_cons, h.2.length]
noncomputable def asInts : List AV → Option (List Int)
  | [] => some []
  | .int i :: r => (asInts r).map (i :: ·)
  | _ => none
theorem asInts_rep : ∀ {as : List AV} {vs : List Value} {l : List Int}, asInts as = some l → RepL as vs → IntsL l vs
  | [], [], l, h, _ => by cases h; exact trivial
  | [], _ :: _, _, _, r => r.elim
  | _ :: _, [], _, _, r => r.elim
  | .int i :: as, v :: vs, l, h, r => by
    simp only [asInts, Option.map_eq_some_iff] at h
    obtain ⟨l', h1, h2⟩ := h
    subst h2
    exact ⟨r.1, asInts_rep h1 r.2⟩
  | .bool _ :: _, _ :: _, _, h, _ => by simp [asInts] at h
  | .none :: _, _ :: _, _, h, _ => by simp [asInts] at h
  | .any :: _, _ :: _, _, h, _ => by simp [asInts] at h
  | .ref _ :: _, _ :: _, _, h, _ => by simp [asInts] at h
  | .known _ :: _, _ :: _, _, h, _ => by simp [asInts] at h
/-- A new object is laid behind all others. -/
theorem Sim.last {s : Shared} {m : Str → Option Value} {news : List (Addr × Obj)} {h' : Heap} {q : Addr} {ao : AO} {co : Obj} (S : HRep N σ.hp news) (nd : (news.map (·.1)).Nodup) (L : LRep N cs σ.loc m) (o : s.os = G.os) (g : s.gens = #[])
    (F : Fr Φ.h₀ Φ.L h' m) (Nw : News Φ.h₀ Φ.L h' ((q, co) :: news)) (lt : ∀ p ∈ news, p.1 < q) (r : ORep N ao co) (t : Nat) : Sim N Φ ⟨σ.loc, σ.hp ++ [(q, ao)]⟩ { s with heap := h', toks := t } :=
  Sim.grow (pre := σ.hp) (post := []) S nd L o g F Nw lt r (by simp) t
theorem EV_List {elts : List Expr} {pos : Pos} {Q : AV → St → Prop} (h : ES N Φ elts σ fun as σ₁ => ∃ l, asInts as = some l ∧ l.length ≤ sizeLine ∧ ∀ q, Q (.ref q) ⟨σ₁.loc, σ₁.hp ++ [(q, .ints l)]⟩) : EV N Φ (.List elts pos) σ Q := .mk fun s S => by
  refine List_ (wpAny_mono (h.run pos s S) (fun vs s₁ ⟨as, σ₁, r, S₁, l, hl, hz, q⟩ => ?_) fun _ _ x => x)
  obtain ⟨m, news, F, Nw, H, nd, L, o, g⟩ := id S₁
  have ri := asInts_rep hl r
  refine newList_K F Nw (fun a h' F' N' lt => ⟨.ref a, _, rfl, Sim.last (ao := .ints l) H nd L o g F' N' lt ⟨_, 0, rfl, by simpa using ri⟩ _, q a⟩) (by rw [ri.length]; exact hz)
theorem EV_Tuple {elts : List Expr} {k : Nat} {pos : Pos} {Q : AV → St → Prop} (h : ES N Φ elts σ fun as σ₁ => as.length ≤ sizeLine ∧ ∀ q, Q (.ref q) ⟨σ₁.loc, σ₁.hp ++ [(q, .tup as)]⟩) : EV N Φ (.Tuple elts k pos) σ Q := .mk fun s S => by
  refine Tuple_ (wpAny_mono (h.run pos s S) (fun vs s₁ ⟨as, σ₁, r, S₁, hz, q⟩ => ?_) fun _ _ x => x)
  obtain ⟨m, news, F, Nw, H, nd, L, o, g⟩ := id S₁
  exact newTuple_N F Nw (fun h' F' N' => ⟨.ref _, _, rfl, Sim.last (ao := .tup as) H nd L o g F' N' (fun p hp => Heap.lt_size (Nw p hp).1) ⟨_, 0, rfl, by simpa using r⟩ _, q _⟩) (by rw [r.length]; exact hz)
end
section
variable {N : Nat → Str} {G : Gl} {cs : Scope} {Φ : Cx G cs} {σ : St}
theorem IntsL.are : ∀ {l : List Int} {vs : List Value}, IntsL l vs → IntsAre vs l
  | [], [], _ => .nil
  | [], _ :: _, h => h.elim
  | _ :: _, [], h => h.elim
  | a :: l, v :: vs, h => by obtain ⟨t, rfl⟩ := h.1; exact .cons a t h.2.are
theorem IntsL.of_are : ∀ {l : List Int} {vs : List Value}, IntsAre vs l → IntsL l vs
  | _, _, .nil => trivial
  | _, _, .cons k t r => ⟨⟨t, rfl⟩, IntsL.of_are r⟩
/-- A name of the top's. -/
theorem EV_GlobK {n : Nat} {pos : Pos} {v : Value} {a : AV} {Q : AV → St → Prop} (hN : NOk N) (hk : cs.names.lookup (N n) = some .globalImplicit) (e : nsIn G.K mainGlobals (N n) = some (some v)) (hr : Rep a v) (h : Q a σ) : EV N Φ (.Name (N n) pos) σ Q := .mk fun s S => by
  obtain ⟨m, news, F, Nw, H, nd, L, o, g⟩ := id S
  exact name_K F Φ.X (topRead_of Φ.T) e ⟨a, σ, hr, S, h⟩ Φ.kind hk (hN.dbg n)
/-- A built-in name. -/
theorem EV_GlobB {n : Nat} {pos : Pos} {v : Value} {a : AV} {Q : AV → St → Prop} (hN : NOk N) (hk : cs.names.lookup (N n) = some .globalImplicit) (e : nsIn G.K mainGlobals (N n) = some none) (hv : bootBuiltins (N n) = some v) (hn : N n ≠ "__name__") (hr : Rep a v) (h : Q a σ) : EV N Φ (.Name (N n) pos) σ Q := .mk fun s S => by
  obtain ⟨m, news, F, Nw, H, nd, L, o, g⟩ := id S
  exact name_B F Φ.X (topRead_of Φ.T) e hv hn ⟨a, σ, hr, S, h⟩ Φ.kind hk (hN.dbg n)
/-- A built-in function is called. -/
structure BC (N : Nat → Str) (Φ : Cx G cs) (id : String) (as : List AV) (σ : St) (Q : AV → St → Prop) : Prop where
  run : ∀ s vs, RepL as vs → Sim N Φ σ s → wpAny Φ.M Φ.A (call (.builtin id) vs) (fun v s' => PV N Φ Q v s') (fun _ _ => False) s
theorem EV_bcall {fn e : Expr} {rest : List Expr} {pos : Pos} {Q : AV → St → Prop} (h : EV N Φ fn σ fun a σ₁ => ∃ id, a = .known (.builtin id) ∧ ES N Φ (e :: rest) σ₁ fun as σ₂ => BC N Φ id as σ₂ Q)
    (hst : starEach (e :: rest) Φ.env = (false, eval e Φ.env) :: starEach rest Φ.env) (hp : (backTo pos (starEach rest Φ.env)).any (·.1) = false)
    (he : eval (.Call fn (e :: rest) [] pos) Φ.env = (do callWith pos (← eval fn Φ.env) [] (backTo pos (starEach (e :: rest) Φ.env)) (backToKw pos (keywordEach [] Φ.env)))) : EV N Φ (.Call fn (e :: rest) [] pos) σ Q := by
  refine .mk fun s S => Call_ (EV.k S (h.mono fun a σ₁ ⟨id, ea, c⟩ v s₁ ra S₁ => ?_)) he
  subst ea
  obtain ⟨rfl, _⟩ := ra
  exact callWith_builtin1 (wpAny_mono (c.run pos s₁ S₁) (fun vs s₂ ⟨as, σ₂, rs, S₂, q⟩ => q.run s₂ vs rs S₂) fun _ _ x => x) hst hp
theorem BC_min {i j : Int} {Q : AV → St → Prop} (h : Q (.int (if j < i then j else i)) σ) : BC N Φ "min" [.int i, .int j] σ Q := by
  refine ⟨?_⟩
  rintro s vs r S
  obtain ⟨m, news, F, Nw, H, nd, L, o, g⟩ := id S
  match vs, r with
  | [u, v], ⟨⟨t, ht⟩, ⟨t', ht'⟩, _⟩ =>
    subst ht
    subst ht'
    exact min_two_N Φ.hhA F Nw fun h' tk F' N' => ⟨.int _, σ, ⟨_, rfl⟩, ⟨m, news, F', N', H, nd, L, o, g⟩, h⟩
/-- An item behind the list's end, counted back. -/
theorem GI_neg {value slice : Expr} {y : Addr} {l : List Int} {k z : Int} {Q : AV → St → Prop} (hy : (y, AO.ints l) ∈ σ.hp) (h0 : k < 0) (h1 : -(l.length : Int) ≤ k) (h2 : -(2 ^ 63) ≤ k) (hz : l[(k + l.length).toNat]? = some z) (h : Q (.int z) σ)
    (hs : ∀ o i, subscripted slice false o i = operate [o, i] (getItem o i)) : GI N Φ value slice (.ref y) (.int k) σ Q := by
  refine ⟨?_⟩
  rintro s _ _ rfl ⟨t, rfl⟩ S
  obtain ⟨m, news, F, Nw, H, nd, L, o, g⟩ := id S
  obtain ⟨us, hl, hv⟩ := Sim.list (Φ := Φ) Nw H hy
  refine item_list_ints_negR (vs := us.toList) (by simpa using hl) hv.are h0 h1 h2 (fun t => ⟨.int z, σ, ⟨t, ?_⟩, S, h⟩) (hs _ _)
  rw [List.getD_eq_getElem?_getD, hz]; rfl
theorem RepL.one {a : AV} {vs : List Value} (h : RepL [a] vs) : ∃ v, vs = [v] ∧ Rep a v := by
  cases vs with
  | nil => exact h.elim
  | cons v r => cases r with
    | nil => exact ⟨v, rfl, h.1⟩
    | cons _ _ => exact h.2.elim
theorem flat_replicate {α : Type} (l : List α) : ∀ (n : Nat) (acc : Array α), (List.foldl (fun x1 x2 => x1 ++ x2) acc (List.replicate n l.toArray)).toList = acc.toList ++ (List.replicate n l).flatten
  | 0, acc => by simp
  | n + 1, acc => by
    rw [List.replicate_succ, List.foldl_cons, flat_replicate l n, List.replicate_succ, List.flatten_cons]
    simp
/-- A list of one int, many times. -/
theorem BO_rep {x : Addr} {z k : Int} {Q : AV → St → Prop} (hx : (x, AO.ints [z]) ∈ σ.hp) (h0 : 0 ≤ k) (hz : k ≤ 2 ^ 24) (h : ∀ q, Q (.ref q) ⟨σ.loc, σ.hp ++ [(q, .ints (List.replicate k.toNat z))]⟩) : BO N Φ .Mult (.ref x) (.int k) σ Q := by
  refine ⟨?_⟩
  rintro s _ _ rfl ⟨t, rfl⟩ S
  obtain ⟨m, news, F, Nw, H, nd, L, o, g⟩ := id S
  obtain ⟨co, h1, us, n, h3, h4⟩ := H.mem hx
  subst h3
  have e1 : us.size = 1 := by rw [← Array.length_toList]; exact h4.length
  refine mul_list F Nw (Nw _ h1).1 (by omega) (by omega) (by rw [e1]; omega) fun h' F' N' => ⟨.ref _, _, rfl, Sim.last (ao := .ints (List.replicate k.toNat z)) H nd L o g F' N' (fun p hp => Heap.lt_size (Nw p hp).1) ⟨_, 0, rfl, ?_⟩ _, h _⟩
  have e2 : us.isEmpty = false := by simp [Array.isEmpty, e1]
  rw [e2]
  have e3 : us = us.toList.toArray := by simp
  rw [e3]
  simp only [Bool.false_eq_true, if_false]
  rw [flat_replicate]
  obtain ⟨v, rv, hv⟩ : ∃ v, us.toList = [v] ∧ ∃ t, v = Value.int z t := by
    cases hu : us.toList with
    | nil => rw [hu] at h4; exact h4.elim
    | cons v r =>
      rw [hu] at h4
      cases r with
      | nil => exact ⟨v, rfl, h4.1⟩
      | cons _ _ => exact h4.2.elim
  rw [rv]
  simp only [List.nil_append]
  generalize k.toNat = n
  induction n with
  | zero => exact trivial
  | succ n ih =>
    rw [List.replicate_succ, List.replicate_succ, List.flatten_cons]
    exact ⟨hv, ih⟩
/-- append and pop of a list of ints. -/
theorem EV_append {oe e : Expr} {n : Nat} {apos pos : Pos} {Q : AV → St → Prop} (hn : N n = "append") (he : starEach [e] Φ.env = (false, eval e Φ.env) :: starEach [] Φ.env)
    (hc : ∃ pl, eval (.Call (.Attribute oe (N n) apos) [e] [] pos) Φ.env = (do let ov ← eval oe Φ.env; standAt apos.atName; let (f, first) ← holding [ov] (getMethod ov (N n) pl); callWith pos f first (backTo pos (starEach [e] Φ.env)) (backToKw pos (keywordEach [] Φ.env))))
    (h : EV N Φ oe σ fun a σ₁ => ∃ y l, a = .ref y ∧ (y, AO.ints l) ∈ σ₁.hp ∧ EV N Φ e σ₁ fun b σ₂ => ∃ z l' hp', b = .int z ∧ Rpl y (.ints l') (.ints (l' ++ [z])) σ₂.hp hp' ∧ l'.length ≤ sizeLine ∧ Q .none ⟨σ₂.loc, hp'⟩) : EV N Φ (.Call (.Attribute oe (N n) apos) [e] [] pos) σ Q := by
  obtain ⟨pl, hc⟩ := hc
  refine .mk fun _ S => methodCall_KW (he := hc) (EV.k S (h.mono fun a σ₁ ⟨y, l, ea, hy, c⟩ v s₁ ra S₁ => ?_))
  subst ea
  cases ra
  obtain ⟨m, news, F, Nw, H, nd, L, os, g⟩ := id S₁
  obtain ⟨co, h1, us, k, h3, h4⟩ := H.mem hy
  subst h3
  rw [hn]
  refine getMethod_list_append (Nw _ h1).1 rfl rfl ?_
  have e2 : ∀ s', (fun (vs : List Value) => wpAny Φ.M Φ.A (call (.builtin "list.append") ([.ref y] ++ vs)) (fun v s' => PV N Φ Q v s') (fun _ _ => False) s') = fun vs => wpAny Φ.M Φ.A (call (.builtin "list.append") (.ref y :: vs)) (fun v s' => PV N Φ Q v s') (fun _ _ => False) s' := fun _ => rfl
  show wpAny Φ.M Φ.A (callWith pos (.builtin "list.append") [.ref y] (backTo pos (starEach [e] Φ.env)) []) _ _ _
  rw [he]
  refine callWith_builtin rfl (evalArgs_plain (spliced_cons (EV.k S₁ (c.mono fun b σ₂ ⟨z, l', hp', eb, U, hz, q⟩ u s₂ rb S₂ => spliced_nil ?_))))
  subst eb
  obtain ⟨t, rfl⟩ := rb
  obtain ⟨m₂, news₂, F₂, N₂, H₂, nd₂, L₂, o₂, g₂⟩ := id S₂
  obtain ⟨co, h1, ⟨vs, k', h3, h4⟩, h5⟩ := H₂.rpl nd₂ U
  subst h3
  obtain ⟨news', U', H', kk⟩ := h5 (W.listOf (vs.push (.int z t)) (k' + 1)) ⟨_, _, rfl, by
    rw [Array.toList_push]
    have : ∀ {l : List Int} {vs : List Value}, IntsL l vs → IntsL (l ++ [z]) (vs ++ [.int z t]) := by
      intro l
      induction l with
      | nil => intro vs r; cases vs with | nil => exact ⟨⟨t, rfl⟩, trivial⟩ | cons _ _ => exact r.elim
      | cons a l ih => intro vs r; cases vs with | nil => exact r.elim | cons v vs => exact ⟨r.1, ih r.2⟩
    exact this h4⟩
  exact append_K F₂ N₂ U' (fun h' F' N' => ⟨.none, ⟨σ₂.loc, hp'⟩, rfl, ⟨m₂, news', F', N', H', by rw [kk]; exact nd₂, L₂, o₂, g₂⟩, q⟩) (by rw [← Array.length_toList, h4.length]; exact hz)
theorem IntsL.dropLast {l : List Int} {vs : List Value} (h : IntsL l vs) : IntsL l.dropLast vs.dropLast := by
  rw [List.dropLast_eq_take, List.dropLast_eq_take, h.length]
  exact IntsL.of_are (h.are.take _)
theorem EV_pop {oe : Expr} {n : Nat} {apos pos : Pos} {Q : AV → St → Prop} (hn : N n = "pop")
    (hc : ∃ pl, eval (.Call (.Attribute oe (N n) apos) [] [] pos) Φ.env = (do let ov ← eval oe Φ.env; standAt apos.atName; let (f, first) ← holding [ov] (getMethod ov (N n) pl); callWith pos f first (backTo pos (starEach [] Φ.env)) (backToKw pos (keywordEach [] Φ.env))))
    (h : EV N Φ oe σ fun a σ₁ => ∃ y l hp', a = .ref y ∧ Rpl y (.ints l) (.ints l.dropLast) σ₁.hp hp' ∧ 0 < l.length ∧ l.length ≤ sizeLine ∧ Q (.int (l.getLastD 0)) ⟨σ₁.loc, hp'⟩) : EV N Φ (.Call (.Attribute oe (N n) apos) [] [] pos) σ Q := by
  obtain ⟨pl, hc⟩ := hc
  refine .mk fun _ S => methodCall_KW (he := hc) (EV.k S (h.mono fun a σ₁ ⟨y, l, hp', ea, U, h0, hz, q⟩ v s₁ ra S₁ => ?_))
  subst ea
  cases ra
  obtain ⟨m, news, F, Nw, H, nd, L, os, g⟩ := id S₁
  obtain ⟨co, h1, ⟨us, k, h3, h4⟩, h5⟩ := H.rpl nd U
  subst h3
  rw [hn]
  refine listMethod_K Nw h1 PySem.F.slot_list_pop PySem.F.type_list_pop ?_
  obtain ⟨news', U', H', kk⟩ := h5 (W.listOf us.toList.dropLast.toArray (k + 1)) ⟨_, _, rfl, by simpa using h4.dropLast⟩
  have U'' : Upd y (W.listOf us.toList.toArray k) (W.listOf us.toList.dropLast.toArray (k + 1)) news news' := by simpa using U'
  have hl := h4.length
  show wpAny Φ.M Φ.A (callWith pos (.builtin "list.pop") [.ref y] [] []) _ _ _
  exact callWith_builtin rfl (PyProof.Rows.evalArgs_none (kpa_pop F Nw U'' h4.are (by omega) (by omega) fun h' t F' N' _ => ⟨.int _, ⟨σ₁.loc, hp'⟩, ⟨t, rfl⟩, ⟨m, news', F', N', H', by rw [kk]; exact nd, L, os, g⟩, q⟩))
end
section
variable {N : Nat → Str} {G : Gl} {cs : Scope} {Φ : Cx G cs} {σ : St}
/-- One target is stored. -/
structure AS (N : Nat → Str) (Φ : Cx G cs) (t : Expr) (a : AV) (σ : St) (Q : St → Prop) : Prop where
  run : ∀ s v, Rep a v → Sim N Φ σ s → wpAny Φ.M Φ.A (assign t Φ.env v) (fun _ s' => PS N Φ Q s') (fun _ _ => False) s
theorem AS_Name {n : Nat} {pos : Pos} {a : AV} {Q : St → Prop} (h : SN N Φ n a σ Q) : AS N Φ (.Name (N n) pos) a σ Q := .mk fun s v r S => assign_Name (h.run s v r S)
theorem AS_Attr {o : Expr} {at_ : Str} {pos : Pos} {a : AV} {Q : St → Prop} (h : EV N Φ o σ fun b σ₁ => SA N Φ b at_ a σ₁ Q) : AS N Φ (.Attribute o at_ pos) a σ Q := .mk fun s v r S => by
  rw [arm_assign_Attribute]
  refine wpAny_bind (wpAny_holding (EV.k S (h.mono fun b σ₁ q u s₁ rb S₁ => wpAny_bind (wpAny_standAt (wpAny_bind (wpAny_holding (wpAny_mono (q.run s₁ u v rb r S₁) (fun _ s₂ x => wpAny_releaseD x) fun _ _ x => x)))))))
theorem AS_Sub {o i : Expr} {pos : Pos} {a : AV} {Q : St → Prop} (h : EV N Φ o σ fun b σ₁ => EV N Φ i σ₁ fun c σ₂ => SI N Φ b c a σ₂ Q) : AS N Φ (.Subscript o i pos) a σ Q := .mk fun s v r S => by
  rw [arm_assign_Subscript]
  refine wpAny_bind (wpAny_holding (EV.k S (h.mono fun b σ₁ q u s₁ rb S₁ => wpAny_bind (wpAny_holding (EV.k S₁ (q.mono fun c σ₂ q₂ u₂ s₂ rc S₂ => wpAny_bind (wpAny_standAt (wpAny_bind (wpAny_holding (wpAny_mono (q₂.run s₂ u u₂ v rb rc r S₂) (fun _ s₃ x => wpAny_releaseD x) fun _ _ x => x))))))))))
/-- Several targets in their order. -/
structure AI (N : Nat → Str) (Φ : Cx G cs) (ts : List Expr) (as : List AV) (σ : St) (Q : St → Prop) : Prop where
  run : ∀ s vs, RepL as vs → Sim N Φ σ s → wpAny Φ.M Φ.A (assignInOrder ((assignEach ts Φ.env).map (·.2)) vs) (fun _ s' => PS N Φ Q s') (fun _ _ => False) s
theorem AI_nil {as : List AV} {Q : St → Prop} (h : Q σ) : AI N Φ [] as σ Q := .mk fun s vs r S => assignInOrder_nil ⟨σ, S, h⟩
theorem AI_cons {t : Expr} {ts : List Expr} {a : AV} {as : List AV} {Q : St → Prop} (he : assignEach (t :: ts) Φ.env = (false, assign t Φ.env) :: assignEach ts Φ.env) (h : AS N Φ t a σ fun σ₁ => AI N Φ ts as σ₁ Q) : AI N Φ (t :: ts) (a :: as) σ Q := .mk fun s vs r S => by
  rw [he]
  cases vs with
  | nil => exact r.elim
  | cons v vs => exact assignInOrder_cons (wpAny_mono (h.run s v r.1 S) (fun _ s₁ ⟨σ₁, S₁, q⟩ => q.run s₁ vs r.2 S₁) fun _ _ x => x)
theorem Sim.tup {s : Shared} {news : List (Addr × Obj)} {y : Addr} {as : List AV} (Nw : News Φ.h₀ Φ.L s.heap news) (H : HRep N σ.hp news) (hy : (y, AO.tup as) ∈ σ.hp) :
    ∃ vs, IsTup s.heap y vs ∧ RepL as vs.toList := by
  obtain ⟨co, h1, vs, n, h3, h4⟩ := H.mem hy
  subst h3
  exact ⟨vs, ⟨_, (Nw _ h1).1, rfl, n, rfl⟩, h4⟩
/-- A tuple is stored to several targets; the stores in their order. -/
theorem EX1_AssignT {elts : List Expr} {k : Nat} {tpos : Pos} {value : Expr} {pos : Pos} {Q : Fl → St → Prop} (hs : swapsWithSole [.Tuple elts k tpos] value pos.line Φ.env = pure false) (hw : swappedStores [.Tuple elts k tpos] value Φ.env = pure none) (hstar : (assignEach elts Φ.env).findIdx? (·.1) = none)
    (h : EV N Φ value σ fun v σ₁ => ∃ q as, v = .ref q ∧ (q, AO.tup as) ∈ σ₁.hp ∧ (assignEach elts Φ.env).length = as.length ∧ AI N Φ elts as σ₁ (Q .next)) : EX1 N Φ (.Assign [.Tuple elts k tpos] value pos) σ Q := .mk fun s S => by
  refine Assign_Tuple (EV.k S (h.mono fun v σ₁ ⟨q, as, ev, hq, hl, ai⟩ u s₁ r S₁ => ?_)) hs hw
  subst ev
  cases r
  obtain ⟨m, news, F, Nw, H, nd, L, o, g⟩ := id S₁
  obtain ⟨vs, ht, rv⟩ := Sim.tup (Φ := Φ) Nw H hq
  refine unpackN_ F Nw ht Φ.hhA (by rw [hl, ← rv.length, Array.length_toList]) hstar fun h' F' N' => ?_
  exact wpAny_mono (ai.run { s₁ with heap := h' } _ rv ⟨m, news, F', N', H, nd, L, o, g⟩) (fun _ s₂ ⟨σ₂, S₂, q₂⟩ => ⟨.next, σ₂, rfl, S₂, q₂⟩) fun _ _ x => x
/-- Two or three names at once: the stores run backwards. -/
structure BN (N : Nat → Str) (Φ : Cx G cs) (ns : List Nat) (as : List AV) (σ : St) (Q : St → Prop) : Prop where
  run : ∀ s vs, RepL as vs → Sim N Φ σ s → wpAny Φ.M Φ.A (assignInOrder (ns.map fun n => bindName Φ.env (N n)) vs) (fun _ s' => PS N Φ Q s') (fun _ _ => False) s
theorem BN_nil {as : List AV} {Q : St → Prop} (h : Q σ) : BN N Φ [] as σ Q := .mk fun s vs r S => assignInOrder_nil ⟨σ, S, h⟩
theorem BN_cons {n : Nat} {ns : List Nat} {a : AV} {as : List AV} {Q : St → Prop} (h : SN N Φ n a σ fun σ₁ => BN N Φ ns as σ₁ Q) : BN N Φ (n :: ns) (a :: as) σ Q := .mk fun s vs r S => by
  cases vs with
  | nil => exact r.elim
  | cons v vs => exact assignInOrder_cons (bindName_ (wpAny_mono (h.run s v r.1 S) (fun _ s₁ ⟨σ₁, S₁, q⟩ => q.run s₁ vs r.2 S₁) fun _ _ x => x))
theorem RepL.append : ∀ {as bs : List AV} {vs ws : List Value}, RepL as vs → RepL bs ws → RepL (as ++ bs) (vs ++ ws)
  | [], _, [], _, _, h => h
  | [], _, _ :: _, _, h, _ => h.elim
  | _ :: _, _, [], _, h, _ => h.elim
  | _ :: _, _, _ :: _, _, h, h' => ⟨h.1, h.2.append h'⟩
theorem RepL.reverse : ∀ {as : List AV} {vs : List Value}, RepL as vs → RepL as.reverse vs.reverse
  | [], [], _ => trivial
  | [], _ :: _, h => h.elim
  | _ :: _, [], h => h.elim
  | _ :: _, _ :: _, h => by rw [List.reverse_cons, List.reverse_cons]; exact h.2.reverse.append ⟨h.1, trivial⟩
theorem EX1_AssignB {elts : List Expr} {k : Nat} {tpos : Pos} {value : Expr} {pos : Pos} {ns : List Nat} {Q : Fl → St → Prop} (hs : swapsWithSole [.Tuple elts k tpos] value pos.line Φ.env = pure false) (hw : swappedStores [.Tuple elts k tpos] value Φ.env = pure (some (ns.map N)))
    (h : EV N Φ value σ fun v σ₁ => ∃ q as, v = .ref q ∧ (q, AO.tup as) ∈ σ₁.hp ∧ ns.length = as.length ∧ BN N Φ ns.reverse as.reverse σ₁ (Q .next)) : EX1 N Φ (.Assign [.Tuple elts k tpos] value pos) σ Q := .mk fun s S => by
  refine Assign_Tuple_swapped (EV.k S (h.mono fun v σ₁ ⟨q, as, ev, hq, hl, ai⟩ u s₁ r S₁ => ?_)) hs hw
  subst ev
  cases r
  obtain ⟨m, news, F, Nw, H, nd, L, o, g⟩ := id S₁
  obtain ⟨vs, ht, rv⟩ := Sim.tup (Φ := Φ) Nw H hq
  refine unpackItemsN_ F Nw ht Φ.hhA (by rw [List.length_map, hl, ← rv.length, Array.length_toList]) fun h' F' N' => ?_
  have e : ((ns.map N).reverse.map fun n => bindName Φ.env n) = ns.reverse.map fun n => bindName Φ.env (N n) := by rw [← List.map_reverse, List.map_map]; rfl
  rw [e]
  exact wpAny_mono (ai.run { s₁ with heap := h' } _ rv.reverse ⟨m, news, F', N', H, nd, L, o, g⟩) (fun _ s₂ ⟨σ₂, S₂, q₂⟩ => ⟨.next, σ₂, rfl, S₂, q₂⟩) fun _ _ x => x
/-- Two tuples of ints are compared. -/
theorem CO_ne_tup {x y : Addr} {as bs : List AV} {l r : List Int} {Q : AV → St → Prop} (hx : (x, AO.tup as) ∈ σ.hp) (hy : (y, AO.tup bs) ∈ σ.hp) (ha : asInts as = some l) (hb : asInts bs = some r) (hd : Φ.A.depth < 1000) (h : Q (.bool (l != r)) σ) (hl : l.length = r.length) : CO N Φ .NotEq (.ref x) (.ref y) σ Q := by
  refine ⟨?_⟩
  rintro s _ _ rfl rfl S
  obtain ⟨m, news, F, Nw, H, nd, L, o, g⟩ := id S
  obtain ⟨vs, ht, rv⟩ := Sim.tup (Φ := Φ) Nw H hx
  obtain ⟨ws, ht', rw'⟩ := Sim.tup (Φ := Φ) Nw H hy
  have iv := asInts_rep ha rv
  have iw := asInts_rep hb rw'
  have un := Φ.unA
  have sv : vs.size = l.length := by rw [← Array.length_toList]; exact iv.length
  have sw : ws.size = r.length := by rw [← Array.length_toList]; exact iw.length
  have key := SeqAt.RcNeAt.tuples (A := Φ.A) (s := s) (l := x) (b := y) (items := vs) (items2 := ws) (e := fun j => l[j]? == r[j]?) ht ht' (by have : cLine = 9900 := rfl; omega) (fun j h1 h2 => ?_)
  · refine key G.prog G.w _ _ ?_
    refine ⟨.bool _, σ, rfl, S, ?_⟩
    have e : (!((List.range (min vs.size ws.size)).all (fun j => l[j]? == r[j]?) && vs.size == ws.size)) = (l != r) := by
      rw [sv, sw, hl, Nat.min_self, beq_self_eq_true, Bool.and_true]
      show _ = !(l == r)
      congr 1
      rw [Bool.eq_iff_iff, List.all_eq_true, beq_iff_eq]
      constructor
      · intro q
        refine List.ext_getElem? fun j => ?_
        by_cases hj : j < r.length
        · exact beq_iff_eq.mp (q j (List.mem_range.mpr hj))
        · rw [List.getElem?_eq_none (by omega), List.getElem?_eq_none (by omega)]
      · rintro rfl j _; exact beq_self_eq_true _
    rw [e]; exact h
  · have h1' : j < l.length := by omega
    have h2' : j < r.length := by omega
    obtain ⟨t, e1⟩ := iv.get (List.getElem?_eq_getElem h1')
    obtain ⟨t', e2⟩ := iw.get (List.getElem?_eq_getElem h2')
    have e1 : vs[j] = .int l[j] t := by have := e1; rw [Array.getElem?_toList, Array.getElem?_eq_getElem h1] at this; exact Option.some.inj this
    have e2 : ws[j] = .int r[j] t' := by have := e2; rw [Array.getElem?_toList, Array.getElem?_eq_getElem h2] at this; exact Option.some.inj this
    rw [e1, e2]
    have : (l[j]? == r[j]?) = (l[j] == r[j]) := by rw [List.getElem?_eq_getElem h1', List.getElem?_eq_getElem h2']; rfl
    show SeqAt.EqAt _ s _ _ (l[j]? == r[j]?)
    rw [this]
    exact SeqAt.EqAt.int_int _ _ _ _
end
section
variable {N : Nat → Str} {G : Gl} {cs : Scope} {Φ : Cx G cs} {σ : St}
/-- A list of ints: one of the frame's own, or one that stood ahead of it. -/
noncomputable def LstAt (Φ : Cx G cs) (σ : St) (y : Addr) (l : List Int) : Prop := (y, AO.ints l) ∈ σ.hp ∨ (y, AO.wints l) ∈ σ.hp ∨ ∃ vs, Φ.h₀.IsList y vs ∧ IntsL l vs.toList
theorem LstAt.get {s : Shared} {m : Str → Option Value} {news : List (Addr × Obj)} {y : Addr} {l : List Int} (h : LstAt Φ σ y l) (F : Fr Φ.h₀ Φ.L s.heap m) (Nw : News Φ.h₀ Φ.L s.heap news) (H : HRep N σ.hp news) :
    ∃ vs, s.heap.IsList y vs ∧ IntsL l vs.toList := by
  rcases h with h | h | ⟨vs, ⟨o, ho, r⟩, hv⟩
  · exact Sim.list (Φ := Φ) Nw H h
  · obtain ⟨co, h1, h2, vs, n, h3, h4⟩ := H.mem h
    exact ⟨vs, ⟨co, (Nw _ h1).1, h2, n, h3⟩, h4⟩
  · exact ⟨vs, ⟨o, F.keep _ _ ho, r⟩, hv⟩
/-- A part of a slice. -/
structure SP (N : Nat → Str) (Φ : Cx G cs) (e : Option Expr) (σ : St) (Q : Option Int → St → Prop) : Prop where
  run : ∀ s, Sim N Φ σ s → wpAny Φ.M Φ.A (evalPart e Φ.env) (fun v s' => ∃ i σ', IsPart v i ∧ Sim N Φ σ' s' ∧ Q i σ') (fun _ _ => False) s
theorem SP_none {Q : Option Int → St → Prop} (h : Q none σ) : SP N Φ none σ Q := .mk fun s S => wpAny_pure ⟨none, σ, .none, S, h⟩
theorem SP_some {e : Expr} {Q : Option Int → St → Prop} (h : EV N Φ e σ fun a σ' => ∃ i, a = .int i ∧ Q (some i) σ') : SP N Φ (some e) σ Q := .mk fun s S => by
  rw [evalPart_some]
  refine EV.k S (h.mono fun a σ' ⟨i, ea, q⟩ v s' r S' => ?_)
  subst ea
  obtain ⟨t, rfl⟩ := r
  exact ⟨some i, σ', .int i t, S', q⟩
noncomputable def cut (l : List Int) : Option Int → Option Int → List Int
  | none, none => l
  | none, some j => l.take j.toNat
  | some i, none => l.drop i.toNat
  | some i, some j => (l.take j.toNat).drop i.toNat
theorem cut_length (l : List Int) : ∀ i j, (cut l i j).length ≤ l.length
  | none, none => Nat.le_refl _
  | none, some j => by simp [cut]; omega
  | some i, none => by simp [cut]
  | some i, some j => by simp [cut]; omega
noncomputable def partOk (l : List Int) : Option Int → Option Int → Prop
  | none, none => True
  | none, some j => 0 ≤ j
  | some i, none => 0 ≤ i
  | some _, some _ => False
theorem cut_pick {l : List Int} {vs : Array Value} (h : IntsL l vs.toList) : ∀ {i j : Option Int}, partOk l i j → IntsL (cut l i j) (slicePick vs i j none).toList
  | none, none, _ => by rw [slicePick_all]; exact h
  | none, some j, p => by
    obtain ⟨n, rfl⟩ := Int.eq_ofNat_of_zero_le p
    rw [slicePick_upto']
    exact IntsL.of_are (h.are.take n)
  | some i, none, p => by
    obtain ⟨n, rfl⟩ := Int.eq_ofNat_of_zero_le p
    rw [slicePick_from']
    exact IntsL.of_are (h.are.drop n)
  | some _, some _, p => p.elim
theorem EV_slice {value : Expr} {lo hi : Option Expr} {p pos : Pos} {Q : AV → St → Prop}
    (h : EV N Φ value σ fun a σ₁ => SP N Φ lo σ₁ fun i σ₂ => SP N Φ hi σ₂ fun j σ₃ => ∃ y l, a = .ref y ∧ LstAt Φ σ₃ y l ∧ l.length ≤ sizeLine ∧ partOk l i j ∧ ∀ q, Q (.ref q) ⟨σ₃.loc, σ₃.hp ++ [(q, .ints (cut l i j))]⟩) :
    EV N Φ (.Subscript value (.Slice lo hi none p) pos) σ Q := .mk fun s S => by
  refine Subscript_ (EV.k S (h.mono fun a σ₁ h₁ v s₁ r S₁ => wpAny_Slice (wpAny_mono (h₁.run s₁ S₁) (fun vl s₂ ⟨i, σ₂, pi, S₂, h₂⟩ => wpAny_mono (h₂.run s₂ S₂) (fun vu s₃ ⟨j, σ₃, pj, S₃, y, l, ea, hy, hz, po, q⟩ => ?_) fun _ _ x => x) fun _ _ x => x)))
  subst ea
  cases r
  obtain ⟨m, news, F, Nw, H, nd, L, o, g⟩ := id S₃
  obtain ⟨vs, hl, hv⟩ := hy.get F Nw H
  have len : vs.size = l.length := by rw [← Array.length_toList]; exact hv.length
  refine wpAny_pure ?_
  refine tail_any (T := "list") (Heap.IsList.typeIs (s := { s₃ with heap := s₃.heap.push { cls := .type "slice", data := .fields #[vl, vu, .none] } }) (hl.push _)) slot_list_getitem.lookup
    (wpAny_getItem_list_slice (hl.push _) (Heap.IsSliceOf.new ..) pi pj .none (by simp) ?_ (by rw [len]; exact hz)) rfl
  have F1 := F.push { cls := .type "slice", data := .fields #[vl, vu, .none] }
  have N1 : News Φ.h₀ Φ.L (s₃.heap.push { cls := .type "slice", data := .fields #[vl, vu, .none] }) news := Nw.grown fun _ _ e => Heap.get?_push_of_some _ e
  refine ⟨.ref _, ⟨σ₃.loc, σ₃.hp ++ [(_, .ints (cut l i j))]⟩, rfl, ?_, q _⟩
  exact Sim.last (s := s₃) (ao := .ints (cut l i j)) H nd L o g (F1.push _) (News.push F1 N1 _) (fun p hp => Heap.lt_size (N1 p hp).1) ⟨_, 0, rfl, cut_pick hv po⟩ _
/-- Two lists of ints are compared. -/
theorem CO_eq_ints {x y : Addr} {l r : List Int} {Q : AV → St → Prop} (hx : (x, AO.ints l) ∈ σ.hp) (hy : (y, AO.ints r) ∈ σ.hp) (hl : l.length = r.length) (hd : Φ.A.depth < 1000) (h : Q (.bool (l == r)) σ) : CO N Φ .Eq (.ref x) (.ref y) σ Q := by
  refine ⟨?_⟩
  rintro s _ _ rfl rfl S
  obtain ⟨m, news, F, Nw, H, nd, L, o, g⟩ := id S
  obtain ⟨vs, ht, iv⟩ := Sim.list (Φ := Φ) Nw H hx
  obtain ⟨ws, ht', iw⟩ := Sim.list (Φ := Φ) Nw H hy
  have un := Φ.unA
  have sv : vs.size = l.length := by rw [← Array.length_toList]; exact iv.length
  have sw : ws.size = r.length := by rw [← Array.length_toList]; exact iw.length
  refine SeqAt.eq_listAt (e := fun j => l[j]? == r[j]?) ht ht' (by omega) (by have : cLine = 9900 := rfl; omega) (fun j h1 h2 => ?_) ?_
  · have h1' : j < l.length := by omega
    have h2' : j < r.length := by omega
    obtain ⟨t, e1⟩ := iv.get (List.getElem?_eq_getElem h1')
    obtain ⟨t', e2⟩ := iw.get (List.getElem?_eq_getElem h2')
    have e1 : vs[j] = .int l[j] t := by have := e1; rw [Array.getElem?_toList, Array.getElem?_eq_getElem h1] at this; exact Option.some.inj this
    have e2 : ws[j] = .int r[j] t' := by have := e2; rw [Array.getElem?_toList, Array.getElem?_eq_getElem h2] at this; exact Option.some.inj this
    rw [e1, e2]
    have : (l[j]? == r[j]?) = (l[j] == r[j]) := by rw [List.getElem?_eq_getElem h1', List.getElem?_eq_getElem h2']; rfl
    show SeqAt.EqAt _ s _ _ (l[j]? == r[j]?)
    rw [this]
    exact SeqAt.EqAt.int_int _ _ _ _
  · refine ⟨.bool _, σ, rfl, S, ?_⟩
    have e : (List.range vs.size).all (fun j => l[j]? == r[j]?) = (l == r) := by
      rw [sv, hl, Bool.eq_iff_iff, List.all_eq_true, beq_iff_eq]
      constructor
      · intro q
        refine List.ext_getElem? fun j => ?_
        by_cases hj : j < r.length
        · exact beq_iff_eq.mp (q j (List.mem_range.mpr hj))
        · rw [List.getElem?_eq_none (by omega), List.getElem?_eq_none (by omega)]
      · rintro rfl j _; exact beq_self_eq_true _
    rw [e]; exact h
end
section
variable {N : Nat → Str} {G : Gl} {cs : Scope} {Φ : Cx G cs} {σ : St}
theorem HRep.perm {hp hp' : List (Addr × AO)} (p : hp.Perm hp') : ∀ {news : List (Addr × Obj)}, HRep N hp news → ∃ news', news.Perm news' ∧ HRep N hp' news' := by
  induction p with
  | nil => intro news h; exact ⟨news, .refl _, h⟩
  | cons x p ih =>
    intro news h
    cases news with
    | nil => exact h.elim
    | cons y news =>
      obtain ⟨n', p', h'⟩ := ih h.2
      exact ⟨y :: n', p'.cons y, h.1, h'⟩
  | swap x y l =>
    intro news h
    cases news with
    | nil => exact h.elim
    | cons a news =>
      cases news with
      | nil => exact h.2.elim
      | cons b news => exact ⟨b :: a :: news, .swap b a news, h.2.1, h.1, h.2.2⟩
  | trans p q ih1 ih2 =>
    intro news h
    obtain ⟨n1, p1, h1⟩ := ih1 h
    obtain ⟨n2, p2, h2⟩ := ih2 h1
    exact ⟨n2, p1.trans p2, h2⟩
theorem Sim.perm {s : Shared} {hp' : List (Addr × AO)} (p : σ.hp.Perm hp') (S : Sim N Φ σ s) : Sim N Φ ⟨σ.loc, hp'⟩ s := by
  obtain ⟨m, news, F, Nw, H, nd, L, o, g⟩ := S
  obtain ⟨news', p', H'⟩ := H.perm p
  exact ⟨m, news', F, fun q hq => Nw q (p'.mem_iff.mpr hq), H', ((p'.map _).nodup_iff).mp nd, L, o, g⟩
theorem EX_perm {ss : List Stmt} {loc : List (Nat × AV)} {hp hp' : List (Addr × AO)} {Q : Fl → St → Prop} (p : hp.Perm hp') (h : EX N Φ ss ⟨loc, hp'⟩ Q) : EX N Φ ss ⟨loc, hp⟩ Q := .mk fun s S => h.run s (Sim.perm (σ := ⟨loc, hp⟩) p S)
/-- What is no more asked is forgotten. -/
theorem EX_forget {ss : List Stmt} {loc loc' : List (Nat × AV)} {hp hp' : List (Addr × AO)} {Q : Fl → St → Prop} (hl : ∀ k v, loc'.lookup k = some v → loc.lookup k = some v) (p : hp'.Sublist hp) (h : EX N Φ ss ⟨loc', hp'⟩ Q) : EX N Φ ss ⟨loc, hp⟩ Q := .mk fun s S => by
  obtain ⟨m, news, F, Nw, H, nd, L, o, g⟩ := S
  have cut : ∀ {a b : List (Addr × AO)}, a.Sublist b → ∀ {l : List (Addr × Obj)}, HRep N b l → ∃ l', HRep N a l' ∧ l'.Sublist l := by
    intro a b q
    induction q with
    | slnil => intro l h; exact ⟨l, h, List.Sublist.refl _⟩
    | cons x q ih =>
      intro l h
      cases l with
      | nil => exact h.elim
      | cons z l => obtain ⟨l', h1, h2⟩ := ih h.2; exact ⟨l', h1, h2.cons z⟩
    | cons_cons x q ih =>
      intro l h
      cases l with
      | nil => exact h.elim
      | cons z l => obtain ⟨l', h1, h2⟩ := ih h.2; exact ⟨z :: l', ⟨h.1, h1⟩, h2.cons_cons z⟩
  obtain ⟨l', h1, h2⟩ := cut p H
  exact h.run s ⟨m, l', F, fun q hq => Nw q (h2.subset hq), h1, (h2.map _).nodup nd, fun k v e => L k v (hl k v e), o, g⟩
/-- The items of a list that is run through. -/
noncomputable def ItemsAt (Φ : Cx G cs) (σ : St) (y : Addr) (as : List AV) : Prop := (∃ l : List Int, as = l.map .int ∧ (y, AO.ints l) ∈ σ.hp) ∨ ∃ vs, Φ.h₀.IsList y vs ∧ RepL as vs.toList
theorem IntsL.rep : ∀ {l : List Int} {vs : List Value}, IntsL l vs → RepL (l.map .int) vs
  | [], [], _ => trivial
  | [], _ :: _, h => h.elim
  | _ :: _, [], h => h.elim
  | _ :: _, _ :: _, h => ⟨h.1, h.2.rep⟩
theorem ItemsAt.get {s : Shared} {m : Str → Option Value} {news : List (Addr × Obj)} {y : Addr} {as : List AV} (h : ItemsAt Φ σ y as) (F : Fr Φ.h₀ Φ.L s.heap m) (Nw : News Φ.h₀ Φ.L s.heap news) (H : HRep N σ.hp news) :
    ∃ vs, s.heap.IsList y vs ∧ RepL as vs.toList := by
  rcases h with ⟨l, rfl, h⟩ | ⟨vs, ⟨o, ho, r⟩, hv⟩
  · obtain ⟨vs, a, b⟩ := Sim.list (Φ := Φ) Nw H h; exact ⟨vs, a, b.rep⟩
  · exact ⟨vs, ⟨o, F.keep _ _ ho, r⟩, hv⟩
theorem RepL.get : ∀ {l : List AV} {vs : List Value} {k : Nat} {v : Value}, RepL l vs → vs[k]? = some v → ∃ a, l[k]? = some a ∧ Rep a v
  | [], [], _, _, _, e => by simp at e
  | [], _ :: _, _, _, h, _ => h.elim
  | _ :: _, [], _, _, h, _ => h.elim
  | a :: l, v :: vs, 0, z, h, e => by
    simp only [List.getElem?_cons_zero, Option.some.injEq] at e
    subst e
    exact ⟨a, rfl, h.1⟩
  | a :: l, v :: vs, k + 1, z, h, e => by
    simp only [List.getElem?_cons_succ] at e ⊢
    exact h.2.get e
/-- Where the loop's iterator is laid. -/
noncomputable def front (p : Addr × AO) (l : List (Addr × AO)) : List (Addr × AO) := p :: l
noncomputable def fourth (p : Addr × AO) : List (Addr × AO) → List (Addr × AO)
  | a :: b :: c :: r => a :: b :: c :: p :: r
  | l => p :: l
theorem front_perm (p : Addr × AO) (l : List (Addr × AO)) : (front p l).Perm (p :: l) := .refl _
theorem fourth_perm (p : Addr × AO) : ∀ l : List (Addr × AO), (fourth p l).Perm (p :: l)
  | [] => .refl _
  | [_] => .refl _
  | [_, _] => .refl _
  | a :: b :: c :: r => (List.perm_middle (l₁ := [a, b, c]) (l₂ := r)).trans (.refl _)
/-- A body's end: the next turn, or the loop's end. -/
noncomputable def TurnEnd (W : List (Addr × AO) → List (Addr × AO)) (Q : Fl → St → Prop) (I : St → Prop) : Fl → St → Prop
  | .next, σ => ∃ σ₃ : St, σ = ⟨σ₃.loc, W σ₃.hp⟩ ∧ I σ₃
  | .cont, σ => ∃ σ₃ : St, σ = ⟨σ₃.loc, W σ₃.hp⟩ ∧ I σ₃
  | .brk, σ => Q .next σ
  | .ret v, σ => Q (.ret v) σ
inductive ForOk (N : Nat → Str) (Φ : Cx G cs) (W : Addr × AO → List (Addr × AO) → List (Addr × AO)) (target : Expr) (body : List Stmt) (Q : Fl → St → Prop) (a : AV) (σ₁ : St) : Prop where
  | mk (y : Addr) (as : List AV) (ea : a = .ref y) (I : Nat → St → Prop) (i0 : I 0 σ₁) (hI : ∀ i σ, I i σ → ItemsAt Φ σ y as) (hend : ∀ σ, I as.length σ → Q .next σ)
    (turn : ∀ i a σ it, as[i]? = some a → I i σ → AS N Φ target a ⟨σ.loc, W (it, .iter y (i + 1)) σ.hp⟩ fun σ' => EX N Φ body σ' (TurnEnd (W (it, .iter y (i + 1))) Q (I (i + 1))))
/-- A for loop over a list's items, by a word of the turns done. -/
theorem EX1_For {target iter : Expr} {body : List Stmt} {pos : Pos} {Q : Fl → St → Prop} (W : Addr × AO → List (Addr × AO) → List (Addr × AO)) (hW : ∀ p l, (W p l).Perm (p :: l))
    (hf : ∀ x, foldedSetIterable iter Φ.env x = pure x) (ht : ∀ it v, letOwnedTupleGo target it v = pure ())
    (h : EV N Φ iter σ fun a σ₁ => ForOk N Φ W target body Q a σ₁) :
    EX1 N Φ (.For target iter body [] pos) σ Q := .mk fun s S => by
  refine wpAny_For (EV.k S (h.mono fun a σ₁ ok v s₁ r S₁ => ?_)) hf
  obtain ⟨y, as, rfl, I, i0, hI, hend, turn⟩ := ok
  cases r
  obtain ⟨m, news, F, Nw, H, nd, L, o, g⟩ := id S₁
  obtain ⟨vs, hl, hv⟩ := (hI 0 σ₁ i0).get F Nw H
  refine wpAny_pyIter_list hl ?_
  have S₂ : Sim N Φ ⟨σ₁.loc, (s₁.heap.objs.size, .iter y 0) :: σ₁.hp⟩ { s₁ with heap := s₁.heap.push { cls := .type "list_iterator", data := .fields #[.ref y, .int 0 0] } } :=
    Sim.grow (pre := []) (post := σ₁.hp) (ao := .iter y 0) H nd L o g (F.push _) (News.push F Nw _) (fun p hp => Heap.lt_size (Nw p hp).1) ⟨rfl, rfl⟩ rfl _
  generalize s₁.heap.objs.size = it at S₂ ⊢
  have no : ∀ {α : Type} {t : Sem α} {P : α → Shared → Prop} {s : Shared}, wpAny Φ.M Φ.A t P (fun _ _ => False) s → wpAny Φ.M Φ.A t P (notedBy Φ.M Φ.A Φ.env fun _ _ => False) s := fun h => wpAny_mono h (fun _ _ x => x) fun _ _ x => x.elim
  refine codeAny_mono (codeAny_forLoop (R := fun r s' => match r with | .ok f => PF N Φ Q f s' | .error _ => False)
    (fun n s' => ∃ i σ', n + i = as.length + 1 ∧ i ≤ as.length ∧ I i σ' ∧ Sim N Φ ⟨σ'.loc, (it, .iter y i) :: σ'.hp⟩ s') (fun n s' ⟨i, σ', en, hi, ii, S'⟩ => ?_) (as.length + 1) ⟨0, σ₁, by omega, Nat.zero_le _, i0, S₂⟩ (fun v => ht _ v)) fun r s' q => ?_
  · obtain ⟨m', news', F', N', H', nd', L', o', g'⟩ := id S'
    cases news' with
    | nil => exact H'.elim
    | cons p news' =>
      obtain ⟨it', co⟩ := p
      obtain ⟨⟨e, hc, hd⟩, H''⟩ := H'
      cases e
      have N'' : News Φ.h₀ Φ.L s'.heap news' := fun q hq => N' q (.tail _ hq)
      obtain ⟨us, hl', hv'⟩ := (hI i σ' ii).get F' N'' H''
      have P := N' _ (.head _)
      have hit : s'.heap.IsListIter it y i := ⟨co, P.1, hc, hd⟩
      rw [List.map_cons, List.nodup_cons] at nd'
      have ne : ∀ q ∈ news', q.1 ≠ it := fun q hq z => nd'.1 (List.mem_map.mpr ⟨q, hq, z⟩)
      have len : us.size = as.length := by rw [← Array.length_toList]; exact hv'.length
      cases hx : us[i]? with
      | none =>
        have hie : i = as.length := by
          have : us.size ≤ i := by simpa using hx
          omega
        refine no (wpAny_pyNext_list_end Φ.hhA hit hl' hx fun h' eb => wpAny_execs_nil ⟨.next, σ', rfl, ?_, hend σ' (hie ▸ ii)⟩)
        obtain ⟨oL, es, ep, hL, rr⟩ := F'.ns
        exact ⟨m', news', ⟨⟨oL, es, ep, eb _ _ (Ne.symm P.2.1) hL, rr⟩, fun b x q => eb _ _ (fun z => by subst z; rw [P.2.2] at q; cases q) (F'.keep b x q), F'.above⟩,
          fun q hq => ⟨eb _ _ (ne q hq) (N'' q hq).1, (N'' q hq).2⟩, H'', nd'.2, L', o', g'⟩
      | some v =>
        obtain ⟨a, ha, ra⟩ := hv'.get (k := i) (v := v) (by simpa using hx)
        have hlt : i < as.length := (List.getElem?_eq_some_iff.mp ha).1
        refine no (wpAny_pyNext_list_item hit hl' hx fun h' hit' sb => ?_)
        obtain ⟨co', e1, e2, e3⟩ := hit'
        obtain ⟨F3, N3⟩ := Sim.changed (Φ := Φ) F' N' (Upd.head (o := co) (o' := co') ne) e1 sb
        have S3 : Sim N Φ ⟨σ'.loc, (it, .iter y (i + 1)) :: σ'.hp⟩ { s' with heap := h' } := ⟨m', (it, co') :: news', F3, N3, ⟨⟨rfl, e2, e3⟩, H''⟩, by rw [List.map_cons, List.nodup_cons]; exact nd', L', o', g'⟩
        have S4 := Sim.perm (hp' := W (it, .iter y (i + 1)) σ'.hp) (hW _ _).symm S3
        refine no (wpAny_mono ((turn i a σ' it ha ii).run _ v ra S4) (fun _ s₅ ⟨σ₅, S₅, q₅⟩ => no (wpAny_mono (q₅.run s₅ S₅) (fun f s₆ ⟨fl, σ₆, rf, S₆, q₆⟩ => ?_) fun _ _ x => x)) fun _ _ x => x)
        cases fl with
        | next =>
          cases rf
          obtain ⟨σ₇, e7, i7⟩ := q₆
          subst e7
          exact ⟨as.length - i, by omega, i + 1, σ₇, by omega, hlt, i7, Sim.perm (σ := ⟨σ₇.loc, W (it, .iter y (i + 1)) σ₇.hp⟩) (hW _ _) S₆⟩
        | cont =>
          cases rf
          obtain ⟨σ₇, e7, i7⟩ := q₆
          subst e7
          exact ⟨as.length - i, by omega, i + 1, σ₇, by omega, hlt, i7, Sim.perm (σ := ⟨σ₇.loc, W (it, .iter y (i + 1)) σ₇.hp⟩) (hW _ _) S₆⟩
        | brk => cases rf; exact ⟨.next, σ₆, rfl, S₆, q₆⟩
        | ret u => obtain ⟨z, rfl, rz⟩ := rf; exact ⟨.ret u, σ₆, ⟨z, rfl, rz⟩, S₆, q₆⟩
  · cases r with
    | ok f => exact q
    | error e => exact q.elim
end
section
variable {N : Nat → Str} {G : Gl} {cs : Scope} {Φ : Cx G cs} {σ : St}
/-- The elder objects stand as they stood. -/
structure KP (a b : Shared) : Prop where
  run : Keeps a b
theorem KP.rfl' {s : Shared} (t : Nat) : KP s { s with toks := t } := ⟨s.heap, t, rfl, fun _ _ e => e⟩
theorem KP.refl' {s : Shared} : KP s s := ⟨s.heap, s.toks, rfl, fun _ _ e => e⟩
theorem KP.trans' {a b c : Shared} (h : KP a b) (h' : KP b c) : KP a c := by
  obtain ⟨h1, t1, rfl, k1⟩ := h
  obtain ⟨h2, t2, rfl, k2⟩ := h'
  exact ⟨h2, t2, rfl, fun b o e => k2 b o (k1 b o e)⟩
theorem KP.get {a b : Shared} (h : KP a b) : ∀ x o, a.heap.get? x = some o → b.heap.get? x = some o := by
  obtain ⟨h1, t1, rfl, k1⟩ := h
  exact k1
/-- A pure expression in a comprehension's block. -/
structure PE (N : Nat → Str) (Φ : Cx G cs) (env : Env) (loc : List (Nat × AV)) (e : Expr) (Q : AV → Prop) : Prop where
  run : ∀ s m, (∀ b o, Φ.h₀.get? b = some o → s.heap.get? b = some o) → s.heap.Ns env.locals m → LRep N env.scope loc m → wpAny Φ.M Φ.A (eval e env) (fun v s' => ∃ a, Rep a v ∧ KP s s' ∧ Q a) (fun _ _ => False) s
structure PT (N : Nat → Str) (Φ : Cx G cs) (env : Env) (loc : List (Nat × AV)) (e : Expr) (Q : Bool → Prop) : Prop where
  run : ∀ s m, (∀ b o, Φ.h₀.get? b = some o → s.heap.get? b = some o) → s.heap.Ns env.locals m → LRep N env.scope loc m → wpAny Φ.M Φ.A (PySem.isTrue e env (eval e env)) (fun v s' => KP s s' ∧ Q v) (fun _ _ => False) s
variable {env : Env} {loc : List (Nat × AV)}
theorem PE.k {e : Expr} {P : Value → Shared → Prop} {s : Shared} {m : Str → Option Value} (kb : ∀ b o, Φ.h₀.get? b = some o → s.heap.get? b = some o) (hn : s.heap.Ns env.locals m) (L : LRep N env.scope loc m) {Q : AV → Prop} (h : PE N Φ env loc e Q)
    (q : ∀ a v s', Q a → Rep a v → KP s s' → (∀ b o, Φ.h₀.get? b = some o → s'.heap.get? b = some o) → s'.heap.Ns env.locals m → P v s') : wpAny Φ.M Φ.A (eval e env) P (fun _ _ => False) s :=
  wpAny_mono (h.run s m kb hn L) (fun v s' ⟨a, r, k, qa⟩ => q a v s' qa r k (fun b o e => k.get _ _ (kb b o e)) (hn.keeps k.get)) fun _ _ x => x
theorem PE_int {i : Int} {k : Nat} {pos : Pos} {Q : AV → Prop} (h : Q (.int i)) : PE N Φ env loc (.Constant (.int i) k pos) Q := .mk fun s m kb hn L => wpAny_Constant_int ⟨.int i, ⟨_, rfl⟩, KP.rfl' _, h⟩
theorem PE_Name {n : Nat} {pos : Pos} {v : AV} {Q : AV → Prop} (hN : NOk N) (hk : env.scope.kind = .function) (hv : loc.lookup n = some v) (h : Q v) : PE N Φ env loc (.Name (N n) pos) Q := .mk fun s m kb hn L => by
  obtain ⟨⟨c, hc, r⟩, hl⟩ := L _ _ hv
  exact wpAny_Name (wpAny_loadName_local hk hl hn hc ⟨v, r, KP.refl', h⟩) (hN.dbg n)
theorem PE_Bin {l r : Expr} {op : Operator} {pos : Pos} {Q : AV → Prop} (f : Int → Int → Int) (ok : Int → Int → Prop)
    (hop : ∀ {E : Value → Shared → Prop} {s : Shared} {a b : Int} {t u : Tok} {P : Value → Shared → Prop}, ok a b → P (.int (f a b) s.toks) { s with toks := s.toks + 1 } → wpAny Φ.M Φ.A (binaryOp op (.int a t) (.int b u)) P E s)
    (h : PE N Φ env loc l fun a => ∃ i, a = .int i ∧ PE N Φ env loc r fun b => ∃ j, b = .int j ∧ ok i j ∧ Q (.int (f i j))) : PE N Φ env loc (.BinOp l op r pos) Q := .mk fun s m kb hn L => by
  refine wpAny_BinOp (PE.k kb hn L h fun a v s₁ ⟨i, ea, h₁⟩ ra k₁ kb₁ hn₁ => PE.k kb₁ hn₁ L h₁ fun b u s₂ ⟨j, eb, hok, q⟩ rb k₂ kb₂ hn₂ => ?_)
  subst ea; subst eb
  obtain ⟨t, rfl⟩ := ra
  obtain ⟨t', rfl⟩ := rb
  exact hop hok ⟨.int _, ⟨_, rfl⟩, (k₁.trans' k₂).trans' (KP.rfl' _), q⟩
theorem PE_add {l r : Expr} {pos : Pos} {Q : AV → Prop} (h : PE N Φ env loc l fun a => ∃ i, a = .int i ∧ PE N Φ env loc r fun b => ∃ j, b = .int j ∧ True ∧ Q (.int (i + j))) : PE N Φ env loc (.BinOp l .Add r pos) Q := PE_Bin _ (fun _ _ => True) (fun _ h => add_int h) h
theorem PE_sub {l r : Expr} {pos : Pos} {Q : AV → Prop} (h : PE N Φ env loc l fun a => ∃ i, a = .int i ∧ PE N Φ env loc r fun b => ∃ j, b = .int j ∧ True ∧ Q (.int (i - j))) : PE N Φ env loc (.BinOp l .Sub r pos) Q := PE_Bin _ (fun _ _ => True) (fun _ h => sub_int h) h
theorem PE_mod {l r : Expr} {pos : Pos} {Q : AV → Prop} (h : PE N Φ env loc l fun a => ∃ i, a = .int i ∧ PE N Φ env loc r fun b => ∃ j, b = .int j ∧ j ≠ 0 ∧ Q (.int (Int.fmod i j))) : PE N Φ env loc (.BinOp l .Mod r pos) Q := PE_Bin _ (fun _ j => j ≠ 0) (fun hj h => mod_int hj h) h
theorem PE_div {l r : Expr} {pos : Pos} {Q : AV → Prop} (h : PE N Φ env loc l fun a => ∃ i, a = .int i ∧ PE N Φ env loc r fun b => ∃ j, b = .int j ∧ (j ≠ 0 ∧ Builtin.divisionGoesByPylong i j = false) ∧ Q (.int (Int.fdiv i j))) : PE N Φ env loc (.BinOp l .FloorDiv r pos) Q :=
  PE_Bin _ (fun i j => j ≠ 0 ∧ Builtin.divisionGoesByPylong i j = false) (fun hj h => floordiv_int hj.1 h (.inl hj.2)) h
theorem PE_mul {l r : Expr} {pos : Pos} {Q : AV → Prop} (h : PE N Φ env loc l fun a => ∃ i, a = .int i ∧ PE N Φ env loc r fun b => ∃ j, b = .int j ∧ IntMulOk i j ∧ Q (.int (i * j))) : PE N Φ env loc (.BinOp l .Mult r pos) Q := PE_Bin _ IntMulOk (fun hj h => mul_int h hj) h
theorem PT_gt {l r : Expr} {pos : Pos} {Q : Bool → Prop} (h : PE N Φ env loc l fun a => ∃ i, a = .int i ∧ PE N Φ env loc r fun b => ∃ j, b = .int j ∧ Q (decide (i > j))) (hm : behindInMarks .Gt r = false) : PT N Φ env loc (.Compare l [.Gt] [r] pos) Q := .mk fun s m kb hn L => by
  refine wpAny_isTrue_Compare1 (PE.k kb hn L h fun a v s₁ ⟨i, ea, h₁⟩ ra k₁ kb₁ hn₁ => PE.k kb₁ hn₁ L h₁ fun b u s₂ ⟨j, eb, q⟩ rb k₂ kb₂ hn₂ => ?_) hm
  subst ea; subst eb
  obtain ⟨t, rfl⟩ := ra
  obtain ⟨t', rfl⟩ := rb
  exact gt_int (wpAny_truthy_bool ⟨k₁.trans' k₂, q⟩)
theorem PE_IfExp {test body orelse : Expr} {pos : Pos} {Q : AV → Prop} (h : PT N Φ env loc test fun b => (b = true → PE N Φ env loc body Q) ∧ (b = false → PE N Φ env loc orelse Q)) : PE N Φ env loc (.IfExp test body orelse pos) Q := .mk fun s m kb hn L => by
  refine IfExp_ (wpAny_mono (h.run s m kb hn L) (fun b s' ⟨k, q⟩ => ?_) fun _ _ x => x)
  have kb' : ∀ b o, Φ.h₀.get? b = some o → s'.heap.get? b = some o := fun b o e => k.get _ _ (kb b o e)
  cases b with
  | true => rw [if_pos rfl]; exact wpAny_mono ((q.1 rfl).run s' m kb' (hn.keeps k.get) L) (fun v s₂ ⟨a, r, k₂, qa⟩ => ⟨a, r, k.trans' k₂, qa⟩) fun _ _ x => x
  | false => rw [if_neg (by decide)]; exact wpAny_mono ((q.2 rfl).run s' m kb' (hn.keeps k.get) L) (fun v s₂ ⟨a, r, k₂, qa⟩ => ⟨a, r, k.trans' k₂, qa⟩) fun _ _ x => x
/-- The ints of a display. -/
structure PL (N : Nat → Str) (Φ : Cx G cs) (env : Env) (loc : List (Nat × AV)) (es : List Expr) (Q : List Int → Prop) : Prop where
  run : ∀ pos s m, (∀ b o, Φ.h₀.get? b = some o → s.heap.get? b = some o) → s.heap.Ns env.locals m → LRep N env.scope loc m → wpAny Φ.M Φ.A (spliced (backTo pos (starEach es env))) (fun vs s' => ∃ l, IntsL l vs ∧ KP s s' ∧ Q l) (fun _ _ => False) s
theorem PL_nil {Q : List Int → Prop} (h : Q []) : PL N Φ env loc [] Q := .mk fun pos s m kb hn L => args_nil ⟨[], trivial, KP.refl', h⟩
theorem PL_cons {e : Expr} {es : List Expr} {Q : List Int → Prop} (he : starEach (e :: es) env = (false, eval e env) :: starEach es env) (h : PE N Φ env loc e fun a => ∃ i, a = .int i ∧ PL N Φ env loc es fun l => Q (i :: l)) : PL N Φ env loc (e :: es) Q := .mk fun pos s m kb hn L => by
  refine args_cons (PE.k kb hn L h fun a v s₁ ⟨i, ea, h₁⟩ ra k₁ kb₁ hn₁ => wpAny_mono (h₁.run pos s₁ m kb₁ hn₁ L) (fun vs s₂ ⟨l, hl, k₂, q⟩ => ?_) fun _ _ x => x) he
  subst ea
  exact ⟨i :: l, ⟨ra, hl⟩, k₁.trans' k₂, q⟩
/-- An item of a written list. -/
theorem PE_pick {elts : List Expr} {idx : Expr} {lp pos : Pos} {Q : AV → Prop} (hs : ∀ o i, subscripted idx false o i = operate [o, i] (getItem o i))
    (h : PL N Φ env loc elts fun l => l.length ≤ sizeLine ∧ PE N Φ env loc idx fun a => ∃ k z, a = .int k ∧ 0 ≤ k ∧ k < 2 ^ 63 ∧ l[k.toNat]? = some z ∧ Q (.int z)) : PE N Φ env loc (.Subscript (.List elts lp) idx pos) Q := .mk fun s m kb hn L => by
  refine Subscript_ (List_ (wpAny_mono (h.run lp s m kb hn L) (fun vs s₁ ⟨l, hl, k₁, hz, h₁⟩ => ?_) fun _ _ x => x))
  refine wpAny_newObj_type ?_ (by show vs.toArray.size ≤ sizeLine; rw [List.size_toArray, hl.length]; exact hz)
  have k₂ : KP s₁ { s₁ with heap := s₁.heap.push { cls := .type "list", data := .seq vs.toArray } } := ⟨_, _, rfl, fun b o e => Heap.get?_push_of_some _ e⟩
  have kb₂ : ∀ b o, Φ.h₀.get? b = some o → (s₁.heap.push { cls := .type "list", data := .seq vs.toArray }).get? b = some o := fun b o e => k₂.get _ _ (k₁.get _ _ (kb b o e))
  refine PE.k (s := { s₁ with heap := s₁.heap.push { cls := .type "list", data := .seq vs.toArray } }) kb₂ ((hn.keeps k₁.get).keeps k₂.get) L h₁ fun a v s₃ ⟨k, z, ea, h0, hk, hz', q⟩ ra k₃ kb₃ hn₃ => ?_
  subst ea
  obtain ⟨t, rfl⟩ := ra
  have il : s₃.heap.IsList s₁.heap.objs.size vs.toArray := ⟨_, k₃.get _ _ (Heap.get?_push_size _ rfl), rfl, 0, rfl⟩
  obtain ⟨t', e'⟩ := hl.get hz'
  exact tail_any il.typeIs slot_list_getitem.lookup (wpAny_getItem_list il h0 hk (by simpa using e') ⟨.int z, ⟨_, rfl⟩, (k₁.trans' k₂).trans' k₃, q⟩) (hs _ _)
/-- min of two. -/
theorem PE_min {n : Nat} {np pos : Pos} {e₁ e₂ : Expr} {Q : AV → Prop} (hN : NOk N) (hk : env.scope.kind = .function) (hg : env.globals = mainGlobals) (hbi : env.builtins = builtinsNs) (hx : env.kindOf (N n) = some .globalImplicit)
    (e : nsIn G.K mainGlobals (N n) = some none) (hv : bootBuiltins (N n) = some (.builtin "min")) (hn' : N n ≠ "__name__")
    (he1 : starEach [e₁, e₂] env = (false, eval e₁ env) :: starEach [e₂] env) (he2 : starEach [e₂] env = (false, eval e₂ env) :: starEach [] env)
    (he : eval (.Call (.Name (N n) np) [e₁, e₂] [] pos) env = (do callWith pos (← eval (.Name (N n) np) env) [] (backTo pos (starEach [e₁, e₂] env)) (backToKw pos (keywordEach [] env))))
    (h : PE N Φ env loc e₁ fun a => ∃ i, a = .int i ∧ PE N Φ env loc e₂ fun b => ∃ j, b = .int j ∧ Q (.int (if j < i then j else i))) : PE N Φ env loc (.Call (.Name (N n) np) [e₁, e₂] [] pos) Q := .mk fun s m kb hn L => by
  have T := topRead_of Φ.T
  refine Call_ (Name_function_global hk hx ?_ (hN.dbg n)) he
  refine loadGlobal_builtin (env := env) (mg := G.mg) (mb := G.mb) (by rw [hg]; exact T.g.keeps kb) (mg_none_of Φ.X T.g e) (by rw [hbi]; exact T.b.keeps kb) ((T.builtins _ hn').trans hv) ?_
  refine callWith_builtin1 (args_cons (PE.k kb hn L h fun a v s₁ ⟨i, ea, h₁⟩ ra k₁ kb₁ hn₁ => args_cons (PE.k kb₁ hn₁ L h₁ fun b u s₂ ⟨j, eb, q⟩ rb k₂ kb₂ hn₂ => args_nil ?_) he2) he1) he1 (by rw [he2]; rfl)
  subst ea; subst eb
  obtain ⟨t, rfl⟩ := ra
  obtain ⟨t', rfl⟩ := rb
  refine min_two_ints Φ.hhA fun h' tk hk' => ?_
  by_cases c : j < i
  · rw [if_pos c] at q ⊢; exact ⟨.int j, ⟨_, rfl⟩, (k₁.trans' k₂).trans' ⟨h', tk, rfl, hk'⟩, q⟩
  · rw [if_neg c] at q ⊢; exact ⟨.int i, ⟨_, rfl⟩, (k₁.trans' k₂).trans' ⟨h', tk, rfl, hk'⟩, q⟩
end
section
variable {N : Nat → Str} {G : Gl} {cs : Scope} {Φ : Cx G cs} {σ : St}
/-- An object that came up while all elder ones stood. -/
theorem Sim.fresh {s : Shared} {h' : Heap} {D : Addr} {ao : AO} {co : Obj} (S : Sim N Φ σ s) (k : ∀ b o, s.heap.get? b = some o → h'.get? b = some o) (hD : s.heap.get? D = none) (hc : h'.get? D = some co) (r : ORep N ao co) (t : Nat) :
    Sim N Φ ⟨σ.loc, σ.hp ++ [(D, ao)]⟩ { s with heap := h', toks := t } := by
  obtain ⟨m, news, F, Nw, H, nd, L, o, g⟩ := S
  obtain ⟨oL, es, ep, hL, rr⟩ := F.ns
  have nD : ∀ q ∈ news, q.1 ≠ D := fun q hq z => by have := (Nw q hq).1; rw [z, hD] at this; cases this
  have app : ∀ {a : List (Addr × AO)} {b : List (Addr × Obj)}, HRep N a b → HRep N (a ++ [(D, ao)]) (b ++ [(D, co)]) := by
    intro a
    induction a with
    | nil => intro b h; cases b with | nil => exact ⟨⟨rfl, r⟩, trivial⟩ | cons _ _ => exact h.elim
    | cons x a ih => intro b h; cases b with | nil => exact h.elim | cons y b => exact ⟨h.1, ih h.2⟩
  refine ⟨m, news ++ [(D, co)], ⟨⟨oL, es, ep, k _ _ hL, rr⟩, fun b x q => k _ _ (F.keep b x q), F.above⟩, fun q hq => ?_, app H, ?_, L, o, g⟩
  · rcases List.mem_append.mp hq with hq | hq
    · exact ⟨k _ _ (Nw q hq).1, (Nw q hq).2⟩
    · obtain rfl := List.mem_singleton.mp hq
      refine ⟨hc, fun z => ?_, ?_⟩
      · rw [show D = Φ.L from z, hL] at hD; cases hD
      · cases q : Φ.h₀.get? D with
        | none => rfl
        | some x => rw [F.keep _ _ q] at hD; cases hD
  · rw [List.map_append, List.nodup_append]
    refine ⟨nd, by simp, fun a ha b hb => ?_⟩
    obtain ⟨q, hq, rfl⟩ := List.mem_map.mp ha
    obtain rfl : b = D := by simpa using hb
    exact nD q hq
theorem Paired.ints {f : Int → Int} : ∀ {l : List Int} {vs ys : List Value}, IntsL l vs → Paired (fun v y => ∀ i t, v = .int i t → ∃ u, y = .int (f i) u) vs ys → IntsL (l.map f) ys
  | [], [], _, _, h => by cases h; exact trivial
  | [], _ :: _, _, h, _ => h.elim
  | _ :: _, [], _, h, _ => h.elim
  | a :: l, v :: vs, ys, h, p => by
    cases p with
    | cons p r =>
      obtain ⟨t, e⟩ := h.1
      exact ⟨p a t e, Paired.ints h.2 r⟩
/-- A comprehension of ints over a list of ints. -/
theorem EV_comp {elt iter : Expr} {n : Nat} {px pos : Pos} {scope : Scope} {Q : AV → St → Prop} (f : Int → Int) (hN : NOk N)
    (hfree : ∀ y ∈ scope.names, y.2 ≠ .free) (hcell : ∀ y ∈ scope.names, y.2 ≠ .cell) (hkind : scope.kind = .function)
    (hnames : ∀ y ∈ scope.names, y.2 = .local → scope.names.lookup y.1 = some .local) (hx : scope.names.lookup (N n) = some .local) (hs : ∀ x, foldedSetIterable iter Φ.env x = pure x)
    (h : EV N Φ iter σ fun a σ₁ => ∃ y l, a = .ref y ∧ LstAt Φ σ₁ y l ∧ l.length ≤ sizeLine ∧ (∀ i ∈ l, ∀ C, PE N Φ (compEnv scope C Φ.env) [(n, .int i)] elt fun b => b = .int (f i)) ∧ ∀ q, Q (.ref q) ⟨σ₁.loc, σ₁.hp ++ [(q, .wints (l.map f))]⟩) :
    EV N Φ (.ListComp elt [⟨.Name (N n) px, iter, [], 0⟩] scope pos) σ Q := .mk fun s S => by
  refine wpAny_ListComp_map (fun _ => true) (fun v y => ∀ i t, v = .int i t → ∃ u, y = .int (f i) u) Φ.hhA hfree hcell hkind hnames hx (EV.k S (h.mono fun a σ₁ ⟨y, l, ea, hy, hz, el, q⟩ v s₁ r S₁ => ?_)) hs
  subst ea
  cases r
  obtain ⟨m, news, F, Nw, H, nd, L, o, g⟩ := id S₁
  obtain ⟨vs, hl, hv⟩ := hy.get F Nw H
  have len : vs.size = l.length := by rw [← Array.length_toList]; exact hv.length
  refine ⟨y, vs, rfl, hl, by rw [len]; exact hz, fun C v s₂ m₂ E' _ _ _ _ => wpAny_pure ⟨rfl, s₂.heap, s₂.toks, rfl, fun _ _ e => e⟩, fun C v s₂ m₂ E' hm _ hns hmx kk => ?_, fun D h' tk ys hD hly hp kk => ?_⟩
  · obtain ⟨j, hj, hje⟩ := Array.mem_iff_getElem.mp hm
    have hj' : j < l.length := by omega
    obtain ⟨t, e⟩ := hv.get (List.getElem?_eq_getElem hj')
    have e : v = .int l[j] t := by
      rw [Array.getElem?_toList, Array.getElem?_eq_getElem hj, hje] at e
      exact Option.some.inj e
    subst e
    refine wpAny_mono ((el _ (List.getElem_mem hj') C).run s₂ m₂ (fun b x e => kk _ _ (F.keep b x e)) hns ?_) (fun w s₃ ⟨b, rb, k, eb⟩ => ?_) fun _ _ x => x.elim
    · intro k u e
      simp only [List.lookup] at e
      split at e
      · rename_i q'
        have q' := beq_iff_eq.mp q'
        subst q'
        cases e
        exact ⟨⟨_, hmx, _, rfl⟩, hx⟩
      · cases e
    · subst eb
      obtain ⟨u, rfl⟩ := rb
      exact ⟨fun i t' e => by cases e; exact ⟨u, rfl⟩, k.run⟩
  · obtain ⟨co, e1, e2, nn, e3⟩ := hly
    refine ⟨.ref D, _, rfl, Sim.fresh (ao := .wints (l.map f)) S₁ kk hD e1 ⟨e2, ys, nn, e3, ?_⟩ tk, q D⟩
    have hp : Paired (fun v y => ∀ i t, v = .int i t → ∃ u, y = .int (f i) u) vs.toList ys.toList := by
      rw [List.filter_eq_self.mpr (fun _ _ => rfl)] at hp
      exact hp
    exact Paired.ints hv hp
/-- Lists may be read, whoever made them. -/
theorem BC_lenL {y : Addr} {l : List Int} {Q : AV → St → Prop} (hy : LstAt Φ σ y l) (hz : (l.length : Int) < 2 ^ 63) (h : Q (.int l.length) σ) : BC N Φ "len" [.ref y] σ Q := by
  refine ⟨?_⟩
  rintro s vs r S
  obtain ⟨m, news, F, Nw, H, nd, L, o, g⟩ := id S
  obtain ⟨us, hl, hv⟩ := hy.get F Nw H
  obtain ⟨v, rfl, rv⟩ := r.one
  cases rv
  have e : us.size = l.length := by rw [← Array.length_toList]; exact hv.length
  exact len_list hl (by rw [e]; exact hz) ⟨.int _, σ, ⟨_, rfl⟩, S.toks _, by rw [e]; exact h⟩
theorem BO_catL {x y : Addr} {l r : List Int} {Q : AV → St → Prop} (hx : LstAt Φ σ x l) (hy : LstAt Φ σ y r) (hz : l.length + r.length ≤ sizeLine) (h : ∀ q, Q (.ref q) ⟨σ.loc, σ.hp ++ [(q, .ints (l ++ r))]⟩) : BO N Φ .Add (.ref x) (.ref y) σ Q := by
  refine ⟨?_⟩
  rintro s _ _ rfl rfl S
  obtain ⟨m, news, F, Nw, H, nd, L, o, g⟩ := id S
  obtain ⟨us, hl, hv⟩ := hx.get F Nw H
  obtain ⟨ws, hl', hv'⟩ := hy.get F Nw H
  exact add_arrays_ints F Nw hl hl' hv.are hv'.are (fun h' F' N' ia => ⟨.ref _, _, rfl, Sim.last (ao := .ints (l ++ r)) H nd L o g F' N' (fun p hp => Heap.lt_size (Nw p hp).1) ⟨_, 0, rfl, by simpa using IntsL.of_are ia⟩ _, h _⟩) hz
theorem GI_intsL {value slice : Expr} {y : Addr} {l : List Int} {k z : Int} {Q : AV → St → Prop} (hy : LstAt Φ σ y l) (h0 : 0 ≤ k) (hk : k < 2 ^ 63) (hz : l[k.toNat]? = some z) (h : Q (.int z) σ)
    (hs : ∀ o i, subscripted slice false o i = operate [o, i] (getItem o i)) : GI N Φ value slice (.ref y) (.int k) σ Q := by
  refine ⟨?_⟩
  rintro s _ _ rfl ⟨t, rfl⟩ S
  obtain ⟨m, news, F, Nw, H, nd, L, o, g⟩ := id S
  obtain ⟨vs, hl, hv⟩ := hy.get F Nw H
  obtain ⟨t', e⟩ := hv.get hz
  exact tail_any hl.typeIs slot_list_getitem.lookup (wpAny_getItem_list hl h0 hk (by simpa using e) ⟨.int z, σ, ⟨_, rfl⟩, S, h⟩) (hs _ _)
theorem SI_w {y : Addr} {l : List Int} {k z : Int} {hp' : List (Addr × AO)} {Q : St → Prop} (hy : Rpl y (.wints l) (.wints (l.set k.toNat z)) σ.hp hp') (h0 : 0 ≤ k) (hk : k < 2 ^ 63) (hl : k < l.length) (h : Q ⟨σ.loc, hp'⟩) :
    SI N Φ (.ref y) (.int k) (.int z) σ Q := by
  refine ⟨?_⟩
  rintro s _ _ _ rfl ⟨t, rfl⟩ ⟨u, rfl⟩ S
  obtain ⟨m, news, F, Nw, H, nd, L, o, g⟩ := id S
  obtain ⟨co, h1, ⟨h2, vs, n, h3, h4⟩, h5⟩ := H.rpl nd hy
  have il : s.heap.IsList y vs := ⟨co, (Nw _ h1).1, h2, n, h3⟩
  have len := h4.length
  refine wpAny_setItem_list il h0 hk (by rw [← Array.length_toList, len]; exact hl) fun h' il' sb => ?_
  obtain ⟨co', e1, e2, n', e3⟩ := il'
  obtain ⟨news', U, H', kk⟩ := h5 co' ⟨e2, _, n', e3, by rw [Array.toList_setIfInBounds]; exact h4.set (t := u) _⟩
  obtain ⟨F', N'⟩ := Sim.changed (Φ := Φ) F Nw U e1 sb
  exact ⟨⟨σ.loc, hp'⟩, ⟨m, news', F', N', H', by rw [kk]; exact nd, L, o, g⟩, h⟩
end
section
variable {N : Nat → Str} {G : Gl} {cs : Scope} {Φ : Cx G cs} {σ : St}
/-- a < b < c. -/
theorem EV_chain {l r₁ r₂ : Expr} {op₁ op₂ : CmpOp} {pos : Pos} {Q : AV → St → Prop} (hm : lastMarks [op₁, op₂] [r₁, r₂] = false)
    (h : EV N Φ l σ fun a σ₁ => EV N Φ r₁ σ₁ fun b σ₂ => CO N Φ op₁ a b σ₂ fun c σ₃ => TR N Φ c σ₃ fun t σ₄ => (t = true → EV N Φ r₂ σ₄ fun e σ₅ => CO N Φ op₂ b e σ₅ Q) ∧ (t = false → Q c σ₄)) : EV N Φ (.Compare l [op₁, op₂] [r₁, r₂] pos) σ Q := .mk fun s S => by
  refine Compare_chain (EV.k S (h.mono fun a σ₁ h₁ v s₁ ra S₁ => chain_link (EV.k S₁ (h₁.mono fun b σ₂ h₂ u s₂ rb S₂ => wpAny_mono (h₂.run s₂ v u ra rb S₂) (fun c s₃ ⟨c', σ₃, rc, S₃, h₃⟩ => wpAny_mono (h₃.run s₃ c rc S₃) (fun t s₄ ⟨σ₄, S₄, q⟩ => ?_) fun _ _ x => x) fun _ _ x => x)))) hm
  cases t with
  | true =>
    rw [if_pos rfl]
    exact chain_last (EV.k S₄ ((q.1 rfl).mono fun e σ₅ h₅ w s₅ re S₅ => h₅.run s₅ u w rb re S₅))
  | false => rw [if_neg (by decide)]; exact ⟨c', σ₄, rc, S₄, q.2 rfl⟩
theorem EV_and {e₁ e₂ : Expr} {rest : List Expr} {pos : Pos} {Q : AV → St → Prop} (h : EV N Φ e₁ σ fun a σ₁ => TR N Φ a σ₁ fun b σ₂ => (b = true → EV N Φ (.BoolOp .And (e₂ :: rest) pos) σ₂ Q) ∧ (b = false → Q a σ₂)) : EV N Φ (.BoolOp .And (e₁ :: e₂ :: rest) pos) σ Q := .mk fun s S => by
  refine BoolOp_and (EV.k S (h.mono fun a σ₁ q v s₁ r S₁ => wpAny_mono (q.run s₁ v r S₁) (fun b s₂ ⟨σ₂, S₂, q₂⟩ => ?_) fun _ _ x => x))
  cases b with
  | true => rw [if_pos rfl]; exact (q₂.1 rfl).run s₂ S₂
  | false => rw [if_neg (by decide)]; exact ⟨a, σ₂, r, S₂, q₂.2 rfl⟩
/-- An item is read by getItem itself. -/
structure GT (N : Nat → Str) (Φ : Cx G cs) (a b : AV) (σ : St) (Q : AV → St → Prop) : Prop where
  run : ∀ s u v, Rep a u → Rep b v → Sim N Φ σ s → wpAny Φ.M Φ.A (getItem u v) (fun v s' => PV N Φ Q v s') (fun _ _ => False) s
theorem EX1_AugS {o i : Expr} {np : Pos} {op : Operator} {value : Expr} {pos : Pos} {Q : Fl → St → Prop} (ha : ∀ ov iv new, augStore i ov iv new = (do holding [new, ov, iv] (setItem ov iv new); release [new, ov, iv] []; pure .next))
    (h : EV N Φ o σ fun b σ₁ => EV N Φ i σ₁ fun c σ₂ => GT N Φ b c σ₂ fun old σ₃ => EV N Φ value σ₃ fun a σ₄ => IO N Φ op old a σ₄ fun new σ₅ => SI N Φ b c new σ₅ fun σ₆ => Q .next σ₆) :
    EX1 N Φ (.AugAssign (.Subscript o i np) op value pos) σ Q := .mk fun s S =>
  wpAny_AugAssign_SubscriptAny (EV.k S (h.mono fun _ _ q _ s₁ rb S₁ => EV.k S₁ (q.mono fun _ _ q₂ _ s₂ rc S₂ => wpAny_mono (q₂.run s₂ _ _ rb rc S₂) (fun _ s₃ ⟨_, _, ro, S₃, q₃⟩ =>
    EV.k S₃ (q₃.mono fun _ _ q₄ _ s₄ ra S₄ => wpAny_mono (q₄.run s₄ _ _ ro ra S₄) (fun _ s₅ ⟨_, _, rn, S₅, q₅⟩ =>
      wpAny_mono (q₅.run s₅ _ _ _ rb rc rn S₅) (fun _ _ ⟨σ₆, S₆, q₆⟩ => ⟨.next, σ₆, rfl, S₆, q₆⟩) fun _ _ x => x) fun _ _ x => x)) fun _ _ x => x))) ha
theorem BC_sum {y : Addr} {l : List Int} {Q : AV → St → Prop} (hy : LstAt Φ σ y l) (h : Q (.int l.sum) σ) : BC N Φ "sum" [.ref y] σ Q := by
  refine ⟨?_⟩
  rintro s vs r S
  obtain ⟨m, news, F, Nw, H, nd, L, o, g⟩ := id S
  obtain ⟨us, hl, hv⟩ := hy.get F Nw H
  obtain ⟨v, rfl, rv⟩ := r.one
  cases rv
  exact sumK (vs := us.toList) Φ.hhA F Nw (by simpa using hl) hv.are fun h' tk t' F' N' => ⟨.int _, σ, ⟨_, rfl⟩, ⟨m, news, F', N', H, nd, L, o, g⟩, h⟩
end
section
section
variable {prog : Program} {w : World} {A : Around} {E : Value → Shared → Prop} {s : Shared}
noncomputable def laid (items new : Array Value) (lo hi : Option Int) : Array Value :=
  items.extract 0 (sliceBounds lo hi none items.size).1.toNat ++ new ++ items.extract (max (sliceBounds lo hi none items.size).1 (sliceBounds lo hi none items.size).2.1).toNat items.size
theorem laid_size (items new : Array Value) (lo hi : Option Int) : (laid items new lo hi).size ≤ 2 * items.size + new.size := by
  unfold laid
  simp only [Array.size_append, Array.size_extract]
  omega
theorem itemsOf {b : Addr} {new : Array Value} {Q : Array Value → Shared → Prop} (hb : s.heap.IsList b new) (h : Q new s) : wpAny (model prog w) A (Builtin.List.listItems (.ref b)) Q E s := by
  obtain ⟨ob, hob, hcb, nb, hdb⟩ := id hb
  unfold Builtin.List.listItems
  exact wpAny_bind (wpAny_seqItems hob hdb (wpAny_pure h))
theorem allItems {b : Addr} {new : Array Value} {msg : String} {Q : Array Value → Shared → Prop} (hb : s.heap.IsList b new) (h : Q new s) : wpAny (model prog w) A (Builtin.List.listAllItems (.ref b) msg) Q E s := by
  unfold Builtin.List.listAllItems
  refine wpAny_bind (wpAny_typeOf hb.typeIs ?_)
  have e1 : (Value.type "list" == Value.type "list" || Value.type "list" == Value.type "tuple") = true := by decide
  rw [e1]
  simp only [if_true]
  first | exact itemsOf hb h | exact wpAny_bind (itemsOf hb (wpAny_pure h))
theorem setItem_slice {l sl b : Addr} {items new : Array Value} {vl vu : Value} {lo hi : Option Int} {Q : Unit → Shared → Prop} (hl : s.heap.IsList l items) (hb : s.heap.IsList b new) (hne : l ≠ b)
    (hs : s.heap.IsSliceOf sl vl vu .none) (pl : IsPart vl lo) (pu : IsPart vu hi) (hsz : 2 * items.size + new.size ≤ sizeLine)
    (h : ∀ h', h'.IsList l (laid items new lo hi) → Heap.SameBut l s.heap h' → Q () { s with heap := h' }) : wpAny (model prog w) A (setItem (.ref l) (.ref sl) (.ref b)) Q E s := by
  obtain ⟨o, ho, hc, ne, hd⟩ := id hl
  obtain ⟨ob, hob, hcb, nb, hdb⟩ := id hb
  obtain ⟨os, hos, hcs, hds⟩ := id hs
  have hTs : s.TypeIs (.ref sl) "slice" := ⟨os, hos, hcs⟩
  unfold setItem
  try with_reducible refine wpAny_holding ?_
  first | refine wpAny_bind (wpAny_pure ?_) | skip
  refine wpAny_bind (wpAny_sequenceKey hl.typeIs (by decide) ?_)
  refine wpAny_bind (wpAny_callSpecial?_slot (name := Str.ofString "__setitem__") hl.typeIs slot_list_setitem
    (wpAny_call_entry slot_list_setitem hl.typeIs entry_list_setitem ?_ (args_list_setitem _ _ _)))
  show wpAny _ _ (Builtin.List.listSubscript? (.ref sl) >>= _) _ _ s
  refine wpAny_bind ?_
  unfold Builtin.List.listSubscript?
  refine wpAny_bind (wpAny_specialOf hTs slice_no_index ?_)
  simp only [Option.isNone_none, if_true]
  refine wpAny_pure ?_
  show wpAny _ _ (typeOf (.ref sl) >>= _) _ _ s
  refine wpAny_bind (wpAny_typeOf hTs ?_)
  rw [if_neg (by decide)]
  rw [listSliceParts_eq]
  refine wpAny_bind (wpAny_bind (wpAny_field hos hds (x := .none) rfl (wpAny_bind (wpAny_listPart .none ?_))))
  rw [if_neg (by exact Bool.false_ne_true)]
  refine wpAny_bind (wpAny_field hos hds (x := vl) rfl (wpAny_bind (wpAny_listPart pl ?_)))
  refine wpAny_bind (wpAny_field hos hds (x := vu) rfl (wpAny_bind (wpAny_listPart pu (wpAny_pure ?_))))
  have same : Builtin.List.listSameRef (.ref l) (.ref b) = false := beq_eq_false_iff_ne.mpr hne
  dsimp only
  rw [same]
  simp only [Bool.false_eq_true, if_false]
  refine wpAny_bind (allItems hb ?_)
  refine wpAny_bind (itemsOf hl ?_)
  refine wpAny_bind (wpAny_of_eq (sliceIndices_raw lo hi none items.size (by simp)) ?_)
  have e2 : ((sliceBounds lo hi none items.size).2.snd == 1) = true := by rfl
  rw [e2]
  simp only [if_true]
  have e3 : Builtin.List.listTooLong (items.size + new.size) = false := by unfold Builtin.List.listTooLong; rw [decide_eq_false_iff_not]; omega
  refine wpAny_bind (wpAny_rule ?_)
  rw [e3]
  simp only [Bool.false_eq_true, if_false]
  show wpAny _ _ (updateSeq l _ >>= _) _ _ _
  have lz := laid_size items new lo hi
  obtain ⟨n', hd'⟩ := Obj.data_mapSeq hd (fun xs => xs.extract 0 (sliceBounds lo hi none items.size).1.toNat ++ new ++ xs.extract (max (sliceBounds lo hi none items.size).1 (sliceBounds lo hi none items.size).2.1).toNat xs.size)
  refine wpAny_bind (wpAny_updateSeq ho hd ?_ (by omega) (by show (laid items new lo hi).size ≤ _; omega))
  refine wpAny_bind (wpAny_letGo ?_)
  refine wpAny_pure ⟨.none, rfl, wpAny_pure (h _ ?_ (Heap.SameBut.update ..))⟩
  exact ⟨_, Heap.get?_update_self _ ho (Obj.isFreed_of_seq hd'), (Obj.cls_mapSeq ..).trans hc, n', hd'⟩
end
variable {N : Nat → Str} {G : Gl} {cs : Scope} {Φ : Cx G cs} {σ : St}
theorem IntsL.append : ∀ {l r : List Int} {vs ws : List Value}, IntsL l vs → IntsL r ws → IntsL (l ++ r) (vs ++ ws)
  | [], _, [], _, _, h => h
  | [], _, _ :: _, _, h, _ => h.elim
  | _ :: _, _, [], _, h, _ => h.elim
  | _ :: _, _, _ :: _, _, h, h' => ⟨h.1, h.2.append h'⟩
theorem laid_ints {l r : List Int} {vs ws : Array Value} {k : Nat} (hv : IntsL l vs.toList) (hw : IntsL r ws.toList) (hk : k + r.length ≤ l.length) :
    IntsL (l.take k ++ r ++ l.drop (k + r.length)) (laid vs ws (some (k : Int)) (some ((k + r.length : Nat) : Int))).toList := by
  have sv : vs.size = l.length := by rw [← Array.length_toList]; exact hv.length
  have e1 : (sliceBounds (some (k : Int)) (some ((k + r.length : Nat) : Int)) none vs.size) = ((k : Int), ((k + r.length : Nat) : Int), 1) := by
    unfold sliceBounds
    simp only [Option.getD_none]
    have a1 : ¬ ((k : Int) < 0) := by omega
    have a2 : ¬ (((k + r.length : Nat) : Int) < 0) := by omega
    have a3 : (1 : Int) > 0 := by decide
    simp only [a1, a2, a3, if_true, if_false]
    rw [show max (0 : Int) (min (k : Int) (vs.size : Int)) = k by omega, show max (0 : Int) (min ((k + r.length : Nat) : Int) (vs.size : Int)) = ((k + r.length : Nat) : Int) by omega]
  unfold laid
  rw [e1]
  simp only [Int.toNat_natCast]
  have e2 : (max (k : Int) ((k + r.length : Nat) : Int)).toNat = k + r.length := by omega
  rw [e2, Array.toList_append, Array.toList_append, Array.toList_extract, Array.toList_extract]
  refine IntsL.append (IntsL.append ?_ hw) ?_
  · simp only [List.extract_eq_take_drop, List.drop_zero, Nat.sub_zero]
    exact IntsL.of_are (hv.are.take k)
  · simp only [List.extract_eq_take_drop]
    rw [List.take_of_length_le (by simp)]
    exact IntsL.of_are (hv.are.drop _)
/-- A list's slice is replaced by a list. -/
inductive SlOk (Φ : Cx G cs) (b a : AV) (i j : Option Int) (σ : St) (Q : St → Prop) : Prop where
  | mk (y x : Addr) (l r : List Int) (k : Nat) (hp' : List (Addr × AO)) (eb : b = .ref y) (ea : a = .ref x) (ei : i = some ((k : Nat) : Int)) (ej : j = some ((k + r.length : Nat) : Int)) (hk : k + r.length ≤ l.length) (hne : y ≠ x) (hx : LstAt Φ σ x r)
    (hy : Rpl y (.ints l) (.wints (l.take k ++ r ++ l.drop (k + r.length))) σ.hp hp') (hz : 2 * l.length + r.length ≤ sizeLine) (q : Q ⟨σ.loc, hp'⟩)
/-- A slice of a list is stored, of the length that it had. -/
theorem EX1_AssignSl {o : Expr} {lo hi : Option Expr} {p np : Pos} {value : Expr} {pos : Pos} {Q : Fl → St → Prop} (hs : swapsWith value (some (.Subscript o (.Slice lo hi none p) np)) pos.line Φ.env = pure false)
    (h : EV N Φ value σ fun a σ₁ => EV N Φ o σ₁ fun b σ₂ => SP N Φ lo σ₂ fun i σ₃ => SP N Φ hi σ₃ fun j σ₄ => SlOk Φ b a i j σ₄ (Q .next)) : EX1 N Φ (.Assign [.Subscript o (.Slice lo hi none p) np] value pos) σ Q := .mk fun s S => by
  refine wpAny_Assign_Subscript (EV.k S (h.mono fun a σ₁ h₁ va s₁ ra S₁ => EV.k S₁ (h₁.mono fun b σ₂ h₂ vb s₂ rb S₂ => wpAny_Slice (wpAny_mono (h₂.run s₂ S₂) (fun vl s₃ ⟨i, σ₃, pi, S₃, h₃⟩ => wpAny_mono (h₃.run s₃ S₃) (fun vu s₄ ⟨j, σ₄, pj, S₄, ok⟩ => ?_) fun _ _ x => x) fun _ _ x => x)))) hs
  obtain ⟨y, x, l, r, k, hp', rfl, rfl, rfl, rfl, hk, hne, hx, hy, hz, q⟩ := ok
  cases ra
  cases rb
  refine wpAny_pure ?_
  obtain ⟨m, news, F, Nw, H, nd, L, os, g⟩ := id S₄
  obtain ⟨ws, hlx, hvx⟩ := hx.get F Nw H
  obtain ⟨co, h1, ⟨vs, n, h2, h4⟩, h5⟩ := H.rpl nd hy
  subst h2
  have il : s₄.heap.IsList y vs := ⟨_, (Nw _ h1).1, rfl, n, rfl⟩
  have sv : vs.size = l.length := by rw [← Array.length_toList]; exact h4.length
  have sw : ws.size = r.length := by rw [← Array.length_toList]; exact hvx.length
  have F1 := F.push { cls := .type "slice", data := .fields #[vl, vu, .none] }
  have N1 : News Φ.h₀ Φ.L (s₄.heap.push { cls := .type "slice", data := .fields #[vl, vu, .none] }) news := Nw.grown fun _ _ e => Heap.get?_push_of_some _ e
  refine setItem_slice (s := { s₄ with heap := s₄.heap.push { cls := .type "slice", data := .fields #[vl, vu, .none] } }) (il.push _) (hlx.push _) hne (Heap.IsSliceOf.new ..) pi pj (by omega) fun h' il' sb => ?_
  obtain ⟨co', e1, e2, n', e3⟩ := il'
  obtain ⟨news', U, H', kk⟩ := h5 co' ⟨e2, _, n', e3, laid_ints h4 hvx hk⟩
  obtain ⟨F', N'⟩ := Sim.changed (Φ := Φ) (s := { s₄ with heap := s₄.heap.push { cls := .type "slice", data := .fields #[vl, vu, .none] } }) F1 N1 U e1 sb
  exact ⟨.next, ⟨σ₄.loc, hp'⟩, rfl, ⟨m, news', F', N', H', by rw [kk]; exact nd, L, os, g⟩, q⟩
end
section
variable {N : Nat → Str} {G : Gl} {cs : Scope} {Φ : Cx G cs} {σ : St}
/-- A built-in type is called. -/
structure TC (N : Nat → Str) (Φ : Cx G cs) (id : String) (as : List AV) (σ : St) (Q : AV → St → Prop) : Prop where
  run : ∀ s vs, RepL as vs → Sim N Φ σ s → wpAny Φ.M Φ.A (call (.type id) vs) (fun v s' => PV N Φ Q v s') (fun _ _ => False) s
theorem EV_tcall {fn e : Expr} {rest : List Expr} {pos : Pos} {Q : AV → St → Prop} (h : EV N Φ fn σ fun a σ₁ => ∃ id, a = .known (.type id) ∧ ES N Φ (e :: rest) σ₁ fun as σ₂ => TC N Φ id as σ₂ Q)
    (hst : starEach (e :: rest) Φ.env = (false, eval e Φ.env) :: starEach rest Φ.env) (hp : (backTo pos (starEach rest Φ.env)).any (·.1) = false)
    (he : eval (.Call fn (e :: rest) [] pos) Φ.env = (do callWith pos (← eval fn Φ.env) [] (backTo pos (starEach (e :: rest) Φ.env)) (backToKw pos (keywordEach [] Φ.env)))) : EV N Φ (.Call fn (e :: rest) [] pos) σ Q := by
  refine .mk fun s S => Call_ (EV.k S (h.mono fun a σ₁ ⟨id, ea, c⟩ v s₁ ra S₁ => ?_)) he
  subst ea
  obtain ⟨rfl, _⟩ := ra
  exact callWith_type1 (wpAny_mono (c.run pos s₁ S₁) (fun vs s₂ ⟨as, σ₂, rs, S₂, q⟩ => q.run s₂ vs rs S₂) fun _ _ x => x) hst hp
/-- enumerate(list): the list's iterator and the enumerator, laid ahead. -/
theorem TC_enum {y : Addr} {l : List Int} {Q : AV → St → Prop} (hy : LstAt Φ σ y l) (h : ∀ e it, Q (.ref e) ⟨σ.loc, (e, .enum it 0) :: (it, .iter y 0) :: σ.hp⟩) : TC N Φ "enumerate" [.ref y] σ Q := by
  refine ⟨?_⟩
  rintro s vs r S
  obtain ⟨m, news, F, Nw, H, nd, L, o, g⟩ := id S
  obtain ⟨us, hl, hv⟩ := hy.get F Nw H
  obtain ⟨v, rfl, rv⟩ := r.one
  cases rv
  refine call_enumerate_list hl fun h' he hit hsz hk => ?_
  obtain ⟨oi, e1, e2, e3⟩ := hit
  refine ⟨.ref _, ⟨σ.loc, (_, .enum s.heap.objs.size 0) :: (_, .iter y 0) :: σ.hp⟩, rfl, ?_, h _ _⟩
  have F' : Fr Φ.h₀ Φ.L h' m := F.keeps hk
  have hab : @LE.le Nat _ Φ.h₀.objs.size Φ.L := F.above
  have hL : @LT.lt Nat _ Φ.L s.heap.objs.size := F.ns.lt
  refine ⟨m, (s.heap.objs.size + 1, _) :: (s.heap.objs.size, oi) :: news, F', fun p hp => ?_, ⟨⟨rfl, .none, rfl⟩, ⟨rfl, e2, e3⟩, H⟩, ?_, L, o, g⟩
  · rcases List.mem_cons.mp hp with rfl | hp
    · exact ⟨he, Nat.ne_of_gt (Nat.lt_succ_of_lt hL), Heap.get?_none_of_le (by show Φ.h₀.objs.size ≤ s.heap.objs.size + 1; omega)⟩
    · rcases List.mem_cons.mp hp with rfl | hp
      · exact ⟨e1, Nat.ne_of_gt hL, Heap.get?_none_of_le (by show Φ.h₀.objs.size ≤ s.heap.objs.size; omega)⟩
      · exact ⟨hk _ _ (Nw p hp).1, (Nw p hp).2⟩
  · have lt : ∀ p ∈ news, @LT.lt Nat _ p.1 s.heap.objs.size := fun p hp => Heap.lt_size (Nw p hp).1
    rw [List.map_cons, List.map_cons, List.nodup_cons, List.nodup_cons]
    refine ⟨fun hm => ?_, fun hm => ?_, nd⟩
    · rcases List.mem_cons.mp hm with q | q
      · exact Nat.succ_ne_self _ q
      · obtain ⟨p, hp, e⟩ := List.mem_map.mp q
        have := lt p hp
        have e : @Eq Nat p.1 (s.heap.objs.size + 1) := e
        omega
    · obtain ⟨p, hp, e⟩ := List.mem_map.mp hm
      have := lt p hp
      have e : @Eq Nat p.1 s.heap.objs.size := e
      omega
end
section
variable {N : Nat → Str} {G : Gl} {cs : Scope} {Φ : Cx G cs} {σ : St}
theorem Fr_but2 {h₀ h h' : Heap} {L e it : Addr} {m : Str → Option Value} (F : Fr h₀ L h m) (kp : ∀ b o, b ∉ [e, it] → h.get? b = some o → h'.get? b = some o) (e1 : e ≠ L) (e2 : h₀.get? e = none) (i1 : it ≠ L) (i2 : h₀.get? it = none) : Fr h₀ L h' m := by
  have nm : ∀ b, b ≠ e → b ≠ it → b ∉ [e, it] := fun b h1 h2 hm => by
    rcases List.mem_cons.mp hm with q | q
    · exact h1 q
    · exact h2 (List.mem_singleton.mp q)
  obtain ⟨oL, es, ep, hL, r⟩ := F.ns
  refine ⟨⟨oL, es, ep, kp _ _ (nm _ (Ne.symm e1) (Ne.symm i1)) hL, r⟩, fun b x q => kp _ _ (nm _ (fun z => ?_) fun z => ?_) (F.keep b x q), F.above⟩
  · subst z; rw [e2] at q; cases q
  · subst z; rw [i2] at q; cases q
/-- What one turn of an enumerator lays. -/
theorem enum_turn {s : Shared} {e it y : Addr} {i : Nat} {l : List Int} {z : Int} (hp : List (Addr × AO)) (hz : l[i]? = some z) (hy : LstAt Φ ⟨σ.loc, σ.hp⟩ y l) (S : Sim N Φ ⟨σ.loc, (e, .enum it i) :: (it, .iter y i) :: σ.hp⟩ s) {elts : List Expr} {k : Nat} {tp : Pos}
    {P : Option Value → Shared → Prop} {E : Value → Shared → Prop}
    (h : ∀ T s₁, (∀ (R : Unit → Shared → Prop) (E' : Value → Shared → Prop), (∀ s₂, Sim N Φ ⟨σ.loc, (e, .enum it (i + 1)) :: (it, .iter y (i + 1)) :: σ.hp⟩ s₂ → (∃ t vals, s₂.heap.IsTuple T vals ∧ vals = #[.int i t, vals[1]!] ∧ ∃ t', vals[1]! = .int z t') → R () s₂) → wpAny Φ.M Φ.A (letOwnedTupleGo (.Tuple elts k tp) (.ref e) (.ref T)) R E' s₁) → P (some (.ref T)) s₁) :
    wpAny Φ.M Φ.A (pyNext (.ref e)) P E s := by
  obtain ⟨m, news, F, Nw, H, nd, L, o, g⟩ := id S
  match news, H with
  | (e', co) :: (it', ci) :: news, ⟨⟨q1, old, hco⟩, ⟨q2, hc, hd⟩, H'⟩ =>
    cases q1
    cases q2
    have Pe := Nw _ (.head _)
    have Pi := Nw _ (.tail _ (.head _))
    have N' : News Φ.h₀ Φ.L s.heap news := fun p hp => Nw p (.tail _ (.tail _ hp))
    obtain ⟨us, hl, hv⟩ := hy.get (N := N) F N' H'
    rw [List.map_cons, List.map_cons, List.nodup_cons, List.nodup_cons] at nd
    have hei : e ≠ it := fun q => nd.1 (by rw [show ((e, co).1 : Addr) = it from q]; exact .head _)
    have ne : ∀ p ∈ news, p.1 ∉ [e, it] := fun p hp hm => by
      rcases List.mem_cons.mp hm with q | q
      · exact nd.1 (.tail _ (List.mem_map.mpr ⟨p, hp, q⟩))
      · exact nd.2.1 (List.mem_map.mpr ⟨p, hp, List.mem_singleton.mp q⟩)
    have apart : ∀ q : Addr, (∃ o, s.heap.get? q = some o ∧ o.cls = .type "list") → q ≠ e ∧ q ≠ it := fun q ⟨ol, a, b⟩ => ⟨fun z => by
      subst z; rw [Pe.1] at a; cases a; rw [hco] at b; exact absurd (show Value.type "enumerate" = Value.type "list" from b) (by decide), fun z => by
      subst z; rw [Pi.1] at a; cases a; rw [hc] at b; exact absurd (show Value.type "list_iterator" = Value.type "list" from b) (by decide)⟩
    obtain ⟨ol, ol1, ol2, ol3⟩ := id hl
    obtain ⟨hle, hli⟩ := apart y ⟨ol, ol1, ol2⟩
    have len : us.size = l.length := by rw [← Array.length_toList]; exact hv.length
    have hlt : i < us.size := by rw [len]; exact (List.getElem?_eq_some_iff.mp hz).1
    have W := WalksT.enumerate (prog := G.prog) (w := G.w) Φ.hhA e it y hei hle hli us
    refine W.item i s P E hlt ⟨⟨old, Pe.1.trans (congrArg some hco)⟩, ⟨ci, Pi.1, hc, hd⟩, hl⟩ fun T vals h' tk hPt hT hTup hMid kp => ?_
    refine h T _ fun R E' q => ?_
    have aT := W.apart i T h' hMid
    refine W.go elts k tp i T _ R E' hMid fun h'' hSt kp' => ?_
    obtain ⟨⟨old', he'⟩, ⟨ci', a1, a2, a3⟩, hl'⟩ := hSt
    have kk : ∀ b o, b ∉ [e, it] → s.heap.get? b = some o → h''.get? b = some o := fun b o hb x => kp' b o hb (kp b o hb x)
    refine q _ ⟨m, (e, _) :: (it, ci') :: news, Fr_but2 F kk Pe.2.1 Pe.2.2 Pi.2.1 Pi.2.2, fun p hp => ?_, ⟨⟨rfl, old', rfl⟩, ⟨rfl, a2, a3⟩, H'⟩, ?_, L, o, g⟩ ?_
    · rcases List.mem_cons.mp hp with rfl | hp
      · exact ⟨by simpa using he', Pe.2⟩
      · rcases List.mem_cons.mp hp with rfl | hp
        · exact ⟨a1, Pi.2⟩
        · exact ⟨kk _ _ (ne p hp) (N' p hp).1, (N' p hp).2⟩
    · rw [List.map_cons, List.map_cons, List.nodup_cons, List.nodup_cons]; exact nd
    · obtain ⟨t, x, hx, rfl⟩ := hPt
      obtain ⟨oT, b1, b2, b3, b4⟩ := hTup
      obtain ⟨t', e⟩ := hv.get hz
      have : x = .int z t' := by
        rw [Array.getElem?_toList, hx] at e
        exact Option.some.inj e
      exact ⟨t, _, ⟨oT, kp' _ _ aT b1, b2, b3, b4⟩, rfl, t', this⟩
/-- The two objects behind all others. -/
noncomputable def back2 (p q : Addr × AO) (l : List (Addr × AO)) : List (Addr × AO) := l ++ [p, q]
theorem back2_perm (p q : Addr × AO) (l : List (Addr × AO)) : (back2 p q l).Perm (p :: q :: l) := List.perm_append_comm
theorem enum_end {s : Shared} {e it y : Addr} {l : List Int} (hy : LstAt Φ ⟨σ.loc, σ.hp⟩ y l) (S : Sim N Φ ⟨σ.loc, (e, .enum it l.length) :: (it, .iter y l.length) :: σ.hp⟩ s) {P : Option Value → Shared → Prop} {E : Value → Shared → Prop} (h : ∀ s', Sim N Φ ⟨σ.loc, σ.hp⟩ s' → P none s') :
    wpAny Φ.M Φ.A (pyNext (.ref e)) P E s := by
  obtain ⟨m, news, F, Nw, H, nd, L, o, g⟩ := id S
  match news, H with
  | (e', co) :: (it', ci) :: news, ⟨⟨q1, old, hco⟩, ⟨q2, hc, hd⟩, H'⟩ =>
    cases q1
    cases q2
    have Pe := Nw _ (.head _)
    have Pi := Nw _ (.tail _ (.head _))
    have N' : News Φ.h₀ Φ.L s.heap news := fun p hp => Nw p (.tail _ (.tail _ hp))
    obtain ⟨us, hl, hv⟩ := hy.get (N := N) F N' H'
    rw [List.map_cons, List.map_cons, List.nodup_cons, List.nodup_cons] at nd
    have hei : e ≠ it := fun q => nd.1 (by rw [show ((e, co).1 : Addr) = it from q]; exact .head _)
    have ne : ∀ p ∈ news, p.1 ∉ [e, it] := fun p hp hm => by
      rcases List.mem_cons.mp hm with q | q
      · exact nd.1 (.tail _ (List.mem_map.mpr ⟨p, hp, q⟩))
      · exact nd.2.1 (List.mem_map.mpr ⟨p, hp, List.mem_singleton.mp q⟩)
    have apart : ∀ q : Addr, (∃ o, s.heap.get? q = some o ∧ o.cls = .type "list") → q ≠ e ∧ q ≠ it := fun q ⟨ol, a, b⟩ => ⟨fun z => by
      subst z; rw [Pe.1] at a; cases a; rw [hco] at b; exact absurd (show Value.type "enumerate" = Value.type "list" from b) (by decide), fun z => by
      subst z; rw [Pi.1] at a; cases a; rw [hc] at b; exact absurd (show Value.type "list_iterator" = Value.type "list" from b) (by decide)⟩
    obtain ⟨ol, ol1, ol2, ol3⟩ := id hl
    obtain ⟨hle, hli⟩ := apart y ⟨ol, ol1, ol2⟩
    have len : us.size = l.length := by rw [← Array.length_toList]; exact hv.length
    have W := WalksT.enumerate (prog := G.prog) (w := G.w) Φ.hhA e it y hei hle hli us
    refine W.done s P E (by rw [len]; exact ⟨⟨old, Pe.1.trans (congrArg some hco)⟩, ⟨ci, Pi.1, hc, hd⟩, hl⟩) fun h' tk kk => ?_
    exact h _ ⟨m, news, Fr_but2 F kk Pe.2.1 Pe.2.2 Pi.2.1 Pi.2.2, fun p hp => ⟨kk _ _ (ne p hp) (N' p hp).1, (N' p hp).2⟩, H', nd.2.2, L, o, g⟩
inductive ForEOk (N : Nat → Str) (Φ : Cx G cs) (W : Addr × AO → Addr × AO → List (Addr × AO) → List (Addr × AO)) (elts : List Expr) (body : List Stmt) (Q : Fl → St → Prop) (a : AV) (σ₁ : St) : Prop where
  | mk (e it y : Addr) (l : List Int) (σ₀ : St) (ea : a = .ref e) (e1 : σ₁ = ⟨σ₀.loc, (e, .enum it 0) :: (it, .iter y 0) :: σ₀.hp⟩) (I : Nat → St → Prop) (i0 : I 0 σ₀) (hI : ∀ i σ, I i σ → LstAt Φ σ y l) (hend : ∀ σ, I l.length σ → Q .next σ)
    (turn : ∀ i (z : Int) σ, l[i]? = some z → I i σ → AI N Φ elts [.int i, .int z] ⟨σ.loc, W (e, .enum it (i + 1)) (it, .iter y (i + 1)) σ.hp⟩ fun σ' => EX N Φ body σ' (TurnEnd (W (e, .enum it (i + 1)) (it, .iter y (i + 1))) Q (I (i + 1))))
/-- for a, b in enumerate(xs). -/
theorem EX1_ForE {elts : List Expr} {kk : Nat} {tp : Pos} {iter : Expr} {body : List Stmt} {pos : Pos} {Q : Fl → St → Prop} (W : Addr × AO → Addr × AO → List (Addr × AO) → List (Addr × AO)) (hW : ∀ p q l, (W p q l).Perm (p :: q :: l))
    (hf : ∀ x, foldedSetIterable iter Φ.env x = pure x) (hn : (assignEach elts Φ.env).length = 2) (hstar : (assignEach elts Φ.env).findIdx? (·.1) = none)
    (h : EV N Φ iter σ fun a σ₁ => ForEOk N Φ W elts body Q a σ₁) :
    EX1 N Φ (.For (.Tuple elts kk tp) iter body [] pos) σ Q := .mk fun s S => by
  refine wpAny_For (EV.k S (h.mono fun a σ₁ ok v s₁ r S₁ => ?_)) hf
  obtain ⟨e, it, y, l, σ₀, rfl, rfl, I, i0, hI, hend, turn⟩ := ok
  cases r
  have he : ∃ old, IsEnum s₁.heap e it 0 old := by
    obtain ⟨m, news, F, Nw, H, nd, L, o, g⟩ := id S₁
    match news, H with
    | (e', co) :: news, ⟨⟨q1, old, hco⟩, _⟩ => cases q1; exact ⟨old, (Nw _ (.head _)).1.trans (congrArg some hco)⟩
  obtain ⟨old, he⟩ := he
  refine wpAny_pyIter_enum he ?_
  have no : ∀ {α : Type} {t : Sem α} {P : α → Shared → Prop} {s : Shared}, wpAny Φ.M Φ.A t P (fun _ _ => False) s → wpAny Φ.M Φ.A t P (notedBy Φ.M Φ.A Φ.env fun _ _ => False) s := fun h => wpAny_mono h (fun _ _ x => x) fun _ _ x => x.elim
  refine codeAny_mono (codeAny_forLoop_any (R := fun r s' => match r with | .ok f => PF N Φ Q f s' | .error _ => False)
    (fun n s' => ∃ i σ', n + i = l.length + 1 ∧ i ≤ l.length ∧ I i σ' ∧ Sim N Φ ⟨σ'.loc, (e, .enum it i) :: (it, .iter y i) :: σ'.hp⟩ s') (fun n s' ⟨i, σ', en, hi, ii, S'⟩ => ?_) (l.length + 1) ⟨0, σ₀, by omega, Nat.zero_le _, i0, S₁⟩) fun r s' q => ?_
  · by_cases hie : i = l.length
    · subst hie
      exact enum_end (hI _ σ' ii) S' fun s'' S'' => no (wpAny_execs_nil ⟨.next, σ', rfl, S'', hend σ' ii⟩)
    · have hlt : i < l.length := by omega
      have hz : l[i]? = some l[i] := List.getElem?_eq_getElem hlt
      refine enum_turn (elts := elts) (k := kk) (tp := tp) σ'.hp hz (hI _ σ' ii) S' fun T s₂ go => ?_
      refine no (go _ _ fun s₃ S₃ ⟨t, vals, ht, ev, t', ez⟩ => ?_)
      have sz : vals.size = 2 := by rw [ev]; rfl
      refine no (wpAny_assign_Tuple Φ.hhA ht (by rw [hn, sz]) hstar fun h' eb => ?_)
      have kp : ∀ b o, s₃.heap.get? b = some o → h'.get? b = some o := fun b o x => eb b o (Nat.ne_of_lt (Heap.lt_size x)) x
      have S₄ : Sim N Φ ⟨σ'.loc, (e, .enum it (i + 1)) :: (it, .iter y (i + 1)) :: σ'.hp⟩ { s₃ with heap := h' } := by
        obtain ⟨m, news, F, Nw, H, nd, L, o, g⟩ := id S₃
        exact ⟨m, news, F.keeps kp, Nw.grown kp, H, nd, L, o, g⟩
      have S₅ := Sim.perm (hp' := W (e, .enum it (i + 1)) (it, .iter y (i + 1)) σ'.hp) (hW _ _ _).symm S₄
      have rv : RepL [.int i, .int l[i]] vals.toList := by
        rw [ev]
        exact ⟨⟨t, rfl⟩, ⟨t', ez⟩, trivial⟩
      refine wpAny_mono ((turn i _ σ' hz ii).run _ _ rv S₅) (fun _ s₅ ⟨σ₅, S₅, q₅⟩ => no (wpAny_mono (q₅.run s₅ S₅) (fun f s₆ ⟨fl, σ₆, rf, S₆, q₆⟩ => ?_) fun _ _ x => x)) fun _ _ x => x
      cases fl with
      | next =>
        cases rf
        obtain ⟨σ₇, e7, i7⟩ := q₆
        subst e7
        exact ⟨l.length - i, by omega, i + 1, σ₇, by omega, hlt, i7, Sim.perm (σ := ⟨σ₇.loc, W (e, .enum it (i + 1)) (it, .iter y (i + 1)) σ₇.hp⟩) (hW _ _ _) S₆⟩
      | cont =>
        cases rf
        obtain ⟨σ₇, e7, i7⟩ := q₆
        subst e7
        exact ⟨l.length - i, by omega, i + 1, σ₇, by omega, hlt, i7, Sim.perm (σ := ⟨σ₇.loc, W (e, .enum it (i + 1)) (it, .iter y (i + 1)) σ₇.hp⟩) (hW _ _ _) S₆⟩
      | brk => cases rf; exact ⟨.next, σ₆, rfl, S₆, q₆⟩
      | ret u => obtain ⟨z, rfl, rz⟩ := rf; exact ⟨.ret u, σ₆, ⟨z, rfl, rz⟩, S₆, q₆⟩
  · cases r with
    | ok f => exact q
    | error e => exact q.elim
end
section
variable {N : Nat → Str} {G : Gl} {cs : Scope} {Φ : Cx G cs} {σ : St}
theorem Sim.ns {s : Shared} {C : Addr} {m : Str → Option Value} (S : Sim N Φ σ s) (hm : (C, AO.ns m) ∈ σ.hp) : s.heap.Ns C m := by
  obtain ⟨m', news, F, Nw, H, nd, L, o, g⟩ := S
  obtain ⟨co, h1, es, ep, r⟩ := H.mem hm
  exact ⟨co, es, ep, (Nw _ h1).1, r⟩
/-- One object is changed. -/
theorem Sim.upd {s : Shared} {h' : Heap} {d : Addr} {o o' : AO} {hp' : List (Addr × AO)} {co' : Obj} (S : Sim N Φ σ s) (hd : Rpl d o o' σ.hp hp') (e : h'.get? d = some co') (r : ORep N o' co') (sb : Heap.SameBut d s.heap h') (t : Nat) : Sim N Φ ⟨σ.loc, hp'⟩ { s with heap := h', toks := t } := by
  obtain ⟨m, news, F, Nw, H, nd, L, os, g⟩ := S
  obtain ⟨co, h1, h2, h3⟩ := H.rpl nd hd
  obtain ⟨news', U, H', kk⟩ := h3 co' r
  obtain ⟨F', N'⟩ := Sim.changed (Φ := Φ) F Nw U e sb
  exact ⟨m, news', F', N', H', by rw [kk]; exact nd, L, os, g⟩
theorem Sim.keep {s : Shared} {h' : Heap} (S : Sim N Φ σ s) (k : ∀ b o, s.heap.get? b = some o → h'.get? b = some o) (t : Nat) : Sim N Φ σ { s with heap := h', toks := t } := by
  obtain ⟨m, news, F, Nw, H, nd, L, os, g⟩ := S
  exact ⟨m, news, F.keeps k, Nw.grown k, H, nd, L, os, g⟩
theorem Sim.base {s : Shared} (S : Sim N Φ σ s) : ∀ b o, Φ.h₀.get? b = some o → s.heap.get? b = some o := by
  obtain ⟨m, news, F, Nw, H, nd, L, os, g⟩ := S
  exact F.keep
theorem Sim.forget {s : Shared} {p : Addr × AO} {loc : List (Nat × AV)} {hp : List (Addr × AO)} (S : Sim N Φ ⟨loc, p :: hp⟩ s) : Sim N Φ ⟨loc, hp⟩ s := by
  obtain ⟨m, news, F, Nw, H, nd, L, os, g⟩ := S
  match news, H with
  | q :: news, ⟨_, H⟩ =>
    rw [List.map_cons, List.nodup_cons] at nd
    exact ⟨m, news, F, fun p hp => Nw p (.tail _ hp), H, nd.2, L, os, g⟩
theorem Sim.perm' {s : Shared} {loc : List (Nat × AV)} {hp hp' : List (Addr × AO)} (S : Sim N Φ ⟨loc, hp⟩ s) (p : hp.Perm hp') : Sim N Φ ⟨loc, hp'⟩ s := Sim.perm (σ := ⟨loc, hp⟩) p S
theorem Sim.wl {s : Shared} {D : Addr} {l : List Int} (S : Sim N Φ σ s) (hm : (D, AO.wints l) ∈ σ.hp) : ∃ vs, s.heap.IsList D vs ∧ IntsL l vs.toList := by
  obtain ⟨m', news, F, Nw, H, nd, L, o, g⟩ := S
  obtain ⟨co, h1, h2, vs, n, h3, h4⟩ := H.mem hm
  exact ⟨vs, ⟨co, (Nw _ h1).1, h2, n, h3⟩, h4⟩
/-- Two names of a comprehension's block. -/
theorem assign_two {env : Env} {na nb : Nat} {pa pb tp : Pos} {kk : Nat} {T : Addr} {x y : Value} {m : Str → Option Value} {s : Shared} {Q : Unit → Shared → Prop} {E : Value → Shared → Prop} (ht : s.heap.IsTuple T #[x, y])
    (ha : env.kindOf (N na) = some .local) (hb : env.kindOf (N nb) = some .local) (hp : (env.scope.kind == .class || (env.scope.kind == .module && env.locals != env.globals)) = false) {hpp : List (Addr × AO)} (hm : ∃ post pre, hpp = pre ++ (env.locals, AO.ns m) :: post) (S : Sim N Φ ⟨σ.loc, hpp⟩ s)
    (h : ∀ s' hpp', (∀ pre post, hpp = pre ++ (env.locals, AO.ns m) :: post → hpp' = pre ++ (env.locals, AO.ns (fun z => if z = N nb then some y else if z = N na then some x else m z)) :: post) → Sim N Φ ⟨σ.loc, hpp'⟩ s' → Q () s') :
    wpAny Φ.M Φ.A (assign (.Tuple [.Name (N na) pa, .Name (N nb) pb] kk tp) env (.ref T)) Q E s := by
  refine wpAny_assign_Tuple Φ.hhA ht rfl rfl fun h₁ he₁ => ?_
  have k₁ : ∀ b o, s.heap.get? b = some o → h₁.get? b = some o := fun b o x => he₁ b o (Nat.ne_of_lt (Heap.lt_size x)) x
  have S₁ := Sim.keep (h' := h₁) S k₁ s.toks
  obtain ⟨post, pre, rfl⟩ := hm
  have rpl : ∀ (a b : AO) (pre : List (Addr × AO)), Rpl env.locals a b (pre ++ (env.locals, a) :: post) (pre ++ (env.locals, b) :: post) := fun a b pre => by
    induction pre with
    | nil => exact .head
    | cons p r ih => exact .tail ih
  have hn₁ : h₁.Ns env.locals m := Sim.ns S₁ (by simp)
  show wpAny _ _ (assignInOrder [assign (.Name (N na) pa) env, assign (.Name (N nb) pb) env] [x, y]) _ _ _
  refine assignInOrder_cons ?_
  refine wpAny_assign_Name (wpAny_storeName_local ha hn₁ (fun h₂ hn₂ hs₂ => ?_) hp)
  obtain ⟨o₂, es₂, ep₂, g₂, r₂⟩ := id hn₂
  have S₂ := Sim.upd (o' := .ns _) S₁ (rpl _ _ pre) g₂ ⟨es₂, ep₂, r₂⟩ hs₂ (s.toks + 1)
  refine assignInOrder_cons ?_
  refine wpAny_assign_Name (wpAny_storeName_local hb hn₂ (fun h₃ hn₃ hs₃ => ?_) hp)
  obtain ⟨o₃, es₃, ep₃, g₃, r₃⟩ := id hn₃
  have S₃ := Sim.upd (o' := .ns _) S₂ (rpl _ _ pre) g₃ ⟨es₃, ep₃, r₃⟩ hs₃ (s.toks + 1 + 1)
  refine assignInOrder_nil (h _ _ (fun pre' post' e => ?_) S₃)
  have nodup : ∀ (a b c d : List (Addr × AO)) (u v : AO), a ++ (env.locals, u) :: b = c ++ (env.locals, u) :: d → (∀ p ∈ b, p.1 ≠ env.locals) → (∀ p ∈ d, p.1 ≠ env.locals) → a ++ (env.locals, v) :: b = c ++ (env.locals, v) :: d := by
    intro a
    induction a with
    | nil =>
      intro b c d u v e h1 h2
      cases c with
      | nil => simp only [List.nil_append, List.cons.injEq, true_and] at e ⊢; exact e
      | cons p c =>
        simp only [List.nil_append, List.cons_append, List.cons.injEq] at e
        obtain ⟨rfl, e⟩ := e
        exact absurd rfl (h1 (env.locals, u) (by rw [e]; simp))
    | cons p a ih =>
      intro b c d u v e h1 h2
      cases c with
      | nil =>
        simp only [List.nil_append, List.cons_append, List.cons.injEq] at e
        obtain ⟨rfl, e⟩ := e
        exact absurd rfl (h2 (env.locals, u) (by rw [← e]; simp))
      | cons q c =>
        simp only [List.cons_append, List.cons.injEq] at e ⊢
        exact ⟨e.1, ih b c d u v e.2 h1 h2⟩
  have keys : ∀ (c d : List (Addr × AO)), pre ++ (env.locals, AO.ns m) :: post = c ++ (env.locals, AO.ns m) :: d → ∀ p ∈ d, p.1 ≠ env.locals := fun c d e p hp q => by
    obtain ⟨m', news, F, Nw, H, nd, L, os, g⟩ := id S
    have K := H.keys
    rw [← K] at nd
    have nd : ((c ++ (env.locals, AO.ns m) :: d).map (·.1)).Nodup := e ▸ nd
    rw [List.map_append, List.map_cons, List.nodup_append] at nd
    have := (List.nodup_cons.mp nd.2.1).1
    exact this (List.mem_map.mpr ⟨p, hp, q⟩)
  exact nodup _ _ _ _ _ _ e (keys pre post rfl) (keys pre' post' e)
theorem comp_loop {elt target iter : Expr} {scope : Scope} {pos : Pos} {it acc : Value} {env : Env} {R : Result → Shared → Prop} {s : Shared} (I : Nat → Shared → Prop)
    (turn : ∀ n s, I n s → wpAny Φ.M Φ.A (pyNext it) (fun r s₁ => match r with
      | none => R (.ok .next) s₁
      | some v => wpAny Φ.M Φ.A (letOwnedTupleGo target it v) (fun _ s₀ => wpAny Φ.M Φ.A (assign target env v) (fun _ s₂ =>
          wpAny Φ.M Φ.A (eval elt env) (fun x s₄ => wpAny Φ.M Φ.A (call (.builtin "list.append") [acc, x]) (fun _ s₅ => ∃ m, m < n ∧ I m s₅) (fun _ _ => False) s₄) (fun _ _ => False) s₂) (fun _ _ => False) s₀) (fun _ _ => False) s₁) (fun _ _ => False) s)
    (n : Nat) (h : I n s) : codeAny Φ.M Φ.A (.compLoop (.ListComp elt [⟨target, iter, [], 0⟩] scope pos) 0 it acc env) R s := by
  have no : ∀ {α : Type} {t : Sem α} {P P' : α → Shared → Prop} {E : Value → Shared → Prop} {s : Shared}, wpAny Φ.M Φ.A t P (fun _ _ => False) s → (∀ a s', P a s' → P' a s') → wpAny Φ.M Φ.A t P' E s := fun h k => wpAny_mono h k fun _ _ x => x.elim
  refine codeAny_loop rfl I (fun n s hI => ?_) n h
  show wpAny _ _ ((compTurn (.ListComp elt [⟨target, iter, [], 0⟩] scope pos) 0 it acc env).onRaise (fun x => do noteFrame x env; theTreesLotGoes x)) _ _ s
  refine wpAny_noted ?_
  rw [compTurn_list1]
  refine wpAny_bind (wpAny_standAt (wpAny_bind (no (turn n s hI) fun r s₁ h₁ => ?_)))
  cases r with
  | none => exact wpAny_pure h₁
  | some v =>
    refine wpAny_bind (no h₁ fun _ s₀ h₀ => wpAny_bind (no h₀ fun _ s₂ h₂ => ?_))
    exact wpAny_bind (wpAny_bind (no h₂ fun x s₄ h₄ => wpAny_bind (no h₄ fun _ s₅ h₅ => wpAny_pure (wpAny_pure ⟨rfl, h₅⟩))))
theorem IntsL.snoc {l : List Int} {vs : List Value} {z : Int} {t : Tok} (h : IntsL l vs) : IntsL (l ++ [z]) (vs ++ [.int z t]) := h.append ⟨⟨t, rfl⟩, trivial⟩
/-- What a comprehension's list holds behind i turns. -/
noncomputable def enumd (f : Nat → Int → Int) (l : List Int) : Nat → List Int
  | 0 => []
  | i + 1 => match l[i]? with
    | some z => enumd f l i ++ [f i z]
    | none => enumd f l i
theorem enumd_length (f : Nat → Int → Int) (l : List Int) : ∀ i, i ≤ l.length → (enumd f l i).length = i
  | 0, _ => rfl
  | i + 1, h => by
    have hz : l[i]? = some l[i] := List.getElem?_eq_getElem (by omega)
    simp only [enumd, hz, List.length_append, List.length_singleton]
    rw [enumd_length f l i (by omega)]
theorem enumd_get (f : Nat → Int → Int) (l : List Int) : ∀ i k z, i ≤ l.length → k < i → l[k]? = some z → (enumd f l i)[k]? = some (f k z)
  | 0, k, z, _, h, _ => by omega
  | i + 1, k, z, h, hk, e => by
    have hz : l[i]? = some l[i] := List.getElem?_eq_getElem (by omega)
    have hl := enumd_length f l i (by omega)
    simp only [enumd, hz]
    by_cases hki : k < i
    · rw [List.getElem?_append_left (by omega)]
      exact enumd_get f l i k z (by omega) hki e
    · obtain rfl : k = i := by omega
      rw [List.getElem?_append_right (by omega), hl, Nat.sub_self]
      rw [hz] at e
      cases e
      rfl
end
section
variable {N : Nat → Str} {G : Gl} {cs : Scope} {Φ : Cx G cs} {σ : St}
/-- The values of keyword arguments. -/
structure KW (N : Nat → Str) (Φ : Cx G cs) (kws : List Keyword) (σ : St) (Q : List AV → St → Prop) : Prop where
  run : ∀ pos s, Sim N Φ σ s → wpAny Φ.M Φ.A (evalAll ((backToKw pos (keywordEach kws Φ.env)).map (·.2))) (fun vs s' => PVL N Φ Q vs s') (fun _ _ => False) s
theorem KW_nil {Q : List AV → St → Prop} (h : Q [] σ) : KW N Φ [] σ Q := .mk fun pos s S => wpAny_pure ⟨[], σ, trivial, S, h⟩
theorem KW_cons {n : Option Str} {e : Expr} {kp : Pos} {rest : List Keyword} {Q : List AV → St → Prop} (h : EV N Φ e σ fun a σ₁ => KW N Φ rest σ₁ fun as σ₂ => Q (a :: as) σ₂) : KW N Φ (⟨n, e, kp⟩ :: rest) σ Q := .mk fun pos s S => by
  show wpAny _ _ (evalAll ((do let v ← eval e Φ.env; standAt pos; pure v) :: ((backToKw pos (keywordEach rest Φ.env)).map (·.2)))) _ _ s
  refine wpAny_evalAll_cons (wpAny_bind (EV.k S (h.mono fun a σ₁ q v s₁ r S₁ => wpAny_bind (wpAny_standAt (wpAny_pure ?_)))))
  exact wpAny_mono (q.run pos s₁ S₁) (fun vs s₂ ⟨as, σ₂, rs, S₂, q₂⟩ => ⟨a :: as, σ₂, ⟨r, rs⟩, S₂, q₂⟩) fun _ _ x => x
/-- A function of the text's, called from below a frame. -/
theorem call_under {A : Around} {f : Addr} {args : Args} {as : List AV} {vs : List Value} {s : Shared} {P : AV → St → Prop} {name qual : Str} {params : Arguments} {body : List Stmt} {scope : Scope} {dV kV doc pm cdv ct oc : Value} {an od : Option Addr} {osl : Array (Option Value)} {ns : List Nat} (hN : NOk N)
    (hA : A.frames = some (Φ.env :: Φ.outer)) (hhd : A.handled = none) (hu : A.units ≤ 3 * A.depth + 4)
    (ho : G.K.lookup f = some ⟨oc, od, .func (fnOf name qual params body scope dV kV doc pm an cdv ct), osl⟩) (hcd : codeIn G.K cdv qual = true) (hroom : A.depth < recursionLimit)
    (S : Sim N Φ σ s) (r : RepL as vs)
    (hbind : BindsTo s (fnOf name qual params body scope dV kV doc pm an cdv ct) args ((ns.map N).zip vs))
    (hloc : ∀ n ∈ ns, scope.names.lookup (N n) = some .local) (hnd : ns.Nodup)
    (hco : scope.isCoroutine = false) (hgen : scope.isGenerator = false) (hk : scope.kind = .function) (hcell : ∀ x ∈ scope.names, x.2 ≠ .cell)
    (h : ∀ Φ' : Cx G scope, Φ'.A.depth = A.depth + 1 → EX N Φ' body ⟨ns.zip as, σ.hp⟩ fun fl σ' => P (retv fl) ⟨σ.loc, σ'.hp⟩) :
    codeAny Φ.M A (.call (.ref f) args) (fun r s' => PC N Φ P r s') s := by
  obtain ⟨m, news, F, Nw, H, nd, L, o, g⟩ := id S
  have nN : (((ns.map N).zip vs).map (·.1)).Nodup := (map_fst_zip _ _).nodup (List.pairwise_map.mpr (List.Pairwise.imp (fun ne e => ne (hN.inj _ _ e)) hnd))
  refine code_def Φ.B F Φ.X Nw Φ.T hA rfl Φ.kind ho hcd hroom hbind (fun y hy => ?_) (fun g' L' h₁ FG F' N' B' X' T' => ?_) hco hgen hk hcell
  · have := (map_fst_zip (ns.map N) vs).subset (List.mem_map_of_mem hy)
    obtain ⟨n, hn, e⟩ := List.mem_map.mp this
    rw [← e]; exact hloc n hn
  · let Φ' : Cx G scope := ⟨A, Φ.base, Φ.env :: Φ.outer, g', L', qual, f, cdv, B', X', T', hk, hhd, hu⟩
    have S' : Sim N Φ' ⟨ns.zip as, σ.hp⟩ { s with heap := h₁, toks := s.toks + ((ns.map N).zip vs).length } := by
      refine ⟨_, news, F', N', H, nd, fun k v e => ?_, o, g⟩
      obtain ⟨c, hc, rc⟩ := lookup_zip r k v e
      refine ⟨⟨c, lookup_reverse nN (lookup_names hN hc), rc⟩, ?_⟩
      have : k ∈ ns := by
        refine Classical.byContradiction fun hn => ?_
        have : (ns.zip as).lookup k = none := by
          rw [List.lookup_eq_none_iff]
          intro q hq
          refine bne_iff_ne.mpr fun z => hn ?_
          rw [z]
          exact (map_fst_zip ns as).subset (List.mem_map.mpr ⟨q, hq, rfl⟩)
        rw [this] at e
        cases e
      exact hloc k this
    refine wpAny_mono ((h Φ' rfl).run _ S') (fun fl s' ⟨a, σ', ra, S'', q⟩ => ?_) fun _ _ x => x.elim
    obtain ⟨m'', news'', F'', N'', H'', nd'', _, o'', g''⟩ := S''
    refine leaveK_ F'' N'' fun Fb Nb => ?_
    refine ⟨_, retv a, ⟨σ.loc, σ'.hp⟩, rfl, ?_, ⟨m, news'', Fb, Nb, H'', nd'', L, o'', g''⟩, q⟩
    cases a with
    | next => cases ra; exact rfl
    | brk => cases ra; exact rfl
    | cont => cases ra; exact rfl
    | ret v => obtain ⟨u, rfl, ru⟩ := ra; exact ru
/-- An object is made, its arguments by keywords. -/
theorem EV_new {fn : Expr} {kws : List Keyword} {pos : Pos} {C fI : Addr} {kn : List Str} {Q : AV → St → Prop} {name qual : Str} {params : Arguments} {body : List Stmt} {scope : Scope} {dV kV doc pm cdv ct oc : Value} {an od : Option Addr} {osl : Array (Option Value)} {ns : List Nat} (hN : NOk N)
    (hkeep : keepIn G.K (.ref C) = true) (hm : makesIn G.K C = true) (hi : findIn G.K (.ref C) "__init__" = some (some (.ref fI))) (hf : isFn G.K (.ref fI) = true)
    (ho : G.K.lookup fI = some ⟨oc, od, .func (fnOf name qual params body scope dV kV doc pm an cdv ct), osl⟩) (hcd : codeIn G.K cdv qual = true) (hroom : Φ.A.depth + 1 < recursionLimit)
    (hbind : ∀ (s : Shared) v vs, G.K.In s.heap → vs.length = kws.length → BindsTo s (fnOf name qual params body scope dV kV doc pm an cdv ct) ⟨[v], kn.zip vs⟩ ((ns.map N).zip (v :: vs)))
    (hkn : (backToKw pos (keywordEach kws Φ.env)).filterMap (·.1) = kn) (hlen : ∀ as : List AV, ∀ vs, RepL as vs → as.length = kws.length → vs.length = kws.length)
    (hall : (backToKw pos (keywordEach kws Φ.env)).all (·.1.isSome) = true) (hplain : ((backTo pos (starEach [] Φ.env)).any (·.1) || (backToKw pos (keywordEach kws Φ.env)).any (·.1.isNone)) = false)
    (hloc : ∀ n ∈ ns, scope.names.lookup (N n) = some .local) (hnd : ns.Nodup)
    (hco : scope.isCoroutine = false) (hgen : scope.isGenerator = false) (hk : scope.kind = .function) (hcell : ∀ x ∈ scope.names, x.2 ≠ .cell)
    (he : eval (.Call fn [] kws pos) Φ.env = (do callWith pos (← eval fn Φ.env) [] (backTo pos (starEach [] Φ.env)) (backToKw pos (keywordEach kws Φ.env))))
    (h : EV N Φ fn σ fun a σ₁ => a = .ref C ∧ KW N Φ kws σ₁ fun as σ₂ => as.length = kws.length ∧ ∀ x dx, ∀ Φ' : Cx G scope, Φ'.A.depth = Φ.A.depth + 2 →
      EX N Φ' body ⟨ns.zip (.ref x :: as), (x, .inst C dx) :: (dx, .dict []) :: σ₂.hp⟩ fun fl σ' => retv fl = .none ∧ Q (.ref x) ⟨σ₂.loc, σ'.hp⟩) : EV N Φ (.Call fn [] kws pos) σ Q := by
  refine .mk fun _ S => ?_
  rw [he]
  refine wpAny_bind (EV.k S (h.mono fun a σ₁ ⟨ea, c⟩ v s₁ ra S₁ => ?_))
  subst ea
  cases ra
  refine callWith_KW0 Φ.X hkeep hall (wpAny_mono (c.run pos s₁ S₁) (fun vs s₂ ⟨as, σ₂, r, S₂, hal, c₂⟩ => ?_) fun _ _ x => x) hplain
  obtain ⟨m, news, F, Nw, H, nd, L, o, g⟩ := id S₂
  refine ⟨Φ.X.keeps F.keep, ?_⟩
  rw [hkn]
  refine call_cls F Φ.X Nw hm hi hf fun x dx h' F' N' lt lt' => ?_
  have S₃ : Sim N Φ ⟨σ₂.loc, (x, .inst C dx) :: (dx, .dict []) :: σ₂.hp⟩ { s₂ with heap := h' } := by
    refine ⟨m, _, F', N', ⟨⟨rfl, rfl⟩, ⟨rfl, [], 0, rfl, rfl, rfl, fun k => rfl⟩, H⟩, ?_, L, o, g⟩
    rw [List.map_cons, List.map_cons, List.nodup_cons, List.nodup_cons]
    refine ⟨fun hm => ?_, fun hm => ?_, nd⟩
    · rcases List.mem_cons.mp hm with q | q
      · exact Nat.ne_of_gt lt' q
      · obtain ⟨p, hp, e⟩ := List.mem_map.mp q
        exact Nat.ne_of_lt (Nat.lt_trans (lt p hp) lt') e
    · obtain ⟨p, hp, e⟩ := List.mem_map.mp hm
      exact Nat.ne_of_lt (lt p hp) e
  have un := Φ.unA
  refine codeAny_mono (call_under (Φ := Φ) (σ := ⟨σ₂.loc, (x, .inst C dx) :: (dx, .dict []) :: σ₂.hp⟩) (A := Φ.A.under (.builtin "type.__call__" ⟨.ref C :: ([] ++ []), kn.zip vs⟩)) (as := .ref x :: as) (vs := .ref x :: vs) (P := fun a σ' => a = .none ∧ Q (.ref x) σ') hN ?_ ?_ ?_ ho hcd ?_ S₃ ⟨rfl, r⟩ (hbind _ _ _ (Φ.X.keeps F'.keep) (hlen as vs r hal)) hloc hnd hco hgen hk hcell (c₂ x dx)) ?_
  · exact Around.frames_deeper Φ.B.stack
  · exact Φ.hhA
  · show Φ.A.units + 1 ≤ 3 * (Φ.A.depth + 1) + 4
    omega
  · exact hroom
  · rintro r' s' ⟨v, a, σ', rfl, rv, S', rfl, q⟩
    cases rv
    exact ⟨rfl, .ref x, σ', rfl, S', q⟩
theorem GT_neg {y : Addr} {l : List Int} {k z : Int} {Q : AV → St → Prop} (hy : LstAt Φ σ y l) (h0 : k < 0) (h1 : -(l.length : Int) ≤ k) (h2 : -(2 ^ 63) ≤ k) (hz : l[(k + l.length).toNat]? = some z) (h : Q (.int z) σ) : GT N Φ (.ref y) (.int k) σ Q := by
  refine ⟨?_⟩
  rintro s _ _ rfl ⟨t, rfl⟩ S
  obtain ⟨m, news, F, Nw, H, nd, L, o, g⟩ := id S
  obtain ⟨vs, hl, hv⟩ := hy.get F Nw H
  have len : vs.size = l.length := by rw [← Array.length_toList]; exact hv.length
  obtain ⟨t', e⟩ := hv.get hz
  exact wpAny_getItem_list_neg hl h0 (by rw [len]; exact h1) h2 (by rw [len]; simpa using e) ⟨.int z, σ, ⟨_, rfl⟩, S, h⟩
end
section
variable {N : Nat → Str} {G : Gl} {cs : Scope} {Φ : Cx G cs} {σ : St}
/-- A comprehension over enumerate that is stored to a name as it is made. -/
theorem EX1_AssignCompE {elt iter : Expr} {nt : Nat} {np spos : Pos} {na nb : Nat} {pa pb tp pos : Pos} {kk : Nat} {scope : Scope} {Q : Fl → St → Prop} (f : Nat → Int → Int) (hN : NOk N) (hn : cs.names.lookup (N nt) = some .local)
    (hsw : swapsWith (.ListComp elt [⟨.Tuple [.Name (N na) pa, .Name (N nb) pb] kk tp, iter, [], 0⟩] scope pos) (some (.Name (N nt) np)) spos.line Φ.env = pure true)
    (hfree : ∀ y ∈ scope.names, y.2 ≠ .free) (hcell : ∀ y ∈ scope.names, y.2 ≠ .cell) (hkind : scope.kind = .function)
    (hnames : ∀ y ∈ scope.names, y.2 = .local → scope.names.lookup y.1 = some .local) (ha : scope.names.lookup (N na) = some .local) (hb : scope.names.lookup (N nb) = some .local) (hs : ∀ x, foldedSetIterable iter Φ.env x = pure x)
    (h : EV N Φ iter σ fun a σ₁ => ∃ e it y l σ₀, a = .ref e ∧ σ₁ = ⟨σ₀.loc, (e, .enum it 0) :: (it, .iter y 0) :: σ₀.hp⟩ ∧ LstAt Φ σ₀ y l ∧ l.length ≤ 1000 ∧ (∀ (i : Nat) (z : Int), l[i]? = some z → ∀ C, PE N Φ (compEnv scope C Φ.env) [(nb, .int z), (na, .int i)] elt fun b => b = .int (f i z)) ∧ ∀ q, Q .next ⟨(nt, .ref q) :: σ₀.loc, σ₀.hp ++ [(q, .wints (enumd f l l.length))]⟩) :
    EX1 N Φ (.Assign [.Name (N nt) np] (.ListComp elt [⟨.Tuple [.Name (N na) pa, .Name (N nb) pb] kk tp, iter, [], 0⟩] scope pos) spos) σ Q := .mk fun s S => by
  rw [exec_Assign_Name_used _ _ _ _ hsw]
  refine wpAny_bind (wpAny_standAt (wpAny_bind ?_))
  show wpAny _ Φ.A (do let _ ← comprehension (.ListComp elt [⟨.Tuple [.Name (N na) pa, .Name (N nb) pb] kk tp, iter, [], 0⟩] scope pos) scope Φ.env _ (newList []) false (eval iter Φ.env) (some (assign (.Name (N nt) np) Φ.env))) _ _ s
  refine wpAny_bind (wpAny_mono (wpAny_comprehension_use (Q := fun (_ : Value) s' => PF N Φ Q .next s') rfl hs hfree hkind hnames (EV.k S (h.mono fun a σ₁ ⟨e, it, y, l, σ₀, ea, e1, hy, hz, el, q⟩ v s₁ r S₁ => ?_))) (fun _ s' hq => wpAny_pure (wpAny_pure hq)) fun _ _ e => e)
  subst ea e1
  cases r
  have he : ∃ old, IsEnum s₁.heap e it 0 old := by
    obtain ⟨m, news, F, Nw, H, nd, L, o, g⟩ := id S₁
    match news, H with
    | (e', co) :: news, ⟨⟨q1, old, hco⟩, _⟩ => cases q1; exact ⟨old, (Nw _ (.head _)).1.trans (congrArg some hco)⟩
  obtain ⟨old, he⟩ := he
  refine wpAny_pyIter_enum he (wpAny_newObj_type (hd := by size_fits) ?_)
  have S₂ : Sim N Φ ⟨σ₀.loc, ((e, .enum it 0) :: (it, .iter y 0) :: σ₀.hp) ++ [(s₁.heap.objs.size, .wints [])]⟩ { s₁ with heap := s₁.heap.push { cls := .type "list", dict := none, data := .seq ([] : List Value).toArray } } :=
    Sim.fresh (ao := .wints []) (co := { cls := .type "list", dict := none, data := .seq ([] : List Value).toArray }) S₁ (fun b o x => Heap.get?_push_of_some _ x) (Heap.get?_none_of_le (Nat.le_refl _)) (Heap.get?_push_size _ rfl) ⟨rfl, _, _, rfl, trivial⟩ s₁.toks
  generalize s₁.heap.objs.size = D at S₂ ⊢
  generalize hs₂ : ({ s₁ with heap := s₁.heap.push { cls := .type "list", dict := none, data := .seq ([] : List Value).toArray } } : Shared) = s₂ at S₂ ⊢
  refine wpAny_newFunctionEnv hcell (by intro y hy; simp at hy) (fun h₁ hns₁ hsb₁ => ?_) hkind
  have k₁ : ∀ b o, s₂.heap.get? b = some o → h₁.get? b = some o := fun b o x => hsb₁.extBut b o (Nat.ne_of_lt (Heap.lt_size x)) (Heap.get?_push_of_some _ x)
  obtain ⟨oC, esC, epC, gC, rC⟩ := id hns₁
  have S₃ := Sim.fresh (h' := h₁) (ao := .ns _) (co := oC) S₂ k₁ (Heap.get?_none_of_le (Nat.le_refl _)) gC ⟨esC, epC, rC⟩ s₂.toks
  have hCl : s₂.heap.objs.size = s₂.heap.objs.size := rfl
  generalize s₂.heap.objs.size = C at S₃ hns₁ ⊢
  have S₃' : ∃ m', Sim N Φ ⟨σ₀.loc, (e, .enum it 0) :: (it, .iter y 0) :: (D, .wints (enumd f l 0)) :: (C, .ns m') :: σ₀.hp⟩ { s₂ with heap := h₁, toks := s₂.toks } := by
    refine ⟨fun x => List.lookup x ([] : List (Str × Value)).reverse, Sim.perm' S₃ ?_⟩
    show List.Perm ((e, AO.enum it 0) :: (it, AO.iter y 0) :: ((σ₀.hp ++ [(D, AO.wints [])]) ++ [(C, AO.ns _)])) _
    refine List.Perm.cons _ (List.Perm.cons _ ?_)
    rw [List.append_assoc]
    exact List.perm_append_comm
  have loop : ∀ s₄ : Shared, (∃ m', Sim N Φ ⟨σ₀.loc, (e, .enum it 0) :: (it, .iter y 0) :: (D, .wints (enumd f l 0)) :: (C, .ns m') :: σ₀.hp⟩ s₄) →
      codeAny Φ.M Φ.A (.compLoop (.ListComp elt [⟨.Tuple [.Name (N na) pa, .Name (N nb) pb] kk tp, iter, [], 0⟩] scope pos) 0 (.ref e) (.ref D) (compEnv scope C Φ.env))
        (fun r s' => match r with
          | .ok _ => wpAny Φ.M Φ.A (assign (.Name (N nt) np) Φ.env (.ref D)) (fun _ s'' => ∃ m, s''.heap.Ns C m ∧ ∀ h', Heap.SameBut C s''.heap h' → PF N Φ Q .next { s'' with heap := h' }) (fun _ _ => False) s'
          | .error x => ∃ m, s'.heap.Ns C m ∧ ∀ h', Heap.SameBut C s'.heap h' → wpAny Φ.M Φ.A (passOn "comprehension.variables-let-go" x (compEnv scope C Φ.env) : Sem Value) (fun _ s' => PF N Φ Q .next s') (fun _ _ => False) { s' with heap := h' }) s₄ := by
    intro s₄ S₄
    refine comp_loop (fun n s' => ∃ i m', n + i = l.length + 1 ∧ i ≤ l.length ∧ Sim N Φ ⟨σ₀.loc, (e, .enum it i) :: (it, .iter y i) :: (D, .wints (enumd f l i)) :: (C, .ns m') :: σ₀.hp⟩ s') (fun n s' ⟨i, m', en, hi, S'⟩ => ?_) (l.length + 1) (by obtain ⟨m', S₄⟩ := S₄; exact ⟨0, m', by omega, by omega, S₄⟩)
    have hyy : LstAt Φ ⟨σ₀.loc, (D, .wints (enumd f l i)) :: (C, .ns m') :: σ₀.hp⟩ y l := by
      rcases hy with hy | hy | hy
      · exact .inl (.tail _ (.tail _ hy))
      · exact .inr (.inl (.tail _ (.tail _ hy)))
      · exact .inr (.inr hy)
    by_cases hie : i = l.length
    · subst hie
      refine enum_end (σ := ⟨σ₀.loc, (D, .wints (enumd f l l.length)) :: (C, .ns m') :: σ₀.hp⟩) hyy S' fun s₉ S₉ => assign_Name (wpAny_mono ((SN_new (σ := ⟨σ₀.loc, (D, .wints (enumd f l l.length)) :: (C, .ns m') :: σ₀.hp⟩) (a := .ref D) (Q := fun σ' => σ' = ⟨(nt, .ref D) :: σ₀.loc, (D, .wints (enumd f l l.length)) :: (C, .ns m') :: σ₀.hp⟩) hN hn rfl).run s₉ _ rfl S₉) (fun _ s'' ⟨σ', S'', e'⟩ => ?_) fun _ _ x => x)
      subst e'
      refine ⟨m', Sim.ns S'' (by simp), fun h' sb => ?_⟩
      refine ⟨.next, ⟨(nt, .ref D) :: σ₀.loc, σ₀.hp ++ [(D, .wints (enumd f l l.length))]⟩, rfl, ?_, q D⟩
      have P : Sim N Φ ⟨(nt, .ref D) :: σ₀.loc, (C, .ns m') :: (D, .wints (enumd f l l.length)) :: σ₀.hp⟩ s'' := Sim.perm' S'' (.swap ..)
      obtain ⟨m₂, news, F, Nw, H, nd, L, o, g⟩ := P
      match news, H with
      | (C', oc) :: news, ⟨⟨q1, _⟩, H'⟩ =>
        cases q1
        have PC := Nw _ (.head _)
        rw [List.map_cons, List.nodup_cons] at nd
        have ne : ∀ p ∈ news, p.1 ≠ C := fun p hp z => nd.1 (List.mem_map.mpr ⟨p, hp, z⟩)
        obtain ⟨oL, es, ep, hL, rr⟩ := F.ns
        have S5 : Sim N Φ ⟨(nt, .ref D) :: σ₀.loc, (D, .wints (enumd f l l.length)) :: σ₀.hp⟩ { s'' with heap := h' } :=
          ⟨m₂, news, ⟨⟨oL, es, ep, (sb.2 _ (Ne.symm PC.2.1)).trans hL, rr⟩, fun b x z => (sb.2 b fun z' => by subst z'; rw [PC.2.2] at z; cases z).trans (F.keep b x z), F.above⟩, fun p hp => ⟨(sb.2 _ (ne p hp)).trans (Nw p (.tail _ hp)).1, (Nw p (.tail _ hp)).2⟩, H', nd.2, L, o, g⟩
        exact Sim.perm' S5 (List.perm_append_comm (l₁ := [_]))
    · have hlt : i < l.length := by omega
      have hz' : l[i]? = some l[i] := List.getElem?_eq_getElem hlt
      refine enum_turn (elts := [.Name (N na) pa, .Name (N nb) pb]) (k := kk) (tp := tp) (σ := ⟨σ₀.loc, (D, .wints (enumd f l i)) :: (C, .ns m') :: σ₀.hp⟩) σ₀.hp hz' hyy S' fun T s₅ go => ?_
      refine go _ _ fun s₆ S₆ ⟨t, vals, ht, ev, t', ez⟩ => ?_
      rw [ev, ez] at ht
      refine assign_two (env := compEnv scope C Φ.env) (σ := ⟨σ₀.loc, []⟩) ht ha hb (by simp [compEnv, hkind]) ⟨σ₀.hp, [_, _, _], rfl⟩ S₆ fun s₇ hpp' e7 S₇ => ?_
      obtain rfl := e7 [_, _, _] σ₀.hp rfl
      have n7 := Sim.ns S₇ (C := C) (List.mem_append_right _ (.head _))
      refine wpAny_mono ((el i _ hz' C).run s₇ _ (Sim.base S₇) n7 ?_) (fun x s₈ ⟨b, rb, kp, eb⟩ => ?_) fun _ _ x => x
      · intro j u ej
        simp only [List.lookup] at ej
        cases h1 : j == nb with
        | true =>
          rw [h1] at ej
          have := beq_iff_eq.mp h1
          subst this
          cases ej
          exact ⟨⟨_, by simp, t', rfl⟩, hb⟩
        | false =>
          rw [h1] at ej
          have n1 : N j ≠ N nb := fun z => beq_eq_false_iff_ne.mp h1 (hN.inj _ _ z)
          dsimp only at ej
          cases h2 : j == na with
          | true =>
            rw [h2] at ej
            have := beq_iff_eq.mp h2
            subst this
            cases ej
            exact ⟨⟨_, by simp [n1], t, rfl⟩, ha⟩
          | false => rw [h2] at ej; cases ej
      · subst eb
        obtain ⟨tx, rfl⟩ := rb
        obtain ⟨h8, t8, rfl, k8⟩ := kp.run
        have S₈ := Sim.keep (h' := h8) S₇ k8 t8
        obtain ⟨ys, hl8, hi8⟩ := Sim.wl S₈ (D := D) (l := enumd f l i) (by simp)
        have zy : ys.size = i := by rw [← Array.length_toList, hi8.length]; exact enumd_length f l i hi
        refine wpAny_list_append hl8 (fun h₉ hl₉ hs₉ => ?_) (by have : sizeLine = 2 ^ 24 := rfl; omega)
        obtain ⟨o9, g9, c9, n9, d9⟩ := id hl₉
        have S₉ := Sim.upd (h' := h₉) (d := D) (o := .wints (enumd f l i)) (o' := .wints (enumd f l (i + 1))) (hp' := [(e, .enum it (i + 1)), (it, .iter y (i + 1)), (D, .wints (enumd f l (i + 1)))] ++ (C, .ns _) :: σ₀.hp) S₈ (.tail (.tail .head)) g9 ⟨c9, _, n9, d9, by
          simp only [enumd, hz', Array.toList_push]
          exact IntsL.snoc hi8⟩ hs₉ t8
        exact ⟨l.length - i, by omega, i + 1, _, by omega, hlt, S₉⟩
  have := loop _ S₃'
  obtain ⟨m', S₄⟩ := S₃'
  have he' : ∃ old, IsEnum h₁ e it 0 old := by
    obtain ⟨m, news, F, Nw, H, nd, L, o, g⟩ := id S₄
    match news, H with
    | (e', co) :: news, ⟨⟨q1, old, hco⟩, _⟩ => cases q1; exact ⟨old, (Nw _ (.head _)).1.trans (congrArg some hco)⟩
  obtain ⟨old', he'⟩ := he'
  exact codeAny_compStart_list this (wpAny_pyIter_enum he' this)
end
section
variable {N : Nat → Str} {G : Gl} {cs : Scope} {Φ : Cx G cs} {σ : St}
theorem EV_USub {e : Expr} {pos : Pos} {Q : AV → St → Prop} (h : EV N Φ e σ fun a σ₁ => ∃ i, a = .int i ∧ Q (.int (-i)) σ₁) : EV N Φ (.UnaryOp .USub e pos) σ Q := .mk fun _ S =>
  UnaryOp_ (EV.k S (h.mono fun _ σ₁ h₁ _ _ ra S₁ => by
    obtain ⟨i, rfl, q⟩ := h₁
    obtain ⟨t, rfl⟩ := ra
    exact neg_int ⟨.int _, σ₁, ⟨_, rfl⟩, S₁.toks _, q⟩))
end
section
section
variable (p : Program) (n₀ : Nat) (ann : Option Value)
/-- n steps of a statement's run at the top. -/
noncomputable def Rn (w : World) (n : Nat) (s : Shared) (t : Thread) (s' : Shared) (t' : Thread) : Prop := ∀ N r, segRun treeTable p w n₀ ann 0 N s' t' = some r → segRun treeTable p w n₀ ann 0 (n + N) s t = some r
variable (g : Array GenState) (d : Drawn) (os : OsState)
/-- A tree runs to its value within n steps, whatever stands behind it. -/
structure XR {α : Type} (w : World) (n : Nat) (m : Sem α) (h : Heap) (t : Nat) (pos : Pos) (a : α) (h' : Heap) (t' : Nat) (pos' : Pos) : Prop where
  run : ∀ (K : α → Sem Fin) (H : Value → Sem Fin) (gd : Bool → Bool) (lv : List Value → List Value) (code : Code) (f : Frame) (B : List Frame), Rn p n₀ ann w n ⟨h, g, d, t, os⟩ ⟨m.wrap K H gd lv, code, pos, f :: B⟩ ⟨h', g, d, t', os⟩ ⟨K a, code, pos', f :: B⟩
end
section
variable {p : Program} {n₀ : Nat} {ann : Option Value} {g : Array GenState} {d : Drawn} {os : OsState} {w : World} {α β : Type}
theorem Rn.refl {s : Shared} {t : Thread} : Rn p n₀ ann w 0 s t s t := fun N r h => by rw [Nat.zero_add]; exact h
theorem Rn.trans {n k : Nat} {s s₁ s₂ : Shared} {t t₁ t₂ : Thread} (h : Rn p n₀ ann w n s t s₁ t₁) (h' : Rn p n₀ ann w k s₁ t₁ s₂ t₂) : Rn p n₀ ann w (n + k) s t s₂ t₂ := fun N r q => by
  rw [Nat.add_assoc]; exact h _ _ (h' _ _ q)
theorem Rn.step {s s₁ : Shared} {t t₁ : Thread} (h1 : endAt 0 t = none) (h2 : stepOk n₀ ann t = true) (h3 : step (denote treeTable) p w s t = .go s₁ t₁) : Rn p n₀ ann w 1 s t s₁ t₁ := fun N r q => by
  rw [Nat.add_comm]
  unfold segRun
  rw [h1, h2, h3]
  exact q
theorem Rn.go {n : Nat} {s s₁ : Shared} {t t₁ : Thread} (h : segGo treeTable p w n₀ ann 0 n s t = some (s₁, t₁)) : Rn p n₀ ann w n s t s₁ t₁ := fun N r q => seg_go h q
noncomputable def idle : Sem Fin → Bool
  | .pure _ => false
  | _ => true
theorem end_idle {t : Thread} (h : idle t.cur = true) : endAt 0 t = none := by
  unfold endAt
  cases h1 : (t.stack.length == 0) with
  | false => rfl
  | true =>
    cases h2 : t.cur with
    | pure f => rw [h2] at h; cases h
    | _ => rfl
variable {h h₁ h₂ : Heap} {t t₁ t₂ : Nat} {pos pos₁ pos₂ : Pos} {n k : Nat}
theorem XR.at_n {n n' : Nat} {m : Sem α} {a : α} (x : XR p n₀ ann g d os w n m h t pos a h₁ t₁ pos₁) (e : n = n') : XR p n₀ ann g d os w n' m h t pos a h₁ t₁ pos₁ := e ▸ x
theorem XR_pure {a : α} : XR p n₀ ann g d os w 0 (pure a : Sem α) h t pos a h t pos := ⟨fun _ _ _ _ _ _ _ => Rn.refl⟩
theorem XR_bind {m : Sem α} {f : α → Sem β} {a : α} {b : β} (x : XR p n₀ ann g d os w n m h t pos a h₁ t₁ pos₁) (x' : XR p n₀ ann g d os w k (f a) h₁ t₁ pos₁ b h₂ t₂ pos₂) : XR p n₀ ann g d os w (n + k) (m >>= f) h t pos b h₂ t₂ pos₂ := ⟨fun K H gd lv code fr B => by
  rw [Sem.bind_eq_wrap', Sem.wrap_wrap]
  exact (x.run (fun a => (f a).wrap K H gd lv) _ _ _ code fr B).trans (x'.run K H gd lv code fr B)⟩
theorem XR_holding {m : Sem α} {vs : List Value} {a : α} (x : XR p n₀ ann g d os w n m h t pos a h₁ t₁ pos₁) : XR p n₀ ann g d os w n (holding vs m) h t pos a h₁ t₁ pos₁ := by
  unfold holding
  split
  · exact x
  · refine ⟨fun K H gd lv code fr B => ?_⟩
    rw [Sem.keep_eq_wrap, Sem.wrap_wrap]
    exact x.run K _ _ _ code fr B
theorem XR_load {a : Addr} {q : Option Value} {o : Obj} (e : h.get? a = some o) : XR p n₀ ann g d os w 1 (.load a q .pure) h t pos o h t pos := ⟨fun K H gd lv code fr B => by
  refine Rn.step (end_idle rfl) rfl ?_
  show (match h.get? a with | some o => _ | none => _) = _
  rw [e]
  rfl⟩
theorem XR_fresh : XR p n₀ ann g d os w 1 fresh h t pos t h (t + 1) pos := ⟨fun K H gd lv code fr B => Rn.step (end_idle rfl) rfl rfl⟩
theorem XR_alloc {o : Obj} : XR p n₀ ann g d os w 1 (alloc o) h t pos h.objs.size (h.push o) t pos := ⟨fun K H gd lv code fr B => Rn.step (end_idle rfl) rfl rfl⟩
theorem XR_ask : XR p n₀ ann g d os w 1 ask h t pos ⟨p, w.params⟩ h t pos := ⟨fun K H gd lv code fr B => Rn.step (end_idle rfl) rfl rfl⟩
theorem XR_point : XR p n₀ ann g d os w 1 point h t pos () h t pos := ⟨fun K H gd lv code fr B => Rn.step (end_idle rfl) rfl rfl⟩
theorem XR_rule {x : String} : XR p n₀ ann g d os w 1 (rule x) h t pos () h t pos := ⟨fun K H gd lv code fr B => Rn.step (end_idle rfl) rfl rfl⟩
theorem XR_standAt {q : Pos} : XR p n₀ ann g d os w 1 (standAt q) h t pos () h t q := ⟨fun K H gd lv code fr B => Rn.step (end_idle rfl) rfl rfl⟩
theorem XR_update {a : Addr} {q : Option Value} {f : Obj → Obj} {o : Obj} (e : h.get? a = some o) (ha : Nat.ble n₀ a = true) : XR p n₀ ann g d os w 1 (.update a q f .pure) h t pos () (h.update a f) t pos := ⟨fun K H gd lv code fr B => by
  refine Rn.step (end_idle rfl) ?_ ?_
  · show (true && (Nat.ble n₀ a || _ || _ || _)) = true
    rw [ha]; rfl
  show (if (h.get? a).isSome = true then _ else _) = _
  rw [e]
  rfl⟩
end
end
section
section
variable {p : Program} {n₀ : Nat} {ann : Option Value} {g : Array GenState} {d : Drawn} {os : OsState} {w : World} {h : Heap} {t : Nat} {pos : Pos}
/-- Texts with their tokens. -/
noncomputable def texts : List Str → Nat → List Value
  | [], _ => []
  | x :: l, t => .str x t :: texts l (t + 1)
theorem XR_mkText {x : Str} : XR p n₀ ann g d os w 1 (mkText x) h t pos (.str x t) h (t + 1) pos := by
  unfold mkText
  refine XR.at_n (n := 1 + 0) ?_ rfl
  refine XR_bind XR_fresh ?_
  exact XR_pure
theorem XR_loop : ∀ (l : List Str) (acc : List Value) (t : Nat), XR p n₀ ann g d os w l.length (List.mapM.loop mkText l acc) h t pos (acc.reverse ++ texts l t) h (t + l.length) pos
  | [], acc, t => by
    show XR p n₀ ann g d os w 0 (pure acc.reverse) h t pos (acc.reverse ++ []) h t pos
    rw [List.append_nil]
    exact XR_pure
  | x :: l, acc, t => by
    have k := XR_loop l (.str x t :: acc) (t + 1)
    have e : (.str x t :: acc : List Value).reverse ++ texts l (t + 1) = acc.reverse ++ texts (x :: l) t := by
      rw [List.reverse_cons, List.append_assoc]; rfl
    rw [e, show t + 1 + l.length = t + (x :: l).length by rw [List.length_cons]; omega] at k
    refine XR.at_n (n := 1 + l.length) ?_ (by rw [List.length_cons, Nat.add_comm])
    refine XR_bind XR_mkText ?_
    exact k
theorem XR_texts {l : List Str} : XR p n₀ ann g d os w l.length (l.mapM mkText) h t pos (texts l t) h (t + l.length) pos := XR_loop l [] t
theorem XR_tuple {l : List Value} : XR p n₀ ann g d os w 1 (newTextTuple l) h t pos (.ref h.objs.size) (h.push { cls := .type "tuple", data := .seq l.toArray }) t pos := by
  unfold newTextTuple newObjAsIs
  refine XR.at_n (n := 1 + 0) ?_ rfl
  refine XR_bind XR_alloc ?_
  exact XR_pure
theorem XR_fields {ty : String} {l : List Value} (hz : l.length ≤ sizeLine + 2) : XR p n₀ ann g d os w 1 (newFields ty l) h t pos (.ref h.objs.size) (h.push { cls := .type ty, data := .fields l.toArray }) t pos := by
  unfold newFields newObj newObjAsIs
  refine XR.at_n (n := 1 + 0) ?_ rfl
  dsimp only
  rw [if_neg (by rw [List.size_toArray]; omega)]
  refine XR_bind XR_alloc ?_
  exact XR_pure
structure CodeCx where
  file : Str
  flags : Int
  inF : Bool
  text : Int
noncomputable def CodeCx.ctx (x : CodeCx) (env : Env) : CodeContext := { file := x.file, future := x.flags.toNat &&& (coFutureAnnotations ||| coFutureBarry), inFunction := x.inF || env.scope.kind == .function, text := x.text.toNat }
/-- The objects of a new code, from an address and a token on. -/
noncomputable def codeObjs (c : CodeContext) (name qual : Str) (line argc posc kwc flags : Nat) (fn : Bool) (v cl : List Str) (fd : FuncData) (n t : Nat) : List Obj :=
  [{ cls := .type "tuple", data := .seq #[] }, { cls := .none, data := .fields #[] }, { cls := .type "tuple", data := .seq (texts v (t + 3)).toArray }, { cls := .type "tuple", data := .seq (texts cl (t + 3 + v.length)).toArray }, { cls := .none, data := .func fd },
    { cls := .type "code", data := .fields #[.str name t, .str qual (t + 1), .str c.file (t + 2), rawInt line, rawInt argc, rawInt posc, rawInt kwc, rawInt flags, .ref n, .bool (fn || c.inFunction), rawInt c.text, .ref (n + 1), .none, .ref (n + 2), .ref (n + 3), .ref (n + 4),
      rawInt ((t + 3 + v.length + cl.length : Nat) : Int), rawInt line, .str c.file (t + 3 + v.length + cl.length + 1)] }]
noncomputable def pushAll (h : Heap) : List Obj → Heap
  | [] => h
  | o :: l => pushAll (h.push o) l
theorem XR_newCode {c : CodeContext} {name qual : Str} {line argc posc kwc flags : Nat} {fn : Bool} {v cl : List Str} {fd : FuncData} :
    XR p n₀ ann g d os w (11 + v.length + cl.length) (newCode c name qual line argc posc kwc flags [] fn none (some (v, cl)) (some fd)) h t pos (.ref (h.objs.size + 5))
      (pushAll h (codeObjs c name qual line argc posc kwc flags fn v cl fd h.objs.size t)) (t + 3 + v.length + cl.length + 1 + 1) pos := by
  unfold newCode
  refine XR.at_n (n := 1 + (1 + (1 + (0 + (1 + (1 + (v.length + (1 + (cl.length + (1 + (1 + (0 + (1 + (1 + 1)))))))))))))) ?_ (by omega)
  refine XR_bind XR_mkText ?_
  refine XR_bind XR_mkText ?_
  refine XR_bind XR_mkText ?_
  refine XR_bind (a := ([] : List Value)) XR_pure ?_
  refine XR_bind XR_tuple ?_
  refine XR_bind XR_alloc ?_
  dsimp only
  refine XR_bind XR_texts ?_
  refine XR_bind XR_tuple ?_
  refine XR_bind XR_texts ?_
  refine XR_bind XR_tuple ?_
  refine XR_bind XR_alloc ?_
  refine XR_bind XR_pure ?_
  refine XR_bind XR_fresh ?_
  refine XR_bind XR_mkText ?_
  have e := XR_fields (p := p) (n₀ := n₀) (ann := ann) (g := g) (d := d) (os := os) (w := w) (h := pushAll h ((codeObjs c name qual line argc posc kwc flags fn v cl fd h.objs.size t).take 5)) (t := t + 3 + v.length + cl.length + 1 + 1) (pos := pos) (ty := "code")
    (l := [.str name t, .str qual (t + 1), .str c.file (t + 2), rawInt line, rawInt argc, rawInt posc, rawInt kwc, rawInt flags, .ref h.objs.size, .bool (fn || c.inFunction), rawInt c.text, .ref (h.objs.size + 1), .none, .ref (h.objs.size + 2), .ref (h.objs.size + 3), .ref (h.objs.size + 4),
      rawInt ((t + 3 + v.length + cl.length : Nat) : Int), rawInt line, .str c.file (t + 3 + v.length + cl.length + 1)]) (by have : sizeLine = 2 ^ 24 := rfl; simp only [List.length_cons, List.length_nil]; omega)
  simp only [codeObjs, List.take, pushAll, Heap.size_push] at e ⊢
  exact e
end
end
section
noncomputable def plOf : List (Int × Int × Value) → List Value
  | [] => []
  | (a, b, c) :: r => rawInt a :: rawInt b :: c :: plOf r
noncomputable def plObj (l : List (Int × Int × Value)) : Obj := { cls := .none, data := .fields (plOf l).toArray }
theorem plOf_app (r : List (Int × Int × Value)) : ∀ l, plOf (l ++ r) = plOf l ++ plOf r
  | [] => rfl
  | (a, b, c) :: l => by show rawInt a :: rawInt b :: c :: plOf (l ++ r) = _; rw [plOf_app r l]; rfl
noncomputable def Away (pos : Pos) (l : List (Int × Int × Value)) : Prop := ∀ x ∈ l, ((x.1 == (pos.line : Int)) && (x.2.1 == (pos.col : Int))) = false
theorem codeAmong_none {pos : Pos} : ∀ {l : List (Int × Int × Value)}, Away pos l → codeAmong pos (plOf l) = none
  | [], _ => rfl
  | (a, b, c) :: r, h => by
    show (if ((a == (pos.line : Int)) && (b == (pos.col : Int))) = true then some c else codeAmong pos (plOf r)) = none
    rw [h _ (.head _)]
    exact codeAmong_none fun x hx => h x (.tail _ hx)
theorem codeAmong_app {pos : Pos} {v : Value} : ∀ {l : List (Int × Int × Value)}, Away pos l → codeAmong pos (plOf (l ++ [((pos.line : Int), (pos.col : Int), v)])) = some v
  | [], _ => by
    show (if (((pos.line : Int) == (pos.line : Int)) && ((pos.col : Int) == (pos.col : Int))) = true then some v else none) = some v
    rw [beq_self_eq_true, beq_self_eq_true]
    rfl
  | (a, b, c) :: r, h => by
    show (if ((a == (pos.line : Int)) && (b == (pos.col : Int))) = true then some c else codeAmong pos (plOf (r ++ _))) = some v
    rw [h _ (.head _)]
    exact codeAmong_app fun x hx => h x (.tail _ hx)
section
variable {p : Program} {n₀ : Nat} {ann : Option Value} {g : Array GenState} {d : Drawn} {os : OsState} {w : World} {h h₁ : Heap} {t t₁ n : Nat} {pos pos₀ : Pos}
theorem XR_fieldsOf {a : Addr} {o : Obj} {vs : Array Value} (e : h.get? a = some o) (hd : o.data = .fields vs) : XR p n₀ ann g d os w 1 (fieldsOf (.ref a)) h t pos vs h t pos := by
  unfold fieldsOf
  refine XR.at_n (n := 1 + 0) ?_ rfl
  refine XR_bind (XR_load e) ?_
  rw [hd]
  exact XR_pure
structure CodeAt (h : Heap) (cA pA : Addr) (x : CodeCx) (l : List (Int × Int × Value)) : Prop where
  code : ∃ oc vs ft t1 t2, h.get? cA = some oc ∧ oc.data = .fields vs ∧ vs.getD 11 .none = .ref pA ∧ vs.getD 18 .none = .str x.file ft ∧ vs.getD 7 .none = .int x.flags t1 ∧ vs.getD 9 .none = .bool x.inF ∧ vs.getD 10 .none = .int x.text t2
  places : h.get? pA = some (plObj l)
theorem XR_codeAt {env : Env} {make : CodeContext → Sem Value} {cA pA : Addr} {x : CodeCx} {l : List (Int × Int × Value)} {c : Value} (hc : env.code = .ref cA) (C : CodeAt h cA pA x l) (aw : Away pos l)
    (mk : XR p n₀ ann g d os w n (make (x.ctx env)) h t pos₀ c h₁ t₁ pos₀) (h7 : h₁.get? pA = some (plObj l)) (ha : Nat.ble n₀ pA = true)
    {h₂ : Heap} (hu : h₁.update pA (Obj.mapFields fun vs => if (codeAmong pos vs.toList).isSome then vs else vs ++ #[rawInt pos.line, rawInt pos.col, c]) = h₂) (h8 : h₂.get? pA = some (plObj (l ++ [((pos.line : Int), (pos.col : Int), c)]))) :
    XR p n₀ ann g d os w (n + 5) (codeAt env pos make) h t pos₀ c h₂ t₁ pos₀ := by
  obtain ⟨⟨oc, vs, ft, t1, t2, c1, c2, c3, c4, c5, c6, c7⟩, C2⟩ := C
  unfold codeAt
  rw [hc]
  refine XR.at_n (n := 1 + (1 + (n + ((1 + 1) + (1 + 0))))) ?_ (by omega)
  rw [if_neg (by exact Bool.false_ne_true)]
  refine XR_bind (XR_fieldsOf c1 c2) ?_
  rw [c3]
  dsimp only
  refine XR_bind (XR_fieldsOf C2 rfl) ?_
  rw [show (plOf l).toArray.toList = plOf l by simp, codeAmong_none aw]
  dsimp only
  rw [c4, c5, c6, c7]
  dsimp only
  refine XR_bind mk ?_
  have up : XR p n₀ ann g d os w (1 + 1) (updateFieldsOfTheText pA fun vs => if (codeAmong pos vs.toList).isSome then vs else vs ++ #[rawInt pos.line, rawInt pos.col, c]) h₁ t₁ pos₀ () h₂ t₁ pos₀ := by
    unfold updateFieldsOfTheText
    refine XR_bind (XR_load h7) ?_
    show XR p n₀ ann g d os w 1 (update pA _) h₁ t₁ pos₀ () h₂ t₁ pos₀
    rw [← hu]
    exact XR_update h7 ha
  refine XR_bind up ?_
  refine XR_bind (XR_fieldsOf h8 rfl) ?_
  rw [show (plOf (l ++ [((pos.line : Int), (pos.col : Int), c)])).toArray.toList = plOf (l ++ [((pos.line : Int), (pos.col : Int), c)]) by simp, codeAmong_app aw]
  exact XR_pure
theorem XR_closureFor {scope : Scope} {env : Env} (hf : scope.names.all (fun x => x.2 != .free) = true) : XR p n₀ ann g d os w 0 (closureFor scope env) h t pos [] h t pos := by
  have e : closureFor scope env = pure [] := by
    unfold closureFor
    have : ∀ (l : List (Str × NameKind)), l.all (fun x => x.2 != .free) = true → ∀ (acc : List (Str × Addr)), (forIn l acc fun x r => match x with | (name, kind) => if (kind == NameKind.free) = true then do let c ← cellOf env name; pure (ForInStep.yield ((name, c) :: r)) else pure (ForInStep.yield r)) = (pure acc : Sem _) := by
      intro l
      induction l with
      | nil => intro _ acc; rfl
      | cons x l ih =>
        intro hl acc
        rw [List.all_cons, Bool.and_eq_true] at hl
        obtain ⟨a, b⟩ := x
        have hb : (b == NameKind.free) = false := by simpa using hl.1
        rw [List.forIn_cons]
        simp only [hb, Bool.false_eq_true, if_false]
        exact ih hl.2 acc
    have := this scope.names hf []
    simp only at this ⊢
    rw [this]
    rfl
  rw [e]
  exact XR_pure
end
end
section
noncomputable abbrev hsh (w : World) (name : Str) : Int := PyData.keyHash w.params name
noncomputable def nsObj (es : List DictEntry) : Obj := { cls := .type "dict", data := .dict es.toArray es.length }
noncomputable def Fresh (name : Str) (es : List DictEntry) : Prop := ∀ e ∈ es, e.key.isStr name = false ∧ e.refKey = false
theorem putName_new {name : Str} {es : List DictEntry} {hs : Int} {key v : Value} (hf : Fresh name es) : Obj.putName name hs key v (nsObj es) = nsObj (es ++ [⟨hs, key, v⟩]) := by
  rw [Obj.putName_eq]
  show (match es.toArray.findIdx? (·.key.isStr name) with | some i => _ | none => _) = _
  have : es.toArray.findIdx? (·.key.isStr name) = none := by
    rw [Array.findIdx?_eq_none_iff]
    intro x hx
    exact (hf x (by simpa using hx)).1
  rw [this]
  unfold nsObj
  simp
theorem refKey_no {name : Str} {es : List DictEntry} (hf : Fresh name es) : aRefKeyMayBeTheName name es.toArray = false := by
  rw [aRefKeyMayBeTheName_at]
  have : es.toArray.any (·.refKey) = false := by
    rw [List.any_toArray, List.any_eq_false]
    intro x hx
    simpa using (hf x hx).2
  rw [this, Bool.and_false]
section
variable {p : Program} {n₀ : Nat} {ann : Option Value} {g : Array GenState} {d : Drawn} {os : OsState} {w : World} {h h₁ : Heap} {t t₁ n : Nat} {pos pos₀ : Pos}
theorem XR_strHash {name : Str} : XR p n₀ ann g d os w 1 (strHash name) h t pos (hsh w name) h t pos := by
  unfold strHash
  refine XR.at_n (n := 1 + 0) ?_ rfl
  refine XR_bind XR_ask ?_
  exact XR_pure
theorem XR_nsSet {a : Addr} {name : Str} {v : Value} {es : List DictEntry} (e : h.get? a = some (nsObj es)) (hf : Fresh name es) (ha : Nat.ble n₀ a = true) : XR p n₀ ann g d os w 4 (nsSet a name v) h t pos () (h.update a (Obj.putName name (hsh w name) (.str name t) v)) (t + 1) pos := by
  unfold nsSet
  refine XR.at_n (n := 1 + (1 + (1 + 1))) ?_ rfl
  refine XR_bind XR_strHash ?_
  refine XR_bind XR_mkText ?_
  refine XR_bind (XR_load e) ?_
  show XR p n₀ ann g d os w 1 (if aRefKeyMayBeTheName name es.toArray = true then _ else _) h (t + 1) pos () _ _ pos
  rw [refKey_no hf]
  simp only [Bool.false_eq_true, if_false]
  exact XR_update e ha
/-- A name of a class's block is stored. -/
theorem XR_bindName {env : Env} {name : Str} {v : Value} {es : List DictEntry} (hk : env.kindOf name = some .local) (hc : env.scope.kind = .class) (e : h.get? env.locals = some (nsObj es)) (hf : Fresh name es) (ha : Nat.ble n₀ env.locals = true) :
    XR p n₀ ann g d os w 7 (bindName env name v) h t pos () (h.update env.locals (Obj.putName name (hsh w name) (.str name t) v)) (t + 1) pos := by
  unfold bindName storeName
  rw [hk, hc]
  refine XR.at_n (n := 1 + ((1 + 4) + 1)) ?_ rfl
  refine XR_bind (XR_holding XR_point) ?_
  dsimp only
  refine XR_bind (a := ()) ?_ XR_point
  show XR p n₀ ann g d os w (1 + 4) (localSet env name v) h t pos () _ _ pos
  unfold localSet
  refine XR_bind (XR_load e) ?_
  exact XR_nsSet e hf ha
/-- What a def's statement asks for. -/
structure DefOk (env : Env) (name bind : Str) (args : Arguments) (body : List Stmt) (scope : Scope) (v cl : List Str) : Prop where
  kind : env.kindOf bind = some .local
  free : scope.names.all (fun x => x.2 != .free) = true
  names : scope.freeNames = []
  locals : localNames args scope (.stmts body) = some (v, cl)
  kwo : args.kwonlyargs = []
  kwd : args.kw_defaults = []
  doc : docOf body = none
  ann : (match args with | ⟨po, a, va, ko, _, kwa, _⟩ => annotationsOf (a ++ po ++ va.toList ++ ko ++ kwa.toList) env) = []
noncomputable def tmpl (name qual : Str) (args : Arguments) (body : List Stmt) (scope : Scope) : FuncData := { name, qualname := qual, params := args, body := .stmts body, scope, globals := builtinsNs, closure := [], defaults := .none, kwdefaults := .none }
noncomputable def dCode (x : CodeCx) (env : Env) (name bind : Str) (args : Arguments) (body : List Stmt) (scope : Scope) (pos : Pos) (v cl : List Str) (n t : Nat) : List Obj :=
  codeObjs (x.ctx env) name (qualnameIn env name bind) pos.line (args.posonlyargs.length + args.args.length) args.posonlyargs.length args.kwonlyargs.length (functionFlags args.vararg.isSome args.kwarg.isSome scope (x.ctx env)) true v cl (tmpl name (qualnameIn env name bind) args body scope) n t
noncomputable def dFunc (env : Env) (bA : Addr) (name bind : Str) (args : Arguments) (body : List Stmt) (scope : Scope) (dV pm : Value) (n : Nat) : FuncData :=
  { name, qualname := qualnameIn env name bind, params := args, body := .stmts body, scope, globals := env.globals, closure := [], closureTuple := .none, code := .ref (n + 5), builtins := bA, defaults := dV, kwdefaults := .none, annotations := none, pyModule := pm, doc := .none }
theorem XR_makeFunction {env : Env} {name bind : Str} {args : Arguments} {body : List Stmt} {scope : Scope} {v cl : List Str} {cA pA bA : Addr} {x : CodeCx} {l : List (Int × Int × Value)} {dv : List Value} {dV pm : Value} {nd : Nat} {hd h₁ h₂ : Heap} (D : DefOk env name bind args body scope v cl)
    (hc : env.code = .ref cA) (ha : Nat.ble n₀ pA = true) (aw : Away pos l)
    (xd : (dv = [] ∧ dV = .none ∧ hd = h ∧ nd = 0) ∨ (dv ≠ [] ∧ dV = .ref h.objs.size ∧ hd = h.push { cls := .type "tuple", data := .seq dv.toArray } ∧ nd = 1)) (C : CodeAt hd cA pA x l) (e1 : pushAll hd (dCode x env name bind args body scope pos v cl hd.objs.size t) = h₁) (C1 : h₁.get? pA = some (plObj l))
    (e2 : h₁.update pA (Obj.mapFields fun vs => if (codeAmong pos vs.toList).isSome then vs else vs ++ #[rawInt pos.line, rawInt pos.col, .ref (hd.objs.size + 5)]) = h₂) (C2 : h₂.get? pA = some (plObj (l ++ [((pos.line : Int), (pos.col : Int), .ref (hd.objs.size + 5))])))
    (xb : ∀ t, XR p n₀ ann g d os w 2 (builtinsFor env.globals env.builtins) h₂ t pos bA h₂ t pos) (xm : ∀ t, XR p n₀ ann g d os w 1 (nsGet env.globals "__name__") h₂ t pos (some pm) h₂ t pos) :
    XR p n₀ ann g d os w (nd + (20 + v.length + cl.length)) (makeFunction name (qualnameIn env name bind) args (.stmts body) scope env dv [] [] pos pos.line) h t pos (.ref h₂.objs.size)
      (h₂.push { cls := .type "function", data := .func (dFunc env bA name bind args body scope dV pm hd.objs.size) }) (t + 3 + v.length + cl.length + 1 + 1) pos := by
  unfold makeFunction
  rw [D.kwo]
  have code : XR p n₀ ann g d os w (11 + v.length + cl.length + 5) (functionCode env pos pos.line name (qualnameIn env name bind) args scope (.stmts body)) hd t pos (.ref (hd.objs.size + 5)) h₂ (t + 3 + v.length + cl.length + 1 + 1) pos := by
    unfold functionCode
    refine XR_codeAt hc C aw ?_ C1 ha e2 C2
    rw [D.names, D.locals, ← e1]
    exact XR_newCode
  have tail : ∀ {X : Sem Value}, X = (functionCode env pos pos.line name (qualnameIn env name bind) args scope (.stmts body) >>= fun c => builtinsFor env.globals env.builtins >>= fun b => nsGet env.globals "__name__" >>= fun m =>
      newObj (.type "function") (.func { name, qualname := qualnameIn env name bind, params := args, body := .stmts body, scope, globals := env.globals, closure := [], closureTuple := .none, code := c, builtins := b, defaults := dV, kwdefaults := .none, annotations := none, pyModule := m.getD .none, doc := .none })) →
      XR p n₀ ann g d os w (20 + v.length + cl.length) X hd t pos (.ref h₂.objs.size) (h₂.push { cls := .type "function", data := .func (dFunc env bA name bind args body scope dV pm hd.objs.size) }) (t + 3 + v.length + cl.length + 1 + 1) pos := by
    rintro _ rfl
    refine XR.at_n (n := (11 + v.length + cl.length + 5) + (2 + (1 + (1 + 0)))) ?_ (by omega)
    refine XR_bind code ?_
    refine XR_bind (xb _) ?_
    refine XR_bind (xm _) ?_
    unfold newObj newObjAsIs
    refine XR_bind XR_alloc ?_
    exact XR_pure
  have cl0 : XR p n₀ ann g d os w 0 (closureFor scope env) hd t pos [] hd t pos := XR_closureFor D.free
  rcases xd with ⟨rfl, rfl, rfl, rfl⟩ | ⟨hne, rfl, rfl, rfl⟩
  · refine XR_bind (a := Value.none) XR_pure ?_
    refine XR.at_n (n := 0 + (0 + (0 + (0 + (20 + v.length + cl.length))))) ?_ (by omega)
    refine XR_bind (a := Value.none) XR_pure ?_
    refine XR_bind (a := none) XR_pure ?_
    refine XR_bind cl0 ?_
    refine XR_bind (a := Value.none) XR_pure ?_
    refine tail ?_
    (try dsimp only)
    simp only [D.doc]
    rfl
  · rw [show dv.isEmpty = false by cases dv with | nil => exact absurd rfl hne | cons _ _ => rfl]
    simp only [Bool.false_eq_true, if_false]
    refine XR_bind XR_tuple ?_
    refine XR.at_n (n := 0 + (0 + (0 + (0 + (20 + v.length + cl.length))))) ?_ (by omega)
    refine XR_bind (a := Value.none) XR_pure ?_
    refine XR_bind (a := none) XR_pure ?_
    refine XR_bind cl0 ?_
    refine XR_bind (a := Value.none) XR_pure ?_
    refine tail ?_
    (try dsimp only)
    simp only [D.doc]
    rfl
/-- A def's statement in a class's block. -/
theorem XR_def {env : Env} {name bind : Str} {args : Arguments} {body : List Stmt} {scope : Scope} {v cl : List Str} {cA pA bA : Addr} {x : CodeCx} {l : List (Int × Int × Value)} {es : List DictEntry} {dv : List Value} {dV pm : Value} {nd ne : Nat} {ts : Option Scope} {h' hd h₁ h₂ : Heap} {t' : Nat} (D : DefOk env name bind args body scope v cl)
    (hk : env.scope.kind = .class) (hc : env.code = .ref cA) (ha : Nat.ble n₀ pA = true) (hl : Nat.ble n₀ env.locals = true) (aw : Away pos l) (fr : Fresh bind es)
    (xe : XR p n₀ ann g d os w ne (evalAll (defaultsOf args env).1) h t pos dv h' t' pos)
    (xd : (dv = [] ∧ dV = .none ∧ hd = h' ∧ nd = 0) ∨ (dv ≠ [] ∧ dV = .ref h'.objs.size ∧ hd = h'.push { cls := .type "tuple", data := .seq dv.toArray } ∧ nd = 1)) (C : CodeAt hd cA pA x l) (e1 : pushAll hd (dCode x env name bind args body scope pos v cl hd.objs.size t') = h₁) (C1 : h₁.get? pA = some (plObj l))
    (e2 : h₁.update pA (Obj.mapFields fun vs => if (codeAmong pos vs.toList).isSome then vs else vs ++ #[rawInt pos.line, rawInt pos.col, .ref (hd.objs.size + 5)]) = h₂) (C2 : h₂.get? pA = some (plObj (l ++ [((pos.line : Int), (pos.col : Int), .ref (hd.objs.size + 5))])))
    (xb : ∀ t, XR p n₀ ann g d os w 2 (builtinsFor env.globals env.builtins) h₂ t pos bA h₂ t pos) (xm : ∀ t, XR p n₀ ann g d os w 1 (nsGet env.globals "__name__") h₂ t pos (some pm) h₂ t pos)
    (en : (h₂.push { cls := .type "function", data := .func (dFunc env bA name bind args body scope dV pm hd.objs.size) }).get? env.locals = some (nsObj es)) :
    XR p n₀ ann g d os w (1 + (ne + ((nd + (20 + v.length + cl.length)) + (1 + 7)))) (exec (.FunctionDef name args body [] none [] scope ts bind pos) env) h t pos₀ .next
      ((h₂.push { cls := .type "function", data := .func (dFunc env bA name bind args body scope dV pm hd.objs.size) }).update env.locals (Obj.putName bind (hsh w bind) (.str bind (t' + 3 + v.length + cl.length + 1 + 1)) (.ref h₂.objs.size))) (t' + 3 + v.length + cl.length + 1 + 1 + 1) pos := by
  rw [arm_exec_FunctionDef]
  have en2 : (defaultsOf args env).2 = [] := by
    have h2 := D.kwd
    obtain ⟨po, a, va, ko, kwd, kwa, df⟩ := args
    dsimp only at h2
    subst h2
    rfl
  have en1 := D.ann
  unfold defStmt
  refine XR.at_n (n := 0 + (1 + ((ne + (0 + (0 + (nd + (20 + v.length + cl.length))))) + (0 + (1 + (7 + 0)))))) ?_ (by omega)
  refine XR_bind (a := ([] : List Value)) XR_pure ?_
  refine XR_bind XR_standAt ?_
  refine XR_bind (a := Value.ref h₂.objs.size) (h₁ := h₂.push { cls := .type "function", data := .func (dFunc env bA name bind args body scope dV pm hd.objs.size) }) (t₁ := t' + 3 + v.length + cl.length + 1 + 1) (pos₁ := pos) (XR_holding ?_) ?_
  rotate_right
  · refine XR_bind (a := Value.ref h₂.objs.size) XR_pure ?_
    refine XR_bind XR_standAt ?_
    refine XR_bind (XR_bindName D.kind hk en fr hl) ?_
    exact XR_pure
  refine XR_bind xe ?_
  refine XR_bind (a := ([] : List (Option Value))) (h₁ := h') (t₁ := t') (pos₁ := pos) (XR_holding ?_) ?_
  · rw [en2]
    exact XR_pure
  refine XR_holding ?_
  refine XR_bind (a := ([] : List (Str × Value))) (h₁ := h') (t₁ := t') (pos₁ := pos) ?_ ?_
  · obtain ⟨po, a, va, ko, kwd, kwa, df⟩ := args
    dsimp only at en1 ⊢
    rw [en1]
    exact XR_pure
  exact XR_makeFunction D hc ha aw xd C e1 C1 e2 C2 xb xm
end
end
section
/-- The heap while a class's block runs: what is new, the class's table, the codes' places. -/
structure CS where
  objs : List Obj
  ns : List DictEntry
  pl : List (Int × Int × Value)
structure Bs where
  A : List Obj
  x25 : Obj
  x27 : Obj
  x28 : Obj
  life : Life
noncomputable def mkH (b : Bs) (c : CS) : Heap := ⟨(b.A ++ (nsObj c.ns :: b.x25 :: plObj c.pl :: b.x27 :: b.x28 :: c.objs)).toArray, b.life⟩
theorem modify_app {α : Type} (f : α → α) : ∀ (A B : List α) (i : Nat), (A ++ B).modify (A.length + i) f = A ++ B.modify i f
  | [], B, i => by simp
  | a :: A, B, i => by
    rw [List.length_cons, show A.length + 1 + i = A.length + i + 1 by omega, List.cons_append, List.modify_succ_cons, modify_app f A B i]
    rfl
theorem isStr_str' (a b : Str) (t : Tok) : (Value.str a t).isStr b = (a == b) := rfl
theorem alive_get (x : Obj) : (match some x with | some ⟨_, _, .freed, _⟩ => none | o => o) = alive x := by
  obtain ⟨a, b, c, d⟩ := x
  cases c <;> rfl
section
variable {b : Bs} {c : CS} (hA : b.A.length = 24)
include hA
theorem mkH_size : (mkH b c).objs.size = 29 + c.objs.length := by
  unfold mkH
  simp only [List.size_toArray, List.length_append, List.length_cons, hA]
  omega
theorem mkH_at {i : Nat} : (mkH b c).objs[24 + i]? = (nsObj c.ns :: b.x25 :: plObj c.pl :: b.x27 :: b.x28 :: c.objs)[i]? := by
  unfold mkH
  rw [List.getElem?_toArray, List.getElem?_append_right (by omega), hA, Nat.add_sub_cancel_left]
theorem mkH_24 : (mkH b c).get? 24 = some (nsObj c.ns) := by
  unfold Heap.get?
  rw [show (24 : Addr) = 24 + 0 from rfl, mkH_at hA]
  rfl
theorem mkH_26 : (mkH b c).get? 26 = some (plObj c.pl) := by
  unfold Heap.get?
  rw [show (26 : Addr) = 24 + 2 from rfl, mkH_at hA]
  rfl
theorem mkH_27 (o : Obj) (h : alive b.x27 = some o) : (mkH b c).get? 27 = some o := by
  unfold Heap.get?
  rw [show (27 : Addr) = 24 + 3 from rfl, mkH_at hA]
  exact (alive_get _).trans h
theorem mkH_A {i : Nat} {o : Obj} (hi : i < 24) (h : b.A[i]?.bind alive = some o) : (mkH b c).get? i = some o := by
  unfold Heap.get? mkH
  rw [List.getElem?_toArray, List.getElem?_append_left (by omega)]
  cases q : b.A[i]? with
  | none => rw [q] at h; cases h
  | some x => rw [q] at h; exact (alive_get x).trans h
omit hA in
theorem mkH_push {o : Obj} : (mkH b c).push o = mkH b { c with objs := c.objs ++ [o] } := by
  unfold mkH Heap.push
  simp
omit hA in
theorem mkH_pushAll : ∀ (l : List Obj) (c : CS), pushAll (mkH b c) l = mkH b { c with objs := c.objs ++ l }
  | [], c => by simp [pushAll]
  | o :: l, c => by
    unfold pushAll
    rw [mkH_push, mkH_pushAll l]
    simp
theorem mkH_upd {i : Nat} {f : Obj → Obj} : (mkH b c).update (24 + i) f = ⟨(b.A ++ (nsObj c.ns :: b.x25 :: plObj c.pl :: b.x27 :: b.x28 :: c.objs).modify i f).toArray, b.life⟩ := by
  show (⟨((b.A ++ (nsObj c.ns :: b.x25 :: plObj c.pl :: b.x27 :: b.x28 :: c.objs)).toArray).modify (24 + i) f, b.life⟩ : Heap) = _
  congr 1
  rw [List.modify_toArray]
  congr 1
  rw [← hA]
  exact modify_app f _ _ _
theorem mkH_put {name : Str} {hs : Int} {key v : Value} (hf : Fresh name c.ns) : (mkH b c).update 24 (Obj.putName name hs key v) = mkH b { c with ns := c.ns ++ [⟨hs, key, v⟩] } := by
  rw [show (24 : Addr) = 24 + 0 from rfl, mkH_upd hA]
  show (⟨(b.A ++ (Obj.putName name hs key v (nsObj c.ns) :: b.x25 :: plObj c.pl :: b.x27 :: b.x28 :: c.objs)).toArray, b.life⟩ : Heap) = _
  rw [putName_new hf]
  rfl
theorem mkH_place {pos : Pos} {v : Value} (aw : Away pos c.pl) : (mkH b c).update 26 (Obj.mapFields fun vs => if (codeAmong pos vs.toList).isSome then vs else vs ++ #[rawInt pos.line, rawInt pos.col, v]) = mkH b { c with pl := c.pl ++ [((pos.line : Int), (pos.col : Int), v)] } := by
  rw [show (26 : Addr) = 24 + 2 from rfl, mkH_upd hA]
  show (⟨(b.A ++ (nsObj c.ns :: b.x25 :: Obj.mapFields _ (plObj c.pl) :: b.x27 :: b.x28 :: c.objs)).toArray, b.life⟩ : Heap) = _
  have e : Obj.mapFields (fun vs => if (codeAmong pos vs.toList).isSome then vs else vs ++ #[rawInt pos.line, rawInt pos.col, v]) (plObj c.pl) = plObj (c.pl ++ [((pos.line : Int), (pos.col : Int), v)]) := by
    show (⟨.none, none, .fields (if (codeAmong pos (plOf c.pl).toArray.toList).isSome then (plOf c.pl).toArray else (plOf c.pl).toArray ++ #[rawInt pos.line, rawInt pos.col, v]), #[]⟩ : Obj) = _
    rw [show (plOf c.pl).toArray.toList = plOf c.pl by simp, codeAmong_none aw]
    simp only [Option.isSome_none, Bool.false_eq_true, if_false]
    unfold plObj
    rw [plOf_app]
    simp [plOf]
  rw [e]
  rfl
end
/-- What the class's block stands on. -/
structure Ec where
  env : Env
  x : CodeCx
  bA : Addr
  pm : Value
  b : Bs
section
variable {p : Program} {n₀ : Nat} {ann : Option Value} {g : Array GenState} {d : Drawn} {os : OsState} {w : World}
structure EcOk (p : Program) (n₀ : Nat) (ann : Option Value) (g : Array GenState) (d : Drawn) (os : OsState) (w : World) (e : Ec) : Prop where
  n24 : Nat.ble n₀ 24 = true
  n26 : Nat.ble n₀ 26 = true
  A : e.b.A.length = 24
  kind : e.env.scope.kind = .class
  code : e.env.code = .ref 27
  locals : e.env.locals = 24
  rec27 : ∃ oc vs ft t1 t2, alive e.b.x27 = some oc ∧ oc.data = .fields vs ∧ vs.getD 11 .none = .ref 26 ∧ vs.getD 18 .none = .str e.x.file ft ∧ vs.getD 7 .none = .int e.x.flags t1 ∧ vs.getD 9 .none = .bool e.x.inF ∧ vs.getD 10 .none = .int e.x.text t2
  built : ∀ c t pos, XR p n₀ ann g d os w 2 (builtinsFor e.env.globals e.env.builtins) (mkH e.b c) t pos e.bA (mkH e.b c) t pos
  name : ∀ c t pos, XR p n₀ ann g d os w 1 (nsGet e.env.globals "__name__") (mkH e.b c) t pos (some e.pm) (mkH e.b c) t pos
variable {e : Ec} {c : CS} {t : Nat} {pos pos₀ : Pos}
theorem EcOk.codeAt (E : EcOk p n₀ ann g d os w e) : CodeAt (mkH e.b c) 27 26 e.x c.pl := by
  obtain ⟨oc, vs, ft, t1, t2, h1, r⟩ := E.rec27
  exact ⟨⟨oc, vs, ft, t1, t2, mkH_27 E.A _ h1, r⟩, mkH_26 E.A⟩
/-- What a def lays: its objects, from an address and a token on. -/
noncomputable def dObjs (e : Ec) (name bind : Str) (args : Arguments) (body : List Stmt) (scope : Scope) (pos : Pos) (v cl : List Str) (dV : Value) (n t : Nat) : List Obj :=
  dCode e.x e.env name bind args body scope pos v cl n t ++ [{ cls := .type "function", data := .func (dFunc e.env e.bA name bind args body scope dV e.pm n) }]
theorem dCode_length {x : CodeCx} {env : Env} {name bind : Str} {args : Arguments} {body : List Stmt} {scope : Scope} {pos : Pos} {v cl : List Str} {n t : Nat} : (dCode x env name bind args body scope pos v cl n t).length = 6 := rfl
theorem XR_def0 {name bind : Str} {args : Arguments} {body : List Stmt} {scope : Scope} {v cl : List Str} {ts : Option Scope} (E : EcOk p n₀ ann g d os w e) (D : DefOk e.env name bind args body scope v cl) (hd : args.defaults = []) (aw : Away pos c.pl) (fr : Fresh bind c.ns) :
    XR p n₀ ann g d os w (1 + (0 + ((0 + (20 + v.length + cl.length)) + (1 + 7)))) (exec (.FunctionDef name args body [] none [] scope ts bind pos) e.env) (mkH e.b c) t pos₀ .next
      (mkH e.b ⟨c.objs ++ dObjs e name bind args body scope pos v cl .none (29 + c.objs.length) t, c.ns ++ [⟨hsh w bind, .str bind (t + 3 + v.length + cl.length + 1 + 1), .ref (29 + c.objs.length + 6)⟩], c.pl ++ [((pos.line : Int), (pos.col : Int), .ref (29 + c.objs.length + 5))]⟩)
      (t + 3 + v.length + cl.length + 1 + 1 + 1) pos := by
  have sz := mkH_size (c := c) E.A
  have aux := XR_def (p := p) (n₀ := n₀) (ann := ann) (g := g) (d := d) (os := os) (w := w) (h := mkH e.b c) (t := t) (pos := pos) (pos₀ := pos₀) (ts := ts) (es := c.ns) (dv := []) (dV := .none) (nd := 0) (ne := 0) (h' := mkH e.b c) (t' := t) (hd := mkH e.b c) D E.kind E.code E.n26 (by rw [E.locals]; exact E.n24) aw fr
    (by rw [show (defaultsOf args e.env).1 = [] from by obtain ⟨a1, a2, a3, a4, a5, a6, a7⟩ := args; dsimp only at hd; subst hd; rfl]; exact XR_pure)
    (.inl ⟨rfl, rfl, rfl, rfl⟩) E.codeAt (mkH_pushAll _ _) (mkH_26 E.A) (mkH_place (c := { c with objs := _ }) E.A aw) (mkH_26 E.A) (E.built _ · _) (E.name _ · _) (by rw [mkH_push, E.locals]; exact mkH_24 E.A)
  rw [mkH_push, E.locals] at aux
  dsimp only at aux
  rw [mkH_put E.A (by exact fr), mkH_size E.A, mkH_size E.A] at aux
  simp only [List.length_append, List.append_assoc, dCode_length] at aux
  exact aux
end
end
section
section
variable {p : Program} {n₀ : Nat} {ann : Option Value} {g : Array GenState} {d : Drawn} {os : OsState} {w : World} {e : Ec} {c c₁ : CS} {t t₁ : Nat} {pos pos₀ pos₁ : Pos}
theorem XR_assign {name : Str} {np : Pos} {value : Expr} {v : Value} {nv : Nat} (E : EcOk p n₀ ann g d os w e) (hk : e.env.kindOf name = some .local) (fr : Fresh name c₁.ns) (hs : swapsWith value (some (.Name name np)) pos.line e.env = pure false) (hw : swappedStores [.Name name np] value e.env = pure none)
    (xv : XR p n₀ ann g d os w nv (eval value e.env) (mkH e.b c) t pos v (mkH e.b c₁) t₁ pos₁) :
    XR p n₀ ann g d os w (1 + (nv + 8)) (exec (.Assign [.Name name np] value pos) e.env) (mkH e.b c) t pos₀ .next (mkH e.b { c₁ with ns := c₁.ns ++ [⟨hsh w name, .str name t₁, v⟩] }) (t₁ + 1) np := by
  rw [arm_exec_Assign]
  refine XR.at_n (n := 1 + (0 + (nv + (0 + ((1 + 7) + 0))))) ?_ (by omega)
  refine XR_bind XR_standAt ?_
  refine XR_bind (a := false) (h₁ := mkH e.b c) (t₁ := t) (pos₁ := pos) ?_ ?_
  · show XR p n₀ ann g d os w 0 (swapsWith value (some (.Name name np)) pos.line e.env) _ _ _ _ _ _ _
    rw [hs]; exact XR_pure
  simp only [Bool.false_eq_true, if_false]
  refine XR_bind xv ?_
  refine XR_bind (a := none) (h₁ := mkH e.b c₁) (t₁ := t₁) (pos₁ := pos₁) ?_ ?_
  · rw [hw]; exact XR_pure
  show XR p n₀ ann g d os w ((1 + 7) + 0) (assignAll v [assign (.Name name np) e.env] >>= fun _ => pure Flow.next) _ _ _ _ _ _ _
  refine XR_bind (a := ()) (h₁ := mkH e.b { c₁ with ns := c₁.ns ++ [⟨hsh w name, .str name t₁, v⟩] }) (t₁ := t₁ + 1) (pos₁ := np) ?_ XR_pure
  show XR p n₀ ann g d os w (1 + 7) (assign (.Name name np) e.env v) _ _ _ _ _ _ _
  rw [arm_assign_Name]
  refine XR_bind XR_standAt ?_
  have key := XR_bindName (p := p) (n₀ := n₀) (ann := ann) (g := g) (d := d) (os := os) (w := w) (h := mkH e.b c₁) (t := t₁) (pos := np) (v := v) hk E.kind (by rw [E.locals]; exact mkH_24 E.A) fr (by rw [E.locals]; exact E.n24)
  rw [E.locals, mkH_put E.A fr] at key
  exact key
theorem XR_int {h : Heap} {i : Int} {k : Nat} {q : Pos} {env : Env} : XR p n₀ ann g d os w 1 (eval (.Constant (.int i) k q) env) h t pos (.int i t) h (t + 1) pos := by
  rw [arm_eval_Constant]
  show XR p n₀ ann g d os w 1 (mkInt i) h t pos (.int i t) h (t + 1) pos
  unfold mkInt
  refine XR.at_n (n := 1 + 0) ?_ rfl
  refine XR_bind XR_fresh ?_
  exact XR_pure
theorem XR_str {h : Heap} {x : Str} {k : Nat} {q : Pos} {env : Env} : XR p n₀ ann g d os w 1 (eval (.Constant (.str x) k q) env) h t pos (.str x t) h (t + 1) pos := by
  rw [arm_eval_Constant]
  exact XR_mkText
/-- The items of a written list. -/
structure XL (p : Program) (n₀ : Nat) (ann : Option Value) (g : Array GenState) (d : Drawn) (os : OsState) (w : World) (n : Nat) (es : List Expr) (env : Env) (h : Heap) (t : Nat) (pos : Pos) (vs : List Value) (t' : Nat) (pos' : Pos) : Prop where
  run : ∀ q, XR p n₀ ann g d os w n (spliced (backTo q (starEach es env))) h t pos vs h t' pos'
theorem XL_nil {env : Env} {h : Heap} : XL p n₀ ann g d os w 0 [] env h t pos [] t pos := ⟨fun q => XR_pure⟩
theorem XL_cons {env : Env} {h : Heap} {x : Expr} {es : List Expr} {v : Value} {vs : List Value} {n k t₂ : Nat} {pos₂ : Pos} (hx : starEach (x :: es) env = (false, eval x env) :: starEach es env) (h1 : XR p n₀ ann g d os w n (eval x env) h t pos v h t₁ pos₁) (h2 : XL p n₀ ann g d os w k es env h t₁ pos₁ vs t₂ pos₂) :
    XL p n₀ ann g d os w (n + k) (x :: es) env h t pos (v :: vs) t₂ pos₂ := ⟨fun q => by
  rw [hx]
  show XR p n₀ ann g d os w (n + k) (eval x env >>= fun v => (pure [v] >>= fun here => holding here (spliced (backTo q (starEach es env))) >>= fun r => pure (here ++ r))) h t pos (v :: vs) h t₂ pos₂
  refine XR_bind h1 ?_
  refine XR.at_n (n := 0 + (k + 0)) ?_ (by omega)
  refine XR_bind (a := [v]) XR_pure ?_
  refine XR_bind (XR_holding (h2.run q)) ?_
  exact XR_pure⟩
theorem XR_List {env : Env} {es : List Expr} {q : Pos} {vs : List Value} {n : Nat} (hz : vs.length ≤ sizeLine) (h1 : XL p n₀ ann g d os w n es env (mkH e.b c) t q vs t₁ pos₁) :
    XR p n₀ ann g d os w (1 + (n + 1)) (eval (.List es q) env) (mkH e.b c) t pos (.ref (mkH e.b c).objs.size) (mkH e.b { c with objs := c.objs ++ [{ cls := .type "list", data := .seq vs.toArray }] }) t₁ pos₁ := by
  rw [arm_eval_List]
  refine XR_bind XR_standAt ?_
  refine XR_bind (h1.run q) ?_
  unfold newList newObj newObjAsIs
  refine XR.at_n (n := 1 + 0) ?_ rfl
  dsimp only
  rw [if_neg (by rw [List.size_toArray]; omega)]
  refine XR_bind XR_alloc ?_
  rw [mkH_push]
  exact XR_pure
theorem XR_Name {x : Str} {q : Pos} {en : DictEntry} (E : EcOk p n₀ ann g d os w e) (hx : (x == ("__debug__" : Str)) = false) (hk : e.env.kindOf x = some .local) (hv : c.ns.find? (·.key.isStr x) = some en) :
    XR p n₀ ann g d os w 3 (eval (.Name x q) e.env) (mkH e.b c) t pos en.val (mkH e.b c) t q := by
  rw [arm_eval_Name]
  refine XR.at_n (n := 1 + 2) ?_ rfl
  refine XR_bind XR_standAt ?_
  rw [hx]
  simp only [Bool.false_eq_true, if_false]
  unfold loadName
  rw [E.kind, hk]
  have lg : XR p n₀ ann g d os w 2 (localGet e.env x) (mkH e.b c) t q (some en.val) (mkH e.b c) t q := by
    unfold localGet
    rw [E.locals]
    refine XR.at_n (n := 1 + (1 + 0)) ?_ rfl
    refine XR_bind (XR_load (mkH_24 E.A)) ?_
    show XR p n₀ ann g d os w (1 + 0) (nsGet 24 x) _ _ _ _ _ _ _
    unfold nsGet
    refine XR_bind (XR_load (mkH_24 E.A)) ?_
    show XR p n₀ ann g d os w 0 (match nsNameIn x.cps.size x.cps.toList c.ns.toArray.toList false with | (some e, _) => pure (some e.val) | (none, true) => _ | (none, false) => _) _ _ _ _ _ _ _
    have k1 := nsNameIn_fst x c.ns.toArray
    rw [List.find?_toArray, hv] at k1
    cases hq : nsNameIn x.cps.size x.cps.toList c.ns.toArray.toList false with
    | mk a b =>
      rw [hq] at k1
      dsimp only at k1
      subst k1
      exact XR_pure
  have bk : e.env.blockKind = .class := by unfold Env.blockKind; rw [E.kind]; rfl
  rw [bk]
  refine XR.at_n (n := 2 + 0) ?_ rfl
  exact XR_bind lg XR_pure
end
end
section
noncomputable def encL : List Nat → Nat
  | [] => 1
  | c :: l => c + 2097152 * encL l
noncomputable def enc (x : Str) : Nat := encL x.cps.toList
theorem encL_pos : ∀ l, 1 ≤ encL l
  | [] => Nat.le_refl _
  | c :: l => by have := encL_pos l; show 1 ≤ c + 2097152 * encL l; omega
theorem encL_inj : ∀ {a b : List Nat}, (∀ c ∈ a, c < 2097152) → (∀ c ∈ b, c < 2097152) → encL a = encL b → a = b
  | [], [], _, _, _ => rfl
  | [], c :: l, _, _, h => by have := encL_pos l; simp only [encL] at h; omega
  | c :: l, [], _, _, h => by have := encL_pos l; simp only [encL] at h; omega
  | c :: l, c' :: l', h1, h2, h => by
    simp only [encL] at h
    have a1 := h1 c (.head _)
    have a2 := h2 c' (.head _)
    have e1 : c = c' := by omega
    have e2 : encL l = encL l' := by omega
    rw [e1, encL_inj (fun x hx => h1 x (.tail _ hx)) (fun x hx => h2 x (.tail _ hx)) e2]
noncomputable def small (x : Str) : Bool := x.cps.toList.all fun c => Nat.blt c 2097152
theorem enc_inj {a b : Str} (h1 : small a = true) (h2 : small b = true) (h : enc a = enc b) : a = b := by
  have := encL_inj (fun c hc => Nat.blt_eq.mp (List.all_eq_true.mp h1 c hc)) (fun c hc => Nat.blt_eq.mp (List.all_eq_true.mp h2 c hc)) h
  cases a; cases b
  simp only [Str.mk.injEq]
  exact Array.toList_inj.mp this
noncomputable def bindOf : Stmt → Str
  | .FunctionDef _ _ _ _ _ _ _ _ b _ => b
  | .Assign [.Name n _] _ _ => n
  | _ => default
noncomputable def posOf : Stmt → Pos
  | .FunctionDef _ _ _ _ _ _ _ _ _ p => p
  | .Assign _ _ p => p
  | _ => default
noncomputable def endOf : Stmt → Pos
  | .FunctionDef _ _ _ _ _ _ _ _ _ p => p
  | .Assign [.Name _ p] _ _ => p
  | _ => default
noncomputable def argPlain (a : Arg) : Bool := a.annotation.isNone
noncomputable def argsPlain : Arguments → Bool
  | ⟨po, a, va, ko, kd, kwa, _⟩ => ko.isEmpty && kd.isEmpty && (a ++ po ++ va.toList ++ ko ++ kwa.toList).all argPlain
noncomputable def dfltOk : List Expr → Bool
  | [] => true
  | [.Constant .none _ _, .Constant (.int _) _ _] => true
  | _ => false
noncomputable def stB : Stmt → Bool
  | .FunctionDef _ args body [] none [] scope _ _ _ => scope.names.all (fun x => x.2 != .free) && (localNames args scope (.stmts body)).isSome && argsPlain args && (docOf body).isNone && dfltOk args.defaults
  | .Assign [.Name _ _] (.Constant (.int _) _ _) _ => true
  | .Assign [.Name _ _] (.Constant (.str _) _ _) _ => true
  | _ => false
noncomputable def vOf (args : Arguments) (body : List Stmt) (scope : Scope) : List Str := ((localNames args scope (.stmts body)).getD ([], [])).1
noncomputable def clOf (args : Arguments) (body : List Stmt) (scope : Scope) : List Str := ((localNames args scope (.stmts body)).getD ([], [])).2
/-- What a statement does. -/
noncomputable def eff (e : Ec) (w : World) : Stmt → CS × Nat → CS × Nat
  | .FunctionDef name args body _ _ _ scope _ bind pos, (c, t) => match args.defaults with
    | [.Constant .none _ _, .Constant (.int i) _ _] =>
      (⟨c.objs ++ { cls := .type "tuple", data := .seq #[.none, .int i t] } :: dObjs e name bind args body scope pos (vOf args body scope) (clOf args body scope) (.ref (29 + c.objs.length)) (29 + c.objs.length + 1) (t + 1),
        c.ns ++ [⟨hsh w bind, .str bind (t + 1 + 3 + (vOf args body scope).length + (clOf args body scope).length + 1 + 1), .ref (29 + c.objs.length + 1 + 6)⟩], c.pl ++ [((pos.line : Int), (pos.col : Int), .ref (29 + c.objs.length + 1 + 5))]⟩,
       t + 1 + 3 + (vOf args body scope).length + (clOf args body scope).length + 1 + 1 + 1)
    | _ => (⟨c.objs ++ dObjs e name bind args body scope pos (vOf args body scope) (clOf args body scope) .none (29 + c.objs.length) t,
        c.ns ++ [⟨hsh w bind, .str bind (t + 3 + (vOf args body scope).length + (clOf args body scope).length + 1 + 1), .ref (29 + c.objs.length + 6)⟩], c.pl ++ [((pos.line : Int), (pos.col : Int), .ref (29 + c.objs.length + 5))]⟩,
       t + 3 + (vOf args body scope).length + (clOf args body scope).length + 1 + 1 + 1)
  | .Assign [.Name n _] (.Constant (.int i) _ _) _, (c, t) => ({ c with ns := c.ns ++ [⟨hsh w n, .str n (t + 1), .int i t⟩] }, t + 1 + 1)
  | .Assign [.Name n _] (.Constant (.str x) _ _) _, (c, t) => ({ c with ns := c.ns ++ [⟨hsh w n, .str n (t + 1), .str x t⟩] }, t + 1 + 1)
  | _, r => r
noncomputable def stepsOf : Stmt → Nat
  | .FunctionDef _ args body _ _ _ scope _ _ _ => match args.defaults with
    | [] => 1 + (0 + ((0 + (20 + (vOf args body scope).length + (clOf args body scope).length)) + (1 + 7)))
    | _ => 1 + (1 + ((1 + (20 + (vOf args body scope).length + (clOf args body scope).length)) + (1 + 7)))
  | _ => 1 + (1 + 8)
theorem freeNames_nil {scope : Scope} (h : scope.names.all (fun x => x.2 != .free) = true) : scope.freeNames = [] := by
  unfold Scope.freeNames
  have : scope.names.filter (·.2 == .free) = [] := by
    rw [List.filter_eq_nil_iff]
    intro x hx
    have := List.all_eq_true.mp h x hx
    simpa using this
  rw [this]
  simp
theorem ann_nil {env : Env} {l : List Arg} (h : l.all argPlain = true) : annotationsOf l env = [] := by
  induction l with
  | nil => rfl
  | cons x l ih =>
    obtain ⟨n, a, q⟩ := x
    rw [List.all_cons, Bool.and_eq_true] at h
    obtain ⟨h1, h2⟩ := h
    cases a with
    | some x => cases h1
    | none => exact ih h2
theorem DefOk.of {env : Env} {name bind : Str} {args : Arguments} {body : List Stmt} {scope : Scope} (hk : env.kindOf bind = some .local) (h1 : scope.names.all (fun x => x.2 != .free) = true) (h2 : (localNames args scope (.stmts body)).isSome = true) (h3 : argsPlain args = true) (h4 : (docOf body).isNone = true) :
    DefOk env name bind args body scope (vOf args body scope) (clOf args body scope) := by
  obtain ⟨po, a, va, ko, kd, kwa, df⟩ := args
  unfold argsPlain at h3
  simp only [Bool.and_eq_true] at h3
  obtain ⟨⟨a1, a2⟩, a3⟩ := h3
  refine ⟨hk, h1, freeNames_nil h1, ?_, List.isEmpty_iff.mp a1, List.isEmpty_iff.mp a2, Option.isNone_iff_eq_none.mp h4, ann_nil a3⟩
  obtain ⟨r, hr⟩ := Option.isSome_iff_exists.mp h2
  unfold vOf clOf
  rw [hr]
  rfl
section
variable {p : Program} {n₀ : Nat} {ann : Option Value} {g : Array GenState} {d : Drawn} {os : OsState} {w : World} {e : Ec} {c : CS} {t : Nat} {pos pos₀ : Pos}
theorem XR_dv {h : Heap} {env : Env} {i : Int} {k1 k2 : Nat} {q1 q2 : Pos} : XR p n₀ ann g d os w 1 (evalAll [eval (.Constant .none k1 q1) env, eval (.Constant (.int i) k2 q2) env]) h t pos [.none, .int i t] h (t + 1) pos := by
  refine XR.at_n (n := 0 + ((1 + (0 + 0)) + 0)) ?_ rfl
  refine XR_bind (a := Value.none) (h₁ := h) (t₁ := t) (pos₁ := pos) ?_ ?_
  · rw [arm_eval_Constant]; exact XR_pure
  refine XR_bind (a := [Value.int i t]) (h₁ := h) (t₁ := t + 1) (pos₁ := pos) (XR_holding ?_) ?_
  · refine XR_bind XR_int ?_
    refine XR_bind (a := ([] : List Value)) (h₁ := h) (t₁ := t + 1) (pos₁ := pos) (XR_holding ?_) ?_
    · exact XR_pure
    · exact XR_pure
  · exact XR_pure
theorem XR_def2 {name bind : Str} {args : Arguments} {body : List Stmt} {scope : Scope} {v cl : List Str} {ts : Option Scope} {i : Int} {k1 k2 : Nat} {q1 q2 : Pos} (E : EcOk p n₀ ann g d os w e) (D : DefOk e.env name bind args body scope v cl) (hd : args.defaults = [.Constant .none k1 q1, .Constant (.int i) k2 q2]) (aw : Away pos c.pl) (fr : Fresh bind c.ns) :
    XR p n₀ ann g d os w (1 + (1 + ((1 + (20 + v.length + cl.length)) + (1 + 7)))) (exec (.FunctionDef name args body [] none [] scope ts bind pos) e.env) (mkH e.b c) t pos₀ .next
      (mkH e.b ⟨c.objs ++ { cls := .type "tuple", data := .seq #[.none, .int i t] } :: dObjs e name bind args body scope pos v cl (.ref (29 + c.objs.length)) (29 + c.objs.length + 1) (t + 1), c.ns ++ [⟨hsh w bind, .str bind (t + 1 + 3 + v.length + cl.length + 1 + 1), .ref (29 + c.objs.length + 1 + 6)⟩], c.pl ++ [((pos.line : Int), (pos.col : Int), .ref (29 + c.objs.length + 1 + 5))]⟩)
      (t + 1 + 3 + v.length + cl.length + 1 + 1 + 1) pos := by
  have aux := XR_def (p := p) (n₀ := n₀) (ann := ann) (g := g) (d := d) (os := os) (w := w) (h := mkH e.b c) (t := t) (pos := pos) (pos₀ := pos₀) (ts := ts) (es := c.ns) (dv := [.none, .int i t]) (dV := .ref (mkH e.b c).objs.size) (nd := 1) (ne := 1) (h' := mkH e.b c) (t' := t + 1) (hd := mkH e.b { c with objs := c.objs ++ [{ cls := .type "tuple", data := .seq #[.none, .int i t] }] }) D E.kind E.code E.n26 (by rw [E.locals]; exact E.n24) aw fr
    (by
      rw [show (defaultsOf args e.env).1 = [eval (.Constant .none k1 q1) e.env, eval (.Constant (.int i) k2 q2) e.env] from by obtain ⟨a1, a2, a3, a4, a5, a6, a7⟩ := args; dsimp only at hd; subst hd; rfl]
      exact XR_dv)
    (.inr ⟨by simp, rfl, mkH_push.symm, rfl⟩) (E.codeAt (c := { c with objs := c.objs ++ [{ cls := .type "tuple", data := .seq #[.none, .int i t] }] })) (mkH_pushAll _ _) (mkH_26 E.A) (mkH_place (c := { c with objs := _ }) E.A aw) (mkH_26 E.A) (E.built _ · _) (E.name _ · _) (by rw [mkH_push, E.locals]; exact mkH_24 E.A)
  rw [mkH_push, E.locals] at aux
  dsimp only at aux
  rw [mkH_put E.A (by exact fr), mkH_size E.A, mkH_size E.A, mkH_size E.A] at aux
  simp only [List.length_append, List.append_assoc, dCode_length, List.length_singleton] at aux
  exact aux
end
end
section
section
variable {p : Program} {n₀ : Nat} {ann : Option Value} {g : Array GenState} {d : Drawn} {os : OsState} {w : World} {e : Ec} {c : CS} {t : Nat} {pos pos₀ : Pos}
/-- The two kinds of written defaults. -/
theorem dflt_cases {P : List Expr → Prop} {l : List Expr} (h : dfltOk l = true) (h0 : P []) (h2 : ∀ k1 q1 i k2 q2, P [.Constant .none k1 q1, .Constant (.int i) k2 q2]) : P l := by
  cases l with
  | nil => exact h0
  | cons a r =>
    cases a <;> first | (cases h; done) | skip
    rename_i c k q
    cases c <;> first | (cases h; done) | skip
    cases r with
    | nil => cases h
    | cons b r =>
      cases b <;> first | (cases h; done) | skip
      rename_i c2 k2 q2
      cases c2 <;> first | (cases h; done) | skip
      rename_i i
      cases r with
      | nil => exact h2 _ _ _ _ _
      | cons _ _ => cases h
/-- The kinds of statements that a class's block may hold. -/
theorem st_view {P : Stmt → Prop} {st : Stmt} (hs : stB st = true)
    (hd : ∀ name args body scope ts bind pos, scope.names.all (fun x => x.2 != .free) = true → (localNames args scope (.stmts body)).isSome = true → argsPlain args = true → (docOf body).isNone = true → dfltOk args.defaults = true → P (.FunctionDef name args body [] none [] scope ts bind pos))
    (hi : ∀ n np i k q pos, P (.Assign [.Name n np] (.Constant (.int i) k q) pos)) (hx : ∀ n np x k q pos, P (.Assign [.Name n np] (.Constant (.str x) k q) pos)) : P st := by
  cases st <;> first | (cases hs; done) | skip
  · rename_i name args body decs rets tps scope ts bind pos
    cases decs with
    | cons _ _ => cases hs
    | nil =>
      cases rets with
      | some _ => cases hs
      | none =>
        cases tps with
        | cons _ _ => cases hs
        | nil =>
          have hs := Bool.and_eq_true_iff.mp hs
          have h1 := Bool.and_eq_true_iff.mp hs.1
          have h2 := Bool.and_eq_true_iff.mp h1.1
          have h3 := Bool.and_eq_true_iff.mp h2.1
          exact hd _ _ _ _ _ _ _ h3.1 h3.2 h2.2 h1.2 hs.2
  · rename_i tg v pos
    cases tg with
    | nil => cases hs
    | cons a r =>
      cases a <;> first | (cases hs; done) | skip
      cases r with
      | cons _ _ => cases hs
      | nil =>
        cases v <;> first | (cases hs; done) | skip
        rename_i c k q
        cases c <;> first | (cases hs; done) | skip
        · exact hi _ _ _ _ _ _
        · exact hx _ _ _ _ _ _
theorem st_cases {P : Stmt → Prop} {st : Stmt} (hs : stB st = true)
    (h0 : ∀ name po a va ko kd kw body scope ts bind pos, P (.FunctionDef name ⟨po, a, va, ko, kd, kw, []⟩ body [] none [] scope ts bind pos))
    (h2 : ∀ name po a va ko kd kw body scope ts bind pos k1 q1 i k2 q2, P (.FunctionDef name ⟨po, a, va, ko, kd, kw, [.Constant .none k1 q1, .Constant (.int i) k2 q2]⟩ body [] none [] scope ts bind pos))
    (hi : ∀ n np i k q pos, P (.Assign [.Name n np] (.Constant (.int i) k q) pos)) (hx : ∀ n np x k q pos, P (.Assign [.Name n np] (.Constant (.str x) k q) pos)) : P st := by
  refine st_view hs (fun name args body scope ts bind pos _ _ _ _ hd => ?_) hi hx
  obtain ⟨po, a, va, ko, kd, kw, df⟩ := args
  exact dflt_cases (P := fun df => P (.FunctionDef name ⟨po, a, va, ko, kd, kw, df⟩ body [] none [] scope ts bind pos)) hd (h0 _ _ _ _ _ _ _ _ _ _ _ _) fun _ _ _ _ _ => h2 _ _ _ _ _ _ _ _ _ _ _ _ _ _ _ _ _
theorem eff_run (E : EcOk p n₀ ann g d os w e) {st : Stmt} (hs : stB st = true) (hk : e.env.kindOf (bindOf st) = some .local) (fr : Fresh (bindOf st) c.ns) (aw : Away (posOf st) c.pl) :
    XR p n₀ ann g d os w (stepsOf st) (exec st e.env) (mkH e.b c) t pos₀ .next (mkH e.b (eff e w st (c, t)).1) (eff e w st (c, t)).2 (endOf st) := by
  revert hk fr aw
  refine st_view (P := fun st => e.env.kindOf (bindOf st) = some .local → Fresh (bindOf st) c.ns → Away (posOf st) c.pl → XR p n₀ ann g d os w (stepsOf st) (exec st e.env) (mkH e.b c) t pos₀ .next (mkH e.b (eff e w st (c, t)).1) (eff e w st (c, t)).2 (endOf st)) hs (fun name args body scope ts bind pos h1 h2 h3 h4 h5 => ?_)
    (fun n np i k q pos hk fr aw => XR_assign E hk fr rfl rfl XR_int) (fun n np x k q pos hk fr aw => XR_assign E hk fr rfl rfl XR_str)
  intro hk fr aw
  have D := DefOk.of (env := e.env) (name := name) (bind := bind) (args := args) (body := body) (scope := scope) hk h1 h2 h3 h4
  clear h1 h2 h3 h4
  obtain ⟨po, a, va, ko, kd, kw, df⟩ := args
  revert D
  exact dflt_cases (P := fun df => DefOk e.env name bind ⟨po, a, va, ko, kd, kw, df⟩ body scope (vOf ⟨po, a, va, ko, kd, kw, df⟩ body scope) (clOf ⟨po, a, va, ko, kd, kw, df⟩ body scope) → XR p n₀ ann g d os w (stepsOf (.FunctionDef name ⟨po, a, va, ko, kd, kw, df⟩ body [] none [] scope ts bind pos)) (exec (.FunctionDef name ⟨po, a, va, ko, kd, kw, df⟩ body [] none [] scope ts bind pos) e.env) (mkH e.b c) t pos₀ .next (mkH e.b (eff e w (.FunctionDef name ⟨po, a, va, ko, kd, kw, df⟩ body [] none [] scope ts bind pos) (c, t)).1) (eff e w (.FunctionDef name ⟨po, a, va, ko, kd, kw, df⟩ body [] none [] scope ts bind pos) (c, t)).2 pos) h5
    (fun D => XR_def0 (ts := ts) (t := t) (pos₀ := pos₀) E D rfl aw fr) (fun k1 q1 i k2 q2 D => XR_def2 (ts := ts) (t := t) (pos₀ := pos₀) E D rfl aw fr)
structure Inv (us : List Nat) (ln : Nat) (c : CS) : Prop where
  ns : ∀ e ∈ c.ns, ∃ name t, e.key = .str name t ∧ enc name ∈ us
  pl : ∀ x ∈ c.pl, x.1 ≤ (ln : Int)
noncomputable def awayN (k : Nat) (l : List Nat) : Bool := @List.rec Nat (fun _ => Bool) true (fun a _ ih => @Bool.rec (fun _ => Bool) ih false (Nat.beq a k)) l
theorem awayN_iff {k : Nat} : ∀ {l : List Nat}, awayN k l = true → ∀ u ∈ l, u ≠ k
  | [], _, _, h => nomatch h
  | a :: l, h, u, hu => by
    have h : @Bool.rec (fun _ => Bool) (awayN k l) false (Nat.beq a k) = true := h
    cases hq : Nat.beq a k with
    | true => rw [hq] at h; cases h
    | false =>
      rw [hq] at h
      rcases List.mem_cons.mp hu with rfl | hu
      · exact Nat.ne_of_beq_eq_false hq
      · exact awayN_iff h u hu
noncomputable def chk (us : List Nat) (ln : Nat) : List Stmt → List Nat → Bool
  | [], _ => true
  | st :: r, k :: ks => stB st && Nat.beq k (enc (bindOf st)) && awayN k us && Nat.blt ln (posOf st).line && chk (k :: us) (posOf st).line r ks
  | _ :: _, [] => false
noncomputable def effAll (e : Ec) (w : World) : List Stmt → CS × Nat → CS × Nat
  | [], r => r
  | st :: l, r => effAll e w l (eff e w st r)
noncomputable def stepsAll : List Stmt → Nat
  | [] => 0
  | st :: l => stepsOf st + stepsAll l
noncomputable def lastPos : List Stmt → Pos → Pos
  | [], q => q
  | st :: l, _ => lastPos l (endOf st)
noncomputable def lastUs : List Stmt → List Nat → List Nat → List Nat
  | _ :: l, k :: ks, us => lastUs l ks (k :: us)
  | _, _, us => us
noncomputable def lastLn : List Stmt → Nat → Nat
  | [], n => n
  | st :: l, _ => lastLn l (posOf st).line
theorem Inv.fresh {us : List Nat} {ln : Nat} (I : Inv us ln c) {b : Str} {k : Nat} (hk : Nat.beq k (enc b) = true) (hu : awayN k us = true) : Fresh b c.ns := fun x hx => by
  obtain ⟨name, t, e1, e2⟩ := I.ns x hx
  have hk := Nat.eq_of_beq_eq_true hk
  have ne : enc name ≠ k := awayN_iff hu _ e2
  refine ⟨?_, ?_⟩
  · rw [e1, isStr_str']
    refine beq_eq_false_iff_ne.mpr fun z => ne ?_
    rw [z, hk]
  · show x.refKey = false
    unfold DictEntry.refKey
    rw [e1]
theorem Inv.away {us : List Nat} {ln : Nat} (I : Inv us ln c) {q : Pos} (h : Nat.blt ln q.line = true) : Away q c.pl := fun x hx => by
  have := I.pl x hx
  have h := Nat.blt_eq.mp h
  have : (x.1 == (q.line : Int)) = false := beq_eq_false_iff_ne.mpr (by omega)
  rw [this]
  rfl
theorem Inv.eff {us : List Nat} {ln : Nat} (I : Inv us ln c) {st : Stmt} (hs : stB st = true) {k : Nat} (hk : Nat.beq k (enc (bindOf st)) = true) (hl : Nat.blt ln (posOf st).line = true) : Inv (k :: us) (posOf st).line (eff e w st (c, t)).1 := by
  have hk := Nat.eq_of_beq_eq_true hk
  have hl := Nat.blt_eq.mp hl
  have old : ∀ x ∈ c.ns, ∃ name t, x.key = .str name t ∧ enc name ∈ k :: us := fun x hx => by
    obtain ⟨n, t, a, b⟩ := I.ns x hx
    exact ⟨n, t, a, .tail _ b⟩
  have oldp : ∀ x ∈ c.pl, x.1 ≤ ((posOf st).line : Int) := fun x hx => by
    have := I.pl x hx
    omega
  have add : ∀ (l : List DictEntry) (tk : Nat) (v : Value) (hh : Int), l = c.ns ++ [⟨hh, .str (bindOf st) tk, v⟩] → ∀ x ∈ l, ∃ name t, x.key = .str name t ∧ enc name ∈ k :: us := by
    rintro l tk v hh rfl x hx
    rcases List.mem_append.mp hx with hx | hx
    · exact old x hx
    · obtain rfl := List.mem_singleton.mp hx
      exact ⟨_, _, rfl, by rw [← hk]; exact .head _⟩
  have addp : ∀ (l : List (Int × Int × Value)) (y : Int) (v : Value), l = c.pl ++ [(((posOf st).line : Int), y, v)] → ∀ x ∈ l, x.1 ≤ ((posOf st).line : Int) := by
    rintro l y v rfl x hx
    rcases List.mem_append.mp hx with hx | hx
    · exact oldp x hx
    · obtain rfl := List.mem_singleton.mp hx
      exact Int.le_refl _
  clear hk hl
  revert add addp oldp
  exact st_cases (P := fun st => (∀ x ∈ c.pl, x.1 ≤ ((posOf st).line : Int)) → (∀ (l : List DictEntry) (tk : Nat) (v : Value) (hh : Int), l = c.ns ++ [⟨hh, .str (bindOf st) tk, v⟩] → ∀ x ∈ l, ∃ name t, x.key = .str name t ∧ enc name ∈ k :: us) → (∀ (l : List (Int × Int × Value)) (y : Int) (v : Value), l = c.pl ++ [(((posOf st).line : Int), y, v)] → ∀ x ∈ l, x.1 ≤ ((posOf st).line : Int)) → Inv (k :: us) (posOf st).line (M6.eff e w st (c, t)).1) hs
    (fun name po a va ko kd kw body scope ts bind pos oldp add addp => ⟨add _ _ _ _ rfl, addp _ _ _ rfl⟩) (fun name po a va ko kd kw body scope ts bind pos k1 q1 i k2 q2 oldp add addp => ⟨add _ _ _ _ rfl, addp _ _ _ rfl⟩)
    (fun n np i k' q pos oldp add addp => ⟨add _ _ _ _ rfl, oldp⟩) (fun n np x k' q pos oldp add addp => ⟨add _ _ _ _ rfl, oldp⟩)
theorem XR_execs (E : EcOk p n₀ ann g d os w e) : ∀ (l : List Stmt) (ks us : List Nat) (ln : Nat) (c : CS) (t : Nat) (pos₀ : Pos), chk us ln l ks = true → (∀ st ∈ l, e.env.kindOf (bindOf st) = some .local) → Inv us ln c →
    XR p n₀ ann g d os w (stepsAll l) (execs l e.env) (mkH e.b c) t pos₀ .next (mkH e.b (effAll e w l (c, t)).1) (effAll e w l (c, t)).2 (lastPos l pos₀) ∧ Inv (lastUs l ks us) (lastLn l ln) (effAll e w l (c, t)).1
  | [], ks, us, ln, c, t, pos₀, _, _, I => by
    refine ⟨XR_pure, ?_⟩
    cases ks <;> exact I
  | st :: l, [], us, ln, c, t, pos₀, h, _, _ => by cases h
  | st :: l, k :: ks, us, ln, c, t, pos₀, h, hk, I => by
    unfold chk at h
    simp only [Bool.and_eq_true] at h
    obtain ⟨⟨⟨⟨h1, h2⟩, h3⟩, h4⟩, h5⟩ := h
    have fr := I.fresh h2 h3
    have aw := I.away h4
    have r := eff_run (t := t) (pos₀ := pos₀) E h1 (hk st (.head _)) fr aw
    have I' : Inv (k :: us) (posOf st).line (M6.eff e w st (c, t)).1 := I.eff h1 h2 h4
    obtain ⟨r', I''⟩ := XR_execs E l ks (k :: us) (posOf st).line (M6.eff e w st (c, t)).1 (M6.eff e w st (c, t)).2 (endOf st) h5 (fun s hs => hk s (.tail _ hs)) I'
    refine ⟨?_, I''⟩
    rw [execs_cons]
    refine XR_bind r ?_
    exact r'
end
end
section
/-- What a statement lays, from an address and a token on. -/
noncomputable def sObjs (e : Ec) : Stmt → Nat → Nat → List Obj
  | .FunctionDef name args body _ _ _ scope _ bind pos, n, t => match args.defaults with
    | [.Constant .none _ _, .Constant (.int i) _ _] => { cls := .type "tuple", data := .seq #[.none, .int i t] } :: dObjs e name bind args body scope pos (vOf args body scope) (clOf args body scope) (.ref n) (n + 1) (t + 1)
    | _ => dObjs e name bind args body scope pos (vOf args body scope) (clOf args body scope) .none n t
  | _, _, _ => []
noncomputable def sEnt (w : World) : Stmt → Nat → Nat → List DictEntry
  | .FunctionDef _ args body _ _ _ scope _ bind _, n, t => match args.defaults with
    | [.Constant .none _ _, .Constant (.int i) _ _] => [⟨hsh w bind, .str bind (t + 1 + 3 + (vOf args body scope).length + (clOf args body scope).length + 1 + 1), .ref (n + 1 + 6)⟩]
    | _ => [⟨hsh w bind, .str bind (t + 3 + (vOf args body scope).length + (clOf args body scope).length + 1 + 1), .ref (n + 6)⟩]
  | .Assign [.Name b _] (.Constant (.int i) _ _) _, _, t => [⟨hsh w b, .str b (t + 1), .int i t⟩]
  | .Assign [.Name b _] (.Constant (.str x) _ _) _, _, t => [⟨hsh w b, .str b (t + 1), .str x t⟩]
  | _, _, _ => []
noncomputable def sPl : Stmt → Nat → List (Int × Int × Value)
  | .FunctionDef _ args _ _ _ _ _ _ _ pos, n => match args.defaults with
    | [.Constant .none _ _, .Constant (.int i) _ _] => [((pos.line : Int), (pos.col : Int), .ref (n + 1 + 5))]
    | _ => [((pos.line : Int), (pos.col : Int), .ref (n + 5))]
  | _, _ => []
noncomputable def sTk : Stmt → Nat → Nat
  | .FunctionDef _ args body _ _ _ scope _ _ _, t => match args.defaults with
    | [.Constant .none _ _, .Constant (.int i) _ _] => t + 1 + 3 + (vOf args body scope).length + (clOf args body scope).length + 1 + 1 + 1
    | _ => t + 3 + (vOf args body scope).length + (clOf args body scope).length + 1 + 1 + 1
  | .Assign [.Name _ _] (.Constant (.int _) _ _) _, t => t + 1 + 1
  | .Assign [.Name _ _] (.Constant (.str _) _ _) _, t => t + 1 + 1
  | _, t => t
noncomputable def sLen : Stmt → Nat
  | .FunctionDef _ args _ _ _ _ _ _ _ _ => match args.defaults with
    | [.Constant .none _ _, .Constant (.int _) _ _] => 8
    | _ => 7
  | _ => 0
theorem dObjs_length {e : Ec} {name bind : Str} {args : Arguments} {body : List Stmt} {scope : Scope} {pos : Pos} {v cl : List Str} {dV : Value} {n t : Nat} : (dObjs e name bind args body scope pos v cl dV n t).length = 7 := rfl
theorem sObjs_length {e : Ec} {st : Stmt} {n t : Nat} (hs : stB st = true) : (sObjs e st n t).length = sLen st :=
  st_cases (P := fun st => (sObjs e st n t).length = sLen st) hs (fun name po a va ko kd kw body scope ts bind pos => rfl) (fun name po a va ko kd kw body scope ts bind pos k1 q1 i k2 q2 => rfl) (fun n np i k q pos => rfl) (fun n np x k q pos => rfl)
theorem eff_is {e : Ec} {w : World} {st : Stmt} {c : CS} {t n : Nat} (hs : stB st = true) (hn : n = 29 + c.objs.length) : eff e w st (c, t) = (⟨c.objs ++ sObjs e st n t, c.ns ++ sEnt w st n t, c.pl ++ sPl st n⟩, sTk st t) := by
  subst hn
  obtain ⟨co, cn, cp⟩ := c
  exact st_cases (P := fun st => eff e w st (⟨co, cn, cp⟩, t) = (⟨co ++ sObjs e st (29 + co.length) t, cn ++ sEnt w st (29 + co.length) t, cp ++ sPl st (29 + co.length)⟩, sTk st t)) hs (fun name po a va ko kd kw body scope ts bind pos => rfl) (fun name po a va ko kd kw body scope ts bind pos k1 q1 i k2 q2 => rfl)
    (fun n np i k q pos => by show (_, _) = ((⟨co ++ [], _, cp ++ []⟩ : CS), _); rw [List.append_nil, List.append_nil]; rfl) (fun n np x k q pos => by show (_, _) = ((⟨co ++ [], _, cp ++ []⟩ : CS), _); rw [List.append_nil, List.append_nil]; rfl)
/-- The statements with their addresses and tokens. -/
noncomputable abbrev Row := List (Stmt × Nat × Nat)
noncomputable def rowOk : Row → Nat → Nat → Bool
  | [], _, _ => true
  | (st, n, t) :: r, n', t' => Nat.beq n n' && Nat.beq t t' && rowOk r (n + sLen st) (sTk st t)
noncomputable def rowN : Row → Nat → Nat
  | [], n => n
  | (st, n, _) :: r, _ => rowN r (n + sLen st)
noncomputable def rowT : Row → Nat → Nat
  | [], t => t
  | (st, _, t) :: r, _ => rowT r (sTk st t)
noncomputable def rObjs (e : Ec) : Row → List Obj
  | [] => []
  | (st, n, t) :: r => sObjs e st n t ++ rObjs e r
noncomputable def rEnt (w : World) : Row → List DictEntry
  | [] => []
  | (st, n, t) :: r => sEnt w st n t ++ rEnt w r
noncomputable def rPl : Row → List (Int × Int × Value)
  | [] => []
  | (st, n, _) :: r => sPl st n ++ rPl r
theorem effAll_is {e : Ec} {w : World} : ∀ (r : Row) (c : CS) (n t : Nat), rowOk r n t = true → (∀ x ∈ r, stB x.1 = true) → n = 29 + c.objs.length →
    effAll e w (r.map (·.1)) (c, t) = (⟨c.objs ++ rObjs e r, c.ns ++ rEnt w r, c.pl ++ rPl r⟩, rowT r t)
  | [], c, n, t, _, _, _ => by simp [effAll, rObjs, rEnt, rPl, rowT]
  | (st, n', t') :: r, c, n, t, h, hs, hn => by
    unfold rowOk at h
    simp only [Bool.and_eq_true] at h
    obtain ⟨⟨h1, h2⟩, h3⟩ := h
    have h1 := Nat.eq_of_beq_eq_true h1
    have h2 := Nat.eq_of_beq_eq_true h2
    subst h1 h2
    have h0 := hs _ (.head _)
    show effAll e w (r.map (·.1)) (eff e w st (c, t')) = _
    rw [eff_is h0 hn, effAll_is r _ (n' + sLen st) (sTk st t') h3 (fun x hx => hs x (.tail _ hx)) (by rw [List.length_append, sObjs_length h0, hn]; dsimp only; omega)]
    simp [rObjs, rEnt, rPl, rowT]
theorem XR_execs_app {p : Program} {n₀ : Nat} {ann : Option Value} {g : Array GenState} {d : Drawn} {os : OsState} {w : World} {env : Env} {h h₁ h₂ : Heap} {t t₁ t₂ n k : Nat} {pos pos₁ pos₂ : Pos} {a b : List Stmt}
    (x : XR p n₀ ann g d os w n (execs a env) h t pos .next h₁ t₁ pos₁) (y : XR p n₀ ann g d os w k (execs b env) h₁ t₁ pos₁ .next h₂ t₂ pos₂) : XR p n₀ ann g d os w (n + k) (execs (a ++ b) env) h t pos .next h₂ t₂ pos₂ := ⟨fun K H gd lv code fr B => by
  rw [execs_app_wrap]
  exact (x.run _ _ _ _ code fr B).trans (y.run K H gd lv code fr B)⟩
/-- A tree of objects of a list. -/
noncomputable def evens : List Obj → List Obj
  | [] => []
  | [a] => [a]
  | a :: _ :: r => a :: evens r
noncomputable def odds : List Obj → List Obj
  | [] => []
  | [_] => []
  | _ :: b :: r => b :: odds r
noncomputable def btOf : Nat → List Obj → BT
  | 0, _ => .nil
  | _ + 1, [] => .nil
  | k + 1, o :: r => .node o (btOf k (evens r)) (btOf k (odds r))
theorem evens_get : ∀ (l : List Obj) (i : Nat), (evens l)[i]? = l[2 * i]?
  | [], i => by simp [evens]
  | [a], i => by cases i <;> simp [evens]
  | a :: b :: r, 0 => rfl
  | a :: b :: r, i + 1 => by
    show (evens r)[i]? = _
    rw [evens_get r i, show 2 * (i + 1) = 2 * i + 1 + 1 by omega]
    rfl
theorem odds_get : ∀ (l : List Obj) (i : Nat), (odds l)[i]? = l[2 * i + 1]?
  | [], i => by simp [odds]
  | [a], i => by cases i <;> simp [odds]
  | a :: b :: r, 0 => rfl
  | a :: b :: r, i + 1 => by
    show (odds r)[i]? = _
    rw [odds_get r i, show 2 * (i + 1) + 1 = 2 * i + 1 + 1 + 1 by omega]
    rfl
theorem evens_len : ∀ l : List Obj, (evens l).length = (l.length + 1) / 2
  | [] => rfl
  | [a] => by simp [evens]
  | a :: b :: r => by show (evens r).length + 1 = (r.length + 1 + 1 + 1) / 2; rw [evens_len r]; omega
theorem odds_len : ∀ l : List Obj, (odds l).length = l.length / 2
  | [] => rfl
  | [a] => by simp [odds]
  | a :: b :: r => by show (odds r).length + 1 = (r.length + 1 + 1) / 2; rw [odds_len r]; omega
theorem btOf_get : ∀ (k : Nat) (l : List Obj) (i : Nat), l.length < 2 ^ k → (btOf k l).get i = l[i]?
  | 0, l, i, h => by
    have : l = [] := List.length_eq_zero_iff.mp (by simpa using h)
    subst this
    simp [btOf, BT.get]
  | k + 1, [], i, _ => by simp [btOf, BT.get]
  | k + 1, o :: r, i, h => by
    rw [Nat.pow_succ] at h
    simp only [List.length_cons] at h
    show (BT.node o (btOf k (evens r)) (btOf k (odds r))).get i = _
    rw [BT.get_node]
    by_cases h0 : i = 0
    · subst h0; simp
    · rw [if_neg h0]
      by_cases h1 : i % 2 = 1
      · rw [if_pos h1, btOf_get k _ _ (by rw [evens_len]; omega), evens_get]
        obtain ⟨j, rfl⟩ : ∃ j, i = 2 * j + 1 := ⟨i / 2, by omega⟩
        rw [show (2 * j + 1) / 2 = j by omega]
        rfl
      · rw [if_neg h1, btOf_get k _ _ (by rw [odds_len]; omega), odds_get]
        obtain ⟨j, rfl⟩ : ∃ j, i = 2 * j + 1 + 1 := ⟨i / 2 - 1, by omega⟩
        rw [show (2 * j + 1 + 1) / 2 - 1 = j by omega]
        rfl
theorem absHeap_btOf {k : Nat} {l : List Obj} {life : Life} (h : l.length < 2 ^ k) : absHeap (btOf k l) l.length life = ⟨l.toArray, life⟩ := by
  have e : (absHeap (btOf k l) l.length life).objs = l.toArray := by
    refine Array.ext_getElem? fun i => ?_
    rw [absHeap_at, btOf_get k l i h, List.getElem?_toArray]
    by_cases hi : i < l.length
    · rw [if_pos hi, List.getElem?_eq_getElem hi]; rfl
    · rw [if_neg hi, List.getElem?_eq_none (by omega)]
  have e2 : (absHeap (btOf k l) l.length life).life = life := rfl
  cases hq : absHeap (btOf k l) l.length life with
  | mk o l' => rw [hq] at e e2; cases e; cases e2; rfl
end
section
noncomputable def lItem : Expr → Bool
  | .Name _ _ => true
  | .Constant (.int _) _ _ => true
  | _ => false
noncomputable def nval (ns : List DictEntry) (x : Str) : Value := match ns.find? (·.key.isStr x) with
  | some e => e.val
  | none => .none
noncomputable def lVals (ns : List DictEntry) : List Expr → Nat → List Value
  | [], _ => []
  | .Name x _ :: r, t => nval ns x :: lVals ns r t
  | .Constant (.int i) _ _ :: r, t => .int i t :: lVals ns r (t + 1)
  | _ :: r, t => lVals ns r t
noncomputable def lTk : List Expr → Nat → Nat
  | [], t => t
  | .Constant (.int _) _ _ :: r, t => lTk r (t + 1)
  | _ :: r, t => lTk r t
noncomputable def lSteps : List Expr → Nat
  | [] => 0
  | .Name _ _ :: r => 3 + lSteps r
  | _ :: r => 1 + lSteps r
noncomputable def lPos : List Expr → Pos → Pos
  | [], q => q
  | .Name _ p :: r, _ => lPos r p
  | _ :: r, q => lPos r q
section
variable {p : Program} {n₀ : Nat} {ann : Option Value} {g : Array GenState} {d : Drawn} {os : OsState} {w : World} {e : Ec} {c : CS}
noncomputable def Found (e : Ec) (ns : List DictEntry) (x : Str) : Prop := (x == ("__debug__" : Str)) = false ∧ e.env.kindOf x = some .local ∧ (ns.find? (·.key.isStr x)).isSome = true
theorem XL_all (E : EcOk p n₀ ann g d os w e) : ∀ (es : List Expr) (t : Nat) (pos : Pos), es.all lItem = true → (∀ x q, Expr.Name x q ∈ es → Found e c.ns x) → XL p n₀ ann g d os w (lSteps es) es e.env (mkH e.b c) t pos (lVals c.ns es t) (lTk es t) (lPos es pos)
  | [], t, pos, _, _ => XL_nil
  | x :: r, t, pos, h, hf => by
    rw [List.all_cons, Bool.and_eq_true] at h
    obtain ⟨h1, h2⟩ := h
    unfold lItem at h1
    split at h1
    · rename_i x q
      obtain ⟨f1, f2, f3⟩ := hf x q (.head _)
      obtain ⟨en, hen⟩ := Option.isSome_iff_exists.mp f3
      have hv : nval c.ns x = en.val := by unfold nval; rw [hen]
      show XL p n₀ ann g d os w (3 + lSteps r) _ _ _ _ _ (nval c.ns x :: lVals c.ns r t) (lTk r t) (lPos r q)
      rw [hv]
      exact XL_cons rfl (XR_Name E f1 f2 hen) (XL_all E r t q h2 fun y q' hy => hf y q' (.tail _ hy))
    · rename_i i k q
      show XL p n₀ ann g d os w (1 + lSteps r) _ _ _ _ _ (.int i t :: lVals c.ns r (t + 1)) (lTk r (t + 1)) (lPos r pos)
      exact XL_cons rfl XR_int (XL_all E r (t + 1) pos h2 fun y q' hy => hf y q' (.tail _ hy))
    · cases h1
theorem lVals_length {ns : List DictEntry} : ∀ (es : List Expr) (t : Nat), (lVals ns es t).length ≤ es.length
  | [], _ => Nat.le_refl _
  | x :: r, t => by
    unfold lVals
    split
    · rename_i h; cases h
    · rename_i h; cases h; exact Nat.succ_le_succ (lVals_length _ _)
    · rename_i h; cases h; exact Nat.succ_le_succ (lVals_length _ _)
    · rename_i h; cases h; exact Nat.le_succ_of_le (lVals_length _ _)
/-- A written list is bound in a class's block. -/
theorem XR_listSt (E : EcOk p n₀ ann g d os w e) {b : Str} {np q pos pos₀ : Pos} {es : List Expr} {t : Nat} (h1 : es.all lItem = true) (hf : ∀ x q, Expr.Name x q ∈ es → Found e c.ns x) (hz : es.length ≤ 1000) (hk : e.env.kindOf b = some .local) (fr : Fresh b c.ns) :
    XR p n₀ ann g d os w (1 + ((1 + (lSteps es + 1)) + 8)) (exec (.Assign [.Name b np] (.List es q) pos) e.env) (mkH e.b c) t pos₀ .next
      (mkH e.b ⟨c.objs ++ [{ cls := .type "list", data := .seq (lVals c.ns es t).toArray }], c.ns ++ [⟨hsh w b, .str b (lTk es t), .ref (29 + c.objs.length)⟩], c.pl⟩) (lTk es t + 1) np := by
  have k := XR_assign (c := c) (c₁ := { c with objs := c.objs ++ [{ cls := .type "list", data := .seq (lVals c.ns es t).toArray }] }) (t := t) (t₁ := lTk es t) (name := b) (np := np) (pos := pos) (pos₀ := pos₀) E hk fr rfl rfl
    (XR_List (pos := pos) (by have := lVals_length (ns := c.ns) es t; have : sizeLine = 2 ^ 24 := rfl; omega) (XL_all E es t q h1 hf))
  rw [mkH_size E.A] at k
  exact k
end
/-- The names of a row's statements are found. -/
theorem ent_of_row {w : World} : ∀ {r : Row} {x : Stmt × Nat × Nat}, x ∈ r → stB x.1 = true → ∃ en ∈ rEnt w r, en.key.isStr (bindOf x.1) = true
  | (st, n, t) :: r, x, hx, hs => by
    rcases List.mem_cons.mp hx with rfl | hx
    · have : ∃ en ∈ sEnt w st n t, en.key.isStr (bindOf st) = true := by
        have one : ∀ (b : Str) (hh : Int) (tk : Nat) (v : Value), ∃ en ∈ ([⟨hh, .str b tk, v⟩] : List DictEntry), en.key.isStr b = true := fun b hh tk v => ⟨_, .head _, by rw [isStr_str']; exact beq_self_eq_true _⟩
        exact st_cases (P := fun st => ∃ en ∈ sEnt w st n t, en.key.isStr (bindOf st) = true) hs (fun name po a va ko kd kw body scope ts bind pos => one _ _ _ _) (fun name po a va ko kd kw body scope ts bind pos k1 q1 i k2 q2 => one _ _ _ _) (fun n np i k q pos => one _ _ _ _) (fun n np x k q pos => one _ _ _ _)
      obtain ⟨en, h1, h2⟩ := this
      exact ⟨en, List.mem_append_left _ h1, h2⟩
    · obtain ⟨en, h1, h2⟩ := ent_of_row hx hs
      exact ⟨en, List.mem_append_right _ h1, h2⟩
theorem lookup_local {b : Str} : ∀ {l : List (Str × NameKind)}, l.all (fun x => x.2 == .local) = true → b ∈ l.map (·.1) → l.lookup b = some .local
  | [], _, h => nomatch h
  | (n, k) :: r, h, hm => by
    rw [List.all_cons, Bool.and_eq_true] at h
    have hk : k = .local := by simpa using h.1
    subst hk
    simp only [List.lookup]
    cases hb : b == n with
    | true => rfl
    | false =>
      rcases List.mem_cons.mp hm with q | q
      · have : b = n := q
        rw [this, beq_self_eq_true] at hb
        cases hb
      · exact lookup_local h.2 q
/-- The names of a written list, by their codes. -/
noncomputable def chkL (ks : List Nat) (dbg : Nat) : List Expr → List Nat → Bool
  | [], _ => true
  | .Name x _ :: r, k :: lk => Nat.beq k (enc x) && small x && !(awayN k ks) && !(Nat.beq k dbg) && chkL ks dbg r lk
  | .Name _ _ :: _, [] => false
  | .Constant (.int _) _ _ :: r, lk => chkL ks dbg r lk
  | _ :: _, _ => false
theorem awayN_false {k : Nat} : ∀ {l : List Nat}, awayN k l = false → k ∈ l
  | [], h => by cases h
  | a :: l, h => by
    have h : @Bool.rec (fun _ => Bool) (awayN k l) false (Nat.beq a k) = false := h
    cases hq : Nat.beq a k with
    | true => rw [Nat.eq_of_beq_eq_true hq]; exact .head _
    | false => rw [hq] at h; exact .tail _ (awayN_false h)
theorem chkL_name {ks : List Nat} {dbg : Nat} {x : Str} {q : Pos} : ∀ {es : List Expr} {lk : List Nat}, chkL ks dbg es lk = true → Expr.Name x q ∈ es → enc x ∈ ks ∧ small x = true ∧ enc x ≠ dbg
  | [], _, _, h => nomatch h
  | y :: r, lk, h, hm => by
    unfold chkL at h
    split at h
    · rename_i e; cases e
    · rename_i e; cases e
      simp only [Bool.and_eq_true, Bool.not_eq_true'] at h
      obtain ⟨⟨⟨⟨h1, h2⟩, h3⟩, h4⟩, h5⟩ := h
      rcases List.mem_cons.mp hm with e | hm
      · cases e
        have h1 := Nat.eq_of_beq_eq_true h1
        rw [← h1]
        exact ⟨awayN_false h3, h2, Nat.ne_of_beq_eq_false h4⟩
      · exact chkL_name h5 hm
    · cases h
    · rename_i e; cases e
      rcases List.mem_cons.mp hm with e | hm
      · cases e
      · exact chkL_name h hm
    · cases h
theorem chkL_items {ks : List Nat} {dbg : Nat} : ∀ {es : List Expr} {lk : List Nat}, chkL ks dbg es lk = true → es.all lItem = true
  | [], _, _ => rfl
  | y :: r, lk, h => by
    unfold chkL at h
    split at h
    · rename_i e; cases e
    · rename_i e; cases e
      simp only [Bool.and_eq_true] at h
      rw [List.all_cons, chkL_items h.2]; rfl
    · cases h
    · rename_i e; cases e
      rw [List.all_cons, chkL_items h]; rfl
    · cases h
theorem chk_code {k : Nat} : ∀ {l : List Stmt} {ks us : List Nat} {ln : Nat}, chk us ln l ks = true → l.length = ks.length → k ∈ ks → ∃ st ∈ l, enc (bindOf st) = k
  | [], [], _, _, _, _, h => nomatch h
  | [], _ :: _, _, _, _, h, _ => by simp at h
  | _ :: _, [], _, _, _, h, _ => by simp at h
  | st :: l, k' :: ks, us, ln, h, hl, hm => by
    unfold chk at h
    simp only [Bool.and_eq_true] at h
    obtain ⟨⟨⟨⟨h1, h2⟩, h3⟩, h4⟩, h5⟩ := h
    rcases List.mem_cons.mp hm with e | hm
    · exact ⟨st, .head _, by rw [e]; exact (Nat.eq_of_beq_eq_true h2).symm⟩
    · obtain ⟨s, a, b⟩ := chk_code h5 (by simpa using hl) hm
      exact ⟨s, .tail _ a, b⟩
theorem found_of {e : Ec} {w : World} {r : Row} {ks lk us : List Nat} {ln dbg : Nat} {es : List Expr} {ns : List DictEntry} (hd : dbg = enc ("__debug__" : Str)) (hc : chk us ln (r.map (·.1)) ks = true) (hl : r.length = ks.length) (hs : ∀ x ∈ r, stB x.1 = true) (sm : ∀ x ∈ r, small (bindOf x.1) = true)
    (hk : ∀ x ∈ r, e.env.kindOf (bindOf x.1) = some .local) (hL : chkL ks dbg es lk = true) (hns : ∀ en ∈ rEnt w r, en ∈ ns) : ∀ x q, Expr.Name x q ∈ es → Found e ns x := fun x q hx => by
  obtain ⟨h1, h2, h3⟩ := chkL_name hL hx
  obtain ⟨st, hst, e1⟩ := chk_code hc (by simpa using hl) h1
  obtain ⟨y, hy, rfl⟩ := List.mem_map.mp hst
  have := enc_inj (sm y hy) h2 e1
  subst this
  refine ⟨?_, hk y hy, ?_⟩
  · refine beq_eq_false_iff_ne.mpr fun z => h3 ?_
    rw [z, hd]
  · obtain ⟨en, a, b⟩ := ent_of_row (w := w) hy (hs y hy)
    rw [List.find?_isSome]
    exact ⟨en, hns en a, b⟩
theorem Inv.add {us : List Nat} {ln : Nat} {c : CS} (I : Inv us ln c) {objs : List Obj} {b : Str} {hh : Int} {t k : Nat} {v : Value} (hk : k = enc b) : Inv (k :: us) ln ⟨objs, c.ns ++ [⟨hh, .str b t, v⟩], c.pl⟩ := ⟨fun x hx => by
  rcases List.mem_append.mp hx with hx | hx
  · obtain ⟨n, t, a, c⟩ := I.ns x hx
    exact ⟨n, t, a, .tail _ c⟩
  · obtain rfl := List.mem_singleton.mp hx
    exact ⟨b, t, rfl, by rw [hk]; exact .head _⟩, I.pl⟩
theorem rowN_is {e : Ec} : ∀ (r : Row) (n t : Nat), rowOk r n t = true → (∀ x ∈ r, stB x.1 = true) → n + (rObjs e r).length = rowN r n
  | [], n, _, _, _ => rfl
  | (st, n', t') :: r, n, t, h, hs => by
    unfold rowOk at h
    simp only [Bool.and_eq_true] at h
    obtain ⟨⟨h1, h2⟩, h3⟩ := h
    have h1 := Nat.eq_of_beq_eq_true h1
    subst h1
    have := rowN_is (e := e) r (n' + sLen st) _ h3 fun x hx => hs x (.tail _ hx)
    show n' + (sObjs e st n' t' ++ rObjs e r).length = rowN r (n' + sLen st)
    rw [List.length_append, sObjs_length (hs _ (.head _)), ← this]
    dsimp only
    omega
noncomputable def lEs : Stmt → List Expr
  | .Assign _ (.List es _) _ => es
  | _ => []
noncomputable def lQ : Stmt → Pos
  | .Assign _ (.List _ q) _ => q
  | _ => default
noncomputable abbrev lForm (st : Stmt) : Stmt := .Assign [.Name (bindOf st) (endOf st)] (.List (lEs st) (lQ st)) (posOf st)
end
section
noncomputable def loG (ns : List DictEntry) (st : Stmt) (t : Nat) : Obj := { cls := .type "list", data := .seq (lVals ns (lEs st) t).toArray }
noncomputable def entG (w : World) (st : Stmt) (t n : Nat) : DictEntry := ⟨hsh w (bindOf st), .str (bindOf st) t, .ref n⟩
noncomputable def nsA (w : World) (ns0 : List DictEntry) (row : Row) : List DictEntry := ns0 ++ rEnt w row
noncomputable def nsB (w : World) (ns0 : List DictEntry) (row : Row) (s1 : Stmt) (t1 n : Nat) : List DictEntry := nsA w ns0 row ++ [entG w s1 t1 n]
noncomputable def nsC (w : World) (ns0 : List DictEntry) (row : Row) (s1 s2 : Stmt) (t1 t2 n : Nat) : List DictEntry := nsB w ns0 row s1 t1 n ++ [entG w s2 t2 (n + 1)]
noncomputable def nsD (w : World) (ns0 : List DictEntry) (row : Row) (s1 s2 s3 : Stmt) (t1 t2 t3 n : Nat) : List DictEntry := nsC w ns0 row s1 s2 t1 t2 n ++ [entG w s3 t3 (n + 2)]
noncomputable def objG (e : Ec) (w : World) (ns0 : List DictEntry) (row : Row) (s1 s2 s3 : Stmt) (t0 t1 t2 n : Nat) : List Obj :=
  rObjs e row ++ [loG (nsA w ns0 row) s1 t0] ++ [loG (nsB w ns0 row s1 t1 n) s2 (t1 + 1)] ++ [loG (nsC w ns0 row s1 s2 t1 t2 n) s3 (t2 + 1)]
noncomputable def stepsG (row : Row) (s1 s2 s3 : Stmt) : Nat := stepsAll (row.map (·.1)) + ((1 + ((1 + (lSteps (lEs s1) + 1)) + 8)) + ((1 + ((1 + (lSteps (lEs s2) + 1)) + 8)) + ((1 + ((1 + (lSteps (lEs s3) + 1)) + 8)) + 0)))
section
variable {p : Program} {n₀ : Nat} {ann : Option Value} {g : Array GenState} {d : Drawn} {os : OsState} {w : World} {e : Ec}
theorem body_gen (E : EcOk p n₀ ann g d os w e) {ns0 : List DictEntry} {row : Row} {ks us0 lk us1 : List Nat} {dbg t0 t1 t2 t3 n k1 k2 k3 T0 : Nat} {s1 s2 s3 : Stmt} {q0 : Pos} {cb : List Stmt}
    (I0 : Inv us0 0 ⟨[], ns0, []⟩) (hcb : row.map (·.1) ++ [s1, s2, s3] = cb) (kinds : ∀ st ∈ cb, e.env.kindOf (bindOf st) = some .local) (row_ok : rowOk row 29 T0 = true) (row_chk : chk us0 0 (row.map (·.1)) ks = true) (row_st : ∀ x ∈ row, stB x.1 = true)
    (row_T : rowT row T0 = t0) (row_N : rowN row 29 = n) (row_small : ∀ x ∈ row, small (bindOf x.1) = true) (row_len : row.length = ks.length) (lf1 : s1 = lForm s1) (lf2 : s2 = lForm s2) (lf3 : s3 = lForm s3) (dbg_is : dbg = enc ("__debug__" : Str))
    (lc1 : chkL ks dbg (lEs s1) lk = true) (lc2 : chkL ks dbg (lEs s2) [] = true) (lc3 : chkL ks dbg (lEs s3) [] = true) (us_is : lastUs (row.map (·.1)) ks us0 = us1) (k1_is : Nat.beq k1 (enc (bindOf s1)) = true) (k2_is : Nat.beq k2 (enc (bindOf s2)) = true) (k3_is : Nat.beq k3 (enc (bindOf s3)) = true)
    (aw1 : awayN k1 us1 = true) (aw2 : awayN k2 (k1 :: us1) = true) (aw3 : awayN k3 (k2 :: k1 :: us1) = true) (tk1 : lTk (lEs s1) t0 = t1) (tk2 : lTk (lEs s2) (t1 + 1) = t2) (tk3 : lTk (lEs s3) (t2 + 1) = t3)
    (ln1 : (lEs s1).length ≤ 1000) (ln2 : (lEs s2).length ≤ 1000) (ln3 : (lEs s3).length ≤ 1000) :
    XR p n₀ ann g d os w (stepsG row s1 s2 s3) (execs cb e.env) (mkH e.b ⟨[], ns0, []⟩) T0 q0 .next (mkH e.b ⟨objG e w ns0 row s1 s2 s3 t0 t1 t2 n, nsD w ns0 row s1 s2 s3 t1 t2 t3 n, rPl row⟩) (t3 + 1) (endOf s3) := by
  have rm : ∀ x ∈ row, x.1 ∈ cb := fun x hx => by rw [← hcb]; exact List.mem_append_left _ (List.mem_map_of_mem hx)
  have m1 : s1 ∈ cb := by rw [← hcb]; simp
  have m2 : s2 ∈ cb := by rw [← hcb]; simp
  have m3 : s3 ∈ cb := by rw [← hcb]; simp
  obtain ⟨x1, I1⟩ := XR_execs E (row.map (·.1)) ks us0 0 ⟨[], ns0, []⟩ T0 q0 row_chk (fun st hs => kinds st (by rw [← hcb]; exact List.mem_append_left _ hs)) I0
  rw [effAll_is row _ 29 T0 row_ok row_st rfl] at x1 I1
  rw [us_is] at I1
  simp only [List.nil_append, row_T] at x1 I1
  have nlen : 29 + (rObjs e row).length = n := (rowN_is row 29 T0 row_ok row_st).trans row_N
  have fo : ∀ (ns : List DictEntry) (s : Stmt) (lk : List Nat), chkL ks dbg (lEs s) lk = true → (∀ en ∈ rEnt w row, en ∈ ns) → ∀ x q, Expr.Name x q ∈ lEs s → Found e ns x := fun ns s lk lc hns => found_of dbg_is row_chk row_len row_st row_small (fun x hx => kinds _ (rm x hx)) lc hns
  have f1 := fo (nsA w ns0 row) s1 lk lc1 fun en he => List.mem_append_right _ he
  have f2 := fo (nsB w ns0 row s1 t1 n) s2 [] lc2 fun en he => List.mem_append_left _ (List.mem_append_right _ he)
  have f3 := fo (nsC w ns0 row s1 s2 t1 t2 n) s3 [] lc3 fun en he => List.mem_append_left _ (List.mem_append_left _ (List.mem_append_right _ he))
  have I2 := I1.add (objs := rObjs e row ++ [loG (nsA w ns0 row) s1 t0]) (hh := hsh w (bindOf s1)) (t := t1) (v := .ref n) (Nat.eq_of_beq_eq_true k1_is)
  have I3 := I2.add (objs := rObjs e row ++ [loG (nsA w ns0 row) s1 t0] ++ [loG (nsB w ns0 row s1 t1 n) s2 (t1 + 1)]) (hh := hsh w (bindOf s2)) (t := t2) (v := .ref (n + 1)) (Nat.eq_of_beq_eq_true k2_is)
  have y1 := XR_listSt (c := ⟨rObjs e row, nsA w ns0 row, rPl row⟩) (t := t0) (pos₀ := lastPos (row.map (·.1)) q0) (q := lQ s1) (pos := posOf s1) (np := endOf s1) E (chkL_items lc1) f1 ln1 (kinds _ m1) (I1.fresh k1_is aw1)
  have y2 := XR_listSt (c := ⟨rObjs e row ++ [loG (nsA w ns0 row) s1 t0], nsB w ns0 row s1 t1 n, rPl row⟩) (t := t1 + 1) (pos₀ := endOf s1) (q := lQ s2) (pos := posOf s2) (np := endOf s2) E (chkL_items lc2) f2 ln2 (kinds _ m2) (I2.fresh k2_is aw2)
  have y3 := XR_listSt (c := ⟨rObjs e row ++ [loG (nsA w ns0 row) s1 t0] ++ [loG (nsB w ns0 row s1 t1 n) s2 (t1 + 1)], nsC w ns0 row s1 s2 t1 t2 n, rPl row⟩) (t := t2 + 1) (pos₀ := endOf s2) (q := lQ s3) (pos := posOf s3) (np := endOf s3) E (chkL_items lc3) f3 ln3 (kinds _ m3) (I3.fresh k3_is aw3)
  rw [nlen, tk1] at y1
  rw [List.length_append, List.length_singleton, ← Nat.add_assoc 29 (rObjs e row).length 1, nlen, tk2] at y2
  rw [List.length_append, List.length_append, List.length_singleton, List.length_singleton, Nat.add_assoc (rObjs e row).length 1 1, ← Nat.add_assoc 29 (rObjs e row).length (1 + 1), nlen, tk3] at y3
  have ex : ∀ {st : Stmt} {a t t' : Nat} {h h' : Heap} {q q' : Pos}, st = lForm st → XR p n₀ ann g d os w a (exec (lForm st) e.env) h t q .next h' t' q' → XR p n₀ ann g d os w a (exec st e.env) h t q .next h' t' q' := fun e1 x => by
    rw [e1]; exact x
  rw [← hcb]
  refine XR_execs_app x1 ?_
  have one : ∀ {st : Stmt} {r : List Stmt} {h h₁ h₂ : Heap} {t t₁ t₂ a b : Nat} {pos pos₁ pos₂ : Pos}, XR p n₀ ann g d os w a (exec st e.env) h t pos .next h₁ t₁ pos₁ → XR p n₀ ann g d os w b (execs r e.env) h₁ t₁ pos₁ .next h₂ t₂ pos₂ → XR p n₀ ann g d os w (a + b) (execs (st :: r) e.env) h t pos .next h₂ t₂ pos₂ := fun x y => by
    rw [execs_cons]
    refine XR_bind x ?_
    exact y
  refine one (ex lf1 y1) ?_
  refine one (ex lf2 y2) ?_
  refine one (ex lf3 y3) ?_
  exact XR_pure
end
end
section
noncomputable section
abbrev PP : Program := PySem.Challenge.pw_me0006_06
noncomputable def pst (i : Nat) : Stmt := (PP.main.body[i]?).getD (.Pass default)
noncomputable def lawI : Nat := PP.main.body.length - 1
noncomputable def sBody : Stmt → List Stmt
  | .FunctionDef _ _ b _ _ _ _ _ _ _ => b
  | .ClassDef _ _ _ b _ _ _ _ _ _ _ => b
  | _ => []
noncomputable def sArgs : Stmt → Arguments
  | .FunctionDef _ a _ _ _ _ _ _ _ _ => a
  | _ => default
noncomputable def sScope : Stmt → Scope
  | .FunctionDef _ _ _ _ _ _ s _ _ _ => s
  | .ClassDef _ _ _ _ _ _ s _ _ _ _ => s
  | _ => default
noncomputable def sName : Stmt → Str
  | .FunctionDef n _ _ _ _ _ _ _ _ _ => n
  | _ => default
noncomputable def cb : List Stmt := sBody (pst 2)
noncomputable def cst (i : Nat) : Stmt := (cb[i]?).getD (.Pass default)
noncomputable abbrev S (x : String) : Str := Str.ofString x
noncomputable abbrev annV : Option Value := some (.ref 6)
noncomputable def menv : Env := { scope := PP.main.scope, locals := mainNs, globals := mainNs, cells := [], code := .ref 13, frame := some 14 }
noncomputable def cenv : Env := { scope := sScope (pst 2), locals := 24, globals := mainNs, cells := [], qual := S "MPU.", func := none, code := .ref 27, frame := some 28, builtins := 0 }
noncomputable def mcode : Code := .body (behindTheImports PP) menv
noncomputable abbrev qP : Pos := default
section
variable (w : World)
noncomputable abbrev h (x : Str) : Int := hsh w x
noncomputable def o11 : Obj := ⟨(.type "tuple"), none, .seq #[] 0, #[]⟩
noncomputable def o12 : Obj := ⟨.none, none, .fields #[(.int 1 0), (.int 0 0), (.ref 20), (.int 5 0), (.int 0 0), (.ref 27)], #[]⟩
noncomputable def o13 : Obj := ⟨(.type "code"), none, .fields #[(.str (S "<module>") 182), (.str (S "<module>") 183), (.str (S "/claim/cut.py") 184), (.int 1 0), (.int 0 0), (.int 0 0), (.int 0 0), (.int 0 0), (.ref 11), (.bool false), (.int 181 0), (.ref 12), .none, .none, .none, .none, (.int 185 0), (.int 1 0), (.str (S "/claim/cut.py") 186)], #[]⟩
noncomputable def o14 : Obj := ⟨(.type "frame"), none, .plain, #[some (.ref 13), some (.ref 3), some (.ref 3), none, some (.str (S "__main__") 164), none, some (.ref 0)]⟩
noncomputable def o15 : Obj := ⟨(.type "tuple"), none, .seq #[] 0, #[]⟩
noncomputable def o16 : Obj := ⟨.none, none, .fields #[], #[]⟩
noncomputable def o17 : Obj := ⟨(.type "tuple"), none, .seq #[(.str (S "k") 190)] 0, #[]⟩
noncomputable def o18 : Obj := ⟨(.type "tuple"), none, .seq #[] 0, #[]⟩
noncomputable def o19 : Obj := ⟨.none, none, .func { name := (S "_wall"), qualname := (S "_wall"), params := sArgs (pst 0), body := .stmts (sBody (pst 0)), scope := sScope (pst 0), globals := 0, closure := [], defaults := .none, kwdefaults := .none, doc := .none, pyModule := .none, annotations := none, code := .none, closureTuple := .none, builtins := 0 }, #[]⟩
noncomputable def o20 : Obj := ⟨(.type "code"), none, .fields #[(.str (S "_wall") 187), (.str (S "_wall") 188), (.str (S "/claim/cut.py") 189), (.int 1 0), (.int 1 0), (.int 0 0), (.int 0 0), (.int 3 0), (.ref 15), (.bool true), (.int 181 0), (.ref 16), .none, (.ref 17), (.ref 18), (.ref 19), (.int 191 0), (.int 1 0), (.str (S "/claim/cut.py") 192)], #[]⟩
noncomputable def o21 : Obj := ⟨(.type "function"), none, .func { name := (S "_wall"), qualname := (S "_wall"), params := sArgs (pst 0), body := .stmts (sBody (pst 0)), scope := sScope (pst 0), globals := 3, closure := [], defaults := .none, kwdefaults := .none, doc := .none, pyModule := (.str (S "__main__") 164), annotations := none, code := (.ref 20), closureTuple := .none, builtins := 0 }, #[]⟩
noncomputable def o3a : Obj := ⟨(.type "dict"), none, .dict #[⟨h w (S "__name__"), .str (S "__name__") 165, (.str (S "py65.devices.mpu6502") 194)⟩, ⟨h w (S "__doc__"), .str (S "__doc__") 166, .none⟩, ⟨h w (S "__package__"), .str (S "__package__") 167, .none⟩, ⟨h w (S "__loader__"), .str (S "__loader__") 168, (.builtin "__main__.__loader__#opaque")⟩, ⟨h w (S "__spec__"), .str (S "__spec__") 169, .none⟩, ⟨h w (S "__annotations__"), .str (S "__annotations__") 170, (.ref 6)⟩, ⟨h w (S "__builtins__"), .str (S "__builtins__") 171, (.ref 4)⟩, ⟨h w (S "__file__"), .str (S "__file__") 173, (.str (S "/claim/cut.py") 172)⟩, ⟨h w (S "__cached__"), .str (S "__cached__") 174, .none⟩, ⟨h w (S "_wall"), .str (S "_wall") 193, (.ref 21)⟩] 10, #[]⟩
noncomputable def o22 : Obj := ⟨(.type "tuple"), none, .seq #[] 0, #[]⟩
noncomputable def o23 : Obj := ⟨(.type "builtin_function_or_method"), none, .fields #[(.builtin "type.__prepare__"), (.type "type")], #[]⟩
noncomputable def o25 : Obj := ⟨(.type "tuple"), none, .seq #[] 0, #[]⟩
noncomputable def o27 : Obj := ⟨(.type "code"), none, .fields #[(.str (S "MPU") 198), (.str (S "MPU") 199), (.str (S "/claim/cut.py") 200), (.int 5 0), (.int 0 0), (.int 0 0), (.int 0 0), (.int 0 0), (.ref 25), (.bool false), (.int 181 0), (.ref 26), .none, .none, .none, .none, (.int 201 0), (.int 5 0), (.str (S "/claim/cut.py") 202)], #[]⟩
noncomputable def o28 : Obj := ⟨(.type "frame"), none, .plain, #[some (.ref 27), some (.ref 3), some (.ref 24), none, some (.str (S "py65.devices.mpu6502") 194), none, some (.ref 0)]⟩
noncomputable def L0 : List Obj := [boot_o_0 w.params, boot_o_1 w.params, boot_o_2 w.params, boot_o_3 w.params, boot_o_4 w.params, boot_o_5 w.params, boot_o_6 w.params, boot_o_7 w.params, boot_o_8 w.params, boot_o_9 w.params, boot_o_10 w.params]
noncomputable def A109 : List Obj := [boot_o_0 w.params, boot_o_1 w.params, boot_o_2 w.params, o3a w, boot_o_4 w.params, boot_o_5 w.params, boot_o_6 w.params, boot_o_7 w.params, boot_o_8 w.params, boot_o_9 w.params, boot_o_10 w.params, o11, o12, o13, o14, o15, o16, o17, o18, o19, o20, o21, o22, o23]
noncomputable def ns0 : List DictEntry := [⟨h w (S "__module__"), .str (S "__module__") 203, (.str (S "py65.devices.mpu6502") 194)⟩, ⟨h w (S "__qualname__"), .str (S "__qualname__") 205, (.str (S "MPU") 204)⟩, ⟨h w (S "__firstlineno__"), .str (S "__firstlineno__") 207, (.int 5 206)⟩]
noncomputable def bs : Bs := ⟨A109 w, o25, o27, o28, (boot_heap w.params).life⟩
noncomputable def S0 (os : OsState) : SharedT := ⟨btOf 4 (L0 w), 11, (boot_heap w.params).life, Array.mk [], boot_drawn, boot_toks, os⟩
noncomputable def L109 : List Obj := A109 w ++ (nsObj (ns0 w) :: o25 :: plObj [] :: o27 :: o28 :: [])
noncomputable def S109 (os : OsState) : SharedT := ⟨btOf 5 (L109 w), 29, (boot_heap w.params).life, Array.mk [], boot_drawn, 208, os⟩
noncomputable abbrev p109 : Pos := ⟨5, 0, 1036, 786⟩
/-- The way into the class's block, by the library's quick twins. -/
noncomputable def go109 (os : OsState) : Option (SharedT × Thread) := PySem.W.Fast.tw10295753902157049106 PySem.W.Fast.tw14364793385576792824 PP w 11 annV 0 109 (S0 w os) (topStub PP)
noncomputable def stk (os : OsState) : List Frame := match go109 w os with
  | some (_, t) => t.stack
  | none => []
noncomputable def fr1 (os : OsState) : Frame := match stk w os with
  | f :: _ => f
  | [] => topFrame qP
end
theorem go109_is (w : World) (os : OsState) : go109 w os = some (S109 w os, ⟨PySem.W.Fast.tw11892475500146522536 PySem.W.Fast.tw14364793385576792824 (.body cb cenv), .body cb cenv, p109, fr1 w os :: (stk w os).tail⟩) := by kernel_rfl
end
end
section
noncomputable def nmL : List Str := [Str.ofString "self", Str.ofString "name", Str.ofString "byteMask", Str.ofString "addrMask", Str.ofString "addrHighMask", Str.ofString "spBase", Str.ofString "excycles", Str.ofString "addcycles", Str.ofString "processorCycles", Str.ofString "memory", Str.ofString "start_pc", Str.ofString "pc", Str.ofString "sp", Str.ofString "a", Str.ofString "x", Str.ofString "y", Str.ofString "p", Str.ofString "RESET", Str.ofString "NMI", Str.ofString "IRQ", Str.ofString "NEGATIVE", Str.ofString "OVERFLOW", Str.ofString "UNUSED", Str.ofString "BREAK", Str.ofString "DECIMAL", Str.ofString "INTERRUPT", Str.ofString "ZERO", Str.ofString "CARRY", Str.ofString "BYTE_WIDTH", Str.ofString "ADDR_WIDTH", Str.ofString "instruct", Str.ofString "cycletime", Str.ofString "extracycles", Str.ofString "__init__", Str.ofString "step", Str.ofString "reset", Str.ofString "irq", Str.ofString "ByteAt", Str.ofString "WordAt", Str.ofString "ProgramCounter", Str.ofString "ZeroPageAddr", Str.ofString "ImmediateByte", Str.ofString "AbsoluteXAddr", Str.ofString "BranchRelAddr", Str.ofString "stPush", Str.ofString "stPop", Str.ofString "stPushWord", Str.ofString "stPopWord", Str.ofString "FlagsNZ", Str.ofString "opORA", Str.ofString "opBCL", Str.ofString "opCLR", Str.ofString "opSET", Str.ofString "opSTA", Str.ofString "opDECR", Str.ofString "opINCR", Str.ofString "opLDA", Str.ofString "opLDX", Str.ofString "inst_0x48", Str.ofString "inst_0x8a", Str.ofString "inst_0xa6", Str.ofString "inst_0xa5", Str.ofString "inst_0x9d", Str.ofString "inst_0xe6", Str.ofString "inst_0x58", Str.ofString "inst_0x78", Str.ofString "inst_0xc6", Str.ofString "inst_0x09", Str.ofString "inst_0x68", Str.ofString "inst_0xaa", Str.ofString "inst_0x40", Str.ofString "inst_0xa2", Str.ofString "inst_0xca", Str.ofString "inst_0xd0", Str.ofString "instructCode", Str.ofString "addr", Str.ofString "a1", Str.ofString "a2", Str.ofString "z", Str.ofString "value", Str.ofString "tbyte", Str.ofString "script", Str.ofString "law", Str.ofString "seeds", Str.ofString "rounds", Str.ofString "octets", Str.ofString "_law_steps", Str.ofString "plain", Str.ofString "mpu", Str.ofString "waits", Str.ofString "word", Str.ofString "places", Str.ofString "at", Str.ofString "octet", Str.ofString "place", Str.ofString "enumerate", Str.ofString "MPU", Str.ofString "called", Str.ofString "wait", Str.ofString "main", Str.ofString "taken", Str.ofString "open_ones", Str.ofString "append", Str.ofString "free", Str.ofString "stands", Str.ofString "len", Str.ofString "number", Str.ofString "turn", Str.ofString "seed", Str.ofString "pop", Str.ofString "sum", Str.ofString "done", Str.ofString "min", Str.ofString "_wall", Str.ofString "__name__"]
noncomputable abbrev nm : Nat → Str := nmOf nmL
theorem n_self : Str.ofString "self" = nm 0 := rfl
theorem n_name : Str.ofString "name" = nm 1 := rfl
theorem n_byteMask : Str.ofString "byteMask" = nm 2 := rfl
theorem n_addrMask : Str.ofString "addrMask" = nm 3 := rfl
theorem n_addrHighMask : Str.ofString "addrHighMask" = nm 4 := rfl
theorem n_spBase : Str.ofString "spBase" = nm 5 := rfl
theorem n_excycles : Str.ofString "excycles" = nm 6 := rfl
theorem n_addcycles : Str.ofString "addcycles" = nm 7 := rfl
theorem n_processorCycles : Str.ofString "processorCycles" = nm 8 := rfl
theorem n_memory : Str.ofString "memory" = nm 9 := rfl
theorem n_start_pc : Str.ofString "start_pc" = nm 10 := rfl
theorem n_pc : Str.ofString "pc" = nm 11 := rfl
theorem n_sp : Str.ofString "sp" = nm 12 := rfl
theorem n_a : Str.ofString "a" = nm 13 := rfl
theorem n_x : Str.ofString "x" = nm 14 := rfl
theorem n_y : Str.ofString "y" = nm 15 := rfl
theorem n_p : Str.ofString "p" = nm 16 := rfl
theorem n_RESET : Str.ofString "RESET" = nm 17 := rfl
theorem n_NMI : Str.ofString "NMI" = nm 18 := rfl
theorem n_IRQ : Str.ofString "IRQ" = nm 19 := rfl
theorem n_NEGATIVE : Str.ofString "NEGATIVE" = nm 20 := rfl
theorem n_OVERFLOW : Str.ofString "OVERFLOW" = nm 21 := rfl
theorem n_UNUSED : Str.ofString "UNUSED" = nm 22 := rfl
theorem n_BREAK : Str.ofString "BREAK" = nm 23 := rfl
theorem n_DECIMAL : Str.ofString "DECIMAL" = nm 24 := rfl
theorem n_INTERRUPT : Str.ofString "INTERRUPT" = nm 25 := rfl
theorem n_ZERO : Str.ofString "ZERO" = nm 26 := rfl
theorem n_CARRY : Str.ofString "CARRY" = nm 27 := rfl
theorem n_BYTE_WIDTH : Str.ofString "BYTE_WIDTH" = nm 28 := rfl
theorem n_ADDR_WIDTH : Str.ofString "ADDR_WIDTH" = nm 29 := rfl
theorem n_instruct : Str.ofString "instruct" = nm 30 := rfl
theorem n_cycletime : Str.ofString "cycletime" = nm 31 := rfl
theorem n_extracycles : Str.ofString "extracycles" = nm 32 := rfl
theorem n_init_u : Str.ofString "__init__" = nm 33 := rfl
theorem n_step : Str.ofString "step" = nm 34 := rfl
theorem n_reset : Str.ofString "reset" = nm 35 := rfl
theorem n_irq : Str.ofString "irq" = nm 36 := rfl
theorem n_ByteAt : Str.ofString "ByteAt" = nm 37 := rfl
theorem n_WordAt : Str.ofString "WordAt" = nm 38 := rfl
theorem n_ProgramCounter : Str.ofString "ProgramCounter" = nm 39 := rfl
theorem n_ZeroPageAddr : Str.ofString "ZeroPageAddr" = nm 40 := rfl
theorem n_ImmediateByte : Str.ofString "ImmediateByte" = nm 41 := rfl
theorem n_AbsoluteXAddr : Str.ofString "AbsoluteXAddr" = nm 42 := rfl
theorem n_BranchRelAddr : Str.ofString "BranchRelAddr" = nm 43 := rfl
theorem n_stPush : Str.ofString "stPush" = nm 44 := rfl
theorem n_stPop : Str.ofString "stPop" = nm 45 := rfl
theorem n_stPushWord : Str.ofString "stPushWord" = nm 46 := rfl
theorem n_stPopWord : Str.ofString "stPopWord" = nm 47 := rfl
theorem n_FlagsNZ : Str.ofString "FlagsNZ" = nm 48 := rfl
theorem n_opORA : Str.ofString "opORA" = nm 49 := rfl
theorem n_opBCL : Str.ofString "opBCL" = nm 50 := rfl
theorem n_opCLR : Str.ofString "opCLR" = nm 51 := rfl
theorem n_opSET : Str.ofString "opSET" = nm 52 := rfl
theorem n_opSTA : Str.ofString "opSTA" = nm 53 := rfl
theorem n_opDECR : Str.ofString "opDECR" = nm 54 := rfl
theorem n_opINCR : Str.ofString "opINCR" = nm 55 := rfl
theorem n_opLDA : Str.ofString "opLDA" = nm 56 := rfl
theorem n_opLDX : Str.ofString "opLDX" = nm 57 := rfl
theorem n_inst_0x48 : Str.ofString "inst_0x48" = nm 58 := rfl
theorem n_inst_0x8a : Str.ofString "inst_0x8a" = nm 59 := rfl
theorem n_inst_0xa6 : Str.ofString "inst_0xa6" = nm 60 := rfl
theorem n_inst_0xa5 : Str.ofString "inst_0xa5" = nm 61 := rfl
theorem n_inst_0x9d : Str.ofString "inst_0x9d" = nm 62 := rfl
theorem n_inst_0xe6 : Str.ofString "inst_0xe6" = nm 63 := rfl
theorem n_inst_0x58 : Str.ofString "inst_0x58" = nm 64 := rfl
theorem n_inst_0x78 : Str.ofString "inst_0x78" = nm 65 := rfl
theorem n_inst_0xc6 : Str.ofString "inst_0xc6" = nm 66 := rfl
theorem n_inst_0x09 : Str.ofString "inst_0x09" = nm 67 := rfl
theorem n_inst_0x68 : Str.ofString "inst_0x68" = nm 68 := rfl
theorem n_inst_0xaa : Str.ofString "inst_0xaa" = nm 69 := rfl
theorem n_inst_0x40 : Str.ofString "inst_0x40" = nm 70 := rfl
theorem n_inst_0xa2 : Str.ofString "inst_0xa2" = nm 71 := rfl
theorem n_inst_0xca : Str.ofString "inst_0xca" = nm 72 := rfl
theorem n_inst_0xd0 : Str.ofString "inst_0xd0" = nm 73 := rfl
theorem n_instructCode : Str.ofString "instructCode" = nm 74 := rfl
theorem n_addr : Str.ofString "addr" = nm 75 := rfl
theorem n_a1 : Str.ofString "a1" = nm 76 := rfl
theorem n_a2 : Str.ofString "a2" = nm 77 := rfl
theorem n_z : Str.ofString "z" = nm 78 := rfl
theorem n_value : Str.ofString "value" = nm 79 := rfl
theorem n_tbyte : Str.ofString "tbyte" = nm 80 := rfl
theorem n_script : Str.ofString "script" = nm 81 := rfl
theorem n_law : Str.ofString "law" = nm 82 := rfl
theorem n_seeds : Str.ofString "seeds" = nm 83 := rfl
theorem n_rounds : Str.ofString "rounds" = nm 84 := rfl
theorem n_octets : Str.ofString "octets" = nm 85 := rfl
theorem n_law_steps_u : Str.ofString "_law_steps" = nm 86 := rfl
theorem n_plain : Str.ofString "plain" = nm 87 := rfl
theorem n_mpu : Str.ofString "mpu" = nm 88 := rfl
theorem n_waits : Str.ofString "waits" = nm 89 := rfl
theorem n_word : Str.ofString "word" = nm 90 := rfl
theorem n_places : Str.ofString "places" = nm 91 := rfl
theorem n_at : Str.ofString "at" = nm 92 := rfl
theorem n_octet : Str.ofString "octet" = nm 93 := rfl
theorem n_place : Str.ofString "place" = nm 94 := rfl
theorem n_enumerate : Str.ofString "enumerate" = nm 95 := rfl
theorem n_MPU : Str.ofString "MPU" = nm 96 := rfl
theorem n_called : Str.ofString "called" = nm 97 := rfl
theorem n_wait : Str.ofString "wait" = nm 98 := rfl
theorem n_main : Str.ofString "main" = nm 99 := rfl
theorem n_taken : Str.ofString "taken" = nm 100 := rfl
theorem n_open_ones : Str.ofString "open_ones" = nm 101 := rfl
theorem n_append : Str.ofString "append" = nm 102 := rfl
theorem n_free : Str.ofString "free" = nm 103 := rfl
theorem n_stands : Str.ofString "stands" = nm 104 := rfl
theorem n_len : Str.ofString "len" = nm 105 := rfl
theorem n_number : Str.ofString "number" = nm 106 := rfl
theorem n_turn : Str.ofString "turn" = nm 107 := rfl
theorem n_seed : Str.ofString "seed" = nm 108 := rfl
theorem n_pop : Str.ofString "pop" = nm 109 := rfl
theorem n_sum : Str.ofString "sum" = nm 110 := rfl
theorem n_done : Str.ofString "done" = nm 111 := rfl
theorem n_min : Str.ofString "min" = nm 112 := rfl
theorem n_wall_u : Str.ofString "_wall" = nm 113 := rfl
theorem n_name_u : Str.ofString "__name__" = nm 114 := rfl
theorem nm_ok : NOk nm := nmOf_ok (by decide +kernel) (by decide +kernel) (by decide +kernel)
noncomputable abbrev CA : Addr := 1428
/-- The class's ints, by a name's code. -/
noncomputable def cint : Nat → Option Int := fun n => List.lookup n [(17, 65532), (18, 65530), (19, 65534), (20, 128), (21, 64), (22, 32), (23, 16), (24, 8), (25, 4), (26, 2), (27, 1), (28, 8), (29, 16)]
/-- Its functions: a name's code, the address. -/
noncomputable def cfn : Nat → Option Addr := fun n => List.lookup n [(33, 36), (34, 43), (35, 50), (36, 57), (37, 71), (38, 78), (39, 92), (40, 106), (41, 99), (42, 148), (43, 162), (44, 169), (45, 176), (46, 183), (47, 190), (48, 197), (49, 204), (50, 225), (51, 239), (52, 246), (53, 295), (54, 330), (55, 337), (56, 344), (57, 358), (58, 652), (59, 911), (60, 1037), (61, 1030), (62, 995), (63, 1324), (64, 722), (65, 848), (66, 1191), (67, 407), (68, 778), (69, 1058), (70, 624), (71, 1016), (72, 1212), (73, 1240)]
/-- Which statement of the class a function was made by. -/
noncomputable def cidx : Addr → Option Nat := fun n => List.lookup n [(36, 15), (43, 16), (50, 17), (57, 18), (71, 20), (78, 21), (92, 23), (106, 25), (99, 24), (148, 31), (162, 33), (169, 34), (176, 35), (183, 36), (190, 37), (197, 38), (204, 39), (225, 42), (239, 44), (246, 45), (295, 52), (330, 57), (337, 58), (344, 59), (358, 61), (652, 103), (911, 140), (1037, 158), (1030, 157), (995, 152), (1324, 199), (722, 113), (848, 131), (1191, 180), (407, 68), (778, 121), (1058, 161), (624, 99), (1016, 155), (1212, 183), (1240, 187)]
noncomputable def cref : Nat → Option Addr := fun n => List.lookup n [(30, 1423), (31, 1424), (32, 1425)]
noncomputable def cfld : Nat → Bool := fun n => decide (1 ≤ n ∧ n ≤ 16)
/-- The tables at an opcode: the function, the cycles, the extra cycles. -/
noncomputable def optab : Nat → Option (Addr × Int × Int) := fun n => List.lookup n [(72, 652, 3, 0), (138, 911, 2, 0), (166, 1037, 3, 0), (165, 1030, 3, 0), (157, 995, 5, 0), (230, 1324, 5, 0), (88, 722, 2, 0), (120, 848, 2, 0), (198, 1191, 5, 0), (9, 407, 2, 0), (104, 778, 4, 0), (170, 1058, 2, 0), (64, 624, 6, 0), (162, 1016, 2, 0), (202, 1212, 2, 0), (208, 1240, 2, 2)]
/-- A list that the top has made holds v at k. -/
noncomputable def KItem (K : Frag) (y : Addr) (k : Nat) (v : Value) : Prop := ∃ o vs n, K.lookup y = some o ∧ o.cls = .type "list" ∧ o.data = .seq vs n ∧ vs[k]? = some v
noncomputable def fobj (f : Addr) (i : Nat) (dV : Value) : Obj :=
  ⟨.type "function", none, .func (fnOf (sName (cst i)) ("MPU." ++ sName (cst i)) (sArgs (cst i)) (sBody (cst i)) (sScope (cst i)) dV .none .none (.str "py65.devices.mpu6502" 194) none (.ref (f - 1)) .none), #[]⟩
noncomputable def lobj (vs : Array Value) : Obj := ⟨.type "list", none, .seq vs 0, #[]⟩
/-- What the walk asks of the written part of the heap. -/
structure KF (K : Frag) : Prop where
  cls : ClsOk K CA
  fld : ∀ n, cfld n = true → FieldOk K CA (nm n)
  int : ∀ n i, cint n = some i → ClsInt K CA (nm n) i
  fn : ∀ n f, cfn n = some f → ClsFn K CA (nm n) f
  isfn : ∀ f i, cidx f = some i → fnIn K f = true ∧ keepIn K (.ref f) = true
  ref : ∀ n a, cref n = some a → ClsRef K CA (nm n) a
  obj : ∀ f i, cidx f = some i → K.lookup f = some (fobj f i (if f = 36 then .ref 29 else .none))
  code : ∀ f i, cidx f = some i → codeIn K (.ref (f - 1)) ("MPU." ++ sName (cst i)) = true
  tab : ∀ k f i j, optab k = some (f, i, j) → KItem K 1423 k (.ref f) ∧ (∃ t, KItem K 1424 k (.int i t)) ∧ ∃ t, KItem K 1425 k (.int j t)
end
/-- The names by their codes. -/
local macro_rules | `(tactic| kpf_close) => `(tactic| simp only [n_self, n_name, n_byteMask, n_addrMask, n_addrHighMask, n_spBase, n_excycles, n_addcycles, n_processorCycles, n_memory, n_start_pc, n_pc, n_sp, n_a, n_x, n_y, n_p, n_RESET, n_NMI, n_IRQ, n_NEGATIVE, n_OVERFLOW, n_UNUSED, n_BREAK, n_DECIMAL, n_INTERRUPT, n_ZERO, n_CARRY, n_BYTE_WIDTH, n_ADDR_WIDTH, n_instruct, n_cycletime, n_extracycles, n_init_u, n_step, n_reset, n_irq, n_ByteAt, n_WordAt, n_ProgramCounter, n_ZeroPageAddr, n_ImmediateByte, n_AbsoluteXAddr, n_BranchRelAddr, n_stPush, n_stPop, n_stPushWord, n_stPopWord, n_FlagsNZ, n_opORA, n_opBCL, n_opCLR, n_opSET, n_opSTA, n_opDECR, n_opINCR, n_opLDA, n_opLDX, n_inst_0x48, n_inst_0x8a, n_inst_0xa6, n_inst_0xa5, n_inst_0x9d, n_inst_0xe6, n_inst_0x58, n_inst_0x78, n_inst_0xc6, n_inst_0x09, n_inst_0x68, n_inst_0xaa, n_inst_0x40, n_inst_0xa2, n_inst_0xca, n_inst_0xd0, n_instructCode, n_addr, n_a1, n_a2, n_z, n_value, n_tbyte, n_script, n_law, n_seeds, n_rounds, n_octets, n_law_steps_u, n_plain, n_mpu, n_waits, n_word, n_places, n_at, n_octet, n_place, n_enumerate, n_MPU, n_called, n_wait, n_main, n_taken, n_open_ones, n_append, n_free, n_stands, n_len, n_number, n_turn, n_seed, n_pop, n_sum, n_done, n_min, n_wall_u, n_name_u])
section
structure Cpu where
  ex : Int
  ad : AV
  cy : Int
  spc : Int
  pc : Int
  sp : Int
  a : Int
  x : Int
  y : Int
  p : Int
  mem : List Int
noncomputable def fsOf (y : Addr) (c : Cpu) : List (Nat × AV) :=
  [(1, .any), (2, .int 255), (3, .int 65535), (4, .int 65280), (5, .int 256), (6, .int c.ex), (7, c.ad), (8, .int c.cy), (9, .ref y), (10, .int c.spc), (11, .int c.pc), (12, .int c.sp), (13, .int c.a), (14, .int c.x), (15, .int c.y), (16, .int c.p)]
noncomputable def hpOf (x d y : Addr) (c : Cpu) (rest : List (Addr × AO)) : List (Addr × AO) := (x, .inst CA d) :: (d, .dict (fsOf y c)) :: (y, .ints c.mem) :: rest
theorem binds1 {fd : FuncData} {a : AV} {n : Nat} (h : ∀ v, bindArgs fd ⟨[v], []⟩ = pure [(nm n, v)]) : ∀ vs s, RepL [a] vs → BindsTo s fd ⟨vs, []⟩ (([n].map nm).zip vs)
  | [v], s, _ => BindsTo.of_eq (h v)
  | [], s, r => r.elim
  | _ :: _ :: _, s, r => r.2.elim
theorem binds2 {fd : FuncData} {a b : AV} {n k : Nat} (h : ∀ u v, bindArgs fd ⟨[u, v], []⟩ = pure [(nm n, u), (nm k, v)]) : ∀ vs s, RepL [a, b] vs → BindsTo s fd ⟨vs, []⟩ (([n, k].map nm).zip vs)
  | [u, v], s, _ => BindsTo.of_eq (h u v)
  | [], s, r => r.elim
  | [_], s, r => r.2.elim
  | _ :: _ :: _ :: _, s, r => r.2.2.elim
noncomputable def mok (i : Nat) (ns : List Nat) : Bool :=
  (ns.all fun n => (sScope (cst i)).names.lookup (nm n) == some .local) && decide ns.Nodup && !(sScope (cst i)).isCoroutine && !(sScope (cst i)).isGenerator && (sScope (cst i)).kind == .function && (sScope (cst i)).names.all fun x => x.2 != .cell
variable {G : Gl} {cs : Scope} {Φ : Cx G cs} {σ : St}
theorem CL_m (H : KF G.K) {f : Addr} {i : Nat} {ns : List Nat} {args : List AV} {Q : AV → St → Prop} (hi : cidx f = some i) (hroom : Φ.A.depth < recursionLimit) (ok : mok i ns = true)
    (hbind : ∀ vs s, RepL args vs → BindsTo s (fnOf (sName (cst i)) ("MPU." ++ sName (cst i)) (sArgs (cst i)) (sBody (cst i)) (sScope (cst i)) (if f = 36 then .ref 29 else .none) .none .none (.str "py65.devices.mpu6502" 194) none (.ref (f - 1)) .none) ⟨vs, []⟩ ((ns.map nm).zip vs))
    (h : ∀ Φ' : Cx G (sScope (cst i)), Φ'.A.depth = Φ.A.depth + 1 → EX nm Φ' (sBody (cst i)) ⟨ns.zip args, σ.hp⟩ fun fl σ' => Q (retv fl) ⟨σ.loc, σ'.hp⟩) : CL nm Φ f args σ Q := by
  unfold mok at ok
  simp only [Bool.and_eq_true, List.all_eq_true, beq_iff_eq, decide_eq_true_eq, Bool.not_eq_true', bne_iff_ne] at ok
  obtain ⟨⟨⟨⟨⟨o1, o2⟩, o3⟩, o4⟩, o5⟩, o6⟩ := ok
  exact CL_def nm_ok (H.obj f i hi) (H.code f i hi) hroom hbind o1 o2 o3 o4 o5 o6 h
theorem thenX_next {P R : Prop} (h : P) : ThenX .next P R := ⟨h⟩
theorem thenX_ret {P R : Prop} {v : AV} (h : R) : ThenX (.ret v) P R := ⟨h⟩
theorem if_both {b : Bool} {P R : Prop} (h1 : b = true → P) (h2 : b = false → R) : (b = true → P) ∧ (b = false → R) := ⟨h1, h2⟩
theorem intBits_le {i : Int} (h0 : 0 ≤ i) (h : i < 65536) : (Builtin.Int.intBits i : Int) + 8 ≤ 2 ^ 27 := by
  unfold Builtin.Int.intBits
  split
  · decide
  · rename_i q
    have q : i ≠ 0 := by simpa using q
    have : i.natAbs.log2 < 16 := (Nat.log2_lt (by omega)).mpr (by omega)
    omega
theorem pow8 : (2 : Int) ^ Int.toNat 8 = 256 := by decide
/-- The flags N and Z of a value. -/
noncomputable def nz (p v : Int) : Int := if v = 0 then Builtin.bitOr (Builtin.bitAnd p (Builtin.bitNot (Builtin.bitOr 2 128))) 2 else Builtin.bitOr (Builtin.bitAnd p (Builtin.bitNot (Builtin.bitOr 2 128))) (Builtin.bitAnd v 128)
section
variable {x d y : Addr} {c : Cpu} {rest : List (Addr × AO)} {loc : List (Nat × AV)} {Q : AV → St → Prop} {R : St → Prop}
theorem hp_inst : (x, AO.inst CA d) ∈ (⟨loc, hpOf x d y c rest⟩ : St).hp := .head _
theorem hp_dict : (d, AO.dict (fsOf y c)) ∈ (⟨loc, hpOf x d y c rest⟩ : St).hp := .tail _ (.head _)
theorem hp_mem : (y, AO.ints c.mem) ∈ (⟨loc, hpOf x d y c rest⟩ : St).hp := .tail _ (.tail _ (.head _))
theorem hp_rest {q : Addr × AO} (h : q ∈ rest) : q ∈ (⟨loc, hpOf x d y c rest⟩ : St).hp := .tail _ (.tail _ (.tail _ h))
/-- The object's own attribute is stored. -/
noncomputable def fset (c : Cpu) (n : Nat) : AV → Option Cpu
  | .int i => if n = 6 then some { c with ex := i } else if n = 7 then some { c with ad := .int i } else if n = 8 then some { c with cy := i } else if n = 10 then some { c with spc := i } else if n = 11 then some { c with pc := i } else if n = 12 then some { c with sp := i } else
    if n = 13 then some { c with a := i } else if n = 14 then some { c with x := i } else if n = 15 then some { c with y := i } else if n = 16 then some { c with p := i } else none
  | v => if n = 7 then some { c with ad := v } else none
noncomputable def fsetOk (c c' : Cpu) (n : Nat) (v : AV) (y : Addr) : Prop := cfld n = true ∧ put n v (fsOf y c) = fsOf y c' ∧ c'.mem = c.mem
theorem fset_one {c c₁ c' : Cpu} {n k : Nat} {v : AV} {y : Addr} {r : Option Cpu} (h : (if n = k then some c₁ else r) = some c') (ok : fsetOk c c₁ k v y) (e : r = some c' → fsetOk c c' n v y) : fsetOk c c' n v y := by
  by_cases q : n = k
  · rw [if_pos q] at h; cases h; subst q; exact ok
  · rw [if_neg q] at h; exact e h
theorem fset_put {c c' : Cpu} {n : Nat} {v : AV} (y : Addr) (h : fset c n v = some c') : fsetOk c c' n v y := by
  have one : ∀ u, (if n = 7 then some { c with ad := u } else none) = some c' → fsetOk c c' n u y := fun u h => fset_one h ⟨rfl, rfl, rfl⟩ fun e => nomatch e
  cases v with
  | int i =>
    exact fset_one h ⟨rfl, rfl, rfl⟩ fun h => fset_one h ⟨rfl, rfl, rfl⟩ fun h => fset_one h ⟨rfl, rfl, rfl⟩ fun h => fset_one h ⟨rfl, rfl, rfl⟩ fun h => fset_one h ⟨rfl, rfl, rfl⟩ fun h => fset_one h ⟨rfl, rfl, rfl⟩ fun h => fset_one h ⟨rfl, rfl, rfl⟩ fun h => fset_one h ⟨rfl, rfl, rfl⟩ fun h => fset_one h ⟨rfl, rfl, rfl⟩ fun h => fset_one h ⟨rfl, rfl, rfl⟩ fun e => nomatch e
  | bool b => exact one _ h
  | none => exact one _ h
  | any => exact one _ h
  | ref a => exact one _ h
  | known u => exact one _ h
theorem GA_fl (H : KF G.K) {n : Nat} {v : AV} (hf : cfld n = true) (hl : (fsOf y c).lookup n = some v) (h : Q v ⟨loc, hpOf x d y c rest⟩) : GA nm Φ (.ref x) (nm n) ⟨loc, hpOf x d y c rest⟩ Q :=
  GA_field H.cls (H.fld n hf) hp_inst hp_dict hl h
theorem SA_fl (H : KF G.K) {n : Nat} {v : AV} {c' : Cpu} (hs : fset c n v = some c') (h : R ⟨loc, hpOf x d y c' rest⟩) : SA nm Φ (.ref x) (nm n) v ⟨loc, hpOf x d y c rest⟩ R := by
  obtain ⟨h1, h2, h3⟩ := fset_put y hs
  refine SA_field (fs := fsOf y c) (hp' := hpOf x d y c' rest) nm_ok H.cls (H.fld n h1) hp_inst ?_ (by decide : 16 < 1000) h
  show Rpl d (.dict (fsOf y c)) (.dict (put n v (fsOf y c))) _ _
  rw [h2]
  unfold hpOf
  rw [h3]
  exact .tail .head
theorem GA_cint (H : KF G.K) {n : Nat} {i : Int} (hi : cint n = some i) (hn : (fsOf y c).lookup n = none) (h : Q (.int i) ⟨loc, hpOf x d y c rest⟩) : GA nm Φ (.ref x) (nm n) ⟨loc, hpOf x d y c rest⟩ Q :=
  GA_int H.cls (H.int n i hi) hp_inst hp_dict hn h
theorem GA_cref (H : KF G.K) {n : Nat} {i : Addr} (hi : cref n = some i) (hn : (fsOf y c).lookup n = none) (h : Q (.ref i) ⟨loc, hpOf x d y c rest⟩) : GA nm Φ (.ref x) (nm n) ⟨loc, hpOf x d y c rest⟩ Q :=
  GA_ref H.cls (H.ref n i hi) hp_inst hp_dict hn h
theorem GA_cmeth (H : KF G.K) {n : Nat} {f : Addr} (hf : cfn n = some f) (hn : (fsOf y c).lookup n = none) (h : ∀ q, Q (.ref q) ⟨loc, hpOf x d y c ((q, .meth f x) :: rest)⟩) : GA nm Φ (.ref x) (nm n) ⟨loc, hpOf x d y c rest⟩ Q :=
  GA_meth (pre := [_, _, _]) H.cls (H.fn n f hf) hp_inst hp_dict hn rfl h
theorem GM_c (H : KF G.K) {n : Nat} {f : Addr} {P : Addr → Addr → Prop} (hf : cfn n = some f) (hn : (fsOf y c).lookup n = none) (h : P f x) : GM G nm (.ref x) n ⟨loc, hpOf x d y c rest⟩ P :=
  GM_inst H.cls (H.fn n f hf) hp_inst hp_dict hn h
theorem GI_mem {value slice : Expr} {k z : Int} (h0 : 0 ≤ k) (hk : k < 2 ^ 63) (hz : c.mem[k.toNat]? = some z) (h : Q (.int z) ⟨loc, hpOf x d y c rest⟩) (hs : ∀ o i, subscripted slice false o i = operate [o, i] (getItem o i)) :
    GI nm Φ value slice (.ref y) (.int k) ⟨loc, hpOf x d y c rest⟩ Q := GI_ints hp_mem h0 hk hz h hs
theorem SI_mem {k z : Int} (h0 : 0 ≤ k) (hk : k < 2 ^ 63) (hl : k < c.mem.length) (h : R ⟨loc, hpOf x d y { c with mem := c.mem.set k.toNat z } rest⟩) : SI nm Φ (.ref y) (.int k) (.int z) ⟨loc, hpOf x d y c rest⟩ R :=
  SI_ints (hp' := hpOf x d y { c with mem := c.mem.set k.toNat z } rest) (.tail (.tail .head)) h0 hk hl h
end
theorem Sim.drop {N : Nat → Str} {s : Shared} {pre post : List (Addr × AO)} {q : Addr × AO} {loc : List (Nat × AV)} (S : Sim N Φ ⟨loc, pre ++ q :: post⟩ s) : Sim N Φ ⟨loc, pre ++ post⟩ s := by
  obtain ⟨m, news, F, Nw, Hh, nd, L, o, g⟩ := S
  have cut : ∀ (a : List (Addr × AO)) (l : List (Addr × Obj)), HRep N (a ++ q :: post) l → ∃ l', HRep N (a ++ post) l' ∧ l'.Sublist l := by
    intro a
    induction a with
    | nil =>
      intro l h
      cases l with
      | nil => exact h.elim
      | cons z l => exact ⟨l, h.2, List.sublist_cons_self _ _⟩
    | cons p a ih =>
      intro l h
      cases l with
      | nil => exact h.elim
      | cons z l =>
        obtain ⟨l', h1, h2⟩ := ih l h.2
        exact ⟨z :: l', ⟨h.1, h1⟩, h2.cons_cons z⟩
  obtain ⟨l', h1, h2⟩ := cut pre news Hh
  exact ⟨m, l', F, fun p hp => Nw p (h2.subset hp), h1, (h2.map _).nodup nd, L, o, g⟩
theorem EX_dropM {ss : List Stmt} {x d y q f x' : Addr} {c : Cpu} {rest : List (Addr × AO)} {loc : List (Nat × AV)} {Q : Fl → St → Prop} (h : EX nm Φ ss ⟨loc, hpOf x d y c rest⟩ Q) : EX nm Φ ss ⟨loc, hpOf x d y c ((q, .meth f x') :: rest)⟩ Q :=
  .mk fun s S => h.run s (Sim.drop (pre := [_, _, _]) S)
theorem isEV {N : Nat → Str} {e : Expr} {Q : AV → St → Prop} (h : EV N Φ e σ Q) : EV N Φ e σ Q := h
theorem isGA {N : Nat → Str} {a : AV} {n : Str} {Q : AV → St → Prop} (h : GA N Φ a n σ Q) : GA N Φ a n σ Q := h
theorem isBO {N : Nat → Str} {op : Operator} {a b : AV} {Q : AV → St → Prop} (h : BO N Φ op a b σ Q) : BO N Φ op a b σ Q := h
theorem isIO {N : Nat → Str} {op : Operator} {a b : AV} {Q : AV → St → Prop} (h : IO N Φ op a b σ Q) : IO N Φ op a b σ Q := h
theorem isCO {N : Nat → Str} {op : CmpOp} {a b : AV} {Q : AV → St → Prop} (h : CO N Φ op a b σ Q) : CO N Φ op a b σ Q := h
theorem isEX1 {N : Nat → Str} {e : Stmt} {Q : Fl → St → Prop} (h : EX1 N Φ e σ Q) : EX1 N Φ e σ Q := h
/-- One step of the walk. -/
local macro_rules | `(tactic| close_w) => `(tactic| first
  | (refine isEV ?_; first
    | refine EV_Name nm_ok rfl ?_
    | refine EV_Attribute ?_ rfl
    | refine EV_BinOp ?_
    | refine EV_int ?_
    | refine EV_mcall1 rfl ⟨_, rfl⟩ ?_
    | refine EV_mcall0 ⟨_, rfl⟩ ?_
    | refine EV_ncall ?_ rfl
    | refine EV_Sub ?_
    | refine EV_Compare rfl ?_
    | refine EV_Invert ?_
    | refine EV_none ?_
    | refine EV_bool ?_
    | refine EV_str ?_
    | refine EV_mcall2 rfl rfl ⟨_, rfl⟩ ?_
    | refine EV_fcall1 ?_ rfl rfl)
  | (refine isGA ?_; first
    | refine GA_fl (by assumption) rfl rfl ?_
    | refine GA_cint (by assumption) rfl rfl ?_
    | refine GA_cref (by assumption) rfl rfl ?_
    | (refine GA_cmeth (by assumption) rfl rfl ?_; intro q))
  | (refine isBO ?_; first
    | refine BO_add ?_
    | refine BO_sub ?_
    | refine BO_and ?_
    | refine BO_or ?_
    | refine BO_xor ?_)
  | (refine isIO ?_; first
    | refine IO_add ?_
    | refine IO_sub ?_
    | refine IO_and ?_
    | refine IO_or ?_
    | refine IO_xor ?_)
  | (refine SA_fl (by assumption) rfl ?_; dsimp only)
  | refine thenX_next ?_
  | refine EX_dropM ?_
  | refine EX_cons ?_
  | (refine isEX1 ?_; first
    | refine EX1_AugA ?_
    | refine EX1_Expr ?_ rfl
    | refine EX1_AssignA ?_ rfl
    | refine EX1_Return ?_
    | refine EX1_Assign ?_ rfl
    | refine EX1_If ?_
    | refine EX1_AssignS ?_ rfl
    | refine EX1_AugN nm_ok rfl ?_
    | refine EX1_Pass ?_
    | refine EX1_Return0 ?_)
  | refine GM_c (by assumption) rfl rfl ?_
  | refine EX_nil ?_
  | refine thenX_ret ?_
  | refine SN_old nm_ok rfl ?_
  | refine TS_Compare rfl ?_
  | refine TS_plain ?_ rfl
  | refine TR_bool ?_
  | refine TR_int ?_
  | (refine isCO ?_; first
    | refine CO_eq ?_
    | refine CO_ne ?_
    | refine CO_lt ?_
    | refine CO_gt ?_
    | refine CO_le ?_
    | refine CO_ge ?_
    | refine CO_is_none ?_ (fun _ h => nomatch h) (fun h => nomatch h))
  | refine Exists.intro _ (And.intro rfl ?_))
local macro_rules | `(tactic| k_room) => `(tactic| ((try dsimp only); omega))
section
variable {x d y : Addr} {c : Cpu} {rest : List (Addr × AO)} {loc : List (Nat × AV)} {Q : AV → St → Prop}
theorem c_ByteAt (H : KF G.K) {k z : Int} (h0 : 0 ≤ k) (hk : k < 2 ^ 63) (hz : c.mem[k.toNat]? = some z) (hr : Φ.A.depth + 0 < recursionLimit)
    (h : Q (.int z) ⟨loc, hpOf x d y c rest⟩) : CL nm Φ 71 [.ref x, .int k] ⟨loc, hpOf x d y c rest⟩ Q := by
  refine CL_m H rfl (by omega) (ns := [0, 75]) (by decide +kernel) (binds2 fun u v => by kernel_rfl) fun Φ' hdep => ?_
  refine EX_cons ?_
  kpf_close
  repeat close_w
  refine GI_mem h0 hk hz ?_ (fun _ _ => rfl)
  repeat close_w
  exact h
theorem c_WordAt (H : KF G.K) {k z z1 : Int} (h0 : 0 ≤ k) (hk : k < 2 ^ 62) (hz : c.mem[k.toNat]? = some z) (hz1 : c.mem[(k + 1).toNat]? = some z1) (b0 : 0 ≤ z1) (b1 : z1 < 65536) (hr : Φ.A.depth + 1 < recursionLimit)
    (h : Q (.int (z + z1 * 256)) ⟨loc, hpOf x d y c rest⟩) : CL nm Φ 78 [.ref x, .int k] ⟨loc, hpOf x d y c rest⟩ Q := by
  refine CL_m H rfl (by omega) (ns := [0, 75]) (by decide +kernel) (binds2 fun u v => by kernel_rfl) fun Φ' hdep => ?_
  refine EX_cons ?_
  kpf_close
  repeat close_w
  refine c_ByteAt H h0 (by k_room) hz (by k_room) ?_
  repeat close_w
  refine c_ByteAt H (by k_room) (by k_room) hz1 (by k_room) ?_
  repeat close_w
  refine BO_shl (by decide) (intBits_le b0 b1) ?_
  rw [pow8]
  repeat close_w
  exact h
theorem c_ProgramCounter (H : KF G.K) (hr : Φ.A.depth + 0 < recursionLimit)
    (h : Q (.int c.pc) ⟨loc, hpOf x d y c rest⟩) : CL nm Φ 92 [.ref x] ⟨loc, hpOf x d y c rest⟩ Q := by
  refine CL_m H rfl (by omega) (ns := [0]) (by decide +kernel) (binds1 fun v => by kernel_rfl) fun Φ' hdep => ?_
  refine EX_cons ?_
  kpf_close
  repeat close_w
  exact h
theorem c_ZeroPageAddr (H : KF G.K) {z : Int} (h0 : 0 ≤ c.pc) (hk : c.pc < 2 ^ 63) (hz : c.mem[c.pc.toNat]? = some z) (hr : Φ.A.depth + 1 < recursionLimit)
    (h : Q (.int z) ⟨loc, hpOf x d y c rest⟩) : CL nm Φ 106 [.ref x] ⟨loc, hpOf x d y c rest⟩ Q := by
  refine CL_m H rfl (by omega) (ns := [0]) (by decide +kernel) (binds1 fun v => by kernel_rfl) fun Φ' hdep => ?_
  refine EX_cons ?_
  kpf_close
  repeat close_w
  refine c_ByteAt H h0 hk hz (by k_room) ?_
  repeat close_w
  exact h
theorem c_ImmediateByte (H : KF G.K) {z : Int} (h0 : 0 ≤ c.pc) (hk : c.pc < 2 ^ 63) (hz : c.mem[c.pc.toNat]? = some z) (hr : Φ.A.depth + 1 < recursionLimit)
    (h : Q (.int z) ⟨loc, hpOf x d y c rest⟩) : CL nm Φ 99 [.ref x] ⟨loc, hpOf x d y c rest⟩ Q := by
  refine CL_m H rfl (by omega) (ns := [0]) (by decide +kernel) (binds1 fun v => by kernel_rfl) fun Φ' hdep => ?_
  refine EX_cons ?_
  kpf_close
  repeat close_w
  refine c_ByteAt H h0 hk hz (by k_room) ?_
  repeat close_w
  exact h
theorem c_AbsoluteXAddr (H : KF G.K) {z z1 : Int} (ha : c.ad = .int 0) (h0 : 0 ≤ c.pc) (hk : c.pc < 2 ^ 62) (hz : c.mem[c.pc.toNat]? = some z) (hz1 : c.mem[(c.pc + 1).toNat]? = some z1) (b0 : 0 ≤ z1) (b1 : z1 < 65536) (hr : Φ.A.depth + 2 < recursionLimit)
    (h : Q (.int (Builtin.bitAnd (z + z1 * 256 + c.x) 65535)) ⟨loc, hpOf x d y c rest⟩) : CL nm Φ 148 [.ref x] ⟨loc, hpOf x d y c rest⟩ Q := by
  refine CL_m H rfl (by omega) (ns := [0]) (by decide +kernel) (binds1 fun v => by kernel_rfl) fun Φ' hdep => ?_
  refine EX_cons ?_
  kpf_close
  repeat close_w
  rw [ha]
  repeat close_w
  refine if_both (fun q => nomatch q) fun _ => ?_
  repeat close_w
  refine c_WordAt H h0 hk hz hz1 b0 b1 (by k_room) ?_
  repeat close_w
  exact h
theorem c_FlagsNZ (H : KF G.K) {v : Int} (hr : Φ.A.depth + 0 < recursionLimit)
    (h : Q .none ⟨loc, hpOf x d y { c with p := nz c.p v } rest⟩) : CL nm Φ 197 [.ref x, .int v] ⟨loc, hpOf x d y c rest⟩ Q := by
  refine CL_m H rfl (by omega) (ns := [0, 79]) (by decide +kernel) (binds2 fun u v => by kernel_rfl) fun Φ' hdep => ?_
  refine EX_cons ?_
  kpf_close
  repeat close_w
  refine if_both (fun q => ?_) fun q => ?_
  · repeat close_w
    unfold nz at h
    rw [if_pos (by simpa using q)] at h
    exact h
  · repeat close_w
    unfold nz at h
    rw [if_neg (by simpa using q)] at h
    exact h
theorem c_stPush (H : KF G.K) {z : Int} (s0 : 0 ≤ c.sp) (s1 : c.sp < 256) (hm : c.mem.length = 65536) (hr : Φ.A.depth + 0 < recursionLimit)
    (h : Q .none ⟨loc, hpOf x d y { c with mem := c.mem.set (c.sp + 256).toNat (Builtin.bitAnd z 255), sp := Builtin.bitAnd (c.sp - 1) 255 } rest⟩) : CL nm Φ 169 [.ref x, .int z] ⟨loc, hpOf x d y c rest⟩ Q := by
  refine CL_m H rfl (by omega) (ns := [0, 78]) (by decide +kernel) (binds2 fun u v => by kernel_rfl) fun Φ' hdep => ?_
  refine EX_cons ?_
  kpf_close
  repeat close_w
  refine SI_mem (by k_room) (by k_room) (by k_room) ?_
  repeat close_w
  exact h
theorem c_stPop (H : KF G.K) {z : Int} (s0 : 0 ≤ Builtin.bitAnd (c.sp + 1) 255) (s1 : Builtin.bitAnd (c.sp + 1) 255 < 256) (hz : c.mem[(Builtin.bitAnd (c.sp + 1) 255 + 256).toNat]? = some z) (hr : Φ.A.depth + 1 < recursionLimit)
    (h : Q (.int z) ⟨loc, hpOf x d y { c with sp := Builtin.bitAnd (c.sp + 1) 255 } rest⟩) : CL nm Φ 176 [.ref x] ⟨loc, hpOf x d y c rest⟩ Q := by
  refine CL_m H rfl (by omega) (ns := [0]) (by decide +kernel) (binds1 fun v => by kernel_rfl) fun Φ' hdep => ?_
  refine EX_cons ?_
  kpf_close
  repeat close_w
  refine c_ByteAt (c := { c with sp := Builtin.bitAnd (c.sp + 1) 255 }) H (by k_room) (by k_room) hz (by k_room) ?_
  repeat close_w
  exact h
theorem c_opLDA (H : KF G.K) {q f : Addr} {k : Int} (hq : (q, AO.meth f x) ∈ rest) (hf : fnIn G.K f = true) (hA : ∀ (cs₁ : Scope) (Φ₁ : Cx G cs₁) (loc₁ : List (Nat × AV)) (Q₁ : AV → St → Prop), Φ₁.A.depth + 3 < recursionLimit → Q₁ (.int k) ⟨loc₁, hpOf x d y c rest⟩ → CL nm Φ₁ f [.ref x] ⟨loc₁, hpOf x d y c rest⟩ Q₁) {z : Int} (h0 : 0 ≤ k) (hk : k < 2 ^ 63) (hz : c.mem[k.toNat]? = some z) (hr : Φ.A.depth + 4 < recursionLimit)
    (h : Q .none ⟨loc, hpOf x d y { c with a := z, p := nz c.p z } rest⟩) : CL nm Φ 344 [.ref x, .ref q] ⟨loc, hpOf x d y c rest⟩ Q := by
  refine CL_m H rfl (by omega) (ns := [0, 14]) (by decide +kernel) (binds2 fun u v => by kernel_rfl) fun Φ' hdep => ?_
  refine EX_cons ?_
  kpf_close
  repeat close_w
  refine BM_mk (hp_rest hq) hf ?_
  refine hA _ _ _ _ (by k_room) ?_
  repeat close_w
  refine c_ByteAt H h0 hk hz (by k_room) ?_
  repeat close_w
  refine c_FlagsNZ H (by k_room) ?_
  repeat close_w
  exact h
theorem c_opLDX (H : KF G.K) {q f : Addr} {k : Int} (hq : (q, AO.meth f x) ∈ rest) (hf : fnIn G.K f = true) (hA : ∀ (cs₁ : Scope) (Φ₁ : Cx G cs₁) (loc₁ : List (Nat × AV)) (Q₁ : AV → St → Prop), Φ₁.A.depth + 3 < recursionLimit → Q₁ (.int k) ⟨loc₁, hpOf x d y c rest⟩ → CL nm Φ₁ f [.ref x] ⟨loc₁, hpOf x d y c rest⟩ Q₁) {z : Int} (h0 : 0 ≤ k) (hk : k < 2 ^ 63) (hz : c.mem[k.toNat]? = some z) (hr : Φ.A.depth + 4 < recursionLimit)
    (h : Q .none ⟨loc, hpOf x d y { c with x := z, p := nz c.p z } rest⟩) : CL nm Φ 358 [.ref x, .ref q] ⟨loc, hpOf x d y c rest⟩ Q := by
  refine CL_m H rfl (by omega) (ns := [0, 15]) (by decide +kernel) (binds2 fun u v => by kernel_rfl) fun Φ' hdep => ?_
  refine EX_cons ?_
  kpf_close
  repeat close_w
  refine BM_mk (hp_rest hq) hf ?_
  refine hA _ _ _ _ (by k_room) ?_
  repeat close_w
  refine c_ByteAt H h0 hk hz (by k_room) ?_
  repeat close_w
  refine c_FlagsNZ H (by k_room) ?_
  repeat close_w
  exact h
theorem c_opORA (H : KF G.K) {q f : Addr} {k : Int} (hq : (q, AO.meth f x) ∈ rest) (hf : fnIn G.K f = true) (hA : ∀ (cs₁ : Scope) (Φ₁ : Cx G cs₁) (loc₁ : List (Nat × AV)) (Q₁ : AV → St → Prop), Φ₁.A.depth + 3 < recursionLimit → Q₁ (.int k) ⟨loc₁, hpOf x d y c rest⟩ → CL nm Φ₁ f [.ref x] ⟨loc₁, hpOf x d y c rest⟩ Q₁) {z : Int} (h0 : 0 ≤ k) (hk : k < 2 ^ 63) (hz : c.mem[k.toNat]? = some z) (hr : Φ.A.depth + 4 < recursionLimit)
    (h : Q .none ⟨loc, hpOf x d y { c with a := Builtin.bitOr c.a z, p := nz c.p (Builtin.bitOr c.a z) } rest⟩) : CL nm Φ 204 [.ref x, .ref q] ⟨loc, hpOf x d y c rest⟩ Q := by
  refine CL_m H rfl (by omega) (ns := [0, 14]) (by decide +kernel) (binds2 fun u v => by kernel_rfl) fun Φ' hdep => ?_
  refine EX_cons ?_
  kpf_close
  repeat close_w
  refine BM_mk (hp_rest hq) hf ?_
  refine hA _ _ _ _ (by k_room) ?_
  repeat close_w
  refine c_ByteAt H h0 hk hz (by k_room) ?_
  repeat close_w
  refine c_FlagsNZ H (by k_room) ?_
  repeat close_w
  exact h
theorem c_opSTA (H : KF G.K) {q f : Addr} {k : Int} (hq : (q, AO.meth f x) ∈ rest) (hf : fnIn G.K f = true) (hA : ∀ (cs₁ : Scope) (Φ₁ : Cx G cs₁) (loc₁ : List (Nat × AV)) (Q₁ : AV → St → Prop), Φ₁.A.depth + 3 < recursionLimit → Q₁ (.int k) ⟨loc₁, hpOf x d y c rest⟩ → CL nm Φ₁ f [.ref x] ⟨loc₁, hpOf x d y c rest⟩ Q₁) (h0 : 0 ≤ k) (hk : k < 2 ^ 63) (hl : k < c.mem.length) (hr : Φ.A.depth + 4 < recursionLimit)
    (h : Q .none ⟨loc, hpOf x d y { c with mem := c.mem.set k.toNat c.a } rest⟩) : CL nm Φ 295 [.ref x, .ref q] ⟨loc, hpOf x d y c rest⟩ Q := by
  refine CL_m H rfl (by omega) (ns := [0, 14]) (by decide +kernel) (binds2 fun u v => by kernel_rfl) fun Φ' hdep => ?_
  refine EX_cons ?_
  kpf_close
  repeat close_w
  refine BM_mk (hp_rest hq) hf ?_
  refine hA _ _ _ _ (by k_room) ?_
  repeat close_w
  refine SI_mem h0 hk hl ?_
  repeat close_w
  exact h
theorem c_opINCR (H : KF G.K) {q f : Addr} {k : Int} (hq : (q, AO.meth f x) ∈ rest) (hf : fnIn G.K f = true) (hA : ∀ (cs₁ : Scope) (Φ₁ : Cx G cs₁) (loc₁ : List (Nat × AV)) (Q₁ : AV → St → Prop), Φ₁.A.depth + 3 < recursionLimit → Q₁ (.int k) ⟨loc₁, hpOf x d y c rest⟩ → CL nm Φ₁ f [.ref x] ⟨loc₁, hpOf x d y c rest⟩ Q₁) {z : Int} (h0 : 0 ≤ k) (hk : k < 2 ^ 63) (hz : c.mem[k.toNat]? = some z) (hl : k < c.mem.length) (hr : Φ.A.depth + 4 < recursionLimit)
    (h : Q .none ⟨loc, hpOf x d y { c with mem := c.mem.set k.toNat (Builtin.bitAnd (z + 1) 255), p := nz c.p (Builtin.bitAnd (z + 1) 255) } rest⟩) : CL nm Φ 337 [.ref x, .ref q] ⟨loc, hpOf x d y c rest⟩ Q := by
  refine CL_m H rfl (by omega) (ns := [0, 14]) (by decide +kernel) (binds2 fun u v => by kernel_rfl) fun Φ' hdep => ?_
  refine EX_cons ?_
  kpf_close
  repeat close_w
  refine if_both (fun q => nomatch q) fun _ => ?_
  repeat close_w
  refine BM_mk (hp_rest hq) hf ?_
  refine hA _ _ _ _ (by k_room) ?_
  repeat close_w
  refine SN_new nm_ok (by kernel_rfl) ?_
  repeat close_w
  refine c_ByteAt H h0 hk hz (by k_room) ?_
  repeat close_w
  refine SN_new nm_ok (by kernel_rfl) ?_
  repeat close_w
  refine if_both (fun q => ?_) fun q => ?_
  · repeat close_w
    refine if_both (fun q => nomatch q) fun _ => ?_
    repeat close_w
    refine SI_mem h0 hk hl ?_
    repeat close_w
    unfold nz at h
    rw [if_neg (by simpa using q)] at h
    exact h
  · repeat close_w
    refine if_both (fun q => nomatch q) fun _ => ?_
    repeat close_w
    refine SI_mem h0 hk hl ?_
    repeat close_w
    unfold nz at h
    rw [if_pos (by simpa using q)] at h
    exact h
theorem c_opDECR (H : KF G.K) {q f : Addr} {k : Int} (hq : (q, AO.meth f x) ∈ rest) (hf : fnIn G.K f = true) (hA : ∀ (cs₁ : Scope) (Φ₁ : Cx G cs₁) (loc₁ : List (Nat × AV)) (Q₁ : AV → St → Prop), Φ₁.A.depth + 3 < recursionLimit → Q₁ (.int k) ⟨loc₁, hpOf x d y c rest⟩ → CL nm Φ₁ f [.ref x] ⟨loc₁, hpOf x d y c rest⟩ Q₁) {z : Int} (h0 : 0 ≤ k) (hk : k < 2 ^ 63) (hz : c.mem[k.toNat]? = some z) (hl : k < c.mem.length) (hr : Φ.A.depth + 4 < recursionLimit)
    (h : Q .none ⟨loc, hpOf x d y { c with mem := c.mem.set k.toNat (Builtin.bitAnd (z - 1) 255), p := nz c.p (Builtin.bitAnd (z - 1) 255) } rest⟩) : CL nm Φ 330 [.ref x, .ref q] ⟨loc, hpOf x d y c rest⟩ Q := by
  refine CL_m H rfl (by omega) (ns := [0, 14]) (by decide +kernel) (binds2 fun u v => by kernel_rfl) fun Φ' hdep => ?_
  refine EX_cons ?_
  kpf_close
  repeat close_w
  refine if_both (fun q => nomatch q) fun _ => ?_
  repeat close_w
  refine BM_mk (hp_rest hq) hf ?_
  refine hA _ _ _ _ (by k_room) ?_
  repeat close_w
  refine SN_new nm_ok (by kernel_rfl) ?_
  repeat close_w
  refine c_ByteAt H h0 hk hz (by k_room) ?_
  repeat close_w
  refine SN_new nm_ok (by kernel_rfl) ?_
  repeat close_w
  refine if_both (fun q => ?_) fun q => ?_
  · repeat close_w
    refine if_both (fun q => nomatch q) fun _ => ?_
    repeat close_w
    refine SI_mem h0 hk hl ?_
    repeat close_w
    unfold nz at h
    rw [if_neg (by simpa using q)] at h
    exact h
  · repeat close_w
    refine if_both (fun q => nomatch q) fun _ => ?_
    repeat close_w
    refine SI_mem h0 hk hl ?_
    repeat close_w
    unfold nz at h
    rw [if_pos (by simpa using q)] at h
    exact h
theorem c_opCLR (H : KF G.K) {v : Int} (hr : Φ.A.depth + 0 < recursionLimit)
    (h : Q .none ⟨loc, hpOf x d y { c with p := Builtin.bitAnd c.p (Builtin.bitNot v) } rest⟩) : CL nm Φ 239 [.ref x, .int v] ⟨loc, hpOf x d y c rest⟩ Q := by
  refine CL_m H rfl (by omega) (ns := [0, 14]) (by decide +kernel) (binds2 fun u v => by kernel_rfl) fun Φ' hdep => ?_
  refine EX_cons ?_
  kpf_close
  repeat close_w
  exact h
theorem c_opSET (H : KF G.K) {v : Int} (hr : Φ.A.depth + 0 < recursionLimit)
    (h : Q .none ⟨loc, hpOf x d y { c with p := Builtin.bitOr c.p v } rest⟩) : CL nm Φ 246 [.ref x, .int v] ⟨loc, hpOf x d y c rest⟩ Q := by
  refine CL_m H rfl (by omega) (ns := [0, 14]) (by decide +kernel) (binds2 fun u v => by kernel_rfl) fun Φ' hdep => ?_
  refine EX_cons ?_
  kpf_close
  repeat close_w
  exact h
end
section
variable {G : Gl} {cs : Scope} {Φ : Cx G cs} {σ : St}
section
variable {x d y : Addr} {c : Cpu} {rest : List (Addr × AO)} {loc : List (Nat × AV)} {Q : AV → St → Prop}
theorem c_push (H : KF G.K) {z : Int} (s0 : 1 ≤ c.sp) (s1 : c.sp < 256) (z0 : 0 ≤ z) (z1 : z < 256) (hm : c.mem.length = 65536) (hr : Φ.A.depth + 0 < recursionLimit)
    (h : Q .none ⟨loc, hpOf x d y { c with mem := c.mem.set (c.sp + 256).toNat z, sp := c.sp - 1 } rest⟩) : CL nm Φ 169 [.ref x, .int z] ⟨loc, hpOf x d y c rest⟩ Q := by
  refine c_stPush H (by omega) s1 hm hr ?_
  rw [show Builtin.bitAnd z 255 = z by rw [bitAnd_m8]; omega, show Builtin.bitAnd (c.sp - 1) 255 = c.sp - 1 by rw [bitAnd_m8]; omega]
  exact h
theorem c_pop (H : KF G.K) {z : Int} (s0 : 0 ≤ c.sp) (s1 : c.sp < 255) (hz : c.mem[(c.sp + 1 + 256).toNat]? = some z) (hr : Φ.A.depth + 1 < recursionLimit)
    (h : Q (.int z) ⟨loc, hpOf x d y { c with sp := c.sp + 1 } rest⟩) : CL nm Φ 176 [.ref x] ⟨loc, hpOf x d y c rest⟩ Q := by
  have e : Builtin.bitAnd (c.sp + 1) 255 = c.sp + 1 := by rw [bitAnd_m8]; omega
  refine c_stPop H (by rw [e]; omega) (by rw [e]; omega) (by rw [e]; exact hz) hr ?_
  rw [e]
  exact h
theorem c_pushWord (H : KF G.K) {z : Int} (s0 : 2 ≤ c.sp) (s1 : c.sp < 256) (z0 : 0 ≤ z) (z1 : z < 65536) (hm : c.mem.length = 65536) (hr : Φ.A.depth + 1 < recursionLimit)
    (h : Q .none ⟨loc, hpOf x d y { c with mem := (c.mem.set (c.sp + 256).toNat (z / 256)).set (c.sp - 1 + 256).toNat (z % 256), sp := c.sp - 1 - 1 } rest⟩) : CL nm Φ 183 [.ref x, .int z] ⟨loc, hpOf x d y c rest⟩ Q := by
  refine CL_m H rfl (by omega) (ns := [0, 78]) (by decide +kernel) (binds2 fun u v => by kernel_rfl) fun Φ' hdep => ?_
  refine EX_cons ?_
  kpf_close
  repeat close_w
  refine BO_shr (by decide) ?_
  rw [pow8]
  repeat close_w
  have e1 : Builtin.bitAnd (z.fdiv 256) 255 = z / 256 := by rw [bitAnd_m8, Int.fdiv_eq_ediv_of_nonneg _ (by decide)]; omega
  have e2 : Builtin.bitAnd z 255 = z % 256 := by rw [bitAnd_m8]
  rw [e1]
  refine c_push H (by k_room) (by k_room) (by omega) (by omega) hm (by k_room) ?_
  repeat close_w
  rw [e2]
  refine c_push H (by k_room) (by k_room) (by omega) (by omega) (by simp [hm]) (by k_room) ?_
  repeat close_w
  exact h
theorem c_popWord (H : KF G.K) {z z1 : Int} (s0 : 0 ≤ c.sp) (s1 : c.sp < 254) (hz : c.mem[(c.sp + 1 + 256).toNat]? = some z) (hz1 : c.mem[(c.sp + 1 + 1 + 256).toNat]? = some z1) (b0 : 0 ≤ z1) (b1 : z1 < 65536) (hr : Φ.A.depth + 2 < recursionLimit)
    (h : Q (.int (z + z1 * 256)) ⟨loc, hpOf x d y { c with sp := c.sp + 1 + 1 } rest⟩) : CL nm Φ 190 [.ref x] ⟨loc, hpOf x d y c rest⟩ Q := by
  refine CL_m H rfl (by omega) (ns := [0]) (by decide +kernel) (binds1 fun v => by kernel_rfl) fun Φ' hdep => ?_
  refine EX_cons ?_
  kpf_close
  repeat close_w
  refine c_pop H s0 (by omega) hz (by k_room) ?_
  repeat close_w
  refine SN_new nm_ok (by kernel_rfl) ?_
  repeat close_w
  refine c_pop H (by k_room) (by k_room) hz1 (by k_room) ?_
  repeat close_w
  refine BO_shl (by decide) (intBits_le b0 b1) ?_
  rw [pow8]
  repeat close_w
  exact h
/-- Where a branch goes. -/
noncomputable def brTo (pc z : Int) : Int := Builtin.bitAnd (if Builtin.bitAnd z 128 = 0 then pc + 1 + z else pc + 1 - Builtin.bitXor z 255 - 1) 65535
theorem c_BranchRelAddr (H : KF G.K) {z : Int} (h0 : 0 ≤ c.pc) (hk : c.pc < 2 ^ 62) (hz : c.mem[c.pc.toNat]? = some z) (hr : Φ.A.depth + 2 < recursionLimit)
    (h : ∀ e, Q .none ⟨loc, hpOf x d y { c with ex := e, pc := brTo c.pc z } rest⟩) : CL nm Φ 162 [.ref x] ⟨loc, hpOf x d y c rest⟩ Q := by
  refine CL_m H rfl (by omega) (ns := [0]) (by decide +kernel) (binds1 fun v => by kernel_rfl) fun Φ' hdep => ?_
  refine EX_cons ?_
  kpf_close
  repeat close_w
  refine c_ImmediateByte H (by k_room) (by k_room) hz (by k_room) ?_
  repeat close_w
  refine SN_new nm_ok (by kernel_rfl) ?_
  repeat close_w
  refine if_both (fun q => ?_) fun q => ?_
  · repeat close_w
    refine if_both (fun q' => ?_) fun q' => ?_
    · repeat close_w
      have h := h (c.ex + 1 + 1)
      unfold brTo at h
      rw [if_neg (by simpa using q)] at h
      exact h
    · repeat close_w
      have h := h (c.ex + 1)
      unfold brTo at h
      rw [if_neg (by simpa using q)] at h
      exact h
  · repeat close_w
    refine if_both (fun q' => ?_) fun q' => ?_
    · repeat close_w
      have h := h (c.ex + 1 + 1)
      unfold brTo at h
      rw [if_pos (by simpa using q)] at h
      exact h
    · repeat close_w
      have h := h (c.ex + 1)
      unfold brTo at h
      rw [if_pos (by simpa using q)] at h
      exact h
theorem c_opBCL_on (H : KF G.K) {v : Int} (hp : Builtin.bitAnd c.p v ≠ 0) (hr : Φ.A.depth + 3 < recursionLimit)
    (h : Q .none ⟨loc, hpOf x d y { c with pc := c.pc + 1 } rest⟩) : CL nm Φ 225 [.ref x, .int v] ⟨loc, hpOf x d y c rest⟩ Q := by
  refine CL_m H rfl (by omega) (ns := [0, 14]) (by decide +kernel) (binds2 fun u v => by kernel_rfl) fun Φ' hdep => ?_
  refine EX_cons ?_
  kpf_close
  repeat close_w
  refine if_both (fun q => ?_) fun q => absurd (by simpa using q) hp
  repeat close_w
  exact h
theorem c_opBCL_off (H : KF G.K) {v z : Int} (hp : Builtin.bitAnd c.p v = 0) (h0 : 0 ≤ c.pc) (hk : c.pc < 2 ^ 62) (hz : c.mem[c.pc.toNat]? = some z) (hr : Φ.A.depth + 3 < recursionLimit)
    (h : ∀ e, Q .none ⟨loc, hpOf x d y { c with ex := e, pc := brTo c.pc z } rest⟩) : CL nm Φ 225 [.ref x, .int v] ⟨loc, hpOf x d y c rest⟩ Q := by
  refine CL_m H rfl (by omega) (ns := [0, 14]) (by decide +kernel) (binds2 fun u v => by kernel_rfl) fun Φ' hdep => ?_
  refine EX_cons ?_
  kpf_close
  repeat close_w
  refine if_both (fun q => absurd hp (by simpa using q)) fun q => ?_
  repeat close_w
  refine c_BranchRelAddr H h0 hk hz (by k_room) fun e => ?_
  repeat close_w
  exact h e
theorem c_i_a5 (H : KF G.K) {k z : Int} (p0 : 0 ≤ c.pc) (p1 : c.pc < 2 ^ 62) (hk : c.mem[c.pc.toNat]? = some k) (k0 : 0 ≤ k) (k1 : k < 65536) (hz : c.mem[k.toNat]? = some z) (hm : c.mem.length = 65536) (hr : Φ.A.depth + 5 < recursionLimit)
    (h : Q .none ⟨loc, hpOf x d y { c with a := z, p := nz c.p z, pc := c.pc + 1 } rest⟩) : CL nm Φ 1030 [.ref x] ⟨loc, hpOf x d y c rest⟩ Q := by
  refine CL_m H rfl (by omega) (ns := [0]) (by decide +kernel) (binds1 fun v => by kernel_rfl) fun Φ' hdep => ?_
  refine EX_cons ?_
  kpf_close
  repeat close_w
  refine c_opLDA H (.head _) (H.isfn 106 _ rfl).1 (fun cs₁ Φ₁ loc₁ Q₁ hd hQ => c_ZeroPageAddr H p0 (by omega) hk (by omega) hQ) k0 (by omega) hz (by k_room) ?_
  repeat close_w
  exact h
theorem c_i_a6 (H : KF G.K) {k z : Int} (p0 : 0 ≤ c.pc) (p1 : c.pc < 2 ^ 62) (hk : c.mem[c.pc.toNat]? = some k) (k0 : 0 ≤ k) (k1 : k < 65536) (hz : c.mem[k.toNat]? = some z) (hm : c.mem.length = 65536) (hr : Φ.A.depth + 5 < recursionLimit)
    (h : Q .none ⟨loc, hpOf x d y { c with x := z, p := nz c.p z, pc := c.pc + 1 } rest⟩) : CL nm Φ 1037 [.ref x] ⟨loc, hpOf x d y c rest⟩ Q := by
  refine CL_m H rfl (by omega) (ns := [0]) (by decide +kernel) (binds1 fun v => by kernel_rfl) fun Φ' hdep => ?_
  refine EX_cons ?_
  kpf_close
  repeat close_w
  refine c_opLDX H (.head _) (H.isfn 106 _ rfl).1 (fun cs₁ Φ₁ loc₁ Q₁ hd hQ => c_ZeroPageAddr H p0 (by omega) hk (by omega) hQ) k0 (by omega) hz (by k_room) ?_
  repeat close_w
  exact h
theorem c_i_e6 (H : KF G.K) {k z : Int} (p0 : 0 ≤ c.pc) (p1 : c.pc < 2 ^ 62) (hk : c.mem[c.pc.toNat]? = some k) (k0 : 0 ≤ k) (k1 : k < 65536) (hz : c.mem[k.toNat]? = some z) (hm : c.mem.length = 65536) (hr : Φ.A.depth + 5 < recursionLimit)
    (h : Q .none ⟨loc, hpOf x d y { c with mem := c.mem.set k.toNat (Builtin.bitAnd (z + 1) 255), p := nz c.p (Builtin.bitAnd (z + 1) 255), pc := c.pc + 1 } rest⟩) : CL nm Φ 1324 [.ref x] ⟨loc, hpOf x d y c rest⟩ Q := by
  refine CL_m H rfl (by omega) (ns := [0]) (by decide +kernel) (binds1 fun v => by kernel_rfl) fun Φ' hdep => ?_
  refine EX_cons ?_
  kpf_close
  repeat close_w
  refine c_opINCR H (.head _) (H.isfn 106 _ rfl).1 (fun cs₁ Φ₁ loc₁ Q₁ hd hQ => c_ZeroPageAddr H p0 (by omega) hk (by omega) hQ) k0 (by omega) hz (by omega) (by k_room) ?_
  repeat close_w
  exact h
theorem c_i_c6 (H : KF G.K) {k z : Int} (p0 : 0 ≤ c.pc) (p1 : c.pc < 2 ^ 62) (hk : c.mem[c.pc.toNat]? = some k) (k0 : 0 ≤ k) (k1 : k < 65536) (hz : c.mem[k.toNat]? = some z) (hm : c.mem.length = 65536) (hr : Φ.A.depth + 5 < recursionLimit)
    (h : Q .none ⟨loc, hpOf x d y { c with mem := c.mem.set k.toNat (Builtin.bitAnd (z - 1) 255), p := nz c.p (Builtin.bitAnd (z - 1) 255), pc := c.pc + 1 } rest⟩) : CL nm Φ 1191 [.ref x] ⟨loc, hpOf x d y c rest⟩ Q := by
  refine CL_m H rfl (by omega) (ns := [0]) (by decide +kernel) (binds1 fun v => by kernel_rfl) fun Φ' hdep => ?_
  refine EX_cons ?_
  kpf_close
  repeat close_w
  refine c_opDECR H (.head _) (H.isfn 106 _ rfl).1 (fun cs₁ Φ₁ loc₁ Q₁ hd hQ => c_ZeroPageAddr H p0 (by omega) hk (by omega) hQ) k0 (by omega) hz (by omega) (by k_room) ?_
  repeat close_w
  exact h
theorem c_i_09 (H : KF G.K) {z : Int} (p0 : 0 ≤ c.pc) (p1 : c.pc < 2 ^ 62) (hz : c.mem[c.pc.toNat]? = some z) (hr : Φ.A.depth + 5 < recursionLimit)
    (h : Q .none ⟨loc, hpOf x d y { c with a := Builtin.bitOr c.a z, p := nz c.p (Builtin.bitOr c.a z), pc := c.pc + 1 } rest⟩) : CL nm Φ 407 [.ref x] ⟨loc, hpOf x d y c rest⟩ Q := by
  refine CL_m H rfl (by omega) (ns := [0]) (by decide +kernel) (binds1 fun v => by kernel_rfl) fun Φ' hdep => ?_
  refine EX_cons ?_
  kpf_close
  repeat close_w
  refine c_opORA H (.head _) (H.isfn 92 _ rfl).1 (fun cs₁ Φ₁ loc₁ Q₁ hd hQ => c_ProgramCounter H (by omega) hQ) p0 (by omega) hz (by k_room) ?_
  repeat close_w
  exact h
theorem c_i_a2 (H : KF G.K) {z : Int} (p0 : 0 ≤ c.pc) (p1 : c.pc < 2 ^ 62) (hz : c.mem[c.pc.toNat]? = some z) (hr : Φ.A.depth + 5 < recursionLimit)
    (h : Q .none ⟨loc, hpOf x d y { c with x := z, p := nz c.p z, pc := c.pc + 1 } rest⟩) : CL nm Φ 1016 [.ref x] ⟨loc, hpOf x d y c rest⟩ Q := by
  refine CL_m H rfl (by omega) (ns := [0]) (by decide +kernel) (binds1 fun v => by kernel_rfl) fun Φ' hdep => ?_
  refine EX_cons ?_
  kpf_close
  repeat close_w
  refine c_opLDX H (.head _) (H.isfn 92 _ rfl).1 (fun cs₁ Φ₁ loc₁ Q₁ hd hQ => c_ProgramCounter H (by omega) hQ) p0 (by omega) hz (by k_room) ?_
  repeat close_w
  exact h
theorem c_i_9d (H : KF G.K) {z z1 : Int} (ha : c.ad = .int 0) (p0 : 0 ≤ c.pc) (p1 : c.pc < 2 ^ 62) (hz : c.mem[c.pc.toNat]? = some z) (hz1 : c.mem[(c.pc + 1).toNat]? = some z1) (b0 : 0 ≤ z1) (b1 : z1 < 65536) (hm : c.mem.length = 65536) (hr : Φ.A.depth + 5 < recursionLimit)
    (h : Q .none ⟨loc, hpOf x d y { c with mem := c.mem.set (Builtin.bitAnd (z + z1 * 256 + c.x) 65535).toNat c.a, pc := c.pc + 2 } rest⟩) : CL nm Φ 995 [.ref x] ⟨loc, hpOf x d y c rest⟩ Q := by
  refine CL_m H rfl (by omega) (ns := [0]) (by decide +kernel) (binds1 fun v => by kernel_rfl) fun Φ' hdep => ?_
  refine EX_cons ?_
  kpf_close
  repeat close_w
  have e := bitAnd_m16 (z + z1 * 256 + c.x)
  refine c_opSTA H (.head _) (H.isfn 148 _ rfl).1 (fun cs₁ Φ₁ loc₁ Q₁ hd hQ => c_AbsoluteXAddr H ha p0 p1 hz hz1 b0 b1 (by omega) hQ) (by omega) (by omega) (by omega) (by k_room) ?_
  repeat close_w
  exact h
theorem c_i_58 (H : KF G.K) (hr : Φ.A.depth + 5 < recursionLimit)
    (h : Q .none ⟨loc, hpOf x d y { c with p := Builtin.bitAnd c.p (Builtin.bitNot 4) } rest⟩) : CL nm Φ 722 [.ref x] ⟨loc, hpOf x d y c rest⟩ Q := by
  refine CL_m H rfl (by omega) (ns := [0]) (by decide +kernel) (binds1 fun v => by kernel_rfl) fun Φ' hdep => ?_
  refine EX_cons ?_
  kpf_close
  repeat close_w
  refine c_opCLR H (by k_room) ?_
  repeat close_w
  exact h
theorem c_i_78 (H : KF G.K) (hr : Φ.A.depth + 5 < recursionLimit)
    (h : Q .none ⟨loc, hpOf x d y { c with p := Builtin.bitOr c.p 4 } rest⟩) : CL nm Φ 848 [.ref x] ⟨loc, hpOf x d y c rest⟩ Q := by
  refine CL_m H rfl (by omega) (ns := [0]) (by decide +kernel) (binds1 fun v => by kernel_rfl) fun Φ' hdep => ?_
  refine EX_cons ?_
  kpf_close
  repeat close_w
  refine c_opSET H (by k_room) ?_
  repeat close_w
  exact h
theorem c_i_48 (H : KF G.K) (s0 : 1 ≤ c.sp) (s1 : c.sp < 256) (a0 : 0 ≤ c.a) (a1 : c.a < 256) (hm : c.mem.length = 65536) (hr : Φ.A.depth + 5 < recursionLimit)
    (h : Q .none ⟨loc, hpOf x d y { c with mem := c.mem.set (c.sp + 256).toNat c.a, sp := c.sp - 1 } rest⟩) : CL nm Φ 652 [.ref x] ⟨loc, hpOf x d y c rest⟩ Q := by
  refine CL_m H rfl (by omega) (ns := [0]) (by decide +kernel) (binds1 fun v => by kernel_rfl) fun Φ' hdep => ?_
  refine EX_cons ?_
  kpf_close
  repeat close_w
  refine c_push H s0 s1 a0 a1 hm (by k_room) ?_
  repeat close_w
  exact h
theorem c_i_68 (H : KF G.K) {z : Int} (s0 : 0 ≤ c.sp) (s1 : c.sp < 255) (hz : c.mem[(c.sp + 1 + 256).toNat]? = some z) (hr : Φ.A.depth + 5 < recursionLimit)
    (h : Q .none ⟨loc, hpOf x d y { c with sp := c.sp + 1, a := z, p := nz c.p z } rest⟩) : CL nm Φ 778 [.ref x] ⟨loc, hpOf x d y c rest⟩ Q := by
  refine CL_m H rfl (by omega) (ns := [0]) (by decide +kernel) (binds1 fun v => by kernel_rfl) fun Φ' hdep => ?_
  refine EX_cons ?_
  kpf_close
  repeat close_w
  refine c_pop H s0 s1 hz (by k_room) ?_
  repeat close_w
  refine c_FlagsNZ H (by k_room) ?_
  repeat close_w
  exact h
theorem c_i_8a (H : KF G.K) (hr : Φ.A.depth + 5 < recursionLimit)
    (h : Q .none ⟨loc, hpOf x d y { c with a := c.x, p := nz c.p c.x } rest⟩) : CL nm Φ 911 [.ref x] ⟨loc, hpOf x d y c rest⟩ Q := by
  refine CL_m H rfl (by omega) (ns := [0]) (by decide +kernel) (binds1 fun v => by kernel_rfl) fun Φ' hdep => ?_
  refine EX_cons ?_
  kpf_close
  repeat close_w
  refine c_FlagsNZ H (by k_room) ?_
  repeat close_w
  exact h
theorem c_i_aa (H : KF G.K) (hr : Φ.A.depth + 5 < recursionLimit)
    (h : Q .none ⟨loc, hpOf x d y { c with x := c.a, p := nz c.p c.a } rest⟩) : CL nm Φ 1058 [.ref x] ⟨loc, hpOf x d y c rest⟩ Q := by
  refine CL_m H rfl (by omega) (ns := [0]) (by decide +kernel) (binds1 fun v => by kernel_rfl) fun Φ' hdep => ?_
  refine EX_cons ?_
  kpf_close
  repeat close_w
  refine c_FlagsNZ H (by k_room) ?_
  repeat close_w
  exact h
theorem c_i_ca (H : KF G.K) (hr : Φ.A.depth + 5 < recursionLimit)
    (h : Q .none ⟨loc, hpOf x d y { c with x := Builtin.bitAnd (c.x - 1) 255, p := nz c.p (Builtin.bitAnd (c.x - 1) 255) } rest⟩) : CL nm Φ 1212 [.ref x] ⟨loc, hpOf x d y c rest⟩ Q := by
  refine CL_m H rfl (by omega) (ns := [0]) (by decide +kernel) (binds1 fun v => by kernel_rfl) fun Φ' hdep => ?_
  refine EX_cons ?_
  kpf_close
  repeat close_w
  refine c_FlagsNZ H (by k_room) ?_
  repeat close_w
  exact h
theorem c_i_40 (H : KF G.K) {z z1 z2 : Int} (s0 : 0 ≤ c.sp) (s1 : c.sp < 253) (hz : c.mem[(c.sp + 1 + 256).toNat]? = some z) (hz1 : c.mem[(c.sp + 1 + 1 + 256).toNat]? = some z1) (hz2 : c.mem[(c.sp + 1 + 1 + 1 + 256).toNat]? = some z2) (b0 : 0 ≤ z2) (b1 : z2 < 65536) (hr : Φ.A.depth + 5 < recursionLimit)
    (h : Q .none ⟨loc, hpOf x d y { c with sp := c.sp + 1 + 1 + 1, p := Builtin.bitOr (Builtin.bitOr z 16) 32, pc := z1 + z2 * 256 } rest⟩) : CL nm Φ 624 [.ref x] ⟨loc, hpOf x d y c rest⟩ Q := by
  refine CL_m H rfl (by omega) (ns := [0]) (by decide +kernel) (binds1 fun v => by kernel_rfl) fun Φ' hdep => ?_
  refine EX_cons ?_
  kpf_close
  repeat close_w
  refine c_pop H s0 (by omega) hz (by k_room) ?_
  repeat close_w
  refine c_popWord H (by k_room) (by k_room) hz1 hz2 b0 b1 (by k_room) ?_
  repeat close_w
  exact h
theorem c_i_d0_on (H : KF G.K) (hp : Builtin.bitAnd c.p 2 ≠ 0) (hr : Φ.A.depth + 5 < recursionLimit)
    (h : Q .none ⟨loc, hpOf x d y { c with pc := c.pc + 1 } rest⟩) : CL nm Φ 1240 [.ref x] ⟨loc, hpOf x d y c rest⟩ Q := by
  refine CL_m H rfl (by omega) (ns := [0]) (by decide +kernel) (binds1 fun v => by kernel_rfl) fun Φ' hdep => ?_
  refine EX_cons ?_
  kpf_close
  repeat close_w
  refine c_opBCL_on H hp (by k_room) ?_
  repeat close_w
  exact h
theorem c_i_d0_off (H : KF G.K) {z : Int} (hp : Builtin.bitAnd c.p 2 = 0) (p0 : 0 ≤ c.pc) (p1 : c.pc < 2 ^ 62) (hz : c.mem[c.pc.toNat]? = some z) (hr : Φ.A.depth + 5 < recursionLimit)
    (h : ∀ e, Q .none ⟨loc, hpOf x d y { c with ex := e, pc := brTo c.pc z } rest⟩) : CL nm Φ 1240 [.ref x] ⟨loc, hpOf x d y c rest⟩ Q := by
  refine CL_m H rfl (by omega) (ns := [0]) (by decide +kernel) (binds1 fun v => by kernel_rfl) fun Φ' hdep => ?_
  refine EX_cons ?_
  kpf_close
  repeat close_w
  refine c_opBCL_off H hp p0 p1 hz (by k_room) fun e => ?_
  repeat close_w
  exact h e
end
end
section
variable {G : Gl} {cs : Scope} {Φ : Cx G cs} {σ : St}
theorem GI_tab {N : Nat → Str} {value slice : Expr} {y : Addr} {k : Int} {a : AV} {v : Value} {Q : AV → St → Prop} (h0 : 0 ≤ k) (hk : k < 2 ^ 63) (hi : KItem G.K y k.toNat v) (hr : Rep a v) (h : Q a σ)
    (hs : ∀ o i, subscripted slice false o i = operate [o, i] (getItem o i)) : GI N Φ value slice (.ref y) (.int k) σ Q := by
  obtain ⟨o, vs, n, h1, h2, h3, h4⟩ := hi
  exact GI_K h1 h2 h3 h0 hk h4 hr h hs
section
variable {x d y : Addr} {c : Cpu} {rest : List (Addr × AO)} {loc : List (Nat × AV)} {Q : AV → St → Prop}
theorem c_irq_shut (H : KF G.K) (hp : Builtin.bitAnd c.p 4 ≠ 0) (hr : Φ.A.depth + 5 < recursionLimit) (h : Q .none ⟨loc, hpOf x d y c rest⟩) : CL nm Φ 57 [.ref x] ⟨loc, hpOf x d y c rest⟩ Q := by
  refine CL_m H rfl (by omega) (ns := [0]) (by decide +kernel) (binds1 fun v => by kernel_rfl) fun Φ' hdep => ?_
  refine EX_cons ?_
  kpf_close
  repeat close_w
  refine if_both (fun q => ?_) fun q => absurd (by simpa using q) hp
  repeat close_w
  exact h
theorem c_irq_open (H : KF G.K) {z z1 : Int} (hp : Builtin.bitAnd c.p 4 = 0) (s0 : 3 ≤ c.sp) (s1 : c.sp < 256) (p0 : 0 ≤ c.pc) (p1 : c.pc < 65536) (hm : c.mem.length = 65536)
    (q0 : 0 ≤ Builtin.bitOr (Builtin.bitAnd c.p (Builtin.bitNot 16)) 32) (q1 : Builtin.bitOr (Builtin.bitAnd c.p (Builtin.bitNot 16)) 32 < 256)
    (hz : c.mem[65534]? = some z) (hz1 : c.mem[65535]? = some z1) (b0 : 0 ≤ z1) (b1 : z1 < 65536) (hr : Φ.A.depth + 5 < recursionLimit)
    (h : ∀ cy, Q .none ⟨loc, hpOf x d y { c with mem := ((c.mem.set (c.sp + 256).toNat (c.pc / 256)).set (c.sp - 1 + 256).toNat (c.pc % 256)).set (c.sp - 1 - 1 + 256).toNat (Builtin.bitOr (Builtin.bitAnd c.p (Builtin.bitNot 16)) 32), sp := c.sp - 1 - 1 - 1, p := Builtin.bitOr (Builtin.bitAnd c.p (Builtin.bitNot 16)) 4, pc := z + z1 * 256, cy := cy } rest⟩) : CL nm Φ 57 [.ref x] ⟨loc, hpOf x d y c rest⟩ Q := by
  refine CL_m H rfl (by omega) (ns := [0]) (by decide +kernel) (binds1 fun v => by kernel_rfl) fun Φ' hdep => ?_
  refine EX_cons ?_
  kpf_close
  repeat close_w
  refine if_both (fun q => absurd hp (by simpa using q)) fun q => ?_
  repeat close_w
  refine c_pushWord H (by k_room) (by k_room) (by k_room) (by k_room) hm (by k_room) ?_
  repeat close_w
  refine c_push H (by k_room) (by k_room) q0 q1 (by simp [hm]) (by k_room) ?_
  repeat close_w
  refine c_WordAt H (by decide) (by decide) (z := z) (z1 := z1) ?_ ?_ b0 b1 (by k_room) ?_
  · show (((c.mem.set _ _).set _ _).set _ _)[65534]? = _
    rw [List.getElem?_set_ne (by omega), List.getElem?_set_ne (by omega), List.getElem?_set_ne (by omega)]
    exact hz
  · show (((c.mem.set _ _).set _ _).set _ _)[65535]? = _
    rw [List.getElem?_set_ne (by omega), List.getElem?_set_ne (by omega), List.getElem?_set_ne (by omega)]
    exact hz1
  repeat close_w
  exact h _
end
end
section
/-- The machine as the plain law sees it. -/
structure Rg where
  pc : Nat
  sp : Nat
  a : Int
  x : Int
  y : Int
  p : Int
  mem : List Int
noncomputable def Vw (c : Cpu) (r : Rg) : Prop := c.pc = (r.pc : Int) ∧ c.sp = (r.sp : Int) ∧ c.a = r.a ∧ c.x = r.x ∧ c.y = r.y ∧ c.p = r.p ∧ c.mem = r.mem
/-- One step of the machine leads from r to r'. -/
structure Stp (K : Frag) (r r' : Rg) : Prop where
  run : ∀ {G : Gl} {cs : Scope} {Φ : Cx G cs} {x d y : Addr} {c : Cpu} {rest : List (Addr × AO)} {loc : List (Nat × AV)} {Q : AV → St → Prop}, G.K = K → Vw c r → Φ.A.depth + 6 < recursionLimit →
    (∀ c', Vw c' r' → Q (.ref x) ⟨loc, hpOf x d y c' rest⟩) → CL nm Φ 43 [.ref x] ⟨loc, hpOf x d y c rest⟩ Q
theorem wrap {n : Nat} (h : n < 65536) : Builtin.bitAnd (n : Int) 65535 = (n : Int) := by rw [bitAnd_m16]; omega
theorem wrap1 {n : Nat} (h : n + 1 < 65536) : Builtin.bitAnd ((n : Int) + 1) 65535 = ((n + 1 : Nat) : Int) := by rw [bitAnd_m16]; omega
/-- From an instruction's contract to the step's. -/
theorem stp_of {K : Frag} (H : KF K) {op f : Nat} {i j : Int} {r r' : Rg} (ho : optab op = some (f, i, j)) (hx : (cidx f).isSome = true) (hop : op < 256) (hn : r.pc + 1 < 65536) (h0 : r.mem[r.pc]? = some ((op : Nat) : Int)) (hpc : r'.pc < 65536)
    (hI : ∀ {G : Gl} {cs : Scope} {Φ : Cx G cs} {x d y : Addr} {c : Cpu} {rest : List (Addr × AO)} {loc : List (Nat × AV)} {Q : AV → St → Prop}, KF G.K → Φ.A.depth + 5 < recursionLimit →
      Vw c { r with pc := r.pc + 1 } → c.ad = .int j → (∀ c', Vw c' r' → Q .none ⟨loc, hpOf x d y c' rest⟩) → CL nm Φ f [.ref x] ⟨loc, hpOf x d y c rest⟩ Q) : Stp K r r' := by
  refine ⟨?_⟩
  intro G cs Φ x d y c rest loc Q hK hv hr h
  subst hK
  obtain ⟨v1, v2, v3, v4, v5, v6, v7⟩ := hv
  have hc : c.mem[c.pc.toNat]? = some ((op : Nat) : Int) := by rw [v1, v7]; exact h0
  obtain ⟨t1, ⟨t2, t3⟩, t4, t5⟩ := H.tab op f i j ho
  obtain ⟨ix, hix⟩ := Option.isSome_iff_exists.mp hx
  have hk : ((op : Int).toNat) = op := Int.toNat_natCast op
  refine CL_m H rfl (by omega) (ns := [0]) (by decide +kernel) (binds1 fun v => by kernel_rfl) fun Φ' hdep => ?_
  refine EX_cons ?_
  kpf_close
  repeat close_w
  refine GI_mem (by omega) (by omega) hc ?_ (fun _ _ => rfl)
  refine SN_new nm_ok (by kernel_rfl) ?_
  repeat close_w
  refine GI_tab (a := .int j) (by omega) (by omega) (by rw [hk]; exact t5) ⟨_, rfl⟩ ?_ (fun _ _ => rfl)
  repeat close_w
  refine GI_tab (a := .ref f) (by omega) (by omega) (by rw [hk]; exact t1) rfl ?_ (fun _ _ => rfl)
  refine FM_mk (H.isfn f ix hix).2 ?_
  repeat close_w
  refine hI H (by k_room) ⟨?_, v2, v3, v4, v5, v6, v7⟩ rfl fun c' hc' => ?_
  · show Builtin.bitAnd (c.pc + 1) 65535 = _
    rw [v1]; exact wrap1 hn
  repeat close_w
  refine GI_tab (a := .int i) (by omega) (by omega) (by rw [hk]; exact t3) ⟨_, rfl⟩ ?_ (fun _ _ => rfl)
  repeat close_w
  obtain ⟨u1, u2⟩ := hc'
  exact h _ ⟨(congrArg (Builtin.bitAnd · 65535) u1).trans (wrap hpc), u2⟩
theorem st_a5 {K : Frag} (H : KF K) {n sp : Nat} {a x y p : Int} {mem : List Int} (hn : n < 65530) {k : Nat} {z : Int} (h1 : mem[n + 1]? = some ((k : Nat) : Int)) (hk : k < 65536) (hz : mem[k]? = some z) (hm : mem.length = 65536) (h0 : mem[n]? = some 165) : Stp K ⟨n, sp, a, x, y, p, mem⟩ ⟨n + 2, sp, z, x, y, nz p z, mem⟩ :=
  stp_of H (op := 165) rfl rfl (by decide) (by dsimp only; omega) h0 (by dsimp only; omega) fun H' hr ⟨v1, v2, v3, v4, v5, v6, v7⟩ va h => by
    dsimp only at v1 v2 v3 v4 v5 v6 v7
    refine c_i_a5 H' (k := k) (z := z) (by omega) (by omega) (by rw [v1, v7]; exact h1) (by omega) (by omega) (by rw [v7]; exact hz) (by rw [v7]; exact hm) hr (h _ ⟨(by show _ = ((n + 2 : Nat) : Int); dsimp only; omega), v2, rfl, v4, v5, by rw [← v6], v7⟩)
theorem st_a6 {K : Frag} (H : KF K) {n sp : Nat} {a x y p : Int} {mem : List Int} (hn : n < 65530) {k : Nat} {z : Int} (h1 : mem[n + 1]? = some ((k : Nat) : Int)) (hk : k < 65536) (hz : mem[k]? = some z) (hm : mem.length = 65536) (h0 : mem[n]? = some 166) : Stp K ⟨n, sp, a, x, y, p, mem⟩ ⟨n + 2, sp, a, z, y, nz p z, mem⟩ :=
  stp_of H (op := 166) rfl rfl (by decide) (by dsimp only; omega) h0 (by dsimp only; omega) fun H' hr ⟨v1, v2, v3, v4, v5, v6, v7⟩ va h => by
    dsimp only at v1 v2 v3 v4 v5 v6 v7
    refine c_i_a6 H' (k := k) (z := z) (by omega) (by omega) (by rw [v1, v7]; exact h1) (by omega) (by omega) (by rw [v7]; exact hz) (by rw [v7]; exact hm) hr (h _ ⟨(by show _ = ((n + 2 : Nat) : Int); dsimp only; omega), v2, v3, rfl, v5, by rw [← v6], v7⟩)
theorem st_e6 {K : Frag} (H : KF K) {n sp : Nat} {a x y p : Int} {mem : List Int} (hn : n < 65530) {k : Nat} {z : Int} (h1 : mem[n + 1]? = some ((k : Nat) : Int)) (hk : k < 65536) (hz : mem[k]? = some z) (hm : mem.length = 65536) (h0 : mem[n]? = some 230) : Stp K ⟨n, sp, a, x, y, p, mem⟩ ⟨n + 2, sp, a, x, y, nz p (Builtin.bitAnd (z + 1) 255), mem.set k (Builtin.bitAnd (z + 1) 255)⟩ :=
  stp_of H (op := 230) rfl rfl (by decide) (by dsimp only; omega) h0 (by dsimp only; omega) fun H' hr ⟨v1, v2, v3, v4, v5, v6, v7⟩ va h => by
    dsimp only at v1 v2 v3 v4 v5 v6 v7
    refine c_i_e6 H' (k := k) (z := z) (by omega) (by omega) (by rw [v1, v7]; exact h1) (by omega) (by omega) (by rw [v7]; exact hz) (by rw [v7]; exact hm) hr (h _ ⟨(by show _ = ((n + 2 : Nat) : Int); dsimp only; omega), v2, v3, v4, v5, by rw [← v6], by rw [← v7]; rfl⟩)
theorem st_c6 {K : Frag} (H : KF K) {n sp : Nat} {a x y p : Int} {mem : List Int} (hn : n < 65530) {k : Nat} {z : Int} (h1 : mem[n + 1]? = some ((k : Nat) : Int)) (hk : k < 65536) (hz : mem[k]? = some z) (hm : mem.length = 65536) (h0 : mem[n]? = some 198) : Stp K ⟨n, sp, a, x, y, p, mem⟩ ⟨n + 2, sp, a, x, y, nz p (Builtin.bitAnd (z - 1) 255), mem.set k (Builtin.bitAnd (z - 1) 255)⟩ :=
  stp_of H (op := 198) rfl rfl (by decide) (by dsimp only; omega) h0 (by dsimp only; omega) fun H' hr ⟨v1, v2, v3, v4, v5, v6, v7⟩ va h => by
    dsimp only at v1 v2 v3 v4 v5 v6 v7
    refine c_i_c6 H' (k := k) (z := z) (by omega) (by omega) (by rw [v1, v7]; exact h1) (by omega) (by omega) (by rw [v7]; exact hz) (by rw [v7]; exact hm) hr (h _ ⟨(by show _ = ((n + 2 : Nat) : Int); dsimp only; omega), v2, v3, v4, v5, by rw [← v6], by rw [← v7]; rfl⟩)
theorem st_09 {K : Frag} (H : KF K) {n sp : Nat} {a x y p : Int} {mem : List Int} (hn : n < 65530) {z : Int} (h1 : mem[n + 1]? = some z) (h0 : mem[n]? = some 9) : Stp K ⟨n, sp, a, x, y, p, mem⟩ ⟨n + 2, sp, Builtin.bitOr a z, x, y, nz p (Builtin.bitOr a z), mem⟩ :=
  stp_of H (op := 9) rfl rfl (by decide) (by dsimp only; omega) h0 (by dsimp only; omega) fun H' hr ⟨v1, v2, v3, v4, v5, v6, v7⟩ va h => by
    dsimp only at v1 v2 v3 v4 v5 v6 v7
    refine c_i_09 H' (z := z) (by omega) (by omega) (by rw [v1, v7]; exact h1) hr (h _ ⟨(by show _ = ((n + 2 : Nat) : Int); dsimp only; omega), v2, by rw [← v3], v4, v5, by rw [← v6, ← v3], v7⟩)
theorem st_a2 {K : Frag} (H : KF K) {n sp : Nat} {a x y p : Int} {mem : List Int} (hn : n < 65530) {z : Int} (h1 : mem[n + 1]? = some z) (h0 : mem[n]? = some 162) : Stp K ⟨n, sp, a, x, y, p, mem⟩ ⟨n + 2, sp, a, z, y, nz p z, mem⟩ :=
  stp_of H (op := 162) rfl rfl (by decide) (by dsimp only; omega) h0 (by dsimp only; omega) fun H' hr ⟨v1, v2, v3, v4, v5, v6, v7⟩ va h => by
    dsimp only at v1 v2 v3 v4 v5 v6 v7
    refine c_i_a2 H' (z := z) (by omega) (by omega) (by rw [v1, v7]; exact h1) hr (h _ ⟨(by show _ = ((n + 2 : Nat) : Int); dsimp only; omega), v2, v3, rfl, v5, by rw [← v6], v7⟩)
theorem st_9d {K : Frag} (H : KF K) {n sp : Nat} {a x y p : Int} {mem : List Int} (hn : n < 65530) {z z1 : Nat} (h1 : mem[n + 1]? = some ((z : Nat) : Int)) (h2 : mem[n + 2]? = some ((z1 : Nat) : Int)) {X : Nat} (hx : x = X) (hk : z + z1 * 256 + X < 65536) (hm : mem.length = 65536) (h0 : mem[n]? = some 157) : Stp K ⟨n, sp, a, x, y, p, mem⟩ ⟨n + 3, sp, a, x, y, p, mem.set (z + z1 * 256 + X) a⟩ :=
  stp_of H (op := 157) rfl rfl (by decide) (by dsimp only; omega) h0 (by dsimp only; omega) fun H' hr ⟨v1, v2, v3, v4, v5, v6, v7⟩ va h => by
    dsimp only at v1 v2 v3 v4 v5 v6 v7
    refine c_i_9d H' (z := z) (z1 := z1) va (by omega) (by omega) (by rw [v1, v7]; exact h1) (by rw [v1, v7]; exact h2) (by omega) (by omega) (by rw [v7]; exact hm) hr (h _ ⟨(by show _ = ((n + 3 : Nat) : Int); dsimp only; omega), v2, v3, v4, v5, v6, ?_⟩)
    dsimp only
    rw [v7, v3, v4, hx, show (z : Int) + (z1 : Int) * 256 + (X : Int) = ((z + z1 * 256 + X : Nat) : Int) by omega, wrap hk, Int.toNat_natCast]
theorem st_58 {K : Frag} (H : KF K) {n sp : Nat} {a x y p : Int} {mem : List Int} (hn : n < 65530) (h0 : mem[n]? = some 88) : Stp K ⟨n, sp, a, x, y, p, mem⟩ ⟨n + 1, sp, a, x, y, Builtin.bitAnd p (Builtin.bitNot 4), mem⟩ :=
  stp_of H (op := 88) rfl rfl (by decide) (by dsimp only; omega) h0 (by dsimp only; omega) fun H' hr ⟨v1, v2, v3, v4, v5, v6, v7⟩ va h => by
    dsimp only at v1 v2 v3 v4 v5 v6 v7
    refine c_i_58 H' hr (h _ ⟨v1, v2, v3, v4, v5, by rw [← v6], v7⟩)
theorem st_78 {K : Frag} (H : KF K) {n sp : Nat} {a x y p : Int} {mem : List Int} (hn : n < 65530) (h0 : mem[n]? = some 120) : Stp K ⟨n, sp, a, x, y, p, mem⟩ ⟨n + 1, sp, a, x, y, Builtin.bitOr p 4, mem⟩ :=
  stp_of H (op := 120) rfl rfl (by decide) (by dsimp only; omega) h0 (by dsimp only; omega) fun H' hr ⟨v1, v2, v3, v4, v5, v6, v7⟩ va h => by
    dsimp only at v1 v2 v3 v4 v5 v6 v7
    refine c_i_78 H' hr (h _ ⟨v1, v2, v3, v4, v5, by rw [← v6], v7⟩)
theorem st_8a {K : Frag} (H : KF K) {n sp : Nat} {a x y p : Int} {mem : List Int} (hn : n < 65530) (h0 : mem[n]? = some 138) : Stp K ⟨n, sp, a, x, y, p, mem⟩ ⟨n + 1, sp, x, x, y, nz p x, mem⟩ :=
  stp_of H (op := 138) rfl rfl (by decide) (by dsimp only; omega) h0 (by dsimp only; omega) fun H' hr ⟨v1, v2, v3, v4, v5, v6, v7⟩ va h => by
    dsimp only at v1 v2 v3 v4 v5 v6 v7
    refine c_i_8a H' hr (h _ ⟨v1, v2, v4, v4, v5, by rw [← v6, ← v4], v7⟩)
theorem st_aa {K : Frag} (H : KF K) {n sp : Nat} {a x y p : Int} {mem : List Int} (hn : n < 65530) (h0 : mem[n]? = some 170) : Stp K ⟨n, sp, a, x, y, p, mem⟩ ⟨n + 1, sp, a, a, y, nz p a, mem⟩ :=
  stp_of H (op := 170) rfl rfl (by decide) (by dsimp only; omega) h0 (by dsimp only; omega) fun H' hr ⟨v1, v2, v3, v4, v5, v6, v7⟩ va h => by
    dsimp only at v1 v2 v3 v4 v5 v6 v7
    refine c_i_aa H' hr (h _ ⟨v1, v2, v3, v3, v5, by rw [← v6, ← v3], v7⟩)
theorem st_ca {K : Frag} (H : KF K) {n sp : Nat} {a x y p : Int} {mem : List Int} (hn : n < 65530) (h0 : mem[n]? = some 202) : Stp K ⟨n, sp, a, x, y, p, mem⟩ ⟨n + 1, sp, a, Builtin.bitAnd (x - 1) 255, y, nz p (Builtin.bitAnd (x - 1) 255), mem⟩ :=
  stp_of H (op := 202) rfl rfl (by decide) (by dsimp only; omega) h0 (by dsimp only; omega) fun H' hr ⟨v1, v2, v3, v4, v5, v6, v7⟩ va h => by
    dsimp only at v1 v2 v3 v4 v5 v6 v7
    refine c_i_ca H' hr (h _ ⟨v1, v2, v3, by rw [← v4], v5, by rw [← v6, ← v4], v7⟩)
theorem st_48 {K : Frag} (H : KF K) {n sp : Nat} {a x y p : Int} {mem : List Int} (hn : n < 65530) (s1 : sp + 1 < 256) (a0 : 0 ≤ a) (a1 : a < 256) (hm : mem.length = 65536) (h0 : mem[n]? = some 72) : Stp K ⟨n, sp + 1, a, x, y, p, mem⟩ ⟨n + 1, sp, a, x, y, p, mem.set (sp + 1 + 256) a⟩ :=
  stp_of H (op := 72) rfl rfl (by decide) (by dsimp only; omega) h0 (by dsimp only; omega) fun H' hr ⟨v1, v2, v3, v4, v5, v6, v7⟩ va h => by
    dsimp only at v1 v2 v3 v4 v5 v6 v7
    refine c_i_48 H' (by omega) (by omega) (by omega) (by omega) (by rw [v7]; exact hm) hr (h _ ⟨v1, (by dsimp only; omega), v3, v4, v5, v6, ?_⟩)
    dsimp only
    rw [v7, v3, v2]; congr 1
theorem st_68 {K : Frag} (H : KF K) {n sp : Nat} {a x y p : Int} {mem : List Int} (hn : n < 65530) {z : Int} (s1 : sp < 255) (hz : mem[sp + 1 + 256]? = some z) (h0 : mem[n]? = some 104) : Stp K ⟨n, sp, a, x, y, p, mem⟩ ⟨n + 1, sp + 1, z, x, y, nz p z, mem⟩ :=
  stp_of H (op := 104) rfl rfl (by decide) (by dsimp only; omega) h0 (by dsimp only; omega) fun H' hr ⟨v1, v2, v3, v4, v5, v6, v7⟩ va h => by
    dsimp only at v1 v2 v3 v4 v5 v6 v7
    refine c_i_68 H' (z := z) (by omega) (by omega) (by rw [v7, v2]; exact hz) hr (h _ ⟨v1, (by dsimp only; omega), rfl, v4, v5, by rw [← v6], v7⟩)
theorem st_40 {K : Frag} (H : KF K) {n sp : Nat} {a x y p : Int} {mem : List Int} (hn : n < 65530) {q l m : Nat} (s1 : sp < 253) (hz : mem[sp + 1 + 256]? = some ((q : Nat) : Int)) (hz1 : mem[sp + 2 + 256]? = some ((l : Nat) : Int)) (hz2 : mem[sp + 3 + 256]? = some ((m : Nat) : Int)) (hl : l + m * 256 < 65536) (h0 : mem[n]? = some 64) : Stp K ⟨n, sp, a, x, y, p, mem⟩ ⟨l + m * 256, sp + 3, a, x, y, Builtin.bitOr (Builtin.bitOr (q : Int) 16) 32, mem⟩ :=
  stp_of H (op := 64) rfl rfl (by decide) (by dsimp only; omega) h0 (by dsimp only; omega) fun H' hr ⟨v1, v2, v3, v4, v5, v6, v7⟩ va h => by
    dsimp only at v1 v2 v3 v4 v5 v6 v7
    refine c_i_40 H' (z := q) (z1 := l) (z2 := m) (by omega) (by omega) (by rw [v7, v2]; exact hz) (by rw [v7, v2]; exact hz1) (by rw [v7, v2]; exact hz2) (by omega) (by omega) hr (h _ ⟨(by dsimp only; omega), (by dsimp only; omega), v3, v4, v5, rfl, v7⟩)
theorem st_d0_on {K : Frag} (H : KF K) {n sp : Nat} {a x y p : Int} {mem : List Int} (hn : n < 65530) (hp : Builtin.bitAnd p 2 ≠ 0) (h0 : mem[n]? = some 208) : Stp K ⟨n, sp, a, x, y, p, mem⟩ ⟨n + 2, sp, a, x, y, p, mem⟩ :=
  stp_of H (op := 208) rfl rfl (by decide) (by dsimp only; omega) h0 (by dsimp only; omega) fun H' hr ⟨v1, v2, v3, v4, v5, v6, v7⟩ va h => by
    dsimp only at v1 v2 v3 v4 v5 v6 v7
    refine c_i_d0_on H' (by rw [v6]; exact hp) hr (h _ ⟨(by show _ = ((n + 2 : Nat) : Int); dsimp only; omega), v2, v3, v4, v5, v6, v7⟩)
theorem st_d0_off {K : Frag} (H : KF K) {n sp : Nat} {a x y p : Int} {mem : List Int} (hn : n < 65530) (hp : Builtin.bitAnd p 2 = 0) {z : Int} {m : Nat} (h1 : mem[n + 1]? = some z) (hm : brTo ((n + 1 : Nat) : Int) z = (m : Int)) (hm' : m < 65536) (h0 : mem[n]? = some 208) : Stp K ⟨n, sp, a, x, y, p, mem⟩ ⟨m, sp, a, x, y, p, mem⟩ :=
  stp_of H (op := 208) rfl rfl (by decide) (by dsimp only; omega) h0 (by dsimp only; omega) fun H' hr ⟨v1, v2, v3, v4, v5, v6, v7⟩ va h => by
    dsimp only at v1 v2 v3 v4 v5 v6 v7
    refine c_i_d0_off H' (z := z) (by rw [v6]; exact hp) (by omega) (by omega) (by rw [v1, v7]; exact h1) hr fun e => h _ ⟨?_, v2, v3, v4, v5, v6, v7⟩
    dsimp only
    rw [v1]; exact hm
/-- A call of irq leads from r to r'. -/
structure Irq (K : Frag) (r r' : Rg) : Prop where
  run : ∀ {G : Gl} {cs : Scope} {Φ : Cx G cs} {x d y : Addr} {c : Cpu} {rest : List (Addr × AO)} {loc : List (Nat × AV)} {Q : AV → St → Prop}, G.K = K → Vw c r → Φ.A.depth + 6 < recursionLimit →
    (∀ c', Vw c' r' → Q .none ⟨loc, hpOf x d y c' rest⟩) → CL nm Φ 57 [.ref x] ⟨loc, hpOf x d y c rest⟩ Q
theorem irq_shut {K : Frag} (H : KF K) {r : Rg} (hp : Builtin.bitAnd r.p 4 ≠ 0) : Irq K r r := by
  refine ⟨?_⟩
  intro G cs Φ x d y c rest loc Q hK hv hr h
  subst hK
  have hv' := hv
  obtain ⟨v1, v2, v3, v4, v5, v6, v7⟩ := hv
  exact c_irq_shut H (by rw [v6]; exact hp) (by omega) (h _ hv')
theorem irq_open {K : Frag} (H : KF K) {n sp q z z1 : Nat} {a x y p : Int} {mem : List Int} (hp : Builtin.bitAnd p 4 = 0) (hn : n < 65536) (s1 : sp + 3 < 256) (hm : mem.length = 65536)
    (hq : Builtin.bitOr (Builtin.bitAnd p (Builtin.bitNot 16)) 32 = (q : Int)) (q1 : q < 256) (hz : mem[65534]? = some ((z : Nat) : Int)) (hz1 : mem[65535]? = some ((z1 : Nat) : Int)) (b : z + z1 * 256 < 65536) :
    Irq K ⟨n, sp + 3, a, x, y, p, mem⟩ ⟨z + z1 * 256, sp, a, x, y, Builtin.bitOr (Builtin.bitAnd p (Builtin.bitNot 16)) 4, ((mem.set (sp + 3 + 256) ((n / 256 : Nat) : Int)).set (sp + 2 + 256) ((n % 256 : Nat) : Int)).set (sp + 1 + 256) (q : Int)⟩ := by
  refine ⟨?_⟩
  intro G cs Φ x d y c rest loc Q hK hv hr h
  subst hK
  obtain ⟨v1, v2, v3, v4, v5, v6, v7⟩ := hv
  dsimp only at v1 v2 v3 v4 v5 v6 v7
  refine c_irq_open H (z := z) (z1 := z1) (by rw [v6]; exact hp) (by omega) (by omega) (by omega) (by omega) (by rw [v7]; exact hm) (by rw [v6, hq]; omega) (by rw [v6, hq]; omega) (by rw [v7]; exact hz) (by rw [v7]; exact hz1) (by omega) (by omega) (by omega) fun cy => h _ ⟨?_, ?_, v3, v4, v5, ?_, ?_⟩
  · dsimp only; omega
  · dsimp only; omega
  · dsimp only; rw [v6]
  · dsimp only
    rw [v6, v7, hq, v1, v2]
    rw [show ((sp + 3 : Nat) : Int) + 256 = ((sp + 3 + 256 : Nat) : Int) by omega, show ((sp + 3 : Nat) : Int) - 1 + 256 = ((sp + 2 + 256 : Nat) : Int) by omega, show ((sp + 3 : Nat) : Int) - 1 - 1 + 256 = ((sp + 1 + 256 : Nat) : Int) by omega, Int.toNat_natCast, Int.toNat_natCast, Int.toNat_natCast]
    rfl
end
section
variable {G : Gl} {cs : Scope} {Φ : Cx G cs} {σ : St}
section
variable {x d : Addr} {fs : List (Nat × AV)} {rest : List (Addr × AO)} {loc : List (Nat × AV)} {Q : AV → St → Prop} {R : St → Prop}
theorem GA_f0 (H : KF G.K) {n : Nat} {v : AV} (hf : cfld n = true) (hl : fs.lookup n = some v) (h : Q v ⟨loc, (x, .inst CA d) :: (d, .dict fs) :: rest⟩) : GA nm Φ (.ref x) (nm n) ⟨loc, (x, .inst CA d) :: (d, .dict fs) :: rest⟩ Q :=
  GA_field H.cls (H.fld n hf) (.head _) (.tail _ (.head _)) hl h
theorem GA_c0 (H : KF G.K) {n : Nat} {i : Int} (hi : cint n = some i) (hl : fs.lookup n = none) (h : Q (.int i) ⟨loc, (x, .inst CA d) :: (d, .dict fs) :: rest⟩) : GA nm Φ (.ref x) (nm n) ⟨loc, (x, .inst CA d) :: (d, .dict fs) :: rest⟩ Q :=
  GA_int H.cls (H.int n i hi) (.head _) (.tail _ (.head _)) hl h
theorem SA_f0 (H : KF G.K) {n : Nat} {v : AV} (hf : cfld n = true) (hz : fs.length < 1000) (h : R ⟨loc, (x, .inst CA d) :: (d, .dict (put n v fs)) :: rest⟩) : SA nm Φ (.ref x) (nm n) v ⟨loc, (x, .inst CA d) :: (d, .dict fs) :: rest⟩ R :=
  SA_field nm_ok H.cls (H.fld n hf) (.head _) (.tail .head) hz h
theorem GM_c0 (H : KF G.K) {n : Nat} {f : Addr} {P : Addr → Addr → Prop} (hf : cfn n = some f) (hl : fs.lookup n = none) (h : P f x) : GM G nm (.ref x) n ⟨loc, (x, .inst CA d) :: (d, .dict fs) :: rest⟩ P :=
  GM_inst H.cls (H.fn n f hf) (.head _) (.tail _ (.head _)) hl h
end
local macro_rules | `(tactic| close_w) => `(tactic| first
  | (refine isGA ?_; first
    | refine GA_f0 (by assumption) rfl rfl ?_
    | refine GA_c0 (by assumption) rfl rfl ?_)
  | (refine SA_f0 (by assumption) rfl (by exact of_decide_eq_true rfl) ?_; dsimp only [put, Nat.reduceBEq])
  | refine GM_c0 (by assumption) rfl rfl ?_)
section
variable {x d y : Addr} {rest : List (Addr × AO)} {loc : List (Nat × AV)} {Q : AV → St → Prop}
noncomputable def fs10 (y : Addr) (pc : Int) : List (Nat × AV) := [(1, .any), (2, .int 255), (3, .int 65535), (4, .int 65280), (5, .int 256), (6, .int 0), (7, .bool false), (8, .int 0), (9, .ref y), (10, .int pc)]
/-- The machine behind its making. -/
noncomputable def cpu0 (pc : Int) (mem : List Int) : Cpu := ⟨0, .bool false, 0, pc, pc, 255, 0, 0, 0, Builtin.bitOr 16 32, mem⟩
theorem c_reset (H : KF G.K) {pc : Int} (hr : Φ.A.depth + 0 < recursionLimit) (h : Q .none ⟨loc, (x, .inst CA d) :: (d, .dict (fsOf y (cpu0 pc []))) :: rest⟩) :
    CL nm Φ 50 [.ref x] ⟨loc, (x, .inst CA d) :: (d, .dict (fs10 y pc)) :: rest⟩ Q := by
  refine CL_m H rfl (by omega) (ns := [0]) (by decide +kernel) (binds1 fun v => by kernel_rfl) fun Φ' hdep => ?_
  unfold fs10
  refine EX_cons ?_
  kpf_close
  repeat close_w
  refine if_both (fun q => nomatch q) fun _ => ?_
  repeat close_w
  exact h
theorem x_init (H : KF G.K) {pc : Int} {Q : Fl → St → Prop} (Φ : Cx G (sScope (cst 15))) (hr : Φ.A.depth + 1 < recursionLimit) (h : ∀ loc, Q .next ⟨loc, (x, .inst CA d) :: (d, .dict (fsOf y (cpu0 pc []))) :: rest⟩) :
    EX nm Φ (sBody (cst 15)) ⟨[(0, .ref x), (9, .ref y), (11, .int pc)], (x, .inst CA d) :: (d, .dict []) :: rest⟩ Q := by
  refine EX_cons ?_
  kpf_close
  repeat close_w
  refine BO_shl (by decide) (by decide) ?_
  rw [show (1 : Int) * 2 ^ Int.toNat 8 = 256 by decide]
  repeat close_w
  refine BO_shl (by decide) (by decide) ?_
  rw [show (1 : Int) * 2 ^ Int.toNat 16 = 65536 by decide]
  repeat close_w
  refine BO_shl (by decide) (by decide) ?_
  rw [show (256 - 1 : Int) * 2 ^ Int.toNat 8 = 65280 by decide]
  repeat close_w
  refine BO_shl (by decide) (by decide) ?_
  rw [show (1 : Int) * 2 ^ Int.toNat 8 = 256 by decide]
  repeat close_w
  refine if_both (fun q => nomatch q) fun _ => ?_
  repeat close_w
  refine c_reset H (by k_room) ?_
  repeat close_w
  exact h _
end
end
end
section
open Builtin
/-! Bits of octets. -/
theorem b128 : ∀ w : Nat, w < 256 → bitAnd (w : Int) 128 = 0 ∨ bitAnd (w : Int) 128 = 128 := by decide +kernel
theorem nz3 (p : Int) {w : Nat} (h : w < 256) : (w = 0 ∧ nz p w = nz p 0) ∨ (w ≠ 0 ∧ nz p w = nz p 1) ∨ (w ≠ 0 ∧ nz p w = nz p 128) := by
  by_cases e : w = 0
  · subst e; exact .inl ⟨rfl, rfl⟩
  · have e' : (w : Int) ≠ 0 := by omega
    rcases b128 w h with q | q
    · refine .inr (.inl ⟨e, ?_⟩)
      unfold nz
      rw [if_neg e', if_neg (by decide), q, show bitAnd 1 128 = 0 by decide +kernel]
    · refine .inr (.inr ⟨e, ?_⟩)
      unfold nz
      rw [if_neg e', if_neg (by decide), q, show bitAnd 128 128 = 128 by decide +kernel]
noncomputable def oct (i : Int) : Prop := ∃ n : Nat, n < 256 ∧ i = n
theorem octD {i : Int} (h : 0 ≤ i) (h' : i < 256) : oct i := ⟨i.toNat, by omega, by omega⟩
theorem nz_a0 : ∀ p : Nat, p < 256 → (0 ≤ nz p 0 ∧ nz p 0 < 256) ∧ bitAnd (nz p 0) 4 = bitAnd p 4 ∧ bitAnd (nz p 0) 2 ≠ 0 := by decide +kernel
theorem nz_a1 : ∀ p : Nat, p < 256 → (0 ≤ nz p 1 ∧ nz p 1 < 256) ∧ bitAnd (nz p 1) 4 = bitAnd p 4 ∧ bitAnd (nz p 1) 2 = 0 := by decide +kernel
theorem nz_a2 : ∀ p : Nat, p < 256 → (0 ≤ nz p 128 ∧ nz p 128 < 256) ∧ bitAnd (nz p 128) 4 = bitAnd p 4 ∧ bitAnd (nz p 128) 2 = 0 := by decide +kernel
theorem nz_oct {p w : Nat} (hp : p < 256) (hw : w < 256) : ∃ p' : Nat, nz p w = (p' : Int) ∧ p' < 256 ∧ bitAnd (p' : Int) 4 = bitAnd (p : Int) 4 := by
  have key : ∀ v : Int, (0 ≤ nz p v ∧ nz p v < 256) → bitAnd (nz p v) 4 = bitAnd p 4 → ∃ p' : Nat, nz p v = (p' : Int) ∧ p' < 256 ∧ bitAnd (p' : Int) 4 = bitAnd (p : Int) 4 := fun v h1 h2 =>
    ⟨(nz p v).toNat, by omega, by omega, by rw [show (((nz p v).toNat : Nat) : Int) = nz p v by omega]; exact h2⟩
  rcases nz3 (p : Int) hw with ⟨_, e⟩ | ⟨_, e⟩ | ⟨_, e⟩ <;> rw [e]
  · exact key 0 (nz_a0 p hp).1 (nz_a0 p hp).2.1
  · exact key 1 (nz_a1 p hp).1 (nz_a1 p hp).2.1
  · exact key 128 (nz_a2 p hp).1 (nz_a2 p hp).2.1
theorem nz_z {p w : Nat} (hp : p < 256) (hw : w < 256) : (w = 0 → bitAnd (nz p w) 2 ≠ 0) ∧ (w ≠ 0 → bitAnd (nz p w) 2 = 0) := by
  rcases nz3 (p : Int) hw with ⟨q, e⟩ | ⟨q, e⟩ | ⟨q, e⟩ <;> rw [e]
  · exact ⟨fun _ => (nz_a0 p hp).2.2, fun h => absurd q h⟩
  · exact ⟨fun h => absurd h q, fun _ => (nz_a1 p hp).2.2⟩
  · exact ⟨fun h => absurd h q, fun _ => (nz_a2 p hp).2.2⟩
theorem nz_b0 : ∀ p : Nat, p < 256 → ∀ v ∈ [0, 1, 128], ∀ w ∈ [0, 1, 128], nz (nz p v) w = nz p w := by decide +kernel
theorem nz_rep {w : Nat} (h : w < 256) : ∃ v : Int, v ∈ [(0 : Int), 1, 128] ∧ (w = 0 ↔ v = 0) ∧ ∀ p, nz p w = nz p v := by
  by_cases e : w = 0
  · subst e; exact ⟨0, by decide, by decide, fun p => rfl⟩
  · have e' : (w : Int) ≠ 0 := by omega
    rcases b128 w h with q | q
    · refine ⟨1, by decide, ⟨fun z => absurd z e, fun z => nomatch z⟩, fun p => ?_⟩
      unfold nz
      rw [if_neg e', if_neg (by decide), q, show bitAnd 1 128 = 0 by decide +kernel]
    · refine ⟨128, by decide, ⟨fun z => absurd z e, fun z => nomatch z⟩, fun p => ?_⟩
      unfold nz
      rw [if_neg e', if_neg (by decide), q, show bitAnd 128 128 = 128 by decide +kernel]
theorem nz_nz {p v w : Nat} (hp : p < 256) (hv : v < 256) (hw : w < 256) : nz (nz p v) w = nz p w := by
  obtain ⟨v', hv', _, ev⟩ := nz_rep hv
  obtain ⟨w', hw', _, ew⟩ := nz_rep hw
  rw [ev, ew, ew]
  exact nz_b0 p hp v' hv' w' hw'
theorem p0_a : ∀ p : Nat, p < 256 → (bitAnd p 16 ≠ 0 ∧ bitAnd p 32 ≠ 0 ∧ bitAnd p 4 = 0) → ∀ v ∈ [(0 : Int), 1, 128], bitAnd (nz p v) 16 ≠ 0 ∧ bitAnd (nz p v) 32 ≠ 0 ∧ bitAnd (nz p v) 4 = 0 := by decide +kernel
theorem p0_b : ∀ c : Nat, c < 2 → ∀ d : Nat, d < 2 → ∀ v : Nat, v < 2 → bitAnd ((48 + c + 8 * d + 64 * v : Nat) : Int) 16 ≠ 0 ∧ bitAnd ((48 + c + 8 * d + 64 * v : Nat) : Int) 32 ≠ 0 ∧ bitAnd ((48 + c + 8 * d + 64 * v : Nat) : Int) 4 = 0 ∧ nz ((48 + c + 8 * d + 64 * v : Nat) : Int) 0 = ((48 + c + 8 * d + 64 * v + 2 : Nat) : Int) := by decide +kernel
theorem ora_ : ∀ n : Nat, n < 128 → bitOr (n : Int) 128 = ((128 + n : Nat) : Int) := by decide +kernel
theorem inc_ {v : Nat} (h : v + 1 < 256) : bitAnd ((v : Int) + 1) 255 = ((v + 1 : Nat) : Int) := by rw [bitAnd_m8]; omega
theorem dec_ {v : Nat} (h : v + 1 < 256) : bitAnd (((v + 1 : Nat) : Int) - 1) 255 = (v : Int) := by rw [bitAnd_m8]; omega
theorem cli_ : ∀ p : Nat, p < 256 → (0 ≤ bitAnd p (bitNot 4) ∧ bitAnd p (bitNot 4) < 256) ∧ bitAnd (bitAnd p (bitNot 4)) 4 = 0 := by decide +kernel
theorem sei_ : ∀ p : Nat, p < 256 → (0 ≤ bitOr p 4 ∧ bitOr p 4 < 256) ∧ bitAnd (bitOr p 4) 4 ≠ 0 := by decide +kernel
theorem irq_q : ∀ p : Nat, p < 256 → (0 ≤ bitOr (bitAnd p (bitNot 16)) 32 ∧ bitOr (bitAnd p (bitNot 16)) 32 < 256) ∧ (0 ≤ bitOr (bitAnd p (bitNot 16)) 4 ∧ bitOr (bitAnd p (bitNot 16)) 4 < 256) ∧ bitAnd (bitOr (bitAnd p (bitNot 16)) 4) 4 ≠ 0 := by decide +kernel
theorem rti_ : ∀ p : Nat, p < 256 → (0 ≤ bitOr (bitOr p 16) 32 ∧ bitOr (bitOr p 16) 32 < 256) := by decide +kernel
theorem rti_i : ∀ p : Nat, p < 256 → bitAnd (bitOr (bitOr (bitOr (bitAnd p (bitNot 16)) 32) 16) 32) 4 = bitAnd p 4 := by decide +kernel
theorem rti_s : ∀ p : Nat, p < 256 → bitAnd p 16 ≠ 0 → bitAnd p 32 ≠ 0 → bitOr (bitOr (bitOr (bitAnd p (bitNot 16)) 32) 16) 32 = p := by decide +kernel
end
section
/-! The plain law of the nested handlers. -/
noncomputable def hcode : List Int := [72, 138, 72, 166, 64, 165, 65, 157, 0, 6, 230, 64, 230, 65, 88, 230, 51, 230, 51, 230, 51, 230, 51, 230, 51, 230, 51, 120, 198, 65, 166, 64, 165, 65, 9, 128, 157, 0, 6, 230, 64, 104, 170, 104, 64]
noncomputable def hpcs : List Nat := [49152, 49153, 49154, 49155, 49157, 49159, 49162, 49164, 49166, 49167, 49169, 49171, 49173, 49175, 49177, 49179, 49180, 49182, 49184, 49186, 49188, 49191, 49193, 49194, 49195, 49196]
noncomputable def hpc (d : Nat) : Nat := hpcs.getD d 0
/-- The memory as it is at first. -/
structure Plain (r : Nat) (pl : List Int) : Prop where
  len : pl.length = 65536
  code : ∀ (i : Nat) (z : Int), hcode[i]? = some z → pl[49152 + i]? = some z
  v0 : pl[65534]? = some ((0 : Nat) : Int)
  v1 : pl[65535]? = some ((192 : Nat) : Int)
  m0 : pl[512]? = some 162
  m1 : pl[513]? = some (r : Int)
  m2 : pl[514]? = some 230
  m3 : pl[515]? = some ((50 : Nat) : Int)
  m4 : pl[516]? = some 202
  m5 : pl[517]? = some 208
  m6 : pl[518]? = some 251
  z50 : pl[50]? = some ((0 : Nat) : Int)
  z51 : pl[51]? = some ((0 : Nat) : Int)
  z64 : pl[64]? = some ((0 : Nat) : Int)
  z65 : pl[65]? = some ((0 : Nat) : Int)
noncomputable def want (v50 v51 v64 v65 : Nat) (word pl : List Int) (k : Nat) : Option Int :=
  if k = 50 then some (v50 : Int) else if k = 51 then some (v51 : Int) else if k = 64 then some (v64 : Int) else if k = 65 then some (v65 : Int) else if 1536 ≤ k ∧ k < 1536 + word.length then word[k - 1536]? else pl[k]?
/-- The memory but for the stack's page. -/
structure Mem (v50 v51 v64 v65 : Nat) (word pl mem : List Int) : Prop where
  len : mem.length = 65536
  at_ : ∀ k, k < 256 ∨ 512 ≤ k → mem[k]? = want v50 v51 v64 v65 word pl k
section
variable {v50 v51 v64 v65 : Nat} {word pl mem : List Int}
theorem Mem.c50 (M : Mem v50 v51 v64 v65 word pl mem) : mem[50]? = some (v50 : Int) := by rw [M.at_ 50 (.inl (by decide))]; rfl
theorem Mem.c51 (M : Mem v50 v51 v64 v65 word pl mem) : mem[51]? = some (v51 : Int) := by rw [M.at_ 51 (.inl (by decide))]; rfl
theorem Mem.c64 (M : Mem v50 v51 v64 v65 word pl mem) : mem[64]? = some (v64 : Int) := by rw [M.at_ 64 (.inl (by decide))]; rfl
theorem Mem.c65 (M : Mem v50 v51 v64 v65 word pl mem) : mem[65]? = some (v65 : Int) := by rw [M.at_ 65 (.inl (by decide))]; rfl
theorem Mem.hi (M : Mem v50 v51 v64 v65 word pl mem) {k : Nat} (h : 2000 ≤ k) (hw : word.length ≤ 100) : mem[k]? = pl[k]? := by
  rw [M.at_ k (.inr (by omega))]
  unfold want
  rw [if_neg (by omega), if_neg (by omega), if_neg (by omega), if_neg (by omega), if_neg (by omega)]
theorem Mem.mid (M : Mem v50 v51 v64 v65 word pl mem) {k : Nat} (h : 512 ≤ k) (h' : k < 1536) : mem[k]? = pl[k]? := by
  rw [M.at_ k (.inr (by omega))]
  unfold want
  rw [if_neg (by omega), if_neg (by omega), if_neg (by omega), if_neg (by omega), if_neg (by omega)]
theorem Mem.stk (M : Mem v50 v51 v64 v65 word pl mem) {k : Nat} {z : Int} (h : 256 ≤ k) (h' : k < 512) : Mem v50 v51 v64 v65 word pl (mem.set k z) := by
  refine ⟨by rw [List.length_set]; exact M.len, fun j hj => ?_⟩
  rw [List.getElem?_set_ne (by omega)]
  exact M.at_ j hj
theorem Mem.set50 (M : Mem v50 v51 v64 v65 word pl mem) (v : Nat) : Mem v v51 v64 v65 word pl (mem.set 50 (v : Int)) := by
  refine ⟨by rw [List.length_set]; exact M.len, fun j hj => ?_⟩
  by_cases e : j = 50
  · subst e; rw [List.getElem?_set_self (by rw [M.len]; decide)]; rfl
  · rw [List.getElem?_set_ne (by omega), M.at_ j hj]
    unfold want
    rw [if_neg e, if_neg e]
theorem Mem.set51 (M : Mem v50 v51 v64 v65 word pl mem) (v : Nat) : Mem v50 v v64 v65 word pl (mem.set 51 (v : Int)) := by
  refine ⟨by rw [List.length_set]; exact M.len, fun j hj => ?_⟩
  by_cases e : j = 51
  · subst e; rw [List.getElem?_set_self (by rw [M.len]; decide)]; rfl
  · rw [List.getElem?_set_ne (by omega), M.at_ j hj]
    unfold want
    rw [if_neg e, if_neg e]
theorem Mem.set64 (M : Mem v50 v51 v64 v65 word pl mem) (v : Nat) : Mem v50 v51 v v65 word pl (mem.set 64 (v : Int)) := by
  refine ⟨by rw [List.length_set]; exact M.len, fun j hj => ?_⟩
  by_cases e : j = 64
  · subst e; rw [List.getElem?_set_self (by rw [M.len]; decide)]; rfl
  · rw [List.getElem?_set_ne (by omega), M.at_ j hj]
    unfold want
    rw [if_neg e, if_neg e]
theorem Mem.set65 (M : Mem v50 v51 v64 v65 word pl mem) (v : Nat) : Mem v50 v51 v64 v word pl (mem.set 65 (v : Int)) := by
  refine ⟨by rw [List.length_set]; exact M.len, fun j hj => ?_⟩
  by_cases e : j = 65
  · subst e; rw [List.getElem?_set_self (by rw [M.len]; decide)]; rfl
  · rw [List.getElem?_set_ne (by omega), M.at_ j hj]
    unfold want
    rw [if_neg e, if_neg e]
theorem Mem.log (M : Mem v50 v51 v64 v65 word pl mem) (z : Int) (hw : word.length ≤ 100) : Mem v50 v51 v64 v65 (word ++ [z]) pl (mem.set (1536 + word.length) z) := by
  refine ⟨by rw [List.length_set]; exact M.len, fun j hj => ?_⟩
  by_cases e : j = 1536 + word.length
  · subst e
    rw [List.getElem?_set_self (by rw [M.len]; omega)]
    unfold want
    rw [if_neg (by omega), if_neg (by omega), if_neg (by omega), if_neg (by omega), if_pos (by rw [List.length_append]; simp), Nat.add_sub_cancel_left, List.getElem?_append_right (Nat.le_refl _), Nat.sub_self]
    rfl
  · rw [List.getElem?_set_ne (by omega), M.at_ j hj]
    unfold want
    rw [List.length_append, List.length_singleton]
    by_cases a : j = 50
    · rw [if_pos a, if_pos a]
    by_cases b : j = 51
    · rw [if_neg a, if_neg a, if_pos b, if_pos b]
    by_cases c : j = 64
    · rw [if_neg a, if_neg a, if_neg b, if_neg b, if_pos c, if_pos c]
    by_cases d : j = 65
    · rw [if_neg a, if_neg a, if_neg b, if_neg b, if_neg c, if_neg c, if_pos d, if_pos d]
    rw [if_neg a, if_neg a, if_neg b, if_neg b, if_neg c, if_neg c, if_neg d, if_neg d]
    by_cases f : 1536 ≤ j ∧ j < 1536 + word.length
    · rw [if_pos f, if_pos (by omega), List.getElem?_append_left (by omega)]
    · rw [if_neg f, if_neg (by omega)]
end
noncomputable def stands (m : Nat) : Nat := if m = 0 then 512 else if (m - 1) % 3 = 0 then 514 else if (m - 1) % 3 = 1 then 516 else 517
noncomputable def xm (r m : Nat) : Nat := if m = 0 then 0 else if (m - 1) % 3 = 2 then r - (m - 1) / 3 - 1 else r - (m - 1) / 3
noncomputable def vm (r m : Nat) : Nat := if (m - 1) % 3 = 0 then r - (m - 1) / 3 else if (m - 1) % 3 = 1 then (m - 1) / 3 + 1 else r - (m - 1) / 3 - 1
noncomputable def pm (r p0 m : Nat) : Int := if m = 0 then (p0 : Int) else nz p0 (vm r m)
noncomputable def mpc (r m : Nat) : Nat := if m = 1 + 3 * r then 519 else stands m
/-- What is asked of A and X within a handler. -/
noncomputable def AX (n wl : Nat) : Nat → (a' x' a x : Nat) → Prop
  | 0, a', x', a, x => a = a' ∧ x = x'
  | 1, a', x', a, x => x = x'
  | 2, a', x', a, x => a = x'
  | 4, a', x', a, x => x = wl
  | 5, a', x', a, x => x = wl ∧ a = n
  | 18, a', x', a, x => x = wl
  | 19, a', x', a, x => x = wl ∧ a = n
  | 20, a', x', a, x => x = wl ∧ a = 128 + n
  | 23, a', x', a, x => a = x'
  | 24, a', x', a, x => x = x'
  | 25, a', x', a, x => a = a' ∧ x = x'
  | _, _, _, _, _ => True
theorem AX.mid (n wl a' x' a x : Nat) : ∀ d, 9 ≤ d → d ≤ 15 → AX n wl d a' x' a x
  | 9, _, _ | 10, _, _ | 11, _, _ | 12, _, _ | 13, _, _ | 14, _, _ | 15, _, _ => trivial
  | 0, h, _ | 1, h, _ | 2, h, _ | 3, h, _ | 4, h, _ | 5, h, _ | 6, h, _ | 7, h, _ | 8, h, _ => absurd h (by decide)
  | _ + 16, _, h => absurd h (by omega)
noncomputable def spo (d : Nat) : Nat := if d = 0 then 2 else if d ≤ 2 then 1 else if d ≤ 22 then 0 else if d ≤ 24 then 1 else 2
/-- What lies on the stack of a handler's. -/
structure Sv (mem : List Int) (b d pc' p' a' x' q : Nat) : Prop where
  hi : mem[b + 5]? = some ((pc' / 256 : Nat) : Int)
  lo : mem[b + 4]? = some ((pc' % 256 : Nat) : Int)
  pp : mem[b + 3]? = some (q : Int)
  back : Builtin.bitOr (Builtin.bitOr (q : Int) 16) 32 = (p' : Int)
  sa : 1 ≤ d → mem[b + 2]? = some (a' : Int)
  sx : 3 ≤ d → mem[b + 1]? = some (x' : Int)
/-- A handler's own state. -/
structure HS (n wl d s a x p pc' a' x' p' q : Nat) (mem : List Int) : Prop where
  hs : s + 5 * n = 250
  hn : n ≤ 4
  ha : a < 256
  hx : x < 256
  hp : p < 256
  hi : 9 ≤ d ∧ d ≤ 15 ↔ Builtin.bitAnd (p : Int) 4 = 0
  ha' : a' < 256
  hx' : x' < 256
  hp' : p' < 256
  hc' : pc' < 65536
  sv : Sv mem (s + 256) d pc' p' a' x' q
  ax : AX n wl d a' x' a x
noncomputable def RInv (r a0 p0 m : Nat) (mem : List Int) : List Nat → Nat → Nat → Nat → Nat → Nat → Nat → Prop
  | [], _, pc, sp, a, x, p => pc = mpc r m ∧ sp = 255 ∧ a = a0 ∧ x = xm r m ∧ (p : Int) = pm r p0 m
  | d :: t, wl, pc, sp, a, x, p => ∃ s pc' a' x' p' q, pc = hpc d ∧ sp = s + spo d ∧ HS t.length wl d s a x p pc' a' x' p' q mem ∧ RInv r a0 p0 m mem t 0 pc' (s + 5) a' x' p'
section
variable {mem : List Int} {b d pc' p' a' x' q : Nat}
theorem Sv.same {mem' : List Int} (S : Sv mem b d pc' p' a' x' q) (h : ∀ k, b < k → k < b + 6 → mem'[k]? = mem[k]?) : Sv mem' b d pc' p' a' x' q :=
  ⟨(h _ (by omega) (by omega)).trans S.hi, (h _ (by omega) (by omega)).trans S.lo, (h _ (by omega) (by omega)).trans S.pp, S.back, fun e => (h _ (by omega) (by omega)).trans (S.sa e), fun e => (h _ (by omega) (by omega)).trans (S.sx e)⟩
theorem Sv.next (S : Sv mem b d pc' p' a' x' q) (h0 : d ≠ 0) (h2 : d ≠ 2) : Sv mem b (d + 1) pc' p' a' x' q :=
  ⟨S.hi, S.lo, S.pp, S.back, fun e => S.sa (by omega), fun e => S.sx (by omega)⟩
theorem Sv.out {k : Nat} {z : Int} (S : Sv mem b d pc' p' a' x' q) (h : k < 256 ∨ 512 ≤ k) (hb : 256 ≤ b) (hb' : b < 507) : Sv (mem.set k z) b d pc' p' a' x' q :=
  S.same fun j h1 h2 => List.getElem?_set_ne (by omega)
theorem RInv.frame {r a0 p0 m : Nat} {mem mem' : List Int} : ∀ (t : List Nat) (wl pc sp a x p : Nat), (∀ k, 511 < k + 5 * t.length → k < 512 → mem'[k]? = mem[k]?) → RInv r a0 p0 m mem t wl pc sp a x p → RInv r a0 p0 m mem' t wl pc sp a x p
  | [], _, _, _, _, _, _, _, h => h
  | d :: t, wl, pc, sp, a, x, p, hk, ⟨s, pc', a', x', p', q, h1, h2, S, R⟩ => by
    rw [List.length_cons] at hk
    have hs := S.hs
    refine ⟨s, pc', a', x', p', q, h1, h2, { S with sv := S.sv.same fun k k1 k2 => hk k (by omega) (by omega) }, RInv.frame t _ _ _ _ _ _ (fun k k1 k2 => hk k (by omega) k2) R⟩
theorem RInv.wl {r a0 p0 m : Nat} {mem : List Int} {t : List Nat} {wl wl' pc sp a x p : Nat} (h : ∀ d, t.head? = some d → 9 ≤ d ∧ d ≤ 15) (R : RInv r a0 p0 m mem t wl pc sp a x p) : RInv r a0 p0 m mem t wl' pc sp a x p := by
  cases t with
  | nil => exact R
  | cons d t =>
    obtain ⟨s, pc', a', x', p', q, h1, h2, S, R⟩ := R
    exact ⟨s, pc', a', x', p', q, h1, h2, { S with ax := AX.mid _ _ _ _ _ _ d (h d rfl).1 (h d rfl).2 }, R⟩
end
theorem HS.step {n wl wl' d s a x p a2 x2 p2 pc' a' x' p' q : Nat} {mem mem2 : List Int} (S : HS n wl d s a x p pc' a' x' p' q mem) (h0 : d ≠ 0) (h2 : d ≠ 2) (ha : a2 < 256) (hx : x2 < 256) (hp : p2 < 256) (hi : 9 ≤ d + 1 ∧ d + 1 ≤ 15 ↔ Builtin.bitAnd (p2 : Int) 4 = 0)
    (ax : AX n wl' (d + 1) a' x' a2 x2) (fr : ∀ k, s + 256 < k → k < 512 → mem2[k]? = mem[k]?) : HS n wl' (d + 1) s a2 x2 p2 pc' a' x' p' q mem2 :=
  ⟨S.hs, S.hn, ha, hx, hp, hi, S.ha', S.hx', S.hp', S.hc', (S.sv.next h0 h2).same fun k k1 k2 => fr k k1 (by have := S.hs; clear S fr; omega), ax⟩
theorem HS.hiN {n wl d s a x p p2 pc' a' x' p' q : Nat} {mem : List Int} (S : HS n wl d s a x p pc' a' x' p' q mem) (hb : (9 ≤ d + 1 ∧ d + 1 ≤ 15) ↔ (9 ≤ d ∧ d ≤ 15)) (h : Builtin.bitAnd (p2 : Int) 4 = Builtin.bitAnd (p : Int) 4) : 9 ≤ d + 1 ∧ d + 1 ≤ 15 ↔ Builtin.bitAnd (p2 : Int) 4 = 0 := by
  rw [h]; exact hb.trans S.hi
theorem codeAt {r v50 v51 v64 v65 : Nat} {word pl mem : List Int} (P : Plain r pl) (M : Mem v50 v51 v64 v65 word pl mem) (hw : word.length ≤ 50) (i : Nat) {z : Int} (h : hcode[i]? = some z) : mem[49152 + i]? = some z :=
  (M.hi (Nat.le_trans (by decide) (Nat.le_add_right _ i)) (Nat.le_trans hw (by decide))).trans (P.code i z h)
theorem out_fr {s k0 : Nat} {mem : List Int} {z : Int} (h : k0 < 256 ∨ 512 ≤ k0) : ∀ k, s + 256 < k → k < 512 → (mem.set k0 z)[k]? = mem[k]? := fun k k1 k2 => List.getElem?_set_ne (by omega)
theorem up_fr {s : Nat} {mem mem2 : List Int} (h : ∀ k, s + 256 < k → k < 512 → mem2[k]? = mem[k]?) : ∀ k, s + 261 < k → k < 512 → mem2[k]? = mem[k]? := fun k k1 k2 => h k (Nat.lt_trans (Nat.add_lt_add_left (by decide) s) k1) k2
theorem no_fr {s : Nat} {mem : List Int} : ∀ k, s + 256 < k → k < 512 → mem[k]? = mem[k]? := fun _ _ _ => rfl
/-- What a step of a handler's leaves. -/
noncomputable def Nx (K : Frag) (n : Nat) (wl d s : Nat) (pc' a' x' p' q : Nat) (y : Int) (pc pc2 sp sp2 a x p : Nat) (mem : List Int) (MM : List Int → Prop) : Prop :=
  ∃ a2 x2 p2 : Nat, ∃ mem2, Stp K ⟨pc, s + sp, (a : Nat), (x : Nat), y, (p : Nat), mem⟩ ⟨pc2, s + sp2, (a2 : Nat), (x2 : Nat), y, (p2 : Nat), mem2⟩ ∧ MM mem2 ∧ HS n wl d s a2 x2 p2 pc' a' x' p' q mem2 ∧ ∀ k, s + 261 < k → k < 512 → mem2[k]? = mem[k]?
/-- A step that sets N and Z. -/
theorem nx_nz {K : Frag} {n wl wl' d s a x p pc' a' x' p' q a2 x2 w pc pc2 sp sp2 : Nat} {y : Int} {mem mem2 : List Int} {MM : List Int → Prop} (S : HS n wl d s a x p pc' a' x' p' q mem) (h0 : d ≠ 0) (h2 : d ≠ 2) (hb : (9 ≤ d + 1 ∧ d + 1 ≤ 15) ↔ (9 ≤ d ∧ d ≤ 15)) (ha : a2 < 256) (hx : x2 < 256) (hw : w < 256)
    (ax : AX n wl' (d + 1) a' x' a2 x2) (fr : ∀ k, s + 256 < k → k < 512 → mem2[k]? = mem[k]?) (M : MM mem2)
    (st : Stp K ⟨pc, s + sp, (a : Nat), (x : Nat), y, (p : Nat), mem⟩ ⟨pc2, s + sp2, (a2 : Nat), (x2 : Nat), y, nz (p : Nat) (w : Nat), mem2⟩) : Nx K n wl' (d + 1) s pc' a' x' p' q y pc pc2 sp sp2 a x p mem MM := by
  obtain ⟨p2, e2, hp2, hi2⟩ := nz_oct S.hp hw
  exact ⟨a2, x2, p2, mem2, e2 ▸ st, M, S.step h0 h2 ha hx hp2 (S.hiN hb hi2) ax fr, up_fr fr⟩
section
variable {K : Frag} {r n wl s a x p pc' a' x' p' q v50 v51 v64 v65 : Nat} {y : Int} {pl mem : List Int} {word : List Int}
theorem hs_0 (H : KF K) (P : Plain r pl) (hw : word.length ≤ 50) (M : Mem v50 v51 v64 v65 word pl mem) (S : HS n wl 0 s a x p pc' a' x' p' q mem) :
    (Nx K n wl 1 s pc' a' x' p' q y 49152 49153 2 1 a x p mem fun mem2 => Mem v50 v51 v64 v65 word pl mem2) := by
  have hs := S.hs
  exact ⟨a, x, p, mem.set (s + 1 + 1 + 256) (a : Int), st_48 H (n := 49152) (sp := s + 1) (by decide) (by clear S M; omega) (Int.natCast_nonneg a) (Int.ofNat_lt.mpr S.ha) M.len (codeAt P M hw 0 rfl), M.stk (Nat.le_add_left _ _) (by clear S M; omega),
    ⟨S.hs, S.hn, S.ha, S.hx, S.hp, ⟨fun z => absurd z (by decide), fun z => absurd (S.hi.mpr z) (by decide)⟩, S.ha', S.hx', S.hp', S.hc', ⟨(List.getElem?_set_ne (by clear S M; omega)).trans S.sv.hi, (List.getElem?_set_ne (by clear S M; omega)).trans S.sv.lo, (List.getElem?_set_ne (by clear S M; omega)).trans S.sv.pp, S.sv.back, fun _ => (List.getElem?_set_self (by rw [M.len]; clear S M; omega)).trans (by rw [S.ax.1]), fun e => absurd e (by decide)⟩, S.ax.2⟩, fun k k1 k2 => List.getElem?_set_ne (by clear S M; omega)⟩
theorem hs_1 (H : KF K) (P : Plain r pl) (hw : word.length ≤ 50) (M : Mem v50 v51 v64 v65 word pl mem) (S : HS n wl 1 s a x p pc' a' x' p' q mem) :
    (Nx K n wl 2 s pc' a' x' p' q y 49153 49154 1 1 a x p mem fun mem2 => Mem v50 v51 v64 v65 word pl mem2) :=   nx_nz S (by decide) (by decide) (by decide) S.hx S.hx S.hx S.ax no_fr M (st_8a H (n := 49153) (by decide) (codeAt P M hw 1 rfl))
theorem hs_2 (H : KF K) (P : Plain r pl) (hw : word.length ≤ 50) (M : Mem v50 v51 v64 v65 word pl mem) (S : HS n wl 2 s a x p pc' a' x' p' q mem) :
    (Nx K n wl 3 s pc' a' x' p' q y 49154 49155 1 0 a x p mem fun mem2 => Mem v50 v51 v64 v65 word pl mem2) := by
  have hs := S.hs
  exact ⟨a, x, p, mem.set (s + 1 + 256) (a : Int), st_48 H (n := 49154) (sp := s) (by decide) (by clear S M; omega) (Int.natCast_nonneg a) (Int.ofNat_lt.mpr S.ha) M.len (codeAt P M hw 2 rfl), M.stk (Nat.le_add_left _ _) (by clear S M; omega),
    ⟨S.hs, S.hn, S.ha, S.hx, S.hp, ⟨fun z => absurd z (by decide), fun z => absurd (S.hi.mpr z) (by decide)⟩, S.ha', S.hx', S.hp', S.hc', ⟨(List.getElem?_set_ne (by clear S M; omega)).trans S.sv.hi, (List.getElem?_set_ne (by clear S M; omega)).trans S.sv.lo, (List.getElem?_set_ne (by clear S M; omega)).trans S.sv.pp, S.sv.back, fun _ => (List.getElem?_set_ne (by clear S M; omega)).trans (S.sv.sa (by decide)), fun _ => (List.getElem?_set_self (by rw [M.len]; clear S M; omega)).trans (by rw [S.ax])⟩, trivial⟩, fun k k1 k2 => List.getElem?_set_ne (by clear S M; omega)⟩
theorem hs_3 (H : KF K) (P : Plain r pl) (hw : word.length ≤ 50) (M : Mem v50 v51 v64 v65 word pl mem) (S : HS n wl 3 s a x p pc' a' x' p' q mem) (hv : v64 < 256) (hwl : v64 = wl) :
    (Nx K n wl 4 s pc' a' x' p' q y 49155 49157 0 0 a x p mem fun mem2 => Mem v50 v51 v64 v65 word pl mem2) :=   nx_nz S (by decide) (by decide) (by decide) S.ha hv hv hwl no_fr M (st_a6 H (n := 49155) (by decide) (k := 64) (codeAt P M hw 4 rfl) (by decide) M.c64 M.len (codeAt P M hw 3 rfl))
theorem hs_4 (H : KF K) (P : Plain r pl) (hw : word.length ≤ 50) (M : Mem v50 v51 v64 v65 word pl mem) (S : HS n wl 4 s a x p pc' a' x' p' q mem) (hv : v65 < 256) (hwl : v65 = n) :
    (Nx K n wl 5 s pc' a' x' p' q y 49157 49159 0 0 a x p mem fun mem2 => Mem v50 v51 v64 v65 word pl mem2) :=   nx_nz S (by decide) (by decide) (by decide) hv S.hx hv ⟨S.ax, hwl⟩ no_fr M (st_a5 H (n := 49157) (by decide) (k := 65) (codeAt P M hw 6 rfl) (by decide) M.c65 M.len (codeAt P M hw 5 rfl))
theorem hs_5 (H : KF K) (P : Plain r pl) (hw : word.length ≤ 50) (M : Mem v50 v51 v64 v65 word pl mem) (S : HS n wl 5 s a x p pc' a' x' p' q mem) (hl : word.length = wl) :
    (Nx K n (wl + 1) 6 s pc' a' x' p' q y 49159 49162 0 0 a x p mem fun mem2 => Mem v50 v51 v64 v65 (word ++ [(a : Int)]) pl mem2) ∧ a = n := by
  have ex : x = wl := S.ax.1
  subst ex
  refine ⟨?_, S.ax.2⟩
  have hx := S.hx
  have st := st_9d (y := y) (p := p) (a := a) (sp := s) H (n := 49159) (by decide) (z := 0) (z1 := 6) (codeAt P M hw 8 rfl) (codeAt P M hw 9 rfl) (X := x) (x := x) rfl (by clear S M; omega) M.len (codeAt P M hw 7 rfl)
  rw [show 0 + 6 * 256 + x = 1536 + word.length by rw [hl]] at st
  exact ⟨a, x, p, mem.set (1536 + word.length) (a : Int), st, M.log _ (Nat.le_trans hw (by decide)), S.step (by decide) (by decide) S.ha S.hx S.hp (S.hiN (by decide) rfl) trivial (out_fr (.inr (by clear S M; omega))), up_fr (out_fr (.inr (by clear S M; omega)))⟩
theorem hs_6 (H : KF K) (P : Plain r pl) (hw : word.length ≤ 50) (M : Mem v50 v51 v64 v65 word pl mem) (S : HS n wl 6 s a x p pc' a' x' p' q mem) (hv : v64 + 1 < 256) :
    (Nx K n wl 7 s pc' a' x' p' q y 49162 49164 0 0 a x p mem fun mem2 => Mem v50 v51 (v64 + 1) v65 word pl mem2) :=   nx_nz S (by decide) (by decide) (by decide) S.ha S.hx hv trivial (out_fr (.inl (by decide))) (M.set64 _) (inc_ hv ▸ st_e6 H (n := 49162) (by decide) (k := 64) (codeAt P M hw 11 rfl) (by decide) M.c64 M.len (codeAt P M hw 10 rfl))
theorem hs_7 (H : KF K) (P : Plain r pl) (hw : word.length ≤ 50) (M : Mem v50 v51 v64 v65 word pl mem) (S : HS n wl 7 s a x p pc' a' x' p' q mem) (hv : v65 + 1 < 256) :
    (Nx K n wl 8 s pc' a' x' p' q y 49164 49166 0 0 a x p mem fun mem2 => Mem v50 v51 v64 (v65 + 1) word pl mem2) :=   nx_nz S (by decide) (by decide) (by decide) S.ha S.hx hv trivial (out_fr (.inl (by decide))) (M.set65 _) (inc_ hv ▸ st_e6 H (n := 49164) (by decide) (k := 65) (codeAt P M hw 13 rfl) (by decide) M.c65 M.len (codeAt P M hw 12 rfl))
theorem hs_8 (H : KF K) (P : Plain r pl) (hw : word.length ≤ 50) (M : Mem v50 v51 v64 v65 word pl mem) (S : HS n wl 8 s a x p pc' a' x' p' q mem) :
    (Nx K n wl 9 s pc' a' x' p' q y 49166 49167 0 0 a x p mem fun mem2 => Mem v50 v51 v64 v65 word pl mem2) := by
  obtain ⟨⟨h1, h2⟩, h3⟩ := cli_ p S.hp
  obtain ⟨p2, e3⟩ := Int.eq_ofNat_of_zero_le h1
  exact  ⟨a, x, p2, mem, e3 ▸ st_58 H (n := 49166) (by decide) (codeAt P M hw 14 rfl), M, S.step (by decide) (by decide) S.ha S.hx (by rw [e3] at h2; exact Int.ofNat_lt.mp h2) ⟨fun _ => e3 ▸ h3, fun _ => by decide⟩ trivial no_fr, up_fr no_fr⟩
theorem hs_9 (H : KF K) (P : Plain r pl) (hw : word.length ≤ 50) (M : Mem v50 v51 v64 v65 word pl mem) (S : HS n wl 9 s a x p pc' a' x' p' q mem) (hv : v51 + 1 < 256) :
    (Nx K n wl 10 s pc' a' x' p' q y 49167 49169 0 0 a x p mem fun mem2 => Mem v50 (v51 + 1) v64 v65 word pl mem2) :=   nx_nz S (by decide) (by decide) (by decide) S.ha S.hx hv trivial (out_fr (.inl (by decide))) (M.set51 _) (inc_ hv ▸ st_e6 H (n := 49167) (by decide) (k := 51) (codeAt P M hw 16 rfl) (by decide) M.c51 M.len (codeAt P M hw 15 rfl))
theorem hs_10 (H : KF K) (P : Plain r pl) (hw : word.length ≤ 50) (M : Mem v50 v51 v64 v65 word pl mem) (S : HS n wl 10 s a x p pc' a' x' p' q mem) (hv : v51 + 1 < 256) :
    (Nx K n wl 11 s pc' a' x' p' q y 49169 49171 0 0 a x p mem fun mem2 => Mem v50 (v51 + 1) v64 v65 word pl mem2) :=   nx_nz S (by decide) (by decide) (by decide) S.ha S.hx hv trivial (out_fr (.inl (by decide))) (M.set51 _) (inc_ hv ▸ st_e6 H (n := 49169) (by decide) (k := 51) (codeAt P M hw 18 rfl) (by decide) M.c51 M.len (codeAt P M hw 17 rfl))
theorem hs_11 (H : KF K) (P : Plain r pl) (hw : word.length ≤ 50) (M : Mem v50 v51 v64 v65 word pl mem) (S : HS n wl 11 s a x p pc' a' x' p' q mem) (hv : v51 + 1 < 256) :
    (Nx K n wl 12 s pc' a' x' p' q y 49171 49173 0 0 a x p mem fun mem2 => Mem v50 (v51 + 1) v64 v65 word pl mem2) :=   nx_nz S (by decide) (by decide) (by decide) S.ha S.hx hv trivial (out_fr (.inl (by decide))) (M.set51 _) (inc_ hv ▸ st_e6 H (n := 49171) (by decide) (k := 51) (codeAt P M hw 20 rfl) (by decide) M.c51 M.len (codeAt P M hw 19 rfl))
theorem hs_12 (H : KF K) (P : Plain r pl) (hw : word.length ≤ 50) (M : Mem v50 v51 v64 v65 word pl mem) (S : HS n wl 12 s a x p pc' a' x' p' q mem) (hv : v51 + 1 < 256) :
    (Nx K n wl 13 s pc' a' x' p' q y 49173 49175 0 0 a x p mem fun mem2 => Mem v50 (v51 + 1) v64 v65 word pl mem2) :=   nx_nz S (by decide) (by decide) (by decide) S.ha S.hx hv trivial (out_fr (.inl (by decide))) (M.set51 _) (inc_ hv ▸ st_e6 H (n := 49173) (by decide) (k := 51) (codeAt P M hw 22 rfl) (by decide) M.c51 M.len (codeAt P M hw 21 rfl))
theorem hs_13 (H : KF K) (P : Plain r pl) (hw : word.length ≤ 50) (M : Mem v50 v51 v64 v65 word pl mem) (S : HS n wl 13 s a x p pc' a' x' p' q mem) (hv : v51 + 1 < 256) :
    (Nx K n wl 14 s pc' a' x' p' q y 49175 49177 0 0 a x p mem fun mem2 => Mem v50 (v51 + 1) v64 v65 word pl mem2) :=   nx_nz S (by decide) (by decide) (by decide) S.ha S.hx hv trivial (out_fr (.inl (by decide))) (M.set51 _) (inc_ hv ▸ st_e6 H (n := 49175) (by decide) (k := 51) (codeAt P M hw 24 rfl) (by decide) M.c51 M.len (codeAt P M hw 23 rfl))
theorem hs_14 (H : KF K) (P : Plain r pl) (hw : word.length ≤ 50) (M : Mem v50 v51 v64 v65 word pl mem) (S : HS n wl 14 s a x p pc' a' x' p' q mem) (hv : v51 + 1 < 256) :
    (Nx K n wl 15 s pc' a' x' p' q y 49177 49179 0 0 a x p mem fun mem2 => Mem v50 (v51 + 1) v64 v65 word pl mem2) :=   nx_nz S (by decide) (by decide) (by decide) S.ha S.hx hv trivial (out_fr (.inl (by decide))) (M.set51 _) (inc_ hv ▸ st_e6 H (n := 49177) (by decide) (k := 51) (codeAt P M hw 26 rfl) (by decide) M.c51 M.len (codeAt P M hw 25 rfl))
theorem hs_15 (H : KF K) (P : Plain r pl) (hw : word.length ≤ 50) (M : Mem v50 v51 v64 v65 word pl mem) (S : HS n wl 15 s a x p pc' a' x' p' q mem) :
    (Nx K n wl 16 s pc' a' x' p' q y 49179 49180 0 0 a x p mem fun mem2 => Mem v50 v51 v64 v65 word pl mem2) := by
  obtain ⟨⟨h1, h2⟩, h3⟩ := sei_ p S.hp
  obtain ⟨p2, e3⟩ := Int.eq_ofNat_of_zero_le h1
  exact  ⟨a, x, p2, mem, e3 ▸ st_78 H (n := 49179) (by decide) (codeAt P M hw 27 rfl), M, S.step (by decide) (by decide) S.ha S.hx (by rw [e3] at h2; exact Int.ofNat_lt.mp h2) ⟨fun z => absurd z (by decide), fun z => absurd z (e3 ▸ h3)⟩ trivial no_fr, up_fr no_fr⟩
theorem hs_16 (H : KF K) (P : Plain r pl) (hw : word.length ≤ 50) (M : Mem v50 v51 v64 v65 word pl mem) (S : HS n wl 16 s a x p pc' a' x' p' q mem) (v : Nat) (hv : v + 1 < 256) (hvv : v65 = v + 1) :
    (Nx K n wl 17 s pc' a' x' p' q y 49180 49182 0 0 a x p mem fun mem2 => Mem v50 v51 v64 v word pl mem2) := by
  subst hvv
  exact  nx_nz S (by decide) (by decide) (by decide) S.ha S.hx (Nat.lt_of_succ_lt hv) trivial (out_fr (.inl (by decide))) (M.set65 _) (dec_ hv ▸ st_c6 H (n := 49180) (by decide) (k := 65) (codeAt P M hw 29 rfl) (by decide) M.c65 M.len (codeAt P M hw 28 rfl))
theorem hs_17 (H : KF K) (P : Plain r pl) (hw : word.length ≤ 50) (M : Mem v50 v51 v64 v65 word pl mem) (S : HS n wl 17 s a x p pc' a' x' p' q mem) (hv : v64 < 256) (hwl : v64 = wl) :
    (Nx K n wl 18 s pc' a' x' p' q y 49182 49184 0 0 a x p mem fun mem2 => Mem v50 v51 v64 v65 word pl mem2) :=   nx_nz S (by decide) (by decide) (by decide) S.ha hv hv hwl no_fr M (st_a6 H (n := 49182) (by decide) (k := 64) (codeAt P M hw 31 rfl) (by decide) M.c64 M.len (codeAt P M hw 30 rfl))
theorem hs_18 (H : KF K) (P : Plain r pl) (hw : word.length ≤ 50) (M : Mem v50 v51 v64 v65 word pl mem) (S : HS n wl 18 s a x p pc' a' x' p' q mem) (hv : v65 < 256) (hwl : v65 = n) :
    (Nx K n wl 19 s pc' a' x' p' q y 49184 49186 0 0 a x p mem fun mem2 => Mem v50 v51 v64 v65 word pl mem2) :=   nx_nz S (by decide) (by decide) (by decide) hv S.hx hv ⟨S.ax, hwl⟩ no_fr M (st_a5 H (n := 49184) (by decide) (k := 65) (codeAt P M hw 33 rfl) (by decide) M.c65 M.len (codeAt P M hw 32 rfl))
theorem hs_19 (H : KF K) (P : Plain r pl) (hw : word.length ≤ 50) (M : Mem v50 v51 v64 v65 word pl mem) (S : HS n wl 19 s a x p pc' a' x' p' q mem) :
    (Nx K n wl 20 s pc' a' x' p' q y 49186 49188 0 0 a x p mem fun mem2 => Mem v50 v51 v64 v65 word pl mem2) := by
  have ea : a = n := S.ax.2
  subst ea
  have hn := S.hn
  have hn2 : 128 + a < 256 := by clear S M; omega
  have e4 := ora_ a (by clear S M; omega)
  exact  nx_nz S (by decide) (by decide) (by decide) hn2 S.hx hn2 ⟨S.ax.1, rfl⟩ no_fr M (e4 ▸ st_09 H (n := 49186) (by decide) (z := 128) (codeAt P M hw 35 rfl) (codeAt P M hw 34 rfl))
theorem hs_20 (H : KF K) (P : Plain r pl) (hw : word.length ≤ 50) (M : Mem v50 v51 v64 v65 word pl mem) (S : HS n wl 20 s a x p pc' a' x' p' q mem) (hl : word.length = wl) :
    (Nx K n (wl + 1) 21 s pc' a' x' p' q y 49188 49191 0 0 a x p mem fun mem2 => Mem v50 v51 v64 v65 (word ++ [(a : Int)]) pl mem2) ∧ a = 128 + n := by
  have ex : x = wl := S.ax.1
  subst ex
  refine ⟨?_, S.ax.2⟩
  have hx := S.hx
  have st := st_9d (y := y) (p := p) (a := a) (sp := s) H (n := 49188) (by decide) (z := 0) (z1 := 6) (codeAt P M hw 37 rfl) (codeAt P M hw 38 rfl) (X := x) (x := x) rfl (by clear S M; omega) M.len (codeAt P M hw 36 rfl)
  rw [show 0 + 6 * 256 + x = 1536 + word.length by rw [hl]] at st
  exact ⟨a, x, p, mem.set (1536 + word.length) (a : Int), st, M.log _ (Nat.le_trans hw (by decide)), S.step (by decide) (by decide) S.ha S.hx S.hp (S.hiN (by decide) rfl) trivial (out_fr (.inr (by clear S M; omega))), up_fr (out_fr (.inr (by clear S M; omega)))⟩
theorem hs_21 (H : KF K) (P : Plain r pl) (hw : word.length ≤ 50) (M : Mem v50 v51 v64 v65 word pl mem) (S : HS n wl 21 s a x p pc' a' x' p' q mem) (hv : v64 + 1 < 256) :
    (Nx K n wl 22 s pc' a' x' p' q y 49191 49193 0 0 a x p mem fun mem2 => Mem v50 v51 (v64 + 1) v65 word pl mem2) :=   nx_nz S (by decide) (by decide) (by decide) S.ha S.hx hv trivial (out_fr (.inl (by decide))) (M.set64 _) (inc_ hv ▸ st_e6 H (n := 49191) (by decide) (k := 64) (codeAt P M hw 40 rfl) (by decide) M.c64 M.len (codeAt P M hw 39 rfl))
theorem hs_22 (H : KF K) (P : Plain r pl) (hw : word.length ≤ 50) (M : Mem v50 v51 v64 v65 word pl mem) (S : HS n wl 22 s a x p pc' a' x' p' q mem) :
    (Nx K n wl 23 s pc' a' x' p' q y 49193 49194 0 1 a x p mem fun mem2 => Mem v50 v51 v64 v65 word pl mem2) := by
  have hn := S.hs
  exact  nx_nz S (by decide) (by decide) (by decide) S.hx' S.hx S.hx' rfl no_fr M (st_68 H (n := 49193) (sp := s) (by decide) (by clear S M; omega) ((show s + 256 + 1 = s + 1 + 256 by clear S M; omega) ▸ (S.sv.sx (by decide))) (codeAt P M hw 41 rfl))
theorem hs_23 (H : KF K) (P : Plain r pl) (hw : word.length ≤ 50) (M : Mem v50 v51 v64 v65 word pl mem) (S : HS n wl 23 s a x p pc' a' x' p' q mem) :
    (Nx K n wl 24 s pc' a' x' p' q y 49194 49195 1 1 a x p mem fun mem2 => Mem v50 v51 v64 v65 word pl mem2) :=   nx_nz S (by decide) (by decide) (by decide) S.ha S.ha S.ha S.ax no_fr M (st_aa H (n := 49194) (by decide) (codeAt P M hw 42 rfl))
theorem hs_24 (H : KF K) (P : Plain r pl) (hw : word.length ≤ 50) (M : Mem v50 v51 v64 v65 word pl mem) (S : HS n wl 24 s a x p pc' a' x' p' q mem) :
    (Nx K n wl 25 s pc' a' x' p' q y 49195 49196 1 2 a x p mem fun mem2 => Mem v50 v51 v64 v65 word pl mem2) := by
  have hn := S.hs
  exact  nx_nz S (by decide) (by decide) (by decide) S.ha' S.hx S.ha' ⟨rfl, S.ax⟩ no_fr M (st_68 H (n := 49195) (sp := s + 1) (by decide) (by clear S M; omega) ((show s + 256 + 2 = s + 1 + 1 + 256 by clear S M; omega) ▸ (S.sv.sa (by decide))) (codeAt P M hw 43 rfl))
theorem hs_25 (H : KF K) (P : Plain r pl) (hw : word.length ≤ 50) (M : Mem v50 v51 v64 v65 word pl mem) (S : HS n wl 25 s a x p pc' a' x' p' q mem) : Stp K ⟨49196, s + 2, a, x, y, p, mem⟩ ⟨pc', s + 5, (a' : Nat), (x' : Nat), y, (p' : Nat), mem⟩ := by
  have hs := S.hs
  have hn := S.hn
  have hc := S.hc'
  have hax := S.ax
  have ea : a = a' := hax.1
  have ex : x = x' := hax.2
  have st := st_40 (a := a) (x := x) (y := y) (p := p) H (n := 49196) (sp := s + 2) (by decide) (q := q) (l := pc' % 256) (m := pc' / 256) (mem := mem) (by omega) (by have := S.sv.pp; rw [show s + 2 + 1 + 256 = s + 256 + 3 by omega]; exact this)
    (by have := S.sv.lo; rw [show s + 2 + 2 + 256 = s + 256 + 4 by omega]; exact this) (by have := S.sv.hi; rw [show s + 2 + 3 + 256 = s + 256 + 5 by omega]; exact this) (by omega) (codeAt P M hw 44 rfl)
  rw [S.sv.back, show pc' % 256 + pc' / 256 * 256 = pc' by omega, ea, ex] at st
  rw [ea, ex]
  exact st
end
end
section
noncomputable def wf (d : Nat) : Nat := if d < 6 then 0 else if d < 21 then 1 else 2
noncomputable def inf (d : Nat) : Nat := min (d - 9) 6
noncomputable def wsum : List Nat → Nat
  | [] => 0
  | d :: t => wsum t + wf d
noncomputable def isum : List Nat → Nat
  | [] => 0
  | d :: t => isum t + inf d
noncomputable def pe (d : Nat) : Nat := if d = 6 ∨ d = 21 then 1 else 0
noncomputable def ne (d : Nat) : Nat := if 8 ≤ d ∧ d ≤ 16 then 1 else 0
noncomputable def pend : List Nat → Nat
  | [] => 0
  | d :: _ => pe d
noncomputable def nest : List Nat → Nat
  | [] => 0
  | d :: t => t.length + ne d
theorem wsum_le : ∀ t, wsum t ≤ 2 * t.length
  | [] => Nat.le_refl _
  | d :: t => by
    have h1 := wsum_le t
    have h2 : wf d ≤ 2 := by unfold wf; split <;> (try split) <;> decide
    show wsum t + wf d ≤ 2 * (t.length + 1)
    omega
theorem isum_le : ∀ t, isum t ≤ 6 * t.length
  | [] => Nat.le_refl _
  | d :: t => by
    have h1 := isum_le t
    show isum t + min (d - 9) 6 ≤ 6 * (t.length + 1)
    omega
/-- Where the whole stands. -/
structure LInv (r a0 p0 : Nat) (y0 : Int) (pl : List Int) (m taken : Nat) (fs : List Nat) (word : List Int) (g : Rg) : Prop where
  run : fs ≠ [] → m < 1 + 3 * r
  hm : m ≤ 1 + 3 * r
  ht : taken ≤ 5
  hl : fs.length ≤ taken
  hd : ∀ d ∈ fs, d < 26
  tl : ∀ d ∈ fs.tail, 9 ≤ d ∧ d ≤ 15
  wl : word.length = 2 * (taken - fs.length) + wsum fs
  mem : Mem ((m + 1) / 3) (6 * (taken - fs.length) + isum fs) (word.length - pend fs) (nest fs) word pl g.mem
  regs : ∃ a x p : Nat, g.a = (a : Int) ∧ g.x = (x : Int) ∧ g.p = (p : Int) ∧ RInv r a0 p0 m g.mem fs word.length g.pc g.sp a x p
  hy : g.y = y0
section
variable {K : Frag} {r a0 p0 m taken : Nat} {y0 : Int} {pl : List Int} {word : List Int} {g : Rg}
theorem w10 {a b c t : Nat} (h1 : a = 2 * (t - b) + c) (h2 : c ≤ 2 * b) (h3 : t ≤ 5) (h4 : b ≤ t) : a ≤ 10 := by omega
theorem LInv.w10 {fs : List Nat} (I : LInv r a0 p0 y0 pl m taken fs word g) : word.length ≤ 10 := M6.w10 I.wl (wsum_le fs) I.ht I.hl
theorem LInv.w50 {fs : List Nat} (I : LInv r a0 p0 y0 pl m taken fs word g) : word.length ≤ 50 := Nat.le_trans I.w10 (by decide)
noncomputable def fw (d : Nat) : Nat := if d = 5 ∨ d = 20 then 1 else 0
theorem wf_next : ∀ d, d < 25 → wf (d + 1) = wf d + fw d := by decide +kernel
/-- What a handler's step must be shown to do. -/
noncomputable def HStep (K : Frag) (y0 : Int) (pl : List Int) (v50 taken n is : Nat) (word word' : List Int) (d : Nat) : Prop :=
  ∀ s a x p pc' a' x' p' q mem, Mem v50 (6 * (taken - (n + 1)) + (is + inf d)) (word.length - pe d) (n + ne d) word pl mem → HS n word.length d s a x p pc' a' x' p' q mem →
    ∃ a2 x2 p2 : Nat, ∃ mem2, Stp K ⟨hpc d, s + spo d, (a : Nat), (x : Nat), y0, (p : Nat), mem⟩ ⟨hpc (d + 1), s + spo (d + 1), (a2 : Nat), (x2 : Nat), y0, (p2 : Nat), mem2⟩ ∧
      Mem v50 (6 * (taken - (n + 1)) + (is + inf (d + 1))) (word'.length - pe (d + 1)) (n + ne (d + 1)) word' pl mem2 ∧ HS n word'.length (d + 1) s a2 x2 p2 pc' a' x' p' q mem2 ∧ ∀ k, s + 261 < k → k < 512 → mem2[k]? = mem[k]?
theorem LInv.lift {d : Nat} {t : List Nat} (I : LInv r a0 p0 y0 pl m taken (d :: t) word g) (hd : d < 25) {word' : List Int} (hwl : word'.length = word.length + fw d)
    (F : HStep K y0 pl ((m + 1) / 3) taken t.length (isum t) word word' d) : ∃ g2, Stp K g g2 ∧ LInv r a0 p0 y0 pl m taken ((d + 1) :: t) word' g2 := by
  obtain ⟨pc, sp, ga, gx, gy, gp, mem⟩ := g
  obtain ⟨a, x, p, ra, rx, rp, s, pc', a', x', p', q, rpc, rsp, S, R⟩ := I.regs
  have hy := I.hy
  dsimp only at ra rx rp rpc rsp hy S R
  subst ra rx rp rpc rsp hy
  obtain ⟨a2, x2, p2, mem2, st, M2, S2, fr⟩ := F s a x p pc' a' x' p' q mem I.mem S
  have hs := S.hs
  refine ⟨_, st, fun _ => I.run (List.cons_ne_nil _ _), I.hm, I.ht, I.hl, fun e he => ?_, I.tl, ?_, M2, ⟨a2, x2, p2, rfl, rfl, rfl, s, pc', a', x', p', q, rfl, rfl, S2, ?_⟩, rfl⟩
  · rcases List.mem_cons.mp he with z | z
    · rw [z]; exact Nat.succ_lt_succ hd
    · exact I.hd e (.tail _ z)
  · show _ = _ + (wsum t + wf (d + 1))
    rw [hwl, wf_next d hd, ← Nat.add_assoc (wsum t), ← Nat.add_assoc]
    exact congrArg (· + fw d) I.wl
  · exact RInv.frame t _ _ _ _ _ _ (fun k k1 k2 => fr k (by clear st M2 I; omega) k2) R
theorem lt256 {a : Nat} (h : a ≤ 30) : a < 256 := by omega
theorem six {t n i e : Nat} (h1 : t ≤ 5) (h2 : n + 1 ≤ t) (h3 : i ≤ 6 * n) (h4 : e ≤ 5) : 6 * (t - (n + 1)) + (i + e) + 1 < 256 := by omega
theorem four {t n : Nat} (h1 : t ≤ 5) (h2 : n + 1 ≤ t) : n + 0 + 1 < 256 := by omega
theorem four' {t n : Nat} (h1 : t ≤ 5) (h2 : n + 1 ≤ t) : n + 1 < 256 := by omega
theorem inf5 : ∀ d, d < 15 → inf d ≤ 5 := by decide +kernel
theorem in_0 {t : List Nat} (H : KF K) (P : Plain r pl) (I : LInv r a0 p0 y0 pl m taken (0 :: t) word g) : ∃ g2, Stp K g g2 ∧ LInv r a0 p0 y0 pl m taken (1 :: t) word g2 :=
  I.lift (by decide) rfl fun s a x p pc' a' x' p' q mem M S => hs_0 H P I.w50 M S
theorem in_1 {t : List Nat} (H : KF K) (P : Plain r pl) (I : LInv r a0 p0 y0 pl m taken (1 :: t) word g) : ∃ g2, Stp K g g2 ∧ LInv r a0 p0 y0 pl m taken (2 :: t) word g2 :=
  I.lift (by decide) rfl fun s a x p pc' a' x' p' q mem M S => hs_1 H P I.w50 M S
theorem in_2 {t : List Nat} (H : KF K) (P : Plain r pl) (I : LInv r a0 p0 y0 pl m taken (2 :: t) word g) : ∃ g2, Stp K g g2 ∧ LInv r a0 p0 y0 pl m taken (3 :: t) word g2 :=
  I.lift (by decide) rfl fun s a x p pc' a' x' p' q mem M S => hs_2 H P I.w50 M S
theorem in_3 {t : List Nat} (H : KF K) (P : Plain r pl) (I : LInv r a0 p0 y0 pl m taken (3 :: t) word g) : ∃ g2, Stp K g g2 ∧ LInv r a0 p0 y0 pl m taken (4 :: t) word g2 :=
  I.lift (by decide) rfl fun s a x p pc' a' x' p' q mem M S => hs_3 H P I.w50 M S (lt256 (Nat.le_trans (Nat.sub_le _ _) (Nat.le_trans I.w10 (by decide)))) rfl
theorem in_4 {t : List Nat} (H : KF K) (P : Plain r pl) (I : LInv r a0 p0 y0 pl m taken (4 :: t) word g) : ∃ g2, Stp K g g2 ∧ LInv r a0 p0 y0 pl m taken (5 :: t) word g2 :=
  I.lift (by decide) rfl fun s a x p pc' a' x' p' q mem M S => hs_4 H P I.w50 M S (four (n := t.length) I.ht I.hl |> Nat.lt_of_succ_lt) rfl
theorem in_5 {t : List Nat} (H : KF K) (P : Plain r pl) (I : LInv r a0 p0 y0 pl m taken (5 :: t) word g) : ∃ g2, Stp K g g2 ∧ LInv r a0 p0 y0 pl m taken (6 :: t) (word ++ [((t.length : Nat) : Int)]) g2 :=
  I.lift (by decide) (by rw [List.length_append]; rfl) fun s a x p pc' a' x' p' q mem M S => by
    obtain ⟨⟨a2, x2, p2, mem2, st, M2, S2, fr⟩, ea⟩ := hs_5 (y := y0) H P I.w50 M S rfl
    subst ea
    have el : (word ++ [((t.length : Nat) : Int)]).length = word.length + 1 := List.length_append
    exact ⟨a2, x2, p2, mem2, st, by rw [el]; exact M2, by rw [el]; exact S2, fr⟩
theorem in_6 {t : List Nat} (H : KF K) (P : Plain r pl) (I : LInv r a0 p0 y0 pl m taken (6 :: t) word g) : ∃ g2, Stp K g g2 ∧ LInv r a0 p0 y0 pl m taken (7 :: t) word g2 :=
  I.lift (by decide) rfl fun s a x p pc' a' x' p' q mem M S => by
    have wl : 1 ≤ word.length := by have := I.wl; rw [this]; exact Nat.le_trans (show 1 ≤ wf 6 by decide) (Nat.le_trans (Nat.le_add_left _ _) (Nat.le_add_left _ _))
    have e : word.length - pe 6 + 1 = word.length := Nat.sub_add_cancel wl
    obtain ⟨a2, x2, p2, mem2, st, M2, S2, fr⟩ := hs_6 (y := y0) H P I.w50 M S (by rw [e]; exact lt256 (Nat.le_trans I.w10 (by decide)))
    rw [e] at M2
    exact ⟨a2, x2, p2, mem2, st, M2, S2, fr⟩
theorem in_7 {t : List Nat} (H : KF K) (P : Plain r pl) (I : LInv r a0 p0 y0 pl m taken (7 :: t) word g) : ∃ g2, Stp K g g2 ∧ LInv r a0 p0 y0 pl m taken (8 :: t) word g2 :=
  I.lift (by decide) rfl fun s a x p pc' a' x' p' q mem M S => hs_7 H P I.w50 M S (four (n := t.length) I.ht I.hl)
theorem in_8 {t : List Nat} (H : KF K) (P : Plain r pl) (I : LInv r a0 p0 y0 pl m taken (8 :: t) word g) : ∃ g2, Stp K g g2 ∧ LInv r a0 p0 y0 pl m taken (9 :: t) word g2 :=
  I.lift (by decide) rfl fun s a x p pc' a' x' p' q mem M S => hs_8 H P I.w50 M S
theorem in_9 {t : List Nat} (H : KF K) (P : Plain r pl) (I : LInv r a0 p0 y0 pl m taken (9 :: t) word g) : ∃ g2, Stp K g g2 ∧ LInv r a0 p0 y0 pl m taken (10 :: t) word g2 :=
  I.lift (by decide) rfl fun s a x p pc' a' x' p' q mem M S => hs_9 H P I.w50 M S (six I.ht I.hl (isum_le t) (inf5 9 (by decide)))
theorem in_10 {t : List Nat} (H : KF K) (P : Plain r pl) (I : LInv r a0 p0 y0 pl m taken (10 :: t) word g) : ∃ g2, Stp K g g2 ∧ LInv r a0 p0 y0 pl m taken (11 :: t) word g2 :=
  I.lift (by decide) rfl fun s a x p pc' a' x' p' q mem M S => hs_10 H P I.w50 M S (six I.ht I.hl (isum_le t) (inf5 10 (by decide)))
theorem in_11 {t : List Nat} (H : KF K) (P : Plain r pl) (I : LInv r a0 p0 y0 pl m taken (11 :: t) word g) : ∃ g2, Stp K g g2 ∧ LInv r a0 p0 y0 pl m taken (12 :: t) word g2 :=
  I.lift (by decide) rfl fun s a x p pc' a' x' p' q mem M S => hs_11 H P I.w50 M S (six I.ht I.hl (isum_le t) (inf5 11 (by decide)))
theorem in_12 {t : List Nat} (H : KF K) (P : Plain r pl) (I : LInv r a0 p0 y0 pl m taken (12 :: t) word g) : ∃ g2, Stp K g g2 ∧ LInv r a0 p0 y0 pl m taken (13 :: t) word g2 :=
  I.lift (by decide) rfl fun s a x p pc' a' x' p' q mem M S => hs_12 H P I.w50 M S (six I.ht I.hl (isum_le t) (inf5 12 (by decide)))
theorem in_13 {t : List Nat} (H : KF K) (P : Plain r pl) (I : LInv r a0 p0 y0 pl m taken (13 :: t) word g) : ∃ g2, Stp K g g2 ∧ LInv r a0 p0 y0 pl m taken (14 :: t) word g2 :=
  I.lift (by decide) rfl fun s a x p pc' a' x' p' q mem M S => hs_13 H P I.w50 M S (six I.ht I.hl (isum_le t) (inf5 13 (by decide)))
theorem in_14 {t : List Nat} (H : KF K) (P : Plain r pl) (I : LInv r a0 p0 y0 pl m taken (14 :: t) word g) : ∃ g2, Stp K g g2 ∧ LInv r a0 p0 y0 pl m taken (15 :: t) word g2 :=
  I.lift (by decide) rfl fun s a x p pc' a' x' p' q mem M S => hs_14 H P I.w50 M S (six I.ht I.hl (isum_le t) (inf5 14 (by decide)))
theorem in_15 {t : List Nat} (H : KF K) (P : Plain r pl) (I : LInv r a0 p0 y0 pl m taken (15 :: t) word g) : ∃ g2, Stp K g g2 ∧ LInv r a0 p0 y0 pl m taken (16 :: t) word g2 :=
  I.lift (by decide) rfl fun s a x p pc' a' x' p' q mem M S => hs_15 H P I.w50 M S
theorem in_16 {t : List Nat} (H : KF K) (P : Plain r pl) (I : LInv r a0 p0 y0 pl m taken (16 :: t) word g) : ∃ g2, Stp K g g2 ∧ LInv r a0 p0 y0 pl m taken (17 :: t) word g2 :=
  I.lift (by decide) rfl fun s a x p pc' a' x' p' q mem M S => hs_16 H P I.w50 M S t.length (four' I.ht I.hl) rfl
theorem in_17 {t : List Nat} (H : KF K) (P : Plain r pl) (I : LInv r a0 p0 y0 pl m taken (17 :: t) word g) : ∃ g2, Stp K g g2 ∧ LInv r a0 p0 y0 pl m taken (18 :: t) word g2 :=
  I.lift (by decide) rfl fun s a x p pc' a' x' p' q mem M S => hs_17 H P I.w50 M S (lt256 (Nat.le_trans (Nat.sub_le _ _) (Nat.le_trans I.w10 (by decide)))) rfl
theorem in_18 {t : List Nat} (H : KF K) (P : Plain r pl) (I : LInv r a0 p0 y0 pl m taken (18 :: t) word g) : ∃ g2, Stp K g g2 ∧ LInv r a0 p0 y0 pl m taken (19 :: t) word g2 :=
  I.lift (by decide) rfl fun s a x p pc' a' x' p' q mem M S => hs_18 H P I.w50 M S (four (n := t.length) I.ht I.hl |> Nat.lt_of_succ_lt) rfl
theorem in_19 {t : List Nat} (H : KF K) (P : Plain r pl) (I : LInv r a0 p0 y0 pl m taken (19 :: t) word g) : ∃ g2, Stp K g g2 ∧ LInv r a0 p0 y0 pl m taken (20 :: t) word g2 :=
  I.lift (by decide) rfl fun s a x p pc' a' x' p' q mem M S => hs_19 H P I.w50 M S
theorem in_20 {t : List Nat} (H : KF K) (P : Plain r pl) (I : LInv r a0 p0 y0 pl m taken (20 :: t) word g) : ∃ g2, Stp K g g2 ∧ LInv r a0 p0 y0 pl m taken (21 :: t) (word ++ [((128 + t.length : Nat) : Int)]) g2 :=
  I.lift (by decide) (by rw [List.length_append]; rfl) fun s a x p pc' a' x' p' q mem M S => by
    obtain ⟨⟨a2, x2, p2, mem2, st, M2, S2, fr⟩, ea⟩ := hs_20 (y := y0) H P I.w50 M S rfl
    subst ea
    have el : (word ++ [((128 + t.length : Nat) : Int)]).length = word.length + 1 := List.length_append
    exact ⟨a2, x2, p2, mem2, st, by rw [el]; exact M2, by rw [el]; exact S2, fr⟩
theorem in_21 {t : List Nat} (H : KF K) (P : Plain r pl) (I : LInv r a0 p0 y0 pl m taken (21 :: t) word g) : ∃ g2, Stp K g g2 ∧ LInv r a0 p0 y0 pl m taken (22 :: t) word g2 :=
  I.lift (by decide) rfl fun s a x p pc' a' x' p' q mem M S => by
    have wl : 1 ≤ word.length := by have := I.wl; rw [this]; exact Nat.le_trans (show 1 ≤ wf 21 by decide) (Nat.le_trans (Nat.le_add_left _ _) (Nat.le_add_left _ _))
    have e : word.length - pe 21 + 1 = word.length := Nat.sub_add_cancel wl
    obtain ⟨a2, x2, p2, mem2, st, M2, S2, fr⟩ := hs_21 (y := y0) H P I.w50 M S (by rw [e]; exact lt256 (Nat.le_trans I.w10 (by decide)))
    rw [e] at M2
    exact ⟨a2, x2, p2, mem2, st, M2, S2, fr⟩
theorem in_22 {t : List Nat} (H : KF K) (P : Plain r pl) (I : LInv r a0 p0 y0 pl m taken (22 :: t) word g) : ∃ g2, Stp K g g2 ∧ LInv r a0 p0 y0 pl m taken (23 :: t) word g2 :=
  I.lift (by decide) rfl fun s a x p pc' a' x' p' q mem M S => hs_22 H P I.w50 M S
theorem in_23 {t : List Nat} (H : KF K) (P : Plain r pl) (I : LInv r a0 p0 y0 pl m taken (23 :: t) word g) : ∃ g2, Stp K g g2 ∧ LInv r a0 p0 y0 pl m taken (24 :: t) word g2 :=
  I.lift (by decide) rfl fun s a x p pc' a' x' p' q mem M S => hs_23 H P I.w50 M S
theorem in_24 {t : List Nat} (H : KF K) (P : Plain r pl) (I : LInv r a0 p0 y0 pl m taken (24 :: t) word g) : ∃ g2, Stp K g g2 ∧ LInv r a0 p0 y0 pl m taken (25 :: t) word g2 :=
  I.lift (by decide) rfl fun s a x p pc' a' x' p' q mem M S => hs_24 H P I.w50 M S
end
end
section
section
variable {K : Frag} {r a0 p0 m taken : Nat} {y0 : Int} {pl : List Int} {word : List Int} {g : Rg}
theorem hpc_lt : ∀ d, d < 26 → hpc d < 65536 := by decide +kernel
/-- The first flags. -/
noncomputable def P0 (p0 : Nat) : Prop := p0 < 256 ∧ (Builtin.bitAnd (p0 : Int) 16 ≠ 0 ∧ Builtin.bitAnd (p0 : Int) 32 ≠ 0 ∧ Builtin.bitAnd (p0 : Int) 4 = 0) ∧ nz p0 0 = ((p0 + 2 : Nat) : Int)
theorem P0.of {c d v : Nat} (hc : c < 2) (hd : d < 2) (hv : v < 2) : P0 (48 + c + 8 * d + 64 * v) := by
  obtain ⟨h1, h2, h3, h4⟩ := p0_b c hc d hd v hv
  exact ⟨by omega, ⟨h1, h2, h3⟩, h4⟩
theorem vm_lt (hr : r < 12) (hm : m ≤ 1 + 3 * r) : vm r m < 256 := by
  unfold vm
  repeat' split
  all_goals omega
theorem pm_bits (Z : P0 p0) (hr : r < 12) (hm : m ≤ 1 + 3 * r) : Builtin.bitAnd (pm r p0 m) 16 ≠ 0 ∧ Builtin.bitAnd (pm r p0 m) 32 ≠ 0 ∧ Builtin.bitAnd (pm r p0 m) 4 = 0 := by
  unfold pm
  split
  · exact Z.2.1
  · obtain ⟨v, hv, _, e⟩ := nz_rep (vm_lt (m := m) hr hm)
    rw [e]
    exact p0_a p0 Z.1 Z.2.1 v hv
theorem pm_nat (Z : P0 p0) (hr : r < 12) (hm : m ≤ 1 + 3 * r) : ∃ p : Nat, p < 256 ∧ pm r p0 m = (p : Int) := by
  unfold pm
  split
  · exact ⟨p0, Z.1, rfl⟩
  · obtain ⟨p', e, h, _⟩ := nz_oct (p := p0) Z.1 (vm_lt (m := m) hr hm)
    exact ⟨p', h, e⟩
theorem xm_lt (hr : r < 12) : xm r m < 256 := by
  unfold xm
  repeat' split
  all_goals omega
theorem mpc_lt : mpc r m < 65536 := by
  unfold mpc stands
  repeat' split
  all_goals omega
/-- What a call of irq finds and leaves. -/
theorem RInv.irq {fs : List Nat} {wl pc sp a x p : Nat} {mem : List Int} (Z : P0 p0) (ha : a0 < 256) (hr : r < 12) (hm : m ≤ 1 + 3 * r) (hf : ∀ d, fs.head? = some d → 9 ≤ d ∧ d ≤ 15) (R : RInv r a0 p0 m mem fs wl pc sp a x p) :
    pc < 65536 ∧ a < 256 ∧ x < 256 ∧ p < 256 ∧ Builtin.bitAnd (p : Int) 4 = 0 ∧ sp + 5 * fs.length = 255 ∧ ∃ q p2 : Nat, p2 < 256 ∧ q < 256 ∧ Builtin.bitOr (Builtin.bitAnd p (Builtin.bitNot 16)) 32 = (q : Int) ∧ Builtin.bitOr (Builtin.bitOr (q : Int) 16) 32 = (p2 : Int) ∧ RInv r a0 p0 m mem fs wl pc sp a x p2 := by
  have key : ∀ p : Nat, p < 256 → ∃ q p2 : Nat, p2 < 256 ∧ q < 256 ∧ Builtin.bitOr (Builtin.bitAnd p (Builtin.bitNot 16)) 32 = (q : Int) ∧ Builtin.bitOr (Builtin.bitOr (q : Int) 16) 32 = (p2 : Int) := by
    intro p hp
    have h1 := (irq_q p hp).1
    have e1 : (((Builtin.bitOr (Builtin.bitAnd p (Builtin.bitNot 16)) 32).toNat : Nat) : Int) = Builtin.bitOr (Builtin.bitAnd p (Builtin.bitNot 16)) 32 := by omega
    have h2 := rti_ (Builtin.bitOr (Builtin.bitAnd p (Builtin.bitNot 16)) 32).toNat (by omega)
    exact ⟨_, (Builtin.bitOr (Builtin.bitOr (((Builtin.bitOr (Builtin.bitAnd p (Builtin.bitNot 16)) 32).toNat : Nat) : Int) 16) 32).toNat, by omega, by omega, e1.symm, by omega⟩
  cases fs with
  | nil =>
    obtain ⟨rfl, rfl, rfl, rfl, ep⟩ := R
    obtain ⟨p', hp', ep'⟩ := pm_nat Z hr hm
    have : p = p' := by omega
    subst this
    obtain ⟨b1, b2, b3⟩ := pm_bits Z hr hm
    rw [← ep] at b1 b2 b3
    obtain ⟨q, p2, h1, h2, h3, h4⟩ := key p hp'
    have e : (p2 : Int) = (p : Int) := by rw [← h4, ← h3]; exact rti_s p hp' b1 b2
    refine ⟨mpc_lt, ha, xm_lt hr, hp', b3, rfl, q, p2, h1, h2, h3, h4, rfl, rfl, rfl, rfl, e.trans ep⟩
  | cons d t =>
    obtain ⟨s, pc', a', x', p', q', rfl, rfl, S, R⟩ := R
    have hd := hf d rfl
    have hs := S.hs
    obtain ⟨q, p2, h1, h2, h3, h4⟩ := key p S.hp
    have b := S.hi.mp hd
    have e : Builtin.bitAnd (p2 : Int) 4 = 0 := by rw [← h4, ← h3, rti_i p S.hp]; exact b
    have so : spo d = 0 := by unfold spo; rw [if_neg (by omega), if_neg (by omega), if_pos (by omega)]
    refine ⟨hpc_lt d (by omega), S.ha, S.hx, S.hp, b, by rw [so, List.length_cons]; omega, q, p2, h1, h2, h3, h4, s, pc', a', x', p', q', rfl, rfl, { S with hp := h1, hi := ⟨fun _ => e, fun _ => hd⟩ }, R⟩
theorem sub1 (t n : Nat) : t + 1 - (n + 1) = t - n := Nat.add_sub_add_right ..
theorem pend_mid {fs : List Nat} (hf : ∀ d, fs.head? = some d → 9 ≤ d ∧ d ≤ 15) : pend fs = 0 := by
  cases fs with
  | nil => rfl
  | cons d t => have := hf d rfl; exact if_neg (by omega)
theorem nest_mid {fs : List Nat} (hf : ∀ d, fs.head? = some d → 9 ≤ d ∧ d ≤ 15) : nest fs = fs.length := by
  cases fs with
  | nil => rfl
  | cons d t =>
    have := hf d rfl
    show t.length + ne d = t.length + 1
    exact congrArg (t.length + ·) (if_pos (by omega))
theorem set3 {mem : List Int} {i j k : Nat} {a b c : Int} (hm : mem.length = 65536) (hi : i < 65536) (hj : j < 65536) (hk : k < 65536) (ij : j ≠ i) (ik : k ≠ i) (jk : k ≠ j) :
    (((mem.set i a).set j b).set k c)[i]? = some a ∧ (((mem.set i a).set j b).set k c)[j]? = some b ∧ (((mem.set i a).set j b).set k c)[k]? = some c ∧ ∀ n, n ≠ i → n ≠ j → n ≠ k → (((mem.set i a).set j b).set k c)[n]? = mem[n]? := by
  refine ⟨?_, ?_, ?_, fun n h1 h2 h3 => ?_⟩
  · rw [List.getElem?_set_ne ik, List.getElem?_set_ne ij, List.getElem?_set_self (by rw [hm]; exact hi)]
  · rw [List.getElem?_set_ne jk, List.getElem?_set_self (by rw [List.length_set, hm]; exact hj)]
  · rw [List.getElem?_set_self (by rw [List.length_set, List.length_set, hm]; exact hk)]
  · rw [List.getElem?_set_ne (Ne.symm h3), List.getElem?_set_ne (Ne.symm h2), List.getElem?_set_ne (Ne.symm h1)]
theorem LInv.irq {fs : List Nat} (H : KF K) (P : Plain r pl) (Z : P0 p0) (ha : a0 < 256) (hr : r < 12) (I : LInv r a0 p0 y0 pl m taken fs word g) (ht : taken < 5) (hm : m < 1 + 3 * r) (hf : ∀ d, fs.head? = some d → 9 ≤ d ∧ d ≤ 15) :
    ∃ g2, Irq K g g2 ∧ LInv r a0 p0 y0 pl m (taken + 1) (0 :: fs) word g2 := by
  have hw := I.w50
  have hl := I.hl
  obtain ⟨pc, sp, ga, gx, gy, gp, mem⟩ := g
  obtain ⟨a, x, p, ra, rx, rp, R⟩ := I.regs
  have hy := I.hy
  dsimp only at ra rx rp hy R
  subst ra rx rp hy
  obtain ⟨hpc, hA, hX, hp, b4, hsp, q, p2, hp2, hq, eq, ep2, R2⟩ := RInv.irq Z ha hr I.hm hf R
  have M := I.mem
  dsimp only at M
  have h3 := (irq_q p hp).2
  have e3 : (((Builtin.bitOr (Builtin.bitAnd p (Builtin.bitNot 16)) 4).toNat : Nat) : Int) = Builtin.bitOr (Builtin.bitAnd p (Builtin.bitNot 16)) 4 := Int.toNat_of_nonneg h3.1.1
  have hp3 : (Builtin.bitOr (Builtin.bitAnd p (Builtin.bitNot 16)) 4).toNat < 256 := by have := h3.1.2; clear M I R R2; omega
  have hl5 : fs.length ≤ 4 := Nat.le_of_lt_succ (Nat.lt_of_le_of_lt hl ht)
  obtain ⟨s, hs, rfl⟩ : ∃ s, s + 5 * fs.length = 250 ∧ sp = s + 2 + 3 := ⟨sp - 5, by clear M I R R2; omega, by clear M I R R2; omega⟩
  have hs5 : s + 2 + 3 < 256 := by clear M I R R2; omega
  have st := irq_open (K := K) H (n := pc) (sp := s + 2) (q := q) (z := 0) (z1 := 192) (a := a) (x := x) (y := gy) (p := p) (mem := mem) b4 hpc hs5 M.len eq hq ((M.hi (by decide) (Nat.le_trans hw (by decide))).trans P.v0) ((M.hi (by decide) (Nat.le_trans hw (by decide))).trans P.v1) (by decide)
  rw [← e3] at st
  obtain ⟨c1, c2, c3, c4⟩ := set3 (mem := mem) (i := s + 2 + 3 + 256) (j := s + 2 + 2 + 256) (k := s + 2 + 1 + 256) (a := ((pc / 256 : Nat) : Int)) (b := ((pc % 256 : Nat) : Int)) (c := (q : Int)) M.len (by clear M I R R2; omega) (by clear M I R R2; omega) (by clear M I R R2; omega) (by clear M I R R2; omega) (by clear M I R R2; omega) (by clear M I R R2; omega)
  refine ⟨_, st, fun _ => hm, I.hm, ht, Nat.succ_le_succ hl, fun e he => ?_, fun e he => ?_, ?_, ?_, ⟨a, x, _, rfl, rfl, rfl, s, pc, a, x, p2, q, rfl, rfl, ⟨hs, hl5, hA, hX, hp3, ⟨fun z => absurd z.1 (by decide), fun z => by rw [e3] at z; exact absurd z h3.2⟩, hA, hX, hp2, hpc, ⟨?_, ?_, ?_, ep2, fun z => absurd z (by decide), fun z => absurd z (by decide)⟩, ⟨rfl, rfl⟩⟩, ?_⟩, rfl⟩
  · rcases List.mem_cons.mp he with z | z
    · rw [z]; decide
    · exact I.hd e z
  · have he : e ∈ fs := he
    cases fs with
    | nil => cases he
    | cons d t =>
      rcases List.mem_cons.mp he with z | z
      · subst z; exact hf e rfl
      · exact I.tl e z
  · show _ = 2 * (taken + 1 - (fs.length + 1)) + (wsum fs + 0)
    rw [sub1]; exact I.wl
  · have e1 : 6 * (taken + 1 - (fs.length + 1)) + (isum fs + 0) = 6 * (taken - fs.length) + isum fs := by rw [sub1]; rfl
    have e2 : word.length - 0 = word.length - pend fs := by rw [pend_mid hf]
    have e4 : fs.length + 0 = nest fs := by rw [nest_mid hf]; rfl
    show Mem _ (6 * (taken + 1 - (fs.length + 1)) + (isum fs + 0)) (word.length - 0) (fs.length + 0) _ _ _
    rw [e1, e2, e4]
    exact ((M.stk (Nat.le_add_left _ _) (by clear M I R R2; omega)).stk (Nat.le_add_left _ _) (by clear M I R R2; omega)).stk (Nat.le_add_left _ _) (by clear M I R R2; omega)
  · rw [show s + 256 + 5 = s + 2 + 3 + 256 by clear M I R R2; omega]; exact c1
  · rw [show s + 256 + 4 = s + 2 + 2 + 256 by clear M I R R2; omega]; exact c2
  · rw [show s + 256 + 3 = s + 2 + 1 + 256 by clear M I R R2; omega]; exact c3
  · refine RInv.wl hf (RInv.frame fs _ _ _ _ _ _ (fun k k1 k2 => ?_) R2)
    exact c4 k (by clear M I R R2; omega) (by clear M I R R2; omega) (by clear M I R R2; omega)
theorem LInv.shut {d : Nat} {t : List Nat} (H : KF K) (I : LInv r a0 p0 y0 pl m taken (d :: t) word g) (hd : ¬ (9 ≤ d ∧ d ≤ 15)) : Irq K g g := by
  obtain ⟨a, x, p, ra, rx, rp, s, pc', a', x', p', q', h1, h2, S, R⟩ := I.regs
  refine irq_shut H ?_
  rw [rp]
  exact fun z => hd (S.hi.mpr z)
theorem in_25 {t : List Nat} (H : KF K) (P : Plain r pl) (I : LInv r a0 p0 y0 pl m taken (25 :: t) word g) : ∃ g2, Stp K g g2 ∧ LInv r a0 p0 y0 pl m taken t word g2 := by
  obtain ⟨pc, sp, ga, gx, gy, gp, mem⟩ := g
  obtain ⟨a, x, p, ra, rx, rp, s, pc', a', x', p', q, rpc, rsp, S, R⟩ := I.regs
  have hy := I.hy
  dsimp only at ra rx rp rpc rsp hy S R
  subst ra rx rp rpc rsp hy
  have hl : t.length + 1 ≤ taken := I.hl
  have st := hs_25 (y := gy) H P I.w50 I.mem S
  have hd : ∀ d, t.head? = some d → 9 ≤ d ∧ d ≤ 15 := fun d hd => by
    cases t with
    | nil => cases hd
    | cons e t => cases hd; exact I.tl d (.head _)
  refine ⟨_, st, fun _ => I.run (List.cons_ne_nil _ _), I.hm, I.ht, Nat.le_of_succ_le hl, fun e he => I.hd e (.tail _ he), fun e he => I.tl e (List.mem_of_mem_tail he), ?_, ?_, ⟨a', x', p', rfl, rfl, rfl, RInv.wl hd R⟩, rfl⟩
  · have h : word.length = 2 * (taken - (t.length + 1)) + (wsum t + 2) := I.wl
    clear st S R I
    omega
  · have M : Mem ((m + 1) / 3) (6 * (taken - (t.length + 1)) + (isum t + 6)) (word.length - 0) (t.length + 0) word pl mem := I.mem
    have e1 : 6 * (taken - (t.length + 1)) + (isum t + 6) = 6 * (taken - t.length) + isum t := by clear M st S R I; omega
    have e2 : word.length - 0 = word.length - pend t := by rw [pend_mid hd]
    have e4 : t.length + 0 = nest t := by rw [nest_mid hd]; rfl
    rw [e1, e2, e4] at M
    exact M
theorem LInv.of0 (hm : m ≤ 1 + 3 * r) (ht : taken ≤ 5) (hwl : word.length = 2 * taken + 0) {v50 x2 p2 a pc : Nat} {mem2 : List Int} (epc : pc = mpc r m) (ex : x2 = xm r m) (ep : (p2 : Int) = pm r p0 m) (e50 : v50 = (m + 1) / 3) (M : Mem v50 (6 * taken + 0) (word.length - 0) 0 word pl mem2) :
    LInv r a p0 y0 pl m taken [] word ⟨pc, 255, (a : Nat), (x2 : Nat), y0, (p2 : Nat), mem2⟩ :=
  ⟨fun z => absurd rfl z, hm, ht, Nat.zero_le _, fun e he => (nomatch he), fun e he => (nomatch he), hwl, e50 ▸ M, ⟨a, x2, p2, rfl, rfl, rfl, epc, rfl, rfl, ex, ep⟩, rfl⟩
theorem m_one (r j : Nat) (h : j < r) : mpc r (3 * j + 1) = 514 ∧ mpc r (3 * j + 2) = 516 ∧ mpc r (3 * j + 3) = 517 := by
  unfold mpc stands
  refine ⟨?_, ?_, ?_⟩
  · rw [if_neg (by omega), if_neg (by omega), if_pos (by omega)]
  · rw [if_neg (by omega), if_neg (by omega), if_neg (by omega), if_pos (by omega)]
  · rw [if_neg (by omega), if_neg (by omega), if_neg (by omega), if_neg (by omega)]
theorem m_end (r : Nat) : mpc r (3 * r + 1) = 519 := by unfold mpc; rw [if_pos (by omega)]
theorem x_at (r j : Nat) : xm r (3 * j + 1) = r - j ∧ xm r (3 * j + 2) = r - j ∧ xm r (3 * j + 3) = r - j - 1 := by
  have h0 : (3 * j + 1 - 1) / 3 = j ∧ (3 * j + 1 - 1) % 3 = 0 := by omega
  have h1 : (3 * j + 2 - 1) / 3 = j ∧ (3 * j + 2 - 1) % 3 = 1 := by omega
  have h2 : (3 * j + 3 - 1) / 3 = j ∧ (3 * j + 3 - 1) % 3 = 2 := by omega
  unfold xm
  rw [if_neg (Nat.succ_ne_zero _), if_neg (Nat.succ_ne_zero _), if_neg (Nat.succ_ne_zero _), h0.1, h0.2, h1.1, h1.2, h2.1, h2.2]
  exact ⟨rfl, rfl, rfl⟩
theorem p_at (r j p0 : Nat) : pm r p0 (3 * j + 1) = nz p0 ((r - j : Nat) : Int) ∧ pm r p0 (3 * j + 2) = nz p0 ((j + 1 : Nat) : Int) ∧ pm r p0 (3 * j + 3) = nz p0 ((r - j - 1 : Nat) : Int) := by
  have h0 : (3 * j + 1 - 1) / 3 = j ∧ (3 * j + 1 - 1) % 3 = 0 := by omega
  have h1 : (3 * j + 2 - 1) / 3 = j ∧ (3 * j + 2 - 1) % 3 = 1 := by omega
  have h2 : (3 * j + 3 - 1) / 3 = j ∧ (3 * j + 3 - 1) % 3 = 2 := by omega
  unfold pm vm
  rw [if_neg (Nat.succ_ne_zero _), if_neg (Nat.succ_ne_zero _), if_neg (Nat.succ_ne_zero _), h0.1, h0.2, h1.1, h1.2, h2.1, h2.2]
  exact ⟨rfl, rfl, rfl⟩
theorem c50_at (j : Nat) : (3 * j + 1 + 1) / 3 = j ∧ (3 * j + 2 + 1) / 3 = j + 1 ∧ (3 * j + 3 + 1) / 3 = j + 1 := by omega
theorem m_cases {m r : Nat} (h : m < 1 + 3 * r) : m = 0 ∨ ∃ j, j < r ∧ (m = 3 * j + 1 ∨ m = 3 * j + 2 ∨ m = 3 * j + 3) := by
  by_cases h0 : m = 0
  · exact .inl h0
  · exact .inr ⟨(m - 1) / 3, by omega, by omega⟩
/-- One step of the main program. -/
theorem LInv.main (H : KF K) (P : Plain r pl) (Z : P0 p0) (hr0 : 4 ≤ r) (hr : r < 12) (I : LInv r a0 p0 y0 pl m taken [] word g) (hm : m < 1 + 3 * r) : ∃ g2, Stp K g g2 ∧ LInv r a0 p0 y0 pl (m + 1) taken [] word g2 := by
  have M := I.mem
  have mid : ∀ k, 512 ≤ k → k < 1536 → g.mem[k]? = pl[k]? := fun k h h' => M.mid h h'
  obtain ⟨a, x, p, ra, rx, rp, epc, esp, ea, ex, ep⟩ := I.regs
  obtain ⟨pc, sp, ga, gx, gy, gp, mem⟩ := g
  have hy := I.hy
  dsimp only at ra rx rp hy epc esp M mid
  subst ra rx rp hy epc esp ea ex
  have ht := I.ht
  have hwl := I.wl
  obtain ⟨pn', hpn', epn'⟩ := pm_nat (m := m + 1) Z hr (Nat.succ_le_of_lt (Nat.lt_of_lt_of_eq hm rfl))
  have hm1 : m + 1 ≤ 1 + 3 * r := hm
  clear I
  rw [ep]
  rcases m_cases hm with rfl | ⟨j, hj, rfl | rfl | rfl⟩
  · have st := st_a2 (K := K) (n := 512) (sp := 255) (a := a) (x := (xm r 0 : Nat)) (y := gy) (p := pm r p0 0) (mem := mem) H (by decide) (z := (r : Int)) ((mid 513 (by decide) (by decide)).trans P.m1) ((mid 512 (by decide) (by decide)).trans P.m0)
    have e0 : mpc r 0 = 512 := by unfold mpc; rw [if_neg (by clear M mid; omega)]; rfl
    have e1 : nz (pm r p0 0) (r : Int) = (pn' : Int) := (p_at r 0 p0).1.symm.trans epn'
    rw [e1] at st
    rw [e0]
    exact ⟨_, st, .of0 hm1 ht hwl (m_one r 0 (by clear M mid; omega)).1.symm (x_at r 0).1.symm epn'.symm rfl M⟩
  · have e0 := (m_one r j hj).1
    have st := st_e6 (K := K) (n := 514) (sp := 255) (a := a) (x := (xm r (3 * j + 1) : Nat)) (y := gy) (p := pm r p0 (3 * j + 1)) (mem := mem) H (by decide) (k := 50) (z := (j : Int)) ((mid 515 (by decide) (by decide)).trans P.m3) (by decide) ((c50_at j).1 ▸ M.c50) M.len ((mid 514 (by decide) (by decide)).trans P.m2)
    have e1 : nz (pm r p0 (3 * j + 1)) ((j + 1 : Nat) : Int) = (pn' : Int) := by
      rw [(p_at r j p0).1, nz_nz Z.1 (by clear M mid; omega) (by clear M mid; omega)]; exact (p_at r j p0).2.1.symm.trans epn'
    rw [inc_ (by clear M mid; omega), e1] at st
    rw [e0]
    exact ⟨_, st, .of0 hm1 ht hwl (m_one r j hj).2.1.symm ((x_at r j).1.trans (x_at r j).2.1.symm) epn'.symm (c50_at j).2.1.symm (M.set50 (j + 1))⟩
  · have e0 := (m_one r j hj).2.1
    have ex : xm r (3 * j + 2) = (r - j - 1) + 1 := (x_at r j).2.1.trans (by clear M mid; omega)
    have st := st_ca (K := K) (n := 516) (sp := 255) (a := a) (x := ((r - j - 1 + 1 : Nat) : Int)) (y := gy) (p := pm r p0 (3 * j + 2)) (mem := mem) H (by decide) ((mid 516 (by decide) (by decide)).trans P.m4)
    have e1 : nz (pm r p0 (3 * j + 2)) ((r - j - 1 : Nat) : Int) = (pn' : Int) := by
      rw [(p_at r j p0).2.1, nz_nz Z.1 (by clear M mid; omega) (by clear M mid; omega)]; exact (p_at r j p0).2.2.symm.trans epn'
    rw [dec_ (by clear M mid; omega), e1] at st
    rw [e0, ex]
    exact ⟨_, st, .of0 hm1 ht hwl (m_one r j hj).2.2.symm (x_at r j).2.2.symm epn'.symm ((c50_at j).2.1.trans (c50_at j).2.2.symm) M⟩
  · have e0 := (m_one r j hj).2.2
    have zz := nz_z (p := p0) (w := r - j - 1) Z.1 (by clear M mid; omega)
    have ep3 := (p_at r j p0).2.2
    rw [← ep, e0]
    have e2 : nz p0 ((r - j - 1 : Nat) : Int) = pm r p0 (3 * (j + 1) + 1) := (p_at r (j + 1) p0).1.symm ▸ rfl
    have e3 : xm r (3 * j + 3) = xm r (3 * (j + 1) + 1) := (x_at r j).2.2.trans ((x_at r (j + 1)).1.symm ▸ rfl)
    by_cases hz : r - j - 1 = 0
    · have ej : r = j + 1 := by clear M mid; omega
      have st := st_d0_on (K := K) (n := 517) (sp := 255) (a := a) (x := (xm r (3 * j + 3) : Nat)) (y := gy) (p := (p : Int)) (mem := mem) H (by decide) (by rw [ep, ep3]; exact zz.1 hz) ((mid 517 (by decide) (by decide)).trans P.m5)
      exact ⟨_, st, .of0 hm1 ht hwl (by have := m_end r; rw [ej] at this ⊢; exact this.symm) e3 (ep.trans (ep3.trans e2)) ((c50_at j).2.2.trans (c50_at (j + 1)).1.symm) M⟩
    · have st := st_d0_off (K := K) (n := 517) (sp := 255) (a := a) (x := (xm r (3 * j + 3) : Nat)) (y := gy) (p := (p : Int)) (mem := mem) H (by decide) (by rw [ep, ep3]; exact zz.2 hz) (z := 251) (m := 514) ((mid 518 (by decide) (by decide)).trans P.m6) (by decide +kernel) (by decide) ((mid 517 (by decide) (by decide)).trans P.m5)
      exact ⟨_, st, .of0 hm1 ht hwl (m_one r (j + 1) (by clear M mid; omega)).1.symm e3 (ep.trans (ep3.trans e2)) ((c50_at j).2.2.trans (c50_at (j + 1)).1.symm) M⟩
end
end
section
section
variable {K : Frag} {r a0 p0 m taken : Nat} {y0 : Int} {pl : List Int} {word : List Int} {g : Rg}
theorem LInv.pos0 (I : LInv r a0 p0 y0 pl m taken [] word g) (hm : m < 1 + 3 * r) : g.pc = stands m ∧ g.sp = 255 := by
  obtain ⟨a, x, p, ra, rx, rp, epc, esp, ea, ex, ep⟩ := I.regs
  refine ⟨epc.trans ?_, esp⟩
  unfold mpc; rw [if_neg (by omega)]
theorem LInv.pos {d : Nat} {t : List Nat} (I : LInv r a0 p0 y0 pl m taken (d :: t) word g) : g.pc = hpc d ∧ g.sp + 5 * t.length = 250 + spo d := by
  obtain ⟨a, x, p, ra, rx, rp, s, pc', a', x', p', q', h1, h2, S, R⟩ := I.regs
  have := S.hs
  exact ⟨h1, by omega⟩
/-- The plain memory at the end. -/
noncomputable def ended (r taken : Nat) (word pl : List Int) : List Int :=
  let l := ((pl.set 50 (r : Int)).set 51 ((6 * taken : Nat) : Int)).set 64 (word.length : Int)
  l.take 1536 ++ word ++ l.drop (1536 + word.length)
theorem ended_get (P : Plain r pl) (hw : word.length ≤ 10) (k : Nat) : (ended r taken word pl)[k]? = want r (6 * taken) word.length 0 word pl k := by
  unfold ended
  generalize hl : ((pl.set 50 (r : Int)).set 51 ((6 * taken : Nat) : Int)).set 64 (word.length : Int) = l
  have len : l.length = 65536 := by rw [← hl, List.length_set, List.length_set, List.length_set]; exact P.len
  have get : ∀ k, k ≠ 50 → k ≠ 51 → k ≠ 64 → l[k]? = pl[k]? := fun k h1 h2 h3 => by
    rw [← hl, List.getElem?_set_ne (by omega), List.getElem?_set_ne (by omega), List.getElem?_set_ne (by omega)]
  have l50 : l[50]? = some (r : Int) := by rw [← hl, List.getElem?_set_ne (by decide), List.getElem?_set_ne (by decide), List.getElem?_set_self (by rw [P.len]; decide)]
  have l51 : l[51]? = some ((6 * taken : Nat) : Int) := by rw [← hl, List.getElem?_set_ne (by decide), List.getElem?_set_self (by rw [List.length_set, P.len]; decide)]
  have l64 : l[64]? = some (word.length : Int) := by rw [← hl, List.getElem?_set_self (by rw [List.length_set, List.length_set, P.len]; decide)]
  dsimp only
  have tl : (List.take 1536 l).length = 1536 := by rw [List.length_take]; omega
  unfold want
  by_cases f : 1536 ≤ k
  · rw [if_neg (by omega), if_neg (by omega), if_neg (by omega), if_neg (by omega)]
    by_cases f2 : k < 1536 + word.length
    · rw [if_pos ⟨f, f2⟩, List.getElem?_append_left (by rw [List.length_append]; omega), List.getElem?_append_right (by omega), tl]
    · rw [if_neg (by omega), List.getElem?_append_right (by rw [List.length_append]; omega), List.length_append, tl, List.getElem?_drop, show 1536 + word.length + (k - (1536 + word.length)) = k by omega]
      exact get k (by omega) (by omega) (by omega)
  · have e : (List.take 1536 l ++ word ++ List.drop (1536 + word.length) l)[k]? = l[k]? := by
      rw [List.getElem?_append_left (by rw [List.length_append]; omega), List.getElem?_append_left (by omega), List.getElem?_take, if_pos (by omega)]
    rw [e]
    by_cases a : k = 50
    · subst a; rw [if_pos rfl]; exact l50
    by_cases b : k = 51
    · subst b; rw [if_neg (by decide), if_pos rfl]; exact l51
    by_cases c : k = 64
    · subst c; rw [if_neg (by decide), if_neg (by decide), if_pos rfl]; exact l64
    rw [if_neg a, if_neg b, if_neg c, get k a b c]
    by_cases d : k = 65
    · subst d; rw [if_pos rfl]; exact P.z65
    · rw [if_neg d, if_neg (by omega)]
theorem LInv.fin (P : Plain r pl) (Z : P0 p0) (I : LInv r a0 p0 y0 pl (1 + 3 * r) taken [] word g) :
    g.pc = 519 ∧ g.a = (a0 : Int) ∧ g.x = 0 ∧ g.y = y0 ∧ g.sp = 255 ∧ g.p = (p0 : Int) + 2 ∧ g.mem.length = 65536 ∧ (ended r taken word pl).length = 65536 ∧ g.mem.take 256 = (ended r taken word pl).take 256 ∧ g.mem.drop 512 = (ended r taken word pl).drop 512 := by
  have hw := I.w10
  have M := I.mem
  have hy := I.hy
  obtain ⟨a, x, p, ra, rx, rp, epc, esp, ea, ex, ep⟩ := I.regs
  have get : ∀ k, k < 256 ∨ 512 ≤ k → g.mem[k]? = (ended r taken word pl)[k]? := fun k hk => by
    rw [ended_get P hw, M.at_ k hk]
    simp only [isum, pend, nest, List.length_nil, Nat.sub_zero, Nat.add_zero]
    rw [show (1 + 3 * r + 1) / 3 = r by omega]
  have len : (ended r taken word pl).length = 65536 := by
    unfold ended
    simp only [List.length_append, List.length_take, List.length_drop, List.length_set, P.len]
    omega
  refine ⟨epc.trans ?_, by rw [ra, ea], ?_, hy, esp, ?_, M.len, len, ?_, ?_⟩
  · unfold mpc; rw [if_pos rfl]
  · rw [rx, ex]
    have : xm r (1 + 3 * r) = 0 := by unfold xm; rw [if_neg (by omega), if_neg (by omega)]; omega
    rw [this]; rfl
  · rw [rp, ep]
    have : pm r p0 (1 + 3 * r) = nz p0 0 := by
      unfold pm vm
      rw [if_neg (by omega), if_pos (by omega), show r - (1 + 3 * r - 1) / 3 = 0 by omega]; rfl
    rw [this, Z.2.2]
    omega
  · refine List.ext_getElem? fun k => ?_
    rw [List.getElem?_take, List.getElem?_take]
    by_cases h : k < 256
    · rw [if_pos h, if_pos h]; exact get k (.inl h)
    · rw [if_neg h, if_neg h]
  · refine List.ext_getElem? fun k => ?_
    rw [List.getElem?_drop, List.getElem?_drop]
    exact get _ (.inr (by omega))
end
end
section
noncomputable section
noncomputable def cx : CodeCx := ⟨S "/claim/cut.py", 0, false, 181⟩
noncomputable abbrev pmV : Value := .str (S "py65.devices.mpu6502") 194
noncomputable def ec (w : World) : Ec := ⟨cenv, cx, 0, pmV, bs w⟩
noncomputable def mkRow : List Stmt → List (Nat × Nat) → Row
  | st :: l, (n, t) :: r => (st, n, t) :: mkRow l r
  | _, _ => []
theorem mkRow_fst : ∀ (l : List Stmt) (r : List (Nat × Nat)), r.length ≤ l.length → (mkRow l r).map (·.1) = l.take r.length
  | _, [], _ => by simp [mkRow]
  | [], _ :: _, h => by simp at h
  | st :: l, (n, t) :: r, h => by
    show st :: (mkRow l r).map (·.1) = _
    rw [mkRow_fst l r (by simpa using h)]
    rfl
noncomputable def nums : List (Nat × Nat) := [(29, 208), (29, 210), (29, 212), (29, 214), (29, 216), (29, 218), (29, 220), (29, 222), (29, 224), (29, 226), (29, 228), (29, 230), (29, 232), (29, 234), (29, 236), (29, 238), (37, 248), (44, 256), (51, 263), (58, 270), (65, 277), (72, 285), (79, 293), (86, 303), (93, 310), (100, 317), (107, 324), (114, 331), (121, 338), (128, 345), (135, 354), (142, 361), (149, 370), (156, 379), (163, 387), (170, 395), (177, 402), (184, 410), (191, 418), (198, 426), (205, 434), (212, 444), (219, 454), (226, 462), (233, 470), (240, 478), (247, 486), (254, 494), (261, 503), (268, 513), (275, 521), (282, 539), (289, 549), (296, 557), (303, 565), (310, 573), (317, 583), (324, 600), (331, 610), (338, 620), (345, 628), (352, 636), (359, 644), (366, 651), (373, 659), (380, 666), (387, 673), (394, 680), (401, 687), (408, 694), (415, 701), (422, 708), (429, 715), (436, 722), (443, 729), (450, 736), (457, 743), (464, 750), (471, 757), (478, 764), (485, 771), (492, 778), (499, 785), (506, 792), (513, 799), (520, 806), (527, 813), (534, 820), (541, 827), (548, 834), (555, 841), (562, 848), (569, 855), (576, 862), (583, 869), (590, 876), (597, 883), (604, 890), (611, 897), (618, 904), (625, 911), (632, 918), (639, 925), (646, 932), (653, 939), (660, 946), (667, 953), (674, 960), (681, 967), (688, 974), (695, 981), (702, 988), (709, 995), (716, 1002), (723, 1009), (730, 1016), (737, 1023), (744, 1030), (751, 1037), (758, 1044), (765, 1051), (772, 1058), (779, 1065), (786, 1072), (793, 1079), (800, 1087), (807, 1094), (814, 1101), (821, 1108), (828, 1115), (835, 1122), (842, 1129), (849, 1136), (856, 1143), (863, 1150), (870, 1157), (877, 1164), (884, 1171), (891, 1178), (898, 1185), (905, 1192), (912, 1199), (919, 1206), (926, 1213), (933, 1220), (940, 1227), (947, 1234), (954, 1241), (961, 1248), (968, 1255), (975, 1262), (982, 1269), (989, 1276), (996, 1283), (1003, 1290), (1010, 1297), (1017, 1304), (1024, 1311), (1031, 1318), (1038, 1325), (1045, 1332), (1052, 1339), (1059, 1346), (1066, 1353), (1073, 1360), (1080, 1367), (1087, 1374), (1094, 1381), (1101, 1388), (1108, 1395), (1115, 1402), (1122, 1409), (1129, 1416), (1136, 1423), (1143, 1430), (1150, 1437), (1157, 1444), (1164, 1451), (1171, 1458), (1178, 1465), (1185, 1472), (1192, 1479), (1199, 1486), (1206, 1493), (1213, 1500), (1220, 1507), (1227, 1514), (1234, 1521), (1241, 1528), (1248, 1535), (1255, 1542), (1262, 1549), (1269, 1556), (1276, 1563), (1283, 1570), (1290, 1577), (1297, 1584), (1304, 1591), (1311, 1598), (1318, 1605), (1325, 1612), (1332, 1619), (1339, 1626), (1346, 1633), (1353, 1640), (1360, 1647), (1367, 1654), (1374, 1661), (1381, 1668), (1388, 1675), (1395, 1682), (1402, 1689), (1409, 1696), (1416, 1703)]
noncomputable def row : Row := mkRow cb nums
noncomputable def ks : List Nat := [40566444004241315945086292328530, 9223693094411567182, 9223728278794141769, 374156729175376809814151048786362472439819549016142, 374159940482089904203465974441416054423449663176783, 85073350139275367363416112186055983189, 40566269918886397888765091643458, 178412426955853197700963550525517741208633412, 784669145068816743373889952136887351439751431825785880649, 19343541760585618281201754, 40566540718426788947501326008387, 1645561051268252665622619039172595849854203956675598648436850754, 3451011395829098355434070634118342472037579312195813612184661114486850, 1645561051268252665622619039172595849854204076579364758760718401, 3451011395829098355434070634118342472037579312195933515950771438354497, 374161367731143741253624231872089875031792684105823, 19343846131946397471080563, 40567062974556106681140650180722, 9223869016349605993, 9223833831967031406, 85075297250519946837342307857916231746, 85075297250519946828118927024947462231, 85075297250519946938799316700420374615, 31830417320439421601510279130214397964113314207397343911710243396182182792322381273628752, 15177831658477120412261863360565861288471695029758508643473785384720870579934068809, 7237398977038579810304986960081414694590513131225205980335151167271765803098, 15177925739494411726340724013303795111784035136511171321418563776151939817505030234, 15177925739494411726340724013304169256203191847658231464735739144604971736236032090, 15177925739494411726340724013303795114460124220052641437398871309388591821743980617, 15177925739494411726340724013304169258879280931199701580716046677841623740474982473, 7237398977038579810304986960081414695696431635015181731425122957583372517441, 15177925739494411726340724013303795111784036242429675111394314866123730129111744577, 15177925739494411726340724013304169256203192953576735254711490234576762047842746433, 15177925739494411726340724013311278000167167572970231806937102525821224902352437314, 85074810473656600000517630723641835635, 40566985603395884911310420312179, 1645583021135550859251451338130889562488211437905709923083223155, 784675131385589055658078831735236206514596114593768013939, 178413617944664764370307790794653966272561222, 40566076490912056916704197869679, 40566289261865532401903149777007, 40566405318744215454682433192047, 40566289261717958453711519875183, 40566444004370443078835558678639, 40566405318679651810842031161455, 40566444004241315945086382506095, 40566134519314504869184513507439, 40566444004278209358467010920559, 40566289261828638988522521362543, 40566405318707321935748688511087, 40566115176409157314749170450543, 40566405318707321992923293155439, 40566076490930503678370093465711, 40566540718445235695973180637295, 40566521375632121861906385338479, 85073918046957040499099846057945727087, 40566115176390710649840298098799, 85073918046705583854833031292815147119, 85073918046705583937843401614740684911, 40566076490782929694994091475055, 40566540718297661712597178646639, 40566521375484547878530383347823, 2707814360720943931819095783640134179241771245638729875692814420339388298159670741921217767742435216423604019897063301330239593, 784655675864018113979241278807845858292561753760845529193, 784656050008437270690388338951163033661014785679576531049, 784657546586113897534976579524431735134826913354500538473, 784657920730533054246123639667748910503279945273231540329, 784658669019371367668417759954383261240186009110693544041, 784659043163790524379564820097700436608639041029424545897, 784674008940556792825447225830387451346760317778664620137, 784675131373814262958888406260338977452119413534857625705, 784675505518233419670035466403656152820572445453588627561, 784655675864196519940829523792978144038742940652893372521, 784656050008615676651976583936295319407195972571624374377, 784657546586292303496564824509564020881008100246548381801, 784657920730711460207711884652881196249461132165279383657, 784658669019549773630006004939515546986367196002741387369, 784659043163968930341153065082832722354820227921472389225, 784675131373992668920476651245471263198300600426905469033, 784675505518411825631623711388788438566753632345636470889, 784655675864374925902417768778110429784924127544941215849, 784656050008794082613564828921427605153377159463672217705, 784657172442051552747006009351379131258736255219865223273, 784657546586470709458153069494696306627189287138596225129, 784657920730889866169300129638013481995642319057327226985, 784658669019728179591594249924647832732548382894789230697, 784659043164147336302741310067965008101001414813520232553, 784674008940913604748623715800652022839122691562760306793, 784674757229751918170917836087286373576028755400222310505, 784675131374171074882064896230603548944481787318953312361, 784675505518590231593211956373920724312934819237684314217, 784655675864553331864006013763242715531105314436989059177, 784656050008972488575153073906559890899558346355720061033, 784657546586649115419741314479828592373370474030644068457, 784657920731068272130888374623145767741823505949375070313, 784658669019906585553182494909780118478729569786837074025, 784659043164325742264329555053097293847182601705568075881, 784675131374349480843653141215735834690662974211001155689, 784675505518768637554800201359053010059116006129732157545, 784655675864731737825594258748375001277286501329036902505, 784656050009150894536741318891692176645739533247767904361, 784657546586827521381329559464960878119551660922691911785, 784657920731246678092476619608278053488004692841422913641, 784658669020084991514770739894912404224910756678884917353, 784659043164504148225917800038229579593363788597615919209, 784674008941270416671800205770916594331485065346855993449, 784674757230108730094094326057550945068391129184317997161, 784675131374527886805241386200868120436844161103048999017, 784675505518947043516388446344185295805297193021780000873, 784655675864910143787182503733507287023467688221084745833, 784656050009329300498329563876824462391920720139815747689, 784657546587005927342917804450093163865732847814739755113, 784657920731425084054064864593410339234185879733470756969, 784658669020263397476358984880044689971091943570932760681, 784659043164682554187506045023361865339544975489663762537, 784675131374706292766829631186000406183025347995096842345, 784675505519125449477976691329317581551478379913827844201, 784655675865088549748770748718639572769648875113132589161, 784656050009507706459917808861956748138101907031863591017, 784657546587184333304506049435225449611914034706787598441, 784657920731603490015653109578542624980367066625518600297, 784658669020441803437947229865176975717273130462980604009, 784659043164860960149094290008494151085726162381711605865, 784674008941627228594976695741181165823847439130951680105, 784674757230465542017270816027815516560753502968413683817, 784675131374884698728417876171132691929206534887144685673, 784675505519303855439564936314449867297659566805875687529, 784655675865266955710358993703771858515830062005180432489, 784656050009686112421506053847089033884283093923911434345, 784657546587362739266094294420357735358095221598835441769, 784657920731781895977241354563674910726548253517566443625, 784658669020620209399535474850309261463454317355028447337, 784659043165039366110682534993626436831907349273759449193, 784675131375063104690006121156264977675387721779192529001, 784675505519482261401153181299582153043840753697923530857, 784656050009864518383094298832221319630464280815959277673, 784657172443121988516535479262172845735823376572152283241, 784657546587541145227682539405490021104276408490883285097, 784657920731960301938829599548807196472729440409614286953, 784658669020798615361123719835441547209635504247076290665, 784674008941984040518153185711445737316209812915047366761, 784674757230822353940447305998080088053115876752509370473, 784675131375241510651594366141397263421568908671240372329, 784675505519660667362741426284714438790021940589971374185, 784655675865623767633535483674036430008192435789276119145, 784656050010042924344682543817353605376645467708007121001, 784657172443300394478123724247305131482004563464200126569, 784657546587719551189270784390622306850457595382931128425, 784657920732138707900417844533939482218910627301662130281, 784658669020977021322711964820573832955816691139124133993, 784659043165396178033859024963891008324269723057855135849, 784674008942162446479741430696578023062390999807095210089, 784675131375419916613182611126529549167750095563288215657, 784655675872760006097065283079327859855439911471189852265, 784656050017179162808212343222645035223892943389920854121, 784656424161598319519359403365962210592345975308651855977, 784657172450436632941653523652596561329252039146113859689, 784657546594855789652800583795913736697705071064844861545, 784657920739274946363947643939230912066158102983575863401, 784658669028113259786241764225865262803064166821037867113, 784659043172532416497388824369182438171517198739768868969, 784674008949298684943271230101869452909638475489008943209, 784674757238136998365565350388503803646544539326470946921, 784675131382556155076712410531820979014997571245201948777, 784675505526975311787859470675138154383450603163932950633, 784655675872938412058653528064460145601621098363237695593, 784656050017357568769800588207777320970074130281968697449, 784657172450615038903241768637728847075433226038161703017, 784657546595034195614388828781046022443886257956892704873, 784657920739453352325535888924363197812339289875623706729, 784658669028291665747830009210997548549245353713085710441, 784659043172710822458977069354314723917698385631816712297, 784674008949477090904859475087001738655819662381056786537, 784674757238315404327153595373636089392725726218518790249, 784675131382734561038300655516953264761178758137249792105, 784675505527153717749447715660270440129631790055980793961, 784655675873116818020241773049592431347802285255285538921, 784656050017535974731388833192909606716255317174016540777, 784657172450793444864830013622861132821614412930209546345, 784657546595212601575977073766178308190067444848940548201, 784657920739631758287124133909495483558520476767671550057, 784658669028470071709418254196129834295426540605133553769, 784659043172889228420565314339447009663879572523864555625, 784674008949655496866447720072134024402000849273104629865, 784674757238493810288741840358768375138906913110566633577, 784675131382912966999888900502085550507359945029297635433, 784675505527332123711035960645402725875812976948028637289, 784655675873295223981830018034724717093983472147333382249, 784656050017714380692977078178041892462436504066064384105, 784657546595391007537565318751310593936248631740988391529, 784657920739810164248712378894627769304701663659719393385, 784658669028648477671006499181262120041607727497181397097, 784659043173067634382153559324579295410060759415912398953, 784675131383091372961477145487217836253541131921345478761, 784675505527510529672624205630535011621994163840076480617, 784655675873473629943418263019857002840164659039381225577, 784656050017892786654565323163174178208617690958112227433, 784657172451150256788006503593125704313976786714305233001, 784657546595569413499153563736442879682429818633036234857, 784657920739988570210300623879760055050882850551767236713, 784658669028826883632594744166394405787788914389229240425, 784659043173246040343741804309711581156241946307960242281, 784674008950012308789624210042398595894363223057200316521, 784674757238850622211918330329032946631269286894662320233, 784675131383269778923065390472350121999722318813393322089, 784675505527688935634212450615667297368175350732124323945, 784655675873652035905006508004989288586345845931429068905, 784656050018071192616153568148306463954798877850160070761, 784657546595747819460741808721575165428611005525084078185, 784657920740166976171888868864892340797064037443815080041, 784658669029005289594182989151526691533970101281277083753, 784659043173424446305330049294843866902423133200008085609, 784675131383448184884653635457482407745903505705441165417, 784675505527867341595800695600799583114356537624172167273]
noncomputable def us0 : List Nat := [1645579097939857496827938599568861160633997785614177722257375327, 7237333410440057777947054478967012584455014025756423976850642608192585990239, 66752618599247636949385515016786649664644554901918485927857063544442727938334477591907231858783]
noncomputable def lk : List Nat := [784655675864018113979241278807845858292561753760845529193, 784656050008437270690388338951163033661014785679576531049, 2707814360720943931819095783640134179241771245638729875692814420339388298159670741921217767742435216423604019897063301330239593, 2707814360720943931819095783640134179241771245638729875692814420339388298159670741921217767742435216423604019897063301330239593, 2707814360720943931819095783640134179241771245638729875692814420339388298159670741921217767742435216423604019897063301330239593, 784657546586113897534976579524431735134826913354500538473, 784657920730533054246123639667748910503279945273231540329, 2707814360720943931819095783640134179241771245638729875692814420339388298159670741921217767742435216423604019897063301330239593, 784658669019371367668417759954383261240186009110693544041, 784659043163790524379564820097700436608639041029424545897, 784674008940556792825447225830387451346760317778664620137, 2707814360720943931819095783640134179241771245638729875692814420339388298159670741921217767742435216423604019897063301330239593, 2707814360720943931819095783640134179241771245638729875692814420339388298159670741921217767742435216423604019897063301330239593, 784675131373814262958888406260338977452119413534857625705, 784675505518233419670035466403656152820572445453588627561, 2707814360720943931819095783640134179241771245638729875692814420339388298159670741921217767742435216423604019897063301330239593, 784655675864196519940829523792978144038742940652893372521, 784656050008615676651976583936295319407195972571624374377, 2707814360720943931819095783640134179241771245638729875692814420339388298159670741921217767742435216423604019897063301330239593, 2707814360720943931819095783640134179241771245638729875692814420339388298159670741921217767742435216423604019897063301330239593, 2707814360720943931819095783640134179241771245638729875692814420339388298159670741921217767742435216423604019897063301330239593, 784657546586292303496564824509564020881008100246548381801, 784657920730711460207711884652881196249461132165279383657, 2707814360720943931819095783640134179241771245638729875692814420339388298159670741921217767742435216423604019897063301330239593, 784658669019549773630006004939515546986367196002741387369, 784659043163968930341153065082832722354820227921472389225, 2707814360720943931819095783640134179241771245638729875692814420339388298159670741921217767742435216423604019897063301330239593, 2707814360720943931819095783640134179241771245638729875692814420339388298159670741921217767742435216423604019897063301330239593, 2707814360720943931819095783640134179241771245638729875692814420339388298159670741921217767742435216423604019897063301330239593, 784675131373992668920476651245471263198300600426905469033, 784675505518411825631623711388788438566753632345636470889, 2707814360720943931819095783640134179241771245638729875692814420339388298159670741921217767742435216423604019897063301330239593, 784655675864374925902417768778110429784924127544941215849, 784656050008794082613564828921427605153377159463672217705, 2707814360720943931819095783640134179241771245638729875692814420339388298159670741921217767742435216423604019897063301330239593, 2707814360720943931819095783640134179241771245638729875692814420339388298159670741921217767742435216423604019897063301330239593, 784657172442051552747006009351379131258736255219865223273, 784657546586470709458153069494696306627189287138596225129, 784657920730889866169300129638013481995642319057327226985, 2707814360720943931819095783640134179241771245638729875692814420339388298159670741921217767742435216423604019897063301330239593, 784658669019728179591594249924647832732548382894789230697, 784659043164147336302741310067965008101001414813520232553, 784674008940913604748623715800652022839122691562760306793, 2707814360720943931819095783640134179241771245638729875692814420339388298159670741921217767742435216423604019897063301330239593, 784674757229751918170917836087286373576028755400222310505, 784675131374171074882064896230603548944481787318953312361, 784675505518590231593211956373920724312934819237684314217, 2707814360720943931819095783640134179241771245638729875692814420339388298159670741921217767742435216423604019897063301330239593, 784655675864553331864006013763242715531105314436989059177, 784656050008972488575153073906559890899558346355720061033, 2707814360720943931819095783640134179241771245638729875692814420339388298159670741921217767742435216423604019897063301330239593, 2707814360720943931819095783640134179241771245638729875692814420339388298159670741921217767742435216423604019897063301330239593, 2707814360720943931819095783640134179241771245638729875692814420339388298159670741921217767742435216423604019897063301330239593, 784657546586649115419741314479828592373370474030644068457, 784657920731068272130888374623145767741823505949375070313, 2707814360720943931819095783640134179241771245638729875692814420339388298159670741921217767742435216423604019897063301330239593, 784658669019906585553182494909780118478729569786837074025, 784659043164325742264329555053097293847182601705568075881, 2707814360720943931819095783640134179241771245638729875692814420339388298159670741921217767742435216423604019897063301330239593, 2707814360720943931819095783640134179241771245638729875692814420339388298159670741921217767742435216423604019897063301330239593, 2707814360720943931819095783640134179241771245638729875692814420339388298159670741921217767742435216423604019897063301330239593, 784675131374349480843653141215735834690662974211001155689, 784675505518768637554800201359053010059116006129732157545, 2707814360720943931819095783640134179241771245638729875692814420339388298159670741921217767742435216423604019897063301330239593, 784655675864731737825594258748375001277286501329036902505, 784656050009150894536741318891692176645739533247767904361, 2707814360720943931819095783640134179241771245638729875692814420339388298159670741921217767742435216423604019897063301330239593, 2707814360720943931819095783640134179241771245638729875692814420339388298159670741921217767742435216423604019897063301330239593, 2707814360720943931819095783640134179241771245638729875692814420339388298159670741921217767742435216423604019897063301330239593, 784657546586827521381329559464960878119551660922691911785, 784657920731246678092476619608278053488004692841422913641, 2707814360720943931819095783640134179241771245638729875692814420339388298159670741921217767742435216423604019897063301330239593, 784658669020084991514770739894912404224910756678884917353, 784659043164504148225917800038229579593363788597615919209, 784674008941270416671800205770916594331485065346855993449, 2707814360720943931819095783640134179241771245638729875692814420339388298159670741921217767742435216423604019897063301330239593, 784674757230108730094094326057550945068391129184317997161, 784675131374527886805241386200868120436844161103048999017, 784675505518947043516388446344185295805297193021780000873, 2707814360720943931819095783640134179241771245638729875692814420339388298159670741921217767742435216423604019897063301330239593, 784655675864910143787182503733507287023467688221084745833, 784656050009329300498329563876824462391920720139815747689, 2707814360720943931819095783640134179241771245638729875692814420339388298159670741921217767742435216423604019897063301330239593, 2707814360720943931819095783640134179241771245638729875692814420339388298159670741921217767742435216423604019897063301330239593, 2707814360720943931819095783640134179241771245638729875692814420339388298159670741921217767742435216423604019897063301330239593, 784657546587005927342917804450093163865732847814739755113, 784657920731425084054064864593410339234185879733470756969, 2707814360720943931819095783640134179241771245638729875692814420339388298159670741921217767742435216423604019897063301330239593, 784658669020263397476358984880044689971091943570932760681, 784659043164682554187506045023361865339544975489663762537, 2707814360720943931819095783640134179241771245638729875692814420339388298159670741921217767742435216423604019897063301330239593, 2707814360720943931819095783640134179241771245638729875692814420339388298159670741921217767742435216423604019897063301330239593, 2707814360720943931819095783640134179241771245638729875692814420339388298159670741921217767742435216423604019897063301330239593, 784675131374706292766829631186000406183025347995096842345, 784675505519125449477976691329317581551478379913827844201, 2707814360720943931819095783640134179241771245638729875692814420339388298159670741921217767742435216423604019897063301330239593, 784655675865088549748770748718639572769648875113132589161, 784656050009507706459917808861956748138101907031863591017, 2707814360720943931819095783640134179241771245638729875692814420339388298159670741921217767742435216423604019897063301330239593, 2707814360720943931819095783640134179241771245638729875692814420339388298159670741921217767742435216423604019897063301330239593, 2707814360720943931819095783640134179241771245638729875692814420339388298159670741921217767742435216423604019897063301330239593, 784657546587184333304506049435225449611914034706787598441, 784657920731603490015653109578542624980367066625518600297, 2707814360720943931819095783640134179241771245638729875692814420339388298159670741921217767742435216423604019897063301330239593, 784658669020441803437947229865176975717273130462980604009, 784659043164860960149094290008494151085726162381711605865, 784674008941627228594976695741181165823847439130951680105, 2707814360720943931819095783640134179241771245638729875692814420339388298159670741921217767742435216423604019897063301330239593, 784674757230465542017270816027815516560753502968413683817, 784675131374884698728417876171132691929206534887144685673, 784675505519303855439564936314449867297659566805875687529, 2707814360720943931819095783640134179241771245638729875692814420339388298159670741921217767742435216423604019897063301330239593, 784655675865266955710358993703771858515830062005180432489, 784656050009686112421506053847089033884283093923911434345, 2707814360720943931819095783640134179241771245638729875692814420339388298159670741921217767742435216423604019897063301330239593, 2707814360720943931819095783640134179241771245638729875692814420339388298159670741921217767742435216423604019897063301330239593, 2707814360720943931819095783640134179241771245638729875692814420339388298159670741921217767742435216423604019897063301330239593, 784657546587362739266094294420357735358095221598835441769, 784657920731781895977241354563674910726548253517566443625, 2707814360720943931819095783640134179241771245638729875692814420339388298159670741921217767742435216423604019897063301330239593, 784658669020620209399535474850309261463454317355028447337, 784659043165039366110682534993626436831907349273759449193, 2707814360720943931819095783640134179241771245638729875692814420339388298159670741921217767742435216423604019897063301330239593, 2707814360720943931819095783640134179241771245638729875692814420339388298159670741921217767742435216423604019897063301330239593, 2707814360720943931819095783640134179241771245638729875692814420339388298159670741921217767742435216423604019897063301330239593, 784675131375063104690006121156264977675387721779192529001, 784675505519482261401153181299582153043840753697923530857, 2707814360720943931819095783640134179241771245638729875692814420339388298159670741921217767742435216423604019897063301330239593, 2707814360720943931819095783640134179241771245638729875692814420339388298159670741921217767742435216423604019897063301330239593, 784656050009864518383094298832221319630464280815959277673, 2707814360720943931819095783640134179241771245638729875692814420339388298159670741921217767742435216423604019897063301330239593, 2707814360720943931819095783640134179241771245638729875692814420339388298159670741921217767742435216423604019897063301330239593, 784657172443121988516535479262172845735823376572152283241, 784657546587541145227682539405490021104276408490883285097, 784657920731960301938829599548807196472729440409614286953, 2707814360720943931819095783640134179241771245638729875692814420339388298159670741921217767742435216423604019897063301330239593, 784658669020798615361123719835441547209635504247076290665, 2707814360720943931819095783640134179241771245638729875692814420339388298159670741921217767742435216423604019897063301330239593, 784674008941984040518153185711445737316209812915047366761, 2707814360720943931819095783640134179241771245638729875692814420339388298159670741921217767742435216423604019897063301330239593, 784674757230822353940447305998080088053115876752509370473, 784675131375241510651594366141397263421568908671240372329, 784675505519660667362741426284714438790021940589971374185, 2707814360720943931819095783640134179241771245638729875692814420339388298159670741921217767742435216423604019897063301330239593, 784655675865623767633535483674036430008192435789276119145, 784656050010042924344682543817353605376645467708007121001, 2707814360720943931819095783640134179241771245638729875692814420339388298159670741921217767742435216423604019897063301330239593, 2707814360720943931819095783640134179241771245638729875692814420339388298159670741921217767742435216423604019897063301330239593, 784657172443300394478123724247305131482004563464200126569, 784657546587719551189270784390622306850457595382931128425, 784657920732138707900417844533939482218910627301662130281, 2707814360720943931819095783640134179241771245638729875692814420339388298159670741921217767742435216423604019897063301330239593, 784658669020977021322711964820573832955816691139124133993, 784659043165396178033859024963891008324269723057855135849, 784674008942162446479741430696578023062390999807095210089, 2707814360720943931819095783640134179241771245638729875692814420339388298159670741921217767742435216423604019897063301330239593, 2707814360720943931819095783640134179241771245638729875692814420339388298159670741921217767742435216423604019897063301330239593, 784675131375419916613182611126529549167750095563288215657, 2707814360720943931819095783640134179241771245638729875692814420339388298159670741921217767742435216423604019897063301330239593, 2707814360720943931819095783640134179241771245638729875692814420339388298159670741921217767742435216423604019897063301330239593, 784655675872760006097065283079327859855439911471189852265, 784656050017179162808212343222645035223892943389920854121, 784656424161598319519359403365962210592345975308651855977, 2707814360720943931819095783640134179241771245638729875692814420339388298159670741921217767742435216423604019897063301330239593, 784657172450436632941653523652596561329252039146113859689, 784657546594855789652800583795913736697705071064844861545, 784657920739274946363947643939230912066158102983575863401, 2707814360720943931819095783640134179241771245638729875692814420339388298159670741921217767742435216423604019897063301330239593, 784658669028113259786241764225865262803064166821037867113, 784659043172532416497388824369182438171517198739768868969, 784674008949298684943271230101869452909638475489008943209, 2707814360720943931819095783640134179241771245638729875692814420339388298159670741921217767742435216423604019897063301330239593, 784674757238136998365565350388503803646544539326470946921, 784675131382556155076712410531820979014997571245201948777, 784675505526975311787859470675138154383450603163932950633, 2707814360720943931819095783640134179241771245638729875692814420339388298159670741921217767742435216423604019897063301330239593, 784655675872938412058653528064460145601621098363237695593, 784656050017357568769800588207777320970074130281968697449, 2707814360720943931819095783640134179241771245638729875692814420339388298159670741921217767742435216423604019897063301330239593, 2707814360720943931819095783640134179241771245638729875692814420339388298159670741921217767742435216423604019897063301330239593, 784657172450615038903241768637728847075433226038161703017, 784657546595034195614388828781046022443886257956892704873, 784657920739453352325535888924363197812339289875623706729, 2707814360720943931819095783640134179241771245638729875692814420339388298159670741921217767742435216423604019897063301330239593, 784658669028291665747830009210997548549245353713085710441, 784659043172710822458977069354314723917698385631816712297, 784674008949477090904859475087001738655819662381056786537, 2707814360720943931819095783640134179241771245638729875692814420339388298159670741921217767742435216423604019897063301330239593, 784674757238315404327153595373636089392725726218518790249, 784675131382734561038300655516953264761178758137249792105, 784675505527153717749447715660270440129631790055980793961, 2707814360720943931819095783640134179241771245638729875692814420339388298159670741921217767742435216423604019897063301330239593, 784655675873116818020241773049592431347802285255285538921, 784656050017535974731388833192909606716255317174016540777, 2707814360720943931819095783640134179241771245638729875692814420339388298159670741921217767742435216423604019897063301330239593, 2707814360720943931819095783640134179241771245638729875692814420339388298159670741921217767742435216423604019897063301330239593, 784657172450793444864830013622861132821614412930209546345, 784657546595212601575977073766178308190067444848940548201, 784657920739631758287124133909495483558520476767671550057, 2707814360720943931819095783640134179241771245638729875692814420339388298159670741921217767742435216423604019897063301330239593, 784658669028470071709418254196129834295426540605133553769, 784659043172889228420565314339447009663879572523864555625, 784674008949655496866447720072134024402000849273104629865, 2707814360720943931819095783640134179241771245638729875692814420339388298159670741921217767742435216423604019897063301330239593, 784674757238493810288741840358768375138906913110566633577, 784675131382912966999888900502085550507359945029297635433, 784675505527332123711035960645402725875812976948028637289, 2707814360720943931819095783640134179241771245638729875692814420339388298159670741921217767742435216423604019897063301330239593, 784655675873295223981830018034724717093983472147333382249, 784656050017714380692977078178041892462436504066064384105, 2707814360720943931819095783640134179241771245638729875692814420339388298159670741921217767742435216423604019897063301330239593, 2707814360720943931819095783640134179241771245638729875692814420339388298159670741921217767742435216423604019897063301330239593, 2707814360720943931819095783640134179241771245638729875692814420339388298159670741921217767742435216423604019897063301330239593, 784657546595391007537565318751310593936248631740988391529, 784657920739810164248712378894627769304701663659719393385, 2707814360720943931819095783640134179241771245638729875692814420339388298159670741921217767742435216423604019897063301330239593, 784658669028648477671006499181262120041607727497181397097, 784659043173067634382153559324579295410060759415912398953, 2707814360720943931819095783640134179241771245638729875692814420339388298159670741921217767742435216423604019897063301330239593, 2707814360720943931819095783640134179241771245638729875692814420339388298159670741921217767742435216423604019897063301330239593, 2707814360720943931819095783640134179241771245638729875692814420339388298159670741921217767742435216423604019897063301330239593, 784675131383091372961477145487217836253541131921345478761, 784675505527510529672624205630535011621994163840076480617, 2707814360720943931819095783640134179241771245638729875692814420339388298159670741921217767742435216423604019897063301330239593, 784655675873473629943418263019857002840164659039381225577, 784656050017892786654565323163174178208617690958112227433, 2707814360720943931819095783640134179241771245638729875692814420339388298159670741921217767742435216423604019897063301330239593, 2707814360720943931819095783640134179241771245638729875692814420339388298159670741921217767742435216423604019897063301330239593, 784657172451150256788006503593125704313976786714305233001, 784657546595569413499153563736442879682429818633036234857, 784657920739988570210300623879760055050882850551767236713, 2707814360720943931819095783640134179241771245638729875692814420339388298159670741921217767742435216423604019897063301330239593, 784658669028826883632594744166394405787788914389229240425, 784659043173246040343741804309711581156241946307960242281, 784674008950012308789624210042398595894363223057200316521, 2707814360720943931819095783640134179241771245638729875692814420339388298159670741921217767742435216423604019897063301330239593, 784674757238850622211918330329032946631269286894662320233, 784675131383269778923065390472350121999722318813393322089, 784675505527688935634212450615667297368175350732124323945, 2707814360720943931819095783640134179241771245638729875692814420339388298159670741921217767742435216423604019897063301330239593, 784655675873652035905006508004989288586345845931429068905, 784656050018071192616153568148306463954798877850160070761, 2707814360720943931819095783640134179241771245638729875692814420339388298159670741921217767742435216423604019897063301330239593, 2707814360720943931819095783640134179241771245638729875692814420339388298159670741921217767742435216423604019897063301330239593, 2707814360720943931819095783640134179241771245638729875692814420339388298159670741921217767742435216423604019897063301330239593, 784657546595747819460741808721575165428611005525084078185, 784657920740166976171888868864892340797064037443815080041, 2707814360720943931819095783640134179241771245638729875692814420339388298159670741921217767742435216423604019897063301330239593, 784658669029005289594182989151526691533970101281277083753, 784659043173424446305330049294843866902423133200008085609, 2707814360720943931819095783640134179241771245638729875692814420339388298159670741921217767742435216423604019897063301330239593, 2707814360720943931819095783640134179241771245638729875692814420339388298159670741921217767742435216423604019897063301330239593, 2707814360720943931819095783640134179241771245638729875692814420339388298159670741921217767742435216423604019897063301330239593, 784675131383448184884653635457482407745903505705441165417, 784675505527867341595800695600799583114356537624172167273, 2707814360720943931819095783640134179241771245638729875692814420339388298159670741921217767742435216423604019897063301330239593]
noncomputable def nI : Nat := 1423
noncomputable def tI : Nat := 1710
theorem ec_ok (w : World) (os : OsState) : EcOk PP 11 annV (Array.mk []) boot_drawn os w (ec w) where
  n24 := rfl
  n26 := rfl
  A := rfl
  kind := by kernel_rfl
  code := rfl
  locals := rfl
  rec27 := ⟨_, _, _, _, _, rfl, rfl, rfl, rfl, rfl, rfl, rfl⟩
  built := fun c t pos => by
    unfold builtinsFor nsGet
    refine XR.at_n (n := (1 + 0) + (1 + 0)) ?_ rfl
    refine XR_bind (a := some (.ref 4)) (h₁ := mkH (ec w).b c) (t₁ := t) (pos₁ := pos) ?_ ?_
    · refine XR_bind (XR_load (mkH_A (i := 3) (o := o3a w) rfl (by decide) rfl)) ?_
      rw [show nsLook "__builtins__" (o3a w) = pure (some (.ref 4)) by kernel_rfl]
      exact XR_pure
    · dsimp only
      rw [if_neg (by exact Bool.false_ne_true)]
      refine XR_bind (XR_load (mkH_A (i := 4) (o := boot_o_4 w.params) rfl (by decide) rfl)) ?_
      exact XR_pure
  name := fun c t pos => by
    unfold nsGet
    refine XR.at_n (n := 1 + 0) ?_ rfl
    refine XR_bind (XR_load (mkH_A (i := 3) (o := o3a w) rfl (by decide) rfl)) ?_
    rw [show nsLook "__name__" (o3a w) = pure (some pmV) by kernel_rfl]
    exact XR_pure
theorem cb_len : Nat.ble 217 cb.length = true := by decide +kernel
theorem row_is : row.map (·.1) = cb.take 214 := mkRow_fst cb nums (Nat.le_trans (by decide) (Nat.le_of_ble_eq_true cb_len))
theorem row_ok : rowOk row 29 208 = true := by decide +kernel
theorem row_chk : chk us0 0 (row.map (·.1)) ks = true := by decide +kernel
theorem row_st : ∀ x ∈ row, stB x.1 = true := List.all_eq_true.mp (show row.all (fun x => stB x.1) = true by decide +kernel)
theorem row_T : Nat.beq (rowT row 208) tI = true := by decide +kernel
theorem row_N : Nat.beq (rowN row 29) nI = true := by decide +kernel
end
end
section
noncomputable section
theorem cb_split : cb.take 214 ++ [cst 214, cst 215, cst 216] = cb := by
  have : cb.drop 214 = [cst 214, cst 215, cst 216] := by kernel_rfl
  rw [← this, List.take_append_drop]
theorem names_is : cenv.scope.names.map (·.1) = cb.map bindOf := by kernel_rfl
theorem names_loc : cenv.scope.names.all (fun x => x.2 == .local) = true := by decide +kernel
theorem kinds : ∀ st ∈ cb, cenv.kindOf (bindOf st) = some .local := fun st hs => lookup_local names_loc (by rw [names_is]; exact List.mem_map_of_mem hs)
theorem row_mem : ∀ x ∈ row, x.1 ∈ cb := fun x hx => by
  have : x.1 ∈ row.map (·.1) := List.mem_map_of_mem hx
  rw [row_is] at this
  exact List.mem_of_mem_take this
theorem row_small : ∀ x ∈ row, small (bindOf x.1) = true := List.all_eq_true.mp (show row.all (fun x => small (bindOf x.1)) = true by decide +kernel)
theorem row_len : row.length = ks.length := by decide +kernel
theorem lf1 : cst 214 = lForm (cst 214) := by kernel_rfl
theorem lf2 : cst 215 = lForm (cst 215) := by kernel_rfl
theorem lf3 : cst 216 = lForm (cst 216) := by kernel_rfl
noncomputable def dbg : Nat := 784673260660103558151603359403565393192537316679948959839
theorem dbg_is : dbg = enc ("__debug__" : Str) := by kernel_rfl
theorem lc1 : chkL ks dbg (lEs (cst 214)) lk = true := by decide +kernel
theorem lc2 : chkL ks dbg (lEs (cst 215)) [] = true := by decide +kernel
theorem lc3 : chkL ks dbg (lEs (cst 216)) [] = true := by decide +kernel
noncomputable def us1 : List Nat := ks.reverse ++ us0
noncomputable def k1 : Nat := 374165114256677376805797941628899760194654742511721
noncomputable def k2 : Nat := 784675505529116182050862292951028498782043682562763653219
noncomputable def k3 : Nat := 3451062406498622282229097528363228327365908006738419574344662300754021
theorem k1_is : Nat.beq k1 (enc (bindOf (cst 214))) = true := by decide +kernel
theorem k2_is : Nat.beq k2 (enc (bindOf (cst 215))) = true := by decide +kernel
theorem k3_is : Nat.beq k3 (enc (bindOf (cst 216))) = true := by decide +kernel
theorem us_is : lastUs (row.map (·.1)) ks us0 = us1 := by kernel_rfl
theorem aw1 : awayN k1 us1 = true := by decide +kernel
theorem aw2 : awayN k2 (k1 :: us1) = true := by decide +kernel
theorem aw3 : awayN k3 (k2 :: k1 :: us1) = true := by decide +kernel
theorem tk1 : Nat.beq (lTk (lEs (cst 214)) tI) 1710 = true := by decide +kernel
theorem tk2 : Nat.beq (lTk (lEs (cst 215)) 1711) 1967 = true := by decide +kernel
theorem tk3 : Nat.beq (lTk (lEs (cst 216)) 1968) 2224 = true := by decide +kernel
theorem ln1 : Nat.ble (lEs (cst 214)).length 1000 = true := by decide +kernel
theorem ln2 : Nat.ble (lEs (cst 215)).length 1000 = true := by decide +kernel
theorem ln3 : Nat.ble (lEs (cst 216)).length 1000 = true := by decide +kernel
theorem in0 : enc (S "__module__") ∈ us0 := by decide +kernel
theorem in1 : enc (S "__qualname__") ∈ us0 := by decide +kernel
theorem in2 : enc (S "__firstlineno__") ∈ us0 := by decide +kernel
theorem I0 (w : World) : Inv us0 0 ⟨[], ns0 w, []⟩ := ⟨fun x hx => by
    rcases List.mem_cons.mp hx with rfl | hx
    · exact ⟨_, _, rfl, in0⟩
    · rcases List.mem_cons.mp hx with rfl | hx
      · exact ⟨_, _, rfl, in1⟩
      · obtain rfl := List.mem_singleton.mp hx
        exact ⟨_, _, rfl, in2⟩, fun x hx => nomatch hx⟩
theorem cb_row : row.map (·.1) ++ [cst 214, cst 215, cst 216] = cb := by rw [row_is]; exact cb_split
noncomputable abbrev T1 : Nat := 1710
noncomputable abbrev T2 : Nat := 1967
noncomputable abbrev T3 : Nat := 2224
noncomputable def objF (w : World) : List Obj := objG (ec w) w (ns0 w) row (cst 214) (cst 215) (cst 216) tI T1 T2 nI
noncomputable def nsF (w : World) : List DictEntry := nsD w (ns0 w) row (cst 214) (cst 215) (cst 216) T1 T2 T3 nI
theorem body_run (w : World) (os : OsState) : XR PP 11 annV (Array.mk []) boot_drawn os w (stepsG row (cst 214) (cst 215) (cst 216)) (execs cb (ec w).env) (mkH (ec w).b ⟨[], ns0 w, []⟩) 208 p109 .next (mkH (ec w).b ⟨objF w, nsF w, rPl row⟩) (T3 + 1) (endOf (cst 216)) :=
  body_gen (lk := lk) (ec_ok w os) (I0 w) cb_row kinds row_ok row_chk row_st (Nat.eq_of_beq_eq_true row_T) (Nat.eq_of_beq_eq_true row_N) row_small row_len lf1 lf2 lf3 dbg_is lc1 lc2 lc3 us_is k1_is k2_is k3_is aw1 aw2 aw3 (Nat.eq_of_beq_eq_true tk1) (Nat.eq_of_beq_eq_true tk2) (Nat.eq_of_beq_eq_true tk3) (Nat.le_of_ble_eq_true ln1) (Nat.le_of_ble_eq_true ln2) (Nat.le_of_ble_eq_true ln3)
end
end
section
noncomputable section
noncomputable def LB (w : World) : List Obj := A109 w ++ (nsObj (nsF w) :: o25 :: plObj (rPl row) :: o27 :: o28 :: objF w)
noncomputable def SB (w : World) (os : OsState) : SharedT := ⟨btOf 11 (LB w), nI + 3, (boot_heap w.params).life, Array.mk [], boot_drawn, T3 + 1, os⟩
noncomputable def thB (w : World) (os : OsState) : Thread := ⟨doneF .next, .body cb cenv, endOf (cst 216), fr1 w os :: (stk w os).tail⟩
noncomputable def noQ : List DictEntry → List DictEntry
  | a :: _ :: r => a :: r
  | l => l
noncomputable def o3F (w : World) : Obj := ⟨(.type "dict"), none, .dict #[⟨h w (S "__name__"), .str (S "__name__") 165, (.str (S "law_me0006_06") 2249)⟩, ⟨h w (S "__doc__"), .str (S "__doc__") 166, .none⟩, ⟨h w (S "__package__"), .str (S "__package__") 167, .none⟩, ⟨h w (S "__loader__"), .str (S "__loader__") 168, (.builtin "__main__.__loader__#opaque")⟩, ⟨h w (S "__spec__"), .str (S "__spec__") 169, .none⟩, ⟨h w (S "__annotations__"), .str (S "__annotations__") 170, (.ref 6)⟩, ⟨h w (S "__builtins__"), .str (S "__builtins__") 171, (.ref 4)⟩, ⟨h w (S "__file__"), .str (S "__file__") 173, (.str (S "/claim/cut.py") 172)⟩, ⟨h w (S "__cached__"), .str (S "__cached__") 174, .none⟩, ⟨h w (S "_wall"), .str (S "_wall") 193, (.ref 21)⟩, ⟨h w (S "MPU"), .str (S "MPU") 2248, (.ref 1428)⟩, ⟨h w (S "_law_steps"), .str (S "_law_steps") 2296, (.ref 1459)⟩, ⟨h w (S "law"), .str (S "law") 2302, (.ref 1464)⟩] 13, #[]⟩
noncomputable def o12F : Obj := ⟨.none, none, .fields #[(.int 1 0), (.int 0 0), (.ref 20), (.int 5 0), (.int 0 0), (.ref 27), (.int 1039 0), (.int 0 0), (.ref 1463)], #[]⟩
noncomputable def eS (w : World) : DictEntry := ⟨h w (S "__static_attributes__"), .str (S "__static_attributes__") 2241, (.ref 1426)⟩
noncomputable def o1427 (w : World) : Obj := ⟨.type "dict", none, .dict (noQ (nsF w) ++ eS w :: [⟨h w (S "__dict__"), .str (S "__dict__") 2243, (.ref 1429)⟩, ⟨h w (S "__weakref__"), .str (S "__weakref__") 2245, (.ref 1430)⟩, ⟨h w (S "__doc__"), .str (S "__doc__") 2246, .none⟩]).toArray 4, #[]⟩
noncomputable def o1426 : Obj := ⟨(.type "tuple"), none, .seq #[(.str (S "a") 2225), (.str (S "addcycles") 2226), (.str (S "addrHighMask") 2227), (.str (S "addrMask") 2228), (.str (S "byteMask") 2229), (.str (S "excycles") 2230), (.str (S "memory") 2231), (.str (S "name") 2232), (.str (S "p") 2233), (.str (S "pc") 2234), (.str (S "processorCycles") 2235), (.str (S "sp") 2236), (.str (S "spBase") 2237), (.str (S "start_pc") 2238), (.str (S "x") 2239), (.str (S "y") 2240)] 0, #[]⟩
noncomputable def o1428 : Obj := ⟨(.type "type"), none, .cls { name := (S "MPU"), bases := [(.type "object")], mro := [(.ref 1428), (.type "object")], ns := 1427, qualname := (S "MPU"), hasDict := true, slotNames := [], subclasses := [], abstract := false, collection := none, hasDel := false }, #[none, none, some (.str (S "MPU") 196), some (.str (S "MPU") 204), some (.builtin "object.__new__"), some (.bool true)]⟩
noncomputable def o1429 : Obj := ⟨(.type "getset_descriptor"), none, .fields #[(.str (S "__dict__") 2242), (.ref 1428), (.builtin "function.__dict__"), (.builtin "function.__dict__#set")], #[]⟩
noncomputable def o1430 : Obj := ⟨(.type "getset_descriptor"), none, .fields #[(.str (S "__weakref__") 2244), (.ref 1428), (.builtin "ExceptionGroup.__weakref__"), .none], #[]⟩
noncomputable def o1431 : Obj := ⟨(.type "super"), none, .fields #[(.ref 1428), (.ref 1428), (.ref 1428)], #[]⟩
noncomputable def o1432 : Obj := ⟨(.type "builtin_function_or_method"), none, .fields #[(.builtin "object.__init_subclass__"), (.ref 1428)], #[]⟩
noncomputable def o1433 : Obj := ⟨(.type "list"), none, .seq #[(.int 72 2251)] 0, #[]⟩
noncomputable def o1434 : Obj := ⟨(.type "list"), none, .seq #[(.int 138 2252)] 0, #[]⟩
noncomputable def o1435 : Obj := ⟨(.type "list"), none, .seq #[(.int 72 2253)] 0, #[]⟩
noncomputable def o1436 : Obj := ⟨(.type "list"), none, .seq #[(.int 166 2254), (.int 64 2255)] 0, #[]⟩
noncomputable def o1437 : Obj := ⟨(.type "list"), none, .seq #[(.int 165 2256), (.int 65 2257)] 0, #[]⟩
noncomputable def o1438 : Obj := ⟨(.type "list"), none, .seq #[(.int 157 2258), (.int 0 2259), (.int 6 2260)] 0, #[]⟩
noncomputable def o1439 : Obj := ⟨(.type "list"), none, .seq #[(.int 230 2261), (.int 64 2262)] 0, #[]⟩
noncomputable def o1440 : Obj := ⟨(.type "list"), none, .seq #[(.int 230 2263), (.int 65 2264)] 0, #[]⟩
noncomputable def o1441 : Obj := ⟨(.type "list"), none, .seq #[(.int 88 2265)] 0, #[]⟩
noncomputable def o1442 : Obj := ⟨(.type "list"), none, .seq #[(.int 230 2266), (.int 51 2267)] 0, #[]⟩
noncomputable def o1443 : Obj := ⟨(.type "list"), none, .seq #[(.int 230 2268), (.int 51 2269)] 0, #[]⟩
noncomputable def o1444 : Obj := ⟨(.type "list"), none, .seq #[(.int 230 2270), (.int 51 2271)] 0, #[]⟩
noncomputable def o1445 : Obj := ⟨(.type "list"), none, .seq #[(.int 230 2272), (.int 51 2273)] 0, #[]⟩
noncomputable def o1446 : Obj := ⟨(.type "list"), none, .seq #[(.int 230 2274), (.int 51 2275)] 0, #[]⟩
noncomputable def o1447 : Obj := ⟨(.type "list"), none, .seq #[(.int 230 2276), (.int 51 2277)] 0, #[]⟩
noncomputable def o1448 : Obj := ⟨(.type "list"), none, .seq #[(.int 120 2278)] 0, #[]⟩
noncomputable def o1449 : Obj := ⟨(.type "list"), none, .seq #[(.int 198 2279), (.int 65 2280)] 0, #[]⟩
noncomputable def o1450 : Obj := ⟨(.type "list"), none, .seq #[(.int 166 2281), (.int 64 2282)] 0, #[]⟩
noncomputable def o1451 : Obj := ⟨(.type "list"), none, .seq #[(.int 165 2283), (.int 65 2284)] 0, #[]⟩
noncomputable def o1452 : Obj := ⟨(.type "list"), none, .seq #[(.int 9 2285), (.int 128 2286)] 0, #[]⟩
noncomputable def o1453 : Obj := ⟨(.type "list"), none, .seq #[(.int 157 2287), (.int 0 2288), (.int 6 2289)] 0, #[]⟩
noncomputable def o1454 : Obj := ⟨(.type "list"), none, .seq #[(.int 230 2290), (.int 64 2291)] 0, #[]⟩
noncomputable def o1455 : Obj := ⟨(.type "list"), none, .seq #[(.int 104 2292)] 0, #[]⟩
noncomputable def o1456 : Obj := ⟨(.type "list"), none, .seq #[(.int 170 2293)] 0, #[]⟩
noncomputable def o1457 : Obj := ⟨(.type "list"), none, .seq #[(.int 104 2294)] 0, #[]⟩
noncomputable def o1458 : Obj := ⟨(.type "list"), none, .seq #[(.int 64 2295)] 0, #[]⟩
noncomputable def o1459 : Obj := ⟨(.type "list"), none, .seq #[(.ref 1433), (.ref 1434), (.ref 1435), (.ref 1436), (.ref 1437), (.ref 1438), (.ref 1439), (.ref 1440), (.ref 1441), (.ref 1442), (.ref 1443), (.ref 1444), (.ref 1445), (.ref 1446), (.ref 1447), (.ref 1448), (.ref 1449), (.ref 1450), (.ref 1451), (.ref 1452), (.ref 1453), (.ref 1454), (.ref 1455), (.ref 1456), (.ref 1457), (.ref 1458)] 0, #[]⟩
noncomputable def o1460 : Obj := ⟨(.type "tuple"), none, .seq #[] 0, #[]⟩
noncomputable def o1461 : Obj := ⟨.none, none, .fields #[], #[]⟩
noncomputable def o1462 : Obj := ⟨.none, none, .func { name := (S "law"), qualname := (S "law"), params := sArgs (pst lawI), body := .stmts (sBody (pst lawI)), scope := sScope (pst lawI), globals := 0, closure := [], defaults := .none, kwdefaults := .none, doc := .none, pyModule := .none, annotations := none, code := .none, closureTuple := .none, builtins := 0 }, #[]⟩
noncomputable def o1463 : Obj := ⟨(.type "code"), none, .fields #[(.str (S "law") 2297), (.str (S "law") 2298), (.str (S "/claim/cut.py") 2299), (.int 1039 0), (.int 1 0), (.int 0 0), (.int 0 0), (.int 3 0), (.ref 1460), (.bool true), (.int 181 0), (.ref 1461), .none, .none, .none, (.ref 1462), (.int 2300 0), (.int 1039 0), (.str (S "/claim/cut.py") 2301)], #[]⟩
noncomputable def o1464 : Obj := ⟨(.type "function"), none, .func { name := (S "law"), qualname := (S "law"), params := sArgs (pst lawI), body := .stmts (sBody (pst lawI)), scope := sScope (pst lawI), globals := 3, closure := [], defaults := .none, kwdefaults := .none, doc := .none, pyModule := (.str (S "law_me0006_06") 2249), annotations := none, code := (.ref 1463), closureTuple := .none, builtins := 0 }, #[]⟩
noncomputable def LN (w : World) : List Obj := [o1426, o1427 w, o1428, o1429, o1430, o1431, o1432, o1433, o1434, o1435, o1436, o1437, o1438, o1439, o1440, o1441, o1442, o1443, o1444, o1445, o1446, o1447, o1448, o1449, o1450, o1451, o1452, o1453, o1454, o1455, o1456, o1457, o1458, o1459, o1460, o1461, o1462, o1463, o1464]
noncomputable def AF (w : World) : List Obj := [boot_o_0 w.params, boot_o_1 w.params, boot_o_2 w.params, o3F w, boot_o_4 w.params, boot_o_5 w.params, boot_o_6 w.params, boot_o_7 w.params, boot_o_8 w.params, boot_o_9 w.params, boot_o_10 w.params, o11, o12F, o13, o14, o15, o16, o17, o18, o19, o20, o21, o22, o23]
noncomputable def LF (w : World) : List Obj := AF w ++ (nsObj (nsF w ++ [eS w]) :: o25 :: plObj (rPl row) :: o27 :: o28 :: (objF w ++ LN w))
noncomputable def SF (w : World) (os : OsState) : SharedT := ⟨btOf 11 (LF w), 1465, (boot_heap w.params).life, Array.mk [], boot_drawn, 2303, os⟩
theorem fin_is (w : World) (os : OsState) : (PySem.W.Fast.tw10110043849684766642 PySem.W.Fast.tw14364793385576792824 PP w 11 annV 0 492 (SB w os) (thB w os)).map (fun r => r.2.1) = some (SF w os) := by kernel_rfl
end
end
section
noncomputable section
theorem seg_topRun {tb : String → Option Builtin} {p : Program} {w : World} {n₀ : Nat} {ann : Option Value} : ∀ (n : Nat) (s : Shared) (t : Thread) (r : Flow × Shared × Code × Pos), segRun tb p w n₀ ann 0 n s t = some r → topRun tb p w n₀ ann n s t = some r.2.1
  | 0, _, _, _, h => by cases h
  | n + 1, s, t, r, h => by
    unfold segRun at h
    unfold topRun
    have key : through t = (endAt 0 t).isSome := by
      unfold through endAt
      cases t with
      | mk cur code pos stack =>
        cases stack with
        | nil =>
          cases cur with
          | pure f => cases f <;> rfl
          | _ => rfl
        | cons a b => rfl
    rw [key]
    cases he : endAt 0 t with
    | some f => rw [he] at h; cases h; rfl
    | none =>
      rw [he] at h
      dsimp only [Option.isSome] at h ⊢
      cases hk : stepOk n₀ ann t with
      | false => rw [hk] at h; cases h
      | true =>
        rw [hk] at h
        cases hs : step (denote tb) p w s t with
        | halt o s₂ => rw [hs] at h; cases h
        | go s₂ t₂ => rw [hs] at h; exact seg_topRun n s₂ t₂ r h
theorem L0_heap (w : World) : absHeap (btOf 4 (L0 w)) 11 (boot_heap w.params).life = boot_heap w.params := by
  have := absHeap_btOf (k := 4) (l := L0 w) (life := (boot_heap w.params).life) (by decide : 11 < 2 ^ 4)
  exact this.trans rfl
theorem L109_heap (w : World) : absHeap (btOf 5 (L109 w)) 29 (boot_heap w.params).life = mkH (bs w) ⟨[], ns0 w, []⟩ := by
  have := absHeap_btOf (k := 5) (l := L109 w) (life := (boot_heap w.params).life) (by decide : 29 < 2 ^ 5)
  exact this.trans rfl
theorem objF_len (w : World) : (objF w).length = (rObjs (ec w) row).length + 3 := by
  unfold objF objG
  simp only [List.length_append, List.length_singleton]
theorem rObjs_len (w : World) : 29 + (rObjs (ec w) row).length = nI := (rowN_is row 29 208 row_ok row_st).trans (Nat.eq_of_beq_eq_true row_N)
theorem A109_len (w : World) : (A109 w).length = 24 := rfl
theorem LB_len (w : World) : (LB w).length = nI + 3 := by
  unfold LB
  rw [List.length_append, A109_len]
  simp only [List.length_cons]
  rw [objF_len]
  have := rObjs_len w
  omega
theorem LB_heap (w : World) : absHeap (btOf 11 (LB w)) (nI + 3) (boot_heap w.params).life = mkH (bs w) ⟨objF w, nsF w, rPl row⟩ := by
  have := absHeap_btOf (k := 11) (l := LB w) (life := (boot_heap w.params).life) (by rw [LB_len]; decide)
  rw [LB_len] at this
  exact this
theorem start_no : blockStart cb cenv = pure () := by kernel_rfl
theorem body_tree : denote treeTable (.body cb cenv) = (execs cb cenv).wrap doneF (leaveH cenv) id id := by
  rw [body_wrap, start_no]
  rfl
noncomputable def stepsT : Nat := 109 + (stepsG row (cst 214) (cst 215) (cst 216) + 492)
theorem run_all (w : World) (os : OsState) : topRun treeTable PP w 11 annV stepsT ⟨boot_heap w.params, Array.mk [], boot_drawn, boot_toks, os⟩ (topStub PP) = some (SF w os).abs := by
  have g1 : segGoT treeTable PP w 11 annV 0 109 (S0 w os) (topStub PP) = some (S109 w os, ⟨denote treeTable (.body cb cenv), .body cb cenv, p109, fr1 w os :: (stk w os).tail⟩) := by
    rw [PySem.W.Fast.te10295753902157049106, PySem.W.Fast.te14364793385576792824, PySem.W.Fast.te11892475500146522536]
    exact go109_is w os
  have r1 := Rn.go (segGo_of g1)
  have e0 : (S0 w os).abs = ⟨boot_heap w.params, Array.mk [], boot_drawn, boot_toks, os⟩ := by
    show (⟨absHeap (btOf 4 (L0 w)) 11 (boot_heap w.params).life, Array.mk [], boot_drawn, boot_toks, os⟩ : Shared) = _
    rw [L0_heap]
  have e1 : (S109 w os).abs = ⟨mkH (bs w) ⟨[], ns0 w, []⟩, Array.mk [], boot_drawn, 208, os⟩ := by
    show (⟨absHeap (btOf 5 (L109 w)) 29 (boot_heap w.params).life, Array.mk [], boot_drawn, 208, os⟩ : Shared) = _
    rw [L109_heap]
  have e2 : (SB w os).abs = ⟨mkH (bs w) ⟨objF w, nsF w, rPl row⟩, Array.mk [], boot_drawn, T3 + 1, os⟩ := by
    show (⟨absHeap (btOf 11 (LB w)) (nI + 3) (boot_heap w.params).life, Array.mk [], boot_drawn, T3 + 1, os⟩ : Shared) = _
    rw [LB_heap]
  rw [e0, e1, body_tree] at r1
  have r2 := (body_run w os).run doneF (leaveH cenv) id id (.body cb cenv) (fr1 w os) (stk w os).tail
  obtain ⟨r, h3, h4⟩ := Option.map_eq_some_iff.mp (fin_is w os)
  have g3 : segRunT treeTable PP w 11 annV 0 492 (SB w os) (thB w os) = some r := by
    rw [PySem.W.Fast.te10110043849684766642, PySem.W.Fast.te14364793385576792824]
    exact h3
  obtain ⟨f, s', c, q⟩ := r
  dsimp only at h4
  subst h4
  have g4 := segRun_of g3
  rw [e2] at g4
  have z := (r1.trans r2) 492 _ g4
  rw [Nat.add_assoc] at z
  exact seg_topRun _ _ _ _ z
noncomputable def wOf (P : Params) : World := ⟨fun _ _ => 0, P⟩
theorem LF_wOf (w : World) : LF (wOf w.params) = LF w := by kernel_rfl
noncomputable def HF (P : Params) : Heap := ⟨(LF (wOf P)).toArray, (boot_heap P).life⟩
theorem LF_len (w : World) : (LF w).length = 1465 := by
  have h1 : (AF w).length = 24 := rfl
  have h2 : (LN w).length = 39 := rfl
  have h3 := rObjs_len w
  have h4 : nI = 1423 := rfl
  unfold LF
  rw [List.length_append, h1]
  simp only [List.length_cons, List.length_append]
  rw [objF_len, h2]
  omega
theorem SF_abs (w : World) (os : OsState) : (SF w os).abs = ⟨HF w.params, Array.mk [], boot_drawn, 2303, os⟩ := by
  show (⟨absHeap (btOf 11 (LF w)) 1465 (boot_heap w.params).life, Array.mk [], boot_drawn, 2303, os⟩ : Shared) = _
  have := absHeap_btOf (k := 11) (l := LF w) (life := (boot_heap w.params).life) (by rw [LF_len]; decide)
  rw [LF_len] at this
  rw [this, ← LF_wOf]
  rfl
theorem open_ok : opening PP = plainProg PP.main.scope.names := by kernel_rfl
theorem fence_ok (s : Shared) : fenceModules? PP s = some s := by kernel_rfl
noncomputable def NN : Nat := 20000
theorem open_is : ∀ w : World, (fencedOpening treeTable PP w NN).map (fun s => (s.heap, s.gens, s.drawn, s.toks)) = some (boot_heap w.params, Array.mk [], boot_drawn, boot_toks) := boot_open open_ok rfl fence_ok
theorem size_is (w : World) : ((boot_heap w.params).isNs mainGlobals && (Array.mk [] : Array GenState).size == 0, (boot_heap w.params).objs.size, (boot_heap w.params).nsMap mainGlobals "__annotations__") = (true, 11, annV) := by kernel_rfl
theorem le_is : Nat.ble stepsT NN = true := by decide +kernel
end
end
section
noncomputable section
noncomputable def kAd : List Addr := [1428, 1427, 3, 1423, 1424, 1425, 29, 36, 35, 43, 42, 50, 49, 57, 56, 71, 70, 78, 77, 92, 91, 106, 105, 99, 98, 148, 147, 162, 161, 169, 168, 176, 175, 183, 182, 190, 189, 197, 196, 204, 203, 225, 224, 239, 238, 246, 245, 295, 294, 330, 329, 337, 336, 344, 343, 358, 357, 652, 651, 911, 910, 1037, 1036, 1030, 1029, 995, 994, 1324, 1323, 722, 721, 848, 847, 1191, 1190, 407, 406, 778, 777, 1058, 1057, 624, 623, 1016, 1015, 1212, 1211, 1240, 1239, 1433, 1434, 1435, 1436, 1437, 1438, 1439, 1440, 1441, 1442, 1443, 1444, 1445, 1446, 1447, 1448, 1449, 1450, 1451, 1452, 1453, 1454, 1455, 1456, 1457, 1458, 1459]
noncomputable def KK (w : World) : Frag := kAd.map fun a => (a, ((LF w)[a]?).getD default)
noncomputable def isNN : Option (Option Value) → Bool
  | some none => true
  | _ => false
noncomputable def isRef (f : Addr) : Option (Option Value) → Bool
  | some (some (.ref a)) => Nat.beq a f
  | _ => false
noncomputable def isInt (i : Int) : Option (Option Value) → Bool
  | some (some (.int j _)) => i == j
  | _ => false
noncomputable def isBi (x : String) : Option (Option Value) → Bool
  | some (some (.builtin y)) => x == y
  | _ => false
noncomputable def fldB (K : Frag) (n : Nat) : Bool := isNN (findIn K (.ref CA) (nm n)) && isNN (takerIn K CA (nm n))
noncomputable def fnB (K : Frag) (n : Nat) (f : Addr) : Bool := isRef f (findIn K (.ref CA) (nm n)) && isFn K (.ref f) && isBi "function.__get__" (specialIn K (.ref f) "__get__") && (match takesIn K (.ref f) with | some false => true | _ => false) && !copiedNames.contains (nm n) && keepIn K (.ref f)
noncomputable def intB (K : Frag) (n : Nat) (i : Int) : Bool := (match findIn K (.ref CA) (nm n) with
  | some (some (.int j t)) => i == j && isNN (specialIn K (.int j t) "__get__")
  | _ => false) && !copiedNames.contains (nm n)
noncomputable def refB (K : Frag) (n : Nat) (a : Addr) : Bool := isRef a (findIn K (.ref CA) (nm n)) && isNN (specialIn K (.ref a) "__get__") && !copiedNames.contains (nm n)
noncomputable def itemAt (K : Frag) (y : Addr) (k : Nat) : Option Value := match K.lookup y with
  | some ⟨.type "list", _, .seq vs _, _⟩ => vs[k]?
  | _ => none
noncomputable def tabB (K : Frag) (k : Nat) (f : Addr) (i j : Int) : Bool := (match itemAt K 1423 k with | some (.ref a) => Nat.beq a f | _ => false) && (match itemAt K 1424 k with | some (.int a _) => a == i | _ => false) && (match itemAt K 1425 k with | some (.int a _) => a == j | _ => false)
theorem isNN_eq : ∀ {x : Option (Option Value)}, isNN x = true → x = some none
  | some none, _ => rfl
  | none, h => by cases h
  | some (some _), h => by cases h
theorem isRef_eq {f : Addr} : ∀ {x : Option (Option Value)}, isRef f x = true → x = some (some (.ref f)) := by
  intro x h
  unfold isRef at h
  split at h
  · rw [Nat.eq_of_beq_eq_true h]
  · cases h
theorem isBi_eq {f : String} : ∀ {x : Option (Option Value)}, isBi f x = true → x = some (some (.builtin f)) := by
  intro x h
  unfold isBi at h
  split at h
  · rw [beq_iff_eq.mp h]
  · cases h
theorem mem_lookup {α β : Type} [BEq α] [LawfulBEq α] {n : α} {i : β} : ∀ {l : List (α × β)}, l.lookup n = some i → (n, i) ∈ l
  | [], h => by cases h
  | (a, b) :: l, h => by
    simp only [List.lookup] at h
    split at h
    · rename_i q; cases h; rw [beq_iff_eq.mp q]; exact .head _
    · exact .tail _ (mem_lookup h)
theorem map_at {α β : Type} {f g : α → β} {x : α} : ∀ {l : List α}, l.map f = l.map g → x ∈ l → f x = g x
  | a :: l, h, hx => by
    simp only [List.map_cons, List.cons.injEq] at h
    rcases List.mem_cons.mp hx with rfl | hx
    · exact h.1
    · exact map_at h.2 hx
theorem itemAt_eq {K : Frag} {y : Addr} {k : Nat} {v : Value} (h : itemAt K y k = some v) : KItem K y k v := by
  unfold itemAt at h
  split at h
  · rename_i d vs n sl ho
    exact ⟨_, vs, n, ho, rfl, rfl, h⟩
  · cases h
theorem tabB_eq {K : Frag} {k : Nat} {f : Addr} {i j : Int} (h : tabB K k f i j = true) : KItem K 1423 k (.ref f) ∧ (∃ t, KItem K 1424 k (.int i t)) ∧ ∃ t, KItem K 1425 k (.int j t) := by
  unfold tabB at h
  simp only [Bool.and_eq_true] at h
  obtain ⟨⟨h1, h2⟩, h3⟩ := h
  refine ⟨?_, ?_, ?_⟩
  · split at h1
    · rename_i a e; rw [Nat.eq_of_beq_eq_true h1] at e; exact itemAt_eq e
    · cases h1
  · split at h2
    · rename_i a t e; rw [beq_iff_eq.mp h2] at e; exact ⟨t, itemAt_eq e⟩
    · cases h2
  · split at h3
    · rename_i a t e; rw [beq_iff_eq.mp h3] at e; exact ⟨t, itemAt_eq e⟩
    · cases h3
noncomputable abbrev intL : List (Nat × Int) := [(17, 65532), (18, 65530), (19, 65534), (20, 128), (21, 64), (22, 32), (23, 16), (24, 8), (25, 4), (26, 2), (27, 1), (28, 8), (29, 16)]
noncomputable abbrev fnL : List (Nat × Addr) := [(33, 36), (34, 43), (35, 50), (36, 57), (37, 71), (38, 78), (39, 92), (40, 106), (41, 99), (42, 148), (43, 162), (44, 169), (45, 176), (46, 183), (47, 190), (48, 197), (49, 204), (50, 225), (51, 239), (52, 246), (53, 295), (54, 330), (55, 337), (56, 344), (57, 358), (58, 652), (59, 911), (60, 1037), (61, 1030), (62, 995), (63, 1324), (64, 722), (65, 848), (66, 1191), (67, 407), (68, 778), (69, 1058), (70, 624), (71, 1016), (72, 1212), (73, 1240)]
noncomputable abbrev ixL : List (Addr × Nat) := [(36, 15), (43, 16), (50, 17), (57, 18), (71, 20), (78, 21), (92, 23), (106, 25), (99, 24), (148, 31), (162, 33), (169, 34), (176, 35), (183, 36), (190, 37), (197, 38), (204, 39), (225, 42), (239, 44), (246, 45), (295, 52), (330, 57), (337, 58), (344, 59), (358, 61), (652, 103), (911, 140), (1037, 158), (1030, 157), (995, 152), (1324, 199), (722, 113), (848, 131), (1191, 180), (407, 68), (778, 121), (1058, 161), (624, 99), (1016, 155), (1212, 183), (1240, 187)]
noncomputable abbrev refL : List (Nat × Addr) := [(30, 1423), (31, 1424), (32, 1425)]
noncomputable abbrev opL : List (Nat × Addr × Int × Int) := [(72, 652, 3, 0), (138, 911, 2, 0), (166, 1037, 3, 0), (165, 1030, 3, 0), (157, 995, 5, 0), (230, 1324, 5, 0), (88, 722, 2, 0), (120, 848, 2, 0), (198, 1191, 5, 0), (9, 407, 2, 0), (104, 778, 4, 0), (170, 1058, 2, 0), (64, 624, 6, 0), (162, 1016, 2, 0), (202, 1212, 2, 0), (208, 1240, 2, 2)]
theorem f_fld (w : World) : (List.range' 1 16).all (fun n => fldB (KK w) n) = true := by kernel_rfl
theorem f_int (w : World) : intL.all (fun x => intB (KK w) x.1 x.2) = true := by kernel_rfl
theorem f_fn (w : World) : fnL.all (fun x => fnB (KK w) x.1 x.2) = true := by kernel_rfl
theorem f_isfn (w : World) : ixL.all (fun x => fnIn (KK w) x.1 && keepIn (KK w) (.ref x.1)) = true := by kernel_rfl
theorem f_ref (w : World) : refL.all (fun x => refB (KK w) x.1 x.2) = true := by kernel_rfl
theorem f_obj (w : World) : ixL.map (fun x => (KK w).lookup x.1) = ixL.map (fun x => some (fobj x.1 x.2 (if x.1 = 36 then .ref 29 else .none))) := by kernel_rfl
theorem f_code (w : World) : ixL.all (fun x => codeIn (KK w) (.ref (x.1 - 1)) ("MPU." ++ sName (cst x.2))) = true := by kernel_rfl
theorem f_tab (w : World) : opL.all (fun x => tabB (KK w) x.1 x.2.1 x.2.2.1 x.2.2.2) = true := by kernel_rfl
theorem f_c1 (w : World) : plainGet (KK w) CA "" = true := by kernel_rfl
theorem f_c2 (w : World) : hasDictIn (KK w) CA = true := by kernel_rfl
theorem f_c3 (w : World) : findIn (KK w) (.ref CA) "__setattr__" = some (some (.builtin "object.__setattr__")) := by kernel_rfl
theorem f_c4 (w : World) : plainOver (KK w) CA = true := by kernel_rfl
theorem kfacts (w : World) : KF (KK w) where
  cls := ⟨f_c1 w, f_c2 w, f_c3 w, f_c4 w⟩
  fld := fun n hn => by
    have hn : 1 ≤ n ∧ n ≤ 16 := of_decide_eq_true hn
    have := List.all_eq_true.mp (f_fld w) n (List.mem_range'_1.mpr (by omega))
    unfold fldB at this
    simp only [Bool.and_eq_true] at this
    exact ⟨isNN_eq this.1, isNN_eq this.2⟩
  int := fun n i h => by
    have := List.all_eq_true.mp (f_int w) (n, i) (mem_lookup h)
    unfold intB at this
    simp only [Bool.and_eq_true, Bool.not_eq_true'] at this
    obtain ⟨h1, h2⟩ := this
    split at h1
    · rename_i j t e
      simp only [Bool.and_eq_true] at h1
      have e1 := beq_iff_eq.mp h1.1
      (try dsimp only at e1 e)
      subst e1
      exact ⟨⟨t, e, isNN_eq h1.2⟩, h2⟩
    · cases h1
  fn := fun n f h => by
    have := List.all_eq_true.mp (f_fn w) (n, f) (mem_lookup h)
    unfold fnB at this
    simp only [Bool.and_eq_true, Bool.not_eq_true'] at this
    obtain ⟨⟨⟨⟨⟨h1, h2⟩, h3⟩, h4⟩, h5⟩, h6⟩ := this
    refine ⟨isRef_eq h1, h2, isBi_eq h3, ?_, h5, h6⟩
    split at h4
    · assumption
    · cases h4
  isfn := fun f i h => by
    have := List.all_eq_true.mp (f_isfn w) (f, i) (mem_lookup h)
    simpa only [Bool.and_eq_true] using this
  ref := fun n a h => by
    have := List.all_eq_true.mp (f_ref w) (n, a) (mem_lookup h)
    unfold refB at this
    simp only [Bool.and_eq_true, Bool.not_eq_true'] at this
    exact ⟨isRef_eq this.1.1, isNN_eq this.1.2, this.2⟩
  obj := fun f i h => map_at (f_obj w) (mem_lookup h)
  code := fun f i h => List.all_eq_true.mp (f_code w) (f, i) (mem_lookup h)
  tab := fun k f i j h => tabB_eq (List.all_eq_true.mp (f_tab w) (k, f, i, j) (mem_lookup h))
theorem f_in (w : World) : kAd.map (fun a => (HF w.params).get? a) = kAd.map (fun a => some (((LF w)[a]?).getD default)) := by kernel_rfl
theorem kk_in {w : World} {h : Heap} (Y : ∀ b o, (HF w.params).get? b = some o → h.get? b = some o) : (KK w).In h := fun a o e => by
  have m := mem_lookup e
  unfold KK at m
  obtain ⟨b, hb, e1⟩ := List.mem_map.mp m
  cases e1
  exact Y _ _ (map_at (f_in w) hb)
end
end
section
set_option profiler true
set_option profiler.threshold 200
noncomputable section
noncomputable def qq : Program := { PP with main := { PP.main with body := [pst 5] } }
noncomputable def loo : List Str := [S "_wall", S "MPU", S "_law_steps"]
noncomputable abbrev SX (P : Params) (os : OsState) : Shared := ⟨HF P, Array.mk [], boot_drawn, 2303, os⟩
theorem k1a (P : Params) : staticsOk (importedModules PP.main.body) (boot_heap P) (HF P) = true := by kernel_rfl
theorem k1b (P : Params) : namesBound PP (HF P) = true := by kernel_rfl
theorem k1c (P : Params) (os : OsState) : gensDone (SX P os) = true := by kernel_rfl
theorem k1d (P : Params) : laidKept (boot_heap P) (HF P) = true := by kernel_rfl
end
end
section
set_option profiler true
set_option profiler.threshold 200
noncomputable section
noncomputable abbrev Xt : Shared → Bool := fun _ => true
theorem ka (P : Params) (os : OsState) : seen ((recsOf qq).map (·.name)) (ownsOf qq) [] { SX P os with gens := #[] } = expectedOf qq := by
  rw [PySem.W.Fast.te5160383126252970620]; kernel_rfl
theorem kb (P : Params) : (HF P).bltView = bltViewBooted := by kernel_rfl
theorem kc (P : Params) (os : OsState) : ((HF P).keysOk (looseW qq loo) ((recsOf qq).map (·.name)) ((litsOf qq).map (·.1)) ((clssOf qq (looseW qq loo)).map (·.name)) && (HF P).accountedOkI (importedModules PP.main.body) && (HF P).isNs mainGlobals && (HF P).isNs builtinsNs && tablesOk qq (HF P) && Xt (SX P os) && (if true then (SX P os).gens.size == 0 else !leftWithCleanup (SX P os).gens)) = true := by
  kernel_rfl
theorem kd (P : Params) (os : OsState) : tabsOk qq (SX P os) = true := by kernel_rfl
theorem ke (P : Params) (os : OsState) : pinSeenD qq (drecsOf qq) (SX P os) = pinGoodD (drecsOf qq) := by kernel_rfl
theorem kf (P : Params) (os : OsState) : plainSeenE qq (looseW qq loo) (SX P os) = plainGoodE qq (looseW qq loo) := by kernel_rfl
theorem kg (P : Params) (os : OsState) : plainSeenD qq loo (SX P os) = plainGoodD qq loo := by kernel_rfl
theorem kh (P : Params) (os : OsState) : wideSeen qq (SX P os) = wideGood qq := by kernel_rfl
theorem ki (P : Params) (os : OsState) : clsSeenW qq loo (SX P os) = clsGoodW qq loo := by kernel_rfl
end
end
section
noncomputable section
theorem left : LeftO PP qq loo Xt (fun s => s.heap) (fun w => HF w.params) NN :=
  LeftO.of_pieces open_is size_is (fun w os => (run_all w os).trans (congrArg some (SF_abs w os))) le_is fun w => funext fun os =>
    looks_pair (look_both (look_both (look_both (k1a w.params) (k1b w.params)) (k1c w.params os)) (k1d w.params))
      (looks_pair (looks_pair (ka w.params os) (looks_pair (kb w.params) (looks_pair (kc w.params os) (looks_pair (kd w.params os) (looks_pair (ke w.params os) (looks_pair (kf w.params os) (looks_pair (kg w.params os) (looks_pair (kh w.params os) (ki w.params os))))))))) rfl)
theorem ok_is : (chainsOk qq && opensWell PP && true) = true := by decide +kernel
end
end
section
theorem said_all : PySem.Challenge.rw_me0006_06.wellSaid = true := by
  rw [PySem.W.Fast.te9446332074065402090]
  decide +kernel
end
section
theorem tw_all : PP.tablesWhole = true := by
  unfold Program.tablesWhole TablesWhole.wProgram
  rw [PySem.W.Fast.te6116379765354995101]
  decide +kernel
end
section
noncomputable section
abbrev RL : OpenLaw := PySem.Challenge.rw_me0006_06
noncomputable def sPos : Stmt → Pos
  | .FunctionDef _ _ _ _ _ _ _ _ _ q => q
  | _ => default
noncomputable abbrev YP (w : World) (h : Heap) : Prop := ∀ b o, (HF w.params).get? b = some o → h.get? b = some o
noncomputable def dL : DefRec := ⟨S "law", sArgs (pst 5), sBody (pst 5), sScope (pst 5), sPos (pst 5)⟩
theorem def_is : defOf qq RL.row.name = some (dL, []) := by kernel_rfl
theorem bare_is : RL.row.prog.bare := ⟨rfl, rfl, rfl, rfl, rfl, tw_all⟩
theorem holds_of_walk (hw : RL.row.toRowW.promised) (walk : WalkO qq loo (fun _ _ => True) YP RL.row.toRowW dL [] fun f vs => PySem.call f vs) : RL.Holds :=
  holds_law said_all fun said => holds_open (q := qq) (loose := loo) (Xt := Xt) (XP := fun _ _ => True) (Yf := fun s => s.heap) (Ya := fun w => HF w.params) (YP := YP) (N := NN) (d := dL) (kwd := []) left
    (fun w s e b o h => by rw [show s.heap = HF w.params from e]; exact h) (fun w h h' y k b o e => k b o (y b o e)) (fun _ _ => trivial) (fun _ _ _ _ _ => trivial) def_is (by kernel_rfl) (by kernel_rfl) (fun s _ => recFacts_nil rfl) rfl said (by decide +kernel) bare_is hw walk
end
end
section
noncomputable section
theorem prom : RL.row.toRowW.promised := by w_witness2
/-- What the law's own frame must be shown to do. -/
noncomputable def LawOk : Prop := ∀ (w : World) (G : Gl) (Φ : Cx G dL.scope) (y : Addr) (ns : List Int), G.K = KK w → Φ.A.depth + 50 < recursionLimit → ns.length ≤ 63 → (∃ vs, Φ.h₀.IsList y vs ∧ IntsL ns vs.toList) → EX nm Φ dL.body ⟨[(81, .ref y)], []⟩ fun fl _ => fl = .ret (.bool true)
set_option maxHeartbeats 4000000 in
theorem walk_of (H : LawOk) : WalkO qq loo (fun _ _ => True) YP RL.row.toRowW dL [] fun f vs => PySem.call f vs := by
  w_on
  intro w s₀ s₁ mg mb G Y fa o pm cd doc dV kV ho hd hcd hD hmg hg args vals as hpre hlay hrd hwl hlo
  refine Ground.open G ?_
  intro T B D TE TW
  have K0 := below_caller (Top.heap T)
  wrow_args hpre hlay hrd hwl hlo
  rename_i ns _ _ _ _ _ _ _ y vs _ hL _ _ _ hI _ hcond _
  refine enter_call ?_
  w_top on
  refine codeAny_mono ?_ (fun _ _ g => GoodW.toG g)
  have he := Dflts.none hD rfl; subst he
  refine call_fullW (by decide) ho hd (Top.nolimit T) hcd (BindsTo.of_eq rfl) (locs rfl) fun h₁ F => ?_
  have hlen : ns.length ≤ 63 := by omega
  let g : Gl := ⟨RL.row.prog, w, KK w, qq, looseW qq loo, ExcName.means s₀.heap, mg, mb, s₁.os⟩
  let Φ : Cx g dL.scope := ⟨callerA, s₁.heap, [], s₁.heap, s₁.heap.objs.size, dL.name, fa, cd, K0, kk_in Y, T, by kernel_rfl, rfl, by decide⟩
  have key := H w g Φ y ns rfl (by show callerA.depth + 1 + 50 < recursionLimit; decide) hlen ⟨vs.toArray, hL, IntsL.of_are (by simpa using hI)⟩
  have S0 : Sim nm Φ ⟨[(81, .ref y)], []⟩ { s₁ with heap := h₁, toks := s₁.toks + 1 } := by
    refine ⟨_, [], F, (fun p hp => (nomatch hp)), trivial, List.nodup_nil, fun k v e => ?_, rfl, hg⟩
    simp only [List.lookup] at e
    cases hk : k == 81 with
    | false => rw [hk] at e; cases e
    | true =>
      rw [hk] at e
      have := beq_iff_eq.mp hk
      subst this
      cases e
      exact ⟨⟨.ref y, by kernel_rfl, rfl⟩, by kernel_rfl⟩
  refine wpAny_mono (key.run _ S0) (fun f s' ⟨a, σ', rf, S', q⟩ => ?_) fun _ _ x => x.elim
  subst q
  obtain ⟨v, rfl, rv⟩ := rf
  cases rv
  obtain ⟨m', news', F', N', H', nd', L', o', g'⟩ := S'
  exact goodW_bool F' g' (fun cls => rfl) (by kernel_rfl) o'
theorem claim_of (H : LawOk) : RL.Holds := holds_of_walk prom (walk_of H)
end
end
section
local macro_rules | `(tactic| close_w) => `(tactic| first
  | (refine isEV ?_; first
    | refine EV_Name nm_ok rfl ?_
    | refine EV_BinOp ?_
    | refine EV_int ?_
    | refine EV_bool ?_
    | refine EV_Sub ?_
    | refine EV_Compare rfl ?_
    | refine EV_IfExp ?_
    | refine EV_List ?_
    | refine EV_Tuple ?_)
  | (refine isBO ?_; first
    | refine BO_add ?_
    | refine BO_sub ?_)
  | (refine isIO ?_; first
    | refine IO_add ?_
    | refine IO_sub ?_)
  | refine thenX_next ?_
  | with_reducible refine EX_cons ?_
  | (refine isEX1 ?_; first
    | refine EX1_Expr ?_ rfl
    | refine EX1_Return ?_
    | refine EX1_Assign ?_ rfl
    | refine EX1_If ?_
    | refine EX1_AssignS ?_ rfl
    | refine EX1_AugN nm_ok rfl ?_)
  | refine ES_cons rfl ?_
  | refine ES_nil ?_
  | refine thenX_ret ?_
  | refine SN_old nm_ok rfl ?_
  | refine SN_new nm_ok (by kernel_rfl) ?_
  | refine TS_Compare rfl ?_
  | refine TS_plain ?_ rfl
  | refine TR_bool ?_
  | refine TR_int ?_
  | (refine isCO ?_; first
    | refine CO_eq ?_
    | refine CO_ne ?_
    | refine CO_lt ?_
    | refine CO_gt ?_
    | refine CO_le ?_
    | refine CO_ge ?_)
  | refine Exists.intro _ (And.intro rfl ?_))
local macro_rules | `(tactic| k_room) => `(tactic| ((try dsimp only); omega))
local macro_rules | `(tactic| kc_close) => `(tactic| first
  | refine PE_Name nm_ok rfl rfl ?_
  | refine PE_int ?_
  | refine PE_IfExp ?_
  | refine PE_mod ?_
  | refine PE_div ?_
  | refine PE_add ?_
  | refine PE_sub ?_
  | refine PE_mul ?_
  | refine PT_gt ?_ rfl
  | refine Exists.intro _ (And.intro rfl ?_)
  | refine And.intro trivial ?_
  | refine And.intro (And.intro (by decide) (PyProof.noPylong_small (by decide))) ?_
  | refine And.intro (by decide) ?_)
local macro_rules | `(tactic| k_all) => `(tactic| repeat (first | exact trivial | refine And.intro rfl ?_))
local macro_rules | `(tactic| k_mem) => `(tactic| repeat (first | exact List.Sublist.slnil | refine List.Sublist.cons_cons _ ?_ | refine List.Sublist.cons _ ?_))
section
noncomputable section
noncomputable def lb (k : Nat) : List Stmt := dL.body.drop k
theorem EX_step {N : Nat → Str} {G : Gl} {cs : Scope} {Φ : Cx G cs} {σ : St} {ss : List Stmt} {st : Stmt} {rest : List Stmt} {Q : Fl → St → Prop} (e : ss = st :: rest) (h : EX1 N Φ st σ fun f σ' => ThenX f (EX N Φ rest σ' Q) (Q f σ')) : EX N Φ ss σ Q := by
  subst e; exact EX_cons h
noncomputable def hsteps : List (List Int) := [[72], [138], [72], [166, 64], [165, 65], [157, 0, 6], [230, 64], [230, 65], [88], [230, 51], [230, 51], [230, 51], [230, 51], [230, 51], [230, 51], [120], [198, 65], [166, 64], [165, 65], [9, 128], [157, 0, 6], [230, 64], [104], [170], [104], [64]]
noncomputable def hstep (i : Nat) : List Int := hsteps.getD i []
/-- A list that the top has made, as it was made. -/
noncomputable def KList (K : Frag) (y : Addr) (P : List Value → Prop) : Prop := ∃ o vs n, K.lookup y = some o ∧ o.cls = .type "list" ∧ o.data = .seq vs n ∧ P vs.toList
/-- What the law's own walk asks of the written heap. -/
structure KL (K : Frag) : Prop where
  kf : KF K
  mpu : nsIn K mainGlobals (nm 96) = some (some (.ref CA))
  steps : nsIn K mainGlobals (nm 86) = some (some (.ref 1459))
  len : nsIn K mainGlobals (nm 105) = some none
  enum : nsIn K mainGlobals (nm 95) = some none
  sum : nsIn K mainGlobals (nm 110) = some none
  min : nsIn K mainGlobals (nm 112) = some none
  keep : keepIn K (.ref CA) = true
  makes : makesIn K CA = true
  init : findIn K (.ref CA) "__init__" = some (some (.ref 36))
  initfn : isFn K (.ref 36) = true
  dflt : ∃ o t n, K.lookup 29 = some o ∧ o.data = .seq #[.none, .int 0 t] n
  stepsL : KList K 1459 (RepL ((List.range' 1433 26).map .ref))
  stepL : ∀ i, i < 26 → KList K (1433 + i) (IntsL (hstep i))
section
variable {G : Gl} {Φ : Cx G dL.scope} {σ : St} {y : Addr} {ns : List Int} {Q : Fl → St → Prop}
noncomputable def sd (ns : List Int) : List Int := (ns.take 4).map (fun i => Int.fmod i 65536) ++ [((ns.take 64).length : Int) + 5]
theorem sz {n : Nat} (h : n ≤ 1000000) : n ≤ sizeLine := by show _ ≤ 2 ^ 24; omega
theorem EV_lenN (H : KL G.K) {pos : Pos} {Q : AV → St → Prop} (h : Q (.known (.builtin "len")) σ) : EV nm Φ (.Name (nm 105) pos) σ Q := EV_GlobB nm_ok (by kernel_rfl) H.len (a := .known (.builtin "len")) (v := .builtin "len") (by kernel_rfl) (by decide +kernel) ⟨rfl, rfl⟩ h
theorem EV_sumN (H : KL G.K) {pos : Pos} {Q : AV → St → Prop} (h : Q (.known (.builtin "sum")) σ) : EV nm Φ (.Name (nm 110) pos) σ Q := EV_GlobB nm_ok (by kernel_rfl) H.sum (a := .known (.builtin "sum")) (v := .builtin "sum") (by kernel_rfl) (by decide +kernel) ⟨rfl, rfl⟩ h
theorem EV_enumN (H : KL G.K) {pos : Pos} {Q : AV → St → Prop} (h : Q (.known (.type "enumerate")) σ) : EV nm Φ (.Name (nm 95) pos) σ Q := EV_GlobB nm_ok (by kernel_rfl) H.enum (a := .known (.type "enumerate")) (v := .type "enumerate") (by kernel_rfl) (by decide +kernel) ⟨rfl, rfl⟩ h
theorem EV_mpuN (H : KL G.K) {pos : Pos} {Q : AV → St → Prop} (h : Q (.ref CA) σ) : EV nm Φ (.Name (nm 96) pos) σ Q := EV_GlobK (a := .ref CA) nm_ok (by kernel_rfl) H.mpu rfl h
theorem EV_stepsN (H : KL G.K) {pos : Pos} {Q : AV → St → Prop} (h : Q (.ref 1459) σ) : EV nm Φ (.Name (nm 86) pos) σ Q := EV_GlobK (a := .ref 1459) nm_ok (by kernel_rfl) H.steps rfl h
/-- len(x) of a list of ints. -/
theorem EV_lenC (H : KL G.K) {e : Expr} {p pos : Pos} {Q : AV → St → Prop} (hst : starEach [e] Φ.env = (false, eval e Φ.env) :: starEach [] Φ.env)
    (he : eval (.Call (.Name (nm 105) p) [e] [] pos) Φ.env = (do callWith pos (← eval (.Name (nm 105) p) Φ.env) [] (backTo pos (starEach [e] Φ.env)) (backToKw pos (keywordEach [] Φ.env))))
    (h : EV nm Φ e σ fun a σ₁ => ∃ y l, a = .ref y ∧ LstAt Φ σ₁ y l ∧ l.length ≤ 1000000 ∧ Q (.int l.length) σ₁) : EV nm Φ (.Call (.Name (nm 105) p) [e] [] pos) σ Q :=
  EV_bcall (EV_lenN H ⟨_, rfl, ES_cons hst (h.mono fun a σ₁ ⟨y, l, ea, hy, hz, q⟩ => ES_nil (by subst ea; exact BC_lenL hy (by omega) q))⟩) hst rfl he
theorem lw0 (H : KL G.K) (hn : ns.length ≤ 63) (hy : ∃ vs, Φ.h₀.IsList y vs ∧ IntsL ns vs.toList) (h : ∀ q, EX nm Φ (lb 1) ⟨[(83, .ref q), (81, .ref y)], [(q, .ints (sd ns))]⟩ Q) : EX nm Φ (lb 0) ⟨[(81, .ref y)], []⟩ Q := by
  refine EX_step (rest := lb 1) rfl ?_
  kpf_close
  close_w
  close_w
  refine EV_comp (fun i => Int.fmod i 65536) nm_ok (by decide +kernel) (by decide +kernel) rfl (by decide +kernel) (by kernel_rfl) (fun _ => rfl) ?_
  refine EV_slice ?_
  close_w
  refine SP_none (SP_some ?_)
  close_w
  refine ⟨4, rfl, y, ns, rfl, .inr (.inr hy), sz (by omega), (by decide : (0 : Int) ≤ 4), fun q₁ => ?_⟩
  refine ⟨q₁, cut ns none (some 4), rfl, .inl (.head _), sz (by have := cut_length ns none (some 4); omega), fun i _ C => ?_, fun q₂ => ?_⟩
  · refine PE_mod (PE_Name nm_ok rfl rfl ⟨i, rfl, PE_int ⟨65536, rfl, by decide, rfl⟩⟩)
  dsimp only [List.nil_append, List.cons_append]
  close_w
  close_w
  close_w
  refine EV_lenC H rfl rfl ?_
  refine EV_slice ?_
  close_w
  refine SP_none (SP_some ?_)
  close_w
  refine ⟨64, rfl, y, ns, rfl, .inr (.inr hy), sz (by omega), (by decide : (0 : Int) ≤ 64), fun q₃ => ?_⟩
  dsimp only [List.nil_append, List.cons_append]
  refine ⟨q₃, cut ns none (some 64), rfl, .inl (by simp), by have := cut_length ns none (some 64); omega, ?_⟩
  repeat close_w
  refine ⟨sz (by simp), fun q₄ => ?_⟩
  dsimp only [List.nil_append, List.cons_append]
  refine BO_catL (l := List.map (fun i => Int.fmod i 65536) (cut ns none (some 4))) (r := [((cut ns none (some 64)).length : Int) + 5]) (.inr (.inl (by simp))) (.inl (by simp)) (sz (by simp only [List.length_map, List.length_singleton]; have := cut_length ns none (some 4); omega)) fun q₅ => ?_
  dsimp only [List.nil_append, List.cons_append]
  repeat close_w
  refine EX_forget (fun k v e => e) ?_ (h q₅)
  exact .cons _ (.cons _ (.cons _ (.cons _ (.refl _))))
end
end
end
section
noncomputable section
/-- Names and objects that are no more asked for are forgotten. -/
noncomputable def LkAll (loc : List (Nat × AV)) : List (Nat × AV) → Prop
  | [] => True
  | p :: r => loc.lookup p.1 = some p.2 ∧ LkAll loc r
theorem LkAll.get {loc : List (Nat × AV)} : ∀ {loc' : List (Nat × AV)}, LkAll loc loc' → ∀ k v, loc'.lookup k = some v → loc.lookup k = some v
  | [], _, _, _, e => by cases e
  | p :: r, h, k, v, e => by
    simp only [List.lookup] at e
    split at e
    · rename_i q
      have q := beq_iff_eq.mp q
      cases e
      rw [q]
      exact h.1
    · exact h.2.get k v e
theorem EX_norm {N : Nat → Str} {G : Gl} {cs : Scope} {Φ : Cx G cs} {ss : List Stmt} {loc hp : _} (loc' : List (Nat × AV)) (hp' : List (Addr × AO)) {Q : Fl → St → Prop} (hl : LkAll loc loc') (p : hp'.Sublist hp) (h : EX N Φ ss ⟨loc', hp'⟩ Q) : EX N Φ ss ⟨loc, hp⟩ Q := EX_forget hl.get p h
theorem EX1_AssignBT {N : Nat → Str} {G : Gl} {cs : Scope} {Φ : Cx G cs} {σ : St} {elts es : List Expr} {k k' : Nat} {tpos vpos pos : Pos} {ns : List Nat} {Q : Fl → St → Prop} (hs : swapsWithSole [.Tuple elts k tpos] (.Tuple es k' vpos) pos.line Φ.env = pure false) (hw : swappedStores [.Tuple elts k tpos] (.Tuple es k' vpos) Φ.env = pure (some (ns.map N)))
    (h : ES N Φ es σ fun as σ₁ => ns.length = as.length ∧ as.length ≤ 1000 ∧ ∀ t, BN N Φ ns.reverse as.reverse ⟨σ₁.loc, σ₁.hp ++ [(t, .tup as)]⟩ (Q .next)) : EX1 N Φ (.Assign [.Tuple elts k tpos] (.Tuple es k' vpos) pos) σ Q :=
  EX1_AssignB hs hw (EV_Tuple (.mk fun pos s S => wpAny_mono (h.run pos s S) (fun vs s₁ ⟨as, σ₁, r, S₁, e1, e2, q⟩ => ⟨as, σ₁, r, S₁, sz (by omega), fun t => ⟨t, as, rfl, by simp, e1, q t⟩⟩) fun _ _ x => x))
theorem EX1_AssignTT {N : Nat → Str} {G : Gl} {cs : Scope} {Φ : Cx G cs} {σ : St} {elts es : List Expr} {k k' : Nat} {tpos vpos pos : Pos} {Q : Fl → St → Prop} (hs : swapsWithSole [.Tuple elts k tpos] (.Tuple es k' vpos) pos.line Φ.env = pure false) (hw : swappedStores [.Tuple elts k tpos] (.Tuple es k' vpos) Φ.env = pure none) (hstar : (assignEach elts Φ.env).findIdx? (·.1) = none)
    (h : ES N Φ es σ fun as σ₁ => (assignEach elts Φ.env).length = as.length ∧ as.length ≤ 1000 ∧ ∀ t, AI N Φ elts as ⟨σ₁.loc, σ₁.hp ++ [(t, .tup as)]⟩ (Q .next)) : EX1 N Φ (.Assign [.Tuple elts k tpos] (.Tuple es k' vpos) pos) σ Q :=
  EX1_AssignT hs hw hstar (EV_Tuple (.mk fun pos s S => wpAny_mono (h.run pos s S) (fun vs s₁ ⟨as, σ₁, r, S₁, e1, e2, q⟩ => ⟨as, σ₁, r, S₁, sz (by omega), fun t => ⟨t, as, rfl, by simp, e1, q t⟩⟩) fun _ _ x => x))
section
variable {G : Gl} {Φ : Cx G dL.scope} {σ : St} {y : Addr} {ns : List Int} {Q : Fl → St → Prop} {l : List Int} {s0 : Int} {r : Nat} {q ym : Addr}
theorem lw1 (hl : l[0]? = some s0) (hr : 4 + Int.fmod s0 8 = (r : Int)) (h : EX nm Φ (lb 2) ⟨[(84, .int r), (83, .ref q), (81, .ref y)], [(q, .ints l)]⟩ Q) : EX nm Φ (lb 1) ⟨[(83, .ref q), (81, .ref y)], [(q, .ints l)]⟩ Q := by
  refine EX_step (rest := lb 2) rfl ?_
  kpf_close
  repeat close_w
  refine GI_ints (.head _) (by decide) (by decide) hl ?_ (fun _ _ => rfl)
  repeat close_w
  refine BO_mod (by decide) ?_
  repeat close_w
  rw [hr]
  repeat close_w
  exact h
theorem lw2 (h : ∀ ym, EX nm Φ (lb 3) ⟨[(9, .ref ym), (84, .int r), (83, .ref q), (81, .ref y)], [(q, .ints l), (ym, .ints (List.replicate 65536 0))]⟩ Q) : EX nm Φ (lb 2) ⟨[(84, .int r), (83, .ref q), (81, .ref y)], [(q, .ints l)]⟩ Q := by
  refine EX_step (rest := lb 3) rfl ?_
  kpf_close
  repeat close_w
  refine ⟨sz (by simp), fun q₁ => ?_⟩
  dsimp only [List.nil_append, List.cons_append]
  repeat close_w
  refine BO_rep (z := 0) (by simp) (by decide) (by decide) fun ym => ?_
  dsimp only [List.nil_append, List.cons_append]
  repeat close_w
  refine EX_norm [(9, .ref ym), (84, .int r), (83, .ref q), (81, .ref y)] [(q, .ints l), (ym, .ints (List.replicate 65536 0))] ⟨rfl, rfl, rfl, rfl, trivial⟩ (.cons_cons _ (.cons _ (.refl _))) (h ym)
theorem lw3 {m : List Int} (h : ∀ pl, EX nm Φ (lb 4) ⟨[(91, .ref pl), (92, .int 49152), (9, .ref ym), (84, .int r), (83, .ref q), (81, .ref y)], [(q, .ints l), (ym, .ints m), (pl, .ints [])]⟩ Q) : EX nm Φ (lb 3) ⟨[(9, .ref ym), (84, .int r), (83, .ref q), (81, .ref y)], [(q, .ints l), (ym, .ints m)]⟩ Q := by
  refine EX_step (rest := lb 4) rfl ?_
  kpf_close
  refine EX1_AssignBT (ns := [91, 92]) rfl (by kernel_rfl) ?_
  repeat close_w
  refine ⟨sz (by simp), fun pl => ?_⟩
  dsimp only [List.nil_append, List.cons_append]
  repeat close_w
  refine ⟨rfl, by simp, fun t => ?_⟩
  dsimp only [List.nil_append, List.cons_append, List.reverse_cons, List.reverse_nil]
  refine BN_cons ?_
  close_w
  refine BN_cons ?_
  close_w
  refine BN_nil ?_
  repeat close_w
  refine EX_norm [(91, .ref pl), (92, .int 49152), (9, .ref ym), (84, .int r), (83, .ref q), (81, .ref y)] [(q, .ints l), (ym, .ints m), (pl, .ints [])] ⟨rfl, rfl, rfl, rfl, rfl, rfl, trivial⟩ (.cons_cons _ (.cons_cons _ (.cons_cons _ (.cons _ (.refl _))))) (h pl)
end
end
end
section
noncomputable section
theorem KList.at_ {G : Gl} {cs : Scope} {Φ : Cx G cs} {y : Addr} {P : List Value → Prop} (h : KList G.K y P) : ∃ vs, Φ.h₀.IsList y vs ∧ P vs.toList := by
  obtain ⟨o, vs, n, h1, h2, h3, h4⟩ := h
  exact ⟨vs, ⟨o, Φ.X _ _ h1, h2, n, h3⟩, h4⟩
noncomputable def hoff (i : Nat) : Nat := hpc i - 49152
/-- The memory when n octets of the handler's are stored. -/
noncomputable def putH : Nat → List Int
  | 0 => List.replicate 65536 0
  | n + 1 => (putH n).set (49152 + n) (hcode.getD n 0)
theorem putH_len : ∀ n, (putH n).length = 65536
  | 0 => List.length_replicate
  | n + 1 => by rw [putH, List.length_set]; exact putH_len n
theorem hcode_step : ∀ i, i < 26 → ∀ j, j < (hstep i).length → hcode[hoff i + j]? = (hstep i)[j]? := by decide +kernel
theorem hoff_next : ∀ i, i < 26 → (if i = 25 then 45 else hoff (i + 1)) = hoff i + (hstep i).length := by decide +kernel
theorem hoff_le : ∀ i, i < 26 → hoff i + (hstep i).length ≤ 45 ∧ hpc i = 49152 + hoff i := by decide +kernel
noncomputable def hend (i : Nat) : Nat := if i = 26 then 45 else hoff i
theorem hend_next {i : Nat} (h : i < 26) : hend (i + 1) = hoff i + (hstep i).length := by
  rw [← hoff_next i h]
  unfold hend
  by_cases e : i = 25
  · rw [if_pos (by omega), if_pos e]
  · rw [if_neg (by omega), if_neg e]
theorem hend_lt {i : Nat} (h : i < 26) : hend i = hoff i := by unfold hend; rw [if_neg (by omega)]
noncomputable def hplaces (i : Nat) : List Int := (hpcs.take i).map fun n : Nat => (n : Int)
theorem hplaces_next : ∀ i, i < 26 → hplaces (i + 1) = hplaces i ++ [((49152 + hoff i : Nat) : Int)] := by decide +kernel
section
variable {G : Gl} {Φ : Cx G dL.scope} {σ : St} {y : Addr} {ns : List Int} {Q : Fl → St → Prop} {l : List Int} {s0 : Int} {r : Nat} {q ym pl : Addr}
theorem lw4 (H : KL G.K) (h : EX nm Φ (lb 5) ⟨[(92, .int (49152 + 45)), (91, .ref pl), (9, .ref ym), (84, .int r), (83, .ref q), (81, .ref y)], [(q, .ints l), (ym, .ints (putH 45)), (pl, .ints (hplaces 26))]⟩ Q) :
    EX nm Φ (lb 4) ⟨[(91, .ref pl), (92, .int 49152), (9, .ref ym), (84, .int r), (83, .ref q), (81, .ref y)], [(q, .ints l), (ym, .ints (List.replicate 65536 0)), (pl, .ints [])]⟩ Q := by
  refine EX_norm [(92, .int 49152), (91, .ref pl), (9, .ref ym), (84, .int r), (83, .ref q), (81, .ref y)] _ ⟨rfl, rfl, rfl, rfl, rfl, rfl, trivial⟩ (.refl _) ?_
  refine EX_step (rest := lb 5) rfl ?_
  kpf_close
  refine EX1_For front front_perm (fun _ => rfl) (fun _ _ => rfl) ?_
  refine EV_stepsN H ⟨1459, _, rfl, fun i σ => σ = ⟨[(92, .int ((49152 + hend i : Nat) : Int)), (91, .ref pl), (9, .ref ym), (84, .int r), (83, .ref q), (81, .ref y)], [(q, .ints l), (ym, .ints (putH (hend i))), (pl, .ints (hplaces i))]⟩, by kernel_rfl, fun i σ _ => .inr H.stepsL.at_, fun σ e => ?_, fun i a σ it hi e => ?_⟩
  · subst e
    refine thenX_next ?_
    exact h
  · subst e
    have hi' : i < 26 := by have := (List.getElem?_eq_some_iff.mp hi).1; simpa using this
    have ea : a = .ref (1433 + i) := by
      rw [List.getElem?_map, List.getElem?_range' (by omega)] at hi
      simp only [Option.map_some, Option.some.injEq] at hi
      rw [← hi, Nat.one_mul]
    subst ea
    have hl0 := (hoff_le i hi').1
    rw [hend_lt hi']
    refine AS_Name ?_
    close_w
    refine EX_cons ?_
    refine isEX1 (EX1_Expr ?_ rfl)
    refine EV_append rfl rfl ⟨_, rfl⟩ ?_
    close_w
    refine ⟨pl, hplaces i, rfl, by simp [front], ?_⟩
    close_w
    refine ⟨_, _, _, rfl, .tail (.tail (.tail .head)), sz (by unfold hplaces; simp; omega), ?_⟩
    rw [← hplaces_next i hi']
    close_w
    refine EX_norm [(92, .int ((49152 + hoff i : Nat) : Int)), (85, .ref (1433 + i)), (91, .ref pl), (9, .ref ym), (84, .int r), (83, .ref q), (81, .ref y)] _ ⟨rfl, rfl, rfl, rfl, rfl, rfl, rfl, trivial⟩ (.refl _) ?_
    refine EX_cons ?_
    refine EX1_For front front_perm (fun _ => rfl) (fun _ _ => rfl) ?_
    close_w
    refine ⟨1433 + i, (hstep i).map .int, rfl, fun j σ => σ = ⟨[(92, .int ((49152 + (hoff i + j) : Nat) : Int)), (85, .ref (1433 + i)), (91, .ref pl), (9, .ref ym), (84, .int r), (83, .ref q), (81, .ref y)], front (it, .iter 1459 (i + 1)) [(q, .ints l), (ym, .ints (putH (hoff i + j))), (pl, .ints (hplaces (i + 1)))]⟩, by simp only [Nat.add_zero, front], fun j σ _ => ?_, fun σ e => ?_, fun j a σ it2 hj e => ?_⟩
    · obtain ⟨vs, hv, hr⟩ := (H.stepL i hi').at_ (Φ := Φ)
      exact .inr ⟨vs, hv, hr.rep⟩
    · subst e
      refine thenX_next ?_
      refine EX_norm [(92, .int ((49152 + hend (i + 1) : Nat) : Int)), (91, .ref pl), (9, .ref ym), (84, .int r), (83, .ref q), (81, .ref y)] (front (it, .iter 1459 (i + 1)) [(q, .ints l), (ym, .ints (putH (hend (i + 1)))), (pl, .ints (hplaces (i + 1)))]) ⟨?_, rfl, rfl, rfl, rfl, rfl, trivial⟩ ?_ (EX_nil ⟨_, rfl, rfl⟩)
      · rw [hend_next hi', List.length_map]; rfl
      · rw [hend_next hi', List.length_map]; exact .refl _
    · subst e
      obtain ⟨z, hz, rfl⟩ : ∃ z, (hstep i)[j]? = some z ∧ a = .int z := by
        rw [List.getElem?_map] at hj
        obtain ⟨z, h1, h2⟩ := Option.map_eq_some_iff.mp hj
        exact ⟨z, h1, h2.symm⟩
      have hj' : j < (hstep i).length := (List.getElem?_eq_some_iff.mp hz).1
      have hc := hcode_step i hi' j hj'
      rw [hz] at hc
      refine AS_Name ?_
      close_w
      refine EX_cons ?_
      refine isEX1 (EX1_AssignS ?_ rfl)
      repeat close_w
      refine SI_ints (.tail (.tail (.tail .head))) (by omega) (by omega) (by rw [putH_len]; omega) ?_
      have ep : putH (hoff i + (j + 1)) = (putH (hoff i + j)).set (49152 + (hoff i + j)) z := by
        rw [← Nat.add_assoc]
        show (putH (hoff i + j)).set _ (hcode.getD (hoff i + j) 0) = _
        rw [List.getD_eq_getElem?_getD, hc]; rfl
      rw [Int.toNat_natCast, ← ep]
      repeat close_w
      refine EX_norm [(92, .int ((49152 + (hoff i + (j + 1)) : Nat) : Int)), (85, .ref (1433 + i)), (91, .ref pl), (9, .ref ym), (84, .int r), (83, .ref q), (81, .ref y)] (front (it2, .iter (1433 + i) (j + 1)) (front (it, .iter 1459 (i + 1)) [(q, .ints l), (ym, .ints (putH (hoff i + (j + 1)))), (pl, .ints (hplaces (i + 1)))])) ⟨?_, rfl, rfl, rfl, rfl, rfl, rfl, trivial⟩ (.refl _) (EX_nil ⟨_, rfl, rfl⟩)
      show some (AV.int _) = some (AV.int _)
      congr 2
end
end
end
section
noncomputable section
section
variable {G : Gl} {Φ : Cx G dL.scope} {σ : St} {y : Addr} {ns : List Int} {Q : Fl → St → Prop} {l m : List Int} {s0 : Int} {r : Nat} {q ym pl : Addr} {ap : Int} {ps : List Int}
theorem lw5 (H : KL G.K) (hm : m.length = 65536) (h : EX nm Φ (lb 6) ⟨[(91, .ref pl), (9, .ref ym), (84, .int r), (83, .ref q), (81, .ref y)], [(q, .ints l), (ym, .ints ((m.set 65534 0).set 65535 192)), (pl, .ints ps)]⟩ Q) :
    EX nm Φ (lb 5) ⟨[(92, .int ap), (91, .ref pl), (9, .ref ym), (84, .int r), (83, .ref q), (81, .ref y)], [(q, .ints l), (ym, .ints m), (pl, .ints ps)]⟩ Q := by
  refine EX_step (rest := lb 6) rfl ?_
  kpf_close
  refine EX1_AssignTT rfl (by kernel_rfl) rfl ?_
  repeat close_w
  refine ⟨rfl, by simp, fun t => ?_⟩
  dsimp only [List.nil_append, List.cons_append]
  refine AI_cons rfl (AS_Sub ?_)
  close_w
  close_w
  refine SI_ints (.tail .head) (by decide) (by decide) (by rw [hm]; decide) ?_
  refine AI_cons rfl (AS_Sub ?_)
  close_w
  close_w
  refine SI_ints (.tail .head) (by decide) (by decide) (by rw [List.length_set, hm]; decide) ?_
  refine AI_nil ?_
  close_w
  refine EX_norm [(91, .ref pl), (9, .ref ym), (84, .int r), (83, .ref q), (81, .ref y)] [(q, .ints l), (ym, .ints ((m.set 65534 0).set 65535 192)), (pl, .ints ps)] ⟨rfl, rfl, rfl, rfl, rfl, trivial⟩ (.cons_cons _ (.cons_cons _ (.cons_cons _ (.cons _ (.refl _))))) h
/-- The main program's octets are stored. -/
noncomputable def mainc (r : Nat) : List Int := [162, (r : Int), 230, 50, 202, 208, 251]
noncomputable def putM (m : List Int) (r : Nat) : Nat → List Int
  | 0 => m
  | n + 1 => (putM m r n).set (512 + n) ((mainc r).getD n 0)
theorem putM_len (m : List Int) (r : Nat) : ∀ n, (putM m r n).length = m.length
  | 0 => rfl
  | n + 1 => by
    show ((putM m r n).set _ _).length = _
    rw [List.length_set]; exact putM_len m r n
noncomputable def front2 (p q : Addr × AO) (l : List (Addr × AO)) : List (Addr × AO) := p :: q :: l
theorem front2_perm (p q : Addr × AO) (l : List (Addr × AO)) : (front2 p q l).Perm (p :: q :: l) := .refl _
theorem lw6 (H : KL G.K) (hm : m.length = 65536) (h : EX nm Φ (lb 7) ⟨[(91, .ref pl), (9, .ref ym), (84, .int r), (83, .ref q), (81, .ref y)], [(q, .ints l), (ym, .ints (putM m r 7)), (pl, .ints ps)]⟩ Q) :
    EX nm Φ (lb 6) ⟨[(91, .ref pl), (9, .ref ym), (84, .int r), (83, .ref q), (81, .ref y)], [(q, .ints l), (ym, .ints m), (pl, .ints ps)]⟩ Q := by
  refine EX_step (rest := lb 7) rfl ?_
  kpf_close
  refine EX1_ForE front2 front2_perm (fun _ => rfl) rfl rfl ?_
  refine EV_tcall (EV_enumN H ⟨_, rfl, ?_⟩) rfl rfl rfl
  repeat close_w
  refine ⟨sz (by simp), fun q₁ => ?_⟩
  dsimp only [List.nil_append, List.cons_append]
  repeat close_w
  refine TC_enum (l := mainc r) (.inl (by simp [mainc])) fun e it => ?_
  refine ⟨e, it, q₁, mainc r, ⟨[(91, .ref pl), (9, .ref ym), (84, .int r), (83, .ref q), (81, .ref y)], [(q, .ints l), (ym, .ints m), (pl, .ints ps), (q₁, .ints (mainc r))]⟩, rfl, rfl, fun i σ => σ = ⟨[(91, .ref pl), (9, .ref ym), (84, .int r), (83, .ref q), (81, .ref y)], [(q, .ints l), (ym, .ints (putM m r i)), (pl, .ints ps), (q₁, .ints (mainc r))]⟩, rfl, fun i σ e => ?_, fun σ e => ?_, fun i z σ hz e => ?_⟩
  · subst e
    exact .inl (by simp)
  · subst e
    refine thenX_next ?_
    exact EX_norm [(91, .ref pl), (9, .ref ym), (84, .int r), (83, .ref q), (81, .ref y)] [(q, .ints l), (ym, .ints (putM m r 7)), (pl, .ints ps)] ⟨rfl, rfl, rfl, rfl, rfl, trivial⟩ (.cons_cons _ (.cons_cons _ (.cons_cons _ (.cons _ (.refl _))))) h
  · subst e
    have hi : i < 7 := (List.getElem?_eq_some_iff.mp hz).1
    refine AI_cons rfl (AS_Name ?_)
    close_w
    refine AI_cons rfl (AS_Name ?_)
    close_w
    refine AI_nil ?_
    refine EX_cons ?_
    refine isEX1 (EX1_AssignS ?_ rfl)
    repeat close_w
    refine SI_ints (.tail (.tail (.tail .head))) (by omega) (by omega) (by rw [putM_len]; omega) ?_
    have ep : putM m r (i + 1) = (putM m r i).set (512 + i) z := by
      show (putM m r i).set _ ((mainc r).getD i 0) = _
      rw [List.getD_eq_getElem?_getD, hz]; rfl
    rw [show ((512 : Int) + (i : Int)).toNat = 512 + i by omega, ← ep]
    close_w
    exact EX_norm [(91, .ref pl), (9, .ref ym), (84, .int r), (83, .ref q), (81, .ref y)] (front2 (e, .enum it (i + 1)) (it, .iter q₁ (i + 1)) [(q, .ints l), (ym, .ints (putM m r (i + 1))), (pl, .ints ps), (q₁, .ints (mainc r))]) ⟨rfl, rfl, rfl, rfl, rfl, trivial⟩ (.refl _) (EX_nil ⟨_, rfl, rfl⟩)
theorem lw7 (H : KL G.K) (hm : m.length = 65536) (h : ∀ pn, EX nm Φ (lb 8) ⟨[(87, .ref pn), (91, .ref pl), (9, .ref ym), (84, .int r), (83, .ref q), (81, .ref y)], [(ym, .ints m), (q, .ints l), (pl, .ints ps), (pn, .ints m)]⟩ Q) :
    EX nm Φ (lb 7) ⟨[(91, .ref pl), (9, .ref ym), (84, .int r), (83, .ref q), (81, .ref y)], [(q, .ints l), (ym, .ints m), (pl, .ints ps)]⟩ Q := by
  refine EX_step (rest := lb 8) rfl ?_
  kpf_close
  close_w
  refine EV_slice ?_
  close_w
  refine SP_none (SP_none ?_)
  refine ⟨ym, m, rfl, .inl (by simp), sz (by omega), trivial, fun pn => ?_⟩
  dsimp only [List.nil_append, List.cons_append]
  repeat close_w
  exact EX_perm (.swap _ _ _) (h pn)
/-- The machine is made. -/
theorem lw8 (H : KL G.K) (hd : Φ.A.depth + 50 < recursionLimit) {rest : List (Addr × AO)} {loc : List (Nat × AV)} (hl : loc.lookup 9 = some (.ref ym))
    (h : ∀ x d, EX nm Φ (lb 9) ⟨(88, .ref x) :: loc, hpOf x d ym (cpu0 512 m) rest⟩ Q) :
    EX nm Φ (lb 8) ⟨loc, (ym, .ints m) :: rest⟩ Q := by
  obtain ⟨o29, t29, n29, d1, d2⟩ := H.dflt
  refine EX_step (rest := lb 9) rfl ?_
  kpf_close
  close_w
  refine EV_new (ns := [0, 9, 11]) (kn := ["memory", "pc"]) nm_ok H.keep H.makes H.init H.initfn (H.kf.obj 36 15 rfl) (H.kf.code 36 15 rfl) (by omega) ?_ rfl (fun as vs r e => r.length.trans e) rfl rfl (by decide +kernel) (by decide) rfl rfl rfl (by decide +kernel) rfl ?_
  · intro s v vs hk hv
    match vs, hv with
    | [a, b], _ => exact BindsTo.of_defaults rfl (hk _ _ d1) d2 rfl rfl
  refine EV_mpuN H ⟨rfl, ?_⟩
  refine KW_cons ?_
  refine EV_Name nm_ok hl ?_
  refine KW_cons ?_
  close_w
  refine KW_nil ⟨rfl, fun x dx Φ' hdep => ?_⟩
  refine x_init H.kf Φ' (by omega) fun loc' => ⟨rfl, ?_⟩
  repeat close_w
  exact h x dx
end
end
end
section
noncomputable section
section
variable {G : Gl} {Φ : Cx G dL.scope} {σ : St} {y : Addr} {ns : List Int} {Q : Fl → St → Prop} {l m : List Int} {s0 : Int} {r : Nat} {q ym pl x d pn : Addr} {c : Cpu} {ps : List Int} {a0 y0 p0 : Int}
noncomputable def loc8 (x pn pl ym : Addr) (r : Nat) (q y : Addr) : List (Nat × AV) := [(88, .ref x), (87, .ref pn), (91, .ref pl), (9, .ref ym), (84, .int r), (83, .ref q), (81, .ref y)]
theorem lw9 (hl : l[0]? = some s0) (ha : Int.fmod (Int.fdiv s0 3) 256 = a0) (hy : Int.fmod (Int.fdiv s0 5) 256 = y0) (hp : 48 + Int.fmod s0 2 + 8 * Int.fmod (Int.fdiv s0 2) 2 + 64 * Int.fmod (Int.fdiv s0 4) 2 = p0)
    (h : EX nm Φ (lb 10) ⟨(13, .int a0) :: (15, .int y0) :: (16, .int p0) :: loc8 x pn pl ym r q y, hpOf x d ym c [(q, .ints l), (pl, .ints ps), (pn, .ints m)]⟩ Q) :
    EX nm Φ (lb 9) ⟨loc8 x pn pl ym r q y, hpOf x d ym c [(q, .ints l), (pl, .ints ps), (pn, .ints m)]⟩ Q := by
  have hq : (q, AO.ints l) ∈ (⟨loc8 x pn pl ym r q y, hpOf x d ym c [(q, .ints l), (pl, .ints ps), (pn, .ints m)]⟩ : St).hp := hp_rest (.head _)
  have i0 : ∀ {value slice : Expr} {Q : AV → St → Prop}, Q (.int s0) ⟨loc8 x pn pl ym r q y, hpOf x d ym c [(q, .ints l), (pl, .ints ps), (pn, .ints m)]⟩ → (∀ o i, subscripted slice false o i = operate [o, i] (getItem o i)) → GI nm Φ value slice (.ref q) (.int 0) ⟨loc8 x pn pl ym r q y, hpOf x d ym c [(q, .ints l), (pl, .ints ps), (pn, .ints m)]⟩ Q :=
    fun h hs => GI_ints hq (by decide) (by decide) hl h hs
  refine EX_step (rest := lb 10) rfl ?_
  kpf_close
  refine EX1_AssignBT (ns := [13, 15, 16]) rfl (by kernel_rfl) ?_
  repeat close_w
  refine i0 ?_ (fun _ _ => rfl)
  repeat close_w
  refine BO_div (by decide) (PyProof.noPylong_small (by decide)) ?_
  repeat close_w
  refine BO_mod (by decide) ?_
  repeat close_w
  refine i0 ?_ (fun _ _ => rfl)
  repeat close_w
  refine BO_div (by decide) (PyProof.noPylong_small (by decide)) ?_
  repeat close_w
  refine BO_mod (by decide) ?_
  repeat close_w
  refine i0 ?_ (fun _ _ => rfl)
  repeat close_w
  refine BO_mod (by decide) ?_
  repeat close_w
  refine i0 ?_ (fun _ _ => rfl)
  repeat close_w
  refine BO_div (by decide) (PyProof.noPylong_small (by decide)) ?_
  repeat close_w
  refine BO_mod (by decide) ?_
  repeat close_w
  refine BO_mul (IntMulOk.of_left (by decide)) ?_
  repeat close_w
  refine i0 ?_ (fun _ _ => rfl)
  repeat close_w
  refine BO_div (by decide) (PyProof.noPylong_small (by decide)) ?_
  repeat close_w
  refine BO_mod (by decide) ?_
  repeat close_w
  refine BO_mul (IntMulOk.of_left (by decide)) ?_
  repeat close_w
  refine ⟨rfl, by simp, fun t => ?_⟩
  dsimp only [List.nil_append, List.cons_append, List.reverse_cons, List.reverse_nil]
  rw [ha, hy, hp]
  refine BN_cons ?_
  close_w
  refine BN_cons ?_
  close_w
  refine BN_cons ?_
  close_w
  refine BN_nil ?_
  repeat close_w
  refine EX_norm _ (hpOf x d ym c [(q, .ints l), (pl, .ints ps), (pn, .ints m)]) ?_ ?_ h
  · unfold loc8; k_all
  · unfold hpOf; dsimp only [List.cons_append, List.nil_append]; k_mem
theorem lw10 (H : KL G.K) (h : EX nm Φ (lb 11) ⟨(13, .int a0) :: (15, .int y0) :: (16, .int p0) :: loc8 x pn pl ym r q y, hpOf x d ym { c with a := a0, y := y0, p := p0 } [(q, .ints l), (pl, .ints ps), (pn, .ints m)]⟩ Q) :
    EX nm Φ (lb 10) ⟨(13, .int a0) :: (15, .int y0) :: (16, .int p0) :: loc8 x pn pl ym r q y, hpOf x d ym c [(q, .ints l), (pl, .ints ps), (pn, .ints m)]⟩ Q := by
  refine EX_step (rest := lb 11) rfl ?_
  kpf_close
  refine EX1_AssignTT rfl (by kernel_rfl) rfl ?_
  repeat close_w
  refine ⟨rfl, by simp, fun t => ?_⟩
  show AI _ _ _ _ ⟨_, hpOf x d ym c [(q, .ints l), (pl, .ints ps), (pn, .ints m), (t, .tup [.int a0, .int y0, .int p0])]⟩ _
  refine AI_cons rfl (AS_Attr ?_)
  close_w
  refine SA_fl H.kf rfl ?_
  refine AI_cons rfl (AS_Attr ?_)
  close_w
  refine SA_fl H.kf rfl ?_
  refine AI_cons rfl (AS_Attr ?_)
  close_w
  refine SA_fl H.kf rfl ?_
  refine AI_nil ?_
  close_w
  refine EX_norm _ _ ?_ ?_ h
  · unfold loc8; k_all
  · unfold hpOf; k_mem
noncomputable def waitF (i : Nat) (z : Int) : Int := if Int.fmod (z + i) 3 > 0 then 9 + Int.fmod (Int.fdiv z 2) 8 else 1 + Int.fmod (Int.fdiv z 3) 30
theorem lw11 (H : KL G.K) (hl : l.length ≤ 1000) (h : ∀ wt, EX nm Φ (lb 12) ⟨(89, .ref wt) :: (13, .int a0) :: (15, .int y0) :: (16, .int p0) :: loc8 x pn pl ym r q y, hpOf x d ym c [(q, .ints l), (pl, .ints ps), (pn, .ints m), (wt, .wints (enumd waitF l l.length))]⟩ Q) :
    EX nm Φ (lb 11) ⟨(13, .int a0) :: (15, .int y0) :: (16, .int p0) :: loc8 x pn pl ym r q y, hpOf x d ym c [(q, .ints l), (pl, .ints ps), (pn, .ints m)]⟩ Q := by
  refine EX_step (rest := lb 12) rfl ?_
  kpf_close
  refine EX1_AssignCompE waitF nm_ok (by kernel_rfl) (by kernel_rfl) (by decide +kernel) (by decide +kernel) rfl (by decide +kernel) (by kernel_rfl) (by kernel_rfl) (fun _ => rfl) ?_
  refine EV_tcall (EV_enumN H ⟨_, rfl, ?_⟩) rfl rfl rfl
  repeat close_w
  refine TC_enum (l := l) (.inl (hp_rest (.head _))) fun e it => ?_
  refine ⟨e, it, q, l, ⟨_, _⟩, rfl, rfl, .inl (hp_rest (.head _)), hl, fun i z hz C => ?_, fun wt => ?_⟩
  · refine PE_IfExp ?_
    repeat kc_close
    refine ⟨fun e => ?_, fun e => ?_⟩
    · have e := of_decide_eq_true e
      repeat kc_close
      unfold waitF; rw [if_pos e]
    · have e := of_decide_eq_false e
      repeat kc_close
      unfold waitF; rw [if_neg e]
  · close_w
    exact h wt
theorem lw12 {W : List Int} {wt : Addr} (H : KL G.K) (hl : l[0]? = some s0) (hW : 0 < W.length) (h : EX nm Φ (lb 13) ⟨(89, .ref wt) :: (13, .int a0) :: (15, .int y0) :: (16, .int p0) :: loc8 x pn pl ym r q y, hpOf x d ym c [(q, .ints l), (pl, .ints ps), (pn, .ints m), (wt, .wints (W.set 0 (1 + Int.fmod s0 4)))]⟩ Q) :
    EX nm Φ (lb 12) ⟨(89, .ref wt) :: (13, .int a0) :: (15, .int y0) :: (16, .int p0) :: loc8 x pn pl ym r q y, hpOf x d ym c [(q, .ints l), (pl, .ints ps), (pn, .ints m), (wt, .wints W)]⟩ Q := by
  refine EX_step (rest := lb 13) rfl ?_
  kpf_close
  repeat close_w
  refine GI_ints (hp_rest (.head _)) (by decide) (by decide) hl ?_ (fun _ _ => rfl)
  repeat close_w
  refine BO_mod (by decide) ?_
  repeat close_w
  refine SI_w (.tail (.tail (.tail (.tail (.tail (.tail .head)))))) (by decide) (by decide) (by omega) ?_
  close_w
  exact h
theorem lw13 {W : List Int} {w0 : Int} {wt : Addr} (H : KL G.K) (hW : W[0]? = some w0) (h : EX nm Φ (lb 14) ⟨(97, .int 0) :: (98, .int w0) :: (99, .int 0) :: (100, .int 0) :: (89, .ref wt) :: (13, .int a0) :: (15, .int y0) :: (16, .int p0) :: loc8 x pn pl ym r q y, hpOf x d ym c [(q, .ints l), (pl, .ints ps), (pn, .ints m), (wt, .wints W)]⟩ Q) :
    EX nm Φ (lb 13) ⟨(89, .ref wt) :: (13, .int a0) :: (15, .int y0) :: (16, .int p0) :: loc8 x pn pl ym r q y, hpOf x d ym c [(q, .ints l), (pl, .ints ps), (pn, .ints m), (wt, .wints W)]⟩ Q := by
  refine EX_step (rest := lb 14) rfl ?_
  kpf_close
  refine EX1_AssignTT rfl (by kernel_rfl) rfl ?_
  repeat close_w
  refine GI_intsL (.inr (.inl (hp_rest (.tail _ (.tail _ (.tail _ (.head _))))))) (by decide) (by decide) hW ?_ (fun _ _ => rfl)
  repeat close_w
  refine ⟨rfl, by simp, fun t => ?_⟩
  refine AI_cons rfl (AS_Name ?_)
  close_w
  refine AI_cons rfl (AS_Name ?_)
  close_w
  refine AI_cons rfl (AS_Name ?_)
  close_w
  refine AI_cons rfl (AS_Name ?_)
  close_w
  refine AI_nil ?_
  close_w
  refine EX_norm _ _ ?_ ?_ h
  · unfold loc8; k_all
  · unfold hpOf; dsimp only [List.cons_append, List.nil_append]; k_mem
theorem lw14 {W : List Int} {w0 : Int} {wt : Addr} (H : KL G.K) (h : ∀ oo wo, EX nm Φ (lb 15) ⟨(101, .ref oo) :: (90, .ref wo) :: (97, .int 0) :: (98, .int w0) :: (99, .int 0) :: (100, .int 0) :: (89, .ref wt) :: (13, .int a0) :: (15, .int y0) :: (16, .int p0) :: loc8 x pn pl ym r q y, hpOf x d ym c [(pl, .ints ps), (pn, .ints m), (wt, .wints W), (oo, .ints []), (wo, .ints [])]⟩ Q) :
    EX nm Φ (lb 14) ⟨(97, .int 0) :: (98, .int w0) :: (99, .int 0) :: (100, .int 0) :: (89, .ref wt) :: (13, .int a0) :: (15, .int y0) :: (16, .int p0) :: loc8 x pn pl ym r q y, hpOf x d ym c [(q, .ints l), (pl, .ints ps), (pn, .ints m), (wt, .wints W)]⟩ Q := by
  refine EX_step (rest := lb 15) rfl ?_
  kpf_close
  refine EX1_AssignBT (ns := [101, 90]) rfl (by kernel_rfl) ?_
  repeat close_w
  refine ⟨sz (by simp), fun oo => ?_⟩
  dsimp only [List.nil_append, List.cons_append]
  repeat close_w
  refine ⟨sz (by simp), fun wo => ?_⟩
  dsimp only [List.nil_append, List.cons_append]
  repeat close_w
  refine ⟨rfl, by simp, fun t => ?_⟩
  dsimp only [List.nil_append, List.cons_append, List.reverse_cons, List.reverse_nil]
  refine BN_cons ?_
  close_w
  refine BN_cons ?_
  close_w
  refine BN_nil ?_
  repeat close_w
  refine EX_norm _ _ ?_ ?_ (h oo wo)
  · unfold loc8; k_all
  · unfold hpOf; dsimp only [List.cons_append, List.nil_append]; k_mem
end
end
end
section
noncomputable section
noncomputable def wstmt : Stmt := (lb 15).head!
noncomputable def wbody : List Stmt := match (lb 15) with
  | .While _ b _ _ :: _ => b
  | _ => []
noncomputable def wb (k : Nat) : List Stmt := wbody.drop k
noncomputable def opn (fs : List Nat) : List Int := fs.reverse.map fun n : Nat => (n : Int)
theorem opn_len (fs : List Nat) : (opn fs).length = fs.length := by unfold opn; simp
theorem opn_cons (d : Nat) (t : List Nat) : opn (d :: t) = opn t ++ [(d : Int)] := by unfold opn; simp
theorem opn_last (d : Nat) (t : List Nat) : (opn (d :: t))[((-1 : Int) + ((opn (d :: t)).length : Nat)).toNat]? = some (d : Int) := by
  rw [opn_cons]
  have : ((-1 : Int) + (((opn t ++ [(d : Int)]).length : Nat) : Int)).toNat = (opn t).length := by rw [List.length_append, List.length_singleton]; omega
  rw [this, List.getElem?_append_right (Nat.le_refl _), Nat.sub_self]; rfl
/-- The names and objects of the loop. -/
structure WV where
  oo : Addr
  wo : Addr
  wt : Addr
  x : Addr
  d : Addr
  pn : Addr
  pl : Addr
  ym : Addr
  q : Addr
  y : Addr
  a0 : Nat
  y0 : Int
  p0 : Nat
  r : Nat
  m : List Int
  W : List Int
noncomputable def wloc (v : WV) (called : Nat) (wait : Int) (main taken : Nat) : List (Nat × AV) :=
  [(97, .int called), (98, .int wait), (99, .int main), (100, .int taken), (101, .ref v.oo), (90, .ref v.wo), (89, .ref v.wt), (13, .int v.a0), (15, .int v.y0), (16, .int v.p0), (88, .ref v.x), (87, .ref v.pn), (91, .ref v.pl), (9, .ref v.ym), (84, .int v.r), (83, .ref v.q), (81, .ref v.y)]
noncomputable def whp (v : WV) (c : Cpu) (fs : List Nat) (word : List Int) : List (Addr × AO) := hpOf v.x v.d v.ym c [(v.pl, .ints (hplaces 26)), (v.pn, .ints v.m), (v.wt, .wints v.W), (v.oo, .ints (opn fs)), (v.wo, .ints word)]
section
variable {G : Gl} {Φ : Cx G dL.scope} {Q : Fl → St → Prop} {v : WV} {called main taken : Nat} {wait : Int} {c : Cpu} {fs : List Nat} {word : List Int} {g : Rg}
theorem oo_in : (v.oo, AO.ints (opn fs)) ∈ (⟨wloc v called wait main taken, whp v c fs word⟩ : St).hp := hp_rest (.tail _ (.tail _ (.tail _ (.head _))))
theorem wb1 (h : EX nm Φ (wb 2) ⟨wloc v called (wait - 1) main taken, whp v c fs word⟩ Q) : EX nm Φ (wb 1) ⟨wloc v called wait main taken, whp v c fs word⟩ Q := by
  refine EX_step (rest := wb 2) rfl ?_
  kpf_close
  repeat close_w
  refine EX_norm _ _ ?_ (.refl _) h
  unfold wloc; k_all
theorem len_oo (H : KL G.K) {σ : St} {p p' pos : Pos} {R : AV → St → Prop} (hl : σ.loc.lookup 101 = some (.ref v.oo)) (hm : (v.oo, AO.ints (opn fs)) ∈ σ.hp) (hfs : fs.length ≤ 1000) (h : R (.int (fs.length : Int)) σ) :
    EV nm Φ (.Call (.Name (nm 105) p) [.Name (nm 101) p'] [] pos) σ R := by
  refine EV_lenC H rfl rfl (EV_Name nm_ok hl ⟨v.oo, opn fs, rfl, .inl hm, by rw [opn_len]; omega, ?_⟩)
  rw [opn_len]; exact h
noncomputable def ibody : List Stmt := match wb 0 with
  | .If _ b _ _ :: _ => b
  | _ => []
noncomputable def ib (k : Nat) : List Stmt := ibody.drop k
noncomputable def isFree (fs : List Nat) : Prop := ∀ d, fs.head? = some d → 9 ≤ d ∧ d ≤ 15
theorem free_ev (H : KL G.K) {σ : St} {p1 p2 p3 p4 p5 p6 p7 p8 p9 p10 p11 p12 p13 : Pos} {k1 k2 k3 k4 : Nat} {R : AV → St → Prop} (hl : σ.loc.lookup 101 = some (.ref v.oo)) (hm : (v.oo, AO.ints (opn fs)) ∈ σ.hp) (hfs : fs.length ≤ 1000) (h : ∀ b, (b = true ↔ isFree fs) → R (.bool b) σ) :
    EV nm Φ (.BoolOp .Or [.Compare (.Call (.Name (nm 105) p1) [.Name (nm 101) p2] [] p3) [.Eq] [.Constant (.int 0) k1 p4] p5, .Compare (.Constant (.int 9) k2 p6) [.LtE, .LtE] [.Subscript (.Name (nm 101) p7) (.UnaryOp .USub (.Constant (.int 1) k3 p8) p9) p10, .Constant (.int 15) k4 p11] p12] p13) σ R := by
  refine EV_or ?_
  refine EV_Compare rfl (len_oo (v := v) H hl hm hfs ?_)
  repeat close_w
  cases fs with
  | nil => exact if_both (fun _ => h true ⟨fun _ d e => (nomatch e), fun _ => rfl⟩) fun e => nomatch e
  | cons d t =>
    refine if_both (fun e => ?_) (fun e => ?_)
    · simp only [List.length_cons, beq_iff_eq] at e; omega
    refine EV_bool_one ?_
    refine EV_chain rfl ?_
    repeat close_w
    refine EV_Name nm_ok hl ?_
    refine EV_USub ?_
    repeat close_w
    refine GI_neg hm (by decide) (by rw [opn_len, List.length_cons]; omega) (by decide) (opn_last d t) ?_ (fun _ _ => rfl)
    repeat close_w
    refine if_both (fun e => ?_) (fun e => ?_)
    · have e := of_decide_eq_true e
      repeat close_w
      refine h _ ⟨fun e' d' he => ?_, fun q => ?_⟩
      · cases he
        have := of_decide_eq_true e'
        omega
      · have := q d rfl
        exact decide_eq_true (by omega)
    · have e := of_decide_eq_false e
      refine h _ ⟨fun e' => ?_, fun q => ?_⟩
      · rw [decide_eq_false e] at e'; cases e'
      · have := q d rfl; omega
/-- What follows a call. -/
theorem wtail (H : KL G.K) {b : Bool} (hcl : called < v.W.length) (hW5 : v.W.length ≤ 5) (h : ∀ wait', EX nm Φ (wb 1) ⟨wloc v (called + 1) wait' main taken, whp v c fs word⟩ Q) :
    EX nm Φ (ib 3) ⟨(103, .bool b) :: wloc v called wait main taken, whp v c fs word⟩ fun f σ' => ThenX f (EX nm Φ (wb 1) σ' Q) (Q f σ') := by
  have hwt : ∀ {loc}, (v.wt, AO.wints v.W) ∈ (⟨loc, whp v c fs word⟩ : St).hp := hp_rest (.tail _ (.tail _ (.head _)))
  refine EX_step (rest := ib 4) rfl ?_
  kpf_close
  repeat close_w
  refine EX_step (rest := []) rfl ?_
  kpf_close
  refine EX1_If ?_
  repeat close_w
  refine EV_lenC H rfl rfl ?_
  repeat close_w
  refine ⟨v.wt, v.W, rfl, .inr (.inl hwt), by omega, ?_⟩
  repeat close_w
  refine if_both (fun e => ?_) (fun e => ?_)
  · have e := of_decide_eq_true e
    repeat close_w
    refine GI_intsL (l := v.W) (z := v.W[called + 1]'(by omega)) (.inr (.inl hwt)) (by omega) (by omega) ?_ ?_ (fun _ _ => rfl)
    · rw [show ((called : Int) + 1).toNat = called + 1 by omega]; exact List.getElem?_eq_getElem _
    repeat close_w
    refine EX_nil (thenX_next (EX_nil (thenX_next ?_)))
    refine EX_norm _ _ ?_ (.refl _) (h (v.W[called + 1]'(by omega)))
    unfold wloc; k_all
  · refine EX_nil (thenX_next (EX_nil (thenX_next ?_)))
    refine EX_norm _ _ ?_ (.refl _) (h wait)
    unfold wloc; k_all
/-- The first condition and the call of irq. -/
theorem wb0 (H : KL G.K) (hd : Φ.A.depth + 50 < recursionLimit) (pl : List Int) (P : Plain v.r pl) (Z : P0 v.p0) (ha : v.a0 < 256) (hr : v.r < 12) (hV : Vw c g) (I : LInv v.r v.a0 v.p0 v.y0 pl main taken fs word g) (hm : main < 1 + 3 * v.r) (htc : taken ≤ called) (hcW : called ≤ v.W.length) (hW5 : v.W.length ≤ 5)
    (h : ∀ called' wait' taken' fs' c' g', Vw c' g' → LInv v.r v.a0 v.p0 v.y0 pl main taken' fs' word g' → taken' ≤ called' → called' ≤ v.W.length → (called' = called ∧ fs' = fs ∨ called' = called + 1 ∧ fs' = fs ∨ called' = called + 1 ∧ fs' = 0 :: fs) → EX nm Φ (wb 1) ⟨wloc v called' wait' main taken', whp v c' fs' word⟩ Q) :
    EX nm Φ (wb 0) ⟨wloc v called wait main taken, whp v c fs word⟩ Q := by
  have hfl : fs.length ≤ 5 := by have := I.hl; have := I.ht; omega
  have skip : EX nm Φ [] ⟨wloc v called wait main taken, whp v c fs word⟩ fun f σ' => ThenX f (EX nm Φ (wb 1) σ' Q) (Q f σ') :=
    EX_nil (thenX_next (h called wait taken fs c g hV I htc hcW (.inl ⟨rfl, rfl⟩)))
  refine EX_step (rest := wb 1) rfl ?_
  kpf_close
  refine EX1_If (TS_and ?_)
  repeat close_w
  refine EV_lenC H rfl rfl ?_
  repeat close_w
  refine ⟨v.wt, v.W, rfl, .inr (.inl (hp_rest (.tail _ (.tail _ (.head _))))), by omega, ?_⟩
  repeat close_w
  refine if_both (fun e => ?_) (fun e => if_both (fun q => nomatch q) fun _ => skip)
  have hcl : called < v.W.length := by have := of_decide_eq_true e; omega
  refine TS_and ?_
  repeat close_w
  refine if_both (fun _ => ?_) (fun _ => if_both (fun q => nomatch q) fun _ => skip)
  refine TS_and_nil ?_
  refine if_both (fun _ => ?_) (fun q => nomatch q)
  -- free = ..
  refine EX_cons ?_
  refine EX1_Assign ?_ rfl
  refine free_ev (v := v) (fs := fs) H rfl oo_in (by omega) fun b hb => ?_
  repeat close_w
  refine EV_mcall0 ⟨_, rfl⟩ ?_
  close_w
  refine GM_c H.kf rfl rfl ?_
  by_cases hf : isFree fs
  · have eb : b = true := hb.mpr hf
    subst eb
    obtain ⟨g2, hI, I2⟩ := I.irq H.kf P Z ha hr (by omega) hm hf
    refine hI.run rfl hV (by omega) fun c2 hV2 => ?_
    close_w
    refine EX_cons ?_
    refine EX1_If ?_
    repeat close_w
    refine if_both (fun _ => ?_) (fun q => nomatch q)
    refine EX_cons ?_
    refine EX1_Expr ?_ rfl
    refine EV_append rfl rfl ⟨_, rfl⟩ ?_
    close_w
    refine ⟨v.oo, opn fs, rfl, hp_rest (.tail _ (.tail _ (.tail _ (.head _)))), ?_⟩
    close_w
    refine ⟨(0 : Int), opn fs, whp v c2 (0 :: fs) word, rfl, ?_, sz (by rw [opn_len]; omega), ?_⟩
    · have := opn_cons 0 fs
      show Rpl v.oo (.ints (opn fs)) (.ints (opn fs ++ [((0 : Nat) : Int)])) _ _
      rw [← this]
      exact .tail (.tail (.tail (.tail (.tail (.tail .head)))))
    repeat close_w
    refine EX_nil (thenX_next ?_)
    refine EX_norm ((103, .bool true) :: wloc v called wait main (taken + 1)) (whp v c2 (0 :: fs) word) ?_ (.refl _) ?_
    · unfold wloc; k_all
    exact wtail H hcl hW5 fun wait' => h (called + 1) wait' (taken + 1) (0 :: fs) c2 g2 hV2 I2 (by omega) (by omega) (.inr (.inr ⟨rfl, rfl⟩))
  · have eb : b = false := by
      cases b with
      | false => rfl
      | true => exact absurd (hb.mp rfl) hf
    subst eb
    obtain ⟨d, t, rfl⟩ : ∃ d t, fs = d :: t := by
      cases fs with
      | nil => exact absurd (fun d e => (nomatch e)) hf
      | cons d t => exact ⟨d, t, rfl⟩
    have hI := I.shut H.kf fun q => hf fun e he => by cases he; exact q
    refine hI.run rfl hV (by omega) fun c2 hV2 => ?_
    close_w
    refine EX_cons ?_
    refine EX1_If ?_
    repeat close_w
    refine if_both (fun q => nomatch q) fun _ => ?_
    refine EX_nil (thenX_next ?_)
    exact wtail H hcl hW5 fun wait' => h (called + 1) wait' taken (d :: t) c2 g hV2 I (by omega) (by omega) (.inr (.inl ⟨rfl, rfl⟩))
end
end
end
section
noncomputable section
section
variable {G : Gl} {Φ : Cx G dL.scope} {Q : Fl → St → Prop} {v : WV} {called main taken : Nat} {wait : Int} {c : Cpu} {fs : List Nat} {word : List Int} {g : Rg}
/-- Where the machine is told to stand. -/
noncomputable def standsF (main : Nat) : List Nat → Nat
  | [] => stands main
  | d :: _ => hpc d
theorem fmod3 {m : Nat} (h : m ≠ 0) : Int.fmod ((m : Int) - 1) 3 = ((m - 1) % 3 : Nat) := by
  rw [Int.fmod_eq_emod_of_nonneg _ (by decide)]; omega
theorem hplaces_at : ∀ d, d < 26 → (hplaces 26)[d]? = some (hpc d : Int) := by decide +kernel
theorem wb2 (H : KL G.K) (hfl : fs.length ≤ 5) (hd : ∀ d ∈ fs, d < 26) (h : EX nm Φ (wb 3) ⟨(104, .int (standsF main fs)) :: wloc v called wait main taken, whp v c fs word⟩ Q) :
    EX nm Φ (wb 2) ⟨wloc v called wait main taken, whp v c fs word⟩ Q := by
  refine EX_step (rest := wb 3) rfl ?_
  kpf_close
  refine EX1_If (TS_Compare rfl ?_)
  refine len_oo (v := v) (fs := fs) H rfl oo_in (by omega) ?_
  repeat close_w
  cases fs with
  | nil =>
    refine if_both (fun _ => ?_) (fun q => nomatch q)
    refine EX_cons ?_
    refine EX1_Assign ?_ rfl
    refine EV_IfExp ?_
    repeat close_w
    by_cases hm : main = 0
    · subst hm
      refine if_both (fun _ => ?_) (fun q => nomatch q)
      repeat close_w
      exact EX_nil (thenX_next h)
    · refine if_both (fun q => ?_) (fun _ => ?_)
      · simp at q; exact absurd q hm
      repeat close_w
      refine ⟨sz (by simp), fun q => ?_⟩
      repeat close_w
      refine BO_mod (by decide) ?_
      rw [fmod3 hm]
      have e : ([514, 516, 517] : List Int)[(((main - 1) % 3 : Nat) : Int).toNat]? = some (stands main : Int) := by
        rw [Int.toNat_natCast]
        unfold stands
        rw [if_neg hm]
        have h3 : (main - 1) % 3 < 3 := by omega
        revert h3
        generalize (main - 1) % 3 = k
        intro h3
        match k, h3 with
        | 0, _ => rfl
        | 1, _ => rfl
        | 2, _ => rfl
      refine GI_ints (l := [514, 516, 517]) (List.mem_append_right _ (.head _)) (by omega) (by omega) e ?_ (fun _ _ => rfl)
      repeat close_w
      refine EX_nil (thenX_next ?_)
      refine EX_norm _ _ ?_ ?_ h
      · unfold wloc; k_all
      · exact List.sublist_append_left _ _
  | cons d t =>
    refine if_both (fun e => ?_) (fun _ => ?_)
    · simp only [List.length_cons, beq_iff_eq] at e; omega
    have h26 : d < 26 := hd d (.head _)
    repeat close_w
    refine EV_USub ?_
    repeat close_w
    refine GI_neg oo_in (by decide) (by rw [opn_len, List.length_cons]; omega) (by decide) (opn_last d t) ?_ (fun _ _ => rfl)
    refine GI_ints (l := hplaces 26) (hp_rest (.head _)) (by omega) (by omega) (by rw [Int.toNat_natCast]; exact hplaces_at d h26) ?_ (fun _ _ => rfl)
    repeat close_w
    exact EX_nil (thenX_next h)
noncomputable def fF (z : Int) : Int := 5 - (spo z.toNat : Int)
theorem pick1 : ∀ d : Nat, d < 26 → ([0, 1, 1, 2] : List Int)[(if (3 : Int) < (d : Int) then (3 : Int) else (d : Int)).toNat]? = some (([0, 1, 1, 2] : List Int).getD (min d 3) 0) := by decide +kernel
theorem pick2 : ∀ d : Nat, d < 26 → 22 < d → ([0, 0, 0, 1, 1, 2] : List Int)[((d : Int) - 20).toNat]? = some (([0, 0, 0, 1, 1, 2] : List Int).getD (d - 20) 0) := by decide +kernel
theorem fF1 : ∀ d : Nat, d < 26 → 22 < d → 3 + ([0, 1, 1, 2] : List Int).getD (min d 3) 0 - ([0, 0, 0, 1, 1, 2] : List Int).getD (d - 20) 0 = fF (d : Int) := by decide +kernel
theorem fF2 : ∀ d : Nat, d < 26 → ¬ 22 < d → 3 + ([0, 1, 1, 2] : List Int).getD (min d 3) 0 - 0 = fF (d : Int) := by decide +kernel
theorem fF_mid : ∀ d : Nat, d < 16 → 9 ≤ d → fF (d : Int) = 5 := by decide +kernel
theorem spo_le : ∀ d : Nat, d < 26 → spo d ≤ 2 := by decide +kernel
theorem sum_map_append (f : Int → Int) (l r : List Int) : ((l ++ r).map f).sum = (l.map f).sum + (r.map f).sum := by rw [List.map_append, List.sum_append]
theorem sum_mid : ∀ t : List Nat, (∀ d ∈ t, 9 ≤ d ∧ d ≤ 15) → ((opn t).map fF).sum = 5 * (t.length : Int)
  | [], _ => rfl
  | d :: t, h => by
    have ih := sum_mid t fun e he => h e (.tail _ he)
    have hd := h d (.head _)
    rw [opn_cons, sum_map_append, ih]
    simp only [List.map_cons, List.map_nil, List.sum_cons, List.sum_nil, List.length_cons]
    rw [fF_mid d (by omega) (by omega)]
    omega
theorem sum_all {d : Nat} {t : List Nat} (h : ∀ e ∈ t, 9 ≤ e ∧ e ≤ 15) : ((opn (d :: t)).map fF).sum = 5 * (t.length : Int) + 5 - (spo d : Int) := by
  rw [opn_cons, sum_map_append, sum_mid t h]
  simp only [List.map_cons, List.map_nil, List.sum_cons, List.sum_nil, fF, Int.toNat_natCast]
  omega
theorem stands_sp {K : Frag} {r a0 p0 : Nat} {y0 : Int} {pl : List Int} (I : LInv r a0 p0 y0 pl main taken fs word g) (hm : main < 1 + 3 * r) : g.pc = standsF main fs ∧ (g.sp : Int) = 255 - ((opn fs).map fF).sum := by
  cases fs with
  | nil => obtain ⟨h1, h2⟩ := I.pos0 hm; rw [h2]; exact ⟨h1, rfl⟩
  | cons d t =>
    obtain ⟨h1, h2⟩ := I.pos
    refine ⟨h1, ?_⟩
    rw [sum_all (d := d) (t := t) I.tl]
    omega
theorem oo_mem : (v.oo, AO.ints (opn fs)) ∈ whp v c fs word := hp_rest (loc := []) (x := v.x) (d := v.d) (y := v.ym) (c := c) (.tail _ (.tail _ (.tail _ (.head _))))
theorem wb3 (H : KL G.K) (hdep : Φ.A.depth + 50 < recursionLimit) {pl : List Int} (hV : Vw c g) (I : LInv v.r v.a0 v.p0 v.y0 pl main taken fs word g) (hm : main < 1 + 3 * v.r) (h : EX nm Φ (wb 4) ⟨wloc v called wait main taken, whp v c fs word⟩ Q) :
    EX nm Φ (wb 3) ⟨(104, .int (standsF main fs)) :: wloc v called wait main taken, whp v c fs word⟩ Q := by
  have hfl : fs.length ≤ 5 := by have := I.hl; have := I.ht; omega
  have pos := stands_sp (K := G.K) I hm
  refine EX_step (rest := wb 4) rfl ?_
  kpf_close
  refine EX1_If (TS_Compare rfl ?_)
  refine EV_Tuple ?_
  refine ES_cons rfl (EV_Attribute ?_ rfl)
  close_w
  refine GA_fl H.kf rfl rfl ?_
  refine ES_cons rfl (EV_Attribute ?_ rfl)
  close_w
  refine GA_fl H.kf rfl rfl ?_
  refine ES_nil ⟨sz (by simp), fun t1 => ?_⟩
  repeat close_w
  refine EV_bcall ?_ rfl rfl rfl
  refine EV_sumN H ⟨_, rfl, ?_⟩
  refine ES_cons rfl ?_
  refine EV_comp fF nm_ok (by decide +kernel) (by decide +kernel) rfl (by decide +kernel) (by kernel_rfl) (fun _ => rfl) ?_
  close_w
  refine ⟨v.oo, opn fs, rfl, .inl (List.mem_append_left _ oo_mem), sz (by rw [opn_len]; omega), fun z hz C => ?_, fun q₁ => ?_⟩
  · obtain ⟨d, hd, rfl⟩ : ∃ d : Nat, d < 26 ∧ z = (d : Int) := by
      unfold opn at hz
      obtain ⟨d, h1, h2⟩ := List.mem_map.mp hz
      exact ⟨d, I.hd d (List.mem_reverse.mp h1), h2.symm⟩
    refine PE_sub (PE_add (PE_int ⟨3, rfl, PE_pick (fun _ _ => rfl) ?_⟩))
    refine PL_cons rfl (PE_int ⟨0, rfl, PL_cons rfl (PE_int ⟨1, rfl, PL_cons rfl (PE_int ⟨1, rfl, PL_cons rfl (PE_int ⟨2, rfl, PL_nil ⟨sz (by simp), ?_⟩⟩)⟩)⟩)⟩)
    refine PE_min nm_ok rfl rfl rfl (by kernel_rfl) H.min (by kernel_rfl) (by decide +kernel) rfl rfl rfl ?_
    refine PE_Name nm_ok rfl rfl ⟨d, rfl, PE_int ⟨3, rfl, _, _, rfl, by split <;> omega, by split <;> omega, pick1 d hd, ?_⟩⟩
    refine ⟨_, rfl, trivial, ⟨_, rfl, ?_⟩⟩
    refine PE_IfExp (PT_gt (PE_Name nm_ok rfl rfl ⟨d, rfl, PE_int ⟨22, rfl, fun e => ?_, fun e => ?_⟩⟩) rfl)
    · have e : 22 < d := by have := of_decide_eq_true e; omega
      refine PE_pick (fun _ _ => rfl) ?_
      refine PL_cons rfl (PE_int ⟨0, rfl, PL_cons rfl (PE_int ⟨0, rfl, PL_cons rfl (PE_int ⟨0, rfl, PL_cons rfl (PE_int ⟨1, rfl, PL_cons rfl (PE_int ⟨1, rfl, PL_cons rfl (PE_int ⟨2, rfl, PL_nil ⟨sz (by simp), ?_⟩⟩)⟩)⟩)⟩)⟩)⟩)
      refine PE_sub (PE_Name nm_ok rfl rfl ⟨d, rfl, PE_int ⟨20, rfl, trivial, _, _, rfl, by omega, by omega, pick2 d hd e, ?_⟩⟩)
      exact ⟨_, rfl, trivial, congrArg AV.int (fF1 d hd e)⟩
    · have e : ¬ 22 < d := by have := of_decide_eq_false e; omega
      exact PE_int ⟨0, rfl, trivial, congrArg AV.int (fF2 d hd e)⟩
  refine ES_nil (BC_sum (l := (opn fs).map fF) (.inr (.inl (by simp))) ?_)
  repeat close_w
  refine ⟨sz (by simp), fun t2 => ?_⟩
  refine CO_ne_tup (as := [.int c.pc, .int c.sp]) (bs := [.int (standsF main fs), .int (255 - ((opn fs).map fF).sum)]) (l := [c.pc, c.sp]) (r := [(standsF main fs : Int), 255 - ((opn fs).map fF).sum]) (by simp) (by simp) rfl rfl (by have : recursionLimit = 1000 := rfl; omega) ?_ rfl
  rw [hV.1, hV.2.1, pos.1, pos.2]
  repeat close_w
  refine if_both (fun e => ?_) (fun _ => ?_)
  · simp at e
  refine EX_nil (thenX_next ?_)
  refine EX_norm _ _ ?_ ?_ h
  · unfold wloc; k_all
  · exact ((List.sublist_append_left _ _).trans (List.sublist_append_left _ _)).trans (List.sublist_append_left _ _)
end
end
end
section
noncomputable section
section
variable {G : Gl} {Φ : Cx G dL.scope} {Q : Fl → St → Prop} {v : WV} {called main taken : Nat} {wait : Int} {c : Cpu} {fs : List Nat} {word : List Int} {g : Rg}
/-- A step of the machine in the loop. -/
theorem wb4 (H : KL G.K) (hdep : Φ.A.depth + 50 < recursionLimit) {g2 : Rg} (hS : Stp G.K g g2) (hV : Vw c g) (h : ∀ c', Vw c' g2 → EX nm Φ (wb 5) ⟨wloc v called wait main taken, whp v c' fs word⟩ Q) :
    EX nm Φ (wb 4) ⟨wloc v called wait main taken, whp v c fs word⟩ Q := by
  refine EX_step (rest := wb 5) rfl ?_
  kpf_close
  close_w
  refine EV_mcall0 ⟨_, rfl⟩ ?_
  close_w
  refine GM_c H.kf rfl rfl ?_
  refine hS.run rfl hV (by omega) fun c2 hV2 => ?_
  close_w
  exact h c2 hV2
theorem wb5_nil (H : KL G.K) (h : Q .next ⟨wloc v called wait (main + 1) taken, whp v c [] word⟩) : EX nm Φ (wb 5) ⟨wloc v called wait main taken, whp v c [] word⟩ Q := by
  refine EX_step (rest := []) rfl ?_
  kpf_close
  refine EX1_If (TS_Compare rfl ?_)
  refine len_oo (v := v) (fs := []) H rfl oo_in (by simp) ?_
  repeat close_w
  refine if_both (fun _ => ?_) (fun q => nomatch q)
  refine EX_cons ?_
  repeat close_w
  refine EX_nil (thenX_next ?_)
  refine EX_norm _ _ ?_ (.refl _) (EX_nil h)
  unfold wloc; k_all
noncomputable def grow5 (d n : Nat) (word : List Int) : List Int := if d = 5 then word ++ [(n : Int)] else if d = 20 then word ++ [((128 + n : Nat) : Int)] else word
noncomputable def ebody : List Stmt := match wb 5 with
  | .If _ _ e _ :: _ => e
  | _ => []
noncomputable def eb (k : Nat) : List Stmt := ebody.drop k
theorem opn_set (d e : Nat) (t : List Nat) : (opn (d :: t)).set t.length (e : Int) = opn (e :: t) := by
  rw [opn_cons, opn_cons, List.set_append_right _ _ (by rw [opn_len]; exact Nat.le_refl _), opn_len, Nat.sub_self]; rfl
theorem opn_dropLast (d : Nat) (t : List Nat) : (opn (d :: t)).dropLast = opn t := by rw [opn_cons, List.dropLast_concat]
theorem seq_last (n : Nat) : seqIndex? (-1) (n + 1) = some n := by
  unfold seqIndex?
  have e : (if (-1 : Int) < 0 then (-1 : Int) + ((n + 1 : Nat) : Int) else -1) = (n : Int) := by rw [if_pos (by decide)]; omega
  dsimp only
  rw [e, if_pos (by simp only [Bool.and_eq_true, decide_eq_true_eq]; omega), Int.toNat_natCast]
theorem weq (H : KL G.K) {d : Nat} {t : List Nat} (hd : d < 26) (ht : t.length ≤ 4) (h : Q .next ⟨wloc v called wait main taken, whp v c (if d = 25 then t else (d + 1) :: t) word⟩) : EX nm Φ (eb 1) ⟨wloc v called wait main taken, whp v c (d :: t) word⟩ Q := by
  refine EX_step (rest := eb 2) rfl ?_
  kpf_close
  refine EX1_AugS (fun _ _ _ => rfl) ?_
  close_w
  refine EV_USub ?_
  repeat close_w
  refine GT_neg (.inl oo_in) (by decide) (by rw [opn_len, List.length_cons]; omega) (by decide) (opn_last d t) ?_
  repeat close_w
  refine SI_intsN (j := t.length) (l := opn (d :: t)) (hp' := whp v c ((d + 1) :: t) word) ?_ (by decide) (by decide) (by rw [opn_len, List.length_cons]; exact seq_last _) ?_
  · have := opn_set d (d + 1) t
    show Rpl v.oo (.ints (opn (d :: t))) (.ints ((opn (d :: t)).set t.length ((d + 1 : Nat) : Int))) _ _
    rw [this]
    exact .tail (.tail (.tail (.tail (.tail (.tail .head)))))
  close_w
  refine EX_step (rest := []) rfl ?_
  kpf_close
  refine EX1_If (TS_Compare rfl ?_)
  refine EV_Sub ?_
  close_w
  refine EV_USub ?_
  repeat close_w
  refine GI_neg oo_in (by decide) (by rw [opn_len, List.length_cons]; omega) (by decide) (opn_last (d + 1) t) ?_ (fun _ _ => rfl)
  repeat close_w
  refine if_both (fun e => ?_) (fun e => ?_)
  · have e : d = 25 := by have := beq_iff_eq.mp e; omega
    rw [if_pos e] at h
    refine EX_cons ?_
    refine EX1_Expr ?_ rfl
    refine EV_pop rfl ⟨_, rfl⟩ ?_
    close_w
    refine ⟨v.oo, opn ((d + 1) :: t), whp v c t word, rfl, ?_, by rw [opn_len, List.length_cons]; omega, sz (by rw [opn_len, List.length_cons]; omega), ?_⟩
    · rw [opn_dropLast]
      exact .tail (.tail (.tail (.tail (.tail (.tail .head)))))
    close_w
    exact EX_nil (thenX_next (EX_nil h))
  · have e : d ≠ 25 := by have := beq_eq_false_iff_ne.mp e; omega
    rw [if_neg e] at h
    exact EX_nil (thenX_next (EX_nil h))
theorem wo_app {z : Int} : Rpl v.wo (.ints word) (.ints (word ++ [z])) (whp v c fs word) (whp v c fs (word ++ [z])) := .tail (.tail (.tail (.tail (.tail (.tail (.tail .head))))))
theorem wb5_cons (H : KL G.K) {d : Nat} {t : List Nat} (hd : d < 26) (ht : t.length ≤ 4) (hw : word.length ≤ 100) (h : Q .next ⟨wloc v called wait main taken, whp v c (if d = 25 then t else (d + 1) :: t) (grow5 d t.length word)⟩) :
    EX nm Φ (wb 5) ⟨wloc v called wait main taken, whp v c (d :: t) word⟩ Q := by
  refine EX_step (rest := []) rfl ?_
  kpf_close
  refine EX1_If (TS_Compare rfl ?_)
  refine len_oo (v := v) (fs := d :: t) H rfl oo_in (by simp; omega) ?_
  repeat close_w
  refine if_both (fun e => ?_) (fun _ => ?_)
  · simp only [List.length_cons, beq_iff_eq] at e; omega
  refine EX_cons ?_
  refine EX1_If (TS_Compare rfl ?_)
  refine EV_Sub ?_
  close_w
  refine EV_USub ?_
  repeat close_w
  refine GI_neg oo_in (by decide) (by rw [opn_len, List.length_cons]; omega) (by decide) (opn_last d t) ?_ (fun _ _ => rfl)
  repeat close_w
  have fin : ∀ word', word' = grow5 d t.length word → EX nm Φ (eb 1) ⟨wloc v called wait main taken, whp v c (d :: t) word'⟩ fun f σ' => ThenX f (EX nm Φ [] σ' Q) (Q f σ') := by
    rintro _ rfl
    exact weq H hd ht (thenX_next (EX_nil h))
  have hwo : (v.wo, AO.ints word) ∈ (⟨wloc v called wait main taken, whp v c (d :: t) word⟩ : St).hp := (wo_app (z := 0)).mem
  refine if_both (fun e => ?_) (fun e => ?_)
  · have e : d = 5 := by have := beq_iff_eq.mp e; omega
    refine EX_cons ?_
    refine EX1_Expr ?_ rfl
    refine EV_append rfl rfl ⟨_, rfl⟩ ?_
    close_w
    refine ⟨v.wo, word, rfl, hwo, ?_⟩
    close_w
    refine len_oo (v := v) (fs := d :: t) H rfl oo_in (by simp; omega) ?_
    repeat close_w
    refine ⟨((d :: t).length : Int) - 1, word, whp v c (d :: t) (word ++ [((d :: t).length : Int) - 1]), rfl, wo_app, sz (by omega), ?_⟩
    close_w
    refine EX_nil (thenX_next ?_)
    refine fin _ ?_
    unfold grow5
    rw [if_pos e, List.length_cons]
    congr 2
    omega
  · have e : d ≠ 5 := by have := beq_eq_false_iff_ne.mp e; omega
    refine EX_cons ?_
    refine EX1_If (TS_Compare rfl ?_)
    refine EV_Sub ?_
    close_w
    refine EV_USub ?_
    repeat close_w
    refine GI_neg oo_in (by decide) (by rw [opn_len, List.length_cons]; omega) (by decide) (opn_last d t) ?_ (fun _ _ => rfl)
    repeat close_w
    refine if_both (fun e2 => ?_) (fun e2 => ?_)
    · have e2 : d = 20 := by have := beq_iff_eq.mp e2; omega
      refine EX_cons ?_
      refine EX1_Expr ?_ rfl
      refine EV_append rfl rfl ⟨_, rfl⟩ ?_
      close_w
      refine ⟨v.wo, word, rfl, hwo, ?_⟩
      repeat close_w
      refine len_oo (v := v) (fs := d :: t) H rfl oo_in (by simp; omega) ?_
      repeat close_w
      refine ⟨127 + ((d :: t).length : Int), word, whp v c (d :: t) (word ++ [127 + ((d :: t).length : Int)]), rfl, wo_app, sz (by omega), ?_⟩
      close_w
      refine EX_nil (thenX_next (EX_nil (thenX_next ?_)))
      refine fin _ ?_
      unfold grow5
      rw [if_neg e, if_pos e2, List.length_cons]
      congr 2
      omega
    · have e2 : d ≠ 20 := by have := beq_eq_false_iff_ne.mp e2; omega
      refine EX_nil (thenX_next (EX_nil (thenX_next ?_)))
      refine fin _ ?_
      unfold grow5
      rw [if_neg e, if_neg e2]
end
end
end
section
noncomputable section
theorem EX_distinct {N : Nat → Str} {G : Gl} {cs : Scope} {Φ : Cx G cs} {ss : List Stmt} {σ : St} {Q : Fl → St → Prop} (h : (σ.hp.map (·.1)).Nodup → EX N Φ ss σ Q) : EX N Φ ss σ Q := .mk fun s S => by
  obtain ⟨m, news, F, Nw, H, nd, r⟩ := id S
  exact (h (by rw [H.keys]; exact nd)).run s S
noncomputable def lft : List Nat → Nat
  | [] => 0
  | d :: t => (26 - d) + lft t
theorem LInv.step {K : Frag} {r a0 p0 m taken : Nat} {y0 : Int} {pl : List Int} {word : List Int} {g : Rg} {d : Nat} {t : List Nat} (H : KF K) (P : Plain r pl) (I : LInv r a0 p0 y0 pl m taken (d :: t) word g) :
    ∃ g2, Stp K g g2 ∧ LInv r a0 p0 y0 pl m taken (if d = 25 then t else (d + 1) :: t) (grow5 d t.length word) g2 := by
  have hd : d < 26 := I.hd d (.head _)
  exact match d, hd, I with
  | 0, _, I => in_0 H P I
  | 1, _, I => in_1 H P I
  | 2, _, I => in_2 H P I
  | 3, _, I => in_3 H P I
  | 4, _, I => in_4 H P I
  | 5, _, I => in_5 H P I
  | 6, _, I => in_6 H P I
  | 7, _, I => in_7 H P I
  | 8, _, I => in_8 H P I
  | 9, _, I => in_9 H P I
  | 10, _, I => in_10 H P I
  | 11, _, I => in_11 H P I
  | 12, _, I => in_12 H P I
  | 13, _, I => in_13 H P I
  | 14, _, I => in_14 H P I
  | 15, _, I => in_15 H P I
  | 16, _, I => in_16 H P I
  | 17, _, I => in_17 H P I
  | 18, _, I => in_18 H P I
  | 19, _, I => in_19 H P I
  | 20, _, I => in_20 H P I
  | 21, _, I => in_21 H P I
  | 22, _, I => in_22 H P I
  | 23, _, I => in_23 H P I
  | 24, _, I => in_24 H P I
  | 25, _, I => in_25 H P I
  | n + 26, h, _ => absurd h (by omega)
section
variable {G : Gl} {Φ : Cx G dL.scope} {Q : Fl → St → Prop} {v : WV} {called main taken : Nat} {wait : Int} {c : Cpu} {fs : List Nat} {word : List Int} {g : Rg}
/-- The invariant of the loop. -/
noncomputable def LoopI (v : WV) (pl : List Int) (n : Nat) (σ : St) : Prop := ∃ called wait main taken fs word c g, σ = ⟨wloc v called wait main taken, whp v c fs word⟩ ∧ Vw c g ∧ LInv v.r v.a0 v.p0 v.y0 pl main taken fs word g ∧ taken ≤ called ∧ called ≤ v.W.length ∧ n = (1 + 3 * v.r - main) + 26 * (v.W.length - called) + lft fs
/-- One turn. -/
theorem turn (H : KL G.K) (hd : Φ.A.depth + 50 < recursionLimit) {pl : List Int} (P : Plain v.r pl) (Z : P0 v.p0) (ha : v.a0 < 256) (hr0 : 4 ≤ v.r) (hr : v.r < 12) (hV : Vw c g) (I : LInv v.r v.a0 v.p0 v.y0 pl main taken fs word g) (hm : main < 1 + 3 * v.r) (htc : taken ≤ called) (hcW : called ≤ v.W.length) (hW5 : v.W.length ≤ 5)
    (h : ∀ n σ, n < (1 + 3 * v.r - main) + 26 * (v.W.length - called) + lft fs → LoopI v pl n σ → Q .next σ) : EX nm Φ (wb 0) ⟨wloc v called wait main taken, whp v c fs word⟩ Q := by
  refine wb0 H hd pl P Z ha hr hV I hm htc hcW hW5 fun called' wait' taken' fs' c' g' hV' I' htc' hcW' hcase => ?_
  have hms : 26 * (v.W.length - called') + lft fs' ≤ 26 * (v.W.length - called) + lft fs := by
    rcases hcase with ⟨rfl, rfl⟩ | ⟨rfl, rfl⟩ | ⟨rfl, rfl⟩
    · exact Nat.le_refl _
    · omega
    · simp only [lft]; omega
  have hfl : fs'.length ≤ 5 := by have := I'.hl; have := I'.ht; omega
  refine wb1 ?_
  refine wb2 H hfl I'.hd ?_
  refine wb3 H hd hV' I' hm ?_
  cases fs' with
  | nil =>
    obtain ⟨g2, hS, I2⟩ := I'.main H.kf P Z hr0 hr hm
    refine wb4 H hd hS hV' fun c2 hV2 => ?_
    refine wb5_nil H ?_
    refine h ((1 + 3 * v.r - (main + 1)) + 26 * (v.W.length - called') + lft []) _ (by omega) ⟨called', wait' - 1, main + 1, taken', [], word, c2, g2, rfl, hV2, I2, htc', hcW', rfl⟩
  | cons d t =>
    have h26 : d < 26 := I'.hd d (.head _)
    obtain ⟨g2, hS, I2⟩ := I'.step H.kf P
    refine wb4 H hd hS hV' fun c2 hV2 => ?_
    have hw := I'.w10
    refine wb5_cons H h26 (by simp only [List.length_cons] at hfl; omega) (by omega) ?_
    refine h ((1 + 3 * v.r - main) + 26 * (v.W.length - called') + lft (if d = 25 then t else (d + 1) :: t)) _ ?_ ⟨called', wait' - 1, main, taken', _, _, c2, g2, rfl, hV2, I2, htc', hcW', rfl⟩
    have : lft (if d = 25 then t else (d + 1) :: t) < lft (d :: t) := by
      split
      · simp only [lft]; omega
      · simp only [lft]; omega
    omega
theorem lw15 (H : KL G.K) (hd : Φ.A.depth + 50 < recursionLimit) {pl : List Int} (P : Plain v.r pl) (Z : P0 v.p0) (ha : v.a0 < 256) (hr0 : 4 ≤ v.r) (hr : v.r < 12) (hV : Vw c g) (I : LInv v.r v.a0 v.p0 v.y0 pl 0 0 [] [] g) (hW5 : v.W.length ≤ 5)
    (h : ∀ called wait taken word c g, Vw c g → LInv v.r v.a0 v.p0 v.y0 pl (1 + 3 * v.r) taken [] word g → EX nm Φ (lb 16) ⟨wloc v called wait (1 + 3 * v.r) taken, whp v c [] word⟩ Q) :
    EX nm Φ (lb 15) ⟨wloc v 0 wait 0 0, whp v c [] []⟩ Q := by
  refine EX_step (rest := lb 16) rfl ?_
  kpf_close
  refine EX1_While (LoopI v pl) _ ⟨0, wait, 0, 0, [], [], c, g, rfl, hV, I, Nat.le_refl _, Nat.zero_le _, rfl⟩ fun n σ ⟨called, wait, main, taken, fs, word, c, g, e, hV, I, htc, hcW, en⟩ => ?_
  subst e
  have hfl : fs.length ≤ 5 := by have := I.hl; have := I.ht; omega
  have hmm := I.hm
  have done : main < 1 + 3 * v.r → EX nm Φ (wb 0) ⟨wloc v called wait main taken, whp v c fs word⟩ fun f σ'' => match f with | .next => ∃ m, m < n ∧ LoopI v pl m σ'' | .cont => ∃ m, m < n ∧ LoopI v pl m σ'' | .brk => ThenX .next (EX nm Φ (lb 16) σ'' Q) (Q .next σ'') | .ret u => ThenX (.ret u) (EX nm Φ (lb 16) σ'' Q) (Q (.ret u) σ'') := fun hm =>
    turn H hd P Z ha hr0 hr hV I hm htc hcW hW5 fun k σ hk hI => ⟨k, by omega, hI⟩
  refine TS_or (TS_Compare rfl ?_)
  repeat close_w
  refine BO_mul (IntMulOk.of_left (by decide)) ?_
  repeat close_w
  refine if_both (fun e => ?_) (fun e => ?_)
  · have e := of_decide_eq_true e
    refine if_both (fun _ => ?_) (fun q => nomatch q)
    exact done (by omega)
  · have e := of_decide_eq_false e
    refine TS_or (TS_Compare rfl ?_)
    refine len_oo (v := v) (fs := fs) H rfl oo_in (by omega) ?_
    repeat close_w
    refine if_both (fun e2 => ?_) (fun e2 => ?_)
    · have e2 := of_decide_eq_true e2
      refine if_both (fun _ => ?_) (fun q => nomatch q)
      exact done (I.run fun z => by subst z; simp at e2)
    · have e2 := of_decide_eq_false e2
      refine TS_or_nil ?_
      refine if_both (fun q => nomatch q) fun _ => ?_
      have e3 : fs = [] := by
        cases fs with
        | nil => rfl
        | cons d t => simp only [List.length_cons] at e2; omega
      subst e3
      have e4 : main = 1 + 3 * v.r := by omega
      subst e4
      exact thenX_next (h called wait taken word c g hV I)
end
end
end
section
noncomputable section
section
variable {G : Gl} {Φ : Cx G dL.scope} {Q : Fl → St → Prop} {v : WV} {called main taken : Nat} {wait : Int} {c : Cpu} {fs : List Nat} {word : List Int} {g : Rg}
theorem lw16 (H : KL G.K) (hdep : Φ.A.depth + 50 < recursionLimit) (hV : c.pc = 519 ∧ c.a = (v.a0 : Int) ∧ c.x = 0 ∧ c.y = v.y0 ∧ c.sp = 255 ∧ c.p = (v.p0 : Int) + 2) (h : EX nm Φ (lb 17) ⟨wloc v called wait main taken, whp v c [] word⟩ Q) :
    EX nm Φ (lb 16) ⟨wloc v called wait main taken, whp v c [] word⟩ Q := by
  refine EX_step (rest := lb 17) rfl ?_
  kpf_close
  refine EX1_If (TS_Compare rfl ?_)
  refine EV_Tuple ?_
  refine ES_cons rfl (EV_Attribute ?_ rfl)
  close_w
  refine GA_fl H.kf rfl rfl ?_
  refine ES_cons rfl (EV_Attribute ?_ rfl)
  close_w
  refine GA_fl H.kf rfl rfl ?_
  refine ES_cons rfl (EV_Attribute ?_ rfl)
  close_w
  refine GA_fl H.kf rfl rfl ?_
  refine ES_cons rfl (EV_Attribute ?_ rfl)
  close_w
  refine GA_fl H.kf rfl rfl ?_
  refine ES_cons rfl (EV_Attribute ?_ rfl)
  close_w
  refine GA_fl H.kf rfl rfl ?_
  refine ES_cons rfl (EV_Attribute ?_ rfl)
  close_w
  refine GA_fl H.kf rfl rfl ?_
  refine ES_nil ⟨sz (by simp), fun t1 => ?_⟩
  repeat close_w
  refine ⟨sz (by simp), fun t2 => ?_⟩
  refine CO_ne_tup (as := [.int c.pc, .int c.a, .int c.x, .int c.y, .int c.sp, .int c.p]) (bs := [.int 519, .int (v.a0 : Int), .int 0, .int v.y0, .int 255, .int ((v.p0 : Int) + 2)]) (l := [c.pc, c.a, c.x, c.y, c.sp, c.p]) (r := [519, (v.a0 : Int), 0, v.y0, 255, (v.p0 : Int) + 2]) (by simp) (by simp) rfl rfl (by have : recursionLimit = 1000 := rfl; omega) ?_ rfl
  obtain ⟨h1, h2, h3, h4, h5, h6⟩ := hV
  rw [h1, h2, h3, h4, h5, h6]
  repeat close_w
  refine if_both (fun e => ?_) (fun _ => ?_)
  · simp at e
  refine EX_nil (thenX_next ?_)
  refine EX_norm _ _ ?_ ?_ h
  · unfold wloc; k_all
  · exact (List.sublist_append_left _ _).trans (List.sublist_append_left _ _)
noncomputable def end1 (v : WV) (taken : Nat) (word : List Int) : List Int := ((v.m.set 50 (v.r : Int)).set 51 ((6 * taken : Nat) : Int)).set 64 (word.length : Int)
noncomputable def whp1 (v : WV) (c : Cpu) (o : AO) (word : List Int) : List (Addr × AO) := hpOf v.x v.d v.ym c [(v.pl, .ints (hplaces 26)), (v.pn, o), (v.wt, .wints v.W), (v.oo, .ints []), (v.wo, .ints word)]
theorem lw17 (H : KL G.K) (hl : v.m.length = 65536) (hw : word.length ≤ 100) (h : EX nm Φ (lb 18) ⟨wloc v called wait main taken, whp1 v c (.ints (end1 v taken word)) word⟩ Q) :
    EX nm Φ (lb 17) ⟨wloc v called wait main taken, whp v c [] word⟩ Q := by
  refine EX_step (rest := lb 18) rfl ?_
  kpf_close
  refine EX1_AssignTT rfl (by kernel_rfl) rfl ?_
  repeat close_w
  refine BO_mul (IntMulOk.of_left (by decide)) ?_
  refine ES_cons rfl ?_
  refine EV_lenC H rfl rfl ?_
  close_w
  refine ⟨v.wo, word, rfl, .inl (hp_rest (.tail _ (.tail _ (.tail _ (.tail _ (.head _)))))), by omega, ?_⟩
  repeat close_w
  refine ⟨rfl, by simp, fun t => ?_⟩
  refine AI_cons rfl (AS_Sub ?_)
  close_w
  close_w
  refine SI_ints (.tail (.tail (.tail (.tail .head)))) (by decide) (by decide) (by rw [hl]; decide) ?_
  refine AI_cons rfl (AS_Sub ?_)
  close_w
  close_w
  refine SI_ints (.tail (.tail (.tail (.tail .head)))) (by decide) (by decide) (by rw [List.length_set, hl]; decide) ?_
  refine AI_cons rfl (AS_Sub ?_)
  close_w
  close_w
  refine SI_ints (.tail (.tail (.tail (.tail .head)))) (by decide) (by decide) (by rw [List.length_set, List.length_set, hl]; decide) ?_
  refine AI_nil ?_
  close_w
  refine EX_norm _ _ ?_ ?_ h
  · unfold wloc; k_all
  · have e : (6 : Int) * (taken : Int) = ((6 * taken : Nat) : Int) := by omega
    unfold whp1 end1
    rw [← e]
    exact .cons_cons _ (.cons_cons _ (.cons_cons _ (.cons_cons _ (.cons_cons _ (.cons_cons _ (.cons_cons _ (.cons_cons _ (List.nil_sublist _))))))))
theorem lw18 (H : KL G.K) (hl : v.m.length = 65536) (hw : word.length ≤ 100) (h : EX nm Φ (lb 19) ⟨wloc v called wait main taken, whp1 v c (.wints (ended v.r taken word v.m)) word⟩ Q) :
    EX nm Φ (lb 18) ⟨wloc v called wait main taken, whp1 v c (.ints (end1 v taken word)) word⟩ Q := by
  refine EX_distinct fun nd => ?_
  have ne : v.pn ≠ v.wo := by
    intro e
    unfold whp1 hpOf at nd
    simp only [List.map_cons, List.map_nil, List.nodup_cons, List.mem_cons, List.not_mem_nil, or_false, not_or] at nd
    exact nd.2.2.2.2.1.2.2 e
  refine EX_step (rest := lb 19) rfl ?_
  kpf_close
  refine EX1_AssignSl rfl ?_
  close_w
  close_w
  refine SP_some ?_
  close_w
  refine ⟨1536, rfl, ?_⟩
  refine SP_some ?_
  repeat close_w
  refine EV_lenC H rfl rfl ?_
  close_w
  have hwo : (v.wo, AO.ints word) ∈ (⟨wloc v called wait main taken, whp1 v c (.ints (end1 v taken word)) word⟩ : St).hp := hp_rest (.tail _ (.tail _ (.tail _ (.tail _ (.head _)))))
  refine ⟨v.wo, word, rfl, .inl hwo, by omega, ?_⟩
  repeat close_w
  have len : (end1 v taken word).length = 65536 := by unfold end1; rw [List.length_set, List.length_set, List.length_set]; exact hl
  refine ⟨v.pn, v.wo, end1 v taken word, word, 1536, whp1 v c (.wints (ended v.r taken word v.m)) word, rfl, rfl, rfl, ?_, by omega, ne, .inl hwo, ?_, ?_, ?_⟩
  · congr 1
  · exact .tail (.tail (.tail (.tail .head)))
  · show _ ≤ 2 ^ 24; omega
  close_w
  exact h
theorem lw19 (H : KL G.K) (hdep : Φ.A.depth + 50 < recursionLimit) (m2 : List Int) (h1 : c.mem.length = 65536) (h2 : m2.length = 65536) (ht : c.mem.take 256 = m2.take 256) (hd : c.mem.drop 512 = m2.drop 512) (h : ∀ σ, Q (.ret (.bool true)) σ) :
    EX nm Φ (lb 19) ⟨wloc v called wait main taken, whp1 v c (.wints m2) word⟩ Q := by
  have hc : 1000000 ≤ sizeLine := by decide
  have hym : ∀ {post}, (v.ym, AO.ints c.mem) ∈ whp1 v c (.wints m2) word ++ post := List.mem_append_left _ (hp_mem (x := v.x) (d := v.d) (loc := []))
  have hpn : ∀ {post}, (v.pn, AO.wints m2) ∈ whp1 v c (.wints m2) word ++ post := List.mem_append_left _ (hp_rest (x := v.x) (d := v.d) (y := v.ym) (c := c) (loc := []) (.tail _ (.head _)))
  refine EX_step (rest := []) rfl ?_
  kpf_close
  refine EX1_Return ?_
  refine EV_and ?_
  refine EV_Compare rfl ?_
  refine EV_slice ?_
  close_w
  refine SP_none (SP_some ?_)
  close_w
  refine ⟨256, rfl, v.ym, c.mem, rfl, .inl hp_mem, by omega, (by decide : (0 : Int) ≤ 256), fun q1 => ?_⟩
  refine EV_slice ?_
  close_w
  refine SP_none (SP_some ?_)
  close_w
  refine ⟨256, rfl, v.pn, m2, rfl, .inr (.inl hpn), by omega, (by decide : (0 : Int) ≤ 256), fun q2 => ?_⟩
  dsimp only [List.append_assoc, List.cons_append, List.nil_append]
  refine CO_eq_ints (l := cut c.mem none (some 256)) (r := cut m2 none (some 256)) (by simp) (by simp) (by simp [cut]; omega) (by have : recursionLimit = 1000 := rfl; omega) ?_
  rw [show cut c.mem none (some 256) = cut m2 none (some 256) from ht, beq_self_eq_true]
  refine TR_bool (if_both (fun _ => ?_) (fun q => nomatch q))
  refine EV_bool_one ?_
  refine EV_Compare rfl ?_
  refine EV_slice ?_
  close_w
  refine SP_some ?_
  close_w
  refine ⟨512, rfl, SP_none ?_⟩
  refine ⟨v.ym, c.mem, rfl, .inl hym, by omega, (by decide : (0 : Int) ≤ 512), fun q3 => ?_⟩
  dsimp only [List.append_assoc, List.cons_append, List.nil_append]
  refine EV_slice ?_
  close_w
  refine SP_some ?_
  close_w
  refine ⟨512, rfl, SP_none ?_⟩
  refine ⟨v.pn, m2, rfl, .inr (.inl hpn), by omega, (by decide : (0 : Int) ≤ 512), fun q4 => ?_⟩
  dsimp only [List.append_assoc, List.cons_append, List.nil_append]
  refine CO_eq_ints (l := cut c.mem (some 512) none) (r := cut m2 (some 512) none) (by simp) (by simp) (by simp [cut]; omega) (by have : recursionLimit = 1000 := rfl; omega) ?_
  rw [show cut c.mem (some 512) none = cut m2 (some 512) none from hd, beq_self_eq_true]
  exact thenX_ret (h _)
end
end
end
section
noncomputable section
noncomputable def isIntB (i : Int) : Value → Bool
  | .int j _ => i == j
  | _ => false
theorem isIntB_eq {i : Int} {v : Value} (h : isIntB i v = true) : ∃ t, v = .int i t := by
  cases v <;> first | (cases h; done) | skip
  rename_i j t
  exact ⟨t, by rw [beq_iff_eq.mp h]⟩
noncomputable def intsB : List Int → List Value → Bool
  | [], [] => true
  | i :: l, v :: r => isIntB i v && intsB l r
  | _, _ => false
theorem intsB_eq : ∀ {l : List Int} {r : List Value}, intsB l r = true → IntsL l r
  | [], [], _ => trivial
  | [], _ :: _, h => by cases h
  | _ :: _, [], h => by cases h
  | i :: l, v :: r, h => by
    have h := Bool.and_eq_true_iff.mp h
    exact ⟨isIntB_eq h.1, intsB_eq h.2⟩
noncomputable def isRefB (a : Addr) : Value → Bool
  | .ref b => Nat.beq a b
  | _ => false
theorem isRefB_eq {a : Addr} {v : Value} (h : isRefB a v = true) : v = .ref a := by
  cases v <;> first | (cases h; done) | skip
  rename_i b
  rw [Nat.eq_of_beq_eq_true h]
noncomputable def refsB : List Addr → List Value → Bool
  | [], [] => true
  | i :: l, v :: r => isRefB i v && refsB l r
  | _, _ => false
theorem refsB_eq : ∀ {l : List Addr} {r : List Value}, refsB l r = true → RepL (l.map .ref) r
  | [], [], _ => trivial
  | [], _ :: _, h => by cases h
  | _ :: _, [], h => by cases h
  | i :: l, v :: r, h => by
    have h := Bool.and_eq_true_iff.mp h
    exact ⟨isRefB_eq h.1, refsB_eq h.2⟩
noncomputable def listB (K : Frag) (y : Addr) (p : List Value → Bool) : Bool := match K.lookup y with
  | some ⟨.type "list", _, .seq vs _, _⟩ => p vs.toList
  | _ => false
theorem listB_eq {K : Frag} {y : Addr} {p : List Value → Bool} {P : List Value → Prop} (h : listB K y p = true) (hp : ∀ vs, p vs = true → P vs) : KList K y P := by
  unfold listB at h
  split at h
  · rename_i d vs n sl ho
    exact ⟨_, vs, n, ho, rfl, rfl, hp _ h⟩
  · cases h
noncomputable def isNoneB : Value → Bool
  | .none => true
  | _ => false
theorem isNoneB_eq {v : Value} (h : isNoneB v = true) : v = .none := by
  cases v <;> first | (cases h; done) | rfl
noncomputable def seqOf : Data → Option (Array Value)
  | .seq vs _ => some vs
  | _ => none
noncomputable def dfltB (K : Frag) : Bool := match (K.lookup 29).bind fun o => seqOf o.data with
  | some vs => (match vs.toList with | [a, b] => isNoneB a && isIntB 0 b | _ => false)
  | none => false
theorem dfltB_eq {K : Frag} (h : dfltB K = true) : ∃ o t n, K.lookup 29 = some o ∧ o.data = .seq #[.none, .int 0 t] n := by
  unfold dfltB at h
  cases ho : K.lookup 29 with
  | none => rw [ho] at h; cases h
  | some o =>
    rw [ho] at h
    cases hd : o.data <;> (simp only [Option.bind_some, seqOf, hd] at h) <;> first | (cases h; done) | skip
    rename_i vs n
    obtain ⟨l⟩ := vs
    match l, h with
    | [a, b], h =>
      have h := Bool.and_eq_true_iff.mp h
      obtain ⟨t, rfl⟩ := isIntB_eq h.2
      obtain rfl := isNoneB_eq h.1
      exact ⟨o, t, n, rfl, hd⟩
theorem k_mpu (w : World) : nsIn (KK w) mainGlobals (nm 96) = some (some (.ref CA)) := by kernel_rfl
theorem k_steps (w : World) : nsIn (KK w) mainGlobals (nm 86) = some (some (.ref 1459)) := by kernel_rfl
theorem k_len (w : World) : nsIn (KK w) mainGlobals (nm 105) = some none := by kernel_rfl
theorem k_enum (w : World) : nsIn (KK w) mainGlobals (nm 95) = some none := by kernel_rfl
theorem k_sum (w : World) : nsIn (KK w) mainGlobals (nm 110) = some none := by kernel_rfl
theorem k_min (w : World) : nsIn (KK w) mainGlobals (nm 112) = some none := by kernel_rfl
theorem k_keep (w : World) : keepIn (KK w) (.ref CA) = true := by kernel_rfl
theorem k_makes (w : World) : makesIn (KK w) CA = true := by kernel_rfl
theorem k_init (w : World) : findIn (KK w) (.ref CA) "__init__" = some (some (.ref 36)) := by kernel_rfl
theorem k_initfn (w : World) : isFn (KK w) (.ref 36) = true := by kernel_rfl
theorem k_dflt (w : World) : dfltB (KK w) = true := by kernel_rfl
theorem k_list (w : World) : listB (KK w) 1459 (refsB (List.range' 1433 26)) = true := by kernel_rfl
theorem k_lists (w : World) : (List.range 26).all (fun i => listB (KK w) (1433 + i) (intsB (hstep i))) = true := by kernel_rfl
theorem klfacts (w : World) : KL (KK w) where
  kf := kfacts w
  mpu := k_mpu w
  steps := k_steps w
  len := k_len w
  enum := k_enum w
  sum := k_sum w
  min := k_min w
  keep := k_keep w
  makes := k_makes w
  init := k_init w
  initfn := k_initfn w
  dflt := dfltB_eq (k_dflt w)
  stepsL := listB_eq (k_list w) fun vs h => refsB_eq h
  stepL := fun i hi => listB_eq (List.all_eq_true.mp (k_lists w) i (List.mem_range.mpr hi)) fun vs h => intsB_eq h
end
end
section
noncomputable section
theorem putH_get : ∀ n k, n ≤ 45 → (putH n)[k]? = if 49152 ≤ k ∧ k < 49152 + n then some (hcode.getD (k - 49152) 0) else (List.replicate 65536 (0 : Int))[k]?
  | 0, k, _ => by rw [if_neg (by omega)]; rfl
  | n + 1, k, h => by
    show ((putH n).set (49152 + n) (hcode.getD n 0))[k]? = _
    by_cases e : k = 49152 + n
    · subst e
      rw [List.getElem?_set_self (by rw [putH_len]; omega), if_pos ⟨by omega, by omega⟩, Nat.add_sub_cancel_left]
    · rw [List.getElem?_set_ne (by omega), putH_get n k (by omega)]
      by_cases c : 49152 ≤ k ∧ k < 49152 + n
      · rw [if_pos c, if_pos ⟨c.1, by omega⟩]
      · rw [if_neg c, if_neg (by omega)]
theorem putM_get (m : List Int) (r : Nat) (hm : m.length = 65536) : ∀ n k, n ≤ 7 → (putM m r n)[k]? = if 512 ≤ k ∧ k < 512 + n then some ((mainc r).getD (k - 512) 0) else m[k]?
  | 0, k, _ => by rw [if_neg (by omega)]; rfl
  | n + 1, k, h => by
    show ((putM m r n).set (512 + n) ((mainc r).getD n 0))[k]? = _
    by_cases e : k = 512 + n
    · subst e
      rw [List.getElem?_set_self (by rw [putM_len]; omega), if_pos ⟨by omega, by omega⟩, Nat.add_sub_cancel_left]
    · rw [List.getElem?_set_ne (by omega), putM_get m r hm n k (by omega)]
      by_cases c : 512 ≤ k ∧ k < 512 + n
      · rw [if_pos c, if_pos ⟨c.1, by omega⟩]
      · rw [if_neg c, if_neg (by omega)]
/-- The memory that the law builds. -/
noncomputable def mem0 (r : Nat) : List Int := putM (((putH 45).set 65534 0).set 65535 192) r 7
theorem mem0_base : (((putH 45).set 65534 0).set 65535 192).length = 65536 := by rw [List.length_set, List.length_set]; exact putH_len 45
theorem mem0_len (r : Nat) : (mem0 r).length = 65536 := by unfold mem0; rw [putM_len]; exact mem0_base
theorem mem0_out {r k : Nat} (h : ¬ (512 ≤ k ∧ k < 519)) : (mem0 r)[k]? = (((putH 45).set 65534 0).set 65535 192)[k]? := by
  unfold mem0
  rw [putM_get _ r mem0_base 7 k (Nat.le_refl _), if_neg (by omega)]
theorem mem0_in {r k : Nat} (h : k < 7) : (mem0 r)[512 + k]? = some ((mainc r).getD k 0) := by
  unfold mem0
  rw [putM_get _ r mem0_base 7 _ (Nat.le_refl _), if_pos ⟨by omega, by omega⟩, Nat.add_sub_cancel_left]
theorem rep0 {k : Nat} (h : k < 65536) : (List.replicate 65536 (0 : Int))[k]? = some 0 := by
  rw [List.getElem?_replicate, if_pos h]
theorem plain0 (r : Nat) : Plain r (mem0 r) where
  len := mem0_len r
  code := fun i z h => by
    have hi : i < 45 := (List.getElem?_eq_some_iff.mp h).1
    rw [mem0_out (by omega), List.getElem?_set_ne (by omega), List.getElem?_set_ne (by omega), putH_get 45 _ (Nat.le_refl _), if_pos ⟨by omega, by omega⟩, Nat.add_sub_cancel_left, List.getD_eq_getElem?_getD, h]; rfl
  v0 := by rw [mem0_out (by omega), List.getElem?_set_ne (by decide), List.getElem?_set_self (by rw [putH_len]; decide)]; rfl
  v1 := by rw [mem0_out (by omega), List.getElem?_set_self (by rw [List.length_set, putH_len]; decide)]; rfl
  m0 := mem0_in (k := 0) (by decide)
  m1 := mem0_in (k := 1) (by decide)
  m2 := mem0_in (k := 2) (by decide)
  m3 := mem0_in (k := 3) (by decide)
  m4 := mem0_in (k := 4) (by decide)
  m5 := mem0_in (k := 5) (by decide)
  m6 := mem0_in (k := 6) (by decide)
  z50 := by rw [mem0_out (by omega), List.getElem?_set_ne (by decide), List.getElem?_set_ne (by decide), putH_get 45 _ (Nat.le_refl _), if_neg (by omega)]; exact rep0 (by decide)
  z51 := by rw [mem0_out (by omega), List.getElem?_set_ne (by decide), List.getElem?_set_ne (by decide), putH_get 45 _ (Nat.le_refl _), if_neg (by omega)]; exact rep0 (by decide)
  z64 := by rw [mem0_out (by omega), List.getElem?_set_ne (by decide), List.getElem?_set_ne (by decide), putH_get 45 _ (Nat.le_refl _), if_neg (by omega)]; exact rep0 (by decide)
  z65 := by rw [mem0_out (by omega), List.getElem?_set_ne (by decide), List.getElem?_set_ne (by decide), putH_get 45 _ (Nat.le_refl _), if_neg (by omega)]; exact rep0 (by decide)
theorem mem_first {r : Nat} {pl : List Int} (P : Plain r pl) : Mem 0 0 0 0 [] pl pl := by
  refine ⟨P.len, fun k hk => ?_⟩
  unfold want
  by_cases a : k = 50
  · subst a; rw [if_pos rfl]; exact P.z50
  by_cases b : k = 51
  · subst b; rw [if_neg (by decide), if_pos rfl]; exact P.z51
  by_cases c : k = 64
  · subst c; rw [if_neg (by decide), if_neg (by decide), if_pos rfl]; exact P.z64
  by_cases d : k = 65
  · subst d; rw [if_neg (by decide), if_neg (by decide), if_neg (by decide), if_pos rfl]; exact P.z65
  rw [if_neg a, if_neg b, if_neg c, if_neg d, if_neg (by simp only [List.length_nil]; omega)]
theorem inv_first {r a0 p0 : Nat} {y0 : Int} {pl : List Int} (P : Plain r pl) : LInv r a0 p0 y0 pl 0 0 [] [] ⟨512, 255, (a0 : Int), 0, y0, (p0 : Int), pl⟩ := by
  refine ⟨fun z => absurd rfl z, by omega, by decide, Nat.le_refl _, fun e he => (nomatch he), fun e he => (nomatch he), rfl, mem_first P, ⟨a0, 0, p0, rfl, rfl, rfl, ?_, rfl, rfl, rfl, rfl⟩, rfl⟩
  unfold mpc stands
  rw [if_neg (by omega), if_pos rfl]
theorem sd_head (ns : List Int) : ∃ s0 : Nat, (sd ns)[0]? = some (s0 : Int) := by
  unfold sd
  cases ns with
  | nil => exact ⟨5, rfl⟩
  | cons a t =>
    refine ⟨(Int.fmod a 65536).toNat, ?_⟩
    have : 0 ≤ Int.fmod a 65536 := Int.fmod_nonneg_of_pos a (by decide)
    simp only [List.take_succ_cons, List.map_cons, List.cons_append, List.getElem?_cons_zero]
    rw [Int.toNat_of_nonneg this]
theorem sd_len (ns : List Int) : (sd ns).length ≤ 5 ∧ 0 < (sd ns).length := by
  unfold sd
  rw [List.length_append, List.length_map, List.length_take, List.length_singleton]
  omega
theorem fmodN (s k : Nat) : Int.fmod (s : Int) ((k : Nat) : Int) = ((s % k : Nat) : Int) := by rw [Int.fmod_eq_emod_of_nonneg _ (by omega)]; rfl
theorem fdivN (s k : Nat) : Int.fdiv (s : Int) ((k : Nat) : Int) = ((s / k : Nat) : Int) := by rw [Int.fdiv_eq_ediv_of_nonneg _ (by omega)]; rfl
theorem law_ok : LawOk := by
  intro w G Φ y ns hK hd hn hy
  have H : KL G.K := by rw [hK]; exact klfacts w
  obtain ⟨s, hs⟩ := sd_head ns
  obtain ⟨hl5, hl0⟩ := sd_len ns
  show EX nm Φ (lb 0) _ _
  refine lw0 H hn hy fun q => ?_
  generalize sd ns = l at hs hl5 hl0
  have e1 := fmodN s 8
  refine lw1 (r := 4 + s % 8) hs (by show 4 + Int.fmod (s : Int) ((8 : Nat) : Int) = _; rw [e1]; omega) ?_
  refine lw2 fun ym => ?_
  refine lw3 fun pl => ?_
  refine lw4 H ?_
  refine lw5 H (putH_len 45) ?_
  refine lw6 H mem0_base ?_
  refine lw7 H (mem0_len (4 + s % 8)) fun pn => ?_
  refine lw8 H hd rfl fun x d => ?_
  have ha : Int.fmod (Int.fdiv (s : Int) 3) 256 = ((s / 3 % 256 : Nat) : Int) := by
    show Int.fmod (Int.fdiv (s : Int) ((3 : Nat) : Int)) ((256 : Nat) : Int) = _
    rw [fdivN, fmodN]
  have hp : 48 + Int.fmod (s : Int) 2 + 8 * Int.fmod (Int.fdiv (s : Int) 2) 2 + 64 * Int.fmod (Int.fdiv (s : Int) 4) 2 = ((48 + s % 2 + 8 * (s / 2 % 2) + 64 * (s / 4 % 2) : Nat) : Int) := by
    show 48 + Int.fmod (s : Int) ((2 : Nat) : Int) + 8 * Int.fmod (Int.fdiv (s : Int) ((2 : Nat) : Int)) ((2 : Nat) : Int) + 64 * Int.fmod (Int.fdiv (s : Int) ((4 : Nat) : Int)) ((2 : Nat) : Int) = _
    rw [fdivN, fdivN, fmodN, fmodN, fmodN]
    omega
  refine lw9 (x := x) (d := d) (c := cpu0 512 (mem0 (4 + s % 8))) (m := mem0 (4 + s % 8)) (pn := pn) (ps := hplaces 26) hs ha rfl hp ?_
  refine lw10 H ?_
  refine lw11 H (by omega) fun wt => ?_
  have hWl : (enumd waitF l l.length).length = l.length := enumd_length waitF l l.length (Nat.le_refl _)
  refine lw12 H hs (by omega) ?_
  have hW0 : ((enumd waitF l l.length).set 0 (1 + Int.fmod (s : Int) 4))[0]? = some (1 + Int.fmod (s : Int) 4) := List.getElem?_set_self (by omega)
  refine lw13 H hW0 ?_
  refine lw14 H fun oo wo => ?_
  let v : WV := ⟨oo, wo, wt, x, d, pn, pl, ym, q, y, s / 3 % 256, Int.fmod (Int.fdiv (s : Int) 5) 256, 48 + s % 2 + 8 * (s / 2 % 2) + 64 * (s / 4 % 2), 4 + s % 8, mem0 (4 + s % 8), (enumd waitF l l.length).set 0 (1 + Int.fmod (s : Int) 4)⟩
  have P : Plain v.r v.m := plain0 _
  have Z : P0 v.p0 := P0.of (by omega) (by omega) (by omega)
  refine EX_norm (wloc v 0 (1 + Int.fmod (s : Int) 4) 0 0) (whp v { cpu0 512 (mem0 (4 + s % 8)) with a := ((s / 3 % 256 : Nat) : Int), y := Int.fmod (Int.fdiv (s : Int) 5) 256, p := ((48 + s % 2 + 8 * (s / 2 % 2) + 64 * (s / 4 % 2) : Nat) : Int) } [] []) ?_ (.refl _) ?_
  · unfold wloc; k_all
  refine lw15 H hd (v := v) P Z (Nat.mod_lt _ (by decide)) (by show 4 ≤ 4 + s % 8; omega) (by show 4 + s % 8 < 12; omega) (g := ⟨512, 255, (v.a0 : Int), 0, v.y0, (v.p0 : Int), v.m⟩) ⟨rfl, rfl, rfl, rfl, rfl, rfl, rfl⟩ (inv_first P) (by show List.length (List.set _ _ _) ≤ 5; rw [List.length_set, hWl]; exact hl5) fun called wait taken word c g hV I => ?_
  obtain ⟨f1, f2, f3, f4, f5, f6, f7, f8, f9, f10⟩ := I.fin P Z
  have hw := I.w10
  obtain ⟨v1, v2, v3, v4, v5, v6, v7⟩ := hV
  refine lw16 H hd ⟨by rw [v1, f1]; rfl, by rw [v3, f2], by rw [v4, f3], by rw [v5, f4], by rw [v2, f5]; rfl, by rw [v6, f6]⟩ ?_
  refine lw17 H (mem0_len _) (by omega) ?_
  refine lw18 H (mem0_len _) (by omega) ?_
  refine lw19 H hd _ (by rw [v7]; exact f7) f8 (by rw [v7]; exact f9) (by rw [v7]; exact f10) fun σ => rfl
theorem holds06 : RL.Holds := claim_of law_ok
end
end
end
end M6
theorem PySem.Challenge.cw_me0006_06_holds : PySem.Challenge.rw_me0006_06.Holds := by
  exact M6.holds06
