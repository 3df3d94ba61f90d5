import PyProof.Rows.All
import Wide.All
import OpenK.AllK
import Wide.FinOn
import PySem.Challenge.RW_me0006_01
open PySem PySem.W PyProof.Rows PySem.Calls
set_option Elab.async false
set_option linter.unusedVariables false
set_option linter.unusedSimpArgs false
set_option maxRecDepth 100000
set_option genSizeOfSpec false
set_option compiler.extract_closed false
set_option maxHeartbeats 16000000
namespace VE
/-- Values without references to objects that change. -/
inductive PV where
  | int (i : Int)
  | bool (b : Bool)
  | none
  | any
  | fn (a : Addr)
  | tup (l : List PV)
  | lst (l : List PV)
  | raw (l : List PV)
inductive VV where
  | p (v : PV)
  | ref (k : Nat)
  | meth (f : Addr) (k : Nat)
inductive VO where
  | list (l : List PV)
  | inst (fs : List (Nat × VV))
structure VS where
  loc : List (Nat × VV)
  hp : List VO
noncomputable def getN {α : Type} (n : Nat) : List (Nat × α) → Option α
  | [] => .none
  | (k, v) :: r => match Nat.beq n k with
    | true => some v
    | false => getN n r
noncomputable def putN {α : Type} (n : Nat) (v : α) : List (Nat × α) → List (Nat × α)
  | [] => [(n, v)]
  | (k, u) :: r => match Nat.beq n k with
    | true => (k, v) :: r
    | false => (k, u) :: putN n v r
/-- Values as the heap holds them. -/
inductive PRepL (F : Addr → Obj → Prop) : List PV → List Value → Prop
  | nil : PRepL F [] []
  | int {l vs} (i : Int) (t : Tok) : PRepL F l vs → PRepL F (.int i :: l) (.int i t :: vs)
  | bool {l vs} (b : Bool) : PRepL F l vs → PRepL F (.bool b :: l) (.bool b :: vs)
  | none {l vs} : PRepL F l vs → PRepL F (.none :: l) (.none :: vs)
  | any {l vs} {v : Value} : handedIn v = true → PRepL F l vs → PRepL F (.any :: l) (v :: vs)
  | fn {l vs} (a : Addr) : PRepL F l vs → PRepL F (.fn a :: l) (.ref a :: vs)
  | tup {l vs} {a : Addr} {ws : List Value} {n : Nat} {l' : List PV} : F a { cls := .type "tuple", data := .seq ws.toArray n } → PRepL F l' ws → PRepL F l vs → PRepL F (.tup l' :: l) (.ref a :: vs)
  | lst {l vs} {a : Addr} {ws : List Value} {n : Nat} {l' : List PV} : F a (listOf ws.toArray n) → PRepL F l' ws → PRepL F l vs → PRepL F (.lst l' :: l) (.ref a :: vs)
  | raw {l vs} {a : Addr} {o : Obj} {ws : List Value} {n : Nat} {l' : List PV} : F a o → o.cls = .type "list" → o.data = .seq ws.toArray n → PRepL F l' ws → PRepL F l vs → PRepL F (.raw l' :: l) (.ref a :: vs)
noncomputable abbrev PRep (F : Addr → Obj → Prop) (v : PV) (c : Value) : Prop := PRepL F [v] [c]
structure NOk (N : Nat → Str) : Prop where
  inj : ∀ i j, N i = N j → i = j
  dbg : ∀ n, (N n == ("__debug__" : Str)) = false
  cd : ∀ n, (N n == ("__classdict__" : Str)) = false
/-- What the class's own table says of one name. -/
structure ClsOk (K : Frag) (C : Addr) : Prop where
  get : plainGet K C "" = true
  has : hasDictIn K C = true
  set : findIn K (.ref C) "__setattr__" = some (some (.builtin "object.__setattr__"))
  over : plainOver K C = true
structure FieldOk (K : Frag) (C : Addr) (n : Str) : Prop where
  find : findIn K (.ref C) n = some none
  taker : takerIn K C n = some none
structure ClsInt (K : Frag) (C : Addr) (n : Str) (i : Int) : Prop where
  ex : ∃ t, findIn K (.ref C) n = some (some (.int i t)) ∧ specialIn K (.int i t) "__get__" = some none
  copied : copiedNames.contains n = false
structure ClsRef (K : Frag) (C : Addr) (n : Str) (a : Addr) : Prop where
  find : findIn K (.ref C) n = some (some (.ref a))
  get : specialIn K (.ref a) "__get__" = some none
  copied : copiedNames.contains n = false
structure ClsFn (K : Frag) (C : Addr) (n : Str) (f : Addr) : Prop where
  find : findIn K (.ref C) n = some (some (.ref f))
  fn : isFn K (.ref f) = true
  get : specialIn K (.ref f) "__get__" = some (some (.builtin "function.__get__"))
  takes : takesIn K (.ref f) = some false
  copied : copiedNames.contains n = false
  keep : keepIn K (.ref f) = true
/-- What is known of the class: its fields, numbers, functions, tables. -/
structure Stc where
  topn : Nat
  flds : List Nat
  nums : List (Nat × Int)
  fns : List (Nat × Addr)
  globs : List (Nat × Addr)
  bis : List Nat
  tabs : List (Nat × List PV)
structure TabOk (K : Frag) (C : Addr) (n : Str) (l : List PV) (a : Addr) (o : Obj) (ws : List Value) (k : Nat) : Prop where
  ref : ClsRef K C n a
  at_ : K.lookup a = some o
  cls : o.cls = .type "list"
  data : o.data = .seq ws.toArray k
  rep : PRepL (fun a o => K.lookup a = some o) l ws
structure StcOk (N : Nat → Str) (K : Frag) (C : Addr) (S : Stc) : Prop where
  cls : ClsOk K C
  fld : ∀ n, n ∈ S.flds → FieldOk K C (N n)
  int : ∀ n i, getN n S.nums = some i → ClsInt K C (N n) i
  fn : ∀ n f, (n, f) ∈ S.fns → ClsFn K C (N n) f ∧ fnIn K f = true
  glob : ∀ n f, (n, f) ∈ S.globs → nsIn K mainGlobals (N n) = some (some (.ref f)) ∧ keepIn K (.ref f) = true
  bi : ∀ n, n ∈ S.bis → nsIn K mainGlobals (N n) = some none
  tab : ∀ n l, getN n S.tabs = some l → ∃ a o ws k, TabOk K C (N n) l a o ws k
variable {N : Nat → Str} {Z : Stc}
/-- What no frame changes. -/
structure Gl (N : Nat → Str) (Z : Stc) where
  hN : NOk N
  prog : Program
  w : World
  K : Frag
  p : Program
  loose : List Str
  mean : ExcName → Option Value
  mg : Str → Option Value
  mb : Str → Option Value
  os : OsState
  h : Heap
  C : Addr
  KX : K.In h
  SO : StcOk N K C Z
/-- Where the walk's objects lie. -/
structure Wd where
  rho : List (Addr × Addr)
  fro : List (Addr × Obj)
noncomputable def FW (G : Gl N Z) (W : Wd) (a : Addr) (o : Obj) : Prop := (a, o) ∈ W.fro ∨ G.h.get? a = some o
inductive VRep (G : Gl N Z) (W : Wd) : VV → Value → Prop
  | p {v : PV} {c : Value} : PRep (FW G W) v c → VRep G W (.p v) c
  | ref {k : Nat} {a d : Addr} : W.rho[k]? = some (a, d) → VRep G W (.ref k) (.ref a)
  | meth {f q : Addr} {k : Nat} {a d : Addr} : fnIn G.K f = true → W.rho[k]? = some (a, d) → (q, methodObj (.ref f) (.ref a)) ∈ W.fro → VRep G W (.meth f k) (.ref q)
inductive VRepL (G : Gl N Z) (W : Wd) : List VV → List Value → Prop
  | nil : VRepL G W [] []
  | cons {v c l vs} : VRep G W v c → VRepL G W l vs → VRepL G W (v :: l) (c :: vs)
structure Wd.le (W W' : Wd) : Prop where
  rho : W.rho <+: W'.rho
  fro : W.fro ⊆ W'.fro
noncomputable def FRep (G : Gl N Z) (W : Wd) (fs : List (Nat × VV)) (es : List DictEntry) : Prop :=
  es.length = fs.length ∧ (es.any (·.refKey)) = false ∧
  ∀ k, match getN k fs with
    | some v => ∃ c, getL (N k) es = some (some c) ∧ VRep G W v c
    | none => getL (N k) es = some none
/-- The walk's objects and what the heap holds for them. -/
inductive HR (G : Gl N Z) (W : Wd) : List VO → List (Addr × Addr) → List (Addr × Obj) → Prop
  | nil : HR G W [] [] []
  | list {os ρ ns a d l vs n} : PRepL (FW G W) l vs → HR G W os ρ ns → HR G W (.list l :: os) ((a, d) :: ρ) ((a, listOf vs.toArray n) :: ns)
  | inst {os ρ ns a d fs es n} : FRep G W fs es → HR G W os ρ ns → HR G W (.inst fs :: os) ((a, d) :: ρ) ((a, instObj G.C d) :: (d, dictOf es n) :: ns)
/-- The frame's cells. -/
inductive CR (G : Gl N Z) (W : Wd) (loc : List (Nat × VV)) : List (Nat × Addr) → List (Addr × Obj) → Prop
  | nil : CR G W loc [] []
  | cons {k c o x cs ns} : o.data = .cell x → (∀ v, getN k loc = some v → ∃ u, x = some u ∧ VRep G W v u) → CR G W loc cs ns → CR G W loc ((k, c) :: cs) ((c, o) :: ns)
/-- The frame that the walk stands in. -/
structure Cx (G : Gl N Z) (cs : Scope) where
  A : Around
  h₀ : Heap
  L : Addr
  cells : List (Str × Addr)
  qual : Str
  func : Option Addr
  code : Value
  frame : Option Addr
  cv : List (Nat × Addr)
  X : ∀ a o, G.h.get? a = some o → h₀.get? a = some o
  T : Top G.p G.loose G.mean G.mg G.mb h₀
  kind : cs.kind = .function
  hh : A.handled = none
  un : A.units ≤ 3 * A.depth + 4
  dp : A.depth ≤ 1000
  cvnd : (cv.map (·.1)).Nodup
  lowd : cs.names.lookup (N Z.topn) = some .local → A.depth ≤ 400
  cvin : cs.names.lookup (N Z.topn) = some .local → ∀ n, cs.names.lookup (N n) = some .cell → n ∈ cv.map (·.1)
variable {G : Gl N Z} {cs : Scope}
noncomputable def Cx.env (Φ : Cx G cs) : Env := { scope := cs, locals := Φ.L, globals := mainGlobals, cells := Φ.cells, qual := Φ.qual, func := Φ.func, code := Φ.code, frame := Φ.frame, builtins := builtinsNs }
noncomputable abbrev Cx.M (_ : Cx G cs) : Model := model G.prog G.w
theorem Cx.K (Φ : Cx G cs) : G.K.In Φ.h₀ := fun a o e => Φ.X a o (G.KX a o e)
/-- What a name of the state stands for in the frame. -/
inductive LR (Φ : Cx G cs) (W : Wd) (m : Str → Option Value) (k : Nat) (v : VV) : Prop where
  | loc (c : Value) : cs.names.lookup (N k) = some .local → m (N k) = some c → VRep G W v c → LR Φ W m k v
  | cell : k ∈ Φ.cv.map (·.1) → LR Φ W m k v
  | fix (c : Addr) (u : Value) : (cs.names.lookup (N k) = some .cell ∨ cs.names.lookup (N k) = some .free) → Φ.cells.lookup (N k) = some c → Φ.h₀.IsCell c (some u) → VRep G W v u → LR Φ W m k v
structure SimS (Φ : Cx G cs) (W : Wd) (τ : VS) (x : List (Addr × Obj)) (s : Shared) (m : Str → Option Value) (n1 n2 : List (Addr × Obj)) : Prop where
  F : Fr Φ.h₀ Φ.L s.heap m
  Nw : News Φ.h₀ Φ.L s.heap (x ++ (n1 ++ (n2 ++ W.fro)))
  nd : ((x ++ (n1 ++ (n2 ++ W.fro))).map (·.1)).Nodup
  H : HR G W τ.hp W.rho n1
  C : CR G W τ.loc Φ.cv n2
  L : ∀ k v, getN k τ.loc = some v → LR Φ W m k v
  cv : ∀ k c, (k, c) ∈ Φ.cv → (cs.names.lookup (N k) = some .cell ∨ cs.names.lookup (N k) = some .free) ∧ Φ.cells.lookup (N k) = some c
  o : s.os = G.os
  g : s.gens = #[]
inductive SimX (Φ : Cx G cs) (W : Wd) (τ : VS) (x : List (Addr × Obj)) (s : Shared) : Prop
  | mk (m : Str → Option Value) (n1 n2 : List (Addr × Obj)) (F : Fr Φ.h₀ Φ.L s.heap m) (Nw : News Φ.h₀ Φ.L s.heap (x ++ (n1 ++ (n2 ++ W.fro)))) (nd : ((x ++ (n1 ++ (n2 ++ W.fro))).map (·.1)).Nodup) (H : HR G W τ.hp W.rho n1) (C : CR G W τ.loc Φ.cv n2) (L : ∀ k v, getN k τ.loc = some v → LR Φ W m k v) (cv : ∀ k c, (k, c) ∈ Φ.cv → (cs.names.lookup (N k) = some .cell ∨ cs.names.lookup (N k) = some .free) ∧ Φ.cells.lookup (N k) = some c) (o : s.os = G.os) (g : s.gens = #[]) : SimX Φ W τ x s
noncomputable abbrev Sim (Φ : Cx G cs) (W : Wd) (τ : VS) (s : Shared) : Prop := SimX Φ W τ [] s
theorem nbeq {a b : Nat} : Nat.beq a b = false ↔ a ≠ b := by
  cases h : Nat.beq a b with
  | true => simp [Nat.eq_of_beq_eq_true h]
  | false => simp [Nat.ne_of_beq_eq_false h]
theorem getN_putN {α : Type} (n : Nat) (v : α) : ∀ (fs : List (Nat × α)) (j : Nat), getN j (putN n v fs) = if j = n then some v else getN j fs
  | [], j => by
    simp only [putN, getN]
    by_cases h : j = n
    · subst h; simp
    · have : Nat.beq j n = false := nbeq.mpr h
      simp [h, this]
  | (k, u) :: r, j => by
    have ih := getN_putN n v r j
    simp only [putN]
    cases hk : Nat.beq n k with
    | true =>
      have hk := Nat.eq_of_beq_eq_true hk
      subst hk
      simp only [getN]
      by_cases h : j = n
      · subst h; simp
      · have : Nat.beq j n = false := nbeq.mpr h
        simp [h, this]
    | false =>
      have hk : n ≠ k := nbeq.mp hk
      simp only [getN]
      cases hj : Nat.beq j k with
      | true =>
        have hj := Nat.eq_of_beq_eq_true hj
        subst hj
        simp [Ne.symm hk]
      | false => exact ih
theorem getN_mem {α : Type} {n : Nat} {v : α} : ∀ {l : List (Nat × α)}, getN n l = some v → (n, v) ∈ l := by
  intro l
  induction l with
  | nil => intro h; cases h
  | cons p r ih =>
    obtain ⟨k, u⟩ := p
    intro h
    simp only [getN] at h
    cases e : Nat.beq n k with
    | true => rw [e] at h; cases h; rw [Nat.eq_of_beq_eq_true e]; exact .head _
    | false => rw [e] at h; exact .tail _ (ih h)
theorem putN_length {α : Type} (n : Nat) (v : α) : ∀ fs : List (Nat × α), (putN n v fs).length = if (getN n fs).isSome then fs.length else fs.length + 1
  | [] => rfl
  | (k, u) :: r => by
    have ih := putN_length n v r
    cases hk : Nat.beq n k with
    | true => simp [putN, getN, hk]
    | false =>
      simp only [putN, getN, hk, List.length_cons, ih]
      split <;> rfl
section
variable {F F' : Addr → Obj → Prop}
theorem PRepL.mono (k : ∀ a o, F a o → F' a o) {l : List PV} {vs : List Value} (h : PRepL F l vs) : PRepL F' l vs := by
  induction h with
  | nil => exact .nil
  | int i t _ ih => exact .int i t ih
  | bool b _ ih => exact .bool b ih
  | none _ ih => exact .none ih
  | any e _ ih => exact .any e ih
  | fn a _ ih => exact .fn a ih
  | tup e _ _ i1 i2 => exact .tup (k _ _ e) i1 i2
  | lst e _ _ i1 i2 => exact .lst (k _ _ e) i1 i2
  | raw e c d _ _ i1 i2 => exact .raw (k _ _ e) c d i1 i2
theorem PRepL.length {l : List PV} {vs : List Value} (h : PRepL F l vs) : vs.length = l.length := by
  induction h with
  | nil => rfl
  | int i t _ ih => simp [ih]
  | bool b _ ih => simp [ih]
  | none _ ih => simp [ih]
  | any e _ ih => simp [ih]
  | fn a _ ih => simp [ih]
  | tup e _ _ i1 i2 => simp [i2]
  | lst e _ _ i1 i2 => simp [i2]
  | raw e c d _ _ i1 i2 => simp [i2]
theorem PRepL.cons {v : PV} {c : Value} {l : List PV} {vs : List Value} (h : PRep F v c) (r : PRepL F l vs) : PRepL F (v :: l) (c :: vs) := by
  cases h with
  | int i t _ => exact .int i t r
  | bool b _ => exact .bool b r
  | none _ => exact .none r
  | any e _ => exact .any e r
  | fn a _ => exact .fn a r
  | tup e f _ => exact .tup e f r
  | lst e f _ => exact .lst e f r
  | raw e c d f _ => exact .raw e c d f r
theorem PRepL.uncons {v : PV} {c : Value} {l : List PV} {vs : List Value} (h : PRepL F (v :: l) (c :: vs)) : PRep F v c ∧ PRepL F l vs := by
  cases h with
  | int i t r => exact ⟨.int i t .nil, r⟩
  | bool b r => exact ⟨.bool b .nil, r⟩
  | none r => exact ⟨.none .nil, r⟩
  | any e r => exact ⟨.any e .nil, r⟩
  | fn a r => exact ⟨.fn a .nil, r⟩
  | tup e f r => exact ⟨.tup e f .nil, r⟩
  | lst e f r => exact ⟨.lst e f .nil, r⟩
  | raw e c d f r => exact ⟨.raw e c d f .nil, r⟩
theorem PRepL.app {l : List PV} {vs : List Value} {r : List PV} {ws : List Value} (h : PRepL F l vs) (k : PRepL F r ws) : PRepL F (l ++ r) (vs ++ ws) := by
  induction h with
  | nil => exact k
  | int i t _ ih => exact .int i t ih
  | bool b _ ih => exact .bool b ih
  | none _ ih => exact .none ih
  | any e _ ih => exact .any e ih
  | fn a _ ih => exact .fn a ih
  | tup e f _ i1 i2 => exact .tup e f i2
  | lst e f _ i1 i2 => exact .lst e f i2
  | raw e c d f _ i1 i2 => exact .raw e c d f i2
theorem PRepL.get : ∀ {l : List PV} {vs : List Value} {k : Nat} {v : PV}, PRepL F l vs → l[k]? = some v → ∃ c, vs[k]? = some c ∧ PRep F v c
  | [], _, k, v, _, e => by simp at e
  | a :: l, [], k, v, h, _ => by have := h.length; simp at this
  | a :: l, c :: vs, 0, v, h, e => by
    simp only [List.getElem?_cons_zero, Option.some.injEq] at e
    subst e
    exact ⟨c, rfl, h.uncons.1⟩
  | a :: l, c :: vs, k + 1, v, h, e => by
    simp only [List.getElem?_cons_succ] at e ⊢
    exact h.uncons.2.get e
theorem PRepL.take : ∀ (n : Nat) {l : List PV} {vs : List Value}, PRepL F l vs → PRepL F (l.take n) (vs.take n)
  | 0, _, _, _ => by simpa using .nil
  | n + 1, [], [], _ => by simpa using .nil
  | n + 1, [], _ :: _, h => by have := h.length; simp at this
  | n + 1, _ :: _, [], h => by have := h.length; simp at this
  | n + 1, a :: l, c :: vs, h => by simpa using PRepL.cons h.uncons.1 (h.uncons.2.take n)
theorem PRepL.drop : ∀ (n : Nat) {l : List PV} {vs : List Value}, PRepL F l vs → PRepL F (l.drop n) (vs.drop n)
  | 0, _, _, h => by simpa using h
  | n + 1, [], [], _ => by simpa using .nil
  | n + 1, [], _ :: _, h => by have := h.length; simp at this
  | n + 1, _ :: _, [], h => by have := h.length; simp at this
  | n + 1, a :: l, c :: vs, h => by simpa using h.uncons.2.drop n
theorem PRepL.set : ∀ (k : Nat) {l : List PV} {vs : List Value} {v : PV} {c : Value}, PRep F v c → PRepL F l vs → PRepL F (l.set k v) (vs.set k c)
  | _, [], [], _, _, _, _ => .nil
  | _, [], _ :: _, _, _, _, h => by have := h.length; simp at this
  | _, _ :: _, [], _, _, _, h => by have := h.length; simp at this
  | 0, a :: l, d :: vs, v, c, r, h => PRepL.cons r h.uncons.2
  | k + 1, a :: l, d :: vs, v, c, r, h => PRepL.cons h.uncons.1 (PRepL.set k r h.uncons.2)
theorem PRepL.ints : ∀ {l : List Int} {vs : List Value}, PRepL F (l.map .int) vs → IntsAre vs l
  | [], vs, h => by cases h; exact .nil
  | i :: l, vs, h => by
    cases h with
    | int _ t r => exact .cons i t r.ints
theorem PRepL.of_ints {l : List Int} {vs : List Value} (h : IntsAre vs l) : PRepL F (l.map .int) vs := by
  induction h with
  | nil => exact .nil
  | cons k t _ ih => exact .int k t ih
theorem PRep.handed {v : PV} {c : Value} (h : PRep F v c) : handedIn c = true := by
  cases h <;> first | rfl | assumption
end
theorem Wd.le.refl (W : Wd) : W.le W := ⟨List.prefix_refl _, fun _ h => h⟩
theorem Wd.le.trans {W W' W'' : Wd} (h : W.le W') (k : W'.le W'') : W.le W'' := ⟨h.rho.trans k.rho, fun _ x => k.fro (h.fro x)⟩
theorem Wd.le.FW {W W' : Wd} (h : W.le W') (a : Addr) (o : Obj) (f : FW G W a o) : FW G W' a o := f.elim (fun x => .inl (h.fro x)) .inr
theorem Wd.le.at {W W' : Wd} (h : W.le W') {k : Nat} {p : Addr × Addr} (e : W.rho[k]? = some p) : W'.rho[k]? = some p := by
  obtain ⟨t, ht⟩ := h.rho
  rw [← ht]
  rw [List.getElem?_append_left (List.getElem?_eq_some_iff.mp e).1]
  exact e
theorem VRep.mono {W W' : Wd} (h : W.le W') {v : VV} {c : Value} (r : VRep G W v c) : VRep G W' v c := by
  cases r with
  | p r => exact .p (r.mono h.FW)
  | ref e => exact .ref (h.at e)
  | meth g e f => exact .meth g (h.at e) (h.fro f)
theorem VRepL.mono {W W' : Wd} (h : W.le W') {v : List VV} {c : List Value} (r : VRepL G W v c) : VRepL G W' v c := by
  induction r with
  | nil => exact .nil
  | cons a _ ih => exact .cons (a.mono h) ih
theorem VRep.handed {W : Wd} {v : VV} {c : Value} (r : VRep G W v c) : handedIn c = true := by
  cases r with
  | p r => exact r.handed
  | ref e => rfl
  | meth _ _ _ => rfl
theorem FRep.mono {W W' : Wd} (h : W.le W') {fs : List (Nat × VV)} {es : List DictEntry} (r : FRep G W fs es) : FRep G W' fs es := by
  refine ⟨r.1, r.2.1, fun k => ?_⟩
  have := r.2.2 k
  cases hk : getN k fs with
  | none => rw [hk] at this; exact this
  | some v => rw [hk] at this; obtain ⟨c, e, q⟩ := this; exact ⟨c, e, q.mono h⟩
theorem HR.mono {W W' : Wd} (h : W.le W') {os ρ ns} (r : HR G W os ρ ns) : HR G W' os ρ ns := by
  induction r with
  | nil => exact .nil
  | list a _ ih => exact .list (a.mono h.FW) ih
  | inst a _ ih => exact .inst (a.mono h) ih
theorem LR.mono {Φ : Cx G cs} {W W' : Wd} (h : W.le W') {m k v} (r : LR Φ W m k v) : LR Φ W' m k v := by
  cases r with
  | loc c a b r => exact .loc c a b (r.mono h)
  | cell a => exact .cell a
  | fix c u a b d r => exact .fix c u a b d (r.mono h)
theorem CR.mono {W W' : Wd} (h : W.le W') {loc cs ns} (r : CR G W loc cs ns) : CR G W' loc cs ns := by
  induction r with
  | nil => exact .nil
  | cons e f _ ih => exact .cons e (fun v hv => let ⟨u, e, q⟩ := f v hv; ⟨u, e, q.mono h⟩) ih
end VE
namespace VE
variable {N : Nat → Str} {Z : Stc} {G : Gl N Z} {cs : Scope} {Φ : Cx G cs} {W : Wd} {τ : VS} {s : Shared} {x : List (Addr × Obj)}
theorem SimX.toks (h : SimX Φ W τ x s) (t : Nat) : SimX Φ W τ x { s with toks := t } :=
  let ⟨m, n1, n2, F, Nw, nd, H, C, L, cv, o, g⟩ := h
  ⟨m, n1, n2, F, Nw, nd, H, C, L, cv, o, g⟩
theorem SimX.base (h : SimX Φ W τ x s) : ∀ b o, Φ.h₀.get? b = some o → s.heap.get? b = some o :=
  let ⟨m, n1, n2, F, Nw, nd, H, C, L, cv, o, g⟩ := h
  F.keep
theorem SimX.K (h : SimX Φ W τ x s) : G.K.In s.heap := Φ.K.keeps h.base
theorem SimX.FW (h : SimX Φ W τ x s) {a : Addr} {o : Obj} (f : FW G W a o) : s.heap.get? a = some o := by
  rcases f with f | f
  · obtain ⟨m, n1, n2, F, Nw, _⟩ := h
    exact (Nw (a, o) (by simp [f])).1
  · exact h.base _ _ (Φ.X _ _ f)
/-- New objects of which nothing is told as yet. -/
theorem SimX.new {h' : Heap} {q : Addr} {co : Obj} {t : Nat} (h : SimX Φ W τ x s) (k : ∀ b o, s.heap.get? b = some o → h'.get? b = some o) (e : s.heap.get? q = none) (e' : h'.get? q = some co) :
    SimX Φ W τ ((q, co) :: x) { s with heap := h', toks := t } := by
  obtain ⟨m, n1, n2, F, Nw, nd, H, C, L, cv, o, g⟩ := h
  refine ⟨m, n1, n2, F.keeps k, fun p hp => ?_, ?_, H, C, L, cv, o, g⟩
  · rcases List.mem_cons.mp hp with rfl | hp
    · refine ⟨e', fun z => ?_, ?_⟩
      · obtain ⟨oL, es, ep, hL, _⟩ := F.ns
        have z : q = Φ.L := z
        rw [z, hL] at e; cases e
      · cases hq : Φ.h₀.get? q with
        | none => rfl
        | some o' => rw [F.keep _ _ hq] at e; cases e
    · exact Nw.grown k p hp
  · show (((q, co) :: (x ++ _)).map (·.1)).Nodup
    rw [List.map_cons, List.nodup_cons]
    refine ⟨fun hm => ?_, nd⟩
    obtain ⟨p, hp, e2⟩ := List.mem_map.mp hm
    rw [← show p.1 = q from e2, (Nw p hp).1] at e
    cases e
theorem SimX.newN {h' : Heap} {q : Addr} {co : Obj} {t : Nat} {m : Str → Option Value} {n1 n2 : List (Addr × Obj)} (S : SimS Φ W τ x s m n1 n2) (F' : Fr Φ.h₀ Φ.L h' m) (N' : News Φ.h₀ Φ.L h' ((q, co) :: (x ++ (n1 ++ (n2 ++ W.fro))))) (lt : ∀ p ∈ x ++ (n1 ++ (n2 ++ W.fro)), p.1 < q) :
    SimX Φ W τ ((q, co) :: x) { s with heap := h', toks := t } := by
  obtain ⟨F, Nw, nd, H, C, L, cv, o, g⟩ := S
  refine ⟨m, n1, n2, F', N', ?_, H, C, L, cv, o, g⟩
  show (((q, co) :: (x ++ _)).map (·.1)).Nodup
  rw [List.map_cons, List.nodup_cons]
  refine ⟨fun hm => ?_, nd⟩
  obtain ⟨p, hp, e2⟩ := List.mem_map.mp hm
  have := lt p hp
  rw [show p.1 = q from e2] at this
  exact Nat.lt_irrefl _ this
/-- A new object that will not change. -/
theorem SimX.freeze {q : Addr} {co : Obj} (h : SimX Φ W τ ((q, co) :: x) s) : ∃ W', W.le W' ∧ (q, co) ∈ W'.fro ∧ W'.rho = W.rho ∧ SimX Φ W' τ x s := by
  obtain ⟨m, n1, n2, F, Nw, nd, H, C, L, cv, o, g⟩ := h
  have le : W.le ⟨W.rho, (q, co) :: W.fro⟩ := ⟨List.prefix_refl _, fun _ h => .tail _ h⟩
  have pm : (((q, co) :: x) ++ (n1 ++ (n2 ++ W.fro))).Perm (x ++ (n1 ++ (n2 ++ ((q, co) :: W.fro)))) := by
    have e : x ++ (n1 ++ (n2 ++ ((q, co) :: W.fro))) = (x ++ (n1 ++ n2)) ++ (q, co) :: W.fro := by simp
    rw [e]
    refine List.Perm.trans ?_ List.perm_middle.symm
    simp
  exact ⟨_, le, .head _, rfl, m, n1, n2, F, fun p hp => Nw p (pm.symm.subset hp), ((pm.map _).nodup_iff).mp nd, H.mono le, C.mono le, fun k v e => (L k v e).mono le, cv, o, g⟩
theorem SimX.perm {x' : List (Addr × Obj)} (p : x.Perm x') (h : SimX Φ W τ x s) : SimX Φ W τ x' s := by
  obtain ⟨m, n1, n2, F, Nw, nd, H, C, L, cv, o, g⟩ := h
  have pm := List.Perm.append_right (n1 ++ (n2 ++ W.fro)) p
  exact ⟨m, n1, n2, F, fun p hp => Nw p (pm.symm.subset hp), ((pm.map _).nodup_iff).mp nd, H, C, L, cv, o, g⟩
theorem SimX.forget {q : Addr} {co : Obj} (h : SimX Φ W τ ((q, co) :: x) s) : SimX Φ W τ x s := by
  obtain ⟨m, n1, n2, F, Nw, nd, H, C, L, cv, o, g⟩ := h
  have nd : (((q, co) :: (x ++ (n1 ++ (n2 ++ W.fro)))).map (·.1)).Nodup := nd
  rw [List.map_cons, List.nodup_cons] at nd
  exact ⟨m, n1, n2, F, fun p hp => Nw p (.tail _ hp), nd.2, H, C, L, cv, o, g⟩
theorem HR.snoc_list {os ρ ns} (r : HR G W os ρ ns) {a d : Addr} {l : List PV} {vs : List Value} {n : Nat} (h : PRepL (FW G W) l vs) : HR G W (os ++ [.list l]) (ρ ++ [(a, d)]) (ns ++ [(a, listOf vs.toArray n)]) := by
  induction r with
  | nil => exact .list h .nil
  | list a _ ih => exact .list a ih
  | inst a _ ih => exact .inst a ih
theorem HR.snoc_inst {os ρ ns} (r : HR G W os ρ ns) {a d : Addr} {fs : List (Nat × VV)} {es : List DictEntry} {n : Nat} (h : FRep G W fs es) : HR G W (os ++ [.inst fs]) (ρ ++ [(a, d)]) (ns ++ [(a, instObj G.C d), (d, dictOf es n)]) := by
  induction r with
  | nil => exact .inst h .nil
  | list a _ ih => exact .list a ih
  | inst a _ ih => exact .inst a ih
theorem HR.len {os ρ ns} (r : HR G W os ρ ns) : ρ.length = os.length := by
  induction r with
  | nil => rfl
  | list a _ ih => simp [ih]
  | inst a _ ih => simp [ih]
theorem HR.at_list {l : List PV} : ∀ {os ρ ns} {k : Nat}, HR G W os ρ ns → os[k]? = some (.list l) → ∃ a d vs n pre post, ρ[k]? = some (a, d) ∧ ns = pre ++ (a, listOf vs.toArray n) :: post ∧ PRepL (FW G W) l vs ∧
    ∀ l' vs' n', PRepL (FW G W) l' vs' → HR G W (os.set k (.list l')) ρ (pre ++ (a, listOf vs'.toArray n') :: post) := by
  intro os ρ ns k r
  induction r generalizing k with
  | nil => intro e; simp at e
  | list a r ih =>
    intro e
    cases k with
    | zero =>
      simp only [List.getElem?_cons_zero, Option.some.injEq, VO.list.injEq] at e
      subst e
      exact ⟨_, _, _, _, [], _, rfl, rfl, a, fun l' vs' n' h => .list h r⟩
    | succ k =>
      obtain ⟨a', d, vs, n, pre, post, e1, e2, h, c⟩ := ih (k := k) (by simpa using e)
      subst e2
      exact ⟨a', d, vs, n, _ :: pre, post, by simpa using e1, rfl, h, fun l' vs' n' h' => .list a (c l' vs' n' h')⟩
  | inst a r ih =>
    intro e
    cases k with
    | zero => simp at e
    | succ k =>
      obtain ⟨a', d, vs, n, pre, post, e1, e2, h, c⟩ := ih (k := k) (by simpa using e)
      subst e2
      exact ⟨a', d, vs, n, _ :: _ :: pre, post, by simpa using e1, rfl, h, fun l' vs' n' h' => .inst a (c l' vs' n' h')⟩
theorem HR.at_inst {fs : List (Nat × VV)} : ∀ {os ρ ns} {k : Nat}, HR G W os ρ ns → os[k]? = some (.inst fs) → ∃ a d es n pre post, ρ[k]? = some (a, d) ∧ ns = pre ++ (a, instObj G.C d) :: (d, dictOf es n) :: post ∧ FRep G W fs es ∧
    ∀ fs' es' n', FRep G W fs' es' → HR G W (os.set k (.inst fs')) ρ (pre ++ (a, instObj G.C d) :: (d, dictOf es' n') :: post) := by
  intro os ρ ns k r
  induction r generalizing k with
  | nil => intro e; simp at e
  | list a r ih =>
    intro e
    cases k with
    | zero => simp at e
    | succ k =>
      obtain ⟨a', d, vs, n, pre, post, e1, e2, h, c⟩ := ih (k := k) (by simpa using e)
      subst e2
      exact ⟨a', d, vs, n, _ :: pre, post, by simpa using e1, rfl, h, fun l' vs' n' h' => .list a (c l' vs' n' h')⟩
  | inst a r ih =>
    intro e
    cases k with
    | zero =>
      simp only [List.getElem?_cons_zero, Option.some.injEq, VO.inst.injEq] at e
      subst e
      exact ⟨_, _, _, _, [], _, rfl, rfl, a, fun l' vs' n' h => .inst h r⟩
    | succ k =>
      obtain ⟨a', d, vs, n, pre, post, e1, e2, h, c⟩ := ih (k := k) (by simpa using e)
      subst e2
      exact ⟨a', d, vs, n, _ :: _ :: pre, post, by simpa using e1, rfl, h, fun l' vs' n' h' => .inst a (c l' vs' n' h')⟩
/-- A new list becomes one of the walk's objects. -/
theorem SimX.own {q : Addr} {vs : List Value} {n : Nat} {l : List PV} (h : SimX Φ W τ ((q, listOf vs.toArray n) :: x) s) (r : PRepL (VE.FW G W) l vs) :
    ∃ W', W.le W' ∧ W'.rho[τ.hp.length]? = some (q, q) ∧ SimX Φ W' ⟨τ.loc, τ.hp ++ [.list l]⟩ x s := by
  obtain ⟨m, n1, n2, F, Nw, nd, H, C, L, cv, o, g⟩ := h
  have le : W.le ⟨W.rho ++ [(q, q)], W.fro⟩ := ⟨List.prefix_append _ _, fun _ h => h⟩
  have pm : (((q, listOf vs.toArray n) :: x) ++ (n1 ++ (n2 ++ W.fro))).Perm (x ++ ((n1 ++ [(q, listOf vs.toArray n)]) ++ (n2 ++ W.fro))) := by
    have e : x ++ ((n1 ++ [(q, listOf vs.toArray n)]) ++ (n2 ++ W.fro)) = (x ++ n1) ++ (q, listOf vs.toArray n) :: (n2 ++ W.fro) := by simp
    rw [e]
    refine List.Perm.trans ?_ List.perm_middle.symm
    simp
  refine ⟨_, le, ?_, m, n1 ++ [(q, listOf vs.toArray n)], n2, F, fun p hp => Nw p (pm.symm.subset hp), ((pm.map _).nodup_iff).mp nd, (H.mono le).snoc_list (r.mono le.FW), C.mono le, fun k v e => (L k v e).mono le, cv, o, g⟩
  show (W.rho ++ [(q, q)])[τ.hp.length]? = some (q, q)
  rw [← H.len]; simp
/-- A new object, and its dict. -/
theorem SimX.ownI {q d : Addr} {es : List DictEntry} {n : Nat} {fs : List (Nat × VV)} (h : SimX Φ W τ ((q, instObj G.C d) :: (d, dictOf es n) :: x) s) (r : FRep G W fs es) :
    ∃ W', W.le W' ∧ W'.rho[τ.hp.length]? = some (q, d) ∧ SimX Φ W' ⟨τ.loc, τ.hp ++ [.inst fs]⟩ x s := by
  obtain ⟨m, n1, n2, F, Nw, nd, H, C, L, cv, o, g⟩ := h
  have le : W.le ⟨W.rho ++ [(q, d)], W.fro⟩ := ⟨List.prefix_append _ _, fun _ h => h⟩
  have pm : (((q, instObj G.C d) :: (d, dictOf es n) :: x) ++ (n1 ++ (n2 ++ W.fro))).Perm (x ++ ((n1 ++ [(q, instObj G.C d), (d, dictOf es n)]) ++ (n2 ++ W.fro))) := by
    have e : x ++ ((n1 ++ [(q, instObj G.C d), (d, dictOf es n)]) ++ (n2 ++ W.fro)) = (x ++ n1) ++ ([(q, instObj G.C d), (d, dictOf es n)] ++ (n2 ++ W.fro)) := by simp
    rw [e, show ((q, instObj G.C d) :: (d, dictOf es n) :: x) ++ (n1 ++ (n2 ++ W.fro)) = [(q, instObj G.C d), (d, dictOf es n)] ++ ((x ++ n1) ++ (n2 ++ W.fro)) by simp]
    rw [← List.append_assoc, ← List.append_assoc (x ++ n1)]
    exact List.Perm.append_right _ List.perm_append_comm
  refine ⟨_, le, ?_, m, _, n2, F, fun p hp => Nw p (pm.symm.subset hp), ((pm.map _).nodup_iff).mp nd, (H.mono le).snoc_inst (r.mono le), C.mono le, fun k v e => (L k v e).mono le, cv, o, g⟩
  show (W.rho ++ [(q, d)])[τ.hp.length]? = some (q, d)
  rw [← H.len]; simp
theorem updOf {d : Addr} {o o' : Obj} : ∀ {pre post : List (Addr × Obj)}, ((pre ++ (d, o) :: post).map (·.1)).Nodup → Upd d o o' (pre ++ (d, o) :: post) (pre ++ (d, o') :: post) := by
  intro pre
  induction pre with
  | nil =>
    intro post nd
    rw [List.nil_append, List.map_cons, List.nodup_cons] at nd
    exact .head fun p hp e => nd.1 (List.mem_map.mpr ⟨p, hp, e⟩)
  | cons a pre ih =>
    intro post nd
    rw [List.cons_append, List.map_cons, List.nodup_cons] at nd
    exact .tail (fun e => nd.1 (List.mem_map.mpr ⟨(d, o), by simp, e.symm⟩)) (ih nd.2)
theorem changed {news news' : List (Addr × Obj)} {m : Str → Option Value} {h h' : Heap} {d : Addr} {co co' : Obj} {h₀ : Heap} {L : Addr} (F : Fr h₀ L h m) (Nw : News h₀ L h news)
    (U : Upd d co co' news news') (e : h'.get? d = some co') (sb : Heap.SameBut d h h') : Fr h₀ L h' m ∧ News h₀ L h' news' := by
  obtain ⟨pre, post, rfl, rfl, h1, h2⟩ := U.split
  have D := Nw (d, co) (by simp)
  obtain ⟨oL, es, ep, hL, r⟩ := F.ns
  refine ⟨⟨⟨oL, es, ep, (sb.2 _ (Ne.symm D.2.1)).trans hL, r⟩, fun b x q => (sb.2 b fun z => ?_).trans (F.keep b x q), F.above⟩, fun p hp => ?_⟩
  · have := D.2.2; rw [← z, q] at this; cases this
  · rcases List.mem_append.mp hp with q | q
    · have P := Nw p (List.mem_append_left _ q); exact ⟨(sb.2 _ (h1 p q)).trans P.1, P.2⟩
    · rcases List.mem_cons.mp q with rfl | q
      · exact ⟨e, D.2⟩
      · have P := Nw p (List.mem_append_right _ (.tail _ q)); exact ⟨(sb.2 _ (h2 p q)).trans P.1, P.2⟩
/-- A list of the walk's, as the heap holds it, and what a change of it leaves. -/
structure ListAt (Φ : Cx G cs) (W : Wd) (τ : VS) (x : List (Addr × Obj)) (s : Shared) (k : Nat) (l : List PV) (a : Addr) (vs : List Value) (n : Nat) : Prop where
  get : s.heap.get? a = some (listOf vs.toArray n)
  rep : PRepL (FW G W) l vs
  upd : ∀ l' vs' n' h' t, PRepL (FW G W) l' vs' → Heap.SameBut a s.heap h' → h'.get? a = some (listOf vs'.toArray n') → SimX Φ W ⟨τ.loc, τ.hp.set k (.list l')⟩ x { s with heap := h', toks := t }
  updU : ∀ l' vs' n', PRepL (FW G W) l' vs' → ∃ m news news', Fr Φ.h₀ Φ.L s.heap m ∧ News Φ.h₀ Φ.L s.heap news ∧ Upd a (listOf vs.toArray n) (listOf vs'.toArray n') news news' ∧
    ∀ h' t, Fr Φ.h₀ Φ.L h' m → News Φ.h₀ Φ.L h' news' → SimX Φ W ⟨τ.loc, τ.hp.set k (.list l')⟩ x { s with heap := h', toks := t }
theorem SimX.list (h : SimX Φ W τ x s) {k : Nat} {l : List PV} {a d : Addr} (e : τ.hp[k]? = some (.list l)) (ea : W.rho[k]? = some (a, d)) : ∃ vs n, ListAt Φ W τ x s k l a vs n := by
  obtain ⟨m, n1, n2, F, Nw, nd, H, C, L, cv, o, g⟩ := h
  obtain ⟨a', d', vs, n, pre, post, e1, e2, r, c⟩ := H.at_list e
  rw [ea] at e1
  cases e1
  subst e2
  have key : ∀ l' vs' n', PRepL (VE.FW G W) l' vs' → Upd a (listOf vs.toArray n) (listOf vs'.toArray n') (x ++ (pre ++ (a, listOf vs.toArray n) :: post ++ (n2 ++ W.fro))) (x ++ (pre ++ (a, listOf vs'.toArray n') :: post ++ (n2 ++ W.fro))) := fun l' vs' n' _ => by
    have := updOf (o' := listOf vs'.toArray n') (pre := x ++ pre) (post := post ++ (n2 ++ W.fro)) (d := a) (o := listOf vs.toArray n) (by simpa using nd)
    simpa using this
  have nd' : ∀ (vs' : List Value) n', ((x ++ (pre ++ (a, listOf vs'.toArray n') :: post ++ (n2 ++ W.fro))).map (·.1)).Nodup := fun vs' n' => by simpa using nd
  refine ⟨vs, n, (Nw (a, listOf vs.toArray n) (by simp)).1, r, fun l' vs' n' h' t r' sb e' => ?_, fun l' vs' n' r' => ⟨m, _, _, F, Nw, key l' vs' n' r', fun h' t F' N' => ⟨m, _, n2, F', N', nd' _ _, c l' vs' n' r', C, L, cv, o, g⟩⟩⟩
  obtain ⟨F', N'⟩ := changed F Nw (key l' vs' n' r') e' sb
  exact ⟨m, _, n2, F', N', nd' _ _, c l' vs' n' r', C, L, cv, o, g⟩
/-- An object of the walk's. -/
structure InstV (Φ : Cx G cs) (W : Wd) (τ : VS) (x : List (Addr × Obj)) (s : Shared) (k : Nat) (fs : List (Nat × VV)) (a : Addr) (d : Addr) (es : List DictEntry) (n : Nat) : Prop where
  inst : InstAt s.heap a (instObj G.C d) G.C (some (dictOf es n))
  rep : FRep G W fs es
  updU : ∀ fs' es' n', FRep G W fs' es' → ∃ m news news', Fr Φ.h₀ Φ.L s.heap m ∧ News Φ.h₀ Φ.L s.heap news ∧ Upd d (dictOf es n) (dictOf es' n') news news' ∧
    ∀ h' t, Fr Φ.h₀ Φ.L h' m → News Φ.h₀ Φ.L h' news' → SimX Φ W ⟨τ.loc, τ.hp.set k (.inst fs')⟩ x { s with heap := h', toks := t }
theorem SimX.inst (h : SimX Φ W τ x s) {k : Nat} {fs : List (Nat × VV)} {a d : Addr} (e : τ.hp[k]? = some (.inst fs)) (ea : W.rho[k]? = some (a, d)) : ∃ es n, InstV Φ W τ x s k fs a d es n := by
  obtain ⟨m, n1, n2, F, Nw, nd, H, C, L, cv, o, g⟩ := h
  obtain ⟨a', d', es, n, pre, post, e1, e2, r, c⟩ := H.at_inst e
  rw [ea] at e1
  cases e1
  subst e2
  refine ⟨es, n, ?_, r, fun fs' es' n' r' => ⟨m, x ++ (pre ++ (a, instObj G.C d) :: (d, dictOf es n) :: post ++ (n2 ++ W.fro)), x ++ (pre ++ (a, instObj G.C d) :: (d, dictOf es' n') :: post ++ (n2 ++ W.fro)), F, Nw, ?_, fun h' t F' N' => ⟨m, _, n2, F', N', by simpa using nd, c fs' es' n' r', C, L, cv, o, g⟩⟩⟩
  · exact InstAt.of_news (news := x ++ (pre ++ (a, instObj G.C d) :: (d, dictOf es n) :: post ++ (n2 ++ W.fro))) Nw (by simp) (by simp)
  · have := updOf (o' := dictOf es' n') (pre := x ++ (pre ++ [(a, instObj G.C d)])) (post := post ++ (n2 ++ W.fro)) (d := d) (o := dictOf es n) (by simpa using nd)
    simpa using this
end VE
namespace VE
variable {N : Nat → Str} {Z : Stc} {G : Gl N Z} {cs : Scope} {Φ : Cx G cs} {W : Wd} {τ : VS} {s : Shared} {x : List (Addr × Obj)}
/-- What an expression gives: a value, or a list just made. -/
inductive Rs where
  | val (v : VV)
  | new (l : List PV)
noncomputable def Rs.frz : Rs → VV
  | .val v => v
  | .new l => .p (.lst l)
/-- A check that computes. -/
noncomputable abbrev gd (b : Bool) (P : Prop) : Prop := match b with
  | true => P
  | false => False
theorem gd_ex {b : Bool} {P : Prop} (h : gd b P) : b = true ∧ P := by
  cases b with
  | true => exact ⟨rfl, h⟩
  | false => exact h.elim
noncomputable abbrev Calls := Addr → List VV → List VO → (Rs → List VO → Prop) → Prop
noncomputable abbrev WE := Calls → VS → (VV → VS → Prop) → Prop
noncomputable abbrev W0 := Calls → VS → (Rs → VS → Prop) → Prop
noncomputable abbrev WT := Calls → VS → (Bool → VS → Prop) → Prop
noncomputable abbrev WA := Calls → VS → (List VV → VS → Prop) → Prop
inductive RV (Φ : Cx G cs) (W : Wd) (x : List (Addr × Obj)) (Q : VV → VS → Prop) (v : Value) (s : Shared) : Prop where
  | mk (W' : Wd) (a : VV) (τ : VS) (le : W.le W') (r : VRep G W' a v) (S : SimX Φ W' τ x s) (q : Q a τ)
inductive R0 (Φ : Cx G cs) (W : Wd) (x : List (Addr × Obj)) (Q : Rs → VS → Prop) : Value → Shared → Prop where
  | val {v : Value} {s : Shared} (W' : Wd) (a : VV) (τ : VS) (le : W.le W') (r : VRep G W' a v) (S : SimX Φ W' τ x s) (q : Q (.val a) τ) : R0 Φ W x Q v s
  | new {s : Shared} (W' : Wd) (l : List PV) (τ : VS) (q : Addr) (vs : List Value) (n : Nat) (le : W.le W') (r : PRepL (FW G W') l vs) (S : SimX Φ W' τ ((q, listOf vs.toArray n) :: x) s) (h : Q (.new l) τ) : R0 Φ W x Q (.ref q) s
inductive RT (Φ : Cx G cs) (W : Wd) (x : List (Addr × Obj)) (Q : VS → Prop) (s : Shared) : Prop where
  | mk (W' : Wd) (τ : VS) (le : W.le W') (S : SimX Φ W' τ x s) (q : Q τ)
inductive RA (Φ : Cx G cs) (W : Wd) (x : List (Addr × Obj)) (Q : List VV → VS → Prop) (v : List Value) (s : Shared) : Prop where
  | mk (W' : Wd) (a : List VV) (τ : VS) (le : W.le W') (r : VRepL G W' a v) (S : SimX Φ W' τ x s) (q : Q a τ)
theorem RV.up {W' : Wd} {Q : VV → VS → Prop} {v : Value} {s : Shared} (le : W.le W') (h : RV Φ W' x Q v s) : RV Φ W x Q v s := by cases h with | mk W1 a τ l r S q => exact ⟨W1, a, τ, le.trans l, r, S, q⟩
theorem R0.up {W' : Wd} {Q : Rs → VS → Prop} {v : Value} {s : Shared} (le : W.le W') (h : R0 Φ W' x Q v s) : R0 Φ W x Q v s := by
  cases h with
  | val W1 a τ l r S q => exact .val W1 a τ (le.trans l) r S q
  | new W1 l τ q vs n l' r S h => exact .new W1 l τ q vs n (le.trans l') r S h
theorem RT.up {W' : Wd} {Q : VS → Prop} {s : Shared} (le : W.le W') (h : RT Φ W' x Q s) : RT Φ W x Q s := by cases h with | mk W1 τ l S q => exact ⟨W1, τ, le.trans l, S, q⟩
theorem R0.toV {Q : VV → VS → Prop} {v : Value} {s : Shared} (h : R0 Φ W x (fun r τ => Q r.frz τ) v s) : RV Φ W x Q v s := by
  cases h with
  | val W1 a τ l r S q => exact ⟨W1, a, τ, l, r, S, q⟩
  | new W1 l τ q vs n l' r S h =>
    obtain ⟨W2, le, hm, e, S2⟩ := S.freeze
    exact ⟨W2, .p (.lst l), τ, l'.trans le, .p (.lst (.inl hm) (r.mono le.FW) .nil), S2, h⟩
/-- What the oracle of calls tells is so, down to a depth. -/
noncomputable def CallsOk (G : Gl N Z) (dep : Nat) (C : Calls) : Prop := ∀ (cs : Scope) (Φ : Cx G cs) (A : Around), A.handled = none → A.units ≤ 3 * A.depth + 4 → A.depth ≤ dep + 3 → ∀ W τ x s f as vs Q, SimX Φ W τ x s → VRepL G W as vs → C f as τ.hp Q →
  codeAny (model G.prog G.w) A (.call (.ref f) ⟨vs, []⟩) (fun r s' => ∃ v, r = .ok (.ret v) ∧ R0 Φ W x (fun a τ' => τ'.loc = τ.loc ∧ Q a τ'.hp) v s') s
noncomputable def SE (G : Gl N Z) (cs : Scope) (e : Expr) (w : WE) : Prop := ∀ (Φ : Cx G cs) C, CallsOk G Φ.A.depth C → ∀ W τ x s Q, SimX Φ W τ x s → w C τ Q → wpAny Φ.M Φ.A (eval e Φ.env) (RV Φ W x Q) (fun _ _ => False) s
noncomputable def S0 (G : Gl N Z) (cs : Scope) (e : Expr) (w : W0) : Prop := ∀ (Φ : Cx G cs) C, CallsOk G Φ.A.depth C → ∀ W τ x s Q, SimX Φ W τ x s → w C τ Q → wpAny Φ.M Φ.A (eval e Φ.env) (R0 Φ W x Q) (fun _ _ => False) s
noncomputable def ST (G : Gl N Z) (cs : Scope) (e : Expr) (w : WT) : Prop := ∀ (Φ : Cx G cs) C, CallsOk G Φ.A.depth C → ∀ W τ x s Q, SimX Φ W τ x s → w C τ Q → wpAny Φ.M Φ.A (PySem.isTrue e Φ.env (eval e Φ.env)) (fun b => RT Φ W x (Q b)) (fun _ _ => False) s
noncomputable def SA (G : Gl N Z) (cs : Scope) (es : List Expr) (w : WA) : Prop := (∀ env, (starEach es env).any (·.1) = false) ∧ ∀ (Φ : Cx G cs) C, CallsOk G Φ.A.depth C → ∀ pos W τ x s Q, SimX Φ W τ x s → w C τ Q → wpAny Φ.M Φ.A (spliced (backTo pos (starEach es Φ.env))) (RA Φ W x Q) (fun _ _ => False) s
theorem SE.go {e : Expr} {w : WE} (h : SE G cs e w) {C : Calls} (ok : CallsOk G Φ.A.depth C) {Q : VV → VS → Prop} {P : Value → Shared → Prop} (S : SimX Φ W τ x s) (q : w C τ Q)
    (k : ∀ W' a τ' v s', W.le W' → VRep G W' a v → SimX Φ W' τ' x s' → Q a τ' → P v s') : wpAny Φ.M Φ.A (eval e Φ.env) P (fun _ _ => False) s :=
  wpAny_mono (h Φ C ok W τ x s Q S q) (fun v s' r => by cases r with | mk W' a τ' le r S q => exact k W' a τ' v s' le r S q) fun _ _ x => x
noncomputable abbrev wFrz (w : W0) : WE := fun C τ Q => w C τ fun r τ' => Q r.frz τ'
theorem SE_frz {e : Expr} {w : W0} (h : S0 G cs e w) : SE G cs e (wFrz w) := fun Φ C ok W τ x s Q S q => wpAny_mono (h Φ C ok W τ x s _ S q) (fun _ _ r => r.toV) fun _ _ x => x
noncomputable abbrev wInt (i : Int) : WE := fun _ τ Q => Q (.p (.int i)) τ
theorem SE_int {i : Int} {k : Nat} {pos : Pos} : SE G cs (.Constant (.int i) k pos) (wInt i) := fun Φ C ok W τ x s Q S q => wpAny_Constant_int ⟨W, _, τ, .refl W, .p (.int i _ .nil), S.toks _, q⟩
noncomputable abbrev wNone : WE := fun _ τ Q => Q (.p .none) τ
theorem SE_none {k : Nat} {pos : Pos} : SE G cs (.Constant .none k pos) wNone := fun Φ C ok W τ x s Q S q => wpAny_Constant_none ⟨W, _, τ, .refl W, .p (.none .nil), S, q⟩
noncomputable abbrev wBool (b : Bool) : WE := fun _ τ Q => Q (.p (.bool b)) τ
theorem SE_bool {b : Bool} {k : Nat} {pos : Pos} : SE G cs (.Constant (.bool b) k pos) (wBool b) := fun Φ C ok W τ x s Q S q => wpAny_Constant_bool ⟨W, _, τ, .refl W, .p (.bool b .nil), S, q⟩
noncomputable abbrev wStr : WE := fun _ τ Q => Q (.p .any) τ
theorem SE_str {t : Str} {k : Nat} {pos : Pos} : SE G cs (.Constant (.str t) k pos) wStr := fun Φ C ok W τ x s Q S q => wpAny_Constant_str ⟨W, _, τ, .refl W, .p (.any rfl .nil), S.toks _, q⟩
theorem CR.at {loc : List (Nat × VV)} {k : Nat} {v : VV} (e : getN k loc = some v) : ∀ {l ns}, CR G W loc l ns → k ∈ l.map (·.1) → ∃ c o u, (k, c) ∈ l ∧ (c, o) ∈ ns ∧ o.data = .cell (some u) ∧ VRep G W v u := by
  intro l ns h
  induction h with
  | nil => intro hm; cases hm
  | @cons k' c o x cs ns e' f r ih =>
    intro hm
    by_cases hk : k = k'
    · subst hk
      obtain ⟨u, e1, r1⟩ := f v e
      exact ⟨c, o, u, .head _, .head _, by rw [e', e1], r1⟩
    · obtain ⟨c', o', u, h1, h2, h3⟩ := ih (by
        rcases List.mem_cons.mp hm with q | q
        · exact absurd q hk
        · exact q)
      exact ⟨c', o', u, .tail _ h1, .tail _ h2, h3⟩
noncomputable abbrev wName (n : Nat) : WE := fun _ τ Q => match getN n τ.loc with
  | some v => Q v τ
  | none => False
theorem SE_name {n : Nat} {t : Str} {pos : Pos} (hn : N n = t) : SE G cs (.Name t pos) (wName n) := fun Φ C ok W τ x s Q S q => by
  subst hn
  simp only [wName] at q
  cases hv : getN n τ.loc with
  | none => rw [hv] at q; exact q.elim
  | some v =>
    rw [hv] at q
    obtain ⟨m, n1, n2, F, Nw, nd, H, Cc, L, cv, o, g⟩ := id S
    rcases L n v hv with ⟨c, hl, hc, r⟩ | hm | ⟨c, u, hk, hc, ho, r⟩
    · exact wpAny_Name (wpAny_loadName_local Φ.kind hl F.ns hc ⟨W, v, τ, .refl W, r, S, q⟩) (G.hN.dbg n)
    rotate_left
    · have ho := ho.keeps F.keep
      refine wpAny_Name ?_ (G.hN.dbg n)
      rcases hk with hk | hk
      · exact wpAny_loadName_cell Φ.kind hk hc ho ⟨W, v, τ, .refl W, r, S, q⟩
      · exact wpAny_loadName_free Φ.kind hk hc ho ⟨W, v, τ, .refl W, r, S, q⟩ (G.hN.cd n)
    · obtain ⟨c, co, u, h1, h2, h3, r⟩ := Cc.at hv hm
      obtain ⟨hk, hc⟩ := cv n c h1
      have ho : s.heap.IsCell c (some u) := ⟨co, (Nw (c, co) (by simp [h2])).1, h3⟩
      refine wpAny_Name ?_ (G.hN.dbg n)
      rcases hk with hk | hk
      · exact wpAny_loadName_cell Φ.kind hk hc ho ⟨W, v, τ, .refl W, r, S, q⟩
      · exact wpAny_loadName_free Φ.kind hk hc ho ⟨W, v, τ, .refl W, r, S, q⟩ (G.hN.cd n)
end VE
namespace VE
variable {N : Nat → Str} {Z : Stc} {G : Gl N Z} {cs : Scope} {Φ : Cx G cs} {W : Wd} {τ : VS} {s : Shared} {x : List (Addr × Obj)}
noncomputable def binI (op : Operator) (i j : Int) (Q : Int → Prop) : Prop := match op with
  | .Add => Q (i + j)
  | .Sub => Q (i - j)
  | .Mult => IntMulOk i j ∧ Q (i * j)
  | .FloorDiv => (j ≠ 0 ∧ Builtin.divisionGoesByPylong i j = false) ∧ Q (Int.fdiv i j)
  | .Mod => j ≠ 0 ∧ Q (Int.fmod i j)
  | .Pow => (0 ≤ j ∧ j ≤ 1000000 ∧ i.natAbs < 2 ^ 64) ∧ Q (i ^ j.toNat)
  | .LShift => (0 ≤ j ∧ (Builtin.Int.intBits i : Int) + j ≤ 2 ^ 27) ∧ Q (i * 2 ^ j.toNat)
  | .RShift => 0 ≤ j ∧ Q (Int.fdiv i (2 ^ j.toNat))
  | .BitAnd => Q (Builtin.bitAnd i j)
  | .BitOr => Q (Builtin.bitOr i j)
  | .BitXor => Q (Builtin.bitXor i j)
  | _ => False
noncomputable abbrev opW (op : Operator) (u v : VV) (Q : VV → Prop) : Prop := match u, v with
  | .p (.int i), .p (.int j) => binI op i j fun z => Q (.p (.int z))
  | _, _ => False
noncomputable abbrev wBin (op : Operator) (a b : WE) : WE := fun C τ Q => a C τ fun u τ1 => b C τ1 fun v τ2 => opW op u v fun z => Q z τ2
theorem binI_run {op : Operator} {i j : Int} {t u : Tok} {Q : Int → Prop} {P : Value → Shared → Prop} (S : SimX Φ W τ x s) (h : binI op i j Q) (k : ∀ z t s', SimX Φ W τ x s' → Q z → P (.int z t) s') :
    wpAny Φ.M Φ.A (binaryOp op (.int i t) (.int j u)) P (fun _ _ => False) s := by
  cases op <;> (simp only [binI] at h) <;> first | exact h.elim | skip
  · exact add_int (k _ _ _ (S.toks _) h)
  · exact sub_int (k _ _ _ (S.toks _) h)
  · exact mul_int (k _ _ _ (S.toks _) h.2) h.1
  · exact mod_int h.1 (k _ _ _ (S.toks _) h.2)
  · exact pow_int_small h.1.1 h.1.2.1 h.1.2.2 (k _ _ _ (S.toks _) h.2)
  · exact lshift_int h.1.1 h.1.2 (k _ _ _ (S.toks _) h.2)
  · exact rshift_int h.1 (k _ _ _ (S.toks _) h.2)
  · exact or_int (k _ _ _ (S.toks _) h)
  · exact xor_int (k _ _ _ (S.toks _) h)
  · exact and_int (k _ _ _ (S.toks _) h)
  · exact floordiv_int h.1.1 (k _ _ _ (S.toks _) h.2) (.inl h.1.2)
theorem opW_ints {op : Operator} {u v : VV} {Q : VV → Prop} (h : opW op u v Q) : ∃ i j, u = .p (.int i) ∧ v = .p (.int j) ∧ binI op i j fun z => Q (.p (.int z)) := by
  unfold opW at h
  split at h
  · exact ⟨_, _, rfl, rfl, h⟩
  · exact h.elim
theorem VRep.int {i : Int} {c : Value} (r : VRep G W (.p (.int i)) c) : ∃ t, c = .int i t := by
  cases r with | p r => cases r with | int _ t _ => exact ⟨t, rfl⟩
theorem VRep.of_int {i : Int} {t : Tok} : VRep G W (.p (.int i)) (.int i t) := .p (.int i t .nil)
theorem SE_bin {op : Operator} {l r : Expr} {wl wr : WE} {pos : Pos} (hl : SE G cs l wl) (hr : SE G cs r wr) : SE G cs (.BinOp l op r pos) (wBin op wl wr) := fun Φ C ok W τ x s Q S q =>
  wpAny_BinOp (hl.go ok S q fun W1 u τ1 c s1 le1 r1 S1 q1 => hr.go ok S1 q1 fun W2 v τ2 d s2 le2 r2 S2 q2 => by
    obtain ⟨i, j, rfl, rfl, h⟩ := opW_ints q2
    obtain ⟨t, rfl⟩ := r1.int
    obtain ⟨t', rfl⟩ := r2.int
    exact binI_run S2 h fun z t s' S' q' => ⟨W2, _, τ2, le1.trans le2, .of_int, S', q'⟩)
/-- A list's items. -/
noncomputable def asL (hp : List VO) : VV → Option (List PV)
  | .p (.lst l) => some l
  | .p (.raw l) => some l
  | .ref k => match hp[k]? with
    | some (.list l) => some l
    | _ => none
  | _ => none
theorem SimX.asL (S : SimX Φ W τ x s) {v : VV} {c : Value} {l : List PV} (r : VRep G W v c) (e : VE.asL τ.hp v = some l) : ∃ a vs, c = .ref a ∧ s.heap.IsList a vs.toArray ∧ PRepL (VE.FW G W) l vs := by
  cases r with
  | p r =>
    cases r <;> simp only [VE.asL] at e <;> first | (cases e; done) | skip
    · rename_i a ws n l' f p _
      cases e
      exact ⟨a, ws, rfl, ⟨_, S.FW f, rfl, n, rfl⟩, p⟩
    · rename_i a o ws n l' f c d p _
      cases e
      exact ⟨a, ws, rfl, ⟨o, S.FW f, c, n, d⟩, p⟩
  | @ref k a d e' =>
    simp only [VE.asL] at e
    split at e
    · rename_i l' hk
      cases e
      obtain ⟨vs, n, LA⟩ := S.list hk e'
      exact ⟨a, vs, rfl, ⟨_, LA.get, rfl, n, rfl⟩, LA.rep⟩
    · cases e
  | meth => simp [VE.asL] at e
theorem VRep.tup {l : List PV} {c : Value} (r : VRep G W (.p (.tup l)) c) (S : SimX Φ W τ x s) : ∃ a vs, c = .ref a ∧ IsTup s.heap a vs.toArray ∧ PRepL (VE.FW G W) l vs := by
  cases r with
  | p r =>
    cases r with
    | @tup _ _ a ws n l' f p _ => exact ⟨a, ws, rfl, ⟨_, S.FW f, rfl, n, rfl⟩, p⟩
/-- Values compared. -/
noncomputable abbrev eqW (hp : List VO) (u v : VV) (Q : Bool → Prop) : Prop := match u, v with
  | .p (.int i), .p (.int j) => Q (i == j)
  | .p (.tup a), .p (.tup b) => ∃ l r : List Int, a = l.map .int ∧ b = r.map .int ∧ l.length = r.length ∧ Q (l == r)
  | _, _ => ∃ l r : List Int, asL hp u = some (l.map .int) ∧ asL hp v = some (r.map .int) ∧ l.length = r.length ∧ Q (l == r)
noncomputable def isNoneV : VV → Option Bool
  | .p .none => some true
  | .p .any => none
  | _ => some false
noncomputable def intsW (u v : VV) (R : Int → Int → Prop) : Prop := match u, v with
  | .p (.int i), .p (.int j) => R i j
  | _, _ => False
noncomputable def isW (v : VV) (u : VV) (Q : Bool → Prop) : Prop := match v with
  | .p .none => match isNoneV u with
    | some b => Q b
    | none => False
  | _ => False
noncomputable def inW (hp : List VO) (u v : VV) (Q : Bool → Prop) : Prop := match u with
  | .p (.int i) => ∃ l : List Int, asL hp v = some (l.map .int) ∧ Q (l.any (· == i))
  | _ => False
noncomputable def cmpW (hp : List VO) (op : CmpOp) (u v : VV) (Q : Bool → Prop) : Prop := match op with
  | .Eq => eqW hp u v Q
  | .NotEq => eqW hp u v fun b => Q (!b)
  | .Lt => intsW u v fun i j => Q (decide (i < j))
  | .LtE => intsW u v fun i j => Q (decide (i ≤ j))
  | .Gt => intsW u v fun i j => Q (decide (i > j))
  | .GtE => intsW u v fun i j => Q (decide (i ≥ j))
  | .Is => isW v u Q
  | .In => inW hp u v Q
  | _ => False
noncomputable abbrev wCmp (op : CmpOp) (a b : WE) : WE := fun C τ Q => a C τ fun u τ1 => b C τ1 fun v τ2 => cmpW τ2.hp op u v fun z => Q (.p (.bool z)) τ2
theorem beq_range {l r : List Int} (hl : l.length = r.length) : (List.range l.length).all (fun j => l[j]? == r[j]?) = (l == r) := by
  rw [hl, Bool.eq_iff_iff, List.all_eq_true, beq_iff_eq]
  constructor
  · intro q
    refine List.ext_getElem? fun j => ?_
    by_cases hj : j < r.length
    · exact beq_iff_eq.mp (q j (List.mem_range.mpr hj))
    · rw [List.getElem?_eq_none (by lia), List.getElem?_eq_none (by lia)]
  · rintro rfl j _; exact beq_self_eq_true _
theorem eqAt_of {A : Around} {l r : List Int} {vs ws : List Value} (iv : IntsAre vs l) (iw : IntsAre ws r) {j : Nat} (h1 : j < vs.toArray.size) (h2 : j < ws.toArray.size) : SeqAt.EqAt A s (vs.toArray[j]) (ws.toArray[j]) (l[j]? == r[j]?) := by
  have h1' : j < vs.length := by simpa using h1
  have h2' : j < ws.length := by simpa using h2
  have g : ∀ {vs : List Value} {l : List Int}, IntsAre vs l → ∀ {j : Nat} (h : j < vs.length), ∃ z t, l[j]? = some z ∧ vs[j] = .int z t := by
    intro vs l h
    induction h with
    | nil => intro j h; simp at h
    | cons k t _ ih =>
      intro j h
      cases j with
      | zero => exact ⟨k, t, rfl, rfl⟩
      | succ j => simpa using ih (j := j) (by simpa using h)
  obtain ⟨z, t, e1, e2⟩ := g iv h1'
  obtain ⟨z', t', e3, e4⟩ := g iw h2'
  simp only [List.getElem_toArray, e1, e2, e3, e4]
  exact SeqAt.EqAt.int_int _ _ _ _
theorem Cx.units (Φ : Cx G cs) : Φ.A.units < cLine := by
  have := Φ.un
  have := Φ.dp
  have : cLine = 9900 := rfl
  lia
theorem IntsAre.len {vs : List Value} {l : List Int} (h : IntsAre vs l) : vs.length = l.length := by
  induction h with
  | nil => rfl
  | cons k t _ ih => simp [ih]
theorem eqW_run {u v : VV} {c d : Value} {Q : Bool → Prop} {P : Value → Shared → Prop} (S : SimX Φ W τ x s) (ru : VRep G W u c) (rv : VRep G W v d) (h : eqW τ.hp u v Q) (k : ∀ z, Q z → P (.bool z) s) :
    wpAny Φ.M Φ.A (compareOp .Eq c d) P (fun _ _ => False) s := by
  unfold eqW at h
  split at h
  · obtain ⟨t, rfl⟩ := ru.int
    obtain ⟨t', rfl⟩ := rv.int
    exact eq_int (k _ h)
  · obtain ⟨l, r, rfl, rfl, hl, q⟩ := h
    obtain ⟨a, vs, rfl, ht, iv⟩ := ru.tup S
    obtain ⟨b, ws, rfl, ht', iw⟩ := rv.tup S
    have e1 := IntsAre.len iv.ints
    have e2 := IntsAre.len iw.ints
    refine SeqAt.eq_tupleAt (e := fun j => l[j]? == r[j]?) ht ht' Φ.units (fun j h1 h2 => eqAt_of iv.ints iw.ints h1 h2) ?_
    have := beq_range hl
    simp only [List.size_toArray, e1, e2, hl, Nat.min_self, beq_self_eq_true, Bool.and_true] at this ⊢
    rw [this]
    exact k _ q
  · obtain ⟨l, r, e1, e2, hl, q⟩ := h
    obtain ⟨a, vs, rfl, ht, iv⟩ := S.asL ru e1
    obtain ⟨b, ws, rfl, ht', iw⟩ := S.asL rv e2
    have e1 := IntsAre.len iv.ints
    have e2 := IntsAre.len iw.ints
    refine SeqAt.eq_listAt (e := fun j => l[j]? == r[j]?) ht ht' (by simp [e1, e2, hl]) Φ.units (fun j h1 h2 => eqAt_of iv.ints iw.ints h1 h2) ?_
    have := beq_range hl
    simp only [List.size_toArray, e1] at this ⊢
    rw [this]
    exact k _ q
theorem neW_run {u v : VV} {c d : Value} {Q : Bool → Prop} {P : Value → Shared → Prop} (S : SimX Φ W τ x s) (ru : VRep G W u c) (rv : VRep G W v d) (h : eqW τ.hp u v fun b => Q (!b)) (k : ∀ z, Q z → P (.bool z) s) :
    wpAny Φ.M Φ.A (compareOp .NotEq c d) P (fun _ _ => False) s := by
  unfold eqW at h
  split at h
  · obtain ⟨t, rfl⟩ := ru.int
    obtain ⟨t', rfl⟩ := rv.int
    exact ne_int (k _ h)
  · obtain ⟨l, r, rfl, rfl, hl, q⟩ := h
    obtain ⟨a, vs, rfl, ht, iv⟩ := ru.tup S
    obtain ⟨b, ws, rfl, ht', iw⟩ := rv.tup S
    have e1 := IntsAre.len iv.ints
    have e2 := IntsAre.len iw.ints
    refine SeqAt.RcNeAt.tuples (A := Φ.A) (s := s) (l := a) (b := b) (e := fun j => l[j]? == r[j]?) ht ht' Φ.units (fun j h1 h2 => eqAt_of iv.ints iw.ints h1 h2) G.prog G.w _ _ ?_
    have := beq_range hl
    simp only [List.size_toArray, e1, e2, hl, Nat.min_self, beq_self_eq_true, Bool.and_true] at this ⊢
    rw [this]
    exact k _ q
  · obtain ⟨l, r, e1, e2, hl, q⟩ := h
    obtain ⟨a, vs, rfl, ht, iv⟩ := S.asL ru e1
    obtain ⟨b, ws, rfl, ht', iw⟩ := S.asL rv e2
    have e1 := IntsAre.len iv.ints
    have e2 := IntsAre.len iw.ints
    refine SeqAt.RcNeAt.lists (A := Φ.A) (s := s) (l := a) (b := b) (e := fun j => l[j]? == r[j]?) ht ht' (by simp [e1, e2, hl]) Φ.units (fun j h1 h2 => eqAt_of iv.ints iw.ints h1 h2) G.prog G.w _ _ ?_
    have := beq_range hl
    simp only [List.size_toArray, e1] at this ⊢
    rw [this]
    exact k _ q
theorem intsW_ex {u v : VV} {c d : Value} {R : Int → Int → Prop} (ru : VRep G W u c) (rv : VRep G W v d) (h : intsW u v R) : ∃ i j t t', c = .int i t ∧ d = .int j t' ∧ R i j := by
  unfold intsW at h
  split at h
  · obtain ⟨t, rfl⟩ := ru.int
    obtain ⟨t', rfl⟩ := rv.int
    exact ⟨_, _, t, t', rfl, rfl, h⟩
  · exact h.elim
theorem isW_run {u v : VV} {c d : Value} {Q : Bool → Prop} {P : Value → Shared → Prop} (ru : VRep G W u c) (rv : VRep G W v d) (h : isW v u Q) (k : ∀ z, Q z → P (.bool z) s) :
    wpAny Φ.M Φ.A (compareOp .Is c d) P (fun _ _ => False) s := by
  unfold isW at h
  split at h
  · cases rv
    rename_i rv
    cases rv
    split at h
    · rename_i b e
      cases ru with
      | ref => cases e; exact wpAny_pure (k _ h)
      | meth => cases e; exact wpAny_pure (k _ h)
      | p r => cases r <;> first | (cases e; exact wpAny_pure (k _ h)) | cases e
    · exact h.elim
  · exact h.elim
theorem cmpW_run {op : CmpOp} {u v : VV} {c d : Value} {Q : Bool → Prop} {P : Value → Shared → Prop} (S : SimX Φ W τ x s) (ru : VRep G W u c) (rv : VRep G W v d) (h : cmpW τ.hp op u v Q) (k : ∀ z, Q z → P (.bool z) s) :
    wpAny Φ.M Φ.A (compareOp op c d) P (fun _ _ => False) s := by
  cases op with
  | Eq => exact eqW_run S ru rv h k
  | NotEq => exact neW_run S ru rv h k
  | Lt => obtain ⟨i, j, t, t', rfl, rfl, q⟩ := intsW_ex ru rv h; exact lt_int (k _ q)
  | LtE => obtain ⟨i, j, t, t', rfl, rfl, q⟩ := intsW_ex ru rv h; exact le_int (k _ q)
  | Gt => obtain ⟨i, j, t, t', rfl, rfl, q⟩ := intsW_ex ru rv h; exact gt_int (k _ q)
  | GtE => obtain ⟨i, j, t, t', rfl, rfl, q⟩ := intsW_ex ru rv h; exact ge_int (k _ q)
  | Is => exact isW_run ru rv h k
  | In =>
    unfold cmpW inW at h
    dsimp only at h
    split at h
    · obtain ⟨l, e, q⟩ := h
      obtain ⟨t, rfl⟩ := ru.int
      obtain ⟨a, vs, rfl, hl, iv⟩ := S.asL rv e
      exact in_list_ints hl iv.ints (k _ q)
    · exact h.elim
  | IsNot => exact h.elim
  | NotIn => exact h.elim
theorem SE_cmp {op : CmpOp} {l r : Expr} {wl wr : WE} {pos : Pos} (hl : SE G cs l wl) (hr : SE G cs r wr) (hm : behindInMarks op r = false) : SE G cs (.Compare l [op] [r] pos) (wCmp op wl wr) := fun Φ C ok W τ x s Q S q =>
  wpAny_Compare1 (hl.go ok S q fun W1 u τ1 c s1 le1 r1 S1 q1 => hr.go ok S1 q1 fun W2 v τ2 d s2 le2 r2 S2 q2 =>
    cmpW_run S2 (r1.mono le2) r2 q2 fun z q' => ⟨W2, _, τ2, le1.trans le2, .p (.bool z .nil), S2, q'⟩) hm
end VE
namespace VE
variable {N : Nat → Str} {Z : Stc} {G : Gl N Z} {cs : Scope} {Φ : Cx G cs} {W : Wd} {τ : VS} {s : Shared} {x : List (Addr × Obj)}
/-- A value's truth. -/
noncomputable def truW (hp : List VO) (v : VV) (Q : Bool → Prop) : Prop := match v with
  | .p (.int i) => Q (i != 0)
  | .p (.bool b) => Q b
  | .p .none => Q false
  | .p (.lst l) => (l.length : Int) < 2 ^ 63 ∧ Q (!l.isEmpty)
  | .p (.raw l) => (l.length : Int) < 2 ^ 63 ∧ Q (!l.isEmpty)
  | .ref k => match hp[k]? with
    | some (.list l) => (l.length : Int) < 2 ^ 63 ∧ Q (!l.isEmpty)
    | _ => False
  | _ => False
theorem truW_run {v : VV} {c : Value} {Q : Bool → Prop} {P : Bool → Shared → Prop} (S : SimX Φ W τ x s) (r : VRep G W v c) (h : truW τ.hp v Q) (k : ∀ b t, Q b → P b { s with toks := t }) : wpAny Φ.M Φ.A (truthy c) P (fun _ _ => False) s := by
  have lst : ∀ l, VE.asL τ.hp v = some l → (l.length : Int) < 2 ^ 63 ∧ Q (!l.isEmpty) → wpAny Φ.M Φ.A (truthy c) P (fun _ _ => False) s := fun l e q => by
    obtain ⟨a, vs, rfl, hl, p⟩ := S.asL r e
    have e2 : vs.toArray.isEmpty = l.isEmpty := by
      have := p.length
      cases vs <;> cases l <;> simp at this ⊢
    exact wpAny_truthy_list hl (by have := p.length; simp only [List.size_toArray, this]; exact q.1) (k _ _ (by rw [e2]; exact q.2))
  unfold truW at h
  split at h
  · obtain ⟨t, rfl⟩ := r.int
    exact truthy_int (k _ _ h)
  · cases r; rename_i r; cases r
    exact wpAny_truthy_bool (k _ _ h)
  · cases r; rename_i r; cases r
    exact wpAny_pure (k false s.toks h)
  · exact lst _ rfl h
  · exact lst _ rfl h
  · split at h
    · rename_i l e
      exact lst l (by simp [VE.asL, e]) h
    · exact h.elim
  · exact h.elim
noncomputable abbrev wTru (w : WE) : WT := fun C τ Q => w C τ fun v τ' => truW τ'.hp v fun b => Q b τ'
theorem ST_of {e : Expr} {w : WE} (h : SE G cs e w) (he : ∀ env, PySem.isTrue e env (eval e env) = (do let v ← eval e env; standAt e.pos; holding [v] (truthy v))) : ST G cs e (wTru w) := fun Φ C ok W τ x s Q S q =>
  isTrue_plain (h.go ok S q fun W1 v τ1 c s1 le r S1 q1 => truW_run S1 r q1 fun b t q' => ⟨W1, τ1, le, S1.toks t, q'⟩) (he _)
noncomputable abbrev wCmpT (op : CmpOp) (a b : WE) : WT := fun C τ Q => a C τ fun u τ1 => b C τ1 fun v τ2 => cmpW τ2.hp op u v fun z => Q z τ2
theorem ST_cmp {op : CmpOp} {l r : Expr} {wl wr : WE} {pos : Pos} (hl : SE G cs l wl) (hr : SE G cs r wr) (hm : behindInMarks op r = false) : ST G cs (.Compare l [op] [r] pos) (wCmpT op wl wr) := fun Φ C ok W τ x s Q S q =>
  wpAny_isTrue_Compare1 (hl.go ok S q fun W1 u τ1 c s1 le1 r1 S1 q1 => hr.go ok S1 q1 fun W2 v τ2 d s2 le2 r2 S2 q2 =>
    cmpW_run S2 (r1.mono le2) r2 q2 fun z q' => wpAny_truthy_bool ⟨W2, τ2, le1.trans le2, S2, q'⟩) hm
theorem ST.go {e : Expr} {w : WT} (h : ST G cs e w) {C : Calls} (ok : CallsOk G Φ.A.depth C) {Q : Bool → VS → Prop} {P : Bool → Shared → Prop} (S : SimX Φ W τ x s) (q : w C τ Q)
    (k : ∀ W' b τ' s', W.le W' → SimX Φ W' τ' x s' → Q b τ' → P b s') : wpAny Φ.M Φ.A (PySem.isTrue e Φ.env (eval e Φ.env)) P (fun _ _ => False) s :=
  wpAny_mono (h Φ C ok W τ x s Q S q) (fun b s' r => by cases r with | mk W' τ' le S q => exact k W' b τ' s' le S q) fun _ _ x => x
noncomputable abbrev wNotT (w : WT) : WT := fun C τ Q => w C τ fun b τ' => Q (!b) τ'
theorem ST_not {e : Expr} {w : WT} {pos : Pos} (h : ST G cs e w) : ST G cs (.UnaryOp .Not e pos) (wNotT w) := fun Φ C ok W τ x s Q S q =>
  isTrue_not (h.go ok S q fun W1 b τ1 s1 le S1 q1 => ⟨W1, τ1, le, S1, q1⟩)
/-- One road or the other. -/
noncomputable abbrev brW (b : Bool) (p q : Prop) : Prop := match b with
  | true => p
  | false => q
noncomputable abbrev wAndT (a b : WT) : WT := fun C τ Q => a C τ fun c τ' => brW c (b C τ' Q) (Q false τ')
noncomputable abbrev wOrT (a b : WT) : WT := fun C τ Q => a C τ fun c τ' => brW c (Q true τ') (b C τ' Q)
theorem ST_and {e : Expr} {rest : List Expr} {w w' : WT} {pos : Pos} (h : ST G cs e w) (h' : ST G cs (.BoolOp .And rest pos) w') : ST G cs (.BoolOp .And (e :: rest) pos) (wAndT w w') := fun Φ C ok W τ x s Q S q =>
  isTrue_and (h.go ok S q fun W1 b τ1 s1 le S1 q1 => by
    cases b with
    | true => rw [if_pos rfl]; exact h'.go ok S1 q1 fun W2 b τ2 s2 le2 S2 q2 => ⟨W2, τ2, le.trans le2, S2, q2⟩
    | false => rw [if_neg (by decide)]; exact ⟨W1, τ1, le, S1, q1⟩)
noncomputable abbrev wTT : WT := fun _ τ Q => Q true τ
noncomputable abbrev wFF : WT := fun _ τ Q => Q false τ
theorem ST_and0 {pos : Pos} : ST G cs (.BoolOp .And [] pos) wTT := fun Φ C ok W τ x s Q S q => isTrue_and_nil ⟨W, τ, .refl W, S, q⟩
theorem ST_or {e : Expr} {rest : List Expr} {w w' : WT} {pos : Pos} (h : ST G cs e w) (h' : ST G cs (.BoolOp .Or rest pos) w') : ST G cs (.BoolOp .Or (e :: rest) pos) (wOrT w w') := fun Φ C ok W τ x s Q S q =>
  isTrue_or (h.go ok S q fun W1 b τ1 s1 le S1 q1 => by
    cases b with
    | true => rw [if_pos rfl]; exact ⟨W1, τ1, le, S1, q1⟩
    | false => rw [if_neg (by decide)]; exact h'.go ok S1 q1 fun W2 b τ2 s2 le2 S2 q2 => ⟨W2, τ2, le.trans le2, S2, q2⟩)
theorem ST_or0 {pos : Pos} : ST G cs (.BoolOp .Or [] pos) wFF := fun Φ C ok W τ x s Q S q => isTrue_or_nil ⟨W, τ, .refl W, S, q⟩
noncomputable abbrev wIfE (t : WT) (a b : WE) : WE := fun C τ Q => t C τ fun c τ' => brW c (a C τ' Q) (b C τ' Q)
theorem SE_if {test body orelse : Expr} {pos : Pos} {t : WT} {a b : WE} (ht : ST G cs test t) (ha : SE G cs body a) (hb : SE G cs orelse b) : SE G cs (.IfExp test body orelse pos) (wIfE t a b) := fun Φ C ok W τ x s Q S q =>
  IfExp_ (ht.go ok S q fun W1 c τ1 s1 le S1 q1 => by
    cases c with
    | true => rw [if_pos rfl]; exact wpAny_mono (ha Φ C ok _ _ _ _ _ S1 q1) (fun _ _ r => r.up le) fun _ _ x => x
    | false => rw [if_neg (by decide)]; exact wpAny_mono (hb Φ C ok _ _ _ _ _ S1 q1) (fun _ _ r => r.up le) fun _ _ x => x)
noncomputable abbrev wIf0 (t : WT) (a b : W0) : W0 := fun C τ Q => t C τ fun c τ' => brW c (a C τ' Q) (b C τ' Q)
/-- a or b, a and b as values. -/
noncomputable abbrev wOrE (a b : WE) : WE := fun C τ Q => a C τ fun v τ1 => truW τ1.hp v fun c => brW c (Q v τ1) (b C τ1 Q)
noncomputable abbrev wAndE (a b : WE) : WE := fun C τ Q => a C τ fun v τ1 => truW τ1.hp v fun c => brW c (b C τ1 Q) (Q v τ1)
theorem SE_and {e₁ e₂ : Expr} {rest : List Expr} {pos : Pos} {a b : WE} (h : SE G cs e₁ a) (h' : SE G cs (.BoolOp .And (e₂ :: rest) pos) b) : SE G cs (.BoolOp .And (e₁ :: e₂ :: rest) pos) (wAndE a b) := fun Φ C ok W τ x s Q S q =>
  BoolOp_and (h.go ok S q fun W1 v τ1 c s1 le r S1 q1 => truW_run S1 r q1 fun z t q2 => by
    cases z with
    | true => rw [if_pos rfl]; exact wpAny_mono (h' Φ C ok _ _ _ _ _ (S1.toks t) q2) (fun _ _ r => r.up le) fun _ _ x => x
    | false => rw [if_neg (by decide)]; exact ⟨W1, v, τ1, le, r, S1.toks t, q2⟩)
theorem SE_one {op : BoolOp} {e : Expr} {pos : Pos} {w : WE} (h : SE G cs e w) : SE G cs (.BoolOp op [e] pos) w := fun Φ C ok W τ x s Q S q => BoolOp_one (h Φ C ok W τ x s Q S q)
/-- One int from another. -/
noncomputable abbrev unW (f : Int → Int) (v : VV) (Q : VV → Prop) : Prop := match v with
  | .p (.int i) => Q (.p (.int (f i)))
  | _ => False
noncomputable abbrev wInv (w : WE) : WE := fun C τ Q => w C τ fun v τ' => unW Builtin.bitNot v fun z => Q z τ'
noncomputable abbrev wNeg (w : WE) : WE := fun C τ Q => w C τ fun v τ' => unW (fun i => -i) v fun z => Q z τ'
theorem unW_ex {f : Int → Int} {v : VV} {Q : VV → Prop} (h : unW f v Q) : ∃ i, v = .p (.int i) ∧ Q (.p (.int (f i))) := by
  unfold unW at h
  split at h
  · exact ⟨_, rfl, h⟩
  · exact h.elim
theorem SE_inv {e : Expr} {pos : Pos} {w : WE} (h : SE G cs e w) : SE G cs (.UnaryOp .Invert e pos) (wInv w) := fun Φ C ok W τ x s Q S q =>
  UnaryOp_ (h.go ok S q fun W1 v τ1 c s1 le r S1 q1 => by
    obtain ⟨i, rfl, q2⟩ := unW_ex q1
    obtain ⟨t, rfl⟩ := r.int
    exact invert_int ⟨W1, _, τ1, le, .of_int, S1.toks _, q2⟩)
noncomputable abbrev wNot (w : WE) : WE := fun C τ Q => w C τ fun v τ' => truW τ'.hp v fun b => Q (.p (.bool (!b))) τ'
end VE
namespace VE
variable {N : Nat → Str} {Z : Stc} {G : Gl N Z} {cs : Scope} {Φ : Cx G cs} {W : Wd} {τ : VS} {s : Shared} {x : List (Addr × Obj)}
noncomputable def seqL (hp : List VO) : VV → Option (List PV)
  | .p (.tup l) => some l
  | v => asL hp v
noncomputable def pick (l : List PV) : Int → Option PV
  | .ofNat k => l[k]?
  | .negSucc k => match Nat.ble (k + 1) l.length with
    | true => l[l.length - (k + 1)]?
    | false => none
theorem pick_pos {l : List PV} {j : Int} (h : 0 ≤ j) : pick l j = l[j.toNat]? := by
  obtain ⟨k, rfl⟩ := Int.eq_ofNat_of_zero_le h
  rfl
theorem pick_neg {l : List PV} {j : Int} {z : PV} (h : j < 0) (e : pick l j = some z) : -(l.length : Int) ≤ j ∧ l[(j + l.length).toNat]? = some z := by
  cases j with
  | ofNat k => exact absurd h (by simp)
  | negSucc k =>
    simp only [pick] at e
    cases hb : Nat.ble (k + 1) l.length with
    | false => rw [hb] at e; cases e
    | true =>
      rw [hb] at e
      have hb := Nat.le_of_ble_eq_true hb
      refine ⟨by (clear e h; lia), ?_⟩
      have : (Int.negSucc k + (l.length : Int)).toNat = l.length - (k + 1) := by (clear e h hb; lia)
      rw [this]; exact e
/-- An item read. -/
noncomputable abbrev idxOk (j : Int) : Prop := -(2 ^ 63) ≤ j ∧ j < 2 ^ 63
noncomputable def subW (hp : List VO) (u v : VV) (Q : VV → Prop) : Prop := match v with
  | .p (.int j) => idxOk j ∧ ∃ l z, seqL hp u = some l ∧ pick l j = some z ∧ Q (.p z)
  | _ => False
theorem seqIndex_of_pick {l : List PV} {j : Int} {z : PV} (e : pick l j = some z) : ∃ k, seqIndex? j l.length = some k ∧ l[k]? = some z := by
  by_cases h : 0 ≤ j
  · rw [pick_pos h] at e
    have := (List.getElem?_eq_some_iff.mp e).1
    refine ⟨j.toNat, ?_, e⟩
    unfold seqIndex?
    have h' : ¬ j < 0 := by (clear e this; lia)
    simp only [h', if_false]
    rw [if_pos (by simp; (clear e h'; lia))]
  · obtain ⟨h1, h2⟩ := pick_neg (by (clear e; lia)) e
    refine ⟨_, ?_, h2⟩
    unfold seqIndex?
    have h' : j < 0 := by (clear e h1 h2; lia)
    simp only [h', if_true]
    rw [if_pos (by simp; (clear e h' h2; lia))]
theorem subW_run {u v : VV} {c d : Value} {value slice : Expr} {Q : VV → Prop} {P : Value → Shared → Prop} (S : SimX Φ W τ x s) (ru : VRep G W u c) (rv : VRep G W v d) (h : subW τ.hp u v Q) (hs : ∀ o i, subscripted slice false o i = operate [o, i] (getItem o i))
    (k : ∀ z e, VRep G W z e → Q z → P e s) : wpAny Φ.M Φ.A (subscriptTail value slice c d) P (fun _ _ => False) s := by
  unfold subW at h
  split at h
  · rename_i j
    obtain ⟨⟨b1, b2⟩, l, z, e1, e2, q⟩ := h
    obtain ⟨t, rfl⟩ := rv.int
    have lst : VE.asL τ.hp u = some l → wpAny Φ.M Φ.A (subscriptTail value slice c (.int j t)) P (fun _ _ => False) s := fun e1 => by
      obtain ⟨a, vs, rfl, hl, p⟩ := S.asL ru e1
      by_cases h0 : 0 ≤ j
      · rw [pick_pos h0] at e2
        obtain ⟨e, he, r⟩ := p.get e2
        exact tail_any hl.typeIs slot_list_getitem.lookup (wpAny_getItem_list hl h0 b2 (by simpa using he) (k _ e (.p r) q)) (hs _ _)
      · obtain ⟨h1, h2⟩ := pick_neg (by (clear b1 b2 e1 e2; lia)) e2
        obtain ⟨e, he, r⟩ := p.get h2
        exact tail_any hl.typeIs slot_list_getitem.lookup (wpAny_getItem_list_neg hl (by (clear b1 b2 e1 e2 h1 h2 he; lia)) (by simpa [p.length] using h1) b1 (by simpa [p.length] using he) (k _ e (.p r) q)) (hs _ _)
    unfold seqL at e1
    split at e1
    · cases e1
      obtain ⟨a, vs, rfl, ht, p⟩ := ru.tup S
      obtain ⟨j', e3, e4⟩ := seqIndex_of_pick e2
      obtain ⟨e, he, r⟩ := p.get e4
      exact item_tupleT ht b1 b2 (by rw [p.length]; exact e3) he (k _ e (.p r) q) (hs _ _)
    · exact lst e1
  · exact h.elim
noncomputable abbrev wSub (a b : WE) : WE := fun C τ Q => a C τ fun u τ1 => b C τ1 fun v τ2 => subW τ2.hp u v fun z => Q z τ2
theorem SE_sub {value slice : Expr} {a b : WE} {pos : Pos} (h : SE G cs value a) (h' : SE G cs slice b) (hs : ∀ o i, subscripted slice false o i = operate [o, i] (getItem o i)) : SE G cs (.Subscript value slice pos) (wSub a b) := fun Φ C ok W τ x s Q S q =>
  Subscript_ (h.go ok S q fun W1 u τ1 c s1 le1 r1 S1 q1 => h'.go ok S1 q1 fun W2 v τ2 d s2 le2 r2 S2 q2 =>
    subW_run S2 (r1.mono le2) r2 q2 hs fun z e r q' => ⟨W2, z, τ2, le1.trans le2, r, S2, q'⟩)
/-- The items of a display, or of a call. -/
noncomputable abbrev wA0 : WA := fun _ τ Q => Q [] τ
noncomputable abbrev wAc (w : WE) (ws : WA) : WA := fun C τ Q => w C τ fun v τ1 => ws C τ1 fun vs τ2 => Q (v :: vs) τ2
theorem SA_nil : SA G cs [] wA0 := ⟨fun _ => rfl, fun Φ C ok pos W τ x s Q S q => args_nil ⟨W, [], τ, .refl W, .nil, S, q⟩⟩
theorem SA_cons {e : Expr} {rest : List Expr} {w : WE} {ws : WA} (h : SE G cs e w) (h' : SA G cs rest ws) (he : ∀ env, starEach (e :: rest) env = (false, eval e env) :: starEach rest env) : SA G cs (e :: rest) (wAc w ws) := ⟨fun env => by rw [he env, List.any_cons, h'.1 env]; rfl, fun Φ C ok pos W τ x s Q S q =>
  args_cons (h.go ok S q fun W1 v τ1 c s1 le1 r1 S1 q1 => wpAny_mono (h'.2 Φ C ok pos W1 τ1 x s1 _ S1 q1) (fun vs s2 r => by
    cases r with | mk W2 as τ2 le2 r2 S2 q2 => exact ⟨W2, v :: as, τ2, le1.trans le2, .cons (r1.mono le2) r2, S2, q2⟩) fun _ _ x => x) (he _)⟩
noncomputable def unP : List VV → Option (List PV)
  | [] => some []
  | .p v :: r => (unP r).map (v :: ·)
  | _ => none
theorem unP_rep : ∀ {vs : List VV} {cs : List Value} {l : List PV}, unP vs = some l → VRepL G W vs cs → PRepL (FW G W) l cs := by
  intro vs cs l e r
  induction r generalizing l with
  | nil => cases e; exact .nil
  | @cons v c vs cs a _ ih =>
    cases a with
    | p p =>
      simp only [unP, Option.map_eq_some_iff] at e
      obtain ⟨l', h1, h2⟩ := e
      subst h2
      exact p.cons (ih h1)
    | ref => cases e
    | meth => cases e
noncomputable def listW (vs : List VV) (Q : List PV → Prop) : Prop := match unP vs with
  | some l => l.length ≤ sizeLine ∧ Q l
  | none => False
theorem listW_ex {vs : List VV} {Q : List PV → Prop} (h : listW vs Q) : ∃ l, unP vs = some l ∧ l.length ≤ sizeLine ∧ Q l := by
  unfold listW at h
  split at h
  · exact ⟨_, by assumption, h.1, h.2⟩
  · exact h.elim
noncomputable abbrev wList (a : WA) : W0 := fun C τ Q => a C τ fun vs τ' => listW vs fun l => Q (.new l) τ'
noncomputable abbrev wTup (a : WA) : WE := fun C τ Q => a C τ fun vs τ' => listW vs fun l => Q (.p (.tup l)) τ'
theorem SA.go {es : List Expr} {w : WA} (h : SA G cs es w) {C : Calls} (ok : CallsOk G Φ.A.depth C) {Q : List VV → VS → Prop} {P : List Value → Shared → Prop} {pos : Pos} (S : SimX Φ W τ x s) (q : w C τ Q)
    (k : ∀ W' a τ' v s', W.le W' → VRepL G W' a v → SimX Φ W' τ' x s' → Q a τ' → P v s') : wpAny Φ.M Φ.A (spliced (backTo pos (starEach es Φ.env))) P (fun _ _ => False) s :=
  wpAny_mono (h.2 Φ C ok pos W τ x s Q S q) (fun v s' r => by cases r with | mk W' a τ' le r S q => exact k W' a τ' v s' le r S q) fun _ _ x => x
/-- A list just made by the library's rules. -/
theorem SimX.made (S : SimX Φ W τ x s) {P : Prop} (k : ∀ m news, Fr Φ.h₀ Φ.L s.heap m → News Φ.h₀ Φ.L s.heap news → (∀ h' q co t, Fr Φ.h₀ Φ.L h' m → News Φ.h₀ Φ.L h' ((q, co) :: news) → (∀ p ∈ news, p.1 < q) → SimX Φ W τ ((q, co) :: x) { s with heap := h', toks := t }) → P) : P := by
  obtain ⟨m, n1, n2, F, Nw, nd, H, C, L, cv, o, g⟩ := id S
  exact k m _ F Nw fun h' q co t F' N' lt => SimX.newN ⟨F, Nw, nd, H, C, L, cv, o, g⟩ F' N' lt
theorem S0_list {elts : List Expr} {pos : Pos} {w : WA} (h : SA G cs elts w) : S0 G cs (.List elts pos) (wList w) := fun Φ C ok W τ x s Q S q =>
  List_ (h.go (pos := pos) ok S q fun W1 as τ1 vs s1 le r S1 q1 => by
    obtain ⟨l, e, hz, q2⟩ := listW_ex q1
    have p := unP_rep e r
    refine S1.made fun m news F Nw k => newList_K F Nw (fun a h' F' N' lt => ?_) (by rw [p.length]; exact hz)
    exact .new W1 l τ1 a vs 0 le p (k h' a _ _ F' N' lt) q2)
theorem SE_tup {elts : List Expr} {k : Nat} {pos : Pos} {w : WA} (h : SA G cs elts w) : SE G cs (.Tuple elts k pos) (wTup w) := fun Φ C ok W τ x s Q S q =>
  Tuple_ (h.go (pos := pos) ok S q fun W1 as τ1 vs s1 le r S1 q1 => by
    obtain ⟨l, e, hz, q2⟩ := listW_ex q1
    have p := unP_rep e r
    refine S1.made fun m news F Nw k => newTuple_N F Nw (fun h' F' N' => ?_) (by rw [p.length]; exact hz)
    obtain ⟨W2, le2, hm, er, S2⟩ := (k h' _ _ s1.toks F' N' (fun p hp => Heap.lt_size (Nw p hp).1)).freeze
    exact ⟨W2, .p (.tup l), τ1, le.trans le2, .p (.tup (ws := vs) (n := 0) (.inl hm) (p.mono le2.FW) .nil), S2, q2⟩)
/-- list + list. -/
noncomputable def catW (hp : List VO) (u v : VV) (Q : List PV → Prop) : Prop := ∃ l r, asL hp u = some l ∧ asL hp v = some r ∧ l.length + r.length ≤ sizeLine ∧ Q (l ++ r)
noncomputable abbrev wCat (a b : WE) : W0 := fun C τ Q => a C τ fun u τ1 => b C τ1 fun v τ2 => catW τ2.hp u v fun l => Q (.new l) τ2
theorem S0_cat {l r : Expr} {wl wr : WE} {pos : Pos} (hl : SE G cs l wl) (hr : SE G cs r wr) : S0 G cs (.BinOp l .Add r pos) (wCat wl wr) := fun Φ C ok W τ x s Q S q =>
  wpAny_BinOp (hl.go ok S q fun W1 u τ1 c s1 le1 r1 S1 q1 => hr.go ok S1 q1 fun W2 v τ2 d s2 le2 r2 S2 q2 => by
    obtain ⟨l, r, e1, e2, hz, q3⟩ := q2
    obtain ⟨a, vs, rfl, hl, p⟩ := S2.asL (r1.mono le2) e1
    obtain ⟨b, ws, rfl, hl', p'⟩ := S2.asL r2 e2
    refine S2.made fun m news F Nw k => add_lists F Nw hl hl' (fun h' F' N' => ?_) (by rw [p.length, p'.length]; exact hz)
    exact .new W2 (l ++ r) τ2 _ (vs ++ ws) 0 (le1.trans le2) (p.app p') (k h' _ _ _ F' N' (fun p hp => Heap.lt_size (Nw p hp).1)) q3)
/-- list * int, of a list just made. -/
noncomputable def repW (r : Rs) (v : VV) (Q : List PV → Prop) : Prop := match r, v with
  | .new l, .p (.int k) => (0 ≤ k ∧ l.length ≠ 0 ∧ (l.length : Int) * k ≤ 2 ^ 24) ∧ Q (List.replicate k.toNat l).flatten
  | _, _ => False
noncomputable abbrev wRep (a : W0) (b : WE) : W0 := fun C τ Q => a C τ fun u τ1 => b C τ1 fun v τ2 => repW u v fun l => Q (.new l) τ2
theorem flat_replicate {α : Type} (l : List α) : ∀ (n : Nat) (acc : Array α), (List.foldl (fun x1 x2 => x1 ++ x2) acc (List.replicate n l.toArray)).toList = acc.toList ++ (List.replicate n l).flatten := by
  intro n
  induction n with
  | zero => intro acc; simp
  | succ n ih =>
    intro acc
    rw [List.replicate_succ, List.foldl_cons, ih, List.replicate_succ, List.flatten_cons]
    simp
theorem S0_rep {l r : Expr} {wl : W0} {wr : WE} {pos : Pos} (hl : S0 G cs l wl) (hr : SE G cs r wr) : S0 G cs (.BinOp l .Mult r pos) (wRep wl wr) := fun Φ C ok W τ x s Q S q =>
  wpAny_BinOp (wpAny_mono (Q' := fun c s1 => wpAny Φ.M Φ.A (eval r Φ.env) (fun d s2 => wpAny Φ.M Φ.A (binaryOp .Mult c d) (R0 Φ W x Q) (fun _ _ => False) s2) (fun _ _ => False) s1) (hl Φ C ok W τ x s _ S q) (fun c s1 r0 => by
    cases r0 with
    | val W1 a τ1 le1 r1 S1 q1 => exact hr.go ok S1 q1 fun W2 v τ2 d s2 le2 r2 S2 q2 => q2.elim
    | new W1 l τ1 y vs n le1 p1 S1 q1 =>
      refine hr.go ok S1 q1 fun W2 v τ2 d s2 le2 r2 S2 q2 => ?_
      unfold repW at q2
      split at q2
      · rename_i l' k e1
        cases e1
        obtain ⟨t, rfl⟩ := r2.int
        obtain ⟨⟨b0, b1, b2⟩, q3⟩ := q2
        have p2 := p1.mono le2.FW
        have b3 : k ≤ 2 ^ 24 := by
          have : (1 : Int) ≤ (l.length : Int) := by (clear b0 b2; lia)
          have := Int.mul_le_mul_of_nonneg_right this b0
          (clear b0 b1; lia)
        have hg : s2.heap.get? y = some (listOf vs.toArray n) := by
          obtain ⟨m, n1, n2, F, Nw, _⟩ := id S2
          exact (Nw (y, _) (by simp)).1
        refine S2.made fun m news F Nw kk => mul_list F Nw hg (by (clear b1 b2 b3 hg; lia)) (by (clear b0 b1 b2 hg; lia)) ?_ fun h' F' N' => ?_
        · have : ((vs.toArray.size * k.toNat : Nat) : Int) ≤ 2 ^ 24 := by
            simp only [List.size_toArray, p2.length, Int.natCast_mul, Int.toNat_of_nonneg b0]; exact b2
          (clear b0 b1 b2 b3 hg; lia)
        · have e2 : vs.toArray.isEmpty = false := by
            have := p2.length
            cases vs <;> simp at this ⊢
            (clear b0 b2 b3 hg; lia)
          have N2 := N'
          rw [e2] at N2
          have S3 := (kk h' _ _ s2.toks F' N' (fun p hp => Heap.lt_size (Nw p hp).1))
          rw [e2] at S3
          have e3 : (List.foldl (fun x1 x2 => x1 ++ x2) #[] (List.replicate k.toNat vs.toArray)) = (List.replicate k.toNat vs).flatten.toArray := by
            apply Array.toList_inj.mp
            rw [flat_replicate]; simp
          simp only [Bool.false_eq_true, if_false, e3] at S3
          have pr : ∀ n : Nat, PRepL (FW G W2) (List.replicate n l).flatten (List.replicate n vs).flatten := fun n => by
            induction n with
            | zero => exact .nil
            | succ n ih => rw [List.replicate_succ, List.replicate_succ, List.flatten_cons, List.flatten_cons]; exact p2.app ih
          have S4 := (S3.perm (List.Perm.swap _ _ _)).forget
          exact .new W2 _ τ2 _ _ 0 (le1.trans le2) (pr _) S4 q3
      · exact q2.elim) fun _ _ x => x)
end VE
namespace VE
variable {N : Nat → Str} {Z : Stc} {G : Gl N Z} {cs : Scope} {Φ : Cx G cs} {W : Wd} {τ : VS} {s : Shared} {x : List (Addr × Obj)}
noncomputable def memN (n : Nat) : List Nat → Bool
  | [] => false
  | k :: r => match Nat.beq n k with
    | true => true
    | false => memN n r
theorem memN_mem {n : Nat} : ∀ {l : List Nat}, memN n l = true → n ∈ l := by
  intro l
  induction l with
  | nil => intro h; cases h
  | cons k r ih =>
    intro h
    simp only [memN] at h
    cases e : Nat.beq n k with
    | true => rw [Nat.eq_of_beq_eq_true e]; exact .head _
    | false => rw [e] at h; exact .tail _ (ih h)
/-- A field read. -/
noncomputable def clsW (Z : Stc) (n k : Nat) (Q : VV → Prop) : Prop := match getN n Z.nums with
  | some i => Q (.p (.int i))
  | none => match getN n Z.fns with
    | some f => Q (.meth f k)
    | none => match getN n Z.tabs with
      | some l => Q (.p (.raw l))
      | none => False
noncomputable def attrW (Z : Stc) (hp : List VO) (n : Nat) (v : VV) (Q : VV → Prop) : Prop := match v with
  | .ref k => match hp[k]? with
    | some (.inst fs) => match getN n fs with
      | some z => gd (memN n Z.flds) (Q z)
      | none => clsW Z n k Q
    | _ => False
  | _ => False
/-- An object of the walk's behind a reference. -/
theorem SimX.instR (S : SimX Φ W τ x s) {k : Nat} {c : Value} {fs : List (Nat × VV)} (r : VRep G W (.ref k) c) (e : τ.hp[k]? = some (.inst fs)) : ∃ a d es n, c = .ref a ∧ W.rho[k]? = some (a, d) ∧ InstV Φ W τ x s k fs a d es n := by
  cases r with
  | @ref _ a d er =>
    obtain ⟨es, n, I⟩ := S.inst e er
    exact ⟨a, d, es, n, rfl, er, I⟩
theorem attrW_run {n : Nat} {v : VV} {c : Value} {Q : VV → Prop} {P : Value → Shared → Prop} (S : SimX Φ W τ x s) (r : VRep G W v c) (h : attrW Z τ.hp n v Q)
    (k : ∀ W' z e s', W.le W' → VRep G W' z e → SimX Φ W' τ x s' → Q z → P e s') : wpAny Φ.M Φ.A (getAttr c (N n) true) P (fun _ _ => False) s := by
  unfold attrW at h
  split at h
  · rename_i kk
    split at h
    · rename_i fs e
      obtain ⟨a, d, es, nn, rfl, er, I⟩ := S.instR r e
      obtain ⟨m, n1, n2, SSF, _⟩ := id S
      have fr := I.rep.2.2 n
      split at h
      · rename_i z ez
        rw [ez] at fr
        obtain ⟨c, hc, rc⟩ := fr
        have h := gd_ex h
        exact get_own SSF Φ.K I.inst G.SO.cls.get G.SO.cls.has (G.SO.fld n (memN_mem h.1)).find rfl hc rc.handed (k W z c _ (.refl W) rc (S.toks _) h.2)
      · rename_i ez
        rw [ez] at fr
        unfold clsW at h
        split at h
        · rename_i i ei
          obtain ⟨⟨t, h1, h2⟩, h3⟩ := G.SO.int n i ei
          exact get_cls SSF Φ.K I.inst G.SO.cls.get G.SO.cls.has h1 h2 rfl h3 fr (k W _ _ _ (.refl W) .of_int (S.toks _) h)
        · split at h
          · rename_i f ef
            obtain ⟨FO, fi⟩ := G.SO.fn n f (getN_mem ef)
            refine S.made fun m news F Nw kk' => kbm_bound F Φ.K Nw I.inst G.SO.cls.get G.SO.cls.has FO.find FO.fn FO.get FO.takes FO.copied fr fun q h' F' N' lt => ?_
            obtain ⟨W2, le2, hm, e2, S2⟩ := (kk' h' q _ (s.toks + 1) F' N' lt).freeze
            exact k W2 _ _ _ le2 (.meth fi (le2.at er) hm) S2 h
          · split at h
            · rename_i l el
              obtain ⟨a', o, ws, n', TO⟩ := G.SO.tab n l el
              exact get_cls SSF Φ.K I.inst G.SO.cls.get G.SO.cls.has TO.ref.find TO.ref.get rfl TO.ref.copied fr
                (k W _ _ _ (.refl W) (.p (.raw (.inr (G.KX _ _ TO.at_)) TO.cls TO.data (TO.rep.mono fun a o e => .inr (G.KX a o e)) .nil)) (S.toks _) h)
            · exact h.elim
    · exact h.elim
  · exact h.elim
noncomputable abbrev wAttr (Z : Stc) (n : Nat) (w : WE) : WE := fun C τ Q => w C τ fun v τ' => attrW Z τ'.hp n v fun z => Q z τ'
theorem SE_attr {e : Expr} {n : Nat} {t : Str} {pos : Pos} {w : WE} (h : SE G cs e w) (hn : N n = t) (he : ∀ env, eval (.Attribute e t pos) env = (do let o ← eval e env; standAt pos.atName; let r ← holding [o] (getAttr o t true); letTemporaryGo e o r; pure r)) :
    SE G cs (.Attribute e t pos) (wAttr Z n w) := fun Φ C ok W τ x s Q S q =>
  Attribute_any_ (h.go ok S q fun W1 v τ1 c s1 le r S1 q1 => by
    subst hn
    exact attrW_run S1 r q1 fun W2 z e s2 le2 r2 S2 q2 => ⟨W2, z, τ1, le.trans le2, r2, S2, q2⟩) (he _)
/-- What the oracle gives, taken as a value. -/
theorem CallsOk.wp {C : Calls} (ok : CallsOk G Φ.A.depth C) {f : Addr} {as : List VV} {vs : List Value} {Q : Rs → VS → Prop} (S : SimX Φ W τ x s) (r : VRepL G W as vs) (h : C f as τ.hp fun a hp => Q a ⟨τ.loc, hp⟩) :
    wpAny Φ.M Φ.A (call (.ref f) vs) (R0 Φ W x Q) (fun _ _ => False) s :=
  wpAny_call (codeAny_mono (ok cs Φ Φ.A Φ.hh Φ.un (by lia) W τ x s f as vs _ S r h) fun r' s' ⟨v, e, r0⟩ => by
    subst e
    cases r0 with
    | val W1 a τ1 l r1 S1 q1 => obtain ⟨e1, q1⟩ := q1; exact .val W1 a τ1 l r1 S1 (by rw [← e1] at q1; exact q1)
    | new W1 l τ1 q vs n l' r1 S1 q1 => obtain ⟨e1, q1⟩ := q1; exact .new W1 l τ1 q vs n l' r1 S1 (by rw [← e1] at q1; exact q1))
/-- A method of the class is called. -/
noncomputable def mcallW (Z : Stc) (hp : List VO) (n : Nat) (v : VV) (Q : Addr → Nat → Prop) : Prop := match v with
  | .ref k => match hp[k]? with
    | some (.inst fs) => match getN n fs, getN n Z.fns with
      | none, some f => Q f k
      | _, _ => False
    | _ => False
  | _ => False
theorem mcallW_ex {hp : List VO} {n : Nat} {v : VV} {Q : Addr → Nat → Prop} (h : mcallW Z hp n v Q) : ∃ k fs f, v = .ref k ∧ hp[k]? = some (.inst fs) ∧ getN n fs = none ∧ getN n Z.fns = some f ∧ Q f k := by
  unfold mcallW at h
  split at h
  · split at h
    · split at h
      · exact ⟨_, _, _, rfl, by assumption, by assumption, by assumption, h⟩
      · exact h.elim
    · exact h.elim
  · exact h.elim
noncomputable abbrev wMeth (Z : Stc) (n : Nat) (w : WE) (ws : WA) : W0 := fun C τ Q => w C τ fun v τ1 => mcallW Z τ1.hp n v fun f k => ws C τ1 fun vs τ2 => C f (.ref k :: vs) τ2.hp fun r hp => Q r ⟨τ2.loc, hp⟩
theorem evalArgs_of {M : Model} {A : Around} {E : Value → Shared → Prop} {f : Value} {args : List (Bool × Sem Value)} {Q : Args → Shared → Prop} (hp : args.any (·.1) = false) (h : wpAny M A (spliced args) (fun vs s' => Q ⟨vs, []⟩ s') E s) : wpAny M A (evalArgs f true args []) Q E s := by
  cases args with
  | nil =>
    unfold evalArgs
    show wpAny M A (spliced [] >>= _) Q E s
    refine wpAny_bind (wpAny_mono h (fun vs s' h' => wpAny_bind (wpAny_pure ?_)) fun _ _ x => x)
    refine wpAny_holding ?_
    exact wpAny_bind (wpAny_pure (wpAny_bind (wpAny_pure (wpAny_pure h'))))
  | cons p rest =>
    obtain ⟨b, y⟩ := p
    cases b with
    | true => cases hp
    | false => exact evalArgs_plain h
theorem back_any {pos : Pos} : ∀ l : List (Bool × Sem Value), (backTo pos l).any (·.1) = l.any (·.1) := fun l => by
  unfold backTo
  rw [List.any_map]; rfl
/-- The arguments, then the call. -/
theorem SA.run {es : List Expr} {ws : WA} (h : SA G cs es ws) {C : Calls} (ok : CallsOk G Φ.A.depth C) {Q : List VV → VS → Prop} {P : Value → Shared → Prop} {pos : Pos} {f : Value} {first : List Value} {H : Heap → Prop} (S : SimX Φ W τ x s) (q : ws C τ Q)
    (hk : ∀ h, H h → ∃ k, (k = Keeper.frame ∨ k = Keeper.machine ∨ k = Keeper.boundFrame) ∧ Looks Φ.M h (keeperOf f) k)
    (k : ∀ W' a τ' v s', W.le W' → VRepL G W' a v → SimX Φ W' τ' x s' → Q a τ' → H s'.heap ∧ wpAny Φ.M Φ.A (call f (first ++ v)) P (fun _ _ => False) s') :
    wpAny Φ.M Φ.A (callWith pos f first (backTo pos (starEach es Φ.env)) (backToKw pos (keywordEach [] Φ.env))) P (fun _ _ => False) s := by
  have hp : (backTo pos (starEach es Φ.env)).any (·.1) = false := by rw [back_any]; exact h.1 _
  exact callWith_of (P := H) (by rw [hp]; rfl) hk (evalArgs_of hp (h.go ok S q fun W' a τ' v s' le r S' q' => k W' a τ' v s' le r S' q'))
theorem S0_meth {o : Expr} {es : List Expr} {n : Nat} {t : Str} {apos pos : Pos} {w : WE} {ws : WA} (h : SE G cs o w) (h' : SA G cs es ws) (hn : N n = t)
    (hc : ∀ env, ∃ pl, eval (.Call (.Attribute o t apos) es [] pos) env = (do let ov ← eval o env; standAt apos.atName; let (f, first) ← holding [ov] (getMethod ov t pl); callWith pos f first (backTo pos (starEach es env)) (backToKw pos (keywordEach [] env)))) :
    S0 G cs (.Call (.Attribute o t apos) es [] pos) (wMeth Z n w ws) := fun Φ C ok W τ x s Q S q => by
  subst hn
  obtain ⟨pl, hc⟩ := hc Φ.env
  refine methodCall_KW (he := hc) (h.go ok S q fun W1 v τ1 c s1 le r S1 q1 => ?_)
  obtain ⟨k, fs, f, rfl, e, e1, e2, q2⟩ := mcallW_ex q1
  obtain ⟨a, d, es', nn, rfl, er, I⟩ := S1.instR r e
  obtain ⟨m, n1, n2, SSF, _⟩ := id S1
  have fr := I.rep.2.2 n
  rw [e1] at fr
  obtain ⟨FO, _⟩ := G.SO.fn n f (getN_mem e2)
  refine method_inst SSF Φ.K I.inst G.SO.cls.get FO.find FO.fn fr ?_
  exact h'.run ok S1 q2 (keeps_K FO.keep) fun W2 as τ2 vs s2 le2 r2 S2 q3 => ⟨S2.K, wpAny_mono (ok.wp S2 (.cons (.ref (le2.at er)) r2) q3) (fun _ _ y => y.up (le.trans le2)) fun _ _ x => x⟩
/-- A bound method that a name holds is called. -/
noncomputable def vcallW (v : VV) (Q : Addr → Nat → Prop) : Prop := match v with
  | .meth f k => Q f k
  | _ => False
noncomputable abbrev wVcall (w : WE) : W0 := fun C τ Q => w C τ fun v τ1 => vcallW v fun f k => C f [.ref k] τ1.hp fun r hp => Q r ⟨τ1.loc, hp⟩
end VE
namespace VE
variable {N : Nat → Str} {Z : Stc} {G : Gl N Z} {cs : Scope} {Φ : Cx G cs} {W : Wd} {τ : VS} {s : Shared} {x : List (Addr × Obj)}
theorem vcallW_ex {v : VV} {Q : Addr → Nat → Prop} (h : vcallW v Q) : ∃ f k, v = .meth f k ∧ Q f k := by
  unfold vcallW at h
  split at h
  · exact ⟨_, _, rfl, h⟩
  · exact h.elim
theorem S0_vcall {fn : Expr} {pos : Pos} {w : WE} (h : SE G cs fn w) (he : ∀ env, eval (.Call fn [] [] pos) env = (do callWith pos (← eval fn env) [] (backTo pos (starEach [] env)) (backToKw pos (keywordEach [] env)))) : S0 G cs (.Call fn [] [] pos) (wVcall w) := fun Φ C ok W τ x s Q S q =>
  Call_ (h.go ok S q fun W1 v τ1 c s1 le r S1 q1 => by
    obtain ⟨f, k, rfl, q2⟩ := vcallW_ex q1
    cases r with
    | @meth _ q _ a d hf er hm =>
      have hg := S1.FW (.inl hm)
      exact callWith_M0 ⟨hg, S1.K⟩ hf (wpAny_call (method_call hg (codeAny_mono (ok cs Φ Φ.A Φ.hh Φ.un (by lia) W1 τ1 x s1 f _ _ _ S1 (.cons (.ref er) .nil) q2) fun r' s' ⟨v, e, r0⟩ => by
        subst e
        cases r0 with
        | val W2 a τ2 l r1 S2 q1 => obtain ⟨e1, q1⟩ := q1; exact .val W2 a τ2 (le.trans l) r1 S2 (by rw [← e1] at q1; exact q1)
        | new W2 l τ2 q vs n l' r1 S2 q1 => obtain ⟨e1, q1⟩ := q1; exact .new W2 l τ2 q vs n (le.trans l') r1 S2 (by rw [← e1] at q1; exact q1)))) ) (he _)
/-- A function as a value is called. -/
noncomputable def fnV (Z : Stc) (v : VV) (Q : Addr → Prop) : Prop := match v with
  | .p (.fn f) => gd (Z.fns.any fun p => Nat.beq p.2 f) (Q f)
  | _ => False
theorem fnV_ex {v : VV} {Q : Addr → Prop} (h : fnV Z v Q) : ∃ f n, v = .p (.fn f) ∧ (n, f) ∈ Z.fns ∧ Q f := by
  unfold fnV at h
  split at h
  · obtain ⟨h1, h2⟩ := gd_ex h
    obtain ⟨p, hp, e⟩ := List.any_eq_true.mp h1
    obtain ⟨n, f'⟩ := p
    have := Nat.eq_of_beq_eq_true e
    dsimp only at this
    subst this
    exact ⟨_, n, rfl, hp, h2⟩
  · exact h.elim
noncomputable abbrev wFcall (Z : Stc) (w : WE) (ws : WA) : W0 := fun C τ Q => w C τ fun v τ1 => fnV Z v fun f => ws C τ1 fun vs τ2 => C f vs τ2.hp fun r hp => Q r ⟨τ2.loc, hp⟩
theorem S0_fcall {fn : Expr} {es : List Expr} {pos : Pos} {w : WE} {ws : WA} (h : SE G cs fn w) (h' : SA G cs es ws) (he : ∀ env, eval (.Call fn es [] pos) env = (do callWith pos (← eval fn env) [] (backTo pos (starEach es env)) (backToKw pos (keywordEach [] env)))) : S0 G cs (.Call fn es [] pos) (wFcall Z w ws) := fun Φ C ok W τ x s Q S q =>
  Call_ (h.go ok S q fun W1 v τ1 c s1 le r S1 q1 => by
    obtain ⟨f, n, rfl, hm, q2⟩ := fnV_ex q1
    cases r with
    | p r =>
      cases r with
      | fn a _ => exact h'.run (first := []) ok S1 q2 (keeps_K (G.SO.fn n f hm).1.keep) fun W2 as τ2 vs s2 le2 r2 S2 q3 => ⟨S2.K, wpAny_mono (ok.wp S2 r2 q3) (fun _ _ y => y.up (le.trans le2)) fun _ _ x => x⟩) (he _)
/-- A function of the text's is called by its name. -/
noncomputable abbrev wCall (f : Addr) (ws : WA) : W0 := fun C τ Q => ws C τ fun vs τ2 => C f vs τ2.hp fun r hp => Q r ⟨τ2.loc, hp⟩
theorem S0_call {t : Str} {p : Pos} {es : List Expr} {pos : Pos} {ws : WA} {f : Addr} (n : Nat) (hm : (n, f) ∈ Z.globs) (h' : SA G cs es ws) (hn : N n = t) (hk : cs.names.lookup t = some .globalImplicit)
    (he : ∀ env, eval (.Call (.Name t p) es [] pos) env = (do callWith pos (← eval (.Name t p) env) [] (backTo pos (starEach es env)) (backToKw pos (keywordEach [] env)))) : S0 G cs (.Call (.Name t p) es [] pos) (wCall f ws) := fun Φ C ok W τ x s Q S q => by
  subst hn
  obtain ⟨g1, g2⟩ := G.SO.glob n f hm
  refine Call_ (Calls.Name_function_global Φ.kind hk (Calls.loadGlobal_global (env := Φ.env) ((topRead_of Φ.T).g.keeps S.base) (mg_of Φ.K (topRead_of Φ.T).g g1) ?_) (G.hN.dbg n)) (he _)
  exact h'.run (first := []) ok S q (keeps_K g2) fun W2 as τ2 vs s2 le2 r2 S2 q3 => ⟨S2.K, wpAny_mono (ok.wp S2 r2 q3) (fun _ _ y => y.up le2) fun _ _ x => x⟩
/-- A built-in function is called by its name. -/
structure BiOk (N : Nat → Str) (Z : Stc) (cs : Scope) (t : Str) (v : Value) (n : Nat) : Prop where
  nm : N n = t
  bi : memN n Z.bis = true
  k : cs.names.lookup t = some .globalImplicit
  v : bootBuiltins t = some v
  ne : t ≠ "__name__"
theorem BiOk.load {t : Str} {p : Pos} {v : Value} {n : Nat} (b : BiOk N Z cs t v n) {P : Value → Shared → Prop} (S : SimX Φ W τ x s) (h : P v s) : wpAny Φ.M Φ.A (eval (.Name t p) Φ.env) P (fun _ _ => False) s := by
  obtain ⟨hn, hb, hk, hv, ne⟩ := b
  subst hn
  exact Calls.Name_function_global Φ.kind hk (Calls.loadGlobal_builtin (env := Φ.env) ((topRead_of Φ.T).g.keeps S.base) (mg_none_of Φ.K (topRead_of Φ.T).g (G.SO.bi n (memN_mem hb))) ((topRead_of Φ.T).b.keeps S.base) (((topRead_of Φ.T).builtins _ ne).trans hv) h) (G.hN.dbg n)
theorem SA.bcall {t : Str} {p : Pos} {es : List Expr} {pos : Pos} {ws : WA} {id : String} {n : Nat} (h' : SA G cs es ws) (b : BiOk N Z cs t (Value.builtin id) n)
    (he : ∀ env, eval (.Call (.Name t p) es [] pos) env = (do callWith pos (← eval (.Name t p) env) [] (backTo pos (starEach es env)) (backToKw pos (keywordEach [] env)))) {C : Calls} (ok : CallsOk G Φ.A.depth C) {Q : List VV → VS → Prop} {P : Value → Shared → Prop} (S : SimX Φ W τ x s) (q : ws C τ Q)
    (k : ∀ W' a τ' v s', W.le W' → VRepL G W' a v → SimX Φ W' τ' x s' → Q a τ' → wpAny Φ.M Φ.A (call (.builtin id) v) P (fun _ _ => False) s') : wpAny Φ.M Φ.A (eval (.Call (.Name t p) es [] pos) Φ.env) P (fun _ _ => False) s := by
  refine Call_ (b.load S ?_) (he _)
  have hp : (backTo pos (starEach es Φ.env)).any (·.1) = false := by rw [back_any]; exact h'.1 _
  exact callWith_builtin (first := []) hp (evalArgs_of hp (h'.go ok S q fun W' a τ' v s' le r S' q' => k W' a τ' v s' le r S' q'))
theorem VRepL.one {v : VV} {cs : List Value} (r : VRepL G W [v] cs) : ∃ c, cs = [c] ∧ VRep G W v c := by
  cases r with
  | cons a b => cases b; exact ⟨_, rfl, a⟩
theorem VRepL.two {u v : VV} {cs : List Value} (r : VRepL G W [u, v] cs) : ∃ c d, cs = [c, d] ∧ VRep G W u c ∧ VRep G W v d := by
  cases r with
  | cons a b => obtain ⟨d, rfl, rd⟩ := b.one; exact ⟨_, d, rfl, a, rd⟩
noncomputable def lenW (hp : List VO) (vs : List VV) (Q : VV → Prop) : Prop := match vs with
  | [v] => ∃ l, asL hp v = some l ∧ (l.length : Int) < 2 ^ 63 ∧ Q (.p (.int l.length))
  | _ => False
noncomputable abbrev wLen (ws : WA) : WE := fun C τ Q => ws C τ fun vs τ' => lenW τ'.hp vs fun z => Q z τ'
theorem SE_len {t : Str} {p : Pos} {es : List Expr} {pos : Pos} {ws : WA} (n : Nat) (h' : SA G cs es ws) (b : BiOk N Z cs t (Value.builtin "len") n)
    (he : ∀ env, eval (.Call (.Name t p) es [] pos) env = (do callWith pos (← eval (.Name t p) env) [] (backTo pos (starEach es env)) (backToKw pos (keywordEach [] env)))) : SE G cs (.Call (.Name t p) es [] pos) (wLen ws) := fun Φ C ok W τ x s Q S q =>
  h'.bcall b he ok S q fun W1 as τ1 vs s1 le r S1 q1 => by
    unfold lenW at q1
    split at q1
    · obtain ⟨l, e, hz, q2⟩ := q1
      obtain ⟨c, rfl, rc⟩ := r.one
      obtain ⟨a, vs, rfl, hl, p⟩ := S1.asL rc e
      have e2 : vs.toArray.size = l.length := by simp [p.length]
      exact len_list hl (by rw [e2]; exact hz) ⟨W1, _, τ1, le, .of_int, S1.toks _, by rw [e2]; exact q2⟩
    · exact q1.elim
noncomputable def sumW (hp : List VO) (vs : List VV) (Q : VV → Prop) : Prop := match vs with
  | [v] => ∃ l : List Int, asL hp v = some (l.map .int) ∧ Q (.p (.int l.sum))
  | _ => False
noncomputable abbrev wSum (ws : WA) : WE := fun C τ Q => ws C τ fun vs τ' => sumW τ'.hp vs fun z => Q z τ'
/-- The library's frames as the walk's. -/
theorem SimX.fr (S : SimX Φ W τ x s) {P : Prop} (k : ∀ m news, Fr Φ.h₀ Φ.L s.heap m → News Φ.h₀ Φ.L s.heap news → (∀ h' t, Fr Φ.h₀ Φ.L h' m → News Φ.h₀ Φ.L h' news → SimX Φ W τ x { s with heap := h', toks := t }) → P) : P := by
  obtain ⟨m, n1, n2, F, Nw, nd, H, C, L, cv, o, g⟩ := id S
  exact k m _ F Nw fun h' t F' N' => ⟨m, n1, n2, F', N', nd, H, C, L, cv, o, g⟩
theorem SE_sum {t : Str} {p : Pos} {es : List Expr} {pos : Pos} {ws : WA} (n : Nat) (h' : SA G cs es ws) (b : BiOk N Z cs t (Value.builtin "sum") n)
    (he : ∀ env, eval (.Call (.Name t p) es [] pos) env = (do callWith pos (← eval (.Name t p) env) [] (backTo pos (starEach es env)) (backToKw pos (keywordEach [] env)))) : SE G cs (.Call (.Name t p) es [] pos) (wSum ws) := fun Φ C ok W τ x s Q S q =>
  h'.bcall b he ok S q fun W1 as τ1 vs s1 le r S1 q1 => by
    unfold sumW at q1
    split at q1
    · obtain ⟨l, e, q2⟩ := q1
      obtain ⟨c, rfl, rc⟩ := r.one
      obtain ⟨a, vs, rfl, hl, p⟩ := S1.asL rc e
      exact S1.fr fun m news F Nw k => sumK Φ.hh F Nw hl p.ints fun h' tk t' F' N' => ⟨W1, _, τ1, le, .of_int, k _ _ F' N', q2⟩
    · exact q1.elim
noncomputable def minW (vs : List VV) (Q : VV → Prop) : Prop := match vs with
  | [.p (.int i), .p (.int j)] => Q (.p (.int (if j < i then j else i)))
  | _ => False
noncomputable abbrev wMin (ws : WA) : WE := fun C τ Q => ws C τ fun vs τ' => minW vs fun z => Q z τ'
noncomputable def dmW (vs : List VV) (Q : VV → Prop) : Prop := match vs with
  | [.p (.int i), .p (.int j)] => (j ≠ 0 ∧ Builtin.divisionGoesByPylong i j = false) ∧ Q (.p (.tup [.int (Int.fdiv i j), .int (Int.fmod i j)]))
  | _ => False
noncomputable abbrev wDm (ws : WA) : WE := fun C τ Q => ws C τ fun vs τ' => dmW vs fun z => Q z τ'
/-- append, extend and pop of a list of the walk's. -/
noncomputable def ownL (hp : List VO) (v : VV) (Q : Nat → List PV → Prop) : Prop := match v with
  | .ref k => match hp[k]? with
    | some (.list l) => Q k l
    | _ => False
  | _ => False
theorem ownL_ex {hp : List VO} {v : VV} {Q : Nat → List PV → Prop} (h : ownL hp v Q) : ∃ k l, v = .ref k ∧ hp[k]? = some (.list l) ∧ Q k l := by
  unfold ownL at h
  split at h
  · split at h
    · exact ⟨_, _, rfl, by assumption, h⟩
    · exact h.elim
  · exact h.elim
noncomputable def appW (hp : List VO) (k : Nat) (v : VV) (Q : List VO → Prop) : Prop := match v, hp[k]? with
  | .p z, some (.list l) => l.length ≤ sizeLine ∧ Q (hp.set k (.list (l ++ [z])))
  | _, _ => False
noncomputable abbrev wApp (w we : WE) : WE := fun C τ Q => w C τ fun v τ1 => ownL τ1.hp v fun k _ => we C τ1 fun u τ2 => appW τ2.hp k u fun hp => Q (.p .none) ⟨τ2.loc, hp⟩
theorem SE_app {o e : Expr} {apos pos : Pos} {t : Str} {w we : WE} (h : SE G cs o w) (h' : SE G cs e we) (ht : t = "append") (he : ∀ env, starEach [e] env = (false, eval e env) :: starEach [] env)
    (hc : ∀ env, ∃ pl, eval (.Call (.Attribute o t apos) [e] [] pos) env = (do let ov ← eval o env; standAt apos.atName; let (f, first) ← holding [ov] (getMethod ov t pl); callWith pos f first (backTo pos (starEach [e] env)) (backToKw pos (keywordEach [] env)))) :
    SE G cs (.Call (.Attribute o t apos) [e] [] pos) (wApp w we) := fun Φ C ok W τ x s Q S q => by
  subst ht
  obtain ⟨pl, hc⟩ := hc Φ.env
  refine methodCall_KW (he := hc) (h.go ok S q fun W1 v τ1 c s1 le r S1 q1 => ?_)
  obtain ⟨k, l, rfl, e1, q2⟩ := ownL_ex q1
  cases r with
  | @ref _ a d er =>
    obtain ⟨vs, n, LA⟩ := S1.list e1 er
    refine getMethod_list_append LA.get rfl rfl ?_
    show wpAny Φ.M Φ.A (callWith pos (.builtin "list.append") [.ref a] (backTo pos (starEach [e] Φ.env)) []) _ _ _
    rw [he]
    refine callWith_builtin rfl (evalArgs_plain (spliced_cons (h'.go ok S1 q2 fun W2 u τ2 c2 s2 le2 r2 S2 q3 => spliced_nil ?_)))
    unfold appW at q3
    split at q3
    · rename_i z l' e2
      cases r2 with
      | p r2 =>
        obtain ⟨vs2, n2, LB⟩ := S2.list e2 (le2.at er)
        obtain ⟨m, news, news', F, Nw, U, up⟩ := LB.updU (l' ++ [z]) (vs2 ++ [c2]) (n2 + 1) (LB.rep.app r2)
        refine append_K (its := vs2.toArray) (n := n2) F Nw (by rw [List.push_toArray]; exact U) (fun h' F' N' => ?_) (by rw [List.size_toArray, LB.rep.length]; exact q3.1)
        exact ⟨W2, _, _, le.trans le2, .p (.none .nil), up h' s2.toks F' N', q3.2⟩
    · exact q3.elim
noncomputable def popW (hp : List VO) (v : VV) (Q : VV → List VO → Prop) : Prop := ownL hp v fun k l => ∃ m : List Int, l = m.map .int ∧ 0 < m.length ∧ m.length ≤ sizeLine ∧ Q (.p (.int (m.getLastD 0))) (hp.set k (.list (m.dropLast.map .int)))
noncomputable abbrev wPop (w : WE) : WE := fun C τ Q => w C τ fun v τ1 => popW τ1.hp v fun z hp => Q z ⟨τ1.loc, hp⟩
end VE
namespace VE
variable {N : Nat → Str} {Z : Stc} {G : Gl N Z} {cs : Scope} {Φ : Cx G cs} {W : Wd} {τ : VS} {s : Shared} {x : List (Addr × Obj)}
theorem CR.other {loc : List (Nat × VV)} {n : Nat} {v : VV} : ∀ {l ns}, CR G W loc l ns → n ∉ l.map (·.1) → CR G W (putN n v loc) l ns := by
  intro l ns h
  induction h with
  | nil => intro _; exact .nil
  | @cons k c o x cs ns e f r ih =>
    intro hm
    rw [List.map_cons, List.mem_cons, not_or] at hm
    refine .cons e (fun u hu => ?_) (ih hm.2)
    rw [getN_putN, if_neg (Ne.symm hm.1)] at hu
    exact f u hu
theorem CR.put {loc : List (Nat × VV)} {n : Nat} {v : VV} {u : Value} (rv : VRep G W v u) : ∀ {l ns}, CR G W loc l ns → (l.map (·.1)).Nodup → n ∈ l.map (·.1) → ∃ c o pre post, (n, c) ∈ l ∧ (∃ y, o.data = .cell y) ∧ ns = pre ++ (c, o) :: post ∧ ∀ o', o'.data = .cell (some u) → CR G W (putN n v loc) l (pre ++ (c, o') :: post) := by
  intro l ns h
  induction h with
  | nil => intro _ hm; cases hm
  | @cons k c o x cs ns e f r ih =>
    intro nd hm
    rw [List.map_cons, List.nodup_cons] at nd
    by_cases hk : n = k
    · subst hk
      refine ⟨c, o, [], ns, .head _, ⟨x, e⟩, rfl, fun o' e' => .cons e' (fun w hw => ?_) (r.other nd.1)⟩
      rw [getN_putN, if_pos rfl] at hw
      cases hw
      exact ⟨u, rfl, rv⟩
    · obtain ⟨c', o', pre, post, h1, h2, h3, h4⟩ := ih nd.2 (by
        rcases List.mem_cons.mp hm with q | q
        · exact absurd q hk
        · exact q)
      subst h3
      refine ⟨c', o', (c, o) :: pre, post, .tail _ h1, h2, rfl, fun o'' e' => .cons e (fun w hw => ?_) (h4 o'' e')⟩
      rw [getN_putN, if_neg (Ne.symm hk)] at hw
      exact f w hw
/-- A name is stored. -/
theorem SimX.store (S : SimX Φ W τ x s) {n : Nat} {v : VV} {c : Value} (r : VRep G W v c) (hl : cs.names.lookup (N n) = some .local ∨ cs.names.lookup (N n) = some .cell ∧ cs.names.lookup (N Z.topn) = some .local) {P : Unit → Shared → Prop} (k : ∀ s', SimX Φ W ⟨putN n v τ.loc, τ.hp⟩ x s' → P () s') :
    wpAny Φ.M Φ.A (storeName Φ.env (N n) c) P (fun _ _ => False) s := by
  obtain ⟨m, n1, n2, F, Nw, nd, H, C, L, cv, o, g⟩ := id S
  rcases hl with hl | ⟨hl, ht⟩
  · have nc : n ∉ Φ.cv.map (·.1) := fun hm => by
      obtain ⟨⟨n', a⟩, hp, e⟩ := List.mem_map.mp hm
      have e : n' = n := e
      subst e
      rcases (cv _ a hp).1 with q | q <;> rw [hl] at q <;> cases q
    refine wpAny_storeName_local hl F.ns (fun h' hn hs => k _ ⟨_, n1, n2, F.set hn hs, Nw.set hs, nd, H, C.other nc, fun j u e => ?_, cv, o, g⟩)
      (by show (cs.kind == .class || (cs.kind == .module && Φ.L != mainGlobals)) = false; rw [Φ.kind]; rfl)
    rw [getN_putN] at e
    by_cases hj : j = n
    · subst hj
      rw [if_pos rfl] at e
      cases e
      exact .loc c hl (by simp) r
    · rw [if_neg hj] at e
      cases L j u e with
      | loc d a b rd =>
        refine .loc d a ?_ rd
        show (if N j = N n then some c else m (N j)) = some d
        rw [if_neg (fun z => hj (G.hN.inj _ _ z))]
        exact b
      | cell a => exact .cell a
      | fix c u a b d r => exact .fix c u a b d r
  · have hm := Φ.cvin ht n hl
    obtain ⟨a, co, pre, post, h1, ⟨y, hy⟩, rfl, h4⟩ := C.put r Φ.cvnd hm
    obtain ⟨_, hc⟩ := cv n a h1
    have Nw' : News Φ.h₀ Φ.L s.heap ((x ++ n1 ++ pre) ++ (a, co) :: (post ++ W.fro)) := by simpa using Nw
    have nd' : (((x ++ n1 ++ pre) ++ (a, co) :: (post ++ W.fro)).map (·.1)).Nodup := by simpa using nd
    have hg := (Nw' (a, co) (by simp)).1
    refine wpAny_storeName_cell Φ.kind hl hc ⟨co, hg, hy⟩ fun h' ⟨co', hg', hd'⟩ sb => k _ ?_
    obtain ⟨F2, N2⟩ := changed F Nw' (updOf (o' := co') nd') hg' sb
    refine ⟨m, n1, pre ++ (a, co') :: post, F2, by simpa using N2, by simpa using nd', H, h4 co' hd', fun j u e => ?_, cv, o, g⟩
    rw [getN_putN] at e
    by_cases hj : j = n
    · subst hj; exact .cell hm
    · rw [if_neg hj] at e; exact L j u e
inductive Fl where
  | next | brk | cont
  | ret (v : VV)
inductive FRel (G : Gl N Z) (W : Wd) : Fl → Flow → Prop
  | next : FRel G W .next .next
  | brk : FRel G W .brk .brk
  | cont : FRel G W .cont .cont
  | ret {v : VV} {c : Value} : VRep G W v c → FRel G W (.ret v) (.ret c)
noncomputable abbrev WX := Calls → VS → (Fl → VS → Prop) → Prop
inductive RF (Φ : Cx G cs) (W : Wd) (x : List (Addr × Obj)) (Q : Fl → VS → Prop) (f : Flow) (s : Shared) : Prop where
  | mk (W' : Wd) (a : Fl) (τ : VS) (le : W.le W') (r : FRel G W' a f) (S : SimX Φ W' τ x s) (q : Q a τ)
theorem RF.up {W' : Wd} {Q : Fl → VS → Prop} {f : Flow} {s : Shared} (le : W.le W') (h : RF Φ W' x Q f s) : RF Φ W x Q f s := by cases h with | mk W1 a τ l r S q => exact ⟨W1, a, τ, le.trans l, r, S, q⟩
noncomputable def SX (G : Gl N Z) (cs : Scope) (st : Stmt) (w : WX) : Prop := ∀ (Φ : Cx G cs) C, CallsOk G Φ.A.depth C → ∀ W τ x s Q, SimX Φ W τ x s → w C τ Q → wpAny Φ.M Φ.A (exec st Φ.env) (RF Φ W x Q) (fun _ _ => False) s
noncomputable def SB (G : Gl N Z) (cs : Scope) (ss : List Stmt) (w : WX) : Prop := ∀ (Φ : Cx G cs) C, CallsOk G Φ.A.depth C → ∀ W τ x s Q, SimX Φ W τ x s → w C τ Q → wpAny Φ.M Φ.A (execs ss Φ.env) (RF Φ W x Q) (fun _ _ => False) s
noncomputable abbrev wNil : WX := fun _ τ Q => Q .next τ
theorem SB_nil : SB G cs [] wNil := fun Φ C ok W τ x s Q S q => wpAny_execs_nil ⟨W, .next, τ, .refl W, .next, S, q⟩
noncomputable abbrev thenF (f : Fl) (p : Prop) (q : Prop) : Prop := match f with
  | .next => p
  | _ => q
noncomputable abbrev wSeq (a b : WX) : WX := fun C τ Q => a C τ fun f τ' => thenF f (b C τ' Q) (Q f τ')
theorem SB_cons {st : Stmt} {rest : List Stmt} {a b : WX} (h : SX G cs st a) (h' : SB G cs rest b) : SB G cs (st :: rest) (wSeq a b) := fun Φ C ok W τ x s Q S q =>
  wpAny_execs_cons (wpAny_mono (h Φ C ok W τ x s _ S q) (fun f s' r => by
    cases r with
    | mk W1 a τ1 le r S1 q1 =>
      cases r with
      | next => exact wpAny_mono (h' Φ C ok W1 τ1 x s' Q S1 q1) (fun _ _ y => y.up le) fun _ _ y => y
      | brk => exact ⟨W1, .brk, τ1, le, .brk, S1, q1⟩
      | cont => exact ⟨W1, .cont, τ1, le, .cont, S1, q1⟩
      | ret rv => exact ⟨W1, _, τ1, le, .ret rv, S1, q1⟩) fun _ _ y => y)
theorem interactive_no : interactive Φ.env = false := by
  unfold interactive
  show (cs.kind == .module && _) = false
  rw [Φ.kind]; rfl
/-- What is never come to. -/
noncomputable abbrev wDead : WX := fun _ _ _ => False
theorem SB_dead {ss : List Stmt} : SB G cs ss wDead := fun Φ C ok W τ x s Q S q => q.elim
noncomputable abbrev wPass : WX := fun _ τ Q => Q .next τ
theorem SX_pass {pos : Pos} : SX G cs (.Pass pos) wPass := fun Φ C ok W τ x s Q S q => wpAny_Pass ⟨W, .next, τ, .refl W, .next, S, q⟩
noncomputable abbrev wBrk : WX := fun _ τ Q => Q .brk τ
theorem SX_brk {pos : Pos} : SX G cs (.Break pos) wBrk := fun Φ C ok W τ x s Q S q => wpAny_Break ⟨W, .brk, τ, .refl W, .brk, S, q⟩
noncomputable abbrev wExpr (w : WE) : WX := fun C τ Q => w C τ fun _ τ' => Q .next τ'
theorem SX_expr {e : Expr} {pos : Pos} {w : WE} (h : SE G cs e w) (hs : ∀ env, swapsWith e none pos.line env = pure false) : SX G cs (.Expr e pos) (wExpr w) := fun Φ C ok W τ x s Q S q =>
  wpAny_Expr_any (h.go ok S q fun W1 v τ1 c s1 le r S1 q1 => ⟨W1, .next, τ1, le, .next, S1, q1⟩) interactive_no (hs _)
noncomputable abbrev wRet (w : WE) : WX := fun C τ Q => w C τ fun v τ' => Q (.ret v) τ'
theorem SX_ret {e : Expr} {pos : Pos} {w : WE} (h : SE G cs e w) : SX G cs (.Return (some e) pos) (wRet w) := fun Φ C ok W τ x s Q S q =>
  wpAny_Return_some (h.go ok S q fun W1 v τ1 c s1 le r S1 q1 => ⟨W1, .ret v, τ1, le, .ret r, S1, q1⟩)
noncomputable abbrev wRet0 : WX := fun _ τ Q => Q (.ret (.p .none)) τ
noncomputable abbrev wIf (t : WT) (a b : WX) : WX := fun C τ Q => t C τ fun c τ' => brW c (a C τ' Q) (b C τ' Q)
theorem SX_if {test : Expr} {body orelse : List Stmt} {pos : Pos} {t : WT} {a b : WX} (ht : ST G cs test t) (ha : SB G cs body a) (hb : SB G cs orelse b) : SX G cs (.If test body orelse pos) (wIf t a b) := fun Φ C ok W τ x s Q S q =>
  wpAny_If (ht.go ok S q fun W1 c τ1 s1 le S1 q1 => by
    cases c with
    | true => rw [if_pos rfl]; exact wpAny_mono (ha Φ C ok _ _ _ _ _ S1 q1) (fun _ _ r => r.up le) fun _ _ x => x
    | false => rw [if_neg (by decide)]; exact wpAny_mono (hb Φ C ok _ _ _ _ _ S1 q1) (fun _ _ r => r.up le) fun _ _ x => x)
/-- x = e. -/
noncomputable def kindOk (N : Nat → Str) (Z : Stc) (cs : Scope) (n : Nat) : Prop := cs.names.lookup (N n) = some .local ∨ cs.names.lookup (N n) = some .cell ∧ cs.names.lookup (N Z.topn) = some .local
noncomputable abbrev wAsg (n : Nat) (w : WE) : WX := fun C τ Q => w C τ fun v τ' => Q .next ⟨putN n v τ'.loc, τ'.hp⟩
theorem SX_asg {n : Nat} {t : Str} {np pos : Pos} {value : Expr} {w : WE} (h : SE G cs value w) (hn : N n = t) (hl : kindOk N Z cs n) (hs : ∀ Φ : Cx G cs, swapsWith value (some (.Name t np)) pos.line Φ.env = pure false) : SX G cs (.Assign [.Name t np] value pos) (wAsg n w) := fun Φ C ok W τ x s Q S q => by
  subst hn
  exact wpAny_Assign_Name (h.go ok S q fun W1 v τ1 c s1 le r S1 q1 => S1.store r hl fun s2 S2 => ⟨W1, .next, _, le, .next, S2, q1⟩) (hs Φ)
/-- x = a list just made, which becomes one of the walk's objects. -/
noncomputable def ownW (r : Rs) (hp : List VO) (Q : VV → List VO → Prop) : Prop := match r with
  | .new l => Q (.ref hp.length) (hp ++ [.list l])
  | .val _ => False
noncomputable abbrev wOwn (n : Nat) (w : W0) : WX := fun C τ Q => w C τ fun r τ' => ownW r τ'.hp fun v hp => Q .next ⟨putN n v τ'.loc, hp⟩
theorem SX_own {n : Nat} {t : Str} {np pos : Pos} {value : Expr} {w : W0} (h : S0 G cs value w) (hn : N n = t) (hl : kindOk N Z cs n) (hs : ∀ Φ : Cx G cs, swapsWith value (some (.Name t np)) pos.line Φ.env = pure false) : SX G cs (.Assign [.Name t np] value pos) (wOwn n w) := fun Φ C ok W τ x s Q S q => by
  subst hn
  refine wpAny_Assign_Name (wpAny_mono (h Φ C ok W τ x s _ S q) (fun c s1 r0 => ?_) fun _ _ y => y) (hs Φ)
  cases r0 with
  | val W1 a τ1 le r S1 q1 => exact q1.elim
  | new W1 l τ1 q vs k le r S1 q1 =>
    obtain ⟨W2, le2, e2, S2⟩ := S1.own r
    exact S2.store (.ref e2) hl fun s2 S3 => ⟨W2, .next, _, le.trans le2, .next, S3, q1⟩
end VE
namespace VE
variable {N : Nat → Str} {Z : Stc} {G : Gl N Z} {cs : Scope} {Φ : Cx G cs} {W : Wd} {τ : VS} {s : Shared} {x : List (Addr × Obj)}
theorem putL_length (name : Str) (hsh : Int) (key v : Value) : ∀ es : List DictEntry, (putL name hsh key v es).length = if es.any (·.key.isStr name) then es.length else es.length + 1 := by
  intro es
  induction es with
  | nil => rfl
  | cons e r ih =>
    simp only [putL, List.any_cons]
    by_cases h : e.key.isStr name = true
    · simp [h]
    · simp only [h, if_false, List.length_cons, Bool.false_or, ih, Bool.false_eq_true]; split <;> rfl
theorem putL_refKey (name : Str) (hsh : Int) (key v : Value) (hk : (⟨hsh, key, v⟩ : DictEntry).refKey = false) : ∀ es : List DictEntry, es.any (·.refKey) = false → (putL name hsh key v es).any (·.refKey) = false := by
  intro es
  induction es with
  | nil => intro _; simp [putL, hk]
  | cons e r ih =>
    intro h
    rw [List.any_cons, Bool.or_eq_false_iff] at h
    simp only [putL]
    split
    · rw [List.any_cons, Bool.or_eq_false_iff]; exact ⟨h.1, h.2⟩
    · rw [List.any_cons, Bool.or_eq_false_iff]; exact ⟨h.1, ih h.2⟩
theorem putL_find_self (name : Str) (hsh : Int) (key v : Value) (hk : key.isStr name = true) : ∀ es : List DictEntry, ((putL name hsh key v es).find? (·.key.isStr name)).map (·.val) = some v := by
  intro es
  induction es with
  | nil => simp [putL, hk]
  | cons e r ih =>
    simp only [putL]
    split
    · rename_i h; simp [h]
    · rename_i h; simp only [List.find?_cons]; simp only [Bool.not_eq_true] at h; rw [h]; exact ih
theorem putL_find_other (name name' : Str) (hsh : Int) (key v : Value) (hk : key.isStr name' = false) (hn : ∀ k : Value, k.isStr name = true → k.isStr name' = false) : ∀ es : List DictEntry, ((putL name hsh key v es).find? (·.key.isStr name')).map (·.val) = (es.find? (·.key.isStr name')).map (·.val) := by
  intro es
  induction es with
  | nil => simp [putL, hk]
  | cons e r ih =>
    simp only [putL]
    split
    · rename_i h; simp only [List.find?_cons, hn _ h]
    · simp only [List.find?_cons]
      split
      · rfl
      · exact ih
theorem getL_of (name : Str) (es : List DictEntry) (h : es.any (·.refKey) = false) : getL name es = some ((es.find? (·.key.isStr name)).map (·.val)) := by
  unfold getL
  cases hf : es.find? (·.key.isStr name) with
  | none => simp [h]
  | some e => rfl
theorem isStr_str (a b : Str) (t : Tok) : (Value.str a t).isStr b = (a == b) := rfl
theorem isStr_ne {a b : Str} (h : a ≠ b) : ∀ k : Value, k.isStr a = true → k.isStr b = false := fun k hk => by
  cases k <;> first | (cases hk; done) | skip
  rename_i x t
  rw [isStr_str] at hk ⊢
  have := beq_iff_eq.mp hk
  subst this
  exact beq_eq_false_iff_ne.mpr h
theorem FRep.put (hN : ∀ i j, N i = N j → i = j) {fs : List (Nat × VV)} {es : List DictEntry} (h : FRep G W fs es) (n : Nat) (a : VV) {v : Value} (hr : VRep G W a v) (hsh : Int) (t : Tok) :
    FRep G W (putN n a fs) (putL (N n) hsh (.str (N n) t) v es) := by
  obtain ⟨hl, hk, hg⟩ := h
  have hk' := putL_refKey (N n) hsh (.str (N n) t) v rfl es hk
  refine ⟨?_, hk', fun k => ?_⟩
  · rw [putL_length, putN_length, hl]
    have := hg n
    rw [getL_of _ _ hk] at this
    cases hq : getN n fs with
    | none =>
      rw [hq] at this
      have e : es.find? (·.key.isStr (N n)) = none := by simpa using this
      have : es.any (·.key.isStr (N n)) = false := by
        rw [← Bool.not_eq_true, List.any_eq_true]
        rintro ⟨x, hx, q⟩
        exact absurd q (by simpa using List.find?_eq_none.mp e x hx)
      rw [this]; rfl
    | some u =>
      rw [hq] at this
      obtain ⟨c, e, _⟩ := this
      have e : (es.find? (·.key.isStr (N n))).map (·.val) = some c := by simpa using e
      obtain ⟨x, hx, _⟩ := Option.map_eq_some_iff.mp e
      have : es.any (·.key.isStr (N n)) = true := List.any_eq_true.mpr ⟨x, List.mem_of_find?_eq_some hx, by simpa using List.find?_some hx⟩
      rw [this]; rfl
  · rw [getN_putN, getL_of _ _ hk']
    by_cases e : k = n
    · subst e
      rw [if_pos rfl, putL_find_self _ _ _ _ (by rw [isStr_str]; exact beq_self_eq_true _)]
      exact ⟨v, rfl, hr⟩
    · rw [if_neg e]
      have ne : N n ≠ N k := fun q => e (hN _ _ q).symm
      rw [putL_find_other _ _ _ _ _ (isStr_ne ne _ (by rw [isStr_str]; exact beq_self_eq_true _)) (isStr_ne ne)]
      have := hg k
      rw [getL_of _ _ hk] at this
      exact this
/-- A field is stored. -/
noncomputable def setAW (Z : Stc) (hp : List VO) (n : Nat) (u v : VV) (Q : List VO → Prop) : Prop := match u with
  | .ref k => match hp[k]? with
    | some (.inst fs) => gd (memN n Z.flds && Nat.ble fs.length 900) (Q (hp.set k (.inst (putN n v fs))))
    | _ => False
  | _ => False
theorem setAW_run {n : Nat} {u v : VV} {c d : Value} {Q : List VO → Prop} {P : Unit → Shared → Prop} (S : SimX Φ W τ x s) (ru : VRep G W u c) (rv : VRep G W v d) (h : setAW Z τ.hp n u v Q) (k : ∀ hp s', SimX Φ W ⟨τ.loc, hp⟩ x s' → Q hp → P () s') :
    wpAny Φ.M Φ.A (setAttr c (N n) d) P (fun _ _ => False) s := by
  unfold setAW at h
  split at h
  · split at h
    · rename_i fs e
      obtain ⟨a, dd, es, nn, rfl, er, I⟩ := S.instR ru e
      obtain ⟨h1, h2⟩ := gd_ex h
      obtain ⟨h0, h1⟩ := Bool.and_eq_true_iff.mp h1
      have h1 := Nat.le_of_ble_eq_true h1
      have FO := G.SO.fld n (memN_mem h0)
      have P := I.rep.put G.hN.inj n v rv (PyData.keyHash G.w.params (N n)) (s.toks + 1)
      obtain ⟨m, news, news', F, Nw, U, up⟩ := I.updU (VE.putN n v fs) _ (PySem.W.putN (N n) es nn) P
      refine PySem.W.set_dict F Φ.K Nw I.inst rfl G.SO.cls.set G.SO.cls.over FO.taker G.SO.cls.has (by rw [getL_of _ _ I.rep.2.1]; rfl) rfl U ?_ fun h' F' N' => k _ _ (up h' (s.toks + 2) F' N') h2
      rw [P.1, putN_length]
      split <;> (clear e er h0; omega)
    · exact h.elim
  · exact h.elim
/-- An item is stored. -/
noncomputable def setIW (hp : List VO) (u i v : VV) (Q : List VO → Prop) : Prop := match u, i, v with
  | .ref k, .p (.int j), .p z => match hp[k]? with
    | some (.list l) => (0 ≤ j ∧ j < l.length ∧ j < 2 ^ 63) ∧ Q (hp.set k (.list (l.set j.toNat z)))
    | _ => False
  | _, _, _ => False
theorem setItem_at {prog : Program} {w : World} {A : Around} {E : Value → Shared → Prop} {l : Addr} {its : Array Value} {n : Nat} {k : Int} {t : Tok} {v : Value} {Q : Unit → Shared → Prop} (ho : s.heap.get? l = some (listOf its n)) (h0 : 0 ≤ k) (hhi : k < 2 ^ 63) (hj : k.toNat < its.size)
    (h : ∀ h', Heap.SameBut l s.heap h' → h'.get? l = some (listOf (its.setIfInBounds k.toNat v) n) → Q () { s with heap := h' }) :
    wpAny (model prog w) A (setItem (.ref l) (.int k t) v) Q E s := by
  have hT : s.TypeIs (.ref l) "list" := ⟨_, ho, rfl⟩
  have hx : its[k.toNat]? = some its[k.toNat] := Array.getElem?_eq_getElem hj
  have fin : (s.heap.update l (Obj.mapSeq (·.setIfInBounds k.toNat v))).get? l = some (listOf (its.setIfInBounds k.toNat v) n) := by
    have e : Obj.mapSeq (·.setIfInBounds k.toNat v) (listOf its n) = listOf (its.setIfInBounds k.toNat v) n := by simp [Obj.mapSeq, PySem.W.listOf]
    rw [Heap.get?_update_self _ ho (by rw [e]; rfl), e]
  unfold setItem
  try with_reducible refine wpAny_holding ?_
  first | refine wpAny_bind (wpAny_pure ?_) | skip
  refine wpAny_bind (wpAny_sequenceKey hT (by decide) ?_)
  refine wpAny_bind (wpAny_callSpecial?_slot (name := Str.ofString "__setitem__") hT slot_list_setitem (wpAny_call_entry slot_list_setitem hT entry_list_setitem ?_ (args_list_setitem _ _ _)))
  show wpAny _ _ (Builtin.List.listSubscript? (.int k t) >>= _) _ _ s
  refine wpAny_bind (wpAny_listSubscript_int (by unfold Builtin.List.listFitsIndex; simp only [Bool.and_eq_true, decide_eq_true_eq]; (clear fin hj ho hx; omega)) ?_)
  have store : wpAny (model prog w) A.in1 (setSeqItemAt l k.toNat v) (fun _ s' => Q () s') E s := wpAny_setSeqItemAt ho rfl (h _ (Heap.SameBut.update ..) fin)
  cases k with
  | ofNat m =>
    show wpAny _ _ ((seqItemAt l m >>= fun r => pure (r.map (m, ·))) >>= _) _ _ s
    refine wpAny_bind (wpAny_bind (wpAny_seqItemAt ho rfl (wpAny_pure ?_)))
    have hx : its[m]? = some its[m] := hx
    rw [hx]
    show wpAny _ _ (setSeqItemAt l m v >>= _) _ _ s
    refine wpAny_bind (wpAny_mono store (fun _ s' q => ?_) fun _ _ q => q)
    first
      | exact wpAny_bind (wpAny_pure (wpAny_pure ⟨.none, rfl, wpAny_pure q⟩))
      | exact wpAny_pure ⟨.none, rfl, wpAny_pure q⟩
  | negSucc m => exact absurd h0 (by (clear fin h0 hhi hj ho hx; omega))
theorem setIW_run {u i v : VV} {c e d : Value} {Q : List VO → Prop} {P : Unit → Shared → Prop} (S : SimX Φ W τ x s) (ru : VRep G W u c) (ri : VRep G W i e) (rv : VRep G W v d) (h : setIW τ.hp u i v Q) (k : ∀ hp s', SimX Φ W ⟨τ.loc, hp⟩ x s' → Q hp → P () s') :
    wpAny Φ.M Φ.A (setItem c e d) P (fun _ _ => False) s := by
  unfold setIW at h
  split at h
  · rename_i kk j z
    split at h
    · rename_i l el
      obtain ⟨⟨h0, h1, h2⟩, q⟩ := h
      obtain ⟨t, rfl⟩ := ri.int
      cases ru with
      | @ref _ a dd er =>
        cases rv with
        | p rv =>
          obtain ⟨vs, n, LA⟩ := S.list el er
          refine setItem_at LA.get h0 h2 (by rw [List.size_toArray, LA.rep.length]; (clear el er h2; omega)) fun h' sb e1 => k _ _ (LA.upd (l.set j.toNat z) (vs.set j.toNat d) n h' s.toks (PRepL.set _ rv LA.rep) sb (by rw [e1]; simp)) q
    · exact h.elim
  · exact h.elim
/-- op= of two values. -/
noncomputable def asX (hp : List VO) : VV → Option (List PV)
  | .p (.lst l) => some l
  | .ref k => match hp[k]? with
    | some (.list l) => some l
    | _ => none
  | _ => none
noncomputable def iopW (op : Operator) (hp : List VO) (u v : VV) (Q : VV → List VO → Prop) : Prop := match u with
  | .p (.int i) => match v with
    | .p (.int j) => match op with
      | .Add => Q (.p (.int (i + j))) hp
      | .Sub => Q (.p (.int (i - j))) hp
      | .BitAnd => Q (.p (.int (Builtin.bitAnd i j))) hp
      | .BitOr => Q (.p (.int (Builtin.bitOr i j))) hp
      | .BitXor => Q (.p (.int (Builtin.bitXor i j))) hp
      | _ => False
    | _ => False
  | .ref k => match op with
    | .Add => ∃ l r, hp[k]? = some (.list l) ∧ asX hp v = some r ∧ l.length + r.length ≤ sizeLine ∧ Q (.ref k) (hp.set k (.list (l ++ r)))
    | _ => False
  | _ => False
theorem SimX.asX (S : SimX Φ W τ x s) {v : VV} {c : Value} {l : List PV} (r : VRep G W v c) (e : VE.asX τ.hp v = some l) : ∃ a vs n, c = .ref a ∧ s.heap.get? a = some (listOf vs.toArray n) ∧ PRepL (VE.FW G W) l vs := by
  cases r with
  | p r =>
    cases r <;> simp only [VE.asX] at e <;> first | (cases e; done) | skip
    rename_i a ws n l' f p _
    cases e
    exact ⟨a, ws, n, rfl, S.FW f, p⟩
  | @ref k a d e' =>
    simp only [VE.asX] at e
    split at e
    · rename_i l' hk
      cases e
      obtain ⟨vs, n, LA⟩ := S.list hk e'
      exact ⟨a, vs, n, rfl, LA.get, LA.rep⟩
    · cases e
  | meth => simp [VE.asX] at e
theorem fills_list_iadd : fillsInplaceSlot (.type "list") "add" (Operator.Add == .Add) = pure false := by
  unfold fillsInplaceSlot
  show (typeLookup (.type "list") (dunderI "add") >>= fun fi => pure (fi.isSome && !isSeqSlot fi)) = pure false
  rw [PySem.F.slot_list_iadd.lookup]
  kernel_rfl
theorem seq_list_iadd : seqSlot? (.type "list") (dunderI "add") = pure (some (.builtin "list.__iadd__")) := PySem.seqSlot_of PySem.F.slot_list_iadd.lookup (by decide +kernel)
theorem iadd_list {l b : Addr} {items items2 : Array Value} {n n2 : Nat} {Q : Value → Shared → Prop} {E : Value → Shared → Prop} (hl : s.heap.get? l = some (listOf items n)) (hb : s.heap.get? b = some (listOf items2 n2)) (hz : items.size + items2.size ≤ sizeLine)
    (h : Q (.ref l) { s with heap := s.heap.update l (Obj.mapSeq fun x => x ++ items2) }) : wpAny Φ.M Φ.A (inplaceOp .Add (.ref l) (.ref b)) Q E s := by
  have ha : s.TypeIs (.ref l) "list" := ⟨_, hl, rfl⟩
  have hb' : s.TypeIs (.ref b) "list" := ⟨_, hb, rfl⟩
  unfold inplaceOp
  refine wpAny_holding ?_
  refine wpAny_bind (wpAny_typeOf ha (wpAny_bind (wpAny_of_eq fills_list_iadd ?_)))
  show wpAny _ _ (if false = true then _ else _) Q E s
  rw [if_neg Bool.false_ne_true]
  refine wpAny_bind (wpAny_binaryOp1_none (nm := "add") ha hb' noFill_list_add ?_)
  refine wpAny_bind (wpAny_of_eq seq_list_iadd ?_)
  refine wpAny_bind (wpAny_rule ?_)
  refine call_meets PySem.F.slot_list_iadd ha PySem.F.entry_list_iadd (PySem.F.args_list_iadd_2 _ _) (AutoSeq1.list___iadd___list_list_0 l items n b items2 n2 ?_ ?_ ?_) ⟨hl, hb, ?_⟩
  · rw [show Builtin.List.listTooLong (items.size + items2.size) = false from decide_eq_false (Nat.not_lt.mpr hz), Bool.and_false]
    exact Bool.false_ne_true
  · exact Nat.le_trans (Nat.le_add_right _ _) hz
  · exact Nat.le_succ_of_le hz
  · exact h
theorem iopW_run {op : Operator} {u v : VV} {c d : Value} {Q : VV → List VO → Prop} {P : Value → Shared → Prop} (S : SimX Φ W τ x s) (ru : VRep G W u c) (rv : VRep G W v d) (h : iopW op τ.hp u v Q) (k : ∀ z e hp s', VRep G W z e → SimX Φ W ⟨τ.loc, hp⟩ x s' → Q z hp → P e s') :
    wpAny Φ.M Φ.A (inplaceOp op c d) P (fun _ _ => False) s := by
  unfold iopW at h
  split at h
  · split at h
    · obtain ⟨t, rfl⟩ := ru.int
      obtain ⟨t', rfl⟩ := rv.int
      split at h
      · exact iadd_int (k _ _ _ _ .of_int (S.toks _) h)
      · exact isub_int (k _ _ _ _ .of_int (S.toks _) h)
      · exact iand_int (k _ _ _ _ .of_int (S.toks _) h)
      · exact ior_int (k _ _ _ _ .of_int (S.toks _) h)
      · exact ixor_int (k _ _ _ _ .of_int (S.toks _) h)
      · exact h.elim
    · exact h.elim
  · split at h
    · obtain ⟨l, r, el, er, hz, q⟩ := h
      cases ru with
      | @ref _ a dd era =>
        obtain ⟨vs, n, LA⟩ := S.list el era
        obtain ⟨b, ws, n2, rfl, hb, p⟩ := S.asX rv er
        have e : ∃ n', Obj.mapSeq (fun x => x ++ ws.toArray) (listOf vs.toArray n) = listOf (vs ++ ws).toArray n' := ⟨_, by
          rw [← List.append_toArray]; rfl⟩
        obtain ⟨n', e⟩ := e
        refine iadd_list LA.get hb (by rw [List.size_toArray, List.size_toArray, LA.rep.length, p.length]; exact hz) (k _ _ _ _ (.ref era) (LA.upd (l ++ r) (vs ++ ws) n' _ s.toks (LA.rep.app p) (Heap.SameBut.update ..) ?_) q)
        rw [Heap.get?_update_self _ LA.get (by rw [e]; rfl), e]
    · exact h.elim
  · exact h.elim
end VE
namespace VE
variable {N : Nat → Str} {Z : Stc} {G : Gl N Z} {cs : Scope} {Φ : Cx G cs} {W : Wd} {τ : VS} {s : Shared} {x : List (Addr × Obj)}
/-- o.n = e -/
noncomputable abbrev wAsA (Z : Stc) (n : Nat) (o e : WE) : WX := fun C τ Q => e C τ fun v τ1 => o C τ1 fun u τ2 => setAW Z τ2.hp n u v fun hp => Q .next ⟨τ2.loc, hp⟩
theorem SX_asA {n : Nat} {t : Str} {o value : Expr} {np pos : Pos} {wo we : WE} (h : SE G cs value we) (h' : SE G cs o wo) (hn : N n = t) (hs : ∀ env, swapsWith value (some (.Attribute o t np)) pos.line env = pure false) : SX G cs (.Assign [.Attribute o t np] value pos) (wAsA Z n wo we) := fun Φ C ok W τ x s Q S q => by
  subst hn
  exact plainObj_wpAny_Assign_Attribute (h.go ok S q fun W1 v τ1 c s1 le1 r1 S1 q1 => h'.go ok S1 q1 fun W2 u τ2 d s2 le2 r2 S2 q2 =>
    setAW_run S2 r2 (r1.mono le2) q2 fun hp s3 S3 q3 => ⟨W2, .next, _, le1.trans le2, .next, S3, q3⟩) (hs _)
/-- o[i] = e -/
noncomputable abbrev wAsS (o i e : WE) : WX := fun C τ Q => e C τ fun v τ1 => o C τ1 fun u τ2 => i C τ2 fun j τ3 => setIW τ3.hp u j v fun hp => Q .next ⟨τ3.loc, hp⟩
theorem SX_asS {o i value : Expr} {np pos : Pos} {wo wi we : WE} (h : SE G cs value we) (h' : SE G cs o wo) (h'' : SE G cs i wi) (hs : ∀ env, swapsWith value (some (.Subscript o i np)) pos.line env = pure false) : SX G cs (.Assign [.Subscript o i np] value pos) (wAsS wo wi we) := fun Φ C ok W τ x s Q S q =>
  wpAny_Assign_Subscript (h.go ok S q fun W1 v τ1 c s1 le1 r1 S1 q1 => h'.go ok S1 q1 fun W2 u τ2 d s2 le2 r2 S2 q2 => h''.go ok S2 q2 fun W3 j τ3 e s3 le3 r3 S3 q3 =>
    setIW_run S3 (r2.mono le3) r3 (r1.mono (le2.trans le3)) q3 fun hp s4 S4 q4 => ⟨W3, .next, _, (le1.trans le2).trans le3, .next, S4, q4⟩) (hs _)
/-- x op= e -/
noncomputable abbrev wAuN (n : Nat) (op : Operator) (e : WE) : WX := fun C τ Q => match getN n τ.loc with
  | some u => e C τ fun v τ1 => iopW op τ1.hp u v fun z hp => Q .next ⟨putN n z τ1.loc, hp⟩
  | none => False
theorem loadN {n : Nat} {v : VV} (hv : getN n τ.loc = some v) (S : SimX Φ W τ x s) {P : Value → Shared → Prop} (k : ∀ c, VRep G W v c → P c s) : wpAny Φ.M Φ.A (loadName Φ.env (N n)) P (fun _ _ => False) s := by
  obtain ⟨m, n1, n2, F, Nw, nd, H, Cc, L, cv, o, g⟩ := id S
  rcases L n v hv with ⟨c, hl, hc, r⟩ | hm | ⟨c, u, hk, hc, ho, r⟩
  · exact wpAny_loadName_local Φ.kind hl F.ns hc (k c r)
  rotate_left
  · have ho := ho.keeps F.keep
    rcases hk with hk | hk
    · exact wpAny_loadName_cell Φ.kind hk hc ho (k u r)
    · exact wpAny_loadName_free Φ.kind hk hc ho (k u r) (G.hN.cd n)
  · obtain ⟨c, co, u, h1, h2, h3, r⟩ := Cc.at hv hm
    obtain ⟨hk, hc⟩ := cv n c h1
    have ho : s.heap.IsCell c (some u) := ⟨co, (Nw (c, co) (by simp [h2])).1, h3⟩
    rcases hk with hk | hk
    · exact wpAny_loadName_cell Φ.kind hk hc ho (k u r)
    · exact wpAny_loadName_free Φ.kind hk hc ho (k u r) (G.hN.cd n)
theorem SX_auN {n : Nat} {t : Str} {op : Operator} {value : Expr} {np pos : Pos} {we : WE} (h : SE G cs value we) (hn : N n = t) (hl : kindOk N Z cs n) : SX G cs (.AugAssign (.Name t np) op value pos) (wAuN n op we) := fun Φ C ok W τ x s Q S q => by
  subst hn
  simp only [wAuN] at q
  cases hv : getN n τ.loc with
  | none => rw [hv] at q; exact q.elim
  | some u =>
    rw [hv] at q
    exact wpAny_AugAssign_Name (loadN hv S fun c rc => h.go ok S q fun W1 v τ1 d s1 le1 r1 S1 q1 =>
      iopW_run S1 (rc.mono le1) r1 q1 fun z e hp s2 r2 S2 q2 => S2.store r2 hl fun s3 S3 => ⟨W1, .next, _, le1, .next, S3, q2⟩)
/-- o.n op= e -/
noncomputable abbrev wAuA (Z : Stc) (n : Nat) (op : Operator) (o e : WE) : WX := fun C τ Q => o C τ fun u τ1 => attrW Z τ1.hp n u fun old => e C τ1 fun v τ2 => iopW op τ2.hp old v fun z hp => setAW Z hp n u z fun hp' => Q .next ⟨τ2.loc, hp'⟩
theorem SX_auA {n : Nat} {t : Str} {op : Operator} {o value : Expr} {np pos : Pos} {wo we : WE} (h : SE G cs o wo) (h' : SE G cs value we) (hn : N n = t) : SX G cs (.AugAssign (.Attribute o t np) op value pos) (wAuA Z n op wo we) := fun Φ C ok W τ x s Q S q => by
  subst hn
  exact wpAny_AugAssign_AttributeAny (h.go ok S q fun W1 u τ1 c s1 le1 r1 S1 q1 => attrW_run S1 r1 q1 fun W2 old d s2 le2 r2 S2 q2 => h'.go ok S2 q2 fun W3 v τ3 e s3 le3 r3 S3 q3 =>
    iopW_run S3 (r2.mono le3) r3 q3 fun z f hp s4 r4 S4 q4 => setAW_run S4 (r1.mono (le2.trans le3)) r4 q4 fun hp' s5 S5 q5 => ⟨W3, .next, _, (le1.trans le2).trans le3, .next, S5, q5⟩)
/-- One target. -/
noncomputable abbrev WS := Calls → VS → VV → (VS → Prop) → Prop
noncomputable def SS (G : Gl N Z) (cs : Scope) (t : Expr) (w : WS) : Prop := ∀ (Φ : Cx G cs) C, CallsOk G Φ.A.depth C → ∀ W τ x s v c Q, SimX Φ W τ x s → VRep G W v c → w C τ v Q → wpAny Φ.M Φ.A (assign t Φ.env c) (fun _ => RT Φ W x Q) (fun _ _ => False) s
noncomputable abbrev wTN (n : Nat) : WS := fun _ τ v Q => Q ⟨putN n v τ.loc, τ.hp⟩
theorem SS_N {n : Nat} {t : Str} {pos : Pos} (hn : N n = t) (hl : kindOk N Z cs n) : SS G cs (.Name t pos) (wTN n) := fun Φ C ok W τ x s v c Q S r q => by
  subst hn
  exact assign_Name (S.store r hl fun s2 S2 => ⟨W, _, .refl W, S2, q⟩)
noncomputable abbrev wTS (o i : WE) : WS := fun C τ v Q => o C τ fun u τ1 => i C τ1 fun j τ2 => setIW τ2.hp u j v fun hp => Q ⟨τ2.loc, hp⟩
theorem SS_S {o i : Expr} {pos : Pos} {wo wi : WE} (h : SE G cs o wo) (h' : SE G cs i wi) : SS G cs (.Subscript o i pos) (wTS wo wi) := fun Φ C ok W τ x s v c Q S r q => by
  rw [arm_assign_Subscript]
  exact wpAny_bind (wpAny_holding (h.go ok S q fun W1 u τ1 d s1 le1 r1 S1 q1 => wpAny_bind (wpAny_holding (h'.go ok S1 q1 fun W2 j τ2 e s2 le2 r2 S2 q2 => wpAny_bind (wpAny_standAt (wpAny_bind (wpAny_holding (setIW_run S2 (r1.mono le2) r2 (r.mono (le1.trans le2)) q2 fun hp s3 S3 q3 => wpAny_releaseD ⟨W2, _, le1.trans le2, S3, q3⟩))))))))
/-- Several targets in their order. -/
noncomputable abbrev WSs := Calls → VS → List VV → (VS → Prop) → Prop
noncomputable def SSs (G : Gl N Z) (cs : Scope) (ts : List Expr) (w : WSs) : Prop := (∀ env, (assignEach ts env).map (·.2) = ts.map fun t => assign t env) ∧ ∀ (Φ : Cx G cs) C, CallsOk G Φ.A.depth C → ∀ W τ x s l vs Q, SimX Φ W τ x s → VRepL G W l vs → w C τ l Q → wpAny Φ.M Φ.A (assignInOrder (ts.map fun t => assign t Φ.env) vs) (fun _ => RT Φ W x Q) (fun _ _ => False) s
noncomputable abbrev wT0 : WSs := fun _ τ l Q => match l with
  | [] => Q τ
  | _ :: _ => False
theorem SSs_nil : SSs G cs [] wT0 := ⟨fun _ => rfl, fun Φ C ok W τ x s l vs Q S p q => assignInOrder_nil ⟨W, τ, .refl W, S, by
  cases l with
  | nil => exact q
  | cons _ _ => exact q.elim⟩⟩
noncomputable abbrev wTc (w : WS) (ws : WSs) : WSs := fun C τ l Q => match l with
  | v :: r => w C τ v fun τ' => ws C τ' r Q
  | [] => False
theorem SSs_cons {t : Expr} {ts : List Expr} {w : WS} {ws : WSs} (h : SS G cs t w) (h' : SSs G cs ts ws) (he : ∀ env, assignEach (t :: ts) env = (false, assign t env) :: assignEach ts env) : SSs G cs (t :: ts) (wTc w ws) := ⟨fun env => by rw [he env, List.map_cons, List.map_cons, h'.1 env], fun Φ C ok W τ x s l vs Q S p q => by
  cases p with
  | nil => exact q.elim
  | @cons v c r vs pv pr =>
    exact assignInOrder_cons (wpAny_mono (h Φ C ok W τ x s v c _ S pv q) (fun _ s1 y => by
      cases y with
      | mk W1 τ1 le S1 q1 => exact wpAny_mono (h'.2 Φ C ok W1 τ1 x s1 r vs Q S1 (pr.mono le) q1) (fun _ _ y => y.up le) fun _ _ y => y) fun _ _ y => y)⟩
theorem PRepL.vals {l : List PV} {vs : List Value} (p : PRepL (FW G W) l vs) : VRepL G W (l.map .p) vs := by
  induction l generalizing vs with
  | nil => cases p; exact .nil
  | cons v r ih =>
    cases vs with
    | nil => have := p.length; simp at this
    | cons c vs => exact .cons (.p p.uncons.1) (ih p.uncons.2)
/-- a, b = e; the value a tuple. -/
noncomputable def tupV (v : VV) (k : Nat) (Q : List PV → Prop) : Prop := match v with
  | .p (.tup l) => gd (Nat.beq l.length k) (Q l)
  | _ => False
theorem tupV_ex {v : VV} {k : Nat} {Q : List PV → Prop} (h : tupV v k Q) : ∃ l, v = .p (.tup l) ∧ l.length = k ∧ Q l := by
  unfold tupV at h
  split at h
  · exact ⟨_, rfl, Nat.eq_of_beq_eq_true (gd_ex h).1, (gd_ex h).2⟩
  · exact h.elim
noncomputable abbrev wAsT (k : Nat) (e : WE) (ts : WSs) : WX := fun C τ Q => e C τ fun v τ1 => tupV v k fun l => ts C τ1 (l.map .p) fun τ2 => Q .next τ2
theorem SX_asT {elts : List Expr} {kk : Nat} {tpos pos : Pos} {value : Expr} {we : WE} {ts : WSs} (h : SE G cs value we) (h' : SSs G cs elts ts) (hs : ∀ env, swapsWithSole [.Tuple elts kk tpos] value pos.line env = pure false) (hw : ∀ Φ : Cx G cs, swappedStores [.Tuple elts kk tpos] value Φ.env = pure none) (hstar : ∀ env, (assignEach elts env).findIdx? (·.1) = none) :
    SX G cs (.Assign [.Tuple elts kk tpos] value pos) (wAsT elts.length we ts) := fun Φ C ok W τ x s Q S q =>
  Assign_Tuple (h.go ok S q fun W1 v τ1 c s1 le r S1 q1 => by
    obtain ⟨l, rfl, hl, q2⟩ := tupV_ex q1
    obtain ⟨a, vs, rfl, ht, p⟩ := r.tup S1
    have el : (assignEach elts Φ.env).length = elts.length := by have := congrArg List.length (h'.1 Φ.env); simpa using this
    refine S1.fr fun m news F Nw k => unpackN_ F Nw ht Φ.hh (by rw [el, List.size_toArray, p.length, hl]) (hstar _) fun hh F' N' => ?_
    have S2 := k hh s1.toks F' N'
    show wpAny _ _ (assignInOrder ((assignEach elts Φ.env).map (·.2)) vs) _ _ _
    rw [h'.1 Φ.env]
    exact wpAny_mono (h'.2 Φ C ok W1 τ1 x _ _ vs _ S2 p.vals q2) (fun _ s3 y => by
      cases y with
      | mk W2 τ2 le2 S3 q3 => exact ⟨W2, .next, τ2, le.trans le2, .next, S3, q3⟩) fun _ _ y => y) (hs _) (hw Φ)
/-- Two or three names at once: the stores run backwards. -/
noncomputable def backT : List Nat → List VV → List (Nat × VV) → List (Nat × VV)
  | n :: ns, v :: r, loc => backT ns r (putN n v loc)
  | _, _, loc => loc
noncomputable abbrev wAsB (ns : List Nat) (e : WE) : WX := fun C τ Q => e C τ fun v τ1 => tupV v ns.length fun l => Q .next ⟨backT ns.reverse (l.map .p).reverse τ1.loc, τ1.hp⟩
/-- An item of a display that is a list just made: it becomes one of the walk's. -/
noncomputable abbrev wAcO (w : W0) (ws : WA) : WA := fun C τ Q => w C τ fun r τ1 => ownW r τ1.hp fun v hp => ws C ⟨τ1.loc, hp⟩ fun vs τ2 => Q (v :: vs) τ2
noncomputable abbrev wAsD (k : Nat) (es : WA) (ts : WSs) : WX := fun C τ Q => es C τ fun vs τ1 => gd (Nat.beq vs.length k && Nat.ble k 1000) <| ts C τ1 vs fun τ2 => Q .next τ2
noncomputable abbrev wAsE (ns : List Nat) (es : WA) : WX := fun C τ Q => es C τ fun vs τ1 => gd (Nat.beq vs.length ns.length && Nat.ble ns.length 1000) <| Q .next ⟨backT ns.reverse vs.reverse τ1.loc, τ1.hp⟩
end VE
namespace VE
variable {N : Nat → Str} {Z : Stc} {G : Gl N Z} {cs : Scope} {Φ : Cx G cs} {W : Wd} {τ : VS} {s : Shared} {x : List (Addr × Obj)}
theorem SimX.first {q : Addr} {co : Obj} (S : SimX Φ W τ ((q, co) :: x) s) : s.heap.get? q = some co := by
  obtain ⟨m, n1, n2, F, Nw, _⟩ := S
  exact (Nw (q, co) (.head _)).1
/-- The first of the other objects is changed. -/
theorem SimX.updX {q : Addr} {co co' : Obj} {h' : Heap} (S : SimX Φ W τ ((q, co) :: x) s) (e : h'.get? q = some co') (sb : Heap.SameBut q s.heap h') (t : Nat) : SimX Φ W τ ((q, co') :: x) { s with heap := h', toks := t } := by
  obtain ⟨m, n1, n2, F, Nw, nd, H, C, L, cv, o, g⟩ := S
  have nd' : (((q, co) :: (x ++ (n1 ++ (n2 ++ W.fro)))).map (·.1)).Nodup := nd
  obtain ⟨F', N'⟩ := changed F Nw (updOf (pre := []) (o' := co') nd') e sb
  exact ⟨m, n1, n2, F', N', nd', H, C, L, cv, o, g⟩
/-- The first of the other objects is let go. -/
theorem SimX.drop {q : Addr} {co : Obj} {h' : Heap} (S : SimX Φ W τ ((q, co) :: x) s) (eb : Heap.ExtBut q s.heap h') : SimX Φ W τ x { s with heap := h' } := by
  obtain ⟨m, n1, n2, F, Nw, nd, H, C, L, cv, o, g⟩ := S
  have nd' : (((q, co) :: (x ++ (n1 ++ (n2 ++ W.fro)))).map (·.1)).Nodup := nd
  rw [List.map_cons, List.nodup_cons] at nd'
  have P := Nw (q, co) (.head _)
  obtain ⟨oL, es, ep, hL, rr⟩ := F.ns
  exact ⟨m, n1, n2, ⟨⟨oL, es, ep, eb _ _ (Ne.symm P.2.1) hL, rr⟩, fun b y z => eb _ _ (fun z' => by rw [z', P.2.2] at z; cases z) (F.keep b y z), F.above⟩,
    fun p hp => ⟨eb _ _ (fun z => nd'.1 (List.mem_map.mpr ⟨p, hp, z⟩)) (Nw p (.tail _ hp)).1, (Nw p (.tail _ hp)).2⟩, nd'.2, H, C, L, cv, o, g⟩
theorem SimX.forgetL : ∀ {e : List (Addr × Obj)}, SimX Φ W τ (e ++ x) s → SimX Φ W τ x s := by
  intro e
  induction e with
  | nil => exact id
  | cons p e ih => intro h; exact ih h.forget
/-- What is run through: its items, and that it stands. -/
structure SrcOk (Φ : Cx G cs) (W₀ : Wd) (l : List PV) (keep : VS → Prop) (it : Value) (XP : Nat → List (Addr × Obj) → Prop) : Prop where
  item : ∀ i z W τ e x s P, W₀.le W → l[i]? = some z → XP i e → SimX Φ W τ (e ++ x) s → keep τ → (∀ c e' s', PRep (FW G W) z c → XP (i + 1) e' → SimX Φ W τ (e' ++ x) s' → (∀ b o, b ∉ e.map (·.1) → s.heap.get? b = some o → s'.heap.get? b = some o) → P (some c) s') → wpAny Φ.M Φ.A (pyNext it) P (fun _ _ => False) s
  stop : ∀ W τ e x s P, W₀.le W → XP l.length e → SimX Φ W τ (e ++ x) s → keep τ → (∀ s', SimX Φ W τ x s' → P none s') → wpAny Φ.M Φ.A (pyNext it) P (fun _ _ => False) s
  again : ∀ i W τ e x s P, W₀.le W → XP i e → SimX Φ W τ (e ++ x) s → P it s → wpAny Φ.M Φ.A (pyIter it) P (fun _ _ => False) s
  go : ∀ i W τ e x s target c P, XP i e → SimX Φ W τ (e ++ x) s → P () s → wpAny Φ.M Φ.A (letOwnedTupleGo target it c) P (fun _ _ => False) s
/-- Nothing is let go of an iterator of another type. -/
theorem noGo {target : Expr} {r : Addr} {c : Value} {o : Obj} {n : String} {vs : Array Value} {P : Unit → Shared → Prop} (h : s.heap.get? r = some o) (hc : o.cls = .type n) (hd : o.data = .fields vs)
    (hn : ["enumerate", "zip", "dict_itemiterator", "dict_reverseitemiterator", "odict_iterator", "itertools.zip_longest", "itertools.pairwise"].contains n = false) (k : P () s) : wpAny Φ.M Φ.A (letOwnedTupleGo target (.ref r) c) P (fun _ _ => False) s := by
  unfold letOwnedTupleGo
  split
  · cases c with
    | ref a => exact wpAny_bind (wpAny_load h (by rw [hc, hd]; show wpAny _ _ (if (_ && _) = true then _ else _) _ _ _; rw [hn, Bool.false_and, if_neg Bool.false_ne_true]; exact wpAny_pure k))
    | _ => exact wpAny_pure k
  · cases c with
    | ref a => exact wpAny_bind (wpAny_load h (by rw [hc, hd]; show wpAny _ _ (if (_ && _) = true then _ else _) _ _ _; rw [hn, Bool.false_and, if_neg Bool.false_ne_true]; exact wpAny_pure k))
    | _ => exact wpAny_pure k
  · exact wpAny_pure k
/-- What iter gives. -/
noncomputable abbrev WI := Calls → VS → (List PV → (VS → Prop) → VS → Prop) → Prop
inductive RI (Φ : Cx G cs) (W : Wd) (x : List (Addr × Obj)) (Q : List PV → (VS → Prop) → VS → Prop) (it : Value) (s : Shared) : Prop where
  | mk (W' : Wd) (l : List PV) (keep : VS → Prop) (τ : VS) (XP : Nat → List (Addr × Obj) → Prop) (e : List (Addr × Obj)) (le : W.le W') (src : SrcOk Φ W' l keep it XP) (x0 : XP 0 e) (S : SimX Φ W' τ (e ++ x) s) (k : keep τ) (q : Q l keep τ)
noncomputable def SI (G : Gl N Z) (cs : Scope) (e : Expr) (w : WI) : Prop := ∀ (Φ : Cx G cs) C, CallsOk G Φ.A.depth C → ∀ W τ x s Q, SimX Φ W τ x s → w C τ Q → wpAny Φ.M Φ.A (eval e Φ.env) (fun v s1 => wpAny Φ.M Φ.A (pyIter v) (RI Φ W x Q) (fun _ _ => False) s1) (fun _ _ => False) s
noncomputable def keepL (v : VV) (l : List PV) (τ : VS) : Prop := asL τ.hp v = some l
noncomputable abbrev wItL (w : WE) : WI := fun C τ Q => w C τ fun v τ1 => ∃ l, asL τ1.hp v = some l ∧ Q l (keepL v l) τ1
theorem SI_list {e : Expr} {w : WE} (h : SE G cs e w) : SI G cs e (wItL w) := fun Φ C ok W τ x s Q S q =>
  h.go ok S q fun W1 v τ1 c s1 le r S1 ⟨l, e1, q1⟩ => by
    obtain ⟨y, vs, rfl, hl, p⟩ := S1.asL r e1
    refine wpAny_pyIter_list hl ?_
    have hq : s1.heap.get? s1.heap.objs.size = none := Heap.get?_none_of_le (Nat.le_refl _)
    have S2 := S1.new (h' := s1.heap.push { cls := .type "list_iterator", data := .fields #[.ref y, .int 0 0] }) (t := s1.toks) (fun _ _ e => Heap.get?_push_of_some _ e) hq (Heap.get?_push_size _ rfl)
    refine ⟨W1, l, keepL v l, τ1, fun i e => ∃ co, e = [(s1.heap.objs.size, co)] ∧ co.cls = .type "list_iterator" ∧ co.data = .fields #[.ref y, .int i 0], _, le, ⟨?_, ?_, ?_, ?_⟩, ⟨_, rfl, rfl, rfl⟩, S2, e1, q1⟩
    · rintro i z W2 τ2 _ x2 s2 P le2 hz ⟨co, rfl, h1, h2⟩ S2 kp k
      obtain ⟨y', us, ey, hl', p'⟩ := S2.asL (r.mono le2) kp
      cases ey
      obtain ⟨c, hc, rc⟩ := p'.get hz
      refine wpAny_pyNext_list_item (i := i) ⟨co, S2.first, h1, h2⟩ hl' (by simpa using hc) fun h' hit' sb => ?_
      obtain ⟨co', e1, e2, e3⟩ := hit'
      exact k c [(_, co')] _ rc ⟨co', rfl, e2, e3⟩ (S2.updX e1 sb s2.toks) fun b o hb e => (sb.2 b (by simpa using hb)).trans e
    · rintro W2 τ2 _ x2 s2 P le2 ⟨co, rfl, h1, h2⟩ S2 kp k
      obtain ⟨y', us, ey, hl', p'⟩ := S2.asL (r.mono le2) kp
      cases ey
      exact wpAny_pyNext_list_end Φ.hh ⟨co, S2.first, h1, h2⟩ hl' (by simp [p'.length]) fun h' eb => k _ (S2.drop eb)
    · rintro i W2 τ2 _ x2 s2 P le2 ⟨co, rfl, h1, h2⟩ S2 k
      exact wpAny_pyIter_listiter ⟨co, S2.first, h1, h2⟩ k
    · rintro i W2 τ2 _ x2 s2 target c P ⟨co, rfl, h1, h2⟩ S2 k
      exact noGo S2.first h1 h2 rfl k
/-- range(..). -/
noncomputable def rangeL (lo hi : Int) : List PV := (List.range (hi - lo).toNat).map fun (i : Nat) => PV.int (lo + (i : Int))
theorem rangeL_len (lo hi : Int) : (rangeL lo hi).length = (hi - lo).toNat := by simp [rangeL]
noncomputable def rngB (lo hi : Int) : Prop := (-(2 ^ 62) ≤ lo ∧ lo < 2 ^ 62) ∧ -(2 ^ 62) ≤ hi ∧ hi < 2 ^ 62
noncomputable def rngW (vs : List VV) (Q : List PV → Prop) : Prop := match vs with
  | [.p (.int hi)] => rngB 0 hi ∧ Q (rangeL 0 hi)
  | [.p (.int lo), .p (.int hi)] => rngB lo hi ∧ Q (rangeL lo hi)
  | _ => False
noncomputable abbrev wRng (ws : WA) : WI := fun C τ Q => ws C τ fun vs τ1 => rngW vs fun l => Q l (fun _ => True) τ1
theorem rangeLeft {lo hi : Int} : Builtin.Range.rangeSize lo hi 1 = ((hi - lo).toNat : Int) - ((0 : Nat) : Int) := by rw [rangeSize_one]; split <;> omega
theorem RI_range {r : Addr} {lo hi : Int} {t u v : Tok} {Q : List PV → (VS → Prop) → VS → Prop} (b : rngB lo hi) (S : SimX Φ W τ x s) (hr : IsRange s.heap r lo hi 1 t u v) (q : Q (rangeL lo hi) (fun _ => True) τ) : wpAny Φ.M Φ.A (pyIter (.ref r)) (RI Φ W x Q) (fun _ _ => False) s := by
  refine wpAny_pyIter_range hr (small_one b.1.1 b.1.2 b.2.1 b.2.2) ?_
  have hq : s.heap.get? s.heap.objs.size = none := Heap.get?_none_of_le (Nat.le_refl _)
  have S2 := S.new (h' := s.heap.push { cls := .type "range_iterator", data := .fields #[rawInt lo, rawInt (Builtin.Range.rangeSize lo hi 1), rawInt 1] }) (t := s.toks) (fun _ _ e => Heap.get?_push_of_some _ e) hq (Heap.get?_push_size _ rfl)
  rw [rangeLeft] at S2 ⊢
  have ob : ∀ a b : Int, ({ cls := .type "range_iterator", dict := none, data := .fields #[rawInt a, rawInt b, rawInt 1], slots := #[] } : Obj) = { cls := .type "range_iterator", data := .fields #[rawInt a, rawInt b, rawInt 1] } := fun _ _ => rfl
  generalize s.heap.objs.size = it at S2 ⊢
  refine ⟨W, rangeL lo hi, fun _ => True, τ, fun i e => e = [(it, { cls := .type "range_iterator", data := .fields #[rawInt (lo + (i : Int)), rawInt (((hi - lo).toNat : Int) - (i : Int)), rawInt 1] })], _, .refl W, ⟨?_, ?_, ?_, ?_⟩, by rw [show lo + ((0 : Nat) : Int) = lo from Int.add_zero lo], S2, trivial, q⟩
  · rintro i z W2 τ2 _ x2 s2 P le2 hz rfl S2 _ k
    have hi' : i < (hi - lo).toNat := by
      have := (List.getElem?_eq_some_iff.mp hz).1
      simpa [rangeL] using this
    have ez : z = .int (lo + (i : Int)) := by
      rw [rangeL, List.getElem?_map, List.getElem?_range hi'] at hz
      simpa using hz.symm
    subst ez
    refine wpAny_pyNext_range_item (x := lo + (i : Int)) (left := ((hi - lo).toNat : Int) - (i : Int)) (step := 1) S2.first (by (clear hq hr hz; omega)) fun h' hit' sb => ?_
    refine k _ [_] _ (.int _ _ .nil) ?_ (S2.updX hit' sb _) fun b o hb e => (sb.2 b (by simpa using hb)).trans e
    have e1 : lo + (i : Int) + 1 = lo + ((i + 1 : Nat) : Int) := by (clear hi' hit' hq hr hz; omega)
    have e2 : ((hi - lo).toNat : Int) - (i : Int) - 1 = ((hi - lo).toNat : Int) - ((i + 1 : Nat) : Int) := by (clear e1 hi' hit' hq hr hz; omega)
    rw [e1, e2]
  · rintro W2 τ2 _ x2 s2 P le2 rfl S2 _ k
    exact wpAny_pyNext_range_end Φ.hh (x := lo + ((rangeL lo hi).length : Int)) (left := ((hi - lo).toNat : Int) - ((rangeL lo hi).length : Int)) (step := 1) S2.first (by rw [rangeL_len]; (clear hq hr; omega)) fun h' eb => k _ (S2.drop eb)
  · rintro i W2 τ2 _ x2 s2 P le2 rfl S2 k
    exact wpAny_pyIter_rangeiter (x := lo + (i : Int)) (left := ((hi - lo).toNat : Int) - (i : Int)) (step := 1) S2.first k
  · rintro i W2 τ2 _ x2 s2 target c P rfl S2 k
    exact noGo S2.first rfl rfl rfl k
theorem SI_range {t : Str} {p : Pos} {es : List Expr} {pos : Pos} {ws : WA} (n : Nat) (h' : SA G cs es ws) (b : BiOk N Z cs t (Value.type "range") n)
    (he : ∀ env, eval (.Call (.Name t p) es [] pos) env = (do callWith pos (← eval (.Name t p) env) [] (backTo pos (starEach es env)) (backToKw pos (keywordEach [] env)))) : SI G cs (.Call (.Name t p) es [] pos) (wRng ws) := fun Φ C ok W τ x s Q S q => by
  refine Call_ (b.load S ?_) (he _)
  have hp : (backTo pos (starEach es Φ.env)).any (·.1) = false := by rw [back_any]; exact h'.1 _
  refine PySem.callWith_type (first := []) hp (evalArgs_of hp (h'.go ok S q fun W1 as τ1 vs s1 le r S1 q1 => ?_))
  have nw : ∀ (o : Obj) (t : Nat), o.isFreed = false → SimX Φ W1 τ1 x { s1 with heap := s1.heap.push o, toks := t } := fun o t hf => (S1.new (h' := s1.heap.push o) (t := t) (fun _ _ e => Heap.get?_push_of_some _ e) (Heap.get?_none_of_le (Nat.le_refl _)) (Heap.get?_push_size _ hf)).forget
  unfold rngW at q1
  split at q1
  · obtain ⟨c, rfl, rc⟩ := r.one
    obtain ⟨t, rfl⟩ := rc.int
    refine call_range_1 (wpAny_mono (RI_range q1.1 (nw _ _ rfl) (Heap.get?_push_size _ rfl) q1.2) (fun _ _ y => ?_) fun _ _ y => y)
    cases y with
    | mk W' l keep τ XP e le' src x0 S k q => exact ⟨W', l, keep, τ, XP, e, le.trans le', src, x0, S, k, q⟩
  · obtain ⟨c, d, rfl, rc, rd⟩ := r.two
    obtain ⟨t, rfl⟩ := rc.int
    obtain ⟨t', rfl⟩ := rd.int
    refine call_range_2 (wpAny_mono (RI_range q1.1 (nw _ _ rfl) (Heap.get?_push_size _ rfl) q1.2) (fun _ _ y => ?_) fun _ _ y => y)
    cases y with
    | mk W' l keep τ XP e le' src x0 S k q => exact ⟨W', l, keep, τ, XP, e, le.trans le', src, x0, S, k, q⟩
  · exact q1.elim
/-- A for loop. -/
noncomputable def forW (tgt : PV → VS → (VS → Prop) → Prop) (body : VS → (Fl → VS → Prop) → Prop) (keep : VS → Prop) (Q : Fl → VS → Prop) : List PV → VS → Prop
  | [], τ => Q .next τ
  | v :: r, τ => tgt v τ fun τ1 => body τ1 fun f τ2 => match f with
    | .next => keep τ2 ∧ forW tgt body keep Q r τ2
    | .cont => keep τ2 ∧ forW tgt body keep Q r τ2
    | .brk => Q .next τ2
    | .ret u => Q (.ret u) τ2
noncomputable abbrev wFor (i : WI) (t : WS) (b : WX) : WX := fun C τ Q => i C τ fun l keep τ1 => forW (fun v τ q => t C τ (.p v) q) (b C) keep Q l τ1
theorem no_ {Φ : Cx G cs} {α : Type} {t : Sem α} {P : α → Shared → Prop} {s : Shared} (h : wpAny Φ.M Φ.A t P (fun _ _ => False) s) : wpAny Φ.M Φ.A t P (notedBy Φ.M Φ.A Φ.env fun _ _ => False) s := wpAny_mono h (fun _ _ x => x) fun _ _ x => x.elim
noncomputable def RFr (Φ : Cx G cs) (W : Wd) (x : List (Addr × Obj)) (Q : Fl → VS → Prop) (r : Except Value Flow) (s : Shared) : Prop := match r with
  | .ok f => RF Φ W x Q f s
  | .error _ => False
theorem SX_for {target iter : Expr} {body : List Stmt} {pos : Pos} {i : WI} {t : WS} {b : WX} (hi : SI G cs iter i) (ht : SS G cs target t) (hb : SB G cs body b) (hf : ∀ env x, foldedSetIterable iter env x = pure x) : SX G cs (.For target iter body [] pos) (wFor i t b) := fun Φ C ok W τ x s Q S q => by
  refine wpAny_For (wpAny_mono (hi Φ C ok W τ x s _ S q) (fun v s1 h1 => wpAny_mono h1 (fun it s2 h2 => ?_) fun _ _ y => y) fun _ _ y => y) (hf _)
  obtain ⟨W1, l, keep, τ1, XP, e, le, src, x0, S1, k, q1⟩ := h2
  refine codeAny_mono (codeAny_forLoop_any (R := fun r s' => match r with | .ok f => RF Φ W x Q f s' | .error _ => False)
    (fun n s' => ∃ i W' τ' e, n + i = l.length + 1 ∧ i ≤ l.length ∧ W1.le W' ∧ XP i e ∧ SimX Φ W' τ' (e ++ x) s' ∧ keep τ' ∧ forW (fun v τ q => t C τ (.p v) q) (b C) keep Q (l.drop i) τ') (fun n s' ⟨i, W', τ', e, en, hi, le', xi, S', kp, q'⟩ => ?_) (l.length + 1) ⟨0, W1, τ1, e, rfl, Nat.zero_le _, .refl _, x0, S1, k, q1⟩) fun r s' q => ?_
  · by_cases hie : i = l.length
    · subst hie
      refine no_ (src.stop W' τ' e x s' _ le' xi S' kp fun s3 S3 => wpAny_execs_nil ⟨W', .next, τ', le.trans le', .next, S3, ?_⟩)
      rw [List.drop_length] at q'
      exact q'
    · have hlt : i < l.length := Nat.lt_of_le_of_ne hi hie
      have ha : l[i]? = some l[i] := List.getElem?_eq_getElem hlt
      rw [List.drop_eq_getElem_cons hlt] at q'
      refine no_ (src.item i _ W' τ' e x s' _ le' ha xi S' kp fun c e' s3 rc xi' S3 _ => ?_)
      refine no_ (src.go (i + 1) W' τ' e' x s3 target c _ xi' S3 ?_)
      refine no_ (wpAny_mono (ht Φ C ok W' τ' (e' ++ x) s3 (.p l[i]) c _ S3 (.p rc) q') (fun _ s4 y => ?_) fun _ _ y => y)
      obtain ⟨W4, τ4, le4, S4, q4⟩ := y
      refine no_ (wpAny_mono (hb Φ C ok W4 τ4 (e' ++ x) s4 _ S4 q4) (fun f s5 y => ?_) fun _ _ y => y)
      obtain ⟨W5, fl, τ5, le5, r5, S5, q5⟩ := y
      have lx := (le'.trans le4).trans le5
      cases r5 with
      | next => exact ⟨l.length - i, by omega, i + 1, W5, τ5, e', by omega, hlt, lx, xi', S5, q5.1, q5.2⟩
      | cont => exact ⟨l.length - i, by omega, i + 1, W5, τ5, e', by omega, hlt, lx, xi', S5, q5.1, q5.2⟩
      | brk => exact ⟨W5, .next, τ5, le.trans lx, .next, S5.forgetL, q5⟩
      | ret ru => exact ⟨W5, _, τ5, le.trans lx, .ret ru, S5.forgetL, q5⟩
  · cases r with
    | ok f => exact q
    | error e => exact q.elim
end VE
namespace VE
variable {N : Nat → Str} {Z : Stc} {G : Gl N Z} {cs : Scope} {Φ : Cx G cs} {W : Wd} {τ : VS} {s : Shared} {x : List (Addr × Obj)}
/-- A while loop. -/
noncomputable def whileW (t : VS → (Bool → VS → Prop) → Prop) (b : VS → (Fl → VS → Prop) → Prop) (Q : Fl → VS → Prop) : Nat → VS → Prop
  | 0, _ => False
  | n + 1, τ => t τ fun c τ1 => brW c (b τ1 fun f τ2 => match f with
    | .next => whileW t b Q n τ2
    | .cont => whileW t b Q n τ2
    | .brk => Q .next τ2
    | .ret u => Q (.ret u) τ2) (Q .next τ1)
noncomputable abbrev wWhile (t : WT) (b : WX) : WX := fun C τ Q => ∃ n, whileW (t C) (b C) Q n τ
theorem SX_while {test : Expr} {body : List Stmt} {pos : Pos} {t : WT} {b : WX} (ht : ST G cs test t) (hb : SB G cs body b) : SX G cs (.While test body [] pos) (wWhile t b) := fun Φ C ok W τ x s Q S ⟨n, q⟩ => by
  refine wpAny_While (codeAny_mono (codeAny_whileLoop (R := fun r s' => match r with | .ok f => RF Φ W x Q f s' | .error _ => False) (fun n s' => ∃ W' τ', W.le W' ∧ SimX Φ W' τ' x s' ∧ whileW (t C) (b C) Q n τ') (fun n s' ⟨W', τ', le, S', q'⟩ => ?_) n ⟨W, τ, .refl W, S, q⟩) fun r s' q => ?_)
  · cases n with
    | zero => exact q'.elim
    | succ n =>
      refine no_ (ht.go ok S' q' fun W1 c τ1 s1 le1 S1 q1 => ?_)
      cases c with
      | true =>
        rw [if_pos rfl]
        refine no_ (wpAny_mono (hb Φ C ok W1 τ1 x s1 _ S1 q1) (fun f s2 y => ?_) fun _ _ y => y)
        obtain ⟨W2, fl, τ2, le2, r2, S2, q2⟩ := y
        cases r2 with
        | next => exact ⟨n, Nat.lt_succ_self n, W2, τ2, (le.trans le1).trans le2, S2, q2⟩
        | cont => exact ⟨n, Nat.lt_succ_self n, W2, τ2, (le.trans le1).trans le2, S2, q2⟩
        | brk => exact ⟨W2, .next, τ2, (le.trans le1).trans le2, .next, S2, q2⟩
        | ret ru => exact ⟨W2, _, τ2, (le.trans le1).trans le2, .ret ru, S2, q2⟩
      | false =>
        rw [if_neg (by decide)]
        exact no_ (wpAny_execs_nil ⟨W1, .next, τ1, le.trans le1, .next, S1, q1⟩)
  · cases r with
    | ok f => exact q
    | error e => exact q.elim
/-- What a call leaves. -/
noncomputable def retv : Fl → VV
  | .ret v => v
  | _ => .p .none
noncomputable def closedV (n : Nat) : VV → Bool
  | .p _ => true
  | .ref k => Nat.blt k n
  | .meth _ k => Nat.blt k n
noncomputable def closedO (n : Nat) : VO → Bool
  | .list _ => true
  | .inst fs => fs.all fun p => closedV n p.2
noncomputable def retN (n : Nat) (hp : List VO) (v : VV) (Q : Rs → List VO → Prop) : Prop := match v with
  | .p z => Q (.val (.p z)) (hp.take n)
  | .ref k => ∃ l, hp[k]? = some (.list l) ∧ n ≤ k ∧ Q (.new l) (hp.take n)
  | .meth _ _ => False
noncomputable def retW (n : Nat) (hp : List VO) (v : VV) (Q : Rs → List VO → Prop) : Prop := (hp.length = n ∧ Q (.val v) hp) ∨ (n ≤ hp.length ∧ (hp.take n).all (closedO n) = true ∧ retN n hp v Q)
theorem VRep.cut {W' : Wd} {n : Nat} {v : VV} {c : Value} (r : VRep G W' v c) (h : closedV n v = true) : VRep G ⟨W'.rho.take n, W'.fro⟩ v c := by
  cases r with
  | p r => exact .p r
  | ref e =>
    have := Nat.le_of_ble_eq_true h
    exact .ref (by rw [List.getElem?_take_of_lt (by lia)]; exact e)
  | meth g e f =>
    have := Nat.le_of_ble_eq_true h
    exact .meth g (by rw [List.getElem?_take_of_lt (by lia)]; exact e) f
theorem HR.cut {W' : Wd} {n : Nat} : ∀ {os ρ ns} (m : Nat), HR G W' os ρ ns → (os.take m).all (closedO n) = true → ∃ n1 n3, ns = n1 ++ n3 ∧ HR G ⟨W'.rho.take n, W'.fro⟩ (os.take m) (ρ.take m) n1 ∧
    ∀ k l, os[k]? = some (.list l) → m ≤ k → ∃ a vs j, ρ[k]?.map (·.1) = some a ∧ (a, listOf vs.toArray j) ∈ n3 ∧ PRepL (FW G W') l vs := by
  intro os ρ ns m h
  induction h generalizing m with
  | nil => intro _; exact ⟨[], [], rfl, by simpa using .nil, fun k l e => by simp at e⟩
  | @list os ρ ns a d l vs j p r ih =>
    intro hc
    cases m with
    | zero =>
      refine ⟨[], _, rfl, by simpa using .nil, fun k l' e _ => ?_⟩
      obtain ⟨a', d', vs', j', pre, post, e1, e2, p', _⟩ := (HR.list p r).at_list e
      exact ⟨a', vs', j', by rw [e1]; rfl, by rw [e2]; simp, p'⟩
    | succ m =>
      rw [List.take_succ_cons, List.all_cons, Bool.and_eq_true] at hc
      obtain ⟨n1, n3, e, h1, h2⟩ := ih m hc.2
      subst e
      refine ⟨_ :: n1, n3, rfl, by rw [List.take_succ_cons, List.take_succ_cons]; exact .list p h1, fun k l' e hk => ?_⟩
      cases k with
      | zero => lia
      | succ k => exact h2 k l' (by simpa using e) (by lia) |> fun ⟨a, vs, j, x, y, z⟩ => ⟨a, vs, j, by simpa using x, y, z⟩
  | @inst os ρ ns a d fs es j p r ih =>
    intro hc
    cases m with
    | zero =>
      refine ⟨[], _, rfl, by simpa using .nil, fun k l' e _ => ?_⟩
      obtain ⟨a', d', vs', j', pre, post, e1, e2, p', _⟩ := (HR.inst p r).at_list e
      exact ⟨a', vs', j', by rw [e1]; rfl, by rw [e2]; simp, p'⟩
    | succ m =>
      rw [List.take_succ_cons, List.all_cons, Bool.and_eq_true] at hc
      obtain ⟨n1, n3, e, h1, h2⟩ := ih m hc.2
      subst e
      refine ⟨_ :: _ :: n1, n3, rfl, by
        rw [List.take_succ_cons, List.take_succ_cons]
        refine .inst ⟨p.1, p.2.1, fun k => ?_⟩ h1
        have := p.2.2 k
        cases hk : getN k fs with
        | none => rw [hk] at this; exact this
        | some v =>
          rw [hk] at this
          obtain ⟨c, e, q⟩ := this
          exact ⟨c, e, q.cut (List.all_eq_true.mp hc.1 _ (getN_mem hk))⟩, fun k l' e hk => ?_⟩
      cases k with
      | zero => simp at e
      | succ k => exact h2 k l' (by simpa using e) (by lia) |> fun ⟨a, vs, j, x, y, z⟩ => ⟨a, vs, j, by simpa using x, y, z⟩
theorem zip_get {ns : List Nat} : ∀ {as : List VV} {vs : List Value} {k : Nat} {v : VV}, VRepL G W as vs → getN k (ns.zip as) = some v → k ∈ ns ∧ ∃ c, getN k (ns.zip vs) = some c ∧ VRep G W v c := by
  induction ns with
  | nil => intro as vs k v _ e; simp [getN] at e
  | cons n ns ih =>
    intro as vs k v r e
    cases r with
    | nil => simp [getN] at e
    | @cons a c l vs ra r =>
      simp only [List.zip_cons_cons, getN] at e ⊢
      cases hk : Nat.beq k n with
      | true =>
        rw [hk] at e
        cases e
        have := Nat.eq_of_beq_eq_true hk
        subst this
        exact ⟨.head _, _, rfl, ra⟩
      | false =>
        rw [hk] at e
        obtain ⟨h1, h2⟩ := ih r e
        exact ⟨.tail _ h1, h2⟩
theorem zip_names {ns : List Nat} (hN : NOk N) : ∀ {vs : List Value} {k : Nat} {c : Value}, getN k (ns.zip vs) = some c → ((ns.map N).zip vs).lookup (N k) = some c := by
  induction ns with
  | nil => intro vs k c e; simp [getN] at e
  | cons n ns ih =>
    intro vs k c e
    cases vs with
    | nil => simp [getN] at e
    | cons v vs =>
      simp only [List.map_cons, List.zip_cons_cons, List.lookup, getN] at e ⊢
      cases hk : Nat.beq k n with
      | true => have := Nat.eq_of_beq_eq_true hk; subst this; rw [hk] at e; rw [show (N k == N k) = true from beq_self_eq_true _]; exact e
      | false =>
        rw [hk] at e
        rw [show (N k == N n) = false from beq_eq_false_iff_ne.mpr fun z => nbeq.mp hk (hN.inj _ _ z)]
        exact ih e
theorem lookup_reverse {α : Type} : ∀ {l : List (Str × α)} {x : Str} {c : α}, (l.map (·.1)).Nodup → l.lookup x = some c → l.reverse.lookup x = some c := by
  intro l
  induction l with
  | nil => intro x c _ e; cases e
  | cons p l ih =>
    intro x c nd e
    obtain ⟨y, d⟩ := p
    rw [List.map_cons, List.nodup_cons] at nd
    rw [List.reverse_cons, List.lookup_append]
    simp only [List.lookup] at e
    cases hx : x == y with
    | true =>
      rw [hx] at e
      cases e
      have := beq_iff_eq.mp hx
      subst this
      have : l.reverse.lookup x = none := by
        rw [List.lookup_eq_none_iff]
        intro q hq
        have := List.mem_reverse.mp hq
        exact bne_iff_ne.mpr fun z => nd.1 (List.mem_map.mpr ⟨q, this, z.symm⟩)
      rw [this]
      simp [List.lookup]
    | false =>
      rw [hx] at e
      rw [ih nd.2 e]
      rfl
theorem map_fst_zip {α β : Type} : ∀ (l : List α) (r : List β), ((l.zip r).map (·.1)).Sublist l := by
  intro l
  induction l with
  | nil => intro r; simp
  | cons a l ih =>
    intro r
    cases r with
    | nil => simp
    | cons b r => simp only [List.zip_cons_cons, List.map_cons]; exact (ih r).cons_cons a
/-- A function of the text's, without cells. -/
structure FnOk (G : Gl N Z) (f : Addr) (ns : List Nat) (name qual : Str) (params : Arguments) (body : List Stmt) (scope : Scope) (dV kV doc pm cdv ct oc : Value) (an od : Option Addr) (osl : Array (Option Value)) : Prop where
  ho : G.K.lookup f = some ⟨oc, od, .func (fnOf name qual params body scope dV kV doc pm an cdv ct), osl⟩
  hcd : codeIn G.K cdv qual = true
  hloc : ∀ n ∈ ns, scope.names.lookup (N n) = some .local
  hnd : ns.Nodup
  hco : scope.isCoroutine = false
  hgen : scope.isGenerator = false
  hk : scope.kind = .function
  hcell : ∀ x ∈ scope.names, x.2 ≠ .cell
  htop : scope.names.lookup (N Z.topn) ≠ some .local
variable {f : Addr} {ns : List Nat} {name qual : Str} {params : Arguments} {body : List Stmt} {scope : Scope} {dV kV doc pm cdv ct oc : Value} {an od : Option Addr} {osl : Array (Option Value)}
theorem enter {A : Around} {args : Args} {as : List VV} {vs : List Value} {Q : Rs → List VO → Prop} (D : FnOk G f ns name qual params body scope dV kV doc pm cdv ct oc an od osl) (hhd : A.handled = none) (hu : A.units ≤ 3 * A.depth + 4) (hdp : A.depth < recursionLimit)
    (S : SimX Φ W τ x s) (r : VRepL G W as vs) (hbind : BindsTo s (fnOf name qual params body scope dV kV doc pm an cdv ct) args ((ns.map N).zip vs))
    (h : ∀ Φ' : Cx G scope, Φ'.A.depth = A.depth + 1 → ∀ s1, SimX Φ' W ⟨ns.zip as, τ.hp⟩ [] s1 → wpAny Φ'.M Φ'.A (execs body Φ'.env) (RF Φ' W [] fun fl τ' => retW τ.hp.length τ'.hp (retv fl) Q) (fun _ _ => False) s1) :
    codeAny (model G.prog G.w) A (.call (.ref f) args) (fun r s' => ∃ v, r = .ok (.ret v) ∧ R0 Φ W x (fun a τ' => τ'.loc = τ.loc ∧ Q a τ'.hp) v s') s := by
  obtain ⟨m, n1, n2, F, Nw, nd, H, Cc, L, cv, o, g⟩ := id S
  have nN : (((ns.map N).zip vs).map (·.1)).Nodup := (map_fst_zip _ _).nodup (List.pairwise_map.mpr (List.Pairwise.imp (fun ne e => ne (G.hN.inj _ _ e)) D.hnd))
  refine codeAny_call_def (fd := fnOf name qual params body scope dV kV doc pm an cdv ct) (body := body) (binds := (ns.map N).zip vs) hdp (S.K _ _ D.ho) rfl ((topRead_of Φ.T).nolimit.keeps F.keep) (codeRec_of S.K D.hcd) rfl hbind D.hcell (fun y hy => ?_) (fun h₁ hns hk₁ => ?_) D.hco D.hgen D.hk
  · have := (map_fst_zip (ns.map N) vs).subset (List.mem_map_of_mem hy)
    obtain ⟨n, hn, e⟩ := List.mem_map.mp this
    show scope.names.lookup y.1 = _
    rw [← e]; exact D.hloc n hn
  · let own := n1 ++ ([] ++ W.fro)
    have inO : ∀ p ∈ own, p ∈ x ++ (n1 ++ (n2 ++ W.fro)) := fun p hp => by
      rcases List.mem_append.mp hp with q | q
      · simp [q]
      · have q : p ∈ W.fro := q
        simp [q]
    have nm : ∀ b o, Φ.h₀.get? b = some o → b ∉ own.map (·.1) := fun b o e q => by
      obtain ⟨p, hp, rfl⟩ := List.mem_map.mp q
      rw [(Nw p (inO p hp)).2.2] at e; cases e
    have st : ∀ b o, Φ.h₀.get? b = some o → (hideAll s.heap (own.map (·.1))).get? b = some o := fun b o e => hideAll_get _ (F.keep b o e) (nm b o e)
    obtain ⟨oL, es, ep, hL, hLd⟩ := F.ns
    have nL : Φ.L ∉ own.map (·.1) := fun q => by
      obtain ⟨p, hp, e⟩ := List.mem_map.mp q
      exact (Nw p (inO p hp)).2.1 e
    have hLg := hideAll_get (own.map (·.1)) hL nL
    let Φ' : Cx G scope := ⟨A.deeper (callEnv (fnOf name qual params body scope dV kV doc pm an cdv ct) s.heap.objs.size f), hideAll s.heap (own.map (·.1)), s.heap.objs.size, [], qual ++ ".<locals>.", some f, cdv, some s.heap.objs.size, [], fun a o e => st a o (Φ.X a o e), Φ.T.keeps st, D.hk, hhd, by
      show A.units + 3 ≤ 3 * (A.depth + 1) + 4
      lia, by show A.depth + 1 ≤ 1000; have : recursionLimit = 1000 := rfl; lia, List.nodup_nil, fun e => absurd e D.htop, fun e => absurd e D.htop⟩
    have S' : SimX Φ' W ⟨ns.zip as, τ.hp⟩ [] { s with heap := h₁, toks := s.toks + ((ns.map N).zip vs).length } := by
      refine ⟨_, n1, [], ⟨hns, fun b o e => hk₁ b o (of_hideAll _ e), Nat.le_of_eq (hideAll_size _ _)⟩, fun p hp => ?_, ?_, H, .nil, fun k v e => ?_, fun k c hm => (nomatch hm), o, g⟩
      · have hp : p ∈ own := hp
        exact ⟨hk₁ _ _ (Nw p (inO p hp)).1, Nat.ne_of_lt (Heap.lt_size (Nw p (inO p hp)).1), hideAll_none _ (List.mem_map_of_mem hp)⟩
      · refine List.Nodup.sublist (List.Sublist.map _ ?_) nd
        show List.Sublist (n1 ++ ([] ++ W.fro)) _
        exact (List.Sublist.append_left (List.Sublist.append_right (List.nil_sublist n2) W.fro) n1).trans (List.sublist_append_right x _)
      · obtain ⟨h1, c, hc, rc⟩ := zip_get r e
        exact .loc c (D.hloc k h1) (lookup_reverse nN (zip_names G.hN hc)) rc
    refine wpAny_mono (h Φ' rfl _ S') (fun fl s' y => ?_) fun _ _ y => y.elim
    obtain ⟨W', a, τ', le, ra, S2, q⟩ := y
    obtain ⟨m2, k1, k2, F2, Nw2, nd2, H2, C2, _, _, o2, g2⟩ := S2
    cases C2
    have ra' : ∀ ff : Flow, FRel G W' a ff → VRep G W' (retv a) (match ff with | .ret v => v | _ => .none) := fun ff rr => by
      cases rr with
      | next => exact .p (.none .nil)
      | brk => exact .p (.none .nil)
      | cont => exact .p (.none .nil)
      | ret rv => exact rv
    have ra' := ra' fl ra
    have keepO : ∀ p ∈ x ++ n2, (hideAll s.heap (own.map (·.1))).get? p.1 = some p.2 := fun p hp => by
      have hp' : p ∈ x ++ (n1 ++ (n2 ++ W.fro)) := by
        rcases List.mem_append.mp hp with q | q <;> simp [q]
      refine hideAll_get _ (Nw p hp').1 fun hm => ?_
      obtain ⟨p', hp2, e⟩ := List.mem_map.mp hm
      have nd3 : ((x ++ n2 ++ (n1 ++ W.fro)).map (·.1)).Nodup := by
        refine (List.Perm.nodup_iff (List.Perm.map _ ?_)).mp nd
        simp only [List.append_assoc]
        exact List.Perm.append_left x (by rw [← List.append_assoc, ← List.append_assoc]; exact List.Perm.append_right _ List.perm_append_comm)
      rw [List.map_append, List.nodup_append] at nd3
      exact nd3.2.2 _ (List.mem_map_of_mem hp) _ (List.mem_map_of_mem (show p' ∈ n1 ++ W.fro from hp2)) e.symm
    have FF : Fr Φ.h₀ Φ.L s'.heap m := ⟨⟨oL, es, ep, F2.keep _ _ hLg, hLd⟩, fun b o e => F2.keep b o (st b o e), F.above⟩
    have newOf : ∀ p ∈ k1 ++ W'.fro, s'.heap.get? p.1 = some p.2 ∧ p.1 ≠ Φ.L ∧ Φ.h₀.get? p.1 = none := fun p hp => by
      have P := Nw2 p (by simpa using hp)
      refine ⟨P.1, fun q => ?_, ?_⟩
      · have := P.2.2; rw [q] at this; rw [show (Φ'.h₀.get? Φ.L) = some oL from hLg] at this; cases this
      · cases q : Φ.h₀.get? p.1 with
        | none => rfl
        | some o => have := P.2.2; rw [show (Φ'.h₀.get? p.1) = some o from st _ _ q] at this; cases this
    have oldOf : ∀ p ∈ x ++ n2, s'.heap.get? p.1 = some p.2 ∧ p.1 ≠ Φ.L ∧ Φ.h₀.get? p.1 = none := fun p hp =>
      ⟨F2.keep _ _ (keepO p hp), (Nw p (by rcases List.mem_append.mp hp with q | q <;> simp [q])).2⟩
    have ndx : ∀ ks : List (Addr × Obj), ks.Sublist (k1 ++ W'.fro) → ((x ++ n2 ++ ks).map (·.1)).Nodup := fun ks hks => by
      rw [List.map_append, List.nodup_append]
      refine ⟨List.Nodup.sublist (List.Sublist.map _ ?_) nd, List.Nodup.sublist (List.Sublist.map _ hks) (by simpa using nd2), fun a ha b hb e => ?_⟩
      · exact List.Sublist.append_left ((List.sublist_append_left n2 W.fro).trans (List.sublist_append_right n1 _)) x
      · obtain ⟨p, hp, rfl⟩ := List.mem_map.mp ha
        obtain ⟨p', hp', rfl⟩ := List.mem_map.mp hb
        have := (Nw2 p' (by simpa using hks.subset hp')).2.2
        rw [show Φ'.h₀.get? p'.1 = some p.2 from e ▸ keepO p hp] at this
        cases this
    refine ⟨_, rfl, ?_⟩
    suffices hh : ∀ rv, VRep G W' (retv a) rv → R0 Φ W x (fun a τ' => τ'.loc = τ.loc ∧ Q a τ'.hp) rv s' from hh _ ra'
    intro rv ra'
    rcases q with ⟨hl, q⟩ | ⟨hl, hc, q⟩
    · refine .val W' (retv a) ⟨τ.loc, τ'.hp⟩ le ra' ⟨m, k1, n2, FF, fun p hp => ?_, ?_, H2, Cc.mono le, fun k v e => (L k v e).mono le, cv, o2, g2⟩ ⟨rfl, q⟩
      · simp only [List.mem_append] at hp
        rcases hp with q | q | q | q
        · exact oldOf p (by simp [q])
        · exact newOf p (by simp [q])
        · exact oldOf p (by simp [q])
        · exact newOf p (by simp [q])
      · refine (List.Perm.nodup_iff (List.Perm.map _ ?_)).mp (ndx _ (List.Sublist.refl _))
        simp only [List.append_assoc]
        exact List.Perm.append_left x (by rw [← List.append_assoc, ← List.append_assoc]; exact List.Perm.append_right _ List.perm_append_comm)
    · obtain ⟨p1, p3, ek, Hc, Hl⟩ := H2.cut τ.hp.length hc
      subst ek
      obtain ⟨t, ht⟩ := le.rho
      have erho : W'.rho.take τ.hp.length = W.rho := by rw [← ht, ← H.len]; simp
      rw [erho] at Hc
      have H3 : HR G ⟨W.rho, W'.fro⟩ (τ'.hp.take τ.hp.length) W.rho p1 := Hc
      have le2 : W.le ⟨W.rho, W'.fro⟩ := ⟨List.prefix_refl _, le.fro⟩
      have fin : ∀ ex : List (Addr × Obj), ex.Sublist p3 → SimX Φ ⟨W.rho, W'.fro⟩ ⟨τ.loc, τ'.hp.take τ.hp.length⟩ (ex ++ x) s' := fun ex hex => by
        have sub : (p1 ++ (ex ++ W'.fro)).Sublist ((p1 ++ p3) ++ W'.fro) := by
          rw [List.append_assoc]
          exact List.Sublist.append_left (List.Sublist.append_right hex _) _
        refine ⟨m, p1, n2, FF, fun p hp => ?_, ?_, H3, Cc.mono le2, fun k v e => (L k v e).mono le2, cv, o2, g2⟩
        · simp only [List.mem_append] at hp
          rcases hp with (q | q) | q | q | q
          · exact newOf p (sub.subset (by simp [q]))
          · exact oldOf p (by simp [q])
          · exact newOf p (sub.subset (by simp [q]))
          · exact oldOf p (by simp [q])
          · exact newOf p (sub.subset (by
              have q : p ∈ W'.fro := q
              simp [q]))
        · refine (List.Perm.nodup_iff (List.Perm.map _ ?_)).mp (ndx _ sub)
          have e1 : x ++ n2 ++ (p1 ++ (ex ++ W'.fro)) = (x ++ n2 ++ p1) ++ (ex ++ W'.fro) := by simp
          have e2 : ex ++ x ++ (p1 ++ (n2 ++ W'.fro)) = ex ++ ((x ++ (p1 ++ n2)) ++ W'.fro) := by simp
          show (x ++ n2 ++ (p1 ++ (ex ++ W'.fro))).Perm (ex ++ x ++ (p1 ++ (n2 ++ W'.fro)))
          rw [e1, e2]
          refine List.Perm.trans (List.perm_append_comm_assoc _ _ _) (List.Perm.append_left ex (List.Perm.append_right _ ?_))
          rw [List.append_assoc]
          exact List.Perm.append_left x List.perm_append_comm
      unfold retN at q
      split at q
      · rename_i z ez
        rw [ez] at ra'
        refine .val ⟨W.rho, W'.fro⟩ _ ⟨τ.loc, τ'.hp.take τ.hp.length⟩ le2 (?_ : VRep G _ (.p z) rv) (fin [] (List.nil_sublist _)) ⟨rfl, q⟩
        cases ra' with
        | p p => exact .p p
      · rename_i k ez
        rw [ez] at ra'
        obtain ⟨l, el, hk, q⟩ := q
        obtain ⟨b, ws, j, eb, hb, pl⟩ := Hl k l el hk
        cases ra' with
        | @ref _ b' d' er =>
          rw [er] at eb
          have eb : b' = b := by simpa using eb
          subst eb
          exact .new ⟨W.rho, W'.fro⟩ l ⟨τ.loc, τ'.hp.take τ.hp.length⟩ b' ws j le2 pl (fin [(b', _)] (List.singleton_sublist.mpr hb)) ⟨rfl, q⟩
      · exact q.elim
end VE
namespace VE
variable {N : Nat → Str} {Z : Stc} {G : Gl N Z} {cs : Scope} {Φ : Cx G cs} {W : Wd} {τ : VS} {s : Shared} {x : List (Addr × Obj)}
noncomputable abbrev Defs := List (Nat × List Nat × WX)
/-- The calls of the text's own functions, to a depth. -/
noncomputable def callsR (T : Defs) : Nat → Calls
  | 0 => fun _ _ _ _ => False
  | d + 1 => fun f as hp Q => match getN f T with
    | some (ns, b) => gd (Nat.beq as.length ns.length) (b (callsR T d) ⟨ns.zip as, hp⟩ fun fl τ' => retW hp.length τ'.hp (retv fl) Q)
    | none => False
@[irreducible] noncomputable def callsOf (T : Defs) (d : Nat) : Calls := callsR T d
theorem callsOf_0 (T : Defs) (f : Addr) (as : List VV) (hp : List VO) (Q : Rs → List VO → Prop) : callsOf T 0 f as hp Q = False := by unfold callsOf; rfl
theorem callsOf_s (T : Defs) (d : Nat) (f : Addr) (as : List VV) (hp : List VO) (Q : Rs → List VO → Prop) : callsOf T (d + 1) f as hp Q = (match getN f T with
    | some (ns, b) => gd (Nat.beq as.length ns.length) (b (callsOf T d) ⟨ns.zip as, hp⟩ fun fl τ' => retW hp.length τ'.hp (retv fl) Q)
    | none => False) := by unfold callsOf; rfl
inductive DefOk (G : Gl N Z) (f : Addr) (ns : List Nat) (b : WX) : Prop where
  | mk {name qual : Str} {params : Arguments} {body : List Stmt} {scope : Scope} {dV kV doc pm cdv ct oc : Value} {an od : Option Addr} {osl : Array (Option Value)} (D : FnOk G f ns name qual params body scope dV kV doc pm cdv ct oc an od osl)
    (hb : SB G scope body b) (hbind : ∀ vs s, vs.length = ns.length → BindsTo s (fnOf name qual params body scope dV kV doc pm an cdv ct) ⟨vs, []⟩ ((ns.map N).zip vs))
theorem VRepL.length {l : List VV} {vs : List Value} (r : VRepL G W l vs) : vs.length = l.length := by
  induction r with
  | nil => rfl
  | cons _ _ ih => simp [ih]
theorem callsOk {T : Defs} (hT : ∀ f ns b, getN f T = some (ns, b) → DefOk G f ns b) : ∀ d dep, dep + 3 + 4 * d < 1000 → CallsOk G dep (callsOf T d) := by
  intro d
  induction d with
  | zero => intro dep _ cs Φ A _ _ _ W τ x s f as vs Q S r q; rw [callsOf_0] at q; exact q.elim
  | succ d ih =>
    intro dep hd cs Φ A hh hu hA W τ x s f as vs Q S r q
    rw [callsOf_s] at q
    cases e : getN f T with
    | none => rw [e] at q; exact q.elim
    | some p =>
      obtain ⟨ns, b⟩ := p
      rw [e] at q
      obtain ⟨hl, q⟩ := gd_ex q
      have hl := Nat.eq_of_beq_eq_true hl
      obtain ⟨D, hb, hbind⟩ := hT f ns b e
      have hr : recursionLimit = 1000 := rfl
      exact enter D hh hu (by (clear e hh hl hu; lia)) S r (hbind vs s (by rw [r.length, hl])) fun Φ' e' s1 S1 => hb Φ' (callsOf T d) (ih Φ'.A.depth (by (clear e hh hl hr hu; lia))) W _ [] s1 _ S1 q
/-- The values of keyword arguments. -/
noncomputable def SK (G : Gl N Z) (cs : Scope) (kws : List Keyword) (w : WA) : Prop := ∀ (Φ : Cx G cs) C, CallsOk G Φ.A.depth C → ∀ pos W τ x s Q, SimX Φ W τ x s → w C τ Q → wpAny Φ.M Φ.A (evalAll ((backToKw pos (keywordEach kws Φ.env)).map (·.2))) (RA Φ W x Q) (fun _ _ => False) s
theorem SK_nil : SK G cs [] wA0 := fun Φ C ok pos W τ x s Q S q => wpAny_pure ⟨W, [], τ, .refl W, .nil, S, q⟩
theorem SK_cons {n : Option Str} {e : Expr} {kp : Pos} {rest : List Keyword} {w : WE} {ws : WA} (h : SE G cs e w) (h' : SK G cs rest ws) : SK G cs (⟨n, e, kp⟩ :: rest) (wAc w ws) := fun Φ C ok pos W τ x s Q S q => by
  show wpAny _ _ (evalAll ((do let v ← eval e Φ.env; standAt pos; pure v) :: ((backToKw pos (keywordEach rest Φ.env)).map (·.2)))) _ _ s
  refine wpAny_evalAll_cons (wpAny_bind (h.go ok S q fun W1 v τ1 c s1 le1 r1 S1 q1 => wpAny_bind (wpAny_standAt (wpAny_pure ?_))))
  exact wpAny_mono (h' Φ C ok pos W1 τ1 x s1 _ S1 q1) (fun vs s2 y => by
    obtain ⟨W2, as, τ2, le2, r2, S2, q2⟩ := y
    exact ⟨W2, v :: as, τ2, le1.trans le2, .cons (r1.mono le2) r2, S2, q2⟩) fun _ _ y => y
/-- An object of the class is made, its arguments by keywords. -/
structure NewOk (G : Gl N Z) : Prop where
  keep : keepIn G.K (.ref G.C) = true
  makes : makesIn G.K G.C = true
noncomputable abbrev wNew (T : Defs) (ns : List Nat) (b : WX) (ws : WA) : WE := fun C τ Q => ws C τ fun as τ1 => gd (Nat.beq (as.length + 1) ns.length) <| b (callsOf T 10) ⟨ns.zip (.ref τ1.hp.length :: as), τ1.hp ++ [.inst []]⟩ fun fl τ' => retW (τ1.hp.length + 1) τ'.hp (retv fl) fun r hp => match r with
  | .val (.p .none) => Q (.ref τ1.hp.length) ⟨τ1.loc, hp⟩
  | _ => False
theorem SE_new {T : Defs} (hT : ∀ f ns b, getN f T = some (ns, b) → DefOk G f ns b) {t : Str} {p : Pos} {kws : List Keyword} {pos : Pos} {fI : Addr} {kn : List Str} {ws : WA} {b : WX} {n : Nat} {ns : List Nat}
    {name qual : Str} {params : Arguments} {body : List Stmt} {scope : Scope} {dV kV doc pm cdv ct oc : Value} {an od : Option Addr} {osl : Array (Option Value)} (D : FnOk G fI ns name qual params body scope dV kV doc pm cdv ct oc an od osl) (hb : SB G scope body b)
    (O : NewOk G) (hi : findIn G.K (.ref G.C) "__init__" = some (some (.ref fI))) (hf : isFn G.K (.ref fI) = true) (htop : cs.names.lookup (N Z.topn) = some .local)
    (hn : N n = t) (hg : nsIn G.K mainGlobals t = some (some (.ref G.C))) (hk : cs.names.lookup t = some .globalImplicit) (h : SK G cs kws ws)
    (hbind : ∀ (s : Shared) v vs, G.K.In s.heap → vs.length + 1 = ns.length → BindsTo s (fnOf name qual params body scope dV kV doc pm an cdv ct) ⟨[v], kn.zip vs⟩ ((ns.map N).zip (v :: vs)))
    (hkn : ∀ env, (backToKw pos (keywordEach kws env)).filterMap (·.1) = kn) (hall : ∀ env, (backToKw pos (keywordEach kws env)).all (·.1.isSome) = true) (hplain : ∀ env, ((backTo pos (starEach [] env)).any (·.1) || (backToKw pos (keywordEach kws env)).any (·.1.isNone)) = false)
    (he : ∀ env, eval (.Call (.Name t p) [] kws pos) env = (do callWith pos (← eval (.Name t p) env) [] (backTo pos (starEach [] env)) (backToKw pos (keywordEach kws env)))) : SE G cs (.Call (.Name t p) [] kws pos) (wNew T ns b ws) := fun Φ C ok W τ x s Q S q => by
  subst hn
  rw [he]
  refine wpAny_bind (Calls.Name_function_global Φ.kind hk (Calls.loadGlobal_global (env := Φ.env) ((topRead_of Φ.T).g.keeps S.base) (mg_of Φ.K (topRead_of Φ.T).g hg) ?_) (G.hN.dbg n))
  refine callWith_KW0 Φ.K O.keep (hall _) (wpAny_mono (h Φ C ok pos W τ x s _ S q) (fun vs s2 y => ?_) fun _ _ y => y) (hplain _)
  obtain ⟨W1, as, τ1, le, r, S1, q1⟩ := y
  obtain ⟨hl, q1⟩ := gd_ex q1
  have hl := Nat.eq_of_beq_eq_true hl
  refine ⟨S1.K, ?_⟩
  rw [hkn]
  obtain ⟨m, n1, n2, F, Nw, nd, H, Cc, L, cv, o, g⟩ := id S1
  refine call_cls F Φ.K Nw O.makes hi hf fun y dy h' F' N' lt lt' => ?_
  have S2 : SimX Φ W1 τ1 ((y, instObj G.C dy) :: (dy, dictOf [] 0) :: x) { s2 with heap := h' } := by
    refine ⟨m, n1, n2, F', N', ?_, H, Cc, L, cv, o, g⟩
    show (((y, instObj G.C dy) :: (dy, dictOf [] 0) :: (x ++ (n1 ++ (n2 ++ W1.fro)))).map (·.1)).Nodup
    rw [List.map_cons, List.map_cons, List.nodup_cons, List.nodup_cons]
    refine ⟨fun hm => ?_, fun hm => ?_, nd⟩
    · rcases List.mem_cons.mp hm with q | q
      · exact Nat.ne_of_gt lt' q
      · obtain ⟨p, hp, e⟩ := List.mem_map.mp q
        exact Nat.ne_of_lt (Nat.lt_trans (lt p hp) lt') e
    · obtain ⟨p, hp, e⟩ := List.mem_map.mp hm
      exact Nat.ne_of_lt (lt p hp) e
  obtain ⟨W2, le2, e2, S3⟩ := S2.ownI (fs := []) (es := []) (n := 0) ⟨rfl, rfl, fun k => rfl⟩
  have un := Φ.un
  have ld := Φ.lowd htop
  have hr : recursionLimit = 1000 := rfl
  refine codeAny_mono (enter (Φ := Φ) (A := Φ.A.under (.builtin "type.__call__" ⟨.ref G.C :: ([] ++ []), kn.zip vs⟩)) (as := .ref τ1.hp.length :: as) (vs := .ref y :: vs) D Φ.hh ?_ ?_ S3 (.cons (.ref e2) (r.mono le2)) (hbind _ _ _ S3.K (by rw [r.length, hl])) fun Φ' e' s4 S4 => hb Φ' (callsOf T 10) (callsOk hT 10 Φ'.A.depth ?_) W2 _ [] s4 _ S4 (by simpa using q1)) ?_
  · show Φ.A.units + 1 ≤ 3 * (Φ.A.depth + 1) + 4
    (clear e2 g hf hg hi hk hl hr htop ld lt' o; lia)
  · show Φ.A.depth + 1 < recursionLimit
    (clear e2 g hf hg hi hk hl htop lt' o un; lia)
  · rw [e']
    show Φ.A.depth + 1 + 1 + 3 + 4 * 10 < 1000
    (clear e' e2 g hf hg hi hk hl hr htop lt' o un; lia)
  · rintro r' s' ⟨v, rfl, r0⟩
    cases r0 with
    | val W3 a τ3 l r3 S5 q3 =>
      obtain ⟨el, q3⟩ := q3
      cases a with
      | p a =>
        cases a <;> first | exact q3.elim | skip
        cases r3
        rename_i r3
        cases r3
        exact ⟨rfl, W3, _, τ3, (le.trans le2).trans l, .ref (l.at e2), S5, by rw [← el] at q3; exact q3⟩
      | ref => exact q3.elim
      | meth => exact q3.elim
    | new W3 l τ3 q vs n l' r3 S5 q3 => exact q3.2.elim
end VE
namespace VE
open Builtin (bitAnd bitOr bitXor bitNot)
/-- The four flags. -/
structure Fg where
  n : Bool
  v : Bool
  z : Bool
  c : Bool
noncomputable def pI (f : Fg) : Int := 48 + cond f.n 128 0 + cond f.v 64 0 + cond f.z 2 0 + cond f.c 1 0
noncomputable def Fg.nz (f : Fg) (k : Nat) : Fg := ⟨Nat.ble 128 k, f.v, Nat.beq k 0, f.c⟩
/-- A place of the memory changed. -/
noncomputable def upd (m : Nat → Nat) (k v : Nat) : Nat → Nat := fun j => if j = k then v else m j
theorem upd_self {m : Nat → Nat} {k v : Nat} : upd m k v k = v := if_pos rfl
theorem upd_ne {m : Nat → Nat} {k v j : Nat} (h : j ≠ k) : upd m k v j = m j := if_neg h
@[irreducible] noncomputable def ml (L : Nat) (m : Nat → Nat) : List PV := (List.range L).map fun k => .int (m k : Int)
theorem ml_len {L : Nat} {m : Nat → Nat} : (ml L m).length = L := by unfold ml; rw [List.length_map, List.length_range]
theorem ml_at' {L k : Nat} {m : Nat → Nat} (h : k < L) : (ml L m)[k]? = some (.int (m k : Int)) := by unfold ml; rw [List.getElem?_map, List.getElem?_range h]; rfl
theorem ml_at {L k : Nat} {m : Nat → Nat} (h : k < L) : pick (ml L m) (k : Int) = some (.int (m k : Int)) := ml_at' h
theorem ml_atV {L k v : Nat} {m : Nat → Nat} (h : k < L) (e : m k = v) : pick (ml L m) (k : Int) = some (.int (v : Int)) := by subst e; exact ml_at h
theorem ml_set {L k v : Nat} {m : Nat → Nat} (h : k < L) : (ml L m).set k (.int (v : Int)) = ml L (upd m k v) := by
  refine List.ext_getElem? fun j => ?_
  by_cases hj : j < L
  · rw [ml_at' hj]
    by_cases e : j = k
    · subst e; rw [List.getElem?_set_self (by rw [ml_len]; exact h), upd_self]
    · rw [List.getElem?_set_ne (Ne.symm e), ml_at' hj, upd_ne e]
  · rw [List.getElem?_eq_none (by rw [List.length_set, ml_len]; lia), List.getElem?_eq_none (by rw [ml_len]; lia)]
theorem brF {b : Bool} {P Q : Prop} (hb : b = false) (h : Q) : brW b P Q := by subst hb; exact h
theorem brT {b : Bool} {P Q : Prop} (hb : b = true) (h : P) : brW b P Q := by subst hb; exact h
theorem andM {n k : Nat} : bitAnd (n : Int) ((2 ^ k - 1 : Nat) : Int) = ((n % 2 ^ k : Nat) : Int) := by
  show ((n &&& (2 ^ k - 1) : Nat) : Int) = _
  rw [Nat.and_two_pow_sub_one_eq_mod]
theorem and255 {n : Nat} : bitAnd (n : Int) 255 = ((n % 256 : Nat) : Int) := andM (k := 8)
theorem and65535 {n : Nat} : bitAnd (n : Int) 65535 = ((n % 65536 : Nat) : Int) := andM (k := 16)
theorem wrapN {n : Nat} (h : n < 65536) : bitAnd (n : Int) 65535 = (n : Int) := by rw [and65535, Nat.mod_eq_of_lt h]
theorem wrapE {z : Int} {n : Nat} (e : z = (n : Int)) (h : n < 65536) : bitAnd z 65535 = (n : Int) := by rw [e, wrapN h]
theorem iOk {n : Nat} (h : n < 65536) : idxOk (n : Int) := by unfold idxOk; lia
theorem iOkE {z : Int} {n : Nat} (e : z = (n : Int)) (h : n < 65536) : idxOk z := by rw [e]; exact iOk h
theorem stE {L n : Nat} {z : Int} {m : Nat → Nat} (e : z = (n : Int)) (h : n < L) (hL : L ≤ 65536) : (0 : Int) ≤ z ∧ z < ((ml L m).length : Int) ∧ z < 2 ^ 63 := by
  rw [ml_len, e]; lia
theorem ml_setE {L n k : Nat} {z v : Int} {m : Nat → Nat} (e : z = (n : Int)) (ev : v = (k : Int)) (h : n < L) : (ml L m).set z.toNat (.int v) = ml L (upd m n k) := by
  subst e ev; exact ml_set h
theorem intBits_le {i : Int} (h0 : 0 ≤ i) (h : i < 65536) : (Builtin.Int.intBits i : Int) + 8 ≤ 2 ^ 27 := by
  unfold Builtin.Int.intBits
  split
  · decide
  · rename_i q
    have q : i ≠ 0 := by simpa using q
    have : i.natAbs.log2 < 16 := (Nat.log2_lt (by lia)).mpr (by lia)
    lia
theorem bits8 {m : Nat} (h : m < 65536) : (0 : Int) ≤ 8 ∧ (Builtin.Int.intBits (m : Int) : Int) + 8 ≤ 2 ^ 27 := ⟨by decide, intBits_le (by lia) (by lia)⟩
theorem bits1 {m : Nat} (h : m < 65536) : (0 : Int) ≤ 1 ∧ (Builtin.Int.intBits (m : Int) : Int) + 1 ≤ 2 ^ 27 := by
  refine ⟨by decide, ?_⟩
  have := intBits_le (i := (m : Int)) (by lia) (by lia)
  generalize (Builtin.Int.intBits (m : Int) : Int) = w at this ⊢
  have e : (2 : Int) ^ 27 = 134217728 := by decide
  rw [e] at this ⊢
  lia
theorem p8 : (2 : Int) ^ (8 : Int).toNat = 256 := by decide
theorem p1 : (2 : Int) ^ (1 : Int).toNat = 2 := by decide
theorem wadd {l m : Nat} : (l : Int) + (m : Int) * 2 ^ (8 : Int).toNat = ((l + m * 256 : Nat) : Int) := by rw [p8]; lia
theorem hi8 {n : Nat} (h : n < 65536) : bitAnd (bitAnd (Int.fdiv (n : Int) (2 ^ (8 : Int).toNat)) 255) 255 = ((n / 256 : Nat) : Int) := by
  have e : Int.fdiv (n : Int) (2 ^ (8 : Int).toNat) = ((n / 256 : Nat) : Int) := by
    rw [p8, Int.fdiv_eq_ediv_of_nonneg _ (by decide)]; lia
  rw [e, and255, and255]; congr 1; lia
theorem lo8 {n : Nat} : bitAnd (bitAnd (n : Int) 255) 255 = ((n % 256 : Nat) : Int) := by
  rw [and255, and255]; congr 1; lia
theorem and8 {n : Nat} (h : n < 256) : bitAnd (n : Int) 255 = (n : Int) := by rw [and255, Nat.mod_eq_of_lt h]
theorem spd {n : Nat} (h : n + 1 < 256) : bitAnd (((n + 1 : Nat) : Int) - 1) 255 = (n : Int) := by
  have e : (((n + 1 : Nat) : Int) - 1) = (n : Int) := by lia
  rw [e, and8 (by lia)]
theorem spu {n : Nat} (h : n + 1 < 256) : bitAnd ((n : Int) + 1) 255 = ((n + 1 : Nat) : Int) := by
  have e : ((n : Int) + 1) = ((n + 1 : Nat) : Int) := by lia
  rw [e, and8 h]
theorem addE {a b : Nat} : (a : Int) + (b : Int) = ((a + b : Nat) : Int) := by lia
theorem dbl8 {n : Nat} : bitAnd ((n : Int) * 2 ^ (1 : Int).toNat) 255 = ((2 * n % 256 : Nat) : Int) := by
  rw [p1, show (n : Int) * 2 = ((2 * n : Nat) : Int) by lia, and255]
theorem half8 {n : Nat} : Int.fdiv (n : Int) (2 ^ (1 : Int).toNat) = ((n / 2 : Nat) : Int) := by
  rw [p1, Int.fdiv_eq_ediv_of_nonneg _ (by decide)]; lia
/-! Flags. -/
theorem pC (f : Fg) : (bitAnd (pI f) 1 != 0) = f.c := by
  obtain ⟨n, v, z, c⟩ := f; revert n v z c; decide +kernel
theorem pZ (f : Fg) : (bitAnd (pI f) 2 != 0) = f.z := by
  obtain ⟨n, v, z, c⟩ := f; revert n v z c; decide +kernel
theorem pD (f : Fg) : (bitAnd (pI f) 8 != 0) = false := by
  obtain ⟨n, v, z, c⟩ := f; revert n v z c; decide +kernel
theorem pCi (f : Fg) : bitAnd (pI f) 1 = (f.c.toNat : Int) := by
  obtain ⟨n, v, z, c⟩ := f; revert n v z c; decide +kernel
theorem pClc (f : Fg) : bitAnd (pI f) (bitNot 1) = pI ⟨f.n, f.v, f.z, false⟩ := by
  obtain ⟨n, v, z, c⟩ := f; revert n v z c; decide +kernel
theorem pSec (f : Fg) : bitOr (pI f) 1 = pI ⟨f.n, f.v, f.z, true⟩ := by
  obtain ⟨n, v, z, c⟩ := f; revert n v z c; decide +kernel
theorem pNZ0 (f : Fg) : bitAnd (pI f) (bitNot (bitOr 2 128)) = pI ⟨false, f.v, false, f.c⟩ := by
  obtain ⟨n, v, z, c⟩ := f; revert n v z c; decide +kernel
theorem pCNZ0 (f : Fg) : bitAnd (pI f) (bitNot (bitOr (bitOr 1 128) 2)) = pI ⟨false, f.v, false, false⟩ := by
  obtain ⟨n, v, z, c⟩ := f; revert n v z c; decide +kernel
theorem pCZN0 (f : Fg) : bitAnd (pI f) (bitNot (bitOr (bitOr 1 2) 128)) = pI ⟨false, f.v, false, false⟩ := by
  obtain ⟨n, v, z, c⟩ := f; revert n v z c; decide +kernel
theorem pAll0 (f : Fg) : bitAnd (pI f) (bitNot (bitOr (bitOr (bitOr 1 64) 128) 2)) = pI ⟨false, false, false, false⟩ := by
  obtain ⟨n, v, z, c⟩ := f; revert n v z c; decide +kernel
theorem pAll0' (f : Fg) : bitAnd (pI f) (bitNot (bitOr (bitOr (bitOr 1 2) 64) 128)) = pI ⟨false, false, false, false⟩ := by
  obtain ⟨n, v, z, c⟩ := f; revert n v z c; decide +kernel
theorem pSetZ (f : Fg) : bitOr (pI f) 2 = pI ⟨f.n, f.v, true, f.c⟩ := by
  obtain ⟨n, v, z, c⟩ := f; revert n v z c; decide +kernel
theorem pSetCZ (f : Fg) : bitOr (pI f) (bitOr 1 2) = pI ⟨f.n, f.v, true, true⟩ := by
  obtain ⟨n, v, z, c⟩ := f; revert n v z c; decide +kernel
theorem and128 : ∀ k : Nat, k < 256 → bitAnd (k : Int) 128 = cond (Nat.ble 128 k) 128 0 := by decide +kernel
theorem and1 {k : Nat} : bitAnd (k : Int) 1 = ((k % 2 : Nat) : Int) := andM (k := 1)
theorem pOr128 (f : Fg) (b : Bool) : bitOr (pI f) (cond b 128 0) = pI ⟨f.n || b, f.v, f.z, f.c⟩ := by
  obtain ⟨n, v, z, c⟩ := f; revert n v z c b; decide +kernel
theorem pOrN {f : Fg} {k : Nat} (h : k < 256) (hn : f.n = false) : bitOr (pI f) (bitAnd (k : Int) 128) = pI ⟨Nat.ble 128 k, f.v, f.z, f.c⟩ := by
  rw [and128 k h, pOr128, hn, Bool.false_or]
theorem pOr1 (f : Fg) {k : Nat} (hc : f.c = false) : bitOr (pI f) (bitAnd (k : Int) 1) = pI ⟨f.n, f.v, f.z, Nat.beq (k % 2) 1⟩ := by
  rw [and1]
  rcases Nat.mod_two_eq_zero_or_one k with h | h <;> rw [h]
  · obtain ⟨n, v, z, c⟩ := f; cases hc; revert n v z; decide +kernel
  · obtain ⟨n, v, z, c⟩ := f; cases hc; revert n v z; decide +kernel
theorem t128 {k : Nat} (h : k < 256) : (bitAnd (k : Int) 128 != 0) = Nat.ble 128 k := by
  rw [and128 k h]; cases Nat.ble 128 k <;> rfl
theorem t1 {k : Nat} : (bitAnd (k : Int) 1 != 0) = Nat.beq (k % 2) 1 := by
  rw [and1]
  rcases Nat.mod_two_eq_zero_or_one k with h | h <;> rw [h] <;> rfl
theorem tk {k : Nat} : ((k : Int) != 0) = !(Nat.beq k 0) := by
  cases k with
  | zero => rfl
  | succ k => rfl
theorem te {k : Nat} : ((k : Int) == 0) = Nat.beq k 0 := by
  cases k with
  | zero => rfl
  | succ k => rfl
theorem not8 : ∀ k : Nat, k < 256 → bitAnd (bitNot (k : Int)) 255 = ((255 - k : Nat) : Int) := by decide +kernel
theorem xor255 : ∀ k : Nat, k < 256 → bitXor (k : Int) 255 = ((255 - k : Nat) : Int) := by decide +kernel
end VE
namespace VE
open Builtin (bitAnd bitOr bitXor bitNot)
theorem brB {b : Bool} {P Q : Prop} (h : b = true → P) (h' : b = false → Q) : brW b P Q := by
  cases b with
  | true => exact h rfl
  | false => exact h' rfl
/-! ADC and SBC. -/
noncomputable def adQ (f : Fg) (V C : Bool) : Int := cond C (bitOr (cond V (bitOr (bitAnd (pI f) (bitNot (bitOr (bitOr (bitOr 1 64) 128) 2))) 64) (bitAnd (pI f) (bitNot (bitOr (bitOr (bitOr 1 64) 128) 2)))) 1) (cond V (bitOr (bitAnd (pI f) (bitNot (bitOr (bitOr (bitOr 1 64) 128) 2))) 64) (bitAnd (pI f) (bitNot (bitOr (bitOr (bitOr 1 64) 128) 2))))
theorem adQ_eq (f : Fg) (V C : Bool) : adQ f V C = pI ⟨false, V, false, C⟩ := by
  unfold adQ
  rw [pAll0]
  cases V <;> cases C <;> decide +kernel
theorem adc_z {f : Fg} {V C : Bool} {dt : Nat} (hz : Nat.beq dt 0 = true) : bitOr (adQ f V C) 2 = pI ⟨Nat.ble 128 dt, V, Nat.beq dt 0, C⟩ := by
  have := Nat.eq_of_beq_eq_true hz
  subst this
  rw [adQ_eq, pSetZ]; rfl
theorem adc_n {f : Fg} {V C : Bool} {dt : Nat} (h : dt < 256) (hz : Nat.beq dt 0 = false) : bitOr (adQ f V C) (bitAnd (dt : Int) 128) = pI ⟨Nat.ble 128 dt, V, Nat.beq dt 0, C⟩ := by
  rw [adQ_eq, pOrN h rfl, hz]
/-- The overflow that ADC tells. -/
noncomputable def ovA (a z c : Nat) : Bool := bitAnd (bitAnd (bitNot (bitXor (a : Int) (z : Int))) (bitXor (a : Int) ((z + a + c : Nat) : Int))) 128 != 0
noncomputable def ovS (a z c : Nat) : Bool := bitAnd (bitAnd (bitXor (a : Int) (z : Int)) (bitXor (a : Int) ((a + (255 - z) + c : Nat) : Int))) 128 != 0
theorem gt255 {r : Nat} : decide ((r : Int) > 255) = Nat.blt 255 r := by
  cases h : Nat.blt 255 r with
  | true =>
    have : Nat.ble 256 r = true := h
    have := Nat.le_of_ble_eq_true this
    exact decide_eq_true (by lia)
  | false =>
    have h : Nat.ble 256 r = false := h
    refine decide_eq_false fun g => ?_
    have : Nat.ble 256 r = true := Nat.ble_eq_true_of_le (by lia)
    rw [h] at this; cases this
noncomputable def Fg.ad (f : Fg) (V : Bool) (r : Nat) : Fg := ⟨Nat.ble 128 (r % 256), V, Nat.beq (r % 256) 0, Nat.blt 255 r⟩
theorem blt_lt {r : Nat} (h : Nat.blt 255 r = false) : r < 256 := by
  have h : Nat.ble 256 r = false := h
  rcases Nat.lt_or_ge r 256 with g | g
  · exact g
  · rw [Nat.ble_eq_true_of_le g] at h; cases h
noncomputable def sbQ (f : Fg) (V Zb C : Bool) : Int := cond C (bitOr (cond Zb (bitOr (cond V (bitOr (bitAnd (pI f) (bitNot (bitOr (bitOr (bitOr 1 2) 64) 128))) 64) (bitAnd (pI f) (bitNot (bitOr (bitOr (bitOr 1 2) 64) 128)))) 2) (cond V (bitOr (bitAnd (pI f) (bitNot (bitOr (bitOr (bitOr 1 2) 64) 128))) 64) (bitAnd (pI f) (bitNot (bitOr (bitOr (bitOr 1 2) 64) 128))))) 1)
  (cond Zb (bitOr (cond V (bitOr (bitAnd (pI f) (bitNot (bitOr (bitOr (bitOr 1 2) 64) 128))) 64) (bitAnd (pI f) (bitNot (bitOr (bitOr (bitOr 1 2) 64) 128)))) 2) (cond V (bitOr (bitAnd (pI f) (bitNot (bitOr (bitOr (bitOr 1 2) 64) 128))) 64) (bitAnd (pI f) (bitNot (bitOr (bitOr (bitOr 1 2) 64) 128)))))
theorem sbQ_eq (f : Fg) (V Zb C : Bool) : sbQ f V Zb C = pI ⟨false, V, Zb, C⟩ := by
  unfold sbQ
  rw [pAll0']
  cases V <;> cases Zb <;> cases C <;> decide +kernel
theorem sbc_n {f : Fg} {V Zb C : Bool} {r : Nat} (hz : Nat.beq (r % 256) 0 = Zb) (hc : Nat.blt 255 r = C) : bitOr (sbQ f V Zb C) (bitAnd ((r % 256 : Nat) : Int) 128) = pI (f.ad V r) := by
  rw [sbQ_eq, pOrN (Nat.mod_lt _ (by decide)) rfl]
  unfold Fg.ad
  rw [hz, hc]
/-! CMP. -/
theorem neg128 : ∀ d : Nat, d < 256 → bitAnd (-((d : Int) + 1)) 128 = cond (Nat.ble 128 (255 - d)) 128 0 := by decide +kernel
theorem sub128 {r t : Nat} (h : r < 256) (ht : t < 256) : bitAnd ((r : Int) - (t : Int)) 128 = cond (Nat.ble 128 ((r + 256 - t) % 256)) 128 0 := by
  rcases Nat.lt_or_ge r t with g | g
  · have e : (r : Int) - (t : Int) = -(((t - r - 1 : Nat) : Int) + 1) := by lia
    have e2 : (r + 256 - t) % 256 = 255 - (t - r - 1) := by lia
    rw [e, neg128 _ (by lia), e2]
  · have e : (r : Int) - (t : Int) = ((r - t : Nat) : Int) := by lia
    have e2 : (r + 256 - t) % 256 = r - t := by lia
    rw [e, and128 _ (by lia), e2]
noncomputable def Fg.cp (f : Fg) (r t : Nat) : Fg := ⟨Nat.ble 128 ((r + 256 - t) % 256), f.v, Nat.beq r t, Nat.ble t r⟩
theorem cmp_p {g : Fg} {r t : Nat} (h : r < 256) (ht : t < 256) (hn : g.n = false) : bitOr (pI g) (bitAnd ((r : Int) - (t : Int)) 128) = pI ⟨Nat.ble 128 ((r + 256 - t) % 256), g.v, g.z, g.c⟩ := by
  rw [sub128 h ht, pOr128, hn, Bool.false_or]
theorem eqN {r t : Nat} : ((r : Int) == (t : Int)) = Nat.beq r t := by
  cases h : Nat.beq r t with
  | true => rw [Nat.eq_of_beq_eq_true h]; exact beq_self_eq_true _
  | false =>
    refine beq_false_of_ne fun e => ?_
    have e : r = t := by lia
    rw [e] at h
    rw [show Nat.beq t t = true from Nat.beq_refl t] at h
    cases h
theorem gtN {r t : Nat} : decide ((r : Int) > (t : Int)) = Nat.blt t r := by
  cases h : Nat.blt t r with
  | true =>
    have := Nat.le_of_ble_eq_true (show Nat.ble (t + 1) r = true from h)
    exact decide_eq_true (by lia)
  | false =>
    refine decide_eq_false fun g => ?_
    have : Nat.ble (t + 1) r = true := Nat.ble_eq_true_of_le (by lia)
    rw [show Nat.ble (t + 1) r = false from h] at this; cases this
theorem ble_of_eq {r t : Nat} (h : Nat.beq r t = true) : Nat.ble t r = true := by rw [Nat.eq_of_beq_eq_true h]; exact Nat.ble_eq_true_of_le (Nat.le_refl _)
theorem ble_of_blt {r t : Nat} (h : Nat.blt t r = true) : Nat.ble t r = true := Nat.ble_eq_true_of_le (Nat.le_of_succ_le (Nat.le_of_ble_eq_true (show Nat.ble (t + 1) r = true from h)))
theorem ble_no {r t : Nat} (h : Nat.blt t r = false) (h' : Nat.beq r t = false) : Nat.ble t r = false := by
  cases g : Nat.ble t r with
  | false => rfl
  | true =>
    have g := Nat.le_of_ble_eq_true g
    have h1 : ¬ t + 1 ≤ r := fun q => by rw [show Nat.blt t r = true from Nat.ble_eq_true_of_le q] at h; cases h
    have : r = t := by lia
    rw [this, show Nat.beq t t = true from Nat.beq_refl t] at h'
    cases h'
/-! Shifts. -/
noncomputable def Fg.sh (f : Fg) (k : Nat) (c : Bool) : Fg := ⟨Nat.ble 128 k, f.v, Nat.beq k 0, c⟩
theorem inc8 {k : Nat} : bitAnd ((k : Int) + 1) 255 = (((k + 1) % 256 : Nat) : Int) := by
  rw [show (k : Int) + 1 = ((k + 1 : Nat) : Int) by lia, and255]
theorem or1' : ∀ k : Nat, k < 256 → bitOr ((2 * k : Nat) : Int) 1 = ((2 * k + 1 : Nat) : Int) := by decide +kernel
theorem or1 {k : Nat} (h : k < 256) : bitOr ((k : Int) * 2 ^ (1 : Int).toNat) 1 = ((2 * k + 1 : Nat) : Int) := by
  rw [p1, show (k : Int) * 2 = ((2 * k : Nat) : Int) by lia]
  exact or1' k h
theorem or128 : ∀ k : Nat, k < 128 → bitOr (k : Int) 128 = ((k + 128 : Nat) : Int) := by decide +kernel
end VE
namespace VE
open Builtin (bitAnd bitOr bitXor bitNot)
theorem adc_end {f : Fg} {a z c : Nat} {rI dI : Int} {V C Zb : Bool} (er : rI = ((z + a + c : Nat) : Int)) (hV : (bitAnd (bitAnd (bitNot (bitXor (a : Int) (z : Int))) (bitXor (a : Int) rI)) 128 != 0) = V) (hg : decide (rI > 255) = C) (ed : dI = cond C (bitAnd rI 255) rI) (hz : (dI == 0) = Zb) :
    dI = (((z + a + c) % 256 : Nat) : Int) ∧ cond Zb (bitOr (adQ f V C) 2) (bitOr (adQ f V C) (bitAnd dI 128)) = pI (f.ad (ovA a z c) (z + a + c)) := by
  subst er
  rw [gt255] at hg
  have e1 : dI = (((z + a + c) % 256 : Nat) : Int) := by
    subst ed
    cases C with
    | true => exact and255
    | false => show ((z + a + c : Nat) : Int) = _; rw [Nat.mod_eq_of_lt (blt_lt hg)]
  refine ⟨e1, ?_⟩
  have hV : ovA a z c = V := hV
  subst e1
  rw [te] at hz
  unfold Fg.ad
  rw [hV, hg]
  cases Zb with
  | true => exact adc_z hz
  | false => exact adc_n (Nat.mod_lt _ (by decide)) hz
theorem sbc_end {f : Fg} {a z c : Nat} {rI : Int} {V C Zb : Bool} (er : rI = ((a + (255 - z) + c : Nat) : Int)) (hV : (bitAnd (bitAnd (bitXor (a : Int) (z : Int)) (bitXor (a : Int) rI)) 128 != 0) = V) (hz : (bitAnd rI 255 == 0) = Zb) (hg : decide (rI > 255) = C) :
    bitAnd rI 255 = (((a + (255 - z) + c) % 256 : Nat) : Int) ∧ bitOr (sbQ f V Zb C) (bitAnd (bitAnd rI 255) 128) = pI (f.ad (ovS a z c) (a + (255 - z) + c)) := by
  subst er
  rw [gt255] at hg
  have hV : ovS a z c = V := hV
  rw [and255, te] at hz
  rw [and255]
  refine ⟨rfl, ?_⟩
  rw [hV]
  exact sbc_n hz hg
theorem cmp_1 {f : Fg} {r t : Nat} (h : r < 256) (ht : t < 256) (h1 : ((r : Int) == (t : Int)) = true) : bitOr (bitOr (bitAnd (pI f) (bitNot (bitOr (bitOr 1 2) 128))) (bitOr 1 2)) (bitAnd ((r : Int) - (t : Int)) 128) = pI (f.cp r t) := by
  rw [eqN] at h1
  rw [pCZN0, pSetCZ, cmp_p h ht rfl]
  unfold Fg.cp
  rw [h1, ble_of_eq h1]
theorem cmp_2 {f : Fg} {r t : Nat} (h : r < 256) (ht : t < 256) (h1 : ((r : Int) == (t : Int)) = false) (h2 : decide ((r : Int) > (t : Int)) = true) : bitOr (bitOr (bitAnd (pI f) (bitNot (bitOr (bitOr 1 2) 128))) 1) (bitAnd ((r : Int) - (t : Int)) 128) = pI (f.cp r t) := by
  rw [eqN] at h1
  rw [gtN] at h2
  rw [pCZN0, pSec, cmp_p h ht rfl]
  unfold Fg.cp
  rw [h1, ble_of_blt h2]
theorem cmp_3 {f : Fg} {r t : Nat} (h : r < 256) (ht : t < 256) (h1 : ((r : Int) == (t : Int)) = false) (h2 : decide ((r : Int) > (t : Int)) = false) : bitOr (bitAnd (pI f) (bitNot (bitOr (bitOr 1 2) 128))) (bitAnd ((r : Int) - (t : Int)) 128) = pI (f.cp r t) := by
  rw [eqN] at h1
  rw [gtN] at h2
  rw [pCZN0, cmp_p h ht rfl]
  unfold Fg.cp
  rw [h1, ble_no h2 h1]
theorem asl_end {f : Fg} {t : Nat} {T1 T2 : Bool} (h : t < 256) (h1 : (bitAnd (t : Int) 128 != 0) = T1) (h2 : (bitAnd ((t : Int) * 2 ^ (1 : Int).toNat) 255 != 0) = T2) :
    cond T2 (bitOr (cond T1 (bitOr (bitAnd (pI f) (bitNot (bitOr (bitOr 1 128) 2))) 1) (bitAnd (pI f) (bitNot (bitOr (bitOr 1 128) 2)))) (bitAnd (bitAnd ((t : Int) * 2 ^ (1 : Int).toNat) 255) 128)) (bitOr (cond T1 (bitOr (bitAnd (pI f) (bitNot (bitOr (bitOr 1 128) 2))) 1) (bitAnd (pI f) (bitNot (bitOr (bitOr 1 128) 2)))) 2) = pI (f.sh (2 * t % 256) (Nat.ble 128 t)) := by
  rw [t128 h] at h1
  rw [dbl8, tk] at h2
  rw [dbl8, pCNZ0]
  have hp : cond T1 (bitOr (pI ⟨false, f.v, false, false⟩) 1) (pI ⟨false, f.v, false, false⟩) = pI ⟨false, f.v, false, T1⟩ := by
    cases T1
    · rfl
    · exact pSec _
  rw [hp, h1]
  unfold Fg.sh
  cases T2 with
  | true =>
    have : Nat.beq (2 * t % 256) 0 = false := by simpa using h2
    show bitOr _ _ = _
    rw [pOrN (Nat.mod_lt _ (by decide)) rfl, this]
  | false =>
    have : Nat.beq (2 * t % 256) 0 = true := by simpa using h2
    show bitOr _ _ = _
    rw [pSetZ, this, Nat.eq_of_beq_eq_true this]; rfl
theorem lsr_end {f : Fg} {t : Nat} {T2 : Bool} (h : t < 256) (h2 : (Int.fdiv (t : Int) (2 ^ (1 : Int).toNat) != 0) = T2) :
    cond T2 (bitOr (bitAnd (pI f) (bitNot (bitOr (bitOr 1 128) 2))) (bitAnd (t : Int) 1)) (bitOr (bitOr (bitAnd (pI f) (bitNot (bitOr (bitOr 1 128) 2))) (bitAnd (t : Int) 1)) 2) = pI (f.sh (t / 2) (Nat.beq (t % 2) 1)) := by
  rw [half8, tk] at h2
  rw [pCNZ0, pOr1 _ rfl]
  have hb : Nat.ble 128 (t / 2) = false := by
    cases q : Nat.ble 128 (t / 2) with
    | false => rfl
    | true => have := Nat.le_of_ble_eq_true q; lia
  unfold Fg.sh
  rw [hb]
  cases T2 with
  | true =>
    have : Nat.beq (t / 2) 0 = false := by simpa using h2
    rw [this]; rfl
  | false =>
    have : Nat.beq (t / 2) 0 = true := by simpa using h2
    rw [this]; exact pSetZ _
theorem incdec_end {f : Fg} {t : Nat} {vI : Int} {T2 : Bool} (h : t < 256) (e : vI = (t : Int)) (h2 : (vI != 0) = T2) :
    cond T2 (bitOr (bitAnd (pI f) (bitNot (bitOr 2 128))) (bitAnd vI 128)) (bitOr (bitAnd (pI f) (bitNot (bitOr 2 128))) 2) = pI (f.nz t) := by
  subst e
  rw [tk] at h2
  rw [pNZ0]
  unfold Fg.nz
  cases T2 with
  | true =>
    have : Nat.beq t 0 = false := by simpa using h2
    show bitOr _ _ = _
    rw [pOrN h rfl, this]
  | false =>
    have : Nat.beq t 0 = true := by simpa using h2
    show bitOr _ _ = _
    rw [pSetZ, this, Nat.eq_of_beq_eq_true this]; rfl
/-! The carry of ROL and ROR, as it is kept. -/
theorem rl_1 {f : Fg} (hc : f.c = true) {b : Bool} : cond b (pI f) (bitAnd (pI f) (bitNot 1)) = pI ⟨f.n, f.v, f.z, b⟩ := by
  cases b with
  | true => obtain ⟨n, v, z, c⟩ := f; cases hc; rfl
  | false => exact pClc f
theorem rl_0 {f : Fg} (hc : f.c = false) {b : Bool} : cond b (bitOr (pI f) 1) (pI f) = pI ⟨f.n, f.v, f.z, b⟩ := by
  cases b with
  | true => exact pSec f
  | false => obtain ⟨n, v, z, c⟩ := f; cases hc; rfl
end VE
namespace VE
variable {N : Nat → Str} {Z : Stc} {G : Gl N Z} {cs : Scope} {Φ : Cx G cs} {W : Wd} {τ : VS} {s : Shared} {x : List (Addr × Obj)}
/-- A part of a slice. -/
noncomputable abbrev WP := Calls → VS → (Option Int → VS → Prop) → Prop
inductive RP (Φ : Cx G cs) (W : Wd) (x : List (Addr × Obj)) (Q : Option Int → VS → Prop) (v : Value) (s : Shared) : Prop where
  | mk (W' : Wd) (i : Option Int) (τ : VS) (le : W.le W') (r : IsPart v i) (S : SimX Φ W' τ x s) (q : Q i τ)
noncomputable def SP (G : Gl N Z) (cs : Scope) (e : Option Expr) (w : WP) : Prop := ∀ (Φ : Cx G cs) C, CallsOk G Φ.A.depth C → ∀ W τ x s Q, SimX Φ W τ x s → w C τ Q → wpAny Φ.M Φ.A (evalPart e Φ.env) (RP Φ W x Q) (fun _ _ => False) s
noncomputable abbrev wP0 : WP := fun _ τ Q => Q none τ
theorem SP_none : SP G cs none wP0 := fun Φ C ok W τ x s Q S q => wpAny_pure ⟨W, none, τ, .refl W, .none, S, q⟩
noncomputable abbrev intV (v : VV) (Q : Int → Prop) : Prop := match v with
  | .p (.int i) => Q i
  | _ => False
noncomputable abbrev wP (w : WE) : WP := fun C τ Q => w C τ fun v τ' => intV v fun i => Q (some i) τ'
theorem SP_some {e : Expr} {w : WE} (h : SE G cs e w) : SP G cs (some e) (wP w) := fun Φ C ok W τ x s Q S q => by
  rw [evalPart_some]
  refine h.go ok S q fun W1 v τ1 c s1 le r S1 q1 => ?_
  unfold intV at q1
  split at q1
  · obtain ⟨t, rfl⟩ := r.int
    exact ⟨W1, _, τ1, le, .int _ t, S1, q1⟩
  · exact q1.elim
noncomputable def cutW (l : List PV) (i j : Option Int) (Q : List PV → Prop) : Prop := match i, j with
  | none, none => Q l
  | none, some j => 0 ≤ j ∧ Q (l.take j.toNat)
  | some i, none => 0 ≤ i ∧ Q (l.drop i.toNat)
  | some i, some j => (0 ≤ i ∧ i ≤ j ∧ j ≤ l.length) ∧ Q ((l.drop i.toNat).take (j.toNat - i.toNat))
theorem cutW_ex {F : Addr → Obj → Prop} {l : List PV} {vs : List Value} {i j : Option Int} {Q : List PV → Prop} (p : PRepL F l vs) (h : cutW l i j Q) : ∃ r, PRepL F r (slicePick vs.toArray i j none).toList ∧ Q r := by
  unfold cutW at h
  split at h
  · exact ⟨l, by rw [slicePick_all]; exact p, h⟩
  · obtain ⟨n, rfl⟩ := Int.eq_ofNat_of_zero_le h.1
    exact ⟨_, by rw [slicePick_upto']; exact p.take _, h.2⟩
  · obtain ⟨n, rfl⟩ := Int.eq_ofNat_of_zero_le h.1
    exact ⟨_, by rw [slicePick_from']; exact p.drop _, h.2⟩
  · obtain ⟨⟨h1, h2, h3⟩, q⟩ := h
    obtain ⟨n, rfl⟩ := Int.eq_ofNat_of_zero_le h1
    obtain ⟨m, rfl⟩ := Int.eq_ofNat_of_zero_le (Int.le_trans h1 h2)
    exact ⟨_, by rw [slicePick_run _ _ _ (by rw [List.size_toArray, p.length]; lia) (by lia)]; exact (p.drop _).take _, q⟩
noncomputable def sliW (hp : List VO) (v : VV) (i j : Option Int) (Q : List PV → Prop) : Prop := ∃ l, asL hp v = some l ∧ l.length ≤ sizeLine ∧ cutW l i j Q
noncomputable abbrev wSli (w : WE) (a b : WP) : W0 := fun C τ Q => w C τ fun v τ1 => a C τ1 fun i τ2 => b C τ2 fun j τ3 => sliW τ3.hp v i j fun l => Q (.new l) τ3
theorem S0_slice {value : Expr} {lo hi : Option Expr} {p pos : Pos} {w : WE} {a b : WP} (h : SE G cs value w) (ha : SP G cs lo a) (hb : SP G cs hi b) : S0 G cs (.Subscript value (.Slice lo hi none p) pos) (wSli w a b) := fun Φ C ok W τ x s Q S q =>
  Subscript_ (h.go ok S q fun W1 v τ1 c s1 le1 r1 S1 q1 => wpAny_Slice (wpAny_mono (ha Φ C ok W1 τ1 x s1 _ S1 q1) (fun vl s2 y => by
    obtain ⟨W2, i, τ2, le2, pi, S2, q2⟩ := y
    refine wpAny_mono (hb Φ C ok W2 τ2 x s2 _ S2 q2) (fun vu s3 y => ?_) fun _ _ y => y
    obtain ⟨W3, j, τ3, le3, pj, S3, l, e, hz, q3⟩ := y
    obtain ⟨y, vs, rfl, hl, p⟩ := S3.asL (r1.mono (le2.trans le3)) e
    obtain ⟨r, pr, q4⟩ := cutW_ex p q3
    refine wpAny_pure ?_
    refine tail_any (T := "list") (Heap.IsList.typeIs (s := { s3 with heap := s3.heap.push { cls := .type "slice", data := .fields #[vl, vu, .none] } }) (hl.push _)) slot_list_getitem.lookup
      (wpAny_getItem_list_slice (hl.push _) (Heap.IsSliceOf.new ..) pi pj .none (by simp) ?_ (by rw [List.size_toArray, p.length]; exact hz)) rfl
    have S4 := (S3.new (h' := s3.heap.push { cls := .type "slice", data := .fields #[vl, vu, .none] }) (t := s3.toks) (fun _ _ e => Heap.get?_push_of_some _ e) (Heap.get?_none_of_le (Nat.le_refl _)) (Heap.get?_push_size _ rfl)).forget
    have S5 := S4.new (h' := (s3.heap.push { cls := .type "slice", data := .fields #[vl, vu, .none] }).push { cls := .type "list", data := .seq (slicePick vs.toArray i j none) }) (t := s3.toks) (fun _ _ e => Heap.get?_push_of_some _ e) (Heap.get?_none_of_le (Nat.le_refl _)) (Heap.get?_push_size _ rfl)
    exact .new W3 r τ3 _ (slicePick vs.toArray i j none).toList 0 ((le1.trans le2).trans le3) pr S5 q4) fun _ _ y => y))
end VE
namespace VE
variable {N : Nat → Str} {Z : Stc} {G : Gl N Z} {cs : Scope} {Φ : Cx G cs} {W : Wd} {τ : VS} {s : Shared} {x : List (Addr × Obj)}
/-- A heap of which only some places are looked at. -/
noncomputable def restr (h : Heap) (p : Addr → Bool) : Heap := hideAll h ((List.range h.objs.size).filter fun b => !p b)
theorem restr_of {h : Heap} {p : Addr → Bool} {b : Addr} {o : Obj} (e : (restr h p).get? b = some o) : p b = true ∧ h.get? b = some o := by
  have e1 := of_hideAll _ e
  refine ⟨?_, e1⟩
  cases hp : p b with
  | true => rfl
  | false =>
    have : b ∈ (List.range h.objs.size).filter fun b => !p b := List.mem_filter.mpr ⟨List.mem_range.mpr (Heap.lt_size e1), by rw [hp]; rfl⟩
    have n := hideAll_none _ (h := h) this
    unfold restr at e
    rw [n] at e; cases e
theorem restr_get {h : Heap} {p : Addr → Bool} {b : Addr} {o : Obj} (hp : p b = true) (e : h.get? b = some o) : (restr h p).get? b = some o :=
  hideAll_get _ e fun hm => by
    have := (List.mem_filter.mp hm).2
    rw [hp] at this; cases this
theorem restr_size {h : Heap} {p : Addr → Bool} : (restr h p).objs.size = h.objs.size := hideAll_size _ _
/-- What a comprehension's block reads of the frame's cells. -/
noncomputable def clL (cells : List (Str × Addr)) : List (Str × NameKind) → List (Str × Addr) → List (Str × Addr)
  | [], acc => acc
  | (n, k) :: r, acc => match k == .free, cells.lookup n with
    | true, some a => clL cells r ((n, a) :: acc)
    | _, _ => clL cells r acc
theorem closure_is {env : Env} {names : List (Str × NameKind)} (h : ∀ p ∈ names, p.2 = .free → ∃ a, env.cells.lookup p.1 = some a) : ∀ acc : List (Str × Addr),
    (forIn names acc (fun (x : Str × NameKind) (r : List (Str × Addr)) => (match x with
      | (name, kind) => if (kind == .free) = true then (do let y ← cellOf env name; pure (ForInStep.yield ((name, y) :: r))) else pure (ForInStep.yield r) : Sem (ForInStep (List (Str × Addr)))))) = (pure (clL env.cells names acc) : Sem (List (Str × Addr))) := by
  induction names with
  | nil => intro acc; rfl
  | cons p r ih =>
    intro acc
    obtain ⟨n, k⟩ := p
    have ih := ih fun p hp => h p (.tail _ hp)
    rw [List.forIn_cons]
    cases hk : k == NameKind.free with
    | true =>
      obtain ⟨a, ha⟩ := h (n, k) (.head _) (beq_iff_eq.mp hk)
      simp only [clL, hk, ha, if_true]
      unfold cellOf
      rw [ha]
      exact ih _
    | false =>
      simp only [clL, hk, Bool.false_eq_true, if_false]
      exact ih _
theorem closureFor_is {scope : Scope} {env : Env} (h : ∀ p ∈ scope.names, p.2 = .free → ∃ a, env.cells.lookup p.1 = some a) : closureFor scope env = pure (clL env.cells scope.names []) := by
  unfold closureFor
  have := closure_is h []
  exact (congrArg (· >>= fun cs => pure cs) this).trans rfl
theorem clL_lookup {cells : List (Str × Addr)} {n : Str} {a : Addr} (ha : cells.lookup n = some a) : ∀ {names : List (Str × NameKind)} {acc : List (Str × Addr)}, (∀ b, acc.lookup n = some b → b = a) → ((n, NameKind.free) ∈ names ∨ acc.lookup n = some a) → (clL cells names acc).lookup n = some a := by
  intro names
  induction names with
  | nil => intro acc _ h; rcases h with h | h; · cases h
           exact h
  | cons p r ih =>
    intro acc hc h
    obtain ⟨m, k⟩ := p
    simp only [clL]
    cases hk : k == NameKind.free with
    | false =>
      refine ih hc ?_
      rcases h with h | h
      · rcases List.mem_cons.mp h with q | q
        · cases q; cases hk
        · exact .inl q
      · exact .inr h
    | true =>
      cases hm : cells.lookup m with
      | none =>
        refine ih hc ?_
        rcases h with h | h
        · rcases List.mem_cons.mp h with q | q
          · cases q; rw [ha] at hm; cases hm
          · exact .inl q
        · exact .inr h
      | some b =>
        dsimp only
        by_cases e : n = m
        · subst e
          rw [ha] at hm; cases hm
          exact ih (fun b hb => by simp [List.lookup] at hb; exact hb.symm) (.inr (by simp [List.lookup]))
        · have ne : (n == m) = false := beq_eq_false_iff_ne.mpr e
          refine ih (fun b hb => by simp only [List.lookup, ne] at hb; exact hc b hb) ?_
          rcases h with h | h
          · rcases List.mem_cons.mp h with q | q
            · cases q; exact absurd rfl e
            · exact .inl q
          · exact .inr (by simp only [List.lookup, ne]; exact h)
noncomputable def pickN (loc : List (Nat × VV)) : List Nat → Option (List (Nat × VV))
  | [] => some []
  | k :: r => match getN k loc, pickN loc r with
    | some v, some l => some ((k, v) :: l)
    | _, _ => none
theorem pickN_has {loc : List (Nat × VV)} : ∀ {fv : List Nat} {b : List (Nat × VV)}, pickN loc fv = some b → (∀ k ∈ fv, ∃ v, getN k loc = some v) ∧ ∀ k v, getN k b = some v → k ∈ fv ∧ getN k loc = some v := by
  intro fv
  induction fv with
  | nil => intro b h; cases h; exact ⟨fun k hk => (nomatch hk), fun k v e => by cases e⟩
  | cons k r ih =>
    intro b h
    simp only [pickN] at h
    split at h
    · rename_i v l e1 e2
      cases h
      obtain ⟨h1, h2⟩ := ih e2
      refine ⟨fun j hj => ?_, fun j u e => ?_⟩
      · rcases List.mem_cons.mp hj with rfl | hj
        · exact ⟨v, e1⟩
        · exact h1 j hj
      · simp only [getN] at e
        cases hk : Nat.beq j k with
        | true => rw [hk] at e; cases e; rw [Nat.eq_of_beq_eq_true hk]; exact ⟨.head _, e1⟩
        | false => rw [hk] at e; obtain ⟨a, b⟩ := h2 j u e; exact ⟨.tail _ a, b⟩
    · cases h
end VE
namespace VE
variable {N : Nat → Str} {Z : Stc} {G : Gl N Z} {cs : Scope} {Φ : Cx G cs} {W : Wd} {τ : VS} {s : Shared} {x : List (Addr × Obj)}
theorem comp_loop {elt target iter : Expr} {scope : Scope} {pos : Pos} {it acc : Value} {env : Env} {R : Result → Shared → Prop} {s : Shared} (I : Nat → Shared → Prop)
    (turn : ∀ n s, I n s → wpAny Φ.M Φ.A (pyNext it) (fun r s₁ => match r with
      | none => R (.ok .next) s₁
      | some v => wpAny Φ.M Φ.A (letOwnedTupleGo target it v) (fun _ s₀ => wpAny Φ.M Φ.A (assign target env v) (fun _ s₂ =>
          wpAny Φ.M Φ.A (eval elt env) (fun x s₄ => wpAny Φ.M Φ.A (call (.builtin "list.append") [acc, x]) (fun _ s₅ => ∃ m, m < n ∧ I m s₅) (fun _ _ => False) s₄) (fun _ _ => False) s₂) (fun _ _ => False) s₀) (fun _ _ => False) s₁) (fun _ _ => False) s)
    (n : Nat) (h : I n s) : codeAny Φ.M Φ.A (.compLoop (.ListComp elt [⟨target, iter, [], 0⟩] scope pos) 0 it acc env) R s := by
  have no : ∀ {α : Type} {t : Sem α} {P P' : α → Shared → Prop} {E : Value → Shared → Prop} {s : Shared}, wpAny Φ.M Φ.A t P (fun _ _ => False) s → (∀ a s', P a s' → P' a s') → wpAny Φ.M Φ.A t P' E s := fun h k => wpAny_mono h k fun _ _ x => x.elim
  refine codeAny_loop rfl I (fun n s hI => ?_) n h
  show wpAny _ _ ((compTurn (.ListComp elt [⟨target, iter, [], 0⟩] scope pos) 0 it acc env).onRaise (fun x => do noteFrame x env; theTreesLotGoes x)) _ _ s
  refine wpAny_noted ?_
  rw [compTurn_list1]
  refine wpAny_bind (wpAny_standAt (wpAny_bind (no (turn n s hI) fun r s₁ h₁ => ?_)))
  cases r with
  | none => exact wpAny_pure h₁
  | some v =>
    refine wpAny_bind (no h₁ fun _ s₀ h₀ => wpAny_bind (no h₀ fun _ s₂ h₂ => ?_))
    exact wpAny_bind (wpAny_bind (no h₂ fun x s₄ h₄ => wpAny_bind (no h₄ fun _ s₅ h₅ => wpAny_pure (wpAny_pure ⟨rfl, h₅⟩))))
/-- The scope of a comprehension's block within a scope. -/
noncomputable def relC (scope cs : Scope) : Scope := { scope with names := scope.names.map fun (n, k) => if (k == .free && cs.kind == .function && cs.names.lookup n == some .cell) then (n, .cell) else (n, k) }
/-- A comprehension's turns. -/
noncomputable def compW (tgt : PV → VS → (VS → Prop) → Prop) (elt : VS → (VV → VS → Prop) → Prop) (hp : List VO) (base : List (Nat × VV)) (Q : List PV → Prop) : List PV → List PV → Prop
  | [], acc => Q acc
  | v :: r, acc => tgt v ⟨base, hp⟩ fun τ1 => elt τ1 fun u τ2 => τ2.hp = hp ∧ match u with
    | .p z => compW tgt elt hp base Q r (acc ++ [z])
    | _ => False
structure CompOk (N : Nat → Str) (Z : Stc) (cs scope : Scope) (fv : List Nat) : Prop where
  cell : ∀ y ∈ scope.names, y.2 ≠ .cell
  kind : scope.kind = .function
  names : ∀ y ∈ scope.names, y.2 = .local → scope.names.lookup y.1 = some .local
  free : ∀ y ∈ scope.names, y.2 = .free → ∃ n ∈ fv, N n = y.1
  fv1 : ∀ n ∈ fv, (N n, NameKind.free) ∈ scope.names
  fv2 : ∀ n ∈ fv, cs.names.lookup (N n) = some .cell ∨ cs.names.lookup (N n) = some .free
  fv3 : ∀ n ∈ fv, (relC scope cs).names.lookup (N n) = some .cell ∨ (relC scope cs).names.lookup (N n) = some .free
  top : (relC scope cs).names.lookup (N Z.topn) ≠ some .local
/-- The frame's cells as they stand. -/
theorem SimX.cellOf (S : SimX Φ W τ x s) {k : Nat} {v : VV} (e : getN k τ.loc = some v) (hk : cs.names.lookup (N k) = some .cell ∨ cs.names.lookup (N k) = some .free) :
    ∃ c u, Φ.cells.lookup (N k) = some c ∧ s.heap.IsCell c (some u) ∧ VRep G W v u ∧ (c ∈ Φ.cv.map (·.2) ∨ (Φ.h₀.get? c).isSome = true) := by
  obtain ⟨m, n1, n2, F, Nw, nd, H, Cc, L, cv, o, g⟩ := S
  cases L k v e with
  | loc c a b r => rcases hk with q | q <;> rw [a] at q <;> cases q
  | cell hm =>
    obtain ⟨c, co, u, h1, h2, h3, r⟩ := Cc.at e hm
    exact ⟨c, u, (cv k c h1).2, ⟨co, (Nw (c, co) (by simp [h2])).1, h3⟩, r, .inl (List.mem_map.mpr ⟨_, h1, rfl⟩)⟩
  | fix c u a b d r =>
    refine ⟨c, u, b, d.keeps F.keep, r, .inr ?_⟩
    obtain ⟨o, ho, _⟩ := d
    rw [ho]; rfl
theorem CR.keys {loc : List (Nat × VV)} {l ns} (h : CR G W loc l ns) : ns.map (·.1) = l.map (·.2) := by
  induction h with
  | nil => rfl
  | cons _ _ _ ih => simp [ih]
/-- What stands while a comprehension runs. -/
noncomputable def stay (Φ : Cx G cs) (x : List (Addr × Obj)) (b : Addr) : Bool := (Φ.h₀.get? b).isSome || (x.map (·.1)).contains b || (Φ.cv.map (·.2)).contains b || b == Φ.L
/-- The frame of a comprehension's block. -/
noncomputable def compCx (Φ : Cx G cs) (scope : Scope) (cl : List (Str × Addr)) (C : Addr) (h₀ : Heap) (X : ∀ a o, G.h.get? a = some o → h₀.get? a = some o) (T : Top G.p G.loose G.mean G.mg G.mb h₀) (fv : List Nat) (ok : CompOk N Z cs scope fv) : Cx G (relC scope cs) :=
  ⟨Φ.A, h₀, C, cl, Φ.qual, none, Φ.code, Φ.frame, [], X, T, ok.kind, Φ.hh, Φ.un, Φ.dp, List.nodup_nil, fun e => absurd e ok.top, fun e => absurd e ok.top⟩
end VE
namespace VE
variable {N : Nat → Str} {Z : Stc} {G : Gl N Z} {cs : Scope} {Φ : Cx G cs} {W : Wd} {τ : VS} {s : Shared} {x : List (Addr × Obj)}
/-- Into a comprehension's block, and back. -/
theorem comp_in {Φc : Cx G scope'} {D C : Addr} {oD oC : Obj} {e : List (Addr × Obj)} {b : List (Nat × VV)} {h₁ : Heap} {mC : Str → Option Value} (hΦ : Φc.h₀ = restr h₁ (stay Φ x)) (hL : Φc.L = C) (hcv : Φc.cv = []) (hsz : h₁.objs.size ≤ C)
    (K0 : ∀ a o, Φc.h₀.get? a = some o → s.heap.get? a = some o) (hC : s.heap.Ns C mC) (hb : ∀ k v, getN k b = some v → LR Φc W mC k v) (S : SimX Φ W τ (e ++ (D, oD) :: (C, oC) :: x) s) :
    SimX Φc W ⟨b, τ.hp⟩ ((D, oD) :: e) s := by
  obtain ⟨m, n1, n2, F, Nw, nd, H, Cc, L, cv, o, g⟩ := S
  subst hL
  have pm : ((e ++ (D, oD) :: (Φc.L, oC) :: x) ++ (n1 ++ (n2 ++ W.fro))).Perm ((((D, oD) :: e) ++ (n1 ++ W.fro)) ++ ((Φc.L, oC) :: (x ++ n2))) := by
    have e1 : (e ++ (D, oD) :: (Φc.L, oC) :: x) ++ (n1 ++ (n2 ++ W.fro)) = e ++ ((D, oD) :: ((Φc.L, oC) :: (x ++ (n1 ++ (n2 ++ W.fro))))) := by simp
    have e2 : (((D, oD) :: e) ++ (n1 ++ W.fro)) ++ ((Φc.L, oC) :: (x ++ n2)) = (D, oD) :: (e ++ ((n1 ++ W.fro) ++ ((Φc.L, oC) :: (x ++ n2)))) := by simp
    rw [e1, e2]
    refine List.perm_middle.trans (List.Perm.cons _ (List.Perm.append_left e ?_))
    show ([(Φc.L, oC)] ++ (x ++ (n1 ++ (n2 ++ W.fro)))).Perm ((n1 ++ W.fro) ++ ([(Φc.L, oC)] ++ (x ++ n2)))
    refine List.Perm.trans (List.Perm.append_left _ ?_) (List.perm_append_comm_assoc _ _ _)
    refine List.Perm.trans ?_ List.perm_append_comm
    rw [List.append_assoc]
    exact List.Perm.append_left x (List.perm_append_comm_assoc n1 n2 W.fro)
  have nd' := ((pm.map (·.1)).nodup_iff).mp nd
  rw [List.map_append, List.nodup_append] at nd'
  obtain ⟨nda, _, ndb⟩ := nd'
  refine ⟨mC, n1, [], ⟨hC, K0, by rw [hΦ, restr_size]; exact hsz⟩, fun p hp => ?_, nda, H, by rw [hcv]; exact .nil, hb, (fun k c hm => by rw [hcv] at hm; cases hm), o, g⟩
  have hp : p ∈ ((D, oD) :: e) ++ (n1 ++ W.fro) := hp
  have P := Nw p (pm.symm.subset (List.mem_append_left _ hp))
  have hk : p.1 ∈ (((D, oD) :: e) ++ (n1 ++ W.fro)).map (·.1) := List.mem_map_of_mem hp
  refine ⟨P.1, fun q => ndb _ hk _ (List.mem_map.mpr ⟨(Φc.L, oC), .head _, rfl⟩) q, ?_⟩
  cases q : Φc.h₀.get? p.1 with
  | none => rfl
  | some o' =>
    rw [hΦ] at q
    obtain ⟨hs, _⟩ := restr_of q
    unfold stay at hs
    simp only [Bool.or_eq_true, List.contains_iff_mem, beq_iff_eq] at hs
    rcases hs with ((hs | hs) | hs) | hs
    · rw [P.2.2] at hs; cases hs
    · obtain ⟨p', hp', e'⟩ := List.mem_map.mp hs
      exact absurd e'.symm (ndb _ hk _ (List.mem_map.mpr ⟨p', .tail _ (List.mem_append_left _ hp'), rfl⟩))
    · rw [← Cc.keys] at hs
      obtain ⟨p', hp', e'⟩ := List.mem_map.mp hs
      exact absurd e'.symm (ndb _ hk _ (List.mem_map.mpr ⟨p', .tail _ (List.mem_append_right _ hp'), rfl⟩))
    · exact absurd hs P.2.1
theorem comp_out {Φc : Cx G scope'} {D C : Addr} {oD oC : Obj} {e : List (Addr × Obj)} {W' : Wd} {τc : VS} {s' : Shared} {h₁ : Heap} (hΦ : Φc.h₀ = restr h₁ (stay Φ x)) (hL : Φc.L = C) (hcv : Φc.cv = [])
    (h1 : ∀ a o, stay Φ x a = true → s.heap.get? a = some o → h₁.get? a = some o) (le : W.le W') (S : SimX Φ W τ (e ++ (D, oD) :: (C, oC) :: x) s) (S' : SimX Φc W' τc ((D, oD) :: e) s') (eh : τc.hp = τ.hp) :
    ∃ oC', (∃ mC : Str → Option Value, ∃ es ep, oC'.data = .dict es ep ∧ StrKeys es ∧ ∀ name, nsFind es name = mC name) ∧ SimX Φ W' τ (e ++ (D, oD) :: (C, oC') :: x) s' := by
  obtain ⟨m, n1, n2, F, Nw, nd, H, Cc, L, cv, o, g⟩ := S
  obtain ⟨m2, k1, k2, F2, Nw2, nd2, H2, C2, _, _, o2, g2⟩ := S'
  rw [hcv] at C2
  cases C2
  subst hL
  rw [eh] at H2
  obtain ⟨oC', esC, epC, gC, rC⟩ := F2.ns
  have kp : ∀ a o, stay Φ x a = true → s.heap.get? a = some o → s'.heap.get? a = some o := fun a o hs e => F2.keep a o (by rw [hΦ]; exact restr_get hs (h1 a o hs e))
  obtain ⟨oL, es, ep, hgL, hLd⟩ := F.ns
  have FF : Fr Φ.h₀ Φ.L s'.heap m := ⟨⟨oL, es, ep, kp _ _ (by simp [stay]) hgL, hLd⟩, fun b o e => kp b o (by simp [stay, e]) (F.keep b o e), F.above⟩
  have oldx : ∀ p ∈ x ++ n2, s'.heap.get? p.1 = some p.2 ∧ p.1 ≠ Φ.L ∧ Φ.h₀.get? p.1 = none ∧ stay Φ x p.1 = true := fun p hp => by
    have P := Nw p (by rcases List.mem_append.mp hp with q | q <;> simp [q])
    have hs : stay Φ x p.1 = true := by
      unfold stay
      simp only [Bool.or_eq_true, List.contains_iff_mem, beq_iff_eq]
      rcases List.mem_append.mp hp with q | q
      · exact .inl (.inl (.inr (List.mem_map_of_mem q)))
      · refine .inl (.inr ?_)
        rw [← Cc.keys]
        exact List.mem_map_of_mem q
    exact ⟨kp _ _ hs P.1, P.2.1, P.2.2, hs⟩
  have newc : ∀ p ∈ ((D, oD) :: e) ++ (k1 ++ W'.fro), s'.heap.get? p.1 = some p.2 ∧ p.1 ≠ Φ.L ∧ Φ.h₀.get? p.1 = none ∧ p.1 ≠ Φc.L ∧ Φc.h₀.get? p.1 = none := fun p hp => by
    have P := Nw2 p (by simpa using hp)
    refine ⟨P.1, fun q => ?_, ?_, P.2.1, P.2.2⟩
    · have := P.2.2
      rw [q, hΦ, restr_get (by simp [stay]) (h1 _ _ (by simp [stay]) hgL)] at this
      cases this
    · cases q : Φ.h₀.get? p.1 with
      | none => rfl
      | some o' =>
        have := P.2.2
        rw [hΦ, restr_get (by simp [stay, q]) (h1 _ _ (by simp [stay, q]) (F.keep _ _ q))] at this
        cases this
  have hCold := Nw (Φc.L, oC) (by simp)
  have hCx : ∀ p ∈ x ++ n2, p.1 ≠ Φc.L := fun p hp q => by
    have pm : ((e ++ (D, oD) :: (Φc.L, oC) :: x) ++ (n1 ++ (n2 ++ W.fro))).Perm ((Φc.L, oC) :: ((e ++ (D, oD) :: x) ++ (n1 ++ (n2 ++ W.fro)))) := by
      have e1 : (e ++ (D, oD) :: (Φc.L, oC) :: x) ++ (n1 ++ (n2 ++ W.fro)) = (e ++ [(D, oD)]) ++ (Φc.L, oC) :: (x ++ (n1 ++ (n2 ++ W.fro))) := by simp
      rw [e1]
      refine List.perm_middle.trans ?_
      simp
    have nd' := ((pm.map (·.1)).nodup_iff).mp nd
    rw [List.map_cons, List.nodup_cons] at nd'
    refine nd'.1 (List.mem_map.mpr ⟨p, ?_, q⟩)
    rcases List.mem_append.mp hp with z | z <;> simp [z]
  refine ⟨oC', ⟨m2, esC, epC, rC⟩, m, k1, n2, FF, fun p hp => ?_, ?_, H2, Cc.mono le, fun k v e => (L k v e).mono le, cv, o2, g2⟩
  · simp only [List.mem_append, List.mem_cons] at hp
    rcases hp with (q | q | q | q) | q | q | q
    · have P := newc p (by simp [q]); exact ⟨P.1, P.2.1, P.2.2.1⟩
    · have P := newc p (by simp [q]); exact ⟨P.1, P.2.1, P.2.2.1⟩
    · subst q; exact ⟨gC, hCold.2⟩
    · have P := oldx p (by simp [q]); exact ⟨P.1, P.2.1, P.2.2.1⟩
    · have P := newc p (by simp [q]); exact ⟨P.1, P.2.1, P.2.2.1⟩
    · have P := oldx p (by simp [q]); exact ⟨P.1, P.2.1, P.2.2.1⟩
    · have P := newc p (by simp [q]); exact ⟨P.1, P.2.1, P.2.2.1⟩
  · have pm : ((Φc.L, oC') :: (((x ++ n2)) ++ (((D, oD) :: e) ++ (k1 ++ W'.fro)))).Perm ((e ++ (D, oD) :: (Φc.L, oC') :: x) ++ (k1 ++ (n2 ++ W'.fro))) := by
      have e1 : (e ++ (D, oD) :: (Φc.L, oC') :: x) ++ (k1 ++ (n2 ++ W'.fro)) = (e ++ [(D, oD)]) ++ (Φc.L, oC') :: (x ++ (k1 ++ (n2 ++ W'.fro))) := by simp
      rw [e1]
      refine List.Perm.trans (List.Perm.cons _ ?_) List.perm_middle.symm
      have e2 : (e ++ [(D, oD)]) ++ (x ++ (k1 ++ (n2 ++ W'.fro))) = (e ++ [(D, oD)]) ++ ((x ++ (k1 ++ (n2 ++ W'.fro)))) := rfl
      refine List.Perm.trans (List.perm_append_comm (l₁ := x ++ n2)) ?_
      have e3 : ((D, oD) :: e ++ (k1 ++ W'.fro)) ++ (x ++ n2) = ((D, oD) :: e) ++ ((k1 ++ W'.fro) ++ (x ++ n2)) := by simp
      rw [e3]
      refine List.Perm.append (List.perm_append_comm (l₁ := [(D, oD)])) ?_
      refine List.Perm.trans List.perm_append_comm ?_
      rw [List.append_assoc]
      refine List.Perm.append_left x ?_
      exact List.perm_append_comm_assoc n2 k1 W'.fro
    refine ((pm.map (·.1)).nodup_iff).mp ?_
    rw [List.map_cons, List.nodup_cons, List.map_append, List.nodup_append]
    refine ⟨fun hm => ?_, ?_, by simpa using nd2, fun a ha b hb e' => ?_⟩
    · rcases List.mem_append.mp hm with q | q
      · obtain ⟨p, hp, e'⟩ := List.mem_map.mp q
        exact hCx p hp e'
      · obtain ⟨p, hp, e'⟩ := List.mem_map.mp q
        exact (newc p hp).2.2.2.1 e'
    · refine List.Nodup.sublist (List.Sublist.map _ ?_) nd
      refine List.Sublist.append (((List.sublist_cons_self _ _).trans (List.sublist_cons_self _ _)).trans (List.sublist_append_right e _)) ?_
      exact (List.sublist_append_left n2 W.fro).trans (List.sublist_append_right n1 _)
    · obtain ⟨p, hp, rfl⟩ := List.mem_map.mp ha
      obtain ⟨p', hp', rfl⟩ := List.mem_map.mp hb
      have P := oldx p hp
      have Q := (newc p' hp').2.2.2.2
      have old := Nw p (by rcases List.mem_append.mp hp with q | q <;> simp [q])
      rw [← e', hΦ, restr_get P.2.2.2 (h1 _ _ P.2.2.2 old.1)] at Q
      cases Q
end VE
namespace VE
variable {N : Nat → Str} {Z : Stc} {G : Gl N Z} {cs : Scope} {Φ : Cx G cs} {W : Wd} {τ : VS} {s : Shared} {x : List (Addr × Obj)}
noncomputable def NsD (o : Obj) : Prop := ∃ mC : Str → Option Value, ∃ es ep, o.data = .dict es ep ∧ StrKeys es ∧ ∀ name, nsFind es name = mC name
/-- One of the other objects is changed. -/
theorem SimX.updM {e : List (Addr × Obj)} {q : Addr} {co co' : Obj} {h' : Heap} (S : SimX Φ W τ (e ++ (q, co) :: x) s) (e1 : h'.get? q = some co') (sb : Heap.SameBut q s.heap h') (t : Nat) : SimX Φ W τ (e ++ (q, co') :: x) { s with heap := h', toks := t } := by
  have pm : ∀ c : Obj, (e ++ (q, c) :: x).Perm ((q, c) :: (e ++ x)) := fun c => List.perm_middle
  exact ((S.perm (pm co)).updX e1 sb t).perm (pm co').symm
theorem SimX.mid {e : List (Addr × Obj)} {q : Addr} {co : Obj} (S : SimX Φ W τ (e ++ (q, co) :: x) s) : s.heap.get? q = some co := (S.perm (x' := (q, co) :: (e ++ x)) List.perm_middle).first
theorem SimX.stays {e : List (Addr × Obj)} {a : Addr} (S : SimX Φ W τ (e ++ x) s) (h : stay Φ x a = true) : ∃ o, s.heap.get? a = some o := by
  obtain ⟨m, n1, n2, F, Nw, nd, H, Cc, L, cv, o, g⟩ := S
  unfold stay at h
  simp only [Bool.or_eq_true, List.contains_iff_mem, beq_iff_eq] at h
  rcases h with ((h | h) | h) | h
  · obtain ⟨o, ho⟩ := Option.isSome_iff_exists.mp h
    exact ⟨o, F.keep _ _ ho⟩
  · obtain ⟨p, hp, rfl⟩ := List.mem_map.mp h
    exact ⟨p.2, (Nw p (by simp [hp])).1⟩
  · rw [← Cc.keys] at h
    obtain ⟨p, hp, rfl⟩ := List.mem_map.mp h
    exact ⟨p.2, (Nw p (by simp [hp])).1⟩
  · obtain ⟨oL, _, _, hL, _⟩ := F.ns
    exact ⟨oL, h ▸ hL⟩
theorem comp_go {elt iter target : Expr} {scope : Scope} {pos : Pos} {fv : List Nat} {t : WS} {w : WE} (ok : CompOk N Z cs scope fv) (ht : SS G (relC scope cs) target t) (he : SE G (relC scope cs) elt w) {C : Calls} (okC : CallsOk G Φ.A.depth C)
    {l : List PV} {keep : VS → Prop} {XP : Nat → List (Addr × Obj) → Prop} {e0 : List (Addr × Obj)} {it : Value} (src : SrcOk Φ W l keep it XP) (x0 : XP 0 e0) (S : SimX Φ W τ (e0 ++ x) s) (kp : keep τ) {b : List (Nat × VV)} (hb : pickN τ.loc fv = some b) (hz : l.length ≤ 1000000)
    {Q : List PV → Prop} (q : compW (fun v τ q => t C τ (.p v) q) (w C) τ.hp b Q l []) {use : Option (Value → Sem Unit)} {P : Value → Shared → Prop}
    (hend : ∀ W' acc vs n D Ca oC s', W.le W' → PRepL (FW G W') acc vs → SimX Φ W' τ ((D, listOf vs.toArray n) :: (Ca, oC) :: x) s' → NsD oC → Q acc → compPost Φ.M Φ.A (fun _ _ => False) use P (.ref D) Ca (.ok .next) s') :
    wpAny Φ.M Φ.A (newList []) (fun acc s₃ => wpAny Φ.M Φ.A (newFunctionEnv scope Φ.env.globals (clL Φ.cells scope.names []) [] Φ.env.qual none .none (some Φ.env)) (fun cenv s₄ =>
        codeAny Φ.M Φ.A (.compStart (.ListComp elt [⟨target, iter, [], 0⟩] scope pos) 0 it acc { cenv with scope := relabel scope Φ.env }) (compPost Φ.M Φ.A (fun _ _ => False) use P acc cenv.locals) s₄) (fun _ _ => False) s₃) (fun _ _ => False) s := by
  refine wpAny_newObj_type (hd := by size_fits) ?_
  have S2 := ((S.new (h' := s.heap.push { cls := .type "list", dict := none, data := .seq ([] : List Value).toArray }) (t := s.toks) (fun _ _ e => Heap.get?_push_of_some _ e) (Heap.get?_none_of_le (Nat.le_refl _)) (Heap.get?_push_size _ rfl)).perm (x' := e0 ++ (s.heap.objs.size, listOf ([] : List Value).toArray 0) :: x) List.perm_middle.symm)
  generalize s.heap.objs.size = D at S2 ⊢
  generalize hs₂ : ({ s with heap := s.heap.push { cls := .type "list", dict := none, data := .seq ([] : List Value).toArray } } : Shared) = s₂ at S2 ⊢
  refine wpAny_newFunctionEnv ok.cell (by intro y hy; simp at hy) (fun h₁ hns₁ hsb₁ => ?_) ok.kind
  have k₁ : ∀ b o, s₂.heap.get? b = some o → h₁.get? b = some o := fun b o x => hsb₁.extBut b o (Nat.ne_of_lt (Heap.lt_size x)) (Heap.get?_push_of_some _ x)
  obtain ⟨oC, esC, epC, gC, rC⟩ := id hns₁
  have S3 := (S2.new (h' := h₁) (t := s₂.toks) k₁ (Heap.get?_none_of_le (Nat.le_refl _)) gC).perm (x' := e0 ++ (D, listOf ([] : List Value).toArray 0) :: (s₂.heap.objs.size, oC) :: x) (by
    have : e0 ++ (D, listOf ([] : List Value).toArray 0) :: (s₂.heap.objs.size, oC) :: x = (e0 ++ [(D, listOf ([] : List Value).toArray 0)]) ++ (s₂.heap.objs.size, oC) :: x := by simp
    rw [this]
    refine List.Perm.trans ?_ List.perm_middle.symm
    simp)
  have hCsz : s₂.heap.objs.size = s₂.heap.objs.size := rfl
  generalize hCa : s₂.heap.objs.size = Ca at S3 gC hns₁ ⊢
  have st : ∀ a o, Φ.h₀.get? a = some o → (restr s₂.heap (stay Φ x)).get? a = some o := fun a o e => restr_get (by simp [stay, e]) (S2.base a o e)
  let Φc := compCx Φ scope (clL Φ.cells scope.names []) Ca (restr s₂.heap (stay Φ x)) (fun a o e => st a o (Φ.X a o e)) (Φ.T.keeps st) fv ok
  have HB : ∀ W' mC k v, W.le W' → getN k b = some v → LR Φc W' mC k v := fun W' mC k v le e => by
    obtain ⟨h1, h2⟩ := pickN_has hb
    obtain ⟨h3, h4⟩ := h2 k v e
    obtain ⟨c, u, e1, e2, r, hs⟩ := S2.cellOf h4 (ok.fv2 k h3)
    obtain ⟨oc, e3, e4⟩ := e2
    refine .fix c u (ok.fv3 k h3) (clL_lookup e1 (fun b hb => by cases hb) (.inl (ok.fv1 k h3))) ⟨oc, restr_get ?_ e3, e4⟩ (r.mono le)
    unfold stay
    simp only [Bool.or_eq_true, List.contains_iff_mem, beq_iff_eq]
    rcases hs with hs | hs
    · exact .inl (.inr hs)
    · exact .inl (.inl (.inl hs))
  have L : ∀ s', SimX Φ W τ (e0 ++ (D, listOf ([] : List Value).toArray 0) :: (Ca, oC) :: x) s' → (∀ a o, Φc.h₀.get? a = some o → s'.heap.get? a = some o) →
      codeAny Φ.M Φ.A (.compLoop (.ListComp elt [⟨target, iter, [], 0⟩] scope pos) 0 it (.ref D) Φc.env) (compPost Φ.M Φ.A (fun _ _ => False) use P (.ref D) Ca) s' := fun s' S' K' => by
    refine comp_loop (fun n s' => ∃ i W' e vs nD oC acc, n + i = l.length + 1 ∧ i ≤ l.length ∧ W.le W' ∧ XP i e ∧ SimX Φ W' τ (e ++ (D, listOf vs.toArray nD) :: (Ca, oC) :: x) s' ∧ NsD oC ∧ PRepL (FW G W') acc vs ∧ acc.length ≤ i ∧
        (∀ a o, Φc.h₀.get? a = some o → s'.heap.get? a = some o) ∧ compW (fun v τ q => t C τ (.p v) q) (w C) τ.hp b Q (l.drop i) acc) (fun n s' ⟨i, W', e, vs, nD, oC, acc, en, hi, le', xi, S', nsd, pr, al, K', q'⟩ => ?_) (l.length + 1) ⟨0, W, e0, [], 0, oC, [], rfl, Nat.zero_le _, .refl _, x0, S', ⟨_, esC, epC, rC⟩, .nil, Nat.le_refl _, K', q⟩
    by_cases hie : i = l.length
    · subst hie
      refine src.stop W' τ e _ s' _ le' xi S' kp fun s3 S3 => ?_
      rw [List.drop_length] at q'
      exact hend W' acc vs nD D Ca oC s3 le' pr S3 nsd q'
    · have hlt : i < l.length := Nat.lt_of_le_of_ne hi hie
      have ha : l[i]? = some l[i] := List.getElem?_eq_getElem hlt
      rw [List.drop_eq_getElem_cons hlt] at q'
      have nsOf : ∀ {e : List (Addr × Obj)} {oD oC : Obj} {W' : Wd} {s' : Shared}, SimX Φ W' τ (e ++ (D, oD) :: (Ca, oC) :: x) s' → NsD oC → ∃ mC, s'.heap.Ns Ca mC := fun {e oD oC W' s'} S ⟨mC, es, ep, r⟩ =>
        ⟨mC, oC, es, ep, (show SimX Φ W' τ ((e ++ [(D, oD)]) ++ (Ca, oC) :: x) s' by simpa using S).mid, r⟩
      obtain ⟨mC, hN⟩ := nsOf S' nsd
      have Sc := comp_in (Φc := Φc) rfl rfl rfl (Nat.le_of_eq hCa) K' hN (fun k v e => HB W' mC k v le' e) S'
      refine src.item i _ W' τ e _ s' _ le' ha xi S' kp fun c e' s1 rc xi' S1 oth => ?_
      refine src.go (i + 1) W' τ e' _ s1 target c _ xi' S1 ?_
      have K1 : ∀ a o, Φc.h₀.get? a = some o → s1.heap.get? a = some o := fun a o ea => oth a o (fun hm => by
        obtain ⟨p, hp, e1⟩ := List.mem_map.mp hm
        obtain ⟨_, _, _, _, Nwc, _⟩ := Sc
        have := (Nwc p (by simp [hp])).2.2
        rw [e1, ea] at this; cases this) (K' a o ea)
      obtain ⟨mC1, hN1⟩ := nsOf S1 nsd
      have Sc1 := comp_in (Φc := Φc) rfl rfl rfl (Nat.le_of_eq hCa) K1 hN1 (fun k v e => HB W' mC1 k v le' e) S1
      refine wpAny_mono (ht Φc C okC W' _ _ s1 (.p l[i]) c _ Sc1 (.p rc) q') (fun _ s2 y => ?_) fun _ _ y => y
      obtain ⟨W2, τ2, le2, Sc2, q2⟩ := y
      refine wpAny_mono (he Φc C okC W2 τ2 _ s2 _ Sc2 q2) (fun u s3 y => ?_) fun _ _ y => y
      obtain ⟨W3, uv, τ3, le3, ru, Sc3, eh, q3⟩ := y
      have stK : ∀ a o, stay Φ x a = true → s1.heap.get? a = some o → s₂.heap.get? a = some o := fun a o hs e => by
        obtain ⟨o2, h2⟩ := SimX.stays (e := e0 ++ [(D, listOf ([] : List Value).toArray 0)]) (x := x) (by simpa using S2) hs
        have := K1 a o2 (restr_get hs h2)
        rw [e] at this
        cases this
        exact h2
      obtain ⟨oC', nsd', S3⟩ := comp_out (Φc := Φc) (h₁ := s₂.heap) rfl rfl rfl stK (le2.trans le3) S1 Sc3 eh
      cases uv with
      | ref => exact q3.elim
      | meth => exact q3.elim
      | p z =>
        cases ru with
        | p rz =>
          have hD := S3.mid
          have le13 := le2.trans le3
          have prl := (pr.mono le13.FW).app rz
          refine append_at hD (fun h' sb ho' => ?_) (hsz := ?_)
          · have S4 := S3.updM (co' := listOf (vs ++ [u]).toArray (nD + 1)) (by rw [ho', List.push_toArray]) sb s3.toks
            refine ⟨l.length - i, by lia, i + 1, W3, e', vs ++ [u], nD + 1, oC', acc ++ [z], by lia, hlt, le'.trans le13, xi', S4, nsd', prl, by simp; lia, fun a o ea => ?_, q3⟩
            have : a ≠ D := fun e1 => by
              obtain ⟨_, _, _, _, Nwc, _⟩ := Sc3
              have := (Nwc (D, listOf vs.toArray nD) (by simp)).2.2
              rw [← e1] at this
              rw [ea] at this; cases this
            obtain ⟨_, _, _, Fc, _⟩ := Sc3
            exact (sb.2 a this).trans (Fc.keep a o ea)
          · have := pr.length
            have : sizeLine = 2 ^ 24 := rfl
            simp only [List.size_toArray]
            lia
  have K3 : ∀ a o, Φc.h₀.get? a = some o → ({ s₂ with heap := h₁, toks := s₂.toks } : Shared).heap.get? a = some o := fun a o e => k₁ a o (restr_of e).2
  exact codeAny_compStart_list (L _ S3 K3) (wpAny_mono (src.again 0 W τ e0 _ _ (fun v s' => v = it ∧ s' = _) (.refl W) x0 S3 ⟨rfl, rfl⟩) (fun _ _ y => by obtain ⟨rfl, rfl⟩ := y; exact L _ S3 K3) fun _ _ y => y.elim)
end VE
namespace VE
variable {N : Nat → Str} {Z : Stc} {G : Gl N Z} {cs : Scope} {Φ : Cx G cs} {W : Wd} {τ : VS} {s : Shared} {x : List (Addr × Obj)}
noncomputable def compB (N : Nat → Str) (Z : Stc) (cs scope : Scope) (fv : List Nat) : Bool :=
  scope.names.all (fun y => y.2 != .cell) && scope.kind == .function && scope.names.all (fun y => y.2 != .local || scope.names.lookup y.1 == some .local) && scope.names.all (fun y => y.2 != .free || fv.any fun n => N n == y.1) &&
  fv.all (fun n => scope.names.any fun y => y.1 == N n && y.2 == .free) && fv.all (fun n => cs.names.lookup (N n) == some .cell || cs.names.lookup (N n) == some .free) &&
  fv.all (fun n => (relC scope cs).names.lookup (N n) == some .cell || (relC scope cs).names.lookup (N n) == some .free) && (relC scope cs).names.lookup (N Z.topn) != some .local
theorem CompOk.of {scope : Scope} {fv : List Nat} (h : compB N Z cs scope fv = true) : CompOk N Z cs scope fv := by
  unfold compB at h
  simp only [Bool.and_eq_true, List.all_eq_true, List.any_eq_true, bne_iff_ne, ne_eq, beq_iff_eq, Bool.or_eq_true] at h
  obtain ⟨⟨⟨⟨⟨⟨⟨h1, h2⟩, h3⟩, h4⟩, h5⟩, h6⟩, h7⟩, h8⟩ := h
  exact ⟨h1, h2, fun y hy e => (h3 y hy).resolve_left (fun q => q e), fun y hy e => (h4 y hy).resolve_left (fun q => q e), fun n hn => by
    obtain ⟨y, hy, e1, e2⟩ := h5 n hn
    obtain ⟨a, b⟩ := y
    rw [← e1, ← e2]; exact hy, h6, h7, h8⟩
/-- A comprehension. -/
noncomputable def compR (t : WS) (w : WE) (fv : List Nat) (C : Calls) (l : List PV) (τ : VS) (Q : List PV → Prop) : Prop := l.length ≤ 1000000 ∧ match pickN τ.loc fv with
  | some b => compW (fun v τ q => t C τ (.p v) q) (w C) τ.hp b Q l []
  | none => False
noncomputable abbrev wComp (i : WI) (t : WS) (w : WE) (fv : List Nat) : W0 := fun C τ Q => gd (pickN τ.loc fv).isSome <| i C τ fun l keep τ1 => compR t w fv C l τ1 fun acc => Q (.new acc) τ1
theorem comp_clos {scope : Scope} {fv : List Nat} (ok : CompOk N Z cs scope fv) (S : SimX Φ W τ x s) (h : (pickN τ.loc fv).isSome = true) : closureFor scope Φ.env = pure (clL Φ.cells scope.names []) := by
  obtain ⟨b, hb⟩ := Option.isSome_iff_exists.mp h
  refine closureFor_is fun p hp hf => ?_
  obtain ⟨n, hn, e⟩ := ok.free p hp hf
  obtain ⟨v, hv⟩ := (pickN_has hb).1 n hn
  obtain ⟨c, u, e1, _⟩ := S.cellOf hv (ok.fv2 n hn)
  exact ⟨c, by rw [← e]; exact e1⟩
theorem NsD.ns {o : Obj} (h : NsD o) {hp : Heap} {C : Addr} (e : hp.get? C = some o) : ∃ m, hp.Ns C m :=
  let ⟨m, es, ep, r⟩ := h; ⟨m, o, es, ep, e, r⟩
section
variable {elt iter target : Expr} {scope : Scope} {pos : Pos} {fv : List Nat} {i : WI} {t : WS} {w : WE}
/-- x = [..], stored as it is made: the list becomes one of the walk's. -/
noncomputable abbrev wAsC (n : Nat) (i : WI) (t : WS) (w : WE) (fv : List Nat) : WX := fun C τ Q => gd (pickN τ.loc fv).isSome <| i C τ fun l keep τ1 => compR t w fv C l τ1 fun acc => Q .next ⟨putN n (.ref τ1.hp.length) τ1.loc, τ1.hp ++ [.list acc]⟩
theorem SX_asC {n : Nat} {tn : Str} {np spos : Pos} (ok : CompOk N Z cs scope fv) (hi : SI G cs iter i) (ht : SS G (relC scope cs) target t) (he : SE G (relC scope cs) elt w) (hs : ∀ env x, foldedSetIterable iter env x = pure x)
    (hn : N n = tn) (hl : kindOk N Z cs n) (hsw : ∀ Φ : Cx G cs, swapsWith (.ListComp elt [⟨target, iter, [], 0⟩] scope pos) (some (.Name tn np)) spos.line Φ.env = pure true) :
    SX G cs (.Assign [.Name tn np] (.ListComp elt [⟨target, iter, [], 0⟩] scope pos) spos) (wAsC n i t w fv) := fun Φ C okC W τ x s Q S q => by
  subst hn
  obtain ⟨h1, q⟩ := gd_ex q
  rw [exec_Assign_Name_used _ _ _ _ (hsw Φ)]
  refine wpAny_bind (wpAny_standAt (wpAny_bind ?_))
  show wpAny _ Φ.A (do let _ ← comprehension (.ListComp elt [⟨target, iter, [], 0⟩] scope pos) scope Φ.env _ (newList []) false (eval iter Φ.env) (some (assign (.Name (N n) np) Φ.env))) _ _ s
  refine wpAny_bind (wpAny_mono (wpAny_comprehension_free (use := some _) (Q := fun (_ : Value) s' => RF Φ W x Q .next s') (E := fun _ _ => False) rfl (hs _) (comp_clos ok S h1) ok.kind ok.names (wpAny_mono (hi Φ C okC W τ x s _ S q) (fun v s1 y => wpAny_mono y (fun it s2 y => ?_) fun _ _ y => y) fun _ _ y => y)) (fun _ s' hq => wpAny_pure (wpAny_pure hq)) fun _ _ e => e)
  obtain ⟨W1, l, keep, τ1, XP, e, le, src, x0, S1, k, hz, q1⟩ := y
  cases hb : pickN τ1.loc fv with
  | none => rw [hb] at q1; exact q1.elim
  | some b =>
    rw [hb] at q1
    refine comp_go ok ht he okC src x0 S1 k hb hz q1 fun W' acc vs n' D Ca oC s' le' pr S' nd q' => ?_
    obtain ⟨W2, le2, e2, S2⟩ := S'.own pr
    refine assign_Name (S2.store (.ref e2) hl fun s3 S3 => ?_)
    obtain ⟨mC, hC⟩ := nd.ns S3.first
    exact ⟨mC, hC, fun h' sb => ⟨W2, .next, _, (le.trans le').trans le2, .next, S3.drop sb.extBut, q'⟩⟩
end
end VE
namespace VE
variable {N : Nat → Str} {Z : Stc} {G : Gl N Z} {cs : Scope} {Φ : Cx G cs} {W : Wd} {τ : VS} {s : Shared} {x : List (Addr × Obj)}
/-- A tuple target. -/
noncomputable abbrev wTgT (k : Nat) (ts : WSs) : WS := fun C τ v Q => tupV v k fun l => ts C τ (l.map .p) Q
theorem SS_T {elts : List Expr} {kk : Nat} {pos : Pos} {ts : WSs} (h' : SSs G cs elts ts) (hstar : ∀ env, (assignEach elts env).findIdx? (·.1) = none) : SS G cs (.Tuple elts kk pos) (wTgT elts.length ts) := fun Φ C ok W τ x s v c Q S r q => by
  obtain ⟨l, rfl, hl, q2⟩ := tupV_ex q
  obtain ⟨a, vs, rfl, ht, p⟩ := r.tup S
  have el : (assignEach elts Φ.env).length = elts.length := by have := congrArg List.length (h'.1 Φ.env); simpa using this
  refine S.fr fun m news F Nw k => unpackN_ F Nw ht Φ.hh (by rw [el, List.size_toArray, p.length, hl]) (hstar _) fun hh F' N' => ?_
  have S2 := k hh s.toks F' N'
  show wpAny _ _ (assignInOrder ((assignEach elts Φ.env).map (·.2)) vs) _ _ _
  rw [h'.1 Φ.env]
  exact h'.2 Φ C ok W τ x _ _ vs _ S2 p.vals q2
/-- An item read, without the subscript's own end. -/
theorem subW_runG {u v : VV} {c d : Value} {Q : VV → Prop} {P : Value → Shared → Prop} (S : SimX Φ W τ x s) (ru : VRep G W u c) (rv : VRep G W v d) (h : subW τ.hp u v Q)
    (k : ∀ z e, VRep G W z e → Q z → P e s) : wpAny Φ.M Φ.A (getItem c d) P (fun _ _ => False) s := by
  unfold subW at h
  split at h
  · rename_i j
    obtain ⟨⟨b1, b2⟩, l, z, e1, e2, q⟩ := h
    obtain ⟨t, rfl⟩ := rv.int
    have lst : VE.asL τ.hp u = some l → wpAny Φ.M Φ.A (getItem c (.int j t)) P (fun _ _ => False) s := fun e1 => by
      obtain ⟨a, vs, rfl, hl, p⟩ := S.asL ru e1
      by_cases h0 : 0 ≤ j
      · rw [pick_pos h0] at e2
        obtain ⟨e, he, r⟩ := p.get e2
        exact wpAny_getItem_list hl h0 b2 (by simpa using he) (k _ e (.p r) q)
      · obtain ⟨h1, h2⟩ := pick_neg (by lia) e2
        obtain ⟨e, he, r⟩ := p.get h2
        exact wpAny_getItem_list_neg hl (by lia) (by simpa [p.length] using h1) b1 (by simpa [p.length] using he) (k _ e (.p r) q)
    unfold seqL at e1
    split at e1
    · cases e1
      obtain ⟨a, vs, rfl, ht, p⟩ := ru.tup S
      obtain ⟨j', e3, e4⟩ := seqIndex_of_pick e2
      obtain ⟨e, he, r⟩ := p.get e4
      exact getItem_tuple ht b1 b2 (by rw [List.size_toArray, p.length]; exact e3) (by simpa using he) (k _ e (.p r) q)
    · exact lst e1
  · exact h.elim
/-- o[i] op= e -/
noncomputable abbrev wAuS (op : Operator) (o i e : WE) : WX := fun C τ Q => o C τ fun u τ1 => i C τ1 fun j τ2 => subW τ2.hp u j fun old => e C τ2 fun v τ3 => iopW op τ3.hp old v fun z hp => setIW hp u j z fun hp' => Q .next ⟨τ3.loc, hp'⟩
theorem SX_auS {op : Operator} {o i value : Expr} {np pos : Pos} {wo wi we : WE} (h : SE G cs o wo) (hi : SE G cs i wi) (h' : SE G cs value we)
    (ha : ∀ ov iv new, augStore i ov iv new = (do holding [new, ov, iv] (setItem ov iv new); release [new, ov, iv] []; pure .next)) : SX G cs (.AugAssign (.Subscript o i np) op value pos) (wAuS op wo wi we) := fun Φ C ok W τ x s Q S q =>
  wpAny_AugAssign_SubscriptAny (h.go ok S q fun W1 u τ1 c s1 le1 r1 S1 q1 => hi.go ok S1 q1 fun W2 j τ2 d s2 le2 r2 S2 q2 => by
    refine subW_runG S2 (r1.mono le2) r2 q2 fun z e r3 q3 => h'.go ok S2 q3 fun W3 v τ3 f s3 le3 r4 S3 q4 => ?_
    exact iopW_run S3 (r3.mono le3) r4 q4 fun z g hp s4 r5 S4 q5 => setIW_run S4 (r1.mono (le2.trans le3)) (r2.mono le3) r5 q5 fun hp' s5 S5 q6 => ⟨W3, .next, _, (le1.trans le2).trans le3, .next, S5, q6⟩) ha
/-- o.extend(e): a list of the walk's, by a list. -/
noncomputable def extW (hp : List VO) (k : Nat) (v : VV) (Q : List VO → Prop) : Prop := match hp[k]? with
  | some (.list l) => ∃ r, asX hp v = some r ∧ l.length + r.length ≤ sizeLine ∧ Q (hp.set k (.list (l ++ r)))
  | _ => False
noncomputable abbrev wExt (w we : WE) : WE := fun C τ Q => w C τ fun v τ1 => ownL τ1.hp v fun k _ => we C τ1 fun u τ2 => extW τ2.hp k u fun hp => Q (.p .none) ⟨τ2.loc, hp⟩
theorem extend_list {l b : Addr} {items items2 : Array Value} {n n2 : Nat} {Q : Value → Shared → Prop} {E : Value → Shared → Prop} (hl : s.heap.get? l = some (listOf items n)) (hb : s.heap.get? b = some (listOf items2 n2)) (hz : items.size + items2.size ≤ sizeLine)
    (h : Q .none { s with heap := s.heap.update l (Obj.mapSeq fun x => x ++ items2) }) : wpAny Φ.M Φ.A (call (.builtin "list.extend") [.ref l, .ref b]) Q E s := by
  refine call_meets PySem.F.slot_list_extend ⟨_, hl, rfl⟩ PySem.F.entry_list_extend (PySem.F.args_list_extend_2 _ _) (AutoSeq1.list_extend_list_list_0 l items n b items2 n2 ?_ ?_ ?_) ⟨hl, hb, h⟩
  · rw [show Builtin.List.listTooLong (items.size + items2.size) = false from decide_eq_false (Nat.not_lt.mpr hz), Bool.and_false]
    exact Bool.false_ne_true
  · exact Nat.le_trans (Nat.le_add_right _ _) hz
  · exact Nat.le_succ_of_le hz
theorem SE_ext {o e : Expr} {apos pos : Pos} {t : Str} {w we : WE} (h : SE G cs o w) (h' : SE G cs e we) (ht : t = "extend") (he : ∀ env, starEach [e] env = (false, eval e env) :: starEach [] env)
    (hc : ∀ env, ∃ pl, eval (.Call (.Attribute o t apos) [e] [] pos) env = (do let ov ← eval o env; standAt apos.atName; let (f, first) ← holding [ov] (getMethod ov t pl); callWith pos f first (backTo pos (starEach [e] env)) (backToKw pos (keywordEach [] env)))) :
    SE G cs (.Call (.Attribute o t apos) [e] [] pos) (wExt w we) := fun Φ C ok W τ x s Q S q => by
  subst ht
  obtain ⟨pl, hc⟩ := hc Φ.env
  refine methodCall_KW (he := hc) (h.go ok S q fun W1 v τ1 c s1 le r S1 q1 => ?_)
  obtain ⟨k, l, rfl, e1, q2⟩ := ownL_ex q1
  cases r with
  | @ref _ a d er =>
    obtain ⟨vs, n, LA⟩ := S1.list e1 er
    obtain ⟨m, news, news', F, Nw, U, up⟩ := LA.updU l vs n LA.rep
    obtain ⟨pre, post, e3, e4, _⟩ := U.split
    refine listMethod_K (its := vs.toArray) (n := n) Nw (by rw [e3]; simp) PySem.F.slot_list_extend PySem.F.type_list_extend ?_
    show wpAny Φ.M Φ.A (callWith pos (.builtin "list.extend") [.ref a] (backTo pos (starEach [e] Φ.env)) []) _ _ _
    rw [he]
    refine callWith_builtin rfl (evalArgs_plain (spliced_cons (h'.go ok S1 q2 fun W2 u τ2 c2 s2 le2 r2 S2 q3 => spliced_nil ?_)))
    unfold extW at q3
    split at q3
    · rename_i l' e2
      obtain ⟨rr, er2, hz, q4⟩ := q3
      obtain ⟨vs2, n2, LB⟩ := S2.list e2 (le2.at er)
      obtain ⟨b, ws, n3, rfl, hb, p⟩ := S2.asX r2 er2
      have ee : ∃ n', Obj.mapSeq (fun x => x ++ ws.toArray) (listOf vs2.toArray n2) = listOf (vs2 ++ ws).toArray n' := ⟨_, by
        rw [← List.append_toArray]; rfl⟩
      obtain ⟨n', ee⟩ := ee
      refine extend_list LB.get hb (by rw [List.size_toArray, List.size_toArray, LB.rep.length, p.length]; exact hz) ?_
      refine ⟨W2, _, _, le.trans le2, .p (.none .nil), LB.upd (l' ++ rr) (vs2 ++ ws) n' _ s2.toks (LB.rep.app p) (Heap.SameBut.update ..) ?_, q4⟩
      rw [Heap.get?_update_self _ LB.get (by rw [ee]; rfl), ee]
    · exact q3.elim
end VE
namespace VE
noncomputable def nmOf (l : List Str) (i : Nat) : Str := match l[i]? with
  | some x => x
  | none => ⟨#[2097152 + i]⟩
theorem nmOf_some {l : List Str} {i : Nat} {x : Str} (h : l[i]? = some x) : nmOf l i = x := by unfold nmOf; rw [h]
theorem nmOf_none {l : List Str} {i : Nat} (h : l[i]? = none) : nmOf l i = ⟨#[2097152 + i]⟩ := by unfold nmOf; rw [h]
theorem nmOf_ne {l : List Str} {t : Str} (ht : t.cps.size ≠ 1) (ne : ∀ x ∈ l, x ≠ t) (n : Nat) : (nmOf l n == t) = false := by
  refine beq_eq_false_iff_ne.mpr ?_
  cases hi : l[n]? with
  | none =>
    rw [nmOf_none hi]
    intro e
    exact ht (by rw [← e]; rfl)
  | some x => rw [nmOf_some hi]; exact ne x (List.mem_of_getElem? hi)
theorem nmOf_ok {l : List Str} (nd : l.Nodup) (sm : ∀ x ∈ l, ∀ c ∈ x.cps.toList, c < 2097152) (ne : ∀ x ∈ l, x ≠ "__debug__") (ne' : ∀ x ∈ l, x ≠ "__classdict__") : NOk (nmOf l) where
  inj := fun i j e => by
    cases hi : l[i]? with
    | none =>
      rw [nmOf_none hi] at e
      cases hj : l[j]? with
      | none =>
        rw [nmOf_none hj] at e
        have := congrArg (fun s : Str => s.cps.toList) e
        simp at this
        exact this
      | some y =>
        rw [nmOf_some hj] at e
        have := sm y (List.mem_of_getElem? hj) (2097152 + i) (by rw [← e]; simp)
        omega
    | some x =>
      rw [nmOf_some hi] at e
      cases hj : l[j]? with
      | none =>
        rw [nmOf_none hj] at e
        have := sm x (List.mem_of_getElem? hi) (2097152 + j) (by rw [e]; simp)
        omega
      | some y =>
        rw [nmOf_some hj] at e
        obtain ⟨h1, e1⟩ := List.getElem?_eq_some_iff.mp hi
        obtain ⟨h2, e2⟩ := List.getElem?_eq_some_iff.mp hj
        have P := List.pairwise_iff_getElem.mp nd
        rcases Nat.lt_trichotomy i j with q | q | q
        · exact absurd (e1.trans (e.trans e2.symm)) (P i j h1 h2 q)
        · exact q
        · exact absurd (e2.trans (e.symm.trans e1.symm)) (P j i h2 h1 q)
  dbg := nmOf_ne (by decide +kernel) ne
  cd := nmOf_ne (by decide +kernel) ne'
noncomputable def nmL : List Str := [Str.ofString "self", Str.ofString "name", Str.ofString "byteMask", Str.ofString "addrMask", Str.ofString "addrHighMask", Str.ofString "spBase", Str.ofString "excycles", Str.ofString "addcycles", Str.ofString "processorCycles", Str.ofString "memory", Str.ofString "start_pc", Str.ofString "pc", Str.ofString "sp", Str.ofString "a", Str.ofString "x", Str.ofString "y", Str.ofString "p", Str.ofString "RESET", Str.ofString "NMI", Str.ofString "IRQ", Str.ofString "NEGATIVE", Str.ofString "OVERFLOW", Str.ofString "UNUSED", Str.ofString "BREAK", Str.ofString "DECIMAL", Str.ofString "INTERRUPT", Str.ofString "ZERO", Str.ofString "CARRY", Str.ofString "BYTE_WIDTH", Str.ofString "ADDR_WIDTH", Str.ofString "instruct", Str.ofString "cycletime", Str.ofString "extracycles", Str.ofString "__init__", Str.ofString "step", Str.ofString "reset", Str.ofString "irq", Str.ofString "ByteAt", Str.ofString "WordAt", Str.ofString "ProgramCounter", Str.ofString "ZeroPageAddr", Str.ofString "ImmediateByte", Str.ofString "AbsoluteXAddr", Str.ofString "BranchRelAddr", Str.ofString "stPush", Str.ofString "stPop", Str.ofString "stPushWord", Str.ofString "stPopWord", Str.ofString "FlagsNZ", Str.ofString "opORA", Str.ofString "opBCL", Str.ofString "opCLR", Str.ofString "opSET", Str.ofString "opSTA", Str.ofString "opDECR", Str.ofString "opINCR", Str.ofString "opLDA", Str.ofString "opLDX", Str.ofString "inst_0x48", Str.ofString "inst_0x8a", Str.ofString "inst_0xa6", Str.ofString "inst_0xa5", Str.ofString "inst_0x9d", Str.ofString "inst_0xe6", Str.ofString "inst_0x58", Str.ofString "inst_0x78", Str.ofString "inst_0xc6", Str.ofString "inst_0x09", Str.ofString "inst_0x68", Str.ofString "inst_0xaa", Str.ofString "inst_0x40", Str.ofString "inst_0xa2", Str.ofString "inst_0xca", Str.ofString "inst_0xd0", Str.ofString "instructCode", Str.ofString "addr", Str.ofString "a1", Str.ofString "a2", Str.ofString "z", Str.ofString "value", Str.ofString "tbyte", Str.ofString "AbsoluteAddr", Str.ofString "AbsoluteYAddr", Str.ofString "opASL", Str.ofString "opLSR", Str.ofString "opBST", Str.ofString "opROL", Str.ofString "opADC", Str.ofString "opROR", Str.ofString "opCMPR", Str.ofString "opSBC", Str.ofString "opLDY", Str.ofString "inst_0xbd", Str.ofString "inst_0x79", Str.ofString "inst_0xf9", Str.ofString "inst_0xd9", Str.ofString "inst_0x1e", Str.ofString "inst_0x3e", Str.ofString "inst_0x5e", Str.ofString "inst_0x7e", Str.ofString "inst_0xb9", Str.ofString "inst_0x99", Str.ofString "inst_0x18", Str.ofString "inst_0x38", Str.ofString "inst_0x60", Str.ofString "inst_0xa0", Str.ofString "inst_0x20", Str.ofString "inst_0x90", Str.ofString "inst_0xb0", Str.ofString "inst_0xee", Str.ofString "inst_0xa9", Str.ofString "inst_0x8d", Str.ofString "inst_0x4c", Str.ofString "inst_0xe9", Str.ofString "inst_0xf0", Str.ofString "data", Str.ofString "halfcarry", Str.ofString "decimalcarry", Str.ofString "adjust0", Str.ofString "adjust1", Str.ofString "nibble0", Str.ofString "nibble1", Str.ofString "aluresult", Str.ofString "result", Str.ofString "tmp", Str.ofString "get_address", Str.ofString "register_value", Str.ofString "signs", Str.ofString "inside", Str.ofString "_law_plan", Str.ofString "number", Str.ofString "kind", Str.ofString "one", Str.ofString "two", Str.ofString "body", Str.ofString "rest", Str.ofString "plan", Str.ofString "held", Str.ofString "_law_run", Str.ofString "more", Str.ofString "whole", Str.ofString "turn", Str.ofString "range", Str.ofString "code", Str.ofString "calls", Str.ofString "base", Str.ofString "_law_compile", Str.ofString "extend", Str.ofString "place", Str.ofString "octet", Str.ofString "hole", Str.ofString "again", Str.ofString "len", Str.ofString "script", Str.ofString "law", Str.ofString "total", Str.ofString "octets", Str.ofString "start", Str.ofString "plans", Str.ofString "end", Str.ofString "which", Str.ofString "plain", Str.ofString "mpu", Str.ofString "sum", Str.ofString "append", Str.ofString "MPU", Str.ofString "here", Str.ofString "by", Str.ofString "_wall", Str.ofString "__name__"]
noncomputable abbrev nm : Nat → Str := nmOf nmL
theorem nm_ok : NOk nm := nmOf_ok (by decide +kernel) (by decide +kernel) (by decide +kernel) (by decide +kernel)
end VE
namespace M6
section
variable (p : Program) (n₀ : Nat) (ann : Option Value)
/-- n steps of a statement's run at the top. -/
noncomputable def Rn (w : World) (n : Nat) (s : Shared) (t : Thread) (s' : Shared) (t' : Thread) : Prop := ∀ N r, segRun treeTable p w n₀ ann 0 N s' t' = some r → segRun treeTable p w n₀ ann 0 (n + N) s t = some r
variable (g : Array GenState) (d : Drawn) (os : OsState)
/-- A tree runs to its value within n steps, whatever stands behind it. -/
structure XR {α : Type} (w : World) (n : Nat) (m : Sem α) (h : Heap) (t : Nat) (pos : Pos) (a : α) (h' : Heap) (t' : Nat) (pos' : Pos) : Prop where
  run : ∀ (K : α → Sem Fin) (H : Value → Sem Fin) (gd : Bool → Bool) (lv : List Value → List Value) (code : Code) (f : Frame) (B : List Frame), Rn p n₀ ann w n ⟨h, g, d, t, os⟩ ⟨m.wrap K H gd lv, code, pos, f :: B⟩ ⟨h', g, d, t', os⟩ ⟨K a, code, pos', f :: B⟩
end
section
variable {p : Program} {n₀ : Nat} {ann : Option Value} {g : Array GenState} {d : Drawn} {os : OsState} {w : World} {α β : Type}
theorem Rn.refl {s : Shared} {t : Thread} : Rn p n₀ ann w 0 s t s t := fun N r h => by rw [Nat.zero_add]; exact h
theorem Rn.trans {n k : Nat} {s s₁ s₂ : Shared} {t t₁ t₂ : Thread} (h : Rn p n₀ ann w n s t s₁ t₁) (h' : Rn p n₀ ann w k s₁ t₁ s₂ t₂) : Rn p n₀ ann w (n + k) s t s₂ t₂ := fun N r q => by
  rw [Nat.add_assoc]; exact h _ _ (h' _ _ q)
theorem Rn.step {s s₁ : Shared} {t t₁ : Thread} (h1 : endAt 0 t = none) (h2 : stepOk n₀ ann t = true) (h3 : step (denote treeTable) p w s t = .go s₁ t₁) : Rn p n₀ ann w 1 s t s₁ t₁ := fun N r q => by
  rw [Nat.add_comm]
  unfold segRun
  rw [h1, h2, h3]
  exact q
theorem Rn.go {n : Nat} {s s₁ : Shared} {t t₁ : Thread} (h : segGo treeTable p w n₀ ann 0 n s t = some (s₁, t₁)) : Rn p n₀ ann w n s t s₁ t₁ := fun N r q => seg_go h q
noncomputable def idle : Sem Fin → Bool
  | .pure _ => false
  | _ => true
theorem end_idle {t : Thread} (h : idle t.cur = true) : endAt 0 t = none := by
  unfold endAt
  cases h1 : (t.stack.length == 0) with
  | false => rfl
  | true =>
    cases h2 : t.cur with
    | pure f => rw [h2] at h; cases h
    | _ => rfl
variable {h h₁ h₂ : Heap} {t t₁ t₂ : Nat} {pos pos₁ pos₂ : Pos} {n k : Nat}
theorem XR.at_n {n n' : Nat} {m : Sem α} {a : α} (x : XR p n₀ ann g d os w n m h t pos a h₁ t₁ pos₁) (e : n = n') : XR p n₀ ann g d os w n' m h t pos a h₁ t₁ pos₁ := e ▸ x
theorem XR_pure {a : α} : XR p n₀ ann g d os w 0 (pure a : Sem α) h t pos a h t pos := ⟨fun _ _ _ _ _ _ _ => Rn.refl⟩
theorem XR_bind {m : Sem α} {f : α → Sem β} {a : α} {b : β} (x : XR p n₀ ann g d os w n m h t pos a h₁ t₁ pos₁) (x' : XR p n₀ ann g d os w k (f a) h₁ t₁ pos₁ b h₂ t₂ pos₂) : XR p n₀ ann g d os w (n + k) (m >>= f) h t pos b h₂ t₂ pos₂ := ⟨fun K H gd lv code fr B => by
  rw [Sem.bind_eq_wrap', Sem.wrap_wrap]
  exact (x.run (fun a => (f a).wrap K H gd lv) _ _ _ code fr B).trans (x'.run K H gd lv code fr B)⟩
theorem XR_holding {m : Sem α} {vs : List Value} {a : α} (x : XR p n₀ ann g d os w n m h t pos a h₁ t₁ pos₁) : XR p n₀ ann g d os w n (holding vs m) h t pos a h₁ t₁ pos₁ := by
  unfold holding
  split
  · exact x
  · refine ⟨fun K H gd lv code fr B => ?_⟩
    rw [Sem.keep_eq_wrap, Sem.wrap_wrap]
    exact x.run K _ _ _ code fr B
theorem XR_load {a : Addr} {q : Option Value} {o : Obj} (e : h.get? a = some o) : XR p n₀ ann g d os w 1 (.load a q .pure) h t pos o h t pos := ⟨fun K H gd lv code fr B => by
  refine Rn.step (end_idle rfl) rfl ?_
  show (match h.get? a with | some o => _ | none => _) = _
  rw [e]
  rfl⟩
theorem XR_fresh : XR p n₀ ann g d os w 1 fresh h t pos t h (t + 1) pos := ⟨fun K H gd lv code fr B => Rn.step (end_idle rfl) rfl rfl⟩
theorem XR_alloc {o : Obj} : XR p n₀ ann g d os w 1 (alloc o) h t pos h.objs.size (h.push o) t pos := ⟨fun K H gd lv code fr B => Rn.step (end_idle rfl) rfl rfl⟩
theorem XR_ask : XR p n₀ ann g d os w 1 ask h t pos ⟨p, w.params⟩ h t pos := ⟨fun K H gd lv code fr B => Rn.step (end_idle rfl) rfl rfl⟩
theorem XR_point : XR p n₀ ann g d os w 1 point h t pos () h t pos := ⟨fun K H gd lv code fr B => Rn.step (end_idle rfl) rfl rfl⟩
theorem XR_standAt {q : Pos} : XR p n₀ ann g d os w 1 (standAt q) h t pos () h t q := ⟨fun K H gd lv code fr B => Rn.step (end_idle rfl) rfl rfl⟩
theorem XR_update {a : Addr} {q : Option Value} {f : Obj → Obj} {o : Obj} (e : h.get? a = some o) (ha : Nat.ble n₀ a = true) : XR p n₀ ann g d os w 1 (.update a q f .pure) h t pos () (h.update a f) t pos := ⟨fun K H gd lv code fr B => by
  refine Rn.step (end_idle rfl) ?_ ?_
  · show (true && (Nat.ble n₀ a || _ || _ || _)) = true
    rw [ha]; rfl
  show (if (h.get? a).isSome = true then _ else _) = _
  rw [e]
  rfl⟩
end
end M6
namespace M6
section
variable {p : Program} {n₀ : Nat} {ann : Option Value} {g : Array GenState} {d : Drawn} {os : OsState} {w : World} {h : Heap} {t : Nat} {pos : Pos}
/-- Texts with their tokens. -/
noncomputable def texts : List Str → Nat → List Value
  | [], _ => []
  | x :: l, t => .str x t :: texts l (t + 1)
theorem XR_mkText {x : Str} : XR p n₀ ann g d os w 1 (mkText x) h t pos (.str x t) h (t + 1) pos := by
  unfold mkText
  refine XR.at_n (n := 1 + 0) ?_ rfl
  refine XR_bind XR_fresh ?_
  exact XR_pure
theorem XR_loop : ∀ (l : List Str) (acc : List Value) (t : Nat), XR p n₀ ann g d os w l.length (List.mapM.loop mkText l acc) h t pos (acc.reverse ++ texts l t) h (t + l.length) pos
  | [], acc, t => by
    show XR p n₀ ann g d os w 0 (pure acc.reverse) h t pos (acc.reverse ++ []) h t pos
    rw [List.append_nil]
    exact XR_pure
  | x :: l, acc, t => by
    have k := XR_loop l (.str x t :: acc) (t + 1)
    have e : (.str x t :: acc : List Value).reverse ++ texts l (t + 1) = acc.reverse ++ texts (x :: l) t := by
      rw [List.reverse_cons, List.append_assoc]; rfl
    rw [e, show t + 1 + l.length = t + (x :: l).length by rw [List.length_cons]; omega] at k
    refine XR.at_n (n := 1 + l.length) ?_ (by rw [List.length_cons, Nat.add_comm])
    refine XR_bind XR_mkText ?_
    exact k
theorem XR_texts {l : List Str} : XR p n₀ ann g d os w l.length (l.mapM mkText) h t pos (texts l t) h (t + l.length) pos := XR_loop l [] t
theorem XR_tuple {l : List Value} : XR p n₀ ann g d os w 1 (newTextTuple l) h t pos (.ref h.objs.size) (h.push { cls := .type "tuple", data := .seq l.toArray }) t pos := by
  unfold newTextTuple newObjAsIs
  refine XR.at_n (n := 1 + 0) ?_ rfl
  refine XR_bind XR_alloc ?_
  exact XR_pure
theorem XR_fields {ty : String} {l : List Value} (hz : l.length ≤ sizeLine + 2) : XR p n₀ ann g d os w 1 (newFields ty l) h t pos (.ref h.objs.size) (h.push { cls := .type ty, data := .fields l.toArray }) t pos := by
  unfold newFields newObj newObjAsIs
  refine XR.at_n (n := 1 + 0) ?_ rfl
  dsimp only
  rw [if_neg (by rw [List.size_toArray]; omega)]
  refine XR_bind XR_alloc ?_
  exact XR_pure
structure CodeCx where
  file : Str
  flags : Int
  inF : Bool
  text : Int
noncomputable def CodeCx.ctx (x : CodeCx) (env : Env) : CodeContext := { file := x.file, future := x.flags.toNat &&& (coFutureAnnotations ||| coFutureBarry), inFunction := x.inF || env.scope.kind == .function, text := x.text.toNat }
/-- The objects of a new code, from an address and a token on. -/
noncomputable def codeObjs (c : CodeContext) (name qual : Str) (line argc posc kwc flags : Nat) (fn : Bool) (v cl : List Str) (fd : FuncData) (n t : Nat) : List Obj :=
  [{ cls := .type "tuple", data := .seq #[] }, { cls := .none, data := .fields #[] }, { cls := .type "tuple", data := .seq (texts v (t + 3)).toArray }, { cls := .type "tuple", data := .seq (texts cl (t + 3 + v.length)).toArray }, { cls := .none, data := .func fd },
    { cls := .type "code", data := .fields #[.str name t, .str qual (t + 1), .str c.file (t + 2), rawInt line, rawInt argc, rawInt posc, rawInt kwc, rawInt flags, .ref n, .bool (fn || c.inFunction), rawInt c.text, .ref (n + 1), .none, .ref (n + 2), .ref (n + 3), .ref (n + 4),
      rawInt ((t + 3 + v.length + cl.length : Nat) : Int), rawInt line, .str c.file (t + 3 + v.length + cl.length + 1)] }]
noncomputable def pushAll (h : Heap) : List Obj → Heap
  | [] => h
  | o :: l => pushAll (h.push o) l
theorem XR_newCode {c : CodeContext} {name qual : Str} {line argc posc kwc flags : Nat} {fn : Bool} {v cl : List Str} {fd : FuncData} :
    XR p n₀ ann g d os w (11 + v.length + cl.length) (newCode c name qual line argc posc kwc flags [] fn none (some (v, cl)) (some fd)) h t pos (.ref (h.objs.size + 5))
      (pushAll h (codeObjs c name qual line argc posc kwc flags fn v cl fd h.objs.size t)) (t + 3 + v.length + cl.length + 1 + 1) pos := by
  unfold newCode
  refine XR.at_n (n := 1 + (1 + (1 + (0 + (1 + (1 + (v.length + (1 + (cl.length + (1 + (1 + (0 + (1 + (1 + 1)))))))))))))) ?_ (by omega)
  refine XR_bind XR_mkText ?_
  refine XR_bind XR_mkText ?_
  refine XR_bind XR_mkText ?_
  refine XR_bind (a := ([] : List Value)) XR_pure ?_
  refine XR_bind XR_tuple ?_
  refine XR_bind XR_alloc ?_
  dsimp only
  refine XR_bind XR_texts ?_
  refine XR_bind XR_tuple ?_
  refine XR_bind XR_texts ?_
  refine XR_bind XR_tuple ?_
  refine XR_bind XR_alloc ?_
  refine XR_bind XR_pure ?_
  refine XR_bind XR_fresh ?_
  refine XR_bind XR_mkText ?_
  have e := XR_fields (p := p) (n₀ := n₀) (ann := ann) (g := g) (d := d) (os := os) (w := w) (h := pushAll h ((codeObjs c name qual line argc posc kwc flags fn v cl fd h.objs.size t).take 5)) (t := t + 3 + v.length + cl.length + 1 + 1) (pos := pos) (ty := "code")
    (l := [.str name t, .str qual (t + 1), .str c.file (t + 2), rawInt line, rawInt argc, rawInt posc, rawInt kwc, rawInt flags, .ref h.objs.size, .bool (fn || c.inFunction), rawInt c.text, .ref (h.objs.size + 1), .none, .ref (h.objs.size + 2), .ref (h.objs.size + 3), .ref (h.objs.size + 4),
      rawInt ((t + 3 + v.length + cl.length : Nat) : Int), rawInt line, .str c.file (t + 3 + v.length + cl.length + 1)]) (by have : sizeLine = 2 ^ 24 := rfl; simp only [List.length_cons, List.length_nil]; omega)
  simp only [codeObjs, List.take, pushAll, Heap.size_push] at e ⊢
  exact e
end
end M6
namespace M6
noncomputable def plOf : List (Int × Int × Value) → List Value
  | [] => []
  | (a, b, c) :: r => rawInt a :: rawInt b :: c :: plOf r
noncomputable def plObj (l : List (Int × Int × Value)) : Obj := { cls := .none, data := .fields (plOf l).toArray }
theorem plOf_app (r : List (Int × Int × Value)) : ∀ l, plOf (l ++ r) = plOf l ++ plOf r
  | [] => rfl
  | (a, b, c) :: l => by show rawInt a :: rawInt b :: c :: plOf (l ++ r) = _; rw [plOf_app r l]; rfl
noncomputable def Away (pos : Pos) (l : List (Int × Int × Value)) : Prop := ∀ x ∈ l, ((x.1 == (pos.line : Int)) && (x.2.1 == (pos.col : Int))) = false
theorem codeAmong_none {pos : Pos} : ∀ {l : List (Int × Int × Value)}, Away pos l → codeAmong pos (plOf l) = none
  | [], _ => rfl
  | (a, b, c) :: r, h => by
    show (if ((a == (pos.line : Int)) && (b == (pos.col : Int))) = true then some c else codeAmong pos (plOf r)) = none
    rw [h _ (.head _)]
    exact codeAmong_none fun x hx => h x (.tail _ hx)
theorem codeAmong_app {pos : Pos} {v : Value} : ∀ {l : List (Int × Int × Value)}, Away pos l → codeAmong pos (plOf (l ++ [((pos.line : Int), (pos.col : Int), v)])) = some v
  | [], _ => by
    show (if (((pos.line : Int) == (pos.line : Int)) && ((pos.col : Int) == (pos.col : Int))) = true then some v else none) = some v
    rw [beq_self_eq_true, beq_self_eq_true]
    rfl
  | (a, b, c) :: r, h => by
    show (if ((a == (pos.line : Int)) && (b == (pos.col : Int))) = true then some c else codeAmong pos (plOf (r ++ _))) = some v
    rw [h _ (.head _)]
    exact codeAmong_app fun x hx => h x (.tail _ hx)
section
variable {p : Program} {n₀ : Nat} {ann : Option Value} {g : Array GenState} {d : Drawn} {os : OsState} {w : World} {h h₁ : Heap} {t t₁ n : Nat} {pos pos₀ : Pos}
theorem XR_fieldsOf {a : Addr} {o : Obj} {vs : Array Value} (e : h.get? a = some o) (hd : o.data = .fields vs) : XR p n₀ ann g d os w 1 (fieldsOf (.ref a)) h t pos vs h t pos := by
  unfold fieldsOf
  refine XR.at_n (n := 1 + 0) ?_ rfl
  refine XR_bind (XR_load e) ?_
  rw [hd]
  exact XR_pure
structure CodeAt (h : Heap) (cA pA : Addr) (x : CodeCx) (l : List (Int × Int × Value)) : Prop where
  code : ∃ oc vs ft t1 t2, h.get? cA = some oc ∧ oc.data = .fields vs ∧ vs.getD 11 .none = .ref pA ∧ vs.getD 18 .none = .str x.file ft ∧ vs.getD 7 .none = .int x.flags t1 ∧ vs.getD 9 .none = .bool x.inF ∧ vs.getD 10 .none = .int x.text t2
  places : h.get? pA = some (plObj l)
theorem XR_codeAt {env : Env} {make : CodeContext → Sem Value} {cA pA : Addr} {x : CodeCx} {l : List (Int × Int × Value)} {c : Value} (hc : env.code = .ref cA) (C : CodeAt h cA pA x l) (aw : Away pos l)
    (mk : XR p n₀ ann g d os w n (make (x.ctx env)) h t pos₀ c h₁ t₁ pos₀) (h7 : h₁.get? pA = some (plObj l)) (ha : Nat.ble n₀ pA = true)
    {h₂ : Heap} (hu : h₁.update pA (Obj.mapFields fun vs => if (codeAmong pos vs.toList).isSome then vs else vs ++ #[rawInt pos.line, rawInt pos.col, c]) = h₂) (h8 : h₂.get? pA = some (plObj (l ++ [((pos.line : Int), (pos.col : Int), c)]))) :
    XR p n₀ ann g d os w (n + 5) (codeAt env pos make) h t pos₀ c h₂ t₁ pos₀ := by
  obtain ⟨⟨oc, vs, ft, t1, t2, c1, c2, c3, c4, c5, c6, c7⟩, C2⟩ := C
  unfold codeAt
  rw [hc]
  refine XR.at_n (n := 1 + (1 + (n + ((1 + 1) + (1 + 0))))) ?_ (by omega)
  rw [if_neg (by exact Bool.false_ne_true)]
  refine XR_bind (XR_fieldsOf c1 c2) ?_
  rw [c3]
  dsimp only
  refine XR_bind (XR_fieldsOf C2 rfl) ?_
  rw [show (plOf l).toArray.toList = plOf l by simp, codeAmong_none aw]
  dsimp only
  rw [c4, c5, c6, c7]
  dsimp only
  refine XR_bind mk ?_
  have up : XR p n₀ ann g d os w (1 + 1) (updateFieldsOfTheText pA fun vs => if (codeAmong pos vs.toList).isSome then vs else vs ++ #[rawInt pos.line, rawInt pos.col, c]) h₁ t₁ pos₀ () h₂ t₁ pos₀ := by
    unfold updateFieldsOfTheText
    refine XR_bind (XR_load h7) ?_
    show XR p n₀ ann g d os w 1 (update pA _) h₁ t₁ pos₀ () h₂ t₁ pos₀
    rw [← hu]
    exact XR_update h7 ha
  refine XR_bind up ?_
  refine XR_bind (XR_fieldsOf h8 rfl) ?_
  rw [show (plOf (l ++ [((pos.line : Int), (pos.col : Int), c)])).toArray.toList = plOf (l ++ [((pos.line : Int), (pos.col : Int), c)]) by simp, codeAmong_app aw]
  exact XR_pure
theorem XR_closureFor {scope : Scope} {env : Env} (hf : scope.names.all (fun x => x.2 != .free) = true) : XR p n₀ ann g d os w 0 (closureFor scope env) h t pos [] h t pos := by
  have e : closureFor scope env = pure [] := by
    unfold closureFor
    have : ∀ (l : List (Str × NameKind)), l.all (fun x => x.2 != .free) = true → ∀ (acc : List (Str × Addr)), (forIn l acc fun x r => match x with | (name, kind) => if (kind == NameKind.free) = true then do let c ← cellOf env name; pure (ForInStep.yield ((name, c) :: r)) else pure (ForInStep.yield r)) = (pure acc : Sem _) := by
      intro l
      induction l with
      | nil => intro _ acc; rfl
      | cons x l ih =>
        intro hl acc
        rw [List.all_cons, Bool.and_eq_true] at hl
        obtain ⟨a, b⟩ := x
        have hb : (b == NameKind.free) = false := by simpa using hl.1
        rw [List.forIn_cons]
        simp only [hb, Bool.false_eq_true, if_false]
        exact ih hl.2 acc
    have := this scope.names hf []
    simp only at this ⊢
    rw [this]
    rfl
  rw [e]
  exact XR_pure
end
end M6
namespace M6
noncomputable abbrev hsh (w : World) (name : Str) : Int := PyData.keyHash w.params name
noncomputable def nsObj (es : List DictEntry) : Obj := { cls := .type "dict", data := .dict es.toArray es.length }
noncomputable def Fresh (name : Str) (es : List DictEntry) : Prop := ∀ e ∈ es, e.key.isStr name = false ∧ e.refKey = false
theorem putName_new {name : Str} {es : List DictEntry} {hs : Int} {key v : Value} (hf : Fresh name es) : Obj.putName name hs key v (nsObj es) = nsObj (es ++ [⟨hs, key, v⟩]) := by
  rw [Obj.putName_eq]
  show (match es.toArray.findIdx? (·.key.isStr name) with | some i => _ | none => _) = _
  have : es.toArray.findIdx? (·.key.isStr name) = none := by
    rw [Array.findIdx?_eq_none_iff]
    intro x hx
    exact (hf x (by simpa using hx)).1
  rw [this]
  unfold nsObj
  simp
theorem refKey_no {name : Str} {es : List DictEntry} (hf : Fresh name es) : aRefKeyMayBeTheName name es.toArray = false := by
  rw [aRefKeyMayBeTheName_at]
  have : es.toArray.any (·.refKey) = false := by
    rw [List.any_toArray, List.any_eq_false]
    intro x hx
    simpa using (hf x hx).2
  rw [this, Bool.and_false]
section
variable {p : Program} {n₀ : Nat} {ann : Option Value} {g : Array GenState} {d : Drawn} {os : OsState} {w : World} {h h₁ : Heap} {t t₁ n : Nat} {pos pos₀ : Pos}
theorem XR_strHash {name : Str} : XR p n₀ ann g d os w 1 (strHash name) h t pos (hsh w name) h t pos := by
  unfold strHash
  refine XR.at_n (n := 1 + 0) ?_ rfl
  refine XR_bind XR_ask ?_
  exact XR_pure
theorem XR_nsSet {a : Addr} {name : Str} {v : Value} {es : List DictEntry} (e : h.get? a = some (nsObj es)) (hf : Fresh name es) (ha : Nat.ble n₀ a = true) : XR p n₀ ann g d os w 4 (nsSet a name v) h t pos () (h.update a (Obj.putName name (hsh w name) (.str name t) v)) (t + 1) pos := by
  unfold nsSet
  refine XR.at_n (n := 1 + (1 + (1 + 1))) ?_ rfl
  refine XR_bind XR_strHash ?_
  refine XR_bind XR_mkText ?_
  refine XR_bind (XR_load e) ?_
  show XR p n₀ ann g d os w 1 (if aRefKeyMayBeTheName name es.toArray = true then _ else _) h (t + 1) pos () _ _ pos
  rw [refKey_no hf]
  simp only [Bool.false_eq_true, if_false]
  exact XR_update e ha
/-- A name of a class's block is stored. -/
theorem XR_bindName {env : Env} {name : Str} {v : Value} {es : List DictEntry} (hk : env.kindOf name = some .local) (hc : env.scope.kind = .class) (e : h.get? env.locals = some (nsObj es)) (hf : Fresh name es) (ha : Nat.ble n₀ env.locals = true) :
    XR p n₀ ann g d os w 7 (bindName env name v) h t pos () (h.update env.locals (Obj.putName name (hsh w name) (.str name t) v)) (t + 1) pos := by
  unfold bindName storeName
  rw [hk, hc]
  refine XR.at_n (n := 1 + ((1 + 4) + 1)) ?_ rfl
  refine XR_bind (XR_holding XR_point) ?_
  dsimp only
  refine XR_bind (a := ()) ?_ XR_point
  show XR p n₀ ann g d os w (1 + 4) (localSet env name v) h t pos () _ _ pos
  unfold localSet
  refine XR_bind (XR_load e) ?_
  exact XR_nsSet e hf ha
/-- What a def's statement asks for. -/
structure DefOk (env : Env) (name bind : Str) (args : Arguments) (body : List Stmt) (scope : Scope) (v cl : List Str) : Prop where
  kind : env.kindOf bind = some .local
  free : scope.names.all (fun x => x.2 != .free) = true
  names : scope.freeNames = []
  locals : localNames args scope (.stmts body) = some (v, cl)
  kwo : args.kwonlyargs = []
  kwd : args.kw_defaults = []
  doc : docOf body = none
  ann : (match args with | ⟨po, a, va, ko, _, kwa, _⟩ => annotationsOf (a ++ po ++ va.toList ++ ko ++ kwa.toList) env) = []
noncomputable def tmpl (name qual : Str) (args : Arguments) (body : List Stmt) (scope : Scope) : FuncData := { name, qualname := qual, params := args, body := .stmts body, scope, globals := builtinsNs, closure := [], defaults := .none, kwdefaults := .none }
noncomputable def dCode (x : CodeCx) (env : Env) (name bind : Str) (args : Arguments) (body : List Stmt) (scope : Scope) (pos : Pos) (v cl : List Str) (n t : Nat) : List Obj :=
  codeObjs (x.ctx env) name (qualnameIn env name bind) pos.line (args.posonlyargs.length + args.args.length) args.posonlyargs.length args.kwonlyargs.length (functionFlags args.vararg.isSome args.kwarg.isSome scope (x.ctx env)) true v cl (tmpl name (qualnameIn env name bind) args body scope) n t
noncomputable def dFunc (env : Env) (bA : Addr) (name bind : Str) (args : Arguments) (body : List Stmt) (scope : Scope) (dV pm : Value) (n : Nat) : FuncData :=
  { name, qualname := qualnameIn env name bind, params := args, body := .stmts body, scope, globals := env.globals, closure := [], closureTuple := .none, code := .ref (n + 5), builtins := bA, defaults := dV, kwdefaults := .none, annotations := none, pyModule := pm, doc := .none }
theorem XR_makeFunction {env : Env} {name bind : Str} {args : Arguments} {body : List Stmt} {scope : Scope} {v cl : List Str} {cA pA bA : Addr} {x : CodeCx} {l : List (Int × Int × Value)} {dv : List Value} {dV pm : Value} {nd : Nat} {hd h₁ h₂ : Heap} (D : DefOk env name bind args body scope v cl)
    (hc : env.code = .ref cA) (ha : Nat.ble n₀ pA = true) (aw : Away pos l)
    (xd : (dv = [] ∧ dV = .none ∧ hd = h ∧ nd = 0) ∨ (dv ≠ [] ∧ dV = .ref h.objs.size ∧ hd = h.push { cls := .type "tuple", data := .seq dv.toArray } ∧ nd = 1)) (C : CodeAt hd cA pA x l) (e1 : pushAll hd (dCode x env name bind args body scope pos v cl hd.objs.size t) = h₁) (C1 : h₁.get? pA = some (plObj l))
    (e2 : h₁.update pA (Obj.mapFields fun vs => if (codeAmong pos vs.toList).isSome then vs else vs ++ #[rawInt pos.line, rawInt pos.col, .ref (hd.objs.size + 5)]) = h₂) (C2 : h₂.get? pA = some (plObj (l ++ [((pos.line : Int), (pos.col : Int), .ref (hd.objs.size + 5))])))
    (xb : ∀ t, XR p n₀ ann g d os w 2 (builtinsFor env.globals env.builtins) h₂ t pos bA h₂ t pos) (xm : ∀ t, XR p n₀ ann g d os w 1 (nsGet env.globals "__name__") h₂ t pos (some pm) h₂ t pos) :
    XR p n₀ ann g d os w (nd + (20 + v.length + cl.length)) (makeFunction name (qualnameIn env name bind) args (.stmts body) scope env dv [] [] pos pos.line) h t pos (.ref h₂.objs.size)
      (h₂.push { cls := .type "function", data := .func (dFunc env bA name bind args body scope dV pm hd.objs.size) }) (t + 3 + v.length + cl.length + 1 + 1) pos := by
  unfold makeFunction
  rw [D.kwo]
  have code : XR p n₀ ann g d os w (11 + v.length + cl.length + 5) (functionCode env pos pos.line name (qualnameIn env name bind) args scope (.stmts body)) hd t pos (.ref (hd.objs.size + 5)) h₂ (t + 3 + v.length + cl.length + 1 + 1) pos := by
    unfold functionCode
    refine XR_codeAt hc C aw ?_ C1 ha e2 C2
    rw [D.names, D.locals, ← e1]
    exact XR_newCode
  have tail : ∀ {X : Sem Value}, X = (functionCode env pos pos.line name (qualnameIn env name bind) args scope (.stmts body) >>= fun c => builtinsFor env.globals env.builtins >>= fun b => nsGet env.globals "__name__" >>= fun m =>
      newObj (.type "function") (.func { name, qualname := qualnameIn env name bind, params := args, body := .stmts body, scope, globals := env.globals, closure := [], closureTuple := .none, code := c, builtins := b, defaults := dV, kwdefaults := .none, annotations := none, pyModule := m.getD .none, doc := .none })) →
      XR p n₀ ann g d os w (20 + v.length + cl.length) X hd t pos (.ref h₂.objs.size) (h₂.push { cls := .type "function", data := .func (dFunc env bA name bind args body scope dV pm hd.objs.size) }) (t + 3 + v.length + cl.length + 1 + 1) pos := by
    rintro _ rfl
    refine XR.at_n (n := (11 + v.length + cl.length + 5) + (2 + (1 + (1 + 0)))) ?_ (by lia)
    refine XR_bind code ?_
    refine XR_bind (xb _) ?_
    refine XR_bind (xm _) ?_
    unfold newObj newObjAsIs
    refine XR_bind XR_alloc ?_
    exact XR_pure
  have cl0 : XR p n₀ ann g d os w 0 (closureFor scope env) hd t pos [] hd t pos := XR_closureFor D.free
  rcases xd with ⟨rfl, rfl, rfl, rfl⟩ | ⟨hne, rfl, rfl, rfl⟩
  · refine XR_bind (a := Value.none) XR_pure ?_
    refine XR.at_n (n := 0 + (0 + (0 + (0 + (20 + v.length + cl.length))))) ?_ (by lia)
    refine XR_bind (a := Value.none) XR_pure ?_
    refine XR_bind (a := none) XR_pure ?_
    refine XR_bind cl0 ?_
    refine XR_bind (a := Value.none) XR_pure ?_
    refine tail ?_
    (try dsimp only)
    simp only [D.doc]
    rfl
  · rw [show dv.isEmpty = false by cases dv with | nil => exact absurd rfl hne | cons _ _ => rfl]
    simp only [Bool.false_eq_true, if_false]
    refine XR_bind XR_tuple ?_
    refine XR.at_n (n := 0 + (0 + (0 + (0 + (20 + v.length + cl.length))))) ?_ (by lia)
    refine XR_bind (a := Value.none) XR_pure ?_
    refine XR_bind (a := none) XR_pure ?_
    refine XR_bind cl0 ?_
    refine XR_bind (a := Value.none) XR_pure ?_
    refine tail ?_
    (try dsimp only)
    simp only [D.doc]
    rfl
/-- A def's statement in a class's block. -/
theorem XR_def {env : Env} {name bind : Str} {args : Arguments} {body : List Stmt} {scope : Scope} {v cl : List Str} {cA pA bA : Addr} {x : CodeCx} {l : List (Int × Int × Value)} {es : List DictEntry} {dv : List Value} {dV pm : Value} {nd ne : Nat} {ts : Option Scope} {h' hd h₁ h₂ : Heap} {t' : Nat} (D : DefOk env name bind args body scope v cl)
    (hk : env.scope.kind = .class) (hc : env.code = .ref cA) (ha : Nat.ble n₀ pA = true) (hl : Nat.ble n₀ env.locals = true) (aw : Away pos l) (fr : Fresh bind es)
    (xe : XR p n₀ ann g d os w ne (evalAll (defaultsOf args env).1) h t pos dv h' t' pos)
    (xd : (dv = [] ∧ dV = .none ∧ hd = h' ∧ nd = 0) ∨ (dv ≠ [] ∧ dV = .ref h'.objs.size ∧ hd = h'.push { cls := .type "tuple", data := .seq dv.toArray } ∧ nd = 1)) (C : CodeAt hd cA pA x l) (e1 : pushAll hd (dCode x env name bind args body scope pos v cl hd.objs.size t') = h₁) (C1 : h₁.get? pA = some (plObj l))
    (e2 : h₁.update pA (Obj.mapFields fun vs => if (codeAmong pos vs.toList).isSome then vs else vs ++ #[rawInt pos.line, rawInt pos.col, .ref (hd.objs.size + 5)]) = h₂) (C2 : h₂.get? pA = some (plObj (l ++ [((pos.line : Int), (pos.col : Int), .ref (hd.objs.size + 5))])))
    (xb : ∀ t, XR p n₀ ann g d os w 2 (builtinsFor env.globals env.builtins) h₂ t pos bA h₂ t pos) (xm : ∀ t, XR p n₀ ann g d os w 1 (nsGet env.globals "__name__") h₂ t pos (some pm) h₂ t pos)
    (en : (h₂.push { cls := .type "function", data := .func (dFunc env bA name bind args body scope dV pm hd.objs.size) }).get? env.locals = some (nsObj es)) :
    XR p n₀ ann g d os w (1 + (ne + ((nd + (20 + v.length + cl.length)) + (1 + 7)))) (exec (.FunctionDef name args body [] none [] scope ts bind pos) env) h t pos₀ .next
      ((h₂.push { cls := .type "function", data := .func (dFunc env bA name bind args body scope dV pm hd.objs.size) }).update env.locals (Obj.putName bind (hsh w bind) (.str bind (t' + 3 + v.length + cl.length + 1 + 1)) (.ref h₂.objs.size))) (t' + 3 + v.length + cl.length + 1 + 1 + 1) pos := by
  rw [arm_exec_FunctionDef]
  have en2 : (defaultsOf args env).2 = [] := by
    have h2 := D.kwd
    obtain ⟨po, a, va, ko, kwd, kwa, df⟩ := args
    dsimp only at h2
    subst h2
    rfl
  have en1 := D.ann
  unfold defStmt
  refine XR.at_n (n := 0 + (1 + ((ne + (0 + (0 + (nd + (20 + v.length + cl.length))))) + (0 + (1 + (7 + 0)))))) ?_ (by lia)
  refine XR_bind (a := ([] : List Value)) XR_pure ?_
  refine XR_bind XR_standAt ?_
  refine XR_bind (a := Value.ref h₂.objs.size) (h₁ := h₂.push { cls := .type "function", data := .func (dFunc env bA name bind args body scope dV pm hd.objs.size) }) (t₁ := t' + 3 + v.length + cl.length + 1 + 1) (pos₁ := pos) (XR_holding ?_) ?_
  rotate_right
  · refine XR_bind (a := Value.ref h₂.objs.size) XR_pure ?_
    refine XR_bind XR_standAt ?_
    refine XR_bind (XR_bindName D.kind hk en fr hl) ?_
    exact XR_pure
  refine XR_bind xe ?_
  refine XR_bind (a := ([] : List (Option Value))) (h₁ := h') (t₁ := t') (pos₁ := pos) (XR_holding ?_) ?_
  · rw [en2]
    exact XR_pure
  refine XR_holding ?_
  refine XR_bind (a := ([] : List (Str × Value))) (h₁ := h') (t₁ := t') (pos₁ := pos) ?_ ?_
  · obtain ⟨po, a, va, ko, kwd, kwa, df⟩ := args
    dsimp only at en1 ⊢
    rw [en1]
    exact XR_pure
  exact XR_makeFunction D hc ha aw xd C e1 C1 e2 C2 xb xm
end
end M6
namespace M6
/-- The heap while a class's block runs: what is new, the class's table, the codes' places. -/
structure CS where
  objs : List Obj
  ns : List DictEntry
  pl : List (Int × Int × Value)
structure Bs where
  A : List Obj
  x25 : Obj
  x27 : Obj
  x28 : Obj
  life : Life
noncomputable def mkH (b : Bs) (c : CS) : Heap := ⟨(b.A ++ (nsObj c.ns :: b.x25 :: plObj c.pl :: b.x27 :: b.x28 :: c.objs)).toArray, b.life⟩
theorem modify_app {α : Type} (f : α → α) : ∀ (A B : List α) (i : Nat), (A ++ B).modify (A.length + i) f = A ++ B.modify i f
  | [], B, i => by simp
  | a :: A, B, i => by
    rw [List.length_cons, show A.length + 1 + i = A.length + i + 1 by lia, List.cons_append, List.modify_succ_cons, modify_app f A B i]
    rfl
theorem isStr_str' (a b : Str) (t : Tok) : (Value.str a t).isStr b = (a == b) := rfl
theorem alive_get (x : Obj) : (match some x with | some ⟨_, _, .freed, _⟩ => none | o => o) = alive x := by
  obtain ⟨a, b, c, d⟩ := x
  cases c <;> rfl
section
variable {b : Bs} {c : CS} (hA : b.A.length = 24)
include hA
theorem mkH_size : (mkH b c).objs.size = 29 + c.objs.length := by
  unfold mkH
  simp only [List.size_toArray, List.length_append, List.length_cons, hA]
  lia
theorem mkH_at {i : Nat} : (mkH b c).objs[24 + i]? = (nsObj c.ns :: b.x25 :: plObj c.pl :: b.x27 :: b.x28 :: c.objs)[i]? := by
  unfold mkH
  rw [List.getElem?_toArray, List.getElem?_append_right (by lia), hA, Nat.add_sub_cancel_left]
theorem mkH_24 : (mkH b c).get? 24 = some (nsObj c.ns) := by
  unfold Heap.get?
  rw [show (24 : Addr) = 24 + 0 from rfl, mkH_at hA]
  rfl
theorem mkH_26 : (mkH b c).get? 26 = some (plObj c.pl) := by
  unfold Heap.get?
  rw [show (26 : Addr) = 24 + 2 from rfl, mkH_at hA]
  rfl
theorem mkH_27 (o : Obj) (h : alive b.x27 = some o) : (mkH b c).get? 27 = some o := by
  unfold Heap.get?
  rw [show (27 : Addr) = 24 + 3 from rfl, mkH_at hA]
  exact (alive_get _).trans h
theorem mkH_A {i : Nat} {o : Obj} (hi : i < 24) (h : b.A[i]?.bind alive = some o) : (mkH b c).get? i = some o := by
  unfold Heap.get? mkH
  rw [List.getElem?_toArray, List.getElem?_append_left (by lia)]
  cases q : b.A[i]? with
  | none => rw [q] at h; cases h
  | some x => rw [q] at h; exact (alive_get x).trans h
omit hA in
theorem mkH_push {o : Obj} : (mkH b c).push o = mkH b { c with objs := c.objs ++ [o] } := by
  unfold mkH Heap.push
  simp
omit hA in
theorem mkH_pushAll : ∀ (l : List Obj) (c : CS), pushAll (mkH b c) l = mkH b { c with objs := c.objs ++ l }
  | [], c => by simp [pushAll]
  | o :: l, c => by
    unfold pushAll
    rw [mkH_push, mkH_pushAll l]
    simp
theorem mkH_upd {i : Nat} {f : Obj → Obj} : (mkH b c).update (24 + i) f = ⟨(b.A ++ (nsObj c.ns :: b.x25 :: plObj c.pl :: b.x27 :: b.x28 :: c.objs).modify i f).toArray, b.life⟩ := by
  show (⟨((b.A ++ (nsObj c.ns :: b.x25 :: plObj c.pl :: b.x27 :: b.x28 :: c.objs)).toArray).modify (24 + i) f, b.life⟩ : Heap) = _
  congr 1
  rw [List.modify_toArray]
  congr 1
  rw [← hA]
  exact modify_app f _ _ _
theorem mkH_put {name : Str} {hs : Int} {key v : Value} (hf : Fresh name c.ns) : (mkH b c).update 24 (Obj.putName name hs key v) = mkH b { c with ns := c.ns ++ [⟨hs, key, v⟩] } := by
  rw [show (24 : Addr) = 24 + 0 from rfl, mkH_upd hA]
  show (⟨(b.A ++ (Obj.putName name hs key v (nsObj c.ns) :: b.x25 :: plObj c.pl :: b.x27 :: b.x28 :: c.objs)).toArray, b.life⟩ : Heap) = _
  rw [putName_new hf]
  rfl
theorem mkH_place {pos : Pos} {v : Value} (aw : Away pos c.pl) : (mkH b c).update 26 (Obj.mapFields fun vs => if (codeAmong pos vs.toList).isSome then vs else vs ++ #[rawInt pos.line, rawInt pos.col, v]) = mkH b { c with pl := c.pl ++ [((pos.line : Int), (pos.col : Int), v)] } := by
  rw [show (26 : Addr) = 24 + 2 from rfl, mkH_upd hA]
  show (⟨(b.A ++ (nsObj c.ns :: b.x25 :: Obj.mapFields _ (plObj c.pl) :: b.x27 :: b.x28 :: c.objs)).toArray, b.life⟩ : Heap) = _
  have e : Obj.mapFields (fun vs => if (codeAmong pos vs.toList).isSome then vs else vs ++ #[rawInt pos.line, rawInt pos.col, v]) (plObj c.pl) = plObj (c.pl ++ [((pos.line : Int), (pos.col : Int), v)]) := by
    show (⟨.none, none, .fields (if (codeAmong pos (plOf c.pl).toArray.toList).isSome then (plOf c.pl).toArray else (plOf c.pl).toArray ++ #[rawInt pos.line, rawInt pos.col, v]), #[]⟩ : Obj) = _
    rw [show (plOf c.pl).toArray.toList = plOf c.pl by simp, codeAmong_none aw]
    simp only [Option.isSome_none, Bool.false_eq_true, if_false]
    unfold plObj
    rw [plOf_app]
    simp [plOf]
  rw [e]
  rfl
end
/-- What the class's block stands on. -/
structure Ec where
  env : Env
  x : CodeCx
  bA : Addr
  pm : Value
  b : Bs
section
variable {p : Program} {n₀ : Nat} {ann : Option Value} {g : Array GenState} {d : Drawn} {os : OsState} {w : World}
structure EcOk (p : Program) (n₀ : Nat) (ann : Option Value) (g : Array GenState) (d : Drawn) (os : OsState) (w : World) (e : Ec) : Prop where
  n24 : Nat.ble n₀ 24 = true
  n26 : Nat.ble n₀ 26 = true
  A : e.b.A.length = 24
  kind : e.env.scope.kind = .class
  code : e.env.code = .ref 27
  locals : e.env.locals = 24
  rec27 : ∃ oc vs ft t1 t2, alive e.b.x27 = some oc ∧ oc.data = .fields vs ∧ vs.getD 11 .none = .ref 26 ∧ vs.getD 18 .none = .str e.x.file ft ∧ vs.getD 7 .none = .int e.x.flags t1 ∧ vs.getD 9 .none = .bool e.x.inF ∧ vs.getD 10 .none = .int e.x.text t2
  built : ∀ c t pos, XR p n₀ ann g d os w 2 (builtinsFor e.env.globals e.env.builtins) (mkH e.b c) t pos e.bA (mkH e.b c) t pos
  name : ∀ c t pos, XR p n₀ ann g d os w 1 (nsGet e.env.globals "__name__") (mkH e.b c) t pos (some e.pm) (mkH e.b c) t pos
variable {e : Ec} {c : CS} {t : Nat} {pos pos₀ : Pos}
theorem EcOk.codeAt (E : EcOk p n₀ ann g d os w e) : CodeAt (mkH e.b c) 27 26 e.x c.pl := by
  obtain ⟨oc, vs, ft, t1, t2, h1, r⟩ := E.rec27
  exact ⟨⟨oc, vs, ft, t1, t2, mkH_27 E.A _ h1, r⟩, mkH_26 E.A⟩
/-- What a def lays: its objects, from an address and a token on. -/
noncomputable def dObjs (e : Ec) (name bind : Str) (args : Arguments) (body : List Stmt) (scope : Scope) (pos : Pos) (v cl : List Str) (dV : Value) (n t : Nat) : List Obj :=
  dCode e.x e.env name bind args body scope pos v cl n t ++ [{ cls := .type "function", data := .func (dFunc e.env e.bA name bind args body scope dV e.pm n) }]
theorem dCode_length {x : CodeCx} {env : Env} {name bind : Str} {args : Arguments} {body : List Stmt} {scope : Scope} {pos : Pos} {v cl : List Str} {n t : Nat} : (dCode x env name bind args body scope pos v cl n t).length = 6 := rfl
theorem XR_def0 {name bind : Str} {args : Arguments} {body : List Stmt} {scope : Scope} {v cl : List Str} {ts : Option Scope} (E : EcOk p n₀ ann g d os w e) (D : DefOk e.env name bind args body scope v cl) (hd : args.defaults = []) (aw : Away pos c.pl) (fr : Fresh bind c.ns) :
    XR p n₀ ann g d os w (1 + (0 + ((0 + (20 + v.length + cl.length)) + (1 + 7)))) (exec (.FunctionDef name args body [] none [] scope ts bind pos) e.env) (mkH e.b c) t pos₀ .next
      (mkH e.b ⟨c.objs ++ dObjs e name bind args body scope pos v cl .none (29 + c.objs.length) t, c.ns ++ [⟨hsh w bind, .str bind (t + 3 + v.length + cl.length + 1 + 1), .ref (29 + c.objs.length + 6)⟩], c.pl ++ [((pos.line : Int), (pos.col : Int), .ref (29 + c.objs.length + 5))]⟩)
      (t + 3 + v.length + cl.length + 1 + 1 + 1) pos := by
  have sz := mkH_size (c := c) E.A
  have aux := XR_def (p := p) (n₀ := n₀) (ann := ann) (g := g) (d := d) (os := os) (w := w) (h := mkH e.b c) (t := t) (pos := pos) (pos₀ := pos₀) (ts := ts) (es := c.ns) (dv := []) (dV := .none) (nd := 0) (ne := 0) (h' := mkH e.b c) (t' := t) (hd := mkH e.b c) D E.kind E.code E.n26 (by rw [E.locals]; exact E.n24) aw fr
    (by rw [show (defaultsOf args e.env).1 = [] from by obtain ⟨a1, a2, a3, a4, a5, a6, a7⟩ := args; dsimp only at hd; subst hd; rfl]; exact XR_pure)
    (.inl ⟨rfl, rfl, rfl, rfl⟩) E.codeAt (mkH_pushAll _ _) (mkH_26 E.A) (mkH_place (c := { c with objs := _ }) E.A aw) (mkH_26 E.A) (E.built _ · _) (E.name _ · _) (by rw [mkH_push, E.locals]; exact mkH_24 E.A)
  rw [mkH_push, E.locals] at aux
  dsimp only at aux
  rw [mkH_put E.A (by exact fr), mkH_size E.A, mkH_size E.A] at aux
  simp only [List.length_append, List.append_assoc, dCode_length] at aux
  exact aux
end
end M6
namespace M6
section
variable {p : Program} {n₀ : Nat} {ann : Option Value} {g : Array GenState} {d : Drawn} {os : OsState} {w : World} {e : Ec} {c c₁ : CS} {t t₁ : Nat} {pos pos₀ pos₁ : Pos}
theorem XR_assign {name : Str} {np : Pos} {value : Expr} {v : Value} {nv : Nat} (E : EcOk p n₀ ann g d os w e) (hk : e.env.kindOf name = some .local) (fr : Fresh name c₁.ns) (hs : swapsWith value (some (.Name name np)) pos.line e.env = pure false) (hw : swappedStores [.Name name np] value e.env = pure none)
    (xv : XR p n₀ ann g d os w nv (eval value e.env) (mkH e.b c) t pos v (mkH e.b c₁) t₁ pos₁) :
    XR p n₀ ann g d os w (1 + (nv + 8)) (exec (.Assign [.Name name np] value pos) e.env) (mkH e.b c) t pos₀ .next (mkH e.b { c₁ with ns := c₁.ns ++ [⟨hsh w name, .str name t₁, v⟩] }) (t₁ + 1) np := by
  rw [arm_exec_Assign]
  refine XR.at_n (n := 1 + (0 + (nv + (0 + ((1 + 7) + 0))))) ?_ (by omega)
  refine XR_bind XR_standAt ?_
  refine XR_bind (a := false) (h₁ := mkH e.b c) (t₁ := t) (pos₁ := pos) ?_ ?_
  · show XR p n₀ ann g d os w 0 (swapsWith value (some (.Name name np)) pos.line e.env) _ _ _ _ _ _ _
    rw [hs]; exact XR_pure
  simp only [Bool.false_eq_true, if_false]
  refine XR_bind xv ?_
  refine XR_bind (a := none) (h₁ := mkH e.b c₁) (t₁ := t₁) (pos₁ := pos₁) ?_ ?_
  · rw [hw]; exact XR_pure
  show XR p n₀ ann g d os w ((1 + 7) + 0) (assignAll v [assign (.Name name np) e.env] >>= fun _ => pure Flow.next) _ _ _ _ _ _ _
  refine XR_bind (a := ()) (h₁ := mkH e.b { c₁ with ns := c₁.ns ++ [⟨hsh w name, .str name t₁, v⟩] }) (t₁ := t₁ + 1) (pos₁ := np) ?_ XR_pure
  show XR p n₀ ann g d os w (1 + 7) (assign (.Name name np) e.env v) _ _ _ _ _ _ _
  rw [arm_assign_Name]
  refine XR_bind XR_standAt ?_
  have key := XR_bindName (p := p) (n₀ := n₀) (ann := ann) (g := g) (d := d) (os := os) (w := w) (h := mkH e.b c₁) (t := t₁) (pos := np) (v := v) hk E.kind (by rw [E.locals]; exact mkH_24 E.A) fr (by rw [E.locals]; exact E.n24)
  rw [E.locals, mkH_put E.A fr] at key
  exact key
theorem XR_int {h : Heap} {i : Int} {k : Nat} {q : Pos} {env : Env} : XR p n₀ ann g d os w 1 (eval (.Constant (.int i) k q) env) h t pos (.int i t) h (t + 1) pos := by
  rw [arm_eval_Constant]
  show XR p n₀ ann g d os w 1 (mkInt i) h t pos (.int i t) h (t + 1) pos
  unfold mkInt
  refine XR.at_n (n := 1 + 0) ?_ rfl
  refine XR_bind XR_fresh ?_
  exact XR_pure
theorem XR_str {h : Heap} {x : Str} {k : Nat} {q : Pos} {env : Env} : XR p n₀ ann g d os w 1 (eval (.Constant (.str x) k q) env) h t pos (.str x t) h (t + 1) pos := by
  rw [arm_eval_Constant]
  exact XR_mkText
/-- The items of a written list. -/
structure XL (p : Program) (n₀ : Nat) (ann : Option Value) (g : Array GenState) (d : Drawn) (os : OsState) (w : World) (n : Nat) (es : List Expr) (env : Env) (h : Heap) (t : Nat) (pos : Pos) (vs : List Value) (t' : Nat) (pos' : Pos) : Prop where
  run : ∀ q, XR p n₀ ann g d os w n (spliced (backTo q (starEach es env))) h t pos vs h t' pos'
theorem XL_nil {env : Env} {h : Heap} : XL p n₀ ann g d os w 0 [] env h t pos [] t pos := ⟨fun q => XR_pure⟩
theorem XL_cons {env : Env} {h : Heap} {x : Expr} {es : List Expr} {v : Value} {vs : List Value} {n k t₂ : Nat} {pos₂ : Pos} (hx : starEach (x :: es) env = (false, eval x env) :: starEach es env) (h1 : XR p n₀ ann g d os w n (eval x env) h t pos v h t₁ pos₁) (h2 : XL p n₀ ann g d os w k es env h t₁ pos₁ vs t₂ pos₂) :
    XL p n₀ ann g d os w (n + k) (x :: es) env h t pos (v :: vs) t₂ pos₂ := ⟨fun q => by
  rw [hx]
  show XR p n₀ ann g d os w (n + k) (eval x env >>= fun v => (pure [v] >>= fun here => holding here (spliced (backTo q (starEach es env))) >>= fun r => pure (here ++ r))) h t pos (v :: vs) h t₂ pos₂
  refine XR_bind h1 ?_
  refine XR.at_n (n := 0 + (k + 0)) ?_ (by omega)
  refine XR_bind (a := [v]) XR_pure ?_
  refine XR_bind (XR_holding (h2.run q)) ?_
  exact XR_pure⟩
theorem XR_List {env : Env} {es : List Expr} {q : Pos} {vs : List Value} {n : Nat} (hz : vs.length ≤ sizeLine) (h1 : XL p n₀ ann g d os w n es env (mkH e.b c) t q vs t₁ pos₁) :
    XR p n₀ ann g d os w (1 + (n + 1)) (eval (.List es q) env) (mkH e.b c) t pos (.ref (mkH e.b c).objs.size) (mkH e.b { c with objs := c.objs ++ [{ cls := .type "list", data := .seq vs.toArray }] }) t₁ pos₁ := by
  rw [arm_eval_List]
  refine XR_bind XR_standAt ?_
  refine XR_bind (h1.run q) ?_
  unfold newList newObj newObjAsIs
  refine XR.at_n (n := 1 + 0) ?_ rfl
  dsimp only
  rw [if_neg (by rw [List.size_toArray]; omega)]
  refine XR_bind XR_alloc ?_
  rw [mkH_push]
  exact XR_pure
theorem XR_Name {x : Str} {q : Pos} {en : DictEntry} (E : EcOk p n₀ ann g d os w e) (hx : (x == ("__debug__" : Str)) = false) (hk : e.env.kindOf x = some .local) (hv : c.ns.find? (·.key.isStr x) = some en) :
    XR p n₀ ann g d os w 3 (eval (.Name x q) e.env) (mkH e.b c) t pos en.val (mkH e.b c) t q := by
  rw [arm_eval_Name]
  refine XR.at_n (n := 1 + 2) ?_ rfl
  refine XR_bind XR_standAt ?_
  rw [hx]
  simp only [Bool.false_eq_true, if_false]
  unfold loadName
  rw [E.kind, hk]
  have lg : XR p n₀ ann g d os w 2 (localGet e.env x) (mkH e.b c) t q (some en.val) (mkH e.b c) t q := by
    unfold localGet
    rw [E.locals]
    refine XR.at_n (n := 1 + (1 + 0)) ?_ rfl
    refine XR_bind (XR_load (mkH_24 E.A)) ?_
    show XR p n₀ ann g d os w (1 + 0) (nsGet 24 x) _ _ _ _ _ _ _
    unfold nsGet
    refine XR_bind (XR_load (mkH_24 E.A)) ?_
    show XR p n₀ ann g d os w 0 (match nsNameIn x.cps.size x.cps.toList c.ns.toArray.toList false with | (some e, _) => pure (some e.val) | (none, true) => _ | (none, false) => _) _ _ _ _ _ _ _
    have k1 := nsNameIn_fst x c.ns.toArray
    rw [List.find?_toArray, hv] at k1
    cases hq : nsNameIn x.cps.size x.cps.toList c.ns.toArray.toList false with
    | mk a b =>
      rw [hq] at k1
      dsimp only at k1
      subst k1
      exact XR_pure
  have bk : e.env.blockKind = .class := by unfold Env.blockKind; rw [E.kind]; rfl
  rw [bk]
  refine XR.at_n (n := 2 + 0) ?_ rfl
  exact XR_bind lg XR_pure
end
end M6
namespace M6
noncomputable def encL : List Nat → Nat
  | [] => 1
  | c :: l => c + 2097152 * encL l
noncomputable def enc (x : Str) : Nat := encL x.cps.toList
theorem encL_pos : ∀ l, 1 ≤ encL l
  | [] => Nat.le_refl _
  | c :: l => by have := encL_pos l; show 1 ≤ c + 2097152 * encL l; lia
theorem encL_inj : ∀ {a b : List Nat}, (∀ c ∈ a, c < 2097152) → (∀ c ∈ b, c < 2097152) → encL a = encL b → a = b
  | [], [], _, _, _ => rfl
  | [], c :: l, _, _, h => by have := encL_pos l; simp only [encL] at h; lia
  | c :: l, [], _, _, h => by have := encL_pos l; simp only [encL] at h; lia
  | c :: l, c' :: l', h1, h2, h => by
    simp only [encL] at h
    have a1 := h1 c (.head _)
    have a2 := h2 c' (.head _)
    have e1 : c = c' := by lia
    have e2 : encL l = encL l' := by (clear e1; lia)
    rw [e1, encL_inj (fun x hx => h1 x (.tail _ hx)) (fun x hx => h2 x (.tail _ hx)) e2]
noncomputable def small (x : Str) : Bool := x.cps.toList.all fun c => Nat.blt c 2097152
theorem enc_inj {a b : Str} (h1 : small a = true) (h2 : small b = true) (h : enc a = enc b) : a = b := by
  have := encL_inj (fun c hc => Nat.blt_eq.mp (List.all_eq_true.mp h1 c hc)) (fun c hc => Nat.blt_eq.mp (List.all_eq_true.mp h2 c hc)) h
  cases a; cases b
  simp only [Str.mk.injEq]
  exact Array.toList_inj.mp this
noncomputable def bindOf : Stmt → Str
  | .FunctionDef _ _ _ _ _ _ _ _ b _ => b
  | .Assign [.Name n _] _ _ => n
  | _ => default
noncomputable def posOf : Stmt → Pos
  | .FunctionDef _ _ _ _ _ _ _ _ _ p => p
  | .Assign _ _ p => p
  | _ => default
noncomputable def endOf : Stmt → Pos
  | .FunctionDef _ _ _ _ _ _ _ _ _ p => p
  | .Assign [.Name _ p] _ _ => p
  | _ => default
noncomputable def argPlain (a : Arg) : Bool := a.annotation.isNone
noncomputable def argsPlain : Arguments → Bool
  | ⟨po, a, va, ko, kd, kwa, _⟩ => ko.isEmpty && kd.isEmpty && (a ++ po ++ va.toList ++ ko ++ kwa.toList).all argPlain
noncomputable def dfltOk : List Expr → Bool
  | [] => true
  | [.Constant .none _ _, .Constant (.int _) _ _] => true
  | _ => false
noncomputable def stB : Stmt → Bool
  | .FunctionDef _ args body [] none [] scope _ _ _ => scope.names.all (fun x => x.2 != .free) && (localNames args scope (.stmts body)).isSome && argsPlain args && (docOf body).isNone && dfltOk args.defaults
  | .Assign [.Name _ _] (.Constant (.int _) _ _) _ => true
  | .Assign [.Name _ _] (.Constant (.str _) _ _) _ => true
  | _ => false
noncomputable def vOf (args : Arguments) (body : List Stmt) (scope : Scope) : List Str := ((localNames args scope (.stmts body)).getD ([], [])).1
noncomputable def clOf (args : Arguments) (body : List Stmt) (scope : Scope) : List Str := ((localNames args scope (.stmts body)).getD ([], [])).2
/-- What a statement does. -/
noncomputable def eff (e : Ec) (w : World) : Stmt → CS × Nat → CS × Nat
  | .FunctionDef name args body _ _ _ scope _ bind pos, (c, t) => match args.defaults with
    | [.Constant .none _ _, .Constant (.int i) _ _] =>
      (⟨c.objs ++ { cls := .type "tuple", data := .seq #[.none, .int i t] } :: dObjs e name bind args body scope pos (vOf args body scope) (clOf args body scope) (.ref (29 + c.objs.length)) (29 + c.objs.length + 1) (t + 1),
        c.ns ++ [⟨hsh w bind, .str bind (t + 1 + 3 + (vOf args body scope).length + (clOf args body scope).length + 1 + 1), .ref (29 + c.objs.length + 1 + 6)⟩], c.pl ++ [((pos.line : Int), (pos.col : Int), .ref (29 + c.objs.length + 1 + 5))]⟩,
       t + 1 + 3 + (vOf args body scope).length + (clOf args body scope).length + 1 + 1 + 1)
    | _ => (⟨c.objs ++ dObjs e name bind args body scope pos (vOf args body scope) (clOf args body scope) .none (29 + c.objs.length) t,
        c.ns ++ [⟨hsh w bind, .str bind (t + 3 + (vOf args body scope).length + (clOf args body scope).length + 1 + 1), .ref (29 + c.objs.length + 6)⟩], c.pl ++ [((pos.line : Int), (pos.col : Int), .ref (29 + c.objs.length + 5))]⟩,
       t + 3 + (vOf args body scope).length + (clOf args body scope).length + 1 + 1 + 1)
  | .Assign [.Name n _] (.Constant (.int i) _ _) _, (c, t) => ({ c with ns := c.ns ++ [⟨hsh w n, .str n (t + 1), .int i t⟩] }, t + 1 + 1)
  | .Assign [.Name n _] (.Constant (.str x) _ _) _, (c, t) => ({ c with ns := c.ns ++ [⟨hsh w n, .str n (t + 1), .str x t⟩] }, t + 1 + 1)
  | _, r => r
noncomputable def stepsOf : Stmt → Nat
  | .FunctionDef _ args body _ _ _ scope _ _ _ => match args.defaults with
    | [] => 1 + (0 + ((0 + (20 + (vOf args body scope).length + (clOf args body scope).length)) + (1 + 7)))
    | _ => 1 + (1 + ((1 + (20 + (vOf args body scope).length + (clOf args body scope).length)) + (1 + 7)))
  | _ => 1 + (1 + 8)
theorem freeNames_nil {scope : Scope} (h : scope.names.all (fun x => x.2 != .free) = true) : scope.freeNames = [] := by
  unfold Scope.freeNames
  have : scope.names.filter (·.2 == .free) = [] := by
    rw [List.filter_eq_nil_iff]
    intro x hx
    have := List.all_eq_true.mp h x hx
    simpa using this
  rw [this]
  simp
theorem ann_nil {env : Env} {l : List Arg} (h : l.all argPlain = true) : annotationsOf l env = [] := by
  induction l with
  | nil => rfl
  | cons x l ih =>
    obtain ⟨n, a, q⟩ := x
    rw [List.all_cons, Bool.and_eq_true] at h
    obtain ⟨h1, h2⟩ := h
    cases a with
    | some x => cases h1
    | none => exact ih h2
theorem DefOk.of {env : Env} {name bind : Str} {args : Arguments} {body : List Stmt} {scope : Scope} (hk : env.kindOf bind = some .local) (h1 : scope.names.all (fun x => x.2 != .free) = true) (h2 : (localNames args scope (.stmts body)).isSome = true) (h3 : argsPlain args = true) (h4 : (docOf body).isNone = true) :
    DefOk env name bind args body scope (vOf args body scope) (clOf args body scope) := by
  obtain ⟨po, a, va, ko, kd, kwa, df⟩ := args
  unfold argsPlain at h3
  simp only [Bool.and_eq_true] at h3
  obtain ⟨⟨a1, a2⟩, a3⟩ := h3
  refine ⟨hk, h1, freeNames_nil h1, ?_, List.isEmpty_iff.mp a1, List.isEmpty_iff.mp a2, Option.isNone_iff_eq_none.mp h4, ann_nil a3⟩
  obtain ⟨r, hr⟩ := Option.isSome_iff_exists.mp h2
  unfold vOf clOf
  rw [hr]
  rfl
section
variable {p : Program} {n₀ : Nat} {ann : Option Value} {g : Array GenState} {d : Drawn} {os : OsState} {w : World} {e : Ec} {c : CS} {t : Nat} {pos pos₀ : Pos}
theorem XR_dv {h : Heap} {env : Env} {i : Int} {k1 k2 : Nat} {q1 q2 : Pos} : XR p n₀ ann g d os w 1 (evalAll [eval (.Constant .none k1 q1) env, eval (.Constant (.int i) k2 q2) env]) h t pos [.none, .int i t] h (t + 1) pos := by
  refine XR.at_n (n := 0 + ((1 + (0 + 0)) + 0)) ?_ rfl
  refine XR_bind (a := Value.none) (h₁ := h) (t₁ := t) (pos₁ := pos) ?_ ?_
  · rw [arm_eval_Constant]; exact XR_pure
  refine XR_bind (a := [Value.int i t]) (h₁ := h) (t₁ := t + 1) (pos₁ := pos) (XR_holding ?_) ?_
  · refine XR_bind XR_int ?_
    refine XR_bind (a := ([] : List Value)) (h₁ := h) (t₁ := t + 1) (pos₁ := pos) (XR_holding ?_) ?_
    · exact XR_pure
    · exact XR_pure
  · exact XR_pure
theorem XR_def2 {name bind : Str} {args : Arguments} {body : List Stmt} {scope : Scope} {v cl : List Str} {ts : Option Scope} {i : Int} {k1 k2 : Nat} {q1 q2 : Pos} (E : EcOk p n₀ ann g d os w e) (D : DefOk e.env name bind args body scope v cl) (hd : args.defaults = [.Constant .none k1 q1, .Constant (.int i) k2 q2]) (aw : Away pos c.pl) (fr : Fresh bind c.ns) :
    XR p n₀ ann g d os w (1 + (1 + ((1 + (20 + v.length + cl.length)) + (1 + 7)))) (exec (.FunctionDef name args body [] none [] scope ts bind pos) e.env) (mkH e.b c) t pos₀ .next
      (mkH e.b ⟨c.objs ++ { cls := .type "tuple", data := .seq #[.none, .int i t] } :: dObjs e name bind args body scope pos v cl (.ref (29 + c.objs.length)) (29 + c.objs.length + 1) (t + 1), c.ns ++ [⟨hsh w bind, .str bind (t + 1 + 3 + v.length + cl.length + 1 + 1), .ref (29 + c.objs.length + 1 + 6)⟩], c.pl ++ [((pos.line : Int), (pos.col : Int), .ref (29 + c.objs.length + 1 + 5))]⟩)
      (t + 1 + 3 + v.length + cl.length + 1 + 1 + 1) pos := by
  have aux := XR_def (p := p) (n₀ := n₀) (ann := ann) (g := g) (d := d) (os := os) (w := w) (h := mkH e.b c) (t := t) (pos := pos) (pos₀ := pos₀) (ts := ts) (es := c.ns) (dv := [.none, .int i t]) (dV := .ref (mkH e.b c).objs.size) (nd := 1) (ne := 1) (h' := mkH e.b c) (t' := t + 1) (hd := mkH e.b { c with objs := c.objs ++ [{ cls := .type "tuple", data := .seq #[.none, .int i t] }] }) D E.kind E.code E.n26 (by rw [E.locals]; exact E.n24) aw fr
    (by
      rw [show (defaultsOf args e.env).1 = [eval (.Constant .none k1 q1) e.env, eval (.Constant (.int i) k2 q2) e.env] from by obtain ⟨a1, a2, a3, a4, a5, a6, a7⟩ := args; dsimp only at hd; subst hd; rfl]
      exact XR_dv)
    (.inr ⟨by simp, rfl, mkH_push.symm, rfl⟩) (E.codeAt (c := { c with objs := c.objs ++ [{ cls := .type "tuple", data := .seq #[.none, .int i t] }] })) (mkH_pushAll _ _) (mkH_26 E.A) (mkH_place (c := { c with objs := _ }) E.A aw) (mkH_26 E.A) (E.built _ · _) (E.name _ · _) (by rw [mkH_push, E.locals]; exact mkH_24 E.A)
  rw [mkH_push, E.locals] at aux
  dsimp only at aux
  rw [mkH_put E.A (by exact fr), mkH_size E.A, mkH_size E.A, mkH_size E.A] at aux
  simp only [List.length_append, List.append_assoc, dCode_length, List.length_singleton] at aux
  exact aux
end
end M6
namespace M6
section
variable {p : Program} {n₀ : Nat} {ann : Option Value} {g : Array GenState} {d : Drawn} {os : OsState} {w : World} {e : Ec} {c : CS} {t : Nat} {pos pos₀ : Pos}
/-- The two kinds of written defaults. -/
theorem dflt_cases {P : List Expr → Prop} {l : List Expr} (h : dfltOk l = true) (h0 : P []) (h2 : ∀ k1 q1 i k2 q2, P [.Constant .none k1 q1, .Constant (.int i) k2 q2]) : P l := by
  cases l with
  | nil => exact h0
  | cons a r =>
    cases a <;> first | (cases h; done) | skip
    rename_i c k q
    cases c <;> first | (cases h; done) | skip
    cases r with
    | nil => cases h
    | cons b r =>
      cases b <;> first | (cases h; done) | skip
      rename_i c2 k2 q2
      cases c2 <;> first | (cases h; done) | skip
      rename_i i
      cases r with
      | nil => exact h2 _ _ _ _ _
      | cons _ _ => cases h
/-- The kinds of statements that a class's block may hold. -/
theorem st_view {P : Stmt → Prop} {st : Stmt} (hs : stB st = true)
    (hd : ∀ name args body scope ts bind pos, scope.names.all (fun x => x.2 != .free) = true → (localNames args scope (.stmts body)).isSome = true → argsPlain args = true → (docOf body).isNone = true → dfltOk args.defaults = true → P (.FunctionDef name args body [] none [] scope ts bind pos))
    (hi : ∀ n np i k q pos, P (.Assign [.Name n np] (.Constant (.int i) k q) pos)) (hx : ∀ n np x k q pos, P (.Assign [.Name n np] (.Constant (.str x) k q) pos)) : P st := by
  cases st <;> first | (cases hs; done) | skip
  · rename_i name args body decs rets tps scope ts bind pos
    cases decs with
    | cons _ _ => cases hs
    | nil =>
      cases rets with
      | some _ => cases hs
      | none =>
        cases tps with
        | cons _ _ => cases hs
        | nil =>
          have hs := Bool.and_eq_true_iff.mp hs
          have h1 := Bool.and_eq_true_iff.mp hs.1
          have h2 := Bool.and_eq_true_iff.mp h1.1
          have h3 := Bool.and_eq_true_iff.mp h2.1
          exact hd _ _ _ _ _ _ _ h3.1 h3.2 h2.2 h1.2 hs.2
  · rename_i tg v pos
    cases tg with
    | nil => cases hs
    | cons a r =>
      cases a <;> first | (cases hs; done) | skip
      cases r with
      | cons _ _ => cases hs
      | nil =>
        cases v <;> first | (cases hs; done) | skip
        rename_i c k q
        cases c <;> first | (cases hs; done) | skip
        · exact hi _ _ _ _ _ _
        · exact hx _ _ _ _ _ _
theorem st_cases {P : Stmt → Prop} {st : Stmt} (hs : stB st = true)
    (h0 : ∀ name po a va ko kd kw body scope ts bind pos, P (.FunctionDef name ⟨po, a, va, ko, kd, kw, []⟩ body [] none [] scope ts bind pos))
    (h2 : ∀ name po a va ko kd kw body scope ts bind pos k1 q1 i k2 q2, P (.FunctionDef name ⟨po, a, va, ko, kd, kw, [.Constant .none k1 q1, .Constant (.int i) k2 q2]⟩ body [] none [] scope ts bind pos))
    (hi : ∀ n np i k q pos, P (.Assign [.Name n np] (.Constant (.int i) k q) pos)) (hx : ∀ n np x k q pos, P (.Assign [.Name n np] (.Constant (.str x) k q) pos)) : P st := by
  refine st_view hs (fun name args body scope ts bind pos _ _ _ _ hd => ?_) hi hx
  obtain ⟨po, a, va, ko, kd, kw, df⟩ := args
  exact dflt_cases (P := fun df => P (.FunctionDef name ⟨po, a, va, ko, kd, kw, df⟩ body [] none [] scope ts bind pos)) hd (h0 _ _ _ _ _ _ _ _ _ _ _ _) fun _ _ _ _ _ => h2 _ _ _ _ _ _ _ _ _ _ _ _ _ _ _ _ _
theorem eff_run (E : EcOk p n₀ ann g d os w e) {st : Stmt} (hs : stB st = true) (hk : e.env.kindOf (bindOf st) = some .local) (fr : Fresh (bindOf st) c.ns) (aw : Away (posOf st) c.pl) :
    XR p n₀ ann g d os w (stepsOf st) (exec st e.env) (mkH e.b c) t pos₀ .next (mkH e.b (eff e w st (c, t)).1) (eff e w st (c, t)).2 (endOf st) := by
  revert hk fr aw
  refine st_view (P := fun st => e.env.kindOf (bindOf st) = some .local → Fresh (bindOf st) c.ns → Away (posOf st) c.pl → XR p n₀ ann g d os w (stepsOf st) (exec st e.env) (mkH e.b c) t pos₀ .next (mkH e.b (eff e w st (c, t)).1) (eff e w st (c, t)).2 (endOf st)) hs (fun name args body scope ts bind pos h1 h2 h3 h4 h5 => ?_)
    (fun n np i k q pos hk fr aw => XR_assign E hk fr rfl rfl XR_int) (fun n np x k q pos hk fr aw => XR_assign E hk fr rfl rfl XR_str)
  intro hk fr aw
  have D := DefOk.of (env := e.env) (name := name) (bind := bind) (args := args) (body := body) (scope := scope) hk h1 h2 h3 h4
  clear h1 h2 h3 h4
  obtain ⟨po, a, va, ko, kd, kw, df⟩ := args
  revert D
  exact dflt_cases (P := fun df => DefOk e.env name bind ⟨po, a, va, ko, kd, kw, df⟩ body scope (vOf ⟨po, a, va, ko, kd, kw, df⟩ body scope) (clOf ⟨po, a, va, ko, kd, kw, df⟩ body scope) → XR p n₀ ann g d os w (stepsOf (.FunctionDef name ⟨po, a, va, ko, kd, kw, df⟩ body [] none [] scope ts bind pos)) (exec (.FunctionDef name ⟨po, a, va, ko, kd, kw, df⟩ body [] none [] scope ts bind pos) e.env) (mkH e.b c) t pos₀ .next (mkH e.b (eff e w (.FunctionDef name ⟨po, a, va, ko, kd, kw, df⟩ body [] none [] scope ts bind pos) (c, t)).1) (eff e w (.FunctionDef name ⟨po, a, va, ko, kd, kw, df⟩ body [] none [] scope ts bind pos) (c, t)).2 pos) h5
    (fun D => XR_def0 (ts := ts) (t := t) (pos₀ := pos₀) E D rfl aw fr) (fun k1 q1 i k2 q2 D => XR_def2 (ts := ts) (t := t) (pos₀ := pos₀) E D rfl aw fr)
structure Inv (us : List Nat) (ln : Nat) (c : CS) : Prop where
  ns : ∀ e ∈ c.ns, ∃ name t, e.key = .str name t ∧ enc name ∈ us
  pl : ∀ x ∈ c.pl, x.1 ≤ (ln : Int)
noncomputable def awayN (k : Nat) (l : List Nat) : Bool := @List.rec Nat (fun _ => Bool) true (fun a _ ih => @Bool.rec (fun _ => Bool) ih false (Nat.beq a k)) l
theorem awayN_iff {k : Nat} : ∀ {l : List Nat}, awayN k l = true → ∀ u ∈ l, u ≠ k
  | [], _, _, h => nomatch h
  | a :: l, h, u, hu => by
    have h : @Bool.rec (fun _ => Bool) (awayN k l) false (Nat.beq a k) = true := h
    cases hq : Nat.beq a k with
    | true => rw [hq] at h; cases h
    | false =>
      rw [hq] at h
      rcases List.mem_cons.mp hu with rfl | hu
      · exact Nat.ne_of_beq_eq_false hq
      · exact awayN_iff h u hu
noncomputable def chk (us : List Nat) (ln : Nat) : List Stmt → List Nat → Bool
  | [], _ => true
  | st :: r, k :: ks => stB st && Nat.beq k (enc (bindOf st)) && awayN k us && Nat.blt ln (posOf st).line && chk (k :: us) (posOf st).line r ks
  | _ :: _, [] => false
noncomputable def effAll (e : Ec) (w : World) : List Stmt → CS × Nat → CS × Nat
  | [], r => r
  | st :: l, r => effAll e w l (eff e w st r)
noncomputable def stepsAll : List Stmt → Nat
  | [] => 0
  | st :: l => stepsOf st + stepsAll l
noncomputable def lastPos : List Stmt → Pos → Pos
  | [], q => q
  | st :: l, _ => lastPos l (endOf st)
noncomputable def lastUs : List Stmt → List Nat → List Nat → List Nat
  | _ :: l, k :: ks, us => lastUs l ks (k :: us)
  | _, _, us => us
noncomputable def lastLn : List Stmt → Nat → Nat
  | [], n => n
  | st :: l, _ => lastLn l (posOf st).line
theorem Inv.fresh {us : List Nat} {ln : Nat} (I : Inv us ln c) {b : Str} {k : Nat} (hk : Nat.beq k (enc b) = true) (hu : awayN k us = true) : Fresh b c.ns := fun x hx => by
  obtain ⟨name, t, e1, e2⟩ := I.ns x hx
  have hk := Nat.eq_of_beq_eq_true hk
  have ne : enc name ≠ k := awayN_iff hu _ e2
  refine ⟨?_, ?_⟩
  · rw [e1, isStr_str']
    refine beq_eq_false_iff_ne.mpr fun z => ne ?_
    rw [z, hk]
  · show x.refKey = false
    unfold DictEntry.refKey
    rw [e1]
theorem Inv.away {us : List Nat} {ln : Nat} (I : Inv us ln c) {q : Pos} (h : Nat.blt ln q.line = true) : Away q c.pl := fun x hx => by
  have := I.pl x hx
  have h := Nat.blt_eq.mp h
  have : (x.1 == (q.line : Int)) = false := beq_eq_false_iff_ne.mpr (by lia)
  rw [this]
  rfl
theorem Inv.eff {us : List Nat} {ln : Nat} (I : Inv us ln c) {st : Stmt} (hs : stB st = true) {k : Nat} (hk : Nat.beq k (enc (bindOf st)) = true) (hl : Nat.blt ln (posOf st).line = true) : Inv (k :: us) (posOf st).line (eff e w st (c, t)).1 := by
  have hk := Nat.eq_of_beq_eq_true hk
  have hl := Nat.blt_eq.mp hl
  have old : ∀ x ∈ c.ns, ∃ name t, x.key = .str name t ∧ enc name ∈ k :: us := fun x hx => by
    obtain ⟨n, t, a, b⟩ := I.ns x hx
    exact ⟨n, t, a, .tail _ b⟩
  have oldp : ∀ x ∈ c.pl, x.1 ≤ ((posOf st).line : Int) := fun x hx => by
    have := I.pl x hx
    lia
  have add : ∀ (l : List DictEntry) (tk : Nat) (v : Value) (hh : Int), l = c.ns ++ [⟨hh, .str (bindOf st) tk, v⟩] → ∀ x ∈ l, ∃ name t, x.key = .str name t ∧ enc name ∈ k :: us := by
    rintro l tk v hh rfl x hx
    rcases List.mem_append.mp hx with hx | hx
    · exact old x hx
    · obtain rfl := List.mem_singleton.mp hx
      exact ⟨_, _, rfl, by rw [← hk]; exact .head _⟩
  have addp : ∀ (l : List (Int × Int × Value)) (y : Int) (v : Value), l = c.pl ++ [(((posOf st).line : Int), y, v)] → ∀ x ∈ l, x.1 ≤ ((posOf st).line : Int) := by
    rintro l y v rfl x hx
    rcases List.mem_append.mp hx with hx | hx
    · exact oldp x hx
    · obtain rfl := List.mem_singleton.mp hx
      exact Int.le_refl _
  clear hk hl
  revert add addp oldp
  exact st_cases (P := fun st => (∀ x ∈ c.pl, x.1 ≤ ((posOf st).line : Int)) → (∀ (l : List DictEntry) (tk : Nat) (v : Value) (hh : Int), l = c.ns ++ [⟨hh, .str (bindOf st) tk, v⟩] → ∀ x ∈ l, ∃ name t, x.key = .str name t ∧ enc name ∈ k :: us) → (∀ (l : List (Int × Int × Value)) (y : Int) (v : Value), l = c.pl ++ [(((posOf st).line : Int), y, v)] → ∀ x ∈ l, x.1 ≤ ((posOf st).line : Int)) → Inv (k :: us) (posOf st).line (M6.eff e w st (c, t)).1) hs
    (fun name po a va ko kd kw body scope ts bind pos oldp add addp => ⟨add _ _ _ _ rfl, addp _ _ _ rfl⟩) (fun name po a va ko kd kw body scope ts bind pos k1 q1 i k2 q2 oldp add addp => ⟨add _ _ _ _ rfl, addp _ _ _ rfl⟩)
    (fun n np i k' q pos oldp add addp => ⟨add _ _ _ _ rfl, oldp⟩) (fun n np x k' q pos oldp add addp => ⟨add _ _ _ _ rfl, oldp⟩)
theorem XR_execs (E : EcOk p n₀ ann g d os w e) : ∀ (l : List Stmt) (ks us : List Nat) (ln : Nat) (c : CS) (t : Nat) (pos₀ : Pos), chk us ln l ks = true → (∀ st ∈ l, e.env.kindOf (bindOf st) = some .local) → Inv us ln c →
    XR p n₀ ann g d os w (stepsAll l) (execs l e.env) (mkH e.b c) t pos₀ .next (mkH e.b (effAll e w l (c, t)).1) (effAll e w l (c, t)).2 (lastPos l pos₀) ∧ Inv (lastUs l ks us) (lastLn l ln) (effAll e w l (c, t)).1
  | [], ks, us, ln, c, t, pos₀, _, _, I => by
    refine ⟨XR_pure, ?_⟩
    cases ks <;> exact I
  | st :: l, [], us, ln, c, t, pos₀, h, _, _ => by cases h
  | st :: l, k :: ks, us, ln, c, t, pos₀, h, hk, I => by
    unfold chk at h
    simp only [Bool.and_eq_true] at h
    obtain ⟨⟨⟨⟨h1, h2⟩, h3⟩, h4⟩, h5⟩ := h
    have fr := I.fresh h2 h3
    have aw := I.away h4
    have r := eff_run (t := t) (pos₀ := pos₀) E h1 (hk st (.head _)) fr aw
    have I' : Inv (k :: us) (posOf st).line (M6.eff e w st (c, t)).1 := I.eff h1 h2 h4
    obtain ⟨r', I''⟩ := XR_execs E l ks (k :: us) (posOf st).line (M6.eff e w st (c, t)).1 (M6.eff e w st (c, t)).2 (endOf st) h5 (fun s hs => hk s (.tail _ hs)) I'
    refine ⟨?_, I''⟩
    rw [execs_cons]
    refine XR_bind r ?_
    exact r'
end
end M6
namespace M6
/-- What a statement lays, from an address and a token on. -/
noncomputable def sObjs (e : Ec) : Stmt → Nat → Nat → List Obj
  | .FunctionDef name args body _ _ _ scope _ bind pos, n, t => match args.defaults with
    | [.Constant .none _ _, .Constant (.int i) _ _] => { cls := .type "tuple", data := .seq #[.none, .int i t] } :: dObjs e name bind args body scope pos (vOf args body scope) (clOf args body scope) (.ref n) (n + 1) (t + 1)
    | _ => dObjs e name bind args body scope pos (vOf args body scope) (clOf args body scope) .none n t
  | _, _, _ => []
noncomputable def sEnt (w : World) : Stmt → Nat → Nat → List DictEntry
  | .FunctionDef _ args body _ _ _ scope _ bind _, n, t => match args.defaults with
    | [.Constant .none _ _, .Constant (.int i) _ _] => [⟨hsh w bind, .str bind (t + 1 + 3 + (vOf args body scope).length + (clOf args body scope).length + 1 + 1), .ref (n + 1 + 6)⟩]
    | _ => [⟨hsh w bind, .str bind (t + 3 + (vOf args body scope).length + (clOf args body scope).length + 1 + 1), .ref (n + 6)⟩]
  | .Assign [.Name b _] (.Constant (.int i) _ _) _, _, t => [⟨hsh w b, .str b (t + 1), .int i t⟩]
  | .Assign [.Name b _] (.Constant (.str x) _ _) _, _, t => [⟨hsh w b, .str b (t + 1), .str x t⟩]
  | _, _, _ => []
noncomputable def sPl : Stmt → Nat → List (Int × Int × Value)
  | .FunctionDef _ args _ _ _ _ _ _ _ pos, n => match args.defaults with
    | [.Constant .none _ _, .Constant (.int i) _ _] => [((pos.line : Int), (pos.col : Int), .ref (n + 1 + 5))]
    | _ => [((pos.line : Int), (pos.col : Int), .ref (n + 5))]
  | _, _ => []
noncomputable def sTk : Stmt → Nat → Nat
  | .FunctionDef _ args body _ _ _ scope _ _ _, t => match args.defaults with
    | [.Constant .none _ _, .Constant (.int i) _ _] => t + 1 + 3 + (vOf args body scope).length + (clOf args body scope).length + 1 + 1 + 1
    | _ => t + 3 + (vOf args body scope).length + (clOf args body scope).length + 1 + 1 + 1
  | .Assign [.Name _ _] (.Constant (.int _) _ _) _, t => t + 1 + 1
  | .Assign [.Name _ _] (.Constant (.str _) _ _) _, t => t + 1 + 1
  | _, t => t
noncomputable def sLen : Stmt → Nat
  | .FunctionDef _ args _ _ _ _ _ _ _ _ => match args.defaults with
    | [.Constant .none _ _, .Constant (.int _) _ _] => 8
    | _ => 7
  | _ => 0
theorem sObjs_length {e : Ec} {st : Stmt} {n t : Nat} (hs : stB st = true) : (sObjs e st n t).length = sLen st :=
  st_cases (P := fun st => (sObjs e st n t).length = sLen st) hs (fun name po a va ko kd kw body scope ts bind pos => rfl) (fun name po a va ko kd kw body scope ts bind pos k1 q1 i k2 q2 => rfl) (fun n np i k q pos => rfl) (fun n np x k q pos => rfl)
theorem eff_is {e : Ec} {w : World} {st : Stmt} {c : CS} {t n : Nat} (hs : stB st = true) (hn : n = 29 + c.objs.length) : eff e w st (c, t) = (⟨c.objs ++ sObjs e st n t, c.ns ++ sEnt w st n t, c.pl ++ sPl st n⟩, sTk st t) := by
  subst hn
  obtain ⟨co, cn, cp⟩ := c
  exact st_cases (P := fun st => eff e w st (⟨co, cn, cp⟩, t) = (⟨co ++ sObjs e st (29 + co.length) t, cn ++ sEnt w st (29 + co.length) t, cp ++ sPl st (29 + co.length)⟩, sTk st t)) hs (fun name po a va ko kd kw body scope ts bind pos => rfl) (fun name po a va ko kd kw body scope ts bind pos k1 q1 i k2 q2 => rfl)
    (fun n np i k q pos => by show (_, _) = ((⟨co ++ [], _, cp ++ []⟩ : CS), _); rw [List.append_nil, List.append_nil]; rfl) (fun n np x k q pos => by show (_, _) = ((⟨co ++ [], _, cp ++ []⟩ : CS), _); rw [List.append_nil, List.append_nil]; rfl)
/-- The statements with their addresses and tokens. -/
noncomputable abbrev Row := List (Stmt × Nat × Nat)
noncomputable def rowOk : Row → Nat → Nat → Bool
  | [], _, _ => true
  | (st, n, t) :: r, n', t' => Nat.beq n n' && Nat.beq t t' && rowOk r (n + sLen st) (sTk st t)
noncomputable def rowN : Row → Nat → Nat
  | [], n => n
  | (st, n, _) :: r, _ => rowN r (n + sLen st)
noncomputable def rowT : Row → Nat → Nat
  | [], t => t
  | (st, _, t) :: r, _ => rowT r (sTk st t)
noncomputable def rObjs (e : Ec) : Row → List Obj
  | [] => []
  | (st, n, t) :: r => sObjs e st n t ++ rObjs e r
noncomputable def rEnt (w : World) : Row → List DictEntry
  | [] => []
  | (st, n, t) :: r => sEnt w st n t ++ rEnt w r
noncomputable def rPl : Row → List (Int × Int × Value)
  | [] => []
  | (st, n, _) :: r => sPl st n ++ rPl r
theorem effAll_is {e : Ec} {w : World} : ∀ (r : Row) (c : CS) (n t : Nat), rowOk r n t = true → (∀ x ∈ r, stB x.1 = true) → n = 29 + c.objs.length →
    effAll e w (r.map (·.1)) (c, t) = (⟨c.objs ++ rObjs e r, c.ns ++ rEnt w r, c.pl ++ rPl r⟩, rowT r t)
  | [], c, n, t, _, _, _ => by simp [effAll, rObjs, rEnt, rPl, rowT]
  | (st, n', t') :: r, c, n, t, h, hs, hn => by
    unfold rowOk at h
    simp only [Bool.and_eq_true] at h
    obtain ⟨⟨h1, h2⟩, h3⟩ := h
    have h1 := Nat.eq_of_beq_eq_true h1
    have h2 := Nat.eq_of_beq_eq_true h2
    subst h1 h2
    have h0 := hs _ (.head _)
    show effAll e w (r.map (·.1)) (eff e w st (c, t')) = _
    rw [eff_is h0 hn, effAll_is r _ (n' + sLen st) (sTk st t') h3 (fun x hx => hs x (.tail _ hx)) (by rw [List.length_append, sObjs_length h0, hn]; dsimp only; (clear h0 h1 h2 h3 hn; lia))]
    simp [rObjs, rEnt, rPl, rowT]
theorem XR_execs_app {p : Program} {n₀ : Nat} {ann : Option Value} {g : Array GenState} {d : Drawn} {os : OsState} {w : World} {env : Env} {h h₁ h₂ : Heap} {t t₁ t₂ n k : Nat} {pos pos₁ pos₂ : Pos} {a b : List Stmt}
    (x : XR p n₀ ann g d os w n (execs a env) h t pos .next h₁ t₁ pos₁) (y : XR p n₀ ann g d os w k (execs b env) h₁ t₁ pos₁ .next h₂ t₂ pos₂) : XR p n₀ ann g d os w (n + k) (execs (a ++ b) env) h t pos .next h₂ t₂ pos₂ := ⟨fun K H gd lv code fr B => by
  rw [execs_app_wrap]
  exact (x.run _ _ _ _ code fr B).trans (y.run K H gd lv code fr B)⟩
/-- A tree of objects of a list. -/
noncomputable def evens : List Obj → List Obj
  | [] => []
  | [a] => [a]
  | a :: _ :: r => a :: evens r
noncomputable def odds : List Obj → List Obj
  | [] => []
  | [_] => []
  | _ :: b :: r => b :: odds r
noncomputable def btOf : Nat → List Obj → BT
  | 0, _ => .nil
  | _ + 1, [] => .nil
  | k + 1, o :: r => .node o (btOf k (evens r)) (btOf k (odds r))
theorem evens_get : ∀ (l : List Obj) (i : Nat), (evens l)[i]? = l[2 * i]?
  | [], i => by simp [evens]
  | [a], i => by cases i <;> simp [evens]
  | a :: b :: r, 0 => rfl
  | a :: b :: r, i + 1 => by
    show (evens r)[i]? = _
    rw [evens_get r i, show 2 * (i + 1) = 2 * i + 1 + 1 by lia]
    rfl
theorem odds_get : ∀ (l : List Obj) (i : Nat), (odds l)[i]? = l[2 * i + 1]?
  | [], i => by simp [odds]
  | [a], i => by cases i <;> simp [odds]
  | a :: b :: r, 0 => rfl
  | a :: b :: r, i + 1 => by
    show (odds r)[i]? = _
    rw [odds_get r i, show 2 * (i + 1) + 1 = 2 * i + 1 + 1 + 1 by lia]
    rfl
theorem evens_len : ∀ l : List Obj, (evens l).length = (l.length + 1) / 2
  | [] => rfl
  | [a] => by simp [evens]
  | a :: b :: r => by show (evens r).length + 1 = (r.length + 1 + 1 + 1) / 2; rw [evens_len r]; lia
theorem odds_len : ∀ l : List Obj, (odds l).length = l.length / 2
  | [] => rfl
  | [a] => by simp [odds]
  | a :: b :: r => by show (odds r).length + 1 = (r.length + 1 + 1) / 2; rw [odds_len r]; lia
theorem btOf_get : ∀ (k : Nat) (l : List Obj) (i : Nat), l.length < 2 ^ k → (btOf k l).get i = l[i]?
  | 0, l, i, h => by
    have : l = [] := List.length_eq_zero_iff.mp (by simpa using h)
    subst this
    simp [btOf, BT.get]
  | k + 1, [], i, _ => by simp [btOf, BT.get]
  | k + 1, o :: r, i, h => by
    rw [Nat.pow_succ] at h
    simp only [List.length_cons] at h
    show (BT.node o (btOf k (evens r)) (btOf k (odds r))).get i = _
    rw [BT.get_node]
    by_cases h0 : i = 0
    · subst h0; simp
    · rw [if_neg h0]
      by_cases h1 : i % 2 = 1
      · rw [if_pos h1, btOf_get k _ _ (by rw [evens_len]; (clear h0 h1; lia)), evens_get]
        obtain ⟨j, rfl⟩ : ∃ j, i = 2 * j + 1 := ⟨i / 2, by (clear h h0; lia)⟩
        rw [show (2 * j + 1) / 2 = j by (clear h h0 h1; lia)]
        rfl
      · rw [if_neg h1, btOf_get k _ _ (by rw [odds_len]; (clear h0 h1; lia)), odds_get]
        obtain ⟨j, rfl⟩ : ∃ j, i = 2 * j + 1 + 1 := ⟨i / 2 - 1, by (clear h; lia)⟩
        rw [show (2 * j + 1 + 1) / 2 - 1 = j by (clear h h0 h1; lia)]
        rfl
theorem absHeap_btOf {k : Nat} {l : List Obj} {life : Life} (h : l.length < 2 ^ k) : absHeap (btOf k l) l.length life = ⟨l.toArray, life⟩ := by
  have e : (absHeap (btOf k l) l.length life).objs = l.toArray := by
    refine Array.ext_getElem? fun i => ?_
    rw [absHeap_at, btOf_get k l i h, List.getElem?_toArray]
    by_cases hi : i < l.length
    · rw [if_pos hi, List.getElem?_eq_getElem hi]; rfl
    · rw [if_neg hi, List.getElem?_eq_none (by (clear h; lia))]
  have e2 : (absHeap (btOf k l) l.length life).life = life := rfl
  cases hq : absHeap (btOf k l) l.length life with
  | mk o l' => rw [hq] at e e2; cases e; cases e2; rfl
end M6
namespace M6
noncomputable def lItem : Expr → Bool
  | .Name _ _ => true
  | .Constant (.int _) _ _ => true
  | _ => false
noncomputable def nval (ns : List DictEntry) (x : Str) : Value := match ns.find? (·.key.isStr x) with
  | some e => e.val
  | none => .none
noncomputable def lVals (ns : List DictEntry) : List Expr → Nat → List Value
  | [], _ => []
  | .Name x _ :: r, t => nval ns x :: lVals ns r t
  | .Constant (.int i) _ _ :: r, t => .int i t :: lVals ns r (t + 1)
  | _ :: r, t => lVals ns r t
noncomputable def lTk : List Expr → Nat → Nat
  | [], t => t
  | .Constant (.int _) _ _ :: r, t => lTk r (t + 1)
  | _ :: r, t => lTk r t
noncomputable def lSteps : List Expr → Nat
  | [] => 0
  | .Name _ _ :: r => 3 + lSteps r
  | _ :: r => 1 + lSteps r
noncomputable def lPos : List Expr → Pos → Pos
  | [], q => q
  | .Name _ p :: r, _ => lPos r p
  | _ :: r, q => lPos r q
section
variable {p : Program} {n₀ : Nat} {ann : Option Value} {g : Array GenState} {d : Drawn} {os : OsState} {w : World} {e : Ec} {c : CS}
noncomputable def Found (e : Ec) (ns : List DictEntry) (x : Str) : Prop := (x == ("__debug__" : Str)) = false ∧ e.env.kindOf x = some .local ∧ (ns.find? (·.key.isStr x)).isSome = true
theorem XL_all (E : EcOk p n₀ ann g d os w e) : ∀ (es : List Expr) (t : Nat) (pos : Pos), es.all lItem = true → (∀ x q, Expr.Name x q ∈ es → Found e c.ns x) → XL p n₀ ann g d os w (lSteps es) es e.env (mkH e.b c) t pos (lVals c.ns es t) (lTk es t) (lPos es pos)
  | [], t, pos, _, _ => XL_nil
  | x :: r, t, pos, h, hf => by
    rw [List.all_cons, Bool.and_eq_true] at h
    obtain ⟨h1, h2⟩ := h
    unfold lItem at h1
    split at h1
    · rename_i x q
      obtain ⟨f1, f2, f3⟩ := hf x q (.head _)
      obtain ⟨en, hen⟩ := Option.isSome_iff_exists.mp f3
      have hv : nval c.ns x = en.val := by unfold nval; rw [hen]
      show XL p n₀ ann g d os w (3 + lSteps r) _ _ _ _ _ (nval c.ns x :: lVals c.ns r t) (lTk r t) (lPos r q)
      rw [hv]
      exact XL_cons rfl (XR_Name E f1 f2 hen) (XL_all E r t q h2 fun y q' hy => hf y q' (.tail _ hy))
    · rename_i i k q
      show XL p n₀ ann g d os w (1 + lSteps r) _ _ _ _ _ (.int i t :: lVals c.ns r (t + 1)) (lTk r (t + 1)) (lPos r pos)
      exact XL_cons rfl XR_int (XL_all E r (t + 1) pos h2 fun y q' hy => hf y q' (.tail _ hy))
    · cases h1
theorem lVals_length {ns : List DictEntry} : ∀ (es : List Expr) (t : Nat), (lVals ns es t).length ≤ es.length
  | [], _ => Nat.le_refl _
  | x :: r, t => by
    unfold lVals
    split
    · rename_i h; cases h
    · rename_i h; cases h; exact Nat.succ_le_succ (lVals_length _ _)
    · rename_i h; cases h; exact Nat.succ_le_succ (lVals_length _ _)
    · rename_i h; cases h; exact Nat.le_succ_of_le (lVals_length _ _)
/-- A written list is bound in a class's block. -/
theorem XR_listSt (E : EcOk p n₀ ann g d os w e) {b : Str} {np q pos pos₀ : Pos} {es : List Expr} {t : Nat} (h1 : es.all lItem = true) (hf : ∀ x q, Expr.Name x q ∈ es → Found e c.ns x) (hz : es.length ≤ 1000) (hk : e.env.kindOf b = some .local) (fr : Fresh b c.ns) :
    XR p n₀ ann g d os w (1 + ((1 + (lSteps es + 1)) + 8)) (exec (.Assign [.Name b np] (.List es q) pos) e.env) (mkH e.b c) t pos₀ .next
      (mkH e.b ⟨c.objs ++ [{ cls := .type "list", data := .seq (lVals c.ns es t).toArray }], c.ns ++ [⟨hsh w b, .str b (lTk es t), .ref (29 + c.objs.length)⟩], c.pl⟩) (lTk es t + 1) np := by
  have k := XR_assign (c := c) (c₁ := { c with objs := c.objs ++ [{ cls := .type "list", data := .seq (lVals c.ns es t).toArray }] }) (t := t) (t₁ := lTk es t) (name := b) (np := np) (pos := pos) (pos₀ := pos₀) E hk fr rfl rfl
    (XR_List (pos := pos) (by have := lVals_length (ns := c.ns) es t; have : sizeLine = 2 ^ 24 := rfl; lia) (XL_all E es t q h1 hf))
  rw [mkH_size E.A] at k
  exact k
end
/-- The names of a row's statements are found. -/
theorem ent_of_row {w : World} : ∀ {r : Row} {x : Stmt × Nat × Nat}, x ∈ r → stB x.1 = true → ∃ en ∈ rEnt w r, en.key.isStr (bindOf x.1) = true
  | (st, n, t) :: r, x, hx, hs => by
    rcases List.mem_cons.mp hx with rfl | hx
    · have : ∃ en ∈ sEnt w st n t, en.key.isStr (bindOf st) = true := by
        have one : ∀ (b : Str) (hh : Int) (tk : Nat) (v : Value), ∃ en ∈ ([⟨hh, .str b tk, v⟩] : List DictEntry), en.key.isStr b = true := fun b hh tk v => ⟨_, .head _, by rw [isStr_str']; exact beq_self_eq_true _⟩
        exact st_cases (P := fun st => ∃ en ∈ sEnt w st n t, en.key.isStr (bindOf st) = true) hs (fun name po a va ko kd kw body scope ts bind pos => one _ _ _ _) (fun name po a va ko kd kw body scope ts bind pos k1 q1 i k2 q2 => one _ _ _ _) (fun n np i k q pos => one _ _ _ _) (fun n np x k q pos => one _ _ _ _)
      obtain ⟨en, h1, h2⟩ := this
      exact ⟨en, List.mem_append_left _ h1, h2⟩
    · obtain ⟨en, h1, h2⟩ := ent_of_row hx hs
      exact ⟨en, List.mem_append_right _ h1, h2⟩
theorem lookup_local {b : Str} : ∀ {l : List (Str × NameKind)}, l.all (fun x => x.2 == .local) = true → b ∈ l.map (·.1) → l.lookup b = some .local
  | [], _, h => nomatch h
  | (n, k) :: r, h, hm => by
    rw [List.all_cons, Bool.and_eq_true] at h
    have hk : k = .local := by simpa using h.1
    subst hk
    simp only [List.lookup]
    cases hb : b == n with
    | true => rfl
    | false =>
      rcases List.mem_cons.mp hm with q | q
      · have : b = n := q
        rw [this, beq_self_eq_true] at hb
        cases hb
      · exact lookup_local h.2 q
/-- The names of a written list, by their codes. -/
noncomputable def chkL (ks : List Nat) (dbg : Nat) : List Expr → List Nat → Bool
  | [], _ => true
  | .Name x _ :: r, k :: lk => Nat.beq k (enc x) && small x && !(awayN k ks) && !(Nat.beq k dbg) && chkL ks dbg r lk
  | .Name _ _ :: _, [] => false
  | .Constant (.int _) _ _ :: r, lk => chkL ks dbg r lk
  | _ :: _, _ => false
theorem awayN_false {k : Nat} : ∀ {l : List Nat}, awayN k l = false → k ∈ l
  | [], h => by cases h
  | a :: l, h => by
    have h : @Bool.rec (fun _ => Bool) (awayN k l) false (Nat.beq a k) = false := h
    cases hq : Nat.beq a k with
    | true => rw [Nat.eq_of_beq_eq_true hq]; exact .head _
    | false => rw [hq] at h; exact .tail _ (awayN_false h)
theorem chkL_name {ks : List Nat} {dbg : Nat} {x : Str} {q : Pos} : ∀ {es : List Expr} {lk : List Nat}, chkL ks dbg es lk = true → Expr.Name x q ∈ es → enc x ∈ ks ∧ small x = true ∧ enc x ≠ dbg
  | [], _, _, h => nomatch h
  | y :: r, lk, h, hm => by
    unfold chkL at h
    split at h
    · rename_i e; cases e
    · rename_i e; cases e
      simp only [Bool.and_eq_true, Bool.not_eq_true'] at h
      obtain ⟨⟨⟨⟨h1, h2⟩, h3⟩, h4⟩, h5⟩ := h
      rcases List.mem_cons.mp hm with e | hm
      · cases e
        have h1 := Nat.eq_of_beq_eq_true h1
        rw [← h1]
        exact ⟨awayN_false h3, h2, Nat.ne_of_beq_eq_false h4⟩
      · exact chkL_name h5 hm
    · cases h
    · rename_i e; cases e
      rcases List.mem_cons.mp hm with e | hm
      · cases e
      · exact chkL_name h hm
    · cases h
theorem chkL_items {ks : List Nat} {dbg : Nat} : ∀ {es : List Expr} {lk : List Nat}, chkL ks dbg es lk = true → es.all lItem = true
  | [], _, _ => rfl
  | y :: r, lk, h => by
    unfold chkL at h
    split at h
    · rename_i e; cases e
    · rename_i e; cases e
      simp only [Bool.and_eq_true] at h
      rw [List.all_cons, chkL_items h.2]; rfl
    · cases h
    · rename_i e; cases e
      rw [List.all_cons, chkL_items h]; rfl
    · cases h
theorem chk_code {k : Nat} : ∀ {l : List Stmt} {ks us : List Nat} {ln : Nat}, chk us ln l ks = true → l.length = ks.length → k ∈ ks → ∃ st ∈ l, enc (bindOf st) = k
  | [], [], _, _, _, _, h => nomatch h
  | [], _ :: _, _, _, _, h, _ => by simp at h
  | _ :: _, [], _, _, _, h, _ => by simp at h
  | st :: l, k' :: ks, us, ln, h, hl, hm => by
    unfold chk at h
    simp only [Bool.and_eq_true] at h
    obtain ⟨⟨⟨⟨h1, h2⟩, h3⟩, h4⟩, h5⟩ := h
    rcases List.mem_cons.mp hm with e | hm
    · exact ⟨st, .head _, by rw [e]; exact (Nat.eq_of_beq_eq_true h2).symm⟩
    · obtain ⟨s, a, b⟩ := chk_code h5 (by simpa using hl) hm
      exact ⟨s, .tail _ a, b⟩
theorem found_of {e : Ec} {w : World} {r : Row} {ks lk us : List Nat} {ln dbg : Nat} {es : List Expr} {ns : List DictEntry} (hd : dbg = enc ("__debug__" : Str)) (hc : chk us ln (r.map (·.1)) ks = true) (hl : r.length = ks.length) (hs : ∀ x ∈ r, stB x.1 = true) (sm : ∀ x ∈ r, small (bindOf x.1) = true)
    (hk : ∀ x ∈ r, e.env.kindOf (bindOf x.1) = some .local) (hL : chkL ks dbg es lk = true) (hns : ∀ en ∈ rEnt w r, en ∈ ns) : ∀ x q, Expr.Name x q ∈ es → Found e ns x := fun x q hx => by
  obtain ⟨h1, h2, h3⟩ := chkL_name hL hx
  obtain ⟨st, hst, e1⟩ := chk_code hc (by simpa using hl) h1
  obtain ⟨y, hy, rfl⟩ := List.mem_map.mp hst
  have := enc_inj (sm y hy) h2 e1
  subst this
  refine ⟨?_, hk y hy, ?_⟩
  · refine beq_eq_false_iff_ne.mpr fun z => h3 ?_
    rw [z, hd]
  · obtain ⟨en, a, b⟩ := ent_of_row (w := w) hy (hs y hy)
    rw [List.find?_isSome]
    exact ⟨en, hns en a, b⟩
theorem Inv.add {us : List Nat} {ln : Nat} {c : CS} (I : Inv us ln c) {objs : List Obj} {b : Str} {hh : Int} {t k : Nat} {v : Value} (hk : k = enc b) : Inv (k :: us) ln ⟨objs, c.ns ++ [⟨hh, .str b t, v⟩], c.pl⟩ := ⟨fun x hx => by
  rcases List.mem_append.mp hx with hx | hx
  · obtain ⟨n, t, a, c⟩ := I.ns x hx
    exact ⟨n, t, a, .tail _ c⟩
  · obtain rfl := List.mem_singleton.mp hx
    exact ⟨b, t, rfl, by rw [hk]; exact .head _⟩, I.pl⟩
theorem rowN_is {e : Ec} : ∀ (r : Row) (n t : Nat), rowOk r n t = true → (∀ x ∈ r, stB x.1 = true) → n + (rObjs e r).length = rowN r n
  | [], n, _, _, _ => rfl
  | (st, n', t') :: r, n, t, h, hs => by
    unfold rowOk at h
    simp only [Bool.and_eq_true] at h
    obtain ⟨⟨h1, h2⟩, h3⟩ := h
    have h1 := Nat.eq_of_beq_eq_true h1
    subst h1
    have := rowN_is (e := e) r (n' + sLen st) _ h3 fun x hx => hs x (.tail _ hx)
    show n' + (sObjs e st n' t' ++ rObjs e r).length = rowN r (n' + sLen st)
    rw [List.length_append, sObjs_length (hs _ (.head _)), ← this]
    dsimp only
    lia
noncomputable def lEs : Stmt → List Expr
  | .Assign _ (.List es _) _ => es
  | _ => []
noncomputable def lQ : Stmt → Pos
  | .Assign _ (.List _ q) _ => q
  | _ => default
noncomputable abbrev lForm (st : Stmt) : Stmt := .Assign [.Name (bindOf st) (endOf st)] (.List (lEs st) (lQ st)) (posOf st)
end M6
namespace M6
noncomputable section
abbrev PP : Program := PySem.Challenge.pw_me0006_01
noncomputable def pst (i : Nat) : Stmt := (PP.main.body[i]?).getD (.Pass default)
noncomputable def lawI : Nat := PP.main.body.length - 1
noncomputable def sBody : Stmt → List Stmt
  | .FunctionDef _ _ b _ _ _ _ _ _ _ => b
  | .ClassDef _ _ _ b _ _ _ _ _ _ _ => b
  | _ => []
noncomputable def sArgs : Stmt → Arguments
  | .FunctionDef _ a _ _ _ _ _ _ _ _ => a
  | _ => default
noncomputable def sScope : Stmt → Scope
  | .FunctionDef _ _ _ _ _ _ s _ _ _ => s
  | .ClassDef _ _ _ _ _ _ s _ _ _ _ => s
  | _ => default
noncomputable def sName : Stmt → Str
  | .FunctionDef n _ _ _ _ _ _ _ _ _ => n
  | _ => default
noncomputable def cb : List Stmt := sBody (pst 2)
noncomputable def cst (i : Nat) : Stmt := (cb[i]?).getD (.Pass default)
noncomputable abbrev S (x : String) : Str := Str.ofString x
noncomputable abbrev annV : Option Value := some (.ref 6)
noncomputable def menv : Env := { scope := PP.main.scope, locals := mainNs, globals := mainNs, cells := [], code := .ref 13, frame := some 14 }
noncomputable def cenv : Env := { scope := sScope (pst 2), locals := 24, globals := mainNs, cells := [], qual := S "MPU.", func := none, code := .ref 27, frame := some 28, builtins := 0 }
noncomputable def mcode : Code := .body (behindTheImports PP) menv
noncomputable abbrev qP : Pos := default
section
variable (w : World)
noncomputable abbrev h (x : Str) : Int := hsh w x
noncomputable def o11 : Obj := ⟨(.type "tuple"), none, .seq #[] 0, #[]⟩
noncomputable def o12 : Obj := ⟨.none, none, .fields #[(.int 1 0), (.int 0 0), (.ref 20), (.int 5 0), (.int 0 0), (.ref 27)], #[]⟩
noncomputable def o13 : Obj := ⟨(.type "code"), none, .fields #[(.str (S "<module>") 182), (.str (S "<module>") 183), (.str (S "/claim/cut.py") 184), (.int 1 0), (.int 0 0), (.int 0 0), (.int 0 0), (.int 0 0), (.ref 11), (.bool false), (.int 181 0), (.ref 12), .none, .none, .none, .none, (.int 185 0), (.int 1 0), (.str (S "/claim/cut.py") 186)], #[]⟩
noncomputable def o14 : Obj := ⟨(.type "frame"), none, .plain, #[some (.ref 13), some (.ref 3), some (.ref 3), none, some (.str (S "__main__") 164), none, some (.ref 0)]⟩
noncomputable def o15 : Obj := ⟨(.type "tuple"), none, .seq #[] 0, #[]⟩
noncomputable def o16 : Obj := ⟨.none, none, .fields #[], #[]⟩
noncomputable def o17 : Obj := ⟨(.type "tuple"), none, .seq #[(.str (S "k") 190)] 0, #[]⟩
noncomputable def o18 : Obj := ⟨(.type "tuple"), none, .seq #[] 0, #[]⟩
noncomputable def o19 : Obj := ⟨.none, none, .func { name := (S "_wall"), qualname := (S "_wall"), params := sArgs (pst 0), body := .stmts (sBody (pst 0)), scope := sScope (pst 0), globals := 0, closure := [], defaults := .none, kwdefaults := .none, doc := .none, pyModule := .none, annotations := none, code := .none, closureTuple := .none, builtins := 0 }, #[]⟩
noncomputable def o20 : Obj := ⟨(.type "code"), none, .fields #[(.str (S "_wall") 187), (.str (S "_wall") 188), (.str (S "/claim/cut.py") 189), (.int 1 0), (.int 1 0), (.int 0 0), (.int 0 0), (.int 3 0), (.ref 15), (.bool true), (.int 181 0), (.ref 16), .none, (.ref 17), (.ref 18), (.ref 19), (.int 191 0), (.int 1 0), (.str (S "/claim/cut.py") 192)], #[]⟩
noncomputable def o21 : Obj := ⟨(.type "function"), none, .func { name := (S "_wall"), qualname := (S "_wall"), params := sArgs (pst 0), body := .stmts (sBody (pst 0)), scope := sScope (pst 0), globals := 3, closure := [], defaults := .none, kwdefaults := .none, doc := .none, pyModule := (.str (S "__main__") 164), annotations := none, code := (.ref 20), closureTuple := .none, builtins := 0 }, #[]⟩
noncomputable def o3a : Obj := ⟨(.type "dict"), none, .dict #[⟨h w (S "__name__"), .str (S "__name__") 165, (.str (S "py65.devices.mpu6502") 194)⟩, ⟨h w (S "__doc__"), .str (S "__doc__") 166, .none⟩, ⟨h w (S "__package__"), .str (S "__package__") 167, .none⟩, ⟨h w (S "__loader__"), .str (S "__loader__") 168, (.builtin "__main__.__loader__#opaque")⟩, ⟨h w (S "__spec__"), .str (S "__spec__") 169, .none⟩, ⟨h w (S "__annotations__"), .str (S "__annotations__") 170, (.ref 6)⟩, ⟨h w (S "__builtins__"), .str (S "__builtins__") 171, (.ref 4)⟩, ⟨h w (S "__file__"), .str (S "__file__") 173, (.str (S "/claim/cut.py") 172)⟩, ⟨h w (S "__cached__"), .str (S "__cached__") 174, .none⟩, ⟨h w (S "_wall"), .str (S "_wall") 193, (.ref 21)⟩] 10, #[]⟩
noncomputable def o22 : Obj := ⟨(.type "tuple"), none, .seq #[] 0, #[]⟩
noncomputable def o23 : Obj := ⟨(.type "builtin_function_or_method"), none, .fields #[(.builtin "type.__prepare__"), (.type "type")], #[]⟩
noncomputable def o25 : Obj := ⟨(.type "tuple"), none, .seq #[] 0, #[]⟩
noncomputable def o27 : Obj := ⟨(.type "code"), none, .fields #[(.str (S "MPU") 198), (.str (S "MPU") 199), (.str (S "/claim/cut.py") 200), (.int 5 0), (.int 0 0), (.int 0 0), (.int 0 0), (.int 0 0), (.ref 25), (.bool false), (.int 181 0), (.ref 26), .none, .none, .none, .none, (.int 201 0), (.int 5 0), (.str (S "/claim/cut.py") 202)], #[]⟩
noncomputable def o28 : Obj := ⟨(.type "frame"), none, .plain, #[some (.ref 27), some (.ref 3), some (.ref 24), none, some (.str (S "py65.devices.mpu6502") 194), none, some (.ref 0)]⟩
noncomputable def L0 : List Obj := [boot_o_0 w.params, boot_o_1 w.params, boot_o_2 w.params, boot_o_3 w.params, boot_o_4 w.params, boot_o_5 w.params, boot_o_6 w.params, boot_o_7 w.params, boot_o_8 w.params, boot_o_9 w.params, boot_o_10 w.params]
noncomputable def A109 : List Obj := [boot_o_0 w.params, boot_o_1 w.params, boot_o_2 w.params, o3a w, boot_o_4 w.params, boot_o_5 w.params, boot_o_6 w.params, boot_o_7 w.params, boot_o_8 w.params, boot_o_9 w.params, boot_o_10 w.params, o11, o12, o13, o14, o15, o16, o17, o18, o19, o20, o21, o22, o23]
noncomputable def ns0 : List DictEntry := [⟨h w (S "__module__"), .str (S "__module__") 203, (.str (S "py65.devices.mpu6502") 194)⟩, ⟨h w (S "__qualname__"), .str (S "__qualname__") 205, (.str (S "MPU") 204)⟩, ⟨h w (S "__firstlineno__"), .str (S "__firstlineno__") 207, (.int 5 206)⟩]
noncomputable def bs : Bs := ⟨A109 w, o25, o27, o28, (boot_heap w.params).life⟩
noncomputable def S0 (os : OsState) : SharedT := ⟨btOf 4 (L0 w), 11, (boot_heap w.params).life, Array.mk [], boot_drawn, boot_toks, os⟩
noncomputable def L109 : List Obj := A109 w ++ (nsObj (ns0 w) :: o25 :: plObj [] :: o27 :: o28 :: [])
noncomputable def S109 (os : OsState) : SharedT := ⟨btOf 5 (L109 w), 29, (boot_heap w.params).life, Array.mk [], boot_drawn, 208, os⟩
noncomputable abbrev p109 : Pos := ⟨5, 0, 1029, 786⟩
/-- The way into the class's block, by the library's quick twins. -/
noncomputable def go109 (os : OsState) : Option (SharedT × Thread) := PySem.W.Fast.tw10295753902157049106 PySem.W.Fast.tw14364793385576792824 PP w 11 annV 0 109 (S0 w os) (topStub PP)
noncomputable def stk (os : OsState) : List Frame := match go109 w os with
  | some (_, t) => t.stack
  | none => []
noncomputable def fr1 (os : OsState) : Frame := match stk w os with
  | f :: _ => f
  | [] => topFrame qP
end
theorem go109_is (w : World) (os : OsState) : go109 w os = some (S109 w os, ⟨PySem.W.Fast.tw11892475500146522536 PySem.W.Fast.tw14364793385576792824 (.body cb cenv), .body cb cenv, p109, fr1 w os :: (stk w os).tail⟩) := by kernel_rfl
end
end M6
namespace VE
open M6
noncomputable abbrev CA : Addr := 1428
noncomputable def tb0 : List PV := [.any, .any, .any, .any, .any, .any, .any, .any, .any, .any, .any, .any, .any, .any, .any, .any, .any, .any, .any, .any, .any, .any, .any, .any, .fn 463, .any, .any, .any, .any, .any, .fn 484, .any, .fn 491, .any, .any, .any, .any, .any, .any, .any, .any, .any, .any, .any, .any, .any, .any, .any, .any, .any, .any, .any, .any, .any, .any, .any, .fn 596, .any, .any, .any, .any, .any, .fn 617, .any, .any, .any, .any, .any, .any, .any, .any, .any, .fn 652, .any, .any, .any, .fn 673, .any, .any, .any, .any, .any, .any, .any, .any, .any, .any, .any, .any, .any, .any, .any, .any, .any, .fn 743, .any, .fn 750, .any, .any, .any, .any, .any, .any, .any, .fn 778, .any, .any, .any, .any, .any, .any, .any, .any, .any, .any, .any, .any, .any, .any, .any, .any, .fn 855, .any, .any, .any, .any, .fn 869, .any, .any, .any, .any, .any, .any, .any, .any, .any, .any, .any, .any, .any, .any, .fn 925, .any, .any, .fn 939, .any, .any, .any, .any, .any, .any, .any, .any, .fn 981, .any, .any, .any, .fn 995, .any, .any, .fn 1002, .any, .fn 1016, .any, .any, .any, .any, .any, .any, .fn 1051, .any, .any, .any, .any, .any, .any, .fn 1086, .any, .any, .any, .any, .any, .any, .any, .any, .fn 1128, .any, .any, .any, .fn 1149, .any, .any, .any, .any, .any, .any, .any, .any, .any, .any, .any, .any, .any, .any, .any, .any, .any, .any, .any, .any, .any, .any, .any, .any, .any, .any, .any, .fn 1275, .any, .any, .any, .any, .any, .any, .any, .any, .any, .any, .any, .any, .any, .any, .any, .fn 1338, .any, .any, .any, .any, .fn 1366, .any, .fn 1373, .any, .any, .any, .any, .any, .any, .any, .any, .fn 1408, .any, .any, .any, .any, .any, .any]
noncomputable def tb1 : List PV := [.any, .any, .any, .any, .any, .any, .any, .any, .any, .any, .any, .any, .any, .any, .any, .any, .any, .any, .any, .any, .any, .any, .any, .any, .int 2, .any, .any, .any, .any, .any, .int 7, .any, .int 6, .any, .any, .any, .any, .any, .any, .any, .any, .any, .any, .any, .any, .any, .any, .any, .any, .any, .any, .any, .any, .any, .any, .any, .int 2, .any, .any, .any, .any, .any, .int 7, .any, .any, .any, .any, .any, .any, .any, .any, .any, .int 3, .any, .any, .any, .int 3, .any, .any, .any, .any, .any, .any, .any, .any, .any, .any, .any, .any, .any, .any, .any, .any, .any, .int 7, .any, .int 6, .any, .any, .any, .any, .any, .any, .any, .int 4, .any, .any, .any, .any, .any, .any, .any, .any, .any, .any, .any, .any, .any, .any, .any, .any, .int 4, .any, .any, .any, .any, .int 7, .any, .any, .any, .any, .any, .any, .any, .any, .any, .any, .any, .any, .any, .any, .int 4, .any, .any, .int 2, .any, .any, .any, .any, .any, .any, .any, .any, .int 5, .any, .any, .any, .int 5, .any, .any, .int 2, .any, .int 2, .any, .any, .any, .any, .any, .any, .int 2, .any, .any, .any, .any, .any, .any, .int 2, .any, .any, .any, .any, .any, .any, .any, .any, .int 4, .any, .any, .any, .int 4, .any, .any, .any, .any, .any, .any, .any, .any, .any, .any, .any, .any, .any, .any, .any, .any, .any, .any, .any, .any, .any, .any, .any, .any, .any, .any, .any, .int 4, .any, .any, .any, .any, .any, .any, .any, .any, .any, .any, .any, .any, .any, .any, .any, .int 2, .any, .any, .any, .any, .int 6, .any, .int 2, .any, .any, .any, .any, .any, .any, .any, .any, .int 4, .any, .any, .any, .any, .any, .any]
noncomputable def tb2 : List PV := [.any, .any, .any, .any, .any, .any, .any, .any, .any, .any, .any, .any, .any, .any, .any, .any, .any, .any, .any, .any, .any, .any, .any, .any, .int 0, .any, .any, .any, .any, .any, .int 0, .any, .int 0, .any, .any, .any, .any, .any, .any, .any, .any, .any, .any, .any, .any, .any, .any, .any, .any, .any, .any, .any, .any, .any, .any, .any, .int 0, .any, .any, .any, .any, .any, .int 0, .any, .any, .any, .any, .any, .any, .any, .any, .any, .int 0, .any, .any, .any, .int 0, .any, .any, .any, .any, .any, .any, .any, .any, .any, .any, .any, .any, .any, .any, .any, .any, .any, .int 0, .any, .int 0, .any, .any, .any, .any, .any, .any, .any, .int 0, .any, .any, .any, .any, .any, .any, .any, .any, .any, .any, .any, .any, .any, .any, .any, .any, .int 1, .any, .any, .any, .any, .int 0, .any, .any, .any, .any, .any, .any, .any, .any, .any, .any, .any, .any, .any, .any, .int 0, .any, .any, .int 2, .any, .any, .any, .any, .any, .any, .any, .any, .int 0, .any, .any, .any, .int 0, .any, .any, .int 0, .any, .int 0, .any, .any, .any, .any, .any, .any, .int 0, .any, .any, .any, .any, .any, .any, .int 2, .any, .any, .any, .any, .any, .any, .any, .any, .int 1, .any, .any, .any, .int 1, .any, .any, .any, .any, .any, .any, .any, .any, .any, .any, .any, .any, .any, .any, .any, .any, .any, .any, .any, .any, .any, .any, .any, .any, .any, .any, .any, .int 1, .any, .any, .any, .any, .any, .any, .any, .any, .any, .any, .any, .any, .any, .any, .any, .int 0, .any, .any, .any, .any, .int 0, .any, .int 2, .any, .any, .any, .any, .any, .any, .any, .any, .int 1, .any, .any, .any, .any, .any, .any]
noncomputable def Z1 : Stc := ⟨162, [1, 2, 3, 4, 5, 6, 7, 8, 9, 10, 11, 12, 13, 14, 15, 16], [(17, 65532), (18, 65530), (19, 65534), (20, 128), (21, 64), (22, 32), (23, 16), (24, 8), (25, 4), (26, 2), (27, 1), (28, 8), (29, 16)], [(33, 36), (34, 43), (35, 50), (37, 71), (38, 78), (39, 92), (41, 99), (81, 141), (42, 148), (82, 155), (43, 162), (44, 169), (45, 176), (46, 183), (47, 190), (48, 197), (83, 211), (84, 218), (50, 225), (85, 232), (51, 239), (52, 246), (86, 267), (87, 281), (88, 288), (53, 295), (89, 316), (90, 323), (55, 337), (56, 344), (91, 351), (57, 358), (92, 1149), (93, 855), (62, 995), (94, 1408), (95, 1275), (96, 484), (97, 617), (98, 743), (99, 869), (58, 652), (100, 1128), (68, 778), (101, 981), (102, 463), (103, 596), (104, 750), (71, 1016), (105, 1002), (106, 491), (107, 939), (108, 1086), (109, 1366), (110, 1051), (111, 925), (112, 673), (113, 1338), (114, 1373)], [(129, 1439), (138, 1446), (146, 1453)], [152, 142, 163], [(30, tb0), (31, tb1), (32, tb2)]⟩
noncomputable def w_uinit : WX := (wSeq (wAsA Z1 1 (wName 0) wStr) (wSeq (wAsA Z1 2 (wName 0) (wBin .Sub (wBin .LShift (wInt 1) (wAttr Z1 28 (wName 0))) (wInt 1))) (wSeq (wAsA Z1 3 (wName 0) (wBin .Sub (wBin .LShift (wInt 1) (wAttr Z1 29 (wName 0))) (wInt 1))) (wSeq (wAsA Z1 4 (wName 0) (wBin .LShift (wAttr Z1 2 (wName 0)) (wAttr Z1 28 (wName 0)))) (wSeq (wAsA Z1 5 (wName 0) (wBin .LShift (wInt 1) (wAttr Z1 28 (wName 0)))) (wSeq (wAsA Z1 6 (wName 0) (wInt 0)) (wSeq (wAsA Z1 7 (wName 0) (wBool false)) (wSeq (wAsA Z1 8 (wName 0) (wInt 0)) (wSeq (wIf (wCmpT .Is (wName 9) wNone) wDead wNil) (wSeq (wAsA Z1 9 (wName 0) (wName 9)) (wSeq (wAsA Z1 10 (wName 0) (wName 11)) (wSeq (wExpr (wFrz (wMeth Z1 35 (wName 0) wA0))) wNil))))))))))))
theorem s_uinit {G : Gl nm Z1} : SB G (sScope (cst 15)) (sBody (cst 15)) w_uinit := (SB_cons (SX_asA (n := 1) SE_str (SE_name (n := 0) rfl) rfl (fun _ => rfl)) (SB_cons (SX_asA (n := 2) (SE_bin (SE_bin SE_int (SE_attr (n := 28) (SE_name (n := 0) rfl) rfl (fun _ => rfl))) SE_int) (SE_name (n := 0) rfl) rfl (fun _ => rfl)) (SB_cons (SX_asA (n := 3) (SE_bin (SE_bin SE_int (SE_attr (n := 29) (SE_name (n := 0) rfl) rfl (fun _ => rfl))) SE_int) (SE_name (n := 0) rfl) rfl (fun _ => rfl)) (SB_cons (SX_asA (n := 4) (SE_bin (SE_attr (n := 2) (SE_name (n := 0) rfl) rfl (fun _ => rfl)) (SE_attr (n := 28) (SE_name (n := 0) rfl) rfl (fun _ => rfl))) (SE_name (n := 0) rfl) rfl (fun _ => rfl)) (SB_cons (SX_asA (n := 5) (SE_bin SE_int (SE_attr (n := 28) (SE_name (n := 0) rfl) rfl (fun _ => rfl))) (SE_name (n := 0) rfl) rfl (fun _ => rfl)) (SB_cons (SX_asA (n := 6) SE_int (SE_name (n := 0) rfl) rfl (fun _ => rfl)) (SB_cons (SX_asA (n := 7) SE_bool (SE_name (n := 0) rfl) rfl (fun _ => rfl)) (SB_cons (SX_asA (n := 8) SE_int (SE_name (n := 0) rfl) rfl (fun _ => rfl)) (SB_cons (SX_if (ST_cmp (SE_name (n := 9) rfl) SE_none rfl) SB_dead SB_nil) (SB_cons (SX_asA (n := 9) (SE_name (n := 9) rfl) (SE_name (n := 0) rfl) rfl (fun _ => rfl)) (SB_cons (SX_asA (n := 10) (SE_name (n := 11) rfl) (SE_name (n := 0) rfl) rfl (fun _ => rfl)) (SB_cons (SX_expr (SE_frz (S0_meth (n := 35) (SE_name (n := 0) rfl) SA_nil rfl (fun _ => ⟨_, rfl⟩))) (fun _ => rfl)) SB_nil))))))))))))
noncomputable def w_step : WX := (wSeq (wAsg 74 (wSub (wAttr Z1 9 (wName 0)) (wAttr Z1 11 (wName 0)))) (wSeq (wAsA Z1 11 (wName 0) (wBin .BitAnd (wBin .Add (wAttr Z1 11 (wName 0)) (wInt 1)) (wAttr Z1 3 (wName 0)))) (wSeq (wAsA Z1 6 (wName 0) (wInt 0)) (wSeq (wAsA Z1 7 (wName 0) (wSub (wAttr Z1 32 (wName 0)) (wName 74))) (wSeq (wExpr (wFrz (wFcall Z1 (wSub (wAttr Z1 30 (wName 0)) (wName 74)) (wAc (wName 0) wA0)))) (wSeq (wAuA Z1 11 .BitAnd (wName 0) (wAttr Z1 3 (wName 0))) (wSeq (wAuA Z1 8 .Add (wName 0) (wBin .Add (wSub (wAttr Z1 31 (wName 0)) (wName 74)) (wAttr Z1 6 (wName 0)))) (wSeq (wRet (wName 0)) wNil))))))))
theorem s_step {G : Gl nm Z1} : SB G (sScope (cst 16)) (sBody (cst 16)) w_step := (SB_cons (SX_asg (n := 74) (SE_sub (SE_attr (n := 9) (SE_name (n := 0) rfl) rfl (fun _ => rfl)) (SE_attr (n := 11) (SE_name (n := 0) rfl) rfl (fun _ => rfl)) (fun _ _ => rfl)) rfl (.inl (by kernel_rfl)) (fun _ => rfl)) (SB_cons (SX_asA (n := 11) (SE_bin (SE_bin (SE_attr (n := 11) (SE_name (n := 0) rfl) rfl (fun _ => rfl)) SE_int) (SE_attr (n := 3) (SE_name (n := 0) rfl) rfl (fun _ => rfl))) (SE_name (n := 0) rfl) rfl (fun _ => rfl)) (SB_cons (SX_asA (n := 6) SE_int (SE_name (n := 0) rfl) rfl (fun _ => rfl)) (SB_cons (SX_asA (n := 7) (SE_sub (SE_attr (n := 32) (SE_name (n := 0) rfl) rfl (fun _ => rfl)) (SE_name (n := 74) rfl) (fun _ _ => rfl)) (SE_name (n := 0) rfl) rfl (fun _ => rfl)) (SB_cons (SX_expr (SE_frz (S0_fcall (SE_sub (SE_attr (n := 30) (SE_name (n := 0) rfl) rfl (fun _ => rfl)) (SE_name (n := 74) rfl) (fun _ _ => rfl)) (SA_cons (SE_name (n := 0) rfl) SA_nil (fun _ => rfl)) (fun _ => rfl))) (fun _ => rfl)) (SB_cons (SX_auA (n := 11) (SE_name (n := 0) rfl) (SE_attr (n := 3) (SE_name (n := 0) rfl) rfl (fun _ => rfl)) rfl) (SB_cons (SX_auA (n := 8) (SE_name (n := 0) rfl) (SE_bin (SE_sub (SE_attr (n := 31) (SE_name (n := 0) rfl) rfl (fun _ => rfl)) (SE_name (n := 74) rfl) (fun _ _ => rfl)) (SE_attr (n := 6) (SE_name (n := 0) rfl) rfl (fun _ => rfl))) rfl) (SB_cons (SX_ret (SE_name (n := 0) rfl)) SB_nil))))))))
noncomputable def w_reset : WX := (wSeq (wAsA Z1 11 (wName 0) (wAttr Z1 10 (wName 0))) (wSeq (wIf (wCmpT .Is (wAttr Z1 11 (wName 0)) wNone) wDead wNil) (wSeq (wAsA Z1 12 (wName 0) (wAttr Z1 2 (wName 0))) (wSeq (wAsA Z1 13 (wName 0) (wInt 0)) (wSeq (wAsA Z1 14 (wName 0) (wInt 0)) (wSeq (wAsA Z1 15 (wName 0) (wInt 0)) (wSeq (wAsA Z1 16 (wName 0) (wBin .BitOr (wAttr Z1 23 (wName 0)) (wAttr Z1 22 (wName 0)))) (wSeq (wAsA Z1 8 (wName 0) (wInt 0)) wNil))))))))
theorem s_reset {G : Gl nm Z1} : SB G (sScope (cst 17)) (sBody (cst 17)) w_reset := (SB_cons (SX_asA (n := 11) (SE_attr (n := 10) (SE_name (n := 0) rfl) rfl (fun _ => rfl)) (SE_name (n := 0) rfl) rfl (fun _ => rfl)) (SB_cons (SX_if (ST_cmp (SE_attr (n := 11) (SE_name (n := 0) rfl) rfl (fun _ => rfl)) SE_none rfl) SB_dead SB_nil) (SB_cons (SX_asA (n := 12) (SE_attr (n := 2) (SE_name (n := 0) rfl) rfl (fun _ => rfl)) (SE_name (n := 0) rfl) rfl (fun _ => rfl)) (SB_cons (SX_asA (n := 13) SE_int (SE_name (n := 0) rfl) rfl (fun _ => rfl)) (SB_cons (SX_asA (n := 14) SE_int (SE_name (n := 0) rfl) rfl (fun _ => rfl)) (SB_cons (SX_asA (n := 15) SE_int (SE_name (n := 0) rfl) rfl (fun _ => rfl)) (SB_cons (SX_asA (n := 16) (SE_bin (SE_attr (n := 23) (SE_name (n := 0) rfl) rfl (fun _ => rfl)) (SE_attr (n := 22) (SE_name (n := 0) rfl) rfl (fun _ => rfl))) (SE_name (n := 0) rfl) rfl (fun _ => rfl)) (SB_cons (SX_asA (n := 8) SE_int (SE_name (n := 0) rfl) rfl (fun _ => rfl)) SB_nil))))))))
noncomputable def w_ByteAt : WX := (wSeq (wRet (wSub (wAttr Z1 9 (wName 0)) (wName 75))) wNil)
theorem s_ByteAt {G : Gl nm Z1} : SB G (sScope (cst 20)) (sBody (cst 20)) w_ByteAt := (SB_cons (SX_ret (SE_sub (SE_attr (n := 9) (SE_name (n := 0) rfl) rfl (fun _ => rfl)) (SE_name (n := 75) rfl) (fun _ _ => rfl))) SB_nil)
noncomputable def w_WordAt : WX := (wSeq (wRet (wBin .Add (wFrz (wMeth Z1 37 (wName 0) (wAc (wName 75) wA0))) (wBin .LShift (wFrz (wMeth Z1 37 (wName 0) (wAc (wBin .Add (wName 75) (wInt 1)) wA0))) (wAttr Z1 28 (wName 0))))) wNil)
theorem s_WordAt {G : Gl nm Z1} : SB G (sScope (cst 21)) (sBody (cst 21)) w_WordAt := (SB_cons (SX_ret (SE_bin (SE_frz (S0_meth (n := 37) (SE_name (n := 0) rfl) (SA_cons (SE_name (n := 75) rfl) SA_nil (fun _ => rfl)) rfl (fun _ => ⟨_, rfl⟩))) (SE_bin (SE_frz (S0_meth (n := 37) (SE_name (n := 0) rfl) (SA_cons (SE_bin (SE_name (n := 75) rfl) SE_int) SA_nil (fun _ => rfl)) rfl (fun _ => ⟨_, rfl⟩))) (SE_attr (n := 28) (SE_name (n := 0) rfl) rfl (fun _ => rfl))))) SB_nil)
noncomputable def w_ProgramCounter : WX := (wSeq (wRet (wAttr Z1 11 (wName 0))) wNil)
theorem s_ProgramCounter {G : Gl nm Z1} : SB G (sScope (cst 23)) (sBody (cst 23)) w_ProgramCounter := (SB_cons (SX_ret (SE_attr (n := 11) (SE_name (n := 0) rfl) rfl (fun _ => rfl))) SB_nil)
noncomputable def w_ImmediateByte : WX := (wSeq (wRet (wFrz (wMeth Z1 37 (wName 0) (wAc (wAttr Z1 11 (wName 0)) wA0)))) wNil)
theorem s_ImmediateByte {G : Gl nm Z1} : SB G (sScope (cst 24)) (sBody (cst 24)) w_ImmediateByte := (SB_cons (SX_ret (SE_frz (S0_meth (n := 37) (SE_name (n := 0) rfl) (SA_cons (SE_attr (n := 11) (SE_name (n := 0) rfl) rfl (fun _ => rfl)) SA_nil (fun _ => rfl)) rfl (fun _ => ⟨_, rfl⟩)))) SB_nil)
noncomputable def w_AbsoluteAddr : WX := (wSeq (wRet (wFrz (wMeth Z1 38 (wName 0) (wAc (wAttr Z1 11 (wName 0)) wA0)))) wNil)
theorem s_AbsoluteAddr {G : Gl nm Z1} : SB G (sScope (cst 30)) (sBody (cst 30)) w_AbsoluteAddr := (SB_cons (SX_ret (SE_frz (S0_meth (n := 38) (SE_name (n := 0) rfl) (SA_cons (SE_attr (n := 11) (SE_name (n := 0) rfl) rfl (fun _ => rfl)) SA_nil (fun _ => rfl)) rfl (fun _ => ⟨_, rfl⟩)))) SB_nil)
noncomputable def w_AbsoluteXAddr : WX := (wSeq (wIf (wTru (wAttr Z1 7 (wName 0))) (wSeq (wAsg 76 (wFrz (wMeth Z1 38 (wName 0) (wAc (wAttr Z1 11 (wName 0)) wA0)))) (wSeq (wAsg 77 (wBin .BitAnd (wBin .Add (wName 76) (wAttr Z1 14 (wName 0))) (wAttr Z1 3 (wName 0)))) (wSeq (wIf (wCmpT .NotEq (wBin .BitAnd (wName 76) (wAttr Z1 4 (wName 0))) (wBin .BitAnd (wName 77) (wAttr Z1 4 (wName 0)))) (wSeq (wAuA Z1 6 .Add (wName 0) (wInt 1)) wNil) wNil) (wSeq (wRet (wName 77)) wNil)))) (wSeq (wRet (wBin .BitAnd (wBin .Add (wFrz (wMeth Z1 38 (wName 0) (wAc (wAttr Z1 11 (wName 0)) wA0))) (wAttr Z1 14 (wName 0))) (wAttr Z1 3 (wName 0)))) wNil)) wNil)
theorem s_AbsoluteXAddr {G : Gl nm Z1} : SB G (sScope (cst 31)) (sBody (cst 31)) w_AbsoluteXAddr := (SB_cons (SX_if (ST_of (SE_attr (n := 7) (SE_name (n := 0) rfl) rfl (fun _ => rfl)) (fun _ => rfl)) (SB_cons (SX_asg (n := 76) (SE_frz (S0_meth (n := 38) (SE_name (n := 0) rfl) (SA_cons (SE_attr (n := 11) (SE_name (n := 0) rfl) rfl (fun _ => rfl)) SA_nil (fun _ => rfl)) rfl (fun _ => ⟨_, rfl⟩))) rfl (.inl (by kernel_rfl)) (fun _ => rfl)) (SB_cons (SX_asg (n := 77) (SE_bin (SE_bin (SE_name (n := 76) rfl) (SE_attr (n := 14) (SE_name (n := 0) rfl) rfl (fun _ => rfl))) (SE_attr (n := 3) (SE_name (n := 0) rfl) rfl (fun _ => rfl))) rfl (.inl (by kernel_rfl)) (fun _ => rfl)) (SB_cons (SX_if (ST_cmp (SE_bin (SE_name (n := 76) rfl) (SE_attr (n := 4) (SE_name (n := 0) rfl) rfl (fun _ => rfl))) (SE_bin (SE_name (n := 77) rfl) (SE_attr (n := 4) (SE_name (n := 0) rfl) rfl (fun _ => rfl))) rfl) (SB_cons (SX_auA (n := 6) (SE_name (n := 0) rfl) SE_int rfl) SB_nil) SB_nil) (SB_cons (SX_ret (SE_name (n := 77) rfl)) SB_nil)))) (SB_cons (SX_ret (SE_bin (SE_bin (SE_frz (S0_meth (n := 38) (SE_name (n := 0) rfl) (SA_cons (SE_attr (n := 11) (SE_name (n := 0) rfl) rfl (fun _ => rfl)) SA_nil (fun _ => rfl)) rfl (fun _ => ⟨_, rfl⟩))) (SE_attr (n := 14) (SE_name (n := 0) rfl) rfl (fun _ => rfl))) (SE_attr (n := 3) (SE_name (n := 0) rfl) rfl (fun _ => rfl)))) SB_nil)) SB_nil)
noncomputable def w_AbsoluteYAddr : WX := (wSeq (wIf (wTru (wAttr Z1 7 (wName 0))) (wSeq (wAsg 76 (wFrz (wMeth Z1 38 (wName 0) (wAc (wAttr Z1 11 (wName 0)) wA0)))) (wSeq (wAsg 77 (wBin .BitAnd (wBin .Add (wName 76) (wAttr Z1 15 (wName 0))) (wAttr Z1 3 (wName 0)))) (wSeq (wIf (wCmpT .NotEq (wBin .BitAnd (wName 76) (wAttr Z1 4 (wName 0))) (wBin .BitAnd (wName 77) (wAttr Z1 4 (wName 0)))) (wSeq (wAuA Z1 6 .Add (wName 0) (wInt 1)) wNil) wNil) (wSeq (wRet (wName 77)) wNil)))) (wSeq (wRet (wBin .BitAnd (wBin .Add (wFrz (wMeth Z1 38 (wName 0) (wAc (wAttr Z1 11 (wName 0)) wA0))) (wAttr Z1 15 (wName 0))) (wAttr Z1 3 (wName 0)))) wNil)) wNil)
theorem s_AbsoluteYAddr {G : Gl nm Z1} : SB G (sScope (cst 32)) (sBody (cst 32)) w_AbsoluteYAddr := (SB_cons (SX_if (ST_of (SE_attr (n := 7) (SE_name (n := 0) rfl) rfl (fun _ => rfl)) (fun _ => rfl)) (SB_cons (SX_asg (n := 76) (SE_frz (S0_meth (n := 38) (SE_name (n := 0) rfl) (SA_cons (SE_attr (n := 11) (SE_name (n := 0) rfl) rfl (fun _ => rfl)) SA_nil (fun _ => rfl)) rfl (fun _ => ⟨_, rfl⟩))) rfl (.inl (by kernel_rfl)) (fun _ => rfl)) (SB_cons (SX_asg (n := 77) (SE_bin (SE_bin (SE_name (n := 76) rfl) (SE_attr (n := 15) (SE_name (n := 0) rfl) rfl (fun _ => rfl))) (SE_attr (n := 3) (SE_name (n := 0) rfl) rfl (fun _ => rfl))) rfl (.inl (by kernel_rfl)) (fun _ => rfl)) (SB_cons (SX_if (ST_cmp (SE_bin (SE_name (n := 76) rfl) (SE_attr (n := 4) (SE_name (n := 0) rfl) rfl (fun _ => rfl))) (SE_bin (SE_name (n := 77) rfl) (SE_attr (n := 4) (SE_name (n := 0) rfl) rfl (fun _ => rfl))) rfl) (SB_cons (SX_auA (n := 6) (SE_name (n := 0) rfl) SE_int rfl) SB_nil) SB_nil) (SB_cons (SX_ret (SE_name (n := 77) rfl)) SB_nil)))) (SB_cons (SX_ret (SE_bin (SE_bin (SE_frz (S0_meth (n := 38) (SE_name (n := 0) rfl) (SA_cons (SE_attr (n := 11) (SE_name (n := 0) rfl) rfl (fun _ => rfl)) SA_nil (fun _ => rfl)) rfl (fun _ => ⟨_, rfl⟩))) (SE_attr (n := 15) (SE_name (n := 0) rfl) rfl (fun _ => rfl))) (SE_attr (n := 3) (SE_name (n := 0) rfl) rfl (fun _ => rfl)))) SB_nil)) SB_nil)
noncomputable def w_BranchRelAddr : WX := (wSeq (wAuA Z1 6 .Add (wName 0) (wInt 1)) (wSeq (wAsg 75 (wFrz (wMeth Z1 41 (wName 0) wA0))) (wSeq (wAuA Z1 11 .Add (wName 0) (wInt 1)) (wSeq (wIf (wTru (wBin .BitAnd (wName 75) (wAttr Z1 20 (wName 0)))) (wSeq (wAsg 75 (wBin .Sub (wBin .Sub (wAttr Z1 11 (wName 0)) (wBin .BitXor (wName 75) (wAttr Z1 2 (wName 0)))) (wInt 1))) wNil) (wSeq (wAsg 75 (wBin .Add (wAttr Z1 11 (wName 0)) (wName 75))) wNil)) (wSeq (wIf (wCmpT .NotEq (wBin .BitAnd (wAttr Z1 11 (wName 0)) (wAttr Z1 4 (wName 0))) (wBin .BitAnd (wName 75) (wAttr Z1 4 (wName 0)))) (wSeq (wAuA Z1 6 .Add (wName 0) (wInt 1)) wNil) wNil) (wSeq (wAsA Z1 11 (wName 0) (wBin .BitAnd (wName 75) (wAttr Z1 3 (wName 0)))) wNil))))))
theorem s_BranchRelAddr {G : Gl nm Z1} : SB G (sScope (cst 33)) (sBody (cst 33)) w_BranchRelAddr := (SB_cons (SX_auA (n := 6) (SE_name (n := 0) rfl) SE_int rfl) (SB_cons (SX_asg (n := 75) (SE_frz (S0_meth (n := 41) (SE_name (n := 0) rfl) SA_nil rfl (fun _ => ⟨_, rfl⟩))) rfl (.inl (by kernel_rfl)) (fun _ => rfl)) (SB_cons (SX_auA (n := 11) (SE_name (n := 0) rfl) SE_int rfl) (SB_cons (SX_if (ST_of (SE_bin (SE_name (n := 75) rfl) (SE_attr (n := 20) (SE_name (n := 0) rfl) rfl (fun _ => rfl))) (fun _ => rfl)) (SB_cons (SX_asg (n := 75) (SE_bin (SE_bin (SE_attr (n := 11) (SE_name (n := 0) rfl) rfl (fun _ => rfl)) (SE_bin (SE_name (n := 75) rfl) (SE_attr (n := 2) (SE_name (n := 0) rfl) rfl (fun _ => rfl)))) SE_int) rfl (.inl (by kernel_rfl)) (fun _ => rfl)) SB_nil) (SB_cons (SX_asg (n := 75) (SE_bin (SE_attr (n := 11) (SE_name (n := 0) rfl) rfl (fun _ => rfl)) (SE_name (n := 75) rfl)) rfl (.inl (by kernel_rfl)) (fun _ => rfl)) SB_nil)) (SB_cons (SX_if (ST_cmp (SE_bin (SE_attr (n := 11) (SE_name (n := 0) rfl) rfl (fun _ => rfl)) (SE_attr (n := 4) (SE_name (n := 0) rfl) rfl (fun _ => rfl))) (SE_bin (SE_name (n := 75) rfl) (SE_attr (n := 4) (SE_name (n := 0) rfl) rfl (fun _ => rfl))) rfl) (SB_cons (SX_auA (n := 6) (SE_name (n := 0) rfl) SE_int rfl) SB_nil) SB_nil) (SB_cons (SX_asA (n := 11) (SE_bin (SE_name (n := 75) rfl) (SE_attr (n := 3) (SE_name (n := 0) rfl) rfl (fun _ => rfl))) (SE_name (n := 0) rfl) rfl (fun _ => rfl)) SB_nil))))))
noncomputable def w_stPush : WX := (wSeq (wAsS (wAttr Z1 9 (wName 0)) (wBin .Add (wAttr Z1 12 (wName 0)) (wAttr Z1 5 (wName 0))) (wBin .BitAnd (wName 78) (wAttr Z1 2 (wName 0)))) (wSeq (wAuA Z1 12 .Sub (wName 0) (wInt 1)) (wSeq (wAuA Z1 12 .BitAnd (wName 0) (wAttr Z1 2 (wName 0))) wNil)))
theorem s_stPush {G : Gl nm Z1} : SB G (sScope (cst 34)) (sBody (cst 34)) w_stPush := (SB_cons (SX_asS (SE_bin (SE_name (n := 78) rfl) (SE_attr (n := 2) (SE_name (n := 0) rfl) rfl (fun _ => rfl))) (SE_attr (n := 9) (SE_name (n := 0) rfl) rfl (fun _ => rfl)) (SE_bin (SE_attr (n := 12) (SE_name (n := 0) rfl) rfl (fun _ => rfl)) (SE_attr (n := 5) (SE_name (n := 0) rfl) rfl (fun _ => rfl))) (fun _ => rfl)) (SB_cons (SX_auA (n := 12) (SE_name (n := 0) rfl) SE_int rfl) (SB_cons (SX_auA (n := 12) (SE_name (n := 0) rfl) (SE_attr (n := 2) (SE_name (n := 0) rfl) rfl (fun _ => rfl)) rfl) SB_nil)))
noncomputable def w_stPop : WX := (wSeq (wAuA Z1 12 .Add (wName 0) (wInt 1)) (wSeq (wAuA Z1 12 .BitAnd (wName 0) (wAttr Z1 2 (wName 0))) (wSeq (wRet (wFrz (wMeth Z1 37 (wName 0) (wAc (wBin .Add (wAttr Z1 12 (wName 0)) (wAttr Z1 5 (wName 0))) wA0)))) wNil)))
theorem s_stPop {G : Gl nm Z1} : SB G (sScope (cst 35)) (sBody (cst 35)) w_stPop := (SB_cons (SX_auA (n := 12) (SE_name (n := 0) rfl) SE_int rfl) (SB_cons (SX_auA (n := 12) (SE_name (n := 0) rfl) (SE_attr (n := 2) (SE_name (n := 0) rfl) rfl (fun _ => rfl)) rfl) (SB_cons (SX_ret (SE_frz (S0_meth (n := 37) (SE_name (n := 0) rfl) (SA_cons (SE_bin (SE_attr (n := 12) (SE_name (n := 0) rfl) rfl (fun _ => rfl)) (SE_attr (n := 5) (SE_name (n := 0) rfl) rfl (fun _ => rfl))) SA_nil (fun _ => rfl)) rfl (fun _ => ⟨_, rfl⟩)))) SB_nil)))
noncomputable def w_stPushWord : WX := (wSeq (wExpr (wFrz (wMeth Z1 44 (wName 0) (wAc (wBin .BitAnd (wBin .RShift (wName 78) (wAttr Z1 28 (wName 0))) (wAttr Z1 2 (wName 0))) wA0)))) (wSeq (wExpr (wFrz (wMeth Z1 44 (wName 0) (wAc (wBin .BitAnd (wName 78) (wAttr Z1 2 (wName 0))) wA0)))) wNil))
theorem s_stPushWord {G : Gl nm Z1} : SB G (sScope (cst 36)) (sBody (cst 36)) w_stPushWord := (SB_cons (SX_expr (SE_frz (S0_meth (n := 44) (SE_name (n := 0) rfl) (SA_cons (SE_bin (SE_bin (SE_name (n := 78) rfl) (SE_attr (n := 28) (SE_name (n := 0) rfl) rfl (fun _ => rfl))) (SE_attr (n := 2) (SE_name (n := 0) rfl) rfl (fun _ => rfl))) SA_nil (fun _ => rfl)) rfl (fun _ => ⟨_, rfl⟩))) (fun _ => rfl)) (SB_cons (SX_expr (SE_frz (S0_meth (n := 44) (SE_name (n := 0) rfl) (SA_cons (SE_bin (SE_name (n := 78) rfl) (SE_attr (n := 2) (SE_name (n := 0) rfl) rfl (fun _ => rfl))) SA_nil (fun _ => rfl)) rfl (fun _ => ⟨_, rfl⟩))) (fun _ => rfl)) SB_nil))
noncomputable def w_stPopWord : WX := (wSeq (wAsg 78 (wFrz (wMeth Z1 45 (wName 0) wA0))) (wSeq (wAuN 78 .Add (wBin .LShift (wFrz (wMeth Z1 45 (wName 0) wA0)) (wAttr Z1 28 (wName 0)))) (wSeq (wRet (wName 78)) wNil)))
theorem s_stPopWord {G : Gl nm Z1} : SB G (sScope (cst 37)) (sBody (cst 37)) w_stPopWord := (SB_cons (SX_asg (n := 78) (SE_frz (S0_meth (n := 45) (SE_name (n := 0) rfl) SA_nil rfl (fun _ => ⟨_, rfl⟩))) rfl (.inl (by kernel_rfl)) (fun _ => rfl)) (SB_cons (SX_auN (n := 78) (SE_bin (SE_frz (S0_meth (n := 45) (SE_name (n := 0) rfl) SA_nil rfl (fun _ => ⟨_, rfl⟩))) (SE_attr (n := 28) (SE_name (n := 0) rfl) rfl (fun _ => rfl))) rfl (.inl (by kernel_rfl))) (SB_cons (SX_ret (SE_name (n := 78) rfl)) SB_nil)))
noncomputable def w_FlagsNZ : WX := (wSeq (wAuA Z1 16 .BitAnd (wName 0) (wInv (wBin .BitOr (wAttr Z1 26 (wName 0)) (wAttr Z1 20 (wName 0))))) (wSeq (wIf (wCmpT .Eq (wName 79) (wInt 0)) (wSeq (wAuA Z1 16 .BitOr (wName 0) (wAttr Z1 26 (wName 0))) wNil) (wSeq (wAuA Z1 16 .BitOr (wName 0) (wBin .BitAnd (wName 79) (wAttr Z1 20 (wName 0)))) wNil)) wNil))
theorem s_FlagsNZ {G : Gl nm Z1} : SB G (sScope (cst 38)) (sBody (cst 38)) w_FlagsNZ := (SB_cons (SX_auA (n := 16) (SE_name (n := 0) rfl) (SE_inv (SE_bin (SE_attr (n := 26) (SE_name (n := 0) rfl) rfl (fun _ => rfl)) (SE_attr (n := 20) (SE_name (n := 0) rfl) rfl (fun _ => rfl)))) rfl) (SB_cons (SX_if (ST_cmp (SE_name (n := 79) rfl) SE_int rfl) (SB_cons (SX_auA (n := 16) (SE_name (n := 0) rfl) (SE_attr (n := 26) (SE_name (n := 0) rfl) rfl (fun _ => rfl)) rfl) SB_nil) (SB_cons (SX_auA (n := 16) (SE_name (n := 0) rfl) (SE_bin (SE_name (n := 79) rfl) (SE_attr (n := 20) (SE_name (n := 0) rfl) rfl (fun _ => rfl))) rfl) SB_nil)) SB_nil))
noncomputable def w_opASL : WX := (wSeq (wIf (wCmpT .Is (wName 14) wNone) (wSeq (wAsg 80 (wAttr Z1 13 (wName 0))) wNil) (wSeq (wAsg 75 (wFrz (wVcall (wName 14)))) (wSeq (wAsg 80 (wFrz (wMeth Z1 37 (wName 0) (wAc (wName 75) wA0)))) wNil))) (wSeq (wAuA Z1 16 .BitAnd (wName 0) (wInv (wBin .BitOr (wBin .BitOr (wAttr Z1 27 (wName 0)) (wAttr Z1 20 (wName 0))) (wAttr Z1 26 (wName 0))))) (wSeq (wIf (wTru (wBin .BitAnd (wName 80) (wAttr Z1 20 (wName 0)))) (wSeq (wAuA Z1 16 .BitOr (wName 0) (wAttr Z1 27 (wName 0))) wNil) wNil) (wSeq (wAsg 80 (wBin .BitAnd (wBin .LShift (wName 80) (wInt 1)) (wAttr Z1 2 (wName 0)))) (wSeq (wIf (wTru (wName 80)) (wSeq (wAuA Z1 16 .BitOr (wName 0) (wBin .BitAnd (wName 80) (wAttr Z1 20 (wName 0)))) wNil) (wSeq (wAuA Z1 16 .BitOr (wName 0) (wAttr Z1 26 (wName 0))) wNil)) (wSeq (wIf (wCmpT .Is (wName 14) wNone) (wSeq (wAsA Z1 13 (wName 0) (wName 80)) wNil) (wSeq (wAsS (wAttr Z1 9 (wName 0)) (wName 75) (wName 80)) wNil)) wNil))))))
theorem s_opASL {G : Gl nm Z1} : SB G (sScope (cst 40)) (sBody (cst 40)) w_opASL := (SB_cons (SX_if (ST_cmp (SE_name (n := 14) rfl) SE_none rfl) (SB_cons (SX_asg (n := 80) (SE_attr (n := 13) (SE_name (n := 0) rfl) rfl (fun _ => rfl)) rfl (.inl (by kernel_rfl)) (fun _ => rfl)) SB_nil) (SB_cons (SX_asg (n := 75) (SE_frz (S0_vcall (SE_name (n := 14) rfl) (fun _ => rfl))) rfl (.inl (by kernel_rfl)) (fun _ => rfl)) (SB_cons (SX_asg (n := 80) (SE_frz (S0_meth (n := 37) (SE_name (n := 0) rfl) (SA_cons (SE_name (n := 75) rfl) SA_nil (fun _ => rfl)) rfl (fun _ => ⟨_, rfl⟩))) rfl (.inl (by kernel_rfl)) (fun _ => rfl)) SB_nil))) (SB_cons (SX_auA (n := 16) (SE_name (n := 0) rfl) (SE_inv (SE_bin (SE_bin (SE_attr (n := 27) (SE_name (n := 0) rfl) rfl (fun _ => rfl)) (SE_attr (n := 20) (SE_name (n := 0) rfl) rfl (fun _ => rfl))) (SE_attr (n := 26) (SE_name (n := 0) rfl) rfl (fun _ => rfl)))) rfl) (SB_cons (SX_if (ST_of (SE_bin (SE_name (n := 80) rfl) (SE_attr (n := 20) (SE_name (n := 0) rfl) rfl (fun _ => rfl))) (fun _ => rfl)) (SB_cons (SX_auA (n := 16) (SE_name (n := 0) rfl) (SE_attr (n := 27) (SE_name (n := 0) rfl) rfl (fun _ => rfl)) rfl) SB_nil) SB_nil) (SB_cons (SX_asg (n := 80) (SE_bin (SE_bin (SE_name (n := 80) rfl) SE_int) (SE_attr (n := 2) (SE_name (n := 0) rfl) rfl (fun _ => rfl))) rfl (.inl (by kernel_rfl)) (fun _ => rfl)) (SB_cons (SX_if (ST_of (SE_name (n := 80) rfl) (fun _ => rfl)) (SB_cons (SX_auA (n := 16) (SE_name (n := 0) rfl) (SE_bin (SE_name (n := 80) rfl) (SE_attr (n := 20) (SE_name (n := 0) rfl) rfl (fun _ => rfl))) rfl) SB_nil) (SB_cons (SX_auA (n := 16) (SE_name (n := 0) rfl) (SE_attr (n := 26) (SE_name (n := 0) rfl) rfl (fun _ => rfl)) rfl) SB_nil)) (SB_cons (SX_if (ST_cmp (SE_name (n := 14) rfl) SE_none rfl) (SB_cons (SX_asA (n := 13) (SE_name (n := 80) rfl) (SE_name (n := 0) rfl) rfl (fun _ => rfl)) SB_nil) (SB_cons (SX_asS (SE_name (n := 80) rfl) (SE_attr (n := 9) (SE_name (n := 0) rfl) rfl (fun _ => rfl)) (SE_name (n := 75) rfl) (fun _ => rfl)) SB_nil)) SB_nil))))))
noncomputable def w_opLSR : WX := (wSeq (wIf (wCmpT .Is (wName 14) wNone) (wSeq (wAsg 80 (wAttr Z1 13 (wName 0))) wNil) (wSeq (wAsg 75 (wFrz (wVcall (wName 14)))) (wSeq (wAsg 80 (wFrz (wMeth Z1 37 (wName 0) (wAc (wName 75) wA0)))) wNil))) (wSeq (wAuA Z1 16 .BitAnd (wName 0) (wInv (wBin .BitOr (wBin .BitOr (wAttr Z1 27 (wName 0)) (wAttr Z1 20 (wName 0))) (wAttr Z1 26 (wName 0))))) (wSeq (wAuA Z1 16 .BitOr (wName 0) (wBin .BitAnd (wName 80) (wInt 1))) (wSeq (wAsg 80 (wBin .RShift (wName 80) (wInt 1))) (wSeq (wIf (wTru (wName 80)) (wSeq wPass wNil) (wSeq (wAuA Z1 16 .BitOr (wName 0) (wAttr Z1 26 (wName 0))) wNil)) (wSeq (wIf (wCmpT .Is (wName 14) wNone) (wSeq (wAsA Z1 13 (wName 0) (wName 80)) wNil) (wSeq (wAsS (wAttr Z1 9 (wName 0)) (wName 75) (wName 80)) wNil)) wNil))))))
theorem s_opLSR {G : Gl nm Z1} : SB G (sScope (cst 41)) (sBody (cst 41)) w_opLSR := (SB_cons (SX_if (ST_cmp (SE_name (n := 14) rfl) SE_none rfl) (SB_cons (SX_asg (n := 80) (SE_attr (n := 13) (SE_name (n := 0) rfl) rfl (fun _ => rfl)) rfl (.inl (by kernel_rfl)) (fun _ => rfl)) SB_nil) (SB_cons (SX_asg (n := 75) (SE_frz (S0_vcall (SE_name (n := 14) rfl) (fun _ => rfl))) rfl (.inl (by kernel_rfl)) (fun _ => rfl)) (SB_cons (SX_asg (n := 80) (SE_frz (S0_meth (n := 37) (SE_name (n := 0) rfl) (SA_cons (SE_name (n := 75) rfl) SA_nil (fun _ => rfl)) rfl (fun _ => ⟨_, rfl⟩))) rfl (.inl (by kernel_rfl)) (fun _ => rfl)) SB_nil))) (SB_cons (SX_auA (n := 16) (SE_name (n := 0) rfl) (SE_inv (SE_bin (SE_bin (SE_attr (n := 27) (SE_name (n := 0) rfl) rfl (fun _ => rfl)) (SE_attr (n := 20) (SE_name (n := 0) rfl) rfl (fun _ => rfl))) (SE_attr (n := 26) (SE_name (n := 0) rfl) rfl (fun _ => rfl)))) rfl) (SB_cons (SX_auA (n := 16) (SE_name (n := 0) rfl) (SE_bin (SE_name (n := 80) rfl) SE_int) rfl) (SB_cons (SX_asg (n := 80) (SE_bin (SE_name (n := 80) rfl) SE_int) rfl (.inl (by kernel_rfl)) (fun _ => rfl)) (SB_cons (SX_if (ST_of (SE_name (n := 80) rfl) (fun _ => rfl)) (SB_cons SX_pass SB_nil) (SB_cons (SX_auA (n := 16) (SE_name (n := 0) rfl) (SE_attr (n := 26) (SE_name (n := 0) rfl) rfl (fun _ => rfl)) rfl) SB_nil)) (SB_cons (SX_if (ST_cmp (SE_name (n := 14) rfl) SE_none rfl) (SB_cons (SX_asA (n := 13) (SE_name (n := 80) rfl) (SE_name (n := 0) rfl) rfl (fun _ => rfl)) SB_nil) (SB_cons (SX_asS (SE_name (n := 80) rfl) (SE_attr (n := 9) (SE_name (n := 0) rfl) rfl (fun _ => rfl)) (SE_name (n := 75) rfl) (fun _ => rfl)) SB_nil)) SB_nil))))))
noncomputable def w_opBCL : WX := (wSeq (wIf (wTru (wBin .BitAnd (wAttr Z1 16 (wName 0)) (wName 14))) (wSeq (wAuA Z1 11 .Add (wName 0) (wInt 1)) wNil) (wSeq (wExpr (wFrz (wMeth Z1 43 (wName 0) wA0))) wNil)) wNil)
theorem s_opBCL {G : Gl nm Z1} : SB G (sScope (cst 42)) (sBody (cst 42)) w_opBCL := (SB_cons (SX_if (ST_of (SE_bin (SE_attr (n := 16) (SE_name (n := 0) rfl) rfl (fun _ => rfl)) (SE_name (n := 14) rfl)) (fun _ => rfl)) (SB_cons (SX_auA (n := 11) (SE_name (n := 0) rfl) SE_int rfl) SB_nil) (SB_cons (SX_expr (SE_frz (S0_meth (n := 43) (SE_name (n := 0) rfl) SA_nil rfl (fun _ => ⟨_, rfl⟩))) (fun _ => rfl)) SB_nil)) SB_nil)
noncomputable def w_opBST : WX := (wSeq (wIf (wTru (wBin .BitAnd (wAttr Z1 16 (wName 0)) (wName 14))) (wSeq (wExpr (wFrz (wMeth Z1 43 (wName 0) wA0))) wNil) (wSeq (wAuA Z1 11 .Add (wName 0) (wInt 1)) wNil)) wNil)
theorem s_opBST {G : Gl nm Z1} : SB G (sScope (cst 43)) (sBody (cst 43)) w_opBST := (SB_cons (SX_if (ST_of (SE_bin (SE_attr (n := 16) (SE_name (n := 0) rfl) rfl (fun _ => rfl)) (SE_name (n := 14) rfl)) (fun _ => rfl)) (SB_cons (SX_expr (SE_frz (S0_meth (n := 43) (SE_name (n := 0) rfl) SA_nil rfl (fun _ => ⟨_, rfl⟩))) (fun _ => rfl)) SB_nil) (SB_cons (SX_auA (n := 11) (SE_name (n := 0) rfl) SE_int rfl) SB_nil)) SB_nil)
noncomputable def w_opCLR : WX := (wSeq (wAuA Z1 16 .BitAnd (wName 0) (wInv (wName 14))) wNil)
theorem s_opCLR {G : Gl nm Z1} : SB G (sScope (cst 44)) (sBody (cst 44)) w_opCLR := (SB_cons (SX_auA (n := 16) (SE_name (n := 0) rfl) (SE_inv (SE_name (n := 14) rfl)) rfl) SB_nil)
noncomputable def w_opSET : WX := (wSeq (wAuA Z1 16 .BitOr (wName 0) (wName 14)) wNil)
theorem s_opSET {G : Gl nm Z1} : SB G (sScope (cst 45)) (sBody (cst 45)) w_opSET := (SB_cons (SX_auA (n := 16) (SE_name (n := 0) rfl) (SE_name (n := 14) rfl) rfl) SB_nil)
noncomputable def w_opROL : WX := (wSeq (wIf (wCmpT .Is (wName 14) wNone) (wSeq (wAsg 80 (wAttr Z1 13 (wName 0))) wNil) (wSeq (wAsg 75 (wFrz (wVcall (wName 14)))) (wSeq (wAsg 80 (wFrz (wMeth Z1 37 (wName 0) (wAc (wName 75) wA0)))) wNil))) (wSeq (wIf (wTru (wBin .BitAnd (wAttr Z1 16 (wName 0)) (wAttr Z1 27 (wName 0)))) (wSeq (wIf (wTru (wBin .BitAnd (wName 80) (wAttr Z1 20 (wName 0)))) (wSeq wPass wNil) (wSeq (wAuA Z1 16 .BitAnd (wName 0) (wInv (wAttr Z1 27 (wName 0)))) wNil)) (wSeq (wAsg 80 (wBin .BitOr (wBin .LShift (wName 80) (wInt 1)) (wInt 1))) wNil)) (wSeq (wIf (wTru (wBin .BitAnd (wName 80) (wAttr Z1 20 (wName 0)))) (wSeq (wAuA Z1 16 .BitOr (wName 0) (wAttr Z1 27 (wName 0))) wNil) wNil) (wSeq (wAsg 80 (wBin .LShift (wName 80) (wInt 1))) wNil))) (wSeq (wAuN 80 .BitAnd (wAttr Z1 2 (wName 0))) (wSeq (wExpr (wFrz (wMeth Z1 48 (wName 0) (wAc (wName 80) wA0)))) (wSeq (wIf (wCmpT .Is (wName 14) wNone) (wSeq (wAsA Z1 13 (wName 0) (wName 80)) wNil) (wSeq (wAsS (wAttr Z1 9 (wName 0)) (wName 75) (wName 80)) wNil)) wNil)))))
theorem s_opROL {G : Gl nm Z1} : SB G (sScope (cst 48)) (sBody (cst 48)) w_opROL := (SB_cons (SX_if (ST_cmp (SE_name (n := 14) rfl) SE_none rfl) (SB_cons (SX_asg (n := 80) (SE_attr (n := 13) (SE_name (n := 0) rfl) rfl (fun _ => rfl)) rfl (.inl (by kernel_rfl)) (fun _ => rfl)) SB_nil) (SB_cons (SX_asg (n := 75) (SE_frz (S0_vcall (SE_name (n := 14) rfl) (fun _ => rfl))) rfl (.inl (by kernel_rfl)) (fun _ => rfl)) (SB_cons (SX_asg (n := 80) (SE_frz (S0_meth (n := 37) (SE_name (n := 0) rfl) (SA_cons (SE_name (n := 75) rfl) SA_nil (fun _ => rfl)) rfl (fun _ => ⟨_, rfl⟩))) rfl (.inl (by kernel_rfl)) (fun _ => rfl)) SB_nil))) (SB_cons (SX_if (ST_of (SE_bin (SE_attr (n := 16) (SE_name (n := 0) rfl) rfl (fun _ => rfl)) (SE_attr (n := 27) (SE_name (n := 0) rfl) rfl (fun _ => rfl))) (fun _ => rfl)) (SB_cons (SX_if (ST_of (SE_bin (SE_name (n := 80) rfl) (SE_attr (n := 20) (SE_name (n := 0) rfl) rfl (fun _ => rfl))) (fun _ => rfl)) (SB_cons SX_pass SB_nil) (SB_cons (SX_auA (n := 16) (SE_name (n := 0) rfl) (SE_inv (SE_attr (n := 27) (SE_name (n := 0) rfl) rfl (fun _ => rfl))) rfl) SB_nil)) (SB_cons (SX_asg (n := 80) (SE_bin (SE_bin (SE_name (n := 80) rfl) SE_int) SE_int) rfl (.inl (by kernel_rfl)) (fun _ => rfl)) SB_nil)) (SB_cons (SX_if (ST_of (SE_bin (SE_name (n := 80) rfl) (SE_attr (n := 20) (SE_name (n := 0) rfl) rfl (fun _ => rfl))) (fun _ => rfl)) (SB_cons (SX_auA (n := 16) (SE_name (n := 0) rfl) (SE_attr (n := 27) (SE_name (n := 0) rfl) rfl (fun _ => rfl)) rfl) SB_nil) SB_nil) (SB_cons (SX_asg (n := 80) (SE_bin (SE_name (n := 80) rfl) SE_int) rfl (.inl (by kernel_rfl)) (fun _ => rfl)) SB_nil))) (SB_cons (SX_auN (n := 80) (SE_attr (n := 2) (SE_name (n := 0) rfl) rfl (fun _ => rfl)) rfl (.inl (by kernel_rfl))) (SB_cons (SX_expr (SE_frz (S0_meth (n := 48) (SE_name (n := 0) rfl) (SA_cons (SE_name (n := 80) rfl) SA_nil (fun _ => rfl)) rfl (fun _ => ⟨_, rfl⟩))) (fun _ => rfl)) (SB_cons (SX_if (ST_cmp (SE_name (n := 14) rfl) SE_none rfl) (SB_cons (SX_asA (n := 13) (SE_name (n := 80) rfl) (SE_name (n := 0) rfl) rfl (fun _ => rfl)) SB_nil) (SB_cons (SX_asS (SE_name (n := 80) rfl) (SE_attr (n := 9) (SE_name (n := 0) rfl) rfl (fun _ => rfl)) (SE_name (n := 75) rfl) (fun _ => rfl)) SB_nil)) SB_nil)))))
noncomputable def w_opADC : WX := (wSeq (wAsg 115 (wFrz (wMeth Z1 37 (wName 0) (wAc (wFrz (wVcall (wName 14))) wA0)))) (wSeq (wIf (wTru (wBin .BitAnd (wAttr Z1 16 (wName 0)) (wAttr Z1 24 (wName 0)))) wDead (wSeq (wIf (wTru (wBin .BitAnd (wAttr Z1 16 (wName 0)) (wAttr Z1 27 (wName 0)))) (wSeq (wAsg 124 (wInt 1)) wNil) (wSeq (wAsg 124 (wInt 0)) wNil)) (wSeq (wAsg 123 (wBin .Add (wBin .Add (wName 115) (wAttr Z1 13 (wName 0))) (wName 124))) (wSeq (wAuA Z1 16 .BitAnd (wName 0) (wInv (wBin .BitOr (wBin .BitOr (wBin .BitOr (wAttr Z1 27 (wName 0)) (wAttr Z1 21 (wName 0))) (wAttr Z1 20 (wName 0))) (wAttr Z1 26 (wName 0))))) (wSeq (wIf (wTru (wBin .BitAnd (wBin .BitAnd (wInv (wBin .BitXor (wAttr Z1 13 (wName 0)) (wName 115))) (wBin .BitXor (wAttr Z1 13 (wName 0)) (wName 123))) (wAttr Z1 20 (wName 0)))) (wSeq (wAuA Z1 16 .BitOr (wName 0) (wAttr Z1 21 (wName 0))) wNil) wNil) (wSeq (wAsg 115 (wName 123)) (wSeq (wIf (wCmpT .Gt (wName 115) (wAttr Z1 2 (wName 0))) (wSeq (wAuA Z1 16 .BitOr (wName 0) (wAttr Z1 27 (wName 0))) (wSeq (wAuN 115 .BitAnd (wAttr Z1 2 (wName 0))) wNil)) wNil) (wSeq (wIf (wCmpT .Eq (wName 115) (wInt 0)) (wSeq (wAuA Z1 16 .BitOr (wName 0) (wAttr Z1 26 (wName 0))) wNil) (wSeq (wAuA Z1 16 .BitOr (wName 0) (wBin .BitAnd (wName 115) (wAttr Z1 20 (wName 0)))) wNil)) (wSeq (wAsA Z1 13 (wName 0) (wName 115)) wNil))))))))) wNil))
theorem s_opADC {G : Gl nm Z1} : SB G (sScope (cst 50)) (sBody (cst 50)) w_opADC := (SB_cons (SX_asg (n := 115) (SE_frz (S0_meth (n := 37) (SE_name (n := 0) rfl) (SA_cons (SE_frz (S0_vcall (SE_name (n := 14) rfl) (fun _ => rfl))) SA_nil (fun _ => rfl)) rfl (fun _ => ⟨_, rfl⟩))) rfl (.inl (by kernel_rfl)) (fun _ => rfl)) (SB_cons (SX_if (ST_of (SE_bin (SE_attr (n := 16) (SE_name (n := 0) rfl) rfl (fun _ => rfl)) (SE_attr (n := 24) (SE_name (n := 0) rfl) rfl (fun _ => rfl))) (fun _ => rfl)) SB_dead (SB_cons (SX_if (ST_of (SE_bin (SE_attr (n := 16) (SE_name (n := 0) rfl) rfl (fun _ => rfl)) (SE_attr (n := 27) (SE_name (n := 0) rfl) rfl (fun _ => rfl))) (fun _ => rfl)) (SB_cons (SX_asg (n := 124) SE_int rfl (.inl (by kernel_rfl)) (fun _ => rfl)) SB_nil) (SB_cons (SX_asg (n := 124) SE_int rfl (.inl (by kernel_rfl)) (fun _ => rfl)) SB_nil)) (SB_cons (SX_asg (n := 123) (SE_bin (SE_bin (SE_name (n := 115) rfl) (SE_attr (n := 13) (SE_name (n := 0) rfl) rfl (fun _ => rfl))) (SE_name (n := 124) rfl)) rfl (.inl (by kernel_rfl)) (fun _ => rfl)) (SB_cons (SX_auA (n := 16) (SE_name (n := 0) rfl) (SE_inv (SE_bin (SE_bin (SE_bin (SE_attr (n := 27) (SE_name (n := 0) rfl) rfl (fun _ => rfl)) (SE_attr (n := 21) (SE_name (n := 0) rfl) rfl (fun _ => rfl))) (SE_attr (n := 20) (SE_name (n := 0) rfl) rfl (fun _ => rfl))) (SE_attr (n := 26) (SE_name (n := 0) rfl) rfl (fun _ => rfl)))) rfl) (SB_cons (SX_if (ST_of (SE_bin (SE_bin (SE_inv (SE_bin (SE_attr (n := 13) (SE_name (n := 0) rfl) rfl (fun _ => rfl)) (SE_name (n := 115) rfl))) (SE_bin (SE_attr (n := 13) (SE_name (n := 0) rfl) rfl (fun _ => rfl)) (SE_name (n := 123) rfl))) (SE_attr (n := 20) (SE_name (n := 0) rfl) rfl (fun _ => rfl))) (fun _ => rfl)) (SB_cons (SX_auA (n := 16) (SE_name (n := 0) rfl) (SE_attr (n := 21) (SE_name (n := 0) rfl) rfl (fun _ => rfl)) rfl) SB_nil) SB_nil) (SB_cons (SX_asg (n := 115) (SE_name (n := 123) rfl) rfl (.inl (by kernel_rfl)) (fun _ => rfl)) (SB_cons (SX_if (ST_cmp (SE_name (n := 115) rfl) (SE_attr (n := 2) (SE_name (n := 0) rfl) rfl (fun _ => rfl)) rfl) (SB_cons (SX_auA (n := 16) (SE_name (n := 0) rfl) (SE_attr (n := 27) (SE_name (n := 0) rfl) rfl (fun _ => rfl)) rfl) (SB_cons (SX_auN (n := 115) (SE_attr (n := 2) (SE_name (n := 0) rfl) rfl (fun _ => rfl)) rfl (.inl (by kernel_rfl))) SB_nil)) SB_nil) (SB_cons (SX_if (ST_cmp (SE_name (n := 115) rfl) SE_int rfl) (SB_cons (SX_auA (n := 16) (SE_name (n := 0) rfl) (SE_attr (n := 26) (SE_name (n := 0) rfl) rfl (fun _ => rfl)) rfl) SB_nil) (SB_cons (SX_auA (n := 16) (SE_name (n := 0) rfl) (SE_bin (SE_name (n := 115) rfl) (SE_attr (n := 20) (SE_name (n := 0) rfl) rfl (fun _ => rfl))) rfl) SB_nil)) (SB_cons (SX_asA (n := 13) (SE_name (n := 115) rfl) (SE_name (n := 0) rfl) rfl (fun _ => rfl)) SB_nil))))))))) SB_nil))
noncomputable def w_opROR : WX := (wSeq (wIf (wCmpT .Is (wName 14) wNone) (wSeq (wAsg 80 (wAttr Z1 13 (wName 0))) wNil) (wSeq (wAsg 75 (wFrz (wVcall (wName 14)))) (wSeq (wAsg 80 (wFrz (wMeth Z1 37 (wName 0) (wAc (wName 75) wA0)))) wNil))) (wSeq (wIf (wTru (wBin .BitAnd (wAttr Z1 16 (wName 0)) (wAttr Z1 27 (wName 0)))) (wSeq (wIf (wTru (wBin .BitAnd (wName 80) (wInt 1))) (wSeq wPass wNil) (wSeq (wAuA Z1 16 .BitAnd (wName 0) (wInv (wAttr Z1 27 (wName 0)))) wNil)) (wSeq (wAsg 80 (wBin .BitOr (wBin .RShift (wName 80) (wInt 1)) (wAttr Z1 20 (wName 0)))) wNil)) (wSeq (wIf (wTru (wBin .BitAnd (wName 80) (wInt 1))) (wSeq (wAuA Z1 16 .BitOr (wName 0) (wAttr Z1 27 (wName 0))) wNil) wNil) (wSeq (wAsg 80 (wBin .RShift (wName 80) (wInt 1))) wNil))) (wSeq (wExpr (wFrz (wMeth Z1 48 (wName 0) (wAc (wName 80) wA0)))) (wSeq (wIf (wCmpT .Is (wName 14) wNone) (wSeq (wAsA Z1 13 (wName 0) (wName 80)) wNil) (wSeq (wAsS (wAttr Z1 9 (wName 0)) (wName 75) (wName 80)) wNil)) wNil))))
theorem s_opROR {G : Gl nm Z1} : SB G (sScope (cst 51)) (sBody (cst 51)) w_opROR := (SB_cons (SX_if (ST_cmp (SE_name (n := 14) rfl) SE_none rfl) (SB_cons (SX_asg (n := 80) (SE_attr (n := 13) (SE_name (n := 0) rfl) rfl (fun _ => rfl)) rfl (.inl (by kernel_rfl)) (fun _ => rfl)) SB_nil) (SB_cons (SX_asg (n := 75) (SE_frz (S0_vcall (SE_name (n := 14) rfl) (fun _ => rfl))) rfl (.inl (by kernel_rfl)) (fun _ => rfl)) (SB_cons (SX_asg (n := 80) (SE_frz (S0_meth (n := 37) (SE_name (n := 0) rfl) (SA_cons (SE_name (n := 75) rfl) SA_nil (fun _ => rfl)) rfl (fun _ => ⟨_, rfl⟩))) rfl (.inl (by kernel_rfl)) (fun _ => rfl)) SB_nil))) (SB_cons (SX_if (ST_of (SE_bin (SE_attr (n := 16) (SE_name (n := 0) rfl) rfl (fun _ => rfl)) (SE_attr (n := 27) (SE_name (n := 0) rfl) rfl (fun _ => rfl))) (fun _ => rfl)) (SB_cons (SX_if (ST_of (SE_bin (SE_name (n := 80) rfl) SE_int) (fun _ => rfl)) (SB_cons SX_pass SB_nil) (SB_cons (SX_auA (n := 16) (SE_name (n := 0) rfl) (SE_inv (SE_attr (n := 27) (SE_name (n := 0) rfl) rfl (fun _ => rfl))) rfl) SB_nil)) (SB_cons (SX_asg (n := 80) (SE_bin (SE_bin (SE_name (n := 80) rfl) SE_int) (SE_attr (n := 20) (SE_name (n := 0) rfl) rfl (fun _ => rfl))) rfl (.inl (by kernel_rfl)) (fun _ => rfl)) SB_nil)) (SB_cons (SX_if (ST_of (SE_bin (SE_name (n := 80) rfl) SE_int) (fun _ => rfl)) (SB_cons (SX_auA (n := 16) (SE_name (n := 0) rfl) (SE_attr (n := 27) (SE_name (n := 0) rfl) rfl (fun _ => rfl)) rfl) SB_nil) SB_nil) (SB_cons (SX_asg (n := 80) (SE_bin (SE_name (n := 80) rfl) SE_int) rfl (.inl (by kernel_rfl)) (fun _ => rfl)) SB_nil))) (SB_cons (SX_expr (SE_frz (S0_meth (n := 48) (SE_name (n := 0) rfl) (SA_cons (SE_name (n := 80) rfl) SA_nil (fun _ => rfl)) rfl (fun _ => ⟨_, rfl⟩))) (fun _ => rfl)) (SB_cons (SX_if (ST_cmp (SE_name (n := 14) rfl) SE_none rfl) (SB_cons (SX_asA (n := 13) (SE_name (n := 80) rfl) (SE_name (n := 0) rfl) rfl (fun _ => rfl)) SB_nil) (SB_cons (SX_asS (SE_name (n := 80) rfl) (SE_attr (n := 9) (SE_name (n := 0) rfl) rfl (fun _ => rfl)) (SE_name (n := 75) rfl) (fun _ => rfl)) SB_nil)) SB_nil))))
noncomputable def w_opSTA : WX := (wSeq (wAsS (wAttr Z1 9 (wName 0)) (wFrz (wVcall (wName 14))) (wAttr Z1 13 (wName 0))) wNil)
theorem s_opSTA {G : Gl nm Z1} : SB G (sScope (cst 52)) (sBody (cst 52)) w_opSTA := (SB_cons (SX_asS (SE_attr (n := 13) (SE_name (n := 0) rfl) rfl (fun _ => rfl)) (SE_attr (n := 9) (SE_name (n := 0) rfl) rfl (fun _ => rfl)) (SE_frz (S0_vcall (SE_name (n := 14) rfl) (fun _ => rfl))) (fun _ => rfl)) SB_nil)
noncomputable def w_opCMPR : WX := (wSeq (wAsg 80 (wFrz (wMeth Z1 37 (wName 0) (wAc (wFrz (wVcall (wName 125))) wA0)))) (wSeq (wAuA Z1 16 .BitAnd (wName 0) (wInv (wBin .BitOr (wBin .BitOr (wAttr Z1 27 (wName 0)) (wAttr Z1 26 (wName 0))) (wAttr Z1 20 (wName 0))))) (wSeq (wIf (wCmpT .Eq (wName 126) (wName 80)) (wSeq (wAuA Z1 16 .BitOr (wName 0) (wBin .BitOr (wAttr Z1 27 (wName 0)) (wAttr Z1 26 (wName 0)))) wNil) (wSeq (wIf (wCmpT .Gt (wName 126) (wName 80)) (wSeq (wAuA Z1 16 .BitOr (wName 0) (wAttr Z1 27 (wName 0))) wNil) wNil) wNil)) (wSeq (wAuA Z1 16 .BitOr (wName 0) (wBin .BitAnd (wBin .Sub (wName 126) (wName 80)) (wAttr Z1 20 (wName 0)))) wNil))))
theorem s_opCMPR {G : Gl nm Z1} : SB G (sScope (cst 55)) (sBody (cst 55)) w_opCMPR := (SB_cons (SX_asg (n := 80) (SE_frz (S0_meth (n := 37) (SE_name (n := 0) rfl) (SA_cons (SE_frz (S0_vcall (SE_name (n := 125) rfl) (fun _ => rfl))) SA_nil (fun _ => rfl)) rfl (fun _ => ⟨_, rfl⟩))) rfl (.inl (by kernel_rfl)) (fun _ => rfl)) (SB_cons (SX_auA (n := 16) (SE_name (n := 0) rfl) (SE_inv (SE_bin (SE_bin (SE_attr (n := 27) (SE_name (n := 0) rfl) rfl (fun _ => rfl)) (SE_attr (n := 26) (SE_name (n := 0) rfl) rfl (fun _ => rfl))) (SE_attr (n := 20) (SE_name (n := 0) rfl) rfl (fun _ => rfl)))) rfl) (SB_cons (SX_if (ST_cmp (SE_name (n := 126) rfl) (SE_name (n := 80) rfl) rfl) (SB_cons (SX_auA (n := 16) (SE_name (n := 0) rfl) (SE_bin (SE_attr (n := 27) (SE_name (n := 0) rfl) rfl (fun _ => rfl)) (SE_attr (n := 26) (SE_name (n := 0) rfl) rfl (fun _ => rfl))) rfl) SB_nil) (SB_cons (SX_if (ST_cmp (SE_name (n := 126) rfl) (SE_name (n := 80) rfl) rfl) (SB_cons (SX_auA (n := 16) (SE_name (n := 0) rfl) (SE_attr (n := 27) (SE_name (n := 0) rfl) rfl (fun _ => rfl)) rfl) SB_nil) SB_nil) SB_nil)) (SB_cons (SX_auA (n := 16) (SE_name (n := 0) rfl) (SE_bin (SE_bin (SE_name (n := 126) rfl) (SE_name (n := 80) rfl)) (SE_attr (n := 20) (SE_name (n := 0) rfl) rfl (fun _ => rfl))) rfl) SB_nil))))
noncomputable def w_opSBC : WX := (wSeq (wAsg 115 (wFrz (wMeth Z1 37 (wName 0) (wAc (wFrz (wVcall (wName 14))) wA0)))) (wSeq (wIf (wTru (wBin .BitAnd (wAttr Z1 16 (wName 0)) (wAttr Z1 24 (wName 0)))) wDead (wSeq (wAsg 123 (wBin .Add (wBin .Add (wAttr Z1 13 (wName 0)) (wBin .BitAnd (wInv (wName 115)) (wAttr Z1 2 (wName 0)))) (wBin .BitAnd (wAttr Z1 16 (wName 0)) (wAttr Z1 27 (wName 0))))) (wSeq (wAuA Z1 16 .BitAnd (wName 0) (wInv (wBin .BitOr (wBin .BitOr (wBin .BitOr (wAttr Z1 27 (wName 0)) (wAttr Z1 26 (wName 0))) (wAttr Z1 21 (wName 0))) (wAttr Z1 20 (wName 0))))) (wSeq (wIf (wTru (wBin .BitAnd (wBin .BitAnd (wBin .BitXor (wAttr Z1 13 (wName 0)) (wName 115)) (wBin .BitXor (wAttr Z1 13 (wName 0)) (wName 123))) (wAttr Z1 20 (wName 0)))) (wSeq (wAuA Z1 16 .BitOr (wName 0) (wAttr Z1 21 (wName 0))) wNil) wNil) (wSeq (wAsg 115 (wBin .BitAnd (wName 123) (wAttr Z1 2 (wName 0)))) (wSeq (wIf (wCmpT .Eq (wName 115) (wInt 0)) (wSeq (wAuA Z1 16 .BitOr (wName 0) (wAttr Z1 26 (wName 0))) wNil) wNil) (wSeq (wIf (wCmpT .Gt (wName 123) (wAttr Z1 2 (wName 0))) (wSeq (wAuA Z1 16 .BitOr (wName 0) (wAttr Z1 27 (wName 0))) wNil) wNil) (wSeq (wAuA Z1 16 .BitOr (wName 0) (wBin .BitAnd (wName 115) (wAttr Z1 20 (wName 0)))) (wSeq (wAsA Z1 13 (wName 0) (wName 115)) wNil))))))))) wNil))
theorem s_opSBC {G : Gl nm Z1} : SB G (sScope (cst 56)) (sBody (cst 56)) w_opSBC := (SB_cons (SX_asg (n := 115) (SE_frz (S0_meth (n := 37) (SE_name (n := 0) rfl) (SA_cons (SE_frz (S0_vcall (SE_name (n := 14) rfl) (fun _ => rfl))) SA_nil (fun _ => rfl)) rfl (fun _ => ⟨_, rfl⟩))) rfl (.inl (by kernel_rfl)) (fun _ => rfl)) (SB_cons (SX_if (ST_of (SE_bin (SE_attr (n := 16) (SE_name (n := 0) rfl) rfl (fun _ => rfl)) (SE_attr (n := 24) (SE_name (n := 0) rfl) rfl (fun _ => rfl))) (fun _ => rfl)) SB_dead (SB_cons (SX_asg (n := 123) (SE_bin (SE_bin (SE_attr (n := 13) (SE_name (n := 0) rfl) rfl (fun _ => rfl)) (SE_bin (SE_inv (SE_name (n := 115) rfl)) (SE_attr (n := 2) (SE_name (n := 0) rfl) rfl (fun _ => rfl)))) (SE_bin (SE_attr (n := 16) (SE_name (n := 0) rfl) rfl (fun _ => rfl)) (SE_attr (n := 27) (SE_name (n := 0) rfl) rfl (fun _ => rfl)))) rfl (.inl (by kernel_rfl)) (fun _ => rfl)) (SB_cons (SX_auA (n := 16) (SE_name (n := 0) rfl) (SE_inv (SE_bin (SE_bin (SE_bin (SE_attr (n := 27) (SE_name (n := 0) rfl) rfl (fun _ => rfl)) (SE_attr (n := 26) (SE_name (n := 0) rfl) rfl (fun _ => rfl))) (SE_attr (n := 21) (SE_name (n := 0) rfl) rfl (fun _ => rfl))) (SE_attr (n := 20) (SE_name (n := 0) rfl) rfl (fun _ => rfl)))) rfl) (SB_cons (SX_if (ST_of (SE_bin (SE_bin (SE_bin (SE_attr (n := 13) (SE_name (n := 0) rfl) rfl (fun _ => rfl)) (SE_name (n := 115) rfl)) (SE_bin (SE_attr (n := 13) (SE_name (n := 0) rfl) rfl (fun _ => rfl)) (SE_name (n := 123) rfl))) (SE_attr (n := 20) (SE_name (n := 0) rfl) rfl (fun _ => rfl))) (fun _ => rfl)) (SB_cons (SX_auA (n := 16) (SE_name (n := 0) rfl) (SE_attr (n := 21) (SE_name (n := 0) rfl) rfl (fun _ => rfl)) rfl) SB_nil) SB_nil) (SB_cons (SX_asg (n := 115) (SE_bin (SE_name (n := 123) rfl) (SE_attr (n := 2) (SE_name (n := 0) rfl) rfl (fun _ => rfl))) rfl (.inl (by kernel_rfl)) (fun _ => rfl)) (SB_cons (SX_if (ST_cmp (SE_name (n := 115) rfl) SE_int rfl) (SB_cons (SX_auA (n := 16) (SE_name (n := 0) rfl) (SE_attr (n := 26) (SE_name (n := 0) rfl) rfl (fun _ => rfl)) rfl) SB_nil) SB_nil) (SB_cons (SX_if (ST_cmp (SE_name (n := 123) rfl) (SE_attr (n := 2) (SE_name (n := 0) rfl) rfl (fun _ => rfl)) rfl) (SB_cons (SX_auA (n := 16) (SE_name (n := 0) rfl) (SE_attr (n := 27) (SE_name (n := 0) rfl) rfl (fun _ => rfl)) rfl) SB_nil) SB_nil) (SB_cons (SX_auA (n := 16) (SE_name (n := 0) rfl) (SE_bin (SE_name (n := 115) rfl) (SE_attr (n := 20) (SE_name (n := 0) rfl) rfl (fun _ => rfl))) rfl) (SB_cons (SX_asA (n := 13) (SE_name (n := 115) rfl) (SE_name (n := 0) rfl) rfl (fun _ => rfl)) SB_nil))))))))) SB_nil))
noncomputable def w_opINCR : WX := (wSeq (wIf (wCmpT .Is (wName 14) wNone) (wSeq (wAsg 80 (wAttr Z1 13 (wName 0))) wNil) (wSeq (wAsg 75 (wFrz (wVcall (wName 14)))) (wSeq (wAsg 80 (wFrz (wMeth Z1 37 (wName 0) (wAc (wName 75) wA0)))) wNil))) (wSeq (wAuA Z1 16 .BitAnd (wName 0) (wInv (wBin .BitOr (wAttr Z1 26 (wName 0)) (wAttr Z1 20 (wName 0))))) (wSeq (wAsg 80 (wBin .BitAnd (wBin .Add (wName 80) (wInt 1)) (wAttr Z1 2 (wName 0)))) (wSeq (wIf (wTru (wName 80)) (wSeq (wAuA Z1 16 .BitOr (wName 0) (wBin .BitAnd (wName 80) (wAttr Z1 20 (wName 0)))) wNil) (wSeq (wAuA Z1 16 .BitOr (wName 0) (wAttr Z1 26 (wName 0))) wNil)) (wSeq (wIf (wCmpT .Is (wName 14) wNone) (wSeq (wAsA Z1 13 (wName 0) (wName 80)) wNil) (wSeq (wAsS (wAttr Z1 9 (wName 0)) (wName 75) (wName 80)) wNil)) wNil)))))
theorem s_opINCR {G : Gl nm Z1} : SB G (sScope (cst 58)) (sBody (cst 58)) w_opINCR := (SB_cons (SX_if (ST_cmp (SE_name (n := 14) rfl) SE_none rfl) (SB_cons (SX_asg (n := 80) (SE_attr (n := 13) (SE_name (n := 0) rfl) rfl (fun _ => rfl)) rfl (.inl (by kernel_rfl)) (fun _ => rfl)) SB_nil) (SB_cons (SX_asg (n := 75) (SE_frz (S0_vcall (SE_name (n := 14) rfl) (fun _ => rfl))) rfl (.inl (by kernel_rfl)) (fun _ => rfl)) (SB_cons (SX_asg (n := 80) (SE_frz (S0_meth (n := 37) (SE_name (n := 0) rfl) (SA_cons (SE_name (n := 75) rfl) SA_nil (fun _ => rfl)) rfl (fun _ => ⟨_, rfl⟩))) rfl (.inl (by kernel_rfl)) (fun _ => rfl)) SB_nil))) (SB_cons (SX_auA (n := 16) (SE_name (n := 0) rfl) (SE_inv (SE_bin (SE_attr (n := 26) (SE_name (n := 0) rfl) rfl (fun _ => rfl)) (SE_attr (n := 20) (SE_name (n := 0) rfl) rfl (fun _ => rfl)))) rfl) (SB_cons (SX_asg (n := 80) (SE_bin (SE_bin (SE_name (n := 80) rfl) SE_int) (SE_attr (n := 2) (SE_name (n := 0) rfl) rfl (fun _ => rfl))) rfl (.inl (by kernel_rfl)) (fun _ => rfl)) (SB_cons (SX_if (ST_of (SE_name (n := 80) rfl) (fun _ => rfl)) (SB_cons (SX_auA (n := 16) (SE_name (n := 0) rfl) (SE_bin (SE_name (n := 80) rfl) (SE_attr (n := 20) (SE_name (n := 0) rfl) rfl (fun _ => rfl))) rfl) SB_nil) (SB_cons (SX_auA (n := 16) (SE_name (n := 0) rfl) (SE_attr (n := 26) (SE_name (n := 0) rfl) rfl (fun _ => rfl)) rfl) SB_nil)) (SB_cons (SX_if (ST_cmp (SE_name (n := 14) rfl) SE_none rfl) (SB_cons (SX_asA (n := 13) (SE_name (n := 80) rfl) (SE_name (n := 0) rfl) rfl (fun _ => rfl)) SB_nil) (SB_cons (SX_asS (SE_name (n := 80) rfl) (SE_attr (n := 9) (SE_name (n := 0) rfl) rfl (fun _ => rfl)) (SE_name (n := 75) rfl) (fun _ => rfl)) SB_nil)) SB_nil)))))
noncomputable def w_opLDA : WX := (wSeq (wAsA Z1 13 (wName 0) (wFrz (wMeth Z1 37 (wName 0) (wAc (wFrz (wVcall (wName 14))) wA0)))) (wSeq (wExpr (wFrz (wMeth Z1 48 (wName 0) (wAc (wAttr Z1 13 (wName 0)) wA0)))) wNil))
theorem s_opLDA {G : Gl nm Z1} : SB G (sScope (cst 59)) (sBody (cst 59)) w_opLDA := (SB_cons (SX_asA (n := 13) (SE_frz (S0_meth (n := 37) (SE_name (n := 0) rfl) (SA_cons (SE_frz (S0_vcall (SE_name (n := 14) rfl) (fun _ => rfl))) SA_nil (fun _ => rfl)) rfl (fun _ => ⟨_, rfl⟩))) (SE_name (n := 0) rfl) rfl (fun _ => rfl)) (SB_cons (SX_expr (SE_frz (S0_meth (n := 48) (SE_name (n := 0) rfl) (SA_cons (SE_attr (n := 13) (SE_name (n := 0) rfl) rfl (fun _ => rfl)) SA_nil (fun _ => rfl)) rfl (fun _ => ⟨_, rfl⟩))) (fun _ => rfl)) SB_nil))
noncomputable def w_opLDY : WX := (wSeq (wAsA Z1 15 (wName 0) (wFrz (wMeth Z1 37 (wName 0) (wAc (wFrz (wVcall (wName 14))) wA0)))) (wSeq (wExpr (wFrz (wMeth Z1 48 (wName 0) (wAc (wAttr Z1 15 (wName 0)) wA0)))) wNil))
theorem s_opLDY {G : Gl nm Z1} : SB G (sScope (cst 60)) (sBody (cst 60)) w_opLDY := (SB_cons (SX_asA (n := 15) (SE_frz (S0_meth (n := 37) (SE_name (n := 0) rfl) (SA_cons (SE_frz (S0_vcall (SE_name (n := 14) rfl) (fun _ => rfl))) SA_nil (fun _ => rfl)) rfl (fun _ => ⟨_, rfl⟩))) (SE_name (n := 0) rfl) rfl (fun _ => rfl)) (SB_cons (SX_expr (SE_frz (S0_meth (n := 48) (SE_name (n := 0) rfl) (SA_cons (SE_attr (n := 15) (SE_name (n := 0) rfl) rfl (fun _ => rfl)) SA_nil (fun _ => rfl)) rfl (fun _ => ⟨_, rfl⟩))) (fun _ => rfl)) SB_nil))
noncomputable def w_opLDX : WX := (wSeq (wAsA Z1 14 (wName 0) (wFrz (wMeth Z1 37 (wName 0) (wAc (wFrz (wVcall (wName 15))) wA0)))) (wSeq (wExpr (wFrz (wMeth Z1 48 (wName 0) (wAc (wAttr Z1 14 (wName 0)) wA0)))) wNil))
theorem s_opLDX {G : Gl nm Z1} : SB G (sScope (cst 61)) (sBody (cst 61)) w_opLDX := (SB_cons (SX_asA (n := 14) (SE_frz (S0_meth (n := 37) (SE_name (n := 0) rfl) (SA_cons (SE_frz (S0_vcall (SE_name (n := 15) rfl) (fun _ => rfl))) SA_nil (fun _ => rfl)) rfl (fun _ => ⟨_, rfl⟩))) (SE_name (n := 0) rfl) rfl (fun _ => rfl)) (SB_cons (SX_expr (SE_frz (S0_meth (n := 48) (SE_name (n := 0) rfl) (SA_cons (SE_attr (n := 14) (SE_name (n := 0) rfl) rfl (fun _ => rfl)) SA_nil (fun _ => rfl)) rfl (fun _ => ⟨_, rfl⟩))) (fun _ => rfl)) SB_nil))
noncomputable def w_inst_0xbd : WX := (wSeq (wExpr (wFrz (wMeth Z1 56 (wName 0) (wAc (wAttr Z1 42 (wName 0)) wA0)))) (wSeq (wAuA Z1 11 .Add (wName 0) (wInt 2)) wNil))
theorem s_inst_0xbd {G : Gl nm Z1} : SB G (sScope (cst 174)) (sBody (cst 174)) w_inst_0xbd := (SB_cons (SX_expr (SE_frz (S0_meth (n := 56) (SE_name (n := 0) rfl) (SA_cons (SE_attr (n := 42) (SE_name (n := 0) rfl) rfl (fun _ => rfl)) SA_nil (fun _ => rfl)) rfl (fun _ => ⟨_, rfl⟩))) (fun _ => rfl)) (SB_cons (SX_auA (n := 11) (SE_name (n := 0) rfl) SE_int rfl) SB_nil))
noncomputable def w_inst_0x79 : WX := (wSeq (wExpr (wFrz (wMeth Z1 87 (wName 0) (wAc (wAttr Z1 82 (wName 0)) wA0)))) (wSeq (wAuA Z1 11 .Add (wName 0) (wInt 2)) wNil))
theorem s_inst_0x79 {G : Gl nm Z1} : SB G (sScope (cst 132)) (sBody (cst 132)) w_inst_0x79 := (SB_cons (SX_expr (SE_frz (S0_meth (n := 87) (SE_name (n := 0) rfl) (SA_cons (SE_attr (n := 82) (SE_name (n := 0) rfl) rfl (fun _ => rfl)) SA_nil (fun _ => rfl)) rfl (fun _ => ⟨_, rfl⟩))) (fun _ => rfl)) (SB_cons (SX_auA (n := 11) (SE_name (n := 0) rfl) SE_int rfl) SB_nil))
noncomputable def w_inst_0x9d : WX := (wSeq (wExpr (wFrz (wMeth Z1 53 (wName 0) (wAc (wAttr Z1 42 (wName 0)) wA0)))) (wSeq (wAuA Z1 11 .Add (wName 0) (wInt 2)) wNil))
theorem s_inst_0x9d {G : Gl nm Z1} : SB G (sScope (cst 152)) (sBody (cst 152)) w_inst_0x9d := (SB_cons (SX_expr (SE_frz (S0_meth (n := 53) (SE_name (n := 0) rfl) (SA_cons (SE_attr (n := 42) (SE_name (n := 0) rfl) rfl (fun _ => rfl)) SA_nil (fun _ => rfl)) rfl (fun _ => ⟨_, rfl⟩))) (fun _ => rfl)) (SB_cons (SX_auA (n := 11) (SE_name (n := 0) rfl) SE_int rfl) SB_nil))
noncomputable def w_inst_0xf9 : WX := (wSeq (wExpr (wFrz (wMeth Z1 90 (wName 0) (wAc (wAttr Z1 82 (wName 0)) wA0)))) (wSeq (wAuA Z1 11 .Add (wName 0) (wInt 2)) wNil))
theorem s_inst_0xf9 {G : Gl nm Z1} : SB G (sScope (cst 211)) (sBody (cst 211)) w_inst_0xf9 := (SB_cons (SX_expr (SE_frz (S0_meth (n := 90) (SE_name (n := 0) rfl) (SA_cons (SE_attr (n := 82) (SE_name (n := 0) rfl) rfl (fun _ => rfl)) SA_nil (fun _ => rfl)) rfl (fun _ => ⟨_, rfl⟩))) (fun _ => rfl)) (SB_cons (SX_auA (n := 11) (SE_name (n := 0) rfl) SE_int rfl) SB_nil))
noncomputable def w_inst_0xd9 : WX := (wSeq (wExpr (wFrz (wMeth Z1 89 (wName 0) (wAc (wAttr Z1 82 (wName 0)) (wAc (wAttr Z1 13 (wName 0)) wA0))))) (wSeq (wAuA Z1 11 .Add (wName 0) (wInt 2)) wNil))
theorem s_inst_0xd9 {G : Gl nm Z1} : SB G (sScope (cst 192)) (sBody (cst 192)) w_inst_0xd9 := (SB_cons (SX_expr (SE_frz (S0_meth (n := 89) (SE_name (n := 0) rfl) (SA_cons (SE_attr (n := 82) (SE_name (n := 0) rfl) rfl (fun _ => rfl)) (SA_cons (SE_attr (n := 13) (SE_name (n := 0) rfl) rfl (fun _ => rfl)) SA_nil (fun _ => rfl)) (fun _ => rfl)) rfl (fun _ => ⟨_, rfl⟩))) (fun _ => rfl)) (SB_cons (SX_auA (n := 11) (SE_name (n := 0) rfl) SE_int rfl) SB_nil))
noncomputable def w_inst_0x1e : WX := (wSeq (wExpr (wFrz (wMeth Z1 83 (wName 0) (wAc (wAttr Z1 42 (wName 0)) wA0)))) (wSeq (wAuA Z1 11 .Add (wName 0) (wInt 2)) wNil))
theorem s_inst_0x1e {G : Gl nm Z1} : SB G (sScope (cst 79)) (sBody (cst 79)) w_inst_0x1e := (SB_cons (SX_expr (SE_frz (S0_meth (n := 83) (SE_name (n := 0) rfl) (SA_cons (SE_attr (n := 42) (SE_name (n := 0) rfl) rfl (fun _ => rfl)) SA_nil (fun _ => rfl)) rfl (fun _ => ⟨_, rfl⟩))) (fun _ => rfl)) (SB_cons (SX_auA (n := 11) (SE_name (n := 0) rfl) SE_int rfl) SB_nil))
noncomputable def w_inst_0x3e : WX := (wSeq (wExpr (wFrz (wMeth Z1 86 (wName 0) (wAc (wAttr Z1 42 (wName 0)) wA0)))) (wSeq (wAuA Z1 11 .Add (wName 0) (wInt 2)) wNil))
theorem s_inst_0x3e {G : Gl nm Z1} : SB G (sScope (cst 98)) (sBody (cst 98)) w_inst_0x3e := (SB_cons (SX_expr (SE_frz (S0_meth (n := 86) (SE_name (n := 0) rfl) (SA_cons (SE_attr (n := 42) (SE_name (n := 0) rfl) rfl (fun _ => rfl)) SA_nil (fun _ => rfl)) rfl (fun _ => ⟨_, rfl⟩))) (fun _ => rfl)) (SB_cons (SX_auA (n := 11) (SE_name (n := 0) rfl) SE_int rfl) SB_nil))
noncomputable def w_inst_0x5e : WX := (wSeq (wExpr (wFrz (wMeth Z1 84 (wName 0) (wAc (wAttr Z1 42 (wName 0)) wA0)))) (wSeq (wAuA Z1 11 .Add (wName 0) (wInt 2)) wNil))
theorem s_inst_0x5e {G : Gl nm Z1} : SB G (sScope (cst 116)) (sBody (cst 116)) w_inst_0x5e := (SB_cons (SX_expr (SE_frz (S0_meth (n := 84) (SE_name (n := 0) rfl) (SA_cons (SE_attr (n := 42) (SE_name (n := 0) rfl) rfl (fun _ => rfl)) SA_nil (fun _ => rfl)) rfl (fun _ => ⟨_, rfl⟩))) (fun _ => rfl)) (SB_cons (SX_auA (n := 11) (SE_name (n := 0) rfl) SE_int rfl) SB_nil))
noncomputable def w_inst_0x7e : WX := (wSeq (wExpr (wFrz (wMeth Z1 88 (wName 0) (wAc (wAttr Z1 42 (wName 0)) wA0)))) (wSeq (wAuA Z1 11 .Add (wName 0) (wInt 2)) wNil))
theorem s_inst_0x7e {G : Gl nm Z1} : SB G (sScope (cst 134)) (sBody (cst 134)) w_inst_0x7e := (SB_cons (SX_expr (SE_frz (S0_meth (n := 88) (SE_name (n := 0) rfl) (SA_cons (SE_attr (n := 42) (SE_name (n := 0) rfl) rfl (fun _ => rfl)) SA_nil (fun _ => rfl)) rfl (fun _ => ⟨_, rfl⟩))) (fun _ => rfl)) (SB_cons (SX_auA (n := 11) (SE_name (n := 0) rfl) SE_int rfl) SB_nil))
noncomputable def w_inst_0x48 : WX := (wSeq (wExpr (wFrz (wMeth Z1 44 (wName 0) (wAc (wAttr Z1 13 (wName 0)) wA0)))) wNil)
theorem s_inst_0x48 {G : Gl nm Z1} : SB G (sScope (cst 103)) (sBody (cst 103)) w_inst_0x48 := (SB_cons (SX_expr (SE_frz (S0_meth (n := 44) (SE_name (n := 0) rfl) (SA_cons (SE_attr (n := 13) (SE_name (n := 0) rfl) rfl (fun _ => rfl)) SA_nil (fun _ => rfl)) rfl (fun _ => ⟨_, rfl⟩))) (fun _ => rfl)) SB_nil)
noncomputable def w_inst_0xb9 : WX := (wSeq (wExpr (wFrz (wMeth Z1 56 (wName 0) (wAc (wAttr Z1 82 (wName 0)) wA0)))) (wSeq (wAuA Z1 11 .Add (wName 0) (wInt 2)) wNil))
theorem s_inst_0xb9 {G : Gl nm Z1} : SB G (sScope (cst 171)) (sBody (cst 171)) w_inst_0xb9 := (SB_cons (SX_expr (SE_frz (S0_meth (n := 56) (SE_name (n := 0) rfl) (SA_cons (SE_attr (n := 82) (SE_name (n := 0) rfl) rfl (fun _ => rfl)) SA_nil (fun _ => rfl)) rfl (fun _ => ⟨_, rfl⟩))) (fun _ => rfl)) (SB_cons (SX_auA (n := 11) (SE_name (n := 0) rfl) SE_int rfl) SB_nil))
noncomputable def w_inst_0x68 : WX := (wSeq (wAsA Z1 13 (wName 0) (wFrz (wMeth Z1 45 (wName 0) wA0))) (wSeq (wExpr (wFrz (wMeth Z1 48 (wName 0) (wAc (wAttr Z1 13 (wName 0)) wA0)))) wNil))
theorem s_inst_0x68 {G : Gl nm Z1} : SB G (sScope (cst 121)) (sBody (cst 121)) w_inst_0x68 := (SB_cons (SX_asA (n := 13) (SE_frz (S0_meth (n := 45) (SE_name (n := 0) rfl) SA_nil rfl (fun _ => ⟨_, rfl⟩))) (SE_name (n := 0) rfl) rfl (fun _ => rfl)) (SB_cons (SX_expr (SE_frz (S0_meth (n := 48) (SE_name (n := 0) rfl) (SA_cons (SE_attr (n := 13) (SE_name (n := 0) rfl) rfl (fun _ => rfl)) SA_nil (fun _ => rfl)) rfl (fun _ => ⟨_, rfl⟩))) (fun _ => rfl)) SB_nil))
noncomputable def w_inst_0x99 : WX := (wSeq (wExpr (wFrz (wMeth Z1 53 (wName 0) (wAc (wAttr Z1 82 (wName 0)) wA0)))) (wSeq (wAuA Z1 11 .Add (wName 0) (wInt 2)) wNil))
theorem s_inst_0x99 {G : Gl nm Z1} : SB G (sScope (cst 150)) (sBody (cst 150)) w_inst_0x99 := (SB_cons (SX_expr (SE_frz (S0_meth (n := 53) (SE_name (n := 0) rfl) (SA_cons (SE_attr (n := 82) (SE_name (n := 0) rfl) rfl (fun _ => rfl)) SA_nil (fun _ => rfl)) rfl (fun _ => ⟨_, rfl⟩))) (fun _ => rfl)) (SB_cons (SX_auA (n := 11) (SE_name (n := 0) rfl) SE_int rfl) SB_nil))
noncomputable def w_inst_0x18 : WX := (wSeq (wExpr (wFrz (wMeth Z1 51 (wName 0) (wAc (wAttr Z1 27 (wName 0)) wA0)))) wNil)
theorem s_inst_0x18 {G : Gl nm Z1} : SB G (sScope (cst 76)) (sBody (cst 76)) w_inst_0x18 := (SB_cons (SX_expr (SE_frz (S0_meth (n := 51) (SE_name (n := 0) rfl) (SA_cons (SE_attr (n := 27) (SE_name (n := 0) rfl) rfl (fun _ => rfl)) SA_nil (fun _ => rfl)) rfl (fun _ => ⟨_, rfl⟩))) (fun _ => rfl)) SB_nil)
noncomputable def w_inst_0x38 : WX := (wSeq (wExpr (wFrz (wMeth Z1 52 (wName 0) (wAc (wAttr Z1 27 (wName 0)) wA0)))) wNil)
theorem s_inst_0x38 {G : Gl nm Z1} : SB G (sScope (cst 95)) (sBody (cst 95)) w_inst_0x38 := (SB_cons (SX_expr (SE_frz (S0_meth (n := 52) (SE_name (n := 0) rfl) (SA_cons (SE_attr (n := 27) (SE_name (n := 0) rfl) rfl (fun _ => rfl)) SA_nil (fun _ => rfl)) rfl (fun _ => ⟨_, rfl⟩))) (fun _ => rfl)) SB_nil)
noncomputable def w_inst_0x60 : WX := (wSeq (wAsA Z1 11 (wName 0) (wFrz (wMeth Z1 47 (wName 0) wA0))) (wSeq (wAuA Z1 11 .Add (wName 0) (wInt 1)) wNil))
theorem s_inst_0x60 {G : Gl nm Z1} : SB G (sScope (cst 117)) (sBody (cst 117)) w_inst_0x60 := (SB_cons (SX_asA (n := 11) (SE_frz (S0_meth (n := 47) (SE_name (n := 0) rfl) SA_nil rfl (fun _ => ⟨_, rfl⟩))) (SE_name (n := 0) rfl) rfl (fun _ => rfl)) (SB_cons (SX_auA (n := 11) (SE_name (n := 0) rfl) SE_int rfl) SB_nil))
noncomputable def w_inst_0xa2 : WX := (wSeq (wExpr (wFrz (wMeth Z1 57 (wName 0) (wAc (wAttr Z1 39 (wName 0)) wA0)))) (wSeq (wAuA Z1 11 .Add (wName 0) (wInt 1)) wNil))
theorem s_inst_0xa2 {G : Gl nm Z1} : SB G (sScope (cst 155)) (sBody (cst 155)) w_inst_0xa2 := (SB_cons (SX_expr (SE_frz (S0_meth (n := 57) (SE_name (n := 0) rfl) (SA_cons (SE_attr (n := 39) (SE_name (n := 0) rfl) rfl (fun _ => rfl)) SA_nil (fun _ => rfl)) rfl (fun _ => ⟨_, rfl⟩))) (fun _ => rfl)) (SB_cons (SX_auA (n := 11) (SE_name (n := 0) rfl) SE_int rfl) SB_nil))
noncomputable def w_inst_0xa0 : WX := (wSeq (wExpr (wFrz (wMeth Z1 91 (wName 0) (wAc (wAttr Z1 39 (wName 0)) wA0)))) (wSeq (wAuA Z1 11 .Add (wName 0) (wInt 1)) wNil))
theorem s_inst_0xa0 {G : Gl nm Z1} : SB G (sScope (cst 153)) (sBody (cst 153)) w_inst_0xa0 := (SB_cons (SX_expr (SE_frz (S0_meth (n := 91) (SE_name (n := 0) rfl) (SA_cons (SE_attr (n := 39) (SE_name (n := 0) rfl) rfl (fun _ => rfl)) SA_nil (fun _ => rfl)) rfl (fun _ => ⟨_, rfl⟩))) (fun _ => rfl)) (SB_cons (SX_auA (n := 11) (SE_name (n := 0) rfl) SE_int rfl) SB_nil))
noncomputable def w_inst_0x20 : WX := (wSeq (wExpr (wFrz (wMeth Z1 46 (wName 0) (wAc (wBin .BitAnd (wBin .Add (wAttr Z1 11 (wName 0)) (wInt 1)) (wAttr Z1 3 (wName 0))) wA0)))) (wSeq (wAsA Z1 11 (wName 0) (wFrz (wMeth Z1 38 (wName 0) (wAc (wAttr Z1 11 (wName 0)) wA0)))) wNil))
theorem s_inst_0x20 {G : Gl nm Z1} : SB G (sScope (cst 80)) (sBody (cst 80)) w_inst_0x20 := (SB_cons (SX_expr (SE_frz (S0_meth (n := 46) (SE_name (n := 0) rfl) (SA_cons (SE_bin (SE_bin (SE_attr (n := 11) (SE_name (n := 0) rfl) rfl (fun _ => rfl)) SE_int) (SE_attr (n := 3) (SE_name (n := 0) rfl) rfl (fun _ => rfl))) SA_nil (fun _ => rfl)) rfl (fun _ => ⟨_, rfl⟩))) (fun _ => rfl)) (SB_cons (SX_asA (n := 11) (SE_frz (S0_meth (n := 38) (SE_name (n := 0) rfl) (SA_cons (SE_attr (n := 11) (SE_name (n := 0) rfl) rfl (fun _ => rfl)) SA_nil (fun _ => rfl)) rfl (fun _ => ⟨_, rfl⟩))) (SE_name (n := 0) rfl) rfl (fun _ => rfl)) SB_nil))
noncomputable def w_inst_0x90 : WX := (wSeq (wExpr (wFrz (wMeth Z1 50 (wName 0) (wAc (wAttr Z1 27 (wName 0)) wA0)))) wNil)
theorem s_inst_0x90 {G : Gl nm Z1} : SB G (sScope (cst 144)) (sBody (cst 144)) w_inst_0x90 := (SB_cons (SX_expr (SE_frz (S0_meth (n := 50) (SE_name (n := 0) rfl) (SA_cons (SE_attr (n := 27) (SE_name (n := 0) rfl) rfl (fun _ => rfl)) SA_nil (fun _ => rfl)) rfl (fun _ => ⟨_, rfl⟩))) (fun _ => rfl)) SB_nil)
noncomputable def w_inst_0xb0 : WX := (wSeq (wExpr (wFrz (wMeth Z1 85 (wName 0) (wAc (wAttr Z1 27 (wName 0)) wA0)))) wNil)
theorem s_inst_0xb0 {G : Gl nm Z1} : SB G (sScope (cst 165)) (sBody (cst 165)) w_inst_0xb0 := (SB_cons (SX_expr (SE_frz (S0_meth (n := 85) (SE_name (n := 0) rfl) (SA_cons (SE_attr (n := 27) (SE_name (n := 0) rfl) rfl (fun _ => rfl)) SA_nil (fun _ => rfl)) rfl (fun _ => ⟨_, rfl⟩))) (fun _ => rfl)) SB_nil)
noncomputable def w_inst_0xee : WX := (wSeq (wExpr (wFrz (wMeth Z1 55 (wName 0) (wAc (wAttr Z1 81 (wName 0)) wA0)))) (wSeq (wAuA Z1 11 .Add (wName 0) (wInt 2)) wNil))
theorem s_inst_0xee {G : Gl nm Z1} : SB G (sScope (cst 205)) (sBody (cst 205)) w_inst_0xee := (SB_cons (SX_expr (SE_frz (S0_meth (n := 55) (SE_name (n := 0) rfl) (SA_cons (SE_attr (n := 81) (SE_name (n := 0) rfl) rfl (fun _ => rfl)) SA_nil (fun _ => rfl)) rfl (fun _ => ⟨_, rfl⟩))) (fun _ => rfl)) (SB_cons (SX_auA (n := 11) (SE_name (n := 0) rfl) SE_int rfl) SB_nil))
noncomputable def w_inst_0xa9 : WX := (wSeq (wExpr (wFrz (wMeth Z1 56 (wName 0) (wAc (wAttr Z1 39 (wName 0)) wA0)))) (wSeq (wAuA Z1 11 .Add (wName 0) (wInt 1)) wNil))
theorem s_inst_0xa9 {G : Gl nm Z1} : SB G (sScope (cst 160)) (sBody (cst 160)) w_inst_0xa9 := (SB_cons (SX_expr (SE_frz (S0_meth (n := 56) (SE_name (n := 0) rfl) (SA_cons (SE_attr (n := 39) (SE_name (n := 0) rfl) rfl (fun _ => rfl)) SA_nil (fun _ => rfl)) rfl (fun _ => ⟨_, rfl⟩))) (fun _ => rfl)) (SB_cons (SX_auA (n := 11) (SE_name (n := 0) rfl) SE_int rfl) SB_nil))
noncomputable def w_inst_0x8d : WX := (wSeq (wExpr (wFrz (wMeth Z1 53 (wName 0) (wAc (wAttr Z1 81 (wName 0)) wA0)))) (wSeq (wAuA Z1 11 .Add (wName 0) (wInt 2)) wNil))
theorem s_inst_0x8d {G : Gl nm Z1} : SB G (sScope (cst 142)) (sBody (cst 142)) w_inst_0x8d := (SB_cons (SX_expr (SE_frz (S0_meth (n := 53) (SE_name (n := 0) rfl) (SA_cons (SE_attr (n := 81) (SE_name (n := 0) rfl) rfl (fun _ => rfl)) SA_nil (fun _ => rfl)) rfl (fun _ => ⟨_, rfl⟩))) (fun _ => rfl)) (SB_cons (SX_auA (n := 11) (SE_name (n := 0) rfl) SE_int rfl) SB_nil))
noncomputable def w_inst_0x4c : WX := (wSeq (wAsA Z1 11 (wName 0) (wFrz (wMeth Z1 38 (wName 0) (wAc (wAttr Z1 11 (wName 0)) wA0)))) wNil)
theorem s_inst_0x4c {G : Gl nm Z1} : SB G (sScope (cst 106)) (sBody (cst 106)) w_inst_0x4c := (SB_cons (SX_asA (n := 11) (SE_frz (S0_meth (n := 38) (SE_name (n := 0) rfl) (SA_cons (SE_attr (n := 11) (SE_name (n := 0) rfl) rfl (fun _ => rfl)) SA_nil (fun _ => rfl)) rfl (fun _ => ⟨_, rfl⟩))) (SE_name (n := 0) rfl) rfl (fun _ => rfl)) SB_nil)
noncomputable def w_inst_0xe9 : WX := (wSeq (wExpr (wFrz (wMeth Z1 90 (wName 0) (wAc (wAttr Z1 39 (wName 0)) wA0)))) (wSeq (wAuA Z1 11 .Add (wName 0) (wInt 1)) wNil))
theorem s_inst_0xe9 {G : Gl nm Z1} : SB G (sScope (cst 201)) (sBody (cst 201)) w_inst_0xe9 := (SB_cons (SX_expr (SE_frz (S0_meth (n := 90) (SE_name (n := 0) rfl) (SA_cons (SE_attr (n := 39) (SE_name (n := 0) rfl) rfl (fun _ => rfl)) SA_nil (fun _ => rfl)) rfl (fun _ => ⟨_, rfl⟩))) (fun _ => rfl)) (SB_cons (SX_auA (n := 11) (SE_name (n := 0) rfl) SE_int rfl) SB_nil))
noncomputable def w_inst_0xf0 : WX := (wSeq (wExpr (wFrz (wMeth Z1 85 (wName 0) (wAc (wAttr Z1 26 (wName 0)) wA0)))) wNil)
theorem s_inst_0xf0 {G : Gl nm Z1} : SB G (sScope (cst 206)) (sBody (cst 206)) w_inst_0xf0 := (SB_cons (SX_expr (SE_frz (S0_meth (n := 85) (SE_name (n := 0) rfl) (SA_cons (SE_attr (n := 26) (SE_name (n := 0) rfl) rfl (fun _ => rfl)) SA_nil (fun _ => rfl)) rfl (fun _ => ⟨_, rfl⟩))) (fun _ => rfl)) SB_nil)
noncomputable def T1 : Defs := [(43, [0], w_step), (50, [0], w_reset), (71, [0, 75], w_ByteAt), (78, [0, 75], w_WordAt), (92, [0], w_ProgramCounter), (99, [0], w_ImmediateByte), (141, [0], w_AbsoluteAddr), (148, [0], w_AbsoluteXAddr), (155, [0], w_AbsoluteYAddr), (162, [0], w_BranchRelAddr), (169, [0, 78], w_stPush), (176, [0], w_stPop), (183, [0, 78], w_stPushWord), (190, [0], w_stPopWord), (197, [0, 79], w_FlagsNZ), (211, [0, 14], w_opASL), (218, [0, 14], w_opLSR), (225, [0, 14], w_opBCL), (232, [0, 14], w_opBST), (239, [0, 14], w_opCLR), (246, [0, 14], w_opSET), (267, [0, 14], w_opROL), (281, [0, 14], w_opADC), (288, [0, 14], w_opROR), (295, [0, 14], w_opSTA), (316, [0, 125, 126], w_opCMPR), (323, [0, 14], w_opSBC), (337, [0, 14], w_opINCR), (344, [0, 14], w_opLDA), (351, [0, 14], w_opLDY), (358, [0, 15], w_opLDX), (1149, [0], w_inst_0xbd), (855, [0], w_inst_0x79), (995, [0], w_inst_0x9d), (1408, [0], w_inst_0xf9), (1275, [0], w_inst_0xd9), (484, [0], w_inst_0x1e), (617, [0], w_inst_0x3e), (743, [0], w_inst_0x5e), (869, [0], w_inst_0x7e), (652, [0], w_inst_0x48), (1128, [0], w_inst_0xb9), (778, [0], w_inst_0x68), (981, [0], w_inst_0x99), (463, [0], w_inst_0x18), (596, [0], w_inst_0x38), (750, [0], w_inst_0x60), (1016, [0], w_inst_0xa2), (1002, [0], w_inst_0xa0), (491, [0], w_inst_0x20), (939, [0], w_inst_0x90), (1086, [0], w_inst_0xb0), (1366, [0], w_inst_0xee), (1051, [0], w_inst_0xa9), (925, [0], w_inst_0x8d), (673, [0], w_inst_0x4c), (1338, [0], w_inst_0xe9), (1373, [0], w_inst_0xf0)]
end VE
namespace M6
noncomputable def loG (ns : List DictEntry) (st : Stmt) (t : Nat) : Obj := { cls := .type "list", data := .seq (lVals ns (lEs st) t).toArray }
noncomputable def entG (w : World) (st : Stmt) (t n : Nat) : DictEntry := ⟨hsh w (bindOf st), .str (bindOf st) t, .ref n⟩
noncomputable def nsA (w : World) (ns0 : List DictEntry) (row : Row) : List DictEntry := ns0 ++ rEnt w row
noncomputable def nsB (w : World) (ns0 : List DictEntry) (row : Row) (s1 : Stmt) (t1 n : Nat) : List DictEntry := nsA w ns0 row ++ [entG w s1 t1 n]
noncomputable def nsC (w : World) (ns0 : List DictEntry) (row : Row) (s1 s2 : Stmt) (t1 t2 n : Nat) : List DictEntry := nsB w ns0 row s1 t1 n ++ [entG w s2 t2 (n + 1)]
noncomputable def nsD (w : World) (ns0 : List DictEntry) (row : Row) (s1 s2 s3 : Stmt) (t1 t2 t3 n : Nat) : List DictEntry := nsC w ns0 row s1 s2 t1 t2 n ++ [entG w s3 t3 (n + 2)]
noncomputable def objG (e : Ec) (w : World) (ns0 : List DictEntry) (row : Row) (s1 s2 s3 : Stmt) (t0 t1 t2 n : Nat) : List Obj :=
  rObjs e row ++ [loG (nsA w ns0 row) s1 t0] ++ [loG (nsB w ns0 row s1 t1 n) s2 (t1 + 1)] ++ [loG (nsC w ns0 row s1 s2 t1 t2 n) s3 (t2 + 1)]
noncomputable def stepsG (row : Row) (s1 s2 s3 : Stmt) : Nat := stepsAll (row.map (·.1)) + ((1 + ((1 + (lSteps (lEs s1) + 1)) + 8)) + ((1 + ((1 + (lSteps (lEs s2) + 1)) + 8)) + ((1 + ((1 + (lSteps (lEs s3) + 1)) + 8)) + 0)))
section
variable {p : Program} {n₀ : Nat} {ann : Option Value} {g : Array GenState} {d : Drawn} {os : OsState} {w : World} {e : Ec}
theorem body_gen (E : EcOk p n₀ ann g d os w e) {ns0 : List DictEntry} {row : Row} {ks us0 lk us1 : List Nat} {dbg t0 t1 t2 t3 n k1 k2 k3 T0 : Nat} {s1 s2 s3 : Stmt} {q0 : Pos} {cb : List Stmt}
    (I0 : Inv us0 0 ⟨[], ns0, []⟩) (hcb : row.map (·.1) ++ [s1, s2, s3] = cb) (kinds : ∀ st ∈ cb, e.env.kindOf (bindOf st) = some .local) (row_ok : rowOk row 29 T0 = true) (row_chk : chk us0 0 (row.map (·.1)) ks = true) (row_st : ∀ x ∈ row, stB x.1 = true)
    (row_T : rowT row T0 = t0) (row_N : rowN row 29 = n) (row_small : ∀ x ∈ row, small (bindOf x.1) = true) (row_len : row.length = ks.length) (lf1 : s1 = lForm s1) (lf2 : s2 = lForm s2) (lf3 : s3 = lForm s3) (dbg_is : dbg = enc ("__debug__" : Str))
    (lc1 : chkL ks dbg (lEs s1) lk = true) (lc2 : chkL ks dbg (lEs s2) [] = true) (lc3 : chkL ks dbg (lEs s3) [] = true) (us_is : lastUs (row.map (·.1)) ks us0 = us1) (k1_is : Nat.beq k1 (enc (bindOf s1)) = true) (k2_is : Nat.beq k2 (enc (bindOf s2)) = true) (k3_is : Nat.beq k3 (enc (bindOf s3)) = true)
    (aw1 : awayN k1 us1 = true) (aw2 : awayN k2 (k1 :: us1) = true) (aw3 : awayN k3 (k2 :: k1 :: us1) = true) (tk1 : lTk (lEs s1) t0 = t1) (tk2 : lTk (lEs s2) (t1 + 1) = t2) (tk3 : lTk (lEs s3) (t2 + 1) = t3)
    (ln1 : (lEs s1).length ≤ 1000) (ln2 : (lEs s2).length ≤ 1000) (ln3 : (lEs s3).length ≤ 1000) :
    XR p n₀ ann g d os w (stepsG row s1 s2 s3) (execs cb e.env) (mkH e.b ⟨[], ns0, []⟩) T0 q0 .next (mkH e.b ⟨objG e w ns0 row s1 s2 s3 t0 t1 t2 n, nsD w ns0 row s1 s2 s3 t1 t2 t3 n, rPl row⟩) (t3 + 1) (endOf s3) := by
  have rm : ∀ x ∈ row, x.1 ∈ cb := fun x hx => by rw [← hcb]; exact List.mem_append_left _ (List.mem_map_of_mem hx)
  have m1 : s1 ∈ cb := by rw [← hcb]; simp
  have m2 : s2 ∈ cb := by rw [← hcb]; simp
  have m3 : s3 ∈ cb := by rw [← hcb]; simp
  obtain ⟨x1, I1⟩ := XR_execs E (row.map (·.1)) ks us0 0 ⟨[], ns0, []⟩ T0 q0 row_chk (fun st hs => kinds st (by rw [← hcb]; exact List.mem_append_left _ hs)) I0
  rw [effAll_is row _ 29 T0 row_ok row_st rfl] at x1 I1
  rw [us_is] at I1
  simp only [List.nil_append, row_T] at x1 I1
  have nlen : 29 + (rObjs e row).length = n := (rowN_is row 29 T0 row_ok row_st).trans row_N
  have fo : ∀ (ns : List DictEntry) (s : Stmt) (lk : List Nat), chkL ks dbg (lEs s) lk = true → (∀ en ∈ rEnt w row, en ∈ ns) → ∀ x q, Expr.Name x q ∈ lEs s → Found e ns x := fun ns s lk lc hns => found_of dbg_is row_chk row_len row_st row_small (fun x hx => kinds _ (rm x hx)) lc hns
  have f1 := fo (nsA w ns0 row) s1 lk lc1 fun en he => List.mem_append_right _ he
  have f2 := fo (nsB w ns0 row s1 t1 n) s2 [] lc2 fun en he => List.mem_append_left _ (List.mem_append_right _ he)
  have f3 := fo (nsC w ns0 row s1 s2 t1 t2 n) s3 [] lc3 fun en he => List.mem_append_left _ (List.mem_append_left _ (List.mem_append_right _ he))
  have I2 := I1.add (objs := rObjs e row ++ [loG (nsA w ns0 row) s1 t0]) (hh := hsh w (bindOf s1)) (t := t1) (v := .ref n) (Nat.eq_of_beq_eq_true k1_is)
  have I3 := I2.add (objs := rObjs e row ++ [loG (nsA w ns0 row) s1 t0] ++ [loG (nsB w ns0 row s1 t1 n) s2 (t1 + 1)]) (hh := hsh w (bindOf s2)) (t := t2) (v := .ref (n + 1)) (Nat.eq_of_beq_eq_true k2_is)
  have y1 := XR_listSt (c := ⟨rObjs e row, nsA w ns0 row, rPl row⟩) (t := t0) (pos₀ := lastPos (row.map (·.1)) q0) (q := lQ s1) (pos := posOf s1) (np := endOf s1) E (chkL_items lc1) f1 ln1 (kinds _ m1) (I1.fresh k1_is aw1)
  have y2 := XR_listSt (c := ⟨rObjs e row ++ [loG (nsA w ns0 row) s1 t0], nsB w ns0 row s1 t1 n, rPl row⟩) (t := t1 + 1) (pos₀ := endOf s1) (q := lQ s2) (pos := posOf s2) (np := endOf s2) E (chkL_items lc2) f2 ln2 (kinds _ m2) (I2.fresh k2_is aw2)
  have y3 := XR_listSt (c := ⟨rObjs e row ++ [loG (nsA w ns0 row) s1 t0] ++ [loG (nsB w ns0 row s1 t1 n) s2 (t1 + 1)], nsC w ns0 row s1 s2 t1 t2 n, rPl row⟩) (t := t2 + 1) (pos₀ := endOf s2) (q := lQ s3) (pos := posOf s3) (np := endOf s3) E (chkL_items lc3) f3 ln3 (kinds _ m3) (I3.fresh k3_is aw3)
  rw [nlen, tk1] at y1
  rw [List.length_append, List.length_singleton, ← Nat.add_assoc 29 (rObjs e row).length 1, nlen, tk2] at y2
  rw [List.length_append, List.length_append, List.length_singleton, List.length_singleton, Nat.add_assoc (rObjs e row).length 1 1, ← Nat.add_assoc 29 (rObjs e row).length (1 + 1), nlen, tk3] at y3
  have ex : ∀ {st : Stmt} {a t t' : Nat} {h h' : Heap} {q q' : Pos}, st = lForm st → XR p n₀ ann g d os w a (exec (lForm st) e.env) h t q .next h' t' q' → XR p n₀ ann g d os w a (exec st e.env) h t q .next h' t' q' := fun e1 x => by
    rw [e1]; exact x
  rw [← hcb]
  refine XR_execs_app x1 ?_
  have one : ∀ {st : Stmt} {r : List Stmt} {h h₁ h₂ : Heap} {t t₁ t₂ a b : Nat} {pos pos₁ pos₂ : Pos}, XR p n₀ ann g d os w a (exec st e.env) h t pos .next h₁ t₁ pos₁ → XR p n₀ ann g d os w b (execs r e.env) h₁ t₁ pos₁ .next h₂ t₂ pos₂ → XR p n₀ ann g d os w (a + b) (execs (st :: r) e.env) h t pos .next h₂ t₂ pos₂ := fun x y => by
    rw [execs_cons]
    refine XR_bind x ?_
    exact y
  refine one (ex lf1 y1) ?_
  refine one (ex lf2 y2) ?_
  refine one (ex lf3 y3) ?_
  exact XR_pure
end
end M6
namespace M6
noncomputable section
noncomputable def cx : CodeCx := ⟨S "/claim/cut.py", 0, false, 181⟩
noncomputable abbrev pmV : Value := .str (S "py65.devices.mpu6502") 194
noncomputable def ec (w : World) : Ec := ⟨cenv, cx, 0, pmV, bs w⟩
noncomputable def mkRow : List Stmt → List (Nat × Nat) → Row
  | st :: l, (n, t) :: r => (st, n, t) :: mkRow l r
  | _, _ => []
theorem mkRow_fst : ∀ (l : List Stmt) (r : List (Nat × Nat)), r.length ≤ l.length → (mkRow l r).map (·.1) = l.take r.length
  | _, [], _ => by simp [mkRow]
  | [], _ :: _, h => by simp at h
  | st :: l, (n, t) :: r, h => by
    show st :: (mkRow l r).map (·.1) = _
    rw [mkRow_fst l r (by simpa using h)]
    rfl
noncomputable def nums : List (Nat × Nat) := [(29, 208), (29, 210), (29, 212), (29, 214), (29, 216), (29, 218), (29, 220), (29, 222), (29, 224), (29, 226), (29, 228), (29, 230), (29, 232), (29, 234), (29, 236), (29, 238), (37, 248), (44, 256), (51, 263), (58, 270), (65, 277), (72, 285), (79, 293), (86, 303), (93, 310), (100, 317), (107, 324), (114, 331), (121, 338), (128, 345), (135, 354), (142, 361), (149, 370), (156, 379), (163, 387), (170, 395), (177, 402), (184, 410), (191, 418), (198, 426), (205, 434), (212, 444), (219, 454), (226, 462), (233, 470), (240, 478), (247, 486), (254, 494), (261, 503), (268, 513), (275, 521), (282, 539), (289, 549), (296, 557), (303, 565), (310, 573), (317, 583), (324, 600), (331, 610), (338, 620), (345, 628), (352, 636), (359, 644), (366, 651), (373, 659), (380, 666), (387, 673), (394, 680), (401, 687), (408, 694), (415, 701), (422, 708), (429, 715), (436, 722), (443, 729), (450, 736), (457, 743), (464, 750), (471, 757), (478, 764), (485, 771), (492, 778), (499, 785), (506, 792), (513, 799), (520, 806), (527, 813), (534, 820), (541, 827), (548, 834), (555, 841), (562, 848), (569, 855), (576, 862), (583, 869), (590, 876), (597, 883), (604, 890), (611, 897), (618, 904), (625, 911), (632, 918), (639, 925), (646, 932), (653, 939), (660, 946), (667, 953), (674, 960), (681, 967), (688, 974), (695, 981), (702, 988), (709, 995), (716, 1002), (723, 1009), (730, 1016), (737, 1023), (744, 1030), (751, 1037), (758, 1044), (765, 1051), (772, 1058), (779, 1065), (786, 1072), (793, 1079), (800, 1087), (807, 1094), (814, 1101), (821, 1108), (828, 1115), (835, 1122), (842, 1129), (849, 1136), (856, 1143), (863, 1150), (870, 1157), (877, 1164), (884, 1171), (891, 1178), (898, 1185), (905, 1192), (912, 1199), (919, 1206), (926, 1213), (933, 1220), (940, 1227), (947, 1234), (954, 1241), (961, 1248), (968, 1255), (975, 1262), (982, 1269), (989, 1276), (996, 1283), (1003, 1290), (1010, 1297), (1017, 1304), (1024, 1311), (1031, 1318), (1038, 1325), (1045, 1332), (1052, 1339), (1059, 1346), (1066, 1353), (1073, 1360), (1080, 1367), (1087, 1374), (1094, 1381), (1101, 1388), (1108, 1395), (1115, 1402), (1122, 1409), (1129, 1416), (1136, 1423), (1143, 1430), (1150, 1437), (1157, 1444), (1164, 1451), (1171, 1458), (1178, 1465), (1185, 1472), (1192, 1479), (1199, 1486), (1206, 1493), (1213, 1500), (1220, 1507), (1227, 1514), (1234, 1521), (1241, 1528), (1248, 1535), (1255, 1542), (1262, 1549), (1269, 1556), (1276, 1563), (1283, 1570), (1290, 1577), (1297, 1584), (1304, 1591), (1311, 1598), (1318, 1605), (1325, 1612), (1332, 1619), (1339, 1626), (1346, 1633), (1353, 1640), (1360, 1647), (1367, 1654), (1374, 1661), (1381, 1668), (1388, 1675), (1395, 1682), (1402, 1689), (1409, 1696), (1416, 1703)]
noncomputable def row : Row := mkRow cb nums
noncomputable def ks : List Nat := [40566444004241315945086292328530, 9223693094411567182, 9223728278794141769, 374156729175376809814151048786362472439819549016142, 374159940482089904203465974441416054423449663176783, 85073350139275367363416112186055983189, 40566269918886397888765091643458, 178412426955853197700963550525517741208633412, 784669145068816743373889952136887351439751431825785880649, 19343541760585618281201754, 40566540718426788947501326008387, 1645561051268252665622619039172595849854203956675598648436850754, 3451011395829098355434070634118342472037579312195813612184661114486850, 1645561051268252665622619039172595849854204076579364758760718401, 3451011395829098355434070634118342472037579312195933515950771438354497, 374161367731143741253624231872089875031792684105823, 19343846131946397471080563, 40567062974556106681140650180722, 9223869016349605993, 9223833831967031406, 85075297250519946837342307857916231746, 85075297250519946828118927024947462231, 85075297250519946938799316700420374615, 31830417320439421601510279130214397964113314207397343911710243396182182792322381273628752, 15177831658477120412261863360565861288471695029758508643473785384720870579934068809, 7237398977038579810304986960081414694590513131225205980335151167271765803098, 15177925739494411726340724013303795111784035136511171321418563776151939817505030234, 15177925739494411726340724013304169256203191847658231464735739144604971736236032090, 15177925739494411726340724013303795114460124220052641437398871309388591821743980617, 15177925739494411726340724013304169258879280931199701580716046677841623740474982473, 7237398977038579810304986960081414695696431635015181731425122957583372517441, 15177925739494411726340724013303795111784036242429675111394314866123730129111744577, 15177925739494411726340724013304169256203192953576735254711490234576762047842746433, 15177925739494411726340724013311278000167167572970231806937102525821224902352437314, 85074810473656600000517630723641835635, 40566985603395884911310420312179, 1645583021135550859251451338130889562488211437905709923083223155, 784675131385589055658078831735236206514596114593768013939, 178413617944664764370307790794653966272561222, 40566076490912056916704197869679, 40566289261865532401903149777007, 40566405318744215454682433192047, 40566289261717958453711519875183, 40566444004370443078835558678639, 40566405318679651810842031161455, 40566444004241315945086382506095, 40566134519314504869184513507439, 40566444004278209358467010920559, 40566289261828638988522521362543, 40566405318707321935748688511087, 40566115176409157314749170450543, 40566405318707321992923293155439, 40566076490930503678370093465711, 40566540718445235695973180637295, 40566521375632121861906385338479, 85073918046957040499099846057945727087, 40566115176390710649840298098799, 85073918046705583854833031292815147119, 85073918046705583937843401614740684911, 40566076490782929694994091475055, 40566540718297661712597178646639, 40566521375484547878530383347823, 2707814360720943931819095783640134179241771245638729875692814420339388298159670741921217767742435216423604019897063301330239593, 784655675864018113979241278807845858292561753760845529193, 784656050008437270690388338951163033661014785679576531049, 784657546586113897534976579524431735134826913354500538473, 784657920730533054246123639667748910503279945273231540329, 784658669019371367668417759954383261240186009110693544041, 784659043163790524379564820097700436608639041029424545897, 784674008940556792825447225830387451346760317778664620137, 784675131373814262958888406260338977452119413534857625705, 784675505518233419670035466403656152820572445453588627561, 784655675864196519940829523792978144038742940652893372521, 784656050008615676651976583936295319407195972571624374377, 784657546586292303496564824509564020881008100246548381801, 784657920730711460207711884652881196249461132165279383657, 784658669019549773630006004939515546986367196002741387369, 784659043163968930341153065082832722354820227921472389225, 784675131373992668920476651245471263198300600426905469033, 784675505518411825631623711388788438566753632345636470889, 784655675864374925902417768778110429784924127544941215849, 784656050008794082613564828921427605153377159463672217705, 784657172442051552747006009351379131258736255219865223273, 784657546586470709458153069494696306627189287138596225129, 784657920730889866169300129638013481995642319057327226985, 784658669019728179591594249924647832732548382894789230697, 784659043164147336302741310067965008101001414813520232553, 784674008940913604748623715800652022839122691562760306793, 784674757229751918170917836087286373576028755400222310505, 784675131374171074882064896230603548944481787318953312361, 784675505518590231593211956373920724312934819237684314217, 784655675864553331864006013763242715531105314436989059177, 784656050008972488575153073906559890899558346355720061033, 784657546586649115419741314479828592373370474030644068457, 784657920731068272130888374623145767741823505949375070313, 784658669019906585553182494909780118478729569786837074025, 784659043164325742264329555053097293847182601705568075881, 784675131374349480843653141215735834690662974211001155689, 784675505518768637554800201359053010059116006129732157545, 784655675864731737825594258748375001277286501329036902505, 784656050009150894536741318891692176645739533247767904361, 784657546586827521381329559464960878119551660922691911785, 784657920731246678092476619608278053488004692841422913641, 784658669020084991514770739894912404224910756678884917353, 784659043164504148225917800038229579593363788597615919209, 784674008941270416671800205770916594331485065346855993449, 784674757230108730094094326057550945068391129184317997161, 784675131374527886805241386200868120436844161103048999017, 784675505518947043516388446344185295805297193021780000873, 784655675864910143787182503733507287023467688221084745833, 784656050009329300498329563876824462391920720139815747689, 784657546587005927342917804450093163865732847814739755113, 784657920731425084054064864593410339234185879733470756969, 784658669020263397476358984880044689971091943570932760681, 784659043164682554187506045023361865339544975489663762537, 784675131374706292766829631186000406183025347995096842345, 784675505519125449477976691329317581551478379913827844201, 784655675865088549748770748718639572769648875113132589161, 784656050009507706459917808861956748138101907031863591017, 784657546587184333304506049435225449611914034706787598441, 784657920731603490015653109578542624980367066625518600297, 784658669020441803437947229865176975717273130462980604009, 784659043164860960149094290008494151085726162381711605865, 784674008941627228594976695741181165823847439130951680105, 784674757230465542017270816027815516560753502968413683817, 784675131374884698728417876171132691929206534887144685673, 784675505519303855439564936314449867297659566805875687529, 784655675865266955710358993703771858515830062005180432489, 784656050009686112421506053847089033884283093923911434345, 784657546587362739266094294420357735358095221598835441769, 784657920731781895977241354563674910726548253517566443625, 784658669020620209399535474850309261463454317355028447337, 784659043165039366110682534993626436831907349273759449193, 784675131375063104690006121156264977675387721779192529001, 784675505519482261401153181299582153043840753697923530857, 784656050009864518383094298832221319630464280815959277673, 784657172443121988516535479262172845735823376572152283241, 784657546587541145227682539405490021104276408490883285097, 784657920731960301938829599548807196472729440409614286953, 784658669020798615361123719835441547209635504247076290665, 784674008941984040518153185711445737316209812915047366761, 784674757230822353940447305998080088053115876752509370473, 784675131375241510651594366141397263421568908671240372329, 784675505519660667362741426284714438790021940589971374185, 784655675865623767633535483674036430008192435789276119145, 784656050010042924344682543817353605376645467708007121001, 784657172443300394478123724247305131482004563464200126569, 784657546587719551189270784390622306850457595382931128425, 784657920732138707900417844533939482218910627301662130281, 784658669020977021322711964820573832955816691139124133993, 784659043165396178033859024963891008324269723057855135849, 784674008942162446479741430696578023062390999807095210089, 784675131375419916613182611126529549167750095563288215657, 784655675872760006097065283079327859855439911471189852265, 784656050017179162808212343222645035223892943389920854121, 784656424161598319519359403365962210592345975308651855977, 784657172450436632941653523652596561329252039146113859689, 784657546594855789652800583795913736697705071064844861545, 784657920739274946363947643939230912066158102983575863401, 784658669028113259786241764225865262803064166821037867113, 784659043172532416497388824369182438171517198739768868969, 784674008949298684943271230101869452909638475489008943209, 784674757238136998365565350388503803646544539326470946921, 784675131382556155076712410531820979014997571245201948777, 784675505526975311787859470675138154383450603163932950633, 784655675872938412058653528064460145601621098363237695593, 784656050017357568769800588207777320970074130281968697449, 784657172450615038903241768637728847075433226038161703017, 784657546595034195614388828781046022443886257956892704873, 784657920739453352325535888924363197812339289875623706729, 784658669028291665747830009210997548549245353713085710441, 784659043172710822458977069354314723917698385631816712297, 784674008949477090904859475087001738655819662381056786537, 784674757238315404327153595373636089392725726218518790249, 784675131382734561038300655516953264761178758137249792105, 784675505527153717749447715660270440129631790055980793961, 784655675873116818020241773049592431347802285255285538921, 784656050017535974731388833192909606716255317174016540777, 784657172450793444864830013622861132821614412930209546345, 784657546595212601575977073766178308190067444848940548201, 784657920739631758287124133909495483558520476767671550057, 784658669028470071709418254196129834295426540605133553769, 784659043172889228420565314339447009663879572523864555625, 784674008949655496866447720072134024402000849273104629865, 784674757238493810288741840358768375138906913110566633577, 784675131382912966999888900502085550507359945029297635433, 784675505527332123711035960645402725875812976948028637289, 784655675873295223981830018034724717093983472147333382249, 784656050017714380692977078178041892462436504066064384105, 784657546595391007537565318751310593936248631740988391529, 784657920739810164248712378894627769304701663659719393385, 784658669028648477671006499181262120041607727497181397097, 784659043173067634382153559324579295410060759415912398953, 784675131383091372961477145487217836253541131921345478761, 784675505527510529672624205630535011621994163840076480617, 784655675873473629943418263019857002840164659039381225577, 784656050017892786654565323163174178208617690958112227433, 784657172451150256788006503593125704313976786714305233001, 784657546595569413499153563736442879682429818633036234857, 784657920739988570210300623879760055050882850551767236713, 784658669028826883632594744166394405787788914389229240425, 784659043173246040343741804309711581156241946307960242281, 784674008950012308789624210042398595894363223057200316521, 784674757238850622211918330329032946631269286894662320233, 784675131383269778923065390472350121999722318813393322089, 784675505527688935634212450615667297368175350732124323945, 784655675873652035905006508004989288586345845931429068905, 784656050018071192616153568148306463954798877850160070761, 784657546595747819460741808721575165428611005525084078185, 784657920740166976171888868864892340797064037443815080041, 784658669029005289594182989151526691533970101281277083753, 784659043173424446305330049294843866902423133200008085609, 784675131383448184884653635457482407745903505705441165417, 784675505527867341595800695600799583114356537624172167273]
noncomputable def us0 : List Nat := [1645579097939857496827938599568861160633997785614177722257375327, 7237333410440057777947054478967012584455014025756423976850642608192585990239, 66752618599247636949385515016786649664644554901918485927857063544442727938334477591907231858783]
noncomputable def lk : List Nat := [784655675864018113979241278807845858292561753760845529193, 784656050008437270690388338951163033661014785679576531049, 2707814360720943931819095783640134179241771245638729875692814420339388298159670741921217767742435216423604019897063301330239593, 2707814360720943931819095783640134179241771245638729875692814420339388298159670741921217767742435216423604019897063301330239593, 2707814360720943931819095783640134179241771245638729875692814420339388298159670741921217767742435216423604019897063301330239593, 784657546586113897534976579524431735134826913354500538473, 784657920730533054246123639667748910503279945273231540329, 2707814360720943931819095783640134179241771245638729875692814420339388298159670741921217767742435216423604019897063301330239593, 784658669019371367668417759954383261240186009110693544041, 784659043163790524379564820097700436608639041029424545897, 784674008940556792825447225830387451346760317778664620137, 2707814360720943931819095783640134179241771245638729875692814420339388298159670741921217767742435216423604019897063301330239593, 2707814360720943931819095783640134179241771245638729875692814420339388298159670741921217767742435216423604019897063301330239593, 784675131373814262958888406260338977452119413534857625705, 784675505518233419670035466403656152820572445453588627561, 2707814360720943931819095783640134179241771245638729875692814420339388298159670741921217767742435216423604019897063301330239593, 784655675864196519940829523792978144038742940652893372521, 784656050008615676651976583936295319407195972571624374377, 2707814360720943931819095783640134179241771245638729875692814420339388298159670741921217767742435216423604019897063301330239593, 2707814360720943931819095783640134179241771245638729875692814420339388298159670741921217767742435216423604019897063301330239593, 2707814360720943931819095783640134179241771245638729875692814420339388298159670741921217767742435216423604019897063301330239593, 784657546586292303496564824509564020881008100246548381801, 784657920730711460207711884652881196249461132165279383657, 2707814360720943931819095783640134179241771245638729875692814420339388298159670741921217767742435216423604019897063301330239593, 784658669019549773630006004939515546986367196002741387369, 784659043163968930341153065082832722354820227921472389225, 2707814360720943931819095783640134179241771245638729875692814420339388298159670741921217767742435216423604019897063301330239593, 2707814360720943931819095783640134179241771245638729875692814420339388298159670741921217767742435216423604019897063301330239593, 2707814360720943931819095783640134179241771245638729875692814420339388298159670741921217767742435216423604019897063301330239593, 784675131373992668920476651245471263198300600426905469033, 784675505518411825631623711388788438566753632345636470889, 2707814360720943931819095783640134179241771245638729875692814420339388298159670741921217767742435216423604019897063301330239593, 784655675864374925902417768778110429784924127544941215849, 784656050008794082613564828921427605153377159463672217705, 2707814360720943931819095783640134179241771245638729875692814420339388298159670741921217767742435216423604019897063301330239593, 2707814360720943931819095783640134179241771245638729875692814420339388298159670741921217767742435216423604019897063301330239593, 784657172442051552747006009351379131258736255219865223273, 784657546586470709458153069494696306627189287138596225129, 784657920730889866169300129638013481995642319057327226985, 2707814360720943931819095783640134179241771245638729875692814420339388298159670741921217767742435216423604019897063301330239593, 784658669019728179591594249924647832732548382894789230697, 784659043164147336302741310067965008101001414813520232553, 784674008940913604748623715800652022839122691562760306793, 2707814360720943931819095783640134179241771245638729875692814420339388298159670741921217767742435216423604019897063301330239593, 784674757229751918170917836087286373576028755400222310505, 784675131374171074882064896230603548944481787318953312361, 784675505518590231593211956373920724312934819237684314217, 2707814360720943931819095783640134179241771245638729875692814420339388298159670741921217767742435216423604019897063301330239593, 784655675864553331864006013763242715531105314436989059177, 784656050008972488575153073906559890899558346355720061033, 2707814360720943931819095783640134179241771245638729875692814420339388298159670741921217767742435216423604019897063301330239593, 2707814360720943931819095783640134179241771245638729875692814420339388298159670741921217767742435216423604019897063301330239593, 2707814360720943931819095783640134179241771245638729875692814420339388298159670741921217767742435216423604019897063301330239593, 784657546586649115419741314479828592373370474030644068457, 784657920731068272130888374623145767741823505949375070313, 2707814360720943931819095783640134179241771245638729875692814420339388298159670741921217767742435216423604019897063301330239593, 784658669019906585553182494909780118478729569786837074025, 784659043164325742264329555053097293847182601705568075881, 2707814360720943931819095783640134179241771245638729875692814420339388298159670741921217767742435216423604019897063301330239593, 2707814360720943931819095783640134179241771245638729875692814420339388298159670741921217767742435216423604019897063301330239593, 2707814360720943931819095783640134179241771245638729875692814420339388298159670741921217767742435216423604019897063301330239593, 784675131374349480843653141215735834690662974211001155689, 784675505518768637554800201359053010059116006129732157545, 2707814360720943931819095783640134179241771245638729875692814420339388298159670741921217767742435216423604019897063301330239593, 784655675864731737825594258748375001277286501329036902505, 784656050009150894536741318891692176645739533247767904361, 2707814360720943931819095783640134179241771245638729875692814420339388298159670741921217767742435216423604019897063301330239593, 2707814360720943931819095783640134179241771245638729875692814420339388298159670741921217767742435216423604019897063301330239593, 2707814360720943931819095783640134179241771245638729875692814420339388298159670741921217767742435216423604019897063301330239593, 784657546586827521381329559464960878119551660922691911785, 784657920731246678092476619608278053488004692841422913641, 2707814360720943931819095783640134179241771245638729875692814420339388298159670741921217767742435216423604019897063301330239593, 784658669020084991514770739894912404224910756678884917353, 784659043164504148225917800038229579593363788597615919209, 784674008941270416671800205770916594331485065346855993449, 2707814360720943931819095783640134179241771245638729875692814420339388298159670741921217767742435216423604019897063301330239593, 784674757230108730094094326057550945068391129184317997161, 784675131374527886805241386200868120436844161103048999017, 784675505518947043516388446344185295805297193021780000873, 2707814360720943931819095783640134179241771245638729875692814420339388298159670741921217767742435216423604019897063301330239593, 784655675864910143787182503733507287023467688221084745833, 784656050009329300498329563876824462391920720139815747689, 2707814360720943931819095783640134179241771245638729875692814420339388298159670741921217767742435216423604019897063301330239593, 2707814360720943931819095783640134179241771245638729875692814420339388298159670741921217767742435216423604019897063301330239593, 2707814360720943931819095783640134179241771245638729875692814420339388298159670741921217767742435216423604019897063301330239593, 784657546587005927342917804450093163865732847814739755113, 784657920731425084054064864593410339234185879733470756969, 2707814360720943931819095783640134179241771245638729875692814420339388298159670741921217767742435216423604019897063301330239593, 784658669020263397476358984880044689971091943570932760681, 784659043164682554187506045023361865339544975489663762537, 2707814360720943931819095783640134179241771245638729875692814420339388298159670741921217767742435216423604019897063301330239593, 2707814360720943931819095783640134179241771245638729875692814420339388298159670741921217767742435216423604019897063301330239593, 2707814360720943931819095783640134179241771245638729875692814420339388298159670741921217767742435216423604019897063301330239593, 784675131374706292766829631186000406183025347995096842345, 784675505519125449477976691329317581551478379913827844201, 2707814360720943931819095783640134179241771245638729875692814420339388298159670741921217767742435216423604019897063301330239593, 784655675865088549748770748718639572769648875113132589161, 784656050009507706459917808861956748138101907031863591017, 2707814360720943931819095783640134179241771245638729875692814420339388298159670741921217767742435216423604019897063301330239593, 2707814360720943931819095783640134179241771245638729875692814420339388298159670741921217767742435216423604019897063301330239593, 2707814360720943931819095783640134179241771245638729875692814420339388298159670741921217767742435216423604019897063301330239593, 784657546587184333304506049435225449611914034706787598441, 784657920731603490015653109578542624980367066625518600297, 2707814360720943931819095783640134179241771245638729875692814420339388298159670741921217767742435216423604019897063301330239593, 784658669020441803437947229865176975717273130462980604009, 784659043164860960149094290008494151085726162381711605865, 784674008941627228594976695741181165823847439130951680105, 2707814360720943931819095783640134179241771245638729875692814420339388298159670741921217767742435216423604019897063301330239593, 784674757230465542017270816027815516560753502968413683817, 784675131374884698728417876171132691929206534887144685673, 784675505519303855439564936314449867297659566805875687529, 2707814360720943931819095783640134179241771245638729875692814420339388298159670741921217767742435216423604019897063301330239593, 784655675865266955710358993703771858515830062005180432489, 784656050009686112421506053847089033884283093923911434345, 2707814360720943931819095783640134179241771245638729875692814420339388298159670741921217767742435216423604019897063301330239593, 2707814360720943931819095783640134179241771245638729875692814420339388298159670741921217767742435216423604019897063301330239593, 2707814360720943931819095783640134179241771245638729875692814420339388298159670741921217767742435216423604019897063301330239593, 784657546587362739266094294420357735358095221598835441769, 784657920731781895977241354563674910726548253517566443625, 2707814360720943931819095783640134179241771245638729875692814420339388298159670741921217767742435216423604019897063301330239593, 784658669020620209399535474850309261463454317355028447337, 784659043165039366110682534993626436831907349273759449193, 2707814360720943931819095783640134179241771245638729875692814420339388298159670741921217767742435216423604019897063301330239593, 2707814360720943931819095783640134179241771245638729875692814420339388298159670741921217767742435216423604019897063301330239593, 2707814360720943931819095783640134179241771245638729875692814420339388298159670741921217767742435216423604019897063301330239593, 784675131375063104690006121156264977675387721779192529001, 784675505519482261401153181299582153043840753697923530857, 2707814360720943931819095783640134179241771245638729875692814420339388298159670741921217767742435216423604019897063301330239593, 2707814360720943931819095783640134179241771245638729875692814420339388298159670741921217767742435216423604019897063301330239593, 784656050009864518383094298832221319630464280815959277673, 2707814360720943931819095783640134179241771245638729875692814420339388298159670741921217767742435216423604019897063301330239593, 2707814360720943931819095783640134179241771245638729875692814420339388298159670741921217767742435216423604019897063301330239593, 784657172443121988516535479262172845735823376572152283241, 784657546587541145227682539405490021104276408490883285097, 784657920731960301938829599548807196472729440409614286953, 2707814360720943931819095783640134179241771245638729875692814420339388298159670741921217767742435216423604019897063301330239593, 784658669020798615361123719835441547209635504247076290665, 2707814360720943931819095783640134179241771245638729875692814420339388298159670741921217767742435216423604019897063301330239593, 784674008941984040518153185711445737316209812915047366761, 2707814360720943931819095783640134179241771245638729875692814420339388298159670741921217767742435216423604019897063301330239593, 784674757230822353940447305998080088053115876752509370473, 784675131375241510651594366141397263421568908671240372329, 784675505519660667362741426284714438790021940589971374185, 2707814360720943931819095783640134179241771245638729875692814420339388298159670741921217767742435216423604019897063301330239593, 784655675865623767633535483674036430008192435789276119145, 784656050010042924344682543817353605376645467708007121001, 2707814360720943931819095783640134179241771245638729875692814420339388298159670741921217767742435216423604019897063301330239593, 2707814360720943931819095783640134179241771245638729875692814420339388298159670741921217767742435216423604019897063301330239593, 784657172443300394478123724247305131482004563464200126569, 784657546587719551189270784390622306850457595382931128425, 784657920732138707900417844533939482218910627301662130281, 2707814360720943931819095783640134179241771245638729875692814420339388298159670741921217767742435216423604019897063301330239593, 784658669020977021322711964820573832955816691139124133993, 784659043165396178033859024963891008324269723057855135849, 784674008942162446479741430696578023062390999807095210089, 2707814360720943931819095783640134179241771245638729875692814420339388298159670741921217767742435216423604019897063301330239593, 2707814360720943931819095783640134179241771245638729875692814420339388298159670741921217767742435216423604019897063301330239593, 784675131375419916613182611126529549167750095563288215657, 2707814360720943931819095783640134179241771245638729875692814420339388298159670741921217767742435216423604019897063301330239593, 2707814360720943931819095783640134179241771245638729875692814420339388298159670741921217767742435216423604019897063301330239593, 784655675872760006097065283079327859855439911471189852265, 784656050017179162808212343222645035223892943389920854121, 784656424161598319519359403365962210592345975308651855977, 2707814360720943931819095783640134179241771245638729875692814420339388298159670741921217767742435216423604019897063301330239593, 784657172450436632941653523652596561329252039146113859689, 784657546594855789652800583795913736697705071064844861545, 784657920739274946363947643939230912066158102983575863401, 2707814360720943931819095783640134179241771245638729875692814420339388298159670741921217767742435216423604019897063301330239593, 784658669028113259786241764225865262803064166821037867113, 784659043172532416497388824369182438171517198739768868969, 784674008949298684943271230101869452909638475489008943209, 2707814360720943931819095783640134179241771245638729875692814420339388298159670741921217767742435216423604019897063301330239593, 784674757238136998365565350388503803646544539326470946921, 784675131382556155076712410531820979014997571245201948777, 784675505526975311787859470675138154383450603163932950633, 2707814360720943931819095783640134179241771245638729875692814420339388298159670741921217767742435216423604019897063301330239593, 784655675872938412058653528064460145601621098363237695593, 784656050017357568769800588207777320970074130281968697449, 2707814360720943931819095783640134179241771245638729875692814420339388298159670741921217767742435216423604019897063301330239593, 2707814360720943931819095783640134179241771245638729875692814420339388298159670741921217767742435216423604019897063301330239593, 784657172450615038903241768637728847075433226038161703017, 784657546595034195614388828781046022443886257956892704873, 784657920739453352325535888924363197812339289875623706729, 2707814360720943931819095783640134179241771245638729875692814420339388298159670741921217767742435216423604019897063301330239593, 784658669028291665747830009210997548549245353713085710441, 784659043172710822458977069354314723917698385631816712297, 784674008949477090904859475087001738655819662381056786537, 2707814360720943931819095783640134179241771245638729875692814420339388298159670741921217767742435216423604019897063301330239593, 784674757238315404327153595373636089392725726218518790249, 784675131382734561038300655516953264761178758137249792105, 784675505527153717749447715660270440129631790055980793961, 2707814360720943931819095783640134179241771245638729875692814420339388298159670741921217767742435216423604019897063301330239593, 784655675873116818020241773049592431347802285255285538921, 784656050017535974731388833192909606716255317174016540777, 2707814360720943931819095783640134179241771245638729875692814420339388298159670741921217767742435216423604019897063301330239593, 2707814360720943931819095783640134179241771245638729875692814420339388298159670741921217767742435216423604019897063301330239593, 784657172450793444864830013622861132821614412930209546345, 784657546595212601575977073766178308190067444848940548201, 784657920739631758287124133909495483558520476767671550057, 2707814360720943931819095783640134179241771245638729875692814420339388298159670741921217767742435216423604019897063301330239593, 784658669028470071709418254196129834295426540605133553769, 784659043172889228420565314339447009663879572523864555625, 784674008949655496866447720072134024402000849273104629865, 2707814360720943931819095783640134179241771245638729875692814420339388298159670741921217767742435216423604019897063301330239593, 784674757238493810288741840358768375138906913110566633577, 784675131382912966999888900502085550507359945029297635433, 784675505527332123711035960645402725875812976948028637289, 2707814360720943931819095783640134179241771245638729875692814420339388298159670741921217767742435216423604019897063301330239593, 784655675873295223981830018034724717093983472147333382249, 784656050017714380692977078178041892462436504066064384105, 2707814360720943931819095783640134179241771245638729875692814420339388298159670741921217767742435216423604019897063301330239593, 2707814360720943931819095783640134179241771245638729875692814420339388298159670741921217767742435216423604019897063301330239593, 2707814360720943931819095783640134179241771245638729875692814420339388298159670741921217767742435216423604019897063301330239593, 784657546595391007537565318751310593936248631740988391529, 784657920739810164248712378894627769304701663659719393385, 2707814360720943931819095783640134179241771245638729875692814420339388298159670741921217767742435216423604019897063301330239593, 784658669028648477671006499181262120041607727497181397097, 784659043173067634382153559324579295410060759415912398953, 2707814360720943931819095783640134179241771245638729875692814420339388298159670741921217767742435216423604019897063301330239593, 2707814360720943931819095783640134179241771245638729875692814420339388298159670741921217767742435216423604019897063301330239593, 2707814360720943931819095783640134179241771245638729875692814420339388298159670741921217767742435216423604019897063301330239593, 784675131383091372961477145487217836253541131921345478761, 784675505527510529672624205630535011621994163840076480617, 2707814360720943931819095783640134179241771245638729875692814420339388298159670741921217767742435216423604019897063301330239593, 784655675873473629943418263019857002840164659039381225577, 784656050017892786654565323163174178208617690958112227433, 2707814360720943931819095783640134179241771245638729875692814420339388298159670741921217767742435216423604019897063301330239593, 2707814360720943931819095783640134179241771245638729875692814420339388298159670741921217767742435216423604019897063301330239593, 784657172451150256788006503593125704313976786714305233001, 784657546595569413499153563736442879682429818633036234857, 784657920739988570210300623879760055050882850551767236713, 2707814360720943931819095783640134179241771245638729875692814420339388298159670741921217767742435216423604019897063301330239593, 784658669028826883632594744166394405787788914389229240425, 784659043173246040343741804309711581156241946307960242281, 784674008950012308789624210042398595894363223057200316521, 2707814360720943931819095783640134179241771245638729875692814420339388298159670741921217767742435216423604019897063301330239593, 784674757238850622211918330329032946631269286894662320233, 784675131383269778923065390472350121999722318813393322089, 784675505527688935634212450615667297368175350732124323945, 2707814360720943931819095783640134179241771245638729875692814420339388298159670741921217767742435216423604019897063301330239593, 784655675873652035905006508004989288586345845931429068905, 784656050018071192616153568148306463954798877850160070761, 2707814360720943931819095783640134179241771245638729875692814420339388298159670741921217767742435216423604019897063301330239593, 2707814360720943931819095783640134179241771245638729875692814420339388298159670741921217767742435216423604019897063301330239593, 2707814360720943931819095783640134179241771245638729875692814420339388298159670741921217767742435216423604019897063301330239593, 784657546595747819460741808721575165428611005525084078185, 784657920740166976171888868864892340797064037443815080041, 2707814360720943931819095783640134179241771245638729875692814420339388298159670741921217767742435216423604019897063301330239593, 784658669029005289594182989151526691533970101281277083753, 784659043173424446305330049294843866902423133200008085609, 2707814360720943931819095783640134179241771245638729875692814420339388298159670741921217767742435216423604019897063301330239593, 2707814360720943931819095783640134179241771245638729875692814420339388298159670741921217767742435216423604019897063301330239593, 2707814360720943931819095783640134179241771245638729875692814420339388298159670741921217767742435216423604019897063301330239593, 784675131383448184884653635457482407745903505705441165417, 784675505527867341595800695600799583114356537624172167273, 2707814360720943931819095783640134179241771245638729875692814420339388298159670741921217767742435216423604019897063301330239593]
noncomputable def nI : Nat := 1423
noncomputable def tI : Nat := 1710
theorem ec_ok (w : World) (os : OsState) : EcOk PP 11 annV (Array.mk []) boot_drawn os w (ec w) where
  n24 := rfl
  n26 := rfl
  A := rfl
  kind := by kernel_rfl
  code := rfl
  locals := rfl
  rec27 := ⟨_, _, _, _, _, rfl, rfl, rfl, rfl, rfl, rfl, rfl⟩
  built := fun c t pos => by
    unfold builtinsFor nsGet
    refine XR.at_n (n := (1 + 0) + (1 + 0)) ?_ rfl
    refine XR_bind (a := some (.ref 4)) (h₁ := mkH (ec w).b c) (t₁ := t) (pos₁ := pos) ?_ ?_
    · refine XR_bind (XR_load (mkH_A (i := 3) (o := o3a w) rfl (by decide) rfl)) ?_
      rw [show nsLook "__builtins__" (o3a w) = pure (some (.ref 4)) by kernel_rfl]
      exact XR_pure
    · dsimp only
      rw [if_neg (by exact Bool.false_ne_true)]
      refine XR_bind (XR_load (mkH_A (i := 4) (o := boot_o_4 w.params) rfl (by decide) rfl)) ?_
      exact XR_pure
  name := fun c t pos => by
    unfold nsGet
    refine XR.at_n (n := 1 + 0) ?_ rfl
    refine XR_bind (XR_load (mkH_A (i := 3) (o := o3a w) rfl (by decide) rfl)) ?_
    rw [show nsLook "__name__" (o3a w) = pure (some pmV) by kernel_rfl]
    exact XR_pure
theorem cb_len : Nat.ble 217 cb.length = true := by decide +kernel
theorem row_is : row.map (·.1) = cb.take 214 := mkRow_fst cb nums (Nat.le_trans (by decide) (Nat.le_of_ble_eq_true cb_len))
theorem row_ok : rowOk row 29 208 = true := by decide +kernel
theorem row_chk : chk us0 0 (row.map (·.1)) ks = true := by decide +kernel
theorem row_st : ∀ x ∈ row, stB x.1 = true := List.all_eq_true.mp (show row.all (fun x => stB x.1) = true by decide +kernel)
theorem row_T : Nat.beq (rowT row 208) tI = true := by decide +kernel
theorem row_N : Nat.beq (rowN row 29) nI = true := by decide +kernel
end
end M6
namespace M6
noncomputable section
theorem cb_split : cb.take 214 ++ [cst 214, cst 215, cst 216] = cb := by
  have : cb.drop 214 = [cst 214, cst 215, cst 216] := by kernel_rfl
  rw [← this, List.take_append_drop]
theorem names_is : cenv.scope.names.map (·.1) = cb.map bindOf := by kernel_rfl
theorem names_loc : cenv.scope.names.all (fun x => x.2 == .local) = true := by decide +kernel
theorem kinds : ∀ st ∈ cb, cenv.kindOf (bindOf st) = some .local := fun st hs => lookup_local names_loc (by rw [names_is]; exact List.mem_map_of_mem hs)
theorem row_small : ∀ x ∈ row, small (bindOf x.1) = true := List.all_eq_true.mp (show row.all (fun x => small (bindOf x.1)) = true by decide +kernel)
theorem row_len : row.length = ks.length := by decide +kernel
theorem lf1 : cst 214 = lForm (cst 214) := by kernel_rfl
theorem lf2 : cst 215 = lForm (cst 215) := by kernel_rfl
theorem lf3 : cst 216 = lForm (cst 216) := by kernel_rfl
noncomputable def dbg : Nat := 784673260660103558151603359403565393192537316679948959839
theorem dbg_is : dbg = enc ("__debug__" : Str) := by kernel_rfl
theorem lc1 : chkL ks dbg (lEs (cst 214)) lk = true := by decide +kernel
theorem lc2 : chkL ks dbg (lEs (cst 215)) [] = true := by decide +kernel
theorem lc3 : chkL ks dbg (lEs (cst 216)) [] = true := by decide +kernel
noncomputable def us1 : List Nat := ks.reverse ++ us0
noncomputable def k1 : Nat := 374165114256677376805797941628899760194654742511721
noncomputable def k2 : Nat := 784675505529116182050862292951028498782043682562763653219
noncomputable def k3 : Nat := 3451062406498622282229097528363228327365908006738419574344662300754021
theorem k1_is : Nat.beq k1 (enc (bindOf (cst 214))) = true := by decide +kernel
theorem k2_is : Nat.beq k2 (enc (bindOf (cst 215))) = true := by decide +kernel
theorem k3_is : Nat.beq k3 (enc (bindOf (cst 216))) = true := by decide +kernel
theorem us_is : lastUs (row.map (·.1)) ks us0 = us1 := by kernel_rfl
theorem aw1 : awayN k1 us1 = true := by decide +kernel
theorem aw2 : awayN k2 (k1 :: us1) = true := by decide +kernel
theorem aw3 : awayN k3 (k2 :: k1 :: us1) = true := by decide +kernel
theorem tk1 : Nat.beq (lTk (lEs (cst 214)) tI) 1710 = true := by decide +kernel
theorem tk2 : Nat.beq (lTk (lEs (cst 215)) 1711) 1967 = true := by decide +kernel
theorem tk3 : Nat.beq (lTk (lEs (cst 216)) 1968) 2224 = true := by decide +kernel
theorem ln1 : Nat.ble (lEs (cst 214)).length 1000 = true := by decide +kernel
theorem ln2 : Nat.ble (lEs (cst 215)).length 1000 = true := by decide +kernel
theorem ln3 : Nat.ble (lEs (cst 216)).length 1000 = true := by decide +kernel
theorem in0 : enc (S "__module__") ∈ us0 := by decide +kernel
theorem in1 : enc (S "__qualname__") ∈ us0 := by decide +kernel
theorem in2 : enc (S "__firstlineno__") ∈ us0 := by decide +kernel
theorem I0 (w : World) : Inv us0 0 ⟨[], ns0 w, []⟩ := ⟨fun x hx => by
    rcases List.mem_cons.mp hx with rfl | hx
    · exact ⟨_, _, rfl, in0⟩
    · rcases List.mem_cons.mp hx with rfl | hx
      · exact ⟨_, _, rfl, in1⟩
      · obtain rfl := List.mem_singleton.mp hx
        exact ⟨_, _, rfl, in2⟩, fun x hx => nomatch hx⟩
theorem cb_row : row.map (·.1) ++ [cst 214, cst 215, cst 216] = cb := by rw [row_is]; exact cb_split
noncomputable abbrev T1 : Nat := 1710
noncomputable abbrev T2 : Nat := 1967
noncomputable abbrev T3 : Nat := 2224
noncomputable def objF (w : World) : List Obj := objG (ec w) w (ns0 w) row (cst 214) (cst 215) (cst 216) tI T1 T2 nI
noncomputable def nsF (w : World) : List DictEntry := nsD w (ns0 w) row (cst 214) (cst 215) (cst 216) T1 T2 T3 nI
theorem body_run (w : World) (os : OsState) : XR PP 11 annV (Array.mk []) boot_drawn os w (stepsG row (cst 214) (cst 215) (cst 216)) (execs cb (ec w).env) (mkH (ec w).b ⟨[], ns0 w, []⟩) 208 p109 .next (mkH (ec w).b ⟨objF w, nsF w, rPl row⟩) (T3 + 1) (endOf (cst 216)) :=
  body_gen (lk := lk) (ec_ok w os) (I0 w) cb_row kinds row_ok row_chk row_st (Nat.eq_of_beq_eq_true row_T) (Nat.eq_of_beq_eq_true row_N) row_small row_len lf1 lf2 lf3 dbg_is lc1 lc2 lc3 us_is k1_is k2_is k3_is aw1 aw2 aw3 (Nat.eq_of_beq_eq_true tk1) (Nat.eq_of_beq_eq_true tk2) (Nat.eq_of_beq_eq_true tk3) (Nat.le_of_ble_eq_true ln1) (Nat.le_of_ble_eq_true ln2) (Nat.le_of_ble_eq_true ln3)
end
end M6
namespace M6
noncomputable section
noncomputable def LB (w : World) : List Obj := A109 w ++ (nsObj (nsF w) :: o25 :: plObj (rPl row) :: o27 :: o28 :: objF w)
noncomputable def SB (w : World) (os : OsState) : SharedT := ⟨btOf 11 (LB w), nI + 3, (boot_heap w.params).life, Array.mk [], boot_drawn, T3 + 1, os⟩
noncomputable def thB (w : World) (os : OsState) : Thread := ⟨doneF .next, .body cb cenv, endOf (cst 216), fr1 w os :: (stk w os).tail⟩
noncomputable def noQ : List DictEntry → List DictEntry
  | a :: _ :: r => a :: r
  | l => l
noncomputable def o3F (w : World) : Obj := ⟨(.type "dict"), none, .dict #[⟨h w (S "__name__"), .str (S "__name__") 165, (.str (S "law_me0006_01") 2249)⟩, ⟨h w (S "__doc__"), .str (S "__doc__") 166, .none⟩, ⟨h w (S "__package__"), .str (S "__package__") 167, .none⟩, ⟨h w (S "__loader__"), .str (S "__loader__") 168, (.builtin "__main__.__loader__#opaque")⟩, ⟨h w (S "__spec__"), .str (S "__spec__") 169, .none⟩, ⟨h w (S "__annotations__"), .str (S "__annotations__") 170, (.ref 6)⟩, ⟨h w (S "__builtins__"), .str (S "__builtins__") 171, (.ref 4)⟩, ⟨h w (S "__file__"), .str (S "__file__") 173, (.str (S "/claim/cut.py") 172)⟩, ⟨h w (S "__cached__"), .str (S "__cached__") 174, .none⟩, ⟨h w (S "_wall"), .str (S "_wall") 193, (.ref 21)⟩, ⟨h w (S "MPU"), .str (S "MPU") 2248, (.ref 1428)⟩, ⟨h w (S "_law_plan"), .str (S "_law_plan") 2264, (.ref 1439)⟩, ⟨h w (S "_law_run"), .str (S "_law_run") 2278, (.ref 1446)⟩, ⟨h w (S "_law_compile"), .str (S "_law_compile") 2296, (.ref 1453)⟩, ⟨h w (S "law"), .str (S "law") 2302, (.ref 1458)⟩] 15, #[]⟩
noncomputable def o12F : Obj := ⟨.none, none, .fields #[(.int 1 0), (.int 0 0), (.ref 20), (.int 5 0), (.int 0 0), (.ref 27), (.int 1031 0), (.int 0 0), (.ref 1438), (.int 1047 0), (.int 0 0), (.ref 1445), (.int 1068 0), (.int 0 0), (.ref 1452), (.int 1092 0), (.int 0 0), (.ref 1457)], #[]⟩
noncomputable def eS (w : World) : DictEntry := ⟨h w (S "__static_attributes__"), .str (S "__static_attributes__") 2241, (.ref 1426)⟩
noncomputable def o1427 (w : World) : Obj := ⟨.type "dict", none, .dict (noQ (nsF w) ++ eS w :: [⟨h w (S "__dict__"), .str (S "__dict__") 2243, (.ref 1429)⟩, ⟨h w (S "__weakref__"), .str (S "__weakref__") 2245, (.ref 1430)⟩, ⟨h w (S "__doc__"), .str (S "__doc__") 2246, .none⟩]).toArray 4, #[]⟩
noncomputable def o1426 : Obj := ⟨(.type "tuple"), none, .seq #[(.str (S "a") 2225), (.str (S "addcycles") 2226), (.str (S "addrHighMask") 2227), (.str (S "addrMask") 2228), (.str (S "byteMask") 2229), (.str (S "excycles") 2230), (.str (S "memory") 2231), (.str (S "name") 2232), (.str (S "p") 2233), (.str (S "pc") 2234), (.str (S "processorCycles") 2235), (.str (S "sp") 2236), (.str (S "spBase") 2237), (.str (S "start_pc") 2238), (.str (S "x") 2239), (.str (S "y") 2240)] 0, #[]⟩
noncomputable def o1428 : Obj := ⟨(.type "type"), none, .cls { name := (S "MPU"), bases := [(.type "object")], mro := [(.ref 1428), (.type "object")], ns := 1427, qualname := (S "MPU"), hasDict := true, slotNames := [], subclasses := [], abstract := false, collection := none, hasDel := false }, #[none, none, some (.str (S "MPU") 196), some (.str (S "MPU") 204), some (.builtin "object.__new__"), some (.bool true)]⟩
noncomputable def o1429 : Obj := ⟨(.type "getset_descriptor"), none, .fields #[(.str (S "__dict__") 2242), (.ref 1428), (.builtin "function.__dict__"), (.builtin "function.__dict__#set")], #[]⟩
noncomputable def o1430 : Obj := ⟨(.type "getset_descriptor"), none, .fields #[(.str (S "__weakref__") 2244), (.ref 1428), (.builtin "ExceptionGroup.__weakref__"), .none], #[]⟩
noncomputable def o1431 : Obj := ⟨(.type "super"), none, .fields #[(.ref 1428), (.ref 1428), (.ref 1428)], #[]⟩
noncomputable def o1432 : Obj := ⟨(.type "builtin_function_or_method"), none, .fields #[(.builtin "object.__init_subclass__"), (.ref 1428)], #[]⟩
noncomputable def o1433 : Obj := ⟨(.type "tuple"), none, .seq #[] 0, #[]⟩
noncomputable def o1434 : Obj := ⟨.none, none, .fields #[], #[]⟩
noncomputable def o1435 : Obj := ⟨(.type "tuple"), none, .seq #[(.str (S "signs") 2254), (.str (S "inside") 2255), (.str (S "number") 2256), (.str (S "kind") 2257), (.str (S "one") 2258), (.str (S "two") 2259), (.str (S "body") 2260), (.str (S "rest") 2261)] 0, #[]⟩
noncomputable def o1436 : Obj := ⟨(.type "tuple"), none, .seq #[] 0, #[]⟩
noncomputable def o1437 : Obj := ⟨.none, none, .func { name := (S "_law_plan"), qualname := (S "_law_plan"), params := sArgs (pst 4), body := .stmts (sBody (pst 4)), scope := sScope (pst 4), globals := 0, closure := [], defaults := .none, kwdefaults := .none, doc := .none, pyModule := .none, annotations := none, code := .none, closureTuple := .none, builtins := 0 }, #[]⟩
noncomputable def o1438 : Obj := ⟨(.type "code"), none, .fields #[(.str (S "_law_plan") 2251), (.str (S "_law_plan") 2252), (.str (S "/claim/cut.py") 2253), (.int 1031 0), (.int 2 0), (.int 0 0), (.int 0 0), (.int 3 0), (.ref 1433), (.bool true), (.int 181 0), (.ref 1434), .none, (.ref 1435), (.ref 1436), (.ref 1437), (.int 2262 0), (.int 1031 0), (.str (S "/claim/cut.py") 2263)], #[]⟩
noncomputable def o1439 : Obj := ⟨(.type "function"), none, .func { name := (S "_law_plan"), qualname := (S "_law_plan"), params := sArgs (pst 4), body := .stmts (sBody (pst 4)), scope := sScope (pst 4), globals := 3, closure := [], defaults := .none, kwdefaults := .none, doc := .none, pyModule := (.str (S "law_me0006_01") 2249), annotations := none, code := (.ref 1438), closureTuple := .none, builtins := 0 }, #[]⟩
noncomputable def o1440 : Obj := ⟨(.type "tuple"), none, .seq #[] 0, #[]⟩
noncomputable def o1441 : Obj := ⟨.none, none, .fields #[], #[]⟩
noncomputable def o1442 : Obj := ⟨(.type "tuple"), none, .seq #[(.str (S "plan") 2268), (.str (S "held") 2269), (.str (S "kind") 2270), (.str (S "one") 2271), (.str (S "two") 2272), (.str (S "more") 2273), (.str (S "whole") 2274), (.str (S "turn") 2275)] 0, #[]⟩
noncomputable def o1443 : Obj := ⟨(.type "tuple"), none, .seq #[] 0, #[]⟩
noncomputable def o1444 : Obj := ⟨.none, none, .func { name := (S "_law_run"), qualname := (S "_law_run"), params := sArgs (pst 5), body := .stmts (sBody (pst 5)), scope := sScope (pst 5), globals := 0, closure := [], defaults := .none, kwdefaults := .none, doc := .none, pyModule := .none, annotations := none, code := .none, closureTuple := .none, builtins := 0 }, #[]⟩
noncomputable def o1445 : Obj := ⟨(.type "code"), none, .fields #[(.str (S "_law_run") 2265), (.str (S "_law_run") 2266), (.str (S "/claim/cut.py") 2267), (.int 1047 0), (.int 2 0), (.int 0 0), (.int 0 0), (.int 3 0), (.ref 1440), (.bool true), (.int 181 0), (.ref 1441), .none, (.ref 1442), (.ref 1443), (.ref 1444), (.int 2276 0), (.int 1047 0), (.str (S "/claim/cut.py") 2277)], #[]⟩
noncomputable def o1446 : Obj := ⟨(.type "function"), none, .func { name := (S "_law_run"), qualname := (S "_law_run"), params := sArgs (pst 5), body := .stmts (sBody (pst 5)), scope := sScope (pst 5), globals := 3, closure := [], defaults := .none, kwdefaults := .none, doc := .none, pyModule := (.str (S "law_me0006_01") 2249), annotations := none, code := (.ref 1445), closureTuple := .none, builtins := 0 }, #[]⟩
noncomputable def o1447 : Obj := ⟨(.type "tuple"), none, .seq #[] 0, #[]⟩
noncomputable def o1448 : Obj := ⟨.none, none, .fields #[], #[]⟩
noncomputable def o1449 : Obj := ⟨(.type "tuple"), none, .seq #[(.str (S "plan") 2282), (.str (S "code") 2283), (.str (S "calls") 2284), (.str (S "base") 2285), (.str (S "kind") 2286), (.str (S "one") 2287), (.str (S "two") 2288), (.str (S "more") 2289), (.str (S "place") 2290), (.str (S "octet") 2291), (.str (S "hole") 2292), (.str (S "again") 2293)] 0, #[]⟩
noncomputable def o1450 : Obj := ⟨(.type "tuple"), none, .seq #[] 0, #[]⟩
noncomputable def o1451 : Obj := ⟨.none, none, .func { name := (S "_law_compile"), qualname := (S "_law_compile"), params := sArgs (pst 6), body := .stmts (sBody (pst 6)), scope := sScope (pst 6), globals := 0, closure := [], defaults := .none, kwdefaults := .none, doc := .none, pyModule := .none, annotations := none, code := .none, closureTuple := .none, builtins := 0 }, #[]⟩
noncomputable def o1452 : Obj := ⟨(.type "code"), none, .fields #[(.str (S "_law_compile") 2279), (.str (S "_law_compile") 2280), (.str (S "/claim/cut.py") 2281), (.int 1068 0), (.int 4 0), (.int 0 0), (.int 0 0), (.int 3 0), (.ref 1447), (.bool true), (.int 181 0), (.ref 1448), .none, (.ref 1449), (.ref 1450), (.ref 1451), (.int 2294 0), (.int 1068 0), (.str (S "/claim/cut.py") 2295)], #[]⟩
noncomputable def o1453 : Obj := ⟨(.type "function"), none, .func { name := (S "_law_compile"), qualname := (S "_law_compile"), params := sArgs (pst 6), body := .stmts (sBody (pst 6)), scope := sScope (pst 6), globals := 3, closure := [], defaults := .none, kwdefaults := .none, doc := .none, pyModule := (.str (S "law_me0006_01") 2249), annotations := none, code := (.ref 1452), closureTuple := .none, builtins := 0 }, #[]⟩
noncomputable def o1454 : Obj := ⟨(.type "tuple"), none, .seq #[] 0, #[]⟩
noncomputable def o1455 : Obj := ⟨.none, none, .fields #[], #[]⟩
noncomputable def o1456 : Obj := ⟨.none, none, .func { name := (S "law"), qualname := (S "law"), params := sArgs (pst lawI), body := .stmts (sBody (pst lawI)), scope := sScope (pst lawI), globals := 0, closure := [], defaults := .none, kwdefaults := .none, doc := .none, pyModule := .none, annotations := none, code := .none, closureTuple := .none, builtins := 0 }, #[]⟩
noncomputable def o1457 : Obj := ⟨(.type "code"), none, .fields #[(.str (S "law") 2297), (.str (S "law") 2298), (.str (S "/claim/cut.py") 2299), (.int 1092 0), (.int 1 0), (.int 0 0), (.int 0 0), (.int 3 0), (.ref 1454), (.bool true), (.int 181 0), (.ref 1455), .none, .none, .none, (.ref 1456), (.int 2300 0), (.int 1092 0), (.str (S "/claim/cut.py") 2301)], #[]⟩
noncomputable def o1458 : Obj := ⟨(.type "function"), none, .func { name := (S "law"), qualname := (S "law"), params := sArgs (pst lawI), body := .stmts (sBody (pst lawI)), scope := sScope (pst lawI), globals := 3, closure := [], defaults := .none, kwdefaults := .none, doc := .none, pyModule := (.str (S "law_me0006_01") 2249), annotations := none, code := (.ref 1457), closureTuple := .none, builtins := 0 }, #[]⟩
noncomputable def LN (w : World) : List Obj := [o1426, o1427 w, o1428, o1429, o1430, o1431, o1432, o1433, o1434, o1435, o1436, o1437, o1438, o1439, o1440, o1441, o1442, o1443, o1444, o1445, o1446, o1447, o1448, o1449, o1450, o1451, o1452, o1453, o1454, o1455, o1456, o1457, o1458]
noncomputable def AF (w : World) : List Obj := [boot_o_0 w.params, boot_o_1 w.params, boot_o_2 w.params, o3F w, boot_o_4 w.params, boot_o_5 w.params, boot_o_6 w.params, boot_o_7 w.params, boot_o_8 w.params, boot_o_9 w.params, boot_o_10 w.params, o11, o12F, o13, o14, o15, o16, o17, o18, o19, o20, o21, o22, o23]
noncomputable def LF (w : World) : List Obj := AF w ++ (nsObj (nsF w ++ [eS w]) :: o25 :: plObj (rPl row) :: o27 :: o28 :: (objF w ++ LN w))
noncomputable def SF (w : World) (os : OsState) : SharedT := ⟨btOf 11 (LF w), 1459, (boot_heap w.params).life, Array.mk [], boot_drawn, 2303, os⟩
theorem fin_is (w : World) (os : OsState) : (PySem.W.Fast.tw10110043849684766642 PySem.W.Fast.tw14364793385576792824 PP w 11 annV 0 497 (SB w os) (thB w os)).map (fun r => r.2.1) = some (SF w os) := by kernel_rfl
end
end M6
namespace M6
noncomputable section
theorem seg_topRun {tb : String → Option Builtin} {p : Program} {w : World} {n₀ : Nat} {ann : Option Value} : ∀ (n : Nat) (s : Shared) (t : Thread) (r : Flow × Shared × Code × Pos), segRun tb p w n₀ ann 0 n s t = some r → topRun tb p w n₀ ann n s t = some r.2.1
  | 0, _, _, _, h => by cases h
  | n + 1, s, t, r, h => by
    unfold segRun at h
    unfold topRun
    have key : through t = (endAt 0 t).isSome := by
      unfold through endAt
      cases t with
      | mk cur code pos stack =>
        cases stack with
        | nil =>
          cases cur with
          | pure f => cases f <;> rfl
          | _ => rfl
        | cons a b => rfl
    rw [key]
    cases he : endAt 0 t with
    | some f => rw [he] at h; cases h; rfl
    | none =>
      rw [he] at h
      dsimp only [Option.isSome] at h ⊢
      cases hk : stepOk n₀ ann t with
      | false => rw [hk] at h; cases h
      | true =>
        rw [hk] at h
        cases hs : step (denote tb) p w s t with
        | halt o s₂ => rw [hs] at h; cases h
        | go s₂ t₂ => rw [hs] at h; exact seg_topRun n s₂ t₂ r h
theorem L0_heap (w : World) : absHeap (btOf 4 (L0 w)) 11 (boot_heap w.params).life = boot_heap w.params := by
  have := absHeap_btOf (k := 4) (l := L0 w) (life := (boot_heap w.params).life) (by decide : 11 < 2 ^ 4)
  exact this.trans rfl
theorem L109_heap (w : World) : absHeap (btOf 5 (L109 w)) 29 (boot_heap w.params).life = mkH (bs w) ⟨[], ns0 w, []⟩ := by
  have := absHeap_btOf (k := 5) (l := L109 w) (life := (boot_heap w.params).life) (by decide : 29 < 2 ^ 5)
  exact this.trans rfl
theorem objF_len (w : World) : (objF w).length = (rObjs (ec w) row).length + 3 := by
  unfold objF objG
  simp only [List.length_append, List.length_singleton]
theorem rObjs_len (w : World) : 29 + (rObjs (ec w) row).length = nI := (rowN_is row 29 208 row_ok row_st).trans (Nat.eq_of_beq_eq_true row_N)
theorem A109_len (w : World) : (A109 w).length = 24 := rfl
theorem LB_len (w : World) : (LB w).length = nI + 3 := by
  unfold LB
  rw [List.length_append, A109_len]
  simp only [List.length_cons]
  rw [objF_len]
  have := rObjs_len w
  omega
theorem LB_heap (w : World) : absHeap (btOf 11 (LB w)) (nI + 3) (boot_heap w.params).life = mkH (bs w) ⟨objF w, nsF w, rPl row⟩ := by
  have := absHeap_btOf (k := 11) (l := LB w) (life := (boot_heap w.params).life) (by rw [LB_len]; decide)
  rw [LB_len] at this
  exact this
theorem start_no : blockStart cb cenv = pure () := by kernel_rfl
theorem body_tree : denote treeTable (.body cb cenv) = (execs cb cenv).wrap doneF (leaveH cenv) id id := by
  rw [body_wrap, start_no]
  rfl
noncomputable def stepsT : Nat := 109 + (stepsG row (cst 214) (cst 215) (cst 216) + 497)
theorem run_all (w : World) (os : OsState) : topRun treeTable PP w 11 annV stepsT ⟨boot_heap w.params, Array.mk [], boot_drawn, boot_toks, os⟩ (topStub PP) = some (SF w os).abs := by
  have g1 : segGoT treeTable PP w 11 annV 0 109 (S0 w os) (topStub PP) = some (S109 w os, ⟨denote treeTable (.body cb cenv), .body cb cenv, p109, fr1 w os :: (stk w os).tail⟩) := by
    rw [PySem.W.Fast.te10295753902157049106, PySem.W.Fast.te14364793385576792824, PySem.W.Fast.te11892475500146522536]
    exact go109_is w os
  have r1 := Rn.go (segGo_of g1)
  have e0 : (S0 w os).abs = ⟨boot_heap w.params, Array.mk [], boot_drawn, boot_toks, os⟩ := by
    show (⟨absHeap (btOf 4 (L0 w)) 11 (boot_heap w.params).life, Array.mk [], boot_drawn, boot_toks, os⟩ : Shared) = _
    rw [L0_heap]
  have e1 : (S109 w os).abs = ⟨mkH (bs w) ⟨[], ns0 w, []⟩, Array.mk [], boot_drawn, 208, os⟩ := by
    show (⟨absHeap (btOf 5 (L109 w)) 29 (boot_heap w.params).life, Array.mk [], boot_drawn, 208, os⟩ : Shared) = _
    rw [L109_heap]
  have e2 : (SB w os).abs = ⟨mkH (bs w) ⟨objF w, nsF w, rPl row⟩, Array.mk [], boot_drawn, T3 + 1, os⟩ := by
    show (⟨absHeap (btOf 11 (LB w)) (nI + 3) (boot_heap w.params).life, Array.mk [], boot_drawn, T3 + 1, os⟩ : Shared) = _
    rw [LB_heap]
  rw [e0, e1, body_tree] at r1
  have r2 := (body_run w os).run doneF (leaveH cenv) id id (.body cb cenv) (fr1 w os) (stk w os).tail
  obtain ⟨r, h3, h4⟩ := Option.map_eq_some_iff.mp (fin_is w os)
  have g3 : segRunT treeTable PP w 11 annV 0 497 (SB w os) (thB w os) = some r := by
    rw [PySem.W.Fast.te10110043849684766642, PySem.W.Fast.te14364793385576792824]
    exact h3
  obtain ⟨f, s', c, q⟩ := r
  dsimp only at h4
  subst h4
  have g4 := segRun_of g3
  rw [e2] at g4
  have z := (r1.trans r2) 497 _ g4
  rw [Nat.add_assoc] at z
  exact seg_topRun _ _ _ _ z
noncomputable def wOf (P : Params) : World := ⟨fun _ _ => 0, P⟩
theorem LF_wOf (w : World) : LF (wOf w.params) = LF w := by kernel_rfl
noncomputable def HF (P : Params) : Heap := ⟨(LF (wOf P)).toArray, (boot_heap P).life⟩
theorem LF_len (w : World) : (LF w).length = 1459 := by
  have h1 : (AF w).length = 24 := rfl
  have h2 : (LN w).length = 33 := rfl
  have h3 := rObjs_len w
  have h4 : nI = 1423 := rfl
  unfold LF
  rw [List.length_append, h1]
  simp only [List.length_cons, List.length_append]
  rw [objF_len, h2]
  omega
theorem SF_abs (w : World) (os : OsState) : (SF w os).abs = ⟨HF w.params, Array.mk [], boot_drawn, 2303, os⟩ := by
  show (⟨absHeap (btOf 11 (LF w)) 1459 (boot_heap w.params).life, Array.mk [], boot_drawn, 2303, os⟩ : Shared) = _
  have := absHeap_btOf (k := 11) (l := LF w) (life := (boot_heap w.params).life) (by rw [LF_len]; decide)
  rw [LF_len] at this
  rw [this, ← LF_wOf]
  rfl
theorem open_ok : opening PP = plainProg PP.main.scope.names := by kernel_rfl
theorem fence_ok (s : Shared) : fenceModules? PP s = some s := by kernel_rfl
noncomputable def NN : Nat := 20000
theorem open_is : ∀ w : World, (fencedOpening treeTable PP w NN).map (fun s => (s.heap, s.gens, s.drawn, s.toks)) = some (boot_heap w.params, Array.mk [], boot_drawn, boot_toks) := boot_open open_ok rfl fence_ok
theorem size_is (w : World) : ((boot_heap w.params).isNs mainGlobals && (Array.mk [] : Array GenState).size == 0, (boot_heap w.params).objs.size, (boot_heap w.params).nsMap mainGlobals "__annotations__") = (true, 11, annV) := by kernel_rfl
theorem le_is : Nat.ble stepsT NN = true := by decide +kernel
end
end M6
namespace M6
noncomputable section
noncomputable def qq : Program := { PP with main := { PP.main with body := [pst 7] } }
noncomputable def loo : List Str := [S "_wall", S "MPU", S "_law_plan", S "_law_run", S "_law_compile"]
noncomputable abbrev SX (P : Params) (os : OsState) : Shared := ⟨HF P, Array.mk [], boot_drawn, 2303, os⟩
theorem k1a (P : Params) : staticsOk (importedModules PP.main.body) (boot_heap P) (HF P) = true := by kernel_rfl
theorem k1b (P : Params) : namesBound PP (HF P) = true := by kernel_rfl
theorem k1c (P : Params) (os : OsState) : gensDone (SX P os) = true := by kernel_rfl
theorem k1d (P : Params) : laidKept (boot_heap P) (HF P) = true := by kernel_rfl
end
end M6
namespace M6
noncomputable section
noncomputable abbrev Xt : Shared → Bool := fun _ => true
theorem ka (P : Params) (os : OsState) : seen ((recsOf qq).map (·.name)) (ownsOf qq) [] { SX P os with gens := #[] } = expectedOf qq := by
  rw [PySem.W.Fast.te5160383126252970620]; kernel_rfl
theorem kb (P : Params) : (HF P).bltView = bltViewBooted := by kernel_rfl
theorem kc (P : Params) (os : OsState) : ((HF P).keysOk (looseW qq loo) ((recsOf qq).map (·.name)) ((litsOf qq).map (·.1)) ((clssOf qq (looseW qq loo)).map (·.name)) && (HF P).accountedOkI (importedModules PP.main.body) && (HF P).isNs mainGlobals && (HF P).isNs builtinsNs && tablesOk qq (HF P) && Xt (SX P os) && (if true then (SX P os).gens.size == 0 else !leftWithCleanup (SX P os).gens)) = true := by
  kernel_rfl
theorem kd (P : Params) (os : OsState) : tabsOk qq (SX P os) = true := by kernel_rfl
theorem ke (P : Params) (os : OsState) : pinSeenD qq (drecsOf qq) (SX P os) = pinGoodD (drecsOf qq) := by kernel_rfl
theorem kf (P : Params) (os : OsState) : plainSeenE qq (looseW qq loo) (SX P os) = plainGoodE qq (looseW qq loo) := by kernel_rfl
theorem kg (P : Params) (os : OsState) : plainSeenD qq loo (SX P os) = plainGoodD qq loo := by kernel_rfl
theorem kh (P : Params) (os : OsState) : wideSeen qq (SX P os) = wideGood qq := by kernel_rfl
theorem ki (P : Params) (os : OsState) : clsSeenW qq loo (SX P os) = clsGoodW qq loo := by kernel_rfl
end
end M6
namespace M6
noncomputable section
theorem left : LeftO PP qq loo Xt (fun s => s.heap) (fun w => HF w.params) NN :=
  LeftO.of_pieces open_is size_is (fun w os => (run_all w os).trans (congrArg some (SF_abs w os))) le_is fun w => funext fun os =>
    looks_pair (look_both (look_both (look_both (k1a w.params) (k1b w.params)) (k1c w.params os)) (k1d w.params))
      (looks_pair (looks_pair (ka w.params os) (looks_pair (kb w.params) (looks_pair (kc w.params os) (looks_pair (kd w.params os) (looks_pair (ke w.params os) (looks_pair (kf w.params os) (looks_pair (kg w.params os) (looks_pair (kh w.params os) (ki w.params os))))))))) rfl)
end
end M6
namespace M6
theorem said_all : PySem.Challenge.rw_me0006_01.wellSaid = true := by
  rw [PySem.W.Fast.te9446332074065402090]
  decide +kernel
end M6
namespace M6
theorem tw_all : PP.tablesWhole = true := by
  unfold Program.tablesWhole TablesWhole.wProgram
  rw [PySem.W.Fast.te6116379765354995101]
  decide +kernel
end M6
namespace M6
noncomputable section
abbrev RL : OpenLaw := PySem.Challenge.rw_me0006_01
noncomputable def sPos : Stmt → Pos
  | .FunctionDef _ _ _ _ _ _ _ _ _ q => q
  | _ => default
noncomputable abbrev YP (w : World) (h : Heap) : Prop := ∀ b o, (HF w.params).get? b = some o → h.get? b = some o
noncomputable def dL : DefRec := ⟨S "law", sArgs (pst 7), sBody (pst 7), sScope (pst 7), sPos (pst 7)⟩
theorem def_is : defOf qq RL.row.name = some (dL, []) := by kernel_rfl
theorem bare_is : RL.row.prog.bare := ⟨rfl, rfl, rfl, rfl, rfl, tw_all⟩
theorem holds_of_walk (hw : RL.row.toRowW.promised) (walk : WalkO qq loo (fun _ _ => True) YP RL.row.toRowW dL [] fun f vs => PySem.call f vs) : RL.Holds :=
  holds_law said_all fun said => holds_open (q := qq) (loose := loo) (Xt := Xt) (XP := fun _ _ => True) (Yf := fun s => s.heap) (Ya := fun w => HF w.params) (YP := YP) (N := NN) (d := dL) (kwd := []) left
    (fun w s e b o h => by rw [show s.heap = HF w.params from e]; exact h) (fun w h h' y k b o e => k b o (y b o e)) (fun _ _ => trivial) (fun _ _ _ _ _ => trivial) def_is (by kernel_rfl) (by kernel_rfl) (fun s _ => recFacts_nil rfl) rfl said (by decide +kernel) bare_is hw walk
end
end M6
namespace VE
open M6
/-- How an object is made. -/
structure InitOk (G : Gl nm Z1) : Prop where
  D : FnOk G 36 [0, 9, 11] (sName (cst 15)) ("MPU." ++ sName (cst 15)) (sArgs (cst 15)) (sBody (cst 15)) (sScope (cst 15)) (.ref 29) .none .none (.str "py65.devices.mpu6502" 194) (.ref 35) .none (.type "function") none none #[]
  O : NewOk G
  i : findIn G.K (.ref G.C) "__init__" = some (some (.ref 36))
  f : isFn G.K (.ref 36) = true
  g : nsIn G.K mainGlobals (Str.ofString "MPU") = some (some (.ref G.C))
  b : ∀ (s : Shared) v vs, G.K.In s.heap → vs.length + 1 = [0, 9, 11].length → BindsTo s (fnOf (sName (cst 15)) ("MPU." ++ sName (cst 15)) (sArgs (cst 15)) (sBody (cst 15)) (sScope (cst 15)) (.ref 29) .none .none (.str "py65.devices.mpu6502" 194) none (.ref 35) .none) ⟨[v], [Str.ofString "memory", Str.ofString "pc"].zip vs⟩ (([0, 9, 11].map nm).zip (v :: vs))
@[irreducible] noncomputable def w__law_plan : WX := (wSeq (wIf (wNotT (wTru (wName 127))) (wSeq (wRet (wTup (wAc (wTup (wAc (wInt 8) (wAc (wInt 0) (wAc (wInt 0) (wAc wNone wA0))))) (wAc (wFrz (wList wA0)) wA0)))) wNil) wNil) (wSeq (wAsg 130 (wSub (wName 127) (wInt 0))) (wSeq (wAsg 131 (wBin .Mod (wName 130) (wInt 8))) (wSeq (wAsg 132 (wBin .Mod (wBin .FloorDiv (wName 130) (wInt 8)) (wInt 4))) (wSeq (wAsg 133 (wBin .Mod (wBin .FloorDiv (wName 130) (wInt 32)) (wInt 4))) (wSeq (wIf (wCmpT .Eq (wName 131) (wInt 6)) (wSeq (wAsT 2 (wFrz (wCall 1439 (wAc (wFrz (wSli (wName 127) (wP (wInt 1)) wP0)) (wAc (wName 128) wA0)))) (wTc (wTN 134) (wTc (wTN 135) wT0))) (wSeq (wRet (wTup (wAc (wTup (wAc (wInt 6) (wAc (wName 132) (wAc (wName 133) (wAc (wName 134) wA0))))) (wAc (wName 135) wA0)))) wNil)) wNil) (wSeq (wIf (wAndT (wCmpT .Eq (wName 131) (wInt 7)) (wAndT (wNotT (wTru (wName 128))) wTT)) (wSeq (wAsT 2 (wFrz (wCall 1439 (wAc (wFrz (wSli (wName 127) (wP (wInt 1)) wP0)) (wAc (wBool true) wA0)))) (wTc (wTN 134) (wTc (wTN 135) wT0))) (wSeq (wRet (wTup (wAc (wTup (wAc (wInt 7) (wAc (wBin .Add (wInt 2) (wBin .Mod (wName 132) (wInt 2))) (wAc (wInt 0) (wAc (wName 134) wA0))))) (wAc (wName 135) wA0)))) wNil)) wNil) (wSeq (wIf (wCmpT .Eq (wName 131) (wInt 7)) (wSeq (wAsg 131 (wInt 1)) wNil) wNil) (wSeq (wRet (wTup (wAc (wTup (wAc (wName 131) (wAc (wName 132) (wAc (wName 133) (wAc (wBin .Mod (wBin .Mult (wInt 2654435761) (wBin .FloorDiv (wName 130) (wInt 32))) (wBin .Pow (wInt 2) (wInt 32))) wA0))))) (wAc (wFrz (wSli (wName 127) (wP (wInt 1)) wP0)) wA0)))) wNil)))))))))
theorem s__law_plan {G : Gl nm Z1} : SB G (sScope (pst 4)) (sBody (pst 4)) w__law_plan := by unfold w__law_plan; refine SB_cons ?_ ?_; refine SX_if ?_ ?_ ?_; refine ST_not ?_; refine ST_of ?_ ?_; refine SE_name (n := 127) ?_; exact rfl; exact (fun _ => rfl); refine SB_cons ?_ ?_; refine SX_ret ?_; refine SE_tup ?_; refine SA_cons ?_ ?_ ?_; refine SE_tup ?_; refine SA_cons ?_ ?_ ?_; exact SE_int; refine SA_cons ?_ ?_ ?_; exact SE_int; refine SA_cons ?_ ?_ ?_; exact SE_int; refine SA_cons ?_ ?_ ?_; exact SE_none; exact SA_nil; exact (fun _ => rfl); exact (fun _ => rfl); exact (fun _ => rfl); exact (fun _ => rfl); refine SA_cons ?_ ?_ ?_; refine SE_frz ?_; refine S0_list ?_; exact SA_nil; exact SA_nil; exact (fun _ => rfl); exact (fun _ => rfl); exact SB_nil; exact SB_nil; refine SB_cons ?_ ?_; refine SX_asg (n := 130) ?_ ?_ ?_ ?_; refine SE_sub ?_ ?_ ?_; refine SE_name (n := 127) ?_; exact rfl; exact SE_int; exact (fun _ _ => rfl); exact rfl; exact (.inl (by kernel_rfl)); exact (fun _ => rfl); refine SB_cons ?_ ?_; refine SX_asg (n := 131) ?_ ?_ ?_ ?_; refine SE_bin ?_ ?_; refine SE_name (n := 130) ?_; exact rfl; exact SE_int; exact rfl; exact (.inl (by kernel_rfl)); exact (fun _ => rfl); refine SB_cons ?_ ?_; refine SX_asg (n := 132) ?_ ?_ ?_ ?_; refine SE_bin ?_ ?_; refine SE_bin ?_ ?_; refine SE_name (n := 130) ?_; exact rfl; exact SE_int; exact SE_int; exact rfl; exact (.inl (by kernel_rfl)); exact (fun _ => rfl); refine SB_cons ?_ ?_; refine SX_asg (n := 133) ?_ ?_ ?_ ?_; refine SE_bin ?_ ?_; refine SE_bin ?_ ?_; refine SE_name (n := 130) ?_; exact rfl; exact SE_int; exact SE_int; exact rfl; exact (.inl (by kernel_rfl)); exact (fun _ => rfl); refine SB_cons ?_ ?_; refine SX_if ?_ ?_ ?_; refine ST_cmp ?_ ?_ ?_; refine SE_name (n := 131) ?_; exact rfl; exact SE_int; exact rfl; refine SB_cons ?_ ?_; refine SX_asT ?_ ?_ ?_ ?_ ?_; refine SE_frz ?_; refine S0_call (f := 1439) (n := 129) ?_ ?_ ?_ ?_ ?_; exact (getN_mem rfl); refine SA_cons ?_ ?_ ?_; refine SE_frz ?_; refine S0_slice ?_ ?_ ?_; refine SE_name (n := 127) ?_; exact rfl; refine SP_some ?_; exact SE_int; exact SP_none; refine SA_cons ?_ ?_ ?_; refine SE_name (n := 128) ?_; exact rfl; exact SA_nil; exact (fun _ => rfl); exact (fun _ => rfl); exact rfl; exact (by kernel_rfl); exact (fun _ => rfl); refine SSs_cons ?_ ?_ ?_; refine SS_N (n := 134) ?_ ?_; exact rfl; exact (.inl (by kernel_rfl)); refine SSs_cons ?_ ?_ ?_; refine SS_N (n := 135) ?_ ?_; exact rfl; exact (.inl (by kernel_rfl)); exact SSs_nil; exact (fun _ => rfl); exact (fun _ => rfl); exact (fun _ => rfl); exact (fun _ => by kernel_rfl); exact (fun _ => rfl); refine SB_cons ?_ ?_; refine SX_ret ?_; refine SE_tup ?_; refine SA_cons ?_ ?_ ?_; refine SE_tup ?_; refine SA_cons ?_ ?_ ?_; exact SE_int; refine SA_cons ?_ ?_ ?_; refine SE_name (n := 132) ?_; exact rfl; refine SA_cons ?_ ?_ ?_; refine SE_name (n := 133) ?_; exact rfl; refine SA_cons ?_ ?_ ?_; refine SE_name (n := 134) ?_; exact rfl; exact SA_nil; exact (fun _ => rfl); exact (fun _ => rfl); exact (fun _ => rfl); exact (fun _ => rfl); refine SA_cons ?_ ?_ ?_; refine SE_name (n := 135) ?_; exact rfl; exact SA_nil; exact (fun _ => rfl); exact (fun _ => rfl); exact SB_nil; exact SB_nil; refine SB_cons ?_ ?_; refine SX_if ?_ ?_ ?_; refine ST_and ?_ ?_; refine ST_cmp ?_ ?_ ?_; refine SE_name (n := 131) ?_; exact rfl; exact SE_int; exact rfl; refine ST_and ?_ ?_; refine ST_not ?_; refine ST_of ?_ ?_; refine SE_name (n := 128) ?_; exact rfl; exact (fun _ => rfl); exact ST_and0; refine SB_cons ?_ ?_; refine SX_asT ?_ ?_ ?_ ?_ ?_; refine SE_frz ?_; refine S0_call (f := 1439) (n := 129) ?_ ?_ ?_ ?_ ?_; exact (getN_mem rfl); refine SA_cons ?_ ?_ ?_; refine SE_frz ?_; refine S0_slice ?_ ?_ ?_; refine SE_name (n := 127) ?_; exact rfl; refine SP_some ?_; exact SE_int; exact SP_none; refine SA_cons ?_ ?_ ?_; exact SE_bool; exact SA_nil; exact (fun _ => rfl); exact (fun _ => rfl); exact rfl; exact (by kernel_rfl); exact (fun _ => rfl); refine SSs_cons ?_ ?_ ?_; refine SS_N (n := 134) ?_ ?_; exact rfl; exact (.inl (by kernel_rfl)); refine SSs_cons ?_ ?_ ?_; refine SS_N (n := 135) ?_ ?_; exact rfl; exact (.inl (by kernel_rfl)); exact SSs_nil; exact (fun _ => rfl); exact (fun _ => rfl); exact (fun _ => rfl); exact (fun _ => by kernel_rfl); exact (fun _ => rfl); refine SB_cons ?_ ?_; refine SX_ret ?_; refine SE_tup ?_; refine SA_cons ?_ ?_ ?_; refine SE_tup ?_; refine SA_cons ?_ ?_ ?_; exact SE_int; refine SA_cons ?_ ?_ ?_; refine SE_bin ?_ ?_; exact SE_int; refine SE_bin ?_ ?_; refine SE_name (n := 132) ?_; exact rfl; exact SE_int; refine SA_cons ?_ ?_ ?_; exact SE_int; refine SA_cons ?_ ?_ ?_; refine SE_name (n := 134) ?_; exact rfl; exact SA_nil; exact (fun _ => rfl); exact (fun _ => rfl); exact (fun _ => rfl); exact (fun _ => rfl); refine SA_cons ?_ ?_ ?_; refine SE_name (n := 135) ?_; exact rfl; exact SA_nil; exact (fun _ => rfl); exact (fun _ => rfl); exact SB_nil; exact SB_nil; refine SB_cons ?_ ?_; refine SX_if ?_ ?_ ?_; refine ST_cmp ?_ ?_ ?_; refine SE_name (n := 131) ?_; exact rfl; exact SE_int; exact rfl; refine SB_cons ?_ ?_; refine SX_asg (n := 131) ?_ ?_ ?_ ?_; exact SE_int; exact rfl; exact (.inl (by kernel_rfl)); exact (fun _ => rfl); exact SB_nil; exact SB_nil; refine SB_cons ?_ ?_; refine SX_ret ?_; refine SE_tup ?_; refine SA_cons ?_ ?_ ?_; refine SE_tup ?_; refine SA_cons ?_ ?_ ?_; refine SE_name (n := 131) ?_; exact rfl; refine SA_cons ?_ ?_ ?_; refine SE_name (n := 132) ?_; exact rfl; refine SA_cons ?_ ?_ ?_; refine SE_name (n := 133) ?_; exact rfl; refine SA_cons ?_ ?_ ?_; refine SE_bin ?_ ?_; refine SE_bin ?_ ?_; exact SE_int; refine SE_bin ?_ ?_; refine SE_name (n := 130) ?_; exact rfl; exact SE_int; refine SE_bin ?_ ?_; exact SE_int; exact SE_int; exact SA_nil; exact (fun _ => rfl); exact (fun _ => rfl); exact (fun _ => rfl); exact (fun _ => rfl); refine SA_cons ?_ ?_ ?_; refine SE_frz ?_; refine S0_slice ?_ ?_ ?_; refine SE_name (n := 127) ?_; exact rfl; refine SP_some ?_; exact SE_int; exact SP_none; exact SA_nil; exact (fun _ => rfl); exact (fun _ => rfl); exact SB_nil
@[irreducible] noncomputable def w__law_run : WX := (wSeq (wAsT 4 (wName 136) (wTc (wTN 131) (wTc (wTN 132) (wTc (wTN 133) (wTc (wTN 139) wT0))))) (wSeq (wIf (wOrT (wCmpT .Eq (wName 131) (wInt 0)) (wOrT (wCmpT .Eq (wName 131) (wInt 1)) wFF)) (wSeq (wAsg 140 (wIfE (wCmpT .Eq (wName 131) (wInt 0)) (wBin .Add (wSub (wName 137) (wName 132)) (wSub (wName 137) (wName 133))) (wBin .Sub (wSub (wName 137) (wName 132)) (wSub (wName 137) (wName 133))))) (wSeq (wIf (wCmpT .NotEq (wName 140) (wBin .Mod (wName 140) (wBin .Pow (wInt 2) (wInt 32)))) (wSeq (wAuS .Add (wName 137) (wInt 4) (wInt 1)) wNil) wNil) (wSeq (wAsS (wName 137) (wName 132) (wBin .Mod (wName 140) (wBin .Pow (wInt 2) (wInt 32)))) wNil))) (wSeq (wIf (wCmpT .Eq (wName 131) (wInt 2)) (wSeq (wAsS (wName 137) (wName 132) (wName 139)) wNil) (wSeq (wIf (wCmpT .Eq (wName 131) (wInt 3)) (wSeq (wAsS (wName 137) (wName 132) (wBin .Mod (wBin .Mult (wInt 2) (wSub (wName 137) (wName 132))) (wBin .Pow (wInt 2) (wInt 32)))) wNil) (wSeq (wIf (wCmpT .Eq (wName 131) (wInt 4)) (wSeq (wAsS (wName 137) (wName 132) (wBin .FloorDiv (wSub (wName 137) (wName 132)) (wInt 2))) wNil) (wSeq (wIf (wCmpT .Eq (wName 131) (wInt 5)) (wSeq (wAsT 2 (wTup (wAc (wSub (wName 137) (wName 133)) (wAc (wSub (wName 137) (wName 132)) wA0))) (wTc (wTS (wName 137) (wName 132)) (wTc (wTS (wName 137) (wName 133)) wT0))) wNil) (wSeq (wIf (wCmpT .Eq (wName 131) (wInt 6)) (wSeq (wIf (wCmpT .GtE (wSub (wName 137) (wName 132)) (wSub (wName 137) (wName 133))) (wSeq (wExpr (wFrz (wCall 1446 (wAc (wName 139) (wAc (wName 137) wA0))))) wNil) wNil) wNil) (wSeq (wIf (wCmpT .Eq (wName 131) (wInt 7)) (wSeq (wFor (wRng (wAc (wName 132) wA0)) (wTN 141) (wSeq (wExpr (wFrz (wCall 1446 (wAc (wName 139) (wAc (wName 137) wA0))))) wNil)) wNil) wNil) wNil)) wNil)) wNil)) wNil)) wNil)) wNil)) wNil))
theorem s__law_run {G : Gl nm Z1} : SB G (sScope (pst 5)) (sBody (pst 5)) w__law_run := by unfold w__law_run; refine SB_cons ?_ ?_; refine SX_asT ?_ ?_ ?_ ?_ ?_; refine SE_name (n := 136) ?_; exact rfl; refine SSs_cons ?_ ?_ ?_; refine SS_N (n := 131) ?_ ?_; exact rfl; exact (.inl (by kernel_rfl)); refine SSs_cons ?_ ?_ ?_; refine SS_N (n := 132) ?_ ?_; exact rfl; exact (.inl (by kernel_rfl)); refine SSs_cons ?_ ?_ ?_; refine SS_N (n := 133) ?_ ?_; exact rfl; exact (.inl (by kernel_rfl)); refine SSs_cons ?_ ?_ ?_; refine SS_N (n := 139) ?_ ?_; exact rfl; exact (.inl (by kernel_rfl)); exact SSs_nil; exact (fun _ => rfl); exact (fun _ => rfl); exact (fun _ => rfl); exact (fun _ => rfl); exact (fun _ => rfl); exact (fun _ => by kernel_rfl); exact (fun _ => rfl); refine SB_cons ?_ ?_; refine SX_if ?_ ?_ ?_; refine ST_or ?_ ?_; refine ST_cmp ?_ ?_ ?_; refine SE_name (n := 131) ?_; exact rfl; exact SE_int; exact rfl; refine ST_or ?_ ?_; refine ST_cmp ?_ ?_ ?_; refine SE_name (n := 131) ?_; exact rfl; exact SE_int; exact rfl; exact ST_or0; refine SB_cons ?_ ?_; refine SX_asg (n := 140) ?_ ?_ ?_ ?_; refine SE_if ?_ ?_ ?_; refine ST_cmp ?_ ?_ ?_; refine SE_name (n := 131) ?_; exact rfl; exact SE_int; exact rfl; refine SE_bin ?_ ?_; refine SE_sub ?_ ?_ ?_; refine SE_name (n := 137) ?_; exact rfl; refine SE_name (n := 132) ?_; exact rfl; exact (fun _ _ => rfl); refine SE_sub ?_ ?_ ?_; refine SE_name (n := 137) ?_; exact rfl; refine SE_name (n := 133) ?_; exact rfl; exact (fun _ _ => rfl); refine SE_bin ?_ ?_; refine SE_sub ?_ ?_ ?_; refine SE_name (n := 137) ?_; exact rfl; refine SE_name (n := 132) ?_; exact rfl; exact (fun _ _ => rfl); refine SE_sub ?_ ?_ ?_; refine SE_name (n := 137) ?_; exact rfl; refine SE_name (n := 133) ?_; exact rfl; exact (fun _ _ => rfl); exact rfl; exact (.inl (by kernel_rfl)); exact (fun _ => rfl); refine SB_cons ?_ ?_; refine SX_if ?_ ?_ ?_; refine ST_cmp ?_ ?_ ?_; refine SE_name (n := 140) ?_; exact rfl; refine SE_bin ?_ ?_; refine SE_name (n := 140) ?_; exact rfl; refine SE_bin ?_ ?_; exact SE_int; exact SE_int; exact rfl; refine SB_cons ?_ ?_; refine SX_auS ?_ ?_ ?_ ?_; refine SE_name (n := 137) ?_; exact rfl; exact SE_int; exact SE_int; exact (fun _ _ _ => rfl); exact SB_nil; exact SB_nil; refine SB_cons ?_ ?_; refine SX_asS ?_ ?_ ?_ ?_; refine SE_bin ?_ ?_; refine SE_name (n := 140) ?_; exact rfl; refine SE_bin ?_ ?_; exact SE_int; exact SE_int; refine SE_name (n := 137) ?_; exact rfl; refine SE_name (n := 132) ?_; exact rfl; exact (fun _ => rfl); exact SB_nil; refine SB_cons ?_ ?_; refine SX_if ?_ ?_ ?_; refine ST_cmp ?_ ?_ ?_; refine SE_name (n := 131) ?_; exact rfl; exact SE_int; exact rfl; refine SB_cons ?_ ?_; refine SX_asS ?_ ?_ ?_ ?_; refine SE_name (n := 139) ?_; exact rfl; refine SE_name (n := 137) ?_; exact rfl; refine SE_name (n := 132) ?_; exact rfl; exact (fun _ => rfl); exact SB_nil; refine SB_cons ?_ ?_; refine SX_if ?_ ?_ ?_; refine ST_cmp ?_ ?_ ?_; refine SE_name (n := 131) ?_; exact rfl; exact SE_int; exact rfl; refine SB_cons ?_ ?_; refine SX_asS ?_ ?_ ?_ ?_; refine SE_bin ?_ ?_; refine SE_bin ?_ ?_; exact SE_int; refine SE_sub ?_ ?_ ?_; refine SE_name (n := 137) ?_; exact rfl; refine SE_name (n := 132) ?_; exact rfl; exact (fun _ _ => rfl); refine SE_bin ?_ ?_; exact SE_int; exact SE_int; refine SE_name (n := 137) ?_; exact rfl; refine SE_name (n := 132) ?_; exact rfl; exact (fun _ => rfl); exact SB_nil; refine SB_cons ?_ ?_; refine SX_if ?_ ?_ ?_; refine ST_cmp ?_ ?_ ?_; refine SE_name (n := 131) ?_; exact rfl; exact SE_int; exact rfl; refine SB_cons ?_ ?_; refine SX_asS ?_ ?_ ?_ ?_; refine SE_bin ?_ ?_; refine SE_sub ?_ ?_ ?_; refine SE_name (n := 137) ?_; exact rfl; refine SE_name (n := 132) ?_; exact rfl; exact (fun _ _ => rfl); exact SE_int; refine SE_name (n := 137) ?_; exact rfl; refine SE_name (n := 132) ?_; exact rfl; exact (fun _ => rfl); exact SB_nil; refine SB_cons ?_ ?_; refine SX_if ?_ ?_ ?_; refine ST_cmp ?_ ?_ ?_; refine SE_name (n := 131) ?_; exact rfl; exact SE_int; exact rfl; refine SB_cons ?_ ?_; refine SX_asT ?_ ?_ ?_ ?_ ?_; refine SE_tup ?_; refine SA_cons ?_ ?_ ?_; refine SE_sub ?_ ?_ ?_; refine SE_name (n := 137) ?_; exact rfl; refine SE_name (n := 133) ?_; exact rfl; exact (fun _ _ => rfl); refine SA_cons ?_ ?_ ?_; refine SE_sub ?_ ?_ ?_; refine SE_name (n := 137) ?_; exact rfl; refine SE_name (n := 132) ?_; exact rfl; exact (fun _ _ => rfl); exact SA_nil; exact (fun _ => rfl); exact (fun _ => rfl); refine SSs_cons ?_ ?_ ?_; refine SS_S ?_ ?_; refine SE_name (n := 137) ?_; exact rfl; refine SE_name (n := 132) ?_; exact rfl; refine SSs_cons ?_ ?_ ?_; refine SS_S ?_ ?_; refine SE_name (n := 137) ?_; exact rfl; refine SE_name (n := 133) ?_; exact rfl; exact SSs_nil; exact (fun _ => rfl); exact (fun _ => rfl); exact (fun _ => rfl); exact (fun _ => by kernel_rfl); exact (fun _ => rfl); exact SB_nil; refine SB_cons ?_ ?_; refine SX_if ?_ ?_ ?_; refine ST_cmp ?_ ?_ ?_; refine SE_name (n := 131) ?_; exact rfl; exact SE_int; exact rfl; refine SB_cons ?_ ?_; refine SX_if ?_ ?_ ?_; refine ST_cmp ?_ ?_ ?_; refine SE_sub ?_ ?_ ?_; refine SE_name (n := 137) ?_; exact rfl; refine SE_name (n := 132) ?_; exact rfl; exact (fun _ _ => rfl); refine SE_sub ?_ ?_ ?_; refine SE_name (n := 137) ?_; exact rfl; refine SE_name (n := 133) ?_; exact rfl; exact (fun _ _ => rfl); exact rfl; refine SB_cons ?_ ?_; refine SX_expr ?_ ?_; refine SE_frz ?_; refine S0_call (f := 1446) (n := 138) ?_ ?_ ?_ ?_ ?_; exact (getN_mem rfl); refine SA_cons ?_ ?_ ?_; refine SE_name (n := 139) ?_; exact rfl; refine SA_cons ?_ ?_ ?_; refine SE_name (n := 137) ?_; exact rfl; exact SA_nil; exact (fun _ => rfl); exact (fun _ => rfl); exact rfl; exact (by kernel_rfl); exact (fun _ => rfl); exact (fun _ => rfl); exact SB_nil; exact SB_nil; exact SB_nil; refine SB_cons ?_ ?_; refine SX_if ?_ ?_ ?_; refine ST_cmp ?_ ?_ ?_; refine SE_name (n := 131) ?_; exact rfl; exact SE_int; exact rfl; refine SB_cons ?_ ?_; refine SX_for ?_ ?_ ?_ ?_; refine SI_range (n := 142) ?_ ?_ ?_; refine SA_cons ?_ ?_ ?_; refine SE_name (n := 132) ?_; exact rfl; exact SA_nil; exact (fun _ => rfl); exact (⟨rfl, rfl, by kernel_rfl, by kernel_rfl, by decide +kernel⟩); exact (fun _ => rfl); refine SS_N (n := 141) ?_ ?_; exact rfl; exact (.inl (by kernel_rfl)); refine SB_cons ?_ ?_; refine SX_expr ?_ ?_; refine SE_frz ?_; refine S0_call (f := 1446) (n := 138) ?_ ?_ ?_ ?_ ?_; exact (getN_mem rfl); refine SA_cons ?_ ?_ ?_; refine SE_name (n := 139) ?_; exact rfl; refine SA_cons ?_ ?_ ?_; refine SE_name (n := 137) ?_; exact rfl; exact SA_nil; exact (fun _ => rfl); exact (fun _ => rfl); exact rfl; exact (by kernel_rfl); exact (fun _ => rfl); exact (fun _ => rfl); exact SB_nil; exact (fun _ _ => rfl); exact SB_nil; exact SB_nil; exact SB_nil; exact SB_nil; exact SB_nil; exact SB_nil; exact SB_nil; exact SB_nil; exact SB_nil
@[irreducible] noncomputable def w__law_compile : WX := (wSeq (wAsT 4 (wName 136) (wTc (wTN 131) (wTc (wTN 132) (wTc (wTN 133) (wTc (wTN 139) wT0))))) (wSeq (wIf (wOrT (wCmpT .Eq (wName 131) (wInt 0)) (wOrT (wCmpT .Eq (wName 131) (wInt 1)) wFF)) (wSeq (wExpr (wExt (wName 143) (wFrz (wList (wAc (wInt 162) (wAc (wBin .Mult (wInt 4) (wName 132)) (wAc (wInt 160) (wAc (wBin .Mult (wInt 4) (wName 133)) (wAc (wInt 32) (wAc (wBin .Mod (wSub (wName 144) (wName 131)) (wInt 256)) (wAc (wBin .FloorDiv (wSub (wName 144) (wName 131)) (wInt 256)) wA0))))))))))) (wSeq (wExpr (wExt (wName 143) (wFrz (wList (wAc (wIfE (wCmpT .Eq (wName 131) (wInt 0)) (wInt 144) (wInt 176)) (wAc (wInt 3) (wAc (wInt 238) (wAc (wBin .Mod (wBin .Add (wName 145) (wInt 16)) (wInt 256)) (wAc (wBin .FloorDiv (wBin .Add (wName 145) (wInt 16)) (wInt 256)) wA0))))))))) wNil)) (wSeq (wIf (wCmpT .Eq (wName 131) (wInt 2)) (wSeq (wFor (wRng (wAc (wInt 4) wA0)) (wTN 148) (wSeq (wAsg 149 (wBin .Add (wBin .Add (wName 145) (wBin .Mult (wInt 4) (wName 132))) (wName 148))) (wSeq (wExpr (wExt (wName 143) (wFrz (wList (wAc (wInt 169) (wAc (wBin .Mod (wBin .FloorDiv (wName 139) (wBin .Pow (wInt 256) (wName 148))) (wInt 256)) (wAc (wInt 141) (wAc (wBin .Mod (wName 149) (wInt 256)) (wAc (wBin .FloorDiv (wName 149) (wInt 256)) wA0))))))))) wNil))) wNil) (wSeq (wIf (wOrT (wCmpT .Eq (wName 131) (wInt 3)) (wOrT (wCmpT .Eq (wName 131) (wInt 4)) wFF)) (wSeq (wExpr (wExt (wName 143) (wFrz (wList (wAc (wInt 162) (wAc (wBin .Mult (wInt 4) (wName 132)) (wAc (wInt 32) (wAc (wBin .Mod (wSub (wName 144) (wName 131)) (wInt 256)) (wAc (wBin .FloorDiv (wSub (wName 144) (wName 131)) (wInt 256)) wA0))))))))) wNil) (wSeq (wIf (wCmpT .Eq (wName 131) (wInt 5)) (wSeq (wExpr (wExt (wName 143) (wFrz (wList (wAc (wInt 162) (wAc (wBin .Mult (wInt 4) (wName 132)) (wAc (wInt 160) (wAc (wBin .Mult (wInt 4) (wName 133)) (wAc (wInt 32) (wAc (wBin .Mod (wSub (wName 144) (wInt 5)) (wInt 256)) (wAc (wBin .FloorDiv (wSub (wName 144) (wInt 5)) (wInt 256)) wA0))))))))))) wNil) (wSeq (wIf (wCmpT .Eq (wName 131) (wInt 6)) (wSeq (wExpr (wExt (wName 143) (wFrz (wList (wAc (wInt 162) (wAc (wBin .Mult (wInt 4) (wName 132)) (wAc (wInt 160) (wAc (wBin .Mult (wInt 4) (wName 133)) (wAc (wInt 32) (wAc (wBin .Mod (wSub (wName 144) (wInt 2)) (wInt 256)) (wAc (wBin .FloorDiv (wSub (wName 144) (wInt 2)) (wInt 256)) (wAc (wInt 176) (wAc (wInt 3) (wAc (wInt 76) (wAc (wInt 0) (wAc (wInt 0) wA0)))))))))))))))) (wSeq (wAsg 150 (wBin .Sub (wLen (wAc (wName 143) wA0)) (wInt 2))) (wSeq (wExpr (wFrz (wCall 1453 (wAc (wName 139) (wAc (wName 143) (wAc (wName 144) (wAc (wName 145) wA0))))))) (wSeq (wAsS (wName 143) (wName 150) (wBin .Mod (wBin .Add (wInt 512) (wLen (wAc (wName 143) wA0))) (wInt 256))) (wSeq (wAsS (wName 143) (wBin .Add (wName 150) (wInt 1)) (wBin .FloorDiv (wBin .Add (wInt 512) (wLen (wAc (wName 143) wA0))) (wInt 256))) wNil))))) (wSeq (wIf (wCmpT .Eq (wName 131) (wInt 7)) (wSeq (wExpr (wExt (wName 143) (wFrz (wList (wAc (wInt 169) (wAc (wName 132) (wAc (wInt 72) wA0))))))) (wSeq (wAsg 151 (wBin .Add (wInt 512) (wLen (wAc (wName 143) wA0)))) (wSeq (wExpr (wFrz (wCall 1453 (wAc (wName 139) (wAc (wName 143) (wAc (wName 144) (wAc (wName 145) wA0))))))) (wSeq (wExpr (wExt (wName 143) (wFrz (wList (wAc (wInt 104) (wAc (wInt 56) (wAc (wInt 233) (wAc (wInt 1) (wAc (wInt 240) (wAc (wInt 4) (wAc (wInt 72) (wAc (wInt 76) (wAc (wBin .Mod (wName 151) (wInt 256)) (wAc (wBin .FloorDiv (wName 151) (wInt 256)) wA0)))))))))))))) wNil)))) wNil) wNil)) wNil)) wNil)) wNil)) wNil)) wNil))
theorem s__law_compile {G : Gl nm Z1} : SB G (sScope (pst 6)) (sBody (pst 6)) w__law_compile := by unfold w__law_compile; refine SB_cons ?_ ?_; refine SX_asT ?_ ?_ ?_ ?_ ?_; refine SE_name (n := 136) ?_; exact rfl; refine SSs_cons ?_ ?_ ?_; refine SS_N (n := 131) ?_ ?_; exact rfl; exact (.inl (by kernel_rfl)); refine SSs_cons ?_ ?_ ?_; refine SS_N (n := 132) ?_ ?_; exact rfl; exact (.inl (by kernel_rfl)); refine SSs_cons ?_ ?_ ?_; refine SS_N (n := 133) ?_ ?_; exact rfl; exact (.inl (by kernel_rfl)); refine SSs_cons ?_ ?_ ?_; refine SS_N (n := 139) ?_ ?_; exact rfl; exact (.inl (by kernel_rfl)); exact SSs_nil; exact (fun _ => rfl); exact (fun _ => rfl); exact (fun _ => rfl); exact (fun _ => rfl); exact (fun _ => rfl); exact (fun _ => by kernel_rfl); exact (fun _ => rfl); refine SB_cons ?_ ?_; refine SX_if ?_ ?_ ?_; refine ST_or ?_ ?_; refine ST_cmp ?_ ?_ ?_; refine SE_name (n := 131) ?_; exact rfl; exact SE_int; exact rfl; refine ST_or ?_ ?_; refine ST_cmp ?_ ?_ ?_; refine SE_name (n := 131) ?_; exact rfl; exact SE_int; exact rfl; exact ST_or0; refine SB_cons ?_ ?_; refine SX_expr ?_ ?_; refine SE_ext ?_ ?_ ?_ ?_ ?_; refine SE_name (n := 143) ?_; exact rfl; refine SE_frz ?_; refine S0_list ?_; refine SA_cons ?_ ?_ ?_; exact SE_int; refine SA_cons ?_ ?_ ?_; refine SE_bin ?_ ?_; exact SE_int; refine SE_name (n := 132) ?_; exact rfl; refine SA_cons ?_ ?_ ?_; exact SE_int; refine SA_cons ?_ ?_ ?_; refine SE_bin ?_ ?_; exact SE_int; refine SE_name (n := 133) ?_; exact rfl; refine SA_cons ?_ ?_ ?_; exact SE_int; refine SA_cons ?_ ?_ ?_; refine SE_bin ?_ ?_; refine SE_sub ?_ ?_ ?_; refine SE_name (n := 144) ?_; exact rfl; refine SE_name (n := 131) ?_; exact rfl; exact (fun _ _ => rfl); exact SE_int; refine SA_cons ?_ ?_ ?_; refine SE_bin ?_ ?_; refine SE_sub ?_ ?_ ?_; refine SE_name (n := 144) ?_; exact rfl; refine SE_name (n := 131) ?_; exact rfl; exact (fun _ _ => rfl); exact SE_int; exact SA_nil; exact (fun _ => rfl); exact (fun _ => rfl); exact (fun _ => rfl); exact (fun _ => rfl); exact (fun _ => rfl); exact (fun _ => rfl); exact (fun _ => rfl); exact rfl; exact (fun _ => rfl); exact (fun _ => ⟨_, rfl⟩); exact (fun _ => rfl); refine SB_cons ?_ ?_; refine SX_expr ?_ ?_; refine SE_ext ?_ ?_ ?_ ?_ ?_; refine SE_name (n := 143) ?_; exact rfl; refine SE_frz ?_; refine S0_list ?_; refine SA_cons ?_ ?_ ?_; refine SE_if ?_ ?_ ?_; refine ST_cmp ?_ ?_ ?_; refine SE_name (n := 131) ?_; exact rfl; exact SE_int; exact rfl; exact SE_int; exact SE_int; refine SA_cons ?_ ?_ ?_; exact SE_int; refine SA_cons ?_ ?_ ?_; exact SE_int; refine SA_cons ?_ ?_ ?_; refine SE_bin ?_ ?_; refine SE_bin ?_ ?_; refine SE_name (n := 145) ?_; exact rfl; exact SE_int; exact SE_int; refine SA_cons ?_ ?_ ?_; refine SE_bin ?_ ?_; refine SE_bin ?_ ?_; refine SE_name (n := 145) ?_; exact rfl; exact SE_int; exact SE_int; exact SA_nil; exact (fun _ => rfl); exact (fun _ => rfl); exact (fun _ => rfl); exact (fun _ => rfl); exact (fun _ => rfl); exact rfl; exact (fun _ => rfl); exact (fun _ => ⟨_, rfl⟩); exact (fun _ => rfl); exact SB_nil; refine SB_cons ?_ ?_; refine SX_if ?_ ?_ ?_; refine ST_cmp ?_ ?_ ?_; refine SE_name (n := 131) ?_; exact rfl; exact SE_int; exact rfl; refine SB_cons ?_ ?_; refine SX_for ?_ ?_ ?_ ?_; refine SI_range (n := 142) ?_ ?_ ?_; refine SA_cons ?_ ?_ ?_; exact SE_int; exact SA_nil; exact (fun _ => rfl); exact (⟨rfl, rfl, by kernel_rfl, by kernel_rfl, by decide +kernel⟩); exact (fun _ => rfl); refine SS_N (n := 148) ?_ ?_; exact rfl; exact (.inl (by kernel_rfl)); refine SB_cons ?_ ?_; refine SX_asg (n := 149) ?_ ?_ ?_ ?_; refine SE_bin ?_ ?_; refine SE_bin ?_ ?_; refine SE_name (n := 145) ?_; exact rfl; refine SE_bin ?_ ?_; exact SE_int; refine SE_name (n := 132) ?_; exact rfl; refine SE_name (n := 148) ?_; exact rfl; exact rfl; exact (.inl (by kernel_rfl)); exact (fun _ => rfl); refine SB_cons ?_ ?_; refine SX_expr ?_ ?_; refine SE_ext ?_ ?_ ?_ ?_ ?_; refine SE_name (n := 143) ?_; exact rfl; refine SE_frz ?_; refine S0_list ?_; refine SA_cons ?_ ?_ ?_; exact SE_int; refine SA_cons ?_ ?_ ?_; refine SE_bin ?_ ?_; refine SE_bin ?_ ?_; refine SE_name (n := 139) ?_; exact rfl; refine SE_bin ?_ ?_; exact SE_int; refine SE_name (n := 148) ?_; exact rfl; exact SE_int; refine SA_cons ?_ ?_ ?_; exact SE_int; refine SA_cons ?_ ?_ ?_; refine SE_bin ?_ ?_; refine SE_name (n := 149) ?_; exact rfl; exact SE_int; refine SA_cons ?_ ?_ ?_; refine SE_bin ?_ ?_; refine SE_name (n := 149) ?_; exact rfl; exact SE_int; exact SA_nil; exact (fun _ => rfl); exact (fun _ => rfl); exact (fun _ => rfl); exact (fun _ => rfl); exact (fun _ => rfl); exact rfl; exact (fun _ => rfl); exact (fun _ => ⟨_, rfl⟩); exact (fun _ => rfl); exact SB_nil; exact (fun _ _ => rfl); exact SB_nil; refine SB_cons ?_ ?_; refine SX_if ?_ ?_ ?_; refine ST_or ?_ ?_; refine ST_cmp ?_ ?_ ?_; refine SE_name (n := 131) ?_; exact rfl; exact SE_int; exact rfl; refine ST_or ?_ ?_; refine ST_cmp ?_ ?_ ?_; refine SE_name (n := 131) ?_; exact rfl; exact SE_int; exact rfl; exact ST_or0; refine SB_cons ?_ ?_; refine SX_expr ?_ ?_; refine SE_ext ?_ ?_ ?_ ?_ ?_; refine SE_name (n := 143) ?_; exact rfl; refine SE_frz ?_; refine S0_list ?_; refine SA_cons ?_ ?_ ?_; exact SE_int; refine SA_cons ?_ ?_ ?_; refine SE_bin ?_ ?_; exact SE_int; refine SE_name (n := 132) ?_; exact rfl; refine SA_cons ?_ ?_ ?_; exact SE_int; refine SA_cons ?_ ?_ ?_; refine SE_bin ?_ ?_; refine SE_sub ?_ ?_ ?_; refine SE_name (n := 144) ?_; exact rfl; refine SE_name (n := 131) ?_; exact rfl; exact (fun _ _ => rfl); exact SE_int; refine SA_cons ?_ ?_ ?_; refine SE_bin ?_ ?_; refine SE_sub ?_ ?_ ?_; refine SE_name (n := 144) ?_; exact rfl; refine SE_name (n := 131) ?_; exact rfl; exact (fun _ _ => rfl); exact SE_int; exact SA_nil; exact (fun _ => rfl); exact (fun _ => rfl); exact (fun _ => rfl); exact (fun _ => rfl); exact (fun _ => rfl); exact rfl; exact (fun _ => rfl); exact (fun _ => ⟨_, rfl⟩); exact (fun _ => rfl); exact SB_nil; refine SB_cons ?_ ?_; refine SX_if ?_ ?_ ?_; refine ST_cmp ?_ ?_ ?_; refine SE_name (n := 131) ?_; exact rfl; exact SE_int; exact rfl; refine SB_cons ?_ ?_; refine SX_expr ?_ ?_; refine SE_ext ?_ ?_ ?_ ?_ ?_; refine SE_name (n := 143) ?_; exact rfl; refine SE_frz ?_; refine S0_list ?_; refine SA_cons ?_ ?_ ?_; exact SE_int; refine SA_cons ?_ ?_ ?_; refine SE_bin ?_ ?_; exact SE_int; refine SE_name (n := 132) ?_; exact rfl; refine SA_cons ?_ ?_ ?_; exact SE_int; refine SA_cons ?_ ?_ ?_; refine SE_bin ?_ ?_; exact SE_int; refine SE_name (n := 133) ?_; exact rfl; refine SA_cons ?_ ?_ ?_; exact SE_int; refine SA_cons ?_ ?_ ?_; refine SE_bin ?_ ?_; refine SE_sub ?_ ?_ ?_; refine SE_name (n := 144) ?_; exact rfl; exact SE_int; exact (fun _ _ => rfl); exact SE_int; refine SA_cons ?_ ?_ ?_; refine SE_bin ?_ ?_; refine SE_sub ?_ ?_ ?_; refine SE_name (n := 144) ?_; exact rfl; exact SE_int; exact (fun _ _ => rfl); exact SE_int; exact SA_nil; exact (fun _ => rfl); exact (fun _ => rfl); exact (fun _ => rfl); exact (fun _ => rfl); exact (fun _ => rfl); exact (fun _ => rfl); exact (fun _ => rfl); exact rfl; exact (fun _ => rfl); exact (fun _ => ⟨_, rfl⟩); exact (fun _ => rfl); exact SB_nil; refine SB_cons ?_ ?_; refine SX_if ?_ ?_ ?_; refine ST_cmp ?_ ?_ ?_; refine SE_name (n := 131) ?_; exact rfl; exact SE_int; exact rfl; refine SB_cons ?_ ?_; refine SX_expr ?_ ?_; refine SE_ext ?_ ?_ ?_ ?_ ?_; refine SE_name (n := 143) ?_; exact rfl; refine SE_frz ?_; refine S0_list ?_; refine SA_cons ?_ ?_ ?_; exact SE_int; refine SA_cons ?_ ?_ ?_; refine SE_bin ?_ ?_; exact SE_int; refine SE_name (n := 132) ?_; exact rfl; refine SA_cons ?_ ?_ ?_; exact SE_int; refine SA_cons ?_ ?_ ?_; refine SE_bin ?_ ?_; exact SE_int; refine SE_name (n := 133) ?_; exact rfl; refine SA_cons ?_ ?_ ?_; exact SE_int; refine SA_cons ?_ ?_ ?_; refine SE_bin ?_ ?_; refine SE_sub ?_ ?_ ?_; refine SE_name (n := 144) ?_; exact rfl; exact SE_int; exact (fun _ _ => rfl); exact SE_int; refine SA_cons ?_ ?_ ?_; refine SE_bin ?_ ?_; refine SE_sub ?_ ?_ ?_; refine SE_name (n := 144) ?_; exact rfl; exact SE_int; exact (fun _ _ => rfl); exact SE_int; refine SA_cons ?_ ?_ ?_; exact SE_int; refine SA_cons ?_ ?_ ?_; exact SE_int; refine SA_cons ?_ ?_ ?_; exact SE_int; refine SA_cons ?_ ?_ ?_; exact SE_int; refine SA_cons ?_ ?_ ?_; exact SE_int; exact SA_nil; exact (fun _ => rfl); exact (fun _ => rfl); exact (fun _ => rfl); exact (fun _ => rfl); exact (fun _ => rfl); exact (fun _ => rfl); exact (fun _ => rfl); exact (fun _ => rfl); exact (fun _ => rfl); exact (fun _ => rfl); exact (fun _ => rfl); exact (fun _ => rfl); exact rfl; exact (fun _ => rfl); exact (fun _ => ⟨_, rfl⟩); exact (fun _ => rfl); refine SB_cons ?_ ?_; refine SX_asg (n := 150) ?_ ?_ ?_ ?_; refine SE_bin ?_ ?_; refine SE_len (n := 152) ?_ ?_ ?_; refine SA_cons ?_ ?_ ?_; refine SE_name (n := 143) ?_; exact rfl; exact SA_nil; exact (fun _ => rfl); exact (⟨rfl, rfl, by kernel_rfl, by kernel_rfl, by decide +kernel⟩); exact (fun _ => rfl); exact SE_int; exact rfl; exact (.inl (by kernel_rfl)); exact (fun _ => rfl); refine SB_cons ?_ ?_; refine SX_expr ?_ ?_; refine SE_frz ?_; refine S0_call (f := 1453) (n := 146) ?_ ?_ ?_ ?_ ?_; exact (getN_mem rfl); refine SA_cons ?_ ?_ ?_; refine SE_name (n := 139) ?_; exact rfl; refine SA_cons ?_ ?_ ?_; refine SE_name (n := 143) ?_; exact rfl; refine SA_cons ?_ ?_ ?_; refine SE_name (n := 144) ?_; exact rfl; refine SA_cons ?_ ?_ ?_; refine SE_name (n := 145) ?_; exact rfl; exact SA_nil; exact (fun _ => rfl); exact (fun _ => rfl); exact (fun _ => rfl); exact (fun _ => rfl); exact rfl; exact (by kernel_rfl); exact (fun _ => rfl); exact (fun _ => rfl); refine SB_cons ?_ ?_; refine SX_asS ?_ ?_ ?_ ?_; refine SE_bin ?_ ?_; refine SE_bin ?_ ?_; exact SE_int; refine SE_len (n := 152) ?_ ?_ ?_; refine SA_cons ?_ ?_ ?_; refine SE_name (n := 143) ?_; exact rfl; exact SA_nil; exact (fun _ => rfl); exact (⟨rfl, rfl, by kernel_rfl, by kernel_rfl, by decide +kernel⟩); exact (fun _ => rfl); exact SE_int; refine SE_name (n := 143) ?_; exact rfl; refine SE_name (n := 150) ?_; exact rfl; exact (fun _ => rfl); refine SB_cons ?_ ?_; refine SX_asS ?_ ?_ ?_ ?_; refine SE_bin ?_ ?_; refine SE_bin ?_ ?_; exact SE_int; refine SE_len (n := 152) ?_ ?_ ?_; refine SA_cons ?_ ?_ ?_; refine SE_name (n := 143) ?_; exact rfl; exact SA_nil; exact (fun _ => rfl); exact (⟨rfl, rfl, by kernel_rfl, by kernel_rfl, by decide +kernel⟩); exact (fun _ => rfl); exact SE_int; refine SE_name (n := 143) ?_; exact rfl; refine SE_bin ?_ ?_; refine SE_name (n := 150) ?_; exact rfl; exact SE_int; exact (fun _ => rfl); exact SB_nil; refine SB_cons ?_ ?_; refine SX_if ?_ ?_ ?_; refine ST_cmp ?_ ?_ ?_; refine SE_name (n := 131) ?_; exact rfl; exact SE_int; exact rfl; refine SB_cons ?_ ?_; refine SX_expr ?_ ?_; refine SE_ext ?_ ?_ ?_ ?_ ?_; refine SE_name (n := 143) ?_; exact rfl; refine SE_frz ?_; refine S0_list ?_; refine SA_cons ?_ ?_ ?_; exact SE_int; refine SA_cons ?_ ?_ ?_; refine SE_name (n := 132) ?_; exact rfl; refine SA_cons ?_ ?_ ?_; exact SE_int; exact SA_nil; exact (fun _ => rfl); exact (fun _ => rfl); exact (fun _ => rfl); exact rfl; exact (fun _ => rfl); exact (fun _ => ⟨_, rfl⟩); exact (fun _ => rfl); refine SB_cons ?_ ?_; refine SX_asg (n := 151) ?_ ?_ ?_ ?_; refine SE_bin ?_ ?_; exact SE_int; refine SE_len (n := 152) ?_ ?_ ?_; refine SA_cons ?_ ?_ ?_; refine SE_name (n := 143) ?_; exact rfl; exact SA_nil; exact (fun _ => rfl); exact (⟨rfl, rfl, by kernel_rfl, by kernel_rfl, by decide +kernel⟩); exact (fun _ => rfl); exact rfl; exact (.inl (by kernel_rfl)); exact (fun _ => rfl); refine SB_cons ?_ ?_; refine SX_expr ?_ ?_; refine SE_frz ?_; refine S0_call (f := 1453) (n := 146) ?_ ?_ ?_ ?_ ?_; exact (getN_mem rfl); refine SA_cons ?_ ?_ ?_; refine SE_name (n := 139) ?_; exact rfl; refine SA_cons ?_ ?_ ?_; refine SE_name (n := 143) ?_; exact rfl; refine SA_cons ?_ ?_ ?_; refine SE_name (n := 144) ?_; exact rfl; refine SA_cons ?_ ?_ ?_; refine SE_name (n := 145) ?_; exact rfl; exact SA_nil; exact (fun _ => rfl); exact (fun _ => rfl); exact (fun _ => rfl); exact (fun _ => rfl); exact rfl; exact (by kernel_rfl); exact (fun _ => rfl); exact (fun _ => rfl); refine SB_cons ?_ ?_; refine SX_expr ?_ ?_; refine SE_ext ?_ ?_ ?_ ?_ ?_; refine SE_name (n := 143) ?_; exact rfl; refine SE_frz ?_; refine S0_list ?_; refine SA_cons ?_ ?_ ?_; exact SE_int; refine SA_cons ?_ ?_ ?_; exact SE_int; refine SA_cons ?_ ?_ ?_; exact SE_int; refine SA_cons ?_ ?_ ?_; exact SE_int; refine SA_cons ?_ ?_ ?_; exact SE_int; refine SA_cons ?_ ?_ ?_; exact SE_int; refine SA_cons ?_ ?_ ?_; exact SE_int; refine SA_cons ?_ ?_ ?_; exact SE_int; refine SA_cons ?_ ?_ ?_; refine SE_bin ?_ ?_; refine SE_name (n := 151) ?_; exact rfl; exact SE_int; refine SA_cons ?_ ?_ ?_; refine SE_bin ?_ ?_; refine SE_name (n := 151) ?_; exact rfl; exact SE_int; exact SA_nil; exact (fun _ => rfl); exact (fun _ => rfl); exact (fun _ => rfl); exact (fun _ => rfl); exact (fun _ => rfl); exact (fun _ => rfl); exact (fun _ => rfl); exact (fun _ => rfl); exact (fun _ => rfl); exact (fun _ => rfl); exact rfl; exact (fun _ => rfl); exact (fun _ => ⟨_, rfl⟩); exact (fun _ => rfl); exact SB_nil; exact SB_nil; exact SB_nil; exact SB_nil; exact SB_nil; exact SB_nil; exact SB_nil; exact SB_nil
noncomputable def T1L : Defs := (1439, [127, 128], w__law_plan) :: (1446, [136, 137], w__law_run) :: (1453, [136, 143, 144, 145], w__law_compile) :: T1
@[irreducible] noncomputable def w_law_24 : WX := wNil
theorem s_law_24 {G : Gl nm Z1} : SB G dL.scope (dL.body.drop 24) w_law_24 := by unfold w_law_24; exact SB_nil
/-- return memory[:256] == plain[:256] and memory[512:] == plain[512:] -/
@[irreducible] noncomputable def w_law_23 : WX := wSeq (wRet (wAndE (wCmp .Eq (wFrz (wSli (wName 9) wP0 (wP (wInt 256)))) (wFrz (wSli (wName 161) wP0 (wP (wInt 256))))) (wCmp .Eq (wFrz (wSli (wName 9) (wP (wInt 512)) wP0)) (wFrz (wSli (wName 161) (wP (wInt 512)) wP0))))) w_law_24
theorem s_law_23 {G : Gl nm Z1} : SB G dL.scope (dL.body.drop 23) w_law_23 := by unfold w_law_23; refine SB_cons ?_ ?_; refine SX_ret ?_; refine SE_and ?_ ?_; refine SE_cmp ?_ ?_ ?_; refine SE_frz ?_; refine S0_slice ?_ ?_ ?_; refine SE_name (n := 9) ?_; exact rfl; exact SP_none; refine SP_some ?_; exact SE_int; refine SE_frz ?_; refine S0_slice ?_ ?_ ?_; refine SE_name (n := 161) ?_; exact rfl; exact SP_none; refine SP_some ?_; exact SE_int; exact rfl; refine SE_one ?_; refine SE_cmp ?_ ?_ ?_; refine SE_frz ?_; refine S0_slice ?_ ?_ ?_; refine SE_name (n := 9) ?_; exact rfl; refine SP_some ?_; exact SE_int; exact SP_none; refine SE_frz ?_; refine S0_slice ?_ ?_ ?_; refine SE_name (n := 161) ?_; exact rfl; refine SP_some ?_; exact SE_int; exact SP_none; exact rfl; exact s_law_24
/-- if (mpu.pc, mpu.sp) != (end, 255): -/
@[irreducible] noncomputable def w_law_22 : WX := wSeq (wIf (wCmpT .NotEq (wTup (wAc (wAttr Z1 11 (wName 162)) (wAc (wAttr Z1 12 (wName 162)) wA0))) (wTup (wAc (wName 159) (wAc (wInt 255) wA0)))) (wSeq (wRet (wBool false)) wNil) wNil) w_law_23
theorem s_law_22 {G : Gl nm Z1} : SB G dL.scope (dL.body.drop 22) w_law_22 := by unfold w_law_22; refine SB_cons ?_ ?_; refine SX_if ?_ ?_ ?_; refine ST_cmp ?_ ?_ ?_; refine SE_tup ?_; refine SA_cons ?_ ?_ ?_; refine SE_attr (n := 11) ?_ ?_ ?_; refine SE_name (n := 162) ?_; exact rfl; exact rfl; exact (fun _ => rfl); refine SA_cons ?_ ?_ ?_; refine SE_attr (n := 12) ?_ ?_ ?_; refine SE_name (n := 162) ?_; exact rfl; exact rfl; exact (fun _ => rfl); exact SA_nil; exact (fun _ => rfl); exact (fun _ => rfl); refine SE_tup ?_; refine SA_cons ?_ ?_ ?_; refine SE_name (n := 159) ?_; exact rfl; refine SA_cons ?_ ?_ ?_; exact SE_int; exact SA_nil; exact (fun _ => rfl); exact (fun _ => rfl); exact rfl; refine SB_cons ?_ ?_; refine SX_ret ?_; exact SE_bool; exact SB_nil; exact SB_nil; exact s_law_23
/-- for turn in range(700): -/
@[irreducible] noncomputable def w_law_21 : WX := wSeq (wFor (wRng (wAc (wInt 700) wA0)) (wTN 141) (wSeq (wIf (wCmpT .Eq (wAttr Z1 11 (wName 162)) (wName 159)) (wSeq wBrk wNil) wNil) (wSeq (wExpr (wFrz (wMeth Z1 34 (wName 162) wA0))) wNil))) w_law_22
theorem s_law_21 {G : Gl nm Z1} : SB G dL.scope (dL.body.drop 21) w_law_21 := by unfold w_law_21; refine SB_cons ?_ ?_; refine SX_for ?_ ?_ ?_ ?_; refine SI_range (n := 142) ?_ ?_ ?_; refine SA_cons ?_ ?_ ?_; exact SE_int; exact SA_nil; exact (fun _ => rfl); exact (⟨rfl, rfl, by kernel_rfl, by kernel_rfl, by decide +kernel⟩); exact (fun _ => rfl); refine SS_N (n := 141) ?_ ?_; exact rfl; exact (.inl (by kernel_rfl)); refine SB_cons ?_ ?_; refine SX_if ?_ ?_ ?_; refine ST_cmp ?_ ?_ ?_; refine SE_attr (n := 11) ?_ ?_ ?_; refine SE_name (n := 162) ?_; exact rfl; exact rfl; exact (fun _ => rfl); refine SE_name (n := 159) ?_; exact rfl; exact rfl; refine SB_cons ?_ ?_; exact SX_brk; exact SB_nil; exact SB_nil; refine SB_cons ?_ ?_; refine SX_expr ?_ ?_; refine SE_frz ?_; refine S0_meth (n := 34) ?_ ?_ ?_ ?_; refine SE_name (n := 162) ?_; exact rfl; exact SA_nil; exact rfl; exact (fun _ => ⟨_, rfl⟩); exact (fun _ => rfl); exact SB_nil; exact (fun _ _ => rfl); exact s_law_22
/-- mpu = MPU(memory=memory, pc=start) -/
@[irreducible] noncomputable def w_law_20 : WX := wSeq (wAsg 162 (wNew T1 [0, 9, 11] w_uinit (wAc (wName 9) (wAc (wName 157) wA0)))) w_law_21
theorem s_law_20 {G : Gl nm Z1} (hT : ∀ f ns b, getN f T1 = some (ns, b) → DefOk G f ns b) (hI : InitOk G) : SB G dL.scope (dL.body.drop 20) w_law_20 := by unfold w_law_20; refine SB_cons ?_ ?_; refine SX_asg (n := 162) ?_ ?_ ?_ ?_; exact (SE_new (T := T1) (kn := [Str.ofString "memory", Str.ofString "pc"]) (n := 165) hT (hI.D) s_uinit hI.O hI.i hI.f (by kernel_rfl) rfl hI.g (by kernel_rfl) (SK_cons (SE_name (n := 9) rfl) (SK_cons (SE_name (n := 157) rfl) SK_nil)) hI.b (fun _ => rfl) (fun _ => rfl) (fun _ => rfl) (fun _ => rfl)); exact rfl; exact (.inl (by kernel_rfl)); exact (fun _ => rfl); exact s_law_21
/-- plain[base + 16] = held[4] -/
@[irreducible] noncomputable def w_law_19 : WX := wSeq (wAsS (wName 161) (wBin .Add (wName 145) (wInt 16)) (wSub (wName 137) (wInt 4))) w_law_20
theorem s_law_19 {G : Gl nm Z1} (hT : ∀ f ns b, getN f T1 = some (ns, b) → DefOk G f ns b) (hI : InitOk G) : SB G dL.scope (dL.body.drop 19) w_law_19 := by unfold w_law_19; refine SB_cons ?_ ?_; refine SX_asS ?_ ?_ ?_ ?_; refine SE_sub ?_ ?_ ?_; refine SE_name (n := 137) ?_; exact rfl; exact SE_int; exact (fun _ _ => rfl); refine SE_name (n := 161) ?_; exact rfl; refine SE_bin ?_ ?_; refine SE_name (n := 145) ?_; exact rfl; exact SE_int; exact (fun _ => rfl); refine s_law_20 ?_ ?_; exact hT; exact hI
/-- for which in range(4): -/
@[irreducible] noncomputable def w_law_18 : WX := wSeq (wFor (wRng (wAc (wInt 4) wA0)) (wTN 160) (wSeq (wFor (wRng (wAc (wInt 4) wA0)) (wTN 148) (wSeq (wAsS (wName 161) (wBin .Add (wBin .Add (wName 145) (wBin .Mult (wInt 4) (wName 160))) (wName 148)) (wBin .Mod (wBin .FloorDiv (wSub (wName 137) (wName 160)) (wBin .Pow (wInt 256) (wName 148))) (wInt 256))) wNil)) wNil)) w_law_19
theorem s_law_18 {G : Gl nm Z1} (hT : ∀ f ns b, getN f T1 = some (ns, b) → DefOk G f ns b) (hI : InitOk G) : SB G dL.scope (dL.body.drop 18) w_law_18 := by unfold w_law_18; refine SB_cons ?_ ?_; refine SX_for ?_ ?_ ?_ ?_; refine SI_range (n := 142) ?_ ?_ ?_; refine SA_cons ?_ ?_ ?_; exact SE_int; exact SA_nil; exact (fun _ => rfl); exact (⟨rfl, rfl, by kernel_rfl, by kernel_rfl, by decide +kernel⟩); exact (fun _ => rfl); refine SS_N (n := 160) ?_ ?_; exact rfl; exact (.inl (by kernel_rfl)); refine SB_cons ?_ ?_; refine SX_for ?_ ?_ ?_ ?_; refine SI_range (n := 142) ?_ ?_ ?_; refine SA_cons ?_ ?_ ?_; exact SE_int; exact SA_nil; exact (fun _ => rfl); exact (⟨rfl, rfl, by kernel_rfl, by kernel_rfl, by decide +kernel⟩); exact (fun _ => rfl); refine SS_N (n := 148) ?_ ?_; exact rfl; exact (.inl (by kernel_rfl)); refine SB_cons ?_ ?_; refine SX_asS ?_ ?_ ?_ ?_; refine SE_bin ?_ ?_; refine SE_bin ?_ ?_; refine SE_sub ?_ ?_ ?_; refine SE_name (n := 137) ?_; exact rfl; refine SE_name (n := 160) ?_; exact rfl; exact (fun _ _ => rfl); refine SE_bin ?_ ?_; exact SE_int; refine SE_name (n := 148) ?_; exact rfl; exact SE_int; refine SE_name (n := 161) ?_; exact rfl; refine SE_bin ?_ ?_; refine SE_bin ?_ ?_; refine SE_name (n := 145) ?_; exact rfl; refine SE_bin ?_ ?_; exact SE_int; refine SE_name (n := 160) ?_; exact rfl; refine SE_name (n := 148) ?_; exact rfl; exact (fun _ => rfl); exact SB_nil; exact (fun _ _ => rfl); exact SB_nil; exact (fun _ _ => rfl); refine s_law_19 ?_ ?_; exact hT; exact hI
/-- for plan in plans: -/
@[irreducible] noncomputable def w_law_17 : WX := wSeq (wFor (wItL (wName 158)) (wTN 136) (wSeq (wExpr (wFrz (wCall 1446 (wAc (wName 136) (wAc (wName 137) wA0))))) wNil)) w_law_18
theorem s_law_17 {G : Gl nm Z1} (hT : ∀ f ns b, getN f T1 = some (ns, b) → DefOk G f ns b) (hI : InitOk G) : SB G dL.scope (dL.body.drop 17) w_law_17 := by unfold w_law_17; refine SB_cons ?_ ?_; refine SX_for ?_ ?_ ?_ ?_; refine SI_list ?_; refine SE_name (n := 158) ?_; exact rfl; refine SS_N (n := 136) ?_ ?_; exact rfl; exact (.inl (by kernel_rfl)); refine SB_cons ?_ ?_; refine SX_expr ?_ ?_; refine SE_frz ?_; refine S0_call (f := 1446) (n := 138) ?_ ?_ ?_ ?_ ?_; exact (getN_mem rfl); refine SA_cons ?_ ?_ ?_; refine SE_name (n := 136) ?_; exact rfl; refine SA_cons ?_ ?_ ?_; refine SE_name (n := 137) ?_; exact rfl; exact SA_nil; exact (fun _ => rfl); exact (fun _ => rfl); exact rfl; exact (by kernel_rfl); exact (fun _ => rfl); exact (fun _ => rfl); exact SB_nil; exact (fun _ _ => rfl); refine s_law_18 ?_ ?_; exact hT; exact hI
/-- plain = memory[:] -/
@[irreducible] noncomputable def w_law_16 : WX := wSeq (wOwn 161 (wSli (wName 9) wP0 wP0)) w_law_17
theorem s_law_16 {G : Gl nm Z1} (hT : ∀ f ns b, getN f T1 = some (ns, b) → DefOk G f ns b) (hI : InitOk G) : SB G dL.scope (dL.body.drop 16) w_law_16 := by unfold w_law_16; refine SB_cons ?_ ?_; refine SX_own (n := 161) ?_ ?_ ?_ ?_; refine S0_slice ?_ ?_ ?_; refine SE_name (n := 9) ?_; exact rfl; exact SP_none; exact SP_none; exact rfl; exact (.inl (by kernel_rfl)); exact (fun _ => rfl); refine s_law_17 ?_ ?_; exact hT; exact hI
/-- memory[base + 16] = 0 -/
@[irreducible] noncomputable def w_law_15 : WX := wSeq (wAsS (wName 9) (wBin .Add (wName 145) (wInt 16)) (wInt 0)) w_law_16
theorem s_law_15 {G : Gl nm Z1} (hT : ∀ f ns b, getN f T1 = some (ns, b) → DefOk G f ns b) (hI : InitOk G) : SB G dL.scope (dL.body.drop 15) w_law_15 := by unfold w_law_15; refine SB_cons ?_ ?_; refine SX_asS ?_ ?_ ?_ ?_; exact SE_int; refine SE_name (n := 9) ?_; exact rfl; refine SE_bin ?_ ?_; refine SE_name (n := 145) ?_; exact rfl; exact SE_int; exact (fun _ => rfl); refine s_law_16 ?_ ?_; exact hT; exact hI
/-- for which in range(4): -/
@[irreducible] noncomputable def w_law_14 : WX := wSeq (wFor (wRng (wAc (wInt 4) wA0)) (wTN 160) (wSeq (wFor (wRng (wAc (wInt 4) wA0)) (wTN 148) (wSeq (wAsS (wName 9) (wBin .Add (wBin .Add (wName 145) (wBin .Mult (wInt 4) (wName 160))) (wName 148)) (wBin .Mod (wBin .FloorDiv (wSub (wName 137) (wName 160)) (wBin .Pow (wInt 256) (wName 148))) (wInt 256))) wNil)) wNil)) w_law_15
theorem s_law_14 {G : Gl nm Z1} (hT : ∀ f ns b, getN f T1 = some (ns, b) → DefOk G f ns b) (hI : InitOk G) : SB G dL.scope (dL.body.drop 14) w_law_14 := by unfold w_law_14; refine SB_cons ?_ ?_; refine SX_for ?_ ?_ ?_ ?_; refine SI_range (n := 142) ?_ ?_ ?_; refine SA_cons ?_ ?_ ?_; exact SE_int; exact SA_nil; exact (fun _ => rfl); exact (⟨rfl, rfl, by kernel_rfl, by kernel_rfl, by decide +kernel⟩); exact (fun _ => rfl); refine SS_N (n := 160) ?_ ?_; exact rfl; exact (.inl (by kernel_rfl)); refine SB_cons ?_ ?_; refine SX_for ?_ ?_ ?_ ?_; refine SI_range (n := 142) ?_ ?_ ?_; refine SA_cons ?_ ?_ ?_; exact SE_int; exact SA_nil; exact (fun _ => rfl); exact (⟨rfl, rfl, by kernel_rfl, by kernel_rfl, by decide +kernel⟩); exact (fun _ => rfl); refine SS_N (n := 148) ?_ ?_; exact rfl; exact (.inl (by kernel_rfl)); refine SB_cons ?_ ?_; refine SX_asS ?_ ?_ ?_ ?_; refine SE_bin ?_ ?_; refine SE_bin ?_ ?_; refine SE_sub ?_ ?_ ?_; refine SE_name (n := 137) ?_; exact rfl; refine SE_name (n := 160) ?_; exact rfl; exact (fun _ _ => rfl); refine SE_bin ?_ ?_; exact SE_int; refine SE_name (n := 148) ?_; exact rfl; exact SE_int; refine SE_name (n := 9) ?_; exact rfl; refine SE_bin ?_ ?_; refine SE_bin ?_ ?_; refine SE_name (n := 145) ?_; exact rfl; refine SE_bin ?_ ?_; exact SE_int; refine SE_name (n := 160) ?_; exact rfl; refine SE_name (n := 148) ?_; exact rfl; exact (fun _ => rfl); exact SB_nil; exact (fun _ _ => rfl); exact SB_nil; exact (fun _ _ => rfl); refine s_law_15 ?_ ?_; exact hT; exact hI
/-- memory = [170] * 512 + code + [170] * (1024 - len(code)) -/
@[irreducible] noncomputable def w_law_13 : WX := wSeq (wOwn 9 (wCat (wFrz (wCat (wFrz (wRep (wList (wAc (wInt 170) wA0)) (wInt 512))) (wName 143))) (wFrz (wRep (wList (wAc (wInt 170) wA0)) (wBin .Sub (wInt 1024) (wLen (wAc (wName 143) wA0))))))) w_law_14
theorem s_law_13 {G : Gl nm Z1} (hT : ∀ f ns b, getN f T1 = some (ns, b) → DefOk G f ns b) (hI : InitOk G) : SB G dL.scope (dL.body.drop 13) w_law_13 := by unfold w_law_13; refine SB_cons ?_ ?_; refine SX_own (n := 9) ?_ ?_ ?_ ?_; refine S0_cat ?_ ?_; refine SE_frz ?_; refine S0_cat ?_ ?_; refine SE_frz ?_; refine S0_rep ?_ ?_; refine S0_list ?_; refine SA_cons ?_ ?_ ?_; exact SE_int; exact SA_nil; exact (fun _ => rfl); exact SE_int; refine SE_name (n := 143) ?_; exact rfl; refine SE_frz ?_; refine S0_rep ?_ ?_; refine S0_list ?_; refine SA_cons ?_ ?_ ?_; exact SE_int; exact SA_nil; exact (fun _ => rfl); refine SE_bin ?_ ?_; exact SE_int; refine SE_len (n := 152) ?_ ?_ ?_; refine SA_cons ?_ ?_ ?_; refine SE_name (n := 143) ?_; exact rfl; exact SA_nil; exact (fun _ => rfl); exact (⟨rfl, rfl, by kernel_rfl, by kernel_rfl, by decide +kernel⟩); exact (fun _ => rfl); exact rfl; exact (.inl (by kernel_rfl)); exact (fun _ => rfl); refine s_law_14 ?_ ?_; exact hT; exact hI
/-- end = 512 + len(code) -/
@[irreducible] noncomputable def w_law_12 : WX := wSeq (wAsg 159 (wBin .Add (wInt 512) (wLen (wAc (wName 143) wA0)))) w_law_13
theorem s_law_12 {G : Gl nm Z1} (hT : ∀ f ns b, getN f T1 = some (ns, b) → DefOk G f ns b) (hI : InitOk G) : SB G dL.scope (dL.body.drop 12) w_law_12 := by unfold w_law_12; refine SB_cons ?_ ?_; refine SX_asg (n := 159) ?_ ?_ ?_ ?_; refine SE_bin ?_ ?_; exact SE_int; refine SE_len (n := 152) ?_ ?_ ?_; refine SA_cons ?_ ?_ ?_; refine SE_name (n := 143) ?_; exact rfl; exact SA_nil; exact (fun _ => rfl); exact (⟨rfl, rfl, by kernel_rfl, by kernel_rfl, by decide +kernel⟩); exact (fun _ => rfl); exact rfl; exact (.inl (by kernel_rfl)); exact (fun _ => rfl); refine s_law_13 ?_ ?_; exact hT; exact hI
/-- while signs: -/
@[irreducible] noncomputable def w_law_11 : WX := wSeq (wWhile (wTru (wName 127)) (wSeq (wAsT 2 (wFrz (wCall 1439 (wAc (wName 127) (wAc (wBool false) wA0)))) (wTc (wTN 136) (wTc (wTN 127) wT0))) (wSeq (wExpr (wApp (wName 158) (wName 136))) (wSeq (wExpr (wFrz (wCall 1453 (wAc (wName 136) (wAc (wName 143) (wAc (wName 144) (wAc (wName 145) wA0))))))) wNil)))) w_law_12
theorem s_law_11 {G : Gl nm Z1} (hT : ∀ f ns b, getN f T1 = some (ns, b) → DefOk G f ns b) (hI : InitOk G) : SB G dL.scope (dL.body.drop 11) w_law_11 := by unfold w_law_11; refine SB_cons ?_ ?_; refine SX_while ?_ ?_; refine ST_of ?_ ?_; refine SE_name (n := 127) ?_; exact rfl; exact (fun _ => rfl); refine SB_cons ?_ ?_; refine SX_asT ?_ ?_ ?_ ?_ ?_; refine SE_frz ?_; refine S0_call (f := 1439) (n := 129) ?_ ?_ ?_ ?_ ?_; exact (getN_mem rfl); refine SA_cons ?_ ?_ ?_; refine SE_name (n := 127) ?_; exact rfl; refine SA_cons ?_ ?_ ?_; exact SE_bool; exact SA_nil; exact (fun _ => rfl); exact (fun _ => rfl); exact rfl; exact (by kernel_rfl); exact (fun _ => rfl); refine SSs_cons ?_ ?_ ?_; refine SS_N (n := 136) ?_ ?_; exact rfl; exact (.inl (by kernel_rfl)); refine SSs_cons ?_ ?_ ?_; refine SS_N (n := 127) ?_ ?_; exact rfl; exact (.inl (by kernel_rfl)); exact SSs_nil; exact (fun _ => rfl); exact (fun _ => rfl); exact (fun _ => rfl); exact (fun _ => by kernel_rfl); exact (fun _ => rfl); refine SB_cons ?_ ?_; refine SX_expr ?_ ?_; refine SE_app ?_ ?_ ?_ ?_ ?_; refine SE_name (n := 158) ?_; exact rfl; refine SE_name (n := 136) ?_; exact rfl; exact rfl; exact (fun _ => rfl); exact (fun _ => ⟨_, rfl⟩); exact (fun _ => rfl); refine SB_cons ?_ ?_; refine SX_expr ?_ ?_; refine SE_frz ?_; refine S0_call (f := 1453) (n := 146) ?_ ?_ ?_ ?_ ?_; exact (getN_mem rfl); refine SA_cons ?_ ?_ ?_; refine SE_name (n := 136) ?_; exact rfl; refine SA_cons ?_ ?_ ?_; refine SE_name (n := 143) ?_; exact rfl; refine SA_cons ?_ ?_ ?_; refine SE_name (n := 144) ?_; exact rfl; refine SA_cons ?_ ?_ ?_; refine SE_name (n := 145) ?_; exact rfl; exact SA_nil; exact (fun _ => rfl); exact (fun _ => rfl); exact (fun _ => rfl); exact (fun _ => rfl); exact rfl; exact (by kernel_rfl); exact (fun _ => rfl); exact (fun _ => rfl); exact SB_nil; refine s_law_12 ?_ ?_; exact hT; exact hI
/-- plans = [] -/
@[irreducible] noncomputable def w_law_10 : WX := wSeq (wOwn 158 (wList wA0)) w_law_11
theorem s_law_10 {G : Gl nm Z1} (hT : ∀ f ns b, getN f T1 = some (ns, b) → DefOk G f ns b) (hI : InitOk G) : SB G dL.scope (dL.body.drop 10) w_law_10 := by unfold w_law_10; refine SB_cons ?_ ?_; refine SX_own (n := 158) ?_ ?_ ?_ ?_; refine S0_list ?_; exact SA_nil; exact rfl; exact (.inl (by kernel_rfl)); exact (fun _ => rfl); refine s_law_11 ?_ ?_; exact hT; exact hI
/-- start = 512 + len(code) -/
@[irreducible] noncomputable def w_law_9 : WX := wSeq (wAsg 157 (wBin .Add (wInt 512) (wLen (wAc (wName 143) wA0)))) w_law_10
theorem s_law_9 {G : Gl nm Z1} (hT : ∀ f ns b, getN f T1 = some (ns, b) → DefOk G f ns b) (hI : InitOk G) : SB G dL.scope (dL.body.drop 9) w_law_9 := by unfold w_law_9; refine SB_cons ?_ ?_; refine SX_asg (n := 157) ?_ ?_ ?_ ?_; refine SE_bin ?_ ?_; exact SE_int; refine SE_len (n := 152) ?_ ?_ ?_; refine SA_cons ?_ ?_ ?_; refine SE_name (n := 143) ?_; exact rfl; exact SA_nil; exact (fun _ => rfl); exact (⟨rfl, rfl, by kernel_rfl, by kernel_rfl, by decide +kernel⟩); exact (fun _ => rfl); exact rfl; exact (.inl (by kernel_rfl)); exact (fun _ => rfl); refine s_law_10 ?_ ?_; exact hT; exact hI
/-- for kind in range(6): -/
@[irreducible] noncomputable def w_law_8 : WX := wSeq (wFor (wRng (wAc (wInt 6) wA0)) (wTN 131) (wSeq (wExpr (wApp (wName 144) (wBin .Add (wInt 512) (wLen (wAc (wName 143) wA0))))) (wSeq (wIf (wCmpT .Eq (wName 131) (wInt 0)) (wSeq (wExpr (wApp (wName 143) (wInt 24))) wNil) (wSeq (wIf (wCmpT .Eq (wName 131) (wInt 1)) (wSeq (wExpr (wApp (wName 143) (wInt 56))) wNil) wNil) wNil)) (wSeq (wFor (wRng (wAc (wInt 4) wA0)) (wTN 148) (wSeq (wAsg 166 (wSub (wName 156) (wName 148))) (wSeq (wIf (wCmpT .Eq (wName 131) (wInt 0)) (wSeq (wAuN 143 .Add (wFrz (wCat (wFrz (wCat (wFrz (wCat (wFrz (wCat (wFrz (wCat (wFrz (wList (wAc (wInt 189) wA0))) (wName 166))) (wFrz (wList (wAc (wInt 121) wA0))))) (wName 166))) (wFrz (wList (wAc (wInt 157) wA0))))) (wName 166)))) wNil) (wSeq (wIf (wCmpT .Eq (wName 131) (wInt 1)) (wSeq (wAuN 143 .Add (wFrz (wCat (wFrz (wCat (wFrz (wCat (wFrz (wCat (wFrz (wCat (wFrz (wList (wAc (wInt 189) wA0))) (wName 166))) (wFrz (wList (wAc (wInt 249) wA0))))) (wName 166))) (wFrz (wList (wAc (wInt 157) wA0))))) (wName 166)))) wNil) (wSeq (wIf (wCmpT .Eq (wName 131) (wInt 2)) (wSeq (wAuN 143 .Add (wFrz (wCat (wFrz (wCat (wFrz (wCat (wFrz (wList (wAc (wInt 189) wA0))) (wName 166))) (wFrz (wList (wAc (wIfE (wCmpT .Eq (wName 148) (wInt 0)) (wInt 217) (wInt 249)) wA0))))) (wName 166)))) wNil) (wSeq (wIf (wCmpT .Eq (wName 131) (wInt 3)) (wSeq (wAuN 143 .Add (wFrz (wCat (wFrz (wList (wAc (wIfE (wCmpT .Eq (wName 148) (wInt 0)) (wInt 30) (wInt 62)) wA0))) (wName 166)))) wNil) (wSeq (wIf (wCmpT .Eq (wName 131) (wInt 4)) (wSeq (wAuN 143 .Add (wFrz (wCat (wFrz (wList (wAc (wIfE (wCmpT .Eq (wName 148) (wInt 0)) (wInt 94) (wInt 126)) wA0))) (wSub (wName 156) (wBin .Sub (wInt 3) (wName 148)))))) wNil) (wSeq (wAuN 143 .Add (wFrz (wCat (wFrz (wCat (wFrz (wCat (wFrz (wCat (wFrz (wCat (wFrz (wCat (wFrz (wCat (wFrz (wList (wAc (wInt 189) wA0))) (wName 166))) (wFrz (wList (wAc (wInt 72) (wAc (wInt 185) wA0)))))) (wName 166))) (wFrz (wList (wAc (wInt 157) wA0))))) (wName 166))) (wFrz (wList (wAc (wInt 104) (wAc (wInt 153) wA0)))))) (wName 166)))) wNil)) wNil)) wNil)) wNil)) wNil)) wNil))) (wSeq (wExpr (wApp (wName 143) (wInt 96))) wNil))))) w_law_9
theorem s_law_8 {G : Gl nm Z1} (hT : ∀ f ns b, getN f T1 = some (ns, b) → DefOk G f ns b) (hI : InitOk G) : SB G dL.scope (dL.body.drop 8) w_law_8 := by unfold w_law_8; refine SB_cons ?_ ?_; refine SX_for ?_ ?_ ?_ ?_; refine SI_range (n := 142) ?_ ?_ ?_; refine SA_cons ?_ ?_ ?_; exact SE_int; exact SA_nil; exact (fun _ => rfl); exact (⟨rfl, rfl, by kernel_rfl, by kernel_rfl, by decide +kernel⟩); exact (fun _ => rfl); refine SS_N (n := 131) ?_ ?_; exact rfl; exact (.inl (by kernel_rfl)); refine SB_cons ?_ ?_; refine SX_expr ?_ ?_; refine SE_app ?_ ?_ ?_ ?_ ?_; refine SE_name (n := 144) ?_; exact rfl; refine SE_bin ?_ ?_; exact SE_int; refine SE_len (n := 152) ?_ ?_ ?_; refine SA_cons ?_ ?_ ?_; refine SE_name (n := 143) ?_; exact rfl; exact SA_nil; exact (fun _ => rfl); exact (⟨rfl, rfl, by kernel_rfl, by kernel_rfl, by decide +kernel⟩); exact (fun _ => rfl); exact rfl; exact (fun _ => rfl); exact (fun _ => ⟨_, rfl⟩); exact (fun _ => rfl); refine SB_cons ?_ ?_; refine SX_if ?_ ?_ ?_; refine ST_cmp ?_ ?_ ?_; refine SE_name (n := 131) ?_; exact rfl; exact SE_int; exact rfl; refine SB_cons ?_ ?_; refine SX_expr ?_ ?_; refine SE_app ?_ ?_ ?_ ?_ ?_; refine SE_name (n := 143) ?_; exact rfl; exact SE_int; exact rfl; exact (fun _ => rfl); exact (fun _ => ⟨_, rfl⟩); exact (fun _ => rfl); exact SB_nil; refine SB_cons ?_ ?_; refine SX_if ?_ ?_ ?_; refine ST_cmp ?_ ?_ ?_; refine SE_name (n := 131) ?_; exact rfl; exact SE_int; exact rfl; refine SB_cons ?_ ?_; refine SX_expr ?_ ?_; refine SE_app ?_ ?_ ?_ ?_ ?_; refine SE_name (n := 143) ?_; exact rfl; exact SE_int; exact rfl; exact (fun _ => rfl); exact (fun _ => ⟨_, rfl⟩); exact (fun _ => rfl); exact SB_nil; exact SB_nil; exact SB_nil; refine SB_cons ?_ ?_; refine SX_for ?_ ?_ ?_ ?_; refine SI_range (n := 142) ?_ ?_ ?_; refine SA_cons ?_ ?_ ?_; exact SE_int; exact SA_nil; exact (fun _ => rfl); exact (⟨rfl, rfl, by kernel_rfl, by kernel_rfl, by decide +kernel⟩); exact (fun _ => rfl); refine SS_N (n := 148) ?_ ?_; exact rfl; exact (.inl (by kernel_rfl)); refine SB_cons ?_ ?_; refine SX_asg (n := 166) ?_ ?_ ?_ ?_; refine SE_sub ?_ ?_ ?_; refine SE_name (n := 156) ?_; exact rfl; refine SE_name (n := 148) ?_; exact rfl; exact (fun _ _ => rfl); exact rfl; exact (.inl (by kernel_rfl)); exact (fun _ => rfl); refine SB_cons ?_ ?_; refine SX_if ?_ ?_ ?_; refine ST_cmp ?_ ?_ ?_; refine SE_name (n := 131) ?_; exact rfl; exact SE_int; exact rfl; refine SB_cons ?_ ?_; refine SX_auN (n := 143) ?_ ?_ ?_; refine SE_frz ?_; refine S0_cat ?_ ?_; refine SE_frz ?_; refine S0_cat ?_ ?_; refine SE_frz ?_; refine S0_cat ?_ ?_; refine SE_frz ?_; refine S0_cat ?_ ?_; refine SE_frz ?_; refine S0_cat ?_ ?_; refine SE_frz ?_; refine S0_list ?_; refine SA_cons ?_ ?_ ?_; exact SE_int; exact SA_nil; exact (fun _ => rfl); refine SE_name (n := 166) ?_; exact rfl; refine SE_frz ?_; refine S0_list ?_; refine SA_cons ?_ ?_ ?_; exact SE_int; exact SA_nil; exact (fun _ => rfl); refine SE_name (n := 166) ?_; exact rfl; refine SE_frz ?_; refine S0_list ?_; refine SA_cons ?_ ?_ ?_; exact SE_int; exact SA_nil; exact (fun _ => rfl); refine SE_name (n := 166) ?_; exact rfl; exact rfl; exact (.inl (by kernel_rfl)); exact SB_nil; refine SB_cons ?_ ?_; refine SX_if ?_ ?_ ?_; refine ST_cmp ?_ ?_ ?_; refine SE_name (n := 131) ?_; exact rfl; exact SE_int; exact rfl; refine SB_cons ?_ ?_; refine SX_auN (n := 143) ?_ ?_ ?_; refine SE_frz ?_; refine S0_cat ?_ ?_; refine SE_frz ?_; refine S0_cat ?_ ?_; refine SE_frz ?_; refine S0_cat ?_ ?_; refine SE_frz ?_; refine S0_cat ?_ ?_; refine SE_frz ?_; refine S0_cat ?_ ?_; refine SE_frz ?_; refine S0_list ?_; refine SA_cons ?_ ?_ ?_; exact SE_int; exact SA_nil; exact (fun _ => rfl); refine SE_name (n := 166) ?_; exact rfl; refine SE_frz ?_; refine S0_list ?_; refine SA_cons ?_ ?_ ?_; exact SE_int; exact SA_nil; exact (fun _ => rfl); refine SE_name (n := 166) ?_; exact rfl; refine SE_frz ?_; refine S0_list ?_; refine SA_cons ?_ ?_ ?_; exact SE_int; exact SA_nil; exact (fun _ => rfl); refine SE_name (n := 166) ?_; exact rfl; exact rfl; exact (.inl (by kernel_rfl)); exact SB_nil; refine SB_cons ?_ ?_; refine SX_if ?_ ?_ ?_; refine ST_cmp ?_ ?_ ?_; refine SE_name (n := 131) ?_; exact rfl; exact SE_int; exact rfl; refine SB_cons ?_ ?_; refine SX_auN (n := 143) ?_ ?_ ?_; refine SE_frz ?_; refine S0_cat ?_ ?_; refine SE_frz ?_; refine S0_cat ?_ ?_; refine SE_frz ?_; refine S0_cat ?_ ?_; refine SE_frz ?_; refine S0_list ?_; refine SA_cons ?_ ?_ ?_; exact SE_int; exact SA_nil; exact (fun _ => rfl); refine SE_name (n := 166) ?_; exact rfl; refine SE_frz ?_; refine S0_list ?_; refine SA_cons ?_ ?_ ?_; refine SE_if ?_ ?_ ?_; refine ST_cmp ?_ ?_ ?_; refine SE_name (n := 148) ?_; exact rfl; exact SE_int; exact rfl; exact SE_int; exact SE_int; exact SA_nil; exact (fun _ => rfl); refine SE_name (n := 166) ?_; exact rfl; exact rfl; exact (.inl (by kernel_rfl)); exact SB_nil; refine SB_cons ?_ ?_; refine SX_if ?_ ?_ ?_; refine ST_cmp ?_ ?_ ?_; refine SE_name (n := 131) ?_; exact rfl; exact SE_int; exact rfl; refine SB_cons ?_ ?_; refine SX_auN (n := 143) ?_ ?_ ?_; refine SE_frz ?_; refine S0_cat ?_ ?_; refine SE_frz ?_; refine S0_list ?_; refine SA_cons ?_ ?_ ?_; refine SE_if ?_ ?_ ?_; refine ST_cmp ?_ ?_ ?_; refine SE_name (n := 148) ?_; exact rfl; exact SE_int; exact rfl; exact SE_int; exact SE_int; exact SA_nil; exact (fun _ => rfl); refine SE_name (n := 166) ?_; exact rfl; exact rfl; exact (.inl (by kernel_rfl)); exact SB_nil; refine SB_cons ?_ ?_; refine SX_if ?_ ?_ ?_; refine ST_cmp ?_ ?_ ?_; refine SE_name (n := 131) ?_; exact rfl; exact SE_int; exact rfl; refine SB_cons ?_ ?_; refine SX_auN (n := 143) ?_ ?_ ?_; refine SE_frz ?_; refine S0_cat ?_ ?_; refine SE_frz ?_; refine S0_list ?_; refine SA_cons ?_ ?_ ?_; refine SE_if ?_ ?_ ?_; refine ST_cmp ?_ ?_ ?_; refine SE_name (n := 148) ?_; exact rfl; exact SE_int; exact rfl; exact SE_int; exact SE_int; exact SA_nil; exact (fun _ => rfl); refine SE_sub ?_ ?_ ?_; refine SE_name (n := 156) ?_; exact rfl; refine SE_bin ?_ ?_; exact SE_int; refine SE_name (n := 148) ?_; exact rfl; exact (fun _ _ => rfl); exact rfl; exact (.inl (by kernel_rfl)); exact SB_nil; refine SB_cons ?_ ?_; refine SX_auN (n := 143) ?_ ?_ ?_; refine SE_frz ?_; refine S0_cat ?_ ?_; refine SE_frz ?_; refine S0_cat ?_ ?_; refine SE_frz ?_; refine S0_cat ?_ ?_; refine SE_frz ?_; refine S0_cat ?_ ?_; refine SE_frz ?_; refine S0_cat ?_ ?_; refine SE_frz ?_; refine S0_cat ?_ ?_; refine SE_frz ?_; refine S0_cat ?_ ?_; refine SE_frz ?_; refine S0_list ?_; refine SA_cons ?_ ?_ ?_; exact SE_int; exact SA_nil; exact (fun _ => rfl); refine SE_name (n := 166) ?_; exact rfl; refine SE_frz ?_; refine S0_list ?_; refine SA_cons ?_ ?_ ?_; exact SE_int; refine SA_cons ?_ ?_ ?_; exact SE_int; exact SA_nil; exact (fun _ => rfl); exact (fun _ => rfl); refine SE_name (n := 166) ?_; exact rfl; refine SE_frz ?_; refine S0_list ?_; refine SA_cons ?_ ?_ ?_; exact SE_int; exact SA_nil; exact (fun _ => rfl); refine SE_name (n := 166) ?_; exact rfl; refine SE_frz ?_; refine S0_list ?_; refine SA_cons ?_ ?_ ?_; exact SE_int; refine SA_cons ?_ ?_ ?_; exact SE_int; exact SA_nil; exact (fun _ => rfl); exact (fun _ => rfl); refine SE_name (n := 166) ?_; exact rfl; exact rfl; exact (.inl (by kernel_rfl)); exact SB_nil; exact SB_nil; exact SB_nil; exact SB_nil; exact SB_nil; exact SB_nil; exact (fun _ _ => rfl); refine SB_cons ?_ ?_; refine SX_expr ?_ ?_; refine SE_app ?_ ?_ ?_ ?_ ?_; refine SE_name (n := 143) ?_; exact rfl; exact SE_int; exact rfl; exact (fun _ => rfl); exact (fun _ => ⟨_, rfl⟩); exact (fun _ => rfl); exact SB_nil; exact (fun _ _ => rfl); refine s_law_9 ?_ ?_; exact hT; exact hI
/-- calls = [] -/
@[irreducible] noncomputable def w_law_7 : WX := wSeq (wOwn 144 (wList wA0)) w_law_8
theorem s_law_7 {G : Gl nm Z1} (hT : ∀ f ns b, getN f T1 = some (ns, b) → DefOk G f ns b) (hI : InitOk G) : SB G dL.scope (dL.body.drop 7) w_law_7 := by unfold w_law_7; refine SB_cons ?_ ?_; refine SX_own (n := 144) ?_ ?_ ?_ ?_; refine S0_list ?_; exact SA_nil; exact rfl; exact (.inl (by kernel_rfl)); exact (fun _ => rfl); refine s_law_8 ?_ ?_; exact hT; exact hI
/-- code = [] -/
@[irreducible] noncomputable def w_law_6 : WX := wSeq (wOwn 143 (wList wA0)) w_law_7
theorem s_law_6 {G : Gl nm Z1} (hT : ∀ f ns b, getN f T1 = some (ns, b) → DefOk G f ns b) (hI : InitOk G) : SB G dL.scope (dL.body.drop 6) w_law_6 := by unfold w_law_6; refine SB_cons ?_ ?_; refine SX_own (n := 143) ?_ ?_ ?_ ?_; refine S0_list ?_; exact SA_nil; exact rfl; exact (.inl (by kernel_rfl)); exact (fun _ => rfl); refine s_law_7 ?_ ?_; exact hT; exact hI
/-- octets = [[(base + place) % 256, (base + place) // 256] for place in range(4)] -/
@[irreducible] noncomputable def w_law_5 : WX := wSeq (wAsC 156 (wRng (wAc (wInt 4) wA0)) (wTN 148) (wFrz (wList (wAc (wBin .Mod (wBin .Add (wName 145) (wName 148)) (wInt 256)) (wAc (wBin .FloorDiv (wBin .Add (wName 145) (wName 148)) (wInt 256)) wA0)))) [145]) w_law_6
theorem s_law_5 {G : Gl nm Z1} (hT : ∀ f ns b, getN f T1 = some (ns, b) → DefOk G f ns b) (hI : InitOk G) : SB G dL.scope (dL.body.drop 5) w_law_5 := by unfold w_law_5; refine SB_cons ?_ ?_; refine SX_asC (n := 156) ?_ ?_ ?_ ?_ ?_ ?_ ?_ ?_; refine CompOk.of (fv := [145]) ?_; exact (by kernel_rfl); refine SI_range (n := 142) ?_ ?_ ?_; refine SA_cons ?_ ?_ ?_; exact SE_int; exact SA_nil; exact (fun _ => rfl); exact (⟨rfl, rfl, by kernel_rfl, by kernel_rfl, by decide +kernel⟩); exact (fun _ => rfl); refine SS_N (n := 148) ?_ ?_; exact rfl; exact (.inl (by kernel_rfl)); refine SE_frz ?_; refine S0_list ?_; refine SA_cons ?_ ?_ ?_; refine SE_bin ?_ ?_; refine SE_bin ?_ ?_; refine SE_name (n := 145) ?_; exact rfl; refine SE_name (n := 148) ?_; exact rfl; exact SE_int; refine SA_cons ?_ ?_ ?_; refine SE_bin ?_ ?_; refine SE_bin ?_ ?_; refine SE_name (n := 145) ?_; exact rfl; refine SE_name (n := 148) ?_; exact rfl; exact SE_int; exact SA_nil; exact (fun _ => rfl); exact (fun _ => rfl); exact (fun _ _ => rfl); exact rfl; exact (.inl (by kernel_rfl)); exact (fun _ => by kernel_rfl); refine s_law_6 ?_ ?_; exact hT; exact hI
/-- base = 1265 + total % 15 -/
@[irreducible] noncomputable def w_law_4 : WX := wSeq (wAsg 145 (wBin .Add (wInt 1265) (wBin .Mod (wName 155) (wInt 15)))) w_law_5
theorem s_law_4 {G : Gl nm Z1} (hT : ∀ f ns b, getN f T1 = some (ns, b) → DefOk G f ns b) (hI : InitOk G) : SB G dL.scope (dL.body.drop 4) w_law_4 := by unfold w_law_4; refine SB_cons ?_ ?_; refine SX_asg (n := 145) ?_ ?_ ?_ ?_; refine SE_bin ?_ ?_; exact SE_int; refine SE_bin ?_ ?_; refine SE_name (n := 155) ?_; exact rfl; exact SE_int; exact rfl; exact (.inr ⟨by kernel_rfl, by kernel_rfl⟩); exact (fun _ => rfl); refine s_law_5 ?_ ?_; exact hT; exact hI
/-- held.append(0) -/
@[irreducible] noncomputable def w_law_3 : WX := wSeq (wExpr (wApp (wName 137) (wInt 0))) w_law_4
theorem s_law_3 {G : Gl nm Z1} (hT : ∀ f ns b, getN f T1 = some (ns, b) → DefOk G f ns b) (hI : InitOk G) : SB G dL.scope (dL.body.drop 3) w_law_3 := by unfold w_law_3; refine SB_cons ?_ ?_; refine SX_expr ?_ ?_; refine SE_app ?_ ?_ ?_ ?_ ?_; refine SE_name (n := 137) ?_; exact rfl; exact SE_int; exact rfl; exact (fun _ => rfl); exact (fun _ => ⟨_, rfl⟩); exact (fun _ => rfl); refine s_law_4 ?_ ?_; exact hT; exact hI
/-- held = [(total * by + more) % 2 ** 32 for by, more in [(1, 0), (257, 65535), (2654435761, 4294967040), (40503, 16777216)]] -/
@[irreducible] noncomputable def w_law_2 : WX := wSeq (wAsC 137 (wItL (wFrz (wList (wAc (wTup (wAc (wInt 1) (wAc (wInt 0) wA0))) (wAc (wTup (wAc (wInt 257) (wAc (wInt 65535) wA0))) (wAc (wTup (wAc (wInt 2654435761) (wAc (wInt 4294967040) wA0))) (wAc (wTup (wAc (wInt 40503) (wAc (wInt 16777216) wA0))) wA0))))))) (wTgT 2 (wTc (wTN 167) (wTc (wTN 139) wT0))) (wBin .Mod (wBin .Add (wBin .Mult (wName 155) (wName 167)) (wName 139)) (wBin .Pow (wInt 2) (wInt 32))) [155]) w_law_3
theorem s_law_2 {G : Gl nm Z1} (hT : ∀ f ns b, getN f T1 = some (ns, b) → DefOk G f ns b) (hI : InitOk G) : SB G dL.scope (dL.body.drop 2) w_law_2 := by unfold w_law_2; refine SB_cons ?_ ?_; refine SX_asC (n := 137) ?_ ?_ ?_ ?_ ?_ ?_ ?_ ?_; refine CompOk.of (fv := [155]) ?_; exact (by kernel_rfl); refine SI_list ?_; refine SE_frz ?_; refine S0_list ?_; refine SA_cons ?_ ?_ ?_; refine SE_tup ?_; refine SA_cons ?_ ?_ ?_; exact SE_int; refine SA_cons ?_ ?_ ?_; exact SE_int; exact SA_nil; exact (fun _ => rfl); exact (fun _ => rfl); refine SA_cons ?_ ?_ ?_; refine SE_tup ?_; refine SA_cons ?_ ?_ ?_; exact SE_int; refine SA_cons ?_ ?_ ?_; exact SE_int; exact SA_nil; exact (fun _ => rfl); exact (fun _ => rfl); refine SA_cons ?_ ?_ ?_; refine SE_tup ?_; refine SA_cons ?_ ?_ ?_; exact SE_int; refine SA_cons ?_ ?_ ?_; exact SE_int; exact SA_nil; exact (fun _ => rfl); exact (fun _ => rfl); refine SA_cons ?_ ?_ ?_; refine SE_tup ?_; refine SA_cons ?_ ?_ ?_; exact SE_int; refine SA_cons ?_ ?_ ?_; exact SE_int; exact SA_nil; exact (fun _ => rfl); exact (fun _ => rfl); exact SA_nil; exact (fun _ => rfl); exact (fun _ => rfl); exact (fun _ => rfl); exact (fun _ => rfl); refine SS_T ?_ ?_; refine SSs_cons ?_ ?_ ?_; refine SS_N (n := 167) ?_ ?_; exact rfl; exact (.inl (by kernel_rfl)); refine SSs_cons ?_ ?_ ?_; refine SS_N (n := 139) ?_ ?_; exact rfl; exact (.inl (by kernel_rfl)); exact SSs_nil; exact (fun _ => rfl); exact (fun _ => rfl); exact (fun _ => rfl); refine SE_bin ?_ ?_; refine SE_bin ?_ ?_; refine SE_bin ?_ ?_; refine SE_name (n := 155) ?_; exact rfl; refine SE_name (n := 167) ?_; exact rfl; refine SE_name (n := 139) ?_; exact rfl; refine SE_bin ?_ ?_; exact SE_int; exact SE_int; exact (fun _ _ => rfl); exact rfl; exact (.inl (by kernel_rfl)); exact (fun _ => by kernel_rfl); refine s_law_3 ?_ ?_; exact hT; exact hI
/-- total = sum(script[:8]) -/
@[irreducible] noncomputable def w_law_1 : WX := wSeq (wAsg 155 (wSum (wAc (wFrz (wSli (wName 153) wP0 (wP (wInt 8)))) wA0))) w_law_2
theorem s_law_1 {G : Gl nm Z1} (hT : ∀ f ns b, getN f T1 = some (ns, b) → DefOk G f ns b) (hI : InitOk G) : SB G dL.scope (dL.body.drop 1) w_law_1 := by unfold w_law_1; refine SB_cons ?_ ?_; refine SX_asg (n := 155) ?_ ?_ ?_ ?_; refine SE_sum (n := 163) ?_ ?_ ?_; refine SA_cons ?_ ?_ ?_; refine SE_frz ?_; refine S0_slice ?_ ?_ ?_; refine SE_name (n := 153) ?_; exact rfl; exact SP_none; refine SP_some ?_; exact SE_int; exact SA_nil; exact (fun _ => rfl); exact (⟨rfl, rfl, by kernel_rfl, by kernel_rfl, by decide +kernel⟩); exact (fun _ => rfl); exact rfl; exact (.inr ⟨by kernel_rfl, by kernel_rfl⟩); exact (fun _ => rfl); refine s_law_2 ?_ ?_; exact hT; exact hI
/-- signs = script[:8] + [48] -/
@[irreducible] noncomputable def w_law_0 : WX := wSeq (wAsg 127 (wFrz (wCat (wFrz (wSli (wName 153) wP0 (wP (wInt 8)))) (wFrz (wList (wAc (wInt 48) wA0)))))) w_law_1
theorem s_law_0 {G : Gl nm Z1} (hT : ∀ f ns b, getN f T1 = some (ns, b) → DefOk G f ns b) (hI : InitOk G) : SB G dL.scope (dL.body.drop 0) w_law_0 := by unfold w_law_0; refine SB_cons ?_ ?_; refine SX_asg (n := 127) ?_ ?_ ?_ ?_; refine SE_frz ?_; refine S0_cat ?_ ?_; refine SE_frz ?_; refine S0_slice ?_ ?_ ?_; refine SE_name (n := 153) ?_; exact rfl; exact SP_none; refine SP_some ?_; exact SE_int; refine SE_frz ?_; refine S0_list ?_; refine SA_cons ?_ ?_ ?_; exact SE_int; exact SA_nil; exact (fun _ => rfl); exact rfl; exact (.inl (by kernel_rfl)); exact (fun _ => rfl); refine s_law_1 ?_ ?_; exact hT; exact hI
end VE
namespace VE
open M6
open Builtin (bitAnd bitOr bitXor bitNot)
noncomputable abbrev ML : Nat := 1536
/-- A plain view of the machine. -/
structure Rg where
  pc : Nat
  sp : Nat
  a : Nat
  x : Nat
  y : Nat
  f : Fg
  m : Nat → Nat
/-- What the law's other objects are, as the machine runs. -/
structure Oth where
  o0 : VO
  o1 : VO
  o2 : VO
  o3 : VO
  o4 : VO
  o6 : VO
noncomputable def fsR (adv : VV) (ex cy spc : Int) (pc sp a x y p : Int) : List (Nat × VV) :=
  [(1, .p .any), (2, .p (.int 255)), (3, .p (.int 65535)), (4, .p (.int 65280)), (5, .p (.int 256)), (6, .p (.int ex)), (7, adv), (8, .p (.int cy)), (9, .ref 5), (10, .p (.int spc)), (11, .p (.int pc)), (12, .p (.int sp)), (13, .p (.int a)), (14, .p (.int x)), (15, .p (.int y)), (16, .p (.int p))]
noncomputable def hpA (o : Oth) (adv : VV) (ex cy spc : Int) (pc sp a x y p : Int) (m : List PV) : List VO := [o.o0, o.o1, o.o2, o.o3, o.o4, .list m, o.o6, .inst (fsR adv ex cy spc pc sp a x y p)]
/-- What of the machine no one asks. -/
structure Jk where
  ex : Int
  ad : Int
  cy : Int
  spc : Int
noncomputable abbrev hpR (o : Oth) (j : Jk) (pc sp a x y p : Int) (m : List PV) : List VO := hpA o (.p (.int j.ad)) j.ex j.cy j.spc pc sp a x y p m
noncomputable def hpM (o : Oth) (adv : VV) (ex cy spc : Int) (r : Rg) : List VO := hpA o adv ex cy spc r.pc r.sp r.a r.x r.y (pI r.f) (ml ML r.m)
/-- One step of the machine leads from r to r'. -/
structure Stp (r r' : Rg) : Prop where
  run : ∀ o adv ex cy spc Q, (∀ adv ex cy spc, Q (.val (.ref 7)) (hpM o adv ex cy spc r')) → callsOf T1L 40 43 [.ref 7] (hpM o adv ex cy spc r) Q
theorem callI {T : Defs} {d : Nat} {f : Addr} {as : List VV} {hp : List VO} {Q : Rs → List VO → Prop} {ns : List Nat} {b : WX} (e : getN f T = some (ns, b)) (q : gd (Nat.beq as.length ns.length) (b (callsOf T d) ⟨ns.zip as, hp⟩ fun fl τ' => retW hp.length τ'.hp (retv fl) Q)) : callsOf T (d + 1) f as hp Q := by
  rw [callsOf_s]
  show (match getN f T with | some (ns, b) => _ | none => _)
  rw [e]; exact q
theorem hp_fin {o : Oth} {P : List VO → Prop} {j j' : Jk} {pc sp a x y p pc' sp' a' x' y' p' : Int} {m m' : List PV} (h : P (hpR o j' pc' sp' a' x' y' p' m')) (e0 : j = j') (e1 : pc = pc') (e2 : sp = sp') (e3 : a = a') (e4 : x = x') (e5 : y = y') (e6 : p = p') (e7 : m = m') :
    P (hpR o j pc sp a x y p m) := by
  subst e0 e1 e2 e3 e4 e5 e6 e7
  exact h
/-- The same, whatever of the rest no one asks. -/
theorem hp_fj {o : Oth} {P : List VO → Prop} {j : Jk} {pc sp a x y p pc' sp' a' x' y' p' : Int} {m m' : List PV} (h : ∀ j', P (hpR o j' pc' sp' a' x' y' p' m')) (e1 : pc = pc') (e2 : sp = sp') (e3 : a = a') (e4 : x = x') (e5 : y = y') (e6 : p = p') (e7 : m = m') :
    P (hpR o j pc sp a x y p m) := by
  subst e1 e2 e3 e4 e5 e6 e7
  exact h j
noncomputable def tabL (n : Nat) : List PV := match getN n Z1.tabs with
  | some l => l
  | none => []
theorem fn_of {f : Addr} {Q : Addr → Prop} (h : ∀ P : Addr → Prop, P f → fnV Z1 (.p (.fn f)) P) (q : Q f) : fnV Z1 (.p (.fn f)) Q := h Q q
theorem pcN {T : Defs} {d : Nat} {f : Addr} {as : List VV} {Q : Rs → List VO → Prop} {o : Oth} {j : Jk} {pc sp a x y p : Int} {m : List PV} {n : Nat} (e : pc = (n : Int)) (h : callsOf T d f as (hpR o j (n : Int) sp a x y p m) Q) : callsOf T d f as (hpR o j pc sp a x y p m) Q := by rw [e]; exact h
/-- An address's method gives k. -/
noncomputable def Adr (o : Oth) (f : Addr) (pc sp a x y p : Int) (m : List PV) (k : Nat) : Prop := ∀ d j Q, (∀ j', Q (.val (.p (.int (k : Int)))) (hpR o j' pc sp a x y p m)) → callsOf T1L (d + 6) f [.ref 7] (hpR o j pc sp a x y p m) Q
/-- An op with an address leads to a state. -/
noncomputable def Op (o : Oth) (f : Addr) (as : List VV) (pc sp a x y p : Int) (m : List PV) (pc' sp' a' x' y' p' : Int) (m' : List PV) : Prop := ∀ d j Q, (∀ j', Q (.val (.p .none)) (hpR o j' pc' sp' a' x' y' p' m')) → callsOf T1L (d + 12) f (.ref 7 :: as) (hpR o j pc sp a x y p m) Q
theorem stp_of {n n2 sp sp2 a x y a2 x2 y2 : Nat} {f f2 : Fg} {pc2 : Int} {m m2 : Nat → Nat} {op : Nat} {fn : Addr} {ex cy : Int} (e1 : pick (tabL 32) (op : Int) = some (.int ex)) (e2 : pick (tabL 30) (op : Int) = some (.fn fn)) (e3 : pick (tabL 31) (op : Int) = some (.int cy)) (eo : idxOk (op : Int))
    (ef : ∀ P : Addr → Prop, P fn → fnV Z1 (.p (.fn fn)) P) (hn : n < ML) (h0 : m n = op) (hpc : bitAnd pc2 65535 = (n2 : Int))
    (run : ∀ o j Q, (∀ j', Q (.val (.p .none)) (hpR o j' pc2 (sp2 : Int) a2 x2 y2 (pI f2) (ml ML m2))) → callsOf T1L 39 fn [.ref 7] (hpR o j ((n + 1 : Nat) : Int) (sp : Int) a x y (pI f) (ml ML m)) Q) :
    Stp ⟨n, sp, a, x, y, f, m⟩ ⟨n2, sp2, a2, x2, y2, f2, m2⟩ := by
  refine ⟨fun o adv ex0 cy0 spc Q h => ?_⟩
  have hn' : n < 65536 := Nat.lt_of_lt_of_le hn (by decide)
  have hn2 : n + 1 < 65536 := Nat.lt_of_le_of_lt hn (by decide)
  refine callI rfl ?_
  refine And.intro (iOk (n := n) hn') (Exists.intro _ (Exists.intro _ (And.intro rfl (And.intro (ml_atV (k := n) (v := op) hn h0) ?_))))
  refine And.intro eo (Exists.intro _ (Exists.intro _ (And.intro rfl (And.intro e1 ?_))))
  refine And.intro eo (Exists.intro _ (Exists.intro _ (And.intro rfl (And.intro e2 ?_))))
  refine fn_of ef ?_
  refine pcN (n := n + 1) (j := ⟨0, ex, cy0, spc⟩) (wrapE (n := n + 1) rfl hn2) ?_
  refine run o _ _ fun j' => ?_
  refine And.intro eo (Exists.intro _ (Exists.intro _ (And.intro rfl (And.intro e3 ?_))))
  refine Or.inl (And.intro rfl ?_)
  exact hp_fin (P := Q (.val (.ref 7))) (j := ⟨j'.ex, j'.ad, j'.cy + (cy + j'.ex), j'.spc⟩) (j' := ⟨j'.ex, j'.ad, j'.cy + (cy + j'.ex), j'.spc⟩) (h (.p (.int j'.ad)) j'.ex (j'.cy + (cy + j'.ex)) j'.spc) rfl hpc rfl rfl rfl rfl rfl rfl
section
variable {d n sp k : Nat} {o : Oth} {j : Jk} {pc a x y p v : Int} {m : Nat → Nat} {f : Fg} {Q : Rs → List VO → Prop}
theorem flz_c {spI : Int} {mm : List PV} (hk : k < 256) (h : Q (.val (.p .none)) (hpR o j pc spI a x y (pI (f.nz k)) mm)) : callsOf T1L (d + 1) 197 [.ref 7, .p (.int (k : Int))] (hpR o j pc spI a x y (pI f) mm) Q := by
  refine callI rfl ?_
  cases hc : ((k : Int) == 0)
  · refine brF hc ?_
    refine Or.inl (And.intro rfl ?_)
    exact hp_fin (P := Q (.val (.p .none))) h rfl rfl rfl rfl rfl rfl (by rw [pNZ0, pOrN hk rfl]; rw [te] at hc; unfold Fg.nz; rw [hc]) rfl
  · refine brT hc ?_
    refine Or.inl (And.intro rfl ?_)
    exact hp_fin (P := Q (.val (.p .none))) h rfl rfl rfl rfl rfl rfl (by rw [te] at hc; have := Nat.eq_of_beq_eq_true hc; subst this; rw [pNZ0, pSetZ]; rfl) rfl
theorem byte_c {spI : Int} (hn : n < ML) (h : Q (.val (.p (.int (m n : Int)))) (hpR o j pc spI a x y p (ml ML m))) : callsOf T1L (d + 1) 71 [.ref 7, .p (.int (n : Int))] (hpR o j pc spI a x y p (ml ML m)) Q := by
  refine callI rfl ?_
  refine And.intro (iOk (n := n) (Nat.lt_of_lt_of_le hn (by decide))) (Exists.intro _ (Exists.intro _ (And.intro rfl (And.intro (ml_at hn) ?_))))
  refine Or.inl (And.intro rfl ?_)
  exact h
theorem byte_e {spI z : Int} (e : z = (n : Int)) (hn : n < ML) (h : Q (.val (.p (.int (m n : Int)))) (hpR o j pc spI a x y p (ml ML m))) : callsOf T1L (d + 1) 71 [.ref 7, .p (.int z)] (hpR o j pc spI a x y p (ml ML m)) Q := by
  rw [e]; exact byte_c hn h
theorem word_c {spI : Int} (hn : n + 1 < ML) (hb : m (n + 1) < 256) (h : Q (.val (.p (.int ((m n + m (n + 1) * 256 : Nat) : Int)))) (hpR o j pc spI a x y p (ml ML m))) : callsOf T1L (d + 2) 78 [.ref 7, .p (.int (n : Int))] (hpR o j pc spI a x y p (ml ML m)) Q := by
  refine callI rfl ?_
  refine byte_c (by (clear hb; lia)) ?_
  refine byte_c (n := n + 1) hn ?_
  refine And.intro (bits8 (by (clear hn; lia))) ?_
  refine Or.inl (And.intro rfl ?_)
  rw [← wadd] at h
  exact h
theorem pc_a (hn : n < ML) {spI : Int} {mm : List PV} : Adr o 92 (n : Int) spI a x y p mm n := fun d j Q h => by
  refine callI rfl ?_
  refine Or.inl (And.intro rfl ?_)
  exact h j
theorem pop_c (s1 : sp + 1 < 256) (h : Q (.val (.p (.int (m (sp + 1 + 256) : Int)))) (hpR o j pc ((sp + 1 : Nat) : Int) a x y p (ml ML m))) : callsOf T1L (d + 2) 176 [.ref 7] (hpR o j pc (sp : Int) a x y p (ml ML m)) Q := by
  refine callI rfl ?_
  refine byte_e (n := sp + 1 + 256) (by rw [spu s1]; rfl) (by have : 512 ≤ ML := by decide
                                                              lia) ?_
  refine Or.inl (And.intro rfl ?_)
  exact hp_fin (P := Q (.val (.p (.int (m (sp + 1 + 256) : Int))))) h rfl rfl (spu s1) rfl rfl rfl rfl rfl
theorem push_c {q : Nat} (s1 : sp + 1 < 256) (hq : bitAnd v 255 = (q : Int)) (h : Q (.val (.p .none)) (hpR o j pc (sp : Int) a x y p (ml ML (upd m (sp + 1 + 256) q)))) : callsOf T1L (d + 1) 169 [.ref 7, .p (.int v)] (hpR o j pc ((sp + 1 : Nat) : Int) a x y p (ml ML m)) Q := by
  have hL : 512 ≤ ML := by decide
  refine callI rfl ?_
  refine And.intro (stE (n := sp + 1 + 256) rfl (by (clear hq; lia)) (by decide)) ?_
  refine Or.inl (And.intro rfl ?_)
  exact hp_fin (P := Q (.val (.p .none))) h rfl rfl (spd s1) rfl rfl rfl rfl (ml_setE (n := sp + 1 + 256) rfl hq (by (clear hq; lia)))
theorem popW_c (s1 : sp + 2 < 256) (hb : m (sp + 2 + 256) < 256) (h : Q (.val (.p (.int ((m (sp + 1 + 256) + m (sp + 2 + 256) * 256 : Nat) : Int)))) (hpR o j pc ((sp + 2 : Nat) : Int) a x y p (ml ML m))) : callsOf T1L (d + 3) 190 [.ref 7] (hpR o j pc (sp : Int) a x y p (ml ML m)) Q := by
  refine callI rfl ?_
  refine pop_c (by (clear hb; lia)) ?_
  refine pop_c (sp := sp + 1) s1 ?_
  refine And.intro (bits8 (m := m (sp + 2 + 256)) (by (clear s1; lia))) ?_
  refine Or.inl (And.intro rfl ?_)
  rw [← wadd] at h
  exact h
theorem pushW_c (hn : n < 65536) (s1 : sp + 2 < 256) (h : Q (.val (.p .none)) (hpR o j pc (sp : Int) a x y p (ml ML (upd (upd m (sp + 2 + 256) (n / 256)) (sp + 1 + 256) (n % 256))))) : callsOf T1L (d + 2) 183 [.ref 7, .p (.int (n : Int))] (hpR o j pc ((sp + 2 : Nat) : Int) a x y p (ml ML m)) Q := by
  refine callI rfl ?_
  refine And.intro (by decide) ?_
  refine push_c (sp := sp + 1) (q := n / 256) s1 (hi8 hn) ?_
  refine push_c (sp := sp) (q := n % 256) (by (clear hn; lia)) lo8 ?_
  refine Or.inl (And.intro rfl ?_)
  exact h
theorem pushW_e {z : Int} (e : z = (n : Int)) (hn : n < 65536) (s1 : sp + 2 < 256) (h : Q (.val (.p .none)) (hpR o j pc (sp : Int) a x y p (ml ML (upd (upd m (sp + 2 + 256) (n / 256)) (sp + 1 + 256) (n % 256))))) : callsOf T1L (d + 2) 183 [.ref 7, .p (.int z)] (hpR o j pc ((sp + 2 : Nat) : Int) a x y p (ml ML m)) Q := by
  rw [e]; exact pushW_c hn s1 h
theorem abs_a (hn : n + 1 < ML) (hb : m (n + 1) < 256) {spI : Int} : Adr o 141 (n : Int) spI a x y p (ml ML m) (m n + m (n + 1) * 256) := fun d j Q h => by
  refine callI rfl ?_
  refine word_c hn hb ?_
  refine Or.inl (And.intro rfl ?_)
  exact h j
theorem absx_a {i : Nat} (hn : n + 1 < ML) (hb : m (n + 1) < 256) (hk : m n + m (n + 1) * 256 + i < 65536) {spI : Int} : Adr o 148 (n : Int) spI a (i : Int) y p (ml ML m) (m n + m (n + 1) * 256 + i) := fun d j Q h => by
  have e : bitAnd (((m n + m (n + 1) * 256 : Nat) : Int) + (i : Int)) 65535 = ((m n + m (n + 1) * 256 + i : Nat) : Int) := wrapE addE hk
  refine callI rfl ?_
  cases ha : (j.ad != 0)
  · refine brF ha ?_
    refine word_c hn hb ?_
    refine Or.inl (And.intro rfl ?_)
    rw [← e] at h
    exact h j
  · refine brT ha ?_
    refine word_c hn hb ?_
    cases hc : (!(bitAnd ((m n + m (n + 1) * 256 : Nat) : Int) 65280 == bitAnd (bitAnd (((m n + m (n + 1) * 256 : Nat) : Int) + (i : Int)) 65535) 65280))
    · refine brF hc ?_
      refine Or.inl (And.intro rfl ?_)
      rw [← e] at h
      exact h j
    · refine brT hc ?_
      refine Or.inl (And.intro rfl ?_)
      rw [← e] at h
      exact h ⟨j.ex + 1, j.ad, j.cy, j.spc⟩
theorem absy_a {i : Nat} (hn : n + 1 < ML) (hb : m (n + 1) < 256) (hk : m n + m (n + 1) * 256 + i < 65536) {spI : Int} : Adr o 155 (n : Int) spI a x (i : Int) p (ml ML m) (m n + m (n + 1) * 256 + i) := fun d j Q h => by
  have e : bitAnd (((m n + m (n + 1) * 256 : Nat) : Int) + (i : Int)) 65535 = ((m n + m (n + 1) * 256 + i : Nat) : Int) := wrapE addE hk
  refine callI rfl ?_
  cases ha : (j.ad != 0)
  · refine brF ha ?_
    refine word_c hn hb ?_
    refine Or.inl (And.intro rfl ?_)
    rw [← e] at h
    exact h j
  · refine brT ha ?_
    refine word_c hn hb ?_
    cases hc : (!(bitAnd ((m n + m (n + 1) * 256 : Nat) : Int) 65280 == bitAnd (bitAnd (((m n + m (n + 1) * 256 : Nat) : Int) + (i : Int)) 65535) 65280))
    · refine brF hc ?_
      refine Or.inl (And.intro rfl ?_)
      rw [← e] at h
      exact h j
    · refine brT hc ?_
      refine Or.inl (And.intro rfl ?_)
      rw [← e] at h
      exact h ⟨j.ex + 1, j.ad, j.cy, j.spc⟩
theorem lda_o {g : Addr} {spI : Int} (hA : Adr o g pc spI a x y (pI f) (ml ML m) k) (hk : k < ML) (hv : m k < 256) : Op o 344 [.meth g 7] pc spI a x y (pI f) (ml ML m) pc spI (m k) x y (pI (f.nz (m k))) (ml ML m) := fun d j Q h => by
  refine callI rfl ?_
  refine hA _ _ _ fun j' => ?_
  refine byte_c hk ?_
  refine flz_c hv ?_
  refine Or.inl (And.intro rfl ?_)
  exact h j'
theorem ldx_o {g : Addr} {spI : Int} (hA : Adr o g pc spI a x y (pI f) (ml ML m) k) (hk : k < ML) (hv : m k < 256) : Op o 358 [.meth g 7] pc spI a x y (pI f) (ml ML m) pc spI a (m k) y (pI (f.nz (m k))) (ml ML m) := fun d j Q h => by
  refine callI rfl ?_
  refine hA _ _ _ fun j' => ?_
  refine byte_c hk ?_
  refine flz_c hv ?_
  refine Or.inl (And.intro rfl ?_)
  exact h j'
theorem ldy_o {g : Addr} {spI : Int} (hA : Adr o g pc spI a x y (pI f) (ml ML m) k) (hk : k < ML) (hv : m k < 256) : Op o 351 [.meth g 7] pc spI a x y (pI f) (ml ML m) pc spI a x (m k) (pI (f.nz (m k))) (ml ML m) := fun d j Q h => by
  refine callI rfl ?_
  refine hA _ _ _ fun j' => ?_
  refine byte_c hk ?_
  refine flz_c hv ?_
  refine Or.inl (And.intro rfl ?_)
  exact h j'
theorem sta_o {g : Addr} {spI : Int} {v : Nat} (hA : Adr o g pc spI (v : Int) x y (pI f) (ml ML m) k) (hk : k < ML) : Op o 295 [.meth g 7] pc spI (v : Int) x y (pI f) (ml ML m) pc spI (v : Int) x y (pI f) (ml ML (upd m k v)) := fun d j Q h => by
  refine callI rfl ?_
  refine hA _ _ _ fun j' => ?_
  refine And.intro (stE (n := k) rfl hk (by decide)) ?_
  refine Or.inl (And.intro rfl ?_)
  exact hp_fin (P := Q (.val (.p .none))) (h j') rfl rfl rfl rfl rfl rfl rfl (ml_setE (n := k) rfl rfl hk)
theorem adc_o {g : Addr} {spI : Int} {v : Nat} (hA : Adr o g pc spI (v : Int) x y (pI f) (ml ML m) k) (hk : k < ML) (hv : m k < 256) : Op o 281 [.meth g 7] pc spI (v : Int) x y (pI f) (ml ML m) pc spI (((m k + v + f.c.toNat) % 256 : Nat) : Int) x y (pI (f.ad (ovA v (m k) f.c.toNat) (m k + v + f.c.toNat))) (ml ML m) := fun d j Q h => by
  refine callI rfl ?_
  refine hA _ _ _ fun j' => ?_
  refine byte_c hk ?_
  refine brF (pD f) ?_
  cases hc : f.c
  all_goals rw [hc] at h
  · have er : ((m k : Nat) : Int) + (v : Int) + 0 = ((m k + v + 0 : Nat) : Int) := by (clear hc hk hv; lia)
    refine brF (by rw [pC]; exact hc) ?_
    refine brB (fun hV => ?_) (fun hV => ?_)
    all_goals refine brB (fun hg => ?_) (fun hg => ?_)
    all_goals refine brB (fun hz => ?_) (fun hz => ?_)
    all_goals refine Or.inl (And.intro rfl ?_)
    all_goals exact hp_fin (P := Q (.val (.p .none))) (h j') rfl rfl rfl (adc_end (f := f) er hV hg rfl hz).1 rfl rfl (adc_end (f := f) er hV hg rfl hz).2 rfl
  · have er : ((m k : Nat) : Int) + (v : Int) + 1 = ((m k + v + 1 : Nat) : Int) := by (clear hc hk hv; lia)
    refine brT (by rw [pC]; exact hc) ?_
    refine brB (fun hV => ?_) (fun hV => ?_)
    all_goals refine brB (fun hg => ?_) (fun hg => ?_)
    all_goals first | refine brB (fun hz => ?_) (fun hz => ?_) | skip
    all_goals refine Or.inl (And.intro rfl ?_)
    all_goals first
      | exact hp_fin (P := Q (.val (.p .none))) (h j') rfl rfl rfl (adc_end (f := f) er hV hg rfl hz).1 rfl rfl (adc_end (f := f) er hV hg rfl hz).2 rfl
      | exact hp_fin (P := Q (.val (.p .none))) (h j') rfl rfl rfl (adc_end (f := f) (Zb := false) er hV hg rfl rfl).1 rfl rfl (adc_end (f := f) (Zb := false) er hV hg rfl rfl).2 rfl
theorem sbc_o {g : Addr} {spI : Int} {v : Nat} (hA : Adr o g pc spI (v : Int) x y (pI f) (ml ML m) k) (hk : k < ML) (hv : m k < 256) : Op o 323 [.meth g 7] pc spI (v : Int) x y (pI f) (ml ML m) pc spI (((v + (255 - m k) + f.c.toNat) % 256 : Nat) : Int) x y (pI (f.ad (ovS v (m k) f.c.toNat) (v + (255 - m k) + f.c.toNat))) (ml ML m) := fun d j Q h => by
  refine callI rfl ?_
  refine hA _ _ _ fun j' => ?_
  refine byte_c hk ?_
  refine brF (pD f) ?_
  have er : (v : Int) + bitAnd (bitNot ((m k : Nat) : Int)) 255 + bitAnd (pI f) 1 = ((v + (255 - m k) + f.c.toNat : Nat) : Int) := by rw [not8 _ hv, pCi]; (clear hk hv; lia)
  refine brB (fun hV => ?_) (fun hV => ?_)
  all_goals refine brB (fun hz => ?_) (fun hz => ?_)
  all_goals refine brB (fun hg => ?_) (fun hg => ?_)
  all_goals refine Or.inl (And.intro rfl ?_)
  all_goals exact hp_fin (P := Q (.val (.p .none))) (h j') rfl rfl rfl (sbc_end (f := f) er hV hz hg).1 rfl rfl (sbc_end (f := f) er hV hz hg).2 rfl
theorem cmp_o {g : Addr} {spI : Int} {r : Nat} (hA : Adr o g pc spI a x y (pI f) (ml ML m) k) (hk : k < ML) (hv : m k < 256) (hr : r < 256) : Op o 316 [.meth g 7, .p (.int (r : Int))] pc spI a x y (pI f) (ml ML m) pc spI a x y (pI (f.cp r (m k))) (ml ML m) := fun d j Q h => by
  refine callI rfl ?_
  refine hA _ _ _ fun j' => ?_
  refine byte_c hk ?_
  refine brB (fun h1 => ?_) (fun h1 => ?_)
  · refine Or.inl (And.intro rfl ?_)
    exact hp_fin (P := Q (.val (.p .none))) (h j') rfl rfl rfl rfl rfl rfl (cmp_1 hr hv h1) rfl
  · refine brB (fun h2 => ?_) (fun h2 => ?_)
    · refine Or.inl (And.intro rfl ?_)
      exact hp_fin (P := Q (.val (.p .none))) (h j') rfl rfl rfl rfl rfl rfl (cmp_2 hr hv h1 h2) rfl
    · refine Or.inl (And.intro rfl ?_)
      exact hp_fin (P := Q (.val (.p .none))) (h j') rfl rfl rfl rfl rfl rfl (cmp_3 hr hv h1 h2) rfl
theorem asl_o {g : Addr} {spI : Int} (hA : Adr o g pc spI a x y (pI f) (ml ML m) k) (hk : k < ML) (hv : m k < 256) : Op o 211 [.meth g 7] pc spI a x y (pI f) (ml ML m) pc spI a x y (pI (f.sh (2 * m k % 256) (Nat.ble 128 (m k)))) (ml ML (upd m k (2 * m k % 256))) := fun d j Q h => by
  refine callI rfl ?_
  refine hA _ _ _ fun j' => ?_
  refine byte_c hk ?_
  refine brB (fun h1 => ?_) (fun h1 => ?_)
  all_goals refine And.intro (bits1 (Nat.lt_trans hv (by decide))) ?_
  all_goals refine brB (fun h2 => ?_) (fun h2 => ?_)
  all_goals refine And.intro (stE (n := k) rfl hk (by decide)) ?_
  all_goals refine Or.inl (And.intro rfl ?_)
  all_goals exact hp_fin (P := Q (.val (.p .none))) (h j') rfl rfl rfl rfl rfl rfl (asl_end hv h1 h2) (ml_setE (n := k) rfl dbl8 hk)
theorem lsr_o {g : Addr} {spI : Int} (hA : Adr o g pc spI a x y (pI f) (ml ML m) k) (hk : k < ML) (hv : m k < 256) : Op o 218 [.meth g 7] pc spI a x y (pI f) (ml ML m) pc spI a x y (pI (f.sh (m k / 2) (Nat.beq (m k % 2) 1))) (ml ML (upd m k (m k / 2))) := fun d j Q h => by
  refine callI rfl ?_
  refine hA _ _ _ fun j' => ?_
  refine byte_c hk ?_
  refine And.intro (by decide) ?_
  refine brB (fun h2 => ?_) (fun h2 => ?_)
  all_goals refine And.intro (stE (n := k) rfl hk (by decide)) ?_
  all_goals refine Or.inl (And.intro rfl ?_)
  all_goals exact hp_fin (P := Q (.val (.p .none))) (h j') rfl rfl rfl rfl rfl rfl (lsr_end hv h2) (ml_setE (n := k) rfl half8 hk)
theorem flz_e {spI v' p' : Int} {mm : List PV} (e1 : v' = (k : Int)) (e2 : p' = pI f) (hk : k < 256) (h : Q (.val (.p .none)) (hpR o j pc spI a x y (pI (f.nz k)) mm)) : callsOf T1L (d + 1) 197 [.ref 7, .p (.int v')] (hpR o j pc spI a x y p' mm) Q := by
  rw [e1, e2]; exact flz_c hk h
theorem rol_o {g : Addr} {spI : Int} (hA : Adr o g pc spI a x y (pI f) (ml ML m) k) (hk : k < ML) (hv : m k < 256) : Op o 267 [.meth g 7] pc spI a x y (pI f) (ml ML m) pc spI a x y (pI (f.sh ((2 * m k + f.c.toNat) % 256) (Nat.ble 128 (m k)))) (ml ML (upd m k ((2 * m k + f.c.toNat) % 256))) := fun d j Q h => by
  refine callI rfl ?_
  refine hA _ _ _ fun j' => ?_
  refine byte_c hk ?_
  cases hc : f.c
  all_goals rw [hc] at h
  · have e : bitAnd ((m k : Int) * 2 ^ (1 : Int).toNat) 255 = (((2 * m k + false.toNat) % 256 : Nat) : Int) := dbl8
    refine brF (by rw [pC]; exact hc) ?_
    refine brB (fun h1 => ?_) (fun h1 => ?_)
    all_goals refine And.intro (bits1 (Nat.lt_trans hv (by decide))) ?_
    all_goals refine flz_e (f := ⟨f.n, f.v, f.z, Nat.ble 128 (m k)⟩) e (by rw [t128 hv] at h1; rw [h1]; first | exact rl_0 hc (b := true) | exact rl_0 hc (b := false)) (Nat.mod_lt _ (by decide)) ?_
    all_goals refine And.intro (stE (n := k) rfl hk (by decide)) ?_
    all_goals refine Or.inl (And.intro rfl ?_)
    all_goals exact hp_fin (P := Q (.val (.p .none))) (h j') rfl rfl rfl rfl rfl rfl rfl (ml_setE (n := k) rfl e hk)
  · have e : bitAnd (bitOr ((m k : Int) * 2 ^ (1 : Int).toNat) 1) 255 = (((2 * m k + true.toNat) % 256 : Nat) : Int) := by rw [or1 hv, and255]; rfl
    refine brT (by rw [pC]; exact hc) ?_
    refine brB (fun h1 => ?_) (fun h1 => ?_)
    all_goals refine And.intro (bits1 (Nat.lt_trans hv (by decide))) ?_
    all_goals refine flz_e (f := ⟨f.n, f.v, f.z, Nat.ble 128 (m k)⟩) e (by rw [t128 hv] at h1; rw [h1]; first | exact rl_1 hc (b := true) | exact rl_1 hc (b := false)) (Nat.mod_lt _ (by decide)) ?_
    all_goals refine And.intro (stE (n := k) rfl hk (by decide)) ?_
    all_goals refine Or.inl (And.intro rfl ?_)
    all_goals exact hp_fin (P := Q (.val (.p .none))) (h j') rfl rfl rfl rfl rfl rfl rfl (ml_setE (n := k) rfl e hk)
theorem ror_o {g : Addr} {spI : Int} (hA : Adr o g pc spI a x y (pI f) (ml ML m) k) (hk : k < ML) (hv : m k < 256) : Op o 288 [.meth g 7] pc spI a x y (pI f) (ml ML m) pc spI a x y (pI (f.sh (m k / 2 + cond f.c 128 0) (Nat.beq (m k % 2) 1))) (ml ML (upd m k (m k / 2 + cond f.c 128 0))) := fun d j Q h => by
  refine callI rfl ?_
  refine hA _ _ _ fun j' => ?_
  refine byte_c hk ?_
  cases hc : f.c
  all_goals rw [hc] at h
  · have e : Int.fdiv (m k : Int) (2 ^ (1 : Int).toNat) = ((m k / 2 + cond false 128 0 : Nat) : Int) := half8
    refine brF (by rw [pC]; exact hc) ?_
    refine brB (fun h1 => ?_) (fun h1 => ?_)
    all_goals refine And.intro (by decide) ?_
    all_goals refine flz_e (f := ⟨f.n, f.v, f.z, Nat.beq (m k % 2) 1⟩) e (by rw [t1] at h1; rw [h1]; first | exact rl_0 hc (b := true) | exact rl_0 hc (b := false)) (by show m k / 2 + 0 < 256; (clear e h1 hc hk; lia)) ?_
    all_goals refine And.intro (stE (n := k) rfl hk (by decide)) ?_
    all_goals refine Or.inl (And.intro rfl ?_)
    all_goals exact hp_fin (P := Q (.val (.p .none))) (h j') rfl rfl rfl rfl rfl rfl rfl (ml_setE (n := k) rfl e hk)
  · have e : bitOr (Int.fdiv (m k : Int) (2 ^ (1 : Int).toNat)) 128 = ((m k / 2 + cond true 128 0 : Nat) : Int) := by rw [half8, or128 _ (by (clear hc hk; lia))]; rfl
    refine brT (by rw [pC]; exact hc) ?_
    refine brB (fun h1 => ?_) (fun h1 => ?_)
    all_goals refine And.intro (by decide) ?_
    all_goals refine flz_e (f := ⟨f.n, f.v, f.z, Nat.beq (m k % 2) 1⟩) e (by rw [t1] at h1; rw [h1]; first | exact rl_1 hc (b := true) | exact rl_1 hc (b := false)) (by show m k / 2 + 128 < 256; (clear e h1 hc hk; lia)) ?_
    all_goals refine And.intro (stE (n := k) rfl hk (by decide)) ?_
    all_goals refine Or.inl (And.intro rfl ?_)
    all_goals exact hp_fin (P := Q (.val (.p .none))) (h j') rfl rfl rfl rfl rfl rfl rfl (ml_setE (n := k) rfl e hk)
theorem inc_o {g : Addr} {spI : Int} (hA : Adr o g pc spI a x y (pI f) (ml ML m) k) (hk : k < ML) (hv : m k < 256) : Op o 337 [.meth g 7] pc spI a x y (pI f) (ml ML m) pc spI a x y (pI (f.nz ((m k + 1) % 256))) (ml ML (upd m k ((m k + 1) % 256))) := fun d j Q h => by
  refine callI rfl ?_
  refine hA _ _ _ fun j' => ?_
  refine byte_c hk ?_
  refine brB (fun h2 => ?_) (fun h2 => ?_)
  all_goals refine And.intro (stE (n := k) rfl hk (by decide)) ?_
  all_goals refine Or.inl (And.intro rfl ?_)
  all_goals exact hp_fin (P := Q (.val (.p .none))) (h j') rfl rfl rfl rfl rfl rfl (incdec_end (Nat.mod_lt _ (by decide)) inc8 h2) (ml_setE (n := k) rfl inc8 hk)
theorem imm_c {spI : Int} (hn : n < ML) (h : Q (.val (.p (.int (m n : Int)))) (hpR o j (n : Int) spI a x y p (ml ML m))) : callsOf T1L (d + 2) 99 [.ref 7] (hpR o j (n : Int) spI a x y p (ml ML m)) Q := by
  refine callI rfl ?_
  refine byte_c hn ?_
  refine Or.inl (And.intro rfl ?_)
  exact h
theorem bra_o {z t : Nat} {spI : Int} (hn : n < ML) (hz : m n = z) (hz8 : z < 256) (ht : z < 128 ∧ t = n + 1 + z ∨ 128 ≤ z ∧ t + 256 = n + 1 + z) (htb : t < 65536) (h : ∀ j', Q (.val (.p .none)) (hpR o j' (t : Int) spI a x y p (ml ML m))) : callsOf T1L (d + 8) 162 [.ref 7] (hpR o j (n : Int) spI a x y p (ml ML m)) Q := by
  subst hz
  refine callI rfl ?_
  refine imm_c (j := ⟨j.ex + 1, j.ad, j.cy, j.spc⟩) hn ?_
  refine brB (fun h1 => ?_) (fun h1 => ?_)
  · rw [t128 hz8] at h1
    have h1 := Nat.le_of_ble_eq_true h1
    have e : bitAnd ((n : Int) + 1 - bitXor (m n : Int) 255 - 1) 65535 = (t : Int) := wrapE (by rw [xor255 _ hz8]; (clear hn htb; lia)) htb
    refine brB (fun h2 => ?_) (fun h2 => ?_)
    all_goals refine Or.inl (And.intro rfl ?_)
    · exact hp_fj (P := Q (.val (.p .none))) (j := ⟨j.ex + 1 + 1, j.ad, j.cy, j.spc⟩) h e rfl rfl rfl rfl rfl rfl
    · exact hp_fj (P := Q (.val (.p .none))) (j := ⟨j.ex + 1, j.ad, j.cy, j.spc⟩) h e rfl rfl rfl rfl rfl rfl
  · rw [t128 hz8] at h1
    have h1 : m n < 128 := by
      rcases Nat.lt_or_ge (m n) 128 with g | g
      · exact g
      · rw [Nat.ble_eq_true_of_le g] at h1; cases h1
    have e : bitAnd ((n : Int) + 1 + (m n : Int)) 65535 = (t : Int) := wrapE (by (clear hn htb hz8; lia)) htb
    refine brB (fun h2 => ?_) (fun h2 => ?_)
    all_goals refine Or.inl (And.intro rfl ?_)
    · exact hp_fj (P := Q (.val (.p .none))) (j := ⟨j.ex + 1 + 1, j.ad, j.cy, j.spc⟩) h e rfl rfl rfl rfl rfl rfl
    · exact hp_fj (P := Q (.val (.p .none))) (j := ⟨j.ex + 1, j.ad, j.cy, j.spc⟩) h e rfl rfl rfl rfl rfl rfl
theorem bcl_t {z t : Nat} {mk spI : Int} (hb : (bitAnd p mk != 0) = false) (hn : n < ML) (hz : m n = z) (hz8 : z < 256) (ht : z < 128 ∧ t = n + 1 + z ∨ 128 ≤ z ∧ t + 256 = n + 1 + z) (htb : t < 65536) : Op o 225 [.p (.int mk)] (n : Int) spI a x y p (ml ML m) (t : Int) spI a x y p (ml ML m) := fun d j Q h => by
  refine callI rfl ?_
  refine brF hb ?_
  refine bra_o hn hz hz8 ht htb fun j' => ?_
  refine Or.inl (And.intro rfl ?_)
  exact h j'
theorem bcl_n {mk spI : Int} {mm : List PV} (hb : (bitAnd p mk != 0) = true) : Op o 225 [.p (.int mk)] (n : Int) spI a x y p mm ((n + 1 : Nat) : Int) spI a x y p mm := fun d j Q h => by
  refine callI rfl ?_
  refine brT hb ?_
  refine Or.inl (And.intro rfl ?_)
  exact h j
theorem bst_t {z t : Nat} {mk spI : Int} (hb : (bitAnd p mk != 0) = true) (hn : n < ML) (hz : m n = z) (hz8 : z < 256) (ht : z < 128 ∧ t = n + 1 + z ∨ 128 ≤ z ∧ t + 256 = n + 1 + z) (htb : t < 65536) : Op o 232 [.p (.int mk)] (n : Int) spI a x y p (ml ML m) (t : Int) spI a x y p (ml ML m) := fun d j Q h => by
  refine callI rfl ?_
  refine brT hb ?_
  refine bra_o hn hz hz8 ht htb fun j' => ?_
  refine Or.inl (And.intro rfl ?_)
  exact h j'
theorem bst_n {mk spI : Int} {mm : List PV} (hb : (bitAnd p mk != 0) = false) : Op o 232 [.p (.int mk)] (n : Int) spI a x y p mm ((n + 1 : Nat) : Int) spI a x y p mm := fun d j Q h => by
  refine callI rfl ?_
  refine brF hb ?_
  refine Or.inl (And.intro rfl ?_)
  exact h j
theorem bnd {k : Nat} (h : k < ML) : k < 65536 := Nat.lt_of_lt_of_le h (by decide)
end
section
variable {n sp a x y : Nat} {f : Fg} {m : Nat → Nat}
theorem st_a9 (hn : n + 4 < ML) (h0 : m n = 169) {v : Nat} (h1 : m (n + 1) = v) (hv : v < 256) : Stp ⟨n, sp, a, x, y, f, m⟩ ⟨n + 2, sp, v, x, y, f.nz v, m⟩ := by
  have hb := bnd hn
  subst h1
  refine stp_of (op := 169) rfl rfl rfl (by decide) (fun P h => h) (by (clear h0 hb hv; lia)) h0 (wrapE (n := n + 2) rfl (by first | (clear h0 hn hv; lia) | assumption)) fun o j Q h => ?_
  refine callI rfl ?_
  refine lda_o (pc_a (n := n + 1) (by (clear h0 hb hv; lia))) (by (clear h0 hb hv; lia)) hv _ _ _ fun j' => ?_
  refine Or.inl (And.intro rfl ?_)
  exact h j'
theorem st_bd (hn : n + 4 < ML) (h0 : m n = 189) {l u k : Nat} (h1 : m (n + 1) = l) (h2 : m (n + 2) = u) (hu : u < 256) (ek : l + u * 256 + x = k) (hk : k < ML) (hv : m k < 256) : Stp ⟨n, sp, a, x, y, f, m⟩ ⟨n + 3, sp, (m k), x, y, f.nz (m k), m⟩ := by
  have hb := bnd hn
  subst h1 h2 ek
  refine stp_of (op := 189) rfl rfl rfl (by decide) (fun P h => h) (by (clear h0 hb hk hu hv; lia)) h0 (wrapE (n := n + 3) rfl (by first | (clear h0 hk hn hu hv; lia) | assumption)) fun o j Q h => ?_
  refine callI rfl ?_
  refine lda_o (absx_a (n := n + 1) (by (clear h0 hb hk hu hv; lia)) hu (bnd hk)) hk hv _ _ _ fun j' => ?_
  refine Or.inl (And.intro rfl ?_)
  exact h j'
theorem st_b9 (hn : n + 4 < ML) (h0 : m n = 185) {l u k : Nat} (h1 : m (n + 1) = l) (h2 : m (n + 2) = u) (hu : u < 256) (ek : l + u * 256 + y = k) (hk : k < ML) (hv : m k < 256) : Stp ⟨n, sp, a, x, y, f, m⟩ ⟨n + 3, sp, (m k), x, y, f.nz (m k), m⟩ := by
  have hb := bnd hn
  subst h1 h2 ek
  refine stp_of (op := 185) rfl rfl rfl (by decide) (fun P h => h) (by (clear h0 hb hk hu hv; lia)) h0 (wrapE (n := n + 3) rfl (by first | (clear h0 hk hn hu hv; lia) | assumption)) fun o j Q h => ?_
  refine callI rfl ?_
  refine lda_o (absy_a (n := n + 1) (by (clear h0 hb hk hu hv; lia)) hu (bnd hk)) hk hv _ _ _ fun j' => ?_
  refine Or.inl (And.intro rfl ?_)
  exact h j'
theorem st_a2 (hn : n + 4 < ML) (h0 : m n = 162) {v : Nat} (h1 : m (n + 1) = v) (hv : v < 256) : Stp ⟨n, sp, a, x, y, f, m⟩ ⟨n + 2, sp, a, v, y, f.nz v, m⟩ := by
  have hb := bnd hn
  subst h1
  refine stp_of (op := 162) rfl rfl rfl (by decide) (fun P h => h) (by (clear h0 hb hv; lia)) h0 (wrapE (n := n + 2) rfl (by first | (clear h0 hn hv; lia) | assumption)) fun o j Q h => ?_
  refine callI rfl ?_
  refine ldx_o (pc_a (n := n + 1) (by (clear h0 hb hv; lia))) (by (clear h0 hb hv; lia)) hv _ _ _ fun j' => ?_
  refine Or.inl (And.intro rfl ?_)
  exact h j'
theorem st_a0 (hn : n + 4 < ML) (h0 : m n = 160) {v : Nat} (h1 : m (n + 1) = v) (hv : v < 256) : Stp ⟨n, sp, a, x, y, f, m⟩ ⟨n + 2, sp, a, x, v, f.nz v, m⟩ := by
  have hb := bnd hn
  subst h1
  refine stp_of (op := 160) rfl rfl rfl (by decide) (fun P h => h) (by (clear h0 hb hv; lia)) h0 (wrapE (n := n + 2) rfl (by first | (clear h0 hn hv; lia) | assumption)) fun o j Q h => ?_
  refine callI rfl ?_
  refine ldy_o (pc_a (n := n + 1) (by (clear h0 hb hv; lia))) (by (clear h0 hb hv; lia)) hv _ _ _ fun j' => ?_
  refine Or.inl (And.intro rfl ?_)
  exact h j'
theorem st_8d (hn : n + 4 < ML) (h0 : m n = 141) {l u k : Nat} (h1 : m (n + 1) = l) (h2 : m (n + 2) = u) (hu : u < 256) (ek : l + u * 256 = k) (hk : k < ML) : Stp ⟨n, sp, a, x, y, f, m⟩ ⟨n + 3, sp, a, x, y, f, upd m k a⟩ := by
  have hb := bnd hn
  subst h1 h2 ek
  refine stp_of (op := 141) rfl rfl rfl (by decide) (fun P h => h) (by (clear h0 hb hk hu; lia)) h0 (wrapE (n := n + 3) rfl (by first | (clear h0 hk hn hu; lia) | assumption)) fun o j Q h => ?_
  refine callI rfl ?_
  refine sta_o (abs_a (n := n + 1) (by (clear h0 hb hk hu; lia)) hu) hk _ _ _ fun j' => ?_
  refine Or.inl (And.intro rfl ?_)
  exact h j'
theorem st_9d (hn : n + 4 < ML) (h0 : m n = 157) {l u k : Nat} (h1 : m (n + 1) = l) (h2 : m (n + 2) = u) (hu : u < 256) (ek : l + u * 256 + x = k) (hk : k < ML) : Stp ⟨n, sp, a, x, y, f, m⟩ ⟨n + 3, sp, a, x, y, f, upd m k a⟩ := by
  have hb := bnd hn
  subst h1 h2 ek
  refine stp_of (op := 157) rfl rfl rfl (by decide) (fun P h => h) (by (clear h0 hb hk hu; lia)) h0 (wrapE (n := n + 3) rfl (by first | (clear h0 hk hn hu; lia) | assumption)) fun o j Q h => ?_
  refine callI rfl ?_
  refine sta_o (absx_a (n := n + 1) (by (clear h0 hb hk hu; lia)) hu (bnd hk)) hk _ _ _ fun j' => ?_
  refine Or.inl (And.intro rfl ?_)
  exact h j'
theorem st_99 (hn : n + 4 < ML) (h0 : m n = 153) {l u k : Nat} (h1 : m (n + 1) = l) (h2 : m (n + 2) = u) (hu : u < 256) (ek : l + u * 256 + y = k) (hk : k < ML) : Stp ⟨n, sp, a, x, y, f, m⟩ ⟨n + 3, sp, a, x, y, f, upd m k a⟩ := by
  have hb := bnd hn
  subst h1 h2 ek
  refine stp_of (op := 153) rfl rfl rfl (by decide) (fun P h => h) (by (clear h0 hb hk hu; lia)) h0 (wrapE (n := n + 3) rfl (by first | (clear h0 hk hn hu; lia) | assumption)) fun o j Q h => ?_
  refine callI rfl ?_
  refine sta_o (absy_a (n := n + 1) (by (clear h0 hb hk hu; lia)) hu (bnd hk)) hk _ _ _ fun j' => ?_
  refine Or.inl (And.intro rfl ?_)
  exact h j'
theorem st_79 (hn : n + 4 < ML) (h0 : m n = 121) {l u k : Nat} (h1 : m (n + 1) = l) (h2 : m (n + 2) = u) (hu : u < 256) (ek : l + u * 256 + y = k) (hk : k < ML) (hv : m k < 256) : Stp ⟨n, sp, a, x, y, f, m⟩ ⟨n + 3, sp, ((m k) + a + f.c.toNat) % 256, x, y, f.ad (ovA a (m k) f.c.toNat) ((m k) + a + f.c.toNat), m⟩ := by
  have hb := bnd hn
  subst h1 h2 ek
  refine stp_of (op := 121) rfl rfl rfl (by decide) (fun P h => h) (by (clear h0 hb hk hu hv; lia)) h0 (wrapE (n := n + 3) rfl (by first | (clear h0 hk hn hu hv; lia) | assumption)) fun o j Q h => ?_
  refine callI rfl ?_
  refine adc_o (absy_a (n := n + 1) (by (clear h0 hb hk hu hv; lia)) hu (bnd hk)) hk hv _ _ _ fun j' => ?_
  refine Or.inl (And.intro rfl ?_)
  exact h j'
theorem st_e9 (hn : n + 4 < ML) (h0 : m n = 233) {v : Nat} (h1 : m (n + 1) = v) (hv : v < 256) : Stp ⟨n, sp, a, x, y, f, m⟩ ⟨n + 2, sp, (a + (255 - v) + f.c.toNat) % 256, x, y, f.ad (ovS a v f.c.toNat) (a + (255 - v) + f.c.toNat), m⟩ := by
  have hb := bnd hn
  subst h1
  refine stp_of (op := 233) rfl rfl rfl (by decide) (fun P h => h) (by (clear h0 hb hv; lia)) h0 (wrapE (n := n + 2) rfl (by first | (clear h0 hn hv; lia) | assumption)) fun o j Q h => ?_
  refine callI rfl ?_
  refine sbc_o (pc_a (n := n + 1) (by (clear h0 hb hv; lia))) (by (clear h0 hb hv; lia)) hv _ _ _ fun j' => ?_
  refine Or.inl (And.intro rfl ?_)
  exact h j'
theorem st_f9 (hn : n + 4 < ML) (h0 : m n = 249) {l u k : Nat} (h1 : m (n + 1) = l) (h2 : m (n + 2) = u) (hu : u < 256) (ek : l + u * 256 + y = k) (hk : k < ML) (hv : m k < 256) : Stp ⟨n, sp, a, x, y, f, m⟩ ⟨n + 3, sp, (a + (255 - (m k)) + f.c.toNat) % 256, x, y, f.ad (ovS a (m k) f.c.toNat) (a + (255 - (m k)) + f.c.toNat), m⟩ := by
  have hb := bnd hn
  subst h1 h2 ek
  refine stp_of (op := 249) rfl rfl rfl (by decide) (fun P h => h) (by (clear h0 hb hk hu hv; lia)) h0 (wrapE (n := n + 3) rfl (by first | (clear h0 hk hn hu hv; lia) | assumption)) fun o j Q h => ?_
  refine callI rfl ?_
  refine sbc_o (absy_a (n := n + 1) (by (clear h0 hb hk hu hv; lia)) hu (bnd hk)) hk hv _ _ _ fun j' => ?_
  refine Or.inl (And.intro rfl ?_)
  exact h j'
theorem st_d9 (hn : n + 4 < ML) (h0 : m n = 217) {l u k : Nat} (h1 : m (n + 1) = l) (h2 : m (n + 2) = u) (hu : u < 256) (ek : l + u * 256 + y = k) (hk : k < ML) (hv : m k < 256) (ha : a < 256) : Stp ⟨n, sp, a, x, y, f, m⟩ ⟨n + 3, sp, a, x, y, f.cp a (m k), m⟩ := by
  have hb := bnd hn
  subst h1 h2 ek
  refine stp_of (op := 217) rfl rfl rfl (by decide) (fun P h => h) (by (clear h0 ha hb hk hu hv; lia)) h0 (wrapE (n := n + 3) rfl (by first | (clear h0 ha hk hn hu hv; lia) | assumption)) fun o j Q h => ?_
  refine callI rfl ?_
  refine cmp_o (absy_a (n := n + 1) (by (clear h0 ha hb hk hu hv; lia)) hu (bnd hk)) hk hv ha _ _ _ fun j' => ?_
  refine Or.inl (And.intro rfl ?_)
  exact h j'
theorem st_1e (hn : n + 4 < ML) (h0 : m n = 30) {l u k : Nat} (h1 : m (n + 1) = l) (h2 : m (n + 2) = u) (hu : u < 256) (ek : l + u * 256 + x = k) (hk : k < ML) (hv : m k < 256) : Stp ⟨n, sp, a, x, y, f, m⟩ ⟨n + 3, sp, a, x, y, f.sh (2 * (m k) % 256) (Nat.ble 128 (m k)), upd m k (2 * (m k) % 256)⟩ := by
  have hb := bnd hn
  subst h1 h2 ek
  refine stp_of (op := 30) rfl rfl rfl (by decide) (fun P h => h) (by (clear h0 hb hk hu hv; lia)) h0 (wrapE (n := n + 3) rfl (by first | (clear h0 hk hn hu hv; lia) | assumption)) fun o j Q h => ?_
  refine callI rfl ?_
  refine asl_o (absx_a (n := n + 1) (by (clear h0 hb hk hu hv; lia)) hu (bnd hk)) hk hv _ _ _ fun j' => ?_
  refine Or.inl (And.intro rfl ?_)
  exact h j'
theorem st_3e (hn : n + 4 < ML) (h0 : m n = 62) {l u k : Nat} (h1 : m (n + 1) = l) (h2 : m (n + 2) = u) (hu : u < 256) (ek : l + u * 256 + x = k) (hk : k < ML) (hv : m k < 256) : Stp ⟨n, sp, a, x, y, f, m⟩ ⟨n + 3, sp, a, x, y, f.sh ((2 * (m k) + f.c.toNat) % 256) (Nat.ble 128 (m k)), upd m k ((2 * (m k) + f.c.toNat) % 256)⟩ := by
  have hb := bnd hn
  subst h1 h2 ek
  refine stp_of (op := 62) rfl rfl rfl (by decide) (fun P h => h) (by (clear h0 hb hk hu hv; lia)) h0 (wrapE (n := n + 3) rfl (by first | (clear h0 hk hn hu hv; lia) | assumption)) fun o j Q h => ?_
  refine callI rfl ?_
  refine rol_o (absx_a (n := n + 1) (by (clear h0 hb hk hu hv; lia)) hu (bnd hk)) hk hv _ _ _ fun j' => ?_
  refine Or.inl (And.intro rfl ?_)
  exact h j'
theorem st_5e (hn : n + 4 < ML) (h0 : m n = 94) {l u k : Nat} (h1 : m (n + 1) = l) (h2 : m (n + 2) = u) (hu : u < 256) (ek : l + u * 256 + x = k) (hk : k < ML) (hv : m k < 256) : Stp ⟨n, sp, a, x, y, f, m⟩ ⟨n + 3, sp, a, x, y, f.sh ((m k) / 2) (Nat.beq ((m k) % 2) 1), upd m k ((m k) / 2)⟩ := by
  have hb := bnd hn
  subst h1 h2 ek
  refine stp_of (op := 94) rfl rfl rfl (by decide) (fun P h => h) (by (clear h0 hb hk hu hv; lia)) h0 (wrapE (n := n + 3) rfl (by first | (clear h0 hk hn hu hv; lia) | assumption)) fun o j Q h => ?_
  refine callI rfl ?_
  refine lsr_o (absx_a (n := n + 1) (by (clear h0 hb hk hu hv; lia)) hu (bnd hk)) hk hv _ _ _ fun j' => ?_
  refine Or.inl (And.intro rfl ?_)
  exact h j'
theorem st_7e (hn : n + 4 < ML) (h0 : m n = 126) {l u k : Nat} (h1 : m (n + 1) = l) (h2 : m (n + 2) = u) (hu : u < 256) (ek : l + u * 256 + x = k) (hk : k < ML) (hv : m k < 256) : Stp ⟨n, sp, a, x, y, f, m⟩ ⟨n + 3, sp, a, x, y, f.sh ((m k) / 2 + cond f.c 128 0) (Nat.beq ((m k) % 2) 1), upd m k ((m k) / 2 + cond f.c 128 0)⟩ := by
  have hb := bnd hn
  subst h1 h2 ek
  refine stp_of (op := 126) rfl rfl rfl (by decide) (fun P h => h) (by (clear h0 hb hk hu hv; lia)) h0 (wrapE (n := n + 3) rfl (by first | (clear h0 hk hn hu hv; lia) | assumption)) fun o j Q h => ?_
  refine callI rfl ?_
  refine ror_o (absx_a (n := n + 1) (by (clear h0 hb hk hu hv; lia)) hu (bnd hk)) hk hv _ _ _ fun j' => ?_
  refine Or.inl (And.intro rfl ?_)
  exact h j'
theorem st_ee (hn : n + 4 < ML) (h0 : m n = 238) {l u k : Nat} (h1 : m (n + 1) = l) (h2 : m (n + 2) = u) (hu : u < 256) (ek : l + u * 256 = k) (hk : k < ML) (hv : m k < 256) : Stp ⟨n, sp, a, x, y, f, m⟩ ⟨n + 3, sp, a, x, y, f.nz (((m k) + 1) % 256), upd m k (((m k) + 1) % 256)⟩ := by
  have hb := bnd hn
  subst h1 h2 ek
  refine stp_of (op := 238) rfl rfl rfl (by decide) (fun P h => h) (by (clear h0 hb hk hu hv; lia)) h0 (wrapE (n := n + 3) rfl (by first | (clear h0 hk hn hu hv; lia) | assumption)) fun o j Q h => ?_
  refine callI rfl ?_
  refine inc_o (abs_a (n := n + 1) (by (clear h0 hb hk hu hv; lia)) hu) hk hv _ _ _ fun j' => ?_
  refine Or.inl (And.intro rfl ?_)
  exact h j'
theorem st_18 (hn : n + 4 < ML) (h0 : m n = 24) : Stp ⟨n, sp, a, x, y, f, m⟩ ⟨n + 1, sp, a, x, y, ⟨f.n, f.v, f.z, false⟩, m⟩ := by
  have hb := bnd hn
  refine stp_of (op := 24) rfl rfl rfl (by decide) (fun P h => h) (by (clear h0 hb; lia)) h0 (wrapE (n := n + 1) rfl (by first | (clear h0 hn; lia) | assumption)) fun o j Q h => ?_
  refine callI rfl ?_
  refine callI rfl ?_
  refine Or.inl (And.intro rfl ?_)
  refine Or.inl (And.intro rfl ?_)
  exact hp_fj (P := Q (.val (.p .none))) h rfl rfl rfl rfl rfl (pClc f) rfl
theorem st_38 (hn : n + 4 < ML) (h0 : m n = 56) : Stp ⟨n, sp, a, x, y, f, m⟩ ⟨n + 1, sp, a, x, y, ⟨f.n, f.v, f.z, true⟩, m⟩ := by
  have hb := bnd hn
  refine stp_of (op := 56) rfl rfl rfl (by decide) (fun P h => h) (by (clear h0 hb; lia)) h0 (wrapE (n := n + 1) rfl (by first | (clear h0 hn; lia) | assumption)) fun o j Q h => ?_
  refine callI rfl ?_
  refine callI rfl ?_
  refine Or.inl (And.intro rfl ?_)
  refine Or.inl (And.intro rfl ?_)
  exact hp_fj (P := Q (.val (.p .none))) h rfl rfl rfl rfl rfl (pSec f) rfl
theorem st_48 (hn : n + 4 < ML) (h0 : m n = 72) (s1 : sp + 1 < 256) (ha : a < 256) : Stp ⟨n, sp + 1, a, x, y, f, m⟩ ⟨n + 1, sp, a, x, y, f, upd m (sp + 1 + 256) a⟩ := by
  have hb := bnd hn
  refine stp_of (op := 72) rfl rfl rfl (by decide) (fun P h => h) (by (clear h0 ha hb s1; lia)) h0 (wrapE (n := n + 1) rfl (by first | (clear h0 ha hn s1; lia) | assumption)) fun o j Q h => ?_
  refine callI rfl ?_
  refine push_c s1 (and8 ha) ?_
  refine Or.inl (And.intro rfl ?_)
  exact h j
theorem st_68 (hn : n + 4 < ML) (h0 : m n = 104) {v : Nat} (s1 : sp + 1 < 256) (e : m (sp + 1 + 256) = v) (hv : v < 256) : Stp ⟨n, sp, a, x, y, f, m⟩ ⟨n + 1, sp + 1, v, x, y, f.nz v, m⟩ := by
  have hb := bnd hn
  subst e
  refine stp_of (op := 104) rfl rfl rfl (by decide) (fun P h => h) (by (clear h0 hb hv s1; lia)) h0 (wrapE (n := n + 1) rfl (by first | (clear h0 hn hv s1; lia) | assumption)) fun o j Q h => ?_
  refine callI rfl ?_
  refine pop_c s1 ?_
  refine flz_c hv ?_
  refine Or.inl (And.intro rfl ?_)
  exact h j
theorem st_60 (hn : n + 4 < ML) (h0 : m n = 96) {l u t : Nat} (s1 : sp + 2 < 256) (e1 : m (sp + 1 + 256) = l) (e2 : m (sp + 2 + 256) = u) (hu : u < 256) (et : l + u * 256 + 1 = t) (ht : t < 65536) : Stp ⟨n, sp, a, x, y, f, m⟩ ⟨t, sp + 2, a, x, y, f, m⟩ := by
  have hb := bnd hn
  subst e1 e2 et
  refine stp_of (op := 96) rfl rfl rfl (by decide) (fun P h => h) (by (clear h0 hb ht hu s1; lia)) h0 (wrapE (n := m (sp + 1 + 256) + m (sp + 2 + 256) * 256 + 1) rfl (by first | (clear h0 hb hn hu s1; lia) | assumption)) fun o j Q h => ?_
  refine callI rfl ?_
  refine popW_c s1 hu ?_
  refine Or.inl (And.intro rfl ?_)
  exact h j
theorem st_20 (hn : n + 4 < ML) (h0 : m n = 32) {l u : Nat} (hst : 512 ≤ n) (s1 : sp + 2 < 256) (h1 : m (n + 1) = l) (h2 : m (n + 2) = u) (hl : l < 256) (hu : u < 256) : Stp ⟨n, sp + 2, a, x, y, f, m⟩ ⟨l + u * 256, sp, a, x, y, f, upd (upd m (sp + 2 + 256) ((n + 2) / 256)) (sp + 1 + 256) ((n + 2) % 256)⟩ := by
  have hb := bnd hn
  refine stp_of (op := 32) rfl rfl rfl (by decide) (fun P h => h) (by (clear h0 h1 h2 hb hl hst hu s1; lia)) h0 (wrapE (n := l + u * 256) rfl (by first | (clear h0 h1 h2 hb hn hst s1; lia) | assumption)) fun o j Q h => ?_
  refine callI rfl ?_
  refine pushW_e (n := n + 2) (wrapE (n := n + 2) rfl (by (clear h0 h1 h2 hl hn hst hu s1; lia))) (by (clear h0 h1 h2 hl hn hst hu s1; lia)) s1 ?_
  have g1 : upd (upd m (sp + 2 + 256) ((n + 2) / 256)) (sp + 1 + 256) ((n + 2) % 256) (n + 1) = l := by rw [upd_ne (by (clear h0 h1 h2 hb hl hn hu; lia)), upd_ne (by (clear h0 h1 h2 hb hl hn hu; lia))]; exact h1
  have g2 : upd (upd m (sp + 2 + 256) ((n + 2) / 256)) (sp + 1 + 256) ((n + 2) % 256) (n + 1 + 1) = u := by rw [upd_ne (by (clear g1 h0 h1 h2 hb hl hn hu; lia)), upd_ne (by (clear g1 h0 h1 h2 hb hl hn hu; lia))]; exact h2
  refine word_c (n := n + 1) (by (clear g1 g2 h0 h1 h2 hb hl hst hu s1; lia)) (by rw [g2]; exact hu) ?_
  refine Or.inl (And.intro rfl ?_)
  exact hp_fj (P := Q (.val (.p .none))) h (by rw [g1, g2]) rfl rfl rfl rfl rfl rfl
theorem st_4c (hn : n + 4 < ML) (h0 : m n = 76) {l u : Nat} (h1 : m (n + 1) = l) (h2 : m (n + 2) = u) (hl : l < 256) (hu : u < 256) : Stp ⟨n, sp, a, x, y, f, m⟩ ⟨l + u * 256, sp, a, x, y, f, m⟩ := by
  have hb := bnd hn
  subst h1 h2
  refine stp_of (op := 76) rfl rfl rfl (by decide) (fun P h => h) (by (clear h0 hb hl hu; lia)) h0 (wrapE (n := m (n + 1) + m (n + 2) * 256) rfl (by first | (clear h0 hb hn; lia) | assumption)) fun o j Q h => ?_
  refine callI rfl ?_
  refine word_c (n := n + 1) (by (clear h0 hb hl hu; lia)) hu ?_
  refine Or.inl (And.intro rfl ?_)
  exact h j
theorem st_90t (hn : n + 4 < ML) (h0 : m n = 144) {z t : Nat} (hf : f.c = false) (h1 : m (n + 1) = z) (hz : z < 256) (ht : z < 128 ∧ t = n + 2 + z ∨ 128 ≤ z ∧ t + 256 = n + 2 + z) (htb : t < 65536) : Stp ⟨n, sp, a, x, y, f, m⟩ ⟨t, sp, a, x, y, f, m⟩ := by
  have hb := bnd hn
  refine stp_of (op := 144) rfl rfl rfl (by decide) (fun P h => h) (by (clear h0 h1 hb hf ht htb hz; lia)) h0 (wrapE (n := t) rfl (by first | (clear h0 h1 hb hf hn ht hz; lia) | assumption)) fun o j Q h => ?_
  refine callI rfl ?_
  refine bcl_t (n := n + 1) (by rw [pC]; exact hf) (by (clear h0 h1 hb hf ht htb hz; lia)) h1 hz (by (clear h0 h1 hb hf hn htb hz; lia)) htb _ _ _ fun j' => ?_
  refine Or.inl (And.intro rfl ?_)
  exact h j'
theorem st_90n (hn : n + 4 < ML) (h0 : m n = 144) (hf : f.c = true) : Stp ⟨n, sp, a, x, y, f, m⟩ ⟨n + 2, sp, a, x, y, f, m⟩ := by
  have hb := bnd hn
  refine stp_of (op := 144) rfl rfl rfl (by decide) (fun P h => h) (by (clear h0 hb hf; lia)) h0 (wrapE (n := n + 2) rfl (by first | (clear h0 hf hn; lia) | assumption)) fun o j Q h => ?_
  refine callI rfl ?_
  refine bcl_n (n := n + 1) (by rw [pC]; exact hf) _ _ _ fun j' => ?_
  refine Or.inl (And.intro rfl ?_)
  exact h j'
theorem st_b0t (hn : n + 4 < ML) (h0 : m n = 176) {z t : Nat} (hf : f.c = true) (h1 : m (n + 1) = z) (hz : z < 256) (ht : z < 128 ∧ t = n + 2 + z ∨ 128 ≤ z ∧ t + 256 = n + 2 + z) (htb : t < 65536) : Stp ⟨n, sp, a, x, y, f, m⟩ ⟨t, sp, a, x, y, f, m⟩ := by
  have hb := bnd hn
  refine stp_of (op := 176) rfl rfl rfl (by decide) (fun P h => h) (by (clear h0 h1 hb hf ht htb hz; lia)) h0 (wrapE (n := t) rfl (by first | (clear h0 h1 hb hf hn ht hz; lia) | assumption)) fun o j Q h => ?_
  refine callI rfl ?_
  refine bst_t (n := n + 1) (by rw [pC]; exact hf) (by (clear h0 h1 hb hf ht htb hz; lia)) h1 hz (by (clear h0 h1 hb hf hn htb hz; lia)) htb _ _ _ fun j' => ?_
  refine Or.inl (And.intro rfl ?_)
  exact h j'
theorem st_b0n (hn : n + 4 < ML) (h0 : m n = 176) (hf : f.c = false) : Stp ⟨n, sp, a, x, y, f, m⟩ ⟨n + 2, sp, a, x, y, f, m⟩ := by
  have hb := bnd hn
  refine stp_of (op := 176) rfl rfl rfl (by decide) (fun P h => h) (by (clear h0 hb hf; lia)) h0 (wrapE (n := n + 2) rfl (by first | (clear h0 hf hn; lia) | assumption)) fun o j Q h => ?_
  refine callI rfl ?_
  refine bst_n (n := n + 1) (by rw [pC]; exact hf) _ _ _ fun j' => ?_
  refine Or.inl (And.intro rfl ?_)
  exact h j'
theorem st_f0t (hn : n + 4 < ML) (h0 : m n = 240) {z t : Nat} (hf : f.z = true) (h1 : m (n + 1) = z) (hz : z < 256) (ht : z < 128 ∧ t = n + 2 + z ∨ 128 ≤ z ∧ t + 256 = n + 2 + z) (htb : t < 65536) : Stp ⟨n, sp, a, x, y, f, m⟩ ⟨t, sp, a, x, y, f, m⟩ := by
  have hb := bnd hn
  refine stp_of (op := 240) rfl rfl rfl (by decide) (fun P h => h) (by (clear h0 h1 hb hf ht htb hz; lia)) h0 (wrapE (n := t) rfl (by first | (clear h0 h1 hb hf hn ht hz; lia) | assumption)) fun o j Q h => ?_
  refine callI rfl ?_
  refine bst_t (n := n + 1) (by rw [pZ]; exact hf) (by (clear h0 h1 hb hf ht htb hz; lia)) h1 hz (by (clear h0 h1 hb hf hn htb hz; lia)) htb _ _ _ fun j' => ?_
  refine Or.inl (And.intro rfl ?_)
  exact h j'
theorem st_f0n (hn : n + 4 < ML) (h0 : m n = 240) (hf : f.z = false) : Stp ⟨n, sp, a, x, y, f, m⟩ ⟨n + 2, sp, a, x, y, f, m⟩ := by
  have hb := bnd hn
  refine stp_of (op := 240) rfl rfl rfl (by decide) (fun P h => h) (by (clear h0 hb hf; lia)) h0 (wrapE (n := n + 2) rfl (by first | (clear h0 hf hn; lia) | assumption)) fun o j Q h => ?_
  refine callI rfl ?_
  refine bst_n (n := n + 1) (by rw [pZ]; exact hf) _ _ _ fun j' => ?_
  refine Or.inl (And.intro rfl ?_)
  exact h j'
end
end VE
namespace VE
/-- n steps, none of them begun at e or behind. -/
inductive Run (e : Nat) : Nat → Rg → Rg → Prop
  | nil (r : Rg) : Run e 0 r r
  | cons {n : Nat} {r r1 r2 : Rg} : Stp r r1 → r.pc < e → Run e n r1 r2 → Run e (n + 1) r r2
theorem Run.app {e n k : Nat} {r r1 r2 : Rg} (h : Run e n r r1) (h' : Run e k r1 r2) : Run e (n + k) r r2 := by
  induction h with
  | nil => rw [Nat.zero_add]; exact h'
  | cons s l _ ih => rw [Nat.add_right_comm]; exact .cons s l (ih h')
theorem Run.one {e : Nat} {r r1 : Rg} (s : Stp r r1) (l : r.pc < e) : Run e 1 r r1 := .cons s l (.nil _)
/-- What the law knows of the place of the registers. -/
structure Bs (base : Nat) : Prop where
  lo : 1265 ≤ base
  hi : base ≤ 1279
theorem Bs.u {base i : Nat} (B : Bs base) (hi : i < 4) : (base + i) / 256 < 256 := by
  have := B.hi; lia
theorem Bs.k {base i r : Nat} (B : Bs base) (hi : i < 4) (hr : r < 4) : base + i + 4 * r < ML := by
  have := B.hi; have : ML = 1536 := rfl; lia
theorem Bs.s {base k : Nat} (B : Bs base) : 512 ≤ base + k := by
  have := B.lo; lia
theorem Bs.s3 {base i r : Nat} (B : Bs base) : 512 ≤ base + i + 4 * r := by
  have := B.lo; lia
/-- A stretch of the text. -/
structure Fit (P L e : Nat) : Prop where
  lo : 512 ≤ P
  hi : P + L ≤ 1265
  he : P + L ≤ e
theorem Fit.n {P L e t : Nat} (F : Fit P L e) (h : Nat.ble t L = true) : P + t + 4 < ML := by
  have := F.hi; have := Nat.le_of_ble_eq_true h; have : ML = 1536 := rfl; (clear h; lia)
theorem Fit.e {P L e t : Nat} (F : Fit P L e) (h : Nat.ble (t + 1) L = true) : P + t < e := by
  have := F.he; have := Nat.le_of_ble_eq_true h; (clear h; lia)
theorem Fit.sub {P L e t l : Nat} (F : Fit P L e) (h : Nat.ble (t + l) L = true) : Fit (P + t) l e := by
  have := Nat.le_of_ble_eq_true h
  obtain ⟨a, b, c⟩ := F
  exact ⟨by (clear b c h this; lia), by (clear a c h; lia), by (clear a b h; lia)⟩
theorem sw4 {b i r : Nat} : b + i + 4 * r = b + (4 * r + i) := by lia
noncomputable def by8 (x j : Nat) : Nat := x / 256 ^ j % 256
theorem by8_lt (x j : Nat) : by8 x j < 256 := Nat.mod_lt _ (by decide)
theorem lt_of {a x j : Nat} (e : a = by8 x j) : a < 256 := by rw [e]; exact by8_lt x j
/-- The memory that tells H. -/
noncomputable def img (base : Nat) (m0 H : Nat → Nat) (k : Nat) : Nat := if k < base then m0 k else if k < base + 16 then by8 (H ((k - base) / 4)) ((k - base) % 4) else if k = base + 16 then H 4 else m0 k
/-- Out of the stack's page. -/
noncomputable def Ag (m g : Nat → Nat) : Prop := ∀ k, k < 256 ∨ 512 ≤ k → m k = g k
/-- What lies on the stack stays. -/
noncomputable def Kp (sp : Nat) (m m' : Nat → Nat) : Prop := ∀ k, sp + 256 < k → k < 512 → m' k = m k
/-- Where a stretch of the text leads. -/
inductive Out (e n : Nat) (r : Rg) (pc sp x y : Nat) (g : Nat → Nat) (C : Fg → Prop) : Prop
  | mk (a' : Nat) (f' : Fg) (m' : Nat → Nat) (R : Run e n r ⟨pc, sp, a', x, y, f', m'⟩) (A : Ag m' g) (K : Kp sp r.m m') (c : C f') : Out e n r pc sp x y g C
theorem Kp.refl (sp : Nat) (m : Nat → Nat) : Kp sp m m := fun _ _ _ => rfl
theorem Kp.trans {sp : Nat} {m m1 m2 : Nat → Nat} (h : Kp sp m m1) (h' : Kp sp m1 m2) : Kp sp m m2 := fun k a b => (h' k a b).trans (h k a b)
theorem Kp.upd {sp k v : Nat} {m m' : Nat → Nat} (h : Kp sp m m') (hk : 512 ≤ k ∨ k ≤ sp + 256) : Kp sp m (upd m' k v) := fun j a b => by rw [upd_ne (by lia)]; exact h j a b
section
variable {base : Nat} {m0 H : Nat → Nat} {m : Nat → Nat}
theorem img_lo {k : Nat} (h : k < base) : img base m0 H k = m0 k := if_pos h
theorem img_reg {r j : Nat} (hr : r < 4) (hj : j < 4) : img base m0 H (base + 4 * r + j) = by8 (H r) j := by
  unfold img
  rw [if_neg (by (clear hj hr; lia)), if_pos (by lia), show (base + 4 * r + j - base) / 4 = r by (clear hr; lia), show (base + 4 * r + j - base) % 4 = j by (clear hr; lia)]
theorem img_cnt : img base m0 H (base + 16) = H 4 := by
  unfold img
  rw [if_neg (by lia), if_neg (by lia), if_pos rfl]
theorem img_hi {k : Nat} (h : base + 16 < k) : img base m0 H k = m0 k := by
  unfold img
  rw [if_neg (by lia), if_neg (by lia), if_neg (by lia)]
/-- Register `one` is written up to place i. -/
noncomputable def pim (base : Nat) (g R : Nat → Nat) (lo hi k : Nat) : Nat := if base + lo ≤ k ∧ k < base + hi then R (k - base) else g k
theorem pim_0 {g R : Nat → Nat} {lo k : Nat} : pim base g R lo lo k = g k := by
  unfold pim; rw [if_neg (by lia)]
theorem Ag.pim_up {g R : Nat → Nat} {lo hi v : Nat} (h : Ag m (pim base g R lo hi)) (hl : lo ≤ hi) (hv : R hi = v) : Ag (upd m (base + hi) v) (pim base g R lo (hi + 1)) := fun k hk => by
  unfold pim
  by_cases e : k = base + hi
  · subst e
    rw [upd_self, if_pos (by (clear hk hv; lia)), show base + hi - base = hi by (clear hk hl hv; lia), hv]
  · rw [upd_ne e, h k hk]
    unfold pim
    by_cases q : base + lo ≤ k ∧ k < base + hi
    · rw [if_pos q, if_pos (by (clear e hk hl hv; lia))]
    · rw [if_neg q, if_neg (by (clear hk hl hv; lia))]
theorem Ag.pim_dn {g R : Nat → Nat} {lo hi v : Nat} (h : Ag m (pim base g R (lo + 1) hi)) (hl : lo < hi) (hv : R lo = v) : Ag (upd m (base + lo) v) (pim base g R lo hi) := fun k hk => by
  unfold pim
  by_cases e : k = base + lo
  · subst e
    rw [upd_self, if_pos (by (clear hk hv; lia)), show base + lo - base = lo by (clear hk hl hv; lia), hv]
  · rw [upd_ne e, h k hk]
    unfold pim
    by_cases q : base + (lo + 1) ≤ k ∧ k < base + hi
    · rw [if_pos q, if_pos (by (clear e hk hl hv; lia))]
    · rw [if_neg q, if_neg (by (clear hk hl hv; lia))]
/-- A register written whole. -/
theorem Ag.pim_all {R : Nat → Nat} {r v : Nat} (hr : r < 4) (h : Ag m (pim base (img base m0 H) R (4 * r) (4 * r + 4))) (hR : ∀ j, j < 4 → R (4 * r + j) = by8 v j) : Ag m (img base m0 (upd H r v)) := fun k hk => by
  rw [h k hk]
  unfold pim
  by_cases q : base + 4 * r ≤ k ∧ k < base + (4 * r + 4)
  · obtain ⟨j, hj, rfl⟩ : ∃ j, j < 4 ∧ k = base + 4 * r + j := ⟨k - base - 4 * r, by (clear hk hr; lia), by (clear hk hr; lia)⟩
    rw [if_pos q, img_reg hr hj, upd_self, show base + 4 * r + j - base = 4 * r + j by (clear hj hk hr q; lia), hR j hj]
  · rw [if_neg q]
    unfold img
    by_cases h1 : k < base
    · rw [if_pos h1, if_pos h1]
    · rw [if_neg h1, if_neg h1]
      by_cases h2 : k < base + 16
      · rw [if_pos h2, if_pos h2, upd_ne (by (clear h2 hk hr; lia))]
      · rw [if_neg h2, if_neg h2, upd_ne (by (clear h1 h2 hk q; lia))]
theorem Ag.cnt {v : Nat} (h : Ag m (img base m0 H)) : Ag (upd m (base + 16) v) (img base m0 (upd H 4 v)) := fun k hk => by
  by_cases e : k = base + 16
  · subst e; rw [upd_self, img_cnt, upd_self]
  · rw [upd_ne e, h k hk]
    unfold img
    by_cases h1 : k < base
    · rw [if_pos h1, if_pos h1]
    · rw [if_neg h1, if_neg h1]
      by_cases h2 : k < base + 16
      · rw [if_pos h2, if_pos h2, upd_ne (by (clear e h1 hk; lia))]
      · rw [if_neg h2, if_neg h2, if_neg e, if_neg e]
end
/-! Octets of whole numbers. -/
theorem by0 (x : Nat) : by8 x 0 = x % 256 := by unfold by8; rw [Nat.pow_zero, Nat.div_one]
theorem by1 (x : Nat) : by8 x 1 = x / 256 % 256 := rfl
theorem by_s (x i : Nat) : by8 x (i + 1) = by8 (x / 256) i := by
  unfold by8; rw [Nat.pow_succ, Nat.mul_comm, Nat.div_div_eq_div_mul]
noncomputable def gAdd (x y i c : Nat) : Nat := by8 y i + by8 x i + c
/-- Carries of a chain. -/
noncomputable def cyc (x y c0 : Nat) : Nat → Nat
  | 0 => c0
  | i + 1 => gAdd x y i (cyc x y c0 i) / 256
theorem gAdd_lt {x y i c : Nat} (h : c ≤ 1) : gAdd x y i c < 512 := by
  unfold gAdd; have := by8_lt x i; have := by8_lt y i; lia
theorem gAdd_s (x y i c : Nat) : gAdd x y (i + 1) c = gAdd (x / 256) (y / 256) i c := by unfold gAdd; rw [by_s, by_s]
theorem cyc_s (x y c0 : Nat) : ∀ i, cyc x y c0 (i + 1) = cyc (x / 256) (y / 256) (gAdd x y 0 c0 / 256) i
  | 0 => rfl
  | i + 1 => by
    show gAdd x y (i + 1) (cyc x y c0 (i + 1)) / 256 = gAdd (x / 256) (y / 256) i (cyc (x / 256) (y / 256) (gAdd x y 0 c0 / 256) i) / 256
    rw [gAdd_s, cyc_s x y c0 i]
theorem add_by : ∀ (i x y c0 : Nat), gAdd x y i (cyc x y c0 i) % 256 = by8 (x + y + c0) i
  | 0, x, y, c0 => by
    show (by8 y 0 + by8 x 0 + c0) % 256 = _
    rw [by0, by0, by0]; lia
  | i + 1, x, y, c0 => by
    rw [gAdd_s, cyc_s, add_by i, by_s]
    congr 1
    unfold gAdd
    rw [by0, by0]; lia
theorem add_cy : ∀ (i x y c0 : Nat), x < 256 ^ i → y < 256 ^ i → cyc x y c0 i = (x + y + c0) / 256 ^ i
  | 0, x, y, c0, hx, hy => by
    have hx : x < 1 := hx
    have hy : y < 1 := hy
    show c0 = (x + y + c0) / 1
    (clear hx hy; lia)
  | i + 1, x, y, c0, hx, hy => by
    have e : x / 256 + y / 256 + gAdd x y 0 c0 / 256 = (x + y + c0) / 256 := by unfold gAdd; rw [by0, by0]; (clear hx hy; lia)
    rw [Nat.pow_succ] at hx hy
    rw [cyc_s, add_cy i _ _ _ (Nat.div_lt_of_lt_mul (by rw [Nat.mul_comm]; exact hx)) (Nat.div_lt_of_lt_mul (by rw [Nat.mul_comm]; exact hy)), e, Nat.pow_succ, Nat.mul_comm, Nat.div_div_eq_div_mul]
theorem by_modG : ∀ (i n z : Nat), i < n → by8 (z % 256 ^ n) i = by8 z i
  | 0, n + 1, z, _ => by
    rw [by0, by0, Nat.pow_succ, Nat.mod_mul_left_mod]
  | i + 1, n + 1, z, h => by
    rw [by_s, by_s, Nat.pow_succ, Nat.mul_comm, Nat.mod_mul_right_div_self, by_modG i n (z / 256) (Nat.lt_of_succ_lt_succ h)]
theorem by_mod {z i : Nat} (hi : i < 4) : by8 z i = by8 (z % 4294967296) i := (by_modG i 4 z hi).symm
theorem dm256 {a b : Nat} (hb : b < 256) : (256 * a + b) / 256 = a ∧ (256 * a + b) % 256 = b :=
  ⟨by rw [Nat.mul_add_div (by decide), Nat.div_eq_of_lt hb, Nat.add_zero], by rw [Nat.mul_add_mod, Nat.mod_eq_of_lt hb]⟩
theorem not_e {K q r : Nat} (hr : r < 256) (hq : q < K) : 256 * K - 1 - (256 * q + r) = 256 * (K - 1 - q) + (255 - r) := by lia
theorem not_d {K y : Nat} (h : y < 256 * K) : (256 * K - 1 - y) / 256 = K - 1 - y / 256 ∧ (256 * K - 1 - y) % 256 = 255 - y % 256 := by
  have e := not_e (K := K) (Nat.mod_lt y (by decide : 256 > 0)) (Nat.div_lt_of_lt_mul h)
  rw [Nat.div_add_mod] at e
  rw [e]
  exact dm256 (Nat.lt_of_le_of_lt (Nat.sub_le _ _) (by decide))
theorem by_notG : ∀ (i n y : Nat), i < n → y < 256 ^ n → 255 - by8 y i = by8 (256 ^ n - 1 - y) i
  | 0, n + 1, y, _, hy => by
    rw [Nat.pow_succ, Nat.mul_comm] at hy
    rw [by0, by0, Nat.pow_succ, Nat.mul_comm, (not_d hy).2]
  | i + 1, n + 1, y, h, hy => by
    rw [Nat.pow_succ, Nat.mul_comm] at hy
    rw [by_s, by_s, Nat.pow_succ, Nat.mul_comm, (not_d hy).1]
    exact by_notG i n (y / 256) (Nat.lt_of_succ_lt_succ h) (Nat.div_lt_of_lt_mul hy)
theorem by_not {y i : Nat} (hy : y < 4294967296) (hi : i < 4) : 255 - by8 y i = by8 (4294967295 - y) i := by_notG i 4 y hi hy
theorem half_e {p c r : Nat} (hc : c < 2) (hr : r < 256) : (256 * (2 * p + c) + r) / 2 % 256 = r / 2 + 128 * c := by
  have e : 256 * (2 * p + c) + r = 2 * (256 * p + 128 * c) + r := by lia
  rw [e, Nat.mul_add_div (by decide), Nat.add_assoc, Nat.mul_add_mod, Nat.mod_eq_of_lt (by clear e; lia), Nat.add_comm]
theorem half_d (x : Nat) : x % 256 / 2 + 128 * (x / 256 % 256 % 2) = x / 2 % 256 ∧ x / 2 / 256 = x / 256 / 2 := by
  refine ⟨?_, by rw [Nat.div_div_eq_div_mul, Nat.div_div_eq_div_mul, Nat.mul_comm]⟩
  have e := half_e (p := x / 256 / 2) (c := x / 256 % 2) (r := x % 256) (Nat.mod_lt _ (by decide)) (Nat.mod_lt _ (by decide))
  rw [Nat.div_add_mod, Nat.div_add_mod] at e
  rw [e, Nat.mod_mod_of_dvd _ (by decide : 2 ∣ 256)]
theorem by_half : ∀ {i x : Nat}, by8 x i / 2 + 128 * (by8 x (i + 1) % 2) = by8 (x / 2) i
  | 0, x => by rw [by0, by0, by1]; exact (half_d x).1
  | i + 1, x => by rw [by_s x i, by_s x (i + 1), by_s (x / 2) i, (half_d x).2]; exact by_half
theorem by_half3 {x : Nat} (hx : x < 4294967296) : by8 x 3 / 2 = by8 (x / 2) 3 := by
  rw [← by_half (i := 3) (x := x)]
  have : by8 x 4 = 0 := by
    unfold by8
    rw [Nat.div_eq_of_lt hx]
  rw [this]
  rfl
theorem add_ok {x y i : Nat} (hi : i < 4) : gAdd x y i (cyc x y 0 i) % 256 = by8 ((x + y) % 4294967296) i := by rw [add_by, Nat.add_zero, by_mod hi]
theorem add_c4 {x y c0 : Nat} (hx : x < 4294967296) (hy : y < 4294967296) : cyc x y c0 4 = (x + y + c0) / 4294967296 := add_cy 4 x y c0 hx hy
end VE
namespace VE
/-- The list l lies at P. -/
noncomputable def At (m0 : Nat → Nat) (P : Nat) (l : List Nat) : Prop := ∀ t z, l[t]? = some z → m0 (P + t) = z
theorem At.l {m0 : Nat → Nat} {P : Nat} {l r : List Nat} (h : At m0 P (l ++ r)) : At m0 P l := fun t z e => h t z (by rw [List.getElem?_append_left (List.getElem?_eq_some_iff.mp e).1]; exact e)
theorem At.r {m0 : Nat → Nat} {P Q : Nat} {l r : List Nat} (h : At m0 P (l ++ r)) (e : P + l.length = Q) : At m0 Q r := fun t z g => by
  subst e
  have := h (l.length + t) z (by rw [List.getElem?_append_right (Nat.le_add_right _ _), Nat.add_sub_cancel_left]; exact g)
  rw [Nat.add_assoc]; exact this
/-- g has the code of m0. -/
noncomputable def Cd (m0 g : Nat → Nat) : Prop := ∀ k, 512 ≤ k → k < 1265 → g k = m0 k
section
variable {base : Nat} {m0 H R m g : Nat → Nat} {e P sp a i one two lo hi : Nat} {f : Fg}
theorem Cd.img (hb : 1265 ≤ base) : Cd m0 (img base m0 H) := fun k a b => img_lo (by (clear a; lia))
theorem Cd.pim (hb : 1265 ≤ base) (h : Cd m0 g) : Cd m0 (pim base g R lo hi) := fun k a b => by
  unfold VE.pim
  rw [if_neg (by (clear a; lia))]
  exact h k a b
theorem Cd.at {l : List Nat} (h : Cd m0 g) (hm : Ag m g) (hA : At m0 P l) (hP : 512 ≤ P) (hl : P + l.length ≤ 1265) {t z : Nat} (ht : l[t]? = some z) : m (P + t) = z := by
  have hlt := (List.getElem?_eq_some_iff.mp ht).1
  rw [hm _ (.inr (by (clear hl hlt ht; lia))), h _ (by (clear hl hlt ht; lia)) (by (clear hP ht; lia))]
  exact hA t z ht
/-- A place not yet written. -/
theorem pim_rd {r : Nat} (hm : Ag m (pim base (img base m0 H) R (4 * one) (4 * one + i))) (hr : r < 4) (hi : i < 4) (h1 : one < 4) (hb : 1265 ≤ base) : m (base + i + 4 * r) = by8 (H r) i := by
  rw [hm _ (.inr (by (clear h1 hi hr; lia)))]
  unfold pim
  rw [if_neg (by (clear h1 hb hr; lia)), show base + i + 4 * r = base + 4 * r + i by (clear h1 hb hi hr; lia)]
  exact img_reg hr hi
noncomputable def gA (o base i : Nat) : List Nat := [189, (base + i) % 256, (base + i) / 256, o, (base + i) % 256, (base + i) / 256, 157, (base + i) % 256, (base + i) / 256]
theorem op_ad {b r : Nat} : b % 256 + b / 256 * 256 + r = b + r := by lia
theorem pl_add (B : Bs base) (hi : i < 4) (h1 : one < 4) (h2 : two < 4) (F : Fit P 9 e) (hA : At m0 P (gA 121 base i)) (hR : R (4 * one + i) = gAdd (H one) (H two) i f.c.toNat % 256)
    (hm : Ag m (pim base (img base m0 H) R (4 * one) (4 * one + i))) :
    Out e 3 ⟨P, sp, a, 4 * one, 4 * two, f, m⟩ (P + 9) (sp) (4 * one) (4 * two) (pim base (img base m0 H) R (4 * one) (4 * one + (i + 1))) (fun f' => f'.c.toNat = gAdd (H one) (H two) i f.c.toNat / 256) := by
  have cd : ∀ {t z : Nat}, (gA 121 base i)[t]? = some z → m (P + t) = z := fun ht => Cd.at (Cd.pim B.lo (Cd.img B.lo)) hm hA F.lo F.hi ht
  have r1 := pim_rd hm h1 hi h1 B.lo
  have r2 := pim_rd hm h2 hi h1 B.lo
  have b1 := by8_lt (H one) i
  have b2 := by8_lt (H two) i
  have hc : f.c.toNat ≤ 1 := by cases f.c <;> decide
  have hML : ML = 1536 := rfl
  have S1 := st_bd (sp := sp) (a := a) (x := 4 * one) (y := 4 * two) (f := f) (m := m) (n := P) (F.n (t := 0) rfl) (cd (t := 0) rfl) (cd (t := 1) rfl) (cd (t := 2) rfl) (B.u hi) (k := base + i + 4 * one) op_ad (B.k hi h1) (lt_of r1)
  rw [r1] at S1
  have S2 := st_79 (sp := sp) (a := by8 (H one) i) (x := 4 * one) (y := 4 * two) (f := f.nz (by8 (H one) i)) (m := m) (n := P + 3) (F.n (t := 3) rfl) (cd (t := 3) rfl) (cd (t := 4) rfl) (cd (t := 5) rfl) (B.u hi) (k := base + i + 4 * two) op_ad (B.k hi h2) (lt_of r2)
  rw [r2] at S2
  have S3 := st_9d (sp := sp) (a := gAdd (H one) (H two) i f.c.toNat % 256) (x := 4 * one) (y := 4 * two) (f := (f.nz (by8 (H one) i)).ad (ovA (by8 (H one) i) (by8 (H two) i) f.c.toNat) (gAdd (H one) (H two) i f.c.toNat)) (m := m) (n := P + 6) (F.n (t := 6) rfl) (cd (t := 6) rfl) (cd (t := 7) rfl) (cd (t := 8) rfl) (B.u hi) (k := base + i + 4 * one) op_ad (B.k hi h1)
  refine ⟨_, _, _, .cons S1 (F.e (t := 0) rfl) (.cons S2 (F.e (t := 3) rfl) (.cons S3 (F.e (t := 6) rfl) (.nil _))), ?_, (Kp.refl _ _).upd (.inl (by rw [sw4]; exact B.s)), ?_⟩
  · rw [sw4]
    exact hm.pim_up (Nat.le_add_right _ _) hR
  · have := gAdd_lt (x := H one) (y := H two) (i := i) hc
    show (Nat.blt 255 (gAdd (H one) (H two) i f.c.toNat)).toNat = _
    cases h : Nat.blt 255 (gAdd (H one) (H two) i f.c.toNat) with
    | true =>
      have := Nat.le_of_ble_eq_true (show Nat.ble 256 _ = true from h)
      show 1 = _; (clear b1 b2 h h1 h2 hML hR hc hi r1 r2; lia)
    | false => have := blt_lt h; show 0 = _; (clear b1 b2 h h1 h2 hML hR hc hi r1 r2; lia)
theorem blt_c {s : Nat} (h : s < 512) : (Nat.blt 255 s).toNat = s / 256 := by
  cases g : Nat.blt 255 s with
  | true =>
    have := Nat.le_of_ble_eq_true (show Nat.ble 256 _ = true from g)
    show 1 = _; (clear g; lia)
  | false => have := blt_lt g; show 0 = _; (clear g h; lia)
theorem ble_c {b : Nat} (h : b < 256) {c : Nat} (hc : c ≤ 1) : (Nat.ble 128 b).toNat = (b + b + c) / 256 := by
  cases g : Nat.ble 128 b with
  | true => have := Nat.le_of_ble_eq_true g; show 1 = _; (clear g; lia)
  | false =>
    have : ¬ 128 ≤ b := fun q => by rw [Nat.ble_eq_true_of_le q] at g; cases g
    show 0 = _; (clear g h; lia)
theorem beq_c {b : Nat} : (Nat.beq (b % 2) 1).toNat = b % 2 := by
  rcases Nat.mod_two_eq_zero_or_one b with h | h <;> rw [h] <;> rfl
theorem sub_g {x y i c : Nat} (hy : y < 4294967296) (hi : i < 4) : by8 x i + (255 - by8 y i) + c = gAdd x (4294967295 - y) i c := by
  unfold gAdd; rw [by_not hy hi]; (clear hi hy; lia)
theorem pl_sub (B : Bs base) (hi : i < 4) (h1 : one < 4) (h2 : two < 4) (F : Fit P 9 e) (hA : At m0 P (gA 249 base i)) (hy : H two < 4294967296) (hR : R (4 * one + i) = gAdd (H one) (4294967295 - H two) i f.c.toNat % 256)
    (hm : Ag m (pim base (img base m0 H) R (4 * one) (4 * one + i))) :
    Out e 3 ⟨P, sp, a, 4 * one, 4 * two, f, m⟩ (P + 9) (sp) (4 * one) (4 * two) (pim base (img base m0 H) R (4 * one) (4 * one + (i + 1))) (fun f' => f'.c.toNat = gAdd (H one) (4294967295 - H two) i f.c.toNat / 256) := by
  have cd : ∀ {t z : Nat}, (gA 249 base i)[t]? = some z → m (P + t) = z := fun ht => Cd.at (Cd.pim B.lo (Cd.img B.lo)) hm hA F.lo F.hi ht
  have r1 := pim_rd hm h1 hi h1 B.lo
  have r2 := pim_rd hm h2 hi h1 B.lo
  have b1 := by8_lt (H one) i
  have b2 := by8_lt (H two) i
  have hc : f.c.toNat ≤ 1 := by cases f.c <;> decide
  have hML : ML = 1536 := rfl
  have S1 := st_bd (sp := sp) (a := a) (x := 4 * one) (y := 4 * two) (f := f) (m := m) (n := P) (F.n (t := 0) rfl) (cd (t := 0) rfl) (cd (t := 1) rfl) (cd (t := 2) rfl) (B.u hi) (k := base + i + 4 * one) op_ad (B.k hi h1) (lt_of r1)
  rw [r1] at S1
  have S2 := st_f9 (sp := sp) (a := by8 (H one) i) (x := 4 * one) (y := 4 * two) (f := f.nz (by8 (H one) i)) (m := m) (n := P + 3) (F.n (t := 3) rfl) (cd (t := 3) rfl) (cd (t := 4) rfl) (cd (t := 5) rfl) (B.u hi) (k := base + i + 4 * two) op_ad (B.k hi h2) (lt_of r2)
  rw [r2, show (f.nz (by8 (H one) i)).c = f.c from rfl, sub_g hy hi] at S2
  have S3 := st_9d (sp := sp) (a := gAdd (H one) (4294967295 - H two) i f.c.toNat % 256) (x := 4 * one) (y := 4 * two) (f := (f.nz (by8 (H one) i)).ad (ovS (by8 (H one) i) (by8 (H two) i) f.c.toNat) (gAdd (H one) (4294967295 - H two) i f.c.toNat)) (m := m) (n := P + 6) (F.n (t := 6) rfl) (cd (t := 6) rfl) (cd (t := 7) rfl) (cd (t := 8) rfl) (B.u hi) (k := base + i + 4 * one) op_ad (B.k hi h1)
  refine ⟨_, _, _, .cons S1 (F.e (t := 0) rfl) (.cons S2 (F.e (t := 3) rfl) (.cons S3 (F.e (t := 6) rfl) (.nil _))), ?_, (Kp.refl _ _).upd (.inl (by rw [sw4]; exact B.s)), ?_⟩
  · rw [sw4]
    exact hm.pim_up (Nat.le_add_right _ _) hR
  · exact blt_c (gAdd_lt hc)
/-- Places compared: nothing is written. -/
noncomputable def gC (o base i : Nat) : List Nat := [189, (base + i) % 256, (base + i) / 256, o, (base + i) % 256, (base + i) / 256]
theorem img_rd {r : Nat} (hm : Ag m (img base m0 H)) (hr : r < 4) (hi : i < 4) (hb : 1265 ≤ base) : m (base + i + 4 * r) = by8 (H r) i := by
  rw [hm _ (.inr (by (clear hi hr; lia))), show base + i + 4 * r = base + 4 * r + i by (clear hb hi hr; lia)]
  exact img_reg hr hi
theorem pl_cmp0 (B : Bs base) (h1 : one < 4) (h2 : two < 4) (F : Fit P 6 e) (hA : At m0 P (gC 217 base 0)) (hy : H two < 4294967296) (hm : Ag m (img base m0 H)) :
    Out e 2 ⟨P, sp, a, 4 * one, 4 * two, f, m⟩ (P + 6) (sp) (4 * one) (4 * two) (img base m0 H) (fun f' => f'.c.toNat = gAdd (H one) (4294967295 - H two) 0 1 / 256) := by
  have cd : ∀ {t z : Nat}, (gC 217 base 0)[t]? = some z → m (P + t) = z := fun ht => Cd.at (Cd.img B.lo) hm hA F.lo F.hi ht
  have r1 := img_rd (i := 0) hm h1 (by decide) B.lo
  have r2 := img_rd (i := 0) hm h2 (by decide) B.lo
  have b1 := by8_lt (H one) 0
  have b2 := by8_lt (H two) 0
  have hML : ML = 1536 := rfl
  have S1 := st_bd (sp := sp) (a := a) (x := 4 * one) (y := 4 * two) (f := f) (m := m) (n := P) (F.n (t := 0) rfl) (cd (t := 0) rfl) (cd (t := 1) rfl) (cd (t := 2) rfl) (B.u (by decide)) (k := base + 0 + 4 * one) op_ad (B.k (by decide) h1) (lt_of r1)
  rw [r1] at S1
  have S2 := st_d9 (sp := sp) (a := by8 (H one) 0) (x := 4 * one) (y := 4 * two) (f := f.nz (by8 (H one) 0)) (m := m) (n := P + 3) (F.n (t := 3) rfl) (cd (t := 3) rfl) (cd (t := 4) rfl) (cd (t := 5) rfl) (B.u (by decide)) (k := base + 0 + 4 * two) op_ad (B.k (by decide) h2) (lt_of r2) b1
  rw [r2] at S2
  refine ⟨_, _, m, .cons S1 (F.e (t := 0) rfl) (.cons S2 (F.e (t := 3) rfl) (.nil _)), hm, Kp.refl _ _, ?_⟩
  rw [← sub_g hy (by decide)]
  show (Nat.ble (by8 (H two) 0) (by8 (H one) 0)).toNat = _
  cases g : Nat.ble (by8 (H two) 0) (by8 (H one) 0) with
  | true => have := Nat.le_of_ble_eq_true g; show 1 = _; (clear b2 g h1 h2 hML hy r1 r2; lia)
  | false =>
    have : ¬ by8 (H two) 0 ≤ by8 (H one) 0 := fun q => by rw [Nat.ble_eq_true_of_le q] at g; cases g
    show 0 = _; (clear b1 g h1 h2 hML hy r1 r2; lia)
theorem pl_cmp (B : Bs base) (hi : i < 4) (h1 : one < 4) (h2 : two < 4) (F : Fit P 6 e) (hA : At m0 P (gC 249 base i)) (hy : H two < 4294967296) (hm : Ag m (img base m0 H)) :
    Out e 2 ⟨P, sp, a, 4 * one, 4 * two, f, m⟩ (P + 6) (sp) (4 * one) (4 * two) (img base m0 H) (fun f' => f'.c.toNat = gAdd (H one) (4294967295 - H two) i f.c.toNat / 256) := by
  have cd : ∀ {t z : Nat}, (gC 249 base i)[t]? = some z → m (P + t) = z := fun ht => Cd.at (Cd.img B.lo) hm hA F.lo F.hi ht
  have r1 := img_rd hm h1 hi B.lo
  have r2 := img_rd hm h2 hi B.lo
  have b1 := by8_lt (H one) i
  have b2 := by8_lt (H two) i
  have hc : f.c.toNat ≤ 1 := by cases f.c <;> decide
  have hML : ML = 1536 := rfl
  have S1 := st_bd (sp := sp) (a := a) (x := 4 * one) (y := 4 * two) (f := f) (m := m) (n := P) (F.n (t := 0) rfl) (cd (t := 0) rfl) (cd (t := 1) rfl) (cd (t := 2) rfl) (B.u hi) (k := base + i + 4 * one) op_ad (B.k hi h1) (lt_of r1)
  rw [r1] at S1
  have S2 := st_f9 (sp := sp) (a := by8 (H one) i) (x := 4 * one) (y := 4 * two) (f := f.nz (by8 (H one) i)) (m := m) (n := P + 3) (F.n (t := 3) rfl) (cd (t := 3) rfl) (cd (t := 4) rfl) (cd (t := 5) rfl) (B.u hi) (k := base + i + 4 * two) op_ad (B.k hi h2) (lt_of r2)
  rw [r2, show (f.nz (by8 (H one) i)).c = f.c from rfl, sub_g hy hi] at S2
  exact ⟨_, _, m, .cons S1 (F.e (t := 0) rfl) (.cons S2 (F.e (t := 3) rfl) (.nil _)), hm, Kp.refl _ _, blt_c (gAdd_lt hc)⟩
/-- One shift of a place. -/
noncomputable def gS (o base i : Nat) : List Nat := [o, (base + i) % 256, (base + i) / 256]
theorem dbl_g {x i c : Nat} : 2 * by8 x i + c = gAdd x x i c := by unfold gAdd; lia
theorem pl_asl (B : Bs base) (h1 : one < 4) (F : Fit P 3 e) (hA : At m0 P (gS 30 base 0)) {y : Nat} (hR : R (4 * one + 0) = gAdd (H one) (H one) 0 0 % 256)
    (hm : Ag m (pim base (img base m0 H) R (4 * one) (4 * one + 0))) :
    Out e 1 ⟨P, sp, a, 4 * one, y, f, m⟩ (P + 3) (sp) (4 * one) (y) (pim base (img base m0 H) R (4 * one) (4 * one + (0 + 1))) (fun f' => f'.c.toNat = gAdd (H one) (H one) 0 0 / 256) := by
  have cd : ∀ {t z : Nat}, (gS 30 base 0)[t]? = some z → m (P + t) = z := fun ht => Cd.at (Cd.pim B.lo (Cd.img B.lo)) hm hA F.lo F.hi ht
  have r1 := pim_rd (i := 0) hm h1 (by decide) h1 B.lo
  have b1 := by8_lt (H one) 0
  have hML : ML = 1536 := rfl
  have S1 := st_1e (sp := sp) (a := a) (x := 4 * one) (y := y) (f := f) (m := m) (n := P) (F.n (t := 0) rfl) (cd (t := 0) rfl) (cd (t := 1) rfl) (cd (t := 2) rfl) (B.u (by decide)) (k := base + 0 + 4 * one) op_ad (B.k (by decide) h1) (lt_of r1)
  rw [r1] at S1
  refine ⟨_, _, _, .cons S1 (F.e (t := 0) rfl) (.nil _), ?_, (Kp.refl _ _).upd (.inl (by rw [sw4]; exact B.s)), ?_⟩
  · rw [sw4, show 2 * by8 (H one) 0 = gAdd (H one) (H one) 0 0 from dbl_g (x := H one) (i := 0) (c := 0)]
    exact hm.pim_up (Nat.le_add_right _ _) hR
  · rw [← dbl_g]
    exact (ble_c b1 (c := 0) (by decide)).trans (by (clear b1 h1 hML hR r1; lia))
theorem pl_rol (B : Bs base) (hi : i < 4) (h1 : one < 4) (F : Fit P 3 e) (hA : At m0 P (gS 62 base i)) {y : Nat} (hR : R (4 * one + i) = gAdd (H one) (H one) i f.c.toNat % 256)
    (hm : Ag m (pim base (img base m0 H) R (4 * one) (4 * one + i))) :
    Out e 1 ⟨P, sp, a, 4 * one, y, f, m⟩ (P + 3) (sp) (4 * one) (y) (pim base (img base m0 H) R (4 * one) (4 * one + (i + 1))) (fun f' => f'.c.toNat = gAdd (H one) (H one) i f.c.toNat / 256) := by
  have cd : ∀ {t z : Nat}, (gS 62 base i)[t]? = some z → m (P + t) = z := fun ht => Cd.at (Cd.pim B.lo (Cd.img B.lo)) hm hA F.lo F.hi ht
  have r1 := pim_rd hm h1 hi h1 B.lo
  have b1 := by8_lt (H one) i
  have hc : f.c.toNat ≤ 1 := by cases f.c <;> decide
  have hML : ML = 1536 := rfl
  have S1 := st_3e (sp := sp) (a := a) (x := 4 * one) (y := y) (f := f) (m := m) (n := P) (F.n (t := 0) rfl) (cd (t := 0) rfl) (cd (t := 1) rfl) (cd (t := 2) rfl) (B.u hi) (k := base + i + 4 * one) op_ad (B.k hi h1) (lt_of r1)
  rw [r1] at S1
  refine ⟨_, _, _, .cons S1 (F.e (t := 0) rfl) (.nil _), ?_, (Kp.refl _ _).upd (.inl (by rw [sw4]; exact B.s)), ?_⟩
  · rw [sw4, dbl_g]
    exact hm.pim_up (Nat.le_add_right _ _) hR
  · rw [← dbl_g]
    exact (ble_c b1 hc).trans (by (clear b1 h1 hML hR hc hi r1; lia))
theorem pl_lsr (B : Bs base) (h1 : one < 4) (F : Fit P 3 e) (hA : At m0 P (gS 94 base 3)) {y : Nat} (hR : R (4 * one + 3) = by8 (H one) 3 / 2)
    (hm : Ag m (pim base (img base m0 H) R (4 * one + (3 + 1)) (4 * one + 4))) :
    Out e 1 ⟨P, sp, a, 4 * one, y, f, m⟩ (P + 3) (sp) (4 * one) (y) (pim base (img base m0 H) R (4 * one + 3) (4 * one + 4)) (fun f' => f'.c.toNat = by8 (H one) 3 % 2) := by
  have cd : ∀ {t z : Nat}, (gS 94 base 3)[t]? = some z → m (P + t) = z := fun ht => Cd.at (Cd.pim B.lo (Cd.img B.lo)) hm hA F.lo F.hi ht
  have r1 : m (base + 3 + 4 * one) = by8 (H one) 3 := by
    rw [hm _ (.inr B.s3)]
    unfold pim
    rw [if_neg (by (clear h1 hR; lia)), show base + 3 + 4 * one = base + 4 * one + 3 by (clear h1 hR; lia)]
    exact img_reg h1 (by decide)
  have b1 := by8_lt (H one) 3
  have hML : ML = 1536 := rfl
  have S1 := st_5e (sp := sp) (a := a) (x := 4 * one) (y := y) (f := f) (m := m) (n := P) (F.n (t := 0) rfl) (cd (t := 0) rfl) (cd (t := 1) rfl) (cd (t := 2) rfl) (B.u (by decide)) (k := base + 3 + 4 * one) op_ad (B.k (by decide) h1) (lt_of r1)
  rw [r1] at S1
  refine ⟨_, _, _, .cons S1 (F.e (t := 0) rfl) (.nil _), ?_, (Kp.refl _ _).upd (.inl (by rw [sw4]; exact B.s)), beq_c⟩
  rw [sw4]
  exact hm.pim_dn (by (clear b1 h1 hML hR r1; lia)) hR
theorem pl_ror (B : Bs base) (hi : i < 3) (h1 : one < 4) (F : Fit P 3 e) (hA : At m0 P (gS 126 base i)) {y : Nat} (hR : R (4 * one + i) = by8 (H one) i / 2 + 128 * f.c.toNat)
    (hm : Ag m (pim base (img base m0 H) R (4 * one + (i + 1)) (4 * one + 4))) :
    Out e 1 ⟨P, sp, a, 4 * one, y, f, m⟩ (P + 3) (sp) (4 * one) (y) (pim base (img base m0 H) R (4 * one + i) (4 * one + 4)) (fun f' => f'.c.toNat = by8 (H one) i % 2) := by
  have cd : ∀ {t z : Nat}, (gS 126 base i)[t]? = some z → m (P + t) = z := fun ht => Cd.at (Cd.pim B.lo (Cd.img B.lo)) hm hA F.lo F.hi ht
  have r1 : m (base + i + 4 * one) = by8 (H one) i := by
    rw [hm _ (.inr B.s3)]
    unfold pim
    rw [if_neg (by (clear h1 hR hi; lia)), show base + i + 4 * one = base + 4 * one + i by (clear h1 hR hi; lia)]
    exact img_reg h1 (by (clear h1 hR; lia))
  have b1 := by8_lt (H one) i
  have hML : ML = 1536 := rfl
  have S1 := st_7e (sp := sp) (a := a) (x := 4 * one) (y := y) (f := f) (m := m) (n := P) (F.n (t := 0) rfl) (cd (t := 0) rfl) (cd (t := 1) rfl) (cd (t := 2) rfl) (B.u (Nat.lt_succ_of_lt hi)) (k := base + i + 4 * one) op_ad (B.k (Nat.lt_succ_of_lt hi) h1) (lt_of r1)
  rw [r1] at S1
  refine ⟨_, _, _, .cons S1 (F.e (t := 0) rfl) (.nil _), ?_, (Kp.refl _ _).upd (.inl (by rw [sw4]; exact B.s)), beq_c⟩
  rw [sw4]
  refine Ag.pim_dn (lo := 4 * one + i) (hi := 4 * one + 4) hm (by (clear b1 h1 hML hR r1; lia)) (hR.trans ?_)
  cases f.c <;> rfl
/-- One place of two registers exchanged. -/
noncomputable def gX (base i : Nat) : List Nat := [189, (base + i) % 256, (base + i) / 256, 72, 185, (base + i) % 256, (base + i) / 256, 157, (base + i) % 256, (base + i) / 256, 104, 153, (base + i) % 256, (base + i) / 256]
theorem pl_swp {R2 : Nat → Nat} (B : Bs base) (hi : i < 4) (h1 : one < 4) (h2 : two < 4) (hs : sp + 1 < 256) (F : Fit P 14 e) (hA : At m0 P (gX base i)) (hR : R (4 * one + i) = by8 (H two) i) (hR2 : R2 (4 * two + i) = by8 (H one) i)
    (hm : Ag m (pim base (pim base (img base m0 H) R (4 * one) (4 * one + i)) R2 (4 * two) (4 * two + i))) :
    Out e 6 ⟨P, sp + 1, a, 4 * one, 4 * two, f, m⟩ (P + 14) (sp + 1) (4 * one) (4 * two) (pim base (pim base (img base m0 H) R (4 * one) (4 * one + (i + 1))) R2 (4 * two) (4 * two + (i + 1))) (fun f' => True) := by
  have hC := Cd.pim (g := pim base (img base m0 H) R (4 * one) (4 * one + i)) (R := R2) (lo := 4 * two) (hi := 4 * two + i) B.lo (Cd.pim (R := R) (lo := 4 * one) (hi := 4 * one + i) B.lo (Cd.img (H := H) B.lo))
  have rd : ∀ {r : Nat}, r < 4 → m (base + i + 4 * r) = by8 (H r) i := fun {r} hr => by
    rw [hm _ (.inr B.s3)]
    unfold pim
    rw [if_neg (by (clear h1 h2 hR hR2 hr hs; lia)), if_neg (by (clear h1 h2 hR hR2 hr hs; lia)), show base + i + 4 * r = base + 4 * r + i by (clear h1 h2 hR hR2 hi hr hs; lia)]
    exact img_reg hr hi
  have hb := B.lo
  have b1 := by8_lt (H one) i
  have b2 := by8_lt (H two) i
  have hML : ML = 1536 := rfl
  have cd : ∀ {t z : Nat}, (gX base i)[t]? = some z → m (P + t) = z := fun ht => Cd.at hC hm hA F.lo F.hi ht
  have S1 := st_bd (sp := sp + 1) (a := a) (x := 4 * one) (y := 4 * two) (f := f) (m := m) (n := P) (F.n (t := 0) rfl) (cd (t := 0) rfl) (cd (t := 1) rfl) (cd (t := 2) rfl) (B.u hi) (k := base + i + 4 * one) op_ad (B.k hi h1) (by rw [rd h1]; exact b1)
  rw [rd h1] at S1
  have S2 := st_48 (sp := sp) (a := by8 (H one) i) (x := 4 * one) (y := 4 * two) (f := f.nz (by8 (H one) i)) (m := m) (n := P + 3) (F.n (t := 3) rfl) (cd (t := 3) rfl) hs b1
  have hm1 : Ag (upd m (sp + 1 + 256) (by8 (H one) i)) (pim base (pim base (img base m0 H) R (4 * one) (4 * one + i)) R2 (4 * two) (4 * two + i)) := fun k hk => by rw [upd_ne (by (clear b1 b2 h1 h2 hML hR hR2 hb hi; lia))]; exact hm k hk
  have cd1 : ∀ {t z : Nat}, (gX base i)[t]? = some z → upd m (sp + 1 + 256) (by8 (H one) i) (P + t) = z := fun ht => Cd.at hC hm1 hA F.lo F.hi ht
  have rd1 : upd m (sp + 1 + 256) (by8 (H one) i) (base + i + 4 * two) = by8 (H two) i := by rw [upd_ne (by (clear b1 b2 h1 h2 hML hR hR2 hi; lia))]; exact rd h2
  have S3 := st_b9 (sp := sp) (a := by8 (H one) i) (x := 4 * one) (y := 4 * two) (f := f.nz (by8 (H one) i)) (m := upd m (sp + 1 + 256) (by8 (H one) i)) (n := P + 4) (F.n (t := 4) rfl) (cd1 (t := 4) rfl) (cd1 (t := 5) rfl) (cd1 (t := 6) rfl) (B.u hi) (k := base + i + 4 * two) op_ad (B.k hi h2) (by rw [rd1]; exact b2)
  rw [rd1] at S3
  have S4 := st_9d (sp := sp) (a := by8 (H two) i) (x := 4 * one) (y := 4 * two) (f := (f.nz (by8 (H one) i)).nz (by8 (H two) i)) (m := upd m (sp + 1 + 256) (by8 (H one) i)) (n := P + 7) (F.n (t := 7) rfl) (cd1 (t := 7) rfl) (cd1 (t := 8) rfl) (cd1 (t := 9) rfl) (B.u hi) (k := base + i + 4 * one) op_ad (B.k hi h1)
  have cd2 : ∀ {t z : Nat}, (gX base i)[t]? = some z → upd (upd m (sp + 1 + 256) (by8 (H one) i)) (base + i + 4 * one) (by8 (H two) i) (P + t) = z := fun {t z} ht => by
    have := (List.getElem?_eq_some_iff.mp ht).1
    have : (gX base i).length = 14 := rfl
    have hP2 := F.hi
    rw [upd_ne (by (clear b1 b2 h1 h2 hML hR hR2 hi hs ht rd1; lia))]; exact cd1 ht
  have S5 := st_68 (sp := sp) (a := by8 (H two) i) (x := 4 * one) (y := 4 * two) (f := (f.nz (by8 (H one) i)).nz (by8 (H two) i)) (m := upd (upd m (sp + 1 + 256) (by8 (H one) i)) (base + i + 4 * one) (by8 (H two) i)) (n := P + 10) (F.n (t := 10) rfl) (cd2 (t := 10) rfl) hs (by rw [upd_ne (by (clear b1 b2 h1 h2 hML hR hR2 hi rd1; lia)), upd_self]) b1
  have S6 := st_99 (sp := sp + 1) (a := by8 (H one) i) (x := 4 * one) (y := 4 * two) (f := ((f.nz (by8 (H one) i)).nz (by8 (H two) i)).nz (by8 (H one) i)) (m := upd (upd m (sp + 1 + 256) (by8 (H one) i)) (base + i + 4 * one) (by8 (H two) i)) (n := P + 11) (F.n (t := 11) rfl) (cd2 (t := 11) rfl) (cd2 (t := 12) rfl) (cd2 (t := 13) rfl) (B.u hi) (k := base + i + 4 * two) op_ad (B.k hi h2)
  refine ⟨_, _, _, .cons S1 (F.e (t := 0) rfl) (.cons S2 (F.e (t := 3) rfl) (.cons S3 (F.e (t := 4) rfl) (.cons S4 (F.e (t := 7) rfl) (.cons S5 (F.e (t := 10) rfl) (.cons S6 (F.e (t := 11) rfl) (.nil _)))))), fun k hk => ?_, (((Kp.refl _ _).upd (.inr (by (clear b1 b2 h1 h2 hML hR hR2 hb hi hs rd1; lia)))).upd (.inl (by (clear b1 b2 h1 h2 hML hR hR2 hi hs rd1; lia)))).upd (.inl (by (clear b1 b2 h1 h2 hML hR hR2 hi hs rd1; lia))), trivial⟩
  unfold pim
  by_cases e2 : k = base + i + 4 * two
  · subst e2
    rw [upd_self, if_pos (by (clear b1 b2 h1 h2 hML hR hR2 hb hi hk hs rd1; lia)), show base + i + 4 * two - base = 4 * two + i by (clear b1 b2 h1 h2 hML hR hR2 hb hi hk hs rd1; lia), hR2]
  · rw [upd_ne e2]
    by_cases e1 : k = base + i + 4 * one
    · subst e1
      rw [upd_self, if_neg (by (clear b1 b2 h1 h2 hML hR hR2 hb hk hs rd1; lia)), if_pos (by (clear b1 b2 e2 h1 h2 hML hR hR2 hb hi hk hs rd1; lia)), show base + i + 4 * one - base = 4 * one + i by (clear b1 b2 e2 h1 h2 hML hR hR2 hb hi hk hs rd1; lia), hR]
    · rw [upd_ne e1, upd_ne (by (clear b1 b2 e1 e2 h1 h2 hML hR hR2 hb hi rd1; lia)), hm k hk]
      unfold pim
      have w2 : (base + 4 * two ≤ k ∧ k < base + (4 * two + i)) ↔ (base + 4 * two ≤ k ∧ k < base + (4 * two + (i + 1))) := by (clear b1 b2 e1 h1 h2 hML hR hR2 hb hi hk hs rd1; lia)
      have w1 : (base + 4 * one ≤ k ∧ k < base + (4 * one + i)) ↔ (base + 4 * one ≤ k ∧ k < base + (4 * one + (i + 1))) := by (clear b1 b2 e2 h1 h2 hML hR hR2 hb hi hk hs rd1 w2; lia)
      by_cases q2 : base + 4 * two ≤ k ∧ k < base + (4 * two + i)
      · rw [if_pos q2, if_pos (w2.mp q2)]
      · rw [if_neg q2, if_neg (c := base + 4 * two ≤ k ∧ k < base + (4 * two + (i + 1))) (fun q => q2 (w2.mpr q))]
        by_cases q1 : base + 4 * one ≤ k ∧ k < base + (4 * one + i)
        · rw [if_pos q1, if_pos (w1.mp q1)]
        · rw [if_neg q1, if_neg (c := base + 4 * one ≤ k ∧ k < base + (4 * one + (i + 1))) (fun q => q1 (w1.mpr q))]
end
end VE
namespace VE
noncomputable def Rv (v r : Nat) : Nat → Nat := fun j => by8 v (j - 4 * r)
theorem Rv_at {v r i : Nat} : Rv v r (4 * r + i) = by8 v i := by unfold Rv; rw [Nat.add_sub_cancel_left]
section
variable {base : Nat} {m0 H R m : Nat → Nat} {e P sp a i one two : Nat} {f : Fg}
theorem Ag.start (h : Ag m (img base m0 H)) : Ag m (pim base (img base m0 H) R (4 * one) (4 * one + 0)) := fun k hk => by rw [h k hk]; exact pim_0.symm
theorem sub_add (B : Bs base) (h1 : one < 4) (h2 : two < 4) (F : Fit P 37 e) (hA : At m0 P ([24] ++ (gA 121 base 0 ++ (gA 121 base 1 ++ (gA 121 base 2 ++ gA 121 base 3))))) (hx : H one < 4294967296) (hy : H two < 4294967296) (hm : Ag m (img base m0 H)) :
    Out e 13 ⟨P, sp, a, 4 * one, 4 * two, f, m⟩ (P + 37) (sp) (4 * one) (4 * two) (img base m0 (upd H one ((H one + H two) % 4294967296))) (fun f' => f'.c.toNat = (H one + H two) / 4294967296) := by
  have hML : ML = 1536 := rfl
  have hB := B.lo
  have S0 := st_18 (sp := sp) (a := a) (x := 4 * one) (y := 4 * two) (f := f) (m := m) (n := P) (F.n (t := 0) rfl) (Cd.at (t := 0) (Cd.img B.lo) hm hA.l F.lo (F.sub (t := 0) (l := 1) rfl).hi rfl)
  have hA := hA.r (Q := P + 1) rfl
  have key : ∀ {i : Nat}, i < 4 → Rv ((H one + H two) % 4294967296) one (4 * one + i) = gAdd (H one) (H two) i (cyc (H one) (H two) 0 i) % 256 := fun hi => by rw [Rv_at, add_ok hi]
  obtain ⟨a1, f1, m1, R1, A1, K1, c1⟩ := pl_add (e := e) (sp := sp) (a := a) (f := ⟨f.n, f.v, f.z, false⟩) B (by decide) h1 h2 (F.sub (t := 1) (l := 9) rfl) hA.l (key (i := 0) (by decide)) hm.start
  have hA := hA.r (Q := P + 1 + 9) rfl
  obtain ⟨a2, f2, m2, R2, A2, K2, c2⟩ := pl_add (e := e) (sp := sp) (a := a1) (f := f1) B (by decide) h1 h2 (F.sub (t := 10) (l := 9) rfl) hA.l (by rw [c1]; exact key (i := 1) (by decide)) A1
  have hA := hA.r (Q := P + 1 + 9 + 9) rfl
  obtain ⟨a3, f3, m3, R3, A3, K3, c3⟩ := pl_add (e := e) (sp := sp) (a := a2) (f := f2) B (by decide) h1 h2 (F.sub (t := 19) (l := 9) rfl) hA.l (by rw [c2, c1]; exact key (i := 2) (by decide)) A2
  have hA := hA.r (Q := P + 1 + 9 + 9 + 9) rfl
  obtain ⟨a4, f4, m4, R4, A4, K4, c4⟩ := pl_add (e := e) (sp := sp) (a := a3) (f := f3) B (by decide) h1 h2 (F.sub (t := 28) (l := 9) rfl) hA (by rw [c3, c2, c1]; exact key (i := 3) (by decide)) A3
  refine ⟨a4, f4, m4, .cons S0 (F.e (t := 0) rfl) (R1.app (R2.app (R3.app R4))), A4.pim_all h1 fun j hj => Rv_at, ((K1.trans K2).trans K3).trans K4, ?_⟩
  rw [c4, c3, c2, c1]
  exact (add_c4 (c0 := 0) hx hy)
theorem sub_sub (B : Bs base) (h1 : one < 4) (h2 : two < 4) (F : Fit P 37 e) (hA : At m0 P ([56] ++ (gA 249 base 0 ++ (gA 249 base 1 ++ (gA 249 base 2 ++ gA 249 base 3))))) (hx : H one < 4294967296) (hy : H two < 4294967296) (hm : Ag m (img base m0 H)) :
    Out e 13 ⟨P, sp, a, 4 * one, 4 * two, f, m⟩ (P + 37) (sp) (4 * one) (4 * two) (img base m0 (upd H one ((H one + (4294967295 - H two) + 1) % 4294967296))) (fun f' => f'.c.toNat = (H one + (4294967295 - H two) + 1) / 4294967296) := by
  have hML : ML = 1536 := rfl
  have hB := B.lo
  have S0 := st_38 (sp := sp) (a := a) (x := 4 * one) (y := 4 * two) (f := f) (m := m) (n := P) (F.n (t := 0) rfl) (Cd.at (t := 0) (Cd.img B.lo) hm hA.l F.lo (F.sub (t := 0) (l := 1) rfl).hi rfl)
  have hA := hA.r (Q := P + 1) rfl
  have key : ∀ {i : Nat}, i < 4 → Rv ((H one + (4294967295 - H two) + 1) % 4294967296) one (4 * one + i) = gAdd (H one) (4294967295 - H two) i (cyc (H one) (4294967295 - H two) 1 i) % 256 := fun hi => by rw [Rv_at, add_by, ← by_mod hi]
  obtain ⟨a1, f1, m1, R1, A1, K1, c1⟩ := pl_sub (e := e) (sp := sp) (a := a) (f := ⟨f.n, f.v, f.z, true⟩) B (by decide) h1 h2 (F.sub (t := 1) (l := 9) rfl) hA.l hy (key (i := 0) (by decide)) hm.start
  have hA := hA.r (Q := P + 1 + 9) rfl
  obtain ⟨a2, f2, m2, R2, A2, K2, c2⟩ := pl_sub (e := e) (sp := sp) (a := a1) (f := f1) B (by decide) h1 h2 (F.sub (t := 10) (l := 9) rfl) hA.l hy (by rw [c1]; exact key (i := 1) (by decide)) A1
  have hA := hA.r (Q := P + 1 + 9 + 9) rfl
  obtain ⟨a3, f3, m3, R3, A3, K3, c3⟩ := pl_sub (e := e) (sp := sp) (a := a2) (f := f2) B (by decide) h1 h2 (F.sub (t := 19) (l := 9) rfl) hA.l hy (by rw [c2, c1]; exact key (i := 2) (by decide)) A2
  have hA := hA.r (Q := P + 1 + 9 + 9 + 9) rfl
  obtain ⟨a4, f4, m4, R4, A4, K4, c4⟩ := pl_sub (e := e) (sp := sp) (a := a3) (f := f3) B (by decide) h1 h2 (F.sub (t := 28) (l := 9) rfl) hA hy (by rw [c3, c2, c1]; exact key (i := 3) (by decide)) A3
  refine ⟨a4, f4, m4, .cons S0 (F.e (t := 0) rfl) (R1.app (R2.app (R3.app R4))), A4.pim_all h1 fun j hj => Rv_at, ((K1.trans K2).trans K3).trans K4, ?_⟩
  rw [c4, c3, c2, c1]
  exact (add_c4 (c0 := 1) hx (by (clear c1 c2 c3 c4 h1 h2 hB hML hx hy; lia)))
theorem sub_cmp (B : Bs base) (h1 : one < 4) (h2 : two < 4) (F : Fit P 24 e) (hA : At m0 P (gC 217 base 0 ++ (gC 249 base 1 ++ (gC 249 base 2 ++ gC 249 base 3)))) (hx : H one < 4294967296) (hy : H two < 4294967296) (hm : Ag m (img base m0 H)) :
    Out e 8 ⟨P, sp, a, 4 * one, 4 * two, f, m⟩ (P + 24) (sp) (4 * one) (4 * two) (img base m0 H) (fun f' => f'.c.toNat = (H one + (4294967295 - H two) + 1) / 4294967296) := by
  have hB := B.lo
  obtain ⟨a1, f1, m1, R1, A1, K1, c1⟩ := pl_cmp0 (e := e) (sp := sp) (a := a) (f := f) B h1 h2 (F.sub (t := 0) (l := 6) rfl) hA.l hy hm
  have hA := hA.r (Q := P + 6) rfl
  obtain ⟨a2, f2, m2, R2, A2, K2, c2⟩ := pl_cmp (e := e) (sp := sp) (a := a1) (f := f1) B (by decide) h1 h2 (F.sub (t := 6) (l := 6) rfl) hA.l hy A1
  have hA := hA.r (Q := P + 6 + 6) rfl
  obtain ⟨a3, f3, m3, R3, A3, K3, c3⟩ := pl_cmp (e := e) (sp := sp) (a := a2) (f := f2) B (by decide) h1 h2 (F.sub (t := 12) (l := 6) rfl) hA.l hy A2
  have hA := hA.r (Q := P + 6 + 6 + 6) rfl
  obtain ⟨a4, f4, m4, R4, A4, K4, c4⟩ := pl_cmp (e := e) (sp := sp) (a := a3) (f := f3) B (by decide) h1 h2 (F.sub (t := 18) (l := 6) rfl) hA hy A3
  refine ⟨a4, f4, m4, R1.app (R2.app (R3.app R4)), A4, ((K1.trans K2).trans K3).trans K4, ?_⟩
  rw [c4, c3, c2, c1]
  exact (add_c4 (c0 := 1) hx (by (clear c1 c2 c3 c4 h1 h2 hB hx hy; lia)))
theorem sub_dbl {y : Nat} (B : Bs base) (h1 : one < 4) (F : Fit P 12 e) (hA : At m0 P (gS 30 base 0 ++ (gS 62 base 1 ++ (gS 62 base 2 ++ gS 62 base 3)))) (hm : Ag m (img base m0 H)) :
    Out e 4 ⟨P, sp, a, 4 * one, y, f, m⟩ (P + 12) (sp) (4 * one) (y) (img base m0 (upd H one ((H one + H one) % 4294967296))) (fun f' => True) := by
  have hB := B.lo
  have key : ∀ {i : Nat}, i < 4 → Rv ((H one + H one) % 4294967296) one (4 * one + i) = gAdd (H one) (H one) i (cyc (H one) (H one) 0 i) % 256 := fun hi => by rw [Rv_at, add_ok hi]
  obtain ⟨a1, f1, m1, R1, A1, K1, c1⟩ := pl_asl (e := e) (sp := sp) (a := a) (f := f) (y := y) B h1 (F.sub (t := 0) (l := 3) rfl) hA.l (key (i := 0) (by decide)) hm.start
  have hA := hA.r (Q := P + 3) rfl
  obtain ⟨a2, f2, m2, R2, A2, K2, c2⟩ := pl_rol (e := e) (sp := sp) (a := a1) (f := f1) (y := y) B (by decide) h1 (F.sub (t := 3) (l := 3) rfl) hA.l (by rw [c1]; exact key (i := 1) (by decide)) A1
  have hA := hA.r (Q := P + 3 + 3) rfl
  obtain ⟨a3, f3, m3, R3, A3, K3, c3⟩ := pl_rol (e := e) (sp := sp) (a := a2) (f := f2) (y := y) B (by decide) h1 (F.sub (t := 6) (l := 3) rfl) hA.l (by rw [c2, c1]; exact key (i := 2) (by decide)) A2
  have hA := hA.r (Q := P + 3 + 3 + 3) rfl
  obtain ⟨a4, f4, m4, R4, A4, K4, c4⟩ := pl_rol (e := e) (sp := sp) (a := a3) (f := f3) (y := y) B (by decide) h1 (F.sub (t := 9) (l := 3) rfl) hA (by rw [c3, c2, c1]; exact key (i := 3) (by decide)) A3
  exact ⟨a4, f4, m4, R1.app (R2.app (R3.app R4)), A4.pim_all h1 fun j hj => Rv_at, ((K1.trans K2).trans K3).trans K4, trivial⟩
theorem sub_half {y : Nat} (B : Bs base) (h1 : one < 4) (F : Fit P 12 e) (hA : At m0 P (gS 94 base 3 ++ (gS 126 base 2 ++ (gS 126 base 1 ++ gS 126 base 0)))) (hx : H one < 4294967296) (hm : Ag m (img base m0 H)) :
    Out e 4 ⟨P, sp, a, 4 * one, y, f, m⟩ (P + 12) (sp) (4 * one) (y) (img base m0 (upd H one (H one / 2))) (fun f' => True) := by
  have hB := B.lo
  have hm0 : Ag m (pim base (img base m0 H) (Rv (H one / 2) one) (4 * one + (3 + 1)) (4 * one + 4)) := fun k hk => by rw [hm k hk]; exact pim_0.symm
  obtain ⟨a1, f1, m1, R1, A1, K1, c1⟩ := pl_lsr (e := e) (sp := sp) (a := a) (f := f) (y := y) B h1 (F.sub (t := 0) (l := 3) rfl) hA.l (by rw [Rv_at, by_half3 hx]) hm0
  have hA := hA.r (Q := P + 3) rfl
  obtain ⟨a2, f2, m2, R2, A2, K2, c2⟩ := pl_ror (i := 2) (e := e) (sp := sp) (a := a1) (f := f1) (y := y) B (by decide) h1 (F.sub (t := 3) (l := 3) rfl) hA.l (by rw [c1, Rv_at, ← by_half (i := 2)]) A1
  have hA := hA.r (Q := P + 3 + 3) rfl
  obtain ⟨a3, f3, m3, R3, A3, K3, c3⟩ := pl_ror (i := 1) (e := e) (sp := sp) (a := a2) (f := f2) (y := y) B (by decide) h1 (F.sub (t := 6) (l := 3) rfl) hA.l (by rw [c2, Rv_at, ← by_half (i := 1)]) A2
  have hA := hA.r (Q := P + 3 + 3 + 3) rfl
  obtain ⟨a4, f4, m4, R4, A4, K4, c4⟩ := pl_ror (i := 0) (e := e) (sp := sp) (a := a3) (f := f3) (y := y) B (by decide) h1 (F.sub (t := 9) (l := 3) rfl) hA (by rw [c3, Rv_at, ← by_half (i := 0)]) A3
  exact ⟨a4, f4, m4, R1.app (R2.app (R3.app R4)), A4.pim_all h1 fun j hj => Rv_at, ((K1.trans K2).trans K3).trans K4, trivial⟩
theorem img_two {u v : Nat} (h1 : one < 4) (h2 : two < 4) (B : Bs base) (k : Nat) : pim base (pim base (img base m0 H) (Rv u one) (4 * one) (4 * one + 4)) (Rv v two) (4 * two) (4 * two + 4) k = img base m0 (upd (upd H one u) two v) k := by
  have hB := B.lo
  unfold pim
  by_cases q2 : base + 4 * two ≤ k ∧ k < base + (4 * two + 4)
  · obtain ⟨j, hj, rfl⟩ : ∃ j, j < 4 ∧ k = base + 4 * two + j := ⟨k - base - 4 * two, by (clear h1 h2 hB; lia), by (clear h1 h2 hB; lia)⟩
    rw [if_pos q2, img_reg h2 hj, upd_self, show base + 4 * two + j - base = 4 * two + j by (clear h1 h2 hB hj q2; lia), Rv_at]
  · rw [if_neg q2]
    by_cases q1 : base + 4 * one ≤ k ∧ k < base + (4 * one + 4)
    · obtain ⟨j, hj, rfl⟩ : ∃ j, j < 4 ∧ k = base + 4 * one + j := ⟨k - base - 4 * one, by (clear h1 h2 hB q2; lia), by (clear h1 h2 hB q2; lia)⟩
      rw [if_pos q1, img_reg h1 hj, upd_ne (by (clear h1 h2 hB q1; lia)), upd_self, show base + 4 * one + j - base = 4 * one + j by (clear h1 h2 hB hj q1 q2; lia), Rv_at]
    · rw [if_neg q1]
      unfold img
      by_cases g1 : k < base
      · rw [if_pos g1, if_pos g1]
      · rw [if_neg g1, if_neg g1]
        by_cases g2 : k < base + 16
        · rw [if_pos g2, if_pos g2, upd_ne (by (clear g2 h1 h2 hB q1; lia)), upd_ne (by (clear g2 h1 h2 hB q2; lia))]
        · rw [if_neg g2, if_neg g2, upd_ne (by (clear g1 g2 h1 hB q1 q2; lia)), upd_ne (by (clear g1 g2 h2 hB q1 q2; lia))]
theorem sub_swp (B : Bs base) (h1 : one < 4) (h2 : two < 4) (hs : sp + 1 < 256) (F : Fit P 56 e) (hA : At m0 P (gX base 0 ++ (gX base 1 ++ (gX base 2 ++ gX base 3)))) (hm : Ag m (img base m0 H)) :
    Out e 24 ⟨P, sp + 1, a, 4 * one, 4 * two, f, m⟩ (P + 56) (sp + 1) (4 * one) (4 * two) (img base m0 (upd (upd H one (H two)) two (H one))) (fun f' => True) := by
  have hB := B.lo
  have hm0 : Ag m (pim base (pim base (img base m0 H) (Rv (H two) one) (4 * one) (4 * one + 0)) (Rv (H one) two) (4 * two) (4 * two + 0)) := fun k hk => by rw [hm k hk]; exact (pim_0.trans pim_0).symm
  obtain ⟨a1, f1, m1, R1, A1, K1, -⟩ := pl_swp (e := e) (a := a) (f := f) B (by decide) h1 h2 hs (F.sub (t := 0) (l := 14) rfl) hA.l Rv_at Rv_at hm0
  have hA := hA.r (Q := P + 14) rfl
  obtain ⟨a2, f2, m2, R2, A2, K2, -⟩ := pl_swp (e := e) (a := a1) (f := f1) B (by decide) h1 h2 hs (F.sub (t := 14) (l := 14) rfl) hA.l Rv_at Rv_at A1
  have hA := hA.r (Q := P + 14 + 14) rfl
  obtain ⟨a3, f3, m3, R3, A3, K3, -⟩ := pl_swp (e := e) (a := a2) (f := f2) B (by decide) h1 h2 hs (F.sub (t := 28) (l := 14) rfl) hA.l Rv_at Rv_at A2
  have hA := hA.r (Q := P + 14 + 14 + 14) rfl
  obtain ⟨a4, f4, m4, R4, A4, K4, -⟩ := pl_swp (e := e) (a := a3) (f := f3) B (by decide) h1 h2 hs (F.sub (t := 42) (l := 14) rfl) hA Rv_at Rv_at A3
  exact ⟨a4, f4, m4, R1.app (R2.app (R3.app R4)), fun k hk => (A4 k hk).trans (img_two h1 h2 B k), ((K1.trans K2).trans K3).trans K4, trivial⟩
/-- A call and its way back. -/
theorem call_r {g g' : Nat → Nat} {S L N s x y lo hi : Nat} {C : Fg → Prop} (hg : Cd m0 g) (hg' : Cd m0 g') (hm : Ag m g) (hs : s + 2 < 256) (F : Fit P 3 e) (hA : At m0 P [32, lo, hi]) (hl : lo < 256) (hh : hi < 256) (hS : lo + hi * 256 = S) (hS1 : 512 ≤ S + L) (hS2 : S + L < 1265) (hSe : S + L < e) (hret : m0 (S + L) = 96)
    (sub : ∀ m1, Ag m1 g → Out e N ⟨S, s, a, x, y, f, m1⟩ (S + L) s x y g' C) :
    Out e (N + 2) ⟨P, s + 2, a, x, y, f, m⟩ (P + 3) (s + 2) x y g' C := by
  have hML : ML = 1536 := rfl
  have hP2 := F.hi
  have cd : ∀ {t z : Nat}, [32, lo, hi][t]? = some z → m (P + t) = z := fun ht => Cd.at hg hm hA F.lo F.hi ht
  have S1 := st_20 (sp := s) (a := a) (x := x) (y := y) (f := f) (m := m) (n := P) (F.n (t := 0) rfl) (cd (t := 0) rfl) F.lo hs (cd (t := 1) rfl) (cd (t := 2) rfl) hl hh
  rw [hS] at S1
  obtain ⟨a', f', m2, R, A2, K2, c⟩ := sub (upd (upd m (s + 2 + 256) ((P + 2) / 256)) (s + 1 + 256) ((P + 2) % 256)) fun k hk => by rw [upd_ne (by (clear hML hP2 hS hS1 hS2 hSe hh hl hret; lia)), upd_ne (by (clear hML hP2 hS hS1 hS2 hSe hh hl hret; lia))]; exact hm k hk
  have K2 : Kp s (upd (upd m (s + 2 + 256) ((P + 2) / 256)) (s + 1 + 256) ((P + 2) % 256)) m2 := K2
  have e1 : m2 (s + 1 + 256) = (P + 2) % 256 := by rw [K2 _ (by (clear hML hP2 hS hS1 hS2 hSe hh hl hret hs; lia)) (by (clear hML hP2 hS hS1 hS2 hSe hh hl hret; lia)), upd_self]
  have e2 : m2 (s + 2 + 256) = (P + 2) / 256 := by rw [K2 _ (by (clear e1 hML hP2 hS hS1 hS2 hSe hh hl hret hs; lia)) (by (clear e1 hML hP2 hS hS1 hS2 hSe hh hl hret; lia)), upd_ne (by (clear e1 hML hP2 hS hS1 hS2 hSe hh hl hret hs; lia)), upd_self]
  have S2 := st_60 (sp := s) (a := a') (x := x) (y := y) (f := f') (m := m2) (n := S + L) (by (clear e1 e2 hP2 hS hS1 hSe hh hl hret hs; lia)) ((A2 _ (.inr hS1)).trans ((hg' _ hS1 hS2).trans hret)) (t := P + 3) hs e1 e2 (by (clear e1 e2 hML hS hS1 hS2 hSe hh hl hret hs; lia)) (by (clear e1 e2 hML hP2 hS hS1 hS2 hSe hh hl hret hs; lia)) (by (clear e1 e2 hML hS hS1 hS2 hSe hh hl hret hs; lia))
  refine ⟨a', f', m2, ?_, A2, fun k h1 h2 => by rw [K2 k (by (clear e1 e2 h2 hML hP2 hS hS1 hS2 hSe hh hl hret hs; lia)) h2, upd_ne (by (clear e1 e2 h2 hML hP2 hS hS1 hS2 hSe hh hl hret hs; lia)), upd_ne (by (clear e1 e2 h2 hML hP2 hS hS1 hS2 hSe hh hl hret hs; lia))], c⟩
  have := (Run.cons S1 (F.e (t := 0) rfl) R).app (Run.one S2 (by show S + L < e; (clear e1 e2 hML hP2 hS hS1 hS2 hh hl hret hs; lia)))
  exact this
end
end VE
namespace VE
/-! Plans. -/
inductive Pl where
  | nop
  | op (k one two more : Nat)
  | unl (one two : Nat) (b : Pl)
  | rep (k : Nat) (b : Pl)
noncomputable def iter {α : Type} (f : α → α) : Nat → α → α
  | 0, x => x
  | n + 1, x => iter f n (f x)
noncomputable def opR (k one two more : Nat) (H : Nat → Nat) : Nat → Nat := match k with
  | 0 => upd (if 4294967296 ≤ H one + H two then upd H 4 (H 4 + 1) else H) one ((H one + H two) % 4294967296)
  | 1 => upd (if H one < H two then upd H 4 (H 4 + 1) else H) one ((H one + (4294967295 - H two) + 1) % 4294967296)
  | 2 => upd H one more
  | 3 => upd H one ((H one + H one) % 4294967296)
  | 4 => upd H one (H one / 2)
  | _ => upd (upd H one (H two)) two (H one)
noncomputable def Pl.run : Pl → (Nat → Nat) → (Nat → Nat)
  | .nop, H => H
  | .op k one two more, H => opR k one two more H
  | .unl one two b, H => if H two ≤ H one then b.run H else H
  | .rep k b, H => iter b.run k H
noncomputable def Pl.ok : Pl → Prop
  | .nop => True
  | .op k one two more => one < 4 ∧ two < 4 ∧ more < 4294967296
  | .unl one two b => one < 4 ∧ two < 4 ∧ b.ok
  | .rep k b => 1 ≤ k ∧ k ≤ 3 ∧ b.ok
noncomputable def Pl.cost : Pl → Nat
  | .nop => 0
  | .op .. => 28
  | .unl _ _ b => 14 + b.cost
  | .rep k b => k * (b.cost + 6)
noncomputable def Pl.ct : Pl → Nat
  | .nop => 0
  | .op .. => 1
  | .unl _ _ b => b.ct
  | .rep k b => k * b.ct
noncomputable def Pl.rd : Pl → Nat
  | .nop => 0
  | .op .. => 0
  | .unl _ _ b => b.rd
  | .rep _ b => b.rd + 1
noncomputable def stC (base one more p : Nat) : List Nat := [169, by8 more p, 141, (base + 4 * one + p) % 256, (base + 4 * one + p) / 256]
noncomputable def opC (base k one two more : Nat) : List Nat := match k with
  | 0 => [162, 4 * one, 160, 4 * two, 32, 0, 2, 144, 3, 238, (base + 16) % 256, (base + 16) / 256]
  | 1 => [162, 4 * one, 160, 4 * two, 32, 38, 2, 176, 3, 238, (base + 16) % 256, (base + 16) / 256]
  | 2 => stC base one more 0 ++ stC base one more 1 ++ stC base one more 2 ++ stC base one more 3
  | 3 => [162, 4 * one, 32, 101, 2]
  | 4 => [162, 4 * one, 32, 114, 2]
  | _ => [162, 4 * one, 160, 4 * two, 32, 127, 2]
noncomputable def Pl.len : Pl → Nat
  | .nop => 0
  | .op k _ _ _ => (match k with
    | 0 => 12
    | 1 => 12
    | 2 => 20
    | 3 => 5
    | 4 => 5
    | _ => 7)
  | .unl _ _ b => 12 + b.len
  | .rep _ b => 13 + b.len
noncomputable def Pl.cmp (base : Nat) : Pl → Nat → List Nat
  | .nop, _ => []
  | .op k one two more, _ => opC base k one two more
  | .unl one two b, n => [162, 4 * one, 160, 4 * two, 32, 76, 2, 176, 3, 76, (512 + (n + 12 + b.len)) % 256, (512 + (n + 12 + b.len)) / 256] ++ b.cmp base (n + 12)
  | .rep k b, n => [169, k, 72] ++ (b.cmp base (n + 3) ++ [104, 56, 233, 1, 240, 4, 72, 76, (512 + (n + 3)) % 256, (512 + (n + 3)) / 256])
theorem opC_len (base k one two more : Nat) (n : Nat) : (opC base k one two more).length = (Pl.op k one two more).len := by
  match k with
  | 0 | 1 | 2 | 3 | 4 | _ + 5 => rfl
theorem cmp_len (base : Nat) : ∀ (p : Pl) (n : Nat), (p.cmp base n).length = p.len
  | .nop, _ => rfl
  | .op k one two more, n => opC_len base k one two more n
  | .unl one two b, n => by
    show ([162, 4 * one, 160, 4 * two, 32, 76, 2, 176, 3, 76, (512 + (n + 12 + b.len)) % 256, (512 + (n + 12 + b.len)) / 256] ++ b.cmp base (n + 12)).length = 12 + b.len
    rw [List.length_append, cmp_len base b]; rfl
  | .rep k b, n => by
    show ([169, k, 72] ++ (b.cmp base (n + 3) ++ [104, 56, 233, 1, 240, 4, 72, 76, (512 + (n + 3)) % 256, (512 + (n + 3)) / 256])).length = 13 + b.len
    rw [List.length_append, List.length_append, cmp_len base b]
    show 3 + (b.len + 10) = _
    lia
/-! The subroutines' text. -/
noncomputable def gK (base k p : Nat) : List Nat := match k with
  | 0 => gA 121 base p
  | 1 => gA 249 base p
  | 2 => gC (if p = 0 then 217 else 249) base p
  | 3 => gS (if p = 0 then 30 else 62) base p
  | 4 => gS (if p = 0 then 94 else 126) base (3 - p)
  | _ => gX base p
noncomputable def preK (k : Nat) : List Nat := match k with
  | 0 => [24]
  | 1 => [56]
  | _ => []
noncomputable def gU (base k : Nat) : Nat → List Nat
  | 0 => []
  | p + 1 => gU base k p ++ gK base k p
noncomputable def sbK (base k : Nat) : List Nat := preK k ++ gU base k 4 ++ [96]
noncomputable def sbU (base : Nat) : Nat → List Nat
  | 0 => []
  | k + 1 => sbU base k ++ sbK base k
theorem At.eq {m0 : Nat → Nat} {P : Nat} {l r : List Nat} (h : At m0 P l) (e : l = r) : At m0 P r := by rw [← e]; exact h
noncomputable def Hok (H : Nat → Nat) : Prop := ∀ r, r < 4 → H r < 4294967296
theorem Hok.upd {H : Nat → Nat} {r v : Nat} (h : Hok H) (hv : v < 4294967296) : Hok (upd H r v) := fun q hq => by
  unfold VE.upd
  by_cases e : q = r
  · rw [if_pos e]; exact hv
  · rw [if_neg e]; exact h q hq
theorem Hok.cnt {H : Nat → Nat} {v : Nat} (h : Hok H) : Hok (VE.upd H 4 v) := fun q hq => by rw [upd_ne (by lia)]; exact h q hq
section
variable {base : Nat} {m0 H R m : Nat → Nat} {e P s a i one two : Nat} {f : Fg}
/-- The subroutines lie in the memory. -/
structure Subs (base : Nat) (m0 : Nat → Nat) (e : Nat) : Prop where
  B : Bs base
  he : 696 ≤ e
  he' : e ≤ 1265
  at_ : At m0 512 (sbU base 6)
theorem sbU6 : sbU base 6 = sbK base 0 ++ (sbK base 1 ++ (sbK base 2 ++ (sbK base 3 ++ (sbK base 4 ++ sbK base 5)))) := by
  simp only [sbU, List.nil_append, List.append_assoc]
theorem Subs.r0 (S : Subs base m0 e) : At m0 512 (sbK base 0 ++ (sbK base 1 ++ (sbK base 2 ++ (sbK base 3 ++ (sbK base 4 ++ sbK base 5))))) := S.at_.eq sbU6
theorem Subs.s0 (S : Subs base m0 e) : At m0 512 (sbK base 0) := S.r0.l
theorem Subs.r1 (S : Subs base m0 e) : At m0 550 (sbK base 1 ++ (sbK base 2 ++ (sbK base 3 ++ (sbK base 4 ++ sbK base 5)))) := S.r0.r rfl
theorem Subs.s1 (S : Subs base m0 e) : At m0 550 (sbK base 1) := S.r1.l
theorem Subs.r2 (S : Subs base m0 e) : At m0 588 (sbK base 2 ++ (sbK base 3 ++ (sbK base 4 ++ sbK base 5))) := S.r1.r rfl
theorem Subs.s2 (S : Subs base m0 e) : At m0 588 (sbK base 2) := S.r2.l
theorem Subs.r3 (S : Subs base m0 e) : At m0 613 (sbK base 3 ++ (sbK base 4 ++ sbK base 5)) := S.r2.r rfl
theorem Subs.s3 (S : Subs base m0 e) : At m0 613 (sbK base 3) := S.r3.l
theorem Subs.r4 (S : Subs base m0 e) : At m0 626 (sbK base 4 ++ sbK base 5) := S.r3.r rfl
theorem Subs.s4 (S : Subs base m0 e) : At m0 626 (sbK base 4) := S.r4.l
theorem Subs.s5 (S : Subs base m0 e) : At m0 639 (sbK base 5) := S.r4.r rfl
theorem Subs.fit (S : Subs base m0 e) {P L : Nat} (h1 : Nat.ble 512 P = true) (h2 : Nat.ble (P + L) 696 = true) : Fit P L e := by
  have a := Nat.le_of_ble_eq_true h1; have b := Nat.le_of_ble_eq_true h2; have c := S.he; have d := S.he'
  exact ⟨a, by lia, by lia⟩
theorem Subs.lt (S : Subs base m0 e) {P : Nat} (h : Nat.ble (P + 1) 696 = true) : P < e := Nat.lt_of_lt_of_le (Nat.le_of_ble_eq_true h) S.he
variable (S : Subs base m0 e)
include S
theorem call_add {x y : Nat} (h1 : one < 4) (h2 : two < 4) (hs : s + 2 < 256) (F : Fit P 3 e) (hA : At m0 P [32, 0, 2]) (hH : Hok H) (hm : Ag m (img base m0 H)) :
    Out e 15 ⟨P, s + 2, a, 4 * one, 4 * two, f, m⟩ (P + 3) (s + 2) (4 * one) (4 * two) (img base m0 (upd H one ((H one + H two) % 4294967296))) (fun f' => f'.c.toNat = (H one + H two) / 4294967296) := by
  exact call_r (S := 512) (L := 37) (N := 13) (C := fun f' => f'.c.toNat = (H one + H two) / 4294967296) (Cd.img S.B.lo) (Cd.img S.B.lo) hm hs F hA (by decide) (by decide) rfl (by decide) (by decide) (S.lt rfl) (S.s0 37 96 rfl)
    fun m1 h => sub_add S.B h1 h2 (S.fit rfl rfl) ((At.eq (r := ([24] ++ (gA 121 base 0 ++ (gA 121 base 1 ++ (gA 121 base 2 ++ gA 121 base 3)))) ++ [96]) S.s0 rfl).l) (hH _ h1) (hH _ h2) h
theorem call_sub {x y : Nat} (h1 : one < 4) (h2 : two < 4) (hs : s + 2 < 256) (F : Fit P 3 e) (hA : At m0 P [32, 38, 2]) (hH : Hok H) (hm : Ag m (img base m0 H)) :
    Out e 15 ⟨P, s + 2, a, 4 * one, 4 * two, f, m⟩ (P + 3) (s + 2) (4 * one) (4 * two) (img base m0 (upd H one ((H one + (4294967295 - H two) + 1) % 4294967296))) (fun f' => f'.c.toNat = (H one + (4294967295 - H two) + 1) / 4294967296) := by
  exact call_r (S := 550) (L := 37) (N := 13) (C := fun f' => f'.c.toNat = (H one + (4294967295 - H two) + 1) / 4294967296) (Cd.img S.B.lo) (Cd.img S.B.lo) hm hs F hA (by decide) (by decide) rfl (by decide) (by decide) (S.lt rfl) (S.s1 37 96 rfl)
    fun m1 h => sub_sub S.B h1 h2 (S.fit rfl rfl) ((At.eq (r := ([56] ++ (gA 249 base 0 ++ (gA 249 base 1 ++ (gA 249 base 2 ++ gA 249 base 3)))) ++ [96]) S.s1 rfl).l) (hH _ h1) (hH _ h2) h
theorem call_cmp {x y : Nat} (h1 : one < 4) (h2 : two < 4) (hs : s + 2 < 256) (F : Fit P 3 e) (hA : At m0 P [32, 76, 2]) (hH : Hok H) (hm : Ag m (img base m0 H)) :
    Out e 10 ⟨P, s + 2, a, 4 * one, 4 * two, f, m⟩ (P + 3) (s + 2) (4 * one) (4 * two) (img base m0 H) (fun f' => f'.c.toNat = (H one + (4294967295 - H two) + 1) / 4294967296) := by
  exact call_r (S := 588) (L := 24) (N := 8) (C := fun f' => f'.c.toNat = (H one + (4294967295 - H two) + 1) / 4294967296) (Cd.img S.B.lo) (Cd.img S.B.lo) hm hs F hA (by decide) (by decide) rfl (by decide) (by decide) (S.lt rfl) (S.s2 24 96 rfl)
    fun m1 h => sub_cmp (P := 588) (e := e) (sp := s) (a := a) (f := f) S.B h1 h2 (S.fit rfl rfl) ((At.eq (r := (gC 217 base 0 ++ (gC 249 base 1 ++ (gC 249 base 2 ++ gC 249 base 3))) ++ [96]) S.s2 rfl).l) (hH _ h1) (hH _ h2) h
theorem call_dbl {y : Nat} (h1 : one < 4) (hs : s + 2 < 256) (F : Fit P 3 e) (hA : At m0 P [32, 101, 2]) (hm : Ag m (img base m0 H)) :
    Out e 6 ⟨P, s + 2, a, 4 * one, y, f, m⟩ (P + 3) (s + 2) (4 * one) (y) (img base m0 (upd H one ((H one + H one) % 4294967296))) (fun f' => True) := by
  exact call_r (S := 613) (L := 12) (N := 4) (C := fun _ => True) (Cd.img S.B.lo) (Cd.img S.B.lo) hm hs F hA (by decide) (by decide) rfl (by decide) (by decide) (S.lt rfl) (S.s3 12 96 rfl)
    fun m1 h => sub_dbl (P := 613) (e := e) (sp := s) (a := a) (f := f) (y := y) S.B h1 (S.fit rfl rfl) ((At.eq (r := (gS 30 base 0 ++ (gS 62 base 1 ++ (gS 62 base 2 ++ gS 62 base 3))) ++ [96]) S.s3 rfl).l) h
theorem call_half {y : Nat} (h1 : one < 4) (hs : s + 2 < 256) (F : Fit P 3 e) (hA : At m0 P [32, 114, 2]) (hH : Hok H) (hm : Ag m (img base m0 H)) :
    Out e 6 ⟨P, s + 2, a, 4 * one, y, f, m⟩ (P + 3) (s + 2) (4 * one) (y) (img base m0 (upd H one (H one / 2))) (fun f' => True) := by
  exact call_r (S := 626) (L := 12) (N := 4) (C := fun _ => True) (Cd.img S.B.lo) (Cd.img S.B.lo) hm hs F hA (by decide) (by decide) rfl (by decide) (by decide) (S.lt rfl) (S.s4 12 96 rfl)
    fun m1 h => sub_half (P := 626) (e := e) (sp := s) (a := a) (f := f) (y := y) S.B h1 (S.fit rfl rfl) ((At.eq (r := (gS 94 base 3 ++ (gS 126 base 2 ++ (gS 126 base 1 ++ gS 126 base 0))) ++ [96]) S.s4 rfl).l) (hH _ h1) h
theorem call_swp (h1 : one < 4) (h2 : two < 4) (hs : s + 3 < 256) (F : Fit P 3 e) (hA : At m0 P [32, 127, 2]) (hm : Ag m (img base m0 H)) :
    Out e 26 ⟨P, s + 3, a, 4 * one, 4 * two, f, m⟩ (P + 3) (s + 3) (4 * one) (4 * two) (img base m0 (upd (upd H one (H two)) two (H one))) (fun f' => True) := by
  exact call_r (s := s + 1) (S := 639) (L := 56) (N := 24) (C := fun _ => True) (Cd.img S.B.lo) (Cd.img S.B.lo) hm hs F hA (by decide) (by decide) rfl (by decide) (by decide) (S.lt rfl) (S.s5 56 96 rfl)
    fun m1 h => sub_swp (P := 639) (e := e) (sp := s) (a := a) (f := f) S.B h1 h2 (by lia) (S.fit rfl rfl) ((At.eq (r := (gX base 0 ++ (gX base 1 ++ (gX base 2 ++ gX base 3))) ++ [96]) S.s5 rfl).l) h
end
end VE
namespace VE
section
variable {base : Nat} {m0 H R m : Nat → Nat} {e P s a x y i one two more : Nat} {f : Fg}
theorem toN_1 {b : Bool} {n : Nat} (h : b.toNat = n) (hn : 1 ≤ n) : b = true := by
  cases b with
  | true => rfl
  | false => have : 0 = n := h; (clear h; lia)
theorem toN_0 {b : Bool} {n : Nat} (h : b.toNat = n) (hn : n = 0) : b = false := by
  cases b with
  | false => rfl
  | true => have : 1 = n := h; (clear h; lia)
/-- The running of one piece of the text. -/
noncomputable def Runs (base : Nat) (m0 : Nat → Nat) (e P L s N : Nat) (H H' : Nat → Nat) : Prop := ∀ a x y f m, Ag m (img base m0 H) → ∃ n a' x' y' f' m', n ≤ N ∧ Run e n ⟨P, s + 3, a, x, y, f, m⟩ ⟨P + L, s + 3, a', x', y', f', m'⟩ ∧ Ag m' (img base m0 H') ∧ Kp (s + 3) m m'
variable (S : Subs base m0 e)
include S
theorem op_cnt {k o t lo : Nat} (hs : s + 3 < 256) (F : Fit P 5 e) (hA : At m0 P [o, 3, 238, (base + 16) % 256, (base + 16) / 256]) (hm : Ag m (img base m0 H)) (hc : H 4 + 1 < 256) (b : Bool)
    (skip : b = false → m P = o → m (P + 1) = 3 → Stp ⟨P, s + 3, a, x, y, f, m⟩ ⟨P + 5, s + 3, a, x, y, f, m⟩) (fall : b = true → m P = o → Stp ⟨P, s + 3, a, x, y, f, m⟩ ⟨P + 2, s + 3, a, x, y, f, m⟩) :
    ∃ n f' m', n ≤ 2 ∧ Run e n ⟨P, s + 3, a, x, y, f, m⟩ ⟨P + 5, s + 3, a, x, y, f', m'⟩ ∧ Ag m' (img base m0 (if b = true then upd H 4 (H 4 + 1) else H)) ∧ Kp (s + 3) m m' := by
  have hB := S.B.lo; have hB2 := S.B.hi; have := S.he'
  have hML : ML = 1536 := rfl
  have cd : ∀ {t z : Nat}, [o, 3, 238, (base + 16) % 256, (base + 16) / 256][t]? = some z → m (P + t) = z := fun ht => Cd.at (Cd.img hB) hm hA F.lo F.hi ht
  cases hb : b with
  | false => exact ⟨1, _, _, by decide, .one (skip hb (cd (t := 0) rfl) (cd (t := 1) rfl)) (F.e (t := 0) rfl), hm, Kp.refl _ _⟩
  | true =>
    have hv : m (base + 16) = H 4 := by rw [hm _ (.inr (by (clear hB2 hML hb hc hs this; lia))), img_cnt]
    have S2 := st_ee (sp := s + 3) (a := a) (x := x) (y := y) (f := f) (m := m) (n := P + 2) (F.n (t := 2) rfl) (cd (t := 2) rfl) (cd (t := 3) rfl) (cd (t := 4) rfl) (by (clear hB hML hb hc hs hv this; lia)) (k := base + 16) (by (clear hB hB2 hML hb hc hs hv this; lia)) (by (clear hB hb hc hs hv this; lia)) (by (clear hB hB2 hML hb hs this; lia))
    rw [hv, Nat.mod_eq_of_lt hc] at S2
    exact ⟨2, _, _, by decide, .cons (fall hb (cd (t := 0) rfl)) (F.e (t := 0) rfl) (.one S2 (F.e (t := 2) rfl)), hm.cnt, (Kp.refl _ _).upd (.inl (by (clear hB2 hML hb hc hs hv this; lia)))⟩
theorem run_01 {k : Nat} (hk : k < 2) (h1 : one < 4) (h2 : two < 4) (hs : s + 3 < 256) (F : Fit P 12 e) (hA : At m0 P (opC base k one two more)) (hH : Hok H) (hc : H 4 + 1 < 256) : Runs base m0 e P 12 s 28 H (opR k one two more H) := fun a x y f m hm => by
  have hB := S.B.lo; have hB2 := S.B.hi; have := S.he'
  have hML : ML = 1536 := rfl
  have hP2 := F.hi
  have n0 := hH _ h1
  have n1 := hH _ h2
  match k, hk with
  | 0, _ =>
    have cd : ∀ {t z : Nat}, (opC base 0 one two more)[t]? = some z → m (P + t) = z := fun ht => Cd.at (Cd.img hB) hm hA F.lo F.hi ht
    have S1 := st_a2 (sp := s + 3) (a := a) (x := x) (y := y) (f := f) (m := m) (n := P) (F.n (t := 0) rfl) (cd (t := 0) rfl) (cd (t := 1) rfl) (by (clear h2 hB hB2 hML hP2 hc hk hs n0 n1 this; lia))
    have S2 := st_a0 (sp := s + 3) (a := a) (x := 4 * one) (y := y) (f := f.nz (4 * one)) (m := m) (n := P + 2) (F.n (t := 2) rfl) (cd (t := 2) rfl) (cd (t := 3) rfl) (by (clear h1 hB hB2 hML hP2 hc hk hs n0 n1 this; lia))
    have hA1 := (hA.eq (r := [162, 4 * one, 160, 4 * two] ++ ([32, 0, 2] ++ [144, 3, 238, (base + 16) % 256, (base + 16) / 256])) rfl).r (Q := P + 4) rfl
    obtain ⟨a', f', m2, R, A2, K2, c⟩ := call_add S (s := s + 1) (a := a) (f := (f.nz (4 * one)).nz (4 * two)) (x := 0) (y := 0) h1 h2 (by (clear h1 h2 hB hB2 hML hP2 hc hk n0 n1 this; lia)) (F.sub (t := 4) (l := 3) rfl) hA1.l hH hm
    obtain ⟨n, f2, m3, hn, R3, A3, K3⟩ := op_cnt S (k := 0) (t := 0) (lo := 0) (P := P + 7) (s := s) (a := a') (x := 4 * one) (y := 4 * two) (f := f') (m := m2) hs (F.sub (t := 7) (l := 5) rfl) (hA1.r rfl) A2 (by rw [upd_ne (by (clear c h2 hB hB2 hML hP2 hc hk hs n0 n1 this; lia))]; exact hc) f'.c
      (fun hb g0 g1 => st_90t (n := P + 7) (z := 3) (F.n (t := 7) rfl) g0 hb g1 (by decide) (.inl ⟨by decide, by (clear c g0 g1 h1 h2 hB hB2 hML hP2 hb hc hk hs n0 n1 this; lia)⟩) (by (clear c g0 g1 h1 h2 hB hB2 hML hb hc hk hs n0 n1 this; lia))) (fun hb g0 => st_90n (n := P + 7) (F.n (t := 7) rfl) g0 hb)
    refine ⟨2 + 15 + n, _, _, _, _, _, by (clear c h1 h2 hB hB2 hML hP2 hc hk hs n0 n1 this; lia), ((Run.cons S1 (F.e (t := 0) rfl) (.one S2 (F.e (t := 2) rfl))).app R).app R3, ?_, (K2.trans K3)⟩
    have e1 : (if f'.c = true then upd (upd H one ((H one + H two) % 4294967296)) 4 (upd H one ((H one + H two) % 4294967296) 4 + 1) else upd H one ((H one + H two) % 4294967296)) = opR 0 one two more H := by
      show _ = upd (if 4294967296 ≤ H one + H two then upd H 4 (H 4 + 1) else H) one ((H one + H two) % 4294967296)
      by_cases q : 4294967296 ≤ H one + H two
      · rw [if_pos q, if_pos (toN_1 c (by (clear c h1 h2 hB hB2 hML hP2 hc hk hn hs n0 n1 this; lia))), upd_ne (by (clear c h2 hB hB2 hML hP2 hc hk hn hs n0 n1 q this; lia))]
        funext j
        unfold upd
        by_cases e1 : j = 4
        · rw [if_pos e1, if_neg (by (clear c h2 hB hB2 hML hP2 hc hk hn hs n0 n1 q this; lia)), if_pos e1]
        · rw [if_neg e1, if_neg e1]
      · rw [if_neg q, if_neg (by rw [toN_0 c (by (clear c h1 h2 hB hB2 hML hP2 hc hk hn hs n0 n1 this; lia))]; decide)]
    rw [e1] at A3
    exact A3
  | 1, _ =>
    have cd : ∀ {t z : Nat}, (opC base 1 one two more)[t]? = some z → m (P + t) = z := fun ht => Cd.at (Cd.img hB) hm hA F.lo F.hi ht
    have S1 := st_a2 (sp := s + 3) (a := a) (x := x) (y := y) (f := f) (m := m) (n := P) (F.n (t := 0) rfl) (cd (t := 0) rfl) (cd (t := 1) rfl) (by (clear h2 hB hB2 hML hP2 hc hk hs n0 n1 this; lia))
    have S2 := st_a0 (sp := s + 3) (a := a) (x := 4 * one) (y := y) (f := f.nz (4 * one)) (m := m) (n := P + 2) (F.n (t := 2) rfl) (cd (t := 2) rfl) (cd (t := 3) rfl) (by (clear h1 hB hB2 hML hP2 hc hk hs n0 n1 this; lia))
    have hA1 := (hA.eq (r := [162, 4 * one, 160, 4 * two] ++ ([32, 38, 2] ++ [176, 3, 238, (base + 16) % 256, (base + 16) / 256])) rfl).r (Q := P + 4) rfl
    obtain ⟨a', f', m2, R, A2, K2, c⟩ := call_sub S (s := s + 1) (a := a) (f := (f.nz (4 * one)).nz (4 * two)) (x := 0) (y := 0) h1 h2 (by (clear h1 h2 hB hB2 hML hP2 hc hk n0 n1 this; lia)) (F.sub (t := 4) (l := 3) rfl) hA1.l hH hm
    obtain ⟨n, f2, m3, hn, R3, A3, K3⟩ := op_cnt S (k := 0) (t := 0) (lo := 0) (P := P + 7) (s := s) (a := a') (x := 4 * one) (y := 4 * two) (f := f') (m := m2) hs (F.sub (t := 7) (l := 5) rfl) (hA1.r rfl) A2 (by rw [upd_ne (by (clear c h2 hB hB2 hML hP2 hc hk hs n0 n1 this; lia))]; exact hc) (!f'.c)
      (fun hb g0 g1 => st_b0t (n := P + 7) (z := 3) (F.n (t := 7) rfl) g0 (by simpa using hb) g1 (by decide) (.inl ⟨by decide, by (clear c g0 g1 h1 h2 hB hB2 hML hP2 hb hc hk hs n0 n1 this; lia)⟩) (by (clear c g0 g1 h1 h2 hB hB2 hML hb hc hk hs n0 n1 this; lia))) (fun hb g0 => st_b0n (n := P + 7) (F.n (t := 7) rfl) g0 (by simpa using hb))
    refine ⟨2 + 15 + n, _, _, _, _, _, by (clear c h1 h2 hB hB2 hML hP2 hc hk hs n0 n1 this; lia), ((Run.cons S1 (F.e (t := 0) rfl) (.one S2 (F.e (t := 2) rfl))).app R).app R3, ?_, (K2.trans K3)⟩
    have e1 : (if (!f'.c) = true then upd (upd H one ((H one + (4294967295 - H two) + 1) % 4294967296)) 4 (upd H one ((H one + (4294967295 - H two) + 1) % 4294967296) 4 + 1) else upd H one ((H one + (4294967295 - H two) + 1) % 4294967296)) = opR 1 one two more H := by
      show _ = upd (if H one < H two then upd H 4 (H 4 + 1) else H) one ((H one + (4294967295 - H two) + 1) % 4294967296)
      by_cases q : H one < H two
      · rw [if_pos q, if_pos (by rw [toN_0 c (by (clear c h1 h2 hB hB2 hML hP2 hc hk hn hs n0 this; lia))]; decide), upd_ne (by (clear c h2 hB hB2 hML hP2 hc hk hn hs n0 n1 q this; lia))]
        funext j
        unfold upd
        by_cases e1 : j = 4
        · rw [if_pos e1, if_neg (by (clear c h2 hB hB2 hML hP2 hc hk hn hs n0 n1 q this; lia)), if_pos e1]
        · rw [if_neg e1, if_neg e1]
      · rw [if_neg q, if_neg (by rw [toN_1 c (by (clear c h1 h2 hB hB2 hML hP2 hc hk hn hs n0 n1 this; lia))]; decide)]
    rw [e1] at A3
    exact A3
/-- A constant's octets stored. -/
theorem st_pl {v p : Nat} (hp : p < 4) (h1 : one < 4) (hs : s + 3 < 256) (F : Fit P 5 e) (hA : At m0 P (stC base one v p)) (hm : Ag m (pim base (img base m0 H) (Rv v one) (4 * one) (4 * one + p))) :
    Out e 2 ⟨P, s + 3, a, x, y, f, m⟩ (P + 5) (s + 3) (x) (y) (pim base (img base m0 H) (Rv v one) (4 * one) (4 * one + (p + 1))) (fun f' => True) := by
  have hB := S.B.lo; have hB2 := S.B.hi; have := S.he'
  have hML : ML = 1536 := rfl
  have cd : ∀ {t z : Nat}, (stC base one v p)[t]? = some z → m (P + t) = z := fun ht => Cd.at (Cd.pim hB (Cd.img hB)) hm hA F.lo F.hi ht
  have S1 := st_a9 (sp := s + 3) (a := a) (x := x) (y := y) (f := f) (m := m) (n := P) (F.n (t := 0) rfl) (cd (t := 0) rfl) (cd (t := 1) rfl) (by8_lt v p)
  have S2 := st_8d (sp := s + 3) (a := by8 v p) (x := x) (y := y) (f := f.nz (by8 v p)) (m := m) (n := P + 2) (F.n (t := 2) rfl) (cd (t := 2) rfl) (cd (t := 3) rfl) (cd (t := 4) rfl) (by (clear hB hML hs this; lia)) (k := base + 4 * one + p) (by (clear h1 hB hB2 hML hp hs this; lia)) (by (clear hB hs this; lia))
  refine ⟨_, _, _, .cons S1 (F.e (t := 0) rfl) (.one S2 (F.e (t := 2) rfl)), ?_, (Kp.refl _ _).upd (.inl (by (clear h1 hB2 hML hp hs this; lia))), trivial⟩
  rw [Nat.add_assoc]
  exact hm.pim_up (by (clear h1 hB hB2 hML hp hs this; lia)) Rv_at
theorem run_2 (h1 : one < 4) (hs : s + 3 < 256) (F : Fit P 20 e) (hA : At m0 P (opC base 2 one two more)) : Runs base m0 e P 20 s 28 H (opR 2 one two more H) := fun a x y f m hm => by
  have hA := hA.eq (r := stC base one more 0 ++ (stC base one more 1 ++ (stC base one more 2 ++ stC base one more 3))) rfl
  obtain ⟨a1, f1, m1, R1, A1, K1, -⟩ := st_pl S (P := P) (a := a) (x := x) (y := y) (f := f) (by decide) h1 hs (F.sub (t := 0) (l := 5) rfl) hA.l hm.start
  have hA := hA.r (Q := P + 5) rfl
  obtain ⟨a2, f2, m2, R2, A2, K2, -⟩ := st_pl S (a := a1) (x := x) (y := y) (f := f1) (by decide) h1 hs (F.sub (t := 5) (l := 5) rfl) hA.l A1
  have hA := hA.r (Q := P + 5 + 5) rfl
  obtain ⟨a3, f3, m3, R3, A3, K3, -⟩ := st_pl S (a := a2) (x := x) (y := y) (f := f2) (by decide) h1 hs (F.sub (t := 10) (l := 5) rfl) hA.l A2
  have hA := hA.r (Q := P + 5 + 5 + 5) rfl
  obtain ⟨a4, f4, m4, R4, A4, K4, -⟩ := st_pl S (a := a3) (x := x) (y := y) (f := f3) (by decide) h1 hs (F.sub (t := 15) (l := 5) rfl) hA A3
  exact ⟨_, a4, x, y, f4, m4, by decide, R1.app (R2.app (R3.app R4)), A4.pim_all h1 fun j hj => Rv_at, ((K1.trans K2).trans K3).trans K4⟩
theorem run_34 {k : Nat} (hk : k = 3 ∨ k = 4) (h1 : one < 4) (hs : s + 3 < 256) (F : Fit P 5 e) (hA : At m0 P (opC base k one two more)) (hH : Hok H) : Runs base m0 e P 5 s 28 H (opR k one two more H) := fun a x y f m hm => by
  have hB := S.B.lo; have hB2 := S.B.hi; have := S.he'
  have hML : ML = 1536 := rfl
  rcases hk with rfl | rfl
  · have cd : ∀ {t z : Nat}, (opC base 3 one two more)[t]? = some z → m (P + t) = z := fun ht => Cd.at (Cd.img hB) hm hA F.lo F.hi ht
    have S1 := st_a2 (sp := s + 3) (a := a) (x := x) (y := y) (f := f) (m := m) (n := P) (F.n (t := 0) rfl) (cd (t := 0) rfl) (cd (t := 1) rfl) (by (clear hB hB2 hML hs this; lia))
    have hA1 := (hA.eq (r := [162, 4 * one] ++ [32, 101, 2]) rfl).r (Q := P + 2) rfl
    obtain ⟨a', f', m2, R, A2, K2, c⟩ := call_dbl S (s := s + 1) (a := a) (f := f.nz (4 * one)) (y := y) h1 (by (clear h1 hB hB2 hML this; lia)) (F.sub (t := 2) (l := 3) rfl) hA1 hm
    exact ⟨_, _, _, _, _, _, by decide, Run.cons S1 (F.e (t := 0) rfl) R, A2, K2⟩
  · have cd : ∀ {t z : Nat}, (opC base 4 one two more)[t]? = some z → m (P + t) = z := fun ht => Cd.at (Cd.img hB) hm hA F.lo F.hi ht
    have S1 := st_a2 (sp := s + 3) (a := a) (x := x) (y := y) (f := f) (m := m) (n := P) (F.n (t := 0) rfl) (cd (t := 0) rfl) (cd (t := 1) rfl) (by (clear hB hB2 hML hs this; lia))
    have hA1 := (hA.eq (r := [162, 4 * one] ++ [32, 114, 2]) rfl).r (Q := P + 2) rfl
    obtain ⟨a', f', m2, R, A2, K2, c⟩ := call_half S (s := s + 1) (a := a) (f := f.nz (4 * one)) (y := y) h1 (by (clear h1 hB hB2 hML this; lia)) (F.sub (t := 2) (l := 3) rfl) hA1 hH hm
    exact ⟨_, _, _, _, _, _, by decide, Run.cons S1 (F.e (t := 0) rfl) R, A2, K2⟩
theorem run_5 {k : Nat} (h1 : one < 4) (h2 : two < 4) (hs : s + 3 < 256) (F : Fit P 7 e) (hA : At m0 P (opC base (k + 5) one two more)) : Runs base m0 e P 7 s 28 H (opR (k + 5) one two more H) := fun a x y f m hm => by
  have hB := S.B.lo; have hB2 := S.B.hi; have := S.he'
  have hML : ML = 1536 := rfl
  have cd : ∀ {t z : Nat}, (opC base (k + 5) one two more)[t]? = some z → m (P + t) = z := fun ht => Cd.at (Cd.img hB) hm hA F.lo F.hi ht
  have S1 := st_a2 (sp := s + 3) (a := a) (x := x) (y := y) (f := f) (m := m) (n := P) (F.n (t := 0) rfl) (cd (t := 0) rfl) (cd (t := 1) rfl) (by (clear h2 hB hB2 hML hs this; lia))
  have S2 := st_a0 (sp := s + 3) (a := a) (x := 4 * one) (y := y) (f := f.nz (4 * one)) (m := m) (n := P + 2) (F.n (t := 2) rfl) (cd (t := 2) rfl) (cd (t := 3) rfl) (by (clear h1 hB hB2 hML hs this; lia))
  have hA1 := (hA.eq (r := [162, 4 * one, 160, 4 * two] ++ [32, 127, 2]) rfl).r (Q := P + 4) rfl
  obtain ⟨a', f', m2, R, A2, K2, c⟩ := call_swp S (s := s) (a := a) (f := (f.nz (4 * one)).nz (4 * two)) h1 h2 hs (F.sub (t := 4) (l := 3) rfl) hA1 hm
  exact ⟨_, _, _, _, _, _, by decide, Run.cons S1 (F.e (t := 0) rfl) (.cons S2 (F.e (t := 2) rfl) R), A2, K2⟩
theorem run_op {k : Nat} (h1 : one < 4) (h2 : two < 4) (hs : s + 3 < 256) (F : Fit P (Pl.op k one two more).len e) (hA : At m0 P (opC base k one two more)) (hH : Hok H) (hc : H 4 + 1 < 256) : Runs base m0 e P (Pl.op k one two more).len s 28 H (opR k one two more H) := by
  match k, F, hA with
  | 0, F, hA => exact run_01 S (by decide) h1 h2 hs F hA hH hc
  | 1, F, hA => exact run_01 S (by decide) h1 h2 hs F hA hH hc
  | 2, F, hA => exact run_2 S h1 hs F hA
  | 3, F, hA => exact run_34 S (.inl rfl) h1 hs F hA hH
  | 4, F, hA => exact run_34 S (.inr rfl) h1 hs F hA hH
  | k + 5, F, hA => exact run_5 S h1 h2 hs F hA
end
end VE
namespace VE
theorem opR_ok {k one two more : Nat} {H : Nat → Nat} (h1 : one < 4) (h2 : two < 4) (hm : more < 4294967296) (hH : Hok H) : Hok (opR k one two more H) ∧ opR k one two more H 4 ≤ H 4 + 1 := by
  have n1 := hH _ h1
  have n2 := hH _ h2
  match k with
  | 0 =>
    show Hok (upd (if 4294967296 ≤ H one + H two then upd H 4 (H 4 + 1) else H) one ((H one + H two) % 4294967296)) ∧ (upd (if 4294967296 ≤ H one + H two then upd H 4 (H 4 + 1) else H) one ((H one + H two) % 4294967296)) 4 ≤ H 4 + 1
    split
    · exact ⟨hH.cnt.upd (by (clear h1 h2 hm n1 n2; lia)), by rw [upd_ne (by (clear h2 hm n1 n2; lia)), upd_self]; exact Nat.le_refl _⟩
    · exact ⟨hH.upd (by (clear h1 h2 hm n1 n2; lia)), by rw [upd_ne (by (clear h2 hm n1 n2; lia))]; (clear h1 h2 hm n1 n2; lia)⟩
  | 1 =>
    show Hok (upd (if H one < H two then upd H 4 (H 4 + 1) else H) one ((H one + (4294967295 - H two) + 1) % 4294967296)) ∧ (upd (if H one < H two then upd H 4 (H 4 + 1) else H) one ((H one + (4294967295 - H two) + 1) % 4294967296)) 4 ≤ H 4 + 1
    split
    · exact ⟨hH.cnt.upd (by (clear h1 h2 hm n1 n2; lia)), by rw [upd_ne (by (clear h2 hm n1 n2; lia)), upd_self]; exact Nat.le_refl _⟩
    · exact ⟨hH.upd (by (clear h1 h2 hm n1 n2; lia)), by rw [upd_ne (by (clear h2 hm n1 n2; lia))]; (clear h1 h2 hm n1 n2; lia)⟩
  | 2 => exact ⟨hH.upd hm, by show upd H one more 4 ≤ _; rw [upd_ne (by (clear h2 hm n1 n2; lia))]; (clear h1 h2 hm n1 n2; lia)⟩
  | 3 => exact ⟨hH.upd (by (clear h1 h2 hm n1 n2; lia)), by show upd H one ((H one + H one) % 4294967296) 4 ≤ _; rw [upd_ne (by (clear h2 hm n1 n2; lia))]; (clear h1 h2 hm n1 n2; lia)⟩
  | 4 => exact ⟨hH.upd (by (clear h1 h2 hm n2; lia)), by show upd H one (H one / 2) 4 ≤ _; rw [upd_ne (by (clear h2 hm n1 n2; lia))]; (clear h1 h2 hm n1 n2; lia)⟩
  | k + 5 => exact ⟨(hH.upd n2).upd n1, by show upd (upd H one (H two)) two (H one) 4 ≤ _; rw [upd_ne (by (clear h1 hm n1 n2; lia)), upd_ne (by (clear h2 hm n1 n2; lia))]; (clear h1 h2 hm n1 n2; lia)⟩
theorem run_ok : ∀ (p : Pl), p.ok → ∀ H, Hok H → Hok (p.run H) ∧ p.run H 4 ≤ H 4 + p.ct
  | .nop, _, H, h => ⟨h, Nat.le_refl _⟩
  | .op k one two more, ⟨h1, h2, hm⟩, H, h => opR_ok h1 h2 hm h
  | .unl one two b, ⟨h1, h2, hb⟩, H, h => by
    show Hok (if H two ≤ H one then b.run H else H) ∧ (if H two ≤ H one then b.run H else H) 4 ≤ H 4 + b.ct
    split
    · exact run_ok b hb H h
    · exact ⟨h, Nat.le_add_right _ _⟩
  | .rep k b, ⟨h1, h2, hb⟩, H, h => by
    have key : ∀ k H, Hok H → Hok (iter b.run k H) ∧ iter b.run k H 4 ≤ H 4 + k * b.ct := by
      intro k
      induction k with
      | zero => intro H h; exact ⟨h, Nat.le_add_right _ _⟩
      | succ k ih =>
        intro H h
        obtain ⟨g1, g2⟩ := run_ok b hb H h
        obtain ⟨g3, g4⟩ := ih _ g1
        refine ⟨g3, Nat.le_trans g4 ?_⟩
        rw [Nat.succ_mul]; (clear g4 h1 h2; lia)
    exact key k H h
section
variable {base : Nat} {m0 : Nat → Nat} {e : Nat}
/-- The loop's turns, from the body on. -/
theorem rep_run (S : Subs base m0 e) {b : Pl} {P s : Nat} (hok : b.ok) (hs : s + 4 < 256) (hP : 512 ≤ P) (he : P + b.len + 10 ≤ e) (hA2 : At m0 (P + b.len) [104, 56, 233, 1, 240, 4, 72, 76, P % 256, P / 256])
    (body : ∀ H, Hok H → H 4 + b.ct < 256 → Runs base m0 e P b.len s b.cost H (b.run H)) : ∀ (k : Nat), k < 200 → ∀ H, Hok H → H 4 + (k + 1) * b.ct < 256 → ∀ a x y f m, Ag m (img base m0 H) → m (s + 4 + 256) = k + 1 →
      ∃ n a' x' y' f' m', n + 2 ≤ (k + 1) * (b.cost + 6) ∧ Run e n ⟨P, s + 3, a, x, y, f, m⟩ ⟨P + b.len + 10, s + 4, a', x', y', f', m'⟩ ∧ Ag m' (img base m0 (iter b.run (k + 1) H)) ∧ Kp (s + 4) m m' := by
  have hB := S.B.lo; have hB2 := S.B.hi; have he' := S.he'
  have hML : ML = 1536 := rfl
  have E : ∀ {t : Nat}, t < 10 → P + b.len + t < e := fun h => by (clear hB hB2 hML hP he' hs; lia)
  have N : ∀ {t : Nat}, t ≤ 10 → P + b.len + t + 4 < ML := fun h => by (clear hB hB2 hP hs; lia)
  have l0 : 512 ≤ P + b.len := by (clear hB hB2 hML he he' hs; lia)
  have l1 : P + b.len + 10 ≤ 1265 := by (clear hB hB2 hML hP hs l0; lia)
  intro k
  induction k with
  | zero =>
    intro _ H hH hc a x y f m hm hk
    obtain ⟨n, a1, x1, y1, f1, m1, hn, R1, A1, K1⟩ := body H hH (by (clear hB hB2 hML hP he he' hk hs l0 l1; lia)) a x y f m hm
    have cd : ∀ {t z : Nat}, [104, 56, 233, 1, 240, 4, 72, 76, P % 256, P / 256][t]? = some z → m1 (P + b.len + t) = z := fun ht => Cd.at (Cd.img hB) A1 hA2 l0 l1 ht
    have hk1 : m1 (s + 3 + 1 + 256) = 1 := by rw [K1 _ (by (clear hB hB2 hML hP hc he he' hk hn hs l0 l1; lia)) (by (clear hB hB2 hML hP hc he he' hk hn l0 l1; lia))]; exact hk
    have S1 := st_68 (sp := s + 3) (a := a1) (x := x1) (y := y1) (f := f1) (m := m1) (n := P + b.len) (N (t := 0) (by decide)) (cd (t := 0) rfl) (by (clear hB hB2 hML hP hc he he' hk hk1 hn l0 l1; lia)) hk1 (by decide)
    have S2 := st_38 (sp := s + 4) (a := 1) (x := x1) (y := y1) (f := f1.nz 1) (m := m1) (n := P + b.len + 1) (N (t := 1) (by decide)) (cd (t := 1) rfl)
    have S3 := st_e9 (sp := s + 4) (a := 1) (x := x1) (y := y1) (f := ⟨(f1.nz 1).n, (f1.nz 1).v, (f1.nz 1).z, true⟩) (m := m1) (n := P + b.len + 2) (N (t := 2) (by decide)) (cd (t := 2) rfl) (cd (t := 3) rfl) (by decide)
    have ea : (1 + (255 - 1) + true.toNat) % 256 = 0 := rfl
    rw [ea] at S3
    have S4 := st_f0t (sp := s + 4) (a := 0) (x := x1) (y := y1) (f := Fg.ad ⟨(f1.nz 1).n, (f1.nz 1).v, (f1.nz 1).z, true⟩ (ovS 1 1 true.toNat) (1 + (255 - 1) + true.toNat)) (m := m1) (n := P + b.len + 4) (z := 4) (t := P + b.len + 10) (N (t := 4) (by decide)) (cd (t := 4) rfl) (by show Nat.beq ((1 + (255 - 1) + true.toNat) % 256) 0 = true; rw [ea]; rfl) (cd (t := 5) rfl) (by decide) (.inl ⟨by decide, by (clear ea hB hB2 hML hP hc he he' hk hk1 hn hs l0 l1; lia)⟩) (by (clear ea hB hB2 hML hP hc hk hk1 hn hs l0 l1; lia))
    refine ⟨n + 4, _, _, _, _, _, by (clear ea hB hB2 hML hP hc he he' hk hk1 hs l0 l1; lia), R1.app (.cons S1 (E (t := 0) (by decide)) (.cons S2 (E (t := 1) (by decide)) (.cons S3 (E (t := 2) (by decide)) (.one S4 (E (t := 4) (by decide)))))), A1, fun j h1 h2 => K1 j (by (clear ea h2 hB hB2 hML hP hc he he' hk hk1 hn hs l0 l1; lia)) h2⟩
  | succ k ih =>
    intro hk2 H hH hc a x y f m hm hk
    have hc' : H 4 + ((k + 1) * b.ct + b.ct) < 256 := by rw [← Nat.succ_mul]; exact hc
    obtain ⟨n, a1, x1, y1, f1, m1, hn, R1, A1, K1⟩ := body H hH (by (clear hB hB2 hML hP hc he he' hk hk2 hs l0 l1; lia)) a x y f m hm
    obtain ⟨g1, g2⟩ := run_ok b hok H hH
    have cd : ∀ {t z : Nat}, [104, 56, 233, 1, 240, 4, 72, 76, P % 256, P / 256][t]? = some z → m1 (P + b.len + t) = z := fun ht => Cd.at (Cd.img hB) A1 hA2 l0 l1 ht
    have hk1 : m1 (s + 3 + 1 + 256) = k + 2 := by rw [K1 _ (by (clear g2 hB hB2 hML hP hc hc' he he' hk hk2 hn hs l0 l1; lia)) (by (clear g2 hB hB2 hML hP hc hc' he he' hk hk2 hn l0 l1; lia))]; exact hk
    have S1 := st_68 (sp := s + 3) (a := a1) (x := x1) (y := y1) (f := f1) (m := m1) (n := P + b.len) (N (t := 0) (by decide)) (cd (t := 0) rfl) (by (clear g2 hB hB2 hML hP hc hc' he he' hk hk1 hk2 hn l0 l1; lia)) hk1 (by (clear g2 hB hB2 hML hP hc hc' he he' hk hk1 hn hs l0 l1; lia))
    have S2 := st_38 (sp := s + 4) (a := k + 2) (x := x1) (y := y1) (f := f1.nz (k + 2)) (m := m1) (n := P + b.len + 1) (N (t := 1) (by decide)) (cd (t := 1) rfl)
    have S3 := st_e9 (sp := s + 4) (a := k + 2) (x := x1) (y := y1) (f := ⟨(f1.nz (k + 2)).n, (f1.nz (k + 2)).v, (f1.nz (k + 2)).z, true⟩) (m := m1) (n := P + b.len + 2) (N (t := 2) (by decide)) (cd (t := 2) rfl) (cd (t := 3) rfl) (by decide)
    have ea : (k + 2 + (255 - 1) + true.toNat) % 256 = k + 1 := by show (k + 2 + 254 + 1) % 256 = k + 1; (clear g2 hB hB2 hML hP hc hc' he he' hk hk1 hn hs l0 l1; lia)
    rw [ea] at S3
    have S4 := st_f0n (sp := s + 4) (a := k + 1) (x := x1) (y := y1) (f := Fg.ad ⟨(f1.nz (k + 2)).n, (f1.nz (k + 2)).v, (f1.nz (k + 2)).z, true⟩ (ovS (k + 2) 1 true.toNat) (k + 2 + (255 - 1) + true.toNat)) (m := m1) (n := P + b.len + 4) (N (t := 4) (by decide)) (cd (t := 4) rfl) (by show Nat.beq ((k + 2 + (255 - 1) + true.toNat) % 256) 0 = false; rw [ea]; rfl)
    have S5 := st_48 (sp := s + 3) (a := k + 1) (x := x1) (y := y1) (f := Fg.ad ⟨(f1.nz (k + 2)).n, (f1.nz (k + 2)).v, (f1.nz (k + 2)).z, true⟩ (ovS (k + 2) 1 true.toNat) (k + 2 + (255 - 1) + true.toNat)) (m := m1) (n := P + b.len + 6) (N (t := 6) (by decide)) (cd (t := 6) rfl) (by (clear ea g2 hB hB2 hML hP hc hc' he he' hk hk1 hk2 hn l0 l1; lia)) (by (clear ea g2 hB hB2 hML hP hc hc' he he' hk hk1 hn hs l0 l1; lia))
    have hm2 : Ag (upd m1 (s + 3 + 1 + 256) (k + 1)) (img base m0 (b.run H)) := fun j hj => by rw [upd_ne (by (clear ea g2 hB hB2 hML hP hc hc' he he' hk hk1 hk2 hn l0 l1; lia))]; exact A1 j hj
    have cd2 : ∀ {t z : Nat}, [104, 56, 233, 1, 240, 4, 72, 76, P % 256, P / 256][t]? = some z → upd m1 (s + 3 + 1 + 256) (k + 1) (P + b.len + t) = z := fun ht => Cd.at (Cd.img hB) hm2 hA2 l0 l1 ht
    have S6 := st_4c (sp := s + 3) (a := k + 1) (x := x1) (y := y1) (f := Fg.ad ⟨(f1.nz (k + 2)).n, (f1.nz (k + 2)).v, (f1.nz (k + 2)).z, true⟩ (ovS (k + 2) 1 true.toNat) (k + 2 + (255 - 1) + true.toNat)) (m := upd m1 (s + 3 + 1 + 256) (k + 1)) (n := P + b.len + 7) (N (t := 7) (by decide)) (cd2 (t := 7) rfl) (cd2 (t := 8) rfl) (cd2 (t := 9) rfl) (by (clear ea g2 hB hB2 hML hP hc hc' he he' hk hk1 hk2 hn hs l0 l1; lia)) (by (clear ea g2 hB hB2 hML hP hc hc' hk hk1 hk2 hn hs l0 l1; lia))
    rw [show P % 256 + P / 256 * 256 = P by (clear ea g2 hB hB2 hML hP hc hc' he he' hk hk1 hk2 hn hs l0 l1; lia)] at S6
    obtain ⟨n2, a2, x2, y2, f2, m2, hn2, R2, A2, K2⟩ := ih (by (clear ea g2 hB hB2 hML hP hc hc' he he' hk hk1 hn hs l0 l1; lia)) (b.run H) g1 (by (clear ea hB hB2 hML hP hc he he' hk hk1 hk2 hn hs l0 l1; lia)) (k + 1) x1 y1 _ _ hm2 (by rw [show s + 4 + 256 = s + 3 + 1 + 256 by (clear ea g2 hB hB2 hML hP hc hc' he he' hk hk1 hk2 hn hs l0 l1; lia), upd_self])
    refine ⟨n + (6 + n2), a2, x2, y2, f2, m2, ?_, R1.app ((Run.cons S1 (E (t := 0) (by decide)) (.cons S2 (E (t := 1) (by decide)) (.cons S3 (E (t := 2) (by decide)) (.cons S4 (E (t := 4) (by decide)) (.cons S5 (E (t := 6) (by decide)) (.one S6 (E (t := 7) (by decide)))))))).app R2), A2, fun j h1 h2 => ?_⟩
    · rw [Nat.succ_mul]; (clear ea g2 hB hB2 hML hP hc hc' he he' hk hk1 hk2 hs l0 l1; lia)
    · rw [K2 j (by (clear ea g2 h2 hB hB2 hML hP hc hc' he he' hk hk1 hk2 hn hn2 hs l0 l1; lia)) h2, upd_ne (by (clear ea g2 h2 hB hB2 hML hP hc hc' he he' hk hk1 hk2 hn hn2 hs l0 l1; lia))]
      exact K1 j (by (clear ea g2 h2 hB hB2 hML hP hc hc' he he' hk hk1 hk2 hn hn2 hs l0 l1; lia)) h2
theorem run_plan (S : Subs base m0 e) : ∀ (p : Pl), p.ok → ∀ P s H, p.rd ≤ s → s + 3 < 256 → 512 ≤ P → P + p.len ≤ e → At m0 P (p.cmp base (P - 512)) → Hok H → H 4 + p.ct < 256 → Runs base m0 e P p.len s p.cost H (p.run H)
  | .nop, _, P, s, H, _, _, _, _, _, _, _ => fun a x y f m hm => ⟨0, a, x, y, f, m, Nat.le_refl _, .nil _, hm, Kp.refl _ _⟩
  | .op k one two more, ⟨h1, h2, _⟩, P, s, H, _, hs, hP, he, hA, hH, hc => run_op S h1 h2 hs ⟨hP, Nat.le_trans he S.he', he⟩ hA hH hc
  | .unl one two b, ⟨h1, h2, hb⟩, P, s, H, hr, hs, hP, he, hA, hH, hc => fun a x y f m hm => by
    have hB := S.B.lo; have hB2 := S.B.hi; have he' := S.he'
    have hML : ML = 1536 := rfl
    have he : P + (12 + b.len) ≤ e := he
    have n0 := hH _ h1
    have n1 := hH _ h2
    have F : Fit P 12 e := ⟨hP, by (clear h1 h2 hB hB2 hML hP hc hr hs n0 n1; lia), by (clear h1 h2 hB hB2 hML hP hc he' hr hs n0 n1; lia)⟩
    have hA0 : At m0 P ([162, 4 * one, 160, 4 * two, 32, 76, 2, 176, 3, 76, (512 + (P - 512 + 12 + b.len)) % 256, (512 + (P - 512 + 12 + b.len)) / 256] ++ b.cmp base (P - 512 + 12)) := hA
    have cd : ∀ {m : Nat → Nat}, Ag m (img base m0 H) → ∀ {t z : Nat}, [162, 4 * one, 160, 4 * two, 32, 76, 2, 176, 3, 76, (512 + (P - 512 + 12 + b.len)) % 256, (512 + (P - 512 + 12 + b.len)) / 256][t]? = some z → m (P + t) = z := fun {m} hm {t z} ht => Cd.at (Cd.img hB) hm hA0.l F.lo F.hi ht
    have S1 := st_a2 (sp := s + 3) (a := a) (x := x) (y := y) (f := f) (m := m) (n := P) (F.n (t := 0) rfl) (cd hm (t := 0) rfl) (cd hm (t := 1) rfl) (by (clear h2 hB hB2 hML hP hc he he' hr hs n0 n1; lia))
    have S2 := st_a0 (sp := s + 3) (a := a) (x := 4 * one) (y := y) (f := f.nz (4 * one)) (m := m) (n := P + 2) (F.n (t := 2) rfl) (cd hm (t := 2) rfl) (cd hm (t := 3) rfl) (by (clear h1 hB hB2 hML hP hc he he' hr hs n0 n1; lia))
    have hA1 := (hA0.l.eq (r := [162, 4 * one, 160, 4 * two] ++ ([32, 76, 2] ++ [176, 3, 76, (512 + (P - 512 + 12 + b.len)) % 256, (512 + (P - 512 + 12 + b.len)) / 256])) rfl).r (Q := P + 4) rfl
    obtain ⟨a1, f1, m1, R1, A1, K1, c⟩ := call_cmp S (s := s + 1) (a := a) (f := (f.nz (4 * one)).nz (4 * two)) (x := 0) (y := 0) h1 h2 (by (clear h1 h2 hB hB2 hML hP hc he he' hr n0 n1; lia)) (F.sub (t := 4) (l := 3) rfl) hA1.l hH hm
    have R0 := (Run.cons S1 (F.e (t := 0) rfl) (.one S2 (F.e (t := 2) rfl))).app R1
    by_cases q : H two ≤ H one
    · have S3 := st_b0t (sp := s + 3) (a := a1) (x := 4 * one) (y := 4 * two) (f := f1) (m := m1) (n := P + 7) (z := 3) (t := P + 12) (F.n (t := 7) rfl) (cd A1 (t := 7) rfl) (toN_1 c (by (clear c h1 h2 hB hB2 hML hP hc he he' hr hs n0 n1; lia))) (cd A1 (t := 8) rfl) (by decide) (.inl ⟨by decide, by (clear c h1 h2 hB hB2 hML hP hc he he' hr hs n0 n1 q; lia)⟩) (by (clear c h1 h2 hB hB2 hML hP hc he hr hs n0 n1 q; lia))
      obtain ⟨n, a2, x2, y2, f2, m2, hn, R2, A2, K2⟩ := run_plan S b hb (P + 12) s H hr hs (by (clear c h1 h2 hB hB2 hML hc he he' hr hs n0 n1 q; lia)) (by (clear c h1 h2 hB hB2 hML hP hc he' hr hs n0 n1 q; lia)) (by rw [show P + 12 - 512 = P - 512 + 12 by (clear c h1 h2 hB hB2 hML hc he he' hr hs n0 n1 q; lia)]; exact hA0.r rfl) hH hc a1 (4 * one) (4 * two) f1 m1 A1
      refine ⟨(2 + 10) + (1 + n), a2, x2, y2, f2, m2, ?_, ?_, ?_, K1.trans K2⟩
      · show _ ≤ 14 + b.cost; (clear c h1 h2 hB hB2 hML hP hc he he' hr hs n0 n1 q; lia)
      · have := R0.app ((Run.one S3 (F.e (t := 7) rfl)).app R2)
        rw [show P + 12 + b.len = P + (12 + b.len) by (clear c h1 h2 hB hB2 hML hP hc he he' hn hr hs n0 n1 q; lia)] at this
        exact this
      · show Ag m2 (img base m0 (if H two ≤ H one then b.run H else H))
        rw [if_pos q]; exact A2
    · have S3 := st_b0n (sp := s + 3) (a := a1) (x := 4 * one) (y := 4 * two) (f := f1) (m := m1) (n := P + 7) (F.n (t := 7) rfl) (cd A1 (t := 7) rfl) (toN_0 c (by (clear c h1 h2 hB hB2 hML hP hc he he' hr hs n0; lia)))
      have S4 := st_4c (sp := s + 3) (a := a1) (x := 4 * one) (y := 4 * two) (f := f1) (m := m1) (n := P + 9) (F.n (t := 9) rfl) (cd A1 (t := 9) rfl) (cd A1 (t := 10) rfl) (cd A1 (t := 11) rfl) (by (clear c h1 h2 hB hB2 hML hP hc he he' hr hs n0 n1 q; lia)) (by (clear c h1 h2 hB hB2 hML hP hc hr hs n0 n1 q; lia))
      rw [show (512 + (P - 512 + 12 + b.len)) % 256 + (512 + (P - 512 + 12 + b.len)) / 256 * 256 = P + (12 + b.len) by (clear c h1 h2 hB hB2 hML hc he he' hr hs n0 n1 q; lia)] at S4
      refine ⟨(2 + 10) + 2, _, _, _, _, _, ?_, R0.app (.cons S3 (F.e (t := 7) rfl) (.one S4 (F.e (t := 9) rfl))), ?_, K1⟩
      · show _ ≤ 14 + b.cost; (clear c h1 h2 hB hB2 hML hP hc he he' hr hs n0 n1 q; lia)
      · show Ag m1 (img base m0 (if H two ≤ H one then b.run H else H))
        rw [if_neg q]; exact A1
  | .rep k b, ⟨k1, k3, hb⟩, P, s, H, hr, hs, hP, he, hA, hH, hc => fun a x y f m hm => by
    have hB := S.B.lo; have hB2 := S.B.hi; have he' := S.he'
    have hML : ML = 1536 := rfl
    have he : P + (13 + b.len) ≤ e := he
    have hr : b.rd + 1 ≤ s := hr
    obtain ⟨s, rfl⟩ : ∃ q, s = q + 1 := ⟨s - 1, by (clear hB hB2 hML hP hc he he' hs k1 k3; lia)⟩
    obtain ⟨k, rfl⟩ : ∃ q, k = q + 1 := ⟨k - 1, by (clear hB hB2 hML hP hc he he' hr hs k3; lia)⟩
    have F : Fit P 3 e := ⟨hP, by (clear hB hB2 hML hP hc he hr hs k1 k3; lia), by (clear hB hB2 hML hP hc he he' hr hs k1 k3; lia)⟩
    have hA0 : At m0 P ([169, k + 1, 72] ++ (b.cmp base (P - 512 + 3) ++ [104, 56, 233, 1, 240, 4, 72, 76, (512 + (P - 512 + 3)) % 256, (512 + (P - 512 + 3)) / 256])) := hA
    rw [show 512 + (P - 512 + 3) = P + 3 by (clear hB hB2 hML hc he he' hr hs k1 k3; lia)] at hA0
    have cd : ∀ {t z : Nat}, [169, k + 1, 72][t]? = some z → m (P + t) = z := fun ht => Cd.at (Cd.img hB) hm hA0.l F.lo F.hi ht
    have S1 := st_a9 (sp := s + 1 + 3) (a := a) (x := x) (y := y) (f := f) (m := m) (n := P) (F.n (t := 0) rfl) (cd (t := 0) rfl) (cd (t := 1) rfl) (by (clear hB hB2 hML hP hc he he' hr hs k1; lia))
    have S2 := st_48 (sp := s + 3) (a := k + 1) (x := x) (y := y) (f := f.nz (k + 1)) (m := m) (n := P + 2) (F.n (t := 2) rfl) (cd (t := 2) rfl) (by (clear hB hB2 hML hP hc he he' hr k1 k3; lia)) (by (clear hB hB2 hML hP hc he he' hr hs k1; lia))
    have hA1 := hA0.r (Q := P + 3) rfl
    have hm1 : Ag (upd m (s + 3 + 1 + 256) (k + 1)) (img base m0 H) := fun j hj => by rw [upd_ne (by (clear hB hB2 hML hP hc he he' hr k1 k3; lia))]; exact hm j hj
    obtain ⟨n, a2, x2, y2, f2, m2, hn, R2, A2, K2⟩ := rep_run S (b := b) (P := P + 3) (s := s) hb (by (clear hB hB2 hML hP hc he he' hr k1 k3; lia)) (by (clear hB hB2 hML hc he he' hr hs k1 k3; lia)) (by (clear hB hB2 hML hP hc he he' hr hs k1 k3; lia)) (hA1.r (by rw [cmp_len]))
      (fun H' hH' hc' => run_plan S b hb (P + 3) s H' (by (clear hB hB2 hML hP hc hc' he he' hr hs k1 k3; lia)) (by (clear hB hB2 hML hP hc hc' he he' hr k1 k3; lia)) (by (clear hB hB2 hML hc hc' he he' hr hs k1 k3; lia)) (by (clear hB hB2 hML hP hc hc' he he' hr hs k1 k3; lia)) (by rw [show P + 3 - 512 = P - 512 + 3 by (clear hB hB2 hML hc hc' he he' hr hs k1 k3; lia)]; exact hA1.l) hH' hc') k (by (clear hB hB2 hML hP hc he he' hr hs k1; lia)) H hH hc (k + 1) x y (f.nz (k + 1)) _ hm1 upd_self
    refine ⟨2 + n, a2, x2, y2, f2, m2, ?_, ?_, A2, fun j h1 h2 => ?_⟩
    · show _ ≤ (k + 1) * (b.cost + 6); (clear hB hB2 hML hP hc he he' hr hs k1 k3; lia)
    · have := (Run.cons S1 (F.e (t := 0) rfl) (.one S2 (F.e (t := 2) rfl))).app R2
      rw [show P + 3 + b.len + 10 = P + (13 + b.len) by (clear hB hB2 hML hP hc he he' hn hr hs k1 k3; lia)] at this
      exact this
    · rw [K2 j (by (clear h2 hB hB2 hML hP hc he he' hn hr hs k1 k3; lia)) h2, upd_ne (by (clear h2 hB hB2 hML hP hc he he' hn hr hs k1 k3; lia))]
end
end VE
namespace VE
/-! General. -/
noncomputable abbrev il (l : List Int) : List PV := l.map .int
noncomputable def nl (l : List Nat) : List Int := List.map (fun (n : Nat) => (n : Int)) l
noncomputable abbrev I (i : Int) : VV := .p (.int i)
/-- What a loop does behind its body. -/
noncomputable def flW (keep : VS → Prop) (Q : Fl → VS → Prop) (R : VS → Prop) (f : Fl) (τ : VS) : Prop := match f with
  | .next => keep τ ∧ R τ
  | .cont => keep τ ∧ R τ
  | .brk => Q .next τ
  | .ret u => Q (.ret u) τ
section
variable {tgt : PV → VS → (VS → Prop) → Prop} {body : VS → (Fl → VS → Prop) → Prop} {keep : VS → Prop} {Q : Fl → VS → Prop}
theorem forW_from (l : List PV) (Inv : Nat → VS → Prop) (step : ∀ i v τ (R : VS → Prop), l[i]? = some v → Inv i τ → (∀ τ2, Inv (i + 1) τ2 → R τ2) → tgt v τ fun τ1 => body τ1 (flW keep Q R))
    (fin : ∀ τ, Inv l.length τ → Q .next τ) : ∀ (r : List PV) (k : Nat) τ, l.drop k = r → k ≤ l.length → Inv k τ → forW tgt body keep Q r τ := by
  intro r
  induction r with
  | nil =>
    intro k τ e hk I
    have : k = l.length := by
      have := congrArg List.length e
      rw [List.length_drop] at this
      simp at this; (clear e; lia)
    subst this
    exact fin τ I
  | cons v r ih =>
    intro k τ e hk I
    have hk' : k < l.length := by
      have := congrArg List.length e
      rw [List.length_drop] at this
      simp at this; (clear e hk; lia)
    have e2 := List.drop_eq_getElem_cons hk'
    rw [e] at e2
    injection e2 with e3 e4
    exact step k v τ (forW tgt body keep Q r) (by rw [List.getElem?_eq_getElem hk', e3]) I fun τ2 I2 => ih (k + 1) τ2 e4.symm hk' I2
theorem forW_ind {l : List PV} {τ : VS} (Inv : Nat → VS → Prop) (h : Inv 0 τ) (step : ∀ i v τ (R : VS → Prop), l[i]? = some v → Inv i τ → (∀ τ2, Inv (i + 1) τ2 → R τ2) → tgt v τ fun τ1 => body τ1 (flW keep Q R))
    (fin : ∀ τ, Inv l.length τ → Q .next τ) : forW tgt body keep Q l τ := forW_from l Inv step fin l 0 τ rfl (Nat.zero_le _) h
end
/-- A comprehension whose item is a plain function. -/
theorem compW_ind {tgt : PV → VS → (VS → Prop) → Prop} {elt : VS → (VV → VS → Prop) → Prop} {hp : List VO} {base : List (Nat × VV)} {Q : List PV → Prop} (f : PV → PV) : ∀ (l acc : List PV),
    (∀ v, v ∈ l → ∀ R : PV → Prop, R (f v) → tgt v ⟨base, hp⟩ fun τ1 => elt τ1 fun u τ2 => τ2.hp = hp ∧ match u with | .p z => R z | _ => False) → Q (acc ++ l.map f) → compW tgt elt hp base Q l acc := by
  intro l
  induction l with
  | nil => intro acc h q; rw [List.map_nil, List.append_nil] at q; exact q
  | cons v r ih =>
    intro acc h q
    refine h v (List.mem_cons_self ..) (fun z => compW tgt elt hp base Q r (acc ++ [z])) (ih (acc ++ [f v]) (fun w hw => h w (List.mem_cons_of_mem _ hw)) ?_)
    rw [List.append_assoc]; exact q
theorem range_at {n i : Nat} {v : PV} (h : (rangeL 0 (n : Int))[i]? = some v) : i < n ∧ v = .int (i : Int) := by
  unfold rangeL at h
  rw [List.getElem?_map] at h
  have e : ((n : Int) - 0).toNat = n := by (clear h; lia)
  rw [e] at h
  by_cases hi : i < n
  · rw [List.getElem?_range hi] at h
    simp only [Option.map_some, Option.some.injEq] at h
    exact ⟨hi, by rw [← h]; simp⟩
  · rw [List.getElem?_eq_none (by simp; (clear e h; lia))] at h; cases h
theorem range_len (n : Nat) : (rangeL 0 (n : Int)).length = n := by rw [rangeL_len]; lia
theorem rng_ok {n : Nat} (h : n < 2 ^ 32) : rngB 0 (n : Int) := by
  unfold rngB
  have : (2 : Int) ^ 62 = 4611686018427387904 := by decide
  have h2 : (2 : Nat) ^ 32 = 4294967296 := by decide
  (clear h2 this; lia)
theorem il_len (l : List Int) : (il l).length = l.length := List.length_map ..
theorem nl_len (l : List Nat) : (nl l).length = l.length := List.length_map ..
theorem il_at {l : List Int} {k : Nat} {z : Int} (h : l[k]? = some z) : pick (il l) (k : Int) = some (.int z) := by
  show (l.map PV.int)[k]? = _
  rw [List.getElem?_map, h]; rfl
theorem nl_at {l : List Nat} {k z : Nat} (h : l[k]? = some z) : (nl l)[k]? = some (z : Int) := by
  unfold nl; rw [List.getElem?_map, h]; rfl
theorem fmodN (a b : Nat) : Int.fmod (a : Int) (b : Int) = ((a % b : Nat) : Int) := (Int.ofNat_fmod a b).symm
theorem fdivN (a b : Nat) : Int.fdiv (a : Int) (b : Int) = ((a / b : Nat) : Int) := (Int.ofNat_fdiv a b).symm
theorem smallN {n : Nat} (h : n < 2 ^ 32) : (n : Int) < 2 ^ 63 := by
  have : (2 : Int) ^ 63 = 9223372036854775808 := by decide
  have h2 : (2 : Nat) ^ 32 = 4294967296 := by decide
  (clear h2 this; lia)
theorem idxN {n : Nat} (h : n < 2 ^ 32) : idxOk (n : Int) := by
  unfold idxOk
  have : (2 : Int) ^ 63 = 9223372036854775808 := by decide
  have h2 : (2 : Nat) ^ 32 = 4294967296 := by decide
  (clear h2 this; lia)
theorem no_pylong {i j : Int} (hj : j.natAbs < 1000000) : Builtin.divisionGoesByPylong i j = false := by
  unfold Builtin.divisionGoesByPylong
  have h : (fun (n : Int) => if n == 0 then 0 else n.natAbs.log2 / 30 + 1) j ≤ 300 := by
    show (if j == 0 then 0 else j.natAbs.log2 / 30 + 1) ≤ 300
    split
    · decide
    · rename_i q
      have q : j ≠ 0 := by simpa using q
      have : j.natAbs.log2 < 20 := (Nat.log2_lt (by (clear hj; lia))).mpr (by (clear q; lia))
      (clear hj q; lia)
  show (decide (_ > 300) && _) = false
  rw [decide_eq_false (Nat.not_lt.mpr h)]; rfl
theorem mul_l {i j : Int} (h : Builtin.Int.intBits i ≤ 64) : IntMulOk i j := IntMulOk.of_left h
/-- A stretch of a list written over. -/
noncomputable def wr (m : List Int) : Nat → List Int → List Int
  | _, [] => m
  | a, z :: r => wr (m.set a z) (a + 1) r
theorem szL {n : Nat} (h : Nat.ble n sizeLine = true) : n ≤ sizeLine := Nat.le_of_ble_eq_true h
theorem take_il (l : List Int) (n : Nat) : (il l).take n = il (l.take n) := List.map_take.symm
/-- Lists of octets. -/
noncomputable abbrev nv (l : List Nat) : List PV := il (nl l)
theorem nv_app (l r : List Nat) : nv (l ++ r) = nv l ++ nv r := by unfold nv il nl; rw [List.map_append, List.map_append]
theorem nv_len (l : List Nat) : (nv l).length = l.length := by unfold nv; rw [il_len, nl_len]
theorem nv_at {l : List Nat} {k z : Nat} (h : l[k]? = some z) : pick (nv l) (k : Int) = some (.int (z : Int)) := il_at (nl_at h)
theorem nv_set {l : List Nat} {k z : Nat} : (nv l).set k (.int (z : Int)) = nv (l.set k z) := by
  unfold nv il nl; rw [List.map_set, List.map_set]
theorem mul_r {i j : Int} (h : Builtin.Int.intBits j ≤ 64) : IntMulOk i j := IntMulOk.of_right h
theorem pre_app {C l : List Nat} {l' : List PV} (h : l' = nv l) : nv C ++ l' = nv (C ++ l) := by rw [nv_app, h]
theorem sizeL : sizeLine = 16777216 := rfl
end VE
namespace VE
/-! Plans as the law holds them. -/
noncomputable def Pl.pv : Pl → PV
  | .nop => .tup [.int 8, .int 0, .int 0, .none]
  | .op k one two more => .tup [.int (k : Int), .int (one : Int), .int (two : Int), .int (more : Int)]
  | .unl one two b => .tup [.int 6, .int (one : Int), .int (two : Int), b.pv]
  | .rep k b => .tup [.int 7, .int (k : Int), .int 0, b.pv]
noncomputable def sKi (s : Int) : Nat := (Int.fmod s 8).toNat
noncomputable def sOn (s : Int) : Nat := (Int.fmod (Int.fdiv s 8) 4).toNat
noncomputable def sTw (s : Int) : Nat := (Int.fmod (Int.fdiv s 32) 4).toNat
noncomputable def sMo (s : Int) : Nat := (Int.fmod (2654435761 * Int.fdiv s 32) 4294967296).toNat
theorem toI {z n : Int} (h : 0 < n) : ((Int.fmod z n).toNat : Int) = Int.fmod z n := Int.toNat_of_nonneg (Int.fmod_nonneg_of_pos _ h)
theorem sKi_e (s : Int) : Int.fmod s 8 = (sKi s : Int) := (toI (by decide)).symm
theorem sOn_e (s : Int) : Int.fmod (Int.fdiv s 8) 4 = (sOn s : Int) := (toI (by decide)).symm
theorem sTw_e (s : Int) : Int.fmod (Int.fdiv s 32) 4 = (sTw s : Int) := (toI (by decide)).symm
theorem p32 : (2 : Int) ^ (32 : Int).toNat = 4294967296 := by decide
theorem sMo_e (s : Int) : Int.fmod (2654435761 * Int.fdiv s 32) (2 ^ (32 : Int).toNat) = (sMo s : Int) := by rw [p32]; exact (toI (by decide)).symm
theorem fm_lt {z n : Int} (h : 0 < n) : (Int.fmod z n).toNat < n.toNat := by
  have := Int.fmod_lt_of_pos z h
  have := Int.fmod_nonneg_of_pos z h
  (clear this; lia)
noncomputable def planOf : List Int → Bool → Pl × List Int
  | [], _ => (.nop, [])
  | s :: r, ins =>
    if sKi s = 6 then (.unl (sOn s) (sTw s) (planOf r ins).1, (planOf r ins).2)
    else if sKi s = 7 then (if ins = true then (.op 1 (sOn s) (sTw s) (sMo s), r) else (.rep (2 + sOn s % 2) (planOf r true).1, (planOf r true).2))
    else (.op (sKi s) (sOn s) (sTw s) (sMo s), r)
theorem eqK {k n : Nat} : ((k : Int) == (n : Int)) = Nat.beq k n := eqN
theorem beqF {k n : Nat} (h : k ≠ n) : Nat.beq k n = false := by
  cases g : Nat.beq k n with
  | false => rfl
  | true => exact absurd (Nat.eq_of_beq_eq_true g) h
theorem beqT {k n : Nat} (h : k = n) : Nat.beq k n = true := by subst h; exact Nat.beq_refl k
theorem pow32 : (0 : Int) ≤ 32 ∧ (32 : Int) ≤ 1000000 ∧ (2 : Int).natAbs < 2 ^ 64 := by decide
theorem plan_c : ∀ (signs : List Int) (ins : Bool) (d : Nat) (hp : List VO) (Q : Rs → List VO → Prop), signs.length < 1000 → Q (.val (.p (.tup [(planOf signs ins).1.pv, .lst (il (planOf signs ins).2)]))) hp →
    callsOf T1L (d + (signs.length + 1)) 1439 [.p (.lst (il signs)), .p (.bool ins)] hp Q
  | [], ins, d, hp, Q, _, h => by
    refine callI rfl ?_
    unfold w__law_plan
    refine And.intro (by decide) ?_
    refine And.intro (szL rfl) ?_
    refine And.intro (szL rfl) ?_
    refine And.intro (szL rfl) ?_
    exact Or.inl (And.intro rfl h)
  | s :: r, ins, d, hp, Q, hl, h => by
    have hl' : r.length + 1 < 1000 := hl
    have hz := sizeL
    show callsOf T1L ((d + (r.length + 1)) + 1) 1439 _ hp Q
    refine callI rfl ?_
    unfold w__law_plan
    refine And.intro (by rw [il_len]; show ((r.length + 1 : Nat) : Int) < 2 ^ 63; exact smallN (by (clear hl hz; lia))) ?_
    refine And.intro (by decide) (Exists.intro _ (Exists.intro _ (And.intro rfl (And.intro rfl ?_))))
    refine And.intro (by decide) ?_
    refine And.intro (And.intro (by decide) (no_pylong (by decide))) ?_
    refine And.intro (by decide) ?_
    refine And.intro (And.intro (by decide) (no_pylong (by decide))) ?_
    refine And.intro (by decide) ?_
    unfold planOf at h
    by_cases h6 : sKi s = 6
    · rw [if_pos h6] at h
      refine brT (by rw [sKi_e, show (6 : Int) = ((6 : Nat) : Int) from rfl, eqK]; exact beqT h6) ?_
      refine Exists.intro _ (And.intro rfl (And.intro (by rw [il_len]; show r.length + 1 ≤ _; (clear h6 hl; lia)) (And.intro (by decide) ?_)))
      refine plan_c r ins d hp _ (by (clear h6 hl hz; lia)) ?_
      refine And.intro (szL rfl) ?_
      refine And.intro (szL rfl) ?_
      rw [sOn_e, sTw_e]
      exact Or.inl (And.intro rfl h)
    rw [if_neg h6] at h
    refine brF (by rw [sKi_e, show (6 : Int) = ((6 : Nat) : Int) from rfl, eqK]; exact beqF h6) ?_
    by_cases h7 : sKi s = 7
    · rw [if_pos h7] at h
      refine brT (by rw [sKi_e, show (7 : Int) = ((7 : Nat) : Int) from rfl, eqK]; exact beqT h7) ?_
      cases ins with
      | false =>
        rw [if_neg (by decide)] at h
        refine Exists.intro _ (And.intro rfl (And.intro (by rw [il_len]; show r.length + 1 ≤ _; (clear h6 h7 hl; lia)) (And.intro (by decide) ?_)))
        refine plan_c r true d hp _ (by (clear h6 h7 hl hz; lia)) ?_
        refine And.intro (by decide) ?_
        refine And.intro (szL rfl) ?_
        refine And.intro (szL rfl) ?_
        have e : 2 + Int.fmod (Int.fmod (Int.fdiv s 8) 4) 2 = ((2 + sOn s % 2 : Nat) : Int) := by
          rw [sOn_e, show (2 : Int) = ((2 : Nat) : Int) from rfl, fmodN]; (clear h6 h7 hl hl' hz; lia)
        rw [e]
        exact Or.inl (And.intro rfl h)
      | true =>
        rw [if_pos rfl] at h
        refine brT (by rw [sKi_e, show (7 : Int) = ((7 : Nat) : Int) from rfl, eqK]; exact beqT h7) ?_
        refine And.intro (And.intro (by decide) (no_pylong (by decide))) ?_
        refine And.intro (mul_l (by decide)) ?_
        refine And.intro pow32 ?_
        refine And.intro (by decide) ?_
        refine And.intro (szL rfl) ?_
        refine Exists.intro _ (And.intro rfl (And.intro (by rw [il_len]; show r.length + 1 ≤ _; (clear h6 h7 hl; lia)) (And.intro (by decide) ?_)))
        refine And.intro (szL rfl) ?_
        rw [sOn_e, sTw_e, sMo_e]
        exact Or.inl (And.intro rfl h)
    rw [if_neg h7] at h
    refine brF (by rw [sKi_e, show (7 : Int) = ((7 : Nat) : Int) from rfl, eqK]; exact beqF h7) ?_
    refine brF rfl ?_
    refine brF (by rw [sKi_e, show (7 : Int) = ((7 : Nat) : Int) from rfl, eqK]; exact beqF h7) ?_
    refine And.intro (And.intro (by decide) (no_pylong (by decide))) ?_
    refine And.intro (mul_l (by decide)) ?_
    refine And.intro pow32 ?_
    refine And.intro (by decide) ?_
    refine And.intro (szL rfl) ?_
    refine Exists.intro _ (And.intro rfl (And.intro (by rw [il_len]; show r.length + 1 ≤ _; (clear h6 h7 hl; lia)) (And.intro (by decide) ?_)))
    refine And.intro (szL rfl) ?_
    rw [sKi_e, sOn_e, sTw_e, sMo_e]
    exact Or.inl (And.intro rfl h)
/-! What plans are drawn. -/
theorem sKi_lt (s : Int) : sKi s < 8 := fm_lt (n := 8) (by decide)
theorem sOn_lt (s : Int) : sOn s < 4 := fm_lt (n := 4) (by decide)
theorem sTw_lt (s : Int) : sTw s < 4 := fm_lt (n := 4) (by decide)
theorem sMo_lt (s : Int) : sMo s < 4294967296 := fm_lt (n := 4294967296) (by decide)
noncomputable def Pl.ht : Pl → Nat
  | .nop => 0
  | .op .. => 0
  | .unl _ _ b => b.ht + 1
  | .rep _ b => b.ht + 1
/-- How much of the signs a plan takes, and what it costs. -/
structure Pb (n : Nat) (ins : Bool) (q : Pl × List Int) : Prop where
  ok : q.1.ok
  le : q.2.length ≤ n
  lt : 0 < n → q.2.length < n
  cost : cond ins (q.1.cost ≤ 14 * (n - q.2.length) + 14) (q.1.cost ≤ 60 * (n - q.2.length))
  ct : cond ins (q.1.ct ≤ n - q.2.length) (q.1.ct ≤ 3 * (n - q.2.length))
  len : q.1.len ≤ 20 * (n - q.2.length)
  ht : q.1.ht ≤ n - q.2.length
  rd : q.1.rd ≤ n - q.2.length
theorem op_len (k one two more : Nat) : (Pl.op k one two more).len ≤ 20 := by
  match k with
  | 0 => exact (by decide : 12 ≤ 20)
  | 1 => exact (by decide : 12 ≤ 20)
  | 2 => exact (by decide : 20 ≤ 20)
  | 3 => exact (by decide : 5 ≤ 20)
  | 4 => exact (by decide : 5 ≤ 20)
  | _ + 5 => exact (by decide : 7 ≤ 20)
theorem Pb.op {k : Nat} {s : Int} {r : List Int} {ins : Bool} : Pb (r.length + 1) ins (.op k (sOn s) (sTw s) (sMo s), r) := by
  have e : r.length + 1 - r.length = 1 := by lia
  have := op_len k (sOn s) (sTw s) (sMo s)
  refine ⟨⟨sOn_lt s, sTw_lt s, sMo_lt s⟩, Nat.le_succ _, fun _ => Nat.lt_succ_self _, ?_, ?_, ?_, ?_, ?_⟩ <;> (try dsimp only) <;> rw [e]
  · cases ins <;> (show 28 ≤ _; decide)
  · cases ins <;> (show 1 ≤ _; decide)
  · (clear e; lia)
  · show 0 ≤ 1; decide
  · show 0 ≤ 1; decide
theorem plan_b : ∀ (signs : List Int) (ins : Bool), Pb signs.length ins (planOf signs ins)
  | [], ins => ⟨trivial, Nat.le_refl _, fun h => absurd h (Nat.lt_irrefl _), by cases ins <;> (show 0 ≤ _; exact Nat.zero_le _), by cases ins <;> (show 0 ≤ _; exact Nat.zero_le _), Nat.zero_le _, Nat.zero_le _, Nat.zero_le _⟩
  | s :: r, ins => by
    unfold planOf
    show Pb (r.length + 1) ins _
    split
    · have B := plan_b r ins
      generalize planOf r ins = q at B
      obtain ⟨b, rest⟩ := q
      obtain ⟨h1, h2, h3, h4, h5, h6, h7, h8⟩ := B
      dsimp only at h1 h2 h3 h4 h5 h6 h7 h8
      have e : r.length + 1 - rest.length = (r.length - rest.length) + 1 := by (clear h6 h7 h8; lia)
      refine ⟨⟨sOn_lt s, sTw_lt s, h1⟩, Nat.le_succ_of_le h2, fun _ => Nat.lt_succ_of_le h2, ?_, ?_, ?_, ?_, ?_⟩ <;> (try dsimp only) <;> rw [e]
      · cases ins
        · have h4 : b.cost ≤ 60 * (r.length - rest.length) := h4
          show 14 + b.cost ≤ _; (clear e h2 h6 h7 h8; lia)
        · have h4 : b.cost ≤ 14 * (r.length - rest.length) + 14 := h4
          show 14 + b.cost ≤ _; (clear e h2 h6 h7 h8; lia)
      · cases ins
        · have h5 : b.ct ≤ 3 * (r.length - rest.length) := h5
          show b.ct ≤ _; (clear e h2 h6 h7 h8; lia)
        · have h5 : b.ct ≤ (r.length - rest.length) := h5
          show b.ct ≤ _; (clear e h2 h6 h7 h8; lia)
      · show 12 + b.len ≤ _; (clear e h2 h7 h8; lia)
      · show b.ht + 1 ≤ _; (clear e h2 h6 h8; lia)
      · show b.rd ≤ _; (clear e h2 h6 h7; lia)
    · split
      · split
        · exact Pb.op
        · rename_i hi
          have hi : ins = false := by cases ins with
            | false => rfl
            | true => exact absurd rfl hi
          subst hi
          have B := plan_b r true
          generalize planOf r true = q at B
          obtain ⟨b, rest⟩ := q
          obtain ⟨h1, h2, h3, h4, h5, h6, h7, h8⟩ := B
          dsimp only at h1 h2 h3 h4 h5 h6 h7 h8
          have h4 : b.cost ≤ 14 * (r.length - rest.length) + 14 := h4
          have h5 : b.ct ≤ (r.length - rest.length) := h5
          have e : r.length + 1 - rest.length = (r.length - rest.length) + 1 := by (clear h4 h5 h6 h7 h8 hi; lia)
          have hk : 2 + sOn s % 2 ≤ 3 := by (clear e h2 h4 h5 h6 h7 h8 hi; lia)
          refine ⟨⟨by (clear e h2 h4 h5 h6 h7 h8 hi hk; lia), hk, h1⟩, Nat.le_succ_of_le h2, fun _ => Nat.lt_succ_of_le h2, ?_, ?_, ?_, ?_, ?_⟩ <;> (try dsimp only) <;> rw [e]
          · show (2 + sOn s % 2) * (b.cost + 6) ≤ 60 * _
            exact Nat.le_trans (Nat.mul_le_mul_right _ hk) (by (clear e h2 h5 h6 h7 h8 hi hk; lia))
          · show (2 + sOn s % 2) * b.ct ≤ 3 * _
            exact Nat.le_trans (Nat.mul_le_mul_right _ hk) (by (clear e h2 h4 h6 h7 h8 hi hk; lia))
          · show 13 + b.len ≤ _; (clear e h2 h4 h5 h7 h8 hi hk; lia)
          · show b.ht + 1 ≤ _; (clear e h2 h4 h5 h6 h8 hi hk; lia)
          · show b.rd + 1 ≤ _; (clear e h2 h4 h5 h6 h7 hi hk; lia)
      · exact Pb.op
end VE
namespace VE
/-- Kinds as drawn. -/
noncomputable def Pl.kk : Pl → Prop
  | .nop => True
  | .op k _ _ _ => k < 6
  | .unl _ _ b => b.kk
  | .rep _ b => b.kk
theorem plan_k : ∀ (signs : List Int) (ins : Bool), (planOf signs ins).1.kk
  | [], _ => trivial
  | s :: r, ins => by
    have h8 := sKi_lt s
    unfold planOf
    split
    · exact plan_k r ins
    · split
      · split
        · exact (by decide : 1 < 6)
        · exact plan_k r true
      · show sKi s < 6; lia
theorem q_eq {P : List VO → Prop} {X Y : List PV} {rest : List VO} (h : P (.list Y :: rest)) (e : X = Y) : P (.list X :: rest) := by rw [e]; exact h
theorem rd5 {H : Nat → Nat} {k : Nat} {P : PV → Prop} (hk : k < 5) (h : P (.int (H k : Int))) : idxOk (k : Int) ∧ ∃ l z, (some (ml 5 H) : Option (List PV)) = some l ∧ pick l (k : Int) = some z ∧ P z :=
  ⟨idxN (by lia), _, _, rfl, ml_at hk, h⟩
theorem st5 {X : List PV} {k : Nat} (hX : X.length = 5) (hk : k < 5) : (0 : Int) ≤ (k : Int) ∧ (k : Int) < (X.length : Int) ∧ (k : Int) < 2 ^ 63 := ⟨by (clear hX hk; lia), by rw [hX]; (clear hX; lia), smallN (by (clear hX; lia))⟩
theorem m32 {z : Int} {n : Nat} (e : z = (n : Int)) : Int.fmod z (2 ^ (32 : Int).toNat) = ((n % 4294967296 : Nat) : Int) := by rw [p32, e]; exact fmodN n 4294967296
theorem n32 : (2 : Int) ^ (32 : Int).toNat ≠ 0 := by decide
section
variable {H : Nat → Nat} {one two more d : Nat} {rest : List VO} {Q : Rs → List VO → Prop}
theorem lrun_op {k : Nat} (hk : k < 6) (h1 : one < 4) (h2 : two < 4) (hH : Hok H) (h : Q (.val (.p .none)) (.list (ml 5 (opR k one two more H)) :: rest)) :
    callsOf T1L (d + 1) 1446 [.p (Pl.op k one two more).pv, .ref 0] (.list (ml 5 H) :: rest) Q := by
  have n1 := hH _ h1
  have n2 := hH _ h2
  refine callI rfl ?_
  unfold w__law_run
  match k, hk, h with
  | 0, _, h =>
    have h : Q (.val (.p .none)) (.list (ml 5 (upd (if 4294967296 ≤ H one + H two then upd H 4 (H 4 + 1) else H) one ((H one + H two) % 4294967296))) :: rest) := h
    refine rd5 (k := one) (by (clear h2 hk n1 n2; lia)) ?_
    refine rd5 (k := two) (by (clear h1 hk n1 n2; lia)) ?_
    refine And.intro pow32 (And.intro n32 ?_)
    have ew : (H one : Int) + (H two : Int) = ((H one + H two : Nat) : Int) := by (clear h1 h2 hk n1 n2; lia)
    by_cases q : 4294967296 ≤ H one + H two
    · rw [if_pos q] at h
      refine brT (by rw [m32 ew, ew, eqN, beqF (by (clear ew h1 h2 hk n1 n2; lia))]; rfl) ?_
      refine rd5 (k := 4) (by decide) ?_
      refine And.intro (st5 (k := 4) ml_len (by decide)) ?_
      refine And.intro pow32 (And.intro n32 ?_)
      refine And.intro (st5 (k := one) (by rw [List.length_set, ml_len]) (by (clear ew h2 hk n1 n2 q; lia))) ?_
      refine Or.inl (And.intro rfl (q_eq (P := Q _) h ?_))
      rw [ml_setE (L := 5) (z := 4) (v := (H 4 : Int) + 1) (n := 4) (k := H 4 + 1) rfl rfl (by decide), ml_setE (L := 5) (n := one) rfl (m32 ew) (by (clear ew h2 hk n1 n2 q; lia))]
    · rw [if_neg q] at h
      refine brF (by rw [m32 ew, ew, eqN, beqT (by (clear ew h1 h2 hk n1 n2; lia))]; rfl) ?_
      refine And.intro pow32 (And.intro n32 ?_)
      refine And.intro (st5 (k := one) ml_len (by (clear ew h2 hk n1 n2 q; lia))) ?_
      refine Or.inl (And.intro rfl (q_eq (P := Q _) h ?_))
      rw [ml_setE (L := 5) (n := one) rfl (m32 ew) (by (clear ew h2 hk n1 n2 q; lia))]
  | 1, _, h =>
    have h : Q (.val (.p .none)) (.list (ml 5 (upd (if H one < H two then upd H 4 (H 4 + 1) else H) one ((H one + (4294967295 - H two) + 1) % 4294967296))) :: rest) := h
    refine rd5 (k := one) (by (clear h2 hk n1 n2; lia)) ?_
    refine rd5 (k := two) (by (clear h1 hk n1 n2; lia)) ?_
    refine And.intro pow32 (And.intro n32 ?_)
    have em : Int.fmod ((H one : Int) - (H two : Int)) (2 ^ (32 : Int).toNat) = (((H one + (4294967295 - H two) + 1) % 4294967296 : Nat) : Int) := by
      rw [p32, Int.fmod_eq_emod_of_nonneg _ (by decide)]; (clear h1 h2 hk n1; lia)
    by_cases q : H one < H two
    · rw [if_pos q] at h
      refine brT ?_ ?_
      · rw [em]
        show (!(_ == _)) = true
        rw [show (((H one : Int) - (H two : Int)) == (((H one + (4294967295 - H two) + 1) % 4294967296 : Nat) : Int)) = false from beq_false_of_ne (by (clear em h1 h2 hk n1 n2; lia))]; rfl
      refine rd5 (k := 4) (by decide) ?_
      refine And.intro (st5 (k := 4) ml_len (by decide)) ?_
      refine And.intro pow32 (And.intro n32 ?_)
      refine And.intro (st5 (k := one) (by rw [List.length_set, ml_len]) (by (clear em h2 hk n1 n2 q; lia))) ?_
      refine Or.inl (And.intro rfl (q_eq (P := Q _) h ?_))
      rw [ml_setE (L := 5) (z := 4) (v := (H 4 : Int) + 1) (n := 4) (k := H 4 + 1) rfl rfl (by decide), ml_setE (L := 5) (n := one) rfl em (by (clear em h2 hk n1 n2 q; lia))]
    · rw [if_neg q] at h
      refine brF ?_ ?_
      · rw [em]
        show (!(_ == _)) = false
        rw [show (((H one : Int) - (H two : Int)) == (((H one + (4294967295 - H two) + 1) % 4294967296 : Nat) : Int)) = true from beq_iff_eq.mpr (by (clear em h1 h2 hk n2; lia))]; rfl
      refine And.intro pow32 (And.intro n32 ?_)
      refine And.intro (st5 (k := one) ml_len (by (clear em h2 hk n1 n2 q; lia))) ?_
      refine Or.inl (And.intro rfl (q_eq (P := Q _) h ?_))
      rw [ml_setE (L := 5) (n := one) rfl em (by (clear em h2 hk n1 n2 q; lia))]
  | 2, _, h =>
    refine And.intro (st5 (k := one) ml_len (by (clear h2 hk n1 n2; lia))) ?_
    refine Or.inl (And.intro rfl (q_eq (P := Q _) h ?_))
    rw [ml_setE (L := 5) (n := one) rfl rfl (by (clear h2 hk n1 n2; lia))]; rfl
  | 3, _, h =>
    refine rd5 (k := one) (by (clear h2 hk n1 n2; lia)) ?_
    refine And.intro (mul_l (by decide)) ?_
    refine And.intro pow32 (And.intro n32 ?_)
    refine And.intro (st5 (k := one) ml_len (by (clear h2 hk n1 n2; lia))) ?_
    refine Or.inl (And.intro rfl (q_eq (P := Q _) h ?_))
    rw [ml_setE (L := 5) (n := one) rfl (m32 (n := H one + H one) (by (clear h1 h2 hk n1 n2; lia))) (by (clear h2 hk n1 n2; lia))]; rfl
  | 4, _, h =>
    refine rd5 (k := one) (by (clear h2 hk n1 n2; lia)) ?_
    refine And.intro (And.intro (by decide) (no_pylong (by decide))) ?_
    refine And.intro (st5 (k := one) ml_len (by (clear h2 hk n1 n2; lia))) ?_
    refine Or.inl (And.intro rfl (q_eq (P := Q _) h ?_))
    rw [ml_setE (L := 5) (n := one) (v := Int.fdiv (H one : Int) 2) (k := H one / 2) rfl (fdivN (H one) 2) (by (clear h2 hk n1 n2; lia))]; rfl
  | 5, _, h =>
    refine rd5 (k := two) (by (clear h1 hk n1 n2; lia)) ?_
    refine rd5 (k := one) (by (clear h2 hk n1 n2; lia)) ?_
    refine And.intro (szL rfl) ?_
    refine And.intro (st5 (k := one) ml_len (by (clear h2 hk n1 n2; lia))) ?_
    refine And.intro (st5 (k := two) (by rw [List.length_set, ml_len]) (by (clear h1 hk n1 n2; lia))) ?_
    refine Or.inl (And.intro rfl (q_eq (P := Q _) h ?_))
    rw [ml_setE (L := 5) (n := one) (k := H two) rfl rfl (by (clear h2 hk n1 n2; lia)), ml_setE (L := 5) (n := two) rfl rfl (by (clear h1 hk n1 n2; lia))]; rfl
end
theorem lrun_c : ∀ (p : Pl), p.ok → p.kk → ∀ H, Hok H → ∀ d rest Q, Q (.val (.p .none)) (.list (ml 5 (p.run H)) :: rest) → callsOf T1L (d + (p.ht + 1)) 1446 [.p p.pv, .ref 0] (.list (ml 5 H) :: rest) Q
  | .nop, _, _, H, hH, d, rest, Q, h => by
    refine callI rfl ?_
    unfold w__law_run
    exact Or.inl (And.intro rfl h)
  | .op k one two more, ⟨h1, h2, hm⟩, hk, H, hH, d, rest, Q, h => lrun_op hk h1 h2 hH h
  | .unl one two b, ⟨h1, h2, hb⟩, hk, H, hH, d, rest, Q, h => by
    have h : Q (.val (.p .none)) (.list (ml 5 (if H two ≤ H one then b.run H else H)) :: rest) := h
    show callsOf T1L ((d + (b.ht + 1)) + 1) 1446 _ _ Q
    refine callI rfl ?_
    unfold w__law_run
    refine rd5 (k := one) (by (clear h2; lia)) ?_
    refine rd5 (k := two) (by (clear h1; lia)) ?_
    by_cases q : H two ≤ H one
    · rw [if_pos q] at h
      refine brT (decide_eq_true (by (clear h1 h2; lia))) ?_
      refine lrun_c b hb hk H hH d rest _ ?_
      exact Or.inl (And.intro rfl h)
    · rw [if_neg q] at h
      refine brF (decide_eq_false (by (clear h1 h2; lia))) ?_
      exact Or.inl (And.intro rfl h)
  | .rep k b, ⟨k1, k3, hb⟩, hk, H, hH, d, rest, Q, h => by
    have h : Q (.val (.p .none)) (.list (ml 5 (iter b.run k H)) :: rest) := h
    show callsOf T1L ((d + (b.ht + 1)) + 1) 1446 _ _ Q
    refine callI rfl ?_
    unfold w__law_run
    refine And.intro (rng_ok (by (clear k1; lia))) ?_
    refine forW_ind (fun i τ => ∃ H' tl, Hok H' ∧ iter b.run (k - i) H' = iter b.run k H ∧ (tl = [] ∨ ∃ u, tl = [(141, u)]) ∧ τ = ⟨(136, .p (Pl.rep k b).pv) :: (137, .ref 0) :: (131, I 7) :: (132, I (k : Int)) :: (133, I 0) :: (139, .p b.pv) :: tl, .list (ml 5 H') :: rest⟩) ⟨H, [], hH, rfl, .inl rfl, rfl⟩ ?_ ?_
    · rintro i v τ R hv ⟨H', tl, hH', e, htl, rfl⟩ hR
      obtain ⟨hi, rfl⟩ := range_at hv
      have e2 : k - i = (k - (i + 1)) + 1 := by (clear e htl hv k1 k3; lia)
      rw [e2] at e
      rcases htl with rfl | ⟨u, rfl⟩
      all_goals
        refine lrun_c b hb hk H' hH' d rest _ ?_
        exact And.intro trivial (hR _ ⟨b.run H', _, (run_ok b hb H' hH').1, e, .inr ⟨_, rfl⟩, rfl⟩)
    · rintro τ ⟨H', tl, hH', e, htl, rfl⟩
      rw [range_len, Nat.sub_self] at e
      have e : H' = iter b.run k H := e
      rw [← e] at h
      exact Or.inl (And.intro rfl h)
end VE
namespace VE
theorem no_pyl {i j : Int} (hj : j.natAbs < 1152921504606846976) : Builtin.divisionGoesByPylong i j = false := by
  unfold Builtin.divisionGoesByPylong
  have h : (fun (n : Int) => if n == 0 then 0 else n.natAbs.log2 / 30 + 1) j ≤ 300 := by
    show (if j == 0 then 0 else j.natAbs.log2 / 30 + 1) ≤ 300
    split
    · decide
    · rename_i q
      have q : j ≠ 0 := by simpa using q
      have : j.natAbs.log2 < 60 := (Nat.log2_lt (by (clear hj; lia))).mpr hj
      (clear hj q; lia)
  show (decide (_ > 300) && _) = false
  rw [decide_eq_false (Nat.not_lt.mpr h)]; rfl
/-- A constant's stores, up to place i. -/
noncomputable def stU (base one more : Nat) : Nat → List Nat
  | 0 => []
  | i + 1 => stU base one more i ++ stC base one more i
theorem stU_len (base one more : Nat) : ∀ i, (stU base one more i).length = 5 * i
  | 0 => rfl
  | i + 1 => by
    show (stU base one more i ++ stC base one more i).length = _
    rw [List.length_append, stU_len base one more i]; show 5 * i + 5 = _; lia
noncomputable def clL1 : List Nat := [512, 550, 588, 613, 626, 639]
section
variable {one two more d base : Nat} {o0 o1 : VO} {rest : List VO} {Q : Rs → List VO → Prop} {C : List Nat}
theorem cd_eq {P : List VO → Prop} {X Y : List PV} {x : VO} (h : P (o0 :: o1 :: .list Y :: x :: rest)) (e : X = Y) : P (o0 :: o1 :: .list X :: x :: rest) := by rw [e]; exact h
theorem fm_ {z : Int} {n : Nat} (e : z = (n : Int)) : Int.fmod z 256 = ((n % 256 : Nat) : Int) := by rw [e]; exact fmodN n 256
theorem fd_ {z : Int} {n : Nat} (e : z = (n : Int)) : Int.fdiv z 256 = ((n / 256 : Nat) : Int) := by rw [e]; exact fdivN n 256
theorem fdp {j : Int} (hj : j ≠ 0) (hj2 : j.natAbs < 1000000) {i : Int} : j ≠ 0 ∧ Builtin.divisionGoesByPylong i j = false := ⟨hj, no_pylong hj2⟩
theorem fd256 {i : Int} : (256 : Int) ≠ 0 ∧ Builtin.divisionGoesByPylong i 256 = false := fdp (by decide) (by decide)
theorem exS {X : List PV} {n : Nat} {l : List PV} (hX : X.length ≤ 1000) (hl : Nat.ble l.length 1000 = true) : X.length + l.length ≤ sizeLine := by
  have := Nat.le_of_ble_eq_true hl
  rw [sizeL]; (clear hl; lia)
theorem lcmp_op {k : Nat} (hk : k < 6) (h1 : one < 4) (h2 : two < 4) (hm : more < 4294967296) (hb : base < 60000) (hC : C.length < 900) (h : Q (.val (.p .none)) (o0 :: o1 :: .list (nv (C ++ opC base k one two more)) :: .list (nv clL1) :: rest)) :
    callsOf T1L (d + 1) 1453 [.p (Pl.op k one two more).pv, .ref 2, .ref 3, .p (.int (base : Int))] (o0 :: o1 :: .list (nv C) :: .list (nv clL1) :: rest) Q := by
  have hz := sizeL
  have hCl : (nv C).length = C.length := nv_len C
  refine callI rfl ?_
  unfold w__law_compile
  match k, hk, h with
  | 0, _, h =>
    refine And.intro (mul_l (by decide)) ?_
    refine And.intro (mul_l (by decide)) ?_
    refine And.intro (by decide) (Exists.intro _ (Exists.intro _ (And.intro rfl (And.intro rfl ?_))))
    refine And.intro (by decide) ?_
    refine And.intro (by decide) (Exists.intro _ (Exists.intro _ (And.intro rfl (And.intro rfl ?_))))
    refine And.intro fd256 ?_
    refine And.intro (szL rfl) ?_
    refine Exists.intro _ (And.intro rfl (And.intro (exS (n := 0) (by (clear h1 h2 hb hk hm hz; lia)) rfl) ?_))
    refine And.intro (by decide) ?_
    refine And.intro fd256 ?_
    refine And.intro (szL rfl) ?_
    refine Exists.intro _ (And.intro rfl (And.intro (exS (n := 0) (by rw [List.length_append, hCl]; show C.length + 7 ≤ _; (clear h1 h2 hCl hb hk hm hz; lia)) rfl) ?_))
    refine Or.inl (And.intro rfl (cd_eq (P := Q _) h ?_))
    rw [List.append_assoc]
    refine pre_app ?_
    show _ = nv [162, 4 * one, 160, 4 * two, 32, 0, 2, 144, 3, 238, (base + 16) % 256, (base + 16) / 256]
    rw [fm_ (z := (base : Int) + 16) (n := base + 16) rfl, fd_ (z := (base : Int) + 16) (n := base + 16) rfl]
    rfl
  | 1, _, h =>
    refine And.intro (mul_l (by decide)) ?_
    refine And.intro (mul_l (by decide)) ?_
    refine And.intro (by decide) (Exists.intro _ (Exists.intro _ (And.intro rfl (And.intro rfl ?_))))
    refine And.intro (by decide) ?_
    refine And.intro (by decide) (Exists.intro _ (Exists.intro _ (And.intro rfl (And.intro rfl ?_))))
    refine And.intro fd256 ?_
    refine And.intro (szL rfl) ?_
    refine Exists.intro _ (And.intro rfl (And.intro (exS (n := 0) (by (clear h1 h2 hb hk hm hz; lia)) rfl) ?_))
    refine And.intro (by decide) ?_
    refine And.intro fd256 ?_
    refine And.intro (szL rfl) ?_
    refine Exists.intro _ (And.intro rfl (And.intro (exS (n := 0) (by rw [List.length_append, hCl]; show C.length + 7 ≤ _; (clear h1 h2 hCl hb hk hm hz; lia)) rfl) ?_))
    refine Or.inl (And.intro rfl (cd_eq (P := Q _) h ?_))
    rw [List.append_assoc]
    refine pre_app ?_
    show _ = nv [162, 4 * one, 160, 4 * two, 32, 38, 2, 176, 3, 238, (base + 16) % 256, (base + 16) / 256]
    rw [fm_ (z := (base : Int) + 16) (n := base + 16) rfl, fd_ (z := (base : Int) + 16) (n := base + 16) rfl]
    rfl
  | 2, _, h =>
    refine And.intro (rng_ok (n := 4) (by decide)) ?_
    refine forW_ind (fun i τ => i ≤ 4 ∧ ∃ tl, (tl = [] ∨ ∃ u w, tl = [(148, u), (149, w)]) ∧ τ = ⟨(136, .p (Pl.op 2 one two more).pv) :: (143, .ref 2) :: (144, .ref 3) :: (145, I (base : Int)) :: (131, I 2) :: (132, I (one : Int)) :: (133, I (two : Int)) :: (139, I (more : Int)) :: tl, o0 :: o1 :: .list (nv (C ++ stU base one more i)) :: .list (nv clL1) :: rest⟩) ⟨by decide, [], .inl rfl, by rw [show stU base one more 0 = [] from rfl, List.append_nil]; rfl⟩ ?_ ?_
    · rintro i v τ R hv ⟨hi4, tl, htl, rfl⟩ hR
      obtain ⟨hi, rfl⟩ := range_at (n := 4) hv
      have hlen : (nv (C ++ stU base one more i)).length = C.length + 5 * i := by rw [nv_len, List.length_append, stU_len]
      have e1 : (256 : Int) ^ (i : Int).toNat = ((256 ^ i : Nat) : Int) := by rw [Int.toNat_natCast]; exact (Int.natCast_pow 256 i).symm
      have hp : 256 ^ i ≤ 16777216 := Nat.le_trans (Nat.pow_le_pow_right (by decide) (by (clear e1 h1 h2 hC hCl hb hi4 hk hlen hm htl hv hz; lia) : i ≤ 3)) (by decide)
      have hp0 : 0 < 256 ^ i := Nat.pow_pos (by decide)
      have e2 : Int.fmod (Int.fdiv (more : Int) ((256 : Int) ^ (i : Int).toNat)) 256 = ((by8 more i : Nat) : Int) := by
        rw [e1, fdivN]; exact fmodN _ 256
      have e3 : (base : Int) + 4 * (one : Int) + (i : Int) = ((base + 4 * one + i : Nat) : Int) := by (clear e1 e2 h1 h2 hC hCl hb hi hi4 hk hlen hm hp hp0 htl hv hz; lia)
      have key : nv (C ++ stU base one more i) ++ [PV.int 169, .int (Int.fmod (Int.fdiv (more : Int) ((256 : Int) ^ (i : Int).toNat)) 256), .int 141, .int (Int.fmod ((base : Int) + 4 * (one : Int) + (i : Int)) 256), .int (Int.fdiv ((base : Int) + 4 * (one : Int) + (i : Int)) 256)] = nv (C ++ stU base one more (i + 1)) := by
        rw [e2, fm_ e3, fd_ e3]
        show _ = nv (C ++ (stU base one more i ++ stC base one more i))
        rw [← List.append_assoc]
        exact pre_app rfl
      rcases htl with rfl | ⟨u, w, rfl⟩
      all_goals
        refine And.intro (mul_l (by decide)) ?_
        refine And.intro (And.intro (by (clear e1 e2 e3 h1 h2 hC hCl hb hi hi4 hk hlen hm hp hp0 hv hz key; lia)) (And.intro (by (clear e1 e2 e3 h1 h2 hC hCl hb hi hk hlen hm hp hp0 hv hz key; lia)) (by decide))) ?_
        refine And.intro (And.intro (by rw [e1]; (clear e1 e2 e3 h1 h2 hC hCl hb hi hi4 hk hlen hm hp hv hz key; lia)) (no_pyl (by rw [e1]; (clear e1 e2 e3 h1 h2 hC hCl hb hi hi4 hk hlen hm hv hz key; lia)))) ?_
        refine And.intro (by decide) ?_
        refine And.intro (by decide) ?_
        refine And.intro fd256 ?_
        refine And.intro (szL rfl) ?_
        refine Exists.intro _ (And.intro rfl (And.intro (exS (n := 0) (by rw [hlen]; (clear e1 e2 e3 h1 h2 hCl hb hi hk hlen hm hp hp0 hv hz key; lia)) rfl) ?_))
        refine And.intro trivial ?_
        refine cd_eq (P := fun hp => R ⟨_, hp⟩) (Y := nv (C ++ stU base one more (i + 1))) (hR _ ⟨by (clear e1 e2 e3 h1 h2 hC hCl hb hi4 hk hlen hm hp hp0 hv hz key; lia), _, .inr ⟨_, _, rfl⟩, rfl⟩) key
    · rintro τ ⟨-, tl, htl, rfl⟩
      have h : Q (.val (.p .none)) (o0 :: o1 :: .list (nv (C ++ stU base one more 4)) :: .list (nv clL1) :: rest) := h
      rcases htl with rfl | ⟨u, w, rfl⟩
      · exact Or.inl (And.intro rfl h)
      · exact Or.inl (And.intro rfl h)
  | 3, _, h =>
    refine And.intro (mul_l (by decide)) ?_
    refine And.intro (by decide) (Exists.intro _ (Exists.intro _ (And.intro rfl (And.intro rfl ?_))))
    refine And.intro (by decide) ?_
    refine And.intro (by decide) (Exists.intro _ (Exists.intro _ (And.intro rfl (And.intro rfl ?_))))
    refine And.intro fd256 ?_
    refine And.intro (szL rfl) ?_
    refine Exists.intro _ (And.intro rfl (And.intro (exS (n := 0) (by (clear h1 h2 hb hk hm hz; lia)) rfl) ?_))
    refine Or.inl (And.intro rfl (cd_eq (P := Q _) h ?_))
    exact pre_app rfl
  | 4, _, h =>
    refine And.intro (mul_l (by decide)) ?_
    refine And.intro (by decide) (Exists.intro _ (Exists.intro _ (And.intro rfl (And.intro rfl ?_))))
    refine And.intro (by decide) ?_
    refine And.intro (by decide) (Exists.intro _ (Exists.intro _ (And.intro rfl (And.intro rfl ?_))))
    refine And.intro fd256 ?_
    refine And.intro (szL rfl) ?_
    refine Exists.intro _ (And.intro rfl (And.intro (exS (n := 0) (by (clear h1 h2 hb hk hm hz; lia)) rfl) ?_))
    refine Or.inl (And.intro rfl (cd_eq (P := Q _) h ?_))
    exact pre_app rfl
  | 5, _, h =>
    refine And.intro (mul_l (by decide)) ?_
    refine And.intro (mul_l (by decide)) ?_
    refine And.intro (by decide) (Exists.intro _ (Exists.intro _ (And.intro rfl (And.intro rfl ?_))))
    refine And.intro (by decide) ?_
    refine And.intro (by decide) (Exists.intro _ (Exists.intro _ (And.intro rfl (And.intro rfl ?_))))
    refine And.intro fd256 ?_
    refine And.intro (szL rfl) ?_
    refine Exists.intro _ (And.intro rfl (And.intro (exS (n := 0) (by (clear h1 h2 hb hk hm hz; lia)) rfl) ?_))
    refine Or.inl (And.intro rfl (cd_eq (P := Q _) h ?_))
    exact pre_app rfl
end
end VE
namespace VE
theorem nvsetE {l : List Nat} {k v' : Nat} {z v : Int} (e : z = (k : Int)) (ev : v = (v' : Int)) : (nv l).set z.toNat (.int v) = nv (l.set k v') := by
  subst e ev; exact nv_set
theorem set_app {α : Type} (C r : List α) (k : Nat) (v : α) : (C ++ r).set (C.length + k) v = C ++ r.set k v := by
  rw [List.set_append_right _ _ (Nat.le_add_right _ _), Nat.add_sub_cancel_left]
theorem stN {X : List PV} {z : Int} {k n : Nat} (e : z = (k : Int)) (hX : X.length = n) (hk : k < n) (hn : n < 100000) : (0 : Int) ≤ z ∧ z < (X.length : Int) ∧ z < 2 ^ 63 := by
  rw [e]; exact ⟨by (clear e hX hk hn; lia), by rw [hX]; (clear e hX hn; lia), smallN (by (clear e hX; lia))⟩
section
variable {base : Nat} {o0 o1 : VO} {rest : List VO}
theorem lcmp_c (hb : base < 60000) : ∀ (p : Pl), p.ok → p.kk → ∀ (C : List Nat) (X : List PV) (d : Nat) (Q : Rs → List VO → Prop), X = nv C → C.length + p.len < 900 → Q (.val (.p .none)) (o0 :: o1 :: .list (nv (C ++ p.cmp base C.length)) :: .list (nv clL1) :: rest) →
    callsOf T1L (d + (p.ht + 1)) 1453 [.p p.pv, .ref 2, .ref 3, .p (.int (base : Int))] (o0 :: o1 :: .list X :: .list (nv clL1) :: rest) Q
  | .nop, _, _, C, _, d, Q, rfl, hC, h => by
    have h : Q (.val (.p .none)) (o0 :: o1 :: .list (nv (C ++ [])) :: .list (nv clL1) :: rest) := h
    rw [List.append_nil] at h
    refine callI rfl ?_
    unfold w__law_compile
    exact Or.inl (And.intro rfl h)
  | .op k one two more, ⟨h1, h2, hm⟩, hk, C, _, d, Q, rfl, hC, h => lcmp_op hk h1 h2 hm hb (by (clear h1 h2 hb hm; lia)) h
  | .unl one two b, ⟨h1, h2, hbo⟩, hk, C, _, d, Q, rfl, hC, h => by
    have hC : C.length + (12 + b.len) < 900 := hC
    have hCl : (nv C).length = C.length := nv_len C
    show callsOf T1L ((d + (b.ht + 1)) + 1) 1453 _ _ Q
    refine callI rfl ?_
    unfold w__law_compile
    refine And.intro (mul_l (by decide)) ?_
    refine And.intro (mul_l (by decide)) ?_
    refine And.intro (by decide) (Exists.intro _ (Exists.intro _ (And.intro rfl (And.intro rfl ?_))))
    refine And.intro (by decide) ?_
    refine And.intro (by decide) (Exists.intro _ (Exists.intro _ (And.intro rfl (And.intro rfl ?_))))
    refine And.intro fd256 ?_
    refine And.intro (szL rfl) ?_
    refine Exists.intro _ (And.intro rfl (And.intro (exS (n := 0) (by (clear h1 h2 hC hb; lia)) rfl) ?_))
    refine Exists.intro _ (And.intro rfl (And.intro (smallN (by rw [List.length_append, hCl]; show C.length + 12 < _; (clear h1 h2 hC hCl hb; lia))) ?_))
    have eh : ∀ l : List PV, l.length = 12 → ((nv C ++ l).length : Int) - 2 = ((C.length + 10 : Nat) : Int) := fun l hl => by rw [List.length_append, hCl, hl]; (clear h1 h2 hC hCl hb hl; lia)
    refine lcmp_c hb b hbo hk (C ++ [162, 4 * one, 160, 4 * two, 32, 76, 2, 176, 3, 76, 0, 0]) _ d _ (pre_app rfl) (by rw [List.length_append]; show C.length + 12 + b.len < _; (clear h1 h2 hCl hb; lia)) ?_
    have hl1 : (C ++ [162, 4 * one, 160, 4 * two, 32, 76, 2, 176, 3, 76, 0, 0]).length = C.length + 12 := by rw [List.length_append]; rfl
    rw [hl1]
    have hL : (nv (C ++ [162, 4 * one, 160, 4 * two, 32, 76, 2, 176, 3, 76, 0, 0] ++ b.cmp base (C.length + 12))).length = C.length + 12 + b.len := by rw [nv_len, List.length_append, hl1, cmp_len]
    generalize hB : b.cmp base (C.length + 12) = B at hL
    have hL2 : (C ++ [162, 4 * one, 160, 4 * two, 32, 76, 2, 176, 3, 76, 0, 0] ++ B).length = C.length + 12 + b.len := by rw [← nv_len]; exact hL
    have ef : 512 + ((nv (C ++ [162, 4 * one, 160, 4 * two, 32, 76, 2, 176, 3, 76, 0, 0] ++ B)).length : Int) = ((512 + (C.length + 12 + b.len) : Nat) : Int) := by rw [hL]; (clear h1 h2 hB hC hCl hL hL2 hb hl1; lia)
    refine Exists.intro _ (And.intro rfl (And.intro (by rw [hL]; exact smallN (by (clear ef h1 h2 hB hCl hL hL2 hb hl1; lia))) ?_))
    refine And.intro (by decide) ?_
    refine And.intro (stN (eh _ rfl) hL (by (clear ef h1 h2 hB hC hCl hL hL2 hb hl1; lia)) (by (clear ef h1 h2 hB hCl hL hL2 hb hl1; lia))) ?_
    refine Exists.intro _ (And.intro rfl (And.intro (by rw [List.length_set, hL]; exact smallN (by (clear ef h1 h2 hB hCl hL hL2 hb hl1; lia))) ?_))
    refine And.intro fd256 ?_
    refine And.intro (stN (k := C.length + 11) (n := C.length + 12 + b.len) (by rw [eh _ rfl]; try (clear ef h1 h2 hB hC hCl hL hL2 hb hl1; lia)) (by rw [List.length_set]; exact hL) (by (clear ef h1 h2 hB hC hCl hL hL2 hb hl1; lia)) (by (clear ef h1 h2 hB hCl hL hL2 hb hl1; lia))) ?_
    refine Or.inl (And.intro rfl (cd_eq (P := Q _) h ?_))
    rw [nvsetE (eh _ rfl) (fm_ ef), nvsetE (k := C.length + 11) (v' := (512 + (C.length + 12 + b.len)) / 256) (by rw [eh _ rfl]; try (clear ef h1 h2 hB hC hCl hL hL2 hb hl1; lia)) (by rw [nv_len, List.length_set, hL2]; exact fd_ (by (clear ef h1 h2 hB hC hCl hL hL2 hb hl1; lia))), List.append_assoc, set_app, set_app]
    show _ = nv (C ++ ([162, 4 * one, 160, 4 * two, 32, 76, 2, 176, 3, 76, (512 + (C.length + 12 + b.len)) % 256, (512 + (C.length + 12 + b.len)) / 256] ++ b.cmp base (C.length + 12)))
    rw [hB]; rfl
  | .rep k b, ⟨k1, k3, hbo⟩, hk, C, _, d, Q, rfl, hC, h => by
    have hC : C.length + (13 + b.len) < 900 := hC
    have hCl : (nv C).length = C.length := nv_len C
    show callsOf T1L ((d + (b.ht + 1)) + 1) 1453 _ _ Q
    refine callI rfl ?_
    unfold w__law_compile
    refine And.intro (szL rfl) ?_
    refine Exists.intro _ (And.intro rfl (And.intro (exS (n := 0) (by (clear hC hb k1 k3; lia)) rfl) ?_))
    refine Exists.intro _ (And.intro rfl (And.intro (smallN (by rw [List.length_append, hCl]; show C.length + 3 < _; (clear hC hCl hb k1 k3; lia))) ?_))
    have eh : ∀ l : List PV, l.length = 3 → 512 + ((nv C ++ l).length : Int) = ((512 + (C.length + 3) : Nat) : Int) := fun l hl => by rw [List.length_append, hCl, hl]; (clear hC hCl hb hl k1 k3; lia)
    refine lcmp_c hb b hbo hk (C ++ [169, k, 72]) _ d _ (pre_app rfl) (by rw [List.length_append]; show C.length + 3 + b.len < _; (clear hCl hb k1 k3; lia)) ?_
    have hl1 : (C ++ [169, k, 72]).length = C.length + 3 := by rw [List.length_append]; rfl
    rw [hl1]
    have hL : (nv (C ++ [169, k, 72] ++ b.cmp base (C.length + 3))).length = C.length + 3 + b.len := by rw [nv_len, List.length_append, hl1, cmp_len]
    refine And.intro (by decide) ?_
    refine And.intro fd256 ?_
    refine And.intro (szL rfl) ?_
    refine Exists.intro _ (And.intro rfl (And.intro (exS (n := 0) (by rw [hL]; (clear hCl hL hb hl1 k1 k3; lia)) rfl) ?_))
    refine Or.inl (And.intro rfl (cd_eq (P := Q _) h ?_))
    rw [fm_ (eh _ rfl), fd_ (eh _ rfl)]
    show _ = nv (C ++ ([169, k, 72] ++ (b.cmp base (C.length + 3) ++ [104, 56, 233, 1, 240, 4, 72, 76, (512 + (C.length + 3)) % 256, (512 + (C.length + 3)) / 256])))
    rw [← List.append_assoc, ← List.append_assoc]
    exact pre_app rfl
end
end VE
namespace VE
noncomputable abbrev QQ : Fl → VS → Prop := fun fl _ => fl = .ret (.p (.bool true))
noncomputable def mi (L : Nat) (m : Nat → Nat) : List Int := (List.range L).map fun k => (m k : Int)
theorem ml_il (L : Nat) (m : Nat → Nat) : ml L m = il (mi L m) := by
  unfold ml mi il; rw [List.map_map]; rfl
theorem drop_il (l : List Int) (n : Nat) : (il l).drop n = il (l.drop n) := List.map_drop.symm
theorem mi_take {L n : Nat} {m p : Nat → Nat} (h : ∀ k, k < n → m k = p k) : (mi L m).take n = (mi L p).take n := by
  refine List.ext_getElem? fun k => ?_
  by_cases hk : k < n
  · rw [List.getElem?_take_of_lt hk, List.getElem?_take_of_lt hk]
    unfold mi
    rw [List.getElem?_map, List.getElem?_map]
    by_cases hL : k < L
    · rw [List.getElem?_range hL]; show some ((m k : Nat) : Int) = some ((p k : Nat) : Int); rw [h k hk]
    · rw [List.getElem?_eq_none (by rw [List.length_range]; (clear hk; lia))]; rfl
  · rw [List.getElem?_eq_none (by rw [List.length_take]; lia), List.getElem?_eq_none (by rw [List.length_take]; lia)]
theorem mi_drop {L n : Nat} {m p : Nat → Nat} (h : ∀ k, n ≤ k → m k = p k) : (mi L m).drop n = (mi L p).drop n := by
  refine List.ext_getElem? fun k => ?_
  rw [List.getElem?_drop, List.getElem?_drop]
  unfold mi
  rw [List.getElem?_map, List.getElem?_map]
  by_cases hL : n + k < L
  · rw [List.getElem?_range hL]; show some ((m (n + k) : Nat) : Int) = some ((p (n + k) : Nat) : Int); rw [h _ (Nat.le_add_right _ _)]
  · rw [List.getElem?_eq_none (by rw [List.length_range]; lia)]; rfl
noncomputable abbrev locZ (s : List PV) (sg u131 u148 u166 u136 u160 : VV) (tot B st en : Int) (tl : List (Nat × VV)) : List (Nat × VV) :=
  (153, .p (.raw s)) :: (127, sg) :: (155, I tot) :: (137, .ref 0) :: (145, I B) :: (156, .ref 1) :: (143, .ref 2) :: (144, .ref 3) :: (131, u131) :: (148, u148) :: (166, u166) :: (157, I st) :: (158, .ref 4) :: (136, u136) :: (159, I en) :: (9, .ref 5) :: (160, u160) :: (161, .ref 6) :: tl
section
variable {C : Calls} {s : List PV} {sg u131 u148 u166 u136 u160 adv : VV} {tot B ex cy spc : Int} {st en : Nat} {tl : List (Nat × VV)} {o0 o1 o2 o3 o4 : VO} {g : Rg} {p : Nat → Nat}
theorem sz_ml {L : Nat} {m : Nat → Nat} (h : L ≤ 65536) : (ml L m).length ≤ sizeLine := by rw [ml_len, sizeL]; lia
theorem s23 (h : Ag g.m p) :
    w_law_23 C ⟨locZ s sg u131 u148 u166 u136 u160 tot B st en tl, hpM ⟨o0, o1, o2, o3, o4, .list (ml ML p)⟩ adv ex cy spc g⟩ QQ := by
  have e1 : (mi ML g.m).take 256 = (mi ML p).take 256 := mi_take fun k hk => h k (.inl hk)
  have e2 : (mi ML g.m).drop 512 = (mi ML p).drop 512 := mi_drop fun k hk => h k (.inr hk)
  unfold w_law_23
  refine Exists.intro _ (And.intro rfl (And.intro (sz_ml (by decide)) (And.intro (by decide) ?_)))
  refine Exists.intro _ (And.intro rfl (And.intro (sz_ml (by decide)) (And.intro (by decide) ?_)))
  refine Exists.intro ((mi ML g.m).take 256) (Exists.intro ((mi ML p).take 256) (And.intro (congrArg some (by rw [ml_il]; exact take_il _ _)) (And.intro (congrArg some (by rw [ml_il]; exact take_il _ _)) (And.intro (congrArg List.length e1) ?_))))
  refine brT (beq_iff_eq.mpr e1) ?_
  refine Exists.intro _ (And.intro rfl (And.intro (sz_ml (by decide)) (And.intro (by decide) ?_)))
  refine Exists.intro _ (And.intro rfl (And.intro (sz_ml (by decide)) (And.intro (by decide) ?_)))
  refine Exists.intro ((mi ML g.m).drop 512) (Exists.intro ((mi ML p).drop 512) (And.intro (congrArg some (by rw [ml_il]; exact drop_il _ _)) (And.intro (congrArg some (by rw [ml_il]; exact drop_il _ _)) (And.intro (congrArg List.length e2) ?_))))
  exact congrArg (fun b => Fl.ret (.p (.bool b))) (beq_iff_eq.mpr e2)
theorem s22 (h : Ag g.m p) (hp : g.pc = en) (hs : g.sp = 255) :
    w_law_22 C ⟨locZ s sg u131 u148 u166 u136 u160 tot B st en ((162, .ref 7) :: tl), hpM ⟨o0, o1, o2, o3, o4, .list (ml ML p)⟩ adv ex cy spc g⟩ QQ := by
  unfold w_law_22
  refine And.intro (szL rfl) ?_
  refine And.intro (szL rfl) ?_
  refine Exists.intro [((g.pc : Nat) : Int), ((g.sp : Nat) : Int)] (Exists.intro [(en : Int), 255] (And.intro rfl (And.intro rfl (And.intro rfl ?_))))
  refine brF (by rw [hp, hs]; exact (congrArg (fun b => !b) (beq_self_eq_true [(en : Int), 255]))) ?_
  exact s23 h
theorem s21 {n : Nat} {gf : Rg} (R : Run en n g gf) (hn : n ≤ 700) (h : Ag gf.m p) (hp : gf.pc = en) (hs : gf.sp = 255) :
    w_law_21 (callsOf T1L 40) ⟨locZ s sg u131 u148 u166 u136 u160 tot B st en [(162, .ref 7)], hpM ⟨o0, o1, o2, o3, o4, .list (ml ML p)⟩ adv ex cy spc g⟩ QQ := by
  unfold w_law_21
  refine And.intro (rng_ok (n := 700) (by decide)) ?_
  refine forW_ind (fun i τ => ∃ n g adv ex cy spc tl, Run en n g gf ∧ n + i ≤ 700 ∧ (tl = [] ∨ ∃ u, tl = [(141, u)]) ∧ τ = ⟨locZ s sg u131 u148 u166 u136 u160 tot B st en ((162, .ref 7) :: tl), hpM ⟨o0, o1, o2, o3, o4, .list (ml ML p)⟩ adv ex cy spc g⟩) ⟨n, g, adv, ex, cy, spc, [], R, hn, .inl rfl, rfl⟩ ?_ ?_
  · rintro i v τ Rr hv ⟨n, g, adv, ex, cy, spc, tl, R, hn, htl, rfl⟩ hR
    obtain ⟨hi, rfl⟩ := range_at (n := 700) hv
    cases R with
    | nil =>
      rcases htl with rfl | ⟨u, rfl⟩
      all_goals
        refine brT (by rw [hp]; exact beq_self_eq_true _) ?_
        exact s22 h hp hs
    | cons S l R =>
      rcases htl with rfl | ⟨u, rfl⟩
      all_goals
        refine brF (beq_false_of_ne (by (clear hi hn hp hs hv; lia))) ?_
        refine S.run _ _ _ _ _ _ fun adv ex cy spc => ?_
        exact And.intro trivial (hR _ ⟨_, _, adv, ex, cy, spc, _, R, by (clear hi hp hs hv l; lia), .inr ⟨_, rfl⟩, rfl⟩)
  · rintro τ ⟨n, g, adv, ex, cy, spc, tl, R, hn, htl, rfl⟩
    have hn : n + (rangeL 0 ((700 : Nat) : Int)).length ≤ 700 := hn
    rw [range_len] at hn
    have : n = 0 := by (clear hp hs htl; lia)
    subst this
    cases R with
    | nil => exact s22 h hp hs
theorem reset_c {d : Nat} {o0 o1 o2 o3 o4 o5 o6 : VO} {Q : Rs → List VO → Prop} (h : Q (.val (.p .none)) [o0, o1, o2, o3, o4, o5, o6, .inst (fsR (.p (.bool false)) 0 0 st st 255 0 0 0 48)]) :
    callsOf T1 (d + 1) 50 [.ref 7] [o0, o1, o2, o3, o4, o5, o6, .inst [(1, .p .any), (2, I 255), (3, I 65535), (4, I 65280), (5, I 256), (6, I 0), (7, .p (.bool false)), (8, I 0), (9, .ref 5), (10, I st)]] Q := by
  refine callI rfl ?_
  refine Or.inl (And.intro rfl ?_)
  exact h
theorem s20 {n : Nat} {gf : Rg} {m : Nat → Nat} (R : Run en n ⟨st, 255, 0, 0, 0, ⟨false, false, false, false⟩, m⟩ gf) (hn : n ≤ 700) (h : Ag gf.m p) (hp : gf.pc = en) (hs : gf.sp = 255) :
    w_law_20 (callsOf T1L 40) ⟨locZ s sg u131 u148 u166 u136 u160 tot B st en [], [o0, o1, o2, o3, o4, .list (ml ML m), .list (ml ML p)]⟩ QQ := by
  unfold w_law_20
  refine And.intro (by decide) ?_
  refine And.intro (by decide) ?_
  refine And.intro (by decide) ?_
  refine And.intro (by decide) ?_
  refine reset_c ?_
  refine Or.inl (And.intro rfl ?_)
  exact s21 (adv := .p (.bool false)) (ex := 0) (cy := 0) (spc := st) R hn h hp hs
end
end VE
namespace VE
/-- The first n octets of the registers are written. -/
noncomputable def wimg (base : Nat) (H : Nat → Nat) (n : Nat) (m : Nat → Nat) (k : Nat) : Nat := if base ≤ k ∧ k < base + n then by8 (H ((k - base) / 4)) ((k - base) % 4) else m k
theorem wimg_0 (base : Nat) (H m : Nat → Nat) : wimg base H 0 m = m := by
  funext k; unfold wimg; rw [if_neg (by lia)]
theorem wimg_up {base i j : Nat} {H m : Nat → Nat} (hj : j < 4) : upd (wimg base H (4 * i + j) m) (base + 4 * i + j) (by8 (H i) j) = wimg base H (4 * i + (j + 1)) m := by
  funext k
  by_cases e : k = base + 4 * i + j
  · subst e
    rw [upd_self]; unfold wimg
    rw [if_pos (by (clear hj; lia)), show (base + 4 * i + j - base) / 4 = i by lia, show (base + 4 * i + j - base) % 4 = j by lia]
  · rw [upd_ne e]; unfold wimg
    by_cases q : base ≤ k ∧ k < base + (4 * i + j)
    · rw [if_pos q, if_pos (by (clear e hj; lia))]
    · rw [if_neg q, if_neg (by (clear hj; lia))]
theorem wimg_all {base : Nat} {m0 H m : Nat → Nat} (h : ∀ k, k < base ∨ base + 16 < k → m k = m0 k) : upd (wimg base H 16 m) (base + 16) (H 4) = img base m0 H := by
  funext k
  unfold img
  by_cases e : k = base + 16
  · subst e; rw [upd_self, if_neg (by lia), if_neg (by lia), if_pos rfl]
  · rw [upd_ne e]; unfold wimg
    by_cases q : base ≤ k ∧ k < base + 16
    · rw [if_pos q, if_neg (by (clear e; lia)), if_pos (by (clear e; lia))]
    · rw [if_neg q]
      by_cases q1 : k < base
      · rw [if_pos q1, h k (.inl q1)]
      · rw [if_neg q1, if_neg (by (clear e; lia)), if_neg e, h k (.inr (by lia))]
noncomputable def runL : List Pl → (Nat → Nat) → (Nat → Nat)
  | [], H => H
  | p :: r, H => runL r (p.run H)
theorem runL_snoc : ∀ (l : List Pl) (p : Pl) (H : Nat → Nat), runL (l ++ [p]) H = p.run (runL l H)
  | [], p, H => rfl
  | q :: l, p, H => runL_snoc l p (q.run H)
noncomputable abbrev locM (s : List PV) (sg u131 u148 u166 u136 : VV) (tot B st en : Int) (tl : List (Nat × VV)) : List (Nat × VV) :=
  (153, .p (.raw s)) :: (127, sg) :: (155, I tot) :: (137, .ref 0) :: (145, I B) :: (156, .ref 1) :: (143, .ref 2) :: (144, .ref 3) :: (131, u131) :: (148, u148) :: (166, u166) :: (157, I st) :: (158, .ref 4) :: (136, u136) :: (159, I en) :: (9, .ref 5) :: tl
theorem stML {m : Nat → Nat} {z : Int} {n : Nat} (e : z = (n : Int)) (h : n < ML) : (0 : Int) ≤ z ∧ z < ((ml ML m).length : Int) ∧ z < 2 ^ 63 := stE e h (by decide)
section
variable {s : List PV} {sg u131 u148 u166 u136 u160 : VV} {tot : Int} {base st en : Nat} {o0 o1 o2 o3 o4 o5 : VO} {m m0 H H1 : Nat → Nat}
theorem oct_e {h i : Nat} : Int.fmod (Int.fdiv (h : Int) ((256 : Int) ^ (i : Int).toNat)) 256 = ((by8 h i : Nat) : Int) := by
  have e1 : (256 : Int) ^ (i : Int).toNat = ((256 ^ i : Nat) : Int) := by rw [Int.toNat_natCast]; exact (Int.natCast_pow 256 i).symm
  rw [e1, fdivN]; exact fmodN _ 256
theorem pow_ok {i : Nat} (hi : i < 4) {z : Int} : ((0 : Int) ≤ (i : Int) ∧ (i : Int) ≤ 1000000 ∧ (256 : Int).natAbs < 2 ^ 64) ∧ (256 : Int) ^ (i : Int).toNat ≠ 0 ∧ Builtin.divisionGoesByPylong z ((256 : Int) ^ (i : Int).toNat) = false := by
  have e1 : (256 : Int) ^ (i : Int).toNat = ((256 ^ i : Nat) : Int) := by rw [Int.toNat_natCast]; exact (Int.natCast_pow 256 i).symm
  have hp : 256 ^ i ≤ 16777216 := Nat.le_trans (Nat.pow_le_pow_right (by decide) (by (clear e1; lia) : i ≤ 3)) (by decide)
  have hp0 : 0 < 256 ^ i := Nat.pow_pos (by decide)
  exact ⟨⟨by (clear e1 hi hp hp0; lia), by (clear e1 hp hp0; lia), by decide⟩, by rw [e1]; (clear e1 hi hp; lia), no_pyl (by rw [e1]; (clear e1 hi; lia))⟩
theorem l5_eq {P : List VO → Prop} {X Y : List PV} {r : List VO} (h : P (o0 :: o1 :: o2 :: o3 :: o4 :: .list Y :: r)) (e : X = Y) : P (o0 :: o1 :: o2 :: o3 :: o4 :: .list X :: r) := by rw [e]; exact h
theorem l6_eq {P : List VO → Prop} {X Y : List PV} {r : List VO} (h : P (o0 :: o1 :: o2 :: o3 :: o4 :: o5 :: .list Y :: r)) (e : X = Y) : P (o0 :: o1 :: o2 :: o3 :: o4 :: o5 :: .list X :: r) := by rw [e]; exact h
theorem s19 {n : Nat} {gf : Rg} (R : Run en n ⟨st, 255, 0, 0, 0, ⟨false, false, false, false⟩, m⟩ gf) (hn : n ≤ 700) (h : Ag gf.m (upd H1 (base + 16) (H 4))) (hp : gf.pc = en) (hs : gf.sp = 255) (hb : base ≤ 1279) :
    w_law_19 (callsOf T1L 40) ⟨locZ s sg u131 u148 u166 u136 u160 tot base st en [], [.list (ml 5 H), o1, o2, o3, o4, .list (ml ML m), .list (ml ML H1)]⟩ QQ := by
  have hML : ML = 1536 := rfl
  unfold w_law_19
  refine rd5 (k := 4) (by decide) ?_
  refine And.intro (stML (n := base + 16) rfl (by (clear hn hp hs; lia))) ?_
  refine l6_eq (P := fun hp => w_law_20 _ ⟨_, hp⟩ QQ) (Y := ml ML (upd H1 (base + 16) (H 4))) ?_ (ml_setE (n := base + 16) rfl rfl (by (clear hn hp hs; lia)))
  exact s20 R hn h hp hs
theorem s18 {m1 : Nat → Nat} {n : Nat} {gf : Rg} (R : Run en n ⟨st, 255, 0, 0, 0, ⟨false, false, false, false⟩, m1⟩ gf) (hn : n ≤ 700) (h : Ag gf.m (upd (wimg base H 16 m) (base + 16) (H 4))) (hp : gf.pc = en) (hs : gf.sp = 255) (hb : base ≤ 1279) :
    w_law_18 (callsOf T1L 40) ⟨locZ s sg u131 u148 u166 u136 u160 tot base st en [], [.list (ml 5 H), o1, o2, o3, o4, .list (ml ML m1), .list (ml ML m)]⟩ QQ := by
  have hML : ML = 1536 := rfl
  unfold w_law_18
  refine And.intro (rng_ok (n := 4) (by decide)) ?_
  refine forW_ind (fun i τ => i ≤ 4 ∧ ∃ u148 u160, τ = ⟨locZ s sg u131 u148 u166 u136 u160 tot base st en [], [.list (ml 5 H), o1, o2, o3, o4, .list (ml ML m1), .list (ml ML (wimg base H (4 * i) m))]⟩) ⟨by decide, u148, u160, by rw [show 4 * 0 = 0 from rfl, wimg_0]⟩ ?_ ?_
  · rintro i v τ Rr hv ⟨hi4, u148, u160, rfl⟩ hR
    obtain ⟨hi, rfl⟩ := range_at (n := 4) hv
    refine And.intro (rng_ok (n := 4) (by decide)) ?_
    refine forW_ind (fun j τ => j ≤ 4 ∧ ∃ u148, τ = ⟨locZ s sg u131 u148 u166 u136 (I (i : Int)) tot base st en [], [.list (ml 5 H), o1, o2, o3, o4, .list (ml ML m1), .list (ml ML (wimg base H (4 * i + j) m))]⟩) ⟨by decide, u148, rfl⟩ ?_ ?_
    · rintro j v τ R2 hv ⟨hj4, u148, rfl⟩ hR2
      obtain ⟨hj, rfl⟩ := range_at (n := 4) hv
      refine rd5 (k := i) (by (clear hML hb hi hj hj4 hn hp hs hv; lia)) ?_
      refine And.intro (pow_ok hj (z := 0)).1 ?_
      refine And.intro (pow_ok hj).2 ?_
      refine And.intro (by decide) ?_
      refine And.intro (mul_l (by decide)) ?_
      refine And.intro (stML (n := base + 4 * i + j) (by (clear hML hb hi hi4 hj hj4 hn hp hs hv; lia)) (by (clear hi hj hn hp hs hv; lia))) ?_
      refine And.intro trivial ?_
      refine l6_eq (P := fun hp => R2 ⟨_, hp⟩) (Y := ml ML (wimg base H (4 * i + (j + 1)) m)) (hR2 _ ⟨by (clear hML hb hi hi4 hj4 hn hp hs hv; lia), _, rfl⟩) ?_
      rw [ml_setE (n := base + 4 * i + j) (by (clear hML hb hi hi4 hj hj4 hn hp hs hv; lia)) oct_e (by (clear hi hj hn hp hs hv; lia)), wimg_up hj]
    · rintro τ ⟨-, u148, rfl⟩
      exact And.intro trivial (hR _ ⟨by (clear hML hb hi4 hn hp hs hv; lia), _, _, rfl⟩)
  · rintro τ ⟨-, u148, u160, rfl⟩
    exact s19 R hn h hp hs hb
/-- The plans are run. -/
theorem s17 {ps : List Pl} {m1 : Nat → Nat} {n : Nat} {gf : Rg} (hps : ∀ p ∈ ps, p.ok ∧ p.kk ∧ p.ht < 30) (hH : Hok H) (R : Run en n ⟨st, 255, 0, 0, 0, ⟨false, false, false, false⟩, m1⟩ gf) (hn : n ≤ 700) (h : Ag gf.m (upd (wimg base (runL ps H) 16 m) (base + 16) (runL ps H 4))) (hp : gf.pc = en) (hs : gf.sp = 255) (hb : base ≤ 1279) :
    w_law_17 (callsOf T1L 40) ⟨locZ s sg u131 u148 u166 u136 u160 tot base st en [], [.list (ml 5 H), o1, o2, o3, .list (ps.map Pl.pv), .list (ml ML m1), .list (ml ML m)]⟩ QQ := by
  unfold w_law_17
  refine Exists.intro (ps.map Pl.pv) (And.intro rfl ?_)
  refine forW_ind (fun i τ => Hok (runL (ps.take i) H) ∧ ∃ u136, τ = ⟨locZ s sg u131 u148 u166 u136 u160 tot base st en [], [.list (ml 5 (runL (ps.take i) H)), o1, o2, o3, .list (ps.map Pl.pv), .list (ml ML m1), .list (ml ML m)]⟩) ⟨hH, u136, rfl⟩ ?_ ?_
  · rintro i v τ Rr hv ⟨hH', u136, rfl⟩ hR
    rw [List.getElem?_map] at hv
    cases hz : ps[i]? with
    | none => rw [hz] at hv; cases hv
    | some p =>
      rw [hz] at hv
      obtain rfl : p.pv = v := Option.some.inj hv
      obtain ⟨ok, kk, ht⟩ := hps p (List.mem_of_getElem? hz)
      have e : runL (ps.take (i + 1)) H = p.run (runL (ps.take i) H) := by rw [List.take_add_one, hz]; exact runL_snoc _ _ _
      rw [e] at hR
      have e2 : 40 = (39 - p.ht) + (p.ht + 1) := by (clear e hb hn hp hs hv hz; lia)
      rw [e2]
      refine lrun_c p ok kk _ hH' (39 - p.ht) _ _ ?_
      refine And.intro rfl ?_
      exact hR _ ⟨(run_ok p ok _ hH').1, _, rfl⟩
  · rintro τ ⟨hH', u136, rfl⟩
    rw [List.length_map, List.take_length]
    exact s18 R hn h hp hs hb
theorem s16 {ps : List Pl} {n : Nat} {gf : Rg} (hps : ∀ p ∈ ps, p.ok ∧ p.kk ∧ p.ht < 30) (hH : Hok H) (R : Run en n ⟨st, 255, 0, 0, 0, ⟨false, false, false, false⟩, m⟩ gf) (hn : n ≤ 700) (h : Ag gf.m (upd (wimg base (runL ps H) 16 m) (base + 16) (runL ps H 4))) (hp : gf.pc = en) (hs : gf.sp = 255) (hb : base ≤ 1279) :
    w_law_16 (callsOf T1L 40) ⟨locM s sg u131 u148 u166 u136 tot base st en [(160, u160)], [.list (ml 5 H), o1, o2, o3, .list (ps.map Pl.pv), .list (ml ML m)]⟩ QQ := by
  unfold w_law_16
  refine Exists.intro _ (And.intro rfl (And.intro (sz_ml (by decide)) ?_))
  exact s17 hps hH R hn h hp hs hb
theorem s15 {ps : List Pl} {n : Nat} {gf : Rg} (h0 : H 4 = 0) (hps : ∀ p ∈ ps, p.ok ∧ p.kk ∧ p.ht < 30) (hH : Hok H) (R : Run en n ⟨st, 255, 0, 0, 0, ⟨false, false, false, false⟩, img base m0 H⟩ gf) (hn : n ≤ 700) (h : Ag gf.m (img base m0 (runL ps H))) (hp : gf.pc = en) (hs : gf.sp = 255) (hb : base ≤ 1279) :
    w_law_15 (callsOf T1L 40) ⟨locM s sg u131 u148 u166 u136 tot base st en [(160, u160)], [.list (ml 5 H), o1, o2, o3, .list (ps.map Pl.pv), .list (ml ML (wimg base H 16 m0))]⟩ QQ := by
  have hML : ML = 1536 := rfl
  unfold w_law_15
  refine And.intro (stML (n := base + 16) rfl (by (clear h0 hn hp hs; lia))) ?_
  have e := wimg_all (base := base) (m0 := m0) (H := H) (m := m0) fun _ _ => rfl
  rw [h0] at e
  refine l5_eq (P := fun hp => w_law_16 _ ⟨_, hp⟩ QQ) (Y := ml ML (img base m0 H)) ?_ ?_
  · refine s16 hps hH R hn ?_ hp hs hb
    rw [wimg_all (m0 := m0) fun k hk => ?_]
    · exact h
    · rcases hk with hk | hk
      · exact img_lo hk
      · exact img_hi hk
  · rw [← e]; exact ml_setE (n := base + 16) rfl rfl (by (clear e h0 hn hp hs; lia))
theorem s14 (hb : base ≤ 1279) {ps : List Pl} {n : Nat} {gf : Rg} (h0 : H 4 = 0) (hps : ∀ p ∈ ps, p.ok ∧ p.kk ∧ p.ht < 30) (hH : Hok H) (R : Run en n ⟨st, 255, 0, 0, 0, ⟨false, false, false, false⟩, img base m H⟩ gf) (hn : n ≤ 700) (h : Ag gf.m (img base m (runL ps H))) (hp : gf.pc = en) (hs : gf.sp = 255) :
    w_law_14 (callsOf T1L 40) ⟨locM s sg u131 u148 u166 u136 tot base st en [], [.list (ml 5 H), o1, o2, o3, .list (ps.map Pl.pv), .list (ml ML m)]⟩ QQ := by
  have hML : ML = 1536 := rfl
  unfold w_law_14
  refine And.intro (rng_ok (n := 4) (by decide)) ?_
  refine forW_ind (fun i τ => i ≤ 4 ∧ ∃ u148 tl, (tl = [] ∧ i = 0 ∨ ∃ u, tl = [(160, u)]) ∧ τ = ⟨locM s sg u131 u148 u166 u136 tot base st en tl, [.list (ml 5 H), o1, o2, o3, .list (ps.map Pl.pv), .list (ml ML (wimg base H (4 * i) m))]⟩) ⟨by decide, u148, _, .inl ⟨rfl, rfl⟩, by rw [show 4 * 0 = 0 from rfl, wimg_0]⟩ ?_ ?_
  · rintro i v τ R hv ⟨hi4, u148, tl, htl, rfl⟩ hR
    obtain ⟨hi, rfl⟩ := range_at (n := 4) hv
    rcases htl with ⟨rfl, -⟩ | ⟨u, rfl⟩
    all_goals
      refine And.intro (rng_ok (n := 4) (by decide)) ?_
      refine forW_ind (fun j τ => j ≤ 4 ∧ ∃ u148, τ = ⟨locM s sg u131 u148 u166 u136 tot base st en [(160, I (i : Int))], [.list (ml 5 H), o1, o2, o3, .list (ps.map Pl.pv), .list (ml ML (wimg base H (4 * i + j) m))]⟩) ⟨by decide, u148, rfl⟩ ?_ ?_
      · rintro j v τ R2 hv ⟨hj4, u148, rfl⟩ hR2
        obtain ⟨hj, rfl⟩ := range_at (n := 4) hv
        refine rd5 (k := i) (by (clear h0 hML hb hi hj hj4 hn hp hs hv; lia)) ?_
        refine And.intro (pow_ok hj (z := 0)).1 ?_
        refine And.intro (pow_ok hj).2 ?_
        refine And.intro (by decide) ?_
        refine And.intro (mul_l (by decide)) ?_
        refine And.intro (stML (n := base + 4 * i + j) (by (clear h0 hML hb hi hi4 hj hj4 hn hp hs hv; lia)) (by (clear h0 hi hj hn hp hs hv; lia))) ?_
        refine And.intro trivial ?_
        refine l5_eq (P := fun hp => R2 ⟨_, hp⟩) (Y := ml ML (wimg base H (4 * i + (j + 1)) m)) (hR2 _ ⟨by (clear h0 hML hb hi hi4 hj4 hn hp hs hv; lia), _, rfl⟩) ?_
        rw [ml_setE (n := base + 4 * i + j) (by (clear h0 hML hb hi hi4 hj hj4 hn hp hs hv; lia)) oct_e (by (clear h0 hi hj hn hp hs hv; lia)), wimg_up hj]
      · rintro τ ⟨-, u148, rfl⟩
        exact And.intro trivial (hR _ ⟨by (clear h0 hML hb hi4 hn hp hs hv; lia), _, _, .inr ⟨_, rfl⟩, rfl⟩)
  · rintro τ ⟨-, u148, tl, htl, rfl⟩
    rcases htl with ⟨-, h4⟩ | ⟨u, rfl⟩
    · exact absurd h4 (by decide)
    · exact s15 h0 hps hH R hn h hp hs hb
end
end VE
namespace VE
/-- The memory ahead of the registers. -/
noncomputable def m0C (C : List Nat) (k : Nat) : Nat := if k < 512 then 170 else if k < 512 + C.length then (C[k - 512]?).getD 0 else 170
theorem m0C_at (C : List Nat) : At (m0C C) 512 C := fun t z h => by
  have := (List.getElem?_eq_some_iff.mp h).1
  unfold m0C
  rw [if_neg (by (clear h this; lia)), if_pos (by (clear h; lia)), Nat.add_sub_cancel_left, h]; rfl
noncomputable def codeOf (base : Nat) : List Pl → Nat → List Nat
  | [], _ => []
  | p :: r, n => p.cmp base n ++ codeOf base r (n + p.len)
noncomputable def lenL (ps : List Pl) : Nat := (ps.map Pl.len).sum
noncomputable def costL (ps : List Pl) : Nat := (ps.map Pl.cost).sum
noncomputable def ctL (ps : List Pl) : Nat := (ps.map Pl.ct).sum
theorem codeOf_len (base : Nat) : ∀ (ps : List Pl) (n : Nat), (codeOf base ps n).length = lenL ps
  | [], _ => rfl
  | p :: r, n => by
    show (p.cmp base n ++ codeOf base r (n + p.len)).length = p.len + lenL r
    rw [List.length_append, cmp_len, codeOf_len base r]
/-- The whole text runs. -/
theorem run_plans {base : Nat} {m0 : Nat → Nat} {e : Nat} (S : Subs base m0 e) : ∀ (ps : List Pl), (∀ p ∈ ps, p.ok ∧ p.rd ≤ 252) → ∀ (P : Nat) (H : Nat → Nat), 512 ≤ P → P + lenL ps = e → At m0 P (codeOf base ps (P - 512)) → Hok H → H 4 + ctL ps < 256 → ∀ a x y f m, Ag m (img base m0 H) →
    ∃ n gf, n ≤ costL ps ∧ Run e n ⟨P, 255, a, x, y, f, m⟩ gf ∧ gf.pc = e ∧ gf.sp = 255 ∧ Ag gf.m (img base m0 (runL ps H))
  | [], _, P, H, hP, he, _, hH, hc, a, x, y, f, m, hm => ⟨0, ⟨P, 255, a, x, y, f, m⟩, Nat.le_refl _, .nil _, he, rfl, hm⟩
  | p :: r, hp, P, H, hP, he, hA, hH, hc, a, x, y, f, m, hm => by
    obtain ⟨ok, rd⟩ := hp p (.head _)
    have he : P + (p.len + lenL r) = e := he
    have hc : H 4 + (p.ct + ctL r) < 256 := hc
    have hA : At m0 P (p.cmp base (P - 512) ++ codeOf base r (P - 512 + p.len)) := hA
    obtain ⟨h1, h2⟩ := run_ok p ok H hH
    obtain ⟨n, a1, x1, y1, f1, m1, hn, R1, A1, K1⟩ := run_plan S p ok P 252 H rd (by decide) hP (by (clear h2 hP hc rd; lia)) hA.l hH (by (clear h2 hP he rd; lia)) a x y f m hm
    obtain ⟨n2, gf, hn2, R2, g1, g2, g3⟩ := run_plans S r (fun q hq => hp q (.tail _ hq)) (P + p.len) (p.run H) (by (clear h2 hc he hn rd; lia)) (by (clear h2 hP hc hn rd; lia)) (by rw [show P + p.len - 512 = P - 512 + p.len by (clear h2 hc he hn rd; lia)]; exact hA.r (by rw [cmp_len])) h1 (by (clear hP he hn rd; lia)) a1 x1 y1 f1 m1 A1
    exact ⟨n + n2, gf, Nat.add_le_add hn hn2, R1.app R2, g1, g2, g3⟩
section
variable {s : List PV} {sg u131 u148 u166 u136 u160 : VV} {tot : Int} {base st : Nat} {o0 o1 o2 o3 o4 o5 : VO} {H : Nat → Nat} {C : List Nat} {ps : List Pl}
theorem mem_eq (hC : C.length ≤ 1024) : (List.replicate (Int.toNat 512) [PV.int 170]).flatten ++ nv C ++ (List.replicate (Int.toNat (1024 - ((nv C).length : Int))) [PV.int 170]).flatten = ml ML (m0C C) := by
  have hr : ∀ n : Nat, (List.replicate n [PV.int 170]).flatten = List.replicate n (PV.int 170) := fun n => by
    induction n with
    | zero => rfl
    | succ n ih => rw [List.replicate_succ, List.flatten_cons, ih]; rfl
  have h5 : Int.toNat 512 = 512 := rfl
  have h6 : Int.toNat (1024 - ((nv C).length : Int)) = 1024 - C.length := by rw [nv_len]; (clear h5 hC; lia)
  have hML : ML = 1536 := rfl
  rw [hr, hr, h5, h6]
  refine List.ext_getElem? fun k => ?_
  by_cases hk : k < ML
  · rw [ml_at' hk]
    unfold m0C
    by_cases k1 : k < 512
    · rw [if_pos k1, List.append_assoc, List.getElem?_append_left (by rw [List.length_replicate]; exact k1), List.getElem?_replicate_of_lt k1]; rfl
    · rw [if_neg k1, List.append_assoc, List.getElem?_append_right (by rw [List.length_replicate]; (clear h5 h6 hC hML hk; lia)), List.length_replicate]
      by_cases k2 : k < 512 + C.length
      · rw [if_pos k2, List.getElem?_append_left (by rw [nv_len]; (clear h5 h6 hC hML hk; lia))]
        have : C[k - 512]? = some ((C[k - 512]?).getD 0) := by rw [List.getElem?_eq_getElem (by (clear h5 h6 hC hML hk; lia))]; rfl
        exact nv_at this
      · rw [if_neg k2, List.getElem?_append_right (by rw [nv_len]; (clear h5 h6 hC hML hk k1; lia)), nv_len, List.getElem?_replicate_of_lt (by (clear h5 h6 hC k1; lia))]; rfl
  · rw [List.getElem?_eq_none (by rw [List.length_append, List.length_append, List.length_replicate, List.length_replicate, nv_len]; (clear h5 h6; lia)), List.getElem?_eq_none (by rw [ml_len]; (clear h5 h6 hC hML; lia))]
theorem s13 {n : Nat} {gf : Rg} {en : Nat} {enI : Int} (ee : enI = (en : Int)) (hC : C.length ≤ 1024) (h0 : H 4 = 0) (hps : ∀ p ∈ ps, p.ok ∧ p.kk ∧ p.ht < 30) (hH : Hok H) (R : Run en n ⟨st, 255, 0, 0, 0, ⟨false, false, false, false⟩, img base (m0C C) H⟩ gf) (hn : n ≤ 700) (h : Ag gf.m (img base (m0C C) (runL ps H))) (hp : gf.pc = en) (hs : gf.sp = 255) (hb : base ≤ 1279) :
    w_law_13 (callsOf T1L 40) ⟨(153, .p (.raw s)) :: (127, sg) :: (155, I tot) :: (137, .ref 0) :: (145, I (base : Int)) :: (156, .ref 1) :: (143, .ref 2) :: (144, .ref 3) :: (131, u131) :: (148, u148) :: (166, u166) :: (157, I (st : Int)) :: (158, .ref 4) :: (136, u136) :: (159, I enI) :: [], [.list (ml 5 H), o1, .list (nv C), o3, .list (ps.map Pl.pv)]⟩ QQ := by
  have hCl := nv_len C
  have hz := sizeL
  subst ee
  unfold w_law_13
  refine And.intro (szL rfl) ?_
  refine And.intro (by decide) ?_
  refine Exists.intro _ (Exists.intro _ (And.intro rfl (And.intro rfl (And.intro ?_ ?_))))
  · rw [List.length_flatten, List.map_replicate, List.sum_replicate_nat, hCl]
    show 512 * 1 + C.length ≤ _; (clear h0 hCl hb hn hp hs; lia)
  refine And.intro (szL rfl) ?_
  refine Exists.intro _ (And.intro rfl (And.intro (smallN (by rw [hCl]; lia)) ?_))
  refine And.intro (And.intro (by rw [hCl]; omega) (And.intro (by decide) (by show (1 : Int) * _ ≤ _; rw [hCl]; have : (2 : Int) ^ 24 = 16777216 := by decide
                                                                              lia))) ?_
  refine Exists.intro _ (Exists.intro _ (And.intro rfl (And.intro rfl (And.intro ?_ ?_))))
  · rw [List.length_append, List.length_flatten, List.map_replicate, List.sum_replicate_nat, hCl, List.length_flatten, List.map_replicate, List.sum_replicate_nat]
    show 512 * 1 + C.length + (Int.toNat (1024 - (C.length : Int))) * 1 ≤ _; (clear h0 hCl hb hn hp hs; lia)
  rw [mem_eq hC]
  exact s14 hb h0 hps hH R hn h hp hs
theorem s12 {n : Nat} {gf : Rg} (hC : C.length ≤ 1024) (h0 : H 4 = 0) (hps : ∀ p ∈ ps, p.ok ∧ p.kk ∧ p.ht < 30) (hH : Hok H) (R : Run (512 + C.length) n ⟨st, 255, 0, 0, 0, ⟨false, false, false, false⟩, img base (m0C C) H⟩ gf) (hn : n ≤ 700) (h : Ag gf.m (img base (m0C C) (runL ps H))) (hp : gf.pc = 512 + C.length) (hs : gf.sp = 255) (hb : base ≤ 1279) :
    w_law_12 (callsOf T1L 40) ⟨(153, .p (.raw s)) :: (127, sg) :: (155, I tot) :: (137, .ref 0) :: (145, I (base : Int)) :: (156, .ref 1) :: (143, .ref 2) :: (144, .ref 3) :: (131, u131) :: (148, u148) :: (166, u166) :: (157, I (st : Int)) :: (158, .ref 4) :: (136, u136) :: [], [.list (ml 5 H), o1, .list (nv C), o3, .list (ps.map Pl.pv)]⟩ QQ := by
  have hCl := nv_len C
  unfold w_law_12
  refine Exists.intro _ (And.intro rfl (And.intro (smallN (by rw [hCl]; (clear h0 hCl hb hn hp hs; lia))) ?_))
  have e : 512 + ((nv C).length : Int) = ((512 + C.length : Nat) : Int) := by rw [hCl]; (clear h0 hC hCl hb hn hp hs; lia)
  exact s13 e hC h0 hps hH R hn h hp hs hb
/-- What the signs give. -/
noncomputable def plansOf : Nat → List Int → List Pl
  | 0, _ => []
  | _ + 1, [] => []
  | n + 1, s :: r => (planOf (s :: r) false).1 :: plansOf n (planOf (s :: r) false).2
structure PsB (n : Nat) (ps : List Pl) : Prop where
  all : ∀ p ∈ ps, p.ok ∧ p.kk ∧ p.ht < 30 ∧ p.rd ≤ 252
  len : lenL ps ≤ 20 * n
  cost : costL ps ≤ 60 * n
  ct : ctL ps ≤ 3 * n
theorem plansOf_b : ∀ (n : Nat) (sg : List Int), sg.length ≤ n → sg.length ≤ 20 → PsB sg.length (plansOf n sg)
  | 0, sg, h, _ => by
    have : sg = [] := by cases sg with | nil => rfl | cons _ _ => exact absurd h (by simp)
    subst this
    exact ⟨fun _ h => (nomatch h), Nat.le_refl _, Nat.le_refl _, Nat.le_refl _⟩
  | n + 1, [], _, _ => ⟨fun _ h => (nomatch h), Nat.le_refl _, Nat.le_refl _, Nat.le_refl _⟩
  | n + 1, s :: r, h, h20 => by
    have B := plan_b (s :: r) false
    have kk := plan_k (s :: r) false
    show PsB (s :: r).length ((planOf (s :: r) false).1 :: plansOf n (planOf (s :: r) false).2)
    generalize planOf (s :: r) false = q at B kk
    obtain ⟨p, rest⟩ := q
    obtain ⟨b1, b2, b3, b4, b5, b6, b7, b8⟩ := B
    dsimp only at b1 b2 b3 b4 b5 b6 b7 b8 kk ⊢
    have b3 := b3 (Nat.succ_pos _)
    have b4 : p.cost ≤ 60 * ((s :: r).length - rest.length) := b4
    have b5 : p.ct ≤ 3 * ((s :: r).length - rest.length) := b5
    obtain ⟨c1, c2, c3, c4⟩ := plansOf_b n rest (by (clear b3 b4 b5 b6 b7 b8 h20; lia)) (by (clear b3 b4 b5 b6 b7 b8 h; lia))
    refine ⟨fun x hx => ?_, ?_, ?_, ?_⟩
    · rcases List.mem_cons.mp hx with rfl | hx
      · exact ⟨b1, kk, by (clear b2 b3 b4 b5 b6 b8 c2 c3 c4 h; lia), by (clear b2 b3 b4 b5 b6 b7 c2 c3 c4 h; lia)⟩
      · exact c1 x hx
    · show p.len + lenL (plansOf n rest) ≤ _; (clear b3 b4 b5 b7 b8 c3 c4 h h20; lia)
    · show p.cost + costL (plansOf n rest) ≤ _; (clear b3 b5 b6 b7 b8 c2 c4 h h20; lia)
    · show p.ct + ctL (plansOf n rest) ≤ _; (clear b3 b4 b6 b7 b8 c2 c3 h h20; lia)
theorem codeOf_cons (base : Nat) (C : List Nat) (p : Pl) (ps : List Pl) : C ++ codeOf base (p :: ps) C.length = (C ++ p.cmp base C.length) ++ codeOf base ps (C ++ p.cmp base C.length).length := by
  show C ++ (p.cmp base C.length ++ codeOf base ps (C.length + p.len)) = _
  rw [List.append_assoc, List.length_append, cmp_len]
/-- The loop that plans and compiles. -/
theorem s11_loop {Q : Fl → VS → Prop} (hb : base < 60000) : ∀ (n : Nat) (sg : List Int) (ps : List Pl) (C : List Nat) (tl : List (Nat × VV)), sg.length ≤ n → sg.length ≤ 20 → ps.length + sg.length ≤ 100 → C.length + 20 * sg.length < 900 → (sg = [] → ∃ u, tl = [(136, u)]) → (tl = [] ∨ ∃ u, tl = [(136, u)]) →
    (∀ u, Q .next ⟨(153, .p (.raw s)) :: (127, .p (.lst (il []))) :: (155, I tot) :: (137, .ref 0) :: (145, I (base : Int)) :: (156, .ref 1) :: (143, .ref 2) :: (144, .ref 3) :: (131, u131) :: (148, u148) :: (166, u166) :: (157, I (st : Int)) :: (158, .ref 4) :: [(136, u)], [o0, o1, .list (nv (C ++ codeOf base (plansOf n sg) C.length)), .list (nv clL1), .list ((ps ++ plansOf n sg).map Pl.pv)]⟩) →
    whileW (wTru (wName 127) (callsOf T1L 40)) (wSeq (wAsT 2 (wFrz (wCall 1439 (wAc (wName 127) (wAc (wBool false) wA0)))) (wTc (wTN 136) (wTc (wTN 127) wT0))) (wSeq (wExpr (wApp (wName 158) (wName 136))) (wSeq (wExpr (wFrz (wCall 1453 (wAc (wName 136) (wAc (wName 143) (wAc (wName 144) (wAc (wName 145) wA0))))))) wNil)) (callsOf T1L 40)) Q (n + 1)
      ⟨(153, .p (.raw s)) :: (127, .p (.lst (il sg))) :: (155, I tot) :: (137, .ref 0) :: (145, I (base : Int)) :: (156, .ref 1) :: (143, .ref 2) :: (144, .ref 3) :: (131, u131) :: (148, u148) :: (166, u166) :: (157, I (st : Int)) :: (158, .ref 4) :: tl, [o0, o1, .list (nv C), .list (nv clL1), .list (ps.map Pl.pv)]⟩
  | n, [], ps, C, tl, _, _, _, _, htl, _, h => by
    obtain ⟨u, rfl⟩ := htl rfl
    have e : plansOf n [] = [] := by cases n <;> rfl
    rw [e] at h
    have h := h u
    rw [show codeOf base [] C.length = [] from rfl, List.append_nil, List.append_nil] at h
    refine And.intro (by decide) ?_
    exact h
  | 0, x :: r, ps, C, tl, h1, _, _, _, _, _, _ => absurd h1 (by simp)
  | n + 1, x :: r, ps, C, tl, h1, h20, hps, hC, _, htl, h => by
    have B := plan_b (x :: r) false
    have kk := plan_k (x :: r) false
    have hz := sizeL
    have e : plansOf (n + 1) (x :: r) = (planOf (x :: r) false).1 :: plansOf n (planOf (x :: r) false).2 := rfl
    rw [e, codeOf_cons] at h
    have hl : (x :: r).length = r.length + 1 := rfl
    refine And.intro (by rw [il_len]; exact smallN (by (clear e h1 hC hb hl hps htl hz; lia))) ?_
    have e40 : 40 = (39 - (x :: r).length) + ((x :: r).length + 1) := by (clear e h1 hC hb hl hps htl hz; lia)
    have key : ∀ K : Rs → List VO → Prop, K (.val (.p (.tup [(planOf (x :: r) false).1.pv, .lst (il (planOf (x :: r) false).2)]))) [o0, o1, .list (nv C), .list (nv clL1), .list (ps.map Pl.pv)] → callsOf T1L 40 1439 [.p (.lst (il (x :: r))), .p (.bool false)] [o0, o1, .list (nv C), .list (nv clL1), .list (ps.map Pl.pv)] K := fun K hK => by
      rw [e40]
      exact plan_c (x :: r) false (39 - (x :: r).length) _ K (by (clear e e40 h1 hC hb hl hps htl hz; lia)) hK
    generalize planOf (x :: r) false = q at B kk h key
    obtain ⟨p, rest⟩ := q
    obtain ⟨b1, b2, b3, b4, b5, b6, b7, b8⟩ := B
    dsimp only at b1 b2 b3 b4 b5 b6 b7 b8 kk h key
    have b3 := b3 (Nat.succ_pos _)
    have e402 : 40 = (39 - p.ht) + (p.ht + 1) := by (clear b2 b3 b6 b8 e e40 h1 hC hb hl hps htl hz; lia)
    have key2 : ∀ (L : List PV) (K : Rs → List VO → Prop), K (.val (.p .none)) [o0, o1, .list (nv (C ++ p.cmp base C.length)), .list (nv clL1), .list L] → callsOf T1L 40 1453 [.p p.pv, .ref 2, .ref 3, .p (.int (base : Int))] [o0, o1, .list (nv C), .list (nv clL1), .list L] K := fun L K hK => by
      rw [e402]
      exact lcmp_c hb p b1 kk C _ (39 - p.ht) K rfl (by (clear b2 b3 b7 b8 e e40 e402 h1 h20 hb hl hps htl hz; lia)) hK
    have fin := s11_loop (Q := Q) hb n rest (ps ++ [p]) (C ++ p.cmp base C.length) [(136, .p p.pv)] (by (clear b2 b3 b6 b7 b8 e e40 e402 h20 hC hb hps htl hz; lia)) (by (clear b2 b3 b6 b7 b8 e e40 e402 h1 hC hb hps htl hz; lia)) (by rw [List.length_append]; show ps.length + 1 + _ ≤ _; (clear b2 b3 b6 b7 b8 e e40 e402 h1 h20 hC hb htl hz; lia)) (by rw [List.length_append, cmp_len]; (clear b2 b3 b7 b8 e e40 e402 h1 h20 hb hps htl hz; lia)) (fun _ => ⟨_, rfl⟩) (.inr ⟨_, rfl⟩) (fun u => by
      have := h u
      rw [show ps ++ p :: plansOf n rest = ps ++ [p] ++ plansOf n rest by rw [List.append_assoc]; rfl] at this
      exact this)
    rw [List.map_append] at fin
    rcases htl with rfl | ⟨u, rfl⟩
    all_goals
      refine key _ ?_
      refine And.intro (by rw [List.length_map]; (clear b2 b3 b6 b7 b8 e e40 e402 h1 h20 hC hb hl; lia)) ?_
      refine key2 _ _ ?_
      exact fin
theorem s11 {sg : List Int} (hb : 1265 ≤ base) (hb2 : base ≤ 1279) (hsg : 0 < sg.length) (hsg2 : sg.length ≤ 9) (h0 : H 4 = 0) (hH : Hok H) (hC : C = sbU base 6) (hst : st = 512 + C.length) :
    w_law_11 (callsOf T1L 40) ⟨(153, .p (.raw s)) :: (127, .p (.lst (il sg))) :: (155, I tot) :: (137, .ref 0) :: (145, I (base : Int)) :: (156, .ref 1) :: (143, .ref 2) :: (144, .ref 3) :: (131, u131) :: (148, u148) :: (166, u166) :: (157, I (st : Int)) :: (158, .ref 4) :: [], [.list (ml 5 H), o1, .list (nv C), .list (nv clL1), .list []]⟩ QQ := by
  have hCl : C.length = 184 := by subst hC; rfl
  have hs0 : sg ≠ [] := fun e => by rw [e] at hsg; exact absurd hsg (by decide)
  unfold w_law_11
  refine Exists.intro (sg.length + 1) ?_
  refine s11_loop (base := base) (by (clear h0 hC hCl hb hs0 hsg hsg2 hst; lia)) sg.length sg [] C [] (Nat.le_refl _) (by (clear h0 hC hCl hb hb2 hs0 hsg hst; lia)) (by show 0 + _ ≤ _; (clear h0 hC hCl hb hb2 hs0 hsg hst; lia)) (by (clear h0 hC hb hb2 hs0 hsg hst; lia)) (fun e => absurd e hs0) (.inl rfl) fun u => ?_
  obtain ⟨c1, c2, c3, c4⟩ := plansOf_b sg.length sg (Nat.le_refl _) (by (clear h0 hC hCl hb hb2 hs0 hsg hst; lia))
  generalize plansOf sg.length sg = ps at c1 c2 c3 c4 ⊢
  have hlen : (C ++ codeOf base ps C.length).length = 184 + lenL ps := by rw [List.length_append, codeOf_len, hCl]
  have hA := m0C_at (C ++ codeOf base ps C.length)
  have S : Subs base (m0C (C ++ codeOf base ps C.length)) (512 + (C ++ codeOf base ps C.length).length) := ⟨⟨hb, hb2⟩, by (clear c2 c3 c4 h0 hC hCl hb hb2 hs0 hsg hsg2 hst; lia), by (clear c3 c4 h0 hC hCl hb hb2 hs0 hsg hst; lia), by subst hC; exact hA.l⟩
  obtain ⟨n, gf, hn, R, g1, g2, g3⟩ := run_plans S ps (fun p hp => ⟨(c1 p hp).1, (c1 p hp).2.2.2⟩) st H (by (clear c2 c3 c4 h0 hC hCl hb hb2 hlen hs0 hsg hsg2; lia)) (by rw [hst]; (clear c2 c3 c4 h0 hC hb hb2 hs0 hsg hsg2 hst; lia)) (by rw [hst, Nat.add_sub_cancel_left]; exact hA.r rfl) hH (by rw [h0]; (clear c2 c3 h0 hC hCl hb hb2 hlen hs0 hsg hst; lia)) 0 0 0 ⟨false, false, false, false⟩ (img base (m0C (C ++ codeOf base ps C.length)) H) fun _ _ => rfl
  exact s12 (by (clear c3 c4 g1 g2 h0 hC hCl hb hb2 hn hs0 hsg hst; lia)) h0 (fun p hp => ⟨(c1 p hp).1, (c1 p hp).2.1, (c1 p hp).2.2.1⟩) hH R (by (clear c2 c4 g1 g2 h0 hC hCl hb hb2 hlen hs0 hsg hst; lia)) g3 g1 g2 hb2
end
end VE
namespace VE
@[irreducible] noncomputable def b8q : WX := (wSeq (wIf (wCmpT .Eq (wName 131) (wInt 0)) (wSeq (wAuN 143 .Add (wFrz (wCat (wFrz (wCat (wFrz (wCat (wFrz (wCat (wFrz (wCat (wFrz (wList (wAc (wInt 189) wA0))) (wName 166))) (wFrz (wList (wAc (wInt 121) wA0))))) (wName 166))) (wFrz (wList (wAc (wInt 157) wA0))))) (wName 166)))) wNil) (wSeq (wIf (wCmpT .Eq (wName 131) (wInt 1)) (wSeq (wAuN 143 .Add (wFrz (wCat (wFrz (wCat (wFrz (wCat (wFrz (wCat (wFrz (wCat (wFrz (wList (wAc (wInt 189) wA0))) (wName 166))) (wFrz (wList (wAc (wInt 249) wA0))))) (wName 166))) (wFrz (wList (wAc (wInt 157) wA0))))) (wName 166)))) wNil) (wSeq (wIf (wCmpT .Eq (wName 131) (wInt 2)) (wSeq (wAuN 143 .Add (wFrz (wCat (wFrz (wCat (wFrz (wCat (wFrz (wList (wAc (wInt 189) wA0))) (wName 166))) (wFrz (wList (wAc (wIfE (wCmpT .Eq (wName 148) (wInt 0)) (wInt 217) (wInt 249)) wA0))))) (wName 166)))) wNil) (wSeq (wIf (wCmpT .Eq (wName 131) (wInt 3)) (wSeq (wAuN 143 .Add (wFrz (wCat (wFrz (wList (wAc (wIfE (wCmpT .Eq (wName 148) (wInt 0)) (wInt 30) (wInt 62)) wA0))) (wName 166)))) wNil) (wSeq (wIf (wCmpT .Eq (wName 131) (wInt 4)) (wSeq (wAuN 143 .Add (wFrz (wCat (wFrz (wList (wAc (wIfE (wCmpT .Eq (wName 148) (wInt 0)) (wInt 94) (wInt 126)) wA0))) (wSub (wName 156) (wBin .Sub (wInt 3) (wName 148)))))) wNil) (wSeq (wAuN 143 .Add (wFrz (wCat (wFrz (wCat (wFrz (wCat (wFrz (wCat (wFrz (wCat (wFrz (wCat (wFrz (wCat (wFrz (wList (wAc (wInt 189) wA0))) (wName 166))) (wFrz (wList (wAc (wInt 72) (wAc (wInt 185) wA0)))))) (wName 166))) (wFrz (wList (wAc (wInt 157) wA0))))) (wName 166))) (wFrz (wList (wAc (wInt 104) (wAc (wInt 153) wA0)))))) (wName 166)))) wNil)) wNil)) wNil)) wNil)) wNil)) wNil)
@[irreducible] noncomputable def b8p : WX := wSeq (wAsg 166 (wSub (wName 156) (wName 148))) b8q
@[irreducible] noncomputable def b8 : WX := wSeq (wExpr (wApp (wName 144) (wBin .Add (wInt 512) (wLen (wAc (wName 143) wA0))))) (wSeq (wIf (wCmpT .Eq (wName 131) (wInt 0)) (wSeq (wExpr (wApp (wName 143) (wInt 24))) wNil) (wSeq (wIf (wCmpT .Eq (wName 131) (wInt 1)) (wSeq (wExpr (wApp (wName 143) (wInt 56))) wNil) wNil) wNil)) (wSeq (wFor (wRng (wAc (wInt 4) wA0)) (wTN 148) b8p) (wSeq (wExpr (wApp (wName 143) (wInt 96))) wNil)))
theorem w8_eq : w_law_8 = wSeq (wFor (wRng (wAc (wInt 6) wA0)) (wTN 131) b8) w_law_9 := by unfold w_law_8 b8 b8p b8q; rfl
noncomputable def oc (base p : Nat) : List Nat := [(base + p) % 256, (base + p) / 256]
noncomputable def octs (base : Nat) : List PV := [.lst (nv (oc base 0)), .lst (nv (oc base 1)), .lst (nv (oc base 2)), .lst (nv (oc base 3))]
theorem oc_atE {base n : Nat} {z : Int} (e : z = (n : Int)) (hn : n < 4) : pick (octs base) z = some (.lst (nv (oc base n))) := by
  subst e
  match n, hn with
  | 0, _ => rfl
  | 1, _ => rfl
  | 2, _ => rfl
  | 3, _ => rfl
noncomputable def clU (base : Nat) : Nat → List Nat
  | 0 => []
  | k + 1 => clU base k ++ [512 + (sbU base k).length]
theorem cl_len (base : Nat) : ∀ k, (clU base k).length = k
  | 0 => rfl
  | k + 1 => by show (clU base k ++ _).length = _; rw [List.length_append, cl_len base k]; rfl
theorem gK_len (base k p : Nat) : (gK base k p).length ≤ 14 := by
  match k with
  | 0 => exact (by decide : 9 ≤ 14)
  | 1 => exact (by decide : 9 ≤ 14)
  | 2 => exact (by decide : 6 ≤ 14)
  | 3 => exact (by decide : 3 ≤ 14)
  | 4 => exact (by decide : 3 ≤ 14)
  | _ + 5 => exact Nat.le_refl 14
theorem gU_len (base k : Nat) : ∀ p, p ≤ 4 → (gU base k p).length ≤ 56
  | 0, _ => Nat.zero_le _
  | p + 1, h => by
    have key : ∀ p, (gU base k p).length ≤ 14 * p := fun p => by
      induction p with
      | zero => exact Nat.zero_le _
      | succ p ih =>
        show (gU base k p ++ gK base k p).length ≤ _
        have := gK_len base k p
        rw [List.length_append]; (clear h; lia)
    have := key (p + 1)
    lia
theorem sb_len (base : Nat) (k : Nat) (hk : k ≤ 6) : (sbU base k).length ≤ 400 := by
  have key : ∀ k, (sbU base k).length ≤ 60 * k := fun k => by
    induction k with
    | zero => exact Nat.zero_le _
    | succ k ih =>
      show (sbU base k ++ (preK k ++ gU base k 4 ++ [96])).length ≤ _
      have := gU_len base k 4 (Nat.le_refl _)
      have hp : (preK k).length ≤ 1 := by
        match k with
        | 0 => exact Nat.le_refl _
        | 1 => exact Nat.le_refl _
        | _ + 2 => exact Nat.zero_le _
      rw [List.length_append, List.length_append, List.length_append]
      show _ + (_ + _ + 1) ≤ _; (clear hk; lia)
  have := key k
  lia
theorem c512 {a : Nat} : (512 : Int) + (a : Int) = ((512 + a : Nat) : Int) := by lia
noncomputable abbrev loc8 (s : List PV) (sg : VV) (tot : Int) (base : Nat) (tl : List (Nat × VV)) : List (Nat × VV) :=
  (153, .p (.raw s)) :: (127, sg) :: (155, I tot) :: (137, .ref 0) :: (145, I (base : Int)) :: (156, .ref 1) :: (143, .ref 2) :: (144, .ref 3) :: tl
section
variable {CC : Calls} {s : List PV} {sg : VV} {tot : Int} {base : Nat} {o0 o1 o3 : VO} {R : VS → Prop} {Q : Fl → VS → Prop}
theorem l2_eq {P : List VO → Prop} {X X' : List PV} (h : P [o0, o1, .list X', o3]) (e1 : X = X') : P [o0, o1, .list X, o3] := by rw [e1]; exact h
theorem l23_eq {P : List VO → Prop} {X Y X' Y' : List PV} (h : P [o0, o1, .list X', .list Y']) (e1 : X = X') (e2 : Y = Y') : P [o0, o1, .list X, .list Y] := by rw [e1, e2]; exact h
/-- A place's octets are looked up. -/
theorem pl_h {k j : Nat} {tl : List (Nat × VV)} {hp : List VO} {K : Fl → VS → Prop} {kI : Int} {o2 : VO} (hj : j < 4) (htl : tl = [] ∨ ∃ u w, tl = [(148, u), (166, w)]) (h : b8q CC ⟨loc8 s sg tot base ((131, I kI) :: [(148, I (j : Int)), (166, .p (.lst (nv (oc base j))))]), [o0, .list (octs base), o2, o3]⟩ K) :
    (wTN 148) CC ⟨loc8 s sg tot base ((131, I kI) :: tl), [o0, .list (octs base), o2, o3]⟩ (.p (.int (j : Int))) fun τ => b8p CC τ K := by
  unfold b8p
  rcases htl with rfl | ⟨u, w, rfl⟩
  all_goals
    refine And.intro (iOk (n := j) (Nat.lt_trans hj (by decide))) (Exists.intro _ (Exists.intro _ (And.intro rfl (And.intro (oc_atE (n := j) rfl hj) ?_))))
    exact h
theorem pl_0 {j : Nat} {X : List Nat} (hj : j < 4) (hX0 : X.length ≤ 900) (h : ∀ u w, R ⟨loc8 s sg tot base ((131, I 0) :: [(148, u), (166, w)]), [o0, .list (octs base), .list (nv (X ++ gK base 0 j)), o3]⟩) :
    b8q CC ⟨loc8 s sg tot base ((131, I 0) :: [(148, I (j : Int)), (166, .p (.lst (nv (oc base j))))]), [o0, .list (octs base), .list (nv X), o3]⟩ (flW (fun _ => True) Q R) := by
  have hX : (nv X).length ≤ 1000 := by rw [nv_len]; exact Nat.le_trans hX0 (by decide)
  unfold b8q
  refine And.intro (szL rfl) ?_
  refine Exists.intro _ (Exists.intro _ (And.intro rfl (And.intro rfl (And.intro (szL rfl) ?_))))
  refine And.intro (szL rfl) ?_
  refine Exists.intro _ (Exists.intro _ (And.intro rfl (And.intro rfl (And.intro (szL rfl) ?_))))
  refine Exists.intro _ (Exists.intro _ (And.intro rfl (And.intro rfl (And.intro (szL rfl) ?_))))
  refine And.intro (szL rfl) ?_
  refine Exists.intro _ (Exists.intro _ (And.intro rfl (And.intro rfl (And.intro (szL rfl) ?_))))
  refine Exists.intro _ (Exists.intro _ (And.intro rfl (And.intro rfl (And.intro (szL rfl) ?_))))
  refine Exists.intro _ (Exists.intro _ (And.intro rfl (And.intro rfl (And.intro (exS (n := 0) hX rfl) ?_))))
  exact And.intro trivial (l2_eq (P := fun hp => R ⟨_, hp⟩) (h _ _) (pre_app (l := gK base 0 j) rfl))
theorem pl_1 {j : Nat} {X : List Nat} (hj : j < 4) (hX0 : X.length ≤ 900) (h : ∀ u w, R ⟨loc8 s sg tot base ((131, I 1) :: [(148, u), (166, w)]), [o0, .list (octs base), .list (nv (X ++ gK base 1 j)), o3]⟩) :
    b8q CC ⟨loc8 s sg tot base ((131, I 1) :: [(148, I (j : Int)), (166, .p (.lst (nv (oc base j))))]), [o0, .list (octs base), .list (nv X), o3]⟩ (flW (fun _ => True) Q R) := by
  have hX : (nv X).length ≤ 1000 := by rw [nv_len]; exact Nat.le_trans hX0 (by decide)
  unfold b8q
  refine And.intro (szL rfl) ?_
  refine Exists.intro _ (Exists.intro _ (And.intro rfl (And.intro rfl (And.intro (szL rfl) ?_))))
  refine And.intro (szL rfl) ?_
  refine Exists.intro _ (Exists.intro _ (And.intro rfl (And.intro rfl (And.intro (szL rfl) ?_))))
  refine Exists.intro _ (Exists.intro _ (And.intro rfl (And.intro rfl (And.intro (szL rfl) ?_))))
  refine And.intro (szL rfl) ?_
  refine Exists.intro _ (Exists.intro _ (And.intro rfl (And.intro rfl (And.intro (szL rfl) ?_))))
  refine Exists.intro _ (Exists.intro _ (And.intro rfl (And.intro rfl (And.intro (szL rfl) ?_))))
  refine Exists.intro _ (Exists.intro _ (And.intro rfl (And.intro rfl (And.intro (exS (n := 0) hX rfl) ?_))))
  exact And.intro trivial (l2_eq (P := fun hp => R ⟨_, hp⟩) (h _ _) (pre_app (l := gK base 1 j) rfl))
theorem pl_2 {j : Nat} {X : List Nat} (hj : j < 4) (hX0 : X.length ≤ 900) (h : ∀ u w, R ⟨loc8 s sg tot base ((131, I 2) :: [(148, u), (166, w)]), [o0, .list (octs base), .list (nv (X ++ gK base 2 j)), o3]⟩) :
    b8q CC ⟨loc8 s sg tot base ((131, I 2) :: [(148, I (j : Int)), (166, .p (.lst (nv (oc base j))))]), [o0, .list (octs base), .list (nv X), o3]⟩ (flW (fun _ => True) Q R) := by
  have hX : (nv X).length ≤ 1000 := by rw [nv_len]; exact Nat.le_trans hX0 (by decide)
  unfold b8q
  match j, hj, h with
  | 0, hj, h =>
    refine And.intro (szL rfl) ?_
    refine Exists.intro _ (Exists.intro _ (And.intro rfl (And.intro rfl (And.intro (szL rfl) ?_))))
    refine And.intro (szL rfl) ?_
    refine Exists.intro _ (Exists.intro _ (And.intro rfl (And.intro rfl (And.intro (szL rfl) ?_))))
    refine Exists.intro _ (Exists.intro _ (And.intro rfl (And.intro rfl (And.intro (szL rfl) ?_))))
    refine Exists.intro _ (Exists.intro _ (And.intro rfl (And.intro rfl (And.intro (exS (n := 0) hX rfl) ?_))))
    exact And.intro trivial (l2_eq (P := fun hp => R ⟨_, hp⟩) (h _ _) (pre_app (l := gK base 2 0) rfl))
  | j + 1, hj, h =>
    refine And.intro (szL rfl) ?_
    refine Exists.intro _ (Exists.intro _ (And.intro rfl (And.intro rfl (And.intro (szL rfl) ?_))))
    refine And.intro (szL rfl) ?_
    refine Exists.intro _ (Exists.intro _ (And.intro rfl (And.intro rfl (And.intro (szL rfl) ?_))))
    refine Exists.intro _ (Exists.intro _ (And.intro rfl (And.intro rfl (And.intro (szL rfl) ?_))))
    refine Exists.intro _ (Exists.intro _ (And.intro rfl (And.intro rfl (And.intro (exS (n := 0) hX rfl) ?_))))
    exact And.intro trivial (l2_eq (P := fun hp => R ⟨_, hp⟩) (h _ _) (pre_app (l := gK base 2 (j + 1)) rfl))
theorem pl_3 {j : Nat} {X : List Nat} (hj : j < 4) (hX0 : X.length ≤ 900) (h : ∀ u w, R ⟨loc8 s sg tot base ((131, I 3) :: [(148, u), (166, w)]), [o0, .list (octs base), .list (nv (X ++ gK base 3 j)), o3]⟩) :
    b8q CC ⟨loc8 s sg tot base ((131, I 3) :: [(148, I (j : Int)), (166, .p (.lst (nv (oc base j))))]), [o0, .list (octs base), .list (nv X), o3]⟩ (flW (fun _ => True) Q R) := by
  have hX : (nv X).length ≤ 1000 := by rw [nv_len]; exact Nat.le_trans hX0 (by decide)
  unfold b8q
  match j, hj, h with
  | 0, hj, h =>
    refine And.intro (szL rfl) ?_
    refine Exists.intro _ (Exists.intro _ (And.intro rfl (And.intro rfl (And.intro (szL rfl) ?_))))
    refine Exists.intro _ (Exists.intro _ (And.intro rfl (And.intro rfl (And.intro (exS (n := 0) hX rfl) ?_))))
    exact And.intro trivial (l2_eq (P := fun hp => R ⟨_, hp⟩) (h _ _) (pre_app (l := gK base 3 0) rfl))
  | j + 1, hj, h =>
    refine And.intro (szL rfl) ?_
    refine Exists.intro _ (Exists.intro _ (And.intro rfl (And.intro rfl (And.intro (szL rfl) ?_))))
    refine Exists.intro _ (Exists.intro _ (And.intro rfl (And.intro rfl (And.intro (exS (n := 0) hX rfl) ?_))))
    exact And.intro trivial (l2_eq (P := fun hp => R ⟨_, hp⟩) (h _ _) (pre_app (l := gK base 3 (j + 1)) rfl))
theorem pl_4 {j : Nat} {X : List Nat} (hj : j < 4) (hX0 : X.length ≤ 900) (h : ∀ u w, R ⟨loc8 s sg tot base ((131, I 4) :: [(148, u), (166, w)]), [o0, .list (octs base), .list (nv (X ++ gK base 4 j)), o3]⟩) :
    b8q CC ⟨loc8 s sg tot base ((131, I 4) :: [(148, I (j : Int)), (166, .p (.lst (nv (oc base j))))]), [o0, .list (octs base), .list (nv X), o3]⟩ (flW (fun _ => True) Q R) := by
  have hX : (nv X).length ≤ 1000 := by rw [nv_len]; exact Nat.le_trans hX0 (by decide)
  unfold b8q
  match j, hj, h with
  | 0, hj, h =>
    refine And.intro (szL rfl) ?_
    refine And.intro (iOkE (n := 3) rfl (by decide)) (Exists.intro _ (Exists.intro _ (And.intro rfl (And.intro (oc_atE (n := 3) rfl (by decide)) ?_))))
    refine Exists.intro _ (Exists.intro _ (And.intro rfl (And.intro rfl (And.intro (szL rfl) ?_))))
    refine Exists.intro _ (Exists.intro _ (And.intro rfl (And.intro rfl (And.intro (exS (n := 0) hX rfl) ?_))))
    exact And.intro trivial (l2_eq (P := fun hp => R ⟨_, hp⟩) (h _ _) (pre_app (l := gK base 4 0) rfl))
  | j + 1, hj, h =>
    refine And.intro (szL rfl) ?_
    refine And.intro (iOkE (n := 3 - (j + 1)) (by (clear hX hX0; lia)) (by (clear hX hX0 hj; lia))) (Exists.intro _ (Exists.intro _ (And.intro rfl (And.intro (oc_atE (n := 3 - (j + 1)) (by (clear hX hX0; lia)) (by (clear hX hX0 hj; lia))) ?_))))
    refine Exists.intro _ (Exists.intro _ (And.intro rfl (And.intro rfl (And.intro (szL rfl) ?_))))
    refine Exists.intro _ (Exists.intro _ (And.intro rfl (And.intro rfl (And.intro (exS (n := 0) hX rfl) ?_))))
    exact And.intro trivial (l2_eq (P := fun hp => R ⟨_, hp⟩) (h _ _) (pre_app (l := gK base 4 (j + 1)) rfl))
theorem pl_5 {j : Nat} {X : List Nat} (hj : j < 4) (hX0 : X.length ≤ 900) (h : ∀ u w, R ⟨loc8 s sg tot base ((131, I 5) :: [(148, u), (166, w)]), [o0, .list (octs base), .list (nv (X ++ gK base 5 j)), o3]⟩) :
    b8q CC ⟨loc8 s sg tot base ((131, I 5) :: [(148, I (j : Int)), (166, .p (.lst (nv (oc base j))))]), [o0, .list (octs base), .list (nv X), o3]⟩ (flW (fun _ => True) Q R) := by
  have hX : (nv X).length ≤ 1000 := by rw [nv_len]; exact Nat.le_trans hX0 (by decide)
  unfold b8q
  refine And.intro (szL rfl) ?_
  refine Exists.intro _ (Exists.intro _ (And.intro rfl (And.intro rfl (And.intro (szL rfl) ?_))))
  refine And.intro (szL rfl) ?_
  refine Exists.intro _ (Exists.intro _ (And.intro rfl (And.intro rfl (And.intro (szL rfl) ?_))))
  refine Exists.intro _ (Exists.intro _ (And.intro rfl (And.intro rfl (And.intro (szL rfl) ?_))))
  refine And.intro (szL rfl) ?_
  refine Exists.intro _ (Exists.intro _ (And.intro rfl (And.intro rfl (And.intro (szL rfl) ?_))))
  refine Exists.intro _ (Exists.intro _ (And.intro rfl (And.intro rfl (And.intro (szL rfl) ?_))))
  refine And.intro (szL rfl) ?_
  refine Exists.intro _ (Exists.intro _ (And.intro rfl (And.intro rfl (And.intro (szL rfl) ?_))))
  refine Exists.intro _ (Exists.intro _ (And.intro rfl (And.intro rfl (And.intro (szL rfl) ?_))))
  refine Exists.intro _ (Exists.intro _ (And.intro rfl (And.intro rfl (And.intro (exS (n := 0) hX rfl) ?_))))
  exact And.intro trivial (l2_eq (P := fun hp => R ⟨_, hp⟩) (h _ _) (pre_app (l := gK base 5 j) rfl))
theorem kd_0 {tl : List (Nat × VV)} (htl : tl = [] ∨ ∃ u w, tl = [(148, u), (166, w)]) (h : ∀ u w, R ⟨loc8 s sg tot base ((131, I 0) :: [(148, u), (166, w)]), [o0, .list (octs base), .list (nv (sbU base (0 + 1))), .list (nv (clU base (0 + 1)))]⟩) :
    b8 CC ⟨loc8 s sg tot base ((131, I 0) :: tl), [o0, .list (octs base), .list (nv (sbU base 0)), .list (nv (clU base 0))]⟩ (flW (fun _ => True) Q R) := by
  have hl := sb_len base 0 (by decide)
  have hc := cl_len base 0
  have hz := sizeL
  unfold b8
  refine Exists.intro _ (And.intro rfl (And.intro (smallN (by rw [nv_len]; (clear hc htl hz; lia))) ?_))
  refine And.intro (by rw [nv_len, hc, hz]; (clear hc hl htl hz; lia)) ?_
  refine And.intro (by rw [nv_len]; show _ ≤ _; have := sb_len base 0 (by decide); rw [sizeL]; (clear hc htl hz this; lia)) ?_
  refine And.intro (rng_ok (n := 4) (by decide)) ?_
  refine l23_eq (P := fun hp => forW _ _ _ _ _ ⟨_, hp⟩) (X' := nv (sbU base 0 ++ preK 0)) (Y' := nv (clU base (0 + 1))) ?_ (pre_app (l := [24]) rfl) (pre_app (by rw [nv_len, c512]; rfl))
  refine forW_ind (fun j τ => j ≤ 4 ∧ ∃ tl, (tl = [] ∧ j = 0 ∨ ∃ u w, tl = [(148, u), (166, w)]) ∧ τ = ⟨loc8 s sg tot base ((131, I 0) :: tl), [o0, .list (octs base), .list (nv (sbU base 0 ++ preK 0 ++ gU base 0 j)), .list (nv (clU base (0 + 1)))]⟩) ⟨by decide, tl, htl.elim (fun h => .inl ⟨h, rfl⟩) .inr, by rw [show gU base 0 0 = [] from rfl, List.append_nil]⟩ ?_ ?_
  · rintro j v τ R2 hv ⟨hj4, tl, htl, rfl⟩ hR
    obtain ⟨hj, rfl⟩ := range_at (n := 4) hv
    have hg := gU_len base 0 j (by (clear hc hj hl htl hv hz; lia))
    have hp : (preK 0).length ≤ 1 := by decide
    have h9 : (sbU base 0 ++ preK 0 ++ gU base 0 j).length ≤ 900 := by rw [List.length_append, List.length_append]; (clear hc hj hj4 htl hv hz; lia)
    refine pl_h (k := 0) (hp := []) hj (htl.elim (fun h => .inl h.1) .inr) (pl_0 hj h9 fun u w => ?_)
    rw [List.append_assoc]
    exact hR _ ⟨by (clear h9 hc hg hj4 hl hp htl hv hz; lia), _, .inr ⟨u, w, rfl⟩, rfl⟩
  · rintro τ ⟨-, tl, htl, rfl⟩
    have hg := gU_len base 0 4 (by decide)
    rcases htl with ⟨-, h4⟩ | ⟨u, w, rfl⟩
    · exact absurd h4 (by decide)
    have hp : (preK 0).length ≤ 1 := by decide
    have h9 : (nv (sbU base 0 ++ preK 0 ++ gU base 0 4)).length ≤ sizeLine := by rw [nv_len, List.length_append, List.length_append]; (clear hc htl; lia)
    refine And.intro h9 ?_
    refine And.intro trivial ?_
    refine l23_eq (P := fun hp => R ⟨_, hp⟩) (h u w) ?_ rfl
    show nv (sbU base 0 ++ preK 0 ++ gU base 0 4) ++ [.int 96] = nv (sbU base 0 ++ (preK 0 ++ gU base 0 4 ++ [96]))
    rw [← List.append_assoc, ← List.append_assoc]
    exact pre_app (l := [96]) rfl
theorem kd_1 {tl : List (Nat × VV)} (htl : tl = [] ∨ ∃ u w, tl = [(148, u), (166, w)]) (h : ∀ u w, R ⟨loc8 s sg tot base ((131, I 1) :: [(148, u), (166, w)]), [o0, .list (octs base), .list (nv (sbU base (1 + 1))), .list (nv (clU base (1 + 1)))]⟩) :
    b8 CC ⟨loc8 s sg tot base ((131, I 1) :: tl), [o0, .list (octs base), .list (nv (sbU base 1)), .list (nv (clU base 1))]⟩ (flW (fun _ => True) Q R) := by
  have hl := sb_len base 1 (by decide)
  have hc := cl_len base 1
  have hz := sizeL
  unfold b8
  refine Exists.intro _ (And.intro rfl (And.intro (smallN (by rw [nv_len]; (clear hc htl hz; lia))) ?_))
  refine And.intro (by rw [nv_len, hc, hz]; (clear hc hl htl hz; lia)) ?_
  refine And.intro (by rw [nv_len]; show _ ≤ _; have := sb_len base 1 (by decide); rw [sizeL]; (clear hc htl hz this; lia)) ?_
  refine And.intro (rng_ok (n := 4) (by decide)) ?_
  refine l23_eq (P := fun hp => forW _ _ _ _ _ ⟨_, hp⟩) (X' := nv (sbU base 1 ++ preK 1)) (Y' := nv (clU base (1 + 1))) ?_ (pre_app (l := [56]) rfl) (pre_app (by rw [nv_len, c512]; rfl))
  refine forW_ind (fun j τ => j ≤ 4 ∧ ∃ tl, (tl = [] ∧ j = 0 ∨ ∃ u w, tl = [(148, u), (166, w)]) ∧ τ = ⟨loc8 s sg tot base ((131, I 1) :: tl), [o0, .list (octs base), .list (nv (sbU base 1 ++ preK 1 ++ gU base 1 j)), .list (nv (clU base (1 + 1)))]⟩) ⟨by decide, tl, htl.elim (fun h => .inl ⟨h, rfl⟩) .inr, by rw [show gU base 1 0 = [] from rfl, List.append_nil]⟩ ?_ ?_
  · rintro j v τ R2 hv ⟨hj4, tl, htl, rfl⟩ hR
    obtain ⟨hj, rfl⟩ := range_at (n := 4) hv
    have hg := gU_len base 1 j (by (clear hc hj hl htl hv hz; lia))
    have hp : (preK 1).length ≤ 1 := by decide
    have h9 : (sbU base 1 ++ preK 1 ++ gU base 1 j).length ≤ 900 := by rw [List.length_append, List.length_append]; (clear hc hj hj4 htl hv hz; lia)
    refine pl_h (k := 1) (hp := []) hj (htl.elim (fun h => .inl h.1) .inr) (pl_1 hj h9 fun u w => ?_)
    rw [List.append_assoc]
    exact hR _ ⟨by (clear h9 hc hg hj4 hl hp htl hv hz; lia), _, .inr ⟨u, w, rfl⟩, rfl⟩
  · rintro τ ⟨-, tl, htl, rfl⟩
    have hg := gU_len base 1 4 (by decide)
    rcases htl with ⟨-, h4⟩ | ⟨u, w, rfl⟩
    · exact absurd h4 (by decide)
    have hp : (preK 1).length ≤ 1 := by decide
    have h9 : (nv (sbU base 1 ++ preK 1 ++ gU base 1 4)).length ≤ sizeLine := by rw [nv_len, List.length_append, List.length_append]; (clear hc htl; lia)
    refine And.intro h9 ?_
    refine And.intro trivial ?_
    refine l23_eq (P := fun hp => R ⟨_, hp⟩) (h u w) ?_ rfl
    show nv (sbU base 1 ++ preK 1 ++ gU base 1 4) ++ [.int 96] = nv (sbU base 1 ++ (preK 1 ++ gU base 1 4 ++ [96]))
    rw [← List.append_assoc, ← List.append_assoc]
    exact pre_app (l := [96]) rfl
theorem kd_2 {tl : List (Nat × VV)} (htl : tl = [] ∨ ∃ u w, tl = [(148, u), (166, w)]) (h : ∀ u w, R ⟨loc8 s sg tot base ((131, I 2) :: [(148, u), (166, w)]), [o0, .list (octs base), .list (nv (sbU base (2 + 1))), .list (nv (clU base (2 + 1)))]⟩) :
    b8 CC ⟨loc8 s sg tot base ((131, I 2) :: tl), [o0, .list (octs base), .list (nv (sbU base 2)), .list (nv (clU base 2))]⟩ (flW (fun _ => True) Q R) := by
  have hl := sb_len base 2 (by decide)
  have hc := cl_len base 2
  have hz := sizeL
  unfold b8
  refine Exists.intro _ (And.intro rfl (And.intro (smallN (by rw [nv_len]; (clear hc htl hz; lia))) ?_))
  refine And.intro (by rw [nv_len, hc, hz]; (clear hc hl htl hz; lia)) ?_
  refine And.intro (rng_ok (n := 4) (by decide)) ?_
  refine l23_eq (P := fun hp => forW _ _ _ _ _ ⟨_, hp⟩) (X' := nv (sbU base 2 ++ preK 2)) (Y' := nv (clU base (2 + 1))) ?_ (by rw [show preK 2 = [] from rfl, List.append_nil]) (pre_app (by rw [nv_len, c512]; rfl))
  refine forW_ind (fun j τ => j ≤ 4 ∧ ∃ tl, (tl = [] ∧ j = 0 ∨ ∃ u w, tl = [(148, u), (166, w)]) ∧ τ = ⟨loc8 s sg tot base ((131, I 2) :: tl), [o0, .list (octs base), .list (nv (sbU base 2 ++ preK 2 ++ gU base 2 j)), .list (nv (clU base (2 + 1)))]⟩) ⟨by decide, tl, htl.elim (fun h => .inl ⟨h, rfl⟩) .inr, by rw [show gU base 2 0 = [] from rfl, List.append_nil]⟩ ?_ ?_
  · rintro j v τ R2 hv ⟨hj4, tl, htl, rfl⟩ hR
    obtain ⟨hj, rfl⟩ := range_at (n := 4) hv
    have hg := gU_len base 2 j (by (clear hc hj hl htl hv hz; lia))
    have hp : (preK 2).length ≤ 1 := by decide
    have h9 : (sbU base 2 ++ preK 2 ++ gU base 2 j).length ≤ 900 := by rw [List.length_append, List.length_append]; (clear hc hj hj4 htl hv hz; lia)
    refine pl_h (k := 2) (hp := []) hj (htl.elim (fun h => .inl h.1) .inr) (pl_2 hj h9 fun u w => ?_)
    rw [List.append_assoc]
    exact hR _ ⟨by (clear h9 hc hg hj4 hl hp htl hv hz; lia), _, .inr ⟨u, w, rfl⟩, rfl⟩
  · rintro τ ⟨-, tl, htl, rfl⟩
    have hg := gU_len base 2 4 (by decide)
    rcases htl with ⟨-, h4⟩ | ⟨u, w, rfl⟩
    · exact absurd h4 (by decide)
    have hp : (preK 2).length ≤ 1 := by decide
    have h9 : (nv (sbU base 2 ++ preK 2 ++ gU base 2 4)).length ≤ sizeLine := by rw [nv_len, List.length_append, List.length_append]; (clear hc htl; lia)
    refine And.intro h9 ?_
    refine And.intro trivial ?_
    refine l23_eq (P := fun hp => R ⟨_, hp⟩) (h u w) ?_ rfl
    show nv (sbU base 2 ++ preK 2 ++ gU base 2 4) ++ [.int 96] = nv (sbU base 2 ++ (preK 2 ++ gU base 2 4 ++ [96]))
    rw [← List.append_assoc, ← List.append_assoc]
    exact pre_app (l := [96]) rfl
theorem kd_3 {tl : List (Nat × VV)} (htl : tl = [] ∨ ∃ u w, tl = [(148, u), (166, w)]) (h : ∀ u w, R ⟨loc8 s sg tot base ((131, I 3) :: [(148, u), (166, w)]), [o0, .list (octs base), .list (nv (sbU base (3 + 1))), .list (nv (clU base (3 + 1)))]⟩) :
    b8 CC ⟨loc8 s sg tot base ((131, I 3) :: tl), [o0, .list (octs base), .list (nv (sbU base 3)), .list (nv (clU base 3))]⟩ (flW (fun _ => True) Q R) := by
  have hl := sb_len base 3 (by decide)
  have hc := cl_len base 3
  have hz := sizeL
  unfold b8
  refine Exists.intro _ (And.intro rfl (And.intro (smallN (by rw [nv_len]; (clear hc htl hz; lia))) ?_))
  refine And.intro (by rw [nv_len, hc, hz]; (clear hc hl htl hz; lia)) ?_
  refine And.intro (rng_ok (n := 4) (by decide)) ?_
  refine l23_eq (P := fun hp => forW _ _ _ _ _ ⟨_, hp⟩) (X' := nv (sbU base 3 ++ preK 3)) (Y' := nv (clU base (3 + 1))) ?_ (by rw [show preK 3 = [] from rfl, List.append_nil]) (pre_app (by rw [nv_len, c512]; rfl))
  refine forW_ind (fun j τ => j ≤ 4 ∧ ∃ tl, (tl = [] ∧ j = 0 ∨ ∃ u w, tl = [(148, u), (166, w)]) ∧ τ = ⟨loc8 s sg tot base ((131, I 3) :: tl), [o0, .list (octs base), .list (nv (sbU base 3 ++ preK 3 ++ gU base 3 j)), .list (nv (clU base (3 + 1)))]⟩) ⟨by decide, tl, htl.elim (fun h => .inl ⟨h, rfl⟩) .inr, by rw [show gU base 3 0 = [] from rfl, List.append_nil]⟩ ?_ ?_
  · rintro j v τ R2 hv ⟨hj4, tl, htl, rfl⟩ hR
    obtain ⟨hj, rfl⟩ := range_at (n := 4) hv
    have hg := gU_len base 3 j (by (clear hc hj hl htl hv hz; lia))
    have hp : (preK 3).length ≤ 1 := by decide
    have h9 : (sbU base 3 ++ preK 3 ++ gU base 3 j).length ≤ 900 := by rw [List.length_append, List.length_append]; (clear hc hj hj4 htl hv hz; lia)
    refine pl_h (k := 3) (hp := []) hj (htl.elim (fun h => .inl h.1) .inr) (pl_3 hj h9 fun u w => ?_)
    rw [List.append_assoc]
    exact hR _ ⟨by (clear h9 hc hg hj4 hl hp htl hv hz; lia), _, .inr ⟨u, w, rfl⟩, rfl⟩
  · rintro τ ⟨-, tl, htl, rfl⟩
    have hg := gU_len base 3 4 (by decide)
    rcases htl with ⟨-, h4⟩ | ⟨u, w, rfl⟩
    · exact absurd h4 (by decide)
    have hp : (preK 3).length ≤ 1 := by decide
    have h9 : (nv (sbU base 3 ++ preK 3 ++ gU base 3 4)).length ≤ sizeLine := by rw [nv_len, List.length_append, List.length_append]; (clear hc htl; lia)
    refine And.intro h9 ?_
    refine And.intro trivial ?_
    refine l23_eq (P := fun hp => R ⟨_, hp⟩) (h u w) ?_ rfl
    show nv (sbU base 3 ++ preK 3 ++ gU base 3 4) ++ [.int 96] = nv (sbU base 3 ++ (preK 3 ++ gU base 3 4 ++ [96]))
    rw [← List.append_assoc, ← List.append_assoc]
    exact pre_app (l := [96]) rfl
theorem kd_4 {tl : List (Nat × VV)} (htl : tl = [] ∨ ∃ u w, tl = [(148, u), (166, w)]) (h : ∀ u w, R ⟨loc8 s sg tot base ((131, I 4) :: [(148, u), (166, w)]), [o0, .list (octs base), .list (nv (sbU base (4 + 1))), .list (nv (clU base (4 + 1)))]⟩) :
    b8 CC ⟨loc8 s sg tot base ((131, I 4) :: tl), [o0, .list (octs base), .list (nv (sbU base 4)), .list (nv (clU base 4))]⟩ (flW (fun _ => True) Q R) := by
  have hl := sb_len base 4 (by decide)
  have hc := cl_len base 4
  have hz := sizeL
  unfold b8
  refine Exists.intro _ (And.intro rfl (And.intro (smallN (by rw [nv_len]; (clear hc htl hz; lia))) ?_))
  refine And.intro (by rw [nv_len, hc, hz]; (clear hc hl htl hz; lia)) ?_
  refine And.intro (rng_ok (n := 4) (by decide)) ?_
  refine l23_eq (P := fun hp => forW _ _ _ _ _ ⟨_, hp⟩) (X' := nv (sbU base 4 ++ preK 4)) (Y' := nv (clU base (4 + 1))) ?_ (by rw [show preK 4 = [] from rfl, List.append_nil]) (pre_app (by rw [nv_len, c512]; rfl))
  refine forW_ind (fun j τ => j ≤ 4 ∧ ∃ tl, (tl = [] ∧ j = 0 ∨ ∃ u w, tl = [(148, u), (166, w)]) ∧ τ = ⟨loc8 s sg tot base ((131, I 4) :: tl), [o0, .list (octs base), .list (nv (sbU base 4 ++ preK 4 ++ gU base 4 j)), .list (nv (clU base (4 + 1)))]⟩) ⟨by decide, tl, htl.elim (fun h => .inl ⟨h, rfl⟩) .inr, by rw [show gU base 4 0 = [] from rfl, List.append_nil]⟩ ?_ ?_
  · rintro j v τ R2 hv ⟨hj4, tl, htl, rfl⟩ hR
    obtain ⟨hj, rfl⟩ := range_at (n := 4) hv
    have hg := gU_len base 4 j (by (clear hc hj hl htl hv hz; lia))
    have hp : (preK 4).length ≤ 1 := by decide
    have h9 : (sbU base 4 ++ preK 4 ++ gU base 4 j).length ≤ 900 := by rw [List.length_append, List.length_append]; (clear hc hj hj4 htl hv hz; lia)
    refine pl_h (k := 4) (hp := []) hj (htl.elim (fun h => .inl h.1) .inr) (pl_4 hj h9 fun u w => ?_)
    rw [List.append_assoc]
    exact hR _ ⟨by (clear h9 hc hg hj4 hl hp htl hv hz; lia), _, .inr ⟨u, w, rfl⟩, rfl⟩
  · rintro τ ⟨-, tl, htl, rfl⟩
    have hg := gU_len base 4 4 (by decide)
    rcases htl with ⟨-, h4⟩ | ⟨u, w, rfl⟩
    · exact absurd h4 (by decide)
    have hp : (preK 4).length ≤ 1 := by decide
    have h9 : (nv (sbU base 4 ++ preK 4 ++ gU base 4 4)).length ≤ sizeLine := by rw [nv_len, List.length_append, List.length_append]; (clear hc htl; lia)
    refine And.intro h9 ?_
    refine And.intro trivial ?_
    refine l23_eq (P := fun hp => R ⟨_, hp⟩) (h u w) ?_ rfl
    show nv (sbU base 4 ++ preK 4 ++ gU base 4 4) ++ [.int 96] = nv (sbU base 4 ++ (preK 4 ++ gU base 4 4 ++ [96]))
    rw [← List.append_assoc, ← List.append_assoc]
    exact pre_app (l := [96]) rfl
theorem kd_5 {tl : List (Nat × VV)} (htl : tl = [] ∨ ∃ u w, tl = [(148, u), (166, w)]) (h : ∀ u w, R ⟨loc8 s sg tot base ((131, I 5) :: [(148, u), (166, w)]), [o0, .list (octs base), .list (nv (sbU base (5 + 1))), .list (nv (clU base (5 + 1)))]⟩) :
    b8 CC ⟨loc8 s sg tot base ((131, I 5) :: tl), [o0, .list (octs base), .list (nv (sbU base 5)), .list (nv (clU base 5))]⟩ (flW (fun _ => True) Q R) := by
  have hl := sb_len base 5 (by decide)
  have hc := cl_len base 5
  have hz := sizeL
  unfold b8
  refine Exists.intro _ (And.intro rfl (And.intro (smallN (by rw [nv_len]; (clear hc htl hz; lia))) ?_))
  refine And.intro (by rw [nv_len, hc, hz]; (clear hc hl htl hz; lia)) ?_
  refine And.intro (rng_ok (n := 4) (by decide)) ?_
  refine l23_eq (P := fun hp => forW _ _ _ _ _ ⟨_, hp⟩) (X' := nv (sbU base 5 ++ preK 5)) (Y' := nv (clU base (5 + 1))) ?_ (by rw [show preK 5 = [] from rfl, List.append_nil]) (pre_app (by rw [nv_len, c512]; rfl))
  refine forW_ind (fun j τ => j ≤ 4 ∧ ∃ tl, (tl = [] ∧ j = 0 ∨ ∃ u w, tl = [(148, u), (166, w)]) ∧ τ = ⟨loc8 s sg tot base ((131, I 5) :: tl), [o0, .list (octs base), .list (nv (sbU base 5 ++ preK 5 ++ gU base 5 j)), .list (nv (clU base (5 + 1)))]⟩) ⟨by decide, tl, htl.elim (fun h => .inl ⟨h, rfl⟩) .inr, by rw [show gU base 5 0 = [] from rfl, List.append_nil]⟩ ?_ ?_
  · rintro j v τ R2 hv ⟨hj4, tl, htl, rfl⟩ hR
    obtain ⟨hj, rfl⟩ := range_at (n := 4) hv
    have hg := gU_len base 5 j (by (clear hc hj hl htl hv hz; lia))
    have hp : (preK 5).length ≤ 1 := by decide
    have h9 : (sbU base 5 ++ preK 5 ++ gU base 5 j).length ≤ 900 := by rw [List.length_append, List.length_append]; (clear hc hj hj4 htl hv hz; lia)
    refine pl_h (k := 5) (hp := []) hj (htl.elim (fun h => .inl h.1) .inr) (pl_5 hj h9 fun u w => ?_)
    rw [List.append_assoc]
    exact hR _ ⟨by (clear h9 hc hg hj4 hl hp htl hv hz; lia), _, .inr ⟨u, w, rfl⟩, rfl⟩
  · rintro τ ⟨-, tl, htl, rfl⟩
    have hg := gU_len base 5 4 (by decide)
    rcases htl with ⟨-, h4⟩ | ⟨u, w, rfl⟩
    · exact absurd h4 (by decide)
    have hp : (preK 5).length ≤ 1 := by decide
    have h9 : (nv (sbU base 5 ++ preK 5 ++ gU base 5 4)).length ≤ sizeLine := by rw [nv_len, List.length_append, List.length_append]; (clear hc htl; lia)
    refine And.intro h9 ?_
    refine And.intro trivial ?_
    refine l23_eq (P := fun hp => R ⟨_, hp⟩) (h u w) ?_ rfl
    show nv (sbU base 5 ++ preK 5 ++ gU base 5 4) ++ [.int 96] = nv (sbU base 5 ++ (preK 5 ++ gU base 5 4 ++ [96]))
    rw [← List.append_assoc, ← List.append_assoc]
    exact pre_app (l := [96]) rfl
end
end VE
namespace VE
open M6
noncomputable section
noncomputable def kAd : List Addr := [1428, 1427, 3, 1423, 1424, 1425, 29, 36, 35, 43, 42, 50, 49, 71, 70, 78, 77, 92, 91, 99, 98, 141, 140, 148, 147, 155, 154, 162, 161, 169, 168, 176, 175, 183, 182, 190, 189, 197, 196, 211, 210, 218, 217, 225, 224, 232, 231, 239, 238, 246, 245, 267, 266, 281, 280, 288, 287, 295, 294, 316, 315, 323, 322, 337, 336, 344, 343, 351, 350, 358, 357, 1149, 1148, 855, 854, 995, 994, 1408, 1407, 1275, 1274, 484, 483, 617, 616, 743, 742, 869, 868, 652, 651, 1128, 1127, 778, 777, 981, 980, 463, 462, 596, 595, 750, 749, 1016, 1015, 1002, 1001, 491, 490, 939, 938, 1086, 1085, 1366, 1365, 1051, 1050, 925, 924, 673, 672, 1338, 1337, 1373, 1372, 1439, 1438, 1446, 1445, 1453, 1452]
noncomputable def KK (w : World) : Frag := kAd.map fun a => (a, ((LF w)[a]?).getD default)
noncomputable def isNN : Option (Option Value) → Bool
  | some none => true
  | _ => false
noncomputable def isRef (f : Addr) : Option (Option Value) → Bool
  | some (some (.ref a)) => Nat.beq a f
  | _ => false
noncomputable def isBi (x : String) : Option (Option Value) → Bool
  | some (some (.builtin y)) => x == y
  | _ => false
noncomputable def fldB (K : Frag) (n : Nat) : Bool := isNN (findIn K (.ref CA) (nm n)) && isNN (takerIn K CA (nm n))
noncomputable def fnB (K : Frag) (n : Nat) (f : Addr) : Bool := isRef f (findIn K (.ref CA) (nm n)) && isFn K (.ref f) && isBi "function.__get__" (specialIn K (.ref f) "__get__") && (match takesIn K (.ref f) with | some false => true | _ => false) && !copiedNames.contains (nm n) && keepIn K (.ref f) && fnIn K f
noncomputable def intB (K : Frag) (n : Nat) (i : Int) : Bool := (match findIn K (.ref CA) (nm n) with
  | some (some (.int j t)) => i == j && isNN (specialIn K (.int j t) "__get__")
  | _ => false) && !copiedNames.contains (nm n)
noncomputable def refB (K : Frag) (n : Nat) (a : Addr) : Bool := isRef a (findIn K (.ref CA) (nm n)) && isNN (specialIn K (.ref a) "__get__") && !copiedNames.contains (nm n)
noncomputable def valB : PV → Value → Bool
  | .int i, .int j _ => i == j
  | .fn a, .ref b => Nat.beq a b
  | .any, v => handedIn v
  | _, _ => false
noncomputable def valsB : List PV → List Value → Bool
  | [], [] => true
  | p :: l, v :: r => valB p v && valsB l r
  | _, _ => false
theorem valsB_rep {F : Addr → Obj → Prop} : ∀ {l : List PV} {r : List Value}, valsB l r = true → PRepL F l r := by
  intro l
  induction l with
  | nil => intro r h; cases r with
    | nil => exact .nil
    | cons _ _ => cases h
  | cons p l ih =>
    intro r h
    cases r with
    | nil => cases h
    | cons v r =>
      have h := Bool.and_eq_true_iff.mp h
      refine PRepL.cons ?_ (ih h.2)
      have h := h.1
      unfold valB at h
      split at h
      · rw [beq_iff_eq.mp h]; exact .int _ _ .nil
      · rw [Nat.eq_of_beq_eq_true h]; exact .fn _ .nil
      · exact .any h .nil
      · cases h
noncomputable def tabB (K : Frag) (n : Nat) (l : List PV) (a : Addr) : Bool := refB K n a && (match K.lookup a with
  | some ⟨.type "list", _, .seq vs _, _⟩ => valsB l vs.toList
  | _ => false)
theorem isNN_eq : ∀ {x : Option (Option Value)}, isNN x = true → x = some none
  | some none, _ => rfl
  | none, h => by cases h
  | some (some _), h => by cases h
theorem isRef_eq {f : Addr} : ∀ {x : Option (Option Value)}, isRef f x = true → x = some (some (.ref f)) := by
  intro x h
  unfold isRef at h
  split at h
  · rw [Nat.eq_of_beq_eq_true h]
  · cases h
theorem isBi_eq {f : String} : ∀ {x : Option (Option Value)}, isBi f x = true → x = some (some (.builtin f)) := by
  intro x h
  unfold isBi at h
  split at h
  · rw [beq_iff_eq.mp h]
  · cases h
theorem refB_eq {K : Frag} {n : Nat} {a : Addr} (this : refB K n a = true) : ClsRef K CA (nm n) a := by
  unfold refB at this
  simp only [Bool.and_eq_true, Bool.not_eq_true'] at this
  exact ⟨isRef_eq this.1.1, isNN_eq this.1.2, this.2⟩
theorem tabB_eq {K : Frag} {n : Nat} {l : List PV} {a : Addr} (h : tabB K n l a = true) : ∃ a o ws k, TabOk K CA (nm n) l a o ws k := by
  unfold tabB at h
  obtain ⟨h1, h2⟩ := Bool.and_eq_true_iff.mp h
  split at h2
  · rename_i d vs k sl ho
    exact ⟨a, _, vs.toList, k, refB_eq h1, ho, rfl, by simp, valsB_rep h2⟩
  · cases h2
theorem map_at {α β : Type} {f g : α → β} {x : α} : ∀ {l : List α}, l.map f = l.map g → x ∈ l → f x = g x := by
  intro l
  induction l with
  | nil => intro _ hx; cases hx
  | cons a l ih =>
    intro h hx
    simp only [List.map_cons, List.cons.injEq] at h
    rcases List.mem_cons.mp hx with rfl | hx
    · exact h.1
    · exact ih h.2 hx
noncomputable abbrev ixL : List (Addr × Nat) := [(36, 15), (43, 16), (50, 17), (71, 20), (78, 21), (92, 23), (99, 24), (141, 30), (148, 31), (155, 32), (162, 33), (169, 34), (176, 35), (183, 36), (190, 37), (197, 38), (211, 40), (218, 41), (225, 42), (232, 43), (239, 44), (246, 45), (267, 48), (281, 50), (288, 51), (295, 52), (316, 55), (323, 56), (337, 58), (344, 59), (351, 60), (358, 61), (1149, 174), (855, 132), (995, 152), (1408, 211), (1275, 192), (484, 79), (617, 98), (743, 116), (869, 134), (652, 103), (1128, 171), (778, 121), (981, 150), (463, 76), (596, 95), (750, 117), (1016, 155), (1002, 153), (491, 80), (939, 144), (1086, 165), (1366, 205), (1051, 160), (925, 142), (673, 106), (1338, 201), (1373, 206)]
noncomputable def fobj (f : Addr) (i : Nat) (dV : Value) : Obj :=
  ⟨.type "function", none, .func (fnOf (sName (cst i)) ("MPU." ++ sName (cst i)) (sArgs (cst i)) (sBody (cst i)) (sScope (cst i)) dV .none .none (.str "py65.devices.mpu6502" 194) none (.ref (f - 1)) .none), #[]⟩
noncomputable def gobj (f : Addr) (i : Nat) : Obj :=
  ⟨.type "function", none, .func (fnOf (sName (pst i)) (sName (pst i)) (sArgs (pst i)) (sBody (pst i)) (sScope (pst i)) .none .none .none (.str "law_me0006_01" 2249) none (.ref (f - 1)) .none), #[]⟩
theorem f_fld (w : World) : Z1.flds.all (fun n => fldB (KK w) n) = true := by kernel_rfl
theorem f_int (w : World) : Z1.nums.all (fun x => intB (KK w) x.1 x.2) = true := by kernel_rfl
theorem f_fn (w : World) : Z1.fns.all (fun x => fnB (KK w) x.1 x.2) = true := by kernel_rfl
theorem f_tab0 (w : World) : tabB (KK w) 30 tb0 1423 = true := by kernel_rfl
theorem f_tab1 (w : World) : tabB (KK w) 31 tb1 1424 = true := by kernel_rfl
theorem f_tab2 (w : World) : tabB (KK w) 32 tb2 1425 = true := by kernel_rfl
theorem f_glob (w : World) : Z1.globs.all (fun x => isRef x.2 (nsIn (KK w) mainGlobals (nm x.1)) && keepIn (KK w) (.ref x.2)) = true := by kernel_rfl
theorem f_bi (w : World) : Z1.bis.all (fun n => isNN (nsIn (KK w) mainGlobals (nm n))) = true := by kernel_rfl
theorem f_obj (w : World) : ixL.map (fun x => (KK w).lookup x.1) = ixL.map (fun x => some (fobj x.1 x.2 (if x.1 = 36 then .ref 29 else .none))) := by kernel_rfl
theorem f_code (w : World) : ixL.all (fun x => codeIn (KK w) (.ref (x.1 - 1)) ("MPU." ++ sName (cst x.2))) = true := by kernel_rfl
theorem f_c1 (w : World) : plainGet (KK w) CA "" = true := by kernel_rfl
theorem f_c2 (w : World) : hasDictIn (KK w) CA = true := by kernel_rfl
theorem f_c3 (w : World) : findIn (KK w) (.ref CA) "__setattr__" = some (some (.builtin "object.__setattr__")) := by kernel_rfl
theorem f_c4 (w : World) : plainOver (KK w) CA = true := by kernel_rfl
theorem all_at {α : Type} {f : α → Bool} {l : List α} (h : l.all f = true) {x : α} (hx : x ∈ l) : f x = true := List.all_eq_true.mp h x hx
theorem stc_ok (w : World) : StcOk nm (KK w) CA Z1 where
  cls := ⟨f_c1 w, f_c2 w, f_c3 w, f_c4 w⟩
  fld := fun n hn => by
    have := all_at (f_fld w) hn
    unfold fldB at this
    simp only [Bool.and_eq_true] at this
    exact ⟨isNN_eq this.1, isNN_eq this.2⟩
  int := fun n i h => by
    have := all_at (f_int w) (getN_mem h)
    unfold intB at this
    simp only [Bool.and_eq_true, Bool.not_eq_true'] at this
    obtain ⟨h1, h2⟩ := this
    split at h1
    · rename_i j t e
      simp only [Bool.and_eq_true] at h1
      have e1 := beq_iff_eq.mp h1.1
      (try dsimp only at e1 e)
      subst e1
      exact ⟨⟨t, e, isNN_eq h1.2⟩, h2⟩
    · cases h1
  fn := fun n f h => by
    have := all_at (f_fn w) h
    unfold fnB at this
    simp only [Bool.and_eq_true, Bool.not_eq_true'] at this
    obtain ⟨⟨⟨⟨⟨⟨h1, h2⟩, h3⟩, h4⟩, h5⟩, h6⟩, h7⟩ := this
    refine ⟨⟨isRef_eq h1, h2, isBi_eq h3, ?_, h5, h6⟩, h7⟩
    split at h4
    · assumption
    · cases h4
  glob := fun n f h => by
    have := Bool.and_eq_true_iff.mp (all_at (f_glob w) h)
    exact ⟨isRef_eq this.1, this.2⟩
  bi := fun n h => isNN_eq (all_at (f_bi w) h)
  tab := fun n l h => by
    have hm := getN_mem h
    change (n, l) ∈ [(30, tb0), (31, tb1), (32, tb2)] at hm
    simp only [List.mem_cons, List.not_mem_nil, or_false, Prod.mk.injEq] at hm
    rcases hm with ⟨rfl, rfl⟩ | ⟨rfl, rfl⟩ | ⟨rfl, rfl⟩
    · exact tabB_eq (f_tab0 w)
    · exact tabB_eq (f_tab1 w)
    · exact tabB_eq (f_tab2 w)
theorem f_in (w : World) : kAd.map (fun a => (HF w.params).get? a) = kAd.map (fun a => some (((LF w)[a]?).getD default)) := by kernel_rfl
theorem mem_lookup {α β : Type} [BEq α] [LawfulBEq α] {n : α} {i : β} : ∀ {l : List (α × β)}, l.lookup n = some i → (n, i) ∈ l
  | [], h => by cases h
  | (a, b) :: l, h => by
    simp only [List.lookup] at h
    split at h
    · rename_i q; cases h; rw [beq_iff_eq.mp q]; exact .head _
    · exact .tail _ (mem_lookup h)
theorem kk_in {w : World} {h : Heap} (Y : ∀ b o, (HF w.params).get? b = some o → h.get? b = some o) : (KK w).In h := fun a o e => by
  have m := mem_lookup e
  unfold KK at m
  obtain ⟨b, hb, e1⟩ := List.mem_map.mp m
  cases e1
  exact Y _ _ (map_at (f_in w) hb)
/-- A function of the class, as the engine asks. -/
noncomputable def mok (sc : Scope) (ns : List Nat) : Bool :=
  (ns.all fun n => sc.names.lookup (nm n) == some .local) && decide ns.Nodup && !sc.isCoroutine && !sc.isGenerator && sc.kind == .function && sc.names.all (fun x => x.2 != .cell) && sc.names.lookup (nm Z1.topn) != some .local
theorem mok_fn {G : Gl nm Z1} {f : Addr} {ns : List Nat} {name qual : Str} {params : Arguments} {body : List Stmt} {scope : Scope} {dV kV doc pm cdv ct oc : Value} {an od : Option Addr} {osl : Array (Option Value)} (ok : mok scope ns = true)
    (ho : G.K.lookup f = some ⟨oc, od, .func (fnOf name qual params body scope dV kV doc pm an cdv ct), osl⟩) (hcd : codeIn G.K cdv qual = true) : FnOk G f ns name qual params body scope dV kV doc pm cdv ct oc an od osl := by
  unfold mok at ok
  simp only [Bool.and_eq_true, List.all_eq_true, beq_iff_eq, decide_eq_true_eq, Bool.not_eq_true', bne_iff_ne] at ok
  obtain ⟨⟨⟨⟨⟨⟨o1, o2⟩, o3⟩, o4⟩, o5⟩, o6⟩, o7⟩ := ok
  exact ⟨ho, hcd, o1, o2, o3, o4, o5, o6, o7⟩
end
end VE
namespace VE
open M6
noncomputable section
theorem binds1 {fd : FuncData} {ns : List Nat} (hn : ns.length = 1) (h : ∀ v, bindArgs fd ⟨[v], []⟩ = pure ((ns.map nm).zip [v])) : ∀ vs s, vs.length = ns.length → BindsTo s fd ⟨vs, []⟩ ((ns.map nm).zip vs) := fun vs s hl => by
  obtain ⟨v, rfl⟩ := List.length_eq_one_iff.mp (hl.trans hn)
  exact BindsTo.of_eq (h v)
theorem len2 {α : Type} {l : List α} (h : l.length = 2) : ∃ a b, l = [a, b] := by
  cases l with
  | nil => cases h
  | cons a r =>
    obtain ⟨b, rfl⟩ := List.length_eq_one_iff.mp (Nat.succ.inj h)
    exact ⟨a, b, rfl⟩
theorem len3 {α : Type} {l : List α} (h : l.length = 3) : ∃ a b c, l = [a, b, c] := by
  cases l with
  | nil => cases h
  | cons a r =>
    obtain ⟨b, c, rfl⟩ := len2 (Nat.succ.inj h)
    exact ⟨a, b, c, rfl⟩
theorem len4 {α : Type} {l : List α} (h : l.length = 4) : ∃ a b c d, l = [a, b, c, d] := by
  cases l with
  | nil => cases h
  | cons a r =>
    obtain ⟨b, c, d, rfl⟩ := len3 (Nat.succ.inj h)
    exact ⟨a, b, c, d, rfl⟩
theorem binds2 {fd : FuncData} {ns : List Nat} (hn : ns.length = 2) (h : ∀ u v, bindArgs fd ⟨[u, v], []⟩ = pure ((ns.map nm).zip [u, v])) : ∀ vs s, vs.length = ns.length → BindsTo s fd ⟨vs, []⟩ ((ns.map nm).zip vs) := fun vs s hl => by
  obtain ⟨u, v, rfl⟩ := len2 (hl.trans hn)
  exact BindsTo.of_eq (h u v)
theorem binds3 {fd : FuncData} {ns : List Nat} (hn : ns.length = 3) (h : ∀ u v x, bindArgs fd ⟨[u, v, x], []⟩ = pure ((ns.map nm).zip [u, v, x])) : ∀ vs s, vs.length = ns.length → BindsTo s fd ⟨vs, []⟩ ((ns.map nm).zip vs) := fun vs s hl => by
  obtain ⟨u, v, x, rfl⟩ := len3 (hl.trans hn)
  exact BindsTo.of_eq (h u v x)
theorem binds4 {fd : FuncData} {ns : List Nat} (hn : ns.length = 4) (h : ∀ u v x y, bindArgs fd ⟨[u, v, x, y], []⟩ = pure ((ns.map nm).zip [u, v, x, y])) : ∀ vs s, vs.length = ns.length → BindsTo s fd ⟨vs, []⟩ ((ns.map nm).zip vs) := fun vs s hl => by
  obtain ⟨u, v, x, y, rfl⟩ := len4 (hl.trans hn)
  exact BindsTo.of_eq (h u v x y)
theorem obj_at (w : World) {f : Addr} {i : Nat} (h : (f, i) ∈ ixL) : (KK w).lookup f = some (fobj f i (if f = 36 then .ref 29 else .none)) := map_at (f_obj w) h
theorem code_at (w : World) {f : Addr} {i : Nat} (h : (f, i) ∈ ixL) : codeIn (KK w) (.ref (f - 1)) ("MPU." ++ sName (cst i)) = true := all_at (f_code w) h
noncomputable def isNoneB (v : Value) : Bool := match v with
  | .none => true
  | _ => false
noncomputable def isZeroB (v : Value) : Bool := match v with
  | .int i _ => i == 0
  | _ => false
noncomputable def dfltB (l : List Value) : Bool := match l with
  | a :: b :: r => isNoneB a && isZeroB b && r.isEmpty
  | _ => false
theorem isNoneB_e {v : Value} (h : isNoneB v = true) : v = .none := by
  unfold isNoneB at h
  split at h
  · rfl
  · cases h
theorem isZeroB_e {v : Value} (h : isZeroB v = true) : ∃ t, v = .int 0 t := by
  unfold isZeroB at h
  split at h
  · rename_i i t; exact ⟨t, by rw [beq_iff_eq.mp h]⟩
  · cases h
theorem dfltB_ex {l : List Value} (h : dfltB l = true) : ∃ t, l = [.none, .int 0 t] := by
  unfold dfltB at h
  split at h
  · rename_i a b r
    have h := Bool.and_eq_true_iff.mp h
    have h' := Bool.and_eq_true_iff.mp h.1
    have e := List.isEmpty_iff.mp h.2
    obtain ⟨t, e2⟩ := isZeroB_e h'.2
    exact ⟨t, by rw [isNoneB_e h'.1, e2, e]⟩
  · cases h
section
variable {G : Gl nm Z1} {w : World} (hK : G.K = KK w)
include hK
theorem dfn {f i : Nat} {ns : List Nat} {wn : WX} (hi : getN f ixL = some i) (h36 : f ≠ 36) (ok : mok (sScope (cst i)) ns = true) (hb : SB G (sScope (cst i)) (sBody (cst i)) wn)
    (hbind : ∀ vs s, vs.length = ns.length → BindsTo s (fnOf (sName (cst i)) ("MPU." ++ sName (cst i)) (sArgs (cst i)) (sBody (cst i)) (sScope (cst i)) .none .none .none (.str "py65.devices.mpu6502" 194) none (.ref (f - 1)) .none) ⟨vs, []⟩ ((ns.map nm).zip vs)) : DefOk G f ns wn := by
  have ho := obj_at w (getN_mem hi)
  rw [if_neg h36, ← hK] at ho
  have hc := code_at w (getN_mem hi)
  rw [← hK] at hc
  exact .mk (mok_fn ok ho hc) hb hbind
theorem o__law_plan : G.K.lookup 1439 = some (gobj 1439 4) := by rw [hK]; kernel_rfl
theorem c__law_plan : codeIn G.K (.ref 1438) (sName (pst 4)) = true := by rw [hK]; kernel_rfl
theorem D__law_plan : FnOk G 1439 [127, 128] (sName (pst 4)) (sName (pst 4)) (sArgs (pst 4)) (sBody (pst 4)) (sScope (pst 4)) .none .none .none (.str "law_me0006_01" 2249) (.ref 1438) .none (.type "function") none none #[] := mok_fn (by kernel_rfl) (o__law_plan hK) (c__law_plan hK)
theorem d__law_plan : DefOk G 1439 [127, 128] w__law_plan := .mk (D__law_plan hK) s__law_plan (binds2 rfl fun _ _ => by kernel_rfl)
theorem o__law_run : G.K.lookup 1446 = some (gobj 1446 5) := by rw [hK]; kernel_rfl
theorem c__law_run : codeIn G.K (.ref 1445) (sName (pst 5)) = true := by rw [hK]; kernel_rfl
theorem D__law_run : FnOk G 1446 [136, 137] (sName (pst 5)) (sName (pst 5)) (sArgs (pst 5)) (sBody (pst 5)) (sScope (pst 5)) .none .none .none (.str "law_me0006_01" 2249) (.ref 1445) .none (.type "function") none none #[] := mok_fn (by kernel_rfl) (o__law_run hK) (c__law_run hK)
theorem d__law_run : DefOk G 1446 [136, 137] w__law_run := .mk (D__law_run hK) s__law_run (binds2 rfl fun _ _ => by kernel_rfl)
theorem o__law_compile : G.K.lookup 1453 = some (gobj 1453 6) := by rw [hK]; kernel_rfl
theorem c__law_compile : codeIn G.K (.ref 1452) (sName (pst 6)) = true := by rw [hK]; kernel_rfl
theorem D__law_compile : FnOk G 1453 [136, 143, 144, 145] (sName (pst 6)) (sName (pst 6)) (sArgs (pst 6)) (sBody (pst 6)) (sScope (pst 6)) .none .none .none (.str "law_me0006_01" 2249) (.ref 1452) .none (.type "function") none none #[] := mok_fn (by kernel_rfl) (o__law_compile hK) (c__law_compile hK)
theorem d__law_compile : DefOk G 1453 [136, 143, 144, 145] w__law_compile := .mk (D__law_compile hK) s__law_compile (binds4 rfl fun _ _ _ _ => by kernel_rfl)
theorem defs7 : ∀ p ∈ T1, DefOk G p.1 p.2.1 p.2.2 := (List.forall_mem_cons.mpr ⟨dfn hK (f := 43) (i := 16) rfl (by decide) (by kernel_rfl) s_step (binds1 rfl fun _ => by kernel_rfl), (List.forall_mem_cons.mpr ⟨dfn hK (f := 50) (i := 17) rfl (by decide) (by kernel_rfl) s_reset (binds1 rfl fun _ => by kernel_rfl), (List.forall_mem_cons.mpr ⟨dfn hK (f := 71) (i := 20) rfl (by decide) (by kernel_rfl) s_ByteAt (binds2 rfl fun _ _ => by kernel_rfl), (List.forall_mem_cons.mpr ⟨dfn hK (f := 78) (i := 21) rfl (by decide) (by kernel_rfl) s_WordAt (binds2 rfl fun _ _ => by kernel_rfl), (List.forall_mem_cons.mpr ⟨dfn hK (f := 92) (i := 23) rfl (by decide) (by kernel_rfl) s_ProgramCounter (binds1 rfl fun _ => by kernel_rfl), (List.forall_mem_cons.mpr ⟨dfn hK (f := 99) (i := 24) rfl (by decide) (by kernel_rfl) s_ImmediateByte (binds1 rfl fun _ => by kernel_rfl), (List.forall_mem_cons.mpr ⟨dfn hK (f := 141) (i := 30) rfl (by decide) (by kernel_rfl) s_AbsoluteAddr (binds1 rfl fun _ => by kernel_rfl), (List.forall_mem_cons.mpr ⟨dfn hK (f := 148) (i := 31) rfl (by decide) (by kernel_rfl) s_AbsoluteXAddr (binds1 rfl fun _ => by kernel_rfl), (List.forall_mem_cons.mpr ⟨dfn hK (f := 155) (i := 32) rfl (by decide) (by kernel_rfl) s_AbsoluteYAddr (binds1 rfl fun _ => by kernel_rfl), (List.forall_mem_cons.mpr ⟨dfn hK (f := 162) (i := 33) rfl (by decide) (by kernel_rfl) s_BranchRelAddr (binds1 rfl fun _ => by kernel_rfl), (List.forall_mem_cons.mpr ⟨dfn hK (f := 169) (i := 34) rfl (by decide) (by kernel_rfl) s_stPush (binds2 rfl fun _ _ => by kernel_rfl), (List.forall_mem_cons.mpr ⟨dfn hK (f := 176) (i := 35) rfl (by decide) (by kernel_rfl) s_stPop (binds1 rfl fun _ => by kernel_rfl), (List.forall_mem_cons.mpr ⟨dfn hK (f := 183) (i := 36) rfl (by decide) (by kernel_rfl) s_stPushWord (binds2 rfl fun _ _ => by kernel_rfl), (List.forall_mem_cons.mpr ⟨dfn hK (f := 190) (i := 37) rfl (by decide) (by kernel_rfl) s_stPopWord (binds1 rfl fun _ => by kernel_rfl), (List.forall_mem_cons.mpr ⟨dfn hK (f := 197) (i := 38) rfl (by decide) (by kernel_rfl) s_FlagsNZ (binds2 rfl fun _ _ => by kernel_rfl), (List.forall_mem_cons.mpr ⟨dfn hK (f := 211) (i := 40) rfl (by decide) (by kernel_rfl) s_opASL (binds2 rfl fun _ _ => by kernel_rfl), (List.forall_mem_cons.mpr ⟨dfn hK (f := 218) (i := 41) rfl (by decide) (by kernel_rfl) s_opLSR (binds2 rfl fun _ _ => by kernel_rfl), (List.forall_mem_cons.mpr ⟨dfn hK (f := 225) (i := 42) rfl (by decide) (by kernel_rfl) s_opBCL (binds2 rfl fun _ _ => by kernel_rfl), (List.forall_mem_cons.mpr ⟨dfn hK (f := 232) (i := 43) rfl (by decide) (by kernel_rfl) s_opBST (binds2 rfl fun _ _ => by kernel_rfl), (List.forall_mem_cons.mpr ⟨dfn hK (f := 239) (i := 44) rfl (by decide) (by kernel_rfl) s_opCLR (binds2 rfl fun _ _ => by kernel_rfl), (List.forall_mem_cons.mpr ⟨dfn hK (f := 246) (i := 45) rfl (by decide) (by kernel_rfl) s_opSET (binds2 rfl fun _ _ => by kernel_rfl), (List.forall_mem_cons.mpr ⟨dfn hK (f := 267) (i := 48) rfl (by decide) (by kernel_rfl) s_opROL (binds2 rfl fun _ _ => by kernel_rfl), (List.forall_mem_cons.mpr ⟨dfn hK (f := 281) (i := 50) rfl (by decide) (by kernel_rfl) s_opADC (binds2 rfl fun _ _ => by kernel_rfl), (List.forall_mem_cons.mpr ⟨dfn hK (f := 288) (i := 51) rfl (by decide) (by kernel_rfl) s_opROR (binds2 rfl fun _ _ => by kernel_rfl), (List.forall_mem_cons.mpr ⟨dfn hK (f := 295) (i := 52) rfl (by decide) (by kernel_rfl) s_opSTA (binds2 rfl fun _ _ => by kernel_rfl), (List.forall_mem_cons.mpr ⟨dfn hK (f := 316) (i := 55) rfl (by decide) (by kernel_rfl) s_opCMPR (binds3 rfl fun _ _ _ => by kernel_rfl), (List.forall_mem_cons.mpr ⟨dfn hK (f := 323) (i := 56) rfl (by decide) (by kernel_rfl) s_opSBC (binds2 rfl fun _ _ => by kernel_rfl), (List.forall_mem_cons.mpr ⟨dfn hK (f := 337) (i := 58) rfl (by decide) (by kernel_rfl) s_opINCR (binds2 rfl fun _ _ => by kernel_rfl), (List.forall_mem_cons.mpr ⟨dfn hK (f := 344) (i := 59) rfl (by decide) (by kernel_rfl) s_opLDA (binds2 rfl fun _ _ => by kernel_rfl), (List.forall_mem_cons.mpr ⟨dfn hK (f := 351) (i := 60) rfl (by decide) (by kernel_rfl) s_opLDY (binds2 rfl fun _ _ => by kernel_rfl), (List.forall_mem_cons.mpr ⟨dfn hK (f := 358) (i := 61) rfl (by decide) (by kernel_rfl) s_opLDX (binds2 rfl fun _ _ => by kernel_rfl), (List.forall_mem_cons.mpr ⟨dfn hK (f := 1149) (i := 174) rfl (by decide) (by kernel_rfl) s_inst_0xbd (binds1 rfl fun _ => by kernel_rfl), (List.forall_mem_cons.mpr ⟨dfn hK (f := 855) (i := 132) rfl (by decide) (by kernel_rfl) s_inst_0x79 (binds1 rfl fun _ => by kernel_rfl), (List.forall_mem_cons.mpr ⟨dfn hK (f := 995) (i := 152) rfl (by decide) (by kernel_rfl) s_inst_0x9d (binds1 rfl fun _ => by kernel_rfl), (List.forall_mem_cons.mpr ⟨dfn hK (f := 1408) (i := 211) rfl (by decide) (by kernel_rfl) s_inst_0xf9 (binds1 rfl fun _ => by kernel_rfl), (List.forall_mem_cons.mpr ⟨dfn hK (f := 1275) (i := 192) rfl (by decide) (by kernel_rfl) s_inst_0xd9 (binds1 rfl fun _ => by kernel_rfl), (List.forall_mem_cons.mpr ⟨dfn hK (f := 484) (i := 79) rfl (by decide) (by kernel_rfl) s_inst_0x1e (binds1 rfl fun _ => by kernel_rfl), (List.forall_mem_cons.mpr ⟨dfn hK (f := 617) (i := 98) rfl (by decide) (by kernel_rfl) s_inst_0x3e (binds1 rfl fun _ => by kernel_rfl), (List.forall_mem_cons.mpr ⟨dfn hK (f := 743) (i := 116) rfl (by decide) (by kernel_rfl) s_inst_0x5e (binds1 rfl fun _ => by kernel_rfl), (List.forall_mem_cons.mpr ⟨dfn hK (f := 869) (i := 134) rfl (by decide) (by kernel_rfl) s_inst_0x7e (binds1 rfl fun _ => by kernel_rfl), (List.forall_mem_cons.mpr ⟨dfn hK (f := 652) (i := 103) rfl (by decide) (by kernel_rfl) s_inst_0x48 (binds1 rfl fun _ => by kernel_rfl), (List.forall_mem_cons.mpr ⟨dfn hK (f := 1128) (i := 171) rfl (by decide) (by kernel_rfl) s_inst_0xb9 (binds1 rfl fun _ => by kernel_rfl), (List.forall_mem_cons.mpr ⟨dfn hK (f := 778) (i := 121) rfl (by decide) (by kernel_rfl) s_inst_0x68 (binds1 rfl fun _ => by kernel_rfl), (List.forall_mem_cons.mpr ⟨dfn hK (f := 981) (i := 150) rfl (by decide) (by kernel_rfl) s_inst_0x99 (binds1 rfl fun _ => by kernel_rfl), (List.forall_mem_cons.mpr ⟨dfn hK (f := 463) (i := 76) rfl (by decide) (by kernel_rfl) s_inst_0x18 (binds1 rfl fun _ => by kernel_rfl), (List.forall_mem_cons.mpr ⟨dfn hK (f := 596) (i := 95) rfl (by decide) (by kernel_rfl) s_inst_0x38 (binds1 rfl fun _ => by kernel_rfl), (List.forall_mem_cons.mpr ⟨dfn hK (f := 750) (i := 117) rfl (by decide) (by kernel_rfl) s_inst_0x60 (binds1 rfl fun _ => by kernel_rfl), (List.forall_mem_cons.mpr ⟨dfn hK (f := 1016) (i := 155) rfl (by decide) (by kernel_rfl) s_inst_0xa2 (binds1 rfl fun _ => by kernel_rfl), (List.forall_mem_cons.mpr ⟨dfn hK (f := 1002) (i := 153) rfl (by decide) (by kernel_rfl) s_inst_0xa0 (binds1 rfl fun _ => by kernel_rfl), (List.forall_mem_cons.mpr ⟨dfn hK (f := 491) (i := 80) rfl (by decide) (by kernel_rfl) s_inst_0x20 (binds1 rfl fun _ => by kernel_rfl), (List.forall_mem_cons.mpr ⟨dfn hK (f := 939) (i := 144) rfl (by decide) (by kernel_rfl) s_inst_0x90 (binds1 rfl fun _ => by kernel_rfl), (List.forall_mem_cons.mpr ⟨dfn hK (f := 1086) (i := 165) rfl (by decide) (by kernel_rfl) s_inst_0xb0 (binds1 rfl fun _ => by kernel_rfl), (List.forall_mem_cons.mpr ⟨dfn hK (f := 1366) (i := 205) rfl (by decide) (by kernel_rfl) s_inst_0xee (binds1 rfl fun _ => by kernel_rfl), (List.forall_mem_cons.mpr ⟨dfn hK (f := 1051) (i := 160) rfl (by decide) (by kernel_rfl) s_inst_0xa9 (binds1 rfl fun _ => by kernel_rfl), (List.forall_mem_cons.mpr ⟨dfn hK (f := 925) (i := 142) rfl (by decide) (by kernel_rfl) s_inst_0x8d (binds1 rfl fun _ => by kernel_rfl), (List.forall_mem_cons.mpr ⟨dfn hK (f := 673) (i := 106) rfl (by decide) (by kernel_rfl) s_inst_0x4c (binds1 rfl fun _ => by kernel_rfl), (List.forall_mem_cons.mpr ⟨dfn hK (f := 1338) (i := 201) rfl (by decide) (by kernel_rfl) s_inst_0xe9 (binds1 rfl fun _ => by kernel_rfl), (List.forall_mem_cons.mpr ⟨dfn hK (f := 1373) (i := 206) rfl (by decide) (by kernel_rfl) s_inst_0xf0 (binds1 rfl fun _ => by kernel_rfl), (fun _ h => (nomatch h))⟩)⟩)⟩)⟩)⟩)⟩)⟩)⟩)⟩)⟩)⟩)⟩)⟩)⟩)⟩)⟩)⟩)⟩)⟩)⟩)⟩)⟩)⟩)⟩)⟩)⟩)⟩)⟩)⟩)⟩)⟩)⟩)⟩)⟩)⟩)⟩)⟩)⟩)⟩)⟩)⟩)⟩)⟩)⟩)⟩)⟩)⟩)⟩)⟩)⟩)⟩)⟩)⟩)⟩)⟩)⟩)⟩)⟩)
theorem defsL : ∀ p ∈ T1L, DefOk G p.1 p.2.1 p.2.2 := by
  unfold T1L
  refine List.forall_mem_cons.mpr ⟨d__law_plan hK, ?_⟩
  refine List.forall_mem_cons.mpr ⟨d__law_run hK, ?_⟩
  refine List.forall_mem_cons.mpr ⟨d__law_compile hK, ?_⟩
  exact defs7 hK
theorem k_dflt : ∃ o t n, (KK w).lookup 29 = some o ∧ o.data = .seq #[.none, .int 0 t] n := by
  have h : (match (KK w).lookup 29 with | some ⟨_, _, .seq vs _, _⟩ => dfltB vs.toList | _ => false) = true := by kernel_rfl
  split at h
  · rename_i c dd vs n sl ho
    obtain ⟨l⟩ := vs
    obtain ⟨t, e⟩ := dfltB_ex h
    subst e
    exact ⟨_, t, n, ho, rfl⟩
  · cases h
theorem init_ok (hC : G.C = CA) : InitOk G where
  D := mok_fn (by kernel_rfl) (by rw [hK]; exact obj_at w (f := 36) (i := 15) (getN_mem rfl)) (by rw [hK]; exact code_at w (f := 36) (i := 15) (getN_mem rfl))
  O := ⟨by rw [hK, hC]; kernel_rfl, by rw [hK, hC]; kernel_rfl⟩
  i := by rw [hK, hC]; kernel_rfl
  f := by rw [hK]; kernel_rfl
  g := by rw [hK, hC]; kernel_rfl
  b := fun s v vs hk hv => by
    obtain ⟨o29, t29, n29, d1, d2⟩ := k_dflt hK
    rw [hK] at hk
    obtain ⟨a, b, rfl⟩ := len2 (Nat.succ.inj hv)
    exact BindsTo.of_defaults rfl (hk _ _ d1) d2 rfl rfl
end
theorem prom : RL.row.toRowW.promised := by w_witness2
/-- The plain claim. -/
noncomputable def LawOk : Prop := ∀ ns : List Int, ns.length ≤ 63 → w_law_0 (callsOf T1L 40) ⟨[(153, .p (.raw (ns.map .int)))], []⟩ fun fl _ => fl = .ret (.p (.bool true))
end
end VE
namespace VE
open M6
noncomputable section
theorem cells_is (L : Addr) : cellsFrom (L + 1) dL.scope.names [] = [(nm 145, L + 1 + 1), (nm 155, L + 1)] := by kernel_rfl
theorem cells_fil : (dL.scope.names.filter fun y => y.2 == .cell).map (·.1) = [nm 155, nm 145] := by kernel_rfl
theorem cells_in (n : Nat) (h : dL.scope.names.lookup (nm n) = some .cell) : n ∈ [145, 155] := by
  have h1 : nm n ∈ (dL.scope.names.filter fun y => y.2 == .cell).map (·.1) := List.mem_map.mpr ⟨(nm n, .cell), List.mem_filter.mpr ⟨PySem.mem_of_lookup h, rfl⟩, rfl⟩
  rw [cells_fil] at h1
  simp only [List.mem_cons, List.not_mem_nil, or_false] at h1
  rcases h1 with h1 | h1 <;> rw [nm_ok.inj _ _ h1] <;> simp
theorem k_c1 : dL.scope.names.lookup (nm 145) = some .cell := by kernel_rfl
theorem k_c2 : dL.scope.names.lookup (nm 155) = some .cell := by kernel_rfl
theorem k_l : dL.scope.names.lookup (nm 153) = some .local := by kernel_rfl
theorem hT1 {G : Gl nm Z1} {w : World} (hK : G.K = KK w) : ∀ f ns b, getN f T1 = some (ns, b) → DefOk G f ns b := fun f ns b h => defs7 hK (f, ns, b) (getN_mem h)
theorem hT1L {G : Gl nm Z1} {w : World} (hK : G.K = KK w) : ∀ f ns b, getN f T1L = some (ns, b) → DefOk G f ns b := fun f ns b h => defsL hK (f, ns, b) (getN_mem h)
set_option maxHeartbeats 4000000 in
theorem walk_of (H : LawOk) : WalkO qq loo (fun _ _ => True) YP RL.row.toRowW dL [] fun f vs => PySem.call f vs := by
  w_on
  intro w s₀ s₁ mg mb G Y fa o pm cd doc dV kV ho hd hcd hD hmg hg args vals as hpre hlay hrd hwl hlo
  refine Ground.open G ?_
  intro T B D TE TW
  wrow_args hpre hlay hrd hwl hlo
  rename_i ns _ _ _ _ _ _ _ y vs _ hL _ _ _ hI _ hcond _
  refine enter_call ?_
  w_top on
  refine codeAny_mono ?_ (fun _ _ g => GoodW.toG g)
  have he := Dflts.none hD rfl; subst he
  have hlen : ns.length ≤ 63 := by omega
  refine codeAny_call_cells (binds := [(nm 153, .ref y)]) (by decide) ho hd (Top.nolimit T) hcd rfl (by kernel_rfl) rfl (fun x hx => ?_) (fun s₂ X => ?_) rfl rfl (by kernel_rfl)
  · cases hx with
    | head => exact .inl k_l
    | tail _ hx => cases hx
  obtain ⟨h₁, tk, rfl, _⟩ := X.done
  let g : Gl nm Z1 := ⟨nm_ok, RL.row.prog, w, KK w, qq, looseW qq loo, ExcName.means s₀.heap, mg, mb, s₁.os, s₁.heap, CA, kk_in Y, stc_ok w⟩
  let env : Env := { scope := dL.scope, locals := s₁.heap.objs.size, globals := mainGlobals, cells := cellsFrom (s₁.heap.objs.size + 1) dL.scope.names [], qual := dL.name ++ ".<locals>.", func := some fa, code := cd, frame := some s₁.heap.objs.size, builtins := builtinsNs }
  let Φ : Cx g dL.scope := { A := callerA.deeper env, h₀ := s₁.heap, L := s₁.heap.objs.size, cells := cellsFrom (s₁.heap.objs.size + 1) dL.scope.names [], qual := dL.name ++ ".<locals>.", func := some fa, code := cd, frame := some s₁.heap.objs.size, cv := [(145, s₁.heap.objs.size + 1 + 1), (155, s₁.heap.objs.size + 1)], X := fun _ _ e => e, T := T, kind := by kernel_rfl, hh := rfl, un := (by decide : callerA.units + 3 ≤ 3 * (callerA.depth + 1) + 4), dp := (by decide : callerA.depth + 1 ≤ 1000), cvnd := (by decide : [145, 155].Nodup), lowd := fun _ => (by decide : callerA.depth + 1 ≤ 400), cvin := fun _ n e => cells_in n e }
  obtain ⟨cells, Nw, CA'⟩ := Cl.news (h₀ := s₁.heap) (h := h₁) (L := s₁.heap.objs.size) (Nat.le_refl _) (cs := cellsFrom (s₁.heap.objs.size + 1) dL.scope.names []) (cm := bindC env.kindOf [(nm 153, .ref y)] fun _ => none) (fun n c hm => ⟨X.cell n c (by
    rw [cells_is] at hm
    show (cellsFrom (s₁.heap.objs.size + 1) dL.scope.names []).lookup n = some c
    rw [cells_is]
    simp only [List.mem_cons, List.not_mem_nil, or_false, Prod.mk.injEq] at hm
    rcases hm with ⟨rfl, rfl⟩ | ⟨rfl, rfl⟩
    · rfl
    · have : (nm 155 == nm 145) = false := beq_eq_false_iff_ne.mpr fun e => absurd (nm_ok.inj _ _ e) (by decide)
      simp only [List.lookup, this, beq_self_eq_true]), X.above n c hm⟩)
  rw [cells_is] at CA'
  obtain ⟨o1, o2, rfl, d1, d2⟩ := CA'.two
  have S : SimX Φ ⟨[], []⟩ ⟨[(153, .p (.raw (ns.map .int)))], []⟩ [] { s₁ with heap := h₁, toks := tk } := by
    refine ⟨_, [], [(s₁.heap.objs.size + 1 + 1, o1), (s₁.heap.objs.size + 1, o2)], ⟨X.toInCall.ns, X.toInCall.keep, X.toInCall.fresh⟩, ?_, ?_, .nil, ?_, ?_, ?_, rfl, hg⟩
    · simpa using Nw
    · show [s₁.heap.objs.size + 1 + 1, s₁.heap.objs.size + 1].Nodup
      simp
    · exact .cons d1 (fun v e => by cases e) (.cons d2 (fun v e => by cases e) .nil)
    · intro k v e
      simp only [getN] at e
      cases hk : Nat.beq k 153 with
      | false => rw [hk] at e; cases e
      | true =>
        rw [hk] at e
        have := Nat.eq_of_beq_eq_true hk
        subst this
        cases e
        obtain ⟨oy, h1, h2, n, h3⟩ := hL
        refine .loc (.ref y) k_l ?_ (.p (.raw (.inr h1) h2 h3 (PRepL.of_ints hI) .nil))
        show bindL _ [(nm 153, Value.ref y)] _ (nm 153) = _
        have k2 : (callEnvC { docDef dL.name dL.params dL.body dL.scope pm cd doc with defaults := Value.none, kwdefaults := kV } s₁.heap.objs.size fa).kindOf (nm 153) = some .local := k_l
        simp only [bindL, k2, if_true]
    · intro k c hm
      simp only [Φ, List.mem_cons, List.not_mem_nil, or_false, Prod.mk.injEq] at hm
      rcases hm with ⟨rfl, rfl⟩ | ⟨rfl, rfl⟩
      · exact ⟨.inl k_c1, by show (cellsFrom (s₁.heap.objs.size + 1) dL.scope.names []).lookup (nm 145) = _; rw [cells_is]; simp only [List.lookup, beq_self_eq_true]⟩
      · refine ⟨.inl k_c2, ?_⟩
        show (cellsFrom (s₁.heap.objs.size + 1) dL.scope.names []).lookup (nm 155) = _
        rw [cells_is]
        have : (nm 155 == nm 145) = false := beq_eq_false_iff_ne.mpr fun e => absurd (nm_ok.inj _ _ e) (by decide)
        simp only [List.lookup, this, beq_self_eq_true]
  have key := s_law_0 (G := g) (hT1 rfl) (init_ok rfl rfl) Φ (callsOf T1L 40) (callsOk (hT1L rfl) 40 _ (by show callerA.depth + 1 + 3 + 4 * 40 < 1000; decide)) _ _ [] _ _ S (H ns hlen)
  refine wpAny_mono key (fun f s' y => ?_) fun _ _ x => x.elim
  obtain ⟨W', a, τ', le, r, S', q⟩ := y
  subst q
  cases r with
  | ret r =>
    cases r with
    | p r =>
      cases r
      obtain ⟨m', n1, n2, F', Nw', nd', H', C', L', cv', o', g'⟩ := S'
      exact goodW_bool F' g' (fun cls => rfl) (by kernel_rfl) o'
theorem claim_of (H : LawOk) : RL.Holds := holds_of_walk prom (walk_of H)
end
end VE
namespace VE
open M6
section
variable {s : List PV} {sg : List Int} {tot : Int} {base : Nat} {H : Nat → Nat}
theorem s10 {u131 u148 u166 : VV} {stI : Int} (e : stI = ((512 + (sbU base 6).length : Nat) : Int)) (hb : 1265 ≤ base) (hb2 : base ≤ 1279) (hsg : 0 < sg.length) (hsg2 : sg.length ≤ 9) (h0 : H 4 = 0) (hH : Hok H) :
    w_law_10 (callsOf T1L 40) ⟨loc8 s (.p (.lst (il sg))) tot base [(131, u131), (148, u148), (166, u166), (157, I stI)], [.list (ml 5 H), .list (octs base), .list (nv (sbU base 6)), .list (nv (clU base 6))]⟩ QQ := by
  subst e
  unfold w_law_10
  refine And.intro (szL rfl) ?_
  rw [show clU base 6 = clL1 from rfl]
  exact s11 hb hb2 hsg hsg2 h0 hH rfl rfl
theorem s9 {u131 u148 u166 : VV} (hb : 1265 ≤ base) (hb2 : base ≤ 1279) (hsg : 0 < sg.length) (hsg2 : sg.length ≤ 9) (h0 : H 4 = 0) (hH : Hok H) :
    w_law_9 (callsOf T1L 40) ⟨loc8 s (.p (.lst (il sg))) tot base [(131, u131), (148, u148), (166, u166)], [.list (ml 5 H), .list (octs base), .list (nv (sbU base 6)), .list (nv (clU base 6))]⟩ QQ := by
  unfold w_law_9
  refine Exists.intro _ (And.intro rfl (And.intro (smallN (by rw [nv_len]; have := sb_len base 6 (by decide); (clear h0 hb hb2 hsg hsg2; lia))) ?_))
  exact s10 (by rw [nv_len]; exact c512) hb hb2 hsg hsg2 h0 hH
theorem s8 (hb : 1265 ≤ base) (hb2 : base ≤ 1279) (hsg : 0 < sg.length) (hsg2 : sg.length ≤ 9) (h0 : H 4 = 0) (hH : Hok H) :
    w_law_8 (callsOf T1L 40) ⟨loc8 s (.p (.lst (il sg))) tot base [], [.list (ml 5 H), .list (octs base), .list [], .list []]⟩ QQ := by
  rw [w8_eq]
  refine And.intro (rng_ok (n := 6) (by decide)) ?_
  refine forW_ind (fun k τ => k ≤ 6 ∧ ∃ tl, (tl = [] ∧ k = 0 ∨ ∃ a u w, tl = [(131, a), (148, u), (166, w)]) ∧ τ = ⟨loc8 s (.p (.lst (il sg))) tot base tl, [.list (ml 5 H), .list (octs base), .list (nv (sbU base k)), .list (nv (clU base k))]⟩) ⟨by decide, [], .inl ⟨rfl, rfl⟩, rfl⟩ ?_ ?_
  · rintro k v τ R hv ⟨hk6, tl, htl, rfl⟩ hR
    obtain ⟨hk, rfl⟩ := range_at (n := 6) hv
    have hR' : ∀ u w, R ⟨loc8 s (.p (.lst (il sg))) tot base ((131, I (k : Int)) :: [(148, u), (166, w)]), [.list (ml 5 H), .list (octs base), .list (nv (sbU base (k + 1))), .list (nv (clU base (k + 1)))]⟩ := fun u w => hR _ ⟨by (clear h0 hb hb2 hk6 hsg hsg2 htl hv; lia), _, .inr ⟨_, u, w, rfl⟩, rfl⟩
    rcases htl with ⟨rfl, -⟩ | ⟨a, u, w, rfl⟩
    · match k, hk, hR' with
      | 0, _, h => exact kd_0 (.inl rfl) h
      | 1, _, h => exact kd_1 (.inl rfl) h
      | 2, _, h => exact kd_2 (.inl rfl) h
      | 3, _, h => exact kd_3 (.inl rfl) h
      | 4, _, h => exact kd_4 (.inl rfl) h
      | 5, _, h => exact kd_5 (.inl rfl) h
    · match k, hk, hR' with
      | 0, _, h => exact kd_0 (.inr ⟨_, _, rfl⟩) h
      | 1, _, h => exact kd_1 (.inr ⟨_, _, rfl⟩) h
      | 2, _, h => exact kd_2 (.inr ⟨_, _, rfl⟩) h
      | 3, _, h => exact kd_3 (.inr ⟨_, _, rfl⟩) h
      | 4, _, h => exact kd_4 (.inr ⟨_, _, rfl⟩) h
      | 5, _, h => exact kd_5 (.inr ⟨_, _, rfl⟩) h
  · rintro τ ⟨-, tl, htl, rfl⟩
    rcases htl with ⟨-, h6⟩ | ⟨a, u, w, rfl⟩
    · exact absurd h6 (by decide)
    · exact s9 hb hb2 hsg hsg2 h0 hH
theorem s7 (hb : 1265 ≤ base) (hb2 : base ≤ 1279) (hsg : 0 < sg.length) (hsg2 : sg.length ≤ 9) (h0 : H 4 = 0) (hH : Hok H) :
    w_law_7 (callsOf T1L 40) ⟨(153, .p (.raw s)) :: (127, .p (.lst (il sg))) :: (155, I tot) :: (137, .ref 0) :: (145, I (base : Int)) :: (156, .ref 1) :: (143, .ref 2) :: [], [.list (ml 5 H), .list (octs base), .list []]⟩ QQ := by
  unfold w_law_7
  refine And.intro (szL rfl) ?_
  exact s8 hb hb2 hsg hsg2 h0 hH
theorem s6 (hb : 1265 ≤ base) (hb2 : base ≤ 1279) (hsg : 0 < sg.length) (hsg2 : sg.length ≤ 9) (h0 : H 4 = 0) (hH : Hok H) :
    w_law_6 (callsOf T1L 40) ⟨(153, .p (.raw s)) :: (127, .p (.lst (il sg))) :: (155, I tot) :: (137, .ref 0) :: (145, I (base : Int)) :: (156, .ref 1) :: [], [.list (ml 5 H), .list (octs base)]⟩ QQ := by
  unfold w_law_6
  refine And.intro (szL rfl) ?_
  exact s7 hb hb2 hsg hsg2 h0 hH
noncomputable def ocF (base : Nat) (v : PV) : PV := match v with
  | .int j => .lst [.int (Int.fmod ((base : Int) + j) 256), .int (Int.fdiv ((base : Int) + j) 256)]
  | v => v
theorem s5 (hb : 1265 ≤ base) (hb2 : base ≤ 1279) (hsg : 0 < sg.length) (hsg2 : sg.length ≤ 9) (h0 : H 4 = 0) (hH : Hok H) :
    w_law_5 (callsOf T1L 40) ⟨(153, .p (.raw s)) :: (127, .p (.lst (il sg))) :: (155, I tot) :: (137, .ref 0) :: (145, I (base : Int)) :: [], [.list (ml 5 H)]⟩ QQ := by
  unfold w_law_5
  refine And.intro (rng_ok (n := 4) (by decide)) ?_
  refine And.intro (by decide) ?_
  refine compW_ind (ocF base) _ [] ?_ ?_
  · intro v hv R hR
    obtain ⟨i, _, rfl⟩ := List.mem_map.mp hv
    refine And.intro (by decide) ?_
    refine And.intro fd256 ?_
    refine And.intro (szL rfl) ?_
    exact And.intro rfl hR
  have e : [] ++ (rangeL 0 4).map (ocF base) = octs base := by
    show [PV.lst [.int (Int.fmod ((base : Int) + 0) 256), .int (Int.fdiv ((base : Int) + 0) 256)], .lst [.int (Int.fmod ((base : Int) + 1) 256), .int (Int.fdiv ((base : Int) + 1) 256)], .lst [.int (Int.fmod ((base : Int) + 2) 256), .int (Int.fdiv ((base : Int) + 2) 256)], .lst [.int (Int.fmod ((base : Int) + 3) 256), .int (Int.fdiv ((base : Int) + 3) 256)]] = _
    rw [fm_ (z := (base : Int) + 0) (n := base + 0) rfl, fd_ (z := (base : Int) + 0) (n := base + 0) rfl, fm_ (z := (base : Int) + 1) (n := base + 1) rfl, fd_ (z := (base : Int) + 1) (n := base + 1) rfl, fm_ (z := (base : Int) + 2) (n := base + 2) rfl, fd_ (z := (base : Int) + 2) (n := base + 2) rfl, fm_ (z := (base : Int) + 3) (n := base + 3) rfl, fd_ (z := (base : Int) + 3) (n := base + 3) rfl]
    rfl
  have key : ∀ X, X = octs base → w_law_6 (callsOf T1L 40) ⟨(153, .p (.raw s)) :: (127, .p (.lst (il sg))) :: (155, I tot) :: (137, .ref 0) :: (145, I (base : Int)) :: (156, .ref 1) :: [], [.list (ml 5 H), .list X]⟩ QQ := by
    rintro _ rfl
    exact s6 hb hb2 hsg hsg2 h0 hH
  exact key _ e
theorem s4 (hsg : 0 < sg.length) (hsg2 : sg.length ≤ 9) (h0 : H 4 = 0) (hH : Hok H) :
    w_law_4 (callsOf T1L 40) ⟨(153, .p (.raw s)) :: (127, .p (.lst (il sg))) :: (155, I tot) :: (137, .ref 0) :: [], [.list (ml 5 H)]⟩ QQ := by
  unfold w_law_4
  refine And.intro (by decide) ?_
  have h1 := Int.fmod_lt_of_pos tot (show (0 : Int) < 15 by decide)
  have h2 := Int.fmod_nonneg_of_pos tot (show (0 : Int) < 15 by decide)
  have key : ∀ z : Int, z = ((1265 + (Int.fmod tot 15).toNat : Nat) : Int) → w_law_5 (callsOf T1L 40) ⟨(153, .p (.raw s)) :: (127, .p (.lst (il sg))) :: (155, I tot) :: (137, .ref 0) :: (145, I z) :: [], [.list (ml 5 H)]⟩ QQ := by
    rintro _ rfl
    exact s5 (by (clear h0 h1 h2 hsg hsg2; lia)) (by (clear h0 h2 hsg hsg2; lia)) hsg hsg2 h0 hH
  exact key _ (by (clear h0 h1 hsg hsg2; lia))
theorem s3 {X : List PV} (hX : X.length = 4) (e : X ++ [.int 0] = ml 5 H) (hsg : 0 < sg.length) (hsg2 : sg.length ≤ 9) (h0 : H 4 = 0) (hH : Hok H) :
    w_law_3 (callsOf T1L 40) ⟨(153, .p (.raw s)) :: (127, .p (.lst (il sg))) :: (155, I tot) :: (137, .ref 0) :: [], [.list X]⟩ QQ := by
  unfold w_law_3
  refine And.intro (by rw [hX]; exact szL rfl) ?_
  have key : ∀ Y, Y = ml 5 H → w_law_4 (callsOf T1L 40) ⟨(153, .p (.raw s)) :: (127, .p (.lst (il sg))) :: (155, I tot) :: (137, .ref 0) :: [], [.list Y]⟩ QQ := by
    rintro _ rfl
    exact s4 hsg hsg2 h0 hH
  exact key _ e
noncomputable def hdF (tot : Int) (v : PV) : PV := match v with
  | .tup [.int b, .int m] => .int (Int.fmod (tot * b + m) (2 ^ (32 : Int).toNat))
  | v => v
noncomputable def hdN (tot b m : Int) : Nat := (Int.fmod (tot * b + m) 4294967296).toNat
noncomputable def H0 (tot : Int) (k : Nat) : Nat := match k with
  | 0 => hdN tot 1 0
  | 1 => hdN tot 257 65535
  | 2 => hdN tot 2654435761 4294967040
  | 3 => hdN tot 40503 16777216
  | _ => 0
theorem hdN_e (tot b m : Int) : Int.fmod (tot * b + m) (2 ^ (32 : Int).toNat) = (hdN tot b m : Int) := by rw [p32]; exact (toI (by decide)).symm
theorem hdN_lt (tot b m : Int) : hdN tot b m < 4294967296 := fm_lt (n := 4294967296) (by decide)
theorem H0_ok (tot : Int) : Hok (H0 tot) := fun r hr => by
  match r, hr with
  | 0, _ => exact hdN_lt ..
  | 1, _ => exact hdN_lt ..
  | 2, _ => exact hdN_lt ..
  | 3, _ => exact hdN_lt ..
theorem s2 (hsg : 0 < sg.length) (hsg2 : sg.length ≤ 9) :
    w_law_2 (callsOf T1L 40) ⟨(153, .p (.raw s)) :: (127, .p (.lst (il sg))) :: (155, I tot) :: [], []⟩ QQ := by
  unfold w_law_2
  refine And.intro (szL rfl) ?_
  refine And.intro (szL rfl) ?_
  refine And.intro (szL rfl) ?_
  refine And.intro (szL rfl) ?_
  refine And.intro (szL rfl) ?_
  refine Exists.intro _ (And.intro rfl ?_)
  refine And.intro (by decide) ?_
  refine compW_ind (hdF tot) _ [] ?_ ?_
  · intro v hv R hR
    have hv : v ∈ [PV.tup [.int 1, .int 0], .tup [.int 257, .int 65535], .tup [.int 2654435761, .int 4294967040], .tup [.int 40503, .int 16777216]] := hv
    simp only [List.mem_cons, List.not_mem_nil, or_false] at hv
    rcases hv with rfl | rfl | rfl | rfl
    all_goals
      refine And.intro (mul_r (by decide)) ?_
      refine And.intro pow32 ?_
      refine And.intro n32 ?_
      exact And.intro rfl hR
  refine s3 (H := H0 tot) rfl ?_ hsg hsg2 rfl (H0_ok tot)
  show [PV.int (Int.fmod (tot * 1 + 0) (2 ^ (32 : Int).toNat)), .int (Int.fmod (tot * 257 + 65535) (2 ^ (32 : Int).toNat)), .int (Int.fmod (tot * 2654435761 + 4294967040) (2 ^ (32 : Int).toNat)), .int (Int.fmod (tot * 40503 + 16777216) (2 ^ (32 : Int).toNat)), .int 0] = _
  rw [hdN_e, hdN_e, hdN_e, hdN_e]
  unfold ml
  rfl
theorem s1 {ns : List Int} (hsg : 0 < sg.length) (hsg2 : sg.length ≤ 9) (hn : ns.length ≤ 63) :
    w_law_1 (callsOf T1L 40) ⟨(153, .p (.raw (il ns))) :: (127, .p (.lst (il sg))) :: [], []⟩ QQ := by
  unfold w_law_1
  have hl := il_len ns
  refine Exists.intro _ (And.intro rfl (And.intro (by rw [hl, sizeL]; (clear hl hsg hsg2; lia)) (And.intro (by decide) ?_)))
  refine Exists.intro (ns.take 8) (And.intro (congrArg some (take_il _ _)) ?_)
  exact s2 hsg hsg2
end
theorem law_ok : LawOk := by
  intro ns hn
  have hl := il_len ns
  have hz := sizeL
  have ht : ((il ns).take (Int.toNat 8)).length ≤ 8 := by rw [List.length_take]; exact Nat.min_le_left _ _
  unfold w_law_0
  refine Exists.intro (il ns) (And.intro rfl (And.intro (by (clear ht; lia)) (And.intro (by decide) ?_)))
  refine And.intro (szL rfl) ?_
  refine Exists.intro _ (Exists.intro _ (And.intro rfl (And.intro rfl (And.intro (by show _ + 1 ≤ _; (clear hl hn; lia)) ?_))))
  have key : ∀ X, X = il (ns.take 8 ++ [48]) → w_law_1 (callsOf T1L 40) ⟨(153, .p (.raw (il ns))) :: (127, .p (.lst X)) :: [], []⟩ QQ := by
    rintro _ rfl
    exact s1 (by rw [List.length_append]; exact Nat.succ_pos _) (by rw [List.length_append, List.length_take]; show _ + 1 ≤ 9; (clear hl hn ht hz; lia)) hn
  exact key _ (by rw [take_il]; unfold il; rw [List.map_append]; rfl)
theorem holds01 : RL.Holds := claim_of law_ok
end VE
theorem PySem.Challenge.cw_me0006_01_holds : PySem.Challenge.rw_me0006_01.Holds :=
  VE.holds01
