import PyProof.Rows.All
import Wide.All
import OpenK.AllK
import Wide.FinOn
import PySem.Challenge.RW_me0006_07
open PySem PySem.W PyProof.Rows PySem.Calls
set_option Elab.async false
set_option linter.unusedVariables false
set_option linter.unusedSimpArgs false
set_option maxRecDepth 100000
set_option genSizeOfSpec false
set_option compiler.extract_closed false
set_option maxHeartbeats 16000000
namespace VE
/-- Values without references to objects that change. -/
inductive PV where
  | int (i : Int)
  | bool (b : Bool)
  | none
  | any
  | fn (a : Addr)
  | tup (l : List PV)
  | lst (l : List PV)
  | raw (l : List PV)
inductive VV where
  | p (v : PV)
  | ref (k : Nat)
  | meth (f : Addr) (k : Nat)
inductive VO where
  | list (l : List PV)
  | inst (fs : List (Nat × VV))
structure VS where
  loc : List (Nat × VV)
  hp : List VO
noncomputable def getN {α : Type} (n : Nat) : List (Nat × α) → Option α
  | [] => .none
  | (k, v) :: r => match Nat.beq n k with
    | true => some v
    | false => getN n r
noncomputable def putN {α : Type} (n : Nat) (v : α) : List (Nat × α) → List (Nat × α)
  | [] => [(n, v)]
  | (k, u) :: r => match Nat.beq n k with
    | true => (k, v) :: r
    | false => (k, u) :: putN n v r
/-- Values as the heap holds them. -/
inductive PRepL (F : Addr → Obj → Prop) : List PV → List Value → Prop
  | nil : PRepL F [] []
  | int {l vs} (i : Int) (t : Tok) : PRepL F l vs → PRepL F (.int i :: l) (.int i t :: vs)
  | bool {l vs} (b : Bool) : PRepL F l vs → PRepL F (.bool b :: l) (.bool b :: vs)
  | none {l vs} : PRepL F l vs → PRepL F (.none :: l) (.none :: vs)
  | any {l vs} {v : Value} : handedIn v = true → PRepL F l vs → PRepL F (.any :: l) (v :: vs)
  | fn {l vs} (a : Addr) : PRepL F l vs → PRepL F (.fn a :: l) (.ref a :: vs)
  | tup {l vs} {a : Addr} {ws : List Value} {n : Nat} {l' : List PV} : F a { cls := .type "tuple", data := .seq ws.toArray n } → PRepL F l' ws → PRepL F l vs → PRepL F (.tup l' :: l) (.ref a :: vs)
  | lst {l vs} {a : Addr} {ws : List Value} {n : Nat} {l' : List PV} : F a (listOf ws.toArray n) → PRepL F l' ws → PRepL F l vs → PRepL F (.lst l' :: l) (.ref a :: vs)
  | raw {l vs} {a : Addr} {o : Obj} {ws : List Value} {n : Nat} {l' : List PV} : F a o → o.cls = .type "list" → o.data = .seq ws.toArray n → PRepL F l' ws → PRepL F l vs → PRepL F (.raw l' :: l) (.ref a :: vs)
noncomputable abbrev PRep (F : Addr → Obj → Prop) (v : PV) (c : Value) : Prop := PRepL F [v] [c]
structure NOk (N : Nat → Str) : Prop where
  inj : ∀ i j, N i = N j → i = j
  dbg : ∀ n, (N n == ("__debug__" : Str)) = false
  cd : ∀ n, (N n == ("__classdict__" : Str)) = false
/-- What the class's own table says of one name. -/
structure ClsOk (K : Frag) (C : Addr) : Prop where
  get : plainGet K C "" = true
  has : hasDictIn K C = true
  set : findIn K (.ref C) "__setattr__" = some (some (.builtin "object.__setattr__"))
  over : plainOver K C = true
structure FieldOk (K : Frag) (C : Addr) (n : Str) : Prop where
  find : findIn K (.ref C) n = some none
  taker : takerIn K C n = some none
structure ClsInt (K : Frag) (C : Addr) (n : Str) (i : Int) : Prop where
  ex : ∃ t, findIn K (.ref C) n = some (some (.int i t)) ∧ specialIn K (.int i t) "__get__" = some none
  copied : copiedNames.contains n = false
structure ClsRef (K : Frag) (C : Addr) (n : Str) (a : Addr) : Prop where
  find : findIn K (.ref C) n = some (some (.ref a))
  get : specialIn K (.ref a) "__get__" = some none
  copied : copiedNames.contains n = false
structure ClsFn (K : Frag) (C : Addr) (n : Str) (f : Addr) : Prop where
  find : findIn K (.ref C) n = some (some (.ref f))
  fn : isFn K (.ref f) = true
  get : specialIn K (.ref f) "__get__" = some (some (.builtin "function.__get__"))
  takes : takesIn K (.ref f) = some false
  copied : copiedNames.contains n = false
  keep : keepIn K (.ref f) = true
/-- What is known of the class: its fields, numbers, functions, tables. -/
structure Stc where
  topn : Nat
  flds : List Nat
  nums : List (Nat × Int)
  fns : List (Nat × Addr)
  globs : List (Nat × Addr)
  bis : List Nat
  tabs : List (Nat × List PV)
structure TabOk (K : Frag) (C : Addr) (n : Str) (l : List PV) (a : Addr) (o : Obj) (ws : List Value) (k : Nat) : Prop where
  ref : ClsRef K C n a
  at_ : K.lookup a = some o
  cls : o.cls = .type "list"
  data : o.data = .seq ws.toArray k
  rep : PRepL (fun a o => K.lookup a = some o) l ws
structure StcOk (N : Nat → Str) (K : Frag) (C : Addr) (S : Stc) : Prop where
  cls : ClsOk K C
  fld : ∀ n, n ∈ S.flds → FieldOk K C (N n)
  int : ∀ n i, getN n S.nums = some i → ClsInt K C (N n) i
  fn : ∀ n f, (n, f) ∈ S.fns → ClsFn K C (N n) f ∧ fnIn K f = true
  glob : ∀ n f, (n, f) ∈ S.globs → nsIn K mainGlobals (N n) = some (some (.ref f)) ∧ keepIn K (.ref f) = true
  bi : ∀ n, n ∈ S.bis → nsIn K mainGlobals (N n) = some none
  tab : ∀ n l, getN n S.tabs = some l → ∃ a o ws k, TabOk K C (N n) l a o ws k
variable {N : Nat → Str} {Z : Stc}
/-- What no frame changes. -/
structure Gl (N : Nat → Str) (Z : Stc) where
  hN : NOk N
  prog : Program
  w : World
  K : Frag
  p : Program
  loose : List Str
  mean : ExcName → Option Value
  mg : Str → Option Value
  mb : Str → Option Value
  os : OsState
  h : Heap
  C : Addr
  KX : K.In h
  SO : StcOk N K C Z
/-- Where the walk's objects lie. -/
structure Wd where
  rho : List (Addr × Addr)
  fro : List (Addr × Obj)
noncomputable def FW (G : Gl N Z) (W : Wd) (a : Addr) (o : Obj) : Prop := (a, o) ∈ W.fro ∨ G.h.get? a = some o
inductive VRep (G : Gl N Z) (W : Wd) : VV → Value → Prop
  | p {v : PV} {c : Value} : PRep (FW G W) v c → VRep G W (.p v) c
  | ref {k : Nat} {a d : Addr} : W.rho[k]? = some (a, d) → VRep G W (.ref k) (.ref a)
  | meth {f q : Addr} {k : Nat} {a d : Addr} : fnIn G.K f = true → W.rho[k]? = some (a, d) → (q, methodObj (.ref f) (.ref a)) ∈ W.fro → VRep G W (.meth f k) (.ref q)
inductive VRepL (G : Gl N Z) (W : Wd) : List VV → List Value → Prop
  | nil : VRepL G W [] []
  | cons {v c l vs} : VRep G W v c → VRepL G W l vs → VRepL G W (v :: l) (c :: vs)
structure Wd.le (W W' : Wd) : Prop where
  rho : W.rho <+: W'.rho
  fro : W.fro ⊆ W'.fro
noncomputable def FRep (G : Gl N Z) (W : Wd) (fs : List (Nat × VV)) (es : List DictEntry) : Prop :=
  es.length = fs.length ∧ (es.any (·.refKey)) = false ∧
  ∀ k, match getN k fs with
    | some v => ∃ c, getL (N k) es = some (some c) ∧ VRep G W v c
    | none => getL (N k) es = some none
/-- The walk's objects and what the heap holds for them. -/
inductive HR (G : Gl N Z) (W : Wd) : List VO → List (Addr × Addr) → List (Addr × Obj) → Prop
  | nil : HR G W [] [] []
  | list {os ρ ns a d l vs n} : PRepL (FW G W) l vs → HR G W os ρ ns → HR G W (.list l :: os) ((a, d) :: ρ) ((a, listOf vs.toArray n) :: ns)
  | inst {os ρ ns a d fs es n} : FRep G W fs es → HR G W os ρ ns → HR G W (.inst fs :: os) ((a, d) :: ρ) ((a, instObj G.C d) :: (d, dictOf es n) :: ns)
/-- The frame's cells. -/
inductive CR (G : Gl N Z) (W : Wd) (loc : List (Nat × VV)) : List (Nat × Addr) → List (Addr × Obj) → Prop
  | nil : CR G W loc [] []
  | cons {k c o x cs ns} : o.data = .cell x → (∀ v, getN k loc = some v → ∃ u, x = some u ∧ VRep G W v u) → CR G W loc cs ns → CR G W loc ((k, c) :: cs) ((c, o) :: ns)
/-- The frame that the walk stands in. -/
structure Cx (G : Gl N Z) (cs : Scope) where
  A : Around
  h₀ : Heap
  L : Addr
  cells : List (Str × Addr)
  qual : Str
  func : Option Addr
  code : Value
  frame : Option Addr
  cv : List (Nat × Addr)
  X : ∀ a o, G.h.get? a = some o → h₀.get? a = some o
  T : Top G.p G.loose G.mean G.mg G.mb h₀
  kind : cs.kind = .function
  hh : A.handled = none
  un : A.units ≤ 3 * A.depth + 4
  dp : A.depth ≤ 1000
  cvnd : (cv.map (·.1)).Nodup
  lowd : cs.names.lookup (N Z.topn) = some .local → A.depth ≤ 400
  cvin : cs.names.lookup (N Z.topn) = some .local → ∀ n, cs.names.lookup (N n) = some .cell → n ∈ cv.map (·.1)
variable {G : Gl N Z} {cs : Scope}
noncomputable def Cx.env (Φ : Cx G cs) : Env := { scope := cs, locals := Φ.L, globals := mainGlobals, cells := Φ.cells, qual := Φ.qual, func := Φ.func, code := Φ.code, frame := Φ.frame, builtins := builtinsNs }
noncomputable abbrev Cx.M (_ : Cx G cs) : Model := model G.prog G.w
theorem Cx.K (Φ : Cx G cs) : G.K.In Φ.h₀ := fun a o e => Φ.X a o (G.KX a o e)
/-- What a name of the state stands for in the frame. -/
inductive LR (Φ : Cx G cs) (W : Wd) (m : Str → Option Value) (k : Nat) (v : VV) : Prop where
  | loc (c : Value) : cs.names.lookup (N k) = some .local → m (N k) = some c → VRep G W v c → LR Φ W m k v
  | cell : k ∈ Φ.cv.map (·.1) → LR Φ W m k v
  | fix (c : Addr) (u : Value) : (cs.names.lookup (N k) = some .cell ∨ cs.names.lookup (N k) = some .free) → Φ.cells.lookup (N k) = some c → Φ.h₀.IsCell c (some u) → VRep G W v u → LR Φ W m k v
structure SimS (Φ : Cx G cs) (W : Wd) (τ : VS) (x : List (Addr × Obj)) (s : Shared) (m : Str → Option Value) (n1 n2 : List (Addr × Obj)) : Prop where
  F : Fr Φ.h₀ Φ.L s.heap m
  Nw : News Φ.h₀ Φ.L s.heap (x ++ (n1 ++ (n2 ++ W.fro)))
  nd : ((x ++ (n1 ++ (n2 ++ W.fro))).map (·.1)).Nodup
  H : HR G W τ.hp W.rho n1
  C : CR G W τ.loc Φ.cv n2
  L : ∀ k v, getN k τ.loc = some v → LR Φ W m k v
  cv : ∀ k c, (k, c) ∈ Φ.cv → (cs.names.lookup (N k) = some .cell ∨ cs.names.lookup (N k) = some .free) ∧ Φ.cells.lookup (N k) = some c
  o : s.os = G.os
  g : s.gens = #[]
noncomputable def SimX (Φ : Cx G cs) (W : Wd) (τ : VS) (x : List (Addr × Obj)) (s : Shared) : Prop := ∃ m n1 n2, SimS Φ W τ x s m n1 n2
noncomputable abbrev Sim (Φ : Cx G cs) (W : Wd) (τ : VS) (s : Shared) : Prop := SimX Φ W τ [] s
theorem nbeq {a b : Nat} : Nat.beq a b = false ↔ a ≠ b := by
  cases h : Nat.beq a b with
  | true => simp [Nat.eq_of_beq_eq_true h]
  | false => simp [Nat.ne_of_beq_eq_false h]
theorem getN_putN {α : Type} (n : Nat) (v : α) : ∀ (fs : List (Nat × α)) (j : Nat), getN j (putN n v fs) = if j = n then some v else getN j fs
  | [], j => by
    simp only [putN, getN]
    by_cases h : j = n
    · subst h; simp
    · have : Nat.beq j n = false := nbeq.mpr h
      simp [h, this]
  | (k, u) :: r, j => by
    have ih := getN_putN n v r j
    simp only [putN]
    cases hk : Nat.beq n k with
    | true =>
      have hk := Nat.eq_of_beq_eq_true hk
      subst hk
      simp only [getN]
      by_cases h : j = n
      · subst h; simp
      · have : Nat.beq j n = false := nbeq.mpr h
        simp [h, this]
    | false =>
      have hk : n ≠ k := nbeq.mp hk
      simp only [getN]
      cases hj : Nat.beq j k with
      | true =>
        have hj := Nat.eq_of_beq_eq_true hj
        subst hj
        simp [Ne.symm hk]
      | false => exact ih
theorem getN_mem {α : Type} {n : Nat} {v : α} : ∀ {l : List (Nat × α)}, getN n l = some v → (n, v) ∈ l := by
  intro l
  induction l with
  | nil => intro h; cases h
  | cons p r ih =>
    obtain ⟨k, u⟩ := p
    intro h
    simp only [getN] at h
    cases e : Nat.beq n k with
    | true => rw [e] at h; cases h; rw [Nat.eq_of_beq_eq_true e]; exact .head _
    | false => rw [e] at h; exact .tail _ (ih h)
theorem putN_length {α : Type} (n : Nat) (v : α) : ∀ fs : List (Nat × α), (putN n v fs).length = if (getN n fs).isSome then fs.length else fs.length + 1
  | [] => rfl
  | (k, u) :: r => by
    have ih := putN_length n v r
    cases hk : Nat.beq n k with
    | true => simp [putN, getN, hk]
    | false =>
      simp only [putN, getN, hk, List.length_cons, ih]
      split <;> rfl
section
variable {F F' : Addr → Obj → Prop}
theorem PRepL.mono (k : ∀ a o, F a o → F' a o) {l : List PV} {vs : List Value} (h : PRepL F l vs) : PRepL F' l vs := by
  induction h with
  | nil => exact .nil
  | int i t _ ih => exact .int i t ih
  | bool b _ ih => exact .bool b ih
  | none _ ih => exact .none ih
  | any e _ ih => exact .any e ih
  | fn a _ ih => exact .fn a ih
  | tup e _ _ i1 i2 => exact .tup (k _ _ e) i1 i2
  | lst e _ _ i1 i2 => exact .lst (k _ _ e) i1 i2
  | raw e c d _ _ i1 i2 => exact .raw (k _ _ e) c d i1 i2
theorem PRepL.length {l : List PV} {vs : List Value} (h : PRepL F l vs) : vs.length = l.length := by
  induction h with
  | nil => rfl
  | int i t _ ih => simp [ih]
  | bool b _ ih => simp [ih]
  | none _ ih => simp [ih]
  | any e _ ih => simp [ih]
  | fn a _ ih => simp [ih]
  | tup e _ _ i1 i2 => simp [i2]
  | lst e _ _ i1 i2 => simp [i2]
  | raw e c d _ _ i1 i2 => simp [i2]
theorem PRepL.cons {v : PV} {c : Value} {l : List PV} {vs : List Value} (h : PRep F v c) (r : PRepL F l vs) : PRepL F (v :: l) (c :: vs) := by
  cases h with
  | int i t _ => exact .int i t r
  | bool b _ => exact .bool b r
  | none _ => exact .none r
  | any e _ => exact .any e r
  | fn a _ => exact .fn a r
  | tup e f _ => exact .tup e f r
  | lst e f _ => exact .lst e f r
  | raw e c d f _ => exact .raw e c d f r
theorem PRepL.uncons {v : PV} {c : Value} {l : List PV} {vs : List Value} (h : PRepL F (v :: l) (c :: vs)) : PRep F v c ∧ PRepL F l vs := by
  cases h with
  | int i t r => exact ⟨.int i t .nil, r⟩
  | bool b r => exact ⟨.bool b .nil, r⟩
  | none r => exact ⟨.none .nil, r⟩
  | any e r => exact ⟨.any e .nil, r⟩
  | fn a r => exact ⟨.fn a .nil, r⟩
  | tup e f r => exact ⟨.tup e f .nil, r⟩
  | lst e f r => exact ⟨.lst e f .nil, r⟩
  | raw e c d f r => exact ⟨.raw e c d f .nil, r⟩
theorem PRepL.app {l : List PV} {vs : List Value} {r : List PV} {ws : List Value} (h : PRepL F l vs) (k : PRepL F r ws) : PRepL F (l ++ r) (vs ++ ws) := by
  induction h with
  | nil => exact k
  | int i t _ ih => exact .int i t ih
  | bool b _ ih => exact .bool b ih
  | none _ ih => exact .none ih
  | any e _ ih => exact .any e ih
  | fn a _ ih => exact .fn a ih
  | tup e f _ i1 i2 => exact .tup e f i2
  | lst e f _ i1 i2 => exact .lst e f i2
  | raw e c d f _ i1 i2 => exact .raw e c d f i2
theorem PRepL.get : ∀ {l : List PV} {vs : List Value} {k : Nat} {v : PV}, PRepL F l vs → l[k]? = some v → ∃ c, vs[k]? = some c ∧ PRep F v c
  | [], _, k, v, _, e => by simp at e
  | a :: l, [], k, v, h, _ => by have := h.length; simp at this
  | a :: l, c :: vs, 0, v, h, e => by
    simp only [List.getElem?_cons_zero, Option.some.injEq] at e
    subst e
    exact ⟨c, rfl, h.uncons.1⟩
  | a :: l, c :: vs, k + 1, v, h, e => by
    simp only [List.getElem?_cons_succ] at e ⊢
    exact h.uncons.2.get e
theorem PRepL.take : ∀ (n : Nat) {l : List PV} {vs : List Value}, PRepL F l vs → PRepL F (l.take n) (vs.take n)
  | 0, _, _, _ => by simpa using .nil
  | n + 1, [], [], _ => by simpa using .nil
  | n + 1, [], _ :: _, h => by have := h.length; simp at this
  | n + 1, _ :: _, [], h => by have := h.length; simp at this
  | n + 1, a :: l, c :: vs, h => by simpa using PRepL.cons h.uncons.1 (h.uncons.2.take n)
theorem PRepL.drop : ∀ (n : Nat) {l : List PV} {vs : List Value}, PRepL F l vs → PRepL F (l.drop n) (vs.drop n)
  | 0, _, _, h => by simpa using h
  | n + 1, [], [], _ => by simpa using .nil
  | n + 1, [], _ :: _, h => by have := h.length; simp at this
  | n + 1, _ :: _, [], h => by have := h.length; simp at this
  | n + 1, a :: l, c :: vs, h => by simpa using h.uncons.2.drop n
theorem PRepL.set : ∀ (k : Nat) {l : List PV} {vs : List Value} {v : PV} {c : Value}, PRep F v c → PRepL F l vs → PRepL F (l.set k v) (vs.set k c)
  | _, [], [], _, _, _, _ => .nil
  | _, [], _ :: _, _, _, _, h => by have := h.length; simp at this
  | _, _ :: _, [], _, _, _, h => by have := h.length; simp at this
  | 0, a :: l, d :: vs, v, c, r, h => PRepL.cons r h.uncons.2
  | k + 1, a :: l, d :: vs, v, c, r, h => PRepL.cons h.uncons.1 (PRepL.set k r h.uncons.2)
theorem PRepL.ints : ∀ {l : List Int} {vs : List Value}, PRepL F (l.map .int) vs → IntsAre vs l
  | [], vs, h => by cases h; exact .nil
  | i :: l, vs, h => by
    cases h with
    | int _ t r => exact .cons i t r.ints
theorem PRepL.of_ints {l : List Int} {vs : List Value} (h : IntsAre vs l) : PRepL F (l.map .int) vs := by
  induction h with
  | nil => exact .nil
  | cons k t _ ih => exact .int k t ih
theorem PRep.handed {v : PV} {c : Value} (h : PRep F v c) : handedIn c = true := by
  cases h <;> first | rfl | assumption
end
theorem Wd.le.refl (W : Wd) : W.le W := ⟨List.prefix_refl _, fun _ h => h⟩
theorem Wd.le.trans {W W' W'' : Wd} (h : W.le W') (k : W'.le W'') : W.le W'' := ⟨h.rho.trans k.rho, fun _ x => k.fro (h.fro x)⟩
theorem Wd.le.FW {W W' : Wd} (h : W.le W') (a : Addr) (o : Obj) (f : FW G W a o) : FW G W' a o := f.elim (fun x => .inl (h.fro x)) .inr
theorem Wd.le.at {W W' : Wd} (h : W.le W') {k : Nat} {p : Addr × Addr} (e : W.rho[k]? = some p) : W'.rho[k]? = some p := by
  obtain ⟨t, ht⟩ := h.rho
  rw [← ht]
  rw [List.getElem?_append_left (List.getElem?_eq_some_iff.mp e).1]
  exact e
theorem VRep.mono {W W' : Wd} (h : W.le W') {v : VV} {c : Value} (r : VRep G W v c) : VRep G W' v c := by
  cases r with
  | p r => exact .p (r.mono h.FW)
  | ref e => exact .ref (h.at e)
  | meth g e f => exact .meth g (h.at e) (h.fro f)
theorem VRepL.mono {W W' : Wd} (h : W.le W') {v : List VV} {c : List Value} (r : VRepL G W v c) : VRepL G W' v c := by
  induction r with
  | nil => exact .nil
  | cons a _ ih => exact .cons (a.mono h) ih
theorem VRep.handed {W : Wd} {v : VV} {c : Value} (r : VRep G W v c) : handedIn c = true := by
  cases r with
  | p r => exact r.handed
  | ref e => rfl
  | meth _ _ _ => rfl
theorem FRep.mono {W W' : Wd} (h : W.le W') {fs : List (Nat × VV)} {es : List DictEntry} (r : FRep G W fs es) : FRep G W' fs es := by
  refine ⟨r.1, r.2.1, fun k => ?_⟩
  have := r.2.2 k
  cases hk : getN k fs with
  | none => rw [hk] at this; exact this
  | some v => rw [hk] at this; obtain ⟨c, e, q⟩ := this; exact ⟨c, e, q.mono h⟩
theorem HR.mono {W W' : Wd} (h : W.le W') {os ρ ns} (r : HR G W os ρ ns) : HR G W' os ρ ns := by
  induction r with
  | nil => exact .nil
  | list a _ ih => exact .list (a.mono h.FW) ih
  | inst a _ ih => exact .inst (a.mono h) ih
theorem LR.mono {Φ : Cx G cs} {W W' : Wd} (h : W.le W') {m k v} (r : LR Φ W m k v) : LR Φ W' m k v := by
  cases r with
  | loc c a b r => exact .loc c a b (r.mono h)
  | cell a => exact .cell a
  | fix c u a b d r => exact .fix c u a b d (r.mono h)
theorem CR.mono {W W' : Wd} (h : W.le W') {loc cs ns} (r : CR G W loc cs ns) : CR G W' loc cs ns := by
  induction r with
  | nil => exact .nil
  | cons e f _ ih => exact .cons e (fun v hv => let ⟨u, e, q⟩ := f v hv; ⟨u, e, q.mono h⟩) ih
end VE
namespace VE
variable {N : Nat → Str} {Z : Stc} {G : Gl N Z} {cs : Scope} {Φ : Cx G cs} {W : Wd} {τ : VS} {s : Shared} {x : List (Addr × Obj)}
theorem SimX.toks (h : SimX Φ W τ x s) (t : Nat) : SimX Φ W τ x { s with toks := t } :=
  let ⟨m, n1, n2, F, Nw, nd, H, C, L, cv, o, g⟩ := h
  ⟨m, n1, n2, F, Nw, nd, H, C, L, cv, o, g⟩
theorem SimX.base (h : SimX Φ W τ x s) : ∀ b o, Φ.h₀.get? b = some o → s.heap.get? b = some o :=
  let ⟨m, n1, n2, F, Nw, nd, H, C, L, cv, o, g⟩ := h
  F.keep
theorem SimX.K (h : SimX Φ W τ x s) : G.K.In s.heap := Φ.K.keeps h.base
theorem SimX.FW (h : SimX Φ W τ x s) {a : Addr} {o : Obj} (f : FW G W a o) : s.heap.get? a = some o := by
  rcases f with f | f
  · obtain ⟨m, n1, n2, F, Nw, _⟩ := h
    exact (Nw (a, o) (by simp [f])).1
  · exact h.base _ _ (Φ.X _ _ f)
/-- New objects of which nothing is told as yet. -/
theorem SimX.new {h' : Heap} {q : Addr} {co : Obj} {t : Nat} (h : SimX Φ W τ x s) (k : ∀ b o, s.heap.get? b = some o → h'.get? b = some o) (e : s.heap.get? q = none) (e' : h'.get? q = some co) :
    SimX Φ W τ ((q, co) :: x) { s with heap := h', toks := t } := by
  obtain ⟨m, n1, n2, F, Nw, nd, H, C, L, cv, o, g⟩ := h
  refine ⟨m, n1, n2, F.keeps k, fun p hp => ?_, ?_, H, C, L, cv, o, g⟩
  · rcases List.mem_cons.mp hp with rfl | hp
    · refine ⟨e', fun z => ?_, ?_⟩
      · obtain ⟨oL, es, ep, hL, _⟩ := F.ns
        have z : q = Φ.L := z
        rw [z, hL] at e; cases e
      · cases hq : Φ.h₀.get? q with
        | none => rfl
        | some o' => rw [F.keep _ _ hq] at e; cases e
    · exact Nw.grown k p hp
  · show (((q, co) :: (x ++ _)).map (·.1)).Nodup
    rw [List.map_cons, List.nodup_cons]
    refine ⟨fun hm => ?_, nd⟩
    obtain ⟨p, hp, e2⟩ := List.mem_map.mp hm
    rw [← show p.1 = q from e2, (Nw p hp).1] at e
    cases e
theorem SimX.newN {h' : Heap} {q : Addr} {co : Obj} {t : Nat} {m : Str → Option Value} {n1 n2 : List (Addr × Obj)} (S : SimS Φ W τ x s m n1 n2) (F' : Fr Φ.h₀ Φ.L h' m) (N' : News Φ.h₀ Φ.L h' ((q, co) :: (x ++ (n1 ++ (n2 ++ W.fro))))) (lt : ∀ p ∈ x ++ (n1 ++ (n2 ++ W.fro)), p.1 < q) :
    SimX Φ W τ ((q, co) :: x) { s with heap := h', toks := t } := by
  obtain ⟨F, Nw, nd, H, C, L, cv, o, g⟩ := S
  refine ⟨m, n1, n2, F', N', ?_, H, C, L, cv, o, g⟩
  show (((q, co) :: (x ++ _)).map (·.1)).Nodup
  rw [List.map_cons, List.nodup_cons]
  refine ⟨fun hm => ?_, nd⟩
  obtain ⟨p, hp, e2⟩ := List.mem_map.mp hm
  have := lt p hp
  rw [show p.1 = q from e2] at this
  exact Nat.lt_irrefl _ this
/-- A new object that will not change. -/
theorem SimX.freeze {q : Addr} {co : Obj} (h : SimX Φ W τ ((q, co) :: x) s) : ∃ W', W.le W' ∧ (q, co) ∈ W'.fro ∧ W'.rho = W.rho ∧ SimX Φ W' τ x s := by
  obtain ⟨m, n1, n2, F, Nw, nd, H, C, L, cv, o, g⟩ := h
  have le : W.le ⟨W.rho, (q, co) :: W.fro⟩ := ⟨List.prefix_refl _, fun _ h => .tail _ h⟩
  have pm : (((q, co) :: x) ++ (n1 ++ (n2 ++ W.fro))).Perm (x ++ (n1 ++ (n2 ++ ((q, co) :: W.fro)))) := by
    have e : x ++ (n1 ++ (n2 ++ ((q, co) :: W.fro))) = (x ++ (n1 ++ n2)) ++ (q, co) :: W.fro := by simp
    rw [e]
    refine List.Perm.trans ?_ List.perm_middle.symm
    simp
  exact ⟨_, le, .head _, rfl, m, n1, n2, F, fun p hp => Nw p (pm.symm.subset hp), ((pm.map _).nodup_iff).mp nd, H.mono le, C.mono le, fun k v e => (L k v e).mono le, cv, o, g⟩
theorem SimX.perm {x' : List (Addr × Obj)} (p : x.Perm x') (h : SimX Φ W τ x s) : SimX Φ W τ x' s := by
  obtain ⟨m, n1, n2, F, Nw, nd, H, C, L, cv, o, g⟩ := h
  have pm := List.Perm.append_right (n1 ++ (n2 ++ W.fro)) p
  exact ⟨m, n1, n2, F, fun p hp => Nw p (pm.symm.subset hp), ((pm.map _).nodup_iff).mp nd, H, C, L, cv, o, g⟩
theorem SimX.forget {q : Addr} {co : Obj} (h : SimX Φ W τ ((q, co) :: x) s) : SimX Φ W τ x s := by
  obtain ⟨m, n1, n2, F, Nw, nd, H, C, L, cv, o, g⟩ := h
  have nd : (((q, co) :: (x ++ (n1 ++ (n2 ++ W.fro)))).map (·.1)).Nodup := nd
  rw [List.map_cons, List.nodup_cons] at nd
  exact ⟨m, n1, n2, F, fun p hp => Nw p (.tail _ hp), nd.2, H, C, L, cv, o, g⟩
theorem HR.snoc_list {os ρ ns} (r : HR G W os ρ ns) {a d : Addr} {l : List PV} {vs : List Value} {n : Nat} (h : PRepL (FW G W) l vs) : HR G W (os ++ [.list l]) (ρ ++ [(a, d)]) (ns ++ [(a, listOf vs.toArray n)]) := by
  induction r with
  | nil => exact .list h .nil
  | list a _ ih => exact .list a ih
  | inst a _ ih => exact .inst a ih
theorem HR.snoc_inst {os ρ ns} (r : HR G W os ρ ns) {a d : Addr} {fs : List (Nat × VV)} {es : List DictEntry} {n : Nat} (h : FRep G W fs es) : HR G W (os ++ [.inst fs]) (ρ ++ [(a, d)]) (ns ++ [(a, instObj G.C d), (d, dictOf es n)]) := by
  induction r with
  | nil => exact .inst h .nil
  | list a _ ih => exact .list a ih
  | inst a _ ih => exact .inst a ih
theorem HR.len {os ρ ns} (r : HR G W os ρ ns) : ρ.length = os.length := by
  induction r with
  | nil => rfl
  | list a _ ih => simp [ih]
  | inst a _ ih => simp [ih]
theorem HR.at_list {l : List PV} : ∀ {os ρ ns} {k : Nat}, HR G W os ρ ns → os[k]? = some (.list l) → ∃ a d vs n pre post, ρ[k]? = some (a, d) ∧ ns = pre ++ (a, listOf vs.toArray n) :: post ∧ PRepL (FW G W) l vs ∧
    ∀ l' vs' n', PRepL (FW G W) l' vs' → HR G W (os.set k (.list l')) ρ (pre ++ (a, listOf vs'.toArray n') :: post) := by
  intro os ρ ns k r
  induction r generalizing k with
  | nil => intro e; simp at e
  | list a r ih =>
    intro e
    cases k with
    | zero =>
      simp only [List.getElem?_cons_zero, Option.some.injEq, VO.list.injEq] at e
      subst e
      exact ⟨_, _, _, _, [], _, rfl, rfl, a, fun l' vs' n' h => .list h r⟩
    | succ k =>
      obtain ⟨a', d, vs, n, pre, post, e1, e2, h, c⟩ := ih (k := k) (by simpa using e)
      subst e2
      exact ⟨a', d, vs, n, _ :: pre, post, by simpa using e1, rfl, h, fun l' vs' n' h' => .list a (c l' vs' n' h')⟩
  | inst a r ih =>
    intro e
    cases k with
    | zero => simp at e
    | succ k =>
      obtain ⟨a', d, vs, n, pre, post, e1, e2, h, c⟩ := ih (k := k) (by simpa using e)
      subst e2
      exact ⟨a', d, vs, n, _ :: _ :: pre, post, by simpa using e1, rfl, h, fun l' vs' n' h' => .inst a (c l' vs' n' h')⟩
theorem HR.at_inst {fs : List (Nat × VV)} : ∀ {os ρ ns} {k : Nat}, HR G W os ρ ns → os[k]? = some (.inst fs) → ∃ a d es n pre post, ρ[k]? = some (a, d) ∧ ns = pre ++ (a, instObj G.C d) :: (d, dictOf es n) :: post ∧ FRep G W fs es ∧
    ∀ fs' es' n', FRep G W fs' es' → HR G W (os.set k (.inst fs')) ρ (pre ++ (a, instObj G.C d) :: (d, dictOf es' n') :: post) := by
  intro os ρ ns k r
  induction r generalizing k with
  | nil => intro e; simp at e
  | list a r ih =>
    intro e
    cases k with
    | zero => simp at e
    | succ k =>
      obtain ⟨a', d, vs, n, pre, post, e1, e2, h, c⟩ := ih (k := k) (by simpa using e)
      subst e2
      exact ⟨a', d, vs, n, _ :: pre, post, by simpa using e1, rfl, h, fun l' vs' n' h' => .list a (c l' vs' n' h')⟩
  | inst a r ih =>
    intro e
    cases k with
    | zero =>
      simp only [List.getElem?_cons_zero, Option.some.injEq, VO.inst.injEq] at e
      subst e
      exact ⟨_, _, _, _, [], _, rfl, rfl, a, fun l' vs' n' h => .inst h r⟩
    | succ k =>
      obtain ⟨a', d, vs, n, pre, post, e1, e2, h, c⟩ := ih (k := k) (by simpa using e)
      subst e2
      exact ⟨a', d, vs, n, _ :: _ :: pre, post, by simpa using e1, rfl, h, fun l' vs' n' h' => .inst a (c l' vs' n' h')⟩
/-- A new list becomes one of the walk's objects. -/
theorem SimX.own {q : Addr} {vs : List Value} {n : Nat} {l : List PV} (h : SimX Φ W τ ((q, listOf vs.toArray n) :: x) s) (r : PRepL (VE.FW G W) l vs) :
    ∃ W', W.le W' ∧ W'.rho[τ.hp.length]? = some (q, q) ∧ SimX Φ W' ⟨τ.loc, τ.hp ++ [.list l]⟩ x s := by
  obtain ⟨m, n1, n2, F, Nw, nd, H, C, L, cv, o, g⟩ := h
  have le : W.le ⟨W.rho ++ [(q, q)], W.fro⟩ := ⟨List.prefix_append _ _, fun _ h => h⟩
  have pm : (((q, listOf vs.toArray n) :: x) ++ (n1 ++ (n2 ++ W.fro))).Perm (x ++ ((n1 ++ [(q, listOf vs.toArray n)]) ++ (n2 ++ W.fro))) := by
    have e : x ++ ((n1 ++ [(q, listOf vs.toArray n)]) ++ (n2 ++ W.fro)) = (x ++ n1) ++ (q, listOf vs.toArray n) :: (n2 ++ W.fro) := by simp
    rw [e]
    refine List.Perm.trans ?_ List.perm_middle.symm
    simp
  refine ⟨_, le, ?_, m, n1 ++ [(q, listOf vs.toArray n)], n2, F, fun p hp => Nw p (pm.symm.subset hp), ((pm.map _).nodup_iff).mp nd, (H.mono le).snoc_list (r.mono le.FW), C.mono le, fun k v e => (L k v e).mono le, cv, o, g⟩
  show (W.rho ++ [(q, q)])[τ.hp.length]? = some (q, q)
  rw [← H.len]; simp
/-- A new object, and its dict. -/
theorem SimX.ownI {q d : Addr} {es : List DictEntry} {n : Nat} {fs : List (Nat × VV)} (h : SimX Φ W τ ((q, instObj G.C d) :: (d, dictOf es n) :: x) s) (r : FRep G W fs es) :
    ∃ W', W.le W' ∧ W'.rho[τ.hp.length]? = some (q, d) ∧ SimX Φ W' ⟨τ.loc, τ.hp ++ [.inst fs]⟩ x s := by
  obtain ⟨m, n1, n2, F, Nw, nd, H, C, L, cv, o, g⟩ := h
  have le : W.le ⟨W.rho ++ [(q, d)], W.fro⟩ := ⟨List.prefix_append _ _, fun _ h => h⟩
  have pm : (((q, instObj G.C d) :: (d, dictOf es n) :: x) ++ (n1 ++ (n2 ++ W.fro))).Perm (x ++ ((n1 ++ [(q, instObj G.C d), (d, dictOf es n)]) ++ (n2 ++ W.fro))) := by
    have e : x ++ ((n1 ++ [(q, instObj G.C d), (d, dictOf es n)]) ++ (n2 ++ W.fro)) = (x ++ n1) ++ ([(q, instObj G.C d), (d, dictOf es n)] ++ (n2 ++ W.fro)) := by simp
    rw [e, show ((q, instObj G.C d) :: (d, dictOf es n) :: x) ++ (n1 ++ (n2 ++ W.fro)) = [(q, instObj G.C d), (d, dictOf es n)] ++ ((x ++ n1) ++ (n2 ++ W.fro)) by simp]
    rw [← List.append_assoc, ← List.append_assoc (x ++ n1)]
    exact List.Perm.append_right _ List.perm_append_comm
  refine ⟨_, le, ?_, m, _, n2, F, fun p hp => Nw p (pm.symm.subset hp), ((pm.map _).nodup_iff).mp nd, (H.mono le).snoc_inst (r.mono le), C.mono le, fun k v e => (L k v e).mono le, cv, o, g⟩
  show (W.rho ++ [(q, d)])[τ.hp.length]? = some (q, d)
  rw [← H.len]; simp
theorem updOf {d : Addr} {o o' : Obj} : ∀ {pre post : List (Addr × Obj)}, ((pre ++ (d, o) :: post).map (·.1)).Nodup → Upd d o o' (pre ++ (d, o) :: post) (pre ++ (d, o') :: post) := by
  intro pre
  induction pre with
  | nil =>
    intro post nd
    rw [List.nil_append, List.map_cons, List.nodup_cons] at nd
    exact .head fun p hp e => nd.1 (List.mem_map.mpr ⟨p, hp, e⟩)
  | cons a pre ih =>
    intro post nd
    rw [List.cons_append, List.map_cons, List.nodup_cons] at nd
    exact .tail (fun e => nd.1 (List.mem_map.mpr ⟨(d, o), by simp, e.symm⟩)) (ih nd.2)
theorem changed {news news' : List (Addr × Obj)} {m : Str → Option Value} {h h' : Heap} {d : Addr} {co co' : Obj} {h₀ : Heap} {L : Addr} (F : Fr h₀ L h m) (Nw : News h₀ L h news)
    (U : Upd d co co' news news') (e : h'.get? d = some co') (sb : Heap.SameBut d h h') : Fr h₀ L h' m ∧ News h₀ L h' news' := by
  obtain ⟨pre, post, rfl, rfl, h1, h2⟩ := U.split
  have D := Nw (d, co) (by simp)
  obtain ⟨oL, es, ep, hL, r⟩ := F.ns
  refine ⟨⟨⟨oL, es, ep, (sb.2 _ (Ne.symm D.2.1)).trans hL, r⟩, fun b x q => (sb.2 b fun z => ?_).trans (F.keep b x q), F.above⟩, fun p hp => ?_⟩
  · have := D.2.2; rw [← z, q] at this; cases this
  · rcases List.mem_append.mp hp with q | q
    · have P := Nw p (List.mem_append_left _ q); exact ⟨(sb.2 _ (h1 p q)).trans P.1, P.2⟩
    · rcases List.mem_cons.mp q with rfl | q
      · exact ⟨e, D.2⟩
      · have P := Nw p (List.mem_append_right _ (.tail _ q)); exact ⟨(sb.2 _ (h2 p q)).trans P.1, P.2⟩
/-- A list of the walk's, as the heap holds it, and what a change of it leaves. -/
structure ListAt (Φ : Cx G cs) (W : Wd) (τ : VS) (x : List (Addr × Obj)) (s : Shared) (k : Nat) (l : List PV) (a : Addr) (vs : List Value) (n : Nat) : Prop where
  get : s.heap.get? a = some (listOf vs.toArray n)
  rep : PRepL (FW G W) l vs
  upd : ∀ l' vs' n' h' t, PRepL (FW G W) l' vs' → Heap.SameBut a s.heap h' → h'.get? a = some (listOf vs'.toArray n') → SimX Φ W ⟨τ.loc, τ.hp.set k (.list l')⟩ x { s with heap := h', toks := t }
  updU : ∀ l' vs' n', PRepL (FW G W) l' vs' → ∃ m news news', Fr Φ.h₀ Φ.L s.heap m ∧ News Φ.h₀ Φ.L s.heap news ∧ Upd a (listOf vs.toArray n) (listOf vs'.toArray n') news news' ∧
    ∀ h' t, Fr Φ.h₀ Φ.L h' m → News Φ.h₀ Φ.L h' news' → SimX Φ W ⟨τ.loc, τ.hp.set k (.list l')⟩ x { s with heap := h', toks := t }
theorem SimX.list (h : SimX Φ W τ x s) {k : Nat} {l : List PV} {a d : Addr} (e : τ.hp[k]? = some (.list l)) (ea : W.rho[k]? = some (a, d)) : ∃ vs n, ListAt Φ W τ x s k l a vs n := by
  obtain ⟨m, n1, n2, F, Nw, nd, H, C, L, cv, o, g⟩ := h
  obtain ⟨a', d', vs, n, pre, post, e1, e2, r, c⟩ := H.at_list e
  rw [ea] at e1
  cases e1
  subst e2
  have key : ∀ l' vs' n', PRepL (VE.FW G W) l' vs' → Upd a (listOf vs.toArray n) (listOf vs'.toArray n') (x ++ (pre ++ (a, listOf vs.toArray n) :: post ++ (n2 ++ W.fro))) (x ++ (pre ++ (a, listOf vs'.toArray n') :: post ++ (n2 ++ W.fro))) := fun l' vs' n' _ => by
    have := updOf (o' := listOf vs'.toArray n') (pre := x ++ pre) (post := post ++ (n2 ++ W.fro)) (d := a) (o := listOf vs.toArray n) (by simpa using nd)
    simpa using this
  have nd' : ∀ (vs' : List Value) n', ((x ++ (pre ++ (a, listOf vs'.toArray n') :: post ++ (n2 ++ W.fro))).map (·.1)).Nodup := fun vs' n' => by simpa using nd
  refine ⟨vs, n, (Nw (a, listOf vs.toArray n) (by simp)).1, r, fun l' vs' n' h' t r' sb e' => ?_, fun l' vs' n' r' => ⟨m, _, _, F, Nw, key l' vs' n' r', fun h' t F' N' => ⟨m, _, n2, F', N', nd' _ _, c l' vs' n' r', C, L, cv, o, g⟩⟩⟩
  obtain ⟨F', N'⟩ := changed F Nw (key l' vs' n' r') e' sb
  exact ⟨m, _, n2, F', N', nd' _ _, c l' vs' n' r', C, L, cv, o, g⟩
/-- An object of the walk's. -/
structure InstV (Φ : Cx G cs) (W : Wd) (τ : VS) (x : List (Addr × Obj)) (s : Shared) (k : Nat) (fs : List (Nat × VV)) (a : Addr) (d : Addr) (es : List DictEntry) (n : Nat) : Prop where
  inst : InstAt s.heap a (instObj G.C d) G.C (some (dictOf es n))
  rep : FRep G W fs es
  updU : ∀ fs' es' n', FRep G W fs' es' → ∃ m news news', Fr Φ.h₀ Φ.L s.heap m ∧ News Φ.h₀ Φ.L s.heap news ∧ Upd d (dictOf es n) (dictOf es' n') news news' ∧
    ∀ h' t, Fr Φ.h₀ Φ.L h' m → News Φ.h₀ Φ.L h' news' → SimX Φ W ⟨τ.loc, τ.hp.set k (.inst fs')⟩ x { s with heap := h', toks := t }
theorem SimX.inst (h : SimX Φ W τ x s) {k : Nat} {fs : List (Nat × VV)} {a d : Addr} (e : τ.hp[k]? = some (.inst fs)) (ea : W.rho[k]? = some (a, d)) : ∃ es n, InstV Φ W τ x s k fs a d es n := by
  obtain ⟨m, n1, n2, F, Nw, nd, H, C, L, cv, o, g⟩ := h
  obtain ⟨a', d', es, n, pre, post, e1, e2, r, c⟩ := H.at_inst e
  rw [ea] at e1
  cases e1
  subst e2
  refine ⟨es, n, ?_, r, fun fs' es' n' r' => ⟨m, x ++ (pre ++ (a, instObj G.C d) :: (d, dictOf es n) :: post ++ (n2 ++ W.fro)), x ++ (pre ++ (a, instObj G.C d) :: (d, dictOf es' n') :: post ++ (n2 ++ W.fro)), F, Nw, ?_, fun h' t F' N' => ⟨m, _, n2, F', N', by simpa using nd, c fs' es' n' r', C, L, cv, o, g⟩⟩⟩
  · exact InstAt.of_news (news := x ++ (pre ++ (a, instObj G.C d) :: (d, dictOf es n) :: post ++ (n2 ++ W.fro))) Nw (by simp) (by simp)
  · have := updOf (o' := dictOf es' n') (pre := x ++ (pre ++ [(a, instObj G.C d)])) (post := post ++ (n2 ++ W.fro)) (d := d) (o := dictOf es n) (by simpa using nd)
    simpa using this
end VE
namespace VE
variable {N : Nat → Str} {Z : Stc} {G : Gl N Z} {cs : Scope} {Φ : Cx G cs} {W : Wd} {τ : VS} {s : Shared} {x : List (Addr × Obj)}
/-- What an expression gives: a value, or a list just made. -/
inductive Rs where
  | val (v : VV)
  | new (l : List PV)
noncomputable def Rs.frz : Rs → VV
  | .val v => v
  | .new l => .p (.lst l)
/-- A check that computes. -/
noncomputable abbrev gd (b : Bool) (P : Prop) : Prop := match b with
  | true => P
  | false => False
theorem gd_ex {b : Bool} {P : Prop} (h : gd b P) : b = true ∧ P := by
  cases b with
  | true => exact ⟨rfl, h⟩
  | false => exact h.elim
noncomputable abbrev Calls := Addr → List VV → List VO → (Rs → List VO → Prop) → Prop
noncomputable abbrev WE := Calls → VS → (VV → VS → Prop) → Prop
noncomputable abbrev W0 := Calls → VS → (Rs → VS → Prop) → Prop
noncomputable abbrev WT := Calls → VS → (Bool → VS → Prop) → Prop
noncomputable abbrev WA := Calls → VS → (List VV → VS → Prop) → Prop
inductive RV (Φ : Cx G cs) (W : Wd) (x : List (Addr × Obj)) (Q : VV → VS → Prop) (v : Value) (s : Shared) : Prop where
  | mk (W' : Wd) (a : VV) (τ : VS) (le : W.le W') (r : VRep G W' a v) (S : SimX Φ W' τ x s) (q : Q a τ)
inductive R0 (Φ : Cx G cs) (W : Wd) (x : List (Addr × Obj)) (Q : Rs → VS → Prop) : Value → Shared → Prop where
  | val {v : Value} {s : Shared} (W' : Wd) (a : VV) (τ : VS) (le : W.le W') (r : VRep G W' a v) (S : SimX Φ W' τ x s) (q : Q (.val a) τ) : R0 Φ W x Q v s
  | new {s : Shared} (W' : Wd) (l : List PV) (τ : VS) (q : Addr) (vs : List Value) (n : Nat) (le : W.le W') (r : PRepL (FW G W') l vs) (S : SimX Φ W' τ ((q, listOf vs.toArray n) :: x) s) (h : Q (.new l) τ) : R0 Φ W x Q (.ref q) s
inductive RT (Φ : Cx G cs) (W : Wd) (x : List (Addr × Obj)) (Q : VS → Prop) (s : Shared) : Prop where
  | mk (W' : Wd) (τ : VS) (le : W.le W') (S : SimX Φ W' τ x s) (q : Q τ)
inductive RA (Φ : Cx G cs) (W : Wd) (x : List (Addr × Obj)) (Q : List VV → VS → Prop) (v : List Value) (s : Shared) : Prop where
  | mk (W' : Wd) (a : List VV) (τ : VS) (le : W.le W') (r : VRepL G W' a v) (S : SimX Φ W' τ x s) (q : Q a τ)
theorem RV.up {W' : Wd} {Q : VV → VS → Prop} {v : Value} {s : Shared} (le : W.le W') (h : RV Φ W' x Q v s) : RV Φ W x Q v s := by cases h with | mk W1 a τ l r S q => exact ⟨W1, a, τ, le.trans l, r, S, q⟩
theorem R0.up {W' : Wd} {Q : Rs → VS → Prop} {v : Value} {s : Shared} (le : W.le W') (h : R0 Φ W' x Q v s) : R0 Φ W x Q v s := by
  cases h with
  | val W1 a τ l r S q => exact .val W1 a τ (le.trans l) r S q
  | new W1 l τ q vs n l' r S h => exact .new W1 l τ q vs n (le.trans l') r S h
theorem RT.up {W' : Wd} {Q : VS → Prop} {s : Shared} (le : W.le W') (h : RT Φ W' x Q s) : RT Φ W x Q s := by cases h with | mk W1 τ l S q => exact ⟨W1, τ, le.trans l, S, q⟩
theorem R0.toV {Q : VV → VS → Prop} {v : Value} {s : Shared} (h : R0 Φ W x (fun r τ => Q r.frz τ) v s) : RV Φ W x Q v s := by
  cases h with
  | val W1 a τ l r S q => exact ⟨W1, a, τ, l, r, S, q⟩
  | new W1 l τ q vs n l' r S h =>
    obtain ⟨W2, le, hm, e, S2⟩ := S.freeze
    exact ⟨W2, .p (.lst l), τ, l'.trans le, .p (.lst (.inl hm) (r.mono le.FW) .nil), S2, h⟩
/-- What the oracle of calls tells is so, down to a depth. -/
noncomputable def CallsOk (G : Gl N Z) (dep : Nat) (C : Calls) : Prop := ∀ (cs : Scope) (Φ : Cx G cs) (A : Around), A.handled = none → A.units ≤ 3 * A.depth + 4 → A.depth ≤ dep + 3 → ∀ W τ x s f as vs Q, SimX Φ W τ x s → VRepL G W as vs → C f as τ.hp Q →
  codeAny (model G.prog G.w) A (.call (.ref f) ⟨vs, []⟩) (fun r s' => ∃ v, r = .ok (.ret v) ∧ R0 Φ W x (fun a τ' => τ'.loc = τ.loc ∧ Q a τ'.hp) v s') s
noncomputable def SE (G : Gl N Z) (cs : Scope) (e : Expr) (w : WE) : Prop := ∀ (Φ : Cx G cs) C, CallsOk G Φ.A.depth C → ∀ W τ x s Q, SimX Φ W τ x s → w C τ Q → wpAny Φ.M Φ.A (eval e Φ.env) (RV Φ W x Q) (fun _ _ => False) s
noncomputable def S0 (G : Gl N Z) (cs : Scope) (e : Expr) (w : W0) : Prop := ∀ (Φ : Cx G cs) C, CallsOk G Φ.A.depth C → ∀ W τ x s Q, SimX Φ W τ x s → w C τ Q → wpAny Φ.M Φ.A (eval e Φ.env) (R0 Φ W x Q) (fun _ _ => False) s
noncomputable def ST (G : Gl N Z) (cs : Scope) (e : Expr) (w : WT) : Prop := ∀ (Φ : Cx G cs) C, CallsOk G Φ.A.depth C → ∀ W τ x s Q, SimX Φ W τ x s → w C τ Q → wpAny Φ.M Φ.A (PySem.isTrue e Φ.env (eval e Φ.env)) (fun b => RT Φ W x (Q b)) (fun _ _ => False) s
noncomputable def SA (G : Gl N Z) (cs : Scope) (es : List Expr) (w : WA) : Prop := (∀ env, (starEach es env).any (·.1) = false) ∧ ∀ (Φ : Cx G cs) C, CallsOk G Φ.A.depth C → ∀ pos W τ x s Q, SimX Φ W τ x s → w C τ Q → wpAny Φ.M Φ.A (spliced (backTo pos (starEach es Φ.env))) (RA Φ W x Q) (fun _ _ => False) s
theorem SE.go {e : Expr} {w : WE} (h : SE G cs e w) {C : Calls} (ok : CallsOk G Φ.A.depth C) {Q : VV → VS → Prop} {P : Value → Shared → Prop} (S : SimX Φ W τ x s) (q : w C τ Q)
    (k : ∀ W' a τ' v s', W.le W' → VRep G W' a v → SimX Φ W' τ' x s' → Q a τ' → P v s') : wpAny Φ.M Φ.A (eval e Φ.env) P (fun _ _ => False) s :=
  wpAny_mono (h Φ C ok W τ x s Q S q) (fun v s' r => by cases r with | mk W' a τ' le r S q => exact k W' a τ' v s' le r S q) fun _ _ x => x
noncomputable abbrev wFrz (w : W0) : WE := fun C τ Q => w C τ fun r τ' => Q r.frz τ'
theorem SE_frz {e : Expr} {w : W0} (h : S0 G cs e w) : SE G cs e (wFrz w) := fun Φ C ok W τ x s Q S q => wpAny_mono (h Φ C ok W τ x s _ S q) (fun _ _ r => r.toV) fun _ _ x => x
noncomputable abbrev wInt (i : Int) : WE := fun _ τ Q => Q (.p (.int i)) τ
theorem SE_int {i : Int} {k : Nat} {pos : Pos} : SE G cs (.Constant (.int i) k pos) (wInt i) := fun Φ C ok W τ x s Q S q => wpAny_Constant_int ⟨W, _, τ, .refl W, .p (.int i _ .nil), S.toks _, q⟩
noncomputable abbrev wNone : WE := fun _ τ Q => Q (.p .none) τ
theorem SE_none {k : Nat} {pos : Pos} : SE G cs (.Constant .none k pos) wNone := fun Φ C ok W τ x s Q S q => wpAny_Constant_none ⟨W, _, τ, .refl W, .p (.none .nil), S, q⟩
noncomputable abbrev wBool (b : Bool) : WE := fun _ τ Q => Q (.p (.bool b)) τ
theorem SE_bool {b : Bool} {k : Nat} {pos : Pos} : SE G cs (.Constant (.bool b) k pos) (wBool b) := fun Φ C ok W τ x s Q S q => wpAny_Constant_bool ⟨W, _, τ, .refl W, .p (.bool b .nil), S, q⟩
noncomputable abbrev wStr : WE := fun _ τ Q => Q (.p .any) τ
theorem SE_str {t : Str} {k : Nat} {pos : Pos} : SE G cs (.Constant (.str t) k pos) wStr := fun Φ C ok W τ x s Q S q => wpAny_Constant_str ⟨W, _, τ, .refl W, .p (.any rfl .nil), S.toks _, q⟩
theorem CR.at {loc : List (Nat × VV)} {k : Nat} {v : VV} (e : getN k loc = some v) : ∀ {l ns}, CR G W loc l ns → k ∈ l.map (·.1) → ∃ c o u, (k, c) ∈ l ∧ (c, o) ∈ ns ∧ o.data = .cell (some u) ∧ VRep G W v u := by
  intro l ns h
  induction h with
  | nil => intro hm; cases hm
  | @cons k' c o x cs ns e' f r ih =>
    intro hm
    by_cases hk : k = k'
    · subst hk
      obtain ⟨u, e1, r1⟩ := f v e
      exact ⟨c, o, u, .head _, .head _, by rw [e', e1], r1⟩
    · obtain ⟨c', o', u, h1, h2, h3⟩ := ih (by
        rcases List.mem_cons.mp hm with q | q
        · exact absurd q hk
        · exact q)
      exact ⟨c', o', u, .tail _ h1, .tail _ h2, h3⟩
noncomputable abbrev wName (n : Nat) : WE := fun _ τ Q => match getN n τ.loc with
  | some v => Q v τ
  | none => False
theorem SE_name {n : Nat} {t : Str} {pos : Pos} (hn : N n = t) : SE G cs (.Name t pos) (wName n) := fun Φ C ok W τ x s Q S q => by
  subst hn
  simp only [wName] at q
  cases hv : getN n τ.loc with
  | none => rw [hv] at q; exact q.elim
  | some v =>
    rw [hv] at q
    obtain ⟨m, n1, n2, F, Nw, nd, H, Cc, L, cv, o, g⟩ := id S
    rcases L n v hv with ⟨c, hl, hc, r⟩ | hm | ⟨c, u, hk, hc, ho, r⟩
    · exact wpAny_Name (wpAny_loadName_local Φ.kind hl F.ns hc ⟨W, v, τ, .refl W, r, S, q⟩) (G.hN.dbg n)
    rotate_left
    · have ho := ho.keeps F.keep
      refine wpAny_Name ?_ (G.hN.dbg n)
      rcases hk with hk | hk
      · exact wpAny_loadName_cell Φ.kind hk hc ho ⟨W, v, τ, .refl W, r, S, q⟩
      · exact wpAny_loadName_free Φ.kind hk hc ho ⟨W, v, τ, .refl W, r, S, q⟩ (G.hN.cd n)
    · obtain ⟨c, co, u, h1, h2, h3, r⟩ := Cc.at hv hm
      obtain ⟨hk, hc⟩ := cv n c h1
      have ho : s.heap.IsCell c (some u) := ⟨co, (Nw (c, co) (by simp [h2])).1, h3⟩
      refine wpAny_Name ?_ (G.hN.dbg n)
      rcases hk with hk | hk
      · exact wpAny_loadName_cell Φ.kind hk hc ho ⟨W, v, τ, .refl W, r, S, q⟩
      · exact wpAny_loadName_free Φ.kind hk hc ho ⟨W, v, τ, .refl W, r, S, q⟩ (G.hN.cd n)
end VE
namespace VE
variable {N : Nat → Str} {Z : Stc} {G : Gl N Z} {cs : Scope} {Φ : Cx G cs} {W : Wd} {τ : VS} {s : Shared} {x : List (Addr × Obj)}
noncomputable def binI (op : Operator) (i j : Int) (Q : Int → Prop) : Prop := match op with
  | .Add => Q (i + j)
  | .Sub => Q (i - j)
  | .Mult => IntMulOk i j ∧ Q (i * j)
  | .FloorDiv => (j ≠ 0 ∧ Builtin.divisionGoesByPylong i j = false) ∧ Q (Int.fdiv i j)
  | .Mod => j ≠ 0 ∧ Q (Int.fmod i j)
  | .Pow => (0 ≤ j ∧ j ≤ 1000000 ∧ i.natAbs < 2 ^ 64) ∧ Q (i ^ j.toNat)
  | .LShift => (0 ≤ j ∧ (Builtin.Int.intBits i : Int) + j ≤ 2 ^ 27) ∧ Q (i * 2 ^ j.toNat)
  | .RShift => 0 ≤ j ∧ Q (Int.fdiv i (2 ^ j.toNat))
  | .BitAnd => Q (Builtin.bitAnd i j)
  | .BitOr => Q (Builtin.bitOr i j)
  | .BitXor => Q (Builtin.bitXor i j)
  | _ => False
noncomputable abbrev opW (op : Operator) (u v : VV) (Q : VV → Prop) : Prop := match u, v with
  | .p (.int i), .p (.int j) => binI op i j fun z => Q (.p (.int z))
  | _, _ => False
noncomputable abbrev wBin (op : Operator) (a b : WE) : WE := fun C τ Q => a C τ fun u τ1 => b C τ1 fun v τ2 => opW op u v fun z => Q z τ2
theorem binI_run {op : Operator} {i j : Int} {t u : Tok} {Q : Int → Prop} {P : Value → Shared → Prop} (S : SimX Φ W τ x s) (h : binI op i j Q) (k : ∀ z t s', SimX Φ W τ x s' → Q z → P (.int z t) s') :
    wpAny Φ.M Φ.A (binaryOp op (.int i t) (.int j u)) P (fun _ _ => False) s := by
  cases op <;> (simp only [binI] at h) <;> first | exact h.elim | skip
  · exact add_int (k _ _ _ (S.toks _) h)
  · exact sub_int (k _ _ _ (S.toks _) h)
  · exact mul_int (k _ _ _ (S.toks _) h.2) h.1
  · exact mod_int h.1 (k _ _ _ (S.toks _) h.2)
  · exact pow_int_small h.1.1 h.1.2.1 h.1.2.2 (k _ _ _ (S.toks _) h.2)
  · exact lshift_int h.1.1 h.1.2 (k _ _ _ (S.toks _) h.2)
  · exact rshift_int h.1 (k _ _ _ (S.toks _) h.2)
  · exact or_int (k _ _ _ (S.toks _) h)
  · exact xor_int (k _ _ _ (S.toks _) h)
  · exact and_int (k _ _ _ (S.toks _) h)
  · exact floordiv_int h.1.1 (k _ _ _ (S.toks _) h.2) (.inl h.1.2)
theorem opW_ints {op : Operator} {u v : VV} {Q : VV → Prop} (h : opW op u v Q) : ∃ i j, u = .p (.int i) ∧ v = .p (.int j) ∧ binI op i j fun z => Q (.p (.int z)) := by
  unfold opW at h
  split at h
  · exact ⟨_, _, rfl, rfl, h⟩
  · exact h.elim
theorem VRep.int {i : Int} {c : Value} (r : VRep G W (.p (.int i)) c) : ∃ t, c = .int i t := by
  cases r with | p r => cases r with | int _ t _ => exact ⟨t, rfl⟩
theorem VRep.of_int {i : Int} {t : Tok} : VRep G W (.p (.int i)) (.int i t) := .p (.int i t .nil)
theorem SE_bin {op : Operator} {l r : Expr} {wl wr : WE} {pos : Pos} (hl : SE G cs l wl) (hr : SE G cs r wr) : SE G cs (.BinOp l op r pos) (wBin op wl wr) := fun Φ C ok W τ x s Q S q =>
  wpAny_BinOp (hl.go ok S q fun W1 u τ1 c s1 le1 r1 S1 q1 => hr.go ok S1 q1 fun W2 v τ2 d s2 le2 r2 S2 q2 => by
    obtain ⟨i, j, rfl, rfl, h⟩ := opW_ints q2
    obtain ⟨t, rfl⟩ := r1.int
    obtain ⟨t', rfl⟩ := r2.int
    exact binI_run S2 h fun z t s' S' q' => ⟨W2, _, τ2, le1.trans le2, .of_int, S', q'⟩)
/-- A list's items. -/
noncomputable def asL (hp : List VO) : VV → Option (List PV)
  | .p (.lst l) => some l
  | .p (.raw l) => some l
  | .ref k => match hp[k]? with
    | some (.list l) => some l
    | _ => none
  | _ => none
theorem SimX.asL (S : SimX Φ W τ x s) {v : VV} {c : Value} {l : List PV} (r : VRep G W v c) (e : VE.asL τ.hp v = some l) : ∃ a vs, c = .ref a ∧ s.heap.IsList a vs.toArray ∧ PRepL (VE.FW G W) l vs := by
  cases r with
  | p r =>
    cases r <;> simp only [VE.asL] at e <;> first | (cases e; done) | skip
    · rename_i a ws n l' f p _
      cases e
      exact ⟨a, ws, rfl, ⟨_, S.FW f, rfl, n, rfl⟩, p⟩
    · rename_i a o ws n l' f c d p _
      cases e
      exact ⟨a, ws, rfl, ⟨o, S.FW f, c, n, d⟩, p⟩
  | @ref k a d e' =>
    simp only [VE.asL] at e
    split at e
    · rename_i l' hk
      cases e
      obtain ⟨vs, n, LA⟩ := S.list hk e'
      exact ⟨a, vs, rfl, ⟨_, LA.get, rfl, n, rfl⟩, LA.rep⟩
    · cases e
  | meth => simp [VE.asL] at e
theorem VRep.tup {l : List PV} {c : Value} (r : VRep G W (.p (.tup l)) c) (S : SimX Φ W τ x s) : ∃ a vs, c = .ref a ∧ IsTup s.heap a vs.toArray ∧ PRepL (VE.FW G W) l vs := by
  cases r with
  | p r =>
    cases r with
    | @tup _ _ a ws n l' f p _ => exact ⟨a, ws, rfl, ⟨_, S.FW f, rfl, n, rfl⟩, p⟩
/-- Values compared. -/
noncomputable abbrev eqW (hp : List VO) (u v : VV) (Q : Bool → Prop) : Prop := match u, v with
  | .p (.int i), .p (.int j) => Q (i == j)
  | .p (.tup a), .p (.tup b) => ∃ l r : List Int, a = l.map .int ∧ b = r.map .int ∧ l.length = r.length ∧ Q (l == r)
  | _, _ => ∃ l r : List Int, asL hp u = some (l.map .int) ∧ asL hp v = some (r.map .int) ∧ l.length = r.length ∧ Q (l == r)
noncomputable def isNoneV : VV → Option Bool
  | .p .none => some true
  | .p .any => none
  | _ => some false
noncomputable def intsW (u v : VV) (R : Int → Int → Prop) : Prop := match u, v with
  | .p (.int i), .p (.int j) => R i j
  | _, _ => False
noncomputable def isW (v : VV) (u : VV) (Q : Bool → Prop) : Prop := match v with
  | .p .none => match isNoneV u with
    | some b => Q b
    | none => False
  | _ => False
noncomputable def inW (hp : List VO) (u v : VV) (Q : Bool → Prop) : Prop := match u with
  | .p (.int i) => ∃ l : List Int, asL hp v = some (l.map .int) ∧ Q (l.any (· == i))
  | _ => False
noncomputable def cmpW (hp : List VO) (op : CmpOp) (u v : VV) (Q : Bool → Prop) : Prop := match op with
  | .Eq => eqW hp u v Q
  | .NotEq => eqW hp u v fun b => Q (!b)
  | .Lt => intsW u v fun i j => Q (decide (i < j))
  | .LtE => intsW u v fun i j => Q (decide (i ≤ j))
  | .Gt => intsW u v fun i j => Q (decide (i > j))
  | .GtE => intsW u v fun i j => Q (decide (i ≥ j))
  | .Is => isW v u Q
  | .In => inW hp u v Q
  | _ => False
noncomputable abbrev wCmp (op : CmpOp) (a b : WE) : WE := fun C τ Q => a C τ fun u τ1 => b C τ1 fun v τ2 => cmpW τ2.hp op u v fun z => Q (.p (.bool z)) τ2
theorem beq_range {l r : List Int} (hl : l.length = r.length) : (List.range l.length).all (fun j => l[j]? == r[j]?) = (l == r) := by
  rw [hl, Bool.eq_iff_iff, List.all_eq_true, beq_iff_eq]
  constructor
  · intro q
    refine List.ext_getElem? fun j => ?_
    by_cases hj : j < r.length
    · exact beq_iff_eq.mp (q j (List.mem_range.mpr hj))
    · rw [List.getElem?_eq_none (by omega), List.getElem?_eq_none (by omega)]
  · rintro rfl j _; exact beq_self_eq_true _
theorem eqAt_of {A : Around} {l r : List Int} {vs ws : List Value} (iv : IntsAre vs l) (iw : IntsAre ws r) {j : Nat} (h1 : j < vs.toArray.size) (h2 : j < ws.toArray.size) : SeqAt.EqAt A s (vs.toArray[j]) (ws.toArray[j]) (l[j]? == r[j]?) := by
  have h1' : j < vs.length := by simpa using h1
  have h2' : j < ws.length := by simpa using h2
  have g : ∀ {vs : List Value} {l : List Int}, IntsAre vs l → ∀ {j : Nat} (h : j < vs.length), ∃ z t, l[j]? = some z ∧ vs[j] = .int z t := by
    intro vs l h
    induction h with
    | nil => intro j h; simp at h
    | cons k t _ ih =>
      intro j h
      cases j with
      | zero => exact ⟨k, t, rfl, rfl⟩
      | succ j => simpa using ih (j := j) (by simpa using h)
  obtain ⟨z, t, e1, e2⟩ := g iv h1'
  obtain ⟨z', t', e3, e4⟩ := g iw h2'
  simp only [List.getElem_toArray, e1, e2, e3, e4]
  exact SeqAt.EqAt.int_int _ _ _ _
theorem Cx.units (Φ : Cx G cs) : Φ.A.units < cLine := by
  have := Φ.un
  have := Φ.dp
  have : cLine = 9900 := rfl
  omega
theorem IntsAre.len {vs : List Value} {l : List Int} (h : IntsAre vs l) : vs.length = l.length := by
  induction h with
  | nil => rfl
  | cons k t _ ih => simp [ih]
theorem eqW_run {u v : VV} {c d : Value} {Q : Bool → Prop} {P : Value → Shared → Prop} (S : SimX Φ W τ x s) (ru : VRep G W u c) (rv : VRep G W v d) (h : eqW τ.hp u v Q) (k : ∀ z, Q z → P (.bool z) s) :
    wpAny Φ.M Φ.A (compareOp .Eq c d) P (fun _ _ => False) s := by
  unfold eqW at h
  split at h
  · obtain ⟨t, rfl⟩ := ru.int
    obtain ⟨t', rfl⟩ := rv.int
    exact eq_int (k _ h)
  · obtain ⟨l, r, rfl, rfl, hl, q⟩ := h
    obtain ⟨a, vs, rfl, ht, iv⟩ := ru.tup S
    obtain ⟨b, ws, rfl, ht', iw⟩ := rv.tup S
    have e1 := IntsAre.len iv.ints
    have e2 := IntsAre.len iw.ints
    refine SeqAt.eq_tupleAt (e := fun j => l[j]? == r[j]?) ht ht' Φ.units (fun j h1 h2 => eqAt_of iv.ints iw.ints h1 h2) ?_
    have := beq_range hl
    simp only [List.size_toArray, e1, e2, hl, Nat.min_self, beq_self_eq_true, Bool.and_true] at this ⊢
    rw [this]
    exact k _ q
  · obtain ⟨l, r, e1, e2, hl, q⟩ := h
    obtain ⟨a, vs, rfl, ht, iv⟩ := S.asL ru e1
    obtain ⟨b, ws, rfl, ht', iw⟩ := S.asL rv e2
    have e1 := IntsAre.len iv.ints
    have e2 := IntsAre.len iw.ints
    refine SeqAt.eq_listAt (e := fun j => l[j]? == r[j]?) ht ht' (by simp [e1, e2, hl]) Φ.units (fun j h1 h2 => eqAt_of iv.ints iw.ints h1 h2) ?_
    have := beq_range hl
    simp only [List.size_toArray, e1] at this ⊢
    rw [this]
    exact k _ q
theorem neW_run {u v : VV} {c d : Value} {Q : Bool → Prop} {P : Value → Shared → Prop} (S : SimX Φ W τ x s) (ru : VRep G W u c) (rv : VRep G W v d) (h : eqW τ.hp u v fun b => Q (!b)) (k : ∀ z, Q z → P (.bool z) s) :
    wpAny Φ.M Φ.A (compareOp .NotEq c d) P (fun _ _ => False) s := by
  unfold eqW at h
  split at h
  · obtain ⟨t, rfl⟩ := ru.int
    obtain ⟨t', rfl⟩ := rv.int
    exact ne_int (k _ h)
  · obtain ⟨l, r, rfl, rfl, hl, q⟩ := h
    obtain ⟨a, vs, rfl, ht, iv⟩ := ru.tup S
    obtain ⟨b, ws, rfl, ht', iw⟩ := rv.tup S
    have e1 := IntsAre.len iv.ints
    have e2 := IntsAre.len iw.ints
    refine SeqAt.RcNeAt.tuples (A := Φ.A) (s := s) (l := a) (b := b) (e := fun j => l[j]? == r[j]?) ht ht' Φ.units (fun j h1 h2 => eqAt_of iv.ints iw.ints h1 h2) G.prog G.w _ _ ?_
    have := beq_range hl
    simp only [List.size_toArray, e1, e2, hl, Nat.min_self, beq_self_eq_true, Bool.and_true] at this ⊢
    rw [this]
    exact k _ q
  · obtain ⟨l, r, e1, e2, hl, q⟩ := h
    obtain ⟨a, vs, rfl, ht, iv⟩ := S.asL ru e1
    obtain ⟨b, ws, rfl, ht', iw⟩ := S.asL rv e2
    have e1 := IntsAre.len iv.ints
    have e2 := IntsAre.len iw.ints
    refine SeqAt.RcNeAt.lists (A := Φ.A) (s := s) (l := a) (b := b) (e := fun j => l[j]? == r[j]?) ht ht' (by simp [e1, e2, hl]) Φ.units (fun j h1 h2 => eqAt_of iv.ints iw.ints h1 h2) G.prog G.w _ _ ?_
    have := beq_range hl
    simp only [List.size_toArray, e1] at this ⊢
    rw [this]
    exact k _ q
theorem intsW_ex {u v : VV} {c d : Value} {R : Int → Int → Prop} (ru : VRep G W u c) (rv : VRep G W v d) (h : intsW u v R) : ∃ i j t t', c = .int i t ∧ d = .int j t' ∧ R i j := by
  unfold intsW at h
  split at h
  · obtain ⟨t, rfl⟩ := ru.int
    obtain ⟨t', rfl⟩ := rv.int
    exact ⟨_, _, t, t', rfl, rfl, h⟩
  · exact h.elim
theorem isW_run {u v : VV} {c d : Value} {Q : Bool → Prop} {P : Value → Shared → Prop} (ru : VRep G W u c) (rv : VRep G W v d) (h : isW v u Q) (k : ∀ z, Q z → P (.bool z) s) :
    wpAny Φ.M Φ.A (compareOp .Is c d) P (fun _ _ => False) s := by
  unfold isW at h
  split at h
  · cases rv
    rename_i rv
    cases rv
    split at h
    · rename_i b e
      cases ru with
      | ref => cases e; exact wpAny_pure (k _ h)
      | meth => cases e; exact wpAny_pure (k _ h)
      | p r => cases r <;> first | (cases e; exact wpAny_pure (k _ h)) | cases e
    · exact h.elim
  · exact h.elim
theorem cmpW_run {op : CmpOp} {u v : VV} {c d : Value} {Q : Bool → Prop} {P : Value → Shared → Prop} (S : SimX Φ W τ x s) (ru : VRep G W u c) (rv : VRep G W v d) (h : cmpW τ.hp op u v Q) (k : ∀ z, Q z → P (.bool z) s) :
    wpAny Φ.M Φ.A (compareOp op c d) P (fun _ _ => False) s := by
  cases op with
  | Eq => exact eqW_run S ru rv h k
  | NotEq => exact neW_run S ru rv h k
  | Lt => obtain ⟨i, j, t, t', rfl, rfl, q⟩ := intsW_ex ru rv h; exact lt_int (k _ q)
  | LtE => obtain ⟨i, j, t, t', rfl, rfl, q⟩ := intsW_ex ru rv h; exact le_int (k _ q)
  | Gt => obtain ⟨i, j, t, t', rfl, rfl, q⟩ := intsW_ex ru rv h; exact gt_int (k _ q)
  | GtE => obtain ⟨i, j, t, t', rfl, rfl, q⟩ := intsW_ex ru rv h; exact ge_int (k _ q)
  | Is => exact isW_run ru rv h k
  | In =>
    unfold cmpW inW at h
    dsimp only at h
    split at h
    · obtain ⟨l, e, q⟩ := h
      obtain ⟨t, rfl⟩ := ru.int
      obtain ⟨a, vs, rfl, hl, iv⟩ := S.asL rv e
      exact in_list_ints hl iv.ints (k _ q)
    · exact h.elim
  | IsNot => exact h.elim
  | NotIn => exact h.elim
theorem SE_cmp {op : CmpOp} {l r : Expr} {wl wr : WE} {pos : Pos} (hl : SE G cs l wl) (hr : SE G cs r wr) (hm : behindInMarks op r = false) : SE G cs (.Compare l [op] [r] pos) (wCmp op wl wr) := fun Φ C ok W τ x s Q S q =>
  wpAny_Compare1 (hl.go ok S q fun W1 u τ1 c s1 le1 r1 S1 q1 => hr.go ok S1 q1 fun W2 v τ2 d s2 le2 r2 S2 q2 =>
    cmpW_run S2 (r1.mono le2) r2 q2 fun z q' => ⟨W2, _, τ2, le1.trans le2, .p (.bool z .nil), S2, q'⟩) hm
end VE
namespace VE
variable {N : Nat → Str} {Z : Stc} {G : Gl N Z} {cs : Scope} {Φ : Cx G cs} {W : Wd} {τ : VS} {s : Shared} {x : List (Addr × Obj)}
/-- A value's truth. -/
noncomputable def truW (hp : List VO) (v : VV) (Q : Bool → Prop) : Prop := match v with
  | .p (.int i) => Q (i != 0)
  | .p (.bool b) => Q b
  | .p .none => Q false
  | .p (.lst l) => (l.length : Int) < 2 ^ 63 ∧ Q (!l.isEmpty)
  | .p (.raw l) => (l.length : Int) < 2 ^ 63 ∧ Q (!l.isEmpty)
  | .ref k => match hp[k]? with
    | some (.list l) => (l.length : Int) < 2 ^ 63 ∧ Q (!l.isEmpty)
    | _ => False
  | _ => False
theorem truW_run {v : VV} {c : Value} {Q : Bool → Prop} {P : Bool → Shared → Prop} (S : SimX Φ W τ x s) (r : VRep G W v c) (h : truW τ.hp v Q) (k : ∀ b t, Q b → P b { s with toks := t }) : wpAny Φ.M Φ.A (truthy c) P (fun _ _ => False) s := by
  have lst : ∀ l, VE.asL τ.hp v = some l → (l.length : Int) < 2 ^ 63 ∧ Q (!l.isEmpty) → wpAny Φ.M Φ.A (truthy c) P (fun _ _ => False) s := fun l e q => by
    obtain ⟨a, vs, rfl, hl, p⟩ := S.asL r e
    have e2 : vs.toArray.isEmpty = l.isEmpty := by
      have := p.length
      cases vs <;> cases l <;> simp at this ⊢
    exact wpAny_truthy_list hl (by have := p.length; simp only [List.size_toArray, this]; exact q.1) (k _ _ (by rw [e2]; exact q.2))
  unfold truW at h
  split at h
  · obtain ⟨t, rfl⟩ := r.int
    exact truthy_int (k _ _ h)
  · cases r; rename_i r; cases r
    exact wpAny_truthy_bool (k _ _ h)
  · cases r; rename_i r; cases r
    exact wpAny_pure (k false s.toks h)
  · exact lst _ rfl h
  · exact lst _ rfl h
  · split at h
    · rename_i l e
      exact lst l (by simp [VE.asL, e]) h
    · exact h.elim
  · exact h.elim
noncomputable abbrev wTru (w : WE) : WT := fun C τ Q => w C τ fun v τ' => truW τ'.hp v fun b => Q b τ'
theorem ST_of {e : Expr} {w : WE} (h : SE G cs e w) (he : ∀ env, PySem.isTrue e env (eval e env) = (do let v ← eval e env; standAt e.pos; holding [v] (truthy v))) : ST G cs e (wTru w) := fun Φ C ok W τ x s Q S q =>
  isTrue_plain (h.go ok S q fun W1 v τ1 c s1 le r S1 q1 => truW_run S1 r q1 fun b t q' => ⟨W1, τ1, le, S1.toks t, q'⟩) (he _)
noncomputable abbrev wCmpT (op : CmpOp) (a b : WE) : WT := fun C τ Q => a C τ fun u τ1 => b C τ1 fun v τ2 => cmpW τ2.hp op u v fun z => Q z τ2
theorem ST_cmp {op : CmpOp} {l r : Expr} {wl wr : WE} {pos : Pos} (hl : SE G cs l wl) (hr : SE G cs r wr) (hm : behindInMarks op r = false) : ST G cs (.Compare l [op] [r] pos) (wCmpT op wl wr) := fun Φ C ok W τ x s Q S q =>
  wpAny_isTrue_Compare1 (hl.go ok S q fun W1 u τ1 c s1 le1 r1 S1 q1 => hr.go ok S1 q1 fun W2 v τ2 d s2 le2 r2 S2 q2 =>
    cmpW_run S2 (r1.mono le2) r2 q2 fun z q' => wpAny_truthy_bool ⟨W2, τ2, le1.trans le2, S2, q'⟩) hm
theorem ST.go {e : Expr} {w : WT} (h : ST G cs e w) {C : Calls} (ok : CallsOk G Φ.A.depth C) {Q : Bool → VS → Prop} {P : Bool → Shared → Prop} (S : SimX Φ W τ x s) (q : w C τ Q)
    (k : ∀ W' b τ' s', W.le W' → SimX Φ W' τ' x s' → Q b τ' → P b s') : wpAny Φ.M Φ.A (PySem.isTrue e Φ.env (eval e Φ.env)) P (fun _ _ => False) s :=
  wpAny_mono (h Φ C ok W τ x s Q S q) (fun b s' r => by cases r with | mk W' τ' le S q => exact k W' b τ' s' le S q) fun _ _ x => x
noncomputable abbrev wNotT (w : WT) : WT := fun C τ Q => w C τ fun b τ' => Q (!b) τ'
/-- One road or the other. -/
noncomputable abbrev brW (b : Bool) (p q : Prop) : Prop := match b with
  | true => p
  | false => q
noncomputable abbrev wAndT (a b : WT) : WT := fun C τ Q => a C τ fun c τ' => brW c (b C τ' Q) (Q false τ')
noncomputable abbrev wOrT (a b : WT) : WT := fun C τ Q => a C τ fun c τ' => brW c (Q true τ') (b C τ' Q)
theorem ST_and {e : Expr} {rest : List Expr} {w w' : WT} {pos : Pos} (h : ST G cs e w) (h' : ST G cs (.BoolOp .And rest pos) w') : ST G cs (.BoolOp .And (e :: rest) pos) (wAndT w w') := fun Φ C ok W τ x s Q S q =>
  isTrue_and (h.go ok S q fun W1 b τ1 s1 le S1 q1 => by
    cases b with
    | true => rw [if_pos rfl]; exact h'.go ok S1 q1 fun W2 b τ2 s2 le2 S2 q2 => ⟨W2, τ2, le.trans le2, S2, q2⟩
    | false => rw [if_neg (by decide)]; exact ⟨W1, τ1, le, S1, q1⟩)
noncomputable abbrev wTT : WT := fun _ τ Q => Q true τ
noncomputable abbrev wFF : WT := fun _ τ Q => Q false τ
theorem ST_and0 {pos : Pos} : ST G cs (.BoolOp .And [] pos) wTT := fun Φ C ok W τ x s Q S q => isTrue_and_nil ⟨W, τ, .refl W, S, q⟩
theorem ST_or {e : Expr} {rest : List Expr} {w w' : WT} {pos : Pos} (h : ST G cs e w) (h' : ST G cs (.BoolOp .Or rest pos) w') : ST G cs (.BoolOp .Or (e :: rest) pos) (wOrT w w') := fun Φ C ok W τ x s Q S q =>
  isTrue_or (h.go ok S q fun W1 b τ1 s1 le S1 q1 => by
    cases b with
    | true => rw [if_pos rfl]; exact ⟨W1, τ1, le, S1, q1⟩
    | false => rw [if_neg (by decide)]; exact h'.go ok S1 q1 fun W2 b τ2 s2 le2 S2 q2 => ⟨W2, τ2, le.trans le2, S2, q2⟩)
theorem ST_or0 {pos : Pos} : ST G cs (.BoolOp .Or [] pos) wFF := fun Φ C ok W τ x s Q S q => isTrue_or_nil ⟨W, τ, .refl W, S, q⟩
noncomputable abbrev wIfE (t : WT) (a b : WE) : WE := fun C τ Q => t C τ fun c τ' => brW c (a C τ' Q) (b C τ' Q)
theorem SE_if {test body orelse : Expr} {pos : Pos} {t : WT} {a b : WE} (ht : ST G cs test t) (ha : SE G cs body a) (hb : SE G cs orelse b) : SE G cs (.IfExp test body orelse pos) (wIfE t a b) := fun Φ C ok W τ x s Q S q =>
  IfExp_ (ht.go ok S q fun W1 c τ1 s1 le S1 q1 => by
    cases c with
    | true => rw [if_pos rfl]; exact wpAny_mono (ha Φ C ok _ _ _ _ _ S1 q1) (fun _ _ r => r.up le) fun _ _ x => x
    | false => rw [if_neg (by decide)]; exact wpAny_mono (hb Φ C ok _ _ _ _ _ S1 q1) (fun _ _ r => r.up le) fun _ _ x => x)
noncomputable abbrev wIf0 (t : WT) (a b : W0) : W0 := fun C τ Q => t C τ fun c τ' => brW c (a C τ' Q) (b C τ' Q)
/-- a or b, a and b as values. -/
noncomputable abbrev wOrE (a b : WE) : WE := fun C τ Q => a C τ fun v τ1 => truW τ1.hp v fun c => brW c (Q v τ1) (b C τ1 Q)
noncomputable abbrev wAndE (a b : WE) : WE := fun C τ Q => a C τ fun v τ1 => truW τ1.hp v fun c => brW c (b C τ1 Q) (Q v τ1)
theorem SE_and {e₁ e₂ : Expr} {rest : List Expr} {pos : Pos} {a b : WE} (h : SE G cs e₁ a) (h' : SE G cs (.BoolOp .And (e₂ :: rest) pos) b) : SE G cs (.BoolOp .And (e₁ :: e₂ :: rest) pos) (wAndE a b) := fun Φ C ok W τ x s Q S q =>
  BoolOp_and (h.go ok S q fun W1 v τ1 c s1 le r S1 q1 => truW_run S1 r q1 fun z t q2 => by
    cases z with
    | true => rw [if_pos rfl]; exact wpAny_mono (h' Φ C ok _ _ _ _ _ (S1.toks t) q2) (fun _ _ r => r.up le) fun _ _ x => x
    | false => rw [if_neg (by decide)]; exact ⟨W1, v, τ1, le, r, S1.toks t, q2⟩)
theorem SE_one {op : BoolOp} {e : Expr} {pos : Pos} {w : WE} (h : SE G cs e w) : SE G cs (.BoolOp op [e] pos) w := fun Φ C ok W τ x s Q S q => BoolOp_one (h Φ C ok W τ x s Q S q)
/-- One int from another. -/
noncomputable abbrev unW (f : Int → Int) (v : VV) (Q : VV → Prop) : Prop := match v with
  | .p (.int i) => Q (.p (.int (f i)))
  | _ => False
noncomputable abbrev wInv (w : WE) : WE := fun C τ Q => w C τ fun v τ' => unW Builtin.bitNot v fun z => Q z τ'
noncomputable abbrev wNeg (w : WE) : WE := fun C τ Q => w C τ fun v τ' => unW (fun i => -i) v fun z => Q z τ'
theorem unW_ex {f : Int → Int} {v : VV} {Q : VV → Prop} (h : unW f v Q) : ∃ i, v = .p (.int i) ∧ Q (.p (.int (f i))) := by
  unfold unW at h
  split at h
  · exact ⟨_, rfl, h⟩
  · exact h.elim
theorem SE_inv {e : Expr} {pos : Pos} {w : WE} (h : SE G cs e w) : SE G cs (.UnaryOp .Invert e pos) (wInv w) := fun Φ C ok W τ x s Q S q =>
  UnaryOp_ (h.go ok S q fun W1 v τ1 c s1 le r S1 q1 => by
    obtain ⟨i, rfl, q2⟩ := unW_ex q1
    obtain ⟨t, rfl⟩ := r.int
    exact invert_int ⟨W1, _, τ1, le, .of_int, S1.toks _, q2⟩)
theorem SE_neg {e : Expr} {pos : Pos} {w : WE} (h : SE G cs e w) : SE G cs (.UnaryOp .USub e pos) (wNeg w) := fun Φ C ok W τ x s Q S q =>
  UnaryOp_ (h.go ok S q fun W1 v τ1 c s1 le r S1 q1 => by
    obtain ⟨i, rfl, q2⟩ := unW_ex q1
    obtain ⟨t, rfl⟩ := r.int
    exact neg_int ⟨W1, _, τ1, le, .of_int, S1.toks _, q2⟩)
noncomputable abbrev wNot (w : WE) : WE := fun C τ Q => w C τ fun v τ' => truW τ'.hp v fun b => Q (.p (.bool (!b))) τ'
end VE
namespace VE
variable {N : Nat → Str} {Z : Stc} {G : Gl N Z} {cs : Scope} {Φ : Cx G cs} {W : Wd} {τ : VS} {s : Shared} {x : List (Addr × Obj)}
noncomputable def seqL (hp : List VO) : VV → Option (List PV)
  | .p (.tup l) => some l
  | v => asL hp v
noncomputable def pick (l : List PV) : Int → Option PV
  | .ofNat k => l[k]?
  | .negSucc k => match Nat.ble (k + 1) l.length with
    | true => l[l.length - (k + 1)]?
    | false => none
theorem pick_pos {l : List PV} {j : Int} (h : 0 ≤ j) : pick l j = l[j.toNat]? := by
  obtain ⟨k, rfl⟩ := Int.eq_ofNat_of_zero_le h
  rfl
theorem pick_neg {l : List PV} {j : Int} {z : PV} (h : j < 0) (e : pick l j = some z) : -(l.length : Int) ≤ j ∧ l[(j + l.length).toNat]? = some z := by
  cases j with
  | ofNat k => exact absurd h (by simp)
  | negSucc k =>
    simp only [pick] at e
    cases hb : Nat.ble (k + 1) l.length with
    | false => rw [hb] at e; cases e
    | true =>
      rw [hb] at e
      have hb := Nat.le_of_ble_eq_true hb
      refine ⟨by omega, ?_⟩
      have : (Int.negSucc k + (l.length : Int)).toNat = l.length - (k + 1) := by omega
      rw [this]; exact e
/-- An item read. -/
noncomputable abbrev idxOk (j : Int) : Prop := -(2 ^ 63) ≤ j ∧ j < 2 ^ 63
noncomputable def subW (hp : List VO) (u v : VV) (Q : VV → Prop) : Prop := match v with
  | .p (.int j) => idxOk j ∧ ∃ l z, seqL hp u = some l ∧ pick l j = some z ∧ Q (.p z)
  | _ => False
theorem seqIndex_of_pick {l : List PV} {j : Int} {z : PV} (e : pick l j = some z) : ∃ k, seqIndex? j l.length = some k ∧ l[k]? = some z := by
  by_cases h : 0 ≤ j
  · rw [pick_pos h] at e
    have := (List.getElem?_eq_some_iff.mp e).1
    refine ⟨j.toNat, ?_, e⟩
    unfold seqIndex?
    have h' : ¬ j < 0 := by omega
    simp only [h', if_false]
    rw [if_pos (by simp; omega)]
  · obtain ⟨h1, h2⟩ := pick_neg (by omega) e
    refine ⟨_, ?_, h2⟩
    unfold seqIndex?
    have h' : j < 0 := by omega
    simp only [h', if_true]
    rw [if_pos (by simp; omega)]
theorem subW_run {u v : VV} {c d : Value} {value slice : Expr} {Q : VV → Prop} {P : Value → Shared → Prop} (S : SimX Φ W τ x s) (ru : VRep G W u c) (rv : VRep G W v d) (h : subW τ.hp u v Q) (hs : ∀ o i, subscripted slice false o i = operate [o, i] (getItem o i))
    (k : ∀ z e, VRep G W z e → Q z → P e s) : wpAny Φ.M Φ.A (subscriptTail value slice c d) P (fun _ _ => False) s := by
  unfold subW at h
  split at h
  · rename_i j
    obtain ⟨⟨b1, b2⟩, l, z, e1, e2, q⟩ := h
    obtain ⟨t, rfl⟩ := rv.int
    have lst : VE.asL τ.hp u = some l → wpAny Φ.M Φ.A (subscriptTail value slice c (.int j t)) P (fun _ _ => False) s := fun e1 => by
      obtain ⟨a, vs, rfl, hl, p⟩ := S.asL ru e1
      by_cases h0 : 0 ≤ j
      · rw [pick_pos h0] at e2
        obtain ⟨e, he, r⟩ := p.get e2
        exact tail_any hl.typeIs slot_list_getitem.lookup (wpAny_getItem_list hl h0 b2 (by simpa using he) (k _ e (.p r) q)) (hs _ _)
      · obtain ⟨h1, h2⟩ := pick_neg (by omega) e2
        obtain ⟨e, he, r⟩ := p.get h2
        exact tail_any hl.typeIs slot_list_getitem.lookup (wpAny_getItem_list_neg hl (by omega) (by simpa [p.length] using h1) b1 (by simpa [p.length] using he) (k _ e (.p r) q)) (hs _ _)
    unfold seqL at e1
    split at e1
    · cases e1
      obtain ⟨a, vs, rfl, ht, p⟩ := ru.tup S
      obtain ⟨j', e3, e4⟩ := seqIndex_of_pick e2
      obtain ⟨e, he, r⟩ := p.get e4
      exact item_tupleT ht b1 b2 (by rw [p.length]; exact e3) he (k _ e (.p r) q) (hs _ _)
    · exact lst e1
  · exact h.elim
noncomputable abbrev wSub (a b : WE) : WE := fun C τ Q => a C τ fun u τ1 => b C τ1 fun v τ2 => subW τ2.hp u v fun z => Q z τ2
theorem SE_sub {value slice : Expr} {a b : WE} {pos : Pos} (h : SE G cs value a) (h' : SE G cs slice b) (hs : ∀ o i, subscripted slice false o i = operate [o, i] (getItem o i)) : SE G cs (.Subscript value slice pos) (wSub a b) := fun Φ C ok W τ x s Q S q =>
  Subscript_ (h.go ok S q fun W1 u τ1 c s1 le1 r1 S1 q1 => h'.go ok S1 q1 fun W2 v τ2 d s2 le2 r2 S2 q2 =>
    subW_run S2 (r1.mono le2) r2 q2 hs fun z e r q' => ⟨W2, z, τ2, le1.trans le2, r, S2, q'⟩)
/-- The items of a display, or of a call. -/
noncomputable abbrev wA0 : WA := fun _ τ Q => Q [] τ
noncomputable abbrev wAc (w : WE) (ws : WA) : WA := fun C τ Q => w C τ fun v τ1 => ws C τ1 fun vs τ2 => Q (v :: vs) τ2
theorem SA_nil : SA G cs [] wA0 := ⟨fun _ => rfl, fun Φ C ok pos W τ x s Q S q => args_nil ⟨W, [], τ, .refl W, .nil, S, q⟩⟩
theorem SA_cons {e : Expr} {rest : List Expr} {w : WE} {ws : WA} (h : SE G cs e w) (h' : SA G cs rest ws) (he : ∀ env, starEach (e :: rest) env = (false, eval e env) :: starEach rest env) : SA G cs (e :: rest) (wAc w ws) := ⟨fun env => by rw [he env, List.any_cons, h'.1 env]; rfl, fun Φ C ok pos W τ x s Q S q =>
  args_cons (h.go ok S q fun W1 v τ1 c s1 le1 r1 S1 q1 => wpAny_mono (h'.2 Φ C ok pos W1 τ1 x s1 _ S1 q1) (fun vs s2 r => by
    cases r with | mk W2 as τ2 le2 r2 S2 q2 => exact ⟨W2, v :: as, τ2, le1.trans le2, .cons (r1.mono le2) r2, S2, q2⟩) fun _ _ x => x) (he _)⟩
noncomputable def unP : List VV → Option (List PV)
  | [] => some []
  | .p v :: r => (unP r).map (v :: ·)
  | _ => none
theorem unP_rep : ∀ {vs : List VV} {cs : List Value} {l : List PV}, unP vs = some l → VRepL G W vs cs → PRepL (FW G W) l cs := by
  intro vs cs l e r
  induction r generalizing l with
  | nil => cases e; exact .nil
  | @cons v c vs cs a _ ih =>
    cases a with
    | p p =>
      simp only [unP, Option.map_eq_some_iff] at e
      obtain ⟨l', h1, h2⟩ := e
      subst h2
      exact p.cons (ih h1)
    | ref => cases e
    | meth => cases e
noncomputable def listW (vs : List VV) (Q : List PV → Prop) : Prop := match unP vs with
  | some l => l.length ≤ sizeLine ∧ Q l
  | none => False
theorem listW_ex {vs : List VV} {Q : List PV → Prop} (h : listW vs Q) : ∃ l, unP vs = some l ∧ l.length ≤ sizeLine ∧ Q l := by
  unfold listW at h
  split at h
  · exact ⟨_, by assumption, h.1, h.2⟩
  · exact h.elim
noncomputable abbrev wList (a : WA) : W0 := fun C τ Q => a C τ fun vs τ' => listW vs fun l => Q (.new l) τ'
noncomputable abbrev wTup (a : WA) : WE := fun C τ Q => a C τ fun vs τ' => listW vs fun l => Q (.p (.tup l)) τ'
theorem SA.go {es : List Expr} {w : WA} (h : SA G cs es w) {C : Calls} (ok : CallsOk G Φ.A.depth C) {Q : List VV → VS → Prop} {P : List Value → Shared → Prop} {pos : Pos} (S : SimX Φ W τ x s) (q : w C τ Q)
    (k : ∀ W' a τ' v s', W.le W' → VRepL G W' a v → SimX Φ W' τ' x s' → Q a τ' → P v s') : wpAny Φ.M Φ.A (spliced (backTo pos (starEach es Φ.env))) P (fun _ _ => False) s :=
  wpAny_mono (h.2 Φ C ok pos W τ x s Q S q) (fun v s' r => by cases r with | mk W' a τ' le r S q => exact k W' a τ' v s' le r S q) fun _ _ x => x
/-- A list just made by the library's rules. -/
theorem SimX.made (S : SimX Φ W τ x s) {P : Prop} (k : ∀ m news, Fr Φ.h₀ Φ.L s.heap m → News Φ.h₀ Φ.L s.heap news → (∀ h' q co t, Fr Φ.h₀ Φ.L h' m → News Φ.h₀ Φ.L h' ((q, co) :: news) → (∀ p ∈ news, p.1 < q) → SimX Φ W τ ((q, co) :: x) { s with heap := h', toks := t }) → P) : P := by
  obtain ⟨m, n1, n2, F, Nw, nd, H, C, L, cv, o, g⟩ := id S
  exact k m _ F Nw fun h' q co t F' N' lt => SimX.newN ⟨F, Nw, nd, H, C, L, cv, o, g⟩ F' N' lt
theorem S0_list {elts : List Expr} {pos : Pos} {w : WA} (h : SA G cs elts w) : S0 G cs (.List elts pos) (wList w) := fun Φ C ok W τ x s Q S q =>
  List_ (h.go (pos := pos) ok S q fun W1 as τ1 vs s1 le r S1 q1 => by
    obtain ⟨l, e, hz, q2⟩ := listW_ex q1
    have p := unP_rep e r
    refine S1.made fun m news F Nw k => newList_K F Nw (fun a h' F' N' lt => ?_) (by rw [p.length]; exact hz)
    exact .new W1 l τ1 a vs 0 le p (k h' a _ _ F' N' lt) q2)
theorem SE_tup {elts : List Expr} {k : Nat} {pos : Pos} {w : WA} (h : SA G cs elts w) : SE G cs (.Tuple elts k pos) (wTup w) := fun Φ C ok W τ x s Q S q =>
  Tuple_ (h.go (pos := pos) ok S q fun W1 as τ1 vs s1 le r S1 q1 => by
    obtain ⟨l, e, hz, q2⟩ := listW_ex q1
    have p := unP_rep e r
    refine S1.made fun m news F Nw k => newTuple_N F Nw (fun h' F' N' => ?_) (by rw [p.length]; exact hz)
    obtain ⟨W2, le2, hm, er, S2⟩ := (k h' _ _ s1.toks F' N' (fun p hp => Heap.lt_size (Nw p hp).1)).freeze
    exact ⟨W2, .p (.tup l), τ1, le.trans le2, .p (.tup (ws := vs) (n := 0) (.inl hm) (p.mono le2.FW) .nil), S2, q2⟩)
/-- list + list. -/
noncomputable def catW (hp : List VO) (u v : VV) (Q : List PV → Prop) : Prop := ∃ l r, asL hp u = some l ∧ asL hp v = some r ∧ l.length + r.length ≤ sizeLine ∧ Q (l ++ r)
noncomputable abbrev wCat (a b : WE) : W0 := fun C τ Q => a C τ fun u τ1 => b C τ1 fun v τ2 => catW τ2.hp u v fun l => Q (.new l) τ2
theorem S0_cat {l r : Expr} {wl wr : WE} {pos : Pos} (hl : SE G cs l wl) (hr : SE G cs r wr) : S0 G cs (.BinOp l .Add r pos) (wCat wl wr) := fun Φ C ok W τ x s Q S q =>
  wpAny_BinOp (hl.go ok S q fun W1 u τ1 c s1 le1 r1 S1 q1 => hr.go ok S1 q1 fun W2 v τ2 d s2 le2 r2 S2 q2 => by
    obtain ⟨l, r, e1, e2, hz, q3⟩ := q2
    obtain ⟨a, vs, rfl, hl, p⟩ := S2.asL (r1.mono le2) e1
    obtain ⟨b, ws, rfl, hl', p'⟩ := S2.asL r2 e2
    refine S2.made fun m news F Nw k => add_lists F Nw hl hl' (fun h' F' N' => ?_) (by rw [p.length, p'.length]; exact hz)
    exact .new W2 (l ++ r) τ2 _ (vs ++ ws) 0 (le1.trans le2) (p.app p') (k h' _ _ _ F' N' (fun p hp => Heap.lt_size (Nw p hp).1)) q3)
/-- list * int, of a list just made. -/
noncomputable def repW (r : Rs) (v : VV) (Q : List PV → Prop) : Prop := match r, v with
  | .new l, .p (.int k) => (0 ≤ k ∧ l.length ≠ 0 ∧ (l.length : Int) * k ≤ 2 ^ 24) ∧ Q (List.replicate k.toNat l).flatten
  | _, _ => False
noncomputable abbrev wRep (a : W0) (b : WE) : W0 := fun C τ Q => a C τ fun u τ1 => b C τ1 fun v τ2 => repW u v fun l => Q (.new l) τ2
theorem flat_replicate {α : Type} (l : List α) : ∀ (n : Nat) (acc : Array α), (List.foldl (fun x1 x2 => x1 ++ x2) acc (List.replicate n l.toArray)).toList = acc.toList ++ (List.replicate n l).flatten := by
  intro n
  induction n with
  | zero => intro acc; simp
  | succ n ih =>
    intro acc
    rw [List.replicate_succ, List.foldl_cons, ih, List.replicate_succ, List.flatten_cons]
    simp
theorem S0_rep {l r : Expr} {wl : W0} {wr : WE} {pos : Pos} (hl : S0 G cs l wl) (hr : SE G cs r wr) : S0 G cs (.BinOp l .Mult r pos) (wRep wl wr) := fun Φ C ok W τ x s Q S q =>
  wpAny_BinOp (wpAny_mono (Q' := fun c s1 => wpAny Φ.M Φ.A (eval r Φ.env) (fun d s2 => wpAny Φ.M Φ.A (binaryOp .Mult c d) (R0 Φ W x Q) (fun _ _ => False) s2) (fun _ _ => False) s1) (hl Φ C ok W τ x s _ S q) (fun c s1 r0 => by
    cases r0 with
    | val W1 a τ1 le1 r1 S1 q1 => exact hr.go ok S1 q1 fun W2 v τ2 d s2 le2 r2 S2 q2 => q2.elim
    | new W1 l τ1 y vs n le1 p1 S1 q1 =>
      refine hr.go ok S1 q1 fun W2 v τ2 d s2 le2 r2 S2 q2 => ?_
      unfold repW at q2
      split at q2
      · rename_i l' k e1
        cases e1
        obtain ⟨t, rfl⟩ := r2.int
        obtain ⟨⟨b0, b1, b2⟩, q3⟩ := q2
        have p2 := p1.mono le2.FW
        have b3 : k ≤ 2 ^ 24 := by
          have : (1 : Int) ≤ (l.length : Int) := by omega
          have := Int.mul_le_mul_of_nonneg_right this b0
          omega
        have hg : s2.heap.get? y = some (listOf vs.toArray n) := by
          obtain ⟨m, n1, n2, F, Nw, _⟩ := id S2
          exact (Nw (y, _) (by simp)).1
        refine S2.made fun m news F Nw kk => mul_list F Nw hg (by omega) (by omega) ?_ fun h' F' N' => ?_
        · have : ((vs.toArray.size * k.toNat : Nat) : Int) ≤ 2 ^ 24 := by
            simp only [List.size_toArray, p2.length, Int.natCast_mul, Int.toNat_of_nonneg b0]; exact b2
          omega
        · have e2 : vs.toArray.isEmpty = false := by
            have := p2.length
            cases vs <;> simp at this ⊢
            omega
          have N2 := N'
          rw [e2] at N2
          have S3 := (kk h' _ _ s2.toks F' N' (fun p hp => Heap.lt_size (Nw p hp).1))
          rw [e2] at S3
          have e3 : (List.foldl (fun x1 x2 => x1 ++ x2) #[] (List.replicate k.toNat vs.toArray)) = (List.replicate k.toNat vs).flatten.toArray := by
            apply Array.toList_inj.mp
            rw [flat_replicate]; simp
          simp only [Bool.false_eq_true, if_false, e3] at S3
          have pr : ∀ n : Nat, PRepL (FW G W2) (List.replicate n l).flatten (List.replicate n vs).flatten := fun n => by
            induction n with
            | zero => exact .nil
            | succ n ih => rw [List.replicate_succ, List.replicate_succ, List.flatten_cons, List.flatten_cons]; exact p2.app ih
          have S4 := (S3.perm (List.Perm.swap _ _ _)).forget
          exact .new W2 _ τ2 _ _ 0 (le1.trans le2) (pr _) S4 q3
      · exact q2.elim) fun _ _ x => x)
end VE
namespace VE
variable {N : Nat → Str} {Z : Stc} {G : Gl N Z} {cs : Scope} {Φ : Cx G cs} {W : Wd} {τ : VS} {s : Shared} {x : List (Addr × Obj)}
noncomputable def memN (n : Nat) : List Nat → Bool
  | [] => false
  | k :: r => match Nat.beq n k with
    | true => true
    | false => memN n r
theorem memN_mem {n : Nat} : ∀ {l : List Nat}, memN n l = true → n ∈ l := by
  intro l
  induction l with
  | nil => intro h; cases h
  | cons k r ih =>
    intro h
    simp only [memN] at h
    cases e : Nat.beq n k with
    | true => rw [Nat.eq_of_beq_eq_true e]; exact .head _
    | false => rw [e] at h; exact .tail _ (ih h)
/-- A field read. -/
noncomputable def clsW (Z : Stc) (n k : Nat) (Q : VV → Prop) : Prop := match getN n Z.nums with
  | some i => Q (.p (.int i))
  | none => match getN n Z.fns with
    | some f => Q (.meth f k)
    | none => match getN n Z.tabs with
      | some l => Q (.p (.raw l))
      | none => False
noncomputable def attrW (Z : Stc) (hp : List VO) (n : Nat) (v : VV) (Q : VV → Prop) : Prop := match v with
  | .ref k => match hp[k]? with
    | some (.inst fs) => match getN n fs with
      | some z => gd (memN n Z.flds) (Q z)
      | none => clsW Z n k Q
    | _ => False
  | _ => False
/-- An object of the walk's behind a reference. -/
theorem SimX.instR (S : SimX Φ W τ x s) {k : Nat} {c : Value} {fs : List (Nat × VV)} (r : VRep G W (.ref k) c) (e : τ.hp[k]? = some (.inst fs)) : ∃ a d es n, c = .ref a ∧ W.rho[k]? = some (a, d) ∧ InstV Φ W τ x s k fs a d es n := by
  cases r with
  | @ref _ a d er =>
    obtain ⟨es, n, I⟩ := S.inst e er
    exact ⟨a, d, es, n, rfl, er, I⟩
theorem attrW_run {n : Nat} {v : VV} {c : Value} {Q : VV → Prop} {P : Value → Shared → Prop} (S : SimX Φ W τ x s) (r : VRep G W v c) (h : attrW Z τ.hp n v Q)
    (k : ∀ W' z e s', W.le W' → VRep G W' z e → SimX Φ W' τ x s' → Q z → P e s') : wpAny Φ.M Φ.A (getAttr c (N n) true) P (fun _ _ => False) s := by
  unfold attrW at h
  split at h
  · rename_i kk
    split at h
    · rename_i fs e
      obtain ⟨a, d, es, nn, rfl, er, I⟩ := S.instR r e
      obtain ⟨m, n1, n2, SS⟩ := id S
      have fr := I.rep.2.2 n
      split at h
      · rename_i z ez
        rw [ez] at fr
        obtain ⟨c, hc, rc⟩ := fr
        have h := gd_ex h
        exact get_own SS.F Φ.K I.inst G.SO.cls.get G.SO.cls.has (G.SO.fld n (memN_mem h.1)).find rfl hc rc.handed (k W z c _ (.refl W) rc (S.toks _) h.2)
      · rename_i ez
        rw [ez] at fr
        unfold clsW at h
        split at h
        · rename_i i ei
          obtain ⟨⟨t, h1, h2⟩, h3⟩ := G.SO.int n i ei
          exact get_cls SS.F Φ.K I.inst G.SO.cls.get G.SO.cls.has h1 h2 rfl h3 fr (k W _ _ _ (.refl W) .of_int (S.toks _) h)
        · split at h
          · rename_i f ef
            obtain ⟨FO, fi⟩ := G.SO.fn n f (getN_mem ef)
            refine S.made fun m news F Nw kk' => kbm_bound F Φ.K Nw I.inst G.SO.cls.get G.SO.cls.has FO.find FO.fn FO.get FO.takes FO.copied fr fun q h' F' N' lt => ?_
            obtain ⟨W2, le2, hm, e2, S2⟩ := (kk' h' q _ (s.toks + 1) F' N' lt).freeze
            exact k W2 _ _ _ le2 (.meth fi (le2.at er) hm) S2 h
          · split at h
            · rename_i l el
              obtain ⟨a', o, ws, n', TO⟩ := G.SO.tab n l el
              exact get_cls SS.F Φ.K I.inst G.SO.cls.get G.SO.cls.has TO.ref.find TO.ref.get rfl TO.ref.copied fr
                (k W _ _ _ (.refl W) (.p (.raw (.inr (G.KX _ _ TO.at_)) TO.cls TO.data (TO.rep.mono fun a o e => .inr (G.KX a o e)) .nil)) (S.toks _) h)
            · exact h.elim
    · exact h.elim
  · exact h.elim
noncomputable abbrev wAttr (Z : Stc) (n : Nat) (w : WE) : WE := fun C τ Q => w C τ fun v τ' => attrW Z τ'.hp n v fun z => Q z τ'
theorem SE_attr {e : Expr} {n : Nat} {t : Str} {pos : Pos} {w : WE} (h : SE G cs e w) (hn : N n = t) (he : ∀ env, eval (.Attribute e t pos) env = (do let o ← eval e env; standAt pos.atName; let r ← holding [o] (getAttr o t true); letTemporaryGo e o r; pure r)) :
    SE G cs (.Attribute e t pos) (wAttr Z n w) := fun Φ C ok W τ x s Q S q =>
  Attribute_any_ (h.go ok S q fun W1 v τ1 c s1 le r S1 q1 => by
    subst hn
    exact attrW_run S1 r q1 fun W2 z e s2 le2 r2 S2 q2 => ⟨W2, z, τ1, le.trans le2, r2, S2, q2⟩) (he _)
/-- What the oracle gives, taken as a value. -/
theorem CallsOk.wp {C : Calls} (ok : CallsOk G Φ.A.depth C) {f : Addr} {as : List VV} {vs : List Value} {Q : Rs → VS → Prop} (S : SimX Φ W τ x s) (r : VRepL G W as vs) (h : C f as τ.hp fun a hp => Q a ⟨τ.loc, hp⟩) :
    wpAny Φ.M Φ.A (call (.ref f) vs) (R0 Φ W x Q) (fun _ _ => False) s :=
  wpAny_call (codeAny_mono (ok cs Φ Φ.A Φ.hh Φ.un (by omega) W τ x s f as vs _ S r h) fun r' s' ⟨v, e, r0⟩ => by
    subst e
    cases r0 with
    | val W1 a τ1 l r1 S1 q1 => obtain ⟨e1, q1⟩ := q1; exact .val W1 a τ1 l r1 S1 (by rw [← e1] at q1; exact q1)
    | new W1 l τ1 q vs n l' r1 S1 q1 => obtain ⟨e1, q1⟩ := q1; exact .new W1 l τ1 q vs n l' r1 S1 (by rw [← e1] at q1; exact q1))
/-- A method of the class is called. -/
noncomputable def mcallW (Z : Stc) (hp : List VO) (n : Nat) (v : VV) (Q : Addr → Nat → Prop) : Prop := match v with
  | .ref k => match hp[k]? with
    | some (.inst fs) => match getN n fs, getN n Z.fns with
      | none, some f => Q f k
      | _, _ => False
    | _ => False
  | _ => False
theorem mcallW_ex {hp : List VO} {n : Nat} {v : VV} {Q : Addr → Nat → Prop} (h : mcallW Z hp n v Q) : ∃ k fs f, v = .ref k ∧ hp[k]? = some (.inst fs) ∧ getN n fs = none ∧ getN n Z.fns = some f ∧ Q f k := by
  unfold mcallW at h
  split at h
  · split at h
    · split at h
      · exact ⟨_, _, _, rfl, by assumption, by assumption, by assumption, h⟩
      · exact h.elim
    · exact h.elim
  · exact h.elim
noncomputable abbrev wMeth (Z : Stc) (n : Nat) (w : WE) (ws : WA) : W0 := fun C τ Q => w C τ fun v τ1 => mcallW Z τ1.hp n v fun f k => ws C τ1 fun vs τ2 => C f (.ref k :: vs) τ2.hp fun r hp => Q r ⟨τ2.loc, hp⟩
theorem evalArgs_of {M : Model} {A : Around} {E : Value → Shared → Prop} {f : Value} {args : List (Bool × Sem Value)} {Q : Args → Shared → Prop} (hp : args.any (·.1) = false) (h : wpAny M A (spliced args) (fun vs s' => Q ⟨vs, []⟩ s') E s) : wpAny M A (evalArgs f true args []) Q E s := by
  cases args with
  | nil =>
    unfold evalArgs
    show wpAny M A (spliced [] >>= _) Q E s
    refine wpAny_bind (wpAny_mono h (fun vs s' h' => wpAny_bind (wpAny_pure ?_)) fun _ _ x => x)
    refine wpAny_holding ?_
    exact wpAny_bind (wpAny_pure (wpAny_bind (wpAny_pure (wpAny_pure h'))))
  | cons p rest =>
    obtain ⟨b, y⟩ := p
    cases b with
    | true => cases hp
    | false => exact evalArgs_plain h
theorem back_any {pos : Pos} : ∀ l : List (Bool × Sem Value), (backTo pos l).any (·.1) = l.any (·.1) := fun l => by
  unfold backTo
  rw [List.any_map]; rfl
/-- The arguments, then the call. -/
theorem SA.run {es : List Expr} {ws : WA} (h : SA G cs es ws) {C : Calls} (ok : CallsOk G Φ.A.depth C) {Q : List VV → VS → Prop} {P : Value → Shared → Prop} {pos : Pos} {f : Value} {first : List Value} {H : Heap → Prop} (S : SimX Φ W τ x s) (q : ws C τ Q)
    (hk : ∀ h, H h → ∃ k, (k = Keeper.frame ∨ k = Keeper.machine ∨ k = Keeper.boundFrame) ∧ Looks Φ.M h (keeperOf f) k)
    (k : ∀ W' a τ' v s', W.le W' → VRepL G W' a v → SimX Φ W' τ' x s' → Q a τ' → H s'.heap ∧ wpAny Φ.M Φ.A (call f (first ++ v)) P (fun _ _ => False) s') :
    wpAny Φ.M Φ.A (callWith pos f first (backTo pos (starEach es Φ.env)) (backToKw pos (keywordEach [] Φ.env))) P (fun _ _ => False) s := by
  have hp : (backTo pos (starEach es Φ.env)).any (·.1) = false := by rw [back_any]; exact h.1 _
  exact callWith_of (P := H) (by rw [hp]; rfl) hk (evalArgs_of hp (h.go ok S q fun W' a τ' v s' le r S' q' => k W' a τ' v s' le r S' q'))
theorem S0_meth {o : Expr} {es : List Expr} {n : Nat} {t : Str} {apos pos : Pos} {w : WE} {ws : WA} (h : SE G cs o w) (h' : SA G cs es ws) (hn : N n = t)
    (hc : ∀ env, ∃ pl, eval (.Call (.Attribute o t apos) es [] pos) env = (do let ov ← eval o env; standAt apos.atName; let (f, first) ← holding [ov] (getMethod ov t pl); callWith pos f first (backTo pos (starEach es env)) (backToKw pos (keywordEach [] env)))) :
    S0 G cs (.Call (.Attribute o t apos) es [] pos) (wMeth Z n w ws) := fun Φ C ok W τ x s Q S q => by
  subst hn
  obtain ⟨pl, hc⟩ := hc Φ.env
  refine methodCall_KW (he := hc) (h.go ok S q fun W1 v τ1 c s1 le r S1 q1 => ?_)
  obtain ⟨k, fs, f, rfl, e, e1, e2, q2⟩ := mcallW_ex q1
  obtain ⟨a, d, es', nn, rfl, er, I⟩ := S1.instR r e
  obtain ⟨m, n1, n2, SS⟩ := id S1
  have fr := I.rep.2.2 n
  rw [e1] at fr
  obtain ⟨FO, _⟩ := G.SO.fn n f (getN_mem e2)
  refine method_inst SS.F Φ.K I.inst G.SO.cls.get FO.find FO.fn fr ?_
  exact h'.run ok S1 q2 (keeps_K FO.keep) fun W2 as τ2 vs s2 le2 r2 S2 q3 => ⟨S2.K, wpAny_mono (ok.wp S2 (.cons (.ref (le2.at er)) r2) q3) (fun _ _ y => y.up (le.trans le2)) fun _ _ x => x⟩
/-- A bound method that a name holds is called. -/
noncomputable def vcallW (v : VV) (Q : Addr → Nat → Prop) : Prop := match v with
  | .meth f k => Q f k
  | _ => False
noncomputable abbrev wVcall (w : WE) : W0 := fun C τ Q => w C τ fun v τ1 => vcallW v fun f k => C f [.ref k] τ1.hp fun r hp => Q r ⟨τ1.loc, hp⟩
end VE
namespace VE
variable {N : Nat → Str} {Z : Stc} {G : Gl N Z} {cs : Scope} {Φ : Cx G cs} {W : Wd} {τ : VS} {s : Shared} {x : List (Addr × Obj)}
theorem vcallW_ex {v : VV} {Q : Addr → Nat → Prop} (h : vcallW v Q) : ∃ f k, v = .meth f k ∧ Q f k := by
  unfold vcallW at h
  split at h
  · exact ⟨_, _, rfl, h⟩
  · exact h.elim
theorem S0_vcall {fn : Expr} {pos : Pos} {w : WE} (h : SE G cs fn w) (he : ∀ env, eval (.Call fn [] [] pos) env = (do callWith pos (← eval fn env) [] (backTo pos (starEach [] env)) (backToKw pos (keywordEach [] env)))) : S0 G cs (.Call fn [] [] pos) (wVcall w) := fun Φ C ok W τ x s Q S q =>
  Call_ (h.go ok S q fun W1 v τ1 c s1 le r S1 q1 => by
    obtain ⟨f, k, rfl, q2⟩ := vcallW_ex q1
    cases r with
    | @meth _ q _ a d hf er hm =>
      have hg := S1.FW (.inl hm)
      exact callWith_M0 ⟨hg, S1.K⟩ hf (wpAny_call (method_call hg (codeAny_mono (ok cs Φ Φ.A Φ.hh Φ.un (by omega) W1 τ1 x s1 f _ _ _ S1 (.cons (.ref er) .nil) q2) fun r' s' ⟨v, e, r0⟩ => by
        subst e
        cases r0 with
        | val W2 a τ2 l r1 S2 q1 => obtain ⟨e1, q1⟩ := q1; exact .val W2 a τ2 (le.trans l) r1 S2 (by rw [← e1] at q1; exact q1)
        | new W2 l τ2 q vs n l' r1 S2 q1 => obtain ⟨e1, q1⟩ := q1; exact .new W2 l τ2 q vs n (le.trans l') r1 S2 (by rw [← e1] at q1; exact q1)))) ) (he _)
/-- A function as a value is called. -/
noncomputable def fnV (Z : Stc) (v : VV) (Q : Addr → Prop) : Prop := match v with
  | .p (.fn f) => gd (Z.fns.any fun p => Nat.beq p.2 f) (Q f)
  | _ => False
theorem fnV_ex {v : VV} {Q : Addr → Prop} (h : fnV Z v Q) : ∃ f n, v = .p (.fn f) ∧ (n, f) ∈ Z.fns ∧ Q f := by
  unfold fnV at h
  split at h
  · obtain ⟨h1, h2⟩ := gd_ex h
    obtain ⟨p, hp, e⟩ := List.any_eq_true.mp h1
    obtain ⟨n, f'⟩ := p
    have := Nat.eq_of_beq_eq_true e
    dsimp only at this
    subst this
    exact ⟨_, n, rfl, hp, h2⟩
  · exact h.elim
noncomputable abbrev wFcall (Z : Stc) (w : WE) (ws : WA) : W0 := fun C τ Q => w C τ fun v τ1 => fnV Z v fun f => ws C τ1 fun vs τ2 => C f vs τ2.hp fun r hp => Q r ⟨τ2.loc, hp⟩
theorem S0_fcall {fn : Expr} {es : List Expr} {pos : Pos} {w : WE} {ws : WA} (h : SE G cs fn w) (h' : SA G cs es ws) (he : ∀ env, eval (.Call fn es [] pos) env = (do callWith pos (← eval fn env) [] (backTo pos (starEach es env)) (backToKw pos (keywordEach [] env)))) : S0 G cs (.Call fn es [] pos) (wFcall Z w ws) := fun Φ C ok W τ x s Q S q =>
  Call_ (h.go ok S q fun W1 v τ1 c s1 le r S1 q1 => by
    obtain ⟨f, n, rfl, hm, q2⟩ := fnV_ex q1
    cases r with
    | p r =>
      cases r with
      | fn a _ => exact h'.run (first := []) ok S1 q2 (keeps_K (G.SO.fn n f hm).1.keep) fun W2 as τ2 vs s2 le2 r2 S2 q3 => ⟨S2.K, wpAny_mono (ok.wp S2 r2 q3) (fun _ _ y => y.up (le.trans le2)) fun _ _ x => x⟩) (he _)
/-- A function of the text's is called by its name. -/
noncomputable abbrev wCall (f : Addr) (ws : WA) : W0 := fun C τ Q => ws C τ fun vs τ2 => C f vs τ2.hp fun r hp => Q r ⟨τ2.loc, hp⟩
theorem S0_call {t : Str} {p : Pos} {es : List Expr} {pos : Pos} {ws : WA} {f : Addr} (n : Nat) (hm : (n, f) ∈ Z.globs) (h' : SA G cs es ws) (hn : N n = t) (hk : cs.names.lookup t = some .globalImplicit)
    (he : ∀ env, eval (.Call (.Name t p) es [] pos) env = (do callWith pos (← eval (.Name t p) env) [] (backTo pos (starEach es env)) (backToKw pos (keywordEach [] env)))) : S0 G cs (.Call (.Name t p) es [] pos) (wCall f ws) := fun Φ C ok W τ x s Q S q => by
  subst hn
  obtain ⟨g1, g2⟩ := G.SO.glob n f hm
  refine Call_ (Calls.Name_function_global Φ.kind hk (Calls.loadGlobal_global (env := Φ.env) ((topRead_of Φ.T).g.keeps S.base) (mg_of Φ.K (topRead_of Φ.T).g g1) ?_) (G.hN.dbg n)) (he _)
  exact h'.run (first := []) ok S q (keeps_K g2) fun W2 as τ2 vs s2 le2 r2 S2 q3 => ⟨S2.K, wpAny_mono (ok.wp S2 r2 q3) (fun _ _ y => y.up le2) fun _ _ x => x⟩
/-- A built-in function is called by its name. -/
structure BiOk (N : Nat → Str) (Z : Stc) (cs : Scope) (t : Str) (v : Value) (n : Nat) : Prop where
  nm : N n = t
  bi : memN n Z.bis = true
  k : cs.names.lookup t = some .globalImplicit
  v : bootBuiltins t = some v
  ne : t ≠ "__name__"
theorem BiOk.load {t : Str} {p : Pos} {v : Value} {n : Nat} (b : BiOk N Z cs t v n) {P : Value → Shared → Prop} (S : SimX Φ W τ x s) (h : P v s) : wpAny Φ.M Φ.A (eval (.Name t p) Φ.env) P (fun _ _ => False) s := by
  obtain ⟨hn, hb, hk, hv, ne⟩ := b
  subst hn
  exact Calls.Name_function_global Φ.kind hk (Calls.loadGlobal_builtin (env := Φ.env) ((topRead_of Φ.T).g.keeps S.base) (mg_none_of Φ.K (topRead_of Φ.T).g (G.SO.bi n (memN_mem hb))) ((topRead_of Φ.T).b.keeps S.base) (((topRead_of Φ.T).builtins _ ne).trans hv) h) (G.hN.dbg n)
theorem SA.bcall {t : Str} {p : Pos} {es : List Expr} {pos : Pos} {ws : WA} {id : String} {n : Nat} (h' : SA G cs es ws) (b : BiOk N Z cs t (Value.builtin id) n)
    (he : ∀ env, eval (.Call (.Name t p) es [] pos) env = (do callWith pos (← eval (.Name t p) env) [] (backTo pos (starEach es env)) (backToKw pos (keywordEach [] env)))) {C : Calls} (ok : CallsOk G Φ.A.depth C) {Q : List VV → VS → Prop} {P : Value → Shared → Prop} (S : SimX Φ W τ x s) (q : ws C τ Q)
    (k : ∀ W' a τ' v s', W.le W' → VRepL G W' a v → SimX Φ W' τ' x s' → Q a τ' → wpAny Φ.M Φ.A (call (.builtin id) v) P (fun _ _ => False) s') : wpAny Φ.M Φ.A (eval (.Call (.Name t p) es [] pos) Φ.env) P (fun _ _ => False) s := by
  refine Call_ (b.load S ?_) (he _)
  have hp : (backTo pos (starEach es Φ.env)).any (·.1) = false := by rw [back_any]; exact h'.1 _
  exact callWith_builtin (first := []) hp (evalArgs_of hp (h'.go ok S q fun W' a τ' v s' le r S' q' => k W' a τ' v s' le r S' q'))
theorem VRepL.one {v : VV} {cs : List Value} (r : VRepL G W [v] cs) : ∃ c, cs = [c] ∧ VRep G W v c := by
  cases r with
  | cons a b => cases b; exact ⟨_, rfl, a⟩
theorem VRepL.two {u v : VV} {cs : List Value} (r : VRepL G W [u, v] cs) : ∃ c d, cs = [c, d] ∧ VRep G W u c ∧ VRep G W v d := by
  cases r with
  | cons a b => obtain ⟨d, rfl, rd⟩ := b.one; exact ⟨_, d, rfl, a, rd⟩
noncomputable def lenW (hp : List VO) (vs : List VV) (Q : VV → Prop) : Prop := match vs with
  | [v] => ∃ l, asL hp v = some l ∧ (l.length : Int) < 2 ^ 63 ∧ Q (.p (.int l.length))
  | _ => False
noncomputable abbrev wLen (ws : WA) : WE := fun C τ Q => ws C τ fun vs τ' => lenW τ'.hp vs fun z => Q z τ'
theorem SE_len {t : Str} {p : Pos} {es : List Expr} {pos : Pos} {ws : WA} (n : Nat) (h' : SA G cs es ws) (b : BiOk N Z cs t (Value.builtin "len") n)
    (he : ∀ env, eval (.Call (.Name t p) es [] pos) env = (do callWith pos (← eval (.Name t p) env) [] (backTo pos (starEach es env)) (backToKw pos (keywordEach [] env)))) : SE G cs (.Call (.Name t p) es [] pos) (wLen ws) := fun Φ C ok W τ x s Q S q =>
  h'.bcall b he ok S q fun W1 as τ1 vs s1 le r S1 q1 => by
    unfold lenW at q1
    split at q1
    · obtain ⟨l, e, hz, q2⟩ := q1
      obtain ⟨c, rfl, rc⟩ := r.one
      obtain ⟨a, vs, rfl, hl, p⟩ := S1.asL rc e
      have e2 : vs.toArray.size = l.length := by simp [p.length]
      exact len_list hl (by rw [e2]; exact hz) ⟨W1, _, τ1, le, .of_int, S1.toks _, by rw [e2]; exact q2⟩
    · exact q1.elim
noncomputable def sumW (hp : List VO) (vs : List VV) (Q : VV → Prop) : Prop := match vs with
  | [v] => ∃ l : List Int, asL hp v = some (l.map .int) ∧ Q (.p (.int l.sum))
  | _ => False
noncomputable abbrev wSum (ws : WA) : WE := fun C τ Q => ws C τ fun vs τ' => sumW τ'.hp vs fun z => Q z τ'
/-- The library's frames as the walk's. -/
theorem SimX.fr (S : SimX Φ W τ x s) {P : Prop} (k : ∀ m news, Fr Φ.h₀ Φ.L s.heap m → News Φ.h₀ Φ.L s.heap news → (∀ h' t, Fr Φ.h₀ Φ.L h' m → News Φ.h₀ Φ.L h' news → SimX Φ W τ x { s with heap := h', toks := t }) → P) : P := by
  obtain ⟨m, n1, n2, F, Nw, nd, H, C, L, cv, o, g⟩ := id S
  exact k m _ F Nw fun h' t F' N' => ⟨m, n1, n2, F', N', nd, H, C, L, cv, o, g⟩
noncomputable def minW (vs : List VV) (Q : VV → Prop) : Prop := match vs with
  | [.p (.int i), .p (.int j)] => Q (.p (.int (if j < i then j else i)))
  | _ => False
noncomputable abbrev wMin (ws : WA) : WE := fun C τ Q => ws C τ fun vs τ' => minW vs fun z => Q z τ'
noncomputable def dmW (vs : List VV) (Q : VV → Prop) : Prop := match vs with
  | [.p (.int i), .p (.int j)] => (j ≠ 0 ∧ Builtin.divisionGoesByPylong i j = false) ∧ Q (.p (.tup [.int (Int.fdiv i j), .int (Int.fmod i j)]))
  | _ => False
noncomputable abbrev wDm (ws : WA) : WE := fun C τ Q => ws C τ fun vs τ' => dmW vs fun z => Q z τ'
/-- append, extend and pop of a list of the walk's. -/
noncomputable def ownL (hp : List VO) (v : VV) (Q : Nat → List PV → Prop) : Prop := match v with
  | .ref k => match hp[k]? with
    | some (.list l) => Q k l
    | _ => False
  | _ => False
theorem ownL_ex {hp : List VO} {v : VV} {Q : Nat → List PV → Prop} (h : ownL hp v Q) : ∃ k l, v = .ref k ∧ hp[k]? = some (.list l) ∧ Q k l := by
  unfold ownL at h
  split at h
  · split at h
    · exact ⟨_, _, rfl, by assumption, h⟩
    · exact h.elim
  · exact h.elim
noncomputable def appW (hp : List VO) (k : Nat) (v : VV) (Q : List VO → Prop) : Prop := match v, hp[k]? with
  | .p z, some (.list l) => l.length ≤ sizeLine ∧ Q (hp.set k (.list (l ++ [z])))
  | _, _ => False
noncomputable abbrev wApp (w we : WE) : WE := fun C τ Q => w C τ fun v τ1 => ownL τ1.hp v fun k _ => we C τ1 fun u τ2 => appW τ2.hp k u fun hp => Q (.p .none) ⟨τ2.loc, hp⟩
theorem SE_app {o e : Expr} {apos pos : Pos} {t : Str} {w we : WE} (h : SE G cs o w) (h' : SE G cs e we) (ht : t = "append") (he : ∀ env, starEach [e] env = (false, eval e env) :: starEach [] env)
    (hc : ∀ env, ∃ pl, eval (.Call (.Attribute o t apos) [e] [] pos) env = (do let ov ← eval o env; standAt apos.atName; let (f, first) ← holding [ov] (getMethod ov t pl); callWith pos f first (backTo pos (starEach [e] env)) (backToKw pos (keywordEach [] env)))) :
    SE G cs (.Call (.Attribute o t apos) [e] [] pos) (wApp w we) := fun Φ C ok W τ x s Q S q => by
  subst ht
  obtain ⟨pl, hc⟩ := hc Φ.env
  refine methodCall_KW (he := hc) (h.go ok S q fun W1 v τ1 c s1 le r S1 q1 => ?_)
  obtain ⟨k, l, rfl, e1, q2⟩ := ownL_ex q1
  cases r with
  | @ref _ a d er =>
    obtain ⟨vs, n, LA⟩ := S1.list e1 er
    refine getMethod_list_append LA.get rfl rfl ?_
    show wpAny Φ.M Φ.A (callWith pos (.builtin "list.append") [.ref a] (backTo pos (starEach [e] Φ.env)) []) _ _ _
    rw [he]
    refine callWith_builtin rfl (evalArgs_plain (spliced_cons (h'.go ok S1 q2 fun W2 u τ2 c2 s2 le2 r2 S2 q3 => spliced_nil ?_)))
    unfold appW at q3
    split at q3
    · rename_i z l' e2
      cases r2 with
      | p r2 =>
        obtain ⟨vs2, n2, LB⟩ := S2.list e2 (le2.at er)
        obtain ⟨m, news, news', F, Nw, U, up⟩ := LB.updU (l' ++ [z]) (vs2 ++ [c2]) (n2 + 1) (LB.rep.app r2)
        refine append_K (its := vs2.toArray) (n := n2) F Nw (by rw [List.push_toArray]; exact U) (fun h' F' N' => ?_) (by rw [List.size_toArray, LB.rep.length]; exact q3.1)
        exact ⟨W2, _, _, le.trans le2, .p (.none .nil), up h' s2.toks F' N', q3.2⟩
    · exact q3.elim
noncomputable def popW (hp : List VO) (v : VV) (Q : VV → List VO → Prop) : Prop := ownL hp v fun k l => ∃ m : List Int, l = m.map .int ∧ 0 < m.length ∧ m.length ≤ sizeLine ∧ Q (.p (.int (m.getLastD 0))) (hp.set k (.list (m.dropLast.map .int)))
noncomputable abbrev wPop (w : WE) : WE := fun C τ Q => w C τ fun v τ1 => popW τ1.hp v fun z hp => Q z ⟨τ1.loc, hp⟩
theorem SE_pop {o : Expr} {apos pos : Pos} {t : Str} {w : WE} (h : SE G cs o w) (ht : t = "pop")
    (hc : ∀ env, ∃ pl, eval (.Call (.Attribute o t apos) [] [] pos) env = (do let ov ← eval o env; standAt apos.atName; let (f, first) ← holding [ov] (getMethod ov t pl); callWith pos f first (backTo pos (starEach [] env)) (backToKw pos (keywordEach [] env)))) :
    SE G cs (.Call (.Attribute o t apos) [] [] pos) (wPop w) := fun Φ C ok W τ x s Q S q => by
  subst ht
  obtain ⟨pl, hc⟩ := hc Φ.env
  refine methodCall_KW (he := hc) (h.go ok S q fun W1 v τ1 c s1 le r S1 q1 => ?_)
  obtain ⟨k, l, rfl, e1, mm, rfl, h0, hz, q2⟩ := ownL_ex q1
  cases r with
  | @ref _ a d er =>
    obtain ⟨vs, n, LA⟩ := S1.list e1 er
    have li := LA.rep.ints
    have ln := LA.rep.length
    simp only [List.length_map] at ln
    have dr : IntsAre vs.dropLast mm.dropLast := by rw [List.dropLast_eq_take, List.dropLast_eq_take, ln]; exact li.take _
    obtain ⟨m, news, news', F, Nw, U, up⟩ := LA.updU (mm.dropLast.map .int) vs.dropLast (n + 1) (PRepL.of_ints dr)
    obtain ⟨pre, post, e3, e4, _⟩ := U.split
    refine listMethod_K (its := vs.toArray) (n := n) Nw (by rw [e3]; simp) PySem.F.slot_list_pop PySem.F.type_list_pop ?_
    show wpAny Φ.M Φ.A (callWith pos (.builtin "list.pop") [.ref a] [] []) _ _ _
    exact callWith_builtin rfl (PyProof.Rows.evalArgs_none (kpa_pop F Nw U li (by omega) (by omega) fun h' t F' N' _ => ⟨W1, _, _, le, .of_int, up h' s1.toks F' N', q2⟩))
end VE
namespace VE
variable {N : Nat → Str} {Z : Stc} {G : Gl N Z} {cs : Scope} {Φ : Cx G cs} {W : Wd} {τ : VS} {s : Shared} {x : List (Addr × Obj)}
theorem CR.other {loc : List (Nat × VV)} {n : Nat} {v : VV} : ∀ {l ns}, CR G W loc l ns → n ∉ l.map (·.1) → CR G W (putN n v loc) l ns := by
  intro l ns h
  induction h with
  | nil => intro _; exact .nil
  | @cons k c o x cs ns e f r ih =>
    intro hm
    rw [List.map_cons, List.mem_cons, not_or] at hm
    refine .cons e (fun u hu => ?_) (ih hm.2)
    rw [getN_putN, if_neg (Ne.symm hm.1)] at hu
    exact f u hu
theorem CR.put {loc : List (Nat × VV)} {n : Nat} {v : VV} {u : Value} (rv : VRep G W v u) : ∀ {l ns}, CR G W loc l ns → (l.map (·.1)).Nodup → n ∈ l.map (·.1) → ∃ c o pre post, (n, c) ∈ l ∧ (∃ y, o.data = .cell y) ∧ ns = pre ++ (c, o) :: post ∧ ∀ o', o'.data = .cell (some u) → CR G W (putN n v loc) l (pre ++ (c, o') :: post) := by
  intro l ns h
  induction h with
  | nil => intro _ hm; cases hm
  | @cons k c o x cs ns e f r ih =>
    intro nd hm
    rw [List.map_cons, List.nodup_cons] at nd
    by_cases hk : n = k
    · subst hk
      refine ⟨c, o, [], ns, .head _, ⟨x, e⟩, rfl, fun o' e' => .cons e' (fun w hw => ?_) (r.other nd.1)⟩
      rw [getN_putN, if_pos rfl] at hw
      cases hw
      exact ⟨u, rfl, rv⟩
    · obtain ⟨c', o', pre, post, h1, h2, h3, h4⟩ := ih nd.2 (by
        rcases List.mem_cons.mp hm with q | q
        · exact absurd q hk
        · exact q)
      subst h3
      refine ⟨c', o', (c, o) :: pre, post, .tail _ h1, h2, rfl, fun o'' e' => .cons e (fun w hw => ?_) (h4 o'' e')⟩
      rw [getN_putN, if_neg (Ne.symm hk)] at hw
      exact f w hw
/-- A name is stored. -/
theorem SimX.store (S : SimX Φ W τ x s) {n : Nat} {v : VV} {c : Value} (r : VRep G W v c) (hl : cs.names.lookup (N n) = some .local ∨ cs.names.lookup (N n) = some .cell ∧ cs.names.lookup (N Z.topn) = some .local) {P : Unit → Shared → Prop} (k : ∀ s', SimX Φ W ⟨putN n v τ.loc, τ.hp⟩ x s' → P () s') :
    wpAny Φ.M Φ.A (storeName Φ.env (N n) c) P (fun _ _ => False) s := by
  obtain ⟨m, n1, n2, F, Nw, nd, H, C, L, cv, o, g⟩ := id S
  rcases hl with hl | ⟨hl, ht⟩
  · have nc : n ∉ Φ.cv.map (·.1) := fun hm => by
      obtain ⟨⟨n', a⟩, hp, e⟩ := List.mem_map.mp hm
      have e : n' = n := e
      subst e
      rcases (cv _ a hp).1 with q | q <;> rw [hl] at q <;> cases q
    refine wpAny_storeName_local hl F.ns (fun h' hn hs => k _ ⟨_, n1, n2, F.set hn hs, Nw.set hs, nd, H, C.other nc, fun j u e => ?_, cv, o, g⟩)
      (by show (cs.kind == .class || (cs.kind == .module && Φ.L != mainGlobals)) = false; rw [Φ.kind]; rfl)
    rw [getN_putN] at e
    by_cases hj : j = n
    · subst hj
      rw [if_pos rfl] at e
      cases e
      exact .loc c hl (by simp) r
    · rw [if_neg hj] at e
      cases L j u e with
      | loc d a b rd =>
        refine .loc d a ?_ rd
        show (if N j = N n then some c else m (N j)) = some d
        rw [if_neg (fun z => hj (G.hN.inj _ _ z))]
        exact b
      | cell a => exact .cell a
      | fix c u a b d r => exact .fix c u a b d r
  · have hm := Φ.cvin ht n hl
    obtain ⟨a, co, pre, post, h1, ⟨y, hy⟩, rfl, h4⟩ := C.put r Φ.cvnd hm
    obtain ⟨_, hc⟩ := cv n a h1
    have Nw' : News Φ.h₀ Φ.L s.heap ((x ++ n1 ++ pre) ++ (a, co) :: (post ++ W.fro)) := by simpa using Nw
    have nd' : (((x ++ n1 ++ pre) ++ (a, co) :: (post ++ W.fro)).map (·.1)).Nodup := by simpa using nd
    have hg := (Nw' (a, co) (by simp)).1
    refine wpAny_storeName_cell Φ.kind hl hc ⟨co, hg, hy⟩ fun h' ⟨co', hg', hd'⟩ sb => k _ ?_
    obtain ⟨F2, N2⟩ := changed F Nw' (updOf (o' := co') nd') hg' sb
    refine ⟨m, n1, pre ++ (a, co') :: post, F2, by simpa using N2, by simpa using nd', H, h4 co' hd', fun j u e => ?_, cv, o, g⟩
    rw [getN_putN] at e
    by_cases hj : j = n
    · subst hj; exact .cell hm
    · rw [if_neg hj] at e; exact L j u e
inductive Fl where
  | next | brk | cont
  | ret (v : VV)
inductive FRel (G : Gl N Z) (W : Wd) : Fl → Flow → Prop
  | next : FRel G W .next .next
  | brk : FRel G W .brk .brk
  | cont : FRel G W .cont .cont
  | ret {v : VV} {c : Value} : VRep G W v c → FRel G W (.ret v) (.ret c)
noncomputable abbrev WX := Calls → VS → (Fl → VS → Prop) → Prop
inductive RF (Φ : Cx G cs) (W : Wd) (x : List (Addr × Obj)) (Q : Fl → VS → Prop) (f : Flow) (s : Shared) : Prop where
  | mk (W' : Wd) (a : Fl) (τ : VS) (le : W.le W') (r : FRel G W' a f) (S : SimX Φ W' τ x s) (q : Q a τ)
theorem RF.up {W' : Wd} {Q : Fl → VS → Prop} {f : Flow} {s : Shared} (le : W.le W') (h : RF Φ W' x Q f s) : RF Φ W x Q f s := by cases h with | mk W1 a τ l r S q => exact ⟨W1, a, τ, le.trans l, r, S, q⟩
noncomputable def SX (G : Gl N Z) (cs : Scope) (st : Stmt) (w : WX) : Prop := ∀ (Φ : Cx G cs) C, CallsOk G Φ.A.depth C → ∀ W τ x s Q, SimX Φ W τ x s → w C τ Q → wpAny Φ.M Φ.A (exec st Φ.env) (RF Φ W x Q) (fun _ _ => False) s
noncomputable def SB (G : Gl N Z) (cs : Scope) (ss : List Stmt) (w : WX) : Prop := ∀ (Φ : Cx G cs) C, CallsOk G Φ.A.depth C → ∀ W τ x s Q, SimX Φ W τ x s → w C τ Q → wpAny Φ.M Φ.A (execs ss Φ.env) (RF Φ W x Q) (fun _ _ => False) s
noncomputable abbrev wNil : WX := fun _ τ Q => Q .next τ
theorem SB_nil : SB G cs [] wNil := fun Φ C ok W τ x s Q S q => wpAny_execs_nil ⟨W, .next, τ, .refl W, .next, S, q⟩
noncomputable abbrev thenF (f : Fl) (p : Prop) (q : Prop) : Prop := match f with
  | .next => p
  | _ => q
noncomputable abbrev wSeq (a b : WX) : WX := fun C τ Q => a C τ fun f τ' => thenF f (b C τ' Q) (Q f τ')
theorem SB_cons {st : Stmt} {rest : List Stmt} {a b : WX} (h : SX G cs st a) (h' : SB G cs rest b) : SB G cs (st :: rest) (wSeq a b) := fun Φ C ok W τ x s Q S q =>
  wpAny_execs_cons (wpAny_mono (h Φ C ok W τ x s _ S q) (fun f s' r => by
    cases r with
    | mk W1 a τ1 le r S1 q1 =>
      cases r with
      | next => exact wpAny_mono (h' Φ C ok W1 τ1 x s' Q S1 q1) (fun _ _ y => y.up le) fun _ _ y => y
      | brk => exact ⟨W1, .brk, τ1, le, .brk, S1, q1⟩
      | cont => exact ⟨W1, .cont, τ1, le, .cont, S1, q1⟩
      | ret rv => exact ⟨W1, _, τ1, le, .ret rv, S1, q1⟩) fun _ _ y => y)
theorem interactive_no : interactive Φ.env = false := by
  unfold interactive
  show (cs.kind == .module && _) = false
  rw [Φ.kind]; rfl
/-- What is never come to. -/
noncomputable abbrev wDead : WX := fun _ _ _ => False
theorem SB_dead {ss : List Stmt} : SB G cs ss wDead := fun Φ C ok W τ x s Q S q => q.elim
noncomputable abbrev wPass : WX := fun _ τ Q => Q .next τ
theorem SX_pass {pos : Pos} : SX G cs (.Pass pos) wPass := fun Φ C ok W τ x s Q S q => wpAny_Pass ⟨W, .next, τ, .refl W, .next, S, q⟩
noncomputable abbrev wBrk : WX := fun _ τ Q => Q .brk τ
noncomputable abbrev wExpr (w : WE) : WX := fun C τ Q => w C τ fun _ τ' => Q .next τ'
theorem SX_expr {e : Expr} {pos : Pos} {w : WE} (h : SE G cs e w) (hs : ∀ env, swapsWith e none pos.line env = pure false) : SX G cs (.Expr e pos) (wExpr w) := fun Φ C ok W τ x s Q S q =>
  wpAny_Expr_any (h.go ok S q fun W1 v τ1 c s1 le r S1 q1 => ⟨W1, .next, τ1, le, .next, S1, q1⟩) interactive_no (hs _)
noncomputable abbrev wRet (w : WE) : WX := fun C τ Q => w C τ fun v τ' => Q (.ret v) τ'
theorem SX_ret {e : Expr} {pos : Pos} {w : WE} (h : SE G cs e w) : SX G cs (.Return (some e) pos) (wRet w) := fun Φ C ok W τ x s Q S q =>
  wpAny_Return_some (h.go ok S q fun W1 v τ1 c s1 le r S1 q1 => ⟨W1, .ret v, τ1, le, .ret r, S1, q1⟩)
noncomputable abbrev wRet0 : WX := fun _ τ Q => Q (.ret (.p .none)) τ
theorem SX_ret0 {pos : Pos} : SX G cs (.Return none pos) wRet0 := fun Φ C ok W τ x s Q S q => wpAny_Return_none ⟨W, .ret (.p .none), τ, .refl W, .ret (.p (.none .nil)), S, q⟩
noncomputable abbrev wIf (t : WT) (a b : WX) : WX := fun C τ Q => t C τ fun c τ' => brW c (a C τ' Q) (b C τ' Q)
theorem SX_if {test : Expr} {body orelse : List Stmt} {pos : Pos} {t : WT} {a b : WX} (ht : ST G cs test t) (ha : SB G cs body a) (hb : SB G cs orelse b) : SX G cs (.If test body orelse pos) (wIf t a b) := fun Φ C ok W τ x s Q S q =>
  wpAny_If (ht.go ok S q fun W1 c τ1 s1 le S1 q1 => by
    cases c with
    | true => rw [if_pos rfl]; exact wpAny_mono (ha Φ C ok _ _ _ _ _ S1 q1) (fun _ _ r => r.up le) fun _ _ x => x
    | false => rw [if_neg (by decide)]; exact wpAny_mono (hb Φ C ok _ _ _ _ _ S1 q1) (fun _ _ r => r.up le) fun _ _ x => x)
/-- x = e. -/
noncomputable def kindOk (N : Nat → Str) (Z : Stc) (cs : Scope) (n : Nat) : Prop := cs.names.lookup (N n) = some .local ∨ cs.names.lookup (N n) = some .cell ∧ cs.names.lookup (N Z.topn) = some .local
noncomputable abbrev wAsg (n : Nat) (w : WE) : WX := fun C τ Q => w C τ fun v τ' => Q .next ⟨putN n v τ'.loc, τ'.hp⟩
theorem SX_asg {n : Nat} {t : Str} {np pos : Pos} {value : Expr} {w : WE} (h : SE G cs value w) (hn : N n = t) (hl : kindOk N Z cs n) (hs : ∀ Φ : Cx G cs, swapsWith value (some (.Name t np)) pos.line Φ.env = pure false) : SX G cs (.Assign [.Name t np] value pos) (wAsg n w) := fun Φ C ok W τ x s Q S q => by
  subst hn
  exact wpAny_Assign_Name (h.go ok S q fun W1 v τ1 c s1 le r S1 q1 => S1.store r hl fun s2 S2 => ⟨W1, .next, _, le, .next, S2, q1⟩) (hs Φ)
/-- x = a list just made, which becomes one of the walk's objects. -/
noncomputable def ownW (r : Rs) (hp : List VO) (Q : VV → List VO → Prop) : Prop := match r with
  | .new l => Q (.ref hp.length) (hp ++ [.list l])
  | .val _ => False
noncomputable abbrev wOwn (n : Nat) (w : W0) : WX := fun C τ Q => w C τ fun r τ' => ownW r τ'.hp fun v hp => Q .next ⟨putN n v τ'.loc, hp⟩
theorem SX_own {n : Nat} {t : Str} {np pos : Pos} {value : Expr} {w : W0} (h : S0 G cs value w) (hn : N n = t) (hl : kindOk N Z cs n) (hs : ∀ Φ : Cx G cs, swapsWith value (some (.Name t np)) pos.line Φ.env = pure false) : SX G cs (.Assign [.Name t np] value pos) (wOwn n w) := fun Φ C ok W τ x s Q S q => by
  subst hn
  refine wpAny_Assign_Name (wpAny_mono (h Φ C ok W τ x s _ S q) (fun c s1 r0 => ?_) fun _ _ y => y) (hs Φ)
  cases r0 with
  | val W1 a τ1 le r S1 q1 => exact q1.elim
  | new W1 l τ1 q vs k le r S1 q1 =>
    obtain ⟨W2, le2, e2, S2⟩ := S1.own r
    exact S2.store (.ref e2) hl fun s2 S3 => ⟨W2, .next, _, le.trans le2, .next, S3, q1⟩
end VE
namespace VE
variable {N : Nat → Str} {Z : Stc} {G : Gl N Z} {cs : Scope} {Φ : Cx G cs} {W : Wd} {τ : VS} {s : Shared} {x : List (Addr × Obj)}
theorem putL_length (name : Str) (hsh : Int) (key v : Value) : ∀ es : List DictEntry, (putL name hsh key v es).length = if es.any (·.key.isStr name) then es.length else es.length + 1 := by
  intro es
  induction es with
  | nil => rfl
  | cons e r ih =>
    simp only [putL, List.any_cons]
    by_cases h : e.key.isStr name = true
    · simp [h]
    · simp only [h, if_false, List.length_cons, Bool.false_or, ih, Bool.false_eq_true]; split <;> rfl
theorem putL_refKey (name : Str) (hsh : Int) (key v : Value) (hk : (⟨hsh, key, v⟩ : DictEntry).refKey = false) : ∀ es : List DictEntry, es.any (·.refKey) = false → (putL name hsh key v es).any (·.refKey) = false := by
  intro es
  induction es with
  | nil => intro _; simp [putL, hk]
  | cons e r ih =>
    intro h
    rw [List.any_cons, Bool.or_eq_false_iff] at h
    simp only [putL]
    split
    · rw [List.any_cons, Bool.or_eq_false_iff]; exact ⟨h.1, h.2⟩
    · rw [List.any_cons, Bool.or_eq_false_iff]; exact ⟨h.1, ih h.2⟩
theorem putL_find_self (name : Str) (hsh : Int) (key v : Value) (hk : key.isStr name = true) : ∀ es : List DictEntry, ((putL name hsh key v es).find? (·.key.isStr name)).map (·.val) = some v := by
  intro es
  induction es with
  | nil => simp [putL, hk]
  | cons e r ih =>
    simp only [putL]
    split
    · rename_i h; simp [h]
    · rename_i h; simp only [List.find?_cons]; simp only [Bool.not_eq_true] at h; rw [h]; exact ih
theorem putL_find_other (name name' : Str) (hsh : Int) (key v : Value) (hk : key.isStr name' = false) (hn : ∀ k : Value, k.isStr name = true → k.isStr name' = false) : ∀ es : List DictEntry, ((putL name hsh key v es).find? (·.key.isStr name')).map (·.val) = (es.find? (·.key.isStr name')).map (·.val) := by
  intro es
  induction es with
  | nil => simp [putL, hk]
  | cons e r ih =>
    simp only [putL]
    split
    · rename_i h; simp only [List.find?_cons, hn _ h]
    · simp only [List.find?_cons]
      split
      · rfl
      · exact ih
theorem getL_of (name : Str) (es : List DictEntry) (h : es.any (·.refKey) = false) : getL name es = some ((es.find? (·.key.isStr name)).map (·.val)) := by
  unfold getL
  cases hf : es.find? (·.key.isStr name) with
  | none => simp [h]
  | some e => rfl
theorem isStr_str (a b : Str) (t : Tok) : (Value.str a t).isStr b = (a == b) := rfl
theorem isStr_ne {a b : Str} (h : a ≠ b) : ∀ k : Value, k.isStr a = true → k.isStr b = false := fun k hk => by
  cases k <;> first | (cases hk; done) | skip
  rename_i x t
  rw [isStr_str] at hk ⊢
  have := beq_iff_eq.mp hk
  subst this
  exact beq_eq_false_iff_ne.mpr h
theorem FRep.put (hN : ∀ i j, N i = N j → i = j) {fs : List (Nat × VV)} {es : List DictEntry} (h : FRep G W fs es) (n : Nat) (a : VV) {v : Value} (hr : VRep G W a v) (hsh : Int) (t : Tok) :
    FRep G W (putN n a fs) (putL (N n) hsh (.str (N n) t) v es) := by
  obtain ⟨hl, hk, hg⟩ := h
  have hk' := putL_refKey (N n) hsh (.str (N n) t) v rfl es hk
  refine ⟨?_, hk', fun k => ?_⟩
  · rw [putL_length, putN_length, hl]
    have := hg n
    rw [getL_of _ _ hk] at this
    cases hq : getN n fs with
    | none =>
      rw [hq] at this
      have e : es.find? (·.key.isStr (N n)) = none := by simpa using this
      have : es.any (·.key.isStr (N n)) = false := by
        rw [← Bool.not_eq_true, List.any_eq_true]
        rintro ⟨x, hx, q⟩
        exact absurd q (by simpa using List.find?_eq_none.mp e x hx)
      rw [this]; rfl
    | some u =>
      rw [hq] at this
      obtain ⟨c, e, _⟩ := this
      have e : (es.find? (·.key.isStr (N n))).map (·.val) = some c := by simpa using e
      obtain ⟨x, hx, _⟩ := Option.map_eq_some_iff.mp e
      have : es.any (·.key.isStr (N n)) = true := List.any_eq_true.mpr ⟨x, List.mem_of_find?_eq_some hx, by simpa using List.find?_some hx⟩
      rw [this]; rfl
  · rw [getN_putN, getL_of _ _ hk']
    by_cases e : k = n
    · subst e
      rw [if_pos rfl, putL_find_self _ _ _ _ (by rw [isStr_str]; exact beq_self_eq_true _)]
      exact ⟨v, rfl, hr⟩
    · rw [if_neg e]
      have ne : N n ≠ N k := fun q => e (hN _ _ q).symm
      rw [putL_find_other _ _ _ _ _ (isStr_ne ne _ (by rw [isStr_str]; exact beq_self_eq_true _)) (isStr_ne ne)]
      have := hg k
      rw [getL_of _ _ hk] at this
      exact this
/-- A field is stored. -/
noncomputable def setAW (Z : Stc) (hp : List VO) (n : Nat) (u v : VV) (Q : List VO → Prop) : Prop := match u with
  | .ref k => match hp[k]? with
    | some (.inst fs) => gd (memN n Z.flds && Nat.ble fs.length 900) (Q (hp.set k (.inst (putN n v fs))))
    | _ => False
  | _ => False
theorem setAW_run {n : Nat} {u v : VV} {c d : Value} {Q : List VO → Prop} {P : Unit → Shared → Prop} (S : SimX Φ W τ x s) (ru : VRep G W u c) (rv : VRep G W v d) (h : setAW Z τ.hp n u v Q) (k : ∀ hp s', SimX Φ W ⟨τ.loc, hp⟩ x s' → Q hp → P () s') :
    wpAny Φ.M Φ.A (setAttr c (N n) d) P (fun _ _ => False) s := by
  unfold setAW at h
  split at h
  · split at h
    · rename_i fs e
      obtain ⟨a, dd, es, nn, rfl, er, I⟩ := S.instR ru e
      obtain ⟨h1, h2⟩ := gd_ex h
      obtain ⟨h0, h1⟩ := Bool.and_eq_true_iff.mp h1
      have h1 := Nat.le_of_ble_eq_true h1
      have FO := G.SO.fld n (memN_mem h0)
      have P := I.rep.put G.hN.inj n v rv (PyData.keyHash G.w.params (N n)) (s.toks + 1)
      obtain ⟨m, news, news', F, Nw, U, up⟩ := I.updU (VE.putN n v fs) _ (PySem.W.putN (N n) es nn) P
      refine PySem.W.set_dict F Φ.K Nw I.inst rfl G.SO.cls.set G.SO.cls.over FO.taker G.SO.cls.has (by rw [getL_of _ _ I.rep.2.1]; rfl) rfl U ?_ fun h' F' N' => k _ _ (up h' (s.toks + 2) F' N') h2
      rw [P.1, putN_length]
      split <;> omega
    · exact h.elim
  · exact h.elim
/-- An item is stored. -/
noncomputable def setIW (hp : List VO) (u i v : VV) (Q : List VO → Prop) : Prop := match u, i, v with
  | .ref k, .p (.int j), .p z => match hp[k]? with
    | some (.list l) => (0 ≤ j ∧ j < l.length ∧ j < 2 ^ 63) ∧ Q (hp.set k (.list (l.set j.toNat z)))
    | _ => False
  | _, _, _ => False
theorem setItem_at {prog : Program} {w : World} {A : Around} {E : Value → Shared → Prop} {l : Addr} {its : Array Value} {n : Nat} {k : Int} {t : Tok} {v : Value} {Q : Unit → Shared → Prop} (ho : s.heap.get? l = some (listOf its n)) (h0 : 0 ≤ k) (hhi : k < 2 ^ 63) (hj : k.toNat < its.size)
    (h : ∀ h', Heap.SameBut l s.heap h' → h'.get? l = some (listOf (its.setIfInBounds k.toNat v) n) → Q () { s with heap := h' }) :
    wpAny (model prog w) A (setItem (.ref l) (.int k t) v) Q E s := by
  have hT : s.TypeIs (.ref l) "list" := ⟨_, ho, rfl⟩
  have hx : its[k.toNat]? = some its[k.toNat] := Array.getElem?_eq_getElem hj
  have fin : (s.heap.update l (Obj.mapSeq (·.setIfInBounds k.toNat v))).get? l = some (listOf (its.setIfInBounds k.toNat v) n) := by
    have e : Obj.mapSeq (·.setIfInBounds k.toNat v) (listOf its n) = listOf (its.setIfInBounds k.toNat v) n := by simp [Obj.mapSeq, PySem.W.listOf]
    rw [Heap.get?_update_self _ ho (by rw [e]; rfl), e]
  unfold setItem
  try with_reducible refine wpAny_holding ?_
  first | refine wpAny_bind (wpAny_pure ?_) | skip
  refine wpAny_bind (wpAny_sequenceKey hT (by decide) ?_)
  refine wpAny_bind (wpAny_callSpecial?_slot (name := Str.ofString "__setitem__") hT slot_list_setitem (wpAny_call_entry slot_list_setitem hT entry_list_setitem ?_ (args_list_setitem _ _ _)))
  show wpAny _ _ (Builtin.List.listSubscript? (.int k t) >>= _) _ _ s
  refine wpAny_bind (wpAny_listSubscript_int (by unfold Builtin.List.listFitsIndex; simp only [Bool.and_eq_true, decide_eq_true_eq]; omega) ?_)
  have store : wpAny (model prog w) A.in1 (setSeqItemAt l k.toNat v) (fun _ s' => Q () s') E s := wpAny_setSeqItemAt ho rfl (h _ (Heap.SameBut.update ..) fin)
  cases k with
  | ofNat m =>
    show wpAny _ _ ((seqItemAt l m >>= fun r => pure (r.map (m, ·))) >>= _) _ _ s
    refine wpAny_bind (wpAny_bind (wpAny_seqItemAt ho rfl (wpAny_pure ?_)))
    have hx : its[m]? = some its[m] := hx
    rw [hx]
    show wpAny _ _ (setSeqItemAt l m v >>= _) _ _ s
    refine wpAny_bind (wpAny_mono store (fun _ s' q => ?_) fun _ _ q => q)
    first
      | exact wpAny_bind (wpAny_pure (wpAny_pure ⟨.none, rfl, wpAny_pure q⟩))
      | exact wpAny_pure ⟨.none, rfl, wpAny_pure q⟩
  | negSucc m => exact absurd h0 (by omega)
theorem setIW_run {u i v : VV} {c e d : Value} {Q : List VO → Prop} {P : Unit → Shared → Prop} (S : SimX Φ W τ x s) (ru : VRep G W u c) (ri : VRep G W i e) (rv : VRep G W v d) (h : setIW τ.hp u i v Q) (k : ∀ hp s', SimX Φ W ⟨τ.loc, hp⟩ x s' → Q hp → P () s') :
    wpAny Φ.M Φ.A (setItem c e d) P (fun _ _ => False) s := by
  unfold setIW at h
  split at h
  · rename_i kk j z
    split at h
    · rename_i l el
      obtain ⟨⟨h0, h1, h2⟩, q⟩ := h
      obtain ⟨t, rfl⟩ := ri.int
      cases ru with
      | @ref _ a dd er =>
        cases rv with
        | p rv =>
          obtain ⟨vs, n, LA⟩ := S.list el er
          refine setItem_at LA.get h0 h2 (by rw [List.size_toArray, LA.rep.length]; omega) fun h' sb e1 => k _ _ (LA.upd (l.set j.toNat z) (vs.set j.toNat d) n h' s.toks (PRepL.set _ rv LA.rep) sb (by rw [e1]; simp)) q
    · exact h.elim
  · exact h.elim
/-- op= of two values. -/
noncomputable def asX (hp : List VO) : VV → Option (List PV)
  | .p (.lst l) => some l
  | .ref k => match hp[k]? with
    | some (.list l) => some l
    | _ => none
  | _ => none
noncomputable def iopW (op : Operator) (hp : List VO) (u v : VV) (Q : VV → List VO → Prop) : Prop := match u with
  | .p (.int i) => match v with
    | .p (.int j) => match op with
      | .Add => Q (.p (.int (i + j))) hp
      | .Sub => Q (.p (.int (i - j))) hp
      | .BitAnd => Q (.p (.int (Builtin.bitAnd i j))) hp
      | .BitOr => Q (.p (.int (Builtin.bitOr i j))) hp
      | .BitXor => Q (.p (.int (Builtin.bitXor i j))) hp
      | _ => False
    | _ => False
  | .ref k => match op with
    | .Add => ∃ l r, hp[k]? = some (.list l) ∧ asX hp v = some r ∧ l.length + r.length ≤ sizeLine ∧ Q (.ref k) (hp.set k (.list (l ++ r)))
    | _ => False
  | _ => False
theorem SimX.asX (S : SimX Φ W τ x s) {v : VV} {c : Value} {l : List PV} (r : VRep G W v c) (e : VE.asX τ.hp v = some l) : ∃ a vs n, c = .ref a ∧ s.heap.get? a = some (listOf vs.toArray n) ∧ PRepL (VE.FW G W) l vs := by
  cases r with
  | p r =>
    cases r <;> simp only [VE.asX] at e <;> first | (cases e; done) | skip
    rename_i a ws n l' f p _
    cases e
    exact ⟨a, ws, n, rfl, S.FW f, p⟩
  | @ref k a d e' =>
    simp only [VE.asX] at e
    split at e
    · rename_i l' hk
      cases e
      obtain ⟨vs, n, LA⟩ := S.list hk e'
      exact ⟨a, vs, n, rfl, LA.get, LA.rep⟩
    · cases e
  | meth => simp [VE.asX] at e
theorem fills_list_iadd : fillsInplaceSlot (.type "list") "add" (Operator.Add == .Add) = pure false := by
  unfold fillsInplaceSlot
  show (typeLookup (.type "list") (dunderI "add") >>= fun fi => pure (fi.isSome && !isSeqSlot fi)) = pure false
  rw [PySem.F.slot_list_iadd.lookup]
  kernel_rfl
theorem seq_list_iadd : seqSlot? (.type "list") (dunderI "add") = pure (some (.builtin "list.__iadd__")) := PySem.seqSlot_of PySem.F.slot_list_iadd.lookup (by decide +kernel)
theorem iadd_list {l b : Addr} {items items2 : Array Value} {n n2 : Nat} {Q : Value → Shared → Prop} {E : Value → Shared → Prop} (hl : s.heap.get? l = some (listOf items n)) (hb : s.heap.get? b = some (listOf items2 n2)) (hz : items.size + items2.size ≤ sizeLine)
    (h : Q (.ref l) { s with heap := s.heap.update l (Obj.mapSeq fun x => x ++ items2) }) : wpAny Φ.M Φ.A (inplaceOp .Add (.ref l) (.ref b)) Q E s := by
  have ha : s.TypeIs (.ref l) "list" := ⟨_, hl, rfl⟩
  have hb' : s.TypeIs (.ref b) "list" := ⟨_, hb, rfl⟩
  unfold inplaceOp
  refine wpAny_holding ?_
  refine wpAny_bind (wpAny_typeOf ha (wpAny_bind (wpAny_of_eq fills_list_iadd ?_)))
  show wpAny _ _ (if false = true then _ else _) Q E s
  rw [if_neg Bool.false_ne_true]
  refine wpAny_bind (wpAny_binaryOp1_none (nm := "add") ha hb' noFill_list_add ?_)
  refine wpAny_bind (wpAny_of_eq seq_list_iadd ?_)
  refine wpAny_bind (wpAny_rule ?_)
  refine call_meets PySem.F.slot_list_iadd ha PySem.F.entry_list_iadd (PySem.F.args_list_iadd_2 _ _) (AutoSeq1.list___iadd___list_list_0 l items n b items2 n2 ?_ ?_ ?_) ⟨hl, hb, ?_⟩
  · rw [show Builtin.List.listTooLong (items.size + items2.size) = false from decide_eq_false (Nat.not_lt.mpr hz), Bool.and_false]
    exact Bool.false_ne_true
  · exact Nat.le_trans (Nat.le_add_right _ _) hz
  · exact Nat.le_succ_of_le hz
  · exact h
theorem iopW_run {op : Operator} {u v : VV} {c d : Value} {Q : VV → List VO → Prop} {P : Value → Shared → Prop} (S : SimX Φ W τ x s) (ru : VRep G W u c) (rv : VRep G W v d) (h : iopW op τ.hp u v Q) (k : ∀ z e hp s', VRep G W z e → SimX Φ W ⟨τ.loc, hp⟩ x s' → Q z hp → P e s') :
    wpAny Φ.M Φ.A (inplaceOp op c d) P (fun _ _ => False) s := by
  unfold iopW at h
  split at h
  · split at h
    · obtain ⟨t, rfl⟩ := ru.int
      obtain ⟨t', rfl⟩ := rv.int
      split at h
      · exact iadd_int (k _ _ _ _ .of_int (S.toks _) h)
      · exact isub_int (k _ _ _ _ .of_int (S.toks _) h)
      · exact iand_int (k _ _ _ _ .of_int (S.toks _) h)
      · exact ior_int (k _ _ _ _ .of_int (S.toks _) h)
      · exact ixor_int (k _ _ _ _ .of_int (S.toks _) h)
      · exact h.elim
    · exact h.elim
  · split at h
    · obtain ⟨l, r, el, er, hz, q⟩ := h
      cases ru with
      | @ref _ a dd era =>
        obtain ⟨vs, n, LA⟩ := S.list el era
        obtain ⟨b, ws, n2, rfl, hb, p⟩ := S.asX rv er
        have e : ∃ n', Obj.mapSeq (fun x => x ++ ws.toArray) (listOf vs.toArray n) = listOf (vs ++ ws).toArray n' := ⟨_, by
          rw [← List.append_toArray]; rfl⟩
        obtain ⟨n', e⟩ := e
        refine iadd_list LA.get hb (by rw [List.size_toArray, List.size_toArray, LA.rep.length, p.length]; exact hz) (k _ _ _ _ (.ref era) (LA.upd (l ++ r) (vs ++ ws) n' _ s.toks (LA.rep.app p) (Heap.SameBut.update ..) ?_) q)
        rw [Heap.get?_update_self _ LA.get (by rw [e]; rfl), e]
    · exact h.elim
  · exact h.elim
end VE
namespace VE
variable {N : Nat → Str} {Z : Stc} {G : Gl N Z} {cs : Scope} {Φ : Cx G cs} {W : Wd} {τ : VS} {s : Shared} {x : List (Addr × Obj)}
/-- o.n = e -/
noncomputable abbrev wAsA (Z : Stc) (n : Nat) (o e : WE) : WX := fun C τ Q => e C τ fun v τ1 => o C τ1 fun u τ2 => setAW Z τ2.hp n u v fun hp => Q .next ⟨τ2.loc, hp⟩
theorem SX_asA {n : Nat} {t : Str} {o value : Expr} {np pos : Pos} {wo we : WE} (h : SE G cs value we) (h' : SE G cs o wo) (hn : N n = t) (hs : ∀ env, swapsWith value (some (.Attribute o t np)) pos.line env = pure false) : SX G cs (.Assign [.Attribute o t np] value pos) (wAsA Z n wo we) := fun Φ C ok W τ x s Q S q => by
  subst hn
  exact plainObj_wpAny_Assign_Attribute (h.go ok S q fun W1 v τ1 c s1 le1 r1 S1 q1 => h'.go ok S1 q1 fun W2 u τ2 d s2 le2 r2 S2 q2 =>
    setAW_run S2 r2 (r1.mono le2) q2 fun hp s3 S3 q3 => ⟨W2, .next, _, le1.trans le2, .next, S3, q3⟩) (hs _)
/-- o[i] = e -/
noncomputable abbrev wAsS (o i e : WE) : WX := fun C τ Q => e C τ fun v τ1 => o C τ1 fun u τ2 => i C τ2 fun j τ3 => setIW τ3.hp u j v fun hp => Q .next ⟨τ3.loc, hp⟩
theorem SX_asS {o i value : Expr} {np pos : Pos} {wo wi we : WE} (h : SE G cs value we) (h' : SE G cs o wo) (h'' : SE G cs i wi) (hs : ∀ env, swapsWith value (some (.Subscript o i np)) pos.line env = pure false) : SX G cs (.Assign [.Subscript o i np] value pos) (wAsS wo wi we) := fun Φ C ok W τ x s Q S q =>
  wpAny_Assign_Subscript (h.go ok S q fun W1 v τ1 c s1 le1 r1 S1 q1 => h'.go ok S1 q1 fun W2 u τ2 d s2 le2 r2 S2 q2 => h''.go ok S2 q2 fun W3 j τ3 e s3 le3 r3 S3 q3 =>
    setIW_run S3 (r2.mono le3) r3 (r1.mono (le2.trans le3)) q3 fun hp s4 S4 q4 => ⟨W3, .next, _, (le1.trans le2).trans le3, .next, S4, q4⟩) (hs _)
/-- x op= e -/
noncomputable abbrev wAuN (n : Nat) (op : Operator) (e : WE) : WX := fun C τ Q => match getN n τ.loc with
  | some u => e C τ fun v τ1 => iopW op τ1.hp u v fun z hp => Q .next ⟨putN n z τ1.loc, hp⟩
  | none => False
theorem loadN {n : Nat} {v : VV} (hv : getN n τ.loc = some v) (S : SimX Φ W τ x s) {P : Value → Shared → Prop} (k : ∀ c, VRep G W v c → P c s) : wpAny Φ.M Φ.A (loadName Φ.env (N n)) P (fun _ _ => False) s := by
  obtain ⟨m, n1, n2, F, Nw, nd, H, Cc, L, cv, o, g⟩ := id S
  rcases L n v hv with ⟨c, hl, hc, r⟩ | hm | ⟨c, u, hk, hc, ho, r⟩
  · exact wpAny_loadName_local Φ.kind hl F.ns hc (k c r)
  rotate_left
  · have ho := ho.keeps F.keep
    rcases hk with hk | hk
    · exact wpAny_loadName_cell Φ.kind hk hc ho (k u r)
    · exact wpAny_loadName_free Φ.kind hk hc ho (k u r) (G.hN.cd n)
  · obtain ⟨c, co, u, h1, h2, h3, r⟩ := Cc.at hv hm
    obtain ⟨hk, hc⟩ := cv n c h1
    have ho : s.heap.IsCell c (some u) := ⟨co, (Nw (c, co) (by simp [h2])).1, h3⟩
    rcases hk with hk | hk
    · exact wpAny_loadName_cell Φ.kind hk hc ho (k u r)
    · exact wpAny_loadName_free Φ.kind hk hc ho (k u r) (G.hN.cd n)
theorem SX_auN {n : Nat} {t : Str} {op : Operator} {value : Expr} {np pos : Pos} {we : WE} (h : SE G cs value we) (hn : N n = t) (hl : kindOk N Z cs n) : SX G cs (.AugAssign (.Name t np) op value pos) (wAuN n op we) := fun Φ C ok W τ x s Q S q => by
  subst hn
  simp only [wAuN] at q
  cases hv : getN n τ.loc with
  | none => rw [hv] at q; exact q.elim
  | some u =>
    rw [hv] at q
    exact wpAny_AugAssign_Name (loadN hv S fun c rc => h.go ok S q fun W1 v τ1 d s1 le1 r1 S1 q1 =>
      iopW_run S1 (rc.mono le1) r1 q1 fun z e hp s2 r2 S2 q2 => S2.store r2 hl fun s3 S3 => ⟨W1, .next, _, le1, .next, S3, q2⟩)
/-- o.n op= e -/
noncomputable abbrev wAuA (Z : Stc) (n : Nat) (op : Operator) (o e : WE) : WX := fun C τ Q => o C τ fun u τ1 => attrW Z τ1.hp n u fun old => e C τ1 fun v τ2 => iopW op τ2.hp old v fun z hp => setAW Z hp n u z fun hp' => Q .next ⟨τ2.loc, hp'⟩
theorem SX_auA {n : Nat} {t : Str} {op : Operator} {o value : Expr} {np pos : Pos} {wo we : WE} (h : SE G cs o wo) (h' : SE G cs value we) (hn : N n = t) : SX G cs (.AugAssign (.Attribute o t np) op value pos) (wAuA Z n op wo we) := fun Φ C ok W τ x s Q S q => by
  subst hn
  exact wpAny_AugAssign_AttributeAny (h.go ok S q fun W1 u τ1 c s1 le1 r1 S1 q1 => attrW_run S1 r1 q1 fun W2 old d s2 le2 r2 S2 q2 => h'.go ok S2 q2 fun W3 v τ3 e s3 le3 r3 S3 q3 =>
    iopW_run S3 (r2.mono le3) r3 q3 fun z f hp s4 r4 S4 q4 => setAW_run S4 (r1.mono (le2.trans le3)) r4 q4 fun hp' s5 S5 q5 => ⟨W3, .next, _, (le1.trans le2).trans le3, .next, S5, q5⟩)
/-- One target. -/
noncomputable abbrev WS := Calls → VS → VV → (VS → Prop) → Prop
noncomputable def SS (G : Gl N Z) (cs : Scope) (t : Expr) (w : WS) : Prop := ∀ (Φ : Cx G cs) C, CallsOk G Φ.A.depth C → ∀ W τ x s v c Q, SimX Φ W τ x s → VRep G W v c → w C τ v Q → wpAny Φ.M Φ.A (assign t Φ.env c) (fun _ => RT Φ W x Q) (fun _ _ => False) s
noncomputable abbrev wTN (n : Nat) : WS := fun _ τ v Q => Q ⟨putN n v τ.loc, τ.hp⟩
theorem SS_N {n : Nat} {t : Str} {pos : Pos} (hn : N n = t) (hl : kindOk N Z cs n) : SS G cs (.Name t pos) (wTN n) := fun Φ C ok W τ x s v c Q S r q => by
  subst hn
  exact assign_Name (S.store r hl fun s2 S2 => ⟨W, _, .refl W, S2, q⟩)
noncomputable abbrev wTS (o i : WE) : WS := fun C τ v Q => o C τ fun u τ1 => i C τ1 fun j τ2 => setIW τ2.hp u j v fun hp => Q ⟨τ2.loc, hp⟩
theorem SS_S {o i : Expr} {pos : Pos} {wo wi : WE} (h : SE G cs o wo) (h' : SE G cs i wi) : SS G cs (.Subscript o i pos) (wTS wo wi) := fun Φ C ok W τ x s v c Q S r q => by
  rw [arm_assign_Subscript]
  exact wpAny_bind (wpAny_holding (h.go ok S q fun W1 u τ1 d s1 le1 r1 S1 q1 => wpAny_bind (wpAny_holding (h'.go ok S1 q1 fun W2 j τ2 e s2 le2 r2 S2 q2 => wpAny_bind (wpAny_standAt (wpAny_bind (wpAny_holding (setIW_run S2 (r1.mono le2) r2 (r.mono (le1.trans le2)) q2 fun hp s3 S3 q3 => wpAny_releaseD ⟨W2, _, le1.trans le2, S3, q3⟩))))))))
/-- Several targets in their order. -/
noncomputable abbrev WSs := Calls → VS → List VV → (VS → Prop) → Prop
noncomputable def SSs (G : Gl N Z) (cs : Scope) (ts : List Expr) (w : WSs) : Prop := (∀ env, (assignEach ts env).map (·.2) = ts.map fun t => assign t env) ∧ ∀ (Φ : Cx G cs) C, CallsOk G Φ.A.depth C → ∀ W τ x s l vs Q, SimX Φ W τ x s → VRepL G W l vs → w C τ l Q → wpAny Φ.M Φ.A (assignInOrder (ts.map fun t => assign t Φ.env) vs) (fun _ => RT Φ W x Q) (fun _ _ => False) s
noncomputable abbrev wT0 : WSs := fun _ τ l Q => match l with
  | [] => Q τ
  | _ :: _ => False
theorem SSs_nil : SSs G cs [] wT0 := ⟨fun _ => rfl, fun Φ C ok W τ x s l vs Q S p q => assignInOrder_nil ⟨W, τ, .refl W, S, by
  cases l with
  | nil => exact q
  | cons _ _ => exact q.elim⟩⟩
noncomputable abbrev wTc (w : WS) (ws : WSs) : WSs := fun C τ l Q => match l with
  | v :: r => w C τ v fun τ' => ws C τ' r Q
  | [] => False
theorem SSs_cons {t : Expr} {ts : List Expr} {w : WS} {ws : WSs} (h : SS G cs t w) (h' : SSs G cs ts ws) (he : ∀ env, assignEach (t :: ts) env = (false, assign t env) :: assignEach ts env) : SSs G cs (t :: ts) (wTc w ws) := ⟨fun env => by rw [he env, List.map_cons, List.map_cons, h'.1 env], fun Φ C ok W τ x s l vs Q S p q => by
  cases p with
  | nil => exact q.elim
  | @cons v c r vs pv pr =>
    exact assignInOrder_cons (wpAny_mono (h Φ C ok W τ x s v c _ S pv q) (fun _ s1 y => by
      cases y with
      | mk W1 τ1 le S1 q1 => exact wpAny_mono (h'.2 Φ C ok W1 τ1 x s1 r vs Q S1 (pr.mono le) q1) (fun _ _ y => y.up le) fun _ _ y => y) fun _ _ y => y)⟩
theorem PRepL.vals {l : List PV} {vs : List Value} (p : PRepL (FW G W) l vs) : VRepL G W (l.map .p) vs := by
  induction l generalizing vs with
  | nil => cases p; exact .nil
  | cons v r ih =>
    cases vs with
    | nil => have := p.length; simp at this
    | cons c vs => exact .cons (.p p.uncons.1) (ih p.uncons.2)
theorem VRepL.len {l : List VV} {vs : List Value} (r : VRepL G W l vs) : vs.length = l.length := by
  induction r with
  | nil => rfl
  | cons _ _ ih => simp [ih]
/-- a, b = e; the value a tuple. -/
noncomputable def tupV (v : VV) (k : Nat) (Q : List PV → Prop) : Prop := match v with
  | .p (.tup l) => gd (Nat.beq l.length k) (Q l)
  | _ => False
theorem tupV_ex {v : VV} {k : Nat} {Q : List PV → Prop} (h : tupV v k Q) : ∃ l, v = .p (.tup l) ∧ l.length = k ∧ Q l := by
  unfold tupV at h
  split at h
  · exact ⟨_, rfl, Nat.eq_of_beq_eq_true (gd_ex h).1, (gd_ex h).2⟩
  · exact h.elim
noncomputable abbrev wAsT (k : Nat) (e : WE) (ts : WSs) : WX := fun C τ Q => e C τ fun v τ1 => tupV v k fun l => ts C τ1 (l.map .p) fun τ2 => Q .next τ2
theorem SX_asT {elts : List Expr} {kk : Nat} {tpos pos : Pos} {value : Expr} {we : WE} {ts : WSs} (h : SE G cs value we) (h' : SSs G cs elts ts) (hs : ∀ env, swapsWithSole [.Tuple elts kk tpos] value pos.line env = pure false) (hw : ∀ Φ : Cx G cs, swappedStores [.Tuple elts kk tpos] value Φ.env = pure none) (hstar : ∀ env, (assignEach elts env).findIdx? (·.1) = none) :
    SX G cs (.Assign [.Tuple elts kk tpos] value pos) (wAsT elts.length we ts) := fun Φ C ok W τ x s Q S q =>
  Assign_Tuple (h.go ok S q fun W1 v τ1 c s1 le r S1 q1 => by
    obtain ⟨l, rfl, hl, q2⟩ := tupV_ex q1
    obtain ⟨a, vs, rfl, ht, p⟩ := r.tup S1
    have el : (assignEach elts Φ.env).length = elts.length := by have := congrArg List.length (h'.1 Φ.env); simpa using this
    refine S1.fr fun m news F Nw k => unpackN_ F Nw ht Φ.hh (by rw [el, List.size_toArray, p.length, hl]) (hstar _) fun hh F' N' => ?_
    have S2 := k hh s1.toks F' N'
    show wpAny _ _ (assignInOrder ((assignEach elts Φ.env).map (·.2)) vs) _ _ _
    rw [h'.1 Φ.env]
    exact wpAny_mono (h'.2 Φ C ok W1 τ1 x _ _ vs _ S2 p.vals q2) (fun _ s3 y => by
      cases y with
      | mk W2 τ2 le2 S3 q3 => exact ⟨W2, .next, τ2, le.trans le2, .next, S3, q3⟩) fun _ _ y => y) (hs _) (hw Φ)
/-- Two or three names at once: the stores run backwards. -/
noncomputable def backT : List Nat → List VV → List (Nat × VV) → List (Nat × VV)
  | n :: ns, v :: r, loc => backT ns r (putN n v loc)
  | _, _, loc => loc
noncomputable abbrev wAsB (ns : List Nat) (e : WE) : WX := fun C τ Q => e C τ fun v τ1 => tupV v ns.length fun l => Q .next ⟨backT ns.reverse (l.map .p).reverse τ1.loc, τ1.hp⟩
theorem backT_run {P : Unit → Shared → Prop} : ∀ {ns : List Nat} {l : List VV} {vs : List Value} {τ : VS} {s : Shared}, (∀ n ∈ ns, kindOk N Z cs n) → l.length = ns.length → SimX Φ W τ x s → VRepL G W l vs → (∀ s', SimX Φ W ⟨backT ns l τ.loc, τ.hp⟩ x s' → P () s') →
    wpAny Φ.M Φ.A (assignInOrder (ns.map fun n => bindName Φ.env (N n)) vs) P (fun _ _ => False) s := by
  intro ns
  induction ns with
  | nil =>
    intro l vs τ s _ hl S p k
    have : l = [] := by simpa using hl
    subst this
    exact assignInOrder_nil (k s S)
  | cons n ns ih =>
    intro l vs τ s hk hl S p k
    cases p with
    | nil => simp at hl
    | cons pv pr => exact assignInOrder_cons (bindName_ (S.store pv (hk n (.head _)) fun s1 S1 => ih (fun m hm => hk m (.tail _ hm)) (by simpa using hl) S1 pr k))
theorem VRepL.app {l r : List VV} {vs ws : List Value} (h : VRepL G W l vs) (k : VRepL G W r ws) : VRepL G W (l ++ r) (vs ++ ws) := by
  induction h with
  | nil => exact k
  | cons a _ ih => exact .cons a ih
theorem VRepL.rev {l : List VV} {vs : List Value} (h : VRepL G W l vs) : VRepL G W l.reverse vs.reverse := by
  induction h with
  | nil => exact .nil
  | cons a _ ih => rw [List.reverse_cons, List.reverse_cons]; exact ih.app (.cons a .nil)
theorem SX_asB {elts : List Expr} {kk : Nat} {tpos pos : Pos} {value : Expr} {we : WE} {ns : List Nat} (h : SE G cs value we) (hk : ∀ n ∈ ns, kindOk N Z cs n) (hs : ∀ env, swapsWithSole [.Tuple elts kk tpos] value pos.line env = pure false) (hw : ∀ Φ : Cx G cs, swappedStores [.Tuple elts kk tpos] value Φ.env = pure (some (ns.map N))) :
    SX G cs (.Assign [.Tuple elts kk tpos] value pos) (wAsB ns we) := fun Φ C ok W τ x s Q S q =>
  Assign_Tuple_swapped (h.go ok S q fun W1 v τ1 c s1 le r S1 q1 => by
    obtain ⟨l, rfl, hl, q2⟩ := tupV_ex q1
    obtain ⟨a, vs, rfl, ht, p⟩ := r.tup S1
    refine S1.fr fun m news F Nw k => unpackItemsN_ F Nw ht Φ.hh (by rw [List.length_map, List.size_toArray, p.length, hl]) fun h' F' N' => ?_
    have S2 := k h' s1.toks F' N'
    have e : ((ns.map N).reverse.map fun n => bindName Φ.env n) = ns.reverse.map fun n => bindName Φ.env (N n) := by rw [← List.map_reverse, List.map_map]; rfl
    rw [e]
    exact backT_run (fun n hn => hk n (List.mem_reverse.mp hn)) (by simp [hl]) S2 (by simpa using p.vals.rev) fun s3 S3 => ⟨W1, .next, _, le, .next, S3, q2⟩) (hs _) (hw Φ)
/-- An item of a display that is a list just made: it becomes one of the walk's. -/
noncomputable abbrev wAcO (w : W0) (ws : WA) : WA := fun C τ Q => w C τ fun r τ1 => ownW r τ1.hp fun v hp => ws C ⟨τ1.loc, hp⟩ fun vs τ2 => Q (v :: vs) τ2
theorem SA_consO {e : Expr} {rest : List Expr} {w : W0} {ws : WA} (h : S0 G cs e w) (h' : SA G cs rest ws) (he : ∀ env, starEach (e :: rest) env = (false, eval e env) :: starEach rest env) : SA G cs (e :: rest) (wAcO w ws) := ⟨fun env => by rw [he env, List.any_cons, h'.1 env]; rfl, fun Φ C ok pos W τ x s Q S q =>
  args_cons (wpAny_mono (h Φ C ok W τ x s _ S q) (fun c s1 r0 => by
    cases r0 with
    | val W1 a τ1 le r S1 q1 => exact q1.elim
    | new W1 l τ1 y vs k le r S1 q1 =>
      obtain ⟨W2, le2, e2, S2⟩ := S1.own r
      exact wpAny_mono (h'.2 Φ C ok pos W2 _ x s1 _ S2 q1) (fun vs s2 r => by
        cases r with | mk W3 as τ2 le3 r3 S3 q3 => exact ⟨W3, _ :: as, τ2, (le.trans le2).trans le3, .cons (.ref (le3.at e2)) r3, S3, q3⟩) fun _ _ x => x) fun _ _ x => x) (he _)⟩
/-- a, b = x, y: a display, whose items may be references. -/
theorem tup_made {elts : List Expr} {k : Nat} {pos : Pos} {ws : WA} (h : SA G cs elts ws) {C : Calls} (ok : CallsOk G Φ.A.depth C) {Q : List VV → VS → Prop} {P : Value → Shared → Prop} (S : SimX Φ W τ x s) (q : ws C τ Q) (hz : ∀ as τ', Q as τ' → as.length ≤ sizeLine)
    (kk : ∀ W' as τ' vs q s', W.le W' → VRepL G W' as vs → IsTup s'.heap q vs.toArray → SimX Φ W' τ' x s' → Q as τ' → P (.ref q) s') : wpAny Φ.M Φ.A (eval (.Tuple elts k pos) Φ.env) P (fun _ _ => False) s :=
  Tuple_ (h.go (pos := pos) ok S q fun W1 as τ1 vs s1 le r S1 q1 => by
    refine S1.made fun m news F Nw k => newTuple_N F Nw (fun h' F' N' => ?_) (by rw [r.len]; exact hz _ _ q1)
    exact kk W1 as τ1 vs _ _ le r ⟨_, (N' _ (.head _)).1, rfl, 0, rfl⟩ (k h' _ _ s1.toks F' N' (fun p hp => Heap.lt_size (Nw p hp).1)).forget q1)
noncomputable abbrev wAsD (k : Nat) (es : WA) (ts : WSs) : WX := fun C τ Q => es C τ fun vs τ1 => gd (Nat.beq vs.length k && Nat.ble k 1000) <| ts C τ1 vs fun τ2 => Q .next τ2
theorem SX_asD {elts es : List Expr} {kk kk' : Nat} {tpos vpos pos : Pos} {we : WA} {ts : WSs} (h : SA G cs es we) (h' : SSs G cs elts ts) (hs : ∀ env, swapsWithSole [.Tuple elts kk tpos] (.Tuple es kk' vpos) pos.line env = pure false) (hw : ∀ Φ : Cx G cs, swappedStores [.Tuple elts kk tpos] (.Tuple es kk' vpos) Φ.env = pure none) (hstar : ∀ env, (assignEach elts env).findIdx? (·.1) = none) :
    SX G cs (.Assign [.Tuple elts kk tpos] (.Tuple es kk' vpos) pos) (wAsD elts.length we ts) := fun Φ C ok W τ x s Q S q =>
  Assign_Tuple (tup_made h ok S q (fun as τ' hq => by
    have := Bool.and_eq_true_iff.mp (gd_ex hq).1
    have a := Nat.eq_of_beq_eq_true this.1
    have b := Nat.le_of_ble_eq_true this.2
    have : sizeLine = 2 ^ 24 := rfl
    omega) fun W1 as τ1 vs a s1 le r ht S1 q1 => by
    obtain ⟨hl, q2⟩ := gd_ex q1
    have hl := Nat.eq_of_beq_eq_true (Bool.and_eq_true_iff.mp hl).1
    have el : (assignEach elts Φ.env).length = elts.length := by have := congrArg List.length (h'.1 Φ.env); simpa using this
    refine S1.fr fun m news F Nw k => unpackN_ F Nw ht Φ.hh (by rw [el, List.size_toArray, r.len, hl]) (hstar _) fun hh F' N' => ?_
    have S2 := k hh s1.toks F' N'
    show wpAny _ _ (assignInOrder ((assignEach elts Φ.env).map (·.2)) vs) _ _ _
    rw [h'.1 Φ.env]
    exact wpAny_mono (h'.2 Φ C ok W1 τ1 x _ _ vs _ S2 r q2) (fun _ s3 y => by
      cases y with
      | mk W2 τ2 le2 S3 q3 => exact ⟨W2, .next, τ2, le.trans le2, .next, S3, q3⟩) fun _ _ y => y) (hs _) (hw Φ)
noncomputable abbrev wAsE (ns : List Nat) (es : WA) : WX := fun C τ Q => es C τ fun vs τ1 => gd (Nat.beq vs.length ns.length && Nat.ble ns.length 1000) <| Q .next ⟨backT ns.reverse vs.reverse τ1.loc, τ1.hp⟩
theorem SX_asE {elts es : List Expr} {kk kk' : Nat} {tpos vpos pos : Pos} {we : WA} {ns : List Nat} (h : SA G cs es we) (hk : ∀ n ∈ ns, kindOk N Z cs n) (hs : ∀ env, swapsWithSole [.Tuple elts kk tpos] (.Tuple es kk' vpos) pos.line env = pure false) (hw : ∀ Φ : Cx G cs, swappedStores [.Tuple elts kk tpos] (.Tuple es kk' vpos) Φ.env = pure (some (ns.map N))) :
    SX G cs (.Assign [.Tuple elts kk tpos] (.Tuple es kk' vpos) pos) (wAsE ns we) := fun Φ C ok W τ x s Q S q =>
  Assign_Tuple_swapped (tup_made h ok S q (fun as τ' hq => by
    have := Bool.and_eq_true_iff.mp (gd_ex hq).1
    have a := Nat.eq_of_beq_eq_true this.1
    have b := Nat.le_of_ble_eq_true this.2
    have : sizeLine = 2 ^ 24 := rfl
    omega) fun W1 as τ1 vs a s1 le r ht S1 q1 => by
    obtain ⟨hl, q2⟩ := gd_ex q1
    have hl := Nat.eq_of_beq_eq_true (Bool.and_eq_true_iff.mp hl).1
    refine S1.fr fun m news F Nw k => unpackItemsN_ F Nw ht Φ.hh (by rw [List.length_map, List.size_toArray, r.len, hl]) fun h' F' N' => ?_
    have S2 := k h' s1.toks F' N'
    have e : ((ns.map N).reverse.map fun n => bindName Φ.env n) = ns.reverse.map fun n => bindName Φ.env (N n) := by rw [← List.map_reverse, List.map_map]; rfl
    rw [e]
    exact backT_run (fun n hn => hk n (List.mem_reverse.mp hn)) (by simp [hl]) S2 (by simpa using r.rev) fun s3 S3 => ⟨W1, .next, _, le, .next, S3, q2⟩) (hs _) (hw Φ)
end VE
namespace VE
variable {N : Nat → Str} {Z : Stc} {G : Gl N Z} {cs : Scope} {Φ : Cx G cs} {W : Wd} {τ : VS} {s : Shared} {x : List (Addr × Obj)}
theorem SimX.first {q : Addr} {co : Obj} (S : SimX Φ W τ ((q, co) :: x) s) : s.heap.get? q = some co := by
  obtain ⟨m, n1, n2, F, Nw, _⟩ := S
  exact (Nw (q, co) (.head _)).1
/-- The first of the other objects is changed. -/
theorem SimX.updX {q : Addr} {co co' : Obj} {h' : Heap} (S : SimX Φ W τ ((q, co) :: x) s) (e : h'.get? q = some co') (sb : Heap.SameBut q s.heap h') (t : Nat) : SimX Φ W τ ((q, co') :: x) { s with heap := h', toks := t } := by
  obtain ⟨m, n1, n2, F, Nw, nd, H, C, L, cv, o, g⟩ := S
  have nd' : (((q, co) :: (x ++ (n1 ++ (n2 ++ W.fro)))).map (·.1)).Nodup := nd
  obtain ⟨F', N'⟩ := changed F Nw (updOf (pre := []) (o' := co') nd') e sb
  exact ⟨m, n1, n2, F', N', nd', H, C, L, cv, o, g⟩
/-- The first of the other objects is let go. -/
theorem SimX.drop {q : Addr} {co : Obj} {h' : Heap} (S : SimX Φ W τ ((q, co) :: x) s) (eb : Heap.ExtBut q s.heap h') : SimX Φ W τ x { s with heap := h' } := by
  obtain ⟨m, n1, n2, F, Nw, nd, H, C, L, cv, o, g⟩ := S
  have nd' : (((q, co) :: (x ++ (n1 ++ (n2 ++ W.fro)))).map (·.1)).Nodup := nd
  rw [List.map_cons, List.nodup_cons] at nd'
  have P := Nw (q, co) (.head _)
  obtain ⟨oL, es, ep, hL, rr⟩ := F.ns
  exact ⟨m, n1, n2, ⟨⟨oL, es, ep, eb _ _ (Ne.symm P.2.1) hL, rr⟩, fun b y z => eb _ _ (fun z' => by rw [z', P.2.2] at z; cases z) (F.keep b y z), F.above⟩,
    fun p hp => ⟨eb _ _ (fun z => nd'.1 (List.mem_map.mpr ⟨p, hp, z⟩)) (Nw p (.tail _ hp)).1, (Nw p (.tail _ hp)).2⟩, nd'.2, H, C, L, cv, o, g⟩
theorem SimX.forgetL : ∀ {e : List (Addr × Obj)}, SimX Φ W τ (e ++ x) s → SimX Φ W τ x s := by
  intro e
  induction e with
  | nil => exact id
  | cons p e ih => intro h; exact ih h.forget
/-- What is run through: its items, and that it stands. -/
structure SrcOk (Φ : Cx G cs) (W₀ : Wd) (l : List PV) (keep : VS → Prop) (it : Value) (XP : Nat → List (Addr × Obj) → Prop) : Prop where
  item : ∀ i z W τ e x s P, W₀.le W → l[i]? = some z → XP i e → SimX Φ W τ (e ++ x) s → keep τ → (∀ c e' s', PRep (FW G W) z c → XP (i + 1) e' → SimX Φ W τ (e' ++ x) s' → (∀ b o, b ∉ e.map (·.1) → s.heap.get? b = some o → s'.heap.get? b = some o) → P (some c) s') → wpAny Φ.M Φ.A (pyNext it) P (fun _ _ => False) s
  stop : ∀ W τ e x s P, W₀.le W → XP l.length e → SimX Φ W τ (e ++ x) s → keep τ → (∀ s', SimX Φ W τ x s' → P none s') → wpAny Φ.M Φ.A (pyNext it) P (fun _ _ => False) s
  again : ∀ i W τ e x s P, W₀.le W → XP i e → SimX Φ W τ (e ++ x) s → P it s → wpAny Φ.M Φ.A (pyIter it) P (fun _ _ => False) s
  go : ∀ i W τ e x s target c P, XP i e → SimX Φ W τ (e ++ x) s → P () s → wpAny Φ.M Φ.A (letOwnedTupleGo target it c) P (fun _ _ => False) s
/-- Nothing is let go of an iterator of another type. -/
theorem noGo {target : Expr} {r : Addr} {c : Value} {o : Obj} {n : String} {vs : Array Value} {P : Unit → Shared → Prop} (h : s.heap.get? r = some o) (hc : o.cls = .type n) (hd : o.data = .fields vs)
    (hn : ["enumerate", "zip", "dict_itemiterator", "dict_reverseitemiterator", "odict_iterator", "itertools.zip_longest", "itertools.pairwise"].contains n = false) (k : P () s) : wpAny Φ.M Φ.A (letOwnedTupleGo target (.ref r) c) P (fun _ _ => False) s := by
  unfold letOwnedTupleGo
  split
  · cases c with
    | ref a => exact wpAny_bind (wpAny_load h (by rw [hc, hd]; show wpAny _ _ (if (_ && _) = true then _ else _) _ _ _; rw [hn, Bool.false_and, if_neg Bool.false_ne_true]; exact wpAny_pure k))
    | _ => exact wpAny_pure k
  · cases c with
    | ref a => exact wpAny_bind (wpAny_load h (by rw [hc, hd]; show wpAny _ _ (if (_ && _) = true then _ else _) _ _ _; rw [hn, Bool.false_and, if_neg Bool.false_ne_true]; exact wpAny_pure k))
    | _ => exact wpAny_pure k
  · exact wpAny_pure k
/-- What iter gives. -/
noncomputable abbrev WI := Calls → VS → (List PV → (VS → Prop) → VS → Prop) → Prop
inductive RI (Φ : Cx G cs) (W : Wd) (x : List (Addr × Obj)) (Q : List PV → (VS → Prop) → VS → Prop) (it : Value) (s : Shared) : Prop where
  | mk (W' : Wd) (l : List PV) (keep : VS → Prop) (τ : VS) (XP : Nat → List (Addr × Obj) → Prop) (e : List (Addr × Obj)) (le : W.le W') (src : SrcOk Φ W' l keep it XP) (x0 : XP 0 e) (S : SimX Φ W' τ (e ++ x) s) (k : keep τ) (q : Q l keep τ)
noncomputable def SI (G : Gl N Z) (cs : Scope) (e : Expr) (w : WI) : Prop := ∀ (Φ : Cx G cs) C, CallsOk G Φ.A.depth C → ∀ W τ x s Q, SimX Φ W τ x s → w C τ Q → wpAny Φ.M Φ.A (eval e Φ.env) (fun v s1 => wpAny Φ.M Φ.A (pyIter v) (RI Φ W x Q) (fun _ _ => False) s1) (fun _ _ => False) s
noncomputable def keepL (v : VV) (l : List PV) (τ : VS) : Prop := asL τ.hp v = some l
noncomputable abbrev wItL (w : WE) : WI := fun C τ Q => w C τ fun v τ1 => ∃ l, asL τ1.hp v = some l ∧ Q l (keepL v l) τ1
theorem SI_list {e : Expr} {w : WE} (h : SE G cs e w) : SI G cs e (wItL w) := fun Φ C ok W τ x s Q S q =>
  h.go ok S q fun W1 v τ1 c s1 le r S1 ⟨l, e1, q1⟩ => by
    obtain ⟨y, vs, rfl, hl, p⟩ := S1.asL r e1
    refine wpAny_pyIter_list hl ?_
    have hq : s1.heap.get? s1.heap.objs.size = none := Heap.get?_none_of_le (Nat.le_refl _)
    have S2 := S1.new (h' := s1.heap.push { cls := .type "list_iterator", data := .fields #[.ref y, .int 0 0] }) (t := s1.toks) (fun _ _ e => Heap.get?_push_of_some _ e) hq (Heap.get?_push_size _ rfl)
    refine ⟨W1, l, keepL v l, τ1, fun i e => ∃ co, e = [(s1.heap.objs.size, co)] ∧ co.cls = .type "list_iterator" ∧ co.data = .fields #[.ref y, .int i 0], _, le, ⟨?_, ?_, ?_, ?_⟩, ⟨_, rfl, rfl, rfl⟩, S2, e1, q1⟩
    · rintro i z W2 τ2 _ x2 s2 P le2 hz ⟨co, rfl, h1, h2⟩ S2 kp k
      obtain ⟨y', us, ey, hl', p'⟩ := S2.asL (r.mono le2) kp
      cases ey
      obtain ⟨c, hc, rc⟩ := p'.get hz
      refine wpAny_pyNext_list_item (i := i) ⟨co, S2.first, h1, h2⟩ hl' (by simpa using hc) fun h' hit' sb => ?_
      obtain ⟨co', e1, e2, e3⟩ := hit'
      exact k c [(_, co')] _ rc ⟨co', rfl, e2, e3⟩ (S2.updX e1 sb s2.toks) fun b o hb e => (sb.2 b (by simpa using hb)).trans e
    · rintro W2 τ2 _ x2 s2 P le2 ⟨co, rfl, h1, h2⟩ S2 kp k
      obtain ⟨y', us, ey, hl', p'⟩ := S2.asL (r.mono le2) kp
      cases ey
      exact wpAny_pyNext_list_end Φ.hh ⟨co, S2.first, h1, h2⟩ hl' (by simp [p'.length]) fun h' eb => k _ (S2.drop eb)
    · rintro i W2 τ2 _ x2 s2 P le2 ⟨co, rfl, h1, h2⟩ S2 k
      exact wpAny_pyIter_listiter ⟨co, S2.first, h1, h2⟩ k
    · rintro i W2 τ2 _ x2 s2 target c P ⟨co, rfl, h1, h2⟩ S2 k
      exact noGo S2.first h1 h2 rfl k
/-- range(..). -/
noncomputable def rangeL (lo hi : Int) : List PV := (List.range (hi - lo).toNat).map fun (i : Nat) => PV.int (lo + (i : Int))
theorem rangeL_len (lo hi : Int) : (rangeL lo hi).length = (hi - lo).toNat := by simp [rangeL]
noncomputable def rngB (lo hi : Int) : Prop := (-(2 ^ 62) ≤ lo ∧ lo < 2 ^ 62) ∧ -(2 ^ 62) ≤ hi ∧ hi < 2 ^ 62
noncomputable def rngW (vs : List VV) (Q : List PV → Prop) : Prop := match vs with
  | [.p (.int hi)] => rngB 0 hi ∧ Q (rangeL 0 hi)
  | [.p (.int lo), .p (.int hi)] => rngB lo hi ∧ Q (rangeL lo hi)
  | _ => False
noncomputable abbrev wRng (ws : WA) : WI := fun C τ Q => ws C τ fun vs τ1 => rngW vs fun l => Q l (fun _ => True) τ1
theorem rangeLeft {lo hi : Int} : Builtin.Range.rangeSize lo hi 1 = ((hi - lo).toNat : Int) - ((0 : Nat) : Int) := by rw [rangeSize_one]; split <;> omega
theorem RI_range {r : Addr} {lo hi : Int} {t u v : Tok} {Q : List PV → (VS → Prop) → VS → Prop} (b : rngB lo hi) (S : SimX Φ W τ x s) (hr : IsRange s.heap r lo hi 1 t u v) (q : Q (rangeL lo hi) (fun _ => True) τ) : wpAny Φ.M Φ.A (pyIter (.ref r)) (RI Φ W x Q) (fun _ _ => False) s := by
  refine wpAny_pyIter_range hr (small_one b.1.1 b.1.2 b.2.1 b.2.2) ?_
  have hq : s.heap.get? s.heap.objs.size = none := Heap.get?_none_of_le (Nat.le_refl _)
  have S2 := S.new (h' := s.heap.push { cls := .type "range_iterator", data := .fields #[rawInt lo, rawInt (Builtin.Range.rangeSize lo hi 1), rawInt 1] }) (t := s.toks) (fun _ _ e => Heap.get?_push_of_some _ e) hq (Heap.get?_push_size _ rfl)
  rw [rangeLeft] at S2 ⊢
  have ob : ∀ a b : Int, ({ cls := .type "range_iterator", dict := none, data := .fields #[rawInt a, rawInt b, rawInt 1], slots := #[] } : Obj) = { cls := .type "range_iterator", data := .fields #[rawInt a, rawInt b, rawInt 1] } := fun _ _ => rfl
  generalize s.heap.objs.size = it at S2 ⊢
  refine ⟨W, rangeL lo hi, fun _ => True, τ, fun i e => e = [(it, { cls := .type "range_iterator", data := .fields #[rawInt (lo + (i : Int)), rawInt (((hi - lo).toNat : Int) - (i : Int)), rawInt 1] })], _, .refl W, ⟨?_, ?_, ?_, ?_⟩, by rw [show lo + ((0 : Nat) : Int) = lo from Int.add_zero lo], S2, trivial, q⟩
  · rintro i z W2 τ2 _ x2 s2 P le2 hz rfl S2 _ k
    have hi' : i < (hi - lo).toNat := by
      have := (List.getElem?_eq_some_iff.mp hz).1
      simpa [rangeL] using this
    have ez : z = .int (lo + (i : Int)) := by
      rw [rangeL, List.getElem?_map, List.getElem?_range hi'] at hz
      simpa using hz.symm
    subst ez
    refine wpAny_pyNext_range_item (x := lo + (i : Int)) (left := ((hi - lo).toNat : Int) - (i : Int)) (step := 1) S2.first (by omega) fun h' hit' sb => ?_
    refine k _ [_] _ (.int _ _ .nil) ?_ (S2.updX hit' sb _) fun b o hb e => (sb.2 b (by simpa using hb)).trans e
    have e1 : lo + (i : Int) + 1 = lo + ((i + 1 : Nat) : Int) := by omega
    have e2 : ((hi - lo).toNat : Int) - (i : Int) - 1 = ((hi - lo).toNat : Int) - ((i + 1 : Nat) : Int) := by omega
    rw [e1, e2]
  · rintro W2 τ2 _ x2 s2 P le2 rfl S2 _ k
    exact wpAny_pyNext_range_end Φ.hh (x := lo + ((rangeL lo hi).length : Int)) (left := ((hi - lo).toNat : Int) - ((rangeL lo hi).length : Int)) (step := 1) S2.first (by rw [rangeL_len]; omega) fun h' eb => k _ (S2.drop eb)
  · rintro i W2 τ2 _ x2 s2 P le2 rfl S2 k
    exact wpAny_pyIter_rangeiter (x := lo + (i : Int)) (left := ((hi - lo).toNat : Int) - (i : Int)) (step := 1) S2.first k
  · rintro i W2 τ2 _ x2 s2 target c P rfl S2 k
    exact noGo S2.first rfl rfl rfl k
theorem SI_range {t : Str} {p : Pos} {es : List Expr} {pos : Pos} {ws : WA} (n : Nat) (h' : SA G cs es ws) (b : BiOk N Z cs t (Value.type "range") n)
    (he : ∀ env, eval (.Call (.Name t p) es [] pos) env = (do callWith pos (← eval (.Name t p) env) [] (backTo pos (starEach es env)) (backToKw pos (keywordEach [] env)))) : SI G cs (.Call (.Name t p) es [] pos) (wRng ws) := fun Φ C ok W τ x s Q S q => by
  refine Call_ (b.load S ?_) (he _)
  have hp : (backTo pos (starEach es Φ.env)).any (·.1) = false := by rw [back_any]; exact h'.1 _
  refine PySem.callWith_type (first := []) hp (evalArgs_of hp (h'.go ok S q fun W1 as τ1 vs s1 le r S1 q1 => ?_))
  have nw : ∀ (o : Obj) (t : Nat), o.isFreed = false → SimX Φ W1 τ1 x { s1 with heap := s1.heap.push o, toks := t } := fun o t hf => (S1.new (h' := s1.heap.push o) (t := t) (fun _ _ e => Heap.get?_push_of_some _ e) (Heap.get?_none_of_le (Nat.le_refl _)) (Heap.get?_push_size _ hf)).forget
  unfold rngW at q1
  split at q1
  · obtain ⟨c, rfl, rc⟩ := r.one
    obtain ⟨t, rfl⟩ := rc.int
    refine call_range_1 (wpAny_mono (RI_range q1.1 (nw _ _ rfl) (Heap.get?_push_size _ rfl) q1.2) (fun _ _ y => ?_) fun _ _ y => y)
    cases y with
    | mk W' l keep τ XP e le' src x0 S k q => exact ⟨W', l, keep, τ, XP, e, le.trans le', src, x0, S, k, q⟩
  · obtain ⟨c, d, rfl, rc, rd⟩ := r.two
    obtain ⟨t, rfl⟩ := rc.int
    obtain ⟨t', rfl⟩ := rd.int
    refine call_range_2 (wpAny_mono (RI_range q1.1 (nw _ _ rfl) (Heap.get?_push_size _ rfl) q1.2) (fun _ _ y => ?_) fun _ _ y => y)
    cases y with
    | mk W' l keep τ XP e le' src x0 S k q => exact ⟨W', l, keep, τ, XP, e, le.trans le', src, x0, S, k, q⟩
  · exact q1.elim
/-- A for loop. -/
noncomputable def forW (tgt : PV → VS → (VS → Prop) → Prop) (body : VS → (Fl → VS → Prop) → Prop) (keep : VS → Prop) (Q : Fl → VS → Prop) : List PV → VS → Prop
  | [], τ => Q .next τ
  | v :: r, τ => tgt v τ fun τ1 => body τ1 fun f τ2 => match f with
    | .next => keep τ2 ∧ forW tgt body keep Q r τ2
    | .cont => keep τ2 ∧ forW tgt body keep Q r τ2
    | .brk => Q .next τ2
    | .ret u => Q (.ret u) τ2
noncomputable abbrev wFor (i : WI) (t : WS) (b : WX) : WX := fun C τ Q => i C τ fun l keep τ1 => forW (fun v τ q => t C τ (.p v) q) (b C) keep Q l τ1
theorem no_ {Φ : Cx G cs} {α : Type} {t : Sem α} {P : α → Shared → Prop} {s : Shared} (h : wpAny Φ.M Φ.A t P (fun _ _ => False) s) : wpAny Φ.M Φ.A t P (notedBy Φ.M Φ.A Φ.env fun _ _ => False) s := wpAny_mono h (fun _ _ x => x) fun _ _ x => x.elim
noncomputable def RFr (Φ : Cx G cs) (W : Wd) (x : List (Addr × Obj)) (Q : Fl → VS → Prop) (r : Except Value Flow) (s : Shared) : Prop := match r with
  | .ok f => RF Φ W x Q f s
  | .error _ => False
theorem SX_for {target iter : Expr} {body : List Stmt} {pos : Pos} {i : WI} {t : WS} {b : WX} (hi : SI G cs iter i) (ht : SS G cs target t) (hb : SB G cs body b) (hf : ∀ env x, foldedSetIterable iter env x = pure x) : SX G cs (.For target iter body [] pos) (wFor i t b) := fun Φ C ok W τ x s Q S q => by
  refine wpAny_For (wpAny_mono (hi Φ C ok W τ x s _ S q) (fun v s1 h1 => wpAny_mono h1 (fun it s2 h2 => ?_) fun _ _ y => y) fun _ _ y => y) (hf _)
  obtain ⟨W1, l, keep, τ1, XP, e, le, src, x0, S1, k, q1⟩ := h2
  refine codeAny_mono (codeAny_forLoop_any (R := fun r s' => match r with | .ok f => RF Φ W x Q f s' | .error _ => False)
    (fun n s' => ∃ i W' τ' e, n + i = l.length + 1 ∧ i ≤ l.length ∧ W1.le W' ∧ XP i e ∧ SimX Φ W' τ' (e ++ x) s' ∧ keep τ' ∧ forW (fun v τ q => t C τ (.p v) q) (b C) keep Q (l.drop i) τ') (fun n s' ⟨i, W', τ', e, en, hi, le', xi, S', kp, q'⟩ => ?_) (l.length + 1) ⟨0, W1, τ1, e, rfl, Nat.zero_le _, .refl _, x0, S1, k, q1⟩) fun r s' q => ?_
  · by_cases hie : i = l.length
    · subst hie
      refine no_ (src.stop W' τ' e x s' _ le' xi S' kp fun s3 S3 => wpAny_execs_nil ⟨W', .next, τ', le.trans le', .next, S3, ?_⟩)
      rw [List.drop_length] at q'
      exact q'
    · have hlt : i < l.length := Nat.lt_of_le_of_ne hi hie
      have ha : l[i]? = some l[i] := List.getElem?_eq_getElem hlt
      rw [List.drop_eq_getElem_cons hlt] at q'
      refine no_ (src.item i _ W' τ' e x s' _ le' ha xi S' kp fun c e' s3 rc xi' S3 _ => ?_)
      refine no_ (src.go (i + 1) W' τ' e' x s3 target c _ xi' S3 ?_)
      refine no_ (wpAny_mono (ht Φ C ok W' τ' (e' ++ x) s3 (.p l[i]) c _ S3 (.p rc) q') (fun _ s4 y => ?_) fun _ _ y => y)
      obtain ⟨W4, τ4, le4, S4, q4⟩ := y
      refine no_ (wpAny_mono (hb Φ C ok W4 τ4 (e' ++ x) s4 _ S4 q4) (fun f s5 y => ?_) fun _ _ y => y)
      obtain ⟨W5, fl, τ5, le5, r5, S5, q5⟩ := y
      have lx := (le'.trans le4).trans le5
      cases r5 with
      | next => exact ⟨l.length - i, by omega, i + 1, W5, τ5, e', by omega, hlt, lx, xi', S5, q5.1, q5.2⟩
      | cont => exact ⟨l.length - i, by omega, i + 1, W5, τ5, e', by omega, hlt, lx, xi', S5, q5.1, q5.2⟩
      | brk => exact ⟨W5, .next, τ5, le.trans lx, .next, S5.forgetL, q5⟩
      | ret ru => exact ⟨W5, _, τ5, le.trans lx, .ret ru, S5.forgetL, q5⟩
  · cases r with
    | ok f => exact q
    | error e => exact q.elim
end VE
namespace VE
variable {N : Nat → Str} {Z : Stc} {G : Gl N Z} {cs : Scope} {Φ : Cx G cs} {W : Wd} {τ : VS} {s : Shared} {x : List (Addr × Obj)}
/-- A while loop. -/
noncomputable def whileW (t : VS → (Bool → VS → Prop) → Prop) (b : VS → (Fl → VS → Prop) → Prop) (Q : Fl → VS → Prop) : Nat → VS → Prop
  | 0, _ => False
  | n + 1, τ => t τ fun c τ1 => brW c (b τ1 fun f τ2 => match f with
    | .next => whileW t b Q n τ2
    | .cont => whileW t b Q n τ2
    | .brk => Q .next τ2
    | .ret u => Q (.ret u) τ2) (Q .next τ1)
noncomputable abbrev wWhile (t : WT) (b : WX) : WX := fun C τ Q => ∃ n, whileW (t C) (b C) Q n τ
/-- What a call leaves. -/
noncomputable def retv : Fl → VV
  | .ret v => v
  | _ => .p .none
noncomputable def closedV (n : Nat) : VV → Bool
  | .p _ => true
  | .ref k => Nat.blt k n
  | .meth _ k => Nat.blt k n
noncomputable def closedO (n : Nat) : VO → Bool
  | .list _ => true
  | .inst fs => fs.all fun p => closedV n p.2
noncomputable def retN (n : Nat) (hp : List VO) (v : VV) (Q : Rs → List VO → Prop) : Prop := match v with
  | .p z => Q (.val (.p z)) (hp.take n)
  | .ref k => ∃ l, hp[k]? = some (.list l) ∧ n ≤ k ∧ Q (.new l) (hp.take n)
  | .meth _ _ => False
noncomputable def retW (n : Nat) (hp : List VO) (v : VV) (Q : Rs → List VO → Prop) : Prop := (hp.length = n ∧ Q (.val v) hp) ∨ (n ≤ hp.length ∧ (hp.take n).all (closedO n) = true ∧ retN n hp v Q)
theorem VRep.cut {W' : Wd} {n : Nat} {v : VV} {c : Value} (r : VRep G W' v c) (h : closedV n v = true) : VRep G ⟨W'.rho.take n, W'.fro⟩ v c := by
  cases r with
  | p r => exact .p r
  | ref e =>
    have := Nat.le_of_ble_eq_true h
    exact .ref (by rw [List.getElem?_take_of_lt (by omega)]; exact e)
  | meth g e f =>
    have := Nat.le_of_ble_eq_true h
    exact .meth g (by rw [List.getElem?_take_of_lt (by omega)]; exact e) f
theorem HR.cut {W' : Wd} {n : Nat} : ∀ {os ρ ns} (m : Nat), HR G W' os ρ ns → (os.take m).all (closedO n) = true → ∃ n1 n3, ns = n1 ++ n3 ∧ HR G ⟨W'.rho.take n, W'.fro⟩ (os.take m) (ρ.take m) n1 ∧
    ∀ k l, os[k]? = some (.list l) → m ≤ k → ∃ a vs j, ρ[k]?.map (·.1) = some a ∧ (a, listOf vs.toArray j) ∈ n3 ∧ PRepL (FW G W') l vs := by
  intro os ρ ns m h
  induction h generalizing m with
  | nil => intro _; exact ⟨[], [], rfl, by simpa using .nil, fun k l e => by simp at e⟩
  | @list os ρ ns a d l vs j p r ih =>
    intro hc
    cases m with
    | zero =>
      refine ⟨[], _, rfl, by simpa using .nil, fun k l' e _ => ?_⟩
      obtain ⟨a', d', vs', j', pre, post, e1, e2, p', _⟩ := (HR.list p r).at_list e
      exact ⟨a', vs', j', by rw [e1]; rfl, by rw [e2]; simp, p'⟩
    | succ m =>
      rw [List.take_succ_cons, List.all_cons, Bool.and_eq_true] at hc
      obtain ⟨n1, n3, e, h1, h2⟩ := ih m hc.2
      subst e
      refine ⟨_ :: n1, n3, rfl, by rw [List.take_succ_cons, List.take_succ_cons]; exact .list p h1, fun k l' e hk => ?_⟩
      cases k with
      | zero => omega
      | succ k => exact h2 k l' (by simpa using e) (by omega) |> fun ⟨a, vs, j, x, y, z⟩ => ⟨a, vs, j, by simpa using x, y, z⟩
  | @inst os ρ ns a d fs es j p r ih =>
    intro hc
    cases m with
    | zero =>
      refine ⟨[], _, rfl, by simpa using .nil, fun k l' e _ => ?_⟩
      obtain ⟨a', d', vs', j', pre, post, e1, e2, p', _⟩ := (HR.inst p r).at_list e
      exact ⟨a', vs', j', by rw [e1]; rfl, by rw [e2]; simp, p'⟩
    | succ m =>
      rw [List.take_succ_cons, List.all_cons, Bool.and_eq_true] at hc
      obtain ⟨n1, n3, e, h1, h2⟩ := ih m hc.2
      subst e
      refine ⟨_ :: _ :: n1, n3, rfl, by
        rw [List.take_succ_cons, List.take_succ_cons]
        refine .inst ⟨p.1, p.2.1, fun k => ?_⟩ h1
        have := p.2.2 k
        cases hk : getN k fs with
        | none => rw [hk] at this; exact this
        | some v =>
          rw [hk] at this
          obtain ⟨c, e, q⟩ := this
          exact ⟨c, e, q.cut (List.all_eq_true.mp hc.1 _ (getN_mem hk))⟩, fun k l' e hk => ?_⟩
      cases k with
      | zero => simp at e
      | succ k => exact h2 k l' (by simpa using e) (by omega) |> fun ⟨a, vs, j, x, y, z⟩ => ⟨a, vs, j, by simpa using x, y, z⟩
theorem zip_get {ns : List Nat} : ∀ {as : List VV} {vs : List Value} {k : Nat} {v : VV}, VRepL G W as vs → getN k (ns.zip as) = some v → k ∈ ns ∧ ∃ c, getN k (ns.zip vs) = some c ∧ VRep G W v c := by
  induction ns with
  | nil => intro as vs k v _ e; simp [getN] at e
  | cons n ns ih =>
    intro as vs k v r e
    cases r with
    | nil => simp [getN] at e
    | @cons a c l vs ra r =>
      simp only [List.zip_cons_cons, getN] at e ⊢
      cases hk : Nat.beq k n with
      | true =>
        rw [hk] at e
        cases e
        have := Nat.eq_of_beq_eq_true hk
        subst this
        exact ⟨.head _, _, rfl, ra⟩
      | false =>
        rw [hk] at e
        obtain ⟨h1, h2⟩ := ih r e
        exact ⟨.tail _ h1, h2⟩
theorem zip_names {ns : List Nat} (hN : NOk N) : ∀ {vs : List Value} {k : Nat} {c : Value}, getN k (ns.zip vs) = some c → ((ns.map N).zip vs).lookup (N k) = some c := by
  induction ns with
  | nil => intro vs k c e; simp [getN] at e
  | cons n ns ih =>
    intro vs k c e
    cases vs with
    | nil => simp [getN] at e
    | cons v vs =>
      simp only [List.map_cons, List.zip_cons_cons, List.lookup, getN] at e ⊢
      cases hk : Nat.beq k n with
      | true => have := Nat.eq_of_beq_eq_true hk; subst this; rw [hk] at e; rw [show (N k == N k) = true from beq_self_eq_true _]; exact e
      | false =>
        rw [hk] at e
        rw [show (N k == N n) = false from beq_eq_false_iff_ne.mpr fun z => nbeq.mp hk (hN.inj _ _ z)]
        exact ih e
theorem lookup_reverse {α : Type} : ∀ {l : List (Str × α)} {x : Str} {c : α}, (l.map (·.1)).Nodup → l.lookup x = some c → l.reverse.lookup x = some c := by
  intro l
  induction l with
  | nil => intro x c _ e; cases e
  | cons p l ih =>
    intro x c nd e
    obtain ⟨y, d⟩ := p
    rw [List.map_cons, List.nodup_cons] at nd
    rw [List.reverse_cons, List.lookup_append]
    simp only [List.lookup] at e
    cases hx : x == y with
    | true =>
      rw [hx] at e
      cases e
      have := beq_iff_eq.mp hx
      subst this
      have : l.reverse.lookup x = none := by
        rw [List.lookup_eq_none_iff]
        intro q hq
        have := List.mem_reverse.mp hq
        exact bne_iff_ne.mpr fun z => nd.1 (List.mem_map.mpr ⟨q, this, z.symm⟩)
      rw [this]
      simp [List.lookup]
    | false =>
      rw [hx] at e
      rw [ih nd.2 e]
      rfl
theorem map_fst_zip {α β : Type} : ∀ (l : List α) (r : List β), ((l.zip r).map (·.1)).Sublist l := by
  intro l
  induction l with
  | nil => intro r; simp
  | cons a l ih =>
    intro r
    cases r with
    | nil => simp
    | cons b r => simp only [List.zip_cons_cons, List.map_cons]; exact (ih r).cons_cons a
/-- A function of the text's, without cells. -/
structure FnOk (G : Gl N Z) (f : Addr) (ns : List Nat) (name qual : Str) (params : Arguments) (body : List Stmt) (scope : Scope) (dV kV doc pm cdv ct oc : Value) (an od : Option Addr) (osl : Array (Option Value)) : Prop where
  ho : G.K.lookup f = some ⟨oc, od, .func (fnOf name qual params body scope dV kV doc pm an cdv ct), osl⟩
  hcd : codeIn G.K cdv qual = true
  hloc : ∀ n ∈ ns, scope.names.lookup (N n) = some .local
  hnd : ns.Nodup
  hco : scope.isCoroutine = false
  hgen : scope.isGenerator = false
  hk : scope.kind = .function
  hcell : ∀ x ∈ scope.names, x.2 ≠ .cell
  htop : scope.names.lookup (N Z.topn) ≠ some .local
variable {f : Addr} {ns : List Nat} {name qual : Str} {params : Arguments} {body : List Stmt} {scope : Scope} {dV kV doc pm cdv ct oc : Value} {an od : Option Addr} {osl : Array (Option Value)}
theorem enter {A : Around} {args : Args} {as : List VV} {vs : List Value} {Q : Rs → List VO → Prop} (D : FnOk G f ns name qual params body scope dV kV doc pm cdv ct oc an od osl) (hhd : A.handled = none) (hu : A.units ≤ 3 * A.depth + 4) (hdp : A.depth < recursionLimit)
    (S : SimX Φ W τ x s) (r : VRepL G W as vs) (hbind : BindsTo s (fnOf name qual params body scope dV kV doc pm an cdv ct) args ((ns.map N).zip vs))
    (h : ∀ Φ' : Cx G scope, Φ'.A.depth = A.depth + 1 → ∀ s1, SimX Φ' W ⟨ns.zip as, τ.hp⟩ [] s1 → wpAny Φ'.M Φ'.A (execs body Φ'.env) (RF Φ' W [] fun fl τ' => retW τ.hp.length τ'.hp (retv fl) Q) (fun _ _ => False) s1) :
    codeAny (model G.prog G.w) A (.call (.ref f) args) (fun r s' => ∃ v, r = .ok (.ret v) ∧ R0 Φ W x (fun a τ' => τ'.loc = τ.loc ∧ Q a τ'.hp) v s') s := by
  obtain ⟨m, n1, n2, F, Nw, nd, H, Cc, L, cv, o, g⟩ := id S
  have nN : (((ns.map N).zip vs).map (·.1)).Nodup := (map_fst_zip _ _).nodup (List.pairwise_map.mpr (List.Pairwise.imp (fun ne e => ne (G.hN.inj _ _ e)) D.hnd))
  refine codeAny_call_def (fd := fnOf name qual params body scope dV kV doc pm an cdv ct) (body := body) (binds := (ns.map N).zip vs) hdp (S.K _ _ D.ho) rfl ((topRead_of Φ.T).nolimit.keeps F.keep) (codeRec_of S.K D.hcd) rfl hbind D.hcell (fun y hy => ?_) (fun h₁ hns hk₁ => ?_) D.hco D.hgen D.hk
  · have := (map_fst_zip (ns.map N) vs).subset (List.mem_map_of_mem hy)
    obtain ⟨n, hn, e⟩ := List.mem_map.mp this
    show scope.names.lookup y.1 = _
    rw [← e]; exact D.hloc n hn
  · let own := n1 ++ ([] ++ W.fro)
    have inO : ∀ p ∈ own, p ∈ x ++ (n1 ++ (n2 ++ W.fro)) := fun p hp => by
      rcases List.mem_append.mp hp with q | q
      · simp [q]
      · have q : p ∈ W.fro := q
        simp [q]
    have nm : ∀ b o, Φ.h₀.get? b = some o → b ∉ own.map (·.1) := fun b o e q => by
      obtain ⟨p, hp, rfl⟩ := List.mem_map.mp q
      rw [(Nw p (inO p hp)).2.2] at e; cases e
    have st : ∀ b o, Φ.h₀.get? b = some o → (hideAll s.heap (own.map (·.1))).get? b = some o := fun b o e => hideAll_get _ (F.keep b o e) (nm b o e)
    obtain ⟨oL, es, ep, hL, hLd⟩ := F.ns
    have nL : Φ.L ∉ own.map (·.1) := fun q => by
      obtain ⟨p, hp, e⟩ := List.mem_map.mp q
      exact (Nw p (inO p hp)).2.1 e
    have hLg := hideAll_get (own.map (·.1)) hL nL
    let Φ' : Cx G scope := ⟨A.deeper (callEnv (fnOf name qual params body scope dV kV doc pm an cdv ct) s.heap.objs.size f), hideAll s.heap (own.map (·.1)), s.heap.objs.size, [], qual ++ ".<locals>.", some f, cdv, some s.heap.objs.size, [], fun a o e => st a o (Φ.X a o e), Φ.T.keeps st, D.hk, hhd, by
      show A.units + 3 ≤ 3 * (A.depth + 1) + 4
      omega, by show A.depth + 1 ≤ 1000; have : recursionLimit = 1000 := rfl; omega, List.nodup_nil, fun e => absurd e D.htop, fun e => absurd e D.htop⟩
    have S' : SimX Φ' W ⟨ns.zip as, τ.hp⟩ [] { s with heap := h₁, toks := s.toks + ((ns.map N).zip vs).length } := by
      refine ⟨_, n1, [], ⟨hns, fun b o e => hk₁ b o (of_hideAll _ e), Nat.le_of_eq (hideAll_size _ _)⟩, fun p hp => ?_, ?_, H, .nil, fun k v e => ?_, fun k c hm => (nomatch hm), o, g⟩
      · have hp : p ∈ own := hp
        exact ⟨hk₁ _ _ (Nw p (inO p hp)).1, Nat.ne_of_lt (Heap.lt_size (Nw p (inO p hp)).1), hideAll_none _ (List.mem_map_of_mem hp)⟩
      · refine List.Nodup.sublist (List.Sublist.map _ ?_) nd
        show List.Sublist (n1 ++ ([] ++ W.fro)) _
        exact (List.Sublist.append_left (List.Sublist.append_right (List.nil_sublist n2) W.fro) n1).trans (List.sublist_append_right x _)
      · obtain ⟨h1, c, hc, rc⟩ := zip_get r e
        exact .loc c (D.hloc k h1) (lookup_reverse nN (zip_names G.hN hc)) rc
    refine wpAny_mono (h Φ' rfl _ S') (fun fl s' y => ?_) fun _ _ y => y.elim
    obtain ⟨W', a, τ', le, ra, S2, q⟩ := y
    obtain ⟨m2, k1, k2, F2, Nw2, nd2, H2, C2, _, _, o2, g2⟩ := S2
    cases C2
    have ra' : ∀ ff : Flow, FRel G W' a ff → VRep G W' (retv a) (match ff with | .ret v => v | _ => .none) := fun ff rr => by
      cases rr with
      | next => exact .p (.none .nil)
      | brk => exact .p (.none .nil)
      | cont => exact .p (.none .nil)
      | ret rv => exact rv
    have ra' := ra' fl ra
    have keepO : ∀ p ∈ x ++ n2, (hideAll s.heap (own.map (·.1))).get? p.1 = some p.2 := fun p hp => by
      have hp' : p ∈ x ++ (n1 ++ (n2 ++ W.fro)) := by
        rcases List.mem_append.mp hp with q | q <;> simp [q]
      refine hideAll_get _ (Nw p hp').1 fun hm => ?_
      obtain ⟨p', hp2, e⟩ := List.mem_map.mp hm
      have nd3 : ((x ++ n2 ++ (n1 ++ W.fro)).map (·.1)).Nodup := by
        refine (List.Perm.nodup_iff (List.Perm.map _ ?_)).mp nd
        simp only [List.append_assoc]
        exact List.Perm.append_left x (by rw [← List.append_assoc, ← List.append_assoc]; exact List.Perm.append_right _ List.perm_append_comm)
      rw [List.map_append, List.nodup_append] at nd3
      exact nd3.2.2 _ (List.mem_map_of_mem hp) _ (List.mem_map_of_mem (show p' ∈ n1 ++ W.fro from hp2)) e.symm
    have FF : Fr Φ.h₀ Φ.L s'.heap m := ⟨⟨oL, es, ep, F2.keep _ _ hLg, hLd⟩, fun b o e => F2.keep b o (st b o e), F.above⟩
    have newOf : ∀ p ∈ k1 ++ W'.fro, s'.heap.get? p.1 = some p.2 ∧ p.1 ≠ Φ.L ∧ Φ.h₀.get? p.1 = none := fun p hp => by
      have P := Nw2 p (by simpa using hp)
      refine ⟨P.1, fun q => ?_, ?_⟩
      · have := P.2.2; rw [q] at this; rw [show (Φ'.h₀.get? Φ.L) = some oL from hLg] at this; cases this
      · cases q : Φ.h₀.get? p.1 with
        | none => rfl
        | some o => have := P.2.2; rw [show (Φ'.h₀.get? p.1) = some o from st _ _ q] at this; cases this
    have oldOf : ∀ p ∈ x ++ n2, s'.heap.get? p.1 = some p.2 ∧ p.1 ≠ Φ.L ∧ Φ.h₀.get? p.1 = none := fun p hp =>
      ⟨F2.keep _ _ (keepO p hp), (Nw p (by rcases List.mem_append.mp hp with q | q <;> simp [q])).2⟩
    have ndx : ∀ ks : List (Addr × Obj), ks.Sublist (k1 ++ W'.fro) → ((x ++ n2 ++ ks).map (·.1)).Nodup := fun ks hks => by
      rw [List.map_append, List.nodup_append]
      refine ⟨List.Nodup.sublist (List.Sublist.map _ ?_) nd, List.Nodup.sublist (List.Sublist.map _ hks) (by simpa using nd2), fun a ha b hb e => ?_⟩
      · exact List.Sublist.append_left ((List.sublist_append_left n2 W.fro).trans (List.sublist_append_right n1 _)) x
      · obtain ⟨p, hp, rfl⟩ := List.mem_map.mp ha
        obtain ⟨p', hp', rfl⟩ := List.mem_map.mp hb
        have := (Nw2 p' (by simpa using hks.subset hp')).2.2
        rw [show Φ'.h₀.get? p'.1 = some p.2 from e ▸ keepO p hp] at this
        cases this
    refine ⟨_, rfl, ?_⟩
    suffices hh : ∀ rv, VRep G W' (retv a) rv → R0 Φ W x (fun a τ' => τ'.loc = τ.loc ∧ Q a τ'.hp) rv s' from hh _ ra'
    intro rv ra'
    rcases q with ⟨hl, q⟩ | ⟨hl, hc, q⟩
    · refine .val W' (retv a) ⟨τ.loc, τ'.hp⟩ le ra' ⟨m, k1, n2, FF, fun p hp => ?_, ?_, H2, Cc.mono le, fun k v e => (L k v e).mono le, cv, o2, g2⟩ ⟨rfl, q⟩
      · simp only [List.mem_append] at hp
        rcases hp with q | q | q | q
        · exact oldOf p (by simp [q])
        · exact newOf p (by simp [q])
        · exact oldOf p (by simp [q])
        · exact newOf p (by simp [q])
      · refine (List.Perm.nodup_iff (List.Perm.map _ ?_)).mp (ndx _ (List.Sublist.refl _))
        simp only [List.append_assoc]
        exact List.Perm.append_left x (by rw [← List.append_assoc, ← List.append_assoc]; exact List.Perm.append_right _ List.perm_append_comm)
    · obtain ⟨p1, p3, ek, Hc, Hl⟩ := H2.cut τ.hp.length hc
      subst ek
      obtain ⟨t, ht⟩ := le.rho
      have erho : W'.rho.take τ.hp.length = W.rho := by rw [← ht, ← H.len]; simp
      rw [erho] at Hc
      have H3 : HR G ⟨W.rho, W'.fro⟩ (τ'.hp.take τ.hp.length) W.rho p1 := Hc
      have le2 : W.le ⟨W.rho, W'.fro⟩ := ⟨List.prefix_refl _, le.fro⟩
      have fin : ∀ ex : List (Addr × Obj), ex.Sublist p3 → SimX Φ ⟨W.rho, W'.fro⟩ ⟨τ.loc, τ'.hp.take τ.hp.length⟩ (ex ++ x) s' := fun ex hex => by
        have sub : (p1 ++ (ex ++ W'.fro)).Sublist ((p1 ++ p3) ++ W'.fro) := by
          rw [List.append_assoc]
          exact List.Sublist.append_left (List.Sublist.append_right hex _) _
        refine ⟨m, p1, n2, FF, fun p hp => ?_, ?_, H3, Cc.mono le2, fun k v e => (L k v e).mono le2, cv, o2, g2⟩
        · simp only [List.mem_append] at hp
          rcases hp with (q | q) | q | q | q
          · exact newOf p (sub.subset (by simp [q]))
          · exact oldOf p (by simp [q])
          · exact newOf p (sub.subset (by simp [q]))
          · exact oldOf p (by simp [q])
          · exact newOf p (sub.subset (by
              have q : p ∈ W'.fro := q
              simp [q]))
        · refine (List.Perm.nodup_iff (List.Perm.map _ ?_)).mp (ndx _ sub)
          have e1 : x ++ n2 ++ (p1 ++ (ex ++ W'.fro)) = (x ++ n2 ++ p1) ++ (ex ++ W'.fro) := by simp
          have e2 : ex ++ x ++ (p1 ++ (n2 ++ W'.fro)) = ex ++ ((x ++ (p1 ++ n2)) ++ W'.fro) := by simp
          show (x ++ n2 ++ (p1 ++ (ex ++ W'.fro))).Perm (ex ++ x ++ (p1 ++ (n2 ++ W'.fro)))
          rw [e1, e2]
          refine List.Perm.trans (List.perm_append_comm_assoc _ _ _) (List.Perm.append_left ex (List.Perm.append_right _ ?_))
          rw [List.append_assoc]
          exact List.Perm.append_left x List.perm_append_comm
      unfold retN at q
      split at q
      · rename_i z ez
        rw [ez] at ra'
        refine .val ⟨W.rho, W'.fro⟩ _ ⟨τ.loc, τ'.hp.take τ.hp.length⟩ le2 (?_ : VRep G _ (.p z) rv) (fin [] (List.nil_sublist _)) ⟨rfl, q⟩
        cases ra' with
        | p p => exact .p p
      · rename_i k ez
        rw [ez] at ra'
        obtain ⟨l, el, hk, q⟩ := q
        obtain ⟨b, ws, j, eb, hb, pl⟩ := Hl k l el hk
        cases ra' with
        | @ref _ b' d' er =>
          rw [er] at eb
          have eb : b' = b := by simpa using eb
          subst eb
          exact .new ⟨W.rho, W'.fro⟩ l ⟨τ.loc, τ'.hp.take τ.hp.length⟩ b' ws j le2 pl (fin [(b', _)] (List.singleton_sublist.mpr hb)) ⟨rfl, q⟩
      · exact q.elim
end VE
namespace VE
variable {N : Nat → Str} {Z : Stc} {G : Gl N Z} {cs : Scope} {Φ : Cx G cs} {W : Wd} {τ : VS} {s : Shared} {x : List (Addr × Obj)}
noncomputable abbrev Defs := List (Nat × List Nat × WX)
/-- The calls of the text's own functions, to a depth. -/
noncomputable def callsR (T : Defs) : Nat → Calls
  | 0 => fun _ _ _ _ => False
  | d + 1 => fun f as hp Q => match getN f T with
    | some (ns, b) => gd (Nat.beq as.length ns.length) (b (callsR T d) ⟨ns.zip as, hp⟩ fun fl τ' => retW hp.length τ'.hp (retv fl) Q)
    | none => False
@[irreducible] noncomputable def callsOf (T : Defs) (d : Nat) : Calls := callsR T d
theorem callsOf_0 (T : Defs) (f : Addr) (as : List VV) (hp : List VO) (Q : Rs → List VO → Prop) : callsOf T 0 f as hp Q = False := by unfold callsOf; rfl
theorem callsOf_s (T : Defs) (d : Nat) (f : Addr) (as : List VV) (hp : List VO) (Q : Rs → List VO → Prop) : callsOf T (d + 1) f as hp Q = (match getN f T with
    | some (ns, b) => gd (Nat.beq as.length ns.length) (b (callsOf T d) ⟨ns.zip as, hp⟩ fun fl τ' => retW hp.length τ'.hp (retv fl) Q)
    | none => False) := by unfold callsOf; rfl
inductive DefOk (G : Gl N Z) (f : Addr) (ns : List Nat) (b : WX) : Prop where
  | mk {name qual : Str} {params : Arguments} {body : List Stmt} {scope : Scope} {dV kV doc pm cdv ct oc : Value} {an od : Option Addr} {osl : Array (Option Value)} (D : FnOk G f ns name qual params body scope dV kV doc pm cdv ct oc an od osl)
    (hb : SB G scope body b) (hbind : ∀ vs s, vs.length = ns.length → BindsTo s (fnOf name qual params body scope dV kV doc pm an cdv ct) ⟨vs, []⟩ ((ns.map N).zip vs))
theorem VRepL.length {l : List VV} {vs : List Value} (r : VRepL G W l vs) : vs.length = l.length := by
  induction r with
  | nil => rfl
  | cons _ _ ih => simp [ih]
theorem callsOk {T : Defs} (hT : ∀ f ns b, getN f T = some (ns, b) → DefOk G f ns b) : ∀ d dep, dep + 3 + 4 * d < 1000 → CallsOk G dep (callsOf T d) := by
  intro d
  induction d with
  | zero => intro dep _ cs Φ A _ _ _ W τ x s f as vs Q S r q; rw [callsOf_0] at q; exact q.elim
  | succ d ih =>
    intro dep hd cs Φ A hh hu hA W τ x s f as vs Q S r q
    rw [callsOf_s] at q
    cases e : getN f T with
    | none => rw [e] at q; exact q.elim
    | some p =>
      obtain ⟨ns, b⟩ := p
      rw [e] at q
      obtain ⟨hl, q⟩ := gd_ex q
      have hl := Nat.eq_of_beq_eq_true hl
      obtain ⟨D, hb, hbind⟩ := hT f ns b e
      have hr : recursionLimit = 1000 := rfl
      exact enter D hh hu (by omega) S r (hbind vs s (by rw [r.length, hl])) fun Φ' e' s1 S1 => hb Φ' (callsOf T d) (ih Φ'.A.depth (by omega)) W _ [] s1 _ S1 q
/-- The values of keyword arguments. -/
noncomputable def SK (G : Gl N Z) (cs : Scope) (kws : List Keyword) (w : WA) : Prop := ∀ (Φ : Cx G cs) C, CallsOk G Φ.A.depth C → ∀ pos W τ x s Q, SimX Φ W τ x s → w C τ Q → wpAny Φ.M Φ.A (evalAll ((backToKw pos (keywordEach kws Φ.env)).map (·.2))) (RA Φ W x Q) (fun _ _ => False) s
theorem SK_nil : SK G cs [] wA0 := fun Φ C ok pos W τ x s Q S q => wpAny_pure ⟨W, [], τ, .refl W, .nil, S, q⟩
theorem SK_cons {n : Option Str} {e : Expr} {kp : Pos} {rest : List Keyword} {w : WE} {ws : WA} (h : SE G cs e w) (h' : SK G cs rest ws) : SK G cs (⟨n, e, kp⟩ :: rest) (wAc w ws) := fun Φ C ok pos W τ x s Q S q => by
  show wpAny _ _ (evalAll ((do let v ← eval e Φ.env; standAt pos; pure v) :: ((backToKw pos (keywordEach rest Φ.env)).map (·.2)))) _ _ s
  refine wpAny_evalAll_cons (wpAny_bind (h.go ok S q fun W1 v τ1 c s1 le1 r1 S1 q1 => wpAny_bind (wpAny_standAt (wpAny_pure ?_))))
  exact wpAny_mono (h' Φ C ok pos W1 τ1 x s1 _ S1 q1) (fun vs s2 y => by
    obtain ⟨W2, as, τ2, le2, r2, S2, q2⟩ := y
    exact ⟨W2, v :: as, τ2, le1.trans le2, .cons (r1.mono le2) r2, S2, q2⟩) fun _ _ y => y
/-- An object of the class is made, its arguments by keywords. -/
structure NewOk (G : Gl N Z) : Prop where
  keep : keepIn G.K (.ref G.C) = true
  makes : makesIn G.K G.C = true
noncomputable abbrev wNew (T : Defs) (ns : List Nat) (b : WX) (ws : WA) : WE := fun C τ Q => ws C τ fun as τ1 => gd (Nat.beq (as.length + 1) ns.length) <| b (callsOf T 10) ⟨ns.zip (.ref τ1.hp.length :: as), τ1.hp ++ [.inst []]⟩ fun fl τ' => retW (τ1.hp.length + 1) τ'.hp (retv fl) fun r hp => match r with
  | .val (.p .none) => Q (.ref τ1.hp.length) ⟨τ1.loc, hp⟩
  | _ => False
theorem SE_new {T : Defs} (hT : ∀ f ns b, getN f T = some (ns, b) → DefOk G f ns b) {t : Str} {p : Pos} {kws : List Keyword} {pos : Pos} {fI : Addr} {kn : List Str} {ws : WA} {b : WX} {n : Nat} {ns : List Nat}
    {name qual : Str} {params : Arguments} {body : List Stmt} {scope : Scope} {dV kV doc pm cdv ct oc : Value} {an od : Option Addr} {osl : Array (Option Value)} (D : FnOk G fI ns name qual params body scope dV kV doc pm cdv ct oc an od osl) (hb : SB G scope body b)
    (O : NewOk G) (hi : findIn G.K (.ref G.C) "__init__" = some (some (.ref fI))) (hf : isFn G.K (.ref fI) = true) (htop : cs.names.lookup (N Z.topn) = some .local)
    (hn : N n = t) (hg : nsIn G.K mainGlobals t = some (some (.ref G.C))) (hk : cs.names.lookup t = some .globalImplicit) (h : SK G cs kws ws)
    (hbind : ∀ (s : Shared) v vs, G.K.In s.heap → vs.length + 1 = ns.length → BindsTo s (fnOf name qual params body scope dV kV doc pm an cdv ct) ⟨[v], kn.zip vs⟩ ((ns.map N).zip (v :: vs)))
    (hkn : ∀ env, (backToKw pos (keywordEach kws env)).filterMap (·.1) = kn) (hall : ∀ env, (backToKw pos (keywordEach kws env)).all (·.1.isSome) = true) (hplain : ∀ env, ((backTo pos (starEach [] env)).any (·.1) || (backToKw pos (keywordEach kws env)).any (·.1.isNone)) = false)
    (he : ∀ env, eval (.Call (.Name t p) [] kws pos) env = (do callWith pos (← eval (.Name t p) env) [] (backTo pos (starEach [] env)) (backToKw pos (keywordEach kws env)))) : SE G cs (.Call (.Name t p) [] kws pos) (wNew T ns b ws) := fun Φ C ok W τ x s Q S q => by
  subst hn
  rw [he]
  refine wpAny_bind (Calls.Name_function_global Φ.kind hk (Calls.loadGlobal_global (env := Φ.env) ((topRead_of Φ.T).g.keeps S.base) (mg_of Φ.K (topRead_of Φ.T).g hg) ?_) (G.hN.dbg n))
  refine callWith_KW0 Φ.K O.keep (hall _) (wpAny_mono (h Φ C ok pos W τ x s _ S q) (fun vs s2 y => ?_) fun _ _ y => y) (hplain _)
  obtain ⟨W1, as, τ1, le, r, S1, q1⟩ := y
  obtain ⟨hl, q1⟩ := gd_ex q1
  have hl := Nat.eq_of_beq_eq_true hl
  refine ⟨S1.K, ?_⟩
  rw [hkn]
  obtain ⟨m, n1, n2, F, Nw, nd, H, Cc, L, cv, o, g⟩ := id S1
  refine call_cls F Φ.K Nw O.makes hi hf fun y dy h' F' N' lt lt' => ?_
  have S2 : SimX Φ W1 τ1 ((y, instObj G.C dy) :: (dy, dictOf [] 0) :: x) { s2 with heap := h' } := by
    refine ⟨m, n1, n2, F', N', ?_, H, Cc, L, cv, o, g⟩
    show (((y, instObj G.C dy) :: (dy, dictOf [] 0) :: (x ++ (n1 ++ (n2 ++ W1.fro)))).map (·.1)).Nodup
    rw [List.map_cons, List.map_cons, List.nodup_cons, List.nodup_cons]
    refine ⟨fun hm => ?_, fun hm => ?_, nd⟩
    · rcases List.mem_cons.mp hm with q | q
      · exact Nat.ne_of_gt lt' q
      · obtain ⟨p, hp, e⟩ := List.mem_map.mp q
        exact Nat.ne_of_lt (Nat.lt_trans (lt p hp) lt') e
    · obtain ⟨p, hp, e⟩ := List.mem_map.mp hm
      exact Nat.ne_of_lt (lt p hp) e
  obtain ⟨W2, le2, e2, S3⟩ := S2.ownI (fs := []) (es := []) (n := 0) ⟨rfl, rfl, fun k => rfl⟩
  have un := Φ.un
  have ld := Φ.lowd htop
  have hr : recursionLimit = 1000 := rfl
  refine codeAny_mono (enter (Φ := Φ) (A := Φ.A.under (.builtin "type.__call__" ⟨.ref G.C :: ([] ++ []), kn.zip vs⟩)) (as := .ref τ1.hp.length :: as) (vs := .ref y :: vs) D Φ.hh ?_ ?_ S3 (.cons (.ref e2) (r.mono le2)) (hbind _ _ _ S3.K (by rw [r.length, hl])) fun Φ' e' s4 S4 => hb Φ' (callsOf T 10) (callsOk hT 10 Φ'.A.depth ?_) W2 _ [] s4 _ S4 (by simpa using q1)) ?_
  · show Φ.A.units + 1 ≤ 3 * (Φ.A.depth + 1) + 4
    omega
  · show Φ.A.depth + 1 < recursionLimit
    omega
  · rw [e']
    show Φ.A.depth + 1 + 1 + 3 + 4 * 10 < 1000
    omega
  · rintro r' s' ⟨v, rfl, r0⟩
    cases r0 with
    | val W3 a τ3 l r3 S5 q3 =>
      obtain ⟨el, q3⟩ := q3
      cases a with
      | p a =>
        cases a <;> first | exact q3.elim | skip
        cases r3
        rename_i r3
        cases r3
        exact ⟨rfl, W3, _, τ3, (le.trans le2).trans l, .ref (l.at e2), S5, by rw [← el] at q3; exact q3⟩
      | ref => exact q3.elim
      | meth => exact q3.elim
    | new W3 l τ3 q vs n l' r3 S5 q3 => exact q3.2.elim
end VE
namespace VE
variable {N : Nat → Str} {Z : Stc} {G : Gl N Z} {cs : Scope} {Φ : Cx G cs} {W : Wd} {τ : VS} {s : Shared} {x : List (Addr × Obj)}
/-- A part of a slice. -/
noncomputable abbrev WP := Calls → VS → (Option Int → VS → Prop) → Prop
inductive RP (Φ : Cx G cs) (W : Wd) (x : List (Addr × Obj)) (Q : Option Int → VS → Prop) (v : Value) (s : Shared) : Prop where
  | mk (W' : Wd) (i : Option Int) (τ : VS) (le : W.le W') (r : IsPart v i) (S : SimX Φ W' τ x s) (q : Q i τ)
noncomputable def SP (G : Gl N Z) (cs : Scope) (e : Option Expr) (w : WP) : Prop := ∀ (Φ : Cx G cs) C, CallsOk G Φ.A.depth C → ∀ W τ x s Q, SimX Φ W τ x s → w C τ Q → wpAny Φ.M Φ.A (evalPart e Φ.env) (RP Φ W x Q) (fun _ _ => False) s
noncomputable abbrev wP0 : WP := fun _ τ Q => Q none τ
theorem SP_none : SP G cs none wP0 := fun Φ C ok W τ x s Q S q => wpAny_pure ⟨W, none, τ, .refl W, .none, S, q⟩
noncomputable abbrev intV (v : VV) (Q : Int → Prop) : Prop := match v with
  | .p (.int i) => Q i
  | _ => False
noncomputable abbrev wP (w : WE) : WP := fun C τ Q => w C τ fun v τ' => intV v fun i => Q (some i) τ'
theorem SP_some {e : Expr} {w : WE} (h : SE G cs e w) : SP G cs (some e) (wP w) := fun Φ C ok W τ x s Q S q => by
  rw [evalPart_some]
  refine h.go ok S q fun W1 v τ1 c s1 le r S1 q1 => ?_
  unfold intV at q1
  split at q1
  · obtain ⟨t, rfl⟩ := r.int
    exact ⟨W1, _, τ1, le, .int _ t, S1, q1⟩
  · exact q1.elim
noncomputable def cutW (l : List PV) (i j : Option Int) (Q : List PV → Prop) : Prop := match i, j with
  | none, none => Q l
  | none, some j => 0 ≤ j ∧ Q (l.take j.toNat)
  | some i, none => 0 ≤ i ∧ Q (l.drop i.toNat)
  | some i, some j => (0 ≤ i ∧ i ≤ j ∧ j ≤ l.length) ∧ Q ((l.drop i.toNat).take (j.toNat - i.toNat))
theorem cutW_ex {F : Addr → Obj → Prop} {l : List PV} {vs : List Value} {i j : Option Int} {Q : List PV → Prop} (p : PRepL F l vs) (h : cutW l i j Q) : ∃ r, PRepL F r (slicePick vs.toArray i j none).toList ∧ Q r := by
  unfold cutW at h
  split at h
  · exact ⟨l, by rw [slicePick_all]; exact p, h⟩
  · obtain ⟨n, rfl⟩ := Int.eq_ofNat_of_zero_le h.1
    exact ⟨_, by rw [slicePick_upto']; exact p.take _, h.2⟩
  · obtain ⟨n, rfl⟩ := Int.eq_ofNat_of_zero_le h.1
    exact ⟨_, by rw [slicePick_from']; exact p.drop _, h.2⟩
  · obtain ⟨⟨h1, h2, h3⟩, q⟩ := h
    obtain ⟨n, rfl⟩ := Int.eq_ofNat_of_zero_le h1
    obtain ⟨m, rfl⟩ := Int.eq_ofNat_of_zero_le (Int.le_trans h1 h2)
    exact ⟨_, by rw [slicePick_run _ _ _ (by rw [List.size_toArray, p.length]; omega) (by omega)]; exact (p.drop _).take _, q⟩
noncomputable def sliW (hp : List VO) (v : VV) (i j : Option Int) (Q : List PV → Prop) : Prop := ∃ l, asL hp v = some l ∧ l.length ≤ sizeLine ∧ cutW l i j Q
noncomputable abbrev wSli (w : WE) (a b : WP) : W0 := fun C τ Q => w C τ fun v τ1 => a C τ1 fun i τ2 => b C τ2 fun j τ3 => sliW τ3.hp v i j fun l => Q (.new l) τ3
theorem S0_slice {value : Expr} {lo hi : Option Expr} {p pos : Pos} {w : WE} {a b : WP} (h : SE G cs value w) (ha : SP G cs lo a) (hb : SP G cs hi b) : S0 G cs (.Subscript value (.Slice lo hi none p) pos) (wSli w a b) := fun Φ C ok W τ x s Q S q =>
  Subscript_ (h.go ok S q fun W1 v τ1 c s1 le1 r1 S1 q1 => wpAny_Slice (wpAny_mono (ha Φ C ok W1 τ1 x s1 _ S1 q1) (fun vl s2 y => by
    obtain ⟨W2, i, τ2, le2, pi, S2, q2⟩ := y
    refine wpAny_mono (hb Φ C ok W2 τ2 x s2 _ S2 q2) (fun vu s3 y => ?_) fun _ _ y => y
    obtain ⟨W3, j, τ3, le3, pj, S3, l, e, hz, q3⟩ := y
    obtain ⟨y, vs, rfl, hl, p⟩ := S3.asL (r1.mono (le2.trans le3)) e
    obtain ⟨r, pr, q4⟩ := cutW_ex p q3
    refine wpAny_pure ?_
    refine tail_any (T := "list") (Heap.IsList.typeIs (s := { s3 with heap := s3.heap.push { cls := .type "slice", data := .fields #[vl, vu, .none] } }) (hl.push _)) slot_list_getitem.lookup
      (wpAny_getItem_list_slice (hl.push _) (Heap.IsSliceOf.new ..) pi pj .none (by simp) ?_ (by rw [List.size_toArray, p.length]; exact hz)) rfl
    have S4 := (S3.new (h' := s3.heap.push { cls := .type "slice", data := .fields #[vl, vu, .none] }) (t := s3.toks) (fun _ _ e => Heap.get?_push_of_some _ e) (Heap.get?_none_of_le (Nat.le_refl _)) (Heap.get?_push_size _ rfl)).forget
    have S5 := S4.new (h' := (s3.heap.push { cls := .type "slice", data := .fields #[vl, vu, .none] }).push { cls := .type "list", data := .seq (slicePick vs.toArray i j none) }) (t := s3.toks) (fun _ _ e => Heap.get?_push_of_some _ e) (Heap.get?_none_of_le (Nat.le_refl _)) (Heap.get?_push_size _ rfl)
    exact .new W3 r τ3 _ (slicePick vs.toArray i j none).toList 0 ((le1.trans le2).trans le3) pr S5 q4) fun _ _ y => y))
end VE
namespace VE
variable {N : Nat → Str} {Z : Stc} {G : Gl N Z} {cs : Scope} {Φ : Cx G cs} {W : Wd} {τ : VS} {s : Shared} {x : List (Addr × Obj)}
/-- A heap of which only some places are looked at. -/
noncomputable def restr (h : Heap) (p : Addr → Bool) : Heap := hideAll h ((List.range h.objs.size).filter fun b => !p b)
theorem restr_of {h : Heap} {p : Addr → Bool} {b : Addr} {o : Obj} (e : (restr h p).get? b = some o) : p b = true ∧ h.get? b = some o := by
  have e1 := of_hideAll _ e
  refine ⟨?_, e1⟩
  cases hp : p b with
  | true => rfl
  | false =>
    have : b ∈ (List.range h.objs.size).filter fun b => !p b := List.mem_filter.mpr ⟨List.mem_range.mpr (Heap.lt_size e1), by rw [hp]; rfl⟩
    have n := hideAll_none _ (h := h) this
    unfold restr at e
    rw [n] at e; cases e
theorem restr_get {h : Heap} {p : Addr → Bool} {b : Addr} {o : Obj} (hp : p b = true) (e : h.get? b = some o) : (restr h p).get? b = some o :=
  hideAll_get _ e fun hm => by
    have := (List.mem_filter.mp hm).2
    rw [hp] at this; cases this
theorem restr_size {h : Heap} {p : Addr → Bool} : (restr h p).objs.size = h.objs.size := hideAll_size _ _
/-- What a comprehension's block reads of the frame's cells. -/
noncomputable def clL (cells : List (Str × Addr)) : List (Str × NameKind) → List (Str × Addr) → List (Str × Addr)
  | [], acc => acc
  | (n, k) :: r, acc => match k == .free, cells.lookup n with
    | true, some a => clL cells r ((n, a) :: acc)
    | _, _ => clL cells r acc
theorem closure_is {env : Env} {names : List (Str × NameKind)} (h : ∀ p ∈ names, p.2 = .free → ∃ a, env.cells.lookup p.1 = some a) : ∀ acc : List (Str × Addr),
    (forIn names acc (fun (x : Str × NameKind) (r : List (Str × Addr)) => (match x with
      | (name, kind) => if (kind == .free) = true then (do let y ← cellOf env name; pure (ForInStep.yield ((name, y) :: r))) else pure (ForInStep.yield r) : Sem (ForInStep (List (Str × Addr)))))) = (pure (clL env.cells names acc) : Sem (List (Str × Addr))) := by
  induction names with
  | nil => intro acc; rfl
  | cons p r ih =>
    intro acc
    obtain ⟨n, k⟩ := p
    have ih := ih fun p hp => h p (.tail _ hp)
    rw [List.forIn_cons]
    cases hk : k == NameKind.free with
    | true =>
      obtain ⟨a, ha⟩ := h (n, k) (.head _) (beq_iff_eq.mp hk)
      simp only [clL, hk, ha, if_true]
      unfold cellOf
      rw [ha]
      exact ih _
    | false =>
      simp only [clL, hk, Bool.false_eq_true, if_false]
      exact ih _
theorem closureFor_is {scope : Scope} {env : Env} (h : ∀ p ∈ scope.names, p.2 = .free → ∃ a, env.cells.lookup p.1 = some a) : closureFor scope env = pure (clL env.cells scope.names []) := by
  unfold closureFor
  have := closure_is h []
  exact (congrArg (· >>= fun cs => pure cs) this).trans rfl
theorem clL_lookup {cells : List (Str × Addr)} {n : Str} {a : Addr} (ha : cells.lookup n = some a) : ∀ {names : List (Str × NameKind)} {acc : List (Str × Addr)}, (∀ b, acc.lookup n = some b → b = a) → ((n, NameKind.free) ∈ names ∨ acc.lookup n = some a) → (clL cells names acc).lookup n = some a := by
  intro names
  induction names with
  | nil => intro acc _ h; rcases h with h | h; · cases h
           exact h
  | cons p r ih =>
    intro acc hc h
    obtain ⟨m, k⟩ := p
    simp only [clL]
    cases hk : k == NameKind.free with
    | false =>
      refine ih hc ?_
      rcases h with h | h
      · rcases List.mem_cons.mp h with q | q
        · cases q; cases hk
        · exact .inl q
      · exact .inr h
    | true =>
      cases hm : cells.lookup m with
      | none =>
        refine ih hc ?_
        rcases h with h | h
        · rcases List.mem_cons.mp h with q | q
          · cases q; rw [ha] at hm; cases hm
          · exact .inl q
        · exact .inr h
      | some b =>
        dsimp only
        by_cases e : n = m
        · subst e
          rw [ha] at hm; cases hm
          exact ih (fun b hb => by simp [List.lookup] at hb; exact hb.symm) (.inr (by simp [List.lookup]))
        · have ne : (n == m) = false := beq_eq_false_iff_ne.mpr e
          refine ih (fun b hb => by simp only [List.lookup, ne] at hb; exact hc b hb) ?_
          rcases h with h | h
          · rcases List.mem_cons.mp h with q | q
            · cases q; exact absurd rfl e
            · exact .inl q
          · exact .inr (by simp only [List.lookup, ne]; exact h)
noncomputable def pickN (loc : List (Nat × VV)) : List Nat → Option (List (Nat × VV))
  | [] => some []
  | k :: r => match getN k loc, pickN loc r with
    | some v, some l => some ((k, v) :: l)
    | _, _ => none
theorem pickN_has {loc : List (Nat × VV)} : ∀ {fv : List Nat} {b : List (Nat × VV)}, pickN loc fv = some b → (∀ k ∈ fv, ∃ v, getN k loc = some v) ∧ ∀ k v, getN k b = some v → k ∈ fv ∧ getN k loc = some v := by
  intro fv
  induction fv with
  | nil => intro b h; cases h; exact ⟨fun k hk => (nomatch hk), fun k v e => by cases e⟩
  | cons k r ih =>
    intro b h
    simp only [pickN] at h
    split at h
    · rename_i v l e1 e2
      cases h
      obtain ⟨h1, h2⟩ := ih e2
      refine ⟨fun j hj => ?_, fun j u e => ?_⟩
      · rcases List.mem_cons.mp hj with rfl | hj
        · exact ⟨v, e1⟩
        · exact h1 j hj
      · simp only [getN] at e
        cases hk : Nat.beq j k with
        | true => rw [hk] at e; cases e; rw [Nat.eq_of_beq_eq_true hk]; exact ⟨.head _, e1⟩
        | false => rw [hk] at e; obtain ⟨a, b⟩ := h2 j u e; exact ⟨.tail _ a, b⟩
    · cases h
end VE
namespace VE
variable {N : Nat → Str} {Z : Stc} {G : Gl N Z} {cs : Scope} {Φ : Cx G cs} {W : Wd} {τ : VS} {s : Shared} {x : List (Addr × Obj)}
theorem comp_loop {elt target iter : Expr} {scope : Scope} {pos : Pos} {it acc : Value} {env : Env} {R : Result → Shared → Prop} {s : Shared} (I : Nat → Shared → Prop)
    (turn : ∀ n s, I n s → wpAny Φ.M Φ.A (pyNext it) (fun r s₁ => match r with
      | none => R (.ok .next) s₁
      | some v => wpAny Φ.M Φ.A (letOwnedTupleGo target it v) (fun _ s₀ => wpAny Φ.M Φ.A (assign target env v) (fun _ s₂ =>
          wpAny Φ.M Φ.A (eval elt env) (fun x s₄ => wpAny Φ.M Φ.A (call (.builtin "list.append") [acc, x]) (fun _ s₅ => ∃ m, m < n ∧ I m s₅) (fun _ _ => False) s₄) (fun _ _ => False) s₂) (fun _ _ => False) s₀) (fun _ _ => False) s₁) (fun _ _ => False) s)
    (n : Nat) (h : I n s) : codeAny Φ.M Φ.A (.compLoop (.ListComp elt [⟨target, iter, [], 0⟩] scope pos) 0 it acc env) R s := by
  have no : ∀ {α : Type} {t : Sem α} {P P' : α → Shared → Prop} {E : Value → Shared → Prop} {s : Shared}, wpAny Φ.M Φ.A t P (fun _ _ => False) s → (∀ a s', P a s' → P' a s') → wpAny Φ.M Φ.A t P' E s := fun h k => wpAny_mono h k fun _ _ x => x.elim
  refine codeAny_loop rfl I (fun n s hI => ?_) n h
  show wpAny _ _ ((compTurn (.ListComp elt [⟨target, iter, [], 0⟩] scope pos) 0 it acc env).onRaise (fun x => do noteFrame x env; theTreesLotGoes x)) _ _ s
  refine wpAny_noted ?_
  rw [compTurn_list1]
  refine wpAny_bind (wpAny_standAt (wpAny_bind (no (turn n s hI) fun r s₁ h₁ => ?_)))
  cases r with
  | none => exact wpAny_pure h₁
  | some v =>
    refine wpAny_bind (no h₁ fun _ s₀ h₀ => wpAny_bind (no h₀ fun _ s₂ h₂ => ?_))
    exact wpAny_bind (wpAny_bind (no h₂ fun x s₄ h₄ => wpAny_bind (no h₄ fun _ s₅ h₅ => wpAny_pure (wpAny_pure ⟨rfl, h₅⟩))))
/-- The scope of a comprehension's block within a scope. -/
noncomputable def relC (scope cs : Scope) : Scope := { scope with names := scope.names.map fun (n, k) => if (k == .free && cs.kind == .function && cs.names.lookup n == some .cell) then (n, .cell) else (n, k) }
/-- A comprehension's turns. -/
noncomputable def compW (tgt : PV → VS → (VS → Prop) → Prop) (elt : VS → (VV → VS → Prop) → Prop) (hp : List VO) (base : List (Nat × VV)) (Q : List PV → Prop) : List PV → List PV → Prop
  | [], acc => Q acc
  | v :: r, acc => tgt v ⟨base, hp⟩ fun τ1 => elt τ1 fun u τ2 => τ2.hp = hp ∧ match u with
    | .p z => compW tgt elt hp base Q r (acc ++ [z])
    | _ => False
structure CompOk (N : Nat → Str) (Z : Stc) (cs scope : Scope) (fv : List Nat) : Prop where
  cell : ∀ y ∈ scope.names, y.2 ≠ .cell
  kind : scope.kind = .function
  names : ∀ y ∈ scope.names, y.2 = .local → scope.names.lookup y.1 = some .local
  free : ∀ y ∈ scope.names, y.2 = .free → ∃ n ∈ fv, N n = y.1
  fv1 : ∀ n ∈ fv, (N n, NameKind.free) ∈ scope.names
  fv2 : ∀ n ∈ fv, cs.names.lookup (N n) = some .cell ∨ cs.names.lookup (N n) = some .free
  fv3 : ∀ n ∈ fv, (relC scope cs).names.lookup (N n) = some .cell ∨ (relC scope cs).names.lookup (N n) = some .free
  top : (relC scope cs).names.lookup (N Z.topn) ≠ some .local
/-- The frame's cells as they stand. -/
theorem SimX.cellOf (S : SimX Φ W τ x s) {k : Nat} {v : VV} (e : getN k τ.loc = some v) (hk : cs.names.lookup (N k) = some .cell ∨ cs.names.lookup (N k) = some .free) :
    ∃ c u, Φ.cells.lookup (N k) = some c ∧ s.heap.IsCell c (some u) ∧ VRep G W v u ∧ (c ∈ Φ.cv.map (·.2) ∨ (Φ.h₀.get? c).isSome = true) := by
  obtain ⟨m, n1, n2, F, Nw, nd, H, Cc, L, cv, o, g⟩ := S
  cases L k v e with
  | loc c a b r => rcases hk with q | q <;> rw [a] at q <;> cases q
  | cell hm =>
    obtain ⟨c, co, u, h1, h2, h3, r⟩ := Cc.at e hm
    exact ⟨c, u, (cv k c h1).2, ⟨co, (Nw (c, co) (by simp [h2])).1, h3⟩, r, .inl (List.mem_map.mpr ⟨_, h1, rfl⟩)⟩
  | fix c u a b d r =>
    refine ⟨c, u, b, d.keeps F.keep, r, .inr ?_⟩
    obtain ⟨o, ho, _⟩ := d
    rw [ho]; rfl
theorem CR.keys {loc : List (Nat × VV)} {l ns} (h : CR G W loc l ns) : ns.map (·.1) = l.map (·.2) := by
  induction h with
  | nil => rfl
  | cons _ _ _ ih => simp [ih]
/-- What stands while a comprehension runs. -/
noncomputable def stay (Φ : Cx G cs) (x : List (Addr × Obj)) (b : Addr) : Bool := (Φ.h₀.get? b).isSome || (x.map (·.1)).contains b || (Φ.cv.map (·.2)).contains b || b == Φ.L
/-- The frame of a comprehension's block. -/
noncomputable def compCx (Φ : Cx G cs) (scope : Scope) (cl : List (Str × Addr)) (C : Addr) (h₀ : Heap) (X : ∀ a o, G.h.get? a = some o → h₀.get? a = some o) (T : Top G.p G.loose G.mean G.mg G.mb h₀) (fv : List Nat) (ok : CompOk N Z cs scope fv) : Cx G (relC scope cs) :=
  ⟨Φ.A, h₀, C, cl, Φ.qual, none, Φ.code, Φ.frame, [], X, T, ok.kind, Φ.hh, Φ.un, Φ.dp, List.nodup_nil, fun e => absurd e ok.top, fun e => absurd e ok.top⟩
end VE
namespace VE
variable {N : Nat → Str} {Z : Stc} {G : Gl N Z} {cs : Scope} {Φ : Cx G cs} {W : Wd} {τ : VS} {s : Shared} {x : List (Addr × Obj)}
/-- Into a comprehension's block, and back. -/
theorem comp_in {Φc : Cx G scope'} {D C : Addr} {oD oC : Obj} {e : List (Addr × Obj)} {b : List (Nat × VV)} {h₁ : Heap} {mC : Str → Option Value} (hΦ : Φc.h₀ = restr h₁ (stay Φ x)) (hL : Φc.L = C) (hcv : Φc.cv = []) (hsz : h₁.objs.size ≤ C)
    (K0 : ∀ a o, Φc.h₀.get? a = some o → s.heap.get? a = some o) (hC : s.heap.Ns C mC) (hb : ∀ k v, getN k b = some v → LR Φc W mC k v) (S : SimX Φ W τ (e ++ (D, oD) :: (C, oC) :: x) s) :
    SimX Φc W ⟨b, τ.hp⟩ ((D, oD) :: e) s := by
  obtain ⟨m, n1, n2, F, Nw, nd, H, Cc, L, cv, o, g⟩ := S
  subst hL
  have pm : ((e ++ (D, oD) :: (Φc.L, oC) :: x) ++ (n1 ++ (n2 ++ W.fro))).Perm ((((D, oD) :: e) ++ (n1 ++ W.fro)) ++ ((Φc.L, oC) :: (x ++ n2))) := by
    have e1 : (e ++ (D, oD) :: (Φc.L, oC) :: x) ++ (n1 ++ (n2 ++ W.fro)) = e ++ ((D, oD) :: ((Φc.L, oC) :: (x ++ (n1 ++ (n2 ++ W.fro))))) := by simp
    have e2 : (((D, oD) :: e) ++ (n1 ++ W.fro)) ++ ((Φc.L, oC) :: (x ++ n2)) = (D, oD) :: (e ++ ((n1 ++ W.fro) ++ ((Φc.L, oC) :: (x ++ n2)))) := by simp
    rw [e1, e2]
    refine List.perm_middle.trans (List.Perm.cons _ (List.Perm.append_left e ?_))
    show ([(Φc.L, oC)] ++ (x ++ (n1 ++ (n2 ++ W.fro)))).Perm ((n1 ++ W.fro) ++ ([(Φc.L, oC)] ++ (x ++ n2)))
    refine List.Perm.trans (List.Perm.append_left _ ?_) (List.perm_append_comm_assoc _ _ _)
    refine List.Perm.trans ?_ List.perm_append_comm
    rw [List.append_assoc]
    exact List.Perm.append_left x (List.perm_append_comm_assoc n1 n2 W.fro)
  have nd' := ((pm.map (·.1)).nodup_iff).mp nd
  rw [List.map_append, List.nodup_append] at nd'
  obtain ⟨nda, _, ndb⟩ := nd'
  refine ⟨mC, n1, [], ⟨hC, K0, by rw [hΦ, restr_size]; exact hsz⟩, fun p hp => ?_, nda, H, by rw [hcv]; exact .nil, hb, (fun k c hm => by rw [hcv] at hm; cases hm), o, g⟩
  have hp : p ∈ ((D, oD) :: e) ++ (n1 ++ W.fro) := hp
  have P := Nw p (pm.symm.subset (List.mem_append_left _ hp))
  have hk : p.1 ∈ (((D, oD) :: e) ++ (n1 ++ W.fro)).map (·.1) := List.mem_map_of_mem hp
  refine ⟨P.1, fun q => ndb _ hk _ (List.mem_map.mpr ⟨(Φc.L, oC), .head _, rfl⟩) q, ?_⟩
  cases q : Φc.h₀.get? p.1 with
  | none => rfl
  | some o' =>
    rw [hΦ] at q
    obtain ⟨hs, _⟩ := restr_of q
    unfold stay at hs
    simp only [Bool.or_eq_true, List.contains_iff_mem, beq_iff_eq] at hs
    rcases hs with ((hs | hs) | hs) | hs
    · rw [P.2.2] at hs; cases hs
    · obtain ⟨p', hp', e'⟩ := List.mem_map.mp hs
      exact absurd e'.symm (ndb _ hk _ (List.mem_map.mpr ⟨p', .tail _ (List.mem_append_left _ hp'), rfl⟩))
    · rw [← Cc.keys] at hs
      obtain ⟨p', hp', e'⟩ := List.mem_map.mp hs
      exact absurd e'.symm (ndb _ hk _ (List.mem_map.mpr ⟨p', .tail _ (List.mem_append_right _ hp'), rfl⟩))
    · exact absurd hs P.2.1
theorem comp_out {Φc : Cx G scope'} {D C : Addr} {oD oC : Obj} {e : List (Addr × Obj)} {W' : Wd} {τc : VS} {s' : Shared} {h₁ : Heap} (hΦ : Φc.h₀ = restr h₁ (stay Φ x)) (hL : Φc.L = C) (hcv : Φc.cv = [])
    (h1 : ∀ a o, stay Φ x a = true → s.heap.get? a = some o → h₁.get? a = some o) (le : W.le W') (S : SimX Φ W τ (e ++ (D, oD) :: (C, oC) :: x) s) (S' : SimX Φc W' τc ((D, oD) :: e) s') (eh : τc.hp = τ.hp) :
    ∃ oC', (∃ mC : Str → Option Value, ∃ es ep, oC'.data = .dict es ep ∧ StrKeys es ∧ ∀ name, nsFind es name = mC name) ∧ SimX Φ W' τ (e ++ (D, oD) :: (C, oC') :: x) s' := by
  obtain ⟨m, n1, n2, F, Nw, nd, H, Cc, L, cv, o, g⟩ := S
  obtain ⟨m2, k1, k2, F2, Nw2, nd2, H2, C2, _, _, o2, g2⟩ := S'
  rw [hcv] at C2
  cases C2
  subst hL
  rw [eh] at H2
  obtain ⟨oC', esC, epC, gC, rC⟩ := F2.ns
  have kp : ∀ a o, stay Φ x a = true → s.heap.get? a = some o → s'.heap.get? a = some o := fun a o hs e => F2.keep a o (by rw [hΦ]; exact restr_get hs (h1 a o hs e))
  obtain ⟨oL, es, ep, hgL, hLd⟩ := F.ns
  have FF : Fr Φ.h₀ Φ.L s'.heap m := ⟨⟨oL, es, ep, kp _ _ (by simp [stay]) hgL, hLd⟩, fun b o e => kp b o (by simp [stay, e]) (F.keep b o e), F.above⟩
  have oldx : ∀ p ∈ x ++ n2, s'.heap.get? p.1 = some p.2 ∧ p.1 ≠ Φ.L ∧ Φ.h₀.get? p.1 = none ∧ stay Φ x p.1 = true := fun p hp => by
    have P := Nw p (by rcases List.mem_append.mp hp with q | q <;> simp [q])
    have hs : stay Φ x p.1 = true := by
      unfold stay
      simp only [Bool.or_eq_true, List.contains_iff_mem, beq_iff_eq]
      rcases List.mem_append.mp hp with q | q
      · exact .inl (.inl (.inr (List.mem_map_of_mem q)))
      · refine .inl (.inr ?_)
        rw [← Cc.keys]
        exact List.mem_map_of_mem q
    exact ⟨kp _ _ hs P.1, P.2.1, P.2.2, hs⟩
  have newc : ∀ p ∈ ((D, oD) :: e) ++ (k1 ++ W'.fro), s'.heap.get? p.1 = some p.2 ∧ p.1 ≠ Φ.L ∧ Φ.h₀.get? p.1 = none ∧ p.1 ≠ Φc.L ∧ Φc.h₀.get? p.1 = none := fun p hp => by
    have P := Nw2 p (by simpa using hp)
    refine ⟨P.1, fun q => ?_, ?_, P.2.1, P.2.2⟩
    · have := P.2.2
      rw [q, hΦ, restr_get (by simp [stay]) (h1 _ _ (by simp [stay]) hgL)] at this
      cases this
    · cases q : Φ.h₀.get? p.1 with
      | none => rfl
      | some o' =>
        have := P.2.2
        rw [hΦ, restr_get (by simp [stay, q]) (h1 _ _ (by simp [stay, q]) (F.keep _ _ q))] at this
        cases this
  have hCold := Nw (Φc.L, oC) (by simp)
  have hCx : ∀ p ∈ x ++ n2, p.1 ≠ Φc.L := fun p hp q => by
    have pm : ((e ++ (D, oD) :: (Φc.L, oC) :: x) ++ (n1 ++ (n2 ++ W.fro))).Perm ((Φc.L, oC) :: ((e ++ (D, oD) :: x) ++ (n1 ++ (n2 ++ W.fro)))) := by
      have e1 : (e ++ (D, oD) :: (Φc.L, oC) :: x) ++ (n1 ++ (n2 ++ W.fro)) = (e ++ [(D, oD)]) ++ (Φc.L, oC) :: (x ++ (n1 ++ (n2 ++ W.fro))) := by simp
      rw [e1]
      refine List.perm_middle.trans ?_
      simp
    have nd' := ((pm.map (·.1)).nodup_iff).mp nd
    rw [List.map_cons, List.nodup_cons] at nd'
    refine nd'.1 (List.mem_map.mpr ⟨p, ?_, q⟩)
    rcases List.mem_append.mp hp with z | z <;> simp [z]
  refine ⟨oC', ⟨m2, esC, epC, rC⟩, m, k1, n2, FF, fun p hp => ?_, ?_, H2, Cc.mono le, fun k v e => (L k v e).mono le, cv, o2, g2⟩
  · simp only [List.mem_append, List.mem_cons] at hp
    rcases hp with (q | q | q | q) | q | q | q
    · have P := newc p (by simp [q]); exact ⟨P.1, P.2.1, P.2.2.1⟩
    · have P := newc p (by simp [q]); exact ⟨P.1, P.2.1, P.2.2.1⟩
    · subst q; exact ⟨gC, hCold.2⟩
    · have P := oldx p (by simp [q]); exact ⟨P.1, P.2.1, P.2.2.1⟩
    · have P := newc p (by simp [q]); exact ⟨P.1, P.2.1, P.2.2.1⟩
    · have P := oldx p (by simp [q]); exact ⟨P.1, P.2.1, P.2.2.1⟩
    · have P := newc p (by simp [q]); exact ⟨P.1, P.2.1, P.2.2.1⟩
  · have pm : ((Φc.L, oC') :: (((x ++ n2)) ++ (((D, oD) :: e) ++ (k1 ++ W'.fro)))).Perm ((e ++ (D, oD) :: (Φc.L, oC') :: x) ++ (k1 ++ (n2 ++ W'.fro))) := by
      have e1 : (e ++ (D, oD) :: (Φc.L, oC') :: x) ++ (k1 ++ (n2 ++ W'.fro)) = (e ++ [(D, oD)]) ++ (Φc.L, oC') :: (x ++ (k1 ++ (n2 ++ W'.fro))) := by simp
      rw [e1]
      refine List.Perm.trans (List.Perm.cons _ ?_) List.perm_middle.symm
      have e2 : (e ++ [(D, oD)]) ++ (x ++ (k1 ++ (n2 ++ W'.fro))) = (e ++ [(D, oD)]) ++ ((x ++ (k1 ++ (n2 ++ W'.fro)))) := rfl
      refine List.Perm.trans (List.perm_append_comm (l₁ := x ++ n2)) ?_
      have e3 : ((D, oD) :: e ++ (k1 ++ W'.fro)) ++ (x ++ n2) = ((D, oD) :: e) ++ ((k1 ++ W'.fro) ++ (x ++ n2)) := by simp
      rw [e3]
      refine List.Perm.append (List.perm_append_comm (l₁ := [(D, oD)])) ?_
      refine List.Perm.trans List.perm_append_comm ?_
      rw [List.append_assoc]
      refine List.Perm.append_left x ?_
      exact List.perm_append_comm_assoc n2 k1 W'.fro
    refine ((pm.map (·.1)).nodup_iff).mp ?_
    rw [List.map_cons, List.nodup_cons, List.map_append, List.nodup_append]
    refine ⟨fun hm => ?_, ?_, by simpa using nd2, fun a ha b hb e' => ?_⟩
    · rcases List.mem_append.mp hm with q | q
      · obtain ⟨p, hp, e'⟩ := List.mem_map.mp q
        exact hCx p hp e'
      · obtain ⟨p, hp, e'⟩ := List.mem_map.mp q
        exact (newc p hp).2.2.2.1 e'
    · refine List.Nodup.sublist (List.Sublist.map _ ?_) nd
      refine List.Sublist.append (((List.sublist_cons_self _ _).trans (List.sublist_cons_self _ _)).trans (List.sublist_append_right e _)) ?_
      exact (List.sublist_append_left n2 W.fro).trans (List.sublist_append_right n1 _)
    · obtain ⟨p, hp, rfl⟩ := List.mem_map.mp ha
      obtain ⟨p', hp', rfl⟩ := List.mem_map.mp hb
      have P := oldx p hp
      have Q := (newc p' hp').2.2.2.2
      have old := Nw p (by rcases List.mem_append.mp hp with q | q <;> simp [q])
      rw [← e', hΦ, restr_get P.2.2.2 (h1 _ _ P.2.2.2 old.1)] at Q
      cases Q
end VE
namespace VE
variable {N : Nat → Str} {Z : Stc} {G : Gl N Z} {cs : Scope} {Φ : Cx G cs} {W : Wd} {τ : VS} {s : Shared} {x : List (Addr × Obj)}
noncomputable def NsD (o : Obj) : Prop := ∃ mC : Str → Option Value, ∃ es ep, o.data = .dict es ep ∧ StrKeys es ∧ ∀ name, nsFind es name = mC name
/-- One of the other objects is changed. -/
theorem SimX.updM {e : List (Addr × Obj)} {q : Addr} {co co' : Obj} {h' : Heap} (S : SimX Φ W τ (e ++ (q, co) :: x) s) (e1 : h'.get? q = some co') (sb : Heap.SameBut q s.heap h') (t : Nat) : SimX Φ W τ (e ++ (q, co') :: x) { s with heap := h', toks := t } := by
  have pm : ∀ c : Obj, (e ++ (q, c) :: x).Perm ((q, c) :: (e ++ x)) := fun c => List.perm_middle
  exact ((S.perm (pm co)).updX e1 sb t).perm (pm co').symm
theorem SimX.mid {e : List (Addr × Obj)} {q : Addr} {co : Obj} (S : SimX Φ W τ (e ++ (q, co) :: x) s) : s.heap.get? q = some co := (S.perm (x' := (q, co) :: (e ++ x)) List.perm_middle).first
theorem SimX.stays {e : List (Addr × Obj)} {a : Addr} (S : SimX Φ W τ (e ++ x) s) (h : stay Φ x a = true) : ∃ o, s.heap.get? a = some o := by
  obtain ⟨m, n1, n2, F, Nw, nd, H, Cc, L, cv, o, g⟩ := S
  unfold stay at h
  simp only [Bool.or_eq_true, List.contains_iff_mem, beq_iff_eq] at h
  rcases h with ((h | h) | h) | h
  · obtain ⟨o, ho⟩ := Option.isSome_iff_exists.mp h
    exact ⟨o, F.keep _ _ ho⟩
  · obtain ⟨p, hp, rfl⟩ := List.mem_map.mp h
    exact ⟨p.2, (Nw p (by simp [hp])).1⟩
  · rw [← Cc.keys] at h
    obtain ⟨p, hp, rfl⟩ := List.mem_map.mp h
    exact ⟨p.2, (Nw p (by simp [hp])).1⟩
  · obtain ⟨oL, _, _, hL, _⟩ := F.ns
    exact ⟨oL, h ▸ hL⟩
theorem comp_go {elt iter target : Expr} {scope : Scope} {pos : Pos} {fv : List Nat} {t : WS} {w : WE} (ok : CompOk N Z cs scope fv) (ht : SS G (relC scope cs) target t) (he : SE G (relC scope cs) elt w) {C : Calls} (okC : CallsOk G Φ.A.depth C)
    {l : List PV} {keep : VS → Prop} {XP : Nat → List (Addr × Obj) → Prop} {e0 : List (Addr × Obj)} {it : Value} (src : SrcOk Φ W l keep it XP) (x0 : XP 0 e0) (S : SimX Φ W τ (e0 ++ x) s) (kp : keep τ) {b : List (Nat × VV)} (hb : pickN τ.loc fv = some b) (hz : l.length ≤ 1000000)
    {Q : List PV → Prop} (q : compW (fun v τ q => t C τ (.p v) q) (w C) τ.hp b Q l []) {use : Option (Value → Sem Unit)} {P : Value → Shared → Prop}
    (hend : ∀ W' acc vs n D Ca oC s', W.le W' → PRepL (FW G W') acc vs → SimX Φ W' τ ((D, listOf vs.toArray n) :: (Ca, oC) :: x) s' → NsD oC → Q acc → compPost Φ.M Φ.A (fun _ _ => False) use P (.ref D) Ca (.ok .next) s') :
    wpAny Φ.M Φ.A (newList []) (fun acc s₃ => wpAny Φ.M Φ.A (newFunctionEnv scope Φ.env.globals (clL Φ.cells scope.names []) [] Φ.env.qual none .none (some Φ.env)) (fun cenv s₄ =>
        codeAny Φ.M Φ.A (.compStart (.ListComp elt [⟨target, iter, [], 0⟩] scope pos) 0 it acc { cenv with scope := relabel scope Φ.env }) (compPost Φ.M Φ.A (fun _ _ => False) use P acc cenv.locals) s₄) (fun _ _ => False) s₃) (fun _ _ => False) s := by
  refine wpAny_newObj_type (hd := by size_fits) ?_
  have S2 := ((S.new (h' := s.heap.push { cls := .type "list", dict := none, data := .seq ([] : List Value).toArray }) (t := s.toks) (fun _ _ e => Heap.get?_push_of_some _ e) (Heap.get?_none_of_le (Nat.le_refl _)) (Heap.get?_push_size _ rfl)).perm (x' := e0 ++ (s.heap.objs.size, listOf ([] : List Value).toArray 0) :: x) List.perm_middle.symm)
  generalize s.heap.objs.size = D at S2 ⊢
  generalize hs₂ : ({ s with heap := s.heap.push { cls := .type "list", dict := none, data := .seq ([] : List Value).toArray } } : Shared) = s₂ at S2 ⊢
  refine wpAny_newFunctionEnv ok.cell (by intro y hy; simp at hy) (fun h₁ hns₁ hsb₁ => ?_) ok.kind
  have k₁ : ∀ b o, s₂.heap.get? b = some o → h₁.get? b = some o := fun b o x => hsb₁.extBut b o (Nat.ne_of_lt (Heap.lt_size x)) (Heap.get?_push_of_some _ x)
  obtain ⟨oC, esC, epC, gC, rC⟩ := id hns₁
  have S3 := (S2.new (h' := h₁) (t := s₂.toks) k₁ (Heap.get?_none_of_le (Nat.le_refl _)) gC).perm (x' := e0 ++ (D, listOf ([] : List Value).toArray 0) :: (s₂.heap.objs.size, oC) :: x) (by
    have : e0 ++ (D, listOf ([] : List Value).toArray 0) :: (s₂.heap.objs.size, oC) :: x = (e0 ++ [(D, listOf ([] : List Value).toArray 0)]) ++ (s₂.heap.objs.size, oC) :: x := by simp
    rw [this]
    refine List.Perm.trans ?_ List.perm_middle.symm
    simp)
  have hCsz : s₂.heap.objs.size = s₂.heap.objs.size := rfl
  generalize hCa : s₂.heap.objs.size = Ca at S3 gC hns₁ ⊢
  have st : ∀ a o, Φ.h₀.get? a = some o → (restr s₂.heap (stay Φ x)).get? a = some o := fun a o e => restr_get (by simp [stay, e]) (S2.base a o e)
  let Φc := compCx Φ scope (clL Φ.cells scope.names []) Ca (restr s₂.heap (stay Φ x)) (fun a o e => st a o (Φ.X a o e)) (Φ.T.keeps st) fv ok
  have HB : ∀ W' mC k v, W.le W' → getN k b = some v → LR Φc W' mC k v := fun W' mC k v le e => by
    obtain ⟨h1, h2⟩ := pickN_has hb
    obtain ⟨h3, h4⟩ := h2 k v e
    obtain ⟨c, u, e1, e2, r, hs⟩ := S2.cellOf h4 (ok.fv2 k h3)
    obtain ⟨oc, e3, e4⟩ := e2
    refine .fix c u (ok.fv3 k h3) (clL_lookup e1 (fun b hb => by cases hb) (.inl (ok.fv1 k h3))) ⟨oc, restr_get ?_ e3, e4⟩ (r.mono le)
    unfold stay
    simp only [Bool.or_eq_true, List.contains_iff_mem, beq_iff_eq]
    rcases hs with hs | hs
    · exact .inl (.inr hs)
    · exact .inl (.inl (.inl hs))
  have L : ∀ s', SimX Φ W τ (e0 ++ (D, listOf ([] : List Value).toArray 0) :: (Ca, oC) :: x) s' → (∀ a o, Φc.h₀.get? a = some o → s'.heap.get? a = some o) →
      codeAny Φ.M Φ.A (.compLoop (.ListComp elt [⟨target, iter, [], 0⟩] scope pos) 0 it (.ref D) Φc.env) (compPost Φ.M Φ.A (fun _ _ => False) use P (.ref D) Ca) s' := fun s' S' K' => by
    refine comp_loop (fun n s' => ∃ i W' e vs nD oC acc, n + i = l.length + 1 ∧ i ≤ l.length ∧ W.le W' ∧ XP i e ∧ SimX Φ W' τ (e ++ (D, listOf vs.toArray nD) :: (Ca, oC) :: x) s' ∧ NsD oC ∧ PRepL (FW G W') acc vs ∧ acc.length ≤ i ∧
        (∀ a o, Φc.h₀.get? a = some o → s'.heap.get? a = some o) ∧ compW (fun v τ q => t C τ (.p v) q) (w C) τ.hp b Q (l.drop i) acc) (fun n s' ⟨i, W', e, vs, nD, oC, acc, en, hi, le', xi, S', nsd, pr, al, K', q'⟩ => ?_) (l.length + 1) ⟨0, W, e0, [], 0, oC, [], rfl, Nat.zero_le _, .refl _, x0, S', ⟨_, esC, epC, rC⟩, .nil, Nat.le_refl _, K', q⟩
    by_cases hie : i = l.length
    · subst hie
      refine src.stop W' τ e _ s' _ le' xi S' kp fun s3 S3 => ?_
      rw [List.drop_length] at q'
      exact hend W' acc vs nD D Ca oC s3 le' pr S3 nsd q'
    · have hlt : i < l.length := Nat.lt_of_le_of_ne hi hie
      have ha : l[i]? = some l[i] := List.getElem?_eq_getElem hlt
      rw [List.drop_eq_getElem_cons hlt] at q'
      have nsOf : ∀ {e : List (Addr × Obj)} {oD oC : Obj} {W' : Wd} {s' : Shared}, SimX Φ W' τ (e ++ (D, oD) :: (Ca, oC) :: x) s' → NsD oC → ∃ mC, s'.heap.Ns Ca mC := fun {e oD oC W' s'} S ⟨mC, es, ep, r⟩ =>
        ⟨mC, oC, es, ep, (show SimX Φ W' τ ((e ++ [(D, oD)]) ++ (Ca, oC) :: x) s' by simpa using S).mid, r⟩
      obtain ⟨mC, hN⟩ := nsOf S' nsd
      have Sc := comp_in (Φc := Φc) rfl rfl rfl (Nat.le_of_eq hCa) K' hN (fun k v e => HB W' mC k v le' e) S'
      refine src.item i _ W' τ e _ s' _ le' ha xi S' kp fun c e' s1 rc xi' S1 oth => ?_
      refine src.go (i + 1) W' τ e' _ s1 target c _ xi' S1 ?_
      have K1 : ∀ a o, Φc.h₀.get? a = some o → s1.heap.get? a = some o := fun a o ea => oth a o (fun hm => by
        obtain ⟨p, hp, e1⟩ := List.mem_map.mp hm
        obtain ⟨_, _, _, _, Nwc, _⟩ := Sc
        have := (Nwc p (by simp [hp])).2.2
        rw [e1, ea] at this; cases this) (K' a o ea)
      obtain ⟨mC1, hN1⟩ := nsOf S1 nsd
      have Sc1 := comp_in (Φc := Φc) rfl rfl rfl (Nat.le_of_eq hCa) K1 hN1 (fun k v e => HB W' mC1 k v le' e) S1
      refine wpAny_mono (ht Φc C okC W' _ _ s1 (.p l[i]) c _ Sc1 (.p rc) q') (fun _ s2 y => ?_) fun _ _ y => y
      obtain ⟨W2, τ2, le2, Sc2, q2⟩ := y
      refine wpAny_mono (he Φc C okC W2 τ2 _ s2 _ Sc2 q2) (fun u s3 y => ?_) fun _ _ y => y
      obtain ⟨W3, uv, τ3, le3, ru, Sc3, eh, q3⟩ := y
      have stK : ∀ a o, stay Φ x a = true → s1.heap.get? a = some o → s₂.heap.get? a = some o := fun a o hs e => by
        obtain ⟨o2, h2⟩ := SimX.stays (e := e0 ++ [(D, listOf ([] : List Value).toArray 0)]) (x := x) (by simpa using S2) hs
        have := K1 a o2 (restr_get hs h2)
        rw [e] at this
        cases this
        exact h2
      obtain ⟨oC', nsd', S3⟩ := comp_out (Φc := Φc) (h₁ := s₂.heap) rfl rfl rfl stK (le2.trans le3) S1 Sc3 eh
      cases uv with
      | ref => exact q3.elim
      | meth => exact q3.elim
      | p z =>
        cases ru with
        | p rz =>
          have hD := S3.mid
          have le13 := le2.trans le3
          have prl := (pr.mono le13.FW).app rz
          refine append_at hD (fun h' sb ho' => ?_) (hsz := ?_)
          · have S4 := S3.updM (co' := listOf (vs ++ [u]).toArray (nD + 1)) (by rw [ho', List.push_toArray]) sb s3.toks
            refine ⟨l.length - i, by omega, i + 1, W3, e', vs ++ [u], nD + 1, oC', acc ++ [z], by omega, hlt, le'.trans le13, xi', S4, nsd', prl, by simp; omega, fun a o ea => ?_, q3⟩
            have : a ≠ D := fun e1 => by
              obtain ⟨_, _, _, _, Nwc, _⟩ := Sc3
              have := (Nwc (D, listOf vs.toArray nD) (by simp)).2.2
              rw [← e1] at this
              rw [ea] at this; cases this
            obtain ⟨_, _, _, Fc, _⟩ := Sc3
            exact (sb.2 a this).trans (Fc.keep a o ea)
          · have := pr.length
            have : sizeLine = 2 ^ 24 := rfl
            simp only [List.size_toArray]
            omega
  have K3 : ∀ a o, Φc.h₀.get? a = some o → ({ s₂ with heap := h₁, toks := s₂.toks } : Shared).heap.get? a = some o := fun a o e => k₁ a o (restr_of e).2
  exact codeAny_compStart_list (L _ S3 K3) (wpAny_mono (src.again 0 W τ e0 _ _ (fun v s' => v = it ∧ s' = _) (.refl W) x0 S3 ⟨rfl, rfl⟩) (fun _ _ y => by obtain ⟨rfl, rfl⟩ := y; exact L _ S3 K3) fun _ _ y => y.elim)
end VE
namespace VE
variable {N : Nat → Str} {Z : Stc} {G : Gl N Z} {cs : Scope} {Φ : Cx G cs} {W : Wd} {τ : VS} {s : Shared} {x : List (Addr × Obj)}
noncomputable def compB (N : Nat → Str) (Z : Stc) (cs scope : Scope) (fv : List Nat) : Bool :=
  scope.names.all (fun y => y.2 != .cell) && scope.kind == .function && scope.names.all (fun y => y.2 != .local || scope.names.lookup y.1 == some .local) && scope.names.all (fun y => y.2 != .free || fv.any fun n => N n == y.1) &&
  fv.all (fun n => scope.names.any fun y => y.1 == N n && y.2 == .free) && fv.all (fun n => cs.names.lookup (N n) == some .cell || cs.names.lookup (N n) == some .free) &&
  fv.all (fun n => (relC scope cs).names.lookup (N n) == some .cell || (relC scope cs).names.lookup (N n) == some .free) && (relC scope cs).names.lookup (N Z.topn) != some .local
theorem CompOk.of {scope : Scope} {fv : List Nat} (h : compB N Z cs scope fv = true) : CompOk N Z cs scope fv := by
  unfold compB at h
  simp only [Bool.and_eq_true, List.all_eq_true, List.any_eq_true, bne_iff_ne, ne_eq, beq_iff_eq, Bool.or_eq_true] at h
  obtain ⟨⟨⟨⟨⟨⟨⟨h1, h2⟩, h3⟩, h4⟩, h5⟩, h6⟩, h7⟩, h8⟩ := h
  exact ⟨h1, h2, fun y hy e => (h3 y hy).resolve_left (fun q => q e), fun y hy e => (h4 y hy).resolve_left (fun q => q e), fun n hn => by
    obtain ⟨y, hy, e1, e2⟩ := h5 n hn
    obtain ⟨a, b⟩ := y
    rw [← e1, ← e2]; exact hy, h6, h7, h8⟩
/-- A comprehension. -/
noncomputable def compR (t : WS) (w : WE) (fv : List Nat) (C : Calls) (l : List PV) (τ : VS) (Q : List PV → Prop) : Prop := l.length ≤ 1000000 ∧ match pickN τ.loc fv with
  | some b => compW (fun v τ q => t C τ (.p v) q) (w C) τ.hp b Q l []
  | none => False
noncomputable abbrev wComp (i : WI) (t : WS) (w : WE) (fv : List Nat) : W0 := fun C τ Q => gd (pickN τ.loc fv).isSome <| i C τ fun l keep τ1 => compR t w fv C l τ1 fun acc => Q (.new acc) τ1
theorem comp_clos {scope : Scope} {fv : List Nat} (ok : CompOk N Z cs scope fv) (S : SimX Φ W τ x s) (h : (pickN τ.loc fv).isSome = true) : closureFor scope Φ.env = pure (clL Φ.cells scope.names []) := by
  obtain ⟨b, hb⟩ := Option.isSome_iff_exists.mp h
  refine closureFor_is fun p hp hf => ?_
  obtain ⟨n, hn, e⟩ := ok.free p hp hf
  obtain ⟨v, hv⟩ := (pickN_has hb).1 n hn
  obtain ⟨c, u, e1, _⟩ := S.cellOf hv (ok.fv2 n hn)
  exact ⟨c, by rw [← e]; exact e1⟩
theorem NsD.ns {o : Obj} (h : NsD o) {hp : Heap} {C : Addr} (e : hp.get? C = some o) : ∃ m, hp.Ns C m :=
  let ⟨m, es, ep, r⟩ := h; ⟨m, o, es, ep, e, r⟩
section
variable {elt iter target : Expr} {scope : Scope} {pos : Pos} {fv : List Nat} {i : WI} {t : WS} {w : WE}
theorem S0_comp (ok : CompOk N Z cs scope fv) (hi : SI G cs iter i) (ht : SS G (relC scope cs) target t) (he : SE G (relC scope cs) elt w) (hs : ∀ env x, foldedSetIterable iter env x = pure x) :
    S0 G cs (.ListComp elt [⟨target, iter, [], 0⟩] scope pos) (wComp i t w fv) := fun Φ C okC W τ x s Q S q => by
  obtain ⟨h1, q⟩ := gd_ex q
  show wpAny _ _ (comprehension (.ListComp elt [⟨target, iter, [], 0⟩] scope pos) scope Φ.env _ (newList []) false (eval iter Φ.env)) _ _ s
  refine wpAny_comprehension_free (use := none) rfl (hs _) (comp_clos ok S h1) ok.kind ok.names (wpAny_mono (hi Φ C okC W τ x s _ S q) (fun v s1 y => wpAny_mono y (fun it s2 y => ?_) fun _ _ y => y) fun _ _ y => y)
  obtain ⟨W1, l, keep, τ1, XP, e, le, src, x0, S1, k, hz, q1⟩ := y
  cases hb : pickN τ1.loc fv with
  | none => rw [hb] at q1; exact q1.elim
  | some b =>
    rw [hb] at q1
    refine comp_go ok ht he okC src x0 S1 k hb hz q1 fun W' acc vs n D Ca oC s' le' pr S' nd q' => ?_
    obtain ⟨mC, hC⟩ := nd.ns (show SimX Φ W' τ1 (([(D, listOf vs.toArray n)]) ++ (Ca, oC) :: x) s' from S').mid
    refine ⟨mC, hC, fun h' sb => ?_⟩
    exact .new W' acc τ1 D vs n (le.trans le') pr ((S'.perm (List.Perm.swap _ _ _)).drop sb.extBut) q'
/-- x = [..], stored as it is made: the list becomes one of the walk's. -/
noncomputable abbrev wAsC (n : Nat) (i : WI) (t : WS) (w : WE) (fv : List Nat) : WX := fun C τ Q => gd (pickN τ.loc fv).isSome <| i C τ fun l keep τ1 => compR t w fv C l τ1 fun acc => Q .next ⟨putN n (.ref τ1.hp.length) τ1.loc, τ1.hp ++ [.list acc]⟩
theorem SX_asC {n : Nat} {tn : Str} {np spos : Pos} (ok : CompOk N Z cs scope fv) (hi : SI G cs iter i) (ht : SS G (relC scope cs) target t) (he : SE G (relC scope cs) elt w) (hs : ∀ env x, foldedSetIterable iter env x = pure x)
    (hn : N n = tn) (hl : kindOk N Z cs n) (hsw : ∀ Φ : Cx G cs, swapsWith (.ListComp elt [⟨target, iter, [], 0⟩] scope pos) (some (.Name tn np)) spos.line Φ.env = pure true) :
    SX G cs (.Assign [.Name tn np] (.ListComp elt [⟨target, iter, [], 0⟩] scope pos) spos) (wAsC n i t w fv) := fun Φ C okC W τ x s Q S q => by
  subst hn
  obtain ⟨h1, q⟩ := gd_ex q
  rw [exec_Assign_Name_used _ _ _ _ (hsw Φ)]
  refine wpAny_bind (wpAny_standAt (wpAny_bind ?_))
  show wpAny _ Φ.A (do let _ ← comprehension (.ListComp elt [⟨target, iter, [], 0⟩] scope pos) scope Φ.env _ (newList []) false (eval iter Φ.env) (some (assign (.Name (N n) np) Φ.env))) _ _ s
  refine wpAny_bind (wpAny_mono (wpAny_comprehension_free (use := some _) (Q := fun (_ : Value) s' => RF Φ W x Q .next s') (E := fun _ _ => False) rfl (hs _) (comp_clos ok S h1) ok.kind ok.names (wpAny_mono (hi Φ C okC W τ x s _ S q) (fun v s1 y => wpAny_mono y (fun it s2 y => ?_) fun _ _ y => y) fun _ _ y => y)) (fun _ s' hq => wpAny_pure (wpAny_pure hq)) fun _ _ e => e)
  obtain ⟨W1, l, keep, τ1, XP, e, le, src, x0, S1, k, hz, q1⟩ := y
  cases hb : pickN τ1.loc fv with
  | none => rw [hb] at q1; exact q1.elim
  | some b =>
    rw [hb] at q1
    refine comp_go ok ht he okC src x0 S1 k hb hz q1 fun W' acc vs n' D Ca oC s' le' pr S' nd q' => ?_
    obtain ⟨W2, le2, e2, S2⟩ := S'.own pr
    refine assign_Name (S2.store (.ref e2) hl fun s3 S3 => ?_)
    obtain ⟨mC, hC⟩ := nd.ns S3.first
    exact ⟨mC, hC, fun h' sb => ⟨W2, .next, _, (le.trans le').trans le2, .next, S3.drop sb.extBut, q'⟩⟩
end
end VE
namespace VE
noncomputable def nmOf (l : List Str) (i : Nat) : Str := match l[i]? with
  | some x => x
  | none => ⟨#[2097152 + i]⟩
theorem nmOf_some {l : List Str} {i : Nat} {x : Str} (h : l[i]? = some x) : nmOf l i = x := by unfold nmOf; rw [h]
theorem nmOf_none {l : List Str} {i : Nat} (h : l[i]? = none) : nmOf l i = ⟨#[2097152 + i]⟩ := by unfold nmOf; rw [h]
theorem nmOf_ne {l : List Str} {t : Str} (ht : t.cps.size ≠ 1) (ne : ∀ x ∈ l, x ≠ t) (n : Nat) : (nmOf l n == t) = false := by
  refine beq_eq_false_iff_ne.mpr ?_
  cases hi : l[n]? with
  | none =>
    rw [nmOf_none hi]
    intro e
    exact ht (by rw [← e]; rfl)
  | some x => rw [nmOf_some hi]; exact ne x (List.mem_of_getElem? hi)
theorem nmOf_ok {l : List Str} (nd : l.Nodup) (sm : ∀ x ∈ l, ∀ c ∈ x.cps.toList, c < 2097152) (ne : ∀ x ∈ l, x ≠ "__debug__") (ne' : ∀ x ∈ l, x ≠ "__classdict__") : NOk (nmOf l) where
  inj := fun i j e => by
    cases hi : l[i]? with
    | none =>
      rw [nmOf_none hi] at e
      cases hj : l[j]? with
      | none =>
        rw [nmOf_none hj] at e
        have := congrArg (fun s : Str => s.cps.toList) e
        simp at this
        exact this
      | some y =>
        rw [nmOf_some hj] at e
        have := sm y (List.mem_of_getElem? hj) (2097152 + i) (by rw [← e]; simp)
        omega
    | some x =>
      rw [nmOf_some hi] at e
      cases hj : l[j]? with
      | none =>
        rw [nmOf_none hj] at e
        have := sm x (List.mem_of_getElem? hi) (2097152 + j) (by rw [e]; simp)
        omega
      | some y =>
        rw [nmOf_some hj] at e
        obtain ⟨h1, e1⟩ := List.getElem?_eq_some_iff.mp hi
        obtain ⟨h2, e2⟩ := List.getElem?_eq_some_iff.mp hj
        have P := List.pairwise_iff_getElem.mp nd
        rcases Nat.lt_trichotomy i j with q | q | q
        · exact absurd (e1.trans (e.trans e2.symm)) (P i j h1 h2 q)
        · exact q
        · exact absurd (e2.trans (e.symm.trans e1.symm)) (P j i h2 h1 q)
  dbg := nmOf_ne (by decide +kernel) ne
  cd := nmOf_ne (by decide +kernel) ne'
noncomputable def nmL : List Str := [Str.ofString "self", Str.ofString "name", Str.ofString "byteMask", Str.ofString "addrMask", Str.ofString "addrHighMask", Str.ofString "spBase", Str.ofString "excycles", Str.ofString "addcycles", Str.ofString "processorCycles", Str.ofString "memory", Str.ofString "start_pc", Str.ofString "pc", Str.ofString "sp", Str.ofString "a", Str.ofString "x", Str.ofString "y", Str.ofString "p", Str.ofString "RESET", Str.ofString "NMI", Str.ofString "IRQ", Str.ofString "NEGATIVE", Str.ofString "OVERFLOW", Str.ofString "UNUSED", Str.ofString "BREAK", Str.ofString "DECIMAL", Str.ofString "INTERRUPT", Str.ofString "ZERO", Str.ofString "CARRY", Str.ofString "BYTE_WIDTH", Str.ofString "ADDR_WIDTH", Str.ofString "instruct", Str.ofString "cycletime", Str.ofString "extracycles", Str.ofString "__init__", Str.ofString "step", Str.ofString "reset", Str.ofString "irq", Str.ofString "ByteAt", Str.ofString "WordAt", Str.ofString "ProgramCounter", Str.ofString "ZeroPageAddr", Str.ofString "ImmediateByte", Str.ofString "AbsoluteXAddr", Str.ofString "BranchRelAddr", Str.ofString "stPush", Str.ofString "stPop", Str.ofString "stPushWord", Str.ofString "stPopWord", Str.ofString "FlagsNZ", Str.ofString "opORA", Str.ofString "opBCL", Str.ofString "opCLR", Str.ofString "opSET", Str.ofString "opSTA", Str.ofString "opDECR", Str.ofString "opINCR", Str.ofString "opLDA", Str.ofString "opLDX", Str.ofString "inst_0x48", Str.ofString "inst_0x8a", Str.ofString "inst_0xa6", Str.ofString "inst_0xa5", Str.ofString "inst_0x9d", Str.ofString "inst_0xe6", Str.ofString "inst_0x58", Str.ofString "inst_0x78", Str.ofString "inst_0xc6", Str.ofString "inst_0x09", Str.ofString "inst_0x68", Str.ofString "inst_0xaa", Str.ofString "inst_0x40", Str.ofString "inst_0xa2", Str.ofString "inst_0xca", Str.ofString "inst_0xd0", Str.ofString "instructCode", Str.ofString "addr", Str.ofString "a1", Str.ofString "a2", Str.ofString "z", Str.ofString "value", Str.ofString "tbyte", Str.ofString "opADC", Str.ofString "opROL", Str.ofString "inst_0x18", Str.ofString "inst_0x69", Str.ofString "inst_0x85", Str.ofString "inst_0x08", Str.ofString "inst_0x28", Str.ofString "inst_0xa9", Str.ofString "inst_0x38", Str.ofString "inst_0x2a", Str.ofString "data", Str.ofString "halfcarry", Str.ofString "decimalcarry", Str.ofString "adjust0", Str.ofString "adjust1", Str.ofString "nibble0", Str.ofString "nibble1", Str.ofString "aluresult", Str.ofString "result", Str.ofString "tmp", Str.ofString "part", Str.ofString "_law_sum", Str.ofString "script", Str.ofString "law", Str.ofString "seeds", Str.ofString "own", Str.ofString "begun", Str.ofString "turn", Str.ofString "codes", Str.ofString "octets", Str.ofString "steps", Str.ofString "end", Str.ofString "place", Str.ofString "handler", Str.ofString "at", Str.ofString "kept", Str.ofString "rises", Str.ofString "number", Str.ofString "mpu", Str.ofString "whole", Str.ofString "sums", Str.ofString "lives", Str.ofString "range", Str.ofString "seed", Str.ofString "octet", Str.ofString "shut", Str.ofString "saved", Str.ofString "line", Str.ofString "taken", Str.ofString "told", Str.ofString "code", Str.ofString "MPU", Str.ofString "seen", Str.ofString "kind", Str.ofString "len", Str.ofString "append", Str.ofString "low", Str.ofString "pop", Str.ofString "_wall", Str.ofString "__name__"]
noncomputable abbrev nm : Nat → Str := nmOf nmL
theorem nm_ok : NOk nm := nmOf_ok (by decide +kernel) (by decide +kernel) (by decide +kernel) (by decide +kernel)
end VE
namespace M6
section
variable (p : Program) (n₀ : Nat) (ann : Option Value)
/-- n steps of a statement's run at the top. -/
noncomputable def Rn (w : World) (n : Nat) (s : Shared) (t : Thread) (s' : Shared) (t' : Thread) : Prop := ∀ N r, segRun treeTable p w n₀ ann 0 N s' t' = some r → segRun treeTable p w n₀ ann 0 (n + N) s t = some r
variable (g : Array GenState) (d : Drawn) (os : OsState)
/-- A tree runs to its value within n steps, whatever stands behind it. -/
structure XR {α : Type} (w : World) (n : Nat) (m : Sem α) (h : Heap) (t : Nat) (pos : Pos) (a : α) (h' : Heap) (t' : Nat) (pos' : Pos) : Prop where
  run : ∀ (K : α → Sem Fin) (H : Value → Sem Fin) (gd : Bool → Bool) (lv : List Value → List Value) (code : Code) (f : Frame) (B : List Frame), Rn p n₀ ann w n ⟨h, g, d, t, os⟩ ⟨m.wrap K H gd lv, code, pos, f :: B⟩ ⟨h', g, d, t', os⟩ ⟨K a, code, pos', f :: B⟩
end
section
variable {p : Program} {n₀ : Nat} {ann : Option Value} {g : Array GenState} {d : Drawn} {os : OsState} {w : World} {α β : Type}
theorem Rn.refl {s : Shared} {t : Thread} : Rn p n₀ ann w 0 s t s t := fun N r h => by rw [Nat.zero_add]; exact h
theorem Rn.trans {n k : Nat} {s s₁ s₂ : Shared} {t t₁ t₂ : Thread} (h : Rn p n₀ ann w n s t s₁ t₁) (h' : Rn p n₀ ann w k s₁ t₁ s₂ t₂) : Rn p n₀ ann w (n + k) s t s₂ t₂ := fun N r q => by
  rw [Nat.add_assoc]; exact h _ _ (h' _ _ q)
theorem Rn.step {s s₁ : Shared} {t t₁ : Thread} (h1 : endAt 0 t = none) (h2 : stepOk n₀ ann t = true) (h3 : step (denote treeTable) p w s t = .go s₁ t₁) : Rn p n₀ ann w 1 s t s₁ t₁ := fun N r q => by
  rw [Nat.add_comm]
  unfold segRun
  rw [h1, h2, h3]
  exact q
theorem Rn.go {n : Nat} {s s₁ : Shared} {t t₁ : Thread} (h : segGo treeTable p w n₀ ann 0 n s t = some (s₁, t₁)) : Rn p n₀ ann w n s t s₁ t₁ := fun N r q => seg_go h q
noncomputable def idle : Sem Fin → Bool
  | .pure _ => false
  | _ => true
theorem end_idle {t : Thread} (h : idle t.cur = true) : endAt 0 t = none := by
  unfold endAt
  cases h1 : (t.stack.length == 0) with
  | false => rfl
  | true =>
    cases h2 : t.cur with
    | pure f => rw [h2] at h; cases h
    | _ => rfl
variable {h h₁ h₂ : Heap} {t t₁ t₂ : Nat} {pos pos₁ pos₂ : Pos} {n k : Nat}
theorem XR.at_n {n n' : Nat} {m : Sem α} {a : α} (x : XR p n₀ ann g d os w n m h t pos a h₁ t₁ pos₁) (e : n = n') : XR p n₀ ann g d os w n' m h t pos a h₁ t₁ pos₁ := e ▸ x
theorem XR_pure {a : α} : XR p n₀ ann g d os w 0 (pure a : Sem α) h t pos a h t pos := ⟨fun _ _ _ _ _ _ _ => Rn.refl⟩
theorem XR_bind {m : Sem α} {f : α → Sem β} {a : α} {b : β} (x : XR p n₀ ann g d os w n m h t pos a h₁ t₁ pos₁) (x' : XR p n₀ ann g d os w k (f a) h₁ t₁ pos₁ b h₂ t₂ pos₂) : XR p n₀ ann g d os w (n + k) (m >>= f) h t pos b h₂ t₂ pos₂ := ⟨fun K H gd lv code fr B => by
  rw [Sem.bind_eq_wrap', Sem.wrap_wrap]
  exact (x.run (fun a => (f a).wrap K H gd lv) _ _ _ code fr B).trans (x'.run K H gd lv code fr B)⟩
theorem XR_holding {m : Sem α} {vs : List Value} {a : α} (x : XR p n₀ ann g d os w n m h t pos a h₁ t₁ pos₁) : XR p n₀ ann g d os w n (holding vs m) h t pos a h₁ t₁ pos₁ := by
  unfold holding
  split
  · exact x
  · refine ⟨fun K H gd lv code fr B => ?_⟩
    rw [Sem.keep_eq_wrap, Sem.wrap_wrap]
    exact x.run K _ _ _ code fr B
theorem XR_load {a : Addr} {q : Option Value} {o : Obj} (e : h.get? a = some o) : XR p n₀ ann g d os w 1 (.load a q .pure) h t pos o h t pos := ⟨fun K H gd lv code fr B => by
  refine Rn.step (end_idle rfl) rfl ?_
  show (match h.get? a with | some o => _ | none => _) = _
  rw [e]
  rfl⟩
theorem XR_fresh : XR p n₀ ann g d os w 1 fresh h t pos t h (t + 1) pos := ⟨fun K H gd lv code fr B => Rn.step (end_idle rfl) rfl rfl⟩
theorem XR_alloc {o : Obj} : XR p n₀ ann g d os w 1 (alloc o) h t pos h.objs.size (h.push o) t pos := ⟨fun K H gd lv code fr B => Rn.step (end_idle rfl) rfl rfl⟩
theorem XR_ask : XR p n₀ ann g d os w 1 ask h t pos ⟨p, w.params⟩ h t pos := ⟨fun K H gd lv code fr B => Rn.step (end_idle rfl) rfl rfl⟩
theorem XR_point : XR p n₀ ann g d os w 1 point h t pos () h t pos := ⟨fun K H gd lv code fr B => Rn.step (end_idle rfl) rfl rfl⟩
theorem XR_standAt {q : Pos} : XR p n₀ ann g d os w 1 (standAt q) h t pos () h t q := ⟨fun K H gd lv code fr B => Rn.step (end_idle rfl) rfl rfl⟩
theorem XR_update {a : Addr} {q : Option Value} {f : Obj → Obj} {o : Obj} (e : h.get? a = some o) (ha : Nat.ble n₀ a = true) : XR p n₀ ann g d os w 1 (.update a q f .pure) h t pos () (h.update a f) t pos := ⟨fun K H gd lv code fr B => by
  refine Rn.step (end_idle rfl) ?_ ?_
  · show (true && (Nat.ble n₀ a || _ || _ || _)) = true
    rw [ha]; rfl
  show (if (h.get? a).isSome = true then _ else _) = _
  rw [e]
  rfl⟩
end
end M6
namespace M6
section
variable {p : Program} {n₀ : Nat} {ann : Option Value} {g : Array GenState} {d : Drawn} {os : OsState} {w : World} {h : Heap} {t : Nat} {pos : Pos}
/-- Texts with their tokens. -/
noncomputable def texts : List Str → Nat → List Value
  | [], _ => []
  | x :: l, t => .str x t :: texts l (t + 1)
theorem XR_mkText {x : Str} : XR p n₀ ann g d os w 1 (mkText x) h t pos (.str x t) h (t + 1) pos := by
  unfold mkText
  refine XR.at_n (n := 1 + 0) ?_ rfl
  refine XR_bind XR_fresh ?_
  exact XR_pure
theorem XR_loop : ∀ (l : List Str) (acc : List Value) (t : Nat), XR p n₀ ann g d os w l.length (List.mapM.loop mkText l acc) h t pos (acc.reverse ++ texts l t) h (t + l.length) pos
  | [], acc, t => by
    show XR p n₀ ann g d os w 0 (pure acc.reverse) h t pos (acc.reverse ++ []) h t pos
    rw [List.append_nil]
    exact XR_pure
  | x :: l, acc, t => by
    have k := XR_loop l (.str x t :: acc) (t + 1)
    have e : (.str x t :: acc : List Value).reverse ++ texts l (t + 1) = acc.reverse ++ texts (x :: l) t := by
      rw [List.reverse_cons, List.append_assoc]; rfl
    rw [e, show t + 1 + l.length = t + (x :: l).length by rw [List.length_cons]; omega] at k
    refine XR.at_n (n := 1 + l.length) ?_ (by rw [List.length_cons, Nat.add_comm])
    refine XR_bind XR_mkText ?_
    exact k
theorem XR_texts {l : List Str} : XR p n₀ ann g d os w l.length (l.mapM mkText) h t pos (texts l t) h (t + l.length) pos := XR_loop l [] t
theorem XR_tuple {l : List Value} : XR p n₀ ann g d os w 1 (newTextTuple l) h t pos (.ref h.objs.size) (h.push { cls := .type "tuple", data := .seq l.toArray }) t pos := by
  unfold newTextTuple newObjAsIs
  refine XR.at_n (n := 1 + 0) ?_ rfl
  refine XR_bind XR_alloc ?_
  exact XR_pure
theorem XR_fields {ty : String} {l : List Value} (hz : l.length ≤ sizeLine + 2) : XR p n₀ ann g d os w 1 (newFields ty l) h t pos (.ref h.objs.size) (h.push { cls := .type ty, data := .fields l.toArray }) t pos := by
  unfold newFields newObj newObjAsIs
  refine XR.at_n (n := 1 + 0) ?_ rfl
  dsimp only
  rw [if_neg (by rw [List.size_toArray]; omega)]
  refine XR_bind XR_alloc ?_
  exact XR_pure
structure CodeCx where
  file : Str
  flags : Int
  inF : Bool
  text : Int
noncomputable def CodeCx.ctx (x : CodeCx) (env : Env) : CodeContext := { file := x.file, future := x.flags.toNat &&& (coFutureAnnotations ||| coFutureBarry), inFunction := x.inF || env.scope.kind == .function, text := x.text.toNat }
/-- The objects of a new code, from an address and a token on. -/
noncomputable def codeObjs (c : CodeContext) (name qual : Str) (line argc posc kwc flags : Nat) (fn : Bool) (v cl : List Str) (fd : FuncData) (n t : Nat) : List Obj :=
  [{ cls := .type "tuple", data := .seq #[] }, { cls := .none, data := .fields #[] }, { cls := .type "tuple", data := .seq (texts v (t + 3)).toArray }, { cls := .type "tuple", data := .seq (texts cl (t + 3 + v.length)).toArray }, { cls := .none, data := .func fd },
    { cls := .type "code", data := .fields #[.str name t, .str qual (t + 1), .str c.file (t + 2), rawInt line, rawInt argc, rawInt posc, rawInt kwc, rawInt flags, .ref n, .bool (fn || c.inFunction), rawInt c.text, .ref (n + 1), .none, .ref (n + 2), .ref (n + 3), .ref (n + 4),
      rawInt ((t + 3 + v.length + cl.length : Nat) : Int), rawInt line, .str c.file (t + 3 + v.length + cl.length + 1)] }]
noncomputable def pushAll (h : Heap) : List Obj → Heap
  | [] => h
  | o :: l => pushAll (h.push o) l
theorem XR_newCode {c : CodeContext} {name qual : Str} {line argc posc kwc flags : Nat} {fn : Bool} {v cl : List Str} {fd : FuncData} :
    XR p n₀ ann g d os w (11 + v.length + cl.length) (newCode c name qual line argc posc kwc flags [] fn none (some (v, cl)) (some fd)) h t pos (.ref (h.objs.size + 5))
      (pushAll h (codeObjs c name qual line argc posc kwc flags fn v cl fd h.objs.size t)) (t + 3 + v.length + cl.length + 1 + 1) pos := by
  unfold newCode
  refine XR.at_n (n := 1 + (1 + (1 + (0 + (1 + (1 + (v.length + (1 + (cl.length + (1 + (1 + (0 + (1 + (1 + 1)))))))))))))) ?_ (by omega)
  refine XR_bind XR_mkText ?_
  refine XR_bind XR_mkText ?_
  refine XR_bind XR_mkText ?_
  refine XR_bind (a := ([] : List Value)) XR_pure ?_
  refine XR_bind XR_tuple ?_
  refine XR_bind XR_alloc ?_
  dsimp only
  refine XR_bind XR_texts ?_
  refine XR_bind XR_tuple ?_
  refine XR_bind XR_texts ?_
  refine XR_bind XR_tuple ?_
  refine XR_bind XR_alloc ?_
  refine XR_bind XR_pure ?_
  refine XR_bind XR_fresh ?_
  refine XR_bind XR_mkText ?_
  have e := XR_fields (p := p) (n₀ := n₀) (ann := ann) (g := g) (d := d) (os := os) (w := w) (h := pushAll h ((codeObjs c name qual line argc posc kwc flags fn v cl fd h.objs.size t).take 5)) (t := t + 3 + v.length + cl.length + 1 + 1) (pos := pos) (ty := "code")
    (l := [.str name t, .str qual (t + 1), .str c.file (t + 2), rawInt line, rawInt argc, rawInt posc, rawInt kwc, rawInt flags, .ref h.objs.size, .bool (fn || c.inFunction), rawInt c.text, .ref (h.objs.size + 1), .none, .ref (h.objs.size + 2), .ref (h.objs.size + 3), .ref (h.objs.size + 4),
      rawInt ((t + 3 + v.length + cl.length : Nat) : Int), rawInt line, .str c.file (t + 3 + v.length + cl.length + 1)]) (by have : sizeLine = 2 ^ 24 := rfl; simp only [List.length_cons, List.length_nil]; omega)
  simp only [codeObjs, List.take, pushAll, Heap.size_push] at e ⊢
  exact e
end
end M6
namespace M6
noncomputable def plOf : List (Int × Int × Value) → List Value
  | [] => []
  | (a, b, c) :: r => rawInt a :: rawInt b :: c :: plOf r
noncomputable def plObj (l : List (Int × Int × Value)) : Obj := { cls := .none, data := .fields (plOf l).toArray }
theorem plOf_app (r : List (Int × Int × Value)) : ∀ l, plOf (l ++ r) = plOf l ++ plOf r
  | [] => rfl
  | (a, b, c) :: l => by show rawInt a :: rawInt b :: c :: plOf (l ++ r) = _; rw [plOf_app r l]; rfl
noncomputable def Away (pos : Pos) (l : List (Int × Int × Value)) : Prop := ∀ x ∈ l, ((x.1 == (pos.line : Int)) && (x.2.1 == (pos.col : Int))) = false
theorem codeAmong_none {pos : Pos} : ∀ {l : List (Int × Int × Value)}, Away pos l → codeAmong pos (plOf l) = none
  | [], _ => rfl
  | (a, b, c) :: r, h => by
    show (if ((a == (pos.line : Int)) && (b == (pos.col : Int))) = true then some c else codeAmong pos (plOf r)) = none
    rw [h _ (.head _)]
    exact codeAmong_none fun x hx => h x (.tail _ hx)
theorem codeAmong_app {pos : Pos} {v : Value} : ∀ {l : List (Int × Int × Value)}, Away pos l → codeAmong pos (plOf (l ++ [((pos.line : Int), (pos.col : Int), v)])) = some v
  | [], _ => by
    show (if (((pos.line : Int) == (pos.line : Int)) && ((pos.col : Int) == (pos.col : Int))) = true then some v else none) = some v
    rw [beq_self_eq_true, beq_self_eq_true]
    rfl
  | (a, b, c) :: r, h => by
    show (if ((a == (pos.line : Int)) && (b == (pos.col : Int))) = true then some c else codeAmong pos (plOf (r ++ _))) = some v
    rw [h _ (.head _)]
    exact codeAmong_app fun x hx => h x (.tail _ hx)
section
variable {p : Program} {n₀ : Nat} {ann : Option Value} {g : Array GenState} {d : Drawn} {os : OsState} {w : World} {h h₁ : Heap} {t t₁ n : Nat} {pos pos₀ : Pos}
theorem XR_fieldsOf {a : Addr} {o : Obj} {vs : Array Value} (e : h.get? a = some o) (hd : o.data = .fields vs) : XR p n₀ ann g d os w 1 (fieldsOf (.ref a)) h t pos vs h t pos := by
  unfold fieldsOf
  refine XR.at_n (n := 1 + 0) ?_ rfl
  refine XR_bind (XR_load e) ?_
  rw [hd]
  exact XR_pure
structure CodeAt (h : Heap) (cA pA : Addr) (x : CodeCx) (l : List (Int × Int × Value)) : Prop where
  code : ∃ oc vs ft t1 t2, h.get? cA = some oc ∧ oc.data = .fields vs ∧ vs.getD 11 .none = .ref pA ∧ vs.getD 18 .none = .str x.file ft ∧ vs.getD 7 .none = .int x.flags t1 ∧ vs.getD 9 .none = .bool x.inF ∧ vs.getD 10 .none = .int x.text t2
  places : h.get? pA = some (plObj l)
theorem XR_codeAt {env : Env} {make : CodeContext → Sem Value} {cA pA : Addr} {x : CodeCx} {l : List (Int × Int × Value)} {c : Value} (hc : env.code = .ref cA) (C : CodeAt h cA pA x l) (aw : Away pos l)
    (mk : XR p n₀ ann g d os w n (make (x.ctx env)) h t pos₀ c h₁ t₁ pos₀) (h7 : h₁.get? pA = some (plObj l)) (ha : Nat.ble n₀ pA = true)
    {h₂ : Heap} (hu : h₁.update pA (Obj.mapFields fun vs => if (codeAmong pos vs.toList).isSome then vs else vs ++ #[rawInt pos.line, rawInt pos.col, c]) = h₂) (h8 : h₂.get? pA = some (plObj (l ++ [((pos.line : Int), (pos.col : Int), c)]))) :
    XR p n₀ ann g d os w (n + 5) (codeAt env pos make) h t pos₀ c h₂ t₁ pos₀ := by
  obtain ⟨⟨oc, vs, ft, t1, t2, c1, c2, c3, c4, c5, c6, c7⟩, C2⟩ := C
  unfold codeAt
  rw [hc]
  refine XR.at_n (n := 1 + (1 + (n + ((1 + 1) + (1 + 0))))) ?_ (by omega)
  rw [if_neg (by exact Bool.false_ne_true)]
  refine XR_bind (XR_fieldsOf c1 c2) ?_
  rw [c3]
  dsimp only
  refine XR_bind (XR_fieldsOf C2 rfl) ?_
  rw [show (plOf l).toArray.toList = plOf l by simp, codeAmong_none aw]
  dsimp only
  rw [c4, c5, c6, c7]
  dsimp only
  refine XR_bind mk ?_
  have up : XR p n₀ ann g d os w (1 + 1) (updateFieldsOfTheText pA fun vs => if (codeAmong pos vs.toList).isSome then vs else vs ++ #[rawInt pos.line, rawInt pos.col, c]) h₁ t₁ pos₀ () h₂ t₁ pos₀ := by
    unfold updateFieldsOfTheText
    refine XR_bind (XR_load h7) ?_
    show XR p n₀ ann g d os w 1 (update pA _) h₁ t₁ pos₀ () h₂ t₁ pos₀
    rw [← hu]
    exact XR_update h7 ha
  refine XR_bind up ?_
  refine XR_bind (XR_fieldsOf h8 rfl) ?_
  rw [show (plOf (l ++ [((pos.line : Int), (pos.col : Int), c)])).toArray.toList = plOf (l ++ [((pos.line : Int), (pos.col : Int), c)]) by simp, codeAmong_app aw]
  exact XR_pure
theorem XR_closureFor {scope : Scope} {env : Env} (hf : scope.names.all (fun x => x.2 != .free) = true) : XR p n₀ ann g d os w 0 (closureFor scope env) h t pos [] h t pos := by
  have e : closureFor scope env = pure [] := by
    unfold closureFor
    have : ∀ (l : List (Str × NameKind)), l.all (fun x => x.2 != .free) = true → ∀ (acc : List (Str × Addr)), (forIn l acc fun x r => match x with | (name, kind) => if (kind == NameKind.free) = true then do let c ← cellOf env name; pure (ForInStep.yield ((name, c) :: r)) else pure (ForInStep.yield r)) = (pure acc : Sem _) := by
      intro l
      induction l with
      | nil => intro _ acc; rfl
      | cons x l ih =>
        intro hl acc
        rw [List.all_cons, Bool.and_eq_true] at hl
        obtain ⟨a, b⟩ := x
        have hb : (b == NameKind.free) = false := by simpa using hl.1
        rw [List.forIn_cons]
        simp only [hb, Bool.false_eq_true, if_false]
        exact ih hl.2 acc
    have := this scope.names hf []
    simp only at this ⊢
    rw [this]
    rfl
  rw [e]
  exact XR_pure
end
end M6
namespace M6
noncomputable abbrev hsh (w : World) (name : Str) : Int := PyData.keyHash w.params name
noncomputable def nsObj (es : List DictEntry) : Obj := { cls := .type "dict", data := .dict es.toArray es.length }
noncomputable def Fresh (name : Str) (es : List DictEntry) : Prop := ∀ e ∈ es, e.key.isStr name = false ∧ e.refKey = false
theorem putName_new {name : Str} {es : List DictEntry} {hs : Int} {key v : Value} (hf : Fresh name es) : Obj.putName name hs key v (nsObj es) = nsObj (es ++ [⟨hs, key, v⟩]) := by
  rw [Obj.putName_eq]
  show (match es.toArray.findIdx? (·.key.isStr name) with | some i => _ | none => _) = _
  have : es.toArray.findIdx? (·.key.isStr name) = none := by
    rw [Array.findIdx?_eq_none_iff]
    intro x hx
    exact (hf x (by simpa using hx)).1
  rw [this]
  unfold nsObj
  simp
theorem refKey_no {name : Str} {es : List DictEntry} (hf : Fresh name es) : aRefKeyMayBeTheName name es.toArray = false := by
  rw [aRefKeyMayBeTheName_at]
  have : es.toArray.any (·.refKey) = false := by
    rw [List.any_toArray, List.any_eq_false]
    intro x hx
    simpa using (hf x hx).2
  rw [this, Bool.and_false]
section
variable {p : Program} {n₀ : Nat} {ann : Option Value} {g : Array GenState} {d : Drawn} {os : OsState} {w : World} {h h₁ : Heap} {t t₁ n : Nat} {pos pos₀ : Pos}
theorem XR_strHash {name : Str} : XR p n₀ ann g d os w 1 (strHash name) h t pos (hsh w name) h t pos := by
  unfold strHash
  refine XR.at_n (n := 1 + 0) ?_ rfl
  refine XR_bind XR_ask ?_
  exact XR_pure
theorem XR_nsSet {a : Addr} {name : Str} {v : Value} {es : List DictEntry} (e : h.get? a = some (nsObj es)) (hf : Fresh name es) (ha : Nat.ble n₀ a = true) : XR p n₀ ann g d os w 4 (nsSet a name v) h t pos () (h.update a (Obj.putName name (hsh w name) (.str name t) v)) (t + 1) pos := by
  unfold nsSet
  refine XR.at_n (n := 1 + (1 + (1 + 1))) ?_ rfl
  refine XR_bind XR_strHash ?_
  refine XR_bind XR_mkText ?_
  refine XR_bind (XR_load e) ?_
  show XR p n₀ ann g d os w 1 (if aRefKeyMayBeTheName name es.toArray = true then _ else _) h (t + 1) pos () _ _ pos
  rw [refKey_no hf]
  simp only [Bool.false_eq_true, if_false]
  exact XR_update e ha
/-- A name of a class's block is stored. -/
theorem XR_bindName {env : Env} {name : Str} {v : Value} {es : List DictEntry} (hk : env.kindOf name = some .local) (hc : env.scope.kind = .class) (e : h.get? env.locals = some (nsObj es)) (hf : Fresh name es) (ha : Nat.ble n₀ env.locals = true) :
    XR p n₀ ann g d os w 7 (bindName env name v) h t pos () (h.update env.locals (Obj.putName name (hsh w name) (.str name t) v)) (t + 1) pos := by
  unfold bindName storeName
  rw [hk, hc]
  refine XR.at_n (n := 1 + ((1 + 4) + 1)) ?_ rfl
  refine XR_bind (XR_holding XR_point) ?_
  dsimp only
  refine XR_bind (a := ()) ?_ XR_point
  show XR p n₀ ann g d os w (1 + 4) (localSet env name v) h t pos () _ _ pos
  unfold localSet
  refine XR_bind (XR_load e) ?_
  exact XR_nsSet e hf ha
/-- What a def's statement asks for. -/
structure DefOk (env : Env) (name bind : Str) (args : Arguments) (body : List Stmt) (scope : Scope) (v cl : List Str) : Prop where
  kind : env.kindOf bind = some .local
  free : scope.names.all (fun x => x.2 != .free) = true
  names : scope.freeNames = []
  locals : localNames args scope (.stmts body) = some (v, cl)
  kwo : args.kwonlyargs = []
  kwd : args.kw_defaults = []
  doc : docOf body = none
  ann : (match args with | ⟨po, a, va, ko, _, kwa, _⟩ => annotationsOf (a ++ po ++ va.toList ++ ko ++ kwa.toList) env) = []
noncomputable def tmpl (name qual : Str) (args : Arguments) (body : List Stmt) (scope : Scope) : FuncData := { name, qualname := qual, params := args, body := .stmts body, scope, globals := builtinsNs, closure := [], defaults := .none, kwdefaults := .none }
noncomputable def dCode (x : CodeCx) (env : Env) (name bind : Str) (args : Arguments) (body : List Stmt) (scope : Scope) (pos : Pos) (v cl : List Str) (n t : Nat) : List Obj :=
  codeObjs (x.ctx env) name (qualnameIn env name bind) pos.line (args.posonlyargs.length + args.args.length) args.posonlyargs.length args.kwonlyargs.length (functionFlags args.vararg.isSome args.kwarg.isSome scope (x.ctx env)) true v cl (tmpl name (qualnameIn env name bind) args body scope) n t
noncomputable def dFunc (env : Env) (bA : Addr) (name bind : Str) (args : Arguments) (body : List Stmt) (scope : Scope) (dV pm : Value) (n : Nat) : FuncData :=
  { name, qualname := qualnameIn env name bind, params := args, body := .stmts body, scope, globals := env.globals, closure := [], closureTuple := .none, code := .ref (n + 5), builtins := bA, defaults := dV, kwdefaults := .none, annotations := none, pyModule := pm, doc := .none }
theorem XR_makeFunction {env : Env} {name bind : Str} {args : Arguments} {body : List Stmt} {scope : Scope} {v cl : List Str} {cA pA bA : Addr} {x : CodeCx} {l : List (Int × Int × Value)} {dv : List Value} {dV pm : Value} {nd : Nat} {hd h₁ h₂ : Heap} (D : DefOk env name bind args body scope v cl)
    (hc : env.code = .ref cA) (ha : Nat.ble n₀ pA = true) (aw : Away pos l)
    (xd : (dv = [] ∧ dV = .none ∧ hd = h ∧ nd = 0) ∨ (dv ≠ [] ∧ dV = .ref h.objs.size ∧ hd = h.push { cls := .type "tuple", data := .seq dv.toArray } ∧ nd = 1)) (C : CodeAt hd cA pA x l) (e1 : pushAll hd (dCode x env name bind args body scope pos v cl hd.objs.size t) = h₁) (C1 : h₁.get? pA = some (plObj l))
    (e2 : h₁.update pA (Obj.mapFields fun vs => if (codeAmong pos vs.toList).isSome then vs else vs ++ #[rawInt pos.line, rawInt pos.col, .ref (hd.objs.size + 5)]) = h₂) (C2 : h₂.get? pA = some (plObj (l ++ [((pos.line : Int), (pos.col : Int), .ref (hd.objs.size + 5))])))
    (xb : ∀ t, XR p n₀ ann g d os w 2 (builtinsFor env.globals env.builtins) h₂ t pos bA h₂ t pos) (xm : ∀ t, XR p n₀ ann g d os w 1 (nsGet env.globals "__name__") h₂ t pos (some pm) h₂ t pos) :
    XR p n₀ ann g d os w (nd + (20 + v.length + cl.length)) (makeFunction name (qualnameIn env name bind) args (.stmts body) scope env dv [] [] pos pos.line) h t pos (.ref h₂.objs.size)
      (h₂.push { cls := .type "function", data := .func (dFunc env bA name bind args body scope dV pm hd.objs.size) }) (t + 3 + v.length + cl.length + 1 + 1) pos := by
  unfold makeFunction
  rw [D.kwo]
  have code : XR p n₀ ann g d os w (11 + v.length + cl.length + 5) (functionCode env pos pos.line name (qualnameIn env name bind) args scope (.stmts body)) hd t pos (.ref (hd.objs.size + 5)) h₂ (t + 3 + v.length + cl.length + 1 + 1) pos := by
    unfold functionCode
    refine XR_codeAt hc C aw ?_ C1 ha e2 C2
    rw [D.names, D.locals, ← e1]
    exact XR_newCode
  have tail : ∀ {X : Sem Value}, X = (functionCode env pos pos.line name (qualnameIn env name bind) args scope (.stmts body) >>= fun c => builtinsFor env.globals env.builtins >>= fun b => nsGet env.globals "__name__" >>= fun m =>
      newObj (.type "function") (.func { name, qualname := qualnameIn env name bind, params := args, body := .stmts body, scope, globals := env.globals, closure := [], closureTuple := .none, code := c, builtins := b, defaults := dV, kwdefaults := .none, annotations := none, pyModule := m.getD .none, doc := .none })) →
      XR p n₀ ann g d os w (20 + v.length + cl.length) X hd t pos (.ref h₂.objs.size) (h₂.push { cls := .type "function", data := .func (dFunc env bA name bind args body scope dV pm hd.objs.size) }) (t + 3 + v.length + cl.length + 1 + 1) pos := by
    rintro _ rfl
    refine XR.at_n (n := (11 + v.length + cl.length + 5) + (2 + (1 + (1 + 0)))) ?_ (by omega)
    refine XR_bind code ?_
    refine XR_bind (xb _) ?_
    refine XR_bind (xm _) ?_
    unfold newObj newObjAsIs
    refine XR_bind XR_alloc ?_
    exact XR_pure
  have cl0 : XR p n₀ ann g d os w 0 (closureFor scope env) hd t pos [] hd t pos := XR_closureFor D.free
  rcases xd with ⟨rfl, rfl, rfl, rfl⟩ | ⟨hne, rfl, rfl, rfl⟩
  · refine XR_bind (a := Value.none) XR_pure ?_
    refine XR.at_n (n := 0 + (0 + (0 + (0 + (20 + v.length + cl.length))))) ?_ (by omega)
    refine XR_bind (a := Value.none) XR_pure ?_
    refine XR_bind (a := none) XR_pure ?_
    refine XR_bind cl0 ?_
    refine XR_bind (a := Value.none) XR_pure ?_
    refine tail ?_
    (try dsimp only)
    simp only [D.doc]
    rfl
  · rw [show dv.isEmpty = false by cases dv with | nil => exact absurd rfl hne | cons _ _ => rfl]
    simp only [Bool.false_eq_true, if_false]
    refine XR_bind XR_tuple ?_
    refine XR.at_n (n := 0 + (0 + (0 + (0 + (20 + v.length + cl.length))))) ?_ (by omega)
    refine XR_bind (a := Value.none) XR_pure ?_
    refine XR_bind (a := none) XR_pure ?_
    refine XR_bind cl0 ?_
    refine XR_bind (a := Value.none) XR_pure ?_
    refine tail ?_
    (try dsimp only)
    simp only [D.doc]
    rfl
/-- A def's statement in a class's block. -/
theorem XR_def {env : Env} {name bind : Str} {args : Arguments} {body : List Stmt} {scope : Scope} {v cl : List Str} {cA pA bA : Addr} {x : CodeCx} {l : List (Int × Int × Value)} {es : List DictEntry} {dv : List Value} {dV pm : Value} {nd ne : Nat} {ts : Option Scope} {h' hd h₁ h₂ : Heap} {t' : Nat} (D : DefOk env name bind args body scope v cl)
    (hk : env.scope.kind = .class) (hc : env.code = .ref cA) (ha : Nat.ble n₀ pA = true) (hl : Nat.ble n₀ env.locals = true) (aw : Away pos l) (fr : Fresh bind es)
    (xe : XR p n₀ ann g d os w ne (evalAll (defaultsOf args env).1) h t pos dv h' t' pos)
    (xd : (dv = [] ∧ dV = .none ∧ hd = h' ∧ nd = 0) ∨ (dv ≠ [] ∧ dV = .ref h'.objs.size ∧ hd = h'.push { cls := .type "tuple", data := .seq dv.toArray } ∧ nd = 1)) (C : CodeAt hd cA pA x l) (e1 : pushAll hd (dCode x env name bind args body scope pos v cl hd.objs.size t') = h₁) (C1 : h₁.get? pA = some (plObj l))
    (e2 : h₁.update pA (Obj.mapFields fun vs => if (codeAmong pos vs.toList).isSome then vs else vs ++ #[rawInt pos.line, rawInt pos.col, .ref (hd.objs.size + 5)]) = h₂) (C2 : h₂.get? pA = some (plObj (l ++ [((pos.line : Int), (pos.col : Int), .ref (hd.objs.size + 5))])))
    (xb : ∀ t, XR p n₀ ann g d os w 2 (builtinsFor env.globals env.builtins) h₂ t pos bA h₂ t pos) (xm : ∀ t, XR p n₀ ann g d os w 1 (nsGet env.globals "__name__") h₂ t pos (some pm) h₂ t pos)
    (en : (h₂.push { cls := .type "function", data := .func (dFunc env bA name bind args body scope dV pm hd.objs.size) }).get? env.locals = some (nsObj es)) :
    XR p n₀ ann g d os w (1 + (ne + ((nd + (20 + v.length + cl.length)) + (1 + 7)))) (exec (.FunctionDef name args body [] none [] scope ts bind pos) env) h t pos₀ .next
      ((h₂.push { cls := .type "function", data := .func (dFunc env bA name bind args body scope dV pm hd.objs.size) }).update env.locals (Obj.putName bind (hsh w bind) (.str bind (t' + 3 + v.length + cl.length + 1 + 1)) (.ref h₂.objs.size))) (t' + 3 + v.length + cl.length + 1 + 1 + 1) pos := by
  rw [arm_exec_FunctionDef]
  have en2 : (defaultsOf args env).2 = [] := by
    have h2 := D.kwd
    obtain ⟨po, a, va, ko, kwd, kwa, df⟩ := args
    dsimp only at h2
    subst h2
    rfl
  have en1 := D.ann
  unfold defStmt
  refine XR.at_n (n := 0 + (1 + ((ne + (0 + (0 + (nd + (20 + v.length + cl.length))))) + (0 + (1 + (7 + 0)))))) ?_ (by omega)
  refine XR_bind (a := ([] : List Value)) XR_pure ?_
  refine XR_bind XR_standAt ?_
  refine XR_bind (a := Value.ref h₂.objs.size) (h₁ := h₂.push { cls := .type "function", data := .func (dFunc env bA name bind args body scope dV pm hd.objs.size) }) (t₁ := t' + 3 + v.length + cl.length + 1 + 1) (pos₁ := pos) (XR_holding ?_) ?_
  rotate_right
  · refine XR_bind (a := Value.ref h₂.objs.size) XR_pure ?_
    refine XR_bind XR_standAt ?_
    refine XR_bind (XR_bindName D.kind hk en fr hl) ?_
    exact XR_pure
  refine XR_bind xe ?_
  refine XR_bind (a := ([] : List (Option Value))) (h₁ := h') (t₁ := t') (pos₁ := pos) (XR_holding ?_) ?_
  · rw [en2]
    exact XR_pure
  refine XR_holding ?_
  refine XR_bind (a := ([] : List (Str × Value))) (h₁ := h') (t₁ := t') (pos₁ := pos) ?_ ?_
  · obtain ⟨po, a, va, ko, kwd, kwa, df⟩ := args
    dsimp only at en1 ⊢
    rw [en1]
    exact XR_pure
  exact XR_makeFunction D hc ha aw xd C e1 C1 e2 C2 xb xm
end
end M6
namespace M6
/-- The heap while a class's block runs: what is new, the class's table, the codes' places. -/
structure CS where
  objs : List Obj
  ns : List DictEntry
  pl : List (Int × Int × Value)
structure Bs where
  A : List Obj
  x25 : Obj
  x27 : Obj
  x28 : Obj
  life : Life
noncomputable def mkH (b : Bs) (c : CS) : Heap := ⟨(b.A ++ (nsObj c.ns :: b.x25 :: plObj c.pl :: b.x27 :: b.x28 :: c.objs)).toArray, b.life⟩
theorem modify_app {α : Type} (f : α → α) : ∀ (A B : List α) (i : Nat), (A ++ B).modify (A.length + i) f = A ++ B.modify i f
  | [], B, i => by simp
  | a :: A, B, i => by
    rw [List.length_cons, show A.length + 1 + i = A.length + i + 1 by omega, List.cons_append, List.modify_succ_cons, modify_app f A B i]
    rfl
theorem isStr_str' (a b : Str) (t : Tok) : (Value.str a t).isStr b = (a == b) := rfl
theorem alive_get (x : Obj) : (match some x with | some ⟨_, _, .freed, _⟩ => none | o => o) = alive x := by
  obtain ⟨a, b, c, d⟩ := x
  cases c <;> rfl
section
variable {b : Bs} {c : CS} (hA : b.A.length = 24)
include hA
theorem mkH_size : (mkH b c).objs.size = 29 + c.objs.length := by
  unfold mkH
  simp only [List.size_toArray, List.length_append, List.length_cons, hA]
  omega
theorem mkH_at {i : Nat} : (mkH b c).objs[24 + i]? = (nsObj c.ns :: b.x25 :: plObj c.pl :: b.x27 :: b.x28 :: c.objs)[i]? := by
  unfold mkH
  rw [List.getElem?_toArray, List.getElem?_append_right (by omega), hA, Nat.add_sub_cancel_left]
theorem mkH_24 : (mkH b c).get? 24 = some (nsObj c.ns) := by
  unfold Heap.get?
  rw [show (24 : Addr) = 24 + 0 from rfl, mkH_at hA]
  rfl
theorem mkH_26 : (mkH b c).get? 26 = some (plObj c.pl) := by
  unfold Heap.get?
  rw [show (26 : Addr) = 24 + 2 from rfl, mkH_at hA]
  rfl
theorem mkH_27 (o : Obj) (h : alive b.x27 = some o) : (mkH b c).get? 27 = some o := by
  unfold Heap.get?
  rw [show (27 : Addr) = 24 + 3 from rfl, mkH_at hA]
  exact (alive_get _).trans h
theorem mkH_A {i : Nat} {o : Obj} (hi : i < 24) (h : b.A[i]?.bind alive = some o) : (mkH b c).get? i = some o := by
  unfold Heap.get? mkH
  rw [List.getElem?_toArray, List.getElem?_append_left (by omega)]
  cases q : b.A[i]? with
  | none => rw [q] at h; cases h
  | some x => rw [q] at h; exact (alive_get x).trans h
omit hA in
theorem mkH_push {o : Obj} : (mkH b c).push o = mkH b { c with objs := c.objs ++ [o] } := by
  unfold mkH Heap.push
  simp
omit hA in
theorem mkH_pushAll : ∀ (l : List Obj) (c : CS), pushAll (mkH b c) l = mkH b { c with objs := c.objs ++ l }
  | [], c => by simp [pushAll]
  | o :: l, c => by
    unfold pushAll
    rw [mkH_push, mkH_pushAll l]
    simp
theorem mkH_upd {i : Nat} {f : Obj → Obj} : (mkH b c).update (24 + i) f = ⟨(b.A ++ (nsObj c.ns :: b.x25 :: plObj c.pl :: b.x27 :: b.x28 :: c.objs).modify i f).toArray, b.life⟩ := by
  show (⟨((b.A ++ (nsObj c.ns :: b.x25 :: plObj c.pl :: b.x27 :: b.x28 :: c.objs)).toArray).modify (24 + i) f, b.life⟩ : Heap) = _
  congr 1
  rw [List.modify_toArray]
  congr 1
  rw [← hA]
  exact modify_app f _ _ _
theorem mkH_put {name : Str} {hs : Int} {key v : Value} (hf : Fresh name c.ns) : (mkH b c).update 24 (Obj.putName name hs key v) = mkH b { c with ns := c.ns ++ [⟨hs, key, v⟩] } := by
  rw [show (24 : Addr) = 24 + 0 from rfl, mkH_upd hA]
  show (⟨(b.A ++ (Obj.putName name hs key v (nsObj c.ns) :: b.x25 :: plObj c.pl :: b.x27 :: b.x28 :: c.objs)).toArray, b.life⟩ : Heap) = _
  rw [putName_new hf]
  rfl
theorem mkH_place {pos : Pos} {v : Value} (aw : Away pos c.pl) : (mkH b c).update 26 (Obj.mapFields fun vs => if (codeAmong pos vs.toList).isSome then vs else vs ++ #[rawInt pos.line, rawInt pos.col, v]) = mkH b { c with pl := c.pl ++ [((pos.line : Int), (pos.col : Int), v)] } := by
  rw [show (26 : Addr) = 24 + 2 from rfl, mkH_upd hA]
  show (⟨(b.A ++ (nsObj c.ns :: b.x25 :: Obj.mapFields _ (plObj c.pl) :: b.x27 :: b.x28 :: c.objs)).toArray, b.life⟩ : Heap) = _
  have e : Obj.mapFields (fun vs => if (codeAmong pos vs.toList).isSome then vs else vs ++ #[rawInt pos.line, rawInt pos.col, v]) (plObj c.pl) = plObj (c.pl ++ [((pos.line : Int), (pos.col : Int), v)]) := by
    show (⟨.none, none, .fields (if (codeAmong pos (plOf c.pl).toArray.toList).isSome then (plOf c.pl).toArray else (plOf c.pl).toArray ++ #[rawInt pos.line, rawInt pos.col, v]), #[]⟩ : Obj) = _
    rw [show (plOf c.pl).toArray.toList = plOf c.pl by simp, codeAmong_none aw]
    simp only [Option.isSome_none, Bool.false_eq_true, if_false]
    unfold plObj
    rw [plOf_app]
    simp [plOf]
  rw [e]
  rfl
end
/-- What the class's block stands on. -/
structure Ec where
  env : Env
  x : CodeCx
  bA : Addr
  pm : Value
  b : Bs
section
variable {p : Program} {n₀ : Nat} {ann : Option Value} {g : Array GenState} {d : Drawn} {os : OsState} {w : World}
structure EcOk (p : Program) (n₀ : Nat) (ann : Option Value) (g : Array GenState) (d : Drawn) (os : OsState) (w : World) (e : Ec) : Prop where
  n24 : Nat.ble n₀ 24 = true
  n26 : Nat.ble n₀ 26 = true
  A : e.b.A.length = 24
  kind : e.env.scope.kind = .class
  code : e.env.code = .ref 27
  locals : e.env.locals = 24
  rec27 : ∃ oc vs ft t1 t2, alive e.b.x27 = some oc ∧ oc.data = .fields vs ∧ vs.getD 11 .none = .ref 26 ∧ vs.getD 18 .none = .str e.x.file ft ∧ vs.getD 7 .none = .int e.x.flags t1 ∧ vs.getD 9 .none = .bool e.x.inF ∧ vs.getD 10 .none = .int e.x.text t2
  built : ∀ c t pos, XR p n₀ ann g d os w 2 (builtinsFor e.env.globals e.env.builtins) (mkH e.b c) t pos e.bA (mkH e.b c) t pos
  name : ∀ c t pos, XR p n₀ ann g d os w 1 (nsGet e.env.globals "__name__") (mkH e.b c) t pos (some e.pm) (mkH e.b c) t pos
variable {e : Ec} {c : CS} {t : Nat} {pos pos₀ : Pos}
theorem EcOk.codeAt (E : EcOk p n₀ ann g d os w e) : CodeAt (mkH e.b c) 27 26 e.x c.pl := by
  obtain ⟨oc, vs, ft, t1, t2, h1, r⟩ := E.rec27
  exact ⟨⟨oc, vs, ft, t1, t2, mkH_27 E.A _ h1, r⟩, mkH_26 E.A⟩
/-- What a def lays: its objects, from an address and a token on. -/
noncomputable def dObjs (e : Ec) (name bind : Str) (args : Arguments) (body : List Stmt) (scope : Scope) (pos : Pos) (v cl : List Str) (dV : Value) (n t : Nat) : List Obj :=
  dCode e.x e.env name bind args body scope pos v cl n t ++ [{ cls := .type "function", data := .func (dFunc e.env e.bA name bind args body scope dV e.pm n) }]
theorem dCode_length {x : CodeCx} {env : Env} {name bind : Str} {args : Arguments} {body : List Stmt} {scope : Scope} {pos : Pos} {v cl : List Str} {n t : Nat} : (dCode x env name bind args body scope pos v cl n t).length = 6 := rfl
theorem XR_def0 {name bind : Str} {args : Arguments} {body : List Stmt} {scope : Scope} {v cl : List Str} {ts : Option Scope} (E : EcOk p n₀ ann g d os w e) (D : DefOk e.env name bind args body scope v cl) (hd : args.defaults = []) (aw : Away pos c.pl) (fr : Fresh bind c.ns) :
    XR p n₀ ann g d os w (1 + (0 + ((0 + (20 + v.length + cl.length)) + (1 + 7)))) (exec (.FunctionDef name args body [] none [] scope ts bind pos) e.env) (mkH e.b c) t pos₀ .next
      (mkH e.b ⟨c.objs ++ dObjs e name bind args body scope pos v cl .none (29 + c.objs.length) t, c.ns ++ [⟨hsh w bind, .str bind (t + 3 + v.length + cl.length + 1 + 1), .ref (29 + c.objs.length + 6)⟩], c.pl ++ [((pos.line : Int), (pos.col : Int), .ref (29 + c.objs.length + 5))]⟩)
      (t + 3 + v.length + cl.length + 1 + 1 + 1) pos := by
  have sz := mkH_size (c := c) E.A
  have aux := XR_def (p := p) (n₀ := n₀) (ann := ann) (g := g) (d := d) (os := os) (w := w) (h := mkH e.b c) (t := t) (pos := pos) (pos₀ := pos₀) (ts := ts) (es := c.ns) (dv := []) (dV := .none) (nd := 0) (ne := 0) (h' := mkH e.b c) (t' := t) (hd := mkH e.b c) D E.kind E.code E.n26 (by rw [E.locals]; exact E.n24) aw fr
    (by rw [show (defaultsOf args e.env).1 = [] from by obtain ⟨a1, a2, a3, a4, a5, a6, a7⟩ := args; dsimp only at hd; subst hd; rfl]; exact XR_pure)
    (.inl ⟨rfl, rfl, rfl, rfl⟩) E.codeAt (mkH_pushAll _ _) (mkH_26 E.A) (mkH_place (c := { c with objs := _ }) E.A aw) (mkH_26 E.A) (E.built _ · _) (E.name _ · _) (by rw [mkH_push, E.locals]; exact mkH_24 E.A)
  rw [mkH_push, E.locals] at aux
  dsimp only at aux
  rw [mkH_put E.A (by exact fr), mkH_size E.A, mkH_size E.A] at aux
  simp only [List.length_append, List.append_assoc, dCode_length] at aux
  exact aux
end
end M6
namespace M6
section
variable {p : Program} {n₀ : Nat} {ann : Option Value} {g : Array GenState} {d : Drawn} {os : OsState} {w : World} {e : Ec} {c c₁ : CS} {t t₁ : Nat} {pos pos₀ pos₁ : Pos}
theorem XR_assign {name : Str} {np : Pos} {value : Expr} {v : Value} {nv : Nat} (E : EcOk p n₀ ann g d os w e) (hk : e.env.kindOf name = some .local) (fr : Fresh name c₁.ns) (hs : swapsWith value (some (.Name name np)) pos.line e.env = pure false) (hw : swappedStores [.Name name np] value e.env = pure none)
    (xv : XR p n₀ ann g d os w nv (eval value e.env) (mkH e.b c) t pos v (mkH e.b c₁) t₁ pos₁) :
    XR p n₀ ann g d os w (1 + (nv + 8)) (exec (.Assign [.Name name np] value pos) e.env) (mkH e.b c) t pos₀ .next (mkH e.b { c₁ with ns := c₁.ns ++ [⟨hsh w name, .str name t₁, v⟩] }) (t₁ + 1) np := by
  rw [arm_exec_Assign]
  refine XR.at_n (n := 1 + (0 + (nv + (0 + ((1 + 7) + 0))))) ?_ (by omega)
  refine XR_bind XR_standAt ?_
  refine XR_bind (a := false) (h₁ := mkH e.b c) (t₁ := t) (pos₁ := pos) ?_ ?_
  · show XR p n₀ ann g d os w 0 (swapsWith value (some (.Name name np)) pos.line e.env) _ _ _ _ _ _ _
    rw [hs]; exact XR_pure
  simp only [Bool.false_eq_true, if_false]
  refine XR_bind xv ?_
  refine XR_bind (a := none) (h₁ := mkH e.b c₁) (t₁ := t₁) (pos₁ := pos₁) ?_ ?_
  · rw [hw]; exact XR_pure
  show XR p n₀ ann g d os w ((1 + 7) + 0) (assignAll v [assign (.Name name np) e.env] >>= fun _ => pure Flow.next) _ _ _ _ _ _ _
  refine XR_bind (a := ()) (h₁ := mkH e.b { c₁ with ns := c₁.ns ++ [⟨hsh w name, .str name t₁, v⟩] }) (t₁ := t₁ + 1) (pos₁ := np) ?_ XR_pure
  show XR p n₀ ann g d os w (1 + 7) (assign (.Name name np) e.env v) _ _ _ _ _ _ _
  rw [arm_assign_Name]
  refine XR_bind XR_standAt ?_
  have key := XR_bindName (p := p) (n₀ := n₀) (ann := ann) (g := g) (d := d) (os := os) (w := w) (h := mkH e.b c₁) (t := t₁) (pos := np) (v := v) hk E.kind (by rw [E.locals]; exact mkH_24 E.A) fr (by rw [E.locals]; exact E.n24)
  rw [E.locals, mkH_put E.A fr] at key
  exact key
theorem XR_int {h : Heap} {i : Int} {k : Nat} {q : Pos} {env : Env} : XR p n₀ ann g d os w 1 (eval (.Constant (.int i) k q) env) h t pos (.int i t) h (t + 1) pos := by
  rw [arm_eval_Constant]
  show XR p n₀ ann g d os w 1 (mkInt i) h t pos (.int i t) h (t + 1) pos
  unfold mkInt
  refine XR.at_n (n := 1 + 0) ?_ rfl
  refine XR_bind XR_fresh ?_
  exact XR_pure
theorem XR_str {h : Heap} {x : Str} {k : Nat} {q : Pos} {env : Env} : XR p n₀ ann g d os w 1 (eval (.Constant (.str x) k q) env) h t pos (.str x t) h (t + 1) pos := by
  rw [arm_eval_Constant]
  exact XR_mkText
/-- The items of a written list. -/
structure XL (p : Program) (n₀ : Nat) (ann : Option Value) (g : Array GenState) (d : Drawn) (os : OsState) (w : World) (n : Nat) (es : List Expr) (env : Env) (h : Heap) (t : Nat) (pos : Pos) (vs : List Value) (t' : Nat) (pos' : Pos) : Prop where
  run : ∀ q, XR p n₀ ann g d os w n (spliced (backTo q (starEach es env))) h t pos vs h t' pos'
theorem XL_nil {env : Env} {h : Heap} : XL p n₀ ann g d os w 0 [] env h t pos [] t pos := ⟨fun q => XR_pure⟩
theorem XL_cons {env : Env} {h : Heap} {x : Expr} {es : List Expr} {v : Value} {vs : List Value} {n k t₂ : Nat} {pos₂ : Pos} (hx : starEach (x :: es) env = (false, eval x env) :: starEach es env) (h1 : XR p n₀ ann g d os w n (eval x env) h t pos v h t₁ pos₁) (h2 : XL p n₀ ann g d os w k es env h t₁ pos₁ vs t₂ pos₂) :
    XL p n₀ ann g d os w (n + k) (x :: es) env h t pos (v :: vs) t₂ pos₂ := ⟨fun q => by
  rw [hx]
  show XR p n₀ ann g d os w (n + k) (eval x env >>= fun v => (pure [v] >>= fun here => holding here (spliced (backTo q (starEach es env))) >>= fun r => pure (here ++ r))) h t pos (v :: vs) h t₂ pos₂
  refine XR_bind h1 ?_
  refine XR.at_n (n := 0 + (k + 0)) ?_ (by omega)
  refine XR_bind (a := [v]) XR_pure ?_
  refine XR_bind (XR_holding (h2.run q)) ?_
  exact XR_pure⟩
theorem XR_List {env : Env} {es : List Expr} {q : Pos} {vs : List Value} {n : Nat} (hz : vs.length ≤ sizeLine) (h1 : XL p n₀ ann g d os w n es env (mkH e.b c) t q vs t₁ pos₁) :
    XR p n₀ ann g d os w (1 + (n + 1)) (eval (.List es q) env) (mkH e.b c) t pos (.ref (mkH e.b c).objs.size) (mkH e.b { c with objs := c.objs ++ [{ cls := .type "list", data := .seq vs.toArray }] }) t₁ pos₁ := by
  rw [arm_eval_List]
  refine XR_bind XR_standAt ?_
  refine XR_bind (h1.run q) ?_
  unfold newList newObj newObjAsIs
  refine XR.at_n (n := 1 + 0) ?_ rfl
  dsimp only
  rw [if_neg (by rw [List.size_toArray]; omega)]
  refine XR_bind XR_alloc ?_
  rw [mkH_push]
  exact XR_pure
theorem XR_Name {x : Str} {q : Pos} {en : DictEntry} (E : EcOk p n₀ ann g d os w e) (hx : (x == ("__debug__" : Str)) = false) (hk : e.env.kindOf x = some .local) (hv : c.ns.find? (·.key.isStr x) = some en) :
    XR p n₀ ann g d os w 3 (eval (.Name x q) e.env) (mkH e.b c) t pos en.val (mkH e.b c) t q := by
  rw [arm_eval_Name]
  refine XR.at_n (n := 1 + 2) ?_ rfl
  refine XR_bind XR_standAt ?_
  rw [hx]
  simp only [Bool.false_eq_true, if_false]
  unfold loadName
  rw [E.kind, hk]
  have lg : XR p n₀ ann g d os w 2 (localGet e.env x) (mkH e.b c) t q (some en.val) (mkH e.b c) t q := by
    unfold localGet
    rw [E.locals]
    refine XR.at_n (n := 1 + (1 + 0)) ?_ rfl
    refine XR_bind (XR_load (mkH_24 E.A)) ?_
    show XR p n₀ ann g d os w (1 + 0) (nsGet 24 x) _ _ _ _ _ _ _
    unfold nsGet
    refine XR_bind (XR_load (mkH_24 E.A)) ?_
    show XR p n₀ ann g d os w 0 (match nsNameIn x.cps.size x.cps.toList c.ns.toArray.toList false with | (some e, _) => pure (some e.val) | (none, true) => _ | (none, false) => _) _ _ _ _ _ _ _
    have k1 := nsNameIn_fst x c.ns.toArray
    rw [List.find?_toArray, hv] at k1
    cases hq : nsNameIn x.cps.size x.cps.toList c.ns.toArray.toList false with
    | mk a b =>
      rw [hq] at k1
      dsimp only at k1
      subst k1
      exact XR_pure
  have bk : e.env.blockKind = .class := by unfold Env.blockKind; rw [E.kind]; rfl
  rw [bk]
  refine XR.at_n (n := 2 + 0) ?_ rfl
  exact XR_bind lg XR_pure
end
end M6
namespace M6
noncomputable def encL : List Nat → Nat
  | [] => 1
  | c :: l => c + 2097152 * encL l
noncomputable def enc (x : Str) : Nat := encL x.cps.toList
theorem encL_pos : ∀ l, 1 ≤ encL l
  | [] => Nat.le_refl _
  | c :: l => by have := encL_pos l; show 1 ≤ c + 2097152 * encL l; omega
theorem encL_inj : ∀ {a b : List Nat}, (∀ c ∈ a, c < 2097152) → (∀ c ∈ b, c < 2097152) → encL a = encL b → a = b
  | [], [], _, _, _ => rfl
  | [], c :: l, _, _, h => by have := encL_pos l; simp only [encL] at h; omega
  | c :: l, [], _, _, h => by have := encL_pos l; simp only [encL] at h; omega
  | c :: l, c' :: l', h1, h2, h => by
    simp only [encL] at h
    have a1 := h1 c (.head _)
    have a2 := h2 c' (.head _)
    have e1 : c = c' := by omega
    have e2 : encL l = encL l' := by omega
    rw [e1, encL_inj (fun x hx => h1 x (.tail _ hx)) (fun x hx => h2 x (.tail _ hx)) e2]
noncomputable def small (x : Str) : Bool := x.cps.toList.all fun c => Nat.blt c 2097152
theorem enc_inj {a b : Str} (h1 : small a = true) (h2 : small b = true) (h : enc a = enc b) : a = b := by
  have := encL_inj (fun c hc => Nat.blt_eq.mp (List.all_eq_true.mp h1 c hc)) (fun c hc => Nat.blt_eq.mp (List.all_eq_true.mp h2 c hc)) h
  cases a; cases b
  simp only [Str.mk.injEq]
  exact Array.toList_inj.mp this
noncomputable def bindOf : Stmt → Str
  | .FunctionDef _ _ _ _ _ _ _ _ b _ => b
  | .Assign [.Name n _] _ _ => n
  | _ => default
noncomputable def posOf : Stmt → Pos
  | .FunctionDef _ _ _ _ _ _ _ _ _ p => p
  | .Assign _ _ p => p
  | _ => default
noncomputable def endOf : Stmt → Pos
  | .FunctionDef _ _ _ _ _ _ _ _ _ p => p
  | .Assign [.Name _ p] _ _ => p
  | _ => default
noncomputable def argPlain (a : Arg) : Bool := a.annotation.isNone
noncomputable def argsPlain : Arguments → Bool
  | ⟨po, a, va, ko, kd, kwa, _⟩ => ko.isEmpty && kd.isEmpty && (a ++ po ++ va.toList ++ ko ++ kwa.toList).all argPlain
noncomputable def dfltOk : List Expr → Bool
  | [] => true
  | [.Constant .none _ _, .Constant (.int _) _ _] => true
  | _ => false
noncomputable def stB : Stmt → Bool
  | .FunctionDef _ args body [] none [] scope _ _ _ => scope.names.all (fun x => x.2 != .free) && (localNames args scope (.stmts body)).isSome && argsPlain args && (docOf body).isNone && dfltOk args.defaults
  | .Assign [.Name _ _] (.Constant (.int _) _ _) _ => true
  | .Assign [.Name _ _] (.Constant (.str _) _ _) _ => true
  | _ => false
noncomputable def vOf (args : Arguments) (body : List Stmt) (scope : Scope) : List Str := ((localNames args scope (.stmts body)).getD ([], [])).1
noncomputable def clOf (args : Arguments) (body : List Stmt) (scope : Scope) : List Str := ((localNames args scope (.stmts body)).getD ([], [])).2
/-- What a statement does. -/
noncomputable def eff (e : Ec) (w : World) : Stmt → CS × Nat → CS × Nat
  | .FunctionDef name args body _ _ _ scope _ bind pos, (c, t) => match args.defaults with
    | [.Constant .none _ _, .Constant (.int i) _ _] =>
      (⟨c.objs ++ { cls := .type "tuple", data := .seq #[.none, .int i t] } :: dObjs e name bind args body scope pos (vOf args body scope) (clOf args body scope) (.ref (29 + c.objs.length)) (29 + c.objs.length + 1) (t + 1),
        c.ns ++ [⟨hsh w bind, .str bind (t + 1 + 3 + (vOf args body scope).length + (clOf args body scope).length + 1 + 1), .ref (29 + c.objs.length + 1 + 6)⟩], c.pl ++ [((pos.line : Int), (pos.col : Int), .ref (29 + c.objs.length + 1 + 5))]⟩,
       t + 1 + 3 + (vOf args body scope).length + (clOf args body scope).length + 1 + 1 + 1)
    | _ => (⟨c.objs ++ dObjs e name bind args body scope pos (vOf args body scope) (clOf args body scope) .none (29 + c.objs.length) t,
        c.ns ++ [⟨hsh w bind, .str bind (t + 3 + (vOf args body scope).length + (clOf args body scope).length + 1 + 1), .ref (29 + c.objs.length + 6)⟩], c.pl ++ [((pos.line : Int), (pos.col : Int), .ref (29 + c.objs.length + 5))]⟩,
       t + 3 + (vOf args body scope).length + (clOf args body scope).length + 1 + 1 + 1)
  | .Assign [.Name n _] (.Constant (.int i) _ _) _, (c, t) => ({ c with ns := c.ns ++ [⟨hsh w n, .str n (t + 1), .int i t⟩] }, t + 1 + 1)
  | .Assign [.Name n _] (.Constant (.str x) _ _) _, (c, t) => ({ c with ns := c.ns ++ [⟨hsh w n, .str n (t + 1), .str x t⟩] }, t + 1 + 1)
  | _, r => r
noncomputable def stepsOf : Stmt → Nat
  | .FunctionDef _ args body _ _ _ scope _ _ _ => match args.defaults with
    | [] => 1 + (0 + ((0 + (20 + (vOf args body scope).length + (clOf args body scope).length)) + (1 + 7)))
    | _ => 1 + (1 + ((1 + (20 + (vOf args body scope).length + (clOf args body scope).length)) + (1 + 7)))
  | _ => 1 + (1 + 8)
theorem freeNames_nil {scope : Scope} (h : scope.names.all (fun x => x.2 != .free) = true) : scope.freeNames = [] := by
  unfold Scope.freeNames
  have : scope.names.filter (·.2 == .free) = [] := by
    rw [List.filter_eq_nil_iff]
    intro x hx
    have := List.all_eq_true.mp h x hx
    simpa using this
  rw [this]
  simp
theorem ann_nil {env : Env} {l : List Arg} (h : l.all argPlain = true) : annotationsOf l env = [] := by
  induction l with
  | nil => rfl
  | cons x l ih =>
    obtain ⟨n, a, q⟩ := x
    rw [List.all_cons, Bool.and_eq_true] at h
    obtain ⟨h1, h2⟩ := h
    cases a with
    | some x => cases h1
    | none => exact ih h2
theorem DefOk.of {env : Env} {name bind : Str} {args : Arguments} {body : List Stmt} {scope : Scope} (hk : env.kindOf bind = some .local) (h1 : scope.names.all (fun x => x.2 != .free) = true) (h2 : (localNames args scope (.stmts body)).isSome = true) (h3 : argsPlain args = true) (h4 : (docOf body).isNone = true) :
    DefOk env name bind args body scope (vOf args body scope) (clOf args body scope) := by
  obtain ⟨po, a, va, ko, kd, kwa, df⟩ := args
  unfold argsPlain at h3
  simp only [Bool.and_eq_true] at h3
  obtain ⟨⟨a1, a2⟩, a3⟩ := h3
  refine ⟨hk, h1, freeNames_nil h1, ?_, List.isEmpty_iff.mp a1, List.isEmpty_iff.mp a2, Option.isNone_iff_eq_none.mp h4, ann_nil a3⟩
  obtain ⟨r, hr⟩ := Option.isSome_iff_exists.mp h2
  unfold vOf clOf
  rw [hr]
  rfl
section
variable {p : Program} {n₀ : Nat} {ann : Option Value} {g : Array GenState} {d : Drawn} {os : OsState} {w : World} {e : Ec} {c : CS} {t : Nat} {pos pos₀ : Pos}
theorem XR_dv {h : Heap} {env : Env} {i : Int} {k1 k2 : Nat} {q1 q2 : Pos} : XR p n₀ ann g d os w 1 (evalAll [eval (.Constant .none k1 q1) env, eval (.Constant (.int i) k2 q2) env]) h t pos [.none, .int i t] h (t + 1) pos := by
  refine XR.at_n (n := 0 + ((1 + (0 + 0)) + 0)) ?_ rfl
  refine XR_bind (a := Value.none) (h₁ := h) (t₁ := t) (pos₁ := pos) ?_ ?_
  · rw [arm_eval_Constant]; exact XR_pure
  refine XR_bind (a := [Value.int i t]) (h₁ := h) (t₁ := t + 1) (pos₁ := pos) (XR_holding ?_) ?_
  · refine XR_bind XR_int ?_
    refine XR_bind (a := ([] : List Value)) (h₁ := h) (t₁ := t + 1) (pos₁ := pos) (XR_holding ?_) ?_
    · exact XR_pure
    · exact XR_pure
  · exact XR_pure
theorem XR_def2 {name bind : Str} {args : Arguments} {body : List Stmt} {scope : Scope} {v cl : List Str} {ts : Option Scope} {i : Int} {k1 k2 : Nat} {q1 q2 : Pos} (E : EcOk p n₀ ann g d os w e) (D : DefOk e.env name bind args body scope v cl) (hd : args.defaults = [.Constant .none k1 q1, .Constant (.int i) k2 q2]) (aw : Away pos c.pl) (fr : Fresh bind c.ns) :
    XR p n₀ ann g d os w (1 + (1 + ((1 + (20 + v.length + cl.length)) + (1 + 7)))) (exec (.FunctionDef name args body [] none [] scope ts bind pos) e.env) (mkH e.b c) t pos₀ .next
      (mkH e.b ⟨c.objs ++ { cls := .type "tuple", data := .seq #[.none, .int i t] } :: dObjs e name bind args body scope pos v cl (.ref (29 + c.objs.length)) (29 + c.objs.length + 1) (t + 1), c.ns ++ [⟨hsh w bind, .str bind (t + 1 + 3 + v.length + cl.length + 1 + 1), .ref (29 + c.objs.length + 1 + 6)⟩], c.pl ++ [((pos.line : Int), (pos.col : Int), .ref (29 + c.objs.length + 1 + 5))]⟩)
      (t + 1 + 3 + v.length + cl.length + 1 + 1 + 1) pos := by
  have aux := XR_def (p := p) (n₀ := n₀) (ann := ann) (g := g) (d := d) (os := os) (w := w) (h := mkH e.b c) (t := t) (pos := pos) (pos₀ := pos₀) (ts := ts) (es := c.ns) (dv := [.none, .int i t]) (dV := .ref (mkH e.b c).objs.size) (nd := 1) (ne := 1) (h' := mkH e.b c) (t' := t + 1) (hd := mkH e.b { c with objs := c.objs ++ [{ cls := .type "tuple", data := .seq #[.none, .int i t] }] }) D E.kind E.code E.n26 (by rw [E.locals]; exact E.n24) aw fr
    (by
      rw [show (defaultsOf args e.env).1 = [eval (.Constant .none k1 q1) e.env, eval (.Constant (.int i) k2 q2) e.env] from by obtain ⟨a1, a2, a3, a4, a5, a6, a7⟩ := args; dsimp only at hd; subst hd; rfl]
      exact XR_dv)
    (.inr ⟨by simp, rfl, mkH_push.symm, rfl⟩) (E.codeAt (c := { c with objs := c.objs ++ [{ cls := .type "tuple", data := .seq #[.none, .int i t] }] })) (mkH_pushAll _ _) (mkH_26 E.A) (mkH_place (c := { c with objs := _ }) E.A aw) (mkH_26 E.A) (E.built _ · _) (E.name _ · _) (by rw [mkH_push, E.locals]; exact mkH_24 E.A)
  rw [mkH_push, E.locals] at aux
  dsimp only at aux
  rw [mkH_put E.A (by exact fr), mkH_size E.A, mkH_size E.A, mkH_size E.A] at aux
  simp only [List.length_append, List.append_assoc, dCode_length, List.length_singleton] at aux
  exact aux
end
end M6
namespace M6
section
variable {p : Program} {n₀ : Nat} {ann : Option Value} {g : Array GenState} {d : Drawn} {os : OsState} {w : World} {e : Ec} {c : CS} {t : Nat} {pos pos₀ : Pos}
/-- The two kinds of written defaults. -/
theorem dflt_cases {P : List Expr → Prop} {l : List Expr} (h : dfltOk l = true) (h0 : P []) (h2 : ∀ k1 q1 i k2 q2, P [.Constant .none k1 q1, .Constant (.int i) k2 q2]) : P l := by
  cases l with
  | nil => exact h0
  | cons a r =>
    cases a <;> first | (cases h; done) | skip
    rename_i c k q
    cases c <;> first | (cases h; done) | skip
    cases r with
    | nil => cases h
    | cons b r =>
      cases b <;> first | (cases h; done) | skip
      rename_i c2 k2 q2
      cases c2 <;> first | (cases h; done) | skip
      rename_i i
      cases r with
      | nil => exact h2 _ _ _ _ _
      | cons _ _ => cases h
/-- The kinds of statements that a class's block may hold. -/
theorem st_view {P : Stmt → Prop} {st : Stmt} (hs : stB st = true)
    (hd : ∀ name args body scope ts bind pos, scope.names.all (fun x => x.2 != .free) = true → (localNames args scope (.stmts body)).isSome = true → argsPlain args = true → (docOf body).isNone = true → dfltOk args.defaults = true → P (.FunctionDef name args body [] none [] scope ts bind pos))
    (hi : ∀ n np i k q pos, P (.Assign [.Name n np] (.Constant (.int i) k q) pos)) (hx : ∀ n np x k q pos, P (.Assign [.Name n np] (.Constant (.str x) k q) pos)) : P st := by
  cases st <;> first | (cases hs; done) | skip
  · rename_i name args body decs rets tps scope ts bind pos
    cases decs with
    | cons _ _ => cases hs
    | nil =>
      cases rets with
      | some _ => cases hs
      | none =>
        cases tps with
        | cons _ _ => cases hs
        | nil =>
          have hs := Bool.and_eq_true_iff.mp hs
          have h1 := Bool.and_eq_true_iff.mp hs.1
          have h2 := Bool.and_eq_true_iff.mp h1.1
          have h3 := Bool.and_eq_true_iff.mp h2.1
          exact hd _ _ _ _ _ _ _ h3.1 h3.2 h2.2 h1.2 hs.2
  · rename_i tg v pos
    cases tg with
    | nil => cases hs
    | cons a r =>
      cases a <;> first | (cases hs; done) | skip
      cases r with
      | cons _ _ => cases hs
      | nil =>
        cases v <;> first | (cases hs; done) | skip
        rename_i c k q
        cases c <;> first | (cases hs; done) | skip
        · exact hi _ _ _ _ _ _
        · exact hx _ _ _ _ _ _
theorem st_cases {P : Stmt → Prop} {st : Stmt} (hs : stB st = true)
    (h0 : ∀ name po a va ko kd kw body scope ts bind pos, P (.FunctionDef name ⟨po, a, va, ko, kd, kw, []⟩ body [] none [] scope ts bind pos))
    (h2 : ∀ name po a va ko kd kw body scope ts bind pos k1 q1 i k2 q2, P (.FunctionDef name ⟨po, a, va, ko, kd, kw, [.Constant .none k1 q1, .Constant (.int i) k2 q2]⟩ body [] none [] scope ts bind pos))
    (hi : ∀ n np i k q pos, P (.Assign [.Name n np] (.Constant (.int i) k q) pos)) (hx : ∀ n np x k q pos, P (.Assign [.Name n np] (.Constant (.str x) k q) pos)) : P st := by
  refine st_view hs (fun name args body scope ts bind pos _ _ _ _ hd => ?_) hi hx
  obtain ⟨po, a, va, ko, kd, kw, df⟩ := args
  exact dflt_cases (P := fun df => P (.FunctionDef name ⟨po, a, va, ko, kd, kw, df⟩ body [] none [] scope ts bind pos)) hd (h0 _ _ _ _ _ _ _ _ _ _ _ _) fun _ _ _ _ _ => h2 _ _ _ _ _ _ _ _ _ _ _ _ _ _ _ _ _
theorem eff_run (E : EcOk p n₀ ann g d os w e) {st : Stmt} (hs : stB st = true) (hk : e.env.kindOf (bindOf st) = some .local) (fr : Fresh (bindOf st) c.ns) (aw : Away (posOf st) c.pl) :
    XR p n₀ ann g d os w (stepsOf st) (exec st e.env) (mkH e.b c) t pos₀ .next (mkH e.b (eff e w st (c, t)).1) (eff e w st (c, t)).2 (endOf st) := by
  revert hk fr aw
  refine st_view (P := fun st => e.env.kindOf (bindOf st) = some .local → Fresh (bindOf st) c.ns → Away (posOf st) c.pl → XR p n₀ ann g d os w (stepsOf st) (exec st e.env) (mkH e.b c) t pos₀ .next (mkH e.b (eff e w st (c, t)).1) (eff e w st (c, t)).2 (endOf st)) hs (fun name args body scope ts bind pos h1 h2 h3 h4 h5 => ?_)
    (fun n np i k q pos hk fr aw => XR_assign E hk fr rfl rfl XR_int) (fun n np x k q pos hk fr aw => XR_assign E hk fr rfl rfl XR_str)
  intro hk fr aw
  have D := DefOk.of (env := e.env) (name := name) (bind := bind) (args := args) (body := body) (scope := scope) hk h1 h2 h3 h4
  clear h1 h2 h3 h4
  obtain ⟨po, a, va, ko, kd, kw, df⟩ := args
  revert D
  exact dflt_cases (P := fun df => DefOk e.env name bind ⟨po, a, va, ko, kd, kw, df⟩ body scope (vOf ⟨po, a, va, ko, kd, kw, df⟩ body scope) (clOf ⟨po, a, va, ko, kd, kw, df⟩ body scope) → XR p n₀ ann g d os w (stepsOf (.FunctionDef name ⟨po, a, va, ko, kd, kw, df⟩ body [] none [] scope ts bind pos)) (exec (.FunctionDef name ⟨po, a, va, ko, kd, kw, df⟩ body [] none [] scope ts bind pos) e.env) (mkH e.b c) t pos₀ .next (mkH e.b (eff e w (.FunctionDef name ⟨po, a, va, ko, kd, kw, df⟩ body [] none [] scope ts bind pos) (c, t)).1) (eff e w (.FunctionDef name ⟨po, a, va, ko, kd, kw, df⟩ body [] none [] scope ts bind pos) (c, t)).2 pos) h5
    (fun D => XR_def0 (ts := ts) (t := t) (pos₀ := pos₀) E D rfl aw fr) (fun k1 q1 i k2 q2 D => XR_def2 (ts := ts) (t := t) (pos₀ := pos₀) E D rfl aw fr)
structure Inv (us : List Nat) (ln : Nat) (c : CS) : Prop where
  ns : ∀ e ∈ c.ns, ∃ name t, e.key = .str name t ∧ enc name ∈ us
  pl : ∀ x ∈ c.pl, x.1 ≤ (ln : Int)
noncomputable def awayN (k : Nat) (l : List Nat) : Bool := @List.rec Nat (fun _ => Bool) true (fun a _ ih => @Bool.rec (fun _ => Bool) ih false (Nat.beq a k)) l
theorem awayN_iff {k : Nat} : ∀ {l : List Nat}, awayN k l = true → ∀ u ∈ l, u ≠ k
  | [], _, _, h => nomatch h
  | a :: l, h, u, hu => by
    have h : @Bool.rec (fun _ => Bool) (awayN k l) false (Nat.beq a k) = true := h
    cases hq : Nat.beq a k with
    | true => rw [hq] at h; cases h
    | false =>
      rw [hq] at h
      rcases List.mem_cons.mp hu with rfl | hu
      · exact Nat.ne_of_beq_eq_false hq
      · exact awayN_iff h u hu
noncomputable def chk (us : List Nat) (ln : Nat) : List Stmt → List Nat → Bool
  | [], _ => true
  | st :: r, k :: ks => stB st && Nat.beq k (enc (bindOf st)) && awayN k us && Nat.blt ln (posOf st).line && chk (k :: us) (posOf st).line r ks
  | _ :: _, [] => false
noncomputable def effAll (e : Ec) (w : World) : List Stmt → CS × Nat → CS × Nat
  | [], r => r
  | st :: l, r => effAll e w l (eff e w st r)
noncomputable def stepsAll : List Stmt → Nat
  | [] => 0
  | st :: l => stepsOf st + stepsAll l
noncomputable def lastPos : List Stmt → Pos → Pos
  | [], q => q
  | st :: l, _ => lastPos l (endOf st)
noncomputable def lastUs : List Stmt → List Nat → List Nat → List Nat
  | _ :: l, k :: ks, us => lastUs l ks (k :: us)
  | _, _, us => us
noncomputable def lastLn : List Stmt → Nat → Nat
  | [], n => n
  | st :: l, _ => lastLn l (posOf st).line
theorem Inv.fresh {us : List Nat} {ln : Nat} (I : Inv us ln c) {b : Str} {k : Nat} (hk : Nat.beq k (enc b) = true) (hu : awayN k us = true) : Fresh b c.ns := fun x hx => by
  obtain ⟨name, t, e1, e2⟩ := I.ns x hx
  have hk := Nat.eq_of_beq_eq_true hk
  have ne : enc name ≠ k := awayN_iff hu _ e2
  refine ⟨?_, ?_⟩
  · rw [e1, isStr_str']
    refine beq_eq_false_iff_ne.mpr fun z => ne ?_
    rw [z, hk]
  · show x.refKey = false
    unfold DictEntry.refKey
    rw [e1]
theorem Inv.away {us : List Nat} {ln : Nat} (I : Inv us ln c) {q : Pos} (h : Nat.blt ln q.line = true) : Away q c.pl := fun x hx => by
  have := I.pl x hx
  have h := Nat.blt_eq.mp h
  have : (x.1 == (q.line : Int)) = false := beq_eq_false_iff_ne.mpr (by omega)
  rw [this]
  rfl
theorem Inv.eff {us : List Nat} {ln : Nat} (I : Inv us ln c) {st : Stmt} (hs : stB st = true) {k : Nat} (hk : Nat.beq k (enc (bindOf st)) = true) (hl : Nat.blt ln (posOf st).line = true) : Inv (k :: us) (posOf st).line (eff e w st (c, t)).1 := by
  have hk := Nat.eq_of_beq_eq_true hk
  have hl := Nat.blt_eq.mp hl
  have old : ∀ x ∈ c.ns, ∃ name t, x.key = .str name t ∧ enc name ∈ k :: us := fun x hx => by
    obtain ⟨n, t, a, b⟩ := I.ns x hx
    exact ⟨n, t, a, .tail _ b⟩
  have oldp : ∀ x ∈ c.pl, x.1 ≤ ((posOf st).line : Int) := fun x hx => by
    have := I.pl x hx
    omega
  have add : ∀ (l : List DictEntry) (tk : Nat) (v : Value) (hh : Int), l = c.ns ++ [⟨hh, .str (bindOf st) tk, v⟩] → ∀ x ∈ l, ∃ name t, x.key = .str name t ∧ enc name ∈ k :: us := by
    rintro l tk v hh rfl x hx
    rcases List.mem_append.mp hx with hx | hx
    · exact old x hx
    · obtain rfl := List.mem_singleton.mp hx
      exact ⟨_, _, rfl, by rw [← hk]; exact .head _⟩
  have addp : ∀ (l : List (Int × Int × Value)) (y : Int) (v : Value), l = c.pl ++ [(((posOf st).line : Int), y, v)] → ∀ x ∈ l, x.1 ≤ ((posOf st).line : Int) := by
    rintro l y v rfl x hx
    rcases List.mem_append.mp hx with hx | hx
    · exact oldp x hx
    · obtain rfl := List.mem_singleton.mp hx
      exact Int.le_refl _
  clear hk hl
  revert add addp oldp
  exact st_cases (P := fun st => (∀ x ∈ c.pl, x.1 ≤ ((posOf st).line : Int)) → (∀ (l : List DictEntry) (tk : Nat) (v : Value) (hh : Int), l = c.ns ++ [⟨hh, .str (bindOf st) tk, v⟩] → ∀ x ∈ l, ∃ name t, x.key = .str name t ∧ enc name ∈ k :: us) → (∀ (l : List (Int × Int × Value)) (y : Int) (v : Value), l = c.pl ++ [(((posOf st).line : Int), y, v)] → ∀ x ∈ l, x.1 ≤ ((posOf st).line : Int)) → Inv (k :: us) (posOf st).line (M6.eff e w st (c, t)).1) hs
    (fun name po a va ko kd kw body scope ts bind pos oldp add addp => ⟨add _ _ _ _ rfl, addp _ _ _ rfl⟩) (fun name po a va ko kd kw body scope ts bind pos k1 q1 i k2 q2 oldp add addp => ⟨add _ _ _ _ rfl, addp _ _ _ rfl⟩)
    (fun n np i k' q pos oldp add addp => ⟨add _ _ _ _ rfl, oldp⟩) (fun n np x k' q pos oldp add addp => ⟨add _ _ _ _ rfl, oldp⟩)
theorem XR_execs (E : EcOk p n₀ ann g d os w e) : ∀ (l : List Stmt) (ks us : List Nat) (ln : Nat) (c : CS) (t : Nat) (pos₀ : Pos), chk us ln l ks = true → (∀ st ∈ l, e.env.kindOf (bindOf st) = some .local) → Inv us ln c →
    XR p n₀ ann g d os w (stepsAll l) (execs l e.env) (mkH e.b c) t pos₀ .next (mkH e.b (effAll e w l (c, t)).1) (effAll e w l (c, t)).2 (lastPos l pos₀) ∧ Inv (lastUs l ks us) (lastLn l ln) (effAll e w l (c, t)).1
  | [], ks, us, ln, c, t, pos₀, _, _, I => by
    refine ⟨XR_pure, ?_⟩
    cases ks <;> exact I
  | st :: l, [], us, ln, c, t, pos₀, h, _, _ => by cases h
  | st :: l, k :: ks, us, ln, c, t, pos₀, h, hk, I => by
    unfold chk at h
    simp only [Bool.and_eq_true] at h
    obtain ⟨⟨⟨⟨h1, h2⟩, h3⟩, h4⟩, h5⟩ := h
    have fr := I.fresh h2 h3
    have aw := I.away h4
    have r := eff_run (t := t) (pos₀ := pos₀) E h1 (hk st (.head _)) fr aw
    have I' : Inv (k :: us) (posOf st).line (M6.eff e w st (c, t)).1 := I.eff h1 h2 h4
    obtain ⟨r', I''⟩ := XR_execs E l ks (k :: us) (posOf st).line (M6.eff e w st (c, t)).1 (M6.eff e w st (c, t)).2 (endOf st) h5 (fun s hs => hk s (.tail _ hs)) I'
    refine ⟨?_, I''⟩
    rw [execs_cons]
    refine XR_bind r ?_
    exact r'
end
end M6
namespace M6
/-- What a statement lays, from an address and a token on. -/
noncomputable def sObjs (e : Ec) : Stmt → Nat → Nat → List Obj
  | .FunctionDef name args body _ _ _ scope _ bind pos, n, t => match args.defaults with
    | [.Constant .none _ _, .Constant (.int i) _ _] => { cls := .type "tuple", data := .seq #[.none, .int i t] } :: dObjs e name bind args body scope pos (vOf args body scope) (clOf args body scope) (.ref n) (n + 1) (t + 1)
    | _ => dObjs e name bind args body scope pos (vOf args body scope) (clOf args body scope) .none n t
  | _, _, _ => []
noncomputable def sEnt (w : World) : Stmt → Nat → Nat → List DictEntry
  | .FunctionDef _ args body _ _ _ scope _ bind _, n, t => match args.defaults with
    | [.Constant .none _ _, .Constant (.int i) _ _] => [⟨hsh w bind, .str bind (t + 1 + 3 + (vOf args body scope).length + (clOf args body scope).length + 1 + 1), .ref (n + 1 + 6)⟩]
    | _ => [⟨hsh w bind, .str bind (t + 3 + (vOf args body scope).length + (clOf args body scope).length + 1 + 1), .ref (n + 6)⟩]
  | .Assign [.Name b _] (.Constant (.int i) _ _) _, _, t => [⟨hsh w b, .str b (t + 1), .int i t⟩]
  | .Assign [.Name b _] (.Constant (.str x) _ _) _, _, t => [⟨hsh w b, .str b (t + 1), .str x t⟩]
  | _, _, _ => []
noncomputable def sPl : Stmt → Nat → List (Int × Int × Value)
  | .FunctionDef _ args _ _ _ _ _ _ _ pos, n => match args.defaults with
    | [.Constant .none _ _, .Constant (.int i) _ _] => [((pos.line : Int), (pos.col : Int), .ref (n + 1 + 5))]
    | _ => [((pos.line : Int), (pos.col : Int), .ref (n + 5))]
  | _, _ => []
noncomputable def sTk : Stmt → Nat → Nat
  | .FunctionDef _ args body _ _ _ scope _ _ _, t => match args.defaults with
    | [.Constant .none _ _, .Constant (.int i) _ _] => t + 1 + 3 + (vOf args body scope).length + (clOf args body scope).length + 1 + 1 + 1
    | _ => t + 3 + (vOf args body scope).length + (clOf args body scope).length + 1 + 1 + 1
  | .Assign [.Name _ _] (.Constant (.int _) _ _) _, t => t + 1 + 1
  | .Assign [.Name _ _] (.Constant (.str _) _ _) _, t => t + 1 + 1
  | _, t => t
noncomputable def sLen : Stmt → Nat
  | .FunctionDef _ args _ _ _ _ _ _ _ _ => match args.defaults with
    | [.Constant .none _ _, .Constant (.int _) _ _] => 8
    | _ => 7
  | _ => 0
theorem sObjs_length {e : Ec} {st : Stmt} {n t : Nat} (hs : stB st = true) : (sObjs e st n t).length = sLen st :=
  st_cases (P := fun st => (sObjs e st n t).length = sLen st) hs (fun name po a va ko kd kw body scope ts bind pos => rfl) (fun name po a va ko kd kw body scope ts bind pos k1 q1 i k2 q2 => rfl) (fun n np i k q pos => rfl) (fun n np x k q pos => rfl)
theorem eff_is {e : Ec} {w : World} {st : Stmt} {c : CS} {t n : Nat} (hs : stB st = true) (hn : n = 29 + c.objs.length) : eff e w st (c, t) = (⟨c.objs ++ sObjs e st n t, c.ns ++ sEnt w st n t, c.pl ++ sPl st n⟩, sTk st t) := by
  subst hn
  obtain ⟨co, cn, cp⟩ := c
  exact st_cases (P := fun st => eff e w st (⟨co, cn, cp⟩, t) = (⟨co ++ sObjs e st (29 + co.length) t, cn ++ sEnt w st (29 + co.length) t, cp ++ sPl st (29 + co.length)⟩, sTk st t)) hs (fun name po a va ko kd kw body scope ts bind pos => rfl) (fun name po a va ko kd kw body scope ts bind pos k1 q1 i k2 q2 => rfl)
    (fun n np i k q pos => by show (_, _) = ((⟨co ++ [], _, cp ++ []⟩ : CS), _); rw [List.append_nil, List.append_nil]; rfl) (fun n np x k q pos => by show (_, _) = ((⟨co ++ [], _, cp ++ []⟩ : CS), _); rw [List.append_nil, List.append_nil]; rfl)
/-- The statements with their addresses and tokens. -/
noncomputable abbrev Row := List (Stmt × Nat × Nat)
noncomputable def rowOk : Row → Nat → Nat → Bool
  | [], _, _ => true
  | (st, n, t) :: r, n', t' => Nat.beq n n' && Nat.beq t t' && rowOk r (n + sLen st) (sTk st t)
noncomputable def rowN : Row → Nat → Nat
  | [], n => n
  | (st, n, _) :: r, _ => rowN r (n + sLen st)
noncomputable def rowT : Row → Nat → Nat
  | [], t => t
  | (st, _, t) :: r, _ => rowT r (sTk st t)
noncomputable def rObjs (e : Ec) : Row → List Obj
  | [] => []
  | (st, n, t) :: r => sObjs e st n t ++ rObjs e r
noncomputable def rEnt (w : World) : Row → List DictEntry
  | [] => []
  | (st, n, t) :: r => sEnt w st n t ++ rEnt w r
noncomputable def rPl : Row → List (Int × Int × Value)
  | [] => []
  | (st, n, _) :: r => sPl st n ++ rPl r
theorem effAll_is {e : Ec} {w : World} : ∀ (r : Row) (c : CS) (n t : Nat), rowOk r n t = true → (∀ x ∈ r, stB x.1 = true) → n = 29 + c.objs.length →
    effAll e w (r.map (·.1)) (c, t) = (⟨c.objs ++ rObjs e r, c.ns ++ rEnt w r, c.pl ++ rPl r⟩, rowT r t)
  | [], c, n, t, _, _, _ => by simp [effAll, rObjs, rEnt, rPl, rowT]
  | (st, n', t') :: r, c, n, t, h, hs, hn => by
    unfold rowOk at h
    simp only [Bool.and_eq_true] at h
    obtain ⟨⟨h1, h2⟩, h3⟩ := h
    have h1 := Nat.eq_of_beq_eq_true h1
    have h2 := Nat.eq_of_beq_eq_true h2
    subst h1 h2
    have h0 := hs _ (.head _)
    show effAll e w (r.map (·.1)) (eff e w st (c, t')) = _
    rw [eff_is h0 hn, effAll_is r _ (n' + sLen st) (sTk st t') h3 (fun x hx => hs x (.tail _ hx)) (by rw [List.length_append, sObjs_length h0, hn]; dsimp only; omega)]
    simp [rObjs, rEnt, rPl, rowT]
theorem XR_execs_app {p : Program} {n₀ : Nat} {ann : Option Value} {g : Array GenState} {d : Drawn} {os : OsState} {w : World} {env : Env} {h h₁ h₂ : Heap} {t t₁ t₂ n k : Nat} {pos pos₁ pos₂ : Pos} {a b : List Stmt}
    (x : XR p n₀ ann g d os w n (execs a env) h t pos .next h₁ t₁ pos₁) (y : XR p n₀ ann g d os w k (execs b env) h₁ t₁ pos₁ .next h₂ t₂ pos₂) : XR p n₀ ann g d os w (n + k) (execs (a ++ b) env) h t pos .next h₂ t₂ pos₂ := ⟨fun K H gd lv code fr B => by
  rw [execs_app_wrap]
  exact (x.run _ _ _ _ code fr B).trans (y.run K H gd lv code fr B)⟩
/-- A tree of objects of a list. -/
noncomputable def evens : List Obj → List Obj
  | [] => []
  | [a] => [a]
  | a :: _ :: r => a :: evens r
noncomputable def odds : List Obj → List Obj
  | [] => []
  | [_] => []
  | _ :: b :: r => b :: odds r
noncomputable def btOf : Nat → List Obj → BT
  | 0, _ => .nil
  | _ + 1, [] => .nil
  | k + 1, o :: r => .node o (btOf k (evens r)) (btOf k (odds r))
theorem evens_get : ∀ (l : List Obj) (i : Nat), (evens l)[i]? = l[2 * i]?
  | [], i => by simp [evens]
  | [a], i => by cases i <;> simp [evens]
  | a :: b :: r, 0 => rfl
  | a :: b :: r, i + 1 => by
    show (evens r)[i]? = _
    rw [evens_get r i, show 2 * (i + 1) = 2 * i + 1 + 1 by omega]
    rfl
theorem odds_get : ∀ (l : List Obj) (i : Nat), (odds l)[i]? = l[2 * i + 1]?
  | [], i => by simp [odds]
  | [a], i => by cases i <;> simp [odds]
  | a :: b :: r, 0 => rfl
  | a :: b :: r, i + 1 => by
    show (odds r)[i]? = _
    rw [odds_get r i, show 2 * (i + 1) + 1 = 2 * i + 1 + 1 + 1 by omega]
    rfl
theorem evens_len : ∀ l : List Obj, (evens l).length = (l.length + 1) / 2
  | [] => rfl
  | [a] => by simp [evens]
  | a :: b :: r => by show (evens r).length + 1 = (r.length + 1 + 1 + 1) / 2; rw [evens_len r]; omega
theorem odds_len : ∀ l : List Obj, (odds l).length = l.length / 2
  | [] => rfl
  | [a] => by simp [odds]
  | a :: b :: r => by show (odds r).length + 1 = (r.length + 1 + 1) / 2; rw [odds_len r]; omega
theorem btOf_get : ∀ (k : Nat) (l : List Obj) (i : Nat), l.length < 2 ^ k → (btOf k l).get i = l[i]?
  | 0, l, i, h => by
    have : l = [] := List.length_eq_zero_iff.mp (by simpa using h)
    subst this
    simp [btOf, BT.get]
  | k + 1, [], i, _ => by simp [btOf, BT.get]
  | k + 1, o :: r, i, h => by
    rw [Nat.pow_succ] at h
    simp only [List.length_cons] at h
    show (BT.node o (btOf k (evens r)) (btOf k (odds r))).get i = _
    rw [BT.get_node]
    by_cases h0 : i = 0
    · subst h0; simp
    · rw [if_neg h0]
      by_cases h1 : i % 2 = 1
      · rw [if_pos h1, btOf_get k _ _ (by rw [evens_len]; omega), evens_get]
        obtain ⟨j, rfl⟩ : ∃ j, i = 2 * j + 1 := ⟨i / 2, by omega⟩
        rw [show (2 * j + 1) / 2 = j by omega]
        rfl
      · rw [if_neg h1, btOf_get k _ _ (by rw [odds_len]; omega), odds_get]
        obtain ⟨j, rfl⟩ : ∃ j, i = 2 * j + 1 + 1 := ⟨i / 2 - 1, by omega⟩
        rw [show (2 * j + 1 + 1) / 2 - 1 = j by omega]
        rfl
theorem absHeap_btOf {k : Nat} {l : List Obj} {life : Life} (h : l.length < 2 ^ k) : absHeap (btOf k l) l.length life = ⟨l.toArray, life⟩ := by
  have e : (absHeap (btOf k l) l.length life).objs = l.toArray := by
    refine Array.ext_getElem? fun i => ?_
    rw [absHeap_at, btOf_get k l i h, List.getElem?_toArray]
    by_cases hi : i < l.length
    · rw [if_pos hi, List.getElem?_eq_getElem hi]; rfl
    · rw [if_neg hi, List.getElem?_eq_none (by omega)]
  have e2 : (absHeap (btOf k l) l.length life).life = life := rfl
  cases hq : absHeap (btOf k l) l.length life with
  | mk o l' => rw [hq] at e e2; cases e; cases e2; rfl
end M6
namespace M6
noncomputable def lItem : Expr → Bool
  | .Name _ _ => true
  | .Constant (.int _) _ _ => true
  | _ => false
noncomputable def nval (ns : List DictEntry) (x : Str) : Value := match ns.find? (·.key.isStr x) with
  | some e => e.val
  | none => .none
noncomputable def lVals (ns : List DictEntry) : List Expr → Nat → List Value
  | [], _ => []
  | .Name x _ :: r, t => nval ns x :: lVals ns r t
  | .Constant (.int i) _ _ :: r, t => .int i t :: lVals ns r (t + 1)
  | _ :: r, t => lVals ns r t
noncomputable def lTk : List Expr → Nat → Nat
  | [], t => t
  | .Constant (.int _) _ _ :: r, t => lTk r (t + 1)
  | _ :: r, t => lTk r t
noncomputable def lSteps : List Expr → Nat
  | [] => 0
  | .Name _ _ :: r => 3 + lSteps r
  | _ :: r => 1 + lSteps r
noncomputable def lPos : List Expr → Pos → Pos
  | [], q => q
  | .Name _ p :: r, _ => lPos r p
  | _ :: r, q => lPos r q
section
variable {p : Program} {n₀ : Nat} {ann : Option Value} {g : Array GenState} {d : Drawn} {os : OsState} {w : World} {e : Ec} {c : CS}
noncomputable def Found (e : Ec) (ns : List DictEntry) (x : Str) : Prop := (x == ("__debug__" : Str)) = false ∧ e.env.kindOf x = some .local ∧ (ns.find? (·.key.isStr x)).isSome = true
theorem XL_all (E : EcOk p n₀ ann g d os w e) : ∀ (es : List Expr) (t : Nat) (pos : Pos), es.all lItem = true → (∀ x q, Expr.Name x q ∈ es → Found e c.ns x) → XL p n₀ ann g d os w (lSteps es) es e.env (mkH e.b c) t pos (lVals c.ns es t) (lTk es t) (lPos es pos)
  | [], t, pos, _, _ => XL_nil
  | x :: r, t, pos, h, hf => by
    rw [List.all_cons, Bool.and_eq_true] at h
    obtain ⟨h1, h2⟩ := h
    unfold lItem at h1
    split at h1
    · rename_i x q
      obtain ⟨f1, f2, f3⟩ := hf x q (.head _)
      obtain ⟨en, hen⟩ := Option.isSome_iff_exists.mp f3
      have hv : nval c.ns x = en.val := by unfold nval; rw [hen]
      show XL p n₀ ann g d os w (3 + lSteps r) _ _ _ _ _ (nval c.ns x :: lVals c.ns r t) (lTk r t) (lPos r q)
      rw [hv]
      exact XL_cons rfl (XR_Name E f1 f2 hen) (XL_all E r t q h2 fun y q' hy => hf y q' (.tail _ hy))
    · rename_i i k q
      show XL p n₀ ann g d os w (1 + lSteps r) _ _ _ _ _ (.int i t :: lVals c.ns r (t + 1)) (lTk r (t + 1)) (lPos r pos)
      exact XL_cons rfl XR_int (XL_all E r (t + 1) pos h2 fun y q' hy => hf y q' (.tail _ hy))
    · cases h1
theorem lVals_length {ns : List DictEntry} : ∀ (es : List Expr) (t : Nat), (lVals ns es t).length ≤ es.length
  | [], _ => Nat.le_refl _
  | x :: r, t => by
    unfold lVals
    split
    · rename_i h; cases h
    · rename_i h; cases h; exact Nat.succ_le_succ (lVals_length _ _)
    · rename_i h; cases h; exact Nat.succ_le_succ (lVals_length _ _)
    · rename_i h; cases h; exact Nat.le_succ_of_le (lVals_length _ _)
/-- A written list is bound in a class's block. -/
theorem XR_listSt (E : EcOk p n₀ ann g d os w e) {b : Str} {np q pos pos₀ : Pos} {es : List Expr} {t : Nat} (h1 : es.all lItem = true) (hf : ∀ x q, Expr.Name x q ∈ es → Found e c.ns x) (hz : es.length ≤ 1000) (hk : e.env.kindOf b = some .local) (fr : Fresh b c.ns) :
    XR p n₀ ann g d os w (1 + ((1 + (lSteps es + 1)) + 8)) (exec (.Assign [.Name b np] (.List es q) pos) e.env) (mkH e.b c) t pos₀ .next
      (mkH e.b ⟨c.objs ++ [{ cls := .type "list", data := .seq (lVals c.ns es t).toArray }], c.ns ++ [⟨hsh w b, .str b (lTk es t), .ref (29 + c.objs.length)⟩], c.pl⟩) (lTk es t + 1) np := by
  have k := XR_assign (c := c) (c₁ := { c with objs := c.objs ++ [{ cls := .type "list", data := .seq (lVals c.ns es t).toArray }] }) (t := t) (t₁ := lTk es t) (name := b) (np := np) (pos := pos) (pos₀ := pos₀) E hk fr rfl rfl
    (XR_List (pos := pos) (by have := lVals_length (ns := c.ns) es t; have : sizeLine = 2 ^ 24 := rfl; omega) (XL_all E es t q h1 hf))
  rw [mkH_size E.A] at k
  exact k
end
/-- The names of a row's statements are found. -/
theorem ent_of_row {w : World} : ∀ {r : Row} {x : Stmt × Nat × Nat}, x ∈ r → stB x.1 = true → ∃ en ∈ rEnt w r, en.key.isStr (bindOf x.1) = true
  | (st, n, t) :: r, x, hx, hs => by
    rcases List.mem_cons.mp hx with rfl | hx
    · have : ∃ en ∈ sEnt w st n t, en.key.isStr (bindOf st) = true := by
        have one : ∀ (b : Str) (hh : Int) (tk : Nat) (v : Value), ∃ en ∈ ([⟨hh, .str b tk, v⟩] : List DictEntry), en.key.isStr b = true := fun b hh tk v => ⟨_, .head _, by rw [isStr_str']; exact beq_self_eq_true _⟩
        exact st_cases (P := fun st => ∃ en ∈ sEnt w st n t, en.key.isStr (bindOf st) = true) hs (fun name po a va ko kd kw body scope ts bind pos => one _ _ _ _) (fun name po a va ko kd kw body scope ts bind pos k1 q1 i k2 q2 => one _ _ _ _) (fun n np i k q pos => one _ _ _ _) (fun n np x k q pos => one _ _ _ _)
      obtain ⟨en, h1, h2⟩ := this
      exact ⟨en, List.mem_append_left _ h1, h2⟩
    · obtain ⟨en, h1, h2⟩ := ent_of_row hx hs
      exact ⟨en, List.mem_append_right _ h1, h2⟩
theorem lookup_local {b : Str} : ∀ {l : List (Str × NameKind)}, l.all (fun x => x.2 == .local) = true → b ∈ l.map (·.1) → l.lookup b = some .local
  | [], _, h => nomatch h
  | (n, k) :: r, h, hm => by
    rw [List.all_cons, Bool.and_eq_true] at h
    have hk : k = .local := by simpa using h.1
    subst hk
    simp only [List.lookup]
    cases hb : b == n with
    | true => rfl
    | false =>
      rcases List.mem_cons.mp hm with q | q
      · have : b = n := q
        rw [this, beq_self_eq_true] at hb
        cases hb
      · exact lookup_local h.2 q
/-- The names of a written list, by their codes. -/
noncomputable def chkL (ks : List Nat) (dbg : Nat) : List Expr → List Nat → Bool
  | [], _ => true
  | .Name x _ :: r, k :: lk => Nat.beq k (enc x) && small x && !(awayN k ks) && !(Nat.beq k dbg) && chkL ks dbg r lk
  | .Name _ _ :: _, [] => false
  | .Constant (.int _) _ _ :: r, lk => chkL ks dbg r lk
  | _ :: _, _ => false
theorem awayN_false {k : Nat} : ∀ {l : List Nat}, awayN k l = false → k ∈ l
  | [], h => by cases h
  | a :: l, h => by
    have h : @Bool.rec (fun _ => Bool) (awayN k l) false (Nat.beq a k) = false := h
    cases hq : Nat.beq a k with
    | true => rw [Nat.eq_of_beq_eq_true hq]; exact .head _
    | false => rw [hq] at h; exact .tail _ (awayN_false h)
theorem chkL_name {ks : List Nat} {dbg : Nat} {x : Str} {q : Pos} : ∀ {es : List Expr} {lk : List Nat}, chkL ks dbg es lk = true → Expr.Name x q ∈ es → enc x ∈ ks ∧ small x = true ∧ enc x ≠ dbg
  | [], _, _, h => nomatch h
  | y :: r, lk, h, hm => by
    unfold chkL at h
    split at h
    · rename_i e; cases e
    · rename_i e; cases e
      simp only [Bool.and_eq_true, Bool.not_eq_true'] at h
      obtain ⟨⟨⟨⟨h1, h2⟩, h3⟩, h4⟩, h5⟩ := h
      rcases List.mem_cons.mp hm with e | hm
      · cases e
        have h1 := Nat.eq_of_beq_eq_true h1
        rw [← h1]
        exact ⟨awayN_false h3, h2, Nat.ne_of_beq_eq_false h4⟩
      · exact chkL_name h5 hm
    · cases h
    · rename_i e; cases e
      rcases List.mem_cons.mp hm with e | hm
      · cases e
      · exact chkL_name h hm
    · cases h
theorem chkL_items {ks : List Nat} {dbg : Nat} : ∀ {es : List Expr} {lk : List Nat}, chkL ks dbg es lk = true → es.all lItem = true
  | [], _, _ => rfl
  | y :: r, lk, h => by
    unfold chkL at h
    split at h
    · rename_i e; cases e
    · rename_i e; cases e
      simp only [Bool.and_eq_true] at h
      rw [List.all_cons, chkL_items h.2]; rfl
    · cases h
    · rename_i e; cases e
      rw [List.all_cons, chkL_items h]; rfl
    · cases h
theorem chk_code {k : Nat} : ∀ {l : List Stmt} {ks us : List Nat} {ln : Nat}, chk us ln l ks = true → l.length = ks.length → k ∈ ks → ∃ st ∈ l, enc (bindOf st) = k
  | [], [], _, _, _, _, h => nomatch h
  | [], _ :: _, _, _, _, h, _ => by simp at h
  | _ :: _, [], _, _, _, h, _ => by simp at h
  | st :: l, k' :: ks, us, ln, h, hl, hm => by
    unfold chk at h
    simp only [Bool.and_eq_true] at h
    obtain ⟨⟨⟨⟨h1, h2⟩, h3⟩, h4⟩, h5⟩ := h
    rcases List.mem_cons.mp hm with e | hm
    · exact ⟨st, .head _, by rw [e]; exact (Nat.eq_of_beq_eq_true h2).symm⟩
    · obtain ⟨s, a, b⟩ := chk_code h5 (by simpa using hl) hm
      exact ⟨s, .tail _ a, b⟩
theorem found_of {e : Ec} {w : World} {r : Row} {ks lk us : List Nat} {ln dbg : Nat} {es : List Expr} {ns : List DictEntry} (hd : dbg = enc ("__debug__" : Str)) (hc : chk us ln (r.map (·.1)) ks = true) (hl : r.length = ks.length) (hs : ∀ x ∈ r, stB x.1 = true) (sm : ∀ x ∈ r, small (bindOf x.1) = true)
    (hk : ∀ x ∈ r, e.env.kindOf (bindOf x.1) = some .local) (hL : chkL ks dbg es lk = true) (hns : ∀ en ∈ rEnt w r, en ∈ ns) : ∀ x q, Expr.Name x q ∈ es → Found e ns x := fun x q hx => by
  obtain ⟨h1, h2, h3⟩ := chkL_name hL hx
  obtain ⟨st, hst, e1⟩ := chk_code hc (by simpa using hl) h1
  obtain ⟨y, hy, rfl⟩ := List.mem_map.mp hst
  have := enc_inj (sm y hy) h2 e1
  subst this
  refine ⟨?_, hk y hy, ?_⟩
  · refine beq_eq_false_iff_ne.mpr fun z => h3 ?_
    rw [z, hd]
  · obtain ⟨en, a, b⟩ := ent_of_row (w := w) hy (hs y hy)
    rw [List.find?_isSome]
    exact ⟨en, hns en a, b⟩
theorem Inv.add {us : List Nat} {ln : Nat} {c : CS} (I : Inv us ln c) {objs : List Obj} {b : Str} {hh : Int} {t k : Nat} {v : Value} (hk : k = enc b) : Inv (k :: us) ln ⟨objs, c.ns ++ [⟨hh, .str b t, v⟩], c.pl⟩ := ⟨fun x hx => by
  rcases List.mem_append.mp hx with hx | hx
  · obtain ⟨n, t, a, c⟩ := I.ns x hx
    exact ⟨n, t, a, .tail _ c⟩
  · obtain rfl := List.mem_singleton.mp hx
    exact ⟨b, t, rfl, by rw [hk]; exact .head _⟩, I.pl⟩
theorem rowN_is {e : Ec} : ∀ (r : Row) (n t : Nat), rowOk r n t = true → (∀ x ∈ r, stB x.1 = true) → n + (rObjs e r).length = rowN r n
  | [], n, _, _, _ => rfl
  | (st, n', t') :: r, n, t, h, hs => by
    unfold rowOk at h
    simp only [Bool.and_eq_true] at h
    obtain ⟨⟨h1, h2⟩, h3⟩ := h
    have h1 := Nat.eq_of_beq_eq_true h1
    subst h1
    have := rowN_is (e := e) r (n' + sLen st) _ h3 fun x hx => hs x (.tail _ hx)
    show n' + (sObjs e st n' t' ++ rObjs e r).length = rowN r (n' + sLen st)
    rw [List.length_append, sObjs_length (hs _ (.head _)), ← this]
    dsimp only
    omega
noncomputable def lEs : Stmt → List Expr
  | .Assign _ (.List es _) _ => es
  | _ => []
noncomputable def lQ : Stmt → Pos
  | .Assign _ (.List _ q) _ => q
  | _ => default
noncomputable abbrev lForm (st : Stmt) : Stmt := .Assign [.Name (bindOf st) (endOf st)] (.List (lEs st) (lQ st)) (posOf st)
end M6
namespace M6
noncomputable section
abbrev PP : Program := PySem.Challenge.pw_me0006_07
def pst (i : Nat) : Stmt := (PP.main.body[i]?).getD (.Pass default)
def lawI : Nat := PP.main.body.length - 1
def sBody : Stmt → List Stmt
  | .FunctionDef _ _ b _ _ _ _ _ _ _ => b
  | .ClassDef _ _ _ b _ _ _ _ _ _ _ => b
  | _ => []
def sArgs : Stmt → Arguments
  | .FunctionDef _ a _ _ _ _ _ _ _ _ => a
  | _ => default
def sScope : Stmt → Scope
  | .FunctionDef _ _ _ _ _ _ s _ _ _ => s
  | .ClassDef _ _ _ _ _ _ s _ _ _ _ => s
  | _ => default
def sName : Stmt → Str
  | .FunctionDef n _ _ _ _ _ _ _ _ _ => n
  | _ => default
def cb : List Stmt := sBody (pst 2)
def cst (i : Nat) : Stmt := (cb[i]?).getD (.Pass default)
abbrev S (x : String) : Str := Str.ofString x
abbrev annV : Option Value := some (.ref 6)
def menv : Env := { scope := PP.main.scope, locals := mainNs, globals := mainNs, cells := [], code := .ref 13, frame := some 14 }
def cenv : Env := { scope := sScope (pst 2), locals := 24, globals := mainNs, cells := [], qual := S "MPU.", func := none, code := .ref 27, frame := some 28, builtins := 0 }
def mcode : Code := .body (behindTheImports PP) menv
abbrev qP : Pos := default
section
variable (w : World)
abbrev h (x : Str) : Int := hsh w x
def o11 : Obj := ⟨(.type "tuple"), none, .seq #[] 0, #[]⟩
def o12 : Obj := ⟨.none, none, .fields #[(.int 1 0), (.int 0 0), (.ref 20), (.int 5 0), (.int 0 0), (.ref 27)], #[]⟩
def o13 : Obj := ⟨(.type "code"), none, .fields #[(.str (S "<module>") 182), (.str (S "<module>") 183), (.str (S "/claim/cut.py") 184), (.int 1 0), (.int 0 0), (.int 0 0), (.int 0 0), (.int 0 0), (.ref 11), (.bool false), (.int 181 0), (.ref 12), .none, .none, .none, .none, (.int 185 0), (.int 1 0), (.str (S "/claim/cut.py") 186)], #[]⟩
def o14 : Obj := ⟨(.type "frame"), none, .plain, #[some (.ref 13), some (.ref 3), some (.ref 3), none, some (.str (S "__main__") 164), none, some (.ref 0)]⟩
def o15 : Obj := ⟨(.type "tuple"), none, .seq #[] 0, #[]⟩
def o16 : Obj := ⟨.none, none, .fields #[], #[]⟩
def o17 : Obj := ⟨(.type "tuple"), none, .seq #[(.str (S "k") 190)] 0, #[]⟩
def o18 : Obj := ⟨(.type "tuple"), none, .seq #[] 0, #[]⟩
def o19 : Obj := ⟨.none, none, .func { name := (S "_wall"), qualname := (S "_wall"), params := sArgs (pst 0), body := .stmts (sBody (pst 0)), scope := sScope (pst 0), globals := 0, closure := [], defaults := .none, kwdefaults := .none, doc := .none, pyModule := .none, annotations := none, code := .none, closureTuple := .none, builtins := 0 }, #[]⟩
def o20 : Obj := ⟨(.type "code"), none, .fields #[(.str (S "_wall") 187), (.str (S "_wall") 188), (.str (S "/claim/cut.py") 189), (.int 1 0), (.int 1 0), (.int 0 0), (.int 0 0), (.int 3 0), (.ref 15), (.bool true), (.int 181 0), (.ref 16), .none, (.ref 17), (.ref 18), (.ref 19), (.int 191 0), (.int 1 0), (.str (S "/claim/cut.py") 192)], #[]⟩
def o21 : Obj := ⟨(.type "function"), none, .func { name := (S "_wall"), qualname := (S "_wall"), params := sArgs (pst 0), body := .stmts (sBody (pst 0)), scope := sScope (pst 0), globals := 3, closure := [], defaults := .none, kwdefaults := .none, doc := .none, pyModule := (.str (S "__main__") 164), annotations := none, code := (.ref 20), closureTuple := .none, builtins := 0 }, #[]⟩
def o3a : Obj := ⟨(.type "dict"), none, .dict #[⟨h w (S "__name__"), .str (S "__name__") 165, (.str (S "py65.devices.mpu6502") 194)⟩, ⟨h w (S "__doc__"), .str (S "__doc__") 166, .none⟩, ⟨h w (S "__package__"), .str (S "__package__") 167, .none⟩, ⟨h w (S "__loader__"), .str (S "__loader__") 168, (.builtin "__main__.__loader__#opaque")⟩, ⟨h w (S "__spec__"), .str (S "__spec__") 169, .none⟩, ⟨h w (S "__annotations__"), .str (S "__annotations__") 170, (.ref 6)⟩, ⟨h w (S "__builtins__"), .str (S "__builtins__") 171, (.ref 4)⟩, ⟨h w (S "__file__"), .str (S "__file__") 173, (.str (S "/claim/cut.py") 172)⟩, ⟨h w (S "__cached__"), .str (S "__cached__") 174, .none⟩, ⟨h w (S "_wall"), .str (S "_wall") 193, (.ref 21)⟩] 10, #[]⟩
def o22 : Obj := ⟨(.type "tuple"), none, .seq #[] 0, #[]⟩
def o23 : Obj := ⟨(.type "builtin_function_or_method"), none, .fields #[(.builtin "type.__prepare__"), (.type "type")], #[]⟩
def o25 : Obj := ⟨(.type "tuple"), none, .seq #[] 0, #[]⟩
def o27 : Obj := ⟨(.type "code"), none, .fields #[(.str (S "MPU") 198), (.str (S "MPU") 199), (.str (S "/claim/cut.py") 200), (.int 5 0), (.int 0 0), (.int 0 0), (.int 0 0), (.int 0 0), (.ref 25), (.bool false), (.int 181 0), (.ref 26), .none, .none, .none, .none, (.int 201 0), (.int 5 0), (.str (S "/claim/cut.py") 202)], #[]⟩
def o28 : Obj := ⟨(.type "frame"), none, .plain, #[some (.ref 27), some (.ref 3), some (.ref 24), none, some (.str (S "py65.devices.mpu6502") 194), none, some (.ref 0)]⟩
def L0 : List Obj := [boot_o_0 w.params, boot_o_1 w.params, boot_o_2 w.params, boot_o_3 w.params, boot_o_4 w.params, boot_o_5 w.params, boot_o_6 w.params, boot_o_7 w.params, boot_o_8 w.params, boot_o_9 w.params, boot_o_10 w.params]
def A109 : List Obj := [boot_o_0 w.params, boot_o_1 w.params, boot_o_2 w.params, o3a w, boot_o_4 w.params, boot_o_5 w.params, boot_o_6 w.params, boot_o_7 w.params, boot_o_8 w.params, boot_o_9 w.params, boot_o_10 w.params, o11, o12, o13, o14, o15, o16, o17, o18, o19, o20, o21, o22, o23]
def ns0 : List DictEntry := [⟨h w (S "__module__"), .str (S "__module__") 203, (.str (S "py65.devices.mpu6502") 194)⟩, ⟨h w (S "__qualname__"), .str (S "__qualname__") 205, (.str (S "MPU") 204)⟩, ⟨h w (S "__firstlineno__"), .str (S "__firstlineno__") 207, (.int 5 206)⟩]
def bs : Bs := ⟨A109 w, o25, o27, o28, (boot_heap w.params).life⟩
def S0 (os : OsState) : SharedT := ⟨btOf 4 (L0 w), 11, (boot_heap w.params).life, Array.mk [], boot_drawn, boot_toks, os⟩
def L109 : List Obj := A109 w ++ (nsObj (ns0 w) :: o25 :: plObj [] :: o27 :: o28 :: [])
def S109 (os : OsState) : SharedT := ⟨btOf 5 (L109 w), 29, (boot_heap w.params).life, Array.mk [], boot_drawn, 208, os⟩
abbrev p109 : Pos := ⟨5, 0, 1036, 786⟩
/-- The way into the class's block, by the library's quick twins. -/
def go109 (os : OsState) : Option (SharedT × Thread) := PySem.W.Fast.tw10295753902157049106 PySem.W.Fast.tw14364793385576792824 PP w 11 annV 0 109 (S0 w os) (topStub PP)
def stk (os : OsState) : List Frame := match go109 w os with
  | some (_, t) => t.stack
  | none => []
def fr1 (os : OsState) : Frame := match stk w os with
  | f :: _ => f
  | [] => topFrame qP
end
theorem go109_is (w : World) (os : OsState) : go109 w os = some (S109 w os, ⟨PySem.W.Fast.tw11892475500146522536 PySem.W.Fast.tw14364793385576792824 (.body cb cenv), .body cb cenv, p109, fr1 w os :: (stk w os).tail⟩) := by kernel_rfl
end
end M6
namespace VE
open M6
noncomputable abbrev CA : Addr := 1428
noncomputable def tb0 : List PV := [.any, .any, .any, .any, .any, .any, .any, .any, .fn 400, .any, .any, .any, .any, .any, .any, .any, .any, .any, .any, .any, .any, .any, .any, .any, .fn 463, .any, .any, .any, .any, .any, .any, .any, .any, .any, .any, .any, .any, .any, .any, .any, .fn 526, .any, .fn 540, .any, .any, .any, .any, .any, .any, .any, .any, .any, .any, .any, .any, .any, .fn 596, .any, .any, .any, .any, .any, .any, .any, .fn 624, .any, .any, .any, .any, .any, .any, .any, .fn 652, .any, .any, .any, .any, .any, .any, .any, .any, .any, .any, .any, .any, .any, .any, .any, .fn 722, .any, .any, .any, .any, .any, .any, .any, .any, .any, .any, .any, .any, .any, .any, .any, .fn 778, .fn 785, .any, .any, .any, .any, .any, .any, .any, .any, .any, .any, .any, .any, .any, .any, .fn 848, .any, .any, .any, .any, .any, .any, .any, .any, .any, .any, .any, .any, .fn 890, .any, .any, .any, .any, .any, .any, .any, .any, .any, .any, .any, .any, .any, .any, .any, .any, .any, .any, .any, .any, .any, .any, .any, .any, .any, .any, .any, .any, .any, .any, .any, .fn 1030, .any, .any, .any, .fn 1051, .any, .any, .any, .any, .any, .any, .any, .any, .any, .any, .any, .any, .any, .any, .any, .any, .any, .any, .any, .any, .any, .any, .any, .any, .any, .any, .any, .any, .any, .any, .any, .any, .any, .any, .any, .any, .any, .any, .any, .any, .any, .any, .any, .any, .any, .any, .any, .any, .any, .any, .any, .any, .any, .any, .any, .any, .any, .any, .any, .any, .fn 1324, .any, .any, .any, .any, .any, .any, .any, .any, .any, .any, .any, .any, .any, .any, .any, .any, .any, .any, .any, .any, .any, .any, .any, .any, .any]
noncomputable def tb1 : List PV := [.any, .any, .any, .any, .any, .any, .any, .any, .int 3, .any, .any, .any, .any, .any, .any, .any, .any, .any, .any, .any, .any, .any, .any, .any, .int 2, .any, .any, .any, .any, .any, .any, .any, .any, .any, .any, .any, .any, .any, .any, .any, .int 4, .any, .int 2, .any, .any, .any, .any, .any, .any, .any, .any, .any, .any, .any, .any, .any, .int 2, .any, .any, .any, .any, .any, .any, .any, .int 6, .any, .any, .any, .any, .any, .any, .any, .int 3, .any, .any, .any, .any, .any, .any, .any, .any, .any, .any, .any, .any, .any, .any, .any, .int 2, .any, .any, .any, .any, .any, .any, .any, .any, .any, .any, .any, .any, .any, .any, .any, .int 4, .int 2, .any, .any, .any, .any, .any, .any, .any, .any, .any, .any, .any, .any, .any, .any, .int 2, .any, .any, .any, .any, .any, .any, .any, .any, .any, .any, .any, .any, .int 3, .any, .any, .any, .any, .any, .any, .any, .any, .any, .any, .any, .any, .any, .any, .any, .any, .any, .any, .any, .any, .any, .any, .any, .any, .any, .any, .any, .any, .any, .any, .any, .int 3, .any, .any, .any, .int 2, .any, .any, .any, .any, .any, .any, .any, .any, .any, .any, .any, .any, .any, .any, .any, .any, .any, .any, .any, .any, .any, .any, .any, .any, .any, .any, .any, .any, .any, .any, .any, .any, .any, .any, .any, .any, .any, .any, .any, .any, .any, .any, .any, .any, .any, .any, .any, .any, .any, .any, .any, .any, .any, .any, .any, .any, .any, .any, .any, .any, .int 5, .any, .any, .any, .any, .any, .any, .any, .any, .any, .any, .any, .any, .any, .any, .any, .any, .any, .any, .any, .any, .any, .any, .any, .any, .any]
noncomputable def tb2 : List PV := [.any, .any, .any, .any, .any, .any, .any, .any, .int 0, .any, .any, .any, .any, .any, .any, .any, .any, .any, .any, .any, .any, .any, .any, .any, .int 0, .any, .any, .any, .any, .any, .any, .any, .any, .any, .any, .any, .any, .any, .any, .any, .int 0, .any, .int 0, .any, .any, .any, .any, .any, .any, .any, .any, .any, .any, .any, .any, .any, .int 0, .any, .any, .any, .any, .any, .any, .any, .int 0, .any, .any, .any, .any, .any, .any, .any, .int 0, .any, .any, .any, .any, .any, .any, .any, .any, .any, .any, .any, .any, .any, .any, .any, .int 0, .any, .any, .any, .any, .any, .any, .any, .any, .any, .any, .any, .any, .any, .any, .any, .int 0, .int 0, .any, .any, .any, .any, .any, .any, .any, .any, .any, .any, .any, .any, .any, .any, .int 0, .any, .any, .any, .any, .any, .any, .any, .any, .any, .any, .any, .any, .int 0, .any, .any, .any, .any, .any, .any, .any, .any, .any, .any, .any, .any, .any, .any, .any, .any, .any, .any, .any, .any, .any, .any, .any, .any, .any, .any, .any, .any, .any, .any, .any, .int 0, .any, .any, .any, .int 0, .any, .any, .any, .any, .any, .any, .any, .any, .any, .any, .any, .any, .any, .any, .any, .any, .any, .any, .any, .any, .any, .any, .any, .any, .any, .any, .any, .any, .any, .any, .any, .any, .any, .any, .any, .any, .any, .any, .any, .any, .any, .any, .any, .any, .any, .any, .any, .any, .any, .any, .any, .any, .any, .any, .any, .any, .any, .any, .any, .any, .int 0, .any, .any, .any, .any, .any, .any, .any, .any, .any, .any, .any, .any, .any, .any, .any, .any, .any, .any, .any, .any, .any, .any, .any, .any, .any]
noncomputable def Z7 : Stc := ⟨119, [1, 2, 3, 4, 5, 6, 7, 8, 9, 10, 11, 12, 13, 14, 15, 16], [(17, 65532), (18, 65530), (19, 65534), (20, 128), (21, 64), (22, 32), (23, 16), (24, 8), (25, 4), (26, 2), (27, 1), (28, 8), (29, 16)], [(33, 36), (34, 43), (35, 50), (36, 57), (37, 71), (38, 78), (39, 92), (40, 106), (41, 99), (44, 169), (45, 176), (46, 183), (47, 190), (48, 197), (51, 239), (52, 246), (53, 295), (55, 337), (56, 344), (58, 652), (61, 1030), (63, 1324), (64, 722), (65, 848), (68, 778), (70, 624), (81, 281), (82, 267), (83, 463), (84, 785), (85, 890), (86, 400), (87, 526), (88, 1051), (89, 596), (90, 540)], [(102, 1439)], [135, 123], [(30, tb0), (31, tb1), (32, tb2)]⟩
noncomputable def w_uinit : WX := (wSeq (wAsA Z7 1 (wName 0) wStr) (wSeq (wAsA Z7 2 (wName 0) (wBin .Sub (wBin .LShift (wInt 1) (wAttr Z7 28 (wName 0))) (wInt 1))) (wSeq (wAsA Z7 3 (wName 0) (wBin .Sub (wBin .LShift (wInt 1) (wAttr Z7 29 (wName 0))) (wInt 1))) (wSeq (wAsA Z7 4 (wName 0) (wBin .LShift (wAttr Z7 2 (wName 0)) (wAttr Z7 28 (wName 0)))) (wSeq (wAsA Z7 5 (wName 0) (wBin .LShift (wInt 1) (wAttr Z7 28 (wName 0)))) (wSeq (wAsA Z7 6 (wName 0) (wInt 0)) (wSeq (wAsA Z7 7 (wName 0) (wBool false)) (wSeq (wAsA Z7 8 (wName 0) (wInt 0)) (wSeq (wIf (wCmpT .Is (wName 9) wNone) wDead wNil) (wSeq (wAsA Z7 9 (wName 0) (wName 9)) (wSeq (wAsA Z7 10 (wName 0) (wName 11)) (wSeq (wExpr (wFrz (wMeth Z7 35 (wName 0) wA0))) wNil))))))))))))
theorem s_uinit {G : Gl nm Z7} : SB G (sScope (cst 15)) (sBody (cst 15)) w_uinit := (SB_cons (SX_asA (n := 1) SE_str (SE_name (n := 0) rfl) rfl (fun _ => rfl)) (SB_cons (SX_asA (n := 2) (SE_bin (SE_bin SE_int (SE_attr (n := 28) (SE_name (n := 0) rfl) rfl (fun _ => rfl))) SE_int) (SE_name (n := 0) rfl) rfl (fun _ => rfl)) (SB_cons (SX_asA (n := 3) (SE_bin (SE_bin SE_int (SE_attr (n := 29) (SE_name (n := 0) rfl) rfl (fun _ => rfl))) SE_int) (SE_name (n := 0) rfl) rfl (fun _ => rfl)) (SB_cons (SX_asA (n := 4) (SE_bin (SE_attr (n := 2) (SE_name (n := 0) rfl) rfl (fun _ => rfl)) (SE_attr (n := 28) (SE_name (n := 0) rfl) rfl (fun _ => rfl))) (SE_name (n := 0) rfl) rfl (fun _ => rfl)) (SB_cons (SX_asA (n := 5) (SE_bin SE_int (SE_attr (n := 28) (SE_name (n := 0) rfl) rfl (fun _ => rfl))) (SE_name (n := 0) rfl) rfl (fun _ => rfl)) (SB_cons (SX_asA (n := 6) SE_int (SE_name (n := 0) rfl) rfl (fun _ => rfl)) (SB_cons (SX_asA (n := 7) SE_bool (SE_name (n := 0) rfl) rfl (fun _ => rfl)) (SB_cons (SX_asA (n := 8) SE_int (SE_name (n := 0) rfl) rfl (fun _ => rfl)) (SB_cons (SX_if (ST_cmp (SE_name (n := 9) rfl) SE_none rfl) SB_dead SB_nil) (SB_cons (SX_asA (n := 9) (SE_name (n := 9) rfl) (SE_name (n := 0) rfl) rfl (fun _ => rfl)) (SB_cons (SX_asA (n := 10) (SE_name (n := 11) rfl) (SE_name (n := 0) rfl) rfl (fun _ => rfl)) (SB_cons (SX_expr (SE_frz (S0_meth (n := 35) (SE_name (n := 0) rfl) SA_nil rfl (fun _ => ⟨_, rfl⟩))) (fun _ => rfl)) SB_nil))))))))))))
noncomputable def w_step : WX := (wSeq (wAsg 74 (wSub (wAttr Z7 9 (wName 0)) (wAttr Z7 11 (wName 0)))) (wSeq (wAsA Z7 11 (wName 0) (wBin .BitAnd (wBin .Add (wAttr Z7 11 (wName 0)) (wInt 1)) (wAttr Z7 3 (wName 0)))) (wSeq (wAsA Z7 6 (wName 0) (wInt 0)) (wSeq (wAsA Z7 7 (wName 0) (wSub (wAttr Z7 32 (wName 0)) (wName 74))) (wSeq (wExpr (wFrz (wFcall Z7 (wSub (wAttr Z7 30 (wName 0)) (wName 74)) (wAc (wName 0) wA0)))) (wSeq (wAuA Z7 11 .BitAnd (wName 0) (wAttr Z7 3 (wName 0))) (wSeq (wAuA Z7 8 .Add (wName 0) (wBin .Add (wSub (wAttr Z7 31 (wName 0)) (wName 74)) (wAttr Z7 6 (wName 0)))) (wSeq (wRet (wName 0)) wNil))))))))
theorem s_step {G : Gl nm Z7} : SB G (sScope (cst 16)) (sBody (cst 16)) w_step := (SB_cons (SX_asg (n := 74) (SE_sub (SE_attr (n := 9) (SE_name (n := 0) rfl) rfl (fun _ => rfl)) (SE_attr (n := 11) (SE_name (n := 0) rfl) rfl (fun _ => rfl)) (fun _ _ => rfl)) rfl (.inl (by kernel_rfl)) (fun _ => rfl)) (SB_cons (SX_asA (n := 11) (SE_bin (SE_bin (SE_attr (n := 11) (SE_name (n := 0) rfl) rfl (fun _ => rfl)) SE_int) (SE_attr (n := 3) (SE_name (n := 0) rfl) rfl (fun _ => rfl))) (SE_name (n := 0) rfl) rfl (fun _ => rfl)) (SB_cons (SX_asA (n := 6) SE_int (SE_name (n := 0) rfl) rfl (fun _ => rfl)) (SB_cons (SX_asA (n := 7) (SE_sub (SE_attr (n := 32) (SE_name (n := 0) rfl) rfl (fun _ => rfl)) (SE_name (n := 74) rfl) (fun _ _ => rfl)) (SE_name (n := 0) rfl) rfl (fun _ => rfl)) (SB_cons (SX_expr (SE_frz (S0_fcall (SE_sub (SE_attr (n := 30) (SE_name (n := 0) rfl) rfl (fun _ => rfl)) (SE_name (n := 74) rfl) (fun _ _ => rfl)) (SA_cons (SE_name (n := 0) rfl) SA_nil (fun _ => rfl)) (fun _ => rfl))) (fun _ => rfl)) (SB_cons (SX_auA (n := 11) (SE_name (n := 0) rfl) (SE_attr (n := 3) (SE_name (n := 0) rfl) rfl (fun _ => rfl)) rfl) (SB_cons (SX_auA (n := 8) (SE_name (n := 0) rfl) (SE_bin (SE_sub (SE_attr (n := 31) (SE_name (n := 0) rfl) rfl (fun _ => rfl)) (SE_name (n := 74) rfl) (fun _ _ => rfl)) (SE_attr (n := 6) (SE_name (n := 0) rfl) rfl (fun _ => rfl))) rfl) (SB_cons (SX_ret (SE_name (n := 0) rfl)) SB_nil))))))))
noncomputable def w_reset : WX := (wSeq (wAsA Z7 11 (wName 0) (wAttr Z7 10 (wName 0))) (wSeq (wIf (wCmpT .Is (wAttr Z7 11 (wName 0)) wNone) wDead wNil) (wSeq (wAsA Z7 12 (wName 0) (wAttr Z7 2 (wName 0))) (wSeq (wAsA Z7 13 (wName 0) (wInt 0)) (wSeq (wAsA Z7 14 (wName 0) (wInt 0)) (wSeq (wAsA Z7 15 (wName 0) (wInt 0)) (wSeq (wAsA Z7 16 (wName 0) (wBin .BitOr (wAttr Z7 23 (wName 0)) (wAttr Z7 22 (wName 0)))) (wSeq (wAsA Z7 8 (wName 0) (wInt 0)) wNil))))))))
theorem s_reset {G : Gl nm Z7} : SB G (sScope (cst 17)) (sBody (cst 17)) w_reset := (SB_cons (SX_asA (n := 11) (SE_attr (n := 10) (SE_name (n := 0) rfl) rfl (fun _ => rfl)) (SE_name (n := 0) rfl) rfl (fun _ => rfl)) (SB_cons (SX_if (ST_cmp (SE_attr (n := 11) (SE_name (n := 0) rfl) rfl (fun _ => rfl)) SE_none rfl) SB_dead SB_nil) (SB_cons (SX_asA (n := 12) (SE_attr (n := 2) (SE_name (n := 0) rfl) rfl (fun _ => rfl)) (SE_name (n := 0) rfl) rfl (fun _ => rfl)) (SB_cons (SX_asA (n := 13) SE_int (SE_name (n := 0) rfl) rfl (fun _ => rfl)) (SB_cons (SX_asA (n := 14) SE_int (SE_name (n := 0) rfl) rfl (fun _ => rfl)) (SB_cons (SX_asA (n := 15) SE_int (SE_name (n := 0) rfl) rfl (fun _ => rfl)) (SB_cons (SX_asA (n := 16) (SE_bin (SE_attr (n := 23) (SE_name (n := 0) rfl) rfl (fun _ => rfl)) (SE_attr (n := 22) (SE_name (n := 0) rfl) rfl (fun _ => rfl))) (SE_name (n := 0) rfl) rfl (fun _ => rfl)) (SB_cons (SX_asA (n := 8) SE_int (SE_name (n := 0) rfl) rfl (fun _ => rfl)) SB_nil))))))))
noncomputable def w_irq : WX := (wSeq (wIf (wTru (wBin .BitAnd (wAttr Z7 16 (wName 0)) (wAttr Z7 25 (wName 0)))) (wSeq wRet0 wNil) wNil) (wSeq (wExpr (wFrz (wMeth Z7 46 (wName 0) (wAc (wAttr Z7 11 (wName 0)) wA0)))) (wSeq (wAuA Z7 16 .BitAnd (wName 0) (wInv (wAttr Z7 23 (wName 0)))) (wSeq (wExpr (wFrz (wMeth Z7 44 (wName 0) (wAc (wBin .BitOr (wAttr Z7 16 (wName 0)) (wAttr Z7 22 (wName 0))) wA0)))) (wSeq (wAuA Z7 16 .BitOr (wName 0) (wAttr Z7 25 (wName 0))) (wSeq (wAsA Z7 11 (wName 0) (wFrz (wMeth Z7 38 (wName 0) (wAc (wAttr Z7 19 (wName 0)) wA0)))) (wSeq (wAuA Z7 8 .Add (wName 0) (wInt 7)) wNil)))))))
theorem s_irq {G : Gl nm Z7} : SB G (sScope (cst 18)) (sBody (cst 18)) w_irq := (SB_cons (SX_if (ST_of (SE_bin (SE_attr (n := 16) (SE_name (n := 0) rfl) rfl (fun _ => rfl)) (SE_attr (n := 25) (SE_name (n := 0) rfl) rfl (fun _ => rfl))) (fun _ => rfl)) (SB_cons SX_ret0 SB_nil) SB_nil) (SB_cons (SX_expr (SE_frz (S0_meth (n := 46) (SE_name (n := 0) rfl) (SA_cons (SE_attr (n := 11) (SE_name (n := 0) rfl) rfl (fun _ => rfl)) SA_nil (fun _ => rfl)) rfl (fun _ => ⟨_, rfl⟩))) (fun _ => rfl)) (SB_cons (SX_auA (n := 16) (SE_name (n := 0) rfl) (SE_inv (SE_attr (n := 23) (SE_name (n := 0) rfl) rfl (fun _ => rfl))) rfl) (SB_cons (SX_expr (SE_frz (S0_meth (n := 44) (SE_name (n := 0) rfl) (SA_cons (SE_bin (SE_attr (n := 16) (SE_name (n := 0) rfl) rfl (fun _ => rfl)) (SE_attr (n := 22) (SE_name (n := 0) rfl) rfl (fun _ => rfl))) SA_nil (fun _ => rfl)) rfl (fun _ => ⟨_, rfl⟩))) (fun _ => rfl)) (SB_cons (SX_auA (n := 16) (SE_name (n := 0) rfl) (SE_attr (n := 25) (SE_name (n := 0) rfl) rfl (fun _ => rfl)) rfl) (SB_cons (SX_asA (n := 11) (SE_frz (S0_meth (n := 38) (SE_name (n := 0) rfl) (SA_cons (SE_attr (n := 19) (SE_name (n := 0) rfl) rfl (fun _ => rfl)) SA_nil (fun _ => rfl)) rfl (fun _ => ⟨_, rfl⟩))) (SE_name (n := 0) rfl) rfl (fun _ => rfl)) (SB_cons (SX_auA (n := 8) (SE_name (n := 0) rfl) SE_int rfl) SB_nil)))))))
noncomputable def w_ByteAt : WX := (wSeq (wRet (wSub (wAttr Z7 9 (wName 0)) (wName 75))) wNil)
theorem s_ByteAt {G : Gl nm Z7} : SB G (sScope (cst 20)) (sBody (cst 20)) w_ByteAt := (SB_cons (SX_ret (SE_sub (SE_attr (n := 9) (SE_name (n := 0) rfl) rfl (fun _ => rfl)) (SE_name (n := 75) rfl) (fun _ _ => rfl))) SB_nil)
noncomputable def w_WordAt : WX := (wSeq (wRet (wBin .Add (wFrz (wMeth Z7 37 (wName 0) (wAc (wName 75) wA0))) (wBin .LShift (wFrz (wMeth Z7 37 (wName 0) (wAc (wBin .Add (wName 75) (wInt 1)) wA0))) (wAttr Z7 28 (wName 0))))) wNil)
theorem s_WordAt {G : Gl nm Z7} : SB G (sScope (cst 21)) (sBody (cst 21)) w_WordAt := (SB_cons (SX_ret (SE_bin (SE_frz (S0_meth (n := 37) (SE_name (n := 0) rfl) (SA_cons (SE_name (n := 75) rfl) SA_nil (fun _ => rfl)) rfl (fun _ => ⟨_, rfl⟩))) (SE_bin (SE_frz (S0_meth (n := 37) (SE_name (n := 0) rfl) (SA_cons (SE_bin (SE_name (n := 75) rfl) SE_int) SA_nil (fun _ => rfl)) rfl (fun _ => ⟨_, rfl⟩))) (SE_attr (n := 28) (SE_name (n := 0) rfl) rfl (fun _ => rfl))))) SB_nil)
noncomputable def w_ProgramCounter : WX := (wSeq (wRet (wAttr Z7 11 (wName 0))) wNil)
theorem s_ProgramCounter {G : Gl nm Z7} : SB G (sScope (cst 23)) (sBody (cst 23)) w_ProgramCounter := (SB_cons (SX_ret (SE_attr (n := 11) (SE_name (n := 0) rfl) rfl (fun _ => rfl))) SB_nil)
noncomputable def w_ImmediateByte : WX := (wSeq (wRet (wFrz (wMeth Z7 37 (wName 0) (wAc (wAttr Z7 11 (wName 0)) wA0)))) wNil)
theorem s_ImmediateByte {G : Gl nm Z7} : SB G (sScope (cst 24)) (sBody (cst 24)) w_ImmediateByte := (SB_cons (SX_ret (SE_frz (S0_meth (n := 37) (SE_name (n := 0) rfl) (SA_cons (SE_attr (n := 11) (SE_name (n := 0) rfl) rfl (fun _ => rfl)) SA_nil (fun _ => rfl)) rfl (fun _ => ⟨_, rfl⟩)))) SB_nil)
noncomputable def w_ZeroPageAddr : WX := (wSeq (wRet (wFrz (wMeth Z7 37 (wName 0) (wAc (wAttr Z7 11 (wName 0)) wA0)))) wNil)
theorem s_ZeroPageAddr {G : Gl nm Z7} : SB G (sScope (cst 25)) (sBody (cst 25)) w_ZeroPageAddr := (SB_cons (SX_ret (SE_frz (S0_meth (n := 37) (SE_name (n := 0) rfl) (SA_cons (SE_attr (n := 11) (SE_name (n := 0) rfl) rfl (fun _ => rfl)) SA_nil (fun _ => rfl)) rfl (fun _ => ⟨_, rfl⟩)))) SB_nil)
noncomputable def w_stPush : WX := (wSeq (wAsS (wAttr Z7 9 (wName 0)) (wBin .Add (wAttr Z7 12 (wName 0)) (wAttr Z7 5 (wName 0))) (wBin .BitAnd (wName 78) (wAttr Z7 2 (wName 0)))) (wSeq (wAuA Z7 12 .Sub (wName 0) (wInt 1)) (wSeq (wAuA Z7 12 .BitAnd (wName 0) (wAttr Z7 2 (wName 0))) wNil)))
theorem s_stPush {G : Gl nm Z7} : SB G (sScope (cst 34)) (sBody (cst 34)) w_stPush := (SB_cons (SX_asS (SE_bin (SE_name (n := 78) rfl) (SE_attr (n := 2) (SE_name (n := 0) rfl) rfl (fun _ => rfl))) (SE_attr (n := 9) (SE_name (n := 0) rfl) rfl (fun _ => rfl)) (SE_bin (SE_attr (n := 12) (SE_name (n := 0) rfl) rfl (fun _ => rfl)) (SE_attr (n := 5) (SE_name (n := 0) rfl) rfl (fun _ => rfl))) (fun _ => rfl)) (SB_cons (SX_auA (n := 12) (SE_name (n := 0) rfl) SE_int rfl) (SB_cons (SX_auA (n := 12) (SE_name (n := 0) rfl) (SE_attr (n := 2) (SE_name (n := 0) rfl) rfl (fun _ => rfl)) rfl) SB_nil)))
noncomputable def w_stPop : WX := (wSeq (wAuA Z7 12 .Add (wName 0) (wInt 1)) (wSeq (wAuA Z7 12 .BitAnd (wName 0) (wAttr Z7 2 (wName 0))) (wSeq (wRet (wFrz (wMeth Z7 37 (wName 0) (wAc (wBin .Add (wAttr Z7 12 (wName 0)) (wAttr Z7 5 (wName 0))) wA0)))) wNil)))
theorem s_stPop {G : Gl nm Z7} : SB G (sScope (cst 35)) (sBody (cst 35)) w_stPop := (SB_cons (SX_auA (n := 12) (SE_name (n := 0) rfl) SE_int rfl) (SB_cons (SX_auA (n := 12) (SE_name (n := 0) rfl) (SE_attr (n := 2) (SE_name (n := 0) rfl) rfl (fun _ => rfl)) rfl) (SB_cons (SX_ret (SE_frz (S0_meth (n := 37) (SE_name (n := 0) rfl) (SA_cons (SE_bin (SE_attr (n := 12) (SE_name (n := 0) rfl) rfl (fun _ => rfl)) (SE_attr (n := 5) (SE_name (n := 0) rfl) rfl (fun _ => rfl))) SA_nil (fun _ => rfl)) rfl (fun _ => ⟨_, rfl⟩)))) SB_nil)))
noncomputable def w_stPushWord : WX := (wSeq (wExpr (wFrz (wMeth Z7 44 (wName 0) (wAc (wBin .BitAnd (wBin .RShift (wName 78) (wAttr Z7 28 (wName 0))) (wAttr Z7 2 (wName 0))) wA0)))) (wSeq (wExpr (wFrz (wMeth Z7 44 (wName 0) (wAc (wBin .BitAnd (wName 78) (wAttr Z7 2 (wName 0))) wA0)))) wNil))
theorem s_stPushWord {G : Gl nm Z7} : SB G (sScope (cst 36)) (sBody (cst 36)) w_stPushWord := (SB_cons (SX_expr (SE_frz (S0_meth (n := 44) (SE_name (n := 0) rfl) (SA_cons (SE_bin (SE_bin (SE_name (n := 78) rfl) (SE_attr (n := 28) (SE_name (n := 0) rfl) rfl (fun _ => rfl))) (SE_attr (n := 2) (SE_name (n := 0) rfl) rfl (fun _ => rfl))) SA_nil (fun _ => rfl)) rfl (fun _ => ⟨_, rfl⟩))) (fun _ => rfl)) (SB_cons (SX_expr (SE_frz (S0_meth (n := 44) (SE_name (n := 0) rfl) (SA_cons (SE_bin (SE_name (n := 78) rfl) (SE_attr (n := 2) (SE_name (n := 0) rfl) rfl (fun _ => rfl))) SA_nil (fun _ => rfl)) rfl (fun _ => ⟨_, rfl⟩))) (fun _ => rfl)) SB_nil))
noncomputable def w_stPopWord : WX := (wSeq (wAsg 78 (wFrz (wMeth Z7 45 (wName 0) wA0))) (wSeq (wAuN 78 .Add (wBin .LShift (wFrz (wMeth Z7 45 (wName 0) wA0)) (wAttr Z7 28 (wName 0)))) (wSeq (wRet (wName 78)) wNil)))
theorem s_stPopWord {G : Gl nm Z7} : SB G (sScope (cst 37)) (sBody (cst 37)) w_stPopWord := (SB_cons (SX_asg (n := 78) (SE_frz (S0_meth (n := 45) (SE_name (n := 0) rfl) SA_nil rfl (fun _ => ⟨_, rfl⟩))) rfl (.inl (by kernel_rfl)) (fun _ => rfl)) (SB_cons (SX_auN (n := 78) (SE_bin (SE_frz (S0_meth (n := 45) (SE_name (n := 0) rfl) SA_nil rfl (fun _ => ⟨_, rfl⟩))) (SE_attr (n := 28) (SE_name (n := 0) rfl) rfl (fun _ => rfl))) rfl (.inl (by kernel_rfl))) (SB_cons (SX_ret (SE_name (n := 78) rfl)) SB_nil)))
noncomputable def w_FlagsNZ : WX := (wSeq (wAuA Z7 16 .BitAnd (wName 0) (wInv (wBin .BitOr (wAttr Z7 26 (wName 0)) (wAttr Z7 20 (wName 0))))) (wSeq (wIf (wCmpT .Eq (wName 79) (wInt 0)) (wSeq (wAuA Z7 16 .BitOr (wName 0) (wAttr Z7 26 (wName 0))) wNil) (wSeq (wAuA Z7 16 .BitOr (wName 0) (wBin .BitAnd (wName 79) (wAttr Z7 20 (wName 0)))) wNil)) wNil))
theorem s_FlagsNZ {G : Gl nm Z7} : SB G (sScope (cst 38)) (sBody (cst 38)) w_FlagsNZ := (SB_cons (SX_auA (n := 16) (SE_name (n := 0) rfl) (SE_inv (SE_bin (SE_attr (n := 26) (SE_name (n := 0) rfl) rfl (fun _ => rfl)) (SE_attr (n := 20) (SE_name (n := 0) rfl) rfl (fun _ => rfl)))) rfl) (SB_cons (SX_if (ST_cmp (SE_name (n := 79) rfl) SE_int rfl) (SB_cons (SX_auA (n := 16) (SE_name (n := 0) rfl) (SE_attr (n := 26) (SE_name (n := 0) rfl) rfl (fun _ => rfl)) rfl) SB_nil) (SB_cons (SX_auA (n := 16) (SE_name (n := 0) rfl) (SE_bin (SE_name (n := 79) rfl) (SE_attr (n := 20) (SE_name (n := 0) rfl) rfl (fun _ => rfl))) rfl) SB_nil)) SB_nil))
noncomputable def w_opADC : WX := (wSeq (wAsg 91 (wFrz (wMeth Z7 37 (wName 0) (wAc (wFrz (wVcall (wName 14))) wA0)))) (wSeq (wIf (wTru (wBin .BitAnd (wAttr Z7 16 (wName 0)) (wAttr Z7 24 (wName 0)))) wDead (wSeq (wIf (wTru (wBin .BitAnd (wAttr Z7 16 (wName 0)) (wAttr Z7 27 (wName 0)))) (wSeq (wAsg 100 (wInt 1)) wNil) (wSeq (wAsg 100 (wInt 0)) wNil)) (wSeq (wAsg 99 (wBin .Add (wBin .Add (wName 91) (wAttr Z7 13 (wName 0))) (wName 100))) (wSeq (wAuA Z7 16 .BitAnd (wName 0) (wInv (wBin .BitOr (wBin .BitOr (wBin .BitOr (wAttr Z7 27 (wName 0)) (wAttr Z7 21 (wName 0))) (wAttr Z7 20 (wName 0))) (wAttr Z7 26 (wName 0))))) (wSeq (wIf (wTru (wBin .BitAnd (wBin .BitAnd (wInv (wBin .BitXor (wAttr Z7 13 (wName 0)) (wName 91))) (wBin .BitXor (wAttr Z7 13 (wName 0)) (wName 99))) (wAttr Z7 20 (wName 0)))) (wSeq (wAuA Z7 16 .BitOr (wName 0) (wAttr Z7 21 (wName 0))) wNil) wNil) (wSeq (wAsg 91 (wName 99)) (wSeq (wIf (wCmpT .Gt (wName 91) (wAttr Z7 2 (wName 0))) (wSeq (wAuA Z7 16 .BitOr (wName 0) (wAttr Z7 27 (wName 0))) (wSeq (wAuN 91 .BitAnd (wAttr Z7 2 (wName 0))) wNil)) wNil) (wSeq (wIf (wCmpT .Eq (wName 91) (wInt 0)) (wSeq (wAuA Z7 16 .BitOr (wName 0) (wAttr Z7 26 (wName 0))) wNil) (wSeq (wAuA Z7 16 .BitOr (wName 0) (wBin .BitAnd (wName 91) (wAttr Z7 20 (wName 0)))) wNil)) (wSeq (wAsA Z7 13 (wName 0) (wName 91)) wNil))))))))) wNil))
theorem s_opADC {G : Gl nm Z7} : SB G (sScope (cst 50)) (sBody (cst 50)) w_opADC := (SB_cons (SX_asg (n := 91) (SE_frz (S0_meth (n := 37) (SE_name (n := 0) rfl) (SA_cons (SE_frz (S0_vcall (SE_name (n := 14) rfl) (fun _ => rfl))) SA_nil (fun _ => rfl)) rfl (fun _ => ⟨_, rfl⟩))) rfl (.inl (by kernel_rfl)) (fun _ => rfl)) (SB_cons (SX_if (ST_of (SE_bin (SE_attr (n := 16) (SE_name (n := 0) rfl) rfl (fun _ => rfl)) (SE_attr (n := 24) (SE_name (n := 0) rfl) rfl (fun _ => rfl))) (fun _ => rfl)) SB_dead (SB_cons (SX_if (ST_of (SE_bin (SE_attr (n := 16) (SE_name (n := 0) rfl) rfl (fun _ => rfl)) (SE_attr (n := 27) (SE_name (n := 0) rfl) rfl (fun _ => rfl))) (fun _ => rfl)) (SB_cons (SX_asg (n := 100) SE_int rfl (.inl (by kernel_rfl)) (fun _ => rfl)) SB_nil) (SB_cons (SX_asg (n := 100) SE_int rfl (.inl (by kernel_rfl)) (fun _ => rfl)) SB_nil)) (SB_cons (SX_asg (n := 99) (SE_bin (SE_bin (SE_name (n := 91) rfl) (SE_attr (n := 13) (SE_name (n := 0) rfl) rfl (fun _ => rfl))) (SE_name (n := 100) rfl)) rfl (.inl (by kernel_rfl)) (fun _ => rfl)) (SB_cons (SX_auA (n := 16) (SE_name (n := 0) rfl) (SE_inv (SE_bin (SE_bin (SE_bin (SE_attr (n := 27) (SE_name (n := 0) rfl) rfl (fun _ => rfl)) (SE_attr (n := 21) (SE_name (n := 0) rfl) rfl (fun _ => rfl))) (SE_attr (n := 20) (SE_name (n := 0) rfl) rfl (fun _ => rfl))) (SE_attr (n := 26) (SE_name (n := 0) rfl) rfl (fun _ => rfl)))) rfl) (SB_cons (SX_if (ST_of (SE_bin (SE_bin (SE_inv (SE_bin (SE_attr (n := 13) (SE_name (n := 0) rfl) rfl (fun _ => rfl)) (SE_name (n := 91) rfl))) (SE_bin (SE_attr (n := 13) (SE_name (n := 0) rfl) rfl (fun _ => rfl)) (SE_name (n := 99) rfl))) (SE_attr (n := 20) (SE_name (n := 0) rfl) rfl (fun _ => rfl))) (fun _ => rfl)) (SB_cons (SX_auA (n := 16) (SE_name (n := 0) rfl) (SE_attr (n := 21) (SE_name (n := 0) rfl) rfl (fun _ => rfl)) rfl) SB_nil) SB_nil) (SB_cons (SX_asg (n := 91) (SE_name (n := 99) rfl) rfl (.inl (by kernel_rfl)) (fun _ => rfl)) (SB_cons (SX_if (ST_cmp (SE_name (n := 91) rfl) (SE_attr (n := 2) (SE_name (n := 0) rfl) rfl (fun _ => rfl)) rfl) (SB_cons (SX_auA (n := 16) (SE_name (n := 0) rfl) (SE_attr (n := 27) (SE_name (n := 0) rfl) rfl (fun _ => rfl)) rfl) (SB_cons (SX_auN (n := 91) (SE_attr (n := 2) (SE_name (n := 0) rfl) rfl (fun _ => rfl)) rfl (.inl (by kernel_rfl))) SB_nil)) SB_nil) (SB_cons (SX_if (ST_cmp (SE_name (n := 91) rfl) SE_int rfl) (SB_cons (SX_auA (n := 16) (SE_name (n := 0) rfl) (SE_attr (n := 26) (SE_name (n := 0) rfl) rfl (fun _ => rfl)) rfl) SB_nil) (SB_cons (SX_auA (n := 16) (SE_name (n := 0) rfl) (SE_bin (SE_name (n := 91) rfl) (SE_attr (n := 20) (SE_name (n := 0) rfl) rfl (fun _ => rfl))) rfl) SB_nil)) (SB_cons (SX_asA (n := 13) (SE_name (n := 91) rfl) (SE_name (n := 0) rfl) rfl (fun _ => rfl)) SB_nil))))))))) SB_nil))
noncomputable def w_opCLR : WX := (wSeq (wAuA Z7 16 .BitAnd (wName 0) (wInv (wName 14))) wNil)
theorem s_opCLR {G : Gl nm Z7} : SB G (sScope (cst 44)) (sBody (cst 44)) w_opCLR := (SB_cons (SX_auA (n := 16) (SE_name (n := 0) rfl) (SE_inv (SE_name (n := 14) rfl)) rfl) SB_nil)
noncomputable def w_opSET : WX := (wSeq (wAuA Z7 16 .BitOr (wName 0) (wName 14)) wNil)
theorem s_opSET {G : Gl nm Z7} : SB G (sScope (cst 45)) (sBody (cst 45)) w_opSET := (SB_cons (SX_auA (n := 16) (SE_name (n := 0) rfl) (SE_name (n := 14) rfl) rfl) SB_nil)
noncomputable def w_opROL : WX := (wSeq (wIf (wCmpT .Is (wName 14) wNone) (wSeq (wAsg 80 (wAttr Z7 13 (wName 0))) wNil) (wSeq (wAsg 75 (wFrz (wVcall (wName 14)))) (wSeq (wAsg 80 (wFrz (wMeth Z7 37 (wName 0) (wAc (wName 75) wA0)))) wNil))) (wSeq (wIf (wTru (wBin .BitAnd (wAttr Z7 16 (wName 0)) (wAttr Z7 27 (wName 0)))) (wSeq (wIf (wTru (wBin .BitAnd (wName 80) (wAttr Z7 20 (wName 0)))) (wSeq wPass wNil) (wSeq (wAuA Z7 16 .BitAnd (wName 0) (wInv (wAttr Z7 27 (wName 0)))) wNil)) (wSeq (wAsg 80 (wBin .BitOr (wBin .LShift (wName 80) (wInt 1)) (wInt 1))) wNil)) (wSeq (wIf (wTru (wBin .BitAnd (wName 80) (wAttr Z7 20 (wName 0)))) (wSeq (wAuA Z7 16 .BitOr (wName 0) (wAttr Z7 27 (wName 0))) wNil) wNil) (wSeq (wAsg 80 (wBin .LShift (wName 80) (wInt 1))) wNil))) (wSeq (wAuN 80 .BitAnd (wAttr Z7 2 (wName 0))) (wSeq (wExpr (wFrz (wMeth Z7 48 (wName 0) (wAc (wName 80) wA0)))) (wSeq (wIf (wCmpT .Is (wName 14) wNone) (wSeq (wAsA Z7 13 (wName 0) (wName 80)) wNil) (wSeq (wAsS (wAttr Z7 9 (wName 0)) (wName 75) (wName 80)) wNil)) wNil)))))
theorem s_opROL {G : Gl nm Z7} : SB G (sScope (cst 48)) (sBody (cst 48)) w_opROL := (SB_cons (SX_if (ST_cmp (SE_name (n := 14) rfl) SE_none rfl) (SB_cons (SX_asg (n := 80) (SE_attr (n := 13) (SE_name (n := 0) rfl) rfl (fun _ => rfl)) rfl (.inl (by kernel_rfl)) (fun _ => rfl)) SB_nil) (SB_cons (SX_asg (n := 75) (SE_frz (S0_vcall (SE_name (n := 14) rfl) (fun _ => rfl))) rfl (.inl (by kernel_rfl)) (fun _ => rfl)) (SB_cons (SX_asg (n := 80) (SE_frz (S0_meth (n := 37) (SE_name (n := 0) rfl) (SA_cons (SE_name (n := 75) rfl) SA_nil (fun _ => rfl)) rfl (fun _ => ⟨_, rfl⟩))) rfl (.inl (by kernel_rfl)) (fun _ => rfl)) SB_nil))) (SB_cons (SX_if (ST_of (SE_bin (SE_attr (n := 16) (SE_name (n := 0) rfl) rfl (fun _ => rfl)) (SE_attr (n := 27) (SE_name (n := 0) rfl) rfl (fun _ => rfl))) (fun _ => rfl)) (SB_cons (SX_if (ST_of (SE_bin (SE_name (n := 80) rfl) (SE_attr (n := 20) (SE_name (n := 0) rfl) rfl (fun _ => rfl))) (fun _ => rfl)) (SB_cons SX_pass SB_nil) (SB_cons (SX_auA (n := 16) (SE_name (n := 0) rfl) (SE_inv (SE_attr (n := 27) (SE_name (n := 0) rfl) rfl (fun _ => rfl))) rfl) SB_nil)) (SB_cons (SX_asg (n := 80) (SE_bin (SE_bin (SE_name (n := 80) rfl) SE_int) SE_int) rfl (.inl (by kernel_rfl)) (fun _ => rfl)) SB_nil)) (SB_cons (SX_if (ST_of (SE_bin (SE_name (n := 80) rfl) (SE_attr (n := 20) (SE_name (n := 0) rfl) rfl (fun _ => rfl))) (fun _ => rfl)) (SB_cons (SX_auA (n := 16) (SE_name (n := 0) rfl) (SE_attr (n := 27) (SE_name (n := 0) rfl) rfl (fun _ => rfl)) rfl) SB_nil) SB_nil) (SB_cons (SX_asg (n := 80) (SE_bin (SE_name (n := 80) rfl) SE_int) rfl (.inl (by kernel_rfl)) (fun _ => rfl)) SB_nil))) (SB_cons (SX_auN (n := 80) (SE_attr (n := 2) (SE_name (n := 0) rfl) rfl (fun _ => rfl)) rfl (.inl (by kernel_rfl))) (SB_cons (SX_expr (SE_frz (S0_meth (n := 48) (SE_name (n := 0) rfl) (SA_cons (SE_name (n := 80) rfl) SA_nil (fun _ => rfl)) rfl (fun _ => ⟨_, rfl⟩))) (fun _ => rfl)) (SB_cons (SX_if (ST_cmp (SE_name (n := 14) rfl) SE_none rfl) (SB_cons (SX_asA (n := 13) (SE_name (n := 80) rfl) (SE_name (n := 0) rfl) rfl (fun _ => rfl)) SB_nil) (SB_cons (SX_asS (SE_name (n := 80) rfl) (SE_attr (n := 9) (SE_name (n := 0) rfl) rfl (fun _ => rfl)) (SE_name (n := 75) rfl) (fun _ => rfl)) SB_nil)) SB_nil)))))
noncomputable def w_opLDA : WX := (wSeq (wAsA Z7 13 (wName 0) (wFrz (wMeth Z7 37 (wName 0) (wAc (wFrz (wVcall (wName 14))) wA0)))) (wSeq (wExpr (wFrz (wMeth Z7 48 (wName 0) (wAc (wAttr Z7 13 (wName 0)) wA0)))) wNil))
theorem s_opLDA {G : Gl nm Z7} : SB G (sScope (cst 59)) (sBody (cst 59)) w_opLDA := (SB_cons (SX_asA (n := 13) (SE_frz (S0_meth (n := 37) (SE_name (n := 0) rfl) (SA_cons (SE_frz (S0_vcall (SE_name (n := 14) rfl) (fun _ => rfl))) SA_nil (fun _ => rfl)) rfl (fun _ => ⟨_, rfl⟩))) (SE_name (n := 0) rfl) rfl (fun _ => rfl)) (SB_cons (SX_expr (SE_frz (S0_meth (n := 48) (SE_name (n := 0) rfl) (SA_cons (SE_attr (n := 13) (SE_name (n := 0) rfl) rfl (fun _ => rfl)) SA_nil (fun _ => rfl)) rfl (fun _ => ⟨_, rfl⟩))) (fun _ => rfl)) SB_nil))
noncomputable def w_opSTA : WX := (wSeq (wAsS (wAttr Z7 9 (wName 0)) (wFrz (wVcall (wName 14))) (wAttr Z7 13 (wName 0))) wNil)
theorem s_opSTA {G : Gl nm Z7} : SB G (sScope (cst 52)) (sBody (cst 52)) w_opSTA := (SB_cons (SX_asS (SE_attr (n := 13) (SE_name (n := 0) rfl) rfl (fun _ => rfl)) (SE_attr (n := 9) (SE_name (n := 0) rfl) rfl (fun _ => rfl)) (SE_frz (S0_vcall (SE_name (n := 14) rfl) (fun _ => rfl))) (fun _ => rfl)) SB_nil)
noncomputable def w_opINCR : WX := (wSeq (wIf (wCmpT .Is (wName 14) wNone) (wSeq (wAsg 80 (wAttr Z7 13 (wName 0))) wNil) (wSeq (wAsg 75 (wFrz (wVcall (wName 14)))) (wSeq (wAsg 80 (wFrz (wMeth Z7 37 (wName 0) (wAc (wName 75) wA0)))) wNil))) (wSeq (wAuA Z7 16 .BitAnd (wName 0) (wInv (wBin .BitOr (wAttr Z7 26 (wName 0)) (wAttr Z7 20 (wName 0))))) (wSeq (wAsg 80 (wBin .BitAnd (wBin .Add (wName 80) (wInt 1)) (wAttr Z7 2 (wName 0)))) (wSeq (wIf (wTru (wName 80)) (wSeq (wAuA Z7 16 .BitOr (wName 0) (wBin .BitAnd (wName 80) (wAttr Z7 20 (wName 0)))) wNil) (wSeq (wAuA Z7 16 .BitOr (wName 0) (wAttr Z7 26 (wName 0))) wNil)) (wSeq (wIf (wCmpT .Is (wName 14) wNone) (wSeq (wAsA Z7 13 (wName 0) (wName 80)) wNil) (wSeq (wAsS (wAttr Z7 9 (wName 0)) (wName 75) (wName 80)) wNil)) wNil)))))
theorem s_opINCR {G : Gl nm Z7} : SB G (sScope (cst 58)) (sBody (cst 58)) w_opINCR := (SB_cons (SX_if (ST_cmp (SE_name (n := 14) rfl) SE_none rfl) (SB_cons (SX_asg (n := 80) (SE_attr (n := 13) (SE_name (n := 0) rfl) rfl (fun _ => rfl)) rfl (.inl (by kernel_rfl)) (fun _ => rfl)) SB_nil) (SB_cons (SX_asg (n := 75) (SE_frz (S0_vcall (SE_name (n := 14) rfl) (fun _ => rfl))) rfl (.inl (by kernel_rfl)) (fun _ => rfl)) (SB_cons (SX_asg (n := 80) (SE_frz (S0_meth (n := 37) (SE_name (n := 0) rfl) (SA_cons (SE_name (n := 75) rfl) SA_nil (fun _ => rfl)) rfl (fun _ => ⟨_, rfl⟩))) rfl (.inl (by kernel_rfl)) (fun _ => rfl)) SB_nil))) (SB_cons (SX_auA (n := 16) (SE_name (n := 0) rfl) (SE_inv (SE_bin (SE_attr (n := 26) (SE_name (n := 0) rfl) rfl (fun _ => rfl)) (SE_attr (n := 20) (SE_name (n := 0) rfl) rfl (fun _ => rfl)))) rfl) (SB_cons (SX_asg (n := 80) (SE_bin (SE_bin (SE_name (n := 80) rfl) SE_int) (SE_attr (n := 2) (SE_name (n := 0) rfl) rfl (fun _ => rfl))) rfl (.inl (by kernel_rfl)) (fun _ => rfl)) (SB_cons (SX_if (ST_of (SE_name (n := 80) rfl) (fun _ => rfl)) (SB_cons (SX_auA (n := 16) (SE_name (n := 0) rfl) (SE_bin (SE_name (n := 80) rfl) (SE_attr (n := 20) (SE_name (n := 0) rfl) rfl (fun _ => rfl))) rfl) SB_nil) (SB_cons (SX_auA (n := 16) (SE_name (n := 0) rfl) (SE_attr (n := 26) (SE_name (n := 0) rfl) rfl (fun _ => rfl)) rfl) SB_nil)) (SB_cons (SX_if (ST_cmp (SE_name (n := 14) rfl) SE_none rfl) (SB_cons (SX_asA (n := 13) (SE_name (n := 80) rfl) (SE_name (n := 0) rfl) rfl (fun _ => rfl)) SB_nil) (SB_cons (SX_asS (SE_name (n := 80) rfl) (SE_attr (n := 9) (SE_name (n := 0) rfl) rfl (fun _ => rfl)) (SE_name (n := 75) rfl) (fun _ => rfl)) SB_nil)) SB_nil)))))
noncomputable def w_inst_0x18 : WX := (wSeq (wExpr (wFrz (wMeth Z7 51 (wName 0) (wAc (wAttr Z7 27 (wName 0)) wA0)))) wNil)
theorem s_inst_0x18 {G : Gl nm Z7} : SB G (sScope (cst 76)) (sBody (cst 76)) w_inst_0x18 := (SB_cons (SX_expr (SE_frz (S0_meth (n := 51) (SE_name (n := 0) rfl) (SA_cons (SE_attr (n := 27) (SE_name (n := 0) rfl) rfl (fun _ => rfl)) SA_nil (fun _ => rfl)) rfl (fun _ => ⟨_, rfl⟩))) (fun _ => rfl)) SB_nil)
noncomputable def w_inst_0xa5 : WX := (wSeq (wExpr (wFrz (wMeth Z7 56 (wName 0) (wAc (wAttr Z7 40 (wName 0)) wA0)))) (wSeq (wAuA Z7 11 .Add (wName 0) (wInt 1)) wNil))
theorem s_inst_0xa5 {G : Gl nm Z7} : SB G (sScope (cst 157)) (sBody (cst 157)) w_inst_0xa5 := (SB_cons (SX_expr (SE_frz (S0_meth (n := 56) (SE_name (n := 0) rfl) (SA_cons (SE_attr (n := 40) (SE_name (n := 0) rfl) rfl (fun _ => rfl)) SA_nil (fun _ => rfl)) rfl (fun _ => ⟨_, rfl⟩))) (fun _ => rfl)) (SB_cons (SX_auA (n := 11) (SE_name (n := 0) rfl) SE_int rfl) SB_nil))
noncomputable def w_inst_0x69 : WX := (wSeq (wExpr (wFrz (wMeth Z7 81 (wName 0) (wAc (wAttr Z7 39 (wName 0)) wA0)))) (wSeq (wAuA Z7 11 .Add (wName 0) (wInt 1)) wNil))
theorem s_inst_0x69 {G : Gl nm Z7} : SB G (sScope (cst 122)) (sBody (cst 122)) w_inst_0x69 := (SB_cons (SX_expr (SE_frz (S0_meth (n := 81) (SE_name (n := 0) rfl) (SA_cons (SE_attr (n := 39) (SE_name (n := 0) rfl) rfl (fun _ => rfl)) SA_nil (fun _ => rfl)) rfl (fun _ => ⟨_, rfl⟩))) (fun _ => rfl)) (SB_cons (SX_auA (n := 11) (SE_name (n := 0) rfl) SE_int rfl) SB_nil))
noncomputable def w_inst_0x85 : WX := (wSeq (wExpr (wFrz (wMeth Z7 53 (wName 0) (wAc (wAttr Z7 40 (wName 0)) wA0)))) (wSeq (wAuA Z7 11 .Add (wName 0) (wInt 1)) wNil))
theorem s_inst_0x85 {G : Gl nm Z7} : SB G (sScope (cst 137)) (sBody (cst 137)) w_inst_0x85 := (SB_cons (SX_expr (SE_frz (S0_meth (n := 53) (SE_name (n := 0) rfl) (SA_cons (SE_attr (n := 40) (SE_name (n := 0) rfl) rfl (fun _ => rfl)) SA_nil (fun _ => rfl)) rfl (fun _ => ⟨_, rfl⟩))) (fun _ => rfl)) (SB_cons (SX_auA (n := 11) (SE_name (n := 0) rfl) SE_int rfl) SB_nil))
noncomputable def w_inst_0x78 : WX := (wSeq (wExpr (wFrz (wMeth Z7 52 (wName 0) (wAc (wAttr Z7 25 (wName 0)) wA0)))) wNil)
theorem s_inst_0x78 {G : Gl nm Z7} : SB G (sScope (cst 131)) (sBody (cst 131)) w_inst_0x78 := (SB_cons (SX_expr (SE_frz (S0_meth (n := 52) (SE_name (n := 0) rfl) (SA_cons (SE_attr (n := 25) (SE_name (n := 0) rfl) rfl (fun _ => rfl)) SA_nil (fun _ => rfl)) rfl (fun _ => ⟨_, rfl⟩))) (fun _ => rfl)) SB_nil)
noncomputable def w_inst_0x58 : WX := (wSeq (wExpr (wFrz (wMeth Z7 51 (wName 0) (wAc (wAttr Z7 25 (wName 0)) wA0)))) wNil)
theorem s_inst_0x58 {G : Gl nm Z7} : SB G (sScope (cst 113)) (sBody (cst 113)) w_inst_0x58 := (SB_cons (SX_expr (SE_frz (S0_meth (n := 51) (SE_name (n := 0) rfl) (SA_cons (SE_attr (n := 25) (SE_name (n := 0) rfl) rfl (fun _ => rfl)) SA_nil (fun _ => rfl)) rfl (fun _ => ⟨_, rfl⟩))) (fun _ => rfl)) SB_nil)
noncomputable def w_inst_0x08 : WX := (wSeq (wExpr (wFrz (wMeth Z7 44 (wName 0) (wAc (wBin .BitOr (wBin .BitOr (wAttr Z7 16 (wName 0)) (wAttr Z7 23 (wName 0))) (wAttr Z7 22 (wName 0))) wA0)))) wNil)
theorem s_inst_0x08 {G : Gl nm Z7} : SB G (sScope (cst 67)) (sBody (cst 67)) w_inst_0x08 := (SB_cons (SX_expr (SE_frz (S0_meth (n := 44) (SE_name (n := 0) rfl) (SA_cons (SE_bin (SE_bin (SE_attr (n := 16) (SE_name (n := 0) rfl) rfl (fun _ => rfl)) (SE_attr (n := 23) (SE_name (n := 0) rfl) rfl (fun _ => rfl))) (SE_attr (n := 22) (SE_name (n := 0) rfl) rfl (fun _ => rfl))) SA_nil (fun _ => rfl)) rfl (fun _ => ⟨_, rfl⟩))) (fun _ => rfl)) SB_nil)
noncomputable def w_inst_0x28 : WX := (wSeq (wAsA Z7 16 (wName 0) (wBin .BitOr (wBin .BitOr (wFrz (wMeth Z7 45 (wName 0) wA0)) (wAttr Z7 23 (wName 0))) (wAttr Z7 22 (wName 0)))) wNil)
theorem s_inst_0x28 {G : Gl nm Z7} : SB G (sScope (cst 85)) (sBody (cst 85)) w_inst_0x28 := (SB_cons (SX_asA (n := 16) (SE_bin (SE_bin (SE_frz (S0_meth (n := 45) (SE_name (n := 0) rfl) SA_nil rfl (fun _ => ⟨_, rfl⟩))) (SE_attr (n := 23) (SE_name (n := 0) rfl) rfl (fun _ => rfl))) (SE_attr (n := 22) (SE_name (n := 0) rfl) rfl (fun _ => rfl))) (SE_name (n := 0) rfl) rfl (fun _ => rfl)) SB_nil)
noncomputable def w_inst_0xa9 : WX := (wSeq (wExpr (wFrz (wMeth Z7 56 (wName 0) (wAc (wAttr Z7 39 (wName 0)) wA0)))) (wSeq (wAuA Z7 11 .Add (wName 0) (wInt 1)) wNil))
theorem s_inst_0xa9 {G : Gl nm Z7} : SB G (sScope (cst 160)) (sBody (cst 160)) w_inst_0xa9 := (SB_cons (SX_expr (SE_frz (S0_meth (n := 56) (SE_name (n := 0) rfl) (SA_cons (SE_attr (n := 39) (SE_name (n := 0) rfl) rfl (fun _ => rfl)) SA_nil (fun _ => rfl)) rfl (fun _ => ⟨_, rfl⟩))) (fun _ => rfl)) (SB_cons (SX_auA (n := 11) (SE_name (n := 0) rfl) SE_int rfl) SB_nil))
noncomputable def w_inst_0x38 : WX := (wSeq (wExpr (wFrz (wMeth Z7 52 (wName 0) (wAc (wAttr Z7 27 (wName 0)) wA0)))) wNil)
theorem s_inst_0x38 {G : Gl nm Z7} : SB G (sScope (cst 95)) (sBody (cst 95)) w_inst_0x38 := (SB_cons (SX_expr (SE_frz (S0_meth (n := 52) (SE_name (n := 0) rfl) (SA_cons (SE_attr (n := 27) (SE_name (n := 0) rfl) rfl (fun _ => rfl)) SA_nil (fun _ => rfl)) rfl (fun _ => ⟨_, rfl⟩))) (fun _ => rfl)) SB_nil)
noncomputable def w_inst_0x2a : WX := (wSeq (wExpr (wFrz (wMeth Z7 82 (wName 0) (wAc wNone wA0)))) wNil)
theorem s_inst_0x2a {G : Gl nm Z7} : SB G (sScope (cst 87)) (sBody (cst 87)) w_inst_0x2a := (SB_cons (SX_expr (SE_frz (S0_meth (n := 82) (SE_name (n := 0) rfl) (SA_cons SE_none SA_nil (fun _ => rfl)) rfl (fun _ => ⟨_, rfl⟩))) (fun _ => rfl)) SB_nil)
noncomputable def w_inst_0x48 : WX := (wSeq (wExpr (wFrz (wMeth Z7 44 (wName 0) (wAc (wAttr Z7 13 (wName 0)) wA0)))) wNil)
theorem s_inst_0x48 {G : Gl nm Z7} : SB G (sScope (cst 103)) (sBody (cst 103)) w_inst_0x48 := (SB_cons (SX_expr (SE_frz (S0_meth (n := 44) (SE_name (n := 0) rfl) (SA_cons (SE_attr (n := 13) (SE_name (n := 0) rfl) rfl (fun _ => rfl)) SA_nil (fun _ => rfl)) rfl (fun _ => ⟨_, rfl⟩))) (fun _ => rfl)) SB_nil)
noncomputable def w_inst_0xe6 : WX := (wSeq (wExpr (wFrz (wMeth Z7 55 (wName 0) (wAc (wAttr Z7 40 (wName 0)) wA0)))) (wSeq (wAuA Z7 11 .Add (wName 0) (wInt 1)) wNil))
theorem s_inst_0xe6 {G : Gl nm Z7} : SB G (sScope (cst 199)) (sBody (cst 199)) w_inst_0xe6 := (SB_cons (SX_expr (SE_frz (S0_meth (n := 55) (SE_name (n := 0) rfl) (SA_cons (SE_attr (n := 40) (SE_name (n := 0) rfl) rfl (fun _ => rfl)) SA_nil (fun _ => rfl)) rfl (fun _ => ⟨_, rfl⟩))) (fun _ => rfl)) (SB_cons (SX_auA (n := 11) (SE_name (n := 0) rfl) SE_int rfl) SB_nil))
noncomputable def w_inst_0x68 : WX := (wSeq (wAsA Z7 13 (wName 0) (wFrz (wMeth Z7 45 (wName 0) wA0))) (wSeq (wExpr (wFrz (wMeth Z7 48 (wName 0) (wAc (wAttr Z7 13 (wName 0)) wA0)))) wNil))
theorem s_inst_0x68 {G : Gl nm Z7} : SB G (sScope (cst 121)) (sBody (cst 121)) w_inst_0x68 := (SB_cons (SX_asA (n := 13) (SE_frz (S0_meth (n := 45) (SE_name (n := 0) rfl) SA_nil rfl (fun _ => ⟨_, rfl⟩))) (SE_name (n := 0) rfl) rfl (fun _ => rfl)) (SB_cons (SX_expr (SE_frz (S0_meth (n := 48) (SE_name (n := 0) rfl) (SA_cons (SE_attr (n := 13) (SE_name (n := 0) rfl) rfl (fun _ => rfl)) SA_nil (fun _ => rfl)) rfl (fun _ => ⟨_, rfl⟩))) (fun _ => rfl)) SB_nil))
noncomputable def w_inst_0x40 : WX := (wSeq (wAsA Z7 16 (wName 0) (wBin .BitOr (wBin .BitOr (wFrz (wMeth Z7 45 (wName 0) wA0)) (wAttr Z7 23 (wName 0))) (wAttr Z7 22 (wName 0)))) (wSeq (wAsA Z7 11 (wName 0) (wFrz (wMeth Z7 47 (wName 0) wA0))) wNil))
theorem s_inst_0x40 {G : Gl nm Z7} : SB G (sScope (cst 99)) (sBody (cst 99)) w_inst_0x40 := (SB_cons (SX_asA (n := 16) (SE_bin (SE_bin (SE_frz (S0_meth (n := 45) (SE_name (n := 0) rfl) SA_nil rfl (fun _ => ⟨_, rfl⟩))) (SE_attr (n := 23) (SE_name (n := 0) rfl) rfl (fun _ => rfl))) (SE_attr (n := 22) (SE_name (n := 0) rfl) rfl (fun _ => rfl))) (SE_name (n := 0) rfl) rfl (fun _ => rfl)) (SB_cons (SX_asA (n := 11) (SE_frz (S0_meth (n := 47) (SE_name (n := 0) rfl) SA_nil rfl (fun _ => ⟨_, rfl⟩))) (SE_name (n := 0) rfl) rfl (fun _ => rfl)) SB_nil))
noncomputable def T7 : Defs := [(43, [0], w_step), (50, [0], w_reset), (57, [0], w_irq), (71, [0, 75], w_ByteAt), (78, [0, 75], w_WordAt), (92, [0], w_ProgramCounter), (99, [0], w_ImmediateByte), (106, [0], w_ZeroPageAddr), (169, [0, 78], w_stPush), (176, [0], w_stPop), (183, [0, 78], w_stPushWord), (190, [0], w_stPopWord), (197, [0, 79], w_FlagsNZ), (281, [0, 14], w_opADC), (239, [0, 14], w_opCLR), (246, [0, 14], w_opSET), (267, [0, 14], w_opROL), (344, [0, 14], w_opLDA), (295, [0, 14], w_opSTA), (337, [0, 14], w_opINCR), (463, [0], w_inst_0x18), (1030, [0], w_inst_0xa5), (785, [0], w_inst_0x69), (890, [0], w_inst_0x85), (848, [0], w_inst_0x78), (722, [0], w_inst_0x58), (400, [0], w_inst_0x08), (526, [0], w_inst_0x28), (1051, [0], w_inst_0xa9), (596, [0], w_inst_0x38), (540, [0], w_inst_0x2a), (652, [0], w_inst_0x48), (1324, [0], w_inst_0xe6), (778, [0], w_inst_0x68), (624, [0], w_inst_0x40)]
end VE
namespace M6
noncomputable def loG (ns : List DictEntry) (st : Stmt) (t : Nat) : Obj := { cls := .type "list", data := .seq (lVals ns (lEs st) t).toArray }
noncomputable def entG (w : World) (st : Stmt) (t n : Nat) : DictEntry := ⟨hsh w (bindOf st), .str (bindOf st) t, .ref n⟩
noncomputable def nsA (w : World) (ns0 : List DictEntry) (row : Row) : List DictEntry := ns0 ++ rEnt w row
noncomputable def nsB (w : World) (ns0 : List DictEntry) (row : Row) (s1 : Stmt) (t1 n : Nat) : List DictEntry := nsA w ns0 row ++ [entG w s1 t1 n]
noncomputable def nsC (w : World) (ns0 : List DictEntry) (row : Row) (s1 s2 : Stmt) (t1 t2 n : Nat) : List DictEntry := nsB w ns0 row s1 t1 n ++ [entG w s2 t2 (n + 1)]
noncomputable def nsD (w : World) (ns0 : List DictEntry) (row : Row) (s1 s2 s3 : Stmt) (t1 t2 t3 n : Nat) : List DictEntry := nsC w ns0 row s1 s2 t1 t2 n ++ [entG w s3 t3 (n + 2)]
noncomputable def objG (e : Ec) (w : World) (ns0 : List DictEntry) (row : Row) (s1 s2 s3 : Stmt) (t0 t1 t2 n : Nat) : List Obj :=
  rObjs e row ++ [loG (nsA w ns0 row) s1 t0] ++ [loG (nsB w ns0 row s1 t1 n) s2 (t1 + 1)] ++ [loG (nsC w ns0 row s1 s2 t1 t2 n) s3 (t2 + 1)]
noncomputable def stepsG (row : Row) (s1 s2 s3 : Stmt) : Nat := stepsAll (row.map (·.1)) + ((1 + ((1 + (lSteps (lEs s1) + 1)) + 8)) + ((1 + ((1 + (lSteps (lEs s2) + 1)) + 8)) + ((1 + ((1 + (lSteps (lEs s3) + 1)) + 8)) + 0)))
section
variable {p : Program} {n₀ : Nat} {ann : Option Value} {g : Array GenState} {d : Drawn} {os : OsState} {w : World} {e : Ec}
theorem body_gen (E : EcOk p n₀ ann g d os w e) {ns0 : List DictEntry} {row : Row} {ks us0 lk us1 : List Nat} {dbg t0 t1 t2 t3 n k1 k2 k3 T0 : Nat} {s1 s2 s3 : Stmt} {q0 : Pos} {cb : List Stmt}
    (I0 : Inv us0 0 ⟨[], ns0, []⟩) (hcb : row.map (·.1) ++ [s1, s2, s3] = cb) (kinds : ∀ st ∈ cb, e.env.kindOf (bindOf st) = some .local) (row_ok : rowOk row 29 T0 = true) (row_chk : chk us0 0 (row.map (·.1)) ks = true) (row_st : ∀ x ∈ row, stB x.1 = true)
    (row_T : rowT row T0 = t0) (row_N : rowN row 29 = n) (row_small : ∀ x ∈ row, small (bindOf x.1) = true) (row_len : row.length = ks.length) (lf1 : s1 = lForm s1) (lf2 : s2 = lForm s2) (lf3 : s3 = lForm s3) (dbg_is : dbg = enc ("__debug__" : Str))
    (lc1 : chkL ks dbg (lEs s1) lk = true) (lc2 : chkL ks dbg (lEs s2) [] = true) (lc3 : chkL ks dbg (lEs s3) [] = true) (us_is : lastUs (row.map (·.1)) ks us0 = us1) (k1_is : Nat.beq k1 (enc (bindOf s1)) = true) (k2_is : Nat.beq k2 (enc (bindOf s2)) = true) (k3_is : Nat.beq k3 (enc (bindOf s3)) = true)
    (aw1 : awayN k1 us1 = true) (aw2 : awayN k2 (k1 :: us1) = true) (aw3 : awayN k3 (k2 :: k1 :: us1) = true) (tk1 : lTk (lEs s1) t0 = t1) (tk2 : lTk (lEs s2) (t1 + 1) = t2) (tk3 : lTk (lEs s3) (t2 + 1) = t3)
    (ln1 : (lEs s1).length ≤ 1000) (ln2 : (lEs s2).length ≤ 1000) (ln3 : (lEs s3).length ≤ 1000) :
    XR p n₀ ann g d os w (stepsG row s1 s2 s3) (execs cb e.env) (mkH e.b ⟨[], ns0, []⟩) T0 q0 .next (mkH e.b ⟨objG e w ns0 row s1 s2 s3 t0 t1 t2 n, nsD w ns0 row s1 s2 s3 t1 t2 t3 n, rPl row⟩) (t3 + 1) (endOf s3) := by
  have rm : ∀ x ∈ row, x.1 ∈ cb := fun x hx => by rw [← hcb]; exact List.mem_append_left _ (List.mem_map_of_mem hx)
  have m1 : s1 ∈ cb := by rw [← hcb]; simp
  have m2 : s2 ∈ cb := by rw [← hcb]; simp
  have m3 : s3 ∈ cb := by rw [← hcb]; simp
  obtain ⟨x1, I1⟩ := XR_execs E (row.map (·.1)) ks us0 0 ⟨[], ns0, []⟩ T0 q0 row_chk (fun st hs => kinds st (by rw [← hcb]; exact List.mem_append_left _ hs)) I0
  rw [effAll_is row _ 29 T0 row_ok row_st rfl] at x1 I1
  rw [us_is] at I1
  simp only [List.nil_append, row_T] at x1 I1
  have nlen : 29 + (rObjs e row).length = n := (rowN_is row 29 T0 row_ok row_st).trans row_N
  have fo : ∀ (ns : List DictEntry) (s : Stmt) (lk : List Nat), chkL ks dbg (lEs s) lk = true → (∀ en ∈ rEnt w row, en ∈ ns) → ∀ x q, Expr.Name x q ∈ lEs s → Found e ns x := fun ns s lk lc hns => found_of dbg_is row_chk row_len row_st row_small (fun x hx => kinds _ (rm x hx)) lc hns
  have f1 := fo (nsA w ns0 row) s1 lk lc1 fun en he => List.mem_append_right _ he
  have f2 := fo (nsB w ns0 row s1 t1 n) s2 [] lc2 fun en he => List.mem_append_left _ (List.mem_append_right _ he)
  have f3 := fo (nsC w ns0 row s1 s2 t1 t2 n) s3 [] lc3 fun en he => List.mem_append_left _ (List.mem_append_left _ (List.mem_append_right _ he))
  have I2 := I1.add (objs := rObjs e row ++ [loG (nsA w ns0 row) s1 t0]) (hh := hsh w (bindOf s1)) (t := t1) (v := .ref n) (Nat.eq_of_beq_eq_true k1_is)
  have I3 := I2.add (objs := rObjs e row ++ [loG (nsA w ns0 row) s1 t0] ++ [loG (nsB w ns0 row s1 t1 n) s2 (t1 + 1)]) (hh := hsh w (bindOf s2)) (t := t2) (v := .ref (n + 1)) (Nat.eq_of_beq_eq_true k2_is)
  have y1 := XR_listSt (c := ⟨rObjs e row, nsA w ns0 row, rPl row⟩) (t := t0) (pos₀ := lastPos (row.map (·.1)) q0) (q := lQ s1) (pos := posOf s1) (np := endOf s1) E (chkL_items lc1) f1 ln1 (kinds _ m1) (I1.fresh k1_is aw1)
  have y2 := XR_listSt (c := ⟨rObjs e row ++ [loG (nsA w ns0 row) s1 t0], nsB w ns0 row s1 t1 n, rPl row⟩) (t := t1 + 1) (pos₀ := endOf s1) (q := lQ s2) (pos := posOf s2) (np := endOf s2) E (chkL_items lc2) f2 ln2 (kinds _ m2) (I2.fresh k2_is aw2)
  have y3 := XR_listSt (c := ⟨rObjs e row ++ [loG (nsA w ns0 row) s1 t0] ++ [loG (nsB w ns0 row s1 t1 n) s2 (t1 + 1)], nsC w ns0 row s1 s2 t1 t2 n, rPl row⟩) (t := t2 + 1) (pos₀ := endOf s2) (q := lQ s3) (pos := posOf s3) (np := endOf s3) E (chkL_items lc3) f3 ln3 (kinds _ m3) (I3.fresh k3_is aw3)
  rw [nlen, tk1] at y1
  rw [List.length_append, List.length_singleton, ← Nat.add_assoc 29 (rObjs e row).length 1, nlen, tk2] at y2
  rw [List.length_append, List.length_append, List.length_singleton, List.length_singleton, Nat.add_assoc (rObjs e row).length 1 1, ← Nat.add_assoc 29 (rObjs e row).length (1 + 1), nlen, tk3] at y3
  have ex : ∀ {st : Stmt} {a t t' : Nat} {h h' : Heap} {q q' : Pos}, st = lForm st → XR p n₀ ann g d os w a (exec (lForm st) e.env) h t q .next h' t' q' → XR p n₀ ann g d os w a (exec st e.env) h t q .next h' t' q' := fun e1 x => by
    rw [e1]; exact x
  rw [← hcb]
  refine XR_execs_app x1 ?_
  have one : ∀ {st : Stmt} {r : List Stmt} {h h₁ h₂ : Heap} {t t₁ t₂ a b : Nat} {pos pos₁ pos₂ : Pos}, XR p n₀ ann g d os w a (exec st e.env) h t pos .next h₁ t₁ pos₁ → XR p n₀ ann g d os w b (execs r e.env) h₁ t₁ pos₁ .next h₂ t₂ pos₂ → XR p n₀ ann g d os w (a + b) (execs (st :: r) e.env) h t pos .next h₂ t₂ pos₂ := fun x y => by
    rw [execs_cons]
    refine XR_bind x ?_
    exact y
  refine one (ex lf1 y1) ?_
  refine one (ex lf2 y2) ?_
  refine one (ex lf3 y3) ?_
  exact XR_pure
end
end M6
namespace M6
noncomputable section
def cx : CodeCx := ⟨S "/claim/cut.py", 0, false, 181⟩
abbrev pmV : Value := .str (S "py65.devices.mpu6502") 194
def ec (w : World) : Ec := ⟨cenv, cx, 0, pmV, bs w⟩
def mkRow : List Stmt → List (Nat × Nat) → Row
  | st :: l, (n, t) :: r => (st, n, t) :: mkRow l r
  | _, _ => []
theorem mkRow_fst : ∀ (l : List Stmt) (r : List (Nat × Nat)), r.length ≤ l.length → (mkRow l r).map (·.1) = l.take r.length
  | _, [], _ => by simp [mkRow]
  | [], _ :: _, h => by simp at h
  | st :: l, (n, t) :: r, h => by
    show st :: (mkRow l r).map (·.1) = _
    rw [mkRow_fst l r (by simpa using h)]
    rfl
def nums : List (Nat × Nat) := [(29, 208), (29, 210), (29, 212), (29, 214), (29, 216), (29, 218), (29, 220), (29, 222), (29, 224), (29, 226), (29, 228), (29, 230), (29, 232), (29, 234), (29, 236), (29, 238), (37, 248), (44, 256), (51, 263), (58, 270), (65, 277), (72, 285), (79, 293), (86, 303), (93, 310), (100, 317), (107, 324), (114, 331), (121, 338), (128, 345), (135, 354), (142, 361), (149, 370), (156, 379), (163, 387), (170, 395), (177, 402), (184, 410), (191, 418), (198, 426), (205, 434), (212, 444), (219, 454), (226, 462), (233, 470), (240, 478), (247, 486), (254, 494), (261, 503), (268, 513), (275, 521), (282, 539), (289, 549), (296, 557), (303, 565), (310, 573), (317, 583), (324, 600), (331, 610), (338, 620), (345, 628), (352, 636), (359, 644), (366, 651), (373, 659), (380, 666), (387, 673), (394, 680), (401, 687), (408, 694), (415, 701), (422, 708), (429, 715), (436, 722), (443, 729), (450, 736), (457, 743), (464, 750), (471, 757), (478, 764), (485, 771), (492, 778), (499, 785), (506, 792), (513, 799), (520, 806), (527, 813), (534, 820), (541, 827), (548, 834), (555, 841), (562, 848), (569, 855), (576, 862), (583, 869), (590, 876), (597, 883), (604, 890), (611, 897), (618, 904), (625, 911), (632, 918), (639, 925), (646, 932), (653, 939), (660, 946), (667, 953), (674, 960), (681, 967), (688, 974), (695, 981), (702, 988), (709, 995), (716, 1002), (723, 1009), (730, 1016), (737, 1023), (744, 1030), (751, 1037), (758, 1044), (765, 1051), (772, 1058), (779, 1065), (786, 1072), (793, 1079), (800, 1087), (807, 1094), (814, 1101), (821, 1108), (828, 1115), (835, 1122), (842, 1129), (849, 1136), (856, 1143), (863, 1150), (870, 1157), (877, 1164), (884, 1171), (891, 1178), (898, 1185), (905, 1192), (912, 1199), (919, 1206), (926, 1213), (933, 1220), (940, 1227), (947, 1234), (954, 1241), (961, 1248), (968, 1255), (975, 1262), (982, 1269), (989, 1276), (996, 1283), (1003, 1290), (1010, 1297), (1017, 1304), (1024, 1311), (1031, 1318), (1038, 1325), (1045, 1332), (1052, 1339), (1059, 1346), (1066, 1353), (1073, 1360), (1080, 1367), (1087, 1374), (1094, 1381), (1101, 1388), (1108, 1395), (1115, 1402), (1122, 1409), (1129, 1416), (1136, 1423), (1143, 1430), (1150, 1437), (1157, 1444), (1164, 1451), (1171, 1458), (1178, 1465), (1185, 1472), (1192, 1479), (1199, 1486), (1206, 1493), (1213, 1500), (1220, 1507), (1227, 1514), (1234, 1521), (1241, 1528), (1248, 1535), (1255, 1542), (1262, 1549), (1269, 1556), (1276, 1563), (1283, 1570), (1290, 1577), (1297, 1584), (1304, 1591), (1311, 1598), (1318, 1605), (1325, 1612), (1332, 1619), (1339, 1626), (1346, 1633), (1353, 1640), (1360, 1647), (1367, 1654), (1374, 1661), (1381, 1668), (1388, 1675), (1395, 1682), (1402, 1689), (1409, 1696), (1416, 1703)]
def row : Row := mkRow cb nums
def ks : List Nat := [40566444004241315945086292328530, 9223693094411567182, 9223728278794141769, 374156729175376809814151048786362472439819549016142, 374159940482089904203465974441416054423449663176783, 85073350139275367363416112186055983189, 40566269918886397888765091643458, 178412426955853197700963550525517741208633412, 784669145068816743373889952136887351439751431825785880649, 19343541760585618281201754, 40566540718426788947501326008387, 1645561051268252665622619039172595849854203956675598648436850754, 3451011395829098355434070634118342472037579312195813612184661114486850, 1645561051268252665622619039172595849854204076579364758760718401, 3451011395829098355434070634118342472037579312195933515950771438354497, 374161367731143741253624231872089875031792684105823, 19343846131946397471080563, 40567062974556106681140650180722, 9223869016349605993, 9223833831967031406, 85075297250519946837342307857916231746, 85075297250519946828118927024947462231, 85075297250519946938799316700420374615, 31830417320439421601510279130214397964113314207397343911710243396182182792322381273628752, 15177831658477120412261863360565861288471695029758508643473785384720870579934068809, 7237398977038579810304986960081414694590513131225205980335151167271765803098, 15177925739494411726340724013303795111784035136511171321418563776151939817505030234, 15177925739494411726340724013304169256203191847658231464735739144604971736236032090, 15177925739494411726340724013303795114460124220052641437398871309388591821743980617, 15177925739494411726340724013304169258879280931199701580716046677841623740474982473, 7237398977038579810304986960081414695696431635015181731425122957583372517441, 15177925739494411726340724013303795111784036242429675111394314866123730129111744577, 15177925739494411726340724013304169256203192953576735254711490234576762047842746433, 15177925739494411726340724013311278000167167572970231806937102525821224902352437314, 85074810473656600000517630723641835635, 40566985603395884911310420312179, 1645583021135550859251451338130889562488211437905709923083223155, 784675131385589055658078831735236206514596114593768013939, 178413617944664764370307790794653966272561222, 40566076490912056916704197869679, 40566289261865532401903149777007, 40566405318744215454682433192047, 40566289261717958453711519875183, 40566444004370443078835558678639, 40566405318679651810842031161455, 40566444004241315945086382506095, 40566134519314504869184513507439, 40566444004278209358467010920559, 40566289261828638988522521362543, 40566405318707321935748688511087, 40566115176409157314749170450543, 40566405318707321992923293155439, 40566076490930503678370093465711, 40566540718445235695973180637295, 40566521375632121861906385338479, 85073918046957040499099846057945727087, 40566115176390710649840298098799, 85073918046705583854833031292815147119, 85073918046705583937843401614740684911, 40566076490782929694994091475055, 40566540718297661712597178646639, 40566521375484547878530383347823, 2707814360720943931819095783640134179241771245638729875692814420339388298159670741921217767742435216423604019897063301330239593, 784655675864018113979241278807845858292561753760845529193, 784656050008437270690388338951163033661014785679576531049, 784657546586113897534976579524431735134826913354500538473, 784657920730533054246123639667748910503279945273231540329, 784658669019371367668417759954383261240186009110693544041, 784659043163790524379564820097700436608639041029424545897, 784674008940556792825447225830387451346760317778664620137, 784675131373814262958888406260338977452119413534857625705, 784675505518233419670035466403656152820572445453588627561, 784655675864196519940829523792978144038742940652893372521, 784656050008615676651976583936295319407195972571624374377, 784657546586292303496564824509564020881008100246548381801, 784657920730711460207711884652881196249461132165279383657, 784658669019549773630006004939515546986367196002741387369, 784659043163968930341153065082832722354820227921472389225, 784675131373992668920476651245471263198300600426905469033, 784675505518411825631623711388788438566753632345636470889, 784655675864374925902417768778110429784924127544941215849, 784656050008794082613564828921427605153377159463672217705, 784657172442051552747006009351379131258736255219865223273, 784657546586470709458153069494696306627189287138596225129, 784657920730889866169300129638013481995642319057327226985, 784658669019728179591594249924647832732548382894789230697, 784659043164147336302741310067965008101001414813520232553, 784674008940913604748623715800652022839122691562760306793, 784674757229751918170917836087286373576028755400222310505, 784675131374171074882064896230603548944481787318953312361, 784675505518590231593211956373920724312934819237684314217, 784655675864553331864006013763242715531105314436989059177, 784656050008972488575153073906559890899558346355720061033, 784657546586649115419741314479828592373370474030644068457, 784657920731068272130888374623145767741823505949375070313, 784658669019906585553182494909780118478729569786837074025, 784659043164325742264329555053097293847182601705568075881, 784675131374349480843653141215735834690662974211001155689, 784675505518768637554800201359053010059116006129732157545, 784655675864731737825594258748375001277286501329036902505, 784656050009150894536741318891692176645739533247767904361, 784657546586827521381329559464960878119551660922691911785, 784657920731246678092476619608278053488004692841422913641, 784658669020084991514770739894912404224910756678884917353, 784659043164504148225917800038229579593363788597615919209, 784674008941270416671800205770916594331485065346855993449, 784674757230108730094094326057550945068391129184317997161, 784675131374527886805241386200868120436844161103048999017, 784675505518947043516388446344185295805297193021780000873, 784655675864910143787182503733507287023467688221084745833, 784656050009329300498329563876824462391920720139815747689, 784657546587005927342917804450093163865732847814739755113, 784657920731425084054064864593410339234185879733470756969, 784658669020263397476358984880044689971091943570932760681, 784659043164682554187506045023361865339544975489663762537, 784675131374706292766829631186000406183025347995096842345, 784675505519125449477976691329317581551478379913827844201, 784655675865088549748770748718639572769648875113132589161, 784656050009507706459917808861956748138101907031863591017, 784657546587184333304506049435225449611914034706787598441, 784657920731603490015653109578542624980367066625518600297, 784658669020441803437947229865176975717273130462980604009, 784659043164860960149094290008494151085726162381711605865, 784674008941627228594976695741181165823847439130951680105, 784674757230465542017270816027815516560753502968413683817, 784675131374884698728417876171132691929206534887144685673, 784675505519303855439564936314449867297659566805875687529, 784655675865266955710358993703771858515830062005180432489, 784656050009686112421506053847089033884283093923911434345, 784657546587362739266094294420357735358095221598835441769, 784657920731781895977241354563674910726548253517566443625, 784658669020620209399535474850309261463454317355028447337, 784659043165039366110682534993626436831907349273759449193, 784675131375063104690006121156264977675387721779192529001, 784675505519482261401153181299582153043840753697923530857, 784656050009864518383094298832221319630464280815959277673, 784657172443121988516535479262172845735823376572152283241, 784657546587541145227682539405490021104276408490883285097, 784657920731960301938829599548807196472729440409614286953, 784658669020798615361123719835441547209635504247076290665, 784674008941984040518153185711445737316209812915047366761, 784674757230822353940447305998080088053115876752509370473, 784675131375241510651594366141397263421568908671240372329, 784675505519660667362741426284714438790021940589971374185, 784655675865623767633535483674036430008192435789276119145, 784656050010042924344682543817353605376645467708007121001, 784657172443300394478123724247305131482004563464200126569, 784657546587719551189270784390622306850457595382931128425, 784657920732138707900417844533939482218910627301662130281, 784658669020977021322711964820573832955816691139124133993, 784659043165396178033859024963891008324269723057855135849, 784674008942162446479741430696578023062390999807095210089, 784675131375419916613182611126529549167750095563288215657, 784655675872760006097065283079327859855439911471189852265, 784656050017179162808212343222645035223892943389920854121, 784656424161598319519359403365962210592345975308651855977, 784657172450436632941653523652596561329252039146113859689, 784657546594855789652800583795913736697705071064844861545, 784657920739274946363947643939230912066158102983575863401, 784658669028113259786241764225865262803064166821037867113, 784659043172532416497388824369182438171517198739768868969, 784674008949298684943271230101869452909638475489008943209, 784674757238136998365565350388503803646544539326470946921, 784675131382556155076712410531820979014997571245201948777, 784675505526975311787859470675138154383450603163932950633, 784655675872938412058653528064460145601621098363237695593, 784656050017357568769800588207777320970074130281968697449, 784657172450615038903241768637728847075433226038161703017, 784657546595034195614388828781046022443886257956892704873, 784657920739453352325535888924363197812339289875623706729, 784658669028291665747830009210997548549245353713085710441, 784659043172710822458977069354314723917698385631816712297, 784674008949477090904859475087001738655819662381056786537, 784674757238315404327153595373636089392725726218518790249, 784675131382734561038300655516953264761178758137249792105, 784675505527153717749447715660270440129631790055980793961, 784655675873116818020241773049592431347802285255285538921, 784656050017535974731388833192909606716255317174016540777, 784657172450793444864830013622861132821614412930209546345, 784657546595212601575977073766178308190067444848940548201, 784657920739631758287124133909495483558520476767671550057, 784658669028470071709418254196129834295426540605133553769, 784659043172889228420565314339447009663879572523864555625, 784674008949655496866447720072134024402000849273104629865, 784674757238493810288741840358768375138906913110566633577, 784675131382912966999888900502085550507359945029297635433, 784675505527332123711035960645402725875812976948028637289, 784655675873295223981830018034724717093983472147333382249, 784656050017714380692977078178041892462436504066064384105, 784657546595391007537565318751310593936248631740988391529, 784657920739810164248712378894627769304701663659719393385, 784658669028648477671006499181262120041607727497181397097, 784659043173067634382153559324579295410060759415912398953, 784675131383091372961477145487217836253541131921345478761, 784675505527510529672624205630535011621994163840076480617, 784655675873473629943418263019857002840164659039381225577, 784656050017892786654565323163174178208617690958112227433, 784657172451150256788006503593125704313976786714305233001, 784657546595569413499153563736442879682429818633036234857, 784657920739988570210300623879760055050882850551767236713, 784658669028826883632594744166394405787788914389229240425, 784659043173246040343741804309711581156241946307960242281, 784674008950012308789624210042398595894363223057200316521, 784674757238850622211918330329032946631269286894662320233, 784675131383269778923065390472350121999722318813393322089, 784675505527688935634212450615667297368175350732124323945, 784655675873652035905006508004989288586345845931429068905, 784656050018071192616153568148306463954798877850160070761, 784657546595747819460741808721575165428611005525084078185, 784657920740166976171888868864892340797064037443815080041, 784658669029005289594182989151526691533970101281277083753, 784659043173424446305330049294843866902423133200008085609, 784675131383448184884653635457482407745903505705441165417, 784675505527867341595800695600799583114356537624172167273]
def us0 : List Nat := [1645579097939857496827938599568861160633997785614177722257375327, 7237333410440057777947054478967012584455014025756423976850642608192585990239, 66752618599247636949385515016786649664644554901918485927857063544442727938334477591907231858783]
def lk : List Nat := [784655675864018113979241278807845858292561753760845529193, 784656050008437270690388338951163033661014785679576531049, 2707814360720943931819095783640134179241771245638729875692814420339388298159670741921217767742435216423604019897063301330239593, 2707814360720943931819095783640134179241771245638729875692814420339388298159670741921217767742435216423604019897063301330239593, 2707814360720943931819095783640134179241771245638729875692814420339388298159670741921217767742435216423604019897063301330239593, 784657546586113897534976579524431735134826913354500538473, 784657920730533054246123639667748910503279945273231540329, 2707814360720943931819095783640134179241771245638729875692814420339388298159670741921217767742435216423604019897063301330239593, 784658669019371367668417759954383261240186009110693544041, 784659043163790524379564820097700436608639041029424545897, 784674008940556792825447225830387451346760317778664620137, 2707814360720943931819095783640134179241771245638729875692814420339388298159670741921217767742435216423604019897063301330239593, 2707814360720943931819095783640134179241771245638729875692814420339388298159670741921217767742435216423604019897063301330239593, 784675131373814262958888406260338977452119413534857625705, 784675505518233419670035466403656152820572445453588627561, 2707814360720943931819095783640134179241771245638729875692814420339388298159670741921217767742435216423604019897063301330239593, 784655675864196519940829523792978144038742940652893372521, 784656050008615676651976583936295319407195972571624374377, 2707814360720943931819095783640134179241771245638729875692814420339388298159670741921217767742435216423604019897063301330239593, 2707814360720943931819095783640134179241771245638729875692814420339388298159670741921217767742435216423604019897063301330239593, 2707814360720943931819095783640134179241771245638729875692814420339388298159670741921217767742435216423604019897063301330239593, 784657546586292303496564824509564020881008100246548381801, 784657920730711460207711884652881196249461132165279383657, 2707814360720943931819095783640134179241771245638729875692814420339388298159670741921217767742435216423604019897063301330239593, 784658669019549773630006004939515546986367196002741387369, 784659043163968930341153065082832722354820227921472389225, 2707814360720943931819095783640134179241771245638729875692814420339388298159670741921217767742435216423604019897063301330239593, 2707814360720943931819095783640134179241771245638729875692814420339388298159670741921217767742435216423604019897063301330239593, 2707814360720943931819095783640134179241771245638729875692814420339388298159670741921217767742435216423604019897063301330239593, 784675131373992668920476651245471263198300600426905469033, 784675505518411825631623711388788438566753632345636470889, 2707814360720943931819095783640134179241771245638729875692814420339388298159670741921217767742435216423604019897063301330239593, 784655675864374925902417768778110429784924127544941215849, 784656050008794082613564828921427605153377159463672217705, 2707814360720943931819095783640134179241771245638729875692814420339388298159670741921217767742435216423604019897063301330239593, 2707814360720943931819095783640134179241771245638729875692814420339388298159670741921217767742435216423604019897063301330239593, 784657172442051552747006009351379131258736255219865223273, 784657546586470709458153069494696306627189287138596225129, 784657920730889866169300129638013481995642319057327226985, 2707814360720943931819095783640134179241771245638729875692814420339388298159670741921217767742435216423604019897063301330239593, 784658669019728179591594249924647832732548382894789230697, 784659043164147336302741310067965008101001414813520232553, 784674008940913604748623715800652022839122691562760306793, 2707814360720943931819095783640134179241771245638729875692814420339388298159670741921217767742435216423604019897063301330239593, 784674757229751918170917836087286373576028755400222310505, 784675131374171074882064896230603548944481787318953312361, 784675505518590231593211956373920724312934819237684314217, 2707814360720943931819095783640134179241771245638729875692814420339388298159670741921217767742435216423604019897063301330239593, 784655675864553331864006013763242715531105314436989059177, 784656050008972488575153073906559890899558346355720061033, 2707814360720943931819095783640134179241771245638729875692814420339388298159670741921217767742435216423604019897063301330239593, 2707814360720943931819095783640134179241771245638729875692814420339388298159670741921217767742435216423604019897063301330239593, 2707814360720943931819095783640134179241771245638729875692814420339388298159670741921217767742435216423604019897063301330239593, 784657546586649115419741314479828592373370474030644068457, 784657920731068272130888374623145767741823505949375070313, 2707814360720943931819095783640134179241771245638729875692814420339388298159670741921217767742435216423604019897063301330239593, 784658669019906585553182494909780118478729569786837074025, 784659043164325742264329555053097293847182601705568075881, 2707814360720943931819095783640134179241771245638729875692814420339388298159670741921217767742435216423604019897063301330239593, 2707814360720943931819095783640134179241771245638729875692814420339388298159670741921217767742435216423604019897063301330239593, 2707814360720943931819095783640134179241771245638729875692814420339388298159670741921217767742435216423604019897063301330239593, 784675131374349480843653141215735834690662974211001155689, 784675505518768637554800201359053010059116006129732157545, 2707814360720943931819095783640134179241771245638729875692814420339388298159670741921217767742435216423604019897063301330239593, 784655675864731737825594258748375001277286501329036902505, 784656050009150894536741318891692176645739533247767904361, 2707814360720943931819095783640134179241771245638729875692814420339388298159670741921217767742435216423604019897063301330239593, 2707814360720943931819095783640134179241771245638729875692814420339388298159670741921217767742435216423604019897063301330239593, 2707814360720943931819095783640134179241771245638729875692814420339388298159670741921217767742435216423604019897063301330239593, 784657546586827521381329559464960878119551660922691911785, 784657920731246678092476619608278053488004692841422913641, 2707814360720943931819095783640134179241771245638729875692814420339388298159670741921217767742435216423604019897063301330239593, 784658669020084991514770739894912404224910756678884917353, 784659043164504148225917800038229579593363788597615919209, 784674008941270416671800205770916594331485065346855993449, 2707814360720943931819095783640134179241771245638729875692814420339388298159670741921217767742435216423604019897063301330239593, 784674757230108730094094326057550945068391129184317997161, 784675131374527886805241386200868120436844161103048999017, 784675505518947043516388446344185295805297193021780000873, 2707814360720943931819095783640134179241771245638729875692814420339388298159670741921217767742435216423604019897063301330239593, 784655675864910143787182503733507287023467688221084745833, 784656050009329300498329563876824462391920720139815747689, 2707814360720943931819095783640134179241771245638729875692814420339388298159670741921217767742435216423604019897063301330239593, 2707814360720943931819095783640134179241771245638729875692814420339388298159670741921217767742435216423604019897063301330239593, 2707814360720943931819095783640134179241771245638729875692814420339388298159670741921217767742435216423604019897063301330239593, 784657546587005927342917804450093163865732847814739755113, 784657920731425084054064864593410339234185879733470756969, 2707814360720943931819095783640134179241771245638729875692814420339388298159670741921217767742435216423604019897063301330239593, 784658669020263397476358984880044689971091943570932760681, 784659043164682554187506045023361865339544975489663762537, 2707814360720943931819095783640134179241771245638729875692814420339388298159670741921217767742435216423604019897063301330239593, 2707814360720943931819095783640134179241771245638729875692814420339388298159670741921217767742435216423604019897063301330239593, 2707814360720943931819095783640134179241771245638729875692814420339388298159670741921217767742435216423604019897063301330239593, 784675131374706292766829631186000406183025347995096842345, 784675505519125449477976691329317581551478379913827844201, 2707814360720943931819095783640134179241771245638729875692814420339388298159670741921217767742435216423604019897063301330239593, 784655675865088549748770748718639572769648875113132589161, 784656050009507706459917808861956748138101907031863591017, 2707814360720943931819095783640134179241771245638729875692814420339388298159670741921217767742435216423604019897063301330239593, 2707814360720943931819095783640134179241771245638729875692814420339388298159670741921217767742435216423604019897063301330239593, 2707814360720943931819095783640134179241771245638729875692814420339388298159670741921217767742435216423604019897063301330239593, 784657546587184333304506049435225449611914034706787598441, 784657920731603490015653109578542624980367066625518600297, 2707814360720943931819095783640134179241771245638729875692814420339388298159670741921217767742435216423604019897063301330239593, 784658669020441803437947229865176975717273130462980604009, 784659043164860960149094290008494151085726162381711605865, 784674008941627228594976695741181165823847439130951680105, 2707814360720943931819095783640134179241771245638729875692814420339388298159670741921217767742435216423604019897063301330239593, 784674757230465542017270816027815516560753502968413683817, 784675131374884698728417876171132691929206534887144685673, 784675505519303855439564936314449867297659566805875687529, 2707814360720943931819095783640134179241771245638729875692814420339388298159670741921217767742435216423604019897063301330239593, 784655675865266955710358993703771858515830062005180432489, 784656050009686112421506053847089033884283093923911434345, 2707814360720943931819095783640134179241771245638729875692814420339388298159670741921217767742435216423604019897063301330239593, 2707814360720943931819095783640134179241771245638729875692814420339388298159670741921217767742435216423604019897063301330239593, 2707814360720943931819095783640134179241771245638729875692814420339388298159670741921217767742435216423604019897063301330239593, 784657546587362739266094294420357735358095221598835441769, 784657920731781895977241354563674910726548253517566443625, 2707814360720943931819095783640134179241771245638729875692814420339388298159670741921217767742435216423604019897063301330239593, 784658669020620209399535474850309261463454317355028447337, 784659043165039366110682534993626436831907349273759449193, 2707814360720943931819095783640134179241771245638729875692814420339388298159670741921217767742435216423604019897063301330239593, 2707814360720943931819095783640134179241771245638729875692814420339388298159670741921217767742435216423604019897063301330239593, 2707814360720943931819095783640134179241771245638729875692814420339388298159670741921217767742435216423604019897063301330239593, 784675131375063104690006121156264977675387721779192529001, 784675505519482261401153181299582153043840753697923530857, 2707814360720943931819095783640134179241771245638729875692814420339388298159670741921217767742435216423604019897063301330239593, 2707814360720943931819095783640134179241771245638729875692814420339388298159670741921217767742435216423604019897063301330239593, 784656050009864518383094298832221319630464280815959277673, 2707814360720943931819095783640134179241771245638729875692814420339388298159670741921217767742435216423604019897063301330239593, 2707814360720943931819095783640134179241771245638729875692814420339388298159670741921217767742435216423604019897063301330239593, 784657172443121988516535479262172845735823376572152283241, 784657546587541145227682539405490021104276408490883285097, 784657920731960301938829599548807196472729440409614286953, 2707814360720943931819095783640134179241771245638729875692814420339388298159670741921217767742435216423604019897063301330239593, 784658669020798615361123719835441547209635504247076290665, 2707814360720943931819095783640134179241771245638729875692814420339388298159670741921217767742435216423604019897063301330239593, 784674008941984040518153185711445737316209812915047366761, 2707814360720943931819095783640134179241771245638729875692814420339388298159670741921217767742435216423604019897063301330239593, 784674757230822353940447305998080088053115876752509370473, 784675131375241510651594366141397263421568908671240372329, 784675505519660667362741426284714438790021940589971374185, 2707814360720943931819095783640134179241771245638729875692814420339388298159670741921217767742435216423604019897063301330239593, 784655675865623767633535483674036430008192435789276119145, 784656050010042924344682543817353605376645467708007121001, 2707814360720943931819095783640134179241771245638729875692814420339388298159670741921217767742435216423604019897063301330239593, 2707814360720943931819095783640134179241771245638729875692814420339388298159670741921217767742435216423604019897063301330239593, 784657172443300394478123724247305131482004563464200126569, 784657546587719551189270784390622306850457595382931128425, 784657920732138707900417844533939482218910627301662130281, 2707814360720943931819095783640134179241771245638729875692814420339388298159670741921217767742435216423604019897063301330239593, 784658669020977021322711964820573832955816691139124133993, 784659043165396178033859024963891008324269723057855135849, 784674008942162446479741430696578023062390999807095210089, 2707814360720943931819095783640134179241771245638729875692814420339388298159670741921217767742435216423604019897063301330239593, 2707814360720943931819095783640134179241771245638729875692814420339388298159670741921217767742435216423604019897063301330239593, 784675131375419916613182611126529549167750095563288215657, 2707814360720943931819095783640134179241771245638729875692814420339388298159670741921217767742435216423604019897063301330239593, 2707814360720943931819095783640134179241771245638729875692814420339388298159670741921217767742435216423604019897063301330239593, 784655675872760006097065283079327859855439911471189852265, 784656050017179162808212343222645035223892943389920854121, 784656424161598319519359403365962210592345975308651855977, 2707814360720943931819095783640134179241771245638729875692814420339388298159670741921217767742435216423604019897063301330239593, 784657172450436632941653523652596561329252039146113859689, 784657546594855789652800583795913736697705071064844861545, 784657920739274946363947643939230912066158102983575863401, 2707814360720943931819095783640134179241771245638729875692814420339388298159670741921217767742435216423604019897063301330239593, 784658669028113259786241764225865262803064166821037867113, 784659043172532416497388824369182438171517198739768868969, 784674008949298684943271230101869452909638475489008943209, 2707814360720943931819095783640134179241771245638729875692814420339388298159670741921217767742435216423604019897063301330239593, 784674757238136998365565350388503803646544539326470946921, 784675131382556155076712410531820979014997571245201948777, 784675505526975311787859470675138154383450603163932950633, 2707814360720943931819095783640134179241771245638729875692814420339388298159670741921217767742435216423604019897063301330239593, 784655675872938412058653528064460145601621098363237695593, 784656050017357568769800588207777320970074130281968697449, 2707814360720943931819095783640134179241771245638729875692814420339388298159670741921217767742435216423604019897063301330239593, 2707814360720943931819095783640134179241771245638729875692814420339388298159670741921217767742435216423604019897063301330239593, 784657172450615038903241768637728847075433226038161703017, 784657546595034195614388828781046022443886257956892704873, 784657920739453352325535888924363197812339289875623706729, 2707814360720943931819095783640134179241771245638729875692814420339388298159670741921217767742435216423604019897063301330239593, 784658669028291665747830009210997548549245353713085710441, 784659043172710822458977069354314723917698385631816712297, 784674008949477090904859475087001738655819662381056786537, 2707814360720943931819095783640134179241771245638729875692814420339388298159670741921217767742435216423604019897063301330239593, 784674757238315404327153595373636089392725726218518790249, 784675131382734561038300655516953264761178758137249792105, 784675505527153717749447715660270440129631790055980793961, 2707814360720943931819095783640134179241771245638729875692814420339388298159670741921217767742435216423604019897063301330239593, 784655675873116818020241773049592431347802285255285538921, 784656050017535974731388833192909606716255317174016540777, 2707814360720943931819095783640134179241771245638729875692814420339388298159670741921217767742435216423604019897063301330239593, 2707814360720943931819095783640134179241771245638729875692814420339388298159670741921217767742435216423604019897063301330239593, 784657172450793444864830013622861132821614412930209546345, 784657546595212601575977073766178308190067444848940548201, 784657920739631758287124133909495483558520476767671550057, 2707814360720943931819095783640134179241771245638729875692814420339388298159670741921217767742435216423604019897063301330239593, 784658669028470071709418254196129834295426540605133553769, 784659043172889228420565314339447009663879572523864555625, 784674008949655496866447720072134024402000849273104629865, 2707814360720943931819095783640134179241771245638729875692814420339388298159670741921217767742435216423604019897063301330239593, 784674757238493810288741840358768375138906913110566633577, 784675131382912966999888900502085550507359945029297635433, 784675505527332123711035960645402725875812976948028637289, 2707814360720943931819095783640134179241771245638729875692814420339388298159670741921217767742435216423604019897063301330239593, 784655675873295223981830018034724717093983472147333382249, 784656050017714380692977078178041892462436504066064384105, 2707814360720943931819095783640134179241771245638729875692814420339388298159670741921217767742435216423604019897063301330239593, 2707814360720943931819095783640134179241771245638729875692814420339388298159670741921217767742435216423604019897063301330239593, 2707814360720943931819095783640134179241771245638729875692814420339388298159670741921217767742435216423604019897063301330239593, 784657546595391007537565318751310593936248631740988391529, 784657920739810164248712378894627769304701663659719393385, 2707814360720943931819095783640134179241771245638729875692814420339388298159670741921217767742435216423604019897063301330239593, 784658669028648477671006499181262120041607727497181397097, 784659043173067634382153559324579295410060759415912398953, 2707814360720943931819095783640134179241771245638729875692814420339388298159670741921217767742435216423604019897063301330239593, 2707814360720943931819095783640134179241771245638729875692814420339388298159670741921217767742435216423604019897063301330239593, 2707814360720943931819095783640134179241771245638729875692814420339388298159670741921217767742435216423604019897063301330239593, 784675131383091372961477145487217836253541131921345478761, 784675505527510529672624205630535011621994163840076480617, 2707814360720943931819095783640134179241771245638729875692814420339388298159670741921217767742435216423604019897063301330239593, 784655675873473629943418263019857002840164659039381225577, 784656050017892786654565323163174178208617690958112227433, 2707814360720943931819095783640134179241771245638729875692814420339388298159670741921217767742435216423604019897063301330239593, 2707814360720943931819095783640134179241771245638729875692814420339388298159670741921217767742435216423604019897063301330239593, 784657172451150256788006503593125704313976786714305233001, 784657546595569413499153563736442879682429818633036234857, 784657920739988570210300623879760055050882850551767236713, 2707814360720943931819095783640134179241771245638729875692814420339388298159670741921217767742435216423604019897063301330239593, 784658669028826883632594744166394405787788914389229240425, 784659043173246040343741804309711581156241946307960242281, 784674008950012308789624210042398595894363223057200316521, 2707814360720943931819095783640134179241771245638729875692814420339388298159670741921217767742435216423604019897063301330239593, 784674757238850622211918330329032946631269286894662320233, 784675131383269778923065390472350121999722318813393322089, 784675505527688935634212450615667297368175350732124323945, 2707814360720943931819095783640134179241771245638729875692814420339388298159670741921217767742435216423604019897063301330239593, 784655675873652035905006508004989288586345845931429068905, 784656050018071192616153568148306463954798877850160070761, 2707814360720943931819095783640134179241771245638729875692814420339388298159670741921217767742435216423604019897063301330239593, 2707814360720943931819095783640134179241771245638729875692814420339388298159670741921217767742435216423604019897063301330239593, 2707814360720943931819095783640134179241771245638729875692814420339388298159670741921217767742435216423604019897063301330239593, 784657546595747819460741808721575165428611005525084078185, 784657920740166976171888868864892340797064037443815080041, 2707814360720943931819095783640134179241771245638729875692814420339388298159670741921217767742435216423604019897063301330239593, 784658669029005289594182989151526691533970101281277083753, 784659043173424446305330049294843866902423133200008085609, 2707814360720943931819095783640134179241771245638729875692814420339388298159670741921217767742435216423604019897063301330239593, 2707814360720943931819095783640134179241771245638729875692814420339388298159670741921217767742435216423604019897063301330239593, 2707814360720943931819095783640134179241771245638729875692814420339388298159670741921217767742435216423604019897063301330239593, 784675131383448184884653635457482407745903505705441165417, 784675505527867341595800695600799583114356537624172167273, 2707814360720943931819095783640134179241771245638729875692814420339388298159670741921217767742435216423604019897063301330239593]
def nI : Nat := 1423
def tI : Nat := 1710
theorem ec_ok (w : World) (os : OsState) : EcOk PP 11 annV (Array.mk []) boot_drawn os w (ec w) where
  n24 := rfl
  n26 := rfl
  A := rfl
  kind := by kernel_rfl
  code := rfl
  locals := rfl
  rec27 := ⟨_, _, _, _, _, rfl, rfl, rfl, rfl, rfl, rfl, rfl⟩
  built := fun c t pos => by
    unfold builtinsFor nsGet
    refine XR.at_n (n := (1 + 0) + (1 + 0)) ?_ rfl
    refine XR_bind (a := some (.ref 4)) (h₁ := mkH (ec w).b c) (t₁ := t) (pos₁ := pos) ?_ ?_
    · refine XR_bind (XR_load (mkH_A (i := 3) (o := o3a w) rfl (by decide) rfl)) ?_
      rw [show nsLook "__builtins__" (o3a w) = pure (some (.ref 4)) by kernel_rfl]
      exact XR_pure
    · dsimp only
      rw [if_neg (by exact Bool.false_ne_true)]
      refine XR_bind (XR_load (mkH_A (i := 4) (o := boot_o_4 w.params) rfl (by decide) rfl)) ?_
      exact XR_pure
  name := fun c t pos => by
    unfold nsGet
    refine XR.at_n (n := 1 + 0) ?_ rfl
    refine XR_bind (XR_load (mkH_A (i := 3) (o := o3a w) rfl (by decide) rfl)) ?_
    rw [show nsLook "__name__" (o3a w) = pure (some pmV) by kernel_rfl]
    exact XR_pure
theorem cb_len : Nat.ble 217 cb.length = true := by decide +kernel
theorem row_is : row.map (·.1) = cb.take 214 := mkRow_fst cb nums (Nat.le_trans (by decide) (Nat.le_of_ble_eq_true cb_len))
theorem row_ok : rowOk row 29 208 = true := by decide +kernel
theorem row_chk : chk us0 0 (row.map (·.1)) ks = true := by decide +kernel
theorem row_st : ∀ x ∈ row, stB x.1 = true := List.all_eq_true.mp (show row.all (fun x => stB x.1) = true by decide +kernel)
theorem row_T : Nat.beq (rowT row 208) tI = true := by decide +kernel
theorem row_N : Nat.beq (rowN row 29) nI = true := by decide +kernel
end
end M6
namespace M6
noncomputable section
theorem cb_split : cb.take 214 ++ [cst 214, cst 215, cst 216] = cb := by
  have : cb.drop 214 = [cst 214, cst 215, cst 216] := by kernel_rfl
  rw [← this, List.take_append_drop]
theorem names_is : cenv.scope.names.map (·.1) = cb.map bindOf := by kernel_rfl
theorem names_loc : cenv.scope.names.all (fun x => x.2 == .local) = true := by decide +kernel
theorem kinds : ∀ st ∈ cb, cenv.kindOf (bindOf st) = some .local := fun st hs => lookup_local names_loc (by rw [names_is]; exact List.mem_map_of_mem hs)
theorem row_small : ∀ x ∈ row, small (bindOf x.1) = true := List.all_eq_true.mp (show row.all (fun x => small (bindOf x.1)) = true by decide +kernel)
theorem row_len : row.length = ks.length := by decide +kernel
theorem lf1 : cst 214 = lForm (cst 214) := by kernel_rfl
theorem lf2 : cst 215 = lForm (cst 215) := by kernel_rfl
theorem lf3 : cst 216 = lForm (cst 216) := by kernel_rfl
def dbg : Nat := 784673260660103558151603359403565393192537316679948959839
theorem dbg_is : dbg = enc ("__debug__" : Str) := by kernel_rfl
theorem lc1 : chkL ks dbg (lEs (cst 214)) lk = true := by decide +kernel
theorem lc2 : chkL ks dbg (lEs (cst 215)) [] = true := by decide +kernel
theorem lc3 : chkL ks dbg (lEs (cst 216)) [] = true := by decide +kernel
def us1 : List Nat := ks.reverse ++ us0
def k1 : Nat := 374165114256677376805797941628899760194654742511721
def k2 : Nat := 784675505529116182050862292951028498782043682562763653219
def k3 : Nat := 3451062406498622282229097528363228327365908006738419574344662300754021
theorem k1_is : Nat.beq k1 (enc (bindOf (cst 214))) = true := by decide +kernel
theorem k2_is : Nat.beq k2 (enc (bindOf (cst 215))) = true := by decide +kernel
theorem k3_is : Nat.beq k3 (enc (bindOf (cst 216))) = true := by decide +kernel
theorem us_is : lastUs (row.map (·.1)) ks us0 = us1 := by kernel_rfl
theorem aw1 : awayN k1 us1 = true := by decide +kernel
theorem aw2 : awayN k2 (k1 :: us1) = true := by decide +kernel
theorem aw3 : awayN k3 (k2 :: k1 :: us1) = true := by decide +kernel
theorem tk1 : Nat.beq (lTk (lEs (cst 214)) tI) 1710 = true := by decide +kernel
theorem tk2 : Nat.beq (lTk (lEs (cst 215)) 1711) 1967 = true := by decide +kernel
theorem tk3 : Nat.beq (lTk (lEs (cst 216)) 1968) 2224 = true := by decide +kernel
theorem ln1 : Nat.ble (lEs (cst 214)).length 1000 = true := by decide +kernel
theorem ln2 : Nat.ble (lEs (cst 215)).length 1000 = true := by decide +kernel
theorem ln3 : Nat.ble (lEs (cst 216)).length 1000 = true := by decide +kernel
theorem in0 : enc (S "__module__") ∈ us0 := by decide +kernel
theorem in1 : enc (S "__qualname__") ∈ us0 := by decide +kernel
theorem in2 : enc (S "__firstlineno__") ∈ us0 := by decide +kernel
theorem I0 (w : World) : Inv us0 0 ⟨[], ns0 w, []⟩ := ⟨fun x hx => by
    rcases List.mem_cons.mp hx with rfl | hx
    · exact ⟨_, _, rfl, in0⟩
    · rcases List.mem_cons.mp hx with rfl | hx
      · exact ⟨_, _, rfl, in1⟩
      · obtain rfl := List.mem_singleton.mp hx
        exact ⟨_, _, rfl, in2⟩, fun x hx => nomatch hx⟩
theorem cb_row : row.map (·.1) ++ [cst 214, cst 215, cst 216] = cb := by rw [row_is]; exact cb_split
abbrev T1 : Nat := 1710
abbrev T2 : Nat := 1967
abbrev T3 : Nat := 2224
def objF (w : World) : List Obj := objG (ec w) w (ns0 w) row (cst 214) (cst 215) (cst 216) tI T1 T2 nI
def nsF (w : World) : List DictEntry := nsD w (ns0 w) row (cst 214) (cst 215) (cst 216) T1 T2 T3 nI
theorem body_run (w : World) (os : OsState) : XR PP 11 annV (Array.mk []) boot_drawn os w (stepsG row (cst 214) (cst 215) (cst 216)) (execs cb (ec w).env) (mkH (ec w).b ⟨[], ns0 w, []⟩) 208 p109 .next (mkH (ec w).b ⟨objF w, nsF w, rPl row⟩) (T3 + 1) (endOf (cst 216)) :=
  body_gen (lk := lk) (ec_ok w os) (I0 w) cb_row kinds row_ok row_chk row_st (Nat.eq_of_beq_eq_true row_T) (Nat.eq_of_beq_eq_true row_N) row_small row_len lf1 lf2 lf3 dbg_is lc1 lc2 lc3 us_is k1_is k2_is k3_is aw1 aw2 aw3 (Nat.eq_of_beq_eq_true tk1) (Nat.eq_of_beq_eq_true tk2) (Nat.eq_of_beq_eq_true tk3) (Nat.le_of_ble_eq_true ln1) (Nat.le_of_ble_eq_true ln2) (Nat.le_of_ble_eq_true ln3)
end
end M6
namespace M6
noncomputable section
def LB (w : World) : List Obj := A109 w ++ (nsObj (nsF w) :: o25 :: plObj (rPl row) :: o27 :: o28 :: objF w)
def SB (w : World) (os : OsState) : SharedT := ⟨btOf 11 (LB w), nI + 3, (boot_heap w.params).life, Array.mk [], boot_drawn, T3 + 1, os⟩
def thB (w : World) (os : OsState) : Thread := ⟨doneF .next, .body cb cenv, endOf (cst 216), fr1 w os :: (stk w os).tail⟩
def noQ : List DictEntry → List DictEntry
  | a :: _ :: r => a :: r
  | l => l
def o3F (w : World) : Obj := ⟨(.type "dict"), none, .dict #[⟨h w (S "__name__"), .str (S "__name__") 165, (.str (S "law_me0006_07") 2249)⟩, ⟨h w (S "__doc__"), .str (S "__doc__") 166, .none⟩, ⟨h w (S "__package__"), .str (S "__package__") 167, .none⟩, ⟨h w (S "__loader__"), .str (S "__loader__") 168, (.builtin "__main__.__loader__#opaque")⟩, ⟨h w (S "__spec__"), .str (S "__spec__") 169, .none⟩, ⟨h w (S "__annotations__"), .str (S "__annotations__") 170, (.ref 6)⟩, ⟨h w (S "__builtins__"), .str (S "__builtins__") 171, (.ref 4)⟩, ⟨h w (S "__file__"), .str (S "__file__") 173, (.str (S "/claim/cut.py") 172)⟩, ⟨h w (S "__cached__"), .str (S "__cached__") 174, .none⟩, ⟨h w (S "_wall"), .str (S "_wall") 193, (.ref 21)⟩, ⟨h w (S "MPU"), .str (S "MPU") 2248, (.ref 1428)⟩, ⟨h w (S "_law_sum"), .str (S "_law_sum") 2257, (.ref 1439)⟩, ⟨h w (S "law"), .str (S "law") 2263, (.ref 1444)⟩] 13, #[]⟩
def o12F : Obj := ⟨.none, none, .fields #[(.int 1 0), (.int 0 0), (.ref 20), (.int 5 0), (.int 0 0), (.ref 27), (.int 1038 0), (.int 0 0), (.ref 1438), (.int 1040 0), (.int 0 0), (.ref 1443)], #[]⟩
def eS (w : World) : DictEntry := ⟨h w (S "__static_attributes__"), .str (S "__static_attributes__") 2241, (.ref 1426)⟩
def o1427 (w : World) : Obj := ⟨.type "dict", none, .dict (noQ (nsF w) ++ eS w :: [⟨h w (S "__dict__"), .str (S "__dict__") 2243, (.ref 1429)⟩, ⟨h w (S "__weakref__"), .str (S "__weakref__") 2245, (.ref 1430)⟩, ⟨h w (S "__doc__"), .str (S "__doc__") 2246, .none⟩]).toArray 4, #[]⟩
def o1426 : Obj := ⟨(.type "tuple"), none, .seq #[(.str (S "a") 2225), (.str (S "addcycles") 2226), (.str (S "addrHighMask") 2227), (.str (S "addrMask") 2228), (.str (S "byteMask") 2229), (.str (S "excycles") 2230), (.str (S "memory") 2231), (.str (S "name") 2232), (.str (S "p") 2233), (.str (S "pc") 2234), (.str (S "processorCycles") 2235), (.str (S "sp") 2236), (.str (S "spBase") 2237), (.str (S "start_pc") 2238), (.str (S "x") 2239), (.str (S "y") 2240)] 0, #[]⟩
def o1428 : Obj := ⟨(.type "type"), none, .cls { name := (S "MPU"), bases := [(.type "object")], mro := [(.ref 1428), (.type "object")], ns := 1427, qualname := (S "MPU"), hasDict := true, slotNames := [], subclasses := [], abstract := false, collection := none, hasDel := false }, #[none, none, some (.str (S "MPU") 196), some (.str (S "MPU") 204), some (.builtin "object.__new__"), some (.bool true)]⟩
def o1429 : Obj := ⟨(.type "getset_descriptor"), none, .fields #[(.str (S "__dict__") 2242), (.ref 1428), (.builtin "function.__dict__"), (.builtin "function.__dict__#set")], #[]⟩
def o1430 : Obj := ⟨(.type "getset_descriptor"), none, .fields #[(.str (S "__weakref__") 2244), (.ref 1428), (.builtin "ExceptionGroup.__weakref__"), .none], #[]⟩
def o1431 : Obj := ⟨(.type "super"), none, .fields #[(.ref 1428), (.ref 1428), (.ref 1428)], #[]⟩
def o1432 : Obj := ⟨(.type "builtin_function_or_method"), none, .fields #[(.builtin "object.__init_subclass__"), (.ref 1428)], #[]⟩
def o1433 : Obj := ⟨(.type "tuple"), none, .seq #[] 0, #[]⟩
def o1434 : Obj := ⟨.none, none, .fields #[], #[]⟩
def o1435 : Obj := ⟨(.type "tuple"), none, .seq #[(.str (S "part") 2254)] 0, #[]⟩
def o1436 : Obj := ⟨(.type "tuple"), none, .seq #[] 0, #[]⟩
def o1437 : Obj := ⟨.none, none, .func { name := (S "_law_sum"), qualname := (S "_law_sum"), params := sArgs (pst 4), body := .stmts (sBody (pst 4)), scope := sScope (pst 4), globals := 0, closure := [], defaults := .none, kwdefaults := .none, doc := .none, pyModule := .none, annotations := none, code := .none, closureTuple := .none, builtins := 0 }, #[]⟩
def o1438 : Obj := ⟨(.type "code"), none, .fields #[(.str (S "_law_sum") 2251), (.str (S "_law_sum") 2252), (.str (S "/claim/cut.py") 2253), (.int 1038 0), (.int 1 0), (.int 0 0), (.int 0 0), (.int 3 0), (.ref 1433), (.bool true), (.int 181 0), (.ref 1434), .none, (.ref 1435), (.ref 1436), (.ref 1437), (.int 2255 0), (.int 1038 0), (.str (S "/claim/cut.py") 2256)], #[]⟩
def o1439 : Obj := ⟨(.type "function"), none, .func { name := (S "_law_sum"), qualname := (S "_law_sum"), params := sArgs (pst 4), body := .stmts (sBody (pst 4)), scope := sScope (pst 4), globals := 3, closure := [], defaults := .none, kwdefaults := .none, doc := .none, pyModule := (.str (S "law_me0006_07") 2249), annotations := none, code := (.ref 1438), closureTuple := .none, builtins := 0 }, #[]⟩
def o1440 : Obj := ⟨(.type "tuple"), none, .seq #[] 0, #[]⟩
def o1441 : Obj := ⟨.none, none, .fields #[], #[]⟩
def o1442 : Obj := ⟨.none, none, .func { name := (S "law"), qualname := (S "law"), params := sArgs (pst lawI), body := .stmts (sBody (pst lawI)), scope := sScope (pst lawI), globals := 0, closure := [], defaults := .none, kwdefaults := .none, doc := .none, pyModule := .none, annotations := none, code := .none, closureTuple := .none, builtins := 0 }, #[]⟩
def o1443 : Obj := ⟨(.type "code"), none, .fields #[(.str (S "law") 2258), (.str (S "law") 2259), (.str (S "/claim/cut.py") 2260), (.int 1040 0), (.int 1 0), (.int 0 0), (.int 0 0), (.int 3 0), (.ref 1440), (.bool true), (.int 181 0), (.ref 1441), .none, .none, .none, (.ref 1442), (.int 2261 0), (.int 1040 0), (.str (S "/claim/cut.py") 2262)], #[]⟩
def o1444 : Obj := ⟨(.type "function"), none, .func { name := (S "law"), qualname := (S "law"), params := sArgs (pst lawI), body := .stmts (sBody (pst lawI)), scope := sScope (pst lawI), globals := 3, closure := [], defaults := .none, kwdefaults := .none, doc := .none, pyModule := (.str (S "law_me0006_07") 2249), annotations := none, code := (.ref 1443), closureTuple := .none, builtins := 0 }, #[]⟩
def LN (w : World) : List Obj := [o1426, o1427 w, o1428, o1429, o1430, o1431, o1432, o1433, o1434, o1435, o1436, o1437, o1438, o1439, o1440, o1441, o1442, o1443, o1444]
def AF (w : World) : List Obj := [boot_o_0 w.params, boot_o_1 w.params, boot_o_2 w.params, o3F w, boot_o_4 w.params, boot_o_5 w.params, boot_o_6 w.params, boot_o_7 w.params, boot_o_8 w.params, boot_o_9 w.params, boot_o_10 w.params, o11, o12F, o13, o14, o15, o16, o17, o18, o19, o20, o21, o22, o23]
def LF (w : World) : List Obj := AF w ++ (nsObj (nsF w ++ [eS w]) :: o25 :: plObj (rPl row) :: o27 :: o28 :: (objF w ++ LN w))
def SF (w : World) (os : OsState) : SharedT := ⟨btOf 11 (LF w), 1445, (boot_heap w.params).life, Array.mk [], boot_drawn, 2264, os⟩
theorem fin_is (w : World) (os : OsState) : (PySem.W.Fast.tw10110043849684766642 PySem.W.Fast.tw14364793385576792824 PP w 11 annV 0 414 (SB w os) (thB w os)).map (fun r => r.2.1) = some (SF w os) := by kernel_rfl
end
end M6
namespace M6
noncomputable section
theorem seg_topRun {tb : String → Option Builtin} {p : Program} {w : World} {n₀ : Nat} {ann : Option Value} : ∀ (n : Nat) (s : Shared) (t : Thread) (r : Flow × Shared × Code × Pos), segRun tb p w n₀ ann 0 n s t = some r → topRun tb p w n₀ ann n s t = some r.2.1
  | 0, _, _, _, h => by cases h
  | n + 1, s, t, r, h => by
    unfold segRun at h
    unfold topRun
    have key : through t = (endAt 0 t).isSome := by
      unfold through endAt
      cases t with
      | mk cur code pos stack =>
        cases stack with
        | nil =>
          cases cur with
          | pure f => cases f <;> rfl
          | _ => rfl
        | cons a b => rfl
    rw [key]
    cases he : endAt 0 t with
    | some f => rw [he] at h; cases h; rfl
    | none =>
      rw [he] at h
      dsimp only [Option.isSome] at h ⊢
      cases hk : stepOk n₀ ann t with
      | false => rw [hk] at h; cases h
      | true =>
        rw [hk] at h
        cases hs : step (denote tb) p w s t with
        | halt o s₂ => rw [hs] at h; cases h
        | go s₂ t₂ => rw [hs] at h; exact seg_topRun n s₂ t₂ r h
theorem L0_heap (w : World) : absHeap (btOf 4 (L0 w)) 11 (boot_heap w.params).life = boot_heap w.params := by
  have := absHeap_btOf (k := 4) (l := L0 w) (life := (boot_heap w.params).life) (by decide : 11 < 2 ^ 4)
  exact this.trans rfl
theorem L109_heap (w : World) : absHeap (btOf 5 (L109 w)) 29 (boot_heap w.params).life = mkH (bs w) ⟨[], ns0 w, []⟩ := by
  have := absHeap_btOf (k := 5) (l := L109 w) (life := (boot_heap w.params).life) (by decide : 29 < 2 ^ 5)
  exact this.trans rfl
theorem objF_len (w : World) : (objF w).length = (rObjs (ec w) row).length + 3 := by
  unfold objF objG
  simp only [List.length_append, List.length_singleton]
theorem rObjs_len (w : World) : 29 + (rObjs (ec w) row).length = nI := (rowN_is row 29 208 row_ok row_st).trans (Nat.eq_of_beq_eq_true row_N)
theorem A109_len (w : World) : (A109 w).length = 24 := rfl
theorem LB_len (w : World) : (LB w).length = nI + 3 := by
  unfold LB
  rw [List.length_append, A109_len]
  simp only [List.length_cons]
  rw [objF_len]
  have := rObjs_len w
  omega
theorem LB_heap (w : World) : absHeap (btOf 11 (LB w)) (nI + 3) (boot_heap w.params).life = mkH (bs w) ⟨objF w, nsF w, rPl row⟩ := by
  have := absHeap_btOf (k := 11) (l := LB w) (life := (boot_heap w.params).life) (by rw [LB_len]; decide)
  rw [LB_len] at this
  exact this
theorem start_no : blockStart cb cenv = pure () := by kernel_rfl
theorem body_tree : denote treeTable (.body cb cenv) = (execs cb cenv).wrap doneF (leaveH cenv) id id := by
  rw [body_wrap, start_no]
  rfl
def stepsT : Nat := 109 + (stepsG row (cst 214) (cst 215) (cst 216) + 414)
theorem run_all (w : World) (os : OsState) : topRun treeTable PP w 11 annV stepsT ⟨boot_heap w.params, Array.mk [], boot_drawn, boot_toks, os⟩ (topStub PP) = some (SF w os).abs := by
  have g1 : segGoT treeTable PP w 11 annV 0 109 (S0 w os) (topStub PP) = some (S109 w os, ⟨denote treeTable (.body cb cenv), .body cb cenv, p109, fr1 w os :: (stk w os).tail⟩) := by
    rw [PySem.W.Fast.te10295753902157049106, PySem.W.Fast.te14364793385576792824, PySem.W.Fast.te11892475500146522536]
    exact go109_is w os
  have r1 := Rn.go (segGo_of g1)
  have e0 : (S0 w os).abs = ⟨boot_heap w.params, Array.mk [], boot_drawn, boot_toks, os⟩ := by
    show (⟨absHeap (btOf 4 (L0 w)) 11 (boot_heap w.params).life, Array.mk [], boot_drawn, boot_toks, os⟩ : Shared) = _
    rw [L0_heap]
  have e1 : (S109 w os).abs = ⟨mkH (bs w) ⟨[], ns0 w, []⟩, Array.mk [], boot_drawn, 208, os⟩ := by
    show (⟨absHeap (btOf 5 (L109 w)) 29 (boot_heap w.params).life, Array.mk [], boot_drawn, 208, os⟩ : Shared) = _
    rw [L109_heap]
  have e2 : (SB w os).abs = ⟨mkH (bs w) ⟨objF w, nsF w, rPl row⟩, Array.mk [], boot_drawn, T3 + 1, os⟩ := by
    show (⟨absHeap (btOf 11 (LB w)) (nI + 3) (boot_heap w.params).life, Array.mk [], boot_drawn, T3 + 1, os⟩ : Shared) = _
    rw [LB_heap]
  rw [e0, e1, body_tree] at r1
  have r2 := (body_run w os).run doneF (leaveH cenv) id id (.body cb cenv) (fr1 w os) (stk w os).tail
  obtain ⟨r, h3, h4⟩ := Option.map_eq_some_iff.mp (fin_is w os)
  have g3 : segRunT treeTable PP w 11 annV 0 414 (SB w os) (thB w os) = some r := by
    rw [PySem.W.Fast.te10110043849684766642, PySem.W.Fast.te14364793385576792824]
    exact h3
  obtain ⟨f, s', c, q⟩ := r
  dsimp only at h4
  subst h4
  have g4 := segRun_of g3
  rw [e2] at g4
  have z := (r1.trans r2) 414 _ g4
  rw [Nat.add_assoc] at z
  exact seg_topRun _ _ _ _ z
def wOf (P : Params) : World := ⟨fun _ _ => 0, P⟩
theorem LF_wOf (w : World) : LF (wOf w.params) = LF w := by kernel_rfl
def HF (P : Params) : Heap := ⟨(LF (wOf P)).toArray, (boot_heap P).life⟩
theorem LF_len (w : World) : (LF w).length = 1445 := by
  have h1 : (AF w).length = 24 := rfl
  have h2 : (LN w).length = 19 := rfl
  have h3 := rObjs_len w
  have h4 : nI = 1423 := rfl
  unfold LF
  rw [List.length_append, h1]
  simp only [List.length_cons, List.length_append]
  rw [objF_len, h2]
  omega
theorem SF_abs (w : World) (os : OsState) : (SF w os).abs = ⟨HF w.params, Array.mk [], boot_drawn, 2264, os⟩ := by
  show (⟨absHeap (btOf 11 (LF w)) 1445 (boot_heap w.params).life, Array.mk [], boot_drawn, 2264, os⟩ : Shared) = _
  have := absHeap_btOf (k := 11) (l := LF w) (life := (boot_heap w.params).life) (by rw [LF_len]; decide)
  rw [LF_len] at this
  rw [this, ← LF_wOf]
  rfl
theorem open_ok : opening PP = plainProg PP.main.scope.names := by kernel_rfl
theorem fence_ok (s : Shared) : fenceModules? PP s = some s := by kernel_rfl
def NN : Nat := 20000
theorem open_is : ∀ w : World, (fencedOpening treeTable PP w NN).map (fun s => (s.heap, s.gens, s.drawn, s.toks)) = some (boot_heap w.params, Array.mk [], boot_drawn, boot_toks) := boot_open open_ok rfl fence_ok
theorem size_is (w : World) : ((boot_heap w.params).isNs mainGlobals && (Array.mk [] : Array GenState).size == 0, (boot_heap w.params).objs.size, (boot_heap w.params).nsMap mainGlobals "__annotations__") = (true, 11, annV) := by kernel_rfl
theorem le_is : Nat.ble stepsT NN = true := by decide +kernel
end
end M6
namespace M6
noncomputable section
def qq : Program := { PP with main := { PP.main with body := [pst 5] } }
def loo : List Str := [S "_wall", S "MPU", S "_law_sum"]
abbrev SX (P : Params) (os : OsState) : Shared := ⟨HF P, Array.mk [], boot_drawn, 2264, os⟩
theorem k1a (P : Params) : staticsOk (importedModules PP.main.body) (boot_heap P) (HF P) = true := by kernel_rfl
theorem k1b (P : Params) : namesBound PP (HF P) = true := by kernel_rfl
theorem k1c (P : Params) (os : OsState) : gensDone (SX P os) = true := by kernel_rfl
theorem k1d (P : Params) : laidKept (boot_heap P) (HF P) = true := by kernel_rfl
end
end M6
namespace M6
noncomputable section
abbrev Xt : Shared → Bool := fun _ => true
theorem ka (P : Params) (os : OsState) : seen ((recsOf qq).map (·.name)) (ownsOf qq) [] { SX P os with gens := #[] } = expectedOf qq := by
  rw [PySem.W.Fast.te5160383126252970620]; kernel_rfl
theorem kb (P : Params) : (HF P).bltView = bltViewBooted := by kernel_rfl
theorem kc (P : Params) (os : OsState) : ((HF P).keysOk (looseW qq loo) ((recsOf qq).map (·.name)) ((litsOf qq).map (·.1)) ((clssOf qq (looseW qq loo)).map (·.name)) && (HF P).accountedOkI (importedModules PP.main.body) && (HF P).isNs mainGlobals && (HF P).isNs builtinsNs && tablesOk qq (HF P) && Xt (SX P os) && (if true then (SX P os).gens.size == 0 else !leftWithCleanup (SX P os).gens)) = true := by
  kernel_rfl
theorem kd (P : Params) (os : OsState) : tabsOk qq (SX P os) = true := by kernel_rfl
theorem ke (P : Params) (os : OsState) : pinSeenD qq (drecsOf qq) (SX P os) = pinGoodD (drecsOf qq) := by kernel_rfl
theorem kf (P : Params) (os : OsState) : plainSeenE qq (looseW qq loo) (SX P os) = plainGoodE qq (looseW qq loo) := by kernel_rfl
theorem kg (P : Params) (os : OsState) : plainSeenD qq loo (SX P os) = plainGoodD qq loo := by kernel_rfl
theorem kh (P : Params) (os : OsState) : wideSeen qq (SX P os) = wideGood qq := by kernel_rfl
theorem ki (P : Params) (os : OsState) : clsSeenW qq loo (SX P os) = clsGoodW qq loo := by kernel_rfl
end
end M6
namespace M6
noncomputable section
theorem left : LeftO PP qq loo Xt (fun s => s.heap) (fun w => HF w.params) NN :=
  LeftO.of_pieces open_is size_is (fun w os => (run_all w os).trans (congrArg some (SF_abs w os))) le_is fun w => funext fun os =>
    looks_pair (look_both (look_both (look_both (k1a w.params) (k1b w.params)) (k1c w.params os)) (k1d w.params))
      (looks_pair (looks_pair (ka w.params os) (looks_pair (kb w.params) (looks_pair (kc w.params os) (looks_pair (kd w.params os) (looks_pair (ke w.params os) (looks_pair (kf w.params os) (looks_pair (kg w.params os) (looks_pair (kh w.params os) (ki w.params os))))))))) rfl)
end
end M6
namespace M6
theorem said_all : PySem.Challenge.rw_me0006_07.wellSaid = true := by
  rw [PySem.W.Fast.te9446332074065402090]
  decide +kernel
end M6
namespace M6
theorem tw_all : PP.tablesWhole = true := by
  unfold Program.tablesWhole TablesWhole.wProgram
  rw [PySem.W.Fast.te6116379765354995101]
  decide +kernel
end M6
namespace M6
noncomputable section
abbrev RL : OpenLaw := PySem.Challenge.rw_me0006_07
def sPos : Stmt → Pos
  | .FunctionDef _ _ _ _ _ _ _ _ _ q => q
  | _ => default
abbrev YP (w : World) (h : Heap) : Prop := ∀ b o, (HF w.params).get? b = some o → h.get? b = some o
def dL : DefRec := ⟨S "law", sArgs (pst 5), sBody (pst 5), sScope (pst 5), sPos (pst 5)⟩
theorem def_is : defOf qq RL.row.name = some (dL, []) := by kernel_rfl
theorem bare_is : RL.row.prog.bare := ⟨rfl, rfl, rfl, rfl, rfl, tw_all⟩
theorem holds_of_walk (hw : RL.row.toRowW.promised) (walk : WalkO qq loo (fun _ _ => True) YP RL.row.toRowW dL [] fun f vs => PySem.call f vs) : RL.Holds :=
  holds_law said_all fun said => holds_open (q := qq) (loose := loo) (Xt := Xt) (XP := fun _ _ => True) (Yf := fun s => s.heap) (Ya := fun w => HF w.params) (YP := YP) (N := NN) (d := dL) (kwd := []) left
    (fun w s e b o h => by rw [show s.heap = HF w.params from e]; exact h) (fun w h h' y k b o e => k b o (y b o e)) (fun _ _ => trivial) (fun _ _ _ _ _ => trivial) def_is (by kernel_rfl) (by kernel_rfl) (fun s _ => recFacts_nil rfl) rfl said (by decide +kernel) bare_is hw walk
end
end M6
namespace VE
open M6
/-- How an object is made. -/
structure InitOk (G : Gl nm Z7) : Prop where
  D : FnOk G 36 [0, 9, 11] (sName (cst 15)) ("MPU." ++ sName (cst 15)) (sArgs (cst 15)) (sBody (cst 15)) (sScope (cst 15)) (.ref 29) .none .none (.str "py65.devices.mpu6502" 194) (.ref 35) .none (.type "function") none none #[]
  O : NewOk G
  i : findIn G.K (.ref G.C) "__init__" = some (some (.ref 36))
  f : isFn G.K (.ref 36) = true
  g : nsIn G.K mainGlobals (Str.ofString "MPU") = some (some (.ref G.C))
  b : ∀ (s : Shared) v vs, G.K.In s.heap → vs.length + 1 = [0, 9, 11].length → BindsTo s (fnOf (sName (cst 15)) ("MPU." ++ sName (cst 15)) (sArgs (cst 15)) (sBody (cst 15)) (sScope (cst 15)) (.ref 29) .none .none (.str "py65.devices.mpu6502" 194) none (.ref 35) .none) ⟨[v], [Str.ofString "memory", Str.ofString "pc"].zip vs⟩ (([0, 9, 11].map nm).zip (v :: vs))
noncomputable def w__law_sum : WX := (wSeq (wRet (wFrz (wList (wAc (wFrz (wList (wAc (wInt 24) wA0))) (wAc (wFrz (wList (wAc (wInt 165) (wAc (wInt 32) wA0)))) (wAc (wFrz (wList (wAc (wInt 105) (wAc (wName 101) wA0)))) (wAc (wFrz (wList (wAc (wInt 133) (wAc (wInt 32) wA0)))) (wAc (wFrz (wList (wAc (wInt 165) (wAc (wInt 33) wA0)))) (wAc (wFrz (wList (wAc (wInt 105) (wAc (wInt 0) wA0)))) (wAc (wFrz (wList (wAc (wInt 133) (wAc (wInt 33) wA0)))) wA0)))))))))) wNil)
theorem s__law_sum {G : Gl nm Z7} : SB G (sScope (pst 4)) (sBody (pst 4)) w__law_sum := (SB_cons (SX_ret (SE_frz (S0_list (SA_cons (SE_frz (S0_list (SA_cons SE_int SA_nil (fun _ => rfl)))) (SA_cons (SE_frz (S0_list (SA_cons SE_int (SA_cons SE_int SA_nil (fun _ => rfl)) (fun _ => rfl)))) (SA_cons (SE_frz (S0_list (SA_cons SE_int (SA_cons (SE_name (n := 101) rfl) SA_nil (fun _ => rfl)) (fun _ => rfl)))) (SA_cons (SE_frz (S0_list (SA_cons SE_int (SA_cons SE_int SA_nil (fun _ => rfl)) (fun _ => rfl)))) (SA_cons (SE_frz (S0_list (SA_cons SE_int (SA_cons SE_int SA_nil (fun _ => rfl)) (fun _ => rfl)))) (SA_cons (SE_frz (S0_list (SA_cons SE_int (SA_cons SE_int SA_nil (fun _ => rfl)) (fun _ => rfl)))) (SA_cons (SE_frz (S0_list (SA_cons SE_int (SA_cons SE_int SA_nil (fun _ => rfl)) (fun _ => rfl)))) SA_nil (fun _ => rfl)) (fun _ => rfl)) (fun _ => rfl)) (fun _ => rfl)) (fun _ => rfl)) (fun _ => rfl)) (fun _ => rfl))))) SB_nil)
noncomputable def T7L : Defs := (1439, [101], w__law_sum) :: T7
noncomputable def w_law_27 : WX := wNil
theorem s_law_27 {G : Gl nm Z7} : SB G dL.scope (dL.body.drop 27) w_law_27 := SB_nil
/-- return memory[:256] == kept[:256] and memory[512:] == kept[512:] -/
noncomputable def w_law_26 : WX := wSeq (wRet (wAndE (wCmp .Eq (wFrz (wSli (wName 9) wP0 (wP (wInt 256)))) (wFrz (wSli (wName 116) wP0 (wP (wInt 256))))) (wCmp .Eq (wFrz (wSli (wName 9) (wP (wInt 512)) wP0)) (wFrz (wSli (wName 116) (wP (wInt 512)) wP0))))) w_law_27
theorem s_law_26 {G : Gl nm Z7} : SB G dL.scope (dL.body.drop 26) w_law_26 := SB_cons (SX_ret (SE_and (SE_cmp (SE_frz (S0_slice (SE_name (n := 9) rfl) SP_none (SP_some SE_int))) (SE_frz (S0_slice (SE_name (n := 116) rfl) SP_none (SP_some SE_int))) rfl) (SE_one (SE_cmp (SE_frz (S0_slice (SE_name (n := 9) rfl) (SP_some SE_int) SP_none)) (SE_frz (S0_slice (SE_name (n := 116) rfl) (SP_some SE_int) SP_none)) rfl)))) (s_law_27)
/-- if seen != told or (mpu.pc, mpu.sp, mpu.p // 4 % 4) != (end, 255, shut): -/
noncomputable def w_law_25 : WX := wSeq (wIf (wOrT (wCmpT .NotEq (wName 133) (wName 130)) (wOrT (wCmpT .NotEq (wTup (wAc (wAttr Z7 11 (wName 119)) (wAc (wAttr Z7 12 (wName 119)) (wAc (wBin .Mod (wBin .FloorDiv (wAttr Z7 16 (wName 119)) (wInt 4)) (wInt 4)) wA0)))) (wTup (wAc (wName 112) (wAc (wInt 255) (wAc (wName 126) wA0))))) wFF)) (wSeq (wRet (wBool false)) wNil) wNil) w_law_26
theorem s_law_25 {G : Gl nm Z7} : SB G dL.scope (dL.body.drop 25) w_law_25 := SB_cons (SX_if (ST_or (ST_cmp (SE_name (n := 133) rfl) (SE_name (n := 130) rfl) rfl) (ST_or (ST_cmp (SE_tup (SA_cons (SE_attr (n := 11) (SE_name (n := 119) rfl) rfl (fun _ => rfl)) (SA_cons (SE_attr (n := 12) (SE_name (n := 119) rfl) rfl (fun _ => rfl)) (SA_cons (SE_bin (SE_bin (SE_attr (n := 16) (SE_name (n := 119) rfl) rfl (fun _ => rfl)) SE_int) SE_int) SA_nil (fun _ => rfl)) (fun _ => rfl)) (fun _ => rfl))) (SE_tup (SA_cons (SE_name (n := 112) rfl) (SA_cons SE_int (SA_cons (SE_name (n := 126) rfl) SA_nil (fun _ => rfl)) (fun _ => rfl)) (fun _ => rfl))) rfl) ST_or0)) (SB_cons (SX_ret SE_bool) SB_nil) SB_nil) (s_law_26)
/-- kept[35] = ([kept[35]] + lives)[-1] -/
noncomputable def w_law_24 : WX := wSeq (wAsS (wName 116) (wInt 35) (wSub (wFrz (wCat (wFrz (wList (wAc (wSub (wName 116) (wInt 35)) wA0))) (wName 122))) (wNeg (wInt 1)))) w_law_25
theorem s_law_24 {G : Gl nm Z7} : SB G dL.scope (dL.body.drop 24) w_law_24 := SB_cons (SX_asS (SE_sub (SE_frz (S0_cat (SE_frz (S0_list (SA_cons (SE_sub (SE_name (n := 116) rfl) SE_int (fun _ _ => rfl)) SA_nil (fun _ => rfl)))) (SE_name (n := 122) rfl))) (SE_neg SE_int) (fun _ _ => rfl)) (SE_name (n := 116) rfl) SE_int (fun _ => rfl)) (s_law_25)
/-- kept[32], kept[33], kept[34] = (whole % 256, whole // 256, (kept[34] + taken) % 256) -/
noncomputable def w_law_23 : WX := wSeq (wAsT 3 (wTup (wAc (wBin .Mod (wName 120) (wInt 256)) (wAc (wBin .FloorDiv (wName 120) (wInt 256)) (wAc (wBin .Mod (wBin .Add (wSub (wName 116) (wInt 34)) (wName 129)) (wInt 256)) wA0)))) (wTc (wTS (wName 116) (wInt 32)) (wTc (wTS (wName 116) (wInt 33)) (wTc (wTS (wName 116) (wInt 34)) wT0)))) w_law_24
theorem s_law_23 {G : Gl nm Z7} : SB G dL.scope (dL.body.drop 23) w_law_23 := SB_cons (SX_asT (SE_tup (SA_cons (SE_bin (SE_name (n := 120) rfl) SE_int) (SA_cons (SE_bin (SE_name (n := 120) rfl) SE_int) (SA_cons (SE_bin (SE_bin (SE_sub (SE_name (n := 116) rfl) SE_int (fun _ _ => rfl)) (SE_name (n := 129) rfl)) SE_int) SA_nil (fun _ => rfl)) (fun _ => rfl)) (fun _ => rfl))) (SSs_cons (SS_S (SE_name (n := 116) rfl) SE_int) (SSs_cons (SS_S (SE_name (n := 116) rfl) SE_int) (SSs_cons (SS_S (SE_name (n := 116) rfl) SE_int) SSs_nil (fun _ => rfl)) (fun _ => rfl)) (fun _ => rfl)) (fun _ => rfl) (fun _ => by kernel_rfl) (fun _ => rfl)) (s_law_24)
/-- whole = (begun + sums + own * taken) % 65536 -/
noncomputable def w_law_22 : WX := wSeq (wAsg 120 (wBin .Mod (wBin .Add (wBin .Add (wName 107) (wName 121)) (wBin .Mult (wName 106) (wName 129))) (wInt 65536))) w_law_23
theorem s_law_22 {G : Gl nm Z7} : SB G dL.scope (dL.body.drop 22) w_law_22 := SB_cons (SX_asg (n := 120) (SE_bin (SE_bin (SE_bin (SE_name (n := 107) rfl) (SE_name (n := 121) rfl)) (SE_bin (SE_name (n := 106) rfl) (SE_name (n := 129) rfl))) SE_int) rfl (.inl (by kernel_rfl)) (fun _ => rfl)) (s_law_23)
/-- for number in range(len(steps)): -/
@[irreducible] noncomputable def w_law_21 : WX := wSeq (wFor (wRng (wAc (wLen (wAc (wName 111) wA0)) wA0)) (wTN 118) (wSeq (wIf (wCmpT .In (wName 118) (wName 117)) (wSeq (wAsg 128 (wInt 1)) wNil) wNil) (wSeq (wIf (wCmpT .Eq (wName 128) (wInt 1)) (wSeq (wAsB [137, 113] (wTup (wAc (wAttr Z7 12 (wName 119)) (wAc (wAttr Z7 11 (wName 119)) wA0)))) (wSeq (wExpr (wFrz (wMeth Z7 36 (wName 119) wA0))) (wSeq (wIf (wCmpT .NotEq (wAttr Z7 12 (wName 119)) (wName 137)) (wSeq (wAsg 128 (wInt 0)) (wSeq (wExpr (wApp (wName 133) (wName 118))) (wSeq (wFor (wRng (wAc (wLen (wAc (wName 114) wA0)) wA0)) (wTN 108) (wSeq (wExpr (wFrz (wMeth Z7 34 (wName 119) wA0))) wNil)) (wSeq (wIf (wCmpT .NotEq (wTup (wAc (wAttr Z7 11 (wName 119)) (wAc (wAttr Z7 12 (wName 119)) wA0))) (wTup (wAc (wName 113) (wAc (wName 137) wA0)))) (wSeq (wRet (wBool false)) wNil) wNil) wNil)))) wNil) wNil))) wNil) (wSeq (wExpr (wFrz (wMeth Z7 34 (wName 119) wA0))) wNil)))) w_law_22
theorem s_law_21 {G : Gl nm Z7} : SB G dL.scope (dL.body.drop 21) w_law_21 := by unfold w_law_21; exact (SB_cons (SX_for (SI_range 123 (SA_cons (SE_len 135 (SA_cons (SE_name (n := 111) rfl) SA_nil (fun _ => rfl)) ⟨rfl, rfl, by kernel_rfl, by kernel_rfl, by decide +kernel⟩ (fun _ => rfl)) SA_nil (fun _ => rfl)) ⟨rfl, rfl, by kernel_rfl, by kernel_rfl, by decide +kernel⟩ (fun _ => rfl)) (SS_N (n := 118) rfl (.inl (by kernel_rfl))) (SB_cons (SX_if (ST_cmp (SE_name (n := 118) rfl) (SE_name (n := 117) rfl) rfl) (SB_cons (SX_asg (n := 128) SE_int rfl (.inl (by kernel_rfl)) (fun _ => rfl)) SB_nil) SB_nil) (SB_cons (SX_if (ST_cmp (SE_name (n := 128) rfl) SE_int rfl) (SB_cons (SX_asB (ns := [137, 113]) (SE_tup (SA_cons (SE_attr (n := 12) (SE_name (n := 119) rfl) rfl (fun _ => rfl)) (SA_cons (SE_attr (n := 11) (SE_name (n := 119) rfl) rfl (fun _ => rfl)) SA_nil (fun _ => rfl)) (fun _ => rfl))) (by intro n hn; simp only [List.mem_cons, List.not_mem_nil, or_false] at hn; rcases hn with rfl | rfl <;> exact .inl (by kernel_rfl)) (fun _ => rfl) (fun _ => by kernel_rfl)) (SB_cons (SX_expr (SE_frz (S0_meth (n := 36) (SE_name (n := 119) rfl) SA_nil rfl (fun _ => ⟨_, rfl⟩))) (fun _ => rfl)) (SB_cons (SX_if (ST_cmp (SE_attr (n := 12) (SE_name (n := 119) rfl) rfl (fun _ => rfl)) (SE_name (n := 137) rfl) rfl) (SB_cons (SX_asg (n := 128) SE_int rfl (.inl (by kernel_rfl)) (fun _ => rfl)) (SB_cons (SX_expr (SE_app (SE_name (n := 133) rfl) (SE_name (n := 118) rfl) rfl (fun _ => rfl) (fun _ => ⟨_, rfl⟩)) (fun _ => rfl)) (SB_cons (SX_for (SI_range 123 (SA_cons (SE_len 135 (SA_cons (SE_name (n := 114) rfl) SA_nil (fun _ => rfl)) ⟨rfl, rfl, by kernel_rfl, by kernel_rfl, by decide +kernel⟩ (fun _ => rfl)) SA_nil (fun _ => rfl)) ⟨rfl, rfl, by kernel_rfl, by kernel_rfl, by decide +kernel⟩ (fun _ => rfl)) (SS_N (n := 108) rfl (.inl (by kernel_rfl))) (SB_cons (SX_expr (SE_frz (S0_meth (n := 34) (SE_name (n := 119) rfl) SA_nil rfl (fun _ => ⟨_, rfl⟩))) (fun _ => rfl)) SB_nil) (fun _ _ => rfl)) (SB_cons (SX_if (ST_cmp (SE_tup (SA_cons (SE_attr (n := 11) (SE_name (n := 119) rfl) rfl (fun _ => rfl)) (SA_cons (SE_attr (n := 12) (SE_name (n := 119) rfl) rfl (fun _ => rfl)) SA_nil (fun _ => rfl)) (fun _ => rfl))) (SE_tup (SA_cons (SE_name (n := 113) rfl) (SA_cons (SE_name (n := 137) rfl) SA_nil (fun _ => rfl)) (fun _ => rfl))) rfl) (SB_cons (SX_ret SE_bool) SB_nil) SB_nil) SB_nil)))) SB_nil) SB_nil))) SB_nil) (SB_cons (SX_expr (SE_frz (S0_meth (n := 34) (SE_name (n := 119) rfl) SA_nil rfl (fun _ => ⟨_, rfl⟩))) (fun _ => rfl)) SB_nil))) (fun _ _ => rfl)) (s_law_22))
/-- line, seen = (0, []) -/
@[irreducible] noncomputable def w_law_20 : WX := wSeq (wAsE [128, 133] (wAc (wInt 0) (wAcO (wList wA0) wA0))) w_law_21
theorem s_law_20 {G : Gl nm Z7} : SB G dL.scope (dL.body.drop 20) w_law_20 := by unfold w_law_20; exact (SB_cons (SX_asE (ns := [128, 133]) (SA_cons SE_int (SA_consO (S0_list SA_nil) SA_nil (fun _ => rfl)) (fun _ => rfl)) (by intro n hn; simp only [List.mem_cons, List.not_mem_nil, or_false] at hn; rcases hn with rfl | rfl <;> exact .inl (by kernel_rfl)) (fun _ => rfl) (fun _ => by kernel_rfl)) (s_law_21))
/-- mpu = MPU(memory=memory, pc=512) -/
@[irreducible] noncomputable def w_law_19 : WX := wSeq (wAsg 119 (wNew T7 [0, 9, 11] w_uinit (wAc (wName 9) (wAc (wInt 512) wA0)))) w_law_20
theorem s_law_19 {G : Gl nm Z7} (hT : ∀ f ns b, getN f T7 = some (ns, b) → DefOk G f ns b) (hI : InitOk G) : SB G dL.scope (dL.body.drop 19) w_law_19 := by unfold w_law_19; exact (SB_cons (SX_asg (n := 119) (SE_new (T := T7) (kn := [Str.ofString "memory", Str.ofString "pc"]) (n := 132) hT (hI.D) s_uinit hI.O hI.i hI.f (by kernel_rfl) rfl hI.g (by kernel_rfl) (SK_cons (SE_name (n := 9) rfl) (SK_cons SE_int SK_nil)) hI.b (fun _ => rfl) (fun _ => rfl) (fun _ => rfl) (fun _ => rfl)) rfl (.inl (by kernel_rfl)) (fun _ => rfl)) (s_law_20))
/-- for number in range(len(steps)): -/
@[irreducible] noncomputable def w_law_18 : WX := wSeq (wFor (wRng (wAc (wLen (wAc (wName 111) wA0)) wA0)) (wTN 118) (wSeq (wIf (wCmpT .In (wName 118) (wName 117)) (wSeq (wAsg 128 (wInt 1)) wNil) wNil) (wSeq (wIf (wAndT (wCmpT .Eq (wName 128) (wInt 1)) (wAndT (wCmpT .Eq (wName 126) (wInt 0)) wTT)) (wSeq (wAsg 128 (wInt 0)) (wSeq (wAuN 129 .Add (wInt 1)) (wSeq (wExpr (wApp (wName 130) (wName 118))) wNil))) wNil) (wSeq (wAsg 131 (wSub (wSub (wName 111) (wName 118)) (wInt 0))) (wSeq (wIf (wCmpT .Eq (wName 131) (wInt 8)) (wSeq (wExpr (wApp (wName 127) (wName 126))) wNil) (wSeq (wIf (wCmpT .Eq (wName 131) (wInt 40)) (wSeq (wAsg 126 (wPop (wName 127))) wNil) (wSeq (wIf (wCmpT .In (wName 131) (wFrz (wList (wAc (wInt 88) (wAc (wInt 120) wA0))))) (wSeq (wAsg 126 (wIfE (wCmpT .Eq (wName 131) (wInt 120)) (wInt 1) (wInt 0))) wNil) wNil) wNil)) wNil)) wNil))))) w_law_19
theorem s_law_18 {G : Gl nm Z7} (hT : ∀ f ns b, getN f T7 = some (ns, b) → DefOk G f ns b) (hI : InitOk G) : SB G dL.scope (dL.body.drop 18) w_law_18 := by unfold w_law_18; exact (SB_cons (SX_for (SI_range 123 (SA_cons (SE_len 135 (SA_cons (SE_name (n := 111) rfl) SA_nil (fun _ => rfl)) ⟨rfl, rfl, by kernel_rfl, by kernel_rfl, by decide +kernel⟩ (fun _ => rfl)) SA_nil (fun _ => rfl)) ⟨rfl, rfl, by kernel_rfl, by kernel_rfl, by decide +kernel⟩ (fun _ => rfl)) (SS_N (n := 118) rfl (.inl (by kernel_rfl))) (SB_cons (SX_if (ST_cmp (SE_name (n := 118) rfl) (SE_name (n := 117) rfl) rfl) (SB_cons (SX_asg (n := 128) SE_int rfl (.inl (by kernel_rfl)) (fun _ => rfl)) SB_nil) SB_nil) (SB_cons (SX_if (ST_and (ST_cmp (SE_name (n := 128) rfl) SE_int rfl) (ST_and (ST_cmp (SE_name (n := 126) rfl) SE_int rfl) ST_and0)) (SB_cons (SX_asg (n := 128) SE_int rfl (.inl (by kernel_rfl)) (fun _ => rfl)) (SB_cons (SX_auN (n := 129) SE_int rfl (.inl (by kernel_rfl))) (SB_cons (SX_expr (SE_app (SE_name (n := 130) rfl) (SE_name (n := 118) rfl) rfl (fun _ => rfl) (fun _ => ⟨_, rfl⟩)) (fun _ => rfl)) SB_nil))) SB_nil) (SB_cons (SX_asg (n := 131) (SE_sub (SE_sub (SE_name (n := 111) rfl) (SE_name (n := 118) rfl) (fun _ _ => rfl)) SE_int (fun _ _ => rfl)) rfl (.inl (by kernel_rfl)) (fun _ => rfl)) (SB_cons (SX_if (ST_cmp (SE_name (n := 131) rfl) SE_int rfl) (SB_cons (SX_expr (SE_app (SE_name (n := 127) rfl) (SE_name (n := 126) rfl) rfl (fun _ => rfl) (fun _ => ⟨_, rfl⟩)) (fun _ => rfl)) SB_nil) (SB_cons (SX_if (ST_cmp (SE_name (n := 131) rfl) SE_int rfl) (SB_cons (SX_asg (n := 126) (SE_pop (SE_name (n := 127) rfl) rfl (fun _ => ⟨_, rfl⟩)) rfl (.inl (by kernel_rfl)) (fun _ => rfl)) SB_nil) (SB_cons (SX_if (ST_cmp (SE_name (n := 131) rfl) (SE_frz (S0_list (SA_cons SE_int (SA_cons SE_int SA_nil (fun _ => rfl)) (fun _ => rfl)))) rfl) (SB_cons (SX_asg (n := 126) (SE_if (ST_cmp (SE_name (n := 131) rfl) SE_int rfl) SE_int SE_int) rfl (.inl (by kernel_rfl)) (fun _ => rfl)) SB_nil) SB_nil) SB_nil)) SB_nil)) SB_nil)))) (fun _ _ => rfl)) (s_law_19 hT hI))
/-- shut, saved, line, taken, told = (0, [], 0, 0, []) -/
@[irreducible] noncomputable def w_law_17 : WX := wSeq (wAsD 5 (wAc (wInt 0) (wAcO (wList wA0) (wAc (wInt 0) (wAc (wInt 0) (wAcO (wList wA0) wA0))))) (wTc (wTN 126) (wTc (wTN 127) (wTc (wTN 128) (wTc (wTN 129) (wTc (wTN 130) wT0)))))) w_law_18
theorem s_law_17 {G : Gl nm Z7} (hT : ∀ f ns b, getN f T7 = some (ns, b) → DefOk G f ns b) (hI : InitOk G) : SB G dL.scope (dL.body.drop 17) w_law_17 := by unfold w_law_17; exact (SB_cons (SX_asD (SA_cons SE_int (SA_consO (S0_list SA_nil) (SA_cons SE_int (SA_cons SE_int (SA_consO (S0_list SA_nil) SA_nil (fun _ => rfl)) (fun _ => rfl)) (fun _ => rfl)) (fun _ => rfl)) (fun _ => rfl)) (SSs_cons (SS_N (n := 126) rfl (.inl (by kernel_rfl))) (SSs_cons (SS_N (n := 127) rfl (.inl (by kernel_rfl))) (SSs_cons (SS_N (n := 128) rfl (.inl (by kernel_rfl))) (SSs_cons (SS_N (n := 129) rfl (.inl (by kernel_rfl))) (SSs_cons (SS_N (n := 130) rfl (.inl (by kernel_rfl))) SSs_nil (fun _ => rfl)) (fun _ => rfl)) (fun _ => rfl)) (fun _ => rfl)) (fun _ => rfl)) (fun _ => rfl) (fun _ => by kernel_rfl) (fun _ => rfl)) (s_law_18 hT hI))
/-- rises = [(seeds[turn % len(seeds)] // 3 + 13 * turn) % len(steps) for turn in range(3 + len(script[:4]))] -/
@[irreducible] noncomputable def w_law_16 : WX := wSeq (wAsC 117 (wRng (wAc (wBin .Add (wInt 3) (wLen (wAc (wFrz (wSli (wName 103) wP0 (wP (wInt 4)))) wA0))) wA0)) (wTN 108) (wBin .Mod (wBin .Add (wBin .FloorDiv (wSub (wName 105) (wBin .Mod (wName 108) (wLen (wAc (wName 105) wA0)))) (wInt 3)) (wBin .Mult (wInt 13) (wName 108))) (wLen (wAc (wName 111) wA0))) [111, 105]) w_law_17
theorem s_law_16 {G : Gl nm Z7} (hT : ∀ f ns b, getN f T7 = some (ns, b) → DefOk G f ns b) (hI : InitOk G) : SB G dL.scope (dL.body.drop 16) w_law_16 := by unfold w_law_16; exact (SB_cons (SX_asC (n := 117) (CompOk.of (fv := [111, 105]) (by kernel_rfl)) (SI_range 123 (SA_cons (SE_bin SE_int (SE_len 135 (SA_cons (SE_frz (S0_slice (SE_name (n := 103) rfl) SP_none (SP_some SE_int))) SA_nil (fun _ => rfl)) ⟨rfl, rfl, by kernel_rfl, by kernel_rfl, by decide +kernel⟩ (fun _ => rfl))) SA_nil (fun _ => rfl)) ⟨rfl, rfl, by kernel_rfl, by kernel_rfl, by decide +kernel⟩ (fun _ => rfl)) (SS_N (n := 108) rfl (.inl (by kernel_rfl))) (SE_bin (SE_bin (SE_bin (SE_sub (SE_name (n := 105) rfl) (SE_bin (SE_name (n := 108) rfl) (SE_len 135 (SA_cons (SE_name (n := 105) rfl) SA_nil (fun _ => rfl)) ⟨rfl, rfl, by kernel_rfl, by kernel_rfl, by decide +kernel⟩ (fun _ => rfl))) (fun _ _ => rfl)) SE_int) (SE_bin SE_int (SE_name (n := 108) rfl))) (SE_len 135 (SA_cons (SE_name (n := 111) rfl) SA_nil (fun _ => rfl)) ⟨rfl, rfl, by kernel_rfl, by kernel_rfl, by decide +kernel⟩ (fun _ => rfl))) (fun _ _ => rfl) rfl (.inl (by kernel_rfl)) (fun _ => by kernel_rfl)) (s_law_17 hT hI))
/-- kept = memory[:] -/
@[irreducible] noncomputable def w_law_15 : WX := wSeq (wOwn 116 (wSli (wName 9) wP0 wP0)) w_law_16
theorem s_law_15 {G : Gl nm Z7} (hT : ∀ f ns b, getN f T7 = some (ns, b) → DefOk G f ns b) (hI : InitOk G) : SB G dL.scope (dL.body.drop 15) w_law_15 := by unfold w_law_15; exact (SB_cons (SX_own (n := 116) (S0_slice (SE_name (n := 9) rfl) SP_none SP_none) rfl (.inl (by kernel_rfl)) (fun _ => rfl)) (s_law_16 hT hI))
/-- memory[32], memory[33] = (begun % 256, begun // 256) -/
@[irreducible] noncomputable def w_law_14 : WX := wSeq (wAsT 2 (wTup (wAc (wBin .Mod (wName 107) (wInt 256)) (wAc (wBin .FloorDiv (wName 107) (wInt 256)) wA0))) (wTc (wTS (wName 9) (wInt 32)) (wTc (wTS (wName 9) (wInt 33)) wT0))) w_law_15
theorem s_law_14 {G : Gl nm Z7} (hT : ∀ f ns b, getN f T7 = some (ns, b) → DefOk G f ns b) (hI : InitOk G) : SB G dL.scope (dL.body.drop 14) w_law_14 := by unfold w_law_14; exact (SB_cons (SX_asT (SE_tup (SA_cons (SE_bin (SE_name (n := 107) rfl) SE_int) (SA_cons (SE_bin (SE_name (n := 107) rfl) SE_int) SA_nil (fun _ => rfl)) (fun _ => rfl))) (SSs_cons (SS_S (SE_name (n := 9) rfl) SE_int) (SSs_cons (SS_S (SE_name (n := 9) rfl) SE_int) SSs_nil (fun _ => rfl)) (fun _ => rfl)) (fun _ => rfl) (fun _ => by kernel_rfl) (fun _ => rfl)) (s_law_15 hT hI))
/-- memory[65534], memory[65535] = (0, 192) -/
@[irreducible] noncomputable def w_law_13 : WX := wSeq (wAsT 2 (wTup (wAc (wInt 0) (wAc (wInt 192) wA0))) (wTc (wTS (wName 9) (wInt 65534)) (wTc (wTS (wName 9) (wInt 65535)) wT0))) w_law_14
theorem s_law_13 {G : Gl nm Z7} (hT : ∀ f ns b, getN f T7 = some (ns, b) → DefOk G f ns b) (hI : InitOk G) : SB G dL.scope (dL.body.drop 13) w_law_13 := by unfold w_law_13; exact (SB_cons (SX_asT (SE_tup (SA_cons SE_int (SA_cons SE_int SA_nil (fun _ => rfl)) (fun _ => rfl))) (SSs_cons (SS_S (SE_name (n := 9) rfl) SE_int) (SSs_cons (SS_S (SE_name (n := 9) rfl) SE_int) SSs_nil (fun _ => rfl)) (fun _ => rfl)) (fun _ => rfl) (fun _ => by kernel_rfl) (fun _ => rfl)) (s_law_14 hT hI))
/-- for octets in handler: -/
@[irreducible] noncomputable def w_law_12 : WX := wSeq (wFor (wItL (wName 114)) (wTN 110) (wSeq (wFor (wItL (wName 110)) (wTN 125) (wSeq (wAsS (wName 9) (wName 115) (wName 125)) (wSeq (wAuN 115 .Add (wInt 1)) wNil))) wNil)) w_law_13
theorem s_law_12 {G : Gl nm Z7} (hT : ∀ f ns b, getN f T7 = some (ns, b) → DefOk G f ns b) (hI : InitOk G) : SB G dL.scope (dL.body.drop 12) w_law_12 := by unfold w_law_12; exact (SB_cons (SX_for (SI_list (SE_name (n := 114) rfl)) (SS_N (n := 110) rfl (.inl (by kernel_rfl))) (SB_cons (SX_for (SI_list (SE_name (n := 110) rfl)) (SS_N (n := 125) rfl (.inl (by kernel_rfl))) (SB_cons (SX_asS (SE_name (n := 125) rfl) (SE_name (n := 9) rfl) (SE_name (n := 115) rfl) (fun _ => rfl)) (SB_cons (SX_auN (n := 115) SE_int rfl (.inl (by kernel_rfl))) SB_nil)) (fun _ _ => rfl)) SB_nil) (fun _ _ => rfl)) (s_law_13 hT hI))
/-- at = 49152 -/
@[irreducible] noncomputable def w_law_11 : WX := wSeq (wAsg 115 (wInt 49152)) w_law_12
theorem s_law_11 {G : Gl nm Z7} (hT : ∀ f ns b, getN f T7 = some (ns, b) → DefOk G f ns b) (hI : InitOk G) : SB G dL.scope (dL.body.drop 11) w_law_11 := by unfold w_law_11; exact (SB_cons (SX_asg (n := 115) SE_int rfl (.inl (by kernel_rfl)) (fun _ => rfl)) (s_law_12 hT hI))
/-- handler = [[72]] + _law_sum(own) + [[230, 34], [104], [64]] -/
@[irreducible] noncomputable def w_law_10 : WX := wSeq (wAsg 114 (wFrz (wCat (wFrz (wCat (wFrz (wList (wAc (wFrz (wList (wAc (wInt 72) wA0))) wA0))) (wFrz (wCall 1439 (wAc (wName 106) wA0))))) (wFrz (wList (wAc (wFrz (wList (wAc (wInt 230) (wAc (wInt 34) wA0)))) (wAc (wFrz (wList (wAc (wInt 104) wA0))) (wAc (wFrz (wList (wAc (wInt 64) wA0))) wA0)))))))) w_law_11
theorem s_law_10 {G : Gl nm Z7} (hT : ∀ f ns b, getN f T7 = some (ns, b) → DefOk G f ns b) (hI : InitOk G) : SB G dL.scope (dL.body.drop 10) w_law_10 := by unfold w_law_10; exact (SB_cons (SX_asg (n := 114) (SE_frz (S0_cat (SE_frz (S0_cat (SE_frz (S0_list (SA_cons (SE_frz (S0_list (SA_cons SE_int SA_nil (fun _ => rfl)))) SA_nil (fun _ => rfl)))) (SE_frz (S0_call (f := 1439) 102 (getN_mem rfl) (SA_cons (SE_name (n := 106) rfl) SA_nil (fun _ => rfl)) rfl (by kernel_rfl) (fun _ => rfl))))) (SE_frz (S0_list (SA_cons (SE_frz (S0_list (SA_cons SE_int (SA_cons SE_int SA_nil (fun _ => rfl)) (fun _ => rfl)))) (SA_cons (SE_frz (S0_list (SA_cons SE_int SA_nil (fun _ => rfl)))) (SA_cons (SE_frz (S0_list (SA_cons SE_int SA_nil (fun _ => rfl)))) SA_nil (fun _ => rfl)) (fun _ => rfl)) (fun _ => rfl)))))) rfl (.inl (by kernel_rfl)) (fun _ => rfl)) (s_law_11 hT hI))
/-- for place in range(len(codes)): -/
@[irreducible] noncomputable def w_law_9 : WX := wSeq (wFor (wRng (wAc (wLen (wAc (wName 109) wA0)) wA0)) (wTN 113) (wSeq (wAsS (wName 9) (wBin .Add (wInt 512) (wName 113)) (wSub (wName 109) (wName 113))) wNil)) w_law_10
theorem s_law_9 {G : Gl nm Z7} (hT : ∀ f ns b, getN f T7 = some (ns, b) → DefOk G f ns b) (hI : InitOk G) : SB G dL.scope (dL.body.drop 9) w_law_9 := by unfold w_law_9; exact (SB_cons (SX_for (SI_range 123 (SA_cons (SE_len 135 (SA_cons (SE_name (n := 109) rfl) SA_nil (fun _ => rfl)) ⟨rfl, rfl, by kernel_rfl, by kernel_rfl, by decide +kernel⟩ (fun _ => rfl)) SA_nil (fun _ => rfl)) ⟨rfl, rfl, by kernel_rfl, by kernel_rfl, by decide +kernel⟩ (fun _ => rfl)) (SS_N (n := 113) rfl (.inl (by kernel_rfl))) (SB_cons (SX_asS (SE_sub (SE_name (n := 109) rfl) (SE_name (n := 113) rfl) (fun _ _ => rfl)) (SE_name (n := 9) rfl) (SE_bin SE_int (SE_name (n := 113) rfl)) (fun _ => rfl)) SB_nil) (fun _ _ => rfl)) (s_law_10 hT hI))
/-- memory = [(23 * place + seeds[0]) % 256 for place in range(32)] * 2048 -/
@[irreducible] noncomputable def w_law_8 : WX := wSeq (wOwn 9 (wRep (wComp (wRng (wAc (wInt 32) wA0)) (wTN 113) (wBin .Mod (wBin .Add (wBin .Mult (wInt 23) (wName 113)) (wSub (wName 105) (wInt 0))) (wInt 256)) [105]) (wInt 2048))) w_law_9
theorem s_law_8 {G : Gl nm Z7} (hT : ∀ f ns b, getN f T7 = some (ns, b) → DefOk G f ns b) (hI : InitOk G) : SB G dL.scope (dL.body.drop 8) w_law_8 := by unfold w_law_8; exact (SB_cons (SX_own (n := 9) (S0_rep (S0_comp (CompOk.of (fv := [105]) (by kernel_rfl)) (SI_range 123 (SA_cons SE_int SA_nil (fun _ => rfl)) ⟨rfl, rfl, by kernel_rfl, by kernel_rfl, by decide +kernel⟩ (fun _ => rfl)) (SS_N (n := 113) rfl (.inl (by kernel_rfl))) (SE_bin (SE_bin (SE_bin SE_int (SE_name (n := 113) rfl)) (SE_sub (SE_name (n := 105) rfl) SE_int (fun _ _ => rfl))) SE_int) (fun _ _ => rfl)) SE_int) rfl (.inl (by kernel_rfl)) (fun _ => rfl)) (s_law_9 hT hI))
/-- end = 512 + len(codes) -/
@[irreducible] noncomputable def w_law_7 : WX := wSeq (wAsg 112 (wBin .Add (wInt 512) (wLen (wAc (wName 109) wA0)))) w_law_8
theorem s_law_7 {G : Gl nm Z7} (hT : ∀ f ns b, getN f T7 = some (ns, b) → DefOk G f ns b) (hI : InitOk G) : SB G dL.scope (dL.body.drop 7) w_law_7 := by unfold w_law_7; exact (SB_cons (SX_asg (n := 112) (SE_bin SE_int (SE_len 135 (SA_cons (SE_name (n := 109) rfl) SA_nil (fun _ => rfl)) ⟨rfl, rfl, by kernel_rfl, by kernel_rfl, by decide +kernel⟩ (fun _ => rfl))) rfl (.inl (by kernel_rfl)) (fun _ => rfl)) (s_law_8 hT hI))
/-- for octets in steps: -/
@[irreducible] noncomputable def w_law_6 : WX := wSeq (wFor (wItL (wName 111)) (wTN 110) (wSeq (wAuN 109 .Add (wName 110)) wNil)) w_law_7
theorem s_law_6 {G : Gl nm Z7} (hT : ∀ f ns b, getN f T7 = some (ns, b) → DefOk G f ns b) (hI : InitOk G) : SB G dL.scope (dL.body.drop 6) w_law_6 := by unfold w_law_6; exact (SB_cons (SX_for (SI_list (SE_name (n := 111) rfl)) (SS_N (n := 110) rfl (.inl (by kernel_rfl))) (SB_cons (SX_auN (n := 109) (SE_name (n := 110) rfl) rfl (.inl (by kernel_rfl))) SB_nil) (fun _ _ => rfl)) (s_law_7 hT hI))
/-- codes = [] -/
@[irreducible] noncomputable def w_law_5 : WX := wSeq (wOwn 109 (wList wA0)) w_law_6
theorem s_law_5 {G : Gl nm Z7} (hT : ∀ f ns b, getN f T7 = some (ns, b) → DefOk G f ns b) (hI : InitOk G) : SB G dL.scope (dL.body.drop 5) w_law_5 := by unfold w_law_5; exact (SB_cons (SX_own (n := 109) (S0_list SA_nil) rfl (.inl (by kernel_rfl)) (fun _ => rfl)) (s_law_6 hT hI))
/-- for turn in range(3 + len(script[:4])): -/
@[irreducible] noncomputable def w_law_4 : WX := wSeq (wFor (wRng (wAc (wBin .Add (wInt 3) (wLen (wAc (wFrz (wSli (wName 103) wP0 (wP (wInt 4)))) wA0))) wA0)) (wTN 108) (wSeq (wAsg 124 (wSub (wName 105) (wBin .Mod (wName 108) (wLen (wAc (wName 105) wA0))))) (wSeq (wAsB [134, 101] (wTup (wAc (wBin .Mod (wBin .Add (wName 124) (wName 108)) (wInt 4)) (wAc (wBin .Mod (wBin .Add (wBin .FloorDiv (wName 124) (wInt 4)) (wBin .Mult (wInt 59) (wName 108))) (wInt 256)) wA0)))) (wSeq (wIf (wCmpT .Eq (wName 134) (wInt 0)) (wSeq (wAuN 111 .Add (wFrz (wCat (wFrz (wCat (wFrz (wList (wAc (wFrz (wList (wAc (wInt 120) wA0))) wA0))) (wFrz (wCall 1439 (wAc (wName 101) wA0))))) (wFrz (wList (wAc (wFrz (wList (wAc (wInt 88) wA0))) wA0)))))) wNil) (wSeq (wIf (wCmpT .Eq (wName 134) (wInt 1)) (wSeq (wAuN 111 .Add (wFrz (wCat (wFrz (wCat (wFrz (wList (wAc (wFrz (wList (wAc (wInt 8) wA0))) (wAc (wFrz (wList (wAc (wInt 120) wA0))) wA0)))) (wFrz (wCall 1439 (wAc (wName 101) wA0))))) (wFrz (wList (wAc (wFrz (wList (wAc (wInt 40) wA0))) wA0)))))) wNil) (wSeq (wIf (wCmpT .Eq (wName 134) (wInt 2)) (wSeq (wAuN 111 .Add (wFrz (wCat (wFrz (wCat (wFrz (wCat (wFrz (wCat (wFrz (wList (wAc (wFrz (wList (wAc (wInt 120) wA0))) (wAc (wFrz (wList (wAc (wInt 8) wA0))) (wAc (wFrz (wList (wAc (wInt 120) wA0))) wA0))))) (wFrz (wCall 1439 (wAc (wName 101) wA0))))) (wFrz (wList (wAc (wFrz (wList (wAc (wInt 40) wA0))) wA0))))) (wFrz (wCall 1439 (wAc (wName 101) wA0))))) (wFrz (wList (wAc (wFrz (wList (wAc (wInt 88) wA0))) wA0)))))) wNil) (wSeq (wAuN 111 .Add (wFrz (wList (wAc (wFrz (wList (wAc (wInt 169) (wAc (wName 101) wA0)))) (wAc (wFrz (wList (wAc (wInt 56) wA0))) (wAc (wFrz (wList (wAc (wInt 42) wA0))) (wAc (wFrz (wList (wAc (wInt 133) (wAc (wInt 35) wA0)))) wA0))))))) (wSeq (wExpr (wApp (wName 122) (wBin .Mod (wBin .Add (wBin .Mult (wInt 2) (wName 101)) (wInt 1)) (wInt 256)))) wNil))) wNil)) wNil)) (wSeq (wAuN 121 .Add (wSub (wFrz (wList (wAc (wName 101) (wAc (wName 101) (wAc (wBin .Mult (wInt 2) (wName 101)) (wAc (wInt 0) wA0)))))) (wName 134))) wNil))))) w_law_5
theorem s_law_4 {G : Gl nm Z7} (hT : ∀ f ns b, getN f T7 = some (ns, b) → DefOk G f ns b) (hI : InitOk G) : SB G dL.scope (dL.body.drop 4) w_law_4 := by unfold w_law_4; exact (SB_cons (SX_for (SI_range 123 (SA_cons (SE_bin SE_int (SE_len 135 (SA_cons (SE_frz (S0_slice (SE_name (n := 103) rfl) SP_none (SP_some SE_int))) SA_nil (fun _ => rfl)) ⟨rfl, rfl, by kernel_rfl, by kernel_rfl, by decide +kernel⟩ (fun _ => rfl))) SA_nil (fun _ => rfl)) ⟨rfl, rfl, by kernel_rfl, by kernel_rfl, by decide +kernel⟩ (fun _ => rfl)) (SS_N (n := 108) rfl (.inl (by kernel_rfl))) (SB_cons (SX_asg (n := 124) (SE_sub (SE_name (n := 105) rfl) (SE_bin (SE_name (n := 108) rfl) (SE_len 135 (SA_cons (SE_name (n := 105) rfl) SA_nil (fun _ => rfl)) ⟨rfl, rfl, by kernel_rfl, by kernel_rfl, by decide +kernel⟩ (fun _ => rfl))) (fun _ _ => rfl)) rfl (.inl (by kernel_rfl)) (fun _ => rfl)) (SB_cons (SX_asB (ns := [134, 101]) (SE_tup (SA_cons (SE_bin (SE_bin (SE_name (n := 124) rfl) (SE_name (n := 108) rfl)) SE_int) (SA_cons (SE_bin (SE_bin (SE_bin (SE_name (n := 124) rfl) SE_int) (SE_bin SE_int (SE_name (n := 108) rfl))) SE_int) SA_nil (fun _ => rfl)) (fun _ => rfl))) (by intro n hn; simp only [List.mem_cons, List.not_mem_nil, or_false] at hn; rcases hn with rfl | rfl <;> exact .inl (by kernel_rfl)) (fun _ => rfl) (fun _ => by kernel_rfl)) (SB_cons (SX_if (ST_cmp (SE_name (n := 134) rfl) SE_int rfl) (SB_cons (SX_auN (n := 111) (SE_frz (S0_cat (SE_frz (S0_cat (SE_frz (S0_list (SA_cons (SE_frz (S0_list (SA_cons SE_int SA_nil (fun _ => rfl)))) SA_nil (fun _ => rfl)))) (SE_frz (S0_call (f := 1439) 102 (getN_mem rfl) (SA_cons (SE_name (n := 101) rfl) SA_nil (fun _ => rfl)) rfl (by kernel_rfl) (fun _ => rfl))))) (SE_frz (S0_list (SA_cons (SE_frz (S0_list (SA_cons SE_int SA_nil (fun _ => rfl)))) SA_nil (fun _ => rfl)))))) rfl (.inr ⟨by kernel_rfl, by kernel_rfl⟩)) SB_nil) (SB_cons (SX_if (ST_cmp (SE_name (n := 134) rfl) SE_int rfl) (SB_cons (SX_auN (n := 111) (SE_frz (S0_cat (SE_frz (S0_cat (SE_frz (S0_list (SA_cons (SE_frz (S0_list (SA_cons SE_int SA_nil (fun _ => rfl)))) (SA_cons (SE_frz (S0_list (SA_cons SE_int SA_nil (fun _ => rfl)))) SA_nil (fun _ => rfl)) (fun _ => rfl)))) (SE_frz (S0_call (f := 1439) 102 (getN_mem rfl) (SA_cons (SE_name (n := 101) rfl) SA_nil (fun _ => rfl)) rfl (by kernel_rfl) (fun _ => rfl))))) (SE_frz (S0_list (SA_cons (SE_frz (S0_list (SA_cons SE_int SA_nil (fun _ => rfl)))) SA_nil (fun _ => rfl)))))) rfl (.inr ⟨by kernel_rfl, by kernel_rfl⟩)) SB_nil) (SB_cons (SX_if (ST_cmp (SE_name (n := 134) rfl) SE_int rfl) (SB_cons (SX_auN (n := 111) (SE_frz (S0_cat (SE_frz (S0_cat (SE_frz (S0_cat (SE_frz (S0_cat (SE_frz (S0_list (SA_cons (SE_frz (S0_list (SA_cons SE_int SA_nil (fun _ => rfl)))) (SA_cons (SE_frz (S0_list (SA_cons SE_int SA_nil (fun _ => rfl)))) (SA_cons (SE_frz (S0_list (SA_cons SE_int SA_nil (fun _ => rfl)))) SA_nil (fun _ => rfl)) (fun _ => rfl)) (fun _ => rfl)))) (SE_frz (S0_call (f := 1439) 102 (getN_mem rfl) (SA_cons (SE_name (n := 101) rfl) SA_nil (fun _ => rfl)) rfl (by kernel_rfl) (fun _ => rfl))))) (SE_frz (S0_list (SA_cons (SE_frz (S0_list (SA_cons SE_int SA_nil (fun _ => rfl)))) SA_nil (fun _ => rfl)))))) (SE_frz (S0_call (f := 1439) 102 (getN_mem rfl) (SA_cons (SE_name (n := 101) rfl) SA_nil (fun _ => rfl)) rfl (by kernel_rfl) (fun _ => rfl))))) (SE_frz (S0_list (SA_cons (SE_frz (S0_list (SA_cons SE_int SA_nil (fun _ => rfl)))) SA_nil (fun _ => rfl)))))) rfl (.inr ⟨by kernel_rfl, by kernel_rfl⟩)) SB_nil) (SB_cons (SX_auN (n := 111) (SE_frz (S0_list (SA_cons (SE_frz (S0_list (SA_cons SE_int (SA_cons (SE_name (n := 101) rfl) SA_nil (fun _ => rfl)) (fun _ => rfl)))) (SA_cons (SE_frz (S0_list (SA_cons SE_int SA_nil (fun _ => rfl)))) (SA_cons (SE_frz (S0_list (SA_cons SE_int SA_nil (fun _ => rfl)))) (SA_cons (SE_frz (S0_list (SA_cons SE_int (SA_cons SE_int SA_nil (fun _ => rfl)) (fun _ => rfl)))) SA_nil (fun _ => rfl)) (fun _ => rfl)) (fun _ => rfl)) (fun _ => rfl)))) rfl (.inr ⟨by kernel_rfl, by kernel_rfl⟩)) (SB_cons (SX_expr (SE_app (SE_name (n := 122) rfl) (SE_bin (SE_bin (SE_bin SE_int (SE_name (n := 101) rfl)) SE_int) SE_int) rfl (fun _ => rfl) (fun _ => ⟨_, rfl⟩)) (fun _ => rfl)) SB_nil))) SB_nil)) SB_nil)) (SB_cons (SX_auN (n := 121) (SE_sub (SE_frz (S0_list (SA_cons (SE_name (n := 101) rfl) (SA_cons (SE_name (n := 101) rfl) (SA_cons (SE_bin SE_int (SE_name (n := 101) rfl)) (SA_cons SE_int SA_nil (fun _ => rfl)) (fun _ => rfl)) (fun _ => rfl)) (fun _ => rfl)))) (SE_name (n := 134) rfl) (fun _ _ => rfl)) rfl (.inl (by kernel_rfl))) SB_nil)))) (fun _ _ => rfl)) (s_law_5 hT hI))
/-- steps, sums, lives = ([], 0, []) -/
@[irreducible] noncomputable def w_law_3 : WX := wSeq (wAsD 3 (wAcO (wList wA0) (wAc (wInt 0) (wAcO (wList wA0) wA0))) (wTc (wTN 111) (wTc (wTN 121) (wTc (wTN 122) wT0)))) w_law_4
theorem s_law_3 {G : Gl nm Z7} (hT : ∀ f ns b, getN f T7 = some (ns, b) → DefOk G f ns b) (hI : InitOk G) : SB G dL.scope (dL.body.drop 3) w_law_3 := by unfold w_law_3; exact (SB_cons (SX_asD (SA_consO (S0_list SA_nil) (SA_cons SE_int (SA_consO (S0_list SA_nil) SA_nil (fun _ => rfl)) (fun _ => rfl)) (fun _ => rfl)) (SSs_cons (SS_N (n := 111) rfl (.inr ⟨by kernel_rfl, by kernel_rfl⟩)) (SSs_cons (SS_N (n := 121) rfl (.inl (by kernel_rfl))) (SSs_cons (SS_N (n := 122) rfl (.inl (by kernel_rfl))) SSs_nil (fun _ => rfl)) (fun _ => rfl)) (fun _ => rfl)) (fun _ => rfl) (fun _ => by kernel_rfl) (fun _ => rfl)) (s_law_4 hT hI))
/-- begun = 11 * seeds[0] % 65536 -/
@[irreducible] noncomputable def w_law_2 : WX := wSeq (wAsg 107 (wBin .Mod (wBin .Mult (wInt 11) (wSub (wName 105) (wInt 0))) (wInt 65536))) w_law_3
theorem s_law_2 {G : Gl nm Z7} (hT : ∀ f ns b, getN f T7 = some (ns, b) → DefOk G f ns b) (hI : InitOk G) : SB G dL.scope (dL.body.drop 2) w_law_2 := by unfold w_law_2; exact (SB_cons (SX_asg (n := 107) (SE_bin (SE_bin SE_int (SE_sub (SE_name (n := 105) rfl) SE_int (fun _ _ => rfl))) SE_int) rfl (.inl (by kernel_rfl)) (fun _ => rfl)) (s_law_3 hT hI))
/-- own = 1 + seeds[-1] * 7 % 255 -/
@[irreducible] noncomputable def w_law_1 : WX := wSeq (wAsg 106 (wBin .Add (wInt 1) (wBin .Mod (wBin .Mult (wSub (wName 105) (wNeg (wInt 1))) (wInt 7)) (wInt 255)))) w_law_2
theorem s_law_1 {G : Gl nm Z7} (hT : ∀ f ns b, getN f T7 = some (ns, b) → DefOk G f ns b) (hI : InitOk G) : SB G dL.scope (dL.body.drop 1) w_law_1 := by unfold w_law_1; exact (SB_cons (SX_asg (n := 106) (SE_bin SE_int (SE_bin (SE_bin (SE_sub (SE_name (n := 105) rfl) (SE_neg SE_int) (fun _ _ => rfl)) SE_int) SE_int)) rfl (.inl (by kernel_rfl)) (fun _ => rfl)) (s_law_2 hT hI))
/-- seeds = [number % 65536 for number in script[:12]] + [len(script[:64]) + 5] -/
noncomputable def w_law_0 : WX := wSeq (wAsg 105 (wFrz (wCat (wFrz (wComp (wItL (wFrz (wSli (wName 103) wP0 (wP (wInt 12))))) (wTN 118) (wBin .Mod (wName 118) (wInt 65536)) [])) (wFrz (wList (wAc (wBin .Add (wLen (wAc (wFrz (wSli (wName 103) wP0 (wP (wInt 64)))) wA0)) (wInt 5)) wA0)))))) w_law_1
theorem s_law_0 {G : Gl nm Z7} (hT : ∀ f ns b, getN f T7 = some (ns, b) → DefOk G f ns b) (hI : InitOk G) : SB G dL.scope (dL.body.drop 0) w_law_0 := SB_cons (SX_asg (n := 105) (SE_frz (S0_cat (SE_frz (S0_comp (CompOk.of (fv := []) (by kernel_rfl)) (SI_list (SE_frz (S0_slice (SE_name (n := 103) rfl) SP_none (SP_some SE_int)))) (SS_N (n := 118) rfl (.inl (by kernel_rfl))) (SE_bin (SE_name (n := 118) rfl) SE_int) (fun _ _ => rfl))) (SE_frz (S0_list (SA_cons (SE_bin (SE_len 135 (SA_cons (SE_frz (S0_slice (SE_name (n := 103) rfl) SP_none (SP_some SE_int))) SA_nil (fun _ => rfl)) ⟨rfl, rfl, by kernel_rfl, by kernel_rfl, by decide +kernel⟩ (fun _ => rfl)) SE_int) SA_nil (fun _ => rfl)))))) rfl (.inr ⟨by kernel_rfl, by kernel_rfl⟩) (fun _ => rfl)) (s_law_1 hT hI)
end VE
namespace VE
open M6
open Builtin (bitAnd bitOr bitXor bitNot)
/-- A plain view of the machine. -/
structure Rg where
  pc : Nat
  sp : Nat
  a : Int
  x : Int
  y : Int
  p : Int
  mem : List Int
/-- What the law's other objects are, as the machine runs. -/
structure Oth where
  o0 : VO
  o1 : VO
  o2 : VO
  o4 : VO
  o5 : VO
  o6 : VO
  o7 : VO
  o9 : VO
/-- What of the machine no one asks. -/
structure Jk where
  ex : Int
  ad : VV
  cy : Int
  spc : Int
noncomputable def fsR (j : Jk) (pc sp a x y p : Int) : List (Nat × VV) :=
  [(1, .p .any), (2, .p (.int 255)), (3, .p (.int 65535)), (4, .p (.int 65280)), (5, .p (.int 256)), (6, .p (.int j.ex)), (7, j.ad), (8, .p (.int j.cy)), (9, .ref 3), (10, .p (.int j.spc)), (11, .p (.int pc)), (12, .p (.int sp)), (13, .p (.int a)), (14, .p (.int x)), (15, .p (.int y)), (16, .p (.int p))]
noncomputable def hpR (o : Oth) (j : Jk) (pc sp a x y p : Int) (m : List PV) : List VO := [o.o0, o.o1, o.o2, .list m, o.o4, o.o5, o.o6, o.o7, .inst (fsR j pc sp a x y p), o.o9]
noncomputable def hpM (o : Oth) (j : Jk) (r : Rg) : List VO := hpR o j r.pc r.sp r.a r.x r.y r.p (r.mem.map .int)
/-- One step of the machine leads from r to r'. -/
structure Stp (T : Defs) (r r' : Rg) : Prop where
  run : ∀ o j Q, (∀ j', Q (.val (.ref 8)) (hpM o j' r')) → callsOf T 40 43 [.ref 8] (hpM o j r) Q
theorem wrap1 {n : Nat} (h : n + 1 < 65536) : bitAnd ((n : Int) + 1) 65535 = ((n + 1 : Nat) : Int) := by
  have : bitAnd (((n + 1 : Nat)) : Int) ((2 ^ 16 - 1 : Nat) : Int) = (((n + 1) % 2 ^ 16 : Nat) : Int) := by
    show (((n + 1) &&& (2 ^ 16 - 1) : Nat) : Int) = _
    rw [Nat.and_two_pow_sub_one_eq_mod]
  have e : ((n : Int) + 1) = (((n + 1 : Nat)) : Int) := by omega
  rw [e]
  refine this.trans ?_
  rw [Nat.mod_eq_of_lt (by omega)]
theorem pk {l : List Int} {n : Nat} {z : Int} (h : l[n]? = some z) : pick (l.map .int) (n : Int) = some (.int z) := by
  show (l.map PV.int)[n]? = _
  rw [List.getElem?_map, h]; rfl
theorem iOk {n : Nat} (h : n < 65536) : idxOk (n : Int) := by unfold idxOk; omega
theorem brF {b : Bool} {P Q : Prop} (hb : b = false) (h : Q) : brW b P Q := by subst hb; exact h
theorem brT {b : Bool} {P Q : Prop} (hb : b = true) (h : P) : brW b P Q := by subst hb; exact h
/-- The end of a step. -/
theorem stp_fin {o : Oth} {r' : Rg} {Q : Rs → List VO → Prop} {pc sp a x y p : Int} {m : List PV} (h : ∀ j', Q (.val (.ref 8)) (hpM o j' r')) (j : Jk) (e1 : pc = (r'.pc : Int)) (e2 : sp = (r'.sp : Int)) (e3 : a = r'.a) (e4 : x = r'.x) (e5 : y = r'.y) (e6 : p = r'.p) (e7 : m = r'.mem.map .int) :
    Q (.val (.ref 8)) (hpR o j pc sp a x y p m) := by
  subst e1 e2 e3 e4 e5 e6 e7
  exact h j
theorem wrap0 {n : Nat} (h : n < 65536) : bitAnd (n : Int) 65535 = (n : Int) := by
  cases n with
  | zero => rfl
  | succ n => exact wrap1 h
noncomputable def nz (p v : Int) : Int := if v = 0 then bitOr (bitAnd p (bitNot (bitOr 2 128))) 2 else bitOr (bitAnd p (bitNot (bitOr 2 128))) (bitAnd v 128)
theorem nz0 {p v : Int} (h : (v == 0) = true) : bitOr (bitAnd p (bitNot (bitOr 2 128))) 2 = nz p v := by unfold nz; rw [if_pos (by simpa using h)]
theorem nz1 {p v : Int} (h : (v == 0) = false) : bitOr (bitAnd p (bitNot (bitOr 2 128))) (bitAnd v 128) = nz p v := by unfold nz; rw [if_neg (by simpa using h)]
theorem mset {l : List Int} {k : Nat} {z : Int} : (l.map PV.int).set k (.int z) = (l.set k z).map .int := List.map_set.symm
theorem stB {l : List Int} {k : Nat} (hk : k < 65536) (hm : l.length = 65536) : (0 : Int) ≤ (k : Int) ∧ (k : Int) < ((l.map PV.int).length : Int) ∧ (k : Int) < 2 ^ 63 := by
  rw [List.length_map, hm]; omega
theorem stC {l : List Int} {k : Nat} {z : Int} (e : z = (k : Int)) (hk : k < 65536) (hm : l.length = 65536) : (0 : Int) ≤ z ∧ z < ((l.map PV.int).length : Int) ∧ z < 2 ^ 63 := by
  rw [List.length_map, hm, e]; omega
theorem msetC {l : List Int} {k : Nat} {z v v' : Int} (e : z = (k : Int)) (ev : v = v') : (l.map PV.int).set z.toNat (.int v) = (l.set k v').map .int := by
  subst e ev; exact List.map_set.symm
theorem and8 {n : Nat} (h : n < 256) : bitAnd (n : Int) 255 = (n : Int) := by
  have : bitAnd (n : Int) ((2 ^ 8 - 1 : Nat) : Int) = ((n % 2 ^ 8 : Nat) : Int) := by
    show ((n &&& (2 ^ 8 - 1) : Nat) : Int) = _
    rw [Nat.and_two_pow_sub_one_eq_mod]
  refine this.trans ?_
  rw [Nat.mod_eq_of_lt (by omega)]
theorem spd {n : Nat} (h : n + 1 < 256) : bitAnd (((n + 1 : Nat) : Int) - 1) 255 = (n : Int) := by
  have e : (((n + 1 : Nat) : Int) - 1) = (n : Int) := by omega
  rw [e, and8 (by omega)]
theorem spu {n : Nat} (h : n + 1 < 256) : bitAnd ((n : Int) + 1) 255 = ((n + 1 : Nat) : Int) := by
  have e : ((n : Int) + 1) = ((n + 1 : Nat) : Int) := by omega
  rw [e, and8 h]
theorem iOkS {n : Nat} (h : n + 1 < 256) : idxOk (bitAnd ((n : Int) + 1) 255 + 256) := by rw [spu h]; exact iOk (n := n + 1 + 256) (by omega)
theorem pkS {l : List Int} {n : Nat} {z : Int} (hn : n + 1 < 256) (h : l[n + 1 + 256]? = some z) : pick (l.map .int) (bitAnd ((n : Int) + 1) 255 + 256) = some (.int z) := by rw [spu hn]; exact pk (n := n + 1 + 256) h
theorem intBits_le {i : Int} (h0 : 0 ≤ i) (h : i < 65536) : (Builtin.Int.intBits i : Int) + 8 ≤ 2 ^ 27 := by
  unfold Builtin.Int.intBits
  split
  · decide
  · rename_i q
    have q : i ≠ 0 := by simpa using q
    have : i.natAbs.log2 < 16 := (Nat.log2_lt (by omega)).mpr (by omega)
    omega
theorem bits40 {m : Nat} (h : m < 65536) : (0 : Int) ≤ 8 ∧ (Builtin.Int.intBits (m : Int) : Int) + 8 ≤ 2 ^ 27 := ⟨by decide, intBits_le (by omega) (by omega)⟩
theorem nzF {p v : Int} (h : (v != 0) = false) : bitOr (bitAnd p (bitNot (bitOr 2 128))) 2 = nz p v := nz0 (by simpa using h)
theorem nzT {p v : Int} (h : (v != 0) = true) : bitOr (bitAnd p (bitNot (bitOr 2 128))) (bitAnd v 128) = nz p v := nz1 (by simpa using h)
noncomputable def rolA (a : Int) : Int := bitAnd (bitOr (a * 2 ^ 1) 1) 255
noncomputable def rolP (a p : Int) : Int := nz (if bitAnd a 128 = 0 then bitAnd p (bitNot 1) else p) (rolA a)
theorem tT {b : Int} (h : b ≠ 0) : (b != 0) = true := by simpa using h
theorem tF {b : Int} (h : b = 0) : (b != 0) = false := by simpa using h
theorem rolP0 {a p : Int} (h : (bitAnd a 128 != 0) = false) : nz (bitAnd p (bitNot 1)) (rolA a) = rolP a p := by unfold rolP; rw [if_pos (by simpa using h)]
theorem rolP1 {a p : Int} (h : (bitAnd a 128 != 0) = true) : nz p (rolA a) = rolP a p := by unfold rolP; rw [if_neg (by simpa using h)]
theorem bits1 {i : Int} (h0 : 0 ≤ i) (h : i < 65536) : (Builtin.Int.intBits i : Int) + 1 ≤ 2 ^ 27 := by
  have := intBits_le h0 h
  generalize (Builtin.Int.intBits i : Int) = w at this ⊢
  have e : (2 : Int) ^ 27 = 134217728 := by decide
  rw [e] at this ⊢
  omega
theorem callI {T : Defs} {d : Nat} {f : Addr} {as : List VV} {hp : List VO} {Q : Rs → List VO → Prop} {ns : List Nat} {b : WX} (e : getN f T = some (ns, b)) (q : gd (Nat.beq as.length ns.length) (b (callsOf T d) ⟨ns.zip as, hp⟩ fun fl τ' => retW hp.length τ'.hp (retv fl) Q)) : callsOf T (d + 1) f as hp Q := by
  rw [callsOf_s]
  show (match getN f T with | some (ns, b) => _ | none => _)
  rw [e]; exact q
theorem msetE {m : List PV} {l : List Int} {k : Nat} {z v v' : Int} (em : m = l.map .int) (e : z = (k : Int)) (ev : v = v') : m.set z.toNat (.int v) = (l.set k v').map .int := by
  subst em e ev; exact List.map_set.symm
theorem and16 {n : Nat} (h : n < 256) : bitAnd (bitAnd (n : Int) 255) 255 = (n : Int) := by rw [and8 h, and8 h]
theorem hi8 {n : Nat} (h : n < 65536) : bitAnd (bitAnd (Int.fdiv (n : Int) (2 ^ (8 : Int).toNat)) 255) 255 = ((n / 256 : Nat) : Int) := by
  have e : Int.fdiv (n : Int) (2 ^ (8 : Int).toNat) = ((n / 256 : Nat) : Int) := by
    have : (2 : Int) ^ (8 : Int).toNat = 256 := by decide
    rw [this, Int.fdiv_eq_ediv_of_nonneg _ (by decide)]; omega
  rw [e, and16 (by omega)]
theorem lo8 {n : Nat} : bitAnd (bitAnd (n : Int) 255) 255 = ((n % 256 : Nat) : Int) := by
  have : bitAnd (n : Int) ((2 ^ 8 - 1 : Nat) : Int) = ((n % 2 ^ 8 : Nat) : Int) := by
    show ((n &&& (2 ^ 8 - 1) : Nat) : Int) = _
    rw [Nat.and_two_pow_sub_one_eq_mod]
  have e : bitAnd (n : Int) 255 = ((n % 256 : Nat) : Int) := this
  rw [e, and8 (by omega)]
theorem qv {x : Int} {q : Nat} (e : x = (q : Int)) (h : q < 256) : bitAnd x 255 = (q : Int) := by rw [e, and8 h]
theorem wadd {l m : Nat} : (l : Int) + (m : Int) * 2 ^ (8 : Int).toNat = ((l + m * 256 : Nat) : Int) := by
  have : (2 : Int) ^ (8 : Int).toNat = 256 := by decide
  rw [this]; omega
/-- The machine's state named anew. -/
theorem hp_fin {o : Oth} {P : List VO → Prop} {j j' : Jk} {pc sp a x y p pc' sp' a' x' y' p' : Int} {m m' : List PV} (h : P (hpR o j' pc' sp' a' x' y' p' m')) (e0 : j = j') (e1 : pc = pc') (e2 : sp = sp') (e3 : a = a') (e4 : x = x') (e5 : y = y') (e6 : p = p') (e7 : m = m') :
    P (hpR o j pc sp a x y p m) := by
  subst e0 e1 e2 e3 e4 e5 e6 e7
  exact h
theorem pcN {T : Defs} {d : Nat} {f : Addr} {as : List VV} {Q : Rs → List VO → Prop} {o : Oth} {j : Jk} {pc sp a x y p : Int} {m : List PV} {n : Nat} (e : pc = (n : Int)) (h : callsOf T d f as (hpR o j (n : Int) sp a x y p m) Q) : callsOf T d f as (hpR o j pc sp a x y p m) Q := by rw [e]; exact h
/-- A call of irq leads from r to r'. -/
structure Irq (T : Defs) (r r' : Rg) : Prop where
  run : ∀ o j Q, (∀ j', Q (.val (.p .none)) (hpM o j' r')) → callsOf T 40 57 [.ref 8] (hpM o j r) Q
theorem irq_fin {o : Oth} {r' : Rg} {Q : Rs → List VO → Prop} {pc sp a x y p : Int} {m : List PV} (h : ∀ j', Q (.val (.p .none)) (hpM o j' r')) (j : Jk) (e1 : pc = (r'.pc : Int)) (e2 : sp = (r'.sp : Int)) (e3 : a = r'.a) (e4 : x = r'.x) (e5 : y = r'.y) (e6 : p = r'.p) (e7 : m = r'.mem.map .int) :
    Q (.val (.p .none)) (hpR o j pc sp a x y p m) := by
  subst e1 e2 e3 e4 e5 e6 e7
  exact h j
theorem tT' {b : Int} (h : b ≠ 0) : (b != 0) = true := by simpa using h
theorem tF' {b : Int} (h : b = 0) : (b != 0) = false := by simpa using h
/-- What ADC leaves when the decimal flag is down. -/
noncomputable def adcR (a z p : Int) : Int := z + a + (if bitAnd p 1 = 0 then 0 else 1)
noncomputable def adcA (a z p : Int) : Int := if adcR a z p > 255 then bitAnd (adcR a z p) 255 else adcR a z p
noncomputable def adcV (a z p : Int) : Int := bitAnd (bitAnd (bitNot (bitXor a z)) (bitXor a (adcR a z p))) 128
noncomputable def adcP1 (a z p : Int) : Int :=
  if adcV a z p = 0 then bitAnd p (bitNot (bitOr (bitOr (bitOr 1 64) 128) 2)) else bitOr (bitAnd p (bitNot (bitOr (bitOr (bitOr 1 64) 128) 2))) 64
noncomputable def adcP2 (a z p : Int) : Int := if adcR a z p > 255 then bitOr (adcP1 a z p) 1 else adcP1 a z p
noncomputable def adcP (a z p : Int) : Int := if adcA a z p = 0 then bitOr (adcP2 a z p) 2 else bitOr (adcP2 a z p) (bitAnd (adcA a z p) 128)
theorem adcR0 {a z p : Int} (h : (bitAnd p 1 != 0) = false) : adcR a z p = z + a + 0 := by unfold adcR; rw [if_pos (by simpa using h)]
theorem adcR1 {a z p : Int} (h : (bitAnd p 1 != 0) = true) : adcR a z p = z + a + 1 := by unfold adcR; rw [if_neg (by simpa using h)]
noncomputable def ad1 (b : Bool) (p : Int) : Int := cond b (bitOr (bitAnd p (bitNot (bitOr (bitOr (bitOr 1 64) 128) 2))) 64) (bitAnd p (bitNot (bitOr (bitOr (bitOr 1 64) 128) 2)))
noncomputable def ad2 (b c : Bool) (p : Int) : Int := cond c (bitOr (ad1 b p) 1) (ad1 b p)
noncomputable def adA (c : Bool) (r : Int) : Int := cond c (bitAnd r 255) r
noncomputable def ad3 (b c d : Bool) (r p : Int) : Int := cond d (bitOr (ad2 b c p) 2) (bitOr (ad2 b c p) (bitAnd (adA c r) 128))
theorem adc_A {a z p r : Int} (e : adcR a z p = r) {c : Bool} (h2 : decide (r > 255) = c) : adA c r = adcA a z p := by
  unfold adcA adA
  rw [e]
  cases c with
  | true => rw [if_pos (by simpa using h2)]; rfl
  | false => rw [if_neg (by simpa using h2)]; rfl
theorem adc_P {a z p r : Int} (e : adcR a z p = r) {b c d : Bool} (h1 : (bitAnd (bitAnd (bitNot (bitXor a z)) (bitXor a r)) 128 != 0) = b) (h2 : decide (r > 255) = c) (h3 : (adA c r == 0) = d) : ad3 b c d r p = adcP a z p := by
  have e1 : ad1 b p = adcP1 a z p := by
    unfold adcP1 adcV ad1
    rw [e]
    cases b with
    | true => rw [if_neg (by simpa using h1)]; rfl
    | false => rw [if_pos (by simpa using h1)]; rfl
  have e2 : ad2 b c p = adcP2 a z p := by
    unfold adcP2 ad2
    rw [e, e1]
    cases c with
    | true => rw [if_pos (by simpa using h2)]; rfl
    | false => rw [if_neg (by simpa using h2)]; rfl
  unfold adcP ad3
  rw [← adc_A e h2, e2]
  cases d with
  | true => rw [if_pos (by simpa using h3)]; rfl
  | false => rw [if_neg (by simpa using h3)]; rfl
/-- A class's table. -/
noncomputable def tabL (n : Nat) : List PV := match getN n Z7.tabs with
  | some l => l
  | none => []
theorem fn_of {f : Addr} {Q : Addr → Prop} (h : ∀ P : Addr → Prop, P f → fnV Z7 (.p (.fn f)) P) (q : Q f) : fnV Z7 (.p (.fn f)) Q := h Q q
section
variable {d n sp : Nat} {o : Oth} {j : Jk} {pc a x y p v : Int} {m : List Int} {Q : Rs → List VO → Prop}
theorem pop_c {z : Int} (s1 : sp + 1 < 256) (hz : m[sp + 1 + 256]? = some z) (h : Q (.val (.p (.int z))) (hpR o j pc ((sp + 1 : Nat) : Int) a x y p (m.map .int))) : callsOf T7L (d + 2) 176 [.ref 8] (hpR o j pc (sp : Int) a x y p (m.map .int)) Q := by
  refine callI rfl ?_
  refine callI rfl ?_
  refine And.intro (iOkS (n := sp) s1) (Exists.intro _ (Exists.intro _ (And.intro rfl (And.intro (pkS (n := sp) s1 hz) ?_))))
  refine Or.inl (And.intro rfl ?_)
  refine Or.inl (And.intro rfl ?_)
  exact hp_fin (P := Q (.val (.p (.int z)))) h rfl rfl (spu s1) rfl rfl rfl rfl rfl
theorem push_c {q : Nat} (s1 : sp + 1 < 256) (hm : m.length = 65536) (hq : bitAnd v 255 = (q : Int)) (h : Q (.val (.p .none)) (hpR o j pc (sp : Int) a x y p ((m.set (sp + 1 + 256) (q : Int)).map .int))) : callsOf T7L (d + 1) 169 [.ref 8, .p (.int v)] (hpR o j pc ((sp + 1 : Nat) : Int) a x y p (m.map .int)) Q := by
  refine callI rfl ?_
  refine And.intro (stC (k := sp + 1 + 256) (by first | rfl | omega) (by omega) hm) ?_
  refine Or.inl (And.intro rfl ?_)
  exact hp_fin (P := Q (.val (.p .none))) h rfl rfl (spd s1) rfl rfl rfl rfl (msetC (by first | rfl | omega) hq)
theorem popW_c {l k : Nat} (s1 : sp + 2 < 256) (k1 : k < 65536) (hl : m[sp + 1 + 256]? = some ((l : Nat) : Int)) (hk : m[sp + 2 + 256]? = some ((k : Nat) : Int)) (h : Q (.val (.p (.int ((l + k * 256 : Nat) : Int)))) (hpR o j pc ((sp + 2 : Nat) : Int) a x y p (m.map .int))) : callsOf T7L (d + 3) 190 [.ref 8] (hpR o j pc (sp : Int) a x y p (m.map .int)) Q := by
  refine callI rfl ?_
  refine pop_c (z := (l : Int)) (by omega) hl ?_
  refine pop_c (sp := sp + 1) (z := (k : Int)) s1 hk ?_
  refine And.intro (bits40 k1) ?_
  refine Or.inl (And.intro rfl ?_)
  rw [← wadd] at h
  exact h
theorem pushW_c {n : Nat} (hn : n < 65536) (s1 : sp + 2 < 256) (hm : m.length = 65536) (h : Q (.val (.p .none)) (hpR o j pc (sp : Int) a x y p (((m.set (sp + 2 + 256) ((n / 256 : Nat) : Int)).set (sp + 1 + 256) ((n % 256 : Nat) : Int)).map .int))) : callsOf T7L (d + 2) 183 [.ref 8, .p (.int (n : Int))] (hpR o j pc ((sp + 2 : Nat) : Int) a x y p (m.map .int)) Q := by
  refine callI rfl ?_
  refine And.intro (by decide) ?_
  refine push_c (sp := sp + 1) (q := n / 256) s1 hm (hi8 hn) ?_
  refine push_c (sp := sp) (q := n % 256) (by omega) (by rw [List.length_set]; exact hm) lo8 ?_
  refine Or.inl (And.intro rfl ?_)
  exact h
theorem word_c {n l k : Nat} (hn : n + 1 < 65536) (k1 : k < 65536) (hl : m[n]? = some ((l : Nat) : Int)) (hk : m[n + 1]? = some ((k : Nat) : Int)) (h : Q (.val (.p (.int ((l + k * 256 : Nat) : Int)))) (hpR o j pc (sp : Int) a x y p (m.map .int))) : callsOf T7L (d + 2) 78 [.ref 8, .p (.int (n : Int))] (hpR o j pc (sp : Int) a x y p (m.map .int)) Q := by
  refine callI rfl ?_
  refine callI rfl ?_
  refine And.intro (iOk (n := n) (by omega)) (Exists.intro _ (Exists.intro _ (And.intro rfl (And.intro (pk hl) ?_))))
  refine Or.inl (And.intro rfl ?_)
  refine callI rfl ?_
  refine And.intro (iOk (n := n + 1) (by omega)) (Exists.intro _ (Exists.intro _ (And.intro rfl (And.intro (pk (n := n + 1) hk) ?_))))
  refine Or.inl (And.intro rfl ?_)
  refine And.intro (bits40 k1) ?_
  refine Or.inl (And.intro rfl ?_)
  rw [← wadd] at h
  exact h
end
theorem irq_shut {r : Rg} (hp : bitAnd r.p 4 ≠ 0) : Irq T7L r r := by
  refine ⟨fun o j Q h => ?_⟩
  refine callI rfl ?_
  refine brT (tT' hp) ?_
  refine Or.inl (And.intro rfl ?_)
  exact h j
theorem irq_open {n sp : Nat} {a x y p : Int} {mem : List Int} {q z z1 : Nat} (hp : bitAnd p 4 = 0) (hn : n < 65536) (s1 : sp + 3 < 256) (hm : mem.length = 65536)
    (hq : bitOr (bitAnd p (bitNot 16)) 32 = (q : Int)) (q1 : q < 256) (hz : mem[65534]? = some ((z : Nat) : Int)) (hz1 : mem[65535]? = some ((z1 : Nat) : Int)) (b : z + z1 * 256 < 65536) :
    Irq T7L ⟨n, sp + 3, a, x, y, p, mem⟩ ⟨z + z1 * 256, sp, a, x, y, bitOr (bitAnd p (bitNot 16)) 4, ((mem.set (sp + 3 + 256) ((n / 256 : Nat) : Int)).set (sp + 2 + 256) ((n % 256 : Nat) : Int)).set (sp + 1 + 256) (q : Int)⟩ := by
  refine ⟨fun o j Q h => ?_⟩
  refine callI rfl ?_
  refine brF (tF' hp) ?_
  refine pushW_c (sp := sp + 1) (n := n) hn s1 hm ?_
  refine push_c (sp := sp) (q := q) (by omega) (by rw [List.length_set, List.length_set]; exact hm) (qv hq q1) ?_
  refine word_c (n := 65534) (l := z) (k := z1) (by decide) (by omega) ?_ ?_ ?_
  · rw [List.getElem?_set_ne (by omega), List.getElem?_set_ne (by omega), List.getElem?_set_ne (by omega)]; exact hz
  · rw [List.getElem?_set_ne (by omega), List.getElem?_set_ne (by omega), List.getElem?_set_ne (by omega)]; exact hz1
  refine Or.inl (And.intro rfl ?_)
  exact irq_fin (r' := ⟨z + z1 * 256, sp, a, x, y, bitOr (bitAnd p (bitNot 16)) 4, ((mem.set (sp + 3 + 256) ((n / 256 : Nat) : Int)).set (sp + 2 + 256) ((n % 256 : Nat) : Int)).set (sp + 1 + 256) (q : Int)⟩) h ⟨j.ex, j.ad, j.cy + 7, j.spc⟩ rfl rfl rfl rfl rfl rfl rfl
theorem stp_of {n n2 sp sp2 : Nat} {a x y p a2 x2 y2 p2 pc2 : Int} {mem mem2 : List Int} {op : Nat} {f : Addr} {ex cy : Int} (e1 : pick (tabL 32) (op : Int) = some (.int ex)) (e2 : pick (tabL 30) (op : Int) = some (.fn f)) (e3 : pick (tabL 31) (op : Int) = some (.int cy)) (eo : idxOk (op : Int))
    (ef : ∀ P : Addr → Prop, P f → fnV Z7 (.p (.fn f)) P) (hn : n < 65530) (h0 : mem[n]? = some (op : Int)) (hpc : bitAnd pc2 65535 = (n2 : Int))
    (run : ∀ o j Q, (∀ j', Q (.val (.p .none)) (hpR o j' pc2 (sp2 : Int) a2 x2 y2 p2 (mem2.map .int))) → callsOf T7L 39 f [.ref 8] (hpR o j ((n + 1 : Nat) : Int) (sp : Int) a x y p (mem.map .int)) Q) :
    Stp T7L ⟨n, sp, a, x, y, p, mem⟩ ⟨n2, sp2, a2, x2, y2, p2, mem2⟩ := by
  refine ⟨fun o j Q h => ?_⟩
  refine callI rfl ?_
  refine And.intro (iOk (n := n) (by omega)) (Exists.intro _ (Exists.intro _ (And.intro rfl (And.intro (pk h0) ?_))))
  refine And.intro eo (Exists.intro _ (Exists.intro _ (And.intro rfl (And.intro e1 ?_))))
  refine And.intro eo (Exists.intro _ (Exists.intro _ (And.intro rfl (And.intro e2 ?_))))
  refine fn_of ef ?_
  refine pcN (n := n + 1) (j := ⟨0, _, j.cy, j.spc⟩) (wrap1 (n := n) (by omega)) ?_
  refine run o _ _ fun j' => ?_
  refine And.intro eo (Exists.intro _ (Exists.intro _ (And.intro rfl (And.intro e3 ?_))))
  refine Or.inl (And.intro rfl ?_)
  exact stp_fin (r' := ⟨n2, sp2, a2, x2, y2, p2, mem2⟩) h ⟨j'.ex, j'.ad, j'.cy + (cy + j'.ex), j'.spc⟩ hpc rfl rfl rfl rfl rfl rfl
end VE
namespace VE
open M6
open Builtin (bitAnd bitOr bitXor bitNot)
section
variable {d n sp : Nat} {o : Oth} {j : Jk} {pc a x y p v z : Int} {m : List Int} {Q : Rs → List VO → Prop}
theorem flz_c (h : Q (.val (.p .none)) (hpR o j pc (sp : Int) a x y (nz p v) (m.map .int))) : callsOf T7L (d + 1) 197 [.ref 8, .p (.int v)] (hpR o j pc (sp : Int) a x y p (m.map .int)) Q := by
  refine callI rfl ?_
  cases hc : (v == 0)
  · refine brF hc ?_
    refine Or.inl (And.intro rfl ?_)
    exact hp_fin (P := Q (.val (.p .none))) h rfl rfl rfl rfl rfl rfl (nz1 hc) rfl
  · refine brT hc ?_
    refine Or.inl (And.intro rfl ?_)
    exact hp_fin (P := Q (.val (.p .none))) h rfl rfl rfl rfl rfl rfl (nz0 hc) rfl
theorem byte_c (hn : n < 65536) (hz : m[n]? = some z) (h : Q (.val (.p (.int z))) (hpR o j pc (sp : Int) a x y p (m.map .int))) : callsOf T7L (d + 1) 71 [.ref 8, .p (.int (n : Int))] (hpR o j pc (sp : Int) a x y p (m.map .int)) Q := by
  refine callI rfl ?_
  refine And.intro (iOk (n := n) hn) (Exists.intro _ (Exists.intro _ (And.intro rfl (And.intro (pk hz) ?_))))
  refine Or.inl (And.intro rfl ?_)
  exact h
theorem pc_c (h : Q (.val (.p (.int pc))) (hpR o j pc (sp : Int) a x y p (m.map .int))) : callsOf T7L (d + 1) 92 [.ref 8] (hpR o j pc (sp : Int) a x y p (m.map .int)) Q := by
  refine callI rfl ?_
  refine Or.inl (And.intro rfl ?_)
  exact h
theorem zp_c (hn : n < 65536) (hz : m[n]? = some z) (h : Q (.val (.p (.int z))) (hpR o j (n : Int) (sp : Int) a x y p (m.map .int))) : callsOf T7L (d + 2) 106 [.ref 8] (hpR o j (n : Int) (sp : Int) a x y p (m.map .int)) Q := by
  refine callI rfl ?_
  refine byte_c hn hz ?_
  refine Or.inl (And.intro rfl ?_)
  exact h
theorem opadc_c (hn : n < 65536) (hz : m[n]? = some z) (hD : bitAnd p 8 = 0) (h : Q (.val (.p .none)) (hpR o j (n : Int) (sp : Int) (adcA a z p) x y (adcP a z p) (m.map .int))) : callsOf T7L (d + 2) 281 [.ref 8, .meth 92 8] (hpR o j (n : Int) (sp : Int) a x y p (m.map .int)) Q := by
  refine callI rfl ?_
  refine pc_c ?_
  refine byte_c hn hz ?_
  refine brF (tF hD) ?_
  cases hc : (bitAnd p 1 != 0)
  · refine brF hc ?_
    cases hv : (bitAnd (bitAnd (bitNot (bitXor a z)) (bitXor a (z + a + 0))) 128 != 0)
    · refine brF hv ?_
      cases hg : (decide ((z + a + 0) > 255))
      · refine brF hg ?_
        cases hq : (adA false (z + a + 0) == 0)
        · refine brF hq ?_
          refine Or.inl (And.intro rfl ?_)
          exact hp_fin (P := Q (.val (.p .none))) h rfl rfl rfl (adc_A (adcR0 hc) hg) rfl rfl (adc_P (adcR0 hc) hv hg hq) rfl
        · refine brT hq ?_
          refine Or.inl (And.intro rfl ?_)
          exact hp_fin (P := Q (.val (.p .none))) h rfl rfl rfl (adc_A (adcR0 hc) hg) rfl rfl (adc_P (adcR0 hc) hv hg hq) rfl
      · refine brT hg ?_
        cases hq : (adA true (z + a + 0) == 0)
        · refine brF hq ?_
          refine Or.inl (And.intro rfl ?_)
          exact hp_fin (P := Q (.val (.p .none))) h rfl rfl rfl (adc_A (adcR0 hc) hg) rfl rfl (adc_P (adcR0 hc) hv hg hq) rfl
        · refine brT hq ?_
          refine Or.inl (And.intro rfl ?_)
          exact hp_fin (P := Q (.val (.p .none))) h rfl rfl rfl (adc_A (adcR0 hc) hg) rfl rfl (adc_P (adcR0 hc) hv hg hq) rfl
    · refine brT hv ?_
      cases hg : (decide ((z + a + 0) > 255))
      · refine brF hg ?_
        cases hq : (adA false (z + a + 0) == 0)
        · refine brF hq ?_
          refine Or.inl (And.intro rfl ?_)
          exact hp_fin (P := Q (.val (.p .none))) h rfl rfl rfl (adc_A (adcR0 hc) hg) rfl rfl (adc_P (adcR0 hc) hv hg hq) rfl
        · refine brT hq ?_
          refine Or.inl (And.intro rfl ?_)
          exact hp_fin (P := Q (.val (.p .none))) h rfl rfl rfl (adc_A (adcR0 hc) hg) rfl rfl (adc_P (adcR0 hc) hv hg hq) rfl
      · refine brT hg ?_
        cases hq : (adA true (z + a + 0) == 0)
        · refine brF hq ?_
          refine Or.inl (And.intro rfl ?_)
          exact hp_fin (P := Q (.val (.p .none))) h rfl rfl rfl (adc_A (adcR0 hc) hg) rfl rfl (adc_P (adcR0 hc) hv hg hq) rfl
        · refine brT hq ?_
          refine Or.inl (And.intro rfl ?_)
          exact hp_fin (P := Q (.val (.p .none))) h rfl rfl rfl (adc_A (adcR0 hc) hg) rfl rfl (adc_P (adcR0 hc) hv hg hq) rfl
  · refine brT hc ?_
    cases hv : (bitAnd (bitAnd (bitNot (bitXor a z)) (bitXor a (z + a + 1))) 128 != 0)
    · refine brF hv ?_
      cases hg : (decide ((z + a + 1) > 255))
      · refine brF hg ?_
        cases hq : (adA false (z + a + 1) == 0)
        · refine brF hq ?_
          refine Or.inl (And.intro rfl ?_)
          exact hp_fin (P := Q (.val (.p .none))) h rfl rfl rfl (adc_A (adcR1 hc) hg) rfl rfl (adc_P (adcR1 hc) hv hg hq) rfl
        · refine brT hq ?_
          refine Or.inl (And.intro rfl ?_)
          exact hp_fin (P := Q (.val (.p .none))) h rfl rfl rfl (adc_A (adcR1 hc) hg) rfl rfl (adc_P (adcR1 hc) hv hg hq) rfl
      · refine brT hg ?_
        cases hq : (adA true (z + a + 1) == 0)
        · refine brF hq ?_
          refine Or.inl (And.intro rfl ?_)
          exact hp_fin (P := Q (.val (.p .none))) h rfl rfl rfl (adc_A (adcR1 hc) hg) rfl rfl (adc_P (adcR1 hc) hv hg hq) rfl
        · refine brT hq ?_
          refine Or.inl (And.intro rfl ?_)
          exact hp_fin (P := Q (.val (.p .none))) h rfl rfl rfl (adc_A (adcR1 hc) hg) rfl rfl (adc_P (adcR1 hc) hv hg hq) rfl
    · refine brT hv ?_
      cases hg : (decide ((z + a + 1) > 255))
      · refine brF hg ?_
        cases hq : (adA false (z + a + 1) == 0)
        · refine brF hq ?_
          refine Or.inl (And.intro rfl ?_)
          exact hp_fin (P := Q (.val (.p .none))) h rfl rfl rfl (adc_A (adcR1 hc) hg) rfl rfl (adc_P (adcR1 hc) hv hg hq) rfl
        · refine brT hq ?_
          refine Or.inl (And.intro rfl ?_)
          exact hp_fin (P := Q (.val (.p .none))) h rfl rfl rfl (adc_A (adcR1 hc) hg) rfl rfl (adc_P (adcR1 hc) hv hg hq) rfl
      · refine brT hg ?_
        cases hq : (adA true (z + a + 1) == 0)
        · refine brF hq ?_
          refine Or.inl (And.intro rfl ?_)
          exact hp_fin (P := Q (.val (.p .none))) h rfl rfl rfl (adc_A (adcR1 hc) hg) rfl rfl (adc_P (adcR1 hc) hv hg hq) rfl
        · refine brT hq ?_
          refine Or.inl (And.intro rfl ?_)
          exact hp_fin (P := Q (.val (.p .none))) h rfl rfl rfl (adc_A (adcR1 hc) hg) rfl rfl (adc_P (adcR1 hc) hv hg hq) rfl
end
section
variable {n sp : Nat} {a x y p : Int} {mem : List Int}
theorem st_18 (hn : n < 65530)  (h0 : mem[n]? = some 24) : Stp T7L ⟨n, sp, a, x, y, p, mem⟩ ⟨n + 1, sp, a, x, y, bitAnd p (bitNot 1), mem⟩ := by
  refine stp_of (op := 24) rfl rfl rfl (by decide) (fun P h => h) hn h0 (wrap0 (n := n + 1) (by omega)) fun o j Q h => ?_
  refine callI rfl ?_
  refine callI rfl ?_
  refine Or.inl (And.intro rfl ?_)
  refine Or.inl (And.intro rfl ?_)
  exact h j
theorem st_38 (hn : n < 65530)  (h0 : mem[n]? = some 56) : Stp T7L ⟨n, sp, a, x, y, p, mem⟩ ⟨n + 1, sp, a, x, y, bitOr p 1, mem⟩ := by
  refine stp_of (op := 56) rfl rfl rfl (by decide) (fun P h => h) hn h0 (wrap0 (n := n + 1) (by omega)) fun o j Q h => ?_
  refine callI rfl ?_
  refine callI rfl ?_
  refine Or.inl (And.intro rfl ?_)
  refine Or.inl (And.intro rfl ?_)
  exact h j
theorem st_58 (hn : n < 65530)  (h0 : mem[n]? = some 88) : Stp T7L ⟨n, sp, a, x, y, p, mem⟩ ⟨n + 1, sp, a, x, y, bitAnd p (bitNot 4), mem⟩ := by
  refine stp_of (op := 88) rfl rfl rfl (by decide) (fun P h => h) hn h0 (wrap0 (n := n + 1) (by omega)) fun o j Q h => ?_
  refine callI rfl ?_
  refine callI rfl ?_
  refine Or.inl (And.intro rfl ?_)
  refine Or.inl (And.intro rfl ?_)
  exact h j
theorem st_78 (hn : n < 65530)  (h0 : mem[n]? = some 120) : Stp T7L ⟨n, sp, a, x, y, p, mem⟩ ⟨n + 1, sp, a, x, y, bitOr p 4, mem⟩ := by
  refine stp_of (op := 120) rfl rfl rfl (by decide) (fun P h => h) hn h0 (wrap0 (n := n + 1) (by omega)) fun o j Q h => ?_
  refine callI rfl ?_
  refine callI rfl ?_
  refine Or.inl (And.intro rfl ?_)
  refine Or.inl (And.intro rfl ?_)
  exact h j
theorem st_a9 (hn : n < 65530) {z : Int} (h1 : mem[n + 1]? = some z) (h0 : mem[n]? = some 169) : Stp T7L ⟨n, sp, a, x, y, p, mem⟩ ⟨n + 2, sp, z, x, y, nz p z, mem⟩ := by
  refine stp_of (op := 169) rfl rfl rfl (by decide) (fun P h => h) hn h0 (wrap0 (n := n + 2) (by omega)) fun o j Q h => ?_
  refine callI rfl ?_
  refine callI rfl ?_
  refine pc_c ?_
  refine byte_c (n := n + 1) (by omega) h1 ?_
  refine flz_c ?_
  refine Or.inl (And.intro rfl ?_)
  refine Or.inl (And.intro rfl ?_)
  exact h j
theorem st_a5 (hn : n < 65530) {k : Nat} {z : Int} (h1 : mem[n + 1]? = some ((k : Nat) : Int)) (hk : k < 65536) (hz : mem[k]? = some z) (hm : mem.length = 65536) (h0 : mem[n]? = some 165) : Stp T7L ⟨n, sp, a, x, y, p, mem⟩ ⟨n + 2, sp, z, x, y, nz p z, mem⟩ := by
  refine stp_of (op := 165) rfl rfl rfl (by decide) (fun P h => h) hn h0 (wrap0 (n := n + 2) (by omega)) fun o j Q h => ?_
  refine callI rfl ?_
  refine callI rfl ?_
  refine zp_c (n := n + 1) (by omega) h1 ?_
  refine byte_c hk hz ?_
  refine flz_c ?_
  refine Or.inl (And.intro rfl ?_)
  refine Or.inl (And.intro rfl ?_)
  exact h j
theorem st_85 (hn : n < 65530) {k : Nat} (h1 : mem[n + 1]? = some ((k : Nat) : Int)) (hk : k < 65536) (hm : mem.length = 65536) (h0 : mem[n]? = some 133) : Stp T7L ⟨n, sp, a, x, y, p, mem⟩ ⟨n + 2, sp, a, x, y, p, mem.set k a⟩ := by
  refine stp_of (op := 133) rfl rfl rfl (by decide) (fun P h => h) hn h0 (wrap0 (n := n + 2) (by omega)) fun o j Q h => ?_
  refine callI rfl ?_
  refine callI rfl ?_
  refine zp_c (n := n + 1) (by omega) h1 ?_
  refine And.intro (stB hk hm) ?_
  refine Or.inl (And.intro rfl ?_)
  refine Or.inl (And.intro rfl ?_)
  exact hp_fin (P := Q (.val (.p .none))) (h j) rfl rfl rfl rfl rfl rfl rfl mset
theorem st_48 (hn : n < 65530) (s1 : sp + 1 < 256) (a0 : 0 ≤ a) (a1 : a < 256) (hm : mem.length = 65536) (h0 : mem[n]? = some 72) : Stp T7L ⟨n, sp + 1, a, x, y, p, mem⟩ ⟨n + 1, sp, a, x, y, p, mem.set (sp + 1 + 256) a⟩ := by
  refine stp_of (op := 72) rfl rfl rfl (by decide) (fun P h => h) hn h0 (wrap0 (n := n + 1) (by omega)) fun o j Q h => ?_
  obtain ⟨q, rfl⟩ := Int.eq_ofNat_of_zero_le a0
  refine callI rfl ?_
  refine push_c (q := q) s1 hm (qv rfl (by omega)) ?_
  refine Or.inl (And.intro rfl ?_)
  exact h j
theorem st_08 (hn : n < 65530) (s1 : sp + 1 < 256) {q : Nat} (hq : bitOr (bitOr p 16) 32 = (q : Int)) (q1 : q < 256) (hm : mem.length = 65536) (h0 : mem[n]? = some 8) : Stp T7L ⟨n, sp + 1, a, x, y, p, mem⟩ ⟨n + 1, sp, a, x, y, p, mem.set (sp + 1 + 256) (q : Int)⟩ := by
  refine stp_of (op := 8) rfl rfl rfl (by decide) (fun P h => h) hn h0 (wrap0 (n := n + 1) (by omega)) fun o j Q h => ?_
  refine callI rfl ?_
  refine push_c (q := q) s1 hm (qv hq q1) ?_
  refine Or.inl (And.intro rfl ?_)
  exact h j
theorem st_28 (hn : n < 65530) (s1 : sp < 255) {q : Int} (hz : mem[sp + 1 + 256]? = some q) (h0 : mem[n]? = some 40) : Stp T7L ⟨n, sp, a, x, y, p, mem⟩ ⟨n + 1, sp + 1, a, x, y, bitOr (bitOr q 16) 32, mem⟩ := by
  refine stp_of (op := 40) rfl rfl rfl (by decide) (fun P h => h) hn h0 (wrap0 (n := n + 1) (by omega)) fun o j Q h => ?_
  refine callI rfl ?_
  refine pop_c (by omega) hz ?_
  refine Or.inl (And.intro rfl ?_)
  exact h j
theorem st_68 (hn : n < 65530) {z : Int} (s1 : sp < 255) (hz : mem[sp + 1 + 256]? = some z) (h0 : mem[n]? = some 104) : Stp T7L ⟨n, sp, a, x, y, p, mem⟩ ⟨n + 1, sp + 1, z, x, y, nz p z, mem⟩ := by
  refine stp_of (op := 104) rfl rfl rfl (by decide) (fun P h => h) hn h0 (wrap0 (n := n + 1) (by omega)) fun o j Q h => ?_
  refine callI rfl ?_
  refine pop_c (by omega) hz ?_
  refine flz_c ?_
  refine Or.inl (And.intro rfl ?_)
  exact h j
theorem st_69 (hn : n < 65530) {z : Int} (h1 : mem[n + 1]? = some z) (hD : bitAnd p 8 = 0) (h0 : mem[n]? = some 105) : Stp T7L ⟨n, sp, a, x, y, p, mem⟩ ⟨n + 2, sp, adcA a z p, x, y, adcP a z p, mem⟩ := by
  refine stp_of (op := 105) rfl rfl rfl (by decide) (fun P h => h) hn h0 (wrap0 (n := n + 2) (by omega)) fun o j Q h => ?_
  refine callI rfl ?_
  refine opadc_c (n := n + 1) (by omega) h1 hD ?_
  refine Or.inl (And.intro rfl ?_)
  exact h j
theorem st_e6 (hn : n < 65530) {k : Nat} {z : Int} (h1 : mem[n + 1]? = some ((k : Nat) : Int)) (hk : k < 65536) (hz : mem[k]? = some z) (hm : mem.length = 65536) (h0 : mem[n]? = some 230) : Stp T7L ⟨n, sp, a, x, y, p, mem⟩ ⟨n + 2, sp, a, x, y, nz p (bitAnd (z + 1) 255), mem.set k (bitAnd (z + 1) 255)⟩ := by
  refine stp_of (op := 230) rfl rfl rfl (by decide) (fun P h => h) hn h0 (wrap0 (n := n + 2) (by omega)) fun o j Q h => ?_
  refine callI rfl ?_
  refine callI rfl ?_
  refine zp_c (n := n + 1) (by omega) h1 ?_
  refine byte_c hk hz ?_
  cases hc : (bitAnd (z + 1) 255 != 0)
  · refine brF hc ?_
    refine And.intro (stB hk hm) ?_
    refine Or.inl (And.intro rfl ?_)
    refine Or.inl (And.intro rfl ?_)
    exact hp_fin (P := Q (.val (.p .none))) (h j) rfl rfl rfl rfl rfl rfl (nzF hc) mset
  · refine brT hc ?_
    refine And.intro (stB hk hm) ?_
    refine Or.inl (And.intro rfl ?_)
    refine Or.inl (And.intro rfl ?_)
    exact hp_fin (P := Q (.val (.p .none))) (h j) rfl rfl rfl rfl rfl rfl (nzT hc) mset
theorem st_2a (hn : n < 65530) (hp : bitAnd p 1 ≠ 0) (a0 : 0 ≤ a) (a1 : a < 65536) (h0 : mem[n]? = some 42) : Stp T7L ⟨n, sp, a, x, y, p, mem⟩ ⟨n + 1, sp, rolA a, x, y, rolP a p, mem⟩ := by
  refine stp_of (op := 42) rfl rfl rfl (by decide) (fun P h => h) hn h0 (wrap0 (n := n + 1) (by omega)) fun o j Q h => ?_
  refine callI rfl ?_
  refine callI rfl ?_
  refine brT (tT hp) ?_
  cases hc : (bitAnd a 128 != 0)
  · refine brF hc ?_
    refine And.intro (And.intro (by decide) (bits1 a0 a1)) ?_
    refine flz_c (j := j) (v := rolA a) ?_
    refine Or.inl (And.intro rfl ?_)
    refine Or.inl (And.intro rfl ?_)
    exact hp_fin (P := Q (.val (.p .none))) (h j) rfl rfl rfl rfl rfl rfl (rolP0 hc) rfl
  · refine brT hc ?_
    refine And.intro (And.intro (by decide) (bits1 a0 a1)) ?_
    refine flz_c (j := j) (v := rolA a) ?_
    refine Or.inl (And.intro rfl ?_)
    refine Or.inl (And.intro rfl ?_)
    exact hp_fin (P := Q (.val (.p .none))) (h j) rfl rfl rfl rfl rfl rfl (rolP1 hc) rfl
theorem st_40 (hn : n < 65530) {q l m : Nat} (s1 : sp < 253) (hz : mem[sp + 1 + 256]? = some ((q : Nat) : Int)) (hz1 : mem[sp + 2 + 256]? = some ((l : Nat) : Int)) (hz2 : mem[sp + 3 + 256]? = some ((m : Nat) : Int)) (hl : l + m * 256 < 65536) (h0 : mem[n]? = some 64) : Stp T7L ⟨n, sp, a, x, y, p, mem⟩ ⟨l + m * 256, sp + 3, a, x, y, bitOr (bitOr (q : Int) 16) 32, mem⟩ := by
  refine stp_of (op := 64) rfl rfl rfl (by decide) (fun P h => h) hn h0 (wrap0 hl) fun o j Q h => ?_
  refine callI rfl ?_
  refine pop_c (sp := sp) (z := (q : Int)) (by omega) hz ?_
  refine popW_c (j := j) (sp := sp + 1) (l := l) (k := m) (by omega) (by omega) hz1 hz2 ?_
  refine Or.inl (And.intro rfl ?_)
  exact h j
end
end VE
namespace VE
open M6
open Builtin
/-! Bits of octets. -/
theorem b128 : ∀ w : Nat, w < 256 → bitAnd (w : Int) 128 = 0 ∨ bitAnd (w : Int) 128 = 128 := by decide +kernel
noncomputable def oct (i : Int) : Prop := ∃ n : Nat, n < 256 ∧ i = n
theorem nz_rep {w : Nat} (h : w < 256) : ∃ v : Int, v ∈ [(0 : Int), 1, 128] ∧ (w = 0 ↔ v = 0) ∧ ∀ p, nz p w = nz p v := by
  by_cases e : w = 0
  · subst e; exact ⟨0, by decide, by decide, fun p => rfl⟩
  · have e' : (w : Int) ≠ 0 := by omega
    rcases b128 w h with q | q
    · refine ⟨1, by decide, ⟨fun z => absurd z e, fun z => nomatch z⟩, fun p => ?_⟩
      unfold nz
      rw [if_neg e', if_neg (by decide), q, show bitAnd 1 128 = 0 by decide +kernel]
    · refine ⟨128, by decide, ⟨fun z => absurd z e, fun z => nomatch z⟩, fun p => ?_⟩
      unfold nz
      rw [if_neg e', if_neg (by decide), q, show bitAnd 128 128 = 128 by decide +kernel]
end VE
namespace VE
open M6
open Builtin
/-! Bits: what the flags of a main program keep. -/
/-- Octet flags with B and the unused bit up, D down, I as told. -/
noncomputable def PK (p : Nat) (i : Nat) : Prop := p < 256 ∧ bitAnd (p : Int) 16 = 16 ∧ bitAnd (p : Int) 32 = 32 ∧ bitAnd (p : Int) 8 = 0 ∧ bitAnd (p : Int) 4 = 4 * (i : Int)
noncomputable def keepsP (f : Int → Int) : Prop := ∀ p : Nat, p < 256 → 0 ≤ f p ∧ f p < 256 ∧ bitAnd (f p) 16 = bitAnd (p : Int) 16 ∧ bitAnd (f p) 32 = bitAnd (p : Int) 32 ∧ bitAnd (f p) 8 = bitAnd (p : Int) 8 ∧ bitAnd (f p) 4 = bitAnd (p : Int) 4
theorem keeps_nz0 : keepsP (fun p => nz p 0) := by unfold keepsP; decide +kernel
theorem keeps_nz1 : keepsP (fun p => nz p 1) := by unfold keepsP; decide +kernel
theorem keeps_nz2 : keepsP (fun p => nz p 128) := by unfold keepsP; decide +kernel
theorem nz_c : ∀ p : Nat, p < 256 → ∀ v ∈ [(0 : Int), 1, 128], bitAnd (nz p v) 1 = bitAnd (p : Int) 1 := by decide +kernel
theorem keeps_nz {w : Nat} (hw : w < 256) : keepsP (fun p => nz p w) := by
  obtain ⟨v, hv, _, e⟩ := nz_rep hw
  intro p hp
  simp only [e]
  rcases List.mem_cons.mp hv with rfl | hv
  · exact keeps_nz0 p hp
  · rcases List.mem_cons.mp hv with rfl | hv
    · exact keeps_nz1 p hp
    · obtain rfl := List.mem_singleton.mp hv
      exact keeps_nz2 p hp
theorem nz_carry {p w : Nat} (hp : p < 256) (hw : w < 256) : bitAnd (nz p w) 1 = bitAnd (p : Int) 1 := by
  obtain ⟨v, hv, _, e⟩ := nz_rep hw
  rw [e]; exact nz_c p hp v hv
theorem keeps_clc : keepsP (fun p => bitAnd p (bitNot 1)) := by unfold keepsP; decide +kernel
theorem clc_c : ∀ p : Nat, p < 256 → bitAnd (bitAnd p (bitNot 1)) 1 = 0 := by decide +kernel
theorem keeps_sec : keepsP (fun p => bitOr p 1) := by unfold keepsP; decide +kernel
theorem sec_c : ∀ p : Nat, p < 256 → bitAnd (bitOr p 1) 1 ≠ 0 := by decide +kernel
/-- The flags behind ADC, by what they hang on. -/
noncomputable def adcF (v c : Bool) (l : Int) (p : Int) : Int :=
  let p1 := bitAnd p (bitNot (bitOr (bitOr (bitOr 1 64) 128) 2))
  let p2 := cond v p1 (bitOr p1 64)
  bitOr (cond c (bitOr p2 1) p2) l
theorem keeps_adc : ∀ v c : Bool, ∀ l ∈ [(2 : Int), 0, 128], keepsP (adcF v c l) := by unfold keepsP; decide +kernel
theorem adc_c : ∀ v c : Bool, ∀ l ∈ [(2 : Int), 0, 128], ∀ p : Nat, p < 256 → bitAnd (adcF v c l p) 1 = cond c 1 0 := by decide +kernel
theorem low8 : ∀ w : Nat, w < 256 → bitAnd (w : Int) 128 = 0 ∨ bitAnd (w : Int) 128 = 128 := b128
theorem adcA_is {a z : Nat} {p : Int} {cy : Nat} (ha : a < 256) (hz : z < 256) (hc : bitAnd p 1 = (cy : Int)) (hcy : cy ≤ 1) : adcR a z p = ((a + z + cy : Nat) : Int) ∧ adcA a z p = (((a + z + cy) % 256 : Nat) : Int) := by
  have e : adcR a z p = ((a + z + cy : Nat) : Int) := by
    unfold adcR
    by_cases h : cy = 0
    · rw [if_pos (by rw [hc, h]; rfl)]; omega
    · rw [if_neg (by rw [hc]; omega)]; omega
  refine ⟨e, ?_⟩
  unfold adcA
  rw [e]
  by_cases h : ((a + z + cy : Nat) : Int) > 255
  · rw [if_pos h, bitAnd_m8]; omega
  · rw [if_neg h]; omega
theorem adcP_is {a z p : Nat} {cy : Nat} (ha : a < 256) (hz : z < 256) (hc : bitAnd (p : Int) 1 = (cy : Int)) (hcy : cy ≤ 1) : ∃ v : Bool, ∃ l ∈ [(2 : Int), 0, 128], adcP a z p = adcF v (decide (a + z + cy > 255)) l p := by
  obtain ⟨eR, eA⟩ := adcA_is (p := (p : Int)) ha hz hc hcy
  refine ⟨decide (adcV a z p = 0), ?_⟩
  have e1 : adcP1 a z p = cond (decide (adcV a z p = 0)) (bitAnd p (bitNot (bitOr (bitOr (bitOr 1 64) 128) 2))) (bitOr (bitAnd p (bitNot (bitOr (bitOr (bitOr 1 64) 128) 2))) 64) := by
    unfold adcP1
    by_cases h : adcV a z p = 0
    · rw [if_pos h, decide_eq_true h]; rfl
    · rw [if_neg h, decide_eq_false h]; rfl
  have e2 : adcP2 a z p = cond (decide (a + z + cy > 255)) (bitOr (adcP1 a z p) 1) (adcP1 a z p) := by
    unfold adcP2
    rw [eR]
    by_cases h : a + z + cy > 255
    · rw [if_pos (by omega), decide_eq_true h]; rfl
    · rw [if_neg (by omega), decide_eq_false h]; rfl
  unfold adcP adcF
  rw [e2, e1, eA]
  by_cases h : (a + z + cy) % 256 = 0
  · exact ⟨2, by decide, by rw [if_pos (by rw [h]; rfl)]⟩
  · rw [if_neg (by omega)]
    rcases low8 ((a + z + cy) % 256) (Nat.mod_lt _ (by decide)) with q | q
    · exact ⟨0, by decide, by rw [q]⟩
    · exact ⟨128, by decide, by rw [q]⟩
theorem rol_a : ∀ a : Nat, a < 256 → rolA (a : Int) = (((2 * a + 1) % 256 : Nat) : Int) := by decide +kernel
theorem keeps_rol {a : Nat} (ha : a < 256) : keepsP (fun p => rolP a p) := by
  have e := rol_a a ha
  have hw : (2 * a + 1) % 256 < 256 := Nat.mod_lt _ (by decide)
  intro p hp
  show _ ∧ _
  simp only [rolP, e]
  by_cases h : bitAnd (a : Int) 128 = 0
  · rw [if_pos h]
    obtain ⟨k0, k1, k2, k3, k4, k5⟩ := keeps_clc p hp
    dsimp only at k0 k1 k2 k3 k4 k5
    have e2 : ((bitAnd (p : Int) (bitNot 1)).toNat : Int) = bitAnd (p : Int) (bitNot 1) := Int.toNat_of_nonneg k0
    obtain ⟨j0, j1, j2, j3, j4, j5⟩ := keeps_nz hw (bitAnd (p : Int) (bitNot 1)).toNat (by omega)
    dsimp only at j0 j1 j2 j3 j4 j5
    rw [e2] at j0 j1 j2 j3 j4 j5
    exact ⟨j0, j1, j2.trans k2, j3.trans k3, j4.trans k4, j5.trans k5⟩
  · rw [if_neg h]; exact keeps_nz hw p hp
theorem sei_k : ∀ p : Nat, p < 256 → 0 ≤ bitOr p 4 ∧ bitOr p 4 < 256 ∧ bitAnd (bitOr p 4) 16 = bitAnd (p : Int) 16 ∧ bitAnd (bitOr p 4) 32 = bitAnd (p : Int) 32 ∧ bitAnd (bitOr p 4) 8 = bitAnd (p : Int) 8 ∧ bitAnd (bitOr p 4) 4 = 4 := by decide +kernel
theorem cli_k : ∀ p : Nat, p < 256 → 0 ≤ bitAnd p (bitNot 4) ∧ bitAnd p (bitNot 4) < 256 ∧ bitAnd (bitAnd p (bitNot 4)) 16 = bitAnd (p : Int) 16 ∧ bitAnd (bitAnd p (bitNot 4)) 32 = bitAnd (p : Int) 32 ∧ bitAnd (bitAnd p (bitNot 4)) 8 = bitAnd (p : Int) 8 ∧ bitAnd (bitAnd p (bitNot 4)) 4 = 0 := by decide +kernel
theorem php_k : ∀ p : Nat, p < 256 → bitAnd (p : Int) 16 = 16 → bitAnd (p : Int) 32 = 32 → bitOr (bitOr p 16) 32 = p := by decide +kernel
theorem irq_k : ∀ p : Nat, p < 256 → bitAnd (p : Int) 16 = 16 → bitAnd (p : Int) 32 = 32 → bitOr (bitOr (bitOr (bitAnd p (bitNot 16)) 32) 16) 32 = p ∧ (0 ≤ bitOr (bitAnd p (bitNot 16)) 32 ∧ bitOr (bitAnd p (bitNot 16)) 32 < 256) := by decide +kernel
/-- The flags within the handler: I up, D down; B told no more. -/
noncomputable def PH (p : Nat) : Prop := p < 256 ∧ bitAnd (p : Int) 8 = 0
theorem irq_h : ∀ p : Nat, p < 256 → (0 ≤ bitOr (bitAnd p (bitNot 16)) 4 ∧ bitOr (bitAnd p (bitNot 16)) 4 < 256) ∧ bitAnd (bitOr (bitAnd p (bitNot 16)) 4) 8 = bitAnd (p : Int) 8 := by decide +kernel
end VE
namespace VE
open M6
open Builtin
/-- The flags that a step keeps. -/
structure KeepP (p p' : Nat) : Prop where
  lt : p' < 256
  b : bitAnd (p' : Int) 16 = bitAnd (p : Int) 16
  u : bitAnd (p' : Int) 32 = bitAnd (p : Int) 32
  d : bitAnd (p' : Int) 8 = bitAnd (p : Int) 8
  i : bitAnd (p' : Int) 4 = bitAnd (p : Int) 4
theorem KeepP.of {f : Int → Int} (hf : keepsP f) {p : Nat} (h : p < 256) : ∃ p' : Nat, f p = (p' : Int) ∧ KeepP p p' := by
  obtain ⟨k0, k1, k2, k3, k4, k5⟩ := hf p h
  have e : ((f p).toNat : Int) = f p := Int.toNat_of_nonneg k0
  exact ⟨(f p).toNat, e.symm, ⟨by omega, by rw [e, k2], by rw [e, k3], by rw [e, k4], by rw [e, k5]⟩⟩
theorem KeepP.refl {p : Nat} (h : p < 256) : KeepP p p := ⟨h, rfl, rfl, rfl, rfl⟩
theorem KeepP.trans {p q r : Nat} (h : KeepP p q) (h' : KeepP q r) : KeepP p r := ⟨h'.lt, h'.b.trans h.b, h'.u.trans h.u, h'.d.trans h.d, h'.i.trans h.i⟩
theorem PK.keep {p p' i : Nat} (h : PK p i) (k : KeepP p p') : PK p' i := ⟨k.lt, k.b.trans h.2.1, k.u.trans h.2.2.1, k.d.trans h.2.2.2.1, k.i.trans h.2.2.2.2⟩
theorem adc_keep {a z p cy : Nat} (ha : a < 256) (hz : z < 256) (hp : p < 256) (hc : bitAnd (p : Int) 1 = (cy : Int)) (hcy : cy ≤ 1) :
    ∃ p' : Nat, adcA a z p = (((a + z + cy) % 256 : Nat) : Int) ∧ adcP a z p = (p' : Int) ∧ KeepP p p' ∧ bitAnd (p' : Int) 1 = (((a + z + cy) / 256 : Nat) : Int) := by
  obtain ⟨v, l, hl, e⟩ := adcP_is ha hz hc hcy
  obtain ⟨p', e2, k⟩ := KeepP.of (keeps_adc v (decide (a + z + cy > 255)) l hl) hp
  refine ⟨p', (adcA_is ha hz hc hcy).2, e.trans e2, k, ?_⟩
  rw [← e2, adc_c _ _ l hl p hp]
  by_cases h : a + z + cy > 255
  · rw [decide_eq_true h]; show (1 : Int) = _; omega
  · rw [decide_eq_false h]; show (0 : Int) = _; omega
theorem nz_keep {p w : Nat} (hp : p < 256) (hw : w < 256) : ∃ p' : Nat, nz p w = (p' : Int) ∧ KeepP p p' ∧ bitAnd (p' : Int) 1 = bitAnd (p : Int) 1 := by
  obtain ⟨p', e, k⟩ := KeepP.of (keeps_nz hw) hp
  exact ⟨p', e, k, by rw [← e]; exact nz_carry hp hw⟩
theorem clc_keep {p : Nat} (hp : p < 256) : ∃ p' : Nat, bitAnd p (bitNot 1) = (p' : Int) ∧ KeepP p p' ∧ bitAnd (p' : Int) 1 = 0 := by
  obtain ⟨p', e, k⟩ := KeepP.of keeps_clc hp
  exact ⟨p', e, k, by rw [← e]; exact clc_c p hp⟩
/-- The memory but for the stack's page. -/
noncomputable def want7 (v32 v33 v34 v35 : Nat) (pl : List Int) (k : Nat) : Option Int :=
  if k = 32 then some (v32 : Int) else if k = 33 then some (v33 : Int) else if k = 34 then some (v34 : Int) else if k = 35 then some (v35 : Int) else pl[k]?
structure Mem7 (v32 v33 v34 v35 : Nat) (pl mem : List Int) : Prop where
  len : mem.length = 65536
  at_ : ∀ k, k < 256 ∨ 512 ≤ k → mem[k]? = want7 v32 v33 v34 v35 pl k
section
variable {v32 v33 v34 v35 : Nat} {pl mem : List Int}
theorem Mem7.c32 (M : Mem7 v32 v33 v34 v35 pl mem) : mem[32]? = some (v32 : Int) := by rw [M.at_ 32 (.inl (by decide))]; rfl
theorem Mem7.c33 (M : Mem7 v32 v33 v34 v35 pl mem) : mem[33]? = some (v33 : Int) := by rw [M.at_ 33 (.inl (by decide))]; rfl
theorem Mem7.c34 (M : Mem7 v32 v33 v34 v35 pl mem) : mem[34]? = some (v34 : Int) := by rw [M.at_ 34 (.inl (by decide))]; rfl
theorem Mem7.hi (M : Mem7 v32 v33 v34 v35 pl mem) {k : Nat} (h : 512 ≤ k) : mem[k]? = pl[k]? := by
  rw [M.at_ k (.inr h)]
  unfold want7
  rw [if_neg (by omega), if_neg (by omega), if_neg (by omega), if_neg (by omega)]
theorem Mem7.stk (M : Mem7 v32 v33 v34 v35 pl mem) {k : Nat} {z : Int} (h : 256 ≤ k) (h' : k < 512) : Mem7 v32 v33 v34 v35 pl (mem.set k z) := by
  refine ⟨by rw [List.length_set]; exact M.len, fun j hj => ?_⟩
  rw [List.getElem?_set_ne (by omega)]
  exact M.at_ j hj
theorem Mem7.put (M : Mem7 v32 v33 v34 v35 pl mem) (k v : Nat) {w32 w33 w34 w35 : Nat} (hk : k < 256) (h1 : want7 w32 w33 w34 w35 pl k = some (v : Int)) (h2 : ∀ j, j ≠ k → want7 w32 w33 w34 w35 pl j = want7 v32 v33 v34 v35 pl j) : Mem7 w32 w33 w34 w35 pl (mem.set k (v : Int)) := by
  refine ⟨by rw [List.length_set]; exact M.len, fun j hj => ?_⟩
  by_cases e : j = k
  · subst e; rw [List.getElem?_set_self (by rw [M.len]; omega), h1]
  · rw [List.getElem?_set_ne (Ne.symm e), M.at_ j hj, h2 j e]
theorem Mem7.set32 (M : Mem7 v32 v33 v34 v35 pl mem) (v : Nat) : Mem7 v v33 v34 v35 pl (mem.set 32 (v : Int)) := M.put 32 v (by decide) rfl fun j e => by unfold want7; rw [if_neg e, if_neg e]
theorem Mem7.set33 (M : Mem7 v32 v33 v34 v35 pl mem) (v : Nat) : Mem7 v32 v v34 v35 pl (mem.set 33 (v : Int)) := M.put 33 v (by decide) rfl fun j e => by unfold want7; rw [if_neg e, if_neg e]
theorem Mem7.set34 (M : Mem7 v32 v33 v34 v35 pl mem) (v : Nat) : Mem7 v32 v33 v v35 pl (mem.set 34 (v : Int)) := M.put 34 v (by decide) rfl fun j e => by unfold want7; rw [if_neg e, if_neg e]
theorem Mem7.set35 (M : Mem7 v32 v33 v34 v35 pl mem) (v : Nat) : Mem7 v32 v33 v34 v pl (mem.set 35 (v : Int)) := M.put 35 v (by decide) rfl fun j e => by unfold want7; rw [if_neg e, if_neg e]
end
/-- The octets of a sum in seven steps. -/
noncomputable def sumcode (part : Nat) : List Int := [24, 165, 32, 105, (part : Int), 133, 32, 165, 33, 105, 0, 133, 33]
noncomputable def soff : Nat → Nat
  | 0 => 0
  | n + 1 => 2 * n + 1
/-- What the registers and the cell hold within a sum. -/
noncomputable def SumSt (part lo hi : Nat) : Nat → (a : Nat) → (cy : Int) → (v32 v33 : Nat) → Prop
  | 0, a, cy, v32, v33 => v32 = lo ∧ v33 = hi
  | 1, a, cy, v32, v33 => v32 = lo ∧ v33 = hi ∧ cy = 0
  | 2, a, cy, v32, v33 => v32 = lo ∧ v33 = hi ∧ cy = 0 ∧ a = lo
  | 3, a, cy, v32, v33 => v32 = lo ∧ v33 = hi ∧ cy = (((lo + part) / 256 : Nat) : Int) ∧ a = (lo + part) % 256
  | 4, a, cy, v32, v33 => v32 = (lo + part) % 256 ∧ v33 = hi ∧ cy = (((lo + part) / 256 : Nat) : Int)
  | 5, a, cy, v32, v33 => v32 = (lo + part) % 256 ∧ v33 = hi ∧ cy = (((lo + part) / 256 : Nat) : Int) ∧ a = hi
  | 6, a, cy, v32, v33 => v32 = (lo + part) % 256 ∧ v33 = hi ∧ a = (hi + (lo + part) / 256) % 256
  | _, a, cy, v32, v33 => v32 = (lo + part) % 256 ∧ v33 = (hi + (lo + part) / 256) % 256
section
variable {n0 sp a p part lo hi v32 v33 v34 v35 : Nat} {x y : Int} {pl mem : List Int}
/-- What one step of a sum leaves. -/
noncomputable def SumNext (n0 s sp part lo hi v34 v35 : Nat) (x y : Int) (pl : List Int) (p : Nat) (r : Rg) (mem : List Int) : Prop :=
  ∃ a2 p2 w32 w33 : Nat, ∃ mem2, Stp T7L r ⟨n0 + soff (s + 1), sp, (a2 : Int), x, y, (p2 : Int), mem2⟩ ∧ a2 < 256 ∧ KeepP p p2 ∧ Mem7 w32 w33 v34 v35 pl mem2 ∧ SumSt part lo hi (s + 1) a2 (bitAnd (p2 : Int) 1) w32 w33 ∧ ∀ k, 256 ≤ k → k < 512 → mem2[k]? = mem[k]?
theorem stk_ne {mem : List Int} {k0 : Nat} {z : Int} (h : k0 < 256) : ∀ k, 256 ≤ k → k < 512 → (mem.set k0 z)[k]? = mem[k]? := fun k h1 h2 => List.getElem?_set_ne (by omega)
theorem sum_step {s : Nat} (hs : s < 7) (hn : n0 < 65500) (hn' : 512 ≤ n0) (C : ∀ (j : Nat) (z : Int), (sumcode part)[j]? = some z → pl[n0 + j]? = some z) (hpart : part < 256) (hlo : lo < 256) (hhi : hi < 256) (ha : a < 256) (hp : p < 256) (hD : bitAnd (p : Int) 8 = 0)
    (M : Mem7 v32 v33 v34 v35 pl mem) (S : SumSt part lo hi s a (bitAnd (p : Int) 1) v32 v33) : SumNext n0 s sp part lo hi v34 v35 x y pl p ⟨n0 + soff s, sp, (a : Int), x, y, (p : Int), mem⟩ mem := by
  have code : ∀ (j : Nat) (z : Int), (sumcode part)[j]? = some z → mem[n0 + j]? = some z := fun j z h => (M.hi (Nat.le_trans hn' (Nat.le_add_right _ _))).trans (C j z h)
  have hq : (lo + part) / 256 ≤ 1 := by omega
  have small : ∀ j, j ≤ 13 → n0 + j < 65530 := fun j hj => by omega
  clear hn hn' C
  match s, hs with
  | 0, _ =>
    obtain ⟨p2, e, k, c⟩ := clc_keep hp
    exact ⟨a, p2, v32, v33, mem, e ▸ st_18 (small 0 (by decide)) (code 0 _ rfl), ha, k, M, ⟨S.1, S.2, c⟩, fun _ _ _ => rfl⟩
  | 1, _ =>
    obtain ⟨rfl, rfl, c⟩ := S
    obtain ⟨p2, e, k, c2⟩ := nz_keep hp hlo
    exact ⟨v32, p2, v32, v33, mem, e ▸ st_a5 (small 1 (by decide)) (k := 32) (code 2 _ rfl) (by decide) M.c32 M.len (code 1 _ rfl), hlo, k, M, ⟨rfl, rfl, c2.trans c, rfl⟩, fun _ _ _ => rfl⟩
  | 2, _ =>
    obtain ⟨rfl, rfl, c, rfl⟩ := S
    obtain ⟨p2, e1, e2, k, c2⟩ := adc_keep (cy := 0) ha hpart hp c (by decide)
    exact ⟨(a + part) % 256, p2, a, v33, mem, e1 ▸ e2 ▸ st_69 (small 3 (by decide)) (z := (part : Int)) (code 4 _ rfl) hD (code 3 _ rfl), Nat.mod_lt _ (by decide), k, M, ⟨rfl, rfl, c2, rfl⟩, fun _ _ _ => rfl⟩
  | 3, _ =>
    obtain ⟨rfl, rfl, c, rfl⟩ := S
    exact ⟨_, p, (v32 + part) % 256, v33, _, st_85 (small 5 (by decide)) (k := 32) (code 6 _ rfl) (by decide) M.len (code 5 _ rfl), ha, .refl hp, M.set32 _, ⟨rfl, rfl, c⟩, stk_ne (by decide)⟩
  | 4, _ =>
    obtain ⟨rfl, rfl, c⟩ := S
    obtain ⟨p2, e, k, c2⟩ := nz_keep hp hhi
    exact ⟨v33, p2, _, v33, mem, e ▸ st_a5 (small 7 (by decide)) (k := 33) (code 8 _ rfl) (by decide) M.c33 M.len (code 7 _ rfl), hhi, k, M, ⟨rfl, rfl, c2.trans c, rfl⟩, fun _ _ _ => rfl⟩
  | 5, _ =>
    obtain ⟨rfl, rfl, c, rfl⟩ := S
    obtain ⟨p2, e1, e2, k, c2⟩ := adc_keep (z := 0) ha (by decide) hp c hq
    exact ⟨(a + (lo + part) / 256) % 256, p2, _, a, mem, e1 ▸ e2 ▸ st_69 (small 9 (by decide)) (z := ((0 : Nat) : Int)) (code 10 _ rfl) hD (code 9 _ rfl), Nat.mod_lt _ (by decide), k, M, ⟨rfl, rfl, rfl⟩, fun _ _ _ => rfl⟩
  | 6, _ =>
    obtain ⟨rfl, rfl, rfl⟩ := S
    exact ⟨_, p, _, (v33 + (lo + part) / 256) % 256, _, st_85 (small 11 (by decide)) (k := 33) (code 12 _ rfl) (by decide) M.len (code 11 _ rfl), ha, .refl hp, M.set33 _, ⟨rfl, rfl⟩, stk_ne (by decide)⟩
end
end VE
namespace VE
open M6
open Builtin
/-- Several steps of the machine. -/
inductive Run : Nat → Rg → Rg → Prop where
  | nil {r : Rg} : Run 0 r r
  | cons {n : Nat} {r r₁ r₂ : Rg} : Stp T7L r r₁ → Run n r₁ r₂ → Run (n + 1) r r₂
theorem Run.snoc : ∀ {n : Nat} {r r₁ r₂ : Rg}, Run n r r₁ → Stp T7L r₁ r₂ → Run (n + 1) r r₂
  | _, _, _, _, .nil, s => .cons s .nil
  | _, _, _, _, .cons a b, s => .cons a (b.snoc s)
noncomputable def hcode7 (own : Nat) : List Int := 72 :: (sumcode own ++ [230, 34, 104, 64])
/-- The memory as it is at first. -/
structure Plain7 (own : Nat) (codes pl : List Int) : Prop where
  len : pl.length = 65536
  hc : ∀ (i : Nat) (z : Int), (hcode7 own)[i]? = some z → pl[49152 + i]? = some z
  v0 : pl[65534]? = some ((0 : Nat) : Int)
  v1 : pl[65535]? = some ((192 : Nat) : Int)
  code : ∀ (i : Nat) (z : Int), codes[i]? = some z → pl[512 + i]? = some z
theorem inc7 (v : Nat) : bitAnd ((v : Int) + 1) 255 = (((v + 1) % 256 : Nat) : Int) := by rw [bitAnd_m8]; omega
section
variable {n s own a p lo hi v34 v35 : Nat} {x y : Int} {pl mem codes : List Int}
/-- The seven steps of a sum. -/
theorem sum_run {n0 sp part : Nat} (hn : n0 < 65500) (hn' : 512 ≤ n0) (C : ∀ (j : Nat) (z : Int), (sumcode part)[j]? = some z → pl[n0 + j]? = some z) (hpart : part < 256) (hlo : lo < 256) (hhi : hi < 256) (ha : a < 256) (hp : p < 256) (hD : bitAnd (p : Int) 8 = 0)
    (M : Mem7 lo hi v34 v35 pl mem) : ∀ k, k ≤ 7 → ∃ a2 p2 w32 w33 : Nat, ∃ mem2, Run k ⟨n0 + soff 0, sp, (a : Int), x, y, (p : Int), mem⟩ ⟨n0 + soff k, sp, (a2 : Int), x, y, (p2 : Int), mem2⟩ ∧ a2 < 256 ∧ KeepP p p2 ∧ Mem7 w32 w33 v34 v35 pl mem2 ∧ SumSt part lo hi k a2 (bitAnd (p2 : Int) 1) w32 w33 ∧ ∀ j, 256 ≤ j → j < 512 → mem2[j]? = mem[j]?
  | 0, _ => ⟨a, p, lo, hi, mem, .nil, ha, .refl hp, M, ⟨rfl, rfl⟩, fun _ _ _ => rfl⟩
  | k + 1, h => by
    obtain ⟨a2, p2, w32, w33, mem2, r, ha2, k2, M2, S2, f2⟩ := sum_run hn hn' C hpart hlo hhi ha hp hD M k (Nat.le_of_succ_le h)
    obtain ⟨a3, p3, u32, u33, mem3, st, ha3, k3, M3, S3, f3⟩ := sum_step (x := x) (y := y) (sp := sp) h hn hn' C hpart hlo hhi ha2 k2.lt (k2.d.trans hD) M2 S2
    exact ⟨a3, p3, u32, u33, mem3, r.snoc st, ha3, k2.trans k3, M3, S3, fun j j1 j2 => (f3 j j1 j2).trans (f2 j j1 j2)⟩
/-- A call of irq that is taken, and the handler to its end: all is as before but the cell and the count. -/
theorem handler (P : Plain7 own codes pl) (hown : own < 256) (hlo : lo < 256) (hhi : hi < 256) (h34 : v34 < 256) (hn : n < 65536) (hs : s + 4 < 256) (ha : a < 256) (hp : PK p 0) (M : Mem7 lo hi v34 v35 pl mem) :
    ∃ g1 mem2, Irq T7L ⟨n, s + 4, (a : Int), x, y, (p : Int), mem⟩ g1 ∧ g1.sp = s + 1 ∧ Run 11 g1 ⟨n, s + 4, (a : Int), x, y, (p : Int), mem2⟩ ∧ Mem7 ((lo + own) % 256) ((hi + (lo + own) / 256) % 256) ((v34 + 1) % 256) v35 pl mem2 ∧ ∀ k, s + 4 + 256 < k → k < 512 → mem2[k]? = mem[k]? := by
  obtain ⟨hp0, hp1, hp2, hp3, hp4⟩ := hp
  obtain ⟨hb, hq0, hq1⟩ := irq_k p hp0 hp1 hp2
  obtain ⟨⟨hh0, hh1⟩, hh2⟩ := irq_h p hp0
  obtain ⟨q, eq⟩ := Int.eq_ofNat_of_zero_le hq0
  obtain ⟨p1, e1⟩ := Int.eq_ofNat_of_zero_le hh0
  rw [eq] at hb hq1
  have hq : q < 256 := Int.ofNat_lt.mp hq1
  have hp1' : p1 < 256 := by rw [e1] at hh1; exact Int.ofNat_lt.mp hh1
  have hd1 : bitAnd (p1 : Int) 8 = 0 := by rw [e1] at hh2; exact hh2.trans hp3
  have st := irq_open (n := n) (sp := s + 1) (q := q) (z := 0) (z1 := 192) (a := a) (x := x) (y := y) (p := p) (mem := mem) hp4 hn hs M.len eq hq ((M.hi (by decide)).trans P.v0) ((M.hi (by decide)).trans P.v1) (by decide)
  rw [e1] at st
  have M1 : Mem7 lo hi v34 v35 pl (((mem.set (s + 1 + 3 + 256) ((n / 256 : Nat) : Int)).set (s + 1 + 2 + 256) ((n % 256 : Nat) : Int)).set (s + 1 + 1 + 256) (q : Int)) :=
    ((M.stk (Nat.le_add_left _ _) (by omega)).stk (Nat.le_add_left _ _) (by omega)).stk (Nat.le_add_left _ _) (by omega)
  have g3 : (((mem.set (s + 1 + 3 + 256) ((n / 256 : Nat) : Int)).set (s + 1 + 2 + 256) ((n % 256 : Nat) : Int)).set (s + 1 + 1 + 256) (q : Int))[s + 1 + 3 + 256]? = some ((n / 256 : Nat) : Int) := by
    rw [List.getElem?_set_ne (by omega), List.getElem?_set_ne (by omega), List.getElem?_set_self (by rw [M.len]; omega)]
  have g2 : (((mem.set (s + 1 + 3 + 256) ((n / 256 : Nat) : Int)).set (s + 1 + 2 + 256) ((n % 256 : Nat) : Int)).set (s + 1 + 1 + 256) (q : Int))[s + 1 + 2 + 256]? = some ((n % 256 : Nat) : Int) := by
    rw [List.getElem?_set_ne (by omega), List.getElem?_set_self (by rw [List.length_set, M.len]; omega)]
  have g1 : (((mem.set (s + 1 + 3 + 256) ((n / 256 : Nat) : Int)).set (s + 1 + 2 + 256) ((n % 256 : Nat) : Int)).set (s + 1 + 1 + 256) (q : Int))[s + 1 + 1 + 256]? = some (q : Int) := by
    rw [List.getElem?_set_self (by rw [List.length_set, List.length_set, M.len]; omega)]
  have g0 : ∀ k, s + 4 + 256 < k → k < 512 → (((mem.set (s + 1 + 3 + 256) ((n / 256 : Nat) : Int)).set (s + 1 + 2 + 256) ((n % 256 : Nat) : Int)).set (s + 1 + 1 + 256) (q : Int))[k]? = mem[k]? := fun k k1 k2 => by
    rw [List.getElem?_set_ne (by omega), List.getElem?_set_ne (by omega), List.getElem?_set_ne (by omega)]
  generalize (((mem.set (s + 1 + 3 + 256) ((n / 256 : Nat) : Int)).set (s + 1 + 2 + 256) ((n % 256 : Nat) : Int)).set (s + 1 + 1 + 256) (q : Int)) = m1 at st M1 g1 g2 g3 g0
  have hc : ∀ {v32 v33 w34 v35 : Nat} {mm : List Int}, Mem7 v32 v33 w34 v35 pl mm → ∀ (i : Nat) (z : Int), (hcode7 own)[i]? = some z → mm[49152 + i]? = some z := fun MM i z h => (MM.hi (Nat.le_trans (by decide) (Nat.le_add_right _ _))).trans (P.hc i z h)
  -- PHA
  have s1 := st_48 (n := 49152) (sp := s) (a := a) (x := x) (y := y) (p := p1) (mem := m1) (by decide) (by omega) (Int.natCast_nonneg a) (Int.ofNat_lt.mpr ha) M1.len (hc M1 0 _ rfl)
  have M2 := M1.stk (k := s + 1 + 256) (z := (a : Int)) (Nat.le_add_left _ _) (by omega)
  have f2 : ∀ k, k ≠ s + 1 + 256 → (m1.set (s + 1 + 256) (a : Int))[k]? = m1[k]? := fun k hk => List.getElem?_set_ne (Ne.symm hk)
  have ga : (m1.set (s + 1 + 256) (a : Int))[s + 1 + 256]? = some (a : Int) := List.getElem?_set_self (by rw [M1.len]; omega)
  generalize m1.set (s + 1 + 256) (a : Int) = m2 at s1 M2 f2 ga
  -- the sum
  obtain ⟨a3, p3, w32, w33, m3, r3, ha3, k3, M3, S3, f3⟩ := sum_run (n0 := 49153) (sp := s) (part := own) (x := x) (y := y) (by decide) (by decide) (fun j z h => by
    have := P.hc (j + 1) z (by
      show (sumcode own ++ [230, 34, 104, 64])[j]? = some z
      have hj : j < (sumcode own).length := (List.getElem?_eq_some_iff.mp h).1
      rw [List.getElem?_append_left hj]; exact h)
    rw [show 49153 + j = 49152 + (j + 1) by omega]; exact this) hown hlo hhi ha hp1' hd1 M2 7 (Nat.le_refl _)
  obtain ⟨rfl, rfl⟩ := S3
  -- INC 34
  have s4 := st_e6 (n := 49166) (sp := s) (a := a3) (x := x) (y := y) (p := p3) (mem := m3) (by decide) (k := 34) (z := (v34 : Int)) (hc M3 15 _ rfl) (by decide) M3.c34 M3.len (hc M3 14 _ rfl)
  rw [inc7] at s4
  obtain ⟨p4, e4, k4, _⟩ := nz_keep (p := p3) (w := (v34 + 1) % 256) k3.lt (Nat.mod_lt _ (by decide))
  rw [e4] at s4
  have M4 := M3.set34 ((v34 + 1) % 256)
  have f4 : ∀ k, 256 ≤ k → k < 512 → (m3.set 34 (((v34 + 1) % 256 : Nat) : Int))[k]? = m2[k]? := fun k k1 k2 => (stk_ne (by decide) k k1 k2).trans (f3 k k1 k2)
  generalize m3.set 34 (((v34 + 1) % 256 : Nat) : Int) = m4 at s4 M4 f4
  -- PLA
  have s5 := st_68 (n := 49168) (sp := s) (a := a3) (x := x) (y := y) (p := p4) (mem := m4) (by decide) (z := (a : Int)) (by omega) ((f4 _ (Nat.le_add_left _ _) (by omega)).trans ga) (hc M4 16 _ rfl)
  obtain ⟨p5, e5, k5, _⟩ := nz_keep (p := p4) (w := a) k4.lt ha
  rw [e5] at s5
  -- RTI
  have f5 : ∀ k, s + 1 + 256 < k → k < 512 → m4[k]? = m1[k]? := fun k k1 k2 => (f4 k (by omega) k2).trans (f2 k (by omega))
  have s6 := st_40 (n := 49169) (sp := s + 1) (a := a) (x := x) (y := y) (p := p5) (mem := m4) (by decide) (q := q) (l := n % 256) (m := n / 256) (by omega) ((f5 _ (by omega) (by omega)).trans g1) ((f5 _ (by omega) (by omega)).trans g2) ((f5 _ (by omega) (by omega)).trans g3) (by omega) (hc M4 17 _ rfl)
  rw [hb, show n % 256 + n / 256 * 256 = n by omega] at s6
  exact ⟨_, m4, st, rfl, .cons s1 (((r3.snoc s4).snoc s5).snoc s6), M4, fun k k1 k2 => (f5 k (by omega) k2).trans (g0 k k1 k2)⟩
end
end VE
namespace VE
open M6
open Builtin
/-- The steps that the law's program is made of. -/
inductive Mic where
  | sei | cli | php | plp
  | sum (s part : Nat)
  | live (s part : Nat)
noncomputable def sumOct (part : Nat) : Nat → List Int
  | 0 => [24]
  | 1 => [165, 32]
  | 2 => [105, (part : Int)]
  | 3 => [133, 32]
  | 4 => [165, 33]
  | 5 => [105, 0]
  | _ => [133, 33]
noncomputable def liveOct (part : Nat) : Nat → List Int
  | 0 => [169, (part : Int)]
  | 1 => [56]
  | 2 => [42]
  | _ => [133, 35]
noncomputable def Mic.oct : Mic → List Int
  | .sei => [120]
  | .cli => [88]
  | .php => [8]
  | .plp => [40]
  | .sum s part => sumOct part s
  | .live s part => liveOct part s
/-- The plain walk: is the mask up, what was saved. -/
noncomputable def Mic.shut : Mic → Nat × List Nat → Nat × List Nat
  | .sei, (_, l) => (1, l)
  | .cli, (_, l) => (0, l)
  | .php, (s, l) => (s, s :: l)
  | .plp, (_, t :: l) => (t, l)
  | .plp, (s, []) => (s, [])
  | _, r => r
noncomputable def Mic.start : Mic → Prop
  | .sum s _ => s = 0
  | .live s _ => s = 0
  | _ => True
/-- What may follow a step. -/
noncomputable def Mic.next : Mic → Option Mic → Prop
  | .sum s part, m => if s < 6 then m = some (.sum (s + 1) part) else ∀ k, m = some k → k.start
  | .live s part, m => if s < 3 then m = some (.live (s + 1) part) else ∀ k, m = some k → k.start
  | _, m => ∀ k, m = some k → k.start
/-- What must hold ahead of a step. -/
noncomputable def Mic.ok : Mic → Nat × List Nat → Prop
  | .sum s part, r => s ≤ 6 ∧ part < 256 ∧ r.1 = 1
  | .live s part, r => s ≤ 3 ∧ part < 256
  | .php, r => r.2 = []
  | .plp, r => r.2 ≠ []
  | _, _ => True
noncomputable def Mic.gain : Mic → Nat
  | .sum 6 part => part
  | _ => 0
noncomputable def Mic.v35 : Mic → Nat → Nat
  | .live 3 part, _ => (2 * part + 1) % 256
  | _, v => v
noncomputable def LiveSt (part : Nat) : Nat → (a : Nat) → (cy : Int) → Prop
  | 0, _, _ => True
  | 1, a, _ => a = part
  | 2, a, cy => a = part ∧ cy ≠ 0
  | _, a, _ => a = (2 * part + 1) % 256
noncomputable def AtMic (V : Nat) : Option Mic → (a : Nat) → (cy : Int) → (v32 v33 : Nat) → Prop
  | some (.sum s part), a, cy, v32, v33 => SumSt part (V % 256) (V / 256) s a cy v32 v33
  | some (.live s part), a, cy, v32, v33 => v32 = V % 256 ∧ v33 = V / 256 ∧ LiveSt part s a cy
  | _, _, _, v32, v33 => v32 = V % 256 ∧ v33 = V / 256
theorem AtMic.of_start {V a v32 v33 : Nat} {cy : Int} {m : Option Mic} (h : ∀ k, m = some k → k.start) (h1 : v32 = V % 256) (h2 : v33 = V / 256) : AtMic V m a cy v32 v33 := by
  cases m with
  | none => exact ⟨h1, h2⟩
  | some k =>
    have := h k rfl
    cases k with
    | sum s part => have e : s = 0 := this; subst e; exact ⟨h1, h2⟩
    | live s part => have e : s = 0 := this; subst e; exact ⟨h1, h2, trivial⟩
    | _ => exact ⟨h1, h2⟩
/-- Where the machine stands ahead of a step m of the main program. -/
structure MInv (pl : List Int) (n V v34 v35 : Nat) (sh : Nat × List Nat) (m : Option Mic) (g : Rg) : Prop where
  V1 : V < 65536
  i1 : sh.1 ≤ 1
  s1 : sh.2.length ≤ 1
  pc : g.pc = n
  sp : g.sp + sh.2.length = 255
  regs : ∃ a p v32 v33 : Nat, g.a = (a : Int) ∧ g.p = (p : Int) ∧ a < 256 ∧ PK p sh.1 ∧ Mem7 v32 v33 v34 v35 pl g.mem ∧ AtMic V m a (bitAnd (p : Int) 1) v32 v33
  stk : ∀ t, sh.2 = [t] → t ≤ 1 ∧ ∃ q : Nat, g.mem[511]? = some (q : Int) ∧ PK q t
theorem V_hi {V : Nat} (hV : V < 65536) : V / 256 < 256 := by omega
theorem addV {V part : Nat} (hV : V < 65536) (hp : part < 256) : (V % 256 + part) % 256 = ((V + part) % 65536) % 256 ∧ (V / 256 + (V % 256 + part) / 256) % 256 = ((V + part) % 65536) / 256 := by omega
section
variable {n sp a p part lo hi v32 v33 v34 v35 : Nat} {x y : Int} {pl mem : List Int}
/-- One step of a sum, by its own place. -/
noncomputable def OctNext (n2 sp v34 v35 : Nat) (S : Nat → Int → Nat → Nat → Prop) (x y : Int) (pl : List Int) (p : Nat) (r : Rg) (mem : List Int) : Prop :=
  ∃ a2 p2 w32 w33 : Nat, ∃ mem2, Stp T7L r ⟨n2, sp, (a2 : Int), x, y, (p2 : Int), mem2⟩ ∧ a2 < 256 ∧ KeepP p p2 ∧ Mem7 w32 w33 v34 v35 pl mem2 ∧ S a2 (bitAnd (p2 : Int) 1) w32 w33 ∧ ∀ k, 256 ≤ k → k < 512 → mem2[k]? = mem[k]?
theorem mic_sum {s : Nat} (hs : s < 7) (hn : n < 65530) (code : ∀ (j : Nat) (z : Int), (sumOct part s)[j]? = some z → mem[n + j]? = some z) (hpart : part < 256) (hlo : lo < 256) (hhi : hi < 256) (ha : a < 256) (hp : p < 256) (hD : bitAnd (p : Int) 8 = 0)
    (M : Mem7 v32 v33 v34 v35 pl mem) (S : SumSt part lo hi s a (bitAnd (p : Int) 1) v32 v33) : OctNext (n + (sumOct part s).length) sp v34 v35 (SumSt part lo hi (s + 1)) x y pl p ⟨n, sp, (a : Int), x, y, (p : Int), mem⟩ mem := by
  have hq : (lo + part) / 256 ≤ 1 := by omega
  match s, hs with
  | 0, _ =>
    obtain ⟨p2, e, k, c⟩ := clc_keep hp
    exact ⟨a, p2, v32, v33, mem, e ▸ st_18 hn (code 0 _ rfl), ha, k, M, ⟨S.1, S.2, c⟩, fun _ _ _ => rfl⟩
  | 1, _ =>
    obtain ⟨rfl, rfl, c⟩ := S
    obtain ⟨p2, e, k, c2⟩ := nz_keep hp hlo
    exact ⟨v32, p2, v32, v33, mem, e ▸ st_a5 hn (k := 32) (code 1 _ rfl) (by decide) M.c32 M.len (code 0 _ rfl), hlo, k, M, ⟨rfl, rfl, c2.trans c, rfl⟩, fun _ _ _ => rfl⟩
  | 2, _ =>
    obtain ⟨rfl, rfl, c, rfl⟩ := S
    obtain ⟨p2, e1, e2, k, c2⟩ := adc_keep (cy := 0) ha hpart hp c (by decide)
    exact ⟨(a + part) % 256, p2, a, v33, mem, e1 ▸ e2 ▸ st_69 hn (z := (part : Int)) (code 1 _ rfl) hD (code 0 _ rfl), Nat.mod_lt _ (by decide), k, M, ⟨rfl, rfl, c2, rfl⟩, fun _ _ _ => rfl⟩
  | 3, _ =>
    obtain ⟨rfl, rfl, c, rfl⟩ := S
    exact ⟨_, p, (v32 + part) % 256, v33, _, st_85 hn (k := 32) (code 1 _ rfl) (by decide) M.len (code 0 _ rfl), ha, .refl hp, M.set32 _, ⟨rfl, rfl, c⟩, stk_ne (by decide)⟩
  | 4, _ =>
    obtain ⟨rfl, rfl, c⟩ := S
    obtain ⟨p2, e, k, c2⟩ := nz_keep hp hhi
    exact ⟨v33, p2, _, v33, mem, e ▸ st_a5 hn (k := 33) (code 1 _ rfl) (by decide) M.c33 M.len (code 0 _ rfl), hhi, k, M, ⟨rfl, rfl, c2.trans c, rfl⟩, fun _ _ _ => rfl⟩
  | 5, _ =>
    obtain ⟨rfl, rfl, c, rfl⟩ := S
    obtain ⟨p2, e1, e2, k, c2⟩ := adc_keep (z := 0) ha (by decide) hp c hq
    exact ⟨(a + (lo + part) / 256) % 256, p2, _, a, mem, e1 ▸ e2 ▸ st_69 hn (z := ((0 : Nat) : Int)) (code 1 _ rfl) hD (code 0 _ rfl), Nat.mod_lt _ (by decide), k, M, ⟨rfl, rfl, rfl⟩, fun _ _ _ => rfl⟩
  | 6, _ =>
    obtain ⟨rfl, rfl, rfl⟩ := S
    exact ⟨_, p, _, (v33 + (lo + part) / 256) % 256, _, st_85 hn (k := 33) (code 1 _ rfl) (by decide) M.len (code 0 _ rfl), ha, .refl hp, M.set33 _, ⟨rfl, rfl⟩, stk_ne (by decide)⟩
theorem sec_keep {p : Nat} (hp : p < 256) : ∃ p' : Nat, bitOr (p : Int) 1 = (p' : Int) ∧ KeepP p p' ∧ bitAnd (p' : Int) 1 ≠ 0 := by
  obtain ⟨p', e, k⟩ := KeepP.of keeps_sec hp
  exact ⟨p', e, k, by rw [← e]; exact sec_c p hp⟩
theorem rol_keep {a p : Nat} (ha : a < 256) (hp : p < 256) : ∃ p' : Nat, rolP a p = (p' : Int) ∧ KeepP p p' := KeepP.of (keeps_rol ha) hp
/-- One step of a stretch with A and the carry alive. -/
theorem mic_live {s : Nat} (hs : s < 4) (hn : n < 65530) (code : ∀ (j : Nat) (z : Int), (liveOct part s)[j]? = some z → mem[n + j]? = some z) (hpart : part < 256) (ha : a < 256) (hp : p < 256)
    (M : Mem7 v32 v33 v34 v35 pl mem) (S : LiveSt part s a (bitAnd (p : Int) 1)) : OctNext (n + (liveOct part s).length) sp v34 ((Mic.live s part).v35 v35) (fun a cy w32 w33 => w32 = v32 ∧ w33 = v33 ∧ LiveSt part (s + 1) a cy) x y pl p ⟨n, sp, (a : Int), x, y, (p : Int), mem⟩ mem := by
  match s, hs with
  | 0, _ =>
    obtain ⟨p2, e, k, _⟩ := nz_keep hp hpart
    exact ⟨part, p2, v32, v33, mem, e ▸ st_a9 hn (z := (part : Int)) (code 1 _ rfl) (code 0 _ rfl), hpart, k, M, ⟨rfl, rfl, rfl⟩, fun _ _ _ => rfl⟩
  | 1, _ =>
    obtain ⟨p2, e, k, c⟩ := sec_keep hp
    exact ⟨a, p2, v32, v33, mem, e ▸ st_38 hn (code 0 _ rfl), ha, k, M, ⟨rfl, rfl, S, c⟩, fun _ _ _ => rfl⟩
  | 2, _ =>
    obtain ⟨rfl, c⟩ := S
    obtain ⟨p2, e, k⟩ := rol_keep ha hp
    exact ⟨(2 * a + 1) % 256, p2, v32, v33, mem, rol_a a ha ▸ e ▸ st_2a hn c (Int.natCast_nonneg a) (Int.ofNat_lt.mpr (Nat.lt_trans ha (by decide))) (code 0 _ rfl), Nat.mod_lt _ (by decide), k, M, ⟨rfl, rfl, rfl⟩, fun _ _ _ => rfl⟩
  | 3, _ =>
    obtain rfl : a = (2 * part + 1) % 256 := S
    exact ⟨_, p, v32, v33, _, st_85 hn (k := 35) (code 1 _ rfl) (by decide) M.len (code 0 _ rfl), ha, .refl hp, M.set35 _, ⟨rfl, rfl, rfl⟩, stk_ne (by decide)⟩
end
theorem keep_stk {mem mem2 : List Int} {sh2 : List Nat} (hstk : ∀ t, sh2 = [t] → t ≤ 1 ∧ ∃ q : Nat, mem[511]? = some (q : Int) ∧ PK q t) (f : ∀ k, 256 ≤ k → k < 512 → mem2[k]? = mem[k]?) : ∀ t, sh2 = [t] → t ≤ 1 ∧ ∃ q : Nat, mem2[511]? = some (q : Int) ∧ PK q t := fun t ht => by
  obtain ⟨h2, q, h3, h4⟩ := hstk t ht
  exact ⟨h2, q, (f 511 (by decide) (by decide)).trans h3, h4⟩
theorem sum_next {V s part a w32 w33 : Nat} {cy : Int} {m' : Option Mic} (hV : V < 65536) (hs : s ≤ 6) (hp : part < 256) (nx : (Mic.sum s part).next m') (S : SumSt part (V % 256) (V / 256) (s + 1) a cy w32 w33) : AtMic ((V + (Mic.sum s part).gain) % 65536) m' a cy w32 w33 := by
  by_cases h : s = 6
  · subst h
    obtain ⟨e1, e2⟩ := S
    obtain ⟨f1, f2⟩ := addV hV hp
    exact .of_start nx (e1.trans f1) (e2.trans f2)
  · have h6 : s < 6 := Nat.lt_of_le_of_ne hs h
    have e : (Mic.sum s part).gain = 0 := by
      match s, h with
      | 0, _ => rfl
      | 1, _ => rfl
      | 2, _ => rfl
      | 3, _ => rfl
      | 4, _ => rfl
      | 5, _ => rfl
      | 6, h => exact absurd rfl h
      | n + 7, _ => rfl
    have e2 : m' = some (.sum (s + 1) part) := by
      have : (if s < 6 then m' = some (.sum (s + 1) part) else ∀ k, m' = some k → k.start) := nx
      rwa [if_pos h6] at this
    subst e2
    rw [e]
    show SumSt part ((V + 0) % 65536 % 256) ((V + 0) % 65536 / 256) (s + 1) a cy w32 w33
    rw [show (V + 0) % 65536 = V from Nat.mod_eq_of_lt hV]
    exact S
theorem live_next {V s part a w32 w33 : Nat} {cy : Int} {m' : Option Mic} (hs : s ≤ 3) (nx : (Mic.live s part).next m') (h1 : w32 = V % 256) (h2 : w33 = V / 256) (L : LiveSt part (s + 1) a cy) : AtMic V m' a cy w32 w33 := by
  by_cases h : s < 3
  · have e2 : m' = some (.live (s + 1) part) := by
      have : (if s < 3 then m' = some (.live (s + 1) part) else ∀ k, m' = some k → k.start) := nx
      rwa [if_pos h] at this
    subst e2
    exact ⟨h1, h2, L⟩
  · have : (if s < 3 then m' = some (.live (s + 1) part) else ∀ k, m' = some k → k.start) := nx
    rw [if_neg h] at this
    exact .of_start this h1 h2
section
variable {pl codes : List Int} {n V v34 v35 own : Nat} {sh : Nat × List Nat} {m : Mic} {m' : Option Mic} {g : Rg}
/-- One step of the main program. -/
theorem MInv.step (I : MInv pl n V v34 v35 sh (some m) g) (hn : n < 3000) (hn' : 512 ≤ n) (C : ∀ (j : Nat) (z : Int), m.oct[j]? = some z → pl[n + j]? = some z) (ok : m.ok sh) (nx : m.next m') :
    ∃ g2, Stp T7L g g2 ∧ MInv pl (n + m.oct.length) ((V + m.gain) % 65536) v34 (m.v35 v35) (m.shut sh) m' g2 := by
  obtain ⟨pc, sp, ga, x, y, gp, mem⟩ := g
  obtain ⟨sh1, sh2⟩ := sh
  obtain ⟨a, p, v32, v33, ea, ep, ha, hp, M, at_⟩ := I.regs
  obtain ⟨hV, hi1, hs1, hpc, hsp, _, hstk⟩ := I
  dsimp only at ea ep hpc hsp hi1 hs1 hp M hstk
  subst ea ep hpc
  have code : ∀ (j : Nat) (z : Int), m.oct[j]? = some z → mem[pc + j]? = some z := fun j z h => (M.hi (Nat.le_trans hn' (Nat.le_add_right _ _))).trans (C j z h)
  have hpc : pc < 65530 := Nat.lt_trans hn (by decide)
  have V0 : (V + 0) % 65536 = V := Nat.mod_eq_of_lt hV
  cases m with
  | sei =>
    obtain ⟨k0, k1, k2, k3, k4, k5⟩ := sei_k p hp.1
    obtain ⟨p2, e⟩ := Int.eq_ofNat_of_zero_le k0
    rw [e] at k1 k2 k3 k4 k5
    obtain ⟨at1, at2⟩ := at_
    exact ⟨_, e ▸ st_78 hpc (code 0 _ rfl), by show MInv _ _ ((V + 0) % 65536) _ _ _ _ _; rw [V0]; exact ⟨hV, Nat.le_refl _, hs1, rfl, hsp, ⟨a, p2, v32, v33, rfl, rfl, ha, ⟨Int.ofNat_lt.mp k1, k2.trans hp.2.1, k3.trans hp.2.2.1, k4.trans hp.2.2.2.1, k5⟩, M, .of_start nx at1 at2⟩, hstk⟩⟩
  | cli =>
    obtain ⟨k0, k1, k2, k3, k4, k5⟩ := cli_k p hp.1
    obtain ⟨p2, e⟩ := Int.eq_ofNat_of_zero_le k0
    rw [e] at k1 k2 k3 k4 k5
    obtain ⟨at1, at2⟩ := at_
    exact ⟨_, e ▸ st_58 hpc (code 0 _ rfl), by show MInv _ _ ((V + 0) % 65536) _ _ _ _ _; rw [V0]; exact ⟨hV, Nat.zero_le _, hs1, rfl, hsp, ⟨a, p2, v32, v33, rfl, rfl, ha, ⟨Int.ofNat_lt.mp k1, k2.trans hp.2.1, k3.trans hp.2.2.1, k4.trans hp.2.2.2.1, k5⟩, M, .of_start nx at1 at2⟩, hstk⟩⟩
  | php =>
    have e0 : sh2 = [] := ok
    subst e0
    obtain rfl : sp = 254 + 1 := hsp
    obtain ⟨at1, at2⟩ := at_
    have st := st_08 (n := pc) (sp := 254) (a := (a : Int)) (x := x) (y := y) (p := (p : Int)) (mem := mem) hpc (by decide) (q := p) (php_k p hp.1 hp.2.1 hp.2.2.1) hp.1 M.len (code 0 _ rfl)
    refine ⟨_, st, ?_⟩
    show MInv _ _ ((V + 0) % 65536) _ _ _ _ _
    rw [V0]
    exact ⟨hV, hi1, Nat.le_refl _, rfl, rfl, ⟨a, p, v32, v33, rfl, rfl, ha, hp, M.stk (by decide) (by decide), .of_start nx at1 at2⟩, fun t ht => by cases ht; exact ⟨hi1, p, List.getElem?_set_self (by rw [M.len]; decide), hp⟩⟩
  | plp =>
    match sh2, ok, hs1, hsp, hstk with
    | [t], _, _, hsp, hstk =>
      obtain ⟨ht, q, hq, kq⟩ := hstk t rfl
      obtain rfl : sp = 254 := Nat.succ.inj hsp
      obtain ⟨at1, at2⟩ := at_
      have st := st_28 (n := pc) (sp := 254) (a := (a : Int)) (x := x) (y := y) (p := (p : Int)) (mem := mem) hpc (by decide) (q := (q : Int)) hq (code 0 _ rfl)
      rw [php_k q kq.1 kq.2.1 kq.2.2.1] at st
      refine ⟨_, st, ?_⟩
      show MInv _ _ ((V + 0) % 65536) _ _ _ _ _
      rw [V0]
      exact ⟨hV, ht, Nat.zero_le _, rfl, rfl, ⟨a, q, v32, v33, rfl, rfl, ha, kq, M, .of_start nx at1 at2⟩, fun t ht => nomatch ht⟩
    | [], ok, _, _, _ => exact absurd rfl ok
    | _ :: _ :: _, _, hs1, _, _ => exact absurd hs1 (by simp)
  | sum s part =>
    obtain ⟨hs6, hpart, h1⟩ := ok
    have hlo : V % 256 < 256 := Nat.mod_lt _ (by decide)
    have hhi : V / 256 < 256 := V_hi hV
    obtain ⟨a2, p2, w32, w33, mem2, st, ha2, kp, M2, S2, hm⟩ := mic_sum (sp := sp) (x := x) (y := y) (Nat.lt_succ_of_le hs6) hpc code hpart hlo hhi ha hp.1 hp.2.2.2.1 M at_
    exact ⟨_, st, Nat.mod_lt _ (by decide), hi1, hs1, rfl, hsp, ⟨a2, p2, w32, w33, rfl, rfl, ha2, hp.keep kp, M2, sum_next hV hs6 hpart nx S2⟩, keep_stk hstk hm⟩
  | live s part =>
    obtain ⟨hs3, hpart⟩ := ok
    obtain ⟨at1, at2, L⟩ := at_
    obtain ⟨a2, p2, w32, w33, mem2, st, ha2, kp, M2, ⟨e1, e2, L2⟩, hm⟩ := mic_live (sp := sp) (x := x) (y := y) (Nat.lt_succ_of_le hs3) hpc code hpart ha hp.1 M L
    refine ⟨_, st, ?_⟩
    show MInv _ _ ((V + 0) % 65536) _ _ _ _ _
    rw [V0]
    exact ⟨hV, hi1, hs1, rfl, hsp, ⟨a2, p2, w32, w33, rfl, rfl, ha2, hp.keep kp, M2, live_next hs3 nx (e1.trans at1) (e2.trans at2) L2⟩, keep_stk hstk hm⟩
end
end VE
namespace VE
open M6
open Builtin
section
variable {pl codes : List Int} {n V v34 v35 own : Nat} {sh : Nat × List Nat} {m : Mic} {g : Rg}
theorem Mic.open_ {V v32 v33 a : Nat} {cy : Int} {s : Nat} {l : List Nat} (h0 : s = 0) (ok : m.ok (s, l)) (h : AtMic V (some m) a cy v32 v33) : (v32 = V % 256 ∧ v33 = V / 256) ∧ ∀ V' w32 w33, w32 = V' % 256 → w33 = V' / 256 → AtMic V' (some m) a cy w32 w33 := by
  cases m with
  | sum s part => exact absurd (h0.symm.trans ok.2.2) (by decide)
  | live s part => exact ⟨⟨h.1, h.2.1⟩, fun _ _ _ h1 h2 => ⟨h1, h2, h.2.2⟩⟩
  | _ => exact ⟨h, fun _ _ _ h1 h2 => ⟨h1, h2⟩⟩
theorem sp_s {sp l : Nat} (h : l ≤ 1) (h' : sp + l = 255) : ∃ s, sp = s + 4 ∧ s + 4 < 256 := ⟨sp - 4, by omega, by omega⟩
theorem sp_ne {s : Nat} : s + 1 ≠ s + 4 := by omega
theorem sp_lt {s : Nat} (h : s + 4 + 1 = 255) : s + 4 + 256 < 511 := by omega
/-- A call of irq while the mask is up: nothing. -/
theorem MInv.shut {m' : Option Mic} (I : MInv pl n V v34 v35 sh m' g) (h : sh.1 = 1) : Irq T7L g g := by
  obtain ⟨a, p, v32, v33, ea, ep, ha, hp, M, at_⟩ := I.regs
  refine irq_shut ?_
  rw [ep, hp.2.2.2.2, h]
  decide
/-- A call of irq at an open step: the handler runs and all stands where it stood. -/
theorem MInv.irq (P : Plain7 own codes pl) (hown : own < 256) (h34 : v34 < 256) (I : MInv pl n V v34 v35 sh (some m) g) (hn : n < 65536) (h : sh.1 = 0) (ok : m.ok sh) :
    ∃ g1 g2, Irq T7L g g1 ∧ g1.sp ≠ g.sp ∧ Run 11 g1 g2 ∧ MInv pl n ((V + own) % 65536) ((v34 + 1) % 256) v35 sh (some m) g2 ∧ g2.pc = g.pc ∧ g2.sp = g.sp := by
  obtain ⟨pc, sp, ga, x, y, gp, mem⟩ := g
  obtain ⟨sh1, sh2⟩ := sh
  obtain ⟨a, p, v32, v33, ea, ep, ha, hp, M, at_⟩ := I.regs
  obtain ⟨hV, hi1, hs1, hpc, hsp, _, hstk⟩ := I
  dsimp only at ea ep hpc hsp hi1 hs1 hp M hstk h
  subst ea ep hpc h
  obtain ⟨⟨e1, e2⟩, mk⟩ := Mic.open_ rfl ok at_
  have hlo : V % 256 < 256 := Nat.mod_lt _ (by decide)
  have hhi := V_hi hV
  obtain ⟨f1, f2⟩ := addV hV hown
  subst e1 e2
  obtain ⟨s, rfl, hs⟩ := sp_s hs1 hsp
  obtain ⟨g1, mem2, st, e, r, M2, f⟩ := handler (s := s) (a := a) (p := p) (x := x) (y := y) P hown hlo hhi h34 hn hs ha hp M
  rw [f1, f2] at M2
  refine ⟨g1, _, st, by rw [e]; exact sp_ne, r, ⟨Nat.mod_lt _ (by decide), Nat.zero_le _, hs1, rfl, hsp, ⟨a, p, _, _, rfl, rfl, ha, hp, M2, mk _ _ _ rfl rfl⟩, fun t ht => ?_⟩, rfl, rfl⟩
  obtain ⟨h2, q, h3, h4⟩ := hstk t ht
  refine ⟨h2, q, (f 511 ?_ (by decide)).trans h3, h4⟩
  subst ht
  exact sp_lt hsp
end
end VE
namespace VE
open M6
open Builtin
/-! The plain law of the program as a whole. -/
noncomputable def sumsM (part : Nat) : List Mic := [.sum 0 part, .sum 1 part, .sum 2 part, .sum 3 part, .sum 4 part, .sum 5 part, .sum 6 part]
noncomputable def blk (kind part : Nat) : List Mic :=
  if kind = 0 then .sei :: (sumsM part ++ [.cli])
  else if kind = 1 then .php :: .sei :: (sumsM part ++ [.plp])
  else if kind = 2 then .sei :: .php :: .sei :: (sumsM part ++ .plp :: (sumsM part ++ [.cli]))
  else [.live 0 part, .live 1 part, .live 2 part, .live 3 part]
noncomputable def blkSum (kind part : Nat) : Nat := if kind = 0 then part else if kind = 1 then part else if kind = 2 then 2 * part else 0
noncomputable def WF : List Mic → Nat × List Nat → Prop
  | [], _ => True
  | m :: r, sh => m.ok sh ∧ m.next r.head? ∧ WF r (m.shut sh)
noncomputable def shOf : List Mic → Nat × List Nat → Nat × List Nat
  | [], sh => sh
  | m :: r, sh => shOf r (m.shut sh)
noncomputable def offOf : List Mic → Nat
  | [] => 0
  | m :: r => m.oct.length + offOf r
noncomputable def gainOf : List Mic → Nat
  | [] => 0
  | m :: r => m.gain + gainOf r
noncomputable def v35Of : List Mic → Nat → Nat
  | [], v => v
  | m :: r, v => v35Of r (m.v35 v)
noncomputable def octsOf : List Mic → List Int
  | [] => []
  | m :: r => m.oct ++ octsOf r
noncomputable def startO (m : Option Mic) : Prop := ∀ k, m = some k → k.start
theorem shOf_app : ∀ (l r : List Mic) sh, shOf (l ++ r) sh = shOf r (shOf l sh)
  | [], _, _ => rfl
  | m :: l, r, sh => shOf_app l r (m.shut sh)
theorem offOf_app : ∀ (l r : List Mic), offOf (l ++ r) = offOf l + offOf r
  | [], r => (Nat.zero_add _).symm
  | m :: l, r => by show _ + offOf (l ++ r) = _ + _ + _; rw [offOf_app l r, Nat.add_assoc]
theorem gainOf_app : ∀ (l r : List Mic), gainOf (l ++ r) = gainOf l + gainOf r
  | [], r => (Nat.zero_add _).symm
  | m :: l, r => by show _ + gainOf (l ++ r) = _ + _ + _; rw [gainOf_app l r, Nat.add_assoc]
theorem v35Of_app : ∀ (l r : List Mic) v, v35Of (l ++ r) v = v35Of r (v35Of l v)
  | [], _, _ => rfl
  | m :: l, r, v => v35Of_app l r (m.v35 v)
theorem octsOf_app : ∀ (l r : List Mic), octsOf (l ++ r) = octsOf l ++ octsOf r
  | [], r => rfl
  | m :: l, r => by show _ ++ octsOf (l ++ r) = _ ++ _ ++ _; rw [octsOf_app l r, List.append_assoc]
theorem octsOf_len : ∀ (l : List Mic), (octsOf l).length = offOf l
  | [] => rfl
  | m :: l => by show (m.oct ++ octsOf l).length = m.oct.length + offOf l; rw [List.length_append, octsOf_len l]
theorem WF_sums {part s : Nat} {l : List Nat} {rest : List Mic} (hp : part < 256) (hs : s = 1) (h : startO rest.head?) (w : WF rest (s, l)) : WF (sumsM part ++ rest) (s, l) := by
  subst hs
  exact ⟨⟨by decide, hp, rfl⟩, rfl, ⟨by decide, hp, rfl⟩, rfl, ⟨by decide, hp, rfl⟩, rfl, ⟨by decide, hp, rfl⟩, rfl, ⟨by decide, hp, rfl⟩, rfl, ⟨by decide, hp, rfl⟩, rfl, ⟨by decide, hp, rfl⟩, h, w⟩
theorem startO_some {k : Mic} (h : k.start) : startO (some k) := fun _ e => by cases e; exact h
theorem WF_blk {kind part : Nat} {rest : List Mic} (hp : part < 256) (h : startO rest.head?) (w : WF rest (0, [])) : WF (blk kind part ++ rest) (0, []) ∧ startO (blk kind part ++ rest).head? := by
  unfold blk
  split
  · refine ⟨⟨trivial, startO_some rfl, ?_⟩, startO_some trivial⟩
    show WF (sumsM part ++ [.cli] ++ rest) (1, [])
    rw [List.append_assoc]
    exact WF_sums hp rfl (startO_some trivial) ⟨trivial, h, w⟩
  · split
    · refine ⟨⟨rfl, startO_some trivial, trivial, startO_some rfl, ?_⟩, startO_some trivial⟩
      show WF (sumsM part ++ [.plp] ++ rest) (1, [0])
      rw [List.append_assoc]
      exact WF_sums hp rfl (startO_some trivial) ⟨List.cons_ne_nil _ _, h, w⟩
    · split
      · refine ⟨⟨trivial, startO_some trivial, rfl, startO_some trivial, trivial, startO_some rfl, ?_⟩, startO_some trivial⟩
        show WF (sumsM part ++ .plp :: (sumsM part ++ [.cli]) ++ rest) (1, [1])
        rw [List.append_assoc]
        refine WF_sums hp rfl (startO_some trivial) ⟨List.cons_ne_nil _ _, startO_some rfl, ?_⟩
        show WF (sumsM part ++ [.cli] ++ rest) (1, [])
        rw [List.append_assoc]
        exact WF_sums hp rfl (startO_some trivial) ⟨trivial, h, w⟩
      · exact ⟨⟨⟨by decide, hp⟩, rfl, ⟨by decide, hp⟩, rfl, ⟨by decide, hp⟩, rfl, ⟨by decide, hp⟩, h, w⟩, startO_some rfl⟩
theorem sh_blk (kind part : Nat) : shOf (blk kind part) (0, []) = (0, []) := by
  unfold blk
  split
  · rfl
  · split
    · rfl
    · split <;> rfl
theorem gain_sums (part : Nat) (rest : List Mic) : gainOf (sumsM part ++ rest) = part + gainOf rest := by
  show 0 + (0 + (0 + (0 + (0 + (0 + (part + gainOf rest)))))) = _
  omega
theorem gain_blk (kind part : Nat) : gainOf (blk kind part) = blkSum kind part := by
  unfold blk blkSum
  split
  · show 0 + gainOf (sumsM part ++ _) = _
    rw [gain_sums]; exact Nat.zero_add _
  · split
    · show 0 + (0 + gainOf (sumsM part ++ _)) = _
      rw [gain_sums, Nat.zero_add]; exact Nat.zero_add _
    · split
      · show 0 + (0 + (0 + gainOf (sumsM part ++ _))) = _
        rw [gain_sums]
        show 0 + (0 + (0 + (part + (0 + gainOf (sumsM part ++ _))))) = _
        rw [gain_sums]
        show 0 + (0 + (0 + (part + (0 + (part + 0))))) = _
        omega
      · rfl
theorem v35_blk (kind part v : Nat) : v35Of (blk kind part) v = if kind = 0 ∨ kind = 1 ∨ kind = 2 then v else (2 * part + 1) % 256 := by
  unfold blk
  split
  · rename_i h; rw [if_pos (.inl h)]; rfl
  · split
    · rename_i h; rw [if_pos (.inr (.inl h))]; rfl
    · split
      · rename_i h; rw [if_pos (.inr (.inr h))]; rfl
      · rename_i h1 h2 h3; rw [if_neg (by omega)]; rfl
theorem off_cons (m : Mic) (r : List Mic) : offOf (m :: r) = m.oct.length + offOf r := rfl
theorem off_sums (part : Nat) (rest : List Mic) : offOf (sumsM part ++ rest) = 13 + offOf rest := by
  rw [offOf_app]
  rfl
theorem len_sums (part : Nat) (rest : List Mic) : (sumsM part ++ rest).length = 7 + rest.length := by
  rw [List.length_append]
  rfl
theorem o1 : Mic.sei.oct.length = 1 := rfl
theorem o2 : Mic.cli.oct.length = 1 := rfl
theorem o3 : Mic.php.oct.length = 1 := rfl
theorem o4 : Mic.plp.oct.length = 1 := rfl
theorem o5 : offOf [] = 0 := rfl
theorem live_len (part : Nat) : offOf [.live 0 part, .live 1 part, .live 2 part, .live 3 part] = 6 := rfl
theorem blk_ne (kind part : Nat) : 4 ≤ (blk kind part).length ∧ (blk kind part).length ≤ 19 ∧ offOf (blk kind part) ≤ 31 := by
  unfold blk
  split
  · rw [off_cons, off_sums, List.length_cons, len_sums, off_cons, o1, o2, o5]; decide
  · split
    · rw [off_cons, off_cons, off_sums, List.length_cons, List.length_cons, len_sums, off_cons, o1, o3, o4, o5]; decide
    · split
      · rw [off_cons, off_cons, off_cons, off_sums, off_cons, off_sums, off_cons, List.length_cons, List.length_cons, List.length_cons, len_sums, List.length_cons, len_sums, o1, o2, o3, o4, o5]; decide
      · rw [live_len]; exact ⟨by show 4 ≤ 4; decide, by show 4 ≤ 19; decide, by decide⟩
end VE
namespace VE
open M6
open Builtin
theorem WF.split : ∀ {l r : List Mic} {m : Mic} {sh : Nat × List Nat}, WF (l ++ m :: r) sh → m.ok (shOf l sh) ∧ m.next r.head?
  | [], _, _, _, h => ⟨h.1, h.2.1⟩
  | _ :: l, _, _, _, h => WF.split (l := l) h.2.2
/-- A list as it is cut by an index. -/
theorem cutAt {α : Type} {l : List α} {k : Nat} {m : α} (h : l[k]? = some m) : l = l.take k ++ m :: l.drop (k + 1) := by
  obtain ⟨hk, e⟩ := List.getElem?_eq_some_iff.mp h
  conv => lhs; rw [← List.take_append_drop k l, List.drop_eq_getElem_cons hk, e]
theorem take_succ' {α : Type} {l : List α} {k : Nat} {m : α} (h : l[k]? = some m) : l.take (k + 1) = l.take k ++ [m] := by
  rw [List.take_add_one, h]; rfl
theorem head_drop {α : Type} (l : List α) (k : Nat) : (l.drop k).head? = l[k]? := by
  rw [List.head?_drop]
section
variable {ms : List Mic} {k : Nat} {m : Mic}
theorem WF.at (w : WF ms (0, [])) (h : ms[k]? = some m) : m.ok (shOf (ms.take k) (0, [])) ∧ m.next ms[k + 1]? := by
  rw [cutAt h] at w
  rw [← head_drop]
  exact WF.split w
theorem sh_at (h : ms[k]? = some m) : shOf (ms.take (k + 1)) (0, []) = m.shut (shOf (ms.take k) (0, [])) := by
  rw [take_succ' h, shOf_app]; rfl
theorem off_at (h : ms[k]? = some m) : offOf (ms.take (k + 1)) = offOf (ms.take k) + m.oct.length := by
  rw [take_succ' h, offOf_app]; rfl
theorem gain_at (h : ms[k]? = some m) : gainOf (ms.take (k + 1)) = gainOf (ms.take k) + m.gain := by
  rw [take_succ' h, gainOf_app]; rfl
theorem v35_at {v : Nat} (h : ms[k]? = some m) : v35Of (ms.take (k + 1)) v = m.v35 (v35Of (ms.take k) v) := by
  rw [take_succ' h, v35Of_app]; rfl
theorem oct_at {j : Nat} {z : Int} (h : ms[k]? = some m) (hj : m.oct[j]? = some z) : (octsOf ms)[offOf (ms.take k) + j]? = some z := by
  rw [cutAt h, octsOf_app]
  have e : (octsOf (ms.take k)).length = offOf (ms.take k) := octsOf_len _
  have e2 : (ms.take k ++ m :: ms.drop (k + 1)).take k = ms.take k := by rw [← cutAt h]
  rw [e2, ← e, List.getElem?_append_right (Nat.le_add_right _ _), Nat.add_sub_cancel_left]
  show (m.oct ++ octsOf (ms.drop (k + 1)))[j]? = some z
  rw [List.getElem?_append_left (List.getElem?_eq_some_iff.mp hj).1]
  exact hj
theorem off_le : ∀ (l : List Mic) (k : Nat), offOf (l.take k) ≤ offOf l
  | [], k => by rw [List.take_nil]; exact Nat.le_refl _
  | m :: l, 0 => Nat.zero_le _
  | m :: l, k + 1 => Nat.add_le_add_left (off_le l k) _
end
theorem mod_add {x y : Nat} : (x % 65536 + y) % 65536 = (x + y) % 65536 := by omega
theorem mod_inc {x y : Nat} : ((x + y) % 256 + 1) % 256 = (x + (y + 1)) % 256 := by omega
theorem sum_inc {b g o t : Nat} : b + g + o * t + o = b + g + o * (t + 1) := by rw [Nat.mul_succ]; omega
theorem sum_gain {b g o t s : Nat} : b + g + o * t + s = b + (g + s) + o * t := by omega
/-- The machine ahead of step k of the program, t handlers done. -/
noncomputable def MI (ms : List Mic) (pl : List Int) (begun own v0 w0 k t : Nat) (g : Rg) : Prop :=
  MInv pl (512 + offOf (ms.take k)) ((begun + gainOf (ms.take k) + own * t) % 65536) ((v0 + t) % 256) (v35Of (ms.take k) w0) (shOf (ms.take k) (0, [])) ms[k]? g
section
variable {ms : List Mic} {pl : List Int} {begun own v0 w0 k t : Nat} {m : Mic} {g : Rg}
theorem MI.irq0 (I : MI ms pl begun own v0 w0 k t g) (h : (shOf (ms.take k) (0, [])).1 ≠ 0) : Irq T7L g g :=
  MInv.shut I (Nat.le_antisymm I.i1 (Nat.pos_of_ne_zero h))
theorem MI.irq1 (P : Plain7 own (octsOf ms) pl) (w : WF ms (0, [])) (hown : own < 256) (h3 : offOf ms < 1000) (I : MI ms pl begun own v0 w0 k t g) (hk : ms[k]? = some m) (h : (shOf (ms.take k) (0, [])).1 = 0) :
    ∃ g1 g2, Irq T7L g g1 ∧ g1.sp ≠ g.sp ∧ Run 11 g1 g2 ∧ MI ms pl begun own v0 w0 k (t + 1) g2 ∧ g2.pc = g.pc ∧ g2.sp = g.sp := by
  unfold MI at I
  rw [hk] at I
  obtain ⟨g1, g2, h1, h2, h3, h4, h5⟩ := MInv.irq P hown (Nat.mod_lt _ (by decide)) I (Nat.lt_of_le_of_lt (Nat.add_le_add_left (off_le ms k) _) (Nat.lt_trans (Nat.add_lt_add_left h3 _) (by decide))) h (w.at hk).1
  refine ⟨g1, g2, h1, h2, h3, ?_, h5⟩
  unfold MI
  rw [hk]
  rw [mod_add, sum_inc, mod_inc] at h4
  exact h4
theorem MI.step (P : Plain7 own (octsOf ms) pl) (w : WF ms (0, [])) (h3 : offOf ms < 1000) (I : MI ms pl begun own v0 w0 k t g) (hk : ms[k]? = some m) :
    ∃ g2, Stp T7L g g2 ∧ MI ms pl begun own v0 w0 (k + 1) t g2 := by
  unfold MI at I
  rw [hk] at I
  obtain ⟨g2, h1, h2⟩ := MInv.step I (Nat.lt_of_le_of_lt (Nat.add_le_add_left (off_le ms k) _) (Nat.lt_trans (Nat.add_lt_add_left h3 _) (by decide))) (Nat.le_add_right _ _) (fun j z h => by rw [Nat.add_assoc]; exact P.code _ _ (oct_at hk h)) (w.at hk).1 (w.at hk).2
  refine ⟨g2, h1, ?_⟩
  unfold MI
  rw [sh_at hk, off_at hk, gain_at hk, v35_at hk]
  rw [mod_add, sum_gain, Nat.add_assoc] at h2
  exact h2
theorem p48 : PK 48 0 := by unfold PK; decide +kernel
theorem MI.start {x y : Int} {mem : List Int} (hb : begun < 65536) (v0' : v0 < 256) (w0' : w0 < 256) (hst : startO ms[0]?) (hm : mem.length = 65536)
    (e2 : mem[32]? = some ((begun % 256 : Nat) : Int)) (e3 : mem[33]? = some ((begun / 256 : Nat) : Int)) (e4 : mem[34]? = some (v0 : Int)) (e5 : mem[35]? = some (w0 : Int)) : MI ms mem begun own v0 w0 0 0 ⟨512, 255, 0, x, y, 48, mem⟩ := by
  have e : (begun + gainOf (ms.take 0) + own * 0) % 65536 = begun := Nat.mod_eq_of_lt hb
  have e' : (v0 + 0) % 256 = v0 := Nat.mod_eq_of_lt v0'
  unfold MI
  rw [e, e', List.take_zero]
  refine ⟨hb, Nat.zero_le _, Nat.zero_le _, rfl, rfl, ⟨0, 48, begun % 256, begun / 256, rfl, rfl, by decide, p48, ⟨hm, fun k hk => ?_⟩, .of_start hst rfl rfl⟩, fun t ht => nomatch ht⟩
  unfold want7
  by_cases h : k = 32
  · rw [if_pos h, h]; exact e2
  rw [if_neg h]
  by_cases h : k = 33
  · rw [if_pos h, h]; exact e3
  rw [if_neg h]
  by_cases h : k = 34
  · rw [if_pos h, h]; exact e4
  rw [if_neg h]
  by_cases h : k = 35
  · rw [if_pos h, h]; exact e5
  rw [if_neg h]
theorem p_flags : ∀ p : Nat, p < 256 → ∀ i : Nat, i < 2 → bitAnd (p : Int) 8 = 0 → bitAnd (p : Int) 4 = 4 * (i : Int) → p / 4 % 4 = i := by decide +kernel
theorem MI.end_ (I : MI ms pl begun own v0 w0 ms.length t g) (e : shOf ms (0, []) = (0, [])) : g.pc = 512 + offOf ms ∧ g.sp = 255 ∧ (∃ p : Nat, g.p = (p : Int) ∧ p / 4 % 4 = 0) ∧ ∃ v32 v33, v32 = (begun + gainOf ms + own * t) % 65536 % 256 ∧ v33 = (begun + gainOf ms + own * t) % 65536 / 256 ∧ Mem7 v32 v33 ((v0 + t) % 256) (v35Of ms w0) pl g.mem := by
  unfold MI at I
  rw [List.take_length, e, List.getElem?_eq_none (Nat.le_refl _)] at I
  obtain ⟨a, p, v32, v33, ea, ep, ha, hp, M, at_⟩ := I.regs
  exact ⟨I.pc, I.sp, ⟨p, ep, p_flags p hp.1 0 (by decide) hp.2.2.2.1 hp.2.2.2.2⟩, v32, v33, at_.1, at_.2, M⟩
end
end VE
namespace VE
open M6
/-! The law's own loops, as plain pieces. -/
@[irreducible] noncomputable def b4_3 : WX := wSeq (wAuN 121 .Add (wSub (wFrz (wList (wAc (wName 101) (wAc (wName 101) (wAc (wBin .Mult (wInt 2) (wName 101)) (wAc (wInt 0) wA0)))))) (wName 134))) wNil
@[irreducible] noncomputable def b4_2 : WX := wSeq (wIf (wCmpT .Eq (wName 134) (wInt 0)) (wSeq (wAuN 111 .Add (wFrz (wCat (wFrz (wCat (wFrz (wList (wAc (wFrz (wList (wAc (wInt 120) wA0))) wA0))) (wFrz (wCall 1439 (wAc (wName 101) wA0))))) (wFrz (wList (wAc (wFrz (wList (wAc (wInt 88) wA0))) wA0)))))) wNil) (wSeq (wIf (wCmpT .Eq (wName 134) (wInt 1)) (wSeq (wAuN 111 .Add (wFrz (wCat (wFrz (wCat (wFrz (wList (wAc (wFrz (wList (wAc (wInt 8) wA0))) (wAc (wFrz (wList (wAc (wInt 120) wA0))) wA0)))) (wFrz (wCall 1439 (wAc (wName 101) wA0))))) (wFrz (wList (wAc (wFrz (wList (wAc (wInt 40) wA0))) wA0)))))) wNil) (wSeq (wIf (wCmpT .Eq (wName 134) (wInt 2)) (wSeq (wAuN 111 .Add (wFrz (wCat (wFrz (wCat (wFrz (wCat (wFrz (wCat (wFrz (wList (wAc (wFrz (wList (wAc (wInt 120) wA0))) (wAc (wFrz (wList (wAc (wInt 8) wA0))) (wAc (wFrz (wList (wAc (wInt 120) wA0))) wA0))))) (wFrz (wCall 1439 (wAc (wName 101) wA0))))) (wFrz (wList (wAc (wFrz (wList (wAc (wInt 40) wA0))) wA0))))) (wFrz (wCall 1439 (wAc (wName 101) wA0))))) (wFrz (wList (wAc (wFrz (wList (wAc (wInt 88) wA0))) wA0)))))) wNil) (wSeq (wAuN 111 .Add (wFrz (wList (wAc (wFrz (wList (wAc (wInt 169) (wAc (wName 101) wA0)))) (wAc (wFrz (wList (wAc (wInt 56) wA0))) (wAc (wFrz (wList (wAc (wInt 42) wA0))) (wAc (wFrz (wList (wAc (wInt 133) (wAc (wInt 35) wA0)))) wA0))))))) (wSeq (wExpr (wApp (wName 122) (wBin .Mod (wBin .Add (wBin .Mult (wInt 2) (wName 101)) (wInt 1)) (wInt 256)))) wNil))) wNil)) wNil)) b4_3
noncomputable def b4_1 : WX := wSeq (wAsB [134, 101] (wTup (wAc (wBin .Mod (wBin .Add (wName 124) (wName 108)) (wInt 4)) (wAc (wBin .Mod (wBin .Add (wBin .FloorDiv (wName 124) (wInt 4)) (wBin .Mult (wInt 59) (wName 108))) (wInt 256)) wA0)))) b4_2
@[irreducible] noncomputable def b4_0 : WX := wSeq (wAsg 124 (wSub (wName 105) (wBin .Mod (wName 108) (wLen (wAc (wName 105) wA0))))) b4_1
noncomputable def b6_0 : WX := wSeq (wAuN 109 .Add (wName 110)) wNil
noncomputable def b9_0 : WX := wSeq (wAsS (wName 9) (wBin .Add (wInt 512) (wName 113)) (wSub (wName 109) (wName 113))) wNil
@[irreducible] noncomputable def b12_0 : WX := wSeq (wFor (wItL (wName 110)) (wTN 125) (wSeq (wAsS (wName 9) (wName 115) (wName 125)) (wSeq (wAuN 115 .Add (wInt 1)) wNil))) wNil
@[irreducible] noncomputable def b18_3 : WX := wSeq (wIf (wCmpT .Eq (wName 131) (wInt 8)) (wSeq (wExpr (wApp (wName 127) (wName 126))) wNil) (wSeq (wIf (wCmpT .Eq (wName 131) (wInt 40)) (wSeq (wAsg 126 (wPop (wName 127))) wNil) (wSeq (wIf (wCmpT .In (wName 131) (wFrz (wList (wAc (wInt 88) (wAc (wInt 120) wA0))))) (wSeq (wAsg 126 (wIfE (wCmpT .Eq (wName 131) (wInt 120)) (wInt 1) (wInt 0))) wNil) wNil) wNil)) wNil)) wNil
@[irreducible] noncomputable def b18_2 : WX := wSeq (wAsg 131 (wSub (wSub (wName 111) (wName 118)) (wInt 0))) b18_3
@[irreducible] noncomputable def b18_1 : WX := wSeq (wIf (wAndT (wCmpT .Eq (wName 128) (wInt 1)) (wAndT (wCmpT .Eq (wName 126) (wInt 0)) wTT)) (wSeq (wAsg 128 (wInt 0)) (wSeq (wAuN 129 .Add (wInt 1)) (wSeq (wExpr (wApp (wName 130) (wName 118))) wNil))) wNil) b18_2
noncomputable def b18_0 : WX := wSeq (wIf (wCmpT .In (wName 118) (wName 117)) (wSeq (wAsg 128 (wInt 1)) wNil) wNil) b18_1
noncomputable def g21_0 : WX := wSeq (wExpr (wFrz (wMeth Z7 34 (wName 119) wA0))) wNil
noncomputable def e21_3 : WX := wSeq (wIf (wCmpT .NotEq (wTup (wAc (wAttr Z7 11 (wName 119)) (wAc (wAttr Z7 12 (wName 119)) wA0))) (wTup (wAc (wName 113) (wAc (wName 137) wA0)))) (wSeq (wRet (wBool false)) wNil) wNil) wNil
noncomputable def e21_2 : WX := wSeq (wFor (wRng (wAc (wLen (wAc (wName 114) wA0)) wA0)) (wTN 108) g21_0) e21_3
noncomputable def e21_1 : WX := wSeq (wExpr (wApp (wName 133) (wName 118))) e21_2
noncomputable def e21_0 : WX := wSeq (wAsg 128 (wInt 0)) e21_1
noncomputable def c21_2 : WX := wSeq (wIf (wCmpT .NotEq (wAttr Z7 12 (wName 119)) (wName 137)) e21_0 wNil) wNil
noncomputable def c21_1 : WX := wSeq (wExpr (wFrz (wMeth Z7 36 (wName 119) wA0))) c21_2
noncomputable def c21_0 : WX := wSeq (wAsB [137, 113] (wTup (wAc (wAttr Z7 12 (wName 119)) (wAc (wAttr Z7 11 (wName 119)) wA0)))) c21_1
noncomputable def b21_2 : WX := wSeq (wExpr (wFrz (wMeth Z7 34 (wName 119) wA0))) wNil
@[irreducible] noncomputable def b21_1 : WX := wSeq (wIf (wCmpT .Eq (wName 128) (wInt 1)) c21_0 wNil) b21_2
noncomputable def b21_0 : WX := wSeq (wIf (wCmpT .In (wName 118) (wName 117)) (wSeq (wAsg 128 (wInt 1)) wNil) wNil) b21_1
theorem w4_eq : w_law_4 = wSeq (wFor (wRng (wAc (wBin .Add (wInt 3) (wLen (wAc (wFrz (wSli (wName 103) wP0 (wP (wInt 4)))) wA0))) wA0)) (wTN 108) b4_0) w_law_5 := by unfold w_law_4 b4_0 b4_1 b4_2 b4_3; rfl
theorem w6_eq : w_law_6 = wSeq (wFor (wItL (wName 111)) (wTN 110) b6_0) w_law_7 := by unfold w_law_6 b6_0; rfl
theorem w9_eq : w_law_9 = wSeq (wFor (wRng (wAc (wLen (wAc (wName 109) wA0)) wA0)) (wTN 113) b9_0) w_law_10 := by unfold w_law_9 b9_0; rfl
theorem w12_eq : w_law_12 = wSeq (wFor (wItL (wName 114)) (wTN 110) b12_0) w_law_13 := by unfold w_law_12 b12_0; rfl
theorem w18_eq : w_law_18 = wSeq (wFor (wRng (wAc (wLen (wAc (wName 111) wA0)) wA0)) (wTN 118) b18_0) w_law_19 := by unfold w_law_18 b18_0 b18_1 b18_2 b18_3; rfl
theorem w21_eq : w_law_21 = wSeq (wFor (wRng (wAc (wLen (wAc (wName 111) wA0)) wA0)) (wTN 118) b21_0) w_law_22 := by unfold w_law_21 b21_0 b21_1 b21_2; rfl
/-! General. -/
noncomputable abbrev il (l : List Int) : List PV := l.map .int
noncomputable def nl (l : List Nat) : List Int := List.map (fun (n : Nat) => (n : Int)) l
noncomputable abbrev I (i : Int) : VV := .p (.int i)
/-- What a loop does behind its body. -/
noncomputable def flW (keep : VS → Prop) (Q : Fl → VS → Prop) (R : VS → Prop) (f : Fl) (τ : VS) : Prop := match f with
  | .next => keep τ ∧ R τ
  | .cont => keep τ ∧ R τ
  | .brk => Q .next τ
  | .ret u => Q (.ret u) τ
section
variable {tgt : PV → VS → (VS → Prop) → Prop} {body : VS → (Fl → VS → Prop) → Prop} {keep : VS → Prop} {Q : Fl → VS → Prop}
theorem forW_from (l : List PV) (Inv : Nat → VS → Prop) (step : ∀ i v τ (R : VS → Prop), l[i]? = some v → Inv i τ → (∀ τ2, Inv (i + 1) τ2 → R τ2) → tgt v τ fun τ1 => body τ1 (flW keep Q R))
    (fin : ∀ τ, Inv l.length τ → Q .next τ) : ∀ (r : List PV) (k : Nat) τ, l.drop k = r → k ≤ l.length → Inv k τ → forW tgt body keep Q r τ := by
  intro r
  induction r with
  | nil =>
    intro k τ e hk I
    have : k = l.length := by
      have := congrArg List.length e
      rw [List.length_drop] at this
      simp at this; omega
    subst this
    exact fin τ I
  | cons v r ih =>
    intro k τ e hk I
    have hk' : k < l.length := by
      have := congrArg List.length e
      rw [List.length_drop] at this
      simp at this; omega
    have e2 := List.drop_eq_getElem_cons hk'
    rw [e] at e2
    injection e2 with e3 e4
    exact step k v τ (forW tgt body keep Q r) (by rw [List.getElem?_eq_getElem hk', e3]) I fun τ2 I2 => ih (k + 1) τ2 e4.symm hk' I2
theorem forW_ind {l : List PV} {τ : VS} (Inv : Nat → VS → Prop) (h : Inv 0 τ) (step : ∀ i v τ (R : VS → Prop), l[i]? = some v → Inv i τ → (∀ τ2, Inv (i + 1) τ2 → R τ2) → tgt v τ fun τ1 => body τ1 (flW keep Q R))
    (fin : ∀ τ, Inv l.length τ → Q .next τ) : forW tgt body keep Q l τ := forW_from l Inv step fin l 0 τ rfl (Nat.zero_le _) h
end
/-- A comprehension whose item is a plain function. -/
theorem compW_ind {tgt : PV → VS → (VS → Prop) → Prop} {elt : VS → (VV → VS → Prop) → Prop} {hp : List VO} {base : List (Nat × VV)} {Q : List PV → Prop} (f : PV → PV) : ∀ (l acc : List PV),
    (∀ v, v ∈ l → ∀ R : PV → Prop, R (f v) → tgt v ⟨base, hp⟩ fun τ1 => elt τ1 fun u τ2 => τ2.hp = hp ∧ match u with | .p z => R z | _ => False) → Q (acc ++ l.map f) → compW tgt elt hp base Q l acc := by
  intro l
  induction l with
  | nil => intro acc h q; rw [List.map_nil, List.append_nil] at q; exact q
  | cons v r ih =>
    intro acc h q
    refine h v (List.mem_cons_self ..) (fun z => compW tgt elt hp base Q r (acc ++ [z])) (ih (acc ++ [f v]) (fun w hw => h w (List.mem_cons_of_mem _ hw)) ?_)
    rw [List.append_assoc]; exact q
theorem range_at {n i : Nat} {v : PV} (h : (rangeL 0 (n : Int))[i]? = some v) : i < n ∧ v = .int (i : Int) := by
  unfold rangeL at h
  rw [List.getElem?_map] at h
  have e : ((n : Int) - 0).toNat = n := by omega
  rw [e] at h
  by_cases hi : i < n
  · rw [List.getElem?_range hi] at h
    simp only [Option.map_some, Option.some.injEq] at h
    exact ⟨hi, by rw [← h]; simp⟩
  · rw [List.getElem?_eq_none (by simp; omega)] at h; cases h
theorem range_len (n : Nat) : (rangeL 0 (n : Int)).length = n := by rw [rangeL_len]; omega
theorem rng_ok {n : Nat} (h : n < 2 ^ 32) : rngB 0 (n : Int) := by
  unfold rngB
  have : (2 : Int) ^ 62 = 4611686018427387904 := by decide
  have h2 : (2 : Nat) ^ 32 = 4294967296 := by decide
  omega
theorem il_len (l : List Int) : (il l).length = l.length := List.length_map ..
theorem nl_len (l : List Nat) : (nl l).length = l.length := List.length_map ..
theorem il_at {l : List Int} {k : Nat} {z : Int} (h : l[k]? = some z) : pick (il l) (k : Int) = some (.int z) := pk h
theorem nl_at {l : List Nat} {k z : Nat} (h : l[k]? = some z) : (nl l)[k]? = some (z : Int) := by
  unfold nl; rw [List.getElem?_map, h]; rfl
theorem fmodN (a b : Nat) : Int.fmod (a : Int) (b : Int) = ((a % b : Nat) : Int) := (Int.ofNat_fmod a b).symm
theorem fdivN (a b : Nat) : Int.fdiv (a : Int) (b : Int) = ((a / b : Nat) : Int) := (Int.ofNat_fdiv a b).symm
theorem smallN {n : Nat} (h : n < 2 ^ 32) : (n : Int) < 2 ^ 63 := by
  have : (2 : Int) ^ 63 = 9223372036854775808 := by decide
  have h2 : (2 : Nat) ^ 32 = 4294967296 := by decide
  omega
theorem idxN {n : Nat} (h : n < 2 ^ 32) : idxOk (n : Int) := by
  unfold idxOk
  have : (2 : Int) ^ 63 = 9223372036854775808 := by decide
  have h2 : (2 : Nat) ^ 32 = 4294967296 := by decide
  omega
theorem no_pylong {i j : Int} (hj : j.natAbs < 1000000) : Builtin.divisionGoesByPylong i j = false := by
  unfold Builtin.divisionGoesByPylong
  have h : (fun (n : Int) => if n == 0 then 0 else n.natAbs.log2 / 30 + 1) j ≤ 300 := by
    show (if j == 0 then 0 else j.natAbs.log2 / 30 + 1) ≤ 300
    split
    · decide
    · rename_i q
      have q : j ≠ 0 := by simpa using q
      have : j.natAbs.log2 < 20 := (Nat.log2_lt (by omega)).mpr (by omega)
      omega
  show (decide (_ > 300) && _) = false
  rw [decide_eq_false (Nat.not_lt.mpr h)]; rfl
theorem mul_l {i j : Int} (h : Builtin.Int.intBits i ≤ 64) : IntMulOk i j := IntMulOk.of_left h
/-- Lists of lists of ints. -/
noncomputable def pl2 (l : List (List Int)) : List PV := l.map fun o => .lst (il o)
theorem pl2_len (l : List (List Int)) : (pl2 l).length = l.length := List.length_map ..
noncomputable def stp (ms : List Mic) : List PV := pl2 (ms.map Mic.oct)
theorem stp_len (ms : List Mic) : (stp ms).length = ms.length := by unfold stp; rw [pl2_len, List.length_map]
theorem stp_app (l r : List Mic) : stp (l ++ r) = stp l ++ stp r := by unfold stp pl2; rw [List.map_append, List.map_append]
theorem stp_at {ms : List Mic} {k : Nat} {m : Mic} (h : ms[k]? = some m) : pick (stp ms) (k : Int) = some (.lst (il m.oct)) := by
  show (stp ms)[k]? = _
  unfold stp pl2
  rw [List.getElem?_map, List.getElem?_map, h]; rfl
/-- A stretch of a list written over. -/
noncomputable def wr (m : List Int) : Nat → List Int → List Int
  | _, [] => m
  | a, z :: r => wr (m.set a z) (a + 1) r
theorem wr_len : ∀ (l m : List Int) (a : Nat), (wr m a l).length = m.length
  | [], _, _ => rfl
  | z :: r, m, a => by show (wr (m.set a z) (a + 1) r).length = _; rw [wr_len r, List.length_set]
theorem wr_snoc : ∀ (l m : List Int) (a : Nat) (z : Int), wr m a (l ++ [z]) = (wr m a l).set (a + l.length) z
  | [], m, a, z => rfl
  | y :: r, m, a, z => by
    show wr (m.set a y) (a + 1) (r ++ [z]) = (wr (m.set a y) (a + 1) r).set (a + (r.length + 1)) z
    rw [wr_snoc r, show a + 1 + r.length = a + (r.length + 1) by omega]
theorem wr_app : ∀ (l r m : List Int) (a : Nat), wr m a (l ++ r) = wr (wr m a l) (a + l.length) r
  | [], r, m, a => rfl
  | y :: l, r, m, a => by
    show wr (m.set a y) (a + 1) (l ++ r) = wr (wr (m.set a y) (a + 1) l) (a + (l.length + 1)) r
    rw [wr_app l, show a + 1 + l.length = a + (l.length + 1) by omega]
theorem wr_out : ∀ (l m : List Int) (a k : Nat), k < a ∨ a + l.length ≤ k → (wr m a l)[k]? = m[k]?
  | [], m, a, k, _ => rfl
  | z :: r, m, a, k, h => by
    show (wr (m.set a z) (a + 1) r)[k]? = _
    have h' : k < a ∨ a + (r.length + 1) ≤ k := h
    rw [wr_out r _ _ _ (by omega), List.getElem?_set_ne (by omega)]
theorem wr_in : ∀ (l m : List Int) (a i : Nat) (z : Int), a + l.length ≤ m.length → l[i]? = some z → (wr m a l)[a + i]? = some z
  | [], _, _, _, _, _, h => by simp at h
  | y :: r, m, a, 0, z, hm, h => by
    have hm' : a + (r.length + 1) ≤ m.length := hm
    show (wr (m.set a y) (a + 1) r)[a + 0]? = _
    rw [wr_out r _ _ _ (by omega), Nat.add_zero, List.getElem?_set_self (by omega)]
    exact h
  | y :: r, m, a, i + 1, z, hm, h => by
    have hm' : a + (r.length + 1) ≤ m.length := hm
    have := wr_in r (m.set a y) (a + 1) i z (by rw [List.length_set]; omega) h
    show (wr (m.set a y) (a + 1) r)[a + (i + 1)]? = _
    rw [← this]; congr 1; omega
/-! What the law draws. -/
noncomputable def sd (S : List Nat) (t : Nat) : Nat := S.getD (t % S.length) 0
noncomputable def kd (S : List Nat) (t : Nat) : Nat := (sd S t + t) % 4
noncomputable def pt (S : List Nat) (t : Nat) : Nat := (sd S t / 4 + 59 * t) % 256
noncomputable def msU (S : List Nat) : Nat → List Mic
  | 0 => []
  | t + 1 => msU S t ++ blk (kd S t) (pt S t)
noncomputable def smU (S : List Nat) : Nat → Nat
  | 0 => 0
  | t + 1 => smU S t + blkSum (kd S t) (pt S t)
noncomputable def lvB (k p : Nat) : List Nat := if k = 3 then [(2 * p + 1) % 256] else []
noncomputable def lvU (S : List Nat) : Nat → List Nat
  | 0 => []
  | t + 1 => lvU S t ++ lvB (kd S t) (pt S t)
theorem kd_lt (S : List Nat) (t : Nat) : kd S t < 4 := Nat.mod_lt _ (by decide)
theorem pt_lt (S : List Nat) (t : Nat) : pt S t < 256 := Nat.mod_lt _ (by decide)
theorem msU_len (S : List Nat) : ∀ t, (msU S t).length ≤ 19 * t ∧ 4 * t ≤ (msU S t).length ∧ offOf (msU S t) ≤ 31 * t
  | 0 => ⟨Nat.le_refl _, Nat.le_refl _, Nat.le_refl _⟩
  | t + 1 => by
    obtain ⟨h1, h2, h3⟩ := msU_len S t
    obtain ⟨g1, g2, g3⟩ := blk_ne (kd S t) (pt S t)
    show (msU S t ++ blk (kd S t) (pt S t)).length ≤ _ ∧ _ ≤ (msU S t ++ blk (kd S t) (pt S t)).length ∧ offOf (msU S t ++ blk (kd S t) (pt S t)) ≤ _
    rw [List.length_append, offOf_app]
    omega
theorem sd_at {S : List Nat} (h : S ≠ []) (t : Nat) : S[t % S.length]? = some (sd S t) := by
  have : t % S.length < S.length := Nat.mod_lt _ (List.length_pos_iff.mpr h)
  unfold sd
  rw [List.getD_eq_getElem?_getD, List.getElem?_eq_getElem this]; rfl
theorem WF_tail {S : List Nat} : ∀ (t : Nat) (rest : List Mic), startO rest.head? → WF rest (0, []) → WF (msU S t ++ rest) (0, []) ∧ startO (msU S t ++ rest).head?
  | 0, rest, h, w => ⟨w, h⟩
  | t + 1, rest, h, w => by
    show WF ((msU S t ++ blk (kd S t) (pt S t)) ++ rest) (0, []) ∧ startO ((msU S t ++ blk (kd S t) (pt S t)) ++ rest).head?
    rw [List.append_assoc]
    obtain ⟨w1, h1⟩ := WF_blk (kind := kd S t) (pt_lt S t) h w
    exact WF_tail t _ h1 w1
theorem WF_ms (S : List Nat) (t : Nat) : WF (msU S t) (0, []) ∧ startO (msU S t).head? := by
  have := WF_tail (S := S) t [] (fun k e => by cases e) trivial
  rwa [List.append_nil] at this
theorem sh_ms (S : List Nat) : ∀ t, shOf (msU S t) (0, []) = (0, [])
  | 0 => rfl
  | t + 1 => by
    show shOf (msU S t ++ blk (kd S t) (pt S t)) (0, []) = _
    rw [shOf_app, sh_ms S t, sh_blk]
theorem gain_ms (S : List Nat) : ∀ t, gainOf (msU S t) = smU S t
  | 0 => rfl
  | t + 1 => by
    show gainOf (msU S t ++ blk (kd S t) (pt S t)) = smU S t + blkSum (kd S t) (pt S t)
    rw [gainOf_app, gain_ms S t, gain_blk]
/-- The last of the octets stored at 35. -/
theorem v35_ms (S : List Nat) (v : Nat) : ∀ t, v35Of (msU S t) v = (v :: lvU S t).getLast (by simp)
  | 0 => rfl
  | t + 1 => by
    show v35Of (msU S t ++ blk (kd S t) (pt S t)) v = (v :: (lvU S t ++ lvB (kd S t) (pt S t))).getLast _
    rw [v35Of_app, v35_blk, v35_ms S v t]
    have := kd_lt S t
    unfold lvB
    by_cases h : kd S t = 3
    · rw [if_neg (by omega)]; simp only [if_pos h]; rw [List.getLast_cons (by simp), List.getLast_concat]
    · rw [if_pos (by omega)]; simp only [if_neg h, List.append_nil]
end VE
namespace VE
open M6
/-- What of the law's frame stands fast behind the program's making. -/
structure Fx where
  s : List PV
  S : List PV
  own : Int
  begun : Int
  sums : Int
  u124 : VV
  u101 : VV
  u134 : VV
  u110 : VV
  en : Int
  hd : List PV
  u115 : VV
  u125 : VV
noncomputable abbrev locF (F : Fx) (u108 u113 : VV) (shut line taken : Int) (tl : List (Nat × VV)) : List (Nat × VV) :=
  (103, .p (.raw F.s)) :: (105, .p (.lst F.S)) :: (106, I F.own) :: (107, I F.begun) :: (111, .ref 0) :: (121, I F.sums) :: (122, .ref 1) :: (108, u108) :: (124, F.u124) :: (101, F.u101) :: (134, F.u134) :: (109, .ref 2) :: (110, F.u110) :: (112, I F.en) :: (9, .ref 3) :: (113, u113) :: (114, .p (.lst F.hd)) :: (115, F.u115) :: (125, F.u125) :: (116, .ref 4) :: (117, .ref 5) :: (126, I shut) :: (127, .ref 6) :: (128, I line) :: (129, I taken) :: (130, .ref 7) :: tl
/-- The end that the law asks for. -/
noncomputable abbrev QQ : Fl → VS → Prop := fun fl _ => fl = .ret (.p (.bool true))
theorem szL {n : Nat} (h : Nat.ble n sizeLine = true) : n ≤ sizeLine := Nat.le_of_ble_eq_true h
theorem take_il (l : List Int) (n : Nat) : (il l).take n = il (l.take n) := List.map_take.symm
theorem drop_il (l : List Int) (n : Nat) : (il l).drop n = il (l.drop n) := List.map_drop.symm
theorem size_il {l : List Int} (h : l.length = 65536) : (il l).length ≤ sizeLine := by
  rw [il_len, h]; decide
section
variable {C : Calls} {F : Fx} {u108 u113 u9 u10 : VV} {shut line taken : Int} {tl : List (Nat × VV)} {o0 o1 o2 o5 o6 o7 o9 : VO} {j : Jk} {g : Rg} {X : List PV} {kept : List Int}
theorem s26 (eX : X = il kept) (hg : g.mem.length = 65536) (hk : kept.length = 65536) (e1 : g.mem.take 256 = kept.take 256) (e2 : g.mem.drop 512 = kept.drop 512) :
    w_law_26 C ⟨locF F u108 u113 shut line taken tl, hpM ⟨o0, o1, o2, .list X, o5, o6, o7, o9⟩ j g⟩ QQ := by
  subst eX
  refine Exists.intro _ (And.intro rfl (And.intro (size_il hg) (And.intro (by decide) ?_)))
  refine Exists.intro _ (And.intro rfl (And.intro (size_il hk) (And.intro (by decide) ?_)))
  refine Exists.intro (g.mem.take 256) (Exists.intro (kept.take 256) (And.intro (congrArg some (take_il _ _)) (And.intro (congrArg some (take_il _ _)) (And.intro (congrArg List.length e1) ?_))))
  refine brT (beq_iff_eq.mpr e1) ?_
  refine Exists.intro _ (And.intro rfl (And.intro (size_il hg) (And.intro (by decide) ?_)))
  refine Exists.intro _ (And.intro rfl (And.intro (size_il hk) (And.intro (by decide) ?_)))
  refine Exists.intro (g.mem.drop 512) (Exists.intro (kept.drop 512) (And.intro (congrArg some (drop_il _ _)) (And.intro (congrArg some (drop_il _ _)) (And.intro (congrArg List.length e2) ?_))))
  exact congrArg (fun b => Fl.ret (.p (.bool b))) (beq_iff_eq.mpr e2)
theorem s25 {told : List Nat} (h7 : o7 = .list (il (nl told))) (h9 : o9 = .list (il (nl told))) (he : [((g.pc : Nat) : Int), ((g.sp : Nat) : Int), Int.fmod (Int.fdiv g.p 4) 4] = [F.en, 255, shut])
    (eX : X = il kept) (hg : g.mem.length = 65536) (hk : kept.length = 65536) (e1 : g.mem.take 256 = kept.take 256) (e2 : g.mem.drop 512 = kept.drop 512) :
    w_law_25 C ⟨locF F u108 u113 shut line taken ((118, u9) :: (131, u10) :: (119, .ref 8) :: (133, .ref 9) :: tl), hpM ⟨o0, o1, o2, .list X, o5, o6, o7, o9⟩ j g⟩ QQ := by
  subst h7 h9
  refine Exists.intro (nl told) (Exists.intro (nl told) (And.intro rfl (And.intro rfl (And.intro rfl ?_))))
  refine brF (by rw [beq_self_eq_true]; rfl) ?_
  refine And.intro (And.intro (by decide) (no_pylong (by decide))) ?_
  refine And.intro (by decide) ?_
  refine And.intro (szL rfl) ?_
  refine And.intro (szL rfl) ?_
  refine Exists.intro [((g.pc : Nat) : Int), ((g.sp : Nat) : Int), Int.fmod (Int.fdiv g.p 4) 4] (Exists.intro [F.en, 255, shut] (And.intro rfl (And.intro rfl (And.intro rfl ?_))))
  refine brF (by rw [he, beq_self_eq_true]; rfl) ?_
  exact s26 eX hg hk e1 e2
/-- The last of a list by the index -1. -/
theorem pick_last {l : List PV} {z : PV} (h : l.getLast? = some z) : pick l (-1) = some z := by
  have hl : l ≠ [] := by intro e; subst e; cases h
  have : 0 < l.length := List.length_pos_iff.mpr hl
  show (match Nat.ble 1 l.length with | true => l[l.length - 1]? | false => none) = _
  rw [show Nat.ble 1 l.length = true from Nat.ble_eq_true_of_le this]
  rw [List.getLast?_eq_getElem?] at h
  exact h
theorem setO {l : List Int} {k : Nat} (hl : l.length = 65536) (hk : k < 65536) : (0 : Int) ≤ (k : Int) ∧ (k : Int) < ((il l).length : Int) ∧ (k : Int) < 2 ^ 63 := by
  rw [il_len, hl]; omega
theorem s24 {told lives : List Nat} {w : Nat} (h7 : o7 = .list (il (nl told))) (h9 : o9 = .list (il (nl told))) (he : [((g.pc : Nat) : Int), ((g.sp : Nat) : Int), Int.fmod (Int.fdiv g.p 4) 4] = [F.en, 255, shut])
    (h1 : o1 = .list (il (nl lives))) (hlv : lives.length < 100) (hw : kept[35]? = some ((w : Nat) : Int))
    (eX : X = il kept) (hg : g.mem.length = 65536) (hk : kept.length = 65536) (e1 : g.mem.take 256 = (kept.set 35 (((w :: lives).getLast (by simp) : Nat) : Int)).take 256) (e2 : g.mem.drop 512 = (kept.set 35 (((w :: lives).getLast (by simp) : Nat) : Int)).drop 512) :
    w_law_24 C ⟨locF F u108 u113 shut line taken ((118, u9) :: (131, u10) :: (119, .ref 8) :: (133, .ref 9) :: tl), hpM ⟨o0, o1, o2, .list X, o5, o6, o7, o9⟩ j g⟩ QQ := by
  subst h1 eX
  refine And.intro (by decide) (Exists.intro _ (Exists.intro _ (And.intro rfl (And.intro (il_at (k := 35) hw) ?_))))
  refine And.intro (szL rfl) ?_
  refine Exists.intro _ (Exists.intro _ (And.intro rfl (And.intro rfl (And.intro ?_ ?_))))
  · rw [il_len, nl_len]; show 1 + lives.length ≤ _; have : sizeLine = 2 ^ 24 := rfl; omega
  refine And.intro (by decide) (Exists.intro _ (Exists.intro _ (And.intro rfl (And.intro (pick_last (z := .int (((w :: lives).getLast (by simp) : Nat) : Int)) ?_) ?_))))
  · show (il (nl (w :: lives))).getLast? = _
    unfold il nl
    rw [List.getLast?_map, List.getLast?_map, List.getLast?_eq_some_getLast (by simp)]; rfl
  refine And.intro (setO (k := 35) hk (by decide)) ?_
  exact s25 (kept := kept.set 35 (((w :: lives).getLast (by simp) : Nat) : Int)) h7 h9 he mset hg (by rw [List.length_set]; exact hk) e1 e2
theorem s23 {told lives : List Nat} {w v W Tk : Nat} {whole : Int} {tl : List (Nat × VV)} (h7 : o7 = .list (il (nl told))) (h9 : o9 = .list (il (nl told))) (he : [((g.pc : Nat) : Int), ((g.sp : Nat) : Int), Int.fmod (Int.fdiv g.p 4) 4] = [F.en, 255, shut])
    (h1 : o1 = .list (il (nl lives))) (hlv : lives.length < 100) (hv : kept[34]? = some ((v : Nat) : Int)) (hw : kept[35]? = some ((w : Nat) : Int)) (hW : whole = (W : Int)) (hT : taken = (Tk : Int))
    (htl : getN 120 (locF F u108 u113 shut line taken ((118, u9) :: (131, u10) :: (119, .ref 8) :: (133, .ref 9) :: tl)) = some (I whole))
    (eX : X = il kept) (hg : g.mem.length = 65536) (hk : kept.length = 65536) (hm : ∀ k, k < 256 ∨ 512 ≤ k → g.mem[k]? = ((((kept.set 32 ((W % 256 : Nat) : Int)).set 33 ((W / 256 : Nat) : Int)).set 34 (((v + Tk) % 256 : Nat) : Int)).set 35 (((w :: lives).getLast (by simp) : Nat) : Int))[k]?) :
    w_law_23 C ⟨locF F u108 u113 shut line taken ((118, u9) :: (131, u10) :: (119, .ref 8) :: (133, .ref 9) :: tl), hpM ⟨o0, o1, o2, .list X, o5, o6, o7, o9⟩ j g⟩ QQ := by
  have htl2 : getN 120 tl = some (I whole) := htl
  subst eX hW hT
  show (match getN 120 tl with | some v => _ | none => False)
  rw [htl2]
  refine And.intro (by decide) ?_
  show (match getN 120 tl with | some v => _ | none => False)
  rw [htl2]
  refine And.intro (And.intro (by decide) (no_pylong (by decide))) ?_
  refine And.intro (by decide) (Exists.intro _ (Exists.intro _ (And.intro rfl (And.intro (il_at (k := 34) hv) ?_))))
  refine And.intro (by decide) ?_
  refine And.intro (szL rfl) ?_
  refine And.intro (setO (k := 32) hk (by decide)) ?_
  refine And.intro (by rw [List.length_set]; exact setO (k := 33) hk (by decide)) ?_
  refine And.intro (by rw [List.length_set, List.length_set]; exact setO (k := 34) hk (by decide)) ?_
  refine s24 (w := w) (kept := (((kept.set 32 ((W % 256 : Nat) : Int)).set 33 ((W / 256 : Nat) : Int)).set 34 (((v + Tk) % 256 : Nat) : Int))) h7 h9 he h1 hlv ?_ ?_ hg ?_ ?_ ?_
  · rw [List.getElem?_set_ne (by decide), List.getElem?_set_ne (by decide), List.getElem?_set_ne (by decide)]; exact hw
  · exact msetE (k := 34) (msetE (k := 33) (msetE (k := 32) rfl rfl (fmodN W 256)) rfl (fdivN W 256)) rfl ((congrArg (Int.fmod · 256) (by omega : (v : Int) + (Tk : Int) = ((v + Tk : Nat) : Int))).trans (fmodN _ _))
  · rw [List.length_set, List.length_set, List.length_set]; exact hk
  · refine List.ext_getElem? fun k => ?_
    rw [List.getElem?_take, List.getElem?_take]
    split
    · rename_i h; exact hm k (.inl h)
    · rfl
  · refine List.ext_getElem? fun k => ?_
    rw [List.getElem?_drop, List.getElem?_drop]
    exact hm _ (.inr (Nat.le_add_right _ _))
theorem s22 {told lives : List Nat} {w v B G O Tk : Nat} (h7 : o7 = .list (il (nl told))) (h9 : o9 = .list (il (nl told))) (he : [((g.pc : Nat) : Int), ((g.sp : Nat) : Int), Int.fmod (Int.fdiv g.p 4) 4] = [F.en, 255, shut])
    (h1 : o1 = .list (il (nl lives))) (hlv : lives.length < 100) (hv : kept[34]? = some ((v : Nat) : Int)) (hw : kept[35]? = some ((w : Nat) : Int)) (hB : F.begun = (B : Int)) (hG : F.sums = (G : Int)) (hO : F.own = (O : Int)) (hO' : O < 256) (hT : taken = (Tk : Int))
    (htl : tl = [] ∨ ∃ u, tl = [(137, u)])
    (eX : X = il kept) (hg : g.mem.length = 65536) (hk : kept.length = 65536) (hm : ∀ k, k < 256 ∨ 512 ≤ k → g.mem[k]? = ((((kept.set 32 (((B + G + O * Tk) % 65536 % 256 : Nat) : Int)).set 33 (((B + G + O * Tk) % 65536 / 256 : Nat) : Int)).set 34 (((v + Tk) % 256 : Nat) : Int)).set 35 (((w :: lives).getLast (by simp) : Nat) : Int))[k]?) :
    w_law_22 C ⟨locF F u108 u113 shut line taken ((118, u9) :: (131, u10) :: (119, .ref 8) :: (133, .ref 9) :: tl), hpM ⟨o0, o1, o2, .list X, o5, o6, o7, o9⟩ j g⟩ QQ := by
  have hW : Int.fmod (F.begun + F.sums + F.own * taken) 65536 = (((B + G + O * Tk) % 65536 : Nat) : Int) := by
    rw [hB, hG, hO, hT]
    have : (B : Int) + (G : Int) + (O : Int) * (Tk : Int) = ((B + G + O * Tk : Nat) : Int) := by rw [Int.natCast_add, Int.natCast_add, Int.natCast_mul]
    rw [this]; exact fmodN _ _
  have hmul : IntMulOk F.own taken := by
    refine mul_l ?_
    rw [hO]
    have := intBits_le (i := (O : Int)) (by omega) (by omega)
    unfold Builtin.Int.intBits at *
    split
    · decide
    · rename_i q
      have q : (O : Int) ≠ 0 := by simpa using q
      have : ((O : Int)).natAbs.log2 < 16 := (Nat.log2_lt (by omega)).mpr (by omega)
      omega
  rcases htl with rfl | ⟨u, rfl⟩
  · refine And.intro hmul ?_
    refine And.intro (by decide) ?_
    exact s23 h7 h9 he h1 hlv hv hw hW hT rfl eX hg hk hm
  · refine And.intro hmul ?_
    refine And.intro (by decide) ?_
    exact s23 h7 h9 he h1 hlv hv hw hW hT rfl eX hg hk hm
end
end VE
namespace VE
open M6
/-- The plain walk: the line, the calls taken, where. -/
noncomputable def lnA (rs : List Int) (k l : Nat) : Nat := cond (rs.any (· == (k : Int))) 1 l
noncomputable def tkS (sh k l t : Nat) (told : List Nat) : Nat × Nat × List Nat := if l = 1 ∧ sh = 0 then (0, t + 1, told ++ [k]) else (l, t, told)
noncomputable def tk (rs : List Int) (ms : List Mic) : Nat → Nat × Nat × List Nat
  | 0 => (0, 0, [])
  | k + 1 => tkS (shOf (ms.take k) (0, [])).1 k (lnA rs k (tk rs ms k).1) (tk rs ms k).2.1 (tk rs ms k).2.2
theorem tk_le (rs : List Int) (ms : List Mic) : ∀ k, (tk rs ms k).2.2.length ≤ k
  | 0 => Nat.le_refl _
  | k + 1 => by
    have := tk_le rs ms k
    show (tkS _ k _ _ _).2.2.length ≤ _
    unfold tkS
    split
    · rw [List.length_append]; exact Nat.succ_le_succ this
    · exact Nat.le_succ_of_le this
noncomputable abbrev KQ (Q : Fl → VS → Prop) (R : VS → Prop) : Fl → VS → Prop := flW (fun _ => True) Q R
theorem nl_snoc (l : List Nat) (k : Nat) : il (nl l) ++ [.int (k : Int)] = il (nl (l ++ [k])) := by
  unfold il nl; rw [List.map_append, List.map_append]; rfl
section
variable {F : Fx} {u108 u113 u10 : VV} {shut taken : Int} {tl : List (Nat × VV)} {o0 o1 o2 o4 o6 o7 : VO} {rs : List Int} {j : Jk} {g g1 g2 : Rg} {R : VS → Prop} {K Q : Fl → VS → Prop}
noncomputable abbrev locG (F : Fx) (u108 u113 u9 u10 : VV) (shut line taken : Int) (tl : List (Nat × VV)) : List (Nat × VV) := locF F u108 u113 shut line taken ((118, u9) :: (131, u10) :: (119, .ref 8) :: (133, .ref 9) :: tl)
/-- The last statement of the loop: a step. -/
theorem s21_2 {ln : Int} {u9 : VV} {o9 : VO} (st : Stp T7L g g2) (h : ∀ j', R ⟨locG F u108 u113 u9 u10 shut ln taken tl, hpM ⟨o0, o1, o2, o4, .list (il rs), o6, o7, o9⟩ j' g2⟩) :
    b21_2 (callsOf T7L 40) ⟨locG F u108 u113 u9 u10 shut ln taken tl, hpM ⟨o0, o1, o2, o4, .list (il rs), o6, o7, o9⟩ j g⟩ (KQ Q R) := by
  refine st.run _ j _ fun j' => ?_
  exact And.intro trivial (h j')
/-- The handler's eleven steps, and the look behind. -/
theorem s_e21_2 {ln : Int} {u9 : VV} {o9 : VO} {pc sp : Nat} (hd : F.hd.length = 11) (run : Run 11 g1 g2) (e1 : g2.pc = pc) (e2 : g2.sp = sp) (h : ∀ u j', K .next ⟨locG F u (I (pc : Int)) u9 u10 shut ln taken [(137, I (sp : Int))], hpM ⟨o0, o1, o2, o4, .list (il rs), o6, o7, o9⟩ j' g2⟩) :
    e21_2 (callsOf T7L 40) ⟨locG F u108 (I (pc : Int)) u9 u10 shut ln taken [(137, I (sp : Int))], hpM ⟨o0, o1, o2, o4, .list (il rs), o6, o7, o9⟩ j g1⟩ K := by
  refine Exists.intro F.hd (And.intro rfl (And.intro (by rw [hd]; decide) ?_))
  rw [hd]
  refine And.intro (rng_ok (n := 11) (by decide)) ?_
  refine forW_ind (fun i τ => ∃ u j g, Run (11 - i) g g2 ∧ τ = ⟨locG F u (I (pc : Int)) u9 u10 shut ln taken [(137, I (sp : Int))], hpM ⟨o0, o1, o2, o4, .list (il rs), o6, o7, o9⟩ j g⟩) ⟨u108, j, g1, run, rfl⟩ ?_ ?_
  · rintro i v τ R2 hv ⟨u, j, g, r, rfl⟩ k
    obtain ⟨hi, rfl⟩ := range_at (n := 11) hv
    rw [show 11 - i = (11 - (i + 1)) + 1 by omega] at r
    cases r with
    | cons st r =>
      refine st.run _ j _ fun j' => ?_
      exact And.intro trivial (k _ ⟨_, j', _, r, rfl⟩)
  · rintro τ ⟨u, j, g, r, rfl⟩
    have r : Run 0 g g2 := r
    cases r
    refine And.intro (szL rfl) ?_
    refine And.intro (szL rfl) ?_
    refine Exists.intro [(g2.pc : Int), (g2.sp : Int)] (Exists.intro [(pc : Int), (sp : Int)] (And.intro rfl (And.intro rfl (And.intro rfl ?_))))
    refine brF (by rw [e1, e2, beq_self_eq_true]; rfl) ?_
    exact h u j
theorem s_e21 {ln : Int} {pc sp n : Nat} {seen : List Nat} (hd : F.hd.length = 11) (hs : seen.length < 1000) (run : Run 11 g1 g2) (e1 : g2.pc = pc) (e2 : g2.sp = sp) (h : ∀ u j', K .next ⟨locG F u (I (pc : Int)) (I (n : Int)) u10 shut 0 taken [(137, I (sp : Int))], hpM ⟨o0, o1, o2, o4, .list (il rs), o6, o7, .list (il (nl (seen ++ [n])))⟩ j' g2⟩) :
    e21_0 (callsOf T7L 40) ⟨locG F u108 (I (pc : Int)) (I (n : Int)) u10 shut ln taken [(137, I (sp : Int))], hpM ⟨o0, o1, o2, o4, .list (il rs), o6, o7, .list (il (nl seen))⟩ j g1⟩ K := by
  rw [← nl_snoc] at h
  refine And.intro ?_ ?_
  · rw [il_len, nl_len]; have : sizeLine = 2 ^ 24 := rfl; omega
  exact s_e21_2 hd run e1 e2 h
theorem s21_1 {pl : List Int} {ms : List Mic} {B O v0 w0 k l t : Nat} {m : Mic} {seen : List Nat} {ln : Int} (hl : ln = (l : Int)) (htl : tl = [] ∨ ∃ u, tl = [(137, u)]) (hd : F.hd.length = 11) (hs : seen.length < 1000)
    (P : Plain7 O (octsOf ms) pl) (w : WF ms (0, [])) (hO : O < 256) (h3 : offOf ms < 1000) (hk : ms[k]? = some m) (M : MI ms pl B O v0 w0 k t g)
    (h : ∀ u108 u113 tl j g, (tl = [] ∨ ∃ u, tl = [(137, u)]) → MI ms pl B O v0 w0 (k + 1) (tkS (shOf (ms.take k) (0, [])).1 k l t seen).2.1 g → R ⟨locG F u108 u113 (I (k : Int)) u10 shut ((tkS (shOf (ms.take k) (0, [])).1 k l t seen).1 : Int) taken tl, hpM ⟨o0, o1, o2, o4, .list (il rs), o6, o7, .list (il (nl (tkS (shOf (ms.take k) (0, [])).1 k l t seen).2.2))⟩ j g⟩) :
    b21_1 (callsOf T7L 40) ⟨locG F u108 u113 (I (k : Int)) u10 shut ln taken tl, hpM ⟨o0, o1, o2, o4, .list (il rs), o6, o7, .list (il (nl seen))⟩ j g⟩ (KQ Q R) := by
  unfold b21_1
  subst hl
  unfold tkS at h
  by_cases hl : l = 1
  · subst hl
    rcases htl with rfl | ⟨u, rfl⟩
    all_goals
      refine And.intro (szL rfl) ?_
      by_cases h0 : (shOf (ms.take k) (0, [])).1 = 0
      · rw [if_pos ⟨rfl, h0⟩] at h
        obtain ⟨g1, g2, i1, i2, i3, i4, i5, i6⟩ := M.irq1 P w hO h3 hk h0
        obtain ⟨g3, st, M3⟩ := i4.step P w h3 hk
        refine i1.run _ j _ fun j1 => ?_
        refine brT (by show (!((g1.sp : Int) == (g.sp : Int))) = true; rw [Bool.not_eq_true']; exact beq_false_of_ne (fun e => i2 (Int.ofNat_inj.mp e))) ?_
        refine s_e21 (n := k) hd hs i3 i5 i6 fun u j2 => ?_
        exact s21_2 st fun j3 => h _ _ _ j3 g3 (.inr ⟨_, rfl⟩) M3
      · rw [if_neg (fun e => h0 e.2)] at h
        obtain ⟨g3, st, M3⟩ := M.step P w h3 hk
        refine (M.irq0 h0).run _ j _ fun j1 => ?_
        refine brF (by show (!((g.sp : Int) == (g.sp : Int))) = false; rw [beq_self_eq_true]; rfl) ?_
        exact s21_2 st fun j3 => h _ _ _ j3 g3 (.inr ⟨_, rfl⟩) M3
  · rw [if_neg (fun e => hl e.1)] at h
    obtain ⟨g3, st, M3⟩ := M.step P w h3 hk
    refine brF (beq_false_of_ne (by omega)) ?_
    exact s21_2 st fun j3 => h _ _ _ j3 g3 htl M3
end
end VE
namespace VE
open M6
theorem lnA0 {rs : List Int} {k l : Nat} (h : rs.any (· == (k : Int)) = false) : lnA rs k l = l := by unfold lnA; rw [h]; rfl
theorem lnA1 {rs : List Int} {k l : Nat} (h : rs.any (· == (k : Int)) = true) : lnA rs k l = 1 := by unfold lnA; rw [h]; rfl
theorem take_all (ms : List Mic) : ms.take ms.length = ms := List.take_length ..
theorem mem_end {pl mem : List Int} {v32 v33 v34 v35 : Nat} (h : pl.length = 65536) (M : Mem7 v32 v33 v34 v35 pl mem) : ∀ k, k < 256 ∨ 512 ≤ k → mem[k]? = ((((pl.set 32 (v32 : Int)).set 33 (v33 : Int)).set 34 (v34 : Int)).set 35 (v35 : Int))[k]? := fun k hk => by
  rw [M.at_ k hk]
  unfold want7
  by_cases h2 : k = 32
  · rw [if_pos h2, h2, List.getElem?_set_ne (by decide), List.getElem?_set_ne (by decide), List.getElem?_set_ne (by decide), List.getElem?_set_self (by omega)]
  rw [if_neg h2]
  by_cases h3 : k = 33
  · rw [if_pos h3, h3, List.getElem?_set_ne (by decide), List.getElem?_set_ne (by decide), List.getElem?_set_self (by rw [List.length_set]; omega)]
  rw [if_neg h3]
  by_cases h4 : k = 34
  · rw [if_pos h4, h4, List.getElem?_set_ne (by decide), List.getElem?_set_self (by rw [List.length_set, List.length_set]; omega)]
  rw [if_neg h4]
  by_cases h5 : k = 35
  · rw [if_pos h5, h5, List.getElem?_set_self (by rw [List.length_set, List.length_set, List.length_set]; omega)]
  rw [if_neg h5, List.getElem?_set_ne (Ne.symm h5), List.getElem?_set_ne (Ne.symm h4), List.getElem?_set_ne (Ne.symm h3), List.getElem?_set_ne (Ne.symm h2)]
section
variable {F : Fx} {u108 u113 u9 u10 : VV} {shut taken line : Int} {o1 o2 o6 o7 : VO} {rs : List Int} {j : Jk} {g : Rg} {pl : List Int} {ms : List Mic} {B O v0 w0 : Nat} {lives : List Nat} {X : List PV}
/-- What the law knows when the machine is to run. -/
structure Kn (F : Fx) (shut taken : Int) (o1 o7 : VO) (rs pl : List Int) (ms : List Mic) (B O v0 w0 : Nat) (lives : List Nat) (X : List PV) : Prop where
  hd : F.hd.length = 11
  P : Plain7 O (octsOf ms) pl
  w : WF ms (0, [])
  hO : O < 256
  h3 : offOf ms < 1000
  hsh : shOf ms (0, []) = (0, [])
  hlen : ms.length < 1000
  h1 : o1 = .list (il (nl lives))
  hlv : lives.length < 100
  h7 : o7 = .list (il (nl (tk rs ms ms.length).2.2))
  hT : taken = ((tk rs ms ms.length).2.1 : Int)
  en : F.en = ((512 + offOf ms : Nat) : Int)
  sh0 : shut = 0
  hB : F.begun = (B : Int)
  hG : F.sums = (gainOf ms : Int)
  hO' : F.own = (O : Int)
  hv : pl[34]? = some (v0 : Int)
  hw : pl[35]? = some (w0 : Int)
  h35 : v35Of ms w0 = (w0 :: lives).getLast (by simp)
  eX : X = il pl
theorem s21 (k : Kn F shut taken o1 o7 rs pl ms B O v0 w0 lives X) (M0 : MI ms pl B O v0 w0 0 0 g) :
    w_law_21 (callsOf T7L 40) ⟨locG F u108 u113 u9 u10 shut 0 taken [], hpM ⟨.list (stp ms), o1, o2, .list X, .list (il rs), o6, o7, .list []⟩ j g⟩ QQ := by
  have hl := k.hlen
  rw [w21_eq]
  refine Exists.intro (stp ms) (And.intro rfl (And.intro (by rw [stp_len]; exact smallN (by omega)) ?_))
  rw [stp_len]
  refine And.intro (rng_ok (by omega)) ?_
  refine forW_ind (fun i τ => ∃ u108 u113 u9 tl j g, (tl = [] ∨ ∃ u, tl = [(137, u)]) ∧ MI ms pl B O v0 w0 i (tk rs ms i).2.1 g ∧ τ = ⟨locG F u108 u113 u9 u10 shut ((tk rs ms i).1 : Int) taken tl, hpM ⟨.list (stp ms), o1, o2, .list X, .list (il rs), o6, o7, .list (il (nl (tk rs ms i).2.2))⟩ j g⟩) ⟨u108, u113, u9, [], j, g, .inl rfl, M0, rfl⟩ ?_ ?_
  · rintro i v τ R hv ⟨u108, u113, u9, tl, j, g, htl, M, rfl⟩ hR
    obtain ⟨hi, rfl⟩ := range_at hv
    have hm : ms[i]? = some ms[i] := List.getElem?_eq_getElem hi
    have hs : (tk rs ms i).2.2.length < 1000 := by have := tk_le rs ms i; omega
    have e : tk rs ms (i + 1) = tkS (shOf (ms.take i) (0, [])).1 i (lnA rs i (tk rs ms i).1) (tk rs ms i).2.1 (tk rs ms i).2.2 := rfl
    rw [e] at hR
    refine Exists.intro rs (And.intro rfl ?_)
    rcases Bool.eq_false_or_eq_true (rs.any (· == (i : Int))) with hb | hb
    · refine brT hb ?_
      exact s21_1 (l := lnA rs i (tk rs ms i).1) (t := (tk rs ms i).2.1) (by rw [lnA1 hb]; rfl) htl k.hd hs k.P k.w k.hO k.h3 hm M fun u108 u113 tl j g h M2 => hR _ ⟨u108, u113, I (i : Int), tl, j, g, h, M2, rfl⟩
    · refine brF hb ?_
      exact s21_1 (l := lnA rs i (tk rs ms i).1) (t := (tk rs ms i).2.1) (congrArg Int.ofNat (lnA0 hb).symm) htl k.hd hs k.P k.w k.hO k.h3 hm M fun u108 u113 tl j g h M2 => hR _ ⟨u108, u113, I (i : Int), tl, j, g, h, M2, rfl⟩
  · rintro τ ⟨u108, u113, u9, tl, j, g, htl, M, rfl⟩
    rw [range_len] at M ⊢
    obtain ⟨e1, e2, ⟨p, e3, e4⟩, v32, v33, e5, e6, Me⟩ := M.end_ k.hsh
    refine s22 (told := (tk rs ms ms.length).2.2) (kept := pl) (O := O) k.h7 rfl ?_ k.h1 k.hlv k.hv k.hw k.hB k.hG k.hO' k.hO k.hT htl k.eX Me.len k.P.len ?_
    · rw [e1, e2, e3, k.en, k.sh0]
      have : Int.fmod (Int.fdiv (p : Int) 4) 4 = ((p / 4 % 4 : Nat) : Int) := (congrArg (Int.fmod · 4) (fdivN p 4)).trans (fmodN (p / 4) 4)
      rw [this, e4]; rfl
    · subst e5 e6
      rw [k.h35] at Me
      exact mem_end k.P.len Me
end
end VE
namespace VE
open M6
section
variable {F : Fx} {u108 u113 u9 u10 : VV} {shut taken line : Int} {o1 o2 o6 o7 : VO} {rs : List Int} {j : Jk} {g : Rg} {pl : List Int} {ms : List Mic} {B O v0 w0 : Nat} {lives : List Nat} {X : List PV}
theorem s20 (k : Kn F shut taken o1 o7 rs pl ms B O v0 w0 lives X) (M0 : MI ms pl B O v0 w0 0 0 ⟨512, 255, 0, 0, 0, 48, pl⟩) :
    w_law_20 (callsOf T7L 40) ⟨locF F u108 u113 shut line taken [(118, u9), (131, u10), (119, .ref 8)], [.list (stp ms), o1, o2, .list (il pl), .list X, .list (il rs), o6, o7, .inst (fsR j 512 255 0 0 0 48)]⟩ QQ := by
  unfold w_law_20
  refine And.intro (by decide) ?_
  exact s21 k M0
theorem reset_c {d : Nat} {o0 o1 o2 o3 o4 o5 o6 o7 : VO} {Q : Rs → List VO → Prop} (h : Q (.val (.p .none)) [o0, o1, o2, o3, o4, o5, o6, o7, .inst (fsR ⟨0, .p (.bool false), 0, 512⟩ 512 255 0 0 0 48)]) :
    callsOf T7 (d + 1) 50 [.ref 8] [o0, o1, o2, o3, o4, o5, o6, o7, .inst [(1, .p .any), (2, I 255), (3, I 65535), (4, I 65280), (5, I 256), (6, I 0), (7, .p (.bool false)), (8, I 0), (9, .ref 3), (10, I 512)]] Q := by
  refine callI rfl ?_
  refine Or.inl (And.intro rfl ?_)
  exact h
theorem s19 (k : Kn F shut taken o1 o7 rs pl ms B O v0 w0 lives X) (M0 : MI ms pl B O v0 w0 0 0 ⟨512, 255, 0, 0, 0, 48, pl⟩) :
    w_law_19 (callsOf T7L 40) ⟨locF F u108 u113 shut line taken [(118, u9), (131, u10)], [.list (stp ms), o1, o2, .list (il pl), .list X, .list (il rs), o6, o7]⟩ QQ := by
  unfold w_law_19
  refine And.intro (by decide) ?_
  refine And.intro (by decide) ?_
  refine And.intro (by decide) ?_
  refine And.intro (by decide) ?_
  refine reset_c ?_
  refine Or.inl (And.intro rfl ?_)
  exact s20 (j := ⟨0, .p (.bool false), 0, 512⟩) k M0
end
end VE
namespace VE
open M6
/-- A step's first octet. -/
noncomputable def Mic.code : Mic → Int
  | .sei => 120
  | .cli => 88
  | .php => 8
  | .plp => 40
  | .sum 0 _ => 24
  | .sum 1 _ => 165
  | .sum 2 _ => 105
  | .sum 3 _ => 133
  | .sum 4 _ => 165
  | .sum 5 _ => 105
  | .sum _ _ => 133
  | .live 0 _ => 169
  | .live 1 _ => 56
  | .live 2 _ => 42
  | .live _ _ => 133
theorem mcode_at (m : Mic) : m.oct[0]? = some m.code := by
  cases m with
  | sum s p => match s with
    | 0 | 1 | 2 | 3 | 4 | 5 | _ + 6 => rfl
  | live s p => match s with
    | 0 | 1 | 2 | _ + 3 => rfl
  | _ => rfl
/-- A step that leaves the mask alone. -/
noncomputable def idle (m : Mic) : Prop := (m.code ≠ 8 ∧ m.code ≠ 40 ∧ m.code ≠ 88 ∧ m.code ≠ 120) ∧ ∀ sh, m.shut sh = sh
theorem idle_sum (s p : Nat) : idle (.sum s p) := by
  refine ⟨?_, fun _ => rfl⟩
  match s with
  | 0 => exact (by decide : (24 : Int) ≠ 8 ∧ (24 : Int) ≠ 40 ∧ (24 : Int) ≠ 88 ∧ (24 : Int) ≠ 120)
  | 1 => exact (by decide : (165 : Int) ≠ 8 ∧ (165 : Int) ≠ 40 ∧ (165 : Int) ≠ 88 ∧ (165 : Int) ≠ 120)
  | 2 => exact (by decide : (105 : Int) ≠ 8 ∧ (105 : Int) ≠ 40 ∧ (105 : Int) ≠ 88 ∧ (105 : Int) ≠ 120)
  | 3 => exact (by decide : (133 : Int) ≠ 8 ∧ (133 : Int) ≠ 40 ∧ (133 : Int) ≠ 88 ∧ (133 : Int) ≠ 120)
  | 4 => exact (by decide : (165 : Int) ≠ 8 ∧ (165 : Int) ≠ 40 ∧ (165 : Int) ≠ 88 ∧ (165 : Int) ≠ 120)
  | 5 => exact (by decide : (105 : Int) ≠ 8 ∧ (105 : Int) ≠ 40 ∧ (105 : Int) ≠ 88 ∧ (105 : Int) ≠ 120)
  | _ + 6 => exact (by decide : (133 : Int) ≠ 8 ∧ (133 : Int) ≠ 40 ∧ (133 : Int) ≠ 88 ∧ (133 : Int) ≠ 120)
theorem idle_live (s p : Nat) : idle (.live s p) := by
  refine ⟨?_, fun _ => rfl⟩
  match s with
  | 0 => exact (by decide : (169 : Int) ≠ 8 ∧ (169 : Int) ≠ 40 ∧ (169 : Int) ≠ 88 ∧ (169 : Int) ≠ 120)
  | 1 => exact (by decide : (56 : Int) ≠ 8 ∧ (56 : Int) ≠ 40 ∧ (56 : Int) ≠ 88 ∧ (56 : Int) ≠ 120)
  | 2 => exact (by decide : (42 : Int) ≠ 8 ∧ (42 : Int) ≠ 40 ∧ (42 : Int) ≠ 88 ∧ (42 : Int) ≠ 120)
  | _ + 3 => exact (by decide : (133 : Int) ≠ 8 ∧ (133 : Int) ≠ 40 ∧ (133 : Int) ≠ 88 ∧ (133 : Int) ≠ 120)
theorem lastD (l : List Int) (z : Int) : (l ++ [z]).getLastD 0 = z := by
  rw [List.getLastD_eq_getLast?, List.getLast?_concat]; rfl
theorem nl_rev (s : Nat) (l : List Nat) : nl (s :: l).reverse = nl l.reverse ++ [(s : Int)] := by
  unfold nl; rw [List.reverse_cons, List.map_append]; rfl
section
variable {C : Calls} {F : Fx} {u108 u113 u118 : VV} {line taken : Int} {o1 o2 o3 o4 o5 o7 : VO} {R : VS → Prop} {Q : Fl → VS → Prop} {ms : List Mic} {k : Nat} {m : Mic} {sh : Nat × List Nat}
noncomputable abbrev hp18 (ms : List Mic) (o1 o2 o3 o4 o5 o7 : VO) (sv : List Nat) : List VO := [.list (stp ms), o1, o2, o3, o4, o5, .list (il (nl sv.reverse)), o7]
theorem s18_3 (hl : sh.2.length ≤ 100) (ok : m.ok sh) (hR : ∀ c, R ⟨locF F u108 u113 ((m.shut sh).1 : Int) line taken [(118, u118), (131, c)], hp18 ms o1 o2 o3 o4 o5 o7 (m.shut sh).2⟩) :
    b18_3 C ⟨locF F u108 u113 (sh.1 : Int) line taken [(118, u118), (131, I m.code)], hp18 ms o1 o2 o3 o4 o5 o7 sh.2⟩ (KQ Q R) := by
  have lazy_ : idle m → b18_3 C ⟨locF F u108 u113 (sh.1 : Int) line taken [(118, u118), (131, I m.code)], hp18 ms o1 o2 o3 o4 o5 o7 sh.2⟩ (KQ Q R) := fun ⟨⟨h1, h2, h3, h4⟩, h5⟩ => by
    rw [h5] at hR
    unfold b18_3
    refine brF (beq_false_of_ne h1) ?_
    refine brF (beq_false_of_ne h2) ?_
    refine And.intro (szL rfl) ?_
    refine Exists.intro [88, 120] (And.intro rfl ?_)
    refine brF (b := [88, 120].any (· == m.code)) ?_ ?_
    · rw [List.any_cons, List.any_cons, List.any_nil, beq_false_of_ne (Ne.symm h3), beq_false_of_ne (Ne.symm h4)]; rfl
    exact And.intro trivial (hR _)
  obtain ⟨s, l⟩ := sh
  cases m with
  | sum a b => exact lazy_ (idle_sum a b)
  | live a b => exact lazy_ (idle_live a b)
  | sei =>
    clear lazy_
    unfold b18_3
    refine And.intro (szL rfl) ?_
    refine Exists.intro [88, 120] (And.intro rfl ?_)
    exact And.intro trivial (hR _)
  | cli =>
    clear lazy_
    unfold b18_3
    refine And.intro (szL rfl) ?_
    refine Exists.intro [88, 120] (And.intro rfl ?_)
    exact And.intro trivial (hR _)
  | php =>
    clear lazy_
    unfold b18_3
    have hR : ∀ c, R ⟨locF F u108 u113 (s : Int) line taken [(118, u118), (131, c)], [.list (stp ms), o1, o2, o3, o4, o5, .list (il (nl (s :: l).reverse)), o7]⟩ := hR
    rw [List.reverse_cons, ← nl_snoc] at hR
    refine And.intro ?_ ?_
    · rw [il_len, nl_len, List.length_reverse]; have : sizeLine = 2 ^ 24 := rfl; have : l.length ≤ 100 := hl; omega
    exact And.intro trivial (hR _)
  | plp =>
    clear lazy_
    unfold b18_3
    have ok : l ≠ [] := ok
    match l, ok, hl, hR with
    | t :: l, _, hl, hR =>
      have hl : l.length + 1 ≤ 100 := hl
      refine Exists.intro (nl l.reverse ++ [(t : Int)]) (And.intro ?_ (And.intro ?_ (And.intro ?_ ?_)))
      · rw [← nl_rev]
      · rw [List.length_append]; exact Nat.succ_pos _
      · rw [List.length_append, nl_len, List.length_reverse]; have : sizeLine = 2 ^ 24 := rfl; show l.length + 1 ≤ _; omega
      rw [lastD, List.dropLast_concat]
      exact And.intro trivial (hR _)
section
theorem s18_2 {tl : List (Nat × VV)} (htl : tl = [] ∨ ∃ u, tl = [(131, u)]) (hk : ms[k]? = some m) (hk' : k < 1000) (hl : sh.2.length ≤ 100) (ok : m.ok sh) (hR : ∀ c, R ⟨locF F u108 u113 ((m.shut sh).1 : Int) line taken [(118, I (k : Int)), (131, c)], hp18 ms o1 o2 o3 o4 o5 o7 (m.shut sh).2⟩) :
    b18_2 C ⟨locF F u108 u113 (sh.1 : Int) line taken ((118, I (k : Int)) :: tl), hp18 ms o1 o2 o3 o4 o5 o7 sh.2⟩ (KQ Q R) := by
  unfold b18_2
  rcases htl with rfl | ⟨u, rfl⟩
  all_goals
    refine And.intro (idxN (by omega)) (Exists.intro _ (Exists.intro _ (And.intro rfl (And.intro (stp_at hk) ?_))))
    refine And.intro (by decide) (Exists.intro _ (Exists.intro _ (And.intro rfl (And.intro (il_at (k := 0) (mcode_at m)) ?_))))
    exact s18_3 hl ok hR
end
section
theorem s18_1 {l t : Nat} {told : List Nat} {tl : List (Nat × VV)} {ln : Int} (hln : ln = (l : Int)) (htl : tl = [] ∨ ∃ u, tl = [(131, u)]) (hk : ms[k]? = some m) (hk' : k < 1000) (hl : sh.2.length ≤ 100) (ok : m.ok sh) (ht : told.length < 1000)
    (hR : ∀ c, R ⟨locF F u108 u113 ((m.shut sh).1 : Int) ((tkS sh.1 k l t told).1 : Int) ((tkS sh.1 k l t told).2.1 : Int) [(118, I (k : Int)), (131, c)], hp18 ms o1 o2 o3 o4 o5 (.list (il (nl (tkS sh.1 k l t told).2.2))) (m.shut sh).2⟩) :
    b18_1 C ⟨locF F u108 u113 (sh.1 : Int) ln (t : Int) ((118, I (k : Int)) :: tl), hp18 ms o1 o2 o3 o4 o5 (.list (il (nl told))) sh.2⟩ (KQ Q R) := by
  unfold b18_1
  subst hln
  unfold tkS at hR
  by_cases h1 : l = 1
  · subst h1
    by_cases h0 : sh.1 = 0
    · rw [if_pos ⟨rfl, h0⟩] at hR
      refine brT (by rw [h0]; rfl) ?_
      have hR : ∀ c, R ⟨locF F u108 u113 ((m.shut sh).1 : Int) 0 ((t : Int) + 1) [(118, I (k : Int)), (131, c)], hp18 ms o1 o2 o3 o4 o5 (.list (il (nl (told ++ [k])))) (m.shut sh).2⟩ := hR
      rw [← nl_snoc] at hR
      refine And.intro ?_ ?_
      · rw [il_len, nl_len]; have : sizeLine = 2 ^ 24 := rfl; omega
      exact s18_2 htl hk hk' hl ok hR
    · rw [if_neg (fun e => h0 e.2)] at hR
      refine brF (beq_false_of_ne (by omega)) ?_
      exact s18_2 htl hk hk' hl ok hR
  · rw [if_neg (fun e => h1 e.1)] at hR
    refine brF (beq_false_of_ne (by omega)) ?_
    exact s18_2 htl hk hk' hl ok hR
end
theorem sh_small {ms : List Mic} (w : WF ms (0, [])) : ∀ k, k ≤ ms.length → (shOf (ms.take k) (0, [])).2.length ≤ 1
  | 0, _ => Nat.zero_le _
  | k + 1, h => by
    have hm : ms[k]? = some ms[k] := List.getElem?_eq_getElem h
    have ih := sh_small w k (Nat.le_of_succ_le h)
    have ok := (w.at hm).1
    rw [sh_at hm]
    generalize shOf (ms.take k) (0, []) = sh at ih ok ⊢
    obtain ⟨s, l⟩ := sh
    cases hmm : ms[k] with
    | php => rw [hmm] at ok; have ok : l = [] := ok; subst ok; exact Nat.le_refl _
    | plp =>
      match l, ih with
      | [], _ => exact Nat.zero_le _
      | _ :: l, ih => exact Nat.le_of_succ_le ih
    | _ => exact ih
end
section
theorem s18 {F : Fx} {u108 u113 : VV} {o1 o2 : VO} {rs pl : List Int} {ms : List Mic} {B O v0 w0 : Nat} {lives : List Nat} {X : List PV} (k : ∀ o7, o7 = .list (il (nl (tk rs ms ms.length).2.2)) → Kn F 0 ((tk rs ms ms.length).2.1 : Int) o1 o7 rs pl ms B O v0 w0 lives X) (M0 : MI ms pl B O v0 w0 0 0 ⟨512, 255, 0, 0, 0, 48, pl⟩) (hne : 0 < ms.length) :
    w_law_18 (callsOf T7L 40) ⟨locF F u108 u113 0 0 0 [], [.list (stp ms), o1, o2, .list (il pl), .list X, .list (il rs), .list [], .list []]⟩ QQ := by
  have K := k _ rfl
  have hl := K.hlen
  have w := K.w
  rw [w18_eq]
  refine Exists.intro (stp ms) (And.intro rfl (And.intro (by rw [stp_len]; exact smallN (by omega)) ?_))
  rw [stp_len]
  refine And.intro (rng_ok (by omega)) ?_
  refine forW_ind (fun i τ => ∃ tl, (tl = [] ∧ i = 0 ∨ ∃ a b, tl = [(118, a), (131, b)]) ∧ τ = ⟨locF F u108 u113 ((shOf (ms.take i) (0, [])).1 : Int) ((tk rs ms i).1 : Int) ((tk rs ms i).2.1 : Int) tl, hp18 ms o1 o2 (.list (il pl)) (.list X) (.list (il rs)) (.list (il (nl (tk rs ms i).2.2))) (shOf (ms.take i) (0, [])).2⟩) ⟨[], .inl ⟨rfl, rfl⟩, rfl⟩ ?_ ?_
  · rintro i v τ R hv ⟨tl, htl, rfl⟩ hR
    obtain ⟨hi, rfl⟩ := range_at hv
    have hm : ms[i]? = some ms[i] := List.getElem?_eq_getElem hi
    have hs : (tk rs ms i).2.2.length < 1000 := by have := tk_le rs ms i; omega
    have e : tk rs ms (i + 1) = tkS (shOf (ms.take i) (0, [])).1 i (lnA rs i (tk rs ms i).1) (tk rs ms i).2.1 (tk rs ms i).2.2 := rfl
    rw [e, sh_at hm] at hR
    have h1 := Nat.le_trans (sh_small w i (by omega)) (by decide : 1 ≤ 100)
    have ok := (w.at hm).1
    rcases htl with ⟨rfl, -⟩ | ⟨a, b, rfl⟩
    all_goals
      refine Exists.intro rs (And.intro rfl ?_)
      rcases Bool.eq_false_or_eq_true (rs.any (· == (i : Int))) with hb | hb
      · refine brT hb ?_
        exact s18_1 (l := lnA rs i (tk rs ms i).1) (t := (tk rs ms i).2.1) (by rw [lnA1 hb]; rfl) (by first | exact .inl rfl | exact .inr ⟨_, rfl⟩) hm (by omega) h1 ok hs fun c => hR _ ⟨_, .inr ⟨_, c, rfl⟩, rfl⟩
      · refine brF hb ?_
        exact s18_1 (l := lnA rs i (tk rs ms i).1) (t := (tk rs ms i).2.1) (congrArg Int.ofNat (lnA0 hb).symm) (by first | exact .inl rfl | exact .inr ⟨_, rfl⟩) hm (by omega) h1 ok hs fun c => hR _ ⟨_, .inr ⟨_, c, rfl⟩, rfl⟩
  · rintro τ ⟨tl, htl, rfl⟩
    rw [range_len] at htl ⊢
    rw [take_all, K.hsh]
    rcases htl with ⟨-, h0⟩ | ⟨a, b, rfl⟩
    · omega
    · exact s19 K M0
end
end VE
namespace VE
open M6
theorem ints_of : ∀ {l : List PV}, (∀ v ∈ l, ∃ i, v = .int i) → ∃ rs, l = il rs
  | [], _ => ⟨[], rfl⟩
  | v :: l, h => by
    obtain ⟨i, rfl⟩ := h v (List.mem_cons_self ..)
    obtain ⟨rs, rfl⟩ := ints_of (l := l) fun v hv => h v (List.mem_cons_of_mem _ hv)
    exact ⟨i :: rs, rfl⟩
theorem seed_eq {S : List Nat} (t : Nat) : Int.fmod (t : Int) ((il (nl S)).length : Int) = ((t % S.length : Nat) : Int) := by
  rw [il_len, nl_len]; exact fmodN _ _
theorem seed_ix {S : List Nat} (h : S ≠ []) (hs : S.length < 1000) (t : Nat) : idxOk (Int.fmod (t : Int) ((il (nl S)).length : Int)) := by
  rw [seed_eq]
  have : t % S.length < S.length := Nat.mod_lt _ (List.length_pos_iff.mpr h)
  exact idxN (by omega)
theorem seed_at {S : List Nat} (h : S ≠ []) (t : Nat) : pick (il (nl S)) (Int.fmod (t : Int) ((il (nl S)).length : Int)) = some (.int ((sd S t : Nat) : Int)) := by
  rw [seed_eq]
  exact il_at (nl_at (sd_at h t))
theorem seed_len {S : List Nat} (h : S.length < 1000) : ((il (nl S)).length : Int) < 2 ^ 63 := by
  rw [il_len, nl_len]; exact smallN (by omega)
theorem seed_ne {S : List Nat} (h : S ≠ []) : ((il (nl S)).length : Int) ≠ 0 := by
  rw [il_len, nl_len]
  have := List.length_pos_iff.mpr h
  omega
theorem range_mem {h : Int} {v : PV} (hv : v ∈ rangeL 0 h) : ∃ n : Nat, v = .int (n : Int) := by
  unfold rangeL at hv
  obtain ⟨n, _, rfl⟩ := List.mem_map.mp hv
  exact ⟨n, by rw [Int.zero_add]⟩
theorem mul13 {i : Int} : IntMulOk 13 i := mul_l (by decide)
section
variable {C : Calls} {F : Fx} {u108 u113 : VV} {o1 o2 : VO} {rs pl : List Int} {ms : List Mic} {B O v0 w0 : Nat} {lives : List Nat} {X : List PV}
noncomputable abbrev locE (F : Fx) (u108 u113 : VV) (tl : List (Nat × VV)) : List (Nat × VV) :=
  (103, .p (.raw F.s)) :: (105, .p (.lst F.S)) :: (106, I F.own) :: (107, I F.begun) :: (111, .ref 0) :: (121, I F.sums) :: (122, .ref 1) :: (108, u108) :: (124, F.u124) :: (101, F.u101) :: (134, F.u134) :: (109, .ref 2) :: (110, F.u110) :: (112, I F.en) :: (9, .ref 3) :: (113, u113) :: (114, .p (.lst F.hd)) :: (115, F.u115) :: (125, F.u125) :: tl
/-- What the law knows ahead of the plain walk. -/
structure Ko (F : Fx) (S : List Nat) (o1 : VO) (pl : List Int) (ms : List Mic) (B O v0 w0 : Nat) (lives : List Nat) : Prop where
  hS : F.S = il (nl S)
  S0 : S ≠ []
  S1 : S.length < 1000
  hs : F.s.length ≤ 63
  hne : 0 < ms.length
  kn : ∀ rs o7, o7 = .list (il (nl (tk rs ms ms.length).2.2)) → Kn F 0 ((tk rs ms ms.length).2.1 : Int) o1 o7 rs pl ms B O v0 w0 lives (il pl)
  M0 : MI ms pl B O v0 w0 0 0 ⟨512, 255, 0, 0, 0, 48, pl⟩
variable {S : List Nat}
section
theorem s17 (k : Ko F S o1 pl ms B O v0 w0 lives) (eX : X = il pl) : w_law_17 (callsOf T7L 40) ⟨locE F u108 u113 [(116, .ref 4), (117, .ref 5)], [.list (stp ms), o1, o2, .list (il pl), .list X, .list (il rs)]⟩ QQ := by
  unfold w_law_17
  subst eX
  refine And.intro (szL rfl) ?_
  refine And.intro (szL rfl) ?_
  exact s18 (k.kn rs) k.M0 k.hne
end
noncomputable def riseF (S : List Nat) (n : Int) (v : PV) : PV := match v with
  | .int i => .int (Int.fmod (Int.fdiv ((sd S i.toNat : Nat) : Int) 3 + 13 * i) n)
  | v => v
section
theorem s16 (k : Ko F S o1 pl ms B O v0 w0 lives) (eX : X = il pl) : w_law_16 (callsOf T7L 40) ⟨locE F u108 u113 [(116, .ref 4)], [.list (stp ms), o1, o2, .list (il pl), .list X]⟩ QQ := by
  unfold w_law_16
  have hs := k.hs
  have hl := (k.kn [] _ rfl).hlen
  obtain ⟨s, S', own, begun, sums, u124, u101, u134, u110, en, hd, u115, u125⟩ := F
  obtain rfl : S' = il (nl S) := k.hS
  have hz : sizeLine = 2 ^ 24 := rfl
  have hs : s.length ≤ 63 := hs
  have ht : (s.take (Int.toNat 4)).length ≤ 4 := by rw [List.length_take]; exact Nat.min_le_left _ _
  refine Exists.intro s (And.intro rfl (And.intro (by omega) (And.intro (by decide) ?_)))
  refine Exists.intro _ (And.intro rfl (And.intro (smallN (by omega)) ?_))
  refine And.intro ?_ ?_
  · unfold rngB
    have : (2 : Int) ^ 62 = 4611686018427387904 := by decide
    omega
  refine And.intro ?_ ?_
  · rw [rangeL_len]; omega
  refine compW_ind (riseF S ((stp ms).length : Int)) _ [] ?_ ?_
  · intro v hv R hR
    obtain ⟨t, rfl⟩ := range_mem hv
    refine Exists.intro _ (And.intro rfl (And.intro (seed_len k.S1) ?_))
    refine And.intro (seed_ne k.S0) ?_
    refine And.intro (seed_ix k.S0 k.S1 t) (Exists.intro _ (Exists.intro _ (And.intro rfl (And.intro (seed_at k.S0 t) ?_))))
    refine And.intro (And.intro (by decide) (no_pylong (by decide))) ?_
    refine And.intro mul13 ?_
    refine Exists.intro (stp ms) (And.intro rfl (And.intro (by rw [stp_len]; exact smallN (by omega)) ?_))
    refine And.intro (by rw [stp_len]; have := k.hne; omega) ?_
    exact And.intro rfl hR
  · have : ∀ v ∈ [] ++ List.map (riseF S ((stp ms).length : Int)) (rangeL 0 (3 + ((s.take (Int.toNat 4)).length : Int))), ∃ i, v = .int i := by
      intro v hv
      rw [List.nil_append] at hv
      obtain ⟨w, hw, rfl⟩ := List.mem_map.mp hv
      obtain ⟨n, rfl⟩ := range_mem hw
      exact ⟨_, rfl⟩
    obtain ⟨rs, e⟩ := ints_of this
    have h := s17 (F := ⟨s, il (nl S), own, begun, sums, u124, u101, u134, u110, en, hd, u115, u125⟩) (u108 := u108) (u113 := u113) (o2 := o2) (rs := rs) k eX
    rw [← e] at h
    exact h
end
section
theorem s15 {Y : List PV} (k : Ko F S o1 pl ms B O v0 w0 lives) (eY : Y = il pl) : w_law_15 (callsOf T7L 40) ⟨locE F u108 u113 [], [.list (stp ms), o1, o2, .list Y]⟩ QQ := by
  unfold w_law_15
  subst eY
  refine Exists.intro _ (And.intro rfl (And.intro (size_il (k.kn [] _ rfl).P.len) ?_))
  exact s16 k rfl
end
section
theorem s14 {Y : List PV} {M : List Int} (k : Ko F S o1 ((M.set 32 ((B % 256 : Nat) : Int)).set 33 ((B / 256 : Nat) : Int)) ms B O v0 w0 lives) (eB : F.begun = (B : Int)) (eY : Y = il M) (hM : M.length = 65536) : w_law_14 (callsOf T7L 40) ⟨locE F u108 u113 [], [.list (stp ms), o1, o2, .list Y]⟩ QQ := by
  unfold w_law_14
  subst eY
  obtain ⟨s, S', own, begun, sums, u124, u101, u134, u110, en, hd, u115, u125⟩ := F
  have eB : begun = (B : Int) := eB
  refine And.intro (by decide) ?_
  refine And.intro (And.intro (by decide) (no_pylong (by decide))) ?_
  refine And.intro (szL rfl) ?_
  refine And.intro (setO (k := 32) hM (by decide)) ?_
  refine And.intro (by rw [List.length_set]; exact setO (k := 33) hM (by decide)) ?_
  have e1 : Int.fmod begun 256 = ((B % 256 : Nat) : Int) := by rw [eB]; exact fmodN B 256
  have e2 : Int.fdiv begun 256 = ((B / 256 : Nat) : Int) := by rw [eB]; exact fdivN B 256
  exact s15 (F := ⟨s, S', own, begun, sums, u124, u101, u134, u110, en, hd, u115, u125⟩) k (msetE (k := 33) (msetE (k := 32) rfl rfl e1) rfl e2)
end
section
theorem s13 {M : List Int} (k : Ko F S o1 ((((M.set 65534 0).set 65535 192).set 32 ((B % 256 : Nat) : Int)).set 33 ((B / 256 : Nat) : Int)) ms B O v0 w0 lives) (eB : F.begun = (B : Int)) (hM : M.length = 65536) : w_law_13 (callsOf T7L 40) ⟨locE F u108 u113 [], [.list (stp ms), o1, o2, .list (il M)]⟩ QQ := by
  unfold w_law_13
  refine And.intro (szL rfl) ?_
  refine And.intro (setO (k := 65534) hM (by decide)) ?_
  refine And.intro (by rw [List.length_set]; exact setO (k := 65535) hM (by decide)) ?_
  exact s14 k eB (msetE (k := 65535) (msetE (k := 65534) rfl rfl rfl) rfl rfl) (by rw [List.length_set, List.length_set]; exact hM)
end
end
end VE
namespace VE
open M6
/-- A call of _law_sum. -/
theorem lsum_c {d P : Nat} {hp : List VO} {Q : Rs → List VO → Prop} (h : Q (.val (.p (.lst (stp (sumsM P))))) hp) : callsOf T7L (d + 1) 1439 [.p (.int (P : Int))] hp Q := by
  refine callI rfl ?_
  refine And.intro (szL rfl) ?_
  refine And.intro (szL rfl) ?_
  refine And.intro (szL rfl) ?_
  refine And.intro (szL rfl) ?_
  refine And.intro (szL rfl) ?_
  refine And.intro (szL rfl) ?_
  refine And.intro (szL rfl) ?_
  refine And.intro (szL rfl) ?_
  exact Or.inl (And.intro rfl h)
/-- The handler's steps. -/
noncomputable def hl7 (O : Nat) : List (List Int) := [[72]] ++ (sumsM O).map Mic.oct ++ [[230, 34], [104], [64]]
theorem hl7_flat (O : Nat) : (hl7 O).flatten = hcode7 O := rfl
theorem hl7_ne (O : Nat) : ∀ o ∈ hl7 O, o ≠ [] := by
  intro o ho
  have : o ∈ [[72], [24], [165, 32], [105, (O : Int)], [133, 32], [165, 33], [105, 0], [133, 33], [230, 34], [104], [64]] := ho
  simp only [List.mem_cons, List.not_mem_nil, or_false] at this
  rcases this with rfl | rfl | rfl | rfl | rfl | rfl | rfl | rfl | rfl | rfl | rfl <;> exact List.cons_ne_nil _ _
noncomputable abbrev locD (s S : List PV) (own begun sums : Int) (u108 u124 u101 u134 u110 : VV) (en : Int) (u113 : VV) (tl : List (Nat × VV)) : List (Nat × VV) :=
  (103, .p (.raw s)) :: (105, .p (.lst S)) :: (106, I own) :: (107, I begun) :: (111, .ref 0) :: (121, I sums) :: (122, .ref 1) :: (108, u108) :: (124, u124) :: (101, u101) :: (134, u134) :: (109, .ref 2) :: (110, u110) :: (112, I en) :: (9, .ref 3) :: (113, u113) :: tl
section
variable {C : Calls} {s S hd : List PV} {own begun sums en : Int} {u108 u124 u101 u134 u110 u113 : VV} {o0 o1 o2 : VO} {K Q : Fl → VS → Prop} {R : VS → Prop}
/-- One step of the handler is written. -/
theorem s12_in {o M : List Int} {a : Nat} {tl : List (Nat × VV)} (hM : M.length = 65536) (ha : a + o.length < 65536) (ho : o ≠ []) (htl : tl = [] ∨ ∃ u, tl = [(125, u)])
    (h : ∀ u, K .next ⟨locD s S own begun sums u108 u124 u101 u134 (.p (.lst (il o))) en u113 [(114, .p (.lst hd)), (115, I ((a + o.length : Nat) : Int)), (125, u)], [o0, o1, o2, .list (il (wr M a o))]⟩) :
    b12_0 C ⟨locD s S own begun sums u108 u124 u101 u134 (.p (.lst (il o))) en u113 ((114, .p (.lst hd)) :: (115, I (a : Int)) :: tl), [o0, o1, o2, .list (il M)]⟩ K := by
  unfold b12_0
  refine Exists.intro (il o) (And.intro rfl ?_)
  refine forW_ind (fun i τ => ∃ tl, (i = 0 ∧ (tl = [] ∨ ∃ u, tl = [(125, u)]) ∨ ∃ u, tl = [(125, u)]) ∧ τ = ⟨locD s S own begun sums u108 u124 u101 u134 (.p (.lst (il o))) en u113 ((114, .p (.lst hd)) :: (115, I ((a + i : Nat) : Int)) :: tl), [o0, o1, o2, .list (il (wr M a (o.take i)))]⟩) ⟨tl, .inl ⟨rfl, htl⟩, rfl⟩ ?_ ?_
  · rintro i v τ R hv ⟨tl, htl, rfl⟩ hR
    rw [List.getElem?_map] at hv
    cases hz : o[i]? with
    | none => rw [hz] at hv; cases hv
    | some z =>
      rw [hz] at hv
      obtain rfl : PV.int z = v := Option.some.inj hv
      have hi : i < o.length := (List.getElem?_eq_some_iff.mp hz).1
      have e1 : wr M a (o.take (i + 1)) = (wr M a (o.take i)).set (a + i) z := by
        rw [List.take_add_one, hz]
        show wr M a (o.take i ++ [z]) = _
        rw [wr_snoc, List.length_take, Nat.min_eq_left (Nat.le_of_lt hi)]
      have hR' : ∀ (X : List PV) (n : Int), X = il (wr M a (o.take (i + 1))) → n = ((a + (i + 1) : Nat) : Int) → R ⟨locD s S own begun sums u108 u124 u101 u134 (.p (.lst (il o))) en u113 [(114, .p (.lst hd)), (115, I n), (125, .p (.int z))], [o0, o1, o2, .list X]⟩ := by
        rintro _ _ rfl rfl; exact hR _ ⟨_, .inr ⟨_, rfl⟩, rfl⟩
      have htl' : tl = [] ∨ ∃ u, tl = [(125, u)] := by
        rcases htl with ⟨_, h⟩ | h
        · exact h
        · exact .inr h
      rcases htl' with rfl | ⟨u, rfl⟩
      all_goals
        refine And.intro (setO (k := a + i) (by rw [wr_len]; exact hM) (by omega)) ?_
        exact And.intro rfl (hR' _ _ (mset.trans (congrArg il e1.symm)) (by omega))
  · rintro τ ⟨tl, htl, rfl⟩
    rw [il_len] at htl ⊢
    rw [List.take_length]
    rcases htl with ⟨h0, -⟩ | ⟨u, rfl⟩
    · exact absurd (List.eq_nil_of_length_eq_zero h0) ho
    · exact h u
end
theorem flat_succ {l : List (List Int)} {i : Nat} {o : List Int} (h : l[i]? = some o) : (l.take (i + 1)).flatten = (l.take i).flatten ++ o := by
  rw [List.take_add_one, h]
  show (l.take i ++ [o]).flatten = _
  rw [List.flatten_append]; simp
theorem flat_le : ∀ (l : List (List Int)) (i : Nat), (l.take i).flatten.length ≤ l.flatten.length
  | [], i => by rw [List.take_nil]; exact Nat.le_refl _
  | o :: l, 0 => Nat.zero_le _
  | o :: l, i + 1 => by
    rw [List.take_succ_cons, List.flatten_cons, List.flatten_cons, List.length_append, List.length_append]
    exact Nat.add_le_add_left (flat_le l i) _
theorem pl2_at {l : List (List Int)} {i : Nat} {v : PV} (h : (pl2 l)[i]? = some v) : ∃ o, l[i]? = some o ∧ v = .lst (il o) := by
  unfold pl2 at h
  rw [List.getElem?_map] at h
  cases ho : l[i]? with
  | none => rw [ho] at h; cases h
  | some o => rw [ho] at h; exact ⟨o, rfl, (Option.some.inj h).symm⟩
section
variable {s : List PV} {own begun sums en : Int} {u108 u124 u101 u134 u110 u113 : VV} {o1 o2 : VO} {ms : List Mic} {B O v0 w0 : Nat} {lives S : List Nat} {M : List Int}
section
theorem s12 (eB : begun = (B : Int)) (hM : M.length = 65536) (k : ∀ u110 u115 u125, Ko ⟨s, il (nl S), own, begun, sums, u124, u101, u134, u110, en, pl2 (hl7 O), u115, u125⟩ S o1 (((((wr M 49152 (hcode7 O)).set 65534 0).set 65535 192).set 32 ((B % 256 : Nat) : Int)).set 33 ((B / 256 : Nat) : Int)) ms B O v0 w0 lives) :
    w_law_12 (callsOf T7L 40) ⟨locD s (il (nl S)) own begun sums u108 u124 u101 u134 u110 en u113 [(114, .p (.lst (pl2 (hl7 O)))), (115, I 49152)], [.list (stp ms), o1, o2, .list (il M)]⟩ QQ := by
  rw [w12_eq]
  refine Exists.intro (pl2 (hl7 O)) (And.intro rfl ?_)
  refine forW_ind (fun i τ => ∃ u110 tl, (i = 0 ∧ tl = [] ∨ ∃ u, tl = [(125, u)]) ∧ τ = ⟨locD s (il (nl S)) own begun sums u108 u124 u101 u134 u110 en u113 ((114, .p (.lst (pl2 (hl7 O)))) :: (115, I ((49152 + ((hl7 O).take i).flatten.length : Nat) : Int)) :: tl), [.list (stp ms), o1, o2, .list (il (wr M 49152 ((hl7 O).take i).flatten))]⟩) ⟨u110, [], .inl ⟨rfl, rfl⟩, rfl⟩ ?_ ?_
  · rintro i v τ R hv ⟨u110, tl, htl, rfl⟩ hR
    obtain ⟨o, ho, rfl⟩ := pl2_at hv
    have e := flat_succ ho
    have le := flat_le (hl7 O) (i + 1)
    have l18 : (hl7 O).flatten.length = 18 := rfl
    rw [e] at hR le
    rw [wr_app, List.length_append] at hR
    rw [List.length_append] at le
    refine s12_in (by rw [wr_len]; exact hM) (by omega) (hl7_ne O o (List.mem_of_getElem? ho)) ?_ fun u => ?_
    · rcases htl with ⟨_, h⟩ | h
      · exact .inl h
      · exact .inr h
    exact And.intro rfl (hR _ ⟨_, _, .inr ⟨u, rfl⟩, by rw [Nat.add_assoc]⟩)
  · rintro τ ⟨u110, tl, htl, rfl⟩
    rw [pl2_len] at htl ⊢
    rw [List.take_length, hl7_flat]
    rcases htl with ⟨h0, -⟩ | ⟨u, rfl⟩
    · exact absurd h0 (by show ¬ (11 = 0); decide)
    · exact s13 (F := ⟨s, il (nl S), own, begun, sums, u124, u101, u134, u110, en, pl2 (hl7 O), I ((49152 + (hcode7 O).length : Nat) : Int), u⟩) (k _ _ _) eB (by rw [wr_len]; exact hM)
end
section
theorem s11 (eB : begun = (B : Int)) (hM : M.length = 65536) (k : ∀ u110 u115 u125, Ko ⟨s, il (nl S), own, begun, sums, u124, u101, u134, u110, en, pl2 (hl7 O), u115, u125⟩ S o1 (((((wr M 49152 (hcode7 O)).set 65534 0).set 65535 192).set 32 ((B % 256 : Nat) : Int)).set 33 ((B / 256 : Nat) : Int)) ms B O v0 w0 lives) :
    w_law_11 (callsOf T7L 40) ⟨locD s (il (nl S)) own begun sums u108 u124 u101 u134 u110 en u113 [(114, .p (.lst (pl2 (hl7 O))))], [.list (stp ms), o1, o2, .list (il M)]⟩ QQ := by
  unfold w_law_11
  exact s12 eB hM k
end
section
theorem s10 (eB : begun = (B : Int)) (eO : own = (O : Int)) (hM : M.length = 65536) (k : ∀ u110 u115 u125, Ko ⟨s, il (nl S), own, begun, sums, u124, u101, u134, u110, en, pl2 (hl7 O), u115, u125⟩ S o1 (((((wr M 49152 (hcode7 O)).set 65534 0).set 65535 192).set 32 ((B % 256 : Nat) : Int)).set 33 ((B / 256 : Nat) : Int)) ms B O v0 w0 lives) :
    w_law_10 (callsOf T7L 40) ⟨locD s (il (nl S)) own begun sums u108 u124 u101 u134 u110 en u113 [], [.list (stp ms), o1, o2, .list (il M)]⟩ QQ := by
  unfold w_law_10
  subst eO
  refine And.intro (szL rfl) ?_
  refine And.intro (szL rfl) ?_
  refine lsum_c ?_
  refine Exists.intro _ (Exists.intro _ (And.intro rfl (And.intro rfl (And.intro (szL rfl) ?_))))
  refine And.intro (szL rfl) ?_
  refine And.intro (szL rfl) ?_
  refine And.intro (szL rfl) ?_
  refine And.intro (szL rfl) ?_
  refine Exists.intro _ (Exists.intro _ (And.intro rfl (And.intro rfl (And.intro (szL rfl) ?_))))
  exact s11 eB hM k
end
noncomputable abbrev locC (s S : List PV) (own begun sums : Int) (u108 u124 u101 u134 u110 : VV) (en : Int) (tl : List (Nat × VV)) : List (Nat × VV) :=
  (103, .p (.raw s)) :: (105, .p (.lst S)) :: (106, I own) :: (107, I begun) :: (111, .ref 0) :: (121, I sums) :: (122, .ref 1) :: (108, u108) :: (124, u124) :: (101, u101) :: (134, u134) :: (109, .ref 2) :: (110, u110) :: (112, I en) :: (9, .ref 3) :: tl
section
theorem s9 {codes : List Int} (hc : codes.length < 1000) (hc0 : 0 < codes.length) (eB : begun = (B : Int)) (eO : own = (O : Int)) (hM : M.length = 65536) (k : ∀ u110 u115 u125, Ko ⟨s, il (nl S), own, begun, sums, u124, u101, u134, u110, en, pl2 (hl7 O), u115, u125⟩ S o1 (((((wr (wr M 512 codes) 49152 (hcode7 O)).set 65534 0).set 65535 192).set 32 ((B % 256 : Nat) : Int)).set 33 ((B / 256 : Nat) : Int)) ms B O v0 w0 lives) :
    w_law_9 (callsOf T7L 40) ⟨locC s (il (nl S)) own begun sums u108 u124 u101 u134 u110 en [], [.list (stp ms), o1, .list (il codes), .list (il M)]⟩ QQ := by
  rw [w9_eq]
  refine Exists.intro (il codes) (And.intro rfl (And.intro (by rw [il_len]; exact smallN (by omega)) ?_))
  rw [il_len]
  refine And.intro (rng_ok (by omega)) ?_
  refine forW_ind (fun i τ => ∃ tl, (i = 0 ∧ tl = [] ∨ ∃ u, tl = [(113, u)]) ∧ τ = ⟨locC s (il (nl S)) own begun sums u108 u124 u101 u134 u110 en tl, [.list (stp ms), o1, .list (il codes), .list (il (wr M 512 (codes.take i)))]⟩) ⟨[], .inl ⟨rfl, rfl⟩, rfl⟩ ?_ ?_
  · rintro i v τ R hv ⟨tl, htl, rfl⟩ hR
    obtain ⟨hi, rfl⟩ := range_at hv
    have hz : codes[i]? = some codes[i] := List.getElem?_eq_getElem hi
    have e1 : wr M 512 (codes.take (i + 1)) = (wr M 512 (codes.take i)).set (512 + i) codes[i] := by
      rw [List.take_add_one, hz]
      show wr M 512 (codes.take i ++ [codes[i]]) = _
      rw [wr_snoc, List.length_take, Nat.min_eq_left (Nat.le_of_lt hi)]
    have hR' : ∀ (X : List PV), X = il (wr M 512 (codes.take (i + 1))) → R ⟨locC s (il (nl S)) own begun sums u108 u124 u101 u134 u110 en [(113, I (i : Int))], [.list (stp ms), o1, .list (il codes), .list X]⟩ := by
      rintro _ rfl; exact hR _ ⟨_, .inr ⟨_, rfl⟩, rfl⟩
    have ei : (512 : Int) + (i : Int) = ((512 + i : Nat) : Int) := by omega
    have hset : (il (wr M 512 (codes.take i))).set ((512 : Int) + (i : Int)).toNat (.int codes[i]) = il (wr M 512 (codes.take (i + 1))) := by
      rw [ei]; exact mset.trans (congrArg il e1.symm)
    have hb : (0 : Int) ≤ (512 : Int) + (i : Int) ∧ (512 : Int) + (i : Int) < ((il (wr M 512 (codes.take i))).length : Int) ∧ (512 : Int) + (i : Int) < 2 ^ 63 := by
      rw [ei]; exact setO (by rw [wr_len]; exact hM) (by omega)
    rcases htl with ⟨-, rfl⟩ | ⟨u, rfl⟩
    all_goals
      refine And.intro (idxN (by omega)) (Exists.intro _ (Exists.intro _ (And.intro rfl (And.intro (il_at hz) ?_))))
      refine And.intro hb ?_
      exact And.intro trivial (hR' _ hset)
  · rintro τ ⟨tl, htl, rfl⟩
    rw [range_len] at htl ⊢
    rw [List.take_length]
    rcases htl with ⟨h0, -⟩ | ⟨u, rfl⟩
    · omega
    · exact s10 eB eO (by rw [wr_len]; exact hM) k
end
end
end VE
namespace VE
open M6
/-- The memory's pattern. -/
noncomputable def patB (s : Nat) : List Int := (List.range 32).map fun (i : Nat) => (((23 * i + s) % 256 : Nat) : Int)
noncomputable def pat (s : Nat) : List Int := (List.replicate 2048 (patB s)).flatten
noncomputable def patF (s : Int) (v : PV) : PV := match v with
  | .int i => .int (Int.fmod (23 * i + s) 256)
  | v => v
theorem pat_eq (s : Nat) : (List.replicate (Int.toNat 2048) ([] ++ (rangeL 0 32).map (patF (s : Int)))).flatten = il (pat s) := by
  have e : [] ++ (rangeL 0 32).map (patF (s : Int)) = il (patB s) := by
    rw [List.nil_append]
    unfold rangeL il patB
    rw [List.map_map, List.map_map]
    refine List.map_congr_left fun i _ => ?_
    show PV.int (Int.fmod (23 * (0 + (i : Int)) + (s : Int)) 256) = .int _
    congr 1
    rw [show 23 * (0 + (i : Int)) + (s : Int) = ((23 * i + s : Nat) : Int) by omega]
    exact fmodN _ _
  rw [e]
  unfold pat il
  rw [List.map_flatten, List.map_replicate]
  rfl
theorem patB_len (s : Nat) : (patB s).length = 32 := by unfold patB; rw [List.length_map, List.length_range]
theorem pat_len (s : Nat) : (pat s).length = 65536 := by
  unfold pat
  rw [List.length_flatten, List.map_replicate, List.sum_replicate_nat, patB_len]
theorem pat_at (s i : Nat) (h : i < 32) : (pat s)[32 + i]? = some (((23 * i + s) % 256 : Nat) : Int) := by
  unfold pat
  rw [show (2048 : Nat) = 2046 + 1 + 1 from rfl, List.replicate_succ, List.replicate_succ, List.flatten_cons, List.flatten_cons]
  rw [List.getElem?_append_right (by rw [patB_len]; omega), patB_len, Nat.add_sub_cancel_left, List.getElem?_append_left (by rw [patB_len]; exact h)]
  unfold patB
  rw [List.getElem?_map, List.getElem?_range h]; rfl
section
variable {s : List PV} {own begun sums en : Int} {u108 u124 u101 u134 u110 : VV} {o1 o2 : VO} {ms : List Mic} {B O v0 w0 S0 : Nat} {lives S : List Nat}
section
theorem s8 {codes : List Int} (hc : codes.length < 1000) (hc0 : 0 < codes.length) (eB : begun = (B : Int)) (eO : own = (O : Int)) (hS : S[0]? = some S0) (k : ∀ u110 u115 u125, Ko ⟨s, il (nl S), own, begun, sums, u124, u101, u134, u110, en, pl2 (hl7 O), u115, u125⟩ S o1 (((((wr (wr (pat S0) 512 codes) 49152 (hcode7 O)).set 65534 0).set 65535 192).set 32 ((B % 256 : Nat) : Int)).set 33 ((B / 256 : Nat) : Int)) ms B O v0 w0 lives) :
    w_law_8 (callsOf T7L 40) ⟨(103, .p (.raw s)) :: (105, .p (.lst (il (nl S)))) :: (106, I own) :: (107, I begun) :: (111, .ref 0) :: (121, I sums) :: (122, .ref 1) :: (108, u108) :: (124, u124) :: (101, u101) :: (134, u134) :: (109, .ref 2) :: (110, u110) :: (112, I en) :: [], [.list (stp ms), o1, .list (il codes)]⟩ QQ := by
  unfold w_law_8
  refine And.intro (rng_ok (n := 32) (by decide)) ?_
  refine And.intro (by rw [rangeL_len]; decide) ?_
  refine compW_ind (patF (S0 : Int)) _ [] ?_ ?_
  · intro v hv R hR
    obtain ⟨t, rfl⟩ := range_mem hv
    refine And.intro (mul_l (by decide)) ?_
    refine And.intro (by decide) (Exists.intro _ (Exists.intro _ (And.intro rfl (And.intro (il_at (k := 0) (nl_at hS)) ?_))))
    refine And.intro (by decide) ?_
    exact And.intro rfl hR
  · refine And.intro ?_ ?_
    · rw [List.nil_append, List.length_map, rangeL_len]; decide
    rw [pat_eq]
    exact s9 hc hc0 eB eO (pat_len S0) k
end
section
theorem s7 {codes : List Int} (hc : codes.length < 1000) (hc0 : 0 < codes.length) (eB : begun = (B : Int)) (eO : own = (O : Int)) (hS : S[0]? = some S0) (k : ∀ u110 u115 u125, Ko ⟨s, il (nl S), own, begun, sums, u124, u101, u134, u110, 512 + ((il codes).length : Int), pl2 (hl7 O), u115, u125⟩ S o1 (((((wr (wr (pat S0) 512 codes) 49152 (hcode7 O)).set 65534 0).set 65535 192).set 32 ((B % 256 : Nat) : Int)).set 33 ((B / 256 : Nat) : Int)) ms B O v0 w0 lives) :
    w_law_7 (callsOf T7L 40) ⟨(103, .p (.raw s)) :: (105, .p (.lst (il (nl S)))) :: (106, I own) :: (107, I begun) :: (111, .ref 0) :: (121, I sums) :: (122, .ref 1) :: (108, u108) :: (124, u124) :: (101, u101) :: (134, u134) :: (109, .ref 2) :: (110, u110) :: [], [.list (stp ms), o1, .list (il codes)]⟩ QQ := by
  unfold w_law_7
  refine Exists.intro (il codes) (And.intro rfl (And.intro (by rw [il_len]; exact smallN (by omega)) ?_))
  exact s8 hc hc0 eB eO hS k
end
noncomputable abbrev locB (s S : List PV) (own begun sums : Int) (u108 u124 u101 u134 : VV) (tl : List (Nat × VV)) : List (Nat × VV) :=
  (103, .p (.raw s)) :: (105, .p (.lst S)) :: (106, I own) :: (107, I begun) :: (111, .ref 0) :: (121, I sums) :: (122, .ref 1) :: (108, u108) :: (124, u124) :: (101, u101) :: (134, u134) :: tl
theorem oct_pos : ∀ m : Mic, 0 < m.oct.length := fun m => by
  have := mcode_at m
  exact (List.getElem?_eq_some_iff.mp this).1
theorem octs_take {ms : List Mic} {i : Nat} {m : Mic} (h : ms[i]? = some m) : octsOf (ms.take (i + 1)) = octsOf (ms.take i) ++ m.oct := by
  rw [take_succ' h, octsOf_app]
  show _ ++ (m.oct ++ []) = _
  rw [List.append_nil]
section
theorem s6 (hne : 0 < ms.length) (ho : offOf ms < 1000) (eB : begun = (B : Int)) (eO : own = (O : Int)) (hS : S[0]? = some S0) (k : ∀ u110 u115 u125, Ko ⟨s, il (nl S), own, begun, sums, u124, u101, u134, u110, 512 + ((il (octsOf ms)).length : Int), pl2 (hl7 O), u115, u125⟩ S o1 (((((wr (wr (pat S0) 512 (octsOf ms)) 49152 (hcode7 O)).set 65534 0).set 65535 192).set 32 ((B % 256 : Nat) : Int)).set 33 ((B / 256 : Nat) : Int)) ms B O v0 w0 lives) :
    w_law_6 (callsOf T7L 40) ⟨locB s (il (nl S)) own begun sums u108 u124 u101 u134 [(109, .ref 2)], [.list (stp ms), o1, .list []]⟩ QQ := by
  rw [w6_eq]
  refine Exists.intro (stp ms) (And.intro rfl ?_)
  refine forW_ind (fun i τ => ∃ tl, (i = 0 ∧ tl = [] ∨ ∃ u, tl = [(110, u)]) ∧ τ = ⟨locB s (il (nl S)) own begun sums u108 u124 u101 u134 ((109, .ref 2) :: tl), [.list (stp ms), o1, .list (il (octsOf (ms.take i)))]⟩) ⟨[], .inl ⟨rfl, rfl⟩, rfl⟩ ?_ ?_
  · rintro i v τ R hv ⟨tl, htl, rfl⟩ hR
    unfold stp at hv
    obtain ⟨o, ho', rfl⟩ := pl2_at hv
    rw [List.getElem?_map] at ho'
    cases hm : ms[i]? with
    | none => rw [hm] at ho'; cases ho'
    | some m =>
      rw [hm] at ho'
      obtain rfl : m.oct = o := Option.some.inj ho'
      have e := octs_take hm
      have le := off_le ms (i + 1)
      rw [← octsOf_len, e, List.length_append] at le
      have hR' : R ⟨locB s (il (nl S)) own begun sums u108 u124 u101 u134 [(109, .ref 2), (110, .p (.lst (il m.oct)))], [.list (stp ms), o1, .list (il (octsOf (ms.take i)) ++ il m.oct)]⟩ := by
        rw [show il (octsOf (ms.take i)) ++ il m.oct = il (octsOf (ms.take (i + 1))) by rw [e]; unfold il; rw [List.map_append]]
        exact hR _ ⟨_, .inr ⟨_, rfl⟩, rfl⟩
      have hsz : (il (octsOf (ms.take i))).length + (il m.oct).length ≤ sizeLine := by
        rw [il_len, il_len]; have : sizeLine = 2 ^ 24 := rfl; omega
      rcases htl with ⟨-, rfl⟩ | ⟨u, rfl⟩
      all_goals
        refine Exists.intro _ (Exists.intro _ (And.intro rfl (And.intro rfl (And.intro hsz ?_))))
        exact And.intro rfl hR'
  · rintro τ ⟨tl, htl, rfl⟩
    rw [stp_len] at htl ⊢
    rw [take_all]
    have h1 : (octsOf ms).length < 1000 := by rw [octsOf_len]; exact ho
    have h0 : 0 < (octsOf ms).length := by
      cases ms with
      | nil => cases hne
      | cons m r => show 0 < (m.oct ++ octsOf r).length; rw [List.length_append]; have := oct_pos m; omega
    rcases htl with ⟨h0, -⟩ | ⟨u, rfl⟩
    · omega
    · exact s7 h1 h0 eB eO hS k
end
section
theorem s5 (hne : 0 < ms.length) (ho : offOf ms < 1000) (eB : begun = (B : Int)) (eO : own = (O : Int)) (hS : S[0]? = some S0) (k : ∀ u110 u115 u125, Ko ⟨s, il (nl S), own, begun, sums, u124, u101, u134, u110, 512 + ((il (octsOf ms)).length : Int), pl2 (hl7 O), u115, u125⟩ S o1 (((((wr (wr (pat S0) 512 (octsOf ms)) 49152 (hcode7 O)).set 65534 0).set 65535 192).set 32 ((B % 256 : Nat) : Int)).set 33 ((B / 256 : Nat) : Int)) ms B O v0 w0 lives) :
    w_law_5 (callsOf T7L 40) ⟨locB s (il (nl S)) own begun sums u108 u124 u101 u134 [], [.list (stp ms), o1]⟩ QQ := by
  unfold w_law_5
  refine And.intro (szL rfl) ?_
  exact s6 hne ho eB eO hS k
end
end
end VE
namespace VE
open M6
noncomputable abbrev loc4 (s S : List PV) (own begun sums : Int) (tl : List (Nat × VV)) : List (Nat × VV) :=
  (103, .p (.raw s)) :: (105, .p (.lst S)) :: (106, I own) :: (107, I begun) :: (111, .ref 0) :: (121, I sums) :: (122, .ref 1) :: tl
theorem size2 {ms : List Mic} {n : Nat} (h : ms.length < 1000) (hn : n < 1000) : (stp ms).length + n ≤ sizeLine := by
  rw [stp_len]; have : sizeLine = 2 ^ 24 := rfl; omega
section
variable {s SS : List PV} {own begun : Int} {u108 u124 : VV} {K Q : Fl → VS → Prop} {R : VS → Prop} {k p sm : Nat} {ms : List Mic} {lv : List Nat}
theorem s4_3 {C : Calls} {X Y : List PV} {smI kI pI : Int} (es : smI = (sm : Int)) (ek : kI = (k : Int)) (ep : pI = (p : Int)) (hk : k < 4) (hR : ∀ a b c d, R ⟨loc4 s SS own begun ((sm + blkSum k p : Nat) : Int) [(108, a), (124, b), (101, c), (134, d)], [.list X, .list Y]⟩) :
    b4_3 C ⟨loc4 s SS own begun smI [(108, u108), (124, u124), (101, I pI), (134, I kI)], [.list X, .list Y]⟩ (KQ Q R) := by
  unfold b4_3
  subst es ek ep
  have hR' : ∀ (z : Int), (sm : Int) + z = ((sm + blkSum k p : Nat) : Int) → R ⟨loc4 s SS own begun ((sm : Int) + z) [(108, u108), (124, u124), (101, I (p : Int)), (134, I (k : Int))], [.list X, .list Y]⟩ := fun z e => by rw [e]; exact hR _ _ _ _
  refine And.intro (mul_l (by decide)) ?_
  refine And.intro (szL rfl) ?_
  match k, hk, hR' with
  | 0, _, hR' => exact And.intro (by decide) (Exists.intro _ (Exists.intro _ (And.intro rfl (And.intro rfl (And.intro trivial (hR' _ rfl))))))
  | 1, _, hR' => exact And.intro (by decide) (Exists.intro _ (Exists.intro _ (And.intro rfl (And.intro rfl (And.intro trivial (hR' _ rfl))))))
  | 2, _, hR' => exact And.intro (by decide) (Exists.intro _ (Exists.intro _ (And.intro rfl (And.intro rfl (And.intro trivial (hR' _ (by show _ = ((sm + 2 * p : Nat) : Int); omega)))))))
  | 3, _, hR' => exact And.intro (by decide) (Exists.intro _ (Exists.intro _ (And.intro rfl (And.intro rfl (And.intro trivial (hR' _ rfl))))))
section
theorem s4_2 {smI kI pI : Int} (es : smI = (sm : Int)) (ek : kI = (k : Int)) (ep : pI = (p : Int)) (hk : k < 4) (hms : ms.length < 1000) (hlv : lv.length < 1000)
    (hR : ∀ a b c d, R ⟨loc4 s SS own begun ((sm + blkSum k p : Nat) : Int) [(108, a), (124, b), (101, c), (134, d)], [.list (stp (ms ++ blk k p)), .list (il (nl (lv ++ lvB k p)))]⟩) :
    b4_2 (callsOf T7L 40) ⟨loc4 s SS own begun smI [(108, u108), (124, u124), (101, I pI), (134, I kI)], [.list (stp ms), .list (il (nl lv))]⟩ (KQ Q R) := by
  unfold b4_2
  subst ek ep
  rw [stp_app] at hR
  match k, hk, hR with
  | 0, hk, hR =>
    rw [show lvB 0 p = [] from rfl, List.append_nil] at hR
    refine And.intro (szL rfl) ?_
    refine And.intro (szL rfl) ?_
    refine lsum_c ?_
    refine Exists.intro _ (Exists.intro _ (And.intro rfl (And.intro rfl (And.intro (szL rfl) ?_))))
    refine And.intro (szL rfl) ?_
    refine And.intro (szL rfl) ?_
    refine Exists.intro _ (Exists.intro _ (And.intro rfl (And.intro rfl (And.intro (szL rfl) ?_))))
    refine Exists.intro _ (Exists.intro _ (And.intro rfl (And.intro rfl (And.intro (size2 (n := 9) hms (by decide)) ?_))))
    exact s4_3 es rfl rfl hk hR
  | 1, hk, hR =>
    rw [show lvB 1 p = [] from rfl, List.append_nil] at hR
    refine And.intro (szL rfl) ?_
    refine And.intro (szL rfl) ?_
    refine And.intro (szL rfl) ?_
    refine lsum_c ?_
    refine Exists.intro _ (Exists.intro _ (And.intro rfl (And.intro rfl (And.intro (szL rfl) ?_))))
    refine And.intro (szL rfl) ?_
    refine And.intro (szL rfl) ?_
    refine Exists.intro _ (Exists.intro _ (And.intro rfl (And.intro rfl (And.intro (szL rfl) ?_))))
    refine Exists.intro _ (Exists.intro _ (And.intro rfl (And.intro rfl (And.intro (size2 (n := 10) hms (by decide)) ?_))))
    exact s4_3 es rfl rfl hk hR
  | 2, hk, hR =>
    rw [show lvB 2 p = [] from rfl, List.append_nil] at hR
    refine And.intro (szL rfl) ?_
    refine And.intro (szL rfl) ?_
    refine And.intro (szL rfl) ?_
    refine And.intro (szL rfl) ?_
    refine lsum_c ?_
    refine Exists.intro _ (Exists.intro _ (And.intro rfl (And.intro rfl (And.intro (szL rfl) ?_))))
    refine And.intro (szL rfl) ?_
    refine And.intro (szL rfl) ?_
    refine Exists.intro _ (Exists.intro _ (And.intro rfl (And.intro rfl (And.intro (szL rfl) ?_))))
    refine lsum_c ?_
    refine Exists.intro _ (Exists.intro _ (And.intro rfl (And.intro rfl (And.intro (szL rfl) ?_))))
    refine And.intro (szL rfl) ?_
    refine And.intro (szL rfl) ?_
    refine Exists.intro _ (Exists.intro _ (And.intro rfl (And.intro rfl (And.intro (szL rfl) ?_))))
    refine Exists.intro _ (Exists.intro _ (And.intro rfl (And.intro rfl (And.intro (size2 (n := 19) hms (by decide)) ?_))))
    exact s4_3 es rfl rfl hk hR
  | 3, hk, hR =>
    rw [show lvB 3 p = [(2 * p + 1) % 256] from rfl, ← nl_snoc] at hR
    refine And.intro (szL rfl) ?_
    refine And.intro (szL rfl) ?_
    refine And.intro (szL rfl) ?_
    refine And.intro (szL rfl) ?_
    refine And.intro (szL rfl) ?_
    refine Exists.intro _ (Exists.intro _ (And.intro rfl (And.intro rfl (And.intro (size2 (n := 4) hms (by decide)) ?_))))
    refine And.intro (mul_l (by decide)) ?_
    refine And.intro (by decide) ?_
    refine And.intro ?_ ?_
    · rw [il_len, nl_len]; have : sizeLine = 2 ^ 24 := rfl; omega
    have e : Int.fmod (2 * (p : Int) + 1) 256 = (((2 * p + 1) % 256 : Nat) : Int) := by
      rw [show 2 * (p : Int) + 1 = ((2 * p + 1 : Nat) : Int) by omega]; exact fmodN _ _
    rw [← e] at hR
    exact s4_3 es rfl rfl hk hR
end
section
theorem kd_eq {S : List Nat} (t : Nat) : Int.fmod (((sd S t : Nat) : Int) + (t : Int)) 4 = ((kd S t : Nat) : Int) := by
  rw [show ((sd S t : Nat) : Int) + (t : Int) = ((sd S t + t : Nat) : Int) by omega]; exact fmodN _ _
theorem pt_eq {S : List Nat} (t : Nat) : Int.fmod (Int.fdiv ((sd S t : Nat) : Int) 4 + 59 * (t : Int)) 256 = ((pt S t : Nat) : Int) := by
  rw [show Int.fdiv ((sd S t : Nat) : Int) 4 = ((sd S t / 4 : Nat) : Int) from fdivN _ 4, show ((sd S t / 4 : Nat) : Int) + 59 * (t : Int) = ((sd S t / 4 + 59 * t : Nat) : Int) by omega]; exact fmodN _ _
theorem s4_0 {S : List Nat} {t : Nat} {tl : List (Nat × VV)} (h0 : S ≠ []) (h1 : S.length < 1000) (htl : t = 0 ∧ tl = [] ∨ ∃ a b c d, tl = [(108, a), (124, b), (101, c), (134, d)]) (hms : ms.length < 1000) (hlv : lv.length < 1000)
    (hR : ∀ a b c d, R ⟨loc4 s (il (nl S)) own begun ((sm + blkSum (kd S t) (pt S t) : Nat) : Int) [(108, a), (124, b), (101, c), (134, d)], [.list (stp (ms ++ blk (kd S t) (pt S t))), .list (il (nl (lv ++ lvB (kd S t) (pt S t))))]⟩) :
    (wTN 108) (callsOf T7L 40) ⟨loc4 s (il (nl S)) own begun (sm : Int) tl, [.list (stp ms), .list (il (nl lv))]⟩ (.p (.int (t : Int))) fun τ => b4_0 (callsOf T7L 40) τ (KQ Q R) := by
  unfold b4_0
  rcases htl with ⟨-, rfl⟩ | ⟨a, b, c, d, rfl⟩
  all_goals
    refine Exists.intro _ (And.intro rfl (And.intro (seed_len h1) ?_))
    refine And.intro (seed_ne h0) ?_
    refine And.intro (seed_ix h0 h1 t) (Exists.intro _ (Exists.intro _ (And.intro rfl (And.intro (seed_at h0 t) ?_))))
    refine And.intro (by decide) ?_
    refine And.intro (And.intro (by decide) (no_pylong (by decide))) ?_
    refine And.intro (mul_l (by decide)) ?_
    refine And.intro (by decide) ?_
    refine And.intro (szL rfl) ?_
    exact s4_2 rfl (kd_eq t) (pt_eq t) (kd_lt S t) hms hlv hR
end
end
end VE
namespace VE
open M6
noncomputable section
def kAd : List Addr := [1428, 1427, 3, 1423, 1424, 1425, 29, 36, 35, 43, 42, 50, 49, 57, 56, 71, 70, 78, 77, 92, 91, 106, 105, 99, 98, 169, 168, 176, 175, 183, 182, 190, 189, 197, 196, 239, 238, 246, 245, 295, 294, 337, 336, 344, 343, 652, 651, 1030, 1029, 1324, 1323, 722, 721, 848, 847, 778, 777, 624, 623, 281, 280, 267, 266, 463, 462, 785, 784, 890, 889, 400, 399, 526, 525, 1051, 1050, 596, 595, 540, 539, 1439, 1438]
def KK (w : World) : Frag := kAd.map fun a => (a, ((LF w)[a]?).getD default)
def isNN : Option (Option Value) → Bool
  | some none => true
  | _ => false
def isRef (f : Addr) : Option (Option Value) → Bool
  | some (some (.ref a)) => Nat.beq a f
  | _ => false
def isBi (x : String) : Option (Option Value) → Bool
  | some (some (.builtin y)) => x == y
  | _ => false
def fldB (K : Frag) (n : Nat) : Bool := isNN (findIn K (.ref CA) (nm n)) && isNN (takerIn K CA (nm n))
def fnB (K : Frag) (n : Nat) (f : Addr) : Bool := isRef f (findIn K (.ref CA) (nm n)) && isFn K (.ref f) && isBi "function.__get__" (specialIn K (.ref f) "__get__") && (match takesIn K (.ref f) with | some false => true | _ => false) && !copiedNames.contains (nm n) && keepIn K (.ref f) && fnIn K f
def intB (K : Frag) (n : Nat) (i : Int) : Bool := (match findIn K (.ref CA) (nm n) with
  | some (some (.int j t)) => i == j && isNN (specialIn K (.int j t) "__get__")
  | _ => false) && !copiedNames.contains (nm n)
def refB (K : Frag) (n : Nat) (a : Addr) : Bool := isRef a (findIn K (.ref CA) (nm n)) && isNN (specialIn K (.ref a) "__get__") && !copiedNames.contains (nm n)
def valB : PV → Value → Bool
  | .int i, .int j _ => i == j
  | .fn a, .ref b => Nat.beq a b
  | .any, v => handedIn v
  | _, _ => false
def valsB : List PV → List Value → Bool
  | [], [] => true
  | p :: l, v :: r => valB p v && valsB l r
  | _, _ => false
theorem valsB_rep {F : Addr → Obj → Prop} : ∀ {l : List PV} {r : List Value}, valsB l r = true → PRepL F l r := by
  intro l
  induction l with
  | nil => intro r h; cases r with
    | nil => exact .nil
    | cons _ _ => cases h
  | cons p l ih =>
    intro r h
    cases r with
    | nil => cases h
    | cons v r =>
      have h := Bool.and_eq_true_iff.mp h
      refine PRepL.cons ?_ (ih h.2)
      have h := h.1
      unfold valB at h
      split at h
      · rw [beq_iff_eq.mp h]; exact .int _ _ .nil
      · rw [Nat.eq_of_beq_eq_true h]; exact .fn _ .nil
      · exact .any h .nil
      · cases h
def tabB (K : Frag) (n : Nat) (l : List PV) (a : Addr) : Bool := refB K n a && (match K.lookup a with
  | some ⟨.type "list", _, .seq vs _, _⟩ => valsB l vs.toList
  | _ => false)
theorem isNN_eq : ∀ {x : Option (Option Value)}, isNN x = true → x = some none
  | some none, _ => rfl
  | none, h => by cases h
  | some (some _), h => by cases h
theorem isRef_eq {f : Addr} : ∀ {x : Option (Option Value)}, isRef f x = true → x = some (some (.ref f)) := by
  intro x h
  unfold isRef at h
  split at h
  · rw [Nat.eq_of_beq_eq_true h]
  · cases h
theorem isBi_eq {f : String} : ∀ {x : Option (Option Value)}, isBi f x = true → x = some (some (.builtin f)) := by
  intro x h
  unfold isBi at h
  split at h
  · rw [beq_iff_eq.mp h]
  · cases h
theorem refB_eq {K : Frag} {n : Nat} {a : Addr} (this : refB K n a = true) : ClsRef K CA (nm n) a := by
  unfold refB at this
  simp only [Bool.and_eq_true, Bool.not_eq_true'] at this
  exact ⟨isRef_eq this.1.1, isNN_eq this.1.2, this.2⟩
theorem tabB_eq {K : Frag} {n : Nat} {l : List PV} {a : Addr} (h : tabB K n l a = true) : ∃ a o ws k, TabOk K CA (nm n) l a o ws k := by
  unfold tabB at h
  obtain ⟨h1, h2⟩ := Bool.and_eq_true_iff.mp h
  split at h2
  · rename_i d vs k sl ho
    exact ⟨a, _, vs.toList, k, refB_eq h1, ho, rfl, by simp, valsB_rep h2⟩
  · cases h2
theorem map_at {α β : Type} {f g : α → β} {x : α} : ∀ {l : List α}, l.map f = l.map g → x ∈ l → f x = g x := by
  intro l
  induction l with
  | nil => intro _ hx; cases hx
  | cons a l ih =>
    intro h hx
    simp only [List.map_cons, List.cons.injEq] at h
    rcases List.mem_cons.mp hx with rfl | hx
    · exact h.1
    · exact ih h.2 hx
abbrev ixL : List (Addr × Nat) := [(36, 15), (43, 16), (50, 17), (57, 18), (71, 20), (78, 21), (92, 23), (106, 25), (99, 24), (169, 34), (176, 35), (183, 36), (190, 37), (197, 38), (239, 44), (246, 45), (295, 52), (337, 58), (344, 59), (652, 103), (1030, 157), (1324, 199), (722, 113), (848, 131), (778, 121), (624, 99), (281, 50), (267, 48), (463, 76), (785, 122), (890, 137), (400, 67), (526, 85), (1051, 160), (596, 95), (540, 87)]
def fobj (f : Addr) (i : Nat) (dV : Value) : Obj :=
  ⟨.type "function", none, .func (fnOf (sName (cst i)) ("MPU." ++ sName (cst i)) (sArgs (cst i)) (sBody (cst i)) (sScope (cst i)) dV .none .none (.str "py65.devices.mpu6502" 194) none (.ref (f - 1)) .none), #[]⟩
def gobj (f : Addr) (i : Nat) : Obj :=
  ⟨.type "function", none, .func (fnOf (sName (pst i)) (sName (pst i)) (sArgs (pst i)) (sBody (pst i)) (sScope (pst i)) .none .none .none (.str "law_me0006_07" 2249) none (.ref (f - 1)) .none), #[]⟩
theorem f_fld (w : World) : Z7.flds.all (fun n => fldB (KK w) n) = true := by kernel_rfl
theorem f_int (w : World) : Z7.nums.all (fun x => intB (KK w) x.1 x.2) = true := by kernel_rfl
theorem f_fn (w : World) : Z7.fns.all (fun x => fnB (KK w) x.1 x.2) = true := by kernel_rfl
theorem f_tab0 (w : World) : tabB (KK w) 30 tb0 1423 = true := by kernel_rfl
theorem f_tab1 (w : World) : tabB (KK w) 31 tb1 1424 = true := by kernel_rfl
theorem f_tab2 (w : World) : tabB (KK w) 32 tb2 1425 = true := by kernel_rfl
theorem f_glob (w : World) : Z7.globs.all (fun x => isRef x.2 (nsIn (KK w) mainGlobals (nm x.1)) && keepIn (KK w) (.ref x.2)) = true := by kernel_rfl
theorem f_bi (w : World) : Z7.bis.all (fun n => isNN (nsIn (KK w) mainGlobals (nm n))) = true := by kernel_rfl
theorem f_obj (w : World) : ixL.map (fun x => (KK w).lookup x.1) = ixL.map (fun x => some (fobj x.1 x.2 (if x.1 = 36 then .ref 29 else .none))) := by kernel_rfl
theorem f_code (w : World) : ixL.all (fun x => codeIn (KK w) (.ref (x.1 - 1)) ("MPU." ++ sName (cst x.2))) = true := by kernel_rfl
theorem f_c1 (w : World) : plainGet (KK w) CA "" = true := by kernel_rfl
theorem f_c2 (w : World) : hasDictIn (KK w) CA = true := by kernel_rfl
theorem f_c3 (w : World) : findIn (KK w) (.ref CA) "__setattr__" = some (some (.builtin "object.__setattr__")) := by kernel_rfl
theorem f_c4 (w : World) : plainOver (KK w) CA = true := by kernel_rfl
theorem all_at {α : Type} {f : α → Bool} {l : List α} (h : l.all f = true) {x : α} (hx : x ∈ l) : f x = true := List.all_eq_true.mp h x hx
theorem stc_ok (w : World) : StcOk nm (KK w) CA Z7 where
  cls := ⟨f_c1 w, f_c2 w, f_c3 w, f_c4 w⟩
  fld := fun n hn => by
    have := all_at (f_fld w) hn
    unfold fldB at this
    simp only [Bool.and_eq_true] at this
    exact ⟨isNN_eq this.1, isNN_eq this.2⟩
  int := fun n i h => by
    have := all_at (f_int w) (getN_mem h)
    unfold intB at this
    simp only [Bool.and_eq_true, Bool.not_eq_true'] at this
    obtain ⟨h1, h2⟩ := this
    split at h1
    · rename_i j t e
      simp only [Bool.and_eq_true] at h1
      have e1 := beq_iff_eq.mp h1.1
      (try dsimp only at e1 e)
      subst e1
      exact ⟨⟨t, e, isNN_eq h1.2⟩, h2⟩
    · cases h1
  fn := fun n f h => by
    have := all_at (f_fn w) h
    unfold fnB at this
    simp only [Bool.and_eq_true, Bool.not_eq_true'] at this
    obtain ⟨⟨⟨⟨⟨⟨h1, h2⟩, h3⟩, h4⟩, h5⟩, h6⟩, h7⟩ := this
    refine ⟨⟨isRef_eq h1, h2, isBi_eq h3, ?_, h5, h6⟩, h7⟩
    split at h4
    · assumption
    · cases h4
  glob := fun n f h => by
    have := Bool.and_eq_true_iff.mp (all_at (f_glob w) h)
    exact ⟨isRef_eq this.1, this.2⟩
  bi := fun n h => isNN_eq (all_at (f_bi w) h)
  tab := fun n l h => by
    have hm := getN_mem h
    change (n, l) ∈ [(30, tb0), (31, tb1), (32, tb2)] at hm
    simp only [List.mem_cons, List.not_mem_nil, or_false, Prod.mk.injEq] at hm
    rcases hm with ⟨rfl, rfl⟩ | ⟨rfl, rfl⟩ | ⟨rfl, rfl⟩
    · exact tabB_eq (f_tab0 w)
    · exact tabB_eq (f_tab1 w)
    · exact tabB_eq (f_tab2 w)
theorem f_in (w : World) : kAd.map (fun a => (HF w.params).get? a) = kAd.map (fun a => some (((LF w)[a]?).getD default)) := by kernel_rfl
theorem mem_lookup {α β : Type} [BEq α] [LawfulBEq α] {n : α} {i : β} : ∀ {l : List (α × β)}, l.lookup n = some i → (n, i) ∈ l
  | [], h => by cases h
  | (a, b) :: l, h => by
    simp only [List.lookup] at h
    split at h
    · rename_i q; cases h; rw [beq_iff_eq.mp q]; exact .head _
    · exact .tail _ (mem_lookup h)
theorem kk_in {w : World} {h : Heap} (Y : ∀ b o, (HF w.params).get? b = some o → h.get? b = some o) : (KK w).In h := fun a o e => by
  have m := mem_lookup e
  unfold KK at m
  obtain ⟨b, hb, e1⟩ := List.mem_map.mp m
  cases e1
  exact Y _ _ (map_at (f_in w) hb)
/-- A function of the class, as the engine asks. -/
def mok (sc : Scope) (ns : List Nat) : Bool :=
  (ns.all fun n => sc.names.lookup (nm n) == some .local) && decide ns.Nodup && !sc.isCoroutine && !sc.isGenerator && sc.kind == .function && sc.names.all (fun x => x.2 != .cell) && sc.names.lookup (nm Z7.topn) != some .local
theorem mok_fn {G : Gl nm Z7} {f : Addr} {ns : List Nat} {name qual : Str} {params : Arguments} {body : List Stmt} {scope : Scope} {dV kV doc pm cdv ct oc : Value} {an od : Option Addr} {osl : Array (Option Value)} (ok : mok scope ns = true)
    (ho : G.K.lookup f = some ⟨oc, od, .func (fnOf name qual params body scope dV kV doc pm an cdv ct), osl⟩) (hcd : codeIn G.K cdv qual = true) : FnOk G f ns name qual params body scope dV kV doc pm cdv ct oc an od osl := by
  unfold mok at ok
  simp only [Bool.and_eq_true, List.all_eq_true, beq_iff_eq, decide_eq_true_eq, Bool.not_eq_true', bne_iff_ne] at ok
  obtain ⟨⟨⟨⟨⟨⟨o1, o2⟩, o3⟩, o4⟩, o5⟩, o6⟩, o7⟩ := ok
  exact ⟨ho, hcd, o1, o2, o3, o4, o5, o6, o7⟩
end
end VE
namespace VE
open M6
noncomputable section
theorem binds1 {fd : FuncData} {ns : List Nat} (hn : ns.length = 1) (h : ∀ v, bindArgs fd ⟨[v], []⟩ = pure ((ns.map nm).zip [v])) : ∀ vs s, vs.length = ns.length → BindsTo s fd ⟨vs, []⟩ ((ns.map nm).zip vs) := fun vs s hl => by
  obtain ⟨v, rfl⟩ := List.length_eq_one_iff.mp (hl.trans hn)
  exact BindsTo.of_eq (h v)
theorem binds2 {fd : FuncData} {ns : List Nat} (hn : ns.length = 2) (h : ∀ u v, bindArgs fd ⟨[u, v], []⟩ = pure ((ns.map nm).zip [u, v])) : ∀ vs s, vs.length = ns.length → BindsTo s fd ⟨vs, []⟩ ((ns.map nm).zip vs) := fun vs s hl => by
  match vs, hl.trans hn with
  | [u, v], _ => exact BindsTo.of_eq (h u v)
theorem binds4 {fd : FuncData} {ns : List Nat} (hn : ns.length = 4) (h : ∀ u v x y, bindArgs fd ⟨[u, v, x, y], []⟩ = pure ((ns.map nm).zip [u, v, x, y])) : ∀ vs s, vs.length = ns.length → BindsTo s fd ⟨vs, []⟩ ((ns.map nm).zip vs) := fun vs s hl => by
  match vs, hl.trans hn with
  | [u, v, x, y], _ => exact BindsTo.of_eq (h u v x y)
theorem obj_at (w : World) {f : Addr} {i : Nat} (h : (f, i) ∈ ixL) : (KK w).lookup f = some (fobj f i (if f = 36 then .ref 29 else .none)) := map_at (f_obj w) h
theorem code_at (w : World) {f : Addr} {i : Nat} (h : (f, i) ∈ ixL) : codeIn (KK w) (.ref (f - 1)) ("MPU." ++ sName (cst i)) = true := all_at (f_code w) h
section
variable {G : Gl nm Z7} {w : World} (hK : G.K = KK w)
include hK
theorem o_step : G.K.lookup 43 = some (fobj 43 16 .none) := by rw [hK]; exact obj_at w (f := 43) (i := 16) (getN_mem rfl)
theorem c_step : codeIn G.K (.ref 42) ("MPU." ++ sName (cst 16)) = true := by rw [hK]; exact code_at w (f := 43) (i := 16) (getN_mem rfl)
theorem D_step : FnOk G 43 [0] (sName (cst 16)) ("MPU." ++ sName (cst 16)) (sArgs (cst 16)) (sBody (cst 16)) (sScope (cst 16)) .none .none .none (.str "py65.devices.mpu6502" 194) (.ref 42) .none (.type "function") none none #[] := mok_fn (by kernel_rfl) (o_step hK) (c_step hK)
theorem d_step : DefOk G 43 [0] w_step := .mk (D_step hK) s_step (binds1 rfl fun _ => by kernel_rfl)
theorem o_reset : G.K.lookup 50 = some (fobj 50 17 .none) := by rw [hK]; exact obj_at w (f := 50) (i := 17) (getN_mem rfl)
theorem c_reset : codeIn G.K (.ref 49) ("MPU." ++ sName (cst 17)) = true := by rw [hK]; exact code_at w (f := 50) (i := 17) (getN_mem rfl)
theorem D_reset : FnOk G 50 [0] (sName (cst 17)) ("MPU." ++ sName (cst 17)) (sArgs (cst 17)) (sBody (cst 17)) (sScope (cst 17)) .none .none .none (.str "py65.devices.mpu6502" 194) (.ref 49) .none (.type "function") none none #[] := mok_fn (by kernel_rfl) (o_reset hK) (c_reset hK)
theorem d_reset : DefOk G 50 [0] w_reset := .mk (D_reset hK) s_reset (binds1 rfl fun _ => by kernel_rfl)
theorem o_irq : G.K.lookup 57 = some (fobj 57 18 .none) := by rw [hK]; exact obj_at w (f := 57) (i := 18) (getN_mem rfl)
theorem c_irq : codeIn G.K (.ref 56) ("MPU." ++ sName (cst 18)) = true := by rw [hK]; exact code_at w (f := 57) (i := 18) (getN_mem rfl)
theorem D_irq : FnOk G 57 [0] (sName (cst 18)) ("MPU." ++ sName (cst 18)) (sArgs (cst 18)) (sBody (cst 18)) (sScope (cst 18)) .none .none .none (.str "py65.devices.mpu6502" 194) (.ref 56) .none (.type "function") none none #[] := mok_fn (by kernel_rfl) (o_irq hK) (c_irq hK)
theorem d_irq : DefOk G 57 [0] w_irq := .mk (D_irq hK) s_irq (binds1 rfl fun _ => by kernel_rfl)
theorem o_ByteAt : G.K.lookup 71 = some (fobj 71 20 .none) := by rw [hK]; exact obj_at w (f := 71) (i := 20) (getN_mem rfl)
theorem c_ByteAt : codeIn G.K (.ref 70) ("MPU." ++ sName (cst 20)) = true := by rw [hK]; exact code_at w (f := 71) (i := 20) (getN_mem rfl)
theorem D_ByteAt : FnOk G 71 [0, 75] (sName (cst 20)) ("MPU." ++ sName (cst 20)) (sArgs (cst 20)) (sBody (cst 20)) (sScope (cst 20)) .none .none .none (.str "py65.devices.mpu6502" 194) (.ref 70) .none (.type "function") none none #[] := mok_fn (by kernel_rfl) (o_ByteAt hK) (c_ByteAt hK)
theorem d_ByteAt : DefOk G 71 [0, 75] w_ByteAt := .mk (D_ByteAt hK) s_ByteAt (binds2 rfl fun _ _ => by kernel_rfl)
theorem o_WordAt : G.K.lookup 78 = some (fobj 78 21 .none) := by rw [hK]; exact obj_at w (f := 78) (i := 21) (getN_mem rfl)
theorem c_WordAt : codeIn G.K (.ref 77) ("MPU." ++ sName (cst 21)) = true := by rw [hK]; exact code_at w (f := 78) (i := 21) (getN_mem rfl)
theorem D_WordAt : FnOk G 78 [0, 75] (sName (cst 21)) ("MPU." ++ sName (cst 21)) (sArgs (cst 21)) (sBody (cst 21)) (sScope (cst 21)) .none .none .none (.str "py65.devices.mpu6502" 194) (.ref 77) .none (.type "function") none none #[] := mok_fn (by kernel_rfl) (o_WordAt hK) (c_WordAt hK)
theorem d_WordAt : DefOk G 78 [0, 75] w_WordAt := .mk (D_WordAt hK) s_WordAt (binds2 rfl fun _ _ => by kernel_rfl)
theorem o_ProgramCounter : G.K.lookup 92 = some (fobj 92 23 .none) := by rw [hK]; exact obj_at w (f := 92) (i := 23) (getN_mem rfl)
theorem c_ProgramCounter : codeIn G.K (.ref 91) ("MPU." ++ sName (cst 23)) = true := by rw [hK]; exact code_at w (f := 92) (i := 23) (getN_mem rfl)
theorem D_ProgramCounter : FnOk G 92 [0] (sName (cst 23)) ("MPU." ++ sName (cst 23)) (sArgs (cst 23)) (sBody (cst 23)) (sScope (cst 23)) .none .none .none (.str "py65.devices.mpu6502" 194) (.ref 91) .none (.type "function") none none #[] := mok_fn (by kernel_rfl) (o_ProgramCounter hK) (c_ProgramCounter hK)
theorem d_ProgramCounter : DefOk G 92 [0] w_ProgramCounter := .mk (D_ProgramCounter hK) s_ProgramCounter (binds1 rfl fun _ => by kernel_rfl)
theorem o_ImmediateByte : G.K.lookup 99 = some (fobj 99 24 .none) := by rw [hK]; exact obj_at w (f := 99) (i := 24) (getN_mem rfl)
theorem c_ImmediateByte : codeIn G.K (.ref 98) ("MPU." ++ sName (cst 24)) = true := by rw [hK]; exact code_at w (f := 99) (i := 24) (getN_mem rfl)
theorem D_ImmediateByte : FnOk G 99 [0] (sName (cst 24)) ("MPU." ++ sName (cst 24)) (sArgs (cst 24)) (sBody (cst 24)) (sScope (cst 24)) .none .none .none (.str "py65.devices.mpu6502" 194) (.ref 98) .none (.type "function") none none #[] := mok_fn (by kernel_rfl) (o_ImmediateByte hK) (c_ImmediateByte hK)
theorem d_ImmediateByte : DefOk G 99 [0] w_ImmediateByte := .mk (D_ImmediateByte hK) s_ImmediateByte (binds1 rfl fun _ => by kernel_rfl)
theorem o_ZeroPageAddr : G.K.lookup 106 = some (fobj 106 25 .none) := by rw [hK]; exact obj_at w (f := 106) (i := 25) (getN_mem rfl)
theorem c_ZeroPageAddr : codeIn G.K (.ref 105) ("MPU." ++ sName (cst 25)) = true := by rw [hK]; exact code_at w (f := 106) (i := 25) (getN_mem rfl)
theorem D_ZeroPageAddr : FnOk G 106 [0] (sName (cst 25)) ("MPU." ++ sName (cst 25)) (sArgs (cst 25)) (sBody (cst 25)) (sScope (cst 25)) .none .none .none (.str "py65.devices.mpu6502" 194) (.ref 105) .none (.type "function") none none #[] := mok_fn (by kernel_rfl) (o_ZeroPageAddr hK) (c_ZeroPageAddr hK)
theorem d_ZeroPageAddr : DefOk G 106 [0] w_ZeroPageAddr := .mk (D_ZeroPageAddr hK) s_ZeroPageAddr (binds1 rfl fun _ => by kernel_rfl)
theorem o_stPush : G.K.lookup 169 = some (fobj 169 34 .none) := by rw [hK]; exact obj_at w (f := 169) (i := 34) (getN_mem rfl)
theorem c_stPush : codeIn G.K (.ref 168) ("MPU." ++ sName (cst 34)) = true := by rw [hK]; exact code_at w (f := 169) (i := 34) (getN_mem rfl)
theorem D_stPush : FnOk G 169 [0, 78] (sName (cst 34)) ("MPU." ++ sName (cst 34)) (sArgs (cst 34)) (sBody (cst 34)) (sScope (cst 34)) .none .none .none (.str "py65.devices.mpu6502" 194) (.ref 168) .none (.type "function") none none #[] := mok_fn (by kernel_rfl) (o_stPush hK) (c_stPush hK)
theorem d_stPush : DefOk G 169 [0, 78] w_stPush := .mk (D_stPush hK) s_stPush (binds2 rfl fun _ _ => by kernel_rfl)
theorem o_stPop : G.K.lookup 176 = some (fobj 176 35 .none) := by rw [hK]; exact obj_at w (f := 176) (i := 35) (getN_mem rfl)
theorem c_stPop : codeIn G.K (.ref 175) ("MPU." ++ sName (cst 35)) = true := by rw [hK]; exact code_at w (f := 176) (i := 35) (getN_mem rfl)
theorem D_stPop : FnOk G 176 [0] (sName (cst 35)) ("MPU." ++ sName (cst 35)) (sArgs (cst 35)) (sBody (cst 35)) (sScope (cst 35)) .none .none .none (.str "py65.devices.mpu6502" 194) (.ref 175) .none (.type "function") none none #[] := mok_fn (by kernel_rfl) (o_stPop hK) (c_stPop hK)
theorem d_stPop : DefOk G 176 [0] w_stPop := .mk (D_stPop hK) s_stPop (binds1 rfl fun _ => by kernel_rfl)
theorem o_stPushWord : G.K.lookup 183 = some (fobj 183 36 .none) := by rw [hK]; exact obj_at w (f := 183) (i := 36) (getN_mem rfl)
theorem c_stPushWord : codeIn G.K (.ref 182) ("MPU." ++ sName (cst 36)) = true := by rw [hK]; exact code_at w (f := 183) (i := 36) (getN_mem rfl)
theorem D_stPushWord : FnOk G 183 [0, 78] (sName (cst 36)) ("MPU." ++ sName (cst 36)) (sArgs (cst 36)) (sBody (cst 36)) (sScope (cst 36)) .none .none .none (.str "py65.devices.mpu6502" 194) (.ref 182) .none (.type "function") none none #[] := mok_fn (by kernel_rfl) (o_stPushWord hK) (c_stPushWord hK)
theorem d_stPushWord : DefOk G 183 [0, 78] w_stPushWord := .mk (D_stPushWord hK) s_stPushWord (binds2 rfl fun _ _ => by kernel_rfl)
theorem o_stPopWord : G.K.lookup 190 = some (fobj 190 37 .none) := by rw [hK]; exact obj_at w (f := 190) (i := 37) (getN_mem rfl)
theorem c_stPopWord : codeIn G.K (.ref 189) ("MPU." ++ sName (cst 37)) = true := by rw [hK]; exact code_at w (f := 190) (i := 37) (getN_mem rfl)
theorem D_stPopWord : FnOk G 190 [0] (sName (cst 37)) ("MPU." ++ sName (cst 37)) (sArgs (cst 37)) (sBody (cst 37)) (sScope (cst 37)) .none .none .none (.str "py65.devices.mpu6502" 194) (.ref 189) .none (.type "function") none none #[] := mok_fn (by kernel_rfl) (o_stPopWord hK) (c_stPopWord hK)
theorem d_stPopWord : DefOk G 190 [0] w_stPopWord := .mk (D_stPopWord hK) s_stPopWord (binds1 rfl fun _ => by kernel_rfl)
theorem o_FlagsNZ : G.K.lookup 197 = some (fobj 197 38 .none) := by rw [hK]; exact obj_at w (f := 197) (i := 38) (getN_mem rfl)
theorem c_FlagsNZ : codeIn G.K (.ref 196) ("MPU." ++ sName (cst 38)) = true := by rw [hK]; exact code_at w (f := 197) (i := 38) (getN_mem rfl)
theorem D_FlagsNZ : FnOk G 197 [0, 79] (sName (cst 38)) ("MPU." ++ sName (cst 38)) (sArgs (cst 38)) (sBody (cst 38)) (sScope (cst 38)) .none .none .none (.str "py65.devices.mpu6502" 194) (.ref 196) .none (.type "function") none none #[] := mok_fn (by kernel_rfl) (o_FlagsNZ hK) (c_FlagsNZ hK)
theorem d_FlagsNZ : DefOk G 197 [0, 79] w_FlagsNZ := .mk (D_FlagsNZ hK) s_FlagsNZ (binds2 rfl fun _ _ => by kernel_rfl)
theorem o_opADC : G.K.lookup 281 = some (fobj 281 50 .none) := by rw [hK]; exact obj_at w (f := 281) (i := 50) (getN_mem rfl)
theorem c_opADC : codeIn G.K (.ref 280) ("MPU." ++ sName (cst 50)) = true := by rw [hK]; exact code_at w (f := 281) (i := 50) (getN_mem rfl)
theorem D_opADC : FnOk G 281 [0, 14] (sName (cst 50)) ("MPU." ++ sName (cst 50)) (sArgs (cst 50)) (sBody (cst 50)) (sScope (cst 50)) .none .none .none (.str "py65.devices.mpu6502" 194) (.ref 280) .none (.type "function") none none #[] := mok_fn (by kernel_rfl) (o_opADC hK) (c_opADC hK)
theorem d_opADC : DefOk G 281 [0, 14] w_opADC := .mk (D_opADC hK) s_opADC (binds2 rfl fun _ _ => by kernel_rfl)
theorem o_opCLR : G.K.lookup 239 = some (fobj 239 44 .none) := by rw [hK]; exact obj_at w (f := 239) (i := 44) (getN_mem rfl)
theorem c_opCLR : codeIn G.K (.ref 238) ("MPU." ++ sName (cst 44)) = true := by rw [hK]; exact code_at w (f := 239) (i := 44) (getN_mem rfl)
theorem D_opCLR : FnOk G 239 [0, 14] (sName (cst 44)) ("MPU." ++ sName (cst 44)) (sArgs (cst 44)) (sBody (cst 44)) (sScope (cst 44)) .none .none .none (.str "py65.devices.mpu6502" 194) (.ref 238) .none (.type "function") none none #[] := mok_fn (by kernel_rfl) (o_opCLR hK) (c_opCLR hK)
theorem d_opCLR : DefOk G 239 [0, 14] w_opCLR := .mk (D_opCLR hK) s_opCLR (binds2 rfl fun _ _ => by kernel_rfl)
theorem o_opSET : G.K.lookup 246 = some (fobj 246 45 .none) := by rw [hK]; exact obj_at w (f := 246) (i := 45) (getN_mem rfl)
theorem c_opSET : codeIn G.K (.ref 245) ("MPU." ++ sName (cst 45)) = true := by rw [hK]; exact code_at w (f := 246) (i := 45) (getN_mem rfl)
theorem D_opSET : FnOk G 246 [0, 14] (sName (cst 45)) ("MPU." ++ sName (cst 45)) (sArgs (cst 45)) (sBody (cst 45)) (sScope (cst 45)) .none .none .none (.str "py65.devices.mpu6502" 194) (.ref 245) .none (.type "function") none none #[] := mok_fn (by kernel_rfl) (o_opSET hK) (c_opSET hK)
theorem d_opSET : DefOk G 246 [0, 14] w_opSET := .mk (D_opSET hK) s_opSET (binds2 rfl fun _ _ => by kernel_rfl)
theorem o_opROL : G.K.lookup 267 = some (fobj 267 48 .none) := by rw [hK]; exact obj_at w (f := 267) (i := 48) (getN_mem rfl)
theorem c_opROL : codeIn G.K (.ref 266) ("MPU." ++ sName (cst 48)) = true := by rw [hK]; exact code_at w (f := 267) (i := 48) (getN_mem rfl)
theorem D_opROL : FnOk G 267 [0, 14] (sName (cst 48)) ("MPU." ++ sName (cst 48)) (sArgs (cst 48)) (sBody (cst 48)) (sScope (cst 48)) .none .none .none (.str "py65.devices.mpu6502" 194) (.ref 266) .none (.type "function") none none #[] := mok_fn (by kernel_rfl) (o_opROL hK) (c_opROL hK)
theorem d_opROL : DefOk G 267 [0, 14] w_opROL := .mk (D_opROL hK) s_opROL (binds2 rfl fun _ _ => by kernel_rfl)
theorem o_opLDA : G.K.lookup 344 = some (fobj 344 59 .none) := by rw [hK]; exact obj_at w (f := 344) (i := 59) (getN_mem rfl)
theorem c_opLDA : codeIn G.K (.ref 343) ("MPU." ++ sName (cst 59)) = true := by rw [hK]; exact code_at w (f := 344) (i := 59) (getN_mem rfl)
theorem D_opLDA : FnOk G 344 [0, 14] (sName (cst 59)) ("MPU." ++ sName (cst 59)) (sArgs (cst 59)) (sBody (cst 59)) (sScope (cst 59)) .none .none .none (.str "py65.devices.mpu6502" 194) (.ref 343) .none (.type "function") none none #[] := mok_fn (by kernel_rfl) (o_opLDA hK) (c_opLDA hK)
theorem d_opLDA : DefOk G 344 [0, 14] w_opLDA := .mk (D_opLDA hK) s_opLDA (binds2 rfl fun _ _ => by kernel_rfl)
theorem o_opSTA : G.K.lookup 295 = some (fobj 295 52 .none) := by rw [hK]; exact obj_at w (f := 295) (i := 52) (getN_mem rfl)
theorem c_opSTA : codeIn G.K (.ref 294) ("MPU." ++ sName (cst 52)) = true := by rw [hK]; exact code_at w (f := 295) (i := 52) (getN_mem rfl)
theorem D_opSTA : FnOk G 295 [0, 14] (sName (cst 52)) ("MPU." ++ sName (cst 52)) (sArgs (cst 52)) (sBody (cst 52)) (sScope (cst 52)) .none .none .none (.str "py65.devices.mpu6502" 194) (.ref 294) .none (.type "function") none none #[] := mok_fn (by kernel_rfl) (o_opSTA hK) (c_opSTA hK)
theorem d_opSTA : DefOk G 295 [0, 14] w_opSTA := .mk (D_opSTA hK) s_opSTA (binds2 rfl fun _ _ => by kernel_rfl)
theorem o_opINCR : G.K.lookup 337 = some (fobj 337 58 .none) := by rw [hK]; exact obj_at w (f := 337) (i := 58) (getN_mem rfl)
theorem c_opINCR : codeIn G.K (.ref 336) ("MPU." ++ sName (cst 58)) = true := by rw [hK]; exact code_at w (f := 337) (i := 58) (getN_mem rfl)
theorem D_opINCR : FnOk G 337 [0, 14] (sName (cst 58)) ("MPU." ++ sName (cst 58)) (sArgs (cst 58)) (sBody (cst 58)) (sScope (cst 58)) .none .none .none (.str "py65.devices.mpu6502" 194) (.ref 336) .none (.type "function") none none #[] := mok_fn (by kernel_rfl) (o_opINCR hK) (c_opINCR hK)
theorem d_opINCR : DefOk G 337 [0, 14] w_opINCR := .mk (D_opINCR hK) s_opINCR (binds2 rfl fun _ _ => by kernel_rfl)
theorem o_inst_0x18 : G.K.lookup 463 = some (fobj 463 76 .none) := by rw [hK]; exact obj_at w (f := 463) (i := 76) (getN_mem rfl)
theorem c_inst_0x18 : codeIn G.K (.ref 462) ("MPU." ++ sName (cst 76)) = true := by rw [hK]; exact code_at w (f := 463) (i := 76) (getN_mem rfl)
theorem D_inst_0x18 : FnOk G 463 [0] (sName (cst 76)) ("MPU." ++ sName (cst 76)) (sArgs (cst 76)) (sBody (cst 76)) (sScope (cst 76)) .none .none .none (.str "py65.devices.mpu6502" 194) (.ref 462) .none (.type "function") none none #[] := mok_fn (by kernel_rfl) (o_inst_0x18 hK) (c_inst_0x18 hK)
theorem d_inst_0x18 : DefOk G 463 [0] w_inst_0x18 := .mk (D_inst_0x18 hK) s_inst_0x18 (binds1 rfl fun _ => by kernel_rfl)
theorem o_inst_0xa5 : G.K.lookup 1030 = some (fobj 1030 157 .none) := by rw [hK]; exact obj_at w (f := 1030) (i := 157) (getN_mem rfl)
theorem c_inst_0xa5 : codeIn G.K (.ref 1029) ("MPU." ++ sName (cst 157)) = true := by rw [hK]; exact code_at w (f := 1030) (i := 157) (getN_mem rfl)
theorem D_inst_0xa5 : FnOk G 1030 [0] (sName (cst 157)) ("MPU." ++ sName (cst 157)) (sArgs (cst 157)) (sBody (cst 157)) (sScope (cst 157)) .none .none .none (.str "py65.devices.mpu6502" 194) (.ref 1029) .none (.type "function") none none #[] := mok_fn (by kernel_rfl) (o_inst_0xa5 hK) (c_inst_0xa5 hK)
theorem d_inst_0xa5 : DefOk G 1030 [0] w_inst_0xa5 := .mk (D_inst_0xa5 hK) s_inst_0xa5 (binds1 rfl fun _ => by kernel_rfl)
theorem o_inst_0x69 : G.K.lookup 785 = some (fobj 785 122 .none) := by rw [hK]; exact obj_at w (f := 785) (i := 122) (getN_mem rfl)
theorem c_inst_0x69 : codeIn G.K (.ref 784) ("MPU." ++ sName (cst 122)) = true := by rw [hK]; exact code_at w (f := 785) (i := 122) (getN_mem rfl)
theorem D_inst_0x69 : FnOk G 785 [0] (sName (cst 122)) ("MPU." ++ sName (cst 122)) (sArgs (cst 122)) (sBody (cst 122)) (sScope (cst 122)) .none .none .none (.str "py65.devices.mpu6502" 194) (.ref 784) .none (.type "function") none none #[] := mok_fn (by kernel_rfl) (o_inst_0x69 hK) (c_inst_0x69 hK)
theorem d_inst_0x69 : DefOk G 785 [0] w_inst_0x69 := .mk (D_inst_0x69 hK) s_inst_0x69 (binds1 rfl fun _ => by kernel_rfl)
theorem o_inst_0x85 : G.K.lookup 890 = some (fobj 890 137 .none) := by rw [hK]; exact obj_at w (f := 890) (i := 137) (getN_mem rfl)
theorem c_inst_0x85 : codeIn G.K (.ref 889) ("MPU." ++ sName (cst 137)) = true := by rw [hK]; exact code_at w (f := 890) (i := 137) (getN_mem rfl)
theorem D_inst_0x85 : FnOk G 890 [0] (sName (cst 137)) ("MPU." ++ sName (cst 137)) (sArgs (cst 137)) (sBody (cst 137)) (sScope (cst 137)) .none .none .none (.str "py65.devices.mpu6502" 194) (.ref 889) .none (.type "function") none none #[] := mok_fn (by kernel_rfl) (o_inst_0x85 hK) (c_inst_0x85 hK)
theorem d_inst_0x85 : DefOk G 890 [0] w_inst_0x85 := .mk (D_inst_0x85 hK) s_inst_0x85 (binds1 rfl fun _ => by kernel_rfl)
theorem o_inst_0x78 : G.K.lookup 848 = some (fobj 848 131 .none) := by rw [hK]; exact obj_at w (f := 848) (i := 131) (getN_mem rfl)
theorem c_inst_0x78 : codeIn G.K (.ref 847) ("MPU." ++ sName (cst 131)) = true := by rw [hK]; exact code_at w (f := 848) (i := 131) (getN_mem rfl)
theorem D_inst_0x78 : FnOk G 848 [0] (sName (cst 131)) ("MPU." ++ sName (cst 131)) (sArgs (cst 131)) (sBody (cst 131)) (sScope (cst 131)) .none .none .none (.str "py65.devices.mpu6502" 194) (.ref 847) .none (.type "function") none none #[] := mok_fn (by kernel_rfl) (o_inst_0x78 hK) (c_inst_0x78 hK)
theorem d_inst_0x78 : DefOk G 848 [0] w_inst_0x78 := .mk (D_inst_0x78 hK) s_inst_0x78 (binds1 rfl fun _ => by kernel_rfl)
theorem o_inst_0x58 : G.K.lookup 722 = some (fobj 722 113 .none) := by rw [hK]; exact obj_at w (f := 722) (i := 113) (getN_mem rfl)
theorem c_inst_0x58 : codeIn G.K (.ref 721) ("MPU." ++ sName (cst 113)) = true := by rw [hK]; exact code_at w (f := 722) (i := 113) (getN_mem rfl)
theorem D_inst_0x58 : FnOk G 722 [0] (sName (cst 113)) ("MPU." ++ sName (cst 113)) (sArgs (cst 113)) (sBody (cst 113)) (sScope (cst 113)) .none .none .none (.str "py65.devices.mpu6502" 194) (.ref 721) .none (.type "function") none none #[] := mok_fn (by kernel_rfl) (o_inst_0x58 hK) (c_inst_0x58 hK)
theorem d_inst_0x58 : DefOk G 722 [0] w_inst_0x58 := .mk (D_inst_0x58 hK) s_inst_0x58 (binds1 rfl fun _ => by kernel_rfl)
theorem o_inst_0x08 : G.K.lookup 400 = some (fobj 400 67 .none) := by rw [hK]; exact obj_at w (f := 400) (i := 67) (getN_mem rfl)
theorem c_inst_0x08 : codeIn G.K (.ref 399) ("MPU." ++ sName (cst 67)) = true := by rw [hK]; exact code_at w (f := 400) (i := 67) (getN_mem rfl)
theorem D_inst_0x08 : FnOk G 400 [0] (sName (cst 67)) ("MPU." ++ sName (cst 67)) (sArgs (cst 67)) (sBody (cst 67)) (sScope (cst 67)) .none .none .none (.str "py65.devices.mpu6502" 194) (.ref 399) .none (.type "function") none none #[] := mok_fn (by kernel_rfl) (o_inst_0x08 hK) (c_inst_0x08 hK)
theorem d_inst_0x08 : DefOk G 400 [0] w_inst_0x08 := .mk (D_inst_0x08 hK) s_inst_0x08 (binds1 rfl fun _ => by kernel_rfl)
theorem o_inst_0x28 : G.K.lookup 526 = some (fobj 526 85 .none) := by rw [hK]; exact obj_at w (f := 526) (i := 85) (getN_mem rfl)
theorem c_inst_0x28 : codeIn G.K (.ref 525) ("MPU." ++ sName (cst 85)) = true := by rw [hK]; exact code_at w (f := 526) (i := 85) (getN_mem rfl)
theorem D_inst_0x28 : FnOk G 526 [0] (sName (cst 85)) ("MPU." ++ sName (cst 85)) (sArgs (cst 85)) (sBody (cst 85)) (sScope (cst 85)) .none .none .none (.str "py65.devices.mpu6502" 194) (.ref 525) .none (.type "function") none none #[] := mok_fn (by kernel_rfl) (o_inst_0x28 hK) (c_inst_0x28 hK)
theorem d_inst_0x28 : DefOk G 526 [0] w_inst_0x28 := .mk (D_inst_0x28 hK) s_inst_0x28 (binds1 rfl fun _ => by kernel_rfl)
theorem o_inst_0xa9 : G.K.lookup 1051 = some (fobj 1051 160 .none) := by rw [hK]; exact obj_at w (f := 1051) (i := 160) (getN_mem rfl)
theorem c_inst_0xa9 : codeIn G.K (.ref 1050) ("MPU." ++ sName (cst 160)) = true := by rw [hK]; exact code_at w (f := 1051) (i := 160) (getN_mem rfl)
theorem D_inst_0xa9 : FnOk G 1051 [0] (sName (cst 160)) ("MPU." ++ sName (cst 160)) (sArgs (cst 160)) (sBody (cst 160)) (sScope (cst 160)) .none .none .none (.str "py65.devices.mpu6502" 194) (.ref 1050) .none (.type "function") none none #[] := mok_fn (by kernel_rfl) (o_inst_0xa9 hK) (c_inst_0xa9 hK)
theorem d_inst_0xa9 : DefOk G 1051 [0] w_inst_0xa9 := .mk (D_inst_0xa9 hK) s_inst_0xa9 (binds1 rfl fun _ => by kernel_rfl)
theorem o_inst_0x38 : G.K.lookup 596 = some (fobj 596 95 .none) := by rw [hK]; exact obj_at w (f := 596) (i := 95) (getN_mem rfl)
theorem c_inst_0x38 : codeIn G.K (.ref 595) ("MPU." ++ sName (cst 95)) = true := by rw [hK]; exact code_at w (f := 596) (i := 95) (getN_mem rfl)
theorem D_inst_0x38 : FnOk G 596 [0] (sName (cst 95)) ("MPU." ++ sName (cst 95)) (sArgs (cst 95)) (sBody (cst 95)) (sScope (cst 95)) .none .none .none (.str "py65.devices.mpu6502" 194) (.ref 595) .none (.type "function") none none #[] := mok_fn (by kernel_rfl) (o_inst_0x38 hK) (c_inst_0x38 hK)
theorem d_inst_0x38 : DefOk G 596 [0] w_inst_0x38 := .mk (D_inst_0x38 hK) s_inst_0x38 (binds1 rfl fun _ => by kernel_rfl)
theorem o_inst_0x2a : G.K.lookup 540 = some (fobj 540 87 .none) := by rw [hK]; exact obj_at w (f := 540) (i := 87) (getN_mem rfl)
theorem c_inst_0x2a : codeIn G.K (.ref 539) ("MPU." ++ sName (cst 87)) = true := by rw [hK]; exact code_at w (f := 540) (i := 87) (getN_mem rfl)
theorem D_inst_0x2a : FnOk G 540 [0] (sName (cst 87)) ("MPU." ++ sName (cst 87)) (sArgs (cst 87)) (sBody (cst 87)) (sScope (cst 87)) .none .none .none (.str "py65.devices.mpu6502" 194) (.ref 539) .none (.type "function") none none #[] := mok_fn (by kernel_rfl) (o_inst_0x2a hK) (c_inst_0x2a hK)
theorem d_inst_0x2a : DefOk G 540 [0] w_inst_0x2a := .mk (D_inst_0x2a hK) s_inst_0x2a (binds1 rfl fun _ => by kernel_rfl)
theorem o_inst_0x48 : G.K.lookup 652 = some (fobj 652 103 .none) := by rw [hK]; exact obj_at w (f := 652) (i := 103) (getN_mem rfl)
theorem c_inst_0x48 : codeIn G.K (.ref 651) ("MPU." ++ sName (cst 103)) = true := by rw [hK]; exact code_at w (f := 652) (i := 103) (getN_mem rfl)
theorem D_inst_0x48 : FnOk G 652 [0] (sName (cst 103)) ("MPU." ++ sName (cst 103)) (sArgs (cst 103)) (sBody (cst 103)) (sScope (cst 103)) .none .none .none (.str "py65.devices.mpu6502" 194) (.ref 651) .none (.type "function") none none #[] := mok_fn (by kernel_rfl) (o_inst_0x48 hK) (c_inst_0x48 hK)
theorem d_inst_0x48 : DefOk G 652 [0] w_inst_0x48 := .mk (D_inst_0x48 hK) s_inst_0x48 (binds1 rfl fun _ => by kernel_rfl)
theorem o_inst_0xe6 : G.K.lookup 1324 = some (fobj 1324 199 .none) := by rw [hK]; exact obj_at w (f := 1324) (i := 199) (getN_mem rfl)
theorem c_inst_0xe6 : codeIn G.K (.ref 1323) ("MPU." ++ sName (cst 199)) = true := by rw [hK]; exact code_at w (f := 1324) (i := 199) (getN_mem rfl)
theorem D_inst_0xe6 : FnOk G 1324 [0] (sName (cst 199)) ("MPU." ++ sName (cst 199)) (sArgs (cst 199)) (sBody (cst 199)) (sScope (cst 199)) .none .none .none (.str "py65.devices.mpu6502" 194) (.ref 1323) .none (.type "function") none none #[] := mok_fn (by kernel_rfl) (o_inst_0xe6 hK) (c_inst_0xe6 hK)
theorem d_inst_0xe6 : DefOk G 1324 [0] w_inst_0xe6 := .mk (D_inst_0xe6 hK) s_inst_0xe6 (binds1 rfl fun _ => by kernel_rfl)
theorem o_inst_0x68 : G.K.lookup 778 = some (fobj 778 121 .none) := by rw [hK]; exact obj_at w (f := 778) (i := 121) (getN_mem rfl)
theorem c_inst_0x68 : codeIn G.K (.ref 777) ("MPU." ++ sName (cst 121)) = true := by rw [hK]; exact code_at w (f := 778) (i := 121) (getN_mem rfl)
theorem D_inst_0x68 : FnOk G 778 [0] (sName (cst 121)) ("MPU." ++ sName (cst 121)) (sArgs (cst 121)) (sBody (cst 121)) (sScope (cst 121)) .none .none .none (.str "py65.devices.mpu6502" 194) (.ref 777) .none (.type "function") none none #[] := mok_fn (by kernel_rfl) (o_inst_0x68 hK) (c_inst_0x68 hK)
theorem d_inst_0x68 : DefOk G 778 [0] w_inst_0x68 := .mk (D_inst_0x68 hK) s_inst_0x68 (binds1 rfl fun _ => by kernel_rfl)
theorem o_inst_0x40 : G.K.lookup 624 = some (fobj 624 99 .none) := by rw [hK]; exact obj_at w (f := 624) (i := 99) (getN_mem rfl)
theorem c_inst_0x40 : codeIn G.K (.ref 623) ("MPU." ++ sName (cst 99)) = true := by rw [hK]; exact code_at w (f := 624) (i := 99) (getN_mem rfl)
theorem D_inst_0x40 : FnOk G 624 [0] (sName (cst 99)) ("MPU." ++ sName (cst 99)) (sArgs (cst 99)) (sBody (cst 99)) (sScope (cst 99)) .none .none .none (.str "py65.devices.mpu6502" 194) (.ref 623) .none (.type "function") none none #[] := mok_fn (by kernel_rfl) (o_inst_0x40 hK) (c_inst_0x40 hK)
theorem d_inst_0x40 : DefOk G 624 [0] w_inst_0x40 := .mk (D_inst_0x40 hK) s_inst_0x40 (binds1 rfl fun _ => by kernel_rfl)
theorem o__law_sum : G.K.lookup 1439 = some (gobj 1439 4) := by rw [hK]; kernel_rfl
theorem c__law_sum : codeIn G.K (.ref 1438) (sName (pst 4)) = true := by rw [hK]; kernel_rfl
theorem D__law_sum : FnOk G 1439 [101] (sName (pst 4)) (sName (pst 4)) (sArgs (pst 4)) (sBody (pst 4)) (sScope (pst 4)) .none .none .none (.str "law_me0006_07" 2249) (.ref 1438) .none (.type "function") none none #[] := mok_fn (by kernel_rfl) (o__law_sum hK) (c__law_sum hK)
theorem d__law_sum : DefOk G 1439 [101] w__law_sum := .mk (D__law_sum hK) s__law_sum (binds1 rfl fun _ => by kernel_rfl)
theorem defs7 : ∀ p ∈ T7, DefOk G p.1 p.2.1 p.2.2 := (List.forall_mem_cons.mpr ⟨d_step hK, (List.forall_mem_cons.mpr ⟨d_reset hK, (List.forall_mem_cons.mpr ⟨d_irq hK, (List.forall_mem_cons.mpr ⟨d_ByteAt hK, (List.forall_mem_cons.mpr ⟨d_WordAt hK, (List.forall_mem_cons.mpr ⟨d_ProgramCounter hK, (List.forall_mem_cons.mpr ⟨d_ImmediateByte hK, (List.forall_mem_cons.mpr ⟨d_ZeroPageAddr hK, (List.forall_mem_cons.mpr ⟨d_stPush hK, (List.forall_mem_cons.mpr ⟨d_stPop hK, (List.forall_mem_cons.mpr ⟨d_stPushWord hK, (List.forall_mem_cons.mpr ⟨d_stPopWord hK, (List.forall_mem_cons.mpr ⟨d_FlagsNZ hK, (List.forall_mem_cons.mpr ⟨d_opADC hK, (List.forall_mem_cons.mpr ⟨d_opCLR hK, (List.forall_mem_cons.mpr ⟨d_opSET hK, (List.forall_mem_cons.mpr ⟨d_opROL hK, (List.forall_mem_cons.mpr ⟨d_opLDA hK, (List.forall_mem_cons.mpr ⟨d_opSTA hK, (List.forall_mem_cons.mpr ⟨d_opINCR hK, (List.forall_mem_cons.mpr ⟨d_inst_0x18 hK, (List.forall_mem_cons.mpr ⟨d_inst_0xa5 hK, (List.forall_mem_cons.mpr ⟨d_inst_0x69 hK, (List.forall_mem_cons.mpr ⟨d_inst_0x85 hK, (List.forall_mem_cons.mpr ⟨d_inst_0x78 hK, (List.forall_mem_cons.mpr ⟨d_inst_0x58 hK, (List.forall_mem_cons.mpr ⟨d_inst_0x08 hK, (List.forall_mem_cons.mpr ⟨d_inst_0x28 hK, (List.forall_mem_cons.mpr ⟨d_inst_0xa9 hK, (List.forall_mem_cons.mpr ⟨d_inst_0x38 hK, (List.forall_mem_cons.mpr ⟨d_inst_0x2a hK, (List.forall_mem_cons.mpr ⟨d_inst_0x48 hK, (List.forall_mem_cons.mpr ⟨d_inst_0xe6 hK, (List.forall_mem_cons.mpr ⟨d_inst_0x68 hK, (List.forall_mem_cons.mpr ⟨d_inst_0x40 hK, (fun _ h => (nomatch h))⟩)⟩)⟩)⟩)⟩)⟩)⟩)⟩)⟩)⟩)⟩)⟩)⟩)⟩)⟩)⟩)⟩)⟩)⟩)⟩)⟩)⟩)⟩)⟩)⟩)⟩)⟩)⟩)⟩)⟩)⟩)⟩)⟩)⟩)⟩)
theorem defsL : ∀ p ∈ T7L, DefOk G p.1 p.2.1 p.2.2 := by
  unfold T7L
  refine List.forall_mem_cons.mpr ⟨d__law_sum hK, ?_⟩
  exact defs7 hK
theorem k_dflt : ∃ o t n, (KK w).lookup 29 = some o ∧ o.data = .seq #[.none, .int 0 t] n := by
  have h : (match (KK w).lookup 29 with | some ⟨_, _, .seq vs _, _⟩ => valsB [.any, .int 0] vs.toList && (match vs.toList with | .none :: _ => true | _ => false) | _ => false) = true := by kernel_rfl
  split at h
  · rename_i c dd vs n sl ho
    obtain ⟨l⟩ := vs
    have h := Bool.and_eq_true_iff.mp h
    match l, h with
    | [.none, .int j t], h =>
      have e : (0 : Int) = j := by
        have := h.1
        simp only [valsB, valB, Bool.and_eq_true, beq_iff_eq] at this
        exact this.2.1
      subst e
      exact ⟨_, t, n, ho, rfl⟩
  · cases h
theorem init_ok (hC : G.C = CA) : InitOk G where
  D := mok_fn (by kernel_rfl) (by rw [hK]; exact obj_at w (f := 36) (i := 15) (getN_mem rfl)) (by rw [hK]; exact code_at w (f := 36) (i := 15) (getN_mem rfl))
  O := ⟨by rw [hK, hC]; kernel_rfl, by rw [hK, hC]; kernel_rfl⟩
  i := by rw [hK, hC]; kernel_rfl
  f := by rw [hK]; kernel_rfl
  g := by rw [hK, hC]; kernel_rfl
  b := fun s v vs hk hv => by
    obtain ⟨o29, t29, n29, d1, d2⟩ := k_dflt hK
    rw [hK] at hk
    match vs, hv with
    | [a, b], _ => exact BindsTo.of_defaults rfl (hk _ _ d1) d2 rfl rfl
end
theorem prom : RL.row.toRowW.promised := by w_witness2
/-- The plain claim. -/
def LawOk : Prop := ∀ ns : List Int, ns.length ≤ 63 → w_law_0 (callsOf T7L 40) ⟨[(103, .p (.raw (ns.map .int)))], []⟩ fun fl _ => fl = .ret (.p (.bool true))
end
end VE
namespace VE
open M6
noncomputable section
theorem cells_is (L : Addr) : cellsFrom (L + 1) dL.scope.names [] = [(nm 111, L + 1 + 1), (nm 105, L + 1)] := by kernel_rfl
theorem cells_fil : (dL.scope.names.filter fun y => y.2 == .cell).map (·.1) = [nm 105, nm 111] := by kernel_rfl
theorem cells_in (n : Nat) (h : dL.scope.names.lookup (nm n) = some .cell) : n ∈ [111, 105] := by
  have h1 : nm n ∈ (dL.scope.names.filter fun y => y.2 == .cell).map (·.1) := List.mem_map.mpr ⟨(nm n, .cell), List.mem_filter.mpr ⟨PySem.mem_of_lookup h, rfl⟩, rfl⟩
  rw [cells_fil] at h1
  simp only [List.mem_cons, List.not_mem_nil, or_false] at h1
  rcases h1 with h1 | h1 <;> rw [nm_ok.inj _ _ h1] <;> simp
theorem k_c1 : dL.scope.names.lookup (nm 111) = some .cell := by kernel_rfl
theorem k_c2 : dL.scope.names.lookup (nm 105) = some .cell := by kernel_rfl
theorem k_l : dL.scope.names.lookup (nm 103) = some .local := by kernel_rfl
theorem hT7 {G : Gl nm Z7} {w : World} (hK : G.K = KK w) : ∀ f ns b, getN f T7 = some (ns, b) → DefOk G f ns b := fun f ns b h => defs7 hK (f, ns, b) (getN_mem h)
theorem hT7L {G : Gl nm Z7} {w : World} (hK : G.K = KK w) : ∀ f ns b, getN f T7L = some (ns, b) → DefOk G f ns b := fun f ns b h => defsL hK (f, ns, b) (getN_mem h)
set_option maxHeartbeats 4000000 in
theorem walk_of (H : LawOk) : WalkO qq loo (fun _ _ => True) YP RL.row.toRowW dL [] fun f vs => PySem.call f vs := by
  w_on
  intro w s₀ s₁ mg mb G Y fa o pm cd doc dV kV ho hd hcd hD hmg hg args vals as hpre hlay hrd hwl hlo
  refine Ground.open G ?_
  intro T B D TE TW
  wrow_args hpre hlay hrd hwl hlo
  rename_i ns _ _ _ _ _ _ _ y vs _ hL _ _ _ hI _ hcond _
  refine enter_call ?_
  w_top on
  refine codeAny_mono ?_ (fun _ _ g => GoodW.toG g)
  have he := Dflts.none hD rfl; subst he
  have hlen : ns.length ≤ 63 := by omega
  refine codeAny_call_cells (binds := [(nm 103, .ref y)]) (by decide) ho hd (Top.nolimit T) hcd rfl (by kernel_rfl) rfl (fun x hx => ?_) (fun s₂ X => ?_) rfl rfl (by kernel_rfl)
  · cases hx with
    | head => exact .inl k_l
    | tail _ hx => cases hx
  obtain ⟨h₁, tk, rfl, _⟩ := X.done
  let g : Gl nm Z7 := ⟨nm_ok, RL.row.prog, w, KK w, qq, looseW qq loo, ExcName.means s₀.heap, mg, mb, s₁.os, s₁.heap, CA, kk_in Y, stc_ok w⟩
  let env : Env := { scope := dL.scope, locals := s₁.heap.objs.size, globals := mainGlobals, cells := cellsFrom (s₁.heap.objs.size + 1) dL.scope.names [], qual := dL.name ++ ".<locals>.", func := some fa, code := cd, frame := some s₁.heap.objs.size, builtins := builtinsNs }
  let Φ : Cx g dL.scope := { A := callerA.deeper env, h₀ := s₁.heap, L := s₁.heap.objs.size, cells := cellsFrom (s₁.heap.objs.size + 1) dL.scope.names [], qual := dL.name ++ ".<locals>.", func := some fa, code := cd, frame := some s₁.heap.objs.size, cv := [(111, s₁.heap.objs.size + 1 + 1), (105, s₁.heap.objs.size + 1)], X := fun _ _ e => e, T := T, kind := by kernel_rfl, hh := rfl, un := (by decide : callerA.units + 3 ≤ 3 * (callerA.depth + 1) + 4), dp := (by decide : callerA.depth + 1 ≤ 1000), cvnd := (by decide : [111, 105].Nodup), lowd := fun _ => (by decide : callerA.depth + 1 ≤ 400), cvin := fun _ n e => cells_in n e }
  obtain ⟨cells, Nw, CA'⟩ := Cl.news (h₀ := s₁.heap) (h := h₁) (L := s₁.heap.objs.size) (Nat.le_refl _) (cs := cellsFrom (s₁.heap.objs.size + 1) dL.scope.names []) (cm := bindC env.kindOf [(nm 103, .ref y)] fun _ => none) (fun n c hm => ⟨X.cell n c (by
    rw [cells_is] at hm
    show (cellsFrom (s₁.heap.objs.size + 1) dL.scope.names []).lookup n = some c
    rw [cells_is]
    simp only [List.mem_cons, List.not_mem_nil, or_false, Prod.mk.injEq] at hm
    rcases hm with ⟨rfl, rfl⟩ | ⟨rfl, rfl⟩
    · rfl
    · have : (nm 105 == nm 111) = false := beq_eq_false_iff_ne.mpr fun e => absurd (nm_ok.inj _ _ e) (by decide)
      simp only [List.lookup, this, beq_self_eq_true]), X.above n c hm⟩)
  rw [cells_is] at CA'
  obtain ⟨o1, o2, rfl, d1, d2⟩ := CA'.two
  have S : SimX Φ ⟨[], []⟩ ⟨[(103, .p (.raw (ns.map .int)))], []⟩ [] { s₁ with heap := h₁, toks := tk } := by
    refine ⟨_, [], [(s₁.heap.objs.size + 1 + 1, o1), (s₁.heap.objs.size + 1, o2)], ⟨X.toInCall.ns, X.toInCall.keep, X.toInCall.fresh⟩, ?_, ?_, .nil, ?_, ?_, ?_, rfl, hg⟩
    · simpa using Nw
    · show [s₁.heap.objs.size + 1 + 1, s₁.heap.objs.size + 1].Nodup
      simp
    · exact .cons d1 (fun v e => by cases e) (.cons d2 (fun v e => by cases e) .nil)
    · intro k v e
      simp only [getN] at e
      cases hk : Nat.beq k 103 with
      | false => rw [hk] at e; cases e
      | true =>
        rw [hk] at e
        have := Nat.eq_of_beq_eq_true hk
        subst this
        cases e
        obtain ⟨oy, h1, h2, n, h3⟩ := hL
        refine .loc (.ref y) k_l ?_ (.p (.raw (.inr h1) h2 h3 (PRepL.of_ints hI) .nil))
        show bindL _ [(nm 103, Value.ref y)] _ (nm 103) = _
        have k2 : (callEnvC { docDef dL.name dL.params dL.body dL.scope pm cd doc with defaults := Value.none, kwdefaults := kV } s₁.heap.objs.size fa).kindOf (nm 103) = some .local := k_l
        simp only [bindL, k2, if_true]
    · intro k c hm
      simp only [Φ, List.mem_cons, List.not_mem_nil, or_false, Prod.mk.injEq] at hm
      rcases hm with ⟨rfl, rfl⟩ | ⟨rfl, rfl⟩
      · exact ⟨.inl k_c1, by show (cellsFrom (s₁.heap.objs.size + 1) dL.scope.names []).lookup (nm 111) = _; rw [cells_is]; simp only [List.lookup, beq_self_eq_true]⟩
      · refine ⟨.inl k_c2, ?_⟩
        show (cellsFrom (s₁.heap.objs.size + 1) dL.scope.names []).lookup (nm 105) = _
        rw [cells_is]
        have : (nm 105 == nm 111) = false := beq_eq_false_iff_ne.mpr fun e => absurd (nm_ok.inj _ _ e) (by decide)
        simp only [List.lookup, this, beq_self_eq_true]
  have key := s_law_0 (G := g) (hT7 rfl) (init_ok rfl rfl) Φ (callsOf T7L 40) (callsOk (hT7L rfl) 40 _ (by show callerA.depth + 1 + 3 + 4 * 40 < 1000; decide)) _ _ [] _ _ S (H ns hlen)
  refine wpAny_mono key (fun f s' y => ?_) fun _ _ x => x.elim
  obtain ⟨W', a, τ', le, r, S', q⟩ := y
  subst q
  cases r with
  | ret r =>
    cases r with
    | p r =>
      cases r
      obtain ⟨m', n1, n2, F', Nw', nd', H', C', L', cv', o', g'⟩ := S'
      exact goodW_bool F' g' (fun cls => rfl) (by kernel_rfl) o'
theorem claim_of (H : LawOk) : RL.Holds := holds_of_walk prom (walk_of H)
end
end VE
namespace VE
open M6
theorem lvU_len (S : List Nat) : ∀ t, (lvU S t).length ≤ t
  | 0 => Nat.le_refl _
  | t + 1 => by
    have := lvU_len S t
    show (lvU S t ++ lvB (kd S t) (pt S t)).length ≤ _
    rw [List.length_append]
    unfold lvB
    split
    · exact Nat.succ_le_succ this
    · exact Nat.le_succ_of_le this
section
variable {s : List PV} {own begun : Int} {B O S0 T : Nat} {S : List Nat}
/-- The memory as the law makes it. -/
noncomputable def pl7 (S0 B O : Nat) (codes : List Int) : List Int := (((((wr (wr (pat S0) 512 codes) 49152 (hcode7 O)).set 65534 0).set 65535 192).set 32 ((B % 256 : Nat) : Int)).set 33 ((B / 256 : Nat) : Int))
theorem pl7_len (S0 B O : Nat) (codes : List Int) : (pl7 S0 B O codes).length = 65536 := by
  unfold pl7
  rw [List.length_set, List.length_set, List.length_set, List.length_set, wr_len, wr_len, pat_len]
theorem pl7_far {S0 B O : Nat} {codes : List Int} {k : Nat} (h1 : k ≠ 32) (h2 : k ≠ 33) (h3 : k ≠ 65534) (h4 : k ≠ 65535) : (pl7 S0 B O codes)[k]? = (wr (wr (pat S0) 512 codes) 49152 (hcode7 O))[k]? := by
  unfold pl7
  rw [List.getElem?_set_ne (Ne.symm h2), List.getElem?_set_ne (Ne.symm h1), List.getElem?_set_ne (Ne.symm h4), List.getElem?_set_ne (Ne.symm h3)]
theorem hc7_len (O : Nat) : (hcode7 O).length = 18 := rfl
theorem pl7_plain {S0 B O : Nat} {codes : List Int} (hc : codes.length < 1000) : Plain7 O codes (pl7 S0 B O codes) := by
  refine ⟨pl7_len .., fun i z h => ?_, ?_, ?_, fun i z h => ?_⟩
  · have hi : i < (hcode7 O).length := (List.getElem?_eq_some_iff.mp h).1
    rw [hc7_len] at hi
    rw [pl7_far (by omega) (by omega) (by omega) (by omega)]
    exact wr_in _ _ _ _ _ (by rw [wr_len, pat_len, hc7_len]; decide) h
  · unfold pl7
    rw [List.getElem?_set_ne (by decide), List.getElem?_set_ne (by decide), List.getElem?_set_ne (by decide), List.getElem?_set_self (by rw [wr_len, wr_len, pat_len]; decide)]; rfl
  · unfold pl7
    rw [List.getElem?_set_ne (by decide), List.getElem?_set_ne (by decide), List.getElem?_set_self (by rw [List.length_set, wr_len, wr_len, pat_len]; decide)]; rfl
  · have hi : i < codes.length := (List.getElem?_eq_some_iff.mp h).1
    rw [pl7_far (by omega) (by omega) (by omega) (by omega), wr_out _ _ _ _ (by omega)]
    exact wr_in _ _ _ _ _ (by rw [pat_len]; omega) h
theorem pl7_pat {S0 B O : Nat} {codes : List Int} {i : Nat} (h : i < 32) (h0 : 2 ≤ i) : (pl7 S0 B O codes)[32 + i]? = some (((23 * i + S0) % 256 : Nat) : Int) := by
  rw [pl7_far (by omega) (by omega) (by omega) (by omega), wr_out _ _ _ _ (by omega), wr_out _ _ _ _ (by omega)]
  exact pat_at S0 i h
theorem mkKo {u108 u124 u101 u134 u110 u115 u125 : VV} (h0 : S ≠ []) (h1 : S.length < 1000) (hs : s.length ≤ 63) (hT : 3 ≤ T) (hT' : T ≤ 7) (eB : begun = (B : Int)) (eO : own = (O : Int)) (hB : B < 65536) (hO : O < 256) :
    Ko ⟨s, il (nl S), own, begun, ((smU S T : Nat) : Int), u124, u101, u134, u110, 512 + ((il (octsOf (msU S T))).length : Int), pl2 (hl7 O), u115, u125⟩ S (.list (il (nl (lvU S T)))) (pl7 S0 B O (octsOf (msU S T))) (msU S T) B O ((23 * 2 + S0) % 256) ((23 * 3 + S0) % 256) (lvU S T) := by
  obtain ⟨l1, l2, l3⟩ := msU_len S T
  have lv := lvU_len S T
  have hoff : offOf (msU S T) < 1000 := by omega
  have P : Plain7 O (octsOf (msU S T)) (pl7 S0 B O (octsOf (msU S T))) := pl7_plain (by rw [octsOf_len]; exact hoff)
  have v0 := pl7_pat (S0 := S0) (B := B) (O := O) (codes := octsOf (msU S T)) (i := 2) (by decide) (by decide)
  have w0 := pl7_pat (S0 := S0) (B := B) (O := O) (codes := octsOf (msU S T)) (i := 3) (by decide) (by decide)
  refine ⟨rfl, h0, h1, hs, by omega, fun rs o7 h7 => ⟨rfl, P, (WF_ms S T).1, hO, hoff, sh_ms S T, by omega, rfl, by omega, h7, rfl, ?_, rfl, eB, ?_, eO, v0, w0, v35_ms S _ T, rfl⟩, ?_⟩
  · show 512 + ((il (octsOf (msU S T))).length : Int) = _
    rw [il_len, octsOf_len]; omega
  · show ((smU S T : Nat) : Int) = _
    rw [gain_ms]
  · refine MI.start hB (Nat.mod_lt _ (by decide)) (Nat.mod_lt _ (by decide)) ?_ (pl7_len ..) ?_ ?_ v0 w0
    · have := (WF_ms S T).2
      rwa [List.head?_eq_getElem?] at this
    · unfold pl7
      rw [List.getElem?_set_ne (by decide), List.getElem?_set_self (by rw [List.length_set, List.length_set, wr_len, wr_len, pat_len]; decide)]
    · unfold pl7
      rw [List.getElem?_set_self (by rw [List.length_set, List.length_set, List.length_set, wr_len, wr_len, pat_len]; decide)]
section
theorem s4 (h0 : S ≠ []) (h1 : S.length < 1000) (hs : s.length ≤ 63) (eB : begun = (B : Int)) (eO : own = (O : Int)) (hB : B < 65536) (hO : O < 256) (hS : S[0]? = some S0) :
    w_law_4 (callsOf T7L 40) ⟨loc4 s (il (nl S)) own begun 0 [], [.list [], .list []]⟩ QQ := by
  have hz : sizeLine = 2 ^ 24 := rfl
  have ht : (s.take (Int.toNat 4)).length ≤ 4 := by rw [List.length_take]; exact Nat.min_le_left _ _
  have e : 3 + ((s.take (Int.toNat 4)).length : Int) = ((3 + (s.take (Int.toNat 4)).length : Nat) : Int) := by omega
  rw [w4_eq]
  refine Exists.intro s (And.intro rfl (And.intro (by omega) (And.intro (by decide) ?_)))
  refine Exists.intro _ (And.intro rfl (And.intro (smallN (by omega)) ?_))
  refine And.intro ?_ ?_
  · rw [e]; exact rng_ok (by omega)
  refine forW_ind (fun t τ => ∃ tl, (t = 0 ∧ tl = [] ∨ ∃ a b c d, tl = [(108, a), (124, b), (101, c), (134, d)]) ∧ τ = ⟨loc4 s (il (nl S)) own begun ((smU S t : Nat) : Int) tl, [.list (stp (msU S t)), .list (il (nl (lvU S t)))]⟩) ⟨[], .inl ⟨rfl, rfl⟩, rfl⟩ ?_ ?_
  · rintro t v τ R hv ⟨tl, htl, rfl⟩ hR
    rw [e] at hv
    obtain ⟨hi, rfl⟩ := range_at hv
    obtain ⟨l1, l2, l3⟩ := msU_len S t
    have lv := lvU_len S t
    have e1 : smU S (t + 1) = smU S t + blkSum (kd S t) (pt S t) := rfl
    have e2 : msU S (t + 1) = msU S t ++ blk (kd S t) (pt S t) := rfl
    have e3 : lvU S (t + 1) = lvU S t ++ lvB (kd S t) (pt S t) := rfl
    rw [e1, e2, e3] at hR
    exact s4_0 h0 h1 htl (by omega) (by omega) fun a b c d => hR _ ⟨_, .inr ⟨a, b, c, d, rfl⟩, rfl⟩
  · rintro τ ⟨tl, htl, rfl⟩
    rw [e, range_len] at htl ⊢
    rcases htl with ⟨h, -⟩ | ⟨a, b, c, d, rfl⟩
    · omega
    obtain ⟨l1, l2, l3⟩ := msU_len S (3 + (s.take (Int.toNat 4)).length)
    have K := fun u110 u115 u125 => mkKo (u108 := a) (u124 := b) (u101 := c) (u134 := d) (u110 := u110) (u115 := u115) (u125 := u125) (T := 3 + (s.take (Int.toNat 4)).length) (S0 := S0) h0 h1 hs (by omega) (by omega) eB eO hB hO
    unfold pl7 at K
    exact s5 (by omega) (by omega) eB eO hS K
end
section
theorem s3 (h0 : S ≠ []) (h1 : S.length < 1000) (hs : s.length ≤ 63) (eB : begun = (B : Int)) (eO : own = (O : Int)) (hB : B < 65536) (hO : O < 256) (hS : S[0]? = some S0) :
    w_law_3 (callsOf T7L 40) ⟨(103, .p (.raw s)) :: (105, .p (.lst (il (nl S)))) :: (106, I own) :: (107, I begun) :: [], []⟩ QQ := by
  unfold w_law_3
  refine And.intro (szL rfl) ?_
  refine And.intro (szL rfl) ?_
  exact s4 h0 h1 hs eB eO hB hO hS
end
section
theorem s2 (h0 : S ≠ []) (h1 : S.length < 1000) (hs : s.length ≤ 63) (eO : own = (O : Int)) (hO : O < 256) (hS : S[0]? = some S0) :
    w_law_2 (callsOf T7L 40) ⟨(103, .p (.raw s)) :: (105, .p (.lst (il (nl S)))) :: (106, I own) :: [], []⟩ QQ := by
  unfold w_law_2
  refine And.intro (by decide) (Exists.intro _ (Exists.intro _ (And.intro rfl (And.intro (il_at (k := 0) (nl_at hS)) ?_))))
  refine And.intro (mul_l (by decide)) ?_
  refine And.intro (by decide) ?_
  exact s3 (B := 11 * S0 % 65536) h0 h1 hs (by rw [show 11 * (S0 : Int) = ((11 * S0 : Nat) : Int) by omega]; exact fmodN _ _) eO (Nat.mod_lt _ (by decide)) hO hS
end
section
theorem s1 {S' : List Nat} {q : Nat} (h1 : (S' ++ [q]).length < 1000) (hs : s.length ≤ 63) (hS : (S' ++ [q])[0]? = some S0) :
    w_law_1 (callsOf T7L 40) ⟨(103, .p (.raw s)) :: (105, .p (.lst (il (nl (S' ++ [q]))))) :: [], []⟩ QQ := by
  unfold w_law_1
  refine And.intro (by decide) (Exists.intro _ (Exists.intro _ (And.intro rfl (And.intro (pick_last (z := .int (q : Int)) ?_) ?_))))
  · unfold il nl; rw [List.getLast?_map, List.getLast?_map, List.getLast?_concat]; rfl
  refine And.intro (IntMulOk.of_right (by decide)) ?_
  refine And.intro (by decide) ?_
  refine s2 (O := 1 + q * 7 % 255) (by simp) h1 hs ?_ (by omega) hS
  have : Int.fmod ((q : Int) * 7) 255 = ((q * 7 % 255 : Nat) : Int) := by
    rw [show (q : Int) * 7 = ((q * 7 : Nat) : Int) by omega]; exact fmodN _ _
  rw [this]; omega
end
noncomputable def seedF (v : PV) : PV := match v with
  | .int i => .int (Int.fmod i 65536)
  | v => v
section
theorem law_ok : LawOk := by
  intro ns hns
  have hz : sizeLine = 2 ^ 24 := rfl
  have hl : (il ns).length ≤ 63 := by rw [il_len]; exact hns
  have h12 : ((il ns).take (Int.toNat 12)).length ≤ 12 := by rw [List.length_take]; exact Nat.min_le_left _ _
  have h64 : ((il ns).take (Int.toNat 64)).length ≤ 64 := by rw [List.length_take]; exact Nat.min_le_left _ _
  refine Exists.intro (il ns) (And.intro rfl (And.intro (by omega) (And.intro (by decide) ?_)))
  refine Exists.intro _ (And.intro rfl ?_)
  refine And.intro (by omega) ?_
  refine compW_ind seedF _ [] ?_ ?_
  · intro v hv R hR
    have hv := List.mem_of_mem_take hv
    obtain ⟨i, _, rfl⟩ := List.mem_map.mp hv
    refine And.intro (by decide) ?_
    exact And.intro rfl hR
  refine Exists.intro (il ns) (And.intro rfl (And.intro (by omega) (And.intro (by decide) ?_)))
  refine Exists.intro _ (And.intro rfl (And.intro (smallN (by omega)) ?_))
  refine And.intro (szL rfl) ?_
  have key : ∀ (X : List PV) (z : Int) (S' : List Nat), X = il (nl S') → S'.length ≤ 12 → ∀ n : Nat, z = (n : Int) → w_law_1 (callsOf T7L 40) ⟨(103, .p (.raw (il ns))) :: (105, .p (.lst (X ++ [.int z]))) :: [], []⟩ QQ := by
    rintro _ _ S' rfl h n rfl
    rw [nl_snoc]
    obtain ⟨S0, hS⟩ : ∃ S0, (S' ++ [n])[0]? = some S0 := ⟨_, List.getElem?_eq_getElem (by rw [List.length_append]; exact Nat.succ_pos _)⟩
    exact s1 (by rw [List.length_append]; show S'.length + 1 < 1000; omega) hl hS
  have ex : [] ++ ((il ns).take (Int.toNat 12)).map seedF = il (nl ((ns.take 12).map fun i => (Int.fmod i 65536).toNat)) := by
    rw [List.nil_append, take_il]
    unfold il nl
    rw [List.map_map, List.map_map, List.map_map]
    refine List.map_congr_left fun i _ => ?_
    show PV.int (Int.fmod i 65536) = .int (((Int.fmod i 65536).toNat : Nat) : Int)
    rw [Int.toNat_of_nonneg (Int.fmod_nonneg_of_pos _ (by decide))]
  refine Exists.intro _ (Exists.intro _ (And.intro rfl (And.intro rfl (And.intro ?_ ?_))))
  · rw [List.nil_append, List.length_map]; show _ + 1 ≤ _; omega
  exact key _ _ _ ex (by rw [List.length_map, List.length_take]; exact Nat.min_le_left _ _) (((il ns).take (Int.toNat 64)).length + 5) (by omega)
end
end
theorem holds07 : RL.Holds := claim_of law_ok
end VE
theorem PySem.Challenge.cw_me0006_07_holds : PySem.Challenge.rw_me0006_07.Holds :=
  VE.holds07
