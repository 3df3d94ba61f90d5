import PyProof.Rows.All
import Wide.All
import OpenK.AllK
import Wide.FinOn
import KE.KLam
import KE.KRevSl
import KE.KSortKey
import PyProof.ListRange
import PyProof.EnumFor
import PyProof.EnumMake
import PySem.Challenge.RW_me0006_02
open PySem PySem.W PyProof.Rows PySem.Calls
set_option Elab.async false
set_option linter.unusedVariables false
set_option linter.unusedSimpArgs false
set_option maxRecDepth 100000
set_option genSizeOfSpec false
set_option compiler.extract_closed false
set_option maxHeartbeats 16000000
namespace VE
noncomputable def qg : List Nat → Nat → Nat
  | [], _ => 0
  | x :: _, 0 => x
  | _ :: r, n + 1 => qg r n
/-- A sum, read off its code. -/
noncomputable def qr (ρ ks : List Nat) : Nat → Nat → List Nat → List Nat
  | 0, _, s => s
  | f + 1, n, s => match n % 32 with
    | 0 => s
    | 1 => match s with
      | y :: x :: s => qr ρ ks f (n / 32) ((x + y) :: s)
      | s => s
    | 2 => qr ρ ks f (n / 1024) (qg ks (n / 32 % 32) :: s)
    | 3 => match s with
      | x :: s => qr ρ ks f (n / 1024) (qg ks (n / 32 % 32) * x :: s)
      | s => s
    | 4 => match s with
      | x :: s => qr ρ ks f (n / 1024) (x * qg ks (n / 32 % 32) :: s)
      | s => s
    | t + 5 => qr ρ ks f (n / 32) (qg ρ t :: s)
noncomputable def qh : List Nat → Prop
  | y :: x :: _ => x ≤ y
  | _ => True
noncomputable def QH (ρ ks : List Nat) (n : Nat) : Prop := qh (qr ρ ks 99 n [])
noncomputable def qa : List Nat → List Nat → List Nat
  | [], b => b
  | x :: a, [] => x :: a
  | x :: a, y :: b => (x + y) :: qa a b
noncomputable def qm' (k : Nat) : List Nat → List Nat
  | [] => []
  | x :: a => k * x :: qm' k a
noncomputable def qu : Nat → List Nat
  | 0 => [1]
  | n + 1 => 0 :: qu n
noncomputable def qd : List Nat → List Nat → Nat
  | c :: cs, x :: xs => c * x + qd cs xs
  | _, _ => 0
noncomputable def qs (ks : List Nat) : Nat → Nat → List (List Nat) → List (List Nat)
  | 0, _, s => s
  | f + 1, n, s => match n % 32 with
    | 0 => s
    | 1 => match s with
      | y :: x :: s => qs ks f (n / 32) (qa x y :: s)
      | s => s
    | 2 => qs ks f (n / 1024) ([qg ks (n / 32 % 32)] :: s)
    | 3 => match s with
      | x :: s => qs ks f (n / 1024) (qm' (qg ks (n / 32 % 32)) x :: s)
      | s => s
    | 4 => match s with
      | x :: s => qs ks f (n / 1024) (qm' (qg ks (n / 32 % 32)) x :: s)
      | s => s
    | t + 5 => qs ks f (n / 32) (qu (t + 1) :: s)
theorem qd_a : ∀ a b r, qd (qa a b) r = qd a r + qd b r
  | [], b, r => by unfold qa; cases r <;> cases b <;> exact (Nat.zero_add _).symm
  | x :: a, [], r => by cases r <;> exact (Nat.add_zero _).symm
  | x :: a, y :: b, [] => rfl
  | x :: a, y :: b, z :: r => by
    show (x + y) * z + qd (qa a b) r = (x * z + qd a r) + (y * z + qd b r)
    rw [qd_a a b r, Nat.add_mul, Nat.add_add_add_comm]
theorem qd_m (k : Nat) : ∀ a r, qd (qm' k a) r = k * qd a r
  | [], r => by cases r <;> rfl
  | x :: a, [] => rfl
  | x :: a, z :: r => by
    show k * x * z + qd (qm' k a) r = k * (x * z + qd a r)
    rw [qd_m k a r, Nat.mul_add, Nat.mul_assoc]
theorem qd_u : ∀ n r, qd (qu n) r = qg r n
  | 0, [] => rfl
  | 0, x :: r => by show 1 * x + qd [] r = x; cases r <;> exact Nat.one_mul x
  | n + 1, [] => rfl
  | n + 1, x :: r => by show 0 * x + qd (qu n) r = qg r n; rw [qd_u n r, Nat.zero_mul, Nat.zero_add]
theorem qr_s (ρ ks : List Nat) : ∀ f n s, qr ρ ks f n (s.map fun a => qd a (1 :: ρ)) = (qs ks f n s).map fun a => qd a (1 :: ρ) := by
  intro f
  induction f with
  | zero => intro n s; rfl
  | succ f ih =>
    intro n s
    show (match n % 32 with | 0 => _ | 1 => _ | 2 => _ | 3 => _ | 4 => _ | t + 5 => _ : List Nat) = List.map _ (match n % 32 with | 0 => _ | 1 => _ | 2 => _ | 3 => _ | 4 => _ | t + 5 => _ : List (List Nat))
    match n % 32 with
    | 0 => rfl
    | 1 =>
      match s with
      | [] => rfl
      | [x] => rfl
      | y :: x :: s =>
        show qr ρ ks f (n / 32) ((qd x (1 :: ρ) + qd y (1 :: ρ)) :: s.map _) = _
        rw [← qd_a]; exact ih _ (qa x y :: s)
    | 2 =>
      have := ih (n / 1024) ([qg ks (n / 32 % 32)] :: s)
      rw [← this]
      show _ = qr ρ ks f (n / 1024) ((qg ks (n / 32 % 32) * 1 + qd [] ρ) :: s.map _)
      rw [Nat.mul_one]; cases ρ <;> rfl
    | 3 =>
      match s with
      | [] => rfl
      | x :: s =>
        show qr ρ ks f (n / 1024) (qg ks (n / 32 % 32) * qd x (1 :: ρ) :: s.map _) = _
        rw [← qd_m]; exact ih _ (qm' _ x :: s)
    | 4 =>
      match s with
      | [] => rfl
      | x :: s =>
        show qr ρ ks f (n / 1024) (qd x (1 :: ρ) * qg ks (n / 32 % 32) :: s.map _) = _
        rw [Nat.mul_comm, ← qd_m]; exact ih _ (qm' _ x :: s)
    | t + 5 =>
      have := ih (n / 32) (qu (t + 1) :: s)
      rw [← this]
      show _ = qr ρ ks f (n / 32) (qd (qu (t + 1)) (1 :: ρ) :: s.map _)
      rw [qd_u]; rfl
/-- Two sides of a code. -/
noncomputable def ql (ks : List Nat) (n : Nat) : List Nat := match qs ks 99 n [] with
  | _ :: x :: _ => x
  | _ => []
noncomputable def qlr (ks : List Nat) (n : Nat) : List Nat := match qs ks 99 n [] with
  | y :: _ :: _ => y
  | _ => []
theorem QH_l {ρ ks : List Nat} {n : Nat} (h : QH ρ ks n) : qd (ql ks n) (1 :: ρ) ≤ qd (qlr ks n) (1 :: ρ) := by
  have e : qr ρ ks 99 n [] = _ := qr_s ρ ks 99 n []
  unfold QH at h
  rw [e] at h
  unfold ql qlr
  match qs ks 99 n [], h with
  | [], _ => exact Nat.le_refl _
  | [x], _ => exact Nat.le_refl _
  | y :: x :: s, h => exact h
theorem QH_r {ρ ks : List Nat} {n : Nat} (h : qd (ql ks n) (1 :: ρ) ≤ qd (qlr ks n) (1 :: ρ)) : QH ρ ks n := by
  have e : qr ρ ks 99 n [] = _ := qr_s ρ ks 99 n []
  unfold QH
  rw [e]
  unfold ql qlr at h
  match qs ks 99 n [], h with
  | [], _ => trivial
  | [x], _ => trivial
  | y :: x :: s, h => exact h
/-- Side by side: no coefficient is over. -/
noncomputable def qc : List Nat → List Nat → Bool
  | [], _ => true
  | x :: a, [] => Nat.beq x 0 && qc a []
  | x :: a, y :: b => Nat.ble x y && qc a b
theorem qc_le : ∀ a b r, qc a b = true → qd a r ≤ qd b r
  | [], b, r, _ => by cases r <;> exact Nat.zero_le _
  | x :: a, [], [], h => Nat.le_refl _
  | x :: a, [], z :: r, h => by
    obtain ⟨h1, h2⟩ := (Bool.and_eq_true (Nat.beq x 0) (qc a [])).mp h
    have := qc_le a [] r h2
    rw [Nat.eq_of_beq_eq_true h1]
    show 0 * z + qd a r ≤ 0
    rw [Nat.zero_mul, Nat.zero_add]; cases r <;> exact this
  | x :: a, y :: b, [], h => Nat.le_refl _
  | x :: a, y :: b, z :: r, h => by
    obtain ⟨h1, h2⟩ := (Bool.and_eq_true (Nat.ble x y) (qc a b)).mp h
    exact Nat.add_le_add (Nat.mul_le_mul_right z (Nat.le_of_ble_eq_true h1)) (qc_le a b r h2)
noncomputable def qk (ks : List Nat) : List (Nat × Nat) → List Nat × List Nat
  | [] => ([], [])
  | (c, n) :: r => (qa (qm' c (ql ks n)) (qk ks r).1, qa (qm' c (qlr ks n)) (qk ks r).2)
/-- The check: m times the goal and the hypotheses' sum. -/
noncomputable def qok (ks : List Nat) (m g : Nat) (cs : List (Nat × Nat)) : Bool := Nat.ble 1 m && qc (qa (qm' m (ql ks g)) (qk ks cs).2) (qa [m - 1] (qa (qm' m (qlr ks g)) (qk ks cs).1))
theorem qk_le {ρ ks : List Nat} : ∀ cs : List (Nat × Nat), (∀ x ∈ cs, QH ρ ks x.2) → qd (qk ks cs).1 (1 :: ρ) ≤ qd (qk ks cs).2 (1 :: ρ)
  | [], _ => Nat.le_refl _
  | (c, n) :: r, h => by
    show qd (qa _ _) _ ≤ qd (qa _ _) _
    rw [qd_a, qd_a, qd_m, qd_m]
    exact Nat.add_le_add (Nat.mul_le_mul_left c (QH_l (h (c, n) (List.mem_cons_self ..)))) (qk_le r fun x hx => h x (List.mem_cons_of_mem _ hx))
theorem qfin {m a b c d : Nat} (h1 : 1 ≤ m) (h : m * a + d ≤ (m - 1) + (m * b + c)) (h2 : c ≤ d) : a ≤ b := by
  refine Nat.le_of_lt_succ (Nat.lt_of_mul_lt_mul_left (a := m) ?_)
  rw [Nat.mul_succ]; omega
theorem lq {ρ : List Nat} (ks : List Nat) (m g : Nat) (cs : List (Nat × Nat)) (h : qok ks m g cs = true) (hs : ∀ x ∈ cs, QH ρ ks x.2) : QH ρ ks g := by
  obtain ⟨h1, h2⟩ := (Bool.and_eq_true _ _).mp h
  have h3 := qc_le _ _ (1 :: ρ) h2
  rw [qd_a, qd_a, qd_a, qd_m, qd_m] at h3
  have e : qd [m - 1] (1 :: ρ) = m - 1 := by show (m - 1) * 1 + qd [] ρ = m - 1; rw [Nat.mul_one]; cases ρ <;> rfl
  rw [e] at h3
  exact QH_r (qfin (Nat.le_of_ble_eq_true h1) h3 (qk_le cs hs))
theorem qq1 (ρ ks : List Nat) (m g c1 n1 : Nat) (ok : qok ks m g [(c1, n1)] = true) (h1 : QH ρ ks n1) : QH ρ ks g :=
  lq ks m g _ ok fun x hx => by cases hx with
    | head => exact h1
    | tail _ hx => cases hx
theorem qq0 (ρ ks : List Nat) (g : Nat) (ok : qok ks 1 g [] = true) : QH ρ ks g := lq ks 1 g _ ok fun x hx => by cases hx
theorem qx {ρ ks : List Nat} {c n : Nat} {cs : List (Nat × Nat)} (h : QH ρ ks n) (hs : ∀ x ∈ cs, QH ρ ks x.2) : ∀ x ∈ (c, n) :: cs, QH ρ ks x.2 := fun x hx => by
  cases hx with
  | head => exact h
  | tail _ hx => exact hs x hx
theorem qn {ρ ks : List Nat} : ∀ x ∈ ([] : List (Nat × Nat)), QH ρ ks x.2 := fun x hx => by cases hx
theorem qq2 (ρ ks : List Nat) (m g c1 n1 c2 n2 : Nat) (ok : qok ks m g [(c1, n1), (c2, n2)] = true) (h1 : QH ρ ks n1) (h2 : QH ρ ks n2) : QH ρ ks g := lq ks m g _ ok (qx h1 (qx h2 qn))
theorem qq3 (ρ ks : List Nat) (m g c1 n1 c2 n2 c3 n3 : Nat) (ok : qok ks m g [(c1, n1), (c2, n2), (c3, n3)] = true) (h1 : QH ρ ks n1) (h2 : QH ρ ks n2) (h3 : QH ρ ks n3) : QH ρ ks g := lq ks m g _ ok (qx h1 (qx h2 (qx h3 qn)))
theorem qq4 (ρ ks : List Nat) (m g c1 n1 c2 n2 c3 n3 c4 n4 : Nat) (ok : qok ks m g [(c1, n1), (c2, n2), (c3, n3), (c4, n4)] = true) (h1 : QH ρ ks n1) (h2 : QH ρ ks n2) (h3 : QH ρ ks n3) (h4 : QH ρ ks n4) : QH ρ ks g := lq ks m g _ ok (qx h1 (qx h2 (qx h3 (qx h4 qn))))
theorem qq5 (ρ ks : List Nat) (m g c1 n1 c2 n2 c3 n3 c4 n4 c5 n5 : Nat) (ok : qok ks m g [(c1, n1), (c2, n2), (c3, n3), (c4, n4), (c5, n5)] = true) (h1 : QH ρ ks n1) (h2 : QH ρ ks n2) (h3 : QH ρ ks n3) (h4 : QH ρ ks n4) (h5 : QH ρ ks n5) : QH ρ ks g := lq ks m g _ ok (qx h1 (qx h2 (qx h3 (qx h4 (qx h5 qn)))))
theorem qE {a b : Nat} (h : a = b) : a ≤ b := Nat.le_of_eq h
theorem qF {a b : Nat} (h : a = b) : b ≤ a := Nat.le_of_eq h.symm
theorem qL {a b : Nat} (h : ¬ a ≤ b) : b + 1 ≤ a := Nat.lt_of_not_le h
theorem qT {a b : Nat} (h : ¬ a < b) : b ≤ a := Nat.le_of_not_lt h
theorem qP {a : Nat} (h : ¬ a = 0) : 0 + 1 ≤ a := Nat.pos_of_ne_zero h
theorem qZ (h : 1 ≤ 0) : False := Nat.not_succ_le_zero 0 h
theorem qt : true = true := rfl
theorem qS (a b : Nat) : a ≤ a - b + b := (Nat.le_total b a).elim (fun h => Nat.le_of_eq (Nat.sub_add_cancel h).symm) (fun h => Nat.le_trans h (Nat.le_add_left b _))
theorem qR {a b : Nat} (h : b ≤ a) : a - b + b ≤ a := Nat.le_of_eq (Nat.sub_add_cancel h)
theorem qD (x k : Nat) : k * (x / k) + x % k ≤ x := Nat.le_of_eq (Nat.div_add_mod x k)
theorem qD' (x k : Nat) : x ≤ k * (x / k) + x % k := Nat.le_of_eq (Nat.div_add_mod x k).symm
theorem qM (x k : Nat) : x % (k + 1) + 1 ≤ k + 1 := Nat.mod_lt x (Nat.succ_pos k)
theorem qIa {a b : Nat} (h : (a : Int) ≤ (b : Int)) : a ≤ b := Int.ofNat_le.mp h
theorem qIb {a b : Nat} (h : (a : Int) < (b : Int)) : a + 1 ≤ b := Int.ofNat_lt.mp h
theorem qIc {a b : Nat} (h : (a : Int) = (b : Int)) : a = b := Int.ofNat.inj h
theorem qIe {a b : Nat} (h : ¬ (a : Int) < (b : Int)) : b ≤ a := Nat.le_of_not_lt fun q => h (Int.ofNat_lt.mpr q)
theorem qGa {a b : Nat} (h : a ≤ b) : (a : Int) ≤ (b : Int) := Int.ofNat_le.mpr h
theorem qGb {a b : Nat} (h : a + 1 ≤ b) : (a : Int) < (b : Int) := Int.ofNat_lt.mpr h
theorem qGc {a b : Nat} (h : a = b) : (a : Int) = (b : Int) := congrArg Int.ofNat h
theorem noB {P : Prop} (h : false = true) : P := nomatch h
theorem noO {α : Type} {a : α} {P : Prop} (h : none = some a) : P := nomatch h
end VE
namespace M6
section
variable (p : Program) (n₀ : Nat) (ann : Option Value)
/-- n steps of a statement's run at the top. -/
noncomputable def Rn (w : World) (n : Nat) (s : Shared) (t : Thread) (s' : Shared) (t' : Thread) : Prop := ∀ N r, segRun treeTable p w n₀ ann 0 N s' t' = some r → segRun treeTable p w n₀ ann 0 (n + N) s t = some r
variable (g : Array GenState) (d : Drawn) (os : OsState)
/-- A tree runs to its value within n steps, whatever stands behind it. -/
structure XR {α : Type} (w : World) (n : Nat) (m : Sem α) (h : Heap) (t : Nat) (pos : Pos) (a : α) (h' : Heap) (t' : Nat) (pos' : Pos) : Prop where
  run : ∀ (K : α → Sem Fin) (H : Value → Sem Fin) (gd : Bool → Bool) (lv : List Value → List Value) (code : Code) (f : Frame) (B : List Frame), Rn p n₀ ann w n ⟨h, g, d, t, os⟩ ⟨m.wrap K H gd lv, code, pos, f :: B⟩ ⟨h', g, d, t', os⟩ ⟨K a, code, pos', f :: B⟩
end
section
variable {p : Program} {n₀ : Nat} {ann : Option Value} {g : Array GenState} {d : Drawn} {os : OsState} {w : World} {α β : Type}
theorem Rn.refl {s : Shared} {t : Thread} : Rn p n₀ ann w 0 s t s t := fun N r h => by rw [Nat.zero_add]; exact h
theorem Rn.trans {n k : Nat} {s s₁ s₂ : Shared} {t t₁ t₂ : Thread} (h : Rn p n₀ ann w n s t s₁ t₁) (h' : Rn p n₀ ann w k s₁ t₁ s₂ t₂) : Rn p n₀ ann w (n + k) s t s₂ t₂ := fun N r q => by
  rw [Nat.add_assoc]; exact h _ _ (h' _ _ q)
theorem Rn.step {s s₁ : Shared} {t t₁ : Thread} (h1 : endAt 0 t = none) (h2 : stepOk n₀ ann t = true) (h3 : step (denote treeTable) p w s t = .go s₁ t₁) : Rn p n₀ ann w 1 s t s₁ t₁ := fun N r q => by
  rw [Nat.add_comm]
  unfold segRun
  rw [h1, h2, h3]
  exact q
theorem Rn.go {n : Nat} {s s₁ : Shared} {t t₁ : Thread} (h : segGo treeTable p w n₀ ann 0 n s t = some (s₁, t₁)) : Rn p n₀ ann w n s t s₁ t₁ := fun N r q => seg_go h q
noncomputable def idle : Sem Fin → Bool
  | .pure _ => false
  | _ => true
theorem end_idle {t : Thread} (h : idle t.cur = true) : endAt 0 t = none := by
  unfold endAt
  cases h1 : (t.stack.length == 0) with
  | false => rfl
  | true =>
    cases h2 : t.cur with
    | pure f => rw [h2] at h; cases h
    | _ => rfl
variable {h h₁ h₂ : Heap} {t t₁ t₂ : Nat} {pos pos₁ pos₂ : Pos} {n k : Nat}
theorem XR.at_n {n n' : Nat} {m : Sem α} {a : α} (x : XR p n₀ ann g d os w n m h t pos a h₁ t₁ pos₁) (e : n = n') : XR p n₀ ann g d os w n' m h t pos a h₁ t₁ pos₁ := e ▸ x
theorem XR_pure {a : α} : XR p n₀ ann g d os w 0 (pure a : Sem α) h t pos a h t pos := ⟨fun _ _ _ _ _ _ _ => Rn.refl⟩
theorem XR_bind {m : Sem α} {f : α → Sem β} {a : α} {b : β} (x : XR p n₀ ann g d os w n m h t pos a h₁ t₁ pos₁) (x' : XR p n₀ ann g d os w k (f a) h₁ t₁ pos₁ b h₂ t₂ pos₂) : XR p n₀ ann g d os w (n + k) (m >>= f) h t pos b h₂ t₂ pos₂ := ⟨fun K H gd lv code fr B => by
  rw [Sem.bind_eq_wrap', Sem.wrap_wrap]
  exact (x.run (fun a => (f a).wrap K H gd lv) _ _ _ code fr B).trans (x'.run K H gd lv code fr B)⟩
theorem XR_holding {m : Sem α} {vs : List Value} {a : α} (x : XR p n₀ ann g d os w n m h t pos a h₁ t₁ pos₁) : XR p n₀ ann g d os w n (holding vs m) h t pos a h₁ t₁ pos₁ := by
  unfold holding
  split
  · exact x
  · refine ⟨fun K H gd lv code fr B => ?_⟩
    rw [Sem.keep_eq_wrap, Sem.wrap_wrap]
    exact x.run K _ _ _ code fr B
theorem XR_load {a : Addr} {q : Option Value} {o : Obj} (e : h.get? a = some o) : XR p n₀ ann g d os w 1 (.load a q .pure) h t pos o h t pos := ⟨fun K H gd lv code fr B => by
  refine Rn.step (end_idle rfl) rfl ?_
  show (match h.get? a with | some o => _ | none => _) = _
  rw [e]
  rfl⟩
theorem XR_fresh : XR p n₀ ann g d os w 1 fresh h t pos t h (t + 1) pos := ⟨fun K H gd lv code fr B => Rn.step (end_idle rfl) rfl rfl⟩
theorem XR_alloc {o : Obj} : XR p n₀ ann g d os w 1 (alloc o) h t pos h.objs.size (h.push o) t pos := ⟨fun K H gd lv code fr B => Rn.step (end_idle rfl) rfl rfl⟩
theorem XR_ask : XR p n₀ ann g d os w 1 ask h t pos ⟨p, w.params⟩ h t pos := ⟨fun K H gd lv code fr B => Rn.step (end_idle rfl) rfl rfl⟩
theorem XR_point : XR p n₀ ann g d os w 1 point h t pos () h t pos := ⟨fun K H gd lv code fr B => Rn.step (end_idle rfl) rfl rfl⟩
theorem XR_standAt {q : Pos} : XR p n₀ ann g d os w 1 (standAt q) h t pos () h t q := ⟨fun K H gd lv code fr B => Rn.step (end_idle rfl) rfl rfl⟩
theorem XR_update {a : Addr} {q : Option Value} {f : Obj → Obj} {o : Obj} (e : h.get? a = some o) (ha : Nat.ble n₀ a = true) : XR p n₀ ann g d os w 1 (.update a q f .pure) h t pos () (h.update a f) t pos := ⟨fun K H gd lv code fr B => by
  refine Rn.step (end_idle rfl) ?_ ?_
  · show (true && (Nat.ble n₀ a || _ || _ || _)) = true
    rw [ha]; rfl
  show (if (h.get? a).isSome = true then _ else _) = _
  rw [e]
  rfl⟩
end
end M6
namespace M6
section
variable {p : Program} {n₀ : Nat} {ann : Option Value} {g : Array GenState} {d : Drawn} {os : OsState} {w : World} {h : Heap} {t : Nat} {pos : Pos}
/-- Texts with their tokens. -/
noncomputable def texts : List Str → Nat → List Value
  | [], _ => []
  | x :: l, t => .str x t :: texts l (t + 1)
theorem XR_mkText {x : Str} : XR p n₀ ann g d os w 1 (mkText x) h t pos (.str x t) h (t + 1) pos := by
  unfold mkText
  refine XR.at_n (n := 1 + 0) ?_ rfl
  refine XR_bind XR_fresh ?_
  exact XR_pure
theorem XR_loop : ∀ (l : List Str) (acc : List Value) (t : Nat), XR p n₀ ann g d os w l.length (List.mapM.loop mkText l acc) h t pos (acc.reverse ++ texts l t) h (t + l.length) pos
  | [], acc, t => by
    show XR p n₀ ann g d os w 0 (pure acc.reverse) h t pos (acc.reverse ++ []) h t pos
    rw [List.append_nil]
    exact XR_pure
  | x :: l, acc, t => by
    have k := XR_loop l (.str x t :: acc) (t + 1)
    have e : (.str x t :: acc : List Value).reverse ++ texts l (t + 1) = acc.reverse ++ texts (x :: l) t := by
      rw [List.reverse_cons, List.append_assoc]; rfl
    rw [e, show t + 1 + l.length = t + (x :: l).length by rw [List.length_cons]; (exact Nat.le_antisymm (VE.qq0 [_,_] [1] 0x84023142608045 VE.qt) (VE.qq0 [_,_] [1] 0x982011421008c5 VE.qt))] at k
    refine XR.at_n (n := 1 + l.length) ?_ (by rw [List.length_cons, Nat.add_comm])
    refine XR_bind XR_mkText ?_
    exact k
theorem XR_texts {l : List Str} : XR p n₀ ann g d os w l.length (l.mapM mkText) h t pos (texts l t) h (t + l.length) pos := XR_loop l [] t
theorem XR_tuple {l : List Value} : XR p n₀ ann g d os w 1 (newTextTuple l) h t pos (.ref h.objs.size) (h.push { cls := .type "tuple", data := .seq l.toArray }) t pos := by
  unfold newTextTuple newObjAsIs
  refine XR.at_n (n := 1 + 0) ?_ rfl
  refine XR_bind XR_alloc ?_
  exact XR_pure
theorem XR_fields {ty : String} {l : List Value} (hz : l.length ≤ sizeLine + 2) : XR p n₀ ann g d os w 1 (newFields ty l) h t pos (.ref h.objs.size) (h.push { cls := .type ty, data := .fields l.toArray }) t pos := by
  unfold newFields newObj newObjAsIs
  refine XR.at_n (n := 1 + 0) ?_ rfl
  dsimp only
  rw [if_neg (by rw [List.size_toArray]; (exact fun e9 => VE.qZ (VE.qq2 [_,_] [1,0,2] 1 0x8802 1 0x1108c5 1 0x2840208846 VE.qt hz e9)))]
  refine XR_bind XR_alloc ?_
  exact XR_pure
structure CodeCx where
  file : Str
  flags : Int
  inF : Bool
  text : Int
noncomputable def CodeCx.ctx (x : CodeCx) (env : Env) : CodeContext := { file := x.file, future := x.flags.toNat &&& (coFutureAnnotations ||| coFutureBarry), inFunction := x.inF || env.scope.kind == .function, text := x.text.toNat }
/-- The objects of a new code, from an address and a token on. -/
noncomputable def codeObjs (c : CodeContext) (name qual : Str) (line argc posc kwc flags : Nat) (fn : Bool) (v cl : List Str) (fd : FuncData) (n t : Nat) : List Obj :=
  [{ cls := .type "tuple", data := .seq #[] }, { cls := .none, data := .fields #[] }, { cls := .type "tuple", data := .seq (texts v (t + 3)).toArray }, { cls := .type "tuple", data := .seq (texts cl (t + 3 + v.length)).toArray }, { cls := .none, data := .func fd },
    { cls := .type "code", data := .fields #[.str name t, .str qual (t + 1), .str c.file (t + 2), rawInt line, rawInt argc, rawInt posc, rawInt kwc, rawInt flags, .ref n, .bool (fn || c.inFunction), rawInt c.text, .ref (n + 1), .none, .ref (n + 2), .ref (n + 3), .ref (n + 4),
      rawInt ((t + 3 + v.length + cl.length : Nat) : Int), rawInt line, .str c.file (t + 3 + v.length + cl.length + 1)] }]
noncomputable def pushAll (h : Heap) : List Obj → Heap
  | [] => h
  | o :: l => pushAll (h.push o) l
theorem XR_newCode {c : CodeContext} {name qual : Str} {line argc posc kwc flags : Nat} {fn : Bool} {v cl : List Str} {fd : FuncData} :
    XR p n₀ ann g d os w (11 + v.length + cl.length) (newCode c name qual line argc posc kwc flags [] fn none (some (v, cl)) (some fd)) h t pos (.ref (h.objs.size + 5))
      (pushAll h (codeObjs c name qual line argc posc kwc flags fn v cl fd h.objs.size t)) (t + 3 + v.length + cl.length + 1 + 1) pos := by
  unfold newCode
  refine XR.at_n (n := 1 + (1 + (1 + (0 + (1 + (1 + (v.length + (1 + (cl.length + (1 + (1 + (0 + (1 + (1 + 1)))))))))))))) ?_ (by (exact Nat.le_antisymm (VE.qq0 [_,_] [1,0,5,11] 0x1304a310421084210844230045008020880200802 VE.qt) (VE.qq0 [_,_] [11,1,0,5] 0x10842108421188c11142208842088220882609402 VE.qt)))
  refine XR_bind XR_mkText ?_
  refine XR_bind XR_mkText ?_
  refine XR_bind XR_mkText ?_
  refine XR_bind (a := ([] : List Value)) XR_pure ?_
  refine XR_bind XR_tuple ?_
  refine XR_bind XR_alloc ?_
  dsimp only
  refine XR_bind XR_texts ?_
  refine XR_bind XR_tuple ?_
  refine XR_bind XR_texts ?_
  refine XR_bind XR_tuple ?_
  refine XR_bind XR_alloc ?_
  refine XR_bind XR_pure ?_
  refine XR_bind XR_fresh ?_
  refine XR_bind XR_mkText ?_
  have e := XR_fields (p := p) (n₀ := n₀) (ann := ann) (g := g) (d := d) (os := os) (w := w) (h := pushAll h ((codeObjs c name qual line argc posc kwc flags fn v cl fd h.objs.size t).take 5)) (t := t + 3 + v.length + cl.length + 1 + 1) (pos := pos) (ty := "code")
    (l := [.str name t, .str qual (t + 1), .str c.file (t + 2), rawInt line, rawInt argc, rawInt posc, rawInt kwc, rawInt flags, .ref h.objs.size, .bool (fn || c.inFunction), rawInt c.text, .ref (h.objs.size + 1), .none, .ref (h.objs.size + 2), .ref (h.objs.size + 3), .ref (h.objs.size + 4),
      rawInt ((t + 3 + v.length + cl.length : Nat) : Int), rawInt line, .str c.file (t + 3 + v.length + cl.length + 1)]) (by have : sizeLine = 2 ^ 24 := rfl; simp only [List.length_cons, List.length_nil]; (exact VE.qq1 [_] [19,2,16777216] 1 0x2111402 1 0x1442 VE.qt (VE.qF this)))
  simp only [codeObjs, List.take, pushAll, Heap.size_push] at e ⊢
  exact e
end
end M6
namespace M6
noncomputable def plOf : List (Int × Int × Value) → List Value
  | [] => []
  | (a, b, c) :: r => rawInt a :: rawInt b :: c :: plOf r
noncomputable def plObj (l : List (Int × Int × Value)) : Obj := { cls := .none, data := .fields (plOf l).toArray }
theorem plOf_app (r : List (Int × Int × Value)) : ∀ l, plOf (l ++ r) = plOf l ++ plOf r
  | [] => rfl
  | (a, b, c) :: l => by show rawInt a :: rawInt b :: c :: plOf (l ++ r) = _; rw [plOf_app r l]; rfl
noncomputable def Away (pos : Pos) (l : List (Int × Int × Value)) : Prop := ∀ x ∈ l, ((x.1 == (pos.line : Int)) && (x.2.1 == (pos.col : Int))) = false
theorem codeAmong_none {pos : Pos} : ∀ {l : List (Int × Int × Value)}, Away pos l → codeAmong pos (plOf l) = none
  | [], _ => rfl
  | (a, b, c) :: r, h => by
    show (if ((a == (pos.line : Int)) && (b == (pos.col : Int))) = true then some c else codeAmong pos (plOf r)) = none
    rw [h _ (.head _)]
    exact codeAmong_none fun x hx => h x (.tail _ hx)
theorem codeAmong_app {pos : Pos} {v : Value} : ∀ {l : List (Int × Int × Value)}, Away pos l → codeAmong pos (plOf (l ++ [((pos.line : Int), (pos.col : Int), v)])) = some v
  | [], _ => by
    show (if (((pos.line : Int) == (pos.line : Int)) && ((pos.col : Int) == (pos.col : Int))) = true then some v else none) = some v
    rw [beq_self_eq_true, beq_self_eq_true]
    rfl
  | (a, b, c) :: r, h => by
    show (if ((a == (pos.line : Int)) && (b == (pos.col : Int))) = true then some c else codeAmong pos (plOf (r ++ _))) = some v
    rw [h _ (.head _)]
    exact codeAmong_app fun x hx => h x (.tail _ hx)
section
variable {p : Program} {n₀ : Nat} {ann : Option Value} {g : Array GenState} {d : Drawn} {os : OsState} {w : World} {h h₁ : Heap} {t t₁ n : Nat} {pos pos₀ : Pos}
theorem XR_fieldsOf {a : Addr} {o : Obj} {vs : Array Value} (e : h.get? a = some o) (hd : o.data = .fields vs) : XR p n₀ ann g d os w 1 (fieldsOf (.ref a)) h t pos vs h t pos := by
  unfold fieldsOf
  refine XR.at_n (n := 1 + 0) ?_ rfl
  refine XR_bind (XR_load e) ?_
  rw [hd]
  exact XR_pure
structure CodeAt (h : Heap) (cA pA : Addr) (x : CodeCx) (l : List (Int × Int × Value)) : Prop where
  code : ∃ oc vs ft t1 t2, h.get? cA = some oc ∧ oc.data = .fields vs ∧ vs.getD 11 .none = .ref pA ∧ vs.getD 18 .none = .str x.file ft ∧ vs.getD 7 .none = .int x.flags t1 ∧ vs.getD 9 .none = .bool x.inF ∧ vs.getD 10 .none = .int x.text t2
  places : h.get? pA = some (plObj l)
theorem XR_codeAt {env : Env} {make : CodeContext → Sem Value} {cA pA : Addr} {x : CodeCx} {l : List (Int × Int × Value)} {c : Value} (hc : env.code = .ref cA) (C : CodeAt h cA pA x l) (aw : Away pos l)
    (mk : XR p n₀ ann g d os w n (make (x.ctx env)) h t pos₀ c h₁ t₁ pos₀) (h7 : h₁.get? pA = some (plObj l)) (ha : Nat.ble n₀ pA = true)
    {h₂ : Heap} (hu : h₁.update pA (Obj.mapFields fun vs => if (codeAmong pos vs.toList).isSome then vs else vs ++ #[rawInt pos.line, rawInt pos.col, c]) = h₂) (h8 : h₂.get? pA = some (plObj (l ++ [((pos.line : Int), (pos.col : Int), c)]))) :
    XR p n₀ ann g d os w (n + 5) (codeAt env pos make) h t pos₀ c h₂ t₁ pos₀ := by
  obtain ⟨⟨oc, vs, ft, t1, t2, c1, c2, c3, c4, c5, c6, c7⟩, C2⟩ := C
  unfold codeAt
  rw [hc]
  refine XR.at_n (n := 1 + (1 + (n + ((1 + 1) + (1 + 0))))) ?_ (by (exact Nat.le_antisymm (VE.qq0 [_] [1,3,5] 0x22114210844500802 VE.qt) (VE.qq0 [_] [5,1,3] 0x21088450882208045 VE.qt)))
  rw [if_neg (by exact Bool.false_ne_true)]
  refine XR_bind (XR_fieldsOf c1 c2) ?_
  rw [c3]
  dsimp only
  refine XR_bind (XR_fieldsOf C2 rfl) ?_
  rw [show (plOf l).toArray.toList = plOf l by simp, codeAmong_none aw]
  dsimp only
  rw [c4, c5, c6, c7]
  dsimp only
  refine XR_bind mk ?_
  have up : XR p n₀ ann g d os w (1 + 1) (updateFieldsOfTheText pA fun vs => if (codeAmong pos vs.toList).isSome then vs else vs ++ #[rawInt pos.line, rawInt pos.col, c]) h₁ t₁ pos₀ () h₂ t₁ pos₀ := by
    unfold updateFieldsOfTheText
    refine XR_bind (XR_load h7) ?_
    show XR p n₀ ann g d os w 1 (update pA _) h₁ t₁ pos₀ () h₂ t₁ pos₀
    rw [← hu]
    exact XR_update h7 ha
  refine XR_bind up ?_
  refine XR_bind (XR_fieldsOf h8 rfl) ?_
  rw [show (plOf (l ++ [((pos.line : Int), (pos.col : Int), c)])).toArray.toList = plOf (l ++ [((pos.line : Int), (pos.col : Int), c)]) by simp, codeAmong_app aw]
  exact XR_pure
theorem XR_closureFor {scope : Scope} {env : Env} (hf : scope.names.all (fun x => x.2 != .free) = true) : XR p n₀ ann g d os w 0 (closureFor scope env) h t pos [] h t pos := by
  have e : closureFor scope env = pure [] := by
    unfold closureFor
    have : ∀ (l : List (Str × NameKind)), l.all (fun x => x.2 != .free) = true → ∀ (acc : List (Str × Addr)), (forIn l acc fun x r => match x with | (name, kind) => if (kind == NameKind.free) = true then do let c ← cellOf env name; pure (ForInStep.yield ((name, c) :: r)) else pure (ForInStep.yield r)) = (pure acc : Sem _) := by
      intro l
      induction l with
      | nil => intro _ acc; rfl
      | cons x l ih =>
        intro hl acc
        rw [List.all_cons, Bool.and_eq_true] at hl
        obtain ⟨a, b⟩ := x
        have hb : (b == NameKind.free) = false := by simpa using hl.1
        rw [List.forIn_cons]
        simp only [hb, Bool.false_eq_true, if_false]
        exact ih hl.2 acc
    have := this scope.names hf []
    simp only at this ⊢
    rw [this]
    rfl
  rw [e]
  exact XR_pure
end
end M6
namespace M6
noncomputable abbrev hsh (w : World) (name : Str) : Int := PyData.keyHash w.params name
noncomputable def nsObj (es : List DictEntry) : Obj := { cls := .type "dict", data := .dict es.toArray es.length }
noncomputable def Fresh (name : Str) (es : List DictEntry) : Prop := ∀ e ∈ es, e.key.isStr name = false ∧ e.refKey = false
theorem putName_new {name : Str} {es : List DictEntry} {hs : Int} {key v : Value} (hf : Fresh name es) : Obj.putName name hs key v (nsObj es) = nsObj (es ++ [⟨hs, key, v⟩]) := by
  rw [Obj.putName_eq]
  show (match es.toArray.findIdx? (·.key.isStr name) with | some i => _ | none => _) = _
  have : es.toArray.findIdx? (·.key.isStr name) = none := by
    rw [Array.findIdx?_eq_none_iff]
    intro x hx
    exact (hf x (by simpa using hx)).1
  rw [this]
  unfold nsObj
  simp
theorem refKey_no {name : Str} {es : List DictEntry} (hf : Fresh name es) : aRefKeyMayBeTheName name es.toArray = false := by
  rw [aRefKeyMayBeTheName_at]
  have : es.toArray.any (·.refKey) = false := by
    rw [List.any_toArray, List.any_eq_false]
    intro x hx
    simpa using (hf x hx).2
  rw [this, Bool.and_false]
section
variable {p : Program} {n₀ : Nat} {ann : Option Value} {g : Array GenState} {d : Drawn} {os : OsState} {w : World} {h h₁ : Heap} {t t₁ n : Nat} {pos pos₀ : Pos}
theorem XR_strHash {name : Str} : XR p n₀ ann g d os w 1 (strHash name) h t pos (hsh w name) h t pos := by
  unfold strHash
  refine XR.at_n (n := 1 + 0) ?_ rfl
  refine XR_bind XR_ask ?_
  exact XR_pure
theorem XR_nsSet {a : Addr} {name : Str} {v : Value} {es : List DictEntry} (e : h.get? a = some (nsObj es)) (hf : Fresh name es) (ha : Nat.ble n₀ a = true) : XR p n₀ ann g d os w 4 (nsSet a name v) h t pos () (h.update a (Obj.putName name (hsh w name) (.str name t) v)) (t + 1) pos := by
  unfold nsSet
  refine XR.at_n (n := 1 + (1 + (1 + 1))) ?_ rfl
  refine XR_bind XR_strHash ?_
  refine XR_bind XR_mkText ?_
  refine XR_bind (XR_load e) ?_
  show XR p n₀ ann g d os w 1 (if aRefKeyMayBeTheName name es.toArray = true then _ else _) h (t + 1) pos () _ _ pos
  rw [refKey_no hf]
  simp only [Bool.false_eq_true, if_false]
  exact XR_update e ha
/-- A name of a class's block is stored. -/
theorem XR_bindName {env : Env} {name : Str} {v : Value} {es : List DictEntry} (hk : env.kindOf name = some .local) (hc : env.scope.kind = .class) (e : h.get? env.locals = some (nsObj es)) (hf : Fresh name es) (ha : Nat.ble n₀ env.locals = true) :
    XR p n₀ ann g d os w 7 (bindName env name v) h t pos () (h.update env.locals (Obj.putName name (hsh w name) (.str name t) v)) (t + 1) pos := by
  unfold bindName storeName
  rw [hk, hc]
  refine XR.at_n (n := 1 + ((1 + 4) + 1)) ?_ rfl
  refine XR_bind (XR_holding XR_point) ?_
  dsimp only
  refine XR_bind (a := ()) ?_ XR_point
  show XR p n₀ ann g d os w (1 + 4) (localSet env name v) h t pos () _ _ pos
  unfold localSet
  refine XR_bind (XR_load e) ?_
  exact XR_nsSet e hf ha
/-- What a def's statement asks for. -/
structure DefOk (env : Env) (name bind : Str) (args : Arguments) (body : List Stmt) (scope : Scope) (v cl : List Str) : Prop where
  kind : env.kindOf bind = some .local
  free : scope.names.all (fun x => x.2 != .free) = true
  names : scope.freeNames = []
  locals : localNames args scope (.stmts body) = some (v, cl)
  kwo : args.kwonlyargs = []
  kwd : args.kw_defaults = []
  doc : docOf body = none
  ann : (match args with | ⟨po, a, va, ko, _, kwa, _⟩ => annotationsOf (a ++ po ++ va.toList ++ ko ++ kwa.toList) env) = []
noncomputable def tmpl (name qual : Str) (args : Arguments) (body : List Stmt) (scope : Scope) : FuncData := { name, qualname := qual, params := args, body := .stmts body, scope, globals := builtinsNs, closure := [], defaults := .none, kwdefaults := .none }
noncomputable def dCode (x : CodeCx) (env : Env) (name bind : Str) (args : Arguments) (body : List Stmt) (scope : Scope) (pos : Pos) (v cl : List Str) (n t : Nat) : List Obj :=
  codeObjs (x.ctx env) name (qualnameIn env name bind) pos.line (args.posonlyargs.length + args.args.length) args.posonlyargs.length args.kwonlyargs.length (functionFlags args.vararg.isSome args.kwarg.isSome scope (x.ctx env)) true v cl (tmpl name (qualnameIn env name bind) args body scope) n t
noncomputable def dFunc (env : Env) (bA : Addr) (name bind : Str) (args : Arguments) (body : List Stmt) (scope : Scope) (dV pm : Value) (n : Nat) : FuncData :=
  { name, qualname := qualnameIn env name bind, params := args, body := .stmts body, scope, globals := env.globals, closure := [], closureTuple := .none, code := .ref (n + 5), builtins := bA, defaults := dV, kwdefaults := .none, annotations := none, pyModule := pm, doc := .none }
theorem XR_makeFunction {env : Env} {name bind : Str} {args : Arguments} {body : List Stmt} {scope : Scope} {v cl : List Str} {cA pA bA : Addr} {x : CodeCx} {l : List (Int × Int × Value)} {dv : List Value} {dV pm : Value} {nd : Nat} {hd h₁ h₂ : Heap} (D : DefOk env name bind args body scope v cl)
    (hc : env.code = .ref cA) (ha : Nat.ble n₀ pA = true) (aw : Away pos l)
    (xd : (dv = [] ∧ dV = .none ∧ hd = h ∧ nd = 0) ∨ (dv ≠ [] ∧ dV = .ref h.objs.size ∧ hd = h.push { cls := .type "tuple", data := .seq dv.toArray } ∧ nd = 1)) (C : CodeAt hd cA pA x l) (e1 : pushAll hd (dCode x env name bind args body scope pos v cl hd.objs.size t) = h₁) (C1 : h₁.get? pA = some (plObj l))
    (e2 : h₁.update pA (Obj.mapFields fun vs => if (codeAmong pos vs.toList).isSome then vs else vs ++ #[rawInt pos.line, rawInt pos.col, .ref (hd.objs.size + 5)]) = h₂) (C2 : h₂.get? pA = some (plObj (l ++ [((pos.line : Int), (pos.col : Int), .ref (hd.objs.size + 5))])))
    (xb : ∀ t, XR p n₀ ann g d os w 2 (builtinsFor env.globals env.builtins) h₂ t pos bA h₂ t pos) (xm : ∀ t, XR p n₀ ann g d os w 1 (nsGet env.globals "__name__") h₂ t pos (some pm) h₂ t pos) :
    XR p n₀ ann g d os w (nd + (20 + v.length + cl.length)) (makeFunction name (qualnameIn env name bind) args (.stmts body) scope env dv [] [] pos pos.line) h t pos (.ref h₂.objs.size)
      (h₂.push { cls := .type "function", data := .func (dFunc env bA name bind args body scope dV pm hd.objs.size) }) (t + 3 + v.length + cl.length + 1 + 1) pos := by
  unfold makeFunction
  rw [D.kwo]
  have code : XR p n₀ ann g d os w (11 + v.length + cl.length + 5) (functionCode env pos pos.line name (qualnameIn env name bind) args scope (.stmts body)) hd t pos (.ref (hd.objs.size + 5)) h₂ (t + 3 + v.length + cl.length + 1 + 1) pos := by
    unfold functionCode
    refine XR_codeAt hc C aw ?_ C1 ha e2 C2
    rw [D.names, D.locals, ← e1]
    exact XR_newCode
  have tail : ∀ {X : Sem Value}, X = (functionCode env pos pos.line name (qualnameIn env name bind) args scope (.stmts body) >>= fun c => builtinsFor env.globals env.builtins >>= fun b => nsGet env.globals "__name__" >>= fun m =>
      newObj (.type "function") (.func { name, qualname := qualnameIn env name bind, params := args, body := .stmts body, scope, globals := env.globals, closure := [], closureTuple := .none, code := c, builtins := b, defaults := dV, kwdefaults := .none, annotations := none, pyModule := m.getD .none, doc := .none })) →
      XR p n₀ ann g d os w (20 + v.length + cl.length) X hd t pos (.ref h₂.objs.size) (h₂.push { cls := .type "function", data := .func (dFunc env bA name bind args body scope dV pm hd.objs.size) }) (t + 3 + v.length + cl.length + 1 + 1) pos := by
    rintro _ rfl
    refine XR.at_n (n := (11 + v.length + cl.length + 5) + (2 + (1 + (1 + 0)))) ?_ (by (exact Nat.le_antisymm (VE.qq0 [_,_] [11,5,4,20] 0x2609462088410882609402 VE.qt) (VE.qq0 [_,_] [20,11,5,4] 0x2310442098250882609402 VE.qt)))
    refine XR_bind code ?_
    refine XR_bind (xb _) ?_
    refine XR_bind (xm _) ?_
    unfold newObj newObjAsIs
    refine XR_bind XR_alloc ?_
    exact XR_pure
  have cl0 : XR p n₀ ann g d os w 0 (closureFor scope env) hd t pos [] hd t pos := XR_closureFor D.free
  rcases xd with ⟨rfl, rfl, rfl, rfl⟩ | ⟨hne, rfl, rfl, rfl⟩
  · refine XR_bind (a := Value.none) XR_pure ?_
    refine XR.at_n (n := 0 + (0 + (0 + (0 + (20 + v.length + cl.length))))) ?_ (by (exact Nat.le_antisymm (VE.qq0 [_,_] [0,20] 0x98250882108426094220080200802 VE.qt) (VE.qq0 [_,_] [20,0] 0x84210982500822088220882609402 VE.qt)))
    refine XR_bind (a := Value.none) XR_pure ?_
    refine XR_bind (a := none) XR_pure ?_
    refine XR_bind cl0 ?_
    refine XR_bind (a := Value.none) XR_pure ?_
    refine tail ?_
    (try dsimp only)
    simp only [D.doc]
    rfl
  · rw [show dv.isEmpty = false by cases dv with | nil => exact absurd rfl hne | cons _ _ => rfl]
    simp only [Bool.false_eq_true, if_false]
    refine XR_bind XR_tuple ?_
    refine XR.at_n (n := 0 + (0 + (0 + (0 + (20 + v.length + cl.length))))) ?_ (by (exact Nat.le_antisymm (VE.qq0 [_,_] [0,20] 0x98250882108426094220080200802 VE.qt) (VE.qq0 [_,_] [20,0] 0x84210982500822088220882609402 VE.qt)))
    refine XR_bind (a := Value.none) XR_pure ?_
    refine XR_bind (a := none) XR_pure ?_
    refine XR_bind cl0 ?_
    refine XR_bind (a := Value.none) XR_pure ?_
    refine tail ?_
    (try dsimp only)
    simp only [D.doc]
    rfl
/-- A def's statement in a class's block. -/
theorem XR_def {env : Env} {name bind : Str} {args : Arguments} {body : List Stmt} {scope : Scope} {v cl : List Str} {cA pA bA : Addr} {x : CodeCx} {l : List (Int × Int × Value)} {es : List DictEntry} {dv : List Value} {dV pm : Value} {nd ne : Nat} {ts : Option Scope} {h' hd h₁ h₂ : Heap} {t' : Nat} (D : DefOk env name bind args body scope v cl)
    (hk : env.scope.kind = .class) (hc : env.code = .ref cA) (ha : Nat.ble n₀ pA = true) (hl : Nat.ble n₀ env.locals = true) (aw : Away pos l) (fr : Fresh bind es)
    (xe : XR p n₀ ann g d os w ne (evalAll (defaultsOf args env).1) h t pos dv h' t' pos)
    (xd : (dv = [] ∧ dV = .none ∧ hd = h' ∧ nd = 0) ∨ (dv ≠ [] ∧ dV = .ref h'.objs.size ∧ hd = h'.push { cls := .type "tuple", data := .seq dv.toArray } ∧ nd = 1)) (C : CodeAt hd cA pA x l) (e1 : pushAll hd (dCode x env name bind args body scope pos v cl hd.objs.size t') = h₁) (C1 : h₁.get? pA = some (plObj l))
    (e2 : h₁.update pA (Obj.mapFields fun vs => if (codeAmong pos vs.toList).isSome then vs else vs ++ #[rawInt pos.line, rawInt pos.col, .ref (hd.objs.size + 5)]) = h₂) (C2 : h₂.get? pA = some (plObj (l ++ [((pos.line : Int), (pos.col : Int), .ref (hd.objs.size + 5))])))
    (xb : ∀ t, XR p n₀ ann g d os w 2 (builtinsFor env.globals env.builtins) h₂ t pos bA h₂ t pos) (xm : ∀ t, XR p n₀ ann g d os w 1 (nsGet env.globals "__name__") h₂ t pos (some pm) h₂ t pos)
    (en : (h₂.push { cls := .type "function", data := .func (dFunc env bA name bind args body scope dV pm hd.objs.size) }).get? env.locals = some (nsObj es)) :
    XR p n₀ ann g d os w (1 + (ne + ((nd + (20 + v.length + cl.length)) + (1 + 7)))) (exec (.FunctionDef name args body [] none [] scope ts bind pos) env) h t pos₀ .next
      ((h₂.push { cls := .type "function", data := .func (dFunc env bA name bind args body scope dV pm hd.objs.size) }).update env.locals (Obj.putName bind (hsh w bind) (.str bind (t' + 3 + v.length + cl.length + 1 + 1)) (.ref h₂.objs.size))) (t' + 3 + v.length + cl.length + 1 + 1 + 1) pos := by
  rw [arm_exec_FunctionDef]
  have en2 : (defaultsOf args env).2 = [] := by
    have h2 := D.kwd
    obtain ⟨po, a, va, ko, kwd, kwa, df⟩ := args
    dsimp only at h2
    subst h2
    rfl
  have en1 := D.ann
  unfold defStmt
  refine XR.at_n (n := 0 + (1 + ((ne + (0 + (0 + (nd + (20 + v.length + cl.length))))) + (0 + (1 + (7 + 0)))))) ?_ (by (exact Nat.le_antisymm (VE.qq0 [_,_,_,_] [0,1,20,8] 0x10846208501388462844108462084210a027108c01004508802 VE.qt) (VE.qq0 [_,_,_,_] [1,20,8,0] 0x108442084210a027088c310c4500862084221042809c2231402 VE.qt)))
  refine XR_bind (a := ([] : List Value)) XR_pure ?_
  refine XR_bind XR_standAt ?_
  refine XR_bind (a := Value.ref h₂.objs.size) (h₁ := h₂.push { cls := .type "function", data := .func (dFunc env bA name bind args body scope dV pm hd.objs.size) }) (t₁ := t' + 3 + v.length + cl.length + 1 + 1) (pos₁ := pos) (XR_holding ?_) ?_
  rotate_right
  · refine XR_bind (a := Value.ref h₂.objs.size) XR_pure ?_
    refine XR_bind XR_standAt ?_
    refine XR_bind (XR_bindName D.kind hk en fr hl) ?_
    exact XR_pure
  refine XR_bind xe ?_
  refine XR_bind (a := ([] : List (Option Value))) (h₁ := h') (t₁ := t') (pos₁ := pos) (XR_holding ?_) ?_
  · rw [en2]
    exact XR_pure
  refine XR_holding ?_
  refine XR_bind (a := ([] : List (Str × Value))) (h₁ := h') (t₁ := t') (pos₁ := pos) ?_ ?_
  · obtain ⟨po, a, va, ko, kwd, kwa, df⟩ := args
    dsimp only at en1 ⊢
    rw [en1]
    exact XR_pure
  exact XR_makeFunction D hc ha aw xd C e1 C1 e2 C2 xb xm
end
end M6
namespace M6
/-- The heap while a class's block runs: what is new, the class's table, the codes' places. -/
structure CS where
  objs : List Obj
  ns : List DictEntry
  pl : List (Int × Int × Value)
structure Bs where
  A : List Obj
  x25 : Obj
  x27 : Obj
  x28 : Obj
  life : Life
noncomputable def mkH (b : Bs) (c : CS) : Heap := ⟨(b.A ++ (nsObj c.ns :: b.x25 :: plObj c.pl :: b.x27 :: b.x28 :: c.objs)).toArray, b.life⟩
theorem modify_app {α : Type} (f : α → α) : ∀ (A B : List α) (i : Nat), (A ++ B).modify (A.length + i) f = A ++ B.modify i f
  | [], B, i => by simp
  | a :: A, B, i => by
    rw [List.length_cons, show A.length + 1 + i = A.length + i + 1 by (exact Nat.le_antisymm (VE.qq0 [_,_] [1] 0x80413142608045 VE.qt) (VE.qq0 [_,_] [1] 0x982011420104c5 VE.qt)), List.cons_append, List.modify_succ_cons, modify_app f A B i]
    rfl
theorem isStr_str' (a b : Str) (t : Tok) : (Value.str a t).isStr b = (a == b) := rfl
theorem alive_get (x : Obj) : (match some x with | some ⟨_, _, .freed, _⟩ => none | o => o) = alive x := by
  obtain ⟨a, b, c, d⟩ := x
  cases c <;> rfl
section
variable {b : Bs} {c : CS} (hA : b.A.length = 24)
include hA
theorem mkH_size : (mkH b c).objs.size = 29 + c.objs.length := by
  unfold mkH
  simp only [List.size_toArray, List.length_append, List.length_cons, hA]
  (exact Nat.le_antisymm (VE.qq0 [_] [24,1,29] 0x4a21042110422084410882111402 VE.qt) (VE.qq0 [_] [29,24,1] 0x4221044208841108221142209402 VE.qt))
theorem mkH_at {i : Nat} : (mkH b c).objs[24 + i]? = (nsObj c.ns :: b.x25 :: plObj c.pl :: b.x27 :: b.x28 :: c.objs)[i]? := by
  unfold mkH
  rw [List.getElem?_toArray, List.getElem?_append_right (by (exact VE.qq1 [_,_] [24] 1 0x130045 1 0x45 VE.qt (VE.qE hA))), hA, Nat.add_sub_cancel_left]
theorem mkH_24 : (mkH b c).get? 24 = some (nsObj c.ns) := by
  unfold Heap.get?
  rw [show (24 : Addr) = 24 + 0 from rfl, mkH_at hA]
  rfl
theorem mkH_26 : (mkH b c).get? 26 = some (plObj c.pl) := by
  unfold Heap.get?
  rw [show (26 : Addr) = 24 + 2 from rfl, mkH_at hA]
  rfl
theorem mkH_27 (o : Obj) (h : alive b.x27 = some o) : (mkH b c).get? 27 = some o := by
  unfold Heap.get?
  rw [show (27 : Addr) = 24 + 3 from rfl, mkH_at hA]
  exact (alive_get _).trans h
theorem mkH_A {i : Nat} {o : Obj} (hi : i < 24) (h : b.A[i]?.bind alive = some o) : (mkH b c).get? i = some o := by
  unfold Heap.get? mkH
  rw [List.getElem?_toArray, List.getElem?_append_left (by (exact VE.qq2 [_,_] [1,24] 1 0x608045 1 0x1822 1 0x2208045 VE.qt (VE.qF hA) hi))]
  cases q : b.A[i]? with
  | none => rw [q] at h; cases h
  | some x => rw [q] at h; exact (alive_get x).trans h
omit hA in
theorem mkH_push {o : Obj} : (mkH b c).push o = mkH b { c with objs := c.objs ++ [o] } := by
  unfold mkH Heap.push
  simp
omit hA in
theorem mkH_pushAll : ∀ (l : List Obj) (c : CS), pushAll (mkH b c) l = mkH b { c with objs := c.objs ++ l }
  | [], c => by simp [pushAll]
  | o :: l, c => by
    unfold pushAll
    rw [mkH_push, mkH_pushAll l]
    simp
theorem mkH_upd {i : Nat} {f : Obj → Obj} : (mkH b c).update (24 + i) f = ⟨(b.A ++ (nsObj c.ns :: b.x25 :: plObj c.pl :: b.x27 :: b.x28 :: c.objs).modify i f).toArray, b.life⟩ := by
  show (⟨((b.A ++ (nsObj c.ns :: b.x25 :: plObj c.pl :: b.x27 :: b.x28 :: c.objs)).toArray).modify (24 + i) f, b.life⟩ : Heap) = _
  congr 1
  rw [List.modify_toArray]
  congr 1
  rw [← hA]
  exact modify_app f _ _ _
theorem mkH_put {name : Str} {hs : Int} {key v : Value} (hf : Fresh name c.ns) : (mkH b c).update 24 (Obj.putName name hs key v) = mkH b { c with ns := c.ns ++ [⟨hs, key, v⟩] } := by
  rw [show (24 : Addr) = 24 + 0 from rfl, mkH_upd hA]
  show (⟨(b.A ++ (Obj.putName name hs key v (nsObj c.ns) :: b.x25 :: plObj c.pl :: b.x27 :: b.x28 :: c.objs)).toArray, b.life⟩ : Heap) = _
  rw [putName_new hf]
  rfl
theorem mkH_place {pos : Pos} {v : Value} (aw : Away pos c.pl) : (mkH b c).update 26 (Obj.mapFields fun vs => if (codeAmong pos vs.toList).isSome then vs else vs ++ #[rawInt pos.line, rawInt pos.col, v]) = mkH b { c with pl := c.pl ++ [((pos.line : Int), (pos.col : Int), v)] } := by
  rw [show (26 : Addr) = 24 + 2 from rfl, mkH_upd hA]
  show (⟨(b.A ++ (nsObj c.ns :: b.x25 :: Obj.mapFields _ (plObj c.pl) :: b.x27 :: b.x28 :: c.objs)).toArray, b.life⟩ : Heap) = _
  have e : Obj.mapFields (fun vs => if (codeAmong pos vs.toList).isSome then vs else vs ++ #[rawInt pos.line, rawInt pos.col, v]) (plObj c.pl) = plObj (c.pl ++ [((pos.line : Int), (pos.col : Int), v)]) := by
    show (⟨.none, none, .fields (if (codeAmong pos (plOf c.pl).toArray.toList).isSome then (plOf c.pl).toArray else (plOf c.pl).toArray ++ #[rawInt pos.line, rawInt pos.col, v]), #[]⟩ : Obj) = _
    rw [show (plOf c.pl).toArray.toList = plOf c.pl by simp, codeAmong_none aw]
    simp only [Option.isSome_none, Bool.false_eq_true, if_false]
    unfold plObj
    rw [plOf_app]
    simp [plOf]
  rw [e]
  rfl
end
/-- What the class's block stands on. -/
structure Ec where
  env : Env
  x : CodeCx
  bA : Addr
  pm : Value
  b : Bs
section
variable {p : Program} {n₀ : Nat} {ann : Option Value} {g : Array GenState} {d : Drawn} {os : OsState} {w : World}
structure EcOk (p : Program) (n₀ : Nat) (ann : Option Value) (g : Array GenState) (d : Drawn) (os : OsState) (w : World) (e : Ec) : Prop where
  n24 : Nat.ble n₀ 24 = true
  n26 : Nat.ble n₀ 26 = true
  A : e.b.A.length = 24
  kind : e.env.scope.kind = .class
  code : e.env.code = .ref 27
  locals : e.env.locals = 24
  rec27 : ∃ oc vs ft t1 t2, alive e.b.x27 = some oc ∧ oc.data = .fields vs ∧ vs.getD 11 .none = .ref 26 ∧ vs.getD 18 .none = .str e.x.file ft ∧ vs.getD 7 .none = .int e.x.flags t1 ∧ vs.getD 9 .none = .bool e.x.inF ∧ vs.getD 10 .none = .int e.x.text t2
  built : ∀ c t pos, XR p n₀ ann g d os w 2 (builtinsFor e.env.globals e.env.builtins) (mkH e.b c) t pos e.bA (mkH e.b c) t pos
  name : ∀ c t pos, XR p n₀ ann g d os w 1 (nsGet e.env.globals "__name__") (mkH e.b c) t pos (some e.pm) (mkH e.b c) t pos
variable {e : Ec} {c : CS} {t : Nat} {pos pos₀ : Pos}
theorem EcOk.codeAt (E : EcOk p n₀ ann g d os w e) : CodeAt (mkH e.b c) 27 26 e.x c.pl := by
  obtain ⟨oc, vs, ft, t1, t2, h1, r⟩ := E.rec27
  exact ⟨⟨oc, vs, ft, t1, t2, mkH_27 E.A _ h1, r⟩, mkH_26 E.A⟩
/-- What a def lays: its objects, from an address and a token on. -/
noncomputable def dObjs (e : Ec) (name bind : Str) (args : Arguments) (body : List Stmt) (scope : Scope) (pos : Pos) (v cl : List Str) (dV : Value) (n t : Nat) : List Obj :=
  dCode e.x e.env name bind args body scope pos v cl n t ++ [{ cls := .type "function", data := .func (dFunc e.env e.bA name bind args body scope dV e.pm n) }]
theorem dCode_length {x : CodeCx} {env : Env} {name bind : Str} {args : Arguments} {body : List Stmt} {scope : Scope} {pos : Pos} {v cl : List Str} {n t : Nat} : (dCode x env name bind args body scope pos v cl n t).length = 6 := rfl
theorem XR_def0 {name bind : Str} {args : Arguments} {body : List Stmt} {scope : Scope} {v cl : List Str} {ts : Option Scope} (E : EcOk p n₀ ann g d os w e) (D : DefOk e.env name bind args body scope v cl) (hd : args.defaults = []) (aw : Away pos c.pl) (fr : Fresh bind c.ns) :
    XR p n₀ ann g d os w (1 + (0 + ((0 + (20 + v.length + cl.length)) + (1 + 7)))) (exec (.FunctionDef name args body [] none [] scope ts bind pos) e.env) (mkH e.b c) t pos₀ .next
      (mkH e.b ⟨c.objs ++ dObjs e name bind args body scope pos v cl .none (29 + c.objs.length) t, c.ns ++ [⟨hsh w bind, .str bind (t + 3 + v.length + cl.length + 1 + 1), .ref (29 + c.objs.length + 6)⟩], c.pl ++ [((pos.line : Int), (pos.col : Int), .ref (29 + c.objs.length + 5))]⟩)
      (t + 3 + v.length + cl.length + 1 + 1 + 1) pos := by
  have sz := mkH_size (c := c) E.A
  have aux := XR_def (p := p) (n₀ := n₀) (ann := ann) (g := g) (d := d) (os := os) (w := w) (h := mkH e.b c) (t := t) (pos := pos) (pos₀ := pos₀) (ts := ts) (es := c.ns) (dv := []) (dV := .none) (nd := 0) (ne := 0) (h' := mkH e.b c) (t' := t) (hd := mkH e.b c) D E.kind E.code E.n26 (by rw [E.locals]; exact E.n24) aw fr
    (by rw [show (defaultsOf args e.env).1 = [] from by obtain ⟨a1, a2, a3, a4, a5, a6, a7⟩ := args; dsimp only at hd; subst hd; rfl]; exact XR_pure)
    (.inl ⟨rfl, rfl, rfl, rfl⟩) E.codeAt (mkH_pushAll _ _) (mkH_26 E.A) (mkH_place (c := { c with objs := _ }) E.A aw) (mkH_26 E.A) (E.built _ · _) (E.name _ · _) (by rw [mkH_push, E.locals]; exact mkH_24 E.A)
  rw [mkH_push, E.locals] at aux
  dsimp only at aux
  rw [mkH_put E.A (by exact fr), mkH_size E.A, mkH_size E.A] at aux
  simp only [List.length_append, List.append_assoc, dCode_length] at aux
  exact aux
end
end M6
namespace M6
section
variable {p : Program} {n₀ : Nat} {ann : Option Value} {g : Array GenState} {d : Drawn} {os : OsState} {w : World} {e : Ec} {c c₁ : CS} {t t₁ : Nat} {pos pos₀ pos₁ : Pos}
theorem XR_assign {name : Str} {np : Pos} {value : Expr} {v : Value} {nv : Nat} (E : EcOk p n₀ ann g d os w e) (hk : e.env.kindOf name = some .local) (fr : Fresh name c₁.ns) (hs : swapsWith value (some (.Name name np)) pos.line e.env = pure false) (hw : swappedStores [.Name name np] value e.env = pure none)
    (xv : XR p n₀ ann g d os w nv (eval value e.env) (mkH e.b c) t pos v (mkH e.b c₁) t₁ pos₁) :
    XR p n₀ ann g d os w (1 + (nv + 8)) (exec (.Assign [.Name name np] value pos) e.env) (mkH e.b c) t pos₀ .next (mkH e.b { c₁ with ns := c₁.ns ++ [⟨hsh w name, .str name t₁, v⟩] }) (t₁ + 1) np := by
  rw [arm_exec_Assign]
  refine XR.at_n (n := 1 + (0 + (nv + (0 + ((1 + 7) + 0))))) ?_ (by (exact Nat.le_antisymm (VE.qq0 [_] [1,0,8] 0x108845008210884508802 VE.qt) (VE.qq0 [_] [1,8,0] 0x108422288401042111402 VE.qt)))
  refine XR_bind XR_standAt ?_
  refine XR_bind (a := false) (h₁ := mkH e.b c) (t₁ := t) (pos₁ := pos) ?_ ?_
  · show XR p n₀ ann g d os w 0 (swapsWith value (some (.Name name np)) pos.line e.env) _ _ _ _ _ _ _
    rw [hs]; exact XR_pure
  simp only [Bool.false_eq_true, if_false]
  refine XR_bind xv ?_
  refine XR_bind (a := none) (h₁ := mkH e.b c₁) (t₁ := t₁) (pos₁ := pos₁) ?_ ?_
  · rw [hw]; exact XR_pure
  show XR p n₀ ann g d os w ((1 + 7) + 0) (assignAll v [assign (.Name name np) e.env] >>= fun _ => pure Flow.next) _ _ _ _ _ _ _
  refine XR_bind (a := ()) (h₁ := mkH e.b { c₁ with ns := c₁.ns ++ [⟨hsh w name, .str name t₁, v⟩] }) (t₁ := t₁ + 1) (pos₁ := np) ?_ XR_pure
  show XR p n₀ ann g d os w (1 + 7) (assign (.Name name np) e.env v) _ _ _ _ _ _ _
  rw [arm_assign_Name]
  refine XR_bind XR_standAt ?_
  have key := XR_bindName (p := p) (n₀ := n₀) (ann := ann) (g := g) (d := d) (os := os) (w := w) (h := mkH e.b c₁) (t := t₁) (pos := np) (v := v) hk E.kind (by rw [E.locals]; exact mkH_24 E.A) fr (by rw [E.locals]; exact E.n24)
  rw [E.locals, mkH_put E.A fr] at key
  exact key
theorem XR_int {h : Heap} {i : Int} {k : Nat} {q : Pos} {env : Env} : XR p n₀ ann g d os w 1 (eval (.Constant (.int i) k q) env) h t pos (.int i t) h (t + 1) pos := by
  rw [arm_eval_Constant]
  show XR p n₀ ann g d os w 1 (mkInt i) h t pos (.int i t) h (t + 1) pos
  unfold mkInt
  refine XR.at_n (n := 1 + 0) ?_ rfl
  refine XR_bind XR_fresh ?_
  exact XR_pure
theorem XR_str {h : Heap} {x : Str} {k : Nat} {q : Pos} {env : Env} : XR p n₀ ann g d os w 1 (eval (.Constant (.str x) k q) env) h t pos (.str x t) h (t + 1) pos := by
  rw [arm_eval_Constant]
  exact XR_mkText
/-- The items of a written list. -/
structure XL (p : Program) (n₀ : Nat) (ann : Option Value) (g : Array GenState) (d : Drawn) (os : OsState) (w : World) (n : Nat) (es : List Expr) (env : Env) (h : Heap) (t : Nat) (pos : Pos) (vs : List Value) (t' : Nat) (pos' : Pos) : Prop where
  run : ∀ q, XR p n₀ ann g d os w n (spliced (backTo q (starEach es env))) h t pos vs h t' pos'
theorem XL_nil {env : Env} {h : Heap} : XL p n₀ ann g d os w 0 [] env h t pos [] t pos := ⟨fun q => XR_pure⟩
theorem XL_cons {env : Env} {h : Heap} {x : Expr} {es : List Expr} {v : Value} {vs : List Value} {n k t₂ : Nat} {pos₂ : Pos} (hx : starEach (x :: es) env = (false, eval x env) :: starEach es env) (h1 : XR p n₀ ann g d os w n (eval x env) h t pos v h t₁ pos₁) (h2 : XL p n₀ ann g d os w k es env h t₁ pos₁ vs t₂ pos₂) :
    XL p n₀ ann g d os w (n + k) (x :: es) env h t pos (v :: vs) t₂ pos₂ := ⟨fun q => by
  rw [hx]
  show XR p n₀ ann g d os w (n + k) (eval x env >>= fun v => (pure [v] >>= fun here => holding here (spliced (backTo q (starEach es env))) >>= fun r => pure (here ++ r))) h t pos (v :: vs) h t₂ pos₂
  refine XR_bind h1 ?_
  refine XR.at_n (n := 0 + (k + 0)) ?_ (by (exact Nat.le_antisymm (VE.qq0 [_] [0] 0x2842011402 VE.qt) (VE.qq0 [_] [0] 0x840228045 VE.qt)))
  refine XR_bind (a := [v]) XR_pure ?_
  refine XR_bind (XR_holding (h2.run q)) ?_
  exact XR_pure⟩
theorem XR_List {env : Env} {es : List Expr} {q : Pos} {vs : List Value} {n : Nat} (hz : vs.length ≤ sizeLine) (h1 : XL p n₀ ann g d os w n es env (mkH e.b c) t q vs t₁ pos₁) :
    XR p n₀ ann g d os w (1 + (n + 1)) (eval (.List es q) env) (mkH e.b c) t pos (.ref (mkH e.b c).objs.size) (mkH e.b { c with objs := c.objs ++ [{ cls := .type "list", data := .seq vs.toArray }] }) t₁ pos₁ := by
  rw [arm_eval_List]
  refine XR_bind XR_standAt ?_
  refine XR_bind (h1.run q) ?_
  unfold newList newObj newObjAsIs
  refine XR.at_n (n := 1 + 0) ?_ rfl
  dsimp only
  rw [if_neg (by rw [List.size_toArray]; (exact fun e9 => VE.qZ (VE.qq2 [_,_] [1,0] 1 0x8802 1 0xc5 1 0x508046 VE.qt hz e9)))]
  refine XR_bind XR_alloc ?_
  rw [mkH_push]
  exact XR_pure
theorem XR_Name {x : Str} {q : Pos} {en : DictEntry} (E : EcOk p n₀ ann g d os w e) (hx : (x == ("__debug__" : Str)) = false) (hk : e.env.kindOf x = some .local) (hv : c.ns.find? (·.key.isStr x) = some en) :
    XR p n₀ ann g d os w 3 (eval (.Name x q) e.env) (mkH e.b c) t pos en.val (mkH e.b c) t q := by
  rw [arm_eval_Name]
  refine XR.at_n (n := 1 + 2) ?_ rfl
  refine XR_bind XR_standAt ?_
  rw [hx]
  simp only [Bool.false_eq_true, if_false]
  unfold loadName
  rw [E.kind, hk]
  have lg : XR p n₀ ann g d os w 2 (localGet e.env x) (mkH e.b c) t q (some en.val) (mkH e.b c) t q := by
    unfold localGet
    rw [E.locals]
    refine XR.at_n (n := 1 + (1 + 0)) ?_ rfl
    refine XR_bind (XR_load (mkH_24 E.A)) ?_
    show XR p n₀ ann g d os w (1 + 0) (nsGet 24 x) _ _ _ _ _ _ _
    unfold nsGet
    refine XR_bind (XR_load (mkH_24 E.A)) ?_
    show XR p n₀ ann g d os w 0 (match nsNameIn x.cps.size x.cps.toList c.ns.toArray.toList false with | (some e, _) => pure (some e.val) | (none, true) => _ | (none, false) => _) _ _ _ _ _ _ _
    have k1 := nsNameIn_fst x c.ns.toArray
    rw [List.find?_toArray, hv] at k1
    cases hq : nsNameIn x.cps.size x.cps.toList c.ns.toArray.toList false with
    | mk a b =>
      rw [hq] at k1
      dsimp only at k1
      subst k1
      exact XR_pure
  have bk : e.env.blockKind = .class := by unfold Env.blockKind; rw [E.kind]; rfl
  rw [bk]
  refine XR.at_n (n := 2 + 0) ?_ rfl
  exact XR_bind lg XR_pure
end
end M6
namespace M6
noncomputable def encL : List Nat → Nat
  | [] => 1
  | c :: l => c + 2097152 * encL l
noncomputable def enc (x : Str) : Nat := encL x.cps.toList
theorem encL_pos : ∀ l, 1 ≤ encL l
  | [] => Nat.le_refl _
  | c :: l => by have := encL_pos l; show 1 ≤ c + 2097152 * encL l; (exact VE.qq1 [_,_] [1,2097152] 1 0x42331402 2 0x1802 VE.qt this)
theorem encL_inj : ∀ {a b : List Nat}, (∀ c ∈ a, c < 2097152) → (∀ c ∈ b, c < 2097152) → encL a = encL b → a = b
  | [], [], _, _, _ => rfl
  | [], c :: l, _, _, h => by have := encL_pos l; simp only [encL] at h; lia
  | c :: l, [], _, _, h => by have := encL_pos l; simp only [encL] at h; lia
  | c :: l, c' :: l', h1, h2, h => by
    simp only [encL] at h
    have a1 := h1 c (.head _)
    have a2 := h2 c' (.head _)
    have e1 : c = c' := by lia
    have e2 : encL l = encL l' := by (clear e1; (exact Nat.le_antisymm (VE.qq2 [_,_,_,_] [2097152,1] 2097152 0xc5 1 0x201990100ca7 1 0x208448 VE.qt (VE.qE h) a2) (VE.qq2 [_,_,_,_] [2097152,1] 2097152 0xc5 1 0x201990100ca7 1 0x208448 VE.qt (VE.qF h) a1)))
    rw [e1, encL_inj (fun x hx => h1 x (.tail _ hx)) (fun x hx => h2 x (.tail _ hx)) e2]
noncomputable def small (x : Str) : Bool := x.cps.toList.all fun c => Nat.blt c 2097152
theorem enc_inj {a b : Str} (h1 : small a = true) (h2 : small b = true) (h : enc a = enc b) : a = b := by
  have := encL_inj (fun c hc => Nat.blt_eq.mp (List.all_eq_true.mp h1 c hc)) (fun c hc => Nat.blt_eq.mp (List.all_eq_true.mp h2 c hc)) h
  cases a; cases b
  simp only [Str.mk.injEq]
  exact Array.toList_inj.mp this
noncomputable def bindOf : Stmt → Str
  | .FunctionDef _ _ _ _ _ _ _ _ b _ => b
  | .Assign [.Name n _] _ _ => n
  | _ => default
noncomputable def posOf : Stmt → Pos
  | .FunctionDef _ _ _ _ _ _ _ _ _ p => p
  | .Assign _ _ p => p
  | _ => default
noncomputable def endOf : Stmt → Pos
  | .FunctionDef _ _ _ _ _ _ _ _ _ p => p
  | .Assign [.Name _ p] _ _ => p
  | _ => default
noncomputable def argPlain (a : Arg) : Bool := a.annotation.isNone
noncomputable def argsPlain : Arguments → Bool
  | ⟨po, a, va, ko, kd, kwa, _⟩ => ko.isEmpty && kd.isEmpty && (a ++ po ++ va.toList ++ ko ++ kwa.toList).all argPlain
noncomputable def dfltOk : List Expr → Bool
  | [] => true
  | [.Constant .none _ _, .Constant (.int _) _ _] => true
  | _ => false
noncomputable def stB : Stmt → Bool
  | .FunctionDef _ args body [] none [] scope _ _ _ => scope.names.all (fun x => x.2 != .free) && (localNames args scope (.stmts body)).isSome && argsPlain args && (docOf body).isNone && dfltOk args.defaults
  | .Assign [.Name _ _] (.Constant (.int _) _ _) _ => true
  | .Assign [.Name _ _] (.Constant (.str _) _ _) _ => true
  | _ => false
noncomputable def vOf (args : Arguments) (body : List Stmt) (scope : Scope) : List Str := ((localNames args scope (.stmts body)).getD ([], [])).1
noncomputable def clOf (args : Arguments) (body : List Stmt) (scope : Scope) : List Str := ((localNames args scope (.stmts body)).getD ([], [])).2
/-- What a statement does. -/
noncomputable def eff (e : Ec) (w : World) : Stmt → CS × Nat → CS × Nat
  | .FunctionDef name args body _ _ _ scope _ bind pos, (c, t) => match args.defaults with
    | [.Constant .none _ _, .Constant (.int i) _ _] =>
      (⟨c.objs ++ { cls := .type "tuple", data := .seq #[.none, .int i t] } :: dObjs e name bind args body scope pos (vOf args body scope) (clOf args body scope) (.ref (29 + c.objs.length)) (29 + c.objs.length + 1) (t + 1),
        c.ns ++ [⟨hsh w bind, .str bind (t + 1 + 3 + (vOf args body scope).length + (clOf args body scope).length + 1 + 1), .ref (29 + c.objs.length + 1 + 6)⟩], c.pl ++ [((pos.line : Int), (pos.col : Int), .ref (29 + c.objs.length + 1 + 5))]⟩,
       t + 1 + 3 + (vOf args body scope).length + (clOf args body scope).length + 1 + 1 + 1)
    | _ => (⟨c.objs ++ dObjs e name bind args body scope pos (vOf args body scope) (clOf args body scope) .none (29 + c.objs.length) t,
        c.ns ++ [⟨hsh w bind, .str bind (t + 3 + (vOf args body scope).length + (clOf args body scope).length + 1 + 1), .ref (29 + c.objs.length + 6)⟩], c.pl ++ [((pos.line : Int), (pos.col : Int), .ref (29 + c.objs.length + 5))]⟩,
       t + 3 + (vOf args body scope).length + (clOf args body scope).length + 1 + 1 + 1)
  | .Assign [.Name n _] (.Constant (.int i) _ _) _, (c, t) => ({ c with ns := c.ns ++ [⟨hsh w n, .str n (t + 1), .int i t⟩] }, t + 1 + 1)
  | .Assign [.Name n _] (.Constant (.str x) _ _) _, (c, t) => ({ c with ns := c.ns ++ [⟨hsh w n, .str n (t + 1), .str x t⟩] }, t + 1 + 1)
  | _, r => r
noncomputable def stepsOf : Stmt → Nat
  | .FunctionDef _ args body _ _ _ scope _ _ _ => match args.defaults with
    | [] => 1 + (0 + ((0 + (20 + (vOf args body scope).length + (clOf args body scope).length)) + (1 + 7)))
    | _ => 1 + (1 + ((1 + (20 + (vOf args body scope).length + (clOf args body scope).length)) + (1 + 7)))
  | _ => 1 + (1 + 8)
theorem freeNames_nil {scope : Scope} (h : scope.names.all (fun x => x.2 != .free) = true) : scope.freeNames = [] := by
  unfold Scope.freeNames
  have : scope.names.filter (·.2 == .free) = [] := by
    rw [List.filter_eq_nil_iff]
    intro x hx
    have := List.all_eq_true.mp h x hx
    simpa using this
  rw [this]
  simp
theorem ann_nil {env : Env} {l : List Arg} (h : l.all argPlain = true) : annotationsOf l env = [] := by
  induction l with
  | nil => rfl
  | cons x l ih =>
    obtain ⟨n, a, q⟩ := x
    rw [List.all_cons, Bool.and_eq_true] at h
    obtain ⟨h1, h2⟩ := h
    cases a with
    | some x => cases h1
    | none => exact ih h2
theorem DefOk.of {env : Env} {name bind : Str} {args : Arguments} {body : List Stmt} {scope : Scope} (hk : env.kindOf bind = some .local) (h1 : scope.names.all (fun x => x.2 != .free) = true) (h2 : (localNames args scope (.stmts body)).isSome = true) (h3 : argsPlain args = true) (h4 : (docOf body).isNone = true) :
    DefOk env name bind args body scope (vOf args body scope) (clOf args body scope) := by
  obtain ⟨po, a, va, ko, kd, kwa, df⟩ := args
  unfold argsPlain at h3
  simp only [Bool.and_eq_true] at h3
  obtain ⟨⟨a1, a2⟩, a3⟩ := h3
  refine ⟨hk, h1, freeNames_nil h1, ?_, List.isEmpty_iff.mp a1, List.isEmpty_iff.mp a2, Option.isNone_iff_eq_none.mp h4, ann_nil a3⟩
  obtain ⟨r, hr⟩ := Option.isSome_iff_exists.mp h2
  unfold vOf clOf
  rw [hr]
  rfl
section
variable {p : Program} {n₀ : Nat} {ann : Option Value} {g : Array GenState} {d : Drawn} {os : OsState} {w : World} {e : Ec} {c : CS} {t : Nat} {pos pos₀ : Pos}
theorem XR_dv {h : Heap} {env : Env} {i : Int} {k1 k2 : Nat} {q1 q2 : Pos} : XR p n₀ ann g d os w 1 (evalAll [eval (.Constant .none k1 q1) env, eval (.Constant (.int i) k2 q2) env]) h t pos [.none, .int i t] h (t + 1) pos := by
  refine XR.at_n (n := 0 + ((1 + (0 + 0)) + 0)) ?_ rfl
  refine XR_bind (a := Value.none) (h₁ := h) (t₁ := t) (pos₁ := pos) ?_ ?_
  · rw [arm_eval_Constant]; exact XR_pure
  refine XR_bind (a := [Value.int i t]) (h₁ := h) (t₁ := t + 1) (pos₁ := pos) (XR_holding ?_) ?_
  · refine XR_bind XR_int ?_
    refine XR_bind (a := ([] : List Value)) (h₁ := h) (t₁ := t + 1) (pos₁ := pos) (XR_holding ?_) ?_
    · exact XR_pure
    · exact XR_pure
  · exact XR_pure
theorem XR_def2 {name bind : Str} {args : Arguments} {body : List Stmt} {scope : Scope} {v cl : List Str} {ts : Option Scope} {i : Int} {k1 k2 : Nat} {q1 q2 : Pos} (E : EcOk p n₀ ann g d os w e) (D : DefOk e.env name bind args body scope v cl) (hd : args.defaults = [.Constant .none k1 q1, .Constant (.int i) k2 q2]) (aw : Away pos c.pl) (fr : Fresh bind c.ns) :
    XR p n₀ ann g d os w (1 + (1 + ((1 + (20 + v.length + cl.length)) + (1 + 7)))) (exec (.FunctionDef name args body [] none [] scope ts bind pos) e.env) (mkH e.b c) t pos₀ .next
      (mkH e.b ⟨c.objs ++ { cls := .type "tuple", data := .seq #[.none, .int i t] } :: dObjs e name bind args body scope pos v cl (.ref (29 + c.objs.length)) (29 + c.objs.length + 1) (t + 1), c.ns ++ [⟨hsh w bind, .str bind (t + 1 + 3 + v.length + cl.length + 1 + 1), .ref (29 + c.objs.length + 1 + 6)⟩], c.pl ++ [((pos.line : Int), (pos.col : Int), .ref (29 + c.objs.length + 1 + 5))]⟩)
      (t + 1 + 3 + v.length + cl.length + 1 + 1 + 1) pos := by
  have aux := XR_def (p := p) (n₀ := n₀) (ann := ann) (g := g) (d := d) (os := os) (w := w) (h := mkH e.b c) (t := t) (pos := pos) (pos₀ := pos₀) (ts := ts) (es := c.ns) (dv := [.none, .int i t]) (dV := .ref (mkH e.b c).objs.size) (nd := 1) (ne := 1) (h' := mkH e.b c) (t' := t + 1) (hd := mkH e.b { c with objs := c.objs ++ [{ cls := .type "tuple", data := .seq #[.none, .int i t] }] }) D E.kind E.code E.n26 (by rw [E.locals]; exact E.n24) aw fr
    (by
      rw [show (defaultsOf args e.env).1 = [eval (.Constant .none k1 q1) e.env, eval (.Constant (.int i) k2 q2) e.env] from by obtain ⟨a1, a2, a3, a4, a5, a6, a7⟩ := args; dsimp only at hd; subst hd; rfl]
      exact XR_dv)
    (.inr ⟨by simp, rfl, mkH_push.symm, rfl⟩) (E.codeAt (c := { c with objs := c.objs ++ [{ cls := .type "tuple", data := .seq #[.none, .int i t] }] })) (mkH_pushAll _ _) (mkH_26 E.A) (mkH_place (c := { c with objs := _ }) E.A aw) (mkH_26 E.A) (E.built _ · _) (E.name _ · _) (by rw [mkH_push, E.locals]; exact mkH_24 E.A)
  rw [mkH_push, E.locals] at aux
  dsimp only at aux
  rw [mkH_put E.A (by exact fr), mkH_size E.A, mkH_size E.A, mkH_size E.A] at aux
  simp only [List.length_append, List.append_assoc, dCode_length, List.length_singleton] at aux
  exact aux
end
end M6
namespace M6
section
variable {p : Program} {n₀ : Nat} {ann : Option Value} {g : Array GenState} {d : Drawn} {os : OsState} {w : World} {e : Ec} {c : CS} {t : Nat} {pos pos₀ : Pos}
/-- The two kinds of written defaults. -/
theorem dflt_cases {P : List Expr → Prop} {l : List Expr} (h : dfltOk l = true) (h0 : P []) (h2 : ∀ k1 q1 i k2 q2, P [.Constant .none k1 q1, .Constant (.int i) k2 q2]) : P l := by
  cases l with
  | nil => exact h0
  | cons a r =>
    cases a <;> first | exact VE.noB h | skip
    rename_i c k q
    cases c <;> first | exact VE.noB h | skip
    cases r with
    | nil => exact VE.noB h
    | cons b r =>
      cases b <;> first | exact VE.noB h | skip
      rename_i c2 k2 q2
      cases c2 <;> first | exact VE.noB h | skip
      rename_i i
      cases r with
      | nil => exact h2 _ _ _ _ _
      | cons _ _ => exact VE.noB h
/-- The kinds of statements that a class's block may hold. -/
theorem st_view {P : Stmt → Prop} {st : Stmt} (hs : stB st = true)
    (hd : ∀ name args body scope ts bind pos, scope.names.all (fun x => x.2 != .free) = true → (localNames args scope (.stmts body)).isSome = true → argsPlain args = true → (docOf body).isNone = true → dfltOk args.defaults = true → P (.FunctionDef name args body [] none [] scope ts bind pos))
    (hi : ∀ n np i k q pos, P (.Assign [.Name n np] (.Constant (.int i) k q) pos)) (hx : ∀ n np x k q pos, P (.Assign [.Name n np] (.Constant (.str x) k q) pos)) : P st := by
  cases st <;> first | exact VE.noB hs | skip
  · rename_i name args body decs rets tps scope ts bind pos
    cases decs with
    | cons _ _ => exact VE.noB hs
    | nil =>
      cases rets with
      | some _ => exact VE.noB hs
      | none =>
        cases tps with
        | cons _ _ => exact VE.noB hs
        | nil =>
          have hs := Bool.and_eq_true_iff.mp hs
          have h1 := Bool.and_eq_true_iff.mp hs.1
          have h2 := Bool.and_eq_true_iff.mp h1.1
          have h3 := Bool.and_eq_true_iff.mp h2.1
          exact hd _ _ _ _ _ _ _ h3.1 h3.2 h2.2 h1.2 hs.2
  · rename_i tg v pos
    cases tg with
    | nil => exact VE.noB hs
    | cons a r =>
      cases a <;> first | exact VE.noB hs | skip
      cases r with
      | cons _ _ => exact VE.noB hs
      | nil =>
        cases v <;> first | exact VE.noB hs | skip
        rename_i c k q
        cases c <;> first | exact VE.noB hs | skip
        · exact hi _ _ _ _ _ _
        · exact hx _ _ _ _ _ _
theorem st_cases {P : Stmt → Prop} {st : Stmt} (hs : stB st = true)
    (h0 : ∀ name po a va ko kd kw body scope ts bind pos, P (.FunctionDef name ⟨po, a, va, ko, kd, kw, []⟩ body [] none [] scope ts bind pos))
    (h2 : ∀ name po a va ko kd kw body scope ts bind pos k1 q1 i k2 q2, P (.FunctionDef name ⟨po, a, va, ko, kd, kw, [.Constant .none k1 q1, .Constant (.int i) k2 q2]⟩ body [] none [] scope ts bind pos))
    (hi : ∀ n np i k q pos, P (.Assign [.Name n np] (.Constant (.int i) k q) pos)) (hx : ∀ n np x k q pos, P (.Assign [.Name n np] (.Constant (.str x) k q) pos)) : P st := by
  refine st_view hs (fun name args body scope ts bind pos _ _ _ _ hd => ?_) hi hx
  obtain ⟨po, a, va, ko, kd, kw, df⟩ := args
  exact dflt_cases (P := fun df => P (.FunctionDef name ⟨po, a, va, ko, kd, kw, df⟩ body [] none [] scope ts bind pos)) hd (h0 _ _ _ _ _ _ _ _ _ _ _ _) fun _ _ _ _ _ => h2 _ _ _ _ _ _ _ _ _ _ _ _ _ _ _ _ _
theorem eff_run (E : EcOk p n₀ ann g d os w e) {st : Stmt} (hs : stB st = true) (hk : e.env.kindOf (bindOf st) = some .local) (fr : Fresh (bindOf st) c.ns) (aw : Away (posOf st) c.pl) :
    XR p n₀ ann g d os w (stepsOf st) (exec st e.env) (mkH e.b c) t pos₀ .next (mkH e.b (eff e w st (c, t)).1) (eff e w st (c, t)).2 (endOf st) := by
  revert hk fr aw
  refine st_view (P := fun st => e.env.kindOf (bindOf st) = some .local → Fresh (bindOf st) c.ns → Away (posOf st) c.pl → XR p n₀ ann g d os w (stepsOf st) (exec st e.env) (mkH e.b c) t pos₀ .next (mkH e.b (eff e w st (c, t)).1) (eff e w st (c, t)).2 (endOf st)) hs (fun name args body scope ts bind pos h1 h2 h3 h4 h5 => ?_)
    (fun n np i k q pos hk fr aw => XR_assign E hk fr rfl rfl XR_int) (fun n np x k q pos hk fr aw => XR_assign E hk fr rfl rfl XR_str)
  intro hk fr aw
  have D := DefOk.of (env := e.env) (name := name) (bind := bind) (args := args) (body := body) (scope := scope) hk h1 h2 h3 h4
  clear h1 h2 h3 h4
  obtain ⟨po, a, va, ko, kd, kw, df⟩ := args
  revert D
  exact dflt_cases (P := fun df => DefOk e.env name bind ⟨po, a, va, ko, kd, kw, df⟩ body scope (vOf ⟨po, a, va, ko, kd, kw, df⟩ body scope) (clOf ⟨po, a, va, ko, kd, kw, df⟩ body scope) → XR p n₀ ann g d os w (stepsOf (.FunctionDef name ⟨po, a, va, ko, kd, kw, df⟩ body [] none [] scope ts bind pos)) (exec (.FunctionDef name ⟨po, a, va, ko, kd, kw, df⟩ body [] none [] scope ts bind pos) e.env) (mkH e.b c) t pos₀ .next (mkH e.b (eff e w (.FunctionDef name ⟨po, a, va, ko, kd, kw, df⟩ body [] none [] scope ts bind pos) (c, t)).1) (eff e w (.FunctionDef name ⟨po, a, va, ko, kd, kw, df⟩ body [] none [] scope ts bind pos) (c, t)).2 pos) h5
    (fun D => XR_def0 (ts := ts) (t := t) (pos₀ := pos₀) E D rfl aw fr) (fun k1 q1 i k2 q2 D => XR_def2 (ts := ts) (t := t) (pos₀ := pos₀) E D rfl aw fr)
structure Inv (us : List Nat) (ln : Nat) (c : CS) : Prop where
  ns : ∀ e ∈ c.ns, ∃ name t, e.key = .str name t ∧ enc name ∈ us
  pl : ∀ x ∈ c.pl, x.1 ≤ (ln : Int)
noncomputable def awayN (k : Nat) (l : List Nat) : Bool := @List.rec Nat (fun _ => Bool) true (fun a _ ih => @Bool.rec (fun _ => Bool) ih false (Nat.beq a k)) l
theorem awayN_iff {k : Nat} : ∀ {l : List Nat}, awayN k l = true → ∀ u ∈ l, u ≠ k
  | [], _, _, h => nomatch h
  | a :: l, h, u, hu => by
    have h : @Bool.rec (fun _ => Bool) (awayN k l) false (Nat.beq a k) = true := h
    cases hq : Nat.beq a k with
    | true => rw [hq] at h; cases h
    | false =>
      rw [hq] at h
      rcases List.mem_cons.mp hu with rfl | hu
      · exact Nat.ne_of_beq_eq_false hq
      · exact awayN_iff h u hu
noncomputable def chk (us : List Nat) (ln : Nat) : List Stmt → List Nat → Bool
  | [], _ => true
  | st :: r, k :: ks => stB st && Nat.beq k (enc (bindOf st)) && awayN k us && Nat.blt ln (posOf st).line && chk (k :: us) (posOf st).line r ks
  | _ :: _, [] => false
noncomputable def effAll (e : Ec) (w : World) : List Stmt → CS × Nat → CS × Nat
  | [], r => r
  | st :: l, r => effAll e w l (eff e w st r)
noncomputable def stepsAll : List Stmt → Nat
  | [] => 0
  | st :: l => stepsOf st + stepsAll l
noncomputable def lastPos : List Stmt → Pos → Pos
  | [], q => q
  | st :: l, _ => lastPos l (endOf st)
noncomputable def lastUs : List Stmt → List Nat → List Nat → List Nat
  | _ :: l, k :: ks, us => lastUs l ks (k :: us)
  | _, _, us => us
noncomputable def lastLn : List Stmt → Nat → Nat
  | [], n => n
  | st :: l, _ => lastLn l (posOf st).line
theorem Inv.fresh {us : List Nat} {ln : Nat} (I : Inv us ln c) {b : Str} {k : Nat} (hk : Nat.beq k (enc b) = true) (hu : awayN k us = true) : Fresh b c.ns := fun x hx => by
  obtain ⟨name, t, e1, e2⟩ := I.ns x hx
  have hk := Nat.eq_of_beq_eq_true hk
  have ne : enc name ≠ k := awayN_iff hu _ e2
  refine ⟨?_, ?_⟩
  · rw [e1, isStr_str']
    refine beq_eq_false_iff_ne.mpr fun z => ne ?_
    rw [z, hk]
  · show x.refKey = false
    unfold DictEntry.refKey
    rw [e1]
theorem Inv.away {us : List Nat} {ln : Nat} (I : Inv us ln c) {q : Pos} (h : Nat.blt ln q.line = true) : Away q c.pl := fun x hx => by
  have := I.pl x hx
  have h := Nat.blt_eq.mp h
  have : (x.1 == (q.line : Int)) = false := beq_eq_false_iff_ne.mpr (by lia)
  rw [this]
  rfl
theorem Inv.eff {us : List Nat} {ln : Nat} (I : Inv us ln c) {st : Stmt} (hs : stB st = true) {k : Nat} (hk : Nat.beq k (enc (bindOf st)) = true) (hl : Nat.blt ln (posOf st).line = true) : Inv (k :: us) (posOf st).line (eff e w st (c, t)).1 := by
  have hk := Nat.eq_of_beq_eq_true hk
  have hl := Nat.blt_eq.mp hl
  have old : ∀ x ∈ c.ns, ∃ name t, x.key = .str name t ∧ enc name ∈ k :: us := fun x hx => by
    obtain ⟨n, t, a, b⟩ := I.ns x hx
    exact ⟨n, t, a, .tail _ b⟩
  have oldp : ∀ x ∈ c.pl, x.1 ≤ ((posOf st).line : Int) := fun x hx => by
    have := I.pl x hx
    lia
  have add : ∀ (l : List DictEntry) (tk : Nat) (v : Value) (hh : Int), l = c.ns ++ [⟨hh, .str (bindOf st) tk, v⟩] → ∀ x ∈ l, ∃ name t, x.key = .str name t ∧ enc name ∈ k :: us := by
    rintro l tk v hh rfl x hx
    rcases List.mem_append.mp hx with hx | hx
    · exact old x hx
    · obtain rfl := List.mem_singleton.mp hx
      exact ⟨_, _, rfl, by rw [← hk]; exact .head _⟩
  have addp : ∀ (l : List (Int × Int × Value)) (y : Int) (v : Value), l = c.pl ++ [(((posOf st).line : Int), y, v)] → ∀ x ∈ l, x.1 ≤ ((posOf st).line : Int) := by
    rintro l y v rfl x hx
    rcases List.mem_append.mp hx with hx | hx
    · exact oldp x hx
    · obtain rfl := List.mem_singleton.mp hx
      exact Int.le_refl _
  clear hk hl
  revert add addp oldp
  exact st_cases (P := fun st => (∀ x ∈ c.pl, x.1 ≤ ((posOf st).line : Int)) → (∀ (l : List DictEntry) (tk : Nat) (v : Value) (hh : Int), l = c.ns ++ [⟨hh, .str (bindOf st) tk, v⟩] → ∀ x ∈ l, ∃ name t, x.key = .str name t ∧ enc name ∈ k :: us) → (∀ (l : List (Int × Int × Value)) (y : Int) (v : Value), l = c.pl ++ [(((posOf st).line : Int), y, v)] → ∀ x ∈ l, x.1 ≤ ((posOf st).line : Int)) → Inv (k :: us) (posOf st).line (M6.eff e w st (c, t)).1) hs
    (fun name po a va ko kd kw body scope ts bind pos oldp add addp => ⟨add _ _ _ _ rfl, addp _ _ _ rfl⟩) (fun name po a va ko kd kw body scope ts bind pos k1 q1 i k2 q2 oldp add addp => ⟨add _ _ _ _ rfl, addp _ _ _ rfl⟩)
    (fun n np i k' q pos oldp add addp => ⟨add _ _ _ _ rfl, oldp⟩) (fun n np x k' q pos oldp add addp => ⟨add _ _ _ _ rfl, oldp⟩)
theorem XR_execs (E : EcOk p n₀ ann g d os w e) : ∀ (l : List Stmt) (ks us : List Nat) (ln : Nat) (c : CS) (t : Nat) (pos₀ : Pos), chk us ln l ks = true → (∀ st ∈ l, e.env.kindOf (bindOf st) = some .local) → Inv us ln c →
    XR p n₀ ann g d os w (stepsAll l) (execs l e.env) (mkH e.b c) t pos₀ .next (mkH e.b (effAll e w l (c, t)).1) (effAll e w l (c, t)).2 (lastPos l pos₀) ∧ Inv (lastUs l ks us) (lastLn l ln) (effAll e w l (c, t)).1
  | [], ks, us, ln, c, t, pos₀, _, _, I => by
    refine ⟨XR_pure, ?_⟩
    cases ks <;> exact I
  | st :: l, [], us, ln, c, t, pos₀, h, _, _ => by cases h
  | st :: l, k :: ks, us, ln, c, t, pos₀, h, hk, I => by
    unfold chk at h
    simp only [Bool.and_eq_true] at h
    obtain ⟨⟨⟨⟨h1, h2⟩, h3⟩, h4⟩, h5⟩ := h
    have fr := I.fresh h2 h3
    have aw := I.away h4
    have r := eff_run (t := t) (pos₀ := pos₀) E h1 (hk st (.head _)) fr aw
    have I' : Inv (k :: us) (posOf st).line (M6.eff e w st (c, t)).1 := I.eff h1 h2 h4
    obtain ⟨r', I''⟩ := XR_execs E l ks (k :: us) (posOf st).line (M6.eff e w st (c, t)).1 (M6.eff e w st (c, t)).2 (endOf st) h5 (fun s hs => hk s (.tail _ hs)) I'
    refine ⟨?_, I''⟩
    rw [execs_cons]
    refine XR_bind r ?_
    exact r'
end
end M6
namespace M6
/-- What a statement lays, from an address and a token on. -/
noncomputable def sObjs (e : Ec) : Stmt → Nat → Nat → List Obj
  | .FunctionDef name args body _ _ _ scope _ bind pos, n, t => match args.defaults with
    | [.Constant .none _ _, .Constant (.int i) _ _] => { cls := .type "tuple", data := .seq #[.none, .int i t] } :: dObjs e name bind args body scope pos (vOf args body scope) (clOf args body scope) (.ref n) (n + 1) (t + 1)
    | _ => dObjs e name bind args body scope pos (vOf args body scope) (clOf args body scope) .none n t
  | _, _, _ => []
noncomputable def sEnt (w : World) : Stmt → Nat → Nat → List DictEntry
  | .FunctionDef _ args body _ _ _ scope _ bind _, n, t => match args.defaults with
    | [.Constant .none _ _, .Constant (.int i) _ _] => [⟨hsh w bind, .str bind (t + 1 + 3 + (vOf args body scope).length + (clOf args body scope).length + 1 + 1), .ref (n + 1 + 6)⟩]
    | _ => [⟨hsh w bind, .str bind (t + 3 + (vOf args body scope).length + (clOf args body scope).length + 1 + 1), .ref (n + 6)⟩]
  | .Assign [.Name b _] (.Constant (.int i) _ _) _, _, t => [⟨hsh w b, .str b (t + 1), .int i t⟩]
  | .Assign [.Name b _] (.Constant (.str x) _ _) _, _, t => [⟨hsh w b, .str b (t + 1), .str x t⟩]
  | _, _, _ => []
noncomputable def sPl : Stmt → Nat → List (Int × Int × Value)
  | .FunctionDef _ args _ _ _ _ _ _ _ pos, n => match args.defaults with
    | [.Constant .none _ _, .Constant (.int i) _ _] => [((pos.line : Int), (pos.col : Int), .ref (n + 1 + 5))]
    | _ => [((pos.line : Int), (pos.col : Int), .ref (n + 5))]
  | _, _ => []
noncomputable def sTk : Stmt → Nat → Nat
  | .FunctionDef _ args body _ _ _ scope _ _ _, t => match args.defaults with
    | [.Constant .none _ _, .Constant (.int i) _ _] => t + 1 + 3 + (vOf args body scope).length + (clOf args body scope).length + 1 + 1 + 1
    | _ => t + 3 + (vOf args body scope).length + (clOf args body scope).length + 1 + 1 + 1
  | .Assign [.Name _ _] (.Constant (.int _) _ _) _, t => t + 1 + 1
  | .Assign [.Name _ _] (.Constant (.str _) _ _) _, t => t + 1 + 1
  | _, t => t
noncomputable def sLen : Stmt → Nat
  | .FunctionDef _ args _ _ _ _ _ _ _ _ => match args.defaults with
    | [.Constant .none _ _, .Constant (.int _) _ _] => 8
    | _ => 7
  | _ => 0
theorem sObjs_length {e : Ec} {st : Stmt} {n t : Nat} (hs : stB st = true) : (sObjs e st n t).length = sLen st :=
  st_cases (P := fun st => (sObjs e st n t).length = sLen st) hs (fun name po a va ko kd kw body scope ts bind pos => rfl) (fun name po a va ko kd kw body scope ts bind pos k1 q1 i k2 q2 => rfl) (fun n np i k q pos => rfl) (fun n np x k q pos => rfl)
theorem eff_is {e : Ec} {w : World} {st : Stmt} {c : CS} {t n : Nat} (hs : stB st = true) (hn : n = 29 + c.objs.length) : eff e w st (c, t) = (⟨c.objs ++ sObjs e st n t, c.ns ++ sEnt w st n t, c.pl ++ sPl st n⟩, sTk st t) := by
  subst hn
  obtain ⟨co, cn, cp⟩ := c
  exact st_cases (P := fun st => eff e w st (⟨co, cn, cp⟩, t) = (⟨co ++ sObjs e st (29 + co.length) t, cn ++ sEnt w st (29 + co.length) t, cp ++ sPl st (29 + co.length)⟩, sTk st t)) hs (fun name po a va ko kd kw body scope ts bind pos => rfl) (fun name po a va ko kd kw body scope ts bind pos k1 q1 i k2 q2 => rfl)
    (fun n np i k q pos => by show (_, _) = ((⟨co ++ [], _, cp ++ []⟩ : CS), _); rw [List.append_nil, List.append_nil]; rfl) (fun n np x k q pos => by show (_, _) = ((⟨co ++ [], _, cp ++ []⟩ : CS), _); rw [List.append_nil, List.append_nil]; rfl)
/-- The statements with their addresses and tokens. -/
noncomputable abbrev Row := List (Stmt × Nat × Nat)
noncomputable def rowOk : Row → Nat → Nat → Bool
  | [], _, _ => true
  | (st, n, t) :: r, n', t' => Nat.beq n n' && Nat.beq t t' && rowOk r (n + sLen st) (sTk st t)
noncomputable def rowN : Row → Nat → Nat
  | [], n => n
  | (st, n, _) :: r, _ => rowN r (n + sLen st)
noncomputable def rowT : Row → Nat → Nat
  | [], t => t
  | (st, _, t) :: r, _ => rowT r (sTk st t)
noncomputable def rObjs (e : Ec) : Row → List Obj
  | [] => []
  | (st, n, t) :: r => sObjs e st n t ++ rObjs e r
noncomputable def rEnt (w : World) : Row → List DictEntry
  | [] => []
  | (st, n, t) :: r => sEnt w st n t ++ rEnt w r
noncomputable def rPl : Row → List (Int × Int × Value)
  | [] => []
  | (st, n, _) :: r => sPl st n ++ rPl r
theorem effAll_is {e : Ec} {w : World} : ∀ (r : Row) (c : CS) (n t : Nat), rowOk r n t = true → (∀ x ∈ r, stB x.1 = true) → n = 29 + c.objs.length →
    effAll e w (r.map (·.1)) (c, t) = (⟨c.objs ++ rObjs e r, c.ns ++ rEnt w r, c.pl ++ rPl r⟩, rowT r t)
  | [], c, n, t, _, _, _ => by simp [effAll, rObjs, rEnt, rPl, rowT]
  | (st, n', t') :: r, c, n, t, h, hs, hn => by
    unfold rowOk at h
    simp only [Bool.and_eq_true] at h
    obtain ⟨⟨h1, h2⟩, h3⟩ := h
    have h1 := Nat.eq_of_beq_eq_true h1
    have h2 := Nat.eq_of_beq_eq_true h2
    subst h1 h2
    have h0 := hs _ (.head _)
    show effAll e w (r.map (·.1)) (eff e w st (c, t')) = _
    rw [eff_is h0 hn, effAll_is r _ (n' + sLen st) (sTk st t') h3 (fun x hx => hs x (.tail _ hx)) (by rw [List.length_append, sObjs_length h0, hn]; dsimp only; (clear h0 h1 h2 h3 hn; (exact Nat.le_antisymm (VE.qq0 [_,_] [29] 0x84c50082609402 VE.qt) (VE.qq0 [_,_] [29] 0x98250082131402 VE.qt))))]
    simp [rObjs, rEnt, rPl, rowT]
theorem XR_execs_app {p : Program} {n₀ : Nat} {ann : Option Value} {g : Array GenState} {d : Drawn} {os : OsState} {w : World} {env : Env} {h h₁ h₂ : Heap} {t t₁ t₂ n k : Nat} {pos pos₁ pos₂ : Pos} {a b : List Stmt}
    (x : XR p n₀ ann g d os w n (execs a env) h t pos .next h₁ t₁ pos₁) (y : XR p n₀ ann g d os w k (execs b env) h₁ t₁ pos₁ .next h₂ t₂ pos₂) : XR p n₀ ann g d os w (n + k) (execs (a ++ b) env) h t pos .next h₂ t₂ pos₂ := ⟨fun K H gd lv code fr B => by
  rw [execs_app_wrap]
  exact (x.run _ _ _ _ code fr B).trans (y.run K H gd lv code fr B)⟩
/-- A tree of objects of a list. -/
noncomputable def evens : List Obj → List Obj
  | [] => []
  | [a] => [a]
  | a :: _ :: r => a :: evens r
noncomputable def odds : List Obj → List Obj
  | [] => []
  | [_] => []
  | _ :: b :: r => b :: odds r
noncomputable def btOf : Nat → List Obj → BT
  | 0, _ => .nil
  | _ + 1, [] => .nil
  | k + 1, o :: r => .node o (btOf k (evens r)) (btOf k (odds r))
theorem evens_get : ∀ (l : List Obj) (i : Nat), (evens l)[i]? = l[2 * i]?
  | [], i => by simp [evens]
  | [a], i => by cases i <;> simp [evens]
  | a :: b :: r, 0 => rfl
  | a :: b :: r, i + 1 => by
    show (evens r)[i]? = _
    rw [evens_get r i, show 2 * (i + 1) = 2 * i + 1 + 1 by (exact Nat.le_antisymm (VE.qq0 [_] [1,2] 0x402080411942308045 VE.qt) (VE.qq0 [_] [2,1] 0x61088a10882110065 VE.qt))]
    rfl
theorem odds_get : ∀ (l : List Obj) (i : Nat), (odds l)[i]? = l[2 * i + 1]?
  | [], i => by simp [odds]
  | [a], i => by cases i <;> simp [odds]
  | a :: b :: r, 0 => rfl
  | a :: b :: r, i + 1 => by
    show (odds r)[i]? = _
    rw [odds_get r i, show 2 * (i + 1) + 1 = 2 * i + 1 + 1 + 1 by (exact Nat.le_antisymm (VE.qq0 [_] [1,2] 0x1008201040208ca10082308045 VE.qt) (VE.qq0 [_] [2,1] 0x10880308445084410882110065 VE.qt))]
    rfl
theorem evens_len : ∀ l : List Obj, (evens l).length = (l.length + 1) / 2
  | [] => rfl
  | [a] => by simp [evens]
  | a :: b :: r => by show (evens r).length + 1 = (r.length + 1 + 1 + 1) / 2; rw [evens_len r]; lia
theorem odds_len : ∀ l : List Obj, (odds l).length = l.length / 2
  | [] => rfl
  | [a] => by simp [odds]
  | a :: b :: r => by show (odds r).length + 1 = (r.length + 1 + 1) / 2; rw [odds_len r]; lia
theorem btOf_get : ∀ (k : Nat) (l : List Obj) (i : Nat), l.length < 2 ^ k → (btOf k l).get i = l[i]?
  | 0, l, i, h => by
    have : l = [] := List.length_eq_zero_iff.mp (by simpa using h)
    subst this
    simp [btOf, BT.get]
  | k + 1, [], i, _ => by simp [btOf, BT.get]
  | k + 1, o :: r, i, h => by
    rw [Nat.pow_succ] at h
    simp only [List.length_cons] at h
    show (BT.node o (btOf k (evens r)) (btOf k (odds r))).get i = _
    rw [BT.get_node]
    by_cases h0 : i = 0
    · subst h0; simp
    · rw [if_neg h0]
      by_cases h1 : i % 2 = 1
      · rw [if_pos h1, btOf_get k _ _ (by rw [evens_len]; (clear h0 h1; (exact VE.qq2 [_,_,_,_] [1,2] 2 0x608045 1 0x243040208047 1 0x1008e140465 VE.qt h (VE.qD _ 2)))), evens_get]
        obtain ⟨j, rfl⟩ : ∃ j, i = 2 * j + 1 := ⟨i / 2, by (clear h h0; (exact Nat.le_antisymm (VE.qq2 [_,_,_] [2,1] 1 0x42200cc5 1 0x447 1 0x2700cc5 VE.qt (VE.qE h1) (VE.qD' _ 2)) (VE.qq2 [_,_,_] [2,1] 1 0x182110065 1 0x1c22 1 0xc138065 VE.qt (VE.qF h1) (VE.qD _ 2))))⟩
        rw [show (2 * j + 1) / 2 = j by (clear h h0 h1; lia)]
        rfl
      · rw [if_neg h1, btOf_get k _ _ (by rw [odds_len]; (clear h0 h1; (exact VE.qq2 [_,_,_,_] [1,2] 2 0x608045 1 0x243040208047 1 0xe140465 VE.qt h (VE.qD _ 2)))), odds_get]
        obtain ⟨j, rfl⟩ : ∃ j, i = 2 * j + 1 + 1 := ⟨i / 2 - 1, by (clear h; lia)⟩
        rw [show (2 * j + 1 + 1) / 2 - 1 = j by (clear h h0 h1; lia)]
        rfl
theorem absHeap_btOf {k : Nat} {l : List Obj} {life : Life} (h : l.length < 2 ^ k) : absHeap (btOf k l) l.length life = ⟨l.toArray, life⟩ := by
  have e : (absHeap (btOf k l) l.length life).objs = l.toArray := by
    refine Array.ext_getElem? fun i => ?_
    rw [absHeap_at, btOf_get k l i h, List.getElem?_toArray]
    by_cases hi : i < l.length
    · rw [if_pos hi, List.getElem?_eq_getElem hi]; rfl
    · rw [if_neg hi, List.getElem?_eq_none (by (clear h; (exact VE.qq1 [_,_] [] 1 0xc5 1 0xc5 VE.qt (VE.qT hi))))]
  have e2 : (absHeap (btOf k l) l.length life).life = life := rfl
  cases hq : absHeap (btOf k l) l.length life with
  | mk o l' => rw [hq] at e e2; cases e; cases e2; rfl
end M6
namespace M6
/-- What may stand in a written list. -/
inductive LK where
  | name (x : Str) (q : Pos)
  | int (i : Int)
  | oth
noncomputable def lKind : Expr → LK
  | .Name x q => .name x q
  | .Constant (.int i) _ _ => .int i
  | _ => .oth
theorem noK {x : Str} {q : Pos} {P : Prop} (h : LK.oth = LK.name x q) : P := nomatch h
theorem noK1 {i : Int} {x : Str} {q : Pos} {P : Prop} (h : LK.int i = LK.name x q) : P := nomatch h
theorem noI {i : Int} {P : Prop} (h : LK.oth = LK.int i) : P := nomatch h
theorem noI1 {i : Int} {x : Str} {q : Pos} {P : Prop} (h : LK.name x q = LK.int i) : P := nomatch h
theorem lKind_name {y : Expr} {x : Str} {q : Pos} (h : lKind y = .name x q) : y = .Name x q := by
  cases y with
  | Name => cases h; rfl
  | Constant v => cases v <;> first | exact noK h | exact noK1 h
  | _ => exact noK h
theorem lKind_int {y : Expr} {i : Int} (h : lKind y = .int i) : ∃ k q, y = .Constant (.int i) k q := by
  cases y with
  | Constant v => cases v with
    | int => cases h; exact ⟨_, _, rfl⟩
    | _ => exact noI h
  | Name => exact noI1 h
  | _ => exact noI h
noncomputable def lItem (e : Expr) : Bool := match lKind e with
  | .oth => false
  | _ => true
noncomputable def nval (ns : List DictEntry) (x : Str) : Value := match ns.find? (·.key.isStr x) with
  | some e => e.val
  | none => .none
noncomputable def lVal1 (ns : List DictEntry) (t : Nat) (k : LK) (f : Nat → List Value) : List Value := match k with
  | .name x _ => nval ns x :: f t
  | .int i => .int i t :: f (t + 1)
  | .oth => f t
noncomputable def lVals (ns : List DictEntry) : List Expr → Nat → List Value
  | [], _ => []
  | e :: r, t => lVal1 ns t (lKind e) (lVals ns r)
noncomputable def lTk : List Expr → Nat → Nat
  | [], t => t
  | e :: r, t => lTk r (match lKind e with
    | .int _ => t + 1
    | _ => t)
noncomputable def lSteps : List Expr → Nat
  | [] => 0
  | e :: r => (match lKind e with
    | .name _ _ => 3
    | _ => 1) + lSteps r
noncomputable def lPos : List Expr → Pos → Pos
  | [], q => q
  | e :: r, q => lPos r (match lKind e with
    | .name _ p => p
    | _ => q)
section
variable {p : Program} {n₀ : Nat} {ann : Option Value} {g : Array GenState} {d : Drawn} {os : OsState} {w : World} {e : Ec} {c : CS}
noncomputable def Found (e : Ec) (ns : List DictEntry) (x : Str) : Prop := (x == ("__debug__" : Str)) = false ∧ e.env.kindOf x = some .local ∧ (ns.find? (·.key.isStr x)).isSome = true
theorem XL_all (E : EcOk p n₀ ann g d os w e) : ∀ (es : List Expr) (t : Nat) (pos : Pos), es.all lItem = true → (∀ x q, Expr.Name x q ∈ es → Found e c.ns x) → XL p n₀ ann g d os w (lSteps es) es e.env (mkH e.b c) t pos (lVals c.ns es t) (lTk es t) (lPos es pos)
  | [], t, pos, _, _ => XL_nil
  | x :: r, t, pos, h, hf => by
    rw [List.all_cons, Bool.and_eq_true] at h
    obtain ⟨h1, h2⟩ := h
    cases hk : lKind x with
    | name y q =>
      obtain rfl := lKind_name hk
      obtain ⟨f1, f2, f3⟩ := hf y q (.head _)
      obtain ⟨en, hen⟩ := Option.isSome_iff_exists.mp f3
      have hv : nval c.ns y = en.val := by unfold nval; rw [hen]
      show XL p n₀ ann g d os w (3 + lSteps r) _ _ _ _ _ (nval c.ns y :: lVals c.ns r t) (lTk r t) (lPos r q)
      rw [hv]
      exact XL_cons rfl (XR_Name E f1 f2 hen) (XL_all E r t q h2 fun y q' hy => hf y q' (.tail _ hy))
    | int i =>
      obtain ⟨k, q, rfl⟩ := lKind_int hk
      show XL p n₀ ann g d os w (1 + lSteps r) _ _ _ _ _ (.int i t :: lVals c.ns r (t + 1)) (lTk r (t + 1)) (lPos r pos)
      exact XL_cons rfl XR_int (XL_all E r (t + 1) pos h2 fun y q' hy => hf y q' (.tail _ hy))
    | oth =>
      change (match lKind x with | .oth => false | _ => true) = true at h1
      rw [hk] at h1; cases h1
theorem lVals_length {ns : List DictEntry} : ∀ (es : List Expr) (t : Nat), (lVals ns es t).length ≤ es.length
  | [], _ => Nat.le_refl _
  | x :: r, t => by
    show (lVal1 ns t (lKind x) (lVals ns r)).length ≤ r.length + 1
    cases lKind x with
    | name => exact Nat.succ_le_succ (lVals_length _ _)
    | int => exact Nat.succ_le_succ (lVals_length _ _)
    | oth => exact Nat.le_succ_of_le (lVals_length _ _)
/-- A written list is bound in a class's block. -/
theorem XR_listSt (E : EcOk p n₀ ann g d os w e) {b : Str} {np q pos pos₀ : Pos} {es : List Expr} {t : Nat} (h1 : es.all lItem = true) (hf : ∀ x q, Expr.Name x q ∈ es → Found e c.ns x) (hz : es.length ≤ 1000) (hk : e.env.kindOf b = some .local) (fr : Fresh b c.ns) :
    XR p n₀ ann g d os w (1 + ((1 + (lSteps es + 1)) + 8)) (exec (.Assign [.Name b np] (.List es q) pos) e.env) (mkH e.b c) t pos₀ .next
      (mkH e.b ⟨c.objs ++ [{ cls := .type "list", data := .seq (lVals c.ns es t).toArray }], c.ns ++ [⟨hsh w b, .str b (lTk es t), .ref (29 + c.objs.length)⟩], c.pl⟩) (lTk es t + 1) np := by
  have k := XR_assign (c := c) (c₁ := { c with objs := c.objs ++ [{ cls := .type "list", data := .seq (lVals c.ns es t).toArray }] }) (t := t) (t₁ := lTk es t) (name := b) (np := np) (pos := pos) (pos₀ := pos₀) E hk fr rfl rfl
    (XR_List (pos := pos) (by have := lVals_length (ns := c.ns) es t; have : sizeLine = 2 ^ 24 := rfl; lia) (XL_all E es t q h1 hf))
  rw [mkH_size E.A] at k
  exact k
end
/-- The names of a row's statements are found. -/
theorem ent_of_row {w : World} : ∀ {r : Row} {x : Stmt × Nat × Nat}, x ∈ r → stB x.1 = true → ∃ en ∈ rEnt w r, en.key.isStr (bindOf x.1) = true
  | (st, n, t) :: r, x, hx, hs => by
    rcases List.mem_cons.mp hx with rfl | hx
    · have : ∃ en ∈ sEnt w st n t, en.key.isStr (bindOf st) = true := by
        have one : ∀ (b : Str) (hh : Int) (tk : Nat) (v : Value), ∃ en ∈ ([⟨hh, .str b tk, v⟩] : List DictEntry), en.key.isStr b = true := fun b hh tk v => ⟨_, .head _, by rw [isStr_str']; exact beq_self_eq_true _⟩
        exact st_cases (P := fun st => ∃ en ∈ sEnt w st n t, en.key.isStr (bindOf st) = true) hs (fun name po a va ko kd kw body scope ts bind pos => one _ _ _ _) (fun name po a va ko kd kw body scope ts bind pos k1 q1 i k2 q2 => one _ _ _ _) (fun n np i k q pos => one _ _ _ _) (fun n np x k q pos => one _ _ _ _)
      obtain ⟨en, h1, h2⟩ := this
      exact ⟨en, List.mem_append_left _ h1, h2⟩
    · obtain ⟨en, h1, h2⟩ := ent_of_row hx hs
      exact ⟨en, List.mem_append_right _ h1, h2⟩
theorem lookup_local {b : Str} : ∀ {l : List (Str × NameKind)}, l.all (fun x => x.2 == .local) = true → b ∈ l.map (·.1) → l.lookup b = some .local
  | [], _, h => nomatch h
  | (n, k) :: r, h, hm => by
    rw [List.all_cons, Bool.and_eq_true] at h
    have hk : k = .local := by simpa using h.1
    subst hk
    simp only [List.lookup]
    cases hb : b == n with
    | true => rfl
    | false =>
      rcases List.mem_cons.mp hm with q | q
      · have : b = n := q
        rw [this, beq_self_eq_true] at hb
        cases hb
      · exact lookup_local h.2 q
/-- The names of a written list, by their codes. -/
noncomputable def chkN (ks : List Nat) (dbg : Nat) (x : Str) (f : List Nat → Bool) : List Nat → Bool
  | k :: lk => Nat.beq k (enc x) && small x && !(awayN k ks) && !(Nat.beq k dbg) && f lk
  | [] => false
noncomputable def chkL1 (ks : List Nat) (dbg : Nat) (k : LK) (f : List Nat → Bool) (lk : List Nat) : Bool := match k with
  | .name x _ => chkN ks dbg x f lk
  | .int _ => f lk
  | .oth => false
noncomputable def chkL (ks : List Nat) (dbg : Nat) : List Expr → List Nat → Bool
  | [], _ => true
  | e :: r, lk => chkL1 ks dbg (lKind e) (chkL ks dbg r) lk
theorem awayN_false {k : Nat} : ∀ {l : List Nat}, awayN k l = false → k ∈ l
  | [], h => by cases h
  | a :: l, h => by
    have h : @Bool.rec (fun _ => Bool) (awayN k l) false (Nat.beq a k) = false := h
    cases hq : Nat.beq a k with
    | true => rw [Nat.eq_of_beq_eq_true hq]; exact .head _
    | false => rw [hq] at h; exact .tail _ (awayN_false h)
theorem chkL_name {ks : List Nat} {dbg : Nat} {x : Str} {q : Pos} : ∀ {es : List Expr} {lk : List Nat}, chkL ks dbg es lk = true → Expr.Name x q ∈ es → enc x ∈ ks ∧ small x = true ∧ enc x ≠ dbg
  | [], _, _, h => nomatch h
  | y :: r, lk, h, hm => by
    have h : chkL1 ks dbg (lKind y) (chkL ks dbg r) lk = true := h
    cases hk : lKind y with
    | name z qz =>
      rw [hk] at h
      cases lk with
      | nil => cases h
      | cons k lk =>
        have h : (Nat.beq k (enc z) && small z && !(awayN k ks) && !(Nat.beq k dbg) && chkL ks dbg r lk) = true := h
        simp only [Bool.and_eq_true, Bool.not_eq_true'] at h
        obtain ⟨⟨⟨⟨h1, h2⟩, h3⟩, h4⟩, h5⟩ := h
        rcases List.mem_cons.mp hm with e | hm
        · rw [← e] at hk
          cases hk
          have h1 := Nat.eq_of_beq_eq_true h1
          rw [← h1]
          exact ⟨awayN_false h3, h2, Nat.ne_of_beq_eq_false h4⟩
        · exact chkL_name h5 hm
    | int i =>
      rw [hk] at h
      rcases List.mem_cons.mp hm with e | hm
      · rw [← e] at hk; cases hk
      · exact chkL_name (show chkL ks dbg r lk = true from h) hm
    | oth => rw [hk] at h; exact VE.noB h
theorem chkL_items {ks : List Nat} {dbg : Nat} : ∀ {es : List Expr} {lk : List Nat}, chkL ks dbg es lk = true → es.all lItem = true
  | [], _, _ => rfl
  | y :: r, lk, h => by
    have h : chkL1 ks dbg (lKind y) (chkL ks dbg r) lk = true := h
    have e : ∀ {lk : List Nat}, chkL ks dbg r lk = true → lKind y ≠ .oth → (y :: r).all lItem = true := fun g k => by
      rw [List.all_cons, chkL_items g, Bool.and_true]
      show (match lKind y with | .oth => false | _ => true) = true
      cases q : lKind y with
      | oth => exact absurd q k
      | _ => rfl
    cases hk : lKind y with
    | name z qz =>
      rw [hk] at h
      cases lk with
      | nil => cases h
      | cons k lk => exact e (Bool.and_eq_true_iff.mp (show (Nat.beq k (enc z) && small z && !(awayN k ks) && !(Nat.beq k dbg) && chkL ks dbg r lk) = true from h)).2 fun q => by rw [hk] at q; cases q
    | int i => rw [hk] at h; exact e (show chkL ks dbg r lk = true from h) fun q => by rw [hk] at q; cases q
    | oth => rw [hk] at h; exact VE.noB h
theorem chk_code {k : Nat} : ∀ {l : List Stmt} {ks us : List Nat} {ln : Nat}, chk us ln l ks = true → l.length = ks.length → k ∈ ks → ∃ st ∈ l, enc (bindOf st) = k
  | [], [], _, _, _, _, h => nomatch h
  | [], _ :: _, _, _, _, h, _ => by simp at h
  | _ :: _, [], _, _, _, h, _ => by simp at h
  | st :: l, k' :: ks, us, ln, h, hl, hm => by
    unfold chk at h
    simp only [Bool.and_eq_true] at h
    obtain ⟨⟨⟨⟨h1, h2⟩, h3⟩, h4⟩, h5⟩ := h
    rcases List.mem_cons.mp hm with e | hm
    · exact ⟨st, .head _, by rw [e]; exact (Nat.eq_of_beq_eq_true h2).symm⟩
    · obtain ⟨s, a, b⟩ := chk_code h5 (by simpa using hl) hm
      exact ⟨s, .tail _ a, b⟩
theorem found_of {e : Ec} {w : World} {r : Row} {ks lk us : List Nat} {ln dbg : Nat} {es : List Expr} {ns : List DictEntry} (hd : dbg = enc ("__debug__" : Str)) (hc : chk us ln (r.map (·.1)) ks = true) (hl : r.length = ks.length) (hs : ∀ x ∈ r, stB x.1 = true) (sm : ∀ x ∈ r, small (bindOf x.1) = true)
    (hk : ∀ x ∈ r, e.env.kindOf (bindOf x.1) = some .local) (hL : chkL ks dbg es lk = true) (hns : ∀ en ∈ rEnt w r, en ∈ ns) : ∀ x q, Expr.Name x q ∈ es → Found e ns x := fun x q hx => by
  obtain ⟨h1, h2, h3⟩ := chkL_name hL hx
  obtain ⟨st, hst, e1⟩ := chk_code hc (by simpa using hl) h1
  obtain ⟨y, hy, rfl⟩ := List.mem_map.mp hst
  have := enc_inj (sm y hy) h2 e1
  subst this
  refine ⟨?_, hk y hy, ?_⟩
  · refine beq_eq_false_iff_ne.mpr fun z => h3 ?_
    rw [z, hd]
  · obtain ⟨en, a, b⟩ := ent_of_row (w := w) hy (hs y hy)
    rw [List.find?_isSome]
    exact ⟨en, hns en a, b⟩
theorem Inv.add {us : List Nat} {ln : Nat} {c : CS} (I : Inv us ln c) {objs : List Obj} {b : Str} {hh : Int} {t k : Nat} {v : Value} (hk : k = enc b) : Inv (k :: us) ln ⟨objs, c.ns ++ [⟨hh, .str b t, v⟩], c.pl⟩ := ⟨fun x hx => by
  rcases List.mem_append.mp hx with hx | hx
  · obtain ⟨n, t, a, c⟩ := I.ns x hx
    exact ⟨n, t, a, .tail _ c⟩
  · obtain rfl := List.mem_singleton.mp hx
    exact ⟨b, t, rfl, by rw [hk]; exact .head _⟩, I.pl⟩
theorem rowN_is {e : Ec} : ∀ (r : Row) (n t : Nat), rowOk r n t = true → (∀ x ∈ r, stB x.1 = true) → n + (rObjs e r).length = rowN r n
  | [], n, _, _, _ => rfl
  | (st, n', t') :: r, n, t, h, hs => by
    unfold rowOk at h
    simp only [Bool.and_eq_true] at h
    obtain ⟨⟨h1, h2⟩, h3⟩ := h
    have h1 := Nat.eq_of_beq_eq_true h1
    subst h1
    have := rowN_is (e := e) r (n' + sLen st) _ h3 fun x hx => hs x (.tail _ hx)
    show n' + (sObjs e st n' t' ++ rObjs e r).length = rowN r (n' + sLen st)
    rw [List.length_append, sObjs_length (hs _ (.head _)), ← this]
    dsimp only
    lia
noncomputable def lEs : Stmt → List Expr
  | .Assign _ (.List es _) _ => es
  | _ => []
noncomputable def lQ : Stmt → Pos
  | .Assign _ (.List _ q) _ => q
  | _ => default
noncomputable abbrev lForm (st : Stmt) : Stmt := .Assign [.Name (bindOf st) (endOf st)] (.List (lEs st) (lQ st)) (posOf st)
end M6
namespace M6
noncomputable section
abbrev PP : Program := PySem.Challenge.pw_me0006_02
noncomputable def pst (i : Nat) : Stmt := (PP.main.body[i]?).getD (.Pass default)
noncomputable def lawI : Nat := PP.main.body.length - 1
noncomputable def sBody : Stmt → List Stmt
  | .FunctionDef _ _ b _ _ _ _ _ _ _ => b
  | .ClassDef _ _ _ b _ _ _ _ _ _ _ => b
  | _ => []
noncomputable def sArgs : Stmt → Arguments
  | .FunctionDef _ a _ _ _ _ _ _ _ _ => a
  | _ => default
noncomputable def sScope : Stmt → Scope
  | .FunctionDef _ _ _ _ _ _ s _ _ _ => s
  | .ClassDef _ _ _ _ _ _ s _ _ _ _ => s
  | _ => default
noncomputable def sName : Stmt → Str
  | .FunctionDef n _ _ _ _ _ _ _ _ _ => n
  | _ => default
noncomputable def cb : List Stmt := sBody (pst 2)
noncomputable def cst (i : Nat) : Stmt := (cb[i]?).getD (.Pass default)
noncomputable abbrev S (x : String) : Str := Str.ofString x
noncomputable abbrev annV : Option Value := some (.ref 6)
noncomputable def cenv : Env := { scope := sScope (pst 2), locals := 24, globals := mainNs, cells := [], qual := S "MPU.", func := none, code := .ref 27, frame := some 28, builtins := 0 }
noncomputable abbrev qP : Pos := default
section
variable (w : World)
noncomputable abbrev h (x : Str) : Int := hsh w x
noncomputable def o11 : Obj := ⟨(.type "tuple"), none, .seq #[] 0, #[]⟩
noncomputable def o12 : Obj := ⟨.none, none, .fields #[(.int 1 0), (.int 0 0), (.ref 20), (.int 5 0), (.int 0 0), (.ref 27)], #[]⟩
noncomputable def o13 : Obj := ⟨(.type "code"), none, .fields #[(.str (S "<module>") 182), (.str (S "<module>") 183), (.str (S "/claim/cut.py") 184), (.int 1 0), (.int 0 0), (.int 0 0), (.int 0 0), (.int 0 0), (.ref 11), (.bool false), (.int 181 0), (.ref 12), .none, .none, .none, .none, (.int 185 0), (.int 1 0), (.str (S "/claim/cut.py") 186)], #[]⟩
noncomputable def o14 : Obj := ⟨(.type "frame"), none, .plain, #[some (.ref 13), some (.ref 3), some (.ref 3), none, some (.str (S "__main__") 164), none, some (.ref 0)]⟩
noncomputable def o15 : Obj := ⟨(.type "tuple"), none, .seq #[] 0, #[]⟩
noncomputable def o16 : Obj := ⟨.none, none, .fields #[], #[]⟩
noncomputable def o17 : Obj := ⟨(.type "tuple"), none, .seq #[(.str (S "k") 190)] 0, #[]⟩
noncomputable def o18 : Obj := ⟨(.type "tuple"), none, .seq #[] 0, #[]⟩
noncomputable def o19 : Obj := ⟨.none, none, .func { name := (S "_wall"), qualname := (S "_wall"), params := sArgs (pst 0), body := .stmts (sBody (pst 0)), scope := sScope (pst 0), globals := 0, closure := [], defaults := .none, kwdefaults := .none, doc := .none, pyModule := .none, annotations := none, code := .none, closureTuple := .none, builtins := 0 }, #[]⟩
noncomputable def o20 : Obj := ⟨(.type "code"), none, .fields #[(.str (S "_wall") 187), (.str (S "_wall") 188), (.str (S "/claim/cut.py") 189), (.int 1 0), (.int 1 0), (.int 0 0), (.int 0 0), (.int 3 0), (.ref 15), (.bool true), (.int 181 0), (.ref 16), .none, (.ref 17), (.ref 18), (.ref 19), (.int 191 0), (.int 1 0), (.str (S "/claim/cut.py") 192)], #[]⟩
noncomputable def o21 : Obj := ⟨(.type "function"), none, .func { name := (S "_wall"), qualname := (S "_wall"), params := sArgs (pst 0), body := .stmts (sBody (pst 0)), scope := sScope (pst 0), globals := 3, closure := [], defaults := .none, kwdefaults := .none, doc := .none, pyModule := (.str (S "__main__") 164), annotations := none, code := (.ref 20), closureTuple := .none, builtins := 0 }, #[]⟩
noncomputable def o3a : Obj := ⟨(.type "dict"), none, .dict #[⟨h w (S "__name__"), .str (S "__name__") 165, (.str (S "py65.devices.mpu6502") 194)⟩, ⟨h w (S "__doc__"), .str (S "__doc__") 166, .none⟩, ⟨h w (S "__package__"), .str (S "__package__") 167, .none⟩, ⟨h w (S "__loader__"), .str (S "__loader__") 168, (.builtin "__main__.__loader__#opaque")⟩, ⟨h w (S "__spec__"), .str (S "__spec__") 169, .none⟩, ⟨h w (S "__annotations__"), .str (S "__annotations__") 170, (.ref 6)⟩, ⟨h w (S "__builtins__"), .str (S "__builtins__") 171, (.ref 4)⟩, ⟨h w (S "__file__"), .str (S "__file__") 173, (.str (S "/claim/cut.py") 172)⟩, ⟨h w (S "__cached__"), .str (S "__cached__") 174, .none⟩, ⟨h w (S "_wall"), .str (S "_wall") 193, (.ref 21)⟩] 10, #[]⟩
noncomputable def o22 : Obj := ⟨(.type "tuple"), none, .seq #[] 0, #[]⟩
noncomputable def o23 : Obj := ⟨(.type "builtin_function_or_method"), none, .fields #[(.builtin "type.__prepare__"), (.type "type")], #[]⟩
noncomputable def o25 : Obj := ⟨(.type "tuple"), none, .seq #[] 0, #[]⟩
noncomputable def o27 : Obj := ⟨(.type "code"), none, .fields #[(.str (S "MPU") 198), (.str (S "MPU") 199), (.str (S "/claim/cut.py") 200), (.int 5 0), (.int 0 0), (.int 0 0), (.int 0 0), (.int 0 0), (.ref 25), (.bool false), (.int 181 0), (.ref 26), .none, .none, .none, .none, (.int 201 0), (.int 5 0), (.str (S "/claim/cut.py") 202)], #[]⟩
noncomputable def o28 : Obj := ⟨(.type "frame"), none, .plain, #[some (.ref 27), some (.ref 3), some (.ref 24), none, some (.str (S "py65.devices.mpu6502") 194), none, some (.ref 0)]⟩
noncomputable def L0 : List Obj := [boot_o_0 w.params, boot_o_1 w.params, boot_o_2 w.params, boot_o_3 w.params, boot_o_4 w.params, boot_o_5 w.params, boot_o_6 w.params, boot_o_7 w.params, boot_o_8 w.params, boot_o_9 w.params, boot_o_10 w.params]
noncomputable def A109 : List Obj := [boot_o_0 w.params, boot_o_1 w.params, boot_o_2 w.params, o3a w, boot_o_4 w.params, boot_o_5 w.params, boot_o_6 w.params, boot_o_7 w.params, boot_o_8 w.params, boot_o_9 w.params, boot_o_10 w.params, o11, o12, o13, o14, o15, o16, o17, o18, o19, o20, o21, o22, o23]
noncomputable def ns0 : List DictEntry := [⟨h w (S "__module__"), .str (S "__module__") 203, (.str (S "py65.devices.mpu6502") 194)⟩, ⟨h w (S "__qualname__"), .str (S "__qualname__") 205, (.str (S "MPU") 204)⟩, ⟨h w (S "__firstlineno__"), .str (S "__firstlineno__") 207, (.int 5 206)⟩]
noncomputable def bs : Bs := ⟨A109 w, o25, o27, o28, (boot_heap w.params).life⟩
noncomputable def S0 (os : OsState) : SharedT := ⟨btOf 4 (L0 w), 11, (boot_heap w.params).life, Array.mk [], boot_drawn, boot_toks, os⟩
noncomputable def L109 : List Obj := A109 w ++ (nsObj (ns0 w) :: o25 :: plObj [] :: o27 :: o28 :: [])
noncomputable def S109 (os : OsState) : SharedT := ⟨btOf 5 (L109 w), 29, (boot_heap w.params).life, Array.mk [], boot_drawn, 208, os⟩
noncomputable abbrev p109 : Pos := ⟨5, 0, 1029, 786⟩
/-- The way into the class's block, by the library's quick twins. -/
noncomputable def go109 (os : OsState) : Option (SharedT × Thread) := PySem.W.Fast.tw10295753902157049106 PySem.W.Fast.tw14364793385576792824 PP w 11 annV 0 109 (S0 w os) (topStub PP)
noncomputable def stk (os : OsState) : List Frame := match go109 w os with
  | some (_, t) => t.stack
  | none => []
noncomputable def fr1 (os : OsState) : Frame := match stk w os with
  | f :: _ => f
  | [] => topFrame qP
end
theorem go109_is (w : World) (os : OsState) : go109 w os = some (S109 w os, ⟨PySem.W.Fast.tw11892475500146522536 PySem.W.Fast.tw14364793385576792824 (.body cb cenv), .body cb cenv, p109, fr1 w os :: (stk w os).tail⟩) := by kernel_rfl
end
end M6
namespace M6
theorem said_all : PySem.Challenge.rw_me0006_02.wellSaid = true := by
  rw [PySem.W.Fast.te9446332074065402090]
  decide +kernel
end M6
namespace M6
theorem tw_all : PP.tablesWhole = true := by
  unfold Program.tablesWhole TablesWhole.wProgram
  rw [PySem.W.Fast.te6116379765354995101]
  decide +kernel
end M6
namespace VE
/-- Values without references to objects that change. -/
inductive PV where
  | int (i : Int)
  | bool (b : Bool)
  | none
  | any
  | fn (a : Addr)
  | tup (l : List PV)
  | lst (l : List PV)
  | raw (l : List PV)
inductive VV where
  | p (v : PV)
  | ref (k : Nat)
  | meth (f : Addr) (k : Nat)
  | lam (k : Nat)
inductive VO where
  | list (l : List PV)
  | inst (fs : List (Nat × VV))
structure VS where
  loc : List (Nat × VV)
  hp : List VO
noncomputable def getN {α : Type} (n : Nat) : List (Nat × α) → Option α
  | [] => .none
  | (k, v) :: r => match Nat.beq n k with
    | true => some v
    | false => getN n r
noncomputable def putN {α : Type} (n : Nat) (v : α) : List (Nat × α) → List (Nat × α)
  | [] => [(n, v)]
  | (k, u) :: r => match Nat.beq n k with
    | true => (k, v) :: r
    | false => (k, u) :: putN n v r
/-- Values as the heap holds them. -/
inductive PRepL (F : Addr → Obj → Prop) : List PV → List Value → Prop
  | nil : PRepL F [] []
  | int {l vs} (i : Int) (t : Tok) : PRepL F l vs → PRepL F (.int i :: l) (.int i t :: vs)
  | bool {l vs} (b : Bool) : PRepL F l vs → PRepL F (.bool b :: l) (.bool b :: vs)
  | none {l vs} : PRepL F l vs → PRepL F (.none :: l) (.none :: vs)
  | any {l vs} {v : Value} : handedIn v = true → PRepL F l vs → PRepL F (.any :: l) (v :: vs)
  | fn {l vs} (a : Addr) : PRepL F l vs → PRepL F (.fn a :: l) (.ref a :: vs)
  | tup {l vs} {a : Addr} {ws : List Value} {n : Nat} {l' : List PV} : F a { cls := .type "tuple", data := .seq ws.toArray n } → PRepL F l' ws → PRepL F l vs → PRepL F (.tup l' :: l) (.ref a :: vs)
  | lst {l vs} {a : Addr} {ws : List Value} {n : Nat} {l' : List PV} : F a (listOf ws.toArray n) → PRepL F l' ws → PRepL F l vs → PRepL F (.lst l' :: l) (.ref a :: vs)
  | raw {l vs} {a : Addr} {o : Obj} {ws : List Value} {n : Nat} {l' : List PV} : F a o → o.cls = .type "list" → o.data = .seq ws.toArray n → PRepL F l' ws → PRepL F l vs → PRepL F (.raw l' :: l) (.ref a :: vs)
noncomputable abbrev PRep (F : Addr → Obj → Prop) (v : PV) (c : Value) : Prop := PRepL F [v] [c]
structure NOk (N : Nat → Str) : Prop where
  inj : ∀ i j, N i = N j → i = j
  dbg : ∀ n, (N n == ("__debug__" : Str)) = false
  cd : ∀ n, (N n == ("__classdict__" : Str)) = false
/-- What the class's own table says of one name. -/
structure ClsOk (K : Frag) (C : Addr) : Prop where
  get : plainGet K C "" = true
  has : hasDictIn K C = true
  set : findIn K (.ref C) "__setattr__" = some (some (.builtin "object.__setattr__"))
  over : plainOver K C = true
structure FieldOk (K : Frag) (C : Addr) (n : Str) : Prop where
  find : findIn K (.ref C) n = some none
  taker : takerIn K C n = some none
structure ClsInt (K : Frag) (C : Addr) (n : Str) (i : Int) : Prop where
  ex : ∃ t, findIn K (.ref C) n = some (some (.int i t)) ∧ specialIn K (.int i t) "__get__" = some none
  copied : copiedNames.contains n = false
structure ClsRef (K : Frag) (C : Addr) (n : Str) (a : Addr) : Prop where
  find : findIn K (.ref C) n = some (some (.ref a))
  get : specialIn K (.ref a) "__get__" = some none
  copied : copiedNames.contains n = false
structure ClsFn (K : Frag) (C : Addr) (n : Str) (f : Addr) : Prop where
  find : findIn K (.ref C) n = some (some (.ref f))
  fn : isFn K (.ref f) = true
  get : specialIn K (.ref f) "__get__" = some (some (.builtin "function.__get__"))
  takes : takesIn K (.ref f) = some false
  copied : copiedNames.contains n = false
  keep : keepIn K (.ref f) = true
/-- The table P of the places of nested code that the code object c of a function named cn has; the function has a local named mark, its lambda stands at pos. -/
structure TabD where
  P : Addr
  c : Addr
  mark : Nat
  pos : Pos
  cn : Str
noncomputable def TabD.qual (D : TabD) : Str := D.cn ++ ".<locals>." ++ "<lambda>"
/-- The state of such a table. -/
inductive TabI (D : TabD) (fro : List (Addr × Obj)) (ps : Array Value) : Prop
  | no : TriplesOk ps.toList → codeAmong D.pos ps.toList = none → TabI D fro ps
  | yes (c' : Addr) (oc : Obj) (vs : Array Value) (t : Tok) : TriplesOk ps.toList → codeAmong D.pos ps.toList = some (.ref c') → (c', oc) ∈ fro → oc.data = .fields vs → vs[1]? = some (.str D.qual t) → TabI D fro ps
inductive TabsA (fro : List (Addr × Obj)) : List TabD → List (Addr × Obj) → Prop
  | nil : TabsA fro [] []
  | cons {D ps Ds ns} : TabI D fro ps → TabsA fro Ds ns → TabsA fro (D :: Ds) ((D.P, tabObj ps) :: ns)
/-- A lambda with one parameter that a function keeps under a name; it reads one cell. -/
structure LamD where
  tab : TabD
  params : Arguments
  body : Expr
  scope : Scope
  fv : Nat
  arg : Nat
/-- What is known of the class: its fields, numbers, functions, tables. -/
structure Stc where
  topn : Nat
  flds : List Nat
  nums : List (Nat × Int)
  fns : List (Nat × Addr)
  globs : List (Nat × Addr)
  bis : List Nat
  tabs : List (Nat × List PV)
  tds : List TabD
structure TabOk (K : Frag) (C : Addr) (n : Str) (l : List PV) (a : Addr) (o : Obj) (ws : List Value) (k : Nat) : Prop where
  ref : ClsRef K C n a
  at_ : K.lookup a = some o
  cls : o.cls = .type "list"
  data : o.data = .seq ws.toArray k
  rep : PRepL (fun a o => K.lookup a = some o) l ws
structure StcOk (N : Nat → Str) (K : Frag) (C : Addr) (S : Stc) : Prop where
  cls : ClsOk K C
  fld : ∀ n, n ∈ S.flds → FieldOk K C (N n)
  int : ∀ n i, getN n S.nums = some i → ClsInt K C (N n) i
  fn : ∀ n f, (n, f) ∈ S.fns → ClsFn K C (N n) f ∧ fnIn K f = true
  glob : ∀ n f, (n, f) ∈ S.globs → nsIn K mainGlobals (N n) = some (some (.ref f)) ∧ keepIn K (.ref f) = true
  bi : ∀ n, n ∈ S.bis → nsIn K mainGlobals (N n) = some none
  tab : ∀ n l, getN n S.tabs = some l → ∃ a o ws k, TabOk K C (N n) l a o ws k
variable {N : Nat → Str} {Z : Stc}
/-- What no frame changes. -/
structure Gl (N : Nat → Str) (Z : Stc) where
  hN : NOk N
  prog : Program
  w : World
  K : Frag
  p : Program
  loose : List Str
  mean : ExcName → Option Value
  mg : Str → Option Value
  mb : Str → Option Value
  os : OsState
  h : Heap
  C : Addr
  KX : K.In h
  SO : StcOk N K C Z
  lam : LamD
  cds : ∀ D ∈ Z.tds, CodeHd h D.c D.P
/-- Where the walk's objects lie. -/
structure Wd where
  rho : List (Addr × Addr)
  fro : List (Addr × Obj)
noncomputable def FW (G : Gl N Z) (W : Wd) (a : Addr) (o : Obj) : Prop := (a, o) ∈ W.fro ∨ G.h.get? a = some o
/-- The lambda's function object f, with the cell that holds u. -/
inductive LamAt (G : Gl N Z) (W : Wd) (f : Addr) (u : Value) : Prop
  | mk (c c' : Addr) (o oc : Obj) (pm ctv : Value) (vs : Array Value) (t : Tok) : (f, kla_obj "<lambda>" G.lam.tab.qual G.lam.params G.lam.body G.lam.scope [(N G.lam.fv, c)] pm c' ctv) ∈ W.fro → (c, o) ∈ W.fro → o.data = .cell (some u) →
    (c', oc) ∈ W.fro → oc.data = .fields vs → vs[1]? = some (.str G.lam.tab.qual t) → LamAt G W f u
inductive VRep (G : Gl N Z) (W : Wd) : VV → Value → Prop
  | p {v : PV} {c : Value} : PRep (FW G W) v c → VRep G W (.p v) c
  | ref {k : Nat} {a d : Addr} : W.rho[k]? = some (a, d) → VRep G W (.ref k) (.ref a)
  | meth {f q : Addr} {k : Nat} {a d : Addr} : fnIn G.K f = true → W.rho[k]? = some (a, d) → (q, methodObj (.ref f) (.ref a)) ∈ W.fro → VRep G W (.meth f k) (.ref q)
  | lam {f k : Nat} {a d : Addr} : W.rho[k]? = some (a, d) → LamAt G W f (.ref a) → VRep G W (.lam k) (.ref f)
inductive VRepL (G : Gl N Z) (W : Wd) : List VV → List Value → Prop
  | nil : VRepL G W [] []
  | cons {v c l vs} : VRep G W v c → VRepL G W l vs → VRepL G W (v :: l) (c :: vs)
structure Wd.le (W W' : Wd) : Prop where
  rho : W.rho <+: W'.rho
  fro : W.fro ⊆ W'.fro
noncomputable def FRep (G : Gl N Z) (W : Wd) (fs : List (Nat × VV)) (es : List DictEntry) : Prop :=
  es.length = fs.length ∧ (es.any (·.refKey)) = false ∧
  ∀ k, match getN k fs with
    | some v => ∃ c, getL (N k) es = some (some c) ∧ VRep G W v c
    | none => getL (N k) es = some none
/-- The walk's objects and what the heap holds for them. -/
inductive HR (G : Gl N Z) (W : Wd) : List VO → List (Addr × Addr) → List (Addr × Obj) → Prop
  | nil {ns} : TabsA W.fro Z.tds ns → HR G W [] [] ns
  | list {os ρ ns a d l vs n} : PRepL (FW G W) l vs → HR G W os ρ ns → HR G W (.list l :: os) ((a, d) :: ρ) ((a, listOf vs.toArray n) :: ns)
  | inst {os ρ ns a d fs es n} : FRep G W fs es → HR G W os ρ ns → HR G W (.inst fs :: os) ((a, d) :: ρ) ((a, instObj G.C d) :: (d, dictOf es n) :: ns)
/-- The frame's cells. -/
inductive CR (G : Gl N Z) (W : Wd) (loc : List (Nat × VV)) : List (Nat × Addr) → List (Addr × Obj) → Prop
  | nil : CR G W loc [] []
  | cons {k c o x cs ns} : o.data = .cell x → (∀ v, getN k loc = some v → ∃ u, x = some u ∧ VRep G W v u) → CR G W loc cs ns → CR G W loc ((k, c) :: cs) ((c, o) :: ns)
/-- The frame that the walk stands in. -/
structure Cx (G : Gl N Z) (cs : Scope) where
  A : Around
  h₀ : Heap
  L : Addr
  cells : List (Str × Addr)
  qual : Str
  func : Option Addr
  code : Value
  frame : Option Addr
  cv : List (Nat × Addr)
  X : ∀ a o, G.h.get? a = some o → h₀.get? a = some o
  T : Top G.p G.loose G.mean G.mg G.mb h₀
  kind : cs.kind = .function
  hh : A.handled = none
  un : A.units ≤ 3 * A.depth + 4
  dp : A.depth ≤ 1000
  cvnd : (cv.map (·.1)).Nodup
  lowd : cs.names.lookup (N Z.topn) = some .local → A.depth ≤ 400 ∧ A.units ≤ 3 * A.depth
  cvin : cs.names.lookup (N Z.topn) = some .local → ∀ n, cs.names.lookup (N n) = some .cell → n ∈ cv.map (·.1)
  tb : ∀ D ∈ Z.tds, cs.names.lookup (N D.mark) = some .local → ∃ a, func = some a ∧ code = .ref D.c ∧ frame = some L ∧ qual = D.cn ++ ".<locals>."
  tbc : ∀ D ∈ Z.tds, cs.names.lookup (N D.mark) = some .local → cs.names.lookup (N Z.topn) ≠ some .local → cv = [] ∧ ∀ n c, cells.lookup n = some c → h₀.get? c = none
  tbd : ∀ D ∈ Z.tds, cs.names.lookup (N D.mark) = some .local → A.depth ≤ 997
variable {G : Gl N Z} {cs : Scope}
noncomputable def Cx.env (Φ : Cx G cs) : Env := { scope := cs, locals := Φ.L, globals := mainGlobals, cells := Φ.cells, qual := Φ.qual, func := Φ.func, code := Φ.code, frame := Φ.frame, builtins := builtinsNs }
noncomputable abbrev Cx.M (_ : Cx G cs) : Model := model G.prog G.w
theorem Cx.K (Φ : Cx G cs) : G.K.In Φ.h₀ := fun a o e => Φ.X a o (G.KX a o e)
/-- What a name of the state stands for in the frame. -/
inductive LR (Φ : Cx G cs) (W : Wd) (m : Str → Option Value) (k : Nat) (v : VV) : Prop where
  | loc (c : Value) : cs.names.lookup (N k) = some .local → m (N k) = some c → VRep G W v c → LR Φ W m k v
  | cell : k ∈ Φ.cv.map (·.1) → LR Φ W m k v
  | fix (c : Addr) (u : Value) : (cs.names.lookup (N k) = some .cell ∨ cs.names.lookup (N k) = some .free) → Φ.cells.lookup (N k) = some c → Φ.h₀.IsCell c (some u) → VRep G W v u → LR Φ W m k v
  | froz (c : Addr) (o : Obj) (u : Value) : (cs.names.lookup (N k) = some .cell ∨ cs.names.lookup (N k) = some .free) → Φ.cells.lookup (N k) = some c → (c, o) ∈ W.fro → o.data = .cell (some u) → VRep G W v u → LR Φ W m k v
structure SimS (Φ : Cx G cs) (W : Wd) (τ : VS) (x : List (Addr × Obj)) (s : Shared) (m : Str → Option Value) (n1 n2 : List (Addr × Obj)) : Prop where
  F : Fr Φ.h₀ Φ.L s.heap m
  Nw : News Φ.h₀ Φ.L s.heap (x ++ (n1 ++ (n2 ++ W.fro)))
  nd : ((x ++ (n1 ++ (n2 ++ W.fro))).map (·.1)).Nodup
  H : HR G W τ.hp W.rho n1
  C : CR G W τ.loc Φ.cv n2
  L : ∀ k v, getN k τ.loc = some v → LR Φ W m k v
  cv : ∀ k c, (k, c) ∈ Φ.cv → (cs.names.lookup (N k) = some .cell ∨ cs.names.lookup (N k) = some .free) ∧ Φ.cells.lookup (N k) = some c
  o : s.os = G.os
  g : s.gens = #[]
inductive SimX (Φ : Cx G cs) (W : Wd) (τ : VS) (x : List (Addr × Obj)) (s : Shared) : Prop
  | mk (m : Str → Option Value) (n1 n2 : List (Addr × Obj)) (F : Fr Φ.h₀ Φ.L s.heap m) (Nw : News Φ.h₀ Φ.L s.heap (x ++ (n1 ++ (n2 ++ W.fro)))) (nd : ((x ++ (n1 ++ (n2 ++ W.fro))).map (·.1)).Nodup) (H : HR G W τ.hp W.rho n1) (C : CR G W τ.loc Φ.cv n2) (L : ∀ k v, getN k τ.loc = some v → LR Φ W m k v) (cv : ∀ k c, (k, c) ∈ Φ.cv → (cs.names.lookup (N k) = some .cell ∨ cs.names.lookup (N k) = some .free) ∧ Φ.cells.lookup (N k) = some c) (o : s.os = G.os) (g : s.gens = #[]) : SimX Φ W τ x s
theorem nbeq {a b : Nat} : Nat.beq a b = false ↔ a ≠ b := by
  cases h : Nat.beq a b with
  | true => simp [Nat.eq_of_beq_eq_true h]
  | false => simp [Nat.ne_of_beq_eq_false h]
theorem getN_putN {α : Type} (n : Nat) (v : α) : ∀ (fs : List (Nat × α)) (j : Nat), getN j (putN n v fs) = if j = n then some v else getN j fs
  | [], j => by
    simp only [putN, getN]
    by_cases h : j = n
    · subst h; simp
    · have : Nat.beq j n = false := nbeq.mpr h
      simp [h, this]
  | (k, u) :: r, j => by
    have ih := getN_putN n v r j
    simp only [putN]
    cases hk : Nat.beq n k with
    | true =>
      have hk := Nat.eq_of_beq_eq_true hk
      subst hk
      simp only [getN]
      by_cases h : j = n
      · subst h; simp
      · have : Nat.beq j n = false := nbeq.mpr h
        simp [h, this]
    | false =>
      have hk : n ≠ k := nbeq.mp hk
      simp only [getN]
      cases hj : Nat.beq j k with
      | true =>
        have hj := Nat.eq_of_beq_eq_true hj
        subst hj
        simp [Ne.symm hk]
      | false => exact ih
theorem getN_mem {α : Type} {n : Nat} {v : α} : ∀ {l : List (Nat × α)}, getN n l = some v → (n, v) ∈ l := by
  intro l
  induction l with
  | nil => intro h; cases h
  | cons p r ih =>
    obtain ⟨k, u⟩ := p
    intro h
    simp only [getN] at h
    cases e : Nat.beq n k with
    | true => rw [e] at h; cases h; rw [Nat.eq_of_beq_eq_true e]; exact .head _
    | false => rw [e] at h; exact .tail _ (ih h)
theorem putN_length {α : Type} (n : Nat) (v : α) : ∀ fs : List (Nat × α), (putN n v fs).length = if (getN n fs).isSome then fs.length else fs.length + 1
  | [] => rfl
  | (k, u) :: r => by
    have ih := putN_length n v r
    cases hk : Nat.beq n k with
    | true => simp [putN, getN, hk]
    | false =>
      simp only [putN, getN, hk, List.length_cons, ih]
      split <;> rfl
section
variable {F F' : Addr → Obj → Prop}
theorem PRepL.mono (k : ∀ a o, F a o → F' a o) {l : List PV} {vs : List Value} (h : PRepL F l vs) : PRepL F' l vs := by
  induction h with
  | nil => exact .nil
  | int i t _ ih => exact .int i t ih
  | bool b _ ih => exact .bool b ih
  | none _ ih => exact .none ih
  | any e _ ih => exact .any e ih
  | fn a _ ih => exact .fn a ih
  | tup e _ _ i1 i2 => exact .tup (k _ _ e) i1 i2
  | lst e _ _ i1 i2 => exact .lst (k _ _ e) i1 i2
  | raw e c d _ _ i1 i2 => exact .raw (k _ _ e) c d i1 i2
theorem PRepL.length {l : List PV} {vs : List Value} (h : PRepL F l vs) : vs.length = l.length := by
  induction h with
  | nil => rfl
  | int i t _ ih => simp [ih]
  | bool b _ ih => simp [ih]
  | none _ ih => simp [ih]
  | any e _ ih => simp [ih]
  | fn a _ ih => simp [ih]
  | tup e _ _ i1 i2 => simp [i2]
  | lst e _ _ i1 i2 => simp [i2]
  | raw e c d _ _ i1 i2 => simp [i2]
theorem PRepL.cons {v : PV} {c : Value} {l : List PV} {vs : List Value} (h : PRep F v c) (r : PRepL F l vs) : PRepL F (v :: l) (c :: vs) := by
  cases h with
  | int i t _ => exact .int i t r
  | bool b _ => exact .bool b r
  | none _ => exact .none r
  | any e _ => exact .any e r
  | fn a _ => exact .fn a r
  | tup e f _ => exact .tup e f r
  | lst e f _ => exact .lst e f r
  | raw e c d f _ => exact .raw e c d f r
theorem PRepL.uncons {v : PV} {c : Value} {l : List PV} {vs : List Value} (h : PRepL F (v :: l) (c :: vs)) : PRep F v c ∧ PRepL F l vs := by
  cases h with
  | int i t r => exact ⟨.int i t .nil, r⟩
  | bool b r => exact ⟨.bool b .nil, r⟩
  | none r => exact ⟨.none .nil, r⟩
  | any e r => exact ⟨.any e .nil, r⟩
  | fn a r => exact ⟨.fn a .nil, r⟩
  | tup e f r => exact ⟨.tup e f .nil, r⟩
  | lst e f r => exact ⟨.lst e f .nil, r⟩
  | raw e c d f r => exact ⟨.raw e c d f .nil, r⟩
theorem PRepL.app {l : List PV} {vs : List Value} {r : List PV} {ws : List Value} (h : PRepL F l vs) (k : PRepL F r ws) : PRepL F (l ++ r) (vs ++ ws) := by
  induction h with
  | nil => exact k
  | int i t _ ih => exact .int i t ih
  | bool b _ ih => exact .bool b ih
  | none _ ih => exact .none ih
  | any e _ ih => exact .any e ih
  | fn a _ ih => exact .fn a ih
  | tup e f _ i1 i2 => exact .tup e f i2
  | lst e f _ i1 i2 => exact .lst e f i2
  | raw e c d f _ i1 i2 => exact .raw e c d f i2
theorem PRepL.get : ∀ {l : List PV} {vs : List Value} {k : Nat} {v : PV}, PRepL F l vs → l[k]? = some v → ∃ c, vs[k]? = some c ∧ PRep F v c
  | [], _, k, v, _, e => by simp at e
  | a :: l, [], k, v, h, _ => by have := h.length; simp at this
  | a :: l, c :: vs, 0, v, h, e => by
    simp only [List.getElem?_cons_zero, Option.some.injEq] at e
    subst e
    exact ⟨c, rfl, h.uncons.1⟩
  | a :: l, c :: vs, k + 1, v, h, e => by
    simp only [List.getElem?_cons_succ] at e ⊢
    exact h.uncons.2.get e
theorem PRepL.take : ∀ (n : Nat) {l : List PV} {vs : List Value}, PRepL F l vs → PRepL F (l.take n) (vs.take n)
  | 0, _, _, _ => by simpa using .nil
  | n + 1, [], [], _ => by simpa using .nil
  | n + 1, [], _ :: _, h => by have := h.length; simp at this
  | n + 1, _ :: _, [], h => by have := h.length; simp at this
  | n + 1, a :: l, c :: vs, h => by simpa using PRepL.cons h.uncons.1 (h.uncons.2.take n)
theorem PRepL.drop : ∀ (n : Nat) {l : List PV} {vs : List Value}, PRepL F l vs → PRepL F (l.drop n) (vs.drop n)
  | 0, _, _, h => by simpa using h
  | n + 1, [], [], _ => by simpa using .nil
  | n + 1, [], _ :: _, h => by have := h.length; simp at this
  | n + 1, _ :: _, [], h => by have := h.length; simp at this
  | n + 1, a :: l, c :: vs, h => by simpa using h.uncons.2.drop n
theorem PRepL.set : ∀ (k : Nat) {l : List PV} {vs : List Value} {v : PV} {c : Value}, PRep F v c → PRepL F l vs → PRepL F (l.set k v) (vs.set k c)
  | _, [], [], _, _, _, _ => .nil
  | _, [], _ :: _, _, _, _, h => by have := h.length; simp at this
  | _, _ :: _, [], _, _, _, h => by have := h.length; simp at this
  | 0, a :: l, d :: vs, v, c, r, h => PRepL.cons r h.uncons.2
  | k + 1, a :: l, d :: vs, v, c, r, h => PRepL.cons h.uncons.1 (PRepL.set k r h.uncons.2)
theorem PRepL.ints : ∀ {l : List Int} {vs : List Value}, PRepL F (l.map .int) vs → IntsAre vs l
  | [], vs, h => by cases h; exact .nil
  | i :: l, vs, h => by
    cases h with
    | int _ t r => exact .cons i t r.ints
theorem PRepL.of_ints {l : List Int} {vs : List Value} (h : IntsAre vs l) : PRepL F (l.map .int) vs := by
  induction h with
  | nil => exact .nil
  | cons k t _ ih => exact .int k t ih
theorem PRep.handed {v : PV} {c : Value} (h : PRep F v c) : handedIn c = true := by
  cases h <;> first | rfl | assumption
end
theorem Wd.le.refl (W : Wd) : W.le W := ⟨List.prefix_refl _, fun _ h => h⟩
theorem Wd.le.trans {W W' W'' : Wd} (h : W.le W') (k : W'.le W'') : W.le W'' := ⟨h.rho.trans k.rho, fun _ x => k.fro (h.fro x)⟩
theorem Wd.le.FW {W W' : Wd} (h : W.le W') (a : Addr) (o : Obj) (f : FW G W a o) : FW G W' a o := f.elim (fun x => .inl (h.fro x)) .inr
theorem Wd.le.at {W W' : Wd} (h : W.le W') {k : Nat} {p : Addr × Addr} (e : W.rho[k]? = some p) : W'.rho[k]? = some p := by
  obtain ⟨t, ht⟩ := h.rho
  rw [← ht]
  rw [List.getElem?_append_left (List.getElem?_eq_some_iff.mp e).1]
  exact e
theorem LamAt.mono {W W' : Wd} (h : W.le W') {f : Addr} {u : Value} (r : LamAt G W f u) : LamAt G W' f u := by
  obtain ⟨c, c', o, oc, pm, ctv, vs, t, h1, h2, h3, h4, h5, h6⟩ := r
  exact ⟨c, c', o, oc, pm, ctv, vs, t, h.fro h1, h.fro h2, h3, h.fro h4, h5, h6⟩
theorem TabI.mono {D : TabD} {fro fro' : List (Addr × Obj)} (h : fro ⊆ fro') {ps : Array Value} (r : TabI D fro ps) : TabI D fro' ps := by
  cases r with
  | no a b => exact .no a b
  | yes c' oc vs t a b c d e => exact .yes c' oc vs t a b (h c) d e
theorem TabsA.mono {fro fro' : List (Addr × Obj)} (h : fro ⊆ fro') {Ds ns} (r : TabsA fro Ds ns) : TabsA fro' Ds ns := by
  induction r with
  | nil => exact .nil
  | cons a _ ih => exact .cons (a.mono h) ih
theorem VRep.mono {W W' : Wd} (h : W.le W') {v : VV} {c : Value} (r : VRep G W v c) : VRep G W' v c := by
  cases r with
  | p r => exact .p (r.mono h.FW)
  | ref e => exact .ref (h.at e)
  | meth g e f => exact .meth g (h.at e) (h.fro f)
  | lam e f => exact .lam (h.at e) (f.mono h)
theorem VRepL.mono {W W' : Wd} (h : W.le W') {v : List VV} {c : List Value} (r : VRepL G W v c) : VRepL G W' v c := by
  induction r with
  | nil => exact .nil
  | cons a _ ih => exact .cons (a.mono h) ih
theorem VRep.handed {W : Wd} {v : VV} {c : Value} (r : VRep G W v c) : handedIn c = true := by
  cases r with
  | p r => exact r.handed
  | ref e => rfl
  | meth _ _ _ => rfl
  | lam _ _ => rfl
theorem FRep.mono {W W' : Wd} (h : W.le W') {fs : List (Nat × VV)} {es : List DictEntry} (r : FRep G W fs es) : FRep G W' fs es := by
  refine ⟨r.1, r.2.1, fun k => ?_⟩
  have := r.2.2 k
  cases hk : getN k fs with
  | none => rw [hk] at this; exact this
  | some v => rw [hk] at this; obtain ⟨c, e, q⟩ := this; exact ⟨c, e, q.mono h⟩
theorem HR.mono {W W' : Wd} (h : W.le W') {os ρ ns} (r : HR G W os ρ ns) : HR G W' os ρ ns := by
  induction r with
  | nil t => exact .nil (t.mono h.fro)
  | list a _ ih => exact .list (a.mono h.FW) ih
  | inst a _ ih => exact .inst (a.mono h) ih
theorem LR.mono {Φ : Cx G cs} {W W' : Wd} (h : W.le W') {m k v} (r : LR Φ W m k v) : LR Φ W' m k v := by
  cases r with
  | loc c a b r => exact .loc c a b (r.mono h)
  | cell a => exact .cell a
  | fix c u a b d r => exact .fix c u a b d (r.mono h)
  | froz c o u a b d e r => exact .froz c o u a b (h.fro d) e (r.mono h)
theorem CR.mono {W W' : Wd} (h : W.le W') {loc cs ns} (r : CR G W loc cs ns) : CR G W' loc cs ns := by
  induction r with
  | nil => exact .nil
  | cons e f _ ih => exact .cons e (fun v hv => let ⟨u, e, q⟩ := f v hv; ⟨u, e, q.mono h⟩) ih
end VE
namespace VE
variable {N : Nat → Str} {Z : Stc} {G : Gl N Z} {cs : Scope} {Φ : Cx G cs} {W : Wd} {τ : VS} {s : Shared} {x : List (Addr × Obj)}
theorem SimX.toks (h : SimX Φ W τ x s) (t : Nat) : SimX Φ W τ x { s with toks := t } :=
  let ⟨m, n1, n2, F, Nw, nd, H, C, L, cv, o, g⟩ := h
  ⟨m, n1, n2, F, Nw, nd, H, C, L, cv, o, g⟩
theorem SimX.keep {h' : Heap} (h : SimX Φ W τ x s) (k : ∀ b o, s.heap.get? b = some o → h'.get? b = some o) (t : Nat) : SimX Φ W τ x { s with heap := h', toks := t } :=
  let ⟨m, n1, n2, F, Nw, nd, H, C, L, cv, o, g⟩ := h
  ⟨m, n1, n2, F.keeps k, Nw.grown k, nd, H, C, L, cv, o, g⟩
theorem SimX.base (h : SimX Φ W τ x s) : ∀ b o, Φ.h₀.get? b = some o → s.heap.get? b = some o :=
  let ⟨m, n1, n2, F, Nw, nd, H, C, L, cv, o, g⟩ := h
  F.keep
theorem SimX.K (h : SimX Φ W τ x s) : G.K.In s.heap := Φ.K.keeps h.base
theorem SimX.FW (h : SimX Φ W τ x s) {a : Addr} {o : Obj} (f : FW G W a o) : s.heap.get? a = some o := by
  rcases f with f | f
  · obtain ⟨m, n1, n2, F, Nw, _⟩ := h
    exact (Nw (a, o) (by simp [f])).1
  · exact h.base _ _ (Φ.X _ _ f)
/-- New objects of which nothing is told as yet. -/
theorem SimX.new {h' : Heap} {q : Addr} {co : Obj} {t : Nat} (h : SimX Φ W τ x s) (k : ∀ b o, s.heap.get? b = some o → h'.get? b = some o) (e : s.heap.get? q = none) (e' : h'.get? q = some co) :
    SimX Φ W τ ((q, co) :: x) { s with heap := h', toks := t } := by
  obtain ⟨m, n1, n2, F, Nw, nd, H, C, L, cv, o, g⟩ := h
  refine ⟨m, n1, n2, F.keeps k, fun p hp => ?_, ?_, H, C, L, cv, o, g⟩
  · rcases List.mem_cons.mp hp with rfl | hp
    · refine ⟨e', fun z => ?_, ?_⟩
      · obtain ⟨oL, es, ep, hL, _⟩ := F.ns
        have z : q = Φ.L := z
        rw [z, hL] at e; cases e
      · cases hq : Φ.h₀.get? q with
        | none => rfl
        | some o' => rw [F.keep _ _ hq] at e; cases e
    · exact Nw.grown k p hp
  · show (((q, co) :: (x ++ _)).map (·.1)).Nodup
    rw [List.map_cons, List.nodup_cons]
    refine ⟨fun hm => ?_, nd⟩
    obtain ⟨p, hp, e2⟩ := List.mem_map.mp hm
    rw [← show p.1 = q from e2, (Nw p hp).1] at e
    cases e
theorem SimX.newN {h' : Heap} {q : Addr} {co : Obj} {t : Nat} {m : Str → Option Value} {n1 n2 : List (Addr × Obj)} (S : SimS Φ W τ x s m n1 n2) (F' : Fr Φ.h₀ Φ.L h' m) (N' : News Φ.h₀ Φ.L h' ((q, co) :: (x ++ (n1 ++ (n2 ++ W.fro))))) (lt : ∀ p ∈ x ++ (n1 ++ (n2 ++ W.fro)), p.1 < q) :
    SimX Φ W τ ((q, co) :: x) { s with heap := h', toks := t } := by
  obtain ⟨F, Nw, nd, H, C, L, cv, o, g⟩ := S
  refine ⟨m, n1, n2, F', N', ?_, H, C, L, cv, o, g⟩
  show (((q, co) :: (x ++ _)).map (·.1)).Nodup
  rw [List.map_cons, List.nodup_cons]
  refine ⟨fun hm => ?_, nd⟩
  obtain ⟨p, hp, e2⟩ := List.mem_map.mp hm
  have := lt p hp
  rw [show p.1 = q from e2] at this
  exact Nat.lt_irrefl _ this
/-- A new object that will not change. -/
theorem SimX.freeze {q : Addr} {co : Obj} (h : SimX Φ W τ ((q, co) :: x) s) : ∃ W', W.le W' ∧ (q, co) ∈ W'.fro ∧ W'.rho = W.rho ∧ SimX Φ W' τ x s := by
  obtain ⟨m, n1, n2, F, Nw, nd, H, C, L, cv, o, g⟩ := h
  have le : W.le ⟨W.rho, (q, co) :: W.fro⟩ := ⟨List.prefix_refl _, fun _ h => .tail _ h⟩
  have pm : (((q, co) :: x) ++ (n1 ++ (n2 ++ W.fro))).Perm (x ++ (n1 ++ (n2 ++ ((q, co) :: W.fro)))) := by
    have e : x ++ (n1 ++ (n2 ++ ((q, co) :: W.fro))) = (x ++ (n1 ++ n2)) ++ (q, co) :: W.fro := by simp
    rw [e]
    refine List.Perm.trans ?_ List.perm_middle.symm
    simp
  exact ⟨_, le, .head _, rfl, m, n1, n2, F, fun p hp => Nw p (pm.symm.subset hp), ((pm.map _).nodup_iff).mp nd, H.mono le, C.mono le, fun k v e => (L k v e).mono le, cv, o, g⟩
theorem SimX.perm {x' : List (Addr × Obj)} (p : x.Perm x') (h : SimX Φ W τ x s) : SimX Φ W τ x' s := by
  obtain ⟨m, n1, n2, F, Nw, nd, H, C, L, cv, o, g⟩ := h
  have pm := List.Perm.append_right (n1 ++ (n2 ++ W.fro)) p
  exact ⟨m, n1, n2, F, fun p hp => Nw p (pm.symm.subset hp), ((pm.map _).nodup_iff).mp nd, H, C, L, cv, o, g⟩
theorem SimX.forget {q : Addr} {co : Obj} (h : SimX Φ W τ ((q, co) :: x) s) : SimX Φ W τ x s := by
  obtain ⟨m, n1, n2, F, Nw, nd, H, C, L, cv, o, g⟩ := h
  have nd : (((q, co) :: (x ++ (n1 ++ (n2 ++ W.fro)))).map (·.1)).Nodup := nd
  rw [List.map_cons, List.nodup_cons] at nd
  exact ⟨m, n1, n2, F, fun p hp => Nw p (.tail _ hp), nd.2, H, C, L, cv, o, g⟩
theorem HR.snoc_list {os ρ ns} (r : HR G W os ρ ns) {a d : Addr} {l : List PV} {vs : List Value} {n : Nat} (h : PRepL (FW G W) l vs) : ∃ ns', ((a, listOf vs.toArray n) :: ns).Perm ns' ∧ HR G W (os ++ [.list l]) (ρ ++ [(a, d)]) ns' := by
  induction r with
  | nil t => exact ⟨_, List.Perm.refl _, .list h (.nil t)⟩
  | list a _ ih => obtain ⟨ns', p, q⟩ := ih; exact ⟨_, (List.Perm.swap _ _ _).trans (p.cons _), .list a q⟩
  | inst a _ ih => obtain ⟨ns', p, q⟩ := ih; exact ⟨_, ((List.Perm.swap _ _ _).trans ((List.Perm.swap _ _ _).cons _)).trans ((p.cons _).cons _), .inst a q⟩
theorem HR.snoc_inst {os ρ ns} (r : HR G W os ρ ns) {a d : Addr} {fs : List (Nat × VV)} {es : List DictEntry} {n : Nat} (h : FRep G W fs es) : ∃ ns', ([(a, instObj G.C d), (d, dictOf es n)] ++ ns).Perm ns' ∧ HR G W (os ++ [.inst fs]) (ρ ++ [(a, d)]) ns' := by
  induction r with
  | nil t => exact ⟨_, List.Perm.refl _, .inst h (.nil t)⟩
  | list a _ ih => obtain ⟨ns', p, q⟩ := ih; exact ⟨_, List.perm_middle.trans (p.cons _), .list a q⟩
  | inst a _ ih => obtain ⟨ns', p, q⟩ := ih; exact ⟨_, List.perm_middle.trans ((List.perm_middle.trans (p.cons _)).cons _), .inst a q⟩
theorem HR.len {os ρ ns} (r : HR G W os ρ ns) : ρ.length = os.length := by
  induction r with
  | nil _ => rfl
  | list a _ ih => simp [ih]
  | inst a _ ih => simp [ih]
theorem HR.at_list {l : List PV} : ∀ {os ρ ns} {k : Nat}, HR G W os ρ ns → os[k]? = some (.list l) → ∃ a d vs n pre post, ρ[k]? = some (a, d) ∧ ns = pre ++ (a, listOf vs.toArray n) :: post ∧ PRepL (FW G W) l vs ∧
    ∀ l' vs' n', PRepL (FW G W) l' vs' → HR G W (os.set k (.list l')) ρ (pre ++ (a, listOf vs'.toArray n') :: post) := by
  intro os ρ ns k r
  induction r generalizing k with
  | nil _ => intro e; simp at e
  | list a r ih =>
    intro e
    cases k with
    | zero =>
      simp only [List.getElem?_cons_zero, Option.some.injEq, VO.list.injEq] at e
      subst e
      exact ⟨_, _, _, _, [], _, rfl, rfl, a, fun l' vs' n' h => .list h r⟩
    | succ k =>
      obtain ⟨a', d, vs, n, pre, post, e1, e2, h, c⟩ := ih (k := k) (by simpa using e)
      subst e2
      exact ⟨a', d, vs, n, _ :: pre, post, by simpa using e1, rfl, h, fun l' vs' n' h' => .list a (c l' vs' n' h')⟩
  | inst a r ih =>
    intro e
    cases k with
    | zero => simp at e
    | succ k =>
      obtain ⟨a', d, vs, n, pre, post, e1, e2, h, c⟩ := ih (k := k) (by simpa using e)
      subst e2
      exact ⟨a', d, vs, n, _ :: _ :: pre, post, by simpa using e1, rfl, h, fun l' vs' n' h' => .inst a (c l' vs' n' h')⟩
theorem HR.at_inst {fs : List (Nat × VV)} : ∀ {os ρ ns} {k : Nat}, HR G W os ρ ns → os[k]? = some (.inst fs) → ∃ a d es n pre post, ρ[k]? = some (a, d) ∧ ns = pre ++ (a, instObj G.C d) :: (d, dictOf es n) :: post ∧ FRep G W fs es ∧
    ∀ fs' es' n', FRep G W fs' es' → HR G W (os.set k (.inst fs')) ρ (pre ++ (a, instObj G.C d) :: (d, dictOf es' n') :: post) := by
  intro os ρ ns k r
  induction r generalizing k with
  | nil _ => intro e; simp at e
  | list a r ih =>
    intro e
    cases k with
    | zero => simp at e
    | succ k =>
      obtain ⟨a', d, vs, n, pre, post, e1, e2, h, c⟩ := ih (k := k) (by simpa using e)
      subst e2
      exact ⟨a', d, vs, n, _ :: pre, post, by simpa using e1, rfl, h, fun l' vs' n' h' => .list a (c l' vs' n' h')⟩
  | inst a r ih =>
    intro e
    cases k with
    | zero =>
      simp only [List.getElem?_cons_zero, Option.some.injEq, VO.inst.injEq] at e
      subst e
      exact ⟨_, _, _, _, [], _, rfl, rfl, a, fun l' vs' n' h => .inst h r⟩
    | succ k =>
      obtain ⟨a', d, vs, n, pre, post, e1, e2, h, c⟩ := ih (k := k) (by simpa using e)
      subst e2
      exact ⟨a', d, vs, n, _ :: _ :: pre, post, by simpa using e1, rfl, h, fun l' vs' n' h' => .inst a (c l' vs' n' h')⟩
/-- A new list becomes one of the walk's objects. -/
theorem SimX.own {q : Addr} {vs : List Value} {n : Nat} {l : List PV} (h : SimX Φ W τ ((q, listOf vs.toArray n) :: x) s) (r : PRepL (VE.FW G W) l vs) :
    ∃ W', W.le W' ∧ W'.rho[τ.hp.length]? = some (q, q) ∧ SimX Φ W' ⟨τ.loc, τ.hp ++ [.list l]⟩ x s := by
  obtain ⟨m, n1, n2, F, Nw, nd, H, C, L, cv, o, g⟩ := h
  have le : W.le ⟨W.rho ++ [(q, q)], W.fro⟩ := ⟨List.prefix_append _ _, fun _ h => h⟩
  obtain ⟨ns', pn, H'⟩ := (H.mono le).snoc_list (a := q) (d := q) (n := n) (r.mono le.FW)
  have pm : (((q, listOf vs.toArray n) :: x) ++ (n1 ++ (n2 ++ W.fro))).Perm (x ++ (ns' ++ (n2 ++ W.fro))) :=
    (List.perm_middle.symm : ((q, listOf vs.toArray n) :: (x ++ (n1 ++ (n2 ++ W.fro)))).Perm (x ++ (q, listOf vs.toArray n) :: (n1 ++ (n2 ++ W.fro)))).trans (List.Perm.append_left x (List.Perm.append_right (n2 ++ W.fro) pn))
  refine ⟨_, le, ?_, m, ns', n2, F, fun p hp => Nw p (pm.symm.subset hp), ((pm.map _).nodup_iff).mp nd, H', C.mono le, fun k v e => (L k v e).mono le, cv, o, g⟩
  show (W.rho ++ [(q, q)])[τ.hp.length]? = some (q, q)
  rw [← H.len]; simp
/-- A new object, and its dict. -/
theorem SimX.ownI {q d : Addr} {es : List DictEntry} {n : Nat} {fs : List (Nat × VV)} (h : SimX Φ W τ ((q, instObj G.C d) :: (d, dictOf es n) :: x) s) (r : FRep G W fs es) :
    ∃ W', W.le W' ∧ W'.rho[τ.hp.length]? = some (q, d) ∧ SimX Φ W' ⟨τ.loc, τ.hp ++ [.inst fs]⟩ x s := by
  obtain ⟨m, n1, n2, F, Nw, nd, H, C, L, cv, o, g⟩ := h
  have le : W.le ⟨W.rho ++ [(q, d)], W.fro⟩ := ⟨List.prefix_append _ _, fun _ h => h⟩
  obtain ⟨ns', pn, H'⟩ := (H.mono le).snoc_inst (a := q) (d := d) (n := n) (r.mono le)
  have pm : (((q, instObj G.C d) :: (d, dictOf es n) :: x) ++ (n1 ++ (n2 ++ W.fro))).Perm (x ++ (ns' ++ (n2 ++ W.fro))) := by
    have e : ([(q, instObj G.C d), (d, dictOf es n)] ++ (x ++ (n1 ++ (n2 ++ W.fro)))).Perm (x ++ ([(q, instObj G.C d), (d, dictOf es n)] ++ (n1 ++ (n2 ++ W.fro)))) := by
      rw [← List.append_assoc, ← List.append_assoc x]
      exact List.Perm.append_right _ List.perm_append_comm
    exact e.trans (List.Perm.append_left x (List.Perm.append_right (n2 ++ W.fro) pn))
  refine ⟨_, le, ?_, m, _, n2, F, fun p hp => Nw p (pm.symm.subset hp), ((pm.map _).nodup_iff).mp nd, H', C.mono le, fun k v e => (L k v e).mono le, cv, o, g⟩
  show (W.rho ++ [(q, d)])[τ.hp.length]? = some (q, d)
  rw [← H.len]; simp
theorem updOf {d : Addr} {o o' : Obj} : ∀ {pre post : List (Addr × Obj)}, ((pre ++ (d, o) :: post).map (·.1)).Nodup → Upd d o o' (pre ++ (d, o) :: post) (pre ++ (d, o') :: post) := by
  intro pre
  induction pre with
  | nil =>
    intro post nd
    rw [List.nil_append, List.map_cons, List.nodup_cons] at nd
    exact .head fun p hp e => nd.1 (List.mem_map.mpr ⟨p, hp, e⟩)
  | cons a pre ih =>
    intro post nd
    rw [List.cons_append, List.map_cons, List.nodup_cons] at nd
    exact .tail (fun e => nd.1 (List.mem_map.mpr ⟨(d, o), by simp, e.symm⟩)) (ih nd.2)
theorem changed {news news' : List (Addr × Obj)} {m : Str → Option Value} {h h' : Heap} {d : Addr} {co co' : Obj} {h₀ : Heap} {L : Addr} (F : Fr h₀ L h m) (Nw : News h₀ L h news)
    (U : Upd d co co' news news') (e : h'.get? d = some co') (sb : Heap.SameBut d h h') : Fr h₀ L h' m ∧ News h₀ L h' news' := by
  obtain ⟨pre, post, rfl, rfl, h1, h2⟩ := U.split
  have D := Nw (d, co) (by simp)
  obtain ⟨oL, es, ep, hL, r⟩ := F.ns
  refine ⟨⟨⟨oL, es, ep, (sb.2 _ (Ne.symm D.2.1)).trans hL, r⟩, fun b x q => (sb.2 b fun z => ?_).trans (F.keep b x q), F.above⟩, fun p hp => ?_⟩
  · have := D.2.2; rw [← z, q] at this; cases this
  · rcases List.mem_append.mp hp with q | q
    · have P := Nw p (List.mem_append_left _ q); exact ⟨(sb.2 _ (h1 p q)).trans P.1, P.2⟩
    · rcases List.mem_cons.mp q with rfl | q
      · exact ⟨e, D.2⟩
      · have P := Nw p (List.mem_append_right _ (.tail _ q)); exact ⟨(sb.2 _ (h2 p q)).trans P.1, P.2⟩
/-- A list of the walk's, as the heap holds it, and what a change of it leaves. -/
structure ListAt (Φ : Cx G cs) (W : Wd) (τ : VS) (x : List (Addr × Obj)) (s : Shared) (k : Nat) (l : List PV) (a : Addr) (vs : List Value) (n : Nat) : Prop where
  get : s.heap.get? a = some (listOf vs.toArray n)
  rep : PRepL (FW G W) l vs
  upd : ∀ l' vs' n' h' t, PRepL (FW G W) l' vs' → Heap.SameBut a s.heap h' → h'.get? a = some (listOf vs'.toArray n') → SimX Φ W ⟨τ.loc, τ.hp.set k (.list l')⟩ x { s with heap := h', toks := t }
  updU : ∀ l' vs' n', PRepL (FW G W) l' vs' → ∃ m news news', Fr Φ.h₀ Φ.L s.heap m ∧ News Φ.h₀ Φ.L s.heap news ∧ Upd a (listOf vs.toArray n) (listOf vs'.toArray n') news news' ∧
    ∀ h' t, Fr Φ.h₀ Φ.L h' m → News Φ.h₀ Φ.L h' news' → SimX Φ W ⟨τ.loc, τ.hp.set k (.list l')⟩ x { s with heap := h', toks := t }
theorem SimX.list (h : SimX Φ W τ x s) {k : Nat} {l : List PV} {a d : Addr} (e : τ.hp[k]? = some (.list l)) (ea : W.rho[k]? = some (a, d)) : ∃ vs n, ListAt Φ W τ x s k l a vs n := by
  obtain ⟨m, n1, n2, F, Nw, nd, H, C, L, cv, o, g⟩ := h
  obtain ⟨a', d', vs, n, pre, post, e1, e2, r, c⟩ := H.at_list e
  rw [ea] at e1
  cases e1
  subst e2
  have key : ∀ l' vs' n', PRepL (VE.FW G W) l' vs' → Upd a (listOf vs.toArray n) (listOf vs'.toArray n') (x ++ (pre ++ (a, listOf vs.toArray n) :: post ++ (n2 ++ W.fro))) (x ++ (pre ++ (a, listOf vs'.toArray n') :: post ++ (n2 ++ W.fro))) := fun l' vs' n' _ => by
    have := updOf (o' := listOf vs'.toArray n') (pre := x ++ pre) (post := post ++ (n2 ++ W.fro)) (d := a) (o := listOf vs.toArray n) (by simpa using nd)
    simpa using this
  have nd' : ∀ (vs' : List Value) n', ((x ++ (pre ++ (a, listOf vs'.toArray n') :: post ++ (n2 ++ W.fro))).map (·.1)).Nodup := fun vs' n' => by simpa using nd
  refine ⟨vs, n, (Nw (a, listOf vs.toArray n) (by simp)).1, r, fun l' vs' n' h' t r' sb e' => ?_, fun l' vs' n' r' => ⟨m, _, _, F, Nw, key l' vs' n' r', fun h' t F' N' => ⟨m, _, n2, F', N', nd' _ _, c l' vs' n' r', C, L, cv, o, g⟩⟩⟩
  obtain ⟨F', N'⟩ := changed F Nw (key l' vs' n' r') e' sb
  exact ⟨m, _, n2, F', N', nd' _ _, c l' vs' n' r', C, L, cv, o, g⟩
/-- An object of the walk's. -/
structure InstV (Φ : Cx G cs) (W : Wd) (τ : VS) (x : List (Addr × Obj)) (s : Shared) (k : Nat) (fs : List (Nat × VV)) (a : Addr) (d : Addr) (es : List DictEntry) (n : Nat) : Prop where
  inst : InstAt s.heap a (instObj G.C d) G.C (some (dictOf es n))
  rep : FRep G W fs es
  updU : ∀ fs' es' n', FRep G W fs' es' → ∃ m news news', Fr Φ.h₀ Φ.L s.heap m ∧ News Φ.h₀ Φ.L s.heap news ∧ Upd d (dictOf es n) (dictOf es' n') news news' ∧
    ∀ h' t, Fr Φ.h₀ Φ.L h' m → News Φ.h₀ Φ.L h' news' → SimX Φ W ⟨τ.loc, τ.hp.set k (.inst fs')⟩ x { s with heap := h', toks := t }
theorem SimX.inst (h : SimX Φ W τ x s) {k : Nat} {fs : List (Nat × VV)} {a d : Addr} (e : τ.hp[k]? = some (.inst fs)) (ea : W.rho[k]? = some (a, d)) : ∃ es n, InstV Φ W τ x s k fs a d es n := by
  obtain ⟨m, n1, n2, F, Nw, nd, H, C, L, cv, o, g⟩ := h
  obtain ⟨a', d', es, n, pre, post, e1, e2, r, c⟩ := H.at_inst e
  rw [ea] at e1
  cases e1
  subst e2
  refine ⟨es, n, ?_, r, fun fs' es' n' r' => ⟨m, x ++ (pre ++ (a, instObj G.C d) :: (d, dictOf es n) :: post ++ (n2 ++ W.fro)), x ++ (pre ++ (a, instObj G.C d) :: (d, dictOf es' n') :: post ++ (n2 ++ W.fro)), F, Nw, ?_, fun h' t F' N' => ⟨m, _, n2, F', N', by simpa using nd, c fs' es' n' r', C, L, cv, o, g⟩⟩⟩
  · exact InstAt.of_news (news := x ++ (pre ++ (a, instObj G.C d) :: (d, dictOf es n) :: post ++ (n2 ++ W.fro))) Nw (by simp) (by simp)
  · have := updOf (o' := dictOf es' n') (pre := x ++ (pre ++ [(a, instObj G.C d)])) (post := post ++ (n2 ++ W.fro)) (d := d) (o := dictOf es n) (by simpa using nd)
    simpa using this
end VE
namespace VE
variable {N : Nat → Str} {Z : Stc} {G : Gl N Z} {cs : Scope} {Φ : Cx G cs} {W : Wd} {τ : VS} {s : Shared} {x : List (Addr × Obj)}
/-- What an expression gives: a value, or a list just made. -/
inductive Rs where
  | val (v : VV)
  | new (l : List PV)
noncomputable def Rs.frz : Rs → VV
  | .val v => v
  | .new l => .p (.lst l)
/-- A check that computes. -/
noncomputable abbrev gd (b : Bool) (P : Prop) : Prop := match b with
  | true => P
  | false => False
theorem gd_ex {b : Bool} {P : Prop} (h : gd b P) : b = true ∧ P := by
  cases b with
  | true => exact ⟨rfl, h⟩
  | false => exact h.elim
noncomputable abbrev Calls := Addr → List VV → List VO → (Rs → List VO → Prop) → Prop
noncomputable abbrev WE := Calls → VS → (VV → VS → Prop) → Prop
noncomputable abbrev W0 := Calls → VS → (Rs → VS → Prop) → Prop
noncomputable abbrev WT := Calls → VS → (Bool → VS → Prop) → Prop
noncomputable abbrev WA := Calls → VS → (List VV → VS → Prop) → Prop
inductive RV (Φ : Cx G cs) (W : Wd) (x : List (Addr × Obj)) (Q : VV → VS → Prop) (v : Value) (s : Shared) : Prop where
  | mk (W' : Wd) (a : VV) (τ : VS) (le : W.le W') (r : VRep G W' a v) (S : SimX Φ W' τ x s) (q : Q a τ)
inductive R0 (Φ : Cx G cs) (W : Wd) (x : List (Addr × Obj)) (Q : Rs → VS → Prop) : Value → Shared → Prop where
  | val {v : Value} {s : Shared} (W' : Wd) (a : VV) (τ : VS) (le : W.le W') (r : VRep G W' a v) (S : SimX Φ W' τ x s) (q : Q (.val a) τ) : R0 Φ W x Q v s
  | new {s : Shared} (W' : Wd) (l : List PV) (τ : VS) (q : Addr) (vs : List Value) (n : Nat) (le : W.le W') (r : PRepL (FW G W') l vs) (S : SimX Φ W' τ ((q, listOf vs.toArray n) :: x) s) (h : Q (.new l) τ) : R0 Φ W x Q (.ref q) s
inductive RT (Φ : Cx G cs) (W : Wd) (x : List (Addr × Obj)) (Q : VS → Prop) (s : Shared) : Prop where
  | mk (W' : Wd) (τ : VS) (le : W.le W') (S : SimX Φ W' τ x s) (q : Q τ)
inductive RA (Φ : Cx G cs) (W : Wd) (x : List (Addr × Obj)) (Q : List VV → VS → Prop) (v : List Value) (s : Shared) : Prop where
  | mk (W' : Wd) (a : List VV) (τ : VS) (le : W.le W') (r : VRepL G W' a v) (S : SimX Φ W' τ x s) (q : Q a τ)
theorem RV.up {W' : Wd} {Q : VV → VS → Prop} {v : Value} {s : Shared} (le : W.le W') (h : RV Φ W' x Q v s) : RV Φ W x Q v s := by cases h with | mk W1 a τ l r S q => exact ⟨W1, a, τ, le.trans l, r, S, q⟩
theorem R0.up {W' : Wd} {Q : Rs → VS → Prop} {v : Value} {s : Shared} (le : W.le W') (h : R0 Φ W' x Q v s) : R0 Φ W x Q v s := by
  cases h with
  | val W1 a τ l r S q => exact .val W1 a τ (le.trans l) r S q
  | new W1 l τ q vs n l' r S h => exact .new W1 l τ q vs n (le.trans l') r S h
theorem RT.up {W' : Wd} {Q : VS → Prop} {s : Shared} (le : W.le W') (h : RT Φ W' x Q s) : RT Φ W x Q s := by cases h with | mk W1 τ l S q => exact ⟨W1, τ, le.trans l, S, q⟩
theorem RA.up {W' : Wd} {Q : List VV → VS → Prop} {v : List Value} {s : Shared} (le : W.le W') (h : RA Φ W' x Q v s) : RA Φ W x Q v s := by cases h with | mk W1 a τ l r S q => exact ⟨W1, a, τ, le.trans l, r, S, q⟩
theorem R0.toV {Q : VV → VS → Prop} {v : Value} {s : Shared} (h : R0 Φ W x (fun r τ => Q r.frz τ) v s) : RV Φ W x Q v s := by
  cases h with
  | val W1 a τ l r S q => exact ⟨W1, a, τ, l, r, S, q⟩
  | new W1 l τ q vs n l' r S h =>
    obtain ⟨W2, le, hm, e, S2⟩ := S.freeze
    exact ⟨W2, .p (.lst l), τ, l'.trans le, .p (.lst (.inl hm) (r.mono le.FW) .nil), S2, h⟩
/-- What the oracle of calls tells is so, down to a depth. -/
noncomputable def CallsOk (G : Gl N Z) (dep : Nat) (C : Calls) : Prop := ∀ (cs : Scope) (Φ : Cx G cs) (A : Around), A.handled = none → A.units ≤ 3 * A.depth + 4 → A.depth ≤ dep + 3 → ∀ W τ x s f as vs Q, SimX Φ W τ x s → VRepL G W as vs → C f as τ.hp Q →
  codeAny (model G.prog G.w) A (.call (.ref f) ⟨vs, []⟩) (fun r s' => ∃ v, r = .ok (.ret v) ∧ R0 Φ W x (fun a τ' => τ'.loc = τ.loc ∧ Q a τ'.hp) v s') s
noncomputable def SE (G : Gl N Z) (cs : Scope) (e : Expr) (w : WE) : Prop := ∀ (Φ : Cx G cs) C, CallsOk G Φ.A.depth C → ∀ W τ x s Q, SimX Φ W τ x s → w C τ Q → wpAny Φ.M Φ.A (eval e Φ.env) (RV Φ W x Q) (fun _ _ => False) s
noncomputable def S0 (G : Gl N Z) (cs : Scope) (e : Expr) (w : W0) : Prop := ∀ (Φ : Cx G cs) C, CallsOk G Φ.A.depth C → ∀ W τ x s Q, SimX Φ W τ x s → w C τ Q → wpAny Φ.M Φ.A (eval e Φ.env) (R0 Φ W x Q) (fun _ _ => False) s
noncomputable def ST (G : Gl N Z) (cs : Scope) (e : Expr) (w : WT) : Prop := ∀ (Φ : Cx G cs) C, CallsOk G Φ.A.depth C → ∀ W τ x s Q, SimX Φ W τ x s → w C τ Q → wpAny Φ.M Φ.A (PySem.isTrue e Φ.env (eval e Φ.env)) (fun b => RT Φ W x (Q b)) (fun _ _ => False) s
noncomputable def SA (G : Gl N Z) (cs : Scope) (es : List Expr) (w : WA) : Prop := (∀ env, (starEach es env).any (·.1) = false) ∧ ∀ (Φ : Cx G cs) C, CallsOk G Φ.A.depth C → ∀ pos W τ x s Q, SimX Φ W τ x s → w C τ Q → wpAny Φ.M Φ.A (spliced (backTo pos (starEach es Φ.env))) (RA Φ W x Q) (fun _ _ => False) s
theorem SE.go {e : Expr} {w : WE} (h : SE G cs e w) {C : Calls} (ok : CallsOk G Φ.A.depth C) {Q : VV → VS → Prop} {P : Value → Shared → Prop} (S : SimX Φ W τ x s) (q : w C τ Q)
    (k : ∀ W' a τ' v s', W.le W' → VRep G W' a v → SimX Φ W' τ' x s' → Q a τ' → P v s') : wpAny Φ.M Φ.A (eval e Φ.env) P (fun _ _ => False) s :=
  wpAny_mono (h Φ C ok W τ x s Q S q) (fun v s' r => by cases r with | mk W' a τ' le r S q => exact k W' a τ' v s' le r S q) fun _ _ x => x
noncomputable abbrev wFrz (w : W0) : WE := fun C τ Q => w C τ fun r τ' => Q r.frz τ'
theorem SE_frz {e : Expr} {w : W0} (h : S0 G cs e w) : SE G cs e (wFrz w) := fun Φ C ok W τ x s Q S q => wpAny_mono (h Φ C ok W τ x s _ S q) (fun _ _ r => r.toV) fun _ _ x => x
noncomputable abbrev wInt (i : Int) : WE := fun _ τ Q => Q (.p (.int i)) τ
theorem SE_int {i : Int} {k : Nat} {pos : Pos} : SE G cs (.Constant (.int i) k pos) (wInt i) := fun Φ C ok W τ x s Q S q => wpAny_Constant_int ⟨W, _, τ, .refl W, .p (.int i _ .nil), S.toks _, q⟩
noncomputable abbrev wNone : WE := fun _ τ Q => Q (.p .none) τ
theorem SE_none {k : Nat} {pos : Pos} : SE G cs (.Constant .none k pos) wNone := fun Φ C ok W τ x s Q S q => wpAny_Constant_none ⟨W, _, τ, .refl W, .p (.none .nil), S, q⟩
noncomputable abbrev wBool (b : Bool) : WE := fun _ τ Q => Q (.p (.bool b)) τ
theorem SE_bool {b : Bool} {k : Nat} {pos : Pos} : SE G cs (.Constant (.bool b) k pos) (wBool b) := fun Φ C ok W τ x s Q S q => wpAny_Constant_bool ⟨W, _, τ, .refl W, .p (.bool b .nil), S, q⟩
noncomputable abbrev wStr : WE := fun _ τ Q => Q (.p .any) τ
theorem SE_str {t : Str} {k : Nat} {pos : Pos} : SE G cs (.Constant (.str t) k pos) wStr := fun Φ C ok W τ x s Q S q => wpAny_Constant_str ⟨W, _, τ, .refl W, .p (.any rfl .nil), S.toks _, q⟩
theorem CR.at {loc : List (Nat × VV)} {k : Nat} {v : VV} (e : getN k loc = some v) : ∀ {l ns}, CR G W loc l ns → k ∈ l.map (·.1) → ∃ c o u, (k, c) ∈ l ∧ (c, o) ∈ ns ∧ o.data = .cell (some u) ∧ VRep G W v u := by
  intro l ns h
  induction h with
  | nil => intro hm; cases hm
  | @cons k' c o x cs ns e' f r ih =>
    intro hm
    by_cases hk : k = k'
    · subst hk
      obtain ⟨u, e1, r1⟩ := f v e
      exact ⟨c, o, u, .head _, .head _, by rw [e', e1], r1⟩
    · obtain ⟨c', o', u, h1, h2, h3⟩ := ih (by
        rcases List.mem_cons.mp hm with q | q
        · exact absurd q hk
        · exact q)
      exact ⟨c', o', u, .tail _ h1, .tail _ h2, h3⟩
noncomputable abbrev wName (n : Nat) : WE := fun _ τ Q => match getN n τ.loc with
  | some v => Q v τ
  | none => False
theorem SE_name {n : Nat} {t : Str} {pos : Pos} (hn : N n = t) : SE G cs (.Name t pos) (wName n) := fun Φ C ok W τ x s Q S q => by
  subst hn
  simp only [wName] at q
  cases hv : getN n τ.loc with
  | none => rw [hv] at q; exact q.elim
  | some v =>
    rw [hv] at q
    obtain ⟨m, n1, n2, F, Nw, nd, H, Cc, L, cv, o, g⟩ := id S
    rcases L n v hv with ⟨c, hl, hc, r⟩ | hm | ⟨c, u, hk, hc, ho, r⟩ | ⟨c, o, u, hk, hc, hm, hd, r⟩
    · exact wpAny_Name (wpAny_loadName_local Φ.kind hl F.ns hc ⟨W, v, τ, .refl W, r, S, q⟩) (G.hN.dbg n)
    rotate_left
    · have ho := ho.keeps F.keep
      refine wpAny_Name ?_ (G.hN.dbg n)
      rcases hk with hk | hk
      · exact wpAny_loadName_cell Φ.kind hk hc ho ⟨W, v, τ, .refl W, r, S, q⟩
      · exact wpAny_loadName_free Φ.kind hk hc ho ⟨W, v, τ, .refl W, r, S, q⟩ (G.hN.cd n)
    · have ho : s.heap.IsCell c (some u) := ⟨o, (Nw (c, o) (by simp [hm])).1, hd⟩
      refine wpAny_Name ?_ (G.hN.dbg n)
      rcases hk with hk | hk
      · exact wpAny_loadName_cell Φ.kind hk hc ho ⟨W, v, τ, .refl W, r, S, q⟩
      · exact wpAny_loadName_free Φ.kind hk hc ho ⟨W, v, τ, .refl W, r, S, q⟩ (G.hN.cd n)
    · obtain ⟨c, co, u, h1, h2, h3, r⟩ := Cc.at hv hm
      obtain ⟨hk, hc⟩ := cv n c h1
      have ho : s.heap.IsCell c (some u) := ⟨co, (Nw (c, co) (by simp [h2])).1, h3⟩
      refine wpAny_Name ?_ (G.hN.dbg n)
      rcases hk with hk | hk
      · exact wpAny_loadName_cell Φ.kind hk hc ho ⟨W, v, τ, .refl W, r, S, q⟩
      · exact wpAny_loadName_free Φ.kind hk hc ho ⟨W, v, τ, .refl W, r, S, q⟩ (G.hN.cd n)
end VE
namespace VE
variable {N : Nat → Str} {Z : Stc} {G : Gl N Z} {cs : Scope} {Φ : Cx G cs} {W : Wd} {τ : VS} {s : Shared} {x : List (Addr × Obj)}
noncomputable def binI (op : Operator) (i j : Int) (Q : Int → Prop) : Prop := match op with
  | .Add => Q (i + j)
  | .Sub => Q (i - j)
  | .Mult => IntMulOk i j ∧ Q (i * j)
  | .FloorDiv => (j ≠ 0 ∧ Builtin.divisionGoesByPylong i j = false) ∧ Q (Int.fdiv i j)
  | .Mod => j ≠ 0 ∧ Q (Int.fmod i j)
  | .Pow => (0 ≤ j ∧ j ≤ 1000000 ∧ i.natAbs < 2 ^ 64) ∧ Q (i ^ j.toNat)
  | .LShift => (0 ≤ j ∧ (Builtin.Int.intBits i : Int) + j ≤ 2 ^ 27) ∧ Q (i * 2 ^ j.toNat)
  | .RShift => 0 ≤ j ∧ Q (Int.fdiv i (2 ^ j.toNat))
  | .BitAnd => Q (Builtin.bitAnd i j)
  | .BitOr => Q (Builtin.bitOr i j)
  | .BitXor => Q (Builtin.bitXor i j)
  | _ => False
noncomputable abbrev opW (op : Operator) (u v : VV) (Q : VV → Prop) : Prop := match u, v with
  | .p (.int i), .p (.int j) => binI op i j fun z => Q (.p (.int z))
  | _, _ => False
noncomputable abbrev wBin (op : Operator) (a b : WE) : WE := fun C τ Q => a C τ fun u τ1 => b C τ1 fun v τ2 => opW op u v fun z => Q z τ2
theorem binI_run {op : Operator} {i j : Int} {t u : Tok} {Q : Int → Prop} {P : Value → Shared → Prop} (S : SimX Φ W τ x s) (h : binI op i j Q) (k : ∀ z t s', SimX Φ W τ x s' → Q z → P (.int z t) s') :
    wpAny Φ.M Φ.A (binaryOp op (.int i t) (.int j u)) P (fun _ _ => False) s := by
  cases op <;> first | exact h.elim | skip
  · exact add_int (k _ _ _ (S.toks _) h)
  · exact sub_int (k _ _ _ (S.toks _) h)
  · exact mul_int (k _ _ _ (S.toks _) h.2) h.1
  · exact mod_int h.1 (k _ _ _ (S.toks _) h.2)
  · exact pow_int_small h.1.1 h.1.2.1 h.1.2.2 (k _ _ _ (S.toks _) h.2)
  · exact lshift_int h.1.1 h.1.2 (k _ _ _ (S.toks _) h.2)
  · exact rshift_int h.1 (k _ _ _ (S.toks _) h.2)
  · exact or_int (k _ _ _ (S.toks _) h)
  · exact xor_int (k _ _ _ (S.toks _) h)
  · exact and_int (k _ _ _ (S.toks _) h)
  · exact floordiv_int h.1.1 (k _ _ _ (S.toks _) h.2) (.inl h.1.2)
theorem opW_ints {op : Operator} {u v : VV} {Q : VV → Prop} (h : opW op u v Q) : ∃ i j, u = .p (.int i) ∧ v = .p (.int j) ∧ binI op i j fun z => Q (.p (.int z)) := by
  cases u with
  | p a => cases a with
    | int i => cases v with
      | p b => cases b with
        | int j => exact ⟨_, _, rfl, rfl, h⟩
        | _ => exact h.elim
      | _ => exact h.elim
    | _ => exact h.elim
  | _ => exact h.elim
theorem VRep.int {i : Int} {c : Value} (r : VRep G W (.p (.int i)) c) : ∃ t, c = .int i t := by
  cases r with | p r => cases r with | int _ t _ => exact ⟨t, rfl⟩
theorem VRep.of_int {i : Int} {t : Tok} : VRep G W (.p (.int i)) (.int i t) := .p (.int i t .nil)
theorem SE_bin {op : Operator} {l r : Expr} {wl wr : WE} {pos : Pos} (hl : SE G cs l wl) (hr : SE G cs r wr) : SE G cs (.BinOp l op r pos) (wBin op wl wr) := fun Φ C ok W τ x s Q S q =>
  wpAny_BinOp (hl.go ok S q fun W1 u τ1 c s1 le1 r1 S1 q1 => hr.go ok S1 q1 fun W2 v τ2 d s2 le2 r2 S2 q2 => by
    obtain ⟨i, j, rfl, rfl, h⟩ := opW_ints q2
    obtain ⟨t, rfl⟩ := r1.int
    obtain ⟨t', rfl⟩ := r2.int
    exact binI_run S2 h fun z t s' S' q' => ⟨W2, _, τ2, le1.trans le2, .of_int, S', q'⟩)
/-- A list's items. -/
noncomputable def refL (hp : List VO) (k : Nat) : Option (List PV) := match hp[k]? with
  | none => none
  | some o => match o with
    | .list l => some l
    | .inst _ => none
theorem refL_ex {hp : List VO} {k : Nat} {l : List PV} (h : refL hp k = some l) : hp[k]? = some (.list l) := by
  unfold refL at h
  cases e : hp[k]? with
  | none => rw [e] at h; cases h
  | some o =>
    rw [e] at h
    cases o with
    | list l' => cases h; rfl
    | inst => cases h
theorem refL_of {hp : List VO} {k : Nat} {l : List PV} (h : hp[k]? = some (.list l)) : refL hp k = some l := by unfold refL; rw [h]
noncomputable def asL (hp : List VO) : VV → Option (List PV)
  | .p (.lst l) => some l
  | .p (.raw l) => some l
  | .ref k => refL hp k
  | _ => none
theorem SimX.asL (S : SimX Φ W τ x s) {v : VV} {c : Value} {l : List PV} (r : VRep G W v c) (e : VE.asL τ.hp v = some l) : ∃ a vs, c = .ref a ∧ s.heap.IsList a vs.toArray ∧ PRepL (VE.FW G W) l vs := by
  cases r with
  | p r =>
    cases r with
    | @lst _ _ a ws n l' f p _ => cases (e : some l' = some l); exact ⟨a, ws, rfl, ⟨_, S.FW f, rfl, n, rfl⟩, p⟩
    | @raw _ _ a o ws n l' f c d p _ => cases (e : some l' = some l); exact ⟨a, ws, rfl, ⟨o, S.FW f, c, n, d⟩, p⟩
    | _ => exact noO e
  | @ref k a d e' =>
    obtain ⟨vs, n, LA⟩ := S.list (refL_ex e) e'
    exact ⟨a, vs, rfl, ⟨_, LA.get, rfl, n, rfl⟩, LA.rep⟩
  | _ => exact noO e
theorem VRep.tup {l : List PV} {c : Value} (r : VRep G W (.p (.tup l)) c) (S : SimX Φ W τ x s) : ∃ a vs, c = .ref a ∧ IsTup s.heap a vs.toArray ∧ PRepL (VE.FW G W) l vs := by
  cases r with
  | p r =>
    cases r with
    | @tup _ _ a ws n l' f p _ => exact ⟨a, ws, rfl, ⟨_, S.FW f, rfl, n, rfl⟩, p⟩
/-- Values compared. -/
noncomputable abbrev eqW (hp : List VO) (u v : VV) (Q : Bool → Prop) : Prop := match u, v with
  | .p (.int i), .p (.int j) => Q (i == j)
  | .p (.bool i), .p (.bool j) => Q (i == j)
  | _, _ => ∃ l r : List Int, asL hp u = some (l.map .int) ∧ asL hp v = some (r.map .int) ∧ l.length = r.length ∧ Q (l == r)
/-- A plain value; one or two of a list. -/
noncomputable def pvV (v : VV) (Q : PV → Prop) : Prop := match v with
  | .p z => Q z
  | _ => False
theorem pvV_ex {v : VV} {Q : PV → Prop} (h : pvV v Q) : ∃ z, v = .p z ∧ Q z := by
  cases v with
  | p z => exact ⟨z, rfl, h⟩
  | _ => exact h.elim
noncomputable def inV (v : VV) (Q : Int → Prop) : Prop := match v with
  | .p z => match z with
    | .int i => Q i
    | _ => False
  | _ => False
theorem inV_ex {v : VV} {Q : Int → Prop} (h : inV v Q) : ∃ i, v = .p (.int i) ∧ Q i := by
  cases v with
  | p z => cases z with
    | int i => exact ⟨i, rfl, h⟩
    | _ => exact h.elim
  | _ => exact h.elim
noncomputable def oneW (vs : List VV) (Q : VV → Prop) : Prop := match vs with
  | [] => False
  | v :: r => match r with
    | [] => Q v
    | _ :: _ => False
noncomputable def twoW (vs : List VV) (Q : VV → VV → Prop) : Prop := match vs with
  | [] => False
  | v :: r => oneW r (Q v)
theorem oneW_ex {vs : List VV} {Q : VV → Prop} (h : oneW vs Q) : ∃ v, vs = [v] ∧ Q v := by
  cases vs with
  | nil => exact h.elim
  | cons v r => cases r with
    | nil => exact ⟨v, rfl, h⟩
    | cons => exact h.elim
theorem twoW_ex {vs : List VV} {Q : VV → VV → Prop} (h : twoW vs Q) : ∃ u v, vs = [u, v] ∧ Q u v := by
  cases vs with
  | nil => exact h.elim
  | cons u r =>
    obtain ⟨v, rfl, q⟩ := oneW_ex h
    exact ⟨u, v, rfl, q⟩
noncomputable def isNoneV : VV → Option Bool
  | .p .none => some true
  | .p .any => none
  | _ => some false
noncomputable def intsW (u v : VV) (R : Int → Int → Prop) : Prop := match u, v with
  | .p (.int i), .p (.int j) => R i j
  | _, _ => False
noncomputable def isW (v : VV) (u : VV) (Q : Bool → Prop) : Prop := match v with
  | .p .none => match isNoneV u with
    | some b => Q b
    | none => False
  | _ => False
noncomputable def inW (hp : List VO) (u v : VV) (Q : Bool → Prop) : Prop := match u with
  | .p (.int i) => ∃ l : List Int, asL hp v = some (l.map .int) ∧ Q (l.any (· == i))
  | _ => False
noncomputable def cmpW (hp : List VO) (op : CmpOp) (u v : VV) (Q : Bool → Prop) : Prop := match op with
  | .Eq => eqW hp u v Q
  | .NotEq => intsW u v fun i j => Q (!(i == j))
  | .Lt => intsW u v fun i j => Q (decide (i < j))
  | .Gt => intsW u v fun i j => Q (decide (i > j))
  | .GtE => intsW u v fun i j => Q (decide (i ≥ j))
  | .Is => isW v u Q
  | .In => inW hp u v Q
  | _ => False
noncomputable abbrev wCmp (op : CmpOp) (a b : WE) : WE := fun C τ Q => a C τ fun u τ1 => b C τ1 fun v τ2 => cmpW τ2.hp op u v fun z => Q (.p (.bool z)) τ2
theorem beq_range {l r : List Int} (hl : l.length = r.length) : (List.range l.length).all (fun j => l[j]? == r[j]?) = (l == r) := by
  rw [hl, Bool.eq_iff_iff, List.all_eq_true, beq_iff_eq]
  constructor
  · intro q
    refine List.ext_getElem? fun j => ?_
    by_cases hj : j < r.length
    · exact beq_iff_eq.mp (q j (List.mem_range.mpr hj))
    · rw [List.getElem?_eq_none (by (exact qq2 [_,_,_] [] 1 0xc5 1 0xe5 1 0xc7 qt (qE hl) (qT hj))), List.getElem?_eq_none (by (exact qq1 [_,_] [] 1 0xc5 1 0xc5 qt (qT hj)))]
  · rintro rfl j _; exact beq_self_eq_true _
theorem eqAt_of {A : Around} {l r : List Int} {vs ws : List Value} (iv : IntsAre vs l) (iw : IntsAre ws r) {j : Nat} (h1 : j < vs.toArray.size) (h2 : j < ws.toArray.size) : SeqAt.EqAt A s (vs.toArray[j]) (ws.toArray[j]) (l[j]? == r[j]?) := by
  have h1' : j < vs.length := by simpa using h1
  have h2' : j < ws.length := by simpa using h2
  have g : ∀ {vs : List Value} {l : List Int}, IntsAre vs l → ∀ {j : Nat} (h : j < vs.length), ∃ z t, l[j]? = some z ∧ vs[j] = .int z t := by
    intro vs l h
    induction h with
    | nil => intro j h; simp at h
    | cons k t _ ih =>
      intro j h
      cases j with
      | zero => exact ⟨k, t, rfl, rfl⟩
      | succ j => simpa using ih (j := j) (by simpa using h)
  obtain ⟨z, t, e1, e2⟩ := g iv h1'
  obtain ⟨z', t', e3, e4⟩ := g iw h2'
  simp only [List.getElem_toArray, e1, e2, e3, e4]
  exact SeqAt.EqAt.int_int _ _ _ _
theorem Cx.units (Φ : Cx G cs) : Φ.A.units < cLine := by
  have := Φ.un
  have := Φ.dp
  have : cLine = 9900 := rfl
  lia
theorem IntsAre.len {vs : List Value} {l : List Int} (h : IntsAre vs l) : vs.length = l.length := by
  induction h with
  | nil => rfl
  | cons k t _ ih => simp [ih]
theorem eqW_inv {hp : List VO} {u v : VV} {Q : Bool → Prop} (h : eqW hp u v Q) : (∃ i j, u = .p (.int i) ∧ v = .p (.int j) ∧ Q (i == j)) ∨ (∃ i j, u = .p (.bool i) ∧ v = .p (.bool j) ∧ Q (i == j)) ∨
    ∃ l r : List Int, asL hp u = some (l.map .int) ∧ asL hp v = some (r.map .int) ∧ l.length = r.length ∧ Q (l == r) := by
  cases u with
  | p a => cases a with
    | int i => cases v with
      | p b => cases b with
        | int j => exact .inl ⟨i, j, rfl, rfl, h⟩
        | _ => exact .inr (.inr h)
      | _ => exact .inr (.inr h)
    | bool i => cases v with
      | p b => cases b with
        | bool j => exact .inr (.inl ⟨i, j, rfl, rfl, h⟩)
        | _ => exact .inr (.inr h)
      | _ => exact .inr (.inr h)
    | _ => exact .inr (.inr h)
  | _ => exact .inr (.inr h)
theorem eqW_run {u v : VV} {c d : Value} {Q : Bool → Prop} {P : Value → Shared → Prop} (S : SimX Φ W τ x s) (ru : VRep G W u c) (rv : VRep G W v d) (h : eqW τ.hp u v Q) (k : ∀ z, Q z → P (.bool z) s) :
    wpAny Φ.M Φ.A (compareOp .Eq c d) P (fun _ _ => False) s := by
  rcases eqW_inv h with ⟨i, j, rfl, rfl, h⟩ | ⟨i, j, rfl, rfl, h⟩ | h
  · obtain ⟨t, rfl⟩ := ru.int
    obtain ⟨t', rfl⟩ := rv.int
    exact eq_int (k _ h)
  · cases ru; rename_i ru; cases ru; cases rv; rename_i rv; cases rv
    exact eq_bool (k _ h)
  · obtain ⟨l, r, e1, e2, hl, q⟩ := h
    obtain ⟨a, vs, rfl, ht, iv⟩ := S.asL ru e1
    obtain ⟨b, ws, rfl, ht', iw⟩ := S.asL rv e2
    have e1 := IntsAre.len iv.ints
    have e2 := IntsAre.len iw.ints
    refine SeqAt.eq_listAt (e := fun j => l[j]? == r[j]?) ht ht' (by simp [e1, e2, hl]) Φ.units (fun j h1 h2 => eqAt_of iv.ints iw.ints h1 h2) ?_
    have := beq_range hl
    simp only [List.size_toArray, e1] at this ⊢
    rw [this]
    exact k _ q
theorem intsW_ex {u v : VV} {c d : Value} {R : Int → Int → Prop} (ru : VRep G W u c) (rv : VRep G W v d) (h : intsW u v R) : ∃ i j t t', c = .int i t ∧ d = .int j t' ∧ R i j := by
  cases u with
  | p a => cases a with
    | int i => cases v with
      | p b => cases b with
        | int j =>
          obtain ⟨t, rfl⟩ := ru.int
          obtain ⟨t', rfl⟩ := rv.int
          exact ⟨_, _, t, t', rfl, rfl, h⟩
        | _ => exact h.elim
      | _ => exact h.elim
    | _ => exact h.elim
  | _ => exact h.elim
theorem nBt {c : Value} {k b : Bool} (h : compareOp .Is c .none = pure (.bool k)) (e : some k = some b) : compareOp .Is c .none = pure (.bool b) := by cases e; exact h
theorem isNone_is {u : VV} {c : Value} (ru : VRep G W u c) {b : Bool} (e : isNoneV u = some b) : compareOp .Is c .none = pure (.bool b) := by
  cases ru with
  | p r => cases r <;> first | exact nBt rfl e | exact noO e
  | _ => exact nBt rfl e
theorem isW_run {u v : VV} {c d : Value} {Q : Bool → Prop} {P : Value → Shared → Prop} (ru : VRep G W u c) (rv : VRep G W v d) (h : isW v u Q) (k : ∀ z, Q z → P (.bool z) s) :
    wpAny Φ.M Φ.A (compareOp .Is c d) P (fun _ _ => False) s := by
  cases v with
  | p a => cases a with
    | none =>
      cases rv
      rename_i rv
      cases rv
      change (match isNoneV u with | some b => Q b | none => False) at h
      cases e : isNoneV u with
      | none => rw [e] at h; exact h.elim
      | some b => rw [e] at h; rw [isNone_is ru e]; exact wpAny_pure (k _ h)
    | _ => exact h.elim
  | _ => exact h.elim
theorem cmpW_run {op : CmpOp} {u v : VV} {c d : Value} {Q : Bool → Prop} {P : Value → Shared → Prop} (S : SimX Φ W τ x s) (ru : VRep G W u c) (rv : VRep G W v d) (h : cmpW τ.hp op u v Q) (k : ∀ z, Q z → P (.bool z) s) :
    wpAny Φ.M Φ.A (compareOp op c d) P (fun _ _ => False) s := by
  cases op with
  | Eq => exact eqW_run S ru rv h k
  | NotEq => obtain ⟨i, j, t, t', rfl, rfl, q⟩ := intsW_ex ru rv h; exact ne_int (k _ q)
  | Lt => obtain ⟨i, j, t, t', rfl, rfl, q⟩ := intsW_ex ru rv h; exact lt_int (k _ q)
  | LtE => exact h.elim
  | Gt => obtain ⟨i, j, t, t', rfl, rfl, q⟩ := intsW_ex ru rv h; exact gt_int (k _ q)
  | GtE => obtain ⟨i, j, t, t', rfl, rfl, q⟩ := intsW_ex ru rv h; exact ge_int (k _ q)
  | Is => exact isW_run ru rv h k
  | In =>
    cases u with
    | p a => cases a with
      | int i =>
        obtain ⟨l, e, q⟩ := (h : ∃ l : List Int, asL τ.hp v = some (l.map .int) ∧ Q (l.any (· == i)))
        obtain ⟨t, rfl⟩ := ru.int
        obtain ⟨a, vs, rfl, hl, iv⟩ := S.asL rv e
        exact in_list_ints hl iv.ints (k _ q)
      | _ => exact h.elim
    | _ => exact h.elim
  | IsNot => exact h.elim
  | NotIn => exact h.elim
theorem SE_cmp {op : CmpOp} {l r : Expr} {wl wr : WE} {pos : Pos} (hl : SE G cs l wl) (hr : SE G cs r wr) (hm : behindInMarks op r = false) : SE G cs (.Compare l [op] [r] pos) (wCmp op wl wr) := fun Φ C ok W τ x s Q S q =>
  wpAny_Compare1 (hl.go ok S q fun W1 u τ1 c s1 le1 r1 S1 q1 => hr.go ok S1 q1 fun W2 v τ2 d s2 le2 r2 S2 q2 =>
    cmpW_run S2 (r1.mono le2) r2 q2 fun z q' => ⟨W2, _, τ2, le1.trans le2, .p (.bool z .nil), S2, q'⟩) hm
end VE
namespace VE
variable {N : Nat → Str} {Z : Stc} {G : Gl N Z} {cs : Scope} {Φ : Cx G cs} {W : Wd} {τ : VS} {s : Shared} {x : List (Addr × Obj)}
/-- A value's truth. -/
noncomputable def truW (hp : List VO) (v : VV) (Q : Bool → Prop) : Prop := match v with
  | .p (.int i) => Q (i != 0)
  | .p (.bool b) => Q b
  | .ref k => match hp[k]? with
    | some (.list l) => (l.length : Int) < 2 ^ 63 ∧ Q (!l.isEmpty)
    | _ => False
  | _ => False
theorem truW_run {v : VV} {c : Value} {Q : Bool → Prop} {P : Bool → Shared → Prop} (S : SimX Φ W τ x s) (r : VRep G W v c) (h : truW τ.hp v Q) (k : ∀ b t, Q b → P b { s with toks := t }) : wpAny Φ.M Φ.A (truthy c) P (fun _ _ => False) s := by
  have lst : ∀ l, VE.asL τ.hp v = some l → (l.length : Int) < 2 ^ 63 ∧ Q (!l.isEmpty) → wpAny Φ.M Φ.A (truthy c) P (fun _ _ => False) s := fun l e q => by
    obtain ⟨a, vs, rfl, hl, p⟩ := S.asL r e
    have e2 : vs.toArray.isEmpty = l.isEmpty := by
      have := p.length
      cases vs <;> cases l <;> simp at this ⊢
    exact wpAny_truthy_list hl (by have := p.length; simp only [List.size_toArray, this]; exact q.1) (k _ _ (by rw [e2]; exact q.2))
  cases v with
  | p a => cases a with
    | int i =>
      obtain ⟨t, rfl⟩ := r.int
      exact truthy_int (k _ _ h)
    | bool b =>
      cases r; rename_i r; cases r
      exact wpAny_truthy_bool (k _ _ h)
    | _ => exact h.elim
  | ref n =>
    change (match τ.hp[n]? with | some (.list l) => (l.length : Int) < 2 ^ 63 ∧ Q (!l.isEmpty) | _ => False) at h
    cases e : τ.hp[n]? with
    | none => rw [e] at h; exact h.elim
    | some o =>
      rw [e] at h
      cases o with
      | list l => exact lst l (refL_of e) h
      | inst => exact h.elim
  | _ => exact h.elim
noncomputable abbrev wTru (w : WE) : WT := fun C τ Q => w C τ fun v τ' => truW τ'.hp v fun b => Q b τ'
theorem ST_of {e : Expr} {w : WE} (h : SE G cs e w) (he : ∀ env, PySem.isTrue e env (eval e env) = (do let v ← eval e env; standAt e.pos; holding [v] (truthy v))) : ST G cs e (wTru w) := fun Φ C ok W τ x s Q S q =>
  isTrue_plain (h.go ok S q fun W1 v τ1 c s1 le r S1 q1 => truW_run S1 r q1 fun b t q' => ⟨W1, τ1, le, S1.toks t, q'⟩) (he _)
noncomputable abbrev wCmpT (op : CmpOp) (a b : WE) : WT := fun C τ Q => a C τ fun u τ1 => b C τ1 fun v τ2 => cmpW τ2.hp op u v fun z => Q z τ2
theorem ST_cmp {op : CmpOp} {l r : Expr} {wl wr : WE} {pos : Pos} (hl : SE G cs l wl) (hr : SE G cs r wr) (hm : behindInMarks op r = false) : ST G cs (.Compare l [op] [r] pos) (wCmpT op wl wr) := fun Φ C ok W τ x s Q S q =>
  wpAny_isTrue_Compare1 (hl.go ok S q fun W1 u τ1 c s1 le1 r1 S1 q1 => hr.go ok S1 q1 fun W2 v τ2 d s2 le2 r2 S2 q2 =>
    cmpW_run S2 (r1.mono le2) r2 q2 fun z q' => wpAny_truthy_bool ⟨W2, τ2, le1.trans le2, S2, q'⟩) hm
theorem ST.go {e : Expr} {w : WT} (h : ST G cs e w) {C : Calls} (ok : CallsOk G Φ.A.depth C) {Q : Bool → VS → Prop} {P : Bool → Shared → Prop} (S : SimX Φ W τ x s) (q : w C τ Q)
    (k : ∀ W' b τ' s', W.le W' → SimX Φ W' τ' x s' → Q b τ' → P b s') : wpAny Φ.M Φ.A (PySem.isTrue e Φ.env (eval e Φ.env)) P (fun _ _ => False) s :=
  wpAny_mono (h Φ C ok W τ x s Q S q) (fun b s' r => by cases r with | mk W' τ' le S q => exact k W' b τ' s' le S q) fun _ _ x => x
/-- One road or the other. -/
noncomputable abbrev brW (b : Bool) (p q : Prop) : Prop := match b with
  | true => p
  | false => q
noncomputable abbrev wIfE (t : WT) (a b : WE) : WE := fun C τ Q => t C τ fun c τ' => brW c (a C τ' Q) (b C τ' Q)
theorem SE_if {test body orelse : Expr} {pos : Pos} {t : WT} {a b : WE} (ht : ST G cs test t) (ha : SE G cs body a) (hb : SE G cs orelse b) : SE G cs (.IfExp test body orelse pos) (wIfE t a b) := fun Φ C ok W τ x s Q S q =>
  IfExp_ (ht.go ok S q fun W1 c τ1 s1 le S1 q1 => by
    cases c with
    | true => rw [if_pos rfl]; exact wpAny_mono (ha Φ C ok _ _ _ _ _ S1 q1) (fun _ _ r => r.up le) fun _ _ x => x
    | false => rw [if_neg (by decide)]; exact wpAny_mono (hb Φ C ok _ _ _ _ _ S1 q1) (fun _ _ r => r.up le) fun _ _ x => x)
noncomputable abbrev wIf0 (t : WT) (a b : W0) : W0 := fun C τ Q => t C τ fun c τ' => brW c (a C τ' Q) (b C τ' Q)
theorem S0_if {test body orelse : Expr} {pos : Pos} {t : WT} {a b : W0} (ht : ST G cs test t) (ha : S0 G cs body a) (hb : S0 G cs orelse b) : S0 G cs (.IfExp test body orelse pos) (wIf0 t a b) := fun Φ C ok W τ x s Q S q =>
  IfExp_ (ht.go ok S q fun W1 c τ1 s1 le S1 q1 => by
    cases c with
    | true => rw [if_pos rfl]; exact wpAny_mono (ha Φ C ok _ _ _ _ _ S1 q1) (fun _ _ r => r.up le) fun _ _ x => x
    | false => rw [if_neg (by decide)]; exact wpAny_mono (hb Φ C ok _ _ _ _ _ S1 q1) (fun _ _ r => r.up le) fun _ _ x => x)
noncomputable abbrev wAndE (a b : WE) : WE := fun C τ Q => a C τ fun v τ1 => truW τ1.hp v fun c => brW c (b C τ1 Q) (Q v τ1)
theorem SE_and {e₁ e₂ : Expr} {rest : List Expr} {pos : Pos} {a b : WE} (h : SE G cs e₁ a) (h' : SE G cs (.BoolOp .And (e₂ :: rest) pos) b) : SE G cs (.BoolOp .And (e₁ :: e₂ :: rest) pos) (wAndE a b) := fun Φ C ok W τ x s Q S q =>
  BoolOp_and (h.go ok S q fun W1 v τ1 c s1 le r S1 q1 => truW_run S1 r q1 fun z t q2 => by
    cases z with
    | true => rw [if_pos rfl]; exact wpAny_mono (h' Φ C ok _ _ _ _ _ (S1.toks t) q2) (fun _ _ r => r.up le) fun _ _ x => x
    | false => rw [if_neg (by decide)]; exact ⟨W1, v, τ1, le, r, S1.toks t, q2⟩)
theorem SE_one {op : BoolOp} {e : Expr} {pos : Pos} {w : WE} (h : SE G cs e w) : SE G cs (.BoolOp op [e] pos) w := fun Φ C ok W τ x s Q S q => BoolOp_one (h Φ C ok W τ x s Q S q)
/-- One int from another. -/
noncomputable abbrev unW (f : Int → Int) (v : VV) (Q : VV → Prop) : Prop := match v with
  | .p (.int i) => Q (.p (.int (f i)))
  | _ => False
noncomputable abbrev wInv (w : WE) : WE := fun C τ Q => w C τ fun v τ' => unW Builtin.bitNot v fun z => Q z τ'
theorem unW_ex {f : Int → Int} {v : VV} {Q : VV → Prop} (h : unW f v Q) : ∃ i, v = .p (.int i) ∧ Q (.p (.int (f i))) := by
  cases v with
  | p a => cases a with
    | int i => exact ⟨_, rfl, h⟩
    | _ => exact h.elim
  | _ => exact h.elim
theorem SE_inv {e : Expr} {pos : Pos} {w : WE} (h : SE G cs e w) : SE G cs (.UnaryOp .Invert e pos) (wInv w) := fun Φ C ok W τ x s Q S q =>
  UnaryOp_ (h.go ok S q fun W1 v τ1 c s1 le r S1 q1 => by
    obtain ⟨i, rfl, q2⟩ := unW_ex q1
    obtain ⟨t, rfl⟩ := r.int
    exact invert_int ⟨W1, _, τ1, le, .of_int, S1.toks _, q2⟩)
end VE
namespace VE
variable {N : Nat → Str} {Z : Stc} {G : Gl N Z} {cs : Scope} {Φ : Cx G cs} {W : Wd} {τ : VS} {s : Shared} {x : List (Addr × Obj)}
noncomputable def seqL (hp : List VO) : VV → Option (List PV)
  | .p (.tup l) => some l
  | v => asL hp v
noncomputable def pick (l : List PV) : Int → Option PV
  | .ofNat k => l[k]?
  | .negSucc k => match Nat.ble (k + 1) l.length with
    | true => l[l.length - (k + 1)]?
    | false => none
theorem pick_pos {l : List PV} {j : Int} (h : 0 ≤ j) : pick l j = l[j.toNat]? := by
  obtain ⟨k, rfl⟩ := Int.eq_ofNat_of_zero_le h
  rfl
theorem pick_neg {l : List PV} {j : Int} {z : PV} (h : j < 0) (e : pick l j = some z) : -(l.length : Int) ≤ j ∧ l[(j + l.length).toNat]? = some z := by
  cases j with
  | ofNat k => exact absurd h (by simp)
  | negSucc k =>
    simp only [pick] at e
    cases hb : Nat.ble (k + 1) l.length with
    | false => rw [hb] at e; cases e
    | true =>
      rw [hb] at e
      have hb := Nat.le_of_ble_eq_true hb
      refine ⟨by (clear e h; lia), ?_⟩
      have : (Int.negSucc k + (l.length : Int)).toNat = l.length - (k + 1) := by (clear e h hb; lia)
      rw [this]; exact e
/-- An item read. -/
noncomputable abbrev idxOk (j : Int) : Prop := -(2 ^ 63) ≤ j ∧ j < 2 ^ 63
noncomputable def subW (hp : List VO) (u v : VV) (Q : VV → Prop) : Prop := match v with
  | .p (.int j) => idxOk j ∧ ∃ l z, seqL hp u = some l ∧ pick l j = some z ∧ Q (.p z)
  | _ => False
theorem seqIndex_of_pick {l : List PV} {j : Int} {z : PV} (e : pick l j = some z) : ∃ k, seqIndex? j l.length = some k ∧ l[k]? = some z := by
  by_cases h : 0 ≤ j
  · rw [pick_pos h] at e
    have := (List.getElem?_eq_some_iff.mp e).1
    refine ⟨j.toNat, ?_, e⟩
    unfold seqIndex?
    have h' : ¬ j < 0 := by (clear e this; lia)
    simp only [h', if_false]
    rw [if_pos (by simp; (clear e h'; lia))]
  · obtain ⟨h1, h2⟩ := pick_neg (by (clear e; lia)) e
    refine ⟨_, ?_, h2⟩
    unfold seqIndex?
    have h' : j < 0 := by (clear e h1 h2; lia)
    simp only [h', if_true]
    rw [if_pos (by simp; (clear e h' h2; lia))]
theorem subW_run {u v : VV} {c d : Value} {value slice : Expr} {Q : VV → Prop} {P : Value → Shared → Prop} (S : SimX Φ W τ x s) (ru : VRep G W u c) (rv : VRep G W v d) (h : subW τ.hp u v Q) (hs : ∀ o i, subscripted slice false o i = operate [o, i] (getItem o i))
    (k : ∀ z e, VRep G W z e → Q z → P e s) : wpAny Φ.M Φ.A (subscriptTail value slice c d) P (fun _ _ => False) s := by
  unfold subW at h
  split at h
  · rename_i j
    obtain ⟨⟨b1, b2⟩, l, z, e1, e2, q⟩ := h
    obtain ⟨t, rfl⟩ := rv.int
    have lst : VE.asL τ.hp u = some l → wpAny Φ.M Φ.A (subscriptTail value slice c (.int j t)) P (fun _ _ => False) s := fun e1 => by
      obtain ⟨a, vs, rfl, hl, p⟩ := S.asL ru e1
      by_cases h0 : 0 ≤ j
      · rw [pick_pos h0] at e2
        obtain ⟨e, he, r⟩ := p.get e2
        exact tail_any hl.typeIs slot_list_getitem.lookup (wpAny_getItem_list hl h0 b2 (by simpa using he) (k _ e (.p r) q)) (hs _ _)
      · obtain ⟨h1, h2⟩ := pick_neg (by (clear b1 b2 e1 e2; lia)) e2
        obtain ⟨e, he, r⟩ := p.get h2
        exact tail_any hl.typeIs slot_list_getitem.lookup (wpAny_getItem_list_neg hl (by (clear b1 b2 e1 e2 h1 h2 he; lia)) (by simpa [p.length] using h1) b1 (by simpa [p.length] using he) (k _ e (.p r) q)) (hs _ _)
    unfold seqL at e1
    split at e1
    · cases e1
      obtain ⟨a, vs, rfl, ht, p⟩ := ru.tup S
      obtain ⟨j', e3, e4⟩ := seqIndex_of_pick e2
      obtain ⟨e, he, r⟩ := p.get e4
      exact item_tupleT ht b1 b2 (by rw [p.length]; exact e3) he (k _ e (.p r) q) (hs _ _)
    · exact lst e1
  · exact h.elim
noncomputable abbrev wSub (a b : WE) : WE := fun C τ Q => a C τ fun u τ1 => b C τ1 fun v τ2 => subW τ2.hp u v fun z => Q z τ2
theorem SE_sub {value slice : Expr} {a b : WE} {pos : Pos} (h : SE G cs value a) (h' : SE G cs slice b) (hs : ∀ o i, subscripted slice false o i = operate [o, i] (getItem o i)) : SE G cs (.Subscript value slice pos) (wSub a b) := fun Φ C ok W τ x s Q S q =>
  Subscript_ (h.go ok S q fun W1 u τ1 c s1 le1 r1 S1 q1 => h'.go ok S1 q1 fun W2 v τ2 d s2 le2 r2 S2 q2 =>
    subW_run S2 (r1.mono le2) r2 q2 hs fun z e r q' => ⟨W2, z, τ2, le1.trans le2, r, S2, q'⟩)
/-- The items of a display, or of a call. -/
noncomputable abbrev wA0 : WA := fun _ τ Q => Q [] τ
noncomputable abbrev wAc (w : WE) (ws : WA) : WA := fun C τ Q => w C τ fun v τ1 => ws C τ1 fun vs τ2 => Q (v :: vs) τ2
theorem SA_nil : SA G cs [] wA0 := ⟨fun _ => rfl, fun Φ C ok pos W τ x s Q S q => args_nil ⟨W, [], τ, .refl W, .nil, S, q⟩⟩
theorem SA_cons {e : Expr} {rest : List Expr} {w : WE} {ws : WA} (h : SE G cs e w) (h' : SA G cs rest ws) (he : ∀ env, starEach (e :: rest) env = (false, eval e env) :: starEach rest env) : SA G cs (e :: rest) (wAc w ws) := ⟨fun env => by rw [he env, List.any_cons, h'.1 env]; rfl, fun Φ C ok pos W τ x s Q S q =>
  args_cons (h.go ok S q fun W1 v τ1 c s1 le1 r1 S1 q1 => wpAny_mono (h'.2 Φ C ok pos W1 τ1 x s1 _ S1 q1) (fun vs s2 r => by
    cases r with | mk W2 as τ2 le2 r2 S2 q2 => exact ⟨W2, v :: as, τ2, le1.trans le2, .cons (r1.mono le2) r2, S2, q2⟩) fun _ _ x => x) (he _)⟩
noncomputable def unP : List VV → Option (List PV)
  | [] => some []
  | .p v :: r => (unP r).map (v :: ·)
  | _ => none
theorem unP_rep : ∀ {vs : List VV} {cs : List Value} {l : List PV}, unP vs = some l → VRepL G W vs cs → PRepL (FW G W) l cs := by
  intro vs cs l e r
  induction r generalizing l with
  | nil => cases e; exact .nil
  | @cons v c vs cs a _ ih =>
    cases a with
    | p p =>
      simp only [unP, Option.map_eq_some_iff] at e
      obtain ⟨l', h1, h2⟩ := e
      subst h2
      exact p.cons (ih h1)
    | ref => cases e
    | meth => cases e
    | lam => cases e
noncomputable def listW (vs : List VV) (Q : List PV → Prop) : Prop := match unP vs with
  | some l => l.length ≤ sizeLine ∧ Q l
  | none => False
theorem listW_ex {vs : List VV} {Q : List PV → Prop} (h : listW vs Q) : ∃ l, unP vs = some l ∧ l.length ≤ sizeLine ∧ Q l := by
  unfold listW at h
  split at h
  · exact ⟨_, by assumption, h.1, h.2⟩
  · exact h.elim
noncomputable abbrev wList (a : WA) : W0 := fun C τ Q => a C τ fun vs τ' => listW vs fun l => Q (.new l) τ'
theorem SA.go {es : List Expr} {w : WA} (h : SA G cs es w) {C : Calls} (ok : CallsOk G Φ.A.depth C) {Q : List VV → VS → Prop} {P : List Value → Shared → Prop} {pos : Pos} (S : SimX Φ W τ x s) (q : w C τ Q)
    (k : ∀ W' a τ' v s', W.le W' → VRepL G W' a v → SimX Φ W' τ' x s' → Q a τ' → P v s') : wpAny Φ.M Φ.A (spliced (backTo pos (starEach es Φ.env))) P (fun _ _ => False) s :=
  wpAny_mono (h.2 Φ C ok pos W τ x s Q S q) (fun v s' r => by cases r with | mk W' a τ' le r S q => exact k W' a τ' v s' le r S q) fun _ _ x => x
/-- A list just made by the library's rules. -/
theorem SimX.made (S : SimX Φ W τ x s) {P : Prop} (k : ∀ m news, Fr Φ.h₀ Φ.L s.heap m → News Φ.h₀ Φ.L s.heap news → (∀ h' q co t, Fr Φ.h₀ Φ.L h' m → News Φ.h₀ Φ.L h' ((q, co) :: news) → (∀ p ∈ news, p.1 < q) → SimX Φ W τ ((q, co) :: x) { s with heap := h', toks := t }) → P) : P := by
  obtain ⟨m, n1, n2, F, Nw, nd, H, C, L, cv, o, g⟩ := id S
  exact k m _ F Nw fun h' q co t F' N' lt => SimX.newN ⟨F, Nw, nd, H, C, L, cv, o, g⟩ F' N' lt
theorem S0_list {elts : List Expr} {pos : Pos} {w : WA} (h : SA G cs elts w) : S0 G cs (.List elts pos) (wList w) := fun Φ C ok W τ x s Q S q =>
  List_ (h.go (pos := pos) ok S q fun W1 as τ1 vs s1 le r S1 q1 => by
    obtain ⟨l, e, hz, q2⟩ := listW_ex q1
    have p := unP_rep e r
    refine S1.made fun m news F Nw k => newList_K F Nw (fun a h' F' N' lt => ?_) (by rw [p.length]; exact hz)
    exact .new W1 l τ1 a vs 0 le p (k h' a _ _ F' N' lt) q2)
/-- list + list. -/
noncomputable def catW (hp : List VO) (u v : VV) (Q : List PV → Prop) : Prop := ∃ l r, asL hp u = some l ∧ asL hp v = some r ∧ l.length + r.length ≤ sizeLine ∧ Q (l ++ r)
noncomputable abbrev wCat (a b : WE) : W0 := fun C τ Q => a C τ fun u τ1 => b C τ1 fun v τ2 => catW τ2.hp u v fun l => Q (.new l) τ2
theorem S0_cat {l r : Expr} {wl wr : WE} {pos : Pos} (hl : SE G cs l wl) (hr : SE G cs r wr) : S0 G cs (.BinOp l .Add r pos) (wCat wl wr) := fun Φ C ok W τ x s Q S q =>
  wpAny_BinOp (hl.go ok S q fun W1 u τ1 c s1 le1 r1 S1 q1 => hr.go ok S1 q1 fun W2 v τ2 d s2 le2 r2 S2 q2 => by
    obtain ⟨l, r, e1, e2, hz, q3⟩ := q2
    obtain ⟨a, vs, rfl, hl, p⟩ := S2.asL (r1.mono le2) e1
    obtain ⟨b, ws, rfl, hl', p'⟩ := S2.asL r2 e2
    refine S2.made fun m news F Nw k => add_lists F Nw hl hl' (fun h' F' N' => ?_) (by rw [p.length, p'.length]; exact hz)
    exact .new W2 (l ++ r) τ2 _ (vs ++ ws) 0 (le1.trans le2) (p.app p') (k h' _ _ _ F' N' (fun p hp => Heap.lt_size (Nw p hp).1)) q3)
/-- list * int, of a list just made. -/
noncomputable def repW (r : Rs) (v : VV) (Q : List PV → Prop) : Prop := match r, v with
  | .new l, .p (.int k) => (0 ≤ k ∧ l.length ≠ 0 ∧ (l.length : Int) * k ≤ 2 ^ 24) ∧ Q (List.replicate k.toNat l).flatten
  | _, _ => False
noncomputable abbrev wRep (a : W0) (b : WE) : W0 := fun C τ Q => a C τ fun u τ1 => b C τ1 fun v τ2 => repW u v fun l => Q (.new l) τ2
theorem flat_replicate {α : Type} (l : List α) : ∀ (n : Nat) (acc : Array α), (List.foldl (fun x1 x2 => x1 ++ x2) acc (List.replicate n l.toArray)).toList = acc.toList ++ (List.replicate n l).flatten := by
  intro n
  induction n with
  | zero => intro acc; simp
  | succ n ih =>
    intro acc
    rw [List.replicate_succ, List.foldl_cons, ih, List.replicate_succ, List.flatten_cons]
    simp
theorem S0_rep {l r : Expr} {wl : W0} {wr : WE} {pos : Pos} (hl : S0 G cs l wl) (hr : SE G cs r wr) : S0 G cs (.BinOp l .Mult r pos) (wRep wl wr) := fun Φ C ok W τ x s Q S q =>
  wpAny_BinOp (wpAny_mono (Q' := fun c s1 => wpAny Φ.M Φ.A (eval r Φ.env) (fun d s2 => wpAny Φ.M Φ.A (binaryOp .Mult c d) (R0 Φ W x Q) (fun _ _ => False) s2) (fun _ _ => False) s1) (hl Φ C ok W τ x s _ S q) (fun c s1 r0 => by
    cases r0 with
    | val W1 a τ1 le1 r1 S1 q1 => exact hr.go ok S1 q1 fun W2 v τ2 d s2 le2 r2 S2 q2 => q2.elim
    | new W1 l τ1 y vs n le1 p1 S1 q1 =>
      refine hr.go ok S1 q1 fun W2 v τ2 d s2 le2 r2 S2 q2 => ?_
      unfold repW at q2
      split at q2
      · rename_i l' k e1
        cases e1
        obtain ⟨t, rfl⟩ := r2.int
        obtain ⟨⟨b0, b1, b2⟩, q3⟩ := q2
        have p2 := p1.mono le2.FW
        have b3 : k ≤ 2 ^ 24 := by
          have : (1 : Int) ≤ (l.length : Int) := by (clear b0 b2; (exact qGa (qq1 [_] [1,0] 1 0x1402 1 0xa100822 qt (qP b1))))
          have := Int.mul_le_mul_of_nonneg_right this b0
          (clear b0 b1; lia)
        have hg : s2.heap.get? y = some (listOf vs.toArray n) := by
          obtain ⟨m, n1, n2, F, Nw, _⟩ := id S2
          exact (Nw (y, _) (by simp)).1
        refine S2.made fun m news F Nw kk => mul_list F Nw hg (by (clear b1 b2 b3 hg; lia)) (by (clear b0 b1 b2 hg; lia)) ?_ fun h' F' N' => ?_
        · have : ((vs.toArray.size * k.toNat : Nat) : Int) ≤ 2 ^ 24 := by
            simp only [List.size_toArray, p2.length, Int.natCast_mul, Int.toNat_of_nonneg b0]; exact b2
          (clear b0 b1 b2 b3 hg; (exact qq1 [_] [16777216] 1 0x45 1 0x45 qt (qIa this)))
        · have e2 : vs.toArray.isEmpty = false := by
            have := p2.length
            cases vs <;> simp at this ⊢
            (clear b0 b2 b3 hg; (exact qZ (qq2 [_] [1,0] 1 0x8802 1 0xa100822 1 0x445 qt (qP b1) (qF this))))
          have N2 := N'
          rw [e2] at N2
          have S3 := (kk h' _ _ s2.toks F' N' (fun p hp => Heap.lt_size (Nw p hp).1))
          rw [e2] at S3
          have e3 : (List.foldl (fun x1 x2 => x1 ++ x2) #[] (List.replicate k.toNat vs.toArray)) = (List.replicate k.toNat vs).flatten.toArray := by
            apply Array.toList_inj.mp
            rw [flat_replicate]; simp
          simp only [Bool.false_eq_true, if_false, e3] at S3
          have pr : ∀ n : Nat, PRepL (FW G W2) (List.replicate n l).flatten (List.replicate n vs).flatten := fun n => by
            induction n with
            | zero => exact .nil
            | succ n ih => rw [List.replicate_succ, List.replicate_succ, List.flatten_cons, List.flatten_cons]; exact p2.app ih
          have S4 := (S3.perm (List.Perm.swap _ _ _)).forget
          exact .new W2 _ τ2 _ _ 0 (le1.trans le2) (pr _) S4 q3
      · exact q2.elim) fun _ _ x => x)
end VE
namespace VE
variable {N : Nat → Str} {Z : Stc} {G : Gl N Z} {cs : Scope} {Φ : Cx G cs} {W : Wd} {τ : VS} {s : Shared} {x : List (Addr × Obj)}
noncomputable def memN (n : Nat) : List Nat → Bool
  | [] => false
  | k :: r => match Nat.beq n k with
    | true => true
    | false => memN n r
theorem memN_mem {n : Nat} : ∀ {l : List Nat}, memN n l = true → n ∈ l := by
  intro l
  induction l with
  | nil => intro h; cases h
  | cons k r ih =>
    intro h
    simp only [memN] at h
    cases e : Nat.beq n k with
    | true => rw [Nat.eq_of_beq_eq_true e]; exact .head _
    | false => rw [e] at h; exact .tail _ (ih h)
/-- A field read. -/
noncomputable def clsW (Z : Stc) (n k : Nat) (Q : VV → Prop) : Prop := match getN n Z.nums with
  | some i => Q (.p (.int i))
  | none => match getN n Z.fns with
    | some f => Q (.meth f k)
    | none => match getN n Z.tabs with
      | some l => Q (.p (.raw l))
      | none => False
noncomputable def attrW (Z : Stc) (hp : List VO) (n : Nat) (v : VV) (Q : VV → Prop) : Prop := match v with
  | .ref k => match hp[k]? with
    | some (.inst fs) => match getN n fs with
      | some z => gd (memN n Z.flds) (Q z)
      | none => clsW Z n k Q
    | _ => False
  | _ => False
/-- An object of the walk's behind a reference. -/
theorem SimX.instR (S : SimX Φ W τ x s) {k : Nat} {c : Value} {fs : List (Nat × VV)} (r : VRep G W (.ref k) c) (e : τ.hp[k]? = some (.inst fs)) : ∃ a d es n, c = .ref a ∧ W.rho[k]? = some (a, d) ∧ InstV Φ W τ x s k fs a d es n := by
  cases r with
  | @ref _ a d er =>
    obtain ⟨es, n, I⟩ := S.inst e er
    exact ⟨a, d, es, n, rfl, er, I⟩
theorem attrW_run {n : Nat} {v : VV} {c : Value} {Q : VV → Prop} {P : Value → Shared → Prop} (S : SimX Φ W τ x s) (r : VRep G W v c) (h : attrW Z τ.hp n v Q)
    (k : ∀ W' z e s', W.le W' → VRep G W' z e → SimX Φ W' τ x s' → Q z → P e s') : wpAny Φ.M Φ.A (getAttr c (N n) true) P (fun _ _ => False) s := by
  unfold attrW at h
  split at h
  · rename_i kk
    split at h
    · rename_i fs e
      obtain ⟨a, d, es, nn, rfl, er, I⟩ := S.instR r e
      obtain ⟨m, n1, n2, SSF, _⟩ := id S
      have fr := I.rep.2.2 n
      split at h
      · rename_i z ez
        rw [ez] at fr
        obtain ⟨c, hc, rc⟩ := fr
        have h := gd_ex h
        exact get_own SSF Φ.K I.inst G.SO.cls.get G.SO.cls.has (G.SO.fld n (memN_mem h.1)).find rfl hc rc.handed (k W z c _ (.refl W) rc (S.toks _) h.2)
      · rename_i ez
        rw [ez] at fr
        unfold clsW at h
        split at h
        · rename_i i ei
          obtain ⟨⟨t, h1, h2⟩, h3⟩ := G.SO.int n i ei
          exact get_cls SSF Φ.K I.inst G.SO.cls.get G.SO.cls.has h1 h2 rfl h3 fr (k W _ _ _ (.refl W) .of_int (S.toks _) h)
        · split at h
          · rename_i f ef
            obtain ⟨FO, fi⟩ := G.SO.fn n f (getN_mem ef)
            refine S.made fun m news F Nw kk' => kbm_bound F Φ.K Nw I.inst G.SO.cls.get G.SO.cls.has FO.find FO.fn FO.get FO.takes FO.copied fr fun q h' F' N' lt => ?_
            obtain ⟨W2, le2, hm, e2, S2⟩ := (kk' h' q _ (s.toks + 1) F' N' lt).freeze
            exact k W2 _ _ _ le2 (.meth fi (le2.at er) hm) S2 h
          · split at h
            · rename_i l el
              obtain ⟨a', o, ws, n', TO⟩ := G.SO.tab n l el
              exact get_cls SSF Φ.K I.inst G.SO.cls.get G.SO.cls.has TO.ref.find TO.ref.get rfl TO.ref.copied fr
                (k W _ _ _ (.refl W) (.p (.raw (.inr (G.KX _ _ TO.at_)) TO.cls TO.data (TO.rep.mono fun a o e => .inr (G.KX a o e)) .nil)) (S.toks _) h)
            · exact h.elim
    · exact h.elim
  · exact h.elim
noncomputable abbrev wAttr (Z : Stc) (n : Nat) (w : WE) : WE := fun C τ Q => w C τ fun v τ' => attrW Z τ'.hp n v fun z => Q z τ'
theorem SE_attr {e : Expr} {n : Nat} {t : Str} {pos : Pos} {w : WE} (h : SE G cs e w) (hn : N n = t) (he : ∀ env, eval (.Attribute e t pos) env = (do let o ← eval e env; standAt pos.atName; let r ← holding [o] (getAttr o t true); letTemporaryGo e o r; pure r)) :
    SE G cs (.Attribute e t pos) (wAttr Z n w) := fun Φ C ok W τ x s Q S q =>
  Attribute_any_ (h.go ok S q fun W1 v τ1 c s1 le r S1 q1 => by
    subst hn
    exact attrW_run S1 r q1 fun W2 z e s2 le2 r2 S2 q2 => ⟨W2, z, τ1, le.trans le2, r2, S2, q2⟩) (he _)
/-- What the oracle gives, taken as a value. -/
theorem CallsOk.wp {C : Calls} (ok : CallsOk G Φ.A.depth C) {f : Addr} {as : List VV} {vs : List Value} {Q : Rs → VS → Prop} (S : SimX Φ W τ x s) (r : VRepL G W as vs) (h : C f as τ.hp fun a hp => Q a ⟨τ.loc, hp⟩) :
    wpAny Φ.M Φ.A (call (.ref f) vs) (R0 Φ W x Q) (fun _ _ => False) s :=
  wpAny_call (codeAny_mono (ok cs Φ Φ.A Φ.hh Φ.un (by (exact qq0 [_] [3] 0x1008a5 qt)) W τ x s f as vs _ S r h) fun r' s' ⟨v, e, r0⟩ => by
    subst e
    cases r0 with
    | val W1 a τ1 l r1 S1 q1 => obtain ⟨e1, q1⟩ := q1; exact .val W1 a τ1 l r1 S1 (by rw [← e1] at q1; exact q1)
    | new W1 l τ1 q vs n l' r1 S1 q1 => obtain ⟨e1, q1⟩ := q1; exact .new W1 l τ1 q vs n l' r1 S1 (by rw [← e1] at q1; exact q1))
/-- A method of the class is called. -/
noncomputable def mcallW (Z : Stc) (hp : List VO) (n : Nat) (v : VV) (Q : Addr → Nat → Prop) : Prop := match v with
  | .ref k => match hp[k]? with
    | some (.inst fs) => match getN n fs, getN n Z.fns with
      | none, some f => Q f k
      | _, _ => False
    | _ => False
  | _ => False
theorem mcallW_ex {hp : List VO} {n : Nat} {v : VV} {Q : Addr → Nat → Prop} (h : mcallW Z hp n v Q) : ∃ k fs f, v = .ref k ∧ hp[k]? = some (.inst fs) ∧ getN n fs = none ∧ getN n Z.fns = some f ∧ Q f k := by
  unfold mcallW at h
  split at h
  · split at h
    · split at h
      · exact ⟨_, _, _, rfl, by assumption, by assumption, by assumption, h⟩
      · exact h.elim
    · exact h.elim
  · exact h.elim
noncomputable abbrev wMeth (Z : Stc) (n : Nat) (w : WE) (ws : WA) : W0 := fun C τ Q => w C τ fun v τ1 => mcallW Z τ1.hp n v fun f k => ws C τ1 fun vs τ2 => C f (.ref k :: vs) τ2.hp fun r hp => Q r ⟨τ2.loc, hp⟩
theorem evalArgs_of {M : Model} {A : Around} {E : Value → Shared → Prop} {f : Value} {args : List (Bool × Sem Value)} {Q : Args → Shared → Prop} (hp : args.any (·.1) = false) (h : wpAny M A (spliced args) (fun vs s' => Q ⟨vs, []⟩ s') E s) : wpAny M A (evalArgs f true args []) Q E s := by
  cases args with
  | nil =>
    unfold evalArgs
    show wpAny M A (spliced [] >>= _) Q E s
    refine wpAny_bind (wpAny_mono h (fun vs s' h' => wpAny_bind (wpAny_pure ?_)) fun _ _ x => x)
    refine wpAny_holding ?_
    exact wpAny_bind (wpAny_pure (wpAny_bind (wpAny_pure (wpAny_pure h'))))
  | cons p rest =>
    obtain ⟨b, y⟩ := p
    cases b with
    | true => cases hp
    | false => exact evalArgs_plain h
theorem back_any {pos : Pos} : ∀ l : List (Bool × Sem Value), (backTo pos l).any (·.1) = l.any (·.1) := fun l => by
  unfold backTo
  rw [List.any_map]; rfl
/-- The arguments, then the call. -/
theorem SA.run {es : List Expr} {ws : WA} (h : SA G cs es ws) {C : Calls} (ok : CallsOk G Φ.A.depth C) {Q : List VV → VS → Prop} {P : Value → Shared → Prop} {pos : Pos} {f : Value} {first : List Value} {H : Heap → Prop} (S : SimX Φ W τ x s) (q : ws C τ Q)
    (hk : ∀ h, H h → ∃ k, (k = Keeper.frame ∨ k = Keeper.machine ∨ k = Keeper.boundFrame) ∧ Looks Φ.M h (keeperOf f) k)
    (k : ∀ W' a τ' v s', W.le W' → VRepL G W' a v → SimX Φ W' τ' x s' → Q a τ' → H s'.heap ∧ wpAny Φ.M Φ.A (call f (first ++ v)) P (fun _ _ => False) s') :
    wpAny Φ.M Φ.A (callWith pos f first (backTo pos (starEach es Φ.env)) (backToKw pos (keywordEach [] Φ.env))) P (fun _ _ => False) s := by
  have hp : (backTo pos (starEach es Φ.env)).any (·.1) = false := by rw [back_any]; exact h.1 _
  exact callWith_of (P := H) (by rw [hp]; rfl) hk (evalArgs_of hp (h.go ok S q fun W' a τ' v s' le r S' q' => k W' a τ' v s' le r S' q'))
theorem S0_meth {o : Expr} {es : List Expr} {n : Nat} {t : Str} {apos pos : Pos} {w : WE} {ws : WA} (h : SE G cs o w) (h' : SA G cs es ws) (hn : N n = t)
    (hc : ∀ env, ∃ pl, eval (.Call (.Attribute o t apos) es [] pos) env = (do let ov ← eval o env; standAt apos.atName; let (f, first) ← holding [ov] (getMethod ov t pl); callWith pos f first (backTo pos (starEach es env)) (backToKw pos (keywordEach [] env)))) :
    S0 G cs (.Call (.Attribute o t apos) es [] pos) (wMeth Z n w ws) := fun Φ C ok W τ x s Q S q => by
  subst hn
  obtain ⟨pl, hc⟩ := hc Φ.env
  refine methodCall_KW (he := hc) (h.go ok S q fun W1 v τ1 c s1 le r S1 q1 => ?_)
  obtain ⟨k, fs, f, rfl, e, e1, e2, q2⟩ := mcallW_ex q1
  obtain ⟨a, d, es', nn, rfl, er, I⟩ := S1.instR r e
  obtain ⟨m, n1, n2, SSF, _⟩ := id S1
  have fr := I.rep.2.2 n
  rw [e1] at fr
  obtain ⟨FO, _⟩ := G.SO.fn n f (getN_mem e2)
  refine method_inst SSF Φ.K I.inst G.SO.cls.get FO.find FO.fn fr ?_
  exact h'.run ok S1 q2 (keeps_K FO.keep) fun W2 as τ2 vs s2 le2 r2 S2 q3 => ⟨S2.K, wpAny_mono (ok.wp S2 (.cons (.ref (le2.at er)) r2) q3) (fun _ _ y => y.up (le.trans le2)) fun _ _ x => x⟩
/-- A bound method that a name holds is called. -/
noncomputable def vcallW (v : VV) (Q : Addr → Nat → Prop) : Prop := match v with
  | .meth f k => Q f k
  | _ => False
noncomputable abbrev wVcall (w : WE) : W0 := fun C τ Q => w C τ fun v τ1 => vcallW v fun f k => C f [.ref k] τ1.hp fun r hp => Q r ⟨τ1.loc, hp⟩
end VE
namespace VE
variable {N : Nat → Str} {Z : Stc} {G : Gl N Z} {cs : Scope} {Φ : Cx G cs} {W : Wd} {τ : VS} {s : Shared} {x : List (Addr × Obj)}
theorem vcallW_ex {v : VV} {Q : Addr → Nat → Prop} (h : vcallW v Q) : ∃ f k, v = .meth f k ∧ Q f k := by
  cases v with
  | meth => exact ⟨_, _, rfl, h⟩
  | _ => exact h.elim
theorem S0_vcall {fn : Expr} {pos : Pos} {w : WE} (h : SE G cs fn w) (he : ∀ env, eval (.Call fn [] [] pos) env = (do callWith pos (← eval fn env) [] (backTo pos (starEach [] env)) (backToKw pos (keywordEach [] env)))) : S0 G cs (.Call fn [] [] pos) (wVcall w) := fun Φ C ok W τ x s Q S q =>
  Call_ (h.go ok S q fun W1 v τ1 c s1 le r S1 q1 => by
    obtain ⟨f, k, rfl, q2⟩ := vcallW_ex q1
    cases r with
    | @meth _ q _ a d hf er hm =>
      have hg := S1.FW (.inl hm)
      exact callWith_M0 ⟨hg, S1.K⟩ hf (wpAny_call (method_call hg (codeAny_mono (ok cs Φ Φ.A Φ.hh Φ.un (by (exact qq0 [_] [3] 0x1008a5 qt)) W1 τ1 x s1 f _ _ _ S1 (.cons (.ref er) .nil) q2) fun r' s' ⟨v, e, r0⟩ => by
        subst e
        cases r0 with
        | val W2 a τ2 l r1 S2 q1 => obtain ⟨e1, q1⟩ := q1; exact .val W2 a τ2 (le.trans l) r1 S2 (by rw [← e1] at q1; exact q1)
        | new W2 l τ2 q vs n l' r1 S2 q1 => obtain ⟨e1, q1⟩ := q1; exact .new W2 l τ2 q vs n (le.trans l') r1 S2 (by rw [← e1] at q1; exact q1)))) ) (he _)
/-- A function as a value is called. -/
noncomputable def fnV (Z : Stc) (v : VV) (Q : Addr → Prop) : Prop := match v with
  | .p (.fn f) => gd (Z.fns.any fun p => Nat.beq p.2 f) (Q f)
  | _ => False
theorem fnV_ex {v : VV} {Q : Addr → Prop} (h : fnV Z v Q) : ∃ f n, v = .p (.fn f) ∧ (n, f) ∈ Z.fns ∧ Q f := by
  cases v with
  | p a => cases a with
    | fn f =>
      obtain ⟨h1, h2⟩ := gd_ex h
      obtain ⟨p, hp, e⟩ := List.any_eq_true.mp h1
      obtain ⟨n, f'⟩ := p
      cases (Nat.eq_of_beq_eq_true e : f' = f)
      exact ⟨_, n, rfl, hp, h2⟩
    | _ => exact h.elim
  | _ => exact h.elim
noncomputable abbrev wFcall (Z : Stc) (w : WE) (ws : WA) : W0 := fun C τ Q => w C τ fun v τ1 => fnV Z v fun f => ws C τ1 fun vs τ2 => C f vs τ2.hp fun r hp => Q r ⟨τ2.loc, hp⟩
theorem S0_fcall {fn : Expr} {es : List Expr} {pos : Pos} {w : WE} {ws : WA} (h : SE G cs fn w) (h' : SA G cs es ws) (he : ∀ env, eval (.Call fn es [] pos) env = (do callWith pos (← eval fn env) [] (backTo pos (starEach es env)) (backToKw pos (keywordEach [] env)))) : S0 G cs (.Call fn es [] pos) (wFcall Z w ws) := fun Φ C ok W τ x s Q S q =>
  Call_ (h.go ok S q fun W1 v τ1 c s1 le r S1 q1 => by
    obtain ⟨f, n, rfl, hm, q2⟩ := fnV_ex q1
    cases r with
    | p r =>
      cases r with
      | fn a _ => exact h'.run (first := []) ok S1 q2 (keeps_K (G.SO.fn n f hm).1.keep) fun W2 as τ2 vs s2 le2 r2 S2 q3 => ⟨S2.K, wpAny_mono (ok.wp S2 r2 q3) (fun _ _ y => y.up (le.trans le2)) fun _ _ x => x⟩) (he _)
/-- A function of the text's is called by its name. -/
noncomputable abbrev wCall (f : Addr) (ws : WA) : W0 := fun C τ Q => ws C τ fun vs τ2 => C f vs τ2.hp fun r hp => Q r ⟨τ2.loc, hp⟩
theorem S0_call {t : Str} {p : Pos} {es : List Expr} {pos : Pos} {ws : WA} {f : Addr} (n : Nat) (hm : (n, f) ∈ Z.globs) (h' : SA G cs es ws) (hn : N n = t) (hk : cs.names.lookup t = some .globalImplicit)
    (he : ∀ env, eval (.Call (.Name t p) es [] pos) env = (do callWith pos (← eval (.Name t p) env) [] (backTo pos (starEach es env)) (backToKw pos (keywordEach [] env)))) : S0 G cs (.Call (.Name t p) es [] pos) (wCall f ws) := fun Φ C ok W τ x s Q S q => by
  subst hn
  obtain ⟨g1, g2⟩ := G.SO.glob n f hm
  refine Call_ (Calls.Name_function_global Φ.kind hk (Calls.loadGlobal_global (env := Φ.env) ((topRead_of Φ.T).g.keeps S.base) (mg_of Φ.K (topRead_of Φ.T).g g1) ?_) (G.hN.dbg n)) (he _)
  exact h'.run (first := []) ok S q (keeps_K g2) fun W2 as τ2 vs s2 le2 r2 S2 q3 => ⟨S2.K, wpAny_mono (ok.wp S2 r2 q3) (fun _ _ y => y.up le2) fun _ _ x => x⟩
/-- A built-in function is called by its name. -/
structure BiOk (N : Nat → Str) (Z : Stc) (cs : Scope) (t : Str) (v : Value) (n : Nat) : Prop where
  nm : N n = t
  bi : memN n Z.bis = true
  k : cs.names.lookup t = some .globalImplicit
  v : bootBuiltins t = some v
  ne : t ≠ "__name__"
theorem BiOk.load {t : Str} {p : Pos} {v : Value} {n : Nat} (b : BiOk N Z cs t v n) {P : Value → Shared → Prop} (S : SimX Φ W τ x s) (h : P v s) : wpAny Φ.M Φ.A (eval (.Name t p) Φ.env) P (fun _ _ => False) s := by
  obtain ⟨hn, hb, hk, hv, ne⟩ := b
  subst hn
  exact Calls.Name_function_global Φ.kind hk (Calls.loadGlobal_builtin (env := Φ.env) ((topRead_of Φ.T).g.keeps S.base) (mg_none_of Φ.K (topRead_of Φ.T).g (G.SO.bi n (memN_mem hb))) ((topRead_of Φ.T).b.keeps S.base) (((topRead_of Φ.T).builtins _ ne).trans hv) h) (G.hN.dbg n)
theorem SA.bcall {t : Str} {p : Pos} {es : List Expr} {pos : Pos} {ws : WA} {id : String} {n : Nat} (h' : SA G cs es ws) (b : BiOk N Z cs t (Value.builtin id) n)
    (he : ∀ env, eval (.Call (.Name t p) es [] pos) env = (do callWith pos (← eval (.Name t p) env) [] (backTo pos (starEach es env)) (backToKw pos (keywordEach [] env)))) {C : Calls} (ok : CallsOk G Φ.A.depth C) {Q : List VV → VS → Prop} {P : Value → Shared → Prop} (S : SimX Φ W τ x s) (q : ws C τ Q)
    (k : ∀ W' a τ' v s', W.le W' → VRepL G W' a v → SimX Φ W' τ' x s' → Q a τ' → wpAny Φ.M Φ.A (call (.builtin id) v) P (fun _ _ => False) s') : wpAny Φ.M Φ.A (eval (.Call (.Name t p) es [] pos) Φ.env) P (fun _ _ => False) s := by
  refine Call_ (b.load S ?_) (he _)
  have hp : (backTo pos (starEach es Φ.env)).any (·.1) = false := by rw [back_any]; exact h'.1 _
  exact callWith_builtin (first := []) hp (evalArgs_of hp (h'.go ok S q fun W' a τ' v s' le r S' q' => k W' a τ' v s' le r S' q'))
theorem VRepL.one {v : VV} {cs : List Value} (r : VRepL G W [v] cs) : ∃ c, cs = [c] ∧ VRep G W v c := by
  cases r with
  | cons a b => cases b; exact ⟨_, rfl, a⟩
theorem VRepL.two {u v : VV} {cs : List Value} (r : VRepL G W [u, v] cs) : ∃ c d, cs = [c, d] ∧ VRep G W u c ∧ VRep G W v d := by
  cases r with
  | cons a b => obtain ⟨d, rfl, rd⟩ := b.one; exact ⟨_, d, rfl, a, rd⟩
noncomputable def lenW (hp : List VO) (vs : List VV) (Q : VV → Prop) : Prop := oneW vs fun v => ∃ l, asL hp v = some l ∧ (l.length : Int) < 2 ^ 63 ∧ Q (.p (.int l.length))
noncomputable abbrev wLen (ws : WA) : WE := fun C τ Q => ws C τ fun vs τ' => lenW τ'.hp vs fun z => Q z τ'
theorem SE_len {t : Str} {p : Pos} {es : List Expr} {pos : Pos} {ws : WA} (n : Nat) (h' : SA G cs es ws) (b : BiOk N Z cs t (Value.builtin "len") n)
    (he : ∀ env, eval (.Call (.Name t p) es [] pos) env = (do callWith pos (← eval (.Name t p) env) [] (backTo pos (starEach es env)) (backToKw pos (keywordEach [] env)))) : SE G cs (.Call (.Name t p) es [] pos) (wLen ws) := fun Φ C ok W τ x s Q S q =>
  h'.bcall b he ok S q fun W1 as τ1 vs s1 le r S1 q1 => by
    obtain ⟨v, rfl, l, e, hz, q2⟩ := oneW_ex q1
    obtain ⟨c, rfl, rc⟩ := r.one
    obtain ⟨a, vs, rfl, hl, p⟩ := S1.asL rc e
    have e2 : vs.toArray.size = l.length := by rw [List.size_toArray, p.length]
    exact len_list hl (by rw [e2]; exact hz) ⟨W1, _, τ1, le, .of_int, S1.toks _, by rw [e2]; exact q2⟩
noncomputable def sumW (hp : List VO) (vs : List VV) (Q : VV → Prop) : Prop := match vs with
  | [v] => ∃ l : List Int, asL hp v = some (l.map .int) ∧ Q (.p (.int l.sum))
  | _ => False
noncomputable abbrev wSum (ws : WA) : WE := fun C τ Q => ws C τ fun vs τ' => sumW τ'.hp vs fun z => Q z τ'
/-- The library's frames as the walk's. -/
theorem SimX.fr (S : SimX Φ W τ x s) {P : Prop} (k : ∀ m news, Fr Φ.h₀ Φ.L s.heap m → News Φ.h₀ Φ.L s.heap news → (∀ h' t, Fr Φ.h₀ Φ.L h' m → News Φ.h₀ Φ.L h' news → SimX Φ W τ x { s with heap := h', toks := t }) → P) : P := by
  obtain ⟨m, n1, n2, F, Nw, nd, H, C, L, cv, o, g⟩ := id S
  exact k m _ F Nw fun h' t F' N' => ⟨m, n1, n2, F', N', nd, H, C, L, cv, o, g⟩
theorem SE_sum {t : Str} {p : Pos} {es : List Expr} {pos : Pos} {ws : WA} (n : Nat) (h' : SA G cs es ws) (b : BiOk N Z cs t (Value.builtin "sum") n)
    (he : ∀ env, eval (.Call (.Name t p) es [] pos) env = (do callWith pos (← eval (.Name t p) env) [] (backTo pos (starEach es env)) (backToKw pos (keywordEach [] env)))) : SE G cs (.Call (.Name t p) es [] pos) (wSum ws) := fun Φ C ok W τ x s Q S q =>
  h'.bcall b he ok S q fun W1 as τ1 vs s1 le r S1 q1 => by
    unfold sumW at q1
    split at q1
    · obtain ⟨l, e, q2⟩ := q1
      obtain ⟨c, rfl, rc⟩ := r.one
      obtain ⟨a, vs, rfl, hl, p⟩ := S1.asL rc e
      exact S1.fr fun m news F Nw k => sumK Φ.hh F Nw hl p.ints fun h' tk t' F' N' => ⟨W1, _, τ1, le, .of_int, k _ _ F' N', q2⟩
    · exact q1.elim
noncomputable def minW (vs : List VV) (Q : VV → Prop) : Prop := twoW vs fun u v => intsW u v fun i j => Q (.p (.int (if j < i then j else i)))
noncomputable abbrev wMin (ws : WA) : WE := fun C τ Q => ws C τ fun vs τ' => minW vs fun z => Q z τ'
theorem SE_min {t : Str} {p : Pos} {es : List Expr} {pos : Pos} {ws : WA} (n : Nat) (h' : SA G cs es ws) (b : BiOk N Z cs t (Value.builtin "min") n)
    (he : ∀ env, eval (.Call (.Name t p) es [] pos) env = (do callWith pos (← eval (.Name t p) env) [] (backTo pos (starEach es env)) (backToKw pos (keywordEach [] env)))) : SE G cs (.Call (.Name t p) es [] pos) (wMin ws) := fun Φ C ok W τ x s Q S q =>
  h'.bcall b he ok S q fun W1 as τ1 vs s1 le r S1 q1 => by
    obtain ⟨u, v, rfl, q1⟩ := twoW_ex q1
    obtain ⟨c, d, rfl, rc, rd⟩ := r.two
    obtain ⟨i, j, t, t', rfl, rfl, q1⟩ := intsW_ex rc rd q1
    exact S1.fr fun m news F Nw k => min_two_N Φ.hh F Nw fun h' tk F' N' => ⟨W1, _, τ1, le, .of_int, k _ _ F' N', q1⟩
/-- append, extend and pop of a list of the walk's. -/
noncomputable def ownL (hp : List VO) (v : VV) (Q : Nat → List PV → Prop) : Prop := match v with
  | .ref k => match hp[k]? with
    | some (.list l) => Q k l
    | _ => False
  | _ => False
theorem ownL_ex {hp : List VO} {v : VV} {Q : Nat → List PV → Prop} (h : ownL hp v Q) : ∃ k l, v = .ref k ∧ hp[k]? = some (.list l) ∧ Q k l := by
  cases v with
  | ref k =>
    change (match hp[k]? with | some (.list l) => Q k l | _ => False) at h
    cases e : hp[k]? with
    | none => rw [e] at h; exact h.elim
    | some o =>
      rw [e] at h
      cases o with
      | list l => exact ⟨_, _, rfl, e, h⟩
      | inst => exact h.elim
  | _ => exact h.elim
end VE
namespace VE
variable {N : Nat → Str} {Z : Stc} {G : Gl N Z} {cs : Scope} {Φ : Cx G cs} {W : Wd} {τ : VS} {s : Shared} {x : List (Addr × Obj)}
theorem CR.other {loc : List (Nat × VV)} {n : Nat} {v : VV} : ∀ {l ns}, CR G W loc l ns → n ∉ l.map (·.1) → CR G W (putN n v loc) l ns := by
  intro l ns h
  induction h with
  | nil => intro _; exact .nil
  | @cons k c o x cs ns e f r ih =>
    intro hm
    rw [List.map_cons, List.mem_cons, not_or] at hm
    refine .cons e (fun u hu => ?_) (ih hm.2)
    rw [getN_putN, if_neg (Ne.symm hm.1)] at hu
    exact f u hu
theorem CR.put {loc : List (Nat × VV)} {n : Nat} {v : VV} {u : Value} (rv : VRep G W v u) : ∀ {l ns}, CR G W loc l ns → (l.map (·.1)).Nodup → n ∈ l.map (·.1) → ∃ c o pre post, (n, c) ∈ l ∧ (∃ y, o.data = .cell y) ∧ ns = pre ++ (c, o) :: post ∧ ∀ o', o'.data = .cell (some u) → CR G W (putN n v loc) l (pre ++ (c, o') :: post) := by
  intro l ns h
  induction h with
  | nil => intro _ hm; cases hm
  | @cons k c o x cs ns e f r ih =>
    intro nd hm
    rw [List.map_cons, List.nodup_cons] at nd
    by_cases hk : n = k
    · subst hk
      refine ⟨c, o, [], ns, .head _, ⟨x, e⟩, rfl, fun o' e' => .cons e' (fun w hw => ?_) (r.other nd.1)⟩
      rw [getN_putN, if_pos rfl] at hw
      cases hw
      exact ⟨u, rfl, rv⟩
    · obtain ⟨c', o', pre, post, h1, h2, h3, h4⟩ := ih nd.2 (by
        rcases List.mem_cons.mp hm with q | q
        · exact absurd q hk
        · exact q)
      subst h3
      refine ⟨c', o', (c, o) :: pre, post, .tail _ h1, h2, rfl, fun o'' e' => .cons e (fun w hw => ?_) (h4 o'' e')⟩
      rw [getN_putN, if_neg (Ne.symm hk)] at hw
      exact f w hw
/-- A name is stored. -/
theorem SimX.store (S : SimX Φ W τ x s) {n : Nat} {v : VV} {c : Value} (r : VRep G W v c) (hl : cs.names.lookup (N n) = some .local ∨ cs.names.lookup (N n) = some .cell ∧ cs.names.lookup (N Z.topn) = some .local) {P : Unit → Shared → Prop} (k : ∀ s', SimX Φ W ⟨putN n v τ.loc, τ.hp⟩ x s' → P () s') :
    wpAny Φ.M Φ.A (storeName Φ.env (N n) c) P (fun _ _ => False) s := by
  obtain ⟨m, n1, n2, F, Nw, nd, H, C, L, cv, o, g⟩ := id S
  rcases hl with hl | ⟨hl, ht⟩
  · have nc : n ∉ Φ.cv.map (·.1) := fun hm => by
      obtain ⟨⟨n', a⟩, hp, e⟩ := List.mem_map.mp hm
      have e : n' = n := e
      subst e
      rcases (cv _ a hp).1 with q | q <;> rw [hl] at q <;> cases q
    refine wpAny_storeName_local hl F.ns (fun h' hn hs => k _ ⟨_, n1, n2, F.set hn hs, Nw.set hs, nd, H, C.other nc, fun j u e => ?_, cv, o, g⟩)
      (by show (cs.kind == .class || (cs.kind == .module && Φ.L != mainGlobals)) = false; rw [Φ.kind]; rfl)
    rw [getN_putN] at e
    by_cases hj : j = n
    · subst hj
      rw [if_pos rfl] at e
      cases e
      exact .loc c hl (by simp) r
    · rw [if_neg hj] at e
      cases L j u e with
      | loc d a b rd =>
        refine .loc d a ?_ rd
        show (if N j = N n then some c else m (N j)) = some d
        rw [if_neg (fun z => hj (G.hN.inj _ _ z))]
        exact b
      | cell a => exact .cell a
      | fix c u a b d r => exact .fix c u a b d r
      | froz c o u a b d e r => exact .froz c o u a b d e r
  · have hm := Φ.cvin ht n hl
    obtain ⟨a, co, pre, post, h1, ⟨y, hy⟩, rfl, h4⟩ := C.put r Φ.cvnd hm
    obtain ⟨_, hc⟩ := cv n a h1
    have Nw' : News Φ.h₀ Φ.L s.heap ((x ++ n1 ++ pre) ++ (a, co) :: (post ++ W.fro)) := by simpa using Nw
    have nd' : (((x ++ n1 ++ pre) ++ (a, co) :: (post ++ W.fro)).map (·.1)).Nodup := by simpa using nd
    have hg := (Nw' (a, co) (by simp)).1
    refine wpAny_storeName_cell Φ.kind hl hc ⟨co, hg, hy⟩ fun h' ⟨co', hg', hd'⟩ sb => k _ ?_
    obtain ⟨F2, N2⟩ := changed F Nw' (updOf (o' := co') nd') hg' sb
    refine ⟨m, n1, pre ++ (a, co') :: post, F2, by simpa using N2, by simpa using nd', H, h4 co' hd', fun j u e => ?_, cv, o, g⟩
    rw [getN_putN] at e
    by_cases hj : j = n
    · subst hj; exact .cell hm
    · rw [if_neg hj] at e; exact L j u e
inductive Fl where
  | next | brk | cont
  | ret (v : VV)
inductive FRel (G : Gl N Z) (W : Wd) : Fl → Flow → Prop
  | next : FRel G W .next .next
  | brk : FRel G W .brk .brk
  | cont : FRel G W .cont .cont
  | ret {v : VV} {c : Value} : VRep G W v c → FRel G W (.ret v) (.ret c)
noncomputable abbrev WX := Calls → VS → (Fl → VS → Prop) → Prop
inductive RF (Φ : Cx G cs) (W : Wd) (x : List (Addr × Obj)) (Q : Fl → VS → Prop) (f : Flow) (s : Shared) : Prop where
  | mk (W' : Wd) (a : Fl) (τ : VS) (le : W.le W') (r : FRel G W' a f) (S : SimX Φ W' τ x s) (q : Q a τ)
theorem RF.up {W' : Wd} {Q : Fl → VS → Prop} {f : Flow} {s : Shared} (le : W.le W') (h : RF Φ W' x Q f s) : RF Φ W x Q f s := by cases h with | mk W1 a τ l r S q => exact ⟨W1, a, τ, le.trans l, r, S, q⟩
noncomputable def SX (G : Gl N Z) (cs : Scope) (st : Stmt) (w : WX) : Prop := ∀ (Φ : Cx G cs) C, CallsOk G Φ.A.depth C → ∀ W τ x s Q, SimX Φ W τ x s → w C τ Q → wpAny Φ.M Φ.A (exec st Φ.env) (RF Φ W x Q) (fun _ _ => False) s
noncomputable def SB (G : Gl N Z) (cs : Scope) (ss : List Stmt) (w : WX) : Prop := ∀ (Φ : Cx G cs) C, CallsOk G Φ.A.depth C → ∀ W τ x s Q, SimX Φ W τ x s → w C τ Q → wpAny Φ.M Φ.A (execs ss Φ.env) (RF Φ W x Q) (fun _ _ => False) s
noncomputable abbrev wNil : WX := fun _ τ Q => Q .next τ
theorem SB_nil : SB G cs [] wNil := fun Φ C ok W τ x s Q S q => wpAny_execs_nil ⟨W, .next, τ, .refl W, .next, S, q⟩
noncomputable abbrev thenF (f : Fl) (p : Prop) (q : Prop) : Prop := match f with
  | .next => p
  | _ => q
noncomputable abbrev wSeq (a b : WX) : WX := fun C τ Q => a C τ fun f τ' => thenF f (b C τ' Q) (Q f τ')
theorem SB_cons {st : Stmt} {rest : List Stmt} {a b : WX} (h : SX G cs st a) (h' : SB G cs rest b) : SB G cs (st :: rest) (wSeq a b) := fun Φ C ok W τ x s Q S q =>
  wpAny_execs_cons (wpAny_mono (h Φ C ok W τ x s _ S q) (fun f s' r => by
    cases r with
    | mk W1 a τ1 le r S1 q1 =>
      cases r with
      | next => exact wpAny_mono (h' Φ C ok W1 τ1 x s' Q S1 q1) (fun _ _ y => y.up le) fun _ _ y => y
      | brk => exact ⟨W1, .brk, τ1, le, .brk, S1, q1⟩
      | cont => exact ⟨W1, .cont, τ1, le, .cont, S1, q1⟩
      | ret rv => exact ⟨W1, _, τ1, le, .ret rv, S1, q1⟩) fun _ _ y => y)
theorem interactive_no : interactive Φ.env = false := by
  unfold interactive
  show (cs.kind == .module && _) = false
  rw [Φ.kind]; rfl
/-- What is never come to. -/
noncomputable abbrev wDead : WX := fun _ _ _ => False
theorem SB_dead {ss : List Stmt} : SB G cs ss wDead := fun Φ C ok W τ x s Q S q => q.elim
noncomputable abbrev wPass : WX := fun _ τ Q => Q .next τ
theorem SX_pass {pos : Pos} : SX G cs (.Pass pos) wPass := fun Φ C ok W τ x s Q S q => wpAny_Pass ⟨W, .next, τ, .refl W, .next, S, q⟩
noncomputable abbrev wBrk : WX := fun _ τ Q => Q .brk τ
theorem SX_brk {pos : Pos} : SX G cs (.Break pos) wBrk := fun Φ C ok W τ x s Q S q => wpAny_Break ⟨W, .brk, τ, .refl W, .brk, S, q⟩
noncomputable abbrev wExpr (w : WE) : WX := fun C τ Q => w C τ fun _ τ' => Q .next τ'
theorem SX_expr {e : Expr} {pos : Pos} {w : WE} (h : SE G cs e w) (hs : ∀ env, swapsWith e none pos.line env = pure false) : SX G cs (.Expr e pos) (wExpr w) := fun Φ C ok W τ x s Q S q =>
  wpAny_Expr_any (h.go ok S q fun W1 v τ1 c s1 le r S1 q1 => ⟨W1, .next, τ1, le, .next, S1, q1⟩) interactive_no (hs _)
noncomputable abbrev wRet (w : WE) : WX := fun C τ Q => w C τ fun v τ' => Q (.ret v) τ'
theorem SX_ret {e : Expr} {pos : Pos} {w : WE} (h : SE G cs e w) : SX G cs (.Return (some e) pos) (wRet w) := fun Φ C ok W τ x s Q S q =>
  wpAny_Return_some (h.go ok S q fun W1 v τ1 c s1 le r S1 q1 => ⟨W1, .ret v, τ1, le, .ret r, S1, q1⟩)
noncomputable abbrev wRet0 : WX := fun _ τ Q => Q (.ret (.p .none)) τ
theorem SX_ret0 {pos : Pos} : SX G cs (.Return none pos) wRet0 := fun Φ C ok W τ x s Q S q => wpAny_Return_none ⟨W, .ret (.p .none), τ, .refl W, .ret (.p (.none .nil)), S, q⟩
noncomputable abbrev wIf (t : WT) (a b : WX) : WX := fun C τ Q => t C τ fun c τ' => brW c (a C τ' Q) (b C τ' Q)
theorem SX_if {test : Expr} {body orelse : List Stmt} {pos : Pos} {t : WT} {a b : WX} (ht : ST G cs test t) (ha : SB G cs body a) (hb : SB G cs orelse b) : SX G cs (.If test body orelse pos) (wIf t a b) := fun Φ C ok W τ x s Q S q =>
  wpAny_If (ht.go ok S q fun W1 c τ1 s1 le S1 q1 => by
    cases c with
    | true => rw [if_pos rfl]; exact wpAny_mono (ha Φ C ok _ _ _ _ _ S1 q1) (fun _ _ r => r.up le) fun _ _ x => x
    | false => rw [if_neg (by decide)]; exact wpAny_mono (hb Φ C ok _ _ _ _ _ S1 q1) (fun _ _ r => r.up le) fun _ _ x => x)
/-- x = e. -/
noncomputable def kindOk (N : Nat → Str) (Z : Stc) (cs : Scope) (n : Nat) : Prop := cs.names.lookup (N n) = some .local ∨ cs.names.lookup (N n) = some .cell ∧ cs.names.lookup (N Z.topn) = some .local
noncomputable abbrev wAsg (n : Nat) (w : WE) : WX := fun C τ Q => w C τ fun v τ' => Q .next ⟨putN n v τ'.loc, τ'.hp⟩
theorem SX_asg {n : Nat} {t : Str} {np pos : Pos} {value : Expr} {w : WE} (h : SE G cs value w) (hn : N n = t) (hl : kindOk N Z cs n) (hs : ∀ Φ : Cx G cs, swapsWith value (some (.Name t np)) pos.line Φ.env = pure false) : SX G cs (.Assign [.Name t np] value pos) (wAsg n w) := fun Φ C ok W τ x s Q S q => by
  subst hn
  exact wpAny_Assign_Name (h.go ok S q fun W1 v τ1 c s1 le r S1 q1 => S1.store r hl fun s2 S2 => ⟨W1, .next, _, le, .next, S2, q1⟩) (hs Φ)
/-- x = a list just made, which becomes one of the walk's objects. -/
noncomputable def ownW (r : Rs) (hp : List VO) (Q : VV → List VO → Prop) : Prop := match r with
  | .new l => Q (.ref hp.length) (hp ++ [.list l])
  | .val _ => False
noncomputable abbrev wOwn (n : Nat) (w : W0) : WX := fun C τ Q => w C τ fun r τ' => ownW r τ'.hp fun v hp => Q .next ⟨putN n v τ'.loc, hp⟩
theorem SX_own {n : Nat} {t : Str} {np pos : Pos} {value : Expr} {w : W0} (h : S0 G cs value w) (hn : N n = t) (hl : kindOk N Z cs n) (hs : ∀ Φ : Cx G cs, swapsWith value (some (.Name t np)) pos.line Φ.env = pure false) : SX G cs (.Assign [.Name t np] value pos) (wOwn n w) := fun Φ C ok W τ x s Q S q => by
  subst hn
  refine wpAny_Assign_Name (wpAny_mono (h Φ C ok W τ x s _ S q) (fun c s1 r0 => ?_) fun _ _ y => y) (hs Φ)
  cases r0 with
  | val W1 a τ1 le r S1 q1 => exact q1.elim
  | new W1 l τ1 q vs k le r S1 q1 =>
    obtain ⟨W2, le2, e2, S2⟩ := S1.own r
    exact S2.store (.ref e2) hl fun s2 S3 => ⟨W2, .next, _, le.trans le2, .next, S3, q1⟩
end VE
namespace VE
variable {N : Nat → Str} {Z : Stc} {G : Gl N Z} {cs : Scope} {Φ : Cx G cs} {W : Wd} {τ : VS} {s : Shared} {x : List (Addr × Obj)}
theorem putL_length (name : Str) (hsh : Int) (key v : Value) : ∀ es : List DictEntry, (putL name hsh key v es).length = if es.any (·.key.isStr name) then es.length else es.length + 1 := by
  intro es
  induction es with
  | nil => rfl
  | cons e r ih =>
    simp only [putL, List.any_cons]
    by_cases h : e.key.isStr name = true
    · simp [h]
    · simp only [h, if_false, List.length_cons, Bool.false_or, ih, Bool.false_eq_true]; split <;> rfl
theorem putL_refKey (name : Str) (hsh : Int) (key v : Value) (hk : (⟨hsh, key, v⟩ : DictEntry).refKey = false) : ∀ es : List DictEntry, es.any (·.refKey) = false → (putL name hsh key v es).any (·.refKey) = false := by
  intro es
  induction es with
  | nil => intro _; simp [putL, hk]
  | cons e r ih =>
    intro h
    rw [List.any_cons, Bool.or_eq_false_iff] at h
    simp only [putL]
    split
    · rw [List.any_cons, Bool.or_eq_false_iff]; exact ⟨h.1, h.2⟩
    · rw [List.any_cons, Bool.or_eq_false_iff]; exact ⟨h.1, ih h.2⟩
theorem putL_find_self (name : Str) (hsh : Int) (key v : Value) (hk : key.isStr name = true) : ∀ es : List DictEntry, ((putL name hsh key v es).find? (·.key.isStr name)).map (·.val) = some v := by
  intro es
  induction es with
  | nil => simp [putL, hk]
  | cons e r ih =>
    simp only [putL]
    split
    · rename_i h; simp [h]
    · rename_i h; simp only [List.find?_cons]; simp only [Bool.not_eq_true] at h; rw [h]; exact ih
theorem putL_find_other (name name' : Str) (hsh : Int) (key v : Value) (hk : key.isStr name' = false) (hn : ∀ k : Value, k.isStr name = true → k.isStr name' = false) : ∀ es : List DictEntry, ((putL name hsh key v es).find? (·.key.isStr name')).map (·.val) = (es.find? (·.key.isStr name')).map (·.val) := by
  intro es
  induction es with
  | nil => simp [putL, hk]
  | cons e r ih =>
    simp only [putL]
    split
    · rename_i h; simp only [List.find?_cons, hn _ h]
    · simp only [List.find?_cons]
      split
      · rfl
      · exact ih
theorem getL_of (name : Str) (es : List DictEntry) (h : es.any (·.refKey) = false) : getL name es = some ((es.find? (·.key.isStr name)).map (·.val)) := by
  unfold getL
  cases hf : es.find? (·.key.isStr name) with
  | none => simp [h]
  | some e => rfl
theorem isStr_str (a b : Str) (t : Tok) : (Value.str a t).isStr b = (a == b) := rfl
theorem isStr_ne {a b : Str} (h : a ≠ b) : ∀ k : Value, k.isStr a = true → k.isStr b = false := fun k hk => by
  cases k <;> first | (cases hk; done) | skip
  rename_i x t
  rw [isStr_str] at hk ⊢
  have := beq_iff_eq.mp hk
  subst this
  exact beq_eq_false_iff_ne.mpr h
theorem FRep.put (hN : ∀ i j, N i = N j → i = j) {fs : List (Nat × VV)} {es : List DictEntry} (h : FRep G W fs es) (n : Nat) (a : VV) {v : Value} (hr : VRep G W a v) (hsh : Int) (t : Tok) :
    FRep G W (putN n a fs) (putL (N n) hsh (.str (N n) t) v es) := by
  obtain ⟨hl, hk, hg⟩ := h
  have hk' := putL_refKey (N n) hsh (.str (N n) t) v rfl es hk
  refine ⟨?_, hk', fun k => ?_⟩
  · rw [putL_length, putN_length, hl]
    have := hg n
    rw [getL_of _ _ hk] at this
    cases hq : getN n fs with
    | none =>
      rw [hq] at this
      have e : es.find? (·.key.isStr (N n)) = none := by simpa using this
      have : es.any (·.key.isStr (N n)) = false := by
        rw [← Bool.not_eq_true, List.any_eq_true]
        rintro ⟨x, hx, q⟩
        exact absurd q (by simpa using List.find?_eq_none.mp e x hx)
      rw [this]; rfl
    | some u =>
      rw [hq] at this
      obtain ⟨c, e, _⟩ := this
      have e : (es.find? (·.key.isStr (N n))).map (·.val) = some c := by simpa using e
      obtain ⟨x, hx, _⟩ := Option.map_eq_some_iff.mp e
      have : es.any (·.key.isStr (N n)) = true := List.any_eq_true.mpr ⟨x, List.mem_of_find?_eq_some hx, by simpa using List.find?_some hx⟩
      rw [this]; rfl
  · rw [getN_putN, getL_of _ _ hk']
    by_cases e : k = n
    · subst e
      rw [if_pos rfl, putL_find_self _ _ _ _ (by rw [isStr_str]; exact beq_self_eq_true _)]
      exact ⟨v, rfl, hr⟩
    · rw [if_neg e]
      have ne : N n ≠ N k := fun q => e (hN _ _ q).symm
      rw [putL_find_other _ _ _ _ _ (isStr_ne ne _ (by rw [isStr_str]; exact beq_self_eq_true _)) (isStr_ne ne)]
      have := hg k
      rw [getL_of _ _ hk] at this
      exact this
/-- A field is stored. -/
noncomputable def instW (hp : List VO) (v : VV) (Q : Nat → List (Nat × VV) → Prop) : Prop := match v with
  | .ref k => match hp[k]? with
    | some o => match o with
      | .inst fs => Q k fs
      | _ => False
    | none => False
  | _ => False
theorem instW_ex {hp : List VO} {v : VV} {Q : Nat → List (Nat × VV) → Prop} (h : instW hp v Q) : ∃ k l, v = .ref k ∧ hp[k]? = some (.inst l) ∧ Q k l := by
  cases v with
  | ref k =>
    change (match hp[k]? with | some o => (match o with | .inst l => Q k l | _ => False) | none => False) at h
    cases e : hp[k]? with
    | none => rw [e] at h; exact h.elim
    | some o =>
      rw [e] at h
      cases o with
      | inst l => exact ⟨_, _, rfl, e, h⟩
      | list => exact h.elim
  | _ => exact h.elim
noncomputable def setAW (Z : Stc) (hp : List VO) (n : Nat) (u v : VV) (Q : List VO → Prop) : Prop := instW hp u fun k fs => gd (memN n Z.flds && Nat.ble fs.length 900) (Q (hp.set k (.inst (putN n v fs))))
theorem setAW_run {n : Nat} {u v : VV} {c d : Value} {Q : List VO → Prop} {P : Unit → Shared → Prop} (S : SimX Φ W τ x s) (ru : VRep G W u c) (rv : VRep G W v d) (h : setAW Z τ.hp n u v Q) (k : ∀ hp s', SimX Φ W ⟨τ.loc, hp⟩ x s' → Q hp → P () s') :
    wpAny Φ.M Φ.A (setAttr c (N n) d) P (fun _ _ => False) s := by
  obtain ⟨kk, fs, rfl, e, h⟩ := instW_ex h
  · · obtain ⟨a, dd, es, nn, rfl, er, I⟩ := S.instR ru e
      obtain ⟨h1, h2⟩ := gd_ex h
      obtain ⟨h0, h1⟩ := Bool.and_eq_true_iff.mp h1
      have h1 := Nat.le_of_ble_eq_true h1
      have FO := G.SO.fld n (memN_mem h0)
      have P := I.rep.put G.hN.inj n v rv (PyData.keyHash G.w.params (N n)) (s.toks + 1)
      obtain ⟨m, news, news', F, Nw, U, up⟩ := I.updU (VE.putN n v fs) _ (PySem.W.putN (N n) es nn) P
      refine PySem.W.set_dict F Φ.K Nw I.inst rfl G.SO.cls.set G.SO.cls.over FO.taker G.SO.cls.has (by rw [getL_of _ _ I.rep.2.1]; rfl) rfl U ?_ fun h' F' N' => k _ _ (up h' (s.toks + 2) F' N') h2
      rw [P.1, putN_length]
      split <;> (clear e er h0; omega)
/-- An item is stored. -/
noncomputable def setIW (hp : List VO) (u i v : VV) (Q : List VO → Prop) : Prop := inV i fun j => pvV v fun z => ownL hp u fun k l => (0 ≤ j ∧ j < l.length ∧ j < 2 ^ 63) ∧ Q (hp.set k (.list (l.set j.toNat z)))
theorem setItem_at {prog : Program} {w : World} {A : Around} {E : Value → Shared → Prop} {l : Addr} {its : Array Value} {n : Nat} {k : Int} {t : Tok} {v : Value} {Q : Unit → Shared → Prop} (ho : s.heap.get? l = some (listOf its n)) (h0 : 0 ≤ k) (hhi : k < 2 ^ 63) (hj : k.toNat < its.size)
    (h : ∀ h', Heap.SameBut l s.heap h' → h'.get? l = some (listOf (its.setIfInBounds k.toNat v) n) → Q () { s with heap := h' }) :
    wpAny (model prog w) A (setItem (.ref l) (.int k t) v) Q E s := by
  have hT : s.TypeIs (.ref l) "list" := ⟨_, ho, rfl⟩
  have hx : its[k.toNat]? = some its[k.toNat] := Array.getElem?_eq_getElem hj
  have fin : (s.heap.update l (Obj.mapSeq (·.setIfInBounds k.toNat v))).get? l = some (listOf (its.setIfInBounds k.toNat v) n) := by
    have e : Obj.mapSeq (·.setIfInBounds k.toNat v) (listOf its n) = listOf (its.setIfInBounds k.toNat v) n := by simp [Obj.mapSeq, PySem.W.listOf]
    rw [Heap.get?_update_self _ ho (by rw [e]; rfl), e]
  unfold setItem
  try with_reducible refine wpAny_holding ?_
  first | refine wpAny_bind (wpAny_pure ?_) | skip
  refine wpAny_bind (wpAny_sequenceKey hT (by decide) ?_)
  refine wpAny_bind (wpAny_callSpecial?_slot (name := Str.ofString "__setitem__") hT slot_list_setitem (wpAny_call_entry slot_list_setitem hT entry_list_setitem ?_ (args_list_setitem _ _ _)))
  show wpAny _ _ (Builtin.List.listSubscript? (.int k t) >>= _) _ _ s
  refine wpAny_bind (wpAny_listSubscript_int (by unfold Builtin.List.listFitsIndex; simp only [Bool.and_eq_true, decide_eq_true_eq]; (clear fin hj ho hx; omega)) ?_)
  have store : wpAny (model prog w) A.in1 (setSeqItemAt l k.toNat v) (fun _ s' => Q () s') E s := wpAny_setSeqItemAt ho rfl (h _ (Heap.SameBut.update ..) fin)
  cases k with
  | ofNat m =>
    show wpAny _ _ ((seqItemAt l m >>= fun r => pure (r.map (m, ·))) >>= _) _ _ s
    refine wpAny_bind (wpAny_bind (wpAny_seqItemAt ho rfl (wpAny_pure ?_)))
    have hx : its[m]? = some its[m] := hx
    rw [hx]
    show wpAny _ _ (setSeqItemAt l m v >>= _) _ _ s
    refine wpAny_bind (wpAny_mono store (fun _ s' q => ?_) fun _ _ q => q)
    first
      | exact wpAny_bind (wpAny_pure (wpAny_pure ⟨.none, rfl, wpAny_pure q⟩))
      | exact wpAny_pure ⟨.none, rfl, wpAny_pure q⟩
  | negSucc m => exact absurd h0 (by (clear fin h0 hhi hj ho hx; omega))
theorem setIW_run {u i v : VV} {c e d : Value} {Q : List VO → Prop} {P : Unit → Shared → Prop} (S : SimX Φ W τ x s) (ru : VRep G W u c) (ri : VRep G W i e) (rv : VRep G W v d) (h : setIW τ.hp u i v Q) (k : ∀ hp s', SimX Φ W ⟨τ.loc, hp⟩ x s' → Q hp → P () s') :
    wpAny Φ.M Φ.A (setItem c e d) P (fun _ _ => False) s := by
  obtain ⟨j, rfl, g⟩ := inV_ex h
  obtain ⟨z, rfl, g⟩ := pvV_ex g
  obtain ⟨kk, l, rfl, el, ⟨h0, h1, h2⟩, q⟩ := ownL_ex g
  · · obtain ⟨t, rfl⟩ := ri.int
      cases ru with
      | @ref _ a dd er =>
        cases rv with
        | p rv =>
          obtain ⟨vs, n, LA⟩ := S.list el er
          refine setItem_at LA.get h0 h2 (by rw [List.size_toArray, LA.rep.length]; (clear el er h2; omega)) fun h' sb e1 => k _ _ (LA.upd (l.set j.toNat z) (vs.set j.toNat d) n h' s.toks (PRepL.set _ rv LA.rep) sb (by rw [e1]; simp)) q
/-- op= of two values. -/
noncomputable def asX (hp : List VO) : VV → Option (List PV)
  | .p (.lst l) => some l
  | .ref k => refL hp k
  | _ => none
noncomputable def iopI (op : Operator) (i j : Int) (Q : Int → Prop) : Prop := match op with
  | .Add => Q (i + j)
  | .Sub => Q (i - j)
  | .BitAnd => Q (Builtin.bitAnd i j)
  | .BitOr => Q (Builtin.bitOr i j)
  | .BitXor => Q (Builtin.bitXor i j)
  | _ => False
noncomputable def iopW (op : Operator) (hp : List VO) (u v : VV) (Q : VV → List VO → Prop) : Prop := intsW u v fun i j => iopI op i j fun z => Q (.p (.int z)) hp
theorem SimX.asX (S : SimX Φ W τ x s) {v : VV} {c : Value} {l : List PV} (r : VRep G W v c) (e : VE.asX τ.hp v = some l) : ∃ a vs n, c = .ref a ∧ s.heap.get? a = some (listOf vs.toArray n) ∧ PRepL (VE.FW G W) l vs := by
  cases r with
  | p r =>
    cases r with
    | @lst _ _ a ws n l' f p _ => cases (e : some l' = some l); exact ⟨a, ws, n, rfl, S.FW f, p⟩
    | _ => exact noO e
  | @ref k a d e' =>
    obtain ⟨vs, n, LA⟩ := S.list (refL_ex e) e'
    exact ⟨a, vs, n, rfl, LA.get, LA.rep⟩
  | _ => exact noO e
theorem iopW_run {op : Operator} {u v : VV} {c d : Value} {Q : VV → List VO → Prop} {P : Value → Shared → Prop} (S : SimX Φ W τ x s) (ru : VRep G W u c) (rv : VRep G W v d) (h : iopW op τ.hp u v Q) (k : ∀ z e hp s', VRep G W z e → SimX Φ W ⟨τ.loc, hp⟩ x s' → Q z hp → P e s') :
    wpAny Φ.M Φ.A (inplaceOp op c d) P (fun _ _ => False) s := by
  obtain ⟨i, j, t, t', rfl, rfl, h⟩ := intsW_ex ru rv h
  cases op with
  | Add => exact iadd_int (k _ _ _ _ .of_int (S.toks _) h)
  | Sub => exact isub_int (k _ _ _ _ .of_int (S.toks _) h)
  | BitAnd => exact iand_int (k _ _ _ _ .of_int (S.toks _) h)
  | BitOr => exact ior_int (k _ _ _ _ .of_int (S.toks _) h)
  | BitXor => exact ixor_int (k _ _ _ _ .of_int (S.toks _) h)
  | _ => exact h.elim
end VE
namespace VE
variable {N : Nat → Str} {Z : Stc} {G : Gl N Z} {cs : Scope} {Φ : Cx G cs} {W : Wd} {τ : VS} {s : Shared} {x : List (Addr × Obj)}
/-- o.n = e -/
noncomputable abbrev wAsA (Z : Stc) (n : Nat) (o e : WE) : WX := fun C τ Q => e C τ fun v τ1 => o C τ1 fun u τ2 => setAW Z τ2.hp n u v fun hp => Q .next ⟨τ2.loc, hp⟩
theorem SX_asA {n : Nat} {t : Str} {o value : Expr} {np pos : Pos} {wo we : WE} (h : SE G cs value we) (h' : SE G cs o wo) (hn : N n = t) (hs : ∀ env, swapsWith value (some (.Attribute o t np)) pos.line env = pure false) : SX G cs (.Assign [.Attribute o t np] value pos) (wAsA Z n wo we) := fun Φ C ok W τ x s Q S q => by
  subst hn
  exact plainObj_wpAny_Assign_Attribute (h.go ok S q fun W1 v τ1 c s1 le1 r1 S1 q1 => h'.go ok S1 q1 fun W2 u τ2 d s2 le2 r2 S2 q2 =>
    setAW_run S2 r2 (r1.mono le2) q2 fun hp s3 S3 q3 => ⟨W2, .next, _, le1.trans le2, .next, S3, q3⟩) (hs _)
/-- o[i] = e -/
noncomputable abbrev wAsS (o i e : WE) : WX := fun C τ Q => e C τ fun v τ1 => o C τ1 fun u τ2 => i C τ2 fun j τ3 => setIW τ3.hp u j v fun hp => Q .next ⟨τ3.loc, hp⟩
theorem SX_asS {o i value : Expr} {np pos : Pos} {wo wi we : WE} (h : SE G cs value we) (h' : SE G cs o wo) (h'' : SE G cs i wi) (hs : ∀ env, swapsWith value (some (.Subscript o i np)) pos.line env = pure false) : SX G cs (.Assign [.Subscript o i np] value pos) (wAsS wo wi we) := fun Φ C ok W τ x s Q S q =>
  wpAny_Assign_Subscript (h.go ok S q fun W1 v τ1 c s1 le1 r1 S1 q1 => h'.go ok S1 q1 fun W2 u τ2 d s2 le2 r2 S2 q2 => h''.go ok S2 q2 fun W3 j τ3 e s3 le3 r3 S3 q3 =>
    setIW_run S3 (r2.mono le3) r3 (r1.mono (le2.trans le3)) q3 fun hp s4 S4 q4 => ⟨W3, .next, _, (le1.trans le2).trans le3, .next, S4, q4⟩) (hs _)
theorem loadN {n : Nat} {v : VV} (hv : getN n τ.loc = some v) (S : SimX Φ W τ x s) {P : Value → Shared → Prop} (k : ∀ c, VRep G W v c → P c s) : wpAny Φ.M Φ.A (loadName Φ.env (N n)) P (fun _ _ => False) s := by
  obtain ⟨m, n1, n2, F, Nw, nd, H, Cc, L, cv, o, g⟩ := id S
  rcases L n v hv with ⟨c, hl, hc, r⟩ | hm | ⟨c, u, hk, hc, ho, r⟩ | ⟨c, o, u, hk, hc, hm, hd, r⟩
  · exact wpAny_loadName_local Φ.kind hl F.ns hc (k c r)
  rotate_left
  · have ho := ho.keeps F.keep
    rcases hk with hk | hk
    · exact wpAny_loadName_cell Φ.kind hk hc ho (k u r)
    · exact wpAny_loadName_free Φ.kind hk hc ho (k u r) (G.hN.cd n)
  · have ho : s.heap.IsCell c (some u) := ⟨o, (Nw (c, o) (by simp [hm])).1, hd⟩
    rcases hk with hk | hk
    · exact wpAny_loadName_cell Φ.kind hk hc ho (k u r)
    · exact wpAny_loadName_free Φ.kind hk hc ho (k u r) (G.hN.cd n)
  · obtain ⟨c, co, u, h1, h2, h3, r⟩ := Cc.at hv hm
    obtain ⟨hk, hc⟩ := cv n c h1
    have ho : s.heap.IsCell c (some u) := ⟨co, (Nw (c, co) (by simp [h2])).1, h3⟩
    rcases hk with hk | hk
    · exact wpAny_loadName_cell Φ.kind hk hc ho (k u r)
    · exact wpAny_loadName_free Φ.kind hk hc ho (k u r) (G.hN.cd n)
/-- o.n op= e -/
noncomputable abbrev wAuA (Z : Stc) (n : Nat) (op : Operator) (o e : WE) : WX := fun C τ Q => o C τ fun u τ1 => attrW Z τ1.hp n u fun old => e C τ1 fun v τ2 => iopW op τ2.hp old v fun z hp => setAW Z hp n u z fun hp' => Q .next ⟨τ2.loc, hp'⟩
theorem SX_auA {n : Nat} {t : Str} {op : Operator} {o value : Expr} {np pos : Pos} {wo we : WE} (h : SE G cs o wo) (h' : SE G cs value we) (hn : N n = t) : SX G cs (.AugAssign (.Attribute o t np) op value pos) (wAuA Z n op wo we) := fun Φ C ok W τ x s Q S q => by
  subst hn
  exact wpAny_AugAssign_AttributeAny (h.go ok S q fun W1 u τ1 c s1 le1 r1 S1 q1 => attrW_run S1 r1 q1 fun W2 old d s2 le2 r2 S2 q2 => h'.go ok S2 q2 fun W3 v τ3 e s3 le3 r3 S3 q3 =>
    iopW_run S3 (r2.mono le3) r3 q3 fun z f hp s4 r4 S4 q4 => setAW_run S4 (r1.mono (le2.trans le3)) r4 q4 fun hp' s5 S5 q5 => ⟨W3, .next, _, (le1.trans le2).trans le3, .next, S5, q5⟩)
/-- One target. -/
noncomputable abbrev WS := Calls → VS → VV → (VS → Prop) → Prop
noncomputable def SS (G : Gl N Z) (cs : Scope) (t : Expr) (w : WS) : Prop := ∀ (Φ : Cx G cs) C, CallsOk G Φ.A.depth C → ∀ W τ x s v c Q, SimX Φ W τ x s → VRep G W v c → w C τ v Q → wpAny Φ.M Φ.A (assign t Φ.env c) (fun _ => RT Φ W x Q) (fun _ _ => False) s
noncomputable abbrev wTN (n : Nat) : WS := fun _ τ v Q => Q ⟨putN n v τ.loc, τ.hp⟩
theorem SS_N {n : Nat} {t : Str} {pos : Pos} (hn : N n = t) (hl : kindOk N Z cs n) : SS G cs (.Name t pos) (wTN n) := fun Φ C ok W τ x s v c Q S r q => by
  subst hn
  exact assign_Name (S.store r hl fun s2 S2 => ⟨W, _, .refl W, S2, q⟩)
/-- Several targets in their order. -/
noncomputable abbrev WSs := Calls → VS → List VV → (VS → Prop) → Prop
noncomputable def SSs (G : Gl N Z) (cs : Scope) (ts : List Expr) (w : WSs) : Prop := (∀ env, (assignEach ts env).map (·.2) = ts.map fun t => assign t env) ∧ ∀ (Φ : Cx G cs) C, CallsOk G Φ.A.depth C → ∀ W τ x s l vs Q, SimX Φ W τ x s → VRepL G W l vs → w C τ l Q → wpAny Φ.M Φ.A (assignInOrder (ts.map fun t => assign t Φ.env) vs) (fun _ => RT Φ W x Q) (fun _ _ => False) s
noncomputable abbrev wT0 : WSs := fun _ τ l Q => match l with
  | [] => Q τ
  | _ :: _ => False
theorem SSs_nil : SSs G cs [] wT0 := ⟨fun _ => rfl, fun Φ C ok W τ x s l vs Q S p q => assignInOrder_nil ⟨W, τ, .refl W, S, by
  cases l with
  | nil => exact q
  | cons _ _ => exact q.elim⟩⟩
noncomputable abbrev wTc (w : WS) (ws : WSs) : WSs := fun C τ l Q => match l with
  | v :: r => w C τ v fun τ' => ws C τ' r Q
  | [] => False
theorem SSs_cons {t : Expr} {ts : List Expr} {w : WS} {ws : WSs} (h : SS G cs t w) (h' : SSs G cs ts ws) (he : ∀ env, assignEach (t :: ts) env = (false, assign t env) :: assignEach ts env) : SSs G cs (t :: ts) (wTc w ws) := ⟨fun env => by rw [he env, List.map_cons, List.map_cons, h'.1 env], fun Φ C ok W τ x s l vs Q S p q => by
  cases p with
  | nil => exact q.elim
  | @cons v c r vs pv pr =>
    exact assignInOrder_cons (wpAny_mono (h Φ C ok W τ x s v c _ S pv q) (fun _ s1 y => by
      cases y with
      | mk W1 τ1 le S1 q1 => exact wpAny_mono (h'.2 Φ C ok W1 τ1 x s1 r vs Q S1 (pr.mono le) q1) (fun _ _ y => y.up le) fun _ _ y => y) fun _ _ y => y)⟩
theorem PRepL.vals {l : List PV} {vs : List Value} (p : PRepL (FW G W) l vs) : VRepL G W (l.map .p) vs := by
  induction l generalizing vs with
  | nil => cases p; exact .nil
  | cons v r ih =>
    cases vs with
    | nil => have := p.length; simp at this
    | cons c vs => exact .cons (.p p.uncons.1) (ih p.uncons.2)
theorem VRepL.len {l : List VV} {vs : List Value} (r : VRepL G W l vs) : vs.length = l.length := by
  induction r with
  | nil => rfl
  | cons _ _ ih => simp [ih]
/-- a, b = e; the value a tuple. -/
noncomputable def tupV (v : VV) (k : Nat) (Q : List PV → Prop) : Prop := match v with
  | .p (.tup l) => gd (Nat.beq l.length k) (Q l)
  | _ => False
theorem tupV_ex {v : VV} {k : Nat} {Q : List PV → Prop} (h : tupV v k Q) : ∃ l, v = .p (.tup l) ∧ l.length = k ∧ Q l := by
  unfold tupV at h
  split at h
  · exact ⟨_, rfl, Nat.eq_of_beq_eq_true (gd_ex h).1, (gd_ex h).2⟩
  · exact h.elim
theorem VRepL.app {l r : List VV} {vs ws : List Value} (h : VRepL G W l vs) (k : VRepL G W r ws) : VRepL G W (l ++ r) (vs ++ ws) := by
  induction h with
  | nil => exact k
  | cons a _ ih => exact .cons a ih
theorem VRepL.rev {l : List VV} {vs : List Value} (h : VRepL G W l vs) : VRepL G W l.reverse vs.reverse := by
  induction h with
  | nil => exact .nil
  | cons a _ ih => rw [List.reverse_cons, List.reverse_cons]; exact ih.app (.cons a .nil)
end VE
namespace VE
variable {N : Nat → Str} {Z : Stc} {G : Gl N Z} {cs : Scope} {Φ : Cx G cs} {W : Wd} {τ : VS} {s : Shared} {x : List (Addr × Obj)}
theorem SimX.first {q : Addr} {co : Obj} (S : SimX Φ W τ ((q, co) :: x) s) : s.heap.get? q = some co := by
  obtain ⟨m, n1, n2, F, Nw, _⟩ := S
  exact (Nw (q, co) (.head _)).1
/-- The first of the other objects is changed. -/
theorem SimX.updX {q : Addr} {co co' : Obj} {h' : Heap} (S : SimX Φ W τ ((q, co) :: x) s) (e : h'.get? q = some co') (sb : Heap.SameBut q s.heap h') (t : Nat) : SimX Φ W τ ((q, co') :: x) { s with heap := h', toks := t } := by
  obtain ⟨m, n1, n2, F, Nw, nd, H, C, L, cv, o, g⟩ := S
  have nd' : (((q, co) :: (x ++ (n1 ++ (n2 ++ W.fro)))).map (·.1)).Nodup := nd
  obtain ⟨F', N'⟩ := changed F Nw (updOf (pre := []) (o' := co') nd') e sb
  exact ⟨m, n1, n2, F', N', nd', H, C, L, cv, o, g⟩
/-- The first of the other objects is let go. -/
theorem SimX.drop {q : Addr} {co : Obj} {h' : Heap} (S : SimX Φ W τ ((q, co) :: x) s) (eb : Heap.ExtBut q s.heap h') : SimX Φ W τ x { s with heap := h' } := by
  obtain ⟨m, n1, n2, F, Nw, nd, H, C, L, cv, o, g⟩ := S
  have nd' : (((q, co) :: (x ++ (n1 ++ (n2 ++ W.fro)))).map (·.1)).Nodup := nd
  rw [List.map_cons, List.nodup_cons] at nd'
  have P := Nw (q, co) (.head _)
  obtain ⟨oL, es, ep, hL, rr⟩ := F.ns
  exact ⟨m, n1, n2, ⟨⟨oL, es, ep, eb _ _ (Ne.symm P.2.1) hL, rr⟩, fun b y z => eb _ _ (fun z' => by rw [z', P.2.2] at z; cases z) (F.keep b y z), F.above⟩,
    fun p hp => ⟨eb _ _ (fun z => nd'.1 (List.mem_map.mpr ⟨p, hp, z⟩)) (Nw p (.tail _ hp)).1, (Nw p (.tail _ hp)).2⟩, nd'.2, H, C, L, cv, o, g⟩
theorem SimX.forgetL : ∀ {e : List (Addr × Obj)}, SimX Φ W τ (e ++ x) s → SimX Φ W τ x s := by
  intro e
  induction e with
  | nil => exact id
  | cons p e ih => intro h; exact ih h.forget
/-- What is run through: its items, and that it stands. -/
structure SrcOk (Φ : Cx G cs) (W₀ : Wd) (l : List PV) (keep : VS → Prop) (it : Value) (XP : Nat → List (Addr × Obj) → Prop) : Prop where
  item : ∀ i z W τ e x s P, W₀.le W → l[i]? = some z → XP i e → SimX Φ W τ (e ++ x) s → keep τ → (∀ c e' s', PRep (FW G W) z c → XP (i + 1) e' → SimX Φ W τ (e' ++ x) s' → (∀ b o, b ∉ e.map (·.1) → s.heap.get? b = some o → s'.heap.get? b = some o) → P (some c) s') → wpAny Φ.M Φ.A (pyNext it) P (fun _ _ => False) s
  stop : ∀ W τ e x s P, W₀.le W → XP l.length e → SimX Φ W τ (e ++ x) s → keep τ → (∀ s', SimX Φ W τ x s' → P none s') → wpAny Φ.M Φ.A (pyNext it) P (fun _ _ => False) s
  again : ∀ i W τ e x s P, W₀.le W → XP i e → SimX Φ W τ (e ++ x) s → P it s → wpAny Φ.M Φ.A (pyIter it) P (fun _ _ => False) s
  go : ∀ i W τ e x s target c P, XP i e → SimX Φ W τ (e ++ x) s → P () s → wpAny Φ.M Φ.A (letOwnedTupleGo target it c) P (fun _ _ => False) s
/-- Nothing is let go of an iterator of another type. -/
theorem noGo {target : Expr} {r : Addr} {c : Value} {o : Obj} {n : String} {vs : Array Value} {P : Unit → Shared → Prop} (h : s.heap.get? r = some o) (hc : o.cls = .type n) (hd : o.data = .fields vs)
    (hn : ["enumerate", "zip", "dict_itemiterator", "dict_reverseitemiterator", "odict_iterator", "itertools.zip_longest", "itertools.pairwise"].contains n = false) (k : P () s) : wpAny Φ.M Φ.A (letOwnedTupleGo target (.ref r) c) P (fun _ _ => False) s := by
  have L : ∀ e p, wpAny Φ.M Φ.A (letOwnedTupleGo (.List e p) (.ref r) c) P (fun _ _ => False) s := fun e p => by
    cases c with
    | ref a => exact wpAny_bind (wpAny_load h (by rw [hc, hd]; show wpAny _ _ (if (_ && _) = true then _ else _) _ _ _; rw [hn, Bool.false_and, if_neg Bool.false_ne_true]; exact wpAny_pure k))
    | _ => exact wpAny_pure k
  cases target with
  | Tuple e _ p => exact L e p
  | List e p => exact L e p
  | _ => exact wpAny_pure k
/-- What iter gives. -/
noncomputable abbrev WI := Calls → VS → (List PV → (VS → Prop) → VS → Prop) → Prop
inductive RI (Φ : Cx G cs) (W : Wd) (x : List (Addr × Obj)) (Q : List PV → (VS → Prop) → VS → Prop) (it : Value) (s : Shared) : Prop where
  | mk (W' : Wd) (l : List PV) (keep : VS → Prop) (τ : VS) (XP : Nat → List (Addr × Obj) → Prop) (e : List (Addr × Obj)) (le : W.le W') (src : SrcOk Φ W' l keep it XP) (x0 : XP 0 e) (S : SimX Φ W' τ (e ++ x) s) (k : keep τ) (q : Q l keep τ)
noncomputable def SI (G : Gl N Z) (cs : Scope) (e : Expr) (w : WI) : Prop := ∀ (Φ : Cx G cs) C, CallsOk G Φ.A.depth C → ∀ W τ x s Q, SimX Φ W τ x s → w C τ Q → wpAny Φ.M Φ.A (eval e Φ.env) (fun v s1 => wpAny Φ.M Φ.A (pyIter v) (RI Φ W x Q) (fun _ _ => False) s1) (fun _ _ => False) s
noncomputable def keepL (v : VV) (l : List PV) (τ : VS) : Prop := asL τ.hp v = some l
noncomputable abbrev wItL (w : WE) : WI := fun C τ Q => w C τ fun v τ1 => ∃ l, asL τ1.hp v = some l ∧ Q l (keepL v l) τ1
theorem SI_list {e : Expr} {w : WE} (h : SE G cs e w) : SI G cs e (wItL w) := fun Φ C ok W τ x s Q S q =>
  h.go ok S q fun W1 v τ1 c s1 le r S1 ⟨l, e1, q1⟩ => by
    obtain ⟨y, vs, rfl, hl, p⟩ := S1.asL r e1
    refine wpAny_pyIter_list hl ?_
    have hq : s1.heap.get? s1.heap.objs.size = none := Heap.get?_none_of_le (Nat.le_refl _)
    have S2 := S1.new (h' := s1.heap.push { cls := .type "list_iterator", data := .fields #[.ref y, .int 0 0] }) (t := s1.toks) (fun _ _ e => Heap.get?_push_of_some _ e) hq (Heap.get?_push_size _ rfl)
    refine ⟨W1, l, keepL v l, τ1, fun i e => ∃ co, e = [(s1.heap.objs.size, co)] ∧ co.cls = .type "list_iterator" ∧ co.data = .fields #[.ref y, .int i 0], _, le, ⟨?_, ?_, ?_, ?_⟩, ⟨_, rfl, rfl, rfl⟩, S2, e1, q1⟩
    · rintro i z W2 τ2 _ x2 s2 P le2 hz ⟨co, rfl, h1, h2⟩ S2 kp k
      obtain ⟨y', us, ey, hl', p'⟩ := S2.asL (r.mono le2) kp
      cases ey
      obtain ⟨c, hc, rc⟩ := p'.get hz
      refine wpAny_pyNext_list_item (i := i) ⟨co, S2.first, h1, h2⟩ hl' (by simpa using hc) fun h' hit' sb => ?_
      obtain ⟨co', e1, e2, e3⟩ := hit'
      exact k c [(_, co')] _ rc ⟨co', rfl, e2, e3⟩ (S2.updX e1 sb s2.toks) fun b o hb e => (sb.2 b (by simpa using hb)).trans e
    · rintro W2 τ2 _ x2 s2 P le2 ⟨co, rfl, h1, h2⟩ S2 kp k
      obtain ⟨y', us, ey, hl', p'⟩ := S2.asL (r.mono le2) kp
      cases ey
      exact wpAny_pyNext_list_end Φ.hh ⟨co, S2.first, h1, h2⟩ hl' (by simp [p'.length]) fun h' eb => k _ (S2.drop eb)
    · rintro i W2 τ2 _ x2 s2 P le2 ⟨co, rfl, h1, h2⟩ S2 k
      exact wpAny_pyIter_listiter ⟨co, S2.first, h1, h2⟩ k
    · rintro i W2 τ2 _ x2 s2 target c P ⟨co, rfl, h1, h2⟩ S2 k
      exact noGo S2.first h1 h2 rfl k
/-- range(..). -/
noncomputable def rangeL (lo hi : Int) : List PV := (List.range (hi - lo).toNat).map fun (i : Nat) => PV.int (lo + (i : Int))
theorem rangeL_len (lo hi : Int) : (rangeL lo hi).length = (hi - lo).toNat := by simp [rangeL]
noncomputable def rngB (lo hi : Int) : Prop := (-(2 ^ 62) ≤ lo ∧ lo < 2 ^ 62) ∧ -(2 ^ 62) ≤ hi ∧ hi < 2 ^ 62
noncomputable def rngW (vs : List VV) (Q : List PV → Prop) : Prop := oneW vs fun v => inV v fun hi => rngB 0 hi ∧ Q (rangeL 0 hi)
noncomputable abbrev wRng (ws : WA) : WI := fun C τ Q => ws C τ fun vs τ1 => rngW vs fun l => Q l (fun _ => True) τ1
theorem rangeLeft {lo hi : Int} : Builtin.Range.rangeSize lo hi 1 = ((hi - lo).toNat : Int) - ((0 : Nat) : Int) := by rw [rangeSize_one]; split <;> omega
theorem RI_range {r : Addr} {lo hi : Int} {t u v : Tok} {Q : List PV → (VS → Prop) → VS → Prop} (b : rngB lo hi) (S : SimX Φ W τ x s) (hr : IsRange s.heap r lo hi 1 t u v) (q : Q (rangeL lo hi) (fun _ => True) τ) : wpAny Φ.M Φ.A (pyIter (.ref r)) (RI Φ W x Q) (fun _ _ => False) s := by
  refine wpAny_pyIter_range hr (small_one b.1.1 b.1.2 b.2.1 b.2.2) ?_
  have hq : s.heap.get? s.heap.objs.size = none := Heap.get?_none_of_le (Nat.le_refl _)
  have S2 := S.new (h' := s.heap.push { cls := .type "range_iterator", data := .fields #[rawInt lo, rawInt (Builtin.Range.rangeSize lo hi 1), rawInt 1] }) (t := s.toks) (fun _ _ e => Heap.get?_push_of_some _ e) hq (Heap.get?_push_size _ rfl)
  rw [rangeLeft] at S2 ⊢
  have ob : ∀ a b : Int, ({ cls := .type "range_iterator", dict := none, data := .fields #[rawInt a, rawInt b, rawInt 1], slots := #[] } : Obj) = { cls := .type "range_iterator", data := .fields #[rawInt a, rawInt b, rawInt 1] } := fun _ _ => rfl
  generalize s.heap.objs.size = it at S2 ⊢
  refine ⟨W, rangeL lo hi, fun _ => True, τ, fun i e => e = [(it, { cls := .type "range_iterator", data := .fields #[rawInt (lo + (i : Int)), rawInt (((hi - lo).toNat : Int) - (i : Int)), rawInt 1] })], _, .refl W, ⟨?_, ?_, ?_, ?_⟩, by rw [show lo + ((0 : Nat) : Int) = lo from Int.add_zero lo], S2, trivial, q⟩
  · rintro i z W2 τ2 _ x2 s2 P le2 hz rfl S2 _ k
    have hi' : i < (hi - lo).toNat := by
      have := (List.getElem?_eq_some_iff.mp hz).1
      simpa [rangeL] using this
    have ez : z = .int (lo + (i : Int)) := by
      rw [rangeL, List.getElem?_map, List.getElem?_range hi'] at hz
      simpa using hz.symm
    subst ez
    refine wpAny_pyNext_range_item (x := lo + (i : Int)) (left := ((hi - lo).toNat : Int) - (i : Int)) (step := 1) S2.first (by (clear hq hr hz; omega)) fun h' hit' sb => ?_
    refine k _ [_] _ (.int _ _ .nil) ?_ (S2.updX hit' sb _) fun b o hb e => (sb.2 b (by simpa using hb)).trans e
    have e1 : lo + (i : Int) + 1 = lo + ((i + 1 : Nat) : Int) := by (clear hi' hit' hq hr hz; omega)
    have e2 : ((hi - lo).toNat : Int) - (i : Int) - 1 = ((hi - lo).toNat : Int) - ((i + 1 : Nat) : Int) := by (clear e1 hi' hit' hq hr hz; omega)
    rw [e1, e2]
  · rintro W2 τ2 _ x2 s2 P le2 rfl S2 _ k
    exact wpAny_pyNext_range_end Φ.hh (x := lo + ((rangeL lo hi).length : Int)) (left := ((hi - lo).toNat : Int) - ((rangeL lo hi).length : Int)) (step := 1) S2.first (by rw [rangeL_len]; (clear hq hr; omega)) fun h' eb => k _ (S2.drop eb)
  · rintro i W2 τ2 _ x2 s2 P le2 rfl S2 k
    exact wpAny_pyIter_rangeiter (x := lo + (i : Int)) (left := ((hi - lo).toNat : Int) - (i : Int)) (step := 1) S2.first k
  · rintro i W2 τ2 _ x2 s2 target c P rfl S2 k
    exact noGo S2.first rfl rfl rfl k
theorem SI_range {t : Str} {p : Pos} {es : List Expr} {pos : Pos} {ws : WA} (n : Nat) (h' : SA G cs es ws) (b : BiOk N Z cs t (Value.type "range") n)
    (he : ∀ env, eval (.Call (.Name t p) es [] pos) env = (do callWith pos (← eval (.Name t p) env) [] (backTo pos (starEach es env)) (backToKw pos (keywordEach [] env)))) : SI G cs (.Call (.Name t p) es [] pos) (wRng ws) := fun Φ C ok W τ x s Q S q => by
  refine Call_ (b.load S ?_) (he _)
  have hp : (backTo pos (starEach es Φ.env)).any (·.1) = false := by rw [back_any]; exact h'.1 _
  refine PySem.callWith_type (first := []) hp (evalArgs_of hp (h'.go ok S q fun W1 as τ1 vs s1 le r S1 q1 => ?_))
  have nw : ∀ (o : Obj) (t : Nat), o.isFreed = false → SimX Φ W1 τ1 x { s1 with heap := s1.heap.push o, toks := t } := fun o t hf => (S1.new (h' := s1.heap.push o) (t := t) (fun _ _ e => Heap.get?_push_of_some _ e) (Heap.get?_none_of_le (Nat.le_refl _)) (Heap.get?_push_size _ hf)).forget
  obtain ⟨v, rfl, q1⟩ := oneW_ex q1
  obtain ⟨i, rfl, q1⟩ := inV_ex q1
  obtain ⟨c, rfl, rc⟩ := r.one
  obtain ⟨t, rfl⟩ := rc.int
  refine call_range_1 (wpAny_mono (RI_range q1.1 (nw _ _ rfl) (Heap.get?_push_size _ rfl) q1.2) (fun _ _ y => ?_) fun _ _ y => y)
  cases y with
  | mk W' l keep τ XP e le' src x0 S k q => exact ⟨W', l, keep, τ, XP, e, le.trans le', src, x0, S, k, q⟩
/-- A for loop. -/
noncomputable def forW (tgt : PV → VS → (VS → Prop) → Prop) (body : VS → (Fl → VS → Prop) → Prop) (keep : VS → Prop) (Q : Fl → VS → Prop) : List PV → VS → Prop
  | [], τ => Q .next τ
  | v :: r, τ => tgt v τ fun τ1 => body τ1 fun f τ2 => match f with
    | .next => keep τ2 ∧ forW tgt body keep Q r τ2
    | .cont => keep τ2 ∧ forW tgt body keep Q r τ2
    | .brk => Q .next τ2
    | .ret u => Q (.ret u) τ2
noncomputable abbrev wFor (i : WI) (t : WS) (b : WX) : WX := fun C τ Q => i C τ fun l keep τ1 => forW (fun v τ q => t C τ (.p v) q) (b C) keep Q l τ1
theorem no_ {Φ : Cx G cs} {α : Type} {t : Sem α} {P : α → Shared → Prop} {s : Shared} (h : wpAny Φ.M Φ.A t P (fun _ _ => False) s) : wpAny Φ.M Φ.A t P (notedBy Φ.M Φ.A Φ.env fun _ _ => False) s := wpAny_mono h (fun _ _ x => x) fun _ _ x => x.elim
noncomputable def RFr (Φ : Cx G cs) (W : Wd) (x : List (Addr × Obj)) (Q : Fl → VS → Prop) (r : Except Value Flow) (s : Shared) : Prop := match r with
  | .ok f => RF Φ W x Q f s
  | .error _ => False
inductive ForI (Φ : Cx G cs) (W1 : Wd) (x : List (Addr × Obj)) (l : List PV) (XP : Nat → List (Addr × Obj) → Prop) (R : List PV → VS → Prop) (n : Nat) (s : Shared) : Prop where
  | mk (i : Nat) (W' : Wd) (τ' : VS) (e : List (Addr × Obj)) (en : n + i = l.length + 1) (hi : i ≤ l.length) (le : W1.le W') (xi : XP i e) (S : SimX Φ W' τ' (e ++ x) s) (q : R (l.drop i) τ')
theorem SX_for {target iter : Expr} {body : List Stmt} {pos : Pos} {i : WI} {t : WS} {b : WX} (hi : SI G cs iter i) (ht : SS G cs target t) (hb : SB G cs body b) (hf : ∀ env x, foldedSetIterable iter env x = pure x) : SX G cs (.For target iter body [] pos) (wFor i t b) := fun Φ C ok W τ x s Q S q => by
  refine wpAny_For (wpAny_mono (hi Φ C ok W τ x s _ S q) (fun v s1 h1 => wpAny_mono h1 (fun it s2 h2 => ?_) fun _ _ y => y) fun _ _ y => y) (hf _)
  obtain ⟨W1, l, keep, τ1, XP, e, le, src, x0, S1, k, q1⟩ := h2
  refine codeAny_mono (codeAny_forLoop_any (R := RFr Φ W x Q)
    (ForI Φ W1 x l XP fun m τ' => keep τ' ∧ forW (fun v τ q => t C τ (.p v) q) (b C) keep Q m τ') (fun n s' hI => ?_) (l.length + 1) ⟨0, W1, τ1, e, rfl, Nat.zero_le _, .refl _, x0, S1, k, q1⟩) fun r s' q => ?_
  · obtain ⟨i, W', τ', e, en, hi, le', xi, S', kp, q'⟩ := hI
    by_cases hie : i = l.length
    · subst hie
      refine no_ (src.stop W' τ' e x s' _ le' xi S' kp fun s3 S3 => wpAny_execs_nil ⟨W', .next, τ', le.trans le', .next, S3, ?_⟩)
      rw [List.drop_length] at q'
      exact q'
    · have hlt : i < l.length := Nat.lt_of_le_of_ne hi hie
      have ha : l[i]? = some l[i] := List.getElem?_eq_getElem hlt
      rw [List.drop_eq_getElem_cons hlt] at q'
      refine no_ (src.item i _ W' τ' e x s' _ le' ha xi S' kp fun c e' s3 rc xi' S3 _ => ?_)
      refine no_ (src.go (i + 1) W' τ' e' x s3 target c _ xi' S3 ?_)
      refine no_ (wpAny_mono (ht Φ C ok W' τ' (e' ++ x) s3 (.p l[i]) c _ S3 (.p rc) q') (fun _ s4 y => ?_) fun _ _ y => y)
      obtain ⟨W4, τ4, le4, S4, q4⟩ := y
      refine no_ (wpAny_mono (hb Φ C ok W4 τ4 (e' ++ x) s4 _ S4 q4) (fun f s5 y => ?_) fun _ _ y => y)
      obtain ⟨W5, fl, τ5, le5, r5, S5, q5⟩ := y
      have lx := (le'.trans le4).trans le5
      have nx : keep τ5 ∧ forW (fun v τ q => t C τ (.p v) q) (b C) keep Q (l.drop (i + 1)) τ5 → ∃ m, m < n ∧ ForI Φ W1 x l XP (fun m τ' => keep τ' ∧ forW (fun v τ q => t C τ (.p v) q) (b C) keep Q m τ') m s5 := fun q5 => ⟨l.length - i, by (exact qq2 [_,_,_,_] [1] 1 0x608045 1 0x50608047 1 0x38505 qt (qF en) (qR (qq1 [_,_] [1] 1 0xc5 1 0x608045 qt hlt))), i + 1, W5, τ5, e', by (exact Nat.le_antisymm (qq1 [_,_,_] [1] 1 0x2011c21008c5 1 0x384c5 qt (qR (qq1 [_,_] [1] 1 0xc5 1 0x608045 qt hlt))) (qq1 [_,_,_] [1] 1 0x21008e608045 1 0x9cc5 qt (qS _ _))), hlt, lx, xi', S5, q5⟩
      cases r5 with
      | next => exact nx q5
      | cont => exact nx q5
      | brk => exact ⟨W5, .next, τ5, le.trans lx, .next, S5.forgetL, q5⟩
      | ret ru => exact ⟨W5, _, τ5, le.trans lx, .ret ru, S5.forgetL, q5⟩
  · cases r with
    | ok f => exact q
    | error e => exact q.elim
end VE
namespace VE
variable {N : Nat → Str} {Z : Stc} {G : Gl N Z} {cs : Scope} {Φ : Cx G cs} {W : Wd} {τ : VS} {s : Shared} {x : List (Addr × Obj)}
/-- What a call leaves. -/
noncomputable def retv : Fl → VV
  | .ret v => v
  | _ => .p .none
noncomputable def closedV (n : Nat) : VV → Bool
  | .p _ => true
  | .ref k => Nat.blt k n
  | .meth _ k => Nat.blt k n
  | .lam k => Nat.blt k n
noncomputable def closedO (n : Nat) : VO → Bool
  | .list _ => true
  | .inst fs => fs.all fun p => closedV n p.2
noncomputable def retN (n : Nat) (hp : List VO) (v : VV) (Q : Rs → List VO → Prop) : Prop := match v with
  | .p z => Q (.val (.p z)) (hp.take n)
  | .ref k => ∃ l, hp[k]? = some (.list l) ∧ n ≤ k ∧ Q (.new l) (hp.take n)
  | .meth _ _ => False
  | .lam _ => False
noncomputable def retW (n : Nat) (hp : List VO) (v : VV) (Q : Rs → List VO → Prop) : Prop := (hp.length = n ∧ Q (.val v) hp) ∨ (n ≤ hp.length ∧ (hp.take n).all (closedO n) = true ∧ retN n hp v Q)
theorem VRep.cut {W' : Wd} {n : Nat} {v : VV} {c : Value} (r : VRep G W' v c) (h : closedV n v = true) : VRep G ⟨W'.rho.take n, W'.fro⟩ v c := by
  cases r with
  | p r => exact .p r
  | ref e =>
    have := Nat.le_of_ble_eq_true h
    exact .ref (by rw [List.getElem?_take_of_lt (by (exact qq1 [_,_] [1] 1 0x608045 1 0x608045 qt this))]; exact e)
  | meth g e f =>
    have := Nat.le_of_ble_eq_true h
    exact .meth g (by rw [List.getElem?_take_of_lt (by (exact qq1 [_,_] [1] 1 0x608045 1 0x608045 qt this))]; exact e) f
  | lam e f =>
    have := Nat.le_of_ble_eq_true h
    exact .lam (by rw [List.getElem?_take_of_lt (by (exact qq1 [_,_] [1] 1 0x608045 1 0x608045 qt this))]; exact e) (by
      obtain ⟨c, c', o, oc, pm, ctv, vs, t, h1, h2, h3, h4, h5, h6⟩ := f
      exact ⟨c, c', o, oc, pm, ctv, vs, t, h1, h2, h3, h4, h5, h6⟩)
theorem HR.cut {W' : Wd} {n : Nat} : ∀ {os ρ ns} (m : Nat), HR G W' os ρ ns → (os.take m).all (closedO n) = true → ∃ n1 n3, ns.Perm (n1 ++ n3) ∧ HR G ⟨W'.rho.take n, W'.fro⟩ (os.take m) (ρ.take m) n1 ∧
    ∀ k l, os[k]? = some (.list l) → m ≤ k → ∃ a vs j, ρ[k]?.map (·.1) = some a ∧ (a, listOf vs.toArray j) ∈ n3 ∧ PRepL (FW G W') l vs := by
  intro os ρ ns m h
  induction h generalizing m with
  | @nil ns0 t => intro _; exact ⟨ns0, [], by simp, by simpa using .nil t, fun k l e => by simp at e⟩
  | @list os ρ ns a d l vs j p r ih =>
    intro hc
    cases m with
    | zero =>
      obtain ⟨n1, n3, e, h1, h2⟩ := ih 0 rfl
      refine ⟨n1, _ :: n3, (e.cons _).trans List.perm_middle.symm, by simpa using h1, fun k l' e' _ => ?_⟩
      cases k with
      | zero => cases e'; exact ⟨a, vs, j, rfl, .head _, p⟩
      | succ k => exact h2 k l' (by simpa using e') (Nat.zero_le _) |> fun ⟨a, vs, j, x, y, z⟩ => ⟨a, vs, j, by simpa using x, .tail _ y, z⟩
    | succ m =>
      rw [List.take_succ_cons, List.all_cons, Bool.and_eq_true] at hc
      obtain ⟨n1, n3, e, h1, h2⟩ := ih m hc.2
      refine ⟨_ :: n1, n3, e.cons _, by rw [List.take_succ_cons, List.take_succ_cons]; exact .list p h1, fun k l' e hk => ?_⟩
      cases k with
      | zero => cases hk
      | succ k => exact h2 k l' (by simpa using e) (Nat.le_of_succ_le_succ hk) |> fun ⟨a, vs, j, x, y, z⟩ => ⟨a, vs, j, by simpa using x, y, z⟩
  | @inst os ρ ns a d fs es j p r ih =>
    intro hc
    cases m with
    | zero =>
      obtain ⟨n1, n3, e, h1, h2⟩ := ih 0 rfl
      refine ⟨n1, _ :: _ :: n3, ((e.cons _).cons _).trans ((List.perm_middle.symm.cons _).trans List.perm_middle.symm), by simpa using h1, fun k l' e' _ => ?_⟩
      cases k with
      | zero => cases e'
      | succ k => exact h2 k l' (by simpa using e') (Nat.zero_le _) |> fun ⟨a, vs, j, x, y, z⟩ => ⟨a, vs, j, by simpa using x, .tail _ (.tail _ y), z⟩
    | succ m =>
      rw [List.take_succ_cons, List.all_cons, Bool.and_eq_true] at hc
      obtain ⟨n1, n3, e, h1, h2⟩ := ih m hc.2
      refine ⟨_ :: _ :: n1, n3, (e.cons _).cons _, by
        rw [List.take_succ_cons, List.take_succ_cons]
        refine .inst ⟨p.1, p.2.1, fun k => ?_⟩ h1
        have := p.2.2 k
        cases hk : getN k fs with
        | none => rw [hk] at this; exact this
        | some v =>
          rw [hk] at this
          obtain ⟨c, e, q⟩ := this
          exact ⟨c, e, q.cut (List.all_eq_true.mp hc.1 _ (getN_mem hk))⟩, fun k l' e hk => ?_⟩
      cases k with
      | zero => cases hk
      | succ k => exact h2 k l' (by simpa using e) (Nat.le_of_succ_le_succ hk) |> fun ⟨a, vs, j, x, y, z⟩ => ⟨a, vs, j, by simpa using x, y, z⟩
theorem zip_get {ns : List Nat} : ∀ {as : List VV} {vs : List Value} {k : Nat} {v : VV}, VRepL G W as vs → getN k (ns.zip as) = some v → k ∈ ns ∧ ∃ c, getN k (ns.zip vs) = some c ∧ VRep G W v c := by
  induction ns with
  | nil => intro as vs k v _ e; simp [getN] at e
  | cons n ns ih =>
    intro as vs k v r e
    cases r with
    | nil => simp [getN] at e
    | @cons a c l vs ra r =>
      simp only [List.zip_cons_cons, getN] at e ⊢
      cases hk : Nat.beq k n with
      | true =>
        rw [hk] at e
        cases e
        have := Nat.eq_of_beq_eq_true hk
        subst this
        exact ⟨.head _, _, rfl, ra⟩
      | false =>
        rw [hk] at e
        obtain ⟨h1, h2⟩ := ih r e
        exact ⟨.tail _ h1, h2⟩
theorem zip_names {ns : List Nat} (hN : NOk N) : ∀ {vs : List Value} {k : Nat} {c : Value}, getN k (ns.zip vs) = some c → ((ns.map N).zip vs).lookup (N k) = some c := by
  induction ns with
  | nil => intro vs k c e; simp [getN] at e
  | cons n ns ih =>
    intro vs k c e
    cases vs with
    | nil => simp [getN] at e
    | cons v vs =>
      simp only [List.map_cons, List.zip_cons_cons, List.lookup, getN] at e ⊢
      cases hk : Nat.beq k n with
      | true => have := Nat.eq_of_beq_eq_true hk; subst this; rw [hk] at e; rw [show (N k == N k) = true from beq_self_eq_true _]; exact e
      | false =>
        rw [hk] at e
        rw [show (N k == N n) = false from beq_eq_false_iff_ne.mpr fun z => nbeq.mp hk (hN.inj _ _ z)]
        exact ih e
theorem lookup_reverse {α : Type} : ∀ {l : List (Str × α)} {x : Str} {c : α}, (l.map (·.1)).Nodup → l.lookup x = some c → l.reverse.lookup x = some c := by
  intro l
  induction l with
  | nil => intro x c _ e; cases e
  | cons p l ih =>
    intro x c nd e
    obtain ⟨y, d⟩ := p
    rw [List.map_cons, List.nodup_cons] at nd
    rw [List.reverse_cons, List.lookup_append]
    simp only [List.lookup] at e
    cases hx : x == y with
    | true =>
      rw [hx] at e
      cases e
      have := beq_iff_eq.mp hx
      subst this
      have : l.reverse.lookup x = none := by
        rw [List.lookup_eq_none_iff]
        intro q hq
        have := List.mem_reverse.mp hq
        exact bne_iff_ne.mpr fun z => nd.1 (List.mem_map.mpr ⟨q, this, z.symm⟩)
      rw [this]
      simp [List.lookup]
    | false =>
      rw [hx] at e
      rw [ih nd.2 e]
      rfl
theorem map_fst_zip {α β : Type} : ∀ (l : List α) (r : List β), ((l.zip r).map (·.1)).Sublist l := by
  intro l
  induction l with
  | nil => intro r; simp
  | cons a l ih =>
    intro r
    cases r with
    | nil => simp
    | cons b r => simp only [List.zip_cons_cons, List.map_cons]; exact (ih r).cons_cons a
/-- What a call leaves for the frame that made it. -/
theorem leave {scope : Scope} {Φ' : Cx G scope} {m : Str → Option Value} {n1 n2 : List (Addr × Obj)} {a : VV} {τ' : VS} {W' : Wd} {rv : Value} {s' : Shared} {Q : Rs → List VO → Prop} (S : SimS Φ W τ x s m n1 n2) (hst : Φ'.h₀ = hideAll s.heap ((n1 ++ ([] ++ W.fro) : List (Addr × Obj)).map (fun p => p.1))) (hcv : Φ'.cv = [])
    (le : W.le W') (ra' : VRep G W' a rv) (S2 : SimX Φ' W' τ' [] s') (q : retW τ.hp.length τ'.hp a Q) : R0 Φ W x (fun a τ' => τ'.loc = τ.loc ∧ Q a τ'.hp) rv s' := by
  obtain ⟨F, Nw, nd, H, Cc, L, cv, o, g⟩ := S
  let own := n1 ++ ([] ++ W.fro)
  have inO : ∀ p ∈ own, p ∈ x ++ (n1 ++ (n2 ++ W.fro)) := fun p hp => by
    rcases List.mem_append.mp hp with q | q
    · simp [q]
    · have q : p ∈ W.fro := q
      simp [q]
  have nm : ∀ b o, Φ.h₀.get? b = some o → b ∉ own.map (·.1) := fun b o e q => by
    obtain ⟨p, hp, rfl⟩ := List.mem_map.mp q
    rw [(Nw p (inO p hp)).2.2] at e; cases e
  have st : ∀ b o, Φ.h₀.get? b = some o → Φ'.h₀.get? b = some o := fun b o e => hst ▸ hideAll_get _ (F.keep b o e) (nm b o e)
  obtain ⟨oL, es, ep, hL, hLd⟩ := F.ns
  have nL : Φ.L ∉ own.map (·.1) := fun q => by
    obtain ⟨p, hp, e⟩ := List.mem_map.mp q
    exact (Nw p (inO p hp)).2.1 e
  have hLg : Φ'.h₀.get? Φ.L = some oL := hst ▸ hideAll_get (own.map (·.1)) hL nL
  obtain ⟨m2, k1, k2, F2, Nw2, nd2, H2, C2, _, _, o2, g2⟩ := S2
  have C2 : k2 = [] := by
    rw [hcv] at C2
    cases C2
    rfl
  subst C2
  have keepO : ∀ p ∈ x ++ n2, Φ'.h₀.get? p.1 = some p.2 := fun p hp => by
    have hp' : p ∈ x ++ (n1 ++ (n2 ++ W.fro)) := by
      rcases List.mem_append.mp hp with q | q <;> simp [q]
    refine hst ▸ hideAll_get _ (Nw p hp').1 fun hm => ?_
    obtain ⟨p', hp2, e⟩ := List.mem_map.mp hm
    have nd3 : ((x ++ n2 ++ (n1 ++ W.fro)).map (·.1)).Nodup := by
      refine (List.Perm.nodup_iff (List.Perm.map _ ?_)).mp nd
      simp only [List.append_assoc]
      exact List.Perm.append_left x (by rw [← List.append_assoc, ← List.append_assoc]; exact List.Perm.append_right _ List.perm_append_comm)
    rw [List.map_append, List.nodup_append] at nd3
    exact nd3.2.2 _ (List.mem_map_of_mem hp) _ (List.mem_map_of_mem (show p' ∈ n1 ++ W.fro from hp2)) e.symm
  have FF : Fr Φ.h₀ Φ.L s'.heap m := ⟨⟨oL, es, ep, F2.keep _ _ hLg, hLd⟩, fun b o e => F2.keep b o (st b o e), F.above⟩
  have newOf : ∀ p ∈ k1 ++ W'.fro, s'.heap.get? p.1 = some p.2 ∧ p.1 ≠ Φ.L ∧ Φ.h₀.get? p.1 = none := fun p hp => by
    have P := Nw2 p (by simpa using hp)
    refine ⟨P.1, fun q => ?_, ?_⟩
    · have := P.2.2; rw [q] at this; rw [show (Φ'.h₀.get? Φ.L) = some oL from hLg] at this; cases this
    · cases q : Φ.h₀.get? p.1 with
      | none => rfl
      | some o => have := P.2.2; rw [show (Φ'.h₀.get? p.1) = some o from st _ _ q] at this; cases this
  have oldOf : ∀ p ∈ x ++ n2, s'.heap.get? p.1 = some p.2 ∧ p.1 ≠ Φ.L ∧ Φ.h₀.get? p.1 = none := fun p hp =>
    ⟨F2.keep _ _ (keepO p hp), (Nw p (by rcases List.mem_append.mp hp with q | q <;> simp [q])).2⟩
  have nd2' : ((k1 ++ W'.fro).map (·.1)).Nodup := by simpa using nd2
  have ndx : ∀ K : List (Addr × Obj), K.Perm (k1 ++ W'.fro) → ∀ ks : List (Addr × Obj), ks.Sublist K → ((x ++ n2 ++ ks).map (·.1)).Nodup := fun K hK ks hks => by
    rw [List.map_append, List.nodup_append]
    refine ⟨List.Nodup.sublist (List.Sublist.map _ ?_) nd, List.Nodup.sublist (List.Sublist.map _ hks) ((hK.map _).nodup_iff.mpr nd2'), fun a ha b hb e => ?_⟩
    · exact List.Sublist.append_left ((List.sublist_append_left n2 W.fro).trans (List.sublist_append_right n1 _)) x
    · obtain ⟨p, hp, rfl⟩ := List.mem_map.mp ha
      obtain ⟨p', hp', rfl⟩ := List.mem_map.mp hb
      have := (Nw2 p' (by simpa using hK.subset (hks.subset hp'))).2.2
      rw [show Φ'.h₀.get? p'.1 = some p.2 from e ▸ keepO p hp] at this
      cases this
  rcases q with ⟨hl, q⟩ | ⟨hl, hc, q⟩
  · refine .val W' a ⟨τ.loc, τ'.hp⟩ le ra' ⟨m, k1, n2, FF, fun p hp => ?_, ?_, H2, Cc.mono le, fun k v e => (L k v e).mono le, cv, o2, g2⟩ ⟨rfl, q⟩
    · simp only [List.mem_append] at hp
      rcases hp with q | q | q | q
      · exact oldOf p (by simp [q])
      · exact newOf p (by simp [q])
      · exact oldOf p (by simp [q])
      · exact newOf p (by simp [q])
    · refine (List.Perm.nodup_iff (List.Perm.map _ ?_)).mp (ndx _ (List.Perm.refl _) _ (List.Sublist.refl _))
      simp only [List.append_assoc]
      exact List.Perm.append_left x (by rw [← List.append_assoc, ← List.append_assoc]; exact List.Perm.append_right _ List.perm_append_comm)
  · obtain ⟨p1, p3, ek, Hc, Hl⟩ := H2.cut τ.hp.length hc
    have pK := List.Perm.append_right W'.fro ek.symm
    obtain ⟨t, ht⟩ := le.rho
    have erho : W'.rho.take τ.hp.length = W.rho := by rw [← ht, ← H.len]; simp
    rw [erho] at Hc
    have H3 : HR G ⟨W.rho, W'.fro⟩ (τ'.hp.take τ.hp.length) W.rho p1 := Hc
    have le2 : W.le ⟨W.rho, W'.fro⟩ := ⟨List.prefix_refl _, le.fro⟩
    have fin : ∀ ex : List (Addr × Obj), ex.Sublist p3 → SimX Φ ⟨W.rho, W'.fro⟩ ⟨τ.loc, τ'.hp.take τ.hp.length⟩ (ex ++ x) s' := fun ex hex => by
      have sub : (p1 ++ (ex ++ W'.fro)).Sublist ((p1 ++ p3) ++ W'.fro) := by
        rw [List.append_assoc]
        exact List.Sublist.append_left (List.Sublist.append_right hex _) _
      refine ⟨m, p1, n2, FF, fun p hp => ?_, ?_, H3, Cc.mono le2, fun k v e => (L k v e).mono le2, cv, o2, g2⟩
      · simp only [List.mem_append] at hp
        rcases hp with (q | q) | q | q | q
        · exact newOf p (pK.subset (sub.subset (by simp [q])))
        · exact oldOf p (by simp [q])
        · exact newOf p (pK.subset (sub.subset (by simp [q])))
        · exact oldOf p (by simp [q])
        · exact newOf p (pK.subset (sub.subset (by
            have q : p ∈ W'.fro := q
            simp [q])))
      · refine (List.Perm.nodup_iff (List.Perm.map _ ?_)).mp (ndx _ pK _ sub)
        have e1 : x ++ n2 ++ (p1 ++ (ex ++ W'.fro)) = (x ++ n2 ++ p1) ++ (ex ++ W'.fro) := by simp
        have e2 : ex ++ x ++ (p1 ++ (n2 ++ W'.fro)) = ex ++ ((x ++ (p1 ++ n2)) ++ W'.fro) := by simp
        show (x ++ n2 ++ (p1 ++ (ex ++ W'.fro))).Perm (ex ++ x ++ (p1 ++ (n2 ++ W'.fro)))
        rw [e1, e2]
        refine List.Perm.trans (List.perm_append_comm_assoc _ _ _) (List.Perm.append_left ex (List.Perm.append_right _ ?_))
        rw [List.append_assoc]
        exact List.Perm.append_left x List.perm_append_comm
    cases a with
    | p z =>
      refine .val ⟨W.rho, W'.fro⟩ _ ⟨τ.loc, τ'.hp.take τ.hp.length⟩ le2 (?_ : VRep G _ (.p z) rv) (fin [] (List.nil_sublist _)) ⟨rfl, q⟩
      cases ra' with
      | p p => exact .p p
    | ref k =>
      obtain ⟨l, el, hk, q⟩ := q
      obtain ⟨b, ws, j, eb, hb, pl⟩ := Hl k l el hk
      cases ra' with
      | @ref _ b' d' er =>
        rw [er] at eb
        have eb : b' = b := by simpa using eb
        subst eb
        exact .new ⟨W.rho, W'.fro⟩ l ⟨τ.loc, τ'.hp.take τ.hp.length⟩ b' ws j le2 pl (fin [(b', _)] (List.singleton_sublist.mpr hb)) ⟨rfl, q⟩
    | meth => exact q.elim
    | lam => exact q.elim
/-- A function of the text's, without cells. -/
structure FnOk (G : Gl N Z) (f : Addr) (ns : List Nat) (name qual : Str) (params : Arguments) (body : List Stmt) (scope : Scope) (dV kV doc pm cdv ct oc : Value) (an od : Option Addr) (osl : Array (Option Value)) : Prop where
  ho : G.K.lookup f = some ⟨oc, od, .func (fnOf name qual params body scope dV kV doc pm an cdv ct), osl⟩
  hcd : codeIn G.K cdv qual = true
  hloc : ∀ n ∈ ns, scope.names.lookup (N n) = some .local
  hnd : ns.Nodup
  hco : scope.isCoroutine = false
  hgen : scope.isGenerator = false
  hk : scope.kind = .function
  hcell : ∀ x ∈ scope.names, x.2 ≠ .cell
  htop : scope.names.lookup (N Z.topn) ≠ some .local
  hmark : ∀ T ∈ Z.tds, scope.names.lookup (N T.mark) ≠ some .local
variable {f : Addr} {ns : List Nat} {name qual : Str} {params : Arguments} {body : List Stmt} {scope : Scope} {dV kV doc pm cdv ct oc : Value} {an od : Option Addr} {osl : Array (Option Value)}
theorem enter {A : Around} {args : Args} {as : List VV} {vs : List Value} {Q : Rs → List VO → Prop} (D : FnOk G f ns name qual params body scope dV kV doc pm cdv ct oc an od osl) (hhd : A.handled = none) (hu : A.units ≤ 3 * A.depth + 4) (hdp : A.depth < recursionLimit)
    (S : SimX Φ W τ x s) (r : VRepL G W as vs) (hbind : BindsTo s (fnOf name qual params body scope dV kV doc pm an cdv ct) args ((ns.map N).zip vs))
    (h : ∀ Φ' : Cx G scope, Φ'.A.depth = A.depth + 1 → ∀ s1, SimX Φ' W ⟨ns.zip as, τ.hp⟩ [] s1 → wpAny Φ'.M Φ'.A (execs body Φ'.env) (RF Φ' W [] fun fl τ' => retW τ.hp.length τ'.hp (retv fl) Q) (fun _ _ => False) s1) :
    codeAny (model G.prog G.w) A (.call (.ref f) args) (fun r s' => ∃ v, r = .ok (.ret v) ∧ R0 Φ W x (fun a τ' => τ'.loc = τ.loc ∧ Q a τ'.hp) v s') s := by
  obtain ⟨m, n1, n2, F, Nw, nd, H, Cc, L, cv, o, g⟩ := id S
  have nN : (((ns.map N).zip vs).map (·.1)).Nodup := (map_fst_zip _ _).nodup (List.pairwise_map.mpr (List.Pairwise.imp (fun ne e => ne (G.hN.inj _ _ e)) D.hnd))
  refine codeAny_call_def (fd := fnOf name qual params body scope dV kV doc pm an cdv ct) (body := body) (binds := (ns.map N).zip vs) hdp (S.K _ _ D.ho) rfl ((topRead_of Φ.T).nolimit.keeps F.keep) (codeRec_of S.K D.hcd) rfl hbind D.hcell (fun y hy => ?_) (fun h₁ hns hk₁ => ?_) D.hco D.hgen D.hk
  · have := (map_fst_zip (ns.map N) vs).subset (List.mem_map_of_mem hy)
    obtain ⟨n, hn, e⟩ := List.mem_map.mp this
    show scope.names.lookup y.1 = _
    rw [← e]; exact D.hloc n hn
  · let own := n1 ++ ([] ++ W.fro)
    have inO : ∀ p ∈ own, p ∈ x ++ (n1 ++ (n2 ++ W.fro)) := fun p hp => by
      rcases List.mem_append.mp hp with q | q
      · simp [q]
      · have q : p ∈ W.fro := q
        simp [q]
    have nm : ∀ b o, Φ.h₀.get? b = some o → b ∉ own.map (·.1) := fun b o e q => by
      obtain ⟨p, hp, rfl⟩ := List.mem_map.mp q
      rw [(Nw p (inO p hp)).2.2] at e; cases e
    have st : ∀ b o, Φ.h₀.get? b = some o → (hideAll s.heap (own.map (·.1))).get? b = some o := fun b o e => hideAll_get _ (F.keep b o e) (nm b o e)
    obtain ⟨oL, es, ep, hL, hLd⟩ := F.ns
    have nL : Φ.L ∉ own.map (·.1) := fun q => by
      obtain ⟨p, hp, e⟩ := List.mem_map.mp q
      exact (Nw p (inO p hp)).2.1 e
    have hLg := hideAll_get (own.map (·.1)) hL nL
    let Φ' : Cx G scope := ⟨A.deeper (callEnv (fnOf name qual params body scope dV kV doc pm an cdv ct) s.heap.objs.size f), hideAll s.heap (own.map (·.1)), s.heap.objs.size, [], qual ++ ".<locals>.", some f, cdv, some s.heap.objs.size, [], fun a o e => st a o (Φ.X a o e), Φ.T.keeps st, D.hk, hhd, by
      show A.units + 3 ≤ 3 * (A.depth + 1) + 4
      (exact qq1 [_,_] [3,1,4] 1 0x1108030844608045 1 0x44200cc5 qt hu), by show A.depth + 1 ≤ 1000; have : recursionLimit = 1000 := rfl; (exact qq2 [_,_] [1,1000] 1 0x2208045 1 0x608045 1 0x446 qt hdp (qE this)), List.nodup_nil, fun e => absurd e D.htop, fun e => absurd e D.htop, fun T hT e => absurd e (D.hmark T hT), fun T hT e => absurd e (D.hmark T hT), fun T hT e => absurd e (D.hmark T hT)⟩
    have S' : SimX Φ' W ⟨ns.zip as, τ.hp⟩ [] { s with heap := h₁, toks := s.toks + ((ns.map N).zip vs).length } := by
      refine ⟨_, n1, [], ⟨hns, fun b o e => hk₁ b o (of_hideAll _ e), Nat.le_of_eq (hideAll_size _ _)⟩, fun p hp => ?_, ?_, H, .nil, fun k v e => ?_, fun k c hm => (nomatch hm), o, g⟩
      · have hp : p ∈ own := hp
        exact ⟨hk₁ _ _ (Nw p (inO p hp)).1, Nat.ne_of_lt (Heap.lt_size (Nw p (inO p hp)).1), hideAll_none _ (List.mem_map_of_mem hp)⟩
      · refine List.Nodup.sublist (List.Sublist.map _ ?_) nd
        show List.Sublist (n1 ++ ([] ++ W.fro)) _
        exact (List.Sublist.append_left (List.Sublist.append_right (List.nil_sublist n2) W.fro) n1).trans (List.sublist_append_right x _)
      · obtain ⟨h1, c, hc, rc⟩ := zip_get r e
        exact .loc c (D.hloc k h1) (lookup_reverse nN (zip_names G.hN hc)) rc
    refine wpAny_mono (h Φ' rfl _ S') (fun fl s' y => ?_) fun _ _ y => y.elim
    obtain ⟨W', a, τ', le, ra, S2, q⟩ := y
    have ra' : ∀ ff : Flow, FRel G W' a ff → VRep G W' (retv a) (match ff with | .ret v => v | _ => .none) := fun ff rr => by
      cases rr with
      | next => exact .p (.none .nil)
      | brk => exact .p (.none .nil)
      | cont => exact .p (.none .nil)
      | ret rv => exact rv
    have ra' := ra' fl ra
    exact ⟨_, rfl, leave ⟨F, Nw, nd, H, Cc, L, cv, o, g⟩ rfl rfl le ra' S2 q⟩
end VE
namespace VE
variable {N : Nat → Str} {Z : Stc} {G : Gl N Z} {cs : Scope} {Φ : Cx G cs} {W : Wd} {τ : VS} {s : Shared} {x : List (Addr × Obj)}
noncomputable abbrev Defs := List (Nat × List Nat × WX)
/-- The calls of the text's own functions, to a depth. -/
noncomputable def callsR (T : Defs) : Nat → Calls
  | 0 => fun _ _ _ _ => False
  | d + 1 => fun f as hp Q => match getN f T with
    | some (ns, b) => gd (Nat.beq as.length ns.length) (b (callsR T d) ⟨ns.zip as, hp⟩ fun fl τ' => retW hp.length τ'.hp (retv fl) Q)
    | none => False
@[irreducible] noncomputable def callsOf (T : Defs) (d : Nat) : Calls := callsR T d
theorem callsOf_0 (T : Defs) (f : Addr) (as : List VV) (hp : List VO) (Q : Rs → List VO → Prop) : callsOf T 0 f as hp Q = False := by unfold callsOf; rfl
theorem callsOf_s (T : Defs) (d : Nat) (f : Addr) (as : List VV) (hp : List VO) (Q : Rs → List VO → Prop) : callsOf T (d + 1) f as hp Q = (match getN f T with
    | some (ns, b) => gd (Nat.beq as.length ns.length) (b (callsOf T d) ⟨ns.zip as, hp⟩ fun fl τ' => retW hp.length τ'.hp (retv fl) Q)
    | none => False) := by unfold callsOf; rfl
structure DefOk (G : Gl N Z) (f : Addr) (ns : List Nat) (b : WX) : Prop where intro ::
  run : ∀ (cs : Scope) (Φ : Cx G cs) (A : Around) (C : Calls), A.handled = none → A.units ≤ 3 * A.depth + 4 → A.depth ≤ 995 → CallsOk G (A.depth + 1) C → ∀ W τ x s as vs Q, SimX Φ W τ x s → VRepL G W as vs → vs.length = ns.length → b C ⟨ns.zip as, τ.hp⟩ (fun fl τ' => retW τ.hp.length τ'.hp (retv fl) Q) →
    codeAny (model G.prog G.w) A (.call (.ref f) ⟨vs, []⟩) (fun r s' => ∃ v, r = .ok (.ret v) ∧ R0 Φ W x (fun a τ' => τ'.loc = τ.loc ∧ Q a τ'.hp) v s') s
theorem DefOk.mk {f : Addr} {ns : List Nat} {b : WX} {name qual : Str} {params : Arguments} {body : List Stmt} {scope : Scope} {dV kV doc pm cdv ct oc : Value} {an od : Option Addr} {osl : Array (Option Value)} (D : FnOk G f ns name qual params body scope dV kV doc pm cdv ct oc an od osl)
    (hb : SB G scope body b) (hbind : ∀ vs s, vs.length = ns.length → BindsTo s (fnOf name qual params body scope dV kV doc pm an cdv ct) ⟨vs, []⟩ ((ns.map N).zip vs)) : DefOk G f ns b :=
  ⟨fun cs Φ A C hh hu hA ok W τ x s as vs Q S r hl q => enter D hh hu (Nat.lt_of_le_of_lt hA (by decide)) S r (hbind vs s hl) fun Φ' e' s1 S1 => hb Φ' C (e' ▸ ok) W _ [] s1 _ S1 q⟩
theorem VRepL.length {l : List VV} {vs : List Value} (r : VRepL G W l vs) : vs.length = l.length := by
  induction r with
  | nil => rfl
  | cons _ _ ih => simp [ih]
theorem callsOk {T : Defs} (hT : ∀ f ns b, getN f T = some (ns, b) → DefOk G f ns b) : ∀ d dep, dep + 3 + 4 * d < 1000 → CallsOk G dep (callsOf T d) := by
  intro d
  induction d with
  | zero => intro dep _ cs Φ A _ _ _ W τ x s f as vs Q S r q; rw [callsOf_0] at q; exact q.elim
  | succ d ih =>
    intro dep hd cs Φ A hh hu hA W τ x s f as vs Q S r q
    rw [callsOf_s] at q
    cases e : getN f T with
    | none => rw [e] at q; exact q.elim
    | some p =>
      obtain ⟨ns, b⟩ := p
      rw [e] at q
      obtain ⟨hl, q⟩ := gd_ex q
      have hl := Nat.eq_of_beq_eq_true hl
      have hA' : A.depth ≤ 995 := by (clear e hh hl hu; (exact qq2 [_,_,_] [995,3,1,4,1000] 1 0x45 1 0x20822104630884708446 1 0x1088c5 qt hd hA))
      exact (hT f ns b e).run cs Φ A (callsOf T d) hh hu hA' (ih _ (by (clear e hh hl hu; (exact qq2 [_,_,_] [1,3,4,1000] 1 0x18820104433042208045 1 0x18820104430804608447 1 0x1088e5 qt hd hA)))) W τ x s as vs Q S r (by rw [r.length, hl]) q
/-- The values of keyword arguments. -/
noncomputable def SK (G : Gl N Z) (cs : Scope) (kws : List Keyword) (w : WA) : Prop := ∀ (Φ : Cx G cs) C, CallsOk G Φ.A.depth C → ∀ pos W τ x s Q, SimX Φ W τ x s → w C τ Q → wpAny Φ.M Φ.A (evalAll ((backToKw pos (keywordEach kws Φ.env)).map (·.2))) (RA Φ W x Q) (fun _ _ => False) s
theorem SK_nil : SK G cs [] wA0 := fun Φ C ok pos W τ x s Q S q => wpAny_pure ⟨W, [], τ, .refl W, .nil, S, q⟩
theorem SK_cons {n : Option Str} {e : Expr} {kp : Pos} {rest : List Keyword} {w : WE} {ws : WA} (h : SE G cs e w) (h' : SK G cs rest ws) : SK G cs (⟨n, e, kp⟩ :: rest) (wAc w ws) := fun Φ C ok pos W τ x s Q S q => by
  show wpAny _ _ (evalAll ((do let v ← eval e Φ.env; standAt pos; pure v) :: ((backToKw pos (keywordEach rest Φ.env)).map (·.2)))) _ _ s
  refine wpAny_evalAll_cons (wpAny_bind (h.go ok S q fun W1 v τ1 c s1 le1 r1 S1 q1 => wpAny_bind (wpAny_standAt (wpAny_pure ?_))))
  exact wpAny_mono (h' Φ C ok pos W1 τ1 x s1 _ S1 q1) (fun vs s2 y => by
    obtain ⟨W2, as, τ2, le2, r2, S2, q2⟩ := y
    exact ⟨W2, v :: as, τ2, le1.trans le2, .cons (r1.mono le2) r2, S2, q2⟩) fun _ _ y => y
/-- An object of the class is made, its arguments by keywords. -/
structure NewOk (G : Gl N Z) : Prop where
  keep : keepIn G.K (.ref G.C) = true
  makes : makesIn G.K G.C = true
noncomputable abbrev wNew (T : Defs) (ns : List Nat) (b : WX) (ws : WA) : WE := fun C τ Q => ws C τ fun as τ1 => gd (Nat.beq (as.length + 1) ns.length) <| b (callsOf T 10) ⟨ns.zip (.ref τ1.hp.length :: as), τ1.hp ++ [.inst []]⟩ fun fl τ' => retW (τ1.hp.length + 1) τ'.hp (retv fl) fun r hp => match r with
  | .val (.p .none) => Q (.ref τ1.hp.length) ⟨τ1.loc, hp⟩
  | _ => False
theorem SE_new {T : Defs} (hT : ∀ f ns b, getN f T = some (ns, b) → DefOk G f ns b) {t : Str} {p : Pos} {kws : List Keyword} {pos : Pos} {fI : Addr} {kn : List Str} {ws : WA} {b : WX} {n : Nat} {ns : List Nat}
    {name qual : Str} {params : Arguments} {body : List Stmt} {scope : Scope} {dV kV doc pm cdv ct oc : Value} {an od : Option Addr} {osl : Array (Option Value)} (D : FnOk G fI ns name qual params body scope dV kV doc pm cdv ct oc an od osl) (hb : SB G scope body b)
    (O : NewOk G) (hi : findIn G.K (.ref G.C) "__init__" = some (some (.ref fI))) (hf : isFn G.K (.ref fI) = true) (htop : cs.names.lookup (N Z.topn) = some .local)
    (hn : N n = t) (hg : nsIn G.K mainGlobals t = some (some (.ref G.C))) (hk : cs.names.lookup t = some .globalImplicit) (h : SK G cs kws ws)
    (hbind : ∀ (s : Shared) v vs, G.K.In s.heap → vs.length + 1 = ns.length → BindsTo s (fnOf name qual params body scope dV kV doc pm an cdv ct) ⟨[v], kn.zip vs⟩ ((ns.map N).zip (v :: vs)))
    (hkn : ∀ env, (backToKw pos (keywordEach kws env)).filterMap (·.1) = kn) (hall : ∀ env, (backToKw pos (keywordEach kws env)).all (·.1.isSome) = true) (hplain : ∀ env, ((backTo pos (starEach [] env)).any (·.1) || (backToKw pos (keywordEach kws env)).any (·.1.isNone)) = false)
    (he : ∀ env, eval (.Call (.Name t p) [] kws pos) env = (do callWith pos (← eval (.Name t p) env) [] (backTo pos (starEach [] env)) (backToKw pos (keywordEach kws env)))) : SE G cs (.Call (.Name t p) [] kws pos) (wNew T ns b ws) := fun Φ C ok W τ x s Q S q => by
  subst hn
  rw [he]
  refine wpAny_bind (Calls.Name_function_global Φ.kind hk (Calls.loadGlobal_global (env := Φ.env) ((topRead_of Φ.T).g.keeps S.base) (mg_of Φ.K (topRead_of Φ.T).g hg) ?_) (G.hN.dbg n))
  refine callWith_KW0 Φ.K O.keep (hall _) (wpAny_mono (h Φ C ok pos W τ x s _ S q) (fun vs s2 y => ?_) fun _ _ y => y) (hplain _)
  obtain ⟨W1, as, τ1, le, r, S1, q1⟩ := y
  obtain ⟨hl, q1⟩ := gd_ex q1
  have hl := Nat.eq_of_beq_eq_true hl
  refine ⟨S1.K, ?_⟩
  rw [hkn]
  obtain ⟨m, n1, n2, F, Nw, nd, H, Cc, L, cv, o, g⟩ := id S1
  refine call_cls F Φ.K Nw O.makes hi hf fun y dy h' F' N' lt lt' => ?_
  have S2 : SimX Φ W1 τ1 ((y, instObj G.C dy) :: (dy, dictOf [] 0) :: x) { s2 with heap := h' } := by
    refine ⟨m, n1, n2, F', N', ?_, H, Cc, L, cv, o, g⟩
    show (((y, instObj G.C dy) :: (dy, dictOf [] 0) :: (x ++ (n1 ++ (n2 ++ W1.fro)))).map (·.1)).Nodup
    rw [List.map_cons, List.map_cons, List.nodup_cons, List.nodup_cons]
    refine ⟨fun hm => ?_, fun hm => ?_, nd⟩
    · rcases List.mem_cons.mp hm with q | q
      · exact Nat.ne_of_gt lt' q
      · obtain ⟨p, hp, e⟩ := List.mem_map.mp q
        exact Nat.ne_of_lt (Nat.lt_trans (lt p hp) lt') e
    · obtain ⟨p, hp, e⟩ := List.mem_map.mp hm
      exact Nat.ne_of_lt (lt p hp) e
  obtain ⟨W2, le2, e2, S3⟩ := S2.ownI (fs := []) (es := []) (n := 0) ⟨rfl, rfl, fun k => rfl⟩
  have un := Φ.un
  have ld := (Φ.lowd htop).1
  have hr : recursionLimit = 1000 := rfl
  refine codeAny_mono (enter (Φ := Φ) (A := Φ.A.under (.builtin "type.__call__" ⟨.ref G.C :: ([] ++ []), kn.zip vs⟩)) (as := .ref τ1.hp.length :: as) (vs := .ref y :: vs) D Φ.hh ?_ ?_ S3 (.cons (.ref e2) (r.mono le2)) (hbind _ _ _ S3.K (by rw [r.length, hl])) fun Φ' e' s4 S4 => hb Φ' (callsOf T 10) (callsOk hT 10 Φ'.A.depth ?_) W2 _ [] s4 _ S4 (by simpa using q1)) ?_
  · show Φ.A.units + 1 ≤ 3 * (Φ.A.depth + 1) + 4
    (clear e2 g hf hg hi hk hl hr htop ld lt' o; (exact qq1 [_,_] [1,3,4] 1 0x1108230804608045 1 0x44208cc5 qt un))
  · show Φ.A.depth + 1 < recursionLimit
    (clear e2 g hf hg hi hk hl htop lt' o un; (exact qq2 [_,_] [1,400,1000] 1 0x3040208045 1 0x445 1 0x1842 qt ld (qF hr)))
  · rw [e']
    show Φ.A.depth + 1 + 1 + 3 + 4 * 10 < 1000
    (clear e' e2 g hf hg hi hk hl hr htop lt' o un; (exact qq1 [_] [1,3,10,4,1000,400] 1 0x2082010463108211040208045 1 0x1445 qt ld))
  · rintro r' s' ⟨v, rfl, r0⟩
    cases r0 with
    | val W3 a τ3 l r3 S5 q3 =>
      obtain ⟨el, q3⟩ := q3
      cases a with
      | p a =>
        cases a <;> first | exact q3.elim | skip
        cases r3
        rename_i r3
        cases r3
        exact ⟨rfl, W3, _, τ3, (le.trans le2).trans l, .ref (l.at e2), S5, by rw [← el] at q3; exact q3⟩
      | ref => exact q3.elim
      | meth => exact q3.elim
      | lam => exact q3.elim
    | new W3 l τ3 q vs n l' r3 S5 q3 => exact q3.2.elim
end VE
namespace VE
variable {N : Nat → Str} {Z : Stc} {G : Gl N Z} {cs : Scope} {Φ : Cx G cs} {W : Wd} {τ : VS} {s : Shared} {x : List (Addr × Obj)}
/-- A part of a slice. -/
noncomputable abbrev WP := Calls → VS → (Option Int → VS → Prop) → Prop
inductive RP (Φ : Cx G cs) (W : Wd) (x : List (Addr × Obj)) (Q : Option Int → VS → Prop) (v : Value) (s : Shared) : Prop where
  | mk (W' : Wd) (i : Option Int) (τ : VS) (le : W.le W') (r : IsPart v i) (S : SimX Φ W' τ x s) (q : Q i τ)
noncomputable def SP (G : Gl N Z) (cs : Scope) (e : Option Expr) (w : WP) : Prop := ∀ (Φ : Cx G cs) C, CallsOk G Φ.A.depth C → ∀ W τ x s Q, SimX Φ W τ x s → w C τ Q → wpAny Φ.M Φ.A (evalPart e Φ.env) (RP Φ W x Q) (fun _ _ => False) s
noncomputable abbrev wP0 : WP := fun _ τ Q => Q none τ
theorem SP_none : SP G cs none wP0 := fun Φ C ok W τ x s Q S q => wpAny_pure ⟨W, none, τ, .refl W, .none, S, q⟩
noncomputable abbrev intV (v : VV) (Q : Int → Prop) : Prop := match v with
  | .p (.int i) => Q i
  | _ => False
noncomputable abbrev wP (w : WE) : WP := fun C τ Q => w C τ fun v τ' => intV v fun i => Q (some i) τ'
theorem SP_some {e : Expr} {w : WE} (h : SE G cs e w) : SP G cs (some e) (wP w) := fun Φ C ok W τ x s Q S q => by
  rw [evalPart_some]
  refine h.go ok S q fun W1 v τ1 c s1 le r S1 q1 => ?_
  unfold intV at q1
  split at q1
  · obtain ⟨t, rfl⟩ := r.int
    exact ⟨W1, _, τ1, le, .int _ t, S1, q1⟩
  · exact q1.elim
noncomputable def cutW (l : List PV) (i j : Option Int) (Q : List PV → Prop) : Prop := match i, j with
  | none, none => Q l
  | none, some j => 0 ≤ j ∧ Q (l.take j.toNat)
  | some i, none => 0 ≤ i ∧ Q (l.drop i.toNat)
  | some i, some j => (0 ≤ i ∧ i ≤ j ∧ j ≤ l.length) ∧ Q ((l.drop i.toNat).take (j.toNat - i.toNat))
theorem cutW_ex {F : Addr → Obj → Prop} {l : List PV} {vs : List Value} {i j : Option Int} {Q : List PV → Prop} (p : PRepL F l vs) (h : cutW l i j Q) : ∃ r, PRepL F r (slicePick vs.toArray i j none).toList ∧ Q r := by
  unfold cutW at h
  split at h
  · exact ⟨l, by rw [slicePick_all]; exact p, h⟩
  · obtain ⟨n, rfl⟩ := Int.eq_ofNat_of_zero_le h.1
    exact ⟨_, by rw [slicePick_upto']; exact p.take _, h.2⟩
  · obtain ⟨n, rfl⟩ := Int.eq_ofNat_of_zero_le h.1
    exact ⟨_, by rw [slicePick_from']; exact p.drop _, h.2⟩
  · obtain ⟨⟨h1, h2, h3⟩, q⟩ := h
    obtain ⟨n, rfl⟩ := Int.eq_ofNat_of_zero_le h1
    obtain ⟨m, rfl⟩ := Int.eq_ofNat_of_zero_le (Int.le_trans h1 h2)
    exact ⟨_, by rw [slicePick_run _ _ _ (by rw [List.size_toArray, p.length]; (exact qq1 [_,_] [] 1 0xc5 1 0xc5 qt (qIa h3))) (by (exact qq1 [_,_] [] 1 0xc5 1 0xc5 qt (qIa h2)))]; exact (p.drop _).take _, q⟩
noncomputable def sliW (hp : List VO) (v : VV) (i j : Option Int) (Q : List PV → Prop) : Prop := ∃ l, asL hp v = some l ∧ l.length ≤ sizeLine ∧ cutW l i j Q
noncomputable abbrev wSli (w : WE) (a b : WP) : W0 := fun C τ Q => w C τ fun v τ1 => a C τ1 fun i τ2 => b C τ2 fun j τ3 => sliW τ3.hp v i j fun l => Q (.new l) τ3
theorem S0_slice {value : Expr} {lo hi : Option Expr} {p pos : Pos} {w : WE} {a b : WP} (h : SE G cs value w) (ha : SP G cs lo a) (hb : SP G cs hi b) : S0 G cs (.Subscript value (.Slice lo hi none p) pos) (wSli w a b) := fun Φ C ok W τ x s Q S q =>
  Subscript_ (h.go ok S q fun W1 v τ1 c s1 le1 r1 S1 q1 => wpAny_Slice (wpAny_mono (ha Φ C ok W1 τ1 x s1 _ S1 q1) (fun vl s2 y => by
    obtain ⟨W2, i, τ2, le2, pi, S2, q2⟩ := y
    refine wpAny_mono (hb Φ C ok W2 τ2 x s2 _ S2 q2) (fun vu s3 y => ?_) fun _ _ y => y
    obtain ⟨W3, j, τ3, le3, pj, S3, l, e, hz, q3⟩ := y
    obtain ⟨y, vs, rfl, hl, p⟩ := S3.asL (r1.mono (le2.trans le3)) e
    obtain ⟨r, pr, q4⟩ := cutW_ex p q3
    refine wpAny_pure ?_
    refine tail_any (T := "list") (Heap.IsList.typeIs (s := { s3 with heap := s3.heap.push { cls := .type "slice", data := .fields #[vl, vu, .none] } }) (hl.push _)) slot_list_getitem.lookup
      (wpAny_getItem_list_slice (hl.push _) (Heap.IsSliceOf.new ..) pi pj .none (by simp) ?_ (by rw [List.size_toArray, p.length]; exact hz)) rfl
    have S4 := (S3.new (h' := s3.heap.push { cls := .type "slice", data := .fields #[vl, vu, .none] }) (t := s3.toks) (fun _ _ e => Heap.get?_push_of_some _ e) (Heap.get?_none_of_le (Nat.le_refl _)) (Heap.get?_push_size _ rfl)).forget
    have S5 := S4.new (h' := (s3.heap.push { cls := .type "slice", data := .fields #[vl, vu, .none] }).push { cls := .type "list", data := .seq (slicePick vs.toArray i j none) }) (t := s3.toks) (fun _ _ e => Heap.get?_push_of_some _ e) (Heap.get?_none_of_le (Nat.le_refl _)) (Heap.get?_push_size _ rfl)
    exact .new W3 r τ3 _ (slicePick vs.toArray i j none).toList 0 ((le1.trans le2).trans le3) pr S5 q4) fun _ _ y => y))
end VE
namespace VE
variable {N : Nat → Str} {Z : Stc} {G : Gl N Z} {cs : Scope} {Φ : Cx G cs} {W : Wd} {τ : VS} {s : Shared} {x : List (Addr × Obj)}
/-- A heap of which only some places are looked at. -/
noncomputable def restr (h : Heap) (p : Addr → Bool) : Heap := hideAll h ((List.range h.objs.size).filter fun b => !p b)
theorem restr_of {h : Heap} {p : Addr → Bool} {b : Addr} {o : Obj} (e : (restr h p).get? b = some o) : p b = true ∧ h.get? b = some o := by
  have e1 := of_hideAll _ e
  refine ⟨?_, e1⟩
  cases hp : p b with
  | true => rfl
  | false =>
    have : b ∈ (List.range h.objs.size).filter fun b => !p b := List.mem_filter.mpr ⟨List.mem_range.mpr (Heap.lt_size e1), by rw [hp]; rfl⟩
    have n := hideAll_none _ (h := h) this
    unfold restr at e
    rw [n] at e; cases e
theorem restr_get {h : Heap} {p : Addr → Bool} {b : Addr} {o : Obj} (hp : p b = true) (e : h.get? b = some o) : (restr h p).get? b = some o :=
  hideAll_get _ e fun hm => by
    have := (List.mem_filter.mp hm).2
    rw [hp] at this; cases this
theorem restr_size {h : Heap} {p : Addr → Bool} : (restr h p).objs.size = h.objs.size := hideAll_size _ _
/-- What a comprehension's block reads of the frame's cells. -/
noncomputable def clL (cells : List (Str × Addr)) : List (Str × NameKind) → List (Str × Addr) → List (Str × Addr)
  | [], acc => acc
  | (n, k) :: r, acc => match k == .free, cells.lookup n with
    | true, some a => clL cells r ((n, a) :: acc)
    | _, _ => clL cells r acc
theorem closure_is {env : Env} {names : List (Str × NameKind)} (h : ∀ p ∈ names, p.2 = .free → ∃ a, env.cells.lookup p.1 = some a) : ∀ acc : List (Str × Addr),
    (forIn names acc (fun (x : Str × NameKind) (r : List (Str × Addr)) => (match x with
      | (name, kind) => if (kind == .free) = true then (do let y ← cellOf env name; pure (ForInStep.yield ((name, y) :: r))) else pure (ForInStep.yield r) : Sem (ForInStep (List (Str × Addr)))))) = (pure (clL env.cells names acc) : Sem (List (Str × Addr))) := by
  induction names with
  | nil => intro acc; rfl
  | cons p r ih =>
    intro acc
    obtain ⟨n, k⟩ := p
    have ih := ih fun p hp => h p (.tail _ hp)
    rw [List.forIn_cons]
    cases hk : k == NameKind.free with
    | true =>
      obtain ⟨a, ha⟩ := h (n, k) (.head _) (beq_iff_eq.mp hk)
      simp only [clL, hk, ha, if_true]
      unfold cellOf
      rw [ha]
      exact ih _
    | false =>
      simp only [clL, hk, Bool.false_eq_true, if_false]
      exact ih _
theorem closureFor_is {scope : Scope} {env : Env} (h : ∀ p ∈ scope.names, p.2 = .free → ∃ a, env.cells.lookup p.1 = some a) : closureFor scope env = pure (clL env.cells scope.names []) := by
  unfold closureFor
  have := closure_is h []
  exact (congrArg (· >>= fun cs => pure cs) this).trans rfl
theorem clL_lookup {cells : List (Str × Addr)} {n : Str} {a : Addr} (ha : cells.lookup n = some a) : ∀ {names : List (Str × NameKind)} {acc : List (Str × Addr)}, (∀ b, acc.lookup n = some b → b = a) → ((n, NameKind.free) ∈ names ∨ acc.lookup n = some a) → (clL cells names acc).lookup n = some a := by
  intro names
  induction names with
  | nil => intro acc _ h; exact h.elim (fun h => by cases h) fun h => h
  | cons p r ih =>
    intro acc hc h
    obtain ⟨m, k⟩ := p
    simp only [clL]
    cases hk : k == NameKind.free with
    | false =>
      refine ih hc ?_
      rcases h with h | h
      · rcases List.mem_cons.mp h with q | q
        · cases q; cases hk
        · exact .inl q
      · exact .inr h
    | true =>
      cases hm : cells.lookup m with
      | none =>
        refine ih hc ?_
        rcases h with h | h
        · rcases List.mem_cons.mp h with q | q
          · cases q; rw [ha] at hm; cases hm
          · exact .inl q
        · exact .inr h
      | some b =>
        dsimp only
        by_cases e : n = m
        · subst e
          rw [ha] at hm; cases hm
          exact ih (fun b hb => by simp [List.lookup] at hb; exact hb.symm) (.inr (by simp [List.lookup]))
        · have ne : (n == m) = false := beq_eq_false_iff_ne.mpr e
          refine ih (fun b hb => by simp only [List.lookup, ne] at hb; exact hc b hb) ?_
          rcases h with h | h
          · rcases List.mem_cons.mp h with q | q
            · cases q; exact absurd rfl e
            · exact .inl q
          · exact .inr (by simp only [List.lookup, ne]; exact h)
noncomputable def pickN (loc : List (Nat × VV)) : List Nat → Option (List (Nat × VV))
  | [] => some []
  | k :: r => match getN k loc, pickN loc r with
    | some v, some l => some ((k, v) :: l)
    | _, _ => none
theorem pickN_has {loc : List (Nat × VV)} : ∀ {fv : List Nat} {b : List (Nat × VV)}, pickN loc fv = some b → (∀ k ∈ fv, ∃ v, getN k loc = some v) ∧ ∀ k v, getN k b = some v → k ∈ fv ∧ getN k loc = some v := by
  intro fv
  induction fv with
  | nil => intro b h; cases h; exact ⟨fun k hk => (nomatch hk), fun k v e => by cases e⟩
  | cons k r ih =>
    intro b h
    simp only [pickN] at h
    split at h
    · rename_i v l e1 e2
      cases h
      obtain ⟨h1, h2⟩ := ih e2
      refine ⟨fun j hj => ?_, fun j u e => ?_⟩
      · rcases List.mem_cons.mp hj with rfl | hj
        · exact ⟨v, e1⟩
        · exact h1 j hj
      · simp only [getN] at e
        cases hk : Nat.beq j k with
        | true => rw [hk] at e; cases e; rw [Nat.eq_of_beq_eq_true hk]; exact ⟨.head _, e1⟩
        | false => rw [hk] at e; obtain ⟨a, b⟩ := h2 j u e; exact ⟨.tail _ a, b⟩
    · cases h
end VE
namespace VE
variable {N : Nat → Str} {Z : Stc} {G : Gl N Z} {cs : Scope} {Φ : Cx G cs} {W : Wd} {τ : VS} {s : Shared} {x : List (Addr × Obj)}
theorem comp_loop {elt target iter : Expr} {scope : Scope} {pos : Pos} {it acc : Value} {env : Env} {R : Result → Shared → Prop} {s : Shared} (I : Nat → Shared → Prop)
    (turn : ∀ n s, I n s → wpAny Φ.M Φ.A (pyNext it) (fun r s₁ => match r with
      | none => R (.ok .next) s₁
      | some v => wpAny Φ.M Φ.A (letOwnedTupleGo target it v) (fun _ s₀ => wpAny Φ.M Φ.A (assign target env v) (fun _ s₂ =>
          wpAny Φ.M Φ.A (eval elt env) (fun x s₄ => wpAny Φ.M Φ.A (call (.builtin "list.append") [acc, x]) (fun _ s₅ => ∃ m, m < n ∧ I m s₅) (fun _ _ => False) s₄) (fun _ _ => False) s₂) (fun _ _ => False) s₀) (fun _ _ => False) s₁) (fun _ _ => False) s)
    (n : Nat) (h : I n s) : codeAny Φ.M Φ.A (.compLoop (.ListComp elt [⟨target, iter, [], 0⟩] scope pos) 0 it acc env) R s := by
  have no : ∀ {α : Type} {t : Sem α} {P P' : α → Shared → Prop} {E : Value → Shared → Prop} {s : Shared}, wpAny Φ.M Φ.A t P (fun _ _ => False) s → (∀ a s', P a s' → P' a s') → wpAny Φ.M Φ.A t P' E s := fun h k => wpAny_mono h k fun _ _ x => x.elim
  refine codeAny_loop rfl I (fun n s hI => ?_) n h
  show wpAny _ _ ((compTurn (.ListComp elt [⟨target, iter, [], 0⟩] scope pos) 0 it acc env).onRaise (fun x => do noteFrame x env; theTreesLotGoes x)) _ _ s
  refine wpAny_noted ?_
  rw [compTurn_list1]
  refine wpAny_bind (wpAny_standAt (wpAny_bind (no (turn n s hI) fun r s₁ h₁ => ?_)))
  cases r with
  | none => exact wpAny_pure h₁
  | some v =>
    refine wpAny_bind (no h₁ fun _ s₀ h₀ => wpAny_bind (no h₀ fun _ s₂ h₂ => ?_))
    exact wpAny_bind (wpAny_bind (no h₂ fun x s₄ h₄ => wpAny_bind (no h₄ fun _ s₅ h₅ => wpAny_pure (wpAny_pure ⟨rfl, h₅⟩))))
/-- The scope of a comprehension's block within a scope. -/
noncomputable def relC (scope cs : Scope) : Scope := { scope with names := scope.names.map fun (n, k) => if (k == .free && cs.kind == .function && cs.names.lookup n == some .cell) then (n, .cell) else (n, k) }
/-- A comprehension's turns. -/
noncomputable def compW (tgt : PV → VS → (VS → Prop) → Prop) (elt : VS → (VV → VS → Prop) → Prop) (hp : List VO) (base : List (Nat × VV)) (Q : List PV → Prop) : List PV → List PV → Prop
  | [], acc => Q acc
  | v :: r, acc => tgt v ⟨base, hp⟩ fun τ1 => elt τ1 fun u τ2 => τ2.hp = hp ∧ match u with
    | .p z => compW tgt elt hp base Q r (acc ++ [z])
    | _ => False
structure CompOk (N : Nat → Str) (Z : Stc) (cs scope : Scope) (fv : List Nat) : Prop where
  cell : ∀ y ∈ scope.names, y.2 ≠ .cell
  kind : scope.kind = .function
  names : ∀ y ∈ scope.names, y.2 = .local → scope.names.lookup y.1 = some .local
  free : ∀ y ∈ scope.names, y.2 = .free → ∃ n ∈ fv, N n = y.1
  fv1 : ∀ n ∈ fv, (N n, NameKind.free) ∈ scope.names
  fv2 : ∀ n ∈ fv, cs.names.lookup (N n) = some .cell ∨ cs.names.lookup (N n) = some .free
  fv3 : ∀ n ∈ fv, (relC scope cs).names.lookup (N n) = some .cell ∨ (relC scope cs).names.lookup (N n) = some .free
  top : (relC scope cs).names.lookup (N Z.topn) ≠ some .local
  mark : ∀ T ∈ Z.tds, (relC scope cs).names.lookup (N T.mark) ≠ some .local
/-- The frame's cells as they stand. -/
theorem SimX.cellOf (S : SimX Φ W τ x s) {k : Nat} {v : VV} (e : getN k τ.loc = some v) (hk : cs.names.lookup (N k) = some .cell ∨ cs.names.lookup (N k) = some .free) :
    ∃ c u, Φ.cells.lookup (N k) = some c ∧ s.heap.IsCell c (some u) ∧ VRep G W v u ∧ ((c ∈ Φ.cv.map (·.2) ∨ (Φ.h₀.get? c).isSome = true) ∨ ∃ o, (c, o) ∈ W.fro ∧ o.data = .cell (some u)) := by
  obtain ⟨m, n1, n2, F, Nw, nd, H, Cc, L, cv, o, g⟩ := S
  cases L k v e with
  | loc c a b r => rcases hk with q | q <;> rw [a] at q <;> cases q
  | cell hm =>
    obtain ⟨c, co, u, h1, h2, h3, r⟩ := Cc.at e hm
    exact ⟨c, u, (cv k c h1).2, ⟨co, (Nw (c, co) (by simp [h2])).1, h3⟩, r, .inl (.inl (List.mem_map.mpr ⟨_, h1, rfl⟩))⟩
  | fix c u a b d r =>
    refine ⟨c, u, b, d.keeps F.keep, r, .inl (.inr ?_)⟩
    obtain ⟨o, ho, _⟩ := d
    rw [ho]; rfl
  | froz c o u a b d e r => exact ⟨c, u, b, ⟨o, (Nw (c, o) (by simp [d])).1, e⟩, r, .inr ⟨o, d, e⟩⟩
theorem CR.keys {loc : List (Nat × VV)} {l ns} (h : CR G W loc l ns) : ns.map (·.1) = l.map (·.2) := by
  induction h with
  | nil => rfl
  | cons _ _ _ ih => simp [ih]
/-- What stands while a comprehension runs. -/
noncomputable def stay (Φ : Cx G cs) (x : List (Addr × Obj)) (b : Addr) : Bool := (Φ.h₀.get? b).isSome || (x.map (·.1)).contains b || (Φ.cv.map (·.2)).contains b || b == Φ.L
/-- The frame of a comprehension's block. -/
noncomputable def compCx (Φ : Cx G cs) (scope : Scope) (cl : List (Str × Addr)) (C : Addr) (h₀ : Heap) (X : ∀ a o, G.h.get? a = some o → h₀.get? a = some o) (T : Top G.p G.loose G.mean G.mg G.mb h₀) (fv : List Nat) (ok : CompOk N Z cs scope fv) : Cx G (relC scope cs) :=
  ⟨Φ.A, h₀, C, cl, Φ.qual, none, Φ.code, Φ.frame, [], X, T, ok.kind, Φ.hh, Φ.un, Φ.dp, List.nodup_nil, fun e => absurd e ok.top, fun e => absurd e ok.top, fun T hT e => absurd e (ok.mark T hT), fun T hT e => absurd e (ok.mark T hT), fun T hT e => absurd e (ok.mark T hT)⟩
end VE
namespace VE
variable {N : Nat → Str} {Z : Stc} {G : Gl N Z} {cs : Scope} {Φ : Cx G cs} {W : Wd} {τ : VS} {s : Shared} {x : List (Addr × Obj)}
/-- Into a comprehension's block, and back. -/
theorem comp_in {Φc : Cx G scope'} {D C : Addr} {oD oC : Obj} {e : List (Addr × Obj)} {b : List (Nat × VV)} {h₁ : Heap} {mC : Str → Option Value} (hΦ : Φc.h₀ = restr h₁ (stay Φ x)) (hL : Φc.L = C) (hcv : Φc.cv = []) (hsz : h₁.objs.size ≤ C)
    (K0 : ∀ a o, Φc.h₀.get? a = some o → s.heap.get? a = some o) (hC : s.heap.Ns C mC) (hb : ∀ k v, getN k b = some v → LR Φc W mC k v) (S : SimX Φ W τ (e ++ (D, oD) :: (C, oC) :: x) s) :
    SimX Φc W ⟨b, τ.hp⟩ ((D, oD) :: e) s := by
  obtain ⟨m, n1, n2, F, Nw, nd, H, Cc, L, cv, o, g⟩ := S
  subst hL
  have pm : ((e ++ (D, oD) :: (Φc.L, oC) :: x) ++ (n1 ++ (n2 ++ W.fro))).Perm ((((D, oD) :: e) ++ (n1 ++ W.fro)) ++ ((Φc.L, oC) :: (x ++ n2))) := by
    have e1 : (e ++ (D, oD) :: (Φc.L, oC) :: x) ++ (n1 ++ (n2 ++ W.fro)) = e ++ ((D, oD) :: ((Φc.L, oC) :: (x ++ (n1 ++ (n2 ++ W.fro))))) := by simp
    have e2 : (((D, oD) :: e) ++ (n1 ++ W.fro)) ++ ((Φc.L, oC) :: (x ++ n2)) = (D, oD) :: (e ++ ((n1 ++ W.fro) ++ ((Φc.L, oC) :: (x ++ n2)))) := by simp
    rw [e1, e2]
    refine List.perm_middle.trans (List.Perm.cons _ (List.Perm.append_left e ?_))
    show ([(Φc.L, oC)] ++ (x ++ (n1 ++ (n2 ++ W.fro)))).Perm ((n1 ++ W.fro) ++ ([(Φc.L, oC)] ++ (x ++ n2)))
    refine List.Perm.trans (List.Perm.append_left _ ?_) (List.perm_append_comm_assoc _ _ _)
    refine List.Perm.trans ?_ List.perm_append_comm
    rw [List.append_assoc]
    exact List.Perm.append_left x (List.perm_append_comm_assoc n1 n2 W.fro)
  have nd' := ((pm.map (·.1)).nodup_iff).mp nd
  rw [List.map_append, List.nodup_append] at nd'
  obtain ⟨nda, _, ndb⟩ := nd'
  refine ⟨mC, n1, [], ⟨hC, K0, by rw [hΦ, restr_size]; exact hsz⟩, fun p hp => ?_, nda, H, by rw [hcv]; exact .nil, hb, (fun k c hm => by rw [hcv] at hm; cases hm), o, g⟩
  have hp : p ∈ ((D, oD) :: e) ++ (n1 ++ W.fro) := hp
  have P := Nw p (pm.symm.subset (List.mem_append_left _ hp))
  have hk : p.1 ∈ (((D, oD) :: e) ++ (n1 ++ W.fro)).map (·.1) := List.mem_map_of_mem hp
  refine ⟨P.1, fun q => ndb _ hk _ (List.mem_map.mpr ⟨(Φc.L, oC), .head _, rfl⟩) q, ?_⟩
  cases q : Φc.h₀.get? p.1 with
  | none => rfl
  | some o' =>
    rw [hΦ] at q
    obtain ⟨hs, _⟩ := restr_of q
    unfold stay at hs
    simp only [Bool.or_eq_true, List.contains_iff_mem, beq_iff_eq] at hs
    rcases hs with ((hs | hs) | hs) | hs
    · rw [P.2.2] at hs; cases hs
    · obtain ⟨p', hp', e'⟩ := List.mem_map.mp hs
      exact absurd e'.symm (ndb _ hk _ (List.mem_map.mpr ⟨p', .tail _ (List.mem_append_left _ hp'), rfl⟩))
    · rw [← Cc.keys] at hs
      obtain ⟨p', hp', e'⟩ := List.mem_map.mp hs
      exact absurd e'.symm (ndb _ hk _ (List.mem_map.mpr ⟨p', .tail _ (List.mem_append_right _ hp'), rfl⟩))
    · exact absurd hs P.2.1
theorem comp_out {Φc : Cx G scope'} {D C : Addr} {oD oC : Obj} {e : List (Addr × Obj)} {W' : Wd} {τc : VS} {s' : Shared} {h₁ : Heap} (hΦ : Φc.h₀ = restr h₁ (stay Φ x)) (hL : Φc.L = C) (hcv : Φc.cv = [])
    (h1 : ∀ a o, stay Φ x a = true → s.heap.get? a = some o → h₁.get? a = some o) (le : W.le W') (S : SimX Φ W τ (e ++ (D, oD) :: (C, oC) :: x) s) (S' : SimX Φc W' τc ((D, oD) :: e) s') (eh : τc.hp = τ.hp) :
    ∃ oC', (∃ mC : Str → Option Value, ∃ es ep, oC'.data = .dict es ep ∧ StrKeys es ∧ ∀ name, nsFind es name = mC name) ∧ SimX Φ W' τ (e ++ (D, oD) :: (C, oC') :: x) s' := by
  obtain ⟨m, n1, n2, F, Nw, nd, H, Cc, L, cv, o, g⟩ := S
  obtain ⟨m2, k1, k2, F2, Nw2, nd2, H2, C2, _, _, o2, g2⟩ := S'
  rw [hcv] at C2
  cases C2
  subst hL
  rw [eh] at H2
  obtain ⟨oC', esC, epC, gC, rC⟩ := F2.ns
  have kp : ∀ a o, stay Φ x a = true → s.heap.get? a = some o → s'.heap.get? a = some o := fun a o hs e => F2.keep a o (by rw [hΦ]; exact restr_get hs (h1 a o hs e))
  obtain ⟨oL, es, ep, hgL, hLd⟩ := F.ns
  have FF : Fr Φ.h₀ Φ.L s'.heap m := ⟨⟨oL, es, ep, kp _ _ (by simp [stay]) hgL, hLd⟩, fun b o e => kp b o (by simp [stay, e]) (F.keep b o e), F.above⟩
  have oldx : ∀ p ∈ x ++ n2, s'.heap.get? p.1 = some p.2 ∧ p.1 ≠ Φ.L ∧ Φ.h₀.get? p.1 = none ∧ stay Φ x p.1 = true := fun p hp => by
    have P := Nw p (by rcases List.mem_append.mp hp with q | q <;> simp [q])
    have hs : stay Φ x p.1 = true := by
      unfold stay
      simp only [Bool.or_eq_true, List.contains_iff_mem, beq_iff_eq]
      rcases List.mem_append.mp hp with q | q
      · exact .inl (.inl (.inr (List.mem_map_of_mem q)))
      · refine .inl (.inr ?_)
        rw [← Cc.keys]
        exact List.mem_map_of_mem q
    exact ⟨kp _ _ hs P.1, P.2.1, P.2.2, hs⟩
  have newc : ∀ p ∈ ((D, oD) :: e) ++ (k1 ++ W'.fro), s'.heap.get? p.1 = some p.2 ∧ p.1 ≠ Φ.L ∧ Φ.h₀.get? p.1 = none ∧ p.1 ≠ Φc.L ∧ Φc.h₀.get? p.1 = none := fun p hp => by
    have P := Nw2 p (by simpa using hp)
    refine ⟨P.1, fun q => ?_, ?_, P.2.1, P.2.2⟩
    · have := P.2.2
      rw [q, hΦ, restr_get (by simp [stay]) (h1 _ _ (by simp [stay]) hgL)] at this
      cases this
    · cases q : Φ.h₀.get? p.1 with
      | none => rfl
      | some o' =>
        have := P.2.2
        rw [hΦ, restr_get (by simp [stay, q]) (h1 _ _ (by simp [stay, q]) (F.keep _ _ q))] at this
        cases this
  have hCold := Nw (Φc.L, oC) (by simp)
  have hCx : ∀ p ∈ x ++ n2, p.1 ≠ Φc.L := fun p hp q => by
    have pm : ((e ++ (D, oD) :: (Φc.L, oC) :: x) ++ (n1 ++ (n2 ++ W.fro))).Perm ((Φc.L, oC) :: ((e ++ (D, oD) :: x) ++ (n1 ++ (n2 ++ W.fro)))) := by
      have e1 : (e ++ (D, oD) :: (Φc.L, oC) :: x) ++ (n1 ++ (n2 ++ W.fro)) = (e ++ [(D, oD)]) ++ (Φc.L, oC) :: (x ++ (n1 ++ (n2 ++ W.fro))) := by simp
      rw [e1]
      refine List.perm_middle.trans ?_
      simp
    have nd' := ((pm.map (·.1)).nodup_iff).mp nd
    rw [List.map_cons, List.nodup_cons] at nd'
    refine nd'.1 (List.mem_map.mpr ⟨p, ?_, q⟩)
    rcases List.mem_append.mp hp with z | z <;> simp [z]
  refine ⟨oC', ⟨m2, esC, epC, rC⟩, m, k1, n2, FF, fun p hp => ?_, ?_, H2, Cc.mono le, fun k v e => (L k v e).mono le, cv, o2, g2⟩
  · simp only [List.mem_append, List.mem_cons] at hp
    rcases hp with (q | q | q | q) | q | q | q
    · have P := newc p (by simp [q]); exact ⟨P.1, P.2.1, P.2.2.1⟩
    · have P := newc p (by simp [q]); exact ⟨P.1, P.2.1, P.2.2.1⟩
    · subst q; exact ⟨gC, hCold.2⟩
    · have P := oldx p (by simp [q]); exact ⟨P.1, P.2.1, P.2.2.1⟩
    · have P := newc p (by simp [q]); exact ⟨P.1, P.2.1, P.2.2.1⟩
    · have P := oldx p (by simp [q]); exact ⟨P.1, P.2.1, P.2.2.1⟩
    · have P := newc p (by simp [q]); exact ⟨P.1, P.2.1, P.2.2.1⟩
  · have pm : ((Φc.L, oC') :: (((x ++ n2)) ++ (((D, oD) :: e) ++ (k1 ++ W'.fro)))).Perm ((e ++ (D, oD) :: (Φc.L, oC') :: x) ++ (k1 ++ (n2 ++ W'.fro))) := by
      have e1 : (e ++ (D, oD) :: (Φc.L, oC') :: x) ++ (k1 ++ (n2 ++ W'.fro)) = (e ++ [(D, oD)]) ++ (Φc.L, oC') :: (x ++ (k1 ++ (n2 ++ W'.fro))) := by simp
      rw [e1]
      refine List.Perm.trans (List.Perm.cons _ ?_) List.perm_middle.symm
      have e2 : (e ++ [(D, oD)]) ++ (x ++ (k1 ++ (n2 ++ W'.fro))) = (e ++ [(D, oD)]) ++ ((x ++ (k1 ++ (n2 ++ W'.fro)))) := rfl
      refine List.Perm.trans (List.perm_append_comm (l₁ := x ++ n2)) ?_
      have e3 : ((D, oD) :: e ++ (k1 ++ W'.fro)) ++ (x ++ n2) = ((D, oD) :: e) ++ ((k1 ++ W'.fro) ++ (x ++ n2)) := by simp
      rw [e3]
      refine List.Perm.append (List.perm_append_comm (l₁ := [(D, oD)])) ?_
      refine List.Perm.trans List.perm_append_comm ?_
      rw [List.append_assoc]
      refine List.Perm.append_left x ?_
      exact List.perm_append_comm_assoc n2 k1 W'.fro
    refine ((pm.map (·.1)).nodup_iff).mp ?_
    rw [List.map_cons, List.nodup_cons, List.map_append, List.nodup_append]
    refine ⟨fun hm => ?_, ?_, by simpa using nd2, fun a ha b hb e' => ?_⟩
    · rcases List.mem_append.mp hm with q | q
      · obtain ⟨p, hp, e'⟩ := List.mem_map.mp q
        exact hCx p hp e'
      · obtain ⟨p, hp, e'⟩ := List.mem_map.mp q
        exact (newc p hp).2.2.2.1 e'
    · refine List.Nodup.sublist (List.Sublist.map _ ?_) nd
      refine List.Sublist.append (((List.sublist_cons_self _ _).trans (List.sublist_cons_self _ _)).trans (List.sublist_append_right e _)) ?_
      exact (List.sublist_append_left n2 W.fro).trans (List.sublist_append_right n1 _)
    · obtain ⟨p, hp, rfl⟩ := List.mem_map.mp ha
      obtain ⟨p', hp', rfl⟩ := List.mem_map.mp hb
      have P := oldx p hp
      have Q := (newc p' hp').2.2.2.2
      have old := Nw p (by rcases List.mem_append.mp hp with q | q <;> simp [q])
      rw [← e', hΦ, restr_get P.2.2.2 (h1 _ _ P.2.2.2 old.1)] at Q
      cases Q
end VE
namespace VE
variable {N : Nat → Str} {Z : Stc} {G : Gl N Z} {cs : Scope} {Φ : Cx G cs} {W : Wd} {τ : VS} {s : Shared} {x : List (Addr × Obj)}
noncomputable def NsD (o : Obj) : Prop := ∃ mC : Str → Option Value, ∃ es ep, o.data = .dict es ep ∧ StrKeys es ∧ ∀ name, nsFind es name = mC name
/-- One of the other objects is changed. -/
theorem SimX.updM {e : List (Addr × Obj)} {q : Addr} {co co' : Obj} {h' : Heap} (S : SimX Φ W τ (e ++ (q, co) :: x) s) (e1 : h'.get? q = some co') (sb : Heap.SameBut q s.heap h') (t : Nat) : SimX Φ W τ (e ++ (q, co') :: x) { s with heap := h', toks := t } := by
  have pm : ∀ c : Obj, (e ++ (q, c) :: x).Perm ((q, c) :: (e ++ x)) := fun c => List.perm_middle
  exact ((S.perm (pm co)).updX e1 sb t).perm (pm co').symm
theorem SimX.mid {e : List (Addr × Obj)} {q : Addr} {co : Obj} (S : SimX Φ W τ (e ++ (q, co) :: x) s) : s.heap.get? q = some co := (S.perm (x' := (q, co) :: (e ++ x)) List.perm_middle).first
theorem SimX.stays {e : List (Addr × Obj)} {a : Addr} (S : SimX Φ W τ (e ++ x) s) (h : stay Φ x a = true) : ∃ o, s.heap.get? a = some o := by
  obtain ⟨m, n1, n2, F, Nw, nd, H, Cc, L, cv, o, g⟩ := S
  unfold stay at h
  simp only [Bool.or_eq_true, List.contains_iff_mem, beq_iff_eq] at h
  rcases h with ((h | h) | h) | h
  · obtain ⟨o, ho⟩ := Option.isSome_iff_exists.mp h
    exact ⟨o, F.keep _ _ ho⟩
  · obtain ⟨p, hp, rfl⟩ := List.mem_map.mp h
    exact ⟨p.2, (Nw p (by simp [hp])).1⟩
  · rw [← Cc.keys] at h
    obtain ⟨p, hp, rfl⟩ := List.mem_map.mp h
    exact ⟨p.2, (Nw p (by simp [hp])).1⟩
  · obtain ⟨oL, _, _, hL, _⟩ := F.ns
    exact ⟨oL, h ▸ hL⟩
inductive CoI (Φ : Cx G cs) (W : Wd) (x : List (Addr × Obj)) (τ : VS) (l : List PV) (XP : Nat → List (Addr × Obj) → Prop) (D Ca : Addr) (H : Shared → Prop) (R : List PV → List PV → Prop) (n : Nat) (s : Shared) : Prop where
  | mk (i : Nat) (W' : Wd) (e : List (Addr × Obj)) (vs : List Value) (nD : Nat) (oC : Obj) (acc : List PV) (en : n + i = l.length + 1) (hi : i ≤ l.length) (le : W.le W') (xi : XP i e) (S : SimX Φ W' τ (e ++ (D, listOf vs.toArray nD) :: (Ca, oC) :: x) s) (nsd : NsD oC) (pr : PRepL (FW G W') acc vs) (al : acc.length ≤ i) (K : H s) (q : R (l.drop i) acc)
theorem comp_go {elt iter target : Expr} {scope : Scope} {pos : Pos} {fv : List Nat} {t : WS} {w : WE} (ok : CompOk N Z cs scope fv) (ht : SS G (relC scope cs) target t) (he : SE G (relC scope cs) elt w) {C : Calls} (okC : CallsOk G Φ.A.depth C)
    {l : List PV} {keep : VS → Prop} {XP : Nat → List (Addr × Obj) → Prop} {e0 : List (Addr × Obj)} {it : Value} (src : SrcOk Φ W l keep it XP) (x0 : XP 0 e0) (S : SimX Φ W τ (e0 ++ x) s) (kp : keep τ) {b : List (Nat × VV)} (hb : pickN τ.loc fv = some b) (hz : l.length ≤ 1000000)
    {Q : List PV → Prop} (q : compW (fun v τ q => t C τ (.p v) q) (w C) τ.hp b Q l []) {use : Option (Value → Sem Unit)} {P : Value → Shared → Prop}
    (hend : ∀ W' acc vs n D Ca oC s', W.le W' → PRepL (FW G W') acc vs → SimX Φ W' τ ((D, listOf vs.toArray n) :: (Ca, oC) :: x) s' → NsD oC → Q acc → compPost Φ.M Φ.A (fun _ _ => False) use P (.ref D) Ca (.ok .next) s') :
    wpAny Φ.M Φ.A (newList []) (fun acc s₃ => wpAny Φ.M Φ.A (newFunctionEnv scope Φ.env.globals (clL Φ.cells scope.names []) [] Φ.env.qual none .none (some Φ.env)) (fun cenv s₄ =>
        codeAny Φ.M Φ.A (.compStart (.ListComp elt [⟨target, iter, [], 0⟩] scope pos) 0 it acc { cenv with scope := relabel scope Φ.env }) (compPost Φ.M Φ.A (fun _ _ => False) use P acc cenv.locals) s₄) (fun _ _ => False) s₃) (fun _ _ => False) s := by
  refine wpAny_newObj_type (hd := by size_fits) ?_
  have S2 := ((S.new (h' := s.heap.push { cls := .type "list", dict := none, data := .seq ([] : List Value).toArray }) (t := s.toks) (fun _ _ e => Heap.get?_push_of_some _ e) (Heap.get?_none_of_le (Nat.le_refl _)) (Heap.get?_push_size _ rfl)).perm (x' := e0 ++ (s.heap.objs.size, listOf ([] : List Value).toArray 0) :: x) List.perm_middle.symm)
  generalize s.heap.objs.size = D at S2 ⊢
  generalize hs₂ : ({ s with heap := s.heap.push { cls := .type "list", dict := none, data := .seq ([] : List Value).toArray } } : Shared) = s₂ at S2 ⊢
  refine wpAny_newFunctionEnv ok.cell (by intro y hy; simp at hy) (fun h₁ hns₁ hsb₁ => ?_) ok.kind
  have k₁ : ∀ b o, s₂.heap.get? b = some o → h₁.get? b = some o := fun b o x => hsb₁.extBut b o (Nat.ne_of_lt (Heap.lt_size x)) (Heap.get?_push_of_some _ x)
  obtain ⟨oC, esC, epC, gC, rC⟩ := id hns₁
  have S3 := (S2.new (h' := h₁) (t := s₂.toks) k₁ (Heap.get?_none_of_le (Nat.le_refl _)) gC).perm (x' := e0 ++ (D, listOf ([] : List Value).toArray 0) :: (s₂.heap.objs.size, oC) :: x) (by
    have : e0 ++ (D, listOf ([] : List Value).toArray 0) :: (s₂.heap.objs.size, oC) :: x = (e0 ++ [(D, listOf ([] : List Value).toArray 0)]) ++ (s₂.heap.objs.size, oC) :: x := by simp
    rw [this]
    refine List.Perm.trans ?_ List.perm_middle.symm
    simp)
  have hCsz : s₂.heap.objs.size = s₂.heap.objs.size := rfl
  generalize hCa : s₂.heap.objs.size = Ca at S3 gC hns₁ ⊢
  have st : ∀ a o, Φ.h₀.get? a = some o → (restr s₂.heap (stay Φ x)).get? a = some o := fun a o e => restr_get (by simp [stay, e]) (S2.base a o e)
  let Φc := compCx Φ scope (clL Φ.cells scope.names []) Ca (restr s₂.heap (stay Φ x)) (fun a o e => st a o (Φ.X a o e)) (Φ.T.keeps st) fv ok
  have HB : ∀ W' mC k v, W.le W' → getN k b = some v → LR Φc W' mC k v := fun W' mC k v le e => by
    obtain ⟨h1, h2⟩ := pickN_has hb
    obtain ⟨h3, h4⟩ := h2 k v e
    obtain ⟨c, u, e1, e2, r, hs⟩ := S2.cellOf h4 (ok.fv2 k h3)
    rcases hs with hs | ⟨o, hm, hd⟩
    rotate_left
    · exact .froz c o u (ok.fv3 k h3) (clL_lookup e1 (fun b hb => by cases hb) (.inl (ok.fv1 k h3))) (le.fro hm) hd (r.mono le)
    obtain ⟨oc, e3, e4⟩ := e2
    refine .fix c u (ok.fv3 k h3) (clL_lookup e1 (fun b hb => by cases hb) (.inl (ok.fv1 k h3))) ⟨oc, restr_get ?_ e3, e4⟩ (r.mono le)
    unfold stay
    simp only [Bool.or_eq_true, List.contains_iff_mem, beq_iff_eq]
    rcases hs with hs | hs
    · exact .inl (.inr hs)
    · exact .inl (.inl (.inl hs))
  have L : ∀ s', SimX Φ W τ (e0 ++ (D, listOf ([] : List Value).toArray 0) :: (Ca, oC) :: x) s' → (∀ a o, Φc.h₀.get? a = some o → s'.heap.get? a = some o) →
      codeAny Φ.M Φ.A (.compLoop (.ListComp elt [⟨target, iter, [], 0⟩] scope pos) 0 it (.ref D) Φc.env) (compPost Φ.M Φ.A (fun _ _ => False) use P (.ref D) Ca) s' := fun s' S' K' => by
    refine comp_loop (CoI Φ W x τ l XP D Ca (fun s' => ∀ a o, Φc.h₀.get? a = some o → s'.heap.get? a = some o) (compW (fun v τ q => t C τ (.p v) q) (w C) τ.hp b Q)) (fun n s' hI => ?_) (l.length + 1) ⟨0, W, e0, [], 0, oC, [], rfl, Nat.zero_le _, .refl _, x0, S', ⟨_, esC, epC, rC⟩, .nil, Nat.le_refl _, K', q⟩
    obtain ⟨i, W', e, vs, nD, oC, acc, en, hi, le', xi, S', nsd, pr, al, K', q'⟩ := hI
    by_cases hie : i = l.length
    · subst hie
      refine src.stop W' τ e _ s' _ le' xi S' kp fun s3 S3 => ?_
      rw [List.drop_length] at q'
      exact hend W' acc vs nD D Ca oC s3 le' pr S3 nsd q'
    · have hlt : i < l.length := Nat.lt_of_le_of_ne hi hie
      have ha : l[i]? = some l[i] := List.getElem?_eq_getElem hlt
      rw [List.drop_eq_getElem_cons hlt] at q'
      have nsOf : ∀ {e : List (Addr × Obj)} {oD oC : Obj} {W' : Wd} {s' : Shared}, SimX Φ W' τ (e ++ (D, oD) :: (Ca, oC) :: x) s' → NsD oC → ∃ mC, s'.heap.Ns Ca mC := fun {e oD oC W' s'} S ⟨mC, es, ep, r⟩ =>
        ⟨mC, oC, es, ep, (show SimX Φ W' τ ((e ++ [(D, oD)]) ++ (Ca, oC) :: x) s' by simpa using S).mid, r⟩
      obtain ⟨mC, hN⟩ := nsOf S' nsd
      have Sc := comp_in (Φc := Φc) rfl rfl rfl (Nat.le_of_eq hCa) K' hN (fun k v e => HB W' mC k v le' e) S'
      refine src.item i _ W' τ e _ s' _ le' ha xi S' kp fun c e' s1 rc xi' S1 oth => ?_
      refine src.go (i + 1) W' τ e' _ s1 target c _ xi' S1 ?_
      have K1 : ∀ a o, Φc.h₀.get? a = some o → s1.heap.get? a = some o := fun a o ea => oth a o (fun hm => by
        obtain ⟨p, hp, e1⟩ := List.mem_map.mp hm
        obtain ⟨_, _, _, _, Nwc, _⟩ := Sc
        have := (Nwc p (by simp [hp])).2.2
        rw [e1, ea] at this; cases this) (K' a o ea)
      obtain ⟨mC1, hN1⟩ := nsOf S1 nsd
      have Sc1 := comp_in (Φc := Φc) rfl rfl rfl (Nat.le_of_eq hCa) K1 hN1 (fun k v e => HB W' mC1 k v le' e) S1
      refine wpAny_mono (ht Φc C okC W' _ _ s1 (.p l[i]) c _ Sc1 (.p rc) q') (fun _ s2 y => ?_) fun _ _ y => y
      obtain ⟨W2, τ2, le2, Sc2, q2⟩ := y
      refine wpAny_mono (he Φc C okC W2 τ2 _ s2 _ Sc2 q2) (fun u s3 y => ?_) fun _ _ y => y
      obtain ⟨W3, uv, τ3, le3, ru, Sc3, eh, q3⟩ := y
      have stK : ∀ a o, stay Φ x a = true → s1.heap.get? a = some o → s₂.heap.get? a = some o := fun a o hs e => by
        obtain ⟨o2, h2⟩ := SimX.stays (e := e0 ++ [(D, listOf ([] : List Value).toArray 0)]) (x := x) (by simpa using S2) hs
        have := K1 a o2 (restr_get hs h2)
        rw [e] at this
        cases this
        exact h2
      obtain ⟨oC', nsd', S3⟩ := comp_out (Φc := Φc) (h₁ := s₂.heap) rfl rfl rfl stK (le2.trans le3) S1 Sc3 eh
      cases uv with
      | ref => exact q3.elim
      | meth => exact q3.elim
      | lam => exact q3.elim
      | p z =>
        cases ru with
        | p rz =>
          have hD := S3.mid
          have le13 := le2.trans le3
          have prl := (pr.mono le13.FW).app rz
          refine append_at hD (fun h' sb ho' => ?_) (hsz := ?_)
          · have S4 := S3.updM (co' := listOf (vs ++ [u]).toArray (nD + 1)) (by rw [ho', List.push_toArray]) sb s3.toks
            refine ⟨l.length - i, by (exact qq2 [_,_,_,_] [1] 1 0x608045 1 0x50608047 1 0x38505 qt (qF en) (qR (qq1 [_,_] [1] 1 0xc5 1 0x608045 qt hlt))), i + 1, W3, e', vs ++ [u], nD + 1, oC', acc ++ [z], by (exact Nat.le_antisymm (qq1 [_,_,_] [1] 1 0x2011c21008c5 1 0x384c5 qt (qR (qq1 [_,_] [1] 1 0xc5 1 0x608045 qt hlt))) (qq1 [_,_,_] [1] 1 0x21008e608045 1 0x9cc5 qt (qS _ _))), hlt, le'.trans le13, xi', S4, nsd', prl, by simp; (exact qq1 [_,_] [] 1 0xc5 1 0xc5 qt al), fun a o ea => ?_, q3⟩
            have : a ≠ D := fun e1 => by
              obtain ⟨_, _, _, _, Nwc, _⟩ := Sc3
              have := (Nwc (D, listOf vs.toArray nD) (by simp)).2.2
              rw [← e1] at this
              rw [ea] at this; cases this
            obtain ⟨_, _, _, Fc, _⟩ := Sc3
            exact (sb.2 a this).trans (Fc.keep a o ea)
          · have := pr.length
            have : sizeLine = 2 ^ 24 := rfl
            simp only [List.size_toArray]
            lia
  have K3 : ∀ a o, Φc.h₀.get? a = some o → ({ s₂ with heap := h₁, toks := s₂.toks } : Shared).heap.get? a = some o := fun a o e => k₁ a o (restr_of e).2
  exact codeAny_compStart_list (L _ S3 K3) (wpAny_mono (src.again 0 W τ e0 _ _ (fun v s' => v = it ∧ s' = _) (.refl W) x0 S3 ⟨rfl, rfl⟩) (fun _ _ y => by obtain ⟨rfl, rfl⟩ := y; exact L _ S3 K3) fun _ _ y => y.elim)
end VE
namespace VE
variable {N : Nat → Str} {Z : Stc} {G : Gl N Z} {cs : Scope} {Φ : Cx G cs} {W : Wd} {τ : VS} {s : Shared} {x : List (Addr × Obj)}
noncomputable def compB (N : Nat → Str) (Z : Stc) (cs scope : Scope) (fv : List Nat) : Bool :=
  scope.names.all (fun y => y.2 != .cell) && scope.kind == .function && scope.names.all (fun y => y.2 != .local || scope.names.lookup y.1 == some .local) && scope.names.all (fun y => y.2 != .free || fv.any fun n => N n == y.1) &&
  fv.all (fun n => scope.names.any fun y => y.1 == N n && y.2 == .free) && fv.all (fun n => cs.names.lookup (N n) == some .cell || cs.names.lookup (N n) == some .free) &&
  fv.all (fun n => (relC scope cs).names.lookup (N n) == some .cell || (relC scope cs).names.lookup (N n) == some .free) && (relC scope cs).names.lookup (N Z.topn) != some .local && Z.tds.all (fun T => (relC scope cs).names.lookup (N T.mark) != some .local)
theorem CompOk.of {scope : Scope} {fv : List Nat} (h : compB N Z cs scope fv = true) : CompOk N Z cs scope fv := by
  unfold compB at h
  simp only [Bool.and_eq_true, List.all_eq_true, List.any_eq_true, bne_iff_ne, ne_eq, beq_iff_eq, Bool.or_eq_true] at h
  obtain ⟨⟨⟨⟨⟨⟨⟨⟨h1, h2⟩, h3⟩, h4⟩, h5⟩, h6⟩, h7⟩, h8⟩, h9⟩ := h
  exact ⟨h1, h2, fun y hy e => (h3 y hy).resolve_left (fun q => q e), fun y hy e => (h4 y hy).resolve_left (fun q => q e), fun n hn => by
    obtain ⟨y, hy, e1, e2⟩ := h5 n hn
    obtain ⟨a, b⟩ := y
    rw [← e1, ← e2]; exact hy, h6, h7, h8, h9⟩
/-- A comprehension. -/
noncomputable def compR (t : WS) (w : WE) (fv : List Nat) (C : Calls) (l : List PV) (τ : VS) (Q : List PV → Prop) : Prop := l.length ≤ 1000000 ∧ match pickN τ.loc fv with
  | some b => compW (fun v τ q => t C τ (.p v) q) (w C) τ.hp b Q l []
  | none => False
noncomputable abbrev wComp (i : WI) (t : WS) (w : WE) (fv : List Nat) : W0 := fun C τ Q => gd (pickN τ.loc fv).isSome <| i C τ fun l keep τ1 => compR t w fv C l τ1 fun acc => Q (.new acc) τ1
theorem comp_clos {scope : Scope} {fv : List Nat} (ok : CompOk N Z cs scope fv) (S : SimX Φ W τ x s) (h : (pickN τ.loc fv).isSome = true) : closureFor scope Φ.env = pure (clL Φ.cells scope.names []) := by
  obtain ⟨b, hb⟩ := Option.isSome_iff_exists.mp h
  refine closureFor_is fun p hp hf => ?_
  obtain ⟨n, hn, e⟩ := ok.free p hp hf
  obtain ⟨v, hv⟩ := (pickN_has hb).1 n hn
  obtain ⟨c, u, e1, _⟩ := S.cellOf hv (ok.fv2 n hn)
  exact ⟨c, by rw [← e]; exact e1⟩
theorem NsD.ns {o : Obj} (h : NsD o) {hp : Heap} {C : Addr} (e : hp.get? C = some o) : ∃ m, hp.Ns C m :=
  let ⟨m, es, ep, r⟩ := h; ⟨m, o, es, ep, e, r⟩
section
variable {elt iter target : Expr} {scope : Scope} {pos : Pos} {fv : List Nat} {i : WI} {t : WS} {w : WE}
theorem S0_comp (ok : CompOk N Z cs scope fv) (hi : SI G cs iter i) (ht : SS G (relC scope cs) target t) (he : SE G (relC scope cs) elt w) (hs : ∀ env x, foldedSetIterable iter env x = pure x) :
    S0 G cs (.ListComp elt [⟨target, iter, [], 0⟩] scope pos) (wComp i t w fv) := fun Φ C okC W τ x s Q S q => by
  obtain ⟨h1, q⟩ := gd_ex q
  show wpAny _ _ (comprehension (.ListComp elt [⟨target, iter, [], 0⟩] scope pos) scope Φ.env _ (newList []) false (eval iter Φ.env)) _ _ s
  refine wpAny_comprehension_free (use := none) rfl (hs _) (comp_clos ok S h1) ok.kind ok.names (wpAny_mono (hi Φ C okC W τ x s _ S q) (fun v s1 y => wpAny_mono y (fun it s2 y => ?_) fun _ _ y => y) fun _ _ y => y)
  obtain ⟨W1, l, keep, τ1, XP, e, le, src, x0, S1, k, hz, q1⟩ := y
  cases hb : pickN τ1.loc fv with
  | none => rw [hb] at q1; exact q1.elim
  | some b =>
    rw [hb] at q1
    refine comp_go ok ht he okC src x0 S1 k hb hz q1 fun W' acc vs n D Ca oC s' le' pr S' nd q' => ?_
    obtain ⟨mC, hC⟩ := nd.ns (show SimX Φ W' τ1 (([(D, listOf vs.toArray n)]) ++ (Ca, oC) :: x) s' from S').mid
    refine ⟨mC, hC, fun h' sb => ?_⟩
    exact .new W' acc τ1 D vs n (le.trans le') pr ((S'.perm (List.Perm.swap _ _ _)).drop sb.extBut) q'
/-- x = [..], stored as it is made: the list becomes one of the walk's. -/
noncomputable abbrev wAsC (n : Nat) (i : WI) (t : WS) (w : WE) (fv : List Nat) : WX := fun C τ Q => gd (pickN τ.loc fv).isSome <| i C τ fun l keep τ1 => compR t w fv C l τ1 fun acc => Q .next ⟨putN n (.ref τ1.hp.length) τ1.loc, τ1.hp ++ [.list acc]⟩
theorem SX_asC {n : Nat} {tn : Str} {np spos : Pos} (ok : CompOk N Z cs scope fv) (hi : SI G cs iter i) (ht : SS G (relC scope cs) target t) (he : SE G (relC scope cs) elt w) (hs : ∀ env x, foldedSetIterable iter env x = pure x)
    (hn : N n = tn) (hl : kindOk N Z cs n) (hsw : ∀ Φ : Cx G cs, swapsWith (.ListComp elt [⟨target, iter, [], 0⟩] scope pos) (some (.Name tn np)) spos.line Φ.env = pure true) :
    SX G cs (.Assign [.Name tn np] (.ListComp elt [⟨target, iter, [], 0⟩] scope pos) spos) (wAsC n i t w fv) := fun Φ C okC W τ x s Q S q => by
  subst hn
  obtain ⟨h1, q⟩ := gd_ex q
  rw [exec_Assign_Name_used _ _ _ _ (hsw Φ)]
  refine wpAny_bind (wpAny_standAt (wpAny_bind ?_))
  show wpAny _ Φ.A (do let _ ← comprehension (.ListComp elt [⟨target, iter, [], 0⟩] scope pos) scope Φ.env _ (newList []) false (eval iter Φ.env) (some (assign (.Name (N n) np) Φ.env))) _ _ s
  refine wpAny_bind (wpAny_mono (wpAny_comprehension_free (use := some _) (Q := fun (_ : Value) s' => RF Φ W x Q .next s') (E := fun _ _ => False) rfl (hs _) (comp_clos ok S h1) ok.kind ok.names (wpAny_mono (hi Φ C okC W τ x s _ S q) (fun v s1 y => wpAny_mono y (fun it s2 y => ?_) fun _ _ y => y) fun _ _ y => y)) (fun _ s' hq => wpAny_pure (wpAny_pure hq)) fun _ _ e => e)
  obtain ⟨W1, l, keep, τ1, XP, e, le, src, x0, S1, k, hz, q1⟩ := y
  cases hb : pickN τ1.loc fv with
  | none => rw [hb] at q1; exact q1.elim
  | some b =>
    rw [hb] at q1
    refine comp_go ok ht he okC src x0 S1 k hb hz q1 fun W' acc vs n' D Ca oC s' le' pr S' nd q' => ?_
    obtain ⟨W2, le2, e2, S2⟩ := S'.own pr
    refine assign_Name (S2.store (.ref e2) hl fun s3 S3 => ?_)
    obtain ⟨mC, hC⟩ := nd.ns S3.first
    exact ⟨mC, hC, fun h' sb => ⟨W2, .next, _, (le.trans le').trans le2, .next, S3.drop sb.extBut, q'⟩⟩
end
end VE
namespace VE
variable {N : Nat → Str} {Z : Stc} {G : Gl N Z} {cs : Scope} {Φ : Cx G cs} {W : Wd} {τ : VS} {s : Shared} {x : List (Addr × Obj)}
/-- A tuple target. -/
noncomputable abbrev wTgT (k : Nat) (ts : WSs) : WS := fun C τ v Q => tupV v k fun l => ts C τ (l.map .p) Q
theorem SS_T {elts : List Expr} {kk : Nat} {pos : Pos} {ts : WSs} (h' : SSs G cs elts ts) (hstar : ∀ env, (assignEach elts env).findIdx? (·.1) = none) : SS G cs (.Tuple elts kk pos) (wTgT elts.length ts) := fun Φ C ok W τ x s v c Q S r q => by
  obtain ⟨l, rfl, hl, q2⟩ := tupV_ex q
  obtain ⟨a, vs, rfl, ht, p⟩ := r.tup S
  have el : (assignEach elts Φ.env).length = elts.length := by have := congrArg List.length (h'.1 Φ.env); simpa using this
  refine S.fr fun m news F Nw k => unpackN_ F Nw ht Φ.hh (by rw [el, List.size_toArray, p.length, hl]) (hstar _) fun hh F' N' => ?_
  have S2 := k hh s.toks F' N'
  show wpAny _ _ (assignInOrder ((assignEach elts Φ.env).map (·.2)) vs) _ _ _
  rw [h'.1 Φ.env]
  exact h'.2 Φ C ok W τ x _ _ vs _ S2 p.vals q2
end VE
namespace VE
variable {N : Nat → Str} {Z : Stc} {G : Gl N Z} {cs : Scope} {Φ : Cx G cs} {W : Wd} {τ : VS} {s : Shared} {x : List (Addr × Obj)}
theorem HR.tabs {os ρ ns} (r : HR G W os ρ ns) : ∃ pre tn, ns = pre ++ tn ∧ TabsA W.fro Z.tds tn ∧ ∀ W' tn', W.le W' → TabsA W'.fro Z.tds tn' → HR G W' os ρ (pre ++ tn') := by
  induction r with
  | @nil ns t => exact ⟨[], ns, rfl, t, fun W' tn' _ t' => .nil t'⟩
  | list a _ ih => obtain ⟨pre, tn, rfl, t, k⟩ := ih; exact ⟨_ :: pre, tn, rfl, t, fun W' tn' le t' => .list (a.mono le.FW) (k W' tn' le t')⟩
  | inst a _ ih => obtain ⟨pre, tn, rfl, t, k⟩ := ih; exact ⟨_ :: _ :: pre, tn, rfl, t, fun W' tn' le t' => .inst (a.mono le) (k W' tn' le t')⟩
theorem TabsA.at {fro : List (Addr × Obj)} {D : TabD} {Ds ns} (t : TabsA fro Ds ns) (hD : D ∈ Ds) : ∃ pre ps post, ns = pre ++ (D.P, tabObj ps) :: post ∧ TabI D fro ps ∧ ∀ fro' ps', fro ⊆ fro' → TabI D fro' ps' → TabsA fro' Ds (pre ++ (D.P, tabObj ps') :: post) := by
  induction t with
  | nil => cases hD
  | @cons E ps Ds ns a r ih =>
    rcases List.mem_cons.mp hD with rfl | hD
    · exact ⟨[], ps, ns, rfl, a, fun fro' ps' h a' => .cons a' (r.mono h)⟩
    · obtain ⟨pre, ps', post, rfl, b, k⟩ := ih hD
      exact ⟨_ :: pre, ps', post, rfl, b, fun fro' ps'' h a' => .cons (a.mono h) (k fro' ps'' h a')⟩
theorem updFOf {d : Addr} {o : Obj} : ∀ {pre post : List (Addr × Obj)}, ((pre ++ (d, o) :: post).map (·.1)).Nodup → UpdF d o (pre ++ (d, o) :: post) (fun o' => pre ++ (d, o') :: post) := by
  intro pre
  induction pre with
  | nil =>
    intro post nd
    rw [List.nil_append, List.map_cons, List.nodup_cons] at nd
    exact .head fun p hp e => nd.1 (List.mem_map.mpr ⟨p, hp, e⟩)
  | cons a pre ih =>
    intro post nd
    rw [List.cons_append, List.map_cons, List.nodup_cons] at nd
    exact .tail (fun e => nd.1 (List.mem_map.mpr ⟨(d, o), by simp, e.symm⟩)) (ih nd.2)
theorem ne_of_lk {o : Option NameKind} (h : (o != some .local) = true) : o ≠ some .local := bne_iff_ne.mp h
/-- What is asked of the lambda. -/
structure LamOk (N : Nat → Str) (Z : Stc) (lm : LamD) : Prop where
  tab : lm.tab ∈ Z.tds
  bind : ∀ cl pm c' ctv v, bindArgs (kla_fn "<lambda>" lm.tab.qual lm.params lm.body lm.scope cl pm c' ctv) ⟨[v], []⟩ = pure [(N lm.arg, v)]
  arg : lm.scope.names.lookup (N lm.arg) = some .local
  fv : lm.scope.names.lookup (N lm.fv) = some .free
  free : ∀ p ∈ lm.scope.names, p.2 = .free → p.1 = N lm.fv
  cl : ∀ cells a, cells.lookup (N lm.fv) = some a → clL cells lm.scope.names [] = [(N lm.fv, a)]
  cell : ∀ y ∈ lm.scope.names, y.2 ≠ .cell
  co : lm.scope.isCoroutine = false
  gen : lm.scope.isGenerator = false
  k : lm.scope.kind = .function
  top : lm.scope.names.lookup (N Z.topn) ≠ some .local
  mark : ∀ T ∈ Z.tds, lm.scope.names.lookup (N T.mark) ≠ some .local
  dflt : ∀ env, defaultsOf lm.params env = ([], [])
/-- x = lambda .. -/
noncomputable abbrev wLam (n fv : Nat) : WX := fun _ τ Q => match getN fv τ.loc with
  | some (.ref k) => Q .next ⟨putN n (.lam k) τ.loc, τ.hp⟩
  | _ => False
theorem lam_made (O : LamOk N Z G.lam) (hmark : cs.names.lookup (N G.lam.tab.mark) = some .local) (htop : cs.names.lookup (N Z.topn) ≠ some .local) (hfv : cs.names.lookup (N G.lam.fv) = some .cell) {k : Nat} (hv : getN G.lam.fv τ.loc = some (.ref k)) (S : SimX Φ W τ x s) {P : Value → Shared → Prop}
    (kk : ∀ W' c s', W.le W' → VRep G W' (.lam k) c → SimX Φ W' τ x s' → P c s') : wpAny Φ.M Φ.A (eval (.Lambda G.lam.params G.lam.body G.lam.scope G.lam.tab.pos) Φ.env) P (fun _ _ => False) s := by
  obtain ⟨a, hfn, hcd, hfr, hq⟩ := Φ.tb _ O.tab hmark
  obtain ⟨hcv, hno⟩ := Φ.tbc _ O.tab hmark htop
  obtain ⟨m, n1, n2, F, Nw, nd, H, C, L, cv, o, g⟩ := id S
  have hL := L _ _ hv
  have hc : ∃ c o u, Φ.cells.lookup (N G.lam.fv) = some c ∧ (c, o) ∈ W.fro ∧ o.data = .cell (some u) ∧ VRep G W (.ref k) u := by
    cases hL with
    | loc c e _ _ => rw [hfv] at e; cases e
    | cell e => rw [hcv] at e; cases e
    | fix c u _ e d _ =>
      obtain ⟨o, ho, _⟩ := d
      rw [hno _ _ e] at ho; cases ho
    | froz c o u _ e h d r => exact ⟨c, o, u, e, h, d, r⟩
  obtain ⟨c, oc, u, hcl, hcm, hcdd, ru⟩ := hc
  have hu : ∃ q d, u = .ref q ∧ W.rho[k]? = some (q, d) := by
    cases ru with
    | @ref _ a d e => exact ⟨a, d, rfl, e⟩
  obtain ⟨q, d, rfl, hrho⟩ := hu
  have henv : Φ.env = envX G.lam.tab.cn cs Φ.L a Φ.code Φ.cells := by
    show ({ scope := cs, locals := Φ.L, globals := mainGlobals, cells := Φ.cells, qual := Φ.qual, func := Φ.func, code := Φ.code, frame := Φ.frame, builtins := builtinsNs } : Env) = _
    rw [hfn, hfr, hq]
  have hclo : closureFor G.lam.scope (envX G.lam.tab.cn cs Φ.L a Φ.code Φ.cells) = pure [(N G.lam.fv, c)] := by
    rw [closureFor_is (fun p hp hf => ⟨c, by rw [O.free p hp hf]; exact hcl⟩)]
    rw [O.cl _ c hcl]
  rw [henv]
  refine kla_eval (O.dflt _) ?_
  obtain ⟨pre, tn, rfl, ta, kt⟩ := H.tabs
  obtain ⟨pre', ps, post, rfl, ti, kt'⟩ := ta.at O.tab
  have hCd := (G.cds _ O.tab).keeps Φ.X
  cases ti with
  | no ht hn =>
    have nd' : (((x ++ (pre ++ pre')) ++ (G.lam.tab.P, tabObj ps) :: (post ++ (n2 ++ W.fro))).map (·.1)).Nodup := by simpa using nd
    have Nw' : News Φ.h₀ Φ.L s.heap ((x ++ (pre ++ pre')) ++ (G.lam.tab.P, tabObj ps) :: (post ++ (n2 ++ W.fro))) := by simpa using Nw
    refine kla_nest F Nw' Φ.T hCd hcd (updFOf nd') ht hn hclo fun f c' oc' vs t ctv h' tk F' N' hd hv l1 l2 => ?_
    let ps' := ps ++ #[rawInt G.lam.tab.pos.line, rawInt G.lam.tab.pos.col, .ref c']
    have le : W.le ⟨W.rho, (f, kla_obj "<lambda>" G.lam.tab.qual G.lam.params G.lam.body G.lam.scope [(N G.lam.fv, c)] ((G.mg "__name__").getD .none) c' ctv) :: (c', oc') :: W.fro⟩ := ⟨List.prefix_refl _, fun _ h => .tail _ (.tail _ h)⟩
    have T' : TabI G.lam.tab ((f, kla_obj "<lambda>" G.lam.tab.qual G.lam.params G.lam.body G.lam.scope [(N G.lam.fv, c)] ((G.mg "__name__").getD .none) c' ctv) :: (c', oc') :: W.fro) ps' :=
      .yes c' oc' vs t (by rw [Array.toList_append]; exact TriplesOk_snoc _ _ _ _ ht) (by rw [Array.toList_append]; exact codeAmong_snoc _ ht hn) (.tail _ (.head _)) hd hv
    have H' := kt _ _ le (kt' _ ps' le.fro T')
    have pm : ((f, kla_obj "<lambda>" G.lam.tab.qual G.lam.params G.lam.body G.lam.scope [(N G.lam.fv, c)] ((G.mg "__name__").getD .none) c' ctv) :: (c', oc') :: ((x ++ (pre ++ pre')) ++ (G.lam.tab.P, tabObj ps') :: (post ++ (n2 ++ W.fro)))).Perm
        (x ++ ((pre ++ (pre' ++ (G.lam.tab.P, tabObj ps') :: post)) ++ (n2 ++ ((f, kla_obj "<lambda>" G.lam.tab.qual G.lam.params G.lam.body G.lam.scope [(N G.lam.fv, c)] ((G.mg "__name__").getD .none) c' ctv) :: (c', oc') :: W.fro)))) := by
      have e1 : (x ++ (pre ++ pre')) ++ (G.lam.tab.P, tabObj ps') :: (post ++ (n2 ++ W.fro)) = (x ++ (pre ++ (pre' ++ (G.lam.tab.P, tabObj ps') :: post)) ++ n2) ++ W.fro := by simp
      have e2 : ∀ l : List (Addr × Obj), x ++ ((pre ++ (pre' ++ (G.lam.tab.P, tabObj ps') :: post)) ++ (n2 ++ l)) = (x ++ (pre ++ (pre' ++ (G.lam.tab.P, tabObj ps') :: post)) ++ n2) ++ l := fun l => by simp
      rw [e1, e2]
      exact ((List.perm_middle (l₁ := x ++ (pre ++ (pre' ++ (G.lam.tab.P, tabObj ps') :: post)) ++ n2)).symm.cons _).trans List.perm_middle.symm
    refine kk _ _ _ le (.lam hrho ⟨c, c', oc, oc', _, ctv, vs, t, .head _, .tail _ (.tail _ hcm), hcdd, .tail _ (.head _), hd, hv⟩) ⟨m, _, n2, F', fun p hp => N' p (pm.symm.subset hp), ?_, H', C.mono le, fun k v e => (L k v e).mono le, cv, o, g⟩
    refine (List.Perm.nodup_iff (pm.map _)).mp ?_
    rw [List.map_cons, List.map_cons, List.nodup_cons, List.nodup_cons]
    have hbig : ∀ p ∈ (x ++ (pre ++ pre')) ++ (G.lam.tab.P, tabObj ps') :: (post ++ (n2 ++ W.fro)), p.1 < c' := fun p hp => by
      rcases List.mem_append.mp hp with hp | hp
      · exact l1 p (List.mem_append_left _ hp)
      · rcases List.mem_cons.mp hp with rfl | hp
        · exact l1 (G.lam.tab.P, tabObj ps) (List.mem_append_right _ (.head _))
        · exact l1 p (List.mem_append_right _ (.tail _ hp))
    refine ⟨fun hm => ?_, fun hm => ?_, by simpa using nd'⟩
    · rcases List.mem_cons.mp hm with e | hm
      · exact Nat.ne_of_gt l2 e
      · obtain ⟨p, hp, e⟩ := List.mem_map.mp hm
        have := hbig p hp
        have e : p.1 = f := e
        rw [e] at this
        exact Nat.lt_irrefl _ (Nat.lt_trans this l2)
    · obtain ⟨p, hp, e⟩ := List.mem_map.mp hm
      have := hbig p hp
      have e : p.1 = c' := e
      rw [e] at this
      exact Nat.lt_irrefl _ this
  | yes c' oc' vs t ht hf hm hd hv =>
    refine kla_hit F Nw Φ.T hCd hcd (ps := ps) (by simp) ht hf hclo fun f ctv h' tk F' N' l1 => ?_
    have le : W.le ⟨W.rho, (f, kla_obj "<lambda>" G.lam.tab.qual G.lam.params G.lam.body G.lam.scope [(N G.lam.fv, c)] ((G.mg "__name__").getD .none) c' ctv) :: W.fro⟩ := ⟨List.prefix_refl _, fun _ h => .tail _ h⟩
    obtain ⟨W', le', hm', er, S'⟩ := (SimX.newN (h' := h') (q := f) (co := kla_obj "<lambda>" G.lam.tab.qual G.lam.params G.lam.body G.lam.scope [(N G.lam.fv, c)] ((G.mg "__name__").getD .none) c' ctv) (t := tk) ⟨F, Nw, nd, H, C, L, cv, o, g⟩ F' N' l1).freeze
    exact kk W' _ _ le' (.lam (le'.at hrho) ⟨c, c', oc, oc', _, ctv, vs, t, hm', le'.fro hcm, hcdd, le'.fro hm, hd, hv⟩) S'
theorem SX_lam {n : Nat} {t : Str} {np pos p : Pos} {params : Arguments} {body : Expr} {scope : Scope} {lm : LamD} (hl : G.lam = lm) (e1 : lm.params = params) (e2 : lm.body = body) (e3 : lm.scope = scope) (e4 : lm.tab.pos = p) (O : LamOk N Z lm) (hmark : cs.names.lookup (N lm.tab.mark) = some .local) (htop : cs.names.lookup (N Z.topn) ≠ some .local)
    (hfv : cs.names.lookup (N lm.fv) = some .cell) (hn : N n = t) (hk : kindOk N Z cs n) (hs : ∀ Φ : Cx G cs, swapsWith (.Lambda params body scope p) (some (.Name t np)) pos.line Φ.env = pure false) : SX G cs (.Assign [.Name t np] (.Lambda params body scope p) pos) (wLam n lm.fv) := fun Φ C ok W τ x s Q S q => by
  subst hn e1 e2 e3 e4 hl
  simp only [wLam] at q
  split at q
  · rename_i k hv
    exact wpAny_Assign_Name (lam_made O hmark htop hfv hv S fun W1 c s1 le r S1 => S1.store r hk fun s2 S2 => ⟨W1, .next, _, le, .next, S2, q⟩) (hs Φ)
  · exact q.elim
end VE
namespace VE
variable {N : Nat → Str} {Z : Stc} {G : Gl N Z} {cs : Scope} {Φ : Cx G cs} {W : Wd} {τ : VS} {s : Shared} {x : List (Addr × Obj)}
/-- A lambda of the walk's is called. -/
noncomputable abbrev noC : Calls := fun _ _ _ _ => False
theorem noC_ok {dep : Nat} : CallsOk G dep noC := fun _ _ _ _ _ _ _ _ _ _ _ _ _ _ _ _ q => q.elim
theorem lam_call {k : Nat} {u : VV} {v : Value} {wb : WE} {Q : Rs → VS → Prop} (O : LamOk N Z G.lam) (hb : SE G G.lam.scope G.lam.body wb) (S : SimX Φ W τ x s) {f : Addr} (rf : VRep G W (.lam k) (.ref f)) (r : VRep G W u v)
    (q : wb noC ⟨[(G.lam.arg, u), (G.lam.fv, .ref k)], τ.hp⟩ fun r τ3 => retW τ.hp.length τ3.hp r fun a hp => Q a ⟨τ.loc, hp⟩) (hdp : Φ.A.depth < recursionLimit) : wpAny Φ.M Φ.A (call (.ref f) [v]) (R0 Φ W x Q) (fun _ _ => False) s := by
  obtain ⟨m, n1, n2, F, Nw, nd, H, Cc, L, cv, o, g⟩ := id S
  cases rf with
  | @lam _ _ b d hrho LA =>
    obtain ⟨c, c', oc, oc', pm, ctv, vs, t, hf, hc, hcd, hc', hd, hv⟩ := LA
    have hof := S.FW (.inl hf)
    refine wpAny_call (kla_callFunE (fd := kla_fn "<lambda>" G.lam.tab.qual G.lam.params G.lam.body G.lam.scope [(N G.lam.fv, c)] pm (.ref c') ctv) hdp hof rfl O.co O.gen rfl ⟨c', oc', vs, t, rfl, S.FW (.inl hc'), hd, hv⟩ ?_)
    rw [O.bind]
    refine wpAny_pure (wpAny_newFunctionEnv O.cell (fun y hy => ?_) (fun h₁ hns hsb => ⟨(Φ.T.nolimit.keeps F.keep).fresh _ hsb, ?_⟩) O.k)
    · rcases List.mem_cons.mp hy with rfl | hy
      · exact O.arg
      · cases hy
    have hk₁ : ∀ b o, s.heap.get? b = some o → h₁.get? b = some o := fun b o e => hsb.extBut b o (Nat.ne_of_lt (Heap.lt_size e)) (Heap.get?_push_of_some _ e)
    let own := n1 ++ ([] ++ W.fro)
    have inO : ∀ p ∈ own, p ∈ x ++ (n1 ++ (n2 ++ W.fro)) := fun p hp => by
      rcases List.mem_append.mp hp with q | q
      · simp [q]
      · have q : p ∈ W.fro := q
        simp [q]
    have nm : ∀ b o, Φ.h₀.get? b = some o → b ∉ own.map (·.1) := fun b o e q => by
      obtain ⟨p, hp, rfl⟩ := List.mem_map.mp q
      rw [(Nw p (inO p hp)).2.2] at e; cases e
    have st : ∀ b o, Φ.h₀.get? b = some o → (hideAll s.heap (own.map (·.1))).get? b = some o := fun b o e => hideAll_get _ (F.keep b o e) (nm b o e)
    let Φ' : Cx G G.lam.scope := ⟨Φ.A.deeper (envX G.lam.tab.qual G.lam.scope s.heap.objs.size f (.ref c') [(N G.lam.fv, c)]), hideAll s.heap (own.map (·.1)), s.heap.objs.size, [(N G.lam.fv, c)], G.lam.tab.qual ++ ".<locals>.", some f, .ref c', some s.heap.objs.size, [], fun a o e => st a o (Φ.X a o e), Φ.T.keeps st, O.k, Φ.hh, by
      have := Φ.un
      show Φ.A.units + 3 ≤ 3 * (Φ.A.depth + 1) + 4
      (exact qq1 [_,_] [3,1,4] 1 0x1108030844608045 1 0x44200cc5 qt this), by show Φ.A.depth + 1 ≤ 1000; have : recursionLimit = 1000 := rfl; (exact qq2 [_,_] [1,1000] 1 0x2208045 1 0x608045 1 0x446 qt hdp (qE this)), List.nodup_nil, fun e => absurd e O.top, fun e => absurd e O.top, fun T hT e => absurd e (O.mark T hT), fun T hT e => absurd e (O.mark T hT), fun T hT e => absurd e (O.mark T hT)⟩
    have S' : SimX Φ' W ⟨[(G.lam.arg, u), (G.lam.fv, .ref k)], τ.hp⟩ [] { s with heap := h₁, toks := s.toks + 1 } := by
      refine ⟨_, n1, [], ⟨hns, fun b o e => hk₁ b o (of_hideAll _ e), Nat.le_of_eq (hideAll_size _ _)⟩, fun p hp => ?_, ?_, H, .nil, fun k v e => ?_, fun k c hm => (nomatch hm), o, g⟩
      · have hp : p ∈ own := hp
        exact ⟨hk₁ _ _ (Nw p (inO p hp)).1, Nat.ne_of_lt (Heap.lt_size (Nw p (inO p hp)).1), hideAll_none _ (List.mem_map_of_mem hp)⟩
      · refine List.Nodup.sublist (List.Sublist.map _ ?_) nd
        show List.Sublist (n1 ++ ([] ++ W.fro)) _
        exact (List.Sublist.append_left (List.Sublist.append_right (List.nil_sublist n2) W.fro) n1).trans (List.sublist_append_right x _)
      · simp only [getN] at e
        cases h1 : Nat.beq k G.lam.arg with
        | true =>
          rw [h1] at e
          have := Nat.eq_of_beq_eq_true h1
          subst this
          cases e
          exact .loc _ O.arg (by simp [List.lookup]) r
        | false =>
          rw [h1] at e
          cases h2 : Nat.beq k G.lam.fv with
          | true =>
            rw [h2] at e
            have := Nat.eq_of_beq_eq_true h2
            subst this
            cases e
            exact .froz c oc (.ref b) (.inr O.fv) (by show List.lookup _ [(_, _)] = _; simp) hc hcd (.ref hrho)
          | false => rw [h2] at e; cases e
    refine kla_codeExpr (wpAny_mono (hb Φ' noC noC_ok W _ [] _ _ S' q) (fun rv s' y => ?_) fun _ _ y => y.elim)
    obtain ⟨W', a, τ', le, ra, S2, q2⟩ := y
    have R := leave (Φ := Φ) (Q := fun a hp => Q a ⟨τ.loc, hp⟩) ⟨F, Nw, nd, H, Cc, L, cv, o, g⟩ rfl rfl le ra S2 q2
    cases R with
    | val W2 a τ2 l r1 S3 q3 => obtain ⟨e1, q3⟩ := q3; exact .val W2 a τ2 l r1 S3 (by rw [← e1] at q3; exact q3)
    | new W2 l τ2 q vs n l' r1 S3 q3 => obtain ⟨e1, q3⟩ := q3; exact .new W2 l τ2 q vs n l' r1 S3 (by rw [← e1] at q3; exact q3)
noncomputable def lamV (v : VV) (Q : Nat → Prop) : Prop := match v with
  | .lam k => Q k
  | _ => False
theorem lamV_ex {v : VV} {Q : Nat → Prop} (h : lamV v Q) : ∃ k, v = .lam k ∧ Q k := by
  unfold lamV at h
  split at h
  · exact ⟨_, rfl, h⟩
  · exact h.elim
noncomputable def oneV (vs : List VV) (Q : VV → Prop) : Prop := match vs with
  | [u] => Q u
  | _ => False
theorem oneV_ex {v : List VV} {Q : VV → Prop} (h : oneV v Q) : ∃ k, v = [k] ∧ Q k := by
  unfold oneV at h
  split at h
  · exact ⟨_, rfl, h⟩
  · exact h.elim
/-- The lambda that a name holds is called. -/
noncomputable abbrev wLcall (arg fv : Nat) (wb w : WE) (ws : WA) : W0 := fun C τ Q => w C τ fun v τ1 => lamV v fun k => ws C τ1 fun vs τ2 => oneV vs fun u => wb noC ⟨[(arg, u), (fv, .ref k)], τ2.hp⟩ fun r τ3 => retW τ2.hp.length τ3.hp r fun a hp => Q a ⟨τ2.loc, hp⟩
theorem S0_lcall {fn : Expr} {es : List Expr} {pos : Pos} {lm : LamD} {wb w : WE} {ws : WA} (hl : G.lam = lm) (O : LamOk N Z lm) (hmark : cs.names.lookup (N lm.tab.mark) = some .local) (hb : SE G lm.scope lm.body wb) (h : SE G cs fn w) (h' : SA G cs es ws) (he : ∀ env, eval (.Call fn es [] pos) env = (do callWith pos (← eval fn env) [] (backTo pos (starEach es env)) (backToKw pos (keywordEach [] env)))) : S0 G cs (.Call fn es [] pos) (wLcall lm.arg lm.fv wb w ws) := fun Φ C ok W τ x s Q S q => by
  subst hl
  exact Call_ (h.go ok S q fun W1 v τ1 c s1 le r S1 q1 => by
    obtain ⟨k, rfl, q2⟩ := lamV_ex q1
    have rr := r
    cases r with
    | @lam f _ b d hrho LA =>
      obtain ⟨c, c', oc, oc', pm, ctv, vs, t, hf, r2⟩ := LA
      refine h'.run (first := []) (H := fun h => h.get? f = some (kla_obj "<lambda>" G.lam.tab.qual G.lam.params G.lam.body G.lam.scope [(N G.lam.fv, c)] pm c' ctv)) ok S1 q2 (fun h e => ⟨.frame, .inl rfl, (Looks.ld (part := none) e).andThen .now⟩) fun W2 as τ2 vs s2 le2 r2 S2 q3 => ⟨S2.FW (.inl (le2.fro hf)), ?_⟩
      obtain ⟨u, rfl, q4⟩ := oneV_ex q3
      obtain ⟨cv, rfl, rc⟩ := r2.one
      exact wpAny_mono (lam_call O hb S2 (rr.mono le2) rc q4 (Nat.lt_of_le_of_lt (Φ.tbd _ O.tab hmark) (by decide))) (fun _ _ y => y.up (le.trans le2)) fun _ _ y => y) (he _)
/-- A function of the text's, with one cell (its first parameter) that a lambda of its reads; two parameters. -/
structure LfnOk (G : Gl N Z) (f : Addr) (ad : Nat) (name qual : Str) (params : Arguments) (body : List Stmt) (scope : Scope) (dV kV doc pm ct oc : Value) (an od : Option Addr) (osl : Array (Option Value)) : Prop where
  ho : G.K.lookup f = some ⟨oc, od, .func (fnOf name qual params body scope dV kV doc pm an (.ref G.lam.tab.c) ct), osl⟩
  hcd : codeIn G.K (.ref G.lam.tab.c) qual = true
  hq : qual = G.lam.tab.cn
  hsf : scope.names.lookup (N G.lam.fv) = some .cell
  had : scope.names.lookup (N ad) = some .local
  hcells : ∀ n, cellsFrom n scope.names [] = [(N G.lam.fv, n)]
  hco : scope.isCoroutine = false
  hgen : scope.isGenerator = false
  hk : scope.kind = .function
  htop : scope.names.lookup (N Z.topn) ≠ some .local
  hmark : ∀ T ∈ Z.tds, scope.names.lookup (N T.mark) = some .local → T = G.lam.tab
variable {f : Addr} {ad : Nat} {name qual : Str} {params : Arguments} {body : List Stmt} {scope : Scope} {dV kV doc pm ct oc : Value} {an od : Option Addr} {osl : Array (Option Value)}
theorem enterL {A : Around} {u0 u1 : VV} {v0 v1 : Value} {Q : Rs → List VO → Prop} (D : LfnOk G f ad name qual params body scope dV kV doc pm ct oc an od osl) (hhd : A.handled = none) (hu : A.units ≤ 3 * A.depth + 4) (hdp : A.depth ≤ 996)
    (S : SimX Φ W τ x s) (r0 : VRep G W u0 v0) (r1 : VRep G W u1 v1) (hbind : bindArgs (fnOf name qual params body scope dV kV doc pm an (.ref G.lam.tab.c) ct) ⟨[v0, v1], []⟩ = pure [(N G.lam.fv, v0), (N ad, v1)])
    (h : ∀ Φ' : Cx G scope, Φ'.A.depth = A.depth + 1 → ∀ W1 s1, W.le W1 → SimX Φ' W1 ⟨[(G.lam.fv, u0), (ad, u1)], τ.hp⟩ [] s1 → wpAny Φ'.M Φ'.A (execs body Φ'.env) (RF Φ' W1 [] fun fl τ' => retW τ.hp.length τ'.hp (retv fl) Q) (fun _ _ => False) s1) :
    codeAny (model G.prog G.w) A (.call (.ref f) ⟨[v0, v1], []⟩) (fun r s' => ∃ v, r = .ok (.ret v) ∧ R0 Φ W x (fun a τ' => τ'.loc = τ.loc ∧ Q a τ'.hp) v s') s := by
  obtain ⟨m, n1, n2, F, Nw, nd, H, Cc, L, cv, o, g⟩ := id S
  have hne : N ad ≠ N G.lam.fv := fun e => by
    have := D.had
    rw [e, D.hsf] at this; cases this
  have kne : ad ≠ G.lam.fv := fun e => hne (by rw [e])
  refine codeAny_call_cells (fd := fnOf name qual params body scope dV kV doc pm an (.ref G.lam.tab.c) ct) (body := body) (binds := [(N G.lam.fv, v0), (N ad, v1)]) (Nat.lt_of_le_of_lt hdp (by decide)) (S.K _ _ D.ho) rfl ((topRead_of Φ.T).nolimit.keeps F.keep) (codeRec_of S.K D.hcd) rfl hbind rfl (fun y hy => ?_) (fun s₁ X => ?_) D.hco D.hgen D.hk
  · rcases List.mem_cons.mp hy with rfl | hy
    · exact .inr ⟨D.hsf, by
        show (List.lookup _ (cellsFrom _ scope.names [])).isSome = true
        rw [D.hcells]; simp⟩
    · rcases List.mem_cons.mp hy with rfl | hy
      · exact .inl D.had
      · cases hy
  · obtain ⟨h₁, tk, rfl, _⟩ := X.done
    have hk₁ := X.toInCall.keep
    have hcl : (callEnvC (fnOf name qual params body scope dV kV doc pm an (.ref G.lam.tab.c) ct) s.heap.objs.size f).cells = [(N G.lam.fv, s.heap.objs.size + 1)] := D.hcells _
    have hcell := X.cell (N G.lam.fv) (s.heap.objs.size + 1) (by
      show List.lookup _ (callEnvC _ _ _).cells = _
      rw [hcl]; simp)
    have hlk : List.lookup (N G.lam.fv) (callEnvC (fnOf name qual params body scope dV kV doc pm an (.ref G.lam.tab.c) ct) s.heap.objs.size f).cells = some (s.heap.objs.size + 1) := by rw [hcl]; simp
    obtain ⟨co, hco, hcd⟩ := hcell
    have kc : (callEnvC (fnOf name qual params body scope dV kV doc pm an (.ref G.lam.tab.c) ct) s.heap.objs.size f).kindOf (N G.lam.fv) = some .cell := D.hsf
    have kl : (callEnvC (fnOf name qual params body scope dV kV doc pm an (.ref G.lam.tab.c) ct) s.heap.objs.size f).kindOf (N ad) = some .local := D.had
    have hcd : co.data = .cell (some v0) := by
      rw [hcd]
      simp [bindC, kc, kl]
    let own := n1 ++ ([] ++ W.fro)
    have inO : ∀ p ∈ own, p ∈ x ++ (n1 ++ (n2 ++ W.fro)) := fun p hp => by
      rcases List.mem_append.mp hp with q | q
      · simp [q]
      · have q : p ∈ W.fro := q
        simp [q]
    have nm : ∀ b o, Φ.h₀.get? b = some o → b ∉ own.map (·.1) := fun b o e q => by
      obtain ⟨p, hp, rfl⟩ := List.mem_map.mp q
      rw [(Nw p (inO p hp)).2.2] at e; cases e
    have st : ∀ b o, Φ.h₀.get? b = some o → (hideAll s.heap (own.map (·.1))).get? b = some o := fun b o e => hideAll_get _ (F.keep b o e) (nm b o e)
    have fresh : ∀ b, s.heap.objs.size ≤ b → (hideAll s.heap (own.map (·.1))).get? b = none := fun b hb => Heap.get?_none_of_le (by rw [hideAll_size]; exact hb)
    let Φ' : Cx G scope := ⟨A.deeper (callEnvC (fnOf name qual params body scope dV kV doc pm an (.ref G.lam.tab.c) ct) s.heap.objs.size f), hideAll s.heap (own.map (·.1)), s.heap.objs.size, (callEnvC (fnOf name qual params body scope dV kV doc pm an (.ref G.lam.tab.c) ct) s.heap.objs.size f).cells, qual ++ ".<locals>.", some f, .ref G.lam.tab.c, some s.heap.objs.size, [], fun a o e => st a o (Φ.X a o e), Φ.T.keeps st, D.hk, hhd, by
      show A.units + 3 ≤ 3 * (A.depth + 1) + 4
      (exact qq1 [_,_] [3,1,4] 1 0x1108030844608045 1 0x44200cc5 qt hu), by show A.depth + 1 ≤ 1000; (exact qq1 [_] [1,1000,996] 1 0x2208045 1 0x845 qt hdp), List.nodup_nil, fun e => absurd e D.htop, fun e => absurd e D.htop, fun T hT e => ⟨f, rfl, by rw [D.hmark T hT e], rfl, by rw [D.hmark T hT e, D.hq]⟩, fun T hT e _ => ⟨rfl, fun n c e => by
        have e : List.lookup n (callEnvC (fnOf name qual params body scope dV kV doc pm an (.ref G.lam.tab.c) ct) s.heap.objs.size f).cells = some c := e
        rw [hcl] at e
        simp only [List.lookup] at e
        split at e
        · cases e; exact fresh _ (Nat.le_succ _)
        · cases e⟩, fun T hT e => by show A.depth + 1 ≤ 997; (exact qq1 [_] [1,997,996] 1 0x2208045 1 0x845 qt hdp)⟩
    have le1 : W.le ⟨W.rho, (s.heap.objs.size + 1, co) :: W.fro⟩ := ⟨List.prefix_refl _, fun _ h => .tail _ h⟩
    have S' : SimX Φ' ⟨W.rho, (s.heap.objs.size + 1, co) :: W.fro⟩ ⟨[(G.lam.fv, u0), (ad, u1)], τ.hp⟩ [] { s with heap := h₁, toks := tk } := by
      refine ⟨_, n1, [], ⟨X.toInCall.ns, fun b o e => hk₁ b o (of_hideAll _ e), Nat.le_of_eq (hideAll_size _ _)⟩, fun p hp => ?_, ?_, H.mono le1, .nil, fun k v e => ?_, fun k c hm => (nomatch hm), o, g⟩
      · have hp : p ∈ n1 ++ ((s.heap.objs.size + 1, co) :: W.fro) := hp
        have hp : p = (s.heap.objs.size + 1, co) ∨ p ∈ own := by
          rcases List.mem_append.mp hp with q | q
          · exact .inr (by simp [own, q])
          · rcases List.mem_cons.mp q with q | q
            · exact .inl q
            · exact .inr (by simp [own, q])
        rcases hp with rfl | hp
        · exact ⟨hco, Nat.succ_ne_self _, fresh _ (Nat.le_succ _)⟩
        · exact ⟨hk₁ _ _ (Nw p (inO p hp)).1, Nat.ne_of_lt (Heap.lt_size (Nw p (inO p hp)).1), hideAll_none _ (List.mem_map_of_mem hp)⟩
      · show ((n1 ++ ((s.heap.objs.size + 1, co) :: W.fro)).map (·.1)).Nodup
        refine (List.Perm.nodup_iff (List.Perm.map _ List.perm_middle)).mpr ?_
        rw [List.map_cons, List.nodup_cons]
        refine ⟨fun hm => ?_, List.Nodup.sublist (List.Sublist.map _ ?_) nd⟩
        · obtain ⟨p, hp, e⟩ := List.mem_map.mp hm
          have := Heap.lt_size (Nw p (inO p hp)).1
          have e : p.1 = s.heap.objs.size + 1 := e
          rw [e] at this
          exact Nat.lt_irrefl _ (Nat.lt_trans (Nat.lt_succ_self _) this)
        · exact (List.Sublist.append_left (List.sublist_append_right n2 W.fro) n1).trans (List.sublist_append_right x _)
      · simp only [getN] at e
        cases h1 : Nat.beq k G.lam.fv with
        | true =>
          rw [h1] at e
          have := Nat.eq_of_beq_eq_true h1
          subst this
          cases e
          exact .froz (s.heap.objs.size + 1) co v0 (.inl D.hsf) (hlk) (.head _) hcd (r0.mono le1)
        | false =>
          rw [h1] at e
          cases h2 : Nat.beq k ad with
          | true =>
            rw [h2] at e
            have := Nat.eq_of_beq_eq_true h2
            subst this
            cases e
            exact .loc _ D.had (by simp [bindL, kl]) (r1.mono le1)
          | false => rw [h2] at e; cases e
    refine wpAny_mono (h Φ' rfl _ _ le1 S') (fun fl s' y => ?_) fun _ _ y => y.elim
    obtain ⟨W', a, τ', le, ra, S2, q⟩ := y
    have ra' : ∀ ff : Flow, FRel G W' a ff → VRep G W' (retv a) (match ff with | .ret v => v | _ => .none) := fun ff rr => by
      cases rr with
      | next => exact .p (.none .nil)
      | brk => exact .p (.none .nil)
      | cont => exact .p (.none .nil)
      | ret rv => exact rv
    have ra' := ra' fl ra
    exact ⟨_, rfl, leave ⟨F, Nw, nd, H, Cc, L, cv, o, g⟩ rfl rfl (le1.trans le) ra' S2 q⟩
theorem DefOk.lam {b : WX} (D : LfnOk G f ad name qual params body scope dV kV doc pm ct oc an od osl) (hb : SB G scope body b) (hbind : ∀ u v, bindArgs (fnOf name qual params body scope dV kV doc pm an (.ref G.lam.tab.c) ct) ⟨[u, v], []⟩ = pure [(N G.lam.fv, u), (N ad, v)]) : DefOk G f [G.lam.fv, ad] b :=
  ⟨fun cs Φ A C hh hu hA ok W τ x s as vs Q S r hl q => by
    cases r with
    | nil => cases hl
    | cons r0 r =>
      cases r with
      | nil => cases hl
      | cons r1 r =>
        cases r with
        | nil => exact enterL D hh hu (Nat.le_succ_of_le hA) S r0 r1 (hbind _ _) fun Φ' e' W1 s1 le S1 => wpAny_mono (hb Φ' C (e' ▸ ok) W1 _ [] s1 _ S1 q) (fun _ _ y => y) fun _ _ y => y
        | cons _ _ => cases hl⟩
end VE
namespace VE
variable {N : Nat → Str} {Z : Stc} {G : Gl N Z} {cs : Scope} {Φ : Cx G cs} {W : Wd} {τ : VS} {s : Shared} {x : List (Addr × Obj)}
theorem PRepL.rev {F : Addr → Obj → Prop} {l : List PV} {vs : List Value} (h : PRepL F l vs) : PRepL F l.reverse vs.reverse := by
  induction l generalizing vs with
  | nil => cases h; exact .nil
  | cons a l ih =>
    cases vs with
    | nil => have := h.length; simp at this
    | cons c vs => simp only [List.reverse_cons]; exact (ih h.uncons.2).app h.uncons.1
end VE
namespace VE
open Builtin (bitAnd bitOr bitXor bitNot)
/-- The four flags. -/
structure Fg where
  n : Bool
  v : Bool
  z : Bool
  c : Bool
noncomputable def pI (f : Fg) : Int := 48 + cond f.n 128 0 + cond f.v 64 0 + cond f.z 2 0 + cond f.c 1 0
noncomputable def Fg.nz (f : Fg) (k : Nat) : Fg := ⟨Nat.ble 128 k, f.v, Nat.beq k 0, f.c⟩
/-- A place of the memory changed. -/
noncomputable def upd (m : Nat → Nat) (k v : Nat) : Nat → Nat := fun j => if j = k then v else m j
theorem upd_self {m : Nat → Nat} {k v : Nat} : upd m k v k = v := if_pos rfl
theorem upd_ne {m : Nat → Nat} {k v j : Nat} (h : j ≠ k) : upd m k v j = m j := if_neg h
@[irreducible] noncomputable def ml (L : Nat) (m : Nat → Nat) : List PV := (List.range L).map fun k => .int (m k : Int)
theorem ml_len {L : Nat} {m : Nat → Nat} : (ml L m).length = L := by unfold ml; rw [List.length_map, List.length_range]
theorem ml_at' {L k : Nat} {m : Nat → Nat} (h : k < L) : (ml L m)[k]? = some (.int (m k : Int)) := by unfold ml; rw [List.getElem?_map, List.getElem?_range h]; rfl
theorem ml_at {L k : Nat} {m : Nat → Nat} (h : k < L) : pick (ml L m) (k : Int) = some (.int (m k : Int)) := ml_at' h
theorem ml_atV {L k v : Nat} {m : Nat → Nat} (h : k < L) (e : m k = v) : pick (ml L m) (k : Int) = some (.int (v : Int)) := by subst e; exact ml_at h
theorem ml_set {L k v : Nat} {m : Nat → Nat} (h : k < L) : (ml L m).set k (.int (v : Int)) = ml L (upd m k v) := by
  refine List.ext_getElem? fun j => ?_
  by_cases hj : j < L
  · rw [ml_at' hj]
    by_cases e : j = k
    · subst e; rw [List.getElem?_set_self (by rw [ml_len]; exact h), upd_self]
    · rw [List.getElem?_set_ne (Ne.symm e), ml_at' hj, upd_ne e]
  · rw [List.getElem?_eq_none (by rw [List.length_set, ml_len]; (exact qq1 [_,_] [] 1 0xc5 1 0xc5 qt (qT hj))), List.getElem?_eq_none (by rw [ml_len]; (exact qq1 [_,_] [] 1 0xc5 1 0xc5 qt (qT hj)))]
theorem brF {b : Bool} {P Q : Prop} (hb : b = false) (h : Q) : brW b P Q := by subst hb; exact h
theorem brT {b : Bool} {P Q : Prop} (hb : b = true) (h : P) : brW b P Q := by subst hb; exact h
theorem andM {n k : Nat} : bitAnd (n : Int) ((2 ^ k - 1 : Nat) : Int) = ((n % 2 ^ k : Nat) : Int) := by
  show ((n &&& (2 ^ k - 1) : Nat) : Int) = _
  rw [Nat.and_two_pow_sub_one_eq_mod]
theorem and255 {n : Nat} : bitAnd (n : Int) 255 = ((n % 256 : Nat) : Int) := andM (k := 8)
theorem and65535 {n : Nat} : bitAnd (n : Int) 65535 = ((n % 65536 : Nat) : Int) := andM (k := 16)
theorem wrapN {n : Nat} (h : n < 65536) : bitAnd (n : Int) 65535 = (n : Int) := by rw [and65535, Nat.mod_eq_of_lt h]
theorem wrapE {z : Int} {n : Nat} (e : z = (n : Int)) (h : n < 65536) : bitAnd z 65535 = (n : Int) := by rw [e, wrapN h]
theorem iOk {n : Nat} (h : n < 65536) : idxOk (n : Int) := by unfold idxOk; lia
theorem stE {L n : Nat} {z : Int} {m : Nat → Nat} (e : z = (n : Int)) (h : n < L) (hL : L ≤ 65536) : (0 : Int) ≤ z ∧ z < ((ml L m).length : Int) ∧ z < 2 ^ 63 := by
  rw [ml_len, e]; (exact ⟨qGa (qq0 [_] [0] 0x1402 qt), ⟨qGb (qq1 [_,_] [1] 1 0x608045 1 0x608045 qt h), qGb (qq2 [_,_] [1,9223372036854775808,65536] 1 0x2208045 1 0x608045 1 0x846 qt h hL)⟩⟩)
theorem ml_setE {L n k : Nat} {z v : Int} {m : Nat → Nat} (e : z = (n : Int)) (ev : v = (k : Int)) (h : n < L) : (ml L m).set z.toNat (.int v) = ml L (upd m n k) := by
  subst e ev; exact ml_set h
theorem intBits_le {i : Int} (h0 : 0 ≤ i) (h : i < 65536) : (Builtin.Int.intBits i : Int) + 8 ≤ 2 ^ 27 := by
  unfold Builtin.Int.intBits
  split
  · decide
  · rename_i q
    have q : i ≠ 0 := by simpa using q
    have : i.natAbs.log2 < 16 := (Nat.log2_lt (by lia)).mpr (by lia)
    (exact qGa (qq1 [_] [1,8,134217728,16] 1 0x21042208045 1 0x6208045 qt this))
theorem bits8 {m : Nat} (h : m < 65536) : (0 : Int) ≤ 8 ∧ (Builtin.Int.intBits (m : Int) : Int) + 8 ≤ 2 ^ 27 := ⟨by decide, intBits_le (by (exact qGa (qq0 [_] [0] 0x1402 qt))) (by (exact qGb (qq1 [_] [1,65536] 1 0x2208045 1 0x2208045 qt h)))⟩
theorem p8 : (2 : Int) ^ (8 : Int).toNat = 256 := by decide
theorem p1 : (2 : Int) ^ (1 : Int).toNat = 2 := by decide
theorem wadd {l m : Nat} : (l : Int) + (m : Int) * 2 ^ (8 : Int).toNat = ((l + m * 256 : Nat) : Int) := by rw [p8]; (exact qGc (Nat.le_antisymm (qq0 [_,_] [256] 0x20218a1010c5 qt) (qq0 [_,_] [256] 0x20218a1010c5 qt)))
theorem and8 {n : Nat} (h : n < 256) : bitAnd (n : Int) 255 = (n : Int) := by rw [and255, Nat.mod_eq_of_lt h]
theorem addE {a b : Nat} : (a : Int) + (b : Int) = ((a + b : Nat) : Int) := by (exact qGc (Nat.le_antisymm (qq0 [_,_] [] 0x26284c5 qt) (qq0 [_,_] [] 0x26284c5 qt)))
theorem pC (f : Fg) : (bitAnd (pI f) 1 != 0) = f.c := by
  obtain ⟨n, v, z, c⟩ := f; revert n v z c; decide +kernel
theorem pZ (f : Fg) : (bitAnd (pI f) 2 != 0) = f.z := by
  obtain ⟨n, v, z, c⟩ := f; revert n v z c; decide +kernel
theorem pSec (f : Fg) : bitOr (pI f) 1 = pI ⟨f.n, f.v, f.z, true⟩ := by
  obtain ⟨n, v, z, c⟩ := f; revert n v z c; decide +kernel
theorem pNZ0 (f : Fg) : bitAnd (pI f) (bitNot (bitOr 2 128)) = pI ⟨false, f.v, false, f.c⟩ := by
  obtain ⟨n, v, z, c⟩ := f; revert n v z c; decide +kernel
theorem pCZN0 (f : Fg) : bitAnd (pI f) (bitNot (bitOr (bitOr 1 2) 128)) = pI ⟨false, f.v, false, false⟩ := by
  obtain ⟨n, v, z, c⟩ := f; revert n v z c; decide +kernel
theorem pSetZ (f : Fg) : bitOr (pI f) 2 = pI ⟨f.n, f.v, true, f.c⟩ := by
  obtain ⟨n, v, z, c⟩ := f; revert n v z c; decide +kernel
theorem pSetCZ (f : Fg) : bitOr (pI f) (bitOr 1 2) = pI ⟨f.n, f.v, true, true⟩ := by
  obtain ⟨n, v, z, c⟩ := f; revert n v z c; decide +kernel
theorem and128 : ∀ k : Nat, k < 256 → bitAnd (k : Int) 128 = cond (Nat.ble 128 k) 128 0 := by decide +kernel
theorem and1 {k : Nat} : bitAnd (k : Int) 1 = ((k % 2 : Nat) : Int) := andM (k := 1)
theorem pOr128 (f : Fg) (b : Bool) : bitOr (pI f) (cond b 128 0) = pI ⟨f.n || b, f.v, f.z, f.c⟩ := by
  obtain ⟨n, v, z, c⟩ := f; revert n v z c b; decide +kernel
theorem pOrN {f : Fg} {k : Nat} (h : k < 256) (hn : f.n = false) : bitOr (pI f) (bitAnd (k : Int) 128) = pI ⟨Nat.ble 128 k, f.v, f.z, f.c⟩ := by
  rw [and128 k h, pOr128, hn, Bool.false_or]
theorem t128 {k : Nat} (h : k < 256) : (bitAnd (k : Int) 128 != 0) = Nat.ble 128 k := by
  rw [and128 k h]; cases Nat.ble 128 k <;> rfl
theorem t1 {k : Nat} : (bitAnd (k : Int) 1 != 0) = Nat.beq (k % 2) 1 := by
  rw [and1]
  rcases Nat.mod_two_eq_zero_or_one k with h | h <;> rw [h] <;> rfl
theorem tk {k : Nat} : ((k : Int) != 0) = !(Nat.beq k 0) := by
  cases k with
  | zero => rfl
  | succ k => rfl
theorem te {k : Nat} : ((k : Int) == 0) = Nat.beq k 0 := by
  cases k with
  | zero => rfl
  | succ k => rfl
theorem xor255 : ∀ k : Nat, k < 256 → bitXor (k : Int) 255 = ((255 - k : Nat) : Int) := by decide +kernel
end VE
namespace VE
open Builtin (bitAnd bitOr bitXor bitNot)
theorem brB {b : Bool} {P Q : Prop} (h : b = true → P) (h' : b = false → Q) : brW b P Q := by
  cases b with
  | true => exact h rfl
  | false => exact h' rfl
/-! ADC and SBC. -/
noncomputable def Fg.ad (f : Fg) (V : Bool) (r : Nat) : Fg := ⟨Nat.ble 128 (r % 256), V, Nat.beq (r % 256) 0, Nat.blt 255 r⟩
theorem neg128 : ∀ d : Nat, d < 256 → bitAnd (-((d : Int) + 1)) 128 = cond (Nat.ble 128 (255 - d)) 128 0 := by decide +kernel
theorem sub128 {r t : Nat} (h : r < 256) (ht : t < 256) : bitAnd ((r : Int) - (t : Int)) 128 = cond (Nat.ble 128 ((r + 256 - t) % 256)) 128 0 := by
  rcases Nat.lt_or_ge r t with g | g
  · have e : (r : Int) - (t : Int) = -(((t - r - 1 : Nat) : Int) + 1) := by lia
    have e2 : (r + 256 - t) % 256 = 255 - (t - r - 1) := by lia
    rw [e, neg128 _ (by (exact qq3 [_,_,_] [1,256] 1 0x2208045 1 0x2208046 1 0xe5 1 0xc7 qt ht (Nat.sub_le _ _) (Nat.sub_le _ _))), e2]
  · have e : (r : Int) - (t : Int) = ((r - t : Nat) : Int) := by lia
    have e2 : (r + 256 - t) % 256 = r - t := by lia
    rw [e, and128 _ (by (exact qq2 [_,_] [1,256] 1 0x2208045 1 0x2208046 1 0xc5 qt h (Nat.sub_le _ _))), e2]
noncomputable def Fg.cp (f : Fg) (r t : Nat) : Fg := ⟨Nat.ble 128 ((r + 256 - t) % 256), f.v, Nat.beq r t, Nat.ble t r⟩
theorem cmp_p {g : Fg} {r t : Nat} (h : r < 256) (ht : t < 256) (hn : g.n = false) : bitOr (pI g) (bitAnd ((r : Int) - (t : Int)) 128) = pI ⟨Nat.ble 128 ((r + 256 - t) % 256), g.v, g.z, g.c⟩ := by
  rw [sub128 h ht, pOr128, hn, Bool.false_or]
theorem eqN {r t : Nat} : ((r : Int) == (t : Int)) = Nat.beq r t := by
  cases h : Nat.beq r t with
  | true => rw [Nat.eq_of_beq_eq_true h]; exact beq_self_eq_true _
  | false =>
    refine beq_false_of_ne fun e => ?_
    have e : r = t := by (exact Nat.le_antisymm (qq1 [_,_] [] 1 0xc5 1 0xc5 qt (qE (qIc e))) (qq1 [_,_] [] 1 0xc5 1 0xc5 qt (qF (qIc e))))
    rw [e] at h
    rw [show Nat.beq t t = true from Nat.beq_refl t] at h
    cases h
theorem gtN {r t : Nat} : decide ((r : Int) > (t : Int)) = Nat.blt t r := by
  cases h : Nat.blt t r with
  | true =>
    have := Nat.le_of_ble_eq_true (show Nat.ble (t + 1) r = true from h)
    exact decide_eq_true (by (exact qGb (qq1 [_,_] [1] 1 0x608045 1 0x608045 qt this)))
  | false =>
    refine decide_eq_false fun g => ?_
    have : Nat.ble (t + 1) r = true := Nat.ble_eq_true_of_le (by (exact qq1 [_,_] [1] 1 0x608045 1 0x608045 qt (qIb g)))
    rw [show Nat.ble (t + 1) r = false from h] at this; cases this
theorem ble_of_eq {r t : Nat} (h : Nat.beq r t = true) : Nat.ble t r = true := by rw [Nat.eq_of_beq_eq_true h]; exact Nat.ble_eq_true_of_le (Nat.le_refl _)
theorem ble_of_blt {r t : Nat} (h : Nat.blt t r = true) : Nat.ble t r = true := Nat.ble_eq_true_of_le (Nat.le_of_succ_le (Nat.le_of_ble_eq_true (show Nat.ble (t + 1) r = true from h)))
theorem ble_no {r t : Nat} (h : Nat.blt t r = false) (h' : Nat.beq r t = false) : Nat.ble t r = false := by
  cases g : Nat.ble t r with
  | false => rfl
  | true =>
    have g := Nat.le_of_ble_eq_true g
    have h1 : ¬ t + 1 ≤ r := fun q => by rw [show Nat.blt t r = true from Nat.ble_eq_true_of_le q] at h; cases h
    have : r = t := by (exact Nat.le_antisymm (qq1 [_,_] [1] 1 0xc5 1 0x804608045 qt (qL h1)) (qq1 [_,_] [] 1 0xc5 1 0xc5 qt g))
    rw [this, show Nat.beq t t = true from Nat.beq_refl t] at h'
    cases h'
/-! Shifts. -/
theorem dec8 {k : Nat} (h : k < 256) : bitAnd ((k : Int) - 1) 255 = (((k + 255) % 256 : Nat) : Int) := by
  cases k with
  | zero => decide +kernel
  | succ k => rw [show ((k + 1 : Nat) : Int) - 1 = (k : Int) by lia, and255]; congr 1; lia
end VE
namespace VE
open Builtin (bitAnd bitOr bitXor bitNot)
theorem cmp_1 {f : Fg} {r t : Nat} (h : r < 256) (ht : t < 256) (h1 : ((r : Int) == (t : Int)) = true) : bitOr (bitOr (bitAnd (pI f) (bitNot (bitOr (bitOr 1 2) 128))) (bitOr 1 2)) (bitAnd ((r : Int) - (t : Int)) 128) = pI (f.cp r t) := by
  rw [eqN] at h1
  rw [pCZN0, pSetCZ, cmp_p h ht rfl]
  unfold Fg.cp
  rw [h1, ble_of_eq h1]
theorem cmp_2 {f : Fg} {r t : Nat} (h : r < 256) (ht : t < 256) (h1 : ((r : Int) == (t : Int)) = false) (h2 : decide ((r : Int) > (t : Int)) = true) : bitOr (bitOr (bitAnd (pI f) (bitNot (bitOr (bitOr 1 2) 128))) 1) (bitAnd ((r : Int) - (t : Int)) 128) = pI (f.cp r t) := by
  rw [eqN] at h1
  rw [gtN] at h2
  rw [pCZN0, pSec, cmp_p h ht rfl]
  unfold Fg.cp
  rw [h1, ble_of_blt h2]
theorem cmp_3 {f : Fg} {r t : Nat} (h : r < 256) (ht : t < 256) (h1 : ((r : Int) == (t : Int)) = false) (h2 : decide ((r : Int) > (t : Int)) = false) : bitOr (bitAnd (pI f) (bitNot (bitOr (bitOr 1 2) 128))) (bitAnd ((r : Int) - (t : Int)) 128) = pI (f.cp r t) := by
  rw [eqN] at h1
  rw [gtN] at h2
  rw [pCZN0, cmp_p h ht rfl]
  unfold Fg.cp
  rw [h1, ble_no h2 h1]
end VE
namespace VE
/-! A compiler from the syntax to the combinators that brings its own proof. -/
/-- What holds of an expression by its head alone. -/
structure Hd (e : Expr) : Prop where
  st : ∀ rest env, starEach (e :: rest) env = (false, eval e env) :: starEach rest env
  sw : ∀ t l env, swapsWith e t l env = pure false
  sb : ∀ o i, subscripted e false o i = operate [o, i] (getItem o i)
  fs : ∀ env x, foldedSetIterable e env x = pure x
  au : ∀ ov iv new, augStore e ov iv new = (do holding [new, ov, iv] (setItem ov iv new); release [new, ov, iv] []; pure .next)
theorem mt_of {id t : Str} {p apos pos : Pos} {es : List Expr} (hs : ∀ env, (starEach es env).any (·.1) = false) (hl : Nat.ble (es.length + 1) 30 = true) (hp : (apos.endLine == pos.line) = true) (env : Env) :
    ∃ pl, eval (.Call (.Attribute (.Name id p) t apos) es [] pos) env = (do let ov ← eval (.Name id p) env; standAt apos.atName; let (f, first) ← holding [ov] (getMethod ov t pl); callWith pos f first (backTo pos (starEach es env)) (backToKw pos (keywordEach [] env))) := by
  have h1 : methodCallForm (es.length + [].length (α := Keyword)) (backTo pos (starEach es env)) (backToKw pos (keywordEach [] env)) = true := by
    have h : (backTo pos (starEach es env)).any (·.1) = false := by rw [back_any]; exact hs env
    refine Bool.and_eq_true_iff.mpr ⟨Bool.and_eq_true_iff.mpr ⟨?_, rfl⟩, decide_eq_true (Nat.le_of_ble_eq_true hl)⟩
    rw [List.all_eq_not_any_not]
    simp only [Bool.not_not]
    rw [h]; rfl
  have h2 : methodCallPos true (.Name id p) env apos pos = pure pos := by unfold methodCallPos; rw [hp]; rfl
  refine ⟨do return (← importBound (.Name id p) env).getD true, ?_⟩
  show (do let ov ← eval (.Name id p) env; standAt apos.atName; methodCall (.Name id p) t apos pos env ov (es.length + [].length (α := Keyword)) (backTo pos (starEach es env)) (backToKw pos (keywordEach [] env))) = _
  unfold methodCall
  rw [h1, h2]
  rfl
noncomputable def hd? : (e : Expr) → Option (PLift (Hd e))
  | .Name .. => some ⟨⟨fun _ _ => rfl, fun _ _ _ => rfl, fun _ _ => rfl, fun _ _ => rfl, fun _ _ _ => rfl⟩⟩
  | .Attribute .. => some ⟨⟨fun _ _ => rfl, fun _ _ _ => rfl, fun _ _ => rfl, fun _ _ => rfl, fun _ _ _ => rfl⟩⟩
  | .Constant .. => some ⟨⟨fun _ _ => rfl, fun _ _ _ => rfl, fun _ _ => rfl, fun _ _ => rfl, fun _ _ _ => rfl⟩⟩
  | .BinOp .. => some ⟨⟨fun _ _ => rfl, fun _ _ _ => rfl, fun _ _ => rfl, fun _ _ => rfl, fun _ _ _ => rfl⟩⟩
  | .UnaryOp .. => some ⟨⟨fun _ _ => rfl, fun _ _ _ => rfl, fun _ _ => rfl, fun _ _ => rfl, fun _ _ _ => rfl⟩⟩
  | .Subscript .. => some ⟨⟨fun _ _ => rfl, fun _ _ _ => rfl, fun _ _ => rfl, fun _ _ => rfl, fun _ _ _ => rfl⟩⟩
  | .Call .. => some ⟨⟨fun _ _ => rfl, fun _ _ _ => rfl, fun _ _ => rfl, fun _ _ => rfl, fun _ _ _ => rfl⟩⟩
  | .Compare .. => some ⟨⟨fun _ _ => rfl, fun _ _ _ => rfl, fun _ _ => rfl, fun _ _ => rfl, fun _ _ _ => rfl⟩⟩
  | .IfExp .. => some ⟨⟨fun _ _ => rfl, fun _ _ _ => rfl, fun _ _ => rfl, fun _ _ => rfl, fun _ _ _ => rfl⟩⟩
  | .BoolOp .. => some ⟨⟨fun _ _ => rfl, fun _ _ _ => rfl, fun _ _ => rfl, fun _ _ => rfl, fun _ _ _ => rfl⟩⟩
  | .Tuple .. => some ⟨⟨fun _ _ => rfl, fun _ _ _ => rfl, fun _ _ => rfl, fun _ _ => rfl, fun _ _ _ => rfl⟩⟩
  | .List .. => some ⟨⟨fun _ _ => rfl, fun _ _ _ => rfl, fun _ _ => rfl, fun _ _ => rfl, fun _ _ _ => rfl⟩⟩
  | _ => none
noncomputable def hat? : (e : Expr) → Option (PLift (∀ t pos env, eval (.Attribute e t pos) env = (do let o ← eval e env; standAt pos.atName; let r ← holding [o] (getAttr o t true); letTemporaryGo e o r; pure r)))
  | .Name .. => some ⟨fun _ _ _ => rfl⟩
  | .Attribute .. => some ⟨fun _ _ _ => rfl⟩
  | .Subscript .. => some ⟨fun _ _ _ => rfl⟩
  | _ => none
noncomputable def ht? : (e : Expr) → Option (PLift (∀ env, PySem.isTrue e env (eval e env) = (do let v ← eval e env; standAt e.pos; holding [v] (truthy v))))
  | .Name .. => some ⟨fun _ => rfl⟩
  | .Attribute .. => some ⟨fun _ => rfl⟩
  | .BinOp .. => some ⟨fun _ => rfl⟩
  | .Subscript .. => some ⟨fun _ => rfl⟩
  | .Call .. => some ⟨fun _ => rfl⟩
  | _ => none
section
variable {N : Nat → Str} {Z : Stc} (G : Gl N Z) (cs : Scope) (ix : Str → Nat) (ls : List Nat)
noncomputable abbrev QE (e : Expr) := {w : WE // SE G cs e w}
noncomputable abbrev Q0 (e : Expr) := {w : W0 // S0 G cs e w}
noncomputable abbrev QT (e : Expr) := {w : WT // ST G cs e w}
noncomputable abbrev QA (es : List Expr) := {w : WA // SA G cs es w}
noncomputable abbrev QX (s : Stmt) := {w : WX // SX G cs s w}
noncomputable abbrev QB (ss : List Stmt) := {w : WX // SB G cs ss w}
structure CC where
  e : ∀ e, Option (QE G cs e)
  t : ∀ e, Option (QT G cs e)
  a : ∀ es, Option (QA G cs es)
  b : ∀ ss, Option (QB G cs ss)
noncomputable def cN (N : Nat → Str) (t : Str) : Option {n // N n = t} := if h : N (ix t) = t then some ⟨ix t, h⟩ else none
noncomputable def cK (N : Nat → Str) (Z : Stc) (n : Nat) : Option (PLift (kindOk N Z cs n)) := if h : cs.names.lookup (N n) = some .local then some ⟨.inl h⟩ else none
variable {G cs}
variable (c : CC G cs)
/-- Calls by name. -/
noncomputable def cqCallN (t : Str) (p : Pos) (es : List Expr) (pos : Pos) : Option (Q0 G cs (.Call (.Name t p) es [] pos)) := do
  let n ← cN ix N t
  match h : getN n.1 Z.globs with
  | some f => do
    let a ← c.a es
    if k : cs.names.lookup t = some .globalImplicit then some ⟨wCall f a.1, S0_call n.1 (getN_mem h) a.2 n.2 k fun _ => rfl⟩ else none
  | none => (match es with
    | [] => some ⟨wVcall (wName n.1), S0_vcall (SE_name n.2) fun _ => rfl⟩
    | _ => none : Option (Q0 G cs (.Call (.Name t p) es [] pos)))
noncomputable def cqCallM (id : Str) (ip : Pos) (t : Str) (apos : Pos) (es : List Expr) (pos : Pos) : Option (Q0 G cs (.Call (.Attribute (.Name id ip) t apos) es [] pos)) := do
  let n ← cN ix N t
  let v ← c.e (.Name id ip)
  let a ← c.a es
  if hl : Nat.ble (es.length + 1) 30 = true then if hp : (apos.endLine == pos.line) = true then some ⟨wMeth Z n.1 v.1 a.1, S0_meth v.2 a.2 n.2 (mt_of a.2.1 hl hp)⟩ else none else none
noncomputable def cq0 : (e : Expr) → Option (Q0 G cs e)
  | .Call (.Name t p) es [] pos => cqCallN ix c t p es pos
  | .Call (.Attribute (.Name id ip) t p) es [] pos => cqCallM ix c id ip t p es pos
  | .Call (.Subscript o i p) es [] pos => do let a ← c.e (.Subscript o i p); let b ← c.a es; some ⟨wFcall Z a.1 b.1, S0_fcall a.2 b.2 fun _ => rfl⟩
  | _ => none
noncomputable def cfrz {e : Expr} (a : Q0 G cs e) : QE G cs e := ⟨wFrz a.1, SE_frz a.2⟩
noncomputable def cqE : (e : Expr) → Option (QE G cs e)
  | .Name t pos => do let n ← cN ix N t; some ⟨wName n.1, SE_name n.2⟩
  | .Constant (.int i) k pos => some ⟨wInt i, SE_int⟩
  | .Constant .none k pos => some ⟨wNone, SE_none⟩
  | .Constant (.bool b) k pos => some ⟨wBool b, SE_bool⟩
  | .Constant (.str t) k pos => some ⟨wStr, SE_str⟩
  | .Attribute e t pos => do let a ← c.e e; let n ← cN ix N t; let h ← hat? e; some ⟨wAttr Z n.1 a.1, SE_attr a.2 n.2 (h.1 t pos)⟩
  | .BinOp l op r pos => do let a ← c.e l; let b ← c.e r; some ⟨wBin op a.1 b.1, SE_bin a.2 b.2⟩
  | .UnaryOp .Invert e pos => do let a ← c.e e; some ⟨wInv a.1, SE_inv a.2⟩
  | .Subscript v s pos => match hd? s with
    | some h => do let a ← c.e v; let b ← c.e s; some ⟨wSub a.1 b.1, SE_sub a.2 b.2 h.1.sb⟩
    | none => (cq0 ix c (.Subscript v s pos)).map cfrz
  | e => (cq0 ix c e).map cfrz
noncomputable def cqT : (e : Expr) → Option (QT G cs e)
  | .Compare l [op] [r] pos => if h : behindInMarks op r = false then do let a ← c.e l; let b ← c.e r; some ⟨wCmpT op a.1 b.1, ST_cmp a.2 b.2 h⟩ else none
  | e => do let a ← c.e e; let h ← ht? e; some ⟨wTru a.1, ST_of a.2 h.1⟩
noncomputable def cqAs : (es : List Expr) → Option (QA G cs es)
  | [] => some ⟨wA0, SA_nil⟩
  | e :: r => do let a ← c.e e; let b ← c.a r; let h ← hd? e; some ⟨wAc a.1 b.1, SA_cons a.2 b.2 (h.1.st r)⟩
noncomputable def cqAsg (v : Expr) (pos : Pos) : (t : Expr) → Option (QX G cs (.Assign [t] v pos))
  | .Name t np => do
    let n ← cN ix N t
    let k ← cK cs N Z n.1
    let h ← hd? v
    let a ← c.e v; some ⟨wAsg n.1 a.1, SX_asg a.2 n.2 k.1 fun _ => h.1.sw _ _ _⟩
  | .Attribute o t np => do
    let n ← cN ix N t
    let a ← c.e v
    let b ← c.e o
    let h ← hd? v
    some ⟨wAsA Z n.1 b.1 a.1, SX_asA a.2 b.2 n.2 fun _ => h.1.sw _ _ _⟩
  | .Subscript o i np => do
    let a ← c.e v
    let b ← c.e o
    let d ← c.e i
    let h ← hd? v
    some ⟨wAsS b.1 d.1 a.1, SX_asS a.2 b.2 d.2 fun _ => h.1.sw _ _ _⟩
  | _ => none
noncomputable def cqX : (s : Stmt) → Option (QX G cs s)
  | .Pass pos => some ⟨wPass, SX_pass⟩
  | .Return (some e) pos => do let a ← c.e e; some ⟨wRet a.1, SX_ret a.2⟩
  | .Return none pos => some ⟨wRet0, SX_ret0⟩
  | .Expr e pos => do let a ← c.e e; let h ← hd? e; some ⟨wExpr a.1, SX_expr a.2 fun _ => h.1.sw _ _ _⟩
  | .If t b o pos => do
    let t' ← c.t t
    let o ← c.b o
    match memN pos.line ls with
    | true => some ⟨wIf t'.1 wDead o.1, SX_if t'.2 SB_dead o.2⟩
    | false => do let b ← c.b b; some ⟨wIf t'.1 b.1 o.1, SX_if t'.2 b.2 o.2⟩
  | .Assign [t] v pos => cqAsg ix c v pos t
  | .AugAssign (.Attribute o t p) op v pos => do let n ← cN ix N t; let a ← c.e v; let b ← c.e o; some ⟨wAuA Z n.1 op b.1 a.1, SX_auA b.2 a.2 n.2⟩
  | _ => none
noncomputable def cqBs : (ss : List Stmt) → Option (QB G cs ss)
  | [] => some ⟨wNil, SB_nil⟩
  | s :: r => do let a ← cqX ix ls c s; let b ← c.b r; some ⟨wSeq a.1 b.1, SB_cons a.2 b.2⟩
variable (G cs)
noncomputable def cc (n : Nat) : CC G cs := Nat.rec ⟨fun _ => none, fun _ => none, fun _ => none, fun _ => none⟩ (fun _ c => ⟨cqE ix c, cqT c, cqAs c, cqBs ix ls c⟩) n
variable {G cs ix ls}
theorem SB_by {f : Nat} {w : WX} {ss : List Stmt} (h : ((cc G cs ix ls f).b ss).map (·.1) = some w) : SB G cs ss w := by
  cases e : (cc G cs ix ls f).b ss with
  | none => rw [e] at h; cases h
  | some a => rw [e] at h; cases h; exact a.2
end
/-- The code of a name in a list. -/
noncomputable def strK (s : Str) : Nat := s.cps.toList.foldl (fun a x => a * 2097152 + x) 1
noncomputable def ixOf (k : Nat) : List Str → Nat → Nat
  | [], _ => 0
  | s :: r, i => match Nat.beq (strK s) k with
    | true => i
    | false => ixOf k r (i + 1)
end VE
namespace VE
variable {N : Nat → Str} {Z : Stc} {G : Gl N Z} {cs : Scope} {Φ : Cx G cs} {W : Wd} {τ : VS} {s : Shared} {x : List (Addr × Obj)}
/-! A slice of a list is stored. -/
noncomputable def ovl (xs new : List Value) (lo hi : Nat) : List Value := xs.take lo ++ new ++ xs.drop hi
theorem newItems {prog : Program} {w : World} {A : Around} {E : Value → Shared → Prop} {v : Addr} {new : List Value} {n2 : Nat} {α : Type} {K : Array Value → Sem α} {Q : α → Shared → Prop} (hv : s.heap.get? v = some (listOf new.toArray n2)) {b : Bool} {msg : String} (h : wpAny (model prog w) A (K new.toArray) Q E s) :
    wpAny (model prog w) A (if b = true then Builtin.List.listItems (.ref v) >>= K else Builtin.List.listAllItems (.ref v) msg >>= K) Q E s := by
  have hTv : s.TypeIs (.ref v) "list" := ⟨_, hv, rfl⟩
  have k : wpAny (model prog w) A (Builtin.List.listItems (.ref v)) (fun ys s' => wpAny (model prog w) A (K ys) Q E s') E s := by
    unfold Builtin.List.listItems
    exact wpAny_bind (wpAny_seqItems hv rfl (wpAny_pure h))
  cases b with
  | true => exact wpAny_bind k
  | false =>
    show wpAny _ _ (Builtin.List.listAllItems (.ref v) msg >>= K) _ _ s
    refine wpAny_bind ?_
    unfold Builtin.List.listAllItems
    refine wpAny_bind (wpAny_typeOf hTv ?_)
    rw [if_pos (by decide)]
    exact k
theorem setSlice_at {prog : Program} {w : World} {A : Around} {E : Value → Shared → Prop} {l sl v : Addr} {xs new : List Value} {n n2 : Nat} {lo hi : Nat} {t t' : Tok} {Q : Unit → Shared → Prop} (ho : s.heap.get? l = some (listOf xs.toArray n)) (hv : s.heap.get? v = some (listOf new.toArray n2))
    (hs : s.heap.IsSliceOf sl (.int (lo : Int) t) (.int (hi : Int) t') .none) (h1 : lo ≤ hi) (h2 : hi ≤ xs.length) (hz : xs.length + new.length ≤ sizeLine)
    (h : ∀ h', Heap.SameBut l s.heap h' → (∃ n', h'.get? l = some (listOf (ovl xs new lo hi).toArray n')) → Q () { s with heap := h' }) : wpAny (model prog w) A (setItem (.ref l) (.ref sl) (.ref v)) Q E s := by
  have hT : s.TypeIs (.ref l) "list" := ⟨_, ho, rfl⟩
  have hTv : s.TypeIs (.ref v) "list" := ⟨_, hv, rfl⟩
  obtain ⟨os, hos, hcs, hds⟩ := id hs
  have hTs : s.TypeIs (.ref sl) "slice" := ⟨os, hos, hcs⟩
  unfold setItem
  try with_reducible refine wpAny_holding ?_
  first | refine wpAny_bind (wpAny_pure ?_) | skip
  refine wpAny_bind (wpAny_sequenceKey hT (by decide) ?_)
  refine wpAny_bind (wpAny_callSpecial?_slot (name := Str.ofString "__setitem__") hT slot_list_setitem (wpAny_call_entry slot_list_setitem hT entry_list_setitem ?_ (args_list_setitem _ _ _)))
  show wpAny _ _ (Builtin.List.listSubscript? (.ref sl) >>= _) _ _ s
  refine wpAny_bind ?_
  unfold Builtin.List.listSubscript?
  refine wpAny_bind (wpAny_specialOf hTs slice_no_index ?_)
  simp only [Option.isNone_none, if_true]
  refine wpAny_pure ?_
  show wpAny _ _ (typeOf (.ref sl) >>= _) _ _ s
  refine wpAny_bind (wpAny_typeOf hTs ?_)
  rw [if_neg (by decide)]
  rw [listSliceParts_eq]
  refine wpAny_bind (wpAny_bind (wpAny_field hos hds (x := .none) rfl (wpAny_bind (wpAny_listPart .none ?_))))
  rw [if_neg (by exact Bool.false_ne_true)]
  refine wpAny_bind (wpAny_field hos hds (x := .int (lo : Int) t) rfl (wpAny_bind (wpAny_listPart (.int _ _) ?_)))
  refine wpAny_bind (wpAny_field hos hds (x := .int (hi : Int) t') rfl (wpAny_bind (wpAny_listPart (.int _ _) (wpAny_pure ?_))))
  refine newItems hv ?_
  refine wpAny_bind (wpAny_bind (wpAny_seqItems ho rfl (wpAny_pure ?_)))
  refine wpAny_bind (wpAny_of_eq (sliceIndices_raw (some (lo : Int)) (some (hi : Int)) none xs.toArray.size (by simp)) ?_)
  have eb : sliceBounds (some (lo : Int)) (some (hi : Int)) none xs.toArray.size = ((lo : Int), (hi : Int), 1) := by
    have a1 : min ((lo : Nat) : Int) (xs.length : Int) = lo := by omega
    have a2 : min ((hi : Nat) : Int) (xs.length : Int) = hi := by omega
    have n1 : ¬ ((lo : Int) < 0) := by (exact fun e9 => qZ (qq1 [_] [1,0] 1 0x8802 2 0x2208045 qt (qIb e9)))
    have n2 : ¬ ((hi : Int) < 0) := by (exact fun e9 => qZ (qq1 [_] [1,0] 1 0x8802 2 0x2208045 qt (qIb e9)))
    unfold sliceBounds
    simp only [Option.getD_none, List.size_toArray, n1, n2, if_false, show ((1 : Int) > 0) = True by decide, if_true, a1, a2]
    rw [show max (0 : Int) (lo : Int) = lo by omega, show max (0 : Int) (hi : Int) = hi by omega]
  rw [eb]
  show wpAny _ _ (if (((1 : Int) == 1) = true) then _ else _) _ _ s
  rw [if_pos (by decide)]
  refine wpAny_bind (wpAny_rule ?_)
  rw [if_neg (by simp [Builtin.List.listTooLong, sizeLine] at hz ⊢; (exact qq1 [_,_] [16777216] 1 0x104c5 1 0x104c5 qt hz))]
  refine wpAny_bind (m := Builtin.List.listUpdate (.ref l) _) ?_
  have em : (max (lo : Int) (hi : Int)).toNat = hi := by omega
  have ef : xs.toArray.extract 0 lo ++ new.toArray ++ xs.toArray.extract (max (lo : Int) (hi : Int)).toNat xs.toArray.size = (ovl xs new lo hi).toArray := by
    unfold ovl
    rw [em]
    simp
    exact List.take_of_length_le (by simp)
  have eo : ∃ n', Obj.mapSeq (fun ys => ys.extract 0 lo ++ new.toArray ++ ys.extract (max (lo : Int) (hi : Int)).toNat ys.size) (listOf xs.toArray n) = listOf (ovl xs new lo hi).toArray n' := ⟨_, by
    rw [← ef]; rfl⟩
  obtain ⟨n', eo⟩ := eo
  refine wpAny_updateSeq (f := fun ys => ys.extract 0 lo ++ new.toArray ++ ys.extract (max (lo : Int) (hi : Int)).toNat ys.size) ho rfl ?_ (by rw [List.size_toArray]; (exact qq1 [_,_,_] [] 1 0xc5 1 0x304e5 qt hz)) (by
    rw [ef, List.size_toArray]
    unfold ovl
    simp only [List.length_append, List.length_take, List.length_drop]
    omega)
  refine wpAny_bind (wpAny_letGo ?_)
  refine wpAny_pure ⟨_, rfl, wpAny_pure (h _ (Heap.SameBut.update ..) ⟨n', ?_⟩)⟩
  rw [Heap.get?_update_self _ ho (by rw [eo]; rfl), eo]
/-- o[a : b] = e -/
noncomputable def slsW (hp : List VO) (u : VV) (i j : Option Int) (v : VV) (Q : List VO → Prop) : Prop := ownL hp u fun k l => ∃ (lo hi : Nat) (r : List PV), i = some (lo : Int) ∧ j = some (hi : Int) ∧ asX hp v = some r ∧ (lo ≤ hi ∧ hi ≤ l.length ∧ l.length + r.length ≤ sizeLine) ∧ Q (hp.set k (.list (l.take lo ++ r ++ l.drop hi)))
noncomputable abbrev wAsSl (o : WE) (a b : WP) (e : WE) : WX := fun C τ Q => e C τ fun v τ1 => o C τ1 fun u τ2 => a C τ2 fun i τ3 => b C τ3 fun j τ4 => slsW τ4.hp u i j v fun hp => Q .next ⟨τ4.loc, hp⟩
theorem SX_asSl {o value : Expr} {lo hi : Option Expr} {sp np pos : Pos} {wo we : WE} {a b : WP} (h : SE G cs value we) (h' : SE G cs o wo) (ha : SP G cs lo a) (hb : SP G cs hi b) (hs : ∀ env, swapsWith value (some (.Subscript o (.Slice lo hi none sp) np)) pos.line env = pure false) :
    SX G cs (.Assign [.Subscript o (.Slice lo hi none sp) np] value pos) (wAsSl wo a b we) := fun Φ C ok W τ x s Q S q =>
  wpAny_Assign_Subscript (h.go ok S q fun W1 v τ1 c s1 le1 r1 S1 q1 => h'.go ok S1 q1 fun W2 u τ2 d s2 le2 r2 S2 q2 => wpAny_Slice (wpAny_mono (ha Φ C ok W2 τ2 x s2 _ S2 q2) (fun vl s3 y => by
    obtain ⟨W3, i, τ3, le3, pi, S3, q3⟩ := y
    refine wpAny_mono (hb Φ C ok W3 τ3 x s3 _ S3 q3) (fun vu s4 y => ?_) fun _ _ y => y
    obtain ⟨W4, j, τ4, le4, pj, S4, q4⟩ := y
    refine wpAny_pure ?_
    obtain ⟨k, l, rfl, e1, lo', hi', r, rfl, rfl, er, ⟨b1, b2, b3⟩, q5⟩ := ownL_ex q4
    cases pi with
    | int _ t =>
      cases pj with
      | int _ t' =>
        have le24 := le3.trans le4
        have S5 := (S4.new (h' := s4.heap.push { cls := .type "slice", data := .fields #[.int (lo' : Int) t, .int (hi' : Int) t', .none] }) (t := s4.toks) (fun _ _ e => Heap.get?_push_of_some _ e) (Heap.get?_none_of_le (Nat.le_refl _)) (Heap.get?_push_size _ rfl)).forget
        have r2' := r2.mono le24
        cases r2' with
        | @ref _ y dd er2 =>
          obtain ⟨vs, n, LA⟩ := S5.list e1 er2
          obtain ⟨z, ws, n2, rfl, hz, p⟩ := S5.asX (r1.mono (le2.trans le24)) er
          refine setSlice_at LA.get hz (Heap.IsSliceOf.new ..) b1 (by rw [LA.rep.length]; exact b2) (by rw [LA.rep.length, p.length]; exact b3) fun h' sb ⟨n', e'⟩ => ?_
          exact ⟨W4, .next, _, (le1.trans le2).trans le24, .next, LA.upd (l.take lo' ++ r ++ l.drop hi') (ovl vs ws lo' hi') n' h' _ (((LA.rep.take _).app p).app (LA.rep.drop _)) sb e', q5⟩) fun _ _ y => y)) (hs _)
/-! x += e, of lists. -/
theorem fills_list_iadd : fillsInplaceSlot (.type "list") "add" (Operator.Add == .Add) = pure false := by
  unfold fillsInplaceSlot
  show (typeLookup (.type "list") (dunderI "add") >>= fun fi => pure (fi.isSome && !isSeqSlot fi)) = pure false
  rw [PySem.F.slot_list_iadd.lookup]
  kernel_rfl
theorem seq_list_iadd : seqSlot? (.type "list") (dunderI "add") = pure (some (.builtin "list.__iadd__")) := PySem.seqSlot_of PySem.F.slot_list_iadd.lookup (by decide +kernel)
theorem iadd_list {l b : Addr} {items items2 : Array Value} {n n2 : Nat} {Q : Value → Shared → Prop} {E : Value → Shared → Prop} (hl : s.heap.get? l = some (listOf items n)) (hb : s.heap.get? b = some (listOf items2 n2)) (hz : items.size + items2.size ≤ sizeLine)
    (h : Q (.ref l) { s with heap := s.heap.update l (Obj.mapSeq fun x => x ++ items2) }) : wpAny Φ.M Φ.A (inplaceOp .Add (.ref l) (.ref b)) Q E s := by
  have ha : s.TypeIs (.ref l) "list" := ⟨_, hl, rfl⟩
  have hb' : s.TypeIs (.ref b) "list" := ⟨_, hb, rfl⟩
  unfold inplaceOp
  refine wpAny_holding ?_
  refine wpAny_bind (wpAny_typeOf ha (wpAny_bind (wpAny_of_eq fills_list_iadd ?_)))
  show wpAny _ _ (if false = true then _ else _) Q E s
  rw [if_neg Bool.false_ne_true]
  refine wpAny_bind (wpAny_binaryOp1_none (nm := "add") ha hb' noFill_list_add ?_)
  refine wpAny_bind (wpAny_of_eq seq_list_iadd ?_)
  refine wpAny_bind (wpAny_rule ?_)
  refine call_meets PySem.F.slot_list_iadd ha PySem.F.entry_list_iadd (PySem.F.args_list_iadd_2 _ _) (AutoSeq1.list___iadd___list_list_0 l items n b items2 n2 ?_ ?_ ?_) ⟨hl, hb, ?_⟩
  · rw [show Builtin.List.listTooLong (items.size + items2.size) = false from decide_eq_false (Nat.not_lt.mpr hz), Bool.and_false]
    exact Bool.false_ne_true
  · exact Nat.le_trans (Nat.le_add_right _ _) hz
  · exact Nat.le_succ_of_le hz
  · exact h
/-- x += e, of a list of the walk's. -/
noncomputable abbrev wAuL (n : Nat) (e : WE) : WX := fun C τ Q => match getN n τ.loc with
  | some u => e C τ fun v τ1 => ownL τ1.hp u fun k l => ∃ r, asX τ1.hp v = some r ∧ l.length + r.length ≤ sizeLine ∧ Q .next ⟨putN n (.ref k) τ1.loc, τ1.hp.set k (.list (l ++ r))⟩
  | none => False
theorem SX_auL {n : Nat} {t : Str} {value : Expr} {np pos : Pos} {we : WE} (h : SE G cs value we) (hn : N n = t) (hl : kindOk N Z cs n) : SX G cs (.AugAssign (.Name t np) .Add value pos) (wAuL n we) := fun Φ C ok W τ x s Q S q => by
  subst hn
  simp only [wAuL] at q
  cases hv : getN n τ.loc with
  | none => rw [hv] at q; exact q.elim
  | some u =>
    rw [hv] at q
    refine wpAny_AugAssign_Name (loadN hv S fun c rc => h.go ok S q fun W1 v τ1 d s1 le1 r1 S1 q1 => ?_)
    obtain ⟨k, l, rfl, el, r, er, hz, q2⟩ := ownL_ex q1
    have ru := rc.mono le1
    cases ru with
    | @ref _ a dd era =>
      obtain ⟨vs, n', LA⟩ := S1.list el era
      obtain ⟨b, ws, n2, rfl, hb, p⟩ := S1.asX r1 er
      have e : ∃ n2, Obj.mapSeq (fun x => x ++ ws.toArray) (listOf vs.toArray n') = listOf (vs ++ ws).toArray n2 := ⟨_, by
        rw [← List.append_toArray]; rfl⟩
      obtain ⟨n2, e⟩ := e
      refine iadd_list LA.get hb (by rw [List.size_toArray, List.size_toArray, LA.rep.length, p.length]; exact hz) ?_
      have S2 := LA.upd (l ++ r) (vs ++ ws) n2 (s1.heap.update a (Obj.mapSeq fun x => x ++ ws.toArray)) s1.toks (LA.rep.app p) (Heap.SameBut.update ..) (by rw [Heap.get?_update_self _ LA.get (by rw [e]; rfl), e])
      exact S2.store (v := .ref k) (.ref era) hl fun s3 S3 => ⟨W1, .next, _, le1, .next, S3, q2⟩
end VE
namespace VE
variable {N : Nat → Str} {Z : Stc} {G : Gl N Z} {cs : Scope} {Φ : Cx G cs} {W : Wd} {τ : VS} {s : Shared} {x : List (Addr × Obj)}
/-! [e for x in xs if t] -/
theorem comp_loopT {elt target iter tst : Expr} {scope : Scope} {pos : Pos} {it acc : Value} {env : Env} {R : Result → Shared → Prop} {s : Shared} (I : Nat → Shared → Prop)
    (turn : ∀ n s, I n s → wpAny Φ.M Φ.A (pyNext it) (fun r s₁ => match r with
      | none => R (.ok .next) s₁
      | some v => wpAny Φ.M Φ.A (letOwnedTupleGo target it v) (fun _ s₀ => wpAny Φ.M Φ.A (assign target env v) (fun _ s₂ => wpAny Φ.M Φ.A (PySem.isTrue tst env (eval tst env)) (fun ok s₃ =>
          if ok = true then wpAny Φ.M Φ.A (eval elt env) (fun x s₄ => wpAny Φ.M Φ.A (call (.builtin "list.append") [acc, x]) (fun _ s₅ => ∃ m, m < n ∧ I m s₅) (fun _ _ => False) s₄) (fun _ _ => False) s₃
          else ∃ m, m < n ∧ I m s₃) (fun _ _ => False) s₂) (fun _ _ => False) s₀) (fun _ _ => False) s₁) (fun _ _ => False) s)
    (n : Nat) (h : I n s) : codeAny Φ.M Φ.A (.compLoop (.ListComp elt [⟨target, iter, [tst], 0⟩] scope pos) 0 it acc env) R s := by
  have no : ∀ {α : Type} {t : Sem α} {P P' : α → Shared → Prop} {E : Value → Shared → Prop} {s : Shared}, wpAny Φ.M Φ.A t P (fun _ _ => False) s → (∀ a s', P a s' → P' a s') → wpAny Φ.M Φ.A t P' E s := fun h k => wpAny_mono h k fun _ _ x => x.elim
  refine codeAny_loop rfl I (fun n s hI => ?_) n h
  show wpAny _ _ ((compTurn (.ListComp elt [⟨target, iter, [tst], 0⟩] scope pos) 0 it acc env).onRaise (fun x => do noteFrame x env; theTreesLotGoes x)) _ _ s
  refine wpAny_noted ?_
  rw [compTurn_list]
  refine wpAny_bind (wpAny_standAt (wpAny_bind (no (turn n s hI) fun r s₁ h₁ => ?_)))
  cases r with
  | none => exact wpAny_pure h₁
  | some v =>
    refine wpAny_bind (no h₁ fun _ s₀ h₀ => wpAny_bind (no h₀ fun _ s₂ h₂ => wpAny_bind ?_))
    simp only [List.forIn_cons, List.forIn_nil, if_true, bind_assoc, pure_bind]
    refine wpAny_bind (no h₂ fun ok s₃ h₃ => wpAny_pure ?_)
    cases ok with
    | false => exact wpAny_pure ⟨rfl, h₃⟩
    | true => exact wpAny_bind (no h₃ fun x s₄ h₄ => wpAny_bind (no h₄ fun _ s₅ h₅ => wpAny_pure ⟨rfl, h₅⟩))
/-- A comprehension's turns, with a test. -/
noncomputable def compWT (tgt : PV → VS → (VS → Prop) → Prop) (tst : VS → (Bool → VS → Prop) → Prop) (elt : VS → (VV → VS → Prop) → Prop) (hp : List VO) (base : List (Nat × VV)) (Q : List PV → Prop) : List PV → List PV → Prop
  | [], acc => Q acc
  | v :: r, acc => tgt v ⟨base, hp⟩ fun τ1 => tst τ1 fun c τ2 => match c with
    | true => elt τ2 fun u τ3 => τ3.hp = hp ∧ match u with
      | .p z => compWT tgt tst elt hp base Q r (acc ++ [z])
      | _ => False
    | false => τ2.hp = hp ∧ compWT tgt tst elt hp base Q r acc
theorem comp_goT {elt iter target tst : Expr} {scope : Scope} {pos : Pos} {fv : List Nat} {t : WS} {tw : WT} {w : WE} (ok : CompOk N Z cs scope fv) (ht : SS G (relC scope cs) target t) (hT : ST G (relC scope cs) tst tw) (he : SE G (relC scope cs) elt w) {C : Calls} (okC : CallsOk G Φ.A.depth C)
    {l : List PV} {keep : VS → Prop} {XP : Nat → List (Addr × Obj) → Prop} {e0 : List (Addr × Obj)} {it : Value} (src : SrcOk Φ W l keep it XP) (x0 : XP 0 e0) (S : SimX Φ W τ (e0 ++ x) s) (kp : keep τ) {b : List (Nat × VV)} (hb : pickN τ.loc fv = some b) (hz : l.length ≤ 1000000)
    {Q : List PV → Prop} (q : compWT (fun v τ q => t C τ (.p v) q) (tw C) (w C) τ.hp b Q l []) {use : Option (Value → Sem Unit)} {P : Value → Shared → Prop}
    (hend : ∀ W' acc vs n D Ca oC s', W.le W' → PRepL (FW G W') acc vs → SimX Φ W' τ ((D, listOf vs.toArray n) :: (Ca, oC) :: x) s' → NsD oC → Q acc → compPost Φ.M Φ.A (fun _ _ => False) use P (.ref D) Ca (.ok .next) s') :
    wpAny Φ.M Φ.A (newList []) (fun acc s₃ => wpAny Φ.M Φ.A (newFunctionEnv scope Φ.env.globals (clL Φ.cells scope.names []) [] Φ.env.qual none .none (some Φ.env)) (fun cenv s₄ =>
        codeAny Φ.M Φ.A (.compStart (.ListComp elt [⟨target, iter, [tst], 0⟩] scope pos) 0 it acc { cenv with scope := relabel scope Φ.env }) (compPost Φ.M Φ.A (fun _ _ => False) use P acc cenv.locals) s₄) (fun _ _ => False) s₃) (fun _ _ => False) s := by
  refine wpAny_newObj_type (hd := by size_fits) ?_
  have S2 := ((S.new (h' := s.heap.push { cls := .type "list", dict := none, data := .seq ([] : List Value).toArray }) (t := s.toks) (fun _ _ e => Heap.get?_push_of_some _ e) (Heap.get?_none_of_le (Nat.le_refl _)) (Heap.get?_push_size _ rfl)).perm (x' := e0 ++ (s.heap.objs.size, listOf ([] : List Value).toArray 0) :: x) List.perm_middle.symm)
  generalize s.heap.objs.size = D at S2 ⊢
  generalize hs₂ : ({ s with heap := s.heap.push { cls := .type "list", dict := none, data := .seq ([] : List Value).toArray } } : Shared) = s₂ at S2 ⊢
  refine wpAny_newFunctionEnv ok.cell (by intro y hy; simp at hy) (fun h₁ hns₁ hsb₁ => ?_) ok.kind
  have k₁ : ∀ b o, s₂.heap.get? b = some o → h₁.get? b = some o := fun b o x => hsb₁.extBut b o (Nat.ne_of_lt (Heap.lt_size x)) (Heap.get?_push_of_some _ x)
  obtain ⟨oC, esC, epC, gC, rC⟩ := id hns₁
  have S3 := (S2.new (h' := h₁) (t := s₂.toks) k₁ (Heap.get?_none_of_le (Nat.le_refl _)) gC).perm (x' := e0 ++ (D, listOf ([] : List Value).toArray 0) :: (s₂.heap.objs.size, oC) :: x) (by
    have : e0 ++ (D, listOf ([] : List Value).toArray 0) :: (s₂.heap.objs.size, oC) :: x = (e0 ++ [(D, listOf ([] : List Value).toArray 0)]) ++ (s₂.heap.objs.size, oC) :: x := by simp
    rw [this]
    refine List.Perm.trans ?_ List.perm_middle.symm
    simp)
  have hCsz : s₂.heap.objs.size = s₂.heap.objs.size := rfl
  generalize hCa : s₂.heap.objs.size = Ca at S3 gC hns₁ ⊢
  have st : ∀ a o, Φ.h₀.get? a = some o → (restr s₂.heap (stay Φ x)).get? a = some o := fun a o e => restr_get (by simp [stay, e]) (S2.base a o e)
  let Φc := compCx Φ scope (clL Φ.cells scope.names []) Ca (restr s₂.heap (stay Φ x)) (fun a o e => st a o (Φ.X a o e)) (Φ.T.keeps st) fv ok
  have HB : ∀ W' mC k v, W.le W' → getN k b = some v → LR Φc W' mC k v := fun W' mC k v le e => by
    obtain ⟨h1, h2⟩ := pickN_has hb
    obtain ⟨h3, h4⟩ := h2 k v e
    obtain ⟨c, u, e1, e2, r, hs⟩ := S2.cellOf h4 (ok.fv2 k h3)
    rcases hs with hs | ⟨o, hm, hd⟩
    rotate_left
    · exact .froz c o u (ok.fv3 k h3) (clL_lookup e1 (fun b hb => by cases hb) (.inl (ok.fv1 k h3))) (le.fro hm) hd (r.mono le)
    obtain ⟨oc, e3, e4⟩ := e2
    refine .fix c u (ok.fv3 k h3) (clL_lookup e1 (fun b hb => by cases hb) (.inl (ok.fv1 k h3))) ⟨oc, restr_get ?_ e3, e4⟩ (r.mono le)
    unfold stay
    simp only [Bool.or_eq_true, List.contains_iff_mem, beq_iff_eq]
    rcases hs with hs | hs
    · exact .inl (.inr hs)
    · exact .inl (.inl (.inl hs))
  have L : ∀ s', SimX Φ W τ (e0 ++ (D, listOf ([] : List Value).toArray 0) :: (Ca, oC) :: x) s' → (∀ a o, Φc.h₀.get? a = some o → s'.heap.get? a = some o) →
      codeAny Φ.M Φ.A (.compLoop (.ListComp elt [⟨target, iter, [tst], 0⟩] scope pos) 0 it (.ref D) Φc.env) (compPost Φ.M Φ.A (fun _ _ => False) use P (.ref D) Ca) s' := fun s' S' K' => by
    refine comp_loopT (CoI Φ W x τ l XP D Ca (fun s' => ∀ a o, Φc.h₀.get? a = some o → s'.heap.get? a = some o) (compWT (fun v τ q => t C τ (.p v) q) (tw C) (w C) τ.hp b Q)) (fun n s' hI => ?_) (l.length + 1) ⟨0, W, e0, [], 0, oC, [], rfl, Nat.zero_le _, .refl _, x0, S', ⟨_, esC, epC, rC⟩, .nil, Nat.le_refl _, K', q⟩
    obtain ⟨i, W', e, vs, nD, oC, acc, en, hi, le', xi, S', nsd, pr, al, K', q'⟩ := hI
    by_cases hie : i = l.length
    · subst hie
      refine src.stop W' τ e _ s' _ le' xi S' kp fun s3 S3 => ?_
      rw [List.drop_length] at q'
      exact hend W' acc vs nD D Ca oC s3 le' pr S3 nsd q'
    · have hlt : i < l.length := Nat.lt_of_le_of_ne hi hie
      have ha : l[i]? = some l[i] := List.getElem?_eq_getElem hlt
      rw [List.drop_eq_getElem_cons hlt] at q'
      have nsOf : ∀ {e : List (Addr × Obj)} {oD oC : Obj} {W' : Wd} {s' : Shared}, SimX Φ W' τ (e ++ (D, oD) :: (Ca, oC) :: x) s' → NsD oC → ∃ mC, s'.heap.Ns Ca mC := fun {e oD oC W' s'} S ⟨mC, es, ep, r⟩ =>
        ⟨mC, oC, es, ep, (show SimX Φ W' τ ((e ++ [(D, oD)]) ++ (Ca, oC) :: x) s' by simpa using S).mid, r⟩
      obtain ⟨mC, hN⟩ := nsOf S' nsd
      have Sc := comp_in (Φc := Φc) rfl rfl rfl (Nat.le_of_eq hCa) K' hN (fun k v e => HB W' mC k v le' e) S'
      refine src.item i _ W' τ e _ s' _ le' ha xi S' kp fun c e' s1 rc xi' S1 oth => ?_
      refine src.go (i + 1) W' τ e' _ s1 target c _ xi' S1 ?_
      have K1 : ∀ a o, Φc.h₀.get? a = some o → s1.heap.get? a = some o := fun a o ea => oth a o (fun hm => by
        obtain ⟨p, hp, e1⟩ := List.mem_map.mp hm
        obtain ⟨_, _, _, _, Nwc, _⟩ := Sc
        have := (Nwc p (by simp [hp])).2.2
        rw [e1, ea] at this; cases this) (K' a o ea)
      obtain ⟨mC1, hN1⟩ := nsOf S1 nsd
      have Sc1 := comp_in (Φc := Φc) rfl rfl rfl (Nat.le_of_eq hCa) K1 hN1 (fun k v e => HB W' mC1 k v le' e) S1
      refine wpAny_mono (ht Φc C okC W' _ _ s1 (.p l[i]) c _ Sc1 (.p rc) q') (fun _ s2 y => ?_) fun _ _ y => y
      obtain ⟨Wa, τa, lea, Sca, qa⟩ := y
      have stK : ∀ a o, stay Φ x a = true → s1.heap.get? a = some o → s₂.heap.get? a = some o := fun a o hs e => by
        obtain ⟨o2, h2⟩ := SimX.stays (e := e0 ++ [(D, listOf ([] : List Value).toArray 0)]) (x := x) (by simpa using S2) hs
        have := K1 a o2 (restr_get hs h2)
        rw [e] at this
        cases this
        exact h2
      refine wpAny_mono (hT Φc C okC Wa τa _ s2 _ Sca qa) (fun okb s2b y => ?_) fun _ _ y => y
      obtain ⟨W2, τ2, leb, Sc2, q2⟩ := y
      have le2 := lea.trans leb
      cases okb with
      | false =>
        rw [if_neg Bool.false_ne_true]
        obtain ⟨eh, q3⟩ := (q2 : τ2.hp = τ.hp ∧ _)
        obtain ⟨oC', nsd', S3⟩ := comp_out (Φc := Φc) (h₁ := s₂.heap) rfl rfl rfl stK le2 S1 Sc2 eh
        refine ⟨l.length - i, by (exact qq2 [_,_,_,_] [1] 1 0x608045 1 0x50608047 1 0x38505 qt (qF en) (qR (qq1 [_,_] [1] 1 0xc5 1 0x608045 qt hlt))), i + 1, W2, e', vs, nD, oC', acc, by (exact Nat.le_antisymm (qq1 [_,_,_] [1] 1 0x2011c21008c5 1 0x384c5 qt (qR (qq1 [_,_] [1] 1 0xc5 1 0x608045 qt hlt))) (qq1 [_,_,_] [1] 1 0x21008e608045 1 0x9cc5 qt (qS _ _))), hlt, le'.trans le2, xi', S3, nsd', pr.mono le2.FW, Nat.le_succ_of_le al, fun a o ea => ?_, q3⟩
        obtain ⟨_, _, _, Fc, _⟩ := Sc2
        exact Fc.keep a o ea
      | true =>
      rw [if_pos rfl]
      refine wpAny_mono (he Φc C okC W2 τ2 _ s2b _ Sc2 q2) (fun u s3 y => ?_) fun _ _ y => y
      obtain ⟨W3, uv, τ3, le3, ru, Sc3, eh, q3⟩ := y
      obtain ⟨oC', nsd', S3⟩ := comp_out (Φc := Φc) (h₁ := s₂.heap) rfl rfl rfl stK (le2.trans le3) S1 Sc3 eh
      cases uv with
      | ref => exact q3.elim
      | meth => exact q3.elim
      | lam => exact q3.elim
      | p z =>
        cases ru with
        | p rz =>
          have hD := S3.mid
          have le13 := le2.trans le3
          have prl := (pr.mono le13.FW).app rz
          refine append_at hD (fun h' sb ho' => ?_) (hsz := ?_)
          · have S4 := S3.updM (co' := listOf (vs ++ [u]).toArray (nD + 1)) (by rw [ho', List.push_toArray]) sb s3.toks
            refine ⟨l.length - i, by (exact qq2 [_,_,_,_] [1] 1 0x608045 1 0x50608047 1 0x38505 qt (qF en) (qR (qq1 [_,_] [1] 1 0xc5 1 0x608045 qt hlt))), i + 1, W3, e', vs ++ [u], nD + 1, oC', acc ++ [z], by (exact Nat.le_antisymm (qq1 [_,_,_] [1] 1 0x2011c21008c5 1 0x384c5 qt (qR (qq1 [_,_] [1] 1 0xc5 1 0x608045 qt hlt))) (qq1 [_,_,_] [1] 1 0x21008e608045 1 0x9cc5 qt (qS _ _))), hlt, le'.trans le13, xi', S4, nsd', prl, by simp; (exact qq1 [_,_] [] 1 0xc5 1 0xc5 qt al), fun a o ea => ?_, q3⟩
            have : a ≠ D := fun e1 => by
              obtain ⟨_, _, _, _, Nwc, _⟩ := Sc3
              have := (Nwc (D, listOf vs.toArray nD) (by simp)).2.2
              rw [← e1] at this
              rw [ea] at this; cases this
            obtain ⟨_, _, _, Fc, _⟩ := Sc3
            exact (sb.2 a this).trans (Fc.keep a o ea)
          · have := pr.length
            have : sizeLine = 2 ^ 24 := rfl
            simp only [List.size_toArray]
            lia
  have K3 : ∀ a o, Φc.h₀.get? a = some o → ({ s₂ with heap := h₁, toks := s₂.toks } : Shared).heap.get? a = some o := fun a o e => k₁ a o (restr_of e).2
  exact codeAny_compStart_list (L _ S3 K3) (wpAny_mono (src.again 0 W τ e0 _ _ (fun v s' => v = it ∧ s' = _) (.refl W) x0 S3 ⟨rfl, rfl⟩) (fun _ _ y => by obtain ⟨rfl, rfl⟩ := y; exact L _ S3 K3) fun _ _ y => y.elim)
noncomputable def compRT (t : WS) (tw : WT) (w : WE) (fv : List Nat) (C : Calls) (l : List PV) (τ : VS) (Q : List PV → Prop) : Prop := l.length ≤ 1000000 ∧ match pickN τ.loc fv with
  | some b => compWT (fun v τ q => t C τ (.p v) q) (tw C) (w C) τ.hp b Q l []
  | none => False
noncomputable abbrev wCompT (i : WI) (t : WS) (tw : WT) (w : WE) (fv : List Nat) : W0 := fun C τ Q => gd (pickN τ.loc fv).isSome <| i C τ fun l keep τ1 => compRT t tw w fv C l τ1 fun acc => Q (.new acc) τ1
theorem S0_compT {elt iter target tst : Expr} {scope : Scope} {pos : Pos} {fv : List Nat} {i : WI} {t : WS} {tw : WT} {w : WE} (ok : CompOk N Z cs scope fv) (hi : SI G cs iter i) (ht : SS G (relC scope cs) target t) (hT : ST G (relC scope cs) tst tw) (he : SE G (relC scope cs) elt w) (hs : ∀ env x, foldedSetIterable iter env x = pure x) :
    S0 G cs (.ListComp elt [⟨target, iter, [tst], 0⟩] scope pos) (wCompT i t tw w fv) := fun Φ C okC W τ x s Q S q => by
  obtain ⟨h1, q⟩ := gd_ex q
  show wpAny _ _ (comprehension (.ListComp elt [⟨target, iter, [tst], 0⟩] scope pos) scope Φ.env _ (newList []) false (eval iter Φ.env)) _ _ s
  refine wpAny_comprehension_free (use := none) rfl (hs _) (comp_clos ok S h1) ok.kind ok.names (wpAny_mono (hi Φ C okC W τ x s _ S q) (fun v s1 y => wpAny_mono y (fun it s2 y => ?_) fun _ _ y => y) fun _ _ y => y)
  obtain ⟨W1, l, keep, τ1, XP, e, le, src, x0, S1, k, hz, q1⟩ := y
  cases hb : pickN τ1.loc fv with
  | none => rw [hb] at q1; exact q1.elim
  | some b =>
    rw [hb] at q1
    refine comp_goT ok ht hT he okC src x0 S1 k hb hz q1 fun W' acc vs n D Ca oC s' le' pr S' nd q' => ?_
    obtain ⟨mC, hC⟩ := nd.ns (show SimX Φ W' τ1 (([(D, listOf vs.toArray n)]) ++ (Ca, oC) :: x) s' from S').mid
    refine ⟨mC, hC, fun h' sb => ?_⟩
    exact .new W' acc τ1 D vs n (le.trans le') pr ((S'.perm (List.Perm.swap _ _ _)).drop sb.extBut) q'
end VE
namespace VE
variable {N : Nat → Str} {Z : Stc} {G : Gl N Z} {cs : Scope} {Φ : Cx G cs} {W : Wd} {τ : VS} {s : Shared} {x : List (Addr × Obj)}
/-! A function with two parameters, both of them cells. -/
structure CfnOk (G : Gl N Z) (f : Addr) (k0 k1 : Nat) (name qual : Str) (params : Arguments) (body : List Stmt) (scope : Scope) (dV kV doc pm cdv ct oc : Value) (an od : Option Addr) (osl : Array (Option Value)) : Prop where
  ho : G.K.lookup f = some ⟨oc, od, .func (fnOf name qual params body scope dV kV doc pm an cdv ct), osl⟩
  hcd : codeIn G.K cdv qual = true
  hne : k0 ≠ k1
  hs0 : scope.names.lookup (N k0) = some .cell
  hs1 : scope.names.lookup (N k1) = some .cell
  hcells : ∀ n, cellsFrom n scope.names [] = [(N k1, n + 1), (N k0, n)]
  hco : scope.isCoroutine = false
  hgen : scope.isGenerator = false
  hk : scope.kind = .function
  htop : scope.names.lookup (N Z.topn) ≠ some .local
  hmark : ∀ T ∈ Z.tds, scope.names.lookup (N T.mark) ≠ some .local
variable {f : Addr} {k0 k1 : Nat} {name qual : Str} {params : Arguments} {body : List Stmt} {scope : Scope} {dV kV doc pm cdv ct oc : Value} {an od : Option Addr} {osl : Array (Option Value)}
theorem enterC {A : Around} {u0 u1 : VV} {v0 v1 : Value} {Q : Rs → List VO → Prop} (D : CfnOk G f k0 k1 name qual params body scope dV kV doc pm cdv ct oc an od osl) (hhd : A.handled = none) (hu : A.units ≤ 3 * A.depth + 4) (hdp : A.depth ≤ 996)
    (S : SimX Φ W τ x s) (r0 : VRep G W u0 v0) (r1 : VRep G W u1 v1) (hbind : bindArgs (fnOf name qual params body scope dV kV doc pm an cdv ct) ⟨[v0, v1], []⟩ = pure [(N k0, v0), (N k1, v1)])
    (h : ∀ Φ' : Cx G scope, Φ'.A.depth = A.depth + 1 → ∀ W1 s1, W.le W1 → SimX Φ' W1 ⟨[(k0, u0), (k1, u1)], τ.hp⟩ [] s1 → wpAny Φ'.M Φ'.A (execs body Φ'.env) (RF Φ' W1 [] fun fl τ' => retW τ.hp.length τ'.hp (retv fl) Q) (fun _ _ => False) s1) :
    codeAny (model G.prog G.w) A (.call (.ref f) ⟨[v0, v1], []⟩) (fun r s' => ∃ v, r = .ok (.ret v) ∧ R0 Φ W x (fun a τ' => τ'.loc = τ.loc ∧ Q a τ'.hp) v s') s := by
  obtain ⟨m, n1, n2, F, Nw, nd, H, Cc, L, cv, o, g⟩ := id S
  have hne : N k0 ≠ N k1 := fun e => D.hne (G.hN.inj _ _ e)
  refine codeAny_call_cells (fd := fnOf name qual params body scope dV kV doc pm an cdv ct) (body := body) (binds := [(N k0, v0), (N k1, v1)]) (Nat.lt_of_le_of_lt hdp (by decide)) (S.K _ _ D.ho) rfl ((topRead_of Φ.T).nolimit.keeps F.keep) (codeRec_of S.K D.hcd) rfl hbind rfl (fun y hy => ?_) (fun s₁ X => ?_) D.hco D.hgen D.hk
  · rcases List.mem_cons.mp hy with rfl | hy
    · exact .inr ⟨D.hs0, by
        show (List.lookup _ (cellsFrom _ scope.names [])).isSome = true
        rw [D.hcells]; simp [List.lookup, beq_false_of_ne hne]⟩
    · rcases List.mem_cons.mp hy with rfl | hy
      · exact .inr ⟨D.hs1, by
          show (List.lookup _ (cellsFrom _ scope.names [])).isSome = true
          rw [D.hcells]; simp⟩
      · cases hy
  · obtain ⟨h₁, tk, rfl, _⟩ := X.done
    have hk₁ := X.toInCall.keep
    have hcl : (callEnvC (fnOf name qual params body scope dV kV doc pm an cdv ct) s.heap.objs.size f).cells = [(N k1, s.heap.objs.size + 1 + 1), (N k0, s.heap.objs.size + 1)] := D.hcells _
    have hl0 : List.lookup (N k0) (callEnvC (fnOf name qual params body scope dV kV doc pm an cdv ct) s.heap.objs.size f).cells = some (s.heap.objs.size + 1) := by rw [hcl]; simp [List.lookup, beq_false_of_ne hne]
    have hl1 : List.lookup (N k1) (callEnvC (fnOf name qual params body scope dV kV doc pm an cdv ct) s.heap.objs.size f).cells = some (s.heap.objs.size + 1 + 1) := by rw [hcl]; simp
    obtain ⟨co0, hco0, hcd0⟩ := X.cell (N k0) (s.heap.objs.size + 1) hl0
    obtain ⟨co1, hco1, hcd1⟩ := X.cell (N k1) (s.heap.objs.size + 1 + 1) hl1
    have c0 : (callEnvC (fnOf name qual params body scope dV kV doc pm an cdv ct) s.heap.objs.size f).kindOf (N k0) = some .cell := D.hs0
    have c1 : (callEnvC (fnOf name qual params body scope dV kV doc pm an cdv ct) s.heap.objs.size f).kindOf (N k1) = some .cell := D.hs1
    have hd0 : co0.data = .cell (some v0) := by
      rw [hcd0]
      simp [bindC, c0, c1, hne, hne.symm]
    have hd1 : co1.data = .cell (some v1) := by
      rw [hcd1]
      simp [bindC, c0, c1, hne, hne.symm]
    let own := n1 ++ ([] ++ W.fro)
    have inO : ∀ p ∈ own, p ∈ x ++ (n1 ++ (n2 ++ W.fro)) := fun p hp => by
      rcases List.mem_append.mp hp with q | q
      · simp [q]
      · have q : p ∈ W.fro := q
        simp [q]
    have nm : ∀ b o, Φ.h₀.get? b = some o → b ∉ own.map (·.1) := fun b o e q => by
      obtain ⟨p, hp, rfl⟩ := List.mem_map.mp q
      rw [(Nw p (inO p hp)).2.2] at e; cases e
    have st : ∀ b o, Φ.h₀.get? b = some o → (hideAll s.heap (own.map (·.1))).get? b = some o := fun b o e => hideAll_get _ (F.keep b o e) (nm b o e)
    have fresh : ∀ b, s.heap.objs.size ≤ b → (hideAll s.heap (own.map (·.1))).get? b = none := fun b hb => Heap.get?_none_of_le (by rw [hideAll_size]; exact hb)
    let Φ' : Cx G scope := ⟨A.deeper (callEnvC (fnOf name qual params body scope dV kV doc pm an cdv ct) s.heap.objs.size f), hideAll s.heap (own.map (·.1)), s.heap.objs.size, (callEnvC (fnOf name qual params body scope dV kV doc pm an cdv ct) s.heap.objs.size f).cells, qual ++ ".<locals>.", some f, cdv, some s.heap.objs.size, [], fun a o e => st a o (Φ.X a o e), Φ.T.keeps st, D.hk, hhd, by
      show A.units + 3 ≤ 3 * (A.depth + 1) + 4
      (exact qq1 [_,_] [3,1,4] 1 0x1108030844608045 1 0x44200cc5 qt hu), by show A.depth + 1 ≤ 1000; (exact qq1 [_] [1,1000,996] 1 0x2208045 1 0x845 qt hdp), List.nodup_nil, fun e => absurd e D.htop, fun e => absurd e D.htop, fun T hT e => absurd e (D.hmark T hT), fun T hT e _ => absurd e (D.hmark T hT), fun T hT e => absurd e (D.hmark T hT)⟩
    have le1 : W.le ⟨W.rho, (s.heap.objs.size + 1, co0) :: (s.heap.objs.size + 1 + 1, co1) :: W.fro⟩ := ⟨List.prefix_refl _, fun _ h => .tail _ (.tail _ h)⟩
    have S' : SimX Φ' ⟨W.rho, (s.heap.objs.size + 1, co0) :: (s.heap.objs.size + 1 + 1, co1) :: W.fro⟩ ⟨[(k0, u0), (k1, u1)], τ.hp⟩ [] { s with heap := h₁, toks := tk } := by
      refine ⟨_, n1, [], ⟨X.toInCall.ns, fun b o e => hk₁ b o (of_hideAll _ e), Nat.le_of_eq (hideAll_size _ _)⟩, fun p hp => ?_, ?_, H.mono le1, .nil, fun k v e => ?_, fun k c hm => (nomatch hm), o, g⟩
      · have hp : p ∈ n1 ++ ((s.heap.objs.size + 1, co0) :: (s.heap.objs.size + 1 + 1, co1) :: W.fro) := hp
        have hp : p = (s.heap.objs.size + 1, co0) ∨ p = (s.heap.objs.size + 1 + 1, co1) ∨ p ∈ own := by
          rcases List.mem_append.mp hp with q | q
          · exact .inr (.inr (by simp [own, q]))
          · rcases List.mem_cons.mp q with q | q
            · exact .inl q
            · rcases List.mem_cons.mp q with q | q
              · exact .inr (.inl q)
              · exact .inr (.inr (by simp [own, q]))
        rcases hp with rfl | rfl | hp
        · exact ⟨hco0, Nat.succ_ne_self _, fresh _ (Nat.le_succ _)⟩
        · exact ⟨hco1, by show s.heap.objs.size + 1 + 1 ≠ s.heap.objs.size; (exact fun e9 => qZ (qq1 [_] [1,0] 1 0x8802 2 0x2840208045 qt (qE e9))), fresh _ (by omega)⟩
        · exact ⟨hk₁ _ _ (Nw p (inO p hp)).1, Nat.ne_of_lt (Heap.lt_size (Nw p (inO p hp)).1), hideAll_none _ (List.mem_map_of_mem hp)⟩
      · show ((n1 ++ ((s.heap.objs.size + 1, co0) :: (s.heap.objs.size + 1 + 1, co1) :: W.fro)).map (·.1)).Nodup
        have ndo : (own.map (·.1)).Nodup := List.Nodup.sublist (List.Sublist.map _ ((List.Sublist.append_left (List.sublist_append_right n2 W.fro) n1).trans (List.sublist_append_right x _))) nd
        have lt : ∀ p ∈ own, p.1 < s.heap.objs.size := fun p hp => Heap.lt_size (Nw p (inO p hp)).1
        refine (List.Perm.nodup_iff (List.Perm.map _ (List.perm_middle.trans (List.Perm.cons _ List.perm_middle)))).mpr ?_
        rw [List.map_cons, List.map_cons, List.nodup_cons, List.nodup_cons]
        refine ⟨fun hm => ?_, fun hm => ?_, ndo⟩
        · rcases List.mem_cons.mp hm with e | hm
          · have e : s.heap.objs.size + 1 = s.heap.objs.size + 1 + 1 := e
            (exact qZ (qq1 [_] [1,0] 1 0x8802 2 0x4022840208045 qt (qF e)))
          · obtain ⟨p, hp, e⟩ := List.mem_map.mp hm
            have := lt p hp
            have e : p.1 = s.heap.objs.size + 1 := e
            rw [e] at this
            exact Nat.lt_irrefl _ (Nat.lt_trans (Nat.lt_succ_self _) this)
        · obtain ⟨p, hp, e⟩ := List.mem_map.mp hm
          have := lt p hp
          have e : p.1 = s.heap.objs.size + 1 + 1 := e
          rw [e] at this
          exact Nat.lt_irrefl _ (Nat.lt_trans (Nat.lt_succ_self _) (Nat.lt_trans (Nat.lt_succ_self _) this))
      · simp only [getN] at e
        cases h1 : Nat.beq k k0 with
        | true =>
          rw [h1] at e
          have := Nat.eq_of_beq_eq_true h1
          subst this
          cases e
          exact .froz (s.heap.objs.size + 1) co0 v0 (.inl D.hs0) hl0 (.head _) hd0 (r0.mono le1)
        | false =>
          rw [h1] at e
          cases h2 : Nat.beq k k1 with
          | true =>
            rw [h2] at e
            have := Nat.eq_of_beq_eq_true h2
            subst this
            cases e
            exact .froz (s.heap.objs.size + 1 + 1) co1 v1 (.inl D.hs1) hl1 (.tail _ (.head _)) hd1 (r1.mono le1)
          | false => rw [h2] at e; cases e
    refine wpAny_mono (h Φ' rfl _ _ le1 S') (fun fl s' y => ?_) fun _ _ y => y.elim
    obtain ⟨W', a, τ', le, ra, S2, q⟩ := y
    have ra' : ∀ ff : Flow, FRel G W' a ff → VRep G W' (retv a) (match ff with | .ret v => v | _ => .none) := fun ff rr => by
      cases rr with
      | next => exact .p (.none .nil)
      | brk => exact .p (.none .nil)
      | cont => exact .p (.none .nil)
      | ret rv => exact rv
    have ra' := ra' fl ra
    exact ⟨_, rfl, leave ⟨F, Nw, nd, H, Cc, L, cv, o, g⟩ rfl rfl (le1.trans le) ra' S2 q⟩
theorem DefOk.cells {b : WX} (D : CfnOk G f k0 k1 name qual params body scope dV kV doc pm cdv ct oc an od osl) (hb : SB G scope body b) (hbind : ∀ u v, bindArgs (fnOf name qual params body scope dV kV doc pm an cdv ct) ⟨[u, v], []⟩ = pure [(N k0, u), (N k1, v)]) : DefOk G f [k0, k1] b :=
  ⟨fun cs Φ A C hh hu hA ok W τ x s as vs Q S r hl q => by
    cases r with
    | nil => cases hl
    | cons r0 r =>
      cases r with
      | nil => cases hl
      | cons r1 r =>
        cases r with
        | nil => exact enterC D hh hu (Nat.le_succ_of_le hA) S r0 r1 (hbind _ _) fun Φ' e' W1 s1 le S1 => wpAny_mono (hb Φ' C (e' ▸ ok) W1 _ [] s1 _ S1 q) (fun _ _ y => y) fun _ _ y => y
        | cons _ _ => cases hl⟩
end VE
namespace VE
/-! list.sort with a key keeps the order of items with equal keys: the items are 0, 1, .. at the start. -/
noncomputable def Vv (xs : Array Keyed) (i : Nat) : Int := match xs[i]? with
  | some p => numOf p.2
  | none => 0
theorem Vv_congr {xs ys : Array Keyed} {i j : Nat} (h : xs[i]? = ys[j]?) : Vv xs i = Vv ys j := by unfold Vv; rw [h]
noncomputable abbrev lexP (xs : Array Keyed) (i j : Nat) : Prop := K xs i < K xs j ∨ (K xs i = K xs j ∧ Vv xs i < Vv xs j)
noncomputable def LexTo (xs : Array Keyed) (k : Nat) : Prop := ∀ i j, i < j → j < k → lexP xs i j
noncomputable def LexDn (xs : Array Keyed) (k : Nat) : Prop := ∀ i j, i < j → j < k → lexP xs j i
structure Apart (xs : Array Keyed) (n : Nat) : Prop where
  lo : ∀ i, i < n → Vv xs i < n
  hi : ∀ i, n ≤ i → i < xs.size → Vv xs i = i
theorem LexTo.sorted {xs : Array Keyed} {k : Nat} (h : LexTo xs k) : SortedTo xs k := fun i j hij hj => by
  rcases Nat.lt_or_eq_of_le hij with q | rfl
  · rcases h i j q hj with r | r
    · exact Int.le_of_lt r
    · exact Int.le_of_eq r.1
  · exact Int.le_refl _
theorem LexDn.ninc {xs : Array Keyed} {k : Nat} (h : LexDn xs k) : NonInc xs k := fun i j hij hj => by
  rcases Nat.lt_or_eq_of_le hij with q | rfl
  · rcases h i j q hj with r | r
    · exact Int.le_of_lt r
    · exact Int.le_of_eq r.1
  · exact Int.le_refl _
theorem Vv_mirror {xs : Array Keyed} {i j : Nat} (hj : j ≤ xs.size) (k : Nat) :
    Vv (mirror xs i j ((j - i) / 2)) k = if i ≤ k ∧ k < j then Vv xs (i + j - 1 - k) else Vv xs k := by
  have e := getElem?_mirror_all (i := i) hj k
  by_cases h1 : i ≤ k ∧ k < j
  · rw [if_pos h1] at e ⊢; exact Vv_congr e
  · rw [if_neg h1] at e ⊢; exact Vv_congr e
theorem Apart.mirror {xs : Array Keyed} {i j n : Nat} (h : Apart xs n) (hj : j ≤ n) (hn : n ≤ xs.size) : Apart (mirror xs i j ((j - i) / 2)) n where
  lo := fun k hk => by
    rw [Vv_mirror (Nat.le_trans hj hn)]
    split
    · exact h.lo _ (by omega)
    · exact h.lo _ hk
  hi := fun k hk hs => by
    rw [mirror_size] at hs
    rw [Vv_mirror (Nat.le_trans hj hn), if_neg (by (exact fun e9 => qZ (qq3 [_,_,_] [1,0] 3 0x8802 2 0xc5 2 0xe6 2 0x508047 qt hj hk e9.2)))]
    exact h.hi k hk hs
theorem asc_lex {xs : Array Keyed} {a n : Nat} (hs : LexTo xs a) (A : Apart xs a) (h : SortedTo xs n) (hn : n ≤ xs.size) (han : a ≤ n) : LexTo xs n ∧ Apart xs n := by
  have V : ∀ i, i < n → Vv xs i < n := fun i hi => by
    rcases Nat.lt_or_ge i a with q | q
    · have := A.lo i q; omega
    · have := A.hi i q (by (exact qq2 [_,_,_] [1] 1 0x608045 1 0xc7 1 0x708045 qt hn hi)); omega
  refine ⟨fun i j hij hj => ?_, V, fun i hi hs => A.hi i (Nat.le_trans han hi) hs⟩
  rcases Nat.lt_or_ge j a with q | q
  · exact hs i j hij q
  · have k := h i j (Nat.le_of_lt hij) hj
    have vj := A.hi j q (by (exact qq2 [_,_,_] [1] 1 0x608045 1 0xc7 1 0x708045 qt hn hj))
    have vi : Vv xs i < j := by
      rcases Nat.lt_or_ge i a with r | r
      · have := A.lo i r; omega
      · have := A.hi i r (by (exact qq3 [_,_,_,_] [1] 1 0x608045 1 0xc7 1 0x808045 1 0x708048 qt hn hij hj)); omega
    unfold lexP
    omega
section
variable {prog : Program} {w : World} {A : Around} {E : Value → Shared → Prop} {s : Shared} {a₀ : Array Keyed}
noncomputable abbrev RunQ (a₀ : Array Keyed) (nrem : Nat) (Q : Option Nat → SortSt → Prop) : Prop := ∀ m st', SBase a₀ st' → 1 ≤ m → m ≤ nrem → LexTo (arrOf st') m → Apart (arrOf st') m → Q (some m) st'
theorem wpS_tail3S {st : SortSt} {n nrem : Nat} {Q : Option Nat → SortSt → Prop} (h0 : IntKeys a₀) (hn : nrem ≤ a₀.size) (h1 : 1 ≤ n) (hnn : n ≤ nrem) (hB : SBase a₀ st)
    (hs : LexDn (arrOf st) n) (hA : Apart (arrOf st) n) (h : RunQ a₀ nrem Q) : wpS (model prog w) A E s (tail3 n nrem) Q st := by
  unfold tail3
  have hsz : n ≤ (arrOf st).size := by rw [hB.size]; (exact qq2 [_,_,_] [] 1 0xc5 1 0xc7 1 0xe5 qt hn hnn)
  refine wpS_bind (wpS_reverse ?_)
  have hB' : SBase a₀ (setArr st (mirror (arrOf st) 0 n ((n - 0) / 2))) := hB.setArr (mirror_perm _ _ _ _)
  have hA' : Apart (mirror (arrOf st) 0 n ((n - 0) / 2)) n := hA.mirror (Nat.le_refl _) hsz
  have hs' : LexTo (mirror (arrOf st) 0 n ((n - 0) / 2)) n := fun i j hij hj => by
    unfold lexP
    rw [K_mirror hsz, K_mirror hsz, Vv_mirror hsz, Vv_mirror hsz, if_pos (by (exact ⟨qq0 [_] [0] 0x1402 qt, qq2 [_,_,_] [1] 1 0x608045 1 0x708045 1 0x608047 qt hij hj⟩)), if_pos (by (exact ⟨qq0 [_] [0] 0x1402 qt, qq1 [_,_] [1] 1 0x608045 1 0x608045 qt hj⟩)), if_pos (by (exact ⟨qq0 [_] [0] 0x1402 qt, qq2 [_,_,_] [1] 1 0x608045 1 0x708045 1 0x608047 qt hij hj⟩)), if_pos (by (exact ⟨qq0 [_] [0] 0x1402 qt, qq1 [_,_] [1] 1 0x608045 1 0x608045 qt hj⟩))]
    exact hs _ _ (by omega) (by (exact qq2 [_,_,_] [1,0] 1 0x608045 1 0xe5 1 0x982208047 qt (Nat.sub_le _ _) (qR (qq1 [_,_] [1,0] 1 0x2508802 1 0x508046 qt hj))))
  refine wpS_bind (wpS_ascLoop h0 hn h1 hnn hB' hs'.sorted fun m hm1 hm2 hsm _ => wpS_pure ?_)
  obtain ⟨a, b⟩ := asc_lex hs' hA' hsm (by rw [mirror_size, hB.size]; (exact qq2 [_,_,_] [] 1 0xc5 1 0xc7 1 0xe5 qt hn hm2)) hm1
  exact h m _ hB' (by (exact qq2 [_,_] [1] 1 0x1402 1 0x1802 1 0xa6 qt h1 hm1)) hm2 a b
/-- In the middle of a run that goes down: the last neq + 1 items have equal keys. -/
structure DownI (xs : Array Keyed) (x neq : Nat) : Prop where
  ap : Apart xs x
  nq : neq + 1 ≤ x
  dn : ∀ i j, i < j → j < x - (neq + 1) → lexP xs j i
  st : ∀ i j, i < x - (neq + 1) → x - (neq + 1) ≤ j → j < x → K xs j < K xs i
  eq : ∀ i, x - (neq + 1) ≤ i → i < x → K xs i = K xs (x - 1)
  up : ∀ i j, x - (neq + 1) ≤ i → i < j → j < x → Vv xs i < Vv xs j
theorem DownI.rev {xs : Array Keyed} {x neq : Nat} (h : DownI xs x neq) (hsz : x ≤ xs.size) : LexDn (mirror xs (x - (neq + 1)) x ((x - (x - (neq + 1))) / 2)) x := fun i j hij hj => by
  unfold lexP
  rw [K_mirror_equal hsz h.eq, K_mirror_equal hsz h.eq, Vv_mirror hsz, Vv_mirror hsz]
  have nq := h.nq
  by_cases h1 : x - (neq + 1) ≤ i
  · rw [if_pos (by (exact ⟨qq2 [_,_,_] [1] 1 0xc5 1 0x608047 1 0xe5 qt hij h1, qq1 [_,_] [1] 1 0x608045 1 0x608045 qt hj⟩)), if_pos (by (exact ⟨qq1 [_,_] [] 1 0xc5 1 0xc5 qt h1, qq2 [_,_,_] [1] 1 0x608045 1 0x708045 1 0x608047 qt hij hj⟩))]
    have e1 := h.eq i h1 (by (exact qq2 [_,_,_] [1] 1 0x608045 1 0x708045 1 0x608047 qt hij hj))
    have e2 := h.eq j (by (exact qq2 [_,_,_] [1] 1 0xc5 1 0x608047 1 0xe5 qt hij h1)) hj
    exact .inr ⟨by rw [e1, e2], h.up _ _ (by (exact qq3 [_,_,_,_,_] [1] 1 0xc5 1 0x808047 1 0x9cc9 1 0x40248505 qt hj (qS _ _) (qS _ _))) (by omega) (by omega)⟩
  · by_cases h2 : x - (neq + 1) ≤ j
    · exact .inl (h.st i j (by (exact qq1 [_,_] [1] 1 0x608045 1 0x608045 qt (qL h1))) h2 hj)
    · rw [if_neg (by (exact fun e9 => qZ (qq2 [_,_] [1,0] 1 0x8802 1 0x608045 1 0xa6 qt (qL h2) e9.1))), if_neg (by (exact fun e9 => qZ (qq3 [_,_,_] [1,0] 3 0x8802 2 0x608045 2 0x708046 2 0xa7 qt hij (qL h2) e9.1)))]
      exact h.dn i j hij (by (exact qq1 [_,_] [1] 1 0x608045 1 0x608045 qt (qL h2)))
theorem DownI.one {xs : Array Keyed} {x : Nat} (h : DownI xs x 0) : LexDn xs x := fun i j hij hj => by
  by_cases h2 : x - (0 + 1) ≤ j
  · exact .inl (h.st i j (by (exact qq3 [_,_,_,_] [1] 1 0x608045 1 0x708045 1 0x808047 1 0x1008c8 qt hij hj (qS _ _))) h2 hj)
  · exact h.dn i j hij (by (exact qq1 [_,_] [1] 1 0x608045 1 0x608045 qt (qL h2)))
theorem DownI.start {xs : Array Keyed} {n : Nat} (h1 : 1 ≤ n) (hs : LexDn xs n) (A : Apart xs n) (hl : K xs n < K xs (n - 1)) (hsz : n < xs.size) : DownI xs (n + 1) 0 where
  ap := ⟨fun i hi => by
    rcases Nat.lt_or_ge i n with q | q
    · have := A.lo i q; omega
    · have := A.hi i q (by (exact qq2 [_,_,_] [1] 1 0x608045 1 0x608047 1 0x804708045 qt hsz hi)); omega, fun i hi hs => A.hi i (by (exact qq1 [_,_] [1] 1 0xc5 1 0x608045 qt hi)) hs⟩
  nq := by (exact qq0 [_] [1] 0x2011402 qt)
  dn := fun i j hij hj => hs i j hij (by (exact qq2 [_,_,_] [1] 1 0x608045 1 0x708045 1 0x804608047 qt hj (qR (qq0 [_] [1] 0x2011402 qt))))
  st := fun i j hi h2 hj => by
    have : j = n := by (exact Nat.le_antisymm (qq1 [_,_] [1] 1 0xc5 1 0x804608045 qt hj) (qq2 [_,_,_] [1] 1 0xc5 1 0xc7 1 0x804708045 qt h2 (qS _ _)))
    subst this
    exact Int.lt_of_lt_of_le hl (hs.ninc i (j - 1) (by (exact qq3 [_,_,_,_] [1] 1 0xc5 1 0x708045 1 0x107 1 0x1008c8 qt hi h2 (qS _ _))) (by (exact qq1 [_,_] [1] 1 0x608045 1 0x608045 qt (qR (qq1 [_] [1] 1 0x1402 1 0x1402 qt h1)))))
  eq := fun i h1 h2 => by
    have : i = n + 1 - 1 := by (exact Nat.le_antisymm (qq2 [_,_,_] [1] 1 0xc5 1 0x804708045 1 0x804608047 qt h2 (qS _ _)) (qq1 [_,_] [] 1 0xc5 1 0xc5 qt h1))
    rw [← this]
  up := fun i j h1 h2 h3 => absurd h3 (by (exact fun e9 => qZ (qq4 [_,_,_,_] [1,0] 2 0x8802 1 0xc5 1 0x708046 1 0x804808047 1 0x804508048 qt h1 h2 h3 (qS _ _))))
theorem DownI.more {xs : Array Keyed} {x neq : Nat} (h : DownI xs x neq) (e : K xs x = K xs (x - 1)) (hsz : x < xs.size) : DownI xs (x + 1) (neq + 1) := by
  have nq := h.nq
  have vx := h.ap.hi x (Nat.le_refl _) hsz
  have eb : x + 1 - (neq + 1 + 1) = x - (neq + 1) := by (exact Nat.le_antisymm (qq2 [_,_,_,_] [1] 1 0xc5 1 0x420120c7 1 0x1008e10804100905 qt (qS _ _) (qR (qq1 [_,_] [1] 1 0x4023040208045 1 0x608045 qt nq))) (qq2 [_,_,_,_] [1] 1 0xc5 1 0x1080410090608047 1 0x1c2100905 qt (qS _ _) (qR (qq1 [_,_] [1] 1 0x608045 1 0x608045 qt nq))))
  refine ⟨⟨fun i hi => ?_, fun i hi hs => h.ap.hi i (by (exact qq1 [_,_] [1] 1 0xc5 1 0x608045 qt hi)) hs⟩, by (exact qq1 [_,_] [1] 1 0x4023040208045 1 0x608045 qt nq), fun i j hij hj => h.dn i j hij (by (exact qq2 [_,_,_] [1] 1 0x608045 1 0xc7 1 0x708045 qt (qE eb) hj)), fun i j hi h2 hj => ?_, fun i h1 h2 => ?_, fun i j h1 h2 h3 => ?_⟩
  · rcases Nat.lt_or_ge i x with q | q
    · have := h.ap.lo i q; omega
    · have : i = x := by (exact Nat.le_antisymm (qq1 [_,_] [1] 1 0xc5 1 0x804608045 qt hi) (qq1 [_,_] [] 1 0xc5 1 0xc5 qt q))
      subst this; omega
  · rw [eb] at hi h2
    by_cases hjx : j = x
    · subst hjx; rw [e]; exact h.st i (j - 1) hi (by (exact qq2 [_,_,_,_] [1] 1 0xc5 1 0x1008c7 1 0x1c2100905 qt (qS _ _) (qR (qq1 [_,_] [1] 1 0x608045 1 0x608045 qt nq)))) (by (exact qq1 [_,_] [1] 1 0x608045 1 0x608045 qt (qR (qq1 [_,_] [1] 1 0x1402 1 0x508046 qt nq))))
    · exact h.st i j hi h2 (by omega)
  · rw [eb] at h1
    rw [show x + 1 - 1 = x by (exact Nat.le_antisymm (qq1 [_,_] [1] 1 0xc5 1 0x804608045 qt (qR (qq0 [_] [1] 0x2011402 qt))) (qq1 [_,_] [1] 1 0xc5 1 0x804608045 qt (qS _ _))), e]
    by_cases hix : i = x
    · subst hix; exact e
    · exact h.eq i h1 (by omega)
  · rw [eb] at h1
    by_cases hjx : j = x
    · subst hjx
      have := h.ap.lo i h2
      omega
    · exact h.up i j h1 h2 (by omega)
theorem wpS_descLoopS {st : SortSt} {n nrem : Nat} {Q : DescSt → SortSt → Prop} (h0 : IntKeys a₀) (hn : nrem ≤ a₀.size) (h1 : 1 ≤ n) (hnn : n ≤ nrem) (hB : SBase a₀ st) (hI : DownI (arrOf st) n 0)
    (h : ∀ m neq st', SBase a₀ st' → n ≤ m → m ≤ nrem → DownI (arrOf st') m neq → Q (none, m, neq) st') : wpS (model prog w) A E s (descLoop n nrem) Q st := by
  unfold descLoop
  refine wpS_forRange (I := fun x c st' => ∃ neq, c = (none, x, neq) ∧ SBase a₀ st' ∧ DownI (arrOf st') x neq) ?step ?fin ⟨0, rfl, hB, hI⟩
  case fin =>
    rintro c st' ⟨neq, rfl, hB', hI'⟩
    rw [show max n nrem = nrem by omega] at hI' ⊢
    exact h nrem neq st' hB' hnn (Nat.le_refl _) hI'
  case step =>
    rintro x c st' hax hxn ⟨neq, rfl, hB', hI'⟩
    dsimp only
    have hsz : x < (arrOf st').size := by rw [hB'.size]; (exact qq2 [_,_,_] [1] 1 0x608045 1 0xc7 1 0x708045 qt hn hxn)
    refine wpS_bind (wpS_ltK hB' h0 (by (exact qq2 [_,_,_] [1] 1 0x608045 1 0xc7 1 0x708045 qt hn hxn)) (by (exact qq3 [_,_,_,_] [1] 1 0x608045 1 0xc7 1 0x708048 1 0x105 qt hn hxn (Nat.sub_le _ _))) ?_)
    by_cases hless : K (arrOf st') x < K (arrOf st') (x - 1)
    · simp only [hless, decide_true, if_true]
      by_cases hneq : neq > 0
      · rw [if_pos hneq]
        refine wpS_bind (wpS_reverse (wpS_pure ⟨0, rfl, hB'.setArr (mirror_perm _ _ _ _), ?_⟩))
        refine DownI.start (by (exact qq2 [_,_] [1] 1 0x1402 1 0x1802 1 0xa6 qt h1 hax)) (hI'.rev (Nat.le_of_lt hsz)) (hI'.ap.mirror (Nat.le_refl _) (Nat.le_of_lt hsz)) ?_ (by rw [mirror_size]; exact hsz)
        rw [K_mirror_equal (Nat.le_of_lt hsz) hI'.eq, K_mirror_equal (Nat.le_of_lt hsz) hI'.eq]
        exact hless
      · rw [if_neg hneq]
        have : neq = 0 := by (exact Nat.le_antisymm (qq1 [_] [0] 1 0x45 1 0x45 qt (qT hneq)) (qq0 [_] [0] 0x1402 qt))
        subst this
        exact wpS_pure ⟨0, rfl, hB', .start (by (exact qq2 [_,_] [1] 1 0x1402 1 0x1802 1 0xa6 qt h1 hax)) hI'.one hI'.ap hless hsz⟩
    · simp only [hless, decide_false, Bool.false_eq_true, if_false]
      refine wpS_bind (wpS_ltK hB' h0 (by (exact qq3 [_,_,_,_] [1] 1 0x608045 1 0xc7 1 0x708048 1 0x105 qt hn hxn (Nat.sub_le _ _))) (by (exact qq2 [_,_,_] [1] 1 0x608045 1 0xc7 1 0x708045 qt hn hxn)) ?_)
      by_cases hlarger : K (arrOf st') (x - 1) < K (arrOf st') x
      · simp only [hlarger, decide_true, if_true]
        exact wpS_pure (h x neq st' hB' hax (by (exact qq1 [_,_] [1] 1 0xc5 1 0x608045 qt hxn)) hI')
      · simp only [hlarger, decide_false, Bool.false_eq_true, if_false]
        exact wpS_pure ⟨neq + 1, rfl, hB', hI'.more (by omega) hsz⟩
theorem wpS_descPartS {st : SortSt} {n nrem : Nat} {Q : Option Nat → SortSt → Prop} (h0 : IntKeys a₀) (hn : nrem ≤ a₀.size) (hnn : n + 1 ≤ nrem) (hB : SBase a₀ st) (hI : DownI (arrOf st) (n + 1) 0) (h : RunQ a₀ nrem Q) :
    wpS (model prog w) A E s (descPart n nrem) Q st := by
  unfold descPart
  refine wpS_bind (wpS_lift (wpAny_rule ⟨rfl, ?_⟩))
  refine wpS_bind (wpS_descLoopS h0 hn (by (exact qq0 [_] [1] 0x2011402 qt)) hnn hB hI fun m neq st' hB' hm1 hm2 hI' => ?_)
  dsimp only
  have hsz : m ≤ (arrOf st').size := by rw [hB'.size]; (exact qq2 [_,_,_] [] 1 0xc5 1 0xc7 1 0xe5 qt hn hm2)
  by_cases hneq : neq > 0
  · rw [if_pos hneq]
    exact wpS_bind (wpS_reverse (wpS_tail3S h0 hn (by (exact qq1 [_,_] [1] 1 0x1402 1 0x508046 qt hm1)) hm2 (hB'.setArr (mirror_perm _ _ _ _)) (hI'.rev hsz) (hI'.ap.mirror (Nat.le_refl _) hsz) h))
  · rw [if_neg hneq]
    have : neq = 0 := by (exact Nat.le_antisymm (qq1 [_] [0] 1 0x45 1 0x45 qt (qT hneq)) (qq0 [_] [0] 0x1402 qt))
    subst this
    exact wpS_tail3S h0 hn (by (exact qq1 [_,_] [1] 1 0x1402 1 0x508046 qt hm1)) hm2 hB' hI'.one hI'.ap h
theorem wpS_countRunS {st : SortSt} {nrem : Nat} {Q : Option Nat → SortSt → Prop} (h0 : IntKeys a₀) (hn : nrem ≤ a₀.size) (h1 : 1 ≤ nrem) (hB : SBase a₀ st) (hA : ∀ i, i < (arrOf st).size → Vv (arrOf st) i = i) (h : RunQ a₀ nrem Q) :
    wpS (model prog w) A E s (countRun' 0 nrem) Q st := by
  rw [countRun0_eq]
  have A1 : Apart (arrOf st) 1 := ⟨fun i hi => by have := hA i (by rw [hB.size]; (exact qq3 [_,_,_] [1] 2 0x608045 1 0xc7 1 0x1c02 2 0x208045 qt hn h1 hi)); omega, fun i _ hs => hA i hs⟩
  have L1 : LexTo (arrOf st) 1 := fun i j hij hj => by omega
  refine wpS_bind (wpS_ascLoop h0 hn (Nat.le_refl 1) h1 hB L1.sorted fun n hn1 hn2 hsn hor => ?_)
  dsimp only
  have hsz : n ≤ (arrOf st).size := by rw [hB.size]; (exact qq2 [_,_,_] [] 1 0xc5 1 0xc7 1 0xe5 qt hn hn2)
  obtain ⟨Ln, An⟩ := asc_lex L1 A1 hsn hsz hn1
  by_cases hnn : n = nrem
  · rw [if_pos (by simpa using hnn)]
    exact wpS_pure (h n st hB hn1 hn2 Ln An)
  · rw [if_neg (by simpa using hnn)]
    have hlt : K (arrOf st) n < K (arrOf st) (n - 1) := hor.resolve_left hnn
    by_cases hgt : n > 1
    · rw [if_pos hgt]
      refine wpS_bind (wpS_ltK hB h0 (by (exact qq3 [_,_,_] [0,1] 3 0xa108802 2 0xa6 2 0xc7 2 0xe108822 qt hn hn2 hgt)) (by (exact qq3 [_,_,_,_] [1] 1 0x608045 1 0xc7 1 0xe8 1 0x808045 qt hn hn2 (qR (qq1 [_] [1] 1 0x1402 1 0xa100802 qt hgt)))) ?_)
      by_cases hrose : K (arrOf st) 0 < K (arrOf st) (n - 1)
      · simp only [hrose, decide_true, if_true]
        exact wpS_pure (h n st hB hn1 hn2 Ln An)
      · simp only [hrose, decide_false, Bool.false_eq_true, if_false]
        have hall : ∀ k, 0 ≤ k → k < n → K (arrOf st) k = K (arrOf st) (n - 1) := by
          intro k _ hk
          have a1 := hsn 0 k (by (exact qq0 [_] [0] 0x1402 qt)) hk
          have a2 := hsn k (n - 1) (by (exact qq2 [_,_,_] [1] 1 0xc5 1 0x708045 1 0x1008c7 qt hk (qS _ _))) (by (exact qq1 [_,_] [1] 1 0x608045 1 0x608045 qt (qR (qq1 [_] [1] 1 0x1402 1 0xa100802 qt hgt))))
          omega
        refine wpS_bind (wpS_reverse (wpS_descPartS h0 hn (by omega) (hB.setArr (mirror_perm _ _ _ _)) ?_ h))
        refine DownI.start hn1 (fun i j hij hj => ?_) (An.mirror (Nat.le_refl _) hsz) ?_ (by rw [mirror_size, hB.size]; omega)
        · unfold lexP
          rw [K_mirror_equal hsz hall, K_mirror_equal hsz hall, Vv_mirror hsz, Vv_mirror hsz, if_pos (by (exact ⟨qq0 [_] [0] 0x1402 qt, qq1 [_,_] [1] 1 0x608045 1 0x608045 qt hj⟩)), if_pos (by (exact ⟨qq0 [_] [0] 0x1402 qt, qq2 [_,_,_] [1] 1 0x608045 1 0x708045 1 0x608047 qt hij hj⟩)), hA _ (by (exact qq3 [_,_,_,_] [1,0] 1 0x608045 1 0xc7 1 0x105 1 0x9c2208048 qt hsz (Nat.sub_le _ _) (qR (qq1 [_] [1,0] 1 0x2508802 1 0xa100802 qt hgt)))), hA _ (by (exact qq3 [_,_,_,_] [1,0] 1 0x608045 1 0xc7 1 0x105 1 0x9c2208048 qt hsz (Nat.sub_le _ _) (qR (qq1 [_] [1,0] 1 0x2508802 1 0xa100802 qt hgt)))), hall i (by (exact qq0 [_] [0] 0x1402 qt)) (by (exact qq2 [_,_,_] [1] 1 0x608045 1 0x708045 1 0x608047 qt hij hj)), hall j (by (exact qq0 [_] [0] 0x1402 qt)) hj]
          omega
        · rw [K_mirror_equal hsz hall, K_mirror_equal hsz hall]
          exact hlt
    · rw [if_neg hgt]
      have hn1' : n = 1 := by (exact Nat.le_antisymm (qq1 [_] [1] 1 0x45 1 0x45 qt (qT hgt)) (qq1 [_] [1] 1 0x1402 1 0x1402 qt hn1))
      subst hn1'
      exact wpS_descPartS h0 hn (by omega) hB (.start (Nat.le_refl _) (fun i j hij hj => by omega) An hlt (by rw [hB.size]; omega)) h
theorem Vv_bubble {xs : Array Keyed} {src d : Nat} (hs : src < xs.size) (hd : d ≤ src) (k : Nat) :
    Vv (bubble xs src d) k = if k = src - d then Vv xs src else if src - d < k ∧ k ≤ src then Vv xs (k - 1) else Vv xs k := by
  have e := getElem?_bubble hs d hd k
  by_cases h1 : k = src - d
  · rw [if_pos h1] at e ⊢; exact Vv_congr e
  · rw [if_neg h1] at e ⊢
    by_cases h2 : src - d < k ∧ k ≤ src
    · rw [if_pos h2] at e ⊢; exact Vv_congr e
    · rw [if_neg h2] at e ⊢; exact Vv_congr e
theorem bub_lex {xs : Array Keyed} {k l : Nat} (hk : k < xs.size) (hl : l ≤ k) (L : LexTo xs k) (A : Apart xs k) (hlo : ∀ i, i < l → K xs i ≤ K xs k) (hhi : ∀ i, l ≤ i → i < k → K xs k < K xs i) : LexTo (bubble xs k (k - l)) (k + 1) ∧ Apart (bubble xs k (k - l)) (k + 1) := by
  have vk := A.hi k (Nat.le_refl _) hk
  have e : k - (k - l) = l := by omega
  refine ⟨fun i j hij hj => ?_, fun i hi => ?_, fun i hi hs => ?_⟩
  · unfold lexP
    rw [K_bubble hk (by (exact qq1 [_,_] [] 1 0xc5 1 0xc5 qt (Nat.sub_le _ _))), K_bubble hk (by (exact qq1 [_,_] [] 1 0xc5 1 0xc5 qt (Nat.sub_le _ _))), Vv_bubble hk (by (exact qq1 [_,_] [] 1 0xc5 1 0xc5 qt (Nat.sub_le _ _))), Vv_bubble hk (by (exact qq1 [_,_] [] 1 0xc5 1 0xc5 qt (Nat.sub_le _ _))), e]
    by_cases h1 : i = l
    · have a : ¬ j = l := by (exact fun e9 => qZ (qq3 [_,_,_] [1,0] 3 0x8802 2 0x608045 2 0xa7 2 0xe6 qt hij (qF h1) (qE e9)))
      have b : l < j ∧ j ≤ k := by (exact ⟨qq2 [_,_,_] [1] 1 0x608045 1 0x608047 1 0xe5 qt hij (qF h1), qq1 [_,_] [1] 1 0xc5 1 0x804608045 qt hj⟩)
      rw [if_pos h1, if_pos h1, if_neg a, if_neg a, if_pos b, if_pos b]
      exact .inl (hhi _ (by (exact qq2 [_,_,_] [1] 1 0xc5 1 0x708045 1 0x1008c7 qt b.1 (qS _ _))) (by (exact qq2 [_,_,_] [1] 1 0x608045 1 0x804608047 1 0x708045 qt hj (qR (qq1 [_,_] [1] 1 0x1402 1 0x508046 qt hij)))))
    · rw [if_neg h1, if_neg h1]
      by_cases h2 : j = l
      · have b : ¬ (l < i ∧ i ≤ k) := by (exact fun e9 => qZ (qq3 [_,_,_] [1,0] 3 0x8802 2 0x608045 2 0xe6 2 0x508047 qt hij (qE h2) e9.1))
        rw [if_pos h2, if_pos h2, if_neg b, if_neg b]
        have := hlo i (by (exact qq2 [_,_,_] [1] 1 0x608045 1 0x708045 1 0xc7 qt hij (qE h2)))
        have := A.lo i (by (exact qq2 [_,_,_] [1] 1 0x608045 1 0x708045 1 0x804608047 qt hij hj))
        omega
      · rw [if_neg h2, if_neg h2]
        repeat' split
        all_goals exact L _ _ (by omega) (by omega)
  · rw [Vv_bubble hk (by (exact qq1 [_,_] [] 1 0xc5 1 0xc5 qt (Nat.sub_le _ _))), e]
    split
    · omega
    · split
      · have := A.lo (i - 1) (by omega); omega
      · have := A.lo i (by omega); omega
  · rw [bubble_size] at hs
    rw [Vv_bubble hk (by (exact qq1 [_,_] [] 1 0xc5 1 0xc5 qt (Nat.sub_le _ _))), e, if_neg (by (exact fun e9 => qZ (qq3 [_,_,_] [1,0] 3 0x8802 2 0xc5 2 0x708046 2 0xa7 qt hl hi (qE e9)))), if_neg (by (exact fun e9 => qZ (qq2 [_,_] [1,0] 1 0x8802 1 0x608045 1 0xa6 qt hi e9.2)))]
    exact A.hi i (by (exact qq1 [_,_] [1] 1 0xc5 1 0x608045 qt hi)) hs
theorem wpS_binarySortS {st : SortSt} {n ok : Nat} {Q : Bool → SortSt → Prop} (h0 : IntKeys a₀) (hn : n ≤ a₀.size) (h1 : 1 ≤ ok) (hok : ok ≤ n) (hB : SBase a₀ st) (hs : LexTo (arrOf st) ok) (hA : Apart (arrOf st) ok)
    (h : ∀ st', SBase a₀ st' → LexTo (arrOf st') n → Q true st') : wpS (model prog w) A E s (binarySort' 0 n ok) Q st := by
  rw [binarySort'_eq]
  simp only [Nat.zero_add]
  rw [show max ok 1 = ok by omega]
  refine wpS_bind (wpS_mono (wpS_forRange (I := fun k c st' => c = (none, ()) ∧ SBase a₀ st' ∧ LexTo (arrOf st') k ∧ Apart (arrOf st') k)
    (Q := fun c st' => c = (none, ()) ∧ SBase a₀ st' ∧ LexTo (arrOf st') n) ?step ?fin ?init) ?post)
  case post =>
    rintro c st' ⟨rfl, hB', hs'⟩
    exact wpS_pure (h st' hB' hs')
  case init => exact ⟨rfl, hB, hs, hA⟩
  case fin =>
    rintro c st' ⟨hc, hB', hs', _⟩
    rw [show max ok n = n by omega] at hs'
    exact ⟨hc, hB', hs'⟩
  case step =>
    rintro k c st' hak hkn ⟨rfl, hB', hL', hA'⟩
    have hs' := hL'.sorted
    have hk : k < a₀.size := by (exact qq2 [_,_,_] [1] 1 0x608045 1 0xc7 1 0x708045 qt hn hkn)
    refine wpS_bind (wpS_mono (wpS_forRange (I := fun x c st'' => st'' = st' ∧ ∃ l r, c = (none, l, r) ∧ l ≤ r ∧ r ≤ k ∧ r - l ≤ k - x ∧
        (∀ i, i < l → K (arrOf st') i ≤ K (arrOf st') k) ∧ (∀ i, r ≤ i → i < k → K (arrOf st') k < K (arrOf st') i))
      (Q := fun c st'' => st'' = st' ∧ ∃ l r, c = (none, l, r) ∧ l ≤ k ∧
        (∀ i, i < l → K (arrOf st') i ≤ K (arrOf st') k) ∧ (∀ i, l ≤ i → i < k → K (arrOf st') k < K (arrOf st') i)) ?istep ?ifin ?iinit) ?ipost)
    case iinit => exact ⟨rfl, 0, k, rfl, by (exact qq0 [_] [0] 0x1402 qt), by (exact qq0 [_] [] 0xa5 qt), by (exact qq0 [_] [] 0xa5 qt), fun i hi => by omega, fun i h1 h2 => by omega⟩
    case ifin =>
      rintro c st'' ⟨rfl, l, r, rfl, hlr, hrk, hm, hlo, hhi⟩
      have : l = r := by omega
      subst this
      exact ⟨rfl, l, l, rfl, hrk, hlo, hhi⟩
    case istep =>
      rintro x c st'' _ hxk ⟨rfl, l, r, rfl, hlr, hrk, hm, hlo, hhi⟩
      dsimp only
      by_cases hge : l ≥ r
      · rw [if_pos hge]
        have : l = r := by (exact Nat.le_antisymm (qq1 [_,_] [] 1 0xc5 1 0xc5 qt hlr) (qq1 [_,_] [] 1 0xc5 1 0xc5 qt hge))
        subst this
        exact wpS_pure ⟨rfl, l, l, rfl, hrk, hlo, hhi⟩
      · rw [if_neg hge]
        refine wpS_bind (wpS_ltK hB' h0 hk (by (exact qq5 [_,_,_,_,_,_,_] [1,2] 2 0x608045 2 0xc7 2 0x708048 2 0x109 1 0x90804a 1 0xa54158465 qt hn hkn hrk (qL hge) (qD _ 2))) ?_)
        by_cases hless : K (arrOf st'') k < K (arrOf st'') ((l + r) / 2)
        · simp only [hless, decide_true, if_true]
          refine wpS_pure ⟨rfl, l, (l + r) / 2, rfl, by omega, by omega, by omega, hlo, fun i h1 h2 => ?_⟩
          exact Int.lt_of_lt_of_le hless (hs' _ _ h1 h2)
        · simp only [hless, decide_false, Bool.false_eq_true, if_false]
          refine wpS_pure ⟨rfl, (l + r) / 2 + 1, r, rfl, by (exact qq2 [_,_,_,_] [1,2] 2 0x608045 1 0x608047 1 0x98e140465 qt (qL hge) (qD _ 2)), by (exact qq1 [_,_] [] 1 0xc5 1 0xc5 qt hrk), by omega, fun i h1 => ?_, hhi⟩
          exact Int.le_trans (hs' i ((l + r) / 2) (by (exact qq1 [_,_] [1] 1 0xc5 1 0x804608045 qt h1)) (by (exact qq3 [_,_,_,_,_] [1,2] 2 0x608045 2 0xc7 1 0x708048 1 0x9d0148465 qt hrk (qL hge) (qD _ 2)))) (Int.not_lt.mp hless)
    case ipost =>
      rintro c st'' ⟨rfl, l, r, rfl, hlk, hlo, hhi⟩
      show wpS _ _ _ _ (do moveDown' k l; pure (ForInStep.yield (none, ()))) _ _
      rw [moveDown'_eq]
      exact wpS_bind (wpS_modify (wpS_pure ⟨rfl, hB'.setArr (bubble_perm _ _ _), bub_lex (by rw [hB'.size]; exact hk) hlk hL' hA' hlo hhi⟩))
theorem wpS_sortRunsS {st : SortSt} {Q : Unit → SortSt → Prop} (h0 : IntKeys a₀) (hB : SBase a₀ st) (hA : ∀ i, i < (arrOf st).size → Vv (arrOf st) i = i) (h2 : 2 ≤ a₀.size) (h64 : a₀.size < 64)
    (h : ∀ st', (arrOf st').Perm a₀ → failedOf st' = none → LexTo (arrOf st') a₀.size → Q () st') : wpS (model prog w) A E s sortRuns' Q st := by
  rw [sortRuns'_eq]
  refine wpS_bind (wpS_get ?_)
  dsimp only
  have hmr : minRun' a₀.size a₀.size 0 = a₀.size := by
    obtain ⟨f, hf⟩ : ∃ f, a₀.size = f + 1 := ⟨a₀.size - 1, by (exact Nat.le_antisymm (qq1 [_,_] [1] 1 0x1008c5 1 0x1008c5 qt (qS _ _)) (qq1 [_,_] [1] 1 0x608045 1 0x608045 qt (qR (qq1 [_] [1,2] 1 0x1402 1 0x1422 qt h2))))⟩
    have : minRun' (f + 1) a₀.size 0 = a₀.size := by rw [minRun'_succ, if_pos h64]; rfl
    rwa [← hf] at this
  simp only [hB.size, hmr]
  refine wpS_bind (wpS_mono (wpS_forRange
    (I := fun x c st' => (x = 0 ∧ c = (none, 0) ∧ st' = st) ∨ (1 ≤ x ∧ c = (none, a₀.size) ∧ SDone a₀ st' ∧ LexTo (arrOf st') a₀.size))
    (Q := fun c st' => c = (none, a₀.size) ∧ SDone a₀ st' ∧ LexTo (arrOf st') a₀.size) ?step ?fin (.inl ⟨rfl, rfl, rfl⟩)) ?post)
  case fin =>
    rintro c st' (⟨hx, _, _⟩ | ⟨_, hc, hD⟩)
    · omega
    · exact ⟨hc, hD⟩
  case step =>
    rintro x c st' _ hx (⟨rfl, rfl, rfl⟩ | ⟨hx1, rfl, hD⟩)
    · dsimp only
      rw [if_neg (by (exact fun e9 => qZ (qq2 [_] [1,0,2] 1 0x8802 1 0x1442 1 0x445 qt h2 e9)))]
      simp only [Nat.sub_zero, Nat.min_self, Nat.zero_add]
      refine wpS_bind (wpS_countRunS h0 (Nat.le_refl _) (by (exact qq1 [_] [1,2] 1 0x1402 1 0x1422 qt h2)) hB hA fun m st2 hB2 hm1 hm2 hs2 hA2 => ?_)
      dsimp only
      by_cases hlt : m < a₀.size
      · rw [if_pos hlt]
        refine wpS_bind (wpS_lift (wpAny_rule ⟨rfl, ?_⟩))
        refine wpS_bind (wpS_binarySortS h0 (Nat.le_refl _) hm1 hm2 hB2 hs2 hA2 fun st3 hB3 hs3 => ?_)
        simp only [Bool.not_true, Bool.false_eq_true, if_false]
        refine wpS_bind (wpS_get ?_)
        have hb : (pendingOf st3).back? = none := by rw [hB3.pend]; rfl
        rw [hb]
        dsimp only
        exact wpS_bind (wpS_modify (wpS_pure (.inr ⟨by (exact qq0 [] [1] 0x802 qt), rfl, hB3.done hs3.sorted, hs3⟩)))
      · rw [if_neg hlt]
        have hm : m = a₀.size := by (exact Nat.le_antisymm (qq1 [_,_] [] 1 0xc5 1 0xc5 qt hm2) (qq1 [_,_] [] 1 0xc5 1 0xc5 qt (qT hlt)))
        subst hm
        refine wpS_bind (wpS_get ?_)
        have hb : (pendingOf st2).back? = none := by rw [hB2.pend]; rfl
        rw [hb]
        dsimp only
        exact wpS_bind (wpS_modify (wpS_pure (.inr ⟨by (exact qq0 [] [1] 0x802 qt), rfl, hB2.done hs2.sorted, hs2⟩)))
    · dsimp only
      rw [if_pos (Nat.le_refl _)]
      exact wpS_pure ⟨rfl, hD⟩
  case post =>
    rintro c st' ⟨rfl, hD, hL⟩
    dsimp only
    refine wpS_bind (wpS_mono (wpS_forRange (I := fun _ c st'' => st'' = st' ∧ c = (none, ())) (Q := fun c st'' => st'' = st' ∧ c = (none, ())) ?_ (fun _ _ hh => hh) ⟨rfl, rfl⟩) ?_)
    · rintro x c st'' _ _ ⟨rfl, rfl⟩
      refine wpS_bind (wpS_get ?_)
      rw [if_pos (by rw [hD.2.2.1]; exact Nat.le_refl 1)]
      exact wpS_pure ⟨rfl, rfl⟩
    · rintro c st'' ⟨rfl, rfl⟩
      exact wpS_pure (h _ hD.1 hD.2.1 hL)
end
end VE
namespace VE
variable {N : Nat → Str} {Z : Stc} {G : Gl N Z} {cs : Scope} {Φ : Cx G cs} {W : Wd} {τ : VS} {s : Shared} {x : List (Addr × Obj)}
/-! sorted(range(n), key = f), f a function of the text's. -/
theorem collect_range {prog : Program} {w : World} {A : Around} {E : Value → Shared → Prop} {r : Addr} {b : Int} {t u v : Tok} {n : Nat} {Q : List Value → Shared → Prop} (hh : A.handled = none) (hr : IsRange s.heap r 0 b 1 t u v) (hsmall : Builtin.Range.small 0 b 1 = true)
    (hn : Builtin.Range.rangeSize 0 b 1 = n) (hlen : n ≤ 2 ^ 24) (hQ : ∀ h' tk (acc : Array Value), (∀ b o, s.heap.get? b = some o → h'.get? b = some o) → ItemsOf (fun i v => ∃ t, v = .int (0 + i * 1) t) acc n → Q acc.toList { s with heap := h', toks := tk }) :
    wpAny (model prog w) A (collect (.ref r)) Q E s := by
  unfold collect
  refine wpAny_bind (wpAny_runValue (codeAny_builtin F.entry_proto_collect ?_))
  rw [Around.under_plainId F.plain_proto_collect _]
  show wpAny _ A.in1 (newList [] >>= fun l => again (.builtin "list.__iadd__" ⟨[l, .ref r], []⟩)) _ _ s
  refine wpAny_bind (wpAny_newObj_type ?_)
  refine wpAny_pure ⟨plainId_quiet F.plain_list_iadd _, codeAny_builtin F.entry_list_iadd ?_⟩
  rw [Around.under_plainId F.plain_list_iadd _]
  show wpAny _ A.in1 (Builtin.List.listExtendWith (.ref s.heap.objs.size) (.ref r) (.ref s.heap.objs.size)) _ _ _
  have hS : (s.heap.push { cls := .type "list", data := .seq ([] : List Value).toArray }).get? s.heap.objs.size = some { cls := .type "list", data := .seq #[] 0 } := Heap.get?_push_size _ rfl
  refine wpAny_mono (wpAny_extend_range (A := A) (R := fun r' s' => ∃ h' tk acc' c', r' = .ok (.ret (.ref s.heap.objs.size)) ∧ s' = { s with heap := h', toks := tk } ∧ (∀ b o, s.heap.get? b = some o → h'.get? b = some o) ∧ h'.get? s.heap.objs.size = some { cls := .type "list", dict := none, data := .seq acc' c', slots := #[] } ∧ ItemsOf (fun i v => ∃ t, v = .int (0 + i * 1) t) acc' n)
    (s := { s with heap := s.heap.push { cls := .type "list", data := .seq ([] : List Value).toArray } }) hh (Heap.get?_push_of_some _ hr) hsmall hn hlen s.heap.objs.size (.ref s.heap.objs.size) 0 hS fun h' tk acc' c' hk hS' hacc => ⟨h', tk, acc', c', rfl, rfl, fun b o e => hk b o (Nat.ne_of_lt (Heap.lt_size e)) (Heap.get?_push_of_some _ e), hS', hacc⟩) ?_ ?_
  · have key : ∀ (r' : Result) s', (∃ h' tk acc' c', r' = .ok (.ret (.ref s.heap.objs.size)) ∧ s' = { s with heap := h', toks := tk } ∧ (∀ b o, s.heap.get? b = some o → h'.get? b = some o) ∧ h'.get? s.heap.objs.size = some { cls := .type "list", dict := none, data := .seq acc' c', slots := #[] } ∧ ItemsOf (fun i v => ∃ t, v = .int (0 + i * 1) t) acc' n) →
        ∃ h' tk, r' = .ok (.ret (.ref s.heap.objs.size)) ∧ s' = { s with heap := h', toks := tk } ∧ wpAny (model prog w) A (match Value.ref s.heap.objs.size with
      | Value.ref a => do
        match (← load a).data with
          | Data.seq xs _ => pure xs.toList
          | _ => unsupported "internal:collect"
      | _ => unsupported "internal:collect") Q E { s with heap := h', toks := tk } := by
      rintro r' s' ⟨h', tk, acc', c', rfl, rfl, hk, hS', hacc⟩
      exact ⟨h', tk, rfl, rfl, wpAny_bind (wpAny_load hS' (wpAny_pure (hQ h' tk acc' hk hacc)))⟩
    intro fin s' h
    cases fin with
    | done f =>
      obtain ⟨h', tk, e, rfl, k⟩ := key _ _ h
      cases e
      exact k
    | again c' => exact ⟨h.1, codeAny_mono h.2 fun r s'' hr => by
        obtain ⟨h', tk, rfl, rfl, k⟩ := key _ _ hr
        exact k⟩
  · rintro e s' ⟨_, _, _, _, h, _⟩
    cases h
/-- The places in the order of their keys. -/
structure SortQ (ks : List Int) (r : List Nat) : Prop where
  perm : r.Perm (List.range ks.length)
  asc : r.Pairwise fun p q => ks.getD p 0 < ks.getD q 0 ∨ (ks.getD p 0 = ks.getD q 0 ∧ p < q)
noncomputable abbrev asI (r : List Nat) : List Int := r.map fun (n : Nat) => (n : Int)
theorem ints_map {l : List Value} : ∀ {r : List Int}, l.length = r.length → (∀ (i : Nat) v, l[i]? = some v → ∃ k t, r[i]? = some k ∧ v = .int k t) → IntsAre l r := by
  induction l with
  | nil => intro r h _; cases r with
    | nil => exact .nil
    | cons _ _ => cases h
  | cons v l ih =>
    intro r h k
    cases r with
    | nil => cases h
    | cons z r =>
      obtain ⟨k0, t, e, rfl⟩ := k 0 v rfl
      cases e
      exact .cons _ t (ih (Nat.succ.inj h) fun i v e => k (i + 1) v e)
theorem sort_out {xs : Array Keyed} {keys : Array Value} {vs : List Value} {ks : List Int} (hp : xs.Perm (keys.zip vs.toArray)) (hs : LexTo xs (keys.zip vs.toArray).size) (hk : IntsAre keys.toList ks) (hv : IntsAre vs (asI (List.range ks.length))) :
    ∃ r, IntsAre (xs.map (·.2)).toList (asI r) ∧ SortQ ks r := by
  have hl : xs.toList.Perm (keys.toList.zip vs) := by rw [← ksk_zip]; exact Array.perm_iff_toList_perm.mp hp
  have hkl := hk.length
  have hvl : vs.length = ks.length := by rw [hv.length]; simp
  have at_ : ∀ (i : Nat) (v : Value), vs[i]? = some v → ∃ t, v = Value.int (i : Int) t := fun i v e => by
    have hi : i < ks.length := by rw [← hvl]; exact (List.getElem?_eq_some_iff.mp e).1
    obtain ⟨t, h⟩ := hv.get i (i : Int) (by simp [asI, hi])
    rw [e] at h
    exact ⟨t, Option.some.inj h⟩
  have mem : ∀ p : Keyed, p ∈ keys.toList.zip vs → ∃ (i : Nat) (t t' : Tok), i < ks.length ∧ p = (Value.int (ks.getD i 0) t', Value.int (i : Int) t) := fun p hp => by
    obtain ⟨i, hi, e⟩ := List.getElem_of_mem hp
    have hi' : i < ks.length ∧ i < vs.length := by
      rw [List.length_zip] at hi; omega
    obtain ⟨t, h1⟩ := at_ i vs[i] (List.getElem?_eq_getElem hi'.2)
    obtain ⟨t', h2⟩ := hk.get i ks[i] (List.getElem?_eq_getElem hi'.1)
    refine ⟨i, t, t', hi'.1, ?_⟩
    have h3 : keys.toList[i]? = some (.int ks[i] t') := h2
    have h4 : (keys.toList.zip vs)[i]? = some (.int ks[i] t', .int (i : Int) t) := by
      rw [List.getElem?_zip_eq_some]
      exact ⟨h3, by rw [List.getElem?_eq_getElem hi'.2, h1]⟩
    rw [List.getElem?_eq_getElem hi] at h4
    rw [← e, Option.some.inj h4]
    simp [List.getD, hi'.1]
  let f : Keyed → Nat := fun p => (numOf p.2).toNat
  have sz : (keys.zip vs.toArray).size = xs.toList.length := by rw [Array.length_toList]; exact hp.size_eq.symm
  refine ⟨xs.toList.map f, ?_, ?_, ?_⟩
  · refine ints_map (by simp [asI]) fun i v e => ?_
    rw [Array.toList_map, List.getElem?_map] at e
    cases hx : xs.toList[i]? with
    | none => rw [hx] at e; cases e
    | some p =>
      rw [hx] at e
      cases e
      obtain ⟨j, t, t', _, rfl⟩ := mem p (hl.subset (List.mem_of_getElem? hx))
      exact ⟨j, t, by simp [asI, hx, f, numOf], rfl⟩
  · have e : (keys.toList.zip vs).map f = List.range ks.length := by
      refine List.ext_getElem? fun i => ?_
      rw [List.getElem?_map]
      rcases Nat.lt_or_ge i ks.length with hi | hi
      · have h0 : i < (keys.toList.zip vs).length := by rw [List.length_zip]; omega
        obtain ⟨t, h1⟩ := at_ i vs[i] (List.getElem?_eq_getElem (by (exact qq2 [_,_,_] [1] 1 0x608045 1 0xc7 1 0x708045 qt (qF hvl) hi)))
        rw [List.getElem?_eq_getElem h0, List.getElem?_range hi, List.getElem_zip, h1]
        simp [f, numOf]
      · rw [List.getElem?_eq_none (by rw [List.length_zip]; omega), List.getElem?_eq_none (by rw [List.length_range]; (exact qq1 [_,_] [] 1 0xc5 1 0xc5 qt hi))]
        rfl
    rw [← e]
    exact hl.map f
  · rw [List.pairwise_map, List.pairwise_iff_getElem]
    intro i j hi hj hij
    have q := hs i j hij (by rw [sz]; exact hj)
    obtain ⟨a, t, t', _, e1⟩ := mem xs.toList[i] (hl.subset (List.getElem_mem hi))
    obtain ⟨b, u, u', _, e2⟩ := mem xs.toList[j] (hl.subset (List.getElem_mem hj))
    have g : ∀ (i : Nat) (hi : i < xs.toList.length), K xs i = numOf xs.toList[i].1 ∧ Vv xs i = numOf xs.toList[i].2 := fun i hi => by
      have hi' : i < xs.size := by simpa using hi
      have e : xs[i]? = some xs.toList[i] := by simp [hi']
      unfold K Vv
      rw [e]
      exact ⟨rfl, rfl⟩
    unfold lexP at q
    rw [(g i hi).1, (g i hi).2, (g j hj).1, (g j hj).2, e1, e2] at q
    rw [e1, e2]
    simp only [numOf, f, Int.toNat_natCast] at q ⊢
    omega
/-- The keys, one after the other. -/
noncomputable def keyW (F : Int → (Int → Prop) → Prop) (Q : List Int → Prop) : List Int → List Int → Prop
  | [], ks => Q ks
  | i :: r, ks => F i fun k => keyW F Q r (ks ++ [k])
section
variable {A : Around} {E : Value → Shared → Prop} {P : PySem.Fin → Shared → Prop} {kS a : Addr} {keys : Array Value} {e e1 : Nat} {vs : List Value}
theorem kskTail {st : SortSt} (S : SimX Φ W τ ((kS, listOf keys e) :: (a, listOf #[] e1) :: x) s) (hk : keys.size < 64) (hz : (arrOf st).size < 64) (hf : failedOf st = none)
    (h : ∀ c s', SimX Φ W τ ((a, listOf ((arrOf st).map (·.2)) c) :: x) s' → P (.done (.ret .none)) s') : wpAny Φ.M A (ksk_tail a false e1 (.ref kS) st) P E s := by
  unfold ksk_tail
  try dsimp only
  have S1 := (S.updX (get?_update_seq S.first fun _ => #[]) (Heap.SameBut.update ..) s.toks).forget
  have S2 := S1.updX (get?_update_seq S1.first fun _ => (arrOf st).map (·.2)) (Heap.SameBut.update ..) s.toks
  refine wpAny_bind (listUpdate_at S.first rfl ?_ (by rw [sizeLine_eq]; (exact qq1 [_] [16777216,1,64] 1 0x45 1 0x4208445 qt hk)) (Nat.zero_le _))
  refine wpAny_bind (wpAny_letGo ?_)
  refine wpAny_bind (seqEpoch_at S1.first rfl ?_)
  refine wpAny_bind (listUpdate_at S1.first rfl ?_ (Nat.zero_le _) (Nat.le_trans (Nat.le_of_eq (Array.size_map ..)) (by rw [sizeLine_eq]; (exact qq1 [_] [16777217,1,64] 1 0x45 1 0x4208445 qt hz))))
  rw [hf]
  simp only [bne_self_eq_false, Bool.false_eq_true, if_false]
  exact wpAny_pure (h _ _ S2)
theorem kskEnd {ks : List Int} (S : SimX Φ W τ ((kS, listOf keys e) :: (a, listOf #[] e1) :: x) s) (hk : IntsAre keys.toList ks) (hv : IntsAre vs (asI (List.range ks.length))) (h2 : 2 ≤ ks.length) (h64 : ks.length < 64)
    (h : ∀ c s' out r, SimX Φ W τ ((a, listOf out c) :: x) s' → IntsAre out.toList (asI r) → SortQ ks r → P (.done (.ret .none)) s') : wpAny Φ.M A (ksk_end a false vs.toArray e1 (.ref kS) keys) P E s := by
  have hvl : vs.length = ks.length := by rw [hv.length]; simp
  have hsz : keys.size = ks.length := by have := hk.length; rwa [Array.length_toList] at this
  have hzs : (keys.zip vs.toArray).size = ks.length := by rw [Array.size_zip, hsz, List.size_toArray, hvl, Nat.min_self]
  unfold ksk_end
  try dsimp only
  simp only [Bool.false_eq_true, if_false]
  rw [if_neg (by rw [List.size_toArray]; (exact fun e9 => qZ (qq3 [_,_] [1,0,2] 3 0x8802 2 0x1442 2 0xc5 2 0x4208046 qt h2 (qF hvl) e9))), if_neg (by rw [List.size_toArray]; (exact fun e9 => qZ (qq3 [_,_] [1,0,2] 3 0x8802 2 0x1442 2 0xc5 2 0x4208046 qt h2 (qF hvl) e9))), ksk_kind hk (by (exact qq2 [_,_] [2] 1 0x1402 1 0x1802 1 0xa6 qt h2 (qF hsz)))]
  refine wpAny_bind (wpAny_pure ?_)
  refine wpAny_bind (wpAny_mono (wpS_sortRunsS (a₀ := keys.zip vs.toArray) (st := SortSt.mk' oneType' (keys.zip vs.toArray) #[] 7 none)
    (Q := fun _ st' => (arrOf st').Perm (keys.zip vs.toArray) ∧ failedOf st' = none ∧ LexTo (arrOf st') (keys.zip vs.toArray).size)
    (ksk_intKeys hk) ⟨Array.Perm.refl _, rfl, rfl, rfl⟩ (fun i hi => ?_) (by rw [hzs]; exact h2) (by rw [hzs]; exact h64) fun st' a1 a2 a3 => ⟨a1, a2, a3⟩) ?_ fun _ _ e => e)
  · have hi : i < (keys.zip vs.toArray).size := hi
    rw [hzs] at hi
    show Vv (keys.zip vs.toArray) i = i
    obtain ⟨t, h1⟩ := hv.get i (i : Int) (by simp [asI, hi])
    have h2 : (keys.zip vs.toArray)[i]? = some (keys[i], .int (i : Int) t) := by
      rw [← Array.getElem?_toList, ksk_zip, List.getElem?_zip_eq_some]
      exact ⟨by simp [hsz, hi], h1⟩
    unfold Vv
    rw [h2]
    rfl
  · rintro ⟨⟨⟩, st'⟩ s' ⟨rfl, hp, hf, hs⟩
    try dsimp only
    obtain ⟨r, h1, h2⟩ := sort_out hp hs hk hv
    exact kskTail S (by (exact qq2 [_,_] [1,64] 1 0x2208045 1 0x2208046 1 0xc5 qt h64 (qE hsz))) (by rw [hp.size_eq, hzs]; exact h64) hf fun c s' S' => h c s' _ r S' h1 h2
noncomputable abbrev KTurn (Φ : Cx G cs) (W : Wd) (τ : VS) (A : Around) (F : Int → (Int → Prop) → Prop) (f : Value) : Prop := ∀ W' x' s' i t R, W.le W' → SimX Φ W' τ x' s' → F i R → wpAny Φ.M A (call f [.int i t]) (fun r s'' => ∃ W'' k t', W'.le W'' ∧ r = .int k t' ∧ SimX Φ W'' τ x' s'' ∧ R k) (fun _ _ => False) s'
theorem drop_cons {α : Type} {l : List α} {j : Nat} {z : α} (h : l[j]? = some z) : l.drop j = z :: l.drop (j + 1) := by
  obtain ⟨hj, e⟩ := List.getElem?_eq_some_iff.mp h
  rw [List.drop_eq_getElem_cons hj, e]
theorem kskRest {F : Int → (Int → Prop) → Prop} {Q : List Int → Prop} {f : Value} {n : Nat} (T : KTurn Φ W τ A F f) (S : SimX Φ W τ ((kS, listOf #[] 0) :: (a, listOf #[] e1) :: x) s) (hv : IntsAre vs (asI (List.range n))) (h2 : 2 ≤ n) (h64 : n < 64) (q : keyW F Q (asI (List.range n)) [])
    (h : ∀ W' c s' out r ks, W.le W' → SimX Φ W' τ ((a, listOf out c) :: x) s' → IntsAre out.toList (asI r) → SortQ ks r → Q ks → P (.done (.ret .none)) s') : wpAny Φ.M A (ksk_rest a f false vs.toArray e1 (.ref kS)) P E s := by
  have hvl : vs.length = n := by rw [hv.length]; simp
  unfold ksk_rest
  refine wpAny_bind (wpAny_rule ?_)
  first
    | rw [List.forIn_toArray]
    | (rw [← Array.forIn_toList]; simp only [List.toList_toArray])
    | rw [← Array.forIn_toList]
  refine wpAny_bind (ksk_fold (fun i s' => ∃ W' kA e ks, W.le W' ∧ SimX Φ W' τ ((kS, listOf kA e) :: (a, listOf #[] e1) :: x) s' ∧ IntsAre kA.toList ks ∧ ks.length = i ∧ keyW F Q ((asI (List.range n)).drop i) ks) vs 0 s
    ⟨W, #[], 0, [], .refl W, S, .nil, rfl, q⟩ ?step ?done)
  case step =>
    rintro j v s' hx ⟨W', kA, e, ks, le, S', hk, hl, q'⟩
    simp only [Nat.zero_add] at hl q' ⊢
    have hj : j < n := by rw [← hvl]; exact (List.getElem?_eq_some_iff.mp hx).1
    have hz : (asI (List.range n))[j]? = some (j : Int) := by simp [asI, hj]
    obtain ⟨t, ht⟩ := hv.get j _ hz
    rw [hx] at ht
    cases ht
    rw [drop_cons hz] at q'
    refine wpAny_bind (wpAny_attempt (wpAny_mono (T W' _ s' _ t _ le S' q') (fun v s'' he => ?_) fun _ _ hF => hF.elim))
    obtain ⟨W'', k, t2, le2, rfl, S2, q2⟩ := he
    try dsimp only
    have hsz : kA.size = j := by have := hk.length; rw [Array.length_toList] at this; (exact Nat.le_antisymm (qq2 [_,_,_] [] 1 0xc5 1 0xc7 1 0xe5 qt (qE hl) (qE this)) (qq2 [_,_,_] [] 1 0xc5 1 0xe5 1 0xc7 qt (qF hl) (qF this)))
    refine wpAny_bind (listUpdate_at S2.first rfl ?_ (by rw [sizeLine_eq]; (exact qq3 [_,_,_] [16777216,1,64] 1 0x45 1 0x4208446 1 0x608447 1 0xe5 qt h64 hj (qE hsz))) (Nat.le_trans (Nat.le_of_eq (Array.size_push ..)) (by rw [sizeLine_eq]; (exact qq3 [_,_,_] [1,16777217,64] 1 0x2208045 1 0x4208046 1 0x608047 1 0xe5 qt h64 hj (qE hsz)))))
    have S3 := S2.updX (get?_update_seq S2.first (·.push (.int k t2))) (Heap.SameBut.update ..) s''.toks
    refine wpAny_pure ⟨rfl, W'', kA.push (.int k t2), _, ks ++ [k], le.trans le2, S3, ?_, by rw [List.length_append, hl]; rfl, q2⟩
    rw [show (kA.push (Value.int k t2)).toList = kA.toList ++ [Value.int k t2] by simp]
    exact ksk_snoc hk
  case done =>
    rintro s' ⟨W', kA, e, ks, le, S', hk, hl, q'⟩
    rw [Nat.zero_add, hvl] at hl
    rw [Nat.zero_add, hvl, List.drop_of_length_le (by simp)] at q'
    try dsimp only
    subst hl
    exact wpAny_bind (listItems_at S'.first rfl (kskEnd S' hk hv h2 h64 fun c s' out r S2 h1 h2 => h W' c s' out r ks le S2 h1 h2 q'))
theorem kskSort {F : Int → (Int → Prop) → Prop} {Q : List Int → Prop} {f : Value} {n m : Nat} (T : KTurn Φ W τ A F f) (S : SimX Φ W τ ((a, listOf vs.toArray m) :: x) s) (hv : IntsAre vs (asI (List.range n))) (h2 : 2 ≤ n) (h64 : n < 64) (q : keyW F Q (asI (List.range n)) [])
    (h : ∀ W' c s' out r ks, W.le W' → SimX Φ W' τ ((a, listOf out c) :: x) s' → IntsAre out.toList (asI r) → SortQ ks r → Q ks → P (.done (.ret .none)) s') : wpAny Φ.M A (ksk_tree a f false) P E s := by
  have hvl : vs.length = n := by rw [hv.length]; simp
  unfold ksk_tree
  have S1 := S.updX (get?_update_seq S.first fun _ => #[]) (Heap.SameBut.update ..) s.toks
  refine wpAny_bind (listItems_at S.first rfl ?_)
  refine wpAny_bind (listUpdate_at S.first rfl ?_ (by rw [List.size_toArray, sizeLine_eq]; (exact qq2 [_,_] [16777216,1,64] 1 0x45 1 0x4208446 1 0xc5 qt h64 (qE hvl))) (Nat.zero_le _))
  refine wpAny_bind (seqEpoch_at S1.first rfl ?_)
  have nw : ∀ (s1 : Shared) (x1 : List (Addr × Obj)) (o : Obj), o.isFreed = false → SimX Φ W τ x1 s1 → SimX Φ W τ ((s1.heap.objs.size, o) :: x1) { s1 with heap := s1.heap.push o } := fun s1 x1 o hf S => S.new (h' := s1.heap.push o) (t := s1.toks) (fun _ _ e => Heap.get?_push_of_some _ e) (Heap.get?_none_of_le (Nat.le_refl _)) (Heap.get?_push_size _ hf)
  have S2 := (nw _ _ { cls := .type "tuple", data := .seq vs.toArray } rfl S1).forget
  have S3 := nw _ _ { cls := .type "list", data := .seq ([] : List Value).toArray } rfl S2
  refine wpAny_bind (wpAny_newTuple ?_ (by show vs.length ≤ _; rw [sizeLine_eq]; (exact qq2 [_,_] [16777216,1,64] 1 0x45 1 0x4208446 1 0xc5 qt h64 (qE hvl))))
  refine wpAny_bind (wpAny_newList ?_ (Nat.zero_le _))
  refine wpAny_holding ?_
  exact kskRest T S3 hv h2 h64 q h
end
theorem sorted_range {F : Int → (Int → Prop) → Prop} {Q : List Int → Prop} {f : Addr} {n : Nat} {t u v : Tok} {r : Addr} {P : Value → Shared → Prop} (hr : IsRange s.heap r 0 (n : Int) 1 t u v) (S : SimX Φ W τ x s) (T : KTurn Φ W τ Φ.A.in1.in1 F (.ref f)) (h2 : 2 ≤ n) (h64 : n < 64) (q : keyW F Q (asI (List.range n)) [])
    (h : ∀ W' D vs c s' r ks, W.le W' → SimX Φ W' τ ((D, listOf vs.toArray c) :: x) s' → PRepL (FW G W') ((asI r).map .int) vs → SortQ ks r → Q ks → P (.ref D) s') : wpAny Φ.M Φ.A (call (.builtin "sorted") [.ref r] [(Str.ofString "key", .ref f)]) P (fun _ _ => False) s := by
  refine call_function_entry_kw kind_sorted plain_sorted entry_sorted (ksk_s1 _ _) ?_
  unfold Builtin.«sorted»
  refine wpAny_bind (m := checkCount "sorted" 1 1 _) (wpAny_pure ?_)
  have hsz : Builtin.Range.rangeSize 0 (n : Int) 1 = ((n : Nat) : Int) := by rw [rangeSize_one]; split <;> omega
  refine wpAny_bind (collect_range (A := Φ.A.in1) Φ.hh hr (small_one (by omega) (by (exact qGb (qq0 [] [0,1,4611686018427387904] 0x84108802 qt))) (by omega) (by (exact qGb (qq1 [_] [1,4611686018427387904,64] 1 0x2208045 1 0x4208045 qt h64)))) hsz (by (exact qq1 [_] [16777216,1,64] 1 0x45 1 0x4208445 qt h64)) fun h' tk acc hk hacc => ?_)
  have S1 := S.keep hk tk
  have hv : IntsAre acc.toList (asI (List.range n)) := ints_map (by rw [Array.length_toList, hacc.1]; simp) fun i v e => by
    rw [Array.getElem?_toList] at e
    obtain ⟨t, rfl⟩ := hacc.2 i v e
    have hi : i < n := by rw [← hacc.1]; exact (Array.getElem?_eq_some_iff.mp e).1
    exact ⟨(i : Int), t, by simp [asI, hi], by simp⟩
  have S2 := S1.new (h' := h'.push { cls := .type "list", data := .seq acc.toList.toArray }) (t := tk) (fun _ _ e => Heap.get?_push_of_some _ e) (Heap.get?_none_of_le (Nat.le_refl _)) (Heap.get?_push_size _ rfl)
  refine wpAny_bind (wpAny_newList ?_ (by rw [Array.length_toList, hacc.1, sizeLine_eq]; (exact qq1 [_] [16777216,1,64] 1 0x45 1 0x4208445 qt h64)))
  refine wpAny_bind (wpAny_holding (wpAny_call_entry_kw slot_list_sort ⟨_, S2.first, rfl⟩ entry_list_sort ?body (ksk_l1 _ _)))
  case body =>
    have ht' := ksk_t1 f h'.objs.size
    show wpAny Φ.M Φ.A.in1.in1 (Builtin.«list.sort» ⟨[.ref h'.objs.size], [(Str.ofString "key", .ref f)]⟩) _ _ _
    rw [ht']
    exact kskSort T S2 hv h2 h64 q fun W' c s' out r ks le S3 h1 hq hQ => ⟨_, rfl, wpAny_pure ⟨_, rfl, h W' _ out.toList c s' r ks le (by rw [Array.toArray_toList]; exact S3) (.of_ints h1) hq hQ⟩⟩
end VE
namespace VE
variable {N : Nat → Str} {Z : Stc} {G : Gl N Z} {cs : Scope} {Φ : Cx G cs} {W : Wd} {τ : VS} {s : Shared} {x : List (Addr × Obj)}
/-! sorted(range(n), key=lambda i: ..), the lambda reads two cells of the outermost frame. -/
structure LamB where
  tab : TabD
  params : Arguments
  body : Expr
  scope : Scope
  f0 : Nat
  f1 : Nat
  arg : Nat
/-- What is asked of such a lambda. -/
structure LamBOk (N : Nat → Str) (Z : Stc) (lm : LamB) : Prop where
  tab : lm.tab ∈ Z.tds
  bind : ∀ cl pm c' ctv v, bindArgs (kla_fn "<lambda>" lm.tab.qual lm.params lm.body lm.scope cl pm c' ctv) ⟨[v], []⟩ = pure [(N lm.arg, v)]
  arg : lm.scope.names.lookup (N lm.arg) = some .local
  fv0 : lm.scope.names.lookup (N lm.f0) = some .free
  fv1 : lm.scope.names.lookup (N lm.f1) = some .free
  ne : lm.f0 ≠ lm.f1
  free : ∀ p ∈ lm.scope.names, p.2 = .free → p.1 = N lm.f0 ∨ p.1 = N lm.f1
  cl : ∀ cells a b, cells.lookup (N lm.f0) = some a → cells.lookup (N lm.f1) = some b → clL cells lm.scope.names [] = [(N lm.f0, a), (N lm.f1, b)]
  cell : ∀ y ∈ lm.scope.names, y.2 ≠ .cell
  co : lm.scope.isCoroutine = false
  gen : lm.scope.isGenerator = false
  k : lm.scope.kind = .function
  top : lm.scope.names.lookup (N Z.topn) ≠ some .local
  mark : ∀ T ∈ Z.tds, lm.scope.names.lookup (N T.mark) ≠ some .local
  dflt : ∀ env, defaultsOf lm.params env = ([], [])
/-- The function object f of such a lambda. -/
inductive LamBAt (lm : LamB) (Φ : Cx G cs) (W : Wd) (f : Addr) : Prop
  | mk (a b c' : Addr) (oc : Obj) (pm ctv : Value) (vs : Array Value) (t : Tok) : Φ.cells.lookup (N lm.f0) = some a → Φ.cells.lookup (N lm.f1) = some b → (f, kla_obj "<lambda>" lm.tab.qual lm.params lm.body lm.scope [(N lm.f0, a), (N lm.f1, b)] pm c' ctv) ∈ W.fro →
    (c', oc) ∈ W.fro → oc.data = .fields vs → vs[1]? = some (.str lm.tab.qual t) → LamBAt lm Φ W f
theorem lamB_made {lm : LamB} (O : LamBOk N Z lm) (hmark : cs.names.lookup (N lm.tab.mark) = some .local) (htop : cs.names.lookup (N Z.topn) = some .local) (h0 : cs.names.lookup (N lm.f0) = some .cell) (h1 : cs.names.lookup (N lm.f1) = some .cell) {u0 u1 : VV} (e0 : getN lm.f0 τ.loc = some u0) (e1 : getN lm.f1 τ.loc = some u1) (S : SimX Φ W τ x s) {P : Value → Shared → Prop}
    (kk : ∀ W' f s', W.le W' → LamBAt lm Φ W' f → SimX Φ W' τ x s' → P (.ref f) s') : wpAny Φ.M Φ.A (eval (.Lambda lm.params lm.body lm.scope lm.tab.pos) Φ.env) P (fun _ _ => False) s := by
  obtain ⟨g0, hfn, hcd, hfr, hq⟩ := Φ.tb _ O.tab hmark
  obtain ⟨m, n1, n2, F, Nw, nd, H, C, L, cv, o, g⟩ := id S
  obtain ⟨a, _, _, ha, _⟩ := C.at e0 (Φ.cvin htop _ h0)
  obtain ⟨b, _, _, hb, _⟩ := C.at e1 (Φ.cvin htop _ h1)
  have ca := (cv _ _ ha).2
  have cb := (cv _ _ hb).2
  have henv : Φ.env = envX lm.tab.cn cs Φ.L g0 Φ.code Φ.cells := by
    show ({ scope := cs, locals := Φ.L, globals := mainGlobals, cells := Φ.cells, qual := Φ.qual, func := Φ.func, code := Φ.code, frame := Φ.frame, builtins := builtinsNs } : Env) = _
    rw [hfn, hfr, hq]
  have hclo : closureFor lm.scope (envX lm.tab.cn cs Φ.L g0 Φ.code Φ.cells) = pure [(N lm.f0, a), (N lm.f1, b)] := by
    rw [closureFor_is (fun p hp hf => (O.free p hp hf).elim (fun e => ⟨a, by rw [e]; exact ca⟩) fun e => ⟨b, by rw [e]; exact cb⟩)]
    rw [O.cl _ a b ca cb]
  rw [henv]
  refine kla_eval (O.dflt _) ?_
  obtain ⟨pre, tn, rfl, ta, kt⟩ := H.tabs
  obtain ⟨pre', ps, post, rfl, ti, kt'⟩ := ta.at O.tab
  have hCd := (G.cds _ O.tab).keeps Φ.X
  cases ti with
  | no ht hn =>
    have nd' : (((x ++ (pre ++ pre')) ++ (lm.tab.P, tabObj ps) :: (post ++ (n2 ++ W.fro))).map (·.1)).Nodup := by simpa using nd
    have Nw' : News Φ.h₀ Φ.L s.heap ((x ++ (pre ++ pre')) ++ (lm.tab.P, tabObj ps) :: (post ++ (n2 ++ W.fro))) := by simpa using Nw
    refine kla_nest F Nw' Φ.T hCd hcd (updFOf nd') ht hn hclo fun f c' oc' vs t ctv h' tk F' N' hd hv l1 l2 => ?_
    let ps' := ps ++ #[rawInt lm.tab.pos.line, rawInt lm.tab.pos.col, .ref c']
    have le : W.le ⟨W.rho, (f, kla_obj "<lambda>" lm.tab.qual lm.params lm.body lm.scope [(N lm.f0, a), (N lm.f1, b)] ((G.mg "__name__").getD .none) c' ctv) :: (c', oc') :: W.fro⟩ := ⟨List.prefix_refl _, fun _ h => .tail _ (.tail _ h)⟩
    have T' : TabI lm.tab ((f, kla_obj "<lambda>" lm.tab.qual lm.params lm.body lm.scope [(N lm.f0, a), (N lm.f1, b)] ((G.mg "__name__").getD .none) c' ctv) :: (c', oc') :: W.fro) ps' :=
      .yes c' oc' vs t (by rw [Array.toList_append]; exact TriplesOk_snoc _ _ _ _ ht) (by rw [Array.toList_append]; exact codeAmong_snoc _ ht hn) (.tail _ (.head _)) hd hv
    have H' := kt _ _ le (kt' _ ps' le.fro T')
    have pm : ((f, kla_obj "<lambda>" lm.tab.qual lm.params lm.body lm.scope [(N lm.f0, a), (N lm.f1, b)] ((G.mg "__name__").getD .none) c' ctv) :: (c', oc') :: ((x ++ (pre ++ pre')) ++ (lm.tab.P, tabObj ps') :: (post ++ (n2 ++ W.fro)))).Perm
        (x ++ ((pre ++ (pre' ++ (lm.tab.P, tabObj ps') :: post)) ++ (n2 ++ ((f, kla_obj "<lambda>" lm.tab.qual lm.params lm.body lm.scope [(N lm.f0, a), (N lm.f1, b)] ((G.mg "__name__").getD .none) c' ctv) :: (c', oc') :: W.fro)))) := by
      have e1 : (x ++ (pre ++ pre')) ++ (lm.tab.P, tabObj ps') :: (post ++ (n2 ++ W.fro)) = (x ++ (pre ++ (pre' ++ (lm.tab.P, tabObj ps') :: post)) ++ n2) ++ W.fro := by simp
      have e2 : ∀ l : List (Addr × Obj), x ++ ((pre ++ (pre' ++ (lm.tab.P, tabObj ps') :: post)) ++ (n2 ++ l)) = (x ++ (pre ++ (pre' ++ (lm.tab.P, tabObj ps') :: post)) ++ n2) ++ l := fun l => by simp
      rw [e1, e2]
      exact ((List.perm_middle (l₁ := x ++ (pre ++ (pre' ++ (lm.tab.P, tabObj ps') :: post)) ++ n2)).symm.cons _).trans List.perm_middle.symm
    refine kk _ _ _ le ⟨a, b, c', oc', _, ctv, vs, t, ca, cb, .head _, .tail _ (.head _), hd, hv⟩ ⟨m, _, n2, F', fun p hp => N' p (pm.symm.subset hp), ?_, H', C.mono le, fun k v e => (L k v e).mono le, cv, o, g⟩
    refine (List.Perm.nodup_iff (pm.map _)).mp ?_
    rw [List.map_cons, List.map_cons, List.nodup_cons, List.nodup_cons]
    have hbig : ∀ p ∈ (x ++ (pre ++ pre')) ++ (lm.tab.P, tabObj ps') :: (post ++ (n2 ++ W.fro)), p.1 < c' := fun p hp => by
      rcases List.mem_append.mp hp with hp | hp
      · exact l1 p (List.mem_append_left _ hp)
      · rcases List.mem_cons.mp hp with rfl | hp
        · exact l1 (lm.tab.P, tabObj ps) (List.mem_append_right _ (.head _))
        · exact l1 p (List.mem_append_right _ (.tail _ hp))
    refine ⟨fun hm => ?_, fun hm => ?_, by simpa using nd'⟩
    · rcases List.mem_cons.mp hm with e | hm
      · exact Nat.ne_of_gt l2 e
      · obtain ⟨p, hp, e⟩ := List.mem_map.mp hm
        have := hbig p hp
        have e : p.1 = f := e
        rw [e] at this
        exact Nat.lt_irrefl _ (Nat.lt_trans this l2)
    · obtain ⟨p, hp, e⟩ := List.mem_map.mp hm
      have := hbig p hp
      have e : p.1 = c' := e
      rw [e] at this
      exact Nat.lt_irrefl _ this
  | yes c' oc' vs t ht hf hm hd hv =>
    refine kla_hit F Nw Φ.T hCd hcd (ps := ps) (by simp) ht hf hclo fun f ctv h' tk F' N' l1 => ?_
    obtain ⟨W', le', hm', er, S'⟩ := (SimX.newN (h' := h') (q := f) (co := kla_obj "<lambda>" lm.tab.qual lm.params lm.body lm.scope [(N lm.f0, a), (N lm.f1, b)] ((G.mg "__name__").getD .none) c' ctv) (t := tk) ⟨F, Nw, nd, H, C, L, cv, o, g⟩ F' N' l1).freeze
    exact kk W' _ _ le' ⟨a, b, c', oc', _, ctv, vs, t, ca, cb, hm', le'.fro hm, hd, hv⟩ S'
theorem LamBAt.mono {lm : LamB} {W W' : Wd} (h : W.le W') {f : Addr} (r : LamBAt lm Φ W f) : LamBAt lm Φ W' f := by
  obtain ⟨a, b, c', oc, pm, ctv, vs, t, h1, h2, h3, h4, h5, h6⟩ := r
  exact ⟨a, b, c', oc, pm, ctv, vs, t, h1, h2, h.fro h3, h.fro h4, h5, h6⟩
theorem SimX.cellAt (S : SimX Φ W τ x s) {k : Nat} {v : VV} {c : Addr} (e : getN k τ.loc = some v) (hk : cs.names.lookup (N k) = some .cell) (hc : Φ.cells.lookup (N k) = some c) (htop : cs.names.lookup (N Z.topn) = some .local) :
    ∃ co u, (s.heap.get? c = some co ∧ co.data = .cell (some u)) ∧ VRep G W v u ∧ ∀ m n1 n2, SimS Φ W τ x s m n1 n2 → (c, co) ∈ n2 := by
  obtain ⟨m, n1, n2, F, Nw, nd, H, C, L, cv, o, g⟩ := S
  have hm := Φ.cvin htop _ hk
  obtain ⟨c', co, u, h1, h2, h3, r⟩ := C.at e hm
  have e' := (cv k c' h1).2
  rw [hc] at e'
  cases e'
  refine ⟨co, u, ⟨(Nw (c, co) (by simp [h2])).1, h3⟩, r, fun m' n1' n2' S' => ?_⟩
  obtain ⟨d, co', u', h1', h2', h3', r'⟩ := S'.C.at e hm
  have e'' := (cv k d h1').2
  rw [hc] at e''
  cases e''
  have a := (Nw (c, co) (by simp [h2])).1
  have b := (S'.Nw (c, co') (by simp [h2'])).1
  rw [a] at b
  cases b
  exact h2'
/-- Such a lambda is called. -/
theorem lamB_call {lm : LamB} (O : LamBOk N Z lm) {wb : WE} (hb : SE G lm.scope lm.body wb) {A : Around} (hhd : A.handled = none) (hu : A.units ≤ 3 * A.depth + 4) (hdp : A.depth ≤ 995) {C : Calls} (okC : CallsOk G (A.depth + 1) C) (htop : cs.names.lookup (N Z.topn) = some .local) (h0 : cs.names.lookup (N lm.f0) = some .cell) (h1 : cs.names.lookup (N lm.f1) = some .cell) {u0 u1 : VV} (e0 : getN lm.f0 τ.loc = some u0) (e1 : getN lm.f1 τ.loc = some u1) (S : SimX Φ W τ x s) {f : Addr} (LA : LamBAt lm Φ W f)
    {u : VV} {v : Value} (r : VRep G W u v) {Q : Rs → VS → Prop} {Qw : VV → VS → Prop} (q : wb C ⟨[(lm.arg, u), (lm.f0, u0), (lm.f1, u1)], τ.hp⟩ Qw) (hq : ∀ r τ3, Qw r τ3 → retW τ.hp.length τ3.hp r fun a hp => Q a ⟨τ.loc, hp⟩) : wpAny Φ.M A (call (.ref f) [v]) (R0 Φ W x Q) (fun _ _ => False) s := by
  obtain ⟨a, b, c', oc', pm, ctv, vs, t, ca, cb, hf, hc', hd, hv⟩ := LA
  obtain ⟨oa, ua, ⟨ga, da⟩, ra, ma⟩ := S.cellAt e0 h0 ca htop
  obtain ⟨ob, ub, ⟨gb, db⟩, rb, mb⟩ := S.cellAt e1 h1 cb htop
  obtain ⟨m, n1, n2, F, Nw, nd, H, Cc, L, cv, o, g⟩ := id S
  have ma := ma m n1 n2 ⟨F, Nw, nd, H, Cc, L, cv, o, g⟩
  have mb := mb m n1 n2 ⟨F, Nw, nd, H, Cc, L, cv, o, g⟩
  have hdp' : A.depth < recursionLimit := Nat.lt_of_le_of_lt hdp (by decide)
  have hof := S.FW (.inl hf)
  refine wpAny_call (kla_callFunE (fd := kla_fn "<lambda>" lm.tab.qual lm.params lm.body lm.scope [(N lm.f0, a), (N lm.f1, b)] pm (.ref c') ctv) hdp' hof rfl O.co O.gen rfl ⟨c', oc', vs, t, rfl, S.FW (.inl hc'), hd, hv⟩ ?_)
  rw [O.bind]
  refine wpAny_pure (wpAny_newFunctionEnv O.cell (fun y hy => ?_) (fun h₁ hns hsb => ⟨(Φ.T.nolimit.keeps F.keep).fresh _ hsb, ?_⟩) O.k)
  · rcases List.mem_cons.mp hy with rfl | hy
    · exact O.arg
    · cases hy
  have hk₁ : ∀ b o, s.heap.get? b = some o → h₁.get? b = some o := fun b o e => hsb.extBut b o (Nat.ne_of_lt (Heap.lt_size e)) (Heap.get?_push_of_some _ e)
  let own := n1 ++ ([] ++ W.fro)
  have inO : ∀ p ∈ own, p ∈ x ++ (n1 ++ (n2 ++ W.fro)) := fun p hp => by
    rcases List.mem_append.mp hp with q | q
    · simp [q]
    · have q : p ∈ W.fro := q
      simp [q]
  have nm : ∀ b o, Φ.h₀.get? b = some o → b ∉ own.map (·.1) := fun b o e q => by
    obtain ⟨p, hp, rfl⟩ := List.mem_map.mp q
    rw [(Nw p (inO p hp)).2.2] at e; cases e
  have st : ∀ b o, Φ.h₀.get? b = some o → (hideAll s.heap (own.map (·.1))).get? b = some o := fun b o e => hideAll_get _ (F.keep b o e) (nm b o e)
  have cel : ∀ p ∈ n2, (hideAll s.heap (own.map (·.1))).get? p.1 = some p.2 := fun p hp => by
    refine hideAll_get _ (Nw p (by simp [hp])).1 fun hm => ?_
    obtain ⟨p', hp2, e⟩ := List.mem_map.mp hm
    have nd3 : ((n2 ++ (n1 ++ W.fro)).map (·.1)).Nodup := by
      refine List.Nodup.sublist (List.Sublist.map _ (List.sublist_append_right x _)) ((List.Perm.nodup_iff (List.Perm.map _ ?_)).mp nd)
      exact List.Perm.append_left x (by rw [← List.append_assoc, ← List.append_assoc]; exact List.Perm.append_right _ List.perm_append_comm)
    rw [List.map_append, List.nodup_append] at nd3
    exact nd3.2.2 _ (List.mem_map_of_mem hp) _ (List.mem_map_of_mem (show p' ∈ n1 ++ W.fro from hp2)) e.symm
  let Φ' : Cx G lm.scope := ⟨A.deeper (envX lm.tab.qual lm.scope s.heap.objs.size f (.ref c') [(N lm.f0, a), (N lm.f1, b)]), hideAll s.heap (own.map (·.1)), s.heap.objs.size, [(N lm.f0, a), (N lm.f1, b)], lm.tab.qual ++ ".<locals>.", some f, .ref c', some s.heap.objs.size, [], fun a o e => st a o (Φ.X a o e), Φ.T.keeps st, O.k, hhd, by
    show A.units + 3 ≤ 3 * (A.depth + 1) + 4
    (exact qq1 [_,_] [3,1,4] 1 0x1108030844608045 1 0x44200cc5 qt hu), by show A.depth + 1 ≤ 1000; (exact qq1 [_] [1,1000,995] 1 0x2208045 1 0x845 qt hdp), List.nodup_nil, fun e => absurd e O.top, fun e => absurd e O.top, fun T hT e => absurd e (O.mark T hT), fun T hT e => absurd e (O.mark T hT), fun T hT e => absurd e (O.mark T hT)⟩
  have nn : N lm.f1 ≠ N lm.f0 := fun e => O.ne (G.hN.inj _ _ e).symm
  have S' : SimX Φ' W ⟨[(lm.arg, u), (lm.f0, u0), (lm.f1, u1)], τ.hp⟩ [] { s with heap := h₁, toks := s.toks + 1 } := by
    refine ⟨_, n1, [], ⟨hns, fun b o e => hk₁ b o (of_hideAll _ e), Nat.le_of_eq (hideAll_size _ _)⟩, fun p hp => ?_, ?_, H, .nil, fun k v e => ?_, fun k c hm => (nomatch hm), o, g⟩
    · have hp : p ∈ own := hp
      exact ⟨hk₁ _ _ (Nw p (inO p hp)).1, Nat.ne_of_lt (Heap.lt_size (Nw p (inO p hp)).1), hideAll_none _ (List.mem_map_of_mem hp)⟩
    · refine List.Nodup.sublist (List.Sublist.map _ ?_) nd
      show List.Sublist (n1 ++ ([] ++ W.fro)) _
      exact (List.Sublist.append_left (List.Sublist.append_right (List.nil_sublist n2) W.fro) n1).trans (List.sublist_append_right x _)
    · simp only [getN] at e
      cases k1 : Nat.beq k lm.arg with
      | true =>
        rw [k1] at e
        have := Nat.eq_of_beq_eq_true k1
        subst this
        cases e
        exact .loc _ O.arg (by simp [List.lookup]) r
      | false =>
        rw [k1] at e
        cases k2 : Nat.beq k lm.f0 with
        | true =>
          rw [k2] at e
          have := Nat.eq_of_beq_eq_true k2
          subst this
          cases e
          exact .fix a ua (.inr O.fv0) (by show List.lookup _ [(_, _), _] = _; simp) ⟨oa, cel _ ma, da⟩ ra
        | false =>
          rw [k2] at e
          cases k3 : Nat.beq k lm.f1 with
          | true =>
            rw [k3] at e
            have := Nat.eq_of_beq_eq_true k3
            subst this
            cases e
            exact .fix b ub (.inr O.fv1) (by show List.lookup _ [_, (_, _)] = _; simp [List.lookup, beq_false_of_ne nn]) ⟨ob, cel _ mb, db⟩ rb
          | false => rw [k3] at e; cases e
  refine kla_codeExpr (wpAny_mono (hb Φ' C okC W _ [] _ _ S' q) (fun rv s' y => ?_) fun _ _ y => y.elim)
  obtain ⟨W', a, τ', le, ra, S2, q2⟩ := y
  have R := leave (Φ := Φ) (Q := fun a hp => Q a ⟨τ.loc, hp⟩) ⟨F, Nw, nd, H, Cc, L, cv, o, g⟩ rfl rfl le ra S2 (hq _ _ q2)
  cases R with
  | val W2 a τ2 l r1 S3 q3 => obtain ⟨e1, q3⟩ := q3; exact .val W2 a τ2 l r1 S3 (by rw [← e1] at q3; exact q3)
  | new W2 l τ2 q vs n l' r1 S3 q3 => obtain ⟨e1, q3⟩ := q3; exact .new W2 l τ2 q vs n l' r1 S3 (by rw [← e1] at q3; exact q3)
noncomputable def intR (v : VV) (R : Int → Prop) : Prop := match v with
  | .p (.int k) => R k
  | _ => False
theorem intR_ex {v : VV} {R : Int → Prop} (h : intR v R) : ∃ k, v = .p (.int k) ∧ R k := by
  cases v with
  | p p => cases p with
    | int k => exact ⟨k, rfl, h⟩
    | _ => exact h.elim
  | _ => exact h.elim
noncomputable def lamR (lm : LamB) (wb : WE) (C : Calls) (τ : VS) (u0 u1 : VV) (i : Int) (R : Int → Prop) : Prop := wb C ⟨[(lm.arg, .p (.int i)), (lm.f0, u0), (lm.f1, u1)], τ.hp⟩ fun r τ3 => τ3.hp = τ.hp ∧ intR r R
noncomputable def srtW (lm : LamB) (wb : WE) (C : Calls) (τ : VS) (n : Nat) (Q : List Nat → Prop) : Prop := match getN lm.f0 τ.loc with
  | some u0 => match getN lm.f1 τ.loc with
    | some u1 => keyW (lamR lm wb C τ u0 u1) (fun ks => ∀ r, SortQ ks r → Q r) (asI (List.range n)) []
    | none => False
  | none => False
theorem srtW_ex {lm : LamB} {wb : WE} {C : Calls} {n : Nat} {Q : List Nat → Prop} (h : srtW lm wb C τ n Q) : ∃ u0 u1, getN lm.f0 τ.loc = some u0 ∧ getN lm.f1 τ.loc = some u1 ∧ keyW (lamR lm wb C τ u0 u1) (fun ks => ∀ r, SortQ ks r → Q r) (asI (List.range n)) [] := by
  unfold srtW at h
  cases e0 : getN lm.f0 τ.loc with
  | none => rw [e0] at h; exact h.elim
  | some u0 =>
    rw [e0] at h
    cases e1 : getN lm.f1 τ.loc with
    | none => rw [e1] at h; exact h.elim
    | some u1 => rw [e1] at h; exact ⟨u0, u1, rfl, rfl, h⟩
noncomputable abbrev wSrt (T : Defs) (lm : LamB) (wb : WE) (w : WE) : W0 := fun C τ Q => w C τ fun v τ1 => inV v fun hi => ∃ n : Nat, hi = (n : Int) ∧ (2 ≤ n ∧ n < 64) ∧ srtW lm wb (callsOf T 10) τ1 n fun r => Q (.new ((asI r).map .int)) τ1
theorem S0_srt {T : Defs} (hT : ∀ f ns b, getN f T = some (ns, b) → DefOk G f ns b) {lm : LamB} (O : LamBOk N Z lm) {wb : WE} (hb : SE G lm.scope lm.body wb) {params : Arguments} {body : Expr} {scope : Scope} {lp p p2 pos pos2 kp : Pos} {e : Expr} {w : WE} {ts tr : Str} {n1 n2 : Nat}
    (q1 : lm.params = params) (q2 : lm.body = body) (q3 : lm.scope = scope) (q4 : lm.tab.pos = lp) (hmark : cs.names.lookup (N lm.tab.mark) = some .local) (htop : cs.names.lookup (N Z.topn) = some .local) (h0 : cs.names.lookup (N lm.f0) = some .cell) (h1 : cs.names.lookup (N lm.f1) = some .cell)
    (bs : BiOk N Z cs ts (Value.builtin "sorted") n1) (br : BiOk N Z cs tr (Value.type "range") n2) (h : SE G cs e w) (hst : ∀ rest env, starEach (e :: rest) env = (false, eval e env) :: starEach rest env) :
    S0 G cs (.Call (.Name ts p) [.Call (.Name tr p2) [e] [] pos2] [⟨some (Str.ofString "key"), .Lambda params body scope lp, kp⟩] pos) (wSrt T lm wb w) := fun Φ C ok W τ x s Q S q => by
  subst q1 q2 q3 q4
  have eA : eval (.Call (.Name ts p) [.Call (.Name tr p2) [e] [] pos2] [⟨some (Str.ofString "key"), .Lambda lm.params lm.body lm.scope lm.tab.pos, kp⟩] pos) Φ.env = (do callWith pos (← eval (.Name ts p) Φ.env) [] (backTo pos (starEach [.Call (.Name tr p2) [e] [] pos2] Φ.env)) (backToKw pos (keywordEach [⟨some (Str.ofString "key"), .Lambda lm.params lm.body lm.scope lm.tab.pos, kp⟩] Φ.env))) := rfl
  rw [eA]
  refine wpAny_bind (bs.load S ?_)
  have SAe : SA G cs [e] (wAc w wA0) := SA_cons h SA_nil (hst [])
  refine callWith_kw ?_
  refine args_cons ?_ rfl
  refine Call_ (br.load S ?_) rfl
  have hp : (backTo pos2 (starEach [e] Φ.env)).any (·.1) = false := by rw [back_any]; exact SAe.1 _
  refine PySem.callWith_type (first := []) hp (evalArgs_of hp (SAe.go (Q := fun as τ1 => oneW as fun v => inV v fun hi => ∃ n : Nat, hi = (n : Int) ∧ (2 ≤ n ∧ n < 64) ∧ srtW lm wb (callsOf T 10) τ1 n fun r => Q (.new ((asI r).map .int)) τ1) ok S q fun W1 as τ1 vs s1 le r S1 q1 => ?_))
  obtain ⟨v, rfl, q1⟩ := oneW_ex q1
  obtain ⟨i, rfl, q1⟩ := inV_ex q1
  obtain ⟨n, rfl, ⟨n2, n64⟩, q1⟩ := q1
  obtain ⟨c, rfl, rc⟩ := r.one
  obtain ⟨t, rfl⟩ := rc.int
  obtain ⟨u0, u1, e0, e1, q1⟩ := srtW_ex q1
  refine call_range_1 ?_
  refine args_nil ?_
  have S2 : SimX Φ W1 τ1 _ _ := S1.new (h' := s1.heap.push { cls := .type "range", data := .fields #[.int 0 s1.toks, .int (n : Int) t, .int 1 (s1.toks + 1)] }) (t := s1.toks + 2) (fun _ _ e => Heap.get?_push_of_some _ e) (Heap.get?_none_of_le (Nat.le_refl _)) (Heap.get?_push_size _ rfl)
  refine kws_cons (lamB_made O hmark htop h0 h1 e0 e1 S2 fun W2 f s2 le2 LA S3 => kws_nil ?_)
  have ld := Φ.lowd htop
  refine sorted_range (F := lamR lm wb (callsOf T 10) τ1 u0 u1) S3.first S3 (fun W' x' s' i t R le' S' q' => ?_) n2 n64 q1 fun W3 D vs c s' r ks le3 S4 pr hq hQ => ?_
  · refine wpAny_mono (lamB_call O hb (A := Φ.A.in1.in1) Φ.hh (by show Φ.A.units + 1 + 1 ≤ 3 * Φ.A.depth + 4; (exact qq1 [_,_] [1,3,4] 1 0x1108233040208045 1 0x8cc5 qt ld.2)) (by show Φ.A.depth ≤ 995; (exact qq1 [_] [995,400] 1 0x45 1 0x445 qt ld.1)) (callsOk hT 10 _ (by show Φ.A.depth + 1 + 3 + 4 * 10 < 1000; (exact qq1 [_] [1,3,40,1000,400] 1 0xc41008221042208045 1 0x1045 qt ld.1))) htop h0 h1 e0 e1 S' (LA.mono le') (.p (.int i t .nil)) (Q := fun a τ' => τ' = τ1 ∧ ∃ k, a = .val (.p (.int k)) ∧ R k) q' fun r τ3 ⟨a, b⟩ => ?_) (fun v s'' y => ?_) fun _ _ y => y
    · obtain ⟨k, rfl, hk⟩ := intR_ex b
      rw [a]
      exact .inl ⟨rfl, rfl, k, rfl, hk⟩
    · cases y with
      | val W4 a τ4 l r1 S5 q5 =>
        obtain ⟨rfl, k, e, hk⟩ := q5
        cases e
        obtain ⟨t', rfl⟩ := r1.int
        exact ⟨W4, k, t', l, rfl, S5, hk⟩
      | new W4 l τ4 q vs n l' r1 S5 q5 =>
        obtain ⟨_, k, e, _⟩ := q5
        cases e
  · exact .new W3 _ τ1 D vs c (le.trans (le2.trans le3)) pr (S4.perm (List.Perm.swap _ _ _)).forget (hQ r hq)
end VE
namespace VE
noncomputable def nmOf (l : List Str) (i : Nat) : Str := match l[i]? with
  | some x => x
  | none => ⟨#[2097152 + i]⟩
theorem nmOf_some {l : List Str} {i : Nat} {x : Str} (h : l[i]? = some x) : nmOf l i = x := by unfold nmOf; rw [h]
theorem nmOf_none {l : List Str} {i : Nat} (h : l[i]? = none) : nmOf l i = ⟨#[2097152 + i]⟩ := by unfold nmOf; rw [h]
theorem nmOf_ne {l : List Str} {t : Str} (ht : t.cps.size ≠ 1) (ne : ∀ x ∈ l, x ≠ t) (n : Nat) : (nmOf l n == t) = false := by
  refine beq_eq_false_iff_ne.mpr ?_
  cases hi : l[n]? with
  | none =>
    rw [nmOf_none hi]
    intro e
    exact ht (by rw [← e]; rfl)
  | some x => rw [nmOf_some hi]; exact ne x (List.mem_of_getElem? hi)
theorem nmOf_ok {l : List Str} (nd : l.Nodup) (sm : ∀ x ∈ l, ∀ c ∈ x.cps.toList, c < 2097152) (ne : ∀ x ∈ l, x ≠ "__debug__") (ne' : ∀ x ∈ l, x ≠ "__classdict__") : NOk (nmOf l) where
  inj := fun i j e => by
    cases hi : l[i]? with
    | none =>
      rw [nmOf_none hi] at e
      cases hj : l[j]? with
      | none =>
        rw [nmOf_none hj] at e
        have := congrArg (fun s : Str => s.cps.toList) e
        simp at this
        exact this
      | some y =>
        rw [nmOf_some hj] at e
        have := sm y (List.mem_of_getElem? hj) (2097152 + i) (by rw [← e]; simp)
        omega
    | some x =>
      rw [nmOf_some hi] at e
      cases hj : l[j]? with
      | none =>
        rw [nmOf_none hj] at e
        have := sm x (List.mem_of_getElem? hi) (2097152 + j) (by rw [e]; simp)
        omega
      | some y =>
        rw [nmOf_some hj] at e
        obtain ⟨h1, e1⟩ := List.getElem?_eq_some_iff.mp hi
        obtain ⟨h2, e2⟩ := List.getElem?_eq_some_iff.mp hj
        have P := List.pairwise_iff_getElem.mp nd
        rcases Nat.lt_trichotomy i j with q | q | q
        · exact absurd (e1.trans (e.trans e2.symm)) (P i j h1 h2 q)
        · exact q
        · exact absurd (e2.trans (e.symm.trans e1.symm)) (P j i h2 h1 q)
  dbg := nmOf_ne (by decide +kernel) ne
  cd := nmOf_ne (by decide +kernel) ne'
noncomputable def nmL : List Str := [Str.ofString "self", Str.ofString "name", Str.ofString "byteMask", Str.ofString "addrMask", Str.ofString "addrHighMask", Str.ofString "spBase", Str.ofString "excycles", Str.ofString "addcycles", Str.ofString "processorCycles", Str.ofString "memory", Str.ofString "start_pc", Str.ofString "pc", Str.ofString "sp", Str.ofString "a", Str.ofString "x", Str.ofString "y", Str.ofString "p", Str.ofString "RESET", Str.ofString "NMI", Str.ofString "IRQ", Str.ofString "NEGATIVE", Str.ofString "OVERFLOW", Str.ofString "UNUSED", Str.ofString "BREAK", Str.ofString "DECIMAL", Str.ofString "INTERRUPT", Str.ofString "ZERO", Str.ofString "CARRY", Str.ofString "BYTE_WIDTH", Str.ofString "ADDR_WIDTH", Str.ofString "instruct", Str.ofString "cycletime", Str.ofString "extracycles", Str.ofString "__init__", Str.ofString "step", Str.ofString "reset", Str.ofString "irq", Str.ofString "ByteAt", Str.ofString "WordAt", Str.ofString "ProgramCounter", Str.ofString "ZeroPageAddr", Str.ofString "ImmediateByte", Str.ofString "AbsoluteXAddr", Str.ofString "BranchRelAddr", Str.ofString "stPush", Str.ofString "stPop", Str.ofString "stPushWord", Str.ofString "stPopWord", Str.ofString "FlagsNZ", Str.ofString "opORA", Str.ofString "opBCL", Str.ofString "opCLR", Str.ofString "opSET", Str.ofString "opSTA", Str.ofString "opDECR", Str.ofString "opINCR", Str.ofString "opLDA", Str.ofString "opLDX", Str.ofString "inst_0x48", Str.ofString "inst_0x8a", Str.ofString "inst_0xa6", Str.ofString "inst_0xa5", Str.ofString "inst_0x9d", Str.ofString "inst_0xe6", Str.ofString "inst_0x58", Str.ofString "inst_0x78", Str.ofString "inst_0xc6", Str.ofString "inst_0x09", Str.ofString "inst_0x68", Str.ofString "inst_0xaa", Str.ofString "inst_0x40", Str.ofString "inst_0xa2", Str.ofString "inst_0xca", Str.ofString "inst_0xd0", Str.ofString "instructCode", Str.ofString "addr", Str.ofString "a1", Str.ofString "a2", Str.ofString "z", Str.ofString "value", Str.ofString "tbyte", Str.ofString "WrapAt", Str.ofString "IndirectYAddr", Str.ofString "opBST", Str.ofString "opEOR", Str.ofString "opCMPR", Str.ofString "opLDY", Str.ofString "inst_0xa9", Str.ofString "inst_0xa0", Str.ofString "inst_0xb1", Str.ofString "inst_0x85", Str.ofString "inst_0xf0", Str.ofString "inst_0xc5", Str.ofString "inst_0x49", Str.ofString "inst_0x90", Str.ofString "inst_0x4c", Str.ofString "inst_0x91", Str.ofString "inst_0xc8", Str.ofString "inst_0x88", Str.ofString "wrap", Str.ofString "get_address", Str.ofString "register_value", Str.ofString "place", Str.ofString "_law_word", Str.ofString "turned", Str.ofString "_law_key", Str.ofString "sum", Str.ofString "bit", Str.ofString "range", Str.ofString "n", Str.ofString "_law_offset", Str.ofString "base", Str.ofString "_law_program", Str.ofString "outer", Str.ofString "inner", Str.ofString "insert", Str.ofString "script", Str.ofString "law", Str.ofString "total", Str.ofString "drawn", Str.ofString "count", Str.ofString "values", Str.ofString "places", Str.ofString "code", Str.ofString "plain", Str.ofString "spot", Str.ofString "mpu", Str.ofString "turn", Str.ofString "order", Str.ofString "min", Str.ofString "follow", Str.ofString "MPU", Str.ofString "sorted", Str.ofString "rank", Str.ofString "enumerate", Str.ofString "len", Str.ofString "_wall", Str.ofString "__name__"]
noncomputable abbrev nm : Nat → Str := nmOf nmL
theorem nm_ok : NOk nm := nmOf_ok (by decide +kernel) (by decide +kernel) (by decide +kernel) (by decide +kernel)
end VE
namespace VE
open M6
noncomputable abbrev IX : Str → Nat := fun t => ixOf (strK t) nmL 0
noncomputable abbrev CA : Addr := 1428
noncomputable def tb0 : List PV := [.any, .any, .any, .any, .any, .any, .any, .any, .any, .any, .any, .any, .any, .any, .any, .any, .any, .any, .any, .any, .any, .any, .any, .any, .any, .any, .any, .any, .any, .any, .any, .any, .any, .any, .any, .any, .any, .any, .any, .any, .any, .any, .any, .any, .any, .any, .any, .any, .any, .any, .any, .any, .any, .any, .any, .any, .any, .any, .any, .any, .any, .any, .any, .any, .any, .any, .any, .any, .any, .any, .any, .any, .any, .fn 659, .any, .any, .fn 673, .any, .any, .any, .any, .any, .any, .any, .any, .any, .any, .any, .any, .any, .any, .any, .any, .any, .any, .any, .any, .any, .any, .any, .any, .any, .any, .any, .any, .any, .any, .any, .any, .any, .any, .any, .any, .any, .any, .any, .any, .any, .any, .any, .any, .any, .any, .any, .any, .any, .any, .any, .any, .any, .any, .any, .any, .fn 890, .any, .any, .fn 904, .any, .any, .any, .any, .any, .any, .any, .fn 939, .fn 946, .any, .any, .any, .any, .any, .any, .any, .any, .any, .any, .any, .any, .any, .any, .fn 1002, .any, .any, .any, .any, .fn 1030, .any, .any, .any, .fn 1051, .any, .any, .any, .any, .any, .any, .any, .fn 1093, .any, .any, .any, .any, .any, .any, .any, .any, .any, .any, .any, .any, .any, .any, .any, .any, .any, .any, .any, .fn 1184, .any, .any, .fn 1198, .any, .any, .any, .any, .any, .any, .any, .fn 1240, .any, .any, .any, .any, .any, .any, .any, .any, .any, .any, .any, .any, .any, .any, .any, .any, .any, .any, .any, .any, .any, .any, .any, .any, .any, .any, .any, .any, .any, .any, .any, .fn 1373, .any, .any, .any, .any, .any, .any, .any, .any, .any, .any, .any, .any, .any, .any, .any]
noncomputable def tb1 : List PV := [.any, .any, .any, .any, .any, .any, .any, .any, .any, .any, .any, .any, .any, .any, .any, .any, .any, .any, .any, .any, .any, .any, .any, .any, .any, .any, .any, .any, .any, .any, .any, .any, .any, .any, .any, .any, .any, .any, .any, .any, .any, .any, .any, .any, .any, .any, .any, .any, .any, .any, .any, .any, .any, .any, .any, .any, .any, .any, .any, .any, .any, .any, .any, .any, .any, .any, .any, .any, .any, .any, .any, .any, .any, .int 2, .any, .any, .int 3, .any, .any, .any, .any, .any, .any, .any, .any, .any, .any, .any, .any, .any, .any, .any, .any, .any, .any, .any, .any, .any, .any, .any, .any, .any, .any, .any, .any, .any, .any, .any, .any, .any, .any, .any, .any, .any, .any, .any, .any, .any, .any, .any, .any, .any, .any, .any, .any, .any, .any, .any, .any, .any, .any, .any, .any, .int 3, .any, .any, .int 2, .any, .any, .any, .any, .any, .any, .any, .int 2, .int 6, .any, .any, .any, .any, .any, .any, .any, .any, .any, .any, .any, .any, .any, .any, .int 2, .any, .any, .any, .any, .int 3, .any, .any, .any, .int 2, .any, .any, .any, .any, .any, .any, .any, .int 5, .any, .any, .any, .any, .any, .any, .any, .any, .any, .any, .any, .any, .any, .any, .any, .any, .any, .any, .any, .int 3, .any, .any, .int 2, .any, .any, .any, .any, .any, .any, .any, .int 2, .any, .any, .any, .any, .any, .any, .any, .any, .any, .any, .any, .any, .any, .any, .any, .any, .any, .any, .any, .any, .any, .any, .any, .any, .any, .any, .any, .any, .any, .any, .any, .int 2, .any, .any, .any, .any, .any, .any, .any, .any, .any, .any, .any, .any, .any, .any, .any]
noncomputable def tb2 : List PV := [.any, .any, .any, .any, .any, .any, .any, .any, .any, .any, .any, .any, .any, .any, .any, .any, .any, .any, .any, .any, .any, .any, .any, .any, .any, .any, .any, .any, .any, .any, .any, .any, .any, .any, .any, .any, .any, .any, .any, .any, .any, .any, .any, .any, .any, .any, .any, .any, .any, .any, .any, .any, .any, .any, .any, .any, .any, .any, .any, .any, .any, .any, .any, .any, .any, .any, .any, .any, .any, .any, .any, .any, .any, .int 0, .any, .any, .int 0, .any, .any, .any, .any, .any, .any, .any, .any, .any, .any, .any, .any, .any, .any, .any, .any, .any, .any, .any, .any, .any, .any, .any, .any, .any, .any, .any, .any, .any, .any, .any, .any, .any, .any, .any, .any, .any, .any, .any, .any, .any, .any, .any, .any, .any, .any, .any, .any, .any, .any, .any, .any, .any, .any, .any, .any, .int 0, .any, .any, .int 0, .any, .any, .any, .any, .any, .any, .any, .int 2, .int 0, .any, .any, .any, .any, .any, .any, .any, .any, .any, .any, .any, .any, .any, .any, .int 0, .any, .any, .any, .any, .int 0, .any, .any, .any, .int 0, .any, .any, .any, .any, .any, .any, .any, .int 1, .any, .any, .any, .any, .any, .any, .any, .any, .any, .any, .any, .any, .any, .any, .any, .any, .any, .any, .any, .int 0, .any, .any, .int 0, .any, .any, .any, .any, .any, .any, .any, .int 2, .any, .any, .any, .any, .any, .any, .any, .any, .any, .any, .any, .any, .any, .any, .any, .any, .any, .any, .any, .any, .any, .any, .any, .any, .any, .any, .any, .any, .any, .any, .any, .int 2, .any, .any, .any, .any, .any, .any, .any, .any, .any, .any, .any, .any, .any, .any, .any]
noncomputable def lamE : Expr := match sBody (cst 22) with
  | .Assign _ e _ :: _ => e
  | _ => .Constant .none 0 default
/-- The lambda of WrapAt. -/
noncomputable def lamD : LamD := match lamE with
  | .Lambda p b s q => ⟨⟨80, 84, 99, q, "MPU." ++ sName (cst 22)⟩, p, b, s, 0, 14⟩
  | _ => ⟨⟨80, 84, 99, default, "MPU." ++ sName (cst 22)⟩, sArgs (cst 0), lamE, sScope (cst 0), 0, 14⟩
noncomputable abbrev ltab : TabD := lamD.tab
/-- The lambda of the law. -/
noncomputable def lamE2 : Expr := match (sBody (pst 8)).drop 16 with
  | .Assign _ (.Call _ _ [k] _) _ :: _ => k.value
  | _ => .Constant .none 0 default
noncomputable def lamB2 : LamB := match lamE2 with
  | .Lambda p b s q => ⟨⟨1460, 1462, 116, q, "law"⟩, p, b, s, 121, 104, 125⟩
  | _ => ⟨⟨1460, 1462, 116, default, "law"⟩, sArgs (cst 0), lamE2, sScope (cst 0), 121, 104, 125⟩
noncomputable abbrev ltab2 : TabD := lamB2.tab
noncomputable def Z2 : Stc := ⟨126, [1, 2, 3, 4, 5, 6, 7, 8, 9, 10, 11, 12, 13, 14, 15, 16], [(17, 65532), (18, 65530), (19, 65534), (20, 128), (21, 64), (22, 32), (23, 16), (24, 8), (25, 4), (26, 2), (27, 1), (28, 8), (29, 16)], [(33, 36), (34, 43), (35, 50), (37, 71), (38, 78), (81, 85), (39, 92), (41, 99), (40, 106), (82, 134), (43, 162), (48, 197), (50, 225), (83, 232), (84, 274), (85, 316), (53, 295), (56, 344), (86, 351), (87, 1051), (61, 1030), (88, 1002), (89, 1093), (90, 890), (73, 1240), (91, 1373), (92, 1184), (93, 659), (94, 939), (95, 673), (96, 946), (97, 1198), (98, 904)], [(103, 1439), (105, 1444), (110, 1451), (112, 1458)], [134, 135, 129, 108, 132, 106], [(30, tb0), (31, tb1), (32, tb2)], [ltab, ltab2]⟩
theorem lamB_ok : LamBOk nm Z2 lamB2 where
  tab := .tail _ (.head _)
  bind := fun _ _ _ _ _ => by kernel_rfl
  arg := by kernel_rfl
  fv0 := by kernel_rfl
  fv1 := by kernel_rfl
  ne := by decide
  free := by
    have h : (lamB2.scope.names.all fun p => p.2 != .free || (p.1 == nm lamB2.f0 || p.1 == nm lamB2.f1)) = true := by kernel_rfl
    exact fun p hp e => (Bool.or_eq_true_iff.mp (List.all_eq_true.mp h p hp)).elim (fun q => absurd e (bne_iff_ne.mp q)) fun q => (Bool.or_eq_true_iff.mp q).imp beq_iff_eq.mp beq_iff_eq.mp
  cl := fun cells a b h0 h1 => by
    have e : lamB2.scope.names = [(nm 125, .local), (nm 104, .free), (nm 121, .free), (nm 105, .globalImplicit)] := by kernel_rfl
    have f : lamB2.f0 = 121 := rfl
    have g : lamB2.f1 = 104 := rfl
    rw [f] at h0
    rw [g] at h1
    rw [e, f, g]
    unfold clL clL clL clL clL
    rw [h0, h1]
    rfl
  cell := by
    have h : (lamB2.scope.names.all fun p => p.2 != .cell) = true := by kernel_rfl
    exact fun p hp => bne_iff_ne.mp (List.all_eq_true.mp h p hp)
  co := by kernel_rfl
  gen := by kernel_rfl
  k := by kernel_rfl
  top := fun e => absurd (show (lamB2.scope.names.lookup (nm Z2.topn) != some .local) = true by kernel_rfl) (by rw [e]; decide)
  mark := by
    have h : (Z2.tds.all fun T => lamB2.scope.names.lookup (nm T.mark) != some .local) = true := by kernel_rfl
    exact fun T hT => bne_iff_ne.mp (List.all_eq_true.mp h T hT)
  dflt := fun _ => rfl
theorem lam_ok : LamOk nm Z2 lamD where
  tab := .head _
  bind := fun _ _ _ _ _ => by kernel_rfl
  arg := by kernel_rfl
  fv := by kernel_rfl
  free := by
    have h : (lamD.scope.names.all fun p => p.2 != .free || p.1 == nm lamD.fv) = true := by kernel_rfl
    exact fun p hp e => (Bool.or_eq_true_iff.mp (List.all_eq_true.mp h p hp)).elim (fun q => absurd e (bne_iff_ne.mp q)) beq_iff_eq.mp
  cl := fun cells a h => by
    have e : lamD.scope.names = [(nm 14, .local), (nm 0, .free)] := by kernel_rfl
    have f : lamD.fv = 0 := rfl
    rw [f] at h
    rw [e, f]
    unfold clL clL clL
    rw [h]
    rfl
  cell := by
    have h : (lamD.scope.names.all fun p => p.2 != .cell) = true := by kernel_rfl
    exact fun p hp => bne_iff_ne.mp (List.all_eq_true.mp h p hp)
  co := by kernel_rfl
  gen := by kernel_rfl
  k := by kernel_rfl
  top := fun e => absurd (show (lamD.scope.names.lookup (nm Z2.topn) != some .local) = true by kernel_rfl) (by rw [e]; decide)
  mark := by
    have h : (Z2.tds.all fun T => lamD.scope.names.lookup (nm T.mark) != some .local) = true := by kernel_rfl
    exact fun T hT => bne_iff_ne.mp (List.all_eq_true.mp h T hT)
  dflt := fun _ => rfl
noncomputable def w_lam : WE := (wBin .Add (wBin .BitAnd (wName 14) (wAttr Z2 4 (wName 0))) (wBin .BitAnd (wBin .Add (wName 14) (wInt 1)) (wAttr Z2 2 (wName 0))))
theorem s_lam {G : Gl nm Z2} : SE G lamD.scope lamD.body w_lam := (SE_bin (SE_bin (SE_name (n := 14) rfl) (SE_attr (n := 4) (SE_name (n := 0) rfl) rfl (fun _ => rfl))) (SE_bin (SE_bin (SE_name (n := 14) rfl) SE_int) (SE_attr (n := 2) (SE_name (n := 0) rfl) rfl (fun _ => rfl))))
noncomputable def w_uinit : WX := (wSeq (wAsA Z2 1 (wName 0) wStr) (wSeq (wAsA Z2 2 (wName 0) (wBin .Sub (wBin .LShift (wInt 1) (wAttr Z2 28 (wName 0))) (wInt 1))) (wSeq (wAsA Z2 3 (wName 0) (wBin .Sub (wBin .LShift (wInt 1) (wAttr Z2 29 (wName 0))) (wInt 1))) (wSeq (wAsA Z2 4 (wName 0) (wBin .LShift (wAttr Z2 2 (wName 0)) (wAttr Z2 28 (wName 0)))) (wSeq (wAsA Z2 5 (wName 0) (wBin .LShift (wInt 1) (wAttr Z2 28 (wName 0)))) (wSeq (wAsA Z2 6 (wName 0) (wInt 0)) (wSeq (wAsA Z2 7 (wName 0) (wBool false)) (wSeq (wAsA Z2 8 (wName 0) (wInt 0)) (wSeq (wIf (wCmpT .Is (wName 9) wNone) wDead wNil) (wSeq (wAsA Z2 9 (wName 0) (wName 9)) (wSeq (wAsA Z2 10 (wName 0) (wName 11)) (wSeq (wExpr (wFrz (wMeth Z2 35 (wName 0) wA0))) wNil))))))))))))
theorem s_uinit {G : Gl nm Z2} : SB G (sScope (cst 15)) (sBody (cst 15)) w_uinit := SB_by (f := 60) (ix := IX) (ls := [31, 49, 262, 351]) (by kernel_rfl)
noncomputable def w_step : WX := (wSeq (wAsg 74 (wSub (wAttr Z2 9 (wName 0)) (wAttr Z2 11 (wName 0)))) (wSeq (wAsA Z2 11 (wName 0) (wBin .BitAnd (wBin .Add (wAttr Z2 11 (wName 0)) (wInt 1)) (wAttr Z2 3 (wName 0)))) (wSeq (wAsA Z2 6 (wName 0) (wInt 0)) (wSeq (wAsA Z2 7 (wName 0) (wSub (wAttr Z2 32 (wName 0)) (wName 74))) (wSeq (wExpr (wFrz (wFcall Z2 (wSub (wAttr Z2 30 (wName 0)) (wName 74)) (wAc (wName 0) wA0)))) (wSeq (wAuA Z2 11 .BitAnd (wName 0) (wAttr Z2 3 (wName 0))) (wSeq (wAuA Z2 8 .Add (wName 0) (wBin .Add (wSub (wAttr Z2 31 (wName 0)) (wName 74)) (wAttr Z2 6 (wName 0)))) (wSeq (wRet (wName 0)) wNil))))))))
noncomputable def w_reset : WX := (wSeq (wAsA Z2 11 (wName 0) (wAttr Z2 10 (wName 0))) (wSeq (wIf (wCmpT .Is (wAttr Z2 11 (wName 0)) wNone) wDead wNil) (wSeq (wAsA Z2 12 (wName 0) (wAttr Z2 2 (wName 0))) (wSeq (wAsA Z2 13 (wName 0) (wInt 0)) (wSeq (wAsA Z2 14 (wName 0) (wInt 0)) (wSeq (wAsA Z2 15 (wName 0) (wInt 0)) (wSeq (wAsA Z2 16 (wName 0) (wBin .BitOr (wAttr Z2 23 (wName 0)) (wAttr Z2 22 (wName 0)))) (wSeq (wAsA Z2 8 (wName 0) (wInt 0)) wNil))))))))
noncomputable def w_ByteAt : WX := (wSeq (wRet (wSub (wAttr Z2 9 (wName 0)) (wName 75))) wNil)
noncomputable def w_WordAt : WX := (wSeq (wRet (wBin .Add (wFrz (wMeth Z2 37 (wName 0) (wAc (wName 75) wA0))) (wBin .LShift (wFrz (wMeth Z2 37 (wName 0) (wAc (wBin .Add (wName 75) (wInt 1)) wA0))) (wAttr Z2 28 (wName 0))))) wNil)
noncomputable def w_WrapAt : WX := (wSeq (wLam 99 0) (wSeq (wRet (wBin .Add (wFrz (wMeth Z2 37 (wName 0) (wAc (wName 75) wA0))) (wBin .LShift (wFrz (wMeth Z2 37 (wName 0) (wAc (wFrz (wLcall 14 0 w_lam (wName 99) (wAc (wName 75) wA0))) wA0))) (wAttr Z2 28 (wName 0))))) wNil))
theorem s_WrapAt {G : Gl nm Z2} (hL : G.lam = lamD) : SB G (sScope (cst 22)) (sBody (cst 22)) w_WrapAt := (SB_cons (SX_lam (n := 99) (lm := lamD) hL rfl rfl rfl rfl lam_ok (by kernel_rfl) (ne_of_lk (by kernel_rfl)) (by kernel_rfl) rfl (.inl (by kernel_rfl)) (fun _ => rfl)) (SB_cons (SX_ret (SE_bin (SE_frz (S0_meth (n := 37) (SE_name (n := 0) rfl) (SA_cons (SE_name (n := 75) rfl) SA_nil (fun _ => rfl)) rfl (fun _ => ⟨_, rfl⟩))) (SE_bin (SE_frz (S0_meth (n := 37) (SE_name (n := 0) rfl) (SA_cons (SE_frz (S0_lcall (lm := lamD) hL lam_ok (by kernel_rfl) s_lam (SE_name (n := 99) rfl) (SA_cons (SE_name (n := 75) rfl) SA_nil (fun _ => rfl)) (fun _ => rfl))) SA_nil (fun _ => rfl)) rfl (fun _ => ⟨_, rfl⟩))) (SE_attr (n := 28) (SE_name (n := 0) rfl) rfl (fun _ => rfl))))) SB_nil))
noncomputable def w_ProgramCounter : WX := (wSeq (wRet (wAttr Z2 11 (wName 0))) wNil)
noncomputable def w_ImmediateByte : WX := (wSeq (wRet (wFrz (wMeth Z2 37 (wName 0) (wAc (wAttr Z2 11 (wName 0)) wA0)))) wNil)
noncomputable def w_ZeroPageAddr : WX := (wSeq (wRet (wFrz (wMeth Z2 37 (wName 0) (wAc (wAttr Z2 11 (wName 0)) wA0)))) wNil)
noncomputable def w_IndirectYAddr : WX := (wSeq (wIf (wTru (wAttr Z2 7 (wName 0))) (wSeq (wAsg 76 (wFrz (wMeth Z2 81 (wName 0) (wAc (wFrz (wMeth Z2 37 (wName 0) (wAc (wAttr Z2 11 (wName 0)) wA0))) wA0)))) (wSeq (wAsg 77 (wBin .BitAnd (wBin .Add (wName 76) (wAttr Z2 15 (wName 0))) (wAttr Z2 3 (wName 0)))) (wSeq (wIf (wCmpT .NotEq (wBin .BitAnd (wName 76) (wAttr Z2 4 (wName 0))) (wBin .BitAnd (wName 77) (wAttr Z2 4 (wName 0)))) (wSeq (wAuA Z2 6 .Add (wName 0) (wInt 1)) wNil) wNil) (wSeq (wRet (wName 77)) wNil)))) (wSeq (wRet (wBin .BitAnd (wBin .Add (wFrz (wMeth Z2 81 (wName 0) (wAc (wFrz (wMeth Z2 37 (wName 0) (wAc (wAttr Z2 11 (wName 0)) wA0))) wA0))) (wAttr Z2 15 (wName 0))) (wAttr Z2 3 (wName 0)))) wNil)) wNil)
noncomputable def w_BranchRelAddr : WX := (wSeq (wAuA Z2 6 .Add (wName 0) (wInt 1)) (wSeq (wAsg 75 (wFrz (wMeth Z2 41 (wName 0) wA0))) (wSeq (wAuA Z2 11 .Add (wName 0) (wInt 1)) (wSeq (wIf (wTru (wBin .BitAnd (wName 75) (wAttr Z2 20 (wName 0)))) (wSeq (wAsg 75 (wBin .Sub (wBin .Sub (wAttr Z2 11 (wName 0)) (wBin .BitXor (wName 75) (wAttr Z2 2 (wName 0)))) (wInt 1))) wNil) (wSeq (wAsg 75 (wBin .Add (wAttr Z2 11 (wName 0)) (wName 75))) wNil)) (wSeq (wIf (wCmpT .NotEq (wBin .BitAnd (wAttr Z2 11 (wName 0)) (wAttr Z2 4 (wName 0))) (wBin .BitAnd (wName 75) (wAttr Z2 4 (wName 0)))) (wSeq (wAuA Z2 6 .Add (wName 0) (wInt 1)) wNil) wNil) (wSeq (wAsA Z2 11 (wName 0) (wBin .BitAnd (wName 75) (wAttr Z2 3 (wName 0)))) wNil))))))
noncomputable def w_FlagsNZ : WX := (wSeq (wAuA Z2 16 .BitAnd (wName 0) (wInv (wBin .BitOr (wAttr Z2 26 (wName 0)) (wAttr Z2 20 (wName 0))))) (wSeq (wIf (wCmpT .Eq (wName 79) (wInt 0)) (wSeq (wAuA Z2 16 .BitOr (wName 0) (wAttr Z2 26 (wName 0))) wNil) (wSeq (wAuA Z2 16 .BitOr (wName 0) (wBin .BitAnd (wName 79) (wAttr Z2 20 (wName 0)))) wNil)) wNil))
noncomputable def w_opBCL : WX := (wSeq (wIf (wTru (wBin .BitAnd (wAttr Z2 16 (wName 0)) (wName 14))) (wSeq (wAuA Z2 11 .Add (wName 0) (wInt 1)) wNil) (wSeq (wExpr (wFrz (wMeth Z2 43 (wName 0) wA0))) wNil)) wNil)
noncomputable def w_opBST : WX := (wSeq (wIf (wTru (wBin .BitAnd (wAttr Z2 16 (wName 0)) (wName 14))) (wSeq (wExpr (wFrz (wMeth Z2 43 (wName 0) wA0))) wNil) (wSeq (wAuA Z2 11 .Add (wName 0) (wInt 1)) wNil)) wNil)
noncomputable def w_opEOR : WX := (wSeq (wAuA Z2 13 .BitXor (wName 0) (wFrz (wMeth Z2 37 (wName 0) (wAc (wFrz (wVcall (wName 14))) wA0)))) (wSeq (wExpr (wFrz (wMeth Z2 48 (wName 0) (wAc (wAttr Z2 13 (wName 0)) wA0)))) wNil))
noncomputable def w_opCMPR : WX := (wSeq (wAsg 80 (wFrz (wMeth Z2 37 (wName 0) (wAc (wFrz (wVcall (wName 100))) wA0)))) (wSeq (wAuA Z2 16 .BitAnd (wName 0) (wInv (wBin .BitOr (wBin .BitOr (wAttr Z2 27 (wName 0)) (wAttr Z2 26 (wName 0))) (wAttr Z2 20 (wName 0))))) (wSeq (wIf (wCmpT .Eq (wName 101) (wName 80)) (wSeq (wAuA Z2 16 .BitOr (wName 0) (wBin .BitOr (wAttr Z2 27 (wName 0)) (wAttr Z2 26 (wName 0)))) wNil) (wSeq (wIf (wCmpT .Gt (wName 101) (wName 80)) (wSeq (wAuA Z2 16 .BitOr (wName 0) (wAttr Z2 27 (wName 0))) wNil) wNil) wNil)) (wSeq (wAuA Z2 16 .BitOr (wName 0) (wBin .BitAnd (wBin .Sub (wName 101) (wName 80)) (wAttr Z2 20 (wName 0)))) wNil))))
noncomputable def w_opSTA : WX := (wSeq (wAsS (wAttr Z2 9 (wName 0)) (wFrz (wVcall (wName 14))) (wAttr Z2 13 (wName 0))) wNil)
noncomputable def w_opLDA : WX := (wSeq (wAsA Z2 13 (wName 0) (wFrz (wMeth Z2 37 (wName 0) (wAc (wFrz (wVcall (wName 14))) wA0)))) (wSeq (wExpr (wFrz (wMeth Z2 48 (wName 0) (wAc (wAttr Z2 13 (wName 0)) wA0)))) wNil))
noncomputable def w_opLDY : WX := (wSeq (wAsA Z2 15 (wName 0) (wFrz (wMeth Z2 37 (wName 0) (wAc (wFrz (wVcall (wName 14))) wA0)))) (wSeq (wExpr (wFrz (wMeth Z2 48 (wName 0) (wAc (wAttr Z2 15 (wName 0)) wA0)))) wNil))
noncomputable def w_inst_0xa9 : WX := (wSeq (wExpr (wFrz (wMeth Z2 56 (wName 0) (wAc (wAttr Z2 39 (wName 0)) wA0)))) (wSeq (wAuA Z2 11 .Add (wName 0) (wInt 1)) wNil))
noncomputable def w_inst_0xa5 : WX := (wSeq (wExpr (wFrz (wMeth Z2 56 (wName 0) (wAc (wAttr Z2 40 (wName 0)) wA0)))) (wSeq (wAuA Z2 11 .Add (wName 0) (wInt 1)) wNil))
noncomputable def w_inst_0xa0 : WX := (wSeq (wExpr (wFrz (wMeth Z2 86 (wName 0) (wAc (wAttr Z2 39 (wName 0)) wA0)))) (wSeq (wAuA Z2 11 .Add (wName 0) (wInt 1)) wNil))
noncomputable def w_inst_0xb1 : WX := (wSeq (wExpr (wFrz (wMeth Z2 56 (wName 0) (wAc (wAttr Z2 82 (wName 0)) wA0)))) (wSeq (wAuA Z2 11 .Add (wName 0) (wInt 1)) wNil))
noncomputable def w_inst_0x85 : WX := (wSeq (wExpr (wFrz (wMeth Z2 53 (wName 0) (wAc (wAttr Z2 40 (wName 0)) wA0)))) (wSeq (wAuA Z2 11 .Add (wName 0) (wInt 1)) wNil))
noncomputable def w_inst_0xd0 : WX := (wSeq (wExpr (wFrz (wMeth Z2 50 (wName 0) (wAc (wAttr Z2 26 (wName 0)) wA0)))) wNil)
noncomputable def w_inst_0xf0 : WX := (wSeq (wExpr (wFrz (wMeth Z2 83 (wName 0) (wAc (wAttr Z2 26 (wName 0)) wA0)))) wNil)
noncomputable def w_inst_0xc5 : WX := (wSeq (wExpr (wFrz (wMeth Z2 85 (wName 0) (wAc (wAttr Z2 40 (wName 0)) (wAc (wAttr Z2 13 (wName 0)) wA0))))) (wSeq (wAuA Z2 11 .Add (wName 0) (wInt 1)) wNil))
noncomputable def w_inst_0x49 : WX := (wSeq (wExpr (wFrz (wMeth Z2 84 (wName 0) (wAc (wAttr Z2 39 (wName 0)) wA0)))) (wSeq (wAuA Z2 11 .Add (wName 0) (wInt 1)) wNil))
noncomputable def w_inst_0x90 : WX := (wSeq (wExpr (wFrz (wMeth Z2 50 (wName 0) (wAc (wAttr Z2 27 (wName 0)) wA0)))) wNil)
noncomputable def w_inst_0x4c : WX := (wSeq (wAsA Z2 11 (wName 0) (wFrz (wMeth Z2 38 (wName 0) (wAc (wAttr Z2 11 (wName 0)) wA0)))) wNil)
noncomputable def w_inst_0x91 : WX := (wSeq (wExpr (wFrz (wMeth Z2 53 (wName 0) (wAc (wAttr Z2 82 (wName 0)) wA0)))) (wSeq (wAuA Z2 11 .Add (wName 0) (wInt 1)) wNil))
noncomputable def w_inst_0xc8 : WX := (wSeq (wAuA Z2 15 .Add (wName 0) (wInt 1)) (wSeq (wAuA Z2 15 .BitAnd (wName 0) (wAttr Z2 2 (wName 0))) (wSeq (wExpr (wFrz (wMeth Z2 48 (wName 0) (wAc (wAttr Z2 15 (wName 0)) wA0)))) wNil)))
noncomputable def w_inst_0x88 : WX := (wSeq (wAuA Z2 15 .Sub (wName 0) (wInt 1)) (wSeq (wAuA Z2 15 .BitAnd (wName 0) (wAttr Z2 2 (wName 0))) (wSeq (wExpr (wFrz (wMeth Z2 48 (wName 0) (wAc (wAttr Z2 15 (wName 0)) wA0)))) wNil)))
noncomputable def T2 : Defs := [(43, [0], w_step), (50, [0], w_reset), (71, [0, 75], w_ByteAt), (78, [0, 75], w_WordAt), (85, [0, 75], w_WrapAt), (92, [0], w_ProgramCounter), (99, [0], w_ImmediateByte), (106, [0], w_ZeroPageAddr), (134, [0], w_IndirectYAddr), (162, [0], w_BranchRelAddr), (197, [0, 79], w_FlagsNZ), (225, [0, 14], w_opBCL), (232, [0, 14], w_opBST), (274, [0, 14], w_opEOR), (316, [0, 100, 101], w_opCMPR), (295, [0, 14], w_opSTA), (344, [0, 14], w_opLDA), (351, [0, 14], w_opLDY), (1051, [0], w_inst_0xa9), (1030, [0], w_inst_0xa5), (1002, [0], w_inst_0xa0), (1093, [0], w_inst_0xb1), (890, [0], w_inst_0x85), (1240, [0], w_inst_0xd0), (1373, [0], w_inst_0xf0), (1184, [0], w_inst_0xc5), (659, [0], w_inst_0x49), (939, [0], w_inst_0x90), (673, [0], w_inst_0x4c), (946, [0], w_inst_0x91), (1198, [0], w_inst_0xc8), (904, [0], w_inst_0x88)]
end VE
namespace VE
open M6
@[irreducible] noncomputable def w__law_word : WX := (wSeq (wRet (wFrz (wList (wAc (wBin .Mod (wName 102) (wInt 256)) (wAc (wBin .FloorDiv (wName 102) (wInt 256)) wA0))))) wNil)
theorem s__law_word {G : Gl nm Z2} : SB G (sScope (pst 4)) (sBody (pst 4)) w__law_word := by unfold w__law_word; refine SB_cons ?_ ?_; refine SX_ret ?_; refine SE_frz ?_; refine S0_list ?_; refine SA_cons ?_ ?_ ?_; refine SE_bin ?_ ?_; refine SE_name (n := 102) ?_; exact rfl; exact SE_int; refine SA_cons ?_ ?_ ?_; refine SE_bin ?_ ?_; refine SE_name (n := 102) ?_; exact rfl; exact SE_int; exact SA_nil; exact (fun _ => rfl); exact (fun _ => rfl); exact SB_nil
@[irreducible] noncomputable def w__law_key : WX := (wSeq (wRet (wSum (wAc (wFrz (wCompT (wRng (wAc (wInt 8) wA0)) (wTN 107) (wCmpT .NotEq (wBin .Mod (wBin .FloorDiv (wName 79) (wBin .Pow (wInt 2) (wName 107))) (wInt 2)) (wBin .Mod (wBin .FloorDiv (wName 104) (wBin .Pow (wInt 2) (wName 107))) (wInt 2))) (wBin .Pow (wInt 2) (wName 107)) [79, 104])) wA0))) wNil)
theorem s__law_key {G : Gl nm Z2} : SB G (sScope (pst 5)) (sBody (pst 5)) w__law_key := by unfold w__law_key; refine SB_cons ?_ ?_; refine SX_ret ?_; refine SE_sum (n := 106) ?_ ?_ ?_; refine SA_cons ?_ ?_ ?_; refine SE_frz ?_; refine S0_compT ?_ ?_ ?_ ?_ ?_ ?_; refine CompOk.of (fv := [79, 104]) ?_; exact (by kernel_rfl); refine SI_range (n := 108) ?_ ?_ ?_; refine SA_cons ?_ ?_ ?_; exact SE_int; exact SA_nil; exact (fun _ => rfl); exact (⟨rfl, rfl, by kernel_rfl, by kernel_rfl, by decide +kernel⟩); exact (fun _ => rfl); refine SS_N (n := 107) ?_ ?_; exact rfl; exact (.inl (by kernel_rfl)); refine ST_cmp ?_ ?_ ?_; refine SE_bin ?_ ?_; refine SE_bin ?_ ?_; refine SE_name (n := 79) ?_; exact rfl; refine SE_bin ?_ ?_; exact SE_int; refine SE_name (n := 107) ?_; exact rfl; exact SE_int; refine SE_bin ?_ ?_; refine SE_bin ?_ ?_; refine SE_name (n := 104) ?_; exact rfl; refine SE_bin ?_ ?_; exact SE_int; refine SE_name (n := 107) ?_; exact rfl; exact SE_int; exact rfl; refine SE_bin ?_ ?_; exact SE_int; refine SE_name (n := 107) ?_; exact rfl; exact (fun _ _ => rfl); exact SA_nil; exact (fun _ => rfl); exact (⟨rfl, rfl, by kernel_rfl, by kernel_rfl, by decide +kernel⟩); exact (fun _ => rfl); exact SB_nil
@[irreducible] noncomputable def w__law_offset : WX := (wSeq (wRet (wIfE (wCmpT .Eq (wBin .Mod (wBin .FloorDiv (wName 109) (wInt 12)) (wInt 2)) (wInt 0)) (wBin .Add (wBin .Add (wInt 252) (wBin .Mod (wName 109) (wInt 4))) (wBin .Mult (wInt 256) (wBin .Mod (wBin .FloorDiv (wName 109) (wInt 4)) (wInt 3)))) (wBin .Mod (wName 109) (wInt 1000)))) wNil)
theorem s__law_offset {G : Gl nm Z2} : SB G (sScope (pst 6)) (sBody (pst 6)) w__law_offset := by unfold w__law_offset; refine SB_cons ?_ ?_; refine SX_ret ?_; refine SE_if ?_ ?_ ?_; refine ST_cmp ?_ ?_ ?_; refine SE_bin ?_ ?_; refine SE_bin ?_ ?_; refine SE_name (n := 109) ?_; exact rfl; exact SE_int; exact SE_int; exact SE_int; exact rfl; refine SE_bin ?_ ?_; refine SE_bin ?_ ?_; exact SE_int; refine SE_bin ?_ ?_; refine SE_name (n := 109) ?_; exact rfl; exact SE_int; refine SE_bin ?_ ?_; exact SE_int; refine SE_bin ?_ ?_; refine SE_bin ?_ ?_; refine SE_name (n := 109) ?_; exact rfl; exact SE_int; exact SE_int; refine SE_bin ?_ ?_; refine SE_name (n := 109) ?_; exact rfl; exact SE_int; exact SB_nil
@[irreducible] noncomputable def w__law_program : WX := (wSeq (wOwn 113 (wList (wAc (wInt 165) (wAc (wInt 25) (wAc (wInt 208) (wAc (wInt 3) (wAc (wInt 76) (wAc (wInt 88) (wAc (wInt 2) (wAc (wInt 133) (wAc (wInt 21) (wAc (wInt 165) (wAc (wInt 24) (wAc (wInt 133) (wAc (wInt 20) wA0))))))))))))))) (wSeq (wAuL 113 (wFrz (wList (wAc (wInt 160) (wAc (wInt 1) (wAc (wInt 177) (wAc (wInt 20) (wAc (wInt 133) (wAc (wInt 24) (wAc (wInt 200) (wAc (wInt 177) (wAc (wInt 20) (wAc (wInt 133) (wAc (wInt 25) (wAc (wInt 169) (wAc (wInt 25) (wAc (wInt 133) (wAc (wInt 18) (wAc (wInt 169) (wAc (wInt 0) (wAc (wInt 133) (wAc (wInt 19) wA0)))))))))))))))))))))) (wSeq (wOwn 114 (wList (wAc (wInt 160) (wAc (wInt 2) (wAc (wInt 177) (wAc (wInt 18) (wAc (wInt 240) (wAc (wInt 33) (wAc (wInt 133) (wAc (wInt 23) (wAc (wInt 136) (wAc (wInt 177) (wAc (wInt 18) (wAc (wInt 133) (wAc (wInt 22) wA0))))))))))))))) (wSeq (wAuL 114 (wFrz (wList (wAc (wInt 160) (wAc (wInt 0) (wAc (wInt 177) (wAc (wInt 22) (wAc (wInt 73) (wAc (wName 104) (wAc (wInt 133) (wAc (wInt 28) (wAc (wInt 177) (wAc (wInt 20) (wAc (wInt 73) (wAc (wName 104) (wAc (wInt 197) (wAc (wInt 28) (wAc (wInt 144) (wAc (wInt 10) wA0))))))))))))))))))) (wSeq (wAuL 114 (wFrz (wList (wAc (wInt 165) (wAc (wInt 22) (wAc (wInt 133) (wAc (wInt 18) (wAc (wInt 165) (wAc (wInt 23) (wAc (wInt 133) (wAc (wInt 19) (wAc (wInt 208) (wAc (wInt 217) wA0))))))))))))) (wSeq (wOwn 115 (wList (wAc (wInt 160) (wAc (wInt 1) (wAc (wInt 177) (wAc (wInt 18) (wAc (wInt 145) (wAc (wInt 20) (wAc (wInt 165) (wAc (wInt 20) (wAc (wInt 145) (wAc (wInt 18) (wAc (wInt 200) (wAc (wInt 177) (wAc (wInt 18) (wAc (wInt 145) (wAc (wInt 20) (wAc (wInt 165) (wAc (wInt 21) (wAc (wInt 145) (wAc (wInt 18) (wAc (wInt 76) wA0)))))))))))))))))))))) (wSeq (wRet (wFrz (wCat (wFrz (wCat (wFrz (wCat (wName 113) (wName 114))) (wName 115))) (wFrz (wCall 1439 (wAc (wName 111) wA0)))))) wNil)))))))
theorem s__law_program {G : Gl nm Z2} : SB G (sScope (pst 7)) (sBody (pst 7)) w__law_program := by unfold w__law_program; refine SB_cons ?_ ?_; refine SX_own (n := 113) ?_ ?_ ?_ ?_; refine S0_list ?_; refine SA_cons ?_ ?_ ?_; exact SE_int; refine SA_cons ?_ ?_ ?_; exact SE_int; refine SA_cons ?_ ?_ ?_; exact SE_int; refine SA_cons ?_ ?_ ?_; exact SE_int; refine SA_cons ?_ ?_ ?_; exact SE_int; refine SA_cons ?_ ?_ ?_; exact SE_int; refine SA_cons ?_ ?_ ?_; exact SE_int; refine SA_cons ?_ ?_ ?_; exact SE_int; refine SA_cons ?_ ?_ ?_; exact SE_int; refine SA_cons ?_ ?_ ?_; exact SE_int; refine SA_cons ?_ ?_ ?_; exact SE_int; refine SA_cons ?_ ?_ ?_; exact SE_int; refine SA_cons ?_ ?_ ?_; exact SE_int; exact SA_nil; exact (fun _ => rfl); exact (fun _ => rfl); exact (fun _ => rfl); exact (fun _ => rfl); exact (fun _ => rfl); exact (fun _ => rfl); exact (fun _ => rfl); exact (fun _ => rfl); exact (fun _ => rfl); exact (fun _ => rfl); exact (fun _ => rfl); exact (fun _ => rfl); exact (fun _ => rfl); exact rfl; exact (.inl (by kernel_rfl)); exact (fun _ => rfl); refine SB_cons ?_ ?_; refine SX_auL (n := 113) ?_ ?_ ?_; refine SE_frz ?_; refine S0_list ?_; refine SA_cons ?_ ?_ ?_; exact SE_int; refine SA_cons ?_ ?_ ?_; exact SE_int; refine SA_cons ?_ ?_ ?_; exact SE_int; refine SA_cons ?_ ?_ ?_; exact SE_int; refine SA_cons ?_ ?_ ?_; exact SE_int; refine SA_cons ?_ ?_ ?_; exact SE_int; refine SA_cons ?_ ?_ ?_; exact SE_int; refine SA_cons ?_ ?_ ?_; exact SE_int; refine SA_cons ?_ ?_ ?_; exact SE_int; refine SA_cons ?_ ?_ ?_; exact SE_int; refine SA_cons ?_ ?_ ?_; exact SE_int; refine SA_cons ?_ ?_ ?_; exact SE_int; refine SA_cons ?_ ?_ ?_; exact SE_int; refine SA_cons ?_ ?_ ?_; exact SE_int; refine SA_cons ?_ ?_ ?_; exact SE_int; refine SA_cons ?_ ?_ ?_; exact SE_int; refine SA_cons ?_ ?_ ?_; exact SE_int; refine SA_cons ?_ ?_ ?_; exact SE_int; refine SA_cons ?_ ?_ ?_; exact SE_int; exact SA_nil; exact (fun _ => rfl); exact (fun _ => rfl); exact (fun _ => rfl); exact (fun _ => rfl); exact (fun _ => rfl); exact (fun _ => rfl); exact (fun _ => rfl); exact (fun _ => rfl); exact (fun _ => rfl); exact (fun _ => rfl); exact (fun _ => rfl); exact (fun _ => rfl); exact (fun _ => rfl); exact (fun _ => rfl); exact (fun _ => rfl); exact (fun _ => rfl); exact (fun _ => rfl); exact (fun _ => rfl); exact (fun _ => rfl); exact rfl; exact (.inl (by kernel_rfl)); refine SB_cons ?_ ?_; refine SX_own (n := 114) ?_ ?_ ?_ ?_; refine S0_list ?_; refine SA_cons ?_ ?_ ?_; exact SE_int; refine SA_cons ?_ ?_ ?_; exact SE_int; refine SA_cons ?_ ?_ ?_; exact SE_int; refine SA_cons ?_ ?_ ?_; exact SE_int; refine SA_cons ?_ ?_ ?_; exact SE_int; refine SA_cons ?_ ?_ ?_; exact SE_int; refine SA_cons ?_ ?_ ?_; exact SE_int; refine SA_cons ?_ ?_ ?_; exact SE_int; refine SA_cons ?_ ?_ ?_; exact SE_int; refine SA_cons ?_ ?_ ?_; exact SE_int; refine SA_cons ?_ ?_ ?_; exact SE_int; refine SA_cons ?_ ?_ ?_; exact SE_int; refine SA_cons ?_ ?_ ?_; exact SE_int; exact SA_nil; exact (fun _ => rfl); exact (fun _ => rfl); exact (fun _ => rfl); exact (fun _ => rfl); exact (fun _ => rfl); exact (fun _ => rfl); exact (fun _ => rfl); exact (fun _ => rfl); exact (fun _ => rfl); exact (fun _ => rfl); exact (fun _ => rfl); exact (fun _ => rfl); exact (fun _ => rfl); exact rfl; exact (.inl (by kernel_rfl)); exact (fun _ => rfl); refine SB_cons ?_ ?_; refine SX_auL (n := 114) ?_ ?_ ?_; refine SE_frz ?_; refine S0_list ?_; refine SA_cons ?_ ?_ ?_; exact SE_int; refine SA_cons ?_ ?_ ?_; exact SE_int; refine SA_cons ?_ ?_ ?_; exact SE_int; refine SA_cons ?_ ?_ ?_; exact SE_int; refine SA_cons ?_ ?_ ?_; exact SE_int; refine SA_cons ?_ ?_ ?_; refine SE_name (n := 104) ?_; exact rfl; refine SA_cons ?_ ?_ ?_; exact SE_int; refine SA_cons ?_ ?_ ?_; exact SE_int; refine SA_cons ?_ ?_ ?_; exact SE_int; refine SA_cons ?_ ?_ ?_; exact SE_int; refine SA_cons ?_ ?_ ?_; exact SE_int; refine SA_cons ?_ ?_ ?_; refine SE_name (n := 104) ?_; exact rfl; refine SA_cons ?_ ?_ ?_; exact SE_int; refine SA_cons ?_ ?_ ?_; exact SE_int; refine SA_cons ?_ ?_ ?_; exact SE_int; refine SA_cons ?_ ?_ ?_; exact SE_int; exact SA_nil; exact (fun _ => rfl); exact (fun _ => rfl); exact (fun _ => rfl); exact (fun _ => rfl); exact (fun _ => rfl); exact (fun _ => rfl); exact (fun _ => rfl); exact (fun _ => rfl); exact (fun _ => rfl); exact (fun _ => rfl); exact (fun _ => rfl); exact (fun _ => rfl); exact (fun _ => rfl); exact (fun _ => rfl); exact (fun _ => rfl); exact (fun _ => rfl); exact rfl; exact (.inl (by kernel_rfl)); refine SB_cons ?_ ?_; refine SX_auL (n := 114) ?_ ?_ ?_; refine SE_frz ?_; refine S0_list ?_; refine SA_cons ?_ ?_ ?_; exact SE_int; refine SA_cons ?_ ?_ ?_; exact SE_int; refine SA_cons ?_ ?_ ?_; exact SE_int; refine SA_cons ?_ ?_ ?_; exact SE_int; refine SA_cons ?_ ?_ ?_; exact SE_int; refine SA_cons ?_ ?_ ?_; exact SE_int; refine SA_cons ?_ ?_ ?_; exact SE_int; refine SA_cons ?_ ?_ ?_; exact SE_int; refine SA_cons ?_ ?_ ?_; exact SE_int; refine SA_cons ?_ ?_ ?_; exact SE_int; exact SA_nil; exact (fun _ => rfl); exact (fun _ => rfl); exact (fun _ => rfl); exact (fun _ => rfl); exact (fun _ => rfl); exact (fun _ => rfl); exact (fun _ => rfl); exact (fun _ => rfl); exact (fun _ => rfl); exact (fun _ => rfl); exact rfl; exact (.inl (by kernel_rfl)); refine SB_cons ?_ ?_; refine SX_own (n := 115) ?_ ?_ ?_ ?_; refine S0_list ?_; refine SA_cons ?_ ?_ ?_; exact SE_int; refine SA_cons ?_ ?_ ?_; exact SE_int; refine SA_cons ?_ ?_ ?_; exact SE_int; refine SA_cons ?_ ?_ ?_; exact SE_int; refine SA_cons ?_ ?_ ?_; exact SE_int; refine SA_cons ?_ ?_ ?_; exact SE_int; refine SA_cons ?_ ?_ ?_; exact SE_int; refine SA_cons ?_ ?_ ?_; exact SE_int; refine SA_cons ?_ ?_ ?_; exact SE_int; refine SA_cons ?_ ?_ ?_; exact SE_int; refine SA_cons ?_ ?_ ?_; exact SE_int; refine SA_cons ?_ ?_ ?_; exact SE_int; refine SA_cons ?_ ?_ ?_; exact SE_int; refine SA_cons ?_ ?_ ?_; exact SE_int; refine SA_cons ?_ ?_ ?_; exact SE_int; refine SA_cons ?_ ?_ ?_; exact SE_int; refine SA_cons ?_ ?_ ?_; exact SE_int; refine SA_cons ?_ ?_ ?_; exact SE_int; refine SA_cons ?_ ?_ ?_; exact SE_int; refine SA_cons ?_ ?_ ?_; exact SE_int; exact SA_nil; exact (fun _ => rfl); exact (fun _ => rfl); exact (fun _ => rfl); exact (fun _ => rfl); exact (fun _ => rfl); exact (fun _ => rfl); exact (fun _ => rfl); exact (fun _ => rfl); exact (fun _ => rfl); exact (fun _ => rfl); exact (fun _ => rfl); exact (fun _ => rfl); exact (fun _ => rfl); exact (fun _ => rfl); exact (fun _ => rfl); exact (fun _ => rfl); exact (fun _ => rfl); exact (fun _ => rfl); exact (fun _ => rfl); exact (fun _ => rfl); exact rfl; exact (.inl (by kernel_rfl)); exact (fun _ => rfl); refine SB_cons ?_ ?_; refine SX_ret ?_; refine SE_frz ?_; refine S0_cat ?_ ?_; refine SE_frz ?_; refine S0_cat ?_ ?_; refine SE_frz ?_; refine S0_cat ?_ ?_; refine SE_name (n := 113) ?_; exact rfl; refine SE_name (n := 114) ?_; exact rfl; refine SE_name (n := 115) ?_; exact rfl; refine SE_frz ?_; refine S0_call (f := 1439) (n := 103) ?_ ?_ ?_ ?_ ?_; exact (getN_mem rfl); refine SA_cons ?_ ?_ ?_; refine SE_name (n := 111) ?_; exact rfl; exact SA_nil; exact (fun _ => rfl); exact rfl; exact (by kernel_rfl); exact (fun _ => rfl); exact SB_nil
noncomputable def T2L : Defs := (1439, [102], w__law_word) :: (1444, [79, 104], w__law_key) :: (1451, [109], w__law_offset) :: (1458, [104, 111], w__law_program) :: T2
end VE
namespace VE
open M6
open Builtin (bitAnd bitOr bitXor bitNot)
noncomputable abbrev ML : Nat := 65536
/-- A plain view of the machine. -/
structure Rg where
  pc : Nat
  sp : Nat
  a : Nat
  x : Nat
  y : Nat
  f : Fg
  m : Nat → Nat
/-- What the law's other objects are, as the machine runs. -/
structure Oth where
  o0 : VO
  o2 : VO
noncomputable def fsR (adv : VV) (ex cy spc : Int) (pc sp a x y p : Int) : List (Nat × VV) :=
  [(1, .p .any), (2, .p (.int 255)), (3, .p (.int 65535)), (4, .p (.int 65280)), (5, .p (.int 256)), (6, .p (.int ex)), (7, adv), (8, .p (.int cy)), (9, .ref 1), (10, .p (.int spc)), (11, .p (.int pc)), (12, .p (.int sp)), (13, .p (.int a)), (14, .p (.int x)), (15, .p (.int y)), (16, .p (.int p))]
noncomputable def hpA (o : Oth) (adv : VV) (ex cy spc : Int) (pc sp a x y p : Int) (m : List PV) : List VO := [o.o0, .list m, o.o2, .inst (fsR adv ex cy spc pc sp a x y p)]
/-- What of the machine no one asks. -/
structure Jk where
  ex : Int
  ad : Int
  cy : Int
  spc : Int
noncomputable abbrev hpR (o : Oth) (j : Jk) (pc sp a x y p : Int) (m : List PV) : List VO := hpA o (.p (.int j.ad)) j.ex j.cy j.spc pc sp a x y p m
noncomputable def hpM (o : Oth) (adv : VV) (ex cy spc : Int) (r : Rg) : List VO := hpA o adv ex cy spc r.pc r.sp r.a r.x r.y (pI r.f) (ml ML r.m)
/-- One step of the machine leads from r to r'. -/
structure Stp (r r' : Rg) : Prop where
  run : ∀ o adv ex cy spc Q, (∀ adv ex cy spc, Q (.val (.ref 3)) (hpM o adv ex cy spc r')) → callsOf T2L 40 43 [.ref 3] (hpM o adv ex cy spc r) Q
theorem callI {T : Defs} {d : Nat} {f : Addr} {as : List VV} {hp : List VO} {Q : Rs → List VO → Prop} {ns : List Nat} {b : WX} (e : getN f T = some (ns, b)) (q : gd (Nat.beq as.length ns.length) (b (callsOf T d) ⟨ns.zip as, hp⟩ fun fl τ' => retW hp.length τ'.hp (retv fl) Q)) : callsOf T (d + 1) f as hp Q := by
  rw [callsOf_s]
  show (match getN f T with | some (ns, b) => _ | none => _)
  rw [e]; exact q
theorem hp_fin {o : Oth} {P : List VO → Prop} {j j' : Jk} {pc sp a x y p pc' sp' a' x' y' p' : Int} {m m' : List PV} (h : P (hpR o j' pc' sp' a' x' y' p' m')) (e0 : j = j') (e1 : pc = pc') (e2 : sp = sp') (e3 : a = a') (e4 : x = x') (e5 : y = y') (e6 : p = p') (e7 : m = m') :
    P (hpR o j pc sp a x y p m) := by
  subst e0 e1 e2 e3 e4 e5 e6 e7
  exact h
/-- The same, whatever of the rest no one asks. -/
theorem hp_fj {o : Oth} {P : List VO → Prop} {j : Jk} {pc sp a x y p pc' sp' a' x' y' p' : Int} {m m' : List PV} (h : ∀ j', P (hpR o j' pc' sp' a' x' y' p' m')) (e1 : pc = pc') (e2 : sp = sp') (e3 : a = a') (e4 : x = x') (e5 : y = y') (e6 : p = p') (e7 : m = m') :
    P (hpR o j pc sp a x y p m) := by
  subst e1 e2 e3 e4 e5 e6 e7
  exact h j
noncomputable def tabL (n : Nat) : List PV := match getN n Z2.tabs with
  | some l => l
  | none => []
theorem fn_of {f : Addr} {Q : Addr → Prop} (h : ∀ P : Addr → Prop, P f → fnV Z2 (.p (.fn f)) P) (q : Q f) : fnV Z2 (.p (.fn f)) Q := h Q q
theorem pcN {T : Defs} {d : Nat} {f : Addr} {as : List VV} {Q : Rs → List VO → Prop} {o : Oth} {j : Jk} {pc sp a x y p : Int} {m : List PV} {n : Nat} (e : pc = (n : Int)) (h : callsOf T d f as (hpR o j (n : Int) sp a x y p m) Q) : callsOf T d f as (hpR o j pc sp a x y p m) Q := by rw [e]; exact h
/-- An address's method gives k. -/
noncomputable def Adr (o : Oth) (f : Addr) (pc sp a x y p : Int) (m : List PV) (k : Nat) : Prop := ∀ d j Q, (∀ j', Q (.val (.p (.int (k : Int)))) (hpR o j' pc sp a x y p m)) → callsOf T2L (d + 6) f [.ref 3] (hpR o j pc sp a x y p m) Q
/-- An op with an address leads to a state. -/
noncomputable def Op (o : Oth) (f : Addr) (as : List VV) (pc sp a x y p : Int) (m : List PV) (pc' sp' a' x' y' p' : Int) (m' : List PV) : Prop := ∀ d j Q, (∀ j', Q (.val (.p .none)) (hpR o j' pc' sp' a' x' y' p' m')) → callsOf T2L (d + 12) f (.ref 3 :: as) (hpR o j pc sp a x y p m) Q
theorem stp_of {n n2 sp sp2 a x y a2 x2 y2 : Nat} {f f2 : Fg} {pc2 : Int} {m m2 : Nat → Nat} {op : Nat} {fn : Addr} {ex cy : Int} (e1 : pick (tabL 32) (op : Int) = some (.int ex)) (e2 : pick (tabL 30) (op : Int) = some (.fn fn)) (e3 : pick (tabL 31) (op : Int) = some (.int cy)) (eo : idxOk (op : Int))
    (ef : ∀ P : Addr → Prop, P fn → fnV Z2 (.p (.fn fn)) P) (hn : n + 4 < ML) (h0 : m n = op) (hpc : bitAnd pc2 65535 = (n2 : Int))
    (run : ∀ o j Q, (∀ j', Q (.val (.p .none)) (hpR o j' pc2 (sp2 : Int) a2 x2 y2 (pI f2) (ml ML m2))) → callsOf T2L 39 fn [.ref 3] (hpR o j ((n + 1 : Nat) : Int) (sp : Int) a x y (pI f) (ml ML m)) Q) :
    Stp ⟨n, sp, a, x, y, f, m⟩ ⟨n2, sp2, a2, x2, y2, f2, m2⟩ := by
  refine ⟨fun o adv ex0 cy0 spc Q h => ?_⟩
  have hm : n < ML := Nat.lt_of_le_of_lt (Nat.le_add_right n 4) hn
  have hn' : n < 65536 := hm
  have hn2 : n + 1 < 65536 := Nat.lt_of_le_of_lt (Nat.add_le_add_left (by decide) n) hn
  refine callI rfl ?_
  refine And.intro (iOk (n := n) hn') (Exists.intro _ (Exists.intro _ (And.intro rfl (And.intro (ml_atV (k := n) (v := op) hm h0) ?_))))
  refine And.intro eo (Exists.intro _ (Exists.intro _ (And.intro rfl (And.intro e1 ?_))))
  refine And.intro eo (Exists.intro _ (Exists.intro _ (And.intro rfl (And.intro e2 ?_))))
  refine fn_of ef ?_
  refine pcN (n := n + 1) (j := ⟨0, ex, cy0, spc⟩) (wrapE (n := n + 1) rfl hn2) ?_
  refine run o _ _ fun j' => ?_
  refine And.intro eo (Exists.intro _ (Exists.intro _ (And.intro rfl (And.intro e3 ?_))))
  refine Or.inl (And.intro rfl ?_)
  exact hp_fin (P := Q (.val (.ref 3))) (j := ⟨j'.ex, j'.ad, j'.cy + (cy + j'.ex), j'.spc⟩) (j' := ⟨j'.ex, j'.ad, j'.cy + (cy + j'.ex), j'.spc⟩) (h (.p (.int j'.ad)) j'.ex (j'.cy + (cy + j'.ex)) j'.spc) rfl hpc rfl rfl rfl rfl rfl rfl
section
variable {d n sp k : Nat} {o : Oth} {j : Jk} {pc a x y p v : Int} {m : Nat → Nat} {f : Fg} {Q : Rs → List VO → Prop}
theorem flz_c {spI : Int} {mm : List PV} (hk : k < 256) (h : Q (.val (.p .none)) (hpR o j pc spI a x y (pI (f.nz k)) mm)) : callsOf T2L (d + 1) 197 [.ref 3, .p (.int (k : Int))] (hpR o j pc spI a x y (pI f) mm) Q := by
  refine callI rfl ?_
  cases hc : ((k : Int) == 0)
  · refine brF hc ?_
    refine Or.inl (And.intro rfl ?_)
    exact hp_fin (P := Q (.val (.p .none))) h rfl rfl rfl rfl rfl rfl (by rw [pNZ0, pOrN hk rfl]; rw [te] at hc; unfold Fg.nz; rw [hc]) rfl
  · refine brT hc ?_
    refine Or.inl (And.intro rfl ?_)
    exact hp_fin (P := Q (.val (.p .none))) h rfl rfl rfl rfl rfl rfl (by rw [te] at hc; have := Nat.eq_of_beq_eq_true hc; subst this; rw [pNZ0, pSetZ]; rfl) rfl
theorem byte_c {spI : Int} (hn : n < ML) (h : Q (.val (.p (.int (m n : Int)))) (hpR o j pc spI a x y p (ml ML m))) : callsOf T2L (d + 1) 71 [.ref 3, .p (.int (n : Int))] (hpR o j pc spI a x y p (ml ML m)) Q := by
  refine callI rfl ?_
  refine And.intro (iOk (n := n) (Nat.lt_of_lt_of_le hn (by decide))) (Exists.intro _ (Exists.intro _ (And.intro rfl (And.intro (ml_at hn) ?_))))
  refine Or.inl (And.intro rfl ?_)
  exact h
theorem byte_e {spI z : Int} (e : z = (n : Int)) (hn : n < ML) (h : Q (.val (.p (.int (m n : Int)))) (hpR o j pc spI a x y p (ml ML m))) : callsOf T2L (d + 1) 71 [.ref 3, .p (.int z)] (hpR o j pc spI a x y p (ml ML m)) Q := by
  rw [e]; exact byte_c hn h
theorem word_c {spI : Int} (hn : n + 1 < ML) (hb : m (n + 1) < 256) (h : Q (.val (.p (.int ((m n + m (n + 1) * 256 : Nat) : Int)))) (hpR o j pc spI a x y p (ml ML m))) : callsOf T2L (d + 2) 78 [.ref 3, .p (.int (n : Int))] (hpR o j pc spI a x y p (ml ML m)) Q := by
  refine callI rfl ?_
  refine byte_c (by (exact qq1 [_,_] [1] 1 0x608045 1 0x3040208045 qt hn)) ?_
  refine byte_c (n := n + 1) hn ?_
  refine And.intro (bits8 (by (exact qq1 [_] [1,65536,256] 1 0x2208045 1 0x4208045 qt hb))) ?_
  refine Or.inl (And.intro rfl ?_)
  rw [← wadd] at h
  exact h
theorem pc_a (hn : n < ML) {spI : Int} {mm : List PV} : Adr o 92 (n : Int) spI a x y p mm n := fun d j Q h => by
  refine callI rfl ?_
  refine Or.inl (And.intro rfl ?_)
  exact h j
theorem zp_a (hn : n < ML) {spI : Int} : Adr o 106 (n : Int) spI a x y p (ml ML m) (m n) := fun d j Q h => by
  refine callI rfl ?_
  refine byte_c hn ?_
  refine Or.inl (And.intro rfl ?_)
  exact h j
theorem hi0 : ∀ k : Nat, k < 256 → bitAnd (k : Int) 65280 = 0 := by decide +kernel
theorem wrap_c {spI : Int} (hk : k + 1 < 256) (hb : m (k + 1) < 256) (h : Q (.val (.p (.int ((m k + m (k + 1) * 256 : Nat) : Int)))) (hpR o j pc spI a x y p (ml ML m))) : callsOf T2L (d + 2) 85 [.ref 3, .p (.int (k : Int))] (hpR o j pc spI a x y p (ml ML m)) Q := by
  have hL : 512 ≤ ML := by decide
  have e : bitAnd (k : Int) 65280 + bitAnd ((k : Int) + 1) 255 = ((k + 1 : Nat) : Int) := by
    rw [hi0 k (by (exact qq1 [_] [1,256] 1 0x2208045 1 0x11040208045 qt hk)), show (k : Int) + 1 = ((k + 1 : Nat) : Int) from rfl, and8 hk]; (exact qGc (Nat.le_antisymm (qq0 [_] [0,1] 0x4222842111402 qt) (qq0 [_] [1,0] 0x4201142208045 qt)))
  refine callI rfl ?_
  refine byte_c (by (exact qq2 [_,_] [1,256,512] 1 0x608045 1 0x11040208045 1 0x1842 qt hk hL)) ?_
  refine Or.inl (And.intro rfl ?_)
  refine byte_e (n := k + 1) e (by (exact qq2 [_,_] [1,256,512] 1 0x3040208045 1 0x11040208045 1 0x1842 qt hk hL)) ?_
  refine And.intro (bits8 (by (exact qq1 [_] [1,65536,256] 1 0x2208045 1 0x4208045 qt hb))) ?_
  refine Or.inl (And.intro rfl ?_)
  rw [← wadd] at h
  exact h
theorem indy_a {i z : Nat} (hn : n < ML) (hz : m n = z) (hz8 : z + 1 < 256) (hb : m (z + 1) < 256) (hk : m z + m (z + 1) * 256 + i < 65536) {spI : Int} : Adr o 134 (n : Int) spI a x (i : Int) p (ml ML m) (m z + m (z + 1) * 256 + i) := fun d j Q h => by
  subst hz
  have e : bitAnd (((m (m n) + m (m n + 1) * 256 : Nat) : Int) + (i : Int)) 65535 = ((m (m n) + m (m n + 1) * 256 + i : Nat) : Int) := wrapE addE hk
  refine callI rfl ?_
  cases ha : (j.ad != 0)
  · refine brF ha ?_
    refine byte_c hn ?_
    refine wrap_c hz8 hb ?_
    refine Or.inl (And.intro rfl ?_)
    rw [← e] at h
    exact h j
  · refine brT ha ?_
    refine byte_c hn ?_
    refine wrap_c hz8 hb ?_
    cases hc : (!(bitAnd ((m (m n) + m (m n + 1) * 256 : Nat) : Int) 65280 == bitAnd (bitAnd (((m (m n) + m (m n + 1) * 256 : Nat) : Int) + (i : Int)) 65535) 65280))
    · refine brF hc ?_
      refine Or.inl (And.intro rfl ?_)
      rw [← e] at h
      exact h j
    · refine brT hc ?_
      refine Or.inl (And.intro rfl ?_)
      rw [← e] at h
      exact h ⟨j.ex + 1, j.ad, j.cy, j.spc⟩
theorem lda_o {g : Addr} {spI : Int} (hA : Adr o g pc spI a x y (pI f) (ml ML m) k) (hk : k < ML) (hv : m k < 256) : Op o 344 [.meth g 3] pc spI a x y (pI f) (ml ML m) pc spI (m k) x y (pI (f.nz (m k))) (ml ML m) := fun d j Q h => by
  refine callI rfl ?_
  refine hA _ _ _ fun j' => ?_
  refine byte_c hk ?_
  refine flz_c hv ?_
  refine Or.inl (And.intro rfl ?_)
  exact h j'
theorem sta_o {g : Addr} {spI : Int} {v : Nat} (hA : Adr o g pc spI (v : Int) x y (pI f) (ml ML m) k) (hk : k < ML) : Op o 295 [.meth g 3] pc spI (v : Int) x y (pI f) (ml ML m) pc spI (v : Int) x y (pI f) (ml ML (upd m k v)) := fun d j Q h => by
  refine callI rfl ?_
  refine hA _ _ _ fun j' => ?_
  refine And.intro (stE (n := k) rfl hk (by decide)) ?_
  refine Or.inl (And.intro rfl ?_)
  exact hp_fin (P := Q (.val (.p .none))) (h j') rfl rfl rfl rfl rfl rfl rfl (ml_setE (n := k) rfl rfl hk)
theorem cmp_o {g : Addr} {spI : Int} {r : Nat} (hA : Adr o g pc spI a x y (pI f) (ml ML m) k) (hk : k < ML) (hv : m k < 256) (hr : r < 256) : Op o 316 [.meth g 3, .p (.int (r : Int))] pc spI a x y (pI f) (ml ML m) pc spI a x y (pI (f.cp r (m k))) (ml ML m) := fun d j Q h => by
  refine callI rfl ?_
  refine hA _ _ _ fun j' => ?_
  refine byte_c hk ?_
  refine brB (fun h1 => ?_) (fun h1 => ?_)
  · refine Or.inl (And.intro rfl ?_)
    exact hp_fin (P := Q (.val (.p .none))) (h j') rfl rfl rfl rfl rfl rfl (cmp_1 hr hv h1) rfl
  · refine brB (fun h2 => ?_) (fun h2 => ?_)
    · refine Or.inl (And.intro rfl ?_)
      exact hp_fin (P := Q (.val (.p .none))) (h j') rfl rfl rfl rfl rfl rfl (cmp_2 hr hv h1 h2) rfl
    · refine Or.inl (And.intro rfl ?_)
      exact hp_fin (P := Q (.val (.p .none))) (h j') rfl rfl rfl rfl rfl rfl (cmp_3 hr hv h1 h2) rfl
theorem flz_e {spI v' p' : Int} {mm : List PV} (e1 : v' = (k : Int)) (e2 : p' = pI f) (hk : k < 256) (h : Q (.val (.p .none)) (hpR o j pc spI a x y (pI (f.nz k)) mm)) : callsOf T2L (d + 1) 197 [.ref 3, .p (.int v')] (hpR o j pc spI a x y p' mm) Q := by
  rw [e1, e2]; exact flz_c hk h
theorem orN (a b : Nat) : bitOr (a : Int) (b : Int) = ((a ||| b : Nat) : Int) := by
  have h (n : Nat) : decide (0 ≤ bitNot (n : Int)) = false := by unfold Builtin.bitNot; exact decide_eq_false (by omega)
  have k (z : Int) : bitNot (bitNot z) = z := by unfold Builtin.bitNot; omega
  unfold Builtin.bitOr Builtin.bitAnd
  rw [h, h]; simp only [k]; rfl
noncomputable def xr (a b : Nat) : Nat := (a ||| b) - (a &&& b)
theorem xrN (a b : Nat) : bitXor (a : Int) (b : Int) = ((xr a b : Nat) : Int) := by
  have h : a &&& b ≤ a ||| b := Nat.le_trans Nat.and_le_left Nat.left_le_or
  unfold Builtin.bitXor
  rw [orN]
  show ((a ||| b : Nat) : Int) - ((a &&& b : Nat) : Int) = _
  unfold xr; omega
theorem xr_lt {a b : Nat} (ha : a < 256) (hb : b < 256) : xr a b < 256 := Nat.lt_of_le_of_lt (Nat.sub_le _ _) (Nat.or_lt_two_pow (n := 8) ha hb)
theorem eor_o {g : Addr} {spI : Int} {v : Nat} (hA : Adr o g pc spI (v : Int) x y (pI f) (ml ML m) k) (hk : k < ML) (hv : m k < 256) (hr : v < 256) : Op o 274 [.meth g 3] pc spI (v : Int) x y (pI f) (ml ML m) pc spI ((xr v (m k) : Nat) : Int) x y (pI (f.nz (xr v (m k)))) (ml ML m) := fun d j Q h => by
  refine callI rfl ?_
  refine hA _ _ _ fun j' => ?_
  refine byte_c hk ?_
  refine flz_e (k := xr v (m k)) (xrN _ _) rfl (xr_lt hr hv) ?_
  refine Or.inl (And.intro rfl ?_)
  exact hp_fin (P := Q (.val (.p .none))) (h j') rfl rfl rfl (xrN _ _) rfl rfl rfl rfl
theorem imm_c {spI : Int} (hn : n < ML) (h : Q (.val (.p (.int (m n : Int)))) (hpR o j (n : Int) spI a x y p (ml ML m))) : callsOf T2L (d + 2) 99 [.ref 3] (hpR o j (n : Int) spI a x y p (ml ML m)) Q := by
  refine callI rfl ?_
  refine byte_c hn ?_
  refine Or.inl (And.intro rfl ?_)
  exact h
theorem bra_o {z t : Nat} {spI : Int} (hn : n < ML) (hz : m n = z) (hz8 : z < 256) (ht : z < 128 ∧ t = n + 1 + z ∨ 128 ≤ z ∧ t + 256 = n + 1 + z) (htb : t < 65536) (h : ∀ j', Q (.val (.p .none)) (hpR o j' (t : Int) spI a x y p (ml ML m))) : callsOf T2L (d + 8) 162 [.ref 3] (hpR o j (n : Int) spI a x y p (ml ML m)) Q := by
  subst hz
  refine callI rfl ?_
  refine imm_c (j := ⟨j.ex + 1, j.ad, j.cy, j.spc⟩) hn ?_
  refine brB (fun h1 => ?_) (fun h1 => ?_)
  · rw [t128 hz8] at h1
    have h1 := Nat.le_of_ble_eq_true h1
    have e : bitAnd ((n : Int) + 1 - bitXor (m n : Int) 255 - 1) 65535 = (t : Int) := wrapE (by rw [xor255 _ hz8]; omega) htb
    refine brB (fun h2 => ?_) (fun h2 => ?_)
    all_goals refine Or.inl (And.intro rfl ?_)
    · exact hp_fj (P := Q (.val (.p .none))) (j := ⟨j.ex + 1 + 1, j.ad, j.cy, j.spc⟩) h e rfl rfl rfl rfl rfl rfl
    · exact hp_fj (P := Q (.val (.p .none))) (j := ⟨j.ex + 1, j.ad, j.cy, j.spc⟩) h e rfl rfl rfl rfl rfl rfl
  · rw [t128 hz8] at h1
    have h1 : m n < 128 := by
      rcases Nat.lt_or_ge (m n) 128 with g | g
      · exact g
      · rw [Nat.ble_eq_true_of_le g] at h1; cases h1
    have e : bitAnd ((n : Int) + 1 + (m n : Int)) 65535 = (t : Int) := wrapE (by omega) htb
    refine brB (fun h2 => ?_) (fun h2 => ?_)
    all_goals refine Or.inl (And.intro rfl ?_)
    · exact hp_fj (P := Q (.val (.p .none))) (j := ⟨j.ex + 1 + 1, j.ad, j.cy, j.spc⟩) h e rfl rfl rfl rfl rfl rfl
    · exact hp_fj (P := Q (.val (.p .none))) (j := ⟨j.ex + 1, j.ad, j.cy, j.spc⟩) h e rfl rfl rfl rfl rfl rfl
theorem bcl_t {z t : Nat} {mk spI : Int} (hb : (bitAnd p mk != 0) = false) (hn : n < ML) (hz : m n = z) (hz8 : z < 256) (ht : z < 128 ∧ t = n + 1 + z ∨ 128 ≤ z ∧ t + 256 = n + 1 + z) (htb : t < 65536) : Op o 225 [.p (.int mk)] (n : Int) spI a x y p (ml ML m) (t : Int) spI a x y p (ml ML m) := fun d j Q h => by
  refine callI rfl ?_
  refine brF hb ?_
  refine bra_o hn hz hz8 ht htb fun j' => ?_
  refine Or.inl (And.intro rfl ?_)
  exact h j'
theorem bcl_n {mk spI : Int} {mm : List PV} (hb : (bitAnd p mk != 0) = true) : Op o 225 [.p (.int mk)] (n : Int) spI a x y p mm ((n + 1 : Nat) : Int) spI a x y p mm := fun d j Q h => by
  refine callI rfl ?_
  refine brT hb ?_
  refine Or.inl (And.intro rfl ?_)
  exact h j
theorem bst_t {z t : Nat} {mk spI : Int} (hb : (bitAnd p mk != 0) = true) (hn : n < ML) (hz : m n = z) (hz8 : z < 256) (ht : z < 128 ∧ t = n + 1 + z ∨ 128 ≤ z ∧ t + 256 = n + 1 + z) (htb : t < 65536) : Op o 232 [.p (.int mk)] (n : Int) spI a x y p (ml ML m) (t : Int) spI a x y p (ml ML m) := fun d j Q h => by
  refine callI rfl ?_
  refine brT hb ?_
  refine bra_o hn hz hz8 ht htb fun j' => ?_
  refine Or.inl (And.intro rfl ?_)
  exact h j'
theorem bst_n {mk spI : Int} {mm : List PV} (hb : (bitAnd p mk != 0) = false) : Op o 232 [.p (.int mk)] (n : Int) spI a x y p mm ((n + 1 : Nat) : Int) spI a x y p mm := fun d j Q h => by
  refine callI rfl ?_
  refine brF hb ?_
  refine Or.inl (And.intro rfl ?_)
  exact h j
theorem bnd {k : Nat} (h : k < ML) : k < 65536 := Nat.lt_of_lt_of_le h (by decide)
end
section
variable {n sp a x y : Nat} {f : Fg} {m : Nat → Nat}
theorem st_b1 (hn : n + 4 < ML) (h0 : m n = 177) {z k : Nat} (h1 : m (n + 1) = z) (hz8 : z + 1 < 256) (hb8 : m (z + 1) < 256) (ek : m z + m (z + 1) * 256 + y = k) (hk : k < ML) (hv : m k < 256) : Stp ⟨n, sp, a, x, y, f, m⟩ ⟨n + 2, sp, (m k), x, y, f.nz (m k), m⟩ := by
  have hb := bnd hn
  subst ek
  refine stp_of (op := 177) rfl rfl rfl (by decide) (fun P h => h) hn h0 (wrapE (n := n + 2) rfl (by first | (exact qq1 [_] [2,1,65536,4] 1 0x21042208045 1 0x21042208c45 qt hb) | assumption)) fun o j Q h => ?_
  refine callI rfl ?_
  refine lda_o (indy_a (n := n + 1) (by (exact qq1 [_,_] [1,4] 1 0x3040208045 1 0x3040208445 qt hn)) h1 hz8 hb8 (bnd hk)) hk hv _ _ _ fun j' => ?_
  refine Or.inl (And.intro rfl ?_)
  exact h j'
theorem st_91 (hn : n + 4 < ML) (h0 : m n = 145) {z k : Nat} (h1 : m (n + 1) = z) (hz8 : z + 1 < 256) (hb8 : m (z + 1) < 256) (ek : m z + m (z + 1) * 256 + y = k) (hk : k < ML) : Stp ⟨n, sp, a, x, y, f, m⟩ ⟨n + 2, sp, a, x, y, f, upd m k a⟩ := by
  have hb := bnd hn
  subst ek
  refine stp_of (op := 145) rfl rfl rfl (by decide) (fun P h => h) hn h0 (wrapE (n := n + 2) rfl (by first | (exact qq1 [_] [2,1,65536,4] 1 0x21042208045 1 0x21042208c45 qt hb) | assumption)) fun o j Q h => ?_
  refine callI rfl ?_
  refine sta_o (indy_a (n := n + 1) (by (exact qq1 [_,_] [1,4] 1 0x3040208045 1 0x3040208445 qt hn)) h1 hz8 hb8 (bnd hk)) hk _ _ _ fun j' => ?_
  refine Or.inl (And.intro rfl ?_)
  exact h j'
theorem st_49 (hn : n + 4 < ML) (h0 : m n = 73) {v : Nat} (h1 : m (n + 1) = v) (hv : v < 256) (ha : a < 256) : Stp ⟨n, sp, a, x, y, f, m⟩ ⟨n + 2, sp, xr a v, x, y, f.nz (xr a v), m⟩ := by
  have hb := bnd hn
  subst h1
  refine stp_of (op := 73) rfl rfl rfl (by decide) (fun P h => h) hn h0 (wrapE (n := n + 2) rfl (by first | (exact qq1 [_] [2,1,65536,4] 1 0x21042208045 1 0x21042208c45 qt hb) | assumption)) fun o j Q h => ?_
  refine callI rfl ?_
  refine eor_o (pc_a (n := n + 1) (by (exact qq1 [_,_] [1,4] 1 0x3040208045 1 0x3040208445 qt hn))) (by (exact qq1 [_,_] [1,4] 1 0x3040208045 1 0x3040208445 qt hn)) hv ha _ _ _ fun j' => ?_
  refine Or.inl (And.intro rfl ?_)
  exact h j'
theorem st_a9 (hn : n + 4 < ML) (h0 : m n = 169) {v : Nat} (h1 : m (n + 1) = v) (hv : v < 256) : Stp ⟨n, sp, a, x, y, f, m⟩ ⟨n + 2, sp, v, x, y, f.nz v, m⟩ := by
  have hb := bnd hn
  subst h1
  refine stp_of (op := 169) rfl rfl rfl (by decide) (fun P h => h) hn h0 (wrapE (n := n + 2) rfl (by first | (exact qq1 [_] [2,1,65536,4] 1 0x21042208045 1 0x21042208c45 qt hb) | assumption)) fun o j Q h => ?_
  refine callI rfl ?_
  refine lda_o (pc_a (n := n + 1) (by (exact qq1 [_,_] [1,4] 1 0x3040208045 1 0x3040208445 qt hn))) (by (exact qq1 [_,_] [1,4] 1 0x3040208045 1 0x3040208445 qt hn)) hv _ _ _ fun j' => ?_
  refine Or.inl (And.intro rfl ?_)
  exact h j'
theorem st_a5 (hn : n + 4 < ML) (h0 : m n = 165) {k : Nat} (h1 : m (n + 1) = k) (hk : k < ML) (hv : m k < 256) : Stp ⟨n, sp, a, x, y, f, m⟩ ⟨n + 2, sp, (m k), x, y, f.nz (m k), m⟩ := by
  have hb := bnd hn
  subst h1
  refine stp_of (op := 165) rfl rfl rfl (by decide) (fun P h => h) hn h0 (wrapE (n := n + 2) rfl (by first | (exact qq1 [_] [2,1,65536,4] 1 0x21042208045 1 0x21042208c45 qt hb) | assumption)) fun o j Q h => ?_
  refine callI rfl ?_
  refine lda_o (zp_a (n := n + 1) (by (exact qq1 [_,_] [1,4] 1 0x3040208045 1 0x3040208445 qt hn))) hk hv _ _ _ fun j' => ?_
  refine Or.inl (And.intro rfl ?_)
  exact h j'
theorem st_85 (hn : n + 4 < ML) (h0 : m n = 133) {k : Nat} (h1 : m (n + 1) = k) (hk : k < ML) : Stp ⟨n, sp, a, x, y, f, m⟩ ⟨n + 2, sp, a, x, y, f, upd m k a⟩ := by
  have hb := bnd hn
  subst h1
  refine stp_of (op := 133) rfl rfl rfl (by decide) (fun P h => h) hn h0 (wrapE (n := n + 2) rfl (by first | (exact qq1 [_] [2,1,65536,4] 1 0x21042208045 1 0x21042208c45 qt hb) | assumption)) fun o j Q h => ?_
  refine callI rfl ?_
  refine sta_o (zp_a (n := n + 1) (by (exact qq1 [_,_] [1,4] 1 0x3040208045 1 0x3040208445 qt hn))) hk _ _ _ fun j' => ?_
  refine Or.inl (And.intro rfl ?_)
  exact h j'
theorem st_c5 (hn : n + 4 < ML) (h0 : m n = 197) {k : Nat} (h1 : m (n + 1) = k) (hk : k < ML) (hv : m k < 256) (ha : a < 256) : Stp ⟨n, sp, a, x, y, f, m⟩ ⟨n + 2, sp, a, x, y, f.cp a (m k), m⟩ := by
  have hb := bnd hn
  subst h1
  refine stp_of (op := 197) rfl rfl rfl (by decide) (fun P h => h) hn h0 (wrapE (n := n + 2) rfl (by first | (exact qq1 [_] [2,1,65536,4] 1 0x21042208045 1 0x21042208c45 qt hb) | assumption)) fun o j Q h => ?_
  refine callI rfl ?_
  refine cmp_o (zp_a (n := n + 1) (by (exact qq1 [_,_] [1,4] 1 0x3040208045 1 0x3040208445 qt hn))) hk hv ha _ _ _ fun j' => ?_
  refine Or.inl (And.intro rfl ?_)
  exact h j'
theorem st_4c (hn : n + 4 < ML) (h0 : m n = 76) {l u : Nat} (h1 : m (n + 1) = l) (h2 : m (n + 2) = u) (hl : l < 256) (hu : u < 256) : Stp ⟨n, sp, a, x, y, f, m⟩ ⟨l + u * 256, sp, a, x, y, f, m⟩ := by
  have hb := bnd hn
  subst h1 h2
  refine stp_of (op := 76) rfl rfl rfl (by decide) (fun P h => h) hn h0 (wrapE (n := m (n + 1) + m (n + 2) * 256) rfl (by first | (exact qq2 [_,_] [256,1,65536] 1 0x4208441010c5 1 0x208445 256 0x208446 qt hl hu) | assumption)) fun o j Q h => ?_
  refine callI rfl ?_
  refine word_c (n := n + 1) (by (exact qq1 [_,_] [1,4] 1 0x18201040208045 1 0x3040208445 qt hn)) hu ?_
  refine Or.inl (And.intro rfl ?_)
  exact h j
theorem st_90t (hn : n + 4 < ML) (h0 : m n = 144) {z t : Nat} (hf : f.c = false) (h1 : m (n + 1) = z) (hz : z < 256) (ht : z < 128 ∧ t = n + 2 + z ∨ 128 ≤ z ∧ t + 256 = n + 2 + z) (htb : t < 65536) : Stp ⟨n, sp, a, x, y, f, m⟩ ⟨t, sp, a, x, y, f, m⟩ := by
  have hb := bnd hn
  refine stp_of (op := 144) rfl rfl rfl (by decide) (fun P h => h) hn h0 (wrapE (n := t) rfl (by first | (exact qq1 [_] [1,65536] 1 0x2208045 1 0x2208045 qt htb) | assumption)) fun o j Q h => ?_
  refine callI rfl ?_
  refine bcl_t (n := n + 1) (by rw [pC]; exact hf) (by (exact qq1 [_,_] [1,4] 1 0x3040208045 1 0x3040208445 qt hn)) h1 hz (by omega) htb _ _ _ fun j' => ?_
  refine Or.inl (And.intro rfl ?_)
  exact h j'
theorem st_90n (hn : n + 4 < ML) (h0 : m n = 144) (hf : f.c = true) : Stp ⟨n, sp, a, x, y, f, m⟩ ⟨n + 2, sp, a, x, y, f, m⟩ := by
  have hb := bnd hn
  refine stp_of (op := 144) rfl rfl rfl (by decide) (fun P h => h) hn h0 (wrapE (n := n + 2) rfl (by first | (exact qq1 [_] [2,1,65536,4] 1 0x21042208045 1 0x21042208c45 qt hb) | assumption)) fun o j Q h => ?_
  refine callI rfl ?_
  refine bcl_n (n := n + 1) (by rw [pC]; exact hf) _ _ _ fun j' => ?_
  refine Or.inl (And.intro rfl ?_)
  exact h j'
theorem st_d0t (hn : n + 4 < ML) (h0 : m n = 208) {z t : Nat} (hf : f.z = false) (h1 : m (n + 1) = z) (hz : z < 256) (ht : z < 128 ∧ t = n + 2 + z ∨ 128 ≤ z ∧ t + 256 = n + 2 + z) (htb : t < 65536) : Stp ⟨n, sp, a, x, y, f, m⟩ ⟨t, sp, a, x, y, f, m⟩ := by
  have hb := bnd hn
  refine stp_of (op := 208) rfl rfl rfl (by decide) (fun P h => h) hn h0 (wrapE (n := t) rfl (by first | (exact qq1 [_] [1,65536] 1 0x2208045 1 0x2208045 qt htb) | assumption)) fun o j Q h => ?_
  refine callI rfl ?_
  refine bcl_t (n := n + 1) (by rw [pZ]; exact hf) (by (exact qq1 [_,_] [1,4] 1 0x3040208045 1 0x3040208445 qt hn)) h1 hz (by omega) htb _ _ _ fun j' => ?_
  refine Or.inl (And.intro rfl ?_)
  exact h j'
theorem st_d0n (hn : n + 4 < ML) (h0 : m n = 208) (hf : f.z = true) : Stp ⟨n, sp, a, x, y, f, m⟩ ⟨n + 2, sp, a, x, y, f, m⟩ := by
  have hb := bnd hn
  refine stp_of (op := 208) rfl rfl rfl (by decide) (fun P h => h) hn h0 (wrapE (n := n + 2) rfl (by first | (exact qq1 [_] [2,1,65536,4] 1 0x21042208045 1 0x21042208c45 qt hb) | assumption)) fun o j Q h => ?_
  refine callI rfl ?_
  refine bcl_n (n := n + 1) (by rw [pZ]; exact hf) _ _ _ fun j' => ?_
  refine Or.inl (And.intro rfl ?_)
  exact h j'
theorem st_f0t (hn : n + 4 < ML) (h0 : m n = 240) {z t : Nat} (hf : f.z = true) (h1 : m (n + 1) = z) (hz : z < 256) (ht : z < 128 ∧ t = n + 2 + z ∨ 128 ≤ z ∧ t + 256 = n + 2 + z) (htb : t < 65536) : Stp ⟨n, sp, a, x, y, f, m⟩ ⟨t, sp, a, x, y, f, m⟩ := by
  have hb := bnd hn
  refine stp_of (op := 240) rfl rfl rfl (by decide) (fun P h => h) hn h0 (wrapE (n := t) rfl (by first | (exact qq1 [_] [1,65536] 1 0x2208045 1 0x2208045 qt htb) | assumption)) fun o j Q h => ?_
  refine callI rfl ?_
  refine bst_t (n := n + 1) (by rw [pZ]; exact hf) (by (exact qq1 [_,_] [1,4] 1 0x3040208045 1 0x3040208445 qt hn)) h1 hz (by omega) htb _ _ _ fun j' => ?_
  refine Or.inl (And.intro rfl ?_)
  exact h j'
theorem st_f0n (hn : n + 4 < ML) (h0 : m n = 240) (hf : f.z = false) : Stp ⟨n, sp, a, x, y, f, m⟩ ⟨n + 2, sp, a, x, y, f, m⟩ := by
  have hb := bnd hn
  refine stp_of (op := 240) rfl rfl rfl (by decide) (fun P h => h) hn h0 (wrapE (n := n + 2) rfl (by first | (exact qq1 [_] [2,1,65536,4] 1 0x21042208045 1 0x21042208c45 qt hb) | assumption)) fun o j Q h => ?_
  refine callI rfl ?_
  refine bst_n (n := n + 1) (by rw [pZ]; exact hf) _ _ _ fun j' => ?_
  refine Or.inl (And.intro rfl ?_)
  exact h j'
end
end VE
namespace VE
open M6
open Builtin (bitAnd bitOr bitXor bitNot)
section
variable {d n sp k : Nat} {o : Oth} {j : Jk} {pc a x y p v : Int} {m : Nat → Nat} {f : Fg} {Q : Rs → List VO → Prop}
theorem ldy_o {g : Addr} {spI : Int} (hA : Adr o g pc spI a x y (pI f) (ml ML m) k) (hk : k < ML) (hv : m k < 256) : Op o 351 [.meth g 3] pc spI a x y (pI f) (ml ML m) pc spI a x (m k) (pI (f.nz (m k))) (ml ML m) := fun d j Q h => by
  refine callI rfl ?_
  refine hA _ _ _ fun j' => ?_
  refine byte_c hk ?_
  refine flz_c hv ?_
  refine Or.inl (And.intro rfl ?_)
  exact h j'
end
variable {n sp a x y : Nat} {m : Nat → Nat} {f : Fg}
theorem st_a0 (hn : n + 4 < ML) (h0 : m n = 160) {v : Nat} (h1 : m (n + 1) = v) (hv : v < 256) : Stp ⟨n, sp, a, x, y, f, m⟩ ⟨n + 2, sp, a, x, v, f.nz v, m⟩ := by
  have hb := bnd hn
  subst h1
  refine stp_of (op := 160) rfl rfl rfl (by decide) (fun P h => h) hn h0 (wrapE (n := n + 2) rfl (by (exact qq1 [_] [2,1,65536,4] 1 0x21042208045 1 0x21042208c45 qt hb))) fun o j Q h => ?_
  refine callI rfl ?_
  refine ldy_o (pc_a (n := n + 1) (by (exact qq1 [_,_] [1,4] 1 0x3040208045 1 0x3040208445 qt hn))) (by (exact qq1 [_,_] [1,4] 1 0x3040208045 1 0x3040208445 qt hn)) hv _ _ _ fun j' => ?_
  refine Or.inl (And.intro rfl ?_)
  exact h j'
theorem st_c8 (hn : n + 4 < ML) (h0 : m n = 200) : Stp ⟨n, sp, a, x, y, f, m⟩ ⟨n + 1, sp, a, x, (y + 1) % 256, f.nz ((y + 1) % 256), m⟩ := by
  have hb := bnd hn
  refine stp_of (op := 200) rfl rfl rfl (by decide) (fun P h => h) hn h0 (wrapE (n := n + 1) rfl (by (exact qq1 [_] [1,65536,4] 1 0x11040208045 1 0x11040208845 qt hb))) fun o j Q h => ?_
  refine callI rfl ?_
  refine flz_e (k := (y + 1) % 256) (p' := pI f) (and255 (n := y + 1)) rfl (Nat.mod_lt _ (by decide)) ?_
  refine Or.inl (And.intro rfl ?_)
  exact hp_fin (P := Q (.val (.p .none))) (h j) rfl rfl rfl rfl rfl (and255 (n := y + 1)) rfl rfl
theorem dec_y {y : Nat} (hy : y < 256) : bitAnd ((y : Int) - 1) 255 = (((y + 255) % 256 : Nat) : Int) := dec8 hy
theorem st_88 (hn : n + 4 < ML) (h0 : m n = 136) (hy : y < 256) : Stp ⟨n, sp, a, x, y, f, m⟩ ⟨n + 1, sp, a, x, (y + 255) % 256, f.nz ((y + 255) % 256), m⟩ := by
  have hb := bnd hn
  refine stp_of (op := 136) rfl rfl rfl (by decide) (fun P h => h) hn h0 (wrapE (n := n + 1) rfl (by (exact qq1 [_] [1,65536,4] 1 0x11040208045 1 0x11040208845 qt hb))) fun o j Q h => ?_
  refine callI rfl ?_
  refine flz_e (k := (y + 255) % 256) (p' := pI f) (dec_y hy) rfl (Nat.mod_lt _ (by decide)) ?_
  refine Or.inl (And.intro rfl ?_)
  exact hp_fin (P := Q (.val (.p .none))) (h j) rfl rfl rfl rfl rfl (dec_y hy) rfl rfl
end VE
namespace VE
/-! General. -/
noncomputable abbrev il (l : List Int) : List PV := l.map .int
noncomputable def nl (l : List Nat) : List Int := List.map (fun (n : Nat) => (n : Int)) l
noncomputable abbrev I (i : Int) : VV := .p (.int i)
/-- What a loop does behind its body. -/
noncomputable def flW (keep : VS → Prop) (Q : Fl → VS → Prop) (R : VS → Prop) (f : Fl) (τ : VS) : Prop := match f with
  | .next => keep τ ∧ R τ
  | .cont => keep τ ∧ R τ
  | .brk => Q .next τ
  | .ret u => Q (.ret u) τ
section
variable {tgt : PV → VS → (VS → Prop) → Prop} {body : VS → (Fl → VS → Prop) → Prop} {keep : VS → Prop} {Q : Fl → VS → Prop}
theorem forW_from (l : List PV) (Inv : Nat → VS → Prop) (step : ∀ i v τ (R : VS → Prop), l[i]? = some v → Inv i τ → (∀ τ2, Inv (i + 1) τ2 → R τ2) → tgt v τ fun τ1 => body τ1 (flW keep Q R))
    (fin : ∀ τ, Inv l.length τ → Q .next τ) : ∀ (r : List PV) (k : Nat) τ, l.drop k = r → k ≤ l.length → Inv k τ → forW tgt body keep Q r τ := by
  intro r
  induction r with
  | nil =>
    intro k τ e hk I
    have : k = l.length := by
      have := congrArg List.length e
      rw [List.length_drop] at this
      simp at this; (clear e; (exact Nat.le_antisymm (qq1 [_,_] [] 1 0xc5 1 0xc5 qt hk) (qq2 [_,_,_] [0] 1 0xc5 1 0x47 1 0x98e5 qt (qE this) (qS _ _))))
    subst this
    exact fin τ I
  | cons v r ih =>
    intro k τ e hk I
    have hk' : k < l.length := by
      have := congrArg List.length e
      rw [List.length_drop] at this
      simp at this; (clear e hk; lia)
    have e2 := List.drop_eq_getElem_cons hk'
    rw [e] at e2
    injection e2 with e3 e4
    exact step k v τ (forW tgt body keep Q r) (by rw [List.getElem?_eq_getElem hk', e3]) I fun τ2 I2 => ih (k + 1) τ2 e4.symm hk' I2
theorem forW_ind {l : List PV} {τ : VS} (Inv : Nat → VS → Prop) (h : Inv 0 τ) (step : ∀ i v τ (R : VS → Prop), l[i]? = some v → Inv i τ → (∀ τ2, Inv (i + 1) τ2 → R τ2) → tgt v τ fun τ1 => body τ1 (flW keep Q R))
    (fin : ∀ τ, Inv l.length τ → Q .next τ) : forW tgt body keep Q l τ := forW_from l Inv step fin l 0 τ rfl (Nat.zero_le _) h
end
/-- A comprehension whose item is a plain function. -/
theorem compW_ind {tgt : PV → VS → (VS → Prop) → Prop} {elt : VS → (VV → VS → Prop) → Prop} {hp : List VO} {base : List (Nat × VV)} {Q : List PV → Prop} (f : PV → PV) : ∀ (l acc : List PV),
    (∀ v, v ∈ l → ∀ R : PV → Prop, R (f v) → tgt v ⟨base, hp⟩ fun τ1 => elt τ1 fun u τ2 => τ2.hp = hp ∧ match u with | .p z => R z | _ => False) → Q (acc ++ l.map f) → compW tgt elt hp base Q l acc := by
  intro l
  induction l with
  | nil => intro acc h q; rw [List.map_nil, List.append_nil] at q; exact q
  | cons v r ih =>
    intro acc h q
    refine h v (List.mem_cons_self ..) (fun z => compW tgt elt hp base Q r (acc ++ [z])) (ih (acc ++ [f v]) (fun w hw => h w (List.mem_cons_of_mem _ hw)) ?_)
    rw [List.append_assoc]; exact q
theorem range_at {n i : Nat} {v : PV} (h : (rangeL 0 (n : Int))[i]? = some v) : i < n ∧ v = .int (i : Int) := by
  unfold rangeL at h
  rw [List.getElem?_map] at h
  have e : ((n : Int) - 0).toNat = n := by (clear h; lia)
  rw [e] at h
  by_cases hi : i < n
  · rw [List.getElem?_range hi] at h
    simp only [Option.map_some, Option.some.injEq] at h
    exact ⟨hi, by rw [← h]; simp⟩
  · rw [List.getElem?_eq_none (by simp; (clear e h; (exact qq1 [_,_] [] 1 0xc5 1 0xc5 qt (qT hi))))] at h; cases h
theorem range_len (n : Nat) : (rangeL 0 (n : Int)).length = n := by rw [rangeL_len]; lia
theorem rng_ok {n : Nat} (h : n < 2 ^ 32) : rngB 0 (n : Int) := by
  unfold rngB
  have : (2 : Int) ^ 62 = 4611686018427387904 := by decide
  have h2 : (2 : Nat) ^ 32 = 4294967296 := by decide
  (clear h2 this; lia)
theorem il_len (l : List Int) : (il l).length = l.length := List.length_map ..
theorem nl_len (l : List Nat) : (nl l).length = l.length := List.length_map ..
theorem il_at {l : List Int} {k : Nat} {z : Int} (h : l[k]? = some z) : pick (il l) (k : Int) = some (.int z) := by
  show (l.map PV.int)[k]? = _
  rw [List.getElem?_map, h]; rfl
theorem nl_at {l : List Nat} {k z : Nat} (h : l[k]? = some z) : (nl l)[k]? = some (z : Int) := by
  unfold nl; rw [List.getElem?_map, h]; rfl
theorem fmodN (a b : Nat) : Int.fmod (a : Int) (b : Int) = ((a % b : Nat) : Int) := (Int.ofNat_fmod a b).symm
theorem fdivN (a b : Nat) : Int.fdiv (a : Int) (b : Int) = ((a / b : Nat) : Int) := (Int.ofNat_fdiv a b).symm
theorem smallN {n : Nat} (h : n < 2 ^ 32) : (n : Int) < 2 ^ 63 := by
  have : (2 : Int) ^ 63 = 9223372036854775808 := by decide
  have h2 : (2 : Nat) ^ 32 = 4294967296 := by decide
  (clear h2 this; (exact qGb (qq1 [_] [1,9223372036854775808,4294967296] 1 0x2208045 1 0x4208045 qt h)))
theorem no_pylong {i j : Int} (hj : j.natAbs < 1000000) : Builtin.divisionGoesByPylong i j = false := by
  unfold Builtin.divisionGoesByPylong
  have h : (fun (n : Int) => if n == 0 then 0 else n.natAbs.log2 / 30 + 1) j ≤ 300 := by
    show (if j == 0 then 0 else j.natAbs.log2 / 30 + 1) ≤ 300
    split
    · decide
    · rename_i q
      have q : j ≠ 0 := by simpa using q
      have : j.natAbs.log2 < 20 := (Nat.log2_lt (by (clear hj; omega))).mpr (by (clear q; (exact qq1 [_] [1,1048576,1000000] 1 0x2208045 1 0x4208045 qt hj)))
      (clear hj q; (exact qq2 [_,_,_] [1,300,20,30] 30 0x2208045 1 0x4208046 1 0xc138c65 qt this (qD _ 30)))
  show (decide (_ > 300) && _) = false
  rw [decide_eq_false (Nat.not_lt.mpr h)]; rfl
theorem mul_l {i j : Int} (h : Builtin.Int.intBits i ≤ 64) : IntMulOk i j := IntMulOk.of_left h
/-- A stretch of a list written over. -/
noncomputable def wr (m : List Int) : Nat → List Int → List Int
  | _, [] => m
  | a, z :: r => wr (m.set a z) (a + 1) r
theorem szL {n : Nat} (h : Nat.ble n sizeLine = true) : n ≤ sizeLine := Nat.le_of_ble_eq_true h
theorem take_il (l : List Int) (n : Nat) : (il l).take n = il (l.take n) := List.map_take.symm
/-- Lists of octets. -/
noncomputable abbrev nv (l : List Nat) : List PV := il (nl l)
theorem nv_len (l : List Nat) : (nv l).length = l.length := by unfold nv; rw [il_len, nl_len]
theorem nv_at {l : List Nat} {k z : Nat} (h : l[k]? = some z) : pick (nv l) (k : Int) = some (.int (z : Int)) := il_at (nl_at h)
theorem sizeL : sizeLine = 16777216 := rfl
end VE
namespace VE
/-! The program of law 02 on the machine. -/
/-- n steps, none of them begun at 600. -/
inductive Run : Nat → Rg → Rg → Prop
  | nil (r : Rg) : Run 0 r r
  | cons {n : Nat} {r r1 r2 : Rg} : Stp r r1 → r.pc ≠ 600 → Run n r1 r2 → Run (n + 1) r r2
/-- At most b steps lead to a state of which G is so. -/
inductive Rb (b : Nat) (r : Rg) (G : Rg → Prop) : Prop
  | mk (n : Nat) (r' : Rg) : n ≤ b → Run n r r' → G r' → Rb b r G
theorem Rb.step {b : Nat} {r r1 : Rg} {G : Rg → Prop} (s : Stp r r1) (ne : r.pc ≠ 600) (h : Rb b r1 G) : Rb (b + 1) r G := by
  obtain ⟨n, r', hn, R, g⟩ := h
  exact ⟨n + 1, r', Nat.succ_le_succ hn, .cons s ne R, g⟩
theorem Rb.mono {b b' : Nat} {r : Rg} {G : Rg → Prop} (hb : b ≤ b') (h : Rb b r G) : Rb b' r G := by
  obtain ⟨n, r', hn, R, g⟩ := h
  exact ⟨n, r', Nat.le_trans hn hb, R, g⟩
/-- The code. -/
noncomputable def cd (t B : Nat) : List Nat := [165, 25, 208, 3, 76, 88, 2, 133, 21, 165, 24, 133, 20, 160, 1, 177, 20, 133, 24, 200, 177, 20, 133, 25, 169, 25, 133, 18, 169, 0, 133, 19, 160, 2, 177, 18, 240, 33, 133, 23, 136, 177, 18, 133, 22, 160, 0, 177, 22, 73, t, 133, 28, 177, 20, 73, t, 197, 28, 144, 10, 165, 22, 133, 18, 165, 23, 133, 19, 208, 217, 160, 1, 177, 18, 145, 20, 165, 20, 145, 18, 200, 177, 18, 145, 20, 165, 21, 145, 18, 76, B % 256, B / 256]
structure Fx (t B : Nat) : Prop where
  lo : 20000 ≤ B
  hi : B < 60000
  t8 : t < 256
/-- The memory as the machine runs: octets, the code. -/
structure MX (t B : Nat) (m : Nat → Nat) : Prop where
  byt : ∀ a, m a < 256
  cod : ∀ k z, (cd t B)[k]? = some z → m (B + k) = z
section
variable {t B b sp a x y k z : Nat} {f : Fg} {m : Nat → Nat} {r : Rg → Prop}
theorem MX.set (F : Fx t B) (X : MX t B m) {m' : Nat → Nat} (hk : k < 20000) (hv : m' k < 256) (fr : ∀ j, j ≠ k → m' j = m j) : MX t B m' where
  byt := fun j => by
    by_cases h : j = k
    · rw [h]; exact hv
    · rw [fr j h]; exact X.byt j
  cod := fun i z h => by
    rw [fr _ (by have := F.lo; (exact fun e9 => qZ (qq3 [_,_,_] [1,0,20000] 3 0x8802 2 0x4208045 2 0x1842 2 0x284e6 qt hk this (qE e9))))]
    exact X.cod i z h
theorem cd_lt {o : Nat} (h : (cd t B)[k]? = some o) : k < 93 := (List.getElem?_eq_some_iff.mp h).1
theorem Fx.room (F : Fx t B) {o : Nat} (h : (cd t B)[k]? = some o) : B + k + 4 < ML := by
  have := cd_lt h
  have := F.hi
  show B + k + 4 < 65536
  omega
theorem Fx.ne (F : Fx t B) : B + k ≠ 600 := by have := F.lo; (exact fun e9 => qZ (qq2 [_,_] [1,0,20000,600] 1 0x8802 1 0x1442 1 0x3104c5 qt this (qE e9)))
noncomputable abbrev RS (B sp x : Nat) (k a y : Nat) (f : Fg) (m : Nat → Nat) : Rg := ⟨B + k, sp, a, x, y, f, m⟩
theorem i_a5 (F : Fx t B) (X : MX t B m) (k : Nat) (h0 : (cd t B)[k]? = some 165) (h1 : (cd t B)[k + 1]? = some z) (hz : z < 256) (h : Rb b (RS B sp x (k + 2) (m z) y (f.nz (m z)) m) r) : Rb (b + 1) (RS B sp x k a y f m) r :=
  .step (st_a5 (F.room h0) (X.cod _ _ h0) (X.cod (k + 1) _ h1) (Nat.lt_trans hz (by decide)) (X.byt _)) F.ne h
theorem i_85 (F : Fx t B) (X : MX t B m) (k : Nat) (h0 : (cd t B)[k]? = some 133) (h1 : (cd t B)[k + 1]? = some z) (hz : z < 256) (ha : a < 256) (h : ∀ m', m' z = a → (∀ j, j ≠ z → m' j = m j) → MX t B m' → Rb b (RS B sp x (k + 2) a y f m') r) : Rb (b + 1) (RS B sp x k a y f m) r :=
  .step (st_85 (F.room h0) (X.cod _ _ h0) (X.cod (k + 1) _ h1) (Nat.lt_trans hz (by decide))) F.ne (h _ upd_self (fun _ e => upd_ne e) (X.set F (k := z) (Nat.lt_trans hz (by decide)) (by rw [upd_self]; exact ha) fun _ e => upd_ne e))
theorem i_a0 (F : Fx t B) (X : MX t B m) (k : Nat) (h0 : (cd t B)[k]? = some 160) (h1 : (cd t B)[k + 1]? = some z) (hz : z < 256) (h : Rb b (RS B sp x (k + 2) a z (f.nz z) m) r) : Rb (b + 1) (RS B sp x k a y f m) r :=
  .step (st_a0 (F.room h0) (X.cod _ _ h0) (X.cod (k + 1) _ h1) hz) F.ne h
theorem i_a9 (F : Fx t B) (X : MX t B m) (k : Nat) (h0 : (cd t B)[k]? = some 169) (h1 : (cd t B)[k + 1]? = some z) (hz : z < 256) (h : Rb b (RS B sp x (k + 2) z y (f.nz z) m) r) : Rb (b + 1) (RS B sp x k a y f m) r :=
  .step (st_a9 (F.room h0) (X.cod _ _ h0) (X.cod (k + 1) _ h1) hz) F.ne h
theorem i_b1 (F : Fx t B) (X : MX t B m) (k : Nat) {q : Nat} (h0 : (cd t B)[k]? = some 177) (h1 : (cd t B)[k + 1]? = some z) (hz : z + 1 < 256) (hq : m z + m (z + 1) * 256 + y = q) (hl : q < 20000) (h : Rb b (RS B sp x (k + 2) (m q) y (f.nz (m q)) m) r) : Rb (b + 1) (RS B sp x k a y f m) r :=
  .step (st_b1 (F.room h0) (X.cod _ _ h0) (X.cod (k + 1) _ h1) hz (X.byt _) hq (Nat.lt_trans hl (by decide)) (X.byt _)) F.ne h
theorem i_91 (F : Fx t B) (X : MX t B m) (k : Nat) {q : Nat} (h0 : (cd t B)[k]? = some 145) (h1 : (cd t B)[k + 1]? = some z) (hz : z + 1 < 256) (ha : a < 256) (hq : m z + m (z + 1) * 256 + y = q) (hl : q < 20000) (h : ∀ m', m' q = a → (∀ j, j ≠ q → m' j = m j) → MX t B m' → Rb b (RS B sp x (k + 2) a y f m') r) : Rb (b + 1) (RS B sp x k a y f m) r :=
  .step (st_91 (F.room h0) (X.cod _ _ h0) (X.cod (k + 1) _ h1) hz (X.byt _) hq (Nat.lt_trans hl (by decide))) F.ne (h _ upd_self (fun _ e => upd_ne e) (X.set F (k := q) hl (by rw [upd_self]; exact ha) fun _ e => upd_ne e))
theorem i_49 (F : Fx t B) (X : MX t B m) (k : Nat) (h0 : (cd t B)[k]? = some 73) (h1 : (cd t B)[k + 1]? = some t) (ha : a < 256) (h : Rb b (RS B sp x (k + 2) (xr a t) y (f.nz (xr a t)) m) r) : Rb (b + 1) (RS B sp x k a y f m) r :=
  .step (st_49 (F.room h0) (X.cod _ _ h0) (X.cod (k + 1) _ h1) F.t8 ha) F.ne h
theorem i_c5 (F : Fx t B) (X : MX t B m) (k : Nat) (h0 : (cd t B)[k]? = some 197) (h1 : (cd t B)[k + 1]? = some z) (hz : z < 256) (ha : a < 256) (h : Rb b (RS B sp x (k + 2) a y (f.cp a (m z)) m) r) : Rb (b + 1) (RS B sp x k a y f m) r :=
  .step (st_c5 (F.room h0) (X.cod _ _ h0) (X.cod (k + 1) _ h1) (Nat.lt_trans hz (by decide)) (X.byt _) ha) F.ne h
theorem i_c8 (F : Fx t B) (X : MX t B m) (k : Nat) (h0 : (cd t B)[k]? = some 200) (h : Rb b (RS B sp x (k + 1) a ((y + 1) % 256) (f.nz ((y + 1) % 256)) m) r) : Rb (b + 1) (RS B sp x k a y f m) r :=
  .step (st_c8 (F.room h0) (X.cod _ _ h0)) F.ne h
theorem i_88 (F : Fx t B) (X : MX t B m) (k : Nat) (h0 : (cd t B)[k]? = some 136) (hy : y < 256) (h : Rb b (RS B sp x (k + 1) a ((y + 255) % 256) (f.nz ((y + 255) % 256)) m) r) : Rb (b + 1) (RS B sp x k a y f m) r :=
  .step (st_88 (F.room h0) (X.cod _ _ h0) hy) F.ne h
noncomputable abbrev hopTo (k z k' : Nat) : Prop := z < 128 ∧ k' = k + 2 + z ∨ 128 ≤ z ∧ k' + 256 = k + 2 + z
theorem hop (F : Fx t B) {k' : Nat} (h : hopTo k z k') : (z < 128 ∧ B + k' = B + k + 2 + z ∨ 128 ≤ z ∧ B + k' + 256 = B + k + 2 + z) :=
  h.imp (fun h => ⟨h.1, by rw [h.2, Nat.add_assoc, Nat.add_assoc, Nat.add_assoc]⟩) fun h => ⟨h.1, by rw [Nat.add_assoc, h.2, Nat.add_assoc, Nat.add_assoc, Nat.add_assoc]⟩
theorem hopB (F : Fx t B) {k' : Nat} (h : k' < 93) : B + k' < 65536 := by have := F.hi; (exact qq2 [_,_] [1,65536,93,60000] 1 0x8820104c5 1 0x4208046 1 0x6208045 qt h this)
theorem i_d0t (F : Fx t B) (X : MX t B m) (k k' : Nat) (h0 : (cd t B)[k]? = some 208) (h1 : (cd t B)[k + 1]? = some z) (hz : z < 256) (hf : f.z = false) (hk : hopTo k z k') (hl : k' < 93) (h : Rb b (RS B sp x k' a y f m) r) : Rb (b + 1) (RS B sp x k a y f m) r :=
  .step (st_d0t (F.room h0) (X.cod _ _ h0) hf (X.cod (k + 1) _ h1) hz (hop F hk) (hopB F hl)) F.ne h
theorem i_d0n (F : Fx t B) (X : MX t B m) (k : Nat) (h0 : (cd t B)[k]? = some 208) (hf : f.z = true) (h : Rb b (RS B sp x (k + 2) a y f m) r) : Rb (b + 1) (RS B sp x k a y f m) r :=
  .step (st_d0n (F.room h0) (X.cod _ _ h0) hf) F.ne h
theorem i_f0t (F : Fx t B) (X : MX t B m) (k k' : Nat) (h0 : (cd t B)[k]? = some 240) (h1 : (cd t B)[k + 1]? = some z) (hz : z < 256) (hf : f.z = true) (hk : hopTo k z k') (hl : k' < 93) (h : Rb b (RS B sp x k' a y f m) r) : Rb (b + 1) (RS B sp x k a y f m) r :=
  .step (st_f0t (F.room h0) (X.cod _ _ h0) hf (X.cod (k + 1) _ h1) hz (hop F hk) (hopB F hl)) F.ne h
theorem i_f0n (F : Fx t B) (X : MX t B m) (k : Nat) (h0 : (cd t B)[k]? = some 240) (hf : f.z = false) (h : Rb b (RS B sp x (k + 2) a y f m) r) : Rb (b + 1) (RS B sp x k a y f m) r :=
  .step (st_f0n (F.room h0) (X.cod _ _ h0) hf) F.ne h
theorem i_90t (F : Fx t B) (X : MX t B m) (k k' : Nat) (h0 : (cd t B)[k]? = some 144) (h1 : (cd t B)[k + 1]? = some z) (hz : z < 256) (hf : f.c = false) (hk : hopTo k z k') (hl : k' < 93) (h : Rb b (RS B sp x k' a y f m) r) : Rb (b + 1) (RS B sp x k a y f m) r :=
  .step (st_90t (F.room h0) (X.cod _ _ h0) hf (X.cod (k + 1) _ h1) hz (hop F hk) (hopB F hl)) F.ne h
theorem i_90n (F : Fx t B) (X : MX t B m) (k : Nat) (h0 : (cd t B)[k]? = some 144) (hf : f.c = true) (h : Rb b (RS B sp x (k + 2) a y f m) r) : Rb (b + 1) (RS B sp x k a y f m) r :=
  .step (st_90n (F.room h0) (X.cod _ _ h0) hf) F.ne h
theorem i_4c (F : Fx t B) (X : MX t B m) (k : Nat) {l u q : Nat} (h0 : (cd t B)[k]? = some 76) (h1 : (cd t B)[k + 1]? = some l) (h2 : (cd t B)[k + 2]? = some u) (hl : l < 256) (hu : u < 256) (hq : l + u * 256 = q) (h : Rb b ⟨q, sp, a, x, y, f, m⟩ r) : Rb (b + 1) (RS B sp x k a y f m) r := by
  subst hq
  exact .step (st_4c (F.room h0) (X.cod _ _ h0) (X.cod (k + 1) _ h1) (X.cod (k + 2) _ h2) hl hu) F.ne h
theorem beqF {n : Nat} (h : n ≠ 0) : Nat.beq n 0 = false := by
  cases n with
  | zero => exact absurd rfl h
  | succ n => rfl
theorem beqT {n : Nat} (h : n = 0) : Nat.beq n 0 = true := by subst h; rfl
/-- The end: the input list is empty. -/
theorem b_end (F : Fx t B) (X : MX t B m) (h25 : m 25 = 0) (h : r ⟨600, sp, 0, x, y, f.nz 0, m⟩) : Rb 3 (RS B sp x 0 a y f m) r := by
  refine i_a5 F X 0 rfl rfl (by decide) ?_
  rw [h25]
  refine i_d0n F X 2 rfl rfl ?_
  exact i_4c F X 4 rfl rfl rfl (by decide) (by decide) rfl ⟨0, _, Nat.le_refl _, .nil _, h⟩
/-- The next node n is taken off the input list. -/
theorem b_take (F : Fx t B) (X : MX t B m) {n : Nat} (hn : m 24 + m 25 * 256 = n) (h25 : m 25 ≠ 0) (hl : n + 2 < 20000) (hg : 29 ≤ n)
    (h : ∀ a y f m', MX t B m' → m' 18 + m' 19 * 256 = 25 → m' 20 = m 24 → m' 21 = m 25 → m' 24 = m (n + 1) → m' 25 = m (n + 2) → (∀ j, j < 18 ∨ 26 ≤ j → m' j = m j) → Rb b (RS B sp x 32 a y f m') r) : Rb (b + 15) (RS B sp x 0 a y f m) r := by
  refine i_a5 F X 0 rfl rfl (by decide) ?_
  refine i_d0t F X 2 7 rfl rfl (by decide) (beqF h25) (.inl ⟨by decide, rfl⟩) (by decide) ?_
  refine i_85 F X 7 rfl rfl (by decide) (X.byt _) fun m1 e1 o1 X1 => ?_
  refine i_a5 F X1 9 rfl rfl (by decide) ?_
  refine i_85 F X1 11 rfl rfl (by decide) (X1.byt _) fun m2 e2 o2 X2 => ?_
  rw [o1 24 (by decide)] at e2
  refine i_a0 F X2 13 rfl rfl (by decide) ?_
  refine i_b1 F X2 15 (q := n + 1) rfl rfl (by decide) (by rw [e2, o2 21 (by decide), e1]; (exact Nat.le_antisymm (qq1 [_,_,_] [256,1] 1 0x844708441010c5 1 0xe1010c5 qt (qE hn)) (qq1 [_,_,_] [1,256] 1 0x8041090e608045 1 0x2121cc5 qt (qF hn)))) (by (exact qq1 [_] [1,20000,2] 1 0x11040208045 1 0x11040208845 qt hl)) ?_
  refine i_85 F X2 17 rfl rfl (by decide) (X2.byt _) fun m3 e3 o3 X3 => ?_
  rw [o2 (n + 1) (by (exact fun e9 => qZ (qq2 [_] [1,0,29,20] 1 0x8802 1 0x1442 1 0x6208045 qt hg (qE e9)))), o1 (n + 1) (by (exact fun e9 => qZ (qq2 [_] [1,0,29,21] 1 0x8802 1 0x1442 1 0x6208045 qt hg (qE e9))))] at e3
  refine i_c8 F X3 19 rfl ?_
  refine i_b1 F X3 20 (q := n + 2) rfl rfl (by decide) (by rw [o3 20 (by decide), o3 21 (by decide), e2, o2 21 (by decide), e1]; show _ + 2 = _; (exact Nat.le_antisymm (qq1 [_,_,_] [256,2] 1 0x844708441010c5 1 0xe1010c5 qt (qE hn)) (qq1 [_,_,_] [2,256] 1 0x8041090e608045 1 0x2121cc5 qt (qF hn)))) (by (exact qq1 [_] [2,1,20000] 1 0x21042208045 1 0x21042208045 qt hl)) ?_
  refine i_85 F X3 22 rfl rfl (by decide) (X3.byt _) fun m4 e4 o4 X4 => ?_
  rw [o3 (n + 2) (by (exact fun e9 => qZ (qq2 [_] [1,0,29,2,24] 1 0x8802 1 0x1442 1 0x8208c45 qt hg (qE e9)))), o2 (n + 2) (by (exact fun e9 => qZ (qq2 [_] [1,0,29,2,20] 1 0x8802 1 0x1442 1 0x8208c45 qt hg (qE e9)))), o1 (n + 2) (by (exact fun e9 => qZ (qq2 [_] [1,0,29,2,21] 1 0x8802 1 0x1442 1 0x8208c45 qt hg (qE e9))))] at e4
  refine i_a9 F X4 24 rfl rfl (by decide) ?_
  refine i_85 F X4 26 rfl rfl (by decide) (by decide) fun m5 e5 o5 X5 => ?_
  refine i_a9 F X5 28 rfl rfl (by decide) ?_
  refine i_85 F X5 30 rfl rfl (by decide) (by decide) fun m6 e6 o6 X6 => ?_
  refine h _ _ _ m6 X6 ?_ ?_ ?_ ?_ ?_ fun j hj => ?_
  · rw [e6, o6 18 (by decide), e5]
  · rw [o6 20 (by decide), o5 20 (by decide), o4 20 (by decide), o3 20 (by decide), e2]
  · rw [o6 21 (by decide), o5 21 (by decide), o4 21 (by decide), o3 21 (by decide), o2 21 (by decide), e1]
  · rw [o6 24 (by decide), o5 24 (by decide), o4 24 (by decide), e3]
  · rw [o6 25 (by decide), o5 25 (by decide), e4]
  · rw [o6 j (by omega), o5 j (by omega), o4 j (by omega), o3 j (by omega), o2 j (by omega), o1 j (by omega)]
/-- The predecessor is the last. -/
theorem b_last (F : Fx t B) (X : MX t B m) {p : Nat} (hp : m 18 + m 19 * 256 = p) (hl : p + 2 < 20000) (h0 : m (p + 2) = 0) (h : ∀ a y f, Rb b (RS B sp x 71 a y f m) r) : Rb (b + 3) (RS B sp x 32 a y f m) r := by
  refine i_a0 F X 32 rfl rfl (by decide) ?_
  refine i_b1 F X 34 (q := p + 2) rfl rfl (by decide) (by rw [← hp]) hl ?_
  exact i_f0t F X 36 71 rfl rfl (by decide) (beqT h0) (.inl ⟨by decide, rfl⟩) (by decide) (h _ _ _)
/-- The key of the node q is compared with that of the new node n. -/
theorem b_cmp (F : Fx t B) (X : MX t B m) {p q n : Nat} (hp : m 18 + m 19 * 256 = p) (hl : p + 2 < 20000) (hg : 25 ≤ p) (h0 : m (p + 2) ≠ 0) (hq : m (p + 1) + m (p + 2) * 256 = q) (hn : m 20 + m 21 * 256 = n) (ql : q < 20000) (qg : 29 ≤ q) (nl : n < 20000) (ng : 29 ≤ n)
    (h : ∀ y f m', MX t B m' → f.c = Nat.ble (xr (m q) t) (xr (m n) t) → m' 22 = m (p + 1) → m' 23 = m (p + 2) → (∀ j, j ≠ 22 → j ≠ 23 → j ≠ 28 → m' j = m j) → Rb b (RS B sp x 59 (xr (m n) t) y f m') r) : Rb (b + 14) (RS B sp x 32 a y f m) r := by
  refine i_a0 F X 32 rfl rfl (by decide) ?_
  refine i_b1 F X 34 (q := p + 2) rfl rfl (by decide) (by rw [← hp]) hl ?_
  refine i_f0n F X 36 rfl (beqF h0) ?_
  refine i_85 F X 38 rfl rfl (by decide) (X.byt _) fun m1 e1 o1 X1 => ?_
  refine i_88 F X1 40 rfl (by decide) ?_
  refine i_b1 F X1 41 (q := p + 1) rfl rfl (by decide) (by rw [o1 18 (by decide), o1 19 (by decide), hp]) (by (exact qq1 [_] [1,20000,2] 1 0x11040208045 1 0x11040208845 qt hl)) ?_
  rw [o1 (p + 1) (by (exact fun e9 => qZ (qq2 [_] [1,0,25,23] 1 0x8802 1 0x1442 1 0x6208045 qt hg (qE e9))))]
  refine i_85 F X1 43 rfl rfl (by decide) (X.byt _) fun m2 e2 o2 X2 => ?_
  refine i_a0 F X2 45 rfl rfl (by decide) ?_
  refine i_b1 F X2 47 (q := q) rfl rfl (by decide) (by rw [e2, o2 23 (by decide), e1, hq]; rfl) ql ?_
  rw [o2 q (by (exact fun e9 => qZ (qq2 [_] [1,0,29,22] 1 0x8802 1 0x1442 1 0xc45 qt qg (qE e9)))), o1 q (by (exact fun e9 => qZ (qq2 [_] [1,0,29,23] 1 0x8802 1 0x1442 1 0xc45 qt qg (qE e9))))]
  refine i_49 F X2 49 rfl rfl (X.byt _) ?_
  refine i_85 F X2 51 rfl rfl (by decide) (xr_lt (X.byt _) F.t8) fun m3 e3 o3 X3 => ?_
  refine i_b1 F X3 53 (q := n) rfl rfl (by decide) (by rw [o3 20 (by decide), o3 21 (by decide), o2 20 (by decide), o2 21 (by decide), o1 20 (by decide), o1 21 (by decide), hn]; rfl) nl ?_
  rw [o3 n (by (exact fun e9 => qZ (qq2 [_] [1,0,29,28] 1 0x8802 1 0x1442 1 0xc45 qt ng (qE e9)))), o2 n (by (exact fun e9 => qZ (qq2 [_] [1,0,29,22] 1 0x8802 1 0x1442 1 0xc45 qt ng (qE e9)))), o1 n (by (exact fun e9 => qZ (qq2 [_] [1,0,29,23] 1 0x8802 1 0x1442 1 0xc45 qt ng (qE e9))))]
  refine i_49 F X3 55 rfl rfl (X.byt _) ?_
  refine i_c5 F X3 57 rfl rfl (by decide) (xr_lt (X.byt _) F.t8) ?_
  refine h _ _ m3 X3 ?_ ?_ ?_ fun j h1 h2 h3 => ?_
  · rw [e3]; rfl
  · rw [o3 22 (by decide), e2]
  · rw [o3 23 (by decide), o2 23 (by decide), e1]
  · rw [o3 j h3, o2 j h1, o1 j h2]
/-- The new node n goes ahead of q. -/
theorem b_stop (F : Fx t B) (X : MX t B m) (hc : f.c = false) (h : Rb b (RS B sp x 71 a y f m) r) : Rb (b + 1) (RS B sp x 59 a y f m) r :=
  i_90t F X 59 71 rfl rfl (by decide) hc (.inl ⟨by decide, rfl⟩) (by decide) h
/-- On to q. -/
theorem b_on (F : Fx t B) (X : MX t B m) (hc : f.c = true) (h23 : m 23 ≠ 0) (h : ∀ a f m', MX t B m' → m' 18 = m 22 → m' 19 = m 23 → (∀ j, j ≠ 18 → j ≠ 19 → m' j = m j) → Rb b (RS B sp x 32 a y f m') r) : Rb (b + 6) (RS B sp x 59 a y f m) r := by
  refine i_90n F X 59 rfl hc ?_
  refine i_a5 F X 61 rfl rfl (by decide) ?_
  refine i_85 F X 63 rfl rfl (by decide) (X.byt _) fun m1 e1 o1 X1 => ?_
  refine i_a5 F X1 65 rfl rfl (by decide) ?_
  rw [o1 23 (by decide)]
  refine i_85 F X1 67 rfl rfl (by decide) (X.byt _) fun m2 e2 o2 X2 => ?_
  refine i_d0t F X2 69 32 rfl rfl (by decide) (beqF h23) (.inr ⟨by decide, rfl⟩) (by decide) ?_
  exact h _ _ m2 X2 (by rw [o2 18 (by decide), e1]) e2 fun j h1 h2 => by rw [o2 j h2, o1 j h1]
/-- The new node n is put behind p. -/
theorem b_put (F : Fx t B) (X : MX t B m) {p n : Nat} (hp : m 18 + m 19 * 256 = p) (hn : m 20 + m 21 * 256 = n) (hl : p + 2 < 20000) (hg : 25 ≤ p) (nl : n + 2 < 20000) (ng : 29 ≤ n) (np : n + 3 ≤ p ∨ p + 3 ≤ n)
    (h : ∀ a y f m', MX t B m' → m' (n + 1) = m (p + 1) → m' (n + 2) = m (p + 2) → m' (p + 1) = m 20 → m' (p + 2) = m 21 → (∀ j, j ≠ n + 1 → j ≠ n + 2 → j ≠ p + 1 → j ≠ p + 2 → m' j = m j) → Rb b ⟨B, sp, a, x, y, f, m'⟩ r) : Rb (b + 11) (RS B sp x 71 a y f m) r := by
  refine i_a0 F X 71 rfl rfl (by decide) ?_
  refine i_b1 F X 73 (q := p + 1) rfl rfl (by decide) (by rw [hp]) (by (exact qq1 [_] [1,20000,2] 1 0x11040208045 1 0x11040208845 qt hl)) ?_
  refine i_91 F X 75 (q := n + 1) rfl rfl (by decide) (X.byt _) (by rw [hn]) (by (exact qq1 [_] [1,20000,2] 1 0x11040208045 1 0x11040208845 qt nl)) fun m1 e1 o1 X1 => ?_
  refine i_a5 F X1 77 rfl rfl (by decide) ?_
  rw [o1 20 (by (exact fun e9 => qZ (qq2 [_] [1,0,29,20] 1 0x8802 1 0x1442 1 0x6208045 qt ng (qF e9))))]
  refine i_91 F X1 79 (q := p + 1) rfl rfl (by decide) (X.byt _) (by rw [o1 18 (by (exact fun e9 => qZ (qq2 [_] [1,0,29,18] 1 0x8802 1 0x1442 1 0x6208045 qt ng (qF e9)))), o1 19 (by (exact fun e9 => qZ (qq2 [_] [1,0,29,19] 1 0x8802 1 0x1442 1 0x6208045 qt ng (qF e9)))), hp]) (by (exact qq1 [_] [1,20000,2] 1 0x11040208045 1 0x11040208845 qt hl)) fun m2 e2 o2 X2 => ?_
  refine i_c8 F X2 81 rfl ?_
  refine i_b1 F X2 82 (q := p + 2) rfl rfl (by decide) (by rw [o2 18 (by (exact fun e9 => qZ (qq2 [_] [1,0,25,18] 1 0x8802 1 0x1442 1 0x6208045 qt hg (qF e9)))), o2 19 (by (exact fun e9 => qZ (qq2 [_] [1,0,25,19] 1 0x8802 1 0x1442 1 0x6208045 qt hg (qF e9)))), o1 18 (by (exact fun e9 => qZ (qq2 [_] [1,0,29,18] 1 0x8802 1 0x1442 1 0x6208045 qt ng (qF e9)))), o1 19 (by (exact fun e9 => qZ (qq2 [_] [1,0,29,19] 1 0x8802 1 0x1442 1 0x6208045 qt ng (qF e9)))), hp]) (by (exact qq1 [_] [2,1,20000] 1 0x21042208045 1 0x21042208045 qt hl)) ?_
  rw [o2 (p + 2) (by (exact fun e9 => qZ (qq1 [_] [1,0,2] 1 0x8802 2 0x804508845 qt (qE e9)))), o1 (p + 2) (by omega)]
  refine i_91 F X2 84 (q := n + 2) rfl rfl (by decide) (X.byt _) (by rw [o2 20 (by (exact fun e9 => qZ (qq2 [_] [1,0,25,20] 1 0x8802 1 0x1442 1 0x6208045 qt hg (qF e9)))), o2 21 (by (exact fun e9 => qZ (qq2 [_] [1,0,25,21] 1 0x8802 1 0x1442 1 0x6208045 qt hg (qF e9)))), o1 20 (by (exact fun e9 => qZ (qq2 [_] [1,0,29,20] 1 0x8802 1 0x1442 1 0x6208045 qt ng (qF e9)))), o1 21 (by (exact fun e9 => qZ (qq2 [_] [1,0,29,21] 1 0x8802 1 0x1442 1 0x6208045 qt ng (qF e9)))), hn]) (by (exact qq1 [_] [2,1,20000] 1 0x21042208045 1 0x21042208045 qt nl)) fun m3 e3 o3 X3 => ?_
  refine i_a5 F X3 86 rfl rfl (by decide) ?_
  rw [o3 21 (by (exact fun e9 => qZ (qq2 [_] [1,0,29,2,21] 1 0x8802 1 0x1442 1 0x8208c45 qt ng (qF e9)))), o2 21 (by (exact fun e9 => qZ (qq2 [_] [1,0,25,21] 1 0x8802 1 0x1442 1 0x6208045 qt hg (qF e9)))), o1 21 (by (exact fun e9 => qZ (qq2 [_] [1,0,29,21] 1 0x8802 1 0x1442 1 0x6208045 qt ng (qF e9))))]
  refine i_91 F X3 88 (q := p + 2) rfl rfl (by decide) (X.byt _) (by rw [o3 18 (by (exact fun e9 => qZ (qq2 [_] [1,0,29,2,18] 1 0x8802 1 0x1442 1 0x8208c45 qt ng (qF e9)))), o3 19 (by (exact fun e9 => qZ (qq2 [_] [1,0,29,2,19] 1 0x8802 1 0x1442 1 0x8208c45 qt ng (qF e9)))), o2 18 (by (exact fun e9 => qZ (qq2 [_] [1,0,25,18] 1 0x8802 1 0x1442 1 0x6208045 qt hg (qF e9)))), o2 19 (by (exact fun e9 => qZ (qq2 [_] [1,0,25,19] 1 0x8802 1 0x1442 1 0x6208045 qt hg (qF e9)))), o1 18 (by (exact fun e9 => qZ (qq2 [_] [1,0,29,18] 1 0x8802 1 0x1442 1 0x6208045 qt ng (qF e9)))), o1 19 (by (exact fun e9 => qZ (qq2 [_] [1,0,29,19] 1 0x8802 1 0x1442 1 0x6208045 qt ng (qF e9)))), hp]) (by (exact qq1 [_] [2,1,20000] 1 0x21042208045 1 0x21042208045 qt hl)) fun m4 e4 o4 X4 => ?_
  refine i_4c F X4 90 (q := B) rfl rfl rfl (Nat.mod_lt _ (by decide)) (by have := F.hi; (exact qq2 [_,_,_] [1,256,60000] 256 0x2208045 1 0x4208046 1 0xc138465 qt this (qD _ 256))) (by (exact Nat.le_antisymm (qq1 [_,_,_] [256] 1 0xe1010c5 1 0xe128066 qt (qD _ 256)) (qq1 [_,_,_] [256] 1 0x2021cc5 1 0x2600ce5 qt (qD' _ 256)))) ?_
  refine h _ _ _ m4 X4 ?_ ?_ ?_ e4 fun j h1 h2 h3 h4 => ?_
  · rw [o4 _ (by omega), o3 _ (by (exact fun e9 => qZ (qq1 [_] [1,0,2] 1 0x8802 2 0x804508845 qt (qF e9)))), o2 _ (by omega), e1]
  · rw [o4 _ (by omega), e3]
  · rw [o4 _ (by (exact fun e9 => qZ (qq1 [_] [1,0,2] 1 0x8802 2 0x804508845 qt (qF e9)))), o3 _ (by omega), e2]
  · rw [o4 j h4, o3 j h2, o2 j h3, o1 j h1]
end
end VE
namespace VE
/-! Chains of nodes. -/
noncomputable def Chain (m : Nat → Nat) : Nat → List Nat → Prop
  | p, [] => m (p + 1) = 0 ∧ m (p + 2) = 0
  | p, q :: r => m (p + 1) + m (p + 2) * 256 = q ∧ m (p + 2) ≠ 0 ∧ Chain m q r
theorem Chain.fr {m m' : Nat → Nat} : ∀ {l : List Nat} {p : Nat}, Chain m p l → (∀ q ∈ p :: l, m' (q + 1) = m (q + 1) ∧ m' (q + 2) = m (q + 2)) → Chain m' p l
  | [], p, h, k => by
    have := k p (.head _)
    exact ⟨this.1.trans h.1, this.2.trans h.2⟩
  | q :: r, p, h, k => by
    have := k p (.head _)
    exact ⟨by rw [this.1, this.2]; exact h.1, by rw [this.2]; exact h.2.1, h.2.2.fr fun q' hq => k q' (.tail _ hq)⟩
/-- Two chains of the same nodes have the same links. -/
theorem Chain.same {m m' : Nat → Nat} (b : ∀ a, m a < 256) (b' : ∀ a, m' a < 256) : ∀ {l : List Nat} {p : Nat}, Chain m p l → Chain m' p l → ∀ q ∈ p :: l, m' (q + 1) = m (q + 1) ∧ m' (q + 2) = m (q + 2)
  | [], p, h, k, q, hq => by
    rw [List.mem_singleton.mp hq, h.1, h.2, k.1, k.2]
    exact ⟨rfl, rfl⟩
  | z :: r, p, h, k, q, hq => by
    rcases List.mem_cons.mp hq with rfl | hq
    · have h1 := h.1
      have k1 := k.1
      have := b (q + 1)
      have := b' (q + 1)
      omega
    · exact h.2.2.same b b' k.2.2 q hq
/-- n goes in behind all whose keys are not above its own. -/
noncomputable def insK (key : Nat → Nat) (n : Nat) : List Nat → List Nat
  | [] => [n]
  | q :: r => cond (Nat.ble (key q) (key n)) (q :: insK key n r) (n :: q :: r)
/-- Where nodes may lie. -/
structure PlOk (PS : List Nat) : Prop where
  rg : ∀ q ∈ PS, 4096 ≤ q ∧ q + 2 < 20000
  far : ∀ q ∈ PS, ∀ q' ∈ PS, q ≠ q' → q + 3 ≤ q' ∨ q' + 3 ≤ q
section
variable {PS : List Nat} {t B b n sp x : Nat} {v : Nat → Nat} {r : Rg → Prop}
theorem PlOk.rg' (P : PlOk PS) {p : Nat} (hp : p = 25 ∨ p ∈ PS) : 25 ≤ p ∧ p + 2 < 20000 := by
  rcases hp with rfl | hp
  · decide
  · have := P.rg p hp; (exact ⟨qq1 [_] [25,4096] 1 0x1402 1 0x1422 qt this.1, qq1 [_] [2,1,20000] 1 0x21042208045 1 0x21042208045 qt this.2⟩)
theorem PlOk.sep (P : PlOk PS) {p q : Nat} (hp : p = 25 ∨ p ∈ PS) (hq : q ∈ PS) (h : p ≠ q) : p + 3 ≤ q ∨ q + 3 ≤ p := by
  rcases hp with rfl | hp
  · have := P.rg q hq; omega
  · exact P.far p hp q hq h
/-- Cells that the search does not touch. -/
structure Zn (j : Nat) : Prop where
  a : j ≠ 18
  b : j ≠ 19
  c : j ≠ 22
  d : j ≠ 23
  e : j ≠ 28
theorem Zn.hi {j : Nat} (h : 29 ≤ j) : Zn j := ⟨Nat.ne_of_gt (Nat.lt_of_lt_of_le (by decide) h), Nat.ne_of_gt (Nat.lt_of_lt_of_le (by decide) h), Nat.ne_of_gt (Nat.lt_of_lt_of_le (by decide) h), Nat.ne_of_gt (Nat.lt_of_lt_of_le (by decide) h), Nat.ne_of_gt (Nat.lt_of_lt_of_le (by decide) h)⟩
theorem Zn.of {j : Nat} (h : j < 18 ∨ 29 ≤ j) : Zn j := h.elim (fun h => ⟨Nat.ne_of_lt h, Nat.ne_of_lt (Nat.lt_of_lt_of_le h (by decide)), Nat.ne_of_lt (Nat.lt_of_lt_of_le h (by decide)), Nat.ne_of_lt (Nat.lt_of_lt_of_le h (by decide)), Nat.ne_of_lt (Nat.lt_of_lt_of_le h (by decide))⟩) .hi
noncomputable abbrev Kept (m m' : Nat → Nat) (l : List Nat) : Prop := ∀ j, Zn j → (∀ q ∈ l, j ≠ q + 1 ∧ j ≠ q + 2) → m' j = m j
/-- Cells of nodes that lie apart. -/
structure Ap3 (p z : Nat) : Prop where
  a : p + 1 ≠ z + 1 ∧ p + 1 ≠ z + 2
  b : p + 2 ≠ z + 1 ∧ p + 2 ≠ z + 2
  c : p ≠ z + 1 ∧ p ≠ z + 2
theorem ap3 {p z : Nat} (h : p + 3 ≤ z ∨ z + 3 ≤ p) : Ap3 p z := by
  refine ⟨⟨?_, ?_⟩, ⟨?_, ?_⟩, ⟨?_, ?_⟩⟩ <;> (rintro e; omega)
theorem PlOk.ge (P : PlOk PS) {p : Nat} (hp : p = 25 ∨ p ∈ PS) : Zn (p + 1) ∧ Zn (p + 2) := by
  rcases hp with rfl | hp
  · exact ⟨⟨by decide, by decide, by decide, by decide, by decide⟩, ⟨by decide, by decide, by decide, by decide, by decide⟩⟩
  · have h := Nat.le_trans (by decide : 29 ≤ 4096) (P.rg p hp).1
    exact ⟨.hi (Nat.le_succ_of_le h), .hi (Nat.le_succ_of_le (Nat.le_succ_of_le h))⟩
theorem PlOk.zn (P : PlOk PS) {p : Nat} (hp : p ∈ PS) : Zn p := .hi (Nat.le_trans (by decide : 29 ≤ 4096) (P.rg p hp).1)
theorem PlOk.g29 (P : PlOk PS) {p : Nat} (hp : p ∈ PS) : 29 ≤ p := Nat.le_trans (by decide : 29 ≤ 4096) (P.rg p hp).1
theorem PlOk.l2 (P : PlOk PS) {p : Nat} (hp : p ∈ PS) : p < 20000 := Nat.lt_of_le_of_lt (Nat.le_add_right p 2) (P.rg p hp).2
/-- n is put behind p. -/
theorem put_at (F : Fx t B) (P : PlOk PS) {l : List Nat} {p a y : Nat} {f : Fg} {m0 m : Nat → Nat} (X : MX t B m) (hp : m 18 + m 19 * 256 = p) (hn : m 20 + m 21 * 256 = n) (nP : n ∈ PS) (pP : p = 25 ∨ p ∈ PS) (lP : ∀ q ∈ l, q ∈ PS) (nn : n ∉ p :: l) (nd : (p :: l).Nodup)
    (C : Chain m p l) (fr : Kept m0 m (n :: p :: l)) (h : ∀ a y f m', MX t B m' → Chain m' p (n :: l) → Kept m0 m' (n :: p :: l) → Rb b ⟨B, sp, a, x, y, f, m'⟩ r) : Rb (b + 11) (RS B sp x 71 a y f m) r := by
  have rp := P.rg' pP
  have rn := P.rg n nP
  have ne : p ≠ n := fun e => nn (by rw [e]; exact .head _)
  have s := P.sep pP nP ne
  refine b_put F X hp hn rp.2 rp.1 rn.2 (P.g29 nP) s.symm fun a y f m' X' h1 h2 h3 h4 h5 => h a y f m' X' ⟨by rw [h3, h4]; exact hn, ?_, ?_⟩ fun j hj hq => ?_
  · rw [h4]
    intro e
    rw [e, Nat.zero_mul, Nat.add_zero] at hn
    have := X.byt 20
    rw [hn] at this
    exact absurd (Nat.lt_of_le_of_lt rn.1 this) (by decide)
  · have tl : ∀ q ∈ l, m' (q + 1) = m (q + 1) ∧ m' (q + 2) = m (q + 2) := fun q hq => by
      have s1 := ap3 (P.sep (.inr (lP q hq)) nP fun e => nn (by rw [← e]; exact .tail _ hq))
      have s2 := ap3 (P.sep pP (lP q hq) fun e => (List.nodup_cons.mp nd).1 (by rw [e]; exact hq)).symm
      exact ⟨h5 _ s1.a.1 s1.a.2 s2.a.1 s2.a.2, h5 _ s1.b.1 s1.b.2 s2.b.1 s2.b.2⟩
    cases l with
    | nil => exact ⟨h1.trans C.1, h2.trans C.2⟩
    | cons q r => exact ⟨by rw [h1, h2]; exact C.1, by rw [h2]; exact C.2.1, C.2.2.fr tl⟩
  · have q1 := hq n (.head _)
    have q2 := hq p (.tail _ (.head _))
    rw [h5 j q1.1 q1.2 q2.1 q2.2]
    exact fr j hj hq
theorem cells {PS : List Nat} (P : PlOk PS) {m m1 : Nat → Nat} (k : ∀ j, Zn j → m1 j = m j) {z : Nat} (hz : z = 25 ∨ z ∈ PS) : m1 (z + 1) = m (z + 1) ∧ m1 (z + 2) = m (z + 2) := ⟨k _ (P.ge hz).1, k _ (P.ge hz).2⟩
/-- The new node finds its place. -/
theorem inner (F : Fx t B) (P : PlOk PS) (nP : n ∈ PS) : ∀ (l : List Nat) (p a y : Nat) (f : Fg) (m : Nat → Nat), MX t B m → m 18 + m 19 * 256 = p → m 20 + m 21 * 256 = n → (p = 25 ∨ p ∈ PS) → (∀ q ∈ l, q ∈ PS) → n ∉ p :: l → (p :: l).Nodup → Chain m p l → (∀ q ∈ PS, m q = v q) →
    (∀ a y f m', MX t B m' → Chain m' p (insK (fun q => xr (v q) t) n l) → Kept m m' (n :: p :: l) → Rb b ⟨B, sp, a, x, y, f, m'⟩ r) → Rb (b + 20 * l.length + 26) (RS B sp x 32 a y f m) r
  | [], p, a, y, f, m, X, hp, hn, pP, lP, nn, nd, C, hv, h => by
    have rp := P.rg' pP
    refine Rb.mono (show b + 11 + 3 ≤ _ by simp only [List.length_nil]; omega) (b_last F X hp rp.2 C.2 fun a y f => ?_)
    exact put_at F P X hp hn nP pP lP nn nd C (fun _ _ _ => rfl) h
  | q :: l, p, a, y, f, m, X, hp, hn, pP, lP, nn, nd, C, hv, h => by
    have rp := P.rg' pP
    have qP : q ∈ PS := lP q (.head _)
    refine Rb.mono (show b + 20 * l.length + 26 + 6 + 14 ≤ _ by simp only [List.length_cons]; omega) (b_cmp F X hp rp.2 rp.1 C.2.1 C.1 hn (P.l2 qP) (P.g29 qP) (P.l2 nP) (P.g29 nP) fun y f m1 X1 hc h22 h23 k1 => ?_)
    rw [hv q qP, hv n nP] at hc
    have z1 : ∀ j, Zn j → m1 j = m j := fun j hj => k1 j hj.c hj.d hj.e
    have C1 : Chain m1 p (q :: l) := C.fr fun z hz => cells P z1 ((List.mem_cons.mp hz).elim (fun e => e ▸ pP) fun hz => .inr (lP z hz))
    have e18 := k1 18 (by decide) (by decide) (by decide)
    have e19 := k1 19 (by decide) (by decide) (by decide)
    have e20 := k1 20 (by decide) (by decide) (by decide)
    have e21 := k1 21 (by decide) (by decide) (by decide)
    cases hb : Nat.ble (xr (v q) t) (xr (v n) t) with
    | false =>
      refine Rb.mono (show b + 11 + 1 ≤ _ from Nat.le_trans (by omega) (Nat.le_add_right _ 6)) (b_stop F X1 (hc.trans hb) ?_)
      refine put_at F P (m0 := m) X1 (by rw [e18, e19]; exact hp) (by rw [e20, e21]; exact hn) nP pP lP nn nd C1 (fun j hj _ => z1 j hj) fun a y f m' X' C' K' => h a y f m' X' ?_ K'
      show Chain m' p (cond (Nat.ble (xr (v q) t) (xr (v n) t)) _ _)
      rw [hb]
      exact C'
    | true =>
      refine b_on F X1 (hc.trans hb) (by rw [h23]; exact C.2.1) fun a f m2 X2 a18 a19 k2 => ?_
      have k12 : ∀ j, Zn j → m2 j = m j := fun j hj => (k2 j hj.a hj.b).trans (z1 j hj)
      have nd' := List.nodup_cons.mp nd
      refine inner F P nP l q a y f m2 X2 (by rw [a18, a19, h22, h23]; exact C.1) (by rw [k12 20 ⟨by decide, by decide, by decide, by decide, by decide⟩, k12 21 ⟨by decide, by decide, by decide, by decide, by decide⟩]; exact hn) (.inr qP) (fun z hz => lP z (.tail _ hz)) (fun hz => nn (.tail _ hz)) nd'.2 (C.2.2.fr fun z hz => cells P k12 (.inr (lP z hz))) (fun z hz => (k12 z (P.zn hz)).trans (hv z hz)) fun a y f m' X' C' K' => h a y f m' X' ?_ fun j hj hq => ?_
      · show Chain m' p (cond (Nat.ble (xr (v q) t) (xr (v n) t)) _ _)
        rw [hb]
        have g : ∀ z ∈ n :: q :: l, Ap3 p z := fun z hz => by
          rcases List.mem_cons.mp hz with rfl | hz
          · exact ap3 (P.sep pP nP fun e => nn (by rw [e]; exact .head _))
          · exact ap3 (P.sep pP (lP z hz) fun e => nd'.1 (by rw [e]; exact hz))
        have zp := P.ge pP
        have f1 : m' (p + 1) = m (p + 1) := (K' _ zp.1 fun z hz => (g z hz).a).trans (k12 _ zp.1)
        have f2 : m' (p + 2) = m (p + 2) := (K' _ zp.2 fun z hz => (g z hz).b).trans (k12 _ zp.2)
        exact ⟨by rw [f1, f2]; exact C.1, by rw [f2]; exact C.2.1, C'⟩
      · exact (K' j hj fun z hz => hq z ((List.mem_cons.mp hz).elim (fun e => e ▸ .head _) fun hz => .tail _ (.tail _ hz))).trans (k12 j hj)
theorem ins_mem {key : Nat → Nat} : ∀ {l : List Nat} {z : Nat}, z ∈ insK key n l → z = n ∨ z ∈ l
  | [], z, h => .inl (List.mem_singleton.mp h)
  | q :: l, z, h => by
    unfold insK at h
    cases hb : Nat.ble (key q) (key n) with
    | false =>
      rw [hb] at h
      exact (List.mem_cons.mp h)
    | true =>
      rw [hb] at h
      rcases List.mem_cons.mp h with rfl | h
      · exact .inr (.head _)
      · exact (ins_mem h).imp id (.tail _)
theorem ins_nodup {key : Nat → Nat} : ∀ {l : List Nat}, n ∉ l → l.Nodup → (insK key n l).Nodup
  | [], _, _ => List.nodup_cons.mpr ⟨List.not_mem_nil, .nil⟩
  | q :: l, hn, nd => by
    have nd' := List.nodup_cons.mp nd
    unfold insK
    cases Nat.ble (key q) (key n) with
    | false => exact List.nodup_cons.mpr ⟨hn, nd⟩
    | true =>
      refine List.nodup_cons.mpr ⟨fun h => ?_, ins_nodup (fun h => hn (.tail _ h)) nd'.2⟩
      rcases ins_mem h with rfl | h
      · exact hn (.head _)
      · exact nd'.1 h
theorem ins_len {key : Nat → Nat} : ∀ {l : List Nat}, (insK key n l).length = l.length + 1
  | [] => rfl
  | q :: l => by
    unfold insK
    cases Nat.ble (key q) (key n) with
    | false => rfl
    | true =>
      show (insK key n l).length + 1 = _
      rw [ins_len]; rfl
/-- All nodes, one after the other. -/
noncomputable def insAll (key : Nat → Nat) : List Nat → List Nat → List Nat
  | [], s => s
  | n :: r, s => insAll key r (insK key n s)
noncomputable abbrev Same (PS : List Nat) (m m' : Nat → Nat) : Prop := ∀ j, (j < 18 ∨ 29 ≤ j) → (∀ q ∈ PS, j ≠ q + 1 ∧ j ≠ q + 2) → m' j = m j
theorem outer (F : Fx t B) (P : PlOk PS) : ∀ (rest s : List Nat) (a y : Nat) (f : Fg) (m : Nat → Nat), MX t B m → Chain m 23 rest → Chain m 25 s → (∀ q ∈ rest ++ s, q ∈ PS) → (rest ++ s).Nodup → rest.length + s.length ≤ 5 → (∀ q ∈ PS, m q = v q) →
    (∀ a y f m', MX t B m' → Chain m' 25 (insAll (fun q => xr (v q) t) rest s) → m' 24 = 0 → m' 25 = 0 → Same PS m m' → r ⟨600, sp, a, x, y, f, m'⟩) → Rb (121 * rest.length + 3) ⟨B, sp, a, x, y, f, m⟩ r
  | [], s, a, y, f, m, X, C, D, iP, nd, hl, hv, h => by
    exact b_end F X C.2 (h _ _ _ m X D C.1 C.2 fun _ _ _ => rfl)
  | n :: rest, s, a, y, f, m, X, C, D, iP, nd, hl, hv, h => by
    have nP : n ∈ PS := iP n (.head _)
    have nd' := List.nodup_cons.mp (show (n :: (rest ++ s)).Nodup from nd)
    have nda := List.nodup_append.mp nd'.2
    have sP : ∀ q ∈ s, q ∈ PS := fun q hq => iP q (List.mem_append_right _ hq)
    have rP : ∀ q ∈ rest, q ∈ PS := fun q hq => iP q (.tail _ (List.mem_append_left _ hq))
    have ns : n ∉ s := fun h => nd'.1 (List.mem_append_right _ h)
    have n25 : (25 : Nat) ∉ PS := fun h => absurd (P.g29 h) (by decide)
    have hl' : rest.length + 1 + s.length ≤ 5 := hl
    refine Rb.mono (show 121 * rest.length + 3 + 20 * s.length + 26 + 15 ≤ _ by simp only [List.length_cons]; omega) (b_take F X C.1 C.2.1 (P.rg n nP).2 (P.g29 nP) fun a y f m1 X1 e18 e20 e21 e24 e25 k1 => ?_)
    have kp : ∀ q ∈ PS, m1 q = m q ∧ m1 (q + 1) = m (q + 1) ∧ m1 (q + 2) = m (q + 2) := fun q hq => by
      have := Nat.le_trans (by decide : 26 ≤ 29) (P.g29 hq)
      exact ⟨k1 _ (.inr this), k1 _ (.inr (Nat.le_succ_of_le this)), k1 _ (.inr (Nat.le_succ_of_le (Nat.le_succ_of_le this)))⟩
    have mc : ∀ {z : Nat}, z ∈ n :: 25 :: s → z = 25 ∨ z ∈ PS := fun hz => by
      rcases List.mem_cons.mp hz with rfl | hz
      · exact .inr nP
      · exact (List.mem_cons.mp hz).imp id (sP _)
    refine inner (v := v) F P nP s 25 a y f m1 X1 e18 (by rw [e20, e21]; exact C.1) (.inl rfl) sP (fun h => (List.mem_cons.mp h).elim (fun e => n25 (e ▸ nP)) ns) (List.nodup_cons.mpr ⟨fun h => n25 (sP _ h), nda.2.1⟩) (D.fr fun z hz => by
        rcases List.mem_cons.mp hz with rfl | hz
        · exact ⟨k1 _ (.inr (by decide)), k1 _ (.inr (by decide))⟩
        · exact (kp z (sP z hz)).2) (fun q hq => (kp q hq).1.trans (hv q hq)) fun a y f m2 X2 C2 K2 => ?_
    have gap : ∀ z ∈ PS, z ∉ n :: s → ∀ q ∈ n :: 25 :: s, Ap3 z q := fun z hz nz q hq => by
      rcases List.mem_cons.mp hq with rfl | hq
      · exact ap3 (P.far z hz q nP fun e => nz (by rw [e]; exact .head _))
      · rcases List.mem_cons.mp hq with rfl | hq
        · exact ap3 (P.sep (.inl rfl) hz fun e => n25 (e ▸ hz)).symm
        · exact ap3 (P.far z hz q (sP q hq) fun e => nz (by rw [e]; exact .tail _ hq))
    have lowq : ∀ q ∈ n :: 25 :: s, ∀ j, j < 26 → j ≠ q + 1 ∧ j ≠ q + 2 := fun q hq j hj => by
      have := (P.rg' (mc hq)).1
      exact ⟨Nat.ne_of_lt (Nat.lt_of_lt_of_le hj (Nat.succ_le_succ this)), Nat.ne_of_lt (Nat.lt_of_lt_of_le hj (Nat.succ_le_succ (Nat.le_succ_of_le this)))⟩
    have keep : ∀ z ∈ rest, m2 (z + 1) = m (z + 1) ∧ m2 (z + 2) = m (z + 2) := fun z hz => by
      have g := gap z (rP z hz) fun h => by
        rcases List.mem_cons.mp h with rfl | h
        · exact nd'.1 (List.mem_append_left _ hz)
        · exact nda.2.2 z hz z h rfl
      have c := (kp z (rP z hz)).2
      have zz := P.ge (.inr (rP z hz))
      exact ⟨(K2 _ zz.1 fun q hq => (g q hq).a).trans c.1, (K2 _ zz.2 fun q hq => (g q hq).b).trans c.2⟩
    have f24 : m2 24 = m (n + 1) := (K2 24 ⟨by decide, by decide, by decide, by decide, by decide⟩ fun q hq => lowq q hq 24 (by decide)).trans e24
    have f25 : m2 25 = m (n + 2) := (K2 25 ⟨by decide, by decide, by decide, by decide, by decide⟩ fun q hq => lowq q hq 25 (by decide)).trans e25
    refine outer F P rest (insK (fun q => xr (v q) t) n s) a y f m2 X2 ?_ C2 ?_ ?_ (by rw [ins_len]; omega) (fun q hq => ?_) fun a y f m' X' C' z24 z25 S' => h a y f m' X' C' z24 z25 fun j hj hq => ?_
    · have C3 := C.2.2
      cases rest with
      | nil => exact ⟨f24.trans C3.1, f25.trans C3.2⟩
      | cons q r => exact ⟨by rw [f24, f25]; exact C3.1, by rw [f25]; exact C3.2.1, C3.2.2.fr keep⟩
    · intro q hq
      rcases List.mem_append.mp hq with hq | hq
      · exact rP q hq
      · rcases ins_mem hq with rfl | hq
        · exact nP
        · exact sP q hq
    · refine List.nodup_append.mpr ⟨nda.1, ins_nodup ns nda.2.1, fun u hu w hw e => ?_⟩
      rcases ins_mem hw with rfl | hw
      · exact nd'.1 (List.mem_append_left _ (by rw [← e]; exact hu))
      · exact nda.2.2 u hu w hw e
    · refine ((K2 q (P.zn hq) fun z hz => ?_).trans (kp q hq).1).trans (hv q hq)
      by_cases e : q = z
      · rw [e]
        exact ⟨Nat.ne_of_lt (Nat.lt_succ_self z), Nat.ne_of_lt (Nat.lt_succ_of_lt (Nat.lt_succ_self z))⟩
      · exact (ap3 (P.sep (mc hz) hq fun h => e h.symm).symm).c
    · rw [S' j hj hq, K2 j (.of hj) fun q hq' => ?_, k1 j (hj.imp id (Nat.le_trans (by decide)))]
      rcases List.mem_cons.mp hq' with rfl | hq'
      · exact hq _ nP
      · rcases List.mem_cons.mp hq' with rfl | hq'
        · exact hj.elim (fun h => ⟨Nat.ne_of_lt (Nat.lt_of_lt_of_le h (by decide)), Nat.ne_of_lt (Nat.lt_of_lt_of_le h (by decide))⟩) fun h => ⟨Nat.ne_of_gt (Nat.lt_of_lt_of_le (by decide) h), Nat.ne_of_gt (Nat.lt_of_lt_of_le (by decide) h)⟩
        · exact hq q (sP q hq')
end
end VE
namespace VE
/-! The order of the nodes. -/
noncomputable abbrev lexK (kk : Nat → Nat) (p q : Nat) : Prop := kk p < kk q ∨ (kk p = kk q ∧ p < q)
theorem uniqP {α : Type} {R : α → α → Prop} (as : ∀ a b, R a b → R b a → False) : ∀ {l l' : List α}, l.Perm l' → l.Pairwise R → l'.Pairwise R → l = l'
  | [], l', p, _, _ => (List.nil_perm.mp p).symm
  | a :: r, [], p, _, _ => absurd p.symm.nil_eq (fun h => by cases h)
  | a :: r, b :: r', p, h, h' => by
    have h1 := List.pairwise_cons.mp h
    have h2 := List.pairwise_cons.mp h'
    have e : a = b := Classical.byContradiction fun ne => by
      have ha : a ∈ r' := by
        rcases List.mem_cons.mp (p.mem_iff.mp (List.mem_cons_self ..)) with q | q
        · exact absurd q ne
        · exact q
      have hb : b ∈ r := by
        rcases List.mem_cons.mp (p.mem_iff.mpr (List.mem_cons_self ..)) with q | q
        · exact absurd q.symm ne
        · exact q
      exact as a b (h1.1 b hb) (h2.1 a ha)
    subst e
    rw [uniqP as p.cons_inv h1.2 h2.2]
section
variable {kk : Nat → Nat}
theorem ins_perm (n : Nat) : ∀ l : List Nat, (insK kk n l).Perm (n :: l)
  | [] => List.Perm.refl _
  | q :: l => by
    unfold insK
    cases Nat.ble (kk q) (kk n) with
    | false => exact List.Perm.refl _
    | true => exact ((ins_perm n l).cons q).trans (List.Perm.swap n q l)
theorem ins_asc {n : Nat} : ∀ {l : List Nat}, (∀ q ∈ l, q < n) → l.Pairwise (lexK kk) → (insK kk n l).Pairwise (lexK kk)
  | [], _, _ => List.pairwise_singleton _ _
  | q :: l, hn, h => by
    have h1 := List.pairwise_cons.mp h
    unfold insK
    cases hb : Nat.ble (kk q) (kk n) with
    | true =>
      have hb := Nat.le_of_ble_eq_true hb
      have hq := hn q (.head _)
      refine List.pairwise_cons.mpr ⟨fun z hz => ?_, ins_asc (fun z hz => hn z (.tail _ hz)) h1.2⟩
      rcases List.mem_cons.mp ((ins_perm n l).mem_iff.mp hz) with rfl | hz
      · rcases Nat.lt_or_eq_of_le hb with h | h
        · exact .inl h
        · exact .inr ⟨h, hq⟩
      · exact h1.1 z hz
    | false =>
      have hb : kk n < kk q := Nat.lt_of_not_le fun h => by rw [Nat.ble_eq_true_of_le h] at hb; cases hb
      refine List.pairwise_cons.mpr ⟨fun z hz => ?_, h⟩
      rcases List.mem_cons.mp hz with rfl | hz
      · exact .inl hb
      · rcases h1.1 z hz with h | h
        · exact .inl (Nat.lt_trans hb h)
        · exact .inl (by rw [← h.1]; exact hb)
theorem insAll_perm : ∀ (l s : List Nat), (insAll kk l s).Perm (l ++ s)
  | [], s => List.Perm.refl _
  | n :: l, s => (insAll_perm l _).trans ((List.Perm.append_left l (ins_perm n s)).trans List.perm_middle)
theorem insAll_asc : ∀ {l s : List Nat}, l.Pairwise (· < ·) → (∀ q ∈ s, ∀ n ∈ l, q < n) → s.Pairwise (lexK kk) → (insAll kk l s).Pairwise (lexK kk)
  | [], s, _, _, h => h
  | n :: l, s, hl, hs, h => by
    have h1 := List.pairwise_cons.mp hl
    show (insAll kk l (insK kk n s)).Pairwise (lexK kk)
    refine insAll_asc h1.2 (fun q hq z hz => ?_) (ins_asc (fun q hq => hs q hq n (.head _)) h)
    rcases List.mem_cons.mp ((ins_perm n s).mem_iff.mp hq) with rfl | hq
    · exact h1.1 z hz
    · exact hs q hq z (.tail _ hz)
theorem ins_map {key P : Nat → Nat} {n : Nat} : ∀ l : List Nat, insK key (P n) (l.map P) = (insK (fun i => key (P i)) n l).map P
  | [] => rfl
  | q :: l => by
    show insK key (P n) (P q :: l.map P) = _
    unfold insK
    cases Nat.ble (key (P q)) (key (P n)) with
    | false => rfl
    | true => exact congrArg _ (ins_map l)
theorem insAll_map {key P : Nat → Nat} : ∀ l s : List Nat, insAll key (l.map P) (s.map P) = (insAll (fun i => key (P i)) l s).map P
  | [], s => rfl
  | n :: l, s => by
    show insAll key (l.map P) (insK key (P n) (s.map P)) = _
    rw [ins_map]
    exact insAll_map l _
/-- The sorted order is that of the insertions. -/
theorem order_is {c : Nat} {ks : List Int} {r : List Nat} (hl : ks.length = c) (hk : ∀ i, i < c → ks[i]? = some (kk i : Int)) (h : SortQ ks r) : r = insAll kk (List.range c) [] := by
  refine uniqP (R := lexK kk) (fun a b h1 h2 => by unfold lexK at h1 h2; omega) ?_ ?_ (insAll_asc List.pairwise_lt_range (fun q hq => by cases hq) .nil)
  · have := insAll_perm (kk := kk) (List.range c) []
    rw [List.append_nil] at this
    have h1 := h.perm
    rw [hl] at h1
    exact h1.trans this.symm
  · have m : ∀ p ∈ r, p < c := fun p hp => by
      have := h.perm.mem_iff.mp hp
      rw [hl] at this
      exact List.mem_range.mp this
    have g : ∀ p, p < c → ks.getD p 0 = (kk p : Int) := fun p hp => by rw [List.getD_eq_getElem?_getD, hk p hp]; rfl
    refine h.asc.imp_of_mem fun {p q} hp hq k => ?_
    rw [g p (m p hp), g q (m q hq)] at k
    unfold lexK
    omega
end
/-! The key: the bits that differ. -/
theorem and_le_or (a b : Nat) : a &&& b ≤ a ||| b := Nat.le_trans Nat.and_le_left Nat.left_le_or
theorem sub_step {o n : Nat} (h : n / 2 ≤ o / 2) (h2 : n % 2 ≤ o % 2) : o - n = (o % 2 - n % 2) + 2 * (o / 2 - n / 2) := by omega
theorem two_b (a : Nat) : a % 2 = 0 ∨ a % 2 = 1 := Nat.mod_two_eq_zero_or_one a
theorem xr_step (a b : Nat) : xr a b = (if a % 2 = b % 2 then 0 else 1) + 2 * xr (a / 2) (b / 2) := by
  have e1 : (a ||| b) / 2 = (a / 2) ||| (b / 2) := Nat.or_div_two
  have e2 : (a &&& b) / 2 = (a / 2) &&& (b / 2) := Nat.and_div_two
  have m1 : (a ||| b) % 2 = (a % 2) ||| (b % 2) := Nat.or_mod_two_pow (n := 1)
  have m2 : (a &&& b) % 2 = (a % 2) &&& (b % 2) := Nat.and_mod_two_pow (n := 1)
  have key : (b &&& a) % 2 ≤ (a ||| b) % 2 ∧ (a ||| b) % 2 - (a &&& b) % 2 = if a % 2 = b % 2 then 0 else 1 := by
    rw [Nat.and_comm b a, m1, m2]
    rcases two_b a with ha | ha <;> rcases two_b b with hb | hb <;> rw [ha, hb] <;> decide
  rw [Nat.and_comm b a] at key
  show (a ||| b) - (a &&& b) = _ + 2 * ((a / 2 ||| b / 2) - (a / 2 &&& b / 2))
  rw [sub_step (by rw [e1, e2]; exact and_le_or _ _) key.1, e1, e2, key.2]
/-- The weights of the bits that differ, from bit k on. -/
noncomputable def bitD (a b : Nat) : Nat → Nat → List Int
  | 0, _ => []
  | n + 1, k => cond (Nat.beq (a / 2 ^ k % 2) (b / 2 ^ k % 2)) (bitD a b n (k + 1)) (((2 ^ k : Nat) : Int) :: bitD a b n (k + 1))
noncomputable def sumI : List Int → Int
  | [] => 0
  | z :: r => z + sumI r
theorem bitD_sum (a b : Nat) : ∀ n k, sumI (bitD a b n k) + ((2 ^ (k + n) * xr (a / 2 ^ (k + n)) (b / 2 ^ (k + n)) : Nat) : Int) = ((2 ^ k * xr (a / 2 ^ k) (b / 2 ^ k) : Nat) : Int)
  | 0, k => by
    show (0 : Int) + _ = _
    rw [Nat.add_zero, Int.zero_add]
  | n + 1, k => by
    have ih := bitD_sum a b n (k + 1)
    rw [show k + 1 + n = k + (n + 1) by (exact Nat.le_antisymm (qq0 [_,_] [1] 0x84023142608045 qt) (qq0 [_,_] [1] 0x982011421008c5 qt))] at ih
    have st := xr_step (a / 2 ^ k) (b / 2 ^ k)
    rw [Nat.div_div_eq_div_mul, Nat.div_div_eq_div_mul, ← Nat.pow_succ] at st
    have e : 2 ^ k * xr (a / 2 ^ k) (b / 2 ^ k) = (2 ^ k * if a / 2 ^ k % 2 = b / 2 ^ k % 2 then 0 else 1) + 2 ^ (k + 1) * xr (a / 2 ^ (k + 1)) (b / 2 ^ (k + 1)) := by
      rw [st, Nat.mul_add, ← Nat.mul_assoc, ← Nat.pow_succ]
    rw [e]
    unfold bitD
    cases hb : Nat.beq (a / 2 ^ k % 2) (b / 2 ^ k % 2) with
    | true =>
      rw [if_pos (Nat.eq_of_beq_eq_true hb), Nat.mul_zero, Nat.zero_add]
      exact ih
    | false =>
      rw [if_neg (nbeq.mp hb), Nat.mul_one]
      show ((2 ^ k : Nat) : Int) + sumI _ + _ = _
      rw [Int.add_assoc, ih]
      exact (Int.natCast_add _ _).symm
theorem bitD_xr {a b : Nat} (ha : a < 256) (hb : b < 256) : sumI (bitD a b 8 0) = (xr a b : Int) := by
  have h := bitD_sum a b 8 0
  rw [Nat.zero_add, Nat.div_eq_of_lt (show a < 2 ^ 8 from ha), Nat.div_eq_of_lt (show b < 2 ^ 8 from hb), Nat.pow_zero, Nat.div_one, Nat.div_one, Nat.one_mul, show xr 0 0 = 0 by decide, Nat.mul_zero] at h
  simpa using h
end VE
namespace VE
/-! Stretches of the memory written over. -/
noncomputable def puts (m : Nat → Nat) : Nat → List Nat → Nat → Nat
  | _, [] => m
  | a, z :: r => puts (upd m a z) (a + 1) r
theorem puts_out : ∀ (l : List Nat) (m : Nat → Nat) (a j : Nat), j < a ∨ a + l.length ≤ j → puts m a l j = m j
  | [], m, a, j, _ => rfl
  | z :: r, m, a, j, h => by
    have h' : j < a ∨ a + (r.length + 1) ≤ j := h
    show puts (upd m a z) (a + 1) r j = _
    rw [puts_out r _ _ _ (by omega), upd_ne (by omega)]
theorem puts_in : ∀ (l : List Nat) (m : Nat → Nat) (a i z : Nat), l[i]? = some z → puts m a l (a + i) = z
  | [], _, _, _, _, h => by simp at h
  | y :: r, m, a, 0, z, h => by
    show puts (upd m a y) (a + 1) r (a + 0) = _
    rw [puts_out r _ _ _ (by omega), Nat.add_zero, upd_self]
    exact Option.some.inj h
  | y :: r, m, a, i + 1, z, h => by
    have := puts_in r (upd m a y) (a + 1) i z h
    show puts (upd m a y) (a + 1) r (a + (i + 1)) = _
    rw [← this]; congr 1; (exact Nat.le_antisymm (qq0 [_,_] [1] 0x982011421008c5 qt) (qq0 [_,_] [1] 0x84023142608045 qt))
theorem ml_put {L a b : Nat} {m : Nat → Nat} {l : List Nat} (h : a + l.length = b) (hL : b ≤ L) : (ml L m).take a ++ nv l ++ (ml L m).drop b = ml L (puts m a l) := by
  subst h
  refine List.ext_getElem? fun j => ?_
  have lt : (List.take a (ml L m)).length = a := by rw [List.length_take, ml_len]; omega
  rcases Nat.lt_or_ge j L with hj | hj
  · rw [ml_at' hj]
    rcases Nat.lt_or_ge j a with h1 | h1
    · rw [List.append_assoc, List.getElem?_append_left (by rw [lt]; exact h1), List.getElem?_take_of_lt h1, ml_at' hj, puts_out l m a j (.inl h1)]
    · rcases Nat.lt_or_ge j (a + l.length) with h2 | h2
      · rw [List.append_assoc, List.getElem?_append_right (by rw [lt]; exact h1), lt, List.getElem?_append_left (by rw [nv_len]; (exact qq2 [_,_,_,_] [1] 1 0x608045 1 0x4c808047 1 0x38505 qt h2 (qR (qq1 [_,_] [] 1 0xc5 1 0xc5 qt h1))))]
        have hl : j - a < l.length := by (exact qq2 [_,_,_,_] [1] 1 0x608045 1 0x4c808047 1 0x38505 qt h2 (qR (qq1 [_,_] [] 1 0xc5 1 0xc5 qt h1)))
        have e : l[j - a]? = some l[j - a] := List.getElem?_eq_getElem hl
        have := puts_in l m a (j - a) _ e
        rw [show a + (j - a) = j by (exact Nat.le_antisymm (qq1 [_,_,_] [] 1 0x384c5 1 0x384a6 qt (qR (qq1 [_,_] [] 1 0xc5 1 0xc5 qt h1))) (qq1 [_,_,_] [] 1 0x9cc5 1 0x98e5 qt (qS _ _)))] at this
        rw [this]
        exact nv_at e
      · rw [List.getElem?_append_right (by rw [List.length_append, lt, nv_len]; exact h2), List.length_append, lt, nv_len, List.getElem?_drop, show a + l.length + (j - (a + l.length)) = j by (exact Nat.le_antisymm (qq1 [_,_,_,_] [] 1 0x101384c5 1 0x101098a7 qt (qR (qq1 [_,_,_] [] 1 0x384c5 1 0x384c5 qt h2))) (qq1 [_,_,_,_] [] 1 0x2809cc5 1 0x2139905 qt (qS _ _))), ml_at' hj, puts_out l m a j (.inr h2)]
  · rw [List.getElem?_eq_none (by rw [List.length_append, List.length_append, lt, nv_len, List.length_drop, ml_len]; (exact qq2 [_,_,_,_,_] [] 1 0x101384c5 1 0x109 1 0x121098a7 qt hj (qR (qq1 [_,_,_] [] 1 0x384c5 1 0x384c5 qt hL)))), List.getElem?_eq_none (by rw [ml_len]; exact hj)]
theorem ml_sl {L a n : Nat} {m : Nat → Nat} (h : a + n ≤ L) : ((ml L m).drop a).take n = nv ((List.range n).map fun i => m (a + i)) := by
  refine List.ext_getElem? fun j => ?_
  rcases Nat.lt_or_ge j n with hj | hj
  · rw [List.getElem?_take_of_lt hj, List.getElem?_drop, ml_at' (by (exact qq2 [_,_,_,_] [1] 1 0x1c20104c5 1 0x38505 1 0x808046 qt h hj))]
    have e : ((List.range n).map fun i => m (a + i))[j]? = some (m (a + j)) := by rw [List.getElem?_map, List.getElem?_range hj]; rfl
    exact (nv_at e).symm
  · rw [List.getElem?_eq_none (by rw [List.length_take, List.length_drop, ml_len]; omega), List.getElem?_eq_none (by rw [nv_len, List.length_map, List.length_range]; exact hj)]
/-- The first n of c nodes, each with a link to the next. -/
noncomputable abbrev nxt (P : Nat → Nat) (c i : Nat) : Nat := if i + 1 < c then P (i + 1) else 0
noncomputable def wrN (g : Nat → Nat) (P v : Nat → Nat) (c : Nat) : Nat → Nat → Nat
  | 0 => g
  | n + 1 => puts (wrN g P v c n) (P n) [v n, nxt P c n % 256, nxt P c n / 256]
section
variable {g P v : Nat → Nat} {c : Nat}
structure Apt (P : Nat → Nat) (c : Nat) : Prop where
  rg : ∀ i, i < c → 4096 ≤ P i ∧ P i + 2 < 20000
  far : ∀ i j, i < c → j < c → i ≠ j → P i + 3 ≤ P j ∨ P j + 3 ≤ P i
theorem wrN_out : ∀ (n j : Nat), (∀ i, i < n → j < P i ∨ P i + 3 ≤ j) → wrN g P v c n j = g j
  | 0, j, _ => rfl
  | n + 1, j, h => by
    show puts _ _ _ j = _
    rw [puts_out _ _ _ _ (h n (Nat.lt_succ_self n))]
    exact wrN_out n j fun i hi => h i (Nat.lt_succ_of_lt hi)
theorem wrN_at (A : Apt P c) : ∀ (n i : Nat), n ≤ c → i < n → wrN g P v c n (P i) = v i ∧ wrN g P v c n (P i + 1) = nxt P c i % 256 ∧ wrN g P v c n (P i + 2) = nxt P c i / 256
  | 0, i, _, h => by omega
  | n + 1, i, hn, h => by
    by_cases e : i = n
    · subst e
      exact ⟨puts_in _ _ _ 0 _ rfl, puts_in _ _ _ 1 _ rfl, puts_in _ _ _ 2 _ rfl⟩
    · have := A.far i n (by (exact qq2 [_,_,_] [1] 1 0x608045 1 0x608047 1 0x804708045 qt hn h)) (by (exact qq1 [_,_] [1] 1 0x608045 1 0x608045 qt hn)) e
      have ih := wrN_at A n i (by (exact qq1 [_,_] [1] 1 0xc5 1 0x608045 qt hn)) (by omega)
      show puts _ _ _ _ = _ ∧ puts _ _ _ _ = _ ∧ puts _ _ _ _ = _
      have l3 : [v n, nxt P c n % 256, nxt P c n / 256].length = 3 := rfl
      rw [puts_out _ _ _ _ (by rw [l3]; omega), puts_out _ _ _ _ (by rw [l3]; omega), puts_out _ _ _ _ (by rw [l3]; omega)]
      exact ih
theorem chain_of (A : Apt P c) {M : Nat → Nat} (h : ∀ i, i < c → M (P i + 1) = nxt P c i % 256 ∧ M (P i + 2) = nxt P c i / 256) : ∀ (n k p : Nat), n + k = c → M (p + 1) = (if k < c then P k else 0) % 256 → M (p + 2) = (if k < c then P k else 0) / 256 → Chain M p ((List.range' k n).map P)
  | 0, k, p, e, h1, h2 => by
    rw [if_neg (by omega)] at h1 h2
    exact ⟨h1, h2⟩
  | n + 1, k, p, e, h1, h2 => by
    have hk : k < c := by (exact qq1 [_,_,_] [1] 1 0x608045 1 0x182508047 qt (qE e))
    rw [if_pos hk] at h1 h2
    have r := A.rg k hk
    have := h k hk
    exact ⟨by (exact Nat.le_antisymm (qq3 [_,_,_,_,_] [256] 1 0xe1010c5 1 0x105 256 0x126 1 0xe140069 qt (qE h1) (qE h2) (qD _ 256)) (qq3 [_,_,_,_,_] [256] 1 0x2021cc5 1 0xc8 256 0xe9 1 0x2800d25 qt (qF h1) (qF h2) (qD' _ 256))), by (exact fun e9 => qZ (qq5 [_,_,_,_] [1,0,4096,256] 515 0x8802 512 0xc5 2 0x1c42 512 0x446 2 0x2818ca7 2 0x6208048 qt (qF h2) r.1 (qE e9) (qD' _ 256) (qM _ 255))), chain_of A h n (k + 1) (P k) (by (exact Nat.le_antisymm (qq1 [_,_,_] [1] 1 0x1c21008c5 1 0x1c2608045 qt (qE e)) (qq1 [_,_,_] [1] 1 0x42011cc5 1 0x4e1008c5 qt (qF e)))) this.1 this.2⟩
theorem range'_0 (c : Nat) : List.range' 0 c = List.range c := (List.range_eq_range' ..).symm
end
/-! The memory ahead of the run, and behind it. -/
section
variable {t B c : Nat} {P v : Nat → Nat}
noncomputable def gnd (t B : Nat) : Nat → Nat := puts (fun _ => 0) B (cd t B)
noncomputable def mst (t B c : Nat) (P v : Nat → Nat) : Nat → Nat := puts (wrN (gnd t B) P v c c) 24 [P 0 % 256, P 0 / 256]
theorem oct_mid {l r : List Nat} {x : Nat} (hl : (l.all fun z => Nat.blt z 256) = true) (hx : x < 256) (hr : ∀ z ∈ r, z < 256) : ∀ z ∈ l ++ x :: r, z < 256 := fun z hz => by
  rcases List.mem_append.mp hz with h | h
  · exact Nat.le_of_ble_eq_true (List.all_eq_true.mp hl z h)
  · rcases List.mem_cons.mp h with rfl | h
    · exact hx
    · exact hr z h
theorem cd_oct (F : Fx t B) : ∀ z ∈ cd t B, z < 256 :=
  oct_mid (l := (cd 0 0).take 50) (x := t) rfl F.t8 (oct_mid (l := ((cd 0 0).drop 51).take 5) (x := t) rfl F.t8 (oct_mid (l := ((cd 0 0).drop 57).take 34) (x := B % 256) rfl (Nat.mod_lt _ (by decide)) fun z hz => by
    rw [List.mem_singleton.mp hz]
    have := F.hi
    omega))
theorem gnd_out {j : Nat} (h : j < B) : gnd t B j = 0 := puts_out _ _ _ _ (.inl h)
theorem gnd_lt (F : Fx t B) (j : Nat) : gnd t B j < 256 := by
  unfold gnd
  rcases Nat.lt_or_ge j B with h | h
  · rw [puts_out _ _ _ _ (.inl h)]; decide
  · rcases Nat.lt_or_ge j (B + (cd t B).length) with h2 | h2
    · have hl : j - B < (cd t B).length := by (exact qq2 [_,_,_,_] [1] 1 0x608045 1 0x4c808047 1 0x38505 qt h2 (qR (qq1 [_,_] [] 1 0xc5 1 0xc5 qt h)))
      have := puts_in (cd t B) (fun _ => 0) B (j - B) _ (List.getElem?_eq_getElem hl)
      rw [show B + (j - B) = j by (exact Nat.le_antisymm (qq1 [_,_,_] [] 1 0x384c5 1 0x384a6 qt (qR (qq1 [_,_] [] 1 0xc5 1 0xc5 qt h))) (qq1 [_,_,_] [] 1 0x9cc5 1 0x98e5 qt (qS _ _)))] at this
      rw [this]
      exact cd_oct F _ (List.getElem_mem hl)
    · rw [puts_out _ _ _ _ (.inr h2)]; decide
theorem nxt_lt (A : Apt P c) {i : Nat} (h : i < c) : nxt P c i < 65536 := by
  unfold nxt
  split
  · have := A.rg (i + 1) (by assumption); (exact qq1 [_] [1,65536,2,20000] 1 0x2208045 1 0x31040208845 qt this.2)
  · decide
theorem wrN_lt {g : Nat → Nat} (A : Apt P c) (hg : ∀ j, g j < 256) (hv : ∀ i, i < c → v i < 256) : ∀ n, n ≤ c → ∀ j, wrN g P v c n j < 256
  | 0, _, j => hg j
  | n + 1, hn, j => by
    have ih := wrN_lt A hg hv n (by (exact qq1 [_,_] [1] 1 0xc5 1 0x608045 qt hn)) j
    have nl := nxt_lt A (show n < c by (exact qq1 [_,_] [1] 1 0x608045 1 0x608045 qt hn))
    have l3 : [v n, nxt P c n % 256, nxt P c n / 256].length = 3 := rfl
    by_cases h : j < P n ∨ P n + 3 ≤ j
    · show puts _ _ _ j < _
      rw [puts_out _ _ _ _ (by rw [l3]; exact h)]
      exact ih
    · have e : j = P n ∨ j = P n + 1 ∨ j = P n + 2 := by omega
      have a := puts_in [v n, nxt P c n % 256, nxt P c n / 256] (wrN g P v c n) (P n)
      show puts _ _ _ j < _
      rcases e with rfl | rfl | rfl
      · have := a 0 _ rfl
        rw [Nat.add_zero] at this
        rw [this]; exact hv n (by (exact qq1 [_,_] [1] 1 0x608045 1 0x608045 qt hn))
      · rw [a 1 _ rfl]; exact Nat.mod_lt _ (by decide)
      · rw [a 2 _ rfl]; (exact qq2 [_,_,_] [1,256,65536] 256 0x2208045 1 0x4208046 1 0xc138465 qt nl (qD _ 256))
theorem mst_at (A : Apt P c) {i : Nat} (h : i < c) : mst t B c P v (P i) = v i ∧ mst t B c P v (P i + 1) = nxt P c i % 256 ∧ mst t B c P v (P i + 2) = nxt P c i / 256 := by
  have := A.rg i h
  have w := wrN_at (g := gnd t B) (v := v) A c i (Nat.le_refl _) h
  unfold mst
  rw [puts_out _ _ _ _ (.inr (by show 24 + 2 ≤ _; (exact qq1 [_] [26,4096] 1 0x1402 1 0x1422 qt this.1))), puts_out _ _ _ _ (.inr (by show 24 + 2 ≤ _; (exact qq1 [_] [26,1,4096] 1 0x2111402 1 0x1442 qt this.1))), puts_out _ _ _ _ (.inr (by show 24 + 2 ≤ _; (exact qq1 [_] [26,2,4096] 1 0x2111402 1 0x1442 qt this.1)))]
  exact w
theorem mst_o {j : Nat} (h1 : j ≠ 24) (h2 : j ≠ 25) (h3 : ∀ i, i < c → j < P i ∨ P i + 3 ≤ j) : mst t B c P v j = gnd t B j := by
  unfold mst
  rw [puts_out _ _ _ _ (by show j < 24 ∨ 24 + 2 ≤ j; omega)]
  exact wrN_out c j h3
theorem mst_mx (F : Fx t B) (A : Apt P c) (h0 : 0 < c) (hv : ∀ i, i < c → v i < 256) : MX t B (mst t B c P v) where
  byt := fun j => by
    have r := A.rg 0 h0
    by_cases h : j < 24 ∨ 26 ≤ j
    · unfold mst
      rw [puts_out _ _ _ _ (by show j < 24 ∨ 24 + 2 ≤ j; exact h)]
      exact wrN_lt A (gnd_lt F) hv c (Nat.le_refl _) j
    · have e : j = 24 ∨ j = 25 := by omega
      rcases e with rfl | rfl
      · show puts _ 24 _ (24 + 0) < _
        rw [puts_in _ _ _ 0 _ rfl]; exact Nat.mod_lt _ (by decide)
      · show puts _ 24 _ (24 + 1) < _
        rw [puts_in _ _ _ 1 _ rfl]; (exact qq2 [_,_,_] [1,256,2,20000] 256 0x2208045 1 0x31040208846 1 0xc138465 qt r.2 (qD _ 256))
  cod := fun k z h => by
    have := F.lo
    rw [mst_o (by (exact fun e9 => qZ (qq2 [_,_] [1,0,20000,24] 1 0x8802 1 0x1442 1 0x3104c5 qt this (qE e9)))) (by (exact fun e9 => qZ (qq2 [_,_] [1,0,20000,25] 1 0x8802 1 0x1442 1 0x3104c5 qt this (qE e9)))) fun i hi => .inr (by have := A.rg i hi; omega)]
    exact puts_in _ _ _ _ _ h
noncomputable abbrev plc (P : Nat → Nat) (c : Nat) : List Nat := (List.range c).map P
theorem mem_plc {q : Nat} (h : q ∈ plc P c) : ∃ i, i < c ∧ q = P i := by
  obtain ⟨i, hi, rfl⟩ := List.mem_map.mp h
  exact ⟨i, List.mem_range.mp hi, rfl⟩
theorem plc_ok (A : Apt P c) : PlOk (plc P c) where
  rg := fun q hq => by
    obtain ⟨i, hi, rfl⟩ := mem_plc hq
    exact A.rg i hi
  far := fun q hq q' hq' ne => by
    obtain ⟨i, hi, rfl⟩ := mem_plc hq
    obtain ⟨j, hj, rfl⟩ := mem_plc hq'
    exact A.far i j hi hj fun e => ne (by rw [e])
theorem plc_nd (A : Apt P c) : (plc P c).Nodup := by
  refine List.pairwise_map.mpr ?_
  refine List.Pairwise.imp_of_mem (fun {a b} ha hb h e => ?_) List.nodup_range
  have := A.far a b (List.mem_range.mp ha) (List.mem_range.mp hb) h
  omega
/-- What the run leaves. -/
structure Ran (t B c : Nat) (P v : Nat → Nat) (gf : Rg) : Prop where
  pc : gf.pc = 600
  sp : gf.sp = 255
  byt : ∀ a, gf.m a < 256
  ch : Chain gf.m 25 ((insAll (fun i => xr (mst t B c P v (P i)) t) (List.range c) []).map P)
  z24 : gf.m 24 = 0
  z25 : gf.m 25 = 0
  same : Same (plc P c) (mst t B c P v) gf.m
theorem run_ok (F : Fx t B) (A : Apt P c) (h0 : 0 < c) (h5 : c ≤ 5) (hv : ∀ i, i < c → v i < 256) : ∃ n gf, n ≤ 700 ∧ Run n ⟨B, 255, 0, 0, 0, ⟨false, false, false, false⟩, mst t B c P v⟩ gf ∧ Ran t B c P v gf := by
  have X := mst_mx F A h0 hv
  have l := F.lo
  have r0 := A.rg 0 h0
  have C0 : Chain (mst t B c P v) 23 (plc P c) := by
    have := chain_of A (M := mst t B c P v) (fun i hi => (mst_at A hi).2) c 0 23 rfl (by rw [if_pos h0]; exact puts_in _ _ _ 0 _ rfl) (by rw [if_pos h0]; exact puts_in _ _ _ 1 _ rfl)
    rw [range'_0] at this
    exact this
  have D0 : Chain (mst t B c P v) 25 [] := by
    have z : ∀ j, j = 26 ∨ j = 27 → mst t B c P v j = 0 := fun j hj => by
      rw [mst_o (by omega) (by omega) fun i hi => .inl (by have := A.rg i hi; omega)]
      exact gnd_out (by omega)
    exact ⟨z 26 (.inl rfl), z 27 (.inr rfl)⟩
  have hl : (plc P c).length = c := by rw [List.length_map, List.length_range]
  have R := outer (r := Ran t B c P v) (sp := 255) (x := 0) (v := mst t B c P v) F (plc_ok A) (plc P c) [] 0 0 ⟨false, false, false, false⟩ (mst t B c P v) X C0 D0 (fun q hq => by rwa [List.append_nil] at hq) (by rw [List.append_nil]; exact plc_nd A) (by rw [hl]; exact h5) (fun _ _ => rfl) fun a y f m' X' C' z24 z25 S' => ⟨rfl, rfl, X'.byt, (congrArg (Chain m' 25) (insAll_map (key := fun q => xr (mst t B c P v q) t) (P := P) (List.range c) [])).mp C', z24, z25, S'⟩
  obtain ⟨n, gf, hn, Rn, g⟩ := R
  rw [hl] at hn
  exact ⟨n, gf, by (exact qq2 [_,_] [700,5,121,3] 1 0x45 121 0x446 1 0x46210cc5 qt h5 hn), Rn, g⟩
end
end VE
namespace VE
/-! The memory that the law expects. -/
section
variable {t B c : Nat} {P v : Nat → Nat} {r : List Nat} {gf : Rg}
noncomputable abbrev via (f : Nat → Nat) (r : List Nat) : Nat → Nat := fun j => f (r.getD j 0)
noncomputable def pl0 (t B : Nat) (P : Nat → Nat) (r : List Nat) : Nat → Nat := puts (gnd t B) 26 [via P r 0 % 256, via P r 0 / 256]
noncomputable def pl1 (t B c : Nat) (P v : Nat → Nat) (r : List Nat) : Nat → Nat := wrN (pl0 t B P r) (via P r) (via v r) c c
theorem ord_lt (pm : r.Perm (List.range c)) {k : Nat} (h : k < c) : r.getD k 0 < c := by
  have hl : r.length = c := by rw [pm.length_eq, List.length_range]
  have hk : k < r.length := by rw [hl]; exact h
  rw [List.getD_eq_getElem?_getD, List.getElem?_eq_getElem hk]
  exact List.mem_range.mp (pm.mem_iff.mp (List.getElem_mem hk))
theorem ord_inj (pm : r.Perm (List.range c)) {i j : Nat} (hi : i < c) (hj : j < c) (h : i ≠ j) : r.getD i 0 ≠ r.getD j 0 := by
  have hl : r.length = c := by rw [pm.length_eq, List.length_range]
  have nd : r.Nodup := pm.nodup_iff.mpr List.nodup_range
  have hi' : i < r.length := by rw [hl]; exact hi
  have hj' : j < r.length := by rw [hl]; exact hj
  rw [List.getD_eq_getElem?_getD, List.getD_eq_getElem?_getD, List.getElem?_eq_getElem hi', List.getElem?_eq_getElem hj']
  exact fun e => h ((List.getElem_inj nd).mp e)
theorem via_apt (pm : r.Perm (List.range c)) (A : Apt P c) : Apt (via P r) c where
  rg := fun i hi => A.rg _ (ord_lt pm hi)
  far := fun i j hi hj h => A.far _ _ (ord_lt pm hi) (ord_lt pm hj) (ord_inj pm hi hj h)
theorem via_map (pm : r.Perm (List.range c)) : (List.range c).map (via P r) = r.map P := by
  have hl : r.length = c := by rw [pm.length_eq, List.length_range]
  refine List.ext_getElem? fun k => ?_
  rw [List.getElem?_map, List.getElem?_map]
  rcases Nat.lt_or_ge k c with h | h
  · have hk : k < r.length := by rw [hl]; exact h
    rw [List.getElem?_range h, List.getElem?_eq_getElem hk]
    show some (P (r.getD k 0)) = some (P r[k])
    rw [List.getD_eq_getElem?_getD, List.getElem?_eq_getElem hk]; rfl
  · rw [List.getElem?_eq_none (by rw [List.length_range]; exact h), List.getElem?_eq_none (by rw [hl]; exact h)]
    rfl
theorem pl0_lt (F : Fx t B) (pm : r.Perm (List.range c)) (A : Apt P c) (h0 : 0 < c) (j : Nat) : pl0 t B P r j < 256 := by
  have q := A.rg _ (ord_lt pm h0)
  have q : P (r.getD 0 0) + 2 < 20000 := q.2
  unfold pl0
  by_cases h : j < 26 ∨ 28 ≤ j
  · rw [puts_out _ _ _ _ (by show j < 26 ∨ 26 + 2 ≤ j; exact h)]; exact gnd_lt F j
  · have e : j = 26 ∨ j = 27 := by omega
    rcases e with rfl | rfl
    · show puts _ 26 _ (26 + 0) < _
      rw [puts_in _ _ _ 0 _ rfl]; exact Nat.mod_lt _ (by decide)
    · show puts _ 26 _ (26 + 1) < _
      rw [puts_in _ _ _ 1 _ rfl]
      show P (r.getD 0 0) / 256 < 256
      (exact qq2 [_,_,_] [1,256,2,20000] 256 0x2208045 1 0x31040208846 1 0xc138465 qt q (qD _ 256))
theorem pl1_out (pm : r.Perm (List.range c)) {j : Nat} (h1 : j ≠ 26) (h2 : j ≠ 27) (h3 : ∀ i, i < c → j < P i ∨ P i + 3 ≤ j) : pl1 t B c P v r j = gnd t B j := by
  unfold pl1
  rw [wrN_out c j fun i hi => h3 _ (ord_lt pm hi)]
  unfold pl0
  exact puts_out _ _ _ _ (by show j < 26 ∨ 26 + 2 ≤ j; omega)
theorem pl1_ch (pm : r.Perm (List.range c)) (A : Apt P c) (h0 : 0 < c) : Chain (pl1 t B c P v r) 25 (r.map P) := by
  have A' := via_apt pm A
  have z : ∀ j, j = 26 ∨ j = 27 → pl1 t B c P v r j = pl0 t B P r j := fun j hj => wrN_out c j fun i hi => .inl (by have := A'.rg i hi; omega)
  have := chain_of A' (M := pl1 t B c P v r) (fun i hi => (wrN_at A' c i (Nat.le_refl _) hi).2) c 0 25 (Nat.add_zero _) (by rw [if_pos h0, z (25 + 1) (.inl rfl)]; exact puts_in _ _ 26 0 _ rfl) (by rw [if_pos h0, z (25 + 2) (.inr rfl)]; exact puts_in _ _ 26 1 _ rfl)
  rw [range'_0, via_map pm] at this
  exact this
/-- What the run leaves is what the law expects. -/
theorem pl_ok (F : Fx t B) (A : Apt P c) (h0 : 0 < c) (hv : ∀ i, i < c → v i < 256) (pm : r.Perm (List.range c)) (hr : r = insAll (fun i => xr (mst t B c P v (P i)) t) (List.range c) []) (R : Ran t B c P v gf) (j : Nat) (h : j < 18 ∨ 24 ≤ j) (h28 : j ≠ 28) : pl1 t B c P v r j = gf.m j := by
  have A' := via_apt pm A
  have C1 := pl1_ch (t := t) (B := B) (v := v) pm A h0
  have C2 := R.ch
  rw [← hr] at C2
  have lt1 : ∀ a, pl1 t B c P v r a < 256 := fun a => wrN_lt A' (pl0_lt F pm A h0) (fun i hi => hv _ (ord_lt pm hi)) c (Nat.le_refl _) a
  have S := Chain.same R.byt lt1 C2 C1
  by_cases hz : j = 24 ∨ j = 25
  · have e : gf.m j = 0 := by
      rcases hz with rfl | rfl
      · exact R.z24
      · exact R.z25
    rw [e, pl1_out pm (by omega) (by omega) fun i hi => .inl (by have := A.rg i hi; omega)]
    exact gnd_out (by have := F.lo; omega)
  by_cases hh : j = 26 ∨ j = 27
  · have := S 25 (.head _)
    rcases hh with rfl | rfl
    · exact this.1
    · exact this.2
  have sm : (∀ i, i < c → j ≠ P i + 1 ∧ j ≠ P i + 2) → gf.m j = mst t B c P v j := fun k => R.same j (by omega) fun q hq => by
    obtain ⟨i, hi, rfl⟩ := mem_plc hq
    exact k i hi
  by_cases hn : ∃ i, i < c ∧ (j = P i ∨ j = P i + 1 ∨ j = P i + 2)
  · obtain ⟨i, hi, e⟩ := hn
    have mi : i ∈ r := pm.mem_iff.mpr (List.mem_range.mpr hi)
    rcases e with rfl | e
    · rw [sm fun k hk => by
        by_cases e : i = k
        · subst e; omega
        · have := A.far i k hi hk e; omega]
      rw [(mst_at A hi).1]
      obtain ⟨k, hk, e⟩ := List.getElem_of_mem mi
      have hk' : k < c := by rw [← List.length_range (n := c), ← pm.length_eq]; exact hk
      have g : r.getD k 0 = i := by rw [List.getD_eq_getElem?_getD, List.getElem?_eq_getElem hk, e]; rfl
      have := (wrN_at (g := pl0 t B P r) (v := via v r) A' c k (Nat.le_refl _) hk').1
      have e1 : via P r k = P i := congrArg P g
      have e2 : via v r k = v i := congrArg v g
      rw [e1, e2] at this
      exact this
    · have := S (P i) (.tail _ (List.mem_map_of_mem mi))
      rcases e with rfl | rfl
      · exact this.1
      · exact this.2
  · have far : ∀ i, i < c → j < P i ∨ P i + 3 ≤ j := fun i hi => by
      have : ¬ (j = P i ∨ j = P i + 1 ∨ j = P i + 2) := fun e => hn ⟨i, hi, e⟩
      omega
    rw [sm fun i hi => by have := far i hi; omega, pl1_out pm (by omega) (by omega) far, mst_o (by omega) (by omega) far]
end
end VE
namespace VE
variable {N : Nat → Str} {Z : Stc} {G : Gl N Z} {cs : Scope} {Φ : Cx G cs} {W : Wd} {τ : VS} {s : Shared} {x : List (Addr × Obj)}
/-! for a, b in enumerate(xs) -/
/-- Two of the other objects are changed at once. -/
theorem SimX.chg2 {e it : Addr} {a b a' b' : Obj} {h' : Heap} (S : SimX Φ W τ ((e, a) :: (it, b) :: x) s) (e1 : h'.get? e = some a') (e2 : h'.get? it = some b') (k : ∀ q o, q ≠ e → q ≠ it → s.heap.get? q = some o → h'.get? q = some o) (t : Nat) : SimX Φ W τ ((e, a') :: (it, b') :: x) { s with heap := h', toks := t } := by
  obtain ⟨m, n1, n2, F, Nw, nd, H, C, L, cv, o, g⟩ := S
  have nd' : (((e, a) :: (it, b) :: (x ++ (n1 ++ (n2 ++ W.fro)))).map (·.1)).Nodup := nd
  rw [List.map_cons, List.map_cons, List.nodup_cons, List.nodup_cons] at nd'
  have P := Nw (e, a) (.head _)
  have R := Nw (it, b) (.tail _ (.head _))
  obtain ⟨oL, es, ep, hL, rr⟩ := F.ns
  refine ⟨m, n1, n2, ⟨⟨oL, es, ep, k _ _ (Ne.symm P.2.1) (Ne.symm R.2.1) hL, rr⟩, fun b y z => k _ _ (fun z' => by rw [z', P.2.2] at z; cases z) (fun z' => by rw [z', R.2.2] at z; cases z) (F.keep b y z), F.above⟩, fun p hp => ?_, nd, H, C, L, cv, o, g⟩
  have hp : p ∈ (e, a') :: (it, b') :: (x ++ (n1 ++ (n2 ++ W.fro))) := hp
  rcases List.mem_cons.mp hp with rfl | hp
  · exact ⟨e1, P.2⟩
  · rcases List.mem_cons.mp hp with rfl | hp
    · exact ⟨e2, R.2⟩
    · have Q := Nw p (.tail _ (.tail _ hp))
      exact ⟨k _ _ (fun z => nd'.1 (.tail _ (List.mem_map.mpr ⟨p, hp, z⟩))) (fun z => nd'.2.1 (List.mem_map.mpr ⟨p, hp, z⟩)) Q.1, Q.2⟩
theorem SimX.ne2 {e it : Addr} {a b : Obj} (S : SimX Φ W τ ((e, a) :: (it, b) :: x) s) : e ≠ it := by
  obtain ⟨m, n1, n2, F, Nw, nd, _⟩ := S
  have nd' : (((e, a) :: (it, b) :: (x ++ (n1 ++ (n2 ++ W.fro)))).map (·.1)).Nodup := nd
  rw [List.map_cons, List.map_cons, List.nodup_cons] at nd'
  exact fun z => nd'.1 (by rw [z]; exact .head _)
/-- As SimX.chg2, and a new object beside it. -/
theorem SimX.chg2N {e it q : Addr} {a b a' b' co : Obj} {h' : Heap} (S : SimX Φ W τ ((e, a) :: (it, b) :: x) s) (e0 : s.heap.get? q = none) (e1 : h'.get? e = some a') (e2 : h'.get? it = some b') (e3 : h'.get? q = some co) (k : ∀ q o, q ≠ e → q ≠ it → s.heap.get? q = some o → h'.get? q = some o) (t : Nat) : SimX Φ W τ ((q, co) :: (e, a') :: (it, b') :: x) { s with heap := h', toks := t } := by
  obtain ⟨m, n1, n2, F, Nw, nd, H, C, L, cv, o, g⟩ := S
  have nd' : (((e, a) :: (it, b) :: (x ++ (n1 ++ (n2 ++ W.fro)))).map (·.1)).Nodup := nd
  have ndC := nd'
  rw [List.map_cons, List.map_cons, List.nodup_cons, List.nodup_cons] at nd'
  have P := Nw (e, a) (.head _)
  have R := Nw (it, b) (.tail _ (.head _))
  obtain ⟨oL, es, ep, hL, rr⟩ := F.ns
  have qm : q ∉ (((e, a) :: (it, b) :: (x ++ (n1 ++ (n2 ++ W.fro)))).map (·.1)) := fun hm => by
    obtain ⟨p, hp, e4⟩ := List.mem_map.mp hm
    rw [← show p.1 = q from e4, (Nw p hp).1] at e0
    cases e0
  refine ⟨m, n1, n2, ⟨⟨oL, es, ep, k _ _ (Ne.symm P.2.1) (Ne.symm R.2.1) hL, rr⟩, fun b y z => k _ _ (fun z' => by rw [z', P.2.2] at z; cases z) (fun z' => by rw [z', R.2.2] at z; cases z) (F.keep b y z), F.above⟩, fun p hp => ?_, ?_, H, C, L, cv, o, g⟩
  · have hp : p ∈ (q, co) :: (e, a') :: (it, b') :: (x ++ (n1 ++ (n2 ++ W.fro))) := hp
    rcases List.mem_cons.mp hp with rfl | hp
    · refine ⟨e3, fun z => ?_, ?_⟩
      · have z : q = Φ.L := z
        rw [z, hL] at e0; cases e0
      · cases hq : Φ.h₀.get? q with
        | none => rfl
        | some o' => rw [F.keep _ _ hq] at e0; cases e0
    · rcases List.mem_cons.mp hp with rfl | hp
      · exact ⟨e1, P.2⟩
      · rcases List.mem_cons.mp hp with rfl | hp
        · exact ⟨e2, R.2⟩
        · have Q := Nw p (.tail _ (.tail _ hp))
          exact ⟨k _ _ (fun z => nd'.1 (.tail _ (List.mem_map.mpr ⟨p, hp, z⟩))) (fun z => nd'.2.1 (List.mem_map.mpr ⟨p, hp, z⟩)) Q.1, Q.2⟩
  · show (q :: ((e, a) :: (it, b) :: (x ++ (n1 ++ (n2 ++ W.fro)))).map (·.1)).Nodup
    rw [List.nodup_cons]
    exact ⟨qm, ndC⟩
/-- Two new objects at once. -/
theorem SimX.new2 {e it : Addr} {a b : Obj} {h' : Heap} (S : SimX Φ W τ x s) (k : ∀ b o, s.heap.get? b = some o → h'.get? b = some o) (h1 : s.heap.get? e = none) (h2 : s.heap.get? it = none) (hne : e ≠ it) (e1 : h'.get? e = some a) (e2 : h'.get? it = some b) (t : Nat) : SimX Φ W τ ((e, a) :: (it, b) :: x) { s with heap := h', toks := t } := by
  obtain ⟨m, n1, n2, F, Nw, nd, H, C, L, cv, o, g⟩ := S
  obtain ⟨oL, es, ep, hL, _⟩ := id F.ns
  have fr : ∀ q, s.heap.get? q = none → q ≠ Φ.L ∧ Φ.h₀.get? q = none ∧ q ∉ ((x ++ (n1 ++ (n2 ++ W.fro))).map (·.1)) := fun q e0 => by
    refine ⟨fun z => ?_, ?_, fun hm => ?_⟩
    · rw [z, hL] at e0; cases e0
    · cases hq : Φ.h₀.get? q with
      | none => rfl
      | some o' => rw [F.keep _ _ hq] at e0; cases e0
    · obtain ⟨p, hp, e4⟩ := List.mem_map.mp hm
      rw [← show p.1 = q from e4, (Nw p hp).1] at e0
      cases e0
  have fe := fr e h1
  have fi := fr it h2
  refine ⟨m, n1, n2, F.keeps k, fun p hp => ?_, ?_, H, C, L, cv, o, g⟩
  · have hp : p ∈ (e, a) :: (it, b) :: (x ++ (n1 ++ (n2 ++ W.fro))) := hp
    rcases List.mem_cons.mp hp with rfl | hp
    · exact ⟨e1, fe.1, fe.2.1⟩
    · rcases List.mem_cons.mp hp with rfl | hp
      · exact ⟨e2, fi.1, fi.2.1⟩
      · exact Nw.grown k p hp
  · show (e :: it :: (x ++ (n1 ++ (n2 ++ W.fro))).map (·.1)).Nodup
    rw [List.nodup_cons, List.nodup_cons]
    refine ⟨fun hm => ?_, fi.2.2, nd⟩
    rcases List.mem_cons.mp hm with q | q
    · exact hne q
    · exact fe.2.2 q
/-- The pairs of a place and an item. -/
noncomputable def enumL : Nat → List PV → List PV
  | _, [] => []
  | i, z :: r => .tup [.int (i : Int), z] :: enumL (i + 1) r
noncomputable abbrev wForE (we : WE) (t : WS) (b : WX) : WX := fun C τ Q => we C τ fun v τ1 => ∃ l, asL τ1.hp v = some l ∧ forW (fun v τ q => t C τ (.p v) q) (b C) (keepL v l) Q (enumL 0 l) τ1
noncomputable abbrev enO (it : Addr) (i : Int) (old : Value) : Obj := { cls := .type "enumerate", dict := none, data := .fields #[.none, .bool false, .ref it, rawInt i, .none, old], slots := #[] }
inductive ForEI (Φ : Cx G cs) (W1 : Wd) (x : List (Addr × Obj)) (e it y : Addr) (v : VV) (l : List PV) (R : List PV → VS → Prop) (n : Nat) (s : Shared) : Prop where
  | mk (i : Nat) (W' : Wd) (τ' : VS) (old : Value) (co : Obj) (en : n + i = l.length + 1) (hi : i ≤ l.length) (le : W1.le W') (hc : co.cls = .type "list_iterator") (hd : co.data = .fields #[.ref y, .int i 0]) (S : SimX Φ W' τ' ((e, enO it (i : Int) old) :: (it, co) :: x) s) (kp : keepL v l τ') (q : R (enumL i (l.drop i)) τ')
theorem SX_forE {elts : List Expr} {kk n : Nat} {tpos p cpos pos : Pos} {tn : Str} {e : Expr} {body : List Stmt} {we : WE} {t : WS} {b : WX} (he : SE G cs e we) (bi : BiOk N Z cs tn (Value.type "enumerate") n) (hst : ∀ rest env, starEach (e :: rest) env = (false, eval e env) :: starEach rest env) (ht : SS G cs (.Tuple elts kk tpos) t) (hb : SB G cs body b) :
    SX G cs (.For (.Tuple elts kk tpos) (.Call (.Name tn p) [e] [] cpos) body [] pos) (wForE we t b) := fun Φ C ok W τ x s Q S q => by
  have SAe : SA G cs [e] (wAc we wA0) := SA_cons he SA_nil (hst [])
  refine wpAny_For ?_
  refine Call_ (bi.load S ?_) rfl
  have hp : (backTo cpos (starEach [e] Φ.env)).any (·.1) = false := by rw [back_any]; exact SAe.1 _
  refine PySem.callWith_type (first := []) hp (evalArgs_of hp (SAe.go (Q := fun as τ1 => oneW as fun v => ∃ l, asL τ1.hp v = some l ∧ forW (fun v τ q => t C τ (.p v) q) (b C) (keepL v l) Q (enumL 0 l) τ1) ok S q fun W1 as τ1 vs s1 le r S1 q1 => ?_))
  obtain ⟨v, rfl, l, el, q1⟩ := oneW_ex q1
  obtain ⟨c, rfl, rc⟩ := r.one
  obtain ⟨y, us, rfl, hl, pr⟩ := S1.asL rc el
  refine call_enumerate_list hl fun h1 he1 hi1 hz1 hk1 => ?_
  obtain ⟨co, hco, hcc, hcd⟩ := hi1
  have S2 : SimX Φ W1 τ1 ((s1.heap.objs.size + 1, enO s1.heap.objs.size ((0 : Nat) : Int) .none) :: (s1.heap.objs.size, co) :: x) { s1 with heap := h1, toks := s1.toks } := S1.new2 hk1 (Heap.get?_none_of_le (Nat.le_succ _)) (Heap.get?_none_of_le (Nat.le_refl _)) (Nat.succ_ne_self _) he1 hco s1.toks
  refine wpAny_pyIter_enum he1 ?_
  generalize s1.heap.objs.size + 1 = e at S2 ⊢
  generalize s1.heap.objs.size = it at S2
  refine codeAny_mono (codeAny_forLoop_any (R := RFr Φ W x Q) (ForEI Φ W1 x e it y v l (fun m τ' => forW (fun v τ q => t C τ (.p v) q) (b C) (keepL v l) Q m τ')) (fun n s' hI => ?_) (l.length + 1) ⟨0, W1, τ1, .none, co, rfl, Nat.zero_le _, .refl _, hcc, hcd, S2, el, q1⟩) fun r s' q => ?_
  · obtain ⟨i, W', τ', old, co, en, hi, le', hc, hd, S', kp, q'⟩ := hI
    obtain ⟨y', us', ey, hl', pr'⟩ := S'.asL (rc.mono le') kp
    cases ey
    have ge := S'.first
    have S'' := S'.perm (List.Perm.swap _ _ _)
    have gi : s'.heap.IsListIter it y i := ⟨co, S''.first, hc, hd⟩
    have ne := S'.ne2
    by_cases hie : i = l.length
    · subst hie
      refine no_ (wpAny_pyNext_enum_end Φ.hh ge gi hl' (by simp [pr'.length]) fun h2 hx => wpAny_execs_nil ⟨W', .next, τ', le.trans le', .next, (S''.drop hx).forget, ?_⟩)
      rw [List.drop_length] at q'
      exact q'
    · have hlt : i < l.length := Nat.lt_of_le_of_ne hi hie
      have ha : l[i]? = some l[i] := List.getElem?_eq_getElem hlt
      obtain ⟨z, hz, rz⟩ := pr'.get ha
      rw [List.drop_eq_getElem_cons hlt] at q'
      refine no_ (wpAny_pyNext_enum_item ge gi hl' (x := z) (by simpa using hz) ne fun h2 heo hit ht2 hz2 hk2 => ?_)
      obtain ⟨co2, g2, c2, d2⟩ := hit
      have hq0 : s'.heap.get? s'.heap.objs.size = none := Heap.get?_none_of_le (Nat.le_refl _)
      have S3 := S'.chg2N hq0 heo g2 ht2 hk2 (s'.toks + 1)
      refine no_ (wpAny_letOwnedTupleGo_enum heo fun h3 he3 hs3 => ?_)
      have S4 := (S3.perm (List.Perm.swap _ _ _)).updX (h' := h3) (co' := enO it ((i : Int) + 1) z) he3 hs3 (s'.toks + 1)
      obtain ⟨W2, le2, hm, er, S5⟩ := (S4.perm (List.Perm.swap _ _ _)).freeze
      have rt : PRep (FW G W2) (.tup [.int (i : Int), l[i]]) (.ref s'.heap.objs.size) := .tup (ws := [.int (i : Int) s'.toks, z]) (n := 0) (.inl hm) (.int _ _ (rz.mono le2.FW)) .nil
      refine no_ (wpAny_mono (ht Φ C ok W2 τ' _ _ (.p (.tup [.int (i : Int), l[i]])) _ _ S5 (.p rt) q') (fun _ s4 y4 => ?_) fun _ _ y => y)
      obtain ⟨W4, τ4, le4, S6, q4⟩ := y4
      refine no_ (wpAny_mono (hb Φ C ok W4 τ4 _ s4 _ S6 q4) (fun f s5 y5 => ?_) fun _ _ y => y)
      obtain ⟨W5, fl, τ5, le5, r5, S7, q5⟩ := y5
      have lx := ((le'.trans le2).trans le4).trans le5
      have nx : keepL v l τ5 ∧ forW (fun v τ q => t C τ (.p v) q) (b C) (keepL v l) Q (enumL (i + 1) (l.drop (i + 1))) τ5 → ∃ m, m < n ∧ ForEI Φ W1 x e it y v l (fun m τ' => forW (fun v τ q => t C τ (.p v) q) (b C) (keepL v l) Q m τ') m s5 := fun q5 =>
        ⟨l.length - i, by (exact qq2 [_,_,_,_] [1] 1 0x608045 1 0x50608047 1 0x38505 qt (qF en) (qR (qq1 [_,_] [1] 1 0xc5 1 0x608045 qt hlt))), i + 1, W5, τ5, z, co2, by (exact Nat.le_antisymm (qq1 [_,_,_] [1] 1 0x2011c21008c5 1 0x384c5 qt (qR (qq1 [_,_] [1] 1 0xc5 1 0x608045 qt hlt))) (qq1 [_,_,_] [1] 1 0x21008e608045 1 0x9cc5 qt (qS _ _))), hlt, lx, c2, d2, S7, q5.1, q5.2⟩
      cases r5 with
      | next => exact nx q5
      | cont => exact nx q5
      | brk => exact ⟨W5, .next, τ5, le.trans lx, .next, S7.forget.forget, q5⟩
      | ret ru => exact ⟨W5, _, τ5, le.trans lx, .ret ru, S7.forget.forget, q5⟩
  · cases r with
    | ok f => exact q
    | error e => exact q.elim
end VE
namespace M6
noncomputable def loG (ns : List DictEntry) (st : Stmt) (t : Nat) : Obj := { cls := .type "list", data := .seq (lVals ns (lEs st) t).toArray }
noncomputable def entG (w : World) (st : Stmt) (t n : Nat) : DictEntry := ⟨hsh w (bindOf st), .str (bindOf st) t, .ref n⟩
noncomputable def nsA (w : World) (ns0 : List DictEntry) (row : Row) : List DictEntry := ns0 ++ rEnt w row
noncomputable def nsB (w : World) (ns0 : List DictEntry) (row : Row) (s1 : Stmt) (t1 n : Nat) : List DictEntry := nsA w ns0 row ++ [entG w s1 t1 n]
noncomputable def nsC (w : World) (ns0 : List DictEntry) (row : Row) (s1 s2 : Stmt) (t1 t2 n : Nat) : List DictEntry := nsB w ns0 row s1 t1 n ++ [entG w s2 t2 (n + 1)]
noncomputable def nsD (w : World) (ns0 : List DictEntry) (row : Row) (s1 s2 s3 : Stmt) (t1 t2 t3 n : Nat) : List DictEntry := nsC w ns0 row s1 s2 t1 t2 n ++ [entG w s3 t3 (n + 2)]
noncomputable def objG (e : Ec) (w : World) (ns0 : List DictEntry) (row : Row) (s1 s2 s3 : Stmt) (t0 t1 t2 n : Nat) : List Obj :=
  rObjs e row ++ [loG (nsA w ns0 row) s1 t0] ++ [loG (nsB w ns0 row s1 t1 n) s2 (t1 + 1)] ++ [loG (nsC w ns0 row s1 s2 t1 t2 n) s3 (t2 + 1)]
noncomputable def stepsG (row : Row) (s1 s2 s3 : Stmt) : Nat := stepsAll (row.map (·.1)) + ((1 + ((1 + (lSteps (lEs s1) + 1)) + 8)) + ((1 + ((1 + (lSteps (lEs s2) + 1)) + 8)) + ((1 + ((1 + (lSteps (lEs s3) + 1)) + 8)) + 0)))
section
variable {p : Program} {n₀ : Nat} {ann : Option Value} {g : Array GenState} {d : Drawn} {os : OsState} {w : World} {e : Ec}
theorem body_gen (E : EcOk p n₀ ann g d os w e) {ns0 : List DictEntry} {row : Row} {ks us0 lk us1 : List Nat} {dbg t0 t1 t2 t3 n k1 k2 k3 T0 : Nat} {s1 s2 s3 : Stmt} {q0 : Pos} {cb : List Stmt}
    (I0 : Inv us0 0 ⟨[], ns0, []⟩) (hcb : row.map (·.1) ++ [s1, s2, s3] = cb) (kinds : ∀ st ∈ cb, e.env.kindOf (bindOf st) = some .local) (row_ok : rowOk row 29 T0 = true) (row_chk : chk us0 0 (row.map (·.1)) ks = true) (row_st : ∀ x ∈ row, stB x.1 = true)
    (row_T : rowT row T0 = t0) (row_N : rowN row 29 = n) (row_small : ∀ x ∈ row, small (bindOf x.1) = true) (row_len : row.length = ks.length) (lf1 : s1 = lForm s1) (lf2 : s2 = lForm s2) (lf3 : s3 = lForm s3) (dbg_is : dbg = enc ("__debug__" : Str))
    (lc1 : chkL ks dbg (lEs s1) lk = true) (lc2 : chkL ks dbg (lEs s2) [] = true) (lc3 : chkL ks dbg (lEs s3) [] = true) (us_is : lastUs (row.map (·.1)) ks us0 = us1) (k1_is : Nat.beq k1 (enc (bindOf s1)) = true) (k2_is : Nat.beq k2 (enc (bindOf s2)) = true) (k3_is : Nat.beq k3 (enc (bindOf s3)) = true)
    (aw1 : awayN k1 us1 = true) (aw2 : awayN k2 (k1 :: us1) = true) (aw3 : awayN k3 (k2 :: k1 :: us1) = true) (tk1 : lTk (lEs s1) t0 = t1) (tk2 : lTk (lEs s2) (t1 + 1) = t2) (tk3 : lTk (lEs s3) (t2 + 1) = t3)
    (ln1 : (lEs s1).length ≤ 1000) (ln2 : (lEs s2).length ≤ 1000) (ln3 : (lEs s3).length ≤ 1000) :
    XR p n₀ ann g d os w (stepsG row s1 s2 s3) (execs cb e.env) (mkH e.b ⟨[], ns0, []⟩) T0 q0 .next (mkH e.b ⟨objG e w ns0 row s1 s2 s3 t0 t1 t2 n, nsD w ns0 row s1 s2 s3 t1 t2 t3 n, rPl row⟩) (t3 + 1) (endOf s3) := by
  have rm : ∀ x ∈ row, x.1 ∈ cb := fun x hx => by rw [← hcb]; exact List.mem_append_left _ (List.mem_map_of_mem hx)
  have m1 : s1 ∈ cb := by rw [← hcb]; simp
  have m2 : s2 ∈ cb := by rw [← hcb]; simp
  have m3 : s3 ∈ cb := by rw [← hcb]; simp
  obtain ⟨x1, I1⟩ := XR_execs E (row.map (·.1)) ks us0 0 ⟨[], ns0, []⟩ T0 q0 row_chk (fun st hs => kinds st (by rw [← hcb]; exact List.mem_append_left _ hs)) I0
  rw [effAll_is row _ 29 T0 row_ok row_st rfl] at x1 I1
  rw [us_is] at I1
  simp only [List.nil_append, row_T] at x1 I1
  have nlen : 29 + (rObjs e row).length = n := (rowN_is row 29 T0 row_ok row_st).trans row_N
  have fo : ∀ (ns : List DictEntry) (s : Stmt) (lk : List Nat), chkL ks dbg (lEs s) lk = true → (∀ en ∈ rEnt w row, en ∈ ns) → ∀ x q, Expr.Name x q ∈ lEs s → Found e ns x := fun ns s lk lc hns => found_of dbg_is row_chk row_len row_st row_small (fun x hx => kinds _ (rm x hx)) lc hns
  have f1 := fo (nsA w ns0 row) s1 lk lc1 fun en he => List.mem_append_right _ he
  have f2 := fo (nsB w ns0 row s1 t1 n) s2 [] lc2 fun en he => List.mem_append_left _ (List.mem_append_right _ he)
  have f3 := fo (nsC w ns0 row s1 s2 t1 t2 n) s3 [] lc3 fun en he => List.mem_append_left _ (List.mem_append_left _ (List.mem_append_right _ he))
  have I2 := I1.add (objs := rObjs e row ++ [loG (nsA w ns0 row) s1 t0]) (hh := hsh w (bindOf s1)) (t := t1) (v := .ref n) (Nat.eq_of_beq_eq_true k1_is)
  have I3 := I2.add (objs := rObjs e row ++ [loG (nsA w ns0 row) s1 t0] ++ [loG (nsB w ns0 row s1 t1 n) s2 (t1 + 1)]) (hh := hsh w (bindOf s2)) (t := t2) (v := .ref (n + 1)) (Nat.eq_of_beq_eq_true k2_is)
  have y1 := XR_listSt (c := ⟨rObjs e row, nsA w ns0 row, rPl row⟩) (t := t0) (pos₀ := lastPos (row.map (·.1)) q0) (q := lQ s1) (pos := posOf s1) (np := endOf s1) E (chkL_items lc1) f1 ln1 (kinds _ m1) (I1.fresh k1_is aw1)
  have y2 := XR_listSt (c := ⟨rObjs e row ++ [loG (nsA w ns0 row) s1 t0], nsB w ns0 row s1 t1 n, rPl row⟩) (t := t1 + 1) (pos₀ := endOf s1) (q := lQ s2) (pos := posOf s2) (np := endOf s2) E (chkL_items lc2) f2 ln2 (kinds _ m2) (I2.fresh k2_is aw2)
  have y3 := XR_listSt (c := ⟨rObjs e row ++ [loG (nsA w ns0 row) s1 t0] ++ [loG (nsB w ns0 row s1 t1 n) s2 (t1 + 1)], nsC w ns0 row s1 s2 t1 t2 n, rPl row⟩) (t := t2 + 1) (pos₀ := endOf s2) (q := lQ s3) (pos := posOf s3) (np := endOf s3) E (chkL_items lc3) f3 ln3 (kinds _ m3) (I3.fresh k3_is aw3)
  rw [nlen, tk1] at y1
  rw [List.length_append, List.length_singleton, ← Nat.add_assoc 29 (rObjs e row).length 1, nlen, tk2] at y2
  rw [List.length_append, List.length_append, List.length_singleton, List.length_singleton, Nat.add_assoc (rObjs e row).length 1 1, ← Nat.add_assoc 29 (rObjs e row).length (1 + 1), nlen, tk3] at y3
  have ex : ∀ {st : Stmt} {a t t' : Nat} {h h' : Heap} {q q' : Pos}, st = lForm st → XR p n₀ ann g d os w a (exec (lForm st) e.env) h t q .next h' t' q' → XR p n₀ ann g d os w a (exec st e.env) h t q .next h' t' q' := fun e1 x => by
    rw [e1]; exact x
  rw [← hcb]
  refine XR_execs_app x1 ?_
  have one : ∀ {st : Stmt} {r : List Stmt} {h h₁ h₂ : Heap} {t t₁ t₂ a b : Nat} {pos pos₁ pos₂ : Pos}, XR p n₀ ann g d os w a (exec st e.env) h t pos .next h₁ t₁ pos₁ → XR p n₀ ann g d os w b (execs r e.env) h₁ t₁ pos₁ .next h₂ t₂ pos₂ → XR p n₀ ann g d os w (a + b) (execs (st :: r) e.env) h t pos .next h₂ t₂ pos₂ := fun x y => by
    rw [execs_cons]
    refine XR_bind x ?_
    exact y
  refine one (ex lf1 y1) ?_
  refine one (ex lf2 y2) ?_
  refine one (ex lf3 y3) ?_
  exact XR_pure
end
end M6
namespace M6
noncomputable section
noncomputable def cx : CodeCx := ⟨S "/claim/cut.py", 0, false, 181⟩
noncomputable abbrev pmV : Value := .str (S "py65.devices.mpu6502") 194
noncomputable def ec (w : World) : Ec := ⟨cenv, cx, 0, pmV, bs w⟩
noncomputable def mkRow : List Stmt → List (Nat × Nat) → Row
  | st :: l, (n, t) :: r => (st, n, t) :: mkRow l r
  | _, _ => []
theorem mkRow_fst : ∀ (l : List Stmt) (r : List (Nat × Nat)), r.length ≤ l.length → (mkRow l r).map (·.1) = l.take r.length
  | _, [], _ => by simp [mkRow]
  | [], _ :: _, h => by simp at h
  | st :: l, (n, t) :: r, h => by
    show st :: (mkRow l r).map (·.1) = _
    rw [mkRow_fst l r (by simpa using h)]
    rfl
noncomputable def nums : List (Nat × Nat) := [(29, 208), (29, 210), (29, 212), (29, 214), (29, 216), (29, 218), (29, 220), (29, 222), (29, 224), (29, 226), (29, 228), (29, 230), (29, 232), (29, 234), (29, 236), (29, 238), (37, 248), (44, 256), (51, 263), (58, 270), (65, 277), (72, 285), (79, 293), (86, 303), (93, 310), (100, 317), (107, 324), (114, 331), (121, 338), (128, 345), (135, 354), (142, 361), (149, 370), (156, 379), (163, 387), (170, 395), (177, 402), (184, 410), (191, 418), (198, 426), (205, 434), (212, 444), (219, 454), (226, 462), (233, 470), (240, 478), (247, 486), (254, 494), (261, 503), (268, 513), (275, 521), (282, 539), (289, 549), (296, 557), (303, 565), (310, 573), (317, 583), (324, 600), (331, 610), (338, 620), (345, 628), (352, 636), (359, 644), (366, 651), (373, 659), (380, 666), (387, 673), (394, 680), (401, 687), (408, 694), (415, 701), (422, 708), (429, 715), (436, 722), (443, 729), (450, 736), (457, 743), (464, 750), (471, 757), (478, 764), (485, 771), (492, 778), (499, 785), (506, 792), (513, 799), (520, 806), (527, 813), (534, 820), (541, 827), (548, 834), (555, 841), (562, 848), (569, 855), (576, 862), (583, 869), (590, 876), (597, 883), (604, 890), (611, 897), (618, 904), (625, 911), (632, 918), (639, 925), (646, 932), (653, 939), (660, 946), (667, 953), (674, 960), (681, 967), (688, 974), (695, 981), (702, 988), (709, 995), (716, 1002), (723, 1009), (730, 1016), (737, 1023), (744, 1030), (751, 1037), (758, 1044), (765, 1051), (772, 1058), (779, 1065), (786, 1072), (793, 1079), (800, 1087), (807, 1094), (814, 1101), (821, 1108), (828, 1115), (835, 1122), (842, 1129), (849, 1136), (856, 1143), (863, 1150), (870, 1157), (877, 1164), (884, 1171), (891, 1178), (898, 1185), (905, 1192), (912, 1199), (919, 1206), (926, 1213), (933, 1220), (940, 1227), (947, 1234), (954, 1241), (961, 1248), (968, 1255), (975, 1262), (982, 1269), (989, 1276), (996, 1283), (1003, 1290), (1010, 1297), (1017, 1304), (1024, 1311), (1031, 1318), (1038, 1325), (1045, 1332), (1052, 1339), (1059, 1346), (1066, 1353), (1073, 1360), (1080, 1367), (1087, 1374), (1094, 1381), (1101, 1388), (1108, 1395), (1115, 1402), (1122, 1409), (1129, 1416), (1136, 1423), (1143, 1430), (1150, 1437), (1157, 1444), (1164, 1451), (1171, 1458), (1178, 1465), (1185, 1472), (1192, 1479), (1199, 1486), (1206, 1493), (1213, 1500), (1220, 1507), (1227, 1514), (1234, 1521), (1241, 1528), (1248, 1535), (1255, 1542), (1262, 1549), (1269, 1556), (1276, 1563), (1283, 1570), (1290, 1577), (1297, 1584), (1304, 1591), (1311, 1598), (1318, 1605), (1325, 1612), (1332, 1619), (1339, 1626), (1346, 1633), (1353, 1640), (1360, 1647), (1367, 1654), (1374, 1661), (1381, 1668), (1388, 1675), (1395, 1682), (1402, 1689), (1409, 1696), (1416, 1703)]
noncomputable def row : Row := mkRow cb nums
noncomputable def ks : List Nat := [40566444004241315945086292328530, 9223693094411567182, 9223728278794141769, 374156729175376809814151048786362472439819549016142, 374159940482089904203465974441416054423449663176783, 85073350139275367363416112186055983189, 40566269918886397888765091643458, 178412426955853197700963550525517741208633412, 784669145068816743373889952136887351439751431825785880649, 19343541760585618281201754, 40566540718426788947501326008387, 1645561051268252665622619039172595849854203956675598648436850754, 3451011395829098355434070634118342472037579312195813612184661114486850, 1645561051268252665622619039172595849854204076579364758760718401, 3451011395829098355434070634118342472037579312195933515950771438354497, 374161367731143741253624231872089875031792684105823, 19343846131946397471080563, 40567062974556106681140650180722, 9223869016349605993, 9223833831967031406, 85075297250519946837342307857916231746, 85075297250519946828118927024947462231, 85075297250519946938799316700420374615, 31830417320439421601510279130214397964113314207397343911710243396182182792322381273628752, 15177831658477120412261863360565861288471695029758508643473785384720870579934068809, 7237398977038579810304986960081414694590513131225205980335151167271765803098, 15177925739494411726340724013303795111784035136511171321418563776151939817505030234, 15177925739494411726340724013304169256203191847658231464735739144604971736236032090, 15177925739494411726340724013303795114460124220052641437398871309388591821743980617, 15177925739494411726340724013304169258879280931199701580716046677841623740474982473, 7237398977038579810304986960081414695696431635015181731425122957583372517441, 15177925739494411726340724013303795111784036242429675111394314866123730129111744577, 15177925739494411726340724013304169256203192953576735254711490234576762047842746433, 15177925739494411726340724013311278000167167572970231806937102525821224902352437314, 85074810473656600000517630723641835635, 40566985603395884911310420312179, 1645583021135550859251451338130889562488211437905709923083223155, 784675131385589055658078831735236206514596114593768013939, 178413617944664764370307790794653966272561222, 40566076490912056916704197869679, 40566289261865532401903149777007, 40566405318744215454682433192047, 40566289261717958453711519875183, 40566444004370443078835558678639, 40566405318679651810842031161455, 40566444004241315945086382506095, 40566134519314504869184513507439, 40566444004278209358467010920559, 40566289261828638988522521362543, 40566405318707321935748688511087, 40566115176409157314749170450543, 40566405318707321992923293155439, 40566076490930503678370093465711, 40566540718445235695973180637295, 40566521375632121861906385338479, 85073918046957040499099846057945727087, 40566115176390710649840298098799, 85073918046705583854833031292815147119, 85073918046705583937843401614740684911, 40566076490782929694994091475055, 40566540718297661712597178646639, 40566521375484547878530383347823, 2707814360720943931819095783640134179241771245638729875692814420339388298159670741921217767742435216423604019897063301330239593, 784655675864018113979241278807845858292561753760845529193, 784656050008437270690388338951163033661014785679576531049, 784657546586113897534976579524431735134826913354500538473, 784657920730533054246123639667748910503279945273231540329, 784658669019371367668417759954383261240186009110693544041, 784659043163790524379564820097700436608639041029424545897, 784674008940556792825447225830387451346760317778664620137, 784675131373814262958888406260338977452119413534857625705, 784675505518233419670035466403656152820572445453588627561, 784655675864196519940829523792978144038742940652893372521, 784656050008615676651976583936295319407195972571624374377, 784657546586292303496564824509564020881008100246548381801, 784657920730711460207711884652881196249461132165279383657, 784658669019549773630006004939515546986367196002741387369, 784659043163968930341153065082832722354820227921472389225, 784675131373992668920476651245471263198300600426905469033, 784675505518411825631623711388788438566753632345636470889, 784655675864374925902417768778110429784924127544941215849, 784656050008794082613564828921427605153377159463672217705, 784657172442051552747006009351379131258736255219865223273, 784657546586470709458153069494696306627189287138596225129, 784657920730889866169300129638013481995642319057327226985, 784658669019728179591594249924647832732548382894789230697, 784659043164147336302741310067965008101001414813520232553, 784674008940913604748623715800652022839122691562760306793, 784674757229751918170917836087286373576028755400222310505, 784675131374171074882064896230603548944481787318953312361, 784675505518590231593211956373920724312934819237684314217, 784655675864553331864006013763242715531105314436989059177, 784656050008972488575153073906559890899558346355720061033, 784657546586649115419741314479828592373370474030644068457, 784657920731068272130888374623145767741823505949375070313, 784658669019906585553182494909780118478729569786837074025, 784659043164325742264329555053097293847182601705568075881, 784675131374349480843653141215735834690662974211001155689, 784675505518768637554800201359053010059116006129732157545, 784655675864731737825594258748375001277286501329036902505, 784656050009150894536741318891692176645739533247767904361, 784657546586827521381329559464960878119551660922691911785, 784657920731246678092476619608278053488004692841422913641, 784658669020084991514770739894912404224910756678884917353, 784659043164504148225917800038229579593363788597615919209, 784674008941270416671800205770916594331485065346855993449, 784674757230108730094094326057550945068391129184317997161, 784675131374527886805241386200868120436844161103048999017, 784675505518947043516388446344185295805297193021780000873, 784655675864910143787182503733507287023467688221084745833, 784656050009329300498329563876824462391920720139815747689, 784657546587005927342917804450093163865732847814739755113, 784657920731425084054064864593410339234185879733470756969, 784658669020263397476358984880044689971091943570932760681, 784659043164682554187506045023361865339544975489663762537, 784675131374706292766829631186000406183025347995096842345, 784675505519125449477976691329317581551478379913827844201, 784655675865088549748770748718639572769648875113132589161, 784656050009507706459917808861956748138101907031863591017, 784657546587184333304506049435225449611914034706787598441, 784657920731603490015653109578542624980367066625518600297, 784658669020441803437947229865176975717273130462980604009, 784659043164860960149094290008494151085726162381711605865, 784674008941627228594976695741181165823847439130951680105, 784674757230465542017270816027815516560753502968413683817, 784675131374884698728417876171132691929206534887144685673, 784675505519303855439564936314449867297659566805875687529, 784655675865266955710358993703771858515830062005180432489, 784656050009686112421506053847089033884283093923911434345, 784657546587362739266094294420357735358095221598835441769, 784657920731781895977241354563674910726548253517566443625, 784658669020620209399535474850309261463454317355028447337, 784659043165039366110682534993626436831907349273759449193, 784675131375063104690006121156264977675387721779192529001, 784675505519482261401153181299582153043840753697923530857, 784656050009864518383094298832221319630464280815959277673, 784657172443121988516535479262172845735823376572152283241, 784657546587541145227682539405490021104276408490883285097, 784657920731960301938829599548807196472729440409614286953, 784658669020798615361123719835441547209635504247076290665, 784674008941984040518153185711445737316209812915047366761, 784674757230822353940447305998080088053115876752509370473, 784675131375241510651594366141397263421568908671240372329, 784675505519660667362741426284714438790021940589971374185, 784655675865623767633535483674036430008192435789276119145, 784656050010042924344682543817353605376645467708007121001, 784657172443300394478123724247305131482004563464200126569, 784657546587719551189270784390622306850457595382931128425, 784657920732138707900417844533939482218910627301662130281, 784658669020977021322711964820573832955816691139124133993, 784659043165396178033859024963891008324269723057855135849, 784674008942162446479741430696578023062390999807095210089, 784675131375419916613182611126529549167750095563288215657, 784655675872760006097065283079327859855439911471189852265, 784656050017179162808212343222645035223892943389920854121, 784656424161598319519359403365962210592345975308651855977, 784657172450436632941653523652596561329252039146113859689, 784657546594855789652800583795913736697705071064844861545, 784657920739274946363947643939230912066158102983575863401, 784658669028113259786241764225865262803064166821037867113, 784659043172532416497388824369182438171517198739768868969, 784674008949298684943271230101869452909638475489008943209, 784674757238136998365565350388503803646544539326470946921, 784675131382556155076712410531820979014997571245201948777, 784675505526975311787859470675138154383450603163932950633, 784655675872938412058653528064460145601621098363237695593, 784656050017357568769800588207777320970074130281968697449, 784657172450615038903241768637728847075433226038161703017, 784657546595034195614388828781046022443886257956892704873, 784657920739453352325535888924363197812339289875623706729, 784658669028291665747830009210997548549245353713085710441, 784659043172710822458977069354314723917698385631816712297, 784674008949477090904859475087001738655819662381056786537, 784674757238315404327153595373636089392725726218518790249, 784675131382734561038300655516953264761178758137249792105, 784675505527153717749447715660270440129631790055980793961, 784655675873116818020241773049592431347802285255285538921, 784656050017535974731388833192909606716255317174016540777, 784657172450793444864830013622861132821614412930209546345, 784657546595212601575977073766178308190067444848940548201, 784657920739631758287124133909495483558520476767671550057, 784658669028470071709418254196129834295426540605133553769, 784659043172889228420565314339447009663879572523864555625, 784674008949655496866447720072134024402000849273104629865, 784674757238493810288741840358768375138906913110566633577, 784675131382912966999888900502085550507359945029297635433, 784675505527332123711035960645402725875812976948028637289, 784655675873295223981830018034724717093983472147333382249, 784656050017714380692977078178041892462436504066064384105, 784657546595391007537565318751310593936248631740988391529, 784657920739810164248712378894627769304701663659719393385, 784658669028648477671006499181262120041607727497181397097, 784659043173067634382153559324579295410060759415912398953, 784675131383091372961477145487217836253541131921345478761, 784675505527510529672624205630535011621994163840076480617, 784655675873473629943418263019857002840164659039381225577, 784656050017892786654565323163174178208617690958112227433, 784657172451150256788006503593125704313976786714305233001, 784657546595569413499153563736442879682429818633036234857, 784657920739988570210300623879760055050882850551767236713, 784658669028826883632594744166394405787788914389229240425, 784659043173246040343741804309711581156241946307960242281, 784674008950012308789624210042398595894363223057200316521, 784674757238850622211918330329032946631269286894662320233, 784675131383269778923065390472350121999722318813393322089, 784675505527688935634212450615667297368175350732124323945, 784655675873652035905006508004989288586345845931429068905, 784656050018071192616153568148306463954798877850160070761, 784657546595747819460741808721575165428611005525084078185, 784657920740166976171888868864892340797064037443815080041, 784658669029005289594182989151526691533970101281277083753, 784659043173424446305330049294843866902423133200008085609, 784675131383448184884653635457482407745903505705441165417, 784675505527867341595800695600799583114356537624172167273]
noncomputable def us0 : List Nat := [1645579097939857496827938599568861160633997785614177722257375327, 7237333410440057777947054478967012584455014025756423976850642608192585990239, 66752618599247636949385515016786649664644554901918485927857063544442727938334477591907231858783]
noncomputable def lk : List Nat := [784655675864018113979241278807845858292561753760845529193, 784656050008437270690388338951163033661014785679576531049, 2707814360720943931819095783640134179241771245638729875692814420339388298159670741921217767742435216423604019897063301330239593, 2707814360720943931819095783640134179241771245638729875692814420339388298159670741921217767742435216423604019897063301330239593, 2707814360720943931819095783640134179241771245638729875692814420339388298159670741921217767742435216423604019897063301330239593, 784657546586113897534976579524431735134826913354500538473, 784657920730533054246123639667748910503279945273231540329, 2707814360720943931819095783640134179241771245638729875692814420339388298159670741921217767742435216423604019897063301330239593, 784658669019371367668417759954383261240186009110693544041, 784659043163790524379564820097700436608639041029424545897, 784674008940556792825447225830387451346760317778664620137, 2707814360720943931819095783640134179241771245638729875692814420339388298159670741921217767742435216423604019897063301330239593, 2707814360720943931819095783640134179241771245638729875692814420339388298159670741921217767742435216423604019897063301330239593, 784675131373814262958888406260338977452119413534857625705, 784675505518233419670035466403656152820572445453588627561, 2707814360720943931819095783640134179241771245638729875692814420339388298159670741921217767742435216423604019897063301330239593, 784655675864196519940829523792978144038742940652893372521, 784656050008615676651976583936295319407195972571624374377, 2707814360720943931819095783640134179241771245638729875692814420339388298159670741921217767742435216423604019897063301330239593, 2707814360720943931819095783640134179241771245638729875692814420339388298159670741921217767742435216423604019897063301330239593, 2707814360720943931819095783640134179241771245638729875692814420339388298159670741921217767742435216423604019897063301330239593, 784657546586292303496564824509564020881008100246548381801, 784657920730711460207711884652881196249461132165279383657, 2707814360720943931819095783640134179241771245638729875692814420339388298159670741921217767742435216423604019897063301330239593, 784658669019549773630006004939515546986367196002741387369, 784659043163968930341153065082832722354820227921472389225, 2707814360720943931819095783640134179241771245638729875692814420339388298159670741921217767742435216423604019897063301330239593, 2707814360720943931819095783640134179241771245638729875692814420339388298159670741921217767742435216423604019897063301330239593, 2707814360720943931819095783640134179241771245638729875692814420339388298159670741921217767742435216423604019897063301330239593, 784675131373992668920476651245471263198300600426905469033, 784675505518411825631623711388788438566753632345636470889, 2707814360720943931819095783640134179241771245638729875692814420339388298159670741921217767742435216423604019897063301330239593, 784655675864374925902417768778110429784924127544941215849, 784656050008794082613564828921427605153377159463672217705, 2707814360720943931819095783640134179241771245638729875692814420339388298159670741921217767742435216423604019897063301330239593, 2707814360720943931819095783640134179241771245638729875692814420339388298159670741921217767742435216423604019897063301330239593, 784657172442051552747006009351379131258736255219865223273, 784657546586470709458153069494696306627189287138596225129, 784657920730889866169300129638013481995642319057327226985, 2707814360720943931819095783640134179241771245638729875692814420339388298159670741921217767742435216423604019897063301330239593, 784658669019728179591594249924647832732548382894789230697, 784659043164147336302741310067965008101001414813520232553, 784674008940913604748623715800652022839122691562760306793, 2707814360720943931819095783640134179241771245638729875692814420339388298159670741921217767742435216423604019897063301330239593, 784674757229751918170917836087286373576028755400222310505, 784675131374171074882064896230603548944481787318953312361, 784675505518590231593211956373920724312934819237684314217, 2707814360720943931819095783640134179241771245638729875692814420339388298159670741921217767742435216423604019897063301330239593, 784655675864553331864006013763242715531105314436989059177, 784656050008972488575153073906559890899558346355720061033, 2707814360720943931819095783640134179241771245638729875692814420339388298159670741921217767742435216423604019897063301330239593, 2707814360720943931819095783640134179241771245638729875692814420339388298159670741921217767742435216423604019897063301330239593, 2707814360720943931819095783640134179241771245638729875692814420339388298159670741921217767742435216423604019897063301330239593, 784657546586649115419741314479828592373370474030644068457, 784657920731068272130888374623145767741823505949375070313, 2707814360720943931819095783640134179241771245638729875692814420339388298159670741921217767742435216423604019897063301330239593, 784658669019906585553182494909780118478729569786837074025, 784659043164325742264329555053097293847182601705568075881, 2707814360720943931819095783640134179241771245638729875692814420339388298159670741921217767742435216423604019897063301330239593, 2707814360720943931819095783640134179241771245638729875692814420339388298159670741921217767742435216423604019897063301330239593, 2707814360720943931819095783640134179241771245638729875692814420339388298159670741921217767742435216423604019897063301330239593, 784675131374349480843653141215735834690662974211001155689, 784675505518768637554800201359053010059116006129732157545, 2707814360720943931819095783640134179241771245638729875692814420339388298159670741921217767742435216423604019897063301330239593, 784655675864731737825594258748375001277286501329036902505, 784656050009150894536741318891692176645739533247767904361, 2707814360720943931819095783640134179241771245638729875692814420339388298159670741921217767742435216423604019897063301330239593, 2707814360720943931819095783640134179241771245638729875692814420339388298159670741921217767742435216423604019897063301330239593, 2707814360720943931819095783640134179241771245638729875692814420339388298159670741921217767742435216423604019897063301330239593, 784657546586827521381329559464960878119551660922691911785, 784657920731246678092476619608278053488004692841422913641, 2707814360720943931819095783640134179241771245638729875692814420339388298159670741921217767742435216423604019897063301330239593, 784658669020084991514770739894912404224910756678884917353, 784659043164504148225917800038229579593363788597615919209, 784674008941270416671800205770916594331485065346855993449, 2707814360720943931819095783640134179241771245638729875692814420339388298159670741921217767742435216423604019897063301330239593, 784674757230108730094094326057550945068391129184317997161, 784675131374527886805241386200868120436844161103048999017, 784675505518947043516388446344185295805297193021780000873, 2707814360720943931819095783640134179241771245638729875692814420339388298159670741921217767742435216423604019897063301330239593, 784655675864910143787182503733507287023467688221084745833, 784656050009329300498329563876824462391920720139815747689, 2707814360720943931819095783640134179241771245638729875692814420339388298159670741921217767742435216423604019897063301330239593, 2707814360720943931819095783640134179241771245638729875692814420339388298159670741921217767742435216423604019897063301330239593, 2707814360720943931819095783640134179241771245638729875692814420339388298159670741921217767742435216423604019897063301330239593, 784657546587005927342917804450093163865732847814739755113, 784657920731425084054064864593410339234185879733470756969, 2707814360720943931819095783640134179241771245638729875692814420339388298159670741921217767742435216423604019897063301330239593, 784658669020263397476358984880044689971091943570932760681, 784659043164682554187506045023361865339544975489663762537, 2707814360720943931819095783640134179241771245638729875692814420339388298159670741921217767742435216423604019897063301330239593, 2707814360720943931819095783640134179241771245638729875692814420339388298159670741921217767742435216423604019897063301330239593, 2707814360720943931819095783640134179241771245638729875692814420339388298159670741921217767742435216423604019897063301330239593, 784675131374706292766829631186000406183025347995096842345, 784675505519125449477976691329317581551478379913827844201, 2707814360720943931819095783640134179241771245638729875692814420339388298159670741921217767742435216423604019897063301330239593, 784655675865088549748770748718639572769648875113132589161, 784656050009507706459917808861956748138101907031863591017, 2707814360720943931819095783640134179241771245638729875692814420339388298159670741921217767742435216423604019897063301330239593, 2707814360720943931819095783640134179241771245638729875692814420339388298159670741921217767742435216423604019897063301330239593, 2707814360720943931819095783640134179241771245638729875692814420339388298159670741921217767742435216423604019897063301330239593, 784657546587184333304506049435225449611914034706787598441, 784657920731603490015653109578542624980367066625518600297, 2707814360720943931819095783640134179241771245638729875692814420339388298159670741921217767742435216423604019897063301330239593, 784658669020441803437947229865176975717273130462980604009, 784659043164860960149094290008494151085726162381711605865, 784674008941627228594976695741181165823847439130951680105, 2707814360720943931819095783640134179241771245638729875692814420339388298159670741921217767742435216423604019897063301330239593, 784674757230465542017270816027815516560753502968413683817, 784675131374884698728417876171132691929206534887144685673, 784675505519303855439564936314449867297659566805875687529, 2707814360720943931819095783640134179241771245638729875692814420339388298159670741921217767742435216423604019897063301330239593, 784655675865266955710358993703771858515830062005180432489, 784656050009686112421506053847089033884283093923911434345, 2707814360720943931819095783640134179241771245638729875692814420339388298159670741921217767742435216423604019897063301330239593, 2707814360720943931819095783640134179241771245638729875692814420339388298159670741921217767742435216423604019897063301330239593, 2707814360720943931819095783640134179241771245638729875692814420339388298159670741921217767742435216423604019897063301330239593, 784657546587362739266094294420357735358095221598835441769, 784657920731781895977241354563674910726548253517566443625, 2707814360720943931819095783640134179241771245638729875692814420339388298159670741921217767742435216423604019897063301330239593, 784658669020620209399535474850309261463454317355028447337, 784659043165039366110682534993626436831907349273759449193, 2707814360720943931819095783640134179241771245638729875692814420339388298159670741921217767742435216423604019897063301330239593, 2707814360720943931819095783640134179241771245638729875692814420339388298159670741921217767742435216423604019897063301330239593, 2707814360720943931819095783640134179241771245638729875692814420339388298159670741921217767742435216423604019897063301330239593, 784675131375063104690006121156264977675387721779192529001, 784675505519482261401153181299582153043840753697923530857, 2707814360720943931819095783640134179241771245638729875692814420339388298159670741921217767742435216423604019897063301330239593, 2707814360720943931819095783640134179241771245638729875692814420339388298159670741921217767742435216423604019897063301330239593, 784656050009864518383094298832221319630464280815959277673, 2707814360720943931819095783640134179241771245638729875692814420339388298159670741921217767742435216423604019897063301330239593, 2707814360720943931819095783640134179241771245638729875692814420339388298159670741921217767742435216423604019897063301330239593, 784657172443121988516535479262172845735823376572152283241, 784657546587541145227682539405490021104276408490883285097, 784657920731960301938829599548807196472729440409614286953, 2707814360720943931819095783640134179241771245638729875692814420339388298159670741921217767742435216423604019897063301330239593, 784658669020798615361123719835441547209635504247076290665, 2707814360720943931819095783640134179241771245638729875692814420339388298159670741921217767742435216423604019897063301330239593, 784674008941984040518153185711445737316209812915047366761, 2707814360720943931819095783640134179241771245638729875692814420339388298159670741921217767742435216423604019897063301330239593, 784674757230822353940447305998080088053115876752509370473, 784675131375241510651594366141397263421568908671240372329, 784675505519660667362741426284714438790021940589971374185, 2707814360720943931819095783640134179241771245638729875692814420339388298159670741921217767742435216423604019897063301330239593, 784655675865623767633535483674036430008192435789276119145, 784656050010042924344682543817353605376645467708007121001, 2707814360720943931819095783640134179241771245638729875692814420339388298159670741921217767742435216423604019897063301330239593, 2707814360720943931819095783640134179241771245638729875692814420339388298159670741921217767742435216423604019897063301330239593, 784657172443300394478123724247305131482004563464200126569, 784657546587719551189270784390622306850457595382931128425, 784657920732138707900417844533939482218910627301662130281, 2707814360720943931819095783640134179241771245638729875692814420339388298159670741921217767742435216423604019897063301330239593, 784658669020977021322711964820573832955816691139124133993, 784659043165396178033859024963891008324269723057855135849, 784674008942162446479741430696578023062390999807095210089, 2707814360720943931819095783640134179241771245638729875692814420339388298159670741921217767742435216423604019897063301330239593, 2707814360720943931819095783640134179241771245638729875692814420339388298159670741921217767742435216423604019897063301330239593, 784675131375419916613182611126529549167750095563288215657, 2707814360720943931819095783640134179241771245638729875692814420339388298159670741921217767742435216423604019897063301330239593, 2707814360720943931819095783640134179241771245638729875692814420339388298159670741921217767742435216423604019897063301330239593, 784655675872760006097065283079327859855439911471189852265, 784656050017179162808212343222645035223892943389920854121, 784656424161598319519359403365962210592345975308651855977, 2707814360720943931819095783640134179241771245638729875692814420339388298159670741921217767742435216423604019897063301330239593, 784657172450436632941653523652596561329252039146113859689, 784657546594855789652800583795913736697705071064844861545, 784657920739274946363947643939230912066158102983575863401, 2707814360720943931819095783640134179241771245638729875692814420339388298159670741921217767742435216423604019897063301330239593, 784658669028113259786241764225865262803064166821037867113, 784659043172532416497388824369182438171517198739768868969, 784674008949298684943271230101869452909638475489008943209, 2707814360720943931819095783640134179241771245638729875692814420339388298159670741921217767742435216423604019897063301330239593, 784674757238136998365565350388503803646544539326470946921, 784675131382556155076712410531820979014997571245201948777, 784675505526975311787859470675138154383450603163932950633, 2707814360720943931819095783640134179241771245638729875692814420339388298159670741921217767742435216423604019897063301330239593, 784655675872938412058653528064460145601621098363237695593, 784656050017357568769800588207777320970074130281968697449, 2707814360720943931819095783640134179241771245638729875692814420339388298159670741921217767742435216423604019897063301330239593, 2707814360720943931819095783640134179241771245638729875692814420339388298159670741921217767742435216423604019897063301330239593, 784657172450615038903241768637728847075433226038161703017, 784657546595034195614388828781046022443886257956892704873, 784657920739453352325535888924363197812339289875623706729, 2707814360720943931819095783640134179241771245638729875692814420339388298159670741921217767742435216423604019897063301330239593, 784658669028291665747830009210997548549245353713085710441, 784659043172710822458977069354314723917698385631816712297, 784674008949477090904859475087001738655819662381056786537, 2707814360720943931819095783640134179241771245638729875692814420339388298159670741921217767742435216423604019897063301330239593, 784674757238315404327153595373636089392725726218518790249, 784675131382734561038300655516953264761178758137249792105, 784675505527153717749447715660270440129631790055980793961, 2707814360720943931819095783640134179241771245638729875692814420339388298159670741921217767742435216423604019897063301330239593, 784655675873116818020241773049592431347802285255285538921, 784656050017535974731388833192909606716255317174016540777, 2707814360720943931819095783640134179241771245638729875692814420339388298159670741921217767742435216423604019897063301330239593, 2707814360720943931819095783640134179241771245638729875692814420339388298159670741921217767742435216423604019897063301330239593, 784657172450793444864830013622861132821614412930209546345, 784657546595212601575977073766178308190067444848940548201, 784657920739631758287124133909495483558520476767671550057, 2707814360720943931819095783640134179241771245638729875692814420339388298159670741921217767742435216423604019897063301330239593, 784658669028470071709418254196129834295426540605133553769, 784659043172889228420565314339447009663879572523864555625, 784674008949655496866447720072134024402000849273104629865, 2707814360720943931819095783640134179241771245638729875692814420339388298159670741921217767742435216423604019897063301330239593, 784674757238493810288741840358768375138906913110566633577, 784675131382912966999888900502085550507359945029297635433, 784675505527332123711035960645402725875812976948028637289, 2707814360720943931819095783640134179241771245638729875692814420339388298159670741921217767742435216423604019897063301330239593, 784655675873295223981830018034724717093983472147333382249, 784656050017714380692977078178041892462436504066064384105, 2707814360720943931819095783640134179241771245638729875692814420339388298159670741921217767742435216423604019897063301330239593, 2707814360720943931819095783640134179241771245638729875692814420339388298159670741921217767742435216423604019897063301330239593, 2707814360720943931819095783640134179241771245638729875692814420339388298159670741921217767742435216423604019897063301330239593, 784657546595391007537565318751310593936248631740988391529, 784657920739810164248712378894627769304701663659719393385, 2707814360720943931819095783640134179241771245638729875692814420339388298159670741921217767742435216423604019897063301330239593, 784658669028648477671006499181262120041607727497181397097, 784659043173067634382153559324579295410060759415912398953, 2707814360720943931819095783640134179241771245638729875692814420339388298159670741921217767742435216423604019897063301330239593, 2707814360720943931819095783640134179241771245638729875692814420339388298159670741921217767742435216423604019897063301330239593, 2707814360720943931819095783640134179241771245638729875692814420339388298159670741921217767742435216423604019897063301330239593, 784675131383091372961477145487217836253541131921345478761, 784675505527510529672624205630535011621994163840076480617, 2707814360720943931819095783640134179241771245638729875692814420339388298159670741921217767742435216423604019897063301330239593, 784655675873473629943418263019857002840164659039381225577, 784656050017892786654565323163174178208617690958112227433, 2707814360720943931819095783640134179241771245638729875692814420339388298159670741921217767742435216423604019897063301330239593, 2707814360720943931819095783640134179241771245638729875692814420339388298159670741921217767742435216423604019897063301330239593, 784657172451150256788006503593125704313976786714305233001, 784657546595569413499153563736442879682429818633036234857, 784657920739988570210300623879760055050882850551767236713, 2707814360720943931819095783640134179241771245638729875692814420339388298159670741921217767742435216423604019897063301330239593, 784658669028826883632594744166394405787788914389229240425, 784659043173246040343741804309711581156241946307960242281, 784674008950012308789624210042398595894363223057200316521, 2707814360720943931819095783640134179241771245638729875692814420339388298159670741921217767742435216423604019897063301330239593, 784674757238850622211918330329032946631269286894662320233, 784675131383269778923065390472350121999722318813393322089, 784675505527688935634212450615667297368175350732124323945, 2707814360720943931819095783640134179241771245638729875692814420339388298159670741921217767742435216423604019897063301330239593, 784655675873652035905006508004989288586345845931429068905, 784656050018071192616153568148306463954798877850160070761, 2707814360720943931819095783640134179241771245638729875692814420339388298159670741921217767742435216423604019897063301330239593, 2707814360720943931819095783640134179241771245638729875692814420339388298159670741921217767742435216423604019897063301330239593, 2707814360720943931819095783640134179241771245638729875692814420339388298159670741921217767742435216423604019897063301330239593, 784657546595747819460741808721575165428611005525084078185, 784657920740166976171888868864892340797064037443815080041, 2707814360720943931819095783640134179241771245638729875692814420339388298159670741921217767742435216423604019897063301330239593, 784658669029005289594182989151526691533970101281277083753, 784659043173424446305330049294843866902423133200008085609, 2707814360720943931819095783640134179241771245638729875692814420339388298159670741921217767742435216423604019897063301330239593, 2707814360720943931819095783640134179241771245638729875692814420339388298159670741921217767742435216423604019897063301330239593, 2707814360720943931819095783640134179241771245638729875692814420339388298159670741921217767742435216423604019897063301330239593, 784675131383448184884653635457482407745903505705441165417, 784675505527867341595800695600799583114356537624172167273, 2707814360720943931819095783640134179241771245638729875692814420339388298159670741921217767742435216423604019897063301330239593]
noncomputable def nI : Nat := 1423
noncomputable def tI : Nat := 1710
theorem ec_ok (w : World) (os : OsState) : EcOk PP 11 annV (Array.mk []) boot_drawn os w (ec w) where
  n24 := rfl
  n26 := rfl
  A := rfl
  kind := by kernel_rfl
  code := rfl
  locals := rfl
  rec27 := ⟨_, _, _, _, _, rfl, rfl, rfl, rfl, rfl, rfl, rfl⟩
  built := fun c t pos => by
    unfold builtinsFor nsGet
    refine XR.at_n (n := (1 + 0) + (1 + 0)) ?_ rfl
    refine XR_bind (a := some (.ref 4)) (h₁ := mkH (ec w).b c) (t₁ := t) (pos₁ := pos) ?_ ?_
    · refine XR_bind (XR_load (mkH_A (i := 3) (o := o3a w) rfl (by decide) rfl)) ?_
      rw [show nsLook "__builtins__" (o3a w) = pure (some (.ref 4)) by kernel_rfl]
      exact XR_pure
    · dsimp only
      rw [if_neg (by exact Bool.false_ne_true)]
      refine XR_bind (XR_load (mkH_A (i := 4) (o := boot_o_4 w.params) rfl (by decide) rfl)) ?_
      exact XR_pure
  name := fun c t pos => by
    unfold nsGet
    refine XR.at_n (n := 1 + 0) ?_ rfl
    refine XR_bind (XR_load (mkH_A (i := 3) (o := o3a w) rfl (by decide) rfl)) ?_
    rw [show nsLook "__name__" (o3a w) = pure (some pmV) by kernel_rfl]
    exact XR_pure
theorem cb_len : Nat.ble 217 cb.length = true := by decide +kernel
theorem row_is : row.map (·.1) = cb.take 214 := mkRow_fst cb nums (Nat.le_trans (by decide) (Nat.le_of_ble_eq_true cb_len))
theorem row_ok : rowOk row 29 208 = true := by decide +kernel
theorem row_chk : chk us0 0 (row.map (·.1)) ks = true := by decide +kernel
theorem row_st : ∀ x ∈ row, stB x.1 = true := List.all_eq_true.mp (show row.all (fun x => stB x.1) = true by decide +kernel)
theorem row_T : Nat.beq (rowT row 208) tI = true := by decide +kernel
theorem row_N : Nat.beq (rowN row 29) nI = true := by decide +kernel
end
end M6
namespace M6
noncomputable section
theorem cb_split : cb.take 214 ++ [cst 214, cst 215, cst 216] = cb := by
  have : cb.drop 214 = [cst 214, cst 215, cst 216] := by kernel_rfl
  rw [← this, List.take_append_drop]
theorem names_is : cenv.scope.names.map (·.1) = cb.map bindOf := by kernel_rfl
theorem names_loc : cenv.scope.names.all (fun x => x.2 == .local) = true := by decide +kernel
theorem kinds : ∀ st ∈ cb, cenv.kindOf (bindOf st) = some .local := fun st hs => lookup_local names_loc (by rw [names_is]; exact List.mem_map_of_mem hs)
theorem row_small : ∀ x ∈ row, small (bindOf x.1) = true := List.all_eq_true.mp (show row.all (fun x => small (bindOf x.1)) = true by decide +kernel)
theorem row_len : row.length = ks.length := by decide +kernel
theorem lf1 : cst 214 = lForm (cst 214) := by kernel_rfl
theorem lf2 : cst 215 = lForm (cst 215) := by kernel_rfl
theorem lf3 : cst 216 = lForm (cst 216) := by kernel_rfl
noncomputable def dbg : Nat := 784673260660103558151603359403565393192537316679948959839
theorem dbg_is : dbg = enc ("__debug__" : Str) := by kernel_rfl
theorem lc1 : chkL ks dbg (lEs (cst 214)) lk = true := by decide +kernel
theorem lc2 : chkL ks dbg (lEs (cst 215)) [] = true := by decide +kernel
theorem lc3 : chkL ks dbg (lEs (cst 216)) [] = true := by decide +kernel
noncomputable def us1 : List Nat := ks.reverse ++ us0
noncomputable def k1 : Nat := 374165114256677376805797941628899760194654742511721
noncomputable def k2 : Nat := 784675505529116182050862292951028498782043682562763653219
noncomputable def k3 : Nat := 3451062406498622282229097528363228327365908006738419574344662300754021
theorem k1_is : Nat.beq k1 (enc (bindOf (cst 214))) = true := by decide +kernel
theorem k2_is : Nat.beq k2 (enc (bindOf (cst 215))) = true := by decide +kernel
theorem k3_is : Nat.beq k3 (enc (bindOf (cst 216))) = true := by decide +kernel
theorem us_is : lastUs (row.map (·.1)) ks us0 = us1 := by kernel_rfl
theorem aw1 : awayN k1 us1 = true := by decide +kernel
theorem aw2 : awayN k2 (k1 :: us1) = true := by decide +kernel
theorem aw3 : awayN k3 (k2 :: k1 :: us1) = true := by decide +kernel
theorem tk1 : Nat.beq (lTk (lEs (cst 214)) tI) 1710 = true := by decide +kernel
theorem tk2 : Nat.beq (lTk (lEs (cst 215)) 1711) 1967 = true := by decide +kernel
theorem tk3 : Nat.beq (lTk (lEs (cst 216)) 1968) 2224 = true := by decide +kernel
theorem ln1 : Nat.ble (lEs (cst 214)).length 1000 = true := by decide +kernel
theorem ln2 : Nat.ble (lEs (cst 215)).length 1000 = true := by decide +kernel
theorem ln3 : Nat.ble (lEs (cst 216)).length 1000 = true := by decide +kernel
theorem in0 : enc (S "__module__") ∈ us0 := by decide +kernel
theorem in1 : enc (S "__qualname__") ∈ us0 := by decide +kernel
theorem in2 : enc (S "__firstlineno__") ∈ us0 := by decide +kernel
theorem I0 (w : World) : Inv us0 0 ⟨[], ns0 w, []⟩ := ⟨fun x hx => by
    rcases List.mem_cons.mp hx with rfl | hx
    · exact ⟨_, _, rfl, in0⟩
    · rcases List.mem_cons.mp hx with rfl | hx
      · exact ⟨_, _, rfl, in1⟩
      · obtain rfl := List.mem_singleton.mp hx
        exact ⟨_, _, rfl, in2⟩, fun x hx => nomatch hx⟩
theorem cb_row : row.map (·.1) ++ [cst 214, cst 215, cst 216] = cb := by rw [row_is]; exact cb_split
noncomputable abbrev T1 : Nat := 1710
noncomputable abbrev T2 : Nat := 1967
noncomputable abbrev T3 : Nat := 2224
noncomputable def objF (w : World) : List Obj := objG (ec w) w (ns0 w) row (cst 214) (cst 215) (cst 216) tI T1 T2 nI
noncomputable def nsF (w : World) : List DictEntry := nsD w (ns0 w) row (cst 214) (cst 215) (cst 216) T1 T2 T3 nI
theorem body_run (w : World) (os : OsState) : XR PP 11 annV (Array.mk []) boot_drawn os w (stepsG row (cst 214) (cst 215) (cst 216)) (execs cb (ec w).env) (mkH (ec w).b ⟨[], ns0 w, []⟩) 208 p109 .next (mkH (ec w).b ⟨objF w, nsF w, rPl row⟩) (T3 + 1) (endOf (cst 216)) :=
  body_gen (lk := lk) (ec_ok w os) (I0 w) cb_row kinds row_ok row_chk row_st (Nat.eq_of_beq_eq_true row_T) (Nat.eq_of_beq_eq_true row_N) row_small row_len lf1 lf2 lf3 dbg_is lc1 lc2 lc3 us_is k1_is k2_is k3_is aw1 aw2 aw3 (Nat.eq_of_beq_eq_true tk1) (Nat.eq_of_beq_eq_true tk2) (Nat.eq_of_beq_eq_true tk3) (Nat.le_of_ble_eq_true ln1) (Nat.le_of_ble_eq_true ln2) (Nat.le_of_ble_eq_true ln3)
end
end M6
namespace M6
noncomputable section
noncomputable def LB (w : World) : List Obj := A109 w ++ (nsObj (nsF w) :: o25 :: plObj (rPl row) :: o27 :: o28 :: objF w)
noncomputable def SB (w : World) (os : OsState) : SharedT := ⟨btOf 11 (LB w), nI + 3, (boot_heap w.params).life, Array.mk [], boot_drawn, T3 + 1, os⟩
noncomputable def thB (w : World) (os : OsState) : Thread := ⟨doneF .next, .body cb cenv, endOf (cst 216), fr1 w os :: (stk w os).tail⟩
noncomputable def noQ : List DictEntry → List DictEntry
  | a :: _ :: r => a :: r
  | l => l
noncomputable def o3F (w : World) : Obj := ⟨(.type "dict"), none, .dict #[⟨h w (S "__name__"), .str (S "__name__") 165, (.str (S "law_me0006_02") 2249)⟩, ⟨h w (S "__doc__"), .str (S "__doc__") 166, .none⟩, ⟨h w (S "__package__"), .str (S "__package__") 167, .none⟩, ⟨h w (S "__loader__"), .str (S "__loader__") 168, (.builtin "__main__.__loader__#opaque")⟩, ⟨h w (S "__spec__"), .str (S "__spec__") 169, .none⟩, ⟨h w (S "__annotations__"), .str (S "__annotations__") 170, (.ref 6)⟩, ⟨h w (S "__builtins__"), .str (S "__builtins__") 171, (.ref 4)⟩, ⟨h w (S "__file__"), .str (S "__file__") 173, (.str (S "/claim/cut.py") 172)⟩, ⟨h w (S "__cached__"), .str (S "__cached__") 174, .none⟩, ⟨h w (S "_wall"), .str (S "_wall") 193, (.ref 21)⟩, ⟨h w (S "MPU"), .str (S "MPU") 2248, (.ref 1428)⟩, ⟨h w (S "_law_word"), .str (S "_law_word") 2257, (.ref 1439)⟩, ⟨h w (S "_law_key"), .str (S "_law_key") 2263, (.ref 1444)⟩, ⟨h w (S "_law_offset"), .str (S "_law_offset") 2270, (.ref 1451)⟩, ⟨h w (S "_law_program"), .str (S "_law_program") 2281, (.ref 1458)⟩, ⟨h w (S "law"), .str (S "law") 2287, (.ref 1463)⟩] 16, #[]⟩
noncomputable def o12F : Obj := ⟨.none, none, .fields #[(.int 1 0), (.int 0 0), (.ref 20), (.int 5 0), (.int 0 0), (.ref 27), (.int 1031 0), (.int 0 0), (.ref 1438), (.int 1033 0), (.int 0 0), (.ref 1443), (.int 1035 0), (.int 0 0), (.ref 1450), (.int 1037 0), (.int 0 0), (.ref 1457), (.int 1045 0), (.int 0 0), (.ref 1462)], #[]⟩
noncomputable def eS (w : World) : DictEntry := ⟨h w (S "__static_attributes__"), .str (S "__static_attributes__") 2241, (.ref 1426)⟩
noncomputable def o1427 (w : World) : Obj := ⟨.type "dict", none, .dict (noQ (nsF w) ++ eS w :: [⟨h w (S "__dict__"), .str (S "__dict__") 2243, (.ref 1429)⟩, ⟨h w (S "__weakref__"), .str (S "__weakref__") 2245, (.ref 1430)⟩, ⟨h w (S "__doc__"), .str (S "__doc__") 2246, .none⟩]).toArray 4, #[]⟩
noncomputable def o1426 : Obj := ⟨(.type "tuple"), none, .seq #[(.str (S "a") 2225), (.str (S "addcycles") 2226), (.str (S "addrHighMask") 2227), (.str (S "addrMask") 2228), (.str (S "byteMask") 2229), (.str (S "excycles") 2230), (.str (S "memory") 2231), (.str (S "name") 2232), (.str (S "p") 2233), (.str (S "pc") 2234), (.str (S "processorCycles") 2235), (.str (S "sp") 2236), (.str (S "spBase") 2237), (.str (S "start_pc") 2238), (.str (S "x") 2239), (.str (S "y") 2240)] 0, #[]⟩
noncomputable def o1428 : Obj := ⟨(.type "type"), none, .cls { name := (S "MPU"), bases := [(.type "object")], mro := [(.ref 1428), (.type "object")], ns := 1427, qualname := (S "MPU"), hasDict := true, slotNames := [], subclasses := [], abstract := false, collection := none, hasDel := false }, #[none, none, some (.str (S "MPU") 196), some (.str (S "MPU") 204), some (.builtin "object.__new__"), some (.bool true)]⟩
noncomputable def o1429 : Obj := ⟨(.type "getset_descriptor"), none, .fields #[(.str (S "__dict__") 2242), (.ref 1428), (.builtin "function.__dict__"), (.builtin "function.__dict__#set")], #[]⟩
noncomputable def o1430 : Obj := ⟨(.type "getset_descriptor"), none, .fields #[(.str (S "__weakref__") 2244), (.ref 1428), (.builtin "ExceptionGroup.__weakref__"), .none], #[]⟩
noncomputable def o1431 : Obj := ⟨(.type "super"), none, .fields #[(.ref 1428), (.ref 1428), (.ref 1428)], #[]⟩
noncomputable def o1432 : Obj := ⟨(.type "builtin_function_or_method"), none, .fields #[(.builtin "object.__init_subclass__"), (.ref 1428)], #[]⟩
noncomputable def o1433 : Obj := ⟨(.type "tuple"), none, .seq #[] 0, #[]⟩
noncomputable def o1434 : Obj := ⟨.none, none, .fields #[], #[]⟩
noncomputable def o1435 : Obj := ⟨(.type "tuple"), none, .seq #[(.str (S "place") 2254)] 0, #[]⟩
noncomputable def o1436 : Obj := ⟨(.type "tuple"), none, .seq #[] 0, #[]⟩
noncomputable def o1437 : Obj := ⟨.none, none, .func { name := (S "_law_word"), qualname := (S "_law_word"), params := sArgs (pst 4), body := .stmts (sBody (pst 4)), scope := sScope (pst 4), globals := 0, closure := [], defaults := .none, kwdefaults := .none, doc := .none, pyModule := .none, annotations := none, code := .none, closureTuple := .none, builtins := 0 }, #[]⟩
noncomputable def o1438 : Obj := ⟨(.type "code"), none, .fields #[(.str (S "_law_word") 2251), (.str (S "_law_word") 2252), (.str (S "/claim/cut.py") 2253), (.int 1031 0), (.int 1 0), (.int 0 0), (.int 0 0), (.int 3 0), (.ref 1433), (.bool true), (.int 181 0), (.ref 1434), .none, (.ref 1435), (.ref 1436), (.ref 1437), (.int 2255 0), (.int 1031 0), (.str (S "/claim/cut.py") 2256)], #[]⟩
noncomputable def o1439 : Obj := ⟨(.type "function"), none, .func { name := (S "_law_word"), qualname := (S "_law_word"), params := sArgs (pst 4), body := .stmts (sBody (pst 4)), scope := sScope (pst 4), globals := 3, closure := [], defaults := .none, kwdefaults := .none, doc := .none, pyModule := (.str (S "law_me0006_02") 2249), annotations := none, code := (.ref 1438), closureTuple := .none, builtins := 0 }, #[]⟩
noncomputable def o1440 : Obj := ⟨(.type "tuple"), none, .seq #[] 0, #[]⟩
noncomputable def o1441 : Obj := ⟨.none, none, .fields #[], #[]⟩
noncomputable def o1442 : Obj := ⟨.none, none, .func { name := (S "_law_key"), qualname := (S "_law_key"), params := sArgs (pst 5), body := .stmts (sBody (pst 5)), scope := sScope (pst 5), globals := 0, closure := [], defaults := .none, kwdefaults := .none, doc := .none, pyModule := .none, annotations := none, code := .none, closureTuple := .none, builtins := 0 }, #[]⟩
noncomputable def o1443 : Obj := ⟨(.type "code"), none, .fields #[(.str (S "_law_key") 2258), (.str (S "_law_key") 2259), (.str (S "/claim/cut.py") 2260), (.int 1033 0), (.int 2 0), (.int 0 0), (.int 0 0), (.int 3 0), (.ref 1440), (.bool true), (.int 181 0), (.ref 1441), .none, .none, .none, (.ref 1442), (.int 2261 0), (.int 1033 0), (.str (S "/claim/cut.py") 2262)], #[]⟩
noncomputable def o1444 : Obj := ⟨(.type "function"), none, .func { name := (S "_law_key"), qualname := (S "_law_key"), params := sArgs (pst 5), body := .stmts (sBody (pst 5)), scope := sScope (pst 5), globals := 3, closure := [], defaults := .none, kwdefaults := .none, doc := .none, pyModule := (.str (S "law_me0006_02") 2249), annotations := none, code := (.ref 1443), closureTuple := .none, builtins := 0 }, #[]⟩
noncomputable def o1445 : Obj := ⟨(.type "tuple"), none, .seq #[] 0, #[]⟩
noncomputable def o1446 : Obj := ⟨.none, none, .fields #[], #[]⟩
noncomputable def o1447 : Obj := ⟨(.type "tuple"), none, .seq #[(.str (S "n") 2267)] 0, #[]⟩
noncomputable def o1448 : Obj := ⟨(.type "tuple"), none, .seq #[] 0, #[]⟩
noncomputable def o1449 : Obj := ⟨.none, none, .func { name := (S "_law_offset"), qualname := (S "_law_offset"), params := sArgs (pst 6), body := .stmts (sBody (pst 6)), scope := sScope (pst 6), globals := 0, closure := [], defaults := .none, kwdefaults := .none, doc := .none, pyModule := .none, annotations := none, code := .none, closureTuple := .none, builtins := 0 }, #[]⟩
noncomputable def o1450 : Obj := ⟨(.type "code"), none, .fields #[(.str (S "_law_offset") 2264), (.str (S "_law_offset") 2265), (.str (S "/claim/cut.py") 2266), (.int 1035 0), (.int 1 0), (.int 0 0), (.int 0 0), (.int 3 0), (.ref 1445), (.bool true), (.int 181 0), (.ref 1446), .none, (.ref 1447), (.ref 1448), (.ref 1449), (.int 2268 0), (.int 1035 0), (.str (S "/claim/cut.py") 2269)], #[]⟩
noncomputable def o1451 : Obj := ⟨(.type "function"), none, .func { name := (S "_law_offset"), qualname := (S "_law_offset"), params := sArgs (pst 6), body := .stmts (sBody (pst 6)), scope := sScope (pst 6), globals := 3, closure := [], defaults := .none, kwdefaults := .none, doc := .none, pyModule := (.str (S "law_me0006_02") 2249), annotations := none, code := (.ref 1450), closureTuple := .none, builtins := 0 }, #[]⟩
noncomputable def o1452 : Obj := ⟨(.type "tuple"), none, .seq #[] 0, #[]⟩
noncomputable def o1453 : Obj := ⟨.none, none, .fields #[], #[]⟩
noncomputable def o1454 : Obj := ⟨(.type "tuple"), none, .seq #[(.str (S "turned") 2274), (.str (S "base") 2275), (.str (S "outer") 2276), (.str (S "inner") 2277), (.str (S "insert") 2278)] 0, #[]⟩
noncomputable def o1455 : Obj := ⟨(.type "tuple"), none, .seq #[] 0, #[]⟩
noncomputable def o1456 : Obj := ⟨.none, none, .func { name := (S "_law_program"), qualname := (S "_law_program"), params := sArgs (pst 7), body := .stmts (sBody (pst 7)), scope := sScope (pst 7), globals := 0, closure := [], defaults := .none, kwdefaults := .none, doc := .none, pyModule := .none, annotations := none, code := .none, closureTuple := .none, builtins := 0 }, #[]⟩
noncomputable def o1457 : Obj := ⟨(.type "code"), none, .fields #[(.str (S "_law_program") 2271), (.str (S "_law_program") 2272), (.str (S "/claim/cut.py") 2273), (.int 1037 0), (.int 2 0), (.int 0 0), (.int 0 0), (.int 3 0), (.ref 1452), (.bool true), (.int 181 0), (.ref 1453), .none, (.ref 1454), (.ref 1455), (.ref 1456), (.int 2279 0), (.int 1037 0), (.str (S "/claim/cut.py") 2280)], #[]⟩
noncomputable def o1458 : Obj := ⟨(.type "function"), none, .func { name := (S "_law_program"), qualname := (S "_law_program"), params := sArgs (pst 7), body := .stmts (sBody (pst 7)), scope := sScope (pst 7), globals := 3, closure := [], defaults := .none, kwdefaults := .none, doc := .none, pyModule := (.str (S "law_me0006_02") 2249), annotations := none, code := (.ref 1457), closureTuple := .none, builtins := 0 }, #[]⟩
noncomputable def o1459 : Obj := ⟨(.type "tuple"), none, .seq #[] 0, #[]⟩
noncomputable def o1460 : Obj := ⟨.none, none, .fields #[], #[]⟩
noncomputable def o1461 : Obj := ⟨.none, none, .func { name := (S "law"), qualname := (S "law"), params := sArgs (pst lawI), body := .stmts (sBody (pst lawI)), scope := sScope (pst lawI), globals := 0, closure := [], defaults := .none, kwdefaults := .none, doc := .none, pyModule := .none, annotations := none, code := .none, closureTuple := .none, builtins := 0 }, #[]⟩
noncomputable def o1462 : Obj := ⟨(.type "code"), none, .fields #[(.str (S "law") 2282), (.str (S "law") 2283), (.str (S "/claim/cut.py") 2284), (.int 1045 0), (.int 1 0), (.int 0 0), (.int 0 0), (.int 3 0), (.ref 1459), (.bool true), (.int 181 0), (.ref 1460), .none, .none, .none, (.ref 1461), (.int 2285 0), (.int 1045 0), (.str (S "/claim/cut.py") 2286)], #[]⟩
noncomputable def o1463 : Obj := ⟨(.type "function"), none, .func { name := (S "law"), qualname := (S "law"), params := sArgs (pst lawI), body := .stmts (sBody (pst lawI)), scope := sScope (pst lawI), globals := 3, closure := [], defaults := .none, kwdefaults := .none, doc := .none, pyModule := (.str (S "law_me0006_02") 2249), annotations := none, code := (.ref 1462), closureTuple := .none, builtins := 0 }, #[]⟩
noncomputable def LN (w : World) : List Obj := [o1426, o1427 w, o1428, o1429, o1430, o1431, o1432, o1433, o1434, o1435, o1436, o1437, o1438, o1439, o1440, o1441, o1442, o1443, o1444, o1445, o1446, o1447, o1448, o1449, o1450, o1451, o1452, o1453, o1454, o1455, o1456, o1457, o1458, o1459, o1460, o1461, o1462, o1463]
noncomputable def AF (w : World) : List Obj := [boot_o_0 w.params, boot_o_1 w.params, boot_o_2 w.params, o3F w, boot_o_4 w.params, boot_o_5 w.params, boot_o_6 w.params, boot_o_7 w.params, boot_o_8 w.params, boot_o_9 w.params, boot_o_10 w.params, o11, o12F, o13, o14, o15, o16, o17, o18, o19, o20, o21, o22, o23]
noncomputable def LF (w : World) : List Obj := AF w ++ (nsObj (nsF w ++ [eS w]) :: o25 :: plObj (rPl row) :: o27 :: o28 :: (objF w ++ LN w))
noncomputable def SF (w : World) (os : OsState) : SharedT := ⟨btOf 11 (LF w), 1464, (boot_heap w.params).life, Array.mk [], boot_drawn, 2288, os⟩
theorem fin_is (w : World) (os : OsState) : (PySem.W.Fast.tw10110043849684766642 PySem.W.Fast.tw14364793385576792824 PP w 11 annV 0 502 (SB w os) (thB w os)).map (fun r => r.2.1) = some (SF w os) := by kernel_rfl
end
end M6
namespace M6
noncomputable section
theorem seg_topRun {tb : String → Option Builtin} {p : Program} {w : World} {n₀ : Nat} {ann : Option Value} : ∀ (n : Nat) (s : Shared) (t : Thread) (r : Flow × Shared × Code × Pos), segRun tb p w n₀ ann 0 n s t = some r → topRun tb p w n₀ ann n s t = some r.2.1
  | 0, _, _, _, h => by cases h
  | n + 1, s, t, r, h => by
    unfold segRun at h
    unfold topRun
    have key : through t = (endAt 0 t).isSome := by
      unfold through endAt
      cases t with
      | mk cur code pos stack =>
        cases stack with
        | nil =>
          cases cur with
          | pure f => cases f <;> rfl
          | _ => rfl
        | cons a b => rfl
    rw [key]
    cases he : endAt 0 t with
    | some f => rw [he] at h; cases h; rfl
    | none =>
      rw [he] at h
      dsimp only [Option.isSome] at h ⊢
      cases hk : stepOk n₀ ann t with
      | false => rw [hk] at h; cases h
      | true =>
        rw [hk] at h
        cases hs : step (denote tb) p w s t with
        | halt o s₂ => rw [hs] at h; cases h
        | go s₂ t₂ => rw [hs] at h; exact seg_topRun n s₂ t₂ r h
theorem L0_heap (w : World) : absHeap (btOf 4 (L0 w)) 11 (boot_heap w.params).life = boot_heap w.params := by
  have := absHeap_btOf (k := 4) (l := L0 w) (life := (boot_heap w.params).life) (by decide : 11 < 2 ^ 4)
  exact this.trans rfl
theorem L109_heap (w : World) : absHeap (btOf 5 (L109 w)) 29 (boot_heap w.params).life = mkH (bs w) ⟨[], ns0 w, []⟩ := by
  have := absHeap_btOf (k := 5) (l := L109 w) (life := (boot_heap w.params).life) (by decide : 29 < 2 ^ 5)
  exact this.trans rfl
theorem objF_len (w : World) : (objF w).length = (rObjs (ec w) row).length + 3 := by
  unfold objF objG
  simp only [List.length_append, List.length_singleton]
theorem rObjs_len (w : World) : 29 + (rObjs (ec w) row).length = nI := (rowN_is row 29 208 row_ok row_st).trans (Nat.eq_of_beq_eq_true row_N)
theorem A109_len (w : World) : (A109 w).length = 24 := rfl
theorem LB_len (w : World) : (LB w).length = nI + 3 := by
  unfold LB
  rw [List.length_append, A109_len]
  simp only [List.length_cons]
  rw [objF_len]
  have := rObjs_len w
  omega
theorem LB_heap (w : World) : absHeap (btOf 11 (LB w)) (nI + 3) (boot_heap w.params).life = mkH (bs w) ⟨objF w, nsF w, rPl row⟩ := by
  have := absHeap_btOf (k := 11) (l := LB w) (life := (boot_heap w.params).life) (by rw [LB_len]; decide)
  rw [LB_len] at this
  exact this
theorem start_no : blockStart cb cenv = pure () := by kernel_rfl
theorem body_tree : denote treeTable (.body cb cenv) = (execs cb cenv).wrap doneF (leaveH cenv) id id := by
  rw [body_wrap, start_no]
  rfl
noncomputable def stepsT : Nat := 109 + (stepsG row (cst 214) (cst 215) (cst 216) + 502)
theorem run_all (w : World) (os : OsState) : topRun treeTable PP w 11 annV stepsT ⟨boot_heap w.params, Array.mk [], boot_drawn, boot_toks, os⟩ (topStub PP) = some (SF w os).abs := by
  have g1 : segGoT treeTable PP w 11 annV 0 109 (S0 w os) (topStub PP) = some (S109 w os, ⟨denote treeTable (.body cb cenv), .body cb cenv, p109, fr1 w os :: (stk w os).tail⟩) := by
    rw [PySem.W.Fast.te10295753902157049106, PySem.W.Fast.te14364793385576792824, PySem.W.Fast.te11892475500146522536]
    exact go109_is w os
  have r1 := Rn.go (segGo_of g1)
  have e0 : (S0 w os).abs = ⟨boot_heap w.params, Array.mk [], boot_drawn, boot_toks, os⟩ := by
    show (⟨absHeap (btOf 4 (L0 w)) 11 (boot_heap w.params).life, Array.mk [], boot_drawn, boot_toks, os⟩ : Shared) = _
    rw [L0_heap]
  have e1 : (S109 w os).abs = ⟨mkH (bs w) ⟨[], ns0 w, []⟩, Array.mk [], boot_drawn, 208, os⟩ := by
    show (⟨absHeap (btOf 5 (L109 w)) 29 (boot_heap w.params).life, Array.mk [], boot_drawn, 208, os⟩ : Shared) = _
    rw [L109_heap]
  have e2 : (SB w os).abs = ⟨mkH (bs w) ⟨objF w, nsF w, rPl row⟩, Array.mk [], boot_drawn, T3 + 1, os⟩ := by
    show (⟨absHeap (btOf 11 (LB w)) (nI + 3) (boot_heap w.params).life, Array.mk [], boot_drawn, T3 + 1, os⟩ : Shared) = _
    rw [LB_heap]
  rw [e0, e1, body_tree] at r1
  have r2 := (body_run w os).run doneF (leaveH cenv) id id (.body cb cenv) (fr1 w os) (stk w os).tail
  obtain ⟨r, h3, h4⟩ := Option.map_eq_some_iff.mp (fin_is w os)
  have g3 : segRunT treeTable PP w 11 annV 0 502 (SB w os) (thB w os) = some r := by
    rw [PySem.W.Fast.te10110043849684766642, PySem.W.Fast.te14364793385576792824]
    exact h3
  obtain ⟨f, s', c, q⟩ := r
  dsimp only at h4
  subst h4
  have g4 := segRun_of g3
  rw [e2] at g4
  have z := (r1.trans r2) 502 _ g4
  rw [Nat.add_assoc] at z
  exact seg_topRun _ _ _ _ z
noncomputable def wOf (P : Params) : World := ⟨fun _ _ => 0, P⟩
theorem LF_wOf (w : World) : LF (wOf w.params) = LF w := by kernel_rfl
noncomputable def HF (P : Params) : Heap := ⟨(LF (wOf P)).toArray, (boot_heap P).life⟩
theorem LF_len (w : World) : (LF w).length = 1464 := by
  have h1 : (AF w).length = 24 := rfl
  have h2 : (LN w).length = 38 := rfl
  have h3 := rObjs_len w
  have h4 : nI = 1423 := rfl
  unfold LF
  rw [List.length_append, h1]
  simp only [List.length_cons, List.length_append]
  rw [objF_len, h2]
  omega
theorem SF_abs (w : World) (os : OsState) : (SF w os).abs = ⟨HF w.params, Array.mk [], boot_drawn, 2288, os⟩ := by
  show (⟨absHeap (btOf 11 (LF w)) 1464 (boot_heap w.params).life, Array.mk [], boot_drawn, 2288, os⟩ : Shared) = _
  have := absHeap_btOf (k := 11) (l := LF w) (life := (boot_heap w.params).life) (by rw [LF_len]; decide)
  rw [LF_len] at this
  rw [this, ← LF_wOf]
  rfl
theorem open_ok : opening PP = plainProg PP.main.scope.names := by kernel_rfl
theorem fence_ok (s : Shared) : fenceModules? PP s = some s := by kernel_rfl
noncomputable def NN : Nat := 20000
theorem open_is : ∀ w : World, (fencedOpening treeTable PP w NN).map (fun s => (s.heap, s.gens, s.drawn, s.toks)) = some (boot_heap w.params, Array.mk [], boot_drawn, boot_toks) := boot_open open_ok rfl fence_ok
theorem size_is (w : World) : ((boot_heap w.params).isNs mainGlobals && (Array.mk [] : Array GenState).size == 0, (boot_heap w.params).objs.size, (boot_heap w.params).nsMap mainGlobals "__annotations__") = (true, 11, annV) := by kernel_rfl
theorem le_is : Nat.ble stepsT NN = true := by decide +kernel
end
end M6
namespace M6
noncomputable section
noncomputable def qq : Program := { PP with main := { PP.main with body := [pst 8] } }
noncomputable def loo : List Str := [S "_wall", S "MPU", S "_law_word", S "_law_key", S "_law_offset", S "_law_program"]
noncomputable abbrev SX (P : Params) (os : OsState) : Shared := ⟨HF P, Array.mk [], boot_drawn, 2288, os⟩
theorem k1a (P : Params) : staticsOk (importedModules PP.main.body) (boot_heap P) (HF P) = true := by kernel_rfl
theorem k1b (P : Params) : namesBound PP (HF P) = true := by kernel_rfl
theorem k1c (P : Params) (os : OsState) : gensDone (SX P os) = true := by kernel_rfl
theorem k1d (P : Params) : laidKept (boot_heap P) (HF P) = true := by kernel_rfl
end
end M6
namespace M6
noncomputable section
noncomputable abbrev Xt : Shared → Bool := fun _ => true
theorem ka (P : Params) (os : OsState) : seen ((recsOf qq).map (·.name)) (ownsOf qq) [] { SX P os with gens := #[] } = expectedOf qq := by
  rw [PySem.W.Fast.te5160383126252970620]; kernel_rfl
theorem kb (P : Params) : (HF P).bltView = bltViewBooted := by kernel_rfl
theorem kc (P : Params) (os : OsState) : ((HF P).keysOk (looseW qq loo) ((recsOf qq).map (·.name)) ((litsOf qq).map (·.1)) ((clssOf qq (looseW qq loo)).map (·.name)) && (HF P).accountedOkI (importedModules PP.main.body) && (HF P).isNs mainGlobals && (HF P).isNs builtinsNs && tablesOk qq (HF P) && Xt (SX P os) && (if true then (SX P os).gens.size == 0 else !leftWithCleanup (SX P os).gens)) = true := by
  kernel_rfl
theorem kd (P : Params) (os : OsState) : tabsOk qq (SX P os) = true := by kernel_rfl
theorem ke (P : Params) (os : OsState) : pinSeenD qq (drecsOf qq) (SX P os) = pinGoodD (drecsOf qq) := by kernel_rfl
theorem kf (P : Params) (os : OsState) : plainSeenE qq (looseW qq loo) (SX P os) = plainGoodE qq (looseW qq loo) := by kernel_rfl
theorem kg (P : Params) (os : OsState) : plainSeenD qq loo (SX P os) = plainGoodD qq loo := by kernel_rfl
theorem kh (P : Params) (os : OsState) : wideSeen qq (SX P os) = wideGood qq := by kernel_rfl
theorem ki (P : Params) (os : OsState) : clsSeenW qq loo (SX P os) = clsGoodW qq loo := by kernel_rfl
end
end M6
namespace M6
noncomputable section
theorem left : LeftO PP qq loo Xt (fun s => s.heap) (fun w => HF w.params) NN :=
  LeftO.of_pieces open_is size_is (fun w os => (run_all w os).trans (congrArg some (SF_abs w os))) le_is fun w => funext fun os =>
    looks_pair (look_both (look_both (look_both (k1a w.params) (k1b w.params)) (k1c w.params os)) (k1d w.params))
      (looks_pair (looks_pair (ka w.params os) (looks_pair (kb w.params) (looks_pair (kc w.params os) (looks_pair (kd w.params os) (looks_pair (ke w.params os) (looks_pair (kf w.params os) (looks_pair (kg w.params os) (looks_pair (kh w.params os) (ki w.params os))))))))) rfl)
end
end M6
namespace M6
noncomputable section
abbrev RL : OpenLaw := PySem.Challenge.rw_me0006_02
noncomputable def sPos : Stmt → Pos
  | .FunctionDef _ _ _ _ _ _ _ _ _ q => q
  | _ => default
noncomputable abbrev YP (w : World) (h : Heap) : Prop := ∀ b o, (HF w.params).get? b = some o → h.get? b = some o
noncomputable def dL : DefRec := ⟨S "law", sArgs (pst 8), sBody (pst 8), sScope (pst 8), sPos (pst 8)⟩
theorem def_is : defOf qq RL.row.name = some (dL, []) := by kernel_rfl
theorem bare_is : RL.row.prog.bare := ⟨rfl, rfl, rfl, rfl, rfl, tw_all⟩
theorem holds_of_walk (hw : RL.row.toRowW.promised) (walk : WalkO qq loo (fun _ _ => True) YP RL.row.toRowW dL [] fun f vs => PySem.call f vs) : RL.Holds :=
  holds_law said_all fun said => holds_open (q := qq) (loose := loo) (Xt := Xt) (XP := fun _ _ => True) (Yf := fun s => s.heap) (Ya := fun w => HF w.params) (YP := YP) (N := NN) (d := dL) (kwd := []) left
    (fun w s e b o h => by rw [show s.heap = HF w.params from e]; exact h) (fun w h h' y k b o e => k b o (y b o e)) (fun _ _ => trivial) (fun _ _ _ _ _ => trivial) def_is (by kernel_rfl) (by kernel_rfl) (fun s _ => recFacts_nil rfl) rfl said (by decide +kernel) bare_is hw walk
end
end M6
namespace VE
open M6
/-- How an object is made. -/
structure InitOk (G : Gl nm Z2) : Prop where
  D : FnOk G 36 [0, 9, 11] (sName (cst 15)) ("MPU." ++ sName (cst 15)) (sArgs (cst 15)) (sBody (cst 15)) (sScope (cst 15)) (.ref 29) .none .none (.str "py65.devices.mpu6502" 194) (.ref 35) .none (.type "function") none none #[]
  O : NewOk G
  i : findIn G.K (.ref G.C) "__init__" = some (some (.ref 36))
  f : isFn G.K (.ref 36) = true
  g : nsIn G.K mainGlobals (Str.ofString "MPU") = some (some (.ref G.C))
  b : ∀ (s : Shared) v vs, G.K.In s.heap → vs.length + 1 = [0, 9, 11].length → BindsTo s (fnOf (sName (cst 15)) ("MPU." ++ sName (cst 15)) (sArgs (cst 15)) (sBody (cst 15)) (sScope (cst 15)) (.ref 29) .none .none (.str "py65.devices.mpu6502" 194) none (.ref 35) .none) ⟨[v], [Str.ofString "memory", Str.ofString "pc"].zip vs⟩ (([0, 9, 11].map nm).zip (v :: vs))
@[irreducible] noncomputable def w_lamB : WE := (wFrz (wCall 1444 (wAc (wSub (wName 121) (wName 125)) (wAc (wName 104) wA0))))
theorem s_lamB {G : Gl nm Z2} : SE G lamB2.scope lamB2.body w_lamB := by unfold w_lamB; refine SE_frz ?_; refine S0_call (f := 1444) (n := 105) ?_ ?_ ?_ ?_ ?_; exact (getN_mem rfl); refine SA_cons ?_ ?_ ?_; refine SE_sub ?_ ?_ ?_; refine SE_name (n := 121) ?_; exact rfl; refine SE_name (n := 125) ?_; exact rfl; exact (fun _ _ => rfl); refine SA_cons ?_ ?_ ?_; refine SE_name (n := 104) ?_; exact rfl; exact SA_nil; exact (fun _ => rfl); exact (fun _ => rfl); exact rfl; exact (by kernel_rfl); exact (fun _ => rfl)
@[irreducible] noncomputable def w_law_22 : WX := wNil
theorem s_law_22 {G : Gl nm Z2} : SB G dL.scope (dL.body.drop 22) w_law_22 := by unfold w_law_22; exact SB_nil
/-- return mpu.pc == 600 and mpu.sp == 255 and (mpu.memory == plain) -/
@[irreducible] noncomputable def w_law_21 : WX := wSeq (wRet (wAndE (wCmp .Eq (wAttr Z2 11 (wName 126)) (wInt 600)) (wAndE (wCmp .Eq (wAttr Z2 12 (wName 126)) (wInt 255)) (wCmp .Eq (wAttr Z2 9 (wName 126)) (wName 124))))) w_law_22
theorem s_law_21 {G : Gl nm Z2} : SB G dL.scope (dL.body.drop 21) w_law_21 := by unfold w_law_21; refine SB_cons ?_ ?_; refine SX_ret ?_; refine SE_and ?_ ?_; refine SE_cmp ?_ ?_ ?_; refine SE_attr (n := 11) ?_ ?_ ?_; refine SE_name (n := 126) ?_; exact rfl; exact rfl; exact (fun _ => rfl); exact SE_int; exact rfl; refine SE_and ?_ ?_; refine SE_cmp ?_ ?_ ?_; refine SE_attr (n := 12) ?_ ?_ ?_; refine SE_name (n := 126) ?_; exact rfl; exact rfl; exact (fun _ => rfl); exact SE_int; exact rfl; refine SE_one ?_; refine SE_cmp ?_ ?_ ?_; refine SE_attr (n := 9) ?_ ?_ ?_; refine SE_name (n := 126) ?_; exact rfl; exact rfl; exact (fun _ => rfl); refine SE_name (n := 124) ?_; exact rfl; exact rfl; exact s_law_22
/-- plain[28] = mpu.memory[28] -/
@[irreducible] noncomputable def w_law_20 : WX := wSeq (wAsS (wName 124) (wInt 28) (wSub (wAttr Z2 9 (wName 126)) (wInt 28))) w_law_21
theorem s_law_20 {G : Gl nm Z2} : SB G dL.scope (dL.body.drop 20) w_law_20 := by unfold w_law_20; refine SB_cons ?_ ?_; refine SX_asS ?_ ?_ ?_ ?_; refine SE_sub ?_ ?_ ?_; refine SE_attr (n := 9) ?_ ?_ ?_; refine SE_name (n := 126) ?_; exact rfl; exact rfl; exact (fun _ => rfl); exact SE_int; exact (fun _ _ => rfl); refine SE_name (n := 124) ?_; exact rfl; exact SE_int; exact (fun _ => rfl); exact s_law_21
/-- plain[18:24] = mpu.memory[18:24] -/
@[irreducible] noncomputable def w_law_19 : WX := wSeq (wAsSl (wName 124) (wP (wInt 18)) (wP (wInt 24)) (wFrz (wSli (wAttr Z2 9 (wName 126)) (wP (wInt 18)) (wP (wInt 24))))) w_law_20
theorem s_law_19 {G : Gl nm Z2} : SB G dL.scope (dL.body.drop 19) w_law_19 := by unfold w_law_19; refine SB_cons ?_ ?_; refine SX_asSl ?_ ?_ ?_ ?_ ?_; refine SE_frz ?_; refine S0_slice ?_ ?_ ?_; refine SE_attr (n := 9) ?_ ?_ ?_; refine SE_name (n := 126) ?_; exact rfl; exact rfl; exact (fun _ => rfl); refine SP_some ?_; exact SE_int; refine SP_some ?_; exact SE_int; refine SE_name (n := 124) ?_; exact rfl; refine SP_some ?_; exact SE_int; refine SP_some ?_; exact SE_int; exact (fun _ => rfl); exact s_law_20
/-- for rank, spot in enumerate(order): -/
@[irreducible] noncomputable def w_law_18 : WX := wSeq (wForE (wName 128) (wTgT 2 (wTc (wTN 133) (wTc (wTN 125) wT0))) (wSeq (wAsg 130 (wFrz (wIf0 (wCmpT .Lt (wBin .Add (wName 133) (wInt 1)) (wName 120)) (wCall 1439 (wAc (wSub (wName 122) (wSub (wName 128) (wBin .Add (wName 133) (wInt 1)))) wA0)) (wList (wAc (wInt 0) (wAc (wInt 0) wA0)))))) (wSeq (wAsSl (wName 124) (wP (wSub (wName 122) (wName 125))) (wP (wBin .Add (wSub (wName 122) (wName 125)) (wInt 3))) (wFrz (wCat (wFrz (wList (wAc (wSub (wName 121) (wName 125)) wA0))) (wName 130)))) wNil))) w_law_19
theorem s_law_18 {G : Gl nm Z2} : SB G dL.scope (dL.body.drop 18) w_law_18 := by unfold w_law_18; refine SB_cons ?_ ?_; refine SX_forE (n := 134) ?_ ?_ ?_ ?_ ?_; refine SE_name (n := 128) ?_; exact rfl; exact (⟨rfl, rfl, by kernel_rfl, by kernel_rfl, by decide +kernel⟩); exact (fun _ _ => rfl); refine SS_T ?_ ?_; refine SSs_cons ?_ ?_ ?_; refine SS_N (n := 133) ?_ ?_; exact rfl; exact (.inl (by kernel_rfl)); refine SSs_cons ?_ ?_ ?_; refine SS_N (n := 125) ?_ ?_; exact rfl; exact (.inl (by kernel_rfl)); exact SSs_nil; exact (fun _ => rfl); exact (fun _ => rfl); exact (fun _ => rfl); refine SB_cons ?_ ?_; refine SX_asg (n := 130) ?_ ?_ ?_ ?_; refine SE_frz ?_; refine S0_if ?_ ?_ ?_; refine ST_cmp ?_ ?_ ?_; refine SE_bin ?_ ?_; refine SE_name (n := 133) ?_; exact rfl; exact SE_int; refine SE_name (n := 120) ?_; exact rfl; exact rfl; refine S0_call (f := 1439) (n := 103) ?_ ?_ ?_ ?_ ?_; exact (getN_mem rfl); refine SA_cons ?_ ?_ ?_; refine SE_sub ?_ ?_ ?_; refine SE_name (n := 122) ?_; exact rfl; refine SE_sub ?_ ?_ ?_; refine SE_name (n := 128) ?_; exact rfl; refine SE_bin ?_ ?_; refine SE_name (n := 133) ?_; exact rfl; exact SE_int; exact (fun _ _ => rfl); exact (fun _ _ => rfl); exact SA_nil; exact (fun _ => rfl); exact rfl; exact (by kernel_rfl); exact (fun _ => rfl); refine S0_list ?_; refine SA_cons ?_ ?_ ?_; exact SE_int; refine SA_cons ?_ ?_ ?_; exact SE_int; exact SA_nil; exact (fun _ => rfl); exact (fun _ => rfl); exact rfl; exact (.inl (by kernel_rfl)); exact (fun _ => rfl); refine SB_cons ?_ ?_; refine SX_asSl ?_ ?_ ?_ ?_ ?_; refine SE_frz ?_; refine S0_cat ?_ ?_; refine SE_frz ?_; refine S0_list ?_; refine SA_cons ?_ ?_ ?_; refine SE_sub ?_ ?_ ?_; refine SE_name (n := 121) ?_; exact rfl; refine SE_name (n := 125) ?_; exact rfl; exact (fun _ _ => rfl); exact SA_nil; exact (fun _ => rfl); refine SE_name (n := 130) ?_; exact rfl; refine SE_name (n := 124) ?_; exact rfl; refine SP_some ?_; refine SE_sub ?_ ?_ ?_; refine SE_name (n := 122) ?_; exact rfl; refine SE_name (n := 125) ?_; exact rfl; exact (fun _ _ => rfl); refine SP_some ?_; refine SE_bin ?_ ?_; refine SE_sub ?_ ?_ ?_; refine SE_name (n := 122) ?_; exact rfl; refine SE_name (n := 125) ?_; exact rfl; exact (fun _ _ => rfl); exact SE_int; exact (fun _ => rfl); exact SB_nil; exact s_law_19
/-- plain[26:28] = _law_word(places[order[0]]) -/
@[irreducible] noncomputable def w_law_17 : WX := wSeq (wAsSl (wName 124) (wP (wInt 26)) (wP (wInt 28)) (wFrz (wCall 1439 (wAc (wSub (wName 122) (wSub (wName 128) (wInt 0))) wA0)))) w_law_18
theorem s_law_17 {G : Gl nm Z2} : SB G dL.scope (dL.body.drop 17) w_law_17 := by unfold w_law_17; refine SB_cons ?_ ?_; refine SX_asSl ?_ ?_ ?_ ?_ ?_; refine SE_frz ?_; refine S0_call (f := 1439) (n := 103) ?_ ?_ ?_ ?_ ?_; exact (getN_mem rfl); refine SA_cons ?_ ?_ ?_; refine SE_sub ?_ ?_ ?_; refine SE_name (n := 122) ?_; exact rfl; refine SE_sub ?_ ?_ ?_; refine SE_name (n := 128) ?_; exact rfl; exact SE_int; exact (fun _ _ => rfl); exact (fun _ _ => rfl); exact SA_nil; exact (fun _ => rfl); exact rfl; exact (by kernel_rfl); exact (fun _ => rfl); refine SE_name (n := 124) ?_; exact rfl; refine SP_some ?_; exact SE_int; refine SP_some ?_; exact SE_int; exact (fun _ => rfl); exact s_law_18
/-- order = sorted(range(count), key=lambda spot: _law_key(values[spot], turned)) -/
@[irreducible] noncomputable def w_law_16 : WX := wSeq (wAsg 128 (wFrz (wSrt T2L lamB2 w_lamB (wName 120)))) w_law_17
theorem s_law_16 {G : Gl nm Z2} (hT : ∀ f ns b, getN f T2L = some (ns, b) → DefOk G f ns b) (hI : InitOk G) : SB G dL.scope (dL.body.drop 16) w_law_16 := by unfold w_law_16; refine SB_cons ?_ ?_; refine SX_asg (n := 128) ?_ ?_ ?_ ?_; refine SE_frz ?_; refine S0_srt (T := T2L) (lm := lamB2) (n1 := 132) (n2 := 108) ?_ ?_ ?_ ?_ ?_ ?_ ?_ ?_ ?_ ?_ ?_ ?_ ?_ ?_ ?_; exact hT; exact lamB_ok; exact s_lamB; exact rfl; exact rfl; exact rfl; exact rfl; exact (by kernel_rfl); exact (by kernel_rfl); exact (by kernel_rfl); exact (by kernel_rfl); exact (⟨rfl, rfl, by kernel_rfl, by kernel_rfl, by decide +kernel⟩); exact (⟨rfl, rfl, by kernel_rfl, by kernel_rfl, by decide +kernel⟩); refine SE_name (n := 120) ?_; exact rfl; exact (fun _ _ => rfl); exact rfl; exact (.inl (by kernel_rfl)); exact (fun _ => rfl); exact s_law_17
/-- for turn in range(700): -/
@[irreducible] noncomputable def w_law_15 : WX := wSeq (wFor (wRng (wAc (wInt 700) wA0)) (wTN 127) (wSeq (wIf (wCmpT .Eq (wAttr Z2 11 (wName 126)) (wInt 600)) (wSeq wBrk wNil) wNil) (wSeq (wExpr (wFrz (wMeth Z2 34 (wName 126) wA0))) wNil))) w_law_16
theorem s_law_15 {G : Gl nm Z2} (hT : ∀ f ns b, getN f T2L = some (ns, b) → DefOk G f ns b) (hI : InitOk G) : SB G dL.scope (dL.body.drop 15) w_law_15 := by unfold w_law_15; refine SB_cons ?_ ?_; refine SX_for ?_ ?_ ?_ ?_; refine SI_range (n := 108) ?_ ?_ ?_; refine SA_cons ?_ ?_ ?_; exact SE_int; exact SA_nil; exact (fun _ => rfl); exact (⟨rfl, rfl, by kernel_rfl, by kernel_rfl, by decide +kernel⟩); exact (fun _ => rfl); refine SS_N (n := 127) ?_ ?_; exact rfl; exact (.inl (by kernel_rfl)); refine SB_cons ?_ ?_; refine SX_if ?_ ?_ ?_; refine ST_cmp ?_ ?_ ?_; refine SE_attr (n := 11) ?_ ?_ ?_; refine SE_name (n := 126) ?_; exact rfl; exact rfl; exact (fun _ => rfl); exact SE_int; exact rfl; refine SB_cons ?_ ?_; exact SX_brk; exact SB_nil; exact SB_nil; refine SB_cons ?_ ?_; refine SX_expr ?_ ?_; refine SE_frz ?_; refine S0_meth (n := 34) ?_ ?_ ?_ ?_; refine SE_name (n := 126) ?_; exact rfl; exact SA_nil; exact rfl; exact (fun _ => ⟨_, rfl⟩); exact (fun _ => rfl); exact SB_nil; exact (fun _ _ => rfl); refine s_law_16 ?_ ?_; exact hT; exact hI
/-- mpu = MPU(memory=memory, pc=base) -/
@[irreducible] noncomputable def w_law_14 : WX := wSeq (wAsg 126 (wNew T2L [0, 9, 11] w_uinit (wAc (wName 9) (wAc (wName 111) wA0)))) w_law_15
theorem s_law_14 {G : Gl nm Z2} (hT : ∀ f ns b, getN f T2L = some (ns, b) → DefOk G f ns b) (hI : InitOk G) : SB G dL.scope (dL.body.drop 14) w_law_14 := by unfold w_law_14; refine SB_cons ?_ ?_; refine SX_asg (n := 126) ?_ ?_ ?_ ?_; exact (SE_new (T := T2L) (kn := [Str.ofString "memory", Str.ofString "pc"]) (n := 131) hT (hI.D) s_uinit hI.O hI.i hI.f (by kernel_rfl) rfl hI.g (by kernel_rfl) (SK_cons (SE_name (n := 9) rfl) (SK_cons (SE_name (n := 111) rfl) SK_nil)) hI.b (fun _ => rfl) (fun _ => rfl) (fun _ => rfl) (fun _ => rfl)); exact rfl; exact (.inl (by kernel_rfl)); exact (fun _ => rfl); refine s_law_15 ?_ ?_; exact hT; exact hI
/-- memory[24:26] = _law_word(places[0]) -/
@[irreducible] noncomputable def w_law_13 : WX := wSeq (wAsSl (wName 9) (wP (wInt 24)) (wP (wInt 26)) (wFrz (wCall 1439 (wAc (wSub (wName 122) (wInt 0)) wA0)))) w_law_14
theorem s_law_13 {G : Gl nm Z2} (hT : ∀ f ns b, getN f T2L = some (ns, b) → DefOk G f ns b) (hI : InitOk G) : SB G dL.scope (dL.body.drop 13) w_law_13 := by unfold w_law_13; refine SB_cons ?_ ?_; refine SX_asSl ?_ ?_ ?_ ?_ ?_; refine SE_frz ?_; refine S0_call (f := 1439) (n := 103) ?_ ?_ ?_ ?_ ?_; exact (getN_mem rfl); refine SA_cons ?_ ?_ ?_; refine SE_sub ?_ ?_ ?_; refine SE_name (n := 122) ?_; exact rfl; exact SE_int; exact (fun _ _ => rfl); exact SA_nil; exact (fun _ => rfl); exact rfl; exact (by kernel_rfl); exact (fun _ => rfl); refine SE_name (n := 9) ?_; exact rfl; refine SP_some ?_; exact SE_int; refine SP_some ?_; exact SE_int; exact (fun _ => rfl); refine s_law_14 ?_ ?_; exact hT; exact hI
/-- for spot in range(count): -/
@[irreducible] noncomputable def w_law_12 : WX := wSeq (wFor (wRng (wAc (wName 120) wA0)) (wTN 125) (wSeq (wAsg 130 (wFrz (wIf0 (wCmpT .Lt (wBin .Add (wName 125) (wInt 1)) (wName 120)) (wCall 1439 (wAc (wSub (wName 122) (wBin .Add (wName 125) (wInt 1))) wA0)) (wList (wAc (wInt 0) (wAc (wInt 0) wA0)))))) (wSeq (wAsSl (wName 9) (wP (wSub (wName 122) (wName 125))) (wP (wBin .Add (wSub (wName 122) (wName 125)) (wInt 3))) (wFrz (wCat (wFrz (wList (wAc (wSub (wName 121) (wName 125)) wA0))) (wName 130)))) wNil))) w_law_13
theorem s_law_12 {G : Gl nm Z2} (hT : ∀ f ns b, getN f T2L = some (ns, b) → DefOk G f ns b) (hI : InitOk G) : SB G dL.scope (dL.body.drop 12) w_law_12 := by unfold w_law_12; refine SB_cons ?_ ?_; refine SX_for ?_ ?_ ?_ ?_; refine SI_range (n := 108) ?_ ?_ ?_; refine SA_cons ?_ ?_ ?_; refine SE_name (n := 120) ?_; exact rfl; exact SA_nil; exact (fun _ => rfl); exact (⟨rfl, rfl, by kernel_rfl, by kernel_rfl, by decide +kernel⟩); exact (fun _ => rfl); refine SS_N (n := 125) ?_ ?_; exact rfl; exact (.inl (by kernel_rfl)); refine SB_cons ?_ ?_; refine SX_asg (n := 130) ?_ ?_ ?_ ?_; refine SE_frz ?_; refine S0_if ?_ ?_ ?_; refine ST_cmp ?_ ?_ ?_; refine SE_bin ?_ ?_; refine SE_name (n := 125) ?_; exact rfl; exact SE_int; refine SE_name (n := 120) ?_; exact rfl; exact rfl; refine S0_call (f := 1439) (n := 103) ?_ ?_ ?_ ?_ ?_; exact (getN_mem rfl); refine SA_cons ?_ ?_ ?_; refine SE_sub ?_ ?_ ?_; refine SE_name (n := 122) ?_; exact rfl; refine SE_bin ?_ ?_; refine SE_name (n := 125) ?_; exact rfl; exact SE_int; exact (fun _ _ => rfl); exact SA_nil; exact (fun _ => rfl); exact rfl; exact (by kernel_rfl); exact (fun _ => rfl); refine S0_list ?_; refine SA_cons ?_ ?_ ?_; exact SE_int; refine SA_cons ?_ ?_ ?_; exact SE_int; exact SA_nil; exact (fun _ => rfl); exact (fun _ => rfl); exact rfl; exact (.inl (by kernel_rfl)); exact (fun _ => rfl); refine SB_cons ?_ ?_; refine SX_asSl ?_ ?_ ?_ ?_ ?_; refine SE_frz ?_; refine S0_cat ?_ ?_; refine SE_frz ?_; refine S0_list ?_; refine SA_cons ?_ ?_ ?_; refine SE_sub ?_ ?_ ?_; refine SE_name (n := 121) ?_; exact rfl; refine SE_name (n := 125) ?_; exact rfl; exact (fun _ _ => rfl); exact SA_nil; exact (fun _ => rfl); refine SE_name (n := 130) ?_; exact rfl; refine SE_name (n := 9) ?_; exact rfl; refine SP_some ?_; refine SE_sub ?_ ?_ ?_; refine SE_name (n := 122) ?_; exact rfl; refine SE_name (n := 125) ?_; exact rfl; exact (fun _ _ => rfl); refine SP_some ?_; refine SE_bin ?_ ?_; refine SE_sub ?_ ?_ ?_; refine SE_name (n := 122) ?_; exact rfl; refine SE_name (n := 125) ?_; exact rfl; exact (fun _ _ => rfl); exact SE_int; exact (fun _ => rfl); exact SB_nil; exact (fun _ _ => rfl); refine s_law_13 ?_ ?_; exact hT; exact hI
/-- plain = memory[:] -/
@[irreducible] noncomputable def w_law_11 : WX := wSeq (wOwn 124 (wSli (wName 9) wP0 wP0)) w_law_12
theorem s_law_11 {G : Gl nm Z2} (hT : ∀ f ns b, getN f T2L = some (ns, b) → DefOk G f ns b) (hI : InitOk G) : SB G dL.scope (dL.body.drop 11) w_law_11 := by unfold w_law_11; refine SB_cons ?_ ?_; refine SX_own (n := 124) ?_ ?_ ?_ ?_; refine S0_slice ?_ ?_ ?_; refine SE_name (n := 9) ?_; exact rfl; exact SP_none; exact SP_none; exact rfl; exact (.inl (by kernel_rfl)); exact (fun _ => rfl); refine s_law_12 ?_ ?_; exact hT; exact hI
/-- memory[base:base + len(code)] = code -/
@[irreducible] noncomputable def w_law_10 : WX := wSeq (wAsSl (wName 9) (wP (wName 111)) (wP (wBin .Add (wName 111) (wLen (wAc (wName 123) wA0)))) (wName 123)) w_law_11
theorem s_law_10 {G : Gl nm Z2} (hT : ∀ f ns b, getN f T2L = some (ns, b) → DefOk G f ns b) (hI : InitOk G) : SB G dL.scope (dL.body.drop 10) w_law_10 := by unfold w_law_10; refine SB_cons ?_ ?_; refine SX_asSl ?_ ?_ ?_ ?_ ?_; refine SE_name (n := 123) ?_; exact rfl; refine SE_name (n := 9) ?_; exact rfl; refine SP_some ?_; refine SE_name (n := 111) ?_; exact rfl; refine SP_some ?_; refine SE_bin ?_ ?_; refine SE_name (n := 111) ?_; exact rfl; refine SE_len (n := 135) ?_ ?_ ?_; refine SA_cons ?_ ?_ ?_; refine SE_name (n := 123) ?_; exact rfl; exact SA_nil; exact (fun _ => rfl); exact (⟨rfl, rfl, by kernel_rfl, by kernel_rfl, by decide +kernel⟩); exact (fun _ => rfl); exact (fun _ => rfl); refine s_law_11 ?_ ?_; exact hT; exact hI
/-- code = _law_program(turned, base) -/
@[irreducible] noncomputable def w_law_9 : WX := wSeq (wAsg 123 (wFrz (wCall 1458 (wAc (wName 104) (wAc (wName 111) wA0))))) w_law_10
theorem s_law_9 {G : Gl nm Z2} (hT : ∀ f ns b, getN f T2L = some (ns, b) → DefOk G f ns b) (hI : InitOk G) : SB G dL.scope (dL.body.drop 9) w_law_9 := by unfold w_law_9; refine SB_cons ?_ ?_; refine SX_asg (n := 123) ?_ ?_ ?_ ?_; refine SE_frz ?_; refine S0_call (f := 1458) (n := 112) ?_ ?_ ?_ ?_ ?_; exact (getN_mem rfl); refine SA_cons ?_ ?_ ?_; refine SE_name (n := 104) ?_; exact rfl; refine SA_cons ?_ ?_ ?_; refine SE_name (n := 111) ?_; exact rfl; exact SA_nil; exact (fun _ => rfl); exact (fun _ => rfl); exact rfl; exact (by kernel_rfl); exact (fun _ => rfl); exact rfl; exact (.inl (by kernel_rfl)); exact (fun _ => rfl); refine s_law_10 ?_ ?_; exact hT; exact hI
/-- base = 20000 + total % 40000 -/
@[irreducible] noncomputable def w_law_8 : WX := wSeq (wAsg 111 (wBin .Add (wInt 20000) (wBin .Mod (wName 118) (wInt 40000)))) w_law_9
theorem s_law_8 {G : Gl nm Z2} (hT : ∀ f ns b, getN f T2L = some (ns, b) → DefOk G f ns b) (hI : InitOk G) : SB G dL.scope (dL.body.drop 8) w_law_8 := by unfold w_law_8; refine SB_cons ?_ ?_; refine SX_asg (n := 111) ?_ ?_ ?_ ?_; refine SE_bin ?_ ?_; exact SE_int; refine SE_bin ?_ ?_; refine SE_name (n := 118) ?_; exact rfl; exact SE_int; exact rfl; exact (.inl (by kernel_rfl)); exact (fun _ => rfl); refine s_law_9 ?_ ?_; exact hT; exact hI
/-- memory = [0] * 65536 -/
@[irreducible] noncomputable def w_law_7 : WX := wSeq (wOwn 9 (wRep (wList (wAc (wInt 0) wA0)) (wInt 65536))) w_law_8
theorem s_law_7 {G : Gl nm Z2} (hT : ∀ f ns b, getN f T2L = some (ns, b) → DefOk G f ns b) (hI : InitOk G) : SB G dL.scope (dL.body.drop 7) w_law_7 := by unfold w_law_7; refine SB_cons ?_ ?_; refine SX_own (n := 9) ?_ ?_ ?_ ?_; refine S0_rep ?_ ?_; refine S0_list ?_; refine SA_cons ?_ ?_ ?_; exact SE_int; exact SA_nil; exact (fun _ => rfl); exact SE_int; exact rfl; exact (.inl (by kernel_rfl)); exact (fun _ => rfl); refine s_law_8 ?_ ?_; exact hT; exact hI
/-- places = [4096 + 1024 * ((2 * spot + total) % 5) + _law_offset(drawn[spot] + spot) for spot in range(count)] -/
@[irreducible] noncomputable def w_law_6 : WX := wSeq (wAsC 122 (wRng (wAc (wName 120) wA0)) (wTN 125) (wBin .Add (wBin .Add (wInt 4096) (wBin .Mult (wInt 1024) (wBin .Mod (wBin .Add (wBin .Mult (wInt 2) (wName 125)) (wName 118)) (wInt 5)))) (wFrz (wCall 1451 (wAc (wBin .Add (wSub (wName 119) (wName 125)) (wName 125)) wA0)))) [119, 118]) w_law_7
theorem s_law_6 {G : Gl nm Z2} (hT : ∀ f ns b, getN f T2L = some (ns, b) → DefOk G f ns b) (hI : InitOk G) : SB G dL.scope (dL.body.drop 6) w_law_6 := by unfold w_law_6; refine SB_cons ?_ ?_; refine SX_asC (n := 122) ?_ ?_ ?_ ?_ ?_ ?_ ?_ ?_; refine CompOk.of (fv := [119, 118]) ?_; exact (by kernel_rfl); refine SI_range (n := 108) ?_ ?_ ?_; refine SA_cons ?_ ?_ ?_; refine SE_name (n := 120) ?_; exact rfl; exact SA_nil; exact (fun _ => rfl); exact (⟨rfl, rfl, by kernel_rfl, by kernel_rfl, by decide +kernel⟩); exact (fun _ => rfl); refine SS_N (n := 125) ?_ ?_; exact rfl; exact (.inl (by kernel_rfl)); refine SE_bin ?_ ?_; refine SE_bin ?_ ?_; exact SE_int; refine SE_bin ?_ ?_; exact SE_int; refine SE_bin ?_ ?_; refine SE_bin ?_ ?_; refine SE_bin ?_ ?_; exact SE_int; refine SE_name (n := 125) ?_; exact rfl; refine SE_name (n := 118) ?_; exact rfl; exact SE_int; refine SE_frz ?_; refine S0_call (f := 1451) (n := 110) ?_ ?_ ?_ ?_ ?_; exact (getN_mem rfl); refine SA_cons ?_ ?_ ?_; refine SE_bin ?_ ?_; refine SE_sub ?_ ?_ ?_; refine SE_name (n := 119) ?_; exact rfl; refine SE_name (n := 125) ?_; exact rfl; exact (fun _ _ => rfl); refine SE_name (n := 125) ?_; exact rfl; exact SA_nil; exact (fun _ => rfl); exact rfl; exact (by kernel_rfl); exact (fun _ => rfl); exact (fun _ _ => rfl); exact rfl; exact (.inl (by kernel_rfl)); exact (fun _ => by kernel_rfl); refine s_law_7 ?_ ?_; exact hT; exact hI
/-- values = [(n + 64 * (n // 7)) % 256 for n in drawn[:count]] -/
@[irreducible] noncomputable def w_law_5 : WX := wSeq (wAsg 121 (wFrz (wComp (wItL (wFrz (wSli (wName 119) wP0 (wP (wName 120))))) (wTN 109) (wBin .Mod (wBin .Add (wName 109) (wBin .Mult (wInt 64) (wBin .FloorDiv (wName 109) (wInt 7)))) (wInt 256)) []))) w_law_6
theorem s_law_5 {G : Gl nm Z2} (hT : ∀ f ns b, getN f T2L = some (ns, b) → DefOk G f ns b) (hI : InitOk G) : SB G dL.scope (dL.body.drop 5) w_law_5 := by unfold w_law_5; refine SB_cons ?_ ?_; refine SX_asg (n := 121) ?_ ?_ ?_ ?_; refine SE_frz ?_; refine S0_comp ?_ ?_ ?_ ?_ ?_; refine CompOk.of (fv := []) ?_; exact (by kernel_rfl); refine SI_list ?_; refine SE_frz ?_; refine S0_slice ?_ ?_ ?_; refine SE_name (n := 119) ?_; exact rfl; exact SP_none; refine SP_some ?_; refine SE_name (n := 120) ?_; exact rfl; refine SS_N (n := 109) ?_ ?_; exact rfl; exact (.inl (by kernel_rfl)); refine SE_bin ?_ ?_; refine SE_bin ?_ ?_; refine SE_name (n := 109) ?_; exact rfl; refine SE_bin ?_ ?_; exact SE_int; refine SE_bin ?_ ?_; refine SE_name (n := 109) ?_; exact rfl; exact SE_int; exact SE_int; exact (fun _ _ => rfl); exact rfl; exact (.inr ⟨by kernel_rfl, by kernel_rfl⟩); exact (fun _ => rfl); refine s_law_6 ?_ ?_; exact hT; exact hI
/-- turned = [0, 128, 255, total % 256][total // 5 % 4] -/
@[irreducible] noncomputable def w_law_4 : WX := wSeq (wAsg 104 (wSub (wFrz (wList (wAc (wInt 0) (wAc (wInt 128) (wAc (wInt 255) (wAc (wBin .Mod (wName 118) (wInt 256)) wA0)))))) (wBin .Mod (wBin .FloorDiv (wName 118) (wInt 5)) (wInt 4)))) w_law_5
theorem s_law_4 {G : Gl nm Z2} (hT : ∀ f ns b, getN f T2L = some (ns, b) → DefOk G f ns b) (hI : InitOk G) : SB G dL.scope (dL.body.drop 4) w_law_4 := by unfold w_law_4; refine SB_cons ?_ ?_; refine SX_asg (n := 104) ?_ ?_ ?_ ?_; refine SE_sub ?_ ?_ ?_; refine SE_frz ?_; refine S0_list ?_; refine SA_cons ?_ ?_ ?_; exact SE_int; refine SA_cons ?_ ?_ ?_; exact SE_int; refine SA_cons ?_ ?_ ?_; exact SE_int; refine SA_cons ?_ ?_ ?_; refine SE_bin ?_ ?_; refine SE_name (n := 118) ?_; exact rfl; exact SE_int; exact SA_nil; exact (fun _ => rfl); exact (fun _ => rfl); exact (fun _ => rfl); exact (fun _ => rfl); refine SE_bin ?_ ?_; refine SE_bin ?_ ?_; refine SE_name (n := 118) ?_; exact rfl; exact SE_int; exact SE_int; exact (fun _ _ => rfl); exact rfl; exact (.inr ⟨by kernel_rfl, by kernel_rfl⟩); exact (fun _ => rfl); refine s_law_5 ?_ ?_; exact hT; exact hI
/-- count = min(5, 2 + len(script) // 2) -/
@[irreducible] noncomputable def w_law_3 : WX := wSeq (wAsg 120 (wMin (wAc (wInt 5) (wAc (wBin .Add (wInt 2) (wBin .FloorDiv (wLen (wAc (wName 116) wA0)) (wInt 2))) wA0)))) w_law_4
theorem s_law_3 {G : Gl nm Z2} (hT : ∀ f ns b, getN f T2L = some (ns, b) → DefOk G f ns b) (hI : InitOk G) : SB G dL.scope (dL.body.drop 3) w_law_3 := by unfold w_law_3; refine SB_cons ?_ ?_; refine SX_asg (n := 120) ?_ ?_ ?_ ?_; refine SE_min (n := 129) ?_ ?_ ?_; refine SA_cons ?_ ?_ ?_; exact SE_int; refine SA_cons ?_ ?_ ?_; refine SE_bin ?_ ?_; exact SE_int; refine SE_bin ?_ ?_; refine SE_len (n := 135) ?_ ?_ ?_; refine SA_cons ?_ ?_ ?_; refine SE_name (n := 116) ?_; exact rfl; exact SA_nil; exact (fun _ => rfl); exact (⟨rfl, rfl, by kernel_rfl, by kernel_rfl, by decide +kernel⟩); exact (fun _ => rfl); exact SE_int; exact SA_nil; exact (fun _ => rfl); exact (fun _ => rfl); exact (⟨rfl, rfl, by kernel_rfl, by kernel_rfl, by decide +kernel⟩); exact (fun _ => rfl); exact rfl; exact (.inl (by kernel_rfl)); exact (fun _ => rfl); refine s_law_4 ?_ ?_; exact hT; exact hI
/-- drawn = script[:5] + [total + 7 * spot + 31 for spot in range(5)] -/
@[irreducible] noncomputable def w_law_2 : WX := wSeq (wAsg 119 (wFrz (wCat (wFrz (wSli (wName 116) wP0 (wP (wInt 5)))) (wFrz (wComp (wRng (wAc (wInt 5) wA0)) (wTN 125) (wBin .Add (wBin .Add (wName 118) (wBin .Mult (wInt 7) (wName 125))) (wInt 31)) [118]))))) w_law_3
theorem s_law_2 {G : Gl nm Z2} (hT : ∀ f ns b, getN f T2L = some (ns, b) → DefOk G f ns b) (hI : InitOk G) : SB G dL.scope (dL.body.drop 2) w_law_2 := by unfold w_law_2; refine SB_cons ?_ ?_; refine SX_asg (n := 119) ?_ ?_ ?_ ?_; refine SE_frz ?_; refine S0_cat ?_ ?_; refine SE_frz ?_; refine S0_slice ?_ ?_ ?_; refine SE_name (n := 116) ?_; exact rfl; exact SP_none; refine SP_some ?_; exact SE_int; refine SE_frz ?_; refine S0_comp ?_ ?_ ?_ ?_ ?_; refine CompOk.of (fv := [118]) ?_; exact (by kernel_rfl); refine SI_range (n := 108) ?_ ?_ ?_; refine SA_cons ?_ ?_ ?_; exact SE_int; exact SA_nil; exact (fun _ => rfl); exact (⟨rfl, rfl, by kernel_rfl, by kernel_rfl, by decide +kernel⟩); exact (fun _ => rfl); refine SS_N (n := 125) ?_ ?_; exact rfl; exact (.inl (by kernel_rfl)); refine SE_bin ?_ ?_; refine SE_bin ?_ ?_; refine SE_name (n := 118) ?_; exact rfl; refine SE_bin ?_ ?_; exact SE_int; refine SE_name (n := 125) ?_; exact rfl; exact SE_int; exact (fun _ _ => rfl); exact rfl; exact (.inr ⟨by kernel_rfl, by kernel_rfl⟩); exact (fun _ => rfl); refine s_law_3 ?_ ?_; exact hT; exact hI
/-- for n in script[:24]: -/
@[irreducible] noncomputable def w_law_1 : WX := wSeq (wFor (wItL (wFrz (wSli (wName 116) wP0 (wP (wInt 24))))) (wTN 109) (wSeq (wAsg 118 (wBin .Mod (wBin .Add (wBin .Mult (wInt 31) (wName 118)) (wName 109)) (wInt 1000003))) wNil)) w_law_2
theorem s_law_1 {G : Gl nm Z2} (hT : ∀ f ns b, getN f T2L = some (ns, b) → DefOk G f ns b) (hI : InitOk G) : SB G dL.scope (dL.body.drop 1) w_law_1 := by unfold w_law_1; refine SB_cons ?_ ?_; refine SX_for ?_ ?_ ?_ ?_; refine SI_list ?_; refine SE_frz ?_; refine S0_slice ?_ ?_ ?_; refine SE_name (n := 116) ?_; exact rfl; exact SP_none; refine SP_some ?_; exact SE_int; refine SS_N (n := 109) ?_ ?_; exact rfl; exact (.inl (by kernel_rfl)); refine SB_cons ?_ ?_; refine SX_asg (n := 118) ?_ ?_ ?_ ?_; refine SE_bin ?_ ?_; refine SE_bin ?_ ?_; refine SE_bin ?_ ?_; exact SE_int; refine SE_name (n := 118) ?_; exact rfl; refine SE_name (n := 109) ?_; exact rfl; exact SE_int; exact rfl; exact (.inr ⟨by kernel_rfl, by kernel_rfl⟩); exact (fun _ => rfl); exact SB_nil; exact (fun _ _ => rfl); refine s_law_2 ?_ ?_; exact hT; exact hI
/-- total = 0 -/
@[irreducible] noncomputable def w_law_0 : WX := wSeq (wAsg 118 (wInt 0)) w_law_1
theorem s_law_0 {G : Gl nm Z2} (hT : ∀ f ns b, getN f T2L = some (ns, b) → DefOk G f ns b) (hI : InitOk G) : SB G dL.scope (dL.body.drop 0) w_law_0 := by unfold w_law_0; refine SB_cons ?_ ?_; refine SX_asg (n := 118) ?_ ?_ ?_ ?_; exact SE_int; exact rfl; exact (.inr ⟨by kernel_rfl, by kernel_rfl⟩); exact (fun _ => rfl); refine s_law_1 ?_ ?_; exact hT; exact hI
end VE
namespace VE
noncomputable abbrev QQ : Fl → VS → Prop := fun fl _ => fl = .ret (.p (.bool true))
noncomputable def mi (L : Nat) (m : Nat → Nat) : List Int := (List.range L).map fun k => (m k : Int)
theorem ml_il (L : Nat) (m : Nat → Nat) : ml L m = il (mi L m) := by
  unfold ml mi il; rw [List.map_map]; rfl
theorem sz_ml {L : Nat} {m : Nat → Nat} (h : L ≤ 65536) : (ml L m).length ≤ sizeLine := by rw [ml_len, sizeL]; (exact qq1 [_] [16777216,65536] 1 0x45 1 0x445 qt h)
/-- The law's names, from the script to the values. -/
noncomputable abbrev loA (s : List PV) (T : Int) (dr : List PV) (c t : Nat) (vs : List PV) (tl rest : List (Nat × VV)) : List (Nat × VV) :=
  (116, .p (.raw s)) :: (118, .p (.int T)) :: (tl ++ (119, .p (.lst dr)) :: (120, .p (.int (c : Int))) :: (104, .p (.int (t : Int))) :: (121, .p (.lst vs)) :: rest)
noncomputable abbrev loB (B : Nat) (code : List PV) (rest : List (Nat × VV)) : List (Nat × VV) := (122, .ref 0) :: (9, .ref 1) :: (111, .p (.int (B : Int))) :: (123, .p (.lst code)) :: (124, .ref 2) :: rest
noncomputable abbrev loC (u1 u2 : VV) (rest : List (Nat × VV)) : List (Nat × VV) := (125, u1) :: (130, u2) :: (126, .ref 3) :: rest
noncomputable abbrev Tl (tl : List (Nat × VV)) : Prop := tl = [] ∨ ∃ u, tl = [(109, u)]
section
variable {C : Calls} {s dr vs code : List PV} {T : Int} {c t B : Nat} {tl rest : List (Nat × VV)} {u1 u2 : VV} {o0 : VO} {adv : VV} {ex cy spc : Int} {g : Rg}
theorem s21 (htl : Tl tl) (hp : g.pc = 600) (hs : g.sp = 255) : w_law_21 C ⟨loA s T dr c t vs tl (loB B code (loC u1 u2 rest)), hpM ⟨o0, .list (ml ML g.m)⟩ adv ex cy spc g⟩ QQ := by
  unfold w_law_21
  rcases htl with rfl | ⟨u, rfl⟩
  all_goals
    refine brT (by rw [hp]; exact beq_self_eq_true _) ?_
    refine brT (by rw [hs]; rfl) ?_
    refine Exists.intro (mi ML g.m) (Exists.intro (mi ML g.m) (And.intro (congrArg some (ml_il _ _)) (And.intro (congrArg some (ml_il _ _)) (And.intro rfl ?_))))
    exact congrArg (fun b => Fl.ret (.p (.bool b))) (beq_self_eq_true _)
theorem s20 {m : Nat → Nat} (htl : Tl tl) (hp : g.pc = 600) (hs : g.sp = 255) (hm : ∀ j, j ≠ 28 → m j = g.m j) : w_law_20 C ⟨loA s T dr c t vs tl (loB B code (loC u1 u2 rest)), hpM ⟨o0, .list (ml ML m)⟩ adv ex cy spc g⟩ QQ := by
  have e : upd m 28 (g.m 28) = g.m := funext fun j => by
    by_cases h : j = 28
    · subst h; exact upd_self
    · rw [upd_ne h, hm j h]
  have key : ∀ X, X = ml ML g.m → w_law_21 C ⟨loA s T dr c t vs tl (loB B code (loC u1 u2 rest)), hpM ⟨o0, .list X⟩ adv ex cy spc g⟩ QQ := fun X hX => by rw [hX]; exact s21 htl hp hs
  have e2 := (ml_setE (L := ML) (n := 28) (k := g.m 28) (z := 28) (v := (g.m 28 : Int)) (m := m) rfl rfl (by decide)).trans (congrArg (ml ML) e)
  unfold w_law_20
  rcases htl with rfl | ⟨u, rfl⟩
  all_goals
    refine And.intro (by decide) (Exists.intro _ (Exists.intro _ (And.intro rfl (And.intro (ml_at (L := ML) (k := 28) (by decide)) ?_))))
    refine And.intro (stE (n := 28) rfl (by decide) (by decide)) ?_
    exact key _ e2
theorem s19 {m : Nat → Nat} (htl : Tl tl) (hp : g.pc = 600) (hs : g.sp = 255) (hm : ∀ j, (j < 18 ∨ 24 ≤ j) → j ≠ 28 → m j = g.m j) : w_law_19 C ⟨loA s T dr c t vs tl (loB B code (loC u1 u2 rest)), hpM ⟨o0, .list (ml ML m)⟩ adv ex cy spc g⟩ QQ := by
  have key : ∀ X, X = ml ML (puts m 18 ((List.range 6).map fun i => g.m (18 + i))) → w_law_20 C ⟨loA s T dr c t vs tl (loB B code (loC u1 u2 rest)), hpM ⟨o0, .list X⟩ adv ex cy spc g⟩ QQ := fun X hX => by
    rw [hX]
    refine s20 htl hp hs fun j hj => ?_
    by_cases h : j < 18 ∨ 24 ≤ j
    · rw [puts_out _ _ _ _ (by show j < 18 ∨ 18 + 6 ≤ j; exact h)]
      exact hm j h hj
    · have : ((List.range 6).map fun i => g.m (18 + i))[j - 18]? = some (g.m (18 + (j - 18))) := by rw [List.getElem?_map, List.getElem?_range (by omega)]; rfl
      have := puts_in _ m 18 _ _ this
      rwa [show 18 + (j - 18) = j by omega] at this
  unfold w_law_19
  rcases htl with rfl | ⟨u, rfl⟩
  all_goals
    refine Exists.intro (ml ML g.m) (And.intro rfl (And.intro (sz_ml (by decide)) (And.intro ⟨by decide, by decide, by rw [ml_len]; decide⟩ ?_)))
    refine Exists.intro 18 (Exists.intro 24 (Exists.intro _ (And.intro rfl (And.intro rfl (And.intro rfl (And.intro ⟨by decide, by rw [ml_len]; decide, ?_⟩ ?_))))))
    · show (ml ML m).length + (List.take 6 (List.drop 18 (ml ML g.m))).length ≤ _
      rw [ml_len, ml_sl (by decide), nv_len, List.length_map, List.length_range]; decide
    · exact key ((ml ML m).take 18 ++ ((ml ML g.m).drop 18).take 6 ++ (ml ML m).drop 24) (by
        rw [ml_sl (by decide)]
        exact ml_put rfl (by decide))
end
end VE
namespace VE
theorem nv_atE {l : List Nat} {k z : Nat} {i : Int} (e : i = (k : Int)) (h : l[k]? = some z) : pick (nv l) i = some (.int (z : Int)) := by rw [e]; exact nv_at h
theorem lword_c {d n : Nat} {hp : List VO} {Q : Rs → List VO → Prop} (h : Q (.val (.p (.lst (nv [n % 256, n / 256])))) hp) : callsOf T2L (d + 1) 1439 [.p (.int (n : Int))] hp Q := by
  refine callI rfl ?_
  show w__law_word _ _ _
  unfold w__law_word
  refine And.intro (by decide) ?_
  refine And.intro ⟨by decide, no_pylong (by decide)⟩ ?_
  refine And.intro (szL rfl) ?_
  refine Or.inl (And.intro rfl ?_)
  have key : ∀ x y : Int, x = ((n % 256 : Nat) : Int) → y = ((n / 256 : Nat) : Int) → Q (.val (.p (.lst [.int x, .int y]))) hp := by
    rintro _ _ rfl rfl
    exact h
  exact key _ _ (fmodN n 256) (fdivN n 256)
theorem enum_at : ∀ {l : List PV} {k i : Nat} {v : PV}, (enumL k l)[i]? = some v → ∃ z, l[i]? = some z ∧ v = .tup [.int ((k + i : Nat) : Int), z]
  | [], k, i, v, h => by cases h
  | z :: r, k, 0, v, h => by cases h; exact ⟨z, rfl, rfl⟩
  | z :: r, k, i + 1, v, h => by
    obtain ⟨z', h1, h2⟩ := enum_at (l := r) (k := k + 1) (i := i) h
    exact ⟨z', h1, by rw [h2]; congr 4; (exact Nat.le_antisymm (qq0 [_,_] [1] 0x84023142608045 qt) (qq0 [_,_] [1] 0x982011421008c5 qt))⟩
theorem enum_len : ∀ (l : List PV) (k : Nat), (enumL k l).length = l.length
  | [], _ => rfl
  | z :: r, k => congrArg (· + 1) (enum_len r (k + 1))
theorem rng_map {f : Nat → Nat} {c i : Nat} (h : i < c) : ((List.range c).map f)[i]? = some (f i) := by rw [List.getElem?_map, List.getElem?_range h]; rfl
/-- One node is stored. -/
theorem nxt_pos {P : Nat → Nat} {c i : Nat} (h : i + 1 < c) : nxt P c i = P (i + 1) := if_pos h
theorem nxt_zero {P : Nat → Nat} {c i : Nat} (h : ¬ i + 1 < c) : nxt P c i = 0 := if_neg h
section
variable {s dr code : List PV} {T : Int} {c t B : Nat} {P v : Nat → Nat} {tl : List (Nat × VV)} {u1 u2 u3 : VV} {adv : VV} {ex cy spc : Int} {g : Rg} {r : List Nat}
noncomputable abbrev loE (s : List PV) (T : Int) (dr : List PV) (c t : Nat) (v : Nat → Nat) (B : Nat) (code : List PV) (tl : List (Nat × VV)) (u1 u2 u3 : VV) (rest : List (Nat × VV)) : List (Nat × VV) := loA s T dr c t (nv ((List.range c).map v)) tl (loB B code (loC u1 u2 ((127, u3) :: rest)))
noncomputable abbrev sto18 : WX := wAsSl (wName 124) (wP (wSub (wName 122) (wName 125))) (wP (wBin .Add (wSub (wName 122) (wName 125)) (wInt 3))) (wFrz (wCat (wFrz (wList (wAc (wSub (wName 121) (wName 125)) wA0))) (wName 130)))
noncomputable abbrev fol18 : WX := wAsg 130 (wFrz (wIf0 (wCmpT .Lt (wBin .Add (wName 133) (wInt 1)) (wName 120)) (wCall 1439 (wAc (wSub (wName 122) (wSub (wName 128) (wBin .Add (wName 133) (wInt 1)))) wA0)) (wList (wAc (wInt 0) (wAc (wInt 0) wA0)))))
theorem len3p {m : Nat → Nat} {a x y z : Nat} (h : a + 3 ≤ ML) : (ml ML m).take a ++ nv [x, y, z] ++ (ml ML m).drop (a + 3) = ml ML (puts m a [x, y, z]) := ml_put rfl h
/-- The node at the place q is stored. -/
theorem b18b (htl : Tl tl) (A : Apt P c) {q w : Nat} (hq : q < c) (hc : q < 65536) {m : Nat → Nat} {rest : List (Nat × VV)} {K : Fl → VS → Prop}
    (k : K .next ⟨loE s T dr c t v B code tl (.p (.int (q : Int))) (.p (.lst (nv [w % 256, w / 256]))) u3 rest, hpM ⟨.list (nv (plc P c)), .list (ml ML (puts m (P q) [v q, w % 256, w / 256]))⟩ adv ex cy spc g⟩) :
    sto18 (callsOf T2L 40) ⟨loE s T dr c t v B code tl (.p (.int (q : Int))) (.p (.lst (nv [w % 256, w / 256]))) u3 rest, hpM ⟨.list (nv (plc P c)), .list (ml ML m)⟩ adv ex cy spc g⟩ K := by
  have a := A.rg q hq
  have key : ∀ X, X = ml ML (puts m (P q) [v q, w % 256, w / 256]) → K .next ⟨loE s T dr c t v B code tl (.p (.int (q : Int))) (.p (.lst (nv [w % 256, w / 256]))) u3 rest, hpM ⟨.list (nv (plc P c)), .list X⟩ adv ex cy spc g⟩ := fun X hX => by rw [hX]; exact k
  have e := len3p (m := m) (a := P q) (x := v q) (y := w % 256) (z := w / 256) (by show P q + 3 ≤ 65536; (exact qq1 [_] [3,65536,2,1,20000] 1 0x2208045 1 0x41046208845 qt a.2))
  rcases htl with rfl | ⟨u, rfl⟩
  all_goals
    refine And.intro (iOk (n := q) hc) (Exists.intro _ (Exists.intro _ (And.intro rfl (And.intro (nv_atE (k := q) rfl (rng_map hq)) ?_))))
    refine And.intro (szL rfl) ?_
    refine Exists.intro _ (Exists.intro _ (And.intro rfl (And.intro rfl (And.intro (szL rfl) ?_))))
    refine And.intro (iOk (n := q) hc) (Exists.intro _ (Exists.intro _ (And.intro rfl (And.intro (nv_atE (k := q) rfl (rng_map hq)) ?_))))
    refine And.intro (iOk (n := q) hc) (Exists.intro _ (Exists.intro _ (And.intro rfl (And.intro (nv_atE (k := q) rfl (rng_map hq)) ?_))))
    refine Exists.intro (P q) (Exists.intro (P q + 3) (Exists.intro (nv [v q, w % 256, w / 256]) (And.intro rfl (And.intro rfl (And.intro rfl (And.intro ⟨Nat.le_add_right _ 3, by rw [ml_len]; show P q + 3 ≤ 65536; (exact qq1 [_] [3,65536,2,1,20000] 1 0x2208045 1 0x41046208845 qt a.2), by rw [ml_len, nv_len]; show 65536 + 3 ≤ sizeLine; decide⟩ ?_))))))
    exact key _ e
/-- The link to the next is put together. -/
theorem b18a (htl : Tl tl) (A : Apt P c) (pm : r.Perm (List.range c)) (h5 : c ≤ 5) {i : Nat} (hi : i < c) {o2 : VO} {K : Fl → VS → Prop}
    (k : K .next ⟨loE s T dr c t v B code tl u1 (.p (.lst (nv [nxt (via P r) c i % 256, nxt (via P r) c i / 256]))) u3 [(128, .p (.lst (nv r))), (133, .p (.int (i : Int)))], hpM ⟨.list (nv (plc P c)), o2⟩ adv ex cy spc g⟩) :
    fol18 (callsOf T2L 40) ⟨loE s T dr c t v B code tl u1 u2 u3 [(128, .p (.lst (nv r))), (133, .p (.int (i : Int)))], hpM ⟨.list (nv (plc P c)), o2⟩ adv ex cy spc g⟩ K := by
  have hl : r.length = c := by rw [pm.length_eq, List.length_range]
  have ri : ∀ i, i < c → r[i]? = some (r.getD i 0) := fun i hi => by
    have hk : i < r.length := by rw [hl]; exact hi
    rw [List.getD_eq_getElem?_getD, List.getElem?_eq_getElem hk]; rfl
  by_cases h : i + 1 < c
  · rw [nxt_pos h] at k
    have hq := ord_lt pm h
    have e1 : decide ((i : Int) + 1 < (c : Int)) = true := decide_eq_true (by (exact qGb (qq1 [_,_] [1] 1 0x3040208045 1 0x3040208045 qt h)))
    rcases htl with rfl | ⟨u, rfl⟩
    all_goals
      refine brT e1 ?_
      refine And.intro (iOk (n := i + 1) (by (exact qq2 [_,_] [1,65536,5] 1 0x11040208045 1 0x846 1 0x3040208045 qt h5 h))) (Exists.intro _ (Exists.intro _ (And.intro rfl (And.intro (nv_atE (k := i + 1) rfl (ri _ h)) ?_))))
      refine And.intro (iOk (n := r.getD (i + 1) 0) (by (exact qq2 [_,_] [1,65536,5] 1 0x2208045 1 0x846 1 0x608045 qt h5 hq))) (Exists.intro _ (Exists.intro _ (And.intro rfl (And.intro (nv_atE (k := r.getD (i + 1) 0) rfl (rng_map hq)) ?_))))
      exact lword_c (d := 39) k
  · rw [nxt_zero h] at k
    have e1 : decide ((i : Int) + 1 < (c : Int)) = false := decide_eq_false (by (exact fun e9 => qZ (qq2 [_,_] [1,0] 1 0x8802 1 0x1008c5 1 0x2840208046 qt (qT h) (qIb e9))))
    rcases htl with rfl | ⟨u, rfl⟩
    all_goals
      refine brF e1 ?_
      refine And.intro (szL rfl) ?_
      exact k
/-- A turn of the loop over the sorted nodes. -/
theorem it18 (htl : Tl tl) (A : Apt P c) (pm : r.Perm (List.range c)) (h5 : c ≤ 5) {i : Nat} (hi : i < c) {m : Nat → Nat} {tl2 : List (Nat × VV)} (h2 : tl2 = [] ∨ ∃ w, tl2 = [(133, w)]) {K : Fl → VS → Prop}
    (k : K .next ⟨loE s T dr c t v B code tl (.p (.int ((r.getD i 0 : Nat) : Int))) (.p (.lst (nv [nxt (via P r) c i % 256, nxt (via P r) c i / 256]))) u3 [(128, .p (.lst (nv r))), (133, .p (.int (i : Int)))], hpM ⟨.list (nv (plc P c)), .list (ml ML (puts m (P (r.getD i 0)) [v (r.getD i 0), nxt (via P r) c i % 256, nxt (via P r) c i / 256]))⟩ adv ex cy spc g⟩) :
    wTgT 2 (wTc (wTN 133) (wTc (wTN 125) wT0)) (callsOf T2L 40) ⟨loE s T dr c t v B code tl u1 u2 u3 ((128, .p (.lst (nv r))) :: tl2), hpM ⟨.list (nv (plc P c)), .list (ml ML m)⟩ adv ex cy spc g⟩ (.p (.tup [.int (i : Int), .int ((r.getD i 0 : Nat) : Int)])) fun τ1 => wSeq fol18 (wSeq sto18 wNil) (callsOf T2L 40) τ1 K := by
  have hq := ord_lt pm hi
  have h := b18a (K := fun f τ' => thenF f (wSeq sto18 wNil (callsOf T2L 40) τ' K) (K f τ')) (s := s) (T := T) (dr := dr) (t := t) (v := v) (B := B) (code := code) (u1 := .p (.int ((r.getD i 0 : Nat) : Int))) (u2 := u2) (u3 := u3) (adv := adv) (ex := ex) (cy := cy) (spc := spc) (g := g) (o2 := .list (ml ML m)) htl A pm h5 hi
    (b18b (K := fun f τ' => thenF f (wNil (callsOf T2L 40) τ' K) (K f τ')) (w := nxt (via P r) c i) htl A hq (by (exact qq2 [_,_] [1,65536,5] 1 0x2208045 1 0x846 1 0x608045 qt h5 hq)) k)
  rcases htl with rfl | ⟨u, rfl⟩
  · rcases h2 with rfl | ⟨w, rfl⟩
    · exact h
    · exact h
  · rcases h2 with rfl | ⟨w, rfl⟩
    · exact h
    · exact h
theorem s18 (htl : Tl tl) (F : Fx t B) (A : Apt P c) (h0 : 0 < c) (h5 : c ≤ 5) (hv : ∀ i, i < c → v i < 256) (pm : r.Perm (List.range c)) (hr : r = insAll (fun i => xr (mst t B c P v (P i)) t) (List.range c) []) (R : Ran t B c P v g) :
    w_law_18 (callsOf T2L 40) ⟨loE s T dr c t v B code tl u1 u2 u3 [(128, .p (.lst (nv r)))], hpM ⟨.list (nv (plc P c)), .list (ml ML (pl0 t B P r))⟩ adv ex cy spc g⟩ QQ := by
  have hl : r.length = c := by rw [pm.length_eq, List.length_range]
  have ri : ∀ i, i < c → r[i]? = some (r.getD i 0) := fun i hi => by
    have hk : i < r.length := by rw [hl]; exact hi
    rw [List.getD_eq_getElem?_getD, List.getElem?_eq_getElem hk]; rfl
  have A' := via_apt pm A
  unfold w_law_18
  rcases htl with rfl | ⟨u, rfl⟩
  · refine Exists.intro (nv r) (And.intro rfl ?_)
    refine forW_ind (fun i τ => ∃ u1 u2 tl2, (tl2 = [] ∨ ∃ w, tl2 = [(133, w)]) ∧ τ = ⟨loE s T dr c t v B code [] u1 u2 u3 ((128, .p (.lst (nv r))) :: tl2), hpM ⟨.list (nv (plc P c)), .list (ml ML (wrN (pl0 t B P r) (via P r) (via v r) c i))⟩ adv ex cy spc g⟩) ⟨u1, u2, [], .inl rfl, rfl⟩ ?_ ?_
    · rintro i w τ Rr hw ⟨u1, u2, tl2, h2, rfl⟩ hR
      obtain ⟨z, hz, rfl⟩ := enum_at hw
      rw [Nat.zero_add]
      have hi : i < c := by
        have := (List.getElem?_eq_some_iff.mp hz).1
        rwa [nv_len, hl] at this
      have ez : z = .int ((r.getD i 0 : Nat) : Int) := by
        have := nv_at (ri i hi)
        have hz : pick (nv r) (i : Int) = some z := hz
        rw [this] at hz
        exact (Option.some.inj hz).symm
      subst ez
      exact it18 (.inl rfl) A pm h5 hi h2 (And.intro rfl (hR _ ⟨_, _, _, .inr ⟨_, rfl⟩, rfl⟩))
    · rintro τ ⟨u1, u2, tl2, h2, rfl⟩
      rw [enum_len, nv_len, hl]
      have fin := fun j => pl_ok F A h0 hv pm hr R j
      rcases h2 with rfl | ⟨w, rfl⟩
      · exact s19 (.inl rfl) R.pc R.sp fin
      · exact s19 (.inl rfl) R.pc R.sp fin
  · refine Exists.intro (nv r) (And.intro rfl ?_)
    refine forW_ind (fun i τ => ∃ u1 u2 tl2, (tl2 = [] ∨ ∃ w, tl2 = [(133, w)]) ∧ τ = ⟨loE s T dr c t v B code [(109, u)] u1 u2 u3 ((128, .p (.lst (nv r))) :: tl2), hpM ⟨.list (nv (plc P c)), .list (ml ML (wrN (pl0 t B P r) (via P r) (via v r) c i))⟩ adv ex cy spc g⟩) ⟨u1, u2, [], .inl rfl, rfl⟩ ?_ ?_
    · rintro i w τ Rr hw ⟨u1, u2, tl2, h2, rfl⟩ hR
      obtain ⟨z, hz, rfl⟩ := enum_at hw
      rw [Nat.zero_add]
      have hi : i < c := by
        have := (List.getElem?_eq_some_iff.mp hz).1
        rwa [nv_len, hl] at this
      have ez : z = .int ((r.getD i 0 : Nat) : Int) := by
        have := nv_at (ri i hi)
        have hz : pick (nv r) (i : Int) = some z := hz
        rw [this] at hz
        exact (Option.some.inj hz).symm
      subst ez
      exact it18 (.inr ⟨u, rfl⟩) A pm h5 hi h2 (And.intro rfl (hR _ ⟨_, _, _, .inr ⟨_, rfl⟩, rfl⟩))
    · rintro τ ⟨u1, u2, tl2, h2, rfl⟩
      rw [enum_len, nv_len, hl]
      have fin := fun j => pl_ok F A h0 hv pm hr R j
      rcases h2 with rfl | ⟨w, rfl⟩
      · exact s19 (.inr ⟨u, rfl⟩) R.pc R.sp fin
      · exact s19 (.inr ⟨u, rfl⟩) R.pc R.sp fin
end
end VE
namespace VE
/-! The key of a node, the sorted order. -/
noncomputable abbrev kTst : WT := wCmpT .NotEq (wBin .Mod (wBin .FloorDiv (wName 79) (wBin .Pow (wInt 2) (wName 107))) (wInt 2)) (wBin .Mod (wBin .FloorDiv (wName 104) (wBin .Pow (wInt 2) (wName 107))) (wInt 2))
noncomputable abbrev kElt : WE := wBin .Pow (wInt 2) (wName 107)
theorem pow2I (k : Nat) : (2 : Int) ^ ((k : Int)).toNat = ((2 ^ k : Nat) : Int) := by
  rw [Int.toNat_natCast]; exact (Int.natCast_pow 2 k).symm
theorem compWT_cons {tgt : PV → VS → (VS → Prop) → Prop} {tst : VS → (Bool → VS → Prop) → Prop} {elt : VS → (VV → VS → Prop) → Prop} {hp : List VO} {base : List (Nat × VV)} {Q : List PV → Prop} {v : PV} {r acc : List PV}
    (h : tgt v ⟨base, hp⟩ fun τ1 => tst τ1 fun c τ2 => brW c (elt τ2 fun u τ3 => τ3.hp = hp ∧ pvV u fun z => compWT tgt tst elt hp base Q r (acc ++ [z])) (τ2.hp = hp ∧ compWT tgt tst elt hp base Q r acc)) : compWT tgt tst elt hp base Q (v :: r) acc := by
  have e : (fun (c : Bool) (τ2 : VS) => brW c (elt τ2 fun u τ3 => τ3.hp = hp ∧ pvV u fun z => compWT tgt tst elt hp base Q r (acc ++ [z])) (τ2.hp = hp ∧ compWT tgt tst elt hp base Q r acc)) = fun c τ2 => match c with
      | true => elt τ2 fun u τ3 => τ3.hp = hp ∧ match u with
        | .p z => compWT tgt tst elt hp base Q r (acc ++ [z])
        | _ => False
      | false => τ2.hp = hp ∧ compWT tgt tst elt hp base Q r acc := by
    funext c τ2
    cases c with
    | true => rfl
    | false => rfl
  rw [e] at h
  exact h
theorem key_loop {C : Calls} {v t : Nat} {hp : List VO} {Q : List PV → Prop} : ∀ (n k : Nat) (acc : List PV), k + n = 8 → Q (acc ++ il (bitD v t n k)) → compWT (fun v τ q => wTN 107 C τ (.p v) q) (kTst C) (kElt C) hp [(79, .p (.int (v : Int))), (104, .p (.int (t : Int)))] Q ((List.range' k n).map fun (i : Nat) => PV.int (i : Int)) acc
  | 0, k, acc, _, q => by
    rw [show il (bitD v t 0 k) = [] from rfl, List.append_nil] at q
    exact q
  | n + 1, k, acc, hk, q => by
    have b1 : (0 : Int) ≤ (k : Int) ∧ (k : Int) ≤ 1000000 ∧ (2 : Int).natAbs < 2 ^ 64 := ⟨by (exact qGa (qq0 [_] [0] 0x1402 qt)), by (exact qGa (qq1 [_,_] [1000000,1,8] 1 0x45 1 0x10821088c5 qt (qE hk))), by decide⟩
    have p0 : 2 ^ k < 1000 := Nat.lt_of_le_of_lt (Nat.pow_le_pow_right (by decide) (show k ≤ 7 by (exact qq1 [_,_] [7,1,8] 1 0x45 1 0x10821088c5 qt (qE hk)))) (by decide)
    have p1 : 0 < 2 ^ k := Nat.pow_pos (by decide)
    have b2 : ∀ z : Int, (2 : Int) ^ ((k : Int)).toNat ≠ 0 ∧ Builtin.divisionGoesByPylong z ((2 : Int) ^ ((k : Int)).toNat) = false := fun z => by
      rw [pow2I]
      exact ⟨by (exact fun e9 => qZ (qq2 [_] [1,0] 1 0x8802 1 0xa100822 1 0x445 qt p1 (qE (qIc e9)))), no_pylong (by (exact qq1 [_] [1,1000000,1000] 1 0x2208045 1 0x4208045 qt p0))⟩
    have e : (!(Int.fmod (Int.fdiv (v : Int) ((2 : Int) ^ ((k : Int)).toNat)) 2 == Int.fmod (Int.fdiv (t : Int) ((2 : Int) ^ ((k : Int)).toNat)) 2)) = !(Nat.beq (v / 2 ^ k % 2) (t / 2 ^ k % 2)) := by
      rw [pow2I, fdivN, fdivN, show Int.fmod ((v / 2 ^ k : Nat) : Int) 2 = ((v / 2 ^ k % 2 : Nat) : Int) from fmodN _ 2, show Int.fmod ((t / 2 ^ k : Nat) : Int) 2 = ((t / 2 ^ k % 2 : Nat) : Int) from fmodN _ 2, eqN]
    refine compWT_cons ?_
    refine And.intro b1 ?_
    refine And.intro (b2 _) ?_
    refine And.intro (by decide) ?_
    refine And.intro b1 ?_
    refine And.intro (b2 _) ?_
    refine And.intro (by decide) ?_
    cases hb : Nat.beq (v / 2 ^ k % 2) (t / 2 ^ k % 2) with
    | true =>
      rw [hb] at e
      refine brF e ?_
      refine And.intro rfl (key_loop n (k + 1) acc (by (exact Nat.le_antisymm (qq1 [_,_] [1,8] 1 0x882608045 1 0x8821008c5 qt (qE hk)) (qq1 [_,_] [8,1] 1 0x982111402 1 0x842231402 qt (qF hk)))) ?_)
      have eb : bitD v t (n + 1) k = bitD v t n (k + 1) := by
        show cond (Nat.beq _ _) _ _ = _
        rw [hb]; rfl
      rwa [eb] at q
    | false =>
      rw [hb] at e
      refine brT e ?_
      refine And.intro b1 ?_
      refine And.intro rfl ?_
      have eb : bitD v t (n + 1) k = ((2 ^ k : Nat) : Int) :: bitD v t n (k + 1) := by
        show cond (Nat.beq _ _) _ _ = _
        rw [hb]; rfl
      rw [eb] at q
      have key : ∀ z : Int, z = ((2 ^ k : Nat) : Int) → compWT (fun v τ q => wTN 107 C τ (.p v) q) (kTst C) (kElt C) hp [(79, .p (.int (v : Int))), (104, .p (.int (t : Int)))] Q ((List.range' (k + 1) n).map fun (i : Nat) => PV.int (i : Int)) (acc ++ [.int z]) := by
        rintro _ rfl
        refine key_loop n (k + 1) _ (by (exact Nat.le_antisymm (qq1 [_,_] [1,8] 1 0x882608045 1 0x8821008c5 qt (qE hk)) (qq1 [_,_] [8,1] 1 0x982111402 1 0x842231402 qt (qF hk)))) ?_
        rw [List.append_assoc]
        exact q
      exact key _ (pow2I k)
theorem sumI_is (l : List Int) : l.sum = sumI l := by
  induction l with
  | nil => rfl
  | cons z r ih => rw [List.sum_cons, ih]; rfl
theorem key_c {d v t : Nat} (hv : v < 256) (ht : t < 256) {hp : List VO} {Q : Rs → List VO → Prop} (h : Q (.val (.p (.int ((xr v t : Nat) : Int)))) hp) : callsOf T2L (d + 1) 1444 [.p (.int (v : Int)), .p (.int (t : Int))] hp Q := by
  refine callI rfl ?_
  show w__law_key _ _ _
  unfold w__law_key
  refine And.intro (rng_ok (n := 8) (by decide)) ?_
  refine And.intro (by decide) ?_
  refine key_loop 8 0 [] rfl ?_
  refine Exists.intro (bitD v t 8 0) (And.intro rfl ?_)
  refine Or.inl (And.intro rfl ?_)
  have key : ∀ z : Int, z = ((xr v t : Nat) : Int) → Q (.val (.p (.int z))) hp := by
    rintro _ rfl
    exact h
  exact key _ ((sumI_is _).trans (bitD_xr hv ht))
end VE
namespace VE
theorem keyW_ind {F : Int → (Int → Prop) → Prop} {Q : List Int → Prop} (f : Nat → Nat) : ∀ (l : List Nat) (ks : List Int), (∀ i ∈ l, ∀ R : Int → Prop, R ((f i : Nat) : Int) → F (i : Int) R) → Q (ks ++ asI (l.map f)) → keyW F Q (asI l) ks
  | [], ks, _, q => by
    rw [show asI (List.map f []) = [] from rfl, List.append_nil] at q
    exact q
  | i :: l, ks, h, q => h i (.head _) _ (keyW_ind f l _ (fun j hj => h j (.tail _ hj)) (by rw [List.append_assoc]; exact q))
theorem srtW_in {lm : LamB} {wb : WE} {C : Calls} {τ : VS} {n : Nat} {Q : List Nat → Prop} {u0 u1 : VV} (h0 : getN lm.f0 τ.loc = some u0) (h1 : getN lm.f1 τ.loc = some u1) (q : keyW (lamR lm wb C τ u0 u1) (fun ks => ∀ r, SortQ ks r → Q r) (asI (List.range n)) []) : srtW lm wb C τ n Q := by
  unfold srtW
  rw [h0]
  show (match getN lm.f1 τ.loc with | some u1 => _ | none => _)
  rw [h1]
  exact q
theorem lam_f0 : lamB2.f0 = 121 := rfl
theorem lam_f1 : lamB2.f1 = 104 := rfl
theorem lam_arg : lamB2.arg = 125 := rfl
section
variable {s dr code : List PV} {T : Int} {c t B : Nat} {P v : Nat → Nat} {tl : List (Nat × VV)} {u1 u2 u3 : VV} {adv : VV} {ex cy spc : Int} {g : Rg} {r : List Nat}
theorem s17 (htl : Tl tl) (F : Fx t B) (A : Apt P c) (h0 : 0 < c) (h5 : c ≤ 5) (hv : ∀ i, i < c → v i < 256) (pm : r.Perm (List.range c)) (hr : r = insAll (fun i => xr (mst t B c P v (P i)) t) (List.range c) []) (R : Ran t B c P v g) :
    w_law_17 (callsOf T2L 40) ⟨loE s T dr c t v B code tl u1 u2 u3 [(128, .p (.lst (nv r)))], hpM ⟨.list (nv (plc P c)), .list (ml ML (gnd t B))⟩ adv ex cy spc g⟩ QQ := by
  have hl : r.length = c := by rw [pm.length_eq, List.length_range]
  have hq := ord_lt pm h0
  have r0 : r[0]? = some (r.getD 0 0) := by
    have hk : 0 < r.length := by rw [hl]; exact h0
    rw [List.getD_eq_getElem?_getD, List.getElem?_eq_getElem hk]; rfl
  have key : ∀ X, X = ml ML (pl0 t B P r) → w_law_18 (callsOf T2L 40) ⟨loE s T dr c t v B code tl u1 u2 u3 [(128, .p (.lst (nv r)))], hpM ⟨.list (nv (plc P c)), .list X⟩ adv ex cy spc g⟩ QQ := fun X hX => by rw [hX]; exact s18 htl F A h0 h5 hv pm hr R
  have e : (ml ML (gnd t B)).take 26 ++ nv [P (r.getD 0 0) % 256, P (r.getD 0 0) / 256] ++ (ml ML (gnd t B)).drop 28 = ml ML (pl0 t B P r) := ml_put rfl (by decide)
  unfold w_law_17
  rcases htl with rfl | ⟨u, rfl⟩
  all_goals
    refine And.intro (iOk (n := 0) (by decide)) (Exists.intro _ (Exists.intro _ (And.intro rfl (And.intro (nv_atE (k := 0) rfl r0) ?_))))
    refine And.intro (iOk (n := r.getD 0 0) (by (exact qq2 [_,_] [1,65536,5] 1 0x2208045 1 0x846 1 0x608045 qt h5 hq))) (Exists.intro _ (Exists.intro _ (And.intro rfl (And.intro (nv_atE (k := r.getD 0 0) rfl (rng_map hq)) ?_))))
    refine lword_c (d := 39) ?_
    refine Exists.intro 26 (Exists.intro 28 (Exists.intro (nv [P (r.getD 0 0) % 256, P (r.getD 0 0) / 256]) (And.intro rfl (And.intro rfl (And.intro rfl (And.intro ⟨by decide, by rw [ml_len]; decide, by rw [ml_len, nv_len]; show 65536 + 2 ≤ sizeLine; decide⟩ ?_))))))
    exact key _ e
theorem s16 (htl : Tl tl) (F : Fx t B) (A : Apt P c) (h2 : 2 ≤ c) (h5 : c ≤ 5) (hv : ∀ i, i < c → v i < 256) (R : Ran t B c P v g) :
    w_law_16 (callsOf T2L 40) ⟨loE s T dr c t v B code tl u1 u2 u3 [], hpM ⟨.list (nv (plc P c)), .list (ml ML (gnd t B))⟩ adv ex cy spc g⟩ QQ := by
  have h0 : 0 < c := by (exact qq1 [_] [0,1,2] 1 0xa108802 1 0x1442 qt h2)
  have fin : ∀ ks : List Int, ks = asI ((List.range c).map fun i => xr (v i) t) → ∀ r, SortQ ks r → w_law_17 (callsOf T2L 40) ⟨loE s T dr c t v B code tl u1 u2 u3 [(128, .p (.lst (nv r)))], hpM ⟨.list (nv (plc P c)), .list (ml ML (gnd t B))⟩ adv ex cy spc g⟩ QQ := fun ks hk r hS => by
    have hl : ks.length = c := by rw [hk, List.length_map, List.length_map, List.length_range]
    have pm : r.Perm (List.range c) := hl ▸ hS.perm
    have hr := order_is (kk := fun i => xr (mst t B c P v (P i)) t) hl (fun i hi => by
      rw [hk, List.getElem?_map, rng_map hi, (mst_at A hi).1]; rfl) hS
    exact s17 htl F A h0 h5 hv pm hr R
  unfold w_law_16
  rcases htl with rfl | ⟨u, rfl⟩
  all_goals
    refine Exists.intro c (And.intro rfl (And.intro ⟨h2, by (exact qq1 [_] [1,64,5] 1 0x2208045 1 0x845 qt h5)⟩ ?_))
    refine srtW_in (u0 := .p (.lst (nv ((List.range c).map v)))) (u1 := .p (.int (t : Int))) (by rw [lam_f0]; rfl) (by rw [lam_f1]; rfl) ?_
    refine keyW_ind (fun i => xr (v i) t) (List.range c) [] (fun i hi R hR => ?_) (fin _ rfl)
    have hi := List.mem_range.mp hi
    unfold lamR
    rw [lam_f0, lam_f1, lam_arg]
    unfold w_lamB
    refine And.intro (iOk (n := i) (by (exact qq2 [_,_] [1,65536,5] 1 0x2208045 1 0x846 1 0x608045 qt h5 hi))) (Exists.intro _ (Exists.intro _ (And.intro rfl (And.intro (nv_atE (k := i) rfl (rng_map hi)) ?_))))
    refine key_c (d := 9) (hv i hi) F.t8 ?_
    exact And.intro rfl hR
end
end VE
namespace VE
section
variable {s dr code : List PV} {T : Int} {c t B : Nat} {P v : Nat → Nat} {tl : List (Nat × VV)} {u1 u2 : VV} {adv : VV} {ex cy spc : Int} {g gf : Rg}
noncomputable abbrev loF (s : List PV) (T : Int) (dr : List PV) (c t : Nat) (v : Nat → Nat) (B : Nat) (code : List PV) (tl rest : List (Nat × VV)) : List (Nat × VV) := loA s T dr c t (nv ((List.range c).map v)) tl (loB B code rest)
/-- A turn of the machine's loop. -/
theorem it15 (htl : Tl tl) (F : Fx t B) (A : Apt P c) (h2 : 2 ≤ c) (h5 : c ≤ 5) (hv : ∀ i, i < c → v i < 256) (Rf : Ran t B c P v gf) {n i : Nat} (R : Run n g gf) {tl3 : List (Nat × VV)} (h3 : tl3 = [] ∨ ∃ u, tl3 = [(127, u)]) {Rr : VS → Prop}
    (k : ∀ n' g' adv ex cy spc, n = n' + 1 → Run n' g' gf → Rr ⟨loF s T dr c t v B code tl (loC u1 u2 [(127, .p (.int (i : Int)))]), hpM ⟨.list (nv (plc P c)), .list (ml ML (gnd t B))⟩ adv ex cy spc g'⟩) :
    wTN 127 (callsOf T2L 40) ⟨loF s T dr c t v B code tl (loC u1 u2 tl3), hpM ⟨.list (nv (plc P c)), .list (ml ML (gnd t B))⟩ adv ex cy spc g⟩ (.p (.int (i : Int))) fun τ1 => wSeq (wIf (wCmpT .Eq (wAttr Z2 11 (wName 126)) (wInt 600)) (wSeq wBrk wNil) wNil) (wSeq (wExpr (wFrz (wMeth Z2 34 (wName 126) wA0))) wNil) (callsOf T2L 40) τ1 (flW (fun _ => True) (fun f τ' => thenF f (w_law_16 (callsOf T2L 40) τ' QQ) (QQ f τ')) Rr) := by
  cases R with
  | nil =>
    have fin := s16 (s := s) (T := T) (dr := dr) (code := code) (u1 := u1) (u2 := u2) (u3 := .p (.int (i : Int))) (adv := adv) (ex := ex) (cy := cy) (spc := spc) htl F A h2 h5 hv Rf
    have hp := Rf.pc
    rcases htl with rfl | ⟨u, rfl⟩
    · rcases h3 with rfl | ⟨w, rfl⟩
      all_goals
        refine brT (by rw [hp]; exact beq_self_eq_true _) ?_
        exact fin
    · rcases h3 with rfl | ⟨w, rfl⟩
      all_goals
        refine brT (by rw [hp]; exact beq_self_eq_true _) ?_
        exact fin
  | cons S l R =>
    have ne : ((g.pc : Int) == 600) = false := beq_false_of_ne (by omega)
    rcases htl with rfl | ⟨u, rfl⟩
    · rcases h3 with rfl | ⟨w, rfl⟩
      all_goals
        refine brF ne ?_
        refine S.run _ _ _ _ _ _ fun adv ex cy spc => ?_
        exact And.intro trivial (k _ _ adv ex cy spc rfl R)
    · rcases h3 with rfl | ⟨w, rfl⟩
      all_goals
        refine brF ne ?_
        refine S.run _ _ _ _ _ _ fun adv ex cy spc => ?_
        exact And.intro trivial (k _ _ adv ex cy spc rfl R)
theorem s15 (htl : Tl tl) (F : Fx t B) (A : Apt P c) (h2 : 2 ≤ c) (h5 : c ≤ 5) (hv : ∀ i, i < c → v i < 256) (Rf : Ran t B c P v gf) {n : Nat} (R : Run n g gf) (hn : n ≤ 700) :
    w_law_15 (callsOf T2L 40) ⟨loF s T dr c t v B code tl (loC u1 u2 []), hpM ⟨.list (nv (plc P c)), .list (ml ML (gnd t B))⟩ adv ex cy spc g⟩ QQ := by
  unfold w_law_15
  refine And.intro (rng_ok (n := 700) (by decide)) ?_
  refine forW_ind (fun i τ => ∃ n g adv ex cy spc tl3, Run n g gf ∧ n + i ≤ 700 ∧ (i = 0 ∧ tl3 = [] ∨ ∃ u, tl3 = [(127, u)]) ∧ τ = ⟨loF s T dr c t v B code tl (loC u1 u2 tl3), hpM ⟨.list (nv (plc P c)), .list (ml ML (gnd t B))⟩ adv ex cy spc g⟩) ⟨n, g, adv, ex, cy, spc, [], R, hn, .inl ⟨rfl, rfl⟩, rfl⟩ ?_ ?_
  · rintro i w τ Rr hw ⟨n, g, adv, ex, cy, spc, tl3, R, hn, h3, rfl⟩ hR
    obtain ⟨hi, rfl⟩ := range_at (n := 700) hw
    refine it15 htl F A h2 h5 hv Rf R (h3.imp (·.2) id) fun n' g' adv ex cy spc e R' => hR _ ⟨n', g', adv, ex, cy, spc, _, R', by (exact qq2 [_,_,_] [1,700] 1 0x8821008c5 1 0x1104c7 1 0x708045 qt hn (qF e)), .inr ⟨_, rfl⟩, rfl⟩
  · rintro τ ⟨n, g, adv, ex, cy, spc, tl3, R, hn, h3, rfl⟩
    have hn : n + (rangeL 0 ((700 : Nat) : Int)).length ≤ 700 := hn
    rw [range_len] at hn
    have h3 : (rangeL 0 ((700 : Nat) : Int)).length = 0 ∧ tl3 = [] ∨ ∃ u, tl3 = [(127, u)] := h3
    rw [range_len] at h3
    have : n = 0 := by (exact Nat.le_antisymm (qq1 [_] [0,700] 1 0x45 1 0x2208445 qt hn) (qq0 [_] [0] 0x1402 qt))
    subst this
    rcases h3 with ⟨h, _⟩ | ⟨w, rfl⟩
    · cases h
    cases R with
    | nil => exact s16 htl F A h2 h5 hv Rf
/-- reset. -/
theorem reset_c {d : Nat} {o0 o1 o2 : VO} {B : Nat} {Q : Rs → List VO → Prop} (h : Q (.val (.p .none)) [o0, o1, o2, .inst (fsR (.p (.bool false)) 0 0 (B : Int) (B : Int) 255 0 0 0 48)]) :
    callsOf T2L (d + 1) 50 [.ref 3] [o0, o1, o2, .inst [(1, .p .any), (2, .p (.int 255)), (3, .p (.int 65535)), (4, .p (.int 65280)), (5, .p (.int 256)), (6, .p (.int 0)), (7, .p (.bool false)), (8, .p (.int 0)), (9, .ref 1), (10, .p (.int (B : Int)))]] Q := by
  refine callI rfl ?_
  refine Or.inl (And.intro rfl ?_)
  exact h
theorem s14 (htl : Tl tl) (F : Fx t B) (A : Apt P c) (h2 : 2 ≤ c) (h5 : c ≤ 5) (hv : ∀ i, i < c → v i < 256) :
    w_law_14 (callsOf T2L 40) ⟨loF s T dr c t v B code tl [(125, u1), (130, u2)], [.list (nv (plc P c)), .list (ml ML (mst t B c P v)), .list (ml ML (gnd t B))]⟩ QQ := by
  obtain ⟨n, gf, hn, R, Rf⟩ := run_ok F A (show 0 < c by (exact qq1 [_] [0,1,2] 1 0xa108802 1 0x1442 qt h2)) h5 hv
  have fin := s15 (s := s) (T := T) (dr := dr) (code := code) (u1 := u1) (u2 := u2) (adv := .p (.bool false)) (ex := 0) (cy := 0) (spc := (B : Int)) htl F A h2 h5 hv Rf R hn
  unfold w_law_14
  rcases htl with rfl | ⟨u, rfl⟩
  all_goals
    refine And.intro (by decide) ?_
    refine And.intro (by decide) ?_
    refine And.intro (by decide) ?_
    refine And.intro (by decide) ?_
    refine reset_c ?_
    refine Or.inl (And.intro rfl ?_)
    exact fin
theorem s13 (htl : Tl tl) (F : Fx t B) (A : Apt P c) (h2 : 2 ≤ c) (h5 : c ≤ 5) (hv : ∀ i, i < c → v i < 256) :
    w_law_13 (callsOf T2L 40) ⟨loF s T dr c t v B code tl [(125, u1), (130, u2)], [.list (nv (plc P c)), .list (ml ML (wrN (gnd t B) P v c c)), .list (ml ML (gnd t B))]⟩ QQ := by
  have h0 : 0 < c := by (exact qq1 [_] [0,1,2] 1 0xa108802 1 0x1442 qt h2)
  have key : ∀ X, X = ml ML (mst t B c P v) → w_law_14 (callsOf T2L 40) ⟨loF s T dr c t v B code tl [(125, u1), (130, u2)], [.list (nv (plc P c)), .list X, .list (ml ML (gnd t B))]⟩ QQ := fun X hX => by rw [hX]; exact s14 htl F A h2 h5 hv
  have e : (ml ML (wrN (gnd t B) P v c c)).take 24 ++ nv [P 0 % 256, P 0 / 256] ++ (ml ML (wrN (gnd t B) P v c c)).drop 26 = ml ML (mst t B c P v) := ml_put rfl (by decide)
  unfold w_law_13
  rcases htl with rfl | ⟨u, rfl⟩
  all_goals
    refine And.intro (iOk (n := 0) (by decide)) (Exists.intro _ (Exists.intro _ (And.intro rfl (And.intro (nv_atE (k := 0) rfl (rng_map h0)) ?_))))
    refine lword_c (d := 39) ?_
    refine Exists.intro 24 (Exists.intro 26 (Exists.intro (nv [P 0 % 256, P 0 / 256]) (And.intro rfl (And.intro rfl (And.intro rfl (And.intro ⟨by decide, by rw [ml_len]; decide, by rw [ml_len, nv_len]; show 65536 + 2 ≤ sizeLine; decide⟩ ?_))))))
    exact key _ e
/-! The nodes are stored. -/
noncomputable abbrev sto12 : WX := wAsSl (wName 9) (wP (wSub (wName 122) (wName 125))) (wP (wBin .Add (wSub (wName 122) (wName 125)) (wInt 3))) (wFrz (wCat (wFrz (wList (wAc (wSub (wName 121) (wName 125)) wA0))) (wName 130)))
noncomputable abbrev fol12 : WX := wAsg 130 (wFrz (wIf0 (wCmpT .Lt (wBin .Add (wName 125) (wInt 1)) (wName 120)) (wCall 1439 (wAc (wSub (wName 122) (wBin .Add (wName 125) (wInt 1))) wA0)) (wList (wAc (wInt 0) (wAc (wInt 0) wA0)))))
theorem b12b (htl : Tl tl) (A : Apt P c) {q w : Nat} (hq : q < c) (hc : q < 65536) {m : Nat → Nat} {o2 : VO} {K : Fl → VS → Prop}
    (k : K .next ⟨loF s T dr c t v B code tl [(125, .p (.int (q : Int))), (130, .p (.lst (nv [w % 256, w / 256])))], [.list (nv (plc P c)), .list (ml ML (puts m (P q) [v q, w % 256, w / 256])), o2]⟩) :
    sto12 (callsOf T2L 40) ⟨loF s T dr c t v B code tl [(125, .p (.int (q : Int))), (130, .p (.lst (nv [w % 256, w / 256])))], [.list (nv (plc P c)), .list (ml ML m), o2]⟩ K := by
  have a := A.rg q hq
  have key : ∀ X, X = ml ML (puts m (P q) [v q, w % 256, w / 256]) → K .next ⟨loF s T dr c t v B code tl [(125, .p (.int (q : Int))), (130, .p (.lst (nv [w % 256, w / 256])))], [.list (nv (plc P c)), .list X, o2]⟩ := fun X hX => by rw [hX]; exact k
  have e := len3p (m := m) (a := P q) (x := v q) (y := w % 256) (z := w / 256) (by show P q + 3 ≤ 65536; (exact qq1 [_] [3,65536,2,1,20000] 1 0x2208045 1 0x41046208845 qt a.2))
  rcases htl with rfl | ⟨u, rfl⟩
  all_goals
    refine And.intro (iOk (n := q) hc) (Exists.intro _ (Exists.intro _ (And.intro rfl (And.intro (nv_atE (k := q) rfl (rng_map hq)) ?_))))
    refine And.intro (szL rfl) ?_
    refine Exists.intro _ (Exists.intro _ (And.intro rfl (And.intro rfl (And.intro (szL rfl) ?_))))
    refine And.intro (iOk (n := q) hc) (Exists.intro _ (Exists.intro _ (And.intro rfl (And.intro (nv_atE (k := q) rfl (rng_map hq)) ?_))))
    refine And.intro (iOk (n := q) hc) (Exists.intro _ (Exists.intro _ (And.intro rfl (And.intro (nv_atE (k := q) rfl (rng_map hq)) ?_))))
    refine Exists.intro (P q) (Exists.intro (P q + 3) (Exists.intro (nv [v q, w % 256, w / 256]) (And.intro rfl (And.intro rfl (And.intro rfl (And.intro ⟨Nat.le_add_right _ 3, by rw [ml_len]; show P q + 3 ≤ 65536; (exact qq1 [_] [3,65536,2,1,20000] 1 0x2208045 1 0x41046208845 qt a.2), by rw [ml_len, nv_len]; show 65536 + 3 ≤ sizeLine; decide⟩ ?_))))))
    exact key _ e
theorem b12a (htl : Tl tl) (A : Apt P c) (h5 : c ≤ 5) {i : Nat} (hi : i < c) {hp : List VO} {tl3 : List (Nat × VV)} (h3 : tl3 = [] ∨ ∃ w, tl3 = [(130, w)]) {K : Fl → VS → Prop}
    (k : K .next ⟨loF s T dr c t v B code tl [(125, .p (.int (i : Int))), (130, .p (.lst (nv [nxt P c i % 256, nxt P c i / 256])))], .list (nv (plc P c)) :: hp⟩) :
    fol12 (callsOf T2L 40) ⟨loF s T dr c t v B code tl ((125, .p (.int (i : Int))) :: tl3), .list (nv (plc P c)) :: hp⟩ K := by
  by_cases h : i + 1 < c
  · rw [nxt_pos h] at k
    have e1 : decide ((i : Int) + 1 < (c : Int)) = true := decide_eq_true (by (exact qGb (qq1 [_,_] [1] 1 0x3040208045 1 0x3040208045 qt h)))
    rcases htl with rfl | ⟨u, rfl⟩
    · rcases h3 with rfl | ⟨w, rfl⟩
      all_goals
        refine brT e1 ?_
        refine And.intro (iOk (n := i + 1) (by (exact qq2 [_,_] [1,65536,5] 1 0x11040208045 1 0x846 1 0x3040208045 qt h5 h))) (Exists.intro _ (Exists.intro _ (And.intro rfl (And.intro (nv_atE (k := i + 1) rfl (rng_map h)) ?_))))
        exact lword_c (d := 39) k
    · rcases h3 with rfl | ⟨w, rfl⟩
      all_goals
        refine brT e1 ?_
        refine And.intro (iOk (n := i + 1) (by (exact qq2 [_,_] [1,65536,5] 1 0x11040208045 1 0x846 1 0x3040208045 qt h5 h))) (Exists.intro _ (Exists.intro _ (And.intro rfl (And.intro (nv_atE (k := i + 1) rfl (rng_map h)) ?_))))
        exact lword_c (d := 39) k
  · rw [nxt_zero h] at k
    have e1 : decide ((i : Int) + 1 < (c : Int)) = false := decide_eq_false (by (exact fun e9 => qZ (qq2 [_,_] [1,0] 1 0x8802 1 0x1008c5 1 0x2840208046 qt (qT h) (qIb e9))))
    rcases htl with rfl | ⟨u, rfl⟩
    · rcases h3 with rfl | ⟨w, rfl⟩
      all_goals
        refine brF e1 ?_
        refine And.intro (szL rfl) ?_
        exact k
    · rcases h3 with rfl | ⟨w, rfl⟩
      all_goals
        refine brF e1 ?_
        refine And.intro (szL rfl) ?_
        exact k
theorem it12 (htl : Tl tl) (A : Apt P c) (h5 : c ≤ 5) {i : Nat} (hi : i < c) {m : Nat → Nat} {o2 : VO} {tl2 : List (Nat × VV)} (h2 : tl2 = [] ∨ ∃ w w', tl2 = [(125, w), (130, w')]) {K : Fl → VS → Prop}
    (k : K .next ⟨loF s T dr c t v B code tl [(125, .p (.int (i : Int))), (130, .p (.lst (nv [nxt P c i % 256, nxt P c i / 256])))], [.list (nv (plc P c)), .list (ml ML (puts m (P i) [v i, nxt P c i % 256, nxt P c i / 256])), o2]⟩) :
    wTN 125 (callsOf T2L 40) ⟨loF s T dr c t v B code tl tl2, [.list (nv (plc P c)), .list (ml ML m), o2]⟩ (.p (.int (i : Int))) fun τ1 => wSeq fol12 (wSeq sto12 wNil) (callsOf T2L 40) τ1 K := by
  have h := b12b (K := fun f τ' => thenF f (wNil (callsOf T2L 40) τ' K) (K f τ')) (w := nxt P c i) htl A hi (by (exact qq2 [_,_] [1,65536,5] 1 0x2208045 1 0x846 1 0x608045 qt h5 hi)) k
  have g1 := b12a (K := fun f τ' => thenF f (wSeq sto12 wNil (callsOf T2L 40) τ' K) (K f τ')) (tl3 := []) htl A h5 hi (.inl rfl) h
  rcases h2 with rfl | ⟨w, w', rfl⟩
  · rcases htl with rfl | ⟨u, rfl⟩
    · exact g1
    · exact g1
  · have g2 := b12a (K := fun f τ' => thenF f (wSeq sto12 wNil (callsOf T2L 40) τ' K) (K f τ')) (tl3 := [(130, w')]) htl A h5 hi (.inr ⟨w', rfl⟩) h
    rcases htl with rfl | ⟨u, rfl⟩
    · exact g2
    · exact g2
theorem s12 (htl : Tl tl) (F : Fx t B) (A : Apt P c) (h2 : 2 ≤ c) (h5 : c ≤ 5) (hv : ∀ i, i < c → v i < 256) :
    w_law_12 (callsOf T2L 40) ⟨loF s T dr c t v B code tl [], [.list (nv (plc P c)), .list (ml ML (gnd t B)), .list (ml ML (gnd t B))]⟩ QQ := by
  have st : forW (fun v τ q => wTN 125 (callsOf T2L 40) τ (.p v) q) (fun τ1 K => wSeq fol12 (wSeq sto12 wNil) (callsOf T2L 40) τ1 K) (fun _ => True) (fun f τ' => thenF f (w_law_13 (callsOf T2L 40) τ' QQ) (QQ f τ')) (rangeL 0 (c : Int)) ⟨loF s T dr c t v B code tl [], [.list (nv (plc P c)), .list (ml ML (gnd t B)), .list (ml ML (gnd t B))]⟩ := by
    refine forW_ind (fun i τ => ∃ tl2, (i = 0 ∧ tl2 = [] ∨ ∃ w w', tl2 = [(125, w), (130, w')]) ∧ τ = ⟨loF s T dr c t v B code tl tl2, [.list (nv (plc P c)), .list (ml ML (wrN (gnd t B) P v c i)), .list (ml ML (gnd t B))]⟩) ⟨[], .inl ⟨rfl, rfl⟩, rfl⟩ ?_ ?_
    · rintro i w τ Rr hw ⟨tl2, h3, rfl⟩ hR
      obtain ⟨hi, rfl⟩ := range_at hw
      exact it12 htl A h5 hi (h3.imp (·.2) id) (And.intro trivial (hR _ ⟨_, .inr ⟨_, _, rfl⟩, rfl⟩))
    · rintro τ ⟨tl2, h3, rfl⟩
      rw [range_len] at h3 ⊢
      rcases h3 with ⟨h, _⟩ | ⟨w, w', rfl⟩
      · omega
      · exact s13 htl F A h2 h5 hv
  unfold w_law_12
  rcases htl with rfl | ⟨u, rfl⟩
  · exact And.intro (rng_ok (n := c) (by (exact qq1 [_] [1,4294967296,5] 1 0x2208045 1 0x845 qt h5))) st
  · exact And.intro (rng_ok (n := c) (by (exact qq1 [_] [1,4294967296,5] 1 0x2208045 1 0x845 qt h5))) st
end
end VE
namespace VE
section
variable {s dr code : List PV} {T : Int} {c t B : Nat} {P v : Nat → Nat} {tl : List (Nat × VV)}
noncomputable abbrev loG (s : List PV) (T : Int) (dr : List PV) (c t : Nat) (v : Nat → Nat) (tl rest : List (Nat × VV)) : List (Nat × VV) := loA s T dr c t (nv ((List.range c).map v)) tl ((122, .ref 0) :: rest)
theorem s11 (htl : Tl tl) (F : Fx t B) (A : Apt P c) (h2 : 2 ≤ c) (h5 : c ≤ 5) (hv : ∀ i, i < c → v i < 256) :
    w_law_11 (callsOf T2L 40) ⟨loG s T dr c t v tl [(9, .ref 1), (111, .p (.int (B : Int))), (123, .p (.lst code))], [.list (nv (plc P c)), .list (ml ML (gnd t B))]⟩ QQ := by
  have fin := s12 (s := s) (T := T) (dr := dr) (code := code) htl F A h2 h5 hv
  unfold w_law_11
  rcases htl with rfl | ⟨u, rfl⟩
  all_goals
    refine Exists.intro (ml ML (gnd t B)) (And.intro rfl (And.intro (sz_ml (by decide)) ?_))
    exact fin
theorem s10 (htl : Tl tl) (F : Fx t B) (A : Apt P c) (h2 : 2 ≤ c) (h5 : c ≤ 5) (hv : ∀ i, i < c → v i < 256) :
    w_law_10 (callsOf T2L 40) ⟨loG s T dr c t v tl [(9, .ref 1), (111, .p (.int (B : Int))), (123, .p (.lst (nv (cd t B))))], [.list (nv (plc P c)), .list (ml ML fun _ => 0)]⟩ QQ := by
  have hB := F.hi
  have key : ∀ X, X = ml ML (gnd t B) → w_law_11 (callsOf T2L 40) ⟨loG s T dr c t v tl [(9, .ref 1), (111, .p (.int (B : Int))), (123, .p (.lst (nv (cd t B))))], [.list (nv (plc P c)), .list X]⟩ QQ := fun X hX => by rw [hX]; exact s11 htl F A h2 h5 hv
  have e : (ml ML fun _ => 0).take B ++ nv (cd t B) ++ (ml ML fun _ => 0).drop (B + 93) = ml ML (gnd t B) := ml_put rfl (by show B + 93 ≤ 65536; (exact qq1 [_] [93,65536,1,60000] 1 0x2208045 1 0x6208845 qt hB))
  unfold w_law_10
  rcases htl with rfl | ⟨u, rfl⟩
  all_goals
    refine Exists.intro (nv (cd t B)) (And.intro rfl (And.intro (by decide : (((93 : Nat) : Int) < 2 ^ 63)) ?_))
    refine Exists.intro B (Exists.intro (B + 93) (Exists.intro (nv (cd t B)) (And.intro rfl (And.intro rfl (And.intro rfl (And.intro ⟨Nat.le_add_right _ _, by rw [ml_len]; show B + 93 ≤ 65536; (exact qq1 [_] [93,65536,1,60000] 1 0x2208045 1 0x6208845 qt hB), by rw [ml_len, nv_len]; show 65536 + 93 ≤ sizeLine; decide⟩ ?_))))))
    exact key _ e
theorem prog_c {d : Nat} {a b : List PV} {Q : Rs → List VO → Prop} (h : Q (.val (.p (.lst (nv (cd t B))))) [.list a, .list b]) : callsOf T2L (d + 2) 1458 [.p (.int (t : Int)), .p (.int (B : Int))] [.list a, .list b] Q := by
  refine callI rfl ?_
  show w__law_program _ _ _
  unfold w__law_program
  refine And.intro (szL rfl) ?_
  refine And.intro (szL rfl) ?_
  refine Exists.intro _ (And.intro rfl (And.intro (szL rfl) ?_))
  refine And.intro (szL rfl) ?_
  refine And.intro (szL rfl) ?_
  refine Exists.intro _ (And.intro rfl (And.intro (szL rfl) ?_))
  refine And.intro (szL rfl) ?_
  refine Exists.intro _ (And.intro rfl (And.intro (szL rfl) ?_))
  refine And.intro (szL rfl) ?_
  refine Exists.intro _ (Exists.intro _ (And.intro rfl (And.intro rfl (And.intro (szL rfl) ?_))))
  refine Exists.intro _ (Exists.intro _ (And.intro rfl (And.intro rfl (And.intro (szL rfl) ?_))))
  refine lword_c (d := d) ?_
  refine Exists.intro _ (Exists.intro _ (And.intro rfl (And.intro rfl (And.intro (szL rfl) ?_))))
  refine Or.inr (And.intro (Nat.le_of_ble_eq_true rfl) (And.intro rfl ?_))
  exact h
end
end VE
namespace VE
/-! What the law draws. -/
noncomputable def offI (n : Int) : Int := cond (Int.fmod (Int.fdiv n 12) 2 == 0) (252 + Int.fmod n 4 + 256 * Int.fmod (Int.fdiv n 4) 3) (Int.fmod n 1000)
noncomputable def valI (n : Int) : Int := Int.fmod (n + 64 * Int.fdiv n 7) 256
theorem fmod_rng (a : Int) {b : Int} (h : 0 < b) : 0 ≤ Int.fmod a b ∧ Int.fmod a b < b := by
  rw [Int.fmod_eq_emod_of_nonneg _ (Int.le_of_lt h)]
  exact ⟨Int.emod_nonneg _ (Int.ne_of_gt h), Int.emod_lt_of_pos _ h⟩
theorem offI_rng (n : Int) : 0 ≤ offI n ∧ offI n < 1000 := by
  have h1 := fmod_rng n (b := 4) (by decide)
  have h2 := fmod_rng (Int.fdiv n 4) (b := 3) (by decide)
  have h3 := fmod_rng n (b := 1000) (by decide)
  unfold offI
  cases (Int.fmod (Int.fdiv n 12) 2 == 0) with
  | true => show 0 ≤ _ + _ ∧ _ + _ < _; omega
  | false => exact h3
theorem off_c {d : Nat} {n : Int} {hp : List VO} {Q : Rs → List VO → Prop} (h : Q (.val (.p (.int (offI n)))) hp) : callsOf T2L (d + 1) 1451 [.p (.int n)] hp Q := by
  refine callI rfl ?_
  show w__law_offset _ _ _
  unfold w__law_offset
  unfold offI at h
  refine And.intro ⟨by decide, no_pylong (by decide)⟩ ?_
  refine And.intro (by decide) ?_
  refine brB (fun e => ?_) (fun e => ?_)
  · rw [show (Int.fmod (Int.fdiv n 12) 2 == 0) = true from e] at h
    refine And.intro (by decide) ?_
    refine And.intro ⟨by decide, no_pylong (by decide)⟩ ?_
    refine And.intro (by decide) ?_
    refine And.intro (mul_l (by decide)) ?_
    exact Or.inl (And.intro rfl h)
  · rw [show (Int.fmod (Int.fdiv n 12) 2 == 0) = false from e] at h
    refine And.intro (by decide) ?_
    exact Or.inl (And.intro rfl h)
section
variable {s : List PV} {n : Nat} {dl : List Int} {c t : Nat} {v : Nat → Nat} {tl : List (Nat × VV)}
noncomputable def plI (n : Nat) (dl : List Int) (i : Nat) : Nat := 4096 + 1024 * ((2 * i + n) % 5) + (offI (dl.getD i 0 + (i : Int))).toNat
noncomputable def vaI (dl : List Int) (i : Nat) : Nat := (valI (dl.getD i 0)).toNat
noncomputable def tuI (n : Nat) : Nat := [0, 128, 255, n % 256].getD (n / 5 % 4) 0
noncomputable abbrev baI (n : Nat) : Nat := 20000 + n % 40000
theorem apt (h5 : c ≤ 5) : Apt (plI n dl) c where
  rg := fun i hi => by
    have := offI_rng (dl.getD i 0 + (i : Int))
    unfold plI
    omega
  far := fun i j hi hj ne => by
    have a := offI_rng (dl.getD i 0 + (i : Int))
    have b := offI_rng (dl.getD j 0 + (j : Int))
    unfold plI
    omega
theorem tu_lt : tuI n < 256 := by
  unfold tuI
  have h : n / 5 % 4 < 4 := Nat.mod_lt _ (by decide)
  generalize n / 5 % 4 = k at h
  have e : k = 0 ∨ k = 1 ∨ k = 2 ∨ k = 3 := by omega
  rcases e with rfl | rfl | rfl | rfl
  · exact (by decide : 0 < 256)
  · exact (by decide : 128 < 256)
  · exact (by decide : 255 < 256)
  · exact Nat.mod_lt _ (by decide)
theorem fx : Fx (tuI n) (baI n) := ⟨by unfold baI; (exact qq0 [_] [20000] 0x2500802 qt), by unfold baI; (exact qq1 [_] [20000,1,60000,40000] 1 0x21042209402 1 0x6208445 qt (qM _ 39999)), tu_lt⟩
theorem va_lt {i : Nat} : vaI dl i < 256 := by
  have := fmod_rng (dl.getD i 0 + 64 * Int.fdiv (dl.getD i 0) 7) (b := 256) (by decide)
  unfold vaI valI
  omega
theorem va_eq {i : Nat} : valI (dl.getD i 0) = ((vaI dl i : Nat) : Int) := by
  have := fmod_rng (dl.getD i 0 + 64 * Int.fdiv (dl.getD i 0) 7) (b := 256) (by decide)
  unfold vaI
  exact (Int.toNat_of_nonneg this.1).symm
theorem s9 (htl : Tl tl) (h2 : 2 ≤ c) (h5 : c ≤ 5) :
    w_law_9 (callsOf T2L 40) ⟨loG s (n : Int) (il dl) c (tuI n) (vaI dl) tl [(9, .ref 1), (111, .p (.int (baI n : Nat)))], [.list (nv (plc (plI n dl) c)), .list (ml ML fun _ => 0)]⟩ QQ := by
  have fin := s10 (s := s) (T := (n : Int)) (dr := il dl) htl (fx (n := n)) (apt (n := n) (dl := dl) h5) h2 h5 fun i _ => va_lt (dl := dl) (i := i)
  unfold w_law_9
  rcases htl with rfl | ⟨u, rfl⟩
  all_goals
    refine prog_c (d := 38) ?_
    exact fin
theorem s8 (htl : Tl tl) (h2 : 2 ≤ c) (h5 : c ≤ 5) :
    w_law_8 (callsOf T2L 40) ⟨loG s (n : Int) (il dl) c (tuI n) (vaI dl) tl [(9, .ref 1)], [.list (nv (plc (plI n dl) c)), .list (ml ML fun _ => 0)]⟩ QQ := by
  have key : ∀ z : Int, z = ((baI n : Nat) : Int) → w_law_9 (callsOf T2L 40) ⟨loG s (n : Int) (il dl) c (tuI n) (vaI dl) tl [(9, .ref 1), (111, .p (.int z))], [.list (nv (plc (plI n dl) c)), .list (ml ML fun _ => 0)]⟩ QQ := by
    rintro _ rfl
    exact s9 htl h2 h5
  have e : (20000 : Int) + Int.fmod (n : Int) 40000 = ((baI n : Nat) : Int) := by
    rw [show Int.fmod (n : Int) 40000 = ((n % 40000 : Nat) : Int) from fmodN n 40000]
    unfold baI
    (exact qGc (Nat.le_antisymm (qq0 [_] [20000] 0x940209402 qt) (qq0 [_] [20000] 0x940209402 qt)))
  unfold w_law_8
  rcases htl with rfl | ⟨u, rfl⟩
  all_goals
    refine And.intro (by decide) ?_
    exact key _ e
theorem rep_ml (k : Nat) : (List.replicate k [PV.int 0]).flatten = ml k fun _ => 0 := by
  unfold ml
  rw [List.flatten_replicate_singleton, List.map_const', List.length_range]
  rfl
theorem s7 (htl : Tl tl) (h2 : 2 ≤ c) (h5 : c ≤ 5) :
    w_law_7 (callsOf T2L 40) ⟨loG s (n : Int) (il dl) c (tuI n) (vaI dl) tl [], [.list (nv (plc (plI n dl) c))]⟩ QQ := by
  have key : ∀ X, X = ml ML (fun _ => 0) → w_law_8 (callsOf T2L 40) ⟨loG s (n : Int) (il dl) c (tuI n) (vaI dl) tl [(9, .ref 1)], [.list (nv (plc (plI n dl) c)), .list X]⟩ QQ := fun X hX => by rw [hX]; exact s8 htl h2 h5
  unfold w_law_7
  rcases htl with rfl | ⟨u, rfl⟩
  all_goals
    refine And.intro (szL rfl) ?_
    refine And.intro ⟨by decide, by decide, by decide⟩ ?_
    exact key _ (rep_ml 65536)
theorem dl_at {i : Nat} (h : i < dl.length) : dl[i]? = some (dl.getD i 0) := by rw [List.getD_eq_getElem?_getD, List.getElem?_eq_getElem h]; rfl
theorem s6 (htl : Tl tl) (h2 : 2 ≤ c) (h5 : c ≤ 5) (hd : 5 ≤ dl.length) :
    w_law_6 (callsOf T2L 40) ⟨loA s (n : Int) (il dl) c (tuI n) (nv ((List.range c).map (vaI dl))) tl [], []⟩ QQ := by
  have key : ∀ X, X = nv (plc (plI n dl) c) → w_law_7 (callsOf T2L 40) ⟨loG s (n : Int) (il dl) c (tuI n) (vaI dl) tl [], [.list X]⟩ QQ := fun X hX => by rw [hX]; exact s7 htl h2 h5
  have st : ∀ Q : List PV → Prop, Q (nv (plc (plI n dl) c)) → compW (fun v τ q => wTN 125 (callsOf T2L 40) τ (.p v) q) ((wBin .Add (wBin .Add (wInt 4096) (wBin .Mult (wInt 1024) (wBin .Mod (wBin .Add (wBin .Mult (wInt 2) (wName 125)) (wName 118)) (wInt 5)))) (wFrz (wCall 1451 (wAc (wBin .Add (wSub (wName 119) (wName 125)) (wName 125)) wA0)))) (callsOf T2L 40)) [] [(119, .p (.lst (il dl))), (118, .p (.int (n : Int)))] Q (rangeL 0 (c : Int)) [] := fun Q q => by
    refine compW_ind (fun v => match v with | .int z => .int ((plI n dl z.toNat : Nat) : Int) | v => v) _ [] ?_ ?_
    · intro v hv R hR
      obtain ⟨i, hi⟩ := List.getElem?_of_mem hv
      obtain ⟨hi, rfl⟩ := range_at hi
      have o := offI_rng (dl.getD i 0 + (i : Int))
      have e : (4096 : Int) + 1024 * Int.fmod (2 * (i : Int) + (n : Int)) 5 + offI (dl.getD i 0 + (i : Int)) = ((plI n dl i : Nat) : Int) := by
        rw [show Int.fmod (2 * (i : Int) + (n : Int)) 5 = (((2 * i + n) % 5 : Nat) : Int) from by
          rw [show 2 * (i : Int) + (n : Int) = ((2 * i + n : Nat) : Int) by (exact qGc (Nat.le_antisymm (qq0 [_,_] [2] 0x2600ca130065 qt) (qq0 [_,_] [2] 0x2600ca130065 qt)))]; exact fmodN _ 5]
        unfold plI
        omega
      refine And.intro (mul_l (by decide)) ?_
      refine And.intro (by decide) ?_
      refine And.intro (mul_l (by decide)) ?_
      refine And.intro (iOk (n := i) (by omega)) (Exists.intro _ (Exists.intro _ (And.intro rfl (And.intro (il_at (dl_at (show i < dl.length by omega))) ?_))))
      refine off_c (d := 39) ?_
      refine And.intro rfl ?_
      have key : ∀ z : Int, z = ((plI n dl i : Nat) : Int) → R (.int z) := by
        rintro _ rfl
        exact hR
      exact key _ e
    · rw [List.nil_append]
      have e : ((rangeL 0 (c : Int)).map fun v => match v with | .int z => PV.int ((plI n dl z.toNat : Nat) : Int) | v => v) = nv (plc (plI n dl) c) := by
        refine List.ext_getElem? fun k => ?_
        rcases Nat.lt_or_ge k c with h | h
        · have h1 : k < (rangeL 0 (c : Int)).length := by rw [range_len]; exact h
          obtain ⟨_, e1⟩ := range_at (n := c) (List.getElem?_eq_getElem h1)
          rw [List.getElem?_map, List.getElem?_eq_getElem h1, e1]
          have := nv_at (rng_map (f := plI n dl) h)
          exact this.symm
        · rw [List.getElem?_eq_none (by rw [List.length_map, range_len]; exact h), List.getElem?_eq_none (by rw [nv_len, List.length_map, List.length_range]; exact h)]
      rw [e]
      exact q
  have rl : (rangeL 0 (c : Int)).length ≤ 1000000 := by rw [range_len]; (exact qq1 [_] [1000000,5] 1 0x45 1 0x445 qt h5)
  unfold w_law_6
  rcases htl with rfl | ⟨u, rfl⟩
  · refine And.intro (rng_ok (n := c) (by (exact qq1 [_] [1,4294967296,5] 1 0x2208045 1 0x845 qt h5))) (And.intro rl ?_)
    exact st _ (key _ rfl)
  · refine And.intro (rng_ok (n := c) (by (exact qq1 [_] [1,4294967296,5] 1 0x2208045 1 0x845 qt h5))) (And.intro rl ?_)
    exact st _ (key _ rfl)
end
end VE
namespace VE
section
variable {n : Nat} {dl ns : List Int} {c : Nat} {tl : List (Nat × VV)}
noncomputable abbrev loH (ns : List Int) (n : Nat) (tl rest : List (Nat × VV)) : List (Nat × VV) := (116, .p (.raw (il ns))) :: (118, .p (.int (n : Int))) :: (tl ++ rest)
theorem s5 (htl : Tl tl) (h2 : 2 ≤ c) (h5 : c ≤ 5) (hd : 5 ≤ dl.length) (hz : dl.length ≤ 20) :
    w_law_5 (callsOf T2L 40) ⟨loH ns n tl [(119, .p (.lst (il dl))), (120, .p (.int (c : Int))), (104, .p (.int (tuI n : Nat)))], []⟩ QQ := by
  have fin := s6 (s := il ns) (n := n) htl h2 h5 hd
  have sz := sizeL
  have lt : ((il dl).take c).length = c := by rw [List.length_take, il_len]; omega
  have e : (((il dl).take c).map fun v => match v with | .int z => PV.int (valI z) | v => v) = nv ((List.range c).map (vaI dl)) := by
    refine List.ext_getElem? fun k => ?_
    rcases Nat.lt_or_ge k c with h | h
    · have h1 : pick (il dl) (k : Int) = some (.int (dl.getD k 0)) := il_at (dl_at (show k < dl.length by (exact qq3 [_,_,_] [1,5] 1 0x608045 1 0x447 1 0x1822 1 0x708045 qt h5 hd h)))
      have h1 : (il dl)[k]? = some (.int (dl.getD k 0)) := h1
      rw [List.getElem?_map, List.getElem?_take_of_lt h, h1]
      have := nv_at (rng_map (f := vaI dl) h)
      have this : (nv ((List.range c).map (vaI dl)))[k]? = _ := this
      rw [this, ← va_eq]
      rfl
    · rw [List.getElem?_eq_none (by rw [List.length_map, lt]; exact h), List.getElem?_eq_none (by rw [nv_len, List.length_map, List.length_range]; exact h)]
  have st : ∀ Q : List PV → Prop, Q (nv ((List.range c).map (vaI dl))) → compW (fun v τ q => wTN 109 (callsOf T2L 40) τ (.p v) q) ((wBin .Mod (wBin .Add (wName 109) (wBin .Mult (wInt 64) (wBin .FloorDiv (wName 109) (wInt 7)))) (wInt 256)) (callsOf T2L 40)) [] [] Q ((il dl).take c) [] := fun Q q => by
    refine compW_ind (fun v => match v with | .int z => .int (valI z) | v => v) _ [] ?_ ?_
    · intro v hv R hR
      obtain ⟨z, hz, rfl⟩ := List.mem_map.mp (List.mem_of_mem_take hv)
      refine And.intro ⟨by decide, no_pylong (by decide)⟩ ?_
      refine And.intro (mul_l (by decide)) ?_
      refine And.intro (by decide) ?_
      exact And.intro rfl hR
    · rw [List.nil_append, e]
      exact q
  unfold w_law_5
  rcases htl with rfl | ⟨u, rfl⟩
  · refine Exists.intro (il dl) (And.intro rfl (And.intro (by rw [il_len, sz]; (exact qq1 [_] [16777216,20] 1 0x45 1 0x445 qt hz)) (And.intro (by (exact qGa (qq0 [_] [0] 0x1402 qt))) ?_)))
    refine Exists.intro ((il dl).take c) (And.intro rfl (And.intro (by rw [lt]; (exact qq1 [_] [1000000,5] 1 0x45 1 0x445 qt h5)) ?_))
    exact st _ fin
  · refine Exists.intro (il dl) (And.intro rfl (And.intro (by rw [il_len, sz]; (exact qq1 [_] [16777216,20] 1 0x45 1 0x445 qt hz)) (And.intro (by (exact qGa (qq0 [_] [0] 0x1402 qt))) ?_)))
    refine Exists.intro ((il dl).take c) (And.intro rfl (And.intro (by rw [lt]; (exact qq1 [_] [1000000,5] 1 0x45 1 0x445 qt h5)) ?_))
    exact st _ fin
theorem s4 (htl : Tl tl) (h2 : 2 ≤ c) (h5 : c ≤ 5) (hd : 5 ≤ dl.length) (hz : dl.length ≤ 20) :
    w_law_4 (callsOf T2L 40) ⟨loH ns n tl [(119, .p (.lst (il dl))), (120, .p (.int (c : Int)))], []⟩ QQ := by
  have key : ∀ z, z = PV.int ((tuI n : Nat) : Int) → w_law_5 (callsOf T2L 40) ⟨loH ns n tl [(119, .p (.lst (il dl))), (120, .p (.int (c : Int))), (104, .p z)], []⟩ QQ := by
    rintro _ rfl
    exact s5 htl h2 h5 hd hz
  have e1 : Int.fmod (Int.fdiv (n : Int) 5) 4 = ((n / 5 % 4 : Nat) : Int) := by
    rw [show Int.fdiv (n : Int) 5 = ((n / 5 : Nat) : Int) from fdivN n 5]; exact fmodN _ 4
  have e2 : pick [.int 0, .int 128, .int 255, .int (Int.fmod (n : Int) 256)] (Int.fmod (Int.fdiv (n : Int) 5) 4) = some (.int ((tuI n : Nat) : Int)) := by
    rw [e1, show Int.fmod (n : Int) 256 = ((n % 256 : Nat) : Int) from fmodN n 256]
    unfold tuI
    have h : n / 5 % 4 < 4 := Nat.mod_lt _ (by decide)
    generalize n / 5 % 4 = k at h
    have e : k = 0 ∨ k = 1 ∨ k = 2 ∨ k = 3 := by omega
    rcases e with rfl | rfl | rfl | rfl <;> rfl
  have io : idxOk (Int.fmod (Int.fdiv (n : Int) 5) 4) := by
    rw [e1]; exact iOk (by (exact qq1 [_] [1,65536,4] 1 0x2208045 1 0x4208045 qt (qM _ 3)))
  unfold w_law_4
  rcases htl with rfl | ⟨u, rfl⟩
  all_goals
    refine And.intro (by decide) ?_
    refine And.intro (szL rfl) ?_
    refine And.intro ⟨by decide, no_pylong (by decide)⟩ ?_
    refine And.intro (by decide) ?_
    refine And.intro io (Exists.intro _ (Exists.intro _ (And.intro rfl (And.intro e2 ?_))))
    exact key _ rfl
noncomputable def cnI (ns : List Int) : Nat := if 2 + ns.length / 2 < 5 then 2 + ns.length / 2 else 5
theorem cn_rng : 2 ≤ cnI ns ∧ cnI ns ≤ 5 := by
  unfold cnI
  split <;> omega
theorem s3 (htl : Tl tl) (hl : ns.length ≤ 63) (hd : 5 ≤ dl.length) (hz : dl.length ≤ 20) :
    w_law_3 (callsOf T2L 40) ⟨loH ns n tl [(119, .p (.lst (il dl)))], []⟩ QQ := by
  have key : ∀ z : Int, z = ((cnI ns : Nat) : Int) → w_law_4 (callsOf T2L 40) ⟨loH ns n tl [(119, .p (.lst (il dl))), (120, .p (.int z))], []⟩ QQ := by
    rintro _ rfl
    exact s4 htl cn_rng.1 cn_rng.2 hd hz
  have e : (if (2 : Int) + Int.fdiv ((il ns).length : Int) 2 < 5 then (2 : Int) + Int.fdiv ((il ns).length : Int) 2 else 5) = ((cnI ns : Nat) : Int) := by
    rw [il_len, show Int.fdiv (ns.length : Int) 2 = ((ns.length / 2 : Nat) : Int) from fdivN _ 2]
    unfold cnI
    split <;> split <;> omega
  unfold w_law_3
  rcases htl with rfl | ⟨u, rfl⟩
  all_goals
    refine Exists.intro (il ns) (And.intro rfl (And.intro (smallN (by rw [il_len]; exact Nat.lt_of_le_of_lt hl (by decide))) ?_))
    refine And.intro ⟨by decide, no_pylong (by decide)⟩ ?_
    exact key _ e
theorem s2 (htl : Tl tl) (hl : ns.length ≤ 63) : w_law_2 (callsOf T2L 40) ⟨loH ns n tl [], []⟩ QQ := by
  have sz := sizeL
  let dl := ns.take 5 ++ (List.range 5).map fun (i : Nat) => (n : Int) + 7 * (i : Int) + 31
  have l5 : (ns.take 5).length ≤ 5 := by rw [List.length_take]; exact Nat.min_le_left _ _
  have ld : dl.length = (ns.take 5).length + 5 := by rw [List.length_append, List.length_map, List.length_range]
  have fin := s3 (n := n) (dl := dl) htl hl (by (exact qq1 [_,_] [5] 1 0x1402 1 0x508046 qt (qF ld))) (by (exact qq2 [_,_] [20,5] 1 0x45 1 0x446 1 0x1088c5 qt l5 (qE ld)))
  have e : il dl = (il ns).take 5 ++ il ((List.range 5).map fun (i : Nat) => (n : Int) + 7 * (i : Int) + 31) := by
    rw [take_il]; exact List.map_append
  rw [e] at fin
  have st : ∀ Q : List PV → Prop, Q (il ((List.range 5).map fun (i : Nat) => (n : Int) + 7 * (i : Int) + 31)) → compW (fun v τ q => wTN 125 (callsOf T2L 40) τ (.p v) q) ((wBin .Add (wBin .Add (wName 118) (wBin .Mult (wInt 7) (wName 125))) (wInt 31)) (callsOf T2L 40)) [] [(118, .p (.int (n : Int)))] Q (rangeL 0 5) [] := fun Q q => by
    refine compW_ind (fun v => match v with | .int z => .int ((n : Int) + 7 * z + 31) | v => v) _ [] ?_ ?_
    · intro v hv R hR
      obtain ⟨i, hi⟩ := List.getElem?_of_mem hv
      obtain ⟨hi, rfl⟩ := range_at (n := 5) hi
      refine And.intro (mul_l (by decide)) ?_
      exact And.intro rfl hR
    · exact q
  unfold w_law_2
  rcases htl with rfl | ⟨u, rfl⟩
  · refine Exists.intro (il ns) (And.intro rfl (And.intro (by rw [il_len, sz]; (exact qq1 [_] [16777216,63] 1 0x45 1 0x445 qt hl)) (And.intro (by decide) ?_)))
    refine And.intro (rng_ok (n := 5) (by decide)) (And.intro (by decide) ?_)
    refine st _ ?_
    refine Exists.intro _ (Exists.intro _ (And.intro rfl (And.intro rfl (And.intro ?_ fin))))
    rw [take_il, il_len, il_len, List.length_map, List.length_range, sz]
    exact Nat.le_trans (Nat.add_le_add_right l5 5) (by decide)
  · refine Exists.intro (il ns) (And.intro rfl (And.intro (by rw [il_len, sz]; (exact qq1 [_] [16777216,63] 1 0x45 1 0x445 qt hl)) (And.intro (by decide) ?_)))
    refine And.intro (rng_ok (n := 5) (by decide)) (And.intro (by decide) ?_)
    refine st _ ?_
    refine Exists.intro _ (Exists.intro _ (And.intro rfl (And.intro rfl (And.intro ?_ fin))))
    rw [take_il, il_len, il_len, List.length_map, List.length_range, sz]
    exact Nat.le_trans (Nat.add_le_add_right l5 5) (by decide)
theorem s1 (hl : ns.length ≤ 63) : w_law_1 (callsOf T2L 40) ⟨[(116, .p (.raw (il ns))), (118, .p (.int 0))], []⟩ QQ := by
  have sz := sizeL
  unfold w_law_1
  refine Exists.intro (il ns) (And.intro rfl (And.intro (by rw [il_len, sz]; (exact qq1 [_] [16777216,63] 1 0x45 1 0x445 qt hl)) (And.intro (by decide) ?_)))
  refine Exists.intro ((il ns).take 24) (And.intro rfl ?_)
  refine forW_ind (fun i τ => ∃ (n : Nat) (tl : List (Nat × VV)), Tl tl ∧ τ = ⟨loH ns n tl [], []⟩) ⟨0, [], .inl rfl, rfl⟩ ?_ ?_
  · rintro i w τ Rr hw ⟨n, tl, htl, rfl⟩ hR
    obtain ⟨z, hz, rfl⟩ := List.mem_map.mp (List.mem_of_mem_take (List.mem_of_getElem? hw))
    have r := fmod_rng (31 * (n : Int) + z) (b := 1000003) (by decide)
    have key : ∀ k : Int, 0 ≤ k → Rr ⟨(116, .p (.raw (il ns))) :: (118, .p (.int k)) :: [(109, .p (.int z))], []⟩ := fun k hk => by
      obtain ⟨m, rfl⟩ := Int.eq_ofNat_of_zero_le hk
      exact hR _ ⟨m, [(109, .p (.int z))], .inr ⟨_, rfl⟩, rfl⟩
    rcases htl with rfl | ⟨u, rfl⟩
    · refine And.intro (mul_l (by decide)) ?_
      refine And.intro (by decide) ?_
      exact And.intro rfl (key _ r.1)
    · refine And.intro (mul_l (by decide)) ?_
      refine And.intro (by decide) ?_
      exact And.intro rfl (key _ r.1)
  · rintro τ ⟨n, tl, htl, rfl⟩
    exact s2 htl hl
theorem law_ok' (ns : List Int) (hl : ns.length ≤ 63) : w_law_0 (callsOf T2L 40) ⟨[(116, .p (.raw (ns.map .int)))], []⟩ QQ := by
  unfold w_law_0
  exact s1 hl
end
end VE
namespace VE
open M6
noncomputable section
noncomputable def kAd : List Addr := [1428, 1427, 3, 1423, 1424, 1425, 29, 36, 35, 43, 42, 50, 49, 71, 70, 78, 77, 85, 84, 92, 91, 99, 98, 106, 105, 134, 133, 162, 161, 197, 196, 225, 224, 232, 231, 274, 273, 316, 315, 295, 294, 344, 343, 351, 350, 1051, 1050, 1030, 1029, 1002, 1001, 1093, 1092, 890, 889, 1240, 1239, 1373, 1372, 1184, 1183, 659, 658, 939, 938, 673, 672, 946, 945, 1198, 1197, 904, 903, 1439, 1438, 1444, 1443, 1451, 1450, 1458, 1457, 1463, 1462]
noncomputable def KK (w : World) : Frag := kAd.map fun a => (a, ((LF w)[a]?).getD default)
noncomputable def isNN : Option (Option Value) → Bool
  | some none => true
  | _ => false
noncomputable def refEq (f : Addr) (v : Value) : Bool := match v with
  | .ref a => Nat.beq f a
  | _ => false
theorem refEq_e {f : Addr} {v : Value} (h : refEq f v = true) : v = .ref f := by
  cases v with
  | ref a => rw [Nat.eq_of_beq_eq_true h]
  | _ => exact noB h
noncomputable def biEq (f : String) (v : Value) : Bool := match v with
  | .builtin y => f == y
  | _ => false
theorem biEq_e {f : String} {v : Value} (h : biEq f v = true) : v = .builtin f := by
  cases v with
  | builtin y => rw [beq_iff_eq.mp h]
  | _ => exact noB h
noncomputable def intEq (i : Int) (v : Value) : Bool := match v with
  | .int j _ => i == j
  | _ => false
theorem intEq_e {i : Int} {v : Value} (h : intEq i v = true) : ∃ t, v = .int i t := by
  cases v with
  | int j t => exact ⟨t, by rw [beq_iff_eq.mp h]⟩
  | _ => exact noB h
noncomputable def some2 (x : Option (Option Value)) (f : Value → Bool) : Bool := match x with
  | none => false
  | some y => match y with
    | none => false
    | some v => f v
theorem some2_e {x : Option (Option Value)} {f : Value → Bool} (h : some2 x f = true) : ∃ v, x = some (some v) ∧ f v = true := by
  cases x with
  | none => exact noB h
  | some y => cases y with
    | none => exact noB h
    | some v => exact ⟨v, rfl, h⟩
noncomputable def isRef (f : Addr) (x : Option (Option Value)) : Bool := some2 x (refEq f)
noncomputable def isBi (f : String) (x : Option (Option Value)) : Bool := some2 x (biEq f)
noncomputable def fldB (K : Frag) (n : Nat) : Bool := isNN (findIn K (.ref CA) (nm n)) && isNN (takerIn K CA (nm n))
noncomputable def fnB (K : Frag) (n : Nat) (f : Addr) : Bool := isRef f (findIn K (.ref CA) (nm n)) && isFn K (.ref f) && isBi "function.__get__" (specialIn K (.ref f) "__get__") && (takesIn K (.ref f) == some false) && !copiedNames.contains (nm n) && keepIn K (.ref f) && fnIn K f
noncomputable def intB (K : Frag) (n : Nat) (i : Int) : Bool := some2 (findIn K (.ref CA) (nm n)) (fun v => intEq i v && isNN (specialIn K v "__get__")) && !copiedNames.contains (nm n)
noncomputable def refB (K : Frag) (n : Nat) (a : Addr) : Bool := isRef a (findIn K (.ref CA) (nm n)) && isNN (specialIn K (.ref a) "__get__") && !copiedNames.contains (nm n)
noncomputable def valB (p : PV) (v : Value) : Bool := match p with
  | .int i => intEq i v
  | .fn a => refEq a v
  | .any => handedIn v
  | _ => false
noncomputable def valsB : List PV → List Value → Bool
  | [], [] => true
  | p :: l, v :: r => valB p v && valsB l r
  | _, _ => false
theorem valsB_rep {F : Addr → Obj → Prop} : ∀ {l : List PV} {r : List Value}, valsB l r = true → PRepL F l r := by
  intro l
  induction l with
  | nil => intro r h; cases r with
    | nil => exact .nil
    | cons _ _ => cases h
  | cons p l ih =>
    intro r h
    cases r with
    | nil => cases h
    | cons v r =>
      have h := Bool.and_eq_true_iff.mp h
      refine PRepL.cons ?_ (ih h.2)
      have h := h.1
      cases p with
      | int i => obtain ⟨t, rfl⟩ := intEq_e h; exact .int _ _ .nil
      | fn a => rw [refEq_e h]; exact .fn _ .nil
      | any => exact .any h .nil
      | _ => exact noB h
noncomputable def seqVs (o : Option Obj) : Array Value × Nat := match o with
  | some o => match o.data with
    | .seq vs k => (vs, k)
    | _ => (#[], 0)
  | none => (#[], 0)
theorem isNN_eq : ∀ {x : Option (Option Value)}, isNN x = true → x = some none
  | some none, _ => rfl
  | none, h => by cases h
  | some (some _), h => by cases h
theorem isRef_eq {f : Addr} {x : Option (Option Value)} (h : isRef f x = true) : x = some (some (.ref f)) := by
  obtain ⟨v, rfl, h⟩ := some2_e h
  rw [refEq_e h]
theorem isBi_eq {f : String} {x : Option (Option Value)} (h : isBi f x = true) : x = some (some (.builtin f)) := by
  obtain ⟨v, rfl, h⟩ := some2_e h
  rw [biEq_e h]
theorem refB_eq {K : Frag} {n : Nat} {a : Addr} (this : refB K n a = true) : ClsRef K CA (nm n) a := by
  unfold refB at this
  simp only [Bool.and_eq_true, Bool.not_eq_true'] at this
  exact ⟨isRef_eq this.1.1, isNN_eq this.1.2, this.2⟩
theorem tab_of {K : Frag} {n : Nat} {l : List PV} {a : Addr} (h1 : refB K n a = true) (h2 : K.lookup a = some ⟨.type "list", none, .seq (seqVs (K.lookup a)).1.toList.toArray (seqVs (K.lookup a)).2, #[]⟩) (h3 : valsB l (seqVs (K.lookup a)).1.toList = true) : ∃ a o ws k, TabOk K CA (nm n) l a o ws k :=
  ⟨a, _, _, _, refB_eq h1, h2, rfl, rfl, valsB_rep h3⟩
theorem map_at {α β : Type} {f g : α → β} {x : α} : ∀ {l : List α}, l.map f = l.map g → x ∈ l → f x = g x := by
  intro l
  induction l with
  | nil => intro _ hx; cases hx
  | cons a l ih =>
    intro h hx
    simp only [List.map_cons, List.cons.injEq] at h
    rcases List.mem_cons.mp hx with rfl | hx
    · exact h.1
    · exact ih h.2 hx
noncomputable abbrev ixL : List (Addr × Nat) := [(36, 15), (43, 16), (50, 17), (71, 20), (78, 21), (85, 22), (92, 23), (99, 24), (106, 25), (134, 29), (162, 33), (197, 38), (225, 42), (232, 43), (274, 49), (316, 55), (295, 52), (344, 59), (351, 60), (1051, 160), (1030, 157), (1002, 153), (1093, 166), (890, 137), (1240, 187), (1373, 206), (1184, 179), (659, 104), (939, 144), (673, 106), (946, 145), (1198, 181), (904, 139)]
noncomputable def fobj (f : Addr) (i : Nat) (dV : Value) : Obj :=
  ⟨.type "function", none, .func (fnOf (sName (cst i)) ("MPU." ++ sName (cst i)) (sArgs (cst i)) (sBody (cst i)) (sScope (cst i)) dV .none .none (.str "py65.devices.mpu6502" 194) none (.ref (f - 1)) .none), #[]⟩
noncomputable def gobj (f : Addr) (i : Nat) : Obj :=
  ⟨.type "function", none, .func (fnOf (sName (pst i)) (sName (pst i)) (sArgs (pst i)) (sBody (pst i)) (sScope (pst i)) .none .none .none (.str "law_me0006_02" 2249) none (.ref (f - 1)) .none), #[]⟩
theorem f_fld (w : World) : Z2.flds.all (fun n => fldB (KK w) n) = true := by kernel_rfl
theorem f_int (w : World) : Z2.nums.all (fun x => intB (KK w) x.1 x.2) = true := by kernel_rfl
theorem f_fn (w : World) : Z2.fns.all (fun x => fnB (KK w) x.1 x.2) = true := by kernel_rfl
theorem f_tab0 (w : World) : ∃ a o ws k, TabOk (KK w) CA (nm 30) tb0 a o ws k := tab_of (a := 1423) (by kernel_rfl) (by kernel_rfl) (by kernel_rfl)
theorem f_tab1 (w : World) : ∃ a o ws k, TabOk (KK w) CA (nm 31) tb1 a o ws k := tab_of (a := 1424) (by kernel_rfl) (by kernel_rfl) (by kernel_rfl)
theorem f_tab2 (w : World) : ∃ a o ws k, TabOk (KK w) CA (nm 32) tb2 a o ws k := tab_of (a := 1425) (by kernel_rfl) (by kernel_rfl) (by kernel_rfl)
theorem f_glob (w : World) : Z2.globs.all (fun x => isRef x.2 (nsIn (KK w) mainGlobals (nm x.1)) && keepIn (KK w) (.ref x.2)) = true := by kernel_rfl
theorem f_bi (w : World) : Z2.bis.all (fun n => isNN (nsIn (KK w) mainGlobals (nm n))) = true := by kernel_rfl
theorem f_obj (w : World) : ixL.map (fun x => (KK w).lookup x.1) = ixL.map (fun x => some (fobj x.1 x.2 (if x.1 = 36 then .ref 29 else .none))) := by kernel_rfl
theorem f_code (w : World) : ixL.all (fun x => codeIn (KK w) (.ref (x.1 - 1)) ("MPU." ++ sName (cst x.2))) = true := by kernel_rfl
theorem f_c1 (w : World) : plainGet (KK w) CA "" = true := by kernel_rfl
theorem f_c2 (w : World) : hasDictIn (KK w) CA = true := by kernel_rfl
theorem f_c3 (w : World) : findIn (KK w) (.ref CA) "__setattr__" = some (some (.builtin "object.__setattr__")) := by kernel_rfl
theorem f_c4 (w : World) : plainOver (KK w) CA = true := by kernel_rfl
theorem all_at {α : Type} {f : α → Bool} {l : List α} (h : l.all f = true) {x : α} (hx : x ∈ l) : f x = true := List.all_eq_true.mp h x hx
theorem stc_ok (w : World) : StcOk nm (KK w) CA Z2 where
  cls := ⟨f_c1 w, f_c2 w, f_c3 w, f_c4 w⟩
  fld := fun n hn => by
    have := all_at (f_fld w) hn
    unfold fldB at this
    simp only [Bool.and_eq_true] at this
    exact ⟨isNN_eq this.1, isNN_eq this.2⟩
  int := fun n i h => by
    have := all_at (f_int w) (getN_mem h)
    unfold intB at this
    simp only [Bool.and_eq_true, Bool.not_eq_true'] at this
    obtain ⟨h1, h2⟩ := this
    obtain ⟨v, e, h1⟩ := some2_e h1
    have h1 := Bool.and_eq_true_iff.mp h1
    obtain ⟨t, rfl⟩ := intEq_e h1.1
    exact ⟨⟨t, e, isNN_eq h1.2⟩, h2⟩
  fn := fun n f h => by
    have := all_at (f_fn w) h
    unfold fnB at this
    simp only [Bool.and_eq_true, Bool.not_eq_true', beq_iff_eq] at this
    obtain ⟨⟨⟨⟨⟨⟨h1, h2⟩, h3⟩, h4⟩, h5⟩, h6⟩, h7⟩ := this
    exact ⟨⟨isRef_eq h1, h2, isBi_eq h3, h4, h5, h6⟩, h7⟩
  glob := fun n f h => by
    have := Bool.and_eq_true_iff.mp (all_at (f_glob w) h)
    exact ⟨isRef_eq this.1, this.2⟩
  bi := fun n h => isNN_eq (all_at (f_bi w) h)
  tab := fun n l h => by
    have hm := getN_mem h
    change (n, l) ∈ [(30, tb0), (31, tb1), (32, tb2)] at hm
    simp only [List.mem_cons, List.not_mem_nil, or_false, Prod.mk.injEq] at hm
    rcases hm with ⟨rfl, rfl⟩ | ⟨rfl, rfl⟩ | ⟨rfl, rfl⟩
    · exact f_tab0 w
    · exact f_tab1 w
    · exact f_tab2 w
theorem f_in (w : World) : kAd.map (fun a => (HF w.params).get? a) = kAd.map (fun a => some (((LF w)[a]?).getD default)) := by kernel_rfl
theorem mem_lookup {α β : Type} [BEq α] [LawfulBEq α] {n : α} {i : β} : ∀ {l : List (α × β)}, l.lookup n = some i → (n, i) ∈ l
  | [], h => by cases h
  | (a, b) :: l, h => by
    simp only [List.lookup] at h
    cases q : n == a with
    | true => rw [q] at h; cases h; rw [beq_iff_eq.mp q]; exact .head _
    | false => rw [q] at h; exact .tail _ (mem_lookup h)
theorem kk_in {w : World} {h : Heap} (Y : ∀ b o, (HF w.params).get? b = some o → h.get? b = some o) : (KK w).In h := fun a o e => by
  have m := mem_lookup e
  unfold KK at m
  obtain ⟨b, hb, e1⟩ := List.mem_map.mp m
  cases e1
  exact Y _ _ (map_at (f_in w) hb)
/-- A function of the class, as the engine asks. -/
noncomputable def mok (sc : Scope) (ns : List Nat) : Bool :=
  (ns.all fun n => sc.names.lookup (nm n) == some .local) && decide ns.Nodup && !sc.isCoroutine && !sc.isGenerator && sc.kind == .function && sc.names.all (fun x => x.2 != .cell) && sc.names.lookup (nm Z2.topn) != some .local && Z2.tds.all (fun T => sc.names.lookup (nm T.mark) != some .local)
theorem mok_fn {G : Gl nm Z2} {f : Addr} {ns : List Nat} {name qual : Str} {params : Arguments} {body : List Stmt} {scope : Scope} {dV kV doc pm cdv ct oc : Value} {an od : Option Addr} {osl : Array (Option Value)} (ok : mok scope ns = true)
    (ho : G.K.lookup f = some ⟨oc, od, .func (fnOf name qual params body scope dV kV doc pm an cdv ct), osl⟩) (hcd : codeIn G.K cdv qual = true) : FnOk G f ns name qual params body scope dV kV doc pm cdv ct oc an od osl := by
  unfold mok at ok
  simp only [Bool.and_eq_true, List.all_eq_true, beq_iff_eq, decide_eq_true_eq, Bool.not_eq_true', bne_iff_ne] at ok
  obtain ⟨⟨⟨⟨⟨⟨⟨o1, o2⟩, o3⟩, o4⟩, o5⟩, o6⟩, o7⟩, o8⟩ := ok
  exact ⟨ho, hcd, o1, o2, o3, o4, o5, o6, o7, o8⟩
end
end VE
namespace VE
open M6
noncomputable section
theorem len2 {α : Type} {l : List α} (h : l.length = 2) : ∃ a b, l = [a, b] := by
  cases l with
  | nil => cases h
  | cons a r =>
    obtain ⟨b, rfl⟩ := List.length_eq_one_iff.mp (Nat.succ.inj h)
    exact ⟨a, b, rfl⟩
theorem obj_at (w : World) {f : Addr} {i : Nat} (h : (f, i) ∈ ixL) : (KK w).lookup f = some (fobj f i (if f = 36 then .ref 29 else .none)) := map_at (f_obj w) h
theorem code_at (w : World) {f : Addr} {i : Nat} (h : (f, i) ∈ ixL) : codeIn (KK w) (.ref (f - 1)) ("MPU." ++ sName (cst i)) = true := all_at (f_code w) h
theorem len_4 : ∀ vs : List Value, vs.length ≤ 4 → ∃ a b c d, vs = [a, b, c, d].take vs.length
  | [], _ => ⟨.none, .none, .none, .none, rfl⟩
  | [a], _ => ⟨a, .none, .none, .none, rfl⟩
  | [a, b], _ => ⟨a, b, .none, .none, rfl⟩
  | [a, b, c], _ => ⟨a, b, c, .none, rfl⟩
  | [a, b, c, d], _ => ⟨a, b, c, d, rfl⟩
  | _ :: _ :: _ :: _ :: _ :: _, h => absurd (Nat.le_of_succ_le_succ (Nat.le_of_succ_le_succ (Nat.le_of_succ_le_succ (Nat.le_of_succ_le_succ h)))) (Nat.not_succ_le_zero _)
section
variable {G : Gl nm Z2} {w : World} (hK : G.K = KK w)
include hK
omit hK in
theorem l_c : lamD.tab.c = 84 := by kernel_rfl
omit hK in
theorem l_cn : "MPU." ++ sName (cst 22) = lamD.tab.cn := by kernel_rfl
theorem d_WrapAt (hL : G.lam = lamD) : DefOk G 85 [0, 75] w_WrapAt := by
  have ho := obj_at w (f := 85) (i := 22) (getN_mem rfl)
  rw [if_neg (by decide), ← hK] at ho
  have hc := code_at w (f := 85) (i := 22) (getN_mem rfl)
  rw [← hK] at hc
  have ec : G.lam.tab.c = 84 := by rw [hL]; exact l_c
  have ef : G.lam.fv = 0 := by rw [hL]; rfl
  have D : LfnOk G 85 75 (sName (cst 22)) ("MPU." ++ sName (cst 22)) (sArgs (cst 22)) (sBody (cst 22)) (sScope (cst 22)) .none .none .none (.str "py65.devices.mpu6502" 194) .none (.type "function") none none #[] :=
    { ho := by rw [ec]; exact ho
      hcd := by rw [ec]; exact hc
      hq := by rw [hL]; exact l_cn
      hsf := by rw [ef]; kernel_rfl
      had := by kernel_rfl
      hcells := by rw [ef]; intro n; kernel_rfl
      hco := by kernel_rfl
      hgen := by kernel_rfl
      hk := by kernel_rfl
      htop := ne_of_lk (by kernel_rfl)
      hmark := fun T hT e => by
        rw [hL]
        cases hT with
        | head => rfl
        | tail _ hT =>
          cases hT with
          | head => exact absurd e (ne_of_lk (by kernel_rfl))
          | tail _ hT => cases hT }
  have := DefOk.lam D (s_WrapAt hL) (fun u v => by rw [ec, ef]; kernel_rfl)
  rw [ef] at this
  exact this
omit hK in
theorem tab_def {fd : Nat → FuncData} {sc : Nat → Scope} {bo : Nat → List Stmt} {nm' ql : Nat → Str} {ar : Nat → Arguments} {pm : Value} {T : Defs}
    (hfd : ∀ f, fd f = fnOf (nm' f) (ql f) (ar f) (bo f) (sc f) .none .none .none pm none (.ref (f - 1)) .none)
    (ho : T.map (fun p => G.K.lookup p.1) = T.map (fun p => some ⟨.type "function", none, .func (fd p.1), #[]⟩)) (hc : T.all (fun p => codeIn G.K (.ref (p.1 - 1)) (ql p.1)) = true)
    (ok : T.all (fun p => mok (sc p.1) p.2.1 && Nat.ble p.2.1.length 4) = true)
    (hb : T.map (fun p => ((cc G (sc p.1) IX [31, 49, 262, 351] 60).b (bo p.1)).map (·.1)) = T.map (fun p => some p.2.2))
    (bd : ∀ a b c d : Value, T.map (fun p => bindArgs (fd p.1) ⟨[a, b, c, d].take p.2.1.length, []⟩) = T.map (fun p => pure ((p.2.1.map nm).zip ([a, b, c, d].take p.2.1.length)))) : ∀ p ∈ T, DefOk G p.1 p.2.1 p.2.2 := fun p hp => by
  have h1 := map_at ho hp
  have h2 := all_at hc hp
  have h3 := Bool.and_eq_true_iff.mp (all_at ok hp)
  have h4 := map_at hb hp
  rw [hfd] at h1
  refine .mk (mok_fn h3.1 h1 h2) (SB_by h4) fun vs s hl => ?_
  obtain ⟨a, b, c, d, e⟩ := len_4 vs (hl ▸ Nat.le_of_ble_eq_true h3.2)
  have h5 := map_at (bd a b c d) hp
  rw [hfd, ← hl, ← e] at h5
  exact BindsTo.of_eq h5
noncomputable abbrev gi (f : Nat) : Nat := (getN f ixL).getD 0
noncomputable abbrev T2x : Defs := T2.take 4 ++ T2.drop 5
theorem defs7 (hL : G.lam = lamD) : ∀ p ∈ T2, DefOk G p.1 p.2.1 p.2.2 := by
  have D : ∀ p ∈ T2x, DefOk G p.1 p.2.1 p.2.2 := tab_def (fd := fun f => fnOf (sName (cst (gi f))) ("MPU." ++ sName (cst (gi f))) (sArgs (cst (gi f))) (sBody (cst (gi f))) (sScope (cst (gi f))) .none .none .none (.str "py65.devices.mpu6502" 194) none (.ref (f - 1)) .none) (fun _ => rfl) (by rw [hK]; kernel_rfl) (by rw [hK]; kernel_rfl) (by kernel_rfl) (by kernel_rfl) (fun a b c d => by kernel_rfl)
  intro p hp
  have e : T2 = T2.take 4 ++ (85, [0, 75], w_WrapAt) :: T2.drop 5 := by kernel_rfl
  rw [e] at hp
  rcases List.mem_append.mp hp with h | h
  · exact D p (List.mem_append_left _ h)
  · cases h with
    | head => exact d_WrapAt hK hL
    | tail _ h => exact D p (List.mem_append_right _ h)
omit hK in
theorem g_fn {f i : Nat} {ns : List Nat} {w' : WX} (ho : G.K.lookup f = some (gobj f i)) (hc : codeIn G.K (.ref (f - 1)) (sName (pst i)) = true) (ok : mok (sScope (pst i)) ns = true) (hb : SB G (sScope (pst i)) (sBody (pst i)) w')
    (bd : ∀ vs s, vs.length = ns.length → BindsTo s (fnOf (sName (pst i)) (sName (pst i)) (sArgs (pst i)) (sBody (pst i)) (sScope (pst i)) .none .none .none (.str "law_me0006_02" 2249) none (.ref (f - 1)) .none) ⟨vs, []⟩ ((ns.map nm).zip vs)) : DefOk G f ns w' := .mk (mok_fn ok ho hc) hb bd
omit hK in
theorem len1 {α : Type} {l : List α} (h : l.length = 1) : ∃ a, l = [a] := List.length_eq_one_iff.mp h
theorem d_word : DefOk G 1439 [102] w__law_word := by
  refine g_fn (i := 4) ?_ ?_ ?_ ?_ ?_
  · rw [hK]; kernel_rfl
  · rw [hK]; kernel_rfl
  · kernel_rfl
  · exact @s__law_word G
  · intro vs s h
    obtain ⟨a, rfl⟩ := len1 h
    exact BindsTo.of_eq (by kernel_rfl)
theorem d_offset : DefOk G 1451 [109] w__law_offset := by
  refine g_fn (i := 6) ?_ ?_ ?_ ?_ ?_
  · rw [hK]; kernel_rfl
  · rw [hK]; kernel_rfl
  · kernel_rfl
  · exact @s__law_offset G
  · intro vs s h
    obtain ⟨a, rfl⟩ := len1 h
    exact BindsTo.of_eq (by kernel_rfl)
theorem d_program : DefOk G 1458 [104, 111] w__law_program := by
  refine g_fn (i := 7) ?_ ?_ ?_ ?_ ?_
  · rw [hK]; kernel_rfl
  · rw [hK]; kernel_rfl
  · kernel_rfl
  · exact @s__law_program G
  · intro vs s h
    obtain ⟨a, b, rfl⟩ := len2 h
    exact BindsTo.of_eq (by kernel_rfl)
theorem d_key : DefOk G 1444 [79, 104] w__law_key := by
  have D : CfnOk G 1444 79 104 (sName (pst 5)) (sName (pst 5)) (sArgs (pst 5)) (sBody (pst 5)) (sScope (pst 5)) .none .none .none (.str "law_me0006_02" 2249) (.ref 1443) .none (.type "function") none none #[] :=
    { ho := by rw [hK]; kernel_rfl
      hcd := by rw [hK]; kernel_rfl
      hne := by decide
      hs0 := by kernel_rfl
      hs1 := by kernel_rfl
      hcells := fun n => by kernel_rfl
      hco := by kernel_rfl
      hgen := by kernel_rfl
      hk := by kernel_rfl
      htop := ne_of_lk (by kernel_rfl)
      hmark := fun T hT => by
        have h : (Z2.tds.all fun T => (sScope (pst 5)).names.lookup (nm T.mark) != some .local) = true := by kernel_rfl
        exact bne_iff_ne.mp (List.all_eq_true.mp h T hT) }
  refine DefOk.cells D ?_ ?_
  · exact @s__law_key G
  · exact fun u v => by kernel_rfl
theorem defsL (hL : G.lam = lamD) : ∀ p ∈ T2L, DefOk G p.1 p.2.1 p.2.2 := by
  unfold T2L
  refine List.forall_mem_cons.mpr ⟨d_word hK, ?_⟩
  refine List.forall_mem_cons.mpr ⟨d_key hK, ?_⟩
  refine List.forall_mem_cons.mpr ⟨d_offset hK, ?_⟩
  refine List.forall_mem_cons.mpr ⟨d_program hK, ?_⟩
  exact defs7 hK hL
theorem k_dflt : ∃ o t n, (KK w).lookup 29 = some o ∧ o.data = .seq #[.none, .int 0 t] n := by
  have h2 : (KK w).lookup 29 = some ⟨.type "tuple", none, .seq (seqVs ((KK w).lookup 29)).1.toList.toArray (seqVs ((KK w).lookup 29)).2, #[]⟩ := by kernel_rfl
  have h3 : (seqVs ((KK w).lookup 29)).1.toList = [.none, (seqVs ((KK w).lookup 29)).1.getD 1 .none] := by kernel_rfl
  obtain ⟨t, e⟩ := intEq_e (i := 0) (v := (seqVs ((KK w).lookup 29)).1.getD 1 .none) (by kernel_rfl)
  rw [h3, e] at h2
  exact ⟨_, t, _, h2, rfl⟩
theorem init_ok (hC : G.C = CA) : InitOk G where
  D := mok_fn (by kernel_rfl) (by rw [hK]; exact obj_at w (f := 36) (i := 15) (getN_mem rfl)) (by rw [hK]; exact code_at w (f := 36) (i := 15) (getN_mem rfl))
  O := ⟨by rw [hK, hC]; kernel_rfl, by rw [hK, hC]; kernel_rfl⟩
  i := by rw [hK, hC]; kernel_rfl
  f := by rw [hK]; kernel_rfl
  g := by rw [hK, hC]; kernel_rfl
  b := fun s v vs hk hv => by
    obtain ⟨o29, t29, n29, d1, d2⟩ := k_dflt hK
    rw [hK] at hk
    obtain ⟨a, b, rfl⟩ := len2 (Nat.succ.inj hv)
    exact BindsTo.of_defaults rfl (hk _ _ d1) d2 rfl rfl
end
theorem prom : RL.row.toRowW.promised := by w_witness2
/-- The plain claim. -/
noncomputable def LawOk : Prop := ∀ ns : List Int, ns.length ≤ 63 → w_law_0 (callsOf T2L 40) ⟨[(116, .p (.raw (ns.map .int)))], []⟩ fun fl _ => fl = .ret (.p (.bool true))
end
end VE
namespace VE
open M6
noncomputable section
theorem cells_is (L : Addr) : cellsFrom (L + 1) dL.scope.names [] = [(nm 121, L + 1 + 1 + 1 + 1), (nm 104, L + 1 + 1 + 1), (nm 119, L + 1 + 1), (nm 118, L + 1)] := by kernel_rfl
theorem cells_fil : (dL.scope.names.filter fun y => y.2 == .cell).map (·.1) = [nm 118, nm 119, nm 104, nm 121] := by kernel_rfl
noncomputable abbrev lawCv (L : Addr) : List (Nat × Addr) := [(121, L + 1 + 1 + 1 + 1), (104, L + 1 + 1 + 1), (119, L + 1 + 1), (118, L + 1)]
theorem cells_in (n : Nat) (h : dL.scope.names.lookup (nm n) = some .cell) : n ∈ [121, 104, 119, 118] := by
  have h1 : nm n ∈ (dL.scope.names.filter fun y => y.2 == .cell).map (·.1) := List.mem_map.mpr ⟨(nm n, .cell), List.mem_filter.mpr ⟨PySem.mem_of_lookup h, rfl⟩, rfl⟩
  rw [cells_fil] at h1
  have h2 : nm n ∈ [118, 119, 104, 121].map nm := h1
  obtain ⟨m, hm, e⟩ := List.mem_map.mp h2
  rw [← nm_ok.inj _ _ e]
  clear e h1 h2 h
  revert m
  decide
theorem k_cells : ([121, 104, 119, 118].all fun k => dL.scope.names.lookup (nm k) == some .cell) = true := by kernel_rfl
theorem k_l : dL.scope.names.lookup (nm 116) = some .local := by kernel_rfl
theorem k_top : dL.scope.names.lookup (nm Z2.topn) = some .local := by kernel_rfl
theorem kk_tabs (w : World) : noTabs (KK w) = true := by kernel_rfl
theorem CR.of_cells {N : Nat → Str} {Z : Stc} {G : Gl N Z} {W : Wd} {loc : List (Nat × VV)} {cm : Str → Option Value} : ∀ {cv : List (Nat × Addr)} {cells : List (Addr × Obj)}, CellsAre cm (cv.map fun p => (N p.1, p.2)) cells → (∀ p ∈ cv, getN p.1 loc = none) → CR G W loc cv cells := by
  intro cv
  induction cv with
  | nil => intro cells h _; cases h; exact .nil
  | cons p cv ih =>
    intro cells h k
    cases h with
    | cons d r => exact .cons d (fun v e => by rw [k p (.head _)] at e; cases e) (ih r fun q hq => k q (.tail _ hq))
theorem lookup_cv {N : Nat → Str} (hN : ∀ i j, N i = N j → i = j) : ∀ {cv : List (Nat × Addr)}, (cv.map (·.1)).Nodup → ∀ {k : Nat} {c : Addr}, (k, c) ∈ cv → (cv.map fun p => (N p.1, p.2)).lookup (N k) = some c := by
  intro cv
  induction cv with
  | nil => intro _ k c h; cases h
  | cons p cv ih =>
    intro nd k c h
    rw [List.map_cons, List.nodup_cons] at nd
    rw [List.map_cons, List.lookup_cons]
    rcases List.mem_cons.mp h with rfl | h
    · simp
    · have : (N k == N p.1) = false := beq_eq_false_iff_ne.mpr fun e => nd.1 (by rw [← hN _ _ e]; exact List.mem_map_of_mem h)
      rw [this]
      exact ih nd.2 h
theorem nd6 (n : Nat) (h : 1460 < n) : ([80, 1460, n + 1 + 1 + 1 + 1, n + 1 + 1 + 1, n + 1 + 1, n + 1] : List Nat).Nodup := by
  have a : [80, 1460].Nodup := by decide
  have b : [n + 1 + 1 + 1 + 1, n + 1 + 1 + 1, n + 1 + 1, n + 1].Pairwise (· > ·) := List.pairwise_cons.mpr ⟨fun z hz => Nat.lt_of_lt_of_le (by
    have hz : z ∈ [n + 1 + 1 + 1, n + 1 + 1, n + 1] := hz
    exact Nat.lt_succ_of_le ((List.mem_cons.mp hz).elim (fun e => Nat.le_of_eq e) fun hz => (List.mem_cons.mp hz).elim (fun e => e ▸ Nat.le_succ _) fun hz => List.mem_singleton.mp hz ▸ Nat.le_succ_of_le (Nat.le_succ _))) (Nat.le_refl _), List.pairwise_cons.mpr ⟨fun z hz => Nat.lt_succ_of_le ((List.mem_cons.mp hz).elim (fun e => Nat.le_of_eq e) fun hz => List.mem_singleton.mp hz ▸ Nat.le_succ _), List.pairwise_cons.mpr ⟨fun z hz => List.mem_singleton.mp hz ▸ Nat.lt_succ_self _, List.pairwise_singleton _ _⟩⟩⟩
  refine (List.nodup_append (l₁ := [80, 1460])).mpr ⟨a, b.imp Nat.ne_of_gt, fun x hx y hy e => ?_⟩
  have hy : n < y := by
    rcases List.mem_cons.mp hy with rfl | hy
    · exact Nat.lt_succ_of_lt (Nat.lt_succ_of_lt (Nat.lt_succ_of_lt (Nat.lt_succ_self n)))
    · rcases List.mem_cons.mp hy with rfl | hy
      · exact Nat.lt_succ_of_lt (Nat.lt_succ_of_lt (Nat.lt_succ_self n))
      · rcases List.mem_cons.mp hy with rfl | hy
        · exact Nat.lt_succ_of_lt (Nat.lt_succ_self n)
        · rw [List.mem_singleton.mp hy]; exact Nat.lt_succ_self n
  have hx : x ≤ 1460 := by
    rcases List.mem_cons.mp hx with rfl | hx
    · decide
    · rw [List.mem_singleton.mp hx]; exact Nat.le_refl _
  rw [e] at hx
  exact Nat.lt_irrefl _ (Nat.lt_of_lt_of_le (Nat.lt_trans h hy) hx)
noncomputable def isStrV (v : Value) : Bool := match v with
  | .str _ _ => true
  | _ => false
theorem isStrV_e {v : Value} (h : isStrV v = true) : ∃ f t, v = .str f t := by
  cases v with
  | str f t => exact ⟨f, t, rfl⟩
  | _ => exact noB h
noncomputable def isIntV (v : Value) : Bool := match v with
  | .int _ _ => true
  | _ => false
theorem isIntV_e {v : Value} (h : isIntV v = true) : ∃ i t, v = .int i t := by
  cases v with
  | int i t => exact ⟨i, t, rfl⟩
  | _ => exact noB h
noncomputable def isBoolV (v : Value) : Bool := match v with
  | .bool _ => true
  | _ => false
theorem isBoolV_e {v : Value} (h : isBoolV v = true) : ∃ b, v = .bool b := by
  cases v with
  | bool b => exact ⟨b, rfl⟩
  | _ => exact noB h
noncomputable def fldVs (o : Option Obj) : Array Value := match o with
  | some o => match o.data with
    | .fields vs => vs
    | _ => #[]
  | none => #[]
theorem codeX_hd {w : World} {h : Heap} {c P : Addr} (X : (KK w).In h) (h1 : (KK w).lookup c = some ⟨.type "code", none, .fields (fldVs ((KK w).lookup c)), #[]⟩) (h2 : (fldVs ((KK w).lookup c))[11]? = some (.ref P)) (hne : c ≠ P)
    (h3 : (isStrV ((fldVs ((KK w).lookup c)).getD 18 .none) && isIntV ((fldVs ((KK w).lookup c)).getD 7 .none) && isBoolV ((fldVs ((KK w).lookup c)).getD 9 .none) && isIntV ((fldVs ((KK w).lookup c)).getD 10 .none)) = true) : CodeHd h c P := by
  have a := Bool.and_eq_true_iff.mp h3
  have b := Bool.and_eq_true_iff.mp a.1
  have c' := Bool.and_eq_true_iff.mp b.1
  obtain ⟨f, tf, h18⟩ := isStrV_e c'.1
  obtain ⟨fl, tg, h7⟩ := isIntV_e c'.2
  obtain ⟨bo, h9⟩ := isBoolV_e b.2
  obtain ⟨n, tt, h10⟩ := isIntV_e a.2
  exact ⟨_, _, f, tf, fl, tg, bo, n, tt, X _ _ h1, rfl, rfl, h2, by rw [Array.getD_eq_getD_getElem?, h2]; rfl, h18, h7, h9, h10, hne⟩
noncomputable abbrev tabs2 : List (Addr × Addr) := [(ltab.c, ltab.P), (ltab2.c, ltab2.P)]
theorem tabs_is : tabs2 = [(84, 80), (1462, 1460)] := by kernel_rfl
theorem hf_80 (w : World) : (HF w.params).get? 80 = some (tabObj #[]) := by kernel_rfl
theorem hf_1460 (w : World) : (HF w.params).get? 1460 = some (tabObj #[]) := by kernel_rfl
theorem tabs_at {w : World} {h : Heap} (Y : ∀ b o, (HF w.params).get? b = some o → h.get? b = some o) : TabsAt tabs2 h := fun q hq => by
  rw [tabs_is] at hq
  rcases List.mem_cons.mp hq with rfl | hq
  · exact ⟨codeX_hd (kk_in Y) (by kernel_rfl) (by kernel_rfl) (by decide) (by kernel_rfl), Y _ _ (hf_80 w)⟩
  · rw [List.mem_singleton.mp hq]
    exact ⟨codeX_hd (kk_in Y) (by kernel_rfl) (by kernel_rfl) (by decide) (by kernel_rfl), Y _ _ (hf_1460 w)⟩
theorem law_glob (w : World) : nsIn (KK w) mainGlobals dL.name = some (some (.ref 1463)) := isRef_eq (by kernel_rfl)
theorem law_obj (w : World) : (KK w).lookup 1463 = some (gobj 1463 8) := by kernel_rfl
theorem cd_of {d : Data} {f g : FuncData} (h1 : d = .func f) (h2 : d = .func g) : f.code = g.code := by
  rw [h1] at h2
  cases h2
  rfl
theorem hT1L {G : Gl nm Z2} {w : World} (hK : G.K = KK w) (hL : G.lam = lamD) : ∀ f ns b, getN f T2L = some (ns, b) → DefOk G f ns b := fun f ns b h => defsL hK hL (f, ns, b) (getN_mem h)
set_option maxHeartbeats 4000000 in
theorem walk_of (H : LawOk) : WalkO qq loo (fun _ _ => True) YP RL.row.toRowW dL [] fun f vs => PySem.call f vs := by
  w_on
  intro w s₀ s₁ mg mb G Y fa o pm cd doc dV kV ho hd hcd hD hmg hg args vals as hpre hlay hrd hwl hlo
  refine Ground.open G ?_
  intro T B D TE TW
  have efa : fa = 1463 := by
    have := mg_of (kk_in Y) T.g (law_glob w)
    rw [hmg] at this
    cases this
    rfl
  have ecd : cd = .ref 1462 := by
    have h1 := kk_in Y _ _ (law_obj w)
    rw [← efa, ho] at h1
    have h2 : o.data = (gobj 1463 8).data := by rw [Option.some.inj h1, efa]
    exact cd_of hd h2
  wrow_args hpre hlay hrd hwl hlo
  rename_i ns _ _ _ _ _ _ _ y vs _ hL _ _ _ hI _ hcond _
  refine enter_call ?_
  w_top on
  have hTb : TabsAt tabs2 s₁.heap := tabs_at Y
  refine kn_post hTb (fun _ _ => rfl) ?_
  have he := Dflts.none hD rfl; subst he
  have hlen : ns.length ≤ 63 := by (exact qq1 [_] [63] 1 0x45 1 0x45 qt (qIe hcond))
  refine codeAny_call_cells (binds := [(nm 116, .ref y)]) (by decide) ho hd (Top.nolimit T) hcd rfl (by kernel_rfl) rfl (fun x hx => ?_) (fun s₂ X => ?_) rfl rfl (by kernel_rfl)
  · cases hx with
    | head => exact .inl k_l
    | tail _ hx => cases hx
  obtain ⟨h₁, tk, rfl, _⟩ := X.done
  have hcds := ghost_code hTb
  let g : Gl nm Z2 := ⟨nm_ok, RL.row.prog, w, KK w, topProg, looseW qq loo ++ (recsOf qq).map (·.name) ++ (litsOf qq).map (·.1) ++ (clssOf qq (looseW qq loo)).map (·.name), ExcName.means s₀.heap, mg, mb, s₁.os, ghostOf s₁.heap tabs2, CA, ghost_K hTb (kk_in Y) (kk_tabs w), stc_ok w, lamD, fun D hD => by
    rcases List.mem_cons.mp hD with rfl | hD
    · exact hcds.1
    · rw [List.mem_singleton.mp hD]
      exact hcds.2.1⟩
  let env : Env := { scope := dL.scope, locals := s₁.heap.objs.size, globals := mainGlobals, cells := cellsFrom (s₁.heap.objs.size + 1) dL.scope.names [], qual := dL.name ++ ".<locals>.", func := some fa, code := cd, frame := some s₁.heap.objs.size, builtins := builtinsNs }
  have htb : ∀ D ∈ Z2.tds, dL.scope.names.lookup (nm D.mark) = some .local → ∃ a, some fa = some a ∧ cd = .ref D.c ∧ some s₁.heap.objs.size = some s₁.heap.objs.size ∧ dL.name ++ ".<locals>." = D.cn ++ ".<locals>." := fun D hD e => by
    rcases List.mem_cons.mp hD with rfl | hD
    · exact absurd e (ne_of_lk (by kernel_rfl))
    · rw [List.mem_singleton.mp hD]
      exact ⟨fa, rfl, by rw [ecd]; rfl, rfl, rfl⟩
  let Φ : Cx g dL.scope := { A := callerA.deeper env, h₀ := ghostOf s₁.heap tabs2, L := s₁.heap.objs.size, cells := cellsFrom (s₁.heap.objs.size + 1) dL.scope.names [], qual := dL.name ++ ".<locals>.", func := some fa, code := cd, frame := some s₁.heap.objs.size, cv := lawCv s₁.heap.objs.size, X := fun _ _ e => e, T := ghost_top hTb T, kind := by kernel_rfl, hh := rfl, un := (by decide : callerA.units + 3 ≤ 3 * (callerA.depth + 1) + 4), dp := (by decide : callerA.depth + 1 ≤ 1000), cvnd := (by decide : [121, 104, 119, 118].Nodup), lowd := fun _ => ⟨(by decide : callerA.depth + 1 ≤ 400), (by decide : callerA.units + 3 ≤ 3 * (callerA.depth + 1))⟩, cvin := fun _ n e => cells_in n e, tb := htb, tbc := fun D hD e h => absurd k_top h, tbd := fun D hD e => (by decide : callerA.depth + 1 ≤ 997) }
  have F0 : Fr s₁.heap s₁.heap.objs.size h₁ _ := ⟨X.toInCall.ns, X.toInCall.keep, X.toInCall.fresh⟩
  have ecl := cells_is s₁.heap.objs.size
  obtain ⟨cells, N0, CA'⟩ := Cl.news (h₀ := s₁.heap) (h := h₁) (L := s₁.heap.objs.size) (Nat.le_refl _) (cs := (lawCv s₁.heap.objs.size).map fun p => (nm p.1, p.2)) (cm := bindC env.kindOf [(nm 116, .ref y)] fun _ => none) (fun n c hm => by
    have hl : (cellsFrom (s₁.heap.objs.size + 1) dL.scope.names []).lookup n = some c := by
      obtain ⟨p, hp, e⟩ := List.mem_map.mp hm
      cases e
      rw [ecl]
      exact lookup_cv (cv := lawCv s₁.heap.objs.size) nm_ok.inj (by decide : [121, 104, 119, 118].Nodup) hp
    refine ⟨X.cell n c hl, X.above n c ?_⟩
    show (n, c) ∈ cellsFrom (s₁.heap.objs.size + 1) dL.scope.names []
    rw [ecl]
    exact hm)
  have S : SimX Φ ⟨[], []⟩ ⟨[(116, .p (.raw (ns.map .int)))], []⟩ [] { s₁ with heap := h₁, toks := tk } := by
    have Nc : News (ghostOf s₁.heap tabs2) s₁.heap.objs.size h₁ (cells ++ tabNews tabs2) := ghost_news hTb F0 N0
    have keys : cells.map (·.1) = [s₁.heap.objs.size + 1 + 1 + 1 + 1, s₁.heap.objs.size + 1 + 1 + 1, s₁.heap.objs.size + 1 + 1, s₁.heap.objs.size + 1] := by
      clear N0 Nc
      cases CA' with
      | cons _ r => cases r with
        | cons _ r => cases r with
          | cons _ r => cases r with
            | cons _ r => cases r; rfl
    have lt1 : 80 < s₁.heap.objs.size := Heap.lt_size (hTb (84, 80) (by rw [tabs_is]; exact .head _)).2
    have lt2 : 1460 < s₁.heap.objs.size := Heap.lt_size (hTb (1462, 1460) (by rw [tabs_is]; exact .tail _ (.head _))).2
    refine ⟨_, tabNews tabs2, cells, ghost_fr hTb F0, fun p hp => ?_, ?_, .nil (.cons (.no ?_ ?_) (.cons (.no ?_ ?_) .nil)), ?_, ?_, ?_, rfl, hg⟩
    · have hp : p ∈ tabNews tabs2 ++ (cells ++ []) := hp
      rw [List.append_nil] at hp
      exact Nc p ((List.mem_append.mp hp).elim (List.mem_append_right _) (List.mem_append_left _))
    · show ((tabNews tabs2 ++ (cells ++ [])).map (fun p : Addr × Obj => p.1)).Nodup
      rw [List.append_nil, List.map_append, keys, show (tabNews tabs2).map (fun p : Addr × Obj => p.1) = [80, 1460] by kernel_rfl]
      exact nd6 _ lt2
    · trivial
    · rfl
    · trivial
    · rfl
    · exact CR.of_cells CA' (fun p hp => by
        have : p.1 ∈ [121, 104, 119, 118] := List.mem_map_of_mem (f := (·.1)) hp
        have ne : p.1 ≠ 116 := (by decide : ∀ k ∈ [121, 104, 119, 118], k ≠ 116) _ this
        simp only [getN, nbeq.mpr ne])
    · intro k v e
      simp only [getN] at e
      cases hk : Nat.beq k 116 with
      | false => rw [hk] at e; cases e
      | true =>
        rw [hk] at e
        have := Nat.eq_of_beq_eq_true hk
        subst this
        cases e
        obtain ⟨oy, h1, h2, n, h3⟩ := hL
        refine .loc (.ref y) k_l ?_ (.p (.raw (.inr (ghost_get hTb h1 ?_)) h2 h3 (PRepL.of_ints hI) .nil))
        · show bindL _ [(nm 116, Value.ref y)] _ (nm 116) = _
          have k2 : (callEnvC { docDef dL.name dL.params dL.body dL.scope pm cd doc with defaults := Value.none, kwdefaults := kV } s₁.heap.objs.size fa).kindOf (nm 116) = some .local := k_l
          simp only [bindL, k2, if_true]
        · rintro rfl
          cases h2
    · intro k c hm
      have hm : (k, c) ∈ lawCv s₁.heap.objs.size := hm
      refine ⟨.inl (beq_iff_eq.mp (List.all_eq_true.mp k_cells k (List.mem_map_of_mem (f := (·.1)) hm))), ?_⟩
      show (cellsFrom (s₁.heap.objs.size + 1) dL.scope.names []).lookup (nm k) = _
      rw [ecl]
      exact lookup_cv (cv := lawCv s₁.heap.objs.size) nm_ok.inj (by decide : [121, 104, 119, 118].Nodup) hm
  have key := s_law_0 (G := g) (hT1L rfl rfl) (init_ok rfl rfl) Φ (callsOf T2L 40) (callsOk (hT1L rfl rfl) 40 _ (by show callerA.depth + 1 + 3 + 4 * 40 < 1000; decide)) _ _ [] _ _ S (H ns hlen)
  refine wpAny_mono key (fun f s' y => ?_) fun _ _ x => x.elim
  obtain ⟨W', a, τ', le, r, S', q⟩ := y
  subst q
  cases r with
  | ret r =>
    cases r with
    | p r =>
      cases r
      obtain ⟨m', n1, n2, F', Nw', nd', H', C', L', cv', o', g'⟩ := S'
      obtain ⟨pre, tn, rfl, ta, _⟩ := H'.tabs
      have gr : ∀ T ∈ Z2.tds, GrownAt T.P s'.heap := fun T hT => by
        obtain ⟨pre', ps, post, rfl, _, _⟩ := ta.at hT
        exact GrownAt.of (ps := ps) Nw' (List.mem_append_right [] (List.mem_append_left _ (List.mem_append_right _ (List.mem_append_right _ (.head _)))))
      exact ⟨goodW_bool F' g' (fun cls => rfl) (by kernel_rfl) o', gr _ (.head _), gr _ (.tail _ (.head _)), trivial⟩
theorem claim_of (H : LawOk) : RL.Holds := holds_of_walk prom (walk_of H)
end
end VE
namespace VE
open M6
theorem law_ok : LawOk := fun ns hn => law_ok' ns hn
theorem holds02 : RL.Holds := claim_of law_ok
end VE
theorem PySem.Challenge.cw_me0006_02_holds : PySem.Challenge.rw_me0006_02.Holds :=
  VE.holds02
