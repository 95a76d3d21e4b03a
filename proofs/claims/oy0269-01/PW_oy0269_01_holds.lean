import PyProof.Rows.All
import Wide.All
import OpenK.AllK
import Wide.FinOn
import PySem.Challenge.RW_oy0269_01
open PySem PySem.W PyProof.Rows PySem.Calls
set_option Elab.async false
set_option compiler.extract_closed false
set_option linter.all false
set_option maxRecDepth 100000
set_option maxHeartbeats 8000000
namespace Mine
section
/-- sums of naturals, written out -/
inductive Lx
  | v (i : Nat)
  | k (n : Nat)
  | a (x y : Lx)
  | m (c : Nat) (x : Lx)
noncomputable def Lx.den (N : List Nat) : Lx → Nat
  | .v i => N.getD i 0
  | .k n => n
  | .a x y => x.den N + y.den N
  | .m c x => c * x.den N
/-- sums of ints, written out -/
inductive Ix
  | v (i : Nat)
  | k (n : Int)
  | a (x y : Ix)
  | s (x y : Ix)
  | m (c : Int) (x : Ix)
  | g (x : Ix)
  | n (x : Lx)
noncomputable def Ix.den (N : List Nat) (I : List Int) : Ix → Int
  | .v i => I.getD i 0
  | .k z => z
  | .a x y => x.den N I + y.den N I
  | .s x y => x.den N I - y.den N I
  | .m c x => c * x.den N I
  | .g x => - x.den N I
  | .n x => (x.den N : Int)
/-- a fact: the one at most the other -/
inductive Fx
  | n (x y : Lx)
  | i (x y : Ix)
noncomputable def Fx.den (N : List Nat) (I : List Int) : Fx → Prop
  | .n x y => x.den N ≤ y.den N
  | .i x y => x.den N I ≤ y.den N I
noncomputable def dot : List Int → List Int → Int
  | a :: as, x :: xs => a * x + dot as xs
  | _, _ => 0
noncomputable def addL : List Int → List Int → List Int
  | a :: as, b :: bs => (a + b) :: addL as bs
  | [], bs => bs
  | as, [] => as
noncomputable def unitL : Nat → List Int
  | 0 => [1]
  | n + 1 => 0 :: unitL n
structure Pl where
  n : List Int
  i : List Int
  c : Int
noncomputable def Pl.add (p q : Pl) : Pl := ⟨addL p.n q.n, addL p.i q.i, p.c + q.c⟩
noncomputable def Pl.mul (k : Int) (p : Pl) : Pl := ⟨p.n.map (k * ·), p.i.map (k * ·), k * p.c⟩
noncomputable def Lx.pl : Lx → Pl
  | .v i => ⟨unitL i, [], 0⟩
  | .k n => ⟨[], [], n⟩
  | .a x y => x.pl.add y.pl
  | .m c x => x.pl.mul c
noncomputable def Ix.pl : Ix → Pl
  | .v i => ⟨[], unitL i, 0⟩
  | .k z => ⟨[], [], z⟩
  | .a x y => x.pl.add y.pl
  | .s x y => x.pl.add (y.pl.mul (-1))
  | .m c x => x.pl.mul c
  | .g x => x.pl.mul (-1)
  | .n x => x.pl
noncomputable def Fx.pl : Fx → Pl
  | .n x y => y.pl.add (x.pl.mul (-1))
  | .i x y => y.pl.add (x.pl.mul (-1))
noncomputable def sumF : List (Nat × Fx) → Pl
  | [] => ⟨[], [], 0⟩
  | (k, f) :: r => (f.pl.mul k).add (sumF r)
noncomputable def chk (cs : List (Nat × Fx)) (kg : Nat) (g : Fx) : Bool :=
  let p := (g.pl.mul kg).add ((sumF cs).mul (-1))
  p.n.all (fun x => decide (0 ≤ x)) && p.i.all (fun x => decide (x = 0)) && decide (1 ≤ p.c + kg)
noncomputable def impF (N : List Nat) (I : List Int) : List (Nat × Fx) → Prop → Prop
  | [], G => G
  | (_, f) :: r, G => f.den N I → impF N I r G
noncomputable def Pl.ev (N : List Nat) (I : List Int) (p : Pl) : Int := dot p.n (N.map Int.ofNat) + dot p.i I + p.c
theorem dot_add (a : List Int) : ∀ b x, dot (addL a b) x = dot a x + dot b x := by
  induction a with
  | nil => intro b x; cases b <;> cases x <;> simp [addL, dot]
  | cons p t ih => intro b x; cases b <;> cases x <;> simp [addL, dot, ih, Int.add_mul]; omega
theorem dot_mul (k : Int) (a : List Int) : ∀ x, dot (a.map (k * ·)) x = k * dot a x := by
  induction a with
  | nil => intro x; cases x <;> simp [dot]
  | cons p t ih => intro x; cases x <;> simp [dot, ih, Int.mul_add, Int.mul_assoc]
theorem dot_unit (i : Nat) : ∀ x, dot (unitL i) x = x.getD i 0 := by
  induction i with
  | zero => intro x; cases x <;> simp [unitL, dot]
  | succ n ih => intro x; cases x <;> simp [unitL, dot, ih]
theorem ev_add (N : List Nat) (I : List Int) (p q : Pl) : (p.add q).ev N I = p.ev N I + q.ev N I := by
  simp only [Pl.ev, Pl.add, dot_add]; omega
theorem ev_mul (N : List Nat) (I : List Int) (k : Int) (p : Pl) : (p.mul k).ev N I = k * p.ev N I := by
  simp only [Pl.ev, Pl.mul, dot_mul, Int.mul_add]
theorem Lx.ev (N : List Nat) (I : List Int) : ∀ x : Lx, x.pl.ev N I = (x.den N : Int) := by
  intro x
  induction x with
  | v i =>
    simp only [Lx.pl, Pl.ev, Lx.den, dot_unit]
    have : (List.map Int.ofNat N).getD i 0 = Int.ofNat (N.getD i 0) := by
      simp only [List.getD_eq_getElem?_getD, List.getElem?_map]
      cases N[i]? <;> rfl
    rw [this]; simp [dot]
  | k n => simp [Lx.pl, Pl.ev, Lx.den, dot]
  | a x y hx hy => simp only [Lx.pl, ev_add, hx, hy, Lx.den, Int.natCast_add]
  | m c x hx => simp only [Lx.pl, ev_mul, hx, Lx.den, Int.natCast_mul]
theorem Ix.ev (N : List Nat) (I : List Int) : ∀ x : Ix, x.pl.ev N I = x.den N I := by
  intro x
  induction x with
  | v i => simp [Ix.pl, Pl.ev, Ix.den, dot_unit, dot]
  | k n => simp [Ix.pl, Pl.ev, Ix.den, dot]
  | a x y hx hy => simp only [Ix.pl, ev_add, hx, hy, Ix.den]
  | s x y hx hy => simp only [Ix.pl, ev_add, ev_mul, hx, hy, Ix.den]; omega
  | m c x hx => simp only [Ix.pl, ev_mul, hx, Ix.den]
  | g x hx => simp only [Ix.pl, ev_mul, hx, Ix.den]; omega
  | n x => exact Lx.ev N I x
theorem Fx.ev (N : List Nat) (I : List Int) (f : Fx) : f.den N I ↔ 0 ≤ f.pl.ev N I := by
  cases f with
  | n x y => simp only [Fx.den, Fx.pl, ev_add, ev_mul, Lx.ev]; omega
  | i x y => simp only [Fx.den, Fx.pl, ev_add, ev_mul, Ix.ev]; omega
theorem dot_nn (a : List Int) : ∀ N : List Nat, (∀ x ∈ a, 0 ≤ x) → 0 ≤ dot a (N.map Int.ofNat) := by
  induction a with
  | nil => intro N _; cases N <;> simp [dot]
  | cons p t ih =>
    intro N h
    cases N with
    | nil => simp [dot]
    | cons n N =>
      have h1 := ih N fun x hx => h x (.tail _ hx)
      have h2 := Int.mul_nonneg (h p (.head _)) (Int.natCast_nonneg n)
      simp only [List.map_cons, dot]
      show 0 ≤ p * (n : Int) + _
      omega
theorem dot_z (a : List Int) : ∀ I : List Int, (∀ x ∈ a, x = 0) → dot a I = 0 := by
  induction a with
  | nil => intro I _; cases I <;> simp [dot]
  | cons p t ih =>
    intro I h
    cases I with
    | nil => simp [dot]
    | cons n N =>
      have h1 := ih N fun x hx => h x (.tail _ hx)
      have h2 := h p (.head _)
      simp only [dot, h1, h2]; omega
theorem lin_go (N : List Nat) (I : List Int) (G : Prop) : ∀ cs : List (Nat × Fx), (0 ≤ (sumF cs).ev N I → G) → impF N I cs G
  | [], h => h (by simp [sumF, Pl.ev, dot])
  | (k, f) :: r, h => fun hf => lin_go N I G r fun hr => h (by
      simp only [sumF, ev_add, ev_mul]
      have := Int.mul_nonneg (Int.natCast_nonneg k) ((Fx.ev N I f).mp hf)
      omega)
/-- sums of facts -/
theorem lin (N : List Nat) (I : List Int) (cs : List (Nat × Fx)) (kg : Nat) (g : Fx) (h : chk cs kg g = true) : impF N I cs (g.den N I) := by
  refine lin_go N I _ cs fun hs => ?_
  simp only [chk, Bool.and_eq_true, List.all_eq_true, decide_eq_true_eq] at h
  obtain ⟨⟨h1, h2⟩, h3⟩ := h
  have e : (((g.pl.mul kg).add ((sumF cs).mul (-1))).ev N I) = kg * g.pl.ev N I + -1 * (sumF cs).ev N I := by rw [ev_add, ev_mul, ev_mul]
  have e2 := dot_nn _ N h1
  have e3 := dot_z _ I h2
  refine (Fx.ev N I g).mpr (Int.not_lt.mp fun hn => ?_)
  have h4 : (kg : Int) * (g.pl.ev N I + 1) ≤ 0 := Int.mul_nonpos_of_nonneg_of_nonpos (Int.natCast_nonneg _) (by omega)
  rw [Int.mul_add] at h4
  unfold Pl.ev at e
  rw [e3] at e
  unfold Pl.ev at h4 hs
  unfold Pl.ev at hn
  omega
theorem sub_a (a b : Nat) : a - b ≤ a := Nat.sub_le a b
theorem sub_b (a b : Nat) : a ≤ a - b + b := Nat.sub_le_iff_le_add.mp (Nat.le_refl _)
theorem sub_c {a b : Nat} (h : b ≤ a) : a - b + b ≤ a := Nat.le_of_eq (Nat.sub_add_cancel h)
theorem sub_z {a b : Nat} (h : a ≤ b) : a - b ≤ 0 := Nat.le_of_eq (Nat.sub_eq_zero_of_le h)
theorem div_a (a c : Nat) : c * (a / c) ≤ a := Nat.mul_div_le a c
theorem div_b (a c : Nat) (h : 0 < c) : a + 1 ≤ c * (a / c) + c := Nat.lt_mul_div_succ a h
theorem min_c {a b : Nat} (h : a ≤ b) : a ≤ min a b := Nat.le_min.mpr ⟨Nat.le_refl _, h⟩
theorem min_d {a b : Nat} (h : b ≤ a) : b ≤ min a b := Nat.le_min.mpr ⟨h, Nat.le_refl _⟩
theorem max_c {a b : Nat} (h : b ≤ a) : max a b ≤ a := Nat.max_le.mpr ⟨Nat.le_refl _, h⟩
theorem max_d {a b : Nat} (h : a ≤ b) : max a b ≤ b := Nat.max_le.mpr ⟨h, Nat.le_refl _⟩
theorem tn_a (a : Int) : a ≤ (a.toNat : Int) := Int.self_le_toNat a
theorem tn_b {a : Int} (h : 0 ≤ a) : (a.toNat : Int) ≤ a := Int.le_of_eq (Int.toNat_of_nonneg h)
theorem tn_z {a : Int} (h : a ≤ 0) : a.toNat ≤ 0 := Nat.le_of_eq (Int.toNat_of_nonpos h)
theorem imin_c {a b : Int} (h : a ≤ b) : a ≤ min a b := Int.le_min.mpr ⟨Int.le_refl _, h⟩
theorem imin_d {a b : Int} (h : b ≤ a) : b ≤ min a b := Int.le_min.mpr ⟨h, Int.le_refl _⟩
theorem imin_k {k a b : Int} (h : k ≤ a) (h' : k ≤ b) : k ≤ min a b := Int.le_min.mpr ⟨h, h'⟩
theorem imax_c {a b : Int} (h : b ≤ a) : max a b ≤ a := Int.max_le.mpr ⟨Int.le_refl _, h⟩
theorem imax_d {a b : Int} (h : a ≤ b) : max a b ≤ b := Int.max_le.mpr ⟨h, Int.le_refl _⟩
theorem not_le_n {a b : Nat} (h : ¬ a ≤ b) : b + 1 ≤ a := Nat.lt_of_not_le h
theorem not_lt_n {a b : Nat} (h : ¬ a < b) : b ≤ a := Nat.le_of_not_lt h
theorem ne_z {a : Nat} (h : ¬ a = 0) : 1 ≤ a := Nat.pos_of_ne_zero h
theorem eq_a {a b : Nat} (h : a = b) : a ≤ b := Nat.le_of_eq h
theorem eq_b {a b : Nat} (h : a = b) : b ≤ a := Nat.le_of_eq h.symm
theorem not_le_i {a b : Int} (h : ¬ a ≤ b) : b + 1 ≤ a := Int.not_le.mp h
theorem not_lt_i {a b : Int} (h : ¬ a < b) : b ≤ a := Int.not_lt.mp h
theorem lt_i {a b : Int} (h : a < b) : a + 1 ≤ b := h
theorem eqi_a {a b : Int} (h : a = b) : a ≤ b := Int.le_of_eq h
theorem eqi_b {a b : Int} (h : a = b) : b ≤ a := Int.le_of_eq h.symm
theorem ne_l {a b : Nat} (h : ¬ a = b) (h' : a ≤ b) : a + 1 ≤ b := Nat.lt_of_le_of_ne h' h
theorem ne_r {a b : Nat} (h : ¬ a = b) (h' : b ≤ a) : b + 1 ≤ a := Nat.lt_of_le_of_ne h' (Ne.symm h)
theorem ne_li {a b : Int} (h : ¬ a = b) (h' : a ≤ b) : a + 1 ≤ b := Int.lt_iff_le_and_ne.mpr ⟨h', h⟩
theorem ne_ri {a b : Int} (h : ¬ a = b) (h' : b ≤ a) : b + 1 ≤ a := Int.lt_iff_le_and_ne.mpr ⟨h', Ne.symm h⟩
theorem go_len {a b : Nat} (h : a ≤ b) : a ≤ b := h
theorem go_ltn {a b : Nat} (h : a + 1 ≤ b) : a < b := h
theorem go_eq {a b : Nat} (h : a ≤ b) (h' : b ≤ a) : a = b := Nat.le_antisymm h h'
theorem go_eqi {a b : Int} (h : a ≤ b) (h' : b ≤ a) : a = b := Int.le_antisymm h h'
theorem go_lti {a b : Int} (h : a + 1 ≤ b) : a < b := h
theorem go_f (h : 1 ≤ 0) : False := Nat.not_succ_le_zero 0 h
theorem go_nea {a b : Nat} (h : a + 1 ≤ b) : a ≠ b := Nat.ne_of_lt h
theorem go_neb {a b : Nat} (h : b + 1 ≤ a) : a ≠ b := Nat.ne_of_gt h
theorem go_neai {a b : Int} (h : a + 1 ≤ b) : a ≠ b := Int.ne_of_lt h
theorem go_nebi {a b : Int} (h : b + 1 ≤ a) : a ≠ b := Int.ne_of_gt h
theorem go_nle {a b : Nat} (h : b + 1 ≤ a) : ¬ a ≤ b := Nat.not_le_of_gt h
theorem go_nlt {a b : Nat} (h : b ≤ a) : ¬ a < b := Nat.not_lt_of_ge h
theorem go_nlei {a b : Int} (h : b + 1 ≤ a) : ¬ a ≤ b := Int.not_le.mpr h
theorem go_nlti {a b : Int} (h : b ≤ a) : ¬ a < b := Int.not_lt.mpr h
example (z i j n q : Nat) (h1 : i < n) (h2 : q + j ≤ i) (h3 : n + 3 ≤ z) : q + j + 3 < z := lin [_,_,_,_,_] [] [(1, .n (.a (.v 0) (.k 1)) (.v 1)), (1, .n (.a (.v 2) (.v 3)) (.v 0)), (1, .n (.a (.v 1) (.k 3)) (.v 4))] 1 (.n (.a (.a (.a (.v 2) (.v 3)) (.k 3)) (.k 1)) (.v 4)) rfl h1 h2 h3
end
section
abbrev prg : Program := PySem.Challenge.rw_oy0269_01.row.prog
abbrev valueOf {α : Type} {a b : α} (_ : a = b) : α := b
noncomputable def pickD : Option Stmt → Arguments × List Stmt × Scope
  | some (.FunctionDef _ ps body _ _ _ sc _ _ _) => (ps, body, sc)
  | _ => default
noncomputable def fdT (i : Nat) : Arguments × List Stmt × Scope := pickD prg.main.body[i]?
noncomputable def pickC (j : Nat) : Option Stmt → Arguments × List Stmt × Scope
  | some (.ClassDef _ _ _ body _ _ _ _ _ _ _) => pickD body[j]?
  | _ => default
noncomputable def fdC (i j : Nat) : Arguments × List Stmt × Scope := pickC j prg.main.body[i]?
@[reducible] noncomputable def par21 : Arguments := by
  refine @valueOf _ (fdT 0).1 ?b ?h
  case h =>
    conv => lhs; whnf
@[reducible] noncomputable def bod21 : List Stmt := by
  refine @valueOf _ (fdT 0).2.1 ?b ?h
  case h =>
    conv => lhs; whnf
@[reducible] noncomputable def sco21 : Scope := by
  refine @valueOf _ (fdT 0).2.2 ?b ?h
  case h =>
    conv => lhs; whnf
@[reducible] noncomputable def par28 : Arguments := by
  refine @valueOf _ (fdT 2).1 ?b ?h
  case h =>
    conv => lhs; whnf
@[reducible] noncomputable def bod28 : List Stmt := by
  refine @valueOf _ (fdT 2).2.1 ?b ?h
  case h =>
    conv => lhs; whnf
@[reducible] noncomputable def sco28 : Scope := by
  refine @valueOf _ (fdT 2).2.2 ?b ?h
  case h =>
    conv => lhs; whnf
@[reducible] noncomputable def par72 : Arguments := by
  refine @valueOf _ (fdT 7).1 ?b ?h
  case h =>
    conv => lhs; whnf
@[reducible] noncomputable def bod72 : List Stmt := by
  refine @valueOf _ (fdT 7).2.1 ?b ?h
  case h =>
    conv => lhs; whnf
@[reducible] noncomputable def sco72 : Scope := by
  refine @valueOf _ (fdT 7).2.2 ?b ?h
  case h =>
    conv => lhs; whnf
@[reducible] noncomputable def par87 : Arguments := by
  refine @valueOf _ (fdC 11 1).1 ?b ?h
  case h =>
    conv => lhs; whnf
@[reducible] noncomputable def bod87 : List Stmt := by
  refine @valueOf _ (fdC 11 1).2.1 ?b ?h
  case h =>
    conv => lhs; whnf
@[reducible] noncomputable def sco87 : Scope := by
  refine @valueOf _ (fdC 11 1).2.2 ?b ?h
  case h =>
    conv => lhs; whnf
@[reducible] noncomputable def par124 : Arguments := by
  refine @valueOf _ (fdC 13 0).1 ?b ?h
  case h =>
    conv => lhs; whnf
@[reducible] noncomputable def bod124 : List Stmt := by
  refine @valueOf _ (fdC 13 0).2.1 ?b ?h
  case h =>
    conv => lhs; whnf
@[reducible] noncomputable def sco124 : Scope := by
  refine @valueOf _ (fdC 13 0).2.2 ?b ?h
  case h =>
    conv => lhs; whnf
@[reducible] noncomputable def par131 : Arguments := by
  refine @valueOf _ (fdC 13 1).1 ?b ?h
  case h =>
    conv => lhs; whnf
@[reducible] noncomputable def bod131 : List Stmt := by
  refine @valueOf _ (fdC 13 1).2.1 ?b ?h
  case h =>
    conv => lhs; whnf
@[reducible] noncomputable def sco131 : Scope := by
  refine @valueOf _ (fdC 13 1).2.2 ?b ?h
  case h =>
    conv => lhs; whnf
@[reducible] noncomputable def par138 : Arguments := by
  refine @valueOf _ (fdC 13 2).1 ?b ?h
  case h =>
    conv => lhs; whnf
@[reducible] noncomputable def bod138 : List Stmt := by
  refine @valueOf _ (fdC 13 2).2.1 ?b ?h
  case h =>
    conv => lhs; whnf
@[reducible] noncomputable def sco138 : Scope := by
  refine @valueOf _ (fdC 13 2).2.2 ?b ?h
  case h =>
    conv => lhs; whnf
@[reducible] noncomputable def par143 : Arguments := by
  refine @valueOf _ (fdC 13 3).1 ?b ?h
  case h =>
    conv => lhs; whnf
@[reducible] noncomputable def bod143 : List Stmt := by
  refine @valueOf _ (fdC 13 3).2.1 ?b ?h
  case h =>
    conv => lhs; whnf
@[reducible] noncomputable def sco143 : Scope := by
  refine @valueOf _ (fdC 13 3).2.2 ?b ?h
  case h =>
    conv => lhs; whnf
@[reducible] noncomputable def par150 : Arguments := by
  refine @valueOf _ (fdC 13 4).1 ?b ?h
  case h =>
    conv => lhs; whnf
@[reducible] noncomputable def bod150 : List Stmt := by
  refine @valueOf _ (fdC 13 4).2.1 ?b ?h
  case h =>
    conv => lhs; whnf
@[reducible] noncomputable def sco150 : Scope := by
  refine @valueOf _ (fdC 13 4).2.2 ?b ?h
  case h =>
    conv => lhs; whnf
@[reducible] noncomputable def par157 : Arguments := by
  refine @valueOf _ (fdC 13 5).1 ?b ?h
  case h =>
    conv => lhs; whnf
@[reducible] noncomputable def bod157 : List Stmt := by
  refine @valueOf _ (fdC 13 5).2.1 ?b ?h
  case h =>
    conv => lhs; whnf
@[reducible] noncomputable def sco157 : Scope := by
  refine @valueOf _ (fdC 13 5).2.2 ?b ?h
  case h =>
    conv => lhs; whnf
@[reducible] noncomputable def par164 : Arguments := by
  refine @valueOf _ (fdC 13 6).1 ?b ?h
  case h =>
    conv => lhs; whnf
@[reducible] noncomputable def bod164 : List Stmt := by
  refine @valueOf _ (fdC 13 6).2.1 ?b ?h
  case h =>
    conv => lhs; whnf
@[reducible] noncomputable def sco164 : Scope := by
  refine @valueOf _ (fdC 13 6).2.2 ?b ?h
  case h =>
    conv => lhs; whnf
@[reducible] noncomputable def par171 : Arguments := by
  refine @valueOf _ (fdC 13 7).1 ?b ?h
  case h =>
    conv => lhs; whnf
@[reducible] noncomputable def bod171 : List Stmt := by
  refine @valueOf _ (fdC 13 7).2.1 ?b ?h
  case h =>
    conv => lhs; whnf
@[reducible] noncomputable def sco171 : Scope := by
  refine @valueOf _ (fdC 13 7).2.2 ?b ?h
  case h =>
    conv => lhs; whnf
@[reducible] noncomputable def par178 : Arguments := by
  refine @valueOf _ (fdC 13 8).1 ?b ?h
  case h =>
    conv => lhs; whnf
@[reducible] noncomputable def bod178 : List Stmt := by
  refine @valueOf _ (fdC 13 8).2.1 ?b ?h
  case h =>
    conv => lhs; whnf
@[reducible] noncomputable def sco178 : Scope := by
  refine @valueOf _ (fdC 13 8).2.2 ?b ?h
  case h =>
    conv => lhs; whnf
@[reducible] noncomputable def par185 : Arguments := by
  refine @valueOf _ (fdC 13 9).1 ?b ?h
  case h =>
    conv => lhs; whnf
@[reducible] noncomputable def bod185 : List Stmt := by
  refine @valueOf _ (fdC 13 9).2.1 ?b ?h
  case h =>
    conv => lhs; whnf
@[reducible] noncomputable def sco185 : Scope := by
  refine @valueOf _ (fdC 13 9).2.2 ?b ?h
  case h =>
    conv => lhs; whnf
@[reducible] noncomputable def par199 : Arguments := by
  refine @valueOf _ (fdT 15).1 ?b ?h
  case h =>
    conv => lhs; whnf
@[reducible] noncomputable def bod199 : List Stmt := by
  refine @valueOf _ (fdT 15).2.1 ?b ?h
  case h =>
    conv => lhs; whnf
@[reducible] noncomputable def sco199 : Scope := by
  refine @valueOf _ (fdT 15).2.2 ?b ?h
  case h =>
    conv => lhs; whnf
@[reducible] noncomputable def par206 : Arguments := by
  refine @valueOf _ (fdT 16).1 ?b ?h
  case h =>
    conv => lhs; whnf
@[reducible] noncomputable def bod206 : List Stmt := by
  refine @valueOf _ (fdT 16).2.1 ?b ?h
  case h =>
    conv => lhs; whnf
@[reducible] noncomputable def sco206 : Scope := by
  refine @valueOf _ (fdT 16).2.2 ?b ?h
  case h =>
    conv => lhs; whnf
@[reducible] noncomputable def par211 : Arguments := by
  refine @valueOf _ (fdT 17).1 ?b ?h
  case h =>
    conv => lhs; whnf
@[reducible] noncomputable def bod211 : List Stmt := by
  refine @valueOf _ (fdT 17).2.1 ?b ?h
  case h =>
    conv => lhs; whnf
@[reducible] noncomputable def sco211 : Scope := by
  refine @valueOf _ (fdT 17).2.2 ?b ?h
  case h =>
    conv => lhs; whnf
@[reducible] noncomputable def par216 : Arguments := by
  refine @valueOf _ (fdT 18).1 ?b ?h
  case h =>
    conv => lhs; whnf
@[reducible] noncomputable def bod216 : List Stmt := by
  refine @valueOf _ (fdT 18).2.1 ?b ?h
  case h =>
    conv => lhs; whnf
@[reducible] noncomputable def sco216 : Scope := by
  refine @valueOf _ (fdT 18).2.2 ?b ?h
  case h =>
    conv => lhs; whnf
noncomputable def hd.heap_39 : Params → Frag := fun P => (nat_lit 2, ({ cls := Value.none, data := Data.dict #[{ hash := PyData.keyHash P (Str.ofString "type.__subclasses__.Exception.0"), key := Value.str (Str.ofString "type.__subclasses__.Exception.0") 228, val := Value.int 38 0 }, { hash := PyData.keyHash P (Str.ofString "type.__subclasses__.Exception.n"), key := Value.str (Str.ofString "type.__subclasses__.Exception.n") 229, val := Value.int 1 0 }] 2 } : Obj)) ::
  (nat_lit 3, ({ cls := Value.type "dict", data := Data.dict #[{ hash := PyData.keyHash P (Str.ofString "__name__"), key := Value.str (Str.ofString "__name__") 165, val := Value.str (Str.ofString "law_oy0269_01") 459 }, { hash := PyData.keyHash P (Str.ofString "__doc__"), key := Value.str (Str.ofString "__doc__") 166, val := Value.none }, { hash := PyData.keyHash P (Str.ofString "__package__"), key := Value.str (Str.ofString "__package__") 167, val := Value.none }, { hash := PyData.keyHash P (Str.ofString "__loader__"), key := Value.str (Str.ofString "__loader__") 168, val := Value.builtin "__main__.__loader__#opaque" }, { hash := PyData.keyHash P (Str.ofString "__spec__"), key := Value.str (Str.ofString "__spec__") 169, val := Value.none }, { hash := PyData.keyHash P (Str.ofString "__annotations__"), key := Value.str (Str.ofString "__annotations__") 170, val := Value.ref 6 }, { hash := PyData.keyHash P (Str.ofString "__builtins__"), key := Value.str (Str.ofString "__builtins__") 171, val := Value.ref 4 }, { hash := PyData.keyHash P (Str.ofString "__file__"), key := Value.str (Str.ofString "__file__") 173, val := Value.str (Str.ofString "/claim/cut.py") 172 }, { hash := PyData.keyHash P (Str.ofString "__cached__"), key := Value.str (Str.ofString "__cached__") 174, val := Value.none }, { hash := PyData.keyHash P (Str.ofString "_wall"), key := Value.str (Str.ofString "_wall") 193, val := Value.ref 21 }, { hash := PyData.keyHash P (Str.ofString "sorted_list_difference"), key := Value.str (Str.ofString "sorted_list_difference") 209, val := Value.ref 28 }, { hash := PyData.keyHash P (Str.ofString "Error"), key := Value.str (Str.ofString "Error") 231, val := Value.ref 38 }, { hash := PyData.keyHash P (Str.ofString "error_reply"), key := Value.str (Str.ofString "error_reply") 247, val := Value.ref 51 }, { hash := PyData.keyHash P (Str.ofString "error_proto"), key := Value.str (Str.ofString "error_proto") 263, val := Value.ref 63 }, { hash := PyData.keyHash P (Str.ofString "parse229"), key := Value.str (Str.ofString "parse229") 276, val := Value.ref 72 }, { hash := PyData.keyHash P (Str.ofString "_NODE_OUT"), key := Value.str (Str.ofString "_NODE_OUT") 281, val := Value.int (-1) 280 }, { hash := PyData.keyHash P (Str.ofString "_NODE_DONE"), key := Value.str (Str.ofString "_NODE_DONE") 284, val := Value.int (-2) 283 }, { hash := PyData.keyHash P (Str.ofString "_NodeInfo"), key := Value.str (Str.ofString "_NodeInfo") 321, val := Value.ref 91 }, { hash := PyData.keyHash P (Str.ofString "CycleError"), key := Value.str (Str.ofString "CycleError") 339, val := Value.ref 106 }, { hash := PyData.keyHash P (Str.ofString "TopologicalSorter"), key := Value.str (Str.ofString "TopologicalSorter") 458, val := Value.ref 188 }, { hash := PyData.keyHash P (Str.ofString "_law_reply"), key := Value.str (Str.ofString "_law_reply") 469, val := Value.ref 199 }, { hash := PyData.keyHash P (Str.ofString "_law_paid"), key := Value.str (Str.ofString "_law_paid") 483, val := Value.ref 206 }, { hash := PyData.keyHash P (Str.ofString "_law_rounds"), key := Value.str (Str.ofString "_law_rounds") 489, val := Value.ref 211 }, { hash := PyData.keyHash P (Str.ofString "law"), key := Value.str (Str.ofString "law") 495, val := Value.ref 216 }] 24 } : Obj)) ::
  (nat_lit 15, ({ cls := Value.type "tuple", data := Data.seq #[] } : Obj)) ::
  (nat_lit 17, ({ cls := Value.type "tuple", data := Data.seq #[Value.str (Str.ofString "k") 190] } : Obj)) ::
  (nat_lit 18, ({ cls := Value.type "tuple", data := Data.seq #[] } : Obj)) ::
  (nat_lit 20, ({ cls := Value.type "code", data := Data.fields #[Value.str (Str.ofString "_wall") 187, Value.str (Str.ofString "_wall") 188, Value.str (Str.ofString "/claim/cut.py") 189, Value.int 1 0, Value.int 1 0, Value.int 0 0, Value.int 0 0, Value.int 3 0, Value.ref 15, Value.bool true, Value.int 181 0, Value.ref 16, Value.none, Value.ref 17, Value.ref 18, Value.ref 19, Value.int 191 0, Value.int 1 0, Value.str (Str.ofString "/claim/cut.py") 192] } : Obj)) ::
  (nat_lit 21, ({ cls := Value.type "function", data := Data.func { name := Str.ofString "_wall", qualname := Str.ofString "_wall", params := par21, body := FuncBody.stmts bod21, scope := sco21, globals := 3, closure := [], defaults := Value.none, kwdefaults := Value.none, pyModule := Value.str (Str.ofString "__main__") 164, code := Value.ref 20 } } : Obj)) ::
  (nat_lit 22, ({ cls := Value.type "tuple", data := Data.seq #[] } : Obj)) ::
  (nat_lit 24, ({ cls := Value.type "tuple", data := Data.seq #[Value.str (Str.ofString "expected") 199, Value.str (Str.ofString "actual") 200, Value.str (Str.ofString "i") 201, Value.str (Str.ofString "j") 202, Value.str (Str.ofString "missing") 203, Value.str (Str.ofString "unexpected") 204, Value.str (Str.ofString "e") 205, Value.str (Str.ofString "a") 206] } : Obj)) ::
  (nat_lit 25, ({ cls := Value.type "tuple", data := Data.seq #[] } : Obj)) ::
  (nat_lit 27, ({ cls := Value.type "code", data := Data.fields #[Value.str (Str.ofString "sorted_list_difference") 196, Value.str (Str.ofString "sorted_list_difference") 197, Value.str (Str.ofString "/claim/cut.py") 198, Value.int 5 0, Value.int 2 0, Value.int 0 0, Value.int 0 0, Value.int 3 0, Value.ref 22, Value.bool true, Value.int 181 0, Value.ref 23, Value.none, Value.ref 24, Value.ref 25, Value.ref 26, Value.int 207 0, Value.int 5 0, Value.str (Str.ofString "/claim/cut.py") 208] } : Obj)) ::
  (nat_lit 28, ({ cls := Value.type "function", data := Data.func { name := Str.ofString "sorted_list_difference", qualname := Str.ofString "sorted_list_difference", params := par28, body := FuncBody.stmts bod28, scope := sco28, globals := 3, closure := [], defaults := Value.none, kwdefaults := Value.none, pyModule := Value.str (Str.ofString "cpy313.unittest.util") 194, code := Value.ref 27 } } : Obj)) ::
  (nat_lit 29, ({ cls := Value.type "tuple", data := Data.seq #[Value.type "Exception"] } : Obj)) ::
  (nat_lit 36, ({ cls := Value.type "tuple", data := Data.seq #[] } : Obj)) ::
  (nat_lit 37, ({ cls := Value.type "dict", data := Data.dict #[{ hash := PyData.keyHash P (Str.ofString "__module__"), key := Value.str (Str.ofString "__module__") 219, val := Value.str (Str.ofString "cpy313.ftplib") 210 }, { hash := PyData.keyHash P (Str.ofString "__firstlineno__"), key := Value.str (Str.ofString "__firstlineno__") 223, val := Value.int 38 222 }, { hash := PyData.keyHash P (Str.ofString "__static_attributes__"), key := Value.str (Str.ofString "__static_attributes__") 224, val := Value.ref 36 }, { hash := PyData.keyHash P (Str.ofString "__weakref__"), key := Value.str (Str.ofString "__weakref__") 226, val := Value.ref 39 }, { hash := PyData.keyHash P (Str.ofString "__doc__"), key := Value.str (Str.ofString "__doc__") 227, val := Value.none }] 3 } : Obj)) ::
  (nat_lit 38, ({ cls := Value.type "type", data := Data.cls { name := Str.ofString "Error", bases := [Value.type "Exception"], mro := [Value.ref 38, Value.type "Exception", Value.type "BaseException", Value.type "object"], ns := 37, qualname := Str.ofString "Error", subclasses := [Value.ref 51, Value.ref 63] }, slots := #[some (Value.ref 29), none, some (Value.str (Str.ofString "Error") 212), some (Value.str (Str.ofString "Error") 220), some (Value.builtin "Exception.__new__"), some (Value.bool true)] } : Obj)) ::
  (nat_lit 39, ({ cls := Value.type "getset_descriptor", data := Data.fields #[Value.str (Str.ofString "__weakref__") 225, Value.ref 38, Value.builtin "ExceptionGroup.__weakref__", Value.none] } : Obj)) ::
  (nat_lit 42, ({ cls := Value.type "tuple", data := Data.seq #[Value.ref 38] } : Obj)) ::
  (nat_lit 49, ({ cls := Value.type "tuple", data := Data.seq #[] } : Obj)) ::
  (nat_lit 50, ({ cls := Value.type "dict", data := Data.dict #[{ hash := PyData.keyHash P (Str.ofString "__module__"), key := Value.str (Str.ofString "__module__") 239, val := Value.str (Str.ofString "cpy313.ftplib") 210 }, { hash := PyData.keyHash P (Str.ofString "__firstlineno__"), key := Value.str (Str.ofString "__firstlineno__") 243, val := Value.int 40 242 }, { hash := PyData.keyHash P (Str.ofString "__static_attributes__"), key := Value.str (Str.ofString "__static_attributes__") 244, val := Value.ref 49 }, { hash := PyData.keyHash P (Str.ofString "__doc__"), key := Value.str (Str.ofString "__doc__") 245, val := Value.none }] 2 } : Obj)) ::
  (nat_lit 51, ({ cls := Value.type "type", data := Data.cls { name := Str.ofString "error_reply", bases := [Value.ref 38], mro := [Value.ref 51, Value.ref 38, Value.type "Exception", Value.type "BaseException", Value.type "object"], ns := 50, qualname := Str.ofString "error_reply" }, slots := #[some (Value.ref 42), none, some (Value.str (Str.ofString "error_reply") 232), some (Value.str (Str.ofString "error_reply") 240), some (Value.builtin "Exception.__new__"), some (Value.bool true)] } : Obj)) ::
  (nat_lit 54, ({ cls := Value.type "tuple", data := Data.seq #[Value.ref 38] } : Obj)) ::
  (nat_lit 61, ({ cls := Value.type "tuple", data := Data.seq #[] } : Obj)) ::
  (nat_lit 62, ({ cls := Value.type "dict", data := Data.dict #[{ hash := PyData.keyHash P (Str.ofString "__module__"), key := Value.str (Str.ofString "__module__") 255, val := Value.str (Str.ofString "cpy313.ftplib") 210 }, { hash := PyData.keyHash P (Str.ofString "__firstlineno__"), key := Value.str (Str.ofString "__firstlineno__") 259, val := Value.int 42 258 }, { hash := PyData.keyHash P (Str.ofString "__static_attributes__"), key := Value.str (Str.ofString "__static_attributes__") 260, val := Value.ref 61 }, { hash := PyData.keyHash P (Str.ofString "__doc__"), key := Value.str (Str.ofString "__doc__") 261, val := Value.none }] 2 } : Obj)) ::
  (nat_lit 63, ({ cls := Value.type "type", data := Data.cls { name := Str.ofString "error_proto", bases := [Value.ref 38], mro := [Value.ref 63, Value.ref 38, Value.type "Exception", Value.type "BaseException", Value.type "object"], ns := 62, qualname := Str.ofString "error_proto" }, slots := #[some (Value.ref 54), none, some (Value.str (Str.ofString "error_proto") 248), some (Value.str (Str.ofString "error_proto") 256), some (Value.builtin "Exception.__new__"), some (Value.bool true)] } : Obj)) ::
  (nat_lit 66, ({ cls := Value.type "tuple", data := Data.seq #[] } : Obj)) ::
  (nat_lit 68, ({ cls := Value.type "tuple", data := Data.seq #[Value.str (Str.ofString "resp") 267, Value.str (Str.ofString "peer") 268, Value.str (Str.ofString "left") 269, Value.str (Str.ofString "right") 270, Value.str (Str.ofString "parts") 271, Value.str (Str.ofString "host") 272, Value.str (Str.ofString "port") 273] } : Obj)) ::
  (nat_lit 69, ({ cls := Value.type "tuple", data := Data.seq #[] } : Obj)) ::
  (nat_lit 71, ({ cls := Value.type "code", data := Data.fields #[Value.str (Str.ofString "parse229") 264, Value.str (Str.ofString "parse229") 265, Value.str (Str.ofString "/claim/cut.py") 266, Value.int 44 0, Value.int 2 0, Value.int 0 0, Value.int 0 0, Value.int 3 0, Value.ref 66, Value.bool true, Value.int 181 0, Value.ref 67, Value.none, Value.ref 68, Value.ref 69, Value.ref 70, Value.int 274 0, Value.int 44 0, Value.str (Str.ofString "/claim/cut.py") 275] } : Obj)) ::
  (nat_lit 72, ({ cls := Value.type "function", data := Data.func { name := Str.ofString "parse229", qualname := Str.ofString "parse229", params := par72, body := FuncBody.stmts bod72, scope := sco72, globals := 3, closure := [], defaults := Value.none, kwdefaults := Value.none, pyModule := Value.str (Str.ofString "cpy313.ftplib") 210, code := Value.ref 71 } } : Obj)) ::
  (nat_lit 80, ({ cls := Value.type "tuple", data := Data.seq #[Value.str (Str.ofString "node") 297, Value.str (Str.ofString "npredecessors") 298, Value.str (Str.ofString "successors") 299] } : Obj)) ::
  (nat_lit 81, ({ cls := Value.type "tuple", data := Data.seq #[] } : Obj)) ::
  (nat_lit 83, ({ cls := Value.type "tuple", data := Data.seq #[Value.str (Str.ofString "self") 304, Value.str (Str.ofString "node") 305] } : Obj)) ::
  (nat_lit 84, ({ cls := Value.type "tuple", data := Data.seq #[] } : Obj)) ::
  (nat_lit 86, ({ cls := Value.type "code", data := Data.fields #[Value.str (Str.ofString "__init__") 301, Value.str (Str.ofString "_NodeInfo.__init__") 302, Value.str (Str.ofString "/claim/cut.py") 303, Value.int 67 0, Value.int 2 0, Value.int 0 0, Value.int 0 0, Value.int 3 0, Value.ref 81, Value.bool true, Value.int 181 0, Value.ref 82, Value.none, Value.ref 83, Value.ref 84, Value.ref 85, Value.int 306 0, Value.int 67 0, Value.str (Str.ofString "/claim/cut.py") 307] } : Obj)) ::
  (nat_lit 87, ({ cls := Value.type "function", data := Data.func { name := Str.ofString "__init__", qualname := Str.ofString "_NodeInfo.__init__", params := par87, body := FuncBody.stmts bod87, scope := sco87, globals := 3, closure := [], defaults := Value.none, kwdefaults := Value.none, pyModule := Value.str (Str.ofString "cpy313.graphlib") 277, code := Value.ref 86 } } : Obj)) ::
  (nat_lit 88, ({ cls := Value.type "tuple", data := Data.seq #[Value.str (Str.ofString "node") 309, Value.str (Str.ofString "npredecessors") 310, Value.str (Str.ofString "successors") 311] } : Obj)) ::
  (nat_lit 90, ({ cls := Value.type "dict", data := Data.dict #[{ hash := PyData.keyHash P (Str.ofString "__module__"), key := Value.str (Str.ofString "__module__") 292, val := Value.str (Str.ofString "cpy313.graphlib") 277 }, { hash := PyData.keyHash P (Str.ofString "__firstlineno__"), key := Value.str (Str.ofString "__firstlineno__") 296, val := Value.int 64 295 }, { hash := PyData.keyHash P (Str.ofString "__slots__"), key := Value.str (Str.ofString "__slots__") 300, val := Value.ref 80 }, { hash := PyData.keyHash P (Str.ofString "__init__"), key := Value.str (Str.ofString "__init__") 308, val := Value.ref 87 }, { hash := PyData.keyHash P (Str.ofString "__static_attributes__"), key := Value.str (Str.ofString "__static_attributes__") 312, val := Value.ref 88 }, { hash := PyData.keyHash P (Str.ofString "node"), key := Value.str (Str.ofString "node") 314, val := Value.ref 92 }, { hash := PyData.keyHash P (Str.ofString "npredecessors"), key := Value.str (Str.ofString "npredecessors") 316, val := Value.ref 93 }, { hash := PyData.keyHash P (Str.ofString "successors"), key := Value.str (Str.ofString "successors") 318, val := Value.ref 94 }, { hash := PyData.keyHash P (Str.ofString "__doc__"), key := Value.str (Str.ofString "__doc__") 319, val := Value.none }] 5 } : Obj)) ::
  (nat_lit 91, ({ cls := Value.type "type", data := Data.cls { name := Str.ofString "_NodeInfo", bases := [Value.type "object"], mro := [Value.ref 91, Value.type "object"], ns := 90, qualname := Str.ofString "_NodeInfo", hasDict := false, slotNames := [Str.ofString "node", Str.ofString "npredecessors", Str.ofString "successors"] }, slots := #[none, none, some (Value.str (Str.ofString "_NodeInfo") 285), some (Value.str (Str.ofString "_NodeInfo") 293), some (Value.builtin "object.__new__"), some (Value.bool false)] } : Obj)) ::
  (nat_lit 92, ({ cls := Value.type "member_descriptor", data := Data.fields #[Value.str (Str.ofString "node") 313, Value.ref 91, Value.builtin "proto.slot", Value.builtin "proto.slot#set", Value.int 2 0] } : Obj)) ::
  (nat_lit 93, ({ cls := Value.type "member_descriptor", data := Data.fields #[Value.str (Str.ofString "npredecessors") 315, Value.ref 91, Value.builtin "proto.slot", Value.builtin "proto.slot#set", Value.int 1 0] } : Obj)) ::
  (nat_lit 94, ({ cls := Value.type "member_descriptor", data := Data.fields #[Value.str (Str.ofString "successors") 317, Value.ref 91, Value.builtin "proto.slot", Value.builtin "proto.slot#set", Value.int 0 0] } : Obj)) ::
  (nat_lit 97, ({ cls := Value.type "tuple", data := Data.seq #[Value.type "ValueError"] } : Obj)) ::
  (nat_lit 104, ({ cls := Value.type "tuple", data := Data.seq #[] } : Obj)) ::
  (nat_lit 105, ({ cls := Value.type "dict", data := Data.dict #[{ hash := PyData.keyHash P (Str.ofString "__module__"), key := Value.str (Str.ofString "__module__") 329, val := Value.str (Str.ofString "cpy313.graphlib") 277 }, { hash := PyData.keyHash P (Str.ofString "__firstlineno__"), key := Value.str (Str.ofString "__firstlineno__") 333, val := Value.int 71 332 }, { hash := PyData.keyHash P (Str.ofString "__static_attributes__"), key := Value.str (Str.ofString "__static_attributes__") 334, val := Value.ref 104 }, { hash := PyData.keyHash P (Str.ofString "__weakref__"), key := Value.str (Str.ofString "__weakref__") 336, val := Value.ref 107 }, { hash := PyData.keyHash P (Str.ofString "__doc__"), key := Value.str (Str.ofString "__doc__") 337, val := Value.none }] 3 } : Obj)) ::
  (nat_lit 106, ({ cls := Value.type "type", data := Data.cls { name := Str.ofString "CycleError", bases := [Value.type "ValueError"], mro := [Value.ref 106, Value.type "ValueError", Value.type "Exception", Value.type "BaseException", Value.type "object"], ns := 105, qualname := Str.ofString "CycleError" }, slots := #[some (Value.ref 97), none, some (Value.str (Str.ofString "CycleError") 322), some (Value.str (Str.ofString "CycleError") 330), some (Value.builtin "ValueError.__new__"), some (Value.bool true)] } : Obj)) ::
  (nat_lit 107, ({ cls := Value.type "getset_descriptor", data := Data.fields #[Value.str (Str.ofString "__weakref__") 335, Value.ref 106, Value.builtin "ExceptionGroup.__weakref__", Value.none] } : Obj)) ::
  (nat_lit 117, ({ cls := Value.type "tuple", data := Data.seq #[Value.none] } : Obj)) ::
  (nat_lit 118, ({ cls := Value.type "tuple", data := Data.seq #[] } : Obj)) ::
  (nat_lit 120, ({ cls := Value.type "tuple", data := Data.seq #[Value.str (Str.ofString "self") 355, Value.str (Str.ofString "graph") 356, Value.str (Str.ofString "node") 357, Value.str (Str.ofString "predecessors") 358] } : Obj)) ::
  (nat_lit 121, ({ cls := Value.type "tuple", data := Data.seq #[] } : Obj)) ::
  (nat_lit 123, ({ cls := Value.type "code", data := Data.fields #[Value.str (Str.ofString "__init__") 352, Value.str (Str.ofString "TopologicalSorter.__init__") 353, Value.str (Str.ofString "/claim/cut.py") 354, Value.int 75 0, Value.int 2 0, Value.int 0 0, Value.int 0 0, Value.int 3 0, Value.ref 118, Value.bool true, Value.int 181 0, Value.ref 119, Value.none, Value.ref 120, Value.ref 121, Value.ref 122, Value.int 359 0, Value.int 75 0, Value.str (Str.ofString "/claim/cut.py") 360] } : Obj)) ::
  (nat_lit 124, ({ cls := Value.type "function", data := Data.func { name := Str.ofString "__init__", qualname := Str.ofString "TopologicalSorter.__init__", params := par124, body := FuncBody.stmts bod124, scope := sco124, globals := 3, closure := [], defaults := Value.ref 117, kwdefaults := Value.none, pyModule := Value.str (Str.ofString "cpy313.graphlib") 277, code := Value.ref 123 } } : Obj)) ::
  (nat_lit 125, ({ cls := Value.type "tuple", data := Data.seq #[] } : Obj)) ::
  (nat_lit 127, ({ cls := Value.type "tuple", data := Data.seq #[Value.str (Str.ofString "self") 365, Value.str (Str.ofString "node") 366, Value.str (Str.ofString "result") 367] } : Obj)) ::
  (nat_lit 128, ({ cls := Value.type "tuple", data := Data.seq #[] } : Obj)) ::
  (nat_lit 130, ({ cls := Value.type "code", data := Data.fields #[Value.str (Str.ofString "_get_nodeinfo") 362, Value.str (Str.ofString "TopologicalSorter._get_nodeinfo") 363, Value.str (Str.ofString "/claim/cut.py") 364, Value.int 84 0, Value.int 2 0, Value.int 0 0, Value.int 0 0, Value.int 3 0, Value.ref 125, Value.bool true, Value.int 181 0, Value.ref 126, Value.none, Value.ref 127, Value.ref 128, Value.ref 129, Value.int 368 0, Value.int 84 0, Value.str (Str.ofString "/claim/cut.py") 369] } : Obj)) ::
  (nat_lit 131, ({ cls := Value.type "function", data := Data.func { name := Str.ofString "_get_nodeinfo", qualname := Str.ofString "TopologicalSorter._get_nodeinfo", params := par131, body := FuncBody.stmts bod131, scope := sco131, globals := 3, closure := [], defaults := Value.none, kwdefaults := Value.none, pyModule := Value.str (Str.ofString "cpy313.graphlib") 277, code := Value.ref 130 } } : Obj)) ::
  (nat_lit 132, ({ cls := Value.type "tuple", data := Data.seq #[] } : Obj)) ::
  (nat_lit 134, ({ cls := Value.type "tuple", data := Data.seq #[Value.str (Str.ofString "self") 374, Value.str (Str.ofString "node") 375, Value.str (Str.ofString "predecessors") 376, Value.str (Str.ofString "nodeinfo") 377, Value.str (Str.ofString "pred") 378, Value.str (Str.ofString "pred_info") 379] } : Obj)) ::
  (nat_lit 135, ({ cls := Value.type "tuple", data := Data.seq #[] } : Obj)) ::
  (nat_lit 137, ({ cls := Value.type "code", data := Data.fields #[Value.str (Str.ofString "add") 371, Value.str (Str.ofString "TopologicalSorter.add") 372, Value.str (Str.ofString "/claim/cut.py") 373, Value.int 89 0, Value.int 2 0, Value.int 0 0, Value.int 0 0, Value.int 7 0, Value.ref 132, Value.bool true, Value.int 181 0, Value.ref 133, Value.none, Value.ref 134, Value.ref 135, Value.ref 136, Value.int 380 0, Value.int 89 0, Value.str (Str.ofString "/claim/cut.py") 381] } : Obj)) ::
  (nat_lit 138, ({ cls := Value.type "function", data := Data.func { name := Str.ofString "add", qualname := Str.ofString "TopologicalSorter.add", params := par138, body := FuncBody.stmts bod138, scope := sco138, globals := 3, closure := [], defaults := Value.none, kwdefaults := Value.none, pyModule := Value.str (Str.ofString "cpy313.graphlib") 277, code := Value.ref 137 } } : Obj)) ::
  (nat_lit 139, ({ cls := Value.type "tuple", data := Data.seq #[] } : Obj)) ::
  (nat_lit 142, ({ cls := Value.type "code", data := Data.fields #[Value.str (Str.ofString "prepare") 383, Value.str (Str.ofString "TopologicalSorter.prepare") 384, Value.str (Str.ofString "/claim/cut.py") 385, Value.int 98 0, Value.int 1 0, Value.int 0 0, Value.int 0 0, Value.int 3 0, Value.ref 139, Value.bool true, Value.int 181 0, Value.ref 140, Value.none, Value.none, Value.none, Value.ref 141, Value.int 386 0, Value.int 98 0, Value.str (Str.ofString "/claim/cut.py") 387] } : Obj)) ::
  (nat_lit 143, ({ cls := Value.type "function", data := Data.func { name := Str.ofString "prepare", qualname := Str.ofString "TopologicalSorter.prepare", params := par143, body := FuncBody.stmts bod143, scope := sco143, globals := 3, closure := [], defaults := Value.none, kwdefaults := Value.none, pyModule := Value.str (Str.ofString "cpy313.graphlib") 277, code := Value.ref 142 } } : Obj)) ::
  (nat_lit 144, ({ cls := Value.type "tuple", data := Data.seq #[] } : Obj)) ::
  (nat_lit 146, ({ cls := Value.type "tuple", data := Data.seq #[Value.str (Str.ofString "self") 392, Value.str (Str.ofString "result") 393, Value.str (Str.ofString "n2i") 394, Value.str (Str.ofString "node") 395] } : Obj)) ::
  (nat_lit 147, ({ cls := Value.type "tuple", data := Data.seq #[] } : Obj)) ::
  (nat_lit 149, ({ cls := Value.type "code", data := Data.fields #[Value.str (Str.ofString "get_ready") 389, Value.str (Str.ofString "TopologicalSorter.get_ready") 390, Value.str (Str.ofString "/claim/cut.py") 391, Value.int 106 0, Value.int 1 0, Value.int 0 0, Value.int 0 0, Value.int 3 0, Value.ref 144, Value.bool true, Value.int 181 0, Value.ref 145, Value.none, Value.ref 146, Value.ref 147, Value.ref 148, Value.int 396 0, Value.int 106 0, Value.str (Str.ofString "/claim/cut.py") 397] } : Obj)) ::
  (nat_lit 150, ({ cls := Value.type "function", data := Data.func { name := Str.ofString "get_ready", qualname := Str.ofString "TopologicalSorter.get_ready", params := par150, body := FuncBody.stmts bod150, scope := sco150, globals := 3, closure := [], defaults := Value.none, kwdefaults := Value.none, pyModule := Value.str (Str.ofString "cpy313.graphlib") 277, code := Value.ref 149 } } : Obj)) ::
  (nat_lit 151, ({ cls := Value.type "tuple", data := Data.seq #[] } : Obj)) ::
  (nat_lit 153, ({ cls := Value.type "tuple", data := Data.seq #[Value.str (Str.ofString "self") 402] } : Obj)) ::
  (nat_lit 154, ({ cls := Value.type "tuple", data := Data.seq #[] } : Obj)) ::
  (nat_lit 156, ({ cls := Value.type "code", data := Data.fields #[Value.str (Str.ofString "is_active") 399, Value.str (Str.ofString "TopologicalSorter.is_active") 400, Value.str (Str.ofString "/claim/cut.py") 401, Value.int 117 0, Value.int 1 0, Value.int 0 0, Value.int 0 0, Value.int 3 0, Value.ref 151, Value.bool true, Value.int 181 0, Value.ref 152, Value.none, Value.ref 153, Value.ref 154, Value.ref 155, Value.int 403 0, Value.int 117 0, Value.str (Str.ofString "/claim/cut.py") 404] } : Obj)) ::
  (nat_lit 157, ({ cls := Value.type "function", data := Data.func { name := Str.ofString "is_active", qualname := Str.ofString "TopologicalSorter.is_active", params := par157, body := FuncBody.stmts bod157, scope := sco157, globals := 3, closure := [], defaults := Value.none, kwdefaults := Value.none, pyModule := Value.str (Str.ofString "cpy313.graphlib") 277, code := Value.ref 156 } } : Obj)) ::
  (nat_lit 158, ({ cls := Value.type "tuple", data := Data.seq #[] } : Obj)) ::
  (nat_lit 160, ({ cls := Value.type "tuple", data := Data.seq #[Value.str (Str.ofString "self") 409] } : Obj)) ::
  (nat_lit 161, ({ cls := Value.type "tuple", data := Data.seq #[] } : Obj)) ::
  (nat_lit 163, ({ cls := Value.type "code", data := Data.fields #[Value.str (Str.ofString "__bool__") 406, Value.str (Str.ofString "TopologicalSorter.__bool__") 407, Value.str (Str.ofString "/claim/cut.py") 408, Value.int 122 0, Value.int 1 0, Value.int 0 0, Value.int 0 0, Value.int 3 0, Value.ref 158, Value.bool true, Value.int 181 0, Value.ref 159, Value.none, Value.ref 160, Value.ref 161, Value.ref 162, Value.int 410 0, Value.int 122 0, Value.str (Str.ofString "/claim/cut.py") 411] } : Obj)) ::
  (nat_lit 164, ({ cls := Value.type "function", data := Data.func { name := Str.ofString "__bool__", qualname := Str.ofString "TopologicalSorter.__bool__", params := par164, body := FuncBody.stmts bod164, scope := sco164, globals := 3, closure := [], defaults := Value.none, kwdefaults := Value.none, pyModule := Value.str (Str.ofString "cpy313.graphlib") 277, code := Value.ref 163 } } : Obj)) ::
  (nat_lit 165, ({ cls := Value.type "tuple", data := Data.seq #[] } : Obj)) ::
  (nat_lit 167, ({ cls := Value.type "tuple", data := Data.seq #[Value.str (Str.ofString "self") 416, Value.str (Str.ofString "nodes") 417, Value.str (Str.ofString "n2i") 418, Value.str (Str.ofString "node") 419, Value.str (Str.ofString "nodeinfo") 420, Value.str (Str.ofString "stat") 421, Value.str (Str.ofString "successor") 422, Value.str (Str.ofString "successor_info") 423] } : Obj)) ::
  (nat_lit 168, ({ cls := Value.type "tuple", data := Data.seq #[] } : Obj)) ::
  (nat_lit 170, ({ cls := Value.type "code", data := Data.fields #[Value.str (Str.ofString "done") 413, Value.str (Str.ofString "TopologicalSorter.done") 414, Value.str (Str.ofString "/claim/cut.py") 415, Value.int 125 0, Value.int 1 0, Value.int 0 0, Value.int 0 0, Value.int 7 0, Value.ref 165, Value.bool true, Value.int 181 0, Value.ref 166, Value.none, Value.ref 167, Value.ref 168, Value.ref 169, Value.int 424 0, Value.int 125 0, Value.str (Str.ofString "/claim/cut.py") 425] } : Obj)) ::
  (nat_lit 171, ({ cls := Value.type "function", data := Data.func { name := Str.ofString "done", qualname := Str.ofString "TopologicalSorter.done", params := par171, body := FuncBody.stmts bod171, scope := sco171, globals := 3, closure := [], defaults := Value.none, kwdefaults := Value.none, pyModule := Value.str (Str.ofString "cpy313.graphlib") 277, code := Value.ref 170 } } : Obj)) ::
  (nat_lit 172, ({ cls := Value.type "tuple", data := Data.seq #[] } : Obj)) ::
  (nat_lit 174, ({ cls := Value.type "tuple", data := Data.seq #[Value.str (Str.ofString "self") 430, Value.str (Str.ofString "n2i") 431, Value.str (Str.ofString "stack") 432, Value.str (Str.ofString "itstack") 433, Value.str (Str.ofString "seen") 434, Value.str (Str.ofString "node2stacki") 435, Value.str (Str.ofString "node") 436] } : Obj)) ::
  (nat_lit 175, ({ cls := Value.type "tuple", data := Data.seq #[] } : Obj)) ::
  (nat_lit 177, ({ cls := Value.type "code", data := Data.fields #[Value.str (Str.ofString "_find_cycle") 427, Value.str (Str.ofString "TopologicalSorter._find_cycle") 428, Value.str (Str.ofString "/claim/cut.py") 429, Value.int 148 0, Value.int 1 0, Value.int 0 0, Value.int 0 0, Value.int 3 0, Value.ref 172, Value.bool true, Value.int 181 0, Value.ref 173, Value.none, Value.ref 174, Value.ref 175, Value.ref 176, Value.int 437 0, Value.int 148 0, Value.str (Str.ofString "/claim/cut.py") 438] } : Obj)) ::
  (nat_lit 178, ({ cls := Value.type "function", data := Data.func { name := Str.ofString "_find_cycle", qualname := Str.ofString "TopologicalSorter._find_cycle", params := par178, body := FuncBody.stmts bod178, scope := sco178, globals := 3, closure := [], defaults := Value.none, kwdefaults := Value.none, pyModule := Value.str (Str.ofString "cpy313.graphlib") 277, code := Value.ref 177 } } : Obj)) ::
  (nat_lit 179, ({ cls := Value.type "tuple", data := Data.seq #[] } : Obj)) ::
  (nat_lit 181, ({ cls := Value.type "tuple", data := Data.seq #[Value.str (Str.ofString "self") 443] } : Obj)) ::
  (nat_lit 182, ({ cls := Value.type "tuple", data := Data.seq #[] } : Obj)) ::
  (nat_lit 184, ({ cls := Value.type "code", data := Data.fields #[Value.str (Str.ofString "static_order") 440, Value.str (Str.ofString "TopologicalSorter.static_order") 441, Value.str (Str.ofString "/claim/cut.py") 442, Value.int 177 0, Value.int 1 0, Value.int 0 0, Value.int 0 0, Value.int 3 0, Value.ref 179, Value.bool true, Value.int 181 0, Value.ref 180, Value.none, Value.ref 181, Value.ref 182, Value.ref 183, Value.int 444 0, Value.int 177 0, Value.str (Str.ofString "/claim/cut.py") 445] } : Obj)) ::
  (nat_lit 185, ({ cls := Value.type "function", data := Data.func { name := Str.ofString "static_order", qualname := Str.ofString "TopologicalSorter.static_order", params := par185, body := FuncBody.stmts bod185, scope := sco185, globals := 3, closure := [], defaults := Value.none, kwdefaults := Value.none, pyModule := Value.str (Str.ofString "cpy313.graphlib") 277, code := Value.ref 184 } } : Obj)) ::
  (nat_lit 186, ({ cls := Value.type "tuple", data := Data.seq #[Value.str (Str.ofString "_nfinished") 447, Value.str (Str.ofString "_node2info") 448, Value.str (Str.ofString "_npassedout") 449, Value.str (Str.ofString "_ready_nodes") 450] } : Obj)) ::
  (nat_lit 187, ({ cls := Value.type "dict", data := Data.dict #[{ hash := PyData.keyHash P (Str.ofString "__module__"), key := Value.str (Str.ofString "__module__") 347, val := Value.str (Str.ofString "cpy313.graphlib") 277 }, { hash := PyData.keyHash P (Str.ofString "__firstlineno__"), key := Value.str (Str.ofString "__firstlineno__") 351, val := Value.int 73 350 }, { hash := PyData.keyHash P (Str.ofString "__init__"), key := Value.str (Str.ofString "__init__") 361, val := Value.ref 124 }, { hash := PyData.keyHash P (Str.ofString "_get_nodeinfo"), key := Value.str (Str.ofString "_get_nodeinfo") 370, val := Value.ref 131 }, { hash := PyData.keyHash P (Str.ofString "add"), key := Value.str (Str.ofString "add") 382, val := Value.ref 138 }, { hash := PyData.keyHash P (Str.ofString "prepare"), key := Value.str (Str.ofString "prepare") 388, val := Value.ref 143 }, { hash := PyData.keyHash P (Str.ofString "get_ready"), key := Value.str (Str.ofString "get_ready") 398, val := Value.ref 150 }, { hash := PyData.keyHash P (Str.ofString "is_active"), key := Value.str (Str.ofString "is_active") 405, val := Value.ref 157 }, { hash := PyData.keyHash P (Str.ofString "__bool__"), key := Value.str (Str.ofString "__bool__") 412, val := Value.ref 164 }, { hash := PyData.keyHash P (Str.ofString "done"), key := Value.str (Str.ofString "done") 426, val := Value.ref 171 }, { hash := PyData.keyHash P (Str.ofString "_find_cycle"), key := Value.str (Str.ofString "_find_cycle") 439, val := Value.ref 178 }, { hash := PyData.keyHash P (Str.ofString "static_order"), key := Value.str (Str.ofString "static_order") 446, val := Value.ref 185 }, { hash := PyData.keyHash P (Str.ofString "__static_attributes__"), key := Value.str (Str.ofString "__static_attributes__") 451, val := Value.ref 186 }, { hash := PyData.keyHash P (Str.ofString "__dict__"), key := Value.str (Str.ofString "__dict__") 453, val := Value.ref 189 }, { hash := PyData.keyHash P (Str.ofString "__weakref__"), key := Value.str (Str.ofString "__weakref__") 455, val := Value.ref 190 }, { hash := PyData.keyHash P (Str.ofString "__doc__"), key := Value.str (Str.ofString "__doc__") 456, val := Value.none }] 4 } : Obj)) ::
  (nat_lit 188, ({ cls := Value.type "type", data := Data.cls { name := Str.ofString "TopologicalSorter", bases := [Value.type "object"], mro := [Value.ref 188, Value.type "object"], ns := 187, qualname := Str.ofString "TopologicalSorter" }, slots := #[none, none, some (Value.str (Str.ofString "TopologicalSorter") 340), some (Value.str (Str.ofString "TopologicalSorter") 348), some (Value.builtin "object.__new__"), some (Value.bool true)] } : Obj)) ::
  (nat_lit 189, ({ cls := Value.type "getset_descriptor", data := Data.fields #[Value.str (Str.ofString "__dict__") 452, Value.ref 188, Value.builtin "function.__dict__", Value.builtin "function.__dict__#set"] } : Obj)) ::
  (nat_lit 190, ({ cls := Value.type "getset_descriptor", data := Data.fields #[Value.str (Str.ofString "__weakref__") 454, Value.ref 188, Value.builtin "ExceptionGroup.__weakref__", Value.none] } : Obj)) ::
  (nat_lit 193, ({ cls := Value.type "tuple", data := Data.seq #[] } : Obj)) ::
  (nat_lit 195, ({ cls := Value.type "tuple", data := Data.seq #[Value.str (Str.ofString "port") 464, Value.str (Str.ofString "turn") 465, Value.str (Str.ofString "fields") 466] } : Obj)) ::
  (nat_lit 196, ({ cls := Value.type "tuple", data := Data.seq #[] } : Obj)) ::
  (nat_lit 198, ({ cls := Value.type "code", data := Data.fields #[Value.str (Str.ofString "_law_reply") 461, Value.str (Str.ofString "_law_reply") 462, Value.str (Str.ofString "/claim/cut.py") 463, Value.int 180 0, Value.int 2 0, Value.int 0 0, Value.int 0 0, Value.int 3 0, Value.ref 193, Value.bool true, Value.int 181 0, Value.ref 194, Value.none, Value.ref 195, Value.ref 196, Value.ref 197, Value.int 467 0, Value.int 180 0, Value.str (Str.ofString "/claim/cut.py") 468] } : Obj)) ::
  (nat_lit 199, ({ cls := Value.type "function", data := Data.func { name := Str.ofString "_law_reply", qualname := Str.ofString "_law_reply", params := par199, body := FuncBody.stmts bod199, scope := sco199, globals := 3, closure := [], defaults := Value.none, kwdefaults := Value.none, pyModule := Value.str (Str.ofString "law_oy0269_01") 459, code := Value.ref 198 } } : Obj)) ::
  (nat_lit 200, ({ cls := Value.type "tuple", data := Data.seq #[] } : Obj)) ::
  (nat_lit 202, ({ cls := Value.type "tuple", data := Data.seq #[Value.str (Str.ofString "held") 473, Value.str (Str.ofString "ports") 474, Value.str (Str.ofString "top") 475, Value.str (Str.ofString "paid") 476, Value.str (Str.ofString "first") 477, Value.str (Str.ofString "i") 478, Value.str (Str.ofString "j") 479, Value.str (Str.ofString "number") 480] } : Obj)) ::
  (nat_lit 203, ({ cls := Value.type "tuple", data := Data.seq #[] } : Obj)) ::
  (nat_lit 205, ({ cls := Value.type "code", data := Data.fields #[Value.str (Str.ofString "_law_paid") 470, Value.str (Str.ofString "_law_paid") 471, Value.str (Str.ofString "/claim/cut.py") 472, Value.int 183 0, Value.int 3 0, Value.int 0 0, Value.int 0 0, Value.int 3 0, Value.ref 200, Value.bool true, Value.int 181 0, Value.ref 201, Value.none, Value.ref 202, Value.ref 203, Value.ref 204, Value.int 481 0, Value.int 183 0, Value.str (Str.ofString "/claim/cut.py") 482] } : Obj)) ::
  (nat_lit 206, ({ cls := Value.type "function", data := Data.func { name := Str.ofString "_law_paid", qualname := Str.ofString "_law_paid", params := par206, body := FuncBody.stmts bod206, scope := sco206, globals := 3, closure := [], defaults := Value.none, kwdefaults := Value.none, pyModule := Value.str (Str.ofString "law_oy0269_01") 459, code := Value.ref 205 } } : Obj)) ::
  (nat_lit 207, ({ cls := Value.type "tuple", data := Data.seq #[] } : Obj)) ::
  (nat_lit 210, ({ cls := Value.type "code", data := Data.fields #[Value.str (Str.ofString "_law_rounds") 484, Value.str (Str.ofString "_law_rounds") 485, Value.str (Str.ofString "/claim/cut.py") 486, Value.int 192 0, Value.int 3 0, Value.int 0 0, Value.int 0 0, Value.int 3 0, Value.ref 207, Value.bool true, Value.int 181 0, Value.ref 208, Value.none, Value.none, Value.none, Value.ref 209, Value.int 487 0, Value.int 192 0, Value.str (Str.ofString "/claim/cut.py") 488] } : Obj)) ::
  (nat_lit 211, ({ cls := Value.type "function", data := Data.func { name := Str.ofString "_law_rounds", qualname := Str.ofString "_law_rounds", params := par211, body := FuncBody.stmts bod211, scope := sco211, globals := 3, closure := [], defaults := Value.none, kwdefaults := Value.none, pyModule := Value.str (Str.ofString "law_oy0269_01") 459, code := Value.ref 210 } } : Obj)) ::
  (nat_lit 212, ({ cls := Value.type "tuple", data := Data.seq #[] } : Obj)) ::
  (nat_lit 215, ({ cls := Value.type "code", data := Data.fields #[Value.str (Str.ofString "law") 490, Value.str (Str.ofString "law") 491, Value.str (Str.ofString "/claim/cut.py") 492, Value.int 203 0, Value.int 1 0, Value.int 0 0, Value.int 0 0, Value.int 3 0, Value.ref 212, Value.bool true, Value.int 181 0, Value.ref 213, Value.none, Value.none, Value.none, Value.ref 214, Value.int 493 0, Value.int 203 0, Value.str (Str.ofString "/claim/cut.py") 494] } : Obj)) ::
  (nat_lit 216, ({ cls := Value.type "function", data := Data.func { name := Str.ofString "law", qualname := Str.ofString "law", params := par216, body := FuncBody.stmts bod216, scope := sco216, globals := 3, closure := [], defaults := Value.none, kwdefaults := Value.none, pyModule := Value.str (Str.ofString "law_oy0269_01") 459, code := Value.ref 215 } } : Obj)) :: []
noncomputable def hd.addrs : List Addr := [nat_lit 2, nat_lit 3, nat_lit 15, nat_lit 17, nat_lit 18, nat_lit 20, nat_lit 21, nat_lit 22, nat_lit 24, nat_lit 25, nat_lit 27, nat_lit 28, nat_lit 29, nat_lit 36, nat_lit 37, nat_lit 38, nat_lit 39, nat_lit 42, nat_lit 49, nat_lit 50, nat_lit 51, nat_lit 54, nat_lit 61, nat_lit 62, nat_lit 63, nat_lit 66, nat_lit 68, nat_lit 69, nat_lit 71, nat_lit 72, nat_lit 80, nat_lit 81, nat_lit 83, nat_lit 84, nat_lit 86, nat_lit 87, nat_lit 88, nat_lit 90, nat_lit 91, nat_lit 92, nat_lit 93, nat_lit 94, nat_lit 97, nat_lit 104, nat_lit 105, nat_lit 106, nat_lit 107, nat_lit 117, nat_lit 118, nat_lit 120, nat_lit 121, nat_lit 123, nat_lit 124, nat_lit 125, nat_lit 127, nat_lit 128, nat_lit 130, nat_lit 131, nat_lit 132, nat_lit 134, nat_lit 135, nat_lit 137, nat_lit 138, nat_lit 139, nat_lit 142, nat_lit 143, nat_lit 144, nat_lit 146, nat_lit 147, nat_lit 149, nat_lit 150, nat_lit 151, nat_lit 153, nat_lit 154, nat_lit 156, nat_lit 157, nat_lit 158, nat_lit 160, nat_lit 161, nat_lit 163, nat_lit 164, nat_lit 165, nat_lit 167, nat_lit 168, nat_lit 170, nat_lit 171, nat_lit 172, nat_lit 174, nat_lit 175, nat_lit 177, nat_lit 178, nat_lit 179, nat_lit 181, nat_lit 182, nat_lit 184, nat_lit 185, nat_lit 186, nat_lit 187, nat_lit 188, nat_lit 189, nat_lit 190, nat_lit 193, nat_lit 195, nat_lit 196, nat_lit 198, nat_lit 199, nat_lit 200, nat_lit 202, nat_lit 203, nat_lit 205, nat_lit 206, nat_lit 207, nat_lit 210, nat_lit 211, nat_lit 212, nat_lit 215, nat_lit 216]
noncomputable def hd.view_39 : Program := PySem.W.view prg [0, 2, 4, 5, 6, 7, 9, 10, 12, 13, 14, 15, 16, 17, 18]
end
section
noncomputable abbrev hk : Hook := kHook hd.heap_39 hd.addrs (fun _ => by kernel_rfl)
theorem hleft : LeftO PySem.Challenge.rw_oy0269_01.row.toRowW.prog hd.view_39 [Str.ofString "_NodeInfo"] (fun s => xlAt hd.view_39 [] s && recOk (RowW.records PySem.Challenge.rw_oy0269_01.row.toRowW) s) (Hook.obs hk) (Hook.val hk) 3888 := fun w => by kernel_rfl
end
section
abbrev Ledger := List (Addr × Obj)
/-- what stands behind a statement, out of sight -/
noncomputable def Cont (P : Flow → Shared → Prop) (f : Flow) (s : Shared) : Prop := P f s
/-- the statements behind one -/
structure CutK (M : Model) (A : Around) (r : List Stmt) (env : Env) (Q : Flow → Shared → Prop) (E : Value → Shared → Prop) (P : Flow → Shared → Prop) : Prop where
  nx : ∀ s, wpAny M A (execs r env) Q E s → P .next s
  ot : ∀ f s, f ≠ .next → Q f s → P f s
theorem execs_cut {M : Model} {A : Around} {a : Stmt} {r : List Stmt} {env : Env} {Q : Flow → Shared → Prop} {E : Value → Shared → Prop} {s : Shared}
    (h : ∀ (zP : Flow → Shared → Prop) (zK : CutK M A r env Q E zP), wpAny M A (exec a env) (Cont zP) E s) : wpAny M A (execs (a :: r) env) Q E s :=
  wpAny_execs_cons (wpAny_mono (h (fun f s' => match f with | .next => wpAny M A (execs r env) Q E s' | f => Q f s') ⟨fun _ h => h, fun f _ hf h => by cases f <;> first | exact h | exact absurd rfl hf⟩) (fun _ _ h => h) fun _ _ h => h)
theorem execs_cutT {M : Model} {A : Around} {a : Stmt} {r : List Stmt} {env : Env} {Q : Flow → Shared → Prop} {E : Value → Shared → Prop} {s : Shared}
    (h : ∀ (tk : Tok) (zP : Flow → Shared → Prop) (zK : CutK M A r env Q E zP), wpAny M A (exec a env) (Cont zP) E { s with toks := tk }) : wpAny M A (execs (a :: r) env) Q E s := execs_cut (h s.toks)
section
variable {M : Model} {A : Around} {r : List Stmt} {env : Env} {Q : Flow → Shared → Prop} {E : Value → Shared → Prop} {P : Flow → Shared → Prop} {s : Shared} {v : Value}
theorem cont_next (K : CutK M A r env Q E P) (h : wpAny M A (execs r env) Q E s) : Cont P .next s := K.nx s h
theorem cont_brk (K : CutK M A r env Q E P) (h : Q .brk s) : Cont P .brk s := K.ot _ s nofun h
theorem cont_cont (K : CutK M A r env Q E P) (h : Q .cont s) : Cont P .cont s := K.ot _ s nofun h
theorem cont_ret (K : CutK M A r env Q E P) (h : Q (.ret v) s) : Cont P (.ret v) s := K.ot _ s nofun h
/-- the end of a def's body -/
structure EntK (R : Result → Shared → Prop) (P : Flow → Shared → Prop) : Prop where
  nx : ∀ s, R (.ok (.ret .none)) s → P .next s
  rt : ∀ v s, R (.ok (.ret v)) s → P (.ret v) s
theorem ent_next {R : Result → Shared → Prop} (K : EntK R P) (h : R (.ok (.ret .none)) s) : Cont P .next s := K.nx s h
theorem ent_ret {R : Result → Shared → Prop} (K : EntK R P) (h : R (.ok (.ret v)) s) : Cont P (.ret v) s := K.rt v s h
structure EntE (M : Model) (A : Around) (env : Env) (E : Value → Shared → Prop) : Prop where
  po : PassesOwn M A env E
  pa : ∀ e : Addr, PassesOwnAt M (A.mark (some (.ref e))) A env E
  pm : ∀ e : Addr, PassesOwn M (A.mark (some (.ref e))) env E
theorem ent_cut {R : Result → Shared → Prop} {body : List Stmt} {E : Value → Shared → Prop} (O : EntE M A env E)
    (h : ∀ (zP : Flow → Shared → Prop) (zE : Value → Shared → Prop) (zK : EntK R zP) (zO : EntE M A env zE), wpAny M A (execs body env) (Cont zP) zE s) :
    wpAny M A (execs body env) (fun fl s' => R (.ok (.ret (match fl with | .ret v => v | _ => .none))) s') E s :=
  h _ E ⟨fun _ h => h, fun _ _ h => h⟩ O
/-- the end of a for loop's turn -/
structure ForK (h₀ : Heap) (L I : Addr) (o : Obj) (J : (Str → Option Value) → Ledger → Prop) (g : Array GenState) (d : Drawn) (os : OsState) (Q P : Flow → Shared → Prop) : Prop where
  nx : ∀ h' tk m news, Fr h₀ L h' m → News h₀ L h' ((I, o) :: news) → J m news → P .next ⟨h', g, d, tk, os⟩
  co : ∀ h' tk m news, Fr h₀ L h' m → News h₀ L h' ((I, o) :: news) → J m news → P .cont ⟨h', g, d, tk, os⟩
  bk : ∀ s', Q .next s' → P .brk s'
  rt : ∀ v s', Q (.ret v) s' → P (.ret v) s'
section
variable {h₀ h' : Heap} {L I : Addr} {o : Obj} {J : (Str → Option Value) → Ledger → Prop} {tk : Tok} {m : Str → Option Value} {news : Ledger} {g : Array GenState} {d : Drawn} {os : OsState}
theorem for_nx (K : ForK h₀ L I o J g d os Q P) (F : Fr h₀ L h' m) (N : News h₀ L h' ((I, o) :: news)) (j : J m news) : Cont P .next ⟨h', g, d, tk, os⟩ := K.nx h' tk m news F N j
theorem for_co (K : ForK h₀ L I o J g d os Q P) (F : Fr h₀ L h' m) (N : News h₀ L h' ((I, o) :: news)) (j : J m news) : Cont P .cont ⟨h', g, d, tk, os⟩ := K.co h' tk m news F N j
theorem for_bk (K : ForK h₀ L I o J g d os Q P) {s' : Shared} (h : Q .next s') : Cont P .brk s' := K.bk s' h
theorem for_rt (K : ForK h₀ L I o J g d os Q P) {s' : Shared} (h : Q (.ret v) s') : Cont P (.ret v) s' := K.rt v s' h
end
/-- the end of a while loop's turn -/
structure WhlK (I : Nat → Shared → Prop) (Q : Flow → Shared → Prop) (n : Nat) (P : Flow → Shared → Prop) : Prop where
  nx : ∀ n' s, n' < n → I n' s → P .next s
  co : ∀ n' s, n' < n → I n' s → P .cont s
  bk : ∀ s, Q .next s → P .brk s
  rt : ∀ v s, Q (.ret v) s → P (.ret v) s
section
variable {I : Nat → Shared → Prop} {n n' : Nat}
theorem whl_nx (K : WhlK I Q n P) (h : n' < n) (i : I n' s) : Cont P .next s := K.nx n' s h i
theorem whl_co (K : WhlK I Q n P) (h : n' < n) (i : I n' s) : Cont P .cont s := K.co n' s h i
theorem whl_bk (K : WhlK I Q n P) (h : Q .next s) : Cont P .brk s := K.bk s h
theorem whl_rt (K : WhlK I Q n P) (h : Q (.ret v) s) : Cont P (.ret v) s := K.rt v s h
end
end
/-- addresses all apart, at hand for the walk -/
noncomputable def NDF (l : Ledger) : Prop := (l.map (·.1)).Nodup
inductive Two (a b : Addr) : Ledger → Prop
  | here {o o' : Obj} {r : Ledger} (_ : (b, o') ∈ r) : Two a b ((a, o) :: r)
  | rev {o o' : Obj} {r : Ledger} (_ : (a, o') ∈ r) : Two a b ((b, o) :: r)
  | there {p : Addr × Obj} {r : Ledger} (_ : Two a b r) : Two a b (p :: r)
theorem NDF.ne {a b : Addr} {l : Ledger} (N : NDF l) (h : Two a b l) : a ≠ b := by
  induction h with
  | here h => exact fun e => (List.nodup_cons.mp N).1 (List.mem_map.mpr ⟨_, h, e.symm⟩)
  | rev h => exact fun e => (List.nodup_cons.mp N).1 (List.mem_map.mpr ⟨_, h, e⟩)
  | there _ ih => exact ih (List.nodup_cons.mp N).2
inductive Tl (t : Ledger) : Ledger → Prop
  | rfl : Tl t t
  | tl {p : Addr × Obj} {r : Ledger} (_ : Tl t r) : Tl t (p :: r)
theorem Tl.mem {t l : Ledger} (h : Tl t l) : ∀ p ∈ t, p ∈ l := by
  induction h with
  | rfl => exact fun _ h => h
  | tl _ ih => exact fun p hp => .tail _ (ih p hp)
inductive Suf (a : Addr) (t : Ledger) : Ledger → Prop
  | here {o : Obj} {r : Ledger} (_ : Tl t r) : Suf a t ((a, o) :: r)
  | there {p : Addr × Obj} {r : Ledger} (_ : Suf a t r) : Suf a t (p :: r)
theorem NDF.all {a : Addr} {t l : Ledger} (N : NDF l) (h : Suf a t l) : ∀ p ∈ t, p.1 ≠ a := by
  induction h with
  | here h => exact fun p hp e => (List.nodup_cons.mp N).1 (List.mem_map.mpr ⟨p, h.mem p hp, e⟩)
  | there _ ih => exact ih (List.nodup_cons.mp N).2
end
section
structure St (h₀ h : Heap) (ps : Ledger) : Prop where
  keep : ∀ b o, h₀.get? b = some o → h.get? b = some o
  size : h₀.objs.size ≤ h.objs.size
  led : ∀ p ∈ ps, h.get? p.1 = some p.2 ∧ h₀.get? p.1 = none
  nd : (ps.map (·.1)).Nodup
theorem St.lt {h₀ h : Heap} {ps : Ledger} (S : St h₀ h ps) : ∀ p ∈ ps, p.1 < h.objs.size := fun p hp => Heap.lt_size (S.led p hp).1
theorem St.of_fr {h₀ h : Heap} {L : Addr} {m : Str → Option Value} {ps : Ledger} (F : Fr h₀ L h m) (N : News h₀ L h ps) (nd : (ps.map (·.1)).Nodup) :
    ∃ oL, TI.Caller h₀ L m oL ∧ St h₀ h ((L, oL) :: ps) := by
  obtain ⟨oL, es, ep, hL, hLd, hLk, hLf⟩ := F.ns
  refine ⟨oL, ⟨fun h' sl e => ⟨_, es, ep, e, hLd, hLk, hLf⟩, ⟨es, ep, hLd⟩, F.above⟩, ⟨F.keep, Nat.le_of_lt (Nat.lt_of_le_of_lt F.above (Heap.lt_size hL)), fun p hp => ?_, ?_⟩⟩
  · rcases List.mem_cons.mp hp with rfl | hp
    · exact ⟨hL, Heap.get?_none_of_le F.above⟩
    · exact ⟨(N p hp).1, (N p hp).2.2⟩
  · refine List.nodup_cons.mpr ⟨fun hm => ?_, nd⟩
    obtain ⟨p, hp, e⟩ := List.mem_map.mp hm
    exact (N p hp).2.1 e
theorem St.to_fr {h₀ h : Heap} {L : Addr} {m : Str → Option Value} {ps : Ledger} {oL : Obj} {sl : Array (Option Value)} (C : TI.Caller h₀ L m oL) (S : St h₀ h ((L, { oL with slots := sl }) :: ps)) :
    Fr h₀ L h m ∧ News h₀ L h ps ∧ (ps.map (·.1)).Nodup := by
  have hL := (S.led _ (List.mem_cons_self)).1
  have nd := List.nodup_cons.mp S.nd
  refine ⟨⟨C.ns h sl hL, S.keep, C.above⟩, fun p hp => ⟨(S.led p (List.mem_cons_of_mem _ hp)).1, fun e => ?_, (S.led p (List.mem_cons_of_mem _ hp)).2⟩, nd.2⟩
  exact nd.1 (List.mem_map.mpr ⟨p, hp, e⟩)
theorem St.perm {h₀ h : Heap} {ps qs : Ledger} (S : St h₀ h ps) (P : ps.Perm qs) : St h₀ h qs :=
  ⟨S.keep, S.size, fun p hp => S.led p (P.mem_iff.mpr hp), (P.map _).nodup_iff.mp S.nd⟩
theorem St.sub {h₀ h : Heap} {ps qs : Ledger} (S : St h₀ h ps) (P : qs.Sublist ps) : St h₀ h qs :=
  ⟨S.keep, S.size, fun p hp => S.led p (P.subset hp), List.Nodup.sublist (P.map _) S.nd⟩
/-- the ground of a call -/
structure Gd (w : World) (p : Program) (loose : List Str) (mean : ExcName → Option Value) (mg mb : Str → Option Value) (h₀ : Heap) (A : Around) (l : List Env) (need : Nat) : Prop where
  X : (Mine.hd.heap_39 w.params).In h₀
  T : Top p loose mean mg mb h₀
  fr : A.frames = some l
  hn : A.handled = none
  dp : A.depth + need < recursionLimit
  un : A.units + 8 * need < cLine
/-- a contract of a call -/
noncomputable def Con (w : World) (f : Value) (args : List Value) (need : Nat) (pre : Ledger) (post : Value → Ledger → Prop) : Prop :=
  ∀ (p : Program) (loose : List Str) (mean : ExcName → Option Value) (mg mb : Str → Option Value) (h₀ : Heap) (A : Around) (l : List Env) (frs rest : Ledger) (s : Shared) (Q E : Value → Shared → Prop),
    Gd w p loose mean mg mb h₀ A l need → TI.Frs l frs → St h₀ s.heap (pre ++ (rest ++ frs)) →
    (∀ r h' tk' new frs', TI.SameUp frs frs' → TI.Frs l frs' → St h₀ h' (new ++ (rest ++ frs')) → post r new → Q r { s with heap := h', toks := tk' }) →
    wpAny (model prg w) A (call f args) Q E s
theorem enter {w : World} {p : Program} {loose : List Str} {mean : ExcName → Option Value} {mg mb : Str → Option Value} {h₀ : Heap} {A : Around} {l : List Env} {need : Nat} {ps : Ledger} {s : Shared} {R : Result → Shared → Prop}
    {name qual : Str} {params : Arguments} {body : List Stmt} {scope : Scope} {dV kV doc pm cdv ct oc : Value} {an od : Option Addr} {osl : Array (Option Value)} {f : Addr} {args : Args} {binds : List (Str × Value)}
    (G : Gd w p loose mean mg mb h₀ A l need) (S : St h₀ s.heap ps)
    (ho : (Mine.hd.heap_39 w.params).lookup f = some ⟨oc, od, .func (fnOf name qual params body scope dV kV doc pm an cdv ct), osl⟩) (hcd : codeIn (Mine.hd.heap_39 w.params) cdv qual = true)
    (hbind : BindsTo s (fnOf name qual params body scope dV kV doc pm an cdv ct) args binds) (hloc : ∀ y ∈ binds, scope.names.lookup y.1 = some .local)
    (h : ∀ h₁, Fr h₀ s.heap.objs.size h₁ (fun y => binds.reverse.lookup y) → News h₀ s.heap.objs.size h₁ ps → (∀ p ∈ ps, p.1 < s.heap.objs.size) → s.heap.objs.size < h₁.objs.size →
      ∀ (zP : Flow → Shared → Prop) (zE : Value → Shared → Prop) (_ : EntK R zP) (_ : EntE (model prg w) (A.deeper (envOf qual scope s.heap.objs.size f cdv)) (envOf qual scope s.heap.objs.size f cdv) zE),
      wpAny (model prg w) (A.deeper (envOf qual scope s.heap.objs.size f cdv)) (execs body (envOf qual scope s.heap.objs.size f cdv)) (Cont zP) zE { s with heap := h₁, toks := s.toks + binds.length })
    (hco : scope.isCoroutine = false := by rfl) (hgen : scope.isGenerator = false := by rfl) (hk : scope.kind = .function := by rfl)
    (hcell : ∀ x ∈ scope.names, x.2 ≠ .cell := by decide) : codeAny (model prg w) A (.call (.ref f) args) R s := by
  have X := G.X.keeps S.keep
  refine codeAny_call_def (fd := fnOf name qual params body scope dV kV doc pm an cdv ct) (body := body) (binds := binds) (Nat.lt_of_le_of_lt (Nat.le_add_right _ _) G.dp) (X _ _ ho) rfl (G.T.nolimit.keeps S.keep) (codeRec_of X hcd) rfl hbind hcell hloc (fun h₁ hns hk₁ => ?_) hco hgen hk
  have up : ∀ b o, s.heap.get? b = some o → h₁.get? b = some o := fun b o e => hk₁ b o e
  refine ent_cut ⟨PassesOwn.leaving, fun _ => PassesOwnAt.leaving, fun _ => by passes_own⟩ (h h₁ ⟨hns, fun b o e => up b o (S.keep b o e), S.size⟩ (fun p hp => ?_) S.lt ?_)
  · obtain ⟨h1, h3⟩ := S.led p hp
    exact ⟨up _ _ h1, Nat.ne_of_lt (Heap.lt_size h1), h3⟩
  · obtain ⟨oL, es, ep, hL, _⟩ := hns
    exact Heap.lt_size hL
noncomputable def TurnEnd (I : Nat → Shared → Prop) (Q : Flow → Shared → Prop) (n : Nat) (f : Flow) (s : Shared) : Prop := match f with
  | .next | .cont => ∃ n', n' < n ∧ I n' s
  | .brk => Q .next s
  | .ret v => Q (.ret v) s
/-- a while by an invariant with a measure -/
theorem while_ind {w : World} {prog : Program} {A : Around} {E : Value → Shared → Prop} {env : Env} {test : Expr} {body orelse : List Stmt} {Q : Flow → Shared → Prop} {pos : Pos} {s : Shared}
    (I : Nat → Shared → Prop) (hE : PassesOwn (model prog w) A env E)
    (turn : ∀ n s, I n s → ∀ (zP : Flow → Shared → Prop) (_ : WhlK I Q n zP), wpAny (model prog w) A (isTrue test env (eval test env)) (fun b s₂ => WhlIf b
      (wpAny (model prog w) A (execs body env) (Cont zP) E s₂)
      (wpAny (model prog w) A (execs orelse env) Q E s₂)) E s)
    (n : Nat) (h0 : I n s) : wpAny (model prog w) A (exec (.While test body orelse pos) env) Q E s := by
  refine whl_start 0 ?_
  have all : ∀ n s, I n s → ∀ k, WhlRest prog w A E env test body orelse Q k s := by
    intro n
    induction n using Nat.strongRecOn with
    | ind n ih =>
      intro s h k
      have : WhlRest prog w A E env test body orelse Q (0 + 1) s := by
        refine whl_turn (k := 0) hE (wpAny_mono (turn n s h (TurnEnd I Q n) ⟨fun n' _ a b => ⟨n', a, b⟩, fun n' _ a b => ⟨n', a, b⟩, fun _ a => a, fun _ _ a => a⟩) (fun b s₂ h₂ => ?_) fun _ _ x => x)
        cases b with
        | false => exact h₂
        | true =>
          refine wpAny_mono h₂ (fun f s' hf => ?_) fun _ _ x => x
          cases f with
          | next => obtain ⟨n', hn, hi⟩ := hf; exact ih n' hn s' hi 0
          | cont => obtain ⟨n', hn, hi⟩ := hf; exact ih n' hn s' hi 0
          | brk => exact hf
          | ret v => exact hf
      exact this
  exact all n s h0 0
theorem whlIf_both {b : Bool} {T F : Prop} (t : b = true → T) (f : b = false → F) : WhlIf b T F := by
  cases b with
  | true => exact WhlIf.yes rfl (t rfl)
  | false => exact WhlIf.no rfl (f rfl)
theorem ne_of_all {d : Addr} {l : Ledger} (h : ∀ p ∈ l, p.1 < d) : ∀ p ∈ l, p.1 ≠ d := fun p hp => Nat.ne_of_lt (h p hp)
theorem ne_of_all' {d : Addr} {l : Ledger} (h : ∀ p ∈ l, p.1 ≠ d) : ∀ p ∈ l, p.1 ≠ d := h
theorem allLt_mem {d : Addr} {l : Ledger} (h : AllLt d l) : ∀ p ∈ l, p.1 < d := by
  induction l with
  | nil => intro p hp; cases hp
  | cons q r ih =>
    intro p hp
    rcases List.mem_cons.mp hp with e | hp
    · subst e; exact h.1
    · exact ih h.2 p hp
noncomputable def Stop (P : Prop) : Prop := P
theorem stop_in {P : Prop} (h : Stop P) : P := h
theorem stop_out {P : Prop} (h : P) : Stop P := h
theorem fr_congr {h₀ h : Heap} {L : Addr} {m m' : Str → Option Value} (F : Fr h₀ L h m) (e : ∀ y, m y = m' y) : Fr h₀ L h m' := by
  have : m = m' := funext e
  rw [← this]; exact F
/-- the end of a turn that skips like ones -/
structure SkipK (g : Array GenState) (d : Drawn) (os : OsState) (h₀ : Heap) (L : Addr) (fm : Int → Tok → Str → Option Value) (news : Ledger) (xs : List Int) (x k : Int) (Q P : Flow → Shared → Prop) : Prop where
  nx : ∀ h' tk t, xs[k.toNat]? = some x → Fr h₀ L h' (fm (k + 1) t) → News h₀ L h' news → P .next ⟨h', g, d, tk, os⟩
  bk : ∀ s', Q .next s' → P .brk s'
  rt : ∀ v s', Q (.ret v) s' → P (.ret v) s'
section
variable {g : Array GenState} {d : Drawn} {os : OsState} {h₀ h' : Heap} {L : Addr} {fm : Int → Tok → Str → Option Value} {news : Ledger} {xs : List Int} {x k : Int} {Q P : Flow → Shared → Prop} {tk t : Tok} {s' : Shared} {v : Value}
theorem skip_nx (K : SkipK g d os h₀ L fm news xs x k Q P) (hx : xs[k.toNat]? = some x) (F : Fr h₀ L h' (fm (k + 1) t)) (N : News h₀ L h' news) : Cont P .next ⟨h', g, d, tk, os⟩ := K.nx h' tk t hx F N
theorem skip_bk (K : SkipK g d os h₀ L fm news xs x k Q P) (h : Q .next s') : Cont P .brk s' := K.bk s' h
theorem skip_rt (K : SkipK g d os h₀ L fm news xs x k Q P) (h : Q (.ret v) s') : Cont P (.ret v) s' := K.rt v s' h
end
inductive SkipI (s : Shared) (h₀ : Heap) (L : Addr) (fm : Int → Tok → Str → Option Value) (news : Ledger) (xs : List Int) (x k0 : Int) (n : Nat) : Shared → Prop
  | mk (h' : Heap) (tk : Tok) (k : Int) (t : Tok) (_ : (n : Int) = xs.length - k) (_ : k0 ≤ k) (_ : k ≤ xs.length) (_ : (xs.drop k.toNat).dropWhile (· == x) = (xs.drop k0.toNat).dropWhile (· == x)) (_ : Fr h₀ L h' (fm k t)) (_ : News h₀ L h' news) : SkipI s h₀ L fm news xs x k0 n { s with heap := h', toks := tk }
theorem dropWhile_drop {xs : List Int} {x k : Int} (h0 : 0 ≤ k) (h : xs[k.toNat]? = some x) : (xs.drop k.toNat).dropWhile (· == x) = (xs.drop (k + 1).toNat).dropWhile (· == x) := by
  obtain ⟨hl, e⟩ := List.getElem?_eq_some_iff.mp h
  have e2 : (k + 1).toNat = k.toNat + 1 := by exact go_eq (lin [_, _] [_] [(1, (.i (.v 0) (.n (.v 1)))), (1, (.i (.n (.v 0)) (.a (.v 0) (.k 1))))] 1 (.n (.v 0) (.a (.v 1) (.k 1))) rfl (tn_a _) (tn_b (lin [] [_] [(1, (.i (.k 0) (.v 0)))] 1 (.i (.k 0) (.a (.v 0) (.k 1))) rfl h0))) (lin [_, _] [_] [(1, (.i (.a (.v 0) (.k 1)) (.n (.v 1)))), (1, (.i (.n (.v 0)) (.v 0)))] 1 (.n (.a (.v 0) (.k 1)) (.v 1)) rfl (tn_a _) (tn_b (h0)))
  rw [List.drop_eq_getElem_cons hl, e, e2]
  simp [List.dropWhile_cons]
theorem dropWhile_stop {xs : List Int} {x k n : Int} (h : xs[k.toNat]? = some n) (hn : n ≠ x) : (xs.drop k.toNat).dropWhile (· == x) = xs.drop k.toNat := by
  obtain ⟨hl, e⟩ := List.getElem?_eq_some_iff.mp h
  rw [List.drop_eq_getElem_cons hl, e]
  simp [List.dropWhile_cons, hn]
theorem while_skip {w : World} {prog : Program} {A : Around} {E : Value → Shared → Prop} {env : Env} {test : Expr} {body orelse : List Stmt} {Q : Flow → Shared → Prop} {pos : Pos} {s : Shared} {h₀ : Heap} {L : Addr} {fm : Int → Tok → Str → Option Value} {news : Ledger} {xs : List Int} {x k0 : Int} {t0 : Tok}
    (F : Fr h₀ L s.heap (fm k0 t0)) (N : News h₀ L s.heap news) (h0 : 0 ≤ k0) (h1 : k0 ≤ xs.length) (hE : PassesOwn (model prog w) A env E)
    (turn : ∀ h' tk k t, k0 ≤ k → k ≤ xs.length → (xs.drop k.toNat).dropWhile (· == x) = (xs.drop k0.toNat).dropWhile (· == x) → Fr h₀ L h' (fm k t) → News h₀ L h' news → ∀ (zP : Flow → Shared → Prop) (_ : SkipK s.gens s.drawn s.os h₀ L fm news xs x k Q zP),
      wpAny (model prog w) A (isTrue test env (eval test env)) (fun b s₂ => WhlIf b (wpAny (model prog w) A (execs body env) (Cont zP) E s₂) (wpAny (model prog w) A (execs orelse env) Q E s₂)) E { s with heap := h', toks := tk }) :
    wpAny (model prog w) A (exec (.While test body orelse pos) env) Q E s := by
  refine while_ind (fun n s' => SkipI s h₀ L fm news xs x k0 n s') hE ?_ (xs.length - k0.toNat) (.mk s.heap s.toks k0 t0 (by exact go_eqi (lin [_, _, _] [_] [(1, (.i (.v 0) (.n (.v 2)))), (1, (.n (.a (.v 0) (.v 2)) (.v 1)))] 1 (.i (.n (.v 0)) (.s (.n (.v 1)) (.v 0))) rfl (tn_a _) (sub_c (lin [_, _] [_] [(1, (.i (.v 0) (.n (.v 1)))), (1, (.i (.n (.v 0)) (.v 0)))] 1 (.n (.v 0) (.v 1)) rfl h1 (tn_b (h0))))) (lin [_, _, _] [_] [(1, (.i (.n (.v 2)) (.v 0))), (1, (.n (.v 0) (.a (.v 1) (.v 2))))] 1 (.i (.s (.n (.v 0)) (.v 0)) (.n (.v 1))) rfl (tn_b (h0)) (sub_b _ _))) (by exact lin [] [_] [] 1 (.i (.v 0) (.v 0)) rfl) h1 rfl F N)
  rintro n _ ⟨h', tk, k, t, hn, hk, hl, hd, F', N'⟩ zP zK
  refine turn h' tk k t hk hl hd F' N' zP ⟨fun h2 tk2 t2 hx F2 N2 => ?_, zK.bk, zK.rt⟩
  have hlt := (List.getElem?_eq_some_iff.mp hx).1
  exact zK.nx (n - 1) _ (by exact (sub_c (lin [_, _, _] [_] [(1, (.i (.s (.n (.v 1)) (.v 0)) (.n (.v 0)))), (1, (.n (.a (.v 2) (.k 1)) (.v 1))), (1, (.i (.v 0) (.n (.v 2))))] 1 (.n (.k 1) (.v 0)) rfl (eqi_b hn) hlt (tn_a _)))) (.mk h2 tk2 (k + 1) t2 (by exact go_eqi (lin [_, _, _] [_] [(1, (.i (.n (.v 2)) (.s (.n (.v 1)) (.v 0)))), (1, (.n (.a (.v 0) (.k 1)) (.v 2)))] 1 (.i (.n (.v 0)) (.s (.n (.v 1)) (.a (.v 0) (.k 1)))) rfl (eqi_a hn) (sub_c (lin [_, _, _] [_] [(1, (.i (.s (.n (.v 1)) (.v 0)) (.n (.v 0)))), (1, (.n (.a (.v 2) (.k 1)) (.v 1))), (1, (.i (.v 0) (.n (.v 2))))] 1 (.n (.k 1) (.v 0)) rfl (eqi_b hn) hlt (tn_a _)))) (lin [_, _, _] [_] [(1, (.i (.s (.n (.v 0)) (.v 0)) (.n (.v 2)))), (1, (.n (.v 2) (.a (.v 1) (.k 1))))] 1 (.i (.s (.n (.v 0)) (.a (.v 0) (.k 1))) (.n (.v 1))) rfl (eqi_b hn) (sub_b _ _))) (by exact lin [] [_, _] [(1, (.i (.v 0) (.v 1)))] 1 (.i (.v 0) (.a (.v 1) (.k 1))) rfl hk) (by exact lin [_, _] [_] [(1, (.n (.a (.v 1) (.k 1)) (.v 0))), (1, (.i (.v 0) (.n (.v 1))))] 1 (.i (.a (.v 0) (.k 1)) (.n (.v 0))) rfl hlt (tn_a _)) ((dropWhile_drop (by exact lin [_] [_] [(1, (.i (.n (.v 0)) (.v 0)))] 1 (.i (.k 0) (.v 0)) rfl (tn_b (lin [] [_, _] [(1, (.i (.k 0) (.v 1))), (1, (.i (.v 1) (.v 0)))] 1 (.i (.k 0) (.v 0)) rfl h0 hk))) hx).symm.trans hd) F2 N2)
theorem St.of_news {h₀ h : Heap} {L : Addr} {m : Str → Option Value} {news ps : Ledger} (F : Fr h₀ L h m) (N : News h₀ L h news) (sub : ∀ p ∈ ps, p ∈ news) (nd : (ps.map (·.1)).Nodup) : St h₀ h ps := by
  obtain ⟨oL, es, ep, hL, _⟩ := F.ns
  exact ⟨F.keep, Nat.le_of_lt (Nat.lt_of_le_of_lt F.above (Heap.lt_size hL)), fun p hp => ⟨(N p (sub p hp)).1, (N p (sub p hp)).2.2⟩, nd⟩
theorem nodup_lt {d : Addr} {o : Obj} {ps : Ledger} (h : ∀ p ∈ ps, p.1 < d) (nd : (ps.map (·.1)).Nodup) : (((d, o) :: ps).map (·.1)).Nodup := by
  refine List.nodup_cons.mpr ⟨fun hm => ?_, nd⟩
  obtain ⟨p, hp, e⟩ := List.mem_map.mp hm
  have := h p hp
  have e' : p.1 = d := e
  rw [e'] at this
  exact Nat.lt_irrefl _ this
theorem su_map : ∀ {frs frs' : Ledger}, TI.SameUp frs frs' → frs'.map (·.1) = frs.map (·.1) := by
  intro frs
  induction frs with
  | nil => intro frs' h; cases frs' with
    | nil => rfl
    | cons _ _ => exact False.elim h
  | cons p ps ih => intro frs' h; cases frs' with
    | nil => exact False.elim h
    | cons q qs => simp only [List.map_cons, ih h.2.2, h.1]
theorem lt_up {frs frs' rest : Ledger} {d : Addr} (SU : TI.SameUp frs frs') (h : ∀ p ∈ rest ++ frs, p.1 < d) : ∀ p ∈ rest ++ frs', p.1 < d := fun p hp => by
  rcases List.mem_append.mp hp with hp | hp
  · exact h p (List.mem_append_left _ hp)
  · obtain ⟨q, hq, e⟩ := SU.fwd p hp
    rw [e]; exact h q (List.mem_append_right _ hq)
theorem all_cons {p : Addr × Obj} {l : Ledger} {P : Addr × Obj → Prop} (h : P p) (t : ∀ q ∈ l, P q) : ∀ q ∈ p :: l, P q := fun q hq => by
  rcases List.mem_cons.mp hq with rfl | hq
  · exact h
  · exact t q hq
theorem with_passes {M : Model} {A : Around} {env : Env} {E : Value → Shared → Prop} {body : List Stmt} {Q : Flow → Shared → Prop} {s : Shared} (h : PassesOwn M A env E) (k : PassesOwn M A env E → wpAny M A (execs body env) Q E s) : wpAny M A (execs body env) Q E s := k h
theorem with_passes1 {M : Model} {A : Around} {env : Env} {E : Value → Shared → Prop} {b : Stmt} {Q : Flow → Shared → Prop} {s : Shared} (h : PassesOwn M A env E) (k : PassesOwn M A env E → wpAny M A (exec b env) Q E s) : wpAny M A (exec b env) Q E s := k h
theorem with_passes3 {M : Model} {A : Around} {env : Env} {E : Value → Shared → Prop} {body : List Stmt} {Q : Flow → Shared → Prop} {s : Shared} (h : PassesOwn M A env E) (h2 : ∀ e : Addr, PassesOwnAt M (A.mark (some (.ref e))) A env E) (h3 : ∀ e : Addr, PassesOwn M (A.mark (some (.ref e))) env E)
    (k : PassesOwn M A env E → (∀ e : Addr, PassesOwnAt M (A.mark (some (.ref e))) A env E) → (∀ e : Addr, PassesOwn M (A.mark (some (.ref e))) env E) → wpAny M A (execs body env) Q E s) : wpAny M A (execs body env) Q E s := k h h2 h3
end
section
/-- what is handled: nothing, or an exception without a context -/
noncomputable def HH (A : Around) (h : Heap) : Prop := A.handled = none ∨ ∃ a o vs, A.handled = some (.ref a) ∧ h.get? a = some o ∧ o.data = .fields vs ∧ vs[2]? = some .none
theorem entry_unchain : entryFor table "proto.unchain" = some Builtin.«proto.unchain» := entryFor_of_fast (by kernel_rfl)
theorem push_size (h : Heap) (o : Obj) : (h.push o).objs.size = h.objs.size + 1 := by
  cases h; simp [Heap.push]
section
variable {prog : Program} {w : World} {A : Around} {E : Value → Shared → Prop} {s : Shared} {α : Type}
abbrev excO (cls : String) (vs : Array Value) : Obj := { cls := .type cls, data := .fields vs }
abbrev tbO (vs : Array Value) : Obj := { cls := .type "traceback", data := .fields vs }
theorem raiseNewH {e : Addr} {Q : α → Shared → Prop} {vs0 : Array Value} {cls : String} (hh : HH A s.heap) (he : s.heap.get? e = some (excO cls vs0)) (v1 : vs0[1]? = some .none) (v2 : vs0[2]? = some .none) (v6 : 6 ≤ vs0.size)
    (hne : ∀ a, A.handled = some (.ref a) → a ≠ e)
    (h : ∀ h' vs', (∀ b, b ≠ e → h'.get? b = s.heap.get? b) → h'.get? e = some (excO cls vs') → vs'[1]? = some .none → 6 ≤ vs'.size → (A.handled = none → vs'[2]? = some .none) → E (.ref e) { s with heap := h' }) :
    wpAny (model prog w) A (raiseNew (.ref e) : Sem α) Q E s := by
  unfold raiseNew
  refine wpAny_bind (wpAny_handled ?_)
  rcases hh with hh | ⟨a, o, vs, hh, ho, hod, h2⟩
  · rw [hh]
    have fin := h s.heap _ (fun _ _ => rfl) he v1 v6 (fun _ => v2)
    first
      | exact wpAny_throw fin
      | exact wpAny_bind (wpAny_pure (wpAny_throw fin))
  · rw [hh]
    have hae := hne a hh
    have hb : ((Value.ref a != Value.ref e) = true) := by
      have : Value.ref a ≠ Value.ref e := fun q => hae (Value.ref.inj q)
      simp [bne, this]
    simp only [hb, if_true]
    refine wpAny_bind ?_
    refine wpAny_holding (wpAny_runValue (codeAny_builtin entry_unchain ?_))
    unfold Builtin.«proto.unchain»
    simp only []
    refine wpAny_bind (wpAny_field ho hod h2 ?_)
    rw [if_pos (by decide)]
    unfold ret
    refine wpAny_pure ?_
    refine wpAny_bind ?_
    have hself := Heap.get?_update_self (Obj.mapFields (·.setIfInBounds 2 (Value.ref a))) he rfl
    have hupd : wpAny (model prog w) A (updateField e 2 (.ref a)) (fun _ s' => s' = { s with heap := s.heap.update e (Obj.mapFields (·.setIfInBounds 2 (.ref a))) }) (fun _ _ => False) s := by
      intro Γ p hΓ
      have := (wp_setField_iff (M := model prog w) Γ (.ref e) 2 (.ref a) (fun _ _ s' => s' = { s with heap := s.heap.update e (Obj.mapFields (·.setIfInBounds 2 (.ref a))) }) (fun _ _ _ => False) p s).mpr ⟨e, _, _, rfl, he, rfl, by exact lin [_] [] [(1, (.n (.k 6) (.v 0)))] 1 (.n (.a (.k 2) (.k 1)) (.v 0)) rfl v6, rfl⟩
      exact this
    refine wpAny_mono hupd (fun _ s' q => ?_) (fun _ _ f => f.elim)
    subst q
    exact wpAny_throw (h _ _ (fun b hb => Heap.get?_update_other _ _ (Ne.symm hb)) hself (by rw [Array.getElem?_setIfInBounds_ne (by decide)]; exact v1) (by rw [Array.size_setIfInBounds]; exact v6) (fun q => by rw [hh] at q; cases q))
structure NX (free : Prop) (h h' : Heap) (e : Addr) (cls : String) : Prop where
  keeps : ∀ b o, h.get? b = some o → h'.get? b = some o
  new : h.get? e = none
  there : ∃ vs, h'.get? e = some (excO cls vs) ∧ vs[1]? = some .none ∧ 6 ≤ vs.size ∧ (free → vs[2]? = some .none)
theorem raiseWordsH {cls msg : String} {Q : α → Shared → Prop} (hp : PlainExc cls) (hh : HH A s.heap)
    (h : ∀ h' tk e, NX (A.handled = none) s.heap h' e cls → E (.ref e) { s with heap := h', toks := tk }) :
    wpAny (model prog w) A (raiseErrorWords cls msg : Sem α) Q E s := by
  unfold raiseErrorWords
  refine wpAny_bind (wpAny_mkText (wpAny_bind ?_))
  unfold newExc newTuple
  refine wpAny_bind (wpAny_newObj_type ?_)
  refine wpAny_bind (m := firstArgMember _ _) (wpAny_of_eq (a := Value.none) (by simp only [firstArgMember, hp.first]; rfl) ?_)
  rw [hp.own]
  refine wpAny_newObj_type ?_
  have up : ∀ (o1 o2 : Obj) (b : Addr) (o : Obj), s.heap.get? b = some o → ((s.heap.push o1).push o2).get? b = some o := fun o1 o2 b o hb => Heap.get?_push_of_some _ (Heap.get?_push_of_some _ hb)
  refine raiseNewH (vs0 := #[.ref s.heap.objs.size, .none, .none, .none, .bool false, .none]) (cls := cls) (hh.imp id fun ⟨a, o, vs, x1, x2, x3, x4⟩ => ⟨a, o, vs, x1, up _ _ _ _ x2, x3, x4⟩) (Heap.get?_push_size _ rfl) rfl rfl (Nat.le_refl 6) (fun a ha q => ?_) (fun h' vs' k1 k2 k5 k6 k7 => ?_)
  · rcases hh with hh | ⟨a', o, vs, x1, x2, _⟩
    · rw [hh] at ha; cases ha
    · rw [x1] at ha
      have : a' = a := by cases ha; rfl
      subst this
      have h9 := Heap.lt_size x2
      rw [q] at h9
      simp only [push_size] at h9
      exact Nat.lt_irrefl _ (Nat.lt_trans h9 (Nat.lt_succ_self _))
  · refine h _ _ _ ⟨fun b o hb => (k1 b ?_).trans (up _ _ b o hb), Heap.get?_none_of_le (by simp), vs', k2, k5, k6, k7⟩
    intro q
    have h9 := Heap.lt_size hb
    rw [q] at h9
    simp only [push_size] at h9
    exact absurd h9 (Nat.not_lt.mpr (Nat.le_succ _))
theorem getItem_list_outH {l : Addr} {items : Array Value} {k : Int} {t : Tok} {Q : Value → Shared → Prop} (hA : HH A s.heap) (hl : s.heap.IsList l items)
    (hout : (items.size : Int) ≤ k) (hhi : k < 2 ^ 63)
    (hE : ∀ h' tk e, NX (A.handled = none) s.heap h' e "IndexError" → E (.ref e) { s with heap := h', toks := tk }) :
    wpAny (model prog w) A (getItem (.ref l) (.int k t)) Q E s := by
  obtain ⟨o, ho, hc, ne, hd⟩ := id hl
  unfold getItem
  try with_reducible refine wpAny_holding ?_
  first | refine wpAny_bind (wpAny_pure ?_) | skip
  refine wpAny_bind (wpAny_sequenceKey hl.typeIs (by decide) ?_)
  refine wpAny_bind (wpAny_callSpecial?_slot (name := Str.ofString "__getitem__") hl.typeIs slot_list_getitem
    (wpAny_call_entry slot_list_getitem hl.typeIs entry_list_getitem ?_ (args_list_getitem _ _)))
  show wpAny _ _ (Builtin.List.listSubscript? (.int k t) >>= _) _ _ s
  refine wpAny_bind (wpAny_listSubscript_int (fitsIndex_both (by exact lin [_] [_, _] [(2, (.i (.n (.v 0)) (.v 1))), (1, (.i (.a (.v 1) (.k 1)) (.v 0)))] 1 (.i (.g (.v 0)) (.v 1)) rfl hout (lt_i hhi)) hhi) ?_)
  obtain ⟨j, rfl⟩ := Int.eq_ofNat_of_zero_le (show 0 ≤ k by exact lin [_] [_] [(1, (.i (.n (.v 0)) (.v 0)))] 1 (.i (.k 0) (.v 0)) rfl hout)
  have hx : items[j]? = none := Array.getElem?_eq_none (by exact lin [_, _] [] [(1, (.i (.n (.v 0)) (.n (.v 1))))] 1 (.n (.v 0) (.v 1)) rfl hout)
  show wpAny _ _ ((seqItemAt l j >>= fun r => pure (r.map (j, ·))) >>= _) _ _ s
  refine wpAny_bind (wpAny_bind (wpAny_seqItemAt ho hd (wpAny_pure ?_)))
  rw [hx]
  first
    | exact wpAny_bind (wpAny_rule (raiseWordsH plainExc_IndexError hA hE))
    | exact wpAny_bind (wpAny_rule (wpAny_bind (raiseWordsH plainExc_IndexError hA hE)))
    | exact wpAny_bind (wpAny_bind (wpAny_rule (raiseWordsH plainExc_IndexError hA hE)))
    | exact wpAny_rule (raiseWordsH plainExc_IndexError hA hE)
/-- an item of a list of ints at a place that is 0 or more: it, or an IndexError -/
theorem item_or {value slice : PySem.Expr} {l : Addr} {vs : List Value} {ns : List Int} {k : Int} {u : Tok} {Q : Value → Shared → Prop} (hA : HH A s.heap) (hl : s.heap.IsList l vs.toArray) (hi : IntsAre vs ns) (hle : ns.length < 10000) (h0 : 0 ≤ k) (hil : k ≤ ns.length)
    (hin : ∀ n t, k < ns.length → ns[k.toNat]? = some n → Q (.int n t) s)
    (hE : k = ns.length → ∀ h' tk e, NX (A.handled = none) s.heap h' e "IndexError" → Stop (E (.ref e) { s with heap := h', toks := tk }))
    (hs : subscripted slice false (.ref l) (.int k u) = operate [.ref l, .int k u] (getItem (.ref l) (.int k u)) := by with_unfolding_all rfl)
    (hg : ∀ r, letTemporaryGo value (.ref l) r = pure () := by intro _; with_unfolding_all rfl) :
    wpAny (model prog w) A (subscriptTail value slice (.ref l) (.int k u)) Q E s := by
  have hlen := hi.length
  by_cases h : k < ns.length
  · have h' : k.toNat < ns.length := by exact lin [_, _] [_] [(1, (.i (.a (.v 0) (.k 1)) (.n (.v 1)))), (1, (.i (.n (.v 0)) (.v 0)))] 1 (.n (.a (.v 0) (.k 1)) (.v 1)) rfl (lt_i h) (tn_b (h0))
    have e : ns[k.toNat]? = some ns[k.toNat] := List.getElem?_eq_getElem h'
    refine item_list_ints hl hi h0 h (by omega) (fun t => ?_) hs hg
    have e2 : ns.getD k.toNat 0 = ns[k.toNat] := by simp [List.getD, e]
    rw [e2]
    exact hin _ t h e
  · have hil' : k = ns.length := by exact go_eqi (hil) ((not_lt_i h))
    exact tail_any hl.typeIs slot_list_getitem.lookup (getItem_list_outH hA hl (by simp; exact lin [_, _] [_] [(1, (.n (.v 0) (.v 1))), (1, (.i (.n (.v 1)) (.v 0)))] 1 (.i (.n (.v 0)) (.v 0)) rfl (eq_a hlen) (not_lt_i h)) (by omega) (hE hil')) hs
end
end
section
section
variable {prog : Program} {w : World} {A : Around} {E : Value → Shared → Prop} {s : Shared} {hb h h' : Heap} {L e tb : Addr} {m : Str → Option Value} {env : Env} {l : List Env} {frs new news news' : Ledger} {X : String} {vs tvs : Array Value}
theorem led_upd {d : Addr} {o o' : Obj} (F : Fr hb L h m) (N : News hb L h news) (U : Upd d o o' news news') (hs : Heap.SameBut d h h') (ho : h'.get? d = some o') : Fr hb L h' m ∧ News hb L h' news' := by
  obtain ⟨pre, post, rfl, rfl, h1, h2⟩ := U.split
  have hd := N (d, o) (List.mem_append_right _ List.mem_cons_self)
  obtain ⟨oL, es, ep, hL, r⟩ := F.ns
  refine ⟨⟨⟨oL, es, ep, (hs.2 L (Ne.symm hd.2.1)).trans hL, r⟩, fun b o hb' => (hs.2 b (fun q => ?_)).trans (F.keep b o hb'), F.above⟩, news_set N h1 h2 hs ho⟩
  rw [q, hd.2.2] at hb'; cases hb'
theorem noteNew {Q : Unit → Shared → Prop} (hA : A.frames = some (env :: l)) (hf : env.frame = some L) (hkm : env.scope.kind ≠ .module) (Fs : TI.Frs l frs) (F : Fr hb L s.heap m)
    (N : News hb L s.heap ((e, excO X vs) :: (new ++ frs))) (h1 : vs[1]? = some .none) (hap : ∀ p ∈ new, p.1 ∉ frs.map (·.1)) (hen : ∀ p ∈ new, p.1 ≠ e)
    (k : ∀ h' frs' tb tvs, TI.SameUp frs frs' → TI.Frs l frs' → Fr hb L h' m → News hb L h' ((tb, tbO tvs) :: (e, excO X (vs.setIfInBounds 1 (.ref tb))) :: (new ++ frs')) → tvs[3]? = some (rawInt L) →
      (∀ p ∈ (e, excO X vs) :: (new ++ frs), p.1 < tb) → L < tb → s.heap.objs.size ≤ h'.objs.size → Q () { s with heap := h' }) :
    wpAny (model prog w) A (noteFrame (.ref e) env) Q E s := by
  have hsz : 1 < vs.size := (Array.getElem?_eq_some_iff.mp h1).1
  have he := (N _ List.mem_cons_self).1
  have hfrs : ∀ p ∈ frs, s.heap.get? p.1 = some p.2 ∧ hb.get? p.1 = none := fun p hp => ⟨(N p (List.mem_cons_of_mem _ (List.mem_append_right _ hp))).1, (N p (List.mem_cons_of_mem _ (List.mem_append_right _ hp))).2.2⟩
  have hFF : s.heap.FunFrames hb (env :: l) := Heap.FunFrames.cons hkm hf F.ns (Heap.get?_none_of_le F.above) (Fs.fun hfrs)
  have hfm : (env :: l).filterMap (·.frame) = L :: frs.map (·.1) := by
    rw [List.filterMap_cons, hf, Fs.addrs]
  have heL := (N _ List.mem_cons_self).2.1
  have hef : e ∉ frs.map (·.1) := fun hm => by
    obtain ⟨p, hp, q⟩ := List.mem_map.mp hm
    obtain ⟨es, ep, hd⟩ := Fs.dict p hp
    have h2 := (hfrs p hp).1
    have q' : p.1 = e := q
    rw [q', he] at h2
    rw [← Option.some.inj h2] at hd
    cases hd
  unfold noteFrame
  simp only [hf]
  refine wpAny_bind (wpAny_field he rfl h1 ?_)
  rw [if_neg (by decide)]
  refine wpAny_bind (wpAny_frameOf_fun hA hFF hf fun h₁ hs₁ => ?_)
  refine wpAny_bind (wpAny_entryPlaceOf fun pl hpl => ?_)
  unfold EntryCells.newEntry newFields
  refine wpAny_bind (wpAny_newObj_type ?_ (hpl.sizeOk5 _ _ _ _ _))
  rw [hfm] at hs₁
  have h3v : (([Value.none, .ref L, .none, rawInt L, .none] ++ (if pl.isEmpty then List.replicate 6 Value.none else pl)).toArray)[3]? = some (rawInt L) := by
    rcases hpl with rfl | ⟨_, _, _, _, _, _, _, rfl⟩ <;> simp
  generalize ([Value.none, .ref L, .none, rawInt L, .none] ++ (if pl.isEmpty then List.replicate 6 Value.none else pl)).toArray = tv at h3v ⊢
  have het : e ∉ L :: frs.map (·.1) := fun hm => by
    rcases List.mem_cons.mp hm with q | hm
    · exact heL q
    · exact hef hm
  have he₁ : h₁.get? e = some _ := (hs₁.2.1 e het).trans he
  have he₂ := Heap.get?_push_of_some (h := h₁) (tbO tv) he₁
  have hlt : ∀ b o, s.heap.get? b = some o → b < h₁.objs.size := fun b o q => by rw [hs₁.1]; exact Heap.lt_size q
  refine wpAny_setField he₂ rfl hsz ?_
  have keep : ∀ b o, b ≠ e → h₁.get? b = some o → ((h₁.push (tbO tv)).update e (Obj.mapFields (·.setIfInBounds 1 (Value.ref h₁.objs.size)))).get? b = some o :=
    fun b o hbe hb => by
      rw [Heap.get?_update_other _ _ (Ne.symm hbe)]
      exact Heap.get?_push_of_some _ hb
  have hself := Heap.get?_update_self (Obj.mapFields (·.setIfInBounds 1 (Value.ref h₁.objs.size))) he₂ rfl
  have hbn : hb.get? h₁.objs.size = none := Heap.get?_none_of_le (by
    obtain ⟨oL, es, ep, hL, _⟩ := F.ns
    exact Nat.le_of_lt (Nat.lt_of_le_of_lt F.above (hlt _ _ hL)))
  have hLlt : L < h₁.objs.size := by
    obtain ⟨oL, es, ep, hL, _⟩ := F.ns
    exact hlt _ _ hL
  obtain ⟨frs', SU, ht⟩ := TI.sameUp_of (frs := frs) (h' := (h₁.push (tbO tv)).update e (Obj.mapFields (·.setIfInBounds 1 (Value.ref h₁.objs.size)))) fun p hp => by
    obtain ⟨sl, hs⟩ := hs₁.2.2 p.1 p.2 (hfrs p hp).1
    exact ⟨sl, keep _ _ (fun q => hef (List.mem_map.mpr ⟨p, hp, q⟩)) hs⟩
  have hTe : h₁.objs.size ≠ e := Nat.ne_of_gt (Heap.lt_size he₁)
  refine k _ frs' h₁.objs.size tv SU (Fs.up SU) ⟨?_, fun b o q => ?_, F.above⟩ (fun p hp => ?_) ?_ (fun p hp => ?_) hLlt ?_
  · obtain ⟨oL, es, ep, hL, r⟩ := F.ns
    obtain ⟨sl, hs⟩ := hs₁.2.2 L oL hL
    exact ⟨_, es, ep, keep _ _ (Ne.symm heL) hs, r⟩
  · have hbe : b ≠ e := fun z => by rw [z, (N _ List.mem_cons_self).2.2] at q; cases q
    refine keep b o hbe ((hs₁.2.1 b fun hm => ?_).trans (F.keep b o q))
    rcases List.mem_cons.mp hm with z | hm
    · rw [z, Heap.get?_none_of_le F.above] at q; cases q
    · obtain ⟨p, hp, z⟩ := List.mem_map.mp hm
      have z' : p.1 = b := z
      rw [← z', (hfrs p hp).2] at q; cases q
  · rcases List.mem_cons.mp hp with rfl | hp
    · refine ⟨(Heap.get?_update_other _ _ (Ne.symm hTe)).trans (Heap.get?_push_size h₁ rfl), Nat.ne_of_gt hLlt, hbn⟩
    · rcases List.mem_cons.mp hp with rfl | hp
      · exact ⟨hself, heL, (N _ List.mem_cons_self).2.2⟩
      · rcases List.mem_append.mp hp with hp | hp
        · obtain ⟨x1, x2, x3⟩ := N p (List.mem_cons_of_mem _ (List.mem_append_left _ hp))
          refine ⟨keep _ _ (hen p hp) ((hs₁.2.1 p.1 fun hm => ?_).trans x1), x2, x3⟩
          rcases List.mem_cons.mp hm with z | hm
          · exact x2 z
          · exact hap p hp hm
        · obtain ⟨x, hx, q⟩ := SU.fwd p hp
          obtain ⟨x1, x2, x3⟩ := N x (List.mem_cons_of_mem _ (List.mem_append_right _ hx))
          exact ⟨ht p hp, by rw [q]; exact x2, by rw [q]; exact x3⟩
  · exact h3v
  · exact hlt _ _ (N p hp).1
  · have e9 : ((h₁.push (tbO tv)).update e (Obj.mapFields (·.setIfInBounds 1 (Value.ref h₁.objs.size)))).objs.size = h₁.objs.size + 1 := by
      rw [Heap.size_after_update]; exact push_size _ _
    rw [e9, hs₁.1]; exact Nat.le_succ _
theorem noteAgain {Q : Unit → Shared → Prop} (hf : env.frame = some L) (he : s.heap.get? e = some (excO X vs)) (h1 : vs[1]? = some (.ref tb)) (ht : s.heap.get? tb = some (tbO tvs)) (h3 : tvs[3]? = some (rawInt L)) (k : Q () s) :
    wpAny (model prog w) A (noteFrame (.ref e) env) Q E s := by
  unfold noteFrame
  simp only [hf]
  refine wpAny_bind (wpAny_field he rfl h1 ?_)
  rw [if_pos (show (Value.ref tb != Value.none) = true from by simp)]
  refine wpAny_bind (wpAny_field ht rfl h3 ?_)
  rw [if_pos (show (rawInt L == rawInt L) = true from by simp)]
  exact wpAny_pure k
theorem flight {Q : Unit → Shared → Prop} {fr : Option Addr} (F : Fr hb L s.heap m) (N : News hb L s.heap news) (he : (e, excO X vs) ∈ news) (h1 : vs[1]? = some (.ref tb)) (h3 : 3 < tvs.size) (U : Upd tb (tbO tvs) (tbO (tvs.setIfInBounds 3 (fr.elim .none fun f => rawInt f))) news news')
    (k : ∀ h', Fr hb L h' m → News hb L h' news' → s.heap.objs.size ≤ h'.objs.size → Q () { s with heap := h' }) :
    wpAny (model prog w) A (setFlight (.ref e) fr) Q E s := by
  have ht : s.heap.get? tb = some (tbO tvs) := by
    obtain ⟨pre, post, rfl, _⟩ := U.split
    exact (N (tb, tbO tvs) (List.mem_append_right _ List.mem_cons_self)).1
  unfold setFlight
  refine wpAny_bind (wpAny_field (N _ he).1 rfl h1 ?_)
  rw [if_pos (show (Value.ref tb != Value.none) = true from by simp)]
  refine wpAny_setField ht rfl h3 ?_
  obtain ⟨F', N'⟩ := led_upd F N U (Heap.SameBut.update s.heap tb (Obj.mapFields (·.setIfInBounds 3 (fr.elim .none fun f => rawInt f)))) (Heap.get?_update_self (Obj.mapFields (·.setIfInBounds 3 (fr.elim .none fun f => rawInt f))) ht rfl)
  exact k _ F' N' (by rw [Heap.size_after_update]; exact Nat.le_refl _)
theorem passOnE {Q : Flow → Shared → Prop} {what : String} (hf : env.frame = some L) (F : Fr hb L s.heap m) (N : News hb L s.heap news) (he : (e, excO X vs) ∈ news) (h1 : vs[1]? = some (.ref tb)) (h3 : 3 < tvs.size) (U : Upd tb (tbO tvs) (tbO (tvs.setIfInBounds 3 (rawInt L))) news news')
    (k : ∀ h', Fr hb L h' m → News hb L h' news' → s.heap.objs.size ≤ h'.objs.size → E (.ref e) { s with heap := h' }) :
    wpAny (model prog w) A (PySem.passOn what (.ref e) env) Q E s := by
  unfold PySem.passOn
  refine wpAny_bind (wpAny_field (N _ he).1 rfl h1 ?_)
  rw [if_neg (show ¬ ((Value.ref tb == Value.none) = true) from by simp)]
  rw [hf]
  refine wpAny_bind (flight (fr := some L) F N he h1 h3 U fun h' F' N' hz => ?_)
  exact wpAny_throw (k h' F' N' hz)
theorem heldN_of {fl : Value} (F : Fr hb L h m) (N : News hb L h ((tb, tbO tvs) :: (e, excO X vs) :: news)) (h1 : vs[1]? = some (.ref tb)) (h3 : tvs[3]? = some fl) (hlt : ∀ p ∈ (e, excO X vs) :: news, p.1 < tb) :
    TT.HeldNA hb L h m e X news fl := by
  obtain ⟨t1, t2, t3⟩ := N _ List.mem_cons_self
  obtain ⟨e1, e2, e3⟩ := N _ (List.mem_cons_of_mem _ List.mem_cons_self)
  refine ⟨⟨F, ⟨_, vs, tb, _, tvs, e1, rfl, rfl, h1, t1, rfl, h3, t2, ?_, t3⟩, e3⟩, fun p hp => N p (List.mem_cons_of_mem _ (List.mem_cons_of_mem _ hp)), ?_⟩
  · exact Nat.ne_of_gt (hlt _ List.mem_cons_self)
  · intro ob vs' tb' q1 q2 q3 p hp
    rw [e1] at q1
    cases q1
    cases q2
    rw [h1] at q3
    cases q3
    exact Nat.ne_of_lt (hlt p (List.mem_cons_of_mem _ hp))
theorem nx_led {fr : Prop} {h₁ : Heap} (x : NX fr h h₁ e X) (F : Fr hb L h m) (N : News hb L h news) :
    ∃ vs, vs[1]? = some .none ∧ 6 ≤ vs.size ∧ (fr → vs[2]? = some .none) ∧ Fr hb L h₁ m ∧ News hb L h₁ ((e, excO X vs) :: news) ∧ ∀ p ∈ news, p.1 ≠ e := by
  obtain ⟨vs, he, h1, hs, h2⟩ := x.there
  obtain ⟨oL, es, ep, hL, r⟩ := F.ns
  refine ⟨vs, h1, hs, h2, ⟨⟨oL, es, ep, x.keeps _ _ hL, r⟩, fun b o q => x.keeps _ _ (F.keep b o q), F.above⟩, fun p hp => ?_, fun p hp q => ?_⟩
  · rcases List.mem_cons.mp hp with rfl | hp
    · refine ⟨he, fun q => ?_, ?_⟩
      · have q' : e = L := q
        have := x.new; rw [q', hL] at this; cases this
      · cases q : hb.get? e with
        | none => rfl
        | some o => have := x.new; rw [F.keep _ _ q] at this; cases this
    · exact ⟨x.keeps _ _ (N p hp).1, (N p hp).2⟩
  · have := (N p hp).1
    rw [q, x.new] at this; cases this
theorem note_held {fr : Prop} {Q : Unit → Shared → Prop} (hA : A.frames = some (env :: l)) (hf : env.frame = some L) (hkm : env.scope.kind ≠ .module) (Fs : TI.Frs l frs) (x : NX fr h s.heap e X) (F : Fr hb L h m) (N : News hb L h (new ++ frs))
    (hap : ∀ p ∈ new, p.1 ∉ frs.map (·.1))
    (k : ∀ h' frs', TI.SameUp frs frs' → TI.Frs l frs' → TT.HeldN hb L h' m e X (new ++ frs') → Q () { s with heap := h' }) :
    wpAny (model prog w) A (noteFrame (.ref e) env) Q E s := by
  obtain ⟨vs, h1, hs, h2, F', N', hne⟩ := nx_led x F N
  refine noteNew hA hf hkm Fs F' N' h1 hap (fun p hp => hne p (List.mem_append_left _ hp)) fun h' frs' tb tvs SU Fs' F2 N2 h3 hlt _ _ => k h' frs' SU Fs' ?_
  refine heldN_of F2 N2 (by rw [Array.getElem?_setIfInBounds, if_pos rfl, if_pos (show 1 < vs.size by exact lin [_] [] [(1, (.n (.k 6) (.v 0)))] 1 (.n (.a (.k 1) (.k 1)) (.v 0)) rfl hs)]) h3 fun p hp => ?_
  rcases List.mem_cons.mp hp with q | hp
  · rw [q]; exact hlt (e, excO X vs) List.mem_cons_self
  · rcases List.mem_append.mp hp with hp | hp
    · exact hlt p (List.mem_cons_of_mem _ (List.mem_append_left _ hp))
    · obtain ⟨y, hy, q⟩ := SU.fwd p hp
      rw [q]
      exact hlt y (List.mem_cons_of_mem _ (List.mem_append_right _ hy))
end
section
variable {prog : Program} {w : World} {A₀ : Around} {E : Value → Shared → Prop} {s' : Shared} {h₀ h : Heap} {L a e : Addr} {m : Str → Option Value} {name : Str} {scope : Scope} {cd : Value} {news : Ledger}
  {b₀ : Stmt} {suite : List Stmt} {pos np : Pos} {rest : List ExceptHandler} {Q : Flow → Shared → Prop} {X : String} {x : Str} {p : Program} {loose : List Str} {mean : ExcName → Option Value} {mg mb : Str → Option Value} {K : Frag}
theorem handle_hit {fl : Value} (H : TT.HeldNA h₀ L s'.heap m e X news fl) (X0 : K.In h₀) (T : Top p loose mean mg mb h₀) (en : nsIn K mainGlobals x = some none) (hv : bootBuiltins x = some (.type x.toString))
    (k : ∀ h', Fr h₀ L h' m → News h₀ L h' news → wpAny (model prog w) ((A₀.deeper (envOf name scope L a cd)).mark (some (.ref e))) (execs (b₀ :: suite) (envOf name scope L a cd)) Q E { s' with heap := h' })
    (h3 : subB X (.type x.toString) = some true := by decide +kernel) (h1 : subB x.toString (.type "BaseException") = some true := by decide +kernel)
    (h2 : subB ((Manifest.find? x.toString).elim "type" fun y => y.metatype) (.type "tuple") = some false := by decide +kernel) (hn : x ≠ "__name__" := by decide)
    (hk : scope.kind = .function := by rfl) (hxk : (envOf name scope L a cd).kindOf x = some .globalImplicit := by rfl) (hdb : (x == ("__debug__" : Str)) = false := by decide)
    (hE : PassesOwnAt (model prog w) ((A₀.deeper (envOf name scope L a cd)).mark (some (.ref e))) (A₀.deeper (envOf name scope L a cd)) (envOf name scope L a cd) E := by passes_own) :
    wpAny (model prog w) (A₀.deeper (envOf name scope L a cd)) (handleBy (.ref e) (envOf name scope L a cd) (.ExceptHandler (some (.Name x np)) none (b₀ :: suite) pos :: rest)) Q E s' := by
  refine wpAny_handleBy_builtin (X := X) (T := x.toString) (b := true) (isSubtype_of_subB h1) (isSubtype_of_subB h2) (isSubtype_of_subB h3) (wpAny_passesOwnAt hE (name_B H.held.fr X0 (topRead_of T) en hv hn ⟨rfl, H.isA, ?_⟩ hk hxk hdb))
  rw [if_pos rfl]
  exact H.lands fun h' F' N' => wpAny_passesOwnAt hE (k h' F' N')
end
section
variable {prog : Program} {w : World} {A : Around} {E : Value → Shared → Prop} {s : Shared} {h₀ : Heap} {L D b : Addr} {m : Str → Option Value} {news : Ledger} {news' : Nat → Ledger} {its its2 : Array Value} {n n2 : Nat}
theorem extend_K {Q : Value → Shared → Prop} (F : Fr h₀ L s.heap m) (N : News h₀ L s.heap news) (hb : (b, listOf its2 n2) ∈ news)
    (U : ∀ n', Upd D (listOf its n) (listOf (its ++ its2) n') news (news' n')) (hz : its.size + its2.size ≤ 100000)
    (h : ∀ h' n', Fr h₀ L h' m → News h₀ L h' (news' n') → Q .none { s with heap := h' }) : wpAny (model prog w) A (call (.builtin "list.extend") [.ref D, .ref b]) Q E s := by
  have hl : sizeLine = 16777216 := sizeLine_eq
  have hd : ¬(!its.isEmpty && Builtin.List.listTooLong (its.size + its2.size)) = true := by
    have : Builtin.List.listTooLong (its.size + its2.size) = false := by
      simp only [Builtin.List.listTooLong, decide_eq_false_iff_not]
      omega
    rw [this]; simp
  by_cases e0 : its2.toList = []
  · have e1 : its2 = #[] := Array.toList_inj.mp (by rw [e0])
    have U' := U n
    rw [show its ++ its2 = its from by rw [e1]; simp] at U'
    exact kxn_extend F N hb e0 U' hd (by simp; omega) (by omega) fun h' F' N' => h h' n F' N'
  · refine kl_extend F N hb rfl (fun q => e0 (List.eq_nil_of_length_eq_zero q)) (by rw [show (its.toList ++ its2.toList).toArray = its ++ its2 from by apply Array.toList_inj.mp; simp]; exact U (n + 1)) hd (by simp; omega) (by omega) fun h' F' N' => h h' (n + 1) F' N'
end
theorem noteHeld {prog : Program} {w : World} {A : Around} {E : Value → Shared → Prop} {s : Shared} {hb : Heap} {L e : Addr} {m : Str → Option Value} {env : Env} {X : String} {news : Ledger} {Q : Unit → Shared → Prop} (hf : env.frame = some L) (H : TT.HeldN hb L s.heap m e X news) (k : Q () s) :
    wpAny (model prog w) A (noteFrame (.ref e) env) Q E s := by
  obtain ⟨F, ⟨ob, vs, tb, otb, tvs, he, hcls, hd, h1, htb, htd, h3, htbL, htbe, htb0⟩, _⟩ := H.held
  unfold noteFrame
  simp only [hf]
  refine wpAny_bind (wpAny_field he hd h1 ?_)
  rw [if_pos (show (Value.ref tb != Value.none) = true from by simp)]
  refine wpAny_bind (wpAny_field htb htd h3 ?_)
  rw [if_pos (show (rawInt L == rawInt L) = true from by simp)]
  exact wpAny_pure k
theorem hh_led {A : Around} {hb h : Heap} {L e : Addr} {news : Ledger} {X : String} {vs : Array Value} (N : News hb L h news) (hm : (e, excO X vs) ∈ news) (h2 : vs[2]? = some .none) : HH (A.mark (some (.ref e))) h :=
  .inr ⟨e, _, vs, rfl, (N _ hm).1, rfl, h2⟩
end
theorem idp_p0 {M : Model} {A : Around} {x1 : _} {x2 : _} {x3 : _} {x4 : _} {Q : _} {E : _} {s : _} (h : wpAny M A (compareOp x1 (Value.int x2 x3) (Value.ref x4)) Q E s) : wpAny M A (compareOp x1 (Value.int x2 x3) (Value.ref x4)) Q E s := h
theorem idp_p1 {M : Model} {A : Around} {x1 : _} {x2 : _} {x3 : _} {x4 : _} {x5 : _} {x6 : _} {Q : _} {E : _} {s : _} (h : wpAny M A (eval (Expr.Name x1 x2) (compEnvC x3 x4 x5 x6)) Q E s) : wpAny M A (eval (Expr.Name x1 x2) (compEnvC x3 x4 x5 x6)) Q E s := h
theorem idp_p2 {M : Model} {A : Around} {x1 : _} {x2 : _} {x3 : _} {x4 : _} {x5 : _} {Q : _} {E : _} {s : _} (h : wpAny M A (compareOp x1 (Value.str x2 x3) (Value.str x4 x5)) Q E s) : wpAny M A (compareOp x1 (Value.str x2 x3) (Value.str x4 x5)) Q E s := h
theorem idp_p3 {M : Model} {A : Around} {x1 : _} {x2 : _} {x3 : _} {x4 : _} {x5 : _} {x6 : _} {x7 : _} {Q : _} {E : _} {s : _} (h : wpAny M A (exec (Stmt.Assign [Expr.Name (Str.ofString "ports") x1] (Expr.ListComp x2 x3 x4 x5) x6) x7) Q E s) : wpAny M A (exec (Stmt.Assign [Expr.Name (Str.ofString "ports") x1] (Expr.ListComp x2 x3 x4 x5) x6) x7) Q E s := h
theorem stop_p0 {M : Model} {A : Around} {x1 : _} {x2 : _} {x3 : _} {x4 : _} {x5 : _} {Q : _} {E : _} {s : _} (h : Stop (wpAny M A (exec (Stmt.While x1 x2 x3 x4) x5) Q E s)) : wpAny M A (exec (Stmt.While x1 x2 x3 x4) x5) Q E s := h
theorem stop_p1 {M : Model} {A : Around} {x1 : _} {x2 : _} {x3 : _} {x4 : _} {x5 : _} {x6 : _} {Q : _} {E : _} {s : _} (h : Stop (wpAny M A (exec (Stmt.Try x1 x2 x3 x4 x5) x6) Q E s)) : wpAny M A (exec (Stmt.Try x1 x2 x3 x4 x5) x6) Q E s := h
theorem stop_p2 {M : Model} {A : Around} {x1 : _} {x2 : _} {Q : _} {E : _} {s : _} (h : Stop (wpAny M A (getMethod (Value.ref x1) (Str.ofString "get") x2) Q E s)) : wpAny M A (getMethod (Value.ref x1) (Str.ofString "get") x2) Q E s := h
theorem stop_p3 {M : Model} {A : Around} {x1 : _} {x2 : _} {Q : _} {E : _} {s : _} (h : Stop (wpAny M A (getAttr (Value.ref x1) (Str.ofString "__next__") x2) Q E s)) : wpAny M A (getAttr (Value.ref x1) (Str.ofString "__next__") x2) Q E s := h
theorem stop_p4 {M : Model} {A : Around} {x1 : _} {Q : _} {E : _} {s : _} (h : Stop (wpAny M A (call (Value.ref x1) []) Q E s)) : wpAny M A (call (Value.ref x1) []) Q E s := h
theorem stop_p5 {M : Model} {A : Around} {x1 : _} {x2 : _} {x3 : _} {x4 : _} {x5 : _} {Q : _} {E : _} {s : _} (h : Stop (wpAny M A (eval (Expr.ListComp x1 x2 x3 x4) x5) Q E s)) : wpAny M A (eval (Expr.ListComp x1 x2 x3 x4) x5) Q E s := h
theorem stop_p6 {M : Model} {A : Around} {x1 : _} {x2 : _} {Q : _} {E : _} {s : _} (h : Stop (wpAny M A (getMethod (Value.ref x1) (Str.ofString "values") x2) Q E s)) : wpAny M A (getMethod (Value.ref x1) (Str.ofString "values") x2) Q E s := h
theorem stop_p7 {M : Model} {A : Around} {x1 : _} {x2 : _} {Q : _} {E : _} {s : _} (h : Stop (wpAny M A (call (Value.builtin x1) [Value.ref x2]) Q E s)) : wpAny M A (call (Value.builtin x1) [Value.ref x2]) Q E s := h
theorem stop_p8 {M : Model} {A : Around} {x1 : _} {x2 : _} {Q : _} {E : _} {s : _} (h : Stop (wpAny M A (call (Value.ref x1) x2) Q E s)) : wpAny M A (call (Value.ref x1) x2) Q E s := h
theorem stop_p9 {M : Model} {A : Around} {x1 : _} {x2 : _} {x3 : _} {x4 : _} {x5 : _} {Q : _} {E : _} {s : _} (h : Stop (wpAny M A (eval (Expr.Call (Expr.Attribute x1 (Str.ofString "add") x2) x3 [] x4) x5) Q E s)) : wpAny M A (eval (Expr.Call (Expr.Attribute x1 (Str.ofString "add") x2) x3 [] x4) x5) Q E s := h
theorem stop_p10 {M : Model} {A : Around} {x1 : _} {x2 : _} {x3 : _} {x4 : _} {x5 : _} {Q : _} {E : _} {s : _} (h : Stop (wpAny M A (eval (Expr.Call (Expr.Attribute x1 (Str.ofString "done") x2) x3 [] x4) x5) Q E s)) : wpAny M A (eval (Expr.Call (Expr.Attribute x1 (Str.ofString "done") x2) x3 [] x4) x5) Q E s := h
theorem stop_p11 {M : Model} {A : Around} {x1 : _} {x2 : _} {x3 : _} {x4 : _} {x5 : _} {x6 : _} {x7 : _} {Q : _} {E : _} {s : _} (h : Stop (wpAny M A (callWith x1 (Value.ref x2) [] (backTo x3 (starEach (x4 :: x5 :: x6) x7)) []) Q E s)) : wpAny M A (callWith x1 (Value.ref x2) [] (backTo x3 (starEach (x4 :: x5 :: x6) x7)) []) Q E s := h
theorem stop_p12 {M : Model} {A : Around} {x1 : _} {x2 : _} {x3 : _} {x4 : _} {x5 : _} {x6 : _} {Q : _} {E : _} {s : _} (h : Stop (wpAny M A (callWith x1 (Value.ref x2) [] (backTo x3 (starEach [Expr.Starred x4 x5] x6)) []) Q E s)) : wpAny M A (callWith x1 (Value.ref x2) [] (backTo x3 (starEach [Expr.Starred x4 x5] x6)) []) Q E s := h
theorem stop_p13 {M : Model} {A : Around} {x1 : _} {x2 : _} {x3 : _} {x4 : _} {x5 : _} {Q : _} {E : _} {s : _} (h : Stop (wpAny M A (subscriptTail x1 x2 (Value.str x3 x4) x5) Q E s)) : wpAny M A (subscriptTail x1 x2 (Value.str x3 x4) x5) Q E s := h
theorem stop_p14 {M : Model} {A : Around} {x1 : _} {Q : _} {E : _} {s : _} (h : Stop (wpAny M A (call (Value.builtin "str.find") x1) Q E s)) : wpAny M A (call (Value.builtin "str.find") x1) Q E s := h
theorem stop_p15 {M : Model} {A : Around} {x1 : _} {Q : _} {E : _} {s : _} (h : Stop (wpAny M A (call (Value.builtin "str.split") x1) Q E s)) : wpAny M A (call (Value.builtin "str.split") x1) Q E s := h
theorem stop_p16 {M : Model} {A : Around} {x1 : _} {Q : _} {E : _} {s : _} (h : Stop (wpAny M A (call (Value.type "int") x1) Q E s)) : wpAny M A (call (Value.type "int") x1) Q E s := h
theorem stop_p17 {M : Model} {A : Around} {x1 : _} {x2 : _} {x3 : _} {x4 : _} {x5 : _} {Q : _} {E : _} {s : _} (h : Stop (wpAny M A (binaryOp x1 (Value.str x2 x3) (Value.str x4 x5)) Q E s)) : wpAny M A (binaryOp x1 (Value.str x2 x3) (Value.str x4 x5)) Q E s := h
theorem stop_p18 {M : Model} {A : Around} {x1 : _} {Q : _} {E : _} {s : _} (h : Stop (wpAny M A (call (Value.builtin "str.join") x1) Q E s)) : wpAny M A (call (Value.builtin "str.join") x1) Q E s := h
theorem stop_p19 {M : Model} {A : Around} {x1 : _} {x2 : _} {Q : _} {E : _} {s : _} (h : Stop (wpAny M A (compareOp CmpOp.NotEq (Value.ref x1) (Value.ref x2)) Q E s)) : wpAny M A (compareOp CmpOp.NotEq (Value.ref x1) (Value.ref x2)) Q E s := h
theorem stop_p20 {M : Model} {A : Around} {x1 : _} {x2 : _} {Q : _} {E : _} {s : _} (h : Stop (wpAny M A (compareOp CmpOp.Eq (Value.ref x1) (Value.ref x2)) Q E s)) : wpAny M A (compareOp CmpOp.Eq (Value.ref x1) (Value.ref x2)) Q E s := h
theorem stop_p21 {M : Model} {A : Around} {x1 : _} {x2 : _} {Q : _} {E : _} {s : _} (h : Stop (wpAny M A (storeName x1 (Str.ofString "one") x2) Q E s)) : wpAny M A (storeName x1 (Str.ofString "one") x2) Q E s := h
theorem stop_p22 {M : Model} {A : Around} {x1 : _} {x2 : _} {Q : _} {E : _} {s : _} (h : Stop (wpAny M A (storeName x1 (Str.ofString "other") x2) Q E s)) : wpAny M A (storeName x1 (Str.ofString "other") x2) Q E s := h
theorem stop_p23 {M : Model} {A : Around} {x1 : _} {x2 : _} {x3 : _} {x4 : _} {x5 : _} {x6 : _} {x7 : _} {x8 : _} {Q : _} {E : _} {s : _} (h : Stop (wpAny M A (exec (Stmt.Assign [Expr.Name x1 x2] (Expr.ListComp x3 x4 x5 x6) x7) x8) Q E s)) : wpAny M A (exec (Stmt.Assign [Expr.Name x1 x2] (Expr.ListComp x3 x4 x5 x6) x7) x8) Q E s := h
theorem stop_p24 {M : Model} {A : Around} {x1 : _} {x2 : _} {Q : _} {E : _} {s : _} (h : Stop (wpAny M A (storeName x1 (Str.ofString "ports") x2) Q E s)) : wpAny M A (storeName x1 (Str.ofString "ports") x2) Q E s := h
theorem stop_p25 {M : Model} {A : Around} {x1 : _} {x2 : _} {Q : _} {E : _} {s : _} (h : Stop (wpAny M A (storeName x1 (Str.ofString "top") x2) Q E s)) : wpAny M A (storeName x1 (Str.ofString "top") x2) Q E s := h
theorem stop_p26 {M : Model} {A : Around} {x1 : _} {x2 : _} {Q : _} {E : _} {s : _} (h : Stop (wpAny M A (storeName x1 (Str.ofString "out") x2) Q E s)) : wpAny M A (storeName x1 (Str.ofString "out") x2) Q E s := h
theorem stop_p27 {M : Model} {A : Around} {x1 : _} {x2 : _} {Q : _} {E : _} {s : _} (h : Stop (wpAny M A (storeName x1 (Str.ofString "step") x2) Q E s)) : wpAny M A (storeName x1 (Str.ofString "step") x2) Q E s := h
theorem stop_p28 {M : Model} {A : Around} {x1 : _} {x2 : _} {Q : _} {E : _} {s : _} (h : Stop (wpAny M A (storeName x1 (Str.ofString "last") x2) Q E s)) : wpAny M A (storeName x1 (Str.ofString "last") x2) Q E s := h
theorem stop_p29 {M : Model} {A : Around} {x1 : _} {Q : _} {E : _} {s : _} (h : Stop (wpAny M A (call (Value.type "list") [Value.ref x1]) Q E s)) : wpAny M A (call (Value.type "list") [Value.ref x1]) Q E s := h
theorem stop_p30 {M : Model} {A : Around} {x1 : _} {Q : _} {E : _} {s : _} (h : Stop (wpAny M A (call (Value.type "tuple") [Value.ref x1]) Q E s)) : wpAny M A (call (Value.type "tuple") [Value.ref x1]) Q E s := h
theorem stop_p31 {M : Model} {A : Around} {x1 : _} {x2 : _} {x3 : _} {Q : _} {E : _} {s : _} (h : Stop (wpAny M A (binaryOp Operator.Mult (Value.ref x1) (Value.int x2 x3)) Q E s)) : wpAny M A (binaryOp Operator.Mult (Value.ref x1) (Value.int x2 x3)) Q E s := h
theorem stop_p32 {M : Model} {A : Around} {x1 : _} {Q : _} {E : _} {s : _} (h : Stop (wpAny M A (call (Value.builtin "sorted") [Value.ref x1]) Q E s)) : wpAny M A (call (Value.builtin "sorted") [Value.ref x1]) Q E s := h
theorem stop_p33 {M : Model} {A : Around} {x1 : _} {Q : _} {E : _} {s : _} (h : Stop (wpAny M A (call (Value.builtin "max") [Value.ref x1]) Q E s)) : wpAny M A (call (Value.builtin "max") [Value.ref x1]) Q E s := h
theorem stop_p34 {M : Model} {A : Around} {x1 : _} {Q : _} {E : _} {s : _} (h : Stop (wpAny M A (call (Value.builtin "sum") x1) Q E s)) : wpAny M A (call (Value.builtin "sum") x1) Q E s := h
local macro_rules | `(tactic| walk_at "execs cons") => `(tactic| first | ((fail_if_success k_gentoks); (with_reducible refine execs_cut ?_); (unhygienic intro _ _); try dsimp only) | ((with_reducible refine execs_cutT ?_); (unhygienic intro _ _ _); try dsimp only))
local macro_rules | `(tactic| walk_at "Cont") => `(tactic| first | ((first | refine cont_next (by assumption) ?_ | refine cont_ret (by assumption) ?_ | refine cont_cont (by assumption) ?_ | refine cont_brk (by assumption) ?_); (try (rename CutK _ _ _ _ _ _ _ => hk; clear hk)); (try (rename Flow → Shared → Prop => hp; clear hp))) | refine ent_ret (by assumption) ?_ | refine ent_next (by assumption) ?_ | refine whl_bk (by assumption) ?_ | refine whl_rt (by assumption) ?_ | refine for_bk (by assumption) ?_ | refine for_rt (by assumption) ?_ | refine skip_bk (by assumption) ?_ | refine skip_rt (by assumption) ?_ | fail "no")
set_option hygiene false in
local macro_rules | `(tactic| passes_own) => `(tactic| first | exact EntE.po (by assumption) | exact EntE.pa (by assumption) _ | exact EntE.pm (by assumption) _ | fail "no")
set_option hygiene false in
local macro_rules | `(tactic| walk_at "nd.mem") => `(tactic| first | with_reducible exact List.mem_cons_self | ((with_reducible refine List.mem_cons_of_mem _ ?_); walk_at "nd.mem"))
set_option hygiene false in
local macro_rules | `(tactic| walk_at "nd.two") => `(tactic| first | ((with_reducible apply Two.here); walk_at "nd.mem") | ((with_reducible apply Two.rev); walk_at "nd.mem") | ((with_reducible refine Two.there ?_); walk_at "nd.two"))
set_option hygiene false in
local macro_rules | `(tactic| walk_at "nd.tl") => `(tactic| first | with_reducible exact Tl.rfl | ((with_reducible refine Tl.tl ?_); walk_at "nd.tl"))
set_option hygiene false in
local macro_rules | `(tactic| walk_at "nd.suf") => `(tactic| first | ((with_reducible refine Suf.here ?_); walk_at "nd.tl") | ((with_reducible refine Suf.there ?_); walk_at "nd.suf"))
set_option hygiene false in
local macro_rules | `(tactic| k_all) => `(tactic| first | with_reducible exact ne_of_all (by assumption) | with_reducible exact ne_of_all' (by assumption) | exact NDF.all (by with_reducible assumption) (by walk_at "nd.suf") | fail "no")
set_option hygiene false in
local macro_rules | `(tactic| walk_at "nd.lt") => `(tactic| first | with_reducible assumption | with_reducible exact (And.left (by assumption)) | with_reducible exact (And.left (And.right (by assumption))) | with_reducible exact (And.left (And.right (And.right (by assumption)))) | with_reducible exact (And.left (And.right (And.right (And.right (by assumption))))) | with_reducible exact (And.left (And.right (And.right (And.right (And.right (by assumption)))))) | with_reducible exact (And.left (And.right (And.right (And.right (And.right (And.right (by assumption))))))))
set_option hygiene false in
local macro_rules | `(tactic| k_ne) => `(tactic| first | with_reducible assumption | exact NDF.ne (by with_reducible assumption) (by walk_at "nd.two") | exact Nat.ne_of_lt (by walk_at "nd.lt") | exact Nat.ne_of_gt (by walk_at "nd.lt") | fail "no")
set_option hygiene false in
local macro_rules | `(tactic| walk_at "exec") => `(tactic| with_reducible refine stop_p0 ?_)
set_option hygiene false in
local macro_rules | `(tactic| walk_at "exec Try") => `(tactic| with_reducible refine stop_p1 ?_)
set_option hygiene false in
local macro_rules | `(tactic| walk_at "st") => `(tactic| refine stop_in ?_)
section
/-- what sorted_list_difference reckons -/
noncomputable def sldN : Nat → List Int → List Int → List Int × List Int
  | n + 1, e :: E, a :: A =>
    if e < a then let r := sldN n (E.dropWhile (· == e)) (a :: A); (e :: r.1, r.2)
    else if a < e then let r := sldN n (e :: E) (A.dropWhile (· == a)); (r.1, a :: r.2)
    else sldN n (E.dropWhile (· == e)) (A.dropWhile (· == a))
  | _, E, A => (E, A)
theorem sldN_nil_left (n : Nat) (A : List Int) : sldN n [] A = ([], A) := by cases n <;> rfl
theorem sldN_nil_right (n : Nat) (E : List Int) : sldN n E [] = (E, []) := by cases n <;> cases E <;> rfl
noncomputable def sfm (ea aa mm um : Addr) (i j : Value) (e a : Option Value) : Str → Option Value := fun y =>
  if y = Str.ofString "i" then some i else if y = Str.ofString "j" then some j else if y = Str.ofString "missing" then some (.ref mm) else if y = Str.ofString "unexpected" then some (.ref um)
  else if y = Str.ofString "e" then e else if y = Str.ofString "a" then a else if y = Str.ofString "expected" then some (.ref ea) else if y = Str.ofString "actual" then some (.ref aa) else none
/-- where the loop stands -/
structure SAt (es as : List Int) (i j : Int) (ms us : List Int) : Prop where
  i0 : 0 ≤ i
  i1 : i ≤ es.length
  j0 : 0 ≤ j
  j1 : j ≤ as.length
  ml : (ms.length : Int) ≤ i
  ul : (us.length : Int) ≤ j
  eq : ∃ f : Nat, (es.length - i) + (as.length - j) ≤ (f : Int) ∧ sldN (es.length + as.length) es as = (ms ++ (sldN f (es.drop i.toNat) (as.drop j.toNat)).1, us ++ (sldN f (es.drop i.toNat) (as.drop j.toNat)).2)
theorem SAt.done {es as : List Int} {i j : Int} {ms us : List Int} (S : SAt es as i j ms us) (h : i = es.length ∨ j = as.length) :
    sldN (es.length + as.length) es as = (ms ++ es.drop i.toNat, us ++ as.drop j.toNat) := by
  obtain ⟨f, _, e⟩ := S.eq
  rw [e]
  rcases h with h | h
  · have : es.drop i.toNat = [] := List.drop_eq_nil_of_le (by exact lin [_, _] [_] [(1, (.i (.n (.v 0)) (.v 0))), (1, (.i (.v 0) (.n (.v 1))))] 1 (.n (.v 0) (.v 1)) rfl (eqi_b h) (tn_a _))
    rw [this, sldN_nil_left]
  · have : as.drop j.toNat = [] := List.drop_eq_nil_of_le (by exact lin [_, _] [_] [(1, (.i (.n (.v 0)) (.v 0))), (1, (.i (.v 0) (.n (.v 1))))] 1 (.n (.v 0) (.v 1)) rfl (eqi_b h) (tn_a _))
    rw [this, sldN_nil_right]
theorem drop_cons {xs : List Int} {k x : Int} (h0 : 0 ≤ k) (h : xs[k.toNat]? = some x) : xs.drop k.toNat = x :: xs.drop (k + 1).toNat := by
  obtain ⟨hl, e⟩ := List.getElem?_eq_some_iff.mp h
  have e2 : (k + 1).toNat = k.toNat + 1 := by exact go_eq (lin [_, _] [_] [(1, (.i (.v 0) (.n (.v 1)))), (1, (.i (.n (.v 0)) (.a (.v 0) (.k 1))))] 1 (.n (.v 0) (.a (.v 1) (.k 1))) rfl (tn_a _) (tn_b (lin [] [_] [(1, (.i (.k 0) (.v 0)))] 1 (.i (.k 0) (.a (.v 0) (.k 1))) rfl h0))) (lin [_, _] [_] [(1, (.i (.a (.v 0) (.k 1)) (.n (.v 1)))), (1, (.i (.n (.v 0)) (.v 0)))] 1 (.n (.a (.v 0) (.k 1)) (.v 1)) rfl (tn_a _) (tn_b (h0)))
  rw [List.drop_eq_getElem_cons hl, e, e2]
theorem SAt.stepL {es as : List Int} {i j k e a : Int} {ms us : List Int} (S : SAt es as i j ms us) (he : es[i.toNat]? = some e) (ha : as[j.toNat]? = some a) (h : e < a) (hk : i + 1 ≤ k) (hk2 : k ≤ es.length)
    (hd : es.drop k.toNat = (es.drop (i + 1).toNat).dropWhile (· == e)) : SAt es as k j (ms ++ [e]) us := by
  obtain ⟨i0, i1, j0, j1, ml, ul, f, hf, eq⟩ := S
  have q1 := (List.getElem?_eq_some_iff.mp he).1
  have q2 := (List.getElem?_eq_some_iff.mp ha).1
  obtain ⟨f, rfl⟩ : ∃ f', f = f' + 1 := ⟨f - 1, by exact go_eq ((sub_b _ _)) ((sub_c (lin [_, _, _] [_, _, _] [(1, (.i (.a (.v 0) (.k 1)) (.v 1))), (1, (.i (.v 1) (.n (.v 1)))), (1, (.i (.v 2) (.n (.v 2)))), (1, (.i (.a (.s (.n (.v 1)) (.v 0)) (.s (.n (.v 2)) (.v 2))) (.n (.v 0))))] 1 (.n (.k 1) (.v 0)) rfl hk hk2 j1 hf)))⟩
  refine ⟨by exact lin [] [_, _] [(1, (.i (.a (.v 1) (.k 1)) (.v 0))), (1, (.i (.k 0) (.v 1)))] 1 (.i (.k 0) (.v 0)) rfl hk i0, hk2, j0, j1, by simp; exact lin [_] [_, _] [(1, (.i (.a (.v 1) (.k 1)) (.v 0))), (1, (.i (.n (.v 0)) (.v 1)))] 1 (.i (.a (.n (.v 0)) (.k 1)) (.v 0)) rfl hk ml, ul, f, by exact lin [_, _, _] [_, _, _] [(1, (.i (.a (.v 2) (.k 1)) (.v 0))), (1, (.i (.a (.s (.n (.v 0)) (.v 2)) (.s (.n (.v 1)) (.v 1))) (.n (.a (.v 2) (.k 1)))))] 1 (.i (.a (.s (.n (.v 0)) (.v 0)) (.s (.n (.v 1)) (.v 1))) (.n (.v 2))) rfl hk hf, ?_⟩
  rw [eq, drop_cons i0 he, drop_cons j0 ha, sldN, if_pos h, hd]
  simp
theorem SAt.stepR {es as : List Int} {i j k e a : Int} {ms us : List Int} (S : SAt es as i j ms us) (he : es[i.toNat]? = some e) (ha : as[j.toNat]? = some a) (h1 : ¬ e < a) (h : a < e) (hk : j + 1 ≤ k) (hk2 : k ≤ as.length)
    (hd : as.drop k.toNat = (as.drop (j + 1).toNat).dropWhile (· == a)) : SAt es as i k ms (us ++ [a]) := by
  obtain ⟨i0, i1, j0, j1, ml, ul, f, hf, eq⟩ := S
  have q1 := (List.getElem?_eq_some_iff.mp he).1
  have q2 := (List.getElem?_eq_some_iff.mp ha).1
  obtain ⟨f, rfl⟩ : ∃ f', f = f' + 1 := ⟨f - 1, by exact go_eq ((sub_b _ _)) ((sub_c (lin [_, _, _] [_, _, _] [(1, (.i (.a (.v 0) (.k 1)) (.v 1))), (1, (.i (.v 1) (.n (.v 1)))), (1, (.i (.v 2) (.n (.v 2)))), (1, (.i (.a (.s (.n (.v 2)) (.v 2)) (.s (.n (.v 1)) (.v 0))) (.n (.v 0))))] 1 (.n (.k 1) (.v 0)) rfl hk hk2 i1 hf)))⟩
  refine ⟨i0, i1, by exact lin [] [_, _] [(1, (.i (.a (.v 1) (.k 1)) (.v 0))), (1, (.i (.k 0) (.v 1)))] 1 (.i (.k 0) (.v 0)) rfl hk j0, hk2, ml, by simp; exact lin [_] [_, _] [(1, (.i (.a (.v 1) (.k 1)) (.v 0))), (1, (.i (.n (.v 0)) (.v 1)))] 1 (.i (.a (.n (.v 0)) (.k 1)) (.v 0)) rfl hk ul, f, by exact lin [_, _, _] [_, _, _] [(1, (.i (.a (.v 2) (.k 1)) (.v 1))), (1, (.i (.a (.s (.n (.v 0)) (.v 0)) (.s (.n (.v 1)) (.v 2))) (.n (.a (.v 2) (.k 1)))))] 1 (.i (.a (.s (.n (.v 0)) (.v 0)) (.s (.n (.v 1)) (.v 1))) (.n (.v 2))) rfl hk hf, ?_⟩
  rw [eq, drop_cons i0 he, drop_cons j0 ha, sldN, if_neg h1, if_pos h, hd]
  simp
theorem SAt.stepE {es as : List Int} {i j k k' e a : Int} {ms us : List Int} (S : SAt es as i j ms us) (he : es[i.toNat]? = some e) (ha : as[j.toNat]? = some a) (h1 : ¬ e < a) (h : ¬ a < e) (hk : i + 1 ≤ k) (hk2 : k ≤ es.length)
    (hd : es.drop k.toNat = (es.drop (i + 1).toNat).dropWhile (· == e)) (hk' : j + 1 ≤ k') (hk2' : k' ≤ as.length) (hd' : as.drop k'.toNat = (as.drop (j + 1).toNat).dropWhile (· == a)) : SAt es as k k' ms us := by
  obtain ⟨i0, i1, j0, j1, ml, ul, f, hf, eq⟩ := S
  have q1 := (List.getElem?_eq_some_iff.mp he).1
  have q2 := (List.getElem?_eq_some_iff.mp ha).1
  obtain ⟨f, rfl⟩ : ∃ f', f = f' + 1 := ⟨f - 1, by exact go_eq ((sub_b _ _)) ((sub_c (lin [_, _, _] [_, _, _] [(1, (.i (.a (.v 0) (.k 1)) (.v 1))), (1, (.i (.v 1) (.n (.v 1)))), (1, (.i (.v 2) (.n (.v 2)))), (1, (.i (.a (.s (.n (.v 1)) (.v 0)) (.s (.n (.v 2)) (.v 2))) (.n (.v 0))))] 1 (.n (.k 1) (.v 0)) rfl hk hk2 j1 hf)))⟩
  refine ⟨by exact lin [] [_, _] [(1, (.i (.a (.v 1) (.k 1)) (.v 0))), (1, (.i (.k 0) (.v 1)))] 1 (.i (.k 0) (.v 0)) rfl hk i0, hk2, by exact lin [] [_, _] [(1, (.i (.a (.v 1) (.k 1)) (.v 0))), (1, (.i (.k 0) (.v 1)))] 1 (.i (.k 0) (.v 0)) rfl hk' j0, hk2', by exact lin [_] [_, _] [(1, (.i (.a (.v 1) (.k 1)) (.v 0))), (1, (.i (.n (.v 0)) (.v 1)))] 1 (.i (.n (.v 0)) (.v 0)) rfl hk ml, by exact lin [_] [_, _] [(1, (.i (.a (.v 1) (.k 1)) (.v 0))), (1, (.i (.n (.v 0)) (.v 1)))] 1 (.i (.n (.v 0)) (.v 0)) rfl hk' ul, f, by exact lin [_, _, _] [_, _, _, _] [(1, (.i (.a (.v 2) (.k 1)) (.v 0))), (1, (.i (.a (.v 3) (.k 1)) (.v 1))), (1, (.i (.a (.s (.n (.v 0)) (.v 2)) (.s (.n (.v 1)) (.v 3))) (.n (.a (.v 2) (.k 1)))))] 1 (.i (.a (.s (.n (.v 0)) (.v 0)) (.s (.n (.v 1)) (.v 1))) (.n (.v 2))) rfl hk hk' hf, ?_⟩
  rw [eq, drop_cons i0 he, drop_cons j0 ha, sldN, if_neg h1, if_neg h, hd, hd']
theorem skip_at {xs : List Int} {x k k0 n : Int} (hd : (xs.drop k.toNat).dropWhile (· == x) = (xs.drop k0.toNat).dropWhile (· == x)) (h : xs[k.toNat]? = some n) (hn : n ≠ x) : xs.drop k.toNat = (xs.drop k0.toNat).dropWhile (· == x) := by
  rw [← hd, dropWhile_stop h hn]
theorem skip_end {xs : List Int} {x k k0 : Int} (hd : (xs.drop k.toNat).dropWhile (· == x) = (xs.drop k0.toNat).dropWhile (· == x)) (h : k = xs.length) : xs.drop k.toNat = (xs.drop k0.toNat).dropWhile (· == x) := by
  have : xs.drop k.toNat = [] := List.drop_eq_nil_of_le (by exact lin [_, _] [_] [(1, (.i (.n (.v 0)) (.v 0))), (1, (.i (.v 0) (.n (.v 1))))] 1 (.n (.v 0) (.v 1)) rfl (eqi_b h) (tn_a _))
  rw [← hd, this]; rfl
theorem sfm_none {ea aa mm um : Addr} {iv jv : Value} {e a : Option Value} (y : Str) (a1 : y ≠ Str.ofString "i") (a2 : y ≠ Str.ofString "j") (a3 : y ≠ Str.ofString "missing") (a4 : y ≠ Str.ofString "unexpected") (a5 : y ≠ Str.ofString "e") (a6 : y ≠ Str.ofString "a") (a7 : y ≠ Str.ofString "expected") (a8 : y ≠ Str.ofString "actual") : sfm ea aa mm um iv jv e a y = none := by
  simp only [sfm, if_neg a1, if_neg a2, if_neg a3, if_neg a4, if_neg a5, if_neg a6, if_neg a7, if_neg a8]
inductive SInv (s₀ : Shared) (h₀ : Heap) (L ea aa : Addr) (evs avs : List Value) (es as : List Int) (ne na : Nat) (mm um : Addr) (tail : Ledger) (n : Nat) (s : Shared) : Prop
  | mk (h' : Heap) (tk : Nat) (i j : Int) (ti tj : Tok) (mvs uvs : List Value) (ms us : List Int) (nm nu : Nat) (e a : Option Value)
    (_ : s = { s₀ with heap := h', toks := tk })
    (_ : (n : Int) = (es.length - i) + (as.length - j))
    (_ : SAt es as i j ms us)
    (_ : IntsAre mvs ms)
    (_ : IntsAre uvs us)
    (_ : Fr h₀ L h' (sfm ea aa mm um (.int i ti) (.int j tj) e a))
    (_ : News h₀ L h' ((um, listOf uvs.toArray nu) :: (mm, listOf mvs.toArray nm) :: (ea, listOf evs.toArray ne) :: (aa, listOf avs.toArray na) :: tail))
set_option hygiene false in
local macro_rules | `(tactic| walk_at "exec While Compare cons nil") => `(tactic| with_reducible refine stop_p0 ?_)
local macro_rules | `(tactic| walk_at "subscriptTail Name Name ref int") => `(tactic| ((with_reducible show wpAny _ _ (subscriptTail _ _ (Value.ref _) (Value.int _ _)) _ _ _); (with_unfolding_all refine' item_or ?k0 ?k1 ?k2 ?k3 ?k4 ?k5 ?_ ?_; (case k0 => first | exact .inl (by assumption) | exact hh_led (by assumption) (by k_mem) (by assumption)); (case k1 => is_list); (case k2 => l_ints); (case k3 => assumption); (case k4 => omega); (case k5 => omega)); (first | intro n9 t9 lt9 q9 | intro q9 h9 tk9 e9 x9)))
local macro_rules | `(tactic| walk_at "WhlIf") => `(tactic| first | (refine WhlIf.yes rfl ?_) | (refine WhlIf.no rfl ?_) | (refine whlIf_both (fun hb9 => ?_) (fun hb9 => ?_) <;> simp only [decide_eq_true_eq, decide_eq_false_iff_not, beq_iff_eq, beq_eq_false_iff_ne] at hb9))
set_option hygiene false in
local macro_rules | `(tactic| walk_at "call builtin:list.append") => `(tactic| walk_at "st")
theorem sfm_eq {m : Str → Option Value} {ea aa mm um : Addr} {i j : Value} {e a : Option Value} (h1 : m (Str.ofString "i") = some i) (h2 : m (Str.ofString "j") = some j) (h3 : m (Str.ofString "missing") = some (.ref mm)) (h4 : m (Str.ofString "unexpected") = some (.ref um))
    (h5 : m (Str.ofString "e") = e) (h6 : m (Str.ofString "a") = a) (h7 : m (Str.ofString "expected") = some (.ref ea)) (h8 : m (Str.ofString "actual") = some (.ref aa))
    (h : ∀ y, y ≠ Str.ofString "i" → y ≠ Str.ofString "j" → y ≠ Str.ofString "missing" → y ≠ Str.ofString "unexpected" → y ≠ Str.ofString "e" → y ≠ Str.ofString "a" → y ≠ Str.ofString "expected" → y ≠ Str.ofString "actual" → m y = none) :
    ∀ y, m y = sfm ea aa mm um i j e a y := by
  intro y
  unfold sfm
  by_cases q1 : y = Str.ofString "i"
  · rw [if_pos q1, q1]; exact h1
  rw [if_neg q1]
  by_cases q2 : y = Str.ofString "j"
  · rw [if_pos q2, q2]; exact h2
  rw [if_neg q2]
  by_cases q3 : y = Str.ofString "missing"
  · rw [if_pos q3, q3]; exact h3
  rw [if_neg q3]
  by_cases q4 : y = Str.ofString "unexpected"
  · rw [if_pos q4, q4]; exact h4
  rw [if_neg q4]
  by_cases q5 : y = Str.ofString "e"
  · rw [if_pos q5, q5]; exact h5
  rw [if_neg q5]
  by_cases q6 : y = Str.ofString "a"
  · rw [if_pos q6, q6]; exact h6
  rw [if_neg q6]
  by_cases q7 : y = Str.ofString "expected"
  · rw [if_pos q7, q7]; exact h7
  rw [if_neg q7]
  by_cases q8 : y = Str.ofString "actual"
  · rw [if_pos q8, q8]; exact h8
  rw [if_neg q8]
  exact h y q1 q2 q3 q4 q5 q6 q7 q8
set_option hygiene false in
local macro_rules | `(tactic| walk_at "call builtin:list.extend") => `(tactic| walk_at "st")
set_option hygiene false in
local macro_rules | `(tactic| walk_at "handleBy") => `(tactic| walk_at "st")
/-- what it hands back -/
inductive SldPost (ea aa : Addr) (eo ao : Obj) (es as : List Int) : Value → Ledger → Prop
  | mk (t mm um : Addr) (mvs uvs : Array Value) (nm nu : Nat) (_ : IntsAre mvs.toList (sldN (es.length + as.length) es as).1) (_ : IntsAre uvs.toList (sldN (es.length + as.length) es as).2) :
    SldPost ea aa eo ao es as (.ref t) [(t, { cls := .type "tuple", data := .seq [.ref mm, .ref um].toArray }), (um, listOf uvs nu), (mm, listOf mvs nm), (ea, eo), (aa, ao)]
theorem sld_con (w : World) (ea aa : Addr) (evs avs : List Value) (es as : List Int) (ne na : Nat) (hE : IntsAre evs es) (hA : IntsAre avs as) (hle : es.length < 10000) (hla : as.length < 10000) :
    Con w (.ref 28) [.ref ea, .ref aa] 1 [(ea, listOf evs.toArray ne), (aa, listOf avs.toArray na)] (SldPost ea aa (listOf evs.toArray ne) (listOf avs.toArray na) es as) := by
  intro p loose mean mg mb h₀ A l frs rest s Q E G Fs S ret
  have X := G.X
  have hnd : A.handled = none := G.hn
  have T := G.T
  have kf : (Mine.hd.heap_39 w.params).In h₀ ∧ PySem.Challenge.rw_oy0269_01.row.prog = PySem.Challenge.rw_oy0269_01.row.prog := (by k_fill; exact ⟨X, rfl⟩)
  clear kf
  refine wpAny_call ?_
  k_dflt (refine' enter G S ?ho ?hcd ?hb ?hl ?_ ?c1 ?c2 ?c3 ?c4; (case ho => k_is); (case hcd => k_is); (case hb => exact BindsTo.of_eq rfl); (case hl => exact locs rfl); (case c1 => exact rfl); (case c2 => exact rfl); (case c3 => exact rfl); (case c4 => decide))
  intro h₁ F N lt1 lt2 zP0 zE0 zK0 zO0
  dsimp only [List.cons_append, List.nil_append] at N lt1
  k_fold
  k_steps
  rename_i mm h3 lm h2 um h4 lu h5 F' N'
  refine stop_out ?_
  have lmt : ∀ p ∈ rest ++ frs, p.1 < mm := fun p hp => allLt_mem lm.2.2 p hp
  have lut : ∀ p ∈ rest ++ frs, p.1 < um := fun p hp => allLt_mem lu.2.2.2 p hp
  obtain ⟨lm1, lm2, _⟩ := lm
  obtain ⟨lu1, lu2, lu3, _⟩ := lu
  refine while_ind (SInv s h₀ s.heap.objs.size ea aa evs avs es as ne na mm um (rest ++ frs)) ?pe ?turn (es.length + as.length) ?start
  case start =>
    refine ⟨h5, _, 0, 0, _, _, [], [], [], [], 0, 0, none, none, rfl, by exact go_eqi (lin [_, _] [] [] 1 (.i (.n (.a (.v 0) (.v 1))) (.a (.s (.n (.v 0)) (.k 0)) (.s (.n (.v 1)) (.k 0)))) rfl) (lin [_, _] [] [] 1 (.i (.a (.s (.n (.v 0)) (.k 0)) (.s (.n (.v 1)) (.k 0))) (.n (.a (.v 0) (.v 1)))) rfl), ⟨by exact lin [] [] [] 1 (.i (.k 0) (.k 0)) rfl, by exact lin [_] [] [] 1 (.i (.k 0) (.n (.v 0))) rfl, by exact lin [] [] [] 1 (.i (.k 0) (.k 0)) rfl, by exact lin [_] [] [] 1 (.i (.k 0) (.n (.v 0))) rfl, by simp, by simp, es.length + as.length, by exact lin [_, _] [] [] 1 (.i (.a (.s (.n (.v 0)) (.k 0)) (.s (.n (.v 1)) (.k 0))) (.n (.a (.v 0) (.v 1)))) rfl, by simp⟩, .nil, .nil, fr_congr F' (sfm_eq rfl rfl rfl rfl rfl rfl rfl rfl ?_), N'⟩
    · intro y a1 a2 a3 a4 a5 a6 a7 a8
      simp only [if_neg a1, if_neg a2, if_neg a3, if_neg a4]
      change List.lookup y [(Str.ofString "actual", Value.ref aa), (Str.ofString "expected", Value.ref ea)] = none
      simp only [List.lookup, beq_eq_false_iff_ne.mpr a8, beq_eq_false_iff_ne.mpr a7]
  case pe => passes_own
  case turn =>
    rintro n s' ⟨h', tk', i, j, ti, tj, mvs, uvs, ms, us, nm, nu, e, a, rfl, hn, SA, hM, hU, F, N⟩ zP1 zK1
    have i0 := SA.i0
    have i1 := SA.i1
    have j0 := SA.j0
    have j1 := SA.j1
    clear F' N'
    have ml := SA.ml
    have hMl := hM.length
    have hUl := hU.length
    have ul := SA.ul
    have hap : ∀ (uo mo : Obj), ∀ p ∈ (um, uo) :: (mm, mo) :: (ea, listOf evs.toArray ne) :: (aa, listOf avs.toArray na) :: rest, p.1 ∉ frs.map (·.1) := by
      intro uo mo p hp hm
      have nd := S.nd
      obtain ⟨q, hq, e⟩ := List.mem_map.mp hm
      simp only [List.cons_append, List.nil_append, List.map_cons, List.map_append, List.nodup_cons, List.nodup_append, List.mem_cons, List.mem_append, not_or] at nd
      have hqr : q ∈ rest ++ frs := List.mem_append_right _ hq
      simp only [List.mem_cons] at hp
      rcases hp with rfl | rfl | rfl | rfl | hp
      · exact absurd e (Nat.ne_of_lt (lut q hqr))
      · exact absurd e (Nat.ne_of_lt (lmt q hqr))
      · exact nd.1.2.2 hm
      · exact nd.2.1.2 hm
      · exact nd.2.2.2.2 _ (List.mem_map_of_mem hp) _ hm rfl
    k_steps
    refine stop_out ?_
    refine wpAny_Try_except ?_
    k_fold
    refine with_passes3 (by passes_own) (by intro e; passes_own) (by intro e; passes_own) fun hpo hpa hpm => ?_
    have handler : ∀ (i j : Int) (ms us : List Int) (mvs uvs : List Value) (nm nu : Nat) (ti tj : Tok) (e a : Option Value) (hx : Heap) (tk : Nat) (e9 : Addr) (frs₁ : Ledger), SAt es as i j ms us → IntsAre mvs ms → IntsAre uvs us → (i = es.length ∨ j = as.length) →
        TI.SameUp frs frs₁ → TI.Frs l frs₁ →
        ((∃ h fr, Fr h₀ s.heap.objs.size h (sfm ea aa mm um (.int i ti) (.int j tj) e a) ∧ News h₀ s.heap.objs.size h ((um, listOf uvs.toArray nu) :: (mm, listOf mvs.toArray nm) :: (ea, listOf evs.toArray ne) :: (aa, listOf avs.toArray na) :: (rest ++ frs₁)) ∧
          NX fr h hx e9 "IndexError") ∨
         TT.HeldN h₀ s.heap.objs.size hx (sfm ea aa mm um (.int i ti) (.int j tj) e a) e9 "IndexError" ((um, listOf uvs.toArray nu) :: (mm, listOf mvs.toArray nm) :: (ea, listOf evs.toArray ne) :: (aa, listOf avs.toArray na) :: (rest ++ frs₁))) →
        ek (.ref e9) { s with heap := hx, toks := tk } := by
      clear hn SA hM hU F N i0 i1 j0 j1 ml ul hMl hUl
      intro i j ms us mvs uvs nm nu ti tj e a hx tk e9 frs₁ SA hM hU fin SU1 Fs1 x9
      have i0 := SA.i0
      have i1 := SA.i1
      have j0 := SA.j0
      have j1 := SA.j1
      have ml := SA.ml
      have hMl := hM.length
      have hUl := hU.length
      have ul := SA.ul
      show ek _ _
      k_unfold
      k_fold
      have restK : ∀ (h' : Heap) (frs' : Ledger), TI.SameUp frs frs' → TI.Frs l frs' →
          TT.HeldN h₀ s.heap.objs.size h' (sfm ea aa mm um (.int i ti) (.int j tj) e a) e9 "IndexError" ((um, listOf uvs.toArray nu) :: (mm, listOf mvs.toArray nm) :: (ea, listOf evs.toArray ne) :: (aa, listOf avs.toArray na) :: (rest ++ frs')) →
          qk () { s with heap := h', toks := tk } := by
        clear x9 SU1 Fs1
        intro h' frs' SU9 Fs9 HN9
        show qk () _
        k_unfold
        have lmt9 : ∀ p ∈ rest ++ frs', p.1 < mm := lt_up SU9 lmt
        have lut9 : ∀ p ∈ rest ++ frs', p.1 < um := lt_up SU9 lut
        have HH9 := TT.HeldNA.held HN9
        k_steps
        refine stop_out ?_; (with_reducible rename TT.HeldNA _ _ _ _ _ _ _ _ => ttN); k_dflt (refine' handle_hit ttN (by assumption) (by assumption) (by k_is) (by boot_by_name) ?_ (by decide +kernel)); clear ttN; (try (with_reducible rename HeldAt _ _ _ _ _ _ _ => ttH; clear ttH)); intro _ F5a N5a; k_steps
        refine stop_out ?_; k_dflt (refine' extend_K (by k_asm) (by k_asm) (by k_mem) (by intro n9; k_upd) (by simp only [List.size_toArray]; have q3 := IntsAre.length (by assumption); simp only [List.length_drop] at q3; omega) ?_); intro hq2 n1 F6a N6a; (try dsimp only at N6a); (try k_sweep); k_steps
        refine stop_out ?_; k_dflt (refine' extend_K (by k_asm) (by k_asm) (by k_mem) (by intro n9; k_upd) (by simp only [List.size_toArray]; have q3 := IntsAre.length (by assumption); simp only [List.length_drop] at q3; omega) ?_); intro hq4 n2 F7a N7a; (try dsimp only at N7a); (try k_sweep); k_steps
        rename_i D1 ws1 hq1 hI1 hC1 hL1 l1 D2 ws2 hq3 hI2 hC2 hL2 l2 D3 hq5 F3 N3 l3
        have ndf : ((rest ++ frs').map (·.1)).Nodup := by
          have nd := S.nd
          rw [List.map_append, su_map SU9, ← List.map_append]
          simp only [List.cons_append, List.nil_append, List.map_cons, List.nodup_cons] at nd
          exact nd.2.2
        have S3 : St h₀ hq5 ([(D3, { cls := .type "tuple", data := .seq [.ref mm, .ref um].toArray }), (um, listOf (uvs.toArray ++ ws2.toArray) n2), (mm, listOf (mvs.toArray ++ ws1.toArray) n1), (ea, listOf evs.toArray ne), (aa, listOf avs.toArray na)] ++ (rest ++ frs')) := by
          refine St.of_news F3 N3 (fun p hp => ?_) ?_
          · simp only [List.cons_append, List.nil_append, List.mem_cons] at hp ⊢
            rcases hp with h | h | h | h | h | h <;> simp [h]
          · have nd := S.nd
            have ndE : (((ea, listOf evs.toArray ne) :: (aa, listOf avs.toArray na) :: (rest ++ frs')).map (·.1)).Nodup := by
              simp only [List.cons_append, List.nil_append, List.map_cons, List.map_append, su_map SU9] at nd ⊢
              exact nd
            refine nodup_lt ?_ (nodup_lt ?_ (nodup_lt ?_ ndE))
            · exact all_cons l3.2.2.1 (all_cons l3.2.2.2.1 (all_cons l3.2.2.2.2.1 (all_cons l3.2.2.2.2.2.1 (allLt_mem l3.2.2.2.2.2.2))))
            · exact all_cons lu1 (all_cons lu2 (all_cons lu3 lut9))
            · exact all_cons lm1 (all_cons lm2 lmt9)
        refine ret (.ref D3) _ _ _ frs' SU9 Fs9 S3 (.mk D3 mm um (mvs.toArray ++ ws1.toArray) (uvs.toArray ++ ws2.toArray) n1 n2 ?_ ?_)
        · rw [SA.done fin]
          simpa using hM.append hI1
        · rw [SA.done fin]
          simpa using hU.append hI2
      rcases x9 with ⟨h, fr, F, N, x9⟩ | x9
      · refine note_held (new := _ :: _ :: _ :: _ :: rest) (frs := frs₁) (Around.frames_deeper G.fr) rfl (show ScopeKind.function ≠ ScopeKind.module by decide) Fs1 x9 F N ?_ ?_
        · rw [su_map SU1]; exact hap _ _
        · intro h' frs' SU9 Fs9 HN9
          exact restK h' frs' (SU1.trans SU9) Fs9 HN9
      · exact noteHeld rfl x9 (restK _ _ SU1 Fs1 x9)
    k_steps
    case refine'_4.refine'_4.refine'_4 =>
      rename NX _ _ _ _ _ => x9
      exact stop_out (handler i j ms us mvs uvs nm nu _ _ _ _ _ _ _ _ SA hM hU (by exact Or.inl (by exact go_eqi (i1) ((eqi_b ‹i = ↑es.length›)))) (TI.SameUp.refl _) Fs (.inl ⟨_, _, F, N, x9⟩))
    case refine'_4.refine'_4.refine'_3.refine'_4.refine'_4.refine'_4.refine'_4 =>
      rename NX _ _ _ _ _ => x9
      rename Fr _ _ _ _ => F9
      rename News _ _ _ _ => N9
      exact stop_out (handler i j ms us mvs uvs nm nu _ _ _ _ _ _ _ _ SA hM hU (by exact Or.inr (by exact go_eqi (j1) ((eqi_b ‹j = ↑as.length›)))) (TI.SameUp.refl _) Fs (.inl ⟨_, _, fr_congr F9 (sfm_eq rfl rfl rfl rfl rfl rfl rfl rfl (by (intro y a1 a2 a3 a4 a5 a6 a7 a8; (try simp only [if_neg a1, if_neg a2, if_neg a5, if_neg a6]); exact sfm_none y a1 a2 a3 a4 a5 a6 a7 a8))), N9, x9⟩))
    · refine stop_out ?_; (k_dflt (refine' append_K (by k_asm) (by k_asm) (by k_upd) ?_ (by rw [List.size_toArray, sizeLine_eq]; omega); k_whole)); intro h9a F8a N8a; (try k_sweep); k_steps
      rename_i n1 t1 lt1' q1 _ n2 t2 lt2' q2 _ hlt _ F9 N9
      refine stop_out ?_
      refine while_skip (xs := es) (x := n1) (k0 := i + 1) (fm := fun k t => sfm ea aa mm um (.int k t) (.int j tj) (some (.int n1 t1)) (some (.int n2 t2))) (fr_congr F9 (sfm_eq rfl rfl rfl rfl rfl rfl rfl rfl (by (intro y a1 a2 a3 a4 a5 a6 a7 a8; (try simp only [if_neg a1, if_neg a2, if_neg a5, if_neg a6]); exact sfm_none y a1 a2 a3 a4 a5 a6 a7 a8)))) N9 (by exact lin [] [_] [(1, (.i (.k 0) (.v 0)))] 1 (.i (.k 0) (.a (.v 0) (.k 1))) rfl i0) (by exact (lt_i lt1')) hpo ?_
      intro hk9 tk9 k t hk hl hd F8 N8 zP2 zK2
      clear F9 N9
      k_steps
      · rename_i n3 _ _ q3 hb3 _ F7 N7
        exact skip_nx zK2 (by rw [q3, hb3]) (fr_congr F7 (sfm_eq rfl rfl rfl rfl rfl rfl rfl rfl (by (intro y a1 a2 a3 a4 a5 a6 a7 a8; (try simp only [if_neg a1, if_neg a2, if_neg a5, if_neg a6]); exact sfm_none y a1 a2 a3 a4 a5 a6 a7 a8)))) N7
      · rename_i n3 _ _ q3 hb3
        simp only [List.push_toArray] at N8
        exact whl_nx (n' := (es.length - k + (as.length - j)).toNat) zK1 (by exact lin [_, _, _, _] [_, _, _] [(1, (.i (.a (.s (.n (.v 2)) (.v 0)) (.s (.n (.v 3)) (.v 1))) (.n (.v 1)))), (1, (.i (.a (.v 0) (.k 1)) (.v 2))), (1, (.i (.n (.v 0)) (.a (.s (.n (.v 2)) (.v 2)) (.s (.n (.v 3)) (.v 1)))))] 1 (.n (.a (.v 0) (.k 1)) (.v 1)) rfl (eqi_b hn) hk (tn_b (lin [_, _] [_, _] [(1, (.i (.v 1) (.n (.v 1)))), (1, (.i (.v 0) (.n (.v 0))))] 1 (.i (.k 0) (.a (.s (.n (.v 0)) (.v 0)) (.s (.n (.v 1)) (.v 1)))) rfl j1 hl))) ⟨_, _, k, j, _, _, _, _, _, _, _, _, _, _, rfl, by exact go_eqi ((tn_b (lin [_, _] [_, _] [(1, (.i (.v 1) (.n (.v 1)))), (1, (.i (.v 0) (.n (.v 0))))] 1 (.i (.k 0) (.a (.s (.n (.v 0)) (.v 0)) (.s (.n (.v 1)) (.v 1)))) rfl j1 hl))) ((tn_a _)), SA.stepL q1 q2 hlt hk hl (skip_at hd q3 hb3), hM.append (.cons _ _ .nil), hU, F8, N8⟩
      · rename NX _ _ _ _ _ => x9
        simp only [List.push_toArray] at N8
        exact stop_out (handler k j _ _ _ _ _ _ _ _ _ _ _ _ _ _ (SA.stepL q1 q2 hlt hk hl (skip_end hd (by exact go_eqi (hl) ((eqi_b ‹k = ↑es.length›))))) (hM.append (.cons _ _ .nil)) hU (by exact Or.inl (by exact go_eqi (hl) ((eqi_b ‹k = ↑es.length›)))) (TI.SameUp.refl _) Fs (.inl ⟨_, _, F8, N8, x9⟩))
    · refine stop_out ?_; (k_dflt (refine' append_K (by k_asm) (by k_asm) (by k_upd) ?_ (by rw [List.size_toArray, sizeLine_eq]; omega); k_whole)); intro h9a F8a N8a; (try k_sweep); k_steps
      rename_i n1 t1 lt1' q1 _ n2 t2 lt2' q2 _ hge hlt _ F9 N9
      refine stop_out ?_
      refine while_skip (xs := as) (x := n2) (k0 := j + 1) (fm := fun k t => sfm ea aa mm um (.int i ti) (.int k t) (some (.int n1 t1)) (some (.int n2 t2))) (fr_congr F9 (sfm_eq rfl rfl rfl rfl rfl rfl rfl rfl (by (intro y a1 a2 a3 a4 a5 a6 a7 a8; (try simp only [if_neg a1, if_neg a2, if_neg a5, if_neg a6]); exact sfm_none y a1 a2 a3 a4 a5 a6 a7 a8)))) N9 (by exact lin [] [_] [(1, (.i (.k 0) (.v 0)))] 1 (.i (.k 0) (.a (.v 0) (.k 1))) rfl j0) (by exact (lt_i lt2')) hpo ?_
      intro hk9 tk9 k t hk hl hd F8 N8 zP2 zK2
      clear F9 N9
      k_steps
      · rename_i n3 _ _ q3 hb3 _ F7 N7
        exact skip_nx zK2 (by rw [q3, hb3]) (fr_congr F7 (sfm_eq rfl rfl rfl rfl rfl rfl rfl rfl (by (intro y a1 a2 a3 a4 a5 a6 a7 a8; (try simp only [if_neg a1, if_neg a2, if_neg a5, if_neg a6]); exact sfm_none y a1 a2 a3 a4 a5 a6 a7 a8)))) N7
      · rename_i n3 _ _ q3 hb3
        simp only [List.push_toArray] at N8
        exact whl_nx (n' := (es.length - i + (as.length - k)).toNat) zK1 (by exact lin [_, _, _, _] [_, _, _] [(1, (.i (.a (.s (.n (.v 2)) (.v 0)) (.s (.n (.v 3)) (.v 1))) (.n (.v 1)))), (1, (.i (.a (.v 1) (.k 1)) (.v 2))), (1, (.i (.n (.v 0)) (.a (.s (.n (.v 2)) (.v 0)) (.s (.n (.v 3)) (.v 2)))))] 1 (.n (.a (.v 0) (.k 1)) (.v 1)) rfl (eqi_b hn) hk (tn_b (lin [_, _] [_, _] [(1, (.i (.v 0) (.n (.v 0)))), (1, (.i (.v 1) (.n (.v 1))))] 1 (.i (.k 0) (.a (.s (.n (.v 0)) (.v 0)) (.s (.n (.v 1)) (.v 1)))) rfl i1 hl))) ⟨_, _, i, k, _, _, _, _, _, _, _, _, _, _, rfl, by exact go_eqi ((tn_b (lin [_, _] [_, _] [(1, (.i (.v 0) (.n (.v 0)))), (1, (.i (.v 1) (.n (.v 1))))] 1 (.i (.k 0) (.a (.s (.n (.v 0)) (.v 0)) (.s (.n (.v 1)) (.v 1)))) rfl i1 hl))) ((tn_a _)), SA.stepR q1 q2 (by exact go_nlti ((not_lt_i hge))) (by exact go_lti ((lt_i hlt))) hk hl (skip_at hd q3 hb3), hM, hU.append (.cons _ _ .nil), F8, N8⟩
      · rename NX _ _ _ _ _ => x9
        simp only [List.push_toArray] at N8
        exact stop_out (handler i k _ _ _ _ _ _ _ _ _ _ _ _ _ _ (SA.stepR q1 q2 (by exact go_nlti ((not_lt_i hge))) (by exact go_lti ((lt_i hlt))) hk hl (skip_end hd (by exact go_eqi (hl) ((eqi_b ‹k = ↑as.length›))))) hM (hU.append (.cons _ _ .nil)) (by exact Or.inr (by exact go_eqi (hl) ((eqi_b ‹k = ↑as.length›)))) (TI.SameUp.refl _) Fs (.inl ⟨_, _, F8, N8, x9⟩))
    · rename_i n1 t1 lt1' q1 _ n2 t2 lt2' q2 _ hge hlt _ F9 N9
      refine stop_out ?_
      k_fold
      refine while_skip (xs := es) (x := n1) (k0 := i + 1) (fm := fun k t => sfm ea aa mm um (.int k t) (.int j tj) (some (.int n1 t1)) (some (.int n2 t2))) (fr_congr F9 (sfm_eq rfl rfl rfl rfl rfl rfl rfl rfl (by (intro y a1 a2 a3 a4 a5 a6 a7 a8; (try simp only [if_neg a1, if_neg a2, if_neg a5, if_neg a6]); exact sfm_none y a1 a2 a3 a4 a5 a6 a7 a8)))) N9 (by exact lin [] [_] [(1, (.i (.k 0) (.v 0)))] 1 (.i (.k 0) (.a (.v 0) (.k 1))) rfl i0) (by exact (lt_i lt1')) (by passes_own) ?_
      intro hk9 tk9 k t hk hl hd F8 N8 zP2 zK2
      clear F9 N9
      k_steps
      · rename_i n3 _ _ q3 hb3 _ F7 N7
        exact skip_nx zK2 (by rw [q3, hb3]) (fr_congr F7 (sfm_eq rfl rfl rfl rfl rfl rfl rfl rfl (by (intro y a1 a2 a3 a4 a5 a6 a7 a8; (try simp only [if_neg a1, if_neg a2, if_neg a5, if_neg a6]); exact sfm_none y a1 a2 a3 a4 a5 a6 a7 a8)))) N7
      · rename_i n3 _ _ q3 hb3 _ F7 N7
        have hd3 := skip_at hd q3 hb3
        refine stop_out (wpAny_passesOwn hpo ?_)
        refine while_skip (xs := as) (x := n2) (k0 := j + 1) (fm := fun k' t' => sfm ea aa mm um (.int k t) (.int k' t') (some (.int n1 t1)) (some (.int n2 t2))) (fr_congr F7 (sfm_eq rfl rfl rfl rfl rfl rfl rfl rfl (by (intro y a1 a2 a3 a4 a5 a6 a7 a8; (try simp only [if_neg a1, if_neg a2, if_neg a5, if_neg a6]); exact sfm_none y a1 a2 a3 a4 a5 a6 a7 a8)))) N7 (by exact lin [] [_] [(1, (.i (.k 0) (.v 0)))] 1 (.i (.k 0) (.a (.v 0) (.k 1))) rfl j0) (by exact (lt_i lt2')) hpo ?_
        intro hk8 tk8 k' t' hk' hl' hd' F6 N6 zP3 zK3
        clear F7 N7
        k_steps
        · rename_i n4 _ _ q4 hb4 _ F5 N5
          exact skip_nx zK3 (by rw [q4, hb4]) (fr_congr F5 (sfm_eq rfl rfl rfl rfl rfl rfl rfl rfl (by (intro y a1 a2 a3 a4 a5 a6 a7 a8; (try simp only [if_neg a1, if_neg a2, if_neg a5, if_neg a6]); exact sfm_none y a1 a2 a3 a4 a5 a6 a7 a8)))) N5
        · rename_i n4 _ _ q4 hb4
          exact whl_nx (n' := (es.length - k + (as.length - k')).toNat) zK1 (by exact lin [_, _, _, _] [_, _, _, _] [(1, (.i (.a (.s (.n (.v 2)) (.v 0)) (.s (.n (.v 3)) (.v 1))) (.n (.v 1)))), (1, (.i (.a (.v 0) (.k 1)) (.v 2))), (1, (.i (.a (.v 1) (.k 1)) (.v 3))), (1, (.i (.n (.v 0)) (.a (.s (.n (.v 2)) (.v 2)) (.s (.n (.v 3)) (.v 3)))))] 1 (.n (.a (.v 0) (.k 1)) (.v 1)) rfl (eqi_b hn) hk hk' (tn_b (lin [_, _] [_, _] [(1, (.i (.v 0) (.n (.v 0)))), (1, (.i (.v 1) (.n (.v 1))))] 1 (.i (.k 0) (.a (.s (.n (.v 0)) (.v 0)) (.s (.n (.v 1)) (.v 1)))) rfl hl hl'))) ⟨_, _, k, k', _, _, _, _, _, _, _, _, _, _, rfl, by exact go_eqi ((tn_b (lin [_, _] [_, _] [(1, (.i (.v 0) (.n (.v 0)))), (1, (.i (.v 1) (.n (.v 1))))] 1 (.i (.k 0) (.a (.s (.n (.v 0)) (.v 0)) (.s (.n (.v 1)) (.v 1)))) rfl hl hl'))) ((tn_a _)), SA.stepE q1 q2 hge hlt hk hl hd3 hk' hl' (skip_at hd' q4 hb4), hM, hU, F6, N6⟩
        · rename NX _ _ _ _ _ => x9
          exact stop_out (handler k k' _ _ _ _ _ _ _ _ _ _ _ _ _ _ (SA.stepE q1 q2 hge hlt hk hl hd3 hk' hl' (skip_end hd' (by exact go_eqi (hl') ((eqi_b ‹k' = ↑as.length›))))) hM hU (by exact Or.inr (by exact go_eqi (hl') ((eqi_b ‹k' = ↑as.length›)))) (TI.SameUp.refl _) Fs (.inl ⟨_, _, F6, N6, x9⟩))
      · rename NX _ _ _ _ _ => x9
        rename_i e1 _
        have hkl : k = es.length := by exact go_eqi (hl) ((eqi_b ‹k = ↑es.length›))
        have hd3 := skip_end hd hkl
        refine stop_out ?_
        show ek _ _
        k_unfold
        obtain ⟨vs, h1, hs, h2, F7, N7, hne⟩ := nx_led x9 F8 N8
        refine noteNew (l := l) (new := _ :: _ :: _ :: _ :: rest) (frs := frs) (Around.frames_deeper G.fr) rfl (show ScopeKind.function ≠ ScopeKind.module by decide) Fs F7 N7 h1 (hap _ _) ?_ ?_
        · intro p hp
          exact hne p (List.mem_append_left frs hp)
        intro h' frs' tb tvs SU9 Fs9 F9 N9 h3 hlt9 _ _
        rename_i e1 _ _
        simp only [List.cons_append] at N9 hlt9
        have hv1 : (vs.setIfInBounds 1 (Value.ref tb))[1]? = some (.ref tb) := by rw [Array.getElem?_setIfInBounds, if_pos rfl, if_pos (show 1 < vs.size by exact lin [_] [] [(1, (.n (.k 6) (.v 0)))] 1 (.n (.a (.k 1) (.k 1)) (.v 0)) rfl hs)]
        have hv2 : (vs.setIfInBounds 1 (Value.ref tb))[2]? = some .none := by
          rw [Array.getElem?_setIfInBounds_ne (by decide)]; exact h2 hnd
        have hts : 3 < tvs.size := (Array.getElem?_eq_some_iff.mp h3).1
        refine ⟨(by intro q; cases q), ?_⟩
        refine noteAgain rfl (N9 _ (.tail _ (.head _))).1 hv1 (N9 _ (.head _)).1 h3 ?_
        have hlt8 : ∀ p ∈ (e1, excO "IndexError" (vs.setIfInBounds 1 (.ref tb))) :: (um, listOf uvs.toArray nu) :: (mm, listOf mvs.toArray nm) :: (ea, listOf evs.toArray ne) :: (aa, listOf avs.toArray na) :: (rest ++ frs'), p.1 < tb := by
          have hq : ∀ p ∈ (um, listOf uvs.toArray nu) :: (mm, listOf mvs.toArray nm) :: (ea, listOf evs.toArray ne) :: (aa, listOf avs.toArray na) :: (rest ++ frs), p.1 < tb := fun p hp => hlt9 p (List.mem_cons_of_mem _ hp)
          refine all_cons (p := (e1, _)) (hlt9 (e1, excO "IndexError" vs) List.mem_cons_self) (lt_up (rest := (um, listOf uvs.toArray nu) :: (mm, listOf mvs.toArray nm) :: (ea, listOf evs.toArray ne) :: (aa, listOf avs.toArray na) :: rest) SU9 hq)
        refine flight (fr := none) (tvs := tvs) F9 N9 (.tail _ (.head _)) hv1 hts (.head (ne_of_all hlt8)) ?_
        intro h6 F6 N6 _
        refine wpAny_passesOwnAt (hpa e1) ?_
        clear F9 N9 F7 N7
        k_steps
        rename Fr _ _ _ _ => F7
        rename News _ _ _ _ => N7
        refine stop_out ?_
        refine while_skip (xs := as) (x := n2) (k0 := j + 1) (fm := fun k' t' => sfm ea aa mm um (.int k t) (.int k' t') (some (.int n1 t1)) (some (.int n2 t2))) (fr_congr F7 (sfm_eq rfl rfl rfl rfl rfl rfl rfl rfl (by (intro y a1 a2 a3 a4 a5 a6 a7 a8; (try simp only [if_neg a1, if_neg a2, if_neg a5, if_neg a6]); exact sfm_none y a1 a2 a3 a4 a5 a6 a7 a8)))) N7 (by exact lin [] [_] [(1, (.i (.k 0) (.v 0)))] 1 (.i (.k 0) (.a (.v 0) (.k 1))) rfl j0) (by exact (lt_i lt2')) (hpm e1) ?_
        intro hk8 tk8 k' t' hk' hl' hd' F6 N6 zP3 zK3
        clear F7 N7
        k_steps
        · rename_i n4 _ _ q4 hb4 _ F5 N5
          exact skip_nx zK3 (by rw [q4, hb4]) (fr_congr F5 (sfm_eq rfl rfl rfl rfl rfl rfl rfl rfl (by (intro y a1 a2 a3 a4 a5 a6 a7 a8; (try simp only [if_neg a1, if_neg a2, if_neg a5, if_neg a6]); exact sfm_none y a1 a2 a3 a4 a5 a6 a7 a8)))) N5
        · rename_i n4 _ _ q4 hb4
          have q8 : (tvs.setIfInBounds 3 ((none : Option Addr).elim .none fun f => rawInt f)).size = tvs.size := by simp
          dsimp only
          refine passOnE rfl F6 N6 (.tail _ (.head _)) hv1 (by rw [q8]; exact hts) (.head (ne_of_all hlt8)) ?_
          intro h5 F5 N5 _
          have q7 : (((tvs.setIfInBounds 3 ((none : Option Addr).elim .none fun f => rawInt f))).setIfInBounds 3 (rawInt s.heap.objs.size))[3]? = some (rawInt s.heap.objs.size) := by simp [hts]
          exact handler k k' _ _ _ _ _ _ _ _ _ _ _ _ _ _ (SA.stepE q1 q2 hge hlt hk hl hd3 hk' hl' (skip_at hd' q4 hb4)) hM hU (by exact Or.inl (by exact go_eqi (hl) ((eqi_b hkl)))) SU9 Fs9 (.inr (heldN_of F5 N5 hv1 q7 hlt8))
        · rename NX _ _ _ _ _ => x9
          exact stop_out (handler k k' _ _ _ _ _ _ _ _ _ _ _ _ _ _ (SA.stepE q1 q2 hge hlt hk hl hd3 hk' hl' (skip_end hd' (by exact go_eqi (hl') ((eqi_b ‹k' = ↑as.length›))))) hM hU (by exact Or.inl (by exact go_eqi (hl) ((eqi_b hkl)))) SU9 Fs9 (.inl ⟨_, _, F6, fun p hp => N6 p (.tail _ (.tail _ hp)), x9⟩))
end
section
section
variable {prog : Program} {w : World} {A : Around} {E : Value → Shared → Prop} {s : Shared} {env : Env} {h₀ : Heap} {x : Str} {px : Pos} {body : List Stmt} {Q : Flow → Shared → Prop}
noncomputable def ForAt (prog : Program) (w : World) (A : Around) (target : Expr) (body orelse : List Stmt) (env : Env) (Q : Flow → Shared → Prop) (E : Value → Shared → Prop) (it : Value) (s : Shared) : Prop :=
  codeAny (model prog w) A (.forLoop target it body orelse env) (fun r s' => match r with | .ok f => Q f s' | .error e => cameBackBy (model prog w) A env E e s') s
theorem for_start {target iter : Expr} {orelse : List Stmt} {pos : Pos}
    (h : wpAny (model prog w) A (eval iter env) (fun x s₁ => Stop (wpAny (model prog w) A (pyIter x) (ForAt prog w A target body orelse env Q E) E s₁)) E s)
    (hs : ∀ x, foldedSetIterable iter env x = pure x := by intro _; rfl) :
    wpAny (model prog w) A (exec (.For target iter body orelse pos) env) Q E s := wpAny_For h hs
/-- the end of a turn -/
noncomputable def ForEnd (h₀ : Heap) (L : Addr) (I : Addr) (o : Obj) (J : (Str → Option Value) → Ledger → Prop) (s : Shared) (Q : Flow → Shared → Prop) (f : Flow) (s' : Shared) : Prop := match f with
  | .next | .cont => ∃ h' tk m news, s' = { s with heap := h', toks := tk } ∧ Fr h₀ L h' m ∧ News h₀ L h' ((I, o) :: news) ∧ J m news
  | .brk => Q .next s'
  | .ret v => Q (.ret v) s'
theorem for_turn {M : Model} {A : Around} {env : Env} {E : Value → Shared → Prop} {b : List Stmt} {s₁ : Shared} {h₀ : Heap} {L I : Addr} {o : Obj} {J : (Str → Option Value) → Ledger → Prop} {s : Shared} {Q : Flow → Shared → Prop}
    (h : ∀ (zP : Flow → Shared → Prop) (_ : ForK h₀ L I o J s.gens s.drawn s.os Q zP), wpAny M A (execs b env) (Cont zP) E s₁) : wpAny M A (execs b env) (ForEnd h₀ L I o J s Q) E s₁ :=
  h _ ⟨fun h' tk m news F N j => ⟨h', tk, m, news, rfl, F, N, j⟩, fun h' tk m news F N j => ⟨h', tk, m, news, rfl, F, N, j⟩, fun _ h => h, fun _ _ h => h⟩
theorem fr_keeps {h h' : Heap} {L I : Addr} {m : Str → Option Value} (F : Fr h₀ L h m) (hI : I ≠ L) (hIb : h₀.get? I = none) (hk : ∀ b o, b ∉ [I] → h.get? b = some o → h'.get? b = some o) : Fr h₀ L h' m := by
  obtain ⟨oL, es, ep, hL, r⟩ := F.ns
  refine ⟨⟨oL, es, ep, hk _ _ (by simpa using Ne.symm hI) hL, r⟩, fun b o q => hk b o (fun hm => ?_) (F.keep b o q), F.above⟩
  rw [List.mem_singleton.mp hm, hIb] at q; cases q
theorem news_keeps {h h' : Heap} {L I : Addr} {news : Ledger} (N : News h₀ L h news) (ho : ∀ p ∈ news, p.1 ≠ I) (hk : ∀ b o, b ∉ [I] → h.get? b = some o → h'.get? b = some o) : News h₀ L h' news :=
  fun p hp => ⟨hk _ _ (by simpa using ho p hp) (N p hp).1, (N p hp).2⟩
inductive LedI (s : Shared) (h₀ : Heap) (L : Addr) (n : Nat) (St : Nat → Heap → Prop) (J : Nat → (Str → Option Value) → Ledger → Prop) (k : Nat) : Shared → Prop
  | mk (h : Heap) (tk : Tok) (m : Str → Option Value) (news : Ledger) (i : Nat) (_ : k = n - i) (_ : i ≤ n) (_ : St i h) (_ : Fr h₀ L h m) (_ : News h₀ L h news) (_ : J i m news) : LedI s h₀ L n St J k { s with heap := h, toks := tk }
theorem for_led {I L : Addr} {fp : List Addr} {n : Nat} {P : Nat → Value → Prop} {St : Nat → Heap → Prop} {m₀ : Str → Option Value} {news₀ : Ledger} {src : Ledger}
    (J : Nat → (Str → Option Value) → Ledger → Prop) (W : Walks prog w A I fp [I] n P St) (hL : env.locals = L) (hst : St 0 s.heap) (F : Fr h₀ L s.heap m₀) (N : News h₀ L s.heap news₀) (hj : J 0 m₀ news₀)
    (hI : I ≠ L) (hIb : h₀.get? I = none) (hoff : ∀ i m news, J i m news → ∀ p ∈ news, p.1 ≠ I)
    (hself : ∀ i h, St i h → ∃ o, h.get? I = some o)
    (hfp : ∀ b ∈ fp, b = I ∨ (∃ o, h₀.get? b = some o) ∨ ∃ o, (b, o) ∈ src) (hsrc : ∀ i m news, J i m news → ∀ p ∈ src, p ∈ news)
    (hx : env.kindOf x = some .local) (hp : (env.scope.kind == .class || (env.scope.kind == .module && env.locals != env.globals)) = false)
    (hE : PassesOwn (model prog w) A env E)
    (turn : ∀ i v m news o h tk, i < n → P i v → J i m news → Fr h₀ L h (fun y => if y = x then some v else m y) → News h₀ L h ((I, o) :: news) →
      ∀ (zP : Flow → Shared → Prop) (_ : ForK h₀ L I o (J (i + 1)) s.gens s.drawn s.os Q zP), wpAny (model prog w) A (execs body env) (Cont zP) E { s with heap := h, toks := tk })
    (done : ∀ m news h tk, J n m news → Fr h₀ L h m → News h₀ L h news → Q .next { s with heap := h, toks := tk }) :
    ForAt prog w A (.Name x px) body [] env Q E (.ref I) s := by
  subst hL
  unfold ForAt
  refine codeAny_forLoop (LedI s h₀ env.locals n St J) ?_ n (.mk s.heap s.toks m₀ news₀ 0 rfl (Nat.zero_le _) hst F N hj)
  rintro k _ ⟨h, tk, m, news, i, rfl, hi, hst, F, N, hJ⟩
  have hE' := hE
  by_cases hlt : i < n
  · refine W.item i _ _ _ hlt hst fun v h' tk' hP hst' hk => ?_
    obtain ⟨o, ho⟩ := hself _ _ hst'
    have F' := fr_keeps F hI hIb hk
    have N' := news_keeps N (hoff _ _ _ hJ) hk
    have N'' : News h₀ env.locals h' ((I, o) :: news) := fun p hp => by
      rcases List.mem_cons.mp hp with rfl | hp
      · exact ⟨ho, hI, hIb⟩
      · exact N' p hp
    refine wpAny_assign_Name (wpAny_storeName_local hx F'.ns (fun h₂ hn hs => ?_) hp)
    have F₂ := F'.set hn hs
    have N₂ := N''.set hs
    refine wpAny_mono (for_turn (turn i v m news o h₂ _ hlt hP hJ F₂ N₂)) (fun f s₃ hf => ?_) hE'
    have aux : ForEnd h₀ env.locals I o (J (i + 1)) { s with heap := h₂, toks := tk' + 1 } Q .next s₃ → ∃ k', k' < n - i ∧ LedI s h₀ env.locals n St J k' s₃ := by
      rintro ⟨h₃, tk₃, m₃, news₃, rfl, F₃, N₃, J₃⟩
      refine ⟨n - (i + 1), by exact lin [_, _, _, _] [] [(1, (.n (.v 2) (.a (.v 1) (.v 3)))), (1, (.n (.a (.v 0) (.a (.v 3) (.k 1))) (.v 2)))] 1 (.n (.a (.v 0) (.k 1)) (.v 1)) rfl (sub_b _ _) (sub_c (hlt)), .mk h₃ tk₃ m₃ news₃ (i + 1) rfl hlt (W.frame _ _ _ hst' fun b hb o' ho' => ?_) F₃ (fun p hp => N₃ p (List.mem_cons_of_mem _ hp)) J₃⟩
      rcases hfp b hb with rfl | ⟨o₁, h₁⟩ | ⟨o₁, h₁⟩
      · rw [ho] at ho'; cases ho'
        exact (N₃ _ List.mem_cons_self).1
      · rw [F'.keep _ _ h₁] at ho'; cases ho'
        exact F₃.keep _ _ h₁
      · have q1 := (N' _ (hsrc _ _ _ hJ _ h₁)).1
        rw [q1] at ho'; cases ho'
        exact (N₃ _ (List.mem_cons_of_mem _ (hsrc _ _ _ J₃ _ h₁))).1
    cases f with
    | next => exact aux hf
    | cont => exact aux hf
    | brk => exact hf
    | ret v => exact hf
  · have e : i = n := by exact go_eq (hi) ((not_lt_n hlt))
    subst e
    refine W.done _ _ _ hst fun h' tk' hk => ?_
    refine wpAny_execs_nil ?_
    exact done m news h' tk' hJ (fr_keeps F hI hIb hk) (news_keeps N (hoff _ _ _ hJ) hk)
theorem for_list {l L : Addr} {vs : List Value} {nl : Nat} {m₀ : Str → Option Value} {news₀ : Ledger}
    (J : Nat → (Str → Option Value) → Ledger → Prop) (hh : A.handled = none) (hL : env.locals = L) (F : Fr h₀ L s.heap m₀) (N : News h₀ L s.heap news₀) (hl : (l, listOf vs.toArray nl) ∈ news₀) (hj : J 0 m₀ news₀)
    (hoff : ∀ i m news, J i m news → (l, listOf vs.toArray nl) ∈ news ∧ ∀ p ∈ news, p.1 ≠ s.heap.objs.size)
    (hx : env.kindOf x = some .local) (hp : (env.scope.kind == .class || (env.scope.kind == .module && env.locals != env.globals)) = false)
    (hE : PassesOwn (model prog w) A env E)
    (turn : ∀ i v m news o h tk I, I = s.heap.objs.size → vs[i]? = some v → J i m news → Fr h₀ L h (fun y => if y = x then some v else m y) → News h₀ L h ((I, o) :: news) →
      ∀ (zP : Flow → Shared → Prop) (_ : ForK h₀ L I o (J (i + 1)) s.gens s.drawn s.os Q zP), wpAny (model prog w) A (execs body env) (Cont zP) E { s with heap := h, toks := tk })
    (done : ∀ m news h tk, J vs.length m news → Fr h₀ L h m → News h₀ L h news → Q .next { s with heap := h, toks := tk }) :
    wpAny (model prog w) A (pyIter (.ref l)) (ForAt prog w A (.Name x px) body [] env Q E) E s := by
  have hls : s.heap.IsList l vs.toArray := ⟨_, (N _ hl).1, rfl, _, rfl⟩
  refine wpAny_pyIter_list hls ?_
  have hlt : l < s.heap.objs.size := Heap.lt_size (N _ hl).1
  obtain ⟨oL, es, ep, hLo, _⟩ := id F.ns
  have hne : l ≠ s.heap.objs.size := Nat.ne_of_lt hlt
  have W := Walks.list (prog := prog) (w := w) hh s.heap.objs.size l hne vs.toArray
  have hsz : vs.toArray.size = vs.length := by simp
  rw [hsz] at W
  refine for_led (src := [(l, listOf vs.toArray nl)]) J W hL ⟨⟨_, Heap.get?_push_size _ rfl, rfl, rfl⟩, hls.at fun o e => Heap.get?_push_of_some _ e⟩ (F.push _) (fun p hp => ⟨Heap.get?_push_of_some _ (N p hp).1, (N p hp).2⟩) hj
    (Nat.ne_of_gt (Heap.lt_size hLo)) (Heap.get?_none_of_le (Nat.le_of_lt (Nat.lt_of_le_of_lt F.above (Heap.lt_size hLo)))) (fun i m news hJ => (hoff i m news hJ).2) ?_ ?_ ?_ hx hp hE ?_ ?_
  · rintro i h ⟨⟨o, ho, _⟩, _⟩; exact ⟨o, ho⟩
  · intro b hb
    rcases List.mem_cons.mp hb with rfl | hb
    · exact .inl rfl
    · rw [List.mem_singleton.mp hb]; exact .inr (.inr ⟨_, List.mem_cons_self⟩)
  · intro i m news hJ p hp
    rw [List.mem_singleton.mp hp]; exact (hoff i m news hJ).1
  · intro i v m news o h tk hi hP hJ F N
    exact turn i v m news o h tk _ rfl (by simpa using hP) hJ F N
  · intro m news h tk hJ F N
    exact done m news h tk hJ F N
theorem for_tup {l L : Addr} {vs : List Value} {nl : Nat} {m₀ : Str → Option Value} {news₀ : Ledger}
    (J : Nat → (Str → Option Value) → Ledger → Prop) (hh : A.handled = none) (hL : env.locals = L) (F : Fr h₀ L s.heap m₀) (N : News h₀ L s.heap news₀) (hl : (l, { cls := .type "tuple", data := .seq vs.toArray nl }) ∈ news₀) (hj : J 0 m₀ news₀)
    (hoff : ∀ i m news, J i m news → (l, { cls := .type "tuple", data := .seq vs.toArray nl }) ∈ news ∧ ∀ p ∈ news, p.1 ≠ s.heap.objs.size)
    (hx : env.kindOf x = some .local) (hp : (env.scope.kind == .class || (env.scope.kind == .module && env.locals != env.globals)) = false)
    (hE : PassesOwn (model prog w) A env E)
    (turn : ∀ i v m news o h tk I, I = s.heap.objs.size → vs[i]? = some v → J i m news → Fr h₀ L h (fun y => if y = x then some v else m y) → News h₀ L h ((I, o) :: news) →
      ∀ (zP : Flow → Shared → Prop) (_ : ForK h₀ L I o (J (i + 1)) s.gens s.drawn s.os Q zP), wpAny (model prog w) A (execs body env) (Cont zP) E { s with heap := h, toks := tk })
    (done : ∀ m news h tk, J vs.length m news → Fr h₀ L h m → News h₀ L h news → Q .next { s with heap := h, toks := tk }) :
    wpAny (model prog w) A (pyIter (.ref l)) (ForAt prog w A (.Name x px) body [] env Q E) E s := by
  have hls : s.heap.IsTuple l vs.toArray := ⟨_, (N _ hl).1, rfl, _, rfl⟩
  refine wpAny_pyIter_tuple hls ?_
  have hlt : l < s.heap.objs.size := Heap.lt_size (N _ hl).1
  obtain ⟨oL, es, ep, hLo, _⟩ := id F.ns
  have hne : l ≠ s.heap.objs.size := Nat.ne_of_lt hlt
  have W := Walks.tuple (prog := prog) (w := w) hh s.heap.objs.size l hne vs.toArray
  have hsz : vs.toArray.size = vs.length := by simp
  rw [hsz] at W
  refine for_led (src := [(l, { cls := .type "tuple", data := .seq vs.toArray nl })]) J W hL ⟨⟨_, Heap.get?_push_size _ rfl, rfl, rfl⟩, ⟨_, Heap.get?_push_of_some _ (N _ hl).1, rfl, _, rfl⟩⟩ (F.push _) (fun p hp => ⟨Heap.get?_push_of_some _ (N p hp).1, (N p hp).2⟩) hj
    (Nat.ne_of_gt (Heap.lt_size hLo)) (Heap.get?_none_of_le (Nat.le_of_lt (Nat.lt_of_le_of_lt F.above (Heap.lt_size hLo)))) (fun i m news hJ => (hoff i m news hJ).2) ?_ ?_ ?_ hx hp hE ?_ ?_
  · rintro i h ⟨⟨o, ho, _⟩, _⟩; exact ⟨o, ho⟩
  · intro b hb
    rcases List.mem_cons.mp hb with rfl | hb
    · exact .inl rfl
    · rw [List.mem_singleton.mp hb]; exact .inr (.inr ⟨_, List.mem_cons_self⟩)
  · intro i m news hJ p hp
    rw [List.mem_singleton.mp hp]; exact (hoff i m news hJ).1
  · intro i v m news o h tk hi hP hJ F N
    exact turn i v m news o h tk _ rfl (by simpa using hP) hJ F N
  · intro m news h tk hJ F N
    exact done m news h tk hJ F N
theorem for_range {r L : Addr} {a b c : Int} {t u v : Tok} {n : Nat} {m₀ : Str → Option Value} {news₀ : Ledger}
    (J : Nat → (Str → Option Value) → Ledger → Prop) (hh : A.handled = none) (hL : env.locals = L) (F : Fr h₀ L s.heap m₀) (N : News h₀ L s.heap news₀) (hr : IsRange s.heap r a b c t u v) (hsmall : Builtin.Range.small a b c = true)
    (hn : Builtin.Range.rangeSize a b c = (n : Int)) (hj : J 0 m₀ news₀)
    (hoff : ∀ i m news, J i m news → ∀ p ∈ news, p.1 ≠ s.heap.objs.size)
    (hx : env.kindOf x = some .local) (hp : (env.scope.kind == .class || (env.scope.kind == .module && env.locals != env.globals)) = false)
    (hE : PassesOwn (model prog w) A env E)
    (turn : ∀ i tv m news o h tk I, I = s.heap.objs.size → i < n → J i m news → Fr h₀ L h (fun y => if y = x then some (.int (a + (i : Nat) * c) tv) else m y) → News h₀ L h ((I, o) :: news) →
      ∀ (zP : Flow → Shared → Prop) (_ : ForK h₀ L I o (J (i + 1)) s.gens s.drawn s.os Q zP), wpAny (model prog w) A (execs body env) (Cont zP) E { s with heap := h, toks := tk })
    (done : ∀ m news h tk, J n m news → Fr h₀ L h m → News h₀ L h news → Q .next { s with heap := h, toks := tk }) :
    wpAny (model prog w) A (pyIter (.ref r)) (ForAt prog w A (.Name x px) body [] env Q E) E s := by
  refine wpAny_pyIter_range hr hsmall ?_
  obtain ⟨oL, es, ep, hLo, _⟩ := id F.ns
  have W := Walks.range (prog := prog) (w := w) hh s.heap.objs.size a c n
  rw [hn]
  refine for_led (src := []) J W hL (by show IsRangeIter _ _ _ _ _; simpa using Heap.get?_push_size s.heap (o := { cls := .type "range_iterator", data := .fields #[rawInt a, rawInt (n : Int), rawInt c] }) rfl) (F.push _) (fun p hp => ⟨Heap.get?_push_of_some _ (N p hp).1, (N p hp).2⟩) hj
    (Nat.ne_of_gt (Heap.lt_size hLo)) (Heap.get?_none_of_le (Nat.le_of_lt (Nat.lt_of_le_of_lt F.above (Heap.lt_size hLo)))) hoff ?_ ?_ ?_ hx hp hE ?_ ?_
  · intro i h st; exact ⟨_, st⟩
  · intro b hb
    rw [List.mem_singleton.mp hb]; exact .inl rfl
  · intro i m news hJ p hp; cases hp
  · rintro i _ m news o h tk hi ⟨tv, rfl⟩ hJ F N
    exact turn i tv m news o h tk _ rfl hi hJ F N
  · intro m news h tk hJ F N
    exact done m news h tk hJ F N
end
theorem item_at {prog : Program} {w : World} {A : Around} {E : Value → Shared → Prop} {s : Shared} {value slice : PySem.Expr} {l : Addr} {vs : List Value} {ns : List Int} {k n : Int} {u : Tok} {Q : Value → Shared → Prop} (hl : s.heap.IsList l vs.toArray) (hi : IntsAre vs ns) (h0 : 0 ≤ k) (hk : k < 2 ^ 63)
    (hx : ns[k.toNat]? = some n) (h : ∀ t, Q (.int n t) s)
    (hs : subscripted slice false (.ref l) (.int k u) = operate [.ref l, .int k u] (getItem (.ref l) (.int k u)) := by with_unfolding_all rfl)
    (hg : ∀ r, letTemporaryGo value (.ref l) r = pure () := by intro _; with_unfolding_all rfl) :
    wpAny (model prog w) A (subscriptTail value slice (.ref l) (.int k u)) Q E s := by
  have hlt := (List.getElem?_eq_some_iff.mp hx).1
  refine item_list_ints hl hi h0 (by exact go_lti (lin [_, _] [_] [(1, (.n (.a (.v 1) (.k 1)) (.v 0))), (1, (.i (.v 0) (.n (.v 1))))] 1 (.i (.a (.v 0) (.k 1)) (.n (.v 0))) rfl hlt (tn_a _))) hk (fun t => ?_) hs hg
  have e2 : ns.getD k.toNat 0 = n := by simp [List.getD, hx]
  rw [e2]; exact h t
theorem for_range0 {prog : Program} {w : World} {A : Around} {E : Value → Shared → Prop} {s : Shared} {env : Env} {h₀ : Heap} {x : Str} {px : Pos} {body : List Stmt} {Q : Flow → Shared → Prop} {r L : Addr} {b : Int} {t u v : Tok} {m₀ : Str → Option Value} {news₀ : Ledger}
    (J : Nat → (Str → Option Value) → Ledger → Prop) (hh : A.handled = none) (hL : env.locals = L) (F : Fr h₀ L s.heap m₀) (N : News h₀ L s.heap news₀) (hr : IsRange s.heap r 0 b 1 t u v) (hb : -1000000 ≤ b ∧ b < 1000000)
    (hj : J 0 m₀ news₀)
    (hoff : ∀ i m news, J i m news → ∀ p ∈ news, p.1 ≠ s.heap.objs.size)
    (hx : env.kindOf x = some .local) (hp : (env.scope.kind == .class || (env.scope.kind == .module && env.locals != env.globals)) = false)
    (hE : PassesOwn (model prog w) A env E)
    (turn : ∀ (i : Nat) tv m news o h tk I, I = s.heap.objs.size → i < b.toNat → J i m news → Fr h₀ L h (fun y => if y = x then some (.int (i : Int) tv) else m y) → News h₀ L h ((I, o) :: news) →
      ∀ (zP : Flow → Shared → Prop) (_ : ForK h₀ L I o (J (i + 1)) s.gens s.drawn s.os Q zP), wpAny (model prog w) A (execs body env) (Cont zP) E { s with heap := h, toks := tk })
    (done : ∀ m news h tk, J b.toNat m news → Fr h₀ L h m → News h₀ L h news → Q .next { s with heap := h, toks := tk }) :
    wpAny (model prog w) A (pyIter (.ref r)) (ForAt prog w A (.Name x px) body [] env Q E) E s := by
  refine for_range (n := b.toNat) J hh hL F N hr (small_one (by omega) (by omega) (by omega) (by omega)) (by rw [rangeSize_nat]; simp) hj hoff hx hp hE ?_ done
  intro i tv m news o h tk I hI hi hJ F1 N1
  have e : (0 : Int) + (i : Nat) * 1 = (i : Int) := by omega
  rw [e] at F1
  exact turn i tv m news o h tk I hI hi hJ F1 N1
theorem fdiv_bounds {t p : Int} (ht : 0 ≤ t) (hp : 0 < p) : 0 ≤ t.fdiv p ∧ t.fdiv p ≤ t := by
  rw [Int.fdiv_eq_ediv_of_nonneg t (by exact lin [] [_] [(1, (.i (.a (.k 0) (.k 1)) (.v 0)))] 1 (.i (.k 0) (.v 0)) rfl (lt_i hp))]
  exact ⟨Int.ediv_nonneg ht (by exact lin [] [_] [(1, (.i (.a (.k 0) (.k 1)) (.v 0)))] 1 (.i (.k 0) (.v 0)) rfl (lt_i hp)), Int.ediv_le_self p ht⟩
theorem off_map {news news₀ : Ledger} {I : Addr} (h : ∀ p ∈ news₀, p.1 ≠ I) (e : news.map (·.1) = news₀.map (·.1)) : ∀ p ∈ news, p.1 ≠ I := fun p hp q => by
  have : I ∈ news₀.map (·.1) := by rw [← e, ← q]; exact List.mem_map_of_mem hp
  obtain ⟨p', hp', e'⟩ := List.mem_map.mp this
  exact h p' hp' e'
theorem off_new {h₀ h : Heap} {L : Addr} {news : Ledger} (N : News h₀ L h news) : ∀ p ∈ news, p.1 ≠ h.objs.size := fun p hp => Nat.ne_of_lt (Heap.lt_size (N p hp).1)
theorem lt_new {h₀ h : Heap} {L : Addr} {news : Ledger} (N : News h₀ L h news) : ∀ p ∈ news, p.1 < h.objs.size := fun p hp => Heap.lt_size (N p hp).1
end
section
noncomputable def galL : Bool → Keyed → Array Keyed → Nat → Nat → Nat → StateT SortSt Sem (Option Nat) := sortPriv% PySem.Builtin.gallop
/-- the key's number -/
noncomputable def kn (x : Keyed) : Int := numOf x.1
noncomputable def IsI (x : Keyed) : Prop := ∃ n t, x.1 = .int n t
section
variable {prog : Program} {w : World} {A : Around} {E : Value → Shared → Prop} {s : Shared}
theorem wpS_lt {st : SortSt} {x y : Keyed} {Q : Option Bool → SortSt → Prop} (hk : kindOf st = oneType') (hx : IsI x) (hy : IsI y) (h : Q (some (decide (kn x < kn y))) st) : wpS (model prog w) A E s (lt' x y) Q st := by
  obtain ⟨a, t, e1⟩ := hx
  obtain ⟨b, u, e2⟩ := hy
  unfold kn at h
  rw [e1, e2] at h
  rw [lt'_eq]
  refine wpS_bind (wpS_get ?_)
  rw [hk, keyLt'_oneType, e1, e2]
  refine wpS_bind (wpS_lift (wpAny_attempt (oneLt_int ⟨rfl, ?_⟩)))
  exact wpS_pure h
theorem wpS_elem {st : SortSt} {xs : Array Keyed} {i : Nat} {Q : Keyed → SortSt → Prop} (hi : i < xs.size) (h : Q xs[i] st) : wpS (model prog w) A E s (elem' xs i) Q st := by
  rw [elem'_eq, getElem?_pos xs i hi]
  exact wpS_pure h
/-- whether an element stands ahead of the key -/
noncomputable def bey (left : Bool) (key : Keyed) (arr : Array Keyed) (base i : Nat) : Bool := if left then decide (K arr (base + i) < kn key) else !decide (kn key < K arr (base + i))
theorem wpS_bey {st : SortSt} {left : Bool} {key : Keyed} {arr : Array Keyed} {base i : Nat} {Q : Option Bool → SortSt → Prop} (hk : kindOf st = oneType') (hkey : IsI key) (hall : ∀ x ∈ arr.toList, IsI x) (hi : base + i < arr.size) (h : Q (some (bey left key arr base i)) st) :
    wpS (model prog w) A E s ((do let x ← elem' arr (base + i); if left = true then lt' x key else do { let r ← lt' key x; pure (Option.map (fun x => !x) r) }) : StateT SortSt Sem (Option Bool)) Q st := by
  have hx : IsI arr[base + i] := hall _ (by simp)
  refine wpS_bind (wpS_elem hi ?_)
  unfold bey at h
  rw [K_eq hi] at h
  cases left with
  | true =>
    rw [if_pos rfl]
    exact wpS_lt hk hx hkey h
  | false =>
    rw [if_neg (by simp)]
    refine wpS_bind (wpS_lt hk hkey hx ?_)
    exact wpS_pure h
inductive GI {α : Type} (st : SortSt) (P : Nat → Nat → Prop) : Option α × Nat × Nat → SortSt → Prop
  | mk (lo o : Nat) (_ : P lo o) : GI st P (none, lo, o) st
theorem wpS_gallop {st : SortSt} {left : Bool} {key : Keyed} {arr : Array Keyed} {base n hint : Nat} {Q : Option Nat → SortSt → Prop} (hk : kindOf st = oneType') (hkey : IsI key) (hall : ∀ x ∈ arr.toList, IsI x) (hb : base + n ≤ arr.size) (hh : hint < n)
    (hs : ∀ i j, i ≤ j → j < n → K arr (base + i) ≤ K arr (base + j))
    (h : ∀ k, k ≤ n → (∀ i, i < k → bey left key arr base i = true) → (∀ i, k ≤ i → i < n → bey left key arr base i = false) → Q (some k) st) :
    wpS (model prog w) A E s (galL left key arr base n hint) Q st := by
  have mono : ∀ i j, i ≤ j → j < n → bey left key arr base j = true → bey left key arr base i = true := by
    intro i j hij hj e
    have := hs i j hij hj
    unfold bey at e ⊢
    cases left <;> simp at e ⊢ <;> (first | exact lin [] [_, _, _] [(1, (.i (.v 0) (.v 2))), (1, (.i (.v 2) (.v 1)))] 1 (.i (.v 0) (.v 1)) rfl this e | exact go_lti (lin [] [_, _, _] [(1, (.i (.v 0) (.v 2))), (1, (.i (.a (.v 2) (.k 1)) (.v 1)))] 1 (.i (.a (.v 0) (.k 1)) (.v 1)) rfl this (lt_i e)) | omega)
  have mono' : ∀ i j, i ≤ j → j < n → bey left key arr base i = false → bey left key arr base j = false := by
    intro i j hij hj e
    cases q : bey left key arr base j with
    | false => rfl
    | true => rw [mono i j hij hj q] at e; cases e
  with_unfolding_all refine wpS_bind ?_
  refine wpS_bey hk hkey hall (by exact lin [_, _, _, _] [] [(1, (.n (.a (.v 0) (.v 3)) (.v 2))), (1, (.n (.a (.v 1) (.k 1)) (.v 3)))] 1 (.n (.a (.a (.v 0) (.v 1)) (.k 1)) (.v 2)) rfl hb hh) ?_
  dsimp only
  generalize hr : bey left key arr base hint = right
  cases right with
  | true =>
    rw [if_pos rfl]
    refine wpS_bind (wpS_mono (wpS_forRange
      (I := fun x => GI st fun lo o => x < o ∧ lo < o ∧ hint + lo < n ∧ bey left key arr base (hint + lo) = true)
      (Q := GI st fun lo o => lo < o ∧ hint + lo < n ∧ bey left key arr base (hint + lo) = true ∧ (n - hint ≤ o ∨ bey left key arr base (hint + o) = false)) ?s1 ?f1 ?i1) ?p1)
    case i1 => exact ⟨0, 1, by exact lin [] [] [] 1 (.n (.a (.k 0) (.k 1)) (.k 1)) rfl, by exact lin [] [] [] 1 (.n (.a (.k 0) (.k 1)) (.k 1)) rfl, by exact lin [_, _] [] [(1, (.n (.a (.v 0) (.k 1)) (.v 1)))] 1 (.n (.a (.a (.v 0) (.k 0)) (.k 1)) (.v 1)) rfl hh, hr⟩
    case f1 =>
      rintro _ _ ⟨lo, o, h1, h2, h3, h4⟩
      exact ⟨lo, o, h2, h3, h4, .inl (by exact lin [_, _, _, _, _] [] [(1, (.n (.a (.v 2) (.k 1)) (.v 1))), (1, (.n (.v 3) (.v 2))), (1, (.n (.a (.v 0) (.v 4)) (.v 3)))] 1 (.n (.v 0) (.v 1)) rfl h1 (Nat.le_max_right _ _) (sub_c (lin [_, _] [] [(1, (.n (.a (.v 0) (.k 1)) (.v 1)))] 1 (.n (.v 0) (.v 1)) rfl hh)))⟩
    case s1 =>
      rintro x _ _ _ hx ⟨lo, o, h1, h2, h3, h4⟩
      dsimp only
      by_cases hge : o ≥ n - hint
      · rw [if_pos hge]
        exact wpS_pure ⟨lo, o, h2, h3, h4, .inl hge⟩
      · rw [if_neg hge]
        refine wpS_bind (wpS_bey hk hkey hall (by exact lin [_, _, _, _, _, _] [] [(1, (.n (.a (.v 0) (.v 4)) (.v 3))), (1, (.n (.a (.v 2) (.k 1)) (.v 5))), (1, (.n (.a (.v 5) (.v 1)) (.v 4)))] 1 (.n (.a (.a (.v 0) (.a (.v 1) (.v 2))) (.k 1)) (.v 3)) rfl hb (not_le_n hge) (sub_c (lin [_, _] [] [(1, (.n (.a (.v 0) (.k 1)) (.v 1)))] 1 (.n (.v 0) (.v 1)) rfl hh))) ?_)
        dsimp only
        generalize hm : bey left key arr base (hint + o) = more
        cases more with
        | false => exact wpS_pure ⟨lo, o, h2, h3, h4, .inr hm⟩
        | true => exact wpS_pure ⟨o, 2 * o + 1, by exact lin [_, _] [] [(2, (.n (.a (.v 0) (.k 1)) (.v 1)))] 1 (.n (.a (.a (.v 0) (.k 1)) (.k 1)) (.a (.m 2 (.v 1)) (.k 1))) rfl h1, by exact lin [_] [] [] 1 (.n (.a (.v 0) (.k 1)) (.a (.m 2 (.v 0)) (.k 1))) rfl, by exact lin [_, _, _, _] [] [(1, (.n (.a (.v 1) (.k 1)) (.v 3))), (1, (.n (.a (.v 3) (.v 0)) (.v 2)))] 1 (.n (.a (.a (.v 0) (.v 1)) (.k 1)) (.v 2)) rfl (not_le_n hge) (sub_c (lin [_, _] [] [(1, (.n (.a (.v 0) (.k 1)) (.v 1)))] 1 (.n (.v 0) (.v 1)) rfl hh)), hm⟩
    case p1 =>
      rintro _ _ ⟨lo, o, h1, h2, h3, h4⟩
      dsimp only
      refine wpS_bind (wpS_mono (wpS_forRange
        (I := fun x => GI st fun lo hi => lo ≤ hi ∧ hi ≤ n ∧ hi - lo ≤ n - x ∧ (∀ i, i < lo → bey left key arr base i = true) ∧ (∀ i, hi ≤ i → i < n → bey left key arr base i = false))
        (Q := GI st fun lo hi => hi ≤ n ∧ (∀ i, i < hi → bey left key arr base i = true) ∧ (∀ i, hi ≤ i → i < n → bey left key arr base i = false)) ?s2 ?f2 ?i2) ?p2)
      case i2 => exact ⟨_, _, by omega, by exact lin [_, _, _, _] [] [(1, (.n (.a (.v 3) (.v 0)) (.v 2))), (1, (.n (.v 1) (.v 3)))] 1 (.n (.a (.v 0) (.v 1)) (.v 2)) rfl (sub_c (lin [_, _] [] [(1, (.n (.a (.v 0) (.k 1)) (.v 1)))] 1 (.n (.v 0) (.v 1)) rfl hh)) (Nat.min_le_right _ _), by exact lin [_, _, _, _, _, _] [] [(1, (.n (.a (.v 2) (.v 3)) (.v 4))), (1, (.n (.v 5) (.v 2))), (1, (.n (.v 4) (.a (.v 1) (.k 0)))), (1, (.n (.v 0) (.a (.v 3) (.v 5))))] 1 (.n (.v 0) (.v 1)) rfl (sub_c (lin [_, _] [] [(1, (.n (.a (.v 0) (.k 1)) (.v 1)))] 1 (.n (.v 0) (.v 1)) rfl hh)) (Nat.min_le_right _ _) (sub_b _ _) (sub_a _ _), fun i hi => mono i _ (by exact lin [_, _, _] [] [(1, (.n (.a (.v 0) (.k 1)) (.a (.a (.v 1) (.v 2)) (.k 1))))] 1 (.n (.v 0) (.a (.v 1) (.v 2))) rfl hi) h2 h3, fun i hi1 hi2 => h4.elim (fun q => by omega) (fun q => mono' _ _ (by omega) hi2 q)⟩
      case f2 =>
        rintro _ _ ⟨lo, hi, g1, g2, g3, g4, g5⟩
        exact ⟨lo, hi, g2, fun i hi' => g4 i (by exact lin [_, _, _, _, _, _, _] [] [(1, (.n (.v 2) (.v 3))), (1, (.n (.a (.v 0) (.k 1)) (.v 4))), (1, (.n (.v 5) (.v 6))), (1, (.n (.a (.v 3) (.v 6)) (.v 5))), (1, (.n (.v 4) (.a (.v 2) (.v 1))))] 1 (.n (.a (.v 0) (.k 1)) (.v 1)) rfl g3 hi' (Nat.le_max_right _ _) (sub_c ((max_d (Nat.zero_le _)))) (sub_b _ _)), g5⟩
      case s2 =>
        rintro x _ _ _ hx ⟨lo, hi, g1, g2, g3, g4, g5⟩
        dsimp only
        by_cases hge : lo ≥ hi
        · rw [if_pos hge]
          exact wpS_pure ⟨lo, hi, g2, fun i hi' => g4 i (by exact lin [_, _, _] [] [(1, (.n (.v 2) (.v 1))), (1, (.n (.a (.v 0) (.k 1)) (.v 2)))] 1 (.n (.a (.v 0) (.k 1)) (.v 1)) rfl hge hi'), g5⟩
        · rw [if_neg hge]
          refine wpS_bind (wpS_bey hk hkey hall (by exact lin [_, _, _, _, _, _, _] [] [(2, (.n (.a (.v 0) (.v 4)) (.v 3))), (2, (.n (.v 5) (.v 4))), (1, (.n (.a (.v 1) (.k 1)) (.v 5))), (1, (.n (.a (.v 6) (.v 1)) (.v 5))), (1, (.n (.m 2 (.v 2)) (.v 6)))] 2 (.n (.a (.a (.v 0) (.a (.v 1) (.v 2))) (.k 1)) (.v 3)) rfl hb g2 (not_le_n hge) (sub_c (g1)) (div_a _ _)) ?_)
          dsimp only
          generalize hm : bey left key arr base (lo + (hi - lo) / 2) = more
          cases more with
          | false => exact wpS_pure ⟨lo, _, by exact lin [_, _] [] [] 1 (.n (.v 0) (.a (.v 0) (.v 1))) rfl, by exact lin [_, _, _, _, _] [] [(1, (.n (.v 3) (.v 2))), (1, (.n (.a (.v 4) (.v 0)) (.v 3))), (1, (.n (.m 2 (.v 1)) (.v 4)))] 1 (.n (.a (.v 0) (.v 1)) (.v 2)) rfl g2 (sub_c (g1)) (div_a _ _), by exact lin [_, _, _, _, _, _, _, _] [] [(1, (.n (.v 2) (.v 3))), (1, (.n (.m 2 (.v 4)) (.v 2))), (1, (.n (.a (.v 3) (.v 5)) (.v 6))), (1, (.n (.v 6) (.a (.v 1) (.a (.v 5) (.k 1))))), (2, (.n (.a (.v 0) (.v 7)) (.a (.v 7) (.v 4))))] 2 (.n (.v 0) (.v 1)) rfl g3 (div_a _ _) (sub_c (lin [_, _] [] [(1, (.n (.a (.v 0) (.k 1)) (.v 1)))] 1 (.n (.v 0) (.v 1)) rfl hx)) (sub_b _ _) (sub_c (lin [_, _] [] [] 1 (.n (.v 0) (.a (.v 0) (.v 1))) rfl)), g4, fun i h1 h2 => mono' _ _ h1 h2 hm⟩
          | true => exact wpS_pure ⟨_, hi, by exact lin [_, _, _, _] [] [(1, (.n (.a (.v 0) (.k 1)) (.v 2))), (1, (.n (.a (.v 3) (.v 0)) (.v 2))), (1, (.n (.m 2 (.v 1)) (.v 3)))] 2 (.n (.a (.a (.v 0) (.v 1)) (.k 1)) (.v 2)) rfl (not_le_n hge) (sub_c (g1)) (div_a _ _), by exact g2, by exact lin [_, _, _, _, _, _, _, _, _] [] [(1, (.n (.v 2) (.v 3))), (1, (.n (.a (.v 3) (.v 4)) (.v 5))), (1, (.n (.v 6) (.a (.v 2) (.v 7)))), (1, (.n (.v 5) (.a (.v 1) (.a (.v 4) (.k 1))))), (1, (.n (.a (.v 0) (.a (.a (.v 7) (.v 8)) (.k 1))) (.v 6)))] 1 (.n (.v 0) (.v 1)) rfl g3 (sub_c (lin [_, _] [] [(1, (.n (.a (.v 0) (.k 1)) (.v 1)))] 1 (.n (.v 0) (.v 1)) rfl hx)) (sub_b _ _) (sub_b _ _) (sub_c (lin [_, _, _, _] [] [(1, (.n (.a (.v 0) (.k 1)) (.v 2))), (1, (.n (.m 2 (.v 1)) (.v 3))), (1, (.n (.a (.v 3) (.v 0)) (.v 2)))] 2 (.n (.a (.a (.v 0) (.v 1)) (.k 1)) (.v 2)) rfl (not_le_n hge) (div_a _ _) (sub_c (g1)))), fun i hi' => mono i _ (by exact lin [_, _, _] [] [(1, (.n (.a (.v 0) (.k 1)) (.a (.a (.v 1) (.v 2)) (.k 1))))] 1 (.n (.v 0) (.a (.v 1) (.v 2))) rfl hi') (by exact lin [_, _, _, _, _] [] [(2, (.n (.v 3) (.v 2))), (1, (.n (.a (.v 0) (.k 1)) (.v 3))), (1, (.n (.a (.v 4) (.v 0)) (.v 3))), (1, (.n (.m 2 (.v 1)) (.v 4)))] 2 (.n (.a (.a (.v 0) (.v 1)) (.k 1)) (.v 2)) rfl g2 (not_le_n hge) (sub_c (g1)) (div_a _ _)) hm, g5⟩
      case p2 =>
        rintro _ _ ⟨lo, hi, g2, g4, g5⟩
        exact wpS_pure (h hi g2 g4 g5)
  | false =>
    rw [if_neg (by simp)]
    refine wpS_bind (wpS_mono (wpS_forRange
      (I := fun x => GI st fun lo o => x < o ∧ lo < o ∧ lo ≤ hint ∧ bey left key arr base (hint - lo) = false)
      (Q := GI st fun lo o => lo < o ∧ lo ≤ hint ∧ bey left key arr base (hint - lo) = false ∧ (hint + 1 ≤ o ∨ bey left key arr base (hint - o) = true)) ?s1 ?f1 ?i1) ?p1)
    case i1 => exact ⟨0, 1, by exact lin [] [] [] 1 (.n (.a (.k 0) (.k 1)) (.k 1)) rfl, by exact lin [] [] [] 1 (.n (.a (.k 0) (.k 1)) (.k 1)) rfl, by exact Nat.zero_le _, hr⟩
    case f1 =>
      rintro _ _ ⟨lo, o, h1, h2, h3, h4⟩
      exact ⟨lo, o, h2, h3, h4, .inl (by exact lin [_, _, _, _] [] [(1, (.n (.a (.v 0) (.k 1)) (.v 2))), (1, (.n (.a (.v 3) (.k 1)) (.v 1))), (1, (.n (.v 2) (.v 3)))] 1 (.n (.a (.v 0) (.k 1)) (.v 1)) rfl hh h1 (Nat.le_max_right _ _))⟩
    case s1 =>
      rintro x _ _ _ hx ⟨lo, o, h1, h2, h3, h4⟩
      dsimp only
      by_cases hge : o ≥ hint + 1
      · rw [if_pos hge]
        exact wpS_pure ⟨lo, o, h2, h3, h4, .inl hge⟩
      · rw [if_neg hge]
        refine wpS_bind (wpS_bey hk hkey hall (by exact lin [_, _, _, _, _, _] [] [(1, (.n (.a (.v 0) (.v 3)) (.v 2))), (1, (.n (.a (.v 4) (.k 1)) (.v 3))), (1, (.n (.a (.v 1) (.v 5)) (.v 4)))] 1 (.n (.a (.a (.v 0) (.v 1)) (.k 1)) (.v 2)) rfl hb hh (sub_c (lin [_, _] [] [(1, (.n (.a (.v 0) (.k 1)) (.a (.v 1) (.k 1))))] 1 (.n (.v 0) (.v 1)) rfl (not_le_n hge)))) ?_)
        dsimp only
        generalize hm : bey left key arr base (hint - o) = more
        cases more with
        | true => exact wpS_pure ⟨lo, o, h2, h3, h4, .inr hm⟩
        | false => exact wpS_pure ⟨o, 2 * o + 1, by exact lin [_, _] [] [(2, (.n (.a (.v 0) (.k 1)) (.v 1)))] 1 (.n (.a (.a (.v 0) (.k 1)) (.k 1)) (.a (.m 2 (.v 1)) (.k 1))) rfl h1, by exact lin [_] [] [] 1 (.n (.a (.v 0) (.k 1)) (.a (.m 2 (.v 0)) (.k 1))) rfl, by exact lin [_, _] [] [(1, (.n (.a (.v 0) (.k 1)) (.a (.v 1) (.k 1))))] 1 (.n (.v 0) (.v 1)) rfl (not_le_n hge), hm⟩
    case p1 =>
      rintro _ _ ⟨lo, o, h1, h2, h3, h4⟩
      dsimp only
      refine wpS_bind (wpS_mono (wpS_forRange
        (I := fun x => GI st fun lo hi => lo ≤ hi ∧ hi ≤ n ∧ hi - lo ≤ n - x ∧ (∀ i, i < lo → bey left key arr base i = true) ∧ (∀ i, hi ≤ i → i < n → bey left key arr base i = false))
        (Q := GI st fun lo hi => hi ≤ n ∧ (∀ i, i < hi → bey left key arr base i = true) ∧ (∀ i, hi ≤ i → i < n → bey left key arr base i = false)) ?s2 ?f2 ?i2) ?p2)
      case i2 => exact ⟨_, _, by omega, by exact lin [_, _, _, _] [] [(1, (.n (.a (.v 2) (.k 1)) (.v 1))), (1, (.n (.a (.v 0) (.v 3)) (.v 2)))] 1 (.n (.v 0) (.v 1)) rfl hh (sub_c (h2)), by exact lin [_, _, _, _, _, _] [] [(1, (.n (.a (.v 2) (.k 1)) (.v 3))), (1, (.n (.a (.v 4) (.v 5)) (.v 2))), (1, (.n (.v 3) (.a (.v 1) (.k 0)))), (1, (.n (.v 0) (.v 4)))] 1 (.n (.v 0) (.v 1)) rfl hh (sub_c (h2)) (sub_b _ _) (sub_a _ _), fun i hi => h4.elim (fun q => by omega) (fun q => mono i _ (by omega) (by exact lin [_, _, _] [] [(1, (.n (.a (.v 2) (.k 1)) (.v 1))), (1, (.n (.v 0) (.v 2)))] 1 (.n (.a (.v 0) (.k 1)) (.v 1)) rfl hh (sub_a _ _)) q), fun i hi1 hi2 => mono' _ _ hi1 hi2 h3⟩
      case f2 =>
        rintro _ _ ⟨lo, hi, g1, g2, g3, g4, g5⟩
        exact ⟨lo, hi, g2, fun i hi' => g4 i (by exact lin [_, _, _, _, _, _, _] [] [(1, (.n (.v 2) (.v 3))), (1, (.n (.a (.v 0) (.k 1)) (.v 4))), (1, (.n (.v 5) (.v 6))), (1, (.n (.a (.v 3) (.v 6)) (.v 5))), (1, (.n (.v 4) (.a (.v 2) (.v 1))))] 1 (.n (.a (.v 0) (.k 1)) (.v 1)) rfl g3 hi' (Nat.le_max_right _ _) (sub_c ((max_d (Nat.zero_le _)))) (sub_b _ _)), g5⟩
      case s2 =>
        rintro x _ _ _ hx ⟨lo, hi, g1, g2, g3, g4, g5⟩
        dsimp only
        by_cases hge : lo ≥ hi
        · rw [if_pos hge]
          exact wpS_pure ⟨lo, hi, g2, fun i hi' => g4 i (by exact lin [_, _, _] [] [(1, (.n (.v 2) (.v 1))), (1, (.n (.a (.v 0) (.k 1)) (.v 2)))] 1 (.n (.a (.v 0) (.k 1)) (.v 1)) rfl hge hi'), g5⟩
        · rw [if_neg hge]
          refine wpS_bind (wpS_bey hk hkey hall (by exact lin [_, _, _, _, _, _, _] [] [(2, (.n (.a (.v 0) (.v 4)) (.v 3))), (2, (.n (.v 5) (.v 4))), (1, (.n (.a (.v 1) (.k 1)) (.v 5))), (1, (.n (.a (.v 6) (.v 1)) (.v 5))), (1, (.n (.m 2 (.v 2)) (.v 6)))] 2 (.n (.a (.a (.v 0) (.a (.v 1) (.v 2))) (.k 1)) (.v 3)) rfl hb g2 (not_le_n hge) (sub_c (g1)) (div_a _ _)) ?_)
          dsimp only
          generalize hm : bey left key arr base (lo + (hi - lo) / 2) = more
          cases more with
          | false => exact wpS_pure ⟨lo, _, by exact lin [_, _] [] [] 1 (.n (.v 0) (.a (.v 0) (.v 1))) rfl, by exact lin [_, _, _, _, _] [] [(1, (.n (.v 3) (.v 2))), (1, (.n (.a (.v 4) (.v 0)) (.v 3))), (1, (.n (.m 2 (.v 1)) (.v 4)))] 1 (.n (.a (.v 0) (.v 1)) (.v 2)) rfl g2 (sub_c (g1)) (div_a _ _), by exact lin [_, _, _, _, _, _, _, _] [] [(1, (.n (.v 2) (.v 3))), (1, (.n (.m 2 (.v 4)) (.v 2))), (1, (.n (.a (.v 3) (.v 5)) (.v 6))), (1, (.n (.v 6) (.a (.v 1) (.a (.v 5) (.k 1))))), (2, (.n (.a (.v 0) (.v 7)) (.a (.v 7) (.v 4))))] 2 (.n (.v 0) (.v 1)) rfl g3 (div_a _ _) (sub_c (lin [_, _] [] [(1, (.n (.a (.v 0) (.k 1)) (.v 1)))] 1 (.n (.v 0) (.v 1)) rfl hx)) (sub_b _ _) (sub_c (lin [_, _] [] [] 1 (.n (.v 0) (.a (.v 0) (.v 1))) rfl)), g4, fun i h1 h2 => mono' _ _ h1 h2 hm⟩
          | true => exact wpS_pure ⟨_, hi, by exact lin [_, _, _, _] [] [(1, (.n (.a (.v 0) (.k 1)) (.v 2))), (1, (.n (.a (.v 3) (.v 0)) (.v 2))), (1, (.n (.m 2 (.v 1)) (.v 3)))] 2 (.n (.a (.a (.v 0) (.v 1)) (.k 1)) (.v 2)) rfl (not_le_n hge) (sub_c (g1)) (div_a _ _), by exact g2, by exact lin [_, _, _, _, _, _, _, _, _] [] [(1, (.n (.v 2) (.v 3))), (1, (.n (.a (.v 3) (.v 4)) (.v 5))), (1, (.n (.v 6) (.a (.v 2) (.v 7)))), (1, (.n (.v 5) (.a (.v 1) (.a (.v 4) (.k 1))))), (1, (.n (.a (.v 0) (.a (.a (.v 7) (.v 8)) (.k 1))) (.v 6)))] 1 (.n (.v 0) (.v 1)) rfl g3 (sub_c (lin [_, _] [] [(1, (.n (.a (.v 0) (.k 1)) (.v 1)))] 1 (.n (.v 0) (.v 1)) rfl hx)) (sub_b _ _) (sub_b _ _) (sub_c (lin [_, _, _, _] [] [(1, (.n (.a (.v 0) (.k 1)) (.v 2))), (1, (.n (.m 2 (.v 1)) (.v 3))), (1, (.n (.a (.v 3) (.v 0)) (.v 2)))] 2 (.n (.a (.a (.v 0) (.v 1)) (.k 1)) (.v 2)) rfl (not_le_n hge) (div_a _ _) (sub_c (g1)))), fun i hi' => mono i _ (by exact lin [_, _, _] [] [(1, (.n (.a (.v 0) (.k 1)) (.a (.a (.v 1) (.v 2)) (.k 1))))] 1 (.n (.v 0) (.a (.v 1) (.v 2))) rfl hi') (by exact lin [_, _, _, _, _] [] [(2, (.n (.v 3) (.v 2))), (1, (.n (.a (.v 0) (.k 1)) (.v 3))), (1, (.n (.a (.v 4) (.v 0)) (.v 3))), (1, (.n (.m 2 (.v 1)) (.v 4)))] 2 (.n (.a (.a (.v 0) (.v 1)) (.k 1)) (.v 2)) rfl g2 (not_le_n hge) (sub_c (g1)) (div_a _ _)) hm, g5⟩
      case p2 =>
        rintro _ _ ⟨lo, hi, g2, g4, g5⟩
        exact wpS_pure (h hi g2 g4 g5)
end
end
section
noncomputable def mrgLo : Array Keyed → Array Keyed → StateT SortSt Sem (Array Keyed) := sortPriv% PySem.Builtin.mergeLo
noncomputable def mrgHi : Array Keyed → Array Keyed → StateT SortSt Sem (Array Keyed) := sortPriv% PySem.Builtin.mergeHi
/-- between the steps of a merge -/
structure MI (r : Keyed → Keyed → Prop) (T out RA RB : List Keyed) : Prop where
  perm : (out ++ (RA ++ RB)).Perm T
  srt : out.Pairwise r
  low : ∀ x ∈ out, ∀ y ∈ RA ++ RB, r x y
theorem MI.stepA {r : Keyed → Keyed → Prop} {T out X RA RB : List Keyed} (h : MI r T out (X ++ RA) RB) (hX : (X ++ RA).Pairwise r) (hB : ∀ x ∈ X, ∀ y ∈ RB, r x y) : MI r T (out ++ X) RA RB := by
  obtain ⟨h1, h2, h3⟩ := h
  obtain ⟨x1, x2, x3⟩ := List.pairwise_append.mp hX
  refine ⟨?_, List.pairwise_append.mpr ⟨h2, x1, fun x hx y hy => h3 x hx y (by simp [hy])⟩, fun x hx y hy => ?_⟩
  · rw [List.append_assoc, ← List.append_assoc X]; exact h1
  · rcases List.mem_append.mp hx with hx | hx
    · refine h3 x hx y ?_
      rcases List.mem_append.mp hy with hy | hy <;> simp [hy]
    · rcases List.mem_append.mp hy with hy | hy
      · exact x3 x hx y hy
      · exact hB x hx y hy
theorem MI.swap {r : Keyed → Keyed → Prop} {T out RA RB : List Keyed} (h : MI r T out RA RB) : MI r T out RB RA :=
  ⟨(List.Perm.append_left out List.perm_append_comm).trans h.perm, h.srt, fun x hx y hy => h.low x hx y (by
    rcases List.mem_append.mp hy with hy | hy
    · exact List.mem_append_right _ hy
    · exact List.mem_append_left _ hy)⟩
theorem MI.stepB {r : Keyed → Keyed → Prop} {T out X RA RB : List Keyed} (h : MI r T out RA (X ++ RB)) (hX : (X ++ RB).Pairwise r) (hA : ∀ x ∈ X, ∀ y ∈ RA, r x y) : MI r T (out ++ X) RA RB :=
  (h.swap.stepA hX hA).swap
theorem MI.end {r : Keyed → Keyed → Prop} {T out RA RB : List Keyed} (h : MI r T out RA RB) (hp : (RA ++ RB).Pairwise r) : (out ++ (RA ++ RB)).Perm T ∧ (out ++ (RA ++ RB)).Pairwise r :=
  ⟨h.perm, List.pairwise_append.mpr ⟨h.srt, hp, h.low⟩⟩
/-- states that differ in the gallop mark alone -/
structure Sm (st st' : SortSt) : Prop where
  kind : kindOf st' = kindOf st
  arr : arrOf st' = arrOf st
  pend : pendingOf st' = pendingOf st
  fail : failedOf st' = failedOf st
theorem Sm.refl (st : SortSt) : Sm st st := ⟨rfl, rfl, rfl, rfl⟩
theorem Sm.trans {a b c : SortSt} (h : Sm a b) (k : Sm b c) : Sm a c := ⟨k.kind.trans h.kind, k.arr.trans h.arr, k.pend.trans h.pend, k.fail.trans h.fail⟩
noncomputable def sMin : Nat → StateT SortSt Sem Unit := sortPriv% PySem.Builtin.setMinGallop
abbrev kle (x y : Keyed) : Prop := kn x ≤ kn y
/-- what a merge hands back -/
structure Mgd (a b R : Array Keyed) : Prop where
  perm : R.toList.Perm (a.toList ++ b.toList)
  srt : R.toList.Pairwise kle
/-- the running state of mergeLo -/
structure GoL (a b o : Array Keyed) (i j : Nat) : Prop where
  mi : MI kle (a.toList ++ b.toList) o.toList (a.toList.drop i) (b.toList.drop j)
  il : i + 1 < a.size
  jl : j < b.size
theorem K_list {a : Array Keyed} {i : Nat} (h : i < a.size) : K a i = kn a.toList[i] := K_eq h
theorem srt_K {a : Array Keyed} (sa : a.toList.Pairwise kle) {i j : Nat} (hij : i ≤ j) (hj : j < a.size) : K a i ≤ K a j := by
  rw [K_list (by exact lin [_, _, _] [] [(1, (.n (.v 0) (.v 2))), (1, (.n (.a (.v 2) (.k 1)) (.v 1)))] 1 (.n (.a (.v 0) (.k 1)) (.v 1)) rfl hij hj), K_list hj]
  rcases Nat.lt_or_ge i j with h | h
  · exact List.pairwise_iff_getElem.mp sa i j (by simp; exact lin [_, _, _] [] [(1, (.n (.v 0) (.v 2))), (1, (.n (.a (.v 2) (.k 1)) (.v 1)))] 1 (.n (.a (.v 0) (.k 1)) (.v 1)) rfl hij hj) (by simpa using hj) h
  · obtain rfl : i = j := by exact go_eq (hij) (h)
    exact Int.le_refl _
theorem srt_drop {a : List Keyed} (sa : a.Pairwise kle) (i : Nat) : (a.drop i).Pairwise kle := sa.sublist (List.drop_sublist i a)
theorem mem_drop_K {a : Array Keyed} {i : Nat} {x : Keyed} (hx : x ∈ a.toList.drop i) : ∃ k, i ≤ k ∧ k < a.size ∧ kn x = K a k := by
  obtain ⟨k, hk, e⟩ := List.mem_iff_getElem.mp hx
  rw [List.length_drop] at hk
  have hk' : i + k < a.size := by simp at hk; omega
  refine ⟨i + k, by exact lin [_, _] [] [] 1 (.n (.v 0) (.a (.v 0) (.v 1))) rfl, hk', ?_⟩
  rw [K_list hk', ← e, List.getElem_drop]
theorem mem_cut_K {a : Array Keyed} {i k : Nat} {x : Keyed} (hx : x ∈ (a.toList.drop i).take k) : ∃ m, m < k ∧ i + m < a.size ∧ kn x = K a (i + m) := by
  obtain ⟨m, hm, e⟩ := List.mem_iff_getElem.mp hx
  rw [List.length_take, List.length_drop] at hm
  have hk' : i + m < a.size := by simp at hm; omega
  refine ⟨m, by exact lin [_, _, _] [] [(1, (.n (.a (.v 0) (.k 1)) (.v 2))), (1, (.n (.v 2) (.v 1)))] 1 (.n (.a (.v 0) (.k 1)) (.v 1)) rfl hm (Nat.min_le_left _ _), hk', ?_⟩
  rw [K_list hk', ← e, List.getElem_take, List.getElem_drop]
theorem cut_drop {α : Type} (l : List α) (i k : Nat) : (l.drop i).take k ++ l.drop (i + k) = l.drop i := by
  rw [← List.drop_drop, List.take_append_drop]
theorem MI.cutA {a b o : Array Keyed} {i j k : Nat} (h : MI kle (a.toList ++ b.toList) o.toList (a.toList.drop i) (b.toList.drop j)) (sa : a.toList.Pairwise kle) (hk : ∀ m, m < k → i + m < a.size → ∀ y ∈ b.toList.drop j, K a (i + m) ≤ kn y) :
    MI kle (a.toList ++ b.toList) (o.toList ++ (a.toList.drop i).take k) (a.toList.drop (i + k)) (b.toList.drop j) := by
  refine MI.stepA (by rw [cut_drop]; exact h) (by rw [cut_drop]; exact srt_drop sa i) fun x hx y hy => ?_
  obtain ⟨m, h1, h2, h3⟩ := mem_cut_K hx
  show kn x ≤ kn y
  rw [h3]; exact hk m h1 h2 y hy
theorem MI.cutB {a b o : Array Keyed} {i j k : Nat} (h : MI kle (a.toList ++ b.toList) o.toList (a.toList.drop i) (b.toList.drop j)) (sb : b.toList.Pairwise kle) (hk : ∀ m, m < k → j + m < b.size → ∀ y ∈ a.toList.drop i, K b (j + m) ≤ kn y) :
    MI kle (a.toList ++ b.toList) (o.toList ++ (b.toList.drop j).take k) (a.toList.drop i) (b.toList.drop (j + k)) := by
  refine MI.stepB (by rw [cut_drop]; exact h) (by rw [cut_drop]; exact srt_drop sb j) fun x hx y hy => ?_
  obtain ⟨m, h1, h2, h3⟩ := mem_cut_K hx
  show kn x ≤ kn y
  rw [h3]; exact hk m h1 h2 y hy
theorem one_cut {a : Array Keyed} {i : Nat} (h : i < a.size) : (a.toList.drop i).take 1 = [a[i]] := by
  rw [List.drop_eq_getElem_cons (by simpa using h)]; rfl
theorem pushL {o : Array Keyed} {x : Keyed} : (o.push x).toList = o.toList ++ [x] := by simp
theorem allL {a : Array Keyed} {i : Nat} : (a.extract i a.size).toList = a.toList.drop i := by
  rw [Array.toList_extract, List.extract_eq_take_drop]
  exact List.take_of_length_le (by rw [List.length_drop]; simp)
theorem cutL {o a : Array Keyed} {i k : Nat} : (o ++ a.extract i (i + k)).toList = o.toList ++ (a.toList.drop i).take k := by
  simp [Array.toList_extract, List.extract_eq_take_drop]
section
variable {prog : Program} {w : World} {A : Around} {E : Value → Shared → Prop} {s : Shared}
theorem wpS_sMin {st : SortSt} {g : Nat} {Q : Unit → SortSt → Prop} (h : ∀ st', Sm st st' → Q () st') : wpS (model prog w) A E s (sMin g) Q st := by
  with_unfolding_all refine wpS_modify ?_
  exact h _ ⟨rfl, rfl, rfl, rfl⟩
theorem wpS_any {α : Type} {m : StateT SortSt Sem α} {Q : α → SortSt → Prop} {st : SortSt} (h : ∀ P : α → SortSt → Prop, (∀ r st', Q r st' → P r st') → wpS (model prog w) A E s m P st) : wpS (model prog w) A E s m Q st := h Q fun _ _ x => x
theorem dropK {a : Array Keyed} (sa : a.toList.Pairwise kle) {i : Nat} {y : Keyed} (hy : y ∈ a.toList.drop i) : K a i ≤ kn y := by
  obtain ⟨k, h1, h2, h3⟩ := mem_drop_K hy
  rw [h3]; exact srt_K sa h1 h2
inductive LI1 (st : SortSt) (a b : Array Keyed) (n x : Nat) : Option (Array Keyed) × Array Keyed × Nat × Nat × Nat → SortSt → Prop
  | mk {st' : SortSt} (o : Array Keyed) (i j : Nat) (mg : Nat) (_ : Sm st st') (_ : GoL a b o i j) (_ : x + 1 ≤ i + j) : LI1 st a b n x (none, o, i, j, mg) st'
inductive LQ1 (st : SortSt) (a b : Array Keyed) : Option (Array Keyed) × Array Keyed × Nat × Nat × Nat → SortSt → Prop
  | mk {st' : SortSt} (R : Array Keyed) (c : Array Keyed × Nat × Nat × Nat) (_ : Sm st st') (_ : Mgd a b R) : LQ1 st a b (some R, c) st'
inductive LI2 (st : SortSt) (a b : Array Keyed) (n y : Nat) : Option (Array Keyed) × Array Keyed × Nat × Nat × Nat × Nat → SortSt → Prop
  | mk (o : Array Keyed) (i j : Nat) (ac bc : Nat) (_ : GoL a b o i j) (_ : n + y ≤ i + j) : LI2 st a b n y (none, o, i, j, ac, bc) st
inductive LQ2 (st : SortSt) (a b : Array Keyed) (n : Nat) : Option (Array Keyed) × Array Keyed × Nat × Nat × Nat × Nat → SortSt → Prop
  | inl (R : Array Keyed) (c : Array Keyed × Nat × Nat × Nat × Nat) (_ : Mgd a b R) : LQ2 st a b n (some R, c) st
  | inr (o : Array Keyed) (i j : Nat) (ac bc : Nat) (_ : GoL a b o i j) (_ : n + 1 ≤ i + j) : LQ2 st a b n (none, o, i, j, ac, bc) st
inductive LI3 (st : SortSt) (a b : Array Keyed) (n : Nat) : Option (Array Keyed) × Array Keyed × Nat × Nat × Nat × Nat × Nat → SortSt → Prop
  | mk {st' : SortSt} (o : Array Keyed) (i j : Nat) (mg ac bc : Nat) (_ : Sm st st') (_ : GoL a b o i j) (_ : n ≤ i + j) : LI3 st a b n (none, o, i, j, mg, ac, bc) st'
inductive LQ3 (st : SortSt) (a b : Array Keyed) (n : Nat) : Option (Array Keyed) × Array Keyed × Nat × Nat × Nat × Nat × Nat → SortSt → Prop
  | inl {st' : SortSt} (R : Array Keyed) (c : Array Keyed × Nat × Nat × Nat × Nat × Nat) (_ : Sm st st') (_ : Mgd a b R) : LQ3 st a b n (some R, c) st'
  | inr {st' : SortSt} (o : Array Keyed) (i j : Nat) (mg ac bc : Nat) (_ : Sm st st') (_ : GoL a b o i j) (_ : n ≤ i + j) : LQ3 st a b n (none, o, i, j, mg, ac, bc) st'
theorem wpS_mergeLo {st : SortSt} {a b : Array Keyed} {Q : Array Keyed → SortSt → Prop} (hk : kindOf st = oneType') (ha : ∀ x ∈ a.toList, IsI x) (hb : ∀ x ∈ b.toList, IsI x) (a0 : 0 < a.size) (b0 : 0 < b.size)
    (sa : a.toList.Pairwise kle) (sb : b.toList.Pairwise kle) (hfirst : ∀ x ∈ a.toList, kn b[0] ≤ kn x) (hlast : ∀ y ∈ b.toList, kn y ≤ kn a[a.size - 1])
    (h : ∀ out st', Sm st st' → Mgd a b out → Q out st') :
    wpS (model prog w) A E s (mrgLo a b) Q st := by
  have lastK : ∀ x ∈ b.toList, kn x ≤ K a (a.size - 1) := fun x hx => by rw [K_eq (by exact (sub_c (lin [_] [] [(1, (.n (.a (.k 0) (.k 1)) (.v 0)))] 1 (.n (.k 1) (.v 0)) rfl a0)))]; exact hlast x hx
  with_unfolding_all refine wpS_bind ?_
  refine wpS_lift (wpAny_rule ⟨rfl, ?_⟩)
  extract_lets -merge total dn la i0 j0 ac1 bc1 ac2 bc2
  have hdn : ∀ o i j, MI kle (a.toList ++ b.toList) o.toList (a.toList.drop i) (b.toList.drop j) → i = a.size ∨ j = b.size → Mgd a b (dn o i j) := by
    intro o i j M e
    have e1 : (dn o i j).toList = o.toList ++ (a.toList.drop i ++ b.toList.drop j) := by
      show (o ++ a.extract i a.size ++ b.extract j b.size).toList = _
      rw [Array.toList_append, Array.toList_append, allL, allL, List.append_assoc]
    have hp : (a.toList.drop i ++ b.toList.drop j).Pairwise kle := by
      rcases e with e | e
      · rw [List.drop_eq_nil_of_le (as := a.toList) (by simp; exact (eq_b e))]; exact srt_drop sb j
      · rw [List.drop_eq_nil_of_le (as := b.toList) (by simp; exact (eq_b e)), List.append_nil]; exact srt_drop sa i
    have := M.end hp
    exact ⟨e1 ▸ this.1, e1 ▸ this.2⟩
  have hla : ∀ o i j, MI kle (a.toList ++ b.toList) o.toList (a.toList.drop i) (b.toList.drop j) → i + 1 = a.size → Mgd a b (la o i j) := by
    intro o i j M e
    have e1 : (la o i j).toList = o.toList ++ (b.toList.drop j ++ a.toList.drop i) := by
      show (o ++ b.extract j b.size ++ a.extract i a.size).toList = _
      rw [Array.toList_append, Array.toList_append, allL, allL, List.append_assoc]
    have hp : (b.toList.drop j ++ a.toList.drop i).Pairwise kle := by
      refine List.pairwise_append.mpr ⟨srt_drop sb j, srt_drop sa i, fun x hx y hy => ?_⟩
      obtain ⟨k, h1, h2, h3⟩ := mem_drop_K hy
      obtain rfl : k = a.size - 1 := by exact go_eq (lin [_, _, _] [] [(1, (.n (.a (.v 0) (.k 1)) (.v 2))), (1, (.n (.v 2) (.a (.v 1) (.k 1))))] 1 (.n (.v 0) (.v 1)) rfl h2 (sub_b _ _)) (lin [_, _, _, _] [] [(1, (.n (.v 2) (.a (.v 3) (.k 1)))), (1, (.n (.v 3) (.v 1))), (1, (.n (.a (.v 0) (.k 1)) (.v 2)))] 1 (.n (.v 0) (.v 1)) rfl (eq_b e) h1 (sub_c (lin [_] [] [(1, (.n (.a (.k 0) (.k 1)) (.v 0)))] 1 (.n (.k 1) (.v 0)) rfl a0)))
      show kn x ≤ kn y
      rw [h3]
      exact lastK x (List.mem_of_mem_drop hx)
    have := M.swap.end hp
    exact ⟨e1 ▸ this.1, e1 ▸ this.2⟩
  clear_value dn la
  refine wpS_bind (wpS_elem b0 ?_)
  extract_lets -merge o0
  have M0 : MI kle (a.toList ++ b.toList) o0.toList (a.toList.drop i0) (b.toList.drop j0) := by
    have e : b.toList = b[0] :: b.toList.drop 1 := by
      have := List.drop_eq_getElem_cons (l := b.toList) (i := 0) (by simpa using b0)
      simpa using this
    refine ⟨?_, List.pairwise_singleton .., fun x hx y hy => ?_⟩
    · show (b[0] :: (a.toList ++ b.toList.drop 1)).Perm (a.toList ++ b.toList)
      conv => rhs; rw [e]
      exact List.perm_middle.symm
    · obtain rfl : x = b[0] := List.mem_singleton.mp hx
      rcases List.mem_append.mp hy with hy | hy
      · exact hfirst y hy
      · have sb' := sb
        rw [e] at sb'
        exact (List.pairwise_cons.mp sb').1 y hy
  have ei : i0 = 0 := rfl
  have ej : j0 = 1 := rfl
  have et : total = a.size + b.size := rfl
  clear_value o0 i0 j0 total
  by_cases c1 : j0 = b.size
  · rw [if_pos (by simpa using c1)]
    exact wpS_pure (h _ _ (Sm.refl _) (hdn _ _ _ M0 (.inr c1)))
  rw [if_neg (by simpa using c1)]
  by_cases c2 : i0 + 1 = a.size
  · rw [if_pos (by simpa using c2)]
    exact wpS_pure (h _ _ (Sm.refl _) (hla _ _ _ M0 c2))
  rw [if_neg (by simpa using c2)]
  have G0 : GoL a b o0 i0 j0 := ⟨M0, by exact go_ltn ((ne_l c2 (lin [_, _] [] [(1, (.n (.a (.k 0) (.k 1)) (.v 1))), (1, (.n (.v 0) (.k 0)))] 1 (.n (.a (.v 0) (.k 1)) (.v 1)) rfl a0 (eq_a ei)))), by exact go_ltn ((ne_l c1 (lin [_, _] [] [(1, (.n (.a (.k 0) (.k 1)) (.v 1))), (1, (.n (.v 0) (.k 1)))] 1 (.n (.v 0) (.v 1)) rfl b0 (eq_a ej))))⟩
  refine wpS_bind (wpS_get ?_)
  extract_lets -merge mg0
  clear_value mg0
  refine wpS_bind (wpS_mono (wpS_forRange
    (I := fun x => LI1 st a b 0 x)
    (Q := LQ1 st a b) ?s1 ?f1 ?i1) ?p1)
  case i1 => exact .mk o0 i0 j0 mg0 (Sm.refl _) G0 (by exact lin [_, _] [] [(1, (.n (.k 1) (.v 1)))] 1 (.n (.a (.k 0) (.k 1)) (.a (.v 0) (.v 1))) rfl (eq_b ej))
  case f1 =>
    rintro _ st' ⟨o, i, j, mg, _, G, hx⟩
    have := G.il
    have := G.jl
    omega
  case p1 =>
    rintro _ st' ⟨R, c2, S, hR⟩
    exact wpS_pure (h R st' S hR)
  case s1 =>
    rintro x _ st' _ hx ⟨o, i, j, mg, S, G, hij⟩
    extract_lets -merge _ o' _ i' _ j' mg' mg1
    have e1 : o' = o := rfl
    have e2 : i' = i := rfl
    have e3 : j' = j := rfl
    clear_value o' i' j' mg' mg1
    subst e1 e2 e3
    have hk' : kindOf st' = oneType' := S.kind.trans hk
    refine wpS_bind (wpS_mono (wpS_forRange
      (I := fun y => LI2 st' a b (i' + j') y)
      (Q := LQ2 st' a b (i' + j')) ?s2 ?f2 ?i2) ?p2)
    case i2 => exact .mk o' i' j' ac1 bc1 G (by exact lin [_, _] [] [] 1 (.n (.a (.a (.v 0) (.v 1)) (.k 0)) (.a (.v 0) (.v 1))) rfl)
    case f2 =>
      rintro _ _ ⟨o, i, j, ac, bc, G, hij⟩
      exact .inr o i j ac bc G (by exact lin [_, _, _, _, _, _, _] [] [(1, (.n (.a (.v 4) (.k 1)) (.v 5))), (1, (.n (.a (.a (.v 0) (.v 1)) (.v 6)) (.a (.v 2) (.v 3)))), (1, (.n (.v 5) (.v 6)))] 1 (.n (.a (.a (.v 0) (.v 1)) (.k 1)) (.a (.v 2) (.v 3))) rfl hx hij (Nat.le_max_right _ _))
    case s2 =>
      rintro y _ _ _ hy ⟨o, i, j, ac, bc, G2, hij2⟩
      have il := G2.il
      have jl := G2.jl
      dsimp only
      refine wpS_bind (wpS_elem jl ?_)
      refine wpS_bind (wpS_elem (show i < a.size by exact lin [_, _] [] [(1, (.n (.a (.a (.v 0) (.k 1)) (.k 1)) (.v 1)))] 1 (.n (.a (.v 0) (.k 1)) (.v 1)) rfl il) ?_)
      refine wpS_bind (wpS_lt hk' (hb _ (by simp)) (ha _ (by simp)) ?_)
      dsimp only
      by_cases hlt : kn b[j] < kn a[i]
      · simp only [hlt, decide_true, if_true]
        refine wpS_bind (wpS_elem jl ?_)
        have M := G2.mi.cutB (k := 1) sb (fun m hm _ y hy => by
          obtain rfl : m = 0 := by exact go_eq (lin [_] [] [(1, (.n (.a (.v 0) (.k 1)) (.k 1)))] 1 (.n (.v 0) (.k 0)) rfl hm) (Nat.zero_le _)
          have := dropK sa hy
          rw [K_eq (show i < a.size by exact go_ltn (lin [_, _] [] [(1, (.n (.a (.a (.v 0) (.k 1)) (.k 1)) (.v 1)))] 1 (.n (.a (.v 0) (.k 1)) (.v 1)) rfl il))] at this
          rw [Nat.add_zero, K_eq jl]
          exact Int.le_trans (Int.le_of_lt hlt) this)
        rw [one_cut jl, ← pushL] at M
        by_cases e : j + 1 = b.size
        · rw [if_pos (by simpa using e)]
          exact wpS_pure (LQ2.inl _ _ (hdn _ _ _ M (.inr e)))
        · rw [if_neg (by simpa using e)]
          have G' : GoL a b _ i (j + 1) := ⟨M, il, by exact go_ltn ((ne_l e (jl)))⟩
          split
          · exact wpS_pure (LQ2.inr _ _ _ _ _ G' (by exact go_len (lin [_, _, _, _, _] [] [(1, (.n (.a (.a (.v 0) (.v 1)) (.v 4)) (.a (.v 2) (.v 3))))] 1 (.n (.a (.a (.v 0) (.v 1)) (.k 1)) (.a (.v 2) (.a (.v 3) (.k 1)))) rfl hij2)))
          · exact wpS_pure (LI2.mk _ _ _ _ _ G' (by exact go_len (lin [_, _, _, _, _] [] [(1, (.n (.a (.a (.v 0) (.v 1)) (.v 2)) (.a (.v 3) (.v 4))))] 1 (.n (.a (.a (.v 0) (.v 1)) (.a (.v 2) (.k 1))) (.a (.v 3) (.a (.v 4) (.k 1)))) rfl hij2)))
      · simp only [hlt, decide_false, Bool.false_eq_true, if_false]
        refine wpS_bind (wpS_elem (show i < a.size by exact go_ltn (lin [_, _] [] [(1, (.n (.a (.a (.v 0) (.k 1)) (.k 1)) (.v 1)))] 1 (.n (.a (.v 0) (.k 1)) (.v 1)) rfl il)) ?_)
        have M := G2.mi.cutA (k := 1) sa (fun m hm _ y hy => by
          obtain rfl : m = 0 := by exact go_eq (lin [_] [] [(1, (.n (.a (.v 0) (.k 1)) (.k 1)))] 1 (.n (.v 0) (.k 0)) rfl hm) (Nat.zero_le _)
          have := dropK sb hy
          rw [K_eq jl] at this
          rw [Nat.add_zero, K_eq (show i < a.size by exact go_ltn (lin [_, _] [] [(1, (.n (.a (.a (.v 0) (.k 1)) (.k 1)) (.v 1)))] 1 (.n (.a (.v 0) (.k 1)) (.v 1)) rfl il))]
          exact Int.le_trans (Int.not_lt.mp hlt) this)
        rw [one_cut (show i < a.size by exact go_ltn (lin [_, _] [] [(1, (.n (.a (.a (.v 0) (.k 1)) (.k 1)) (.v 1)))] 1 (.n (.a (.v 0) (.k 1)) (.v 1)) rfl il)), ← pushL] at M
        by_cases e : i + 1 + 1 = a.size
        · rw [if_pos (by simpa using e)]
          exact wpS_pure (LQ2.inl _ _ (hla _ _ _ M e))
        · rw [if_neg (by simpa using e)]
          have G' : GoL a b _ (i + 1) j := ⟨M, by exact go_ltn ((ne_l e (il))), jl⟩
          split
          · exact wpS_pure (LQ2.inr _ _ _ _ _ G' (by exact go_len (lin [_, _, _, _, _] [] [(1, (.n (.a (.a (.v 0) (.v 1)) (.v 4)) (.a (.v 2) (.v 3))))] 1 (.n (.a (.a (.v 0) (.v 1)) (.k 1)) (.a (.a (.v 2) (.k 1)) (.v 3))) rfl hij2)))
          · exact wpS_pure (LI2.mk _ _ _ _ _ G' (by exact go_len (lin [_, _, _, _, _] [] [(1, (.n (.a (.a (.v 0) (.v 1)) (.v 2)) (.a (.v 3) (.v 4))))] 1 (.n (.a (.a (.v 0) (.v 1)) (.a (.v 2) (.k 1))) (.a (.a (.v 3) (.k 1)) (.v 4))) rfl hij2)))
    case p2 =>
      rintro _ _ (⟨R, c, hR⟩ | ⟨o, i, j, ac, bc, G1, hij1⟩)
      · dsimp only
        exact wpS_pure (LQ1.mk R _ S hR)
      · extract_lets -merge r1 _ o1 _ i1 _ j1 _ ac3 bc3
        have e0 : r1 = none := rfl
        have e1 : o1 = o := rfl
        have e2 : i1 = i := rfl
        have e3 : j1 = j := rfl
        clear_value r1 o1 i1 j1 ac3 bc3
        subst e0 e1 e2 e3
        refine wpS_bind (wpS_lift (wpAny_rule ⟨rfl, ?_⟩))
        refine wpS_bind (wpS_mono (wpS_forRange
          (I := fun _ => LI3 st a b (i1 + j1))
          (Q := LQ3 st a b (i1 + j1)) ?s3 ?f3 ?i3) ?p3)
        case i3 => exact .mk o1 i1 j1 mg1 ac3 bc3 S G1 (by exact Nat.le_refl _)
        case f3 =>
          rintro _ st'' ⟨o, i, j, mg, ac, bc, S, G, hij⟩
          exact .inr o i j mg ac bc S G (by exact hij)
        case p3 =>
          rintro _ st'' (⟨R, c, S2, hR⟩ | ⟨o, i, j, mg, ac, bc, S2, G1, hij1⟩)
          · dsimp only
            exact wpS_pure (LQ1.mk R _ S2 hR)
          · dsimp only
            refine wpS_bind (wpS_sMin fun st4 S4 => ?_)
            exact wpS_pure (LI1.mk _ _ _ _ (S2.trans S4) G1 (by exact go_len (lin [_, _, _, _, _, _, _] [] [(1, (.n (.a (.v 0) (.k 1)) (.a (.v 3) (.v 4)))), (1, (.n (.a (.a (.v 3) (.v 4)) (.k 1)) (.a (.v 5) (.v 6)))), (1, (.n (.a (.v 5) (.v 6)) (.a (.v 1) (.v 2))))] 1 (.n (.a (.a (.v 0) (.k 1)) (.k 1)) (.a (.v 1) (.v 2))) rfl hij ‹i' + j' + 1 ≤ i1 + j1› hij1)))
        case s3 =>
          rintro y _ st2 _ hy ⟨o, i, j, mg, ac, bc, S2, G2, hij2⟩
          refine wpS_any fun P hP => ?_
          extract_lets -merge _ o2 _ i2 _ j2 _ mg2 _ ac4 bc4 x1 jp1
          have e1 : o2 = o := rfl
          have e2 : i2 = i := rfl
          have e3 : j2 = j := rfl
          have ex : x1 = j2 + 1 := rfl
          clear_value o2 i2 j2 mg2 ac4 bc4 x1
          subst e1 e2 e3
          have il := G2.il
          have jl := G2.jl
          have hjp1 : ∀ u g, wpS (model prog w) A E s (jp1 u g) P st2 := by
            intro u g
            refine wpS_bind (wpS_sMin fun st3 S3 => ?_)
            have S3 := S2.trans S3
            have hk3 : kindOf st3 = oneType' := S3.kind.trans hk
            refine wpS_bind (wpS_elem jl ?_)
            refine wpS_bind (wpS_gallop hk3 (hb _ (by simp)) ha (by exact lin [_, _, _] [] [(1, (.n (.a (.v 1) (.v 0)) (.v 2)))] 1 (.n (.a (.v 0) (.v 1)) (.v 2)) rfl (sub_c (lin [_, _] [] [(1, (.n (.a (.a (.v 0) (.k 1)) (.k 1)) (.v 1)))] 1 (.n (.v 0) (.v 1)) rfl il))) (by exact lin [_, _, _] [] [(1, (.n (.a (.a (.v 1) (.k 1)) (.k 1)) (.v 2))), (1, (.n (.v 2) (.a (.v 0) (.v 1))))] 1 (.n (.a (.k 0) (.k 1)) (.v 0)) rfl il (sub_b _ _)) (fun x y hxy hy => srt_K sa (by exact lin [_, _, _] [] [(1, (.n (.v 1) (.v 2)))] 1 (.n (.a (.v 0) (.v 1)) (.a (.v 0) (.v 2))) rfl hxy) (by exact lin [_, _, _, _] [] [(1, (.n (.a (.v 1) (.k 1)) (.v 3))), (1, (.n (.a (.v 3) (.v 0)) (.v 2)))] 1 (.n (.a (.a (.v 0) (.v 1)) (.k 1)) (.v 2)) rfl hy (sub_c (lin [_, _] [] [(1, (.n (.a (.a (.v 0) (.k 1)) (.k 1)) (.v 1)))] 1 (.n (.v 0) (.v 1)) rfl il)))) fun k k1 k2 k3 => ?_)
            dsimp -zeta only
            extract_lets -merge ac5 jp2 oY iY
            have kA : ∀ m, m < k → K a (i2 + m) ≤ K b j2 := fun m hm => by
              have := k2 m hm
              unfold bey at this
              rw [K_eq jl]
              simp at this
              exact this
            have kB : ∀ m, k ≤ m → m < a.size - i2 → K b j2 < K a (i2 + m) := fun m hm1 hm2 => by
              have := k3 m hm1 hm2
              unfold bey at this
              rw [K_eq jl]
              simp at this
              exact this
            have hjp2 : ∀ u o3 i3, MI kle (a.toList ++ b.toList) o3.toList (a.toList.drop i3) (b.toList.drop j2) → i3 = i2 + k → i3 + 1 < a.size → wpS (model prog w) A E s (jp2 u o3 i3) P st3 := by
              intro u o3 i3 M3 e3 il3
              refine wpS_bind (wpS_elem jl ?_)
              extract_lets -merge o4
              have M4 := M3.cutB (k := 1) sb (fun m hm _ y hy => by
                obtain rfl : m = 0 := by exact go_eq (lin [_] [] [(1, (.n (.a (.v 0) (.k 1)) (.k 1)))] 1 (.n (.v 0) (.k 0)) rfl hm) (Nat.zero_le _)
                have h1 := dropK sa hy
                have h2 := kB k (Nat.le_refl _) (by exact lin [_, _, _, _, _] [] [(1, (.n (.a (.v 2) (.v 0)) (.v 3))), (1, (.n (.a (.a (.v 3) (.k 1)) (.k 1)) (.v 4))), (1, (.n (.v 4) (.a (.v 1) (.v 2))))] 1 (.n (.a (.v 0) (.k 1)) (.v 1)) rfl (eq_b e3) il3 (sub_b _ _))
                rw [← e3] at h2
                rw [Nat.add_zero]
                exact lin [] [_, _, _] [(1, (.i (.v 2) (.v 1))), (1, (.i (.a (.v 0) (.k 1)) (.v 2)))] 1 (.i (.v 0) (.v 1)) rfl h1 (lt_i h2))
              rw [one_cut jl, ← pushL] at M4
              change MI kle (a.toList ++ b.toList) o4.toList _ _ at M4
              rw [← ex] at M4
              clear_value o4
              by_cases c1 : x1 = b.size
              · rw [if_pos (by simpa using c1)]
                exact wpS_pure (hP _ _ (LQ3.inl _ _ S3 (hdn _ _ _ M4 (.inr c1))))
              rw [if_neg (by simpa using c1)]
              refine wpS_bind (wpS_elem (show i3 < a.size by exact lin [_, _] [] [(1, (.n (.a (.a (.v 0) (.k 1)) (.k 1)) (.v 1)))] 1 (.n (.a (.v 0) (.k 1)) (.v 1)) rfl il3) ?_)
              refine wpS_bind (wpS_gallop hk3 (ha _ (by simp)) hb (by exact lin [_, _, _] [] [(1, (.n (.a (.v 1) (.v 0)) (.v 2)))] 1 (.n (.a (.v 0) (.v 1)) (.v 2)) rfl (sub_c (lin [_, _, _] [] [(1, (.n (.v 0) (.a (.v 2) (.k 1)))), (1, (.n (.a (.v 2) (.k 1)) (.v 1)))] 1 (.n (.v 0) (.v 1)) rfl (eq_a ex) jl))) (by exact go_ltn (lin [b.size - x1, b.size, x1] [] [(1, (.n (.v 1) (.a (.v 0) (.v 2)))), (1, (.n (.a (.v 2) (.k 1)) (.v 1)))] 1 (.n (.a (.k 0) (.k 1)) (.v 0)) rfl (sub_b _ _) (ne_l c1 (lin [x1, b.size, b.size - x1] [] [(1, (.n (.a (.v 2) (.v 0)) (.v 1)))] 1 (.n (.v 0) (.v 1)) rfl (sub_c (lin [x1, b.size, j2] [] [(1, (.n (.v 0) (.a (.v 2) (.k 1)))), (1, (.n (.a (.v 2) (.k 1)) (.v 1)))] 1 (.n (.v 0) (.v 1)) rfl (eq_a ex) jl)))))) (fun x y hxy hy => srt_K sb (by exact lin [_, _, _] [] [(1, (.n (.v 1) (.v 2)))] 1 (.n (.a (.v 0) (.v 1)) (.a (.v 0) (.v 2))) rfl hxy) (by exact lin [_, _, _, _] [] [(1, (.n (.a (.v 1) (.k 1)) (.v 3))), (1, (.n (.a (.v 3) (.v 0)) (.v 2)))] 1 (.n (.a (.a (.v 0) (.v 1)) (.k 1)) (.v 2)) rfl hy (sub_c (lin [_, _, _] [] [(1, (.n (.v 0) (.a (.v 2) (.k 1)))), (1, (.n (.a (.v 2) (.k 1)) (.v 1)))] 1 (.n (.v 0) (.v 1)) rfl (eq_a ex) jl)))) fun k' k1' k2' k3' => ?_)
              dsimp -zeta only
              extract_lets -merge bc5 jp3 oX jX
              have kC : ∀ m, m < k' → K b (x1 + m) < K a i3 := fun m hm => by
                have := k2' m hm
                unfold bey at this
                rw [K_eq (show i3 < a.size by exact lin [_, _] [] [(1, (.n (.a (.a (.v 0) (.k 1)) (.k 1)) (.v 1)))] 1 (.n (.a (.v 0) (.k 1)) (.v 1)) rfl il3)]
                simp at this
                exact this
              have kD : ∀ m, k' ≤ m → m < b.size - x1 → K a i3 ≤ K b (x1 + m) := fun m hm1 hm2 => by
                have := k3' m hm1 hm2
                unfold bey at this
                rw [K_eq (show i3 < a.size by exact lin [_, _] [] [(1, (.n (.a (.a (.v 0) (.k 1)) (.k 1)) (.v 1)))] 1 (.n (.a (.v 0) (.k 1)) (.v 1)) rfl il3)]
                simp at this
                exact this
              have hjp3 : ∀ u o5 j5, MI kle (a.toList ++ b.toList) o5.toList (a.toList.drop i3) (b.toList.drop j5) → j5 = x1 + k' → j5 < b.size → wpS (model prog w) A E s (jp3 u o5 j5) P st3 := by
                intro u o5 j5 M5 e5 jl5
                refine wpS_bind (wpS_elem (show i3 < a.size by exact lin [_, _] [] [(1, (.n (.a (.a (.v 0) (.k 1)) (.k 1)) (.v 1)))] 1 (.n (.a (.v 0) (.k 1)) (.v 1)) rfl il3) ?_)
                have M6 := M5.cutA (k := 1) sa (fun m hm _ y hy => by
                  obtain rfl : m = 0 := by exact go_eq (lin [_] [] [(1, (.n (.a (.v 0) (.k 1)) (.k 1)))] 1 (.n (.v 0) (.k 0)) rfl hm) (Nat.zero_le _)
                  have h1 := dropK sb hy
                  have h2 := kD k' (Nat.le_refl _) (by exact lin [_, _, _, _, _] [] [(1, (.n (.a (.v 2) (.v 0)) (.v 3))), (1, (.n (.a (.v 3) (.k 1)) (.v 4))), (1, (.n (.v 4) (.a (.v 1) (.v 2))))] 1 (.n (.a (.v 0) (.k 1)) (.v 1)) rfl (eq_b e5) jl5 (sub_b _ _))
                  rw [← e5] at h2
                  rw [Nat.add_zero]
                  exact lin [] [_, _, _] [(1, (.i (.v 2) (.v 1))), (1, (.i (.v 0) (.v 2)))] 1 (.i (.v 0) (.v 1)) rfl h1 h2)
                rw [one_cut (show i3 < a.size by exact lin [_, _] [] [(1, (.n (.a (.a (.v 0) (.k 1)) (.k 1)) (.v 1)))] 1 (.n (.a (.v 0) (.k 1)) (.v 1)) rfl il3), ← pushL] at M6
                dsimp only
                by_cases c2 : i3 + 1 + 1 = a.size
                · rw [if_pos (by simpa using c2)]
                  exact wpS_pure (hP _ _ (LQ3.inl _ _ S3 (hla _ _ _ M6 c2)))
                rw [if_neg (by simpa using c2)]
                have G' : GoL a b _ (i3 + 1) j5 := ⟨M6, by exact go_ltn ((ne_l c2 (il3))), jl5⟩
                split
                · exact wpS_pure (hP _ _ (LQ3.inr _ _ _ _ _ _ S3 G' (by omega)))
                · exact wpS_pure (hP _ _ (LI3.mk _ _ _ _ _ _ S3 G' (by omega)))
              clear_value jp3
              by_cases c3 : k' > 0
              · rw [if_pos c3]
                have M5 := M4.cutB (k := k') sb (fun m hm _ y hy => by
                  have h1 := dropK sa hy
                  have h2 := kC m hm
                  exact lin [] [_, _, _] [(1, (.i (.v 2) (.v 1))), (1, (.i (.a (.v 0) (.k 1)) (.v 2)))] 1 (.i (.v 0) (.v 1)) rfl h1 (lt_i h2))
                rw [← cutL] at M5
                change MI kle (a.toList ++ b.toList) oX.toList _ (b.toList.drop jX) at M5
                have eX : jX = x1 + k' := rfl
                clear_value oX jX
                by_cases c4 : jX = b.size
                · rw [if_pos (by simpa using c4)]
                  exact wpS_pure (hP _ _ (LQ3.inl _ _ S3 (hdn _ _ _ M5 (.inr c4))))
                rw [if_neg (by simpa using c4)]
                exact hjp3 _ _ _ M5 eX (by exact go_ltn ((ne_l c4 (lin [_, _, _, _, _] [] [(1, (.n (.v 2) (.v 3))), (1, (.n (.v 0) (.a (.v 4) (.v 2)))), (1, (.n (.a (.v 3) (.v 4)) (.v 1)))] 1 (.n (.v 0) (.v 1)) rfl k1' (eq_a eX) (sub_c (lin [_, _, _] [] [(1, (.n (.v 0) (.a (.v 2) (.k 1)))), (1, (.n (.a (.v 2) (.k 1)) (.v 1)))] 1 (.n (.v 0) (.v 1)) rfl (eq_a ex) jl))))))
              · rw [if_neg c3]
                exact hjp3 _ _ _ M4 (by exact go_eq (lin [_, _] [] [] 1 (.n (.v 0) (.a (.v 0) (.v 1))) rfl) (lin [_, _] [] [(1, (.n (.v 1) (.k 0)))] 1 (.n (.a (.v 0) (.v 1)) (.v 0)) rfl (not_lt_n c3))) (by exact go_ltn ((ne_l c1 (lin [_, _, _] [] [(1, (.n (.a (.v 2) (.v 0)) (.v 1)))] 1 (.n (.v 0) (.v 1)) rfl (sub_c (lin [_, _, _] [] [(1, (.n (.v 0) (.a (.v 2) (.k 1)))), (1, (.n (.a (.v 2) (.k 1)) (.v 1)))] 1 (.n (.v 0) (.v 1)) rfl (eq_a ex) jl))))))
            clear_value jp2
            by_cases c3 : k > 0
            · rw [if_pos c3]
              have M3 := G2.mi.cutA (k := k) sa (fun m hm _ y hy => by
                have h1 := dropK sb hy
                have h2 := kA m hm
                exact lin [] [_, _, _] [(1, (.i (.v 2) (.v 1))), (1, (.i (.v 0) (.v 2)))] 1 (.i (.v 0) (.v 1)) rfl h1 h2)
              rw [← cutL] at M3
              change MI kle (a.toList ++ b.toList) oY.toList (a.toList.drop iY) _ at M3
              have eY : iY = i2 + k := rfl
              clear_value oY iY
              by_cases c4 : iY + 1 = a.size
              · rw [if_pos (by simpa using c4)]
                exact wpS_pure (hP _ _ (LQ3.inl _ _ S3 (hla _ _ _ M3 c4)))
              rw [if_neg (by simpa using c4)]
              by_cases c5 : iY = a.size
              · rw [if_pos (by simpa using c5)]
                exact wpS_pure (hP _ _ (LQ3.inl _ _ S3 (hdn _ _ _ M3 (.inl c5))))
              rw [if_neg (by simpa using c5)]
              exact hjp2 _ _ _ M3 eY (by omega)
            · rw [if_neg c3]
              exact hjp2 _ _ _ G2.mi (by exact go_eq (lin [_, _] [] [] 1 (.n (.v 0) (.a (.v 0) (.v 1))) rfl) (lin [_, _] [] [(1, (.n (.v 1) (.k 0)))] 1 (.n (.a (.v 0) (.v 1)) (.v 0)) rfl (not_lt_n c3))) il
          clear_value jp1
          split
          · exact hjp1 _ _
          · exact hjp1 _ _
end
end
section
abbrev kge (x y : Keyed) : Prop := kn y ≤ kn x
/-- the head of a list, last first -/
noncomputable def rev (a : Array Keyed) (n : Nat) : List Keyed := (a.toList.take n).reverse
/-- the running state of mergeHi -/
structure GoH (a b o : Array Keyed) (i j : Nat) : Prop where
  mi : MI kge (a.toList ++ b.toList) o.toList (rev a i) (rev b j)
  i0 : 0 < i
  il : i ≤ a.size
  j0 : 1 < j
  jl : j ≤ b.size
theorem srt_rev {a : Array Keyed} (sa : a.toList.Pairwise kle) (i : Nat) : (rev a i).Pairwise kge := by
  unfold rev
  rw [List.pairwise_reverse]
  exact sa.sublist (List.take_sublist i _)
theorem rev_K {a : Array Keyed} {i : Nat} {x : Keyed} (hx : x ∈ rev a i) : ∃ k, k < i ∧ k < a.size ∧ kn x = K a k := by
  unfold rev at hx
  rw [List.mem_reverse] at hx
  obtain ⟨k, hk, e⟩ := List.mem_iff_getElem.mp hx
  rw [List.length_take] at hk
  have hk' : k < a.size := by simp at hk; exact lin [_, _, _] [] [(1, (.n (.a (.v 0) (.k 1)) (.v 2))), (1, (.n (.v 2) (.v 1)))] 1 (.n (.a (.v 0) (.k 1)) (.v 1)) rfl hk (Nat.min_le_right _ _)
  refine ⟨k, by exact lin [_, _, _] [] [(1, (.n (.a (.v 0) (.k 1)) (.v 2))), (1, (.n (.v 2) (.v 1)))] 1 (.n (.a (.v 0) (.k 1)) (.v 1)) rfl hk (Nat.min_le_left _ _), hk', ?_⟩
  rw [K_list hk', ← e, List.getElem_take]
theorem rev_le {a : Array Keyed} (sa : a.toList.Pairwise kle) {i : Nat} (hi : i ≤ a.size) {y : Keyed} (hy : y ∈ rev a i) : kn y ≤ K a (i - 1) := by
  obtain ⟨k, h1, h2, h3⟩ := rev_K hy
  rw [h3]; exact srt_K sa (by exact lin [_, _, _] [] [(1, (.n (.a (.v 0) (.k 1)) (.v 2))), (1, (.n (.v 2) (.a (.v 1) (.k 1))))] 1 (.n (.v 0) (.v 1)) rfl h1 (sub_b _ _)) (by exact lin [_, _, _] [] [(1, (.n (.v 2) (.v 1))), (1, (.n (.a (.v 0) (.k 1)) (.v 2)))] 1 (.n (.a (.v 0) (.k 1)) (.v 1)) rfl hi (sub_c (lin [_, _] [] [(1, (.n (.a (.v 1) (.k 1)) (.v 0)))] 1 (.n (.k 1) (.v 0)) rfl h1)))
theorem rev_cut (a : Array Keyed) {k i : Nat} (h : k ≤ i) : ((a.toList.take i).drop k).reverse ++ rev a k = rev a i := by
  unfold rev
  rw [← List.reverse_append]
  congr 1
  have := List.take_append_drop k (a.toList.take i)
  rwa [List.take_take, Nat.min_eq_left h] at this
theorem MI.downA {a b o : Array Keyed} {i j k : Nat} (h : MI kge (a.toList ++ b.toList) o.toList (rev a i) (rev b j)) (hki : k ≤ i) (sa : a.toList.Pairwise kle) (hk : ∀ m, k ≤ m → m < i → m < a.size → ∀ y ∈ rev b j, kn y ≤ K a m) :
    MI kge (a.toList ++ b.toList) (o.toList ++ ((a.toList.take i).drop k).reverse) (rev a k) (rev b j) := by
  refine MI.stepA (by rw [rev_cut a hki]; exact h) (by rw [rev_cut a hki]; exact srt_rev sa i) fun x hx y hy => ?_
  rw [List.mem_reverse] at hx
  obtain ⟨m, hm, e⟩ := List.mem_iff_getElem.mp hx
  rw [List.length_drop, List.length_take] at hm
  have hm' : k + m < a.size := by simp at hm; omega
  have ex : kn x = K a (k + m) := by rw [K_list hm', ← e, List.getElem_drop, List.getElem_take]
  show kn y ≤ kn x
  rw [ex]; exact hk _ (by exact lin [_, _] [] [] 1 (.n (.v 0) (.a (.v 0) (.v 1))) rfl) (by omega) hm' y hy
theorem MI.downB {a b o : Array Keyed} {i j k : Nat} (h : MI kge (a.toList ++ b.toList) o.toList (rev a i) (rev b j)) (hki : k ≤ j) (sb : b.toList.Pairwise kle) (hk : ∀ m, k ≤ m → m < j → m < b.size → ∀ y ∈ rev a i, kn y ≤ K b m) :
    MI kge (a.toList ++ b.toList) (o.toList ++ ((b.toList.take j).drop k).reverse) (rev a i) (rev b k) := by
  refine MI.stepB (by rw [rev_cut b hki]; exact h) (by rw [rev_cut b hki]; exact srt_rev sb j) fun x hx y hy => ?_
  rw [List.mem_reverse] at hx
  obtain ⟨m, hm, e⟩ := List.mem_iff_getElem.mp hx
  rw [List.length_drop, List.length_take] at hm
  have hm' : k + m < b.size := by simp at hm; omega
  have ex : kn x = K b (k + m) := by rw [K_list hm', ← e, List.getElem_drop, List.getElem_take]
  show kn y ≤ kn x
  rw [ex]; exact hk _ (by exact lin [_, _] [] [] 1 (.n (.v 0) (.a (.v 0) (.v 1))) rfl) (by omega) hm' y hy
theorem one_down {a : Array Keyed} {i : Nat} (h : i < a.size) : ((a.toList.take (i + 1)).drop i).reverse = [a[i]] := by
  rw [List.drop_take, Nat.add_sub_cancel_left, one_cut h]; rfl
theorem downL {o a : Array Keyed} {i k : Nat} : (o ++ (a.extract k i).reverse).toList = o.toList ++ ((a.toList.take i).drop k).reverse := by
  rw [Array.toList_append, Array.toList_reverse, Array.toList_extract, List.extract_eq_take_drop, List.drop_take]
theorem headL {a : Array Keyed} {i : Nat} : (a.extract 0 i).toList = a.toList.take i := by
  rw [Array.toList_extract, List.extract_eq_take_drop]; rfl
section
variable {prog : Program} {w : World} {A : Around} {E : Value → Shared → Prop} {s : Shared}
inductive HI1 (st : SortSt) (a b : Array Keyed) (n x : Nat) : Option (Array Keyed) × Nat × Nat × Array Keyed × Nat → SortSt → Prop
  | mk {st' : SortSt} (i j : Nat) (o : Array Keyed) (mg : Nat) (_ : Sm st st') (_ : GoH a b o i j) (_ : i + j + x + 1 ≤ n) : HI1 st a b n x (none, i, j, o, mg) st'
inductive HQ1 (st : SortSt) (a b : Array Keyed) : Option (Array Keyed) × Nat × Nat × Array Keyed × Nat → SortSt → Prop
  | mk {st' : SortSt} (R : Array Keyed) (c : Nat × Nat × Array Keyed × Nat) (_ : Sm st st') (_ : Mgd a b R) : HQ1 st a b (some R, c) st'
inductive HI2 (st : SortSt) (a b : Array Keyed) (n y : Nat) : Option (Array Keyed) × Nat × Nat × Array Keyed × Nat × Nat → SortSt → Prop
  | mk (i j : Nat) (o : Array Keyed) (ac bc : Nat) (_ : GoH a b o i j) (_ : i + j + y ≤ n) : HI2 st a b n y (none, i, j, o, ac, bc) st
inductive HQ2 (st : SortSt) (a b : Array Keyed) (n : Nat) : Option (Array Keyed) × Nat × Nat × Array Keyed × Nat × Nat → SortSt → Prop
  | inl (R : Array Keyed) (c : Nat × Nat × Array Keyed × Nat × Nat) (_ : Mgd a b R) : HQ2 st a b n (some R, c) st
  | inr (i j : Nat) (o : Array Keyed) (ac bc : Nat) (_ : GoH a b o i j) (_ : i + j + 1 ≤ n) : HQ2 st a b n (none, i, j, o, ac, bc) st
inductive HI3 (st : SortSt) (a b : Array Keyed) (n : Nat) : Option (Array Keyed) × Nat × Nat × Array Keyed × Nat × Nat × Nat → SortSt → Prop
  | mk {st' : SortSt} (i j : Nat) (o : Array Keyed) (mg ac bc : Nat) (_ : Sm st st') (_ : GoH a b o i j) (_ : i + j ≤ n) : HI3 st a b n (none, i, j, o, mg, ac, bc) st'
inductive HQ3 (st : SortSt) (a b : Array Keyed) (n : Nat) : Option (Array Keyed) × Nat × Nat × Array Keyed × Nat × Nat × Nat → SortSt → Prop
  | inl {st' : SortSt} (R : Array Keyed) (c : Nat × Nat × Array Keyed × Nat × Nat × Nat) (_ : Sm st st') (_ : Mgd a b R) : HQ3 st a b n (some R, c) st'
  | inr {st' : SortSt} (i j : Nat) (o : Array Keyed) (mg ac bc : Nat) (_ : Sm st st') (_ : GoH a b o i j) (_ : i + j ≤ n) : HQ3 st a b n (none, i, j, o, mg, ac, bc) st'
theorem wpS_mergeHi {st : SortSt} {a b : Array Keyed} {Q : Array Keyed → SortSt → Prop} (hk : kindOf st = oneType') (ha : ∀ x ∈ a.toList, IsI x) (hb : ∀ x ∈ b.toList, IsI x) (a0 : 0 < a.size) (b0 : 0 < b.size)
    (sa : a.toList.Pairwise kle) (sb : b.toList.Pairwise kle) (hfirst : ∀ x ∈ a.toList, kn b[0] ≤ kn x) (hlast : ∀ y ∈ b.toList, kn y ≤ kn a[a.size - 1])
    (h : ∀ out st', Sm st st' → Mgd a b out → Q out st') :
    wpS (model prog w) A E s (mrgHi a b) Q st := by
  have firstK : ∀ x ∈ a.toList, K b 0 ≤ kn x := fun x hx => by rw [K_eq b0]; exact hfirst x hx
  with_unfolding_all refine wpS_bind ?_
  refine wpS_lift (wpAny_rule ⟨rfl, ?_⟩)
  extract_lets -merge total dn fb z1 z2 z3 z4 z5 z6
  have fin : ∀ (R : List Keyed), (R.reverse).Perm (a.toList ++ b.toList) ∧ R.reverse.Pairwise kge → R.Perm (a.toList ++ b.toList) ∧ R.Pairwise kle := fun R hR =>
    ⟨(List.reverse_perm R).symm.trans hR.1, List.pairwise_reverse.mp hR.2⟩
  have hdn : ∀ o i j, MI kge (a.toList ++ b.toList) o.toList (rev a i) (rev b j) → i = 0 ∨ j = 0 → Mgd a b (dn o i j) := by
    intro o i j M e
    have e1 : (dn o i j).toList = a.toList.take i ++ b.toList.take j ++ o.toList.reverse := by
      show (a.extract 0 i ++ b.extract 0 j ++ o.reverse).toList = _
      rw [Array.toList_append, Array.toList_append, headL, headL, Array.toList_reverse]
    have e2 : (dn o i j).toList.reverse = o.toList ++ (rev b j ++ rev a i) := by
      rw [e1]; simp [rev]
    have hp : (rev b j ++ rev a i).Pairwise kge := by
      rcases e with e | e
      · rw [e]; show (rev b j ++ []).Pairwise kge; rw [List.append_nil]; exact srt_rev sb j
      · rw [e]; exact srt_rev sa i
    have := fin _ (e2 ▸ M.swap.end hp)
    exact ⟨this.1, this.2⟩
  have hfb : ∀ o i j, MI kge (a.toList ++ b.toList) o.toList (rev a i) (rev b j) → i ≤ a.size → j = 1 → Mgd a b (fb o i j) := by
    intro o i j M hi e
    have e1 : (fb o i j).toList = b.toList.take j ++ a.toList.take i ++ o.toList.reverse := by
      show (b.extract 0 j ++ a.extract 0 i ++ o.reverse).toList = _
      rw [Array.toList_append, Array.toList_append, headL, headL, Array.toList_reverse]
    have e2 : (fb o i j).toList.reverse = o.toList ++ (rev a i ++ rev b j) := by
      rw [e1]; simp [rev]
    have hp : (rev a i ++ rev b j).Pairwise kge := by
      refine List.pairwise_append.mpr ⟨srt_rev sa i, srt_rev sb j, fun x hx y hy => ?_⟩
      obtain ⟨k, h1, h2, h3⟩ := rev_K hy
      obtain rfl : k = 0 := by exact go_eq (lin [_, _] [] [(1, (.n (.v 1) (.k 1))), (1, (.n (.a (.v 0) (.k 1)) (.v 1)))] 1 (.n (.v 0) (.k 0)) rfl (eq_a e) h1) (Nat.zero_le _)
      show kn y ≤ kn x
      rw [h3]
      refine firstK x ?_
      unfold rev at hx
      exact List.mem_of_mem_take (List.mem_reverse.mp hx)
    have := fin _ (e2 ▸ M.end hp)
    exact ⟨this.1, this.2⟩
  have ei : z1 + 1 = a.size := by show a.size - 1 + 1 = a.size; exact go_eq ((sub_c (lin [_] [] [(1, (.n (.a (.k 0) (.k 1)) (.v 0)))] 1 (.n (.k 1) (.v 0)) rfl a0))) ((sub_b _ _))
  have ej : z2 = b.size := rfl
  have et : total = a.size + b.size := rfl
  clear_value dn fb z1 z2 total
  have hz : z1 < a.size := by exact (eq_a ei)
  refine wpS_bind (wpS_elem hz ?_)
  extract_lets -merge o0
  have M0 : MI kge (a.toList ++ b.toList) o0.toList (rev a z1) (rev b z2) := by
    have ea : a.toList = a.toList.take z1 ++ [a[z1]] := by
      have := List.take_append_drop z1 a.toList
      rw [List.drop_eq_getElem_cons (by simpa using hz), List.drop_eq_nil_of_le (by simp; exact (eq_b ei))] at this
      exact this.symm
    refine ⟨?_, List.pairwise_singleton .., fun x hx y hy => ?_⟩
    · show (a[z1] :: (rev a z1 ++ rev b z2)).Perm (a.toList ++ b.toList)
      conv => rhs; rw [ea]
      rw [List.append_assoc]
      refine List.Perm.trans ?_ List.perm_middle.symm
      refine List.Perm.cons _ (List.Perm.append (List.reverse_perm _) ?_)
      unfold rev
      rw [List.take_of_length_le (by simp; exact (eq_b ej))]
      exact List.reverse_perm _
    · obtain rfl : x = a[z1] := List.mem_singleton.mp hx
      show kn y ≤ kn a[z1]
      rcases List.mem_append.mp hy with hy | hy
      · obtain ⟨k, h1, h2, h3⟩ := rev_K hy
        have := srt_K sa (show k ≤ z1 by exact lin [_, _] [] [(1, (.n (.a (.v 0) (.k 1)) (.v 1)))] 1 (.n (.v 0) (.v 1)) rfl h1) hz
        rw [K_eq hz] at this
        rw [h3]; exact this
      · unfold rev at hy
        have := hlast y (List.mem_of_mem_take (List.mem_reverse.mp hy))
        have e : a.size - 1 = z1 := by exact go_eq (lin [_, _, _] [] [(1, (.n (.v 2) (.a (.v 1) (.k 1)))), (1, (.n (.a (.v 0) (.k 1)) (.v 2)))] 1 (.n (.v 0) (.v 1)) rfl (eq_b ei) (sub_c (lin [_] [] [(1, (.n (.a (.k 0) (.k 1)) (.v 0)))] 1 (.n (.k 1) (.v 0)) rfl a0))) (lin [_, _, _] [] [(1, (.n (.a (.v 0) (.k 1)) (.v 2))), (1, (.n (.v 2) (.a (.v 1) (.k 1))))] 1 (.n (.v 0) (.v 1)) rfl (eq_a ei) (sub_b _ _))
        simpa only [e] using this
  clear_value o0
  by_cases c1 : z1 = 0
  · rw [if_pos (by simpa using c1)]
    exact wpS_pure (h _ _ (Sm.refl _) (hdn _ _ _ M0 (.inl c1)))
  rw [if_neg (by simpa using c1)]
  by_cases c2 : z2 = 1
  · rw [if_pos (by simpa using c2)]
    exact wpS_pure (h _ _ (Sm.refl _) (hfb _ _ _ M0 (by exact lin [_, _] [] [(1, (.n (.a (.v 0) (.k 1)) (.v 1)))] 1 (.n (.v 0) (.v 1)) rfl (eq_a ei)) c2))
  rw [if_neg (by simpa using c2)]
  have G0 : GoH a b o0 z1 z2 := ⟨M0, by exact lin [_] [] [(1, (.n (.k 1) (.v 0)))] 1 (.n (.a (.k 0) (.k 1)) (.v 0)) rfl (ne_z c1), by exact lin [_, _] [] [(1, (.n (.a (.v 0) (.k 1)) (.v 1)))] 1 (.n (.v 0) (.v 1)) rfl (eq_a ei), by exact go_ltn ((ne_r c2 (lin [_, _] [] [(1, (.n (.a (.k 0) (.k 1)) (.v 1))), (1, (.n (.v 1) (.v 0)))] 1 (.n (.k 1) (.v 0)) rfl b0 (eq_b ej)))), by exact (eq_a ej)⟩
  refine wpS_bind (wpS_get ?_)
  extract_lets -merge mg0
  clear_value mg0
  refine wpS_bind (wpS_mono (wpS_forRange
    (I := fun x => HI1 st a b total x)
    (Q := HQ1 st a b) ?s1 ?f1 ?i1) ?p1)
  case i1 => exact .mk z1 z2 o0 mg0 (Sm.refl _) G0 (by exact lin [_, _, _, _, _] [] [(1, (.n (.a (.v 0) (.k 1)) (.v 3))), (1, (.n (.v 1) (.v 4))), (1, (.n (.a (.v 3) (.v 4)) (.v 2)))] 1 (.n (.a (.a (.a (.v 0) (.v 1)) (.k 0)) (.k 1)) (.v 2)) rfl (eq_a ei) (eq_a ej) (eq_b et))
  case f1 =>
    rintro _ st' ⟨i, j, o, mg, _, G, hx⟩
    have := G.i0
    omega
  case p1 =>
    rintro _ st' ⟨R, c2, S, hR⟩
    exact wpS_pure (h R st' S hR)
  case s1 =>
    rintro x _ st' _ hx ⟨i, j, o, mg, S, G, hij⟩
    extract_lets -merge _ i' _ j' _ o' mg' mg1
    have e1 : o' = o := rfl
    have e2 : i' = i := rfl
    have e3 : j' = j := rfl
    clear_value o' i' j' mg' mg1
    subst e1 e2 e3
    have hk' : kindOf st' = oneType' := S.kind.trans hk
    refine wpS_bind (wpS_mono (wpS_forRange
      (I := fun y => HI2 st' a b (i' + j') y)
      (Q := HQ2 st' a b (i' + j')) ?s2 ?f2 ?i2) ?p2)
    case i2 => exact .mk i' j' o' z3 z4 G (by exact lin [_, _] [] [] 1 (.n (.a (.a (.v 0) (.v 1)) (.k 0)) (.a (.v 0) (.v 1))) rfl)
    case f2 =>
      rintro _ _ ⟨i, j, o, ac, bc, G, hij⟩
      exact .inr i j o ac bc G (by exact lin [_, _, _, _, _, _, _] [] [(1, (.n (.a (.v 4) (.k 1)) (.v 5))), (1, (.n (.a (.a (.v 0) (.v 1)) (.v 6)) (.a (.v 2) (.v 3)))), (1, (.n (.v 5) (.v 6)))] 1 (.n (.a (.a (.v 0) (.v 1)) (.k 1)) (.a (.v 2) (.v 3))) rfl hx hij (Nat.le_max_right _ _))
    case s2 =>
      rintro y _ _ _ hy ⟨i, j, o, ac, bc, G2, hij2⟩
      obtain ⟨M2, i0, il, j0, jl⟩ := G2
      dsimp only
      refine wpS_bind (wpS_elem (show j - 1 < b.size by exact lin [_, _, _] [] [(1, (.n (.v 2) (.v 1))), (1, (.n (.a (.v 0) (.k 1)) (.v 2)))] 1 (.n (.a (.v 0) (.k 1)) (.v 1)) rfl jl (sub_c (lin [_] [] [(1, (.n (.a (.k 1) (.k 1)) (.v 0)))] 1 (.n (.k 1) (.v 0)) rfl j0))) ?_)
      refine wpS_bind (wpS_elem (show i - 1 < a.size by exact lin [_, _, _] [] [(1, (.n (.v 2) (.v 1))), (1, (.n (.a (.v 0) (.k 1)) (.v 2)))] 1 (.n (.a (.v 0) (.k 1)) (.v 1)) rfl il (sub_c (lin [_] [] [(1, (.n (.a (.k 0) (.k 1)) (.v 0)))] 1 (.n (.k 1) (.v 0)) rfl i0))) ?_)
      refine wpS_bind (wpS_lt hk' (hb _ (by simp)) (ha _ (by simp)) ?_)
      dsimp only
      by_cases hlt : kn b[j - 1] < kn a[i - 1]
      · simp only [hlt, decide_true, if_true]
        refine wpS_bind (wpS_elem (show i - 1 < a.size by exact go_ltn (lin [_, _, _] [] [(1, (.n (.v 2) (.v 1))), (1, (.n (.a (.v 0) (.k 1)) (.v 2)))] 1 (.n (.a (.v 0) (.k 1)) (.v 1)) rfl il (sub_c (lin [_] [] [(1, (.n (.a (.k 0) (.k 1)) (.v 0)))] 1 (.n (.k 1) (.v 0)) rfl i0)))) ?_)
        have M := M2.downA (k := i - 1) (by exact go_len (lin [_, _] [] [(1, (.n (.a (.v 0) (.k 1)) (.v 1)))] 1 (.n (.v 0) (.v 1)) rfl (sub_c (lin [_] [] [(1, (.n (.a (.k 0) (.k 1)) (.v 0)))] 1 (.n (.k 1) (.v 0)) rfl i0)))) sa (fun m hm hm2 _ y hy => by
          obtain rfl : m = i - 1 := by exact go_eq (lin [_, _, _] [] [(1, (.n (.a (.v 0) (.k 1)) (.v 2))), (1, (.n (.v 2) (.a (.v 1) (.k 1))))] 1 (.n (.v 0) (.v 1)) rfl hm2 (sub_b _ _)) (hm)
          have := rev_le sb jl hy
          rw [K_eq (show j - 1 < b.size by exact go_ltn (lin [_, _, _] [] [(1, (.n (.v 2) (.v 1))), (1, (.n (.a (.v 0) (.k 1)) (.v 2)))] 1 (.n (.a (.v 0) (.k 1)) (.v 1)) rfl jl (sub_c (lin [_] [] [(1, (.n (.a (.k 1) (.k 1)) (.v 0)))] 1 (.n (.k 1) (.v 0)) rfl j0))))] at this
          rw [K_eq (show i - 1 < a.size by exact go_ltn (lin [_, _, _] [] [(1, (.n (.v 2) (.v 1))), (1, (.n (.a (.v 0) (.k 1)) (.v 2)))] 1 (.n (.a (.v 0) (.k 1)) (.v 1)) rfl il hm2))]
          exact Int.le_trans this (Int.le_of_lt hlt))
        obtain ⟨k, rfl⟩ : ∃ k, i = k + 1 := ⟨i - 1, by exact go_eq ((sub_b _ _)) ((sub_c (lin [_] [] [(1, (.n (.a (.k 0) (.k 1)) (.v 0)))] 1 (.n (.k 1) (.v 0)) rfl i0)))⟩
        simp only [Nat.add_sub_cancel] at M ⊢
        rw [one_down (show k < a.size by exact go_ltn (il)), ← pushL] at M
        by_cases e : k = 0
        · rw [if_pos (by simpa using e)]
          exact wpS_pure (HQ2.inl _ _ (hdn _ _ _ M (.inl e)))
        · rw [if_neg (by simpa using e)]
          have G' : GoH a b _ k j := ⟨M, by exact go_ltn (lin [_] [] [(1, (.n (.k 1) (.v 0)))] 1 (.n (.a (.k 0) (.k 1)) (.v 0)) rfl (ne_z e)), by exact go_len (lin [_, _] [] [(1, (.n (.a (.v 0) (.k 1)) (.v 1)))] 1 (.n (.v 0) (.v 1)) rfl il), j0, jl⟩
          split
          · exact wpS_pure (HQ2.inr _ _ _ _ _ G' (by exact go_len (lin [_, _, _, _, _] [] [(1, (.n (.a (.a (.a (.v 0) (.k 1)) (.v 1)) (.v 4)) (.a (.v 2) (.v 3))))] 1 (.n (.a (.a (.v 0) (.v 1)) (.k 1)) (.a (.v 2) (.v 3))) rfl hij2)))
          · exact wpS_pure (HI2.mk _ _ _ _ _ G' (by exact go_len (lin [_, _, _, _, _] [] [(1, (.n (.a (.a (.a (.v 0) (.k 1)) (.v 1)) (.v 2)) (.a (.v 3) (.v 4))))] 1 (.n (.a (.a (.v 0) (.v 1)) (.a (.v 2) (.k 1))) (.a (.v 3) (.v 4))) rfl hij2)))
      · simp only [hlt, decide_false, Bool.false_eq_true, if_false]
        refine wpS_bind (wpS_elem (show j - 1 < b.size by exact go_ltn (lin [_, _, _] [] [(1, (.n (.v 2) (.v 1))), (1, (.n (.a (.v 0) (.k 1)) (.v 2)))] 1 (.n (.a (.v 0) (.k 1)) (.v 1)) rfl jl (sub_c (lin [_] [] [(1, (.n (.a (.k 1) (.k 1)) (.v 0)))] 1 (.n (.k 1) (.v 0)) rfl j0)))) ?_)
        have M := M2.downB (k := j - 1) (by exact go_len (lin [_, _] [] [(1, (.n (.a (.v 0) (.k 1)) (.v 1)))] 1 (.n (.v 0) (.v 1)) rfl (sub_c (lin [_] [] [(1, (.n (.a (.k 1) (.k 1)) (.v 0)))] 1 (.n (.k 1) (.v 0)) rfl j0)))) sb (fun m hm hm2 _ y hy => by
          obtain rfl : m = j - 1 := by exact go_eq (lin [_, _, _] [] [(1, (.n (.a (.v 0) (.k 1)) (.v 2))), (1, (.n (.v 2) (.a (.v 1) (.k 1))))] 1 (.n (.v 0) (.v 1)) rfl hm2 (sub_b _ _)) (hm)
          have := rev_le sa il hy
          rw [K_eq (show i - 1 < a.size by exact go_ltn (lin [_, _, _] [] [(1, (.n (.v 2) (.v 1))), (1, (.n (.a (.v 0) (.k 1)) (.v 2)))] 1 (.n (.a (.v 0) (.k 1)) (.v 1)) rfl il (sub_c (lin [_] [] [(1, (.n (.a (.k 0) (.k 1)) (.v 0)))] 1 (.n (.k 1) (.v 0)) rfl i0))))] at this
          rw [K_eq (show j - 1 < b.size by exact go_ltn (lin [_, _, _] [] [(1, (.n (.v 2) (.v 1))), (1, (.n (.a (.v 0) (.k 1)) (.v 2)))] 1 (.n (.a (.v 0) (.k 1)) (.v 1)) rfl jl hm2))]
          exact Int.le_trans this (Int.not_lt.mp hlt))
        obtain ⟨k, rfl⟩ : ∃ k, j = k + 1 := ⟨j - 1, by exact go_eq ((sub_b _ _)) ((sub_c (lin [_] [] [(1, (.n (.a (.k 1) (.k 1)) (.v 0)))] 1 (.n (.k 1) (.v 0)) rfl j0)))⟩
        simp only [Nat.add_sub_cancel] at M ⊢
        rw [one_down (show k < b.size by exact go_ltn (jl)), ← pushL] at M
        by_cases e : k = 1
        · rw [if_pos (by simpa using e)]
          exact wpS_pure (HQ2.inl _ _ (hfb _ _ _ M il e))
        · rw [if_neg (by simpa using e)]
          have G' : GoH a b _ i k := ⟨M, i0, il, by exact go_ltn ((ne_r e (lin [_] [] [(1, (.n (.a (.k 1) (.k 1)) (.a (.v 0) (.k 1))))] 1 (.n (.k 1) (.v 0)) rfl j0))), by exact go_len (lin [_, _] [] [(1, (.n (.a (.v 0) (.k 1)) (.v 1)))] 1 (.n (.v 0) (.v 1)) rfl jl)⟩
          split
          · exact wpS_pure (HQ2.inr _ _ _ _ _ G' (by exact go_len (lin [_, _, _, _, _] [] [(1, (.n (.a (.a (.v 0) (.a (.v 1) (.k 1))) (.v 4)) (.a (.v 2) (.v 3))))] 1 (.n (.a (.a (.v 0) (.v 1)) (.k 1)) (.a (.v 2) (.v 3))) rfl hij2)))
          · exact wpS_pure (HI2.mk _ _ _ _ _ G' (by exact go_len (lin [_, _, _, _, _] [] [(1, (.n (.a (.a (.v 0) (.a (.v 1) (.k 1))) (.v 2)) (.a (.v 3) (.v 4))))] 1 (.n (.a (.a (.v 0) (.v 1)) (.a (.v 2) (.k 1))) (.a (.v 3) (.v 4))) rfl hij2)))
    case p2 =>
      rintro _ _ (⟨R, c, hR⟩ | ⟨i, j, o, ac, bc, G1, hij1⟩)
      · dsimp only
        exact wpS_pure (HQ1.mk R _ S hR)
      · extract_lets -merge r1 _ i1 _ j1 _ o1 _ ac3 bc3
        have e0 : r1 = none := rfl
        have e1 : o1 = o := rfl
        have e2 : i1 = i := rfl
        have e3 : j1 = j := rfl
        clear_value r1 o1 i1 j1 ac3 bc3
        subst e0 e1 e2 e3
        refine wpS_bind (wpS_lift (wpAny_rule ⟨rfl, ?_⟩))
        refine wpS_bind (wpS_mono (wpS_forRange
          (I := fun _ => HI3 st a b (i1 + j1))
          (Q := HQ3 st a b (i1 + j1)) ?s3 ?f3 ?i3) ?p3)
        case i3 => exact .mk i1 j1 o1 mg1 ac3 bc3 S G1 (by exact Nat.le_refl _)
        case f3 =>
          rintro _ st'' ⟨i, j, o, mg, ac, bc, S, G, hij⟩
          exact .inr i j o mg ac bc S G (by exact hij)
        case p3 =>
          rintro _ st'' (⟨R, c, S2, hR⟩ | ⟨i, j, o, mg, ac, bc, S2, G1, hij1⟩)
          · dsimp only
            exact wpS_pure (HQ1.mk R _ S2 hR)
          · dsimp only
            refine wpS_bind (wpS_sMin fun st4 S4 => ?_)
            exact wpS_pure (HI1.mk _ _ _ _ (S2.trans S4) G1 (by exact go_len (lin [_, _, _, _, _, _, _, _] [] [(1, (.n (.a (.a (.a (.v 4) (.v 5)) (.v 2)) (.k 1)) (.v 3))), (1, (.n (.a (.a (.v 6) (.v 7)) (.k 1)) (.a (.v 4) (.v 5)))), (1, (.n (.a (.v 0) (.v 1)) (.a (.v 6) (.v 7))))] 1 (.n (.a (.a (.a (.v 0) (.v 1)) (.a (.v 2) (.k 1))) (.k 1)) (.v 3)) rfl hij ‹i1 + j1 + 1 ≤ i' + j'› hij1)))
        case s3 =>
          rintro y _ st2 _ hy ⟨i, j, o, mg, ac, bc, S2, G2, hij2⟩
          refine wpS_any fun P hP => ?_
          extract_lets -merge _ i2 _ j2 _ o2 _ mg2 _ ac4 bc4 x1 jp1
          have e1 : o2 = o := rfl
          have e2 : i2 = i := rfl
          have e3 : j2 = j := rfl
          have ex : x1 = j2 - 1 := rfl
          clear_value o2 i2 j2 mg2 ac4 bc4 x1
          subst e1 e2 e3
          obtain ⟨M2, i0, il, j0, jl⟩ := G2
          have hjp1 : ∀ u g, wpS (model prog w) A E s (jp1 u g) P st2 := by
            intro u g
            refine wpS_bind (wpS_sMin fun st3 S3 => ?_)
            have S3 := S2.trans S3
            have hk3 : kindOf st3 = oneType' := S3.kind.trans hk
            refine wpS_bind (wpS_elem (show j2 - 1 < b.size by exact lin [_, _, _] [] [(1, (.n (.v 2) (.v 1))), (1, (.n (.a (.v 0) (.k 1)) (.v 2)))] 1 (.n (.a (.v 0) (.k 1)) (.v 1)) rfl jl (sub_c (lin [_] [] [(1, (.n (.a (.k 1) (.k 1)) (.v 0)))] 1 (.n (.k 1) (.v 0)) rfl j0))) ?_)
            refine wpS_bind (wpS_gallop hk3 (hb _ (by simp)) ha (by exact lin [_, _] [] [(1, (.n (.v 0) (.v 1)))] 1 (.n (.a (.k 0) (.v 0)) (.v 1)) rfl il) (by exact (sub_c (lin [_] [] [(1, (.n (.a (.k 0) (.k 1)) (.v 0)))] 1 (.n (.k 1) (.v 0)) rfl i0))) (fun x y hxy hy => srt_K sa (by exact lin [_, _] [] [(1, (.n (.v 0) (.v 1)))] 1 (.n (.a (.k 0) (.v 0)) (.a (.k 0) (.v 1))) rfl hxy) (by exact lin [_, _, _] [] [(1, (.n (.v 2) (.v 1))), (1, (.n (.a (.v 0) (.k 1)) (.v 2)))] 1 (.n (.a (.a (.k 0) (.v 0)) (.k 1)) (.v 1)) rfl il hy)) fun k k1 k2 k3 => ?_)
            dsimp -zeta only
            extract_lets -merge kk ac5 jp2 oY iY
            have ekk : kk = i2 - k := rfl
            clear_value kk ac5
            have kA : ∀ m, m < k → K a m ≤ K b x1 := fun m hm => by
              have := k2 m hm
              unfold bey at this
              rw [ex, K_eq (show j2 - 1 < b.size by exact lin [_, _, _] [] [(1, (.n (.v 2) (.v 1))), (1, (.n (.a (.v 0) (.k 1)) (.v 2)))] 1 (.n (.a (.v 0) (.k 1)) (.v 1)) rfl jl (sub_c (lin [_] [] [(1, (.n (.a (.k 1) (.k 1)) (.v 0)))] 1 (.n (.k 1) (.v 0)) rfl j0)))]
              simp at this
              exact this
            have kB : ∀ m, k ≤ m → m < i2 → K b x1 < K a m := fun m hm1 hm2 => by
              have := k3 m hm1 hm2
              unfold bey at this
              rw [ex, K_eq (show j2 - 1 < b.size by exact lin [_, _, _] [] [(1, (.n (.v 2) (.v 1))), (1, (.n (.a (.v 0) (.k 1)) (.v 2)))] 1 (.n (.a (.v 0) (.k 1)) (.v 1)) rfl jl (sub_c (lin [_] [] [(1, (.n (.a (.k 1) (.k 1)) (.v 0)))] 1 (.n (.k 1) (.v 0)) rfl j0)))]
              simp at this
              exact this
            have hjp2 : ∀ u i3 o3, MI kge (a.toList ++ b.toList) o3.toList (rev a i3) (rev b j2) → i3 = k → 0 < i3 → i3 ≤ i2 → wpS (model prog w) A E s (jp2 u i3 o3) P st3 := by
              intro u i3 o3 M3 e3 i30 il3
              refine wpS_bind (wpS_elem (show x1 < b.size by exact lin [_, _, _, _] [] [(1, (.n (.v 0) (.v 2))), (1, (.n (.v 3) (.v 1))), (1, (.n (.a (.v 2) (.k 1)) (.v 3)))] 1 (.n (.a (.v 0) (.k 1)) (.v 1)) rfl (eq_a ex) jl (sub_c (lin [_] [] [(1, (.n (.a (.k 1) (.k 1)) (.v 0)))] 1 (.n (.k 1) (.v 0)) rfl j0))) ?_)
              extract_lets -merge o4 y1
              have ey : y1 + 1 = i3 := by show i3 - 1 + 1 = i3; exact go_eq ((sub_c (lin [_] [] [(1, (.n (.a (.k 0) (.k 1)) (.v 0)))] 1 (.n (.k 1) (.v 0)) rfl i30))) ((sub_b _ _))
              have M4 := M3.downB (k := x1) (by exact lin [_, _, _] [] [(1, (.n (.v 0) (.v 2))), (1, (.n (.a (.v 2) (.k 1)) (.v 1)))] 1 (.n (.v 0) (.v 1)) rfl (eq_a ex) (sub_c (lin [_] [] [(1, (.n (.a (.k 1) (.k 1)) (.v 0)))] 1 (.n (.k 1) (.v 0)) rfl j0))) sb (fun m hm hm2 _ y hy => by
                obtain rfl : m = x1 := by exact go_eq (lin [_, _, _, _] [] [(1, (.n (.v 2) (.v 1))), (1, (.n (.a (.v 0) (.k 1)) (.v 3))), (1, (.n (.v 3) (.a (.v 2) (.k 1))))] 1 (.n (.v 0) (.v 1)) rfl (eq_b ex) hm2 (sub_b _ _)) (hm)
                obtain ⟨l, l1, l2, l3⟩ := rev_K hy
                rw [l3]
                exact kA l (by exact lin [_, _, _] [] [(1, (.n (.v 2) (.v 1))), (1, (.n (.a (.v 0) (.k 1)) (.v 2)))] 1 (.n (.a (.v 0) (.k 1)) (.v 1)) rfl (eq_a e3) l1))
              have ej2 : j2 = x1 + 1 := by exact go_eq (lin [_, _, _] [] [(1, (.n (.v 2) (.v 1))), (1, (.n (.v 0) (.a (.v 2) (.k 1))))] 1 (.n (.v 0) (.a (.v 1) (.k 1))) rfl (eq_b ex) (sub_b _ _)) (lin [_, _, _] [] [(1, (.n (.v 0) (.v 2))), (1, (.n (.a (.v 2) (.k 1)) (.v 1)))] 1 (.n (.a (.v 0) (.k 1)) (.v 1)) rfl (eq_a ex) (sub_c (lin [_] [] [(1, (.n (.a (.k 1) (.k 1)) (.v 0)))] 1 (.n (.k 1) (.v 0)) rfl j0)))
              rw [ej2, one_down (show x1 < b.size by exact lin [_, _, _] [] [(1, (.n (.v 2) (.v 1))), (1, (.n (.a (.v 0) (.k 1)) (.v 2)))] 1 (.n (.a (.v 0) (.k 1)) (.v 1)) rfl jl (eq_b ej2)), ← pushL] at M4
              change MI kge (a.toList ++ b.toList) o4.toList _ _ at M4
              clear_value o4 y1
              by_cases c1 : x1 = 1
              · rw [if_pos (by simpa using c1)]
                exact wpS_pure (hP _ _ (HQ3.inl _ _ S3 (hfb _ _ _ M4 (by exact lin [_, _, _] [] [(1, (.n (.v 2) (.v 1))), (1, (.n (.v 0) (.v 2)))] 1 (.n (.v 0) (.v 1)) rfl il il3) c1)))
              rw [if_neg (by simpa using c1)]
              refine wpS_bind (wpS_elem (show i3 - 1 < a.size by exact lin [_, _, _, _] [] [(1, (.n (.v 2) (.v 1))), (1, (.n (.v 3) (.v 2))), (1, (.n (.a (.v 0) (.k 1)) (.v 3)))] 1 (.n (.a (.v 0) (.k 1)) (.v 1)) rfl il il3 (sub_c (lin [_] [] [(1, (.n (.a (.k 0) (.k 1)) (.v 0)))] 1 (.n (.k 1) (.v 0)) rfl i30))) ?_)
              refine wpS_bind (wpS_gallop hk3 (ha _ (by simp)) hb (by exact lin [_, _, _] [] [(1, (.n (.v 2) (.v 1))), (1, (.n (.a (.v 0) (.k 1)) (.v 2)))] 1 (.n (.a (.k 0) (.v 0)) (.v 1)) rfl jl (eq_b ej2)) (by exact (sub_c (lin [_, _] [] [(1, (.n (.a (.k 1) (.k 1)) (.v 1))), (1, (.n (.v 1) (.a (.v 0) (.k 1))))] 1 (.n (.k 1) (.v 0)) rfl j0 (eq_a ej2)))) (fun x y hxy hy => srt_K sb (by exact lin [_, _] [] [(1, (.n (.v 0) (.v 1)))] 1 (.n (.a (.k 0) (.v 0)) (.a (.k 0) (.v 1))) rfl hxy) (by exact lin [_, _, _, _] [] [(1, (.n (.v 2) (.v 1))), (1, (.n (.a (.v 3) (.k 1)) (.v 2))), (1, (.n (.a (.v 0) (.k 1)) (.v 3)))] 1 (.n (.a (.a (.k 0) (.v 0)) (.k 1)) (.v 1)) rfl jl (eq_b ej2) hy)) fun k' k1' k2' k3' => ?_)
              dsimp -zeta only
              extract_lets -merge kk2 bc5 jp3 oX jX
              have ekk2 : kk2 = x1 - k' := rfl
              clear_value kk2 bc5
              have ey2 : i3 - 1 = y1 := by exact go_eq (lin [_, _, _] [] [(1, (.n (.v 2) (.a (.v 1) (.k 1)))), (1, (.n (.a (.v 0) (.k 1)) (.v 2)))] 1 (.n (.v 0) (.v 1)) rfl (eq_b ey) (sub_c (lin [_] [] [(1, (.n (.a (.k 0) (.k 1)) (.v 0)))] 1 (.n (.k 1) (.v 0)) rfl i30))) (lin [_, _, _] [] [(1, (.n (.a (.v 0) (.k 1)) (.v 2))), (1, (.n (.v 2) (.a (.v 1) (.k 1))))] 1 (.n (.v 0) (.v 1)) rfl (eq_a ey) (sub_b _ _))
              have kC : ∀ m, m < k' → K b m < K a y1 := fun m hm => by
                have := k2' m hm
                unfold bey at this
                rw [← ey2, K_eq (show i3 - 1 < a.size by exact lin [_, _, _, _] [] [(1, (.n (.v 2) (.v 1))), (1, (.n (.v 3) (.v 2))), (1, (.n (.a (.v 0) (.k 1)) (.v 3)))] 1 (.n (.a (.v 0) (.k 1)) (.v 1)) rfl il il3 (sub_c (lin [_] [] [(1, (.n (.a (.k 0) (.k 1)) (.v 0)))] 1 (.n (.k 1) (.v 0)) rfl i30)))]
                simp at this
                exact this
              have kD : ∀ m, k' ≤ m → m < x1 → K a y1 ≤ K b m := fun m hm1 hm2 => by
                have := k3' m hm1 hm2
                unfold bey at this
                rw [← ey2, K_eq (show i3 - 1 < a.size by exact lin [_, _, _, _] [] [(1, (.n (.v 2) (.v 1))), (1, (.n (.v 3) (.v 2))), (1, (.n (.a (.v 0) (.k 1)) (.v 3)))] 1 (.n (.a (.v 0) (.k 1)) (.v 1)) rfl il il3 (sub_c (lin [_] [] [(1, (.n (.a (.k 0) (.k 1)) (.v 0)))] 1 (.n (.k 1) (.v 0)) rfl i30)))]
                simp at this
                exact this
              have hjp3 : ∀ u j5 o5, MI kge (a.toList ++ b.toList) o5.toList (rev a i3) (rev b j5) → j5 = k' → 1 < j5 → j5 ≤ x1 → wpS (model prog w) A E s (jp3 u j5 o5) P st3 := by
                intro u j5 o5 M5 e5 j50 jl5
                refine wpS_bind (wpS_elem (show y1 < a.size by exact lin [_, _, _, _] [] [(1, (.n (.v 2) (.v 1))), (1, (.n (.v 3) (.v 2))), (1, (.n (.a (.v 0) (.k 1)) (.v 3)))] 1 (.n (.a (.v 0) (.k 1)) (.v 1)) rfl il il3 (eq_a ey)) ?_)
                have M6 := M5.downA (k := y1) (by exact lin [_, _] [] [(1, (.n (.a (.v 0) (.k 1)) (.v 1)))] 1 (.n (.v 0) (.v 1)) rfl (eq_a ey)) sa (fun m hm hm2 _ y hy => by
                  obtain rfl : m = y1 := by exact go_eq (lin [_, _, _] [] [(1, (.n (.v 2) (.a (.v 1) (.k 1)))), (1, (.n (.a (.v 0) (.k 1)) (.v 2)))] 1 (.n (.v 0) (.v 1)) rfl (eq_b ey) hm2) (hm)
                  obtain ⟨l, l1, l2, l3⟩ := rev_K hy
                  rw [l3]
                  exact Int.le_of_lt (kC l (by exact lin [_, _, _] [] [(1, (.n (.v 2) (.v 1))), (1, (.n (.a (.v 0) (.k 1)) (.v 2)))] 1 (.n (.a (.v 0) (.k 1)) (.v 1)) rfl (eq_a e5) l1)))
                rw [← ey, one_down (show y1 < a.size by exact lin [_, _, _, _] [] [(1, (.n (.v 2) (.v 1))), (1, (.n (.v 3) (.v 2))), (1, (.n (.a (.v 0) (.k 1)) (.v 3)))] 1 (.n (.a (.v 0) (.k 1)) (.v 1)) rfl il il3 (eq_a ey)), ← pushL] at M6
                dsimp only
                by_cases c2 : y1 = 0
                · rw [if_pos (by simpa using c2)]
                  exact wpS_pure (hP _ _ (HQ3.inl _ _ S3 (hdn _ _ _ M6 (.inl c2))))
                rw [if_neg (by simpa using c2)]
                have G' : GoH a b _ y1 j5 := ⟨M6, by exact lin [_] [] [(1, (.n (.k 1) (.v 0)))] 1 (.n (.a (.k 0) (.k 1)) (.v 0)) rfl (ne_z c2), by exact lin [_, _, _, _] [] [(1, (.n (.v 2) (.v 1))), (1, (.n (.v 3) (.v 2))), (1, (.n (.a (.v 0) (.k 1)) (.v 3)))] 1 (.n (.v 0) (.v 1)) rfl il il3 (eq_a ey), by exact j50, by exact lin [_, _, _, _] [] [(1, (.n (.v 2) (.v 1))), (1, (.n (.a (.v 3) (.k 1)) (.v 2))), (1, (.n (.v 0) (.v 3)))] 1 (.n (.v 0) (.v 1)) rfl jl (eq_b ej2) jl5⟩
                split
                · exact wpS_pure (hP _ _ (HQ3.inr _ _ _ _ _ _ S3 G' (by exact lin [_, _, _, _, _, _, _, _] [] [(1, (.n (.a (.v 4) (.v 5)) (.a (.v 2) (.v 3)))), (1, (.n (.v 6) (.v 4))), (1, (.n (.a (.v 0) (.k 1)) (.v 6))), (1, (.n (.a (.v 7) (.k 1)) (.v 5))), (1, (.n (.v 1) (.v 7)))] 1 (.n (.a (.v 0) (.v 1)) (.a (.v 2) (.v 3))) rfl hij2 il3 (eq_a ey) (eq_b ej2) jl5)))
                · exact wpS_pure (hP _ _ (HI3.mk _ _ _ _ _ _ S3 G' (by exact lin [_, _, _, _, _, _, _, _] [] [(1, (.n (.a (.v 4) (.v 5)) (.a (.v 2) (.v 3)))), (1, (.n (.v 6) (.v 4))), (1, (.n (.a (.v 0) (.k 1)) (.v 6))), (1, (.n (.a (.v 7) (.k 1)) (.v 5))), (1, (.n (.v 1) (.v 7)))] 1 (.n (.a (.v 0) (.v 1)) (.a (.v 2) (.v 3))) rfl hij2 il3 (eq_a ey) (eq_b ej2) jl5)))
              clear_value jp3
              by_cases c3 : kk2 > 0
              · rw [if_pos c3]
                have M5 := M4.downB (k := k') (by exact k1') sb (fun m hm hm2 _ y hy => by
                  have h1 := rev_le sa (by exact lin [_, _, _] [] [(1, (.n (.v 2) (.v 1))), (1, (.n (.v 0) (.v 2)))] 1 (.n (.v 0) (.v 1)) rfl il il3) hy
                  rw [ey2] at h1
                  have h2 := kD m hm hm2
                  exact lin [] [_, _, _] [(1, (.i (.v 0) (.v 2))), (1, (.i (.v 2) (.v 1)))] 1 (.i (.v 0) (.v 1)) rfl h1 h2)
                rw [← downL] at M5
                change MI kge (a.toList ++ b.toList) oX.toList _ (rev b jX) at M5
                have eX : jX = k' := rfl
                clear_value oX jX
                by_cases c4 : jX = 1
                · rw [if_pos (by simpa using c4)]
                  exact wpS_pure (hP _ _ (HQ3.inl _ _ S3 (hfb _ _ _ M5 (by exact lin [_, _, _] [] [(1, (.n (.v 2) (.v 1))), (1, (.n (.v 0) (.v 2)))] 1 (.n (.v 0) (.v 1)) rfl il il3) c4)))
                rw [if_neg (by simpa using c4)]
                by_cases c5 : jX = 0
                · rw [if_pos (by simpa using c5)]
                  exact wpS_pure (hP _ _ (HQ3.inl _ _ S3 (hdn _ _ _ M5 (.inr c5))))
                rw [if_neg (by simpa using c5)]
                exact hjp3 _ _ _ M5 eX (by exact go_ltn ((ne_r c4 ((ne_z c5))))) (by exact lin [_, _, _] [] [(1, (.n (.v 2) (.v 1))), (1, (.n (.v 0) (.v 2)))] 1 (.n (.v 0) (.v 1)) rfl k1' (eq_a eX))
              · rw [if_neg c3]
                exact hjp3 _ _ _ M4 (by exact go_eq (lin [_, _, _, _] [] [(1, (.n (.v 2) (.v 3))), (1, (.n (.v 3) (.k 0))), (1, (.n (.v 0) (.a (.v 2) (.v 1))))] 1 (.n (.v 0) (.v 1)) rfl (eq_b ekk2) (not_lt_n c3) (sub_b _ _)) (k1')) (by exact go_ltn ((ne_r c1 (lin [_, _] [] [(1, (.n (.a (.k 1) (.k 1)) (.v 1))), (1, (.n (.v 1) (.a (.v 0) (.k 1))))] 1 (.n (.k 1) (.v 0)) rfl j0 (eq_a ej2))))) (by exact Nat.le_refl _)
            clear_value jp2
            by_cases c3 : kk > 0
            · rw [if_pos c3]
              have M3 := M2.downA (k := k) (by exact k1) sa (fun m hm hm2 _ y hy => by
                have h1 := rev_le sb jl hy
                rw [← ex] at h1
                have h2 := kB m hm hm2
                exact lin [] [_, _, _] [(1, (.i (.v 0) (.v 2))), (1, (.i (.a (.v 2) (.k 1)) (.v 1)))] 1 (.i (.v 0) (.v 1)) rfl h1 (lt_i h2))
              rw [← downL] at M3
              change MI kge (a.toList ++ b.toList) oY.toList (rev a iY) _ at M3
              have eY : iY = k := rfl
              clear_value oY iY
              by_cases c4 : iY = 0
              · rw [if_pos (by simpa using c4)]
                exact wpS_pure (hP _ _ (HQ3.inl _ _ S3 (hdn _ _ _ M3 (.inl c4))))
              rw [if_neg (by simpa using c4)]
              exact hjp2 _ _ _ M3 eY (by exact lin [_] [] [(1, (.n (.k 1) (.v 0)))] 1 (.n (.a (.k 0) (.k 1)) (.v 0)) rfl (ne_z c4)) (by exact lin [_, _, _] [] [(1, (.n (.v 2) (.v 1))), (1, (.n (.v 0) (.v 2)))] 1 (.n (.v 0) (.v 1)) rfl k1 (eq_a eY))
            · rw [if_neg c3]
              exact hjp2 _ _ _ M2 (by exact go_eq (lin [_, _, _, _] [] [(1, (.n (.v 2) (.v 3))), (1, (.n (.v 3) (.k 0))), (1, (.n (.v 0) (.a (.v 2) (.v 1))))] 1 (.n (.v 0) (.v 1)) rfl (eq_b ekk) (not_lt_n c3) (sub_b _ _)) (k1)) i0 (Nat.le_refl _)
          clear_value jp1
          split
          · exact hjp1 _ _
          · exact hjp1 _ _
end
end
section
/-- the state of a sort whose part from lo on is at work -/
structure SW (a₀ : Array Keyed) (lo : Nat) (st0 st : SortSt) : Prop where
  perm : (arrOf st).Perm a₀
  kind : kindOf st = oneType'
  fail : failedOf st = none
  pend : pendingOf st = pendingOf st0
  low : ∀ i, i < lo → K (arrOf st) i = K (arrOf st0) i
theorem SW.size {a₀ : Array Keyed} {lo : Nat} {st0 st : SortSt} (h : SW a₀ lo st0 st) : (arrOf st).size = a₀.size := h.perm.size_eq
theorem SW.isI {a₀ : Array Keyed} {lo : Nat} {st0 st : SortSt} (h : SW a₀ lo st0 st) (h0 : IntKeys a₀) {x : Keyed} (hx : x ∈ (arrOf st).toList) : IsI x :=
  h0 _ ((Array.perm_iff_toList_perm.mp h.perm).mem_iff.mp hx)
theorem SW.set {a₀ : Array Keyed} {lo : Nat} {st0 st : SortSt} (h : SW a₀ lo st0 st) {xs : Array Keyed} (hp : xs.Perm (arrOf st)) (hl : ∀ i, i < lo → K xs i = K (arrOf st) i) : SW a₀ lo st0 (setArr st xs) :=
  ⟨hp.trans h.perm, h.kind, h.fail, h.pend, fun i hi => (hl i hi).trans (h.low i hi)⟩
noncomputable def Asc (xs : Array Keyed) (lo m : Nat) : Prop := ∀ i j, lo ≤ i → i ≤ j → j < lo + m → K xs i ≤ K xs j
noncomputable def Dsc (xs : Array Keyed) (lo m : Nat) : Prop := ∀ i j, lo ≤ i → i ≤ j → j < lo + m → K xs j ≤ K xs i
section
variable {prog : Program} {w : World} {A : Around} {E : Value → Shared → Prop} {s : Shared} {a₀ : Array Keyed} {lo : Nat} {st0 : SortSt}
theorem wpS_ltw {st : SortSt} {i j : Nat} {Q : Option Bool → SortSt → Prop} (hB : SW a₀ lo st0 st) (h0 : IntKeys a₀) (hi : i < a₀.size) (hj : j < a₀.size)
    (h : Q (some (decide (K (arrOf st) i < K (arrOf st) j))) st) : wpS (model prog w) A E s (ltAt' i j) Q st := by
  have hi' : i < (arrOf st).size := by rw [hB.size]; exact hi
  have hj' : j < (arrOf st).size := by rw [hB.size]; exact hj
  rw [K_eq hi', K_eq hj'] at h
  rw [ltAt'_eq]
  refine wpS_bind (wpS_get ?_)
  show wpS _ _ _ _ (do let x ← elem' (arrOf st) i; let y ← elem' (arrOf st) j; lt' x y) Q st
  refine wpS_bind (wpS_elem hi' ?_)
  refine wpS_bind (wpS_elem hj' ?_)
  exact wpS_lt hB.kind (hB.isI h0 (by simp)) (hB.isI h0 (by simp)) h
theorem wpS_rev {st : SortSt} {i j : Nat} {Q : Unit → SortSt → Prop} (hB : SW a₀ lo st0 st) (hi : lo ≤ i) (hj : j ≤ a₀.size)
    (h : ∀ st', SW a₀ lo st0 st' → (∀ k, K (arrOf st') k = if i ≤ k ∧ k < j then K (arrOf st) (i + j - 1 - k) else K (arrOf st) k) → Q () st') :
    wpS (model prog w) A E s (reverseSlice' i j) Q st := by
  rw [reverseSlice'_eq]
  have hj' : j ≤ (arrOf st).size := by rw [hB.size]; exact hj
  exact wpS_modify (h _ (hB.set (mirror_perm _ _ _ _) fun k hk => by rw [K_mirror hj', if_neg (by omega)]) (K_mirror hj'))
theorem wpS_countw {st : SortSt} {nrem : Nat} {Q : Option Nat → SortSt → Prop} (h0 : IntKeys a₀) (hn : lo + nrem ≤ a₀.size) (h1 : 1 ≤ nrem) (hB : SW a₀ lo st0 st)
    (h : ∀ m st', SW a₀ lo st0 st' → 1 ≤ m → m ≤ nrem → Asc (arrOf st') lo m → Q (some m) st') :
    wpS (model prog w) A E s (countRun' lo nrem) Q st := by
  with_unfolding_all refine wpS_bind ?_
  have hA1 : Asc (arrOf st) lo 1 := fun i j hi hij hj => by
    obtain rfl : i = j := by exact go_eq (hij) (lin [_, _, _] [] [(1, (.n (.v 2) (.v 1))), (1, (.n (.a (.v 0) (.k 1)) (.a (.v 2) (.k 1))))] 1 (.n (.v 0) (.v 1)) rfl hi hj)
    exact Int.le_refl _
  refine wpS_mono (wpS_forRange (I := fun x c st' => st' = st ∧ c = (none, x) ∧ x ≤ nrem ∧ Asc (arrOf st) lo x)
    (Q := fun c st' => st' = st ∧ ∃ m, c = (none, m) ∧ 1 ≤ m ∧ m ≤ nrem ∧ Asc (arrOf st) lo m ∧ (m = nrem ∨ K (arrOf st) (lo + m) < K (arrOf st) (lo + m - 1))) ?s1 ?f1 ?i1) ?p1
  case i1 => exact ⟨rfl, rfl, by exact h1, by assumption⟩
  case f1 =>
    rintro c st' ⟨rfl, rfl, hx, hA⟩
    exact ⟨rfl, _, rfl, by exact (Nat.le_max_left _ _), hx, hA, .inl (by exact go_eq (hx) ((Nat.le_max_right _ _)))⟩
  case s1 =>
    rintro x c st' hx1 hx2 ⟨rfl, rfl, hx, hA⟩
    dsimp only
    refine wpS_bind (wpS_ltw ‹SW a₀ lo st0 st'› h0 (by exact lin [_, _, _, _] [] [(1, (.n (.a (.v 0) (.v 3)) (.v 2))), (1, (.n (.a (.v 1) (.k 1)) (.v 3)))] 1 (.n (.a (.a (.v 0) (.v 1)) (.k 1)) (.v 2)) rfl hn hx2) (by exact lin [_, _, _, _, _] [] [(1, (.n (.a (.v 2) (.v 3)) (.v 1))), (1, (.n (.a (.v 4) (.k 1)) (.v 3))), (1, (.n (.a (.v 0) (.k 1)) (.a (.v 2) (.v 4))))] 1 (.n (.a (.v 0) (.k 1)) (.v 1)) rfl hn hx2 (sub_c (lin [_, _] [] [(1, (.n (.k 1) (.v 1)))] 1 (.n (.k 1) (.a (.v 0) (.v 1))) rfl hx1))) ?_)
    dsimp only
    by_cases hlt : K (arrOf st') (lo + x) < K (arrOf st') (lo + x - 1)
    · simp only [hlt, decide_true, if_true]
      exact wpS_pure ⟨rfl, x, rfl, hx1, hx, hA, .inr hlt⟩
    · simp only [hlt, decide_false, Bool.false_eq_true, if_false]
      refine wpS_pure ⟨rfl, rfl, by exact hx2, fun i j hi hij hj => ?_⟩
      rcases Nat.lt_or_ge j (lo + x) with hj' | hj'
      · exact hA i j hi hij hj'
      · obtain rfl : j = lo + x := by exact go_eq (lin [_, _, _] [] [(1, (.n (.a (.v 0) (.k 1)) (.a (.v 1) (.a (.v 2) (.k 1)))))] 1 (.n (.v 0) (.a (.v 1) (.v 2))) rfl hj) (hj')
        rcases Nat.lt_or_ge i (lo + x) with hi' | hi'
        · have := hA i (lo + x - 1) hi (by exact lin [_, _, _, _] [] [(1, (.n (.a (.v 0) (.k 1)) (.a (.v 2) (.v 3)))), (1, (.n (.a (.v 2) (.v 3)) (.a (.v 1) (.k 1))))] 1 (.n (.v 0) (.v 1)) rfl hi' (sub_b _ _)) (by exact (sub_c (lin [_, _, _] [] [(1, (.n (.a (.v 2) (.k 1)) (.a (.v 0) (.v 1))))] 1 (.n (.k 1) (.a (.v 0) (.v 1))) rfl hi')))
          exact lin [] [_, _, _] [(1, (.i (.v 2) (.v 1))), (1, (.i (.v 0) (.v 2)))] 1 (.i (.v 0) (.v 1)) rfl (not_lt_i hlt) this
        · obtain rfl : i = lo + x := by exact go_eq (hij) (hi')
          exact Int.le_refl _
  case p1 =>
    rintro c st' ⟨rfl, n0, rfl, n1, n2, hA, hor⟩
    extract_lets -merge r n nX z1 z2 jp
    have er : r = none := rfl
    have en : n = n0 := rfl
    have eX : nX = n + 1 := rfl
    clear_value r n nX
    subst er en
    by_cases c1 : n = nrem
    · dsimp -zeta only
      rw [if_pos (by simpa using c1)]
      exact wpS_pure (h _ _ hB n1 n2 hA)
    dsimp -zeta only
    rw [if_neg (by simpa using c1)]
    have hlt := hor.resolve_left c1
    clear hor
    have hjp : ∀ u st', SW a₀ lo st0 st' → Dsc (arrOf st') lo nX → wpS (model prog w) A E s (jp u) Q st' := by
      intro u st2 hB2 hD2
      refine wpS_bind (wpS_lift (wpAny_rule ⟨rfl, ?_⟩))
      refine wpS_bind (wpS_mono (wpS_forRange (I := fun x c st' => SW a₀ lo st0 st' ∧ x ≤ nrem ∧ ∃ neq, c = (none, x, neq) ∧ neq + 1 ≤ x ∧ Dsc (arrOf st') lo x ∧ (∀ k, lo + x - (neq + 1) ≤ k → k < lo + x → K (arrOf st') k = K (arrOf st') (lo + x - 1)))
        (Q := fun c st' => SW a₀ lo st0 st' ∧ ∃ m neq, c = (none, m, neq) ∧ m ≤ nrem ∧ neq + 1 ≤ m ∧ Dsc (arrOf st') lo m ∧ (∀ k, lo + m - (neq + 1) ≤ k → k < lo + m → K (arrOf st') k = K (arrOf st') (lo + m - 1))) ?s3 ?f3 ?i3) ?p3)
      case i3 =>
        refine ⟨hB2, by exact go_len (lin [_, _, _] [] [(1, (.n (.v 0) (.a (.v 2) (.k 1)))), (1, (.n (.a (.v 2) (.k 1)) (.v 1)))] 1 (.n (.v 0) (.v 1)) rfl (eq_a eX) (ne_l c1 (n2))), z1, rfl, by omega, hD2, fun k k1 k2 => ?_⟩
        have ez : z1 = 0 := rfl
        obtain rfl : k = lo + nX - 1 := by exact go_eq (lin [_, _, _, _] [] [(1, (.n (.a (.v 0) (.k 1)) (.a (.v 2) (.v 3)))), (1, (.n (.a (.v 2) (.v 3)) (.a (.v 1) (.k 1))))] 1 (.n (.v 0) (.v 1)) rfl k2 (sub_b _ _)) (k1)
        rfl
      case f3 =>
        rintro c st' ⟨hB, hx, neq, rfl, q1, q2, q3⟩
        rw [Nat.max_eq_right (by exact lin [_, _, _] [] [(1, (.n (.v 2) (.v 1))), (1, (.n (.v 0) (.v 2)))] 1 (.n (.v 0) (.v 1)) rfl hx (Nat.le_max_left _ _))] at *
        exact ⟨hB, _, neq, rfl, Nat.le_refl _, q1, q2, q3⟩
      case s3 =>
        rintro x c st3 hx1 hx2 ⟨hB3, hx, neq, rfl, q1, q2, q3⟩
        dsimp only
        refine wpS_bind (wpS_ltw hB3 h0 (by exact lin [_, _, _, _] [] [(1, (.n (.a (.v 0) (.v 3)) (.v 2))), (1, (.n (.a (.v 1) (.k 1)) (.v 3)))] 1 (.n (.a (.a (.v 0) (.v 1)) (.k 1)) (.v 2)) rfl hn hx2) (by exact lin [_, _, _, _, _] [] [(1, (.n (.a (.v 2) (.v 3)) (.v 1))), (1, (.n (.a (.v 4) (.k 1)) (.v 3))), (1, (.n (.a (.v 0) (.k 1)) (.a (.v 2) (.v 4))))] 1 (.n (.a (.v 0) (.k 1)) (.v 1)) rfl hn hx2 (sub_c (lin [_, _, _] [] [(1, (.n (.a (.v 2) (.k 1)) (.v 1)))] 1 (.n (.k 1) (.a (.v 0) (.v 1))) rfl q1))) ?_)
        dsimp only
        by_cases hlt : K (arrOf st3) (lo + x) < K (arrOf st3) (lo + x - 1)
        · simp only [hlt, decide_true, if_true]
          have ez : z2 = 0 := rfl
          clear_value z2
          have go : ∀ st', SW a₀ lo st0 st' → (∀ k, K (arrOf st') k = K (arrOf st3) k) → SW a₀ lo st0 st' ∧ x + 1 ≤ nrem ∧ ∃ neq, (none, x + 1, z2) = ((none, x + 1, neq) : Option (Option Nat) × Nat × Nat) ∧ neq + 1 ≤ x + 1 ∧ Dsc (arrOf st') lo (x + 1) ∧ (∀ k, lo + (x + 1) - (neq + 1) ≤ k → k < lo + (x + 1) → K (arrOf st') k = K (arrOf st') (lo + (x + 1) - 1)) := by
            intro st' hB' hK
            refine ⟨hB', by exact hx2, z2, rfl, by exact lin [_, _] [] [(1, (.n (.v 0) (.k 0)))] 1 (.n (.a (.v 0) (.k 1)) (.a (.v 1) (.k 1))) rfl (eq_a ez), fun i j hi hij hj => ?_, fun k g1 g2 => ?_⟩
            · rw [hK, hK]
              rcases Nat.lt_or_ge j (lo + x) with hj' | hj'
              · exact q2 i j hi hij hj'
              · obtain rfl : j = lo + x := by exact go_eq (lin [_, _, _] [] [(1, (.n (.a (.v 0) (.k 1)) (.a (.v 1) (.a (.v 2) (.k 1)))))] 1 (.n (.v 0) (.a (.v 1) (.v 2))) rfl hj) (hj')
                rcases Nat.lt_or_ge i (lo + x) with hi' | hi'
                · have := q2 i (lo + x - 1) hi (by exact lin [_, _, _, _] [] [(1, (.n (.a (.v 0) (.k 1)) (.a (.v 2) (.v 3)))), (1, (.n (.a (.v 2) (.v 3)) (.a (.v 1) (.k 1))))] 1 (.n (.v 0) (.v 1)) rfl hi' (sub_b _ _)) (by exact (sub_c (lin [_, _, _] [] [(1, (.n (.a (.v 2) (.k 1)) (.a (.v 0) (.v 1))))] 1 (.n (.k 1) (.a (.v 0) (.v 1))) rfl hi')))
                  exact lin [] [_, _, _] [(1, (.i (.a (.v 0) (.k 1)) (.v 2))), (1, (.i (.v 2) (.v 1)))] 1 (.i (.v 0) (.v 1)) rfl (lt_i hlt) this
                · obtain rfl : i = lo + x := by exact go_eq (hij) (hi')
                  exact Int.le_refl _
            · obtain rfl : k = lo + (x + 1) - 1 := by exact go_eq (lin [_, _, _, _] [] [(1, (.n (.a (.v 0) (.k 1)) (.a (.v 2) (.a (.v 3) (.k 1))))), (1, (.n (.a (.v 2) (.a (.v 3) (.k 1))) (.a (.v 1) (.k 1))))] 1 (.n (.v 0) (.v 1)) rfl g2 (sub_b _ _)) (lin [_, _, _, _, _, _] [] [(1, (.n (.v 2) (.k 0))), (1, (.n (.v 3) (.v 1))), (1, (.n (.a (.v 4) (.a (.v 5) (.k 1))) (.a (.v 3) (.a (.v 2) (.k 1))))), (1, (.n (.a (.v 0) (.k 1)) (.a (.v 4) (.a (.v 5) (.k 1)))))] 1 (.n (.v 0) (.v 1)) rfl (eq_a ez) g1 (sub_b _ _) (sub_c (lin [_, _, _] [] [(1, (.n (.a (.v 2) (.k 1)) (.a (.v 0) (.a (.v 1) (.k 1)))))] 1 (.n (.k 1) (.a (.v 0) (.a (.v 1) (.k 1)))) rfl g2)))
              rfl
          by_cases hz : neq > 0
          · rw [if_pos hz]
            refine wpS_bind (wpS_rev hB3 (by exact lin [_, _, _, _] [] [(1, (.n (.a (.v 2) (.k 1)) (.v 3))), (1, (.n (.a (.v 0) (.v 3)) (.a (.v 1) (.a (.v 2) (.k 1)))))] 1 (.n (.v 0) (.v 1)) rfl q1 (sub_b _ _)) (by exact lin [_, _, _, _] [] [(1, (.n (.a (.v 0) (.v 3)) (.v 2))), (1, (.n (.a (.v 1) (.k 1)) (.v 3)))] 1 (.n (.a (.v 0) (.v 1)) (.v 2)) rfl hn hx2) fun st5 hB5 hK5 => ?_)
            refine wpS_pure (go _ hB5 fun k => ?_)
            rw [hK5]
            split
            · rw [q3 _ (by exact go_len (lin [_, _, _, _, _, _] [] [(1, (.n (.a (.v 2) (.k 1)) (.a (.v 3) (.v 4)))), (1, (.n (.a (.v 0) (.a (.v 3) (.v 4))) (.a (.v 5) (.k 1)))), (1, (.n (.v 5) (.a (.v 1) (.v 2))))] 1 (.n (.v 0) (.v 1)) rfl (‹lo + x - (neq + 1) ≤ k ∧ k < lo + x›.2) (sub_b _ _) (sub_b _ _))) (by exact go_ltn (lin [_, _, _, _, _, _] [] [(1, (.n (.v 3) (.v 4))), (1, (.n (.a (.v 5) (.k 1)) (.a (.v 3) (.a (.v 1) (.v 2))))), (1, (.n (.a (.v 0) (.v 4)) (.v 5)))] 1 (.n (.a (.v 0) (.k 1)) (.a (.v 1) (.v 2))) rfl (‹lo + x - (neq + 1) ≤ k ∧ k < lo + x›.1) (sub_c (lin [_, _, _, _] [] [(1, (.n (.a (.v 3) (.k 1)) (.a (.v 1) (.v 2))))] 1 (.n (.k 1) (.a (.v 0) (.a (.v 1) (.v 2)))) rfl (‹lo + x - (neq + 1) ≤ k ∧ k < lo + x›.2))) (sub_c (lin [_, _, _, _, _] [] [(1, (.n (.a (.v 0) (.k 1)) (.a (.v 2) (.v 3)))), (1, (.n (.a (.v 4) (.a (.v 2) (.v 3))) (.a (.v 1) (.k 1))))] 1 (.n (.v 0) (.v 1)) rfl (‹lo + x - (neq + 1) ≤ k ∧ k < lo + x›.2) (sub_b _ _))))), q3 k (by exact go_len ((‹lo + x - (neq + 1) ≤ k ∧ k < lo + x›.1))) (by exact go_ltn ((‹lo + x - (neq + 1) ≤ k ∧ k < lo + x›.2)))]
            · rfl
          · rw [if_neg hz]
            exact wpS_pure (go _ hB3 fun _ => rfl)
        · simp only [hlt, decide_false, Bool.false_eq_true, if_false]
          refine wpS_bind (wpS_ltw hB3 h0 (by exact lin [_, _, _, _, _] [] [(1, (.n (.a (.v 2) (.v 3)) (.v 1))), (1, (.n (.a (.v 4) (.k 1)) (.v 3))), (1, (.n (.a (.v 0) (.k 1)) (.a (.v 2) (.v 4))))] 1 (.n (.a (.v 0) (.k 1)) (.v 1)) rfl hn hx2 (sub_c (lin [_, _, _] [] [(1, (.n (.a (.v 2) (.k 1)) (.v 1)))] 1 (.n (.k 1) (.a (.v 0) (.v 1))) rfl q1))) (by exact lin [_, _, _, _] [] [(1, (.n (.a (.v 0) (.v 3)) (.v 2))), (1, (.n (.a (.v 1) (.k 1)) (.v 3)))] 1 (.n (.a (.a (.v 0) (.v 1)) (.k 1)) (.v 2)) rfl hn hx2) ?_)
          dsimp only
          by_cases hlt2 : K (arrOf st3) (lo + x - 1) < K (arrOf st3) (lo + x)
          · simp only [hlt2, decide_true, if_true]
            exact wpS_pure ⟨hB3, x, neq, rfl, hx, q1, q2, q3⟩
          · simp only [hlt2, decide_false, Bool.false_eq_true, if_false]
            refine wpS_pure ⟨hB3, by exact hx2, neq + 1, rfl, by exact lin [_, _] [] [(1, (.n (.a (.v 0) (.k 1)) (.v 1)))] 1 (.n (.a (.a (.v 0) (.k 1)) (.k 1)) (.a (.v 1) (.k 1))) rfl q1, fun i j hi hij hj => ?_, fun k g1 g2 => ?_⟩
            · rcases Nat.lt_or_ge j (lo + x) with hj' | hj'
              · exact q2 i j hi hij hj'
              · obtain rfl : j = lo + x := by exact go_eq (lin [_, _, _] [] [(1, (.n (.a (.v 0) (.k 1)) (.a (.v 1) (.a (.v 2) (.k 1)))))] 1 (.n (.v 0) (.a (.v 1) (.v 2))) rfl hj) (hj')
                rcases Nat.lt_or_ge i (lo + x) with hi' | hi'
                · have := q2 i (lo + x - 1) hi (by exact lin [_, _, _, _] [] [(1, (.n (.a (.v 0) (.k 1)) (.a (.v 2) (.v 3)))), (1, (.n (.a (.v 2) (.v 3)) (.a (.v 1) (.k 1))))] 1 (.n (.v 0) (.v 1)) rfl hi' (sub_b _ _)) (by exact (sub_c (lin [_, _, _] [] [(1, (.n (.a (.v 2) (.k 1)) (.a (.v 0) (.v 1))))] 1 (.n (.k 1) (.a (.v 0) (.v 1))) rfl hi')))
                  exact lin [] [_, _, _] [(1, (.i (.v 0) (.v 2))), (1, (.i (.v 2) (.v 1)))] 1 (.i (.v 0) (.v 1)) rfl (not_lt_i hlt2) this
                · obtain rfl : i = lo + x := by exact go_eq (hij) (hi')
                  exact Int.le_refl _
            · rw [show lo + (x + 1) - 1 = lo + x by exact go_eq (lin [_, _, _] [] [(1, (.n (.a (.v 0) (.k 1)) (.a (.v 1) (.a (.v 2) (.k 1)))))] 1 (.n (.v 0) (.a (.v 1) (.v 2))) rfl (sub_c (lin [_, _, _] [] [(1, (.n (.a (.v 2) (.k 1)) (.a (.v 0) (.a (.v 1) (.k 1)))))] 1 (.n (.k 1) (.a (.v 0) (.a (.v 1) (.k 1)))) rfl g2))) (lin [_, _, _] [] [(1, (.n (.a (.v 0) (.a (.v 1) (.k 1))) (.a (.v 2) (.k 1))))] 1 (.n (.a (.v 0) (.v 1)) (.v 2)) rfl (sub_b _ _))]
              rcases Nat.lt_or_ge k (lo + x) with hk' | hk'
              · rw [q3 k (by exact lin [_, _, _, _, _, _] [] [(1, (.n (.v 2) (.v 1))), (1, (.n (.a (.v 3) (.a (.v 4) (.k 1))) (.a (.v 2) (.a (.a (.v 5) (.k 1)) (.k 1))))), (1, (.n (.a (.v 0) (.a (.v 5) (.k 1))) (.a (.v 3) (.v 4))))] 1 (.n (.v 0) (.v 1)) rfl g1 (sub_b _ _) (sub_c (lin [_, _, _, _] [] [(1, (.n (.a (.v 3) (.a (.a (.v 0) (.k 1)) (.k 1))) (.a (.v 1) (.a (.v 2) (.k 1)))))] 1 (.n (.a (.v 0) (.k 1)) (.a (.v 1) (.v 2))) rfl (sub_c (lin [_, _, _] [] [(1, (.n (.a (.v 0) (.k 1)) (.v 2)))] 1 (.n (.a (.a (.v 0) (.k 1)) (.k 1)) (.a (.v 1) (.a (.v 2) (.k 1)))) rfl q1))))) hk']; exact go_eqi ((not_lt_i hlt)) ((not_lt_i hlt2))
              · obtain rfl : k = lo + x := by exact go_eq (lin [_, _, _] [] [(1, (.n (.a (.v 0) (.k 1)) (.a (.v 1) (.a (.v 2) (.k 1)))))] 1 (.n (.v 0) (.a (.v 1) (.v 2))) rfl g2) (hk')
                rfl
      case p3 =>
        rintro c st3 ⟨hB3, m, neq, rfl, m1, q1, q2, q3⟩
        extract_lets -merge r4 _ n4 neq4 jp4
        have er : r4 = none := rfl
        have en : n4 = m := rfl
        have eq : neq4 = neq := rfl
        clear_value r4 n4 neq4
        subst er en eq
        have hjp4 : ∀ u st', SW a₀ lo st0 st' → Dsc (arrOf st') lo n4 → wpS (model prog w) A E s (jp4 u) Q st' := by
          intro u st6 hB6 hD6
          refine wpS_bind (wpS_rev hB6 (Nat.le_refl _) (by exact lin [_, _, _, _] [] [(1, (.n (.a (.v 0) (.v 3)) (.v 2))), (1, (.n (.v 1) (.v 3)))] 1 (.n (.a (.v 0) (.v 1)) (.v 2)) rfl hn m1) fun st7 hB7 hK7 => ?_)
          have hA7 : Asc (arrOf st7) lo n4 := fun i j hi hij hj => by
            rw [hK7, hK7, if_pos (by exact ⟨by exact hi, by exact lin [_, _, _, _] [] [(1, (.n (.v 0) (.v 3))), (1, (.n (.a (.v 3) (.k 1)) (.a (.v 1) (.v 2))))] 1 (.n (.a (.v 0) (.k 1)) (.a (.v 1) (.v 2))) rfl hij hj⟩), if_pos (by exact ⟨by exact lin [_, _, _] [] [(1, (.n (.v 0) (.v 2))), (1, (.n (.v 2) (.v 1)))] 1 (.n (.v 0) (.v 1)) rfl hi hij, by exact hj⟩)]
            exact hD6 _ _ (by exact lin [_, _, _, _, _] [] [(1, (.n (.a (.v 2) (.k 1)) (.a (.v 0) (.v 3)))), (1, (.n (.a (.v 0) (.a (.v 0) (.v 3))) (.a (.v 4) (.k 1)))), (1, (.n (.v 4) (.a (.v 1) (.v 2))))] 1 (.n (.v 0) (.v 1)) rfl hj (sub_b _ _) (sub_b _ _)) (by exact lin [_, _, _, _, _] [] [(1, (.n (.v 2) (.v 3))), (1, (.n (.v 4) (.a (.v 1) (.v 2)))), (1, (.n (.a (.v 0) (.v 3)) (.v 4)))] 1 (.n (.v 0) (.v 1)) rfl hij (sub_b _ _) (sub_c (lin [_, _, _, _] [] [(1, (.n (.a (.v 0) (.k 1)) (.a (.v 2) (.v 3)))), (1, (.n (.a (.v 2) (.a (.v 2) (.v 3))) (.a (.v 1) (.k 1))))] 1 (.n (.v 0) (.v 1)) rfl hj (sub_b _ _)))) (by exact lin [_, _, _, _, _] [] [(1, (.n (.v 1) (.v 3))), (1, (.n (.a (.v 4) (.k 1)) (.a (.v 1) (.a (.v 1) (.v 2))))), (1, (.n (.a (.v 0) (.v 3)) (.v 4)))] 1 (.n (.a (.v 0) (.k 1)) (.a (.v 1) (.v 2))) rfl hi (sub_c (lin [_, _, _] [] [(1, (.n (.a (.v 2) (.k 1)) (.v 1)))] 1 (.n (.k 1) (.a (.v 0) (.a (.v 0) (.v 1)))) rfl q1)) (sub_c (lin [_, _, _, _, _] [] [(1, (.n (.v 0) (.v 2))), (1, (.n (.a (.v 2) (.k 1)) (.a (.v 3) (.v 4)))), (1, (.n (.a (.v 3) (.a (.v 3) (.v 4))) (.a (.v 1) (.k 1))))] 1 (.n (.v 0) (.v 1)) rfl hij hj (sub_b _ _))))
          refine wpS_bind ?_
          refine wpS_mono (wpS_forRange (I := fun x c st' => st' = st7 ∧ c = (none, x) ∧ x ≤ nrem ∧ Asc (arrOf st7) lo x)
            (Q := fun c st' => st' = st7 ∧ ∃ m, c = (none, m) ∧ n4 ≤ m ∧ m ≤ nrem ∧ Asc (arrOf st7) lo m ∧ (m = nrem ∨ K (arrOf st7) (lo + m) < K (arrOf st7) (lo + m - 1))) ?s9 ?f9 ?i9) ?p9
          case i9 => exact ⟨rfl, rfl, by exact m1, by assumption⟩
          case f9 =>
            rintro c st' ⟨rfl, rfl, hx, hA⟩
            exact ⟨rfl, _, rfl, by exact (Nat.le_max_left _ _), hx, hA, .inl (by exact go_eq (hx) ((Nat.le_max_right _ _)))⟩
          case s9 =>
            rintro x c st' hx1 hx2 ⟨rfl, rfl, hx, hA⟩
            dsimp only
            refine wpS_bind (wpS_ltw ‹SW a₀ lo st0 st'› h0 (by exact lin [_, _, _, _] [] [(1, (.n (.a (.v 0) (.v 3)) (.v 2))), (1, (.n (.a (.v 1) (.k 1)) (.v 3)))] 1 (.n (.a (.a (.v 0) (.v 1)) (.k 1)) (.v 2)) rfl hn hx2) (by exact lin [_, _, _, _, _] [] [(1, (.n (.a (.v 2) (.v 3)) (.v 1))), (1, (.n (.a (.v 4) (.k 1)) (.v 3))), (1, (.n (.a (.v 0) (.k 1)) (.a (.v 2) (.v 4))))] 1 (.n (.a (.v 0) (.k 1)) (.v 1)) rfl hn hx2 (sub_c (lin [_, _, _, _] [] [(1, (.n (.a (.v 2) (.k 1)) (.v 3))), (1, (.n (.v 3) (.v 1)))] 1 (.n (.k 1) (.a (.v 0) (.v 1))) rfl q1 hx1))) ?_)
            dsimp only
            by_cases hlt : K (arrOf st') (lo + x) < K (arrOf st') (lo + x - 1)
            · simp only [hlt, decide_true, if_true]
              exact wpS_pure ⟨rfl, x, rfl, hx1, hx, hA, .inr hlt⟩
            · simp only [hlt, decide_false, Bool.false_eq_true, if_false]
              refine wpS_pure ⟨rfl, rfl, by exact hx2, fun i j hi hij hj => ?_⟩
              rcases Nat.lt_or_ge j (lo + x) with hj' | hj'
              · exact hA i j hi hij hj'
              · obtain rfl : j = lo + x := by exact go_eq (lin [_, _, _] [] [(1, (.n (.a (.v 0) (.k 1)) (.a (.v 1) (.a (.v 2) (.k 1)))))] 1 (.n (.v 0) (.a (.v 1) (.v 2))) rfl hj) (hj')
                rcases Nat.lt_or_ge i (lo + x) with hi' | hi'
                · have := hA i (lo + x - 1) hi (by exact lin [_, _, _, _] [] [(1, (.n (.a (.v 0) (.k 1)) (.a (.v 2) (.v 3)))), (1, (.n (.a (.v 2) (.v 3)) (.a (.v 1) (.k 1))))] 1 (.n (.v 0) (.v 1)) rfl hi' (sub_b _ _)) (by exact (sub_c (lin [_, _, _] [] [(1, (.n (.a (.v 2) (.k 1)) (.a (.v 0) (.v 1))))] 1 (.n (.k 1) (.a (.v 0) (.v 1))) rfl hi')))
                  exact lin [] [_, _, _] [(1, (.i (.v 2) (.v 1))), (1, (.i (.v 0) (.v 2)))] 1 (.i (.v 0) (.v 1)) rfl (not_lt_i hlt) this
                · obtain rfl : i = lo + x := by exact go_eq (hij) (hi')
                  exact Int.le_refl _
          case p9 =>
            rintro c st' ⟨rfl, m', rfl, g1, g2, g3, _⟩
            exact wpS_pure (h _ _ hB7 (by exact lin [_, _, _] [] [(1, (.n (.a (.v 1) (.k 1)) (.v 2))), (1, (.n (.v 2) (.v 0)))] 1 (.n (.k 1) (.v 0)) rfl q1 g1) g2 g3)
        clear_value jp4
        dsimp only
        by_cases hz : neq4 > 0
        · rw [if_pos hz]
          refine wpS_bind (wpS_rev hB3 (by exact lin [_, _, _, _] [] [(1, (.n (.a (.v 2) (.k 1)) (.v 3))), (1, (.n (.a (.v 0) (.v 3)) (.a (.v 1) (.a (.v 2) (.k 1)))))] 1 (.n (.v 0) (.v 1)) rfl q1 (sub_b _ _)) (by exact lin [_, _, _, _] [] [(1, (.n (.a (.v 0) (.v 3)) (.v 2))), (1, (.n (.v 1) (.v 3)))] 1 (.n (.a (.v 0) (.v 1)) (.v 2)) rfl hn m1) fun st5 hB5 hK5 => ?_)
          refine hjp4 _ _ hB5 fun i j hi hij hj => ?_
          have hK : ∀ k, K (arrOf st5) k = K (arrOf st3) k := by
            intro k
            rw [hK5]
            split
            · rw [q3 _ (by exact go_len (lin [_, _, _, _, _, _] [] [(1, (.n (.a (.v 2) (.k 1)) (.a (.v 3) (.v 4)))), (1, (.n (.a (.v 0) (.a (.v 3) (.v 4))) (.a (.v 5) (.k 1)))), (1, (.n (.v 5) (.a (.v 1) (.v 2))))] 1 (.n (.v 0) (.v 1)) rfl (‹lo + n4 - (neq4 + 1) ≤ k ∧ k < lo + n4›.2) (sub_b _ _) (sub_b _ _))) (by exact go_ltn (lin [_, _, _, _, _, _] [] [(1, (.n (.v 3) (.v 4))), (1, (.n (.a (.v 5) (.k 1)) (.a (.v 3) (.a (.v 1) (.v 2))))), (1, (.n (.a (.v 0) (.v 4)) (.v 5)))] 1 (.n (.a (.v 0) (.k 1)) (.a (.v 1) (.v 2))) rfl (‹lo + n4 - (neq4 + 1) ≤ k ∧ k < lo + n4›.1) (sub_c (lin [_, _, _, _] [] [(1, (.n (.a (.v 3) (.k 1)) (.a (.v 1) (.v 2))))] 1 (.n (.k 1) (.a (.v 0) (.a (.v 1) (.v 2)))) rfl (‹lo + n4 - (neq4 + 1) ≤ k ∧ k < lo + n4›.2))) (sub_c (lin [_, _, _, _, _] [] [(1, (.n (.a (.v 0) (.k 1)) (.a (.v 2) (.v 3)))), (1, (.n (.a (.v 4) (.a (.v 2) (.v 3))) (.a (.v 1) (.k 1))))] 1 (.n (.v 0) (.v 1)) rfl (‹lo + n4 - (neq4 + 1) ≤ k ∧ k < lo + n4›.2) (sub_b _ _))))), q3 k (by exact go_len ((‹lo + n4 - (neq4 + 1) ≤ k ∧ k < lo + n4›.1))) (by exact go_ltn ((‹lo + n4 - (neq4 + 1) ≤ k ∧ k < lo + n4›.2)))]
            · rfl
          rw [hK, hK]
          exact q2 i j hi hij hj
        · rw [if_neg hz]
          exact hjp4 _ _ hB3 q2
    clear_value jp
    by_cases c2 : n > 1
    · rw [if_pos c2]
      refine wpS_bind (wpS_ltw hB h0 (by exact lin [_, _, _] [] [(1, (.n (.a (.v 0) (.v 2)) (.v 1))), (1, (.n (.k 1) (.v 2)))] 1 (.n (.a (.v 0) (.k 1)) (.v 1)) rfl hn h1) (by exact lin [_, _, _, _, _] [] [(1, (.n (.a (.v 2) (.v 3)) (.v 1))), (1, (.n (.v 4) (.v 3))), (1, (.n (.a (.v 0) (.k 1)) (.a (.v 2) (.v 4))))] 1 (.n (.a (.v 0) (.k 1)) (.v 1)) rfl hn n2 (sub_c (lin [_, _] [] [(1, (.n (.k 1) (.v 1)))] 1 (.n (.k 1) (.a (.v 0) (.v 1))) rfl n1))) ?_)
      dsimp only
      by_cases hrose : K (arrOf st') lo < K (arrOf st') (lo + n - 1)
      · simp only [hrose, decide_true, if_true]
        exact wpS_pure (h _ _ hB n1 n2 hA)
      · simp only [hrose, decide_false, Bool.false_eq_true, if_false]
        refine wpS_bind (wpS_rev hB (Nat.le_refl _) (by exact lin [_, _, _, _] [] [(1, (.n (.a (.v 0) (.v 3)) (.v 2))), (1, (.n (.v 1) (.v 3)))] 1 (.n (.a (.v 0) (.v 1)) (.v 2)) rfl hn n2) fun st5 hB5 hK5 => ?_)
        refine hjp _ _ hB5 ?_
        have hall : ∀ k, lo ≤ k → k < lo + n → K (arrOf st') k = K (arrOf st') (lo + n - 1) := by
          intro k g1 g2
          have a1 := hA lo k (Nat.le_refl _) g1 g2
          have a2 := hA k (lo + n - 1) g1 (by exact lin [_, _, _, _] [] [(1, (.n (.a (.v 0) (.k 1)) (.a (.v 2) (.v 3)))), (1, (.n (.a (.v 2) (.v 3)) (.a (.v 1) (.k 1))))] 1 (.n (.v 0) (.v 1)) rfl g2 (sub_b _ _)) (by exact (sub_c (lin [_, _, _] [] [(1, (.n (.a (.v 2) (.k 1)) (.a (.v 0) (.v 1))))] 1 (.n (.k 1) (.a (.v 0) (.v 1))) rfl g2)))
          exact go_eqi (a2) (lin [] [_, _, _] [(1, (.i (.v 0) (.v 2))), (1, (.i (.v 2) (.v 1)))] 1 (.i (.v 0) (.v 1)) rfl (not_lt_i hrose) a1)
        have hK : ∀ k, K (arrOf st5) k = K (arrOf st') k := by
          intro k
          rw [hK5]
          split
          · rw [hall _ (by exact go_len (lin [_, _, _, _, _] [] [(1, (.n (.a (.v 2) (.k 1)) (.a (.v 0) (.v 3)))), (1, (.n (.a (.v 0) (.a (.v 0) (.v 3))) (.a (.v 4) (.k 1)))), (1, (.n (.v 4) (.a (.v 1) (.v 2))))] 1 (.n (.v 0) (.v 1)) rfl (‹lo ≤ k ∧ k < lo + n›.2) (sub_b _ _) (sub_b _ _))) (by exact go_ltn (lin [_, _, _, _, _] [] [(1, (.n (.v 1) (.v 3))), (1, (.n (.a (.v 4) (.k 1)) (.a (.v 1) (.a (.v 1) (.v 2))))), (1, (.n (.a (.v 0) (.v 3)) (.v 4)))] 1 (.n (.a (.v 0) (.k 1)) (.a (.v 1) (.v 2))) rfl (‹lo ≤ k ∧ k < lo + n›.1) (sub_c (lin [_, _] [] [(1, (.n (.k 1) (.v 1)))] 1 (.n (.k 1) (.a (.v 0) (.a (.v 0) (.v 1)))) rfl n1)) (sub_c (lin [_, _, _, _] [] [(1, (.n (.a (.v 0) (.k 1)) (.a (.v 2) (.v 3)))), (1, (.n (.a (.v 2) (.a (.v 2) (.v 3))) (.a (.v 1) (.k 1))))] 1 (.n (.v 0) (.v 1)) rfl (‹lo ≤ k ∧ k < lo + n›.2) (sub_b _ _))))), hall k (by exact go_len ((‹lo ≤ k ∧ k < lo + n›.1))) (by exact go_ltn ((‹lo ≤ k ∧ k < lo + n›.2)))]
          · rfl
        intro i j hi hij hj
        rw [hK, hK]
        rcases Nat.lt_or_ge j (lo + n) with hj' | hj'
        · rw [hall i hi (by exact lin [_, _, _, _] [] [(1, (.n (.v 0) (.v 3))), (1, (.n (.a (.v 3) (.k 1)) (.a (.v 1) (.v 2))))] 1 (.n (.a (.v 0) (.k 1)) (.a (.v 1) (.v 2))) rfl hij hj'), hall j (by exact lin [_, _, _] [] [(1, (.n (.v 0) (.v 2))), (1, (.n (.v 2) (.v 1)))] 1 (.n (.v 0) (.v 1)) rfl hi hij) hj']; exact Int.le_refl _
        · obtain rfl : j = lo + n := by exact go_eq (lin [_, _, _, _] [] [(1, (.n (.v 3) (.a (.v 2) (.k 1)))), (1, (.n (.a (.v 0) (.k 1)) (.a (.v 1) (.v 3))))] 1 (.n (.v 0) (.a (.v 1) (.v 2))) rfl (eq_a eX) hj) (hj')
          rcases Nat.lt_or_ge i (lo + n) with hi' | hi'
          · rw [hall i hi hi']; exact lin [] [_, _] [(1, (.i (.a (.v 0) (.k 1)) (.v 1)))] 1 (.i (.v 0) (.v 1)) rfl (lt_i hlt)
          · obtain rfl : i = lo + n := by exact go_eq (hij) (hi')
            exact Int.le_refl _
    · rw [if_neg c2]
      obtain rfl : n = 1 := by exact go_eq ((not_lt_n c2)) (n1)
      refine hjp _ _ hB fun i j hi hij hj => ?_
      rcases Nat.lt_or_ge i j with hi' | hi'
      · obtain rfl : i = lo := by exact go_eq (lin [_, _, _, _] [] [(1, (.n (.v 2) (.a (.k 1) (.k 1)))), (1, (.n (.a (.v 3) (.k 1)) (.a (.v 1) (.v 2)))), (1, (.n (.a (.v 0) (.k 1)) (.v 3)))] 1 (.n (.v 0) (.v 1)) rfl (eq_a eX) hj hi') (hi)
        obtain rfl : j = i + 1 := by exact go_eq (lin [_, _, _] [] [(1, (.n (.v 2) (.a (.k 1) (.k 1)))), (1, (.n (.a (.v 0) (.k 1)) (.a (.v 1) (.v 2))))] 1 (.n (.v 0) (.a (.v 1) (.k 1))) rfl (eq_a eX) hj) (hi')
        rw [Nat.add_sub_cancel] at hlt
        exact lin [] [_, _] [(1, (.i (.a (.v 0) (.k 1)) (.v 1)))] 1 (.i (.v 0) (.v 1)) rfl (lt_i hlt)
      · obtain rfl : i = j := by exact go_eq (hij) (hi')
        exact Int.le_refl _
end
end
section
section
variable {prog : Program} {w : World} {A : Around} {E : Value → Shared → Prop} {s : Shared} {a₀ : Array Keyed} {lo : Nat} {st0 : SortSt}
theorem wpS_binw {st : SortSt} {n ok : Nat} {Q : Bool → SortSt → Prop} (h0 : IntKeys a₀) (hn : lo + n ≤ a₀.size) (hok : ok ≤ n) (hB : SW a₀ lo st0 st) (hs : Asc (arrOf st) lo ok)
    (h : ∀ st', SW a₀ lo st0 st' → Asc (arrOf st') lo n → Q true st') : wpS (model prog w) A E s (binarySort' lo n ok) Q st := by
  with_unfolding_all refine wpS_bind ?_
  refine wpS_mono (wpS_forRange (I := fun k c st' => c = (none, ()) ∧ SW a₀ lo st0 st' ∧ Asc (arrOf st') lo (min k n)) (Q := fun c st' => c = (none, ()) ∧ SW a₀ lo st0 st' ∧ Asc (arrOf st') lo n) ?s1 ?f1 ?i1) ?p1
  case p1 =>
    rintro c st' ⟨rfl, hB', hA⟩
    exact wpS_pure (h _ hB' hA)
  case i1 =>
    refine ⟨rfl, hB, fun i j hi hij hj => ?_⟩
    rcases Nat.lt_or_ge j (lo + ok) with hj' | hj'
    · exact hs i j hi hij hj'
    · obtain rfl : i = j := by omega
      exact Int.le_refl _
  case f1 =>
    rintro c st' ⟨hc, hB', hA⟩
    rw [show min (max (max ok 1) n) n = n by exact go_eq ((Nat.min_le_right _ _)) ((min_d ((Nat.le_max_right _ _))))] at hA
    exact ⟨hc, hB', hA⟩
  case s1 =>
    rintro k c st' hk1 hk2 ⟨rfl, hB', hA⟩
    rw [show min k n = k by exact go_eq ((Nat.min_le_left _ _)) ((min_c (lin [_, _] [] [(1, (.n (.a (.v 0) (.k 1)) (.v 1)))] 1 (.n (.v 0) (.v 1)) rfl hk2)))] at hA
    dsimp only
    refine wpS_bind (wpS_mono (wpS_forRange (I := fun x c st'' => st'' = st' ∧ ∃ l r, c = (none, l, r) ∧ l ≤ r ∧ r ≤ k ∧ r - l ≤ k - x ∧
        (∀ i, i < l → K (arrOf st') (lo + i) ≤ K (arrOf st') (lo + k)) ∧ (∀ i, r ≤ i → i < k → K (arrOf st') (lo + k) ≤ K (arrOf st') (lo + i)))
      (Q := fun c st'' => st'' = st' ∧ ∃ l r, c = (none, l, r) ∧ l ≤ k ∧
        (∀ i, i < l → K (arrOf st') (lo + i) ≤ K (arrOf st') (lo + k)) ∧ (∀ i, l ≤ i → i < k → K (arrOf st') (lo + k) ≤ K (arrOf st') (lo + i))) ?s2 ?f2 ?i2) ?p2)
    case i2 => exact ⟨rfl, 0, k, rfl, by exact Nat.zero_le _, by exact Nat.le_refl _, by exact Nat.le_refl _, fun i hi => by omega, fun i h1 h2 => by omega⟩
    case f2 =>
      rintro c st'' ⟨rfl, l, r, rfl, hlr, hrk, hm, hlo, hhi⟩
      obtain rfl : l = r := by exact go_eq (hlr) (lin [_, _, _, _, _, _] [] [(1, (.n (.v 2) (.v 3))), (1, (.n (.v 4) (.v 5))), (1, (.n (.a (.v 3) (.v 5)) (.v 4))), (1, (.n (.v 0) (.a (.v 2) (.v 1))))] 1 (.n (.v 0) (.v 1)) rfl hm (Nat.le_max_right _ _) (sub_c ((max_d (Nat.zero_le _)))) (sub_b _ _))
      exact ⟨rfl, l, l, rfl, hrk, hlo, hhi⟩
    case s2 =>
      rintro x c st'' _ hxk ⟨rfl, l, r, rfl, hlr, hrk, hm, hlo, hhi⟩
      dsimp only
      by_cases hge : l ≥ r
      · rw [if_pos hge]
        obtain rfl : l = r := by exact go_eq (hlr) (hge)
        exact wpS_pure ⟨rfl, l, l, rfl, hrk, hlo, hhi⟩
      · rw [if_neg hge]
        refine wpS_bind (wpS_ltw hB' h0 (by exact lin [_, _, _, _] [] [(1, (.n (.a (.v 0) (.v 3)) (.v 2))), (1, (.n (.a (.v 1) (.k 1)) (.v 3)))] 1 (.n (.a (.a (.v 0) (.v 1)) (.k 1)) (.v 2)) rfl hn hk2) (by exact lin [_, _, _, _, _, _, _] [] [(2, (.n (.a (.v 0) (.v 3)) (.v 2))), (2, (.n (.a (.v 4) (.k 1)) (.v 3))), (1, (.n (.v 5) (.v 6))), (2, (.n (.v 6) (.v 4))), (1, (.n (.m 2 (.v 1)) (.a (.v 5) (.v 6))))] 2 (.n (.a (.a (.v 0) (.v 1)) (.k 1)) (.v 2)) rfl hn hk2 hlr hrk (div_a _ _)) ?_)
        dsimp only
        by_cases hless : K (arrOf st'') (lo + k) < K (arrOf st'') (lo + (l + r) / 2)
        · simp only [hless, decide_true, if_true]
          refine wpS_pure ⟨rfl, l, (l + r) / 2, rfl, by exact lin [_, _, _] [] [(1, (.n (.v 0) (.v 2))), (1, (.n (.a (.a (.v 0) (.v 2)) (.k 1)) (.a (.m 2 (.v 1)) (.k 2))))] 2 (.n (.v 0) (.v 1)) rfl hlr (div_b _ 2 (Nat.le_of_ble_eq_true rfl)), by exact lin [_, _, _, _] [] [(1, (.n (.v 2) (.v 3))), (2, (.n (.v 3) (.v 1))), (1, (.n (.m 2 (.v 0)) (.a (.v 2) (.v 3))))] 2 (.n (.v 0) (.v 1)) rfl hlr hrk (div_a _ _), by exact lin [_, _, _, _, _, _, _, _, _] [] [(1, (.n (.v 2) (.v 3))), (1, (.n (.m 2 (.v 4)) (.a (.v 5) (.v 6)))), (1, (.n (.a (.v 3) (.v 7)) (.v 8))), (1, (.n (.v 6) (.a (.v 2) (.v 5)))), (1, (.n (.v 8) (.a (.v 1) (.a (.v 7) (.k 1))))), (2, (.n (.a (.v 0) (.v 5)) (.v 4)))] 2 (.n (.v 0) (.v 1)) rfl hm (div_a _ _) (sub_c (lin [_, _] [] [(1, (.n (.a (.v 0) (.k 1)) (.v 1)))] 1 (.n (.v 0) (.v 1)) rfl hxk)) (sub_b _ _) (sub_b _ _) (sub_c (lin [_, _, _] [] [(1, (.n (.v 0) (.v 2))), (1, (.n (.a (.a (.v 0) (.v 2)) (.k 1)) (.a (.m 2 (.v 1)) (.k 2))))] 2 (.n (.v 0) (.v 1)) rfl hlr (div_b _ 2 (Nat.le_of_ble_eq_true rfl)))), hlo, fun i h1 h2 => ?_⟩
          exact Int.le_trans (Int.le_of_lt hless) (hA _ _ (by exact lin [_, _] [] [] 1 (.n (.v 0) (.a (.v 0) (.v 1))) rfl) (by exact lin [_, _, _] [] [(1, (.n (.v 1) (.v 2)))] 1 (.n (.a (.v 0) (.v 1)) (.a (.v 0) (.v 2))) rfl h1) (by exact lin [_, _, _] [] [(1, (.n (.a (.v 1) (.k 1)) (.v 2)))] 1 (.n (.a (.a (.v 0) (.v 1)) (.k 1)) (.a (.v 0) (.v 2))) rfl h2))
        · simp only [hless, decide_false, Bool.false_eq_true, if_false]
          refine wpS_pure ⟨rfl, (l + r) / 2 + 1, r, rfl, by exact lin [_, _, _] [] [(1, (.n (.a (.v 2) (.k 1)) (.v 1))), (1, (.n (.m 2 (.v 0)) (.a (.v 2) (.v 1))))] 2 (.n (.a (.v 0) (.k 1)) (.v 1)) rfl (not_le_n hge) (div_a _ _), by exact hrk, by exact lin [_, _, _, _, _, _, _, _, _] [] [(1, (.n (.v 2) (.v 3))), (1, (.n (.a (.a (.v 4) (.v 5)) (.k 1)) (.a (.m 2 (.v 6)) (.k 2)))), (1, (.n (.a (.v 3) (.v 7)) (.v 8))), (1, (.n (.v 5) (.a (.v 2) (.v 4)))), (1, (.n (.v 8) (.a (.v 1) (.a (.v 7) (.k 1))))), (2, (.n (.a (.v 0) (.a (.v 6) (.k 1))) (.v 5)))] 2 (.n (.v 0) (.v 1)) rfl hm (div_b _ 2 (Nat.le_of_ble_eq_true rfl)) (sub_c (lin [_, _] [] [(1, (.n (.a (.v 0) (.k 1)) (.v 1)))] 1 (.n (.v 0) (.v 1)) rfl hxk)) (sub_b _ _) (sub_b _ _) (sub_c (lin [_, _, _] [] [(1, (.n (.a (.v 2) (.k 1)) (.v 1))), (1, (.n (.m 2 (.v 0)) (.a (.v 2) (.v 1))))] 2 (.n (.a (.v 0) (.k 1)) (.v 1)) rfl (not_le_n hge) (div_a _ _))), fun i h1 => ?_, hhi⟩
          exact Int.le_trans (hA (lo + i) (lo + (l + r) / 2) (by exact lin [_, _] [] [] 1 (.n (.v 0) (.a (.v 0) (.v 1))) rfl) (by exact lin [_, _, _] [] [(1, (.n (.a (.v 1) (.k 1)) (.a (.v 2) (.k 1))))] 1 (.n (.a (.v 0) (.v 1)) (.a (.v 0) (.v 2))) rfl h1) (by exact lin [_, _, _, _, _] [] [(2, (.n (.v 3) (.v 2))), (1, (.n (.a (.v 4) (.k 1)) (.v 3))), (1, (.n (.m 2 (.v 1)) (.a (.v 4) (.v 3))))] 2 (.n (.a (.a (.v 0) (.v 1)) (.k 1)) (.a (.v 0) (.v 2))) rfl hrk (not_le_n hge) (div_a _ _))) (Int.not_lt.mp hless)
    case p2 =>
      rintro c st'' ⟨rfl, l, r, rfl, hlk, hlo, hhi⟩
      dsimp only
      have hks : lo + k < (arrOf st'').size := by rw [hB'.size]; exact lin [_, _, _, _] [] [(1, (.n (.a (.v 0) (.v 3)) (.v 2))), (1, (.n (.a (.v 1) (.k 1)) (.v 3)))] 1 (.n (.a (.a (.v 0) (.v 1)) (.k 1)) (.v 2)) rfl hn hk2
      refine wpS_bind ?_
      show wpS _ _ _ _ (moveDown' (lo + k) (lo + l)) _ _
      rw [moveDown'_eq]
      have hbb : ∀ x, K (bubble (arrOf st'') (lo + k) (lo + k - (lo + l))) x = if x = lo + l then K (arrOf st'') (lo + k) else if lo + l < x ∧ x ≤ lo + k then K (arrOf st'') (x - 1) else K (arrOf st'') x := by
        intro x
        rw [K_bubble hks (by exact lin [_, _, _, _] [] [(1, (.n (.a (.v 0) (.a (.v 1) (.v 3))) (.a (.v 1) (.v 2))))] 1 (.n (.v 0) (.a (.v 1) (.v 2))) rfl (sub_c (lin [_, _, _] [] [(1, (.n (.v 1) (.v 2)))] 1 (.n (.a (.v 0) (.v 1)) (.a (.v 0) (.v 2))) rfl hlk))), show lo + k - (lo + k - (lo + l)) = lo + l by exact go_eq (lin [_, _, _, _, _] [] [(1, (.n (.a (.v 1) (.v 3)) (.a (.v 4) (.a (.v 1) (.v 2))))), (1, (.n (.a (.v 0) (.v 4)) (.a (.v 1) (.v 3))))] 1 (.n (.v 0) (.a (.v 1) (.v 2))) rfl (sub_b _ _) (sub_c (lin [_, _, _, _] [] [(1, (.n (.a (.v 0) (.a (.v 1) (.v 3))) (.a (.v 1) (.v 2))))] 1 (.n (.v 0) (.a (.v 1) (.v 2))) rfl (sub_c (lin [_, _, _] [] [(1, (.n (.v 1) (.v 2)))] 1 (.n (.a (.v 0) (.v 1)) (.a (.v 0) (.v 2))) rfl hlk))))) (lin [_, _, _, _, _] [] [(1, (.n (.a (.v 3) (.a (.v 0) (.v 1))) (.a (.v 0) (.v 4)))), (1, (.n (.a (.v 0) (.v 4)) (.a (.v 2) (.v 3))))] 1 (.n (.a (.v 0) (.v 1)) (.v 2)) rfl (sub_c (lin [_, _, _] [] [(1, (.n (.v 1) (.v 2)))] 1 (.n (.a (.v 0) (.v 1)) (.a (.v 0) (.v 2))) rfl hlk)) (sub_b _ _))]
      refine wpS_modify (wpS_pure ⟨rfl, hB'.set (bubble_perm _ _ _) fun i hi => ?_, ?_⟩)
      · rw [hbb, if_neg (by exact go_nea (lin [_, _, _] [] [(1, (.n (.a (.v 0) (.k 1)) (.v 1)))] 1 (.n (.a (.v 0) (.k 1)) (.a (.v 1) (.v 2))) rfl hi)), if_neg (by omega)]
      · rw [show min (k + 1) n = k + 1 by exact go_eq ((Nat.min_le_left _ _)) ((min_c (hk2)))]
        intro i j hi hij hj
        show K (bubble (arrOf st'') _ _) i ≤ K (bubble (arrOf st'') _ _) j
        have hlo' : ∀ x, lo ≤ x → x < lo + l → K (arrOf st'') x ≤ K (arrOf st'') (lo + k) := fun x h1 h2 => by
          have := hlo (x - lo) (by exact lin [_, _, _, _] [] [(1, (.n (.a (.v 2) (.k 1)) (.a (.v 3) (.v 1)))), (1, (.n (.a (.v 0) (.v 3)) (.v 2)))] 1 (.n (.a (.v 0) (.k 1)) (.v 1)) rfl h2 (sub_c (h1))); rwa [show lo + (x - lo) = x by exact go_eq (lin [_, _, _] [] [(1, (.n (.a (.v 1) (.v 0)) (.v 2)))] 1 (.n (.a (.v 0) (.v 1)) (.v 2)) rfl (sub_c (h1))) (lin [_, _, _] [] [(1, (.n (.v 0) (.a (.v 2) (.v 1))))] 1 (.n (.v 0) (.a (.v 1) (.v 2))) rfl (sub_b _ _))] at this
        have hhi' : ∀ x, lo + l ≤ x → x < lo + k → K (arrOf st'') (lo + k) ≤ K (arrOf st'') x := fun x h1 h2 => by
          have := hhi (x - lo) (by exact lin [_, _, _, _] [] [(1, (.n (.a (.v 2) (.v 0)) (.v 3))), (1, (.n (.v 3) (.a (.v 1) (.v 2))))] 1 (.n (.v 0) (.v 1)) rfl h1 (sub_b _ _)) (by exact lin [_, _, _, _] [] [(1, (.n (.a (.v 2) (.k 1)) (.a (.v 3) (.v 1)))), (1, (.n (.a (.v 0) (.v 3)) (.v 2)))] 1 (.n (.a (.v 0) (.k 1)) (.v 1)) rfl h2 (sub_c (lin [_, _, _] [] [(1, (.n (.a (.v 0) (.v 2)) (.v 1)))] 1 (.n (.v 0) (.v 1)) rfl h1))); rwa [show lo + (x - lo) = x by exact go_eq (lin [_, _, _] [] [(1, (.n (.a (.v 1) (.v 0)) (.v 2)))] 1 (.n (.a (.v 0) (.v 1)) (.v 2)) rfl (sub_c (lin [_, _, _] [] [(1, (.n (.a (.v 0) (.v 2)) (.v 1)))] 1 (.n (.v 0) (.v 1)) rfl h1))) (lin [_, _, _] [] [(1, (.n (.v 0) (.a (.v 2) (.v 1))))] 1 (.n (.v 0) (.a (.v 1) (.v 2))) rfl (sub_b _ _))] at this
        rw [hbb, hbb]
        repeat' split
        all_goals first
          | (exfalso; omega)
          | exact Int.le_refl _
          | exact hlo' _ (by (first | exact Nat.le_refl _ | exact hi | omega)) (by omega)
          | exact hhi' _ (by (first | exact go_len (lin [_, _, _, _] [] [(1, (.n (.a (.a (.v 0) (.v 1)) (.k 1)) (.v 3))), (1, (.n (.v 3) (.a (.v 2) (.k 1))))] 1 (.n (.a (.v 0) (.v 1)) (.v 2)) rfl (‹lo + l < j ∧ j ≤ lo + k›.1) (sub_b _ _)) | omega)) (by exact go_ltn (lin [_, _, _, _] [] [(1, (.n (.a (.v 3) (.k 1)) (.a (.v 1) (.a (.v 2) (.k 1))))), (1, (.n (.a (.v 0) (.k 1)) (.v 3)))] 1 (.n (.a (.v 0) (.k 1)) (.a (.v 1) (.v 2))) rfl hj (sub_c (lin [_, _, _] [] [(1, (.n (.a (.a (.v 1) (.v 2)) (.k 1)) (.v 0)))] 1 (.n (.k 1) (.v 0)) rfl (‹lo + l < j ∧ j ≤ lo + k›.1)))))
          | exact hA _ _ (by (first | exact hi | exact go_len (lin [_, _, _, _] [] [(1, (.n (.a (.a (.v 0) (.v 2)) (.k 1)) (.v 3))), (1, (.n (.v 3) (.a (.v 1) (.k 1))))] 1 (.n (.v 0) (.v 1)) rfl (‹lo + l < i ∧ i ≤ lo + k›.1) (sub_b _ _)))) (by (first | exact hij | (first | exact go_len (lin [_, _, _, _] [] [(1, (.n (.v 2) (.v 3))), (1, (.n (.v 3) (.a (.v 1) (.k 1)))), (1, (.n (.a (.v 0) (.k 1)) (.v 2)))] 1 (.n (.v 0) (.v 1)) rfl hij (sub_b _ _) (sub_c (lin [_, _, _] [] [(1, (.n (.a (.a (.v 1) (.v 2)) (.k 1)) (.v 0)))] 1 (.n (.k 1) (.v 0)) rfl (‹lo + l < i ∧ i ≤ lo + k›.1)))) | omega))) (by (first | exact go_ltn (lin [_, _, _, _] [] [(1, (.n (.a (.v 3) (.k 1)) (.a (.v 1) (.a (.v 2) (.k 1))))), (1, (.n (.a (.v 0) (.k 1)) (.v 3)))] 1 (.n (.a (.v 0) (.k 1)) (.a (.v 1) (.v 2))) rfl hj (sub_c (lin [_, _, _] [] [(1, (.n (.a (.a (.v 1) (.v 2)) (.k 1)) (.v 0)))] 1 (.n (.k 1) (.v 0)) rfl (‹lo + l < j ∧ j ≤ lo + k›.1)))) | omega))
end
end
section
theorem lay_fold {α : Type} (sa : Nat) : ∀ (ms : List α) (k : Nat) (xs : Array α), sa + k + ms.length ≤ xs.size →
    ((ms.zipIdx k).foldl (fun a (p : α × Nat) => a.setIfInBounds (sa + p.2) p.1) xs).toList = xs.toList.take (sa + k) ++ ms ++ xs.toList.drop (sa + k + ms.length)
  | [], k, xs, _ => by simp
  | m :: ms, k, xs, h => by
    rw [List.length_cons] at h
    rw [List.zipIdx_cons, List.foldl_cons, lay_fold sa ms (k + 1) _ (by rw [Array.size_setIfInBounds]; exact lin [_, _, _, _] [] [(1, (.n (.a (.a (.v 0) (.v 1)) (.a (.v 2) (.k 1))) (.v 3)))] 1 (.n (.a (.a (.v 0) (.a (.v 1) (.k 1))) (.v 2)) (.v 3)) rfl h), Array.toList_setIfInBounds]
    have hk : sa + k < xs.toList.length := by simp; exact lin [_, _, _, _] [] [(1, (.n (.a (.a (.v 0) (.v 1)) (.a (.v 3) (.k 1))) (.v 2)))] 1 (.n (.a (.a (.v 0) (.v 1)) (.k 1)) (.v 2)) rfl h
    rw [show sa + (k + 1) = sa + k + 1 by exact go_eq (lin [_, _] [] [] 1 (.n (.a (.v 0) (.a (.v 1) (.k 1))) (.a (.a (.v 0) (.v 1)) (.k 1))) rfl) (lin [_, _] [] [] 1 (.n (.a (.a (.v 0) (.v 1)) (.k 1)) (.a (.v 0) (.a (.v 1) (.k 1)))) rfl), List.length_cons]
    rw [List.drop_set_of_lt (by exact lin [_, _, _] [] [] 1 (.n (.a (.a (.v 0) (.v 1)) (.k 1)) (.a (.a (.a (.v 0) (.v 1)) (.k 1)) (.v 2))) rfl), show sa + k + 1 + ms.length = sa + k + (ms.length + 1) by exact go_eq (lin [_, _, _] [] [] 1 (.n (.a (.a (.a (.v 0) (.v 1)) (.k 1)) (.v 2)) (.a (.a (.v 0) (.v 1)) (.a (.v 2) (.k 1)))) rfl) (lin [_, _, _] [] [] 1 (.n (.a (.a (.v 0) (.v 1)) (.a (.v 2) (.k 1))) (.a (.a (.a (.v 0) (.v 1)) (.k 1)) (.v 2))) rfl)]
    congr 1
    rw [List.take_set, List.take_succ_eq_append_getElem hk, List.set_append_right _ _ (by simp; exact (Nat.min_le_left _ _))]
    have e0 : sa + k - (xs.toList.take (sa + k)).length = 0 := by rw [List.length_take]; exact go_eq (lin [_, _, _, _] [] [(1, (.n (.a (.v 1) (.v 2)) (.v 3))), (1, (.n (.a (.v 0) (.v 3)) (.a (.v 1) (.v 2))))] 1 (.n (.v 0) (.k 0)) rfl (min_c (lin [_, _, _] [] [(1, (.n (.a (.a (.v 0) (.v 1)) (.k 1)) (.v 2)))] 1 (.n (.a (.v 0) (.v 1)) (.v 2)) rfl hk)) (sub_c ((Nat.min_le_left _ _)))) (Nat.zero_le _)
    rw [e0]
    simp
theorem asc_join {xs : Array Keyed} {n1 n2 : Nat} (h1 : Asc xs 0 n1) (h2 : Asc xs n1 n2) (h : 0 < n1 → 0 < n2 → K xs (n1 - 1) ≤ K xs n1) : SortedTo xs (n1 + n2) := by
  intro i j hij hj
  rcases Nat.lt_or_ge j n1 with a | a
  · exact h1 i j (Nat.zero_le _) hij (by exact lin [_, _] [] [(1, (.n (.a (.v 0) (.k 1)) (.v 1)))] 1 (.n (.a (.v 0) (.k 1)) (.a (.k 0) (.v 1))) rfl a)
  · rcases Nat.lt_or_ge i n1 with b | b
    · have c1 := h1 i (n1 - 1) (Nat.zero_le _) (by exact lin [_, _, _] [] [(1, (.n (.a (.v 0) (.k 1)) (.v 2))), (1, (.n (.v 2) (.a (.v 1) (.k 1))))] 1 (.n (.v 0) (.v 1)) rfl b (sub_b _ _)) (by exact lin [_, _] [] [(1, (.n (.a (.v 0) (.k 1)) (.v 1)))] 1 (.n (.a (.v 0) (.k 1)) (.a (.k 0) (.v 1))) rfl (sub_c (lin [_, _] [] [(1, (.n (.a (.v 1) (.k 1)) (.v 0)))] 1 (.n (.k 1) (.v 0)) rfl b)))
      have c2 := h2 n1 j (Nat.le_refl _) a hj
      have c3 := h (by exact lin [_, _] [] [(1, (.n (.a (.v 1) (.k 1)) (.v 0)))] 1 (.n (.a (.k 0) (.k 1)) (.v 0)) rfl b) (by exact lin [_, _, _] [] [(1, (.n (.a (.v 1) (.k 1)) (.a (.v 2) (.v 0)))), (1, (.n (.v 2) (.v 1)))] 1 (.n (.a (.k 0) (.k 1)) (.v 0)) rfl hj a)
      exact lin [] [_, _, _, _] [(1, (.i (.v 0) (.v 2))), (1, (.i (.v 3) (.v 1))), (1, (.i (.v 2) (.v 3)))] 1 (.i (.v 0) (.v 1)) rfl c1 c2 c3
    · exact h2 i j b hij hj
theorem asc_cut {xs : Array Keyed} {lo m : Nat} (h : Asc xs lo m) : ((xs.toList.drop lo).take m).Pairwise kle := by
  rw [List.pairwise_iff_getElem]
  intro i j hi hj hij
  rw [List.length_take, List.length_drop] at hi hj
  have e1 : lo + i < xs.size := by simp at hi; omega
  have e2 : lo + j < xs.size := by simp at hj; exact lin [_, _, _, _, _] [] [(1, (.n (.a (.v 1) (.k 1)) (.v 3))), (1, (.n (.a (.v 4) (.v 0)) (.v 2))), (1, (.n (.v 3) (.v 4)))] 1 (.n (.a (.a (.v 0) (.v 1)) (.k 1)) (.v 2)) rfl hj (sub_c (lin [_, _, _] [] [(1, (.n (.a (.a (.v 0) (.v 2)) (.k 1)) (.v 1)))] 1 (.n (.v 0) (.v 1)) rfl e1)) (Nat.min_le_right _ _)
  have := h (lo + i) (lo + j) (by exact lin [_, _] [] [] 1 (.n (.v 0) (.a (.v 0) (.v 1))) rfl) (by exact lin [_, _, _] [] [(1, (.n (.a (.v 1) (.k 1)) (.v 2)))] 1 (.n (.a (.v 0) (.v 1)) (.a (.v 0) (.v 2))) rfl hij) (by exact lin [_, _, _, _] [] [(1, (.n (.a (.v 1) (.k 1)) (.v 3))), (1, (.n (.v 3) (.v 2)))] 1 (.n (.a (.a (.v 0) (.v 1)) (.k 1)) (.a (.v 0) (.v 2))) rfl hj (Nat.min_le_left _ _))
  rw [K_list e1, K_list e2] at this
  simpa [kle] using this
theorem extL {xs : Array Keyed} {i j : Nat} : (xs.extract i j).toList = (xs.toList.drop i).take (j - i) := by
  rw [Array.toList_extract, List.extract_eq_take_drop]
theorem kn_ext {xs : Array Keyed} {i j m : Nat} (h : m < (xs.extract i j).size) : kn (xs.extract i j)[m] = K xs (i + m) := by
  have : i + m < xs.size := by rw [Array.size_extract] at h; omega
  rw [Array.getElem_extract, K_eq this]; rfl
theorem IntKeys.isI {a₀ xs : Array Keyed} (h0 : IntKeys a₀) (hp : xs.Perm a₀) {x : Keyed} (hx : x ∈ xs.toList) : IsI x :=
  h0 _ ((Array.perm_iff_toList_perm.mp hp).mem_iff.mp hx)
theorem pend_two (n1 n2 pw z : Nat) : (((#[(0, n1, pw), (n1, n2, z)] : Array (Nat × Nat × Nat)).setIfInBounds 0 (0, n1 + n2, pw)).eraseIdxIfInBounds (0 + 1)) = #[(0, n1 + n2, pw)] := by
  simp [Array.eraseIdxIfInBounds]
section
variable {prog : Program} {w : World} {A : Around} {E : Value → Shared → Prop} {s : Shared} {a₀ : Array Keyed} {lo : Nat} {st0 : SortSt}
theorem wpS_set {σ : Type} {M : Model} {x : σ} {Q : PUnit → σ → Prop} {st : σ} (h : Q ⟨⟩ x) : wpS M A E s (set x : StateT σ Sem PUnit) Q st := by
  unfold wpS; rw [StateT.run_set]; exact wpAny_pure ⟨rfl, h⟩
theorem wpS_gen {α : Type} {m : StateT SortSt Sem α} {Q : α → SortSt → Prop} {st : SortSt} (h : ∀ st2 : SortSt, kindOf st2 = kindOf st → arrOf st2 = arrOf st → pendingOf st2 = pendingOf st → failedOf st2 = failedOf st → wpS (model prog w) A E s m Q st2) : wpS (model prog w) A E s m Q st := h st rfl rfl rfl rfl
theorem wpS_mergeAt {st : SortSt} {n1 n2 pw : Nat} {Q : Bool → SortSt → Prop} (h0 : IntKeys a₀) (hp : (arrOf st).Perm a₀) (hk : kindOf st = oneType') (hf : failedOf st = none) (hpd : pendingOf st = #[(0, n1, pw), (n1, n2, 0)])
    (h1 : 0 < n1) (h2 : 0 < n2) (hn : n1 + n2 = a₀.size) (hA1 : Asc (arrOf st) 0 n1) (hA2 : Asc (arrOf st) n1 n2)
    (h : ∀ st', (arrOf st').Perm a₀ → failedOf st' = none → pendingOf st' = #[(0, n1 + n2, pw)] → SortedTo (arrOf st') a₀.size → Q true st') : wpS (model prog w) A E s (mergeAt' 0) Q st := by
  obtain ⟨kd, xs, pd, gl, fl, rfl⟩ : ∃ kd xs pd gl fl, st = SortSt.mk' kd xs pd gl fl := ⟨_, _, _, _, _, rfl⟩
  change xs.Perm a₀ at hp
  change kd = _ at hk
  change fl = none at hf
  change pd = _ at hpd
  change Asc xs 0 n1 at hA1
  change Asc xs n1 n2 at hA2
  subst hk hf hpd
  with_unfolding_all refine wpS_bind ?_
  refine wpS_get ?_
  with_unfolding_all refine wpS_bind (wpS_set ?_)
  refine wpS_gen fun st2 k2 a2 p2 f2 => ?_
  change PyProof.Rows.kindOf st2 = oneType' at k2
  change arrOf st2 = xs at a2
  replace p2 : pendingOf st2 = #[(0, n1 + n2, pw)] := p2.trans (pend_two _ _ _ _)
  change failedOf st2 = none at f2
  dsimp -zeta only
  have hsz : xs.size = a₀.size := hp.size_eq
  have hI : ∀ x ∈ xs.toList, IsI x := fun x hx => IntKeys.isI h0 hp hx
  have endJ : K xs (n1 - 1) ≤ K xs n1 → Q true st2 := fun hK => h st2 (a2 ▸ hp) f2 p2 (by rw [a2, ← hn]; exact asc_join hA1 hA2 fun _ _ => hK)
  refine wpS_bind (wpS_elem (show n1 < xs.size by exact lin [_, _, _, _] [] [(1, (.n (.a (.k 0) (.k 1)) (.v 2))), (1, (.n (.a (.v 0) (.v 2)) (.v 3))), (1, (.n (.v 3) (.v 1)))] 1 (.n (.a (.v 0) (.k 1)) (.v 1)) rfl h2 (eq_a hn) (eq_b hsz)) ?_)
  refine wpS_bind (wpS_gallop k2 (hI _ (by simp)) hI (by exact lin [_, _, _, _] [] [(1, (.n (.a (.v 0) (.v 2)) (.v 3))), (1, (.n (.v 3) (.v 1)))] 1 (.n (.a (.k 0) (.v 0)) (.v 1)) rfl (eq_a hn) (eq_b hsz)) h1 (fun i j hij hj => hA1 _ _ (by exact Nat.zero_le _) (by exact lin [_, _] [] [(1, (.n (.v 0) (.v 1)))] 1 (.n (.a (.k 0) (.v 0)) (.a (.k 0) (.v 1))) rfl hij) (by exact lin [_, _] [] [(1, (.n (.a (.v 0) (.k 1)) (.v 1)))] 1 (.n (.a (.a (.k 0) (.v 0)) (.k 1)) (.a (.k 0) (.v 1))) rfl hj)) fun k c1 c2 c3 => ?_)
  dsimp -zeta only
  have kA : ∀ m, m < k → K xs m ≤ K xs n1 := fun m hm => by
    have := c2 m hm
    unfold bey at this
    rw [K_eq (show n1 < xs.size by exact lin [_, _, _, _] [] [(1, (.n (.a (.k 0) (.k 1)) (.v 2))), (1, (.n (.a (.v 0) (.v 2)) (.v 3))), (1, (.n (.v 3) (.v 1)))] 1 (.n (.a (.v 0) (.k 1)) (.v 1)) rfl h2 (eq_a hn) (eq_b hsz))]
    simp at this
    exact this
  have kB : ∀ m, k ≤ m → m < n1 → K xs n1 < K xs m := fun m hm1 hm2 => by
    have := c3 m hm1 hm2
    unfold bey at this
    rw [K_eq (show n1 < xs.size by exact lin [_, _, _, _] [] [(1, (.n (.a (.k 0) (.k 1)) (.v 2))), (1, (.n (.a (.v 0) (.v 2)) (.v 3))), (1, (.n (.v 3) (.v 1)))] 1 (.n (.a (.v 0) (.k 1)) (.v 1)) rfl h2 (eq_a hn) (eq_b hsz))]
    simp at this
    exact this
  by_cases d1 : n1 - k = 0
  · rw [if_pos (by simpa using d1)]
    exact wpS_pure (endJ (kA _ (by exact lin [_, _, _, _] [] [(1, (.n (.v 2) (.k 0))), (1, (.n (.v 3) (.a (.v 2) (.v 1)))), (1, (.n (.a (.v 0) (.k 1)) (.v 3)))] 1 (.n (.a (.v 0) (.k 1)) (.v 1)) rfl (eq_a d1) (sub_b _ _) (sub_c (lin [_] [] [(1, (.n (.a (.k 0) (.k 1)) (.v 0)))] 1 (.n (.k 1) (.v 0)) rfl h1)))))
  rw [if_neg (by simpa using d1)]
  have ek : 0 + k + (n1 - k) - 1 = n1 - 1 := by exact go_eq (lin [_, _, _, _, _] [] [(1, (.n (.a (.v 2) (.v 3)) (.v 4))), (1, (.n (.v 4) (.a (.v 1) (.k 1)))), (1, (.n (.a (.v 0) (.k 1)) (.a (.a (.k 0) (.v 3)) (.v 2))))] 1 (.n (.v 0) (.v 1)) rfl (sub_c (c1)) (sub_b _ _) (sub_c (lin [_, _, _] [] [(1, (.n (.a (.k 0) (.k 1)) (.v 2))), (1, (.n (.v 2) (.a (.v 1) (.v 0))))] 1 (.n (.k 1) (.a (.a (.k 0) (.v 0)) (.v 1))) rfl h1 (sub_b _ _)))) (lin [_, _, _, _, _] [] [(1, (.n (.v 2) (.a (.v 3) (.v 4)))), (1, (.n (.a (.a (.k 0) (.v 4)) (.v 3)) (.a (.v 1) (.k 1)))), (1, (.n (.a (.v 0) (.k 1)) (.v 2)))] 1 (.n (.v 0) (.v 1)) rfl (sub_b _ _) (sub_b _ _) (sub_c (lin [_] [] [(1, (.n (.a (.k 0) (.k 1)) (.v 0)))] 1 (.n (.k 1) (.v 0)) rfl h1)))
  refine wpS_bind (wpS_elem (show 0 + k + (n1 - k) - 1 < xs.size by exact lin [_, _, _, _, _, _] [] [(1, (.n (.a (.v 2) (.v 3)) (.v 4))), (1, (.n (.v 4) (.v 1))), (1, (.n (.v 0) (.v 5))), (1, (.n (.a (.v 5) (.k 1)) (.v 2)))] 1 (.n (.a (.v 0) (.k 1)) (.v 1)) rfl (eq_a hn) (eq_b hsz) (eq_a ek) (sub_c (lin [_] [] [(1, (.n (.a (.k 0) (.k 1)) (.v 0)))] 1 (.n (.k 1) (.v 0)) rfl h1))) ?_)
  refine wpS_bind (wpS_gallop k2 (hI _ (by simp)) hI (by exact lin [_, _, _, _] [] [(1, (.n (.a (.v 0) (.v 1)) (.v 3))), (1, (.n (.v 3) (.v 2)))] 1 (.n (.a (.v 0) (.v 1)) (.v 2)) rfl (eq_a hn) (eq_b hsz)) (by exact (sub_c (lin [_] [] [(1, (.n (.a (.k 0) (.k 1)) (.v 0)))] 1 (.n (.k 1) (.v 0)) rfl h2))) (fun i j hij hj => hA2 _ _ (by exact lin [_, _] [] [] 1 (.n (.v 0) (.a (.v 0) (.v 1))) rfl) (by exact lin [_, _, _] [] [(1, (.n (.v 1) (.v 2)))] 1 (.n (.a (.v 0) (.v 1)) (.a (.v 0) (.v 2))) rfl hij) (by exact lin [_, _, _] [] [(1, (.n (.a (.v 1) (.k 1)) (.v 2)))] 1 (.n (.a (.a (.v 0) (.v 1)) (.k 1)) (.a (.v 0) (.v 2))) rfl hj)) fun nb c4 c5 c6 => ?_)
  dsimp -zeta only
  have kC : ∀ m, m < nb → K xs (n1 + m) < K xs (n1 - 1) := fun m hm => by
    have := c5 m hm
    unfold bey at this
    rw [← ek, K_eq (show 0 + k + (n1 - k) - 1 < xs.size by exact lin [_, _, _, _, _, _] [] [(1, (.n (.a (.v 2) (.v 3)) (.v 4))), (1, (.n (.v 4) (.v 1))), (1, (.n (.v 0) (.v 5))), (1, (.n (.a (.v 5) (.k 1)) (.v 2)))] 1 (.n (.a (.v 0) (.k 1)) (.v 1)) rfl (eq_a hn) (eq_b hsz) (eq_a ek) (sub_c (lin [_] [] [(1, (.n (.a (.k 0) (.k 1)) (.v 0)))] 1 (.n (.k 1) (.v 0)) rfl h1)))]
    simp only [if_true, decide_eq_true_eq] at this
    exact this
  have kD : ∀ m, nb ≤ m → m < n2 → K xs (n1 - 1) ≤ K xs (n1 + m) := fun m hm1 hm2 => by
    have := c6 m hm1 hm2
    unfold bey at this
    rw [← ek, K_eq (show 0 + k + (n1 - k) - 1 < xs.size by exact lin [_, _, _, _, _, _] [] [(1, (.n (.a (.v 2) (.v 3)) (.v 4))), (1, (.n (.v 4) (.v 1))), (1, (.n (.v 0) (.v 5))), (1, (.n (.a (.v 5) (.k 1)) (.v 2)))] 1 (.n (.a (.v 0) (.k 1)) (.v 1)) rfl (eq_a hn) (eq_b hsz) (eq_a ek) (sub_c (lin [_] [] [(1, (.n (.a (.k 0) (.k 1)) (.v 0)))] 1 (.n (.k 1) (.v 0)) rfl h1)))]
    simp only [if_true, decide_eq_false_iff_not, Int.not_lt] at this
    exact this
  by_cases d2 : nb = 0
  · rw [if_pos (by simpa using d2)]
    exact wpS_pure (endJ (kD 0 (by exact (eq_a d2)) h2))
  rw [if_neg (by simpa using d2)]
  extract_lets -merge x y jp
  have ex : x.toList = (xs.toList.drop k).take (n1 - k) := by
    show (xs.extract (0 + k) n1).toList = _
    rw [extL, Nat.zero_add]
  have ey : y.toList = (xs.toList.drop n1).take nb := by
    show (xs.extract n1 (n1 + nb)).toList = _
    rw [extL, Nat.add_sub_cancel_left]
  have lx : x.size = n1 - k := by show (xs.extract (0 + k) n1).size = _; rw [Array.size_extract]; exact go_eq (lin [_, _, _, _, _] [] [(1, (.n (.v 2) (.v 3))), (1, (.n (.v 3) (.a (.v 1) (.v 4)))), (1, (.n (.a (.v 0) (.a (.k 0) (.v 4))) (.v 2)))] 1 (.n (.v 0) (.v 1)) rfl (Nat.min_le_left _ _) (sub_b _ _) (sub_c (lin [_, _, _] [] [(1, (.n (.v 0) (.v 2))), (1, (.n (.v 2) (.v 1)))] 1 (.n (.a (.k 0) (.v 0)) (.v 1)) rfl c1 (min_c (lin [_, _, _, _] [] [(1, (.n (.a (.v 0) (.v 2)) (.v 3))), (1, (.n (.v 3) (.v 1)))] 1 (.n (.v 0) (.v 1)) rfl (eq_a hn) (eq_b hsz)))))) (lin [_, _, _, _, _] [] [(1, (.n (.v 2) (.v 3))), (1, (.n (.v 3) (.a (.v 1) (.a (.k 0) (.v 4))))), (1, (.n (.a (.v 0) (.v 4)) (.v 2)))] 1 (.n (.v 0) (.v 1)) rfl (min_c (lin [_, _, _, _] [] [(1, (.n (.a (.v 0) (.v 2)) (.v 3))), (1, (.n (.v 3) (.v 1)))] 1 (.n (.v 0) (.v 1)) rfl (eq_a hn) (eq_b hsz))) (sub_b _ _) (sub_c (c1)))
  have ly : y.size = nb := by show (xs.extract n1 (n1 + nb)).size = _; rw [Array.size_extract]; exact go_eq (lin [_, _, _, _] [] [(1, (.n (.v 2) (.a (.v 3) (.v 1)))), (1, (.n (.a (.v 0) (.v 3)) (.v 2)))] 1 (.n (.v 0) (.v 1)) rfl (Nat.min_le_left _ _) (sub_c (lin [_, _, _] [] [(1, (.n (.a (.v 0) (.v 2)) (.v 1)))] 1 (.n (.v 0) (.v 1)) rfl (min_c (lin [_, _, _, _, _] [] [(1, (.n (.a (.v 0) (.v 3)) (.v 4))), (1, (.n (.v 4) (.v 2))), (1, (.n (.v 1) (.v 3)))] 1 (.n (.a (.v 0) (.v 1)) (.v 2)) rfl (eq_a hn) (eq_b hsz) c4))))) (lin [_, _, _, _] [] [(1, (.n (.a (.v 2) (.v 0)) (.v 3))), (1, (.n (.v 3) (.a (.v 1) (.v 2))))] 1 (.n (.v 0) (.v 1)) rfl (min_c (lin [_, _, _, _, _] [] [(1, (.n (.a (.v 0) (.v 3)) (.v 4))), (1, (.n (.v 4) (.v 2))), (1, (.n (.v 1) (.v 3)))] 1 (.n (.a (.v 0) (.v 1)) (.v 2)) rfl (eq_a hn) (eq_b hsz) c4)) (sub_b _ _))
  have hx0 : ∀ z ∈ x.toList, ∃ m, k ≤ m ∧ m < n1 ∧ kn z = K xs m := fun z hz => by
    rw [ex] at hz
    obtain ⟨m, m1, m2, m3⟩ := mem_cut_K hz
    exact ⟨k + m, by exact lin [_, _] [] [] 1 (.n (.v 0) (.a (.v 0) (.v 1))) rfl, by exact lin [_, _, _, _] [] [(1, (.n (.a (.v 1) (.k 1)) (.v 3))), (1, (.n (.a (.v 3) (.v 0)) (.v 2)))] 1 (.n (.a (.a (.v 0) (.v 1)) (.k 1)) (.v 2)) rfl m1 (sub_c (c1)), m3⟩
  have hy0 : ∀ z ∈ y.toList, ∃ m, m < nb ∧ kn z = K xs (n1 + m) := fun z hz => by
    rw [ey] at hz
    obtain ⟨m, m1, m2, m3⟩ := mem_cut_K hz
    exact ⟨m, m1, m3⟩
  have sx : x.toList.Pairwise kle := by rw [ex]; exact asc_cut fun i j a b c => hA1 i j (Nat.zero_le _) b (by exact lin [_, _, _, _] [] [(1, (.n (.a (.v 0) (.k 1)) (.a (.v 2) (.v 3)))), (1, (.n (.a (.v 3) (.v 2)) (.v 1)))] 1 (.n (.a (.v 0) (.k 1)) (.a (.k 0) (.v 1))) rfl c (sub_c (c1)))
  have sy : y.toList.Pairwise kle := by rw [ey]; exact asc_cut fun i j a b c => hA2 i j a b (by exact lin [_, _, _, _] [] [(1, (.n (.v 3) (.v 2))), (1, (.n (.a (.v 0) (.k 1)) (.a (.v 1) (.v 3))))] 1 (.n (.a (.v 0) (.k 1)) (.a (.v 1) (.v 2))) rfl c4 c)
  have ix : ∀ z ∈ x.toList, IsI z := fun z hz => hI z (List.mem_of_mem_drop (List.mem_of_mem_take (ex ▸ hz)))
  have iy : ∀ z ∈ y.toList, IsI z := fun z hz => hI z (List.mem_of_mem_drop (List.mem_of_mem_take (ey ▸ hz)))
  have px : 0 < x.size := by exact lin [_, _] [] [(1, (.n (.k 1) (.v 1))), (1, (.n (.v 1) (.v 0)))] 1 (.n (.a (.k 0) (.k 1)) (.v 0)) rfl (ne_z d1) (eq_b lx)
  have py : 0 < y.size := by exact lin [_, _] [] [(1, (.n (.k 1) (.v 1))), (1, (.n (.v 1) (.v 0)))] 1 (.n (.a (.k 0) (.k 1)) (.v 0)) rfl (ne_z d2) (eq_b ly)
  have hfirst : ∀ z ∈ x.toList, kn y[0] ≤ kn z := fun z hz => by
    obtain ⟨m, m1, m2, m3⟩ := hx0 z hz
    have e : kn y[0] = K xs n1 := kn_ext (m := 0) py
    rw [e, m3]; exact Int.le_of_lt (kB m m1 m2)
  have hlast : ∀ z ∈ y.toList, kn z ≤ kn x[x.size - 1] := fun z hz => by
    obtain ⟨m, m1, m3⟩ := hy0 z hz
    have e : kn x[x.size - 1] = K xs (0 + k + (x.size - 1)) := kn_ext (m := x.size - 1) (by show x.size - 1 < x.size; exact (sub_c (lin [_] [] [(1, (.n (.a (.k 0) (.k 1)) (.v 0)))] 1 (.n (.k 1) (.v 0)) rfl px)))
    rw [e, lx, m3, show 0 + k + (n1 - k - 1) = n1 - 1 by exact go_eq (lin [_, _, _, _, _] [] [(1, (.n (.v 3) (.v 2))), (1, (.n (.a (.a (.k 0) (.v 0)) (.v 4)) (.a (.v 3) (.k 1)))), (1, (.n (.a (.v 1) (.k 1)) (.v 4)))] 1 (.n (.a (.a (.k 0) (.v 0)) (.v 1)) (.v 2)) rfl (eq_a ek) (sub_b _ _) (sub_c ((ne_z d1)))) (lin [_, _, _, _, _] [] [(1, (.n (.v 0) (.v 3))), (1, (.n (.a (.v 3) (.k 1)) (.a (.a (.k 0) (.v 1)) (.v 4)))), (1, (.n (.v 4) (.a (.v 2) (.k 1))))] 1 (.n (.v 0) (.a (.a (.k 0) (.v 1)) (.v 2))) rfl (eq_b ek) (sub_c (lin [_, _] [] [(1, (.n (.k 1) (.v 1)))] 1 (.n (.k 1) (.a (.a (.k 0) (.v 0)) (.v 1))) rfl (ne_z d1))) (sub_b _ _))]; exact Int.le_of_lt (kC m m1)
  have hjp : ∀ mg st3, Sm st2 st3 → Mgd x y mg → wpS (model prog w) A E s (jp mg) Q st3 := by
    intro mg st3 S3 M
    refine wpS_bind (wpS_modify ?_)
    refine wpS_bind (wpS_get ?_)
    have lm : mg.toList.length = n1 - k + nb := by
      rw [M.perm.length_eq, List.length_append]
      show x.size + y.size = _
      exact go_eq (lin [_, _, _, _] [] [(1, (.n (.v 0) (.v 2))), (1, (.n (.v 1) (.v 3)))] 1 (.n (.a (.v 0) (.v 1)) (.a (.v 2) (.v 3))) rfl (eq_a lx) (eq_a ly)) (lin [_, _, _, _] [] [(1, (.n (.v 0) (.v 2))), (1, (.n (.v 1) (.v 3)))] 1 (.n (.a (.v 0) (.v 1)) (.a (.v 2) (.v 3))) rfl (eq_b lx) (eq_b ly))
    have ef : ∀ xs' : Array Keyed, xs' = xs → (List.foldl (fun a (q : Keyed × Nat) => a.setIfInBounds (0 + k + q.2) q.1) xs' mg.toList.zipIdx).toList = xs.toList.take k ++ mg.toList ++ xs.toList.drop (n1 + nb) := by
      rintro _ rfl
      rw [lay_fold (0 + k) mg.toList 0 _ (by exact lin [_, _, _, _, _, _, _, _] [] [(1, (.n (.a (.v 3) (.v 4)) (.v 5))), (1, (.n (.v 6) (.v 4))), (1, (.n (.v 1) (.a (.v 7) (.v 6)))), (1, (.n (.v 5) (.v 2))), (1, (.n (.a (.v 7) (.v 0)) (.v 3)))] 1 (.n (.a (.a (.a (.k 0) (.v 0)) (.k 0)) (.v 1)) (.v 2)) rfl (eq_a hn) c4 (eq_a lm) (eq_b hsz) (sub_c (c1))), lm, show 0 + k + 0 = k by exact go_eq (lin [_] [] [] 1 (.n (.a (.a (.k 0) (.v 0)) (.k 0)) (.v 0)) rfl) (lin [_] [] [] 1 (.n (.v 0) (.a (.a (.k 0) (.v 0)) (.k 0))) rfl), show k + (n1 - k + nb) = n1 + nb by exact go_eq (lin [_, _, _, _] [] [(1, (.n (.a (.v 1) (.v 0)) (.v 3)))] 1 (.n (.a (.v 0) (.a (.v 1) (.v 2))) (.a (.v 3) (.v 2))) rfl (sub_c (c1))) (lin [_, _, _, _] [] [(1, (.n (.v 0) (.a (.v 3) (.v 2))))] 1 (.n (.a (.v 0) (.v 1)) (.a (.v 2) (.a (.v 3) (.v 1)))) rfl (sub_b _ _))]
    have ef2 := ef (arrOf st3) (S3.arr.trans a2)
    generalize hfo : List.foldl (fun a (q : Keyed × Nat) => a.setIfInBounds (0 + k + q.2) q.1) (arrOf st3) mg.toList.zipIdx = ys at ef2
    have whole : xs.toList = xs.toList.take k ++ (x.toList ++ (y.toList ++ xs.toList.drop (n1 + nb))) := by
      rw [ex, ey, cut_drop]
      have := cut_drop xs.toList k (n1 - k)
      rw [show k + (n1 - k) = n1 by exact go_eq (lin [_, _, _] [] [(1, (.n (.a (.v 1) (.v 0)) (.v 2)))] 1 (.n (.a (.v 0) (.v 1)) (.v 2)) rfl (sub_c (c1))) (lin [_, _, _] [] [(1, (.n (.v 0) (.a (.v 2) (.v 1))))] 1 (.n (.v 0) (.a (.v 1) (.v 2))) rfl (sub_b _ _))] at this
      rw [this, List.take_append_drop]
    have hperm : ys.toList.Perm xs.toList := by
      rw [ef2, List.append_assoc]
      have h3 := (M.perm.append_right (xs.toList.drop (n1 + nb))).append_left (xs.toList.take k)
      refine h3.trans (List.Perm.of_eq ?_)
      rw [List.append_assoc]
      exact whole.symm
    have hP : ∀ z ∈ xs.toList.take k, ∃ m, m < k ∧ kn z = K xs m := fun z hz => by
      rw [show xs.toList.take k = (xs.toList.drop 0).take k from rfl] at hz
      obtain ⟨m, m1, m2, m3⟩ := mem_cut_K hz
      exact ⟨m, m1, by rw [m3, Nat.zero_add]⟩
    have hS : ∀ z ∈ xs.toList.drop (n1 + nb), ∃ m, nb ≤ m ∧ m < n2 ∧ kn z = K xs (n1 + m) := fun z hz => by
      obtain ⟨m, m1, m2, m3⟩ := mem_drop_K hz
      exact ⟨m - n1, by exact lin [_, _, _, _] [] [(1, (.n (.a (.v 2) (.v 0)) (.v 3))), (1, (.n (.v 3) (.a (.v 1) (.v 2))))] 1 (.n (.v 0) (.v 1)) rfl m1 (sub_b _ _), by exact lin [_, _, _, _, _, _] [] [(1, (.n (.v 2) (.a (.v 3) (.v 1)))), (1, (.n (.v 4) (.v 2))), (1, (.n (.a (.v 5) (.k 1)) (.v 4))), (1, (.n (.a (.v 0) (.v 3)) (.v 5)))] 1 (.n (.a (.v 0) (.k 1)) (.v 1)) rfl (eq_b hn) (eq_a hsz) m2 (sub_c (lin [_, _, _] [] [(1, (.n (.a (.v 0) (.v 2)) (.v 1)))] 1 (.n (.v 0) (.v 1)) rfl m1)), by rw [m3]; congr 1; exact go_eq (lin [_, _, _] [] [(1, (.n (.v 0) (.a (.v 2) (.v 1))))] 1 (.n (.v 0) (.a (.v 1) (.v 2))) rfl (sub_b _ _)) (lin [_, _, _] [] [(1, (.n (.a (.v 1) (.v 0)) (.v 2)))] 1 (.n (.a (.v 0) (.v 1)) (.v 2)) rfl (sub_c (lin [_, _, _] [] [(1, (.n (.a (.v 0) (.v 2)) (.v 1)))] 1 (.n (.v 0) (.v 1)) rfl m1)))⟩
    have hM : ∀ z ∈ mg.toList, (∃ m, k ≤ m ∧ m < n1 ∧ kn z = K xs m) ∨ ∃ m, m < nb ∧ kn z = K xs (n1 + m) := fun z hz => by
      rcases List.mem_append.mp (M.perm.mem_iff.mp hz) with q | q
      · exact .inl (hx0 z q)
      · exact .inr (hy0 z q)
    have hsrt : ys.toList.Pairwise kle := by
      rw [ef2, List.pairwise_append, List.pairwise_append]
      refine ⟨⟨?_, M.srt, fun a ha b hb => ?_⟩, ?_, fun a ha b hb => ?_⟩
      · exact asc_cut (lo := 0) fun i j a b c => hA1 i j a b (by exact lin [_, _, _] [] [(1, (.n (.v 2) (.v 1))), (1, (.n (.a (.v 0) (.k 1)) (.a (.k 0) (.v 2))))] 1 (.n (.a (.v 0) (.k 1)) (.a (.k 0) (.v 1))) rfl c1 c)
      · obtain ⟨m, m1, m2⟩ := hP a ha
        have r1 := kA m m1
        show kn a ≤ kn b
        rcases hM b hb with ⟨m', n1', n2', n3'⟩ | ⟨m', n1', n3'⟩
        · have := kB m' n1' n2'
          exact lin [] [_, _, _, _, _] [(1, (.i (.v 0) (.v 2))), (1, (.i (.v 2) (.v 3))), (1, (.i (.v 4) (.v 1))), (1, (.i (.a (.v 3) (.k 1)) (.v 4)))] 1 (.i (.v 0) (.v 1)) rfl (eqi_a m2) r1 (eqi_b n3') (lt_i this)
        · have := hA2 n1 (n1 + m') (Nat.le_refl _) (by exact lin [_, _] [] [] 1 (.n (.v 0) (.a (.v 0) (.v 1))) rfl) (by exact lin [_, _, _, _] [] [(1, (.n (.v 3) (.v 2))), (1, (.n (.a (.v 1) (.k 1)) (.v 3)))] 1 (.n (.a (.a (.v 0) (.v 1)) (.k 1)) (.a (.v 0) (.v 2))) rfl c4 n1')
          exact lin [] [_, _, _, _, _] [(1, (.i (.v 0) (.v 2))), (1, (.i (.v 2) (.v 3))), (1, (.i (.v 4) (.v 1))), (1, (.i (.v 3) (.v 4)))] 1 (.i (.v 0) (.v 1)) rfl (eqi_a m2) r1 (eqi_b n3') this
      · have := asc_cut (xs := xs) (lo := n1 + nb) (m := n2 - nb) fun i j a b c => hA2 i j (by exact lin [_, _, _] [] [(1, (.n (.a (.v 0) (.v 2)) (.v 1)))] 1 (.n (.v 0) (.v 1)) rfl a) b (by exact lin [_, _, _, _, _] [] [(1, (.n (.a (.v 0) (.k 1)) (.a (.a (.v 1) (.v 3)) (.v 4)))), (1, (.n (.a (.v 4) (.v 3)) (.v 2)))] 1 (.n (.a (.v 0) (.k 1)) (.a (.v 1) (.v 2))) rfl c (sub_c (c4)))
        rwa [List.take_of_length_le (by rw [List.length_drop]; simp; exact lin [_, _, _, _, _, _] [] [(1, (.n (.v 4) (.a (.v 2) (.v 5)))), (1, (.n (.v 0) (.v 4))), (1, (.n (.v 5) (.a (.v 1) (.v 3))))] 1 (.n (.v 0) (.a (.v 1) (.a (.v 2) (.v 3)))) rfl (eq_b hn) (eq_a hsz) (sub_b _ _))] at this
      · show kn a ≤ kn b
        obtain ⟨m', n1', n2', n3'⟩ := hS b hb
        have r1 := kD m' n1' n2'
        rcases List.mem_append.mp ha with ha | ha
        · obtain ⟨m, m1, m2⟩ := hP a ha
          have := hA1 m (n1 - 1) (Nat.zero_le _) (by exact lin [_, _, _, _] [] [(1, (.n (.v 2) (.v 3))), (1, (.n (.a (.v 0) (.k 1)) (.v 2))), (1, (.n (.v 3) (.a (.v 1) (.k 1))))] 1 (.n (.v 0) (.v 1)) rfl c1 m1 (sub_b _ _)) (by exact lin [_, _] [] [(1, (.n (.a (.v 0) (.k 1)) (.v 1)))] 1 (.n (.a (.v 0) (.k 1)) (.a (.k 0) (.v 1))) rfl (sub_c (lin [_] [] [(1, (.n (.a (.k 0) (.k 1)) (.v 0)))] 1 (.n (.k 1) (.v 0)) rfl h1)))
          exact lin [] [_, _, _, _, _] [(1, (.i (.v 2) (.v 1))), (1, (.i (.v 3) (.v 2))), (1, (.i (.v 0) (.v 4))), (1, (.i (.v 4) (.v 3)))] 1 (.i (.v 0) (.v 1)) rfl (eqi_b n3') r1 (eqi_a m2) this
        · rcases hM a ha with ⟨m, q1, q2, q3⟩ | ⟨m, q1, q3⟩
          · have := hA1 m (n1 - 1) (Nat.zero_le _) (by exact lin [_, _, _] [] [(1, (.n (.a (.v 0) (.k 1)) (.v 2))), (1, (.n (.v 2) (.a (.v 1) (.k 1))))] 1 (.n (.v 0) (.v 1)) rfl q2 (sub_b _ _)) (by exact lin [_, _] [] [(1, (.n (.a (.v 0) (.k 1)) (.v 1)))] 1 (.n (.a (.v 0) (.k 1)) (.a (.k 0) (.v 1))) rfl (sub_c (lin [_] [] [(1, (.n (.a (.k 0) (.k 1)) (.v 0)))] 1 (.n (.k 1) (.v 0)) rfl h1)))
            exact lin [] [_, _, _, _, _] [(1, (.i (.v 2) (.v 1))), (1, (.i (.v 3) (.v 2))), (1, (.i (.v 0) (.v 4))), (1, (.i (.v 4) (.v 3)))] 1 (.i (.v 0) (.v 1)) rfl (eqi_b n3') r1 (eqi_a q3) this
          · have := kC m q1
            exact lin [] [_, _, _, _, _] [(1, (.i (.v 2) (.v 1))), (1, (.i (.v 3) (.v 2))), (1, (.i (.v 0) (.v 4))), (1, (.i (.a (.v 4) (.k 1)) (.v 3)))] 1 (.i (.v 0) (.v 1)) rfl (eqi_b n3') r1 (eqi_a q3) (lt_i this)
    have hfl : failedOf st3 = none := S3.fail.trans f2
    have fin : ∀ st' : SortSt, arrOf st' = ys → failedOf st' = failedOf st3 → pendingOf st' = pendingOf st3 → Q true st' := fun st' e1 e2 e3 =>
      h st' (by rw [e1]; exact Array.perm_iff_toList_perm.mpr (hperm.trans (Array.perm_iff_toList_perm.mp hp))) (e2.trans hfl) (e3.trans (S3.pend.trans p2)) (by
        rw [e1]
        intro i j hij hj
        have : ys.size = a₀.size := by
          have := hperm.length_eq
          simpa [hsz] using this
        exact srt_K hsrt hij (by exact lin [_, _, _] [] [(1, (.n (.a (.v 0) (.k 1)) (.v 2))), (1, (.n (.v 2) (.v 1)))] 1 (.n (.a (.v 0) (.k 1)) (.v 1)) rfl hj (eq_b this)))
    have ht : (failedOf st3).isNone = true := by rw [hfl]; rfl
    refine wpS_pure ?_
    show Q ((failedOf st3).isNone) _
    rw [ht]
    exact fin _ rfl rfl rfl
  clear_value jp
  split
  · exact wpS_bind (wpS_mergeLo k2 ix iy px py sx sy hfirst hlast fun out st3 S3 M => hjp out st3 S3 M)
  · exact wpS_bind (wpS_mergeHi k2 ix iy px py sx sy hfirst hlast fun out st3 S3 M => hjp out st3 S3 M)
end
end
section
/-- the sort's ends: one run, or two -/
noncomputable def SEnd (a₀ : Array Keyed) (st : SortSt) : Prop :=
  (arrOf st).Perm a₀ ∧ PyProof.Rows.kindOf st = oneType' ∧ failedOf st = none ∧
  ((pendingOf st = #[(0, a₀.size, 0)] ∧ SortedTo (arrOf st) a₀.size) ∨
   ∃ n1 n2 pw, 0 < n1 ∧ 0 < n2 ∧ n1 + n2 = a₀.size ∧ pendingOf st = #[(0, n1, pw), (n1, n2, 0)] ∧ Asc (arrOf st) 0 n1 ∧ Asc (arrOf st) n1 n2)
/-- between the runs -/
noncomputable def SMid (a₀ : Array Keyed) (mr lo : Nat) (st : SortSt) : Prop :=
  (arrOf st).Perm a₀ ∧ PyProof.Rows.kindOf st = oneType' ∧ failedOf st = none ∧ 0 < lo ∧ mr ≤ lo ∧ lo < a₀.size ∧ pendingOf st = #[(0, lo, 0)] ∧ Asc (arrOf st) 0 lo
section
variable {prog : Program} {w : World} {A : Around} {E : Value → Shared → Prop} {s : Shared} {a₀ : Array Keyed}
theorem wpS_sortBig {st : SortSt} {Q : Unit → SortSt → Prop} (h0 : IntKeys a₀) (hB : SBase a₀ st) (h64 : 64 ≤ a₀.size) (h128 : a₀.size < 128)
    (h : ∀ st', (arrOf st').Perm a₀ → failedOf st' = none → SortedTo (arrOf st') a₀.size → Q () st') : wpS (model prog w) A E s sortRuns' Q st := by
  rw [sortRuns'_eq]
  refine wpS_bind (wpS_get ?_)
  extract_lets -merge size mr
  have es : size = a₀.size := hB.size
  have em : mr = a₀.size / 2 + a₀.size % 2 := by
    have h1 : ∀ n, 64 ≤ n → n < 128 → minRun' n n 0 = n / 2 + n % 2 := by
      intro n a b
      obtain ⟨f, rfl⟩ : ∃ f, n = f + 2 := ⟨n - 2, by exact go_eq ((sub_b _ _)) ((sub_c (lin [_] [] [(1, (.n (.k 64) (.v 0)))] 1 (.n (.k 2) (.v 0)) rfl a)))⟩
      rw [minRun'_succ, if_neg (by exact go_nlt (a)), minRun'_succ, if_pos (by exact lin [_, _] [] [(1, (.n (.a (.a (.v 1) (.k 2)) (.k 1)) (.k 128))), (1, (.n (.m 2 (.v 0)) (.a (.v 1) (.k 2))))] 2 (.n (.a (.v 0) (.k 1)) (.k 64)) rfl b (div_a _ _)), Nat.zero_max]
    show minRun' size size 0 = _
    rw [es]; exact h1 _ h64 h128
  clear_value size mr
  subst es
  refine wpS_bind (wpS_mono (wpS_forRange
    (I := fun x c st' => (x = 0 ∧ c = (none, 0) ∧ SBase a₀ st') ∨ (x = 1 ∧ ∃ lo, c = (none, lo) ∧ SMid a₀ mr lo st') ∨ (1 ≤ x ∧ c = (none, a₀.size) ∧ SEnd a₀ st'))
    (Q := fun c st' => c = (none, a₀.size) ∧ SEnd a₀ st') ?s1 ?f1 (.inl ⟨rfl, rfl, hB⟩)) ?p1)
  case f1 =>
    rintro c st' (⟨hx, _⟩ | ⟨hx, _⟩ | ⟨_, hc⟩)
    · omega
    · omega
    · exact hc
  case s1 =>
    rintro x c st' _ hx (⟨rfl, rfl, hB'⟩ | ⟨rfl, lo, rfl, hp, hk, hf, hl0, hl1, hl2, hpd, hA⟩ | ⟨hx1, rfl, hD⟩)
    · refine wpS_any fun P hP => ?_
      extract_lets -merge lo jp force nf
      have el : lo = 0 := rfl
      have ef : force = mr := by show min (a₀.size - 0) mr = mr; omega
      have en : nf = force := rfl
      clear_value lo force nf
      subst el en
      rw [if_neg (by exact go_nle (lin [_] [] [(1, (.n (.k 64) (.v 0)))] 1 (.n (.a (.k 0) (.k 1)) (.v 0)) rfl h64))]
      have hW : SW a₀ 0 st' st' := ⟨hB'.perm, hB'.kind, hB'.failed, rfl, fun i hi => rfl⟩
      refine wpS_bind (wpS_countw h0 (by exact lin [_, _] [] [(1, (.n (.a (.v 0) (.k 0)) (.v 1)))] 1 (.n (.a (.k 0) (.v 0)) (.v 1)) rfl (sub_c (Nat.zero_le _))) (by exact lin [_, _] [] [(1, (.n (.k 64) (.v 1))), (1, (.n (.v 1) (.a (.v 0) (.k 0))))] 1 (.n (.k 1) (.v 0)) rfl h64 (sub_b _ _)) hW fun m st2 hB2 hm1 hm2 hs2 => ?_)
      dsimp -zeta only
      extract_lets -merge m'
      have em' : m' = m := rfl
      have hjp : ∀ u n st3, SW a₀ 0 st' st3 → 0 < n → mr ≤ n → n ≤ a₀.size → Asc (arrOf st3) 0 n → wpS (model prog w) A E s (jp u n) P st3 := by
        intro u n st3 hB3 n1 n2 n3 hA3
        refine wpS_bind (wpS_get ?_)
        have hpend : pendingOf st3 = #[] := hB3.pend.trans hB'.pend
        have hb : (pendingOf st3).back? = none := by rw [hpend]; rfl
        rw [hb]
        dsimp only
        refine wpS_bind (wpS_modify (wpS_pure (hP _ _ ?_)))
        have hq : ((pendingOf st3).push (0, n, 0)) = #[(0, n, 0)] := by rw [hpend]; rfl
        dsimp only
        rw [Nat.zero_add]
        rcases Nat.lt_or_ge n a₀.size with hl | hl
        · refine .inr (.inl ⟨rfl, n, by rw [Nat.zero_add], hB3.perm, hB3.kind, hB3.fail, n1, n2, hl, ?_, hA3⟩)
          exact hq
        · obtain rfl : n = a₀.size := by exact go_eq (n3) (hl)
          refine .inr (.inr ⟨by exact Nat.le_refl _, by rw [Nat.zero_add], hB3.perm, hB3.kind, hB3.fail, .inl ⟨hq, fun i j hij hj => hA3 i j (Nat.zero_le _) hij (by exact lin [_, _] [] [(1, (.n (.a (.v 0) (.k 1)) (.v 1)))] 1 (.n (.a (.v 0) (.k 1)) (.a (.k 0) (.v 1))) rfl hj)⟩⟩)
      clear_value jp m'
      subst em'
      by_cases hlt : m' < mr
      · rw [if_pos hlt]
        refine wpS_bind (wpS_lift (wpAny_rule ⟨rfl, ?_⟩))
        refine wpS_bind (wpS_binw h0 (by omega) (by exact lin [_, _, _] [] [(1, (.n (.v 2) (.v 1))), (1, (.n (.a (.v 0) (.k 1)) (.v 2)))] 1 (.n (.v 0) (.v 1)) rfl (eq_b ef) hlt) hB2 hs2 fun st3 hB3 hs3 => ?_)
        rw [if_neg (by simp)]
        exact hjp _ _ _ hB3 (by exact lin [_, _, _] [] [(1, (.n (.v 1) (.v 0))), (1, (.n (.a (.v 2) (.k 1)) (.v 1)))] 1 (.n (.a (.k 0) (.k 1)) (.v 0)) rfl (eq_b ef) hlt) (by exact (eq_b ef)) (by omega) hs3
      · rw [if_neg hlt]
        exact hjp _ _ _ hB2 (by exact lin [_] [] [(1, (.n (.k 1) (.v 0)))] 1 (.n (.a (.k 0) (.k 1)) (.v 0)) rfl hm1) (by exact (not_lt_n hlt)) (by exact lin [_, _, _] [] [(1, (.n (.v 0) (.v 2))), (1, (.n (.a (.v 2) (.k 0)) (.v 1)))] 1 (.n (.v 0) (.v 1)) rfl hm2 (sub_c (Nat.zero_le _))) hs2
    · refine wpS_any fun P hP => ?_
      extract_lets -merge lo' jp force nf
      have el : lo' = lo := rfl
      have ef : force = a₀.size - lo := by show min (a₀.size - lo) mr = _; omega
      have en : nf = force := rfl
      clear_value lo' force nf
      subst el en
      rw [if_neg (by exact go_nle (hl2))]
      have hW : SW a₀ lo' st' st' := ⟨hp, hk, hf, rfl, fun i hi => rfl⟩
      refine wpS_bind (wpS_countw h0 (by exact lin [_, _, _] [] [(1, (.n (.a (.v 1) (.v 0)) (.v 2)))] 1 (.n (.a (.v 0) (.v 1)) (.v 2)) rfl (sub_c (lin [_, _] [] [(1, (.n (.a (.v 0) (.k 1)) (.v 1)))] 1 (.n (.v 0) (.v 1)) rfl hl2))) (by exact lin [_, _, _] [] [(1, (.n (.a (.v 1) (.k 1)) (.v 2))), (1, (.n (.v 2) (.a (.v 0) (.v 1))))] 1 (.n (.k 1) (.v 0)) rfl hl2 (sub_b _ _)) hW fun m st2 hB2 hm1 hm2 hs2 => ?_)
      dsimp -zeta only
      extract_lets -merge m'
      have em' : m' = m := rfl
      have hjp : ∀ u n st3, SW a₀ lo' st' st3 → n = a₀.size - lo' → Asc (arrOf st3) lo' n → wpS (model prog w) A E s (jp u n) P st3 := by
        intro u n st3 hB3 n1 hA3
        refine wpS_bind (wpS_get ?_)
        have hpend : pendingOf st3 = #[(0, lo', 0)] := hB3.pend.trans hpd
        have hb : (pendingOf st3).back? = some (0, lo', 0) := by rw [hpend]; rfl
        rw [hb]
        dsimp only
        refine wpS_bind (wpS_mono (wpS_forRange (I := fun _ c st'' => st'' = st3 ∧ c = (none, ())) (Q := fun c st'' => st'' = st3 ∧ c = (none, ())) ?_ (fun _ _ hh => hh) ⟨rfl, rfl⟩) ?_)
        · rintro x c st'' _ _ ⟨rfl, rfl⟩
          refine wpS_bind (wpS_get ?_)
          rw [hpend]
          exact wpS_pure ⟨rfl, rfl⟩
        · rintro c st'' ⟨rfl, rfl⟩
          dsimp only
          refine wpS_bind (wpS_modify ?_)
          refine wpS_bind (wpS_modify (wpS_pure (hP _ _ ?_)))
          have hA0 : Asc (arrOf st'') 0 lo' := fun i j a b c => by rw [hB3.low i (by exact lin [_, _, _] [] [(1, (.n (.v 0) (.v 2))), (1, (.n (.a (.v 2) (.k 1)) (.a (.k 0) (.v 1))))] 1 (.n (.a (.v 0) (.k 1)) (.v 1)) rfl b c), hB3.low j (by exact lin [_, _] [] [(1, (.n (.a (.v 0) (.k 1)) (.a (.k 0) (.v 1))))] 1 (.n (.a (.v 0) (.k 1)) (.v 1)) rfl c)]; exact hA i j a b c
          dsimp only
          refine .inr (.inr ⟨by exact lin [] [] [] 1 (.n (.k 1) (.a (.k 1) (.k 1))) rfl, by rw [show lo' + n = a₀.size by exact go_eq (lin [_, _, _, _] [] [(1, (.n (.v 1) (.v 3))), (1, (.n (.a (.v 3) (.v 0)) (.v 2)))] 1 (.n (.a (.v 0) (.v 1)) (.v 2)) rfl (eq_a n1) (sub_c (lin [_, _] [] [(1, (.n (.a (.v 0) (.k 1)) (.v 1)))] 1 (.n (.v 0) (.v 1)) rfl hl2))) (lin [_, _, _, _] [] [(1, (.n (.v 3) (.v 2))), (1, (.n (.v 0) (.a (.v 3) (.v 1))))] 1 (.n (.v 0) (.a (.v 1) (.v 2))) rfl (eq_b n1) (sub_b _ _))], hB3.perm, hB3.kind, hB3.fail, .inr ⟨lo', n, power' a₀.size (2 * 0 + lo') (2 * 0 + lo' + lo' + n) a₀.size, hl0, by exact lin [_, _, _] [] [(1, (.n (.k 1) (.v 1))), (1, (.n (.v 1) (.v 2))), (1, (.n (.v 2) (.v 0)))] 1 (.n (.a (.k 0) (.k 1)) (.v 0)) rfl hm1 hm2 (eq_b n1), by exact go_eq (lin [_, _, _, _] [] [(1, (.n (.v 1) (.v 3))), (1, (.n (.a (.v 3) (.v 0)) (.v 2)))] 1 (.n (.a (.v 0) (.v 1)) (.v 2)) rfl (eq_a n1) (sub_c (lin [_, _] [] [(1, (.n (.a (.v 0) (.k 1)) (.v 1)))] 1 (.n (.v 0) (.v 1)) rfl hl2))) (lin [_, _, _, _] [] [(1, (.n (.v 3) (.v 2))), (1, (.n (.v 0) (.a (.v 3) (.v 1))))] 1 (.n (.v 0) (.a (.v 1) (.v 2))) rfl (eq_b n1) (sub_b _ _)), ?_, hA0, hA3⟩⟩)
          show (((pendingOf st'').modify _ _).push _) = _
          rw [hpend]
          rfl
      clear_value jp m'
      subst em'
      by_cases hlt : m' < mr
      · rw [if_pos hlt]
        refine wpS_bind (wpS_lift (wpAny_rule ⟨rfl, ?_⟩))
        refine wpS_bind (wpS_binw h0 (by exact lin [_, _, _, _] [] [(1, (.n (.v 1) (.v 3))), (1, (.n (.a (.v 3) (.v 0)) (.v 2)))] 1 (.n (.a (.v 0) (.v 1)) (.v 2)) rfl (eq_a ef) (sub_c (lin [_, _] [] [(1, (.n (.a (.v 0) (.k 1)) (.v 1)))] 1 (.n (.v 0) (.v 1)) rfl hl2))) (by exact lin [_, _, _] [] [(1, (.n (.v 2) (.v 1))), (1, (.n (.v 0) (.v 2)))] 1 (.n (.v 0) (.v 1)) rfl (eq_b ef) hm2) hB2 hs2 fun st3 hB3 hs3 => ?_)
        rw [if_neg (by simp)]
        exact hjp _ _ _ hB3 ef hs3
      · rw [if_neg hlt]
        exact hjp _ _ _ hB2 (by omega) hs2
    · dsimp only
      rw [if_pos (Nat.le_refl _)]
      exact wpS_pure ⟨rfl, hD⟩
  case p1 =>
    rintro c st' ⟨rfl, hp, hk, hf, hD⟩
    dsimp -zeta only
    extract_lets -merge r
    refine wpS_bind (wpS_mono (wpS_forRange (I := fun x c st'' => c = (none, ()) ∧ (((arrOf st'').Perm a₀ ∧ failedOf st'' = none ∧ SortedTo (arrOf st'') a₀.size ∧ (pendingOf st'').size ≤ 1) ∨ (x = 0 ∧ st'' = st')))
      (Q := fun c st'' => c = (none, ()) ∧ (arrOf st'').Perm a₀ ∧ failedOf st'' = none ∧ SortedTo (arrOf st'') a₀.size) ?s2 ?f2 ⟨rfl, .inr ⟨rfl, rfl⟩⟩) ?p2)
    case f2 =>
      rintro c st'' ⟨hc, ⟨g1, g2, g3, _⟩ | ⟨g1, _⟩⟩
      · exact ⟨hc, g1, g2, g3⟩
      · omega
    case p2 =>
      rintro c st'' ⟨rfl, g1, g2, g3⟩
      exact wpS_pure (h _ g1 g2 g3)
    case s2 =>
      rintro x c st'' _ _ ⟨rfl, ⟨g1, g2, g3, g4⟩ | ⟨rfl, rfl⟩⟩
      · dsimp only
        refine wpS_bind (wpS_get ?_)
        rw [if_pos g4]
        exact wpS_pure ⟨rfl, g1, g2, g3⟩
      · dsimp only
        refine wpS_bind (wpS_get ?_)
        rcases hD with ⟨d1, d2⟩ | ⟨n1, n2, pw, e1, e2, e3, d1, d2, d3⟩
        · rw [if_pos (by rw [d1]; exact Nat.le_refl 1)]
          exact wpS_pure ⟨rfl, hp, hf, d2⟩
        · rw [if_neg (by rw [d1]; simp)]
          have hi : ((pendingOf st'').size - 2) = 0 := by rw [d1]; rfl
          simp only [hi, Nat.lt_irrefl, if_false, Option.any_none, Bool.false_eq_true, gt_iff_lt]
          refine wpS_bind (wpS_mergeAt h0 hp hk hf d1 e1 e2 e3 d2 d3 fun st3 k1 k2 k3 k4 => ?_)
          rw [if_neg (by simp)]
          exact wpS_pure ⟨rfl, .inl ⟨k1, k2, k4, by rw [k3]; exact Nat.le_refl 1⟩⟩
end
end
section
section
variable {prog : Program} {w : World} {A : Around} {E : Value → Shared → Prop} {s : Shared}
/-- list.sort of 64 to 127 ints -/
theorem sort_big {a : Addr} {vs : List Value} {ns : List Int} {n : Nat} {P : Fin → Shared → Prop} (ho : s.heap.get? a = some (seqObj "list" vs.toArray n)) (hI : IntsAre vs ns) (h64 : 64 ≤ vs.length) (h128 : vs.length < 128)
    (h : ∀ (out : Array Value) (ns' : List Int), IntsAre out.toList ns' → ns'.Perm ns → ns'.Pairwise (· ≤ ·) → P (.done (.ret .none)) { s with heap := sortedHeap s.heap a vs out }) :
    wpAny (model prog w) A (Builtin.«list.sort» ⟨[.ref a], []⟩) P E s := by
  have lt : a < s.heap.objs.size := Heap.lt_size ho
  have sz : vs.toArray.size = vs.length := by simp
  obtain ⟨e1, h1⟩ : ∃ e1, (s.heap.update a (Obj.mapSeq fun _ => #[])).get? a = some (seqObj "list" #[] e1) := ⟨_, get?_update_seq ho (fun _ => #[])⟩
  have h2 : (((s.heap.update a (Obj.mapSeq fun _ => #[])).push (seqObj "tuple" vs.toArray 0)).push (seqObj "list" #[] 0)).get? a = some (seqObj "list" #[] e1) := by
    refine (Heap.get?_push_ne _ _ _ ?_).trans ((Heap.get?_push_ne _ _ _ ?_).trans h1)
    · rw [size_push', Heap.size_update]; exact Nat.ne_of_lt (Nat.lt_succ_of_lt lt)
    · rw [Heap.size_update]; exact Nat.ne_of_lt lt
  rw [list_sort_plain]
  have hs0 : vs.toArray.size ≤ sizeLine := by rw [sz, sizeLine_eq]; omega
  refine wpAny_bind (listItems_at ho rfl ?_)
  refine wpAny_bind (listUpdate_at ho rfl ?_ hs0 (Nat.zero_le _))
  refine wpAny_bind (seqEpoch_at h1 rfl ?_)
  refine wpAny_bind (wpAny_newTuple ?_)
  refine wpAny_bind (wpAny_newList ?_)
  refine wpAny_holding ?_
  show wpAny (model prog w) A _ P E { s with heap := ((s.heap.update a (Obj.mapSeq fun _ => #[])).push (seqObj "tuple" vs.toArray 0)).push (seqObj "list" #[] 0) }
  dsimp only
  rw [if_neg (by exact go_nlt (lin [_, _] [] [(1, (.n (.k 64) (.v 1))), (1, (.n (.v 1) (.v 0)))] 1 (.n (.k 2) (.v 0)) rfl h64 (eq_b sz))), if_neg (by exact go_nlt (lin [_, _] [] [(1, (.n (.k 64) (.v 1))), (1, (.n (.v 1) (.v 0)))] 1 (.n (.k 2) (.v 0)) rfl h64 (eq_b sz)))]
  have kk : keyKind' vs.toArray = pure oneType' := by
    match vs, h64, hI with
    | v₁ :: v₂ :: rest, _, hI => exact keyKind_ints hI
    | [_], h64, _ => simp at h64
    | [], h64, _ => simp at h64
  rw [kk]
  refine wpAny_bind (wpAny_pure ?_)
  have hps := pairsOf_size vs
  refine wpAny_bind (wpAny_mono (wpS_sortBig (a₀ := pairsOf vs) (st := SortSt.mk' oneType' (vs.toArray.zip vs.toArray) #[] 7 none)
    (Q := fun _ st' => (arrOf st').Perm (pairsOf vs) ∧ failedOf st' = none ∧ SortedTo (arrOf st') (pairsOf vs).size)
    hI.intKeys ⟨Array.Perm.refl _, rfl, rfl, rfl⟩ (by exact lin [_, _] [] [(1, (.n (.k 64) (.v 1))), (1, (.n (.v 1) (.v 0)))] 1 (.n (.k 64) (.v 0)) rfl h64 (eq_b hps)) (by exact lin [_, _] [] [(1, (.n (.a (.v 1) (.k 1)) (.k 128))), (1, (.n (.v 0) (.v 1)))] 1 (.n (.a (.v 0) (.k 1)) (.k 128)) rfl h128 (eq_a hps)) fun st' a1 a2 a3 => ⟨a1, a2, a3⟩) ?_ fun _ _ e => e)
  rintro ⟨⟨⟩, st'⟩ s' ⟨rfl, hp, hf, hs⟩
  dsimp only
  have hs1 : ((arrOf st').map (·.2)).size ≤ sizeLine + 1 := by
    have : (arrOf st').size = vs.length := hp.size_eq.trans hps
    rw [Array.size_map, sizeLine_eq]; omega
  refine wpAny_bind (seqEpoch_at h2 rfl ?_)
  refine wpAny_bind (listUpdate_at h2 rfl ?_ (Nat.zero_le _) hs1)
  rw [hf]
  simp only [bne_self_eq_false, Bool.false_eq_true, if_false]
  obtain ⟨ns', q1, q2, q3⟩ := sorted_out hI hp hs
  exact wpAny_pure (h _ ns' q1 q2 q3)
theorem sorted_mid {l : Addr} {vs : List Value} {ns : List Int} {Q : Value → Shared → Prop} (hl : s.heap.IsList l vs.toArray) (hI : IntsAre vs ns) (h64 : 64 ≤ vs.length) (h128 : vs.length < 128)
    (h : ∀ (out : Array Value) (ns' : List Int), IntsAre out.toList ns' → ns'.Perm ns → ns'.Pairwise (· ≤ ·) → Q (.ref (s.heap.objs.size + 1)) { s with heap := sortedAll s.heap vs out }) :
    wpAny (model prog w) A (call (.builtin "sorted") [.ref l]) Q E s := by
  refine Calls.call_function_entry kind_sorted plain_sorted entry_sorted (args_sorted1 _) ?_
  unfold Builtin.«sorted»
  have hs0 : vs.length ≤ sizeLine := by rw [sizeLine_eq]; omega
  refine wpAny_bind (m := checkCount "sorted" 1 1 _) (wpAny_pure ?_)
  refine wpAny_bind (collect_list hl ?_ hs0)
  refine wpAny_bind (wpAny_newList ?_)
  have e : ((s.heap.push (seqObj "list" #[] 0)).update s.heap.objs.size (Obj.mapSeq (· ++ vs.toArray))).objs.size = s.heap.objs.size + 1 := by
    rw [Heap.size_update, size_push']
  have g : (((s.heap.push (seqObj "list" #[] 0)).update s.heap.objs.size (Obj.mapSeq (· ++ vs.toArray))).push (seqObj "list" vs.toArray 0)).get? (s.heap.objs.size + 1) = some (seqObj "list" vs.toArray 0) := by
    rw [← e]; exact Heap.get?_push_size _ rfl
  show wpAny _ _ _ _ _ { s with heap := ((s.heap.push (seqObj "list" #[] 0)).update s.heap.objs.size (Obj.mapSeq (· ++ vs.toArray))).push (seqObj "list" vs.toArray 0) }
  rw [e]
  exact wpAny_bind (wpAny_holding (wpAny_call_entry slot_list_sort ⟨_, g, rfl⟩ entry_list_sort (sort_big g hI h64 h128 fun out ns' a1 a2 a3 => ⟨_, rfl, wpAny_pure ⟨_, rfl, h out ns' a1 a2 a3⟩⟩) (args_list_sort _)))
end
theorem sorted_big {prog : Program} {w : World} {A : Around} {E : Value → Shared → Prop} {s : Shared} {h₀ : Heap} {L : Addr} {m : Str → Option Value} {news : Ledger} {l : Addr} {vs : List Value} {ns : List Int} {Q : Value → Shared → Prop}
    (F : Fr h₀ L s.heap m) (N : News h₀ L s.heap news) (hl : s.heap.IsList l vs.toArray) (hI : IntsAre vs ns) (h64 : vs.length < 128)
    (h : ∀ (h' : Heap) (vs' : List Value) (ns' : List Int) (e : Nat), Fr h₀ L h' m → News h₀ L h' ((s.heap.objs.size + 1, listOf vs'.toArray e) :: news) →
      IntsAre vs' ns' → ns'.Perm ns → ns'.Pairwise (· ≤ ·) → (∀ p ∈ news, p.1 < s.heap.objs.size + 1) → Q (.ref (s.heap.objs.size + 1)) { s with heap := h' }) :
    wpAny (model prog w) A (call (.builtin "sorted") [.ref l]) Q E s := by
  have hlt : ∀ p ∈ news, p.1 < s.heap.objs.size + 1 := fun p hp => Nat.lt_succ_of_lt (Heap.lt_size (N p hp).1)
  rcases Nat.lt_or_ge vs.length 64 with q | q
  · exact sorted_N F N hl hI q fun h' vs' ns' e F' N' a1 a2 a3 => h h' vs' ns' e F' N' a1 a2 a3 hlt
  · refine sorted_mid hl hI q h64 fun out ns' a1 a2 a3 => ?_
    obtain ⟨e, he⟩ := sortedAll_at s.heap vs out
    exact h _ out.toList ns' e (F.kept fun _ _ => sortedAll_old) (N.kept_cons F (fun _ _ => sortedAll_old) (Nat.le_succ _) he) a1 a2 a3 hlt
end
set_option hygiene false in
local macro_rules | `(tactic| walk_at "exec For Name Name cons nil") => `(tactic| with_unfolding_all refine for_start ?_)
set_option hygiene false in
local macro_rules | `(tactic| walk_at "exec For Name Call cons nil") => `(tactic| with_unfolding_all refine for_start ?_)
section
noncomputable def cell (p q t f : Int) (i j : Nat) : List Int := if 0 < i + j ∧ f + i * p + j * q ≤ t then [f + i * p + j * q] else []
noncomputable def rowJ (p q t f : Int) (i : Nat) (n : Nat) : List Int := (List.range n).flatMap (cell p q t f i)
noncomputable def rowI (p q t f : Int) (nq : Nat) (n : Nat) : List Int := (List.range n).flatMap fun i => rowJ p q t f i nq
noncomputable def paidL (p q t : Int) (hs : List Int) : List Int := hs.flatMap fun f => rowI p q t f (t.fdiv q + 1).toNat (t.fdiv p + 1).toNat
theorem flat_len {α β : Type} (g : α → List β) (c : Nat) (l : List α) (h : ∀ x ∈ l, (g x).length ≤ c) : (l.flatMap g).length ≤ l.length * c := by
  induction l with
  | nil => simp
  | cons a r ih =>
    rw [List.flatMap_cons, List.length_append, List.length_cons, Nat.add_mul, Nat.one_mul]
    have := h a List.mem_cons_self
    have := ih fun x hx => h x (List.mem_cons_of_mem _ hx)
    exact lin [_, _, _, _] [] [(1, (.n (.v 0) (.v 3))), (1, (.n (.v 1) (.v 2)))] 1 (.n (.a (.v 0) (.v 1)) (.a (.v 2) (.v 3))) rfl ‹(g a).length ≤ c› this
theorem rowJ_len (p q t f : Int) (i n : Nat) : (rowJ p q t f i n).length ≤ n := by
  have := flat_len (cell p q t f i) 1 (List.range n) fun x _ => by unfold cell; split <;> simp
  unfold rowJ; simpa using this
theorem rowI_len (p q t f : Int) (nq n : Nat) : (rowI p q t f nq n).length ≤ n * nq := by
  have := flat_len (fun i => rowJ p q t f i nq) nq (List.range n) fun x _ => rowJ_len ..
  unfold rowI; simpa using this
theorem rowJ_succ (p q t f : Int) (i n : Nat) : rowJ p q t f i (n + 1) = rowJ p q t f i n ++ cell p q t f i n := by
  unfold rowJ; rw [List.range_succ, List.flatMap_append]; simp
theorem rowI_succ (p q t f : Int) (nq n : Nat) : rowI p q t f nq (n + 1) = rowI p q t f nq n ++ rowJ p q t f n nq := by
  unfold rowI; rw [List.range_succ, List.flatMap_append]; simp
noncomputable def pfm (ha pa da : Addr) (t : Value) (first i j number : Option Value) : Str → Option Value := fun y =>
  if y = Str.ofString "held" then some (.ref ha) else if y = Str.ofString "ports" then some (.ref pa) else if y = Str.ofString "top" then some t else if y = Str.ofString "paid" then some (.ref da) else if y = Str.ofString "first" then first else if y = Str.ofString "i" then i else if y = Str.ofString "j" then j else if y = Str.ofString "number" then number else none
theorem pfm_eq {m : Str → Option Value} {ha pa da : Addr} {t : Value} {first i j number : Option Value} (h1 : m (Str.ofString "held") = some (.ref ha)) (h2 : m (Str.ofString "ports") = some (.ref pa)) (h3 : m (Str.ofString "top") = some t) (h4 : m (Str.ofString "paid") = some (.ref da)) (h5 : m (Str.ofString "first") = first) (h6 : m (Str.ofString "i") = i) (h7 : m (Str.ofString "j") = j) (h8 : m (Str.ofString "number") = number)
    (h : ∀ y, y ≠ Str.ofString "held" → y ≠ Str.ofString "ports" → y ≠ Str.ofString "top" → y ≠ Str.ofString "paid" → y ≠ Str.ofString "first" → y ≠ Str.ofString "i" → y ≠ Str.ofString "j" → y ≠ Str.ofString "number" → m y = none) : ∀ y, m y = pfm ha pa da t first i j number y := by
  intro y
  unfold pfm
  by_cases q1 : y = Str.ofString "held"
  · rw [if_pos q1, q1]; exact h1
  rw [if_neg q1]
  by_cases q2 : y = Str.ofString "ports"
  · rw [if_pos q2, q2]; exact h2
  rw [if_neg q2]
  by_cases q3 : y = Str.ofString "top"
  · rw [if_pos q3, q3]; exact h3
  rw [if_neg q3]
  by_cases q4 : y = Str.ofString "paid"
  · rw [if_pos q4, q4]; exact h4
  rw [if_neg q4]
  by_cases q5 : y = Str.ofString "first"
  · rw [if_pos q5, q5]; exact h5
  rw [if_neg q5]
  by_cases q6 : y = Str.ofString "i"
  · rw [if_pos q6, q6]; exact h6
  rw [if_neg q6]
  by_cases q7 : y = Str.ofString "j"
  · rw [if_pos q7, q7]; exact h7
  rw [if_neg q7]
  by_cases q8 : y = Str.ofString "number"
  · rw [if_pos q8, q8]; exact h8
  rw [if_neg q8]
  exact h y q1 q2 q3 q4 q5 q6 q7 q8
theorem pfm_none {ha pa da : Addr} {t : Value} {first i j number : Option Value} (y : Str) (a1 : y ≠ Str.ofString "held") (a2 : y ≠ Str.ofString "ports") (a3 : y ≠ Str.ofString "top") (a4 : y ≠ Str.ofString "paid") (a5 : y ≠ Str.ofString "first") (a6 : y ≠ Str.ofString "i") (a7 : y ≠ Str.ofString "j") (a8 : y ≠ Str.ofString "number") : pfm ha pa da t first i j number y = none := by
  simp only [pfm, if_neg a1, if_neg a2, if_neg a3, if_neg a4, if_neg a5, if_neg a6, if_neg a7, if_neg a8]
set_option hygiene false in
local macro_rules | `(tactic| walk_at "subscriptTail Name Constant ref int") => `(tactic| walk_at "st")
set_option hygiene false in
local macro_rules | `(tactic| walk_at "call builtin:list.append") => `(tactic| walk_at "st")
theorem rowI_len51 (p q t f : Int) (nq n : Nat) (h : nq ≤ 51) (hn : n ≤ 51) : (rowI p q t f nq n).length ≤ 2601 := Nat.le_trans (rowI_len ..) (Nat.le_trans (Nat.mul_le_mul hn h) (by decide))
theorem paidL_len (p q t : Int) (hs : List Int) (h1 : (t.fdiv q + 1).toNat ≤ 51) (h2 : (t.fdiv p + 1).toNat ≤ 51) : (paidL p q t hs).length ≤ hs.length * 2601 := flat_len _ _ _ fun _ _ => rowI_len51 _ _ _ _ _ _ h1 h2
/-- a new list of ints, the objects handed in as they were -/
inductive ListPost (pre : Ledger) (P : List Int → Prop) : Value → Ledger → Prop
  | mk (d : Addr) (vs : List Value) (ns : List Int) (e : Nat) (_ : IntsAre vs ns) (_ : P ns) : ListPost pre P (.ref d) ((d, listOf vs.toArray e) :: pre)
inductive PJ1 (ha pa da : Addr) (tl : Ledger) (p q t : Int) (tt : Tok) (hs : List Int) (a : Nat) : (Str → Option Value) → Ledger → Prop
  | mk (dvs : List Value) (nd : Nat) (fi ii ji ni : Option Value) (_ : IntsAre dvs (paidL p q t (hs.take a))) : PJ1 ha pa da tl p q t tt hs a (pfm ha pa da (.int t tt) fi ii ji ni) ((da, listOf dvs.toArray nd) :: tl)
inductive PJ2 (ha pa da : Addr) (tl : Ledger) (p q t : Int) (tt : Tok) (hs : List Int) (a : Nat) (f : Int) (tf : Tok) (hd : Addr × Obj) (i : Nat) : (Str → Option Value) → Ledger → Prop
  | mk (dvs : List Value) (nd : Nat) (ii ji ni : Option Value) (_ : IntsAre dvs (paidL p q t (hs.take a) ++ rowI p q t f (t.fdiv q + 1).toNat i)) : PJ2 ha pa da tl p q t tt hs a f tf hd i (pfm ha pa da (.int t tt) (some (.int f tf)) ii ji ni) (hd :: (da, listOf dvs.toArray nd) :: tl)
inductive PJ3 (ha pa da : Addr) (tl : Ledger) (p q t : Int) (tt : Tok) (hs : List Int) (a : Nat) (f : Int) (tf : Tok) (h1 h2 : Addr × Obj) (i : Nat) (ti : Tok) (j : Nat) : (Str → Option Value) → Ledger → Prop
  | mk (dvs : List Value) (nd : Nat) (ji ni : Option Value) (_ : IntsAre dvs (paidL p q t (hs.take a) ++ rowI p q t f (t.fdiv q + 1).toNat i ++ rowJ p q t f i j)) : PJ3 ha pa da tl p q t tt hs a f tf h1 h2 i ti j (pfm ha pa da (.int t tt) (some (.int f tf)) (some (.int i ti)) ji ni) (h2 :: h1 :: (da, listOf dvs.toArray nd) :: tl)
theorem paid_con (w : World) (ha pa : Addr) (hvs pvs : List Value) (hs : List Int) (p q t : Int) (nh np : Nat) (tt : Tok) (hH : IntsAre hvs hs) (hP : IntsAre pvs [p, q]) (hp0 : 0 < p) (hq0 : 0 < q) (hp1 : p < 10) (hq1 : q < 10) (ht : 0 ≤ t) (ht1 : t < 50)
    (hhl : hs.length < 64) (hpl : (paidL p q t hs).length < 128) (hhb : ∀ f ∈ hs, 0 ≤ f ∧ f < 50) :
    Con w (.ref 206) [.ref ha, .ref pa, .int t tt] 1 [(ha, listOf hvs.toArray nh), (pa, listOf pvs.toArray np)] (ListPost [(ha, listOf hvs.toArray nh), (pa, listOf pvs.toArray np)] fun ns => ns.Perm (paidL p q t hs) ∧ ns.Pairwise (· ≤ ·)) := by
  intro p' loose mean mg mb h₀ A l frs rest s Q E G Fs S ret
  have X := G.X
  have hnd : A.handled = none := G.hn
  have T := G.T
  have kf : (Mine.hd.heap_39 w.params).In h₀ ∧ PySem.Challenge.rw_oy0269_01.row.prog = PySem.Challenge.rw_oy0269_01.row.prog := (by k_fill; exact ⟨X, rfl⟩)
  clear kf
  refine wpAny_call ?_
  k_dflt (refine' enter G S ?ho ?hcd ?hb ?hl ?_ ?c1 ?c2 ?c3 ?c4; (case ho => k_is); (case hcd => k_is); (case hb => exact BindsTo.of_eq rfl); (case hl => exact locs rfl); (case c1 => exact rfl); (case c2 => exact rfl); (case c3 => exact rfl); (case c4 => decide))
  intro h₁ F N lt1 lt2 zP0 zE zK0 zO
  dsimp only [List.cons_append, List.nil_append] at N lt1
  k_fold
  k_steps
  rename_i da h3 l1 h2 F' N'
  have ldt : ∀ p ∈ rest ++ frs, p.1 < da := fun p hp => allLt_mem l1.2.2 p hp
  obtain ⟨l1a, l1b, _⟩ := l1
  refine stop_out ?_
  have lts : ∀ p ∈ (da, listOf #[] 0) :: (ha, listOf hvs.toArray nh) :: (pa, listOf pvs.toArray np) :: (rest ++ frs), p.1 < h2.objs.size := fun p hp => Heap.lt_size (N' p hp).1
  have hall : ∀ (o : Obj) (I : Addr), I = h2.objs.size → ∀ p ∈ (da, o) :: (ha, listOf hvs.toArray nh) :: (pa, listOf pvs.toArray np) :: (rest ++ frs), p.1 ≠ I := by
    intro o I e p hp
    rw [e]
    rcases List.mem_cons.mp hp with rfl | hp
    · exact Nat.ne_of_lt (lts (da, listOf #[] 0) List.mem_cons_self)
    · exact Nat.ne_of_lt (lts p (List.mem_cons_of_mem _ hp))
  refine for_list (PJ1 ha pa da ((ha, listOf hvs.toArray nh) :: (pa, listOf pvs.toArray np) :: (rest ++ frs)) p q t tt hs)
    (L := s.heap.objs.size) (vs := hvs) (nl := nh) hnd rfl (m₀ := pfm ha pa da (.int t tt) none none none none) ?_ N' ?_ ?_ ?_ rfl rfl (by passes_own) ?_ ?_
  · refine fr_congr F' (pfm_eq rfl rfl rfl rfl rfl rfl rfl rfl ?_)
    intro y a1 a2 a3 a4 a5 a6 a7 a8
    simp only [if_neg a4]
    change List.lookup y [(Str.ofString "top", _), (Str.ofString "ports", _), (Str.ofString "held", _)] = none
    simp only [List.lookup, beq_eq_false_iff_ne.mpr a1, beq_eq_false_iff_ne.mpr a2, beq_eq_false_iff_ne.mpr a3]
  · exact .tail _ (.head _)
  · exact .mk [] 0 _ _ _ _ (by simpa [paidL] using IntsAre.nil)
  · rintro i m news ⟨dvs, nd, fi, ii, ji, ni, _⟩
    exact ⟨.tail _ (.head _), hall _ _ rfl⟩
  · rintro a v m news o h tk1 I1 hI1 hv ⟨dvs, nd, fi, ii, ji, ni, hD⟩ F1 N1 zP1 zK1
    obtain ⟨f, tf, rfl, hf⟩ := hH.at a v hv
    clear F' N'
    have hp2 := fdiv_bounds ht hp0
    have hq2 := fdiv_bounds ht hq0
    have hfb := hhb f (List.mem_of_getElem? hf)
    have ha4 : a < hs.length := (List.getElem?_eq_some_iff.mp hf).1
    have hlen0 : (paidL p q t (hs.take a)).length ≤ 64 * 2601 := by
      have := paidL_len p q t (hs.take a) (by exact lin [_] [_, _] [(1, (.i (.a (.v 0) (.k 1)) (.k 50))), (1, (.i (.v 1) (.v 0))), (1, (.i (.n (.v 0)) (.a (.v 1) (.k 1))))] 1 (.n (.v 0) (.k 51)) rfl (lt_i ht1) (hq2.2) (tn_b (lin [] [_] [(1, (.i (.k 0) (.v 0)))] 1 (.i (.k 0) (.a (.v 0) (.k 1))) rfl (hq2.1)))) (by exact lin [_] [_, _] [(1, (.i (.a (.v 0) (.k 1)) (.k 50))), (1, (.i (.v 1) (.v 0))), (1, (.i (.n (.v 0)) (.a (.v 1) (.k 1))))] 1 (.n (.v 0) (.k 51)) rfl (lt_i ht1) (hp2.2) (tn_b (lin [] [_] [(1, (.i (.k 0) (.v 0)))] 1 (.i (.k 0) (.a (.v 0) (.k 1))) rfl (hp2.1))))
      have h9 : (hs.take a).length ≤ 64 := by rw [List.length_take]; exact lin [_, _] [] [(1, (.n (.a (.v 1) (.k 1)) (.k 64))), (1, (.n (.v 0) (.v 1)))] 1 (.n (.v 0) (.k 64)) rfl hhl (Nat.min_le_right _ _)
      omega
    have ldI1 := ltN (a := da) (b := I1) (by rw [hI1]; exact lts (da, listOf #[] 0) (.head _))
    k_steps
    refine stop_out ?_; (with_unfolding_all refine' item_at (by is_list) (by l_ints) (by decide) (by decide) (by rfl) ?_); intro _; k_steps
    rename_i F2 N2 hup2
    rename IsRange _ _ _ _ _ _ _ _ => hR2
    rename_i hv2 F0 N0
    refine stop_out ?_
    refine for_range0 (L := s.heap.objs.size) (PJ2 ha pa da ((ha, listOf hvs.toArray nh) :: (pa, listOf pvs.toArray np) :: (rest ++ frs)) p q t tt hs a f tf (I1, o))
      (m₀ := pfm ha pa da (.int t tt) (some (.int f tf)) ii ji ni) hnd rfl ?_ N2 hR2 (by omega) ?_ ?_ rfl rfl (by passes_own) ?_ ?_
    · refine fr_congr F2 (pfm_eq rfl rfl rfl rfl rfl rfl rfl rfl ?_); (intro y a1 a2 a3 a4 a5 a6 a7 a8; (try simp only [if_neg a1, if_neg a2, if_neg a3, if_neg a4, if_neg a5, if_neg a6, if_neg a7, if_neg a8]); exact pfm_none y a1 a2 a3 a4 a5 a6 a7 a8)
    · exact .mk dvs nd _ _ _ (by simpa [rowI] using hD)
    · rintro i m news ⟨dvs, nd, ii, ji, ni, _⟩
      exact off_map (off_new N2) rfl
    · rintro i ti m news o2 h3 tk3 I2 hI2 hi ⟨dvs, nd, ii, ji, ni, hD⟩ F3 N3 zP2 zK2
      have ldI2 := ltN (a := da) (b := I2) (by rw [hI2]; exact lt_new N2 (da, _) (.tail _ (.head _)))
      clear F2 N2
      k_steps
      refine stop_out ?_; (with_unfolding_all refine' item_at (by is_list) (by l_ints) (by decide) (by decide) (by rfl) ?_); intro _; k_steps
      rename IsRange _ _ _ _ _ _ _ _ => hR4
      rename Fr _ _ _ _ => F4
      rename News _ _ _ _ => N4
      refine stop_out ?_
      refine for_range0 (L := s.heap.objs.size) (PJ3 ha pa da ((ha, listOf hvs.toArray nh) :: (pa, listOf pvs.toArray np) :: (rest ++ frs)) p q t tt hs a f tf (I1, o) (I2, o2) i ti)
        (m₀ := pfm ha pa da (.int t tt) (some (.int f tf)) (some (.int i ti)) ji ni) hnd rfl ?_ N4 hR4 (by omega) ?_ ?_ rfl rfl (by passes_own) ?_ ?_
      · refine fr_congr F4 (pfm_eq rfl rfl rfl rfl rfl rfl rfl rfl ?_); (intro y a1 a2 a3 a4 a5 a6 a7 a8; (try simp only [if_neg a1, if_neg a2, if_neg a3, if_neg a4, if_neg a5, if_neg a6, if_neg a7, if_neg a8]); exact pfm_none y a1 a2 a3 a4 a5 a6 a7 a8)
      · exact .mk dvs nd _ _ (by simpa [rowJ] using hD)
      · rintro j m news ⟨dvs, nd, ji, ni, _⟩
        exact off_map (off_new N4) rfl
      · rintro j tj m news o4 h5 tk5 I3 hI3 hj ⟨dvs, nd, ji, ni, hD⟩ F5 N5 zP3 zK3
        have ldI3 := ltN (a := da) (b := I3) (by rw [hI3]; exact lt_new N4 (da, _) (.tail _ (.tail _ (.head _))))
        have hdl : dvs.length ≤ 200000 := by
          have := rowI_len51 p q t f (t.fdiv q + 1).toNat i (by exact lin [_] [_, _] [(1, (.i (.a (.v 0) (.k 1)) (.k 50))), (1, (.i (.v 1) (.v 0))), (1, (.i (.n (.v 0)) (.a (.v 1) (.k 1))))] 1 (.n (.v 0) (.k 51)) rfl (lt_i ht1) (hq2.2) (tn_b (lin [] [_] [(1, (.i (.k 0) (.v 0)))] 1 (.i (.k 0) (.a (.v 0) (.k 1))) rfl (hq2.1)))) (by exact lin [_, _] [_, _] [(1, (.i (.a (.v 0) (.k 1)) (.k 50))), (1, (.i (.v 1) (.v 0))), (1, (.n (.a (.v 0) (.k 1)) (.v 1))), (1, (.i (.n (.v 1)) (.a (.v 1) (.k 1))))] 1 (.n (.v 0) (.k 51)) rfl (lt_i ht1) (hp2.2) hi (tn_b (lin [] [_] [(1, (.i (.k 0) (.v 0)))] 1 (.i (.k 0) (.a (.v 0) (.k 1))) rfl (hp2.1))))
          have := rowJ_len p q t f i j
          rw [hD.length, List.length_append, List.length_append]
          omega
        clear F4 N4
        k_steps
        refine stop_out ?_; (with_unfolding_all refine' item_at (by is_list) (by l_ints) (by decide) (by decide) (by rfl) ?_); intro _; k_steps
        refine stop_out ?_; (with_unfolding_all refine' item_at (by is_list) (by l_ints) (by decide) (by decide) (by rfl) ?_); intro _; k_steps
        · refine stop_out ?_; (k_dflt (refine' append_K (by k_asm) (by k_asm) (by k_upd) ?_ (by rw [List.size_toArray, sizeLine_eq]; omega); k_whole)); intro h9a F9 N9; (try k_sweep); k_steps
          rename_i c1 c2 _
          simp only [List.push_toArray] at N9
          refine for_nx zK3 (fr_congr F9 (pfm_eq rfl rfl rfl rfl rfl rfl rfl rfl ?_)) N9 (.mk (dvs ++ [_]) (nd + 1) _ _ ?_)
          · (intro y a1 a2 a3 a4 a5 a6 a7 a8; (try simp only [if_neg a1, if_neg a2, if_neg a3, if_neg a4, if_neg a5, if_neg a6, if_neg a7, if_neg a8]); exact pfm_none y a1 a2 a3 a4 a5 a6 a7 a8)
          · rw [rowJ_succ, ← List.append_assoc]
            refine hD.append ?_
            rw [cell, if_pos ⟨by exact lin [_, _] [] [(1, (.i (.a (.k 0) (.k 1)) (.a (.n (.v 0)) (.n (.v 1)))))] 1 (.n (.a (.k 0) (.k 1)) (.a (.v 0) (.v 1))) rfl (lt_i c2), by assumption⟩]
            exact .cons _ _ .nil
        · rename_i F9 N9 c1 c2
          refine for_nx zK3 (fr_congr F9 (pfm_eq rfl rfl rfl rfl rfl rfl rfl rfl ?_)) N9 (.mk dvs nd _ _ ?_)
          · (intro y a1 a2 a3 a4 a5 a6 a7 a8; (try simp only [if_neg a1, if_neg a2, if_neg a3, if_neg a4, if_neg a5, if_neg a6, if_neg a7, if_neg a8]); exact pfm_none y a1 a2 a3 a4 a5 a6 a7 a8)
          · rw [rowJ_succ, cell, if_neg (fun h => c2 h.2)]
            simpa using hD
        · rename_i F9 N9 c1
          refine for_nx zK3 (fr_congr F9 (pfm_eq rfl rfl rfl rfl rfl rfl rfl rfl ?_)) N9 (.mk dvs nd _ _ ?_)
          · (intro y a1 a2 a3 a4 a5 a6 a7 a8; (try simp only [if_neg a1, if_neg a2, if_neg a3, if_neg a4, if_neg a5, if_neg a6, if_neg a7, if_neg a8]); exact pfm_none y a1 a2 a3 a4 a5 a6 a7 a8)
          · rw [rowJ_succ, cell, if_neg (fun h => c1 (by omega))]
            simpa using hD
      · rintro m news h6 tk6 ⟨dvs, nd, ji, ni, hD⟩ F7 N7
        k_steps
        refine for_nx zK2 F7 N7 (.mk dvs nd _ _ _ ?_)
        rw [rowI_succ, ← List.append_assoc]; exact hD
    · rintro m news h6 tk6 ⟨dvs, nd, ii, ji, ni, hD⟩ F7 N7
      k_steps
      refine for_nx zK1 F7 N7 (.mk dvs nd _ _ _ _ ?_)
      rw [List.take_add_one, hf]
      simpa [paidL] using hD
  · rintro m news h6 tk6 ⟨dvs, nd, fi, ii, ji, ni, hD⟩ F7 N7
    rw [hH.length, List.take_length] at hD
    clear F' N'
    k_steps
    refine sorted_big F7 N7 ⟨_, (N7 _ (.head _)).1, rfl, _, rfl⟩ hD ?_ ?_
    · rw [hD.length]; exact hpl
    · intro h8 vs8 ns8 e8 F8 N8 hI8 hp8 hs8 hlt8
      k_steps
      have nd := S.nd
      refine ret _ _ _ _ frs (TI.SameUp.refl _) Fs (St.of_news (ps := [(h6.objs.size + 1, listOf vs8.toArray e8), (ha, listOf hvs.toArray nh), (pa, listOf pvs.toArray np)] ++ (rest ++ frs)) F8 N8 ?_ ?_) (.mk _ vs8 ns8 e8 hI8 ⟨hp8, hs8⟩)
      · intro p hp
        simp only [List.cons_append, List.nil_append, List.mem_cons] at hp ⊢
        rcases hp with h | h | h | h <;> simp [h]
      · exact nodup_lt (fun p hp => hlt8 p (List.mem_cons_of_mem _ hp)) nd
end
section
section
variable {w : World} {p : Program} {loose : List Str} {mean : ExcName → Option Value} {mg mb : Str → Option Value} {h₀ : Heap} {A : Around} {l : List Env} {need : Nat}
theorem Gd.deeper (G : Gd w p loose mean mg mb h₀ A l (need + 1)) (env : Env) : Gd w p loose mean mg mb h₀ (A.deeper env) (env :: l) need :=
  ⟨G.X, G.T, Around.frames_deeper G.fr, G.hn, by rw [depth_deeper]; have := G.dp; exact lin [_, _, _] [] [(1, (.n (.a (.a (.v 0) (.a (.v 1) (.k 1))) (.k 1)) (.v 2)))] 1 (.n (.a (.a (.a (.v 0) (.k 1)) (.v 1)) (.k 1)) (.v 2)) rfl this, by rw [units_deeper]; have := G.un; exact lin [_, _, _] [] [(1, (.n (.a (.a (.v 0) (.m 8 (.a (.v 1) (.k 1)))) (.k 1)) (.v 2)))] 1 (.n (.a (.a (.a (.v 0) (.k 3)) (.m 8 (.v 1))) (.k 1)) (.v 2)) rfl this⟩
theorem Gd.make (G : Gd w p loose mean mg mb h₀ A l (need + 1)) (C : Addr) (vals : List Value) : Gd w p loose mean mg mb h₀ (A.under (.builtin "type.__call__" ⟨.ref C :: vals, []⟩)) l need :=
  ⟨G.X, G.T, G.fr, G.hn, by rw [depth_under_make]; have := G.dp; exact lin [_, _, _] [] [(1, (.n (.a (.a (.v 0) (.a (.v 1) (.k 1))) (.k 1)) (.v 2)))] 1 (.n (.a (.a (.a (.v 0) (.k 1)) (.v 1)) (.k 1)) (.v 2)) rfl this, by rw [units_under_make]; have := G.un; exact lin [_, _, _] [] [(1, (.n (.a (.a (.v 0) (.m 8 (.a (.v 1) (.k 1)))) (.k 1)) (.v 2)))] 1 (.n (.a (.a (.a (.v 0) (.k 1)) (.m 8 (.v 1))) (.k 1)) (.v 2)) rfl this⟩
theorem Gd.le (G : Gd w p loose mean mg mb h₀ A l need) {n : Nat} (h : n ≤ need) : Gd w p loose mean mg mb h₀ A l n :=
  ⟨G.X, G.T, G.fr, G.hn, by have := G.dp; exact lin [_, _, _, _] [] [(1, (.n (.v 1) (.v 3))), (1, (.n (.a (.a (.v 0) (.v 3)) (.k 1)) (.v 2)))] 1 (.n (.a (.a (.v 0) (.v 1)) (.k 1)) (.v 2)) rfl h this, by have := G.un; exact lin [_, _, _, _] [] [(8, (.n (.v 1) (.v 3))), (1, (.n (.a (.a (.v 0) (.m 8 (.v 3))) (.k 1)) (.v 2)))] 1 (.n (.a (.a (.v 0) (.m 8 (.v 1))) (.k 1)) (.v 2)) rfl h this⟩
/-- a contract at the level of a code -/
noncomputable def ConR (w : World) (f : Value) (args : List Value) (need : Nat) (pre : Ledger) (post : Value → Ledger → Prop) : Prop :=
  ∀ (p : Program) (loose : List Str) (mean : ExcName → Option Value) (mg mb : Str → Option Value) (h₀ : Heap) (A : Around) (l : List Env) (frs rest : Ledger) (s : Shared) (R : Result → Shared → Prop),
    Gd w p loose mean mg mb h₀ A l need → TI.Frs l frs → St h₀ s.heap (pre ++ (rest ++ frs)) →
    (∀ r h' tk' new frs', TI.SameUp frs frs' → TI.Frs l frs' → St h₀ h' (new ++ (rest ++ frs')) → post r new → R (.ok (.ret r)) { s with heap := h', toks := tk' }) →
    codeAny (model prg w) A (.call f ⟨args, []⟩) R s
theorem ConR.con {f : Value} {args : List Value} {pre : Ledger} {post : Value → Ledger → Prop} (C : ConR w f args need pre post) : Con w f args need pre post :=
  fun p loose mean mg mb h₀ A l frs rest s Q E G Fs S ret => wpAny_call (C p loose mean mg mb h₀ A l frs rest s _ G Fs S ret)
theorem Con.weaken {f : Value} {args : List Value} {n n' : Nat} {pre : Ledger} {post post' : Value → Ledger → Prop} (C : Con w f args n pre post) (hn : n ≤ n') (h : ∀ r new, post r new → post' r new) : Con w f args n' pre post' :=
  fun p loose mean mg mb h₀ A l frs rest s Q E G Fs S ret => C p loose mean mg mb h₀ A l frs rest s Q E (G.le hn) Fs S fun r h' tk' new frs' a b c d => ret r h' tk' new frs' a b c (h r new d)
theorem frs_cons {env : Env} {L : Addr} {oL : Obj} {m : Str → Option Value} {frs : Ledger} (hk : env.scope.kind ≠ .module) (hf : env.frame = some L) (C : TI.Caller h₀ L m oL) (Fs : TI.Frs l frs) : TI.Frs (env :: l) ((L, oL) :: frs) :=
  ⟨hk, hf, C.dict, Fs⟩
theorem su_cons {p : Addr × Obj} {frs frs' : Ledger} (SU : TI.SameUp (p :: frs) frs') : ∃ sl r, frs' = (p.1, { p.2 with slots := sl }) :: r ∧ TI.SameUp frs r := by
  cases frs' with
  | nil => exact False.elim SU
  | cons q qs =>
    obtain ⟨a, ⟨sl, b⟩, c⟩ := SU
    refine ⟨sl, qs, ?_, c⟩
    rw [← a, ← b]
/-- a contract used at a call in a frame -/
theorem use_con {f : Value} {args : List Value} {pre rest frs : Ledger} {post : Value → Ledger → Prop} {env : Env} {L : Addr} {m : Str → Option Value} {s : Shared} {Q E : Value → Shared → Prop} {news : Ledger}
    (C : Con w f args need pre post) (G : Gd w p loose mean mg mb h₀ (A.deeper env) (env :: l) need) (hk : env.scope.kind ≠ .module) (hf : env.frame = some L) (Fs : TI.Frs l frs)
    (F : Fr h₀ L s.heap m) (N : News h₀ L s.heap news) (hsub : ∀ p ∈ pre ++ (rest ++ frs), p ∈ news) (nd : ((pre ++ (rest ++ frs)).map (·.1)).Nodup)
    (k : ∀ r h' tk' new frs', TI.SameUp frs frs' → TI.Frs l frs' → Fr h₀ L h' m → News h₀ L h' (new ++ (rest ++ frs')) → ((new ++ (rest ++ frs')).map (·.1)).Nodup → post r new → Q r { s with heap := h', toks := tk' }) :
    wpAny (model prg w) (A.deeper env) (call f args) Q E s := by
  have N1 : News h₀ L s.heap (pre ++ (rest ++ frs)) := fun p hp => N p (hsub p hp)
  obtain ⟨oL, CL, S⟩ := St.of_fr F N1 nd
  have S2 : St h₀ s.heap (pre ++ (rest ++ ((L, oL) :: frs))) := by
    refine S.perm ?_
    have e1 : pre ++ (rest ++ ((L, oL) :: frs)) = (pre ++ rest) ++ ((L, oL) :: frs) := by simp
    have e2 : (L, oL) :: (pre ++ (rest ++ frs)) = (L, oL) :: ((pre ++ rest) ++ frs) := by simp
    rw [e1, e2]
    exact (List.perm_middle).symm
  refine C p loose mean mg mb h₀ (A.deeper env) (env :: l) ((L, oL) :: frs) rest s Q E G (frs_cons hk hf CL Fs) S2 fun r h' tk' new frs' SU Fs' S' hp => ?_
  obtain ⟨sl, fr', rfl, SU'⟩ := su_cons SU
  have S3 : St h₀ h' ((L, { oL with slots := sl }) :: (new ++ (rest ++ fr'))) := by
    refine S'.perm ?_
    have e1 : new ++ (rest ++ ((L, { oL with slots := sl }) :: fr')) = (new ++ rest) ++ ((L, { oL with slots := sl }) :: fr') := by simp
    have e2 : (L, ({ oL with slots := sl } : Obj)) :: (new ++ (rest ++ fr')) = (L, { oL with slots := sl }) :: ((new ++ rest) ++ fr') := by simp
    show ((new ++ (rest ++ ((L, { oL with slots := sl }) :: fr')))).Perm _
    rw [e1, e2]
    exact List.perm_middle
  obtain ⟨F', N', nd'⟩ := S3.to_fr CL
  exact k r h' tk' new fr' SU' Fs'.2.2.2 F' N' nd' hp
/-- the same for a class that is made: its __init__ by a contract -/
theorem use_init {fI C : Addr} {vals : List Value} {pre rest frs : Ledger} {post : Value → Ledger → Prop} {env : Env} {L x dx : Addr} {m : Str → Option Value} {s : Shared} {R : Result → Shared → Prop} {news : Ledger}
    (CI : ConR w (.ref fI) (.ref x :: vals) need ((x, instObj C dx) :: (dx, dictOf [] 0) :: pre) post) (G : Gd w p loose mean mg mb h₀ (A.deeper env) (env :: l) (need + 1)) (hk : env.scope.kind ≠ .module) (hf : env.frame = some L) (Fs : TI.Frs l frs)
    (F : Fr h₀ L s.heap m) (N : News h₀ L s.heap news) (hsub : ∀ p ∈ ((x, instObj C dx) :: (dx, dictOf [] 0) :: pre) ++ (rest ++ frs), p ∈ news) (nd : ((((x, instObj C dx) :: (dx, dictOf [] 0) :: pre) ++ (rest ++ frs)).map (·.1)).Nodup)
    (k : ∀ h' tk' new frs', TI.SameUp frs frs' → TI.Frs l frs' → Fr h₀ L h' m → News h₀ L h' (new ++ (rest ++ frs')) → ((new ++ (rest ++ frs')).map (·.1)).Nodup → post .none new → R (.ok (.ret (.ref x))) { s with heap := h', toks := tk' })
    (hpn : ∀ r new, post r new → r = .none) :
    codeAny (model prg w) ((A.deeper env).under (.builtin "type.__call__" ⟨.ref C :: vals, []⟩)) (.call (.ref fI) ⟨.ref x :: vals, []⟩) (InitBack x R) s := by
  have N1 : News h₀ L s.heap (((x, instObj C dx) :: (dx, dictOf [] 0) :: pre) ++ (rest ++ frs)) := fun p hp => N p (hsub p hp)
  obtain ⟨oL, CL, S⟩ := St.of_fr F N1 nd
  generalize (x, instObj C dx) :: (dx, dictOf [] 0) :: pre = pre' at *
  have S2 : St h₀ s.heap (pre' ++ (rest ++ ((L, oL) :: frs))) := by
    refine S.perm ?_
    have e1 : pre' ++ (rest ++ ((L, oL) :: frs)) = (pre' ++ rest) ++ ((L, oL) :: frs) := by simp
    have e2 : (L, oL) :: (pre' ++ (rest ++ frs)) = (L, oL) :: ((pre' ++ rest) ++ frs) := by simp
    rw [e1, e2]
    exact (List.perm_middle).symm
  refine CI p loose mean mg mb h₀ _ (env :: l) ((L, oL) :: frs) rest s _ (G.make C vals) (frs_cons hk hf CL Fs) S2 fun r h' tk' new frs' SU Fs' S' hp => ?_
  obtain ⟨sl, fr', rfl, SU'⟩ := su_cons SU
  have S3 : St h₀ h' ((L, { oL with slots := sl }) :: (new ++ (rest ++ fr'))) := by
    refine S'.perm ?_
    have e1 : new ++ (rest ++ ((L, { oL with slots := sl }) :: fr')) = (new ++ rest) ++ ((L, { oL with slots := sl }) :: fr') := by simp
    have e2 : (L, ({ oL with slots := sl } : Obj)) :: (new ++ (rest ++ fr')) = (L, { oL with slots := sl }) :: ((new ++ rest) ++ fr') := by simp
    show ((new ++ (rest ++ ((L, { oL with slots := sl }) :: fr')))).Perm _
    rw [e1, e2]
    exact List.perm_middle
  obtain ⟨F', N', nd'⟩ := S3.to_fr CL
  have hr := hpn r new hp
  subst hr
  exact ⟨rfl, k h' tk' new fr' SU' Fs'.2.2.2 F' N' nd' hp⟩
end
end
section
abbrev kent (w : World) (name : String) (t : Tok) (v : Value) : DictEntry := ⟨PyData.keyHash w.params (Str.ofString name), .str (Str.ofString name) t, v⟩
abbrev sdict (w : World) (t1 t2 t3 t4 : Tok) (d : Addr) (rv : Value) (po fi : Value) : Obj := dictOf [kent w "_node2info" t1 (.ref d), kent w "_ready_nodes" t2 rv, kent w "_npassedout" t3 po, kent w "_nfinished" t4 fi] 4
abbrev IsD (w : World) (o : Obj) (kvs : List (Int × Value)) : Prop := o.IsDictOf (intKind prg w) kvs
abbrev nodeObj (dx sa : Addr) (n : Int) (tn : Tok) (p : Int) (tp : Tok) : Obj := { cls := .ref 91, dict := some dx, slots := [some (.int n tn), some (.int p tp), some (.ref sa)].toArray }
/-- a node: its number, its addresses, the number of its predecessors, its successors -/
structure Nd where
  num : Int
  x : Addr
  dx : Addr
  sa : Addr
  tn : Tok
  tp : Tok
  np : Int
  svs : List Value
  sn : List Int
  es : Nat
noncomputable def Nd.led (d : Nd) : Ledger := [(d.sa, listOf d.svs.toArray d.es), (d.x, nodeObj d.dx d.sa d.num d.tn d.np d.tp), (d.dx, dictOf [] 0)]
noncomputable def sled (ns : List Nd) : Ledger := ns.flatMap Nd.led
noncomputable def kvsOf (ns : List Nd) : List (Int × Value) := ns.map fun d => (d.num, .ref d.x)
theorem led_cons (d : Nd) (t : Ledger) : d.led ++ t = (d.sa, listOf d.svs.toArray d.es) :: (d.x, nodeObj d.dx d.sa d.num d.tn d.np d.tp) :: (d.dx, dictOf [] 0) :: t := rfl
theorem ninit_con (w : World) (x dx : Addr) (n : Int) (tn : Tok) : ConR w (.ref 87) [.ref x, .int n tn] 1 [(x, instObj 91 dx), (dx, dictOf [] 0)] (fun r new => r = .none ∧ ∃ tp sa, new = [(sa, listOf #[] 0), (x, nodeObj dx sa n tn 0 tp), (dx, dictOf [] 0)]) := by
  intro p' loose mean mg mb h₀ A l frs rest s R G Fs S ret
  have X := G.X
  have hnd : A.handled = none := G.hn
  have T := G.T
  have kf : (Mine.hd.heap_39 w.params).In h₀ ∧ PySem.Challenge.rw_oy0269_01.row.prog = PySem.Challenge.rw_oy0269_01.row.prog := (by k_fill; exact ⟨X, rfl⟩)
  clear kf
  have nd := S.nd
  k_dflt (refine' enter G S ?ho ?hcd ?hb ?hl ?_ ?c1 ?c2 ?c3 ?c4; (case ho => k_is); (case hcd => k_is); (case hb => exact BindsTo.of_eq rfl); (case hl => exact locs rfl); (case c1 => exact rfl); (case c2 => exact rfl); (case c3 => exact rfl); (case c4 => decide))
  intro h₁ F N lt1 lt2 zP0 zE0 zK0 zO0
  simp only [List.cons_append, List.nil_append, List.map_cons, List.nodup_cons] at N lt1 nd
  have nx : ∀ p ∈ rest ++ frs, p.1 ≠ x := by
    intro p hp e
    exact nd.1 (List.mem_cons_of_mem _ (by rw [← e]; exact List.mem_map_of_mem hp))
  have nxd : @Ne Nat dx x := fun e => nd.1 (by rw [← e]; exact List.mem_cons_self)
  k_steps
  rename_i sa hc l1 hd F' N'
  refine ret _ _ _ [(sa, listOf #[] 0), (x, nodeObj dx sa n tn 0 _), (dx, dictOf [] 0)] frs (TI.SameUp.refl _) Fs (St.of_news F' N' (fun p hp => hp) ?_) ⟨rfl, _, _, rfl⟩
  exact nodup_lt (o := listOf #[] 0) (ps := (x, nodeObj dx sa n tn 0 _) :: (dx, dictOf [] 0) :: (rest ++ frs)) (all_cons l1.1 (all_cons l1.2.1 (allLt_mem l1.2.2))) (by simpa using nd)
end
set_option hygiene false in
local macro_rules | `(tactic| walk_at "getMethod ref") => `(tactic| with_reducible refine stop_p2 ?_)
section
theorem nd_split {p : Addr × Obj} {t : Ledger} (nd : ((p :: t).map (·.1)).Nodup) : (∀ q ∈ t, q.1 ≠ p.1) ∧ (t.map (·.1)).Nodup := by
  obtain ⟨a, b⟩ := List.nodup_cons.mp nd
  exact ⟨fun q hq e => a (List.mem_map.mpr ⟨q, hq, e⟩), b⟩
noncomputable def Apart (a b : Addr) : Prop := a ≠ b
theorem Apart.ne {a b : Addr} (h : Apart a b) : a ≠ b := h
theorem Apart.ne' {a b : Addr} (h : Apart a b) : b ≠ a := Ne.symm h
theorem row_split {q : Addr × Obj} {t : Ledger} {a : Addr} (h : ∀ x ∈ q :: t, x.1 ≠ a) : Apart q.1 a ∧ ∀ x ∈ t, x.1 ≠ a := ⟨h q (.head _), fun x hx => h x (.tail _ hx)⟩
section
set_option hygiene false in
local macro_rules | `(tactic| walk_at "setItem ref int") => `(tactic| walk_at "st")
set_option hygiene false in
local macro_rules | `(tactic| walk_at "call builtin:dict.get") => `(tactic| walk_at "st")
theorem gni_old (w : World) (a ad d x : Addr) (t1 t2 t3 t4 : Tok) (rv po fi : Value) (o : Obj) (kvs : List (Int × Value)) (n : Int) (tn : Tok) (hd : IsD w o kvs) (lo : (d == sysModules) = false) (hx : valueAt kvs n = some (.ref x)) : ConR w (.ref 131) [.ref a, .int n tn] 4 [(a, instObj 188 ad), (ad, sdict w t1 t2 t3 t4 d rv po fi), (d, o)] (fun r new => r = .ref x ∧ new = [(a, instObj 188 ad), (ad, sdict w t1 t2 t3 t4 d rv po fi), (d, o)]) := by
  intro p' loose mean mg mb h₀ A l frs rest s R G Fs S ret
  have X := G.X
  have hnd : A.handled = none := G.hn
  have T := G.T
  have kf : (Mine.hd.heap_39 w.params).In h₀ ∧ PySem.Challenge.rw_oy0269_01.row.prog = PySem.Challenge.rw_oy0269_01.row.prog := (by k_fill; exact ⟨X, rfl⟩)
  clear kf
  have nd := S.nd
  k_dflt (refine' enter G S ?ho ?hcd ?hb ?hl ?_ ?c1 ?c2 ?c3 ?c4; (case ho => k_is); (case hcd => k_is); (case hb => first | exact BindsTo.of_eq rfl | exact binds_K (G.X.keeps S.keep) rfl (by k_is) rfl rfl rfl); (case hl => exact locs rfl); (case c1 => exact rfl); (case c2 => exact rfl); (case c3 => exact rfl); (case c4 => decide))
  intro h₁ F N lt1 lt2 zP0 zE0 zK0 zO0
  dsimp only [List.cons_append, List.nil_append] at N lt1
  k_steps
  refine stop_out ?_; k_dflt (refine kdg_method (knd := PySem.intKind _ _) (by k_asm) (by k_mem) (by k_asm) ?_); k_steps
  refine stop_out ?_; k_dflt (refine kdg_get1 (knd := PySem.intKind _ _) (by k_asm) (by k_mem) (by k_asm) (by k_asm) (intKind_is _ _ _ _) _ (by k_asm) ?_); (try dsimp only [Option.getD]); k_steps
  rename_i F' N'
  exact ret _ _ _ [(a, instObj 188 ad), (ad, sdict w t1 t2 t3 t4 d rv po fi), (d, o)] frs (TI.SameUp.refl _) Fs (St.of_news F' N' (fun p hp => hp) nd) ⟨rfl, rfl⟩
inductive GniPost (w : World) (a ad d : Addr) (t1 t2 t3 t4 : Tok) (rv po fi : Value) (kvs : List (Int × Value)) (n : Int) (tn : Tok) : Value → Ledger → Prop
  | mk (x dx sa : Addr) (tp : Tok) (o' : Obj) (_ : IsD w o' (kvs ++ [(n, .ref x)])) : GniPost w a ad d t1 t2 t3 t4 rv po fi kvs n tn (.ref x) [(sa, listOf #[] 0), (x, nodeObj dx sa n tn 0 tp), (dx, dictOf [] 0), (a, instObj 188 ad), (ad, sdict w t1 t2 t3 t4 d rv po fi), (d, o')]
theorem gni_new (w : World) (a ad d : Addr) (t1 t2 t3 t4 : Tok) (rv po fi : Value) (o : Obj) (kvs : List (Int × Value)) (n : Int) (tn : Tok) (hd : IsD w o kvs) (lo : (d == sysModules) = false) (hx : valueAt kvs n = none) (hsz : kvs.length ≤ sizeLine) : ConR w (.ref 131) [.ref a, .int n tn] 4 [(a, instObj 188 ad), (ad, sdict w t1 t2 t3 t4 d rv po fi), (d, o)]
    (GniPost w a ad d t1 t2 t3 t4 rv po fi kvs n tn) := by
  intro p' loose mean mg mb h₀ A l frs rest s R G Fs S ret
  have X := G.X
  have hnd : A.handled = none := G.hn
  have T := G.T
  have kf : (Mine.hd.heap_39 w.params).In h₀ ∧ PySem.Challenge.rw_oy0269_01.row.prog = PySem.Challenge.rw_oy0269_01.row.prog := (by k_fill; exact ⟨X, rfl⟩)
  clear kf
  have nd := S.nd
  k_dflt (refine' enter G S ?ho ?hcd ?hb ?hl ?_ ?c1 ?c2 ?c3 ?c4; (case ho => k_is); (case hcd => k_is); (case hb => first | exact BindsTo.of_eq rfl | exact binds_K (G.X.keeps S.keep) rfl (by k_is) rfl rfl rfl); (case hl => exact locs rfl); (case c1 => exact rfl); (case c2 => exact rfl); (case c3 => exact rfl); (case c4 => decide))
  intro h₁ F N lt1 lt2 zP0 zE0 zK0 zO0
  dsimp only [List.cons_append, List.nil_append] at N lt1
  k_steps
  refine stop_out ?_; k_dflt (refine kdg_method (knd := PySem.intKind _ _) (by k_asm) (by k_mem) (by k_asm) ?_); k_steps
  refine stop_out ?_; k_dflt (refine kdg_get1 (knd := PySem.intKind _ _) (by k_asm) (by k_mem) (by k_asm) (by k_asm) (intKind_is _ _ _ _) _ (by k_asm) ?_); (try dsimp only [Option.getD]); k_steps
  rename_i F1 N1
  refine' call_cls F1 X N1 ?k4 ?k5 ?k6 ?_
  case k4 => k_is
  case k5 => k_is
  case k6 => k_is
  intro x dx h2 F2 N2 l1 l2
  refine use_init (rest := (a, instObj 188 ad) :: (ad, sdict w t1 t2 t3 t4 d rv po fi) :: (d, o) :: rest) (frs := frs) (ninit_con w x dx n tn) ((G.deeper _).le (by decide)) (by intro h; cases h) rfl Fs F2 N2 (by (intro p hp; simp only [List.cons_append, List.nil_append, List.append_assoc, List.mem_cons, List.mem_append] at hp ⊢; grind)) ?_ ?_ (fun r new h => h.1)
  · refine nodup_lt (o := instObj 91 dx) ?_ (nodup_lt (o := dictOf [] 0) l1 nd)
    exact all_cons l2 (fun p hp => Nat.lt_trans (l1 p hp) l2)
  · rintro h3 tk3 new frs' SU Fs' F3 N3 nd3 ⟨_, tp, sa, rfl⟩
    dsimp only
    dsimp only [List.cons_append, List.nil_append] at N3 nd3
    clear N1 N2 F1 F2
    have ndf := nd3
    have ndF : NDF _ := ndf
    k_steps
    refine stop_out ?_; k_dflt (refine' kda_set (knd := PySem.intKind _ _) (by k_asm) (by k_asm) (by k_updF) (by k_asm) (by exact intKind_is _ _ _ _) (by k_asm) ?_; k_whole); intro h8 o8 F8 N8 D8; (try k_sweep); k_steps
    rename Obj.IsDictOf _ _ (stored _ _ _) => D4
    rename Fr _ _ _ _ => F4
    rename News _ _ _ _ => N4
    rw [stored_absent hx] at D4
    exact ret _ _ _ [(sa, listOf #[] 0), (x, nodeObj dx sa n tn 0 tp), (dx, dictOf [] 0), (a, instObj 188 ad), (ad, sdict w t1 t2 t3 t4 d rv po fi), (d, _)] frs' SU Fs' (St.of_news F4 N4 (fun p hp => hp) nd3) (.mk x dx sa tp _ D4)
end
end
section
theorem peek1_H {α : Type} {K : Frag} {M : Model} {A : Around} {E : Value → Shared → Prop} {Q : α → Shared → Prop} {s : Shared} {o : Obj} {r : Addr → α} (X : K.In s.heap)
    (q : Q (r s.heap.objs.size) { s with heap := s.heap.push o }) :
    ∀ (t : Sem α) (g : Addr → Option α), peek1 K ⟨M.prog, M.w.params⟩ t = some (o, g) → (∀ D, g D = some (r D)) → wpAny M A t Q E s := by
  intro t
  induction t with
  | rule _ k ih => intro g e hg Γ p hΓ; exact ih () g e hg Γ p hΓ
  | point _ k ih => intro g e hg Γ p hΓ; exact ih () g e hg Γ p hΓ
  | ask k ih => intro g e hg Γ p hΓ; exact ih _ g e hg Γ p hΓ
  | load a _ k ih =>
    intro g e hg Γ p hΓ
    simp only [peek1] at e
    split at e
    · rename_i ob ho; exact ⟨ob, X _ _ ho, ih ob g e hg Γ p hΓ⟩
    · cases e
  | alloc ob k _ =>
    intro g e hg
    have e : some (ob, fun D => peek K ⟨M.prog, M.w.params⟩ (k D)) = some (o, g) := e
    obtain ⟨e1, e2⟩ := Prod.mk.inj (Option.some.inj e)
    subst e1
    subst e2
    have X' : K.In (s.heap.push ob) := X.keeps fun b x hb => Heap.get?_push_of_some _ hb
    show wpAny M A (alloc ob >>= k) Q E s
    refine wpAny_bind (wpAny_alloc ?_)
    exact (Looks.of_peek (M := M) (h := s.heap.push ob) X' (hg s.heap.objs.size)).here (s := { s with heap := s.heap.push ob }) q
  | _ => intro g e; cases e
theorem St.push {h₀ h : Heap} {ps : Ledger} (S : St h₀ h ps) (o : Obj) (hf : o.isFreed = false) : St h₀ (h.push o) ((h.objs.size, o) :: ps) := by
  refine ⟨fun b x q => Heap.get?_push_of_some _ (S.keep b x q), ?_, fun p hp => ?_, nodup_lt S.lt S.nd⟩
  · have := S.size
    have e : (h.push o).objs.size = h.objs.size + 1 := by simp [Heap.push]
    exact lin [_, _, _] [] [(1, (.n (.v 0) (.v 2))), (1, (.n (.a (.v 2) (.k 1)) (.v 1)))] 1 (.n (.v 0) (.v 1)) rfl this (eq_b e)
  · rcases List.mem_cons.mp hp with rfl | hp
    · exact ⟨Heap.get?_push_size _ hf, Heap.get?_none_of_le S.size⟩
    · exact ⟨Heap.get?_push_of_some _ (S.led p hp).1, (S.led p hp).2⟩
theorem bind2 {name qual : Str} {q1 q2 q3 : Pos} {body : List Stmt} {scope : Scope} {kV doc pm cdv ct a n : Value} {an : Option Addr} {pvs : List Value} :
   bindArgs (fnOf name qual { posonlyargs := [], args := [⟨Str.ofString "self", none, q1⟩, ⟨Str.ofString "node", none, q2⟩], vararg := some ⟨Str.ofString "predecessors", none, q3⟩, kwonlyargs := [], kw_defaults := [], kwarg := none, defaults := [] } body scope .none kV doc pm an cdv ct) ⟨a :: n :: pvs, []⟩ = (newTuple pvs >>= fun t => pure [(Str.ofString "self", a), (Str.ofString "node", n), (Str.ofString "predecessors", t)]) := by
  cases pvs <;> with_unfolding_all rfl
theorem bind1 {name qual : Str} {q1 q3 : Pos} {body : List Stmt} {scope : Scope} {kV doc pm cdv ct a : Value} {an : Option Addr} {pvs : List Value} :
   bindArgs (fnOf name qual { posonlyargs := [], args := [⟨Str.ofString "self", none, q1⟩], vararg := some ⟨Str.ofString "nodes", none, q3⟩, kwonlyargs := [], kw_defaults := [], kwarg := none, defaults := [] } body scope .none kV doc pm an cdv ct) ⟨a :: pvs, []⟩ = (newTuple pvs >>= fun t => pure [(Str.ofString "self", a), (Str.ofString "nodes", t)]) := by
  cases pvs <;> with_unfolding_all rfl
/-- a call of a def that takes the rest of its arguments as a tuple -/
theorem enterV {w : World} {p : Program} {loose : List Str} {mean : ExcName → Option Value} {mg mb : Str → Option Value} {h₀ : Heap} {A : Around} {l : List Env} {need : Nat} {ps : Ledger} {s : Shared} {R : Result → Shared → Prop}
    {name qual : Str} {params : Arguments} {body : List Stmt} {scope : Scope} {dV kV doc pm cdv ct oc : Value} {an od : Option Addr} {osl : Array (Option Value)} {f : Addr} {args : Args} {vs : List Value} {bt : Value → List (Str × Value)} {binds : Addr → List (Str × Value)}
    (G : Gd w p loose mean mg mb h₀ A l need) (S : St h₀ s.heap ps)
    (ho : (Mine.hd.heap_39 w.params).lookup f = some ⟨oc, od, .func (fnOf name qual params body scope dV kV doc pm an cdv ct), osl⟩) (hcd : codeIn (Mine.hd.heap_39 w.params) cdv qual = true)
    (hv : vs.length ≤ sizeLine)
    (hp : bindArgs (fnOf name qual params body scope dV kV doc pm an cdv ct) args = (newTuple vs >>= fun t => pure (bt t))) (hbt : ∀ D, bt (.ref D) = binds D) (hloc : ∀ D, ∀ y ∈ binds D, scope.names.lookup y.1 = some .local)
    (h : ∀ h₁ D L, Fr h₀ L h₁ (fun y => (binds D).reverse.lookup y) → News h₀ L h₁ ((D, { cls := .type "tuple", data := .seq vs.toArray }) :: ps) → (∀ p ∈ ps, p.1 < D) → @LT.lt Nat _ D L → @LT.lt Nat _ L h₁.objs.size →
      ∀ (zP : Flow → Shared → Prop) (zE : Value → Shared → Prop) (_ : EntK R zP) (_ : EntE (model prg w) (A.deeper (envOf qual scope L f cdv)) (envOf qual scope L f cdv) zE),
      wpAny (model prg w) (A.deeper (envOf qual scope L f cdv)) (execs body (envOf qual scope L f cdv)) (Cont zP) zE { s with heap := h₁, toks := s.toks + (binds D).length })
    (hco : scope.isCoroutine = false := by rfl) (hgen : scope.isGenerator = false := by rfl) (hk : scope.kind = .function := by rfl)
    (hcell : ∀ x ∈ scope.names, x.2 ≠ .cell := by decide) : codeAny (model prg w) A (.call (.ref f) args) R s := by
  have X := G.X.keeps S.keep
  have S' := S.push ({ cls := .type "tuple", data := .seq vs.toArray } : Obj) rfl
  refine codeAny_call_function (fd := fnOf name qual params body scope dV kV doc pm an cdv ct) (body := body) (Nat.lt_of_le_of_lt (Nat.le_add_right _ _) G.dp) (X _ _ ho) rfl hco hgen rfl (codeRec_of X hcd) ?_
  rw [hp]
  refine wpAny_bind (wpAny_newTuple ?_ hv)
  refine wpAny_pure ?_
  rw [hbt]
  generalize hS : ({ s with heap := s.heap.push ({ cls := .type "tuple", data := .seq vs.toArray } : Obj) } : Shared) = sp
  have hh : sp.heap = s.heap.push ({ cls := .type "tuple", data := .seq vs.toArray } : Obj) := by rw [← hS]
  refine wpAny_newFunctionEnv hcell (hloc _) (fun h₁ hns hsb => ⟨(G.T.nolimit.keeps (by rw [hh]; exact S'.keep)).fresh _ hsb, codeAny_func ?_⟩) hk
  have hk₁ : ∀ b o, sp.heap.get? b = some o → h₁.get? b = some o := fun b o e => hsb.extBut b o (Nat.ne_of_lt (Heap.lt_size e)) (Heap.get?_push_of_some _ e)
  have e1 : sp.heap.objs.size = s.heap.objs.size + 1 := by rw [hh]; simp [Heap.push]
  have := h h₁ s.heap.objs.size sp.heap.objs.size ⟨hns, fun b o e => hk₁ b o (by rw [hh]; exact S'.keep b o e), by rw [e1]; have := S.size; exact lin [_, _] [] [(1, (.n (.v 0) (.v 1)))] 1 (.n (.v 0) (.a (.v 1) (.k 1))) rfl this⟩ (fun p hp => ?_) S.lt (Nat.lt_of_lt_of_eq (Nat.lt_succ_self _) e1.symm) ?_
  · rw [← hS] at this ⊢; exact ent_cut ⟨PassesOwn.leaving, fun _ => PassesOwnAt.leaving, fun _ => by passes_own⟩ this
  · obtain ⟨h1, h3⟩ := S'.led p hp
    rw [← hh] at h1
    exact ⟨hk₁ _ _ h1, Nat.ne_of_lt (Heap.lt_size h1), h3⟩
  · obtain ⟨oL, es, ep, hL, _⟩ := hns
    exact Heap.lt_size hL
end
section
theorem meets_bool_list (l : Addr) (items : Array Value) (hfit : (items.size : Int) < 2 ^ 63) :
    Meets (Builtin.«bool.__new__» ⟨[.type "bool", .ref l], []⟩) (fun _ R s => s.heap.IsList l items ∧ R (.ok (.ret (.bool (!items.isEmpty)))) { s with toks := s.toks + 1 + 1 }) :=
  Meets.of_wp fun prog w A R s hs => by
    obtain ⟨hp, g, d, tk, os⟩ := s
    obtain ⟨hl, hs⟩ := hs
    have f1 := F.conv_sub_bool
    repeat (any_goals (first | assumption | (with_reducible refine wpAny_truthy_list hl hfit ?_) | wp_step))
    all_goals first | exact ⟨_, rfl, hs⟩ | exact hs | skip
theorem call_bool_list {prog : Program} {w : World} {A : Around} {E : Value → Shared → Prop} {s : Shared} {l : Addr} {items : Array Value} {Q : Value → Shared → Prop} (hfit : (items.size : Int) < 2 ^ 63) (hl : s.heap.IsList l items) (h : ∀ tk, Q (.bool (!items.isEmpty)) { s with toks := tk }) :
    wpAny (model prog w) A (call (.type "bool") [.ref l]) Q E s :=
  call_bool_1 (meets_bool_list l items hfit) (show s.heap.IsList l items ∧ wants (fun obj s₁ => s₁.TypeIs obj "bool" ∧ Q obj s₁) E _ _ from ⟨hl, rfl, h _⟩)
section
set_option hygiene false in
local macro_rules | `(tactic| walk_at "call type:bool") => `(tactic| walk_at "st")
inductive TsPost (w : World) (x dx : Addr) : Value → Ledger → Prop
  | mk (t1 t2 t3 t4 tp tf : Tok) (d : Addr) (_ : (d == sysModules) = false) (o : Obj) (_ : IsD w o []) : TsPost w x dx .none [(d, o), (x, instObj 188 dx), (dx, sdict w t1 t2 t3 t4 d .none (.int 0 tp) (.int 0 tf))]
theorem tsinit_con (w : World) (x dx : Addr) : ConR w (.ref 124) [.ref x] 2 [(x, instObj 188 dx), (dx, dictOf [] 0)] (TsPost w x dx) := by
  intro p' loose mean mg mb h₀ A l frs rest s R G Fs S ret
  have X := G.X
  have hnd : A.handled = none := G.hn
  have T := G.T
  have kf : (Mine.hd.heap_39 w.params).In h₀ ∧ PySem.Challenge.rw_oy0269_01.row.prog = PySem.Challenge.rw_oy0269_01.row.prog := (by k_fill; exact ⟨X, rfl⟩)
  clear kf
  have nd := S.nd
  k_dflt (refine' enter G S ?ho ?hcd ?hb ?hl ?_ ?c1 ?c2 ?c3 ?c4; (case ho => k_is); (case hcd => k_is); (case hb => first | exact BindsTo.of_eq rfl | exact binds_K (G.X.keeps S.keep) rfl (by k_is) rfl rfl rfl); (case hl => exact locs rfl); (case c1 => exact rfl); (case c2 => exact rfl); (case c3 => exact rfl); (case c4 => decide))
  intro h₁ F N lt1 lt2 zP0 zE0 zK0 zO0
  dsimp only [List.cons_append, List.nil_append] at N lt1
  have ndf := nd
  dsimp only [List.cons_append, List.nil_append] at ndf
  have ndF : NDF _ := ndf
  k_steps
  rename (_ == sysModules) = false => lo
  rename _ ∧ _ ∧ AllLt _ _ => l1
  rename Obj.IsDictOf (PySem.intKind _ _) _ [] => hi
  rename Fr _ _ _ _ => F4
  rename News _ _ _ _ => N4
  exact ret _ _ _ [(_, _), (x, instObj 188 dx), (dx, sdict w _ _ _ _ _ .none (.int 0 _) (.int 0 _))] frs (TI.SameUp.refl _) Fs (St.of_news F4 N4 (fun p hp => hp) (nodup_lt (all_cons l1.1 (all_cons l1.2.1 (allLt_mem l1.2.2))) nd)) (.mk _ _ _ _ _ _ _ lo _ hi)
theorem act_con (w : World) (a ad d ra : Addr) (t1 t2 t3 t4 : Tok) (po fi : Int) (tp tf : Tok) (rvs : List Value) (nr : Nat) (hfit : (rvs.toArray.size : Int) < 2 ^ 63) : ConR w (.ref 157) [.ref a] 2 [(a, instObj 188 ad), (ad, sdict w t1 t2 t3 t4 d (.ref ra) (.int po tp) (.int fi tf)), (ra, listOf rvs.toArray nr)]
   (fun r new => r = .bool (decide (fi < po) || !rvs.isEmpty) ∧ new = [(a, instObj 188 ad), (ad, sdict w t1 t2 t3 t4 d (.ref ra) (.int po tp) (.int fi tf)), (ra, listOf rvs.toArray nr)]) := by
  intro p' loose mean mg mb h₀ A l frs rest s R G Fs S ret
  have X := G.X
  have hnd : A.handled = none := G.hn
  have T := G.T
  have kf : (Mine.hd.heap_39 w.params).In h₀ ∧ PySem.Challenge.rw_oy0269_01.row.prog = PySem.Challenge.rw_oy0269_01.row.prog := (by k_fill; exact ⟨X, rfl⟩)
  clear kf
  have nd := S.nd
  k_dflt (refine' enter G S ?ho ?hcd ?hb ?hl ?_ ?c1 ?c2 ?c3 ?c4; (case ho => k_is); (case hcd => k_is); (case hb => first | exact BindsTo.of_eq rfl | exact binds_K (G.X.keeps S.keep) rfl (by k_is) rfl rfl rfl); (case hl => exact locs rfl); (case c1 => exact rfl); (case c2 => exact rfl); (case c3 => exact rfl); (case c4 => decide))
  intro h₁ F N lt1 lt2 zP0 zE0 zK0 zO0
  dsimp only [List.cons_append, List.nil_append] at N lt1
  k_steps
  · rename _ < _ => c
    refine ret _ _ _ [(a, instObj 188 ad), (ad, sdict w t1 t2 t3 t4 d (.ref ra) (.int po tp) (.int fi tf)), (ra, listOf rvs.toArray nr)] frs (TI.SameUp.refl _) Fs (St.of_news F N (fun p hp => hp) nd) ⟨?_, rfl⟩
    simp [c]
  · refine stop_out ?_; k_dflt (refine' call_bool_list (by k_asm) (by is_list) ?_); intro _; k_steps
    rename ¬ _ < _ => c
    refine ret _ _ _ [(a, instObj 188 ad), (ad, sdict w t1 t2 t3 t4 d (.ref ra) (.int po tp) (.int fi tf)), (ra, listOf rvs.toArray nr)] frs (TI.SameUp.refl _) Fs (St.of_news F N (fun p hp => hp) nd) ⟨?_, rfl⟩
    simp [c]
end
end
section
noncomputable def updN (p : Int) (g : Nd → Nd) (ns : List Nd) : List Nd := ns.map fun d => if d.num = p then g d else d
structure Nv where
  num : Int
  np : Int
  sn : List Int
noncomputable def Nd.view (d : Nd) : Nv := ⟨d.num, d.np, d.sn⟩
noncomputable def view (ns : List Nd) : List Nv := ns.map Nd.view
noncomputable def updV (p : Int) (g : Nv → Nv) (v : List Nv) : List Nv := v.map fun e => if e.num = p then g e else e
theorem view_upd {p : Int} {g : Nd → Nd} {g' : Nv → Nv} {ns : List Nd} (h : ∀ d, (g d).view = g' d.view) : view (updN p g ns) = updV p g' (view ns) := by
  unfold view updN updV
  rw [List.map_map, List.map_map]
  refine List.map_congr_left fun d _ => ?_
  simp only [Function.comp]
  by_cases e : d.num = p
  · rw [if_pos e, if_pos (show d.view.num = p from e), h]
  · rw [if_neg e, if_neg (show d.view.num ≠ p from e)]
noncomputable def nums (ns : List Nd) : List Int := ns.map (·.num)
theorem split_num {ns : List Nd} {p : Int} (hp : p ∈ nums ns) (nd : (nums ns).Nodup) : ∃ l d r, ns = l ++ d :: r ∧ d.num = p ∧ ∀ g, updN p g ns = l ++ g d :: r := by
  induction ns with
  | nil => cases hp
  | cons e t ih =>
    obtain ⟨n1, n2⟩ := List.nodup_cons.mp nd
    by_cases q : e.num = p
    · refine ⟨[], e, t, rfl, q, fun g => ?_⟩
      unfold updN
      rw [List.map_cons, if_pos q, List.nil_append]
      congr 1
      conv => rhs; rw [← List.map_id t]
      refine List.map_congr_left fun x hx => if_neg fun e' => n1 ?_
      show e.num ∈ nums t
      rw [q, ← e']; exact List.mem_map_of_mem hx
    · have hp' : p ∈ nums t := by
        rcases List.mem_cons.mp hp with h | h
        · exact absurd h.symm q
        · exact h
      obtain ⟨l, d, r, rfl, h1, h2⟩ := ih hp' n2
      refine ⟨e :: l, d, r, rfl, h1, fun g => ?_⟩
      have := h2 g
      unfold updN at this ⊢
      rw [List.map_cons, if_neg q, this]; rfl
theorem nums_upd {p : Int} {g : Nd → Nd} {ns : List Nd} (h : ∀ d, (g d).num = d.num) : nums (updN p g ns) = nums ns := by
  unfold nums updN
  rw [List.map_map]
  refine List.map_congr_left fun d _ => ?_
  simp only [Function.comp]
  split
  · exact h d
  · rfl
theorem kvs_upd {p : Int} {g : Nd → Nd} {ns : List Nd} (h : ∀ d, (g d).num = d.num) (hx : ∀ d, (g d).x = d.x) : kvsOf (updN p g ns) = kvsOf ns := by
  unfold kvsOf updN
  rw [List.map_map]
  refine List.map_congr_left fun d _ => ?_
  simp only [Function.comp]
  split
  · rw [h, hx]
  · rfl
theorem kvs_keys (ns : List Nd) : (kvsOf ns).map (·.1) = nums ns := by unfold kvsOf nums; rw [List.map_map]; rfl
theorem kvs_at {l r : List Nd} {d : Nd} (nd : (nums (l ++ d :: r)).Nodup) : valueAt (kvsOf (l ++ d :: r)) d.num = some (.ref d.x) := by
  refine PySem.valueAt_of_get (i := l.length) (by rw [kvs_keys]; exact nd) ?_
  unfold kvsOf
  simp
theorem kvs_none {ns : List Nd} {n : Int} (h : n ∉ nums ns) : valueAt (kvsOf ns) n = none := by
  refine valueAt_none_of_not_mem ?_
  rw [kvs_keys]; exact h
theorem sled_split (l r : List Nd) (d : Nd) : sled (l ++ d :: r) = sled l ++ ((d.sa, listOf d.svs.toArray d.es) :: (d.x, nodeObj d.dx d.sa d.num d.tn d.np d.tp) :: (d.dx, dictOf [] 0) :: sled r) := by
  unfold sled
  rw [List.flatMap_append, List.flatMap_cons]; rfl
theorem sled_nil : sled [] = [] := rfl
theorem sled_snoc (l : List Nd) (d : Nd) : sled (l ++ [d]) = sled l ++ [(d.sa, listOf d.svs.toArray d.es), (d.x, nodeObj d.dx d.sa d.num d.tn d.np d.tp), (d.dx, dictOf [] 0)] := sled_split l [] d
theorem nd_of {l l' : Ledger} (nd : (l.map (·.1)).Nodup) (h : ∀ a, (l'.map (·.1)).count a = (l.map (·.1)).count a) : (l'.map (·.1)).Nodup := (List.perm_iff_count.mpr h).nodup_iff.mpr nd
theorem len_tup {w : World} {A : Around} {E : Value → Shared → Prop} {s : Shared} {h₀ : Heap} {L t : Addr} {m : Str → Option Value} {news : Ledger} {vs : List Value} {Q : Value → Shared → Prop} {k : Nat} (_F : Fr h₀ L s.heap m) (N : News h₀ L s.heap news) (hm : (t, ({ cls := .type "tuple", data := .seq vs.toArray k } : Obj)) ∈ news) (hv : vs.length ≤ sizeLine)
    (h : ∀ u tk, Q (.int vs.length u) { s with toks := tk }) : wpAny (model prg w) A (call (.builtin "len") [.ref t]) Q E s := by
  have hv2 : vs.length ≤ 2 ^ 24 := by rw [sizeLine_eq] at hv; exact hv
  refine P.len_tuple (items := vs.toArray) (N _ hm).1 ?_ ?_
  · simp only [List.size_toArray]; omega
  · simp only [List.size_toArray]; exact h _ _
theorem lt_map {news news₀ : Ledger} {I : Addr} (h : ∀ p ∈ news₀, p.1 < I) (e : news.map (·.1) = news₀.map (·.1)) : ∀ p ∈ news, p.1 < I := fun p hp => by
  have : p.1 ∈ news₀.map (·.1) := by rw [← e]; exact List.mem_map_of_mem hp
  obtain ⟨p', hp', e'⟩ := List.mem_map.mp this
  rw [← e']
  exact h p' hp'
theorem clear_K {w : World} {A : Around} {E : Value → Shared → Prop} {s : Shared} {h₀ : Heap} {L D : Addr} {m : Str → Option Value} {news : Ledger} {g : Obj → Ledger} {its : Array Value} {n : Nat} {Q : Value → Shared → Prop} (F : Fr h₀ L s.heap m) (N : News h₀ L s.heap news) (U : UpdF D (listOf its n) news g) (hz : its.size ≤ sizeLine)
    (h : ∀ h' k, Fr h₀ L h' m → News h₀ L h' (g (listOf #[] k)) → Q .none { s with heap := h' }) : wpAny (model prg w) A (call (.builtin "list.clear") [.ref D]) Q E s := by
  obtain ⟨pre, post, rfl, hg, a, c⟩ := U.split
  have z := N (D, listOf its n) (List.mem_append.mpr (.inr (.head _)))
  refine call_meets PySem.F.slot_list_clear ⟨_, z.1, rfl⟩ PySem.F.entry_list_clear (PySem.F.args_list_clear_1 _) (PySem.AutoSeq1.list_clear_list_0 D its n hz) ⟨z.1, h _ _ (F.change (Heap.SameBut.update ..) z.2.1 z.2.2) (hg _ ▸ N.setIn a c (Heap.SameBut.update ..) (PySem.IsL.update z.1 fun _ => #[]))⟩
noncomputable def addPred (n : Int) (ns : List Nv) (p : Int) : List Nv := updV p (fun e => ⟨e.num, e.np, e.sn ++ [n]⟩) ns
noncomputable def addV (v : List Nv) (n : Int) (ps : List Int) : List Nv := ps.foldl (addPred n) (v ++ [⟨n, ps.length, []⟩])
structure WF (ns : List Nd) : Prop where
  nd : (nums ns).Nodup
  ia : ∀ d ∈ ns, IntsAre d.svs d.sn
  small : ns.length ≤ 64
  few : ∀ d ∈ ns, d.sn.length ≤ 1000
end
noncomputable def OrM (P : Prop) : Prop := P
theorem OrM.mk {P : Prop} (h : P) : OrM P := h
theorem or_go {P Q G : Prop} (h : OrM (P ∨ Q)) (l : OrM P → G) (r : OrM Q → G) : G := Or.elim h l r
set_option hygiene false in
local macro_rules | `(tactic| walk_at "or.find") => `(tactic| first | assumption | (apply Or.inl; walk_at "or.find") | (apply Or.inr; walk_at "or.find"))
local macro_rules | `(tactic| walk_at "or.split") => `(tactic| first | (rename OrM (_ ∨ _) => hh; (refine or_go hh (fun h1 => ?_) (fun h1 => ?_) <;> (clear hh; walk_at "or.split"))) | walk_at "or.find")
section
section
noncomputable def afm (a D x : Addr) (nv : Value) (pred pi : Option Value) : Str → Option Value := fun y =>
  if y = Str.ofString "self" then some (.ref a) else if y = Str.ofString "node" then some nv else if y = Str.ofString "predecessors" then some (.ref D) else if y = Str.ofString "nodeinfo" then some (.ref x) else if y = Str.ofString "pred" then pred else if y = Str.ofString "pred_info" then pi else none
theorem afm_eq {m : Str → Option Value} {a D x : Addr} {nv : Value} {pred pi : Option Value} (h1 : m (Str.ofString "self") = some (.ref a)) (h2 : m (Str.ofString "node") = some nv) (h3 : m (Str.ofString "predecessors") = some (.ref D)) (h4 : m (Str.ofString "nodeinfo") = some (.ref x)) (h5 : m (Str.ofString "pred") = pred) (h6 : m (Str.ofString "pred_info") = pi)
    (h : ∀ y, y ≠ Str.ofString "self" → y ≠ Str.ofString "node" → y ≠ Str.ofString "predecessors" → y ≠ Str.ofString "nodeinfo" → y ≠ Str.ofString "pred" → y ≠ Str.ofString "pred_info" → m y = none) : ∀ y, m y = afm a D x nv pred pi y := by
  intro y
  unfold afm
  by_cases q1 : y = Str.ofString "self"
  · rw [if_pos q1, q1]; exact h1
  rw [if_neg q1]
  by_cases q2 : y = Str.ofString "node"
  · rw [if_pos q2, q2]; exact h2
  rw [if_neg q2]
  by_cases q3 : y = Str.ofString "predecessors"
  · rw [if_pos q3, q3]; exact h3
  rw [if_neg q3]
  by_cases q4 : y = Str.ofString "nodeinfo"
  · rw [if_pos q4, q4]; exact h4
  rw [if_neg q4]
  by_cases q5 : y = Str.ofString "pred"
  · rw [if_pos q5, q5]; exact h5
  rw [if_neg q5]
  by_cases q6 : y = Str.ofString "pred_info"
  · rw [if_pos q6, q6]; exact h6
  rw [if_neg q6]
  exact h y q1 q2 q3 q4 q5 q6
theorem afm_none {a D x : Addr} {nv : Value} {pred pi : Option Value} (y : Str) (a1 : y ≠ Str.ofString "self") (a2 : y ≠ Str.ofString "node") (a3 : y ≠ Str.ofString "predecessors") (a4 : y ≠ Str.ofString "nodeinfo") (a5 : y ≠ Str.ofString "pred") (a6 : y ≠ Str.ofString "pred_info") : afm a D x nv pred pi y = none := by
  simp only [afm, if_neg a1, if_neg a2, if_neg a3, if_neg a4, if_neg a5, if_neg a6]
set_option hygiene false in
local macro_rules | `(tactic| walk_at "call builtin:list.append") => `(tactic| walk_at "st")
set_option hygiene false in
local macro_rules | `(tactic| walk_at "call builtin:len") => `(tactic| walk_at "st")
theorem np_tok {h₀ h : Heap} {L x dx sa : Addr} {o1 : Obj} {n k : Int} {tn tq : Tok} {tail : Ledger} (N : News h₀ L h ((sa, o1) :: (x, nodeObj dx sa n tn k tq) :: tail)) : ∃ tq, News h₀ L h ((sa, o1) :: (x, nodeObj dx sa n tn k tq) :: tail) := ⟨tq, N⟩
theorem sled_addr {p : Int} {g : Nd → Nd} {ns : List Nd} (h1 : ∀ d, (g d).x = d.x) (h2 : ∀ d, (g d).dx = d.dx) (h3 : ∀ d, (g d).sa = d.sa) : (sled (updN p g ns)).map (·.1) = (sled ns).map (·.1) := by
  unfold sled updN
  rw [List.flatMap_map]
  induction ns with
  | nil => rfl
  | cons d t ih =>
    rw [List.flatMap_cons, List.flatMap_cons, List.map_append, List.map_append, ih]
    congr 1
    split
    · simp [Nd.led, h1, h2, h3]
    · rfl
noncomputable def addG (n : Int) (tn : Tok) (d : Nd) : Nd := { d with svs := d.svs ++ [.int n tn], sn := d.sn ++ [n], es := d.es + 1 }
/-- what holds in the midst of add -/
inductive AddJ (w : World) (a ad d : Addr) (t1 t2 t3 t4 : Tok) (po fi : Value) (o2 : Obj) (ns : List Nd) (n : Int) (tn : Tok) (pvs : List Value) (ps : List Int) (x D : Addr) (rest frs : Ledger) (l : List Env) (ad0 : List Addr) (i : Nat) : (Str → Option Value) → Ledger → Prop
  | mk (ns' : List Nd) (pd pi : Option Value) (frs' : Ledger) (_ : view ns' = (ps.take i).foldl (addPred n) (view ns ++ [⟨n, ps.length, []⟩])) (_ : WF ns') (_ : nums ns' = nums ns ++ [n]) (_ : kvsOf ns' = kvsOf ns ++ [(n, .ref x)]) (_ : ∀ e ∈ ns', e.sn.length ≤ 990 + i)
    (_ : TI.SameUp frs frs') (_ : TI.Frs l frs') (_ : ((a, instObj 188 ad) :: (ad, sdict w t1 t2 t3 t4 d .none po fi) :: (d, o2) :: (D, { cls := .type "tuple", data := .seq pvs.toArray }) :: (sled ns' ++ (rest ++ frs')) : Ledger).map (·.1) = ad0) :
    AddJ w a ad d t1 t2 t3 t4 po fi o2 ns n tn pvs ps x D rest frs l ad0 i (afm a D x (.int n tn) pd pi) ((a, instObj 188 ad) :: (ad, sdict w t1 t2 t3 t4 d .none po fi) :: (d, o2) :: (D, { cls := .type "tuple", data := .seq pvs.toArray }) :: (sled ns' ++ (rest ++ frs')))
inductive AddPost (w : World) (a ad d : Addr) (t1 t2 t3 t4 : Tok) (po fi : Value) (ns : List Nd) (n : Int) (ps : List Int) : Value → Ledger → Prop
  | mk (ns' : List Nd) (o' : Obj) (_ : view ns' = addV (view ns) n ps) (_ : IsD w o' (kvsOf ns')) (_ : WF ns') : AddPost w a ad d t1 t2 t3 t4 po fi ns n ps .none ((a, instObj 188 ad) :: (ad, sdict w t1 t2 t3 t4 d .none po fi) :: (d, o') :: sled ns')
theorem add_con (w : World) (a ad d : Addr) (t1 t2 t3 t4 : Tok) (po fi : Value) (o : Obj) (ns : List Nd) (n : Int) (tn : Tok) (pvs : List Value) (ps : List Int) (hP : IntsAre pvs ps) (hd : IsD w o (kvsOf ns)) (lo : (d == sysModules) = false) (wf : WF ns) (hn : n ∉ nums ns) (hps : ∀ p ∈ ps, p ∈ nums ns) (hsz : ns.length < 64) (hl : ps.length < 10) (hfew : ∀ e ∈ ns, e.sn.length ≤ 990) :
    ConR w (.ref 138) (.ref a :: .int n tn :: pvs) 6 ((a, instObj 188 ad) :: (ad, sdict w t1 t2 t3 t4 d .none po fi) :: (d, o) :: sled ns)
    (AddPost w a ad d t1 t2 t3 t4 po fi ns n ps) := by
  have hvl : pvs.length ≤ sizeLine := by rw [hP.length, sizeLine_eq]; exact lin [_, _] [] [(1, (.n (.a (.v 0) (.k 1)) (.k 10))), (1, (.n (.k 2000) (.v 1)))] 1 (.n (.v 0) (.v 1)) rfl hl (Nat.le_of_ble_eq_true rfl : 2000 ≤ 16777216)
  intro p' loose mean mg mb h₀ A l frs rest s R G Fs S ret
  have X := G.X
  have hnd : A.handled = none := G.hn
  have T := G.T
  have kf : (Mine.hd.heap_39 w.params).In h₀ ∧ PySem.Challenge.rw_oy0269_01.row.prog = PySem.Challenge.rw_oy0269_01.row.prog := (by k_fill; exact ⟨X, rfl⟩)
  clear kf
  have nd := S.nd
  k_dflt (refine' enterV (vs := pvs) (binds := (fun D : Addr => [(Str.ofString "self", Value.ref a), (Str.ofString "node", .int n tn), (Str.ofString "predecessors", .ref D)])) G S ?ho ?hcd ?hv ?hp ?hbt ?hl ?_ ?c1 ?c2 ?c3 ?c4; (case ho => k_is); (case hcd => k_is); (case hv => assumption); (case hp => first | exact bind2 | exact bind1); (case hbt => exact fun _ => rfl); (case hl => exact fun _ => locs rfl); (case c1 => exact rfl); (case c2 => exact rfl); (case c3 => exact rfl); (case c4 => decide))
  intro h₁ D L F N lt1 ltD lt2 zP0 zE0 zK0 zO0
  dsimp only [List.cons_append, List.nil_append] at N lt1
  k_steps
  have ndT := nodup_lt (d := D) (o := { cls := .type "tuple", data := .seq pvs.toArray }) lt1 nd
  have hks : (kvsOf ns).length ≤ sizeLine := by rw [sizeLine_eq]; unfold kvsOf; rw [List.length_map]; exact lin [_, _] [] [(1, (.n (.a (.v 0) (.k 1)) (.k 64))), (1, (.n (.k 2000) (.v 1)))] 1 (.n (.v 0) (.v 1)) rfl hsz (Nat.le_of_ble_eq_true rfl : 2000 ≤ 16777216)
  refine use_con (rest := (D, { cls := .type "tuple", data := .seq pvs.toArray }) :: (sled ns ++ rest)) (frs := frs) (gni_new w a ad d t1 t2 t3 t4 .none po fi o (kvsOf ns) n tn hd lo (kvs_none hn) hks).con ((G.deeper _).le (by decide)) (by intro h; cases h) rfl Fs F N (by (intro p hp; simp only [List.cons_append, List.nil_append, List.append_assoc, List.append_nil, sled_split, sled_nil, List.mem_cons, List.mem_append, List.not_mem_nil, or_false, or_assoc] at hp ⊢; have hm := OrM.mk hp; clear hp; walk_at "or.split")) (by (refine nd_of ndT ?_; (intro a; simp only [List.cons_append, List.nil_append, List.append_assoc, List.append_nil, sled_split, sled_nil, List.map_cons, List.map_append, List.map_nil, List.count_append, List.count_cons, List.count_nil, Nat.add_zero, Nat.zero_add]; ac_rfl))) ?_
  rintro r1 h2 tk2 new frs2 SU2 Fs2 F2 N2 nd2 ⟨x, dx, sa, tp, o2, hd2⟩
  dsimp only [List.cons_append, List.nil_append] at N2 nd2
  clear F N
  have ndf := nd2
  have ndF : NDF _ := ndf
  dsimp only
  k_steps
  refine stop_out ?_; k_dflt (refine' len_tup (by k_asm) (by k_asm) (by k_mem) (by assumption) ?_); intro _ _; k_steps
  refine stop_out ?_
  rename Fr _ _ _ _ => F3
  rename_i N3
  have hnp : (0 : Int) + (pvs.length : Int) = ps.length := by rw [hP.length]; exact go_eqi (lin [_] [] [] 1 (.i (.a (.k 0) (.n (.v 0))) (.n (.v 0))) rfl) (lin [_] [] [] 1 (.i (.n (.v 0)) (.a (.k 0) (.n (.v 0)))) rfl)
  rw [hnp] at N3
  simp only [List.append_assoc] at N3
  obtain ⟨tq, N4⟩ := np_tok N3
  generalize hnw : ((a, instObj 188 ad) :: (ad, sdict w t1 t2 t3 t4 d .none po fi) :: (d, o2) :: (D, { cls := .type "tuple", data := .seq pvs.toArray }) :: (sled (ns ++ [⟨n, x, dx, sa, tn, tq, ps.length, [], [], 0⟩]) ++ (rest ++ frs2)) : Ledger) = nw
  have N5 : News h₀ L _ nw := fun p hp => N4 p (by rw [← hnw] at hp; revert p; (intro p hp; simp only [List.cons_append, List.nil_append, List.append_assoc, List.append_nil, sled_split, sled_nil, List.mem_cons, List.mem_append, List.not_mem_nil, or_false, or_assoc] at hp ⊢; have hm := OrM.mk hp; clear hp; walk_at "or.split"))
  have nd5 : (nw.map (·.1)).Nodup := by rw [← hnw]; (refine nd_of nd2 ?_; (intro a; simp only [List.cons_append, List.nil_append, List.append_assoc, List.append_nil, sled_split, sled_nil, List.map_cons, List.map_append, List.map_nil, List.count_append, List.count_cons, List.count_nil, Nat.add_zero, Nat.zero_add]; ac_rfl))
  have off5 : ∀ (news : Ledger), news.map (·.1) = nw.map (·.1) → ∀ p ∈ news, p.1 ≠ _ := fun news q => off_map (off_new N5) q
  refine for_tup (L := L) (vs := pvs) (nl := 0) (AddJ w a ad d t1 t2 t3 t4 po fi o2 ns n tn pvs ps x D rest frs l (nw.map (·.1))) hnd rfl (m₀ := afm a D x (.int n tn) none none) (news₀ := nw) ?_ N5 ?_ ?_ ?_ rfl rfl (by passes_own) ?_ ?_
  · refine fr_congr F3 (afm_eq rfl rfl rfl rfl rfl rfl ?_)
    intro y a1 a2 a3 a4 a5 a6
    simp only [if_neg a4, List.reverse_cons, List.reverse_nil, List.nil_append, List.cons_append, List.lookup, beq_eq_false_iff_ne.mpr a1, beq_eq_false_iff_ne.mpr a2, beq_eq_false_iff_ne.mpr a3]
  · rw [← hnw]; exact .tail _ (.tail _ (.tail _ (.head _)))
  · rw [← hnw]; refine .mk _ none none frs2 ?_ ?_ ?_ ?_ ?_ SU2 Fs2 rfl
    · simp [view, Nd.view]
    · refine ⟨?_, ?_, ?_, ?_⟩
      · simp only [nums, List.map_append, List.map_cons, List.map_nil]
        exact List.nodup_append.mpr ⟨wf.nd, by simp, by simpa [nums] using fun e he q => hn (by rw [← q]; exact List.mem_map_of_mem he)⟩
      · intro e he
        rcases List.mem_append.mp he with he | he
        · exact wf.ia e he
        · rw [List.mem_singleton.mp he]; exact .nil
      · rw [List.length_append]; exact hsz
      · intro e he
        rcases List.mem_append.mp he with he | he
        · exact wf.few e he
        · rw [List.mem_singleton.mp he]; exact Nat.zero_le _
    · simp [nums]
    · simp [kvsOf]
    · intro e he
      rcases List.mem_append.mp he with he | he
      · have := hfew e he; exact lin [_] [] [(1, (.n (.v 0) (.k 990)))] 1 (.n (.v 0) (.a (.k 990) (.k 0))) rfl this
      · rw [List.mem_singleton.mp he]; exact Nat.zero_le _
  · rintro i m news ⟨ns', pd, pi, frs', h1, h2, h3, h4, h5, h7, h8, h9⟩
    exact ⟨.tail _ (.tail _ (.tail _ (.head _))), off5 _ h9⟩
  · rintro i v m news oI h6 tk6 I hI hv ⟨ns', pd, pi, frs', h1, h2, h3, h4, h5, h7, h8, h9⟩ F6 N6 zP1 zK1
    obtain ⟨p, tp6, rfl, hp⟩ := hP.at i v hv
    clear F3 N3 N4
    have hpn : p ∈ nums ns' := by rw [h3]; exact List.mem_append_left _ (hps p (List.mem_of_getElem? hp))
    obtain ⟨lN, dN, rN, rfl, rfl, hu⟩ := split_num hpn h2.nd
    have nd7 := nd5
    rw [← h9] at nd7
    have nd6 := nodup_lt (d := I) (o := oI) (by rw [hI]; exact lt_map (lt_new N5) h9) nd7
    k_steps
    have hd6 : IsD w o2 (kvsOf (lN ++ dN :: rN)) := by rw [h4]; exact hd2
    have hsl : dN.svs.length ≤ 1000 := by rw [(h2.ia dN (by simp)).length]; exact h2.few dN (by simp)
    refine use_con (rest := (I, oI) :: (D, { cls := .type "tuple", data := .seq pvs.toArray }) :: (dN.sa, listOf dN.svs.toArray dN.es) :: (dN.x, nodeObj dN.dx dN.sa dN.num dN.tn dN.np dN.tp) :: (dN.dx, dictOf [] 0) :: (sled lN ++ (sled rN ++ rest))) (frs := frs') (gni_old w a ad d dN.x t1 t2 t3 t4 .none po fi o2 _ dN.num tp6 hd6 lo (kvs_at h2.nd)).con ((G.deeper _).le (by decide)) (by intro h; cases h) rfl h8 F6 N6 (by (intro p hp; simp only [List.cons_append, List.nil_append, List.append_assoc, List.append_nil, sled_split, sled_nil, List.mem_cons, List.mem_append, List.not_mem_nil, or_false, or_assoc] at hp ⊢; have hm := OrM.mk hp; clear hp; walk_at "or.split")) (by (refine nd_of nd6 ?_; (intro a; simp only [List.cons_append, List.nil_append, List.append_assoc, List.append_nil, sled_split, sled_nil, List.map_cons, List.map_append, List.map_nil, List.count_append, List.count_cons, List.count_nil, Nat.add_zero, Nat.zero_add]; ac_rfl))) ?_
    rintro r1 h7' tk7 new7 frs7 SU7 Fs7 F7 N7 nd8 ⟨rfl, rfl⟩
    simp only [List.append_assoc, List.cons_append, List.nil_append] at N7 nd8
    clear F6 N6
    have ndf := nd8
    have ndF : NDF _ := ndf
    dsimp only
    k_steps
    refine stop_out ?_; (k_dflt (refine' append_K (by k_asm) (by k_asm) (by k_upd) ?_ (by rw [List.size_toArray, sizeLine_eq]; omega); k_whole)); intro h8 F8 N8; (try k_sweep); k_steps
    simp only [List.push_toArray] at N8
    have hg : sled (lN ++ addG n tn dN :: rN) = sled lN ++ ((dN.sa, listOf (dN.svs ++ [Value.int n tn]).toArray (dN.es + 1)) :: (dN.x, nodeObj dN.dx dN.sa dN.num dN.tn dN.np dN.tp) :: (dN.dx, dictOf [] 0) :: sled rN) := sled_split lN rN (addG n tn dN)
    have hadr : (List.map (·.1) (sled (lN ++ addG n tn dN :: rN))) = List.map (·.1) (sled (lN ++ dN :: rN)) := by rw [← hu]; exact sled_addr (fun _ => rfl) (fun _ => rfl) (fun _ => rfl)
    refine for_nx zK1 (news := (a, instObj 188 ad) :: (ad, sdict w t1 t2 t3 t4 d .none po fi) :: (d, o2) :: (D, { cls := .type "tuple", data := .seq pvs.toArray }) :: (sled (lN ++ addG n tn dN :: rN) ++ (rest ++ frs7))) (fr_congr F8 (afm_eq rfl rfl rfl rfl rfl rfl ?_)) (fun p hp => N8 p ?_) (.mk _ _ _ frs7 ?_ ?_ ?_ ?_ ?_ (TI.SameUp.trans h7 SU7) Fs7 ?_)
    · (intro y a1 a2 a3 a4 a5 a6; (try simp only [if_neg a1, if_neg a2, if_neg a3, if_neg a4, if_neg a5, if_neg a6]); exact afm_none y a1 a2 a3 a4 a5 a6)
    · rw [hg] at hp; revert p; (intro p hp; simp only [List.cons_append, List.nil_append, List.append_assoc, List.append_nil, sled_split, sled_nil, List.mem_cons, List.mem_append, List.not_mem_nil, or_false, or_assoc] at hp ⊢; have hm := OrM.mk hp; clear hp; walk_at "or.split")
    · rw [← hu, view_upd (g' := fun e => ⟨e.num, e.np, e.sn ++ [n]⟩) (fun _ => rfl), h1, List.take_add_one, hp, List.foldl_append]; rfl
    · have hnu : nums (lN ++ addG n tn dN :: rN) = nums (lN ++ dN :: rN) := by rw [← hu]; exact nums_upd fun _ => rfl
      have hil : i < ps.length := (List.getElem?_eq_some_iff.mp hp).1
      have hmem : ∀ e ∈ lN ++ addG n tn dN :: rN, e = addG n tn dN ∨ e ∈ lN ++ dN :: rN := by
        intro e he
        simp only [List.mem_append, List.mem_cons] at he ⊢
        (have hm := OrM.mk he; walk_at "or.split")
      refine ⟨by rw [hnu]; exact h2.nd, fun e he => ?_, by have := h2.small; simpa using this, fun e he => ?_⟩
      · rcases hmem e he with rfl | he
        · exact (h2.ia dN (by simp)).append (.cons _ _ .nil)
        · exact h2.ia e he
      · rcases hmem e he with rfl | he
        · have := h5 dN (by simp)
          simp only [addG, List.length_append, List.length_cons, List.length_nil]
          exact lin [_, _, _] [] [(1, (.n (.a (.v 1) (.k 1)) (.k 10))), (1, (.n (.a (.v 2) (.k 1)) (.v 1))), (1, (.n (.v 0) (.a (.k 990) (.v 2))))] 1 (.n (.a (.v 0) (.a (.k 0) (.k 1))) (.k 1000)) rfl hl hil this
        · exact h2.few e he
    · rw [← hu, nums_upd (g := addG n tn) fun _ => rfl]; exact h3
    · rw [← hu, kvs_upd (g := addG n tn) (fun _ => rfl) fun _ => rfl]; exact h4
    · intro e he
      simp only [List.mem_append, List.mem_cons] at he
      rcases he with he | rfl | he
      · have := h5 e (List.mem_append_left _ he); exact lin [_, _] [] [(1, (.n (.v 0) (.a (.k 990) (.v 1))))] 1 (.n (.v 0) (.a (.k 990) (.a (.v 1) (.k 1)))) rfl this
      · have := h5 dN (by simp)
        simp only [addG, List.length_append, List.length_cons, List.length_nil]; exact lin [_, _] [] [(1, (.n (.v 0) (.a (.k 990) (.v 1))))] 1 (.n (.a (.v 0) (.a (.k 0) (.k 1))) (.a (.k 990) (.a (.v 1) (.k 1)))) rfl this
      · have := h5 e (List.mem_append_right _ (.tail _ he)); exact lin [_, _] [] [(1, (.n (.v 0) (.a (.k 990) (.v 1))))] 1 (.n (.v 0) (.a (.k 990) (.a (.v 1) (.k 1)))) rfl this
    · rw [← h9]
      simp only [List.map_cons, List.map_append, hadr, su_map SU7]
  · rintro m news h6 tk6 ⟨ns', pd, pi, frs', h1, h2, h3, h4, h5, h7, h8, h9⟩ F6 N6
    clear F3 N3 N4
    rw [hP.length, List.take_length] at h1
    k_steps
    have nd7 := nd5
    rw [← h9] at nd7
    refine ret _ _ _ ((a, instObj 188 ad) :: (ad, sdict w t1 t2 t3 t4 d .none po fi) :: (d, o2) :: sled ns') frs' h7 h8 (St.of_news F6 N6 (by (intro p hp; simp only [List.cons_append, List.nil_append, List.append_assoc, List.append_nil, sled_split, sled_nil, List.mem_cons, List.mem_append, List.not_mem_nil, or_false, or_assoc] at hp ⊢; have hm := OrM.mk hp; clear hp; walk_at "or.split")) ?_) (.mk ns' o2 h1 (by rw [h4]; exact hd2) h2)
    exact (List.nodup_cons.mp (by (refine nd_of nd7 ?_; (intro a; simp only [List.cons_append, List.nil_append, List.append_assoc, List.append_nil, sled_split, sled_nil, List.map_cons, List.map_append, List.map_nil, List.count_append, List.count_cons, List.count_nil, Nat.add_zero, Nat.zero_add]; ac_rfl)) : (((D, { cls := .type "tuple", data := .seq pvs.toArray }) :: ((a, instObj 188 ad) :: (ad, sdict w t1 t2 t3 t4 d .none po fi) :: (d, o2) :: (sled ns' ++ (rest ++ frs')))).map (·.1)).Nodup)).2
end
end
section
section
set_option hygiene false in
local macro_rules | `(tactic| walk_at "call builtin:len") => `(tactic| walk_at "st")
noncomputable def gfm (a D d : Addr) (node : Option Value) : Str → Option Value := fun y =>
  if y = Str.ofString "self" then some (.ref a) else if y = Str.ofString "result" then some (.ref D) else if y = Str.ofString "n2i" then some (.ref d) else if y = Str.ofString "node" then node else none
theorem gfm_eq {m : Str → Option Value} {a D d : Addr} {node : Option Value} (h1 : m (Str.ofString "self") = some (.ref a)) (h2 : m (Str.ofString "result") = some (.ref D)) (h3 : m (Str.ofString "n2i") = some (.ref d)) (h4 : m (Str.ofString "node") = node)
    (h : ∀ y, y ≠ Str.ofString "self" → y ≠ Str.ofString "result" → y ≠ Str.ofString "n2i" → y ≠ Str.ofString "node" → m y = none) : ∀ y, m y = gfm a D d node y := by
  intro y
  unfold gfm
  by_cases q1 : y = Str.ofString "self"
  · rw [if_pos q1, q1]; exact h1
  rw [if_neg q1]
  by_cases q2 : y = Str.ofString "result"
  · rw [if_pos q2, q2]; exact h2
  rw [if_neg q2]
  by_cases q3 : y = Str.ofString "n2i"
  · rw [if_pos q3, q3]; exact h3
  rw [if_neg q3]
  by_cases q4 : y = Str.ofString "node"
  · rw [if_pos q4, q4]; exact h4
  rw [if_neg q4]
  exact h y q1 q2 q3 q4
theorem gfm_none {a D d : Addr} {node : Option Value} (y : Str) (a1 : y ≠ Str.ofString "self") (a2 : y ≠ Str.ofString "result") (a3 : y ≠ Str.ofString "n2i") (a4 : y ≠ Str.ofString "node") : gfm a D d node y = none := by
  simp only [gfm, if_neg a1, if_neg a2, if_neg a3, if_neg a4]
set_option hygiene false in
local macro_rules | `(tactic| walk_at "subscriptTail Name Name ref int") => `(tactic| walk_at "st")
noncomputable def npG (k : Int) (t : Tok) (d : Nd) : Nd := { d with np := k, tp := t }
theorem sled_npG (k : Int) (t : Tok) (l r : List Nd) (d : Nd) : sled (l ++ npG k t d :: r) = sled l ++ ((d.sa, listOf d.svs.toArray d.es) :: (d.x, nodeObj d.dx d.sa d.num d.tn k t) :: (d.dx, dictOf [] 0) :: sled r) := sled_split l r (npG k t d)
theorem wf_upd {ns : List Nd} {p : Int} {g : Nd → Nd} (h : WF ns) (h1 : ∀ d, (g d).num = d.num) (h2 : ∀ d, (g d).svs = d.svs) (h3 : ∀ d, (g d).sn = d.sn) : WF (updN p g ns) := by
  refine ⟨by rw [nums_upd h1]; exact h.nd, fun e he => ?_, by unfold updN; rw [List.length_map]; exact h.small, fun e he => ?_⟩
  · obtain ⟨q, hq, rfl⟩ := List.mem_map.mp he
    split
    · rw [h2, h3]; exact h.ia q hq
    · exact h.ia q hq
  · obtain ⟨q, hq, rfl⟩ := List.mem_map.mp he
    split
    · rw [h3]; exact h.few q hq
    · exact h.few q hq
noncomputable def setNp (k : Int) (v : List Nv) (p : Int) : List Nv := updV p (fun e => ⟨e.num, k, e.sn⟩) v
inductive RdyJ (ns : List Nd) (rs : List Int) (k : Int) (fm : Option Value → Str → Option Value) (front : Ledger) (back : Ledger) (ad0 : List Addr) (i : Nat) : (Str → Option Value) → Ledger → Prop
  | mk (ns' : List Nd) (pd : Option Value) (_ : view ns' = (rs.take i).foldl (setNp k) (view ns)) (_ : WF ns') (_ : nums ns' = nums ns) (_ : kvsOf ns' = kvsOf ns) (_ : (front ++ (sled ns' ++ back)).map (·.1) = ad0) : RdyJ ns rs k fm front back ad0 i (fm pd) (front ++ (sled ns' ++ back))
inductive RdyPost (w : World) (a ad d ra : Addr) (t1 t2 t3 t4 : Tok) (po fi : Int) (tf : Tok) (o : Obj) (ns : List Nd) (rvs : List Value) (rs : List Int) : Value → Ledger → Prop
  | mk (R : Addr) (ns' : List Nd) (tp' : Tok) (nr' : Nat) (_ : view ns' = rs.foldl (setNp (-1)) (view ns)) (_ : kvsOf ns' = kvsOf ns) (_ : WF ns') : RdyPost w a ad d ra t1 t2 t3 t4 po fi tf o ns rvs rs (.ref R)
      ((R, { cls := .type "tuple", data := .seq rvs.toArray }) :: (a, instObj 188 ad) :: (ad, sdict w t1 t2 t3 t4 d (.ref ra) (.int (po + rs.length) tp') (.int fi tf)) :: (d, o) :: (ra, listOf #[] nr') :: sled ns')
set_option hygiene false in
local macro_rules | `(tactic| walk_at "call type:tuple") => `(tactic| walk_at "st")
set_option hygiene false in
local macro_rules | `(tactic| walk_at "call builtin:list.clear") => `(tactic| walk_at "st")
theorem ready_con (w : World) (a ad d ra : Addr) (t1 t2 t3 t4 : Tok) (po fi : Int) (tp tf : Tok) (o : Obj) (ns : List Nd) (rvs : List Value) (rs : List Int) (nr : Nat) (hR : IntsAre rvs rs) (hd : IsD w o (kvsOf ns)) (lo : (d == sysModules) = false) (wf : WF ns) (hrs : ∀ p ∈ rs, p ∈ nums ns) (hl : rs.length ≤ 64) :
    ConR w (.ref 150) [.ref a] 2 ((a, instObj 188 ad) :: (ad, sdict w t1 t2 t3 t4 d (.ref ra) (.int po tp) (.int fi tf)) :: (d, o) :: (ra, listOf rvs.toArray nr) :: sled ns)
    (RdyPost w a ad d ra t1 t2 t3 t4 po fi tf o ns rvs rs) := by
  have hvl : rvs.length ≤ sizeLine := by rw [hR.length, sizeLine_eq]; omega
  have hv2 : rvs.toArray.size ≤ 16384 := by rw [List.size_toArray, hR.length]; omega
  have hv3 : rvs.toArray.size ≤ sizeLine := by rw [List.size_toArray]; exact hvl
  intro p' loose mean mg mb h₀ A l frs rest s R G Fs S ret
  have X := G.X
  have hnd : A.handled = none := G.hn
  have T := G.T
  have kf : (Mine.hd.heap_39 w.params).In h₀ ∧ PySem.Challenge.rw_oy0269_01.row.prog = PySem.Challenge.rw_oy0269_01.row.prog := (by k_fill; exact ⟨X, rfl⟩)
  clear kf
  have nd := S.nd
  k_dflt (refine' enter G S ?ho ?hcd ?hb ?hl ?_ ?c1 ?c2 ?c3 ?c4; (case ho => k_is); (case hcd => k_is); (case hb => first | exact BindsTo.of_eq rfl | exact binds_K (G.X.keeps S.keep) rfl (by k_is) rfl rfl rfl); (case hl => exact locs rfl); (case c1 => exact rfl); (case c2 => exact rfl); (case c3 => exact rfl); (case c4 => decide))
  intro h₁ F N lt1 lt2 zP0 zE0 zK0 zO0
  dsimp only [List.cons_append, List.nil_append] at N lt1
  dsimp only [List.cons_append, List.nil_append] at nd
  k_steps
  refine stop_out ?_; k_dflt (refine' kde_tupleOf (by k_asm) (by k_asm) (by is_list) (by assumption) (by exact rfl) ?_; k_whole); intro D h8 F8a N8a l1; (try k_lt l1); (try k_sweep); k_steps
  refine stop_out ?_
  rename Fr _ _ _ _ => F3
  rename_i N3
  have ndD := nodup_lt (d := D) (o := { cls := .type "tuple", data := .seq rvs.toArray }) (all_cons l1.1 (all_cons l1.2.1 (all_cons l1.2.2.1 (all_cons l1.2.2.2.1 (allLt_mem l1.2.2.2.2))))) nd
  have off5 : ∀ (news : Ledger), news.map (·.1) = _ → ∀ p ∈ news, p.1 ≠ _ := fun news q => off_map (off_new N3) q
  let front : Ledger := [(D, { cls := .type "tuple", data := .seq rvs.toArray }), (a, instObj 188 ad), (ad, sdict w t1 t2 t3 t4 d (.ref ra) (.int po tp) (.int fi tf)), (d, o), (ra, listOf rvs.toArray nr)]
  refine for_tup (L := s.heap.objs.size) (vs := rvs) (nl := 0) (RdyJ ns rs (-1) (gfm a D d) front (rest ++ frs) ((front ++ (sled ns ++ (rest ++ frs))).map (·.1))) hnd rfl (m₀ := gfm a D d none) ?_ N3 ?_ ?_ ?_ rfl rfl (by passes_own) ?_ ?_
  · refine fr_congr F3 (gfm_eq rfl rfl rfl rfl ?_)
    intro y a1 a2 a3 a4
    simp only [if_neg a2, if_neg a3]
    change List.lookup y [(Str.ofString "self", _)] = none
    simp only [List.lookup, beq_eq_false_iff_ne.mpr a1]
  · exact .head _
  · exact .mk ns none rfl wf rfl rfl rfl
  · rintro i m news ⟨ns', pd, h1, h2, h3, h4, h9⟩
    exact ⟨.head _, off5 _ h9⟩
  · rintro i v m news oI h6 tk6 I hI hv ⟨ns', pd, h1, h2, h3, h4, h9⟩ F6 N6 zP1 zK1
    obtain ⟨p, tp6, rfl, hp⟩ := hR.at i v hv
    have hpn : p ∈ nums ns' := by rw [h3]; exact hrs p (List.mem_of_getElem? hp)
    obtain ⟨lN, dN, rN, rfl, rfl, hu⟩ := split_num hpn h2.nd
    have nd7 := ndD
    have h9' : List.map (·.1) (front ++ (sled (lN ++ dN :: rN) ++ (rest ++ frs))) = List.map (·.1) ((D, ({ cls := .type "tuple", data := .seq rvs.toArray } : Obj)) :: (a, instObj 188 ad) :: (ad, sdict w t1 t2 t3 t4 d (.ref ra) (.int po tp) (.int fi tf)) :: (d, o) :: (ra, listOf rvs.toArray nr) :: (sled ns ++ (rest ++ frs))) := h9
    rw [← h9'] at nd7
    have nd6 := nodup_lt (d := I) (o := oI) (by rw [hI]; exact lt_map (lt_new N3) h9') nd7
    simp only [front, List.cons_append, List.nil_append] at N6 nd6
    have hd6 : IsD w o (kvsOf (lN ++ dN :: rN)) := by rw [h4]; exact hd
    have hk6 := kvs_at h2.nd
    have N7 : News h₀ s.heap.objs.size h6 ((dN.sa, listOf dN.svs.toArray dN.es) :: (dN.x, nodeObj dN.dx dN.sa dN.num dN.tn dN.np dN.tp) :: (dN.dx, dictOf [] 0) :: (I, oI) :: (D, { cls := .type "tuple", data := .seq rvs.toArray }) :: (a, instObj 188 ad) :: (ad, sdict w t1 t2 t3 t4 d (.ref ra) (.int po tp) (.int fi tf)) :: (d, o) :: (ra, listOf rvs.toArray nr) :: (sled lN ++ (sled rN ++ (rest ++ frs)))) := fun p hp => N6 p (by revert p; (intro p hp; simp only [List.cons_append, List.nil_append, List.append_assoc, List.append_nil, sled_split, sled_nil, List.mem_cons, List.mem_append, List.not_mem_nil, or_false, or_assoc] at hp ⊢; have hm := OrM.mk hp; clear hp; walk_at "or.split"))
    have nd8 : (List.map (·.1) ((dN.sa, listOf dN.svs.toArray dN.es) :: (dN.x, nodeObj dN.dx dN.sa dN.num dN.tn dN.np dN.tp) :: (dN.dx, dictOf [] 0) :: (I, oI) :: (D, ({ cls := .type "tuple", data := .seq rvs.toArray } : Obj)) :: (a, instObj 188 ad) :: (ad, sdict w t1 t2 t3 t4 d (.ref ra) (.int po tp) (.int fi tf)) :: (d, o) :: (ra, listOf rvs.toArray nr) :: (sled lN ++ (sled rN ++ (rest ++ frs))))).Nodup := by (refine nd_of nd6 ?_; (intro a; simp only [List.cons_append, List.nil_append, List.append_assoc, List.append_nil, sled_split, sled_nil, List.map_cons, List.map_append, List.map_nil, List.count_append, List.count_cons, List.count_nil, Nat.add_zero, Nat.zero_add]; ac_rfl))
    have ndF : NDF _ := nd8
    clear N6 F3 N3
    k_steps
    refine stop_out ?_; (with_unfolding_all refine' kda_item (knd := PySem.intKind _ _) (by k_asm) (by k_mem) (by k_asm) (by exact intKind_is _ _ _ _) (by k_asm) ?_); k_steps
    rename Fr _ _ _ _ => F8
    rename_i N8
    obtain ⟨tq, N9⟩ := np_tok N8
    have hadr : (List.map (·.1) (sled (lN ++ npG (-1) tq dN :: rN))) = List.map (·.1) (sled (lN ++ dN :: rN)) := by rw [← hu]; exact sled_addr (fun _ => rfl) (fun _ => rfl) (fun _ => rfl)
    refine for_nx zK1 (news := front ++ (sled (lN ++ npG (-1) tq dN :: rN) ++ (rest ++ frs))) (fr_congr F8 (gfm_eq rfl rfl rfl rfl ?_)) (fun p hp => N9 p ?_) (.mk _ _ ?_ ?_ ?_ ?_ ?_)
    · (intro y a1 a2 a3 a4; (try simp only [if_neg a1, if_neg a2, if_neg a3, if_neg a4]); exact gfm_none y a1 a2 a3 a4)
    · rw [sled_npG] at hp; simp only [front] at hp; revert p; (intro p hp; simp only [List.cons_append, List.nil_append, List.append_assoc, List.append_nil, sled_split, sled_nil, List.mem_cons, List.mem_append, List.not_mem_nil, or_false, or_assoc] at hp ⊢; have hm := OrM.mk hp; clear hp; walk_at "or.split")
    · rw [← hu, view_upd (g' := fun e => ⟨e.num, -1, e.sn⟩) (fun _ => rfl), h1, List.take_add_one, hp, List.foldl_append]; rfl
    · rw [← hu]; exact wf_upd h2 (fun _ => rfl) (fun _ => rfl) fun _ => rfl
    · rw [← hu, nums_upd (g := npG (-1) tq) fun _ => rfl]; exact h3
    · rw [← hu, kvs_upd (g := npG (-1) tq) (fun _ => rfl) fun _ => rfl]; exact h4
    · rw [← h9]; simp only [List.map_append, hadr]
  · rintro m news h6 tk6 ⟨ns', pd, h1, h2, h3, h4, h9⟩ F6 N6
    rw [hR.length, List.take_length] at h1
    have nd7 := ndD
    have h9' : List.map (·.1) (front ++ (sled ns' ++ (rest ++ frs))) = List.map (·.1) ((D, ({ cls := .type "tuple", data := .seq rvs.toArray } : Obj)) :: (a, instObj 188 ad) :: (ad, sdict w t1 t2 t3 t4 d (.ref ra) (.int po tp) (.int fi tf)) :: (d, o) :: (ra, listOf rvs.toArray nr) :: (sled ns ++ (rest ++ frs))) := h9
    rw [← h9'] at nd7
    simp only [front, List.cons_append, List.nil_append] at N6 nd7
    have ndf := nd7
    have ndF : NDF _ := ndf
    clear F3 N3
    k_steps
    refine stop_out ?_; k_dflt (refine' clear_K (by k_asm) (by k_asm) (by k_updF) (by assumption) ?_); intro h7a k7a F7a N7a; (try k_sweep); k_steps
    refine stop_out ?_; k_dflt (refine' len_tup (by k_asm) (by k_asm) (by k_mem) (by assumption) ?_); intro _ _; k_steps
    rename Fr _ _ _ _ => F9
    rename_i N9
    rw [hR.length] at N9
    exact ret _ _ _ ((D, { cls := .type "tuple", data := .seq rvs.toArray }) :: (a, instObj 188 ad) :: (ad, sdict w t1 t2 t3 t4 d (.ref ra) (.int (po + rs.length) _) (.int fi tf)) :: (d, o) :: (ra, listOf #[] _) :: sled ns') frs (TI.SameUp.refl _) Fs (St.of_news F9 N9 (fun p hp => hp) nd7) (.mk _ _ _ _ h1 h4 h2)
end
end
section
noncomputable def Nd.skel (d : Nd) : Nd := { d with np := 0, tp := 0 }
noncomputable def skel (ns : List Nd) : List Nd := ns.map Nd.skel
theorem skel_upd {p : Int} {g : Nd → Nd} {ns : List Nd} (h : ∀ d, (g d).skel = d.skel) : skel (updN p g ns) = skel ns := by
  unfold skel updN
  rw [List.map_map]
  refine List.map_congr_left fun d _ => ?_
  simp only [Function.comp]
  split
  · exact h d
  · rfl
theorem nums_of_skel (ns : List Nd) : nums ns = nums (skel ns) := by unfold nums skel; rw [List.map_map]; rfl
theorem kvs_of_skel (ns : List Nd) : kvsOf ns = kvsOf (skel ns) := by unfold kvsOf skel; rw [List.map_map]; rfl
theorem adr_of_skel (ns : List Nd) : (sled ns).map (·.1) = (sled (skel ns)).map (·.1) := by
  unfold sled skel
  rw [List.flatMap_map]
  induction ns with
  | nil => rfl
  | cons d t ih => rw [List.flatMap_cons, List.flatMap_cons, List.map_append, List.map_append, ih]; rfl
theorem nums_skel {a b : List Nd} (h : skel a = skel b) : nums a = nums b := by rw [nums_of_skel, h, ← nums_of_skel]
theorem kvs_skel {a b : List Nd} (h : skel a = skel b) : kvsOf a = kvsOf b := by rw [kvs_of_skel, h, ← kvs_of_skel]
theorem adr_skel {a b : List Nd} (h : skel a = skel b) : (sled a).map (·.1) = (sled b).map (·.1) := by rw [adr_of_skel, h, ← adr_of_skel]
theorem mem_skel {a b : List Nd} (h : skel a = skel b) {d : Nd} (hd : d ∈ a) : ∃ e ∈ b, e.skel = d.skel := by
  have : d.skel ∈ skel b := by rw [← h]; exact List.mem_map_of_mem hd
  exact List.mem_map.mp this
theorem skel_sn {a b : Nd} (h : a.skel = b.skel) : a.sn = b.sn := by have := congrArg Nd.sn h; exact this
theorem skel_svs {a b : Nd} (h : a.skel = b.skel) : a.svs = b.svs := by have := congrArg Nd.svs h; exact this
theorem skel_sa {a b : Nd} (h : a.skel = b.skel) : a.sa = b.sa := by have := congrArg Nd.sa h; exact this
theorem skel_es {a b : Nd} (h : a.skel = b.skel) : a.es = b.es := by have := congrArg Nd.es h; exact this
theorem skel_num {a b : Nd} (h : a.skel = b.skel) : a.num = b.num := by have := congrArg Nd.num h; exact this
theorem wf_skel {a b : List Nd} (h : skel a = skel b) (wf : WF a) : WF b := by
  refine ⟨by rw [← nums_skel h]; exact wf.nd, fun d hd => ?_, ?_, fun d hd => ?_⟩
  · obtain ⟨e, he, q⟩ := mem_skel h.symm hd
    rw [← skel_sn q, ← skel_svs q]; exact wf.ia e he
  · have : (skel a).length = (skel b).length := by rw [h]
    simp only [skel, List.length_map] at this
    rw [← this]; exact wf.small
  · obtain ⟨e, he, q⟩ := mem_skel h.symm hd
    rw [← skel_sn q]; exact wf.few e he
theorem list_skel {a b : List Nd} (h : skel a = skel b) {d : Nd} (hd : d ∈ a) : (d.sa, listOf d.svs.toArray d.es) ∈ sled b := by
  obtain ⟨e, he, q⟩ := mem_skel h hd
  refine List.mem_flatMap.mpr ⟨e, he, ?_⟩
  rw [← skel_sa q, ← skel_svs q, ← skel_es q]
  exact .head _
noncomputable def npOf (v : List Nv) (s : Int) : Int := ((v.find? fun e => e.num = s).map (·.np)).getD 0
noncomputable def snOf (v : List Nv) (s : Int) : List Int := ((v.find? fun e => e.num = s).map (·.sn)).getD []
noncomputable def decS (st : List Nv × List Int) (s : Int) : List Nv × List Int := (updV s (fun e => ⟨e.num, e.np - 1, e.sn⟩) st.1, if npOf st.1 s - 1 = 0 then st.2 ++ [s] else st.2)
noncomputable def doneN (st : List Nv × List Int) (n : Int) : List Nv × List Int := (snOf st.1 n).foldl decS (setNp (-2) st.1 n, st.2)
theorem find_split {l r : List Nd} {d : Nd} (nd : (nums (l ++ d :: r)).Nodup) : (view (l ++ d :: r)).find? (fun e => e.num = d.num) = some d.view := by
  induction l with
  | nil => simp [view, Nd.view]
  | cons e t ih =>
    obtain ⟨n1, n2⟩ := List.nodup_cons.mp nd
    have ne : e.num ≠ d.num := fun q => n1 (by
      show e.num ∈ nums (t ++ d :: r)
      rw [q]; unfold nums; simp)
    show List.find? _ (e.view :: view (t ++ d :: r)) = _
    rw [List.find?_cons_of_neg (by simp [Nd.view, ne])]
    exact ih n2
theorem npOf_split {l r : List Nd} {d : Nd} (nd : (nums (l ++ d :: r)).Nodup) : npOf (view (l ++ d :: r)) d.num = d.np := by unfold npOf; rw [find_split nd]; rfl
theorem snOf_split {l r : List Nd} {d : Nd} (nd : (nums (l ++ d :: r)).Nodup) : snOf (view (l ++ d :: r)) d.num = d.sn := by unfold snOf; rw [find_split nd]; rfl
section
set_option hygiene false in
local macro_rules | `(tactic| walk_at "exec For Name Attribute cons nil") => `(tactic| with_unfolding_all refine for_start ?_)
set_option hygiene false in
local macro_rules | `(tactic| walk_at "subscriptTail Name Name ref int") => `(tactic| walk_at "st")
set_option hygiene false in
local macro_rules | `(tactic| walk_at "call builtin:dict.get") => `(tactic| walk_at "st")
set_option hygiene false in
local macro_rules | `(tactic| walk_at "call builtin:list.append") => `(tactic| walk_at "st")
noncomputable def dfm (a D d : Addr) (node ni stat su si : Option Value) : Str → Option Value := fun y =>
  if y = Str.ofString "self" then some (.ref a) else if y = Str.ofString "nodes" then some (.ref D) else if y = Str.ofString "n2i" then some (.ref d) else if y = Str.ofString "node" then node else if y = Str.ofString "nodeinfo" then ni else if y = Str.ofString "stat" then stat else if y = Str.ofString "successor" then su else if y = Str.ofString "successor_info" then si else none
theorem dfm_eq {m : Str → Option Value} {a D d : Addr} {node ni stat su si : Option Value} (h1 : m (Str.ofString "self") = some (.ref a)) (h2 : m (Str.ofString "nodes") = some (.ref D)) (h3 : m (Str.ofString "n2i") = some (.ref d)) (h4 : m (Str.ofString "node") = node) (h5 : m (Str.ofString "nodeinfo") = ni) (h6 : m (Str.ofString "stat") = stat) (h7 : m (Str.ofString "successor") = su) (h8 : m (Str.ofString "successor_info") = si)
    (h : ∀ y, y ≠ Str.ofString "self" → y ≠ Str.ofString "nodes" → y ≠ Str.ofString "n2i" → y ≠ Str.ofString "node" → y ≠ Str.ofString "nodeinfo" → y ≠ Str.ofString "stat" → y ≠ Str.ofString "successor" → y ≠ Str.ofString "successor_info" → m y = none) : ∀ y, m y = dfm a D d node ni stat su si y := by
  intro y
  unfold dfm
  by_cases q1 : y = Str.ofString "self"
  · rw [if_pos q1, q1]; exact h1
  rw [if_neg q1]
  by_cases q2 : y = Str.ofString "nodes"
  · rw [if_pos q2, q2]; exact h2
  rw [if_neg q2]
  by_cases q3 : y = Str.ofString "n2i"
  · rw [if_pos q3, q3]; exact h3
  rw [if_neg q3]
  by_cases q4 : y = Str.ofString "node"
  · rw [if_pos q4, q4]; exact h4
  rw [if_neg q4]
  by_cases q5 : y = Str.ofString "nodeinfo"
  · rw [if_pos q5, q5]; exact h5
  rw [if_neg q5]
  by_cases q6 : y = Str.ofString "stat"
  · rw [if_pos q6, q6]; exact h6
  rw [if_neg q6]
  by_cases q7 : y = Str.ofString "successor"
  · rw [if_pos q7, q7]; exact h7
  rw [if_neg q7]
  by_cases q8 : y = Str.ofString "successor_info"
  · rw [if_pos q8, q8]; exact h8
  rw [if_neg q8]
  exact h y q1 q2 q3 q4 q5 q6 q7 q8
theorem dfm_none {a D d : Addr} {node ni stat su si : Option Value} (y : Str) (a1 : y ≠ Str.ofString "self") (a2 : y ≠ Str.ofString "nodes") (a3 : y ≠ Str.ofString "n2i") (a4 : y ≠ Str.ofString "node") (a5 : y ≠ Str.ofString "nodeinfo") (a6 : y ≠ Str.ofString "stat") (a7 : y ≠ Str.ofString "successor") (a8 : y ≠ Str.ofString "successor_info") : dfm a D d node ni stat su si y = none := by
  simp only [dfm, if_neg a1, if_neg a2, if_neg a3, if_neg a4, if_neg a5, if_neg a6, if_neg a7, if_neg a8]
theorem fin_tok {w : World} {h₀ h : Heap} {L ad d : Addr} {p q r : Addr × Obj} {t1 t2 t3 t4 tf : Tok} {rv po : Value} {k : Int} {tail : Ledger} (N : News h₀ L h (p :: q :: r :: (ad, sdict w t1 t2 t3 t4 d rv po (.int k tf)) :: tail)) : ∃ tf, News h₀ L h (p :: q :: r :: (ad, sdict w t1 t2 t3 t4 d rv po (.int k tf)) :: tail) := ⟨tf, N⟩
/-- the ledger in the midst of done -/
noncomputable def dled (w : World) (a ad d ra D : Addr) (t1 t2 t3 t4 : Tok) (po : Value) (fi : Int) (tf : Tok) (o : Obj) (pvs rvs : List Value) (nr : Nat) (ns : List Nd) (back : Ledger) : Ledger :=
  (D, { cls := .type "tuple", data := .seq pvs.toArray }) :: (a, instObj 188 ad) :: (ad, sdict w t1 t2 t3 t4 d (.ref ra) po (.int fi tf)) :: (d, o) :: (ra, listOf rvs.toArray nr) :: (sled ns ++ back)
theorem dled_adr {w : World} {a ad d ra D : Addr} {t1 t2 t3 t4 : Tok} {po : Value} {fi fi' : Int} {tf tf' : Tok} {o : Obj} {pvs rvs rvs' : List Value} {nr nr' : Nat} {ns ns' : List Nd} {back : Ledger} (h : skel ns = skel ns') :
    (dled w a ad d ra D t1 t2 t3 t4 po fi tf o pvs rvs nr ns back).map (·.1) = (dled w a ad d ra D t1 t2 t3 t4 po fi' tf' o pvs rvs' nr' ns' back).map (·.1) := by
  simp only [dled, List.map_cons, List.map_append, adr_skel h]
inductive DoneJ (w : World) (a ad d ra D : Addr) (t1 t2 t3 t4 : Tok) (po : Value) (fi : Int) (o : Obj) (ns : List Nd) (rs : List Int) (pvs : List Value) (ps : List Int) (back : Ledger) (i : Nat) : (Str → Option Value) → Ledger → Prop
  | mk (ns1 : List Nd) (rvs1 : List Value) (rs1 : List Int) (nr1 : Nat) (tf1 : Tok) (x1 x2 x3 x4 x5 : Option Value) (_ : skel ns1 = skel ns) (_ : (view ns1, rs1) = (ps.take i).foldl doneN (view ns, rs)) (_ : IntsAre rvs1 rs1) (_ : rs1.length ≤ 64 + i * 1000) :
      DoneJ w a ad d ra D t1 t2 t3 t4 po fi o ns rs pvs ps back i (dfm a D d x1 x2 x3 x4 x5) (dled w a ad d ra D t1 t2 t3 t4 po (fi + (i : Nat)) tf1 o pvs rvs1 nr1 ns1 back)
inductive DecJ (w : World) (a ad d ra D : Addr) (t1 t2 t3 t4 : Tok) (po : Value) (fi : Int) (tf1 : Tok) (o : Obj) (ns : List Nd) (st : List Nv × List Int) (rs1 : List Int) (pvs : List Value) (sn : List Int) (q1 q2 q3 : Option Value) (hI : Addr × Obj) (back : Ledger) (j : Nat) : (Str → Option Value) → Ledger → Prop
  | mk (ns2 : List Nd) (rvs2 : List Value) (rs2 : List Int) (nr2 : Nat) (x4 x5 : Option Value) (_ : skel ns2 = skel ns) (_ : (view ns2, rs2) = (sn.take j).foldl decS st) (_ : IntsAre rvs2 rs2) (_ : rs2.length ≤ rs1.length + j) :
      DecJ w a ad d ra D t1 t2 t3 t4 po fi tf1 o ns st rs1 pvs sn q1 q2 q3 hI back j (dfm a D d q1 q2 q3 x4 x5) (hI :: dled w a ad d ra D t1 t2 t3 t4 po fi tf1 o pvs rvs2 nr2 ns2 back)
inductive DonePost (w : World) (a ad d ra : Addr) (t1 t2 t3 t4 : Tok) (po : Value) (fi : Int) (o : Obj) (ns : List Nd) (rs ps : List Int) : Value → Ledger → Prop
  | mk (ns' : List Nd) (rvs' : List Value) (rs' : List Int) (tf' : Tok) (nr' : Nat) (_ : (view ns', rs') = ps.foldl doneN (view ns, rs)) (_ : IntsAre rvs' rs') (_ : skel ns' = skel ns) :
      DonePost w a ad d ra t1 t2 t3 t4 po fi o ns rs ps .none ((a, instObj 188 ad) :: (ad, sdict w t1 t2 t3 t4 d (.ref ra) po (.int (fi + ps.length) tf')) :: (d, o) :: (ra, listOf rvs'.toArray nr') :: sled ns')
theorem done_con (w : World) (a ad d ra : Addr) (t1 t2 t3 t4 : Tok) (po : Value) (fi : Int) (tf : Tok) (o : Obj) (ns : List Nd) (rvs pvs : List Value) (rs ps : List Int) (nr : Nat) (hR : IntsAre rvs rs) (hP : IntsAre pvs ps) (hd : IsD w o (kvsOf ns)) (lo : (d == sysModules) = false) (wf : WF ns)
    (hps : ∀ p ∈ ps, p ∈ nums ns) (hss : ∀ e ∈ ns, ∀ s ∈ e.sn, s ∈ nums ns) (hl : rs.length ≤ 64) (hpl : ps.length ≤ 64) (hok : ∀ i n, ps[i]? = some n → npOf ((ps.take i).foldl doneN (view ns, rs)).1 n = -1) :
    ConR w (.ref 171) (.ref a :: pvs) 2 ((a, instObj 188 ad) :: (ad, sdict w t1 t2 t3 t4 d (.ref ra) po (.int fi tf)) :: (d, o) :: (ra, listOf rvs.toArray nr) :: sled ns)
    (DonePost w a ad d ra t1 t2 t3 t4 po fi o ns rs ps) := by
  have hvl : pvs.length ≤ sizeLine := by rw [hP.length, sizeLine_eq]; exact lin [_, _] [] [(1, (.n (.v 0) (.k 64))), (1, (.n (.k 2000) (.v 1)))] 1 (.n (.v 0) (.v 1)) rfl hpl (Nat.le_of_ble_eq_true rfl : 2000 ≤ 16777216)
  intro p' loose mean mg mb h₀ A l frs rest s R G Fs S ret
  have X := G.X
  have hnd : A.handled = none := G.hn
  have T := G.T
  have kf : (Mine.hd.heap_39 w.params).In h₀ ∧ PySem.Challenge.rw_oy0269_01.row.prog = PySem.Challenge.rw_oy0269_01.row.prog := (by k_fill; exact ⟨X, rfl⟩)
  clear kf
  have nd := S.nd
  k_dflt (refine' enterV (vs := pvs) (binds := (fun D : Addr => [(Str.ofString "self", Value.ref a), (Str.ofString "nodes", .ref D)])) G S ?ho ?hcd ?hv ?hp ?hbt ?hl ?_ ?c1 ?c2 ?c3 ?c4; (case ho => k_is); (case hcd => k_is); (case hv => assumption); (case hp => first | exact bind2 | exact bind1); (case hbt => exact fun _ => rfl); (case hl => exact fun _ => locs rfl); (case c1 => exact rfl); (case c2 => exact rfl); (case c3 => exact rfl); (case c4 => decide))
  intro h₁ D L F N lt1 ltD lt2 zP0 zE0 zK0 zO0
  dsimp only [List.cons_append, List.nil_append] at N lt1
  dsimp only [List.cons_append, List.nil_append] at nd
  have ndD := nodup_lt (d := D) (o := { cls := .type "tuple", data := .seq pvs.toArray }) lt1 nd
  k_steps
  refine stop_out ?_
  rename Fr _ _ _ _ => F3
  rename_i N3
  refine for_tup (L := L) (vs := pvs) (nl := 0) (DoneJ w a ad d ra D t1 t2 t3 t4 po fi o ns rs pvs ps (rest ++ frs))
    hnd rfl (m₀ := dfm a D d none none none none none) ?_ N3 ?_ ?_ ?_ rfl rfl (by passes_own) ?_ ?_
  · refine fr_congr F3 (dfm_eq rfl rfl rfl rfl rfl rfl rfl rfl ?_)
    intro y a1 a2 a3 a4 a5 a6 a7 a8
    simp only [if_neg a3, List.reverse_cons, List.reverse_nil, List.nil_append, List.cons_append, List.lookup, beq_eq_false_iff_ne.mpr a1, beq_eq_false_iff_ne.mpr a2]
  · exact .head _
  · have e0 : (fi + ((0 : Nat) : Int)) = fi := by simp
    have := DoneJ.mk (w := w) (a := a) (ad := ad) (d := d) (ra := ra) (D := D) (t1 := t1) (t2 := t2) (t3 := t3) (t4 := t4) (po := po) (fi := fi) (o := o) (pvs := pvs) (ps := ps) (back := rest ++ frs) (i := 0) ns rvs rs nr tf none none none none none rfl (rs := rs) rfl hR (by exact lin [_] [] [(1, (.n (.v 0) (.k 64)))] 1 (.n (.v 0) (.a (.k 64) (.m 0 (.k 1000)))) rfl hl)
    rw [e0] at this
    exact this
  · rintro i m news ⟨ns1, rvs1, rs1, nr1, tf1, x1, x2, x3, x4, x5, h1, h2, h3, h4⟩
    exact ⟨.head _, off_map (off_new N3) (dled_adr h1 (nr' := nr) (rvs' := rvs) (fi' := fi) (tf' := tf))⟩
  · rintro i v m news oI h6 tk6 I hI hv ⟨ns1, rvs1, rs1, nr1, tf1, x1, x2, x3, x4, x5, h1, h2, h3, h4⟩ F6 N6 zP1 zK1
    obtain ⟨p, tp6, rfl, hp⟩ := hP.at i v hv
    have wf1 := wf_skel h1.symm wf
    have hpn : p ∈ nums ns1 := by rw [nums_skel h1]; exact hps p (List.mem_of_getElem? hp)
    have hil : i < ps.length := (List.getElem?_eq_some_iff.mp hp).1
    obtain ⟨lN, dN, rN, rfl, rfl, hu⟩ := split_num hpn wf1.nd
    have hnp : dN.np = -1 := by
      have := hok i _ hp
      rw [← h2] at this
      rw [← npOf_split wf1.nd]; exact this
    have adr1 : (dled w a ad d ra D t1 t2 t3 t4 po (fi + (i : Nat)) tf1 o pvs rvs1 nr1 (lN ++ dN :: rN) (rest ++ frs)).map (·.1) = _ := dled_adr h1 (nr' := nr) (rvs' := rvs) (fi' := fi) (tf' := tf)
    have nd7 := ndD
    have nd6 := nodup_lt (d := I) (o := oI) (by rw [hI]; exact lt_map (lt_new N3) adr1) (by rw [adr1]; exact ndD)
    have N5 := N6
    simp only [dled] at N6 nd6
    have hd6 : IsD w o (kvsOf (lN ++ dN :: rN)) := by rw [kvs_skel h1]; exact hd
    have hk6 := kvs_at wf1.nd
    have N7 : News h₀ L h6 ((dN.sa, listOf dN.svs.toArray dN.es) :: (dN.x, nodeObj dN.dx dN.sa dN.num dN.tn dN.np dN.tp) :: (dN.dx, dictOf [] 0) :: (I, oI) :: (D, { cls := .type "tuple", data := .seq pvs.toArray }) :: (a, instObj 188 ad) :: (ad, sdict w t1 t2 t3 t4 d (.ref ra) po (.int (fi + (i : Nat)) tf1)) :: (d, o) :: (ra, listOf rvs1.toArray nr1) :: (sled lN ++ (sled rN ++ (rest ++ frs)))) := fun p hp => N6 p (by revert p; (intro p hp; simp only [List.cons_append, List.nil_append, List.append_assoc, List.append_nil, sled_split, sled_nil, List.mem_cons, List.mem_append, List.not_mem_nil, or_false, or_assoc] at hp ⊢; have hm := OrM.mk hp; clear hp; walk_at "or.split"))
    rw [hnp] at N7
    have nd8 : (List.map (·.1) ((dN.sa, listOf dN.svs.toArray dN.es) :: (dN.x, nodeObj dN.dx dN.sa dN.num dN.tn dN.np dN.tp) :: (dN.dx, dictOf [] 0) :: (I, oI) :: (D, ({ cls := .type "tuple", data := .seq pvs.toArray } : Obj)) :: (a, instObj 188 ad) :: (ad, sdict w t1 t2 t3 t4 d (.ref ra) po (.int (fi + (i : Nat)) tf1)) :: (d, o) :: (ra, listOf rvs1.toArray nr1) :: (sled lN ++ (sled rN ++ (rest ++ frs))))).Nodup := by (refine nd_of nd6 ?_; (intro a; simp only [List.cons_append, List.nil_append, List.append_assoc, List.append_nil, sled_split, sled_nil, List.map_cons, List.map_append, List.map_nil, List.count_append, List.count_cons, List.count_nil, Nat.add_zero, Nat.zero_add]; ac_rfl))
    have ndF : NDF _ := nd8
    clear N6 F3 N5 nd7
    k_steps
    refine stop_out ?_; k_dflt (refine kdg_method (knd := PySem.intKind _ _) (by k_asm) (by k_mem) (by k_asm) ?_); k_steps
    refine stop_out ?_; k_dflt (refine kdg_get1 (knd := PySem.intKind _ _) (by k_asm) (by k_mem) (by k_asm) (by k_asm) (intKind_is _ _ _ _) _ (by k_asm) ?_); (try dsimp only [Option.getD]); k_steps
    refine stop_out ?_
    rename Fr _ _ _ _ => F8
    rename_i N8
    obtain ⟨tq, N9⟩ := np_tok N8
    have hsk : skel (lN ++ npG (-2) tq dN :: rN) = skel ns := by rw [← hu, skel_upd (g := npG (-2) tq) (fun _ => rfl)]; exact h1
    have adr2 : (dled w a ad d ra D t1 t2 t3 t4 po (fi + (i : Nat)) tf1 o pvs rvs1 nr1 (lN ++ npG (-2) tq dN :: rN) (rest ++ frs)).map (·.1) = _ := dled_adr hsk (nr' := nr) (rvs' := rvs) (fi' := fi) (tf' := tf)
    have N10 : News h₀ L _ ((I, oI) :: dled w a ad d ra D t1 t2 t3 t4 po (fi + (i : Nat)) tf1 o pvs rvs1 nr1 (lN ++ npG (-2) tq dN :: rN) (rest ++ frs)) := fun p hp => N9 p (by simp only [dled, sled_npG] at hp; revert p; (intro p hp; simp only [List.cons_append, List.nil_append, List.append_assoc, List.append_nil, sled_split, sled_nil, List.mem_cons, List.mem_append, List.not_mem_nil, or_false, or_assoc] at hp ⊢; have hm := OrM.mk hp; clear hp; walk_at "or.split"))
    have hia := wf1.ia dN (by simp)
    have hfew := wf1.few dN (by simp)
    refine for_list (L := L) (vs := dN.svs) (nl := dN.es) (DecJ w a ad d ra D t1 t2 t3 t4 po (fi + (i : Nat)) tf1 o ns (setNp (-2) (view (lN ++ dN :: rN)) dN.num, rs1) rs1 pvs dN.sn (some (.int dN.num tp6)) (some (.ref dN.x)) (some (.int (-1) dN.tp)) (I, oI) (rest ++ frs))
      hnd rfl (m₀ := dfm a D d (some (.int dN.num tp6)) (some (.ref dN.x)) (some (.int (-1) dN.tp)) x4 x5) ?_ N10 ?_ ?_ ?_ rfl rfl (by passes_own) ?_ ?_
    · refine fr_congr F8 (dfm_eq rfl rfl rfl rfl rfl rfl rfl rfl ?_); (intro y a1 a2 a3 a4 a5 a6 a7 a8; (try simp only [if_neg a1, if_neg a2, if_neg a3, if_neg a4, if_neg a5, if_neg a6, if_neg a7, if_neg a8]); exact dfm_none y a1 a2 a3 a4 a5 a6 a7 a8)
    · have := list_skel (hsk.symm ▸ h1 : skel (lN ++ dN :: rN) = skel (lN ++ npG (-2) tq dN :: rN)) (d := dN) (by simp)
      simp [dled, this]
    · exact .mk _ rvs1 rs1 nr1 _ _ hsk (by rw [List.take_zero, List.foldl_nil, ← hu, view_upd (g' := fun e => ⟨e.num, -2, e.sn⟩) (fun _ => rfl)]; rfl) h3 (by exact lin [_] [] [] 1 (.n (.v 0) (.a (.v 0) (.k 0))) rfl)
    · rintro j m news ⟨ns2, rvs2, rs2, nr2, x4, x5, g1, g2, g3, g4⟩
      refine ⟨?_, ?_⟩
      · have := list_skel (h1.trans g1.symm) (d := dN) (by simp)
        simp [dled, this]
      · refine off_map (off_new N10) ?_
        rw [List.map_cons, List.map_cons, adr2]
        congr 1
        exact dled_adr g1
    · rintro j v m news oJ h11 tk11 J hJ hv2 ⟨ns2, rvs2, rs2, nr2, x4, x5, g1, g2, g3, g4⟩ F11 N11 zP2 zK2
      obtain ⟨sc, ts, rfl, hsc⟩ := hia.at j v hv2
      have wf2 := wf_skel g1.symm wf
      have hsn : sc ∈ nums ns2 := by
        obtain ⟨e, he, q⟩ := mem_skel h1 (show dN ∈ lN ++ dN :: rN by simp)
        rw [nums_skel g1]
        exact hss e he sc (by rw [skel_sn q]; exact List.mem_of_getElem? hsc)
      have hjl : j < dN.sn.length := (List.getElem?_eq_some_iff.mp hsc).1
      obtain ⟨lS, dS, rS, rfl, rfl, hu2⟩ := split_num hsn wf2.nd
      have adr3 : ((I, oI) :: dled w a ad d ra D t1 t2 t3 t4 po (fi + (i : Nat)) tf1 o pvs rvs2 nr2 (lS ++ dS :: rS) (rest ++ frs)).map (·.1) = ((I, oI) :: dled w a ad d ra D t1 t2 t3 t4 po (fi + (i : Nat)) tf1 o pvs rvs1 nr1 (lN ++ npG (-2) tq dN :: rN) (rest ++ frs)).map (·.1) := by
        rw [List.map_cons, List.map_cons, adr2]
        congr 1
        exact dled_adr g1
      have nd11 := nodup_lt (d := J) (o := oJ) (by rw [hJ]; exact lt_map (lt_new N10) adr3) (by rw [adr3, List.map_cons, adr2, ← adr1, ← List.map_cons]; exact nd6)
      have hd11 : IsD w o (kvsOf (lS ++ dS :: rS)) := by rw [kvs_skel g1]; exact hd
      have hk11 := kvs_at wf2.nd
      simp only [dled] at N11 nd11
      have N12 : News h₀ L h11 ((dS.sa, listOf dS.svs.toArray dS.es) :: (dS.x, nodeObj dS.dx dS.sa dS.num dS.tn dS.np dS.tp) :: (dS.dx, dictOf [] 0) :: (J, oJ) :: (I, oI) :: (D, { cls := .type "tuple", data := .seq pvs.toArray }) :: (a, instObj 188 ad) :: (ad, sdict w t1 t2 t3 t4 d (.ref ra) po (.int (fi + (i : Nat)) tf1)) :: (d, o) :: (ra, listOf rvs2.toArray nr2) :: (sled lS ++ (sled rS ++ (rest ++ frs)))) := fun p hp => N11 p (by revert p; (intro p hp; simp only [List.cons_append, List.nil_append, List.append_assoc, List.append_nil, sled_split, sled_nil, List.mem_cons, List.mem_append, List.not_mem_nil, or_false, or_assoc] at hp ⊢; have hm := OrM.mk hp; clear hp; walk_at "or.split"))
      have nd12 : (List.map (·.1) ((dS.sa, listOf dS.svs.toArray dS.es) :: (dS.x, nodeObj dS.dx dS.sa dS.num dS.tn dS.np dS.tp) :: (dS.dx, dictOf [] 0) :: (J, oJ) :: (I, oI) :: (D, ({ cls := .type "tuple", data := .seq pvs.toArray } : Obj)) :: (a, instObj 188 ad) :: (ad, sdict w t1 t2 t3 t4 d (.ref ra) po (.int (fi + (i : Nat)) tf1)) :: (d, o) :: (ra, listOf rvs2.toArray nr2) :: (sled lS ++ (sled rS ++ (rest ++ frs))))).Nodup := by (refine nd_of nd11 ?_; (intro a; simp only [List.cons_append, List.nil_append, List.append_assoc, List.append_nil, sled_split, sled_nil, List.map_cons, List.map_append, List.map_nil, List.count_append, List.count_cons, List.count_nil, Nat.add_zero, Nat.zero_add]; ac_rfl))
      have ndF : NDF _ := nd12
      clear N11 F8 N8 N9 N10
      have hr2 : rvs2.length ≤ 80000 := by rw [g3.length]; omega
      k_steps
      refine stop_out ?_; (with_unfolding_all refine' kda_item (knd := PySem.intKind _ _) (by k_asm) (by k_mem) (by k_asm) (by exact intKind_is _ _ _ _) (by k_asm) ?_); k_steps
      · refine stop_out ?_; (k_dflt (refine' append_K (by k_asm) (by k_asm) (by k_upd) ?_ (by rw [List.size_toArray, sizeLine_eq]; omega); k_whole)); intro h9a F13 N13; (try k_sweep); k_steps
        rename dS.np - 1 = 0 => c
        simp only [List.push_toArray] at N13
        obtain ⟨tq2, N14⟩ := np_tok N13
        have hup : lS ++ npG (dS.np - 1) tq2 dS :: rS = updN dS.num (fun d => npG (d.np - 1) tq2 d) (lS ++ dS :: rS) := (hu2 (fun d => npG (d.np - 1) tq2 d)).symm
        have hsk2 : skel (lS ++ npG (dS.np - 1) tq2 dS :: rS) = skel ns := by rw [hup, skel_upd (g := fun d => npG (d.np - 1) tq2 d) (fun _ => rfl)]; exact g1
        refine for_nx zK2 (news := (I, oI) :: dled w a ad d ra D t1 t2 t3 t4 po (fi + (i : Nat)) tf1 o pvs (rvs2 ++ [Value.int dS.num ts]) (nr2 + 1) (lS ++ npG (dS.np - 1) tq2 dS :: rS) (rest ++ frs)) (fr_congr F13 (dfm_eq rfl rfl rfl rfl rfl rfl rfl rfl ?_)) (fun p hp => N14 p ?_) (.mk _ _ (rs2 ++ [dS.num]) _ _ _ hsk2 ?_ (g3.append (.cons _ _ .nil)) ?_)
        · (intro y a1 a2 a3 a4 a5 a6 a7 a8; (try simp only [if_neg a1, if_neg a2, if_neg a3, if_neg a4, if_neg a5, if_neg a6, if_neg a7, if_neg a8]); exact dfm_none y a1 a2 a3 a4 a5 a6 a7 a8)
        · simp only [dled, sled_npG] at hp; revert p; (intro p hp; simp only [List.cons_append, List.nil_append, List.append_assoc, List.append_nil, sled_split, sled_nil, List.mem_cons, List.mem_append, List.not_mem_nil, or_false, or_assoc] at hp ⊢; have hm := OrM.mk hp; clear hp; walk_at "or.split")
        · rw [hup, view_upd (g' := fun e => ⟨e.num, e.np - 1, e.sn⟩) (fun _ => rfl), List.take_add_one, hsc, List.foldl_append, ← g2]
          show _ = decS (view (lS ++ dS :: rS), rs2) dS.num
          unfold decS
          rw [npOf_split wf2.nd, if_pos c]
        · rw [List.length_append]; simp only [List.length_cons, List.length_nil]; exact lin [_, _, _] [] [(1, (.n (.v 0) (.a (.v 1) (.v 2))))] 1 (.n (.a (.v 0) (.a (.k 0) (.k 1))) (.a (.v 1) (.a (.v 2) (.k 1)))) rfl g4
      · rename ¬ dS.np - 1 = 0 => c
        rename Fr _ _ _ _ => F13
        rename_i N13
        obtain ⟨tq2, N14⟩ := np_tok N13
        have hup : lS ++ npG (dS.np - 1) tq2 dS :: rS = updN dS.num (fun d => npG (d.np - 1) tq2 d) (lS ++ dS :: rS) := (hu2 (fun d => npG (d.np - 1) tq2 d)).symm
        have hsk2 : skel (lS ++ npG (dS.np - 1) tq2 dS :: rS) = skel ns := by rw [hup, skel_upd (g := fun d => npG (d.np - 1) tq2 d) (fun _ => rfl)]; exact g1
        refine for_nx zK2 (news := (I, oI) :: dled w a ad d ra D t1 t2 t3 t4 po (fi + (i : Nat)) tf1 o pvs rvs2 nr2 (lS ++ npG (dS.np - 1) tq2 dS :: rS) (rest ++ frs)) (fr_congr F13 (dfm_eq rfl rfl rfl rfl rfl rfl rfl rfl ?_)) (fun p hp => N14 p ?_) (.mk _ _ rs2 _ _ _ hsk2 ?_ g3 ?_)
        · (intro y a1 a2 a3 a4 a5 a6 a7 a8; (try simp only [if_neg a1, if_neg a2, if_neg a3, if_neg a4, if_neg a5, if_neg a6, if_neg a7, if_neg a8]); exact dfm_none y a1 a2 a3 a4 a5 a6 a7 a8)
        · simp only [dled, sled_npG] at hp; revert p; (intro p hp; simp only [List.cons_append, List.nil_append, List.append_assoc, List.append_nil, sled_split, sled_nil, List.mem_cons, List.mem_append, List.not_mem_nil, or_false, or_assoc] at hp ⊢; have hm := OrM.mk hp; clear hp; walk_at "or.split")
        · rw [hup, view_upd (g' := fun e => ⟨e.num, e.np - 1, e.sn⟩) (fun _ => rfl), List.take_add_one, hsc, List.foldl_append, ← g2]
          show _ = decS (view (lS ++ dS :: rS), rs2) dS.num
          unfold decS
          rw [npOf_split wf2.nd, if_neg c]
        · exact lin [_, _, _] [] [(1, (.n (.v 0) (.a (.v 1) (.v 2))))] 1 (.n (.v 0) (.a (.v 1) (.a (.v 2) (.k 1)))) rfl g4
    · rintro m news h11 tk11 ⟨ns2, rvs2, rs2, nr2, x4, x5, g1, g2, g3, g4⟩ F11 N11
      rw [hia.length, List.take_length] at g2
      have adr3 : ((I, oI) :: dled w a ad d ra D t1 t2 t3 t4 po (fi + (i : Nat)) tf1 o pvs rvs2 nr2 ns2 (rest ++ frs)).map (·.1) = ((I, oI) :: dled w a ad d ra D t1 t2 t3 t4 po (fi + (i : Nat)) tf1 o pvs rvs1 nr1 (lN ++ npG (-2) tq dN :: rN) (rest ++ frs)).map (·.1) := by
        rw [List.map_cons, List.map_cons, adr2]
        congr 1
        exact dled_adr g1
      have nd11 : (List.map (·.1) ((I, oI) :: dled w a ad d ra D t1 t2 t3 t4 po (fi + (i : Nat)) tf1 o pvs rvs2 nr2 ns2 (rest ++ frs))).Nodup := by rw [adr3, List.map_cons, adr2, ← adr1, ← List.map_cons]; exact nd6
      simp only [dled] at N11 nd11
      have ndF : NDF _ := nd11
      clear F8 N8 N9 N10
      k_steps
      rename Fr _ _ _ _ => F13
      rename_i N13
      have efi : fi + (i : Int) + 1 = fi + ((i + 1 : Nat) : Int) := by exact go_eqi (lin [_] [_] [] 1 (.i (.a (.a (.v 0) (.n (.v 0))) (.k 1)) (.a (.v 0) (.n (.a (.v 0) (.k 1))))) rfl) (lin [_] [_] [] 1 (.i (.a (.v 0) (.n (.a (.v 0) (.k 1)))) (.a (.a (.v 0) (.n (.v 0))) (.k 1))) rfl)
      rw [efi] at N13
      obtain ⟨tf9, N14⟩ := fin_tok N13
      refine for_nx zK1 F13 N14 (.mk ns2 rvs2 rs2 nr2 tf9 _ _ _ _ _ g1 ?_ g3 ?_)
      · rw [List.take_add_one, hp, List.foldl_append, ← h2]
        show _ = doneN (view (lN ++ dN :: rN), rs1) dN.num
        unfold doneN
        rw [snOf_split wf1.nd]
        exact g2
      · have := hia.length
        omega
  · rintro m news h6 tk6 ⟨ns1, rvs1, rs1, nr1, tf1, x1, x2, x3, x4, x5, h1, h2, h3, h4⟩ F6 N6
    rw [hP.length, List.take_length] at h2
    have adr1 : (dled w a ad d ra D t1 t2 t3 t4 po (fi + (pvs.length : Nat)) tf1 o pvs rvs1 nr1 ns1 (rest ++ frs)).map (·.1) = _ := dled_adr h1 (nr' := nr) (rvs' := rvs) (fi' := fi) (tf' := tf)
    have nd6 : (List.map (·.1) (dled w a ad d ra D t1 t2 t3 t4 po (fi + (pvs.length : Nat)) tf1 o pvs rvs1 nr1 ns1 (rest ++ frs))).Nodup := by rw [adr1]; exact ndD
    rw [hP.length] at N6 nd6
    k_steps
    exact ret _ _ _ ((a, instObj 188 ad) :: (ad, sdict w t1 t2 t3 t4 d (.ref ra) po (.int (fi + ps.length) tf1)) :: (d, o) :: (ra, listOf rvs1.toArray nr1) :: sled ns1) frs (TI.SameUp.refl _) Fs (St.of_news F6 N6 (fun p hp => .tail _ hp) (List.nodup_cons.mp nd6).2) (.mk ns1 rvs1 rs1 tf1 nr1 h2 h3 h1)
end
end
section
theorem for_dict {w : World} {A : Around} {E : Value → Shared → Prop} {s : Shared} {env : Env} {h₀ : Heap} {x : Str} {px : Pos} {body : List Stmt} {Q : Flow → Shared → Prop} {d L : Addr} {o : Obj} {kvs : List (Int × Value)} {m₀ : Str → Option Value} {news₀ : Ledger}
    (J : Nat → (Str → Option Value) → Ledger → Prop) (hh : A.handled = none) (hL : env.locals = L) (F : Fr h₀ L s.heap m₀) (N : News h₀ L s.heap news₀) (hm : (d, o) ∈ news₀) (hd : IsD w o kvs) (lo : (d == sysModules) = false) (hj : J 0 m₀ news₀)
    (hoff : ∀ i m news, J i m news → (d, o) ∈ news ∧ ∀ p ∈ news, p.1 ≠ s.heap.objs.size)
    (hx : env.kindOf x = some .local) (hp : (env.scope.kind == .class || (env.scope.kind == .module && env.locals != env.globals)) = false)
    (hE : PassesOwn (model prg w) A env E)
    (turn : ∀ i k tv v m news oI h tk I, I = s.heap.objs.size → kvs[i]? = some (k, v) → J i m news → Fr h₀ L h (fun y => if y = x then some (.int k tv) else m y) → News h₀ L h ((I, oI) :: news) →
      ∀ (zP : Flow → Shared → Prop) (_ : ForK h₀ L I oI (J (i + 1)) s.gens s.drawn s.os Q zP), wpAny (model prg w) A (execs body env) (Cont zP) E { s with heap := h, toks := tk })
    (done : ∀ m news h tk, J kvs.length m news → Fr h₀ L h m → News h₀ L h news → Q .next { s with heap := h, toks := tk }) :
    wpAny (model prg w) A (pyIter (.ref d)) (ForAt prg w A (.Name x px) body [] env Q E) E s := by
  obtain ⟨ep, hat⟩ := (Heap.dictOf_iff.mpr ⟨o, (N _ hm).1, hd⟩ : s.heap.DictOf (intKind prg w) d kvs).dictAt
  refine wpAny_pyIter_dict lo hat ?_
  have hlt : d < s.heap.objs.size := Heap.lt_size (N _ hm).1
  obtain ⟨oL, es, ep', hLo, _⟩ := id F.ns
  have hne : d ≠ s.heap.objs.size := Nat.ne_of_lt hlt
  have W := Walks.dictKeys (prog := prg) (w := w) (knd := intKind prg w) hh s.heap.objs.size d hne kvs ep
  refine for_led (src := [(d, o)]) J W hL ⟨⟨_, Heap.get?_push_size _ rfl, rfl, rfl⟩, hat.push _⟩ (F.push _) (fun p hp => ⟨Heap.get?_push_of_some _ (N p hp).1, (N p hp).2⟩) hj
    (Nat.ne_of_gt (Heap.lt_size hLo)) (Heap.get?_none_of_le (Nat.le_of_lt (Nat.lt_of_le_of_lt F.above (Heap.lt_size hLo)))) (fun i m news hJ => (hoff i m news hJ).2) ?_ ?_ ?_ hx hp hE ?_ ?_
  · rintro i h ⟨⟨o, ho, _⟩, _⟩; exact ⟨o, ho⟩
  · intro b hb
    rcases List.mem_cons.mp hb with rfl | hb
    · exact .inl rfl
    · rw [List.mem_singleton.mp hb]; exact .inr (.inr ⟨_, List.mem_cons_self⟩)
  · intro i m news hJ p hp
    rw [List.mem_singleton.mp hp]; exact (hoff i m news hJ).1
  · rintro i v m news oI h tk hi ⟨k, v', hk, hv⟩ hJ F N
    obtain ⟨tv, rfl⟩ := Value.isInt_shape hv
    exact turn i k tv v' m news oI h tk _ rfl hk hJ F N
  · intro m news h tk hJ F N
    exact done m news h tk hJ F N
end
section
theorem li_ga : typeLookup (.type "list_iterator") "__getattribute__" = pure (some (.builtin "object.__getattribute__")) := by rw [typeLookup_type, builtinLookup_eq_fast]; kernel_rfl
theorem li_getattr : typeLookup (.type "list_iterator") "__getattr__" = pure none := by rw [typeLookup_type, builtinLookup_eq_fast]; kernel_rfl
theorem li_next : typeLookup (.type "list_iterator") "__next__" = pure (some (.builtin "list_iterator.__next__")) := by rw [typeLookup_type, builtinLookup_eq_fast]; kernel_rfl
theorem wd_get : typeLookup (.type "wrapper_descriptor") "__get__" = pure (some (.builtin "wrapper_descriptor.__get__")) := by rw [typeLookup_type, builtinLookup_eq_fast]; kernel_rfl
theorem wd_set : typeLookup (.type "wrapper_descriptor") "__set__" = pure none := by rw [typeLookup_type, builtinLookup_eq_fast]; kernel_rfl
theorem wd_del : typeLookup (.type "wrapper_descriptor") "__delete__" = pure none := by rw [typeLookup_type, builtinLookup_eq_fast]; kernel_rfl
theorem li_next_type : typeOf (.builtin "list_iterator.__next__") = pure (.type "wrapper_descriptor") := by show builtinType _ = _; rw [builtinType_eq_fast]; kernel_rfl
theorem wdget_type : typeOf (.builtin "wrapper_descriptor.__get__") = pure (.type "wrapper_descriptor") := by show builtinType _ = _; rw [builtinType_eq_fast]; kernel_rfl
theorem wd_get_entry : entryFor table "wrapper_descriptor.__get__" = some Builtin.«wrapper_descriptor.__get__» := entryFor_of_fast (by kernel_rfl)
theorem sub_li : isSubtype (.type "list_iterator") (.type "list_iterator") = pure true := by rw [isSubtype_type]; kernel_rfl
theorem slot_wd_get : Slot "wrapper_descriptor" "__get__" "wrapper_descriptor.__get__" :=
  .of (owner := "wrapper_descriptor") (n := "__get__") (by rw [typeLookup_type, builtinLookup_eq_fast]; kernel_rfl) (by decide +kernel) (by decide +kernel) (by decide +kernel)
    (by first | exact .inl (by decide +kernel) | exact .inr (by decide +kernel)) (by rw [isSubtype_type]; kernel_rfl)
theorem args_wd_get (a b c : Value) : argsOk "wrapper_descriptor.__get__" ⟨[a, b, c], []⟩ := by unfold argsOk; kernel_rfl
abbrev wrapO (it : Addr) : Obj := { cls := .type "method-wrapper", data := .fields #[.builtin "list_iterator.__next__", .ref it] }
theorem li_cut : ".".intercalate ("list_iterator.__next__".cutAt '.').dropLast = "list_iterator" := by decide +kernel
theorem meets_wd_get (it : Addr) (vs : Array Value) : Meets (Builtin.«wrapper_descriptor.__get__» ⟨[.builtin "list_iterator.__next__", .ref it, .type "list_iterator"], []⟩)
    (fun _ R s => s.heap.get? it = some { cls := .type "list_iterator", data := .fields vs } ∧ R (.ok (.ret (.ref s.heap.objs.size))) { s with heap := s.heap.push (wrapO it) }) :=
  Meets.of_wp fun prog w A R s hs => by
    obtain ⟨hp, g, d, tk, os⟩ := s
    obtain ⟨hx, hs⟩ := hs
    have hT : (⟨hp, g, d, tk, os⟩ : Shared).TypeIs (.ref it) "list_iterator" := ⟨_, hx, rfl⟩
    have f1 := sub_li
    unfold Builtin.«wrapper_descriptor.__get__»
    repeat (any_goals (first | assumption | wp_step))
    rw [li_cut]
    repeat (any_goals (first | assumption | wp_step))
    exact ⟨_, rfl, hs⟩
theorem meets_ga_next (it : Addr) (vs : Array Value) (u : Tok) : Meets (Builtin.«object.__getattribute__» ⟨[.ref it, .str (Str.ofString "__next__") u], []⟩)
    (fun _ R s => s.heap.get? it = some { cls := .type "list_iterator", data := .fields vs } ∧ R (.ok (.ret (.ref s.heap.objs.size))) { s with heap := s.heap.push (wrapO it) }) :=
  Meets.of_wp fun prog w A R s hs => by
    obtain ⟨hp, g, d, tk, os⟩ := s
    obtain ⟨hx, hs⟩ := hs
    have hT : (⟨hp, g, d, tk, os⟩ : Shared).TypeIs (.ref it) "list_iterator" := ⟨_, hx, rfl⟩
    have f1 := sub_li
    have f2 := li_next
    have f3 := wd_get
    have f4 := wd_set
    have f5 := wd_del
    have f6 := li_next_type
    have f7 := wdget_type
    have f8 := (show (["__module__", "__name__", "__qualname__", "__doc__", "__annotations__"] : List Str).contains "__next__" = false by decide)
    unfold Builtin.«object.__getattribute__»
    repeat (any_goals (first | assumption | ((with_reducible show wpAny _ _ (call (Value.builtin "wrapper_descriptor.__get__") _ _) _ _ _); refine call_meets slot_wd_get li_next_type wd_get_entry (args_wd_get _ _ _) (meets_wd_get it vs) ⟨hx, ?_⟩) | wp_step))
    exact wpAny_pure ⟨_, rfl, hs⟩
theorem slot_li_ga : Slot "list_iterator" "__getattribute__" "object.__getattribute__" :=
  .of (owner := "object") (n := "__getattribute__") (by rw [typeLookup_type, builtinLookup_eq_fast]; kernel_rfl) (by decide +kernel) (by decide +kernel) (by decide +kernel)
    (by first | exact .inl (by decide +kernel) | exact .inr (by decide +kernel)) (by rw [isSubtype_type]; kernel_rfl)
theorem getAttr_next {w : World} {A : Around} {E : Value → Shared → Prop} {s : Shared} {h₀ : Heap} {L it : Addr} {m : Str → Option Value} {news : Ledger} {vs : Array Value} {Q : Value → Shared → Prop} (F : Fr h₀ L s.heap m) (N : News h₀ L s.heap news) (hm : (it, ({ cls := .type "list_iterator", data := .fields vs } : Obj)) ∈ news)
    (h : ∀ W h' tk, Fr h₀ L h' m → News h₀ L h' ((W, wrapO it) :: news) → (∀ p ∈ news, p.1 < W) → Q (.ref W) { s with heap := h', toks := tk }) :
    wpAny (model prg w) A (getAttr (.ref it) (Str.ofString "__next__") true) Q E s := by
  have hx := (N _ hm).1
  have key : ∀ tk, Q (.ref s.heap.objs.size) { s with heap := s.heap.push (wrapO it), toks := tk } := fun tk => h _ _ tk (F.push _) (News.push F N _ rfl) fun p hp => Heap.lt_size (N p hp).1
  clear h F N hm
  obtain ⟨hp, g, d, tk, os⟩ := s
  have hT : ∀ tk', (⟨hp, g, d, tk', os⟩ : Shared).TypeIs (.ref it) "list_iterator" := fun _ => ⟨_, hx, rfl⟩
  have f3 := slot_li_ga.lookup
  have f4 := slot_li_ga.bind (.ref it)
  have f5 := li_getattr
  unfold getAttr getAttrBy
  repeat (any_goals (first | assumption | exact hT _ | exact key _ | ((with_reducible show wpAny _ _ (call (Value.builtin "object.__getattribute__") _ _) _ _ _); refine call_meets slot_li_ga (hT _) F.entry_object_getattribute (F.args_object_getattribute_2 _ _) (meets_ga_next it vs _) ⟨hx, ?_⟩) | wp_step))
  exact wpAny_pure (key _)
end
section
theorem cb_next (a : Value) : checkBoundCall "list_iterator.__next__" ⟨[a], []⟩ = pure () := by kernel_rfl
section
variable {w : World} {A : Around} {E : Value → Shared → Prop} {s : Shared} {h₀ : Heap} {L it : Addr} {m : Str → Option Value} {news : Ledger}
theorem codeAny_wrap {W : Addr} {R : Result → Shared → Prop} (ho : s.heap.get? W = some (wrapO it)) (h : codeAny (model prg w) A (.builtin "list_iterator.__next__" ⟨[.ref it], []⟩) R s) : codeAny (model prg w) A (.call (.ref W) ⟨[], []⟩) R s := by
  obtain ⟨hh, g, dr, t, os⟩ := s
  refine codeAny_of_tree ?_
  show wpAny _ _ (callAny (.ref W) _) _ _ _
  dsimp only at ho
  refine nd_load ho ?_
  show wpAny _ _ (checkBoundCall "list_iterator.__next__" ⟨[.ref it], []⟩ >>= fun _ => _) _ _ _
  rw [cb_next]
  refine wpAny_bind (wpAny_pure ?_)
  exact wpAny_pure ⟨by kernel_rfl, h⟩
theorem next_item {W l : Addr} {i : Nat} {items : Array Value} {x : Value} {Q : Value → Shared → Prop} (ho : s.heap.get? W = some (wrapO it)) (hit : s.heap.IsListIter it l i) (hl : s.heap.IsList l items) (hx : items[i]? = some x)
    (hQ : ∀ h', h'.IsListIter it l (i + 1) → Heap.SameBut it s.heap h' → Q x { s with heap := h' }) : wpAny (model prg w) A (call (.ref W) []) Q E s := by
  obtain ⟨o, ho2, hc, hd⟩ := id hit
  obtain ⟨ol, hol, _, nl, hdl⟩ := hl
  refine wpAny_call (codeAny_wrap ho (codeAny_builtin entry_listiter_next ?_))
  show wpAny _ _ (field (.ref it) 0 >>= _) _ _ s
  refine wpAny_bind (wpAny_field ho2 hd (x := .ref l) rfl ?_)
  show wpAny _ _ (if (Value.ref l == Value.none) = true then _ else _) _ _ s
  rw [if_neg (show ¬ ((Value.ref l == Value.none) = true) from Bool.false_ne_true)]
  show wpAny _ _ (field (.ref it) 1 >>= _) _ _ s
  refine wpAny_bind (wpAny_field ho2 hd (x := .int i 0) rfl ?_)
  show wpAny _ _ (seqItems? (.ref l) >>= _) _ _ s
  refine wpAny_bind (wpAny_seqItems hol hdl ?_)
  simp only [Int.toNat_natCast, hx]
  refine wpAny_bind (wpAny_setField ho2 hd (by simp) (wpAny_pure ?_))
  exact hQ _ ⟨_, Heap.get?_update_self _ ho2 (Obj.isFreed_of_fields (Obj.data_mapFields hd _)), (Obj.cls_mapFields ..).trans hc, by
    rw [Obj.data_mapFields hd]; simp [rawInt]⟩ (Heap.SameBut.update ..)
theorem stop_first : ((Manifest.find? "StopIteration").elim false fun t => t.mro.contains "StopIteration" || t.mro.contains "SystemExit") = true := by decide +kernel
theorem next_end {W l : Addr} {i : Nat} {items : Array Value} {Q : Value → Shared → Prop} (hh : HH A s.heap) (hhn : ∀ a, A.handled = some (.ref a) → a ≠ it) (ho : s.heap.get? W = some (wrapO it)) (hit : s.heap.IsListIter it l i) (hl : s.heap.IsList l items) (hx : items[i]? = none)
    (hE : ∀ h1 h' e, Heap.SameBut it s.heap h1 → (∃ o1, h1.get? it = some o1) → NX (A.handled = none) h1 h' e "StopIteration" → E (.ref e) { s with heap := h' }) : wpAny (model prg w) A (call (.ref W) []) Q E s := by
  obtain ⟨o, ho2, hc, hd⟩ := id hit
  obtain ⟨ol, hol, _, nl, hdl⟩ := hl
  refine wpAny_call (codeAny_wrap ho (codeAny_builtin entry_listiter_next ?_))
  show wpAny _ _ (field (.ref it) 0 >>= _) _ _ s
  refine wpAny_bind (wpAny_field ho2 hd (x := .ref l) rfl ?_)
  show wpAny _ _ (if (Value.ref l == Value.none) = true then _ else _) _ _ s
  rw [if_neg (show ¬ ((Value.ref l == Value.none) = true) from Bool.false_ne_true)]
  show wpAny _ _ (field (.ref it) 1 >>= _) _ _ s
  refine wpAny_bind (wpAny_field ho2 hd (x := .int i 0) rfl ?_)
  show wpAny _ _ (seqItems? (.ref l) >>= _) _ _ s
  refine wpAny_bind (wpAny_seqItems hol hdl ?_)
  simp only [Int.toNat_natCast, hx]
  refine wpAny_bind (wpAny_rule (wpAny_bind (wpAny_setField ho2 hd (by simp) ?_)))
  show wpAny _ _ (newExc (.type "StopIteration") [] >>= _) _ _ _
  refine wpAny_bind ?_
  simp only [newExc, newTuple]
  refine wpAny_bind (wpAny_newObj_type ?_ (by size_fits))
  refine wpAny_bind (m := firstArgMember _ _) (wpAny_of_eq (a := Value.none) (by first | rfl | (simp only [firstArgMember]; rfl)) ?_)
  refine wpAny_newObj_type ?_ (by size_fits)
  have up : ∀ (o1 o2 : Obj) (b : Addr) (o : Obj), (s.heap.update it (Obj.mapFields fun x => x.setIfInBounds 0 Value.none)).get? b = some o → (((s.heap.update it (Obj.mapFields fun x => x.setIfInBounds 0 Value.none)).push o1).push o2).get? b = some o := fun o1 o2 b o hb => Heap.get?_push_of_some _ (Heap.get?_push_of_some _ hb)
  have oth : ∀ b o, b ≠ it → s.heap.get? b = some o → (s.heap.update it (Obj.mapFields fun x => x.setIfInBounds 0 Value.none)).get? b = some o := fun b o hb q => (Heap.get?_update_other _ _ (Ne.symm hb)).trans q
  refine raiseNewH (vs0 := _) (cls := "StopIteration") (hh.imp id fun ⟨a, o, vs, x1, x2, x3, x4⟩ => ⟨a, o, vs, x1, up _ _ _ _ (oth _ _ (hhn a x1) x2), x3, x4⟩) (Heap.get?_push_size _ rfl) rfl rfl (by simp) (fun a ha q => ?_) (fun h' vs' k1 k2 k5 k6 k7 => ?_)
  · rcases hh with hh | ⟨a', o, vs, x1, x2, _⟩
    · rw [show (A.under (.builtin "list_iterator.__next__" ⟨[.ref it], []⟩)).handled = A.handled from rfl, hh] at ha; cases ha
    · rw [show (A.under (.builtin "list_iterator.__next__" ⟨[.ref it], []⟩)).handled = A.handled from rfl, x1] at ha
      have : a' = a := by cases ha; rfl
      subst this
      have h9 := Heap.lt_size x2
      rw [q] at h9
      simp only [push_size, Heap.size_after_update] at h9
      exact Nat.lt_irrefl _ (Nat.lt_trans h9 (Nat.lt_succ_self _))
  · refine hE (s.heap.update it (Obj.mapFields fun x => x.setIfInBounds 0 Value.none)) h' _ (Heap.SameBut.update ..) ⟨_, Heap.get?_update_self _ ho2 (Obj.isFreed_of_fields (Obj.data_mapFields hd _))⟩ ⟨fun b o hb => (k1 b ?_).trans (up _ _ b o hb), Heap.get?_none_of_le (by simp), vs', k2, k5, k6, k7⟩
    intro q
    have h9 := Heap.lt_size hb
    rw [q] at h9
    simp only [push_size] at h9
    exact absurd h9 (Nat.not_lt.mpr (Nat.le_succ _))
end
end
section
abbrev itO (l : Addr) (i : Nat) : Obj := { cls := .type "list_iterator", data := .fields #[.ref l, .int i 0] }
section
variable {w : World} {A : Around} {E : Value → Shared → Prop} {s : Shared} {h₀ : Heap} {L it : Addr} {m : Str → Option Value} {news : Ledger}
theorem list_iter {Q : Value → Shared → Prop} {l : Addr} {items : Array Value} {n : Nat} (F : Fr h₀ L s.heap m) (N : News h₀ L s.heap news) (hp : (l, listOf items n) ∈ news)
    (h : ∀ (I : Addr) h', Fr h₀ L h' m → News h₀ L h' ((I, itO l 0) :: news) → (∀ p ∈ news, p.1 < I) → Q (.ref I) { s with heap := h' }) :
    wpAny (model prg w) A (call (.builtin "iter") [.ref l]) Q E s := by
  refine call_function_entry (by decide +kernel) (by decide +kernel) kdk_entry_iter (kdk_args_iter _) ?_
  unfold Builtin.«iter»
  refine wpAny_bind (m := someArgs "iter" 1 2 _) (wpAny_of_eq (a := [Value.ref l]) (by first | rfl | kernel_rfl!) ?_)
  show wpAny _ _ (pyIter (.ref l) >>= _) _ _ _
  refine wpAny_bind (wpAny_pyIter_list (l := l) (items := items) ⟨_, (N _ hp).1, rfl, _, rfl⟩ ?_)
  exact wpAny_pure ⟨_, rfl, h _ _ (F.push _) (News.push F N _ rfl) (fun q hq => Heap.lt_size (N q hq).1)⟩
theorem len_led {Q : Value → Shared → Prop} {l : Addr} {vs : List Value} {n : Nat} (_F : Fr h₀ L s.heap m) (N : News h₀ L s.heap news) (hp : (l, listOf vs.toArray n) ∈ news) (hz : vs.length ≤ 100000)
    (h : ∀ t tk, Q (.int vs.length t) { s with toks := tk }) : wpAny (model prg w) A (call (.builtin "len") [.ref l]) Q E s := by
  refine Calls.call_len_list (items := vs.toArray) ⟨_, (N _ hp).1, rfl, _, rfl⟩ ?_ ?_
  · simp only [List.size_toArray]; omega
  · simp only [List.size_toArray]; exact h _ _
theorem truthy_led {Q : Bool → Shared → Prop} {l : Addr} {vs : List Value} {n : Nat} {b : Bool} (_F : Fr h₀ L s.heap m) (N : News h₀ L s.heap news) (hp : (l, listOf vs.toArray n) ∈ news) (hz : vs.length ≤ 100000) (hb : vs.isEmpty = !b)
    (h : ∀ tk, Q b { s with toks := tk }) : wpAny (model prg w) A (truthy (.ref l)) Q E s := by
  refine wpAny_truthy_list (items := vs.toArray) ⟨_, (N _ hp).1, rfl, _, rfl⟩ ?_ ?_
  · simp only [List.size_toArray]; omega
  · have : (!vs.toArray.isEmpty) = b := by
      have : vs.toArray.isEmpty = vs.isEmpty := by simp
      rw [this, hb]; simp
    rw [this]; exact h _
theorem keeper_wrap {M : Model} {W it : Addr} (h : Heap) (e : h.get? W = some (wrapO it)) : ∃ k, (k = Keeper.frame ∨ k = Keeper.machine ∨ k = Keeper.boundFrame) ∧ Looks M h (keeperOf (.ref W)) k := by
  refine ⟨.machine, .inr (.inl rfl), (Looks.ld (part := none) e).andThen ?_⟩
  have h1 : (Value.type "method-wrapper" != Value.type "method") = true := by decide
  have h2 : (Value.type "method-wrapper" == Value.type "builtin_function_or_method" || Value.type "method-wrapper" == Value.type "method-wrapper") = true := by decide
  simp only [h1, h2, if_true]
  exact .now
theorem callWith_wrap {pos : Pos} {env : Env} {W : Addr} {Q : Value → Shared → Prop} (N : News h₀ L s.heap news) (hm : (W, wrapO it) ∈ news) (h : wpAny (model prg w) A (call (.ref W) []) Q E s) :
    wpAny (model prg w) A (callWith pos (.ref W) [] (backTo pos (starEach [] env)) []) Q E s :=
  callWith_of (P := fun h => h.get? W = some (wrapO it)) rfl keeper_wrap (evalArgs_nil3 ⟨(N _ hm).1, h⟩)
theorem pop_led {D : Addr} {p : List Value} {y : Value} {n : Nat} {news' : Ledger} {Q : Value → Shared → Prop} (F : Fr h₀ L s.heap m) (N : News h₀ L s.heap news) (U : Upd D (listOf (p ++ [y]).toArray n) (listOf p.toArray (n + 1)) news news') (hz : (p ++ [y]).length ≤ 100000)
    (h : ∀ h', Fr h₀ L h' m → News h₀ L h' news' → Q y { s with heap := h' }) : wpAny (model prg w) A (call (.builtin "list.pop") [.ref D]) Q E s :=
  kl_pop F N (p := p) (y := y) (kpa_last y p) U (by rw [sizeLine_eq]; exact Nat.le_trans hz (by decide)) h
theorem has_key {kvs : List (Int × Value)} {k : Int} (nd : (kvs.map (·.1)).Nodup) (h : k ∈ kvs.map (·.1)) : (valueAt kvs k).isSome = true := by
  obtain ⟨⟨k', v⟩, hm, rfl⟩ := List.mem_map.mp h
  obtain ⟨i, hi⟩ := List.getElem?_of_mem hm
  rw [PySem.valueAt_of_get nd hi]; rfl
theorem without_last {kvs : List (Int × Value)} {k : Int} {ks : List Int} (e : kvs.map (·.1) = ks ++ [k]) (hk : k ∉ ks) : (without kvs k).map (·.1) = ks := by
  have h1 : (without kvs k).map (·.1) = (kvs.map (·.1)).filter (fun x => decide (x ≠ k)) := by
    unfold without
    rw [List.filter_map]; rfl
  rw [h1, e, List.filter_append]
  have h2 : ks.filter (fun x => decide (x ≠ k)) = ks := List.filter_eq_self.mpr fun x hx => by
    have : x ≠ k := fun q => hk (q ▸ hx)
    simp [this]
  rw [h2]; simp
theorem next_led {W l : Addr} {i n : Nat} {items : Array Value} {x : Value} {news' : Ledger} {Q : Value → Shared → Prop} (F : Fr h₀ L s.heap m) (N : News h₀ L s.heap news) (hW : (W, wrapO it) ∈ news) (hp : (l, listOf items n) ∈ news) (U : Upd it (itO l i) (itO l (i + 1)) news news')
    (hx : items[i]? = some x) (h : ∀ h', Fr h₀ L h' m → News h₀ L h' news' → Q x { s with heap := h' }) : wpAny (model prg w) A (call (.ref W) []) Q E s := by
  have ho := (N _ hW).1
  have hol := (N _ hp).1
  obtain ⟨pre, post, hnw, rfl, a, b⟩ := U.split
  have hm : (it, itO l i) ∈ news := by rw [hnw]; exact List.mem_append_right _ (.head _)
  have hmm := N _ hm
  have ho2 := hmm.1
  have hd : (itO l i).data = .fields #[.ref l, .int i 0] := rfl
  refine wpAny_call (codeAny_wrap ho (codeAny_builtin entry_listiter_next ?_))
  show wpAny _ _ (field (.ref it) 0 >>= _) _ _ s
  refine wpAny_bind (wpAny_field ho2 hd (x := .ref l) rfl ?_)
  show wpAny _ _ (if (Value.ref l == Value.none) = true then _ else _) _ _ s
  rw [if_neg (show ¬ ((Value.ref l == Value.none) = true) from Bool.false_ne_true)]
  show wpAny _ _ (field (.ref it) 1 >>= _) _ _ s
  refine wpAny_bind (wpAny_field ho2 hd (x := .int i 0) rfl ?_)
  show wpAny _ _ (seqItems? (.ref l) >>= _) _ _ s
  refine wpAny_bind (wpAny_seqItems hol rfl ?_)
  simp only [Int.toNat_natCast, hx]
  refine wpAny_bind (wpAny_setField ho2 hd (by simp) (wpAny_pure ?_))
  refine h _ (F.change (Heap.SameBut.update ..) hmm.2.1 hmm.2.2) ?_
  rw [hnw] at N
  refine N.setIn a b (Heap.SameBut.update ..) ?_
  exact (Heap.get?_update_self _ ho2 (Obj.isFreed_of_fields (Obj.data_mapFields hd _))).trans (by simp [Obj.mapFields, rawInt])
theorem next_led_end {W l : Addr} {i n : Nat} {items : Array Value} {g : Obj → Ledger} {Q : Value → Shared → Prop} (hA : A.handled = none) (F : Fr h₀ L s.heap m) (N : News h₀ L s.heap news) (hW : (W, wrapO it) ∈ news) (hp : (l, listOf items n) ∈ news) (U : UpdF it (itO l i) news g)
    (hx : items[i]? = none) (h : ∀ h1 h' e o1, Fr h₀ L h1 m → News h₀ L h1 (g o1) → NX (A.handled = none) h1 h' e "StopIteration" → E (.ref e) { s with heap := h' }) : wpAny (model prg w) A (call (.ref W) []) Q E s := by
  obtain ⟨pre, post, hnw, hg, a, b⟩ := U.split
  have hm : (it, itO l i) ∈ news := by rw [hnw]; exact List.mem_append_right _ (.head _)
  have hmm := N _ hm
  refine next_end (.inl hA) (fun a q => by rw [hA] at q; cases q) (N _ hW).1 ⟨_, hmm.1, rfl, rfl⟩ ⟨_, (N _ hp).1, rfl, _, rfl⟩ hx fun h1 h' e hs ho1 x => ?_
  obtain ⟨o1, ho1⟩ := ho1
  rw [hnw] at N
  exact h h1 h' e o1 (F.change hs hmm.2.1 hmm.2.2) (hg o1 ▸ N.setIn a b hs ho1) x
end
end
section
section
noncomputable def cfm (a d sk ik se nk : Addr) (node : Option Value) : Str → Option Value := fun y =>
  if y = Str.ofString "self" then some (.ref a) else if y = Str.ofString "n2i" then some (.ref d) else if y = Str.ofString "stack" then some (.ref sk) else if y = Str.ofString "itstack" then some (.ref ik) else if y = Str.ofString "seen" then some (.ref se) else if y = Str.ofString "node2stacki" then some (.ref nk) else if y = Str.ofString "node" then node else none
theorem cfm_eq {m : Str → Option Value} {a d sk ik se nk : Addr} {node : Option Value} (h1 : m (Str.ofString "self") = some (.ref a)) (h2 : m (Str.ofString "n2i") = some (.ref d)) (h3 : m (Str.ofString "stack") = some (.ref sk)) (h4 : m (Str.ofString "itstack") = some (.ref ik)) (h5 : m (Str.ofString "seen") = some (.ref se)) (h6 : m (Str.ofString "node2stacki") = some (.ref nk)) (h7 : m (Str.ofString "node") = node)
    (h : ∀ y, y ≠ Str.ofString "self" → y ≠ Str.ofString "n2i" → y ≠ Str.ofString "stack" → y ≠ Str.ofString "itstack" → y ≠ Str.ofString "seen" → y ≠ Str.ofString "node2stacki" → y ≠ Str.ofString "node" → m y = none) : ∀ y, m y = cfm a d sk ik se nk node y := by
  intro y
  unfold cfm
  by_cases q1 : y = Str.ofString "self"
  · rw [if_pos q1, q1]; exact h1
  rw [if_neg q1]
  by_cases q2 : y = Str.ofString "n2i"
  · rw [if_pos q2, q2]; exact h2
  rw [if_neg q2]
  by_cases q3 : y = Str.ofString "stack"
  · rw [if_pos q3, q3]; exact h3
  rw [if_neg q3]
  by_cases q4 : y = Str.ofString "itstack"
  · rw [if_pos q4, q4]; exact h4
  rw [if_neg q4]
  by_cases q5 : y = Str.ofString "seen"
  · rw [if_pos q5, q5]; exact h5
  rw [if_neg q5]
  by_cases q6 : y = Str.ofString "node2stacki"
  · rw [if_pos q6, q6]; exact h6
  rw [if_neg q6]
  by_cases q7 : y = Str.ofString "node"
  · rw [if_pos q7, q7]; exact h7
  rw [if_neg q7]
  exact h y q1 q2 q3 q4 q5 q6 q7
theorem cfm_none {a d sk ik se nk : Addr} {node : Option Value} (y : Str) (a1 : y ≠ Str.ofString "self") (a2 : y ≠ Str.ofString "n2i") (a3 : y ≠ Str.ofString "stack") (a4 : y ≠ Str.ofString "itstack") (a5 : y ≠ Str.ofString "seen") (a6 : y ≠ Str.ofString "node2stacki") (a7 : y ≠ Str.ofString "node") : cfm a d sk ik se nk node y = none := by
  simp only [cfm, if_neg a1, if_neg a2, if_neg a3, if_neg a4, if_neg a5, if_neg a6, if_neg a7]
/-- the ledger in the midst of _find_cycle -/
noncomputable def cled (w : World) (a ad d sk ik se nk : Addr) (t1 t2 t3 t4 : Tok) (rv po fi : Value) (o oS oN : Obj) (svs ivs : List Value) (es ei : Nat) (tail : Ledger) : Ledger :=
  (nk, oN) :: (se, oS) :: (ik, listOf ivs.toArray ei) :: (sk, listOf svs.toArray es) :: (a, instObj 188 ad) :: (ad, sdict w t1 t2 t3 t4 d rv po fi) :: (d, o) :: tail
/-- a place of the depth-first walk: the node, its iterator, the bound `__next__` -/
structure CF where
  d : Nd
  tok : Tok
  it : Addr
  wr : Addr
  pos : Nat
noncomputable def CF.led (f : CF) : Ledger := [(f.wr, wrapO f.it), (f.it, { cls := .type "list_iterator", data := .fields #[.ref f.d.sa, .int f.pos 0] })]
noncomputable def fled (fs : List CF) : Ledger := fs.flatMap CF.led
noncomputable def fnod (fs : List CF) : List Value := fs.map fun f => .int f.d.num f.tok
noncomputable def fwrs (fs : List CF) : List Value := fs.map fun f => .ref f.wr
noncomputable def fnum (fs : List CF) : List Int := fs.map fun f => f.d.num
noncomputable def unseen (S : Int → Bool) (ns : List Nd) : Nat := (ns.map fun d => if S d.num then 0 else 1).sum
noncomputable def owed (S : Int → Bool) (ns : List Nd) : Nat := (ns.map fun d => if S d.num then 0 else d.sn.length).sum
noncomputable def left (fs : List CF) : Nat := (fs.map fun f => f.d.sn.length - f.pos).sum
theorem sum_mono {α : Type} (f g : α → Nat) (l : List α) (h : ∀ x ∈ l, f x ≤ g x) : (l.map f).sum ≤ (l.map g).sum := by
  induction l with
  | nil => exact Nat.le_refl _
  | cons a t ih =>
    simp only [List.map_cons, List.sum_cons]
    have := h a (.head _)
    have := ih fun x hx => h x (.tail _ hx)
    omega
theorem sum_drop {α : Type} (f g : α → Nat) (l : List α) (c : Nat) (a : α) (ha : a ∈ l) (hc : f a + c ≤ g a) (h : ∀ x ∈ l, f x ≤ g x) : (l.map f).sum + c ≤ (l.map g).sum := by
  induction l with
  | nil => cases ha
  | cons b t ih =>
    simp only [List.map_cons, List.sum_cons]
    have hb := h b (.head _)
    have ht := sum_mono f g t fun x hx => h x (.tail _ hx)
    rcases List.mem_cons.mp ha with rfl | ha
    · exact lin [_, _, _, _, _] [] [(1, (.n (.a (.v 0) (.v 2)) (.v 3))), (1, (.n (.v 1) (.v 4)))] 1 (.n (.a (.a (.v 0) (.v 1)) (.v 2)) (.a (.v 3) (.v 4))) rfl hc ht
    · have := ih ha fun x hx => h x (.tail _ hx)
      exact lin [_, _, _, _, _] [] [(1, (.n (.v 0) (.v 3))), (1, (.n (.a (.v 1) (.v 2)) (.v 4)))] 1 (.n (.a (.a (.v 0) (.v 1)) (.v 2)) (.a (.v 3) (.v 4))) rfl hb this
theorem unseen_add {S : Int → Bool} {ns : List Nd} {d : Nd} (hd : d ∈ ns) (hs : S d.num = false) : unseen (fun k => S k || decide (k = d.num)) ns + 1 ≤ unseen S ns := by
  refine sum_drop _ _ ns 1 d hd (by simp [hs]) fun x _ => ?_
  dsimp only
  by_cases hq : S x.num = true
  · rw [if_pos hq]; simp [hq]
  · rw [if_neg hq]
    split
    · exact Nat.zero_le _
    · exact Nat.le_refl _
theorem owed_add {S : Int → Bool} {ns : List Nd} {d : Nd} (hd : d ∈ ns) (hs : S d.num = false) : owed (fun k => S k || decide (k = d.num)) ns + d.sn.length ≤ owed S ns := by
  refine sum_drop _ _ ns _ d hd (by simp [hs]) fun x _ => ?_
  dsimp only
  by_cases hq : S x.num = true
  · rw [if_pos hq]; simp [hq]
  · rw [if_neg hq]
    split
    · exact Nat.zero_le _
    · exact Nat.le_refl _
end
end
section
section
set_option hygiene false in
local macro_rules | `(tactic| walk_at "subscriptTail Name Name ref int") => `(tactic| walk_at "st")
set_option hygiene false in
local macro_rules | `(tactic| walk_at "exec While") => `(tactic| with_reducible refine stop_p0 ?_)
noncomputable def Mk (Q : Flow → Shared → Prop) : Flow → Shared → Prop := Q
set_option hygiene false in
local macro_rules | `(tactic| walk_at "exec If") => `(tactic| ((with_reducible show wpAny _ _ (exec (Stmt.If _ _ (_ :: _) _) _) _ _ _); (fail_if_success with_reducible show wpAny _ _ _ (Mk _) _ _); refine stop_in ?_))
set_option hygiene false in
local macro_rules | `(tactic| walk_at "compareOp In int ref") => `(tactic| ((with_reducible refine idp_p0 ?_); k_dflt (refine' kda_in (knd := PySem.intKind _ _) (by k_asm) (by k_mem) (by k_asm) (by k_asm) (intKind_is _ _ _ _) false (by rw [show valueAt _ _ = none by assumption]; rfl) ?_)))
set_option hygiene false in
local macro_rules | `(tactic| walk_at "call builtin:list.append") => `(tactic| walk_at "st")
set_option hygiene false in
local macro_rules | `(tactic| walk_at "call builtin:iter") => `(tactic| walk_at "st")
set_option hygiene false in
local macro_rules | `(tactic| walk_at "getAttr ref") => `(tactic| with_reducible refine stop_p3 ?_)
set_option hygiene false in
local macro_rules | `(tactic| walk_at "setItem ref int") => `(tactic| walk_at "st")
set_option hygiene false in
local macro_rules | `(tactic| walk_at "call builtin:len") => `(tactic| walk_at "st")
set_option hygiene false in
local macro_rules | `(tactic| walk_at "truthy ref") => `(tactic| walk_at "st")
set_option hygiene false in
local macro_rules | `(tactic| walk_at "subscriptTail Name UnaryOp ref int") => `(tactic| walk_at "st")
set_option hygiene false in
local macro_rules | `(tactic| walk_at "call ref") => `(tactic| with_reducible refine stop_p4 ?_)
set_option hygiene false in
local macro_rules | `(tactic| walk_at "call ref nil") => `(tactic| with_reducible refine stop_p4 ?_)
set_option hygiene false in
local macro_rules | `(tactic| walk_at "callWith ref nil nil") => `(tactic| walk_at "st")
set_option hygiene false in
local macro_rules | `(tactic| walk_at "handleBy") => `(tactic| walk_at "st")
set_option hygiene false in
local macro_rules | `(tactic| walk_at "call builtin:list.pop") => `(tactic| walk_at "st")
set_option hygiene false in
local macro_rules | `(tactic| walk_at "delItem ref int") => `(tactic| walk_at "st")
/-- what the walk keeps: the places on the stack, in rising order, all seen -/
structure CInv (ns : List Nd) (S : Int → Bool) (n : Nat) (fs : List CF) : Prop where
  mem : ∀ f ∈ fs, f.d ∈ ns ∧ f.pos ≤ f.d.sn.length ∧ S f.d.num = true
  inc : (fnum fs).Pairwise (· < ·)
  cnt : n + unseen S ns ≤ 64
inductive CycJ (w : World) (a ad d sk ik se nk : Addr) (t1 t2 t3 t4 : Tok) (rv po fi : Value) (o : Obj) (ns : List Nd) (l : List Env) (frs tl : Ledger) (fs : List CF) (S : Int → Bool) (node : Option Value) : (Str → Option Value) → Ledger → Prop
  | mk (n : Nat) (oS oN : Obj) (dk : List (Int × Value)) (es ei : Nat) (frs' : Ledger) (_ : CInv ns S n fs) (_ : oS.SetObjOf (PySem.intKind prg w) S n) (_ : IsD w oN dk) (_ : dk.map (·.1) = fnum fs) (_ : TI.SameUp frs frs') (_ : TI.Frs l frs')
    (_ : ((cled w a ad d sk ik se nk t1 t2 t3 t4 rv po fi o oS oN (fnod fs) (fwrs fs) es ei (fled fs ++ (tl ++ frs'))).map (·.1)).Nodup) :
    CycJ w a ad d sk ik se nk t1 t2 t3 t4 rv po fi o ns l frs tl fs S node (cfm a d sk ik se nk node) (cled w a ad d sk ik se nk t1 t2 t3 t4 rv po fi o oS oN (fnod fs) (fwrs fs) es ei (fled fs ++ (tl ++ frs')))
inductive CycE (w : World) (a ad d sk ik se nk : Addr) (t1 t2 t3 t4 : Tok) (rv po fi : Value) (o : Obj) (ns : List Nd) (l : List Env) (frs tl : Ledger) (i : Nat) (m : Str → Option Value) (news : Ledger) : Prop
  | mk (S : Int → Bool) (node : Option Value) (_ : CycJ w a ad d sk ik se nk t1 t2 t3 t4 rv po fi o ns l frs tl [] S node m news) : CycE w a ad d sk ik se nk t1 t2 t3 t4 rv po fi o ns l frs tl i m news
inductive CycW (s : Shared) (h₀ : Heap) (L : Addr) (w : World) (a ad d sk ik se nk : Addr) (t1 t2 t3 t4 : Tok) (rv po fi : Value) (o : Obj) (ns : List Nd) (l : List Env) (frs tl : Ledger) (X : List CF → (Int → Bool) → Int → Prop) : Shared → Prop
  | mk (fs : List CF) (S2 : Int → Bool) (k2 : Int) (tk2 : Tok) (hp : Heap) (tkk : Tok) (mm : Str → Option Value) (news : Ledger) (_ : CycJ w a ad d sk ik se nk t1 t2 t3 t4 rv po fi o ns l frs tl fs S2 (some (.int k2 tk2)) mm news) (_ : Fr h₀ L hp mm) (_ : News h₀ L hp news) (_ : X fs S2 k2) :
    CycW s h₀ L w a ad d sk ik se nk t1 t2 t3 t4 rv po fi o ns l frs tl X { s with heap := hp, toks := tkk }
theorem cled_adr {w : World} {a ad d sk ik se nk : Addr} {t1 t2 t3 t4 : Tok} {rv po fi : Value} {o oS oN oS' oN' : Obj} {svs ivs svs' ivs' : List Value} {es ei es' ei' : Nat} {tail tail' : Ledger} (h : tail.map (·.1) = tail'.map (·.1)) :
    (cled w a ad d sk ik se nk t1 t2 t3 t4 rv po fi o oS oN svs ivs es ei tail).map (·.1) = (cled w a ad d sk ik se nk t1 t2 t3 t4 rv po fi o oS' oN' svs' ivs' es' ei' tail').map (·.1) := by
  simp only [cled, List.map_cons, h]
theorem tail_perm (fl : Ledger) (p : Addr × Obj) (l r : List Nd) (d : Nd) (rest frs : Ledger) : (fl ++ (p :: (sled (l ++ d :: r) ++ rest) ++ frs)).Perm (d.led ++ (fl ++ (p :: (sled l ++ (sled r ++ (rest ++ frs)))))) := by
  rw [sled_split, ← led_cons]
  have := List.perm_append_comm_assoc (fl ++ p :: sled l) d.led (sled r ++ (rest ++ frs))
  simpa [List.append_assoc] using this
theorem cled_perm {w : World} {a ad d sk ik se nk : Addr} {t1 t2 t3 t4 : Tok} {rv po fi : Value} {o oS oN : Obj} {svs ivs : List Value} {es ei : Nat} {tail tail' : Ledger} (h : tail.Perm tail') :
    (cled w a ad d sk ik se nk t1 t2 t3 t4 rv po fi o oS oN svs ivs es ei tail).Perm (cled w a ad d sk ik se nk t1 t2 t3 t4 rv po fi o oS oN svs ivs es ei tail') := by
  unfold cled
  exact ((((((h.cons _).cons _).cons _).cons _).cons _).cons _).cons _
theorem News.perm {h₀ h : Heap} {L : Addr} {ps qs : Ledger} (N : News h₀ L h ps) (P : ps.Perm qs) : News h₀ L h qs := fun p hp => N p (P.mem_iff.mpr hp)
theorem nd_perm {ps qs : Ledger} (N : (ps.map (·.1)).Nodup) (P : ps.Perm qs) : (qs.map (·.1)).Nodup := (P.map _).nodup_iff.mp N
theorem push_perm (p q : Addr × Obj) (F dl fl T : Ledger) : (p :: q :: (F ++ (dl ++ (fl ++ T)))).Perm (F ++ (dl ++ ((fl ++ [p, q]) ++ T))) := by
  have := List.perm_append_comm_assoc [p, q] (F ++ (dl ++ fl)) T
  simpa [List.append_assoc] using this
theorem nodup_len {l m : List Int} (nd : l.Nodup) (h : ∀ x ∈ l, x ∈ m) : l.length ≤ m.length := by
  induction l generalizing m with
  | nil => exact Nat.zero_le _
  | cons a t ih =>
    obtain ⟨n1, n2⟩ := List.nodup_cons.mp nd
    have ha := h a (.head _)
    have := ih (m := m.erase a) n2 fun x hx => (List.mem_erase_of_ne (fun e => n1 (by rw [← e]; exact hx))).mpr (h x (.tail _ hx))
    rw [List.length_erase_of_mem ha] at this
    have h3 : 0 < m.length := List.length_pos_of_mem ha
    simp only [List.length_cons]; exact lin [_, _, _] [] [(1, (.n (.v 0) (.v 2))), (1, (.n (.a (.v 2) (.k 1)) (.v 1)))] 1 (.n (.a (.v 0) (.k 1)) (.v 1)) rfl this (sub_c (lin [_] [] [(1, (.n (.a (.k 0) (.k 1)) (.v 0)))] 1 (.n (.k 1) (.v 0)) rfl h3))
theorem CInv.len {ns : List Nd} {S : Int → Bool} {n : Nat} {fs : List CF} (h : CInv ns S n fs) : fs.length ≤ ns.length := by
  have h1 : (fnum fs).Nodup := h.inc.imp fun h => Int.ne_of_lt h
  have := nodup_len (m := nums ns) h1 fun x hx => by
    obtain ⟨f, hf, rfl⟩ := List.mem_map.mp hx
    exact List.mem_map_of_mem (h.mem f hf).1
  simpa [fnum, nums] using this
theorem CInv.push {ns : List Nd} {S : Int → Bool} {n : Nat} {fs : List CF} (h : CInv ns S n fs) {d : Nd} {tk : Tok} {it wr : Addr} (hd : d ∈ ns) (hs : S d.num = false) (hlt : ∀ f ∈ fs, f.d.num < d.num) :
    CInv ns (fun k => S k || decide (k = d.num)) (n + 1) (fs ++ [⟨d, tk, it, wr, 0⟩]) := by
  refine ⟨fun f hf => ?_, ?_, ?_⟩
  · rcases List.mem_append.mp hf with hf | hf
    · have := h.mem f hf
      exact ⟨this.1, this.2.1, by simp [this.2.2]⟩
    · rw [List.mem_singleton.mp hf]
      exact ⟨hd, Nat.zero_le _, by simp⟩
  · unfold fnum
    rw [List.map_append]
    refine List.pairwise_append.mpr ⟨h.inc, by simp, fun x hx y hy => ?_⟩
    obtain ⟨f, hf, rfl⟩ := List.mem_map.mp hx
    simp at hy
    rw [hy]; exact hlt f hf
  · have := unseen_add hd hs
    have := h.cnt
    exact lin [_, _, _] [] [(1, (.n (.a (.v 1) (.k 1)) (.v 2))), (1, (.n (.a (.v 0) (.v 2)) (.k 64)))] 1 (.n (.a (.a (.v 0) (.k 1)) (.v 1)) (.k 64)) rfl ‹unseen (fun k => S k || decide (k = d.num)) ns + 1 ≤ unseen S ns› this
theorem left_push (fs : List CF) (d : Nd) (tk : Tok) (it wr : Addr) : left (fs ++ [⟨d, tk, it, wr, 0⟩]) = left fs + d.sn.length := by simp [left]
theorem top_perm {w : World} {a ad d sk ik se nk : Addr} {t1 t2 t3 t4 : Tok} {rv po fi : Value} {o oS oN : Obj} {svs ivs : List Value} {es ei : Nat} (fs0 : List CF) (f : CF) (T : Ledger) :
    (cled w a ad d sk ik se nk t1 t2 t3 t4 rv po fi o oS oN svs ivs es ei (fled (fs0 ++ [f]) ++ T)).Perm ((f.wr, wrapO f.it) :: (f.it, itO f.d.sa f.pos) :: cled w a ad d sk ik se nk t1 t2 t3 t4 rv po fi o oS oN svs ivs es ei (fled fs0 ++ T)) := by
  have := (push_perm (f.wr, wrapO f.it) (f.it, itO f.d.sa f.pos) [(nk, oN), (se, oS), (ik, listOf ivs.toArray ei), (sk, listOf svs.toArray es), (a, instObj 188 ad), (ad, sdict w t1 t2 t3 t4 d rv po fi), (d, o)] [] (fled fs0) T).symm
  have e1 : fled (fs0 ++ [f]) = fled fs0 ++ [(f.wr, wrapO f.it), (f.it, itO f.d.sa f.pos)] := by simp [fled, CF.led]
  rw [e1]
  exact this
theorem tail_assoc (fl : Ledger) (p : Addr × Obj) (x y z : Ledger) : (fl ++ (p :: (x ++ y) ++ z)).Perm (fl ++ p :: (x ++ (y ++ z))) := by rw [List.cons_append, List.append_assoc]
theorem asc9 (F fl : Ledger) (p : Addr × Obj) (x y z : Ledger) : (F ++ (fl ++ p :: (x ++ y))) ++ z = F ++ (fl ++ p :: (x ++ (y ++ z))) := by simp only [List.append_assoc, List.cons_append]
theorem nd_up {frs frs' : Ledger} (F fl : Ledger) (p : Addr × Obj) (x y : Ledger) (SU : TI.SameUp frs frs') (h : ((F ++ (fl ++ p :: (x ++ (y ++ frs)))).map (·.1)).Nodup) : ((F ++ (fl ++ p :: (x ++ (y ++ frs')))).map (·.1)).Nodup := by
  simp only [List.map_append, List.map_cons, su_map SU] at h ⊢
  exact h
section
variable {w : World} {a ad d sk ik se nk : Addr} {t1 t2 t3 t4 : Tok} {rv po fi : Value} {o oS oN : Obj} {svs ivs : List Value} {es ei : Nat}
theorem cled_assoc (fl : Ledger) (p : Addr × Obj) (x y z : Ledger) : (cled w a ad d sk ik se nk t1 t2 t3 t4 rv po fi o oS oN svs ivs es ei (fl ++ (p :: (x ++ y) ++ z))).Perm (cled w a ad d sk ik se nk t1 t2 t3 t4 rv po fi o oS oN svs ivs es ei (fl ++ p :: (x ++ (y ++ z)))) := cled_perm (tail_assoc fl p x y z)
theorem top_assoc (fs0 : List CF) (f : CF) (p : Addr × Obj) (x y z : Ledger) :
    (cled w a ad d sk ik se nk t1 t2 t3 t4 rv po fi o oS oN svs ivs es ei (fled (fs0 ++ [f]) ++ (p :: (x ++ y) ++ z))).Perm ((f.wr, wrapO f.it) :: (f.it, itO f.d.sa f.pos) :: cled w a ad d sk ik se nk t1 t2 t3 t4 rv po fi o oS oN svs ivs es ei (fled fs0 ++ p :: (x ++ (y ++ z)))) := (top_perm fs0 f _).trans (((cled_assoc _ p x y z).cons _).cons _)
theorem cled_mid (p : Addr × Obj) (x z : Ledger) : (cled w a ad d sk ik se nk t1 t2 t3 t4 rv po fi o oS oN svs ivs es ei (fled [] ++ (p :: x ++ z))).Perm (p :: cled w a ad d sk ik se nk t1 t2 t3 t4 rv po fi o oS oN svs ivs es ei (fled [] ++ (x ++ z))) :=
  List.perm_middle (l₁ := [(nk, oN), (se, oS), (ik, listOf ivs.toArray ei), (sk, listOf svs.toArray es), (a, instObj 188 ad), (ad, sdict w t1 t2 t3 t4 d rv po fi), (d, o)])
end
noncomputable def CF.adv (f : CF) : CF := { f with pos := f.pos + 1 }
theorem CInv.adv {ns : List Nd} {S : Int → Bool} {n : Nat} {fs0 : List CF} {f : CF} (h : CInv ns S n (fs0 ++ [f])) (hp : f.pos < f.d.sn.length) : CInv ns S n (fs0 ++ [f.adv]) := by
  refine ⟨fun g hg => ?_, ?_, h.cnt⟩
  · rcases List.mem_append.mp hg with hg | hg
    · exact h.mem g (List.mem_append_left _ hg)
    · rw [List.mem_singleton.mp hg]
      have := h.mem f (by simp)
      exact ⟨this.1, hp, this.2.2⟩
  · have := h.inc
    simp only [fnum, List.map_append] at this ⊢
    exact this
theorem CInv.top {ns : List Nd} {S : Int → Bool} {n : Nat} {fs0 : List CF} {f : CF} (h : CInv ns S n (fs0 ++ [f])) : ∀ g ∈ fs0, g.d.num < f.d.num := by
  have := h.inc
  simp only [fnum, List.map_append] at this
  intro g hg
  exact (List.pairwise_append.mp this).2.2 _ (List.mem_map_of_mem hg) _ (by simp)
theorem CInv.pop {ns : List Nd} {S : Int → Bool} {n : Nat} {fs0 : List CF} {f : CF} (h : CInv ns S n (fs0 ++ [f])) : CInv ns S n fs0 := by
  refine ⟨fun g hg => h.mem g (List.mem_append_left _ hg), ?_, h.cnt⟩
  have := h.inc
  simp only [fnum, List.map_append] at this
  exact (List.pairwise_append.mp this).1
theorem left_adv (fs0 : List CF) (f : CF) (hp : f.pos < f.d.sn.length) : left (fs0 ++ [f.adv]) + 1 = left (fs0 ++ [f]) := by simp [left, CF.adv]; exact go_eq (lin [_, _, _, _, _] [] [(1, (.n (.v 3) (.a (.v 2) (.v 4)))), (1, (.n (.a (.v 1) (.a (.v 4) (.k 1))) (.v 3)))] 1 (.n (.a (.a (.v 0) (.v 1)) (.k 1)) (.a (.v 0) (.v 2))) rfl (sub_b _ _) (sub_c (hp))) (lin [_, _, _, _, _] [] [(1, (.n (.v 3) (.a (.v 2) (.a (.v 4) (.k 1))))), (1, (.n (.a (.v 1) (.v 4)) (.v 3)))] 1 (.n (.a (.v 0) (.v 1)) (.a (.a (.v 0) (.v 2)) (.k 1))) rfl (sub_b _ _) (sub_c (lin [_, _] [] [(1, (.n (.a (.v 0) (.k 1)) (.v 1)))] 1 (.n (.v 0) (.v 1)) rfl hp)))
theorem left_pop (fs0 : List CF) (f : CF) : left fs0 ≤ left (fs0 ++ [f]) := by simp [left]
theorem unseen_none (ns : List Nd) : unseen (fun _ => false) ns = ns.length := by
  unfold unseen
  induction ns with
  | nil => rfl
  | cons a t ih => simp only [List.map_cons, List.sum_cons, List.length_cons]; rw [ih]; simp [Nat.add_comm]
theorem cyc_con (w : World) (a ad d : Addr) (t1 t2 t3 t4 : Tok) (rv po fi : Value) (o : Obj) (ns : List Nd) (hd : IsD w o (kvsOf ns)) (lo : (d == sysModules) = false) (wf : WF ns) (hss : ∀ e ∈ ns, ∀ s ∈ e.sn, s ∈ nums ns) (hup : ∀ e ∈ ns, ∀ s ∈ e.sn, e.num < s) :
    ConR w (.ref 178) [.ref a] 2 ((a, instObj 188 ad) :: (ad, sdict w t1 t2 t3 t4 d rv po fi) :: (d, o) :: sled ns)
    (fun r new => r = .none ∧ new = (a, instObj 188 ad) :: (ad, sdict w t1 t2 t3 t4 d rv po fi) :: (d, o) :: sled ns) := by
  intro p' loose mean mg mb h₀ A l frs rest s R G Fs S ret
  have X := G.X
  have hnd : A.handled = none := G.hn
  have T := G.T
  have kf : (Mine.hd.heap_39 w.params).In h₀ ∧ PySem.Challenge.rw_oy0269_01.row.prog = PySem.Challenge.rw_oy0269_01.row.prog := (by k_fill; exact ⟨X, rfl⟩)
  clear kf
  have nd := S.nd
  k_dflt (refine' enter G S ?ho ?hcd ?hb ?hl ?_ ?c1 ?c2 ?c3 ?c4; (case ho => k_is); (case hcd => k_is); (case hb => first | exact BindsTo.of_eq rfl | exact binds_K (G.X.keeps S.keep) rfl (by k_is) rfl rfl rfl); (case hl => exact locs rfl); (case c1 => exact rfl); (case c2 => exact rfl); (case c3 => exact rfl); (case c4 => decide))
  intro h₁ F N lt1 lt2 zP0 zE0 zK0 zO0
  dsimp only [List.cons_append, List.nil_append] at N lt1
  dsimp only [List.cons_append, List.nil_append] at nd
  k_steps
  refine stop_out ?_
  rename Fr _ _ _ _ => F3
  rename_i sk h7 lA h6 ik h5 lB h4 se h3 led hSI hSS lC h2 nk h1x oN loN hNS fNS hNI fNI lD hx N3
  have ndA := nodup_lt (d := sk) (o := listOf #[] 0) (all_cons lA.1 (all_cons lA.2.1 (all_cons lA.2.2.1 (allLt_mem lA.2.2.2)))) nd
  have ndB := nodup_lt (d := ik) (o := listOf #[] 0) (all_cons (p := (sk, listOf #[] 0)) lB.1 (all_cons lB.2.1 (all_cons lB.2.2.1 (all_cons lB.2.2.2.1 (allLt_mem lB.2.2.2.2))))) ndA
  have ndC := nodup_lt (d := se) (o := { cls := .type "set", dict := none, data := .set #[] 0 (.fresh 0 0 led) }) (all_cons (p := (ik, listOf #[] 0)) lC.1 (all_cons (p := (sk, listOf #[] 0)) lC.2.1 (all_cons lC.2.2.1 (all_cons lC.2.2.2.1 (all_cons lC.2.2.2.2.1 (allLt_mem lC.2.2.2.2.2)))))) ndB
  have ndD := nodup_lt (d := nk) (o := oN) (all_cons (p := (se, _)) lD.1 (all_cons (p := (ik, listOf #[] 0)) lD.2.1 (all_cons (p := (sk, listOf #[] 0)) lD.2.2.1 (all_cons lD.2.2.2.1 (all_cons lD.2.2.2.2.1 (all_cons lD.2.2.2.2.2.1 (allLt_mem lD.2.2.2.2.2.2))))))) ndC
  refine for_dict (L := s.heap.objs.size) (CycE w a ad d sk ik se nk t1 t2 t3 t4 rv po fi o ns l frs (sled ns ++ rest)) hnd rfl (m₀ := cfm a d sk ik se nk none)
    ?_ N3 (by simp) hd lo ?_ ?_ rfl rfl (by passes_own) ?_ ?_
  · refine fr_congr F3 (cfm_eq rfl rfl rfl rfl rfl rfl rfl ?_)
    intro y a1 a2 a3 a4 a5 a6 a7
    simp only [if_neg a2, if_neg a3, if_neg a4, if_neg a5, if_neg a6]
    change List.lookup y [(Str.ofString "self", _)] = none
    simp only [List.lookup, beq_eq_false_iff_ne.mpr a1]
  · have e0 : ((nk, oN) :: (se, ({ cls := .type "set", dict := none, data := .set #[] 0 (.fresh 0 0 led) } : Obj)) :: (ik, listOf #[] 0) :: (sk, listOf #[] 0) :: (a, instObj 188 ad) :: (ad, sdict w t1 t2 t3 t4 d rv po fi) :: (d, o) :: (sled ns ++ (rest ++ frs)) : Ledger) = cled w a ad d sk ik se nk t1 t2 t3 t4 rv po fi o { cls := .type "set", dict := none, data := .set #[] 0 (.fresh 0 0 led) } oN (fnod []) (fwrs []) 0 0 (fled [] ++ ((sled ns ++ rest) ++ frs)) := by simp [cled, fled, fnod, fwrs]
    rw [e0] at ndD ⊢
    refine .mk _ none (.mk 0 _ oN [] 0 0 frs ⟨by simp, by simp [fnum], ?_⟩ hSI hNI rfl (TI.SameUp.refl _) Fs ndD)
    have := wf.small
    rw [unseen_none]; exact lin [_] [] [(1, (.n (.v 0) (.k 64)))] 1 (.n (.a (.k 0) (.v 0)) (.k 64)) rfl this
  · rintro i m news ⟨S1, node, ⟨n, oS, oN1, dk, es, ei, frs', h1, h2, h3, h4, h5, h6, h9⟩⟩
    refine ⟨by simp [cled], off_map (off_new N3) ?_⟩
    have := su_map h5
    simp [cled, fled, this]
  · rintro i k tv v m news oI hh6 tk6 I hI hv ⟨S1, node, ⟨n, oS, oN1, dk, es, ei, frs', h1, h2, h3, h4, h5, h6, h9⟩⟩ F6 N6 zP9 zK9
    have hn64 : n ≤ 64 := by have := h1.cnt; exact lin [_, _] [] [(1, (.n (.a (.v 0) (.v 1)) (.k 64)))] 1 (.n (.v 0) (.k 64)) rfl this
    have adr6 : (cled w a ad d sk ik se nk t1 t2 t3 t4 rv po fi o oS oN1 (fnod []) (fwrs []) es ei (fled [] ++ (sled ns ++ rest ++ frs'))).map (·.1) = List.map (·.1) ((nk, oN) :: (se, ({ cls := .type "set", dict := none, data := .set #[] 0 (.fresh 0 0 led) } : Obj)) :: (ik, listOf #[] 0) :: (sk, listOf #[] 0) :: (a, instObj 188 ad) :: (ad, sdict w t1 t2 t3 t4 d rv po fi) :: (d, o) :: (sled ns ++ (rest ++ frs))) := by
      have := su_map h5
      simp [cled, fled, this]
    have ndI := nodup_lt (d := I) (o := oI) (by rw [hI]; exact lt_map (lt_new N3) adr6) h9
    clear F3 N3
    have N6' := N6
    simp only [cled, fled, fnod, fwrs, List.flatMap_nil, List.map_nil, List.nil_append, List.append_assoc] at N6
    k_steps
    · exact for_co zK9 (fr_congr F6 (cfm_eq rfl rfl rfl rfl rfl rfl rfl (by (intro y a1 a2 a3 a4 a5 a6 a7; (try simp only [if_neg a1, if_neg a2, if_neg a3, if_neg a4, if_neg a5, if_neg a6, if_neg a7]); exact cfm_none y a1 a2 a3 a4 a5 a6 a7)))) N6' (.mk S1 (some (.int k tv)) (.mk n oS oN1 dk es ei frs' h1 (by assumption) h3 h4 h5 h6 h9))
    · refine stop_out ?_
      rename S1 k = false => hS1
      refine while_ind (fun q => CycW s h₀ s.heap.objs.size w a ad d sk ik se nk t1 t2 t3 t4 rv po fi o ns l frs ((I, oI) :: (sled ns ++ rest)) fun fs S2 k2 => k2 ∈ nums ns ∧ (∀ f ∈ fs, f.d.num < k2) ∧ owed S2 ns + left fs = q)
        (by passes_own) ?_ (owed S1 ns) ?_
      rotate_left
      · refine .mk [] S1 k tv _ _ _ (cled w a ad d sk ik se nk t1 t2 t3 t4 rv po fi o oS oN1 (fnod []) (fwrs []) es ei (fled [] ++ ((I, oI) :: (sled ns ++ rest) ++ frs'))) (.mk n oS oN1 dk es ei frs' h1 (by assumption) h3 h4 h5 h6 ?_) (fr_congr F6 (cfm_eq rfl rfl rfl rfl rfl rfl rfl (by (intro y a1 a2 a3 a4 a5 a6 a7; (try simp only [if_neg a1, if_neg a2, if_neg a3, if_neg a4, if_neg a5, if_neg a6, if_neg a7]); exact cfm_none y a1 a2 a3 a4 a5 a6 a7)))) (fun p hp => N6' p ?_) ⟨?_, ?_, rfl⟩
        · exact nd_perm (by exact ndI) (cled_mid (I, oI) (sled ns ++ rest) frs').symm
        · exact (cled_mid (I, oI) (sled ns ++ rest) frs').mem_iff.mp hp
        · rw [← kvs_keys]; exact List.mem_map.mpr ⟨_, List.mem_of_getElem? hv, rfl⟩
        · intro f hf; cases hf
      · rintro q s' ⟨fs, S2, k2, tk2, hp, tkk, mm, news, ⟨n2, oS2, oN2, dk2, es2, ei2, frs2, g1, g2, g3, g4, g5, g6, g9⟩, Fw, Nw, hk2, hlt2, hq⟩ zP1 zK1
        clear F6 N6' NR
        k_steps
        refine stop_out (wpAny_mono (Q := Mk fun fl s' => fl = .next ∧ CycW s h₀ s.heap.objs.size w a ad d sk ik se nk t1 t2 t3 t4 rv po fi o ns l frs ((I, oI) :: (sled ns ++ rest)) (fun fs S2 _ => owed S2 ns + left fs ≤ q) s') ?_ ?_ fun _ _ x => x)
        · have hn2 : n2 ≤ 64 := by have := g1.cnt; exact lin [_, _] [] [(1, (.n (.a (.v 0) (.v 1)) (.k 64)))] 1 (.n (.v 0) (.k 64)) rfl this
          have Nw' := Nw
          obtain ⟨lN, dN, rN, rfl, rfl, hu⟩ := split_num hk2 wf.nd
          have hvn : valueAt dk2 dN.num = none := valueAt_none_of_not_mem (by
            rw [g4]; intro hm
            obtain ⟨f, hf, e⟩ := List.mem_map.mp hm
            have := hlt2 f hf; omega)
          have hkx := kvs_at wf.nd
          have hfl : fs.length ≤ 64 := Nat.le_trans g1.len wf.small
          have hdk : dk2.length ≤ 64 := by rw [← List.length_map (·.1), g4]; simpa [fnum] using hfl
          have hl1 : (fnod fs).length ≤ 64 := by simpa [fnod] using hfl
          have hl2 : (fwrs fs).length ≤ 64 := by simpa [fwrs] using hfl
          have P1 := cled_perm (w := w) (a := a) (ad := ad) (d := d) (sk := sk) (ik := ik) (se := se) (nk := nk) (t1 := t1) (t2 := t2) (t3 := t3) (t4 := t4) (rv := rv) (po := po) (fi := fi) (o := o) (oS := oS2) (oN := oN2) (svs := fnod fs) (ivs := fwrs fs) (es := es2) (ei := ei2) (tail_perm (fled fs) (I, oI) lN rN dN rest frs2)
          have Ns := News.perm Nw P1
          have nds := nd_perm g9 P1
          simp only [cled, led_cons] at Ns nds
          clear Nw
          have nds2 := nds
          have ndF : NDF _ := nds2
          k_steps
          · exact ⟨rfl, .mk fs S2 _ tk2 hp _ _ _ (.mk n2 oS2 oN2 dk2 es2 ei2 frs2 g1 (by assumption) (by assumption) g4 g5 g6 g9) Fw (News.perm Ns P1.symm) (Nat.le_of_eq hq)⟩
          · rename S2 dN.num = false => hS2
            refine stop_out ?_; (with_unfolding_all refine' kda_item (knd := PySem.intKind _ _) (by k_asm) (by k_mem) (by k_asm) (by exact intKind_is _ _ _ _) (by k_asm) ?_); k_steps
            refine stop_out ?_; k_dflt (refine list_iter (by k_asm) (by k_asm) (by k_mem) ?_); intro it h1a F1a N1a l1a; have lq1 := l1a; (try k_lt l1a); k_steps
            refine stop_out ?_; k_dflt (refine getAttr_next (by k_asm) (by k_asm) (by k_mem) ?_); intro wr h2a tk2a F2a N2a l2a; have lq2 := l2a; (try k_lt l2a); k_steps
            refine stop_out ?_; (k_dflt (refine' append_K (by k_asm) (by k_asm) (by k_upd) ?_ (by rw [List.size_toArray, sizeLine_eq]; omega); k_whole)); intro h3a F3a N3a; (try k_sweep); k_steps
            refine stop_out ?_; k_dflt (refine' len_led (by k_asm) (by k_asm) (by k_mem) (by first | assumption | omega) ?_); intro tl n8; k_steps
            refine stop_out ?_; k_dflt (refine' kda_set (knd := PySem.intKind _ _) (by k_asm) (by k_asm) (by k_updF) (by k_asm) (by exact intKind_is _ _ _ _) (by rw [sizeLine_eq]; omega) ?_; k_whole); intro h4a oN' F4a N4a D'; (try k_sweep); k_steps
            refine stop_out ?_; (k_dflt (refine' append_K (by k_asm) (by k_asm) (by k_upd) ?_ (by rw [List.size_toArray, sizeLine_eq]; omega); k_whole)); intro h'' F' N'; (try k_sweep); k_steps
            rename_i oS' hs'
            have hdm : dN ∈ lN ++ dN :: rN := by simp
            rw [stored_absent hvn] at D'
            rw [hS2] at hs'
            have hA : (fwrs fs).toArray.push (.ref wr) = (fwrs (fs ++ [⟨dN, tk2, it, wr, 0⟩])).toArray := by simp [fwrs]
            have hB : (fnod fs).toArray.push (.int dN.num tk2) = (fnod (fs ++ [⟨dN, tk2, it, wr, 0⟩])).toArray := by simp [fnod]
            rw [hA, hB] at N'
            have P2 := fun (ob ob' : Obj) => (((cled_perm (w := w) (a := a) (ad := ad) (d := d) (sk := sk) (ik := ik) (se := se) (nk := nk) (t1 := t1) (t2 := t2) (t3 := t3) (t4 := t4) (rv := rv) (po := po) (fi := fi) (o := o) (oS := ob) (oN := ob') (svs := fnod (fs ++ [⟨dN, tk2, it, wr, 0⟩])) (ivs := fwrs (fs ++ [⟨dN, tk2, it, wr, 0⟩])) (es := es2 + 1) (ei := ei2 + 1) (tail_perm (fled fs) (I, oI) lN rN dN rest frs2).symm).cons (it, itO dN.sa 0)).cons (wr, wrapO it)).trans (top_perm fs ⟨dN, tk2, it, wr, 0⟩ ((I, oI) :: (sled (lN ++ dN :: rN) ++ rest) ++ frs2)).symm
            have nd8 := nodup_lt (o := wrapO it) lq2 (nodup_lt (o := itO dN.sa 0) lq1 nds)
            refine ⟨rfl, .mk (fs ++ [CF.mk dN tk2 it wr 0]) _ _ tk2 h'' _ _ _ (.mk (n2 + 1) oS' oN' (dk2 ++ [(dN.num, .int (fnod fs).length tl)]) (es2 + 1) (ei2 + 1) frs2 (g1.push hdm hS2 hlt2) hs' D' ?_ g5 g6 (nd_perm (by exact nd8) (P2 oS' oN'))) F' (News.perm (by exact N') (P2 oS' oN')) ?_⟩
            · simp [fnum, g4]
            · have := owed_add hdm hS2
              rw [left_push]; exact lin [_, _, _, _, _] [] [(1, (.n (.a (.v 4) (.v 1)) (.v 3))), (1, (.n (.a (.v 0) (.v 2)) (.v 4)))] 1 (.n (.a (.v 0) (.a (.v 1) (.v 2))) (.v 3)) rfl (eq_a hq) this
        · clear g1 g2 g3 g4 g5 g6 g9 Fw Nw hq hk2 hlt2
          rintro fl s' ⟨rfl, ⟨fs, S2, k2, tk2, hp, tkk, mm, news, ⟨n2, oS2, oN2, dk2, es2, ei2, frs2, g1, g2, g3, g4, g5, g6, g9⟩, Fw, Nw, hq⟩⟩
          k_steps
          refine stop_out ?_
          refine while_ind (fun q2 => CycW s h₀ s.heap.objs.size w a ad d sk ik se nk t1 t2 t3 t4 rv po fi o ns l frs ((I, oI) :: (sled ns ++ rest)) fun fs S2 _ => owed S2 ns + left fs ≤ q ∧ fs.length = q2) (by passes_own) ?_ fs.length ?_
          rotate_left
          · exact .mk fs S2 k2 tk2 hp _ _ _ (.mk n2 oS2 oN2 dk2 es2 ei2 frs2 g1 (by assumption) (by assumption) g4 g5 g6 g9) Fw Nw ⟨hq, rfl⟩
          · clear g1 g2 g3 g4 g5 g6 g9 Fw Nw hq
            rintro q2 s' ⟨fs, S2, k2, tk2, hp, tkk, mm, news, ⟨n2, oS2, oN2, dk2, es2, ei2, frs2, g1, g2, g3, g4, g5, g6, g9⟩, Fw, Nw, hq, hq2⟩ zP2 zK2
            have hfl : fs.length ≤ 64 := Nat.le_trans g1.len wf.small
            have hl1 : (fnod fs).length ≤ 100000 := by have : (fnod fs).length = fs.length := by simp [fnod]
                                                       exact lin [_, _, _] [] [(1, (.n (.v 2) (.k 64))), (1, (.n (.v 0) (.v 2))), (1, (.n (.k 2000) (.v 1)))] 1 (.n (.v 0) (.v 1)) rfl hfl (eq_a this) (Nat.le_of_ble_eq_true rfl : 2000 ≤ 100000)
            have hl2 : (fwrs fs).length ≤ 100000 := by have : (fwrs fs).length = fs.length := by simp [fwrs]
                                                       exact lin [_, _, _] [] [(1, (.n (.v 2) (.k 64))), (1, (.n (.v 0) (.v 2))), (1, (.n (.k 2000) (.v 1)))] 1 (.n (.v 0) (.v 1)) rfl hfl (eq_a this) (Nat.le_of_ble_eq_true rfl : 2000 ≤ 100000)
            rcases List.eq_nil_or_concat fs with hfs | ⟨fs0, f, hfs⟩
            · have he : (fnod fs).isEmpty = !false := by rw [hfs]; rfl
              have Nw' := Nw
              replace Nw := News.perm Nw (cled_assoc (fled fs) (I, oI) (sled ns) rest frs2)
              dsimp only [cled] at Nw
              k_steps
              refine stop_out ?_; k_dflt (refine' truthy_led (by k_asm) (by k_asm) (by k_mem) (by first | assumption | omega) (by assumption) ?_); intro _; k_steps
              subst hfs
              refine for_nx zK9 (news := cled w a ad d sk ik se nk t1 t2 t3 t4 rv po fi o oS2 oN2 (fnod []) (fwrs []) es2 ei2 (fled [] ++ (sled ns ++ rest ++ frs2))) Fw ?_ (.mk S2 _ (.mk n2 oS2 oN2 dk2 es2 ei2 frs2 g1 (by assumption) (by assumption) g4 g5 g6 ?_))
              · intro p hp
                exact Nw' p ((cled_mid (I, oI) (sled ns ++ rest) frs2).mem_iff.mpr hp)
              · exact (List.nodup_cons.mp (nd_perm g9 (cled_mid (I, oI) (sled ns ++ rest) frs2))).2
            · have he : (fnod fs).isEmpty = !true := by rw [hfs]; simp [fnod]
              rw [List.concat_eq_append] at hfs
              subst hfs
              have P3 := top_assoc (w := w) (a := a) (ad := ad) (d := d) (sk := sk) (ik := ik) (se := se) (nk := nk) (t1 := t1) (t2 := t2) (t3 := t3) (t4 := t4) (rv := rv) (po := po) (fi := fi) (o := o) (oS := oS2) (oN := oN2) (svs := fnod (fs0 ++ [f])) (ivs := fwrs (fs0 ++ [f])) (es := es2) (ei := ei2) fs0 f (I, oI) (sled ns) rest frs2
              have Nw' := Nw
              have Ns := News.perm Nw P3
              have nds := nd_perm g9 P3
              have ew : fwrs (fs0 ++ [f]) = fwrs fs0 ++ [.ref f.wr] := by simp [fwrs]
              have en : fnod (fs0 ++ [f]) = fnod fs0 ++ [.int f.d.num f.tok] := by simp [fnod]
              dsimp only [cled] at Ns nds
              rw [ew, en] at Ns nds
              rw [en] at hl1 he
              rw [ew] at hl2
              clear Nw
              k_steps
              refine stop_out ?_; k_dflt (refine' truthy_led (by k_asm) (by k_asm) (by k_mem) (by first | assumption | omega) (by assumption) ?_); intro _; k_steps
              refine stop_out (wpAny_Try_except ?_)
              k_fold
              refine with_passes3 (by passes_own) (by intro e; passes_own) (by intro e; passes_own) fun hpo hpa hpm => ?_
              k_steps
              refine stop_out ?_; (with_unfolding_all refine' item_last (by is_list) ?_ (by with_unfolding_all rfl) (by intro _; with_unfolding_all rfl)); k_steps
              refine stop_out ?_; refine callWith_wrap (by assumption) (by k_mem) ?_; k_steps
              refine stop_out ?_
              have hfd := g1.mem f (by simp)
              have hia := wf.ia f.d hfd.1
              have hsm := list_skel (a := ns) (b := ns) rfl hfd.1
              have Nt := News.perm Ns (List.Perm.swap _ _ _)
              have ndt := nd_perm nds (List.Perm.swap _ _ _)
              have rowt := (nd_split ndt).1
              clear Ns
              by_cases hpos : f.pos < f.d.sn.length
              · have hx1 : f.pos < f.d.svs.length := by rw [hia.length]; exact hpos
                obtain ⟨sc, ts, hv1, hv2⟩ := hia.at f.pos _ (List.getElem?_eq_getElem hx1)
                refine next_led (items := f.d.svs.toArray) (n := f.d.es) (x := .int sc ts) Fw Nt (.tail _ (.head _)) (by simp [hsm]) (.head rowt) (by rw [← hv1]; simp [hx1]) fun h' F' N' => ?_
                k_steps
                rename Fr _ _ _ _ => F9
                rename News _ _ _ _ => N9
                have P4 := top_assoc (w := w) (a := a) (ad := ad) (d := d) (sk := sk) (ik := ik) (se := se) (nk := nk) (t1 := t1) (t2 := t2) (t3 := t3) (t4 := t4) (rv := rv) (po := po) (fi := fi) (o := o) (oS := oS2) (oN := oN2) (svs := fnod (fs0 ++ [f])) (ivs := fwrs (fs0 ++ [f])) (es := es2) (ei := ei2) fs0 f.adv (I, oI) (sled ns) rest frs2
                have hla := left_adv fs0 f hpos
                refine whl_nx zK1 (n' := owed S2 ns + left (fs0 ++ [f.adv])) (by exact lin [_, _, _, _] [] [(1, (.n (.a (.v 0) (.v 3)) (.v 2))), (1, (.n (.a (.v 1) (.k 1)) (.v 3)))] 1 (.n (.a (.a (.v 0) (.v 1)) (.k 1)) (.v 2)) rfl hq (eq_a hla)) (.mk (fs0 ++ [f.adv]) S2 sc ts _ _ _ _ (.mk n2 oS2 oN2 dk2 es2 ei2 frs2 (g1.adv hpos) (by assumption) (by assumption) ?_ g5 g6 ?_) (fr_congr F9 (cfm_eq rfl rfl rfl rfl rfl rfl rfl (by (intro y a1 a2 a3 a4 a5 a6 a7; (try simp only [if_neg a1, if_neg a2, if_neg a3, if_neg a4, if_neg a5, if_neg a6, if_neg a7]); exact cfm_none y a1 a2 a3 a4 a5 a6 a7)))) ?_ ⟨hss _ hfd.1 sc (List.mem_of_getElem? hv2), ?_, rfl⟩)
                · rw [g4]; simp [fnum, CF.adv]
                · have nd9 := nd_perm ndt (List.Perm.swap _ _ _)
                  have e1 : fnod (fs0 ++ [f.adv]) = fnod (fs0 ++ [f]) := by simp [fnod, CF.adv]
                  have e2 : fwrs (fs0 ++ [f.adv]) = fwrs (fs0 ++ [f]) := by simp [fwrs, CF.adv]
                  rw [e1, e2]
                  refine nd_perm ?_ P4.symm
                  rw [ew, en]
                  exact nd9
                · have N8 := News.perm N9 (List.Perm.swap _ _ _)
                  have e1 : fnod (fs0 ++ [f.adv]) = fnod (fs0 ++ [f]) := by simp [fnod, CF.adv]
                  have e2 : fwrs (fs0 ++ [f.adv]) = fwrs (fs0 ++ [f]) := by simp [fwrs, CF.adv]
                  rw [e1, e2]
                  refine News.perm ?_ P4.symm
                  rw [ew, en]
                  exact N8
                · have hu1 := hup _ hfd.1 sc (List.mem_of_getElem? hv2)
                  intro g hg
                  rcases List.mem_append.mp hg with hg | hg
                  · have := g1.top g hg
                    exact go_lti (lin [] [_, _, _] [(1, (.i (.a (.v 2) (.k 1)) (.v 1))), (1, (.i (.a (.v 0) (.k 1)) (.v 2)))] 1 (.i (.a (.v 0) (.k 1)) (.v 1)) rfl (lt_i hu1) (lt_i this))
                  · rw [List.mem_singleton.mp hg]; exact hu1
              · refine next_led_end (items := f.d.svs.toArray) (n := f.d.es) hnd Fw Nt (.tail _ (.head _)) (by simp [hsm]) (.head rowt) (by simp; rw [hia.length]; exact (not_lt_n hpos)) fun h1 hx9 e9 o1 F' N' x9 => ?_
                show ek _ _
                k_unfold
                k_fold
                have P5 := asc9 [(f.it, o1), (f.wr, wrapO f.it), (nk, oN2), (se, oS2), (ik, listOf (fwrs fs0 ++ [Value.ref f.wr]).toArray ei2), (sk, listOf (fnod fs0 ++ [Value.int f.d.num f.tok]).toArray es2), (a, instObj 188 ad), (ad, sdict w t1 t2 t3 t4 d rv po fi), (d, o)] (fled fs0) (I, oI) (sled ns) rest
                refine note_held (new := [(f.it, o1), (f.wr, wrapO f.it), (nk, oN2), (se, oS2), (ik, listOf (fwrs fs0 ++ [Value.ref f.wr]).toArray ei2), (sk, listOf (fnod fs0 ++ [Value.int f.d.num f.tok]).toArray es2), (a, instObj 188 ad), (ad, sdict w t1 t2 t3 t4 d rv po fi), (d, o)] ++ (fled fs0 ++ (I, oI) :: (sled ns ++ rest))) (frs := frs2) (Around.frames_deeper G.fr) rfl (show ScopeKind.function ≠ ScopeKind.module by decide) g6 x9 F' (fun p hp => N' p ((List.Perm.of_eq (P5 frs2)).mem_iff.mp hp)) ?_ ?_
                · intro p hp hm
                  have ndu := nd_perm (by exact ndt) (List.Perm.of_eq (P5 frs2).symm)
                  rw [List.map_append] at ndu
                  exact (List.nodup_append.mp ndu).2.2 _ (List.mem_map_of_mem hp) _ hm rfl
                · intro h7 frs7 SU7 Fs7 HN7
                  have HN8 : TT.HeldN h₀ s.heap.objs.size h7 (cfm a d sk ik se nk (some (Value.int k2 tk2))) e9 "StopIteration" ((f.it, o1) :: (f.wr, wrapO f.it) :: (nk, oN2) :: (se, oS2) :: (ik, listOf (fwrs fs0 ++ [Value.ref f.wr]).toArray ei2) :: (sk, listOf (fnod fs0 ++ [Value.int f.d.num f.tok]).toArray es2) :: (a, instObj 188 ad) :: (ad, sdict w t1 t2 t3 t4 d rv po fi) :: (d, o) :: (fled fs0 ++ (I, oI) :: (sled ns ++ (rest ++ frs7)))) := Eq.mp (congrArg (TT.HeldN h₀ s.heap.objs.size h7 (cfm a d sk ik se nk (some (Value.int k2 tk2))) e9 "StopIteration") (P5 frs7)) HN7
                  show qk () _
                  k_unfold
                  clear F' N' Nt x9 HN7
                  have HH9 := TT.HeldNA.held HN8
                  have ndt7 : (List.map (·.1) ((f.it, o1) :: (f.wr, wrapO f.it) :: (nk, oN2) :: (se, oS2) :: (ik, listOf (fwrs fs0 ++ [Value.ref f.wr]).toArray ei2) :: (sk, listOf (fnod fs0 ++ [Value.int f.d.num f.tok]).toArray es2) :: (a, instObj 188 ad) :: (ad, sdict w t1 t2 t3 t4 d rv po fi) :: (d, o) :: (fled fs0 ++ (I, oI) :: (sled ns ++ (rest ++ frs7))))).Nodup := nd_up [(f.it, o1), (f.wr, wrapO f.it), (nk, oN2), (se, oS2), (ik, listOf (fwrs fs0 ++ [Value.ref f.wr]).toArray ei2), (sk, listOf (fnod fs0 ++ [Value.int f.d.num f.tok]).toArray es2), (a, instObj 188 ad), (ad, sdict w t1 t2 t3 t4 d rv po fi), (d, o)] (fled fs0) (I, oI) (sled ns) rest SU7 (by exact ndt)
                  have hnk : f.d.num ∉ fnum fs0 := fun hm => by
                    obtain ⟨g, hg, e⟩ := List.mem_map.mp hm
                    have := g1.top g hg
                    omega
                  have hfe : fnum (fs0 ++ [f]) = fnum fs0 ++ [f.d.num] := by simp [fnum]
                  have hky : (valueAt dk2 f.d.num).isSome = true := has_key (by rw [g4]; exact g1.inc.imp fun h => Int.ne_of_lt h) (by rw [g4, hfe]; simp)
                  have hkl : dk2.length ≤ sizeLine := by
                    rw [sizeLine_eq, ← List.length_map (·.1), g4]
                    have : (fnum (fs0 ++ [f])).length = (fs0 ++ [f]).length := by simp [fnum]
                    exact lin [_, _, _] [] [(1, (.n (.v 2) (.k 64))), (1, (.n (.v 0) (.v 2))), (1, (.n (.k 2000) (.v 1)))] 1 (.n (.v 0) (.v 1)) rfl hfl (eq_a this) (Nat.le_of_ble_eq_true rfl : 2000 ≤ 16777216)
                  have nds2 := ndt7
                  have ndF : NDF _ := nds2
                  k_steps
                  refine stop_out ?_; (with_reducible rename TT.HeldNA _ _ _ _ _ _ _ _ => ttN); k_dflt (refine' handle_hit ttN (by assumption) (by assumption) (by k_is) (by boot_by_name) ?_ (by decide +kernel)); clear ttN; (try (with_reducible rename HeldAt _ _ _ _ _ _ _ => ttH; clear ttH)); intro _ F5a N5a; k_steps
                  refine stop_out ?_; k_dflt (refine' pop_led (by k_asm) (by k_asm) (by k_upd) (by assumption) ?_); intro h6a F6a N6a; (try k_sweep); k_steps
                  refine stop_out ?_; k_dflt (refine' kob_del (knd := PySem.intKind _ _) (by k_asm) (by k_asm) (by k_updF) (by k_asm) (intKind_is _ _ _ _) (by assumption) (by assumption) ?_); intro h7a oN7 F7a N7a D7; (try k_sweep); k_steps
                  refine stop_out ?_; k_dflt (refine' pop_led (by k_asm) (by k_asm) (by k_upd) (by assumption) ?_); intro h8a F7 N7; (try k_sweep); k_steps
                  have hlp := left_pop fs0 f
                  refine whl_nx zK2 (n' := fs0.length) (by simp at hq2; exact (eq_a hq2)) (.mk fs0 S2 k2 tk2 _ _ _ (cled w a ad d sk ik se nk t1 t2 t3 t4 rv po fi o oS2 oN7 (fnod fs0) (fwrs fs0) (es2 + 1) (ei2 + 1) (fled fs0 ++ ((I, oI) :: (sled ns ++ rest) ++ frs7))) (.mk n2 oS2 oN7 (without dk2 f.d.num) (es2 + 1) (ei2 + 1) frs7 g1.pop (by assumption) D7 (without_last (g4.trans hfe) hnk) (g5.trans SU7) Fs7 ?_) F7 (fun p hp => N7 p (List.mem_cons_of_mem _ (List.mem_cons_of_mem _ ?_))) ⟨by exact lin [_, _, _, _] [] [(1, (.n (.a (.v 0) (.v 3)) (.v 2))), (1, (.n (.v 1) (.v 3)))] 1 (.n (.a (.v 0) (.v 1)) (.v 2)) rfl hq hlp, rfl⟩)
                  · have := (List.nodup_cons.mp (List.nodup_cons.mp ndt7).2).2
                    exact nd_perm (by exact this) (cled_assoc (fled fs0) (I, oI) (sled ns) rest frs7).symm
                  · exact (cled_assoc (fled fs0) (I, oI) (sled ns) rest frs7).mem_iff.mp hp
  · rintro m news hh6 tk6 ⟨S1, node, ⟨n, oS, oN1, dk, es, ei, frs', h1, h2, h3, h4, h5, h6, h9⟩⟩ F6 N6
    clear F3 N3
    k_steps
    refine ret _ _ _ ((a, instObj 188 ad) :: (ad, sdict w t1 t2 t3 t4 d rv po fi) :: (d, o) :: sled ns) frs' h5 h6 (St.of_news F6 N6 (fun p hp => ?_) ?_) ⟨rfl, rfl⟩
    · exact .tail _ (.tail _ (.tail _ (.tail _ ((List.Perm.of_eq (List.append_assoc ((a, instObj 188 ad) :: (ad, sdict w t1 t2 t3 t4 d rv po fi) :: (d, o) :: sled ns) rest frs')).mem_iff.mpr hp))))
    · exact nd_perm (by exact (List.nodup_cons.mp (List.nodup_cons.mp (List.nodup_cons.mp (List.nodup_cons.mp h9).2).2).2).2) (List.Perm.of_eq (List.append_assoc ((a, instObj 188 ad) :: (ad, sdict w t1 t2 t3 t4 d rv po fi) :: (d, o) :: sled ns) rest frs'))
end
end
section
section
variable {w : World} {A : Around} {E : Value → Shared → Prop} {s : Shared} {h₀ : Heap} {L : Addr} {m : Str → Option Value} {news : Ledger} {env : Env}
/-- the source of a comprehension, at the ledger: what its tests and its element reckon of an item -/
noncomputable def CompSrcQ (w : World) (A : Around) (env : Env) (scope : Scope) (cl : List (Str × Addr)) (x : Str) (ifs : List Expr) (elt : Expr) (p : Value → Bool) (Fv : Value → Value → Prop) (Q : Value → Shared → Prop) (it : Value) (s₂ : Shared) : Prop :=
  ∃ I fp wr n P St, it = .ref I ∧ Walks prg w A I fp wr n P St ∧ n ≤ sizeLine ∧ St 0 s₂.heap ∧ (∀ b ∈ fp, b < s₂.heap.objs.size) ∧
      QuietOnC prg w A env scope cl x ifs elt wr P p Fv s₂ ∧
      (∀ D h' tk ys (vs : List Value), s₂.heap.get? D = none → h'.IsList D ys → h'.PlainList D ys → vs.length = n → (∀ j v, vs[j]? = some v → P j v) → Paired Fv (vs.filter p) ys.toList →
        (∀ b o, b ∉ wr → s₂.heap.get? b = some o → h'.get? b = some o) → Q (.ref D) { s₂ with heap := h', toks := tk })
theorem comp_q {elt iter : Expr} {x : Str} {px : Pos} {ifs : List Expr} {scope : Scope} {cl : List (Str × Addr)} {pos : Pos} {Q : Value → Shared → Prop} (p : Value → Bool) (Fv : Value → Value → Prop)
    (hclos : closureFor scope env = pure cl) (hcell : ∀ y ∈ scope.names, y.2 ≠ .cell) (hkind : scope.kind = .function)
    (hnames : ∀ y ∈ scope.names, y.2 = .local → scope.names.lookup y.1 = some .local) (hx : scope.names.lookup x = some .local)
    (h : wpAny (model prg w) A (eval iter env) (fun xv s₁ => Stop (wpAny (model prg w) A (pyIter xv) (CompSrcQ w A env scope cl x ifs elt p Fv Q) E s₁)) E s)
    (hs : ∀ x, foldedSetIterable iter env x = pure x := by intro _; rfl) :
    wpAny (model prg w) A (eval (.ListComp elt [⟨.Name x px, iter, ifs, 0⟩] scope pos) env) Q E s :=
  wpAny_ListComp_free p Fv hclos hcell hkind hnames hx h hs
theorem news_comp {h : Heap} {I C : Addr} (F : Fr h₀ L s.heap m) (N : News h₀ L s.heap news) {m₃ : Str → Option Value} {O : Obj} (hI : I = s.heap.objs.size) (hC : (s.heap.push O).objs.size ≤ C) (hn : h.Ns C m₃)
    (hk : ∀ b o, b ∉ [I] → (s.heap.push O).get? b = some o → h.get? b = some o) : Fr h₀ C h m₃ ∧ News h₀ C h news := by
  have up : ∀ b o, s.heap.get? b = some o → h.get? b = some o := fun b o e => hk b o (fun hm => by
    rw [List.mem_singleton.mp hm, hI] at e
    exact Nat.lt_irrefl _ (Heap.lt_size e)) (Heap.get?_push_of_some _ e)
  obtain ⟨oL, es, ep, hL, _⟩ := id F.ns
  have hsz : s.heap.objs.size < C := Nat.lt_of_lt_of_le (by rw [push_size]; exact Nat.lt_succ_self _) hC
  refine ⟨⟨hn, fun b o e => up b o (F.keep b o e), Nat.le_of_lt (Nat.lt_of_le_of_lt F.above (Nat.lt_trans (Heap.lt_size hL) hsz))⟩, fun p hp => ⟨up _ _ (N p hp).1, ?_, (N p hp).2.2⟩⟩
  exact Nat.ne_of_lt (Nat.lt_trans (Heap.lt_size (N p hp).1) hsz)
theorem comp_done {h' : Heap} {D : Addr} {ys : Array Value} {O : Obj} (F : Fr h₀ L s.heap m) (N : News h₀ L s.heap news) (hD : (s.heap.push O).get? D = none) (hl : h'.PlainList D ys) (_hO : O.isFreed = false)
    (hk : ∀ b o, b ∉ [s.heap.objs.size] → (s.heap.push O).get? b = some o → h'.get? b = some o) : Fr h₀ L h' m ∧ (∃ n, News h₀ L h' ((D, listOf ys n) :: news)) ∧ (∀ p ∈ news, p.1 ≠ D) := by
  have up : ∀ b o, s.heap.get? b = some o → h'.get? b = some o := fun b o e => hk b o (fun hm => by
    rw [List.mem_singleton.mp hm] at e
    exact Nat.lt_irrefl _ (Heap.lt_size e)) (Heap.get?_push_of_some _ e)
  have ne : ∀ b o, s.heap.get? b = some o → b ≠ D := fun b o e q => by
    rw [q] at e
    rw [Heap.get?_push_of_some _ e] at hD; cases hD
  obtain ⟨n, hl⟩ := hl
  obtain ⟨oL, es, ep, hL, r⟩ := id F.ns
  refine ⟨⟨⟨oL, es, ep, up _ _ hL, r⟩, fun b o e => up b o (F.keep b o e), F.above⟩, ⟨n, fun p hp => ?_⟩, fun p hp => ne _ _ (N p hp).1⟩
  rcases List.mem_cons.mp hp with rfl | hp
  · refine ⟨hl, fun e => ne _ _ hL e.symm, ?_⟩
    cases q : h₀.get? D with
    | none => rfl
    | some o => exact absurd rfl (ne _ _ (F.keep _ _ q))
  · exact ⟨up _ _ (N p hp).1, (N p hp).2⟩
theorem vals_method {pl : Sem Bool} {Q : Value × List Value → Shared → Prop} {d : Addr} {o : Obj} {kvs : List (Int × Value)} (N : News h₀ L s.heap news) (hp : (d, o) ∈ news) (hd : IsD w o kvs) (h : Q (.builtin "dict.values", [.ref d]) s) : wpAny (model prg w) A (getMethod (.ref d) "values" pl) Q E s :=
  have hD := kda_dict N hp hd
  getMethod_builtin hD.typeIs PySem.F.plainAttrs_dict PySem.F.slot_dict_values PySem.F.type_dict_values hD.mapOf.noDict h
theorem name_comp {M : Model} {scope : Scope} {cl : List (Str × Addr)} {C : Addr} {m₃ : Str → Option Value} {x : Str} {pos : Pos} {v : Value} {Q : Value → Shared → Prop} (F : Fr h₀ C s.heap m₃) (hv : m₃ x = some v) (h : Q v s)
    (hk : (compEnvC scope cl C env).scope.kind = .function := by rfl) (hx : (compEnvC scope cl C env).kindOf x = some .local := by rfl) (hd : (x == ("__debug__" : Str)) = false := by decide) :
    wpAny M A (eval (.Name x pos) (compEnvC scope cl C env)) Q E s := wpAny_Name (wpAny_loadName_local hk hx F.ns hv h) hd
theorem comp_values {scope : Scope} {cl : List (Str × Addr)} {x : Str} {ifs : List Expr} {elt : Expr} {p : Value → Bool} {Fv : Value → Value → Prop} {Q : Value → Shared → Prop} {v d : Addr} {o : Obj} {kvs : List (Int × Value)}
    (hh : A.handled = none) (F : Fr h₀ L s.heap m) (N : News h₀ L s.heap news) (hv : s.heap.IsValuesView v d) (hm : (d, o) ∈ news) (hd : IsD w o kvs) (hz : kvs.length ≤ sizeLine)
    (tests : ∀ (C : Addr) (i : Nat) (k : Int) (v : Value) (s₃ : Shared) (m₃ : Str → Option Value) (E' : Value → Shared → Prop), kvs[i]? = some (k, v) → Fr h₀ C s₃.heap m₃ → m₃ x = some v → News h₀ C s₃.heap news →
      wpAny (model prg w) A (forIn ifs true fun c r => if r = true then do let ok ← isTrue c (compEnvC scope cl C env) (eval c (compEnvC scope cl C env)); pure (ForInStep.yield ok) else pure (ForInStep.yield r))
        (fun ok s₄ => ok = p v ∧ Keeps s₃ s₄) E' s₃)
    (elts : ∀ (C : Addr) (i : Nat) (k : Int) (v : Value) (s₃ : Shared) (m₃ : Str → Option Value) (E' : Value → Shared → Prop), kvs[i]? = some (k, v) → p v = true → Fr h₀ C s₃.heap m₃ → m₃ x = some v → News h₀ C s₃.heap news →
      wpAny (model prg w) A (eval elt (compEnvC scope cl C env)) (fun y s₄ => Fv v y ∧ Keeps s₃ s₄) E' s₃)
    (res : ∀ D h' tk ys n, Fr h₀ L h' m → News h₀ L h' ((D, listOf ys n) :: news) → (∀ p ∈ news, p.1 ≠ D) → Paired Fv ((kvs.map (·.2)).filter p) ys.toList → Q (.ref D) { s with heap := h', toks := tk }) :
    wpAny (model prg w) A (pyIter (.ref v)) (CompSrcQ w A env scope cl x ifs elt p Fv Q) E s := by
  obtain ⟨ep, hat⟩ := (Heap.dictOf_iff.mpr ⟨o, (N _ hm).1, hd⟩ : s.heap.DictOf (intKind prg w) d kvs).dictAt
  refine wpAny_pyIter_values hv hat ?_
  have hlt : d < s.heap.objs.size := Heap.lt_size (N _ hm).1
  have W := Walks.dictValues (prog := prg) (w := w) (knd := intKind prg w) hh s.heap.objs.size d (Nat.ne_of_lt hlt) kvs ep
  refine ⟨s.heap.objs.size, _, _, kvs.length, _, _, rfl, W, hz, ⟨⟨_, Heap.get?_push_size _ rfl, rfl, rfl⟩, hat.push _⟩, ?_, ⟨?_, ?_⟩, ?_⟩
  · intro b hb
    show b < (s.heap.push _).objs.size
    rw [push_size]
    rcases List.mem_cons.mp hb with rfl | hb
    · exact Nat.lt_succ_self _
    · rw [List.mem_singleton.mp hb]; exact Nat.lt_succ_of_lt hlt
  · rintro C i v s₃ m₃ E' hC ⟨k, hkv⟩ hn hmx hk _
    obtain ⟨F3, N3⟩ := news_comp (h := s₃.heap) F N rfl hC hn hk
    exact tests C i k v s₃ m₃ E' hkv F3 hmx N3
  · rintro C i v s₃ m₃ E' hC ⟨k, hkv⟩ hp hn hmx hk _
    obtain ⟨F3, N3⟩ := news_comp (h := s₃.heap) F N rfl hC hn hk
    exact elts C i k v s₃ m₃ E' hkv hp F3 hmx N3
  · intro D h' tk ys vs hD hl hpl hlen hP hF hk
    obtain ⟨F3, ⟨n, N3⟩, hne⟩ := comp_done F N hD hpl rfl hk
    refine res D h' tk ys n F3 N3 hne ?_
    have e : vs = kvs.map (·.2) := by
      refine List.ext_getElem? fun i => ?_
      by_cases hi : i < vs.length
      · obtain ⟨k, hk⟩ := hP i vs[i] (List.getElem?_eq_getElem hi)
        rw [List.getElem?_map, hk, List.getElem?_eq_getElem hi]; rfl
      · rw [List.getElem?_eq_none (by exact (not_lt_n hi)), List.getElem?_eq_none (by simp; exact lin [_, _, _] [] [(1, (.n (.v 0) (.v 2))), (1, (.n (.v 2) (.v 1)))] 1 (.n (.v 0) (.v 1)) rfl (eq_b hlen) (not_lt_n hi))]
    rw [← e]; exact hF
end
end
set_option hygiene false in
local macro_rules | `(tactic| walk_at "eval ListComp") => `(tactic| with_reducible refine stop_p5 ?_)
section
section
set_option hygiene false in
local macro_rules | `(tactic| walk_at "getMethod ref") => `(tactic| with_reducible refine stop_p6 ?_)
set_option hygiene false in
local macro_rules | `(tactic| walk_at "call builtin:dict.values") => `(tactic| walk_at "st")
set_option hygiene false in
local macro_rules | `(tactic| walk_at "eval Name") => `(tactic| ((with_reducible refine idp_p1 ?_); refine name_comp (by assumption) (by assumption) ?_))
noncomputable def rdyOf (ns : List Nd) : List Int := (ns.filter fun d => d.np = 0).map (·.num)
theorem nodup_ne {d : Addr} {o : Obj} {ps : Ledger} (h : ∀ p ∈ ps, p.1 ≠ d) (nd : (ps.map (·.1)).Nodup) : (((d, o) :: ps).map (·.1)).Nodup := by
  refine List.nodup_cons.mpr ⟨fun hm => ?_, nd⟩
  obtain ⟨p, hp, e⟩ := List.mem_map.mp hm
  exact h p hp e
theorem x_inj {ns : List Nd} (nd : ((sled ns).map (·.1)).Nodup) : ∀ d ∈ ns, ∀ e ∈ ns, d.x = e.x → d = e := by
  induction ns with
  | nil => intro d hd; cases hd
  | cons a t ih =>
    have e1 : sled (a :: t) = a.led ++ sled t := rfl
    rw [e1, List.map_append] at nd
    obtain ⟨_, n2, n3⟩ := List.nodup_append.mp nd
    have hx : ∀ e ∈ t, a.x ≠ e.x := fun e he q => n3 a.x (by simp [Nd.led]) e.x (List.mem_map.mpr ⟨(e.x, nodeObj e.dx e.sa e.num e.tn e.np e.tp), List.mem_flatMap.mpr ⟨e, he, .tail _ (.head _)⟩, rfl⟩) q
    intro d hd e he q
    rcases List.mem_cons.mp hd with q1 | hd1
    · rcases List.mem_cons.mp he with q2 | he1
      · rw [q1, q2]
      · rw [q1] at q; exact absurd q (hx e he1)
    · rcases List.mem_cons.mp he with q2 | he1
      · rw [q2] at q; exact absurd q.symm (hx d hd1)
      · exact ih n2 d hd1 e he1 q
theorem rdy_p {ns : List Nd} (inj : ∀ d ∈ ns, ∀ e ∈ ns, d.x = e.x → d = e) {d : Nd} (hd : d ∈ ns) : (ns.any fun e => Value.ref d.x == Value.ref e.x && decide (e.np = 0)) = decide (d.np = 0) := by
  by_cases h : d.np = 0
  · rw [decide_eq_true h]
    exact List.any_eq_true.mpr ⟨d, hd, by simp [h]⟩
  · rw [decide_eq_false h]
    refine List.any_eq_false.mpr fun e he q => ?_
    simp only [Bool.and_eq_true, beq_iff_eq, Value.ref.injEq, decide_eq_true_eq] at q
    rw [inj d hd e he q.1] at h
    exact h q.2
theorem rdy_ints {ns : List Nd} (inj : ∀ d ∈ ns, ∀ e ∈ ns, d.x = e.x → d = e) {l : List Nd} (hl : ∀ d ∈ l, d ∈ ns) : ∀ {ys : List Value},
    Paired (fun v y => ∃ d ∈ ns, v = Value.ref d.x ∧ ∃ t, y = Value.int d.num t) ((l.map fun d => Value.ref d.x).filter fun v => ns.any fun d => v == Value.ref d.x && decide (d.np = 0)) ys → IntsAre ys ((l.filter fun d => d.np = 0).map (·.num)) := by
  induction l with
  | nil => intro ys h; cases h; exact .nil
  | cons a t ih =>
    intro ys h
    have ha := hl a (.head _)
    have ht := @ih fun d hd => hl d (.tail _ hd)
    rw [List.map_cons, List.filter_cons, rdy_p inj ha] at h
    rw [List.filter_cons]
    by_cases q : a.np = 0
    · rw [decide_eq_true q] at h
      simp only [if_true] at h
      rw [if_pos (by simpa using q), List.map_cons]
      cases h with
      | cons h1 h2 =>
        obtain ⟨d, hd, e1, tk, rfl⟩ := h1
        have e2 : a = d := inj a ha d hd (Value.ref.inj e1)
        subst e2
        exact .cons _ _ (ht h2)
    · rw [decide_eq_false q] at h
      rw [if_neg (by simpa using q)]
      exact ht (by simpa using h)
theorem prep_con (w : World) (a ad d : Addr) (t1 t2 t3 t4 : Tok) (po fi : Value) (o : Obj) (ns : List Nd) (hd : IsD w o (kvsOf ns)) (lo : (d == sysModules) = false) (wf : WF ns) (hss : ∀ e ∈ ns, ∀ s ∈ e.sn, s ∈ nums ns) (hup : ∀ e ∈ ns, ∀ s ∈ e.sn, e.num < s) :
    ConR w (.ref 143) [.ref a] 4 ((a, instObj 188 ad) :: (ad, sdict w t1 t2 t3 t4 d .none po fi) :: (d, o) :: sled ns)
    (fun r new => r = .none ∧ ∃ ra rvs nr, IntsAre rvs (rdyOf ns) ∧ new = (a, instObj 188 ad) :: (ad, sdict w t1 t2 t3 t4 d (.ref ra) po fi) :: (d, o) :: (ra, listOf rvs.toArray nr) :: sled ns) := by
  intro p' loose mean mg mb h₀ A l frs rest s R G Fs S ret
  have X := G.X
  have hnd : A.handled = none := G.hn
  have T := G.T
  have kf : (Mine.hd.heap_39 w.params).In h₀ ∧ PySem.Challenge.rw_oy0269_01.row.prog = PySem.Challenge.rw_oy0269_01.row.prog := (by k_fill; exact ⟨X, rfl⟩)
  clear kf
  have nd := S.nd
  k_dflt (refine' enter G S ?ho ?hcd ?hb ?hl ?_ ?c1 ?c2 ?c3 ?c4; (case ho => k_is); (case hcd => k_is); (case hb => first | exact BindsTo.of_eq rfl | exact binds_K (G.X.keeps S.keep) rfl (by k_is) rfl rfl rfl); (case hl => exact locs rfl); (case c1 => exact rfl); (case c2 => exact rfl); (case c3 => exact rfl); (case c4 => decide))
  intro h₁ F N lt1 lt2 zP0 zE0 zK0 zO0
  dsimp only [List.cons_append, List.nil_append] at N lt1
  dsimp only [List.cons_append, List.nil_append] at nd
  k_steps
  refine stop_out (comp_q (cl := []) (fun v => ns.any fun d => v == .ref d.x && decide (d.np = 0)) (fun v y => ∃ d ∈ ns, v = .ref d.x ∧ ∃ t, y = .int d.num t) ?_ (by decide) rfl (by decide) rfl ?_)
  · exact closureFor_none (by decide)
  k_steps
  refine stop_out ?_; k_dflt (refine vals_method (by k_asm) (by k_mem) (by k_asm) ?_); k_steps
  refine stop_out ?_; k_dflt (refine kta_callValues (knd := PySem.intKind _ _) (by k_asm) (by k_asm) (by k_mem) (by k_asm) (by k_asm) ?_); intro h8a hv F1 N1; k_steps
  have hkl : (kvsOf ns).length ≤ sizeLine := by
    have := wf.small
    rw [sizeLine_eq]; simp only [kvsOf, List.length_map]; omega
  have inj := x_inj (ns := ns) (by
    have h1 := (List.nodup_cons.mp (List.nodup_cons.mp (List.nodup_cons.mp nd).2).2).2
    rw [List.map_append] at h1
    exact (List.nodup_append.mp h1).1)
  refine stop_out (comp_values hnd F1 N1 hv (.tail _ (.tail _ (.head _))) hd hkl ?_ ?_ ?_)
  · intro C i k v s₃ m₃ E' hkv F3 hm3 N3
    refine wpAny_tests_one ?_
    have hi : i < ns.length := by
      have := (List.getElem?_eq_some_iff.mp hkv).1
      simpa [kvsOf] using this
    obtain ⟨rfl, rfl⟩ : ns[i].num = k ∧ Value.ref ns[i].x = v := by
      simp only [kvsOf, List.getElem?_map, List.getElem?_eq_getElem hi, Option.map_some, Option.some.injEq, Prod.mk.injEq] at hkv
      exact hkv
    generalize hdn : ns[i] = dN at *
    have hin : dN ∈ ns := by rw [← hdn]; exact List.getElem_mem hi
    have N4 : News h₀ C s₃.heap [(dN.x, nodeObj dN.dx dN.sa dN.num dN.tn dN.np dN.tp), (dN.dx, dictOf [] 0)] := fun p hp => N3 p (by
      have h1 : (dN.x, nodeObj dN.dx dN.sa dN.num dN.tn dN.np dN.tp) ∈ sled ns := List.mem_flatMap.mpr ⟨dN, hin, .tail _ (.head _)⟩
      have h2 : (dN.dx, dictOf [] 0) ∈ sled ns := List.mem_flatMap.mpr ⟨dN, hin, .tail _ (.tail _ (.head _))⟩
      rcases List.mem_cons.mp hp with rfl | hp
      · simp [h1]
      · rw [List.mem_singleton.mp hp]
        simp [h2])
    clear N3 N1 N F F1
    k_steps
    · rw [rdy_p inj hin]; rfl
    · exact ⟨_, _, rfl, fun _ _ e => e⟩
  · intro C i k v s₃ m₃ E' hkv hp F3 hm3 N3
    have hi : i < ns.length := by
      have := (List.getElem?_eq_some_iff.mp hkv).1
      simpa [kvsOf] using this
    obtain ⟨rfl, rfl⟩ : ns[i].num = k ∧ Value.ref ns[i].x = v := by
      simp only [kvsOf, List.getElem?_map, List.getElem?_eq_getElem hi, Option.map_some, Option.some.injEq, Prod.mk.injEq] at hkv
      exact hkv
    generalize hdn : ns[i] = dN at *
    have hin : dN ∈ ns := by rw [← hdn]; exact List.getElem_mem hi
    have N4 : News h₀ C s₃.heap [(dN.x, nodeObj dN.dx dN.sa dN.num dN.tn dN.np dN.tp), (dN.dx, dictOf [] 0)] := fun p hp => N3 p (by
      have h1 : (dN.x, nodeObj dN.dx dN.sa dN.num dN.tn dN.np dN.tp) ∈ sled ns := List.mem_flatMap.mpr ⟨dN, hin, .tail _ (.head _)⟩
      have h2 : (dN.dx, dictOf [] 0) ∈ sled ns := List.mem_flatMap.mpr ⟨dN, hin, .tail _ (.tail _ (.head _))⟩
      rcases List.mem_cons.mp hp with rfl | hp
      · simp [h1]
      · rw [List.mem_singleton.mp hp]
        simp [h2])
    clear N3 N1 N F F1
    k_steps
    · exact hin
    · exact ⟨_, _, rfl, fun _ _ e => e⟩
  · intro D h' tk9 ys n F3 N3 hne hP
    have hI : IntsAre ys.toList (rdyOf ns) := rdy_ints inj (fun d hd => hd) (by simpa [kvsOf, List.map_map, Function.comp_def] using hP)
    clear N1 F1 N F hP
    have ndD := nodup_ne (o := listOf ys n) hne nd
    have ndf := ndD
    have ndF : NDF _ := ndf
    k_steps
    rename Fr _ _ _ _ => F4
    rename_i N4
    refine use_con (rest := (D, listOf ys n) :: rest) (frs := frs) (cyc_con w a ad d t1 t2 t3 t4 (.ref D) po fi o ns hd lo wf hss hup).con ((G.deeper _).le (by decide)) (by intro h; cases h) rfl Fs F4 N4 ?_ ?_ ?_
    · intro p hp
      refine (List.Perm.mem_iff ?_).mp hp
      exact (List.perm_append_comm_assoc _ [(D, listOf ys n)] _)
    · refine nd_perm (ps := (D, listOf ys n) :: (a, instObj 188 ad) :: (ad, sdict w t1 t2 t3 t4 d (.ref D) po fi) :: (d, o) :: (sled ns ++ (rest ++ frs))) ndD ?_
      exact (List.perm_append_comm_assoc ((a, instObj 188 ad) :: (ad, sdict w t1 t2 t3 t4 d (.ref D) po fi) :: (d, o) :: sled ns) [(D, listOf ys n)] (rest ++ frs)).symm
    · rintro r h5 tk5 new frs5 SU5 Fs5 F5 N5 nd5 ⟨rfl, rfl⟩
      clear F4 N4
      k_steps
      rename Fr _ _ _ _ => F6
      rename_i N6
      refine ret _ _ _ ((a, instObj 188 ad) :: (ad, sdict w t1 t2 t3 t4 d (.ref D) po fi) :: (d, o) :: (D, listOf ys n) :: sled ns) frs5 SU5 Fs5 (St.of_news F6 N6 ?_ ?_) ⟨rfl, D, ys.toList, n, hI, by simp⟩
      · intro p hp
        refine (List.Perm.mem_iff ?_).mp hp
        exact (((List.perm_append_comm_assoc (sled ns) [(D, listOf ys n)] (rest ++ frs5)).symm.cons _).cons _).cons _
      · refine nd_perm nd5 ?_
        exact (((List.perm_append_comm_assoc (sled ns) [(D, listOf ys n)] (rest ++ frs5)).cons _).cons _).cons _
end
end
section
theorem enterC {w : World} {p : Program} {loose : List Str} {mean : ExcName → Option Value} {mg mb : Str → Option Value} {h₀ : Heap} {A : Around} {l : List Env} {need : Nat} {ps : Ledger} {s : Shared} {R : Result → Shared → Prop}
    {name qual : Str} {params : Arguments} {body : List Stmt} {scope : Scope} {dV kV doc pm cdv ct oc : Value} {an od : Option Addr} {osl : Array (Option Value)} {f : Addr} {args : Args} {binds : List (Str × Value)}
    (G : Gd w p loose mean mg mb h₀ A l need) (S : St h₀ s.heap ps)
    (ho : (Mine.hd.heap_39 w.params).lookup f = some ⟨oc, od, .func (fnOf name qual params body scope dV kV doc pm an cdv ct), osl⟩) (hcd : codeIn (Mine.hd.heap_39 w.params) cdv qual = true)
    (hbind : BindsTo s (fnOf name qual params body scope dV kV doc pm an cdv ct) args binds)
    (hkind : ∀ n, ∀ x ∈ binds, scope.names.lookup x.1 = some .local ∨ (scope.names.lookup x.1 = some .cell ∧ ((cellsFrom n scope.names []).lookup x.1).isSome = true))
    (hnd : ((cellsFrom 0 scope.names []).map (·.1)).Nodup)
    (h : ∀ h₁ tk cells, Fr h₀ s.heap.objs.size h₁ (bindL (envOfC qual scope s.heap.objs.size f cdv).kindOf binds fun _ => none) → News h₀ s.heap.objs.size h₁ (cells ++ ps) →
      CellsAre (bindC (envOfC qual scope s.heap.objs.size f cdv).kindOf binds fun _ => none) (cellsFrom (s.heap.objs.size + 1) scope.names []) cells → (∀ p ∈ ps, p.1 < s.heap.objs.size) →
      ∀ (zP : Flow → Shared → Prop) (zE : Value → Shared → Prop) (_ : EntK R zP) (_ : EntE (model prg w) (A.deeper (envOfC qual scope s.heap.objs.size f cdv)) (envOfC qual scope s.heap.objs.size f cdv) zE),
      wpAny (model prg w) (A.deeper (envOfC qual scope s.heap.objs.size f cdv)) (execs body (envOfC qual scope s.heap.objs.size f cdv)) (Cont zP) zE { s with heap := h₁, toks := tk })
    (hco : scope.isCoroutine = false := by rfl) (hgen : scope.isGenerator = false := by rfl) (hk : scope.kind = .function := by rfl) : codeAny (model prg w) A (.call (.ref f) args) R s := by
  have X := G.X.keeps S.keep
  refine codeAny_call_function (fd := fnOf name qual params body scope dV kV doc pm an cdv ct) (body := body) (Nat.lt_of_le_of_lt (Nat.le_add_right _ _) G.dp) (X _ _ ho) rfl hco hgen rfl (codeRec_of X hcd) (hbind _ _ _ _ ?_)
  refine wpAny_newFunctionEnv_cells hk (hkind _) fun env' he s' x => ?_
  subst he
  refine ⟨(G.T.nolimit.keeps S.keep).keeps x.toInCall.keep, codeAny_func ?_⟩
  obtain ⟨h₁, tk, rfl, _⟩ := x.done
  have hk₁ := x.toInCall.keep
  obtain ⟨cells, NC, Y⟩ := Cl.news (h₀ := h₀) (L := s.heap.objs.size) (cs := cellsFrom (s.heap.objs.size + 1) scope.names []) (h := h₁) (cm := bindC (envOfC qual scope s.heap.objs.size f cdv).kindOf binds fun _ => none) S.size
    fun n c hm => ⟨x.cell n c (lookup_of_mem_nodup (cellsFrom_names scope.names 0 (s.heap.objs.size + 1) [] [] rfl ▸ hnd) hm), x.above n c hm⟩
  refine ent_cut ⟨PassesOwn.leaving, fun _ => PassesOwnAt.leaving, fun _ => by passes_own⟩ (h h₁ tk cells ⟨x.toInCall.ns, fun b o e => hk₁ b o (S.keep b o e), S.size⟩ (fun p hp => ?_) Y S.lt)
  rcases List.mem_append.mp hp with hp | hp
  · exact NC p hp
  · exact ⟨hk₁ _ _ (S.led p hp).1, Nat.ne_of_lt (Heap.lt_size (S.led p hp).1), (S.led p hp).2⟩
section
variable {w : World} {A : Around} {E : Value → Shared → Prop} {s : Shared} {h₀ : Heap} {L : Addr} {m : Str → Option Value} {news : Ledger} {env : Env}
inductive CellJ (c : Addr) (J : (Str → Option Value) → Ledger → Prop) (m : Str → Option Value) : Ledger → Prop
  | mk (oc' : Obj) (v' : Option Value) (news : Ledger) (_ : oc'.data = .cell v') (_ : J m news) : CellJ c J m ((c, oc') :: news)
inductive RgC (s : Shared) (h₀ : Heap) (L c I : Addr) (n : Nat) (J : Nat → (Str → Option Value) → Ledger → Prop) (k : Nat) : Shared → Prop
  | mk (h : Heap) (tk : Tok) (m : Str → Option Value) (news : Ledger) (i : Nat) (oc : Obj) (v' : Option Value) (_ : k = n - i) (_ : i ≤ n) (_ : IsRangeIter h I (0 + (i : Nat) * 1) ((n : Int) - (i : Nat)) 1) (_ : oc.data = .cell v') (_ : Fr h₀ L h m) (_ : News h₀ L h ((c, oc) :: news)) (_ : J i m news) : RgC s h₀ L c I n J k { s with heap := h, toks := tk }
theorem for_rangeC {x : Str} {px : Pos} {body : List Stmt} {Q : Flow → Shared → Prop} {r c : Addr} {b : Int} {t u v : Tok} {m₀ : Str → Option Value} {news₀ : Ledger} {oc : Obj} {v₀ : Option Value}
    (J : Nat → (Str → Option Value) → Ledger → Prop) (hh : A.handled = none) (hL : env.locals = L) (F : Fr h₀ L s.heap m₀) (N : News h₀ L s.heap ((c, oc) :: news₀)) (hoc : oc.data = .cell v₀) (hr : IsRange s.heap r 0 b 1 t u v) (hb : -1000000 ≤ b ∧ b < 1000000)
    (hj : J 0 m₀ news₀)
    (hoff : ∀ i m news, J i m news → ∀ p ∈ news, p.1 ≠ s.heap.objs.size ∧ p.1 ≠ c)
    (hk : env.scope.kind = .function) (hx : env.kindOf x = some .cell) (hcl : env.cells.lookup x = some c)
    (hE : PassesOwn (model prg w) A env E)
    (turn : ∀ (i : Nat) tv m news oI oc h tk I, I = s.heap.objs.size → i < b.toNat → J i m news → oc.data = .cell (some (.int (i : Int) tv)) → Fr h₀ L h m → News h₀ L h ((I, oI) :: (c, oc) :: news) →
      ∀ (zP : Flow → Shared → Prop) (_ : ForK h₀ L I oI (CellJ c (J (i + 1))) s.gens s.drawn s.os Q zP), wpAny (model prg w) A (execs body env) (Cont zP) E { s with heap := h, toks := tk })
    (done : ∀ m news oc v' h tk, J b.toNat m news → oc.data = .cell v' → Fr h₀ L h m → News h₀ L h ((c, oc) :: news) → Q .next { s with heap := h, toks := tk }) :
    wpAny (model prg w) A (pyIter (.ref r)) (ForAt prg w A (.Name x px) body [] env Q E) E s := by
  subst hL
  refine wpAny_pyIter_range hr (small_one (by omega) (by omega) (by omega) (by omega)) ?_
  have hn : Builtin.Range.rangeSize 0 b 1 = (b.toNat : Int) := by rw [rangeSize_nat]; simp
  rw [hn]
  obtain ⟨oL, es, ep, hLo, _⟩ := id F.ns
  have W := Walks.range (prog := prg) (w := w) hh s.heap.objs.size 0 1 b.toNat
  have hIL : s.heap.objs.size ≠ env.locals := Nat.ne_of_gt (Heap.lt_size hLo)
  have hIb : h₀.get? s.heap.objs.size = none := Heap.get?_none_of_le (Nat.le_of_lt (Nat.lt_of_le_of_lt F.above (Heap.lt_size hLo)))
  have hIc : c ≠ s.heap.objs.size := Nat.ne_of_lt (Heap.lt_size (N (c, oc) (.head _)).1)
  unfold ForAt
  refine codeAny_forLoop (RgC s h₀ env.locals c s.heap.objs.size b.toNat J) ?_ b.toNat
    (.mk _ s.toks m₀ news₀ 0 oc v₀ rfl (Nat.zero_le _) (by show IsRangeIter _ _ _ _ _; simpa using Heap.get?_push_size s.heap (o := { cls := .type "range_iterator", data := .fields #[rawInt 0, rawInt (b.toNat : Int), rawInt 1] }) rfl) hoc (F.push _) (fun p hp => ⟨Heap.get?_push_of_some _ (N p hp).1, (N p hp).2⟩) hj)
  rintro k _ ⟨h, tk, m, news, i, oc, v', rfl, hi, hst, hoc, F, N, hJ⟩
  have hE' := hE
  have hoffN : ∀ p ∈ (c, oc) :: news, p.1 ≠ s.heap.objs.size := fun p hp => by
    rcases List.mem_cons.mp hp with rfl | hp
    · exact hIc
    · exact (hoff _ _ _ hJ p hp).1
  by_cases hlt : i < b.toNat
  · refine W.item i _ _ _ hlt hst fun v h' tk' hP hst' hk' => ?_
    obtain ⟨tv, rfl⟩ := hP
    obtain ⟨oI, ho⟩ : ∃ o, h'.get? s.heap.objs.size = some o := ⟨_, hst'⟩
    have F' := fr_keeps F hIL hIb hk'
    have N' := news_keeps N hoffN hk'
    have hcm := N' (c, oc) (.head _)
    refine wpAny_assign_Name (wpAny_storeName_cell hk hx hcl ⟨oc, hcm.1, hoc⟩ fun h₂ hc2 hs2 => ?_)
    obtain ⟨oc2, hoc2, hd2⟩ := hc2
    have e0 : (0 : Int) + (i : Nat) * 1 = (i : Int) := by omega
    rw [e0] at hd2
    have F₂ : Fr h₀ env.locals h₂ m := F'.change hs2 hcm.2.1 hcm.2.2
    have N₂ : News h₀ env.locals h₂ ((s.heap.objs.size, oI) :: (c, oc2) :: news) := fun p hp => by
      rcases List.mem_cons.mp hp with rfl | hp
      · exact ⟨(hs2.2 _ (Ne.symm hIc)).trans ho, hIL, hIb⟩
      · rcases List.mem_cons.mp hp with rfl | hp
        · exact ⟨hoc2, hcm.2⟩
        · have := N' p (.tail _ hp)
          exact ⟨(hs2.2 _ (hoff _ _ _ hJ p hp).2).trans this.1, this.2⟩
    refine wpAny_mono (for_turn (turn i tv m news oI oc2 h₂ _ _ rfl hlt hJ hd2 F₂ N₂)) (fun f s₃ hf => ?_) hE'
    have aux : ForEnd h₀ env.locals s.heap.objs.size oI (CellJ c (J (i + 1))) { s with heap := h₂, toks := tk' } Q .next s₃ →
        ∃ k', k' < b.toNat - i ∧ RgC s h₀ env.locals c s.heap.objs.size b.toNat J k' s₃ := by
      rintro ⟨h₃, tk₃, m₃, news₃, rfl, F₃, N₃, ⟨oc3, v3, news4, hd3, J₃⟩⟩
      refine ⟨b.toNat - (i + 1), by exact lin [_, _, _, _] [] [(1, (.n (.v 2) (.a (.v 1) (.v 3)))), (1, (.n (.a (.v 0) (.a (.v 3) (.k 1))) (.v 2)))] 1 (.n (.a (.v 0) (.k 1)) (.v 1)) rfl (sub_b _ _) (sub_c (hlt)), .mk h₃ tk₃ m₃ news4 (i + 1) oc3 v3 rfl hlt (W.frame _ _ _ hst' fun b hb o' ho' => ?_) hd3 F₃ (fun p hp => N₃ p (List.mem_cons_of_mem _ hp)) J₃⟩
      rw [List.mem_singleton.mp hb] at ho' ⊢
      rw [ho] at ho'; cases ho'
      exact (N₃ _ List.mem_cons_self).1
    cases f with
    | next => exact aux hf
    | cont => exact aux hf
    | brk => exact hf
    | ret v => exact hf
  · have e : i = b.toNat := by exact go_eq (hi) ((not_lt_n hlt))
    subst e
    refine W.done _ _ _ hst fun h' tk' hk' => ?_
    refine wpAny_execs_nil ?_
    exact done m news oc v' h' tk' hJ hoc (fr_keeps F hIL hIb hk') (news_keeps N hoffN hk')
theorem name_compC {M : Model} {scope : Scope} {cl : List (Str × Addr)} {C c : Addr} {o : Obj} {x : Str} {pos : Pos} {v : Value} {Q : Value → Shared → Prop} (N : News h₀ C s.heap news) (hc : cl.lookup x = some c) (hm : (c, o) ∈ news) (hd : o.data = .cell (some v)) (h : Q v s)
    (hk : (compEnvC scope cl C env).scope.kind = .function := by rfl) (hx : (compEnvC scope cl C env).kindOf x = some .cell := by rfl) (hb : (x == ("__debug__" : Str)) = false := by decide) :
    wpAny M A (eval (.Name x pos) (compEnvC scope cl C env)) Q E s := wpAny_Name (wpAny_loadName_cell hk hx hc ⟨o, N.get hm, hd⟩ h) hb
theorem comp_seq {scope : Scope} {cl : List (Str × Addr)} {x : Str} {ifs : List Expr} {elt : Expr} {p : Value → Bool} {Fv : Value → Value → Prop} {Q : Value → Shared → Prop} {l : Addr} {vs : List Value} {k : Nat} {T : String}
    (hh : A.handled = none) (F : Fr h₀ L s.heap m) (N : News h₀ L s.heap news) (hm : (l, ({ cls := .type T, data := .seq vs.toArray k } : Obj)) ∈ news) (hT : T = "list" ∨ T = "tuple") (hz : vs.length ≤ sizeLine)
    (tests : ∀ (C : Addr) (i : Nat) (v : Value) (s₃ : Shared) (m₃ : Str → Option Value) (E' : Value → Shared → Prop), vs[i]? = some v → Fr h₀ C s₃.heap m₃ → m₃ x = some v → News h₀ C s₃.heap news →
      wpAny (model prg w) A (forIn ifs true fun c r => if r = true then do let ok ← isTrue c (compEnvC scope cl C env) (eval c (compEnvC scope cl C env)); pure (ForInStep.yield ok) else pure (ForInStep.yield r))
        (fun ok s₄ => ok = p v ∧ Keeps s₃ s₄) E' s₃)
    (elts : ∀ (C : Addr) (i : Nat) (v : Value) (s₃ : Shared) (m₃ : Str → Option Value) (E' : Value → Shared → Prop), vs[i]? = some v → p v = true → Fr h₀ C s₃.heap m₃ → m₃ x = some v → News h₀ C s₃.heap news →
      wpAny (model prg w) A (eval elt (compEnvC scope cl C env)) (fun y s₄ => Fv v y ∧ Keeps s₃ s₄) E' s₃)
    (res : ∀ D h' tk ys n, Fr h₀ L h' m → News h₀ L h' ((D, listOf ys n) :: news) → (∀ p ∈ news, p.1 ≠ D) → Paired Fv (vs.filter p) ys.toList → Q (.ref D) { s with heap := h', toks := tk }) :
    wpAny (model prg w) A (pyIter (.ref l)) (CompSrcQ w A env scope cl x ifs elt p Fv Q) E s := by
  have hlt : l < s.heap.objs.size := Heap.lt_size (N _ hm).1
  have fin : ∀ (O : Obj) (St : Nat → Heap → Prop), O.isFreed = false → Walks prg w A s.heap.objs.size [s.heap.objs.size, l] [s.heap.objs.size] vs.toArray.size (fun i v => vs.toArray[i]? = some v) St → St 0 (s.heap.push O) →
      CompSrcQ w A env scope cl x ifs elt p Fv Q (.ref s.heap.objs.size) { s with heap := s.heap.push O } := by
    intro O St hO W hst
    refine ⟨s.heap.objs.size, _, _, vs.toArray.size, _, _, rfl, W, by simpa using hz, hst, ?_, ⟨?_, ?_⟩, ?_⟩
    · intro b hb
      show b < (s.heap.push _).objs.size
      rw [push_size]
      rcases List.mem_cons.mp hb with rfl | hb
      · exact Nat.lt_succ_self _
      · rw [List.mem_singleton.mp hb]; exact Nat.lt_succ_of_lt hlt
    · rintro C i v s₃ m₃ E' hC hkv hn hmx hk _
      obtain ⟨F3, N3⟩ := news_comp (h := s₃.heap) F N rfl hC hn hk
      exact tests C i v s₃ m₃ E' (by simpa using hkv) F3 hmx N3
    · rintro C i v s₃ m₃ E' hC hkv hp hn hmx hk _
      obtain ⟨F3, N3⟩ := news_comp (h := s₃.heap) F N rfl hC hn hk
      exact elts C i v s₃ m₃ E' (by simpa using hkv) hp F3 hmx N3
    · intro D h' tk ys vs' hD hl hpl hlen hP hF hk
      obtain ⟨F3, ⟨n, N3⟩, hne⟩ := comp_done F N hD hpl hO hk
      refine res D h' tk ys n F3 N3 hne ?_
      have e : vs' = vs := by
        refine List.ext_getElem? fun i => ?_
        by_cases hi : i < vs'.length
        · have := hP i vs'[i] (List.getElem?_eq_getElem hi)
          rw [List.getElem?_eq_getElem hi]; simpa using this.symm
        · rw [List.getElem?_eq_none (by exact (not_lt_n hi)), List.getElem?_eq_none (by simp at hlen; exact lin [_, _, _] [] [(1, (.n (.v 2) (.v 1))), (1, (.n (.v 0) (.v 2)))] 1 (.n (.v 0) (.v 1)) rfl (not_lt_n hi) (eq_b hlen))]
      rw [← e]; exact hF
  rcases hT with rfl | rfl
  · have hl : s.heap.IsList l vs.toArray := ⟨_, (N _ hm).1, rfl, _, rfl⟩
    exact wpAny_pyIter_list hl (fin _ _ rfl (Walks.list hh _ _ (Nat.ne_of_lt hlt) vs.toArray) ⟨⟨_, Heap.get?_push_size _ rfl, rfl, rfl⟩, hl.at fun o e => Heap.get?_push_of_some _ e⟩)
  · have hl : s.heap.IsTuple l vs.toArray := ⟨_, (N _ hm).1, rfl, _, rfl⟩
    exact wpAny_pyIter_tuple hl (fin _ _ rfl (Walks.tuple hh _ _ (Nat.ne_of_lt hlt) vs.toArray) ⟨⟨_, Heap.get?_push_size _ rfl, rfl, rfl⟩, ⟨_, Heap.get?_push_of_some _ (N _ hm).1, rfl, _, rfl⟩⟩)
end
section
variable {w : World} {p : Program} {loose : List Str} {mean : ExcName → Option Value} {mg mb : Str → Option Value} {h₀ : Heap} {A : Around} {l : List Env} {need : Nat}
theorem use_meth {f M : Addr} {self : Value} {args : List Value} {pre rest frs : Ledger} {post : Value → Ledger → Prop} {env : Env} {L : Addr} {m : Str → Option Value} {s : Shared} {Q E : Value → Shared → Prop} {news : Ledger}
    (C : ConR w (.ref f) (self :: args) need pre post) (G : Gd w p loose mean mg mb h₀ (A.deeper env) (env :: l) need) (hk : env.scope.kind ≠ .module) (hf : env.frame = some L) (Fs : TI.Frs l frs)
    (F : Fr h₀ L s.heap m) (N : News h₀ L s.heap news) (hq : (M, methodObj (.ref f) self) ∈ news) (hsub : ∀ p ∈ pre ++ (rest ++ frs), p ∈ news) (nd : ((pre ++ (rest ++ frs)).map (·.1)).Nodup)
    (k : ∀ r h' tk' new frs', TI.SameUp frs frs' → TI.Frs l frs' → Fr h₀ L h' m → News h₀ L h' (new ++ (rest ++ frs')) → ((new ++ (rest ++ frs')).map (·.1)).Nodup → post r new → Q r { s with heap := h', toks := tk' }) :
    wpAny (model prg w) (A.deeper env) (call (.ref M) args) Q E s := by
  have N1 : News h₀ L s.heap (pre ++ (rest ++ frs)) := fun p hp => N p (hsub p hp)
  obtain ⟨oL, CL, S⟩ := St.of_fr F N1 nd
  have S2 : St h₀ s.heap (pre ++ (rest ++ ((L, oL) :: frs))) := by
    refine S.perm ?_
    have e1 : pre ++ (rest ++ ((L, oL) :: frs)) = (pre ++ rest) ++ ((L, oL) :: frs) := by simp
    have e2 : (L, oL) :: (pre ++ (rest ++ frs)) = (L, oL) :: ((pre ++ rest) ++ frs) := by simp
    rw [e1, e2]
    exact (List.perm_middle).symm
  refine call_meth N hq ?_
  refine C p loose mean mg mb h₀ (A.deeper env) (env :: l) ((L, oL) :: frs) rest s _ G (frs_cons hk hf CL Fs) S2 fun r h' tk' new frs' SU Fs' S' hp => ?_
  obtain ⟨sl, fr', rfl, SU'⟩ := su_cons SU
  have S3 : St h₀ h' ((L, { oL with slots := sl }) :: (new ++ (rest ++ fr'))) := by
    refine S'.perm ?_
    have e1 : new ++ (rest ++ ((L, { oL with slots := sl }) :: fr')) = (new ++ rest) ++ ((L, { oL with slots := sl }) :: fr') := by simp
    have e2 : (L, ({ oL with slots := sl } : Obj)) :: (new ++ (rest ++ fr')) = (L, { oL with slots := sl }) :: ((new ++ rest) ++ fr') := by simp
    show ((new ++ (rest ++ ((L, { oL with slots := sl }) :: fr')))).Perm _
    rw [e1, e2]
    exact List.perm_middle
  obtain ⟨F', N', nd'⟩ := S3.to_fr CL
  exact k r h' tk' new fr' SU' Fs'.2.2.2 F' N' nd' hp
end
section
variable {M : Model} {A : Around} {E : Value → Shared → Prop} {s : Shared} {env : Env}
theorem MethodCall_star {o : Expr} {name : Str} {apos pos : Pos} {args : List Expr} {Q : Value → Shared → Prop}
    (h : wpAny M A (eval o env) (fun ov s₁ => wpAny M A (getAttr ov name true) (fun f s₂ => wpAny M A (callWith pos f [] (backTo pos (starEach args env)) []) Q E s₂) E s₁) E s)
    (he : eval (.Call (.Attribute o name apos) args [] pos) env = (do
      let ov ← eval o env
      standAt apos.atName
      let (f, first) ← holding [ov] (do pure (← getAttr ov name true, []))
      let callPos ← pure pos
      callWith callPos f first (backTo pos (starEach args env)) []) := by with_unfolding_all rfl) :
    wpAny M A (eval (.Call (.Attribute o name apos) args [] pos) env) Q E s := by
  rw [he]
  refine wpAny_bind (wpAny_mono h (fun ov s₁ h₁ => wpAny_bind (wpAny_standAt (wpAny_bind (wpAny_holding (wpAny_bind (wpAny_mono h₁ (fun f s₂ h₂ => wpAny_pure ?_) fun _ _ x => x)))))) fun _ _ x => x)
  exact wpAny_bind (wpAny_pure h₂)
theorem callWith_MS2 {K : Frag} {q g : Addr} {self : Value} {pos : Pos} {e : Expr} {rest : List Expr} {Q : Value → Shared → Prop} {h₀ : Heap} {L : Addr} {news : Ledger} (_N : News h₀ L s.heap news) (_hq : (q, methodObj (.ref g) self) ∈ news) (_X : K.In h₀) (hf : fnIn K g = true) (h : wpAny M A (spliced (backTo pos (starEach (e :: rest) env))) (fun vs s₁ => MethP K q g self s₁.heap ∧ wpAny M A (call (.ref q) ([] ++ vs)) Q E s₁) E s)
    (he : starEach (e :: rest) env = (false, eval e env) :: starEach rest env := by rfl) (hst : (backTo pos (starEach rest env)).any (·.1) = true := by rfl) :
    wpAny M A (callWith pos (.ref q) [] (backTo pos (starEach (e :: rest) env)) []) Q E s := by
  rw [he] at h ⊢
  exact ks_call (by show (false || (backTo pos (starEach rest env)).any (·.1)) = true; rw [hst]; rfl) (keeps_M hf) (evalArgs_plain h)
theorem callWith_MS {K : Frag} {q g : Addr} {self : Value} {pos p : Pos} {e : Expr} {Q : Value → Shared → Prop} {h₀ : Heap} {L : Addr} {news : Ledger} (_N : News h₀ L s.heap news) (_hq : (q, methodObj (.ref g) self) ∈ news) (_X : K.In h₀) (hf : fnIn K g = true) (h : wpAny M A (eval e env) (fun v s₁ => StarOf M A E v (fun vs s₂ => MethP K q g self s₂.heap ∧ wpAny M A (call (.ref q) ([] ++ vs)) Q E s₂) s₁) E s)
    (he : starEach [.Starred e p] env = [(true, eval e env)] := by rfl) :
    wpAny M A (callWith pos (.ref q) [] (backTo pos (starEach [.Starred e p] env)) []) Q E s := by
  rw [he]
  exact ks_call rfl (keeps_M hf) (ks_lone h)
end
noncomputable def intP (P : Int → Bool) (v : Value) : Bool := match v with | .int x _ => P x | _ => false
noncomputable def intF (g : Int → Int) (v y : Value) : Prop := ∃ x t' t'', v = .int x t' ∧ y = .int (g x) t''
theorem paired_ints {vs : List Value} {ns : List Int} (hI : IntsAre vs ns) (P : Int → Bool) (g : Int → Int) : ∀ {ys : List Value}, Paired (intF g) (vs.filter (intP P)) ys → IntsAre ys ((ns.filter P).map g) := by
  induction hI with
  | nil => intro ys h; cases h; exact .nil
  | cons k t r ih =>
    intro ys h
    rw [List.filter_cons] at h
    rw [List.filter_cons]
    by_cases q : P k = true
    · rw [if_pos (show intP P (.int k t) = true from q)] at h
      rw [if_pos q, List.map_cons]
      cases h with
      | cons h1 h2 =>
        obtain ⟨x, t', t'', e, rfl⟩ := h1
        have e2 : k = x := by injection e
        subst e2
        exact .cons _ _ (ih h2)
    · rw [if_neg (show ¬ intP P (.int k t) = true from q)] at h
      rw [if_neg q]
      exact ih h
theorem min_led {w : World} {A : Around} {E : Value → Shared → Prop} {s : Shared} {h₀ : Heap} {L l : Addr} {m : Str → Option Value} {news : Ledger} {vs : List Value} {n : Nat} {p q : Int} {Q : Value → Shared → Prop} (hh : A.handled = none) (F : Fr h₀ L s.heap m) (N : News h₀ L s.heap news)
    (hm : (l, listOf vs.toArray n) ∈ news) (hi : IntsAre vs [p, q])
    (h : ∀ h' (t : Tok) tk, Fr h₀ L h' m → News h₀ L h' news → (∀ b o, s.heap.get? b = some o → h'.get? b = some o) → Q (.int (min p q) t) { s with heap := h', toks := tk }) :
    wpAny (model prg w) A (call (.builtin "min") [.ref l]) Q E s := by
  have hl : s.heap.IsList l vs.toArray := ⟨_, (N _ hm).1, rfl, _, rfl⟩
  obtain ⟨xs, e⟩ := hi.allInts.items
  have hns : [p, q] = xs.toList.map (·.1) := by
    rw [← hi.numsOf, ← nums_intItems, ← e]
  have hsz : 0 < xs.size := by
    have h3 : 0 < [p, q].length := by simp
    rw [hns, List.length_map, Array.length_toList] at h3; exact h3
  rw [e] at hl
  refine min_intList hh hl hsz fun v h' tk hv hk => ?_
  obtain ⟨t, rfl⟩ := intItems_at hv
  obtain ⟨h1, h2⟩ := argBest_lt (numAt xs) (xs.size - 1)
  have hM1 : numAt xs (argBest (fun i j => decide (numAt xs i < numAt xs j)) (xs.size - 1)) ∈ [p, q] := by
    rw [hns, numAt_eq]; exact getD_mem (by rw [List.length_map, Array.length_toList]; exact lin [_, _, _] [] [(1, (.n (.v 0) (.v 2))), (1, (.n (.a (.v 2) (.k 1)) (.v 1)))] 1 (.n (.a (.v 0) (.k 1)) (.v 1)) rfl h1 (sub_c (lin [_] [] [(1, (.n (.a (.k 0) (.k 1)) (.v 0)))] 1 (.n (.k 1) (.v 0)) rfl hsz)))
  have hM2 : ∀ a ∈ [p, q], numAt xs (argBest (fun i j => decide (numAt xs i < numAt xs j)) (xs.size - 1)) ≤ a := fun a ha => by
    rw [hns] at ha
    obtain ⟨j, hj, rfl⟩ := mem_getD ha
    rw [List.length_map, Array.length_toList] at hj
    rw [← numAt_eq]; exact h2 j (by exact lin [_, _, _] [] [(1, (.n (.a (.v 0) (.k 1)) (.v 2))), (1, (.n (.v 2) (.a (.v 1) (.k 1))))] 1 (.n (.v 0) (.v 1)) rfl hj (sub_b _ _))
  have hM : numAt xs (argBest (fun i j => decide (numAt xs i < numAt xs j)) (xs.size - 1)) = min p q := by
    have a1 := hM2 p (by simp)
    have a2 := hM2 q (by simp)
    simp only [List.mem_cons, List.not_mem_nil, or_false] at hM1
    rcases hM1 with e1 | e1 <;> rw [e1] at a1 a2 ⊢ <;> (first | exact go_eqi ((imin_c (a2))) ((Int.min_le_left _ _)) | exact go_eqi ((imin_d (a1))) ((Int.min_le_right _ _)) | omega)
  have := h h' t tk (F.grownK hk) (N.grown hk) hk
  rw [← hM] at this
  exact this
end
set_option hygiene false in
local macro_rules | `(tactic| walk_at "eval Name") => `(tactic| ((with_reducible refine idp_p1 ?_); first | refine name_comp (by assumption) (by assumption) ?_ | (refine' name_compC (by assumption) (by exact rfl) (by k_mem) (by assumption) ?_ (by exact rfl) (by exact rfl) (by decide))))
set_option hygiene false in
local macro_rules | `(tactic| walk_at "call builtin:min") => `(tactic| with_reducible refine stop_p7 ?_)
set_option hygiene false in
local macro_rules | `(tactic| walk_at "call ref") => `(tactic| with_reducible refine stop_p8 ?_)
section
noncomputable def preds (p q n : Int) : List Int := ([p, q].filter fun x => decide (x ≤ n)).map fun x => n - x
noncomputable def addsV (p q : Int) (i : Nat) : List Nv := (List.range i).foldl (fun v (n : Nat) => addV v n (preds p q n)) []
theorem addsV_succ (p q : Int) (i : Nat) : addsV p q (i + 1) = addV (addsV p q i) i (preds p q i) := by
  unfold addsV; rw [List.range_succ, List.foldl_append]; rfl
theorem preds_len (p q n : Int) : (preds p q n).length ≤ 2 := by
  unfold preds; rw [List.length_map]; exact List.length_filter_le _ _
theorem preds_mem {p q n x : Int} (hp : 0 < p) (hq : 0 < q) (h : x ∈ preds p q n) : 0 ≤ x ∧ x < n := by
  unfold preds at h
  obtain ⟨y, hy, rfl⟩ := List.mem_map.mp h
  obtain ⟨hy1, hy2⟩ := List.mem_filter.mp hy
  simp only [decide_eq_true_eq] at hy2
  simp only [List.mem_cons, List.not_mem_nil, or_false] at hy1
  rcases hy1 with rfl | rfl <;> (first | exact ⟨by exact lin [] [_, _] [(1, (.i (.v 1) (.v 0)))] 1 (.i (.k 0) (.s (.v 0) (.v 1))) rfl hy2, by exact go_lti (lin [] [_, _] [(1, (.i (.a (.k 0) (.k 1)) (.v 1)))] 1 (.i (.a (.s (.v 0) (.v 1)) (.k 1)) (.v 0)) rfl (lt_i hp))⟩ | exact ⟨by exact lin [] [_, _] [(1, (.i (.v 1) (.v 0)))] 1 (.i (.k 0) (.s (.v 0) (.v 1))) rfl hy2, by exact go_lti (lin [] [_, _] [(1, (.i (.a (.k 0) (.k 1)) (.v 1)))] 1 (.i (.a (.s (.v 0) (.v 1)) (.k 1)) (.v 0)) rfl (lt_i hq))⟩ | omega)
noncomputable def numsV (v : List Nv) : List Int := v.map (·.num)
theorem nums_view (ns : List Nd) : nums ns = numsV (view ns) := by unfold nums numsV view; rw [List.map_map]; rfl
theorem numsV_upd {p : Int} {g : Nv → Nv} {v : List Nv} (h : ∀ e, (g e).num = e.num) : numsV (updV p g v) = numsV v := by
  unfold numsV updV
  rw [List.map_map]
  refine List.map_congr_left fun e _ => ?_
  simp only [Function.comp]
  split
  · exact h e
  · rfl
theorem numsV_preds (n : Int) (ps : List Int) : ∀ v, numsV (ps.foldl (addPred n) v) = numsV v := by
  induction ps with
  | nil => intro v; rfl
  | cons a t ih => intro v; rw [List.foldl_cons, ih]; exact numsV_upd fun _ => rfl
theorem numsV_add (v : List Nv) (n : Int) (ps : List Int) : numsV (addV v n ps) = numsV v ++ [n] := by
  unfold addV; rw [numsV_preds]; simp [numsV]
theorem numsV_adds (p q : Int) (i : Nat) : numsV (addsV p q i) = (List.range i).map fun (k : Nat) => (k : Int) := by
  induction i with
  | zero => rfl
  | succ i ih => rw [addsV_succ, numsV_add, ih, List.range_succ, List.map_append]; rfl
/-- what a node's successors are like -/
noncomputable def SnOk (c : Nat) (i : Int) (e : Nv) : Prop := e.sn.length ≤ c ∧ ∀ s ∈ e.sn, e.num < s ∧ s < i
theorem snOk_pred {c : Nat} {i n : Int} (hn : n < i) : ∀ (ps : List Int) (v : List Nv), (∀ x ∈ ps, x < n) → (∀ e ∈ v, SnOk c i e) → ∀ e ∈ ps.foldl (addPred n) v, SnOk (c + ps.length) i e := by
  intro ps
  induction ps generalizing c with
  | nil => intro v _ h e he; exact h e he
  | cons a t ih =>
    intro v hx h e he
    rw [List.foldl_cons] at he
    have := ih (c := c + 1) (addPred n v a) (fun x hx' => hx x (.tail _ hx')) (fun f hf => ?_) e he
    · rw [List.length_cons, show c + (t.length + 1) = c + 1 + t.length by exact go_eq (lin [_, _] [] [] 1 (.n (.a (.v 0) (.a (.v 1) (.k 1))) (.a (.a (.v 0) (.k 1)) (.v 1))) rfl) (lin [_, _] [] [] 1 (.n (.a (.a (.v 0) (.k 1)) (.v 1)) (.a (.v 0) (.a (.v 1) (.k 1)))) rfl)]; exact this
    · obtain ⟨g, hg, rfl⟩ := List.mem_map.mp hf
      obtain ⟨h1, h2⟩ := h g hg
      split
      · rename_i q
        refine ⟨by simp; exact h1, fun s hs => ?_⟩
        rcases List.mem_append.mp hs with hs | hs
        · exact h2 s hs
        · rw [List.mem_singleton.mp hs]
          have := hx a (.head _)
          exact ⟨by show g.num < n; exact go_lti (lin [] [_, _, _] [(1, (.i (.v 0) (.v 2))), (1, (.i (.a (.v 2) (.k 1)) (.v 1)))] 1 (.i (.a (.v 0) (.k 1)) (.v 1)) rfl (eqi_a q) (lt_i this)), hn⟩
      · exact ⟨by exact lin [_, _] [] [(1, (.n (.v 0) (.v 1)))] 1 (.n (.v 0) (.a (.v 1) (.k 1))) rfl h1, h2⟩
theorem snOk_adds {p q : Int} (hp : 0 < p) (hq : 0 < q) (i : Nat) : ∀ e ∈ addsV p q i, SnOk (2 * i) i e := by
  induction i with
  | zero => intro e he; cases he
  | succ i ih =>
    rw [addsV_succ]
    intro e he
    have := snOk_pred (c := 2 * i) (i := ((i + 1 : Nat) : Int)) (n := (i : Int)) (by exact go_lti (lin [_] [] [] 1 (.i (.a (.n (.v 0)) (.k 1)) (.n (.a (.v 0) (.k 1)))) rfl)) (preds p q i) _ (fun x hx => (preds_mem hp hq hx).2) (fun f hf => ?_) e he
    · have h2 := preds_len p q i
      exact ⟨by have := this.1; exact lin [_, _, _] [] [(1, (.n (.v 2) (.k 2))), (1, (.n (.v 0) (.a (.m 2 (.v 1)) (.v 2))))] 1 (.n (.v 0) (.m 2 (.a (.v 1) (.k 1)))) rfl h2 this, this.2⟩
    · rcases List.mem_append.mp hf with hf | hf
      · have := ih f hf
        exact ⟨this.1, fun s hs => ⟨(this.2 s hs).1, by have := (this.2 s hs).2; exact go_lti (lin [_] [_] [(1, (.i (.a (.v 0) (.k 1)) (.n (.v 0))))] 1 (.i (.a (.v 0) (.k 1)) (.n (.a (.v 0) (.k 1)))) rfl (lt_i this))⟩⟩
      · rw [List.mem_singleton.mp hf]
        exact ⟨Nat.zero_le _, fun s hs => by cases hs⟩
theorem perm_a {x1 x2 x3 x4 : Addr × Obj} {T : Ledger} : (x1 :: x2 :: x3 :: x4 :: T).Perm (x4 :: x2 :: x3 :: x1 :: T) := (((List.perm_middle (l₁ := [x4, x2, x3])).trans ((List.perm_middle (l₁ := [x2, x3])).symm.cons _))).symm
/-- what holds between the turns that add the numbers -/
inductive AddsJ (w : World) (a ad d : Addr) (t1 t2 t3 t4 tp tf : Tok) (p q : Int) (c2 I : Addr) (back rest frs : Ledger) (l : List Env) (mm : Str → Option Value) (i : Nat) : (Str → Option Value) → Ledger → Prop
  | mk (ns : List Nd) (o : Obj) (frs' : Ledger) (_ : view ns = addsV p q i) (_ : IsD w o (kvsOf ns)) (_ : WF ns) (_ : TI.SameUp frs frs') (_ : TI.Frs l frs')
    (_ : (I :: c2 :: (((a, instObj 188 ad) :: (ad, sdict w t1 t2 t3 t4 d .none (.int 0 tp) (.int 0 tf)) :: (d, o) :: (sled ns ++ (back ++ (rest ++ frs')))) : Ledger).map (·.1)).Nodup) :
    AddsJ w a ad d t1 t2 t3 t4 tp tf p q c2 I back rest frs l mm i mm ((a, instObj 188 ad) :: (ad, sdict w t1 t2 t3 t4 d .none (.int 0 tp) (.int 0 tf)) :: (d, o) :: (sled ns ++ (back ++ (rest ++ frs'))))
section
open Classical
theorem perm_b {i a b d r : Addr × Obj} {T : Ledger} : (i :: a :: b :: d :: r :: T).Perm (a :: b :: r :: i :: d :: T) := by (refine List.perm_iff_count.mpr fun a0 => ?_; simp only [List.count_cons, List.count_append, List.cons_append, List.append_assoc]; ac_rfl)
theorem perm_c {a b r i d x : Addr × Obj} {S U : Ledger} : (a :: b :: r :: i :: d :: (S ++ (x :: U))).Perm ((a :: b :: d :: r :: S) ++ (i :: x :: U)) := by (refine List.perm_iff_count.mpr fun a0 => ?_; simp only [List.count_cons, List.count_append, List.cons_append, List.append_assoc]; ac_rfl)
theorem perm_d {R a b d r i x : Addr × Obj} {S U : Ledger} : (R :: ((a :: b :: d :: r :: S) ++ (i :: x :: U))).Perm ((a :: b :: d :: r :: S) ++ (R :: i :: x :: U)) := by (refine List.perm_iff_count.mpr fun a0 => ?_; simp only [List.count_cons, List.count_append, List.cons_append, List.append_assoc]; ac_rfl)
theorem perm_f {a b d r R i x : Addr × Obj} {S U : Ledger} : (a :: b :: d :: r :: (S ++ (R :: i :: x :: U))).Perm (x :: R :: i :: a :: b :: d :: r :: (S ++ U)) := by (refine List.perm_iff_count.mpr fun a0 => ?_; simp only [List.count_cons, List.count_append, List.cons_append, List.append_assoc]; ac_rfl)
theorem perm_g {t x R i a b d r : Addr × Obj} {S V B : Ledger} : (t :: x :: R :: i :: a :: b :: d :: r :: (S ++ (V ++ B))).Perm (i :: a :: b :: d :: r :: (S ++ (x :: (V ++ (t :: R :: B))))) := by (refine List.perm_iff_count.mpr fun a0 => ?_; simp only [List.count_cons, List.count_append, List.cons_append, List.append_assoc]; ac_rfl)
theorem perm_e {x a b d r : Addr × Obj} {S T : Ledger} : (x :: a :: b :: d :: r :: (S ++ T)).Perm (a :: b :: d :: r :: (S ++ (x :: T))) := by (refine List.perm_iff_count.mpr fun a0 => ?_; simp only [List.count_cons, List.count_append, List.cons_append, List.append_assoc]; ac_rfl)
end
theorem fin_sl {x a b d r c2 c1 h p : Addr × Obj} {S V R F : Ledger} : ((x :: (V ++ [h, p])) ++ (R ++ F)).Sublist (a :: b :: d :: r :: (S ++ (x :: (V ++ ([c2, c1, h, p] ++ (R ++ F)))))) := by
  refine .cons _ (.cons _ (.cons _ (.cons _ ?_)))
  refine List.Sublist.trans ?_ (List.sublist_append_right S _)
  rw [List.cons_append, List.append_assoc]
  exact .cons_cons _ (List.Sublist.append (List.Sublist.refl V) (.cons _ (.cons _ (List.Sublist.refl _))))
structure RS where
  V : List Nv
  r : List Int
  po : Int
  fi : Int
noncomputable def RS.act (st : RS) : Bool := decide (st.fi < st.po) || !st.r.isEmpty
noncomputable def RS.done (hs : List Int) (st : RS) : List Int := (st.r.filter fun x => !(hs.any (· == x)))
noncomputable def RS.mid (st : RS) : List Nv := st.r.foldl (setNp (-1)) st.V
noncomputable def rnext (hs : List Int) (st : RS) : RS := ⟨((st.done hs).foldl doneN (st.mid, [])).1, ((st.done hs).foldl doneN (st.mid, [])).2, st.po + st.r.length, st.fi + (st.done hs).length⟩
noncomputable def rat (hs : List Int) (st : RS) : Nat → RS
  | 0 => st
  | k + 1 => rnext hs (rat hs st k)
noncomputable def st0 (p q t : Int) : RS := ⟨addsV p q (t + 1).toNat, ((addsV p q (t + 1).toNat).filter fun e => e.np = 0).map (·.num), 0, 0⟩
structure RGood (hs : List Int) (st : RS) : Prop where
  sub : ∀ x ∈ st.r, x ∈ numsV st.V
  few : st.r.length ≤ 64
  ok : ∀ i n, (st.done hs)[i]? = some n → npOf (((st.done hs).take i).foldl doneN (st.mid, [])).1 n = -1
noncomputable def skelV (v : List Nv) : List (Int × List Int) := v.map fun e => (e.num, e.sn)
theorem skelV_upd {p : Int} {g : Nv → Nv} {v : List Nv} (h : ∀ e, (g e).num = e.num ∧ (g e).sn = e.sn) : skelV (updV p g v) = skelV v := by
  unfold skelV updV
  rw [List.map_map]
  refine List.map_congr_left fun e _ => ?_
  simp only [Function.comp]
  split
  · rw [(h e).1, (h e).2]
  · rfl
theorem skelV_setNp (c : Int) (ps : List Int) : ∀ v, skelV (ps.foldl (setNp c) v) = skelV v := by
  induction ps with
  | nil => intro v; rfl
  | cons a t ih => intro v; rw [List.foldl_cons, ih]; exact skelV_upd fun _ => ⟨rfl, rfl⟩
theorem skelV_decS (ss : List Int) : ∀ st : List Nv × List Int, skelV (ss.foldl decS st).1 = skelV st.1 := by
  induction ss with
  | nil => intro st; rfl
  | cons a t ih => intro st; rw [List.foldl_cons, ih]; exact skelV_upd fun _ => ⟨rfl, rfl⟩
theorem skelV_doneN (ss : List Int) : ∀ st : List Nv × List Int, skelV (ss.foldl doneN st).1 = skelV st.1 := by
  induction ss with
  | nil => intro st; rfl
  | cons a t ih =>
    intro st
    rw [List.foldl_cons, ih]
    unfold doneN
    rw [skelV_decS]
    exact skelV_upd fun _ => ⟨rfl, rfl⟩
theorem skelV_next (hs : List Int) (st : RS) : skelV (rnext hs st).V = skelV st.V := by
  unfold rnext RS.mid
  rw [skelV_doneN, skelV_setNp]
theorem skelV_rat (hs : List Int) (st : RS) (k : Nat) : skelV (rat hs st k).V = skelV st.V := by
  induction k with
  | zero => rfl
  | succ k ih => rw [rat, skelV_next, ih]
theorem numsV_skel {v u : List Nv} (h : skelV v = skelV u) : numsV v = numsV u := by
  have : ∀ v, numsV v = (skelV v).map (·.1) := fun v => by unfold numsV skelV; rw [List.map_map]; rfl
  rw [this, this, h]
theorem sn_skel {v u : List Nv} (h : skelV v = skelV u) (P : Int → List Int → Prop) (hu : ∀ e ∈ u, P e.num e.sn) : ∀ e ∈ v, P e.num e.sn := fun e he => by
  have : (e.num, e.sn) ∈ skelV u := by rw [← h]; exact List.mem_map_of_mem (f := fun e : Nv => (e.num, e.sn)) he
  obtain ⟨f, hf, e2⟩ := List.mem_map.mp this
  have e3 : f.num = e.num := (Prod.mk.inj e2).1
  have e4 : f.sn = e.sn := (Prod.mk.inj e2).2
  rw [← e3, ← e4]; exact hu f hf
theorem rdyOf_view (ns : List Nd) : rdyOf ns = ((view ns).filter fun e => e.np = 0).map (·.num) := by
  unfold rdyOf view
  rw [List.filter_map, List.map_map]; rfl
section
set_option hygiene false in
local macro_rules | `(tactic| walk_at "eval Call Attribute") => `(tactic| with_reducible refine stop_p9 ?_)
set_option hygiene false in
local macro_rules | `(tactic| walk_at "eval Call Attribute") => `(tactic| with_reducible refine stop_p10 ?_)
set_option hygiene false in
local macro_rules | `(tactic| walk_at "callWith ref") => `(tactic| with_reducible refine stop_p11 ?_)
set_option hygiene false in
local macro_rules | `(tactic| walk_at "callWith ref") => `(tactic| with_reducible refine stop_p12 ?_)
set_option hygiene false in
local macro_rules | `(tactic| walk_at "StarOf ref") => `(tactic| walk_at "st")
set_option hygiene false in
local macro_rules | `(tactic| walk_at "compareOp NotIn int ref") => `(tactic| walk_at "st")
set_option hygiene false in
local macro_rules | `(tactic| walk_at "And") => `(tactic| ((with_reducible show MethP _ _ _ _ _ ∧ _); refine stop_in ?_))
noncomputable def rfm (pa : Addr) (t : Value) (a rl k ac gr : Option Value) : Str → Option Value := fun y =>
  if y = Str.ofString "ports" then some (.ref pa) else if y = Str.ofString "top" then some t else if y = Str.ofString "sorter" then a else if y = Str.ofString "rounds" then rl else if y = Str.ofString "k" then k else if y = Str.ofString "active" then ac else if y = Str.ofString "group" then gr else none
theorem rfm_eq {m : Str → Option Value} {pa : Addr} {t : Value} {a rl k ac gr : Option Value} (h1 : m (Str.ofString "ports") = some (.ref pa)) (h2 : m (Str.ofString "top") = some t) (h3 : m (Str.ofString "sorter") = a) (h4 : m (Str.ofString "rounds") = rl) (h5 : m (Str.ofString "k") = k) (h6 : m (Str.ofString "active") = ac) (h7 : m (Str.ofString "group") = gr)
    (h : ∀ y, y ≠ Str.ofString "ports" → y ≠ Str.ofString "top" → y ≠ Str.ofString "sorter" → y ≠ Str.ofString "rounds" → y ≠ Str.ofString "k" → y ≠ Str.ofString "active" → y ≠ Str.ofString "group" → m y = none) : ∀ y, m y = rfm pa t a rl k ac gr y := by
  intro y
  unfold rfm
  by_cases q1 : y = Str.ofString "ports"
  · rw [if_pos q1, q1]; exact h1
  rw [if_neg q1]
  by_cases q2 : y = Str.ofString "top"
  · rw [if_pos q2, q2]; exact h2
  rw [if_neg q2]
  by_cases q3 : y = Str.ofString "sorter"
  · rw [if_pos q3, q3]; exact h3
  rw [if_neg q3]
  by_cases q4 : y = Str.ofString "rounds"
  · rw [if_pos q4, q4]; exact h4
  rw [if_neg q4]
  by_cases q5 : y = Str.ofString "k"
  · rw [if_pos q5, q5]; exact h5
  rw [if_neg q5]
  by_cases q6 : y = Str.ofString "active"
  · rw [if_pos q6, q6]; exact h6
  rw [if_neg q6]
  by_cases q7 : y = Str.ofString "group"
  · rw [if_pos q7, q7]; exact h7
  rw [if_neg q7]
  exact h y q1 q2 q3 q4 q5 q6 q7
theorem rfm_none {pa : Addr} {t : Value} {a rl k ac gr : Option Value} (y : Str) (a1 : y ≠ Str.ofString "ports") (a2 : y ≠ Str.ofString "top") (a3 : y ≠ Str.ofString "sorter") (a4 : y ≠ Str.ofString "rounds") (a5 : y ≠ Str.ofString "k") (a6 : y ≠ Str.ofString "active") (a7 : y ≠ Str.ofString "group") : rfm pa t a rl k ac gr y = none := by
  simp only [rfm, if_neg a1, if_neg a2, if_neg a3, if_neg a4, if_neg a5, if_neg a6, if_neg a7]
/-- a round: its tuple, its group -/
structure Rd where
  t : Addr
  g : Addr
  b : Bool
  gvs : List Value
  gs : List Int
noncomputable def Rd.led (r : Rd) : Ledger := [(r.t, { cls := .type "tuple", data := .seq [.bool r.b, .ref r.g].toArray }), (r.g, { cls := .type "tuple", data := .seq r.gvs.toArray })]
/-- what holds between the rounds -/
inductive RndJ (w : World) (a ad d ra rl : Addr) (t1 t2 t3 t4 : Tok) (o : Obj) (hs : List Int) (s0 : RS) (ns : List Nd) (pa : Addr) (t : Value) (I : Addr) (back rest frs : Ledger) (l : List Env) (i : Nat) : (Str → Option Value) → Ledger → Prop
  | mk (ns' : List Nd) (rvs : List Value) (nr : Nat) (rds : List Rd) (n : Nat) (tp tf : Tok) (frs' : Ledger) (k ac gr : Option Value) (_ : view ns' = (rat hs s0 i).V) (_ : IntsAre rvs (rat hs s0 i).r) (_ : rds.map (fun r : Rd => (r.b, r.gs)) = (List.range i).map (fun k => ((rat hs s0 k).act, (rat hs s0 k).r))) (_ : ∀ r ∈ rds, IntsAre r.gvs r.gs)
    (_ : kvsOf ns' = kvsOf ns) (_ : WF ns') (_ : TI.SameUp frs frs') (_ : TI.Frs l frs') (_ : (I :: (((a, instObj 188 ad) :: (ad, sdict w t1 t2 t3 t4 d (.ref ra) (.int (rat hs s0 i).po tp) (.int (rat hs s0 i).fi tf)) :: (d, o) :: (ra, listOf rvs.toArray nr) :: (sled ns' ++ ((rl, listOf (Value.none :: rds.map fun r => .ref r.t).toArray n) :: (rds.flatMap Rd.led ++ (back ++ (rest ++ frs')))))) : Ledger).map (·.1)).Nodup) :
    RndJ w a ad d ra rl t1 t2 t3 t4 o hs s0 ns pa t I back rest frs l i (rfm pa t (some (.ref a)) (some (.ref rl)) k ac gr) ((a, instObj 188 ad) :: (ad, sdict w t1 t2 t3 t4 d (.ref ra) (.int (rat hs s0 i).po tp) (.int (rat hs s0 i).fi tf)) :: (d, o) :: (ra, listOf rvs.toArray nr) :: (sled ns' ++ ((rl, listOf (Value.none :: rds.map fun r => .ref r.t).toArray n) :: (rds.flatMap Rd.led ++ (back ++ (rest ++ frs'))))))
/-- what _law_rounds hands back -/
inductive RndPost (K : Nat) (hs : List Int) (s0 : RS) (pre : Ledger) : Value → Ledger → Prop
  | mk (rl : Addr) (rds : List Rd) (n : Nat) (_ : rds.map (fun r : Rd => (r.b, r.gs)) = (List.range K).map (fun k => ((rat hs s0 k).act, (rat hs s0 k).r))) (_ : ∀ r ∈ rds, IntsAre r.gvs r.gs) :
    RndPost K hs s0 pre (.ref rl) ((rl, listOf (Value.none :: rds.map fun r => .ref r.t).toArray n) :: (rds.flatMap Rd.led ++ pre))
theorem rounds_con (w : World) (ha pa : Addr) (hvs pvs : List Value) (hs : List Int) (p q t : Int) (nh np : Nat) (tt : Tok) (hH : IntsAre hvs hs) (hP : IntsAre pvs [p, q]) (hp0 : 0 < p) (hq0 : 0 < q) (hp1 : p < 10) (hq1 : q < 10) (ht : 0 ≤ t) (ht1 : t < 50) (hhl : hs.length < 64) (hg : ∀ k, k < (t.fdiv (min p q) + 2).toNat → RGood hs (rat hs (st0 p q t) k)) :
    ConR w (.ref 211) [.ref ha, .ref pa, .int t tt] 8 [(ha, listOf hvs.toArray nh), (pa, listOf pvs.toArray np)] (RndPost (t.fdiv (min p q) + 2).toNat hs (st0 p q t) [(ha, listOf hvs.toArray nh), (pa, listOf pvs.toArray np)]) := by
  intro p' loose mean mg mb h₀ A l frs rest s R G Fs S ret
  have X := G.X
  have hnd : A.handled = none := G.hn
  have T := G.T
  have kf : (Mine.hd.heap_39 w.params).In h₀ ∧ PySem.Challenge.rw_oy0269_01.row.prog = PySem.Challenge.rw_oy0269_01.row.prog := (by k_fill; exact ⟨X, rfl⟩)
  clear kf
  have nd := S.nd
  k_dflt (refine' enterC G S ?ho ?hcd ?hb ?hl ?hn ?_ ?c1 ?c2 ?c3; (case ho => k_is); (case hcd => k_is); (case hb => exact BindsTo.of_eq rfl); (case hl => (intro n x hx; change x ∈ [(Str.ofString "held", Value.ref ha), (Str.ofString "ports", Value.ref pa), (Str.ofString "top", Value.int t tt)] at hx; simp only [List.mem_cons, List.not_mem_nil, or_false] at hx; rcases hx with rfl | rfl | rfl; exact .inr ⟨rfl, rfl⟩; exact .inl rfl; exact .inl rfl)); (case hn => decide); (case c1 => exact rfl); (case c2 => exact rfl); (case c3 => exact rfl))
  intro h₁ tk0 cells F N Y lt1 zP0 zE0 zK0 zO0
  change CellsAre _ [(Str.ofString "number", s.heap.objs.size + 1 + 1), (Str.ofString "held", s.heap.objs.size + 1)] cells at Y
  obtain ⟨on, oh, rfl, hon, hoh⟩ := CellsAre.two Y
  change on.data = .cell none at hon
  change oh.data = .cell (some (.ref ha)) at hoh
  clear Y
  dsimp only [List.cons_append, List.nil_append] at N lt1 nd
  have nd1 := nodup_ne (d := s.heap.objs.size + 1) (o := oh) (fun p hp => Nat.ne_of_lt (Nat.lt_succ_of_lt (lt1 p hp))) nd
  have nd2 := nodup_ne (d := s.heap.objs.size + 1 + 1) (o := on) (all_cons (p := (s.heap.objs.size + 1, oh)) (P := fun p => p.1 ≠ s.heap.objs.size + 1 + 1) (Nat.ne_of_lt (Nat.lt_succ_self _)) (fun p hp => Nat.ne_of_lt (Nat.lt_succ_of_lt (Nat.lt_succ_of_lt (lt1 p hp))))) nd1
  have F0 : Fr h₀ s.heap.objs.size h₁ (rfm pa (.int t tt) none none none none none) := fr_congr F (rfm_eq rfl rfl rfl rfl rfl rfl rfl (fun y a1 a2 a3 a4 a5 a6 a7 => by
    change (if y = Str.ofString "top" then _ else if y = Str.ofString "ports" then _ else none) = none
    rw [if_neg a2, if_neg a1]))
  clear F
  k_steps
  refine stop_out ?_
  refine' call_cls F0 X N ?k4 ?k5 ?k6 ?_
  case k4 => k_is
  case k5 => k_is
  case k6 => k_is
  intro a ad h2 F2 N2 l1 l2
  refine use_init (rest := (s.heap.objs.size + 1 + 1, on) :: (s.heap.objs.size + 1, oh) :: (ha, listOf hvs.toArray nh) :: (pa, listOf pvs.toArray np) :: rest) (frs := frs) (pre := []) (tsinit_con w a ad) ((G.deeper _).le (by decide)) (by intro h; cases h) rfl Fs F2 N2 (by intro p hp; exact hp) ?_ ?_ (fun r new h => by cases h; rfl)
  · refine nodup_lt (o := instObj 188 ad) ?_ (nodup_lt (o := dictOf [] 0) l1 nd2)
    exact all_cons l2 (fun p hp => Nat.lt_trans (l1 p hp) l2)
  rintro h3 tk3 new frs3 SU3 Fs3 F3 N3 nd3 ⟨t1, t2, t3, t4, tp, tf, d, lo, o, hi⟩
  dsimp only
  dsimp only [List.cons_append, List.nil_append] at N3 nd3
  clear N F0 F2 N2
  k_steps
  refine stop_out ?_
  rename IsRange _ _ _ _ _ _ _ _ => hR1
  rename_i h5 _ _ _ _ F4 N4 _
  have N5 := News.perm N4 perm_a
  have nd5 := nodup_lt (o := on) (lt_new N5) (nd_perm nd3 perm_a)
  have nd6 := nd_perm nd5 (List.perm_middle (l₁ := [(h5.objs.size, on)]) (a := (s.heap.objs.size + 1 + 1, on)))
  refine for_rangeC (L := s.heap.objs.size) (c := s.heap.objs.size + 1 + 1) (news₀ := (a, instObj 188 ad) :: (ad, sdict w t1 t2 t3 t4 d .none (.int 0 tp) (.int 0 tf)) :: (d, o) :: (s.heap.objs.size + 1, oh) :: (ha, listOf hvs.toArray nh) :: (pa, listOf pvs.toArray np) :: (rest ++ frs3))
    (AddsJ w a ad d t1 t2 t3 t4 tp tf p q (s.heap.objs.size + 1 + 1) h5.objs.size [(s.heap.objs.size + 1, oh), (ha, listOf hvs.toArray nh), (pa, listOf pvs.toArray np)] rest frs l (rfm pa (.int t tt) (some (.ref a)) none none none none))
    hnd rfl (m₀ := rfm pa (.int t tt) (some (.ref a)) none none none none) ?_ N5 hon hR1 (by omega) ?_ ?_ rfl rfl rfl (by passes_own) ?_ ?_
  · refine fr_congr F4 (rfm_eq rfl rfl rfl rfl rfl rfl rfl ?_); (intro y a1 a2 a3 a4 a5 a6 a7; (try simp only [if_neg a1, if_neg a2, if_neg a3, if_neg a4, if_neg a5, if_neg a6, if_neg a7]); exact rfm_none y a1 a2 a3 a4 a5 a6 a7)
  · exact .mk [] o frs3 rfl hi ⟨List.nodup_nil, by simp, by simp, by simp⟩ SU3 Fs3 nd5
  · rintro i m news ⟨_, _, _, _, _, _, _, _, hndJ⟩ p hp
    obtain ⟨h1, h2⟩ := List.nodup_cons.mp hndJ
    obtain ⟨h3, h4⟩ := List.nodup_cons.mp h2
    exact ⟨fun e => h1 (.tail _ (by rw [← e]; exact List.mem_map_of_mem hp)), fun e => h3 (by rw [← e]; exact List.mem_map_of_mem hp)⟩
  · rintro i tv m news oI oc h6 tk6 I hI hi6 ⟨ns, o6, frs6, j1, j2, j3, j4, j5, hndJ⟩ hoc F6 N6 zP1 zK1
    clear F4 N4 N5
    dsimp only [List.cons_append, List.nil_append] at N6
    k_steps
    refine stop_out ?_; refine MethodCall_star ?_; k_steps
    refine stop_out ?_; k_dflt (refine' callWith_MS2 (by k_asm) (by k_mem) (by k_asm) (by k_is) ?_; k_whole); k_steps
    refine stop_out (comp_q (cl := [(Str.ofString "number", s.heap.objs.size + 1 + 1)]) (intP fun x => decide (x ≤ (i : Int))) (intF fun x => (i : Int) - x) ?_ (by decide) rfl (by decide) rfl ?_)
    · with_unfolding_all rfl
    k_steps
    rename_i M h7 F7 N7 l7
    have hpl : pvs.length ≤ sizeLine := by rw [hP.length, sizeLine_eq]; simp
    refine stop_out (comp_seq (vs := pvs) (k := np) (T := "list") hnd F7 N7 (by simp) (.inl rfl) hpl ?_ ?_ ?_)
    · intro C j v s₃ m₃ E' hv F3 hm3 N3
      obtain ⟨x, tx, rfl, hx⟩ := hP.at j v hv
      have N8 : News h₀ C s₃.heap [(s.heap.objs.size + 1 + 1, oc)] := fun p hp => N3 p (by rw [List.mem_singleton.mp hp]; simp)
      clear N3 N7 F7
      refine wpAny_tests_one ?_
      k_steps
      exact ⟨_, _, rfl, fun _ _ e => e⟩
    · intro C j v s₃ m₃ E' hv hpv F3 hm3 N3
      obtain ⟨x, tx, rfl, hx⟩ := hP.at j v hv
      have N8 : News h₀ C s₃.heap [(s.heap.objs.size + 1 + 1, oc)] := fun p hp => N3 p (by rw [List.mem_singleton.mp hp]; simp)
      clear N3 N7 F7
      k_steps
      · exact ⟨_, _, _, rfl, rfl⟩
      · exact ⟨_, _, rfl, fun _ _ e => e⟩
    · intro D h8 tk8 ys nD F8 N8 hne8 hPs
      have hY : IntsAre ys.toList (preds p q i) := paired_ints hP _ _ hPs
      have hyl : ys.size ≤ sizeLine := by
        have h1 := hY.length
        have h2 := preds_len p q i
        rw [sizeLine_eq]
        have h3 : ys.toList.length = ys.size := by simp
        exact lin [_, _, _, _] [] [(1, (.n (.v 2) (.v 3))), (1, (.n (.v 3) (.k 2))), (1, (.n (.v 0) (.v 2))), (1, (.n (.k 2000) (.v 1)))] 1 (.n (.v 0) (.v 1)) rfl (eq_a h1) h2 (eq_b h3) (Nat.le_of_ble_eq_true rfl : 2000 ≤ 16777216)
      clear N7 F7
      k_steps
      refine stop_out ?_; k_dflt (refine' star_seq (by k_asm) (by k_asm) (by k_mem) (by exact rfl) (by exact rfl) (by first | exact .inl rfl | exact .inr rfl) (by exact rfl) (by assumption) ?_; k_whole); intro h9 F9 N9; (try k_sweep); k_steps
      refine stop_out ?_; refine And.intro (by k_dflt (refine' methP (by k_asm) (by exact List.mem_cons_of_mem _ (List.mem_cons_self)) (by k_in))) ?_; k_steps
      refine stop_out ?_
      rw [List.append_nil]
      have hnu : nums ns = (List.range i).map fun (k : Nat) => (k : Int) := by rw [nums_view, j1, numsV_adds]
      have hnl : ns.length = i := by
        have := congrArg List.length hnu
        simpa [nums] using this
      have hsn : ∀ e ∈ ns, SnOk (2 * i) i e.view := fun e he => snOk_adds hp0 hq0 i e.view (by rw [← j1]; exact List.mem_map_of_mem he)
      have hi7 : i < 51 := by exact lin [_, _] [_] [(1, (.i (.a (.v 0) (.k 1)) (.k 50))), (1, (.n (.a (.v 0) (.k 1)) (.v 1))), (1, (.i (.n (.v 1)) (.a (.v 0) (.k 1))))] 1 (.n (.a (.v 0) (.k 1)) (.k 51)) rfl (lt_i ht1) hi6 (tn_b (lin [] [_] [(1, (.i (.k 0) (.v 0)))] 1 (.i (.k 0) (.a (.v 0) (.k 1))) rfl ht))
      have nd7 : (List.map (·.1) ((I, oI) :: (s.heap.objs.size + 1 + 1, oc) :: (a, instObj 188 ad) :: (ad, sdict w t1 t2 t3 t4 d .none (.int 0 tp) (.int 0 tf)) :: (d, o6) :: (sled ns ++ ([(s.heap.objs.size + 1, oh), (ha, listOf hvs.toArray nh), (pa, listOf pvs.toArray np)] ++ (rest ++ frs6))))).Nodup := by
        rw [hI]; exact hndJ
      have P7 := List.perm_append_comm_assoc ((a, instObj 188 ad) :: (ad, sdict w t1 t2 t3 t4 d .none (.int 0 tp) (.int 0 tf)) :: (d, o6) :: sled ns) [(I, oI), (s.heap.objs.size + 1 + 1, oc)] ([(s.heap.objs.size + 1, oh), (ha, listOf hvs.toArray nh), (pa, listOf pvs.toArray np)] ++ (rest ++ frs6))
      refine use_meth (rest := (I, oI) :: (s.heap.objs.size + 1 + 1, oc) :: ([(s.heap.objs.size + 1, oh), (ha, listOf hvs.toArray nh), (pa, listOf pvs.toArray np)] ++ rest)) (frs := frs6) (add_con w a ad d t1 t2 t3 t4 (.int 0 tp) (.int 0 tf) o6 ns i tv ys.toList (preds p q i) hY j2 lo j3 ?_ ?_ ?_ ?_ ?_) ((G.deeper _).le (by decide)) (by intro h; cases h) rfl j5 F9 N9 (.tail _ (.head _)) ?_ ?_ ?_
      · rw [hnu]
        intro hm
        obtain ⟨k, hk, e⟩ := List.mem_map.mp hm
        have := List.mem_range.mp hk
        omega
      · intro x hx
        have := preds_mem hp0 hq0 hx
        rw [hnu]
        exact List.mem_map.mpr ⟨x.toNat, List.mem_range.mpr (by exact lin [_, _] [_] [(1, (.i (.a (.v 0) (.k 1)) (.n (.v 1)))), (1, (.i (.n (.v 0)) (.v 0)))] 1 (.n (.a (.v 0) (.k 1)) (.v 1)) rfl (lt_i (this.2)) (tn_b ((this.1)))), by exact go_eqi ((tn_b ((this.1)))) ((tn_a _))⟩
      · rw [hnl]; exact lin [_] [] [(1, (.n (.a (.v 0) (.k 1)) (.k 51)))] 1 (.n (.a (.v 0) (.k 1)) (.k 64)) rfl hi7
      · have := preds_len p q i
        exact lin [_] [] [(1, (.n (.v 0) (.k 2)))] 1 (.n (.a (.v 0) (.k 1)) (.k 10)) rfl this
      · intro e he
        have := (hsn e he).1
        show e.view.sn.length ≤ 990
        exact lin [_, _] [] [(2, (.n (.a (.v 1) (.k 1)) (.k 51))), (1, (.n (.v 0) (.m 2 (.v 1))))] 1 (.n (.v 0) (.k 990)) rfl hi7 this
      · intro p hp
        exact List.mem_cons_of_mem _ (List.mem_cons_of_mem _ (P7.mem_iff.mp hp))
      · exact nd_perm nd7 P7.symm
      · rintro r h10 tk10 new frs10 SU10 Fs10 F10 N10 nd10 ⟨ns', o', k1, k2, k3⟩
        clear N9 F9
        have P10 := List.perm_append_comm_assoc ((a, instObj 188 ad) :: (ad, sdict w t1 t2 t3 t4 d .none (.int 0 tp) (.int 0 tf)) :: (d, o') :: sled ns') [(I, oI), (s.heap.objs.size + 1 + 1, oc)] ([(s.heap.objs.size + 1, oh), (ha, listOf hvs.toArray nh), (pa, listOf pvs.toArray np)] ++ (rest ++ frs10))
        have N11 := News.perm N10 P10
        have nd11 := nd_perm nd10 P10
        k_steps
        refine for_nx zK1 F10 N11 (.mk oc _ _ hoc (.mk ns' o' frs10 ?_ k2 k3 (j4.trans SU10) Fs10 ?_))
        · rw [k1, j1, addsV_succ]
        · have := nd11
          rw [hI] at this
          exact this
  · rintro m news oc v' h6 tk6 ⟨ns, o6, frs6, j1, j2, j3, j4, j5, hndJ⟩ hoc F6 N6
    clear F4 N4 N5
    dsimp only [List.cons_append, List.nil_append] at N6
    have hnu : nums ns = (List.range (t + 1).toNat).map fun (k : Nat) => (k : Int) := by rw [nums_view, j1, numsV_adds]
    have hsn : ∀ e ∈ ns, SnOk (2 * (t + 1).toNat) (t + 1).toNat e.view := fun e he => snOk_adds hp0 hq0 _ e.view (by rw [← j1]; exact List.mem_map_of_mem he)
    have hss : ∀ e ∈ ns, ∀ x ∈ e.sn, x ∈ nums ns := fun e he x hx => by
      have h1 := (hsn e he).2 x hx
      have h2 : e.num ∈ nums ns := List.mem_map_of_mem he
      rw [hnu] at h2 ⊢
      obtain ⟨k, hk, e1⟩ := List.mem_map.mp h2
      exact List.mem_map.mpr ⟨x.toNat, List.mem_range.mpr (by have := h1.1; have e2 : e.view.num = e.num := rfl; exact lin [_, _] [_] [(1, (.i (.a (.v 0) (.k 1)) (.n (.v 1)))), (1, (.i (.n (.v 0)) (.v 0)))] 1 (.n (.a (.v 0) (.k 1)) (.v 1)) rfl (lt_i (h1.2)) (tn_b (lin [_] [_, _, _] [(1, (.i (.a (.v 1) (.k 1)) (.v 0))), (1, (.i (.n (.v 0)) (.v 2))), (1, (.i (.v 2) (.v 1)))] 1 (.i (.k 0) (.v 0)) rfl (lt_i (h1.1)) (eqi_a e1) (eqi_b e2)))), by have := h1.1; have e2 : e.view.num = e.num := rfl; exact go_eqi ((tn_b (lin [_] [_, _, _] [(1, (.i (.a (.v 1) (.k 1)) (.v 0))), (1, (.i (.n (.v 0)) (.v 2))), (1, (.i (.v 2) (.v 1)))] 1 (.i (.k 0) (.v 0)) rfl (lt_i (h1.1)) (eqi_a e1) (eqi_b e2)))) ((tn_a _))⟩
    have hup : ∀ e ∈ ns, ∀ x ∈ e.sn, e.num < x := fun e he x hx => ((hsn e he).2 x hx).1
    k_steps
    refine stop_out ?_
    have nd7 : (List.map (·.1) ((s.heap.objs.size + 1 + 1, oc) :: (a, instObj 188 ad) :: (ad, sdict w t1 t2 t3 t4 d .none (.int 0 tp) (.int 0 tf)) :: (d, o6) :: (sled ns ++ ([(s.heap.objs.size + 1, oh), (ha, listOf hvs.toArray nh), (pa, listOf pvs.toArray np)] ++ (rest ++ frs6))))).Nodup := (List.nodup_cons.mp hndJ).2
    have P7 := List.perm_append_comm_assoc ((a, instObj 188 ad) :: (ad, sdict w t1 t2 t3 t4 d .none (.int 0 tp) (.int 0 tf)) :: (d, o6) :: sled ns) [(s.heap.objs.size + 1 + 1, oc)] ([(s.heap.objs.size + 1, oh), (ha, listOf hvs.toArray nh), (pa, listOf pvs.toArray np)] ++ (rest ++ frs6))
    rename News _ _ _ _ => N7
    rename Fr _ _ _ _ => F7
    refine use_con (rest := (s.heap.objs.size + 1 + 1, oc) :: ([(s.heap.objs.size + 1, oh), (ha, listOf hvs.toArray nh), (pa, listOf pvs.toArray np)] ++ rest)) (frs := frs6) (prep_con w a ad d t1 t2 t3 t4 (.int 0 tp) (.int 0 tf) o6 ns j2 lo j3 hss hup).con ((G.deeper _).le (by decide)) (by intro h; cases h) rfl j5 F7 N7 (fun p hp => P7.mem_iff.mp hp) (nd_perm nd7 P7.symm) ?_
    rintro r h8 tk8 new frs8 SU8 Fs8 F8 N8 nd8 ⟨rfl, ra, rvs, nr, hrv, rfl⟩
    clear N7 F7 P7
    dsimp only [List.cons_append, List.nil_append] at N8 nd8
    generalize hmn : min p q = mn at *
    have hmn0 : 0 < mn := by omega
    k_steps
    rename_i rl h9 lrl h10 F9 N9
    have lt8 : ∀ p ∈ (a, instObj 188 ad) :: (ad, sdict w t1 t2 t3 t4 d (.ref ra) (.int 0 tp) (.int 0 tf)) :: (d, o6) :: (ra, listOf rvs.toArray nr) :: (sled ns ++ ((s.heap.objs.size + 1 + 1, oc) :: (s.heap.objs.size + 1, oh) :: (ha, listOf hvs.toArray nh) :: (pa, listOf pvs.toArray np) :: (rest ++ frs8))), p.1 < rl := all_cons lrl.1 (all_cons lrl.2.1 (all_cons lrl.2.2.1 (all_cons lrl.2.2.2.1 (allLt_mem lrl.2.2.2.2))))
    have nd9 := nodup_lt (o := listOf #[.none] 0) lt8 nd8
    refine stop_out (min_led hnd F9 N9 (l := pa) (n := np) (by simp) hP ?_)
    intro h11 tmn tk11 F11 N11 _
    clear F9 N9 lrl
    rw [hmn]
    k_steps
    rename IsRange _ _ _ _ _ _ _ _ => hR2
    rename_i h12 _ _ _ _ F12 N12 _
    refine stop_out ?_
    have hdv := fdiv_bounds ht hmn0
    have N13 := News.perm N12 perm_e
    have nd13 := nodup_lt (o := on) (lt_new N13) (nd_perm nd9 perm_e)
    refine for_range0 (L := s.heap.objs.size) (RndJ w a ad d ra rl t1 t2 t3 t4 o6 hs (st0 p q t) ns pa (.int t tt) h12.objs.size [(s.heap.objs.size + 1 + 1, oc), (s.heap.objs.size + 1, oh), (ha, listOf hvs.toArray nh), (pa, listOf pvs.toArray np)] rest frs l)
      (m₀ := rfm pa (.int t tt) (some (.ref a)) (some (.ref rl)) none none none) hnd rfl ?_ N13 hR2 (by omega) ?_ ?_ rfl rfl (by passes_own) ?_ ?_
    · refine fr_congr F12 (rfm_eq rfl rfl rfl rfl rfl rfl rfl ?_); (intro y a1 a2 a3 a4 a5 a6 a7; (try simp only [if_neg a1, if_neg a2, if_neg a3, if_neg a4, if_neg a5, if_neg a6, if_neg a7]); exact rfm_none y a1 a2 a3 a4 a5 a6 a7)
    · rw [rdyOf_view, j1] at hrv
      exact .mk ns rvs nr [] 0 tp tf frs8 none none none j1 hrv rfl (by simp) rfl j3 (j4.trans SU8) Fs8 nd13
    · rintro i m news ⟨_, _, _, _, _, _, _, _, _, _, _, _, _, _, _, _, _, _, _, hndJ2⟩ p hp e
      exact (List.nodup_cons.mp hndJ2).1 (by rw [← e]; exact List.mem_map_of_mem hp)
    · rintro i tv m news oI h tk I hI hi ⟨ns', rvs', nr', rds, n', tp', tf', frs9, k0, ac0, gr0, q1, q2, q3, q4, q5, q6, q7, q8, hndJ2⟩ F14 N14 zP2 zK2
      have hgi := hg i hi
      clear F12 N12 N13
      generalize hst : rat hs (st0 p q t) i = st at *
      obtain ⟨g1, g2, g3⟩ := hgi
      dsimp only [List.cons_append, List.nil_append] at N14
      generalize hY : rds.flatMap Rd.led ++ ((s.heap.objs.size + 1 + 1, oc) :: (s.heap.objs.size + 1, oh) :: (ha, listOf hvs.toArray nh) :: (pa, listOf pvs.toArray np) :: rest) = Y
      have eY : ∀ fr : Ledger, rds.flatMap Rd.led ++ ((s.heap.objs.size + 1 + 1, oc) :: (s.heap.objs.size + 1, oh) :: (ha, listOf hvs.toArray nh) :: (pa, listOf pvs.toArray np) :: (rest ++ fr)) = Y ++ fr := fun fr => by rw [← hY]; simp
      rw [eY] at N14
      have hRLl : (Value.none :: rds.map fun r => Value.ref r.t).length = i + 1 := by
        have := congrArg List.length q3
        simp at this
        simp [this]
      have ndW : (List.map (·.1) ((I, oI) :: (a, instObj 188 ad) :: (ad, sdict w t1 t2 t3 t4 d (.ref ra) (.int st.po tp') (.int st.fi tf')) :: (d, o6) :: (ra, listOf rvs'.toArray nr') :: (sled ns' ++ ((rl, listOf (Value.none :: rds.map fun r => .ref r.t).toArray n') :: (Y ++ frs9))))).Nodup := by
        rw [hI, ← eY]; exact hndJ2
      have hmY : (s.heap.objs.size + 1, oh) ∈ Y ∧ (ha, listOf hvs.toArray nh) ∈ Y := by rw [← hY]; simp
      have hnn : nums ns' = numsV st.V := by rw [nums_view, q1]
      have hrl : rvs'.length = st.r.length := q2.length
      k_steps
      refine stop_out ?_
      rename Fr _ _ _ _ => F15
      rename News _ _ _ _ => N15
      refine use_con (rest := (I, oI) :: (d, o6) :: (sled ns' ++ ((rl, listOf (Value.none :: rds.map fun r => .ref r.t).toArray n') :: Y))) (frs := frs9) (act_con w a ad d ra t1 t2 t3 t4 st.po st.fi tp' tf' rvs' nr' (by simp only [List.size_toArray]; omega)).con ((G.deeper _).le (by decide)) (by intro h; cases h) rfl q8 F15 N15 ?_ ?_ ?_
      · intro p hp
        refine perm_b.mem_iff.mpr ?_
        simpa only [List.append_assoc, List.cons_append, List.nil_append] using hp
      · have := nd_perm ndW perm_b
        simpa only [List.append_assoc, List.cons_append, List.nil_append] using this
      rintro r16 h16 tk16 new frs16 SU16 Fs16 F16 N16 nd16 ⟨rfl, rfl⟩
      clear N15 F15
      simp only [List.append_assoc, List.cons_append, List.nil_append] at N16 nd16
      k_steps
      refine stop_out ?_
      rename Fr _ _ _ _ => F17
      rename News _ _ _ _ => N17
      have hkn : nums ns' = nums ns := by rw [← kvs_keys, ← kvs_keys, q5]
      refine use_con (rest := (I, oI) :: (rl, listOf (Value.none :: rds.map fun r => .ref r.t).toArray n') :: Y) (frs := frs16) (ready_con w a ad d ra t1 t2 t3 t4 st.po st.fi tp' tf' o6 ns' rvs' st.r nr' q2 (by rw [q5]; exact j2) lo q6 (by rw [hnn]; exact g1) g2).con ((G.deeper _).le (by decide)) (by intro h; cases h) rfl Fs16 F17 N17 (fun p hp => perm_c.mem_iff.mpr (by simpa only [List.append_assoc, List.cons_append] using hp)) (nd_perm nd16 perm_c) ?_
      rintro r18 h18 tk18 new frs18 SU18 Fs18 F18 N18 nd18 ⟨Rr, ns2, tp2, nr2, v1, v2, v3⟩
      clear N17 F17
      have hkn2 : nums ns2 = nums ns := by rw [← kvs_keys, v2, kvs_keys, hkn]
      have hmid : view ns2 = st.mid := by rw [v1, q1]; rfl
      simp only [List.append_assoc, List.cons_append, List.nil_append] at N18 nd18
      k_steps
      refine stop_out ?_; refine MethodCall_star ?_; k_steps
      refine stop_out ?_; k_dflt (refine' callWith_MS (by k_asm) (by k_mem) (by k_asm) (by k_is) ?_; k_whole); k_steps
      refine stop_out (comp_q (cl := [(Str.ofString "held", s.heap.objs.size + 1)]) (intP fun x => !(hs.any (· == x))) (intF fun x => x) ?_ (by decide) rfl (by decide) rfl ?_)
      · with_unfolding_all rfl
      k_steps
      rename_i M h19 F19 N19 l19
      have hpl : rvs'.length ≤ sizeLine := by rw [hrl, sizeLine_eq]; exact lin [_, _] [] [(1, (.n (.v 0) (.k 64))), (1, (.n (.k 2000) (.v 1)))] 1 (.n (.v 0) (.v 1)) rfl g2 (Nat.le_of_ble_eq_true rfl : 2000 ≤ 16777216)
      refine stop_out (comp_seq (vs := rvs') (k := 0) (T := "tuple") hnd F19 N19 (.tail _ (.head _)) (.inr rfl) hpl ?_ ?_ ?_)
      · intro C j v s₃ m₃ E' hv F3 hm3 N3
        obtain ⟨x, tx, rfl, hx⟩ := q2.at j v hv
        have N8 : News h₀ C s₃.heap [(s.heap.objs.size + 1, oh), (ha, listOf hvs.toArray nh)] := fun p hp => N3 p (by
          rcases List.mem_cons.mp hp with rfl | hp
          · simp [hmY.1]
          · rw [List.mem_singleton.mp hp]; simp [hmY.2])
        clear N3 N19 F19
        refine wpAny_tests_one ?_
        k_steps
        refine stop_out ?_; k_dflt (refine' notin_list_ints (by is_list) (by assumption) ?_); k_steps
        exact ⟨_, _, rfl, fun _ _ e => e⟩
      · intro C j v s₃ m₃ E' hv hpv F3 hm3 N3
        obtain ⟨x, tx, rfl, hx⟩ := q2.at j v hv
        clear N3 N19 F19
        k_steps
        · exact ⟨_, _, _, rfl, rfl⟩
        · exact ⟨_, _, rfl, fun _ _ e => e⟩
      · intro D h20 tk20 ys nD F20 N20 hne20 hPs
        have hYs : IntsAre ys.toList (st.done hs) := by
          have := paired_ints q2 _ _ hPs
          rw [List.map_id'] at this
          exact this
        have hdl : (st.done hs).length ≤ 64 := Nat.le_trans (List.length_filter_le _ _) g2
        have hyl : ys.size ≤ sizeLine := by
          have h1 := hYs.length
          rw [sizeLine_eq]
          have h3 : ys.toList.length = ys.size := by simp
          exact lin [_, _, _, _] [] [(1, (.n (.v 2) (.k 64))), (1, (.n (.v 3) (.v 2))), (1, (.n (.v 0) (.v 3))), (1, (.n (.k 2000) (.v 1)))] 1 (.n (.v 0) (.v 1)) rfl hdl (eq_a h1) (eq_b h3) (Nat.le_of_ble_eq_true rfl : 2000 ≤ 16777216)
        clear N19 F19
        k_steps
        refine stop_out ?_; k_dflt (refine' star_seq (by k_asm) (by k_asm) (by k_mem) (by exact rfl) (by exact rfl) (by first | exact .inl rfl | exact .inr rfl) (by exact rfl) (by assumption) ?_; k_whole); intro h21 F21 N21; (try k_sweep); k_steps
        refine stop_out ?_; refine And.intro (by k_dflt (refine' methP (by k_asm) (by exact List.mem_cons_of_mem _ (List.mem_cons_self)) (by k_in))) ?_; k_steps
        refine stop_out ?_
        have hskV : skelV st.mid = skelV (view ns) := by
          show skelV (st.r.foldl (setNp (-1)) st.V) = _
          rw [skelV_setNp, ← hst, skelV_rat, j1]; rfl
        refine use_meth (rest := (Rr, { cls := .type "tuple", data := .seq rvs'.toArray }) :: (I, oI) :: (rl, listOf (Value.none :: rds.map fun r => .ref r.t).toArray n') :: Y) (frs := frs18) (done_con w a ad d ra t1 t2 t3 t4 (.int (st.po + st.r.length) tp2) st.fi tf' o6 ns2 [] ys.toList [] (st.done hs) nr2 .nil hYs (by rw [v2, q5]; exact j2) lo v3 ?_ ?_ (by simp) hdl ?_) ((G.deeper _).le (by decide)) (by intro h; cases h) rfl Fs18 F21 N21 (.tail _ (.head _)) ?_ ?_ ?_
        · intro x hx
          rw [hkn2, ← hkn, hnn]
          exact g1 x (List.mem_filter.mp hx).1
        · have h1 : ∀ e ∈ view ns, ∀ x ∈ e.sn, x ∈ nums ns := by
            intro e he
            obtain ⟨f, hf, rfl⟩ := List.mem_map.mp he
            exact hss f hf
          have h2 := sn_skel hskV (fun _ sn => ∀ x ∈ sn, x ∈ nums ns) h1
          intro e he x hx
          rw [hkn2]
          exact h2 e.view (by rw [← hmid]; exact List.mem_map_of_mem he) x hx
        · intro j n hj
          rw [hmid]; exact g3 j n hj
        · intro p hp
          exact List.mem_cons_of_mem _ (List.mem_cons_of_mem _ (perm_d.mem_iff.mpr (by simpa only [List.append_assoc, List.cons_append] using hp)))
        · have := nd_perm nd18 perm_d
          simpa only [List.append_assoc, List.cons_append] using this
        rintro r22 h22 tk22 new frs22 SU22 Fs22 F22 N22 nd22 ⟨ns3, rvs3, rs3, tf3, nr3, w1, w2, w3⟩
        clear N21 F21
        have N23 := News.perm N22 perm_f
        have nd23 := nd_perm nd22 perm_f
        clear N22
        have row23 := (nd_split nd23).1
        dsimp only at row23
        k_steps
        rename_i tD h24 l24 h25 F25 N25
        have hemp : rvs'.isEmpty = st.r.isEmpty := by
          cases hr9 : rvs' with
          | nil => rw [hr9] at hrl; rw [List.length_eq_zero_iff.mp hrl.symm]; rfl
          | cons x y =>
            rw [hr9] at hrl
            cases hr8 : st.r with
            | nil => rw [hr8] at hrl; cases hrl
            | cons x' y' => rfl
        have hact : (decide (st.fi < st.po) || !rvs'.isEmpty) = st.act := by rw [hemp]; rfl
        have lt24 : ∀ p ∈ (rl, listOf (Value.none :: rds.map fun r => Value.ref r.t).toArray n') :: (Rr, { cls := .type "tuple", data := .seq rvs'.toArray }) :: (I, oI) :: (a, instObj 188 ad) :: (ad, sdict w t1 t2 t3 t4 d (.ref ra) (.int (st.po + st.r.length) tp2) (.int (st.fi + (st.done hs).length) tf3)) :: (d, o6) :: (ra, listOf rvs3.toArray nr3) :: (sled ns3 ++ (Y ++ frs22)), p.1 < tD :=
          all_cons l24.1 (all_cons l24.2.1 (all_cons l24.2.2.1 (all_cons l24.2.2.2.1 (all_cons l24.2.2.2.2.1 (all_cons l24.2.2.2.2.2.1 (all_cons l24.2.2.2.2.2.2.1 (allLt_mem l24.2.2.2.2.2.2.2)))))))
        have nd25 := nodup_lt (o := ({ cls := .type "tuple", data := .seq [Value.bool st.act, Value.ref Rr].toArray } : Obj)) lt24 nd23
        have hnx : rat hs (st0 p q t) (i + 1) = rnext hs st := by rw [rat, hst]
        have N25' : News h₀ s.heap.objs.size h25 ((tD, { cls := .type "tuple", data := .seq [Value.bool st.act, Value.ref Rr].toArray }) :: (rl, listOf ((Value.none :: rds.map fun r => Value.ref r.t) ++ [Value.ref tD]).toArray (n' + 1)) :: (Rr, { cls := .type "tuple", data := .seq rvs'.toArray }) :: (I, oI) :: (a, instObj 188 ad) :: (ad, sdict w t1 t2 t3 t4 d (.ref ra) (.int (st.po + st.r.length) tp2) (.int (st.fi + (st.done hs).length) tf3)) :: (d, o6) :: (ra, listOf rvs3.toArray nr3) :: (sled ns3 ++ (Y ++ frs22))) := by
          rw [← List.push_toArray, ← hact]
          exact N25
        have nd25' : (List.map (·.1) ((tD, ({ cls := .type "tuple", data := .seq [Value.bool st.act, Value.ref Rr].toArray } : Obj)) :: (rl, listOf ((Value.none :: rds.map fun r => Value.ref r.t) ++ [Value.ref tD]).toArray (n' + 1)) :: (Rr, { cls := .type "tuple", data := .seq rvs'.toArray }) :: (I, oI) :: (a, instObj 188 ad) :: (ad, sdict w t1 t2 t3 t4 d (.ref ra) (.int (st.po + st.r.length) tp2) (.int (st.fi + (st.done hs).length) tf3)) :: (d, o6) :: (ra, listOf rvs3.toArray nr3) :: (sled ns3 ++ (Y ++ frs22)))).Nodup := nd25
        rw [← eY] at N25' nd25'
        have N26 := News.perm N25' perm_g
        have nd26 := nd_perm nd25' perm_g
        have e1 : (Value.none :: (rds ++ [(⟨tD, Rr, st.act, rvs', st.r⟩ : Rd)]).map fun r => Value.ref r.t) = (Value.none :: rds.map fun r => Value.ref r.t) ++ [Value.ref tD] := by simp
        have e2 : ∀ B : Ledger, (rds ++ [(⟨tD, Rr, st.act, rvs', st.r⟩ : Rd)]).flatMap Rd.led ++ B = rds.flatMap Rd.led ++ ((tD, { cls := .type "tuple", data := .seq [Value.bool st.act, Value.ref Rr].toArray }) :: (Rr, { cls := .type "tuple", data := .seq rvs'.toArray }) :: B) := by intro B; simp [Rd.led]
        have hv3 : view ns3 = (rnext hs st).V ∧ rs3 = (rnext hs st).r := by
          rw [hmid] at w1
          exact Prod.mk.inj w1
        rw [hact] at F25
        have F26 : Fr h₀ s.heap.objs.size h25 (rfm pa (.int t tt) (some (.ref a)) (some (.ref rl)) (some (.int i tv)) (some (.bool st.act)) (some (.ref Rr))) := fr_congr F25 (rfm_eq rfl rfl rfl rfl rfl rfl rfl (by (intro y a1 a2 a3 a4 a5 a6 a7; (try simp only [if_neg a1, if_neg a2, if_neg a3, if_neg a4, if_neg a5, if_neg a6, if_neg a7]); exact rfm_none y a1 a2 a3 a4 a5 a6 a7)))
        have q1' : view ns3 = (rat hs (st0 p q t) (i + 1)).V := by rw [hnx]; exact hv3.1
        have q2' : IntsAre rvs3 (rat hs (st0 p q t) (i + 1)).r := by rw [hnx, ← hv3.2]; exact w2
        have q3' : (rds ++ [(⟨tD, Rr, st.act, rvs', st.r⟩ : Rd)]).map (fun r : Rd => (r.b, r.gs)) = (List.range (i + 1)).map (fun k => ((rat hs (st0 p q t) k).act, (rat hs (st0 p q t) k).r)) := by
          rw [List.map_append, q3, List.range_succ, List.map_append]
          simp [hst]
        have q4' : ∀ r ∈ rds ++ [(⟨tD, Rr, st.act, rvs', st.r⟩ : Rd)], IntsAre r.gvs r.gs := by
          intro r hr
          rcases List.mem_append.mp hr with hr | hr
          · exact q4 r hr
          · rw [List.mem_singleton.mp hr]; exact q2
        have J9 := RndJ.mk (w := w) (a := a) (ad := ad) (d := d) (ra := ra) (rl := rl) (t1 := t1) (t2 := t2) (t3 := t3) (t4 := t4) (o := o6) (hs := hs) (s0 := st0 p q t) (ns := ns) (pa := pa) (t := .int t tt) (I := h12.objs.size) (back := [(s.heap.objs.size + 1 + 1, oc), (s.heap.objs.size + 1, oh), (ha, listOf hvs.toArray nh), (pa, listOf pvs.toArray np)]) (rest := rest) (frs := frs) (l := l) (i := i + 1)
          ns3 rvs3 nr3 (rds ++ [⟨tD, Rr, st.act, rvs', st.r⟩]) (n' + 1) tp2 tf3 frs22 (some (.int i tv)) (some (.bool st.act)) (some (.ref Rr)) q1' q2' q3' q4' (by rw [kvs_skel w3, v2, q5]) (wf_skel w3.symm v3) (((q7.trans SU16).trans SU18).trans SU22) Fs22 (by rw [hnx, e1, e2]; rw [hI] at nd26; exact nd26)
        rw [hnx, e1, e2] at J9
        refine for_nx zK2 F26 N26 ?_
        exact J9
    · rintro m news h6 tk6 ⟨ns', rvs', nr', rds, n', tp', tf', frs9, k0, ac0, gr0, q1, q2, q3, q4, q5, q6, q7, q8, hndJ2⟩ F14 N14
      clear F12 N12 N13
      k_steps
      refine ret _ _ _ ((rl, listOf (Value.none :: rds.map fun r => .ref r.t).toArray n') :: (rds.flatMap Rd.led ++ [(ha, listOf hvs.toArray nh), (pa, listOf pvs.toArray np)])) frs9 q7 q8 (St.of_news F14 N14 (fun p hp => (fin_sl).subset hp) ?_) (.mk rl rds n' q3 q4)
      exact List.Nodup.sublist (fin_sl.map _) (List.nodup_cons.mp hndJ2).2
end
end
section
/-! plain laws: sorted_list_difference of the numbers and some of them; the numbers that are paid -/
theorem drop_same {e : Int} : ∀ {E : List Int}, (∀ x ∈ E, e < x) → E.dropWhile (· == e) = E
  | [], _ => rfl
  | x :: E, h => by
    have : (x == e) = false := by have := h x (.head _); simp; exact go_nebi ((lt_i this))
    rw [List.dropWhile_cons, this]; rfl
theorem drop_mem {a x : Int} (hx : x ≠ a) : ∀ {A : List Int}, x ∈ A.dropWhile (· == a) ↔ x ∈ A
  | [] => Iff.rfl
  | b :: A => by
    rw [List.dropWhile_cons]
    by_cases h : b = a
    · subst h
      rw [if_pos (by simp), drop_mem hx, List.mem_cons]
      exact ⟨.inr, fun q => q.resolve_left hx⟩
    · rw [if_neg (by simpa using h)]
theorem drop_gt {a : Int} : ∀ {A : List Int}, (∀ x ∈ A, a ≤ x) → A.Pairwise (· ≤ ·) → ∀ x ∈ A.dropWhile (· == a), a < x
  | [], _, _ => fun _ h => by cases h
  | b :: A, h, hs => by
    rw [List.dropWhile_cons]
    by_cases q : b = a
    · subst q
      rw [if_pos (by simp)]
      exact drop_gt (fun x hx => h x (.tail _ hx)) (List.pairwise_cons.mp hs).2
    · rw [if_neg (by simpa using q)]
      intro x hx
      have h1 := h b (.head _)
      rcases List.mem_cons.mp hx with rfl | hx
      · exact go_lti ((ne_ri q (h1)))
      · have := (List.pairwise_cons.mp hs).1 x hx
        exact go_lti (lin [] [_, _, _] [(1, (.i (.v 2) (.v 1))), (1, (.i (.a (.v 0) (.k 1)) (.v 2)))] 1 (.i (.a (.v 0) (.k 1)) (.v 1)) rfl this (ne_ri q (h1)))
theorem sld_sub : ∀ (n : Nat) (E A : List Int), E.length + A.length ≤ n → E.Pairwise (· < ·) → A.Pairwise (· ≤ ·) → (∀ a ∈ A, a ∈ E) → sldN n E A = (E.filter fun x => !decide (x ∈ A), [])
  | n, [], A, _, _, _, h => by
    rw [sldN_nil_left]
    cases A with
    | nil => rfl
    | cons a A => exact absurd (h a (.head _)) (by simp)
  | n, e :: E, [], _, _, _, _ => by
    rw [sldN_nil_right]
    have : ∀ l : List Int, l.filter (fun x => !decide (x ∈ ([] : List Int))) = l := fun l => List.filter_eq_self.mpr fun x _ => by simp
    rw [this]
  | 0, e :: E, a :: A, hn, _, _, _ => by simp at hn
  | n + 1, e :: E, a :: A, hn, hE, hA, h => by
    simp only [List.length_cons] at hn
    obtain ⟨e1, e2⟩ := List.pairwise_cons.mp hE
    obtain ⟨a1, a2⟩ := List.pairwise_cons.mp hA
    unfold sldN
    by_cases h1 : e < a
    · rw [if_pos h1, drop_same e1]
      have hne : ∀ x ∈ a :: A, e < x := fun x hx => by
        rcases List.mem_cons.mp hx with rfl | hx
        · exact h1
        · exact Int.lt_of_lt_of_le h1 (a1 x hx)
      have ih := sld_sub n E (a :: A) (by simp; exact lin [_, _, _] [] [(1, (.n (.a (.a (.v 0) (.k 1)) (.a (.v 1) (.k 1))) (.a (.v 2) (.k 1))))] 1 (.n (.a (.v 0) (.a (.v 1) (.k 1))) (.v 2)) rfl hn) e2 hA (fun x hx => (List.mem_cons.mp (h x hx)).resolve_left (fun q => by have := hne x hx; omega))
      rw [ih]
      show (e :: _, _) = _
      rw [List.filter_cons_of_pos]
      have : e ∉ a :: A := fun q => Int.lt_irrefl _ (hne e q)
      simp only [this, decide_false, Bool.not_false]
    · rw [if_neg h1]
      by_cases h2 : a < e
      · rcases List.mem_cons.mp (h a (.head _)) with q | q
        · omega
        · have := e1 a q; omega
      · rw [if_neg h2, drop_same e1]
        obtain rfl : e = a := by exact go_eqi ((not_lt_i h2)) ((not_lt_i h1))
        have hg := drop_gt (a := e) (A := A) a1 a2
        have hl := (List.dropWhile_sublist (· == e) (l := A)).length_le
        have ih := sld_sub n E (A.dropWhile (· == e)) (by exact lin [_, _, _, _] [] [(1, (.n (.a (.a (.v 0) (.k 1)) (.a (.v 3) (.k 1))) (.a (.v 2) (.k 1)))), (1, (.n (.v 1) (.v 3)))] 1 (.n (.a (.v 0) (.v 1)) (.v 2)) rfl hn hl) e2 (a2.sublist (List.dropWhile_sublist _)) (fun x hx => by
          have hne : x ≠ e := by have := hg x hx; exact go_nebi ((lt_i this))
          exact (List.mem_cons.mp (h x (.tail _ ((drop_mem hne).mp hx)))).resolve_left hne)
        rw [ih]
        rw [List.filter_cons_of_neg (by simp)]
        congr 1
        refine List.filter_congr fun x hx => ?_
        have hne : x ≠ e := by have := e1 x hx; exact go_nebi ((lt_i this))
        have : (x ∈ A.dropWhile (· == e)) ↔ (x ∈ e :: A) := by rw [drop_mem hne, List.mem_cons]; exact ⟨.inr, fun q => q.resolve_left hne⟩
        simp only [this]
theorem mem_cell {p q t f n : Int} {i j : Nat} : n ∈ cell p q t f i j ↔ 0 < i + j ∧ n ≤ t ∧ n = f + i * p + j * q := by
  unfold cell
  split
  · rename_i h
    rw [List.mem_singleton]
    exact ⟨fun e => ⟨h.1, e ▸ h.2, e⟩, fun e => e.2.2⟩
  · rename_i h
    constructor
    · intro h; cases h
    · rintro ⟨h1, h2, rfl⟩; exact absurd ⟨h1, h2⟩ h
theorem mem_paidL {p q t n : Int} {hs : List Int} (hp : 0 < p) (hq : 0 < q) (h0 : ∀ f ∈ hs, 0 ≤ f) : n ∈ paidL p q t hs ↔ ∃ f ∈ hs, ∃ i j : Nat, 0 < i + j ∧ n ≤ t ∧ n = f + i * p + j * q := by
  unfold paidL rowI rowJ
  simp only [List.mem_flatMap, List.mem_range, mem_cell]
  constructor
  · rintro ⟨f, hf, i, _, j, _, h⟩
    exact ⟨f, hf, i, j, h⟩
  · rintro ⟨f, hf, i, j, h1, h2, h3⟩
    have f0 := h0 f hf
    have ip : 0 ≤ (i : Int) * p := Int.mul_nonneg (Int.natCast_nonneg _) (Int.le_of_lt hp)
    have jq : 0 ≤ (j : Int) * q := Int.mul_nonneg (Int.natCast_nonneg _) (Int.le_of_lt hq)
    refine ⟨f, hf, i, ?_, j, ?_, h1, h2, h3⟩
    · have : (i : Int) ≤ t.fdiv p := by
        rw [Int.fdiv_eq_ediv_of_nonneg _ (Int.le_of_lt hp)]
        exact (Int.le_ediv_iff_mul_le hp).mpr (by exact lin [] [_, _, _, _, _] [(1, (.i (.v 2) (.v 1))), (1, (.i (.a (.a (.v 3) (.v 0)) (.v 4)) (.v 2))), (1, (.i (.k 0) (.v 3))), (1, (.i (.k 0) (.v 4)))] 1 (.i (.v 0) (.v 1)) rfl h2 (eqi_b h3) f0 jq)
      exact lin [_, _] [_] [(1, (.i (.n (.v 0)) (.v 0))), (1, (.i (.a (.v 0) (.k 1)) (.n (.v 1))))] 1 (.n (.a (.v 0) (.k 1)) (.v 1)) rfl this (tn_a _)
    · have : (j : Int) ≤ t.fdiv q := by
        rw [Int.fdiv_eq_ediv_of_nonneg _ (Int.le_of_lt hq)]
        exact (Int.le_ediv_iff_mul_le hq).mpr (by exact lin [] [_, _, _, _, _] [(1, (.i (.v 2) (.v 1))), (1, (.i (.a (.a (.v 3) (.v 4)) (.v 0)) (.v 2))), (1, (.i (.k 0) (.v 3))), (1, (.i (.k 0) (.v 4)))] 1 (.i (.v 0) (.v 1)) rfl h2 (eqi_b h3) f0 ip)
      exact lin [_, _] [_] [(1, (.i (.n (.v 0)) (.v 0))), (1, (.i (.a (.v 0) (.k 1)) (.n (.v 1))))] 1 (.n (.a (.v 0) (.k 1)) (.v 1)) rfl this (tn_a _)
/-- n is paid just when one of its ports leads to a held number or to one that is paid -/
theorem paid_rec {p q t n : Int} {hs : List Int} (hp : 0 < p) (hq : 0 < q) (h0 : ∀ f ∈ hs, 0 ≤ f) (hn : n ≤ t) :
    n ∈ paidL p q t hs ↔ (p ≤ n ∧ (n - p ∈ paidL p q t hs ∨ n - p ∈ hs)) ∨ (q ≤ n ∧ (n - q ∈ paidL p q t hs ∨ n - q ∈ hs)) := by
  simp only [mem_paidL hp hq h0]
  constructor
  · rintro ⟨f, hf, i, j, h1, h2, h3⟩
    have f0 := h0 f hf
    have ip : 0 ≤ (i : Int) * p := Int.mul_nonneg (Int.natCast_nonneg _) (Int.le_of_lt hp)
    have jq : 0 ≤ (j : Int) * q := Int.mul_nonneg (Int.natCast_nonneg _) (Int.le_of_lt hq)
    cases i with
    | succ i =>
      have e : ((i + 1 : Nat) : Int) * p = i * p + p := by rw [Int.natCast_add, Int.add_mul]; simp
      have ip' : 0 ≤ (i : Int) * p := Int.mul_nonneg (Int.natCast_nonneg _) (Int.le_of_lt hp)
      refine .inl ⟨by exact lin [] [_, _, _, _, _, _] [(1, (.i (.k 0) (.v 2))), (1, (.i (.k 0) (.v 3))), (1, (.i (.a (.a (.v 2) (.v 4)) (.v 3)) (.v 1))), (1, (.i (.a (.v 5) (.v 0)) (.v 4))), (1, (.i (.k 0) (.v 5)))] 1 (.i (.v 0) (.v 1)) rfl f0 jq (eqi_b h3) (eqi_b e) ip', ?_⟩
      by_cases hz : 0 < i + j
      · exact .inl ⟨f, hf, i, j, hz, by exact lin [] [_, _, _] [(1, (.i (.a (.k 0) (.k 1)) (.v 1))), (1, (.i (.v 0) (.v 2)))] 1 (.i (.s (.v 0) (.v 1)) (.v 2)) rfl (lt_i hp) hn, by exact go_eqi (lin [] [_, _, _, _, _, _] [(1, (.i (.v 0) (.a (.a (.v 2) (.v 5)) (.v 4)))), (1, (.i (.v 5) (.a (.v 3) (.v 1))))] 1 (.i (.s (.v 0) (.v 1)) (.a (.a (.v 2) (.v 3)) (.v 4))) rfl (eqi_a h3) (eqi_a e)) (lin [] [_, _, _, _, _, _] [(1, (.i (.a (.a (.v 0) (.v 5)) (.v 2)) (.v 3))), (1, (.i (.a (.v 1) (.v 4)) (.v 5)))] 1 (.i (.a (.a (.v 0) (.v 1)) (.v 2)) (.s (.v 3) (.v 4))) rfl (eqi_b h3) (eqi_b e))⟩
      · obtain rfl : i = 0 := by exact go_eq (lin [_, _] [] [(1, (.n (.a (.v 0) (.v 1)) (.k 0)))] 1 (.n (.v 0) (.k 0)) rfl (not_lt_n hz)) (Nat.zero_le _)
        obtain rfl : j = 0 := by exact go_eq (lin [_] [] [(1, (.n (.a (.k 0) (.v 0)) (.k 0)))] 1 (.n (.v 0) (.k 0)) rfl (not_lt_n hz)) (Nat.zero_le _)
        refine .inr ?_
        rw [show n - p = f by simp at h3; exact go_eqi (lin [] [_, _, _] [(1, (.i (.v 0) (.a (.v 2) (.v 1))))] 1 (.i (.s (.v 0) (.v 1)) (.v 2)) rfl (eqi_a h3)) (lin [] [_, _, _] [(1, (.i (.a (.v 0) (.v 2)) (.v 1)))] 1 (.i (.v 0) (.s (.v 1) (.v 2))) rfl (eqi_b h3))]; exact hf
    | zero =>
      cases j with
      | zero => omega
      | succ j =>
        have e : ((j + 1 : Nat) : Int) * q = j * q + q := by rw [Int.natCast_add, Int.add_mul]; simp
        have jq' : 0 ≤ (j : Int) * q := Int.mul_nonneg (Int.natCast_nonneg _) (Int.le_of_lt hq)
        refine .inr ⟨by exact lin [] [_, _, _, _, _, _] [(1, (.i (.k 0) (.v 2))), (1, (.i (.k 0) (.v 3))), (1, (.i (.a (.a (.v 2) (.v 3)) (.v 4)) (.v 1))), (1, (.i (.a (.v 5) (.v 0)) (.v 4))), (1, (.i (.k 0) (.v 5)))] 1 (.i (.v 0) (.v 1)) rfl f0 ip (eqi_b h3) (eqi_b e) jq', ?_⟩
        by_cases hz : 0 < 0 + j
        · exact .inl ⟨f, hf, 0, j, hz, by exact lin [] [_, _, _] [(1, (.i (.a (.k 0) (.k 1)) (.v 1))), (1, (.i (.v 0) (.v 2)))] 1 (.i (.s (.v 0) (.v 1)) (.v 2)) rfl (lt_i hq) hn, by exact go_eqi (lin [] [_, _, _, _, _, _] [(1, (.i (.v 0) (.a (.a (.v 2) (.v 3)) (.v 5)))), (1, (.i (.v 5) (.a (.v 4) (.v 1))))] 1 (.i (.s (.v 0) (.v 1)) (.a (.a (.v 2) (.v 3)) (.v 4))) rfl (eqi_a h3) (eqi_a e)) (lin [] [_, _, _, _, _, _] [(1, (.i (.a (.a (.v 0) (.v 1)) (.v 5)) (.v 3))), (1, (.i (.a (.v 2) (.v 4)) (.v 5)))] 1 (.i (.a (.a (.v 0) (.v 1)) (.v 2)) (.s (.v 3) (.v 4))) rfl (eqi_b h3) (eqi_b e))⟩
        · obtain rfl : j = 0 := by exact go_eq (lin [_] [] [(1, (.n (.a (.k 0) (.v 0)) (.k 0)))] 1 (.n (.v 0) (.k 0)) rfl (not_lt_n hz)) (Nat.zero_le _)
          refine .inr ?_
          rw [show n - q = f by simp at h3; exact go_eqi (lin [] [_, _, _] [(1, (.i (.v 0) (.a (.v 2) (.v 1))))] 1 (.i (.s (.v 0) (.v 1)) (.v 2)) rfl (eqi_a h3)) (lin [] [_, _, _] [(1, (.i (.a (.v 0) (.v 2)) (.v 1)))] 1 (.i (.v 0) (.s (.v 1) (.v 2))) rfl (eqi_b h3))]; exact hf
  · rintro (⟨h1, ⟨f, hf, i, j, h2, h3, h4⟩ | h2⟩ | ⟨h1, ⟨f, hf, i, j, h2, h3, h4⟩ | h2⟩)
    · refine ⟨f, hf, i + 1, j, by exact lin [_, _] [] [(1, (.n (.a (.k 0) (.k 1)) (.a (.v 0) (.v 1))))] 1 (.n (.a (.k 0) (.k 1)) (.a (.a (.v 0) (.k 1)) (.v 1))) rfl h2, hn, ?_⟩
      rw [Int.natCast_add, Int.add_mul]; simp; exact go_eqi (lin [] [_, _, _, _, _] [(1, (.i (.s (.v 0) (.v 3)) (.a (.a (.v 1) (.v 2)) (.v 4))))] 1 (.i (.v 0) (.a (.a (.v 1) (.a (.v 2) (.v 3))) (.v 4))) rfl (eqi_a h4)) (lin [] [_, _, _, _, _] [(1, (.i (.a (.a (.v 0) (.v 1)) (.v 3)) (.s (.v 4) (.v 2))))] 1 (.i (.a (.a (.v 0) (.a (.v 1) (.v 2))) (.v 3)) (.v 4)) rfl (eqi_b h4))
    · exact ⟨_, h2, 1, 0, by exact lin [] [] [] 1 (.n (.a (.k 0) (.k 1)) (.a (.k 1) (.k 0))) rfl, hn, by simp⟩
    · refine ⟨f, hf, i, j + 1, by exact lin [_, _] [] [(1, (.n (.a (.k 0) (.k 1)) (.a (.v 0) (.v 1))))] 1 (.n (.a (.k 0) (.k 1)) (.a (.v 0) (.a (.v 1) (.k 1)))) rfl h2, hn, ?_⟩
      rw [Int.natCast_add (m := 1), Int.add_mul]; simp; exact go_eqi (lin [] [_, _, _, _, _] [(1, (.i (.s (.v 0) (.v 4)) (.a (.a (.v 1) (.v 2)) (.v 3))))] 1 (.i (.v 0) (.a (.a (.v 1) (.v 2)) (.a (.v 3) (.v 4)))) rfl (eqi_a h4)) (lin [] [_, _, _, _, _] [(1, (.i (.a (.a (.v 0) (.v 1)) (.v 2)) (.s (.v 4) (.v 3))))] 1 (.i (.a (.a (.v 0) (.v 1)) (.a (.v 2) (.v 3))) (.v 4)) rfl (eqi_b h4))
    · exact ⟨_, h2, 0, 1, by exact Nat.le_refl _, hn, by simp⟩
theorem flat_le {α β γ : Type} {f : α → List β} {g : α → List γ} (h : ∀ a, (f a).length ≤ (g a).length) : ∀ l : List α, (l.flatMap f).length ≤ (l.flatMap g).length
  | [] => Nat.le_refl _
  | a :: l => by
    rw [List.flatMap_cons, List.flatMap_cons, List.length_append, List.length_append]
    exact Nat.add_le_add (h a) (flat_le h l)
theorem rowI_mono {p q t f : Int} (hf : 0 ≤ f) (a b : Nat) : (rowI p q t f a b).length ≤ (rowI p q t 0 a b).length := by
  refine flat_le (fun i => flat_le (fun j => ?_) _) _
  unfold cell
  split
  · rw [if_pos (by exact ⟨by exact (‹0 < i + j ∧ f + ↑i * p + ↑j * q ≤ t›.1), by exact lin [] [_, _, _, _] [(1, (.i (.k 0) (.v 3))), (1, (.i (.a (.a (.v 3) (.v 0)) (.v 1)) (.v 2)))] 1 (.i (.a (.a (.k 0) (.v 0)) (.v 1)) (.v 2)) rfl hf (‹0 < i + j ∧ f + ↑i * p + ↑j * q ≤ t›.2)⟩)]; simp
  · exact Nat.zero_le _
theorem rowI_all : ∀ p ∈ [1, 2, 3, 4, 5, 6], ∀ q ∈ [1, 2, 3, 4, 5, 6, 7], (rowI p q (p * q) 0 ((p * q).fdiv q + 1).toNat ((p * q).fdiv p + 1).toNat).length ≤ 28 := by decide +kernel
theorem in6 {p : Int} (h1 : 1 ≤ p) (h6 : p ≤ 6) : p ∈ [1, 2, 3, 4, 5, 6] := by
  obtain ⟨n, rfl⟩ := Int.eq_ofNat_of_zero_le (Int.le_trans (by decide) h1)
  exact (by decide : ∀ n : Fin 7, 1 ≤ n.1 → (n.1 : Int) ∈ ([1, 2, 3, 4, 5, 6] : List Int)) ⟨n, Nat.lt_succ_of_le (Int.ofNat_le.mp h6)⟩ (Int.ofNat_le.mp h1)
theorem in7 {p : Int} (h1 : 1 ≤ p) (h7 : p ≤ 7) : p ∈ [1, 2, 3, 4, 5, 6, 7] := by
  obtain ⟨n, rfl⟩ := Int.eq_ofNat_of_zero_le (Int.le_trans (by decide) h1)
  exact (by decide : ∀ n : Fin 8, 1 ≤ n.1 → (n.1 : Int) ∈ ([1, 2, 3, 4, 5, 6, 7] : List Int)) ⟨n, Nat.lt_succ_of_le (Int.ofNat_le.mp h7)⟩ (Int.ofNat_le.mp h1)
theorem paid_len {p q : Int} {hs : List Int} (hp1 : 1 ≤ p) (hp6 : p ≤ 6) (hq1 : 1 ≤ q) (hq7 : q ≤ 7) (h4 : hs.length ≤ 4) (h0 : ∀ f ∈ hs, 0 ≤ f) : (paidL p q (p * q) hs).length < 128 := by
  have := flat_len (fun f => rowI p q (p * q) f ((p * q).fdiv q + 1).toNat ((p * q).fdiv p + 1).toNat) 28 hs fun f hf => Nat.le_trans (rowI_mono (h0 f hf) _ _) (rowI_all p (in6 hp1 hp6) q (in7 hq1 hq7))
  unfold paidL
  omega
end
section
/-! plain law of the rounds -/
noncomputable def snF (p q c g : Int) : List Int := (if g + min p q < c then [g + min p q] else []) ++ (if g + max p q < c then [g + max p q] else [])
theorem rangeKs_succ (a : Int) (n : Nat) : rangeKs a (n + 1) = rangeKs a n ++ [a + (n : Int)] := by
  unfold rangeKs; rw [List.range_succ, List.map_append]; rfl
theorem mem_rangeKs' {a k : Int} {n : Nat} : k ∈ rangeKs a n ↔ a ≤ k ∧ k < a + (n : Int) := by
  refine ⟨mem_rangeKs, fun h => ?_⟩
  unfold rangeKs
  refine List.mem_map.mpr ⟨(k - a).toNat, List.mem_range.mpr (by exact lin [_, _] [_, _] [(1, (.i (.a (.v 0) (.k 1)) (.a (.v 1) (.n (.v 1))))), (1, (.i (.n (.v 0)) (.s (.v 0) (.v 1))))] 1 (.n (.a (.v 0) (.k 1)) (.v 1)) rfl (lt_i (h.2)) (tn_b (lin [] [_, _] [(1, (.i (.v 1) (.v 0)))] 1 (.i (.k 0) (.s (.v 0) (.v 1))) rfl (h.1)))), by exact go_eqi (lin [_] [_, _] [(1, (.i (.n (.v 0)) (.s (.v 1) (.v 0))))] 1 (.i (.a (.v 0) (.n (.v 0))) (.v 1)) rfl (tn_b (lin [] [_, _] [(1, (.i (.v 1) (.v 0)))] 1 (.i (.k 0) (.s (.v 0) (.v 1))) rfl (h.1)))) (lin [_] [_, _] [(1, (.i (.s (.v 0) (.v 1)) (.n (.v 0))))] 1 (.i (.v 0) (.a (.v 1) (.n (.v 0)))) rfl (tn_a _))⟩
theorem rangeKs_asc (a : Int) (n : Nat) : (rangeKs a n).Pairwise (· < ·) := by
  induction n with
  | zero => exact List.Pairwise.nil
  | succ n ih =>
    rw [rangeKs_succ, List.pairwise_append]
    refine ⟨ih, List.pairwise_singleton .., fun x hx y hy => ?_⟩
    rw [List.mem_singleton.mp hy]
    exact (mem_rangeKs hx).2
theorem asc_eq : ∀ {l r : List Int}, l.Pairwise (· < ·) → r.Pairwise (· < ·) → (∀ x, x ∈ l ↔ x ∈ r) → l = r
  | [], [], _, _, _ => rfl
  | [], b :: r, _, _, h => absurd ((h b).mpr (.head _)) (by simp)
  | a :: l, [], _, _, h => absurd ((h a).mp (.head _)) (by simp)
  | a :: l, b :: r, hl, hr, h => by
    obtain ⟨l1, l2⟩ := List.pairwise_cons.mp hl
    obtain ⟨r1, r2⟩ := List.pairwise_cons.mp hr
    have e : a = b := by
      rcases List.mem_cons.mp ((h a).mp (.head _)) with q | q
      · exact q
      · rcases List.mem_cons.mp ((h b).mpr (.head _)) with q' | q'
        · exact q'.symm
        · have := r1 a q; have := l1 b q'; omega
    subst e
    rw [asc_eq l2 r2 fun x => ?_]
    constructor
    · intro hx
      rcases List.mem_cons.mp ((h x).mp (.tail _ hx)) with q | q
      · have := l1 x hx; omega
      · exact q
    · intro hx
      rcases List.mem_cons.mp ((h x).mpr (.tail _ hx)) with q | q
      · have := r1 x hx; omega
      · exact q
theorem fold_pred (n : Int) : ∀ (ps : List Int) (v : List Nv), ps.foldl (addPred n) v = v.map fun e => ⟨e.num, e.np, e.sn ++ List.replicate (ps.count e.num) n⟩
  | [], v => by
    have : ∀ e : Nv, (⟨e.num, e.np, e.sn ++ List.replicate (([] : List Int).count e.num) n⟩ : Nv) = e := fun e => by simp
    rw [List.foldl_nil, List.map_congr_left (g := id) fun e _ => this e, List.map_id]
  | a :: ps, v => by
    rw [List.foldl_cons, fold_pred n ps, addPred, updV, List.map_map]
    refine List.map_congr_left fun e _ => ?_
    simp only [Function.comp]
    by_cases h : e.num = a
    · rw [if_pos h]
      show (⟨e.num, e.np, e.sn ++ [n] ++ List.replicate (ps.count e.num) n⟩ : Nv) = _
      rw [List.count_cons, if_pos (by simpa using h.symm), List.append_assoc, List.replicate_succ]
      rfl
    · rw [if_neg h, List.count_cons, if_neg (by simpa using fun q => h q.symm), Nat.add_zero]
theorem count_preds {p q m i : Int} (hm : 0 ≤ m) : (preds p q i).count m = (if m + p = i then 1 else 0) + (if m + q = i then 1 else 0) := by
  unfold preds
  simp only [List.filter_cons, List.filter_nil]
  have e1 : (i - p = m) ↔ (m + p = i) := by exact Iff.intro (fun hx => by exact go_eqi (lin [] [_, _, _] [(1, (.i (.v 0) (.s (.v 2) (.v 1))))] 1 (.i (.a (.v 0) (.v 1)) (.v 2)) rfl (eqi_b hx)) (lin [] [_, _, _] [(1, (.i (.s (.v 0) (.v 2)) (.v 1)))] 1 (.i (.v 0) (.a (.v 1) (.v 2))) rfl (eqi_a hx))) (fun hx => by exact go_eqi (lin [] [_, _, _] [(1, (.i (.v 0) (.a (.v 2) (.v 1))))] 1 (.i (.s (.v 0) (.v 1)) (.v 2)) rfl (eqi_b hx)) (lin [] [_, _, _] [(1, (.i (.a (.v 0) (.v 2)) (.v 1)))] 1 (.i (.v 0) (.s (.v 1) (.v 2))) rfl (eqi_a hx)))
  have e2 : (i - q = m) ↔ (m + q = i) := by exact Iff.intro (fun hx => by exact go_eqi (lin [] [_, _, _] [(1, (.i (.v 0) (.s (.v 2) (.v 1))))] 1 (.i (.a (.v 0) (.v 1)) (.v 2)) rfl (eqi_b hx)) (lin [] [_, _, _] [(1, (.i (.s (.v 0) (.v 2)) (.v 1)))] 1 (.i (.v 0) (.a (.v 1) (.v 2))) rfl (eqi_a hx))) (fun hx => by exact go_eqi (lin [] [_, _, _] [(1, (.i (.v 0) (.a (.v 2) (.v 1))))] 1 (.i (.s (.v 0) (.v 1)) (.v 2)) rfl (eqi_b hx)) (lin [] [_, _, _] [(1, (.i (.a (.v 0) (.v 2)) (.v 1)))] 1 (.i (.v 0) (.s (.v 1) (.v 2))) rfl (eqi_a hx)))
  by_cases h1 : p ≤ i <;> by_cases h2 : q ≤ i <;> simp only [h1, h2, decide_true, decide_false, if_true, Bool.false_eq_true, if_false, List.map_cons, List.map_nil, List.count_cons, List.count_nil, beq_iff_eq, e1, e2, Nat.zero_add]
  · rw [Nat.add_comm]
  · rw [if_neg (show ¬ m + q = i by exact go_nebi (lin [] [_, _, _] [(1, (.i (.k 0) (.v 1))), (1, (.i (.a (.v 0) (.k 1)) (.v 2)))] 1 (.i (.a (.v 0) (.k 1)) (.a (.v 1) (.v 2))) rfl hm (not_le_i h2)))]; rfl
  · rw [if_neg (show ¬ m + p = i by exact go_nebi (lin [] [_, _, _] [(1, (.i (.k 0) (.v 1))), (1, (.i (.a (.v 0) (.k 1)) (.v 2)))] 1 (.i (.a (.v 0) (.k 1)) (.a (.v 1) (.v 2))) rfl hm (not_le_i h1))), Nat.zero_add]
  · rw [if_neg (show ¬ m + p = i by exact go_nebi (lin [] [_, _, _] [(1, (.i (.k 0) (.v 1))), (1, (.i (.a (.v 0) (.k 1)) (.v 2)))] 1 (.i (.a (.v 0) (.k 1)) (.a (.v 1) (.v 2))) rfl hm (not_le_i h1))), if_neg (show ¬ m + q = i by exact go_nebi (lin [] [_, _, _] [(1, (.i (.k 0) (.v 1))), (1, (.i (.a (.v 0) (.k 1)) (.v 2)))] 1 (.i (.a (.v 0) (.k 1)) (.a (.v 1) (.v 2))) rfl hm (not_le_i h2)))]
theorem min_ne {m p q i : Int} (a : ¬ m + p = i) (b : ¬ m + q = i) : m + min p q ≠ i := by rw [Int.min_def]; split <;> assumption
theorem max_ne {m p q i : Int} (a : ¬ m + p = i) (b : ¬ m + q = i) : m + max p q ≠ i := by rw [Int.max_def]; split <;> assumption
theorem lt_step {x i : Int} (h : x ≠ i) : (x < i) ↔ (x < i + 1) := ⟨fun l => Int.lt_trans l (Int.lt_succ i), fun l => Int.lt_iff_le_and_ne.mpr ⟨Int.le_of_lt_add_one l, h⟩⟩
theorem snF_succ {p q m : Int} {i : Nat} (hm : 0 ≤ m) : snF p q i m ++ List.replicate ((preds p q i).count m) (i : Int) = snF p q (i + 1 : Nat) m := by
  rw [count_preds hm]
  unfold snF
  have hc : ((i + 1 : Nat) : Int) = (i : Int) + 1 := by simp
  rw [hc]
  by_cases a : m + p = i <;> by_cases b : m + q = i
  · rw [if_pos a, if_pos b, if_neg (by exact go_nlti (lin [_] [_, _, _] [(1, (.i (.n (.v 0)) (.a (.v 0) (.v 2)))), (1, (.i (.v 2) (.v 1)))] 1 (.i (.n (.v 0)) (.a (.v 0) (.v 1))) rfl (eqi_b a) (imin_c (lin [_] [_, _, _] [(1, (.i (.a (.v 2) (.v 0)) (.n (.v 0)))), (1, (.i (.n (.v 0)) (.a (.v 2) (.v 1))))] 1 (.i (.v 0) (.v 1)) rfl (eqi_a a) (eqi_b b))))), if_neg (by exact go_nlti (lin [_] [_, _, _] [(1, (.i (.n (.v 0)) (.a (.v 0) (.v 2)))), (1, (.i (.v 2) (.v 1)))] 1 (.i (.n (.v 0)) (.a (.v 0) (.v 1))) rfl (eqi_b b) (Int.le_max_right _ _))), if_pos (by exact go_lti (lin [_] [_, _, _] [(1, (.i (.a (.v 0) (.v 2)) (.n (.v 0)))), (1, (.i (.v 1) (.v 2)))] 1 (.i (.a (.a (.v 0) (.v 1)) (.k 1)) (.a (.n (.v 0)) (.k 1))) rfl (eqi_a b) (Int.min_le_right _ _))), if_pos (by exact go_lti (lin [_] [_, _, _] [(1, (.i (.a (.v 0) (.v 2)) (.n (.v 0)))), (1, (.i (.v 1) (.v 2)))] 1 (.i (.a (.a (.v 0) (.v 1)) (.k 1)) (.a (.n (.v 0)) (.k 1))) rfl (eqi_a a) (imax_c (lin [_] [_, _, _] [(1, (.i (.n (.v 0)) (.a (.v 2) (.v 1)))), (1, (.i (.a (.v 2) (.v 0)) (.n (.v 0))))] 1 (.i (.v 0) (.v 1)) rfl (eqi_b a) (eqi_a b))))), show m + min p q = i by exact go_eqi (lin [_] [_, _, _] [(1, (.i (.a (.v 0) (.v 2)) (.n (.v 0)))), (1, (.i (.v 1) (.v 2)))] 1 (.i (.a (.v 0) (.v 1)) (.n (.v 0))) rfl (eqi_a b) (Int.min_le_right _ _)) (lin [_] [_, _, _] [(1, (.i (.n (.v 0)) (.a (.v 0) (.v 2)))), (1, (.i (.v 2) (.v 1)))] 1 (.i (.n (.v 0)) (.a (.v 0) (.v 1))) rfl (eqi_b a) (imin_c (lin [_] [_, _, _] [(1, (.i (.a (.v 2) (.v 0)) (.n (.v 0)))), (1, (.i (.n (.v 0)) (.a (.v 2) (.v 1))))] 1 (.i (.v 0) (.v 1)) rfl (eqi_a a) (eqi_b b)))), show m + max p q = i by exact go_eqi (lin [_] [_, _, _] [(1, (.i (.a (.v 0) (.v 2)) (.n (.v 0)))), (1, (.i (.v 1) (.v 2)))] 1 (.i (.a (.v 0) (.v 1)) (.n (.v 0))) rfl (eqi_a a) (imax_c (lin [_] [_, _, _] [(1, (.i (.n (.v 0)) (.a (.v 2) (.v 1)))), (1, (.i (.a (.v 2) (.v 0)) (.n (.v 0))))] 1 (.i (.v 0) (.v 1)) rfl (eqi_b a) (eqi_a b)))) (lin [_] [_, _, _] [(1, (.i (.n (.v 0)) (.a (.v 0) (.v 2)))), (1, (.i (.v 2) (.v 1)))] 1 (.i (.n (.v 0)) (.a (.v 0) (.v 1))) rfl (eqi_b b) (Int.le_max_right _ _))]; rfl
  · rw [if_pos a, if_neg b]
    by_cases c : p < q
    · rw [if_neg (by exact go_nlti (lin [_] [_, _, _] [(1, (.i (.n (.v 0)) (.a (.v 0) (.v 2)))), (1, (.i (.v 2) (.v 1)))] 1 (.i (.n (.v 0)) (.a (.v 0) (.v 1))) rfl (eqi_b a) (imin_c (lin [] [_, _] [(1, (.i (.a (.v 0) (.k 1)) (.v 1)))] 1 (.i (.v 0) (.v 1)) rfl (lt_i c))))), if_neg (by exact go_nlti (lin [_] [_, _, _] [(1, (.i (.n (.v 0)) (.a (.v 0) (.v 2)))), (1, (.i (.v 2) (.v 1)))] 1 (.i (.n (.v 0)) (.a (.v 0) (.v 1))) rfl (eqi_b a) (Int.le_max_left _ _))), if_pos (by exact go_lti (lin [_] [_, _, _] [(1, (.i (.a (.v 0) (.v 2)) (.n (.v 0)))), (1, (.i (.v 1) (.v 2)))] 1 (.i (.a (.a (.v 0) (.v 1)) (.k 1)) (.a (.n (.v 0)) (.k 1))) rfl (eqi_a a) (Int.min_le_left _ _))), if_neg (by exact go_nlti (lin [_] [_, _, _, _] [(1, (.i (.n (.v 0)) (.a (.v 0) (.v 2)))), (1, (.i (.a (.v 2) (.k 1)) (.v 3))), (1, (.i (.v 3) (.v 1)))] 1 (.i (.a (.n (.v 0)) (.k 1)) (.a (.v 0) (.v 1))) rfl (eqi_b a) (lt_i c) (Int.le_max_right _ _))), show m + min p q = i by exact go_eqi (lin [_] [_, _, _] [(1, (.i (.a (.v 0) (.v 2)) (.n (.v 0)))), (1, (.i (.v 1) (.v 2)))] 1 (.i (.a (.v 0) (.v 1)) (.n (.v 0))) rfl (eqi_a a) (Int.min_le_left _ _)) (lin [_] [_, _, _] [(1, (.i (.n (.v 0)) (.a (.v 0) (.v 2)))), (1, (.i (.v 2) (.v 1)))] 1 (.i (.n (.v 0)) (.a (.v 0) (.v 1))) rfl (eqi_b a) (imin_c (lin [] [_, _] [(1, (.i (.a (.v 0) (.k 1)) (.v 1)))] 1 (.i (.v 0) (.v 1)) rfl (lt_i c))))]; rfl
    · rw [if_pos (by exact go_lti (lin [_] [_, _, _] [(1, (.i (.v 1) (.v 2))), (1, (.i (.a (.a (.v 0) (.v 2)) (.k 1)) (.n (.v 0))))] 1 (.i (.a (.a (.v 0) (.v 1)) (.k 1)) (.n (.v 0))) rfl (Int.min_le_right _ _) (ne_li b (lin [_] [_, _, _] [(1, (.i (.a (.v 0) (.v 2)) (.n (.v 0)))), (1, (.i (.v 1) (.v 2)))] 1 (.i (.a (.v 0) (.v 1)) (.n (.v 0))) rfl (eqi_a a) (not_lt_i c))))), if_neg (by exact go_nlti (lin [_] [_, _, _] [(1, (.i (.n (.v 0)) (.a (.v 0) (.v 2)))), (1, (.i (.v 2) (.v 1)))] 1 (.i (.n (.v 0)) (.a (.v 0) (.v 1))) rfl (eqi_b a) (Int.le_max_left _ _))), if_pos (by exact go_lti (lin [_] [_, _, _] [(1, (.i (.a (.v 0) (.v 2)) (.n (.v 0)))), (1, (.i (.v 1) (.v 2)))] 1 (.i (.a (.a (.v 0) (.v 1)) (.k 1)) (.a (.n (.v 0)) (.k 1))) rfl (eqi_a a) (Int.min_le_left _ _))), if_pos (by exact go_lti (lin [_] [_, _, _] [(1, (.i (.a (.v 0) (.v 2)) (.n (.v 0)))), (1, (.i (.v 1) (.v 2)))] 1 (.i (.a (.a (.v 0) (.v 1)) (.k 1)) (.a (.n (.v 0)) (.k 1))) rfl (eqi_a a) (imax_c ((not_lt_i c))))), show m + max p q = i by exact go_eqi (lin [_] [_, _, _] [(1, (.i (.a (.v 0) (.v 2)) (.n (.v 0)))), (1, (.i (.v 1) (.v 2)))] 1 (.i (.a (.v 0) (.v 1)) (.n (.v 0))) rfl (eqi_a a) (imax_c ((not_lt_i c)))) (lin [_] [_, _, _] [(1, (.i (.n (.v 0)) (.a (.v 0) (.v 2)))), (1, (.i (.v 2) (.v 1)))] 1 (.i (.n (.v 0)) (.a (.v 0) (.v 1))) rfl (eqi_b a) (Int.le_max_left _ _))]; rfl
  · rw [if_neg a, if_pos b]
    by_cases c : q < p
    · rw [if_neg (by exact go_nlti (lin [_] [_, _, _] [(1, (.i (.n (.v 0)) (.a (.v 0) (.v 2)))), (1, (.i (.v 2) (.v 1)))] 1 (.i (.n (.v 0)) (.a (.v 0) (.v 1))) rfl (eqi_b b) (imin_d (lin [] [_, _] [(1, (.i (.a (.v 0) (.k 1)) (.v 1)))] 1 (.i (.v 0) (.v 1)) rfl (lt_i c))))), if_neg (by exact go_nlti (lin [_] [_, _, _] [(1, (.i (.n (.v 0)) (.a (.v 0) (.v 2)))), (1, (.i (.v 2) (.v 1)))] 1 (.i (.n (.v 0)) (.a (.v 0) (.v 1))) rfl (eqi_b b) (Int.le_max_right _ _))), if_pos (by exact go_lti (lin [_] [_, _, _] [(1, (.i (.a (.v 0) (.v 2)) (.n (.v 0)))), (1, (.i (.v 1) (.v 2)))] 1 (.i (.a (.a (.v 0) (.v 1)) (.k 1)) (.a (.n (.v 0)) (.k 1))) rfl (eqi_a b) (Int.min_le_right _ _))), if_neg (by exact go_nlti (lin [_] [_, _, _, _] [(1, (.i (.n (.v 0)) (.a (.v 0) (.v 2)))), (1, (.i (.a (.v 2) (.k 1)) (.v 3))), (1, (.i (.v 3) (.v 1)))] 1 (.i (.a (.n (.v 0)) (.k 1)) (.a (.v 0) (.v 1))) rfl (eqi_b b) (lt_i c) (Int.le_max_left _ _))), show m + min p q = i by exact go_eqi (lin [_] [_, _, _] [(1, (.i (.a (.v 0) (.v 2)) (.n (.v 0)))), (1, (.i (.v 1) (.v 2)))] 1 (.i (.a (.v 0) (.v 1)) (.n (.v 0))) rfl (eqi_a b) (Int.min_le_right _ _)) (lin [_] [_, _, _] [(1, (.i (.n (.v 0)) (.a (.v 0) (.v 2)))), (1, (.i (.v 2) (.v 1)))] 1 (.i (.n (.v 0)) (.a (.v 0) (.v 1))) rfl (eqi_b b) (imin_d (lin [] [_, _] [(1, (.i (.a (.v 0) (.k 1)) (.v 1)))] 1 (.i (.v 0) (.v 1)) rfl (lt_i c))))]; rfl
    · rw [if_pos (by exact go_lti (lin [_] [_, _, _] [(1, (.i (.v 1) (.v 2))), (1, (.i (.a (.a (.v 0) (.v 2)) (.k 1)) (.n (.v 0))))] 1 (.i (.a (.a (.v 0) (.v 1)) (.k 1)) (.n (.v 0))) rfl (Int.min_le_left _ _) (ne_li a (lin [_] [_, _, _] [(1, (.i (.a (.v 0) (.v 2)) (.n (.v 0)))), (1, (.i (.v 1) (.v 2)))] 1 (.i (.a (.v 0) (.v 1)) (.n (.v 0))) rfl (eqi_a b) (not_lt_i c))))), if_neg (by exact go_nlti (lin [_] [_, _, _] [(1, (.i (.n (.v 0)) (.a (.v 0) (.v 2)))), (1, (.i (.v 2) (.v 1)))] 1 (.i (.n (.v 0)) (.a (.v 0) (.v 1))) rfl (eqi_b b) (Int.le_max_right _ _))), if_pos (by exact go_lti (lin [_] [_, _, _] [(1, (.i (.a (.v 0) (.v 2)) (.n (.v 0)))), (1, (.i (.v 1) (.v 2)))] 1 (.i (.a (.a (.v 0) (.v 1)) (.k 1)) (.a (.n (.v 0)) (.k 1))) rfl (eqi_a b) (Int.min_le_right _ _))), if_pos (by exact go_lti (lin [_] [_, _, _] [(1, (.i (.a (.v 0) (.v 2)) (.n (.v 0)))), (1, (.i (.v 1) (.v 2)))] 1 (.i (.a (.a (.v 0) (.v 1)) (.k 1)) (.a (.n (.v 0)) (.k 1))) rfl (eqi_a b) (imax_d ((not_lt_i c))))), show m + max p q = i by exact go_eqi (lin [_] [_, _, _] [(1, (.i (.a (.v 0) (.v 2)) (.n (.v 0)))), (1, (.i (.v 1) (.v 2)))] 1 (.i (.a (.v 0) (.v 1)) (.n (.v 0))) rfl (eqi_a b) (imax_d ((not_lt_i c)))) (lin [_] [_, _, _] [(1, (.i (.n (.v 0)) (.a (.v 0) (.v 2)))), (1, (.i (.v 2) (.v 1)))] 1 (.i (.n (.v 0)) (.a (.v 0) (.v 1))) rfl (eqi_b b) (Int.le_max_right _ _))]; rfl
  · rw [if_neg a, if_neg b]
    simp only [lt_step (min_ne a b), lt_step (max_ne a b)]
    simp
theorem adds_eq {p q : Int} (hp : 0 < p) (hq : 0 < q) : ∀ i : Nat, addsV p q i = (rangeKs 0 i).map fun m => ⟨m, (preds p q m).length, snF p q i m⟩
  | 0 => rfl
  | i + 1 => by
    rw [addsV_succ, adds_eq hp hq i, addV, fold_pred, rangeKs_succ, List.map_append, List.map_append, List.map_map]
    congr 1
    · refine List.map_congr_left fun m hm => ?_
      simp only [Function.comp]
      rw [snF_succ (mem_rangeKs hm).1]
    · simp only [List.map_cons, List.map_nil, Int.zero_add]
      have h0 : (preds p q i).count (i : Int) = 0 := List.count_eq_zero.mpr fun h => by have := (preds_mem hp hq h).2; omega
      rw [h0]
      have h1 : snF p q (i + 1 : Nat) (i : Int) = [] := by
        unfold snF
        rw [if_neg (by have : ((i + 1 : Nat) : Int) = (i : Int) + 1 := (by simp); exact go_nlti (lin [_] [_] [(1, (.i (.k 1) (.v 0)))] 1 (.i (.n (.a (.v 0) (.k 1))) (.a (.n (.v 0)) (.v 0))) rfl (imin_k (lin [] [_] [(1, (.i (.a (.k 0) (.k 1)) (.v 0)))] 1 (.i (.k 1) (.v 0)) rfl (lt_i hp)) (lin [] [_] [(1, (.i (.a (.k 0) (.k 1)) (.v 0)))] 1 (.i (.k 1) (.v 0)) rfl (lt_i hq))))), if_neg (by have : ((i + 1 : Nat) : Int) = (i : Int) + 1 := (by simp); exact go_nlti (lin [_] [_, _] [(1, (.i (.a (.k 0) (.k 1)) (.v 1))), (1, (.i (.v 1) (.v 0)))] 1 (.i (.n (.a (.v 0) (.k 1))) (.a (.n (.v 0)) (.v 0))) rfl (lt_i hp) (Int.le_max_left _ _)))]; rfl
      rw [h1]; rfl
/-- the nodes 0 .. c-1, their counters by a function -/
noncomputable def Vf (p q : Int) (c : Nat) (f : Int → Int) : List Nv := (rangeKs 0 c).map fun m => ⟨m, f m, snF p q c m⟩
theorem Vf_congr {p q : Int} {c : Nat} {f g : Int → Int} (h : ∀ m : Int, 0 ≤ m → m < (c : Int) → f m = g m) : Vf p q c f = Vf p q c g :=
  List.map_congr_left fun m hm => by
    obtain ⟨h1, h2⟩ := mem_rangeKs hm
    rw [h m h1 (by exact go_lti (lin [_] [_] [(1, (.i (.a (.v 0) (.k 1)) (.a (.k 0) (.n (.v 0)))))] 1 (.i (.a (.v 0) (.k 1)) (.n (.v 0))) rfl (lt_i h2)))]
theorem Vf_upd {p q : Int} {c : Nat} {f : Int → Int} {x k : Int} {g : Nv → Nv} (hg : ∀ sn, g ⟨x, f x, sn⟩ = ⟨x, k, sn⟩) : updV x g (Vf p q c f) = Vf p q c fun m => if m = x then k else f m := by
  unfold updV Vf
  rw [List.map_map]
  refine List.map_congr_left fun m _ => ?_
  simp only [Function.comp]
  by_cases h : m = x
  · subst h; rw [if_pos rfl, if_pos rfl, hg]
  · rw [if_neg h, if_neg h]
theorem find_map {F : Int → Nv} (hF : ∀ m, (F m).num = m) {x : Int} : ∀ {l : List Int}, x ∈ l → (l.map F).find? (fun e => decide (e.num = x)) = some (F x)
  | a :: l, h => by
    rw [List.map_cons, List.find?_cons]
    by_cases e : a = x
    · subst e; rw [show decide ((F a).num = a) = true by rw [hF]; simp]
    · rw [show decide ((F a).num = x) = false by rw [hF]; simpa using e]
      exact find_map hF ((List.mem_cons.mp h).resolve_left fun q => e q.symm)
theorem Vf_np {p q : Int} {c : Nat} {f : Int → Int} {x : Int} (h0 : 0 ≤ x) (h1 : x < c) : npOf (Vf p q c f) x = f x := by
  unfold npOf Vf
  rw [find_map (fun _ => rfl) (mem_rangeKs'.mpr ⟨h0, by exact go_lti (lin [_] [_] [(1, (.i (.a (.v 0) (.k 1)) (.n (.v 0))))] 1 (.i (.a (.v 0) (.k 1)) (.a (.k 0) (.n (.v 0)))) rfl (lt_i h1))⟩)]; rfl
theorem Vf_sn {p q : Int} {c : Nat} {f : Int → Int} {x : Int} (h0 : 0 ≤ x) (h1 : x < c) : snOf (Vf p q c f) x = snF p q c x := by
  unfold snOf Vf
  rw [find_map (fun _ => rfl) (mem_rangeKs'.mpr ⟨h0, by exact go_lti (lin [_] [_] [(1, (.i (.a (.v 0) (.k 1)) (.n (.v 0))))] 1 (.i (.a (.v 0) (.k 1)) (.a (.k 0) (.n (.v 0)))) rfl (lt_i h1))⟩)]; rfl
theorem Vf_set {p q : Int} {c : Nat} {f : Int → Int} {x k : Int} : setNp k (Vf p q c f) x = Vf p q c fun m => if m = x then k else f m := Vf_upd fun _ => rfl
theorem Vf_dec {p q : Int} {c : Nat} {f : Int → Int} {x : Int} {r : List Int} (h0 : 0 ≤ x) (h1 : x < c) : decS (Vf p q c f, r) x = (Vf p q c fun m => if m = x then f x - 1 else f m, if f x - 1 = 0 then r ++ [x] else r) := by
  unfold decS
  rw [Vf_upd (k := f x - 1) fun _ => rfl, Vf_np h0 h1]
theorem Vf_sets {p q : Int} {c : Nat} {k : Int} : ∀ (l : List Int) (f : Int → Int), l.foldl (setNp k) (Vf p q c f) = Vf p q c fun m => if m ∈ l then k else f m
  | [], f => Vf_congr fun m _ _ => by simp
  | a :: l, f => by
    rw [List.foldl_cons, Vf_set, Vf_sets l]
    refine Vf_congr fun m _ _ => ?_
    by_cases h : m ∈ l
    · rw [if_pos h, if_pos (.tail _ h)]
    · rw [if_neg h]
      by_cases e : m = a
      · rw [if_pos e, if_pos (by rw [e]; exact .head _)]
      · rw [if_neg e, if_neg (by rw [List.mem_cons]; exact fun q => q.elim e h)]
theorem Vf_nums {p q : Int} {c : Nat} {f : Int → Int} : numsV (Vf p q c f) = rangeKs 0 c := by
  unfold numsV Vf
  rw [List.map_map]
  exact List.map_id' _
section
variable (U : Int → Prop) [DecidablePred U] (hs : List Int) (p q : Int)
abbrev Dn (x m : Int) : Prop := U m ∧ m ∉ hs ∧ m < x
noncomputable def cnt (x z m : Int) : Int := if z ≤ m ∧ ¬ Dn U hs x (m - z) then 1 else 0
noncomputable def npS (x y m : Int) : Int := if U m ∧ m < y then (if m < x ∧ m ∉ hs then -2 else -1) else cnt U hs x (min p q) m + cnt U hs x (max p q) m
end
section
variable {U : Int → Prop} [DecidablePred U] {hs : List Int} {p q : Int}
theorem Dn_succ {x m : Int} (h : m ≠ x) : Dn U hs (x + 1) m ↔ Dn U hs x m := by
  unfold Dn
  exact ⟨fun ⟨a, b, c⟩ => ⟨a, b, by exact go_lti ((ne_li h (lin [] [_, _] [(1, (.i (.a (.v 0) (.k 1)) (.a (.v 1) (.k 1))))] 1 (.i (.v 0) (.v 1)) rfl (lt_i ((‹U m ∧ ¬m ∈ hs ∧ m < x + 1›.2).2)))))⟩, fun ⟨a, b, c⟩ => ⟨a, b, by exact go_lti (lin [] [_, _] [(1, (.i (.a (.v 0) (.k 1)) (.v 1)))] 1 (.i (.a (.v 0) (.k 1)) (.a (.v 1) (.k 1))) rfl (lt_i c))⟩⟩
theorem cnt_succ {x z m : Int} (h : m - z ≠ x) : cnt U hs (x + 1) z m = cnt U hs x z m := by
  unfold cnt
  simp only [Dn_succ h]
theorem cnt_skip {x z m : Int} (h : ¬ (U x ∧ x ∉ hs)) : cnt U hs (x + 1) z m = cnt U hs x z m := by
  by_cases e : m - z = x
  · unfold cnt
    have : Dn U hs (x + 1) (m - z) ↔ Dn U hs x (m - z) := by
      unfold Dn
      rw [e]
      exact ⟨fun ⟨a, b, _⟩ => absurd ⟨a, b⟩ h, fun ⟨a, b, _⟩ => absurd ⟨a, b⟩ h⟩
    simp only [this]
  · exact cnt_succ e
theorem cnt_at {x z : Int} (hx : 0 ≤ x) : cnt U hs x z (x + z) = 1 := by
  unfold cnt
  rw [if_pos]
  refine ⟨by exact lin [] [_, _] [(1, (.i (.k 0) (.v 1)))] 1 (.i (.v 0) (.a (.v 1) (.v 0))) rfl hx, fun h => ?_⟩
  have := h.2.2
  omega
theorem cnt_at' {x z : Int} (hU : U x) (hn : x ∉ hs) : cnt U hs (x + 1) z (x + z) = 0 := by
  unfold cnt
  rw [if_neg]
  rintro ⟨_, h⟩
  refine h ?_
  rw [show x + z - z = x by exact go_eqi (lin [] [_, _] [] 1 (.i (.s (.a (.v 0) (.v 1)) (.v 1)) (.v 0)) rfl) (lin [] [_, _] [] 1 (.i (.v 0) (.s (.a (.v 0) (.v 1)) (.v 1))) rfl)]
  exact ⟨hU, hn, by exact go_lti (lin [] [_] [] 1 (.i (.a (.v 0) (.k 1)) (.a (.v 0) (.k 1))) rfl)⟩
theorem npS_hi {x y m : Int} (h : y ≤ m) : npS U hs p q x y m = cnt U hs x (min p q) m + cnt U hs x (max p q) m := by
  unfold npS
  rw [if_neg (fun h' => by omega)]
theorem npS_x {x y : Int} (hU : U x) (hn : x ∉ hs) (hy : x < y) : npS U hs p q (x + 1) y x = -2 := by
  unfold npS
  rw [if_pos ⟨hU, hy⟩, if_pos ⟨by exact go_lti (lin [] [_] [] 1 (.i (.a (.v 0) (.k 1)) (.a (.v 0) (.k 1))) rfl), hn⟩]
theorem npS_old {x y m : Int} (h : m ≠ x) (h1 : m - min p q ≠ x) (h2 : m - max p q ≠ x) : npS U hs p q (x + 1) y m = npS U hs p q x y m := by
  unfold npS
  rw [cnt_succ h1, cnt_succ h2]
  have : (m < x + 1 ∧ m ∉ hs) ↔ (m < x ∧ m ∉ hs) := ⟨fun ⟨a, b⟩ => ⟨by exact go_lti ((ne_li h (lin [] [_, _] [(1, (.i (.a (.v 0) (.k 1)) (.a (.v 1) (.k 1))))] 1 (.i (.v 0) (.v 1)) rfl (lt_i (‹m < x + 1 ∧ ¬m ∈ hs›.1))))), b⟩, fun ⟨a, b⟩ => ⟨by exact go_lti (lin [] [_, _] [(1, (.i (.a (.v 0) (.k 1)) (.v 1)))] 1 (.i (.a (.v 0) (.k 1)) (.a (.v 1) (.k 1))) rfl (lt_i a)), b⟩⟩
  simp only [this]
theorem npS_skip {x y m : Int} (h : ¬ (U x ∧ x ∉ hs)) : npS U hs p q (x + 1) y m = npS U hs p q x y m := by
  unfold npS
  rw [cnt_skip h, cnt_skip h]
  by_cases hu : U m ∧ m < y
  · rw [if_pos hu, if_pos hu]
    have : (m < x + 1 ∧ m ∉ hs) ↔ (m < x ∧ m ∉ hs) := ⟨fun ⟨a, b⟩ => ⟨by
      by_cases e : m = x
      · exact absurd ⟨e ▸ hu.1, e ▸ b⟩ h
      · exact go_lti ((ne_li e (lin [] [_, _] [(1, (.i (.a (.v 0) (.k 1)) (.a (.v 1) (.k 1))))] 1 (.i (.v 0) (.v 1)) rfl (lt_i (‹m < x + 1 ∧ ¬m ∈ hs›.1))))), b⟩, fun ⟨a, b⟩ => ⟨by exact go_lti (lin [] [_, _] [(1, (.i (.a (.v 0) (.k 1)) (.v 1)))] 1 (.i (.a (.v 0) (.k 1)) (.a (.v 1) (.k 1))) rfl (lt_i a)), b⟩⟩
    simp only [this]
  · rw [if_neg hu, if_neg hu]
/-- which numbers are not paid, by their ports -/
noncomputable def URec (U : Int → Prop) (hs : List Int) (p q : Int) (c : Nat) : Prop := ∀ m : Int, 0 ≤ m → m < c → (U m ↔ (min p q ≤ m → U (m - min p q) ∧ m - min p q ∉ hs) ∧ (max p q ≤ m → U (m - max p q) ∧ m - max p q ∉ hs))
theorem cnt_ready {c : Nat} (R : URec U hs p q c) (hlt : min p q < max p q) {x : Int} (h0 : 0 ≤ min p q) (hx : 0 ≤ x) (h1 : x + min p q < c) (hU : U x) (hn : x ∉ hs) : cnt U hs x (max p q) (x + min p q) = 0 ↔ U (x + min p q) := by
  rw [R (x + min p q) (by exact lin [] [_, _] [(1, (.i (.k 0) (.v 1))), (1, (.i (.k 0) (.v 0)))] 1 (.i (.k 0) (.a (.v 0) (.v 1))) rfl h0 hx) h1]
  rw [show x + min p q - min p q = x by exact go_eqi (lin [] [_, _] [] 1 (.i (.s (.a (.v 0) (.v 1)) (.v 1)) (.v 0)) rfl) (lin [] [_, _] [] 1 (.i (.v 0) (.s (.a (.v 0) (.v 1)) (.v 1))) rfl)]
  unfold cnt
  constructor
  · intro h
    refine ⟨fun _ => ⟨hU, hn⟩, fun hm => ?_⟩
    by_cases d : Dn U hs x (x + min p q - max p q)
    · exact ⟨d.1, d.2.1⟩
    · rw [if_pos ⟨hm, d⟩] at h; cases h
  · rintro ⟨_, h⟩
    rw [if_neg]
    rintro ⟨hm, d⟩
    exact d ⟨(h hm).1, (h hm).2, by exact go_lti (lin [] [_, _, _] [(1, (.i (.a (.v 1) (.k 1)) (.v 2)))] 1 (.i (.a (.s (.a (.v 0) (.v 1)) (.v 2)) (.k 1)) (.v 0)) rfl (lt_i hlt))⟩
theorem done_step {c : Nat} {x y : Int} {r : List Int} (hp : 0 < p) (hq : 0 < q) (R : URec U hs p q c) (h0 : 0 ≤ x) (h1 : x < c) (hU : U x) (hn : x ∉ hs) (hy : x < y) (hy2 : y ≤ x + min p q) :
    doneN (Vf p q c (npS U hs p q x y), r) x = (Vf p q c (npS U hs p q (x + 1) y), if x + min p q < c ∧ U (x + min p q) then r ++ [x + min p q] else r) := by
  unfold doneN
  rw [Vf_sn h0 h1, Vf_set]
  unfold snF
  by_cases c1 : x + min p q < c
  · rw [if_pos c1]
    by_cases c2 : x + max p q < c
    · rw [if_pos c2]
      show decS (decS (_, r) _) _ = _
      rw [Vf_dec (by exact lin [] [_, _, _] [(1, (.i (.k 0) (.v 0))), (1, (.i (.a (.v 0) (.k 1)) (.v 2))), (1, (.i (.v 2) (.a (.v 0) (.v 1))))] 1 (.i (.k 0) (.a (.v 0) (.v 1))) rfl h0 (lt_i hy) hy2) c1, if_neg (show ¬ x + min p q = x by exact go_nebi (lin [] [_, _, _] [(1, (.i (.a (.v 0) (.k 1)) (.v 2))), (1, (.i (.v 2) (.a (.v 0) (.v 1))))] 1 (.i (.a (.v 0) (.k 1)) (.a (.v 0) (.v 1))) rfl (lt_i hy) hy2)), Vf_dec (by exact lin [] [_, _, _] [(1, (.i (.a (.k 0) (.k 1)) (.v 2))), (1, (.i (.k 0) (.v 0))), (1, (.i (.v 2) (.v 1)))] 1 (.i (.k 0) (.a (.v 0) (.v 1))) rfl (lt_i hp) h0 (Int.le_max_left _ _)) c2]
      by_cases hlt : min p q < max p q
      · rw [if_neg (show ¬ x + max p q = x + min p q by exact go_nebi (lin [] [_, _, _] [(1, (.i (.a (.v 1) (.k 1)) (.v 2)))] 1 (.i (.a (.a (.v 0) (.v 1)) (.k 1)) (.a (.v 0) (.v 2))) rfl (lt_i hlt))), if_neg (show ¬ x + max p q = x by exact go_nebi (lin [] [_, _, _, _] [(1, (.i (.a (.v 0) (.k 1)) (.v 2))), (1, (.i (.v 2) (.a (.v 0) (.v 3)))), (1, (.i (.a (.v 3) (.k 1)) (.v 1)))] 1 (.i (.a (.v 0) (.k 1)) (.a (.v 0) (.v 1))) rfl (lt_i hy) hy2 (lt_i hlt)))]
        rw [npS_hi (show y ≤ x + min p q by exact hy2), npS_hi (show y ≤ x + max p q by exact lin [] [_, _, _, _] [(1, (.i (.v 0) (.a (.v 1) (.v 3)))), (1, (.i (.a (.v 3) (.k 1)) (.v 2)))] 1 (.i (.v 0) (.a (.v 1) (.v 2))) rfl hy2 (lt_i hlt)), cnt_at h0, cnt_at h0]
        have e1 : cnt U hs x (min p q) (x + max p q) = 1 := by
          unfold cnt
          rw [if_pos ⟨by exact lin [] [_, _, _] [(1, (.i (.k 0) (.v 1))), (1, (.i (.a (.v 0) (.k 1)) (.v 2)))] 1 (.i (.v 0) (.a (.v 1) (.v 2))) rfl h0 (lt_i hlt), fun d => by have := d.2.2; omega⟩]
        rw [e1, if_neg (show ¬ (1 + 1 - 1 : Int) = 0 by decide)]
        congr 1
        · refine Vf_congr fun m _ _ => ?_
          by_cases q1 : m = x + max p q
          · subst q1
            rw [if_pos rfl, npS_hi (by exact lin [] [_, _, _, _] [(1, (.i (.v 0) (.a (.v 1) (.v 3)))), (1, (.i (.a (.v 3) (.k 1)) (.v 2)))] 1 (.i (.v 0) (.a (.v 1) (.v 2))) rfl hy2 (lt_i hlt)), cnt_at' hU hn, cnt_succ (by exact go_nebi (lin [] [_, _, _] [(1, (.i (.a (.v 2) (.k 1)) (.v 1)))] 1 (.i (.a (.v 0) (.k 1)) (.s (.a (.v 0) (.v 1)) (.v 2))) rfl (lt_i hlt))), e1]; rfl
          · rw [if_neg q1]
            by_cases q2 : m = x + min p q
            · subst q2
              rw [if_pos rfl, npS_hi (by exact hy2), cnt_at' hU hn, cnt_succ (by exact go_neai (lin [] [_, _, _] [(1, (.i (.a (.v 1) (.k 1)) (.v 2)))] 1 (.i (.a (.s (.a (.v 0) (.v 1)) (.v 2)) (.k 1)) (.v 0)) rfl (lt_i hlt)))]
              exact go_eqi (lin [] [_] [] 1 (.i (.s (.a (.k 1) (.v 0)) (.k 1)) (.a (.k 0) (.v 0))) rfl) (lin [] [_] [] 1 (.i (.a (.k 0) (.v 0)) (.s (.a (.k 1) (.v 0)) (.k 1))) rfl)
            · rw [if_neg q2]
              by_cases q3 : m = x
              · subst q3; rw [if_pos rfl, npS_x hU hn hy]
              · rw [if_neg q3, npS_old q3 (by omega) (by omega)]
        · have := cnt_ready R hlt (by exact lin [] [_, _, _] [(1, (.i (.a (.v 1) (.k 1)) (.v 2))), (1, (.i (.v 2) (.a (.v 1) (.v 0))))] 1 (.i (.k 0) (.v 0)) rfl (lt_i hy) hy2) h0 c1 hU hn
          by_cases u : U (x + min p q)
          · rw [if_pos (by rw [this.mpr u]; rfl), if_pos ⟨c1, u⟩]
          · rw [if_neg (fun h => u (this.mp (by exact go_eqi (lin [] [_] [(1, (.i (.s (.a (.k 1) (.v 0)) (.k 1)) (.k 0)))] 1 (.i (.v 0) (.k 0)) rfl (eqi_a h)) (lin [] [_] [(1, (.i (.k 0) (.s (.a (.k 1) (.v 0)) (.k 1))))] 1 (.i (.k 0) (.v 0)) rfl (eqi_b h))))), if_neg (fun h => u h.2)]
      · have hpq : max p q = min p q := by exact go_eqi ((not_lt_i hlt)) (lin [] [_, _, _] [(1, (.i (.v 2) (.v 1))), (1, (.i (.v 0) (.v 2)))] 1 (.i (.v 0) (.v 1)) rfl (Int.le_max_right _ _) (Int.min_le_right _ _))
        rw [hpq, if_pos rfl, npS_hi (show y ≤ x + min p q by exact hy2), hpq, cnt_at h0]
        have u : U (x + min p q) := (R _ (by exact lin [] [_, _, _] [(1, (.i (.k 0) (.v 0))), (1, (.i (.a (.v 0) (.k 1)) (.v 2))), (1, (.i (.v 2) (.a (.v 0) (.v 1))))] 1 (.i (.k 0) (.a (.v 0) (.v 1))) rfl h0 (lt_i hy) hy2) c1).mpr ⟨fun _ => by rw [show x + min p q - min p q = x by exact go_eqi (lin [] [_, _] [] 1 (.i (.s (.a (.v 0) (.v 1)) (.v 1)) (.v 0)) rfl) (lin [] [_, _] [] 1 (.i (.v 0) (.s (.a (.v 0) (.v 1)) (.v 1))) rfl)]; exact ⟨hU, hn⟩, fun _ => by rw [hpq, show x + min p q - min p q = x by exact go_eqi (lin [] [_, _] [] 1 (.i (.s (.a (.v 0) (.v 1)) (.v 1)) (.v 0)) rfl) (lin [] [_, _] [] 1 (.i (.v 0) (.s (.a (.v 0) (.v 1)) (.v 1))) rfl)]; exact ⟨hU, hn⟩⟩
        rw [if_neg (show ¬ (1 + 1 - 1 : Int) = 0 by decide), if_pos (show (1 + 1 - 1 - 1 : Int) = 0 by decide), if_pos ⟨c1, u⟩]
        congr 1
        refine Vf_congr fun m _ _ => ?_
        by_cases q2 : m = x + min p q
        · subst q2
          rw [if_pos rfl, npS_hi (by exact hy2), hpq, cnt_at' hU hn]; rfl
        · rw [if_neg q2, if_neg q2]
          by_cases q3 : m = x
          · subst q3; rw [if_pos rfl, npS_x hU hn hy]
          · rw [if_neg q3, npS_old q3 (by omega) (by omega)]
    · rw [if_neg c2]
      show decS (_, r) _ = _
      have hlt : min p q < max p q := by exact go_lti (lin [_] [_, _, _] [(1, (.i (.a (.a (.v 2) (.v 0)) (.k 1)) (.n (.v 0)))), (1, (.i (.n (.v 0)) (.a (.v 2) (.v 1))))] 1 (.i (.a (.v 0) (.k 1)) (.v 1)) rfl (lt_i c1) (not_lt_i c2))
      rw [Vf_dec (by exact lin [] [_, _, _] [(1, (.i (.k 0) (.v 0))), (1, (.i (.a (.v 0) (.k 1)) (.v 2))), (1, (.i (.v 2) (.a (.v 0) (.v 1))))] 1 (.i (.k 0) (.a (.v 0) (.v 1))) rfl h0 (lt_i hy) hy2) c1, if_neg (show ¬ x + min p q = x by exact go_nebi (lin [] [_, _, _] [(1, (.i (.a (.v 0) (.k 1)) (.v 2))), (1, (.i (.v 2) (.a (.v 0) (.v 1))))] 1 (.i (.a (.v 0) (.k 1)) (.a (.v 0) (.v 1))) rfl (lt_i hy) hy2)), npS_hi (show y ≤ x + min p q by exact hy2), cnt_at h0]
      congr 1
      · refine Vf_congr fun m _ hm => ?_
        by_cases q2 : m = x + min p q
        · subst q2
          rw [if_pos rfl, npS_hi (by exact hy2), cnt_at' hU hn, cnt_succ (by exact go_neai (lin [] [_, _, _] [(1, (.i (.a (.v 1) (.k 1)) (.v 2)))] 1 (.i (.a (.s (.a (.v 0) (.v 1)) (.v 2)) (.k 1)) (.v 0)) rfl (lt_i hlt)))]
          exact go_eqi (lin [] [_] [] 1 (.i (.s (.a (.k 1) (.v 0)) (.k 1)) (.a (.k 0) (.v 0))) rfl) (lin [] [_] [] 1 (.i (.a (.k 0) (.v 0)) (.s (.a (.k 1) (.v 0)) (.k 1))) rfl)
        · rw [if_neg q2]
          by_cases q3 : m = x
          · subst q3; rw [if_pos rfl, npS_x hU hn hy]
          · rw [if_neg q3, npS_old q3 (by omega) (by exact go_neai (lin [_] [_, _, _] [(1, (.i (.n (.v 0)) (.a (.v 2) (.v 1)))), (1, (.i (.a (.v 0) (.k 1)) (.n (.v 0))))] 1 (.i (.a (.s (.v 0) (.v 1)) (.k 1)) (.v 2)) rfl (not_lt_i c2) (lt_i hm)))]
      · have := cnt_ready R hlt (by exact lin [] [_, _, _] [(1, (.i (.a (.v 1) (.k 1)) (.v 2))), (1, (.i (.v 2) (.a (.v 1) (.v 0))))] 1 (.i (.k 0) (.v 0)) rfl (lt_i hy) hy2) h0 c1 hU hn
        by_cases u : U (x + min p q)
        · rw [if_pos (by rw [this.mpr u]; rfl), if_pos ⟨c1, u⟩]
        · rw [if_neg (fun h => u (this.mp (by exact go_eqi (lin [] [_] [(1, (.i (.s (.a (.k 1) (.v 0)) (.k 1)) (.k 0)))] 1 (.i (.v 0) (.k 0)) rfl (eqi_a h)) (lin [] [_] [(1, (.i (.k 0) (.s (.a (.k 1) (.v 0)) (.k 1))))] 1 (.i (.k 0) (.v 0)) rfl (eqi_b h))))), if_neg (fun h => u h.2)]
  · rw [if_neg c1, if_neg (show ¬ x + max p q < c by exact go_nlti (lin [_] [_, _, _, _] [(1, (.i (.n (.v 0)) (.a (.v 0) (.v 2)))), (1, (.i (.v 2) (.v 3))), (1, (.i (.v 3) (.v 1)))] 1 (.i (.n (.v 0)) (.a (.v 0) (.v 1))) rfl (not_lt_i c1) (Int.min_le_left _ _) (Int.le_max_left _ _))), if_neg (fun h => c1 h.1)]
    show (_, r) = _
    congr 1
    refine Vf_congr fun m _ hm => ?_
    by_cases q3 : m = x
    · subst q3; rw [if_pos rfl, npS_x hU hn hy]
    · rw [if_neg q3, npS_old q3 (by exact go_neai (lin [_] [_, _, _] [(1, (.i (.n (.v 0)) (.a (.v 2) (.v 1)))), (1, (.i (.a (.v 0) (.k 1)) (.n (.v 0))))] 1 (.i (.a (.s (.v 0) (.v 1)) (.k 1)) (.v 2)) rfl (not_lt_i c1) (lt_i hm))) (by exact go_neai (lin [_] [_, _, _, _, _] [(1, (.i (.n (.v 0)) (.a (.v 2) (.v 3)))), (1, (.i (.a (.v 0) (.k 1)) (.n (.v 0)))), (1, (.i (.v 3) (.v 4))), (1, (.i (.v 4) (.v 1)))] 1 (.i (.a (.s (.v 0) (.v 1)) (.k 1)) (.v 2)) rfl (not_lt_i c1) (lt_i hm) (Int.min_le_left _ _) (Int.le_max_left _ _)))]
/-- the numbers of a stretch that the sorter hands out -/
noncomputable def seg (U : Int → Prop) [DecidablePred U] (c : Nat) (a : Int) (n : Nat) : List Int := (rangeKs a n).filter fun m => decide (m < c ∧ U m)
theorem seg_succ {c : Nat} {a : Int} {n : Nat} : seg U c a (n + 1) = if a + n < c ∧ U (a + n) then seg U c a n ++ [a + n] else seg U c a n := by
  unfold seg
  rw [rangeKs_succ, List.filter_append]
  by_cases h : a + n < c ∧ U (a + n)
  · rw [if_pos h, List.filter_cons_of_pos (by simpa using h)]; rfl
  · rw [if_neg h, List.filter_cons_of_neg (by simpa using h)]; simp
theorem seg_mem {c : Nat} {a m : Int} {n : Nat} : m ∈ seg U c a n ↔ a ≤ m ∧ m < a + n ∧ m < c ∧ U m := by
  unfold seg
  rw [List.mem_filter, mem_rangeKs']
  simp only [decide_eq_true_eq, and_assoc]
theorem seg_asc {c : Nat} {a : Int} {n : Nat} : (seg U c a n).Pairwise (· < ·) := (rangeKs_asc a n).filter _
/-- a stretch's numbers that are done -/
noncomputable def fin (U : Int → Prop) [DecidablePred U] (hs : List Int) (c : Nat) (a : Int) (n : Nat) : List Int := (seg U c a n).filter fun x => !(hs.any (· == x))
theorem any_mem {x : Int} : (!(hs.any (· == x))) = decide (x ∉ hs) := by
  by_cases h : x ∈ hs
  · rw [show hs.any (· == x) = true from List.any_eq_true.mpr ⟨x, h, by simp⟩]; simp [h]
  · rw [show hs.any (· == x) = false from by
      rw [Bool.eq_false_iff]
      intro q
      obtain ⟨y, hy, e⟩ := List.any_eq_true.mp q
      exact h (by rw [← eq_of_beq e]; exact hy)]
    simp [h]
theorem fin_succ {c : Nat} {a : Int} {n : Nat} : fin U hs c a (n + 1) = if a + n < c ∧ U (a + n) ∧ a + n ∉ hs then fin U hs c a n ++ [a + (n : Int)] else fin U hs c a n := by
  unfold fin
  rw [seg_succ]
  by_cases h : a + n < c ∧ U (a + n)
  · rw [if_pos h, List.filter_append]
    by_cases h2 : a + n ∉ hs
    · rw [if_pos ⟨h.1, h.2, h2⟩, List.filter_cons_of_pos (by rw [any_mem]; simpa using h2)]; rfl
    · rw [if_neg (fun q => h2 q.2.2), List.filter_cons_of_neg (by rw [any_mem]; simpa using h2)]; simp
  · rw [if_neg h, if_neg (fun q => h ⟨q.1, q.2.1⟩)]
theorem done_fold {c : Nat} {b : Int} (hp : 0 < p) (hq : 0 < q) (R : URec U hs p q c) (hb : 0 ≤ b) : ∀ j : Nat, j ≤ (min p q).toNat →
    (fin U hs c b j).foldl doneN (Vf p q c (npS U hs p q b (b + min p q)), []) = (Vf p q c (npS U hs p q (b + j) (b + min p q)), seg U c (b + min p q) j)
  | 0, _ => by
    show (_, []) = _
    rw [show b + ((0 : Nat) : Int) = b by simp]; rfl
  | j + 1, hj => by
    have ih := done_fold hp hq R hb j (by exact lin [_, _] [] [(1, (.n (.a (.v 0) (.k 1)) (.v 1)))] 1 (.n (.v 0) (.v 1)) rfl hj)
    rw [fin_succ, seg_succ]
    have e2 : b + min p q + (j : Int) = b + j + min p q := by exact go_eqi (lin [_] [_, _] [] 1 (.i (.a (.a (.v 0) (.v 1)) (.n (.v 0))) (.a (.a (.v 0) (.n (.v 0))) (.v 1))) rfl) (lin [_] [_, _] [] 1 (.i (.a (.a (.v 0) (.n (.v 0))) (.v 1)) (.a (.a (.v 0) (.v 1)) (.n (.v 0)))) rfl)
    have e3 : b + ((j + 1 : Nat) : Int) = b + j + 1 := by simp; exact go_eqi (lin [_] [_] [] 1 (.i (.a (.v 0) (.a (.n (.v 0)) (.k 1))) (.a (.a (.v 0) (.n (.v 0))) (.k 1))) rfl) (lin [_] [_] [] 1 (.i (.a (.a (.v 0) (.n (.v 0))) (.k 1)) (.a (.v 0) (.a (.n (.v 0)) (.k 1)))) rfl)
    rw [e2, e3]
    by_cases h : b + j < c ∧ U (b + j) ∧ b + j ∉ hs
    · rw [if_pos h, List.foldl_append, ih]
      show doneN _ _ = _
      rw [done_step hp hq R (by exact lin [_] [_] [(1, (.i (.k 0) (.v 0)))] 1 (.i (.k 0) (.a (.v 0) (.n (.v 0)))) rfl hb) h.1 h.2.1 h.2.2 (by exact go_lti (lin [_, _] [_, _] [(1, (.n (.a (.v 0) (.k 1)) (.v 1))), (1, (.i (.n (.v 1)) (.v 1)))] 1 (.i (.a (.a (.v 0) (.n (.v 0))) (.k 1)) (.a (.v 0) (.v 1))) rfl hj (tn_b (lin [] [_] [(1, (.i (.k 1) (.v 0)))] 1 (.i (.k 0) (.v 0)) rfl (imin_k (lin [] [_] [(1, (.i (.a (.k 0) (.k 1)) (.v 0)))] 1 (.i (.k 1) (.v 0)) rfl (lt_i hp)) (lin [] [_] [(1, (.i (.a (.k 0) (.k 1)) (.v 0)))] 1 (.i (.k 1) (.v 0)) rfl (lt_i hq))))))) (by exact lin [_] [_, _] [] 1 (.i (.a (.v 0) (.v 1)) (.a (.a (.v 0) (.n (.v 0))) (.v 1))) rfl)]
    · rw [if_neg h, ih]
      have e : ¬ (b + j + min p q < c ∧ U (b + j + min p q)) := by
        rintro ⟨a1, a2⟩
        have := ((R _ (by exact lin [_] [_, _] [(1, (.i (.k 0) (.v 0))), (1, (.i (.k 1) (.v 1)))] 1 (.i (.k 0) (.a (.a (.v 0) (.n (.v 0))) (.v 1))) rfl hb (imin_k (lin [] [_] [(1, (.i (.a (.k 0) (.k 1)) (.v 0)))] 1 (.i (.k 1) (.v 0)) rfl (lt_i hp)) (lin [] [_] [(1, (.i (.a (.k 0) (.k 1)) (.v 0)))] 1 (.i (.k 1) (.v 0)) rfl (lt_i hq)))) a1).mp a2).1 (by exact lin [_] [_, _] [(1, (.i (.k 0) (.v 1)))] 1 (.i (.v 0) (.a (.a (.v 1) (.n (.v 0))) (.v 0))) rfl hb)
        rw [show b + j + min p q - min p q = b + j by exact go_eqi (lin [_] [_, _] [] 1 (.i (.s (.a (.a (.v 0) (.n (.v 0))) (.v 1)) (.v 1)) (.a (.v 0) (.n (.v 0)))) rfl) (lin [_] [_, _] [] 1 (.i (.a (.v 0) (.n (.v 0))) (.s (.a (.a (.v 0) (.n (.v 0))) (.v 1)) (.v 1))) rfl)] at this
        exact h ⟨by exact go_lti (lin [_, _] [_, _] [(1, (.i (.a (.a (.a (.v 0) (.n (.v 0))) (.v 1)) (.k 1)) (.n (.v 1)))), (1, (.i (.k 1) (.v 1)))] 1 (.i (.a (.a (.v 0) (.n (.v 0))) (.k 1)) (.n (.v 1))) rfl (lt_i a1) (imin_k (lin [] [_] [(1, (.i (.a (.k 0) (.k 1)) (.v 0)))] 1 (.i (.k 1) (.v 0)) rfl (lt_i hp)) (lin [] [_] [(1, (.i (.a (.k 0) (.k 1)) (.v 0)))] 1 (.i (.k 1) (.v 0)) rfl (lt_i hq)))), this.1, this.2⟩
      rw [if_neg e]
      congr 1
      refine Vf_congr fun m _ hm => ?_
      by_cases h1 : b + j < c
      · exact (npS_skip fun q => h ⟨h1, q.1, q.2⟩).symm
      · exact (npS_old (by exact go_neai (lin [_, _] [_, _] [(1, (.i (.a (.v 0) (.k 1)) (.n (.v 1)))), (1, (.i (.n (.v 1)) (.a (.v 1) (.n (.v 0)))))] 1 (.i (.a (.v 0) (.k 1)) (.a (.v 1) (.n (.v 0)))) rfl (lt_i hm) (not_lt_i h1))) (by exact go_neai (lin [_, _] [_, _, _] [(1, (.i (.a (.v 0) (.k 1)) (.n (.v 1)))), (1, (.i (.n (.v 1)) (.a (.v 2) (.n (.v 0))))), (1, (.i (.k 1) (.v 1)))] 1 (.i (.a (.s (.v 0) (.v 1)) (.k 1)) (.a (.v 2) (.n (.v 0)))) rfl (lt_i hm) (not_lt_i h1) (imin_k (lin [] [_] [(1, (.i (.a (.k 0) (.k 1)) (.v 0)))] 1 (.i (.k 1) (.v 0)) rfl (lt_i hp)) (lin [] [_] [(1, (.i (.a (.k 0) (.k 1)) (.v 0)))] 1 (.i (.k 1) (.v 0)) rfl (lt_i hq))))) (by exact go_neai (lin [_, _] [_, _, _, _] [(1, (.i (.a (.k 0) (.k 1)) (.v 3))), (1, (.i (.a (.v 0) (.k 1)) (.n (.v 1)))), (1, (.i (.n (.v 1)) (.a (.v 2) (.n (.v 0))))), (1, (.i (.v 3) (.v 1)))] 1 (.i (.a (.s (.v 0) (.v 1)) (.k 1)) (.a (.v 2) (.n (.v 0)))) rfl (lt_i hp) (lt_i hm) (not_lt_i h1) (Int.le_max_left _ _)))).symm
theorem mid_eq {c : Nat} {b : Int} (hb : 0 ≤ min p q) : (seg U c b (min p q).toNat).foldl (setNp (-1)) (Vf p q c (npS U hs p q b b)) = Vf p q c (npS U hs p q b (b + min p q)) := by
  rw [Vf_sets]
  refine Vf_congr fun m _ hm => ?_
  by_cases h : m ∈ seg U c b (min p q).toNat
  · rw [if_pos h]
    rw [seg_mem] at h
    unfold npS
    rw [if_pos ⟨h.2.2.2, by exact go_lti (lin [_] [_, _, _] [(1, (.i (.a (.v 0) (.k 1)) (.a (.v 1) (.n (.v 0))))), (1, (.i (.n (.v 0)) (.v 2)))] 1 (.i (.a (.v 0) (.k 1)) (.a (.v 1) (.v 2))) rfl (lt_i ((h.2).1)) (tn_b (hb)))⟩, if_neg (fun q => by omega)]
  · rw [if_neg h]
    rw [seg_mem] at h
    unfold npS
    by_cases u : U m
    · by_cases l : m < b
      · rw [if_pos (show U m ∧ m < b from ⟨u, l⟩), if_pos (show U m ∧ m < b + min p q from ⟨u, by exact go_lti (lin [] [_, _, _] [(1, (.i (.k 0) (.v 2))), (1, (.i (.a (.v 0) (.k 1)) (.v 1)))] 1 (.i (.a (.v 0) (.k 1)) (.a (.v 1) (.v 2))) rfl hb (lt_i l))⟩)]
      · rw [if_neg (fun q => l q.2), if_neg (fun q => h ⟨by exact (not_lt_i l), by exact go_lti (lin [_] [_, _, _] [(1, (.i (.a (.v 0) (.k 1)) (.a (.v 1) (.v 2)))), (1, (.i (.v 2) (.n (.v 0))))] 1 (.i (.a (.v 0) (.k 1)) (.a (.v 1) (.n (.v 0)))) rfl (lt_i (q.2)) (tn_a _)), hm, u⟩)]
    · rw [if_neg (fun q => u q.1), if_neg (fun q => u q.1)]
theorem filter_take {f : Int → Bool} {n : Int} : ∀ {l : List Int} {i : Nat}, (l.filter f)[i]? = some n → ∃ j, l[j]? = some n ∧ (l.filter f).take i = (l.take j).filter f
  | [], i, h => by simp at h
  | a :: l, i, h => by
    by_cases e : f a
    · rw [List.filter_cons_of_pos e] at h ⊢
      cases i with
      | zero => exact ⟨0, by simpa using h, by simp⟩
      | succ i =>
        obtain ⟨j, h1, h2⟩ := filter_take (l := l) (i := i) (by simpa using h)
        exact ⟨j + 1, by simpa using h1, by rw [List.take_succ_cons, List.take_succ_cons, List.filter_cons_of_pos e, h2]⟩
    · rw [List.filter_cons_of_neg e] at h ⊢
      obtain ⟨j, h1, h2⟩ := filter_take (l := l) (i := i) h
      exact ⟨j + 1, by simpa using h1, by rw [List.take_succ_cons, List.filter_cons_of_neg e, h2]⟩
theorem rangeKs_take (a : Int) {n j : Nat} (h : j ≤ n) : (rangeKs a n).take j = rangeKs a j := by
  unfold rangeKs
  rw [← List.map_take, List.take_range, Nat.min_eq_left h]
theorem rangeKs_at {a x : Int} {n j : Nat} (h : (rangeKs a n)[j]? = some x) : j < n ∧ x = a + j := by
  unfold rangeKs at h
  rw [List.getElem?_map] at h
  obtain ⟨k, h1, h2⟩ := Option.map_eq_some_iff.mp h
  have := List.getElem?_eq_some_iff.mp h1
  obtain ⟨h3, h4⟩ := this
  rw [List.length_range] at h3
  rw [List.getElem_range] at h4
  subst h4
  exact ⟨h3, h2.symm⟩
theorem fin_take {c : Nat} {b x : Int} {n i : Nat} (h : (fin U hs c b n)[i]? = some x) : ∃ j : Nat, j < n ∧ x = b + j ∧ (fin U hs c b n).take i = fin U hs c b j := by
  unfold fin seg at h ⊢
  rw [List.filter_filter] at h ⊢
  obtain ⟨j, h1, h2⟩ := filter_take h
  obtain ⟨h3, h4⟩ := rangeKs_at h1
  refine ⟨j, h3, h4, ?_⟩
  rw [h2, rangeKs_take _ (Nat.le_of_lt h3), List.filter_filter]
/-- the state ahead of round k -/
structure RInv (U : Int → Prop) [DecidablePred U] (hs : List Int) (p q : Int) (c : Nat) (h0 : Int) (k : Nat) (st : RS) : Prop where
  v : st.V = Vf p q c (npS U hs p q (k * min p q) (k * min p q))
  r : st.r = seg U c (k * min p q) (min p q).toNat
  le : st.fi ≤ st.po
  lt : h0 < k * min p q → st.fi < st.po
theorem RInv.done {c : Nat} {h0 : Int} {k : Nat} {st : RS} (I : RInv U hs p q c h0 k st) : st.done hs = fin U hs c (k * min p q) (min p q).toNat := by
  unfold RS.done fin; rw [I.r]
theorem RInv.mid {c : Nat} {h0 : Int} {k : Nat} {st : RS} (hp : 0 < p) (hq : 0 < q) (I : RInv U hs p q c h0 k st) : st.mid = Vf p q c (npS U hs p q (k * min p q) (k * min p q + min p q)) := by
  unfold RS.mid; rw [I.r, I.v, mid_eq (by exact lin [] [_] [(1, (.i (.k 1) (.v 0)))] 1 (.i (.k 0) (.v 0)) rfl (imin_k (lin [] [_] [(1, (.i (.a (.k 0) (.k 1)) (.v 0)))] 1 (.i (.k 1) (.v 0)) rfl (lt_i hp)) (lin [] [_] [(1, (.i (.a (.k 0) (.k 1)) (.v 0)))] 1 (.i (.k 1) (.v 0)) rfl (lt_i hq))))]
theorem filter_lt {f : Int → Bool} {x : Int} : ∀ {l : List Int}, x ∈ l → f x = false → (l.filter f).length < l.length
  | a :: l, h, e => by
    have hl := List.length_filter_le f l
    rcases List.mem_cons.mp h with rfl | h
    · rw [List.filter_cons_of_neg (by rw [e]; simp), List.length_cons]; exact lin [_, _] [] [(1, (.n (.v 0) (.v 1)))] 1 (.n (.a (.v 0) (.k 1)) (.a (.v 1) (.k 1))) rfl hl
    · have := filter_lt h e
      by_cases q : f a
      · rw [List.filter_cons_of_pos q, List.length_cons, List.length_cons]; exact lin [_, _] [] [(1, (.n (.a (.v 0) (.k 1)) (.v 1)))] 1 (.n (.a (.a (.v 0) (.k 1)) (.k 1)) (.a (.v 1) (.k 1))) rfl this
      · rw [List.filter_cons_of_neg q, List.length_cons]; exact lin [_, _] [] [(1, (.n (.v 0) (.v 1)))] 1 (.n (.a (.v 0) (.k 1)) (.a (.v 1) (.k 1))) rfl hl
theorem RInv.next {c : Nat} {h0 : Int} {k : Nat} {st : RS} (hp : 0 < p) (hq : 0 < q) (R : URec U hs p q c) (hh : h0 ∈ hs) (hU : U h0) (hc : h0 < c) (I : RInv U hs p q c h0 k st) : RInv U hs p q c h0 (k + 1) (rnext hs st) := by
  have hb : 0 ≤ (k : Int) * min p q := Int.mul_nonneg (Int.natCast_nonneg _) (by exact lin [] [_] [(1, (.i (.k 1) (.v 0)))] 1 (.i (.k 0) (.v 0)) rfl (imin_k (lin [] [_] [(1, (.i (.a (.k 0) (.k 1)) (.v 0)))] 1 (.i (.k 1) (.v 0)) rfl (lt_i hp)) (lin [] [_] [(1, (.i (.a (.k 0) (.k 1)) (.v 0)))] 1 (.i (.k 1) (.v 0)) rfl (lt_i hq))))
  have ek : ((k + 1 : Nat) : Int) * min p q = k * min p q + min p q := by rw [Int.natCast_add, Int.add_mul]; simp
  have hf := done_fold hp hq R hb (min p q).toNat (Nat.le_refl _)
  have e1 : (k : Int) * min p q + ((min p q).toNat : Int) = k * min p q + min p q := by exact go_eqi (lin [_] [_, _] [(1, (.i (.n (.v 0)) (.v 1)))] 1 (.i (.a (.v 0) (.n (.v 0))) (.a (.v 0) (.v 1))) rfl (tn_b (lin [] [_] [(1, (.i (.k 1) (.v 0)))] 1 (.i (.k 0) (.v 0)) rfl (imin_k (lin [] [_] [(1, (.i (.a (.k 0) (.k 1)) (.v 0)))] 1 (.i (.k 1) (.v 0)) rfl (lt_i hp)) (lin [] [_] [(1, (.i (.a (.k 0) (.k 1)) (.v 0)))] 1 (.i (.k 1) (.v 0)) rfl (lt_i hq)))))) (lin [_] [_, _] [(1, (.i (.v 1) (.n (.v 0))))] 1 (.i (.a (.v 0) (.v 1)) (.a (.v 0) (.n (.v 0)))) rfl (tn_a _))
  rw [e1] at hf
  have hl : (st.done hs).length ≤ st.r.length := List.length_filter_le _ _
  have h1 := I.le
  unfold rnext
  rw [I.mid hp hq, I.done, hf]
  refine ⟨by rw [ek], by rw [ek], ?_, fun hq2 => ?_⟩
  · show st.fi + _ ≤ st.po + _
    rw [← I.done]; exact lin [_, _] [_, _] [(1, (.n (.v 0) (.v 1))), (1, (.i (.v 0) (.v 1)))] 1 (.i (.a (.v 0) (.n (.v 0))) (.a (.v 1) (.n (.v 1)))) rfl hl h1
  · show st.fi + _ < st.po + _
    rw [← I.done]
    rw [ek] at hq2
    by_cases l : h0 < k * min p q
    · have := I.lt l; exact go_lti (lin [_, _] [_, _] [(1, (.n (.v 0) (.v 1))), (1, (.i (.a (.v 0) (.k 1)) (.v 1)))] 1 (.i (.a (.a (.v 0) (.n (.v 0))) (.k 1)) (.a (.v 1) (.n (.v 1)))) rfl hl (lt_i this))
    · have : (st.done hs).length < st.r.length := filter_lt (x := h0) (by rw [I.r, seg_mem]; exact ⟨by exact (not_lt_i l), by exact go_lti (lin [_] [_, _, _] [(1, (.i (.a (.v 1) (.v 2)) (.a (.v 1) (.n (.v 0))))), (1, (.i (.a (.v 0) (.k 1)) (.a (.v 1) (.v 2))))] 1 (.i (.a (.v 0) (.k 1)) (.a (.v 1) (.n (.v 0)))) rfl (eqi_b e1) (lt_i hq2)), hc, hU⟩) (by rw [any_mem]; simpa using hh)
      exact go_lti (lin [_, _] [_, _] [(1, (.i (.v 0) (.v 1))), (1, (.n (.a (.v 0) (.k 1)) (.v 1)))] 1 (.i (.a (.a (.v 0) (.n (.v 0))) (.k 1)) (.a (.v 1) (.n (.v 1)))) rfl h1 this)
theorem RInv.good {c : Nat} {h0 : Int} {k : Nat} {st : RS} (hp : 0 < p) (hq : 0 < q) (h64 : min p q ≤ 64) (R : URec U hs p q c) (I : RInv U hs p q c h0 k st) : RGood hs st := by
  have hb : 0 ≤ (k : Int) * min p q := Int.mul_nonneg (Int.natCast_nonneg _) (by exact lin [] [_] [(1, (.i (.k 1) (.v 0)))] 1 (.i (.k 0) (.v 0)) rfl (imin_k (lin [] [_] [(1, (.i (.a (.k 0) (.k 1)) (.v 0)))] 1 (.i (.k 1) (.v 0)) rfl (lt_i hp)) (lin [] [_] [(1, (.i (.a (.k 0) (.k 1)) (.v 0)))] 1 (.i (.k 1) (.v 0)) rfl (lt_i hq))))
  refine ⟨fun x hx => ?_, ?_, fun i n hi => ?_⟩
  · rw [I.r, seg_mem] at hx
    rw [I.v, Vf_nums, mem_rangeKs']
    exact ⟨by exact lin [] [_, _] [(1, (.i (.k 0) (.v 1))), (1, (.i (.v 1) (.v 0)))] 1 (.i (.k 0) (.v 0)) rfl hb (hx.1), by exact go_lti (lin [_] [_] [(1, (.i (.a (.v 0) (.k 1)) (.n (.v 0))))] 1 (.i (.a (.v 0) (.k 1)) (.a (.k 0) (.n (.v 0)))) rfl (lt_i (((hx.2).2).1)))⟩
  · rw [I.r]
    have h1 : (seg U c (k * min p q) (min p q).toNat).length ≤ (rangeKs (k * min p q) (min p q).toNat).length := List.length_filter_le _ _
    rw [rangeKs_length] at h1
    exact lin [_, _] [_] [(1, (.i (.v 0) (.k 64))), (1, (.n (.v 0) (.v 1))), (1, (.i (.n (.v 1)) (.v 0)))] 1 (.n (.v 0) (.k 64)) rfl h64 h1 (tn_b (lin [] [_] [(1, (.i (.k 1) (.v 0)))] 1 (.i (.k 0) (.v 0)) rfl (imin_k (lin [] [_] [(1, (.i (.a (.k 0) (.k 1)) (.v 0)))] 1 (.i (.k 1) (.v 0)) rfl (lt_i hp)) (lin [] [_] [(1, (.i (.a (.k 0) (.k 1)) (.v 0)))] 1 (.i (.k 1) (.v 0)) rfl (lt_i hq)))))
  · rw [I.done] at hi ⊢
    have hm := List.mem_of_getElem? hi
    obtain ⟨j, h1, h2, h3⟩ := fin_take hi
    unfold fin at hm
    obtain ⟨m1, m2⟩ := List.mem_filter.mp hm
    rw [seg_mem] at m1
    rw [h3, I.mid hp hq, done_fold hp hq R hb j (Nat.le_of_lt h1)]
    show npOf (Vf _ _ _ _) n = -1
    rw [Vf_np (by exact lin [] [_, _] [(1, (.i (.k 0) (.v 1))), (1, (.i (.v 1) (.v 0)))] 1 (.i (.k 0) (.v 0)) rfl hb (m1.1)) m1.2.2.1]
    unfold npS
    rw [if_pos ⟨m1.2.2.2, by exact go_lti (lin [_] [_, _, _] [(1, (.i (.a (.v 0) (.k 1)) (.a (.v 1) (.n (.v 0))))), (1, (.i (.n (.v 0)) (.v 2)))] 1 (.i (.a (.v 0) (.k 1)) (.a (.v 1) (.v 2))) rfl (lt_i ((m1.2).1)) (tn_b (lin [] [_] [(1, (.i (.k 1) (.v 0)))] 1 (.i (.k 0) (.v 0)) rfl (imin_k (lin [] [_] [(1, (.i (.a (.k 0) (.k 1)) (.v 0)))] 1 (.i (.k 1) (.v 0)) rfl (lt_i hp)) (lin [] [_] [(1, (.i (.a (.k 0) (.k 1)) (.v 0)))] 1 (.i (.k 1) (.v 0)) rfl (lt_i hq))))))⟩, if_neg (fun q => by omega)]
theorem U_down {c : Nat} (R : URec U hs p q c) (h : 0 ≤ min p q) : ∀ (i : Nat) {m : Int}, m < c → U m → 0 ≤ m - i * min p q → U (m - i * min p q)
  | 0, m, _, hU, _ => by rw [show m - ((0 : Nat) : Int) * min p q = m by simp]; exact hU
  | i + 1, m, hc, hU, h0 => by
    have e : ((i + 1 : Nat) : Int) * min p q = i * min p q + min p q := by rw [Int.natCast_add, Int.add_mul]; simp
    rw [e] at h0 ⊢
    have hi : 0 ≤ (i : Int) * min p q := Int.mul_nonneg (Int.natCast_nonneg _) h
    have h1 := U_down R h i hc hU (by exact lin [] [_, _, _] [(1, (.i (.k 0) (.v 2))), (1, (.i (.k 0) (.s (.v 0) (.a (.v 1) (.v 2)))))] 1 (.i (.k 0) (.s (.v 0) (.v 1))) rfl h h0)
    have := (((R _ (by exact lin [] [_, _, _] [(1, (.i (.k 0) (.v 2))), (1, (.i (.k 0) (.s (.v 0) (.a (.v 1) (.v 2)))))] 1 (.i (.k 0) (.s (.v 0) (.v 1))) rfl h h0) (by exact go_lti (lin [_] [_, _] [(1, (.i (.a (.v 0) (.k 1)) (.n (.v 0)))), (1, (.i (.k 0) (.v 1)))] 1 (.i (.a (.s (.v 0) (.v 1)) (.k 1)) (.n (.v 0))) rfl (lt_i hc) hi))).mp h1).1 (by exact lin [] [_, _, _] [(1, (.i (.k 0) (.s (.v 1) (.a (.v 2) (.v 0)))))] 1 (.i (.v 0) (.s (.v 1) (.v 2))) rfl h0)).1
    rw [show m - (i * min p q + min p q) = m - i * min p q - min p q by exact go_eqi (lin [] [_, _, _] [] 1 (.i (.s (.v 0) (.a (.v 1) (.v 2))) (.s (.s (.v 0) (.v 1)) (.v 2))) rfl) (lin [] [_, _, _] [] 1 (.i (.s (.s (.v 0) (.v 1)) (.v 2)) (.s (.v 0) (.a (.v 1) (.v 2)))) rfl)]
    exact this
theorem RInv.act {c : Nat} {h0 : Int} {k : Nat} {st : RS} (hp : 0 < p) (hq : 0 < q) (R : URec U hs p q c) (hU : U h0) (hc : h0 < c) (I : RInv U hs p q c h0 k st) : st.act = true := by
  unfold RS.act
  by_cases l : h0 < k * min p q
  · have := I.lt l
    simp [this]
  · have hm : 0 < min p q := by exact go_lti (lin [] [_] [(1, (.i (.k 1) (.v 0)))] 1 (.i (.a (.k 0) (.k 1)) (.v 0)) rfl (imin_k (lin [] [_] [(1, (.i (.a (.k 0) (.k 1)) (.v 0)))] 1 (.i (.k 1) (.v 0)) rfl (lt_i hp)) (lin [] [_] [(1, (.i (.a (.k 0) (.k 1)) (.v 0)))] 1 (.i (.k 1) (.v 0)) rfl (lt_i hq))))
    have d1 := Int.mul_ediv_add_emod (h0 - k * min p q) (min p q)
    have d2 := Int.emod_nonneg (h0 - k * min p q) (show min p q ≠ 0 by exact go_nebi ((lt_i hm)))
    have d3 := Int.emod_lt_of_pos (h0 - k * min p q) hm
    have d4 : 0 ≤ (h0 - k * min p q) / min p q := Int.ediv_nonneg (by exact lin [] [_, _] [(1, (.i (.v 1) (.v 0)))] 1 (.i (.k 0) (.s (.v 0) (.v 1))) rfl (not_lt_i l)) (by exact lin [] [_] [(1, (.i (.a (.k 0) (.k 1)) (.v 0)))] 1 (.i (.k 0) (.v 0)) rfl (lt_i hm))
    have hb : 0 ≤ (k : Int) * min p q := Int.mul_nonneg (Int.natCast_nonneg _) (by exact lin [] [_] [(1, (.i (.a (.k 0) (.k 1)) (.v 0)))] 1 (.i (.k 0) (.v 0)) rfl (lt_i hm))
    obtain ⟨i, hi⟩ : ∃ i : Nat, (h0 - k * min p q) / min p q = i := ⟨_, (Int.toNat_of_nonneg d4).symm⟩
    rw [hi, Int.mul_comm] at d1
    have hi0 : 0 ≤ (i : Int) * min p q := Int.mul_nonneg (Int.natCast_nonneg _) (by exact lin [] [_] [(1, (.i (.a (.k 0) (.k 1)) (.v 0)))] 1 (.i (.k 0) (.v 0)) rfl (lt_i hm))
    have hd := U_down R (Int.le_of_lt hm) i hc hU (by exact lin [] [_, _, _, _] [(1, (.i (.k 0) (.v 2))), (1, (.i (.k 0) (.v 3))), (1, (.i (.a (.v 1) (.v 2)) (.s (.v 0) (.v 3))))] 1 (.i (.k 0) (.s (.v 0) (.v 1))) rfl d2 hb (eqi_a d1))
    have hmem : h0 - i * min p q ∈ st.r := by
      rw [I.r, seg_mem]
      exact ⟨by exact lin [] [_, _, _, _] [(1, (.i (.k 0) (.v 3))), (1, (.i (.a (.v 2) (.v 3)) (.s (.v 1) (.v 0))))] 1 (.i (.v 0) (.s (.v 1) (.v 2))) rfl d2 (eqi_a d1), by exact go_lti (lin [_] [_, _, _, _, _] [(1, (.i (.a (.v 3) (.k 1)) (.v 4))), (1, (.i (.s (.v 0) (.v 2)) (.a (.v 1) (.v 3)))), (1, (.i (.v 4) (.n (.v 0))))] 1 (.i (.a (.s (.v 0) (.v 1)) (.k 1)) (.a (.v 2) (.n (.v 0)))) rfl (lt_i d3) (eqi_b d1) (tn_a _)), by exact go_lti (lin [_] [_, _] [(1, (.i (.a (.v 0) (.k 1)) (.n (.v 0)))), (1, (.i (.k 0) (.v 1)))] 1 (.i (.a (.s (.v 0) (.v 1)) (.k 1)) (.n (.v 0))) rfl (lt_i hc) hi0), hd⟩
    have : st.r.isEmpty = false := by
      cases q : st.r with
      | nil => rw [q] at hmem; cases hmem
      | cons _ _ => rfl
    simp [this]
theorem RInv.zero {c : Nat} {h0 : Int} (hp : 0 < p) (hq : 0 < q) (R : URec U hs p q c) (h00 : 0 ≤ h0) {t : Int} (ht : (t + 1).toNat = c) : RInv U hs p q c h0 0 (st0 p q t) := by
  have e0 : ((0 : Nat) : Int) * min p q = 0 := by simp
  have hv : addsV p q c = Vf p q c (npS U hs p q 0 0) := by
    rw [adds_eq hp hq]
    refine List.map_congr_left fun m hm => ?_
    have hm0 := (mem_rangeKs hm).1
    rw [npS_hi hm0]
    have c1 : ∀ z, cnt U hs 0 z m = if z ≤ m then 1 else 0 := fun z => by
      unfold cnt
      by_cases h : z ≤ m
      · rw [if_pos h, if_pos ⟨h, fun d => by have := d.2.2; omega⟩]
      · rw [if_neg h, if_neg (fun d => h d.1)]
    rw [c1, c1]
    have : ((preds p q m).length : Int) = (if min p q ≤ m then 1 else 0) + (if max p q ≤ m then 1 else 0) := by
      unfold preds
      rw [List.length_map]
      by_cases a : p ≤ m <;> by_cases b : q ≤ m <;> simp only [List.filter_cons, List.filter_nil, a, b, decide_true, decide_false, if_true, Bool.false_eq_true, if_false, List.length_cons, List.length_nil]
      · rw [if_pos (by exact lin [] [_, _, _] [(1, (.i (.v 2) (.v 1))), (1, (.i (.v 0) (.v 2)))] 1 (.i (.v 0) (.v 1)) rfl a (Int.min_le_left _ _)), if_pos (by omega)]; rfl
      · rw [if_pos (by exact lin [] [_, _, _] [(1, (.i (.v 2) (.v 1))), (1, (.i (.v 0) (.v 2)))] 1 (.i (.v 0) (.v 1)) rfl a (Int.min_le_left _ _)), if_neg (by exact go_nlei (lin [] [_, _, _] [(1, (.i (.a (.v 0) (.k 1)) (.v 2))), (1, (.i (.v 2) (.v 1)))] 1 (.i (.a (.v 0) (.k 1)) (.v 1)) rfl (not_le_i b) (Int.le_max_right _ _)))]; rfl
      · rw [if_pos (by exact lin [] [_, _, _] [(1, (.i (.v 2) (.v 1))), (1, (.i (.v 0) (.v 2)))] 1 (.i (.v 0) (.v 1)) rfl b (Int.min_le_right _ _)), if_neg (by exact go_nlei (lin [] [_, _, _] [(1, (.i (.a (.v 0) (.k 1)) (.v 2))), (1, (.i (.v 2) (.v 1)))] 1 (.i (.a (.v 0) (.k 1)) (.v 1)) rfl (not_le_i a) (Int.le_max_left _ _)))]; rfl
      · rw [if_neg (by omega), if_neg (by exact go_nlei (lin [] [_, _, _] [(1, (.i (.a (.v 0) (.k 1)) (.v 2))), (1, (.i (.v 2) (.v 1)))] 1 (.i (.a (.v 0) (.k 1)) (.v 1)) rfl (not_le_i a) (Int.le_max_left _ _)))]; rfl
    rw [this]
  refine ⟨?_, ?_, Int.le_refl _, fun h => by rw [e0] at h; omega⟩
  · show addsV p q (t + 1).toNat = _
    rw [ht, hv, e0]
  · show ((addsV p q (t + 1).toNat).filter fun e => e.np = 0).map (·.num) = _
    rw [ht, hv, e0]
    unfold Vf
    rw [List.filter_map, List.map_map]
    rw [show ((fun e : Nv => e.num) ∘ fun m : Int => (⟨m, npS U hs p q 0 0 m, snF p q c m⟩ : Nv)) = id from rfl, List.map_id]
    refine asc_eq ((rangeKs_asc _ _).filter _) seg_asc fun x => ?_
    rw [List.mem_filter, mem_rangeKs', seg_mem]
    simp only [Function.comp, decide_eq_true_eq]
    constructor
    · rintro ⟨⟨h1, h2⟩, h3⟩
      rw [npS_hi h1] at h3
      have c0 : ∀ z, 0 ≤ cnt U hs 0 z x := fun z => by unfold cnt; split <;> decide
      have hx : x < min p q := by
        by_cases l : min p q ≤ x
        · have : cnt U hs 0 (min p q) x = 1 := by
            unfold cnt
            rw [if_pos ⟨l, fun d => by have := d.2.2; omega⟩]
          have := c0 (max p q)
          omega
        · exact go_lti ((not_le_i l))
      exact ⟨h1, by exact go_lti (lin [_] [_, _] [(1, (.i (.a (.v 0) (.k 1)) (.v 1))), (1, (.i (.v 1) (.n (.v 0))))] 1 (.i (.a (.v 0) (.k 1)) (.a (.k 0) (.n (.v 0)))) rfl (lt_i hx) (tn_a _)), by exact go_lti (lin [_] [_] [(1, (.i (.a (.v 0) (.k 1)) (.a (.k 0) (.n (.v 0)))))] 1 (.i (.a (.v 0) (.k 1)) (.n (.v 0))) rfl (lt_i h2)), (R x h1 (by exact go_lti (lin [_] [_] [(1, (.i (.a (.v 0) (.k 1)) (.a (.k 0) (.n (.v 0)))))] 1 (.i (.a (.v 0) (.k 1)) (.n (.v 0))) rfl (lt_i h2)))).mpr ⟨fun h => by omega, fun h => by omega⟩⟩
    · rintro ⟨h1, h2, h3, h4⟩
      refine ⟨⟨h1, by exact go_lti (lin [_] [_] [(1, (.i (.a (.v 0) (.k 1)) (.n (.v 0))))] 1 (.i (.a (.v 0) (.k 1)) (.a (.k 0) (.n (.v 0)))) rfl (lt_i h3))⟩, ?_⟩
      rw [npS_hi h1]
      unfold cnt
      rw [if_neg (fun d => by omega), if_neg (fun d => by omega)]; rfl
theorem RInv.rat {c : Nat} {h0 : Int} (hp : 0 < p) (hq : 0 < q) (R : URec U hs p q c) (h00 : 0 ≤ h0) (hh : h0 ∈ hs) (hU : U h0) (hc : h0 < c) {t : Int} (ht : (t + 1).toNat = c) : ∀ k, RInv U hs p q c h0 k (rat hs (st0 p q t) k)
  | 0 => RInv.zero hp hq R h00 ht
  | k + 1 => (RInv.rat hp hq R h00 hh hU hc ht k).next hp hq R hh hU hc
theorem least : ∀ {l : List Int}, l ≠ [] → ∃ x ∈ l, ∀ y ∈ l, x ≤ y
  | [a], _ => ⟨a, .head _, fun y hy => by rw [List.mem_singleton.mp hy]; exact Int.le_refl _⟩
  | a :: b :: l, _ => by
    obtain ⟨x, hx, h⟩ := least (l := b :: l) (by simp)
    by_cases q : a ≤ x
    · exact ⟨a, .head _, fun y hy => by
        rcases List.mem_cons.mp hy with rfl | hy
        · exact Int.le_refl _
        · exact Int.le_trans q (h y hy)⟩
    · exact ⟨x, .tail _ hx, fun y hy => by
        rcases List.mem_cons.mp hy with rfl | hy
        · exact lin [] [_, _] [(1, (.i (.a (.v 0) (.k 1)) (.v 1)))] 1 (.i (.v 0) (.v 1)) rfl (not_le_i q)
        · exact h y hy⟩
end
theorem urec_paid {p q : Int} {hs : List Int} {c : Nat} {t : Int} (hp : 0 < p) (hq : 0 < q) (h0 : ∀ f ∈ hs, 0 ≤ f) (ht : t + 1 = c) : URec (fun n => n ∉ paidL p q t hs) hs p q c := by
  intro m hm hc
  have := paid_rec (t := t) (n := m) hp hq h0 (by exact lin [_] [_, _] [(1, (.i (.n (.v 0)) (.a (.v 1) (.k 1)))), (1, (.i (.a (.v 0) (.k 1)) (.n (.v 0))))] 1 (.i (.v 0) (.v 1)) rfl (eqi_b ht) (lt_i hc))
  by_cases l : p ≤ q
  · rw [show min p q = p by exact go_eqi ((Int.min_le_left _ _)) ((imin_c (l))), show max p q = q by exact go_eqi ((imax_d (l))) ((Int.le_max_right _ _))]
    dsimp only
    rw [this]
    constructor
    · intro h
      exact ⟨fun a => ⟨fun b => h (.inl ⟨a, .inl b⟩), fun b => h (.inl ⟨a, .inr b⟩)⟩, fun a => ⟨fun b => h (.inr ⟨a, .inl b⟩), fun b => h (.inr ⟨a, .inr b⟩)⟩⟩
    · rintro ⟨h1, h2⟩ (⟨a, b | b⟩ | ⟨a, b | b⟩)
      · exact (h1 a).1 b
      · exact (h1 a).2 b
      · exact (h2 a).1 b
      · exact (h2 a).2 b
  · rw [show min p q = q by exact go_eqi ((Int.min_le_right _ _)) ((imin_d (lin [] [_, _] [(1, (.i (.a (.v 0) (.k 1)) (.v 1)))] 1 (.i (.v 0) (.v 1)) rfl (not_le_i l)))), show max p q = p by exact go_eqi ((imax_c (lin [] [_, _] [(1, (.i (.a (.v 0) (.k 1)) (.v 1)))] 1 (.i (.v 0) (.v 1)) rfl (not_le_i l)))) ((Int.le_max_left _ _))]
    dsimp only
    rw [this]
    constructor
    · intro h
      exact ⟨fun a => ⟨fun b => h (.inr ⟨a, .inl b⟩), fun b => h (.inr ⟨a, .inr b⟩)⟩, fun a => ⟨fun b => h (.inl ⟨a, .inl b⟩), fun b => h (.inl ⟨a, .inr b⟩)⟩⟩
    · rintro ⟨h1, h2⟩ (⟨a, b | b⟩ | ⟨a, b | b⟩)
      · exact (h2 a).1 b
      · exact (h2 a).2 b
      · exact (h1 a).1 b
      · exact (h1 a).2 b
/-- what sorted_list_difference tells in `law` -/
noncomputable def sldL (one other : Int) (paid : List Int) : List Int × List Int := sldN ((one * other + 1).toNat + paid.length) (rangeKs 0 (one * other + 1).toNat) paid
theorem sldL_eq {p q : Int} {hs paid : List Int} (hp : 0 < p) (hq : 0 < q) (h0 : ∀ f ∈ hs, 0 ≤ f) (hpm : paid.Perm (paidL p q (p * q) hs)) (hps : paid.Pairwise (· ≤ ·)) :
    sldL p q paid = ((rangeKs 0 (p * q + 1).toNat).filter fun x => !decide (x ∈ paid), []) := by
  unfold sldL
  refine sld_sub _ _ _ (by rw [rangeKs_length]; exact Nat.le_refl _) (rangeKs_asc _ _) hps fun a ha => ?_
  obtain ⟨f, hf, i, j, h1, h2, h3⟩ := (mem_paidL hp hq h0).mp (hpm.mem_iff.mp ha)
  have f0 := h0 f hf
  have ip : 0 ≤ (i : Int) * p := Int.mul_nonneg (Int.natCast_nonneg _) (Int.le_of_lt hp)
  have jq : 0 ≤ (j : Int) * q := Int.mul_nonneg (Int.natCast_nonneg _) (Int.le_of_lt hq)
  rw [mem_rangeKs']
  exact ⟨by exact lin [] [_, _, _, _] [(1, (.i (.a (.a (.v 1) (.v 2)) (.v 3)) (.v 0))), (1, (.i (.k 0) (.v 1))), (1, (.i (.k 0) (.v 2))), (1, (.i (.k 0) (.v 3)))] 1 (.i (.k 0) (.v 0)) rfl (eqi_b h3) f0 ip jq, by exact go_lti (lin [_] [_, _] [(1, (.i (.v 0) (.v 1))), (1, (.i (.a (.v 1) (.k 1)) (.n (.v 0))))] 1 (.i (.a (.v 0) (.k 1)) (.a (.k 0) (.n (.v 0)))) rfl h2 (tn_a _))⟩
/-- the heart: what sorted_list_difference tells is what the sorter hands out, round by round -/
theorem rounds_law {p q : Int} {hs paid : List Int} (hp1 : 1 ≤ p) (hp6 : p ≤ 6) (hq1 : 1 ≤ q) (hq7 : q ≤ 7) (h1 : 1 ≤ hs.length) (h4 : hs.length ≤ 4) (hb : ∀ x ∈ hs, 0 ≤ x ∧ x ≤ p * q) (hpm : paid.Perm (paidL p q (p * q) hs)) (hps : paid.Pairwise (· ≤ ·)) :
    (sldL p q paid).2 = [] ∧ (∀ k, k < ((p * q).fdiv (min p q) + 2).toNat → RGood hs (rat hs (st0 p q (p * q)) k)) ∧
    (List.range ((p * q).fdiv (min p q) + 2).toNat).map (fun k => ((rat hs (st0 p q (p * q)) k).act, (rat hs (st0 p q (p * q)) k).r)) = (List.range ((p * q).fdiv (min p q) + 2).toNat).map (fun (k : Nat) => (true, (sldL p q paid).1.filter fun n => decide (n.fdiv (min p q) = (k : Int)))) := by
  have hp : 0 < p := by exact go_lti (lin [] [_] [(1, (.i (.k 1) (.v 0)))] 1 (.i (.a (.k 0) (.k 1)) (.v 0)) rfl hp1)
  have hq : 0 < q := by exact go_lti (lin [] [_] [(1, (.i (.k 1) (.v 0)))] 1 (.i (.a (.k 0) (.k 1)) (.v 0)) rfl hq1)
  have h0 : ∀ f ∈ hs, 0 ≤ f := fun f hf => (hb f hf).1
  have hpos : 0 < p * q := Int.mul_pos hp hq
  have hsl := sldL_eq hp hq h0 hpm hps
  obtain ⟨c, hc⟩ : ∃ c : Nat, (p * q + 1).toNat = c := ⟨_, rfl⟩
  have hc' : p * q + 1 = c := by exact go_eqi (lin [_, _] [_] [(1, (.n (.v 1) (.v 0))), (1, (.i (.a (.v 0) (.k 1)) (.n (.v 1))))] 1 (.i (.a (.v 0) (.k 1)) (.n (.v 0))) rfl (eq_a hc) (tn_a _)) (lin [_, _] [_] [(1, (.n (.v 0) (.v 1))), (1, (.i (.n (.v 1)) (.a (.v 0) (.k 1))))] 1 (.i (.n (.v 0)) (.a (.v 0) (.k 1))) rfl (eq_b hc) (tn_b (lin [] [_] [(1, (.i (.a (.k 0) (.k 1)) (.v 0)))] 1 (.i (.k 0) (.a (.v 0) (.k 1))) rfl (lt_i hpos))))
  have R := urec_paid hp hq h0 hc'
  obtain ⟨x0, m0, l0⟩ := least (l := hs) (by intro e; rw [e] at h1; simp at h1)
  have hU : x0 ∉ paidL p q (p * q) hs := by
    rw [mem_paidL hp hq h0]
    rintro ⟨f, hf, i, j, a1, a2, a3⟩
    have := l0 f hf
    have ip : (i : Int) ≤ (i : Int) * p := by
      have := Int.mul_le_mul_of_nonneg_left (show 1 ≤ p by exact hp1) (Int.natCast_nonneg i); omega
    have jq : (j : Int) ≤ (j : Int) * q := by
      have := Int.mul_le_mul_of_nonneg_left (show 1 ≤ q by exact hq1) (Int.natCast_nonneg j); omega
    omega
  have I := RInv.rat (U := fun n => n ∉ paidL p q (p * q) hs) hp hq R (h0 _ m0) m0 hU (by have := (hb _ m0).2; exact go_lti (lin [_] [_, _] [(1, (.i (.a (.v 1) (.k 1)) (.n (.v 0)))), (1, (.i (.v 0) (.v 1)))] 1 (.i (.a (.v 0) (.k 1)) (.n (.v 0))) rfl (eqi_a hc') this)) hc
  refine ⟨by rw [hsl], fun k _ => (I k).good hp hq (by exact lin [] [_, _] [(1, (.i (.v 1) (.k 6))), (1, (.i (.v 0) (.v 1)))] 1 (.i (.v 0) (.k 64)) rfl hp6 (Int.min_le_left _ _)) R, List.map_congr_left fun k _ => ?_⟩
  rw [(I k).act hp hq R hU (by have := (hb _ m0).2; exact go_lti (lin [_] [_, _] [(1, (.i (.a (.v 1) (.k 1)) (.n (.v 0)))), (1, (.i (.v 0) (.v 1)))] 1 (.i (.a (.v 0) (.k 1)) (.n (.v 0))) rfl (eqi_a hc') this)), (I k).r, hsl]
  congr 1
  refine asc_eq seg_asc (((rangeKs_asc _ _).filter _).filter _) fun x => ?_
  rw [seg_mem, List.mem_filter, List.mem_filter, mem_rangeKs']
  have hmn : 0 < min p q := by exact go_lti (lin [] [_] [(1, (.i (.k 1) (.v 0)))] 1 (.i (.a (.k 0) (.k 1)) (.v 0)) rfl (imin_k (hp1) (hq1)))
  have e1 : x.fdiv (min p q) = (k : Int) ↔ k * min p q ≤ x ∧ x < k * min p q + min p q := by
    rw [Int.fdiv_eq_ediv_of_nonneg _ (Int.le_of_lt hmn)]
    have d1 := Int.mul_ediv_add_emod x (min p q)
    have d2 := Int.emod_nonneg x (show min p q ≠ 0 by exact go_nebi ((lt_i hmn)))
    have d3 := Int.emod_lt_of_pos x hmn
    constructor
    · intro e
      rw [e, Int.mul_comm] at d1
      exact ⟨by exact lin [] [_, _, _] [(1, (.i (.a (.v 0) (.v 2)) (.v 1))), (1, (.i (.k 0) (.v 2)))] 1 (.i (.v 0) (.v 1)) rfl (eqi_a d1) d2, by exact go_lti (lin [] [_, _, _, _] [(1, (.i (.v 0) (.a (.v 1) (.v 3)))), (1, (.i (.a (.v 3) (.k 1)) (.v 2)))] 1 (.i (.a (.v 0) (.k 1)) (.a (.v 1) (.v 2))) rfl (eqi_b d1) (lt_i d3))⟩
    · rintro ⟨b1, b2⟩
      have c1 := (Int.le_ediv_iff_mul_le (a := (k : Int)) (b := x) hmn).mpr b1
      have c2 := (Int.ediv_lt_iff_lt_mul (a := x) (b := (k : Int) + 1) hmn).mpr (by rw [Int.add_mul]; exact go_lti (lin [] [_, _, _] [(1, (.i (.a (.v 0) (.k 1)) (.a (.v 1) (.v 2))))] 1 (.i (.a (.v 0) (.k 1)) (.a (.v 1) (.m 1 (.v 2)))) rfl (lt_i b2)))
      exact go_eqi (lin [_] [_] [(1, (.i (.a (.v 0) (.k 1)) (.a (.n (.v 0)) (.k 1))))] 1 (.i (.v 0) (.n (.v 0))) rfl (lt_i c2)) (c1)
  have kb : 0 ≤ (k : Int) * min p q := Int.mul_nonneg (Int.natCast_nonneg _) (by exact lin [] [_] [(1, (.i (.a (.k 0) (.k 1)) (.v 0)))] 1 (.i (.k 0) (.v 0)) rfl (lt_i hmn))
  simp only [decide_eq_true_eq, e1, hpm.mem_iff, Bool.not_eq_true', decide_eq_false_iff_not]
  constructor
  · rintro ⟨b1, b2, b3, b4⟩
    exact ⟨⟨⟨by exact lin [] [_, _] [(1, (.i (.k 0) (.v 1))), (1, (.i (.v 1) (.v 0)))] 1 (.i (.k 0) (.v 0)) rfl kb b1, by exact go_lti (lin [_, _] [_] [(1, (.n (.v 1) (.v 0))), (1, (.i (.a (.v 0) (.k 1)) (.n (.v 1))))] 1 (.i (.a (.v 0) (.k 1)) (.a (.k 0) (.n (.v 0)))) rfl (eq_b hc) (lt_i b3))⟩, b4⟩, b1, by exact go_lti (lin [_] [_, _, _] [(1, (.i (.a (.v 0) (.k 1)) (.a (.v 1) (.n (.v 0))))), (1, (.i (.n (.v 0)) (.v 2)))] 1 (.i (.a (.v 0) (.k 1)) (.a (.v 1) (.v 2))) rfl (lt_i b2) (tn_b (lin [] [_] [(1, (.i (.a (.k 0) (.k 1)) (.v 0)))] 1 (.i (.k 0) (.v 0)) rfl (lt_i hmn))))⟩
  · rintro ⟨⟨⟨b1, b2⟩, b3⟩, b4, b5⟩
    exact ⟨b4, by exact go_lti (lin [_] [_, _, _] [(1, (.i (.a (.v 0) (.k 1)) (.a (.v 1) (.v 2)))), (1, (.i (.v 2) (.n (.v 0))))] 1 (.i (.a (.v 0) (.k 1)) (.a (.v 1) (.n (.v 0)))) rfl (lt_i b5) (tn_a _)), by exact go_lti (lin [_, _] [_] [(1, (.n (.v 1) (.v 0))), (1, (.i (.a (.v 0) (.k 1)) (.a (.k 0) (.n (.v 1)))))] 1 (.i (.a (.v 0) (.k 1)) (.n (.v 0))) rfl (eq_a hc) (lt_i b2)), b3⟩
end
set_option hygiene false in
local macro_rules | `(tactic| walk_at "subscriptTail") => `(tactic| with_reducible refine stop_p13 ?_)
section
/-- what parse229 asks of a reply -/
structure P229 (s0 : Str) (port r : Int) (sep e0 e1 e2 e3 e4 : Str) : Prop where
  len : s0.length ≤ 60
  h1 : Txt.slice s0 none (some 3) = Str.ofString "229"
  h2 : Txt.find s0 (Str.ofString "(") = 7
  h3 : Txt.find3 s0 (Str.ofString ")") (7 + 1) = r
  hr1 : 8 ≤ r
  hr2 : r ≤ 60
  i1 : (Txt.charAt s0 (7 + 1)).isSome = true
  i2 : (Txt.charAt s0 (r - 1)).isSome = true
  h4 : Txt.item s0 (7 + 1) = sep
  h5 : Txt.item s0 (r - 1) = sep
  hs : (sep.length == 0) = false
  h6 : Txt.split (Txt.slice s0 (some (7 + 1)) (some r)) sep = [e0, e1, e2, e3, e4]
  hm : (Txt.slice s0 (some (7 + 1)) (some r)).length ≤ 60
  h7 : PySem.intText? e3 = some port
  h8 : e3.length ≤ 20
section
variable {w : World} {A : Around} {E : Value → Shared → Prop} {s : Shared} {h₀ : Heap} {L : Addr} {m : Str → Option Value} {news : Ledger}
theorem ne_str_same {x : Str} {t u : Tok} {Q : Value → Shared → Prop} (h : Q (.bool false) s) : wpAny (model prg w) A (compareOp .NotEq (.str x t) (.str x u)) Q E s := by
  have := h
  refine ne_str ?_
  simpa using h
theorem item_str_at {value slice : PySem.Expr} {x y : Str} {t u : Tok} {i : Int} {Q : Value → Shared → Prop} (hr : fitsSsize i = true) (hin : (Txt.charAt x i).isSome = true) (e : Txt.item x i = y) (h : ∀ t tk, Q (.str y t) { s with toks := tk })
    (hs : subscripted slice false (.str x t) (.int i u) = operate [.str x t, .int i u] (getItem (.str x t) (.int i u)) := by with_unfolding_all rfl) (hg : ∀ r, letTemporaryGo value (.str x t) r = pure () := by intro _; with_unfolding_all rfl) :
    wpAny (model prg w) A (subscriptTail value slice (.str x t) (.int i u)) Q E s := by
  refine subscriptTail_builtin (typeIs_str s x t) slot_str_getitem.lookup (SB.getItem hr hin ?_) hs hg
  rw [e]; exact h _ _
end
section
set_option hygiene false in
local macro_rules | `(tactic| walk_at "subscriptTail Name Slice str ref") => `(tactic| with_reducible refine stop_p13 ?_)
set_option hygiene false in
local macro_rules | `(tactic| walk_at "call builtin:str.find") => `(tactic| with_reducible refine stop_p14 ?_)
set_option hygiene false in
local macro_rules | `(tactic| walk_at "call builtin:str.split") => `(tactic| with_reducible refine stop_p15 ?_)
set_option hygiene false in
local macro_rules | `(tactic| walk_at "call type:int") => `(tactic| with_reducible refine stop_p16 ?_)
set_option hygiene false in
local macro_rules | `(tactic| walk_at "compareOp NotEq str str") => `(tactic| ((with_reducible refine idp_p2 ?_); refine ne_str_same ?_))
theorem map_split {α β : Type} {e : α} {l : List (α × β)} {r : List α} (h : l.map (·.1) = e :: r) : ∃ t l', l = (e, t) :: l' ∧ l'.map (·.1) = r := by
  cases l with
  | nil => cases h
  | cons p q =>
    obtain ⟨a, b⟩ := p
    injection h with h1 h2
    subst h1
    exact ⟨b, q, rfl, h2⟩
theorem parse_con (w : World) (pe : Addr) (hv : Value) (nv : Value) (np : Nat) (s0 : Str) (ts : Tok) (port r : Int) (sep e0 e1 e2 e3 e4 : Str) (P : P229 s0 port r sep e0 e1 e2 e3 e4) :
    ConR w (.ref 72) [.str s0 ts, .ref pe] 2 [(pe, { cls := .type "tuple", data := .seq [hv, nv].toArray np })] (fun r new => ∃ t tp, r = .ref t ∧ new = [(t, { cls := .type "tuple", data := .seq [hv, .int port tp].toArray }), (pe, { cls := .type "tuple", data := .seq [hv, nv].toArray np })]) := by
  intro p' loose mean mg mb h₀ A l frs rest s R G Fs S ret
  have X := G.X
  have hnd : A.handled = none := G.hn
  have T := G.T
  have kf : (Mine.hd.heap_39 w.params).In h₀ ∧ PySem.Challenge.rw_oy0269_01.row.prog = PySem.Challenge.rw_oy0269_01.row.prog := (by k_fill; exact ⟨X, rfl⟩)
  clear kf
  have nd := S.nd
  k_dflt (refine' enter G S ?ho ?hcd ?hb ?hl ?_ ?c1 ?c2 ?c3 ?c4; (case ho => k_is); (case hcd => k_is); (case hb => first | exact BindsTo.of_eq rfl | exact binds_K (G.X.keeps S.keep) rfl (by k_is) rfl rfl rfl); (case hl => exact locs rfl); (case c1 => exact rfl); (case c2 => exact rfl); (case c3 => exact rfl); (case c4 => decide))
  intro h₁ F N lt1 lt2 zP0 zE0 zK0 zO0
  dsimp only [List.cons_append, List.nil_append] at N lt1
  obtain ⟨len, h1, h2, h3, hr1, hr2, i1, i2, h4, h5, hs, h6, hml, h7, h8⟩ := P
  have hsz : s0.length ≤ sizeLine := by rw [sizeLine_eq]; omega
  k_steps
  refine stop_out (slice_strN_ns F N (hsz := hsz) fun h' t' k F1 N1 => ?_)
  rw [h1]
  clear F N
  k_steps
  refine stop_out (SC.find ?_)
  rw [h2]
  k_steps
  refine stop_out (SC.find3 ?_)
  rw [h3]
  have hnr : ¬ r < 0 := by exact go_nlti (lin [] [_] [(1, (.i (.k 8) (.v 0)))] 1 (.i (.k 0) (.v 0)) rfl hr1)
  k_steps
  refine stop_out (item_str_at (by decide) i1 h4 fun _ _ => ?_)
  k_steps
  refine stop_out (item_str_at (by unfold fitsSsize; simp; omega) i2 h5 fun _ _ => ?_)
  k_steps
  rename Fr _ _ _ _ => F2
  rename News _ _ _ _ => N2
  refine stop_out (slice_strN_ss F2 N2 (hsz := hsz) fun h' t' k F3 N3 => ?_)
  generalize hmid : Txt.slice s0 (some (7 + 1)) (some r) = mid at *
  clear F2 N2
  k_steps
  refine stop_out (item_str_at (by decide) i1 h4 fun _ _ => ?_)
  k_steps
  refine stop_out (splitN1A F3 N3 hs (hsz := by rw [sizeLine_eq]; omega) fun lv h5' k5 hl5 _ _ _ F5 N5 => ?_)
  rw [h6] at hl5
  obtain ⟨t0, t1, t2, t3, t4, rfl⟩ : ∃ t0 t1 t2 t3 t4, lv = [(e0, t0), (e1, t1), (e2, t2), (e3, t3), (e4, t4)] := by
    obtain ⟨b0, l1, rfl, g1⟩ := map_split hl5
    obtain ⟨b1, l2, rfl, g2⟩ := map_split g1
    obtain ⟨b2, l3, rfl, g3⟩ := map_split g2
    obtain ⟨b3, l4, rfl, g4⟩ := map_split g3
    obtain ⟨b4, l5, rfl, g5⟩ := map_split g4
    obtain rfl : l5 = [] := List.map_eq_nil_iff.mp g5
    exact ⟨b0, b1, b2, b3, b4, rfl⟩
  clear F3 N3
  simp only [strValues, List.map_cons, List.map_nil] at N5
  k_steps
  refine stop_out (KIN.call_text h7 (by exact lin [_] [] [(1, (.n (.v 0) (.k 20)))] 1 (.n (.v 0) (.k 640)) rfl h8) ?_)
  k_steps
  show R _ _
  rename_i D9 h9 F9 N9 l9
  obtain ⟨tp, x9, N10⟩ : ∃ (tp : Tok) (x9 : Addr × Obj), News h₀ s.heap.objs.size h9 ((D9, { cls := .type "tuple", data := .seq [hv, .int port tp].toArray }) :: x9 :: (pe, { cls := .type "tuple", data := .seq [hv, nv].toArray np }) :: (rest ++ frs)) := ⟨_, _, N9⟩
  refine ret _ _ _ [(D9, { cls := .type "tuple", data := .seq [hv, .int port tp].toArray }), (pe, { cls := .type "tuple", data := .seq [hv, nv].toArray np })] frs (TI.SameUp.refl _) Fs (St.of_news F9 N10 (fun p hp => ?_) ?_) ⟨D9, tp, rfl, rfl⟩
  · rcases List.mem_cons.mp hp with rfl | hp
    · exact List.mem_cons_self
    · exact List.mem_cons_of_mem _ (List.mem_cons_of_mem _ hp)
  · exact nodup_lt (all_cons l9.2.1 (allLt_mem l9.2.2)) nd
end
end
section
noncomputable def sepS (c : Int) : Str := Txt.item (Str.ofString "|!\"(") c
noncomputable def fieldsS (port a b : Int) : List Str := [Str.ofString "", Str.ofString "1", Txt.mul (Str.ofString "9") a, Txt.mul (Str.ofString "0") b ++ Str.ofString (toString port), Str.ofString ""]
noncomputable def joinS (port a b c : Int) : Str := Txt.join (sepS c) (fieldsS port a b)
noncomputable def replyS (port a b c : Int) : Str := Str.ofString "229 ok (" ++ joinS port a b c ++ Str.ofString ") 7"
noncomputable def chkR (port a b c : Int) : Bool :=
  let s0 := replyS port a b c
  let r := Txt.find3 s0 (Str.ofString ")") (7 + 1)
  let sep := Txt.item s0 (7 + 1)
  decide ((Txt.mul (Str.ofString "9") a).length ≤ 2) && decide ((Txt.mul (Str.ofString "0") b).length ≤ 2) && decide ((Txt.mul (Str.ofString "0") b ++ Str.ofString (toString port)).length ≤ 3) && JoinOk (sepS c) (fieldsS port a b) &&
  (Txt.charAt (Str.ofString "|!\"(") c).isSome && decide ((joinS port a b c).length ≤ 20) && decide ((Str.ofString (toString port)).length ≤ 1) &&
  decide (s0.length ≤ 60) && (Txt.slice s0 none (some 3) == Str.ofString "229") && decide (Txt.find s0 (Str.ofString "(") = 7) && decide (8 ≤ r) && decide (r ≤ 60) && (Txt.charAt s0 (7 + 1)).isSome && (Txt.charAt s0 (r - 1)).isSome && (Txt.item s0 (r - 1) == sep) &&
  (sep.length != 0) && decide ((Txt.slice s0 (some (7 + 1)) (some r)).length ≤ 60) &&
  (match Txt.split (Txt.slice s0 (some (7 + 1)) (some r)) sep with
   | [_, _, _, e3, _] => (PySem.intText? e3 == some port) && decide (e3.length ≤ 20)
   | _ => false)
noncomputable def chkC (a b : Nat) : Bool := (List.range 4).all fun c => (List.range 7).all fun p => chkR ((p : Nat) + 1) (a : Nat) (b : Nat) (c : Nat)
theorem chk00 : chkC 0 0 = true := by decide +kernel
theorem chk01 : chkC 0 1 = true := by decide +kernel
theorem chk02 : chkC 0 2 = true := by decide +kernel
theorem chk10 : chkC 1 0 = true := by decide +kernel
theorem chk11 : chkC 1 1 = true := by decide +kernel
theorem chk12 : chkC 1 2 = true := by decide +kernel
theorem chk20 : chkC 2 0 = true := by decide +kernel
theorem chk21 : chkC 2 1 = true := by decide +kernel
theorem chk22 : chkC 2 2 = true := by decide +kernel
theorem chk_nat : ∀ a b : Nat, a < 3 → b < 3 → chkC a b = true
  | 0, 0, _, _ => chk00
  | 0, 1, _, _ => chk01
  | 0, 2, _, _ => chk02
  | 1, 0, _, _ => chk10
  | 1, 1, _, _ => chk11
  | 1, 2, _, _ => chk12
  | 2, 0, _, _ => chk20
  | 2, 1, _, _ => chk21
  | 2, 2, _, _ => chk22
  | _ + 3, _, h, _ => absurd h (Nat.not_lt_of_le (Nat.le_add_left _ _))
  | _, _ + 3, _, h => absurd h (Nat.not_lt_of_le (Nat.le_add_left _ _))
theorem chk_all {port a b c : Int} (h1 : 1 ≤ port) (h2 : port ≤ 7) (a1 : 0 ≤ a) (a2 : a < 3) (b1 : 0 ≤ b) (b2 : b < 3) (c1 : 0 ≤ c) (c2 : c < 4) : chkR port a b c = true := by
  have h := chk_nat a.toNat b.toNat (by omega) (by omega)
  have := List.all_eq_true.mp (List.all_eq_true.mp h c.toNat (List.mem_range.mpr (by omega))) (port - 1).toNat (List.mem_range.mpr (by omega))
  have e1 : (((port - 1).toNat : Nat) : Int) + 1 = port := by omega
  have e2 : ((a.toNat : Nat) : Int) = a := by omega
  have e3 : ((b.toNat : Nat) : Int) = b := by omega
  have e4 : ((c.toNat : Nat) : Int) = c := by omega
  rw [e1, e2, e3, e4] at this
  exact this
/-- what the walk of _law_reply asks, and what parse229 asks of its reply -/
structure RFacts (port a b c : Int) : Prop where
  l9 : (Txt.mul (Str.ofString "9") a).length ≤ 2
  l0 : (Txt.mul (Str.ofString "0") b).length ≤ 2
  l0p : (Txt.mul (Str.ofString "0") b ++ Str.ofString (toString port)).length ≤ 3
  jok : JoinOk (sepS c) (fieldsS port a b) = true
  ch : (Txt.charAt (Str.ofString "|!\"(") c).isSome = true
  lj : (joinS port a b c).length ≤ 20
  lp : (Str.ofString (toString port)).length ≤ 1
  p229 : ∃ r sep e0 e1 e2 e3 e4, P229 (replyS port a b c) port r sep e0 e1 e2 e3 e4
theorem rfacts {port a b c : Int} (h1 : 1 ≤ port) (h2 : port ≤ 7) (a1 : 0 ≤ a) (a2 : a < 3) (b1 : 0 ≤ b) (b2 : b < 3) (c1 : 0 ≤ c) (c2 : c < 4) : RFacts port a b c := by
  have h := chk_all h1 h2 a1 a2 b1 b2 c1 c2
  unfold chkR at h
  simp only [Bool.and_eq_true, decide_eq_true_eq, beq_iff_eq, bne_iff_ne, ne_eq] at h
  obtain ⟨⟨⟨⟨⟨⟨⟨⟨⟨⟨⟨⟨⟨⟨⟨⟨⟨f1, f2⟩, f3⟩, f4⟩, f5⟩, f6⟩, f7⟩, f8⟩, f9⟩, f10⟩, f11⟩, f12⟩, f13⟩, f14⟩, f15⟩, f16⟩, f17⟩, f18⟩ := h
  refine ⟨f1, f2, f3, f4, f5, f6, f7, ?_⟩
  split at f18
  · rename_i e0 e1 e2 e3 e4 hsp
    simp only [Bool.and_eq_true, decide_eq_true_eq, beq_iff_eq] at f18
    exact ⟨_, _, e0, e1, e2, e3, e4, f8, f9, f10, rfl, f11, f12, f13, f14, rfl, f15, by simpa using f16, hsp, f17, f18.1, f18.2⟩
  · cases f18
end
section
section
set_option hygiene false in
local macro_rules | `(tactic| walk_at "subscriptTail Constant BinOp str int") => `(tactic| with_reducible refine stop_p13 ?_)
set_option hygiene false in
local macro_rules | `(tactic| walk_at "binaryOp Add str str") => `(tactic| with_reducible refine stop_p17 ?_)
set_option hygiene false in
local macro_rules | `(tactic| walk_at "call builtin:str.join") => `(tactic| with_reducible refine stop_p18 ?_)
theorem reply_con (w : World) (port turn : Int) (t1 t2 : Tok) (hp1 : 1 ≤ port) (hp2 : port ≤ 7) :
    ConR w (.ref 199) [.int port t1, .int turn t2] 2 [] (fun r new => new = [] ∧ ∃ t, r = .str (replyS port ((turn.fdiv 4).fmod 3) ((turn.fdiv 12).fmod 3) (turn.fmod 4)) t) := by
  intro p' loose mean mg mb h₀ A l frs rest s R G Fs S ret
  have X := G.X
  have hnd : A.handled = none := G.hn
  have T := G.T
  have kf : (Mine.hd.heap_39 w.params).In h₀ ∧ PySem.Challenge.rw_oy0269_01.row.prog = PySem.Challenge.rw_oy0269_01.row.prog := (by k_fill; exact ⟨X, rfl⟩)
  clear kf
  have nd := S.nd
  k_dflt (refine' enter G S ?ho ?hcd ?hb ?hl ?_ ?c1 ?c2 ?c3 ?c4; (case ho => k_is); (case hcd => k_is); (case hb => first | exact BindsTo.of_eq rfl | exact binds_K (G.X.keeps S.keep) rfl (by k_is) rfl rfl rfl); (case hl => exact locs rfl); (case c1 => exact rfl); (case c2 => exact rfl); (case c3 => exact rfl); (case c4 => decide))
  intro h₁ F N lt1 lt2 zP0 zE0 zK0 zO0
  dsimp only [List.cons_append, List.nil_append] at N lt1
  have hf := rfacts hp1 hp2 (a := (turn.fdiv 4).fmod 3) (b := (turn.fdiv 12).fmod 3) (c := turn.fmod 4) (Int.fmod_nonneg_of_pos _ (by decide)) (Int.fmod_lt_of_pos _ (by decide)) (Int.fmod_nonneg_of_pos _ (by decide)) (Int.fmod_lt_of_pos _ (by decide)) (Int.fmod_nonneg_of_pos _ (by decide)) (Int.fmod_lt_of_pos _ (by decide))
  obtain ⟨f1, f2, f3, f4, f5, f6, f7, _⟩ := hf
  have hc1 : 0 ≤ turn.fmod 4 := Int.fmod_nonneg_of_pos _ (by decide)
  have hc2 : turn.fmod 4 < 4 := Int.fmod_lt_of_pos _ (by decide)
  k_steps
  refine stop_out (SB.add (fun _ _ => ?_) (by rw [sizeLine_eq]; omega))
  k_steps
  refine stop_out (item_str_at (by unfold fitsSsize; simp; omega) f5 rfl fun _ _ => ?_)
  k_steps
  rename Fr _ _ _ _ => F9
  rename News _ _ _ _ => N9
  refine stop_out (SC.join (l := [(_, _), (_, _), (_, _), (_, _), (_, _)]) ⟨_, (N9 _ (.head _)).1, rfl, _, rfl⟩ (show _ = fieldsS port ((turn.fdiv 4).fmod 3) ((turn.fdiv 12).fmod 3) from rfl) f4 fun _ _ => ?_)
  have e5 : (Str.ofString "229 ok (").length = 8 := by decide +kernel
  have e6 : (Str.ofString ") 7").length = 3 := by decide +kernel
  have f6' : (Txt.join (Txt.item (Str.ofString "|!\"(") (turn.fmod 4)) (fieldsS port ((turn.fdiv 4).fmod 3) ((turn.fdiv 12).fmod 3))).length ≤ 20 := f6
  k_steps
  refine stop_out (SB.add (fun _ _ => ?_) (by rw [sizeLine_eq]; omega))
  k_steps
  refine stop_out (SB.add (fun _ _ => ?_) (by rw [sizeLine_eq, e6, Str.length_append, e5]; omega))
  k_steps
  show R _ _
  have nd := S.nd
  refine ret _ _ _ [] frs (TI.SameUp.refl _) Fs (St.of_news F9 N9 (fun p hp => .tail _ hp) nd) ⟨rfl, _, rfl⟩
end
end
section
/-! the plain laws that the walk of `law` leans on -/
theorem drop_le (p : Int → Bool) (l : List Int) : (l.dropWhile p).length ≤ l.length := (List.dropWhile_sublist p).length_le
theorem sld_len1 : ∀ (n : Nat) (E A : List Int), (sldN n E A).1.length ≤ E.length
  | 0, E, A => Nat.le_refl _
  | n + 1, [], A => by rw [sldN_nil_left]; exact Nat.le_refl _
  | n + 1, e :: E, [] => by rw [sldN_nil_right]; exact Nat.le_refl _
  | n + 1, e :: E, a :: A => by
    unfold sldN
    have h1 := drop_le (· == e) E
    split
    · have h2 := sld_len1 n (E.dropWhile (· == e)) (a :: A)
      show (_ :: _).length ≤ _
      rw [List.length_cons, List.length_cons]; exact lin [_, _, _] [] [(1, (.n (.v 2) (.v 1))), (1, (.n (.v 0) (.v 2)))] 1 (.n (.a (.v 0) (.k 1)) (.a (.v 1) (.k 1))) rfl h1 h2
    · split
      · exact sld_len1 n (e :: E) (A.dropWhile (· == a))
      · have h2 := sld_len1 n (E.dropWhile (· == e)) (A.dropWhile (· == a))
        rw [List.length_cons]; exact lin [_, _, _] [] [(1, (.n (.v 2) (.v 1))), (1, (.n (.v 0) (.v 2)))] 1 (.n (.v 0) (.a (.v 1) (.k 1))) rfl h1 h2
end
section
inductive Cells7 (cm : Str → Option Value) (n1 n2 n3 n4 n5 n6 n7 : Str) (c1 c2 c3 c4 c5 c6 c7 : Addr) : List (Addr × Obj) → Prop
  | mk (o1 o2 o3 o4 o5 o6 o7 : Obj) (_ : o1.data = .cell (cm n1)) (_ : o2.data = .cell (cm n2)) (_ : o3.data = .cell (cm n3)) (_ : o4.data = .cell (cm n4)) (_ : o5.data = .cell (cm n5)) (_ : o6.data = .cell (cm n6)) (_ : o7.data = .cell (cm n7)) :
    Cells7 cm n1 n2 n3 n4 n5 n6 n7 c1 c2 c3 c4 c5 c6 c7 [(c1, o1), (c2, o2), (c3, o3), (c4, o4), (c5, o5), (c6, o6), (c7, o7)]
theorem cells_step {cm : Str → Option Value} {n : Str} {c : Addr} {l : List (Str × Addr)} {P : List (Addr × Obj) → Prop} {cells : List (Addr × Obj)} (x : CellsAre cm ((n, c) :: l) cells)
    (h : ∀ o r, o.data = .cell (cm n) → CellsAre cm l r → P ((c, o) :: r)) : P cells := by
  cases x with | cons h1 r => exact h _ _ h1 r
theorem cells_end {cm : Str → Option Value} {P : List (Addr × Obj) → Prop} {cells : List (Addr × Obj)} (x : CellsAre cm [] cells) (h : P []) : P cells := by
  cases x; exact h
theorem CellsAre.seven {cm : Str → Option Value} {n1 n2 n3 n4 n5 n6 n7 : Str} {c1 c2 c3 c4 c5 c6 c7 : Addr} {cells : List (Addr × Obj)} (x : CellsAre cm [(n1, c1), (n2, c2), (n3, c3), (n4, c4), (n5, c5), (n6, c6), (n7, c7)] cells) : Cells7 cm n1 n2 n3 n4 n5 n6 n7 c1 c2 c3 c4 c5 c6 c7 cells :=
  cells_step x fun o1 _ h1 x => cells_step (P := fun r => Cells7 cm n1 n2 n3 n4 n5 n6 n7 c1 c2 c3 c4 c5 c6 c7 ((c1, o1) :: r)) x fun o2 _ h2 x => cells_step (P := fun r => Cells7 cm n1 n2 n3 n4 n5 n6 n7 c1 c2 c3 c4 c5 c6 c7 ((c1, o1) :: (c2, o2) :: r)) x fun o3 _ h3 x =>
  cells_step (P := fun r => Cells7 cm n1 n2 n3 n4 n5 n6 n7 c1 c2 c3 c4 c5 c6 c7 ((c1, o1) :: (c2, o2) :: (c3, o3) :: r)) x fun o4 _ h4 x => cells_step (P := fun r => Cells7 cm n1 n2 n3 n4 n5 n6 n7 c1 c2 c3 c4 c5 c6 c7 ((c1, o1) :: (c2, o2) :: (c3, o3) :: (c4, o4) :: r)) x fun o5 _ h5 x =>
  cells_step (P := fun r => Cells7 cm n1 n2 n3 n4 n5 n6 n7 c1 c2 c3 c4 c5 c6 c7 ((c1, o1) :: (c2, o2) :: (c3, o3) :: (c4, o4) :: (c5, o5) :: r)) x fun o6 _ h6 x => cells_step (P := fun r => Cells7 cm n1 n2 n3 n4 n5 n6 n7 c1 c2 c3 c4 c5 c6 c7 ((c1, o1) :: (c2, o2) :: (c3, o3) :: (c4, o4) :: (c5, o5) :: (c6, o6) :: r)) x fun o7 _ h7 x =>
  cells_end (P := fun r => Cells7 cm n1 n2 n3 n4 n5 n6 n7 c1 c2 c3 c4 c5 c6 c7 ((c1, o1) :: (c2, o2) :: (c3, o3) :: (c4, o4) :: (c5, o5) :: (c6, o6) :: (c7, o7) :: r)) x (.mk o1 o2 o3 o4 o5 o6 o7 h1 h2 h3 h4 h5 h6 h7)
theorem store_cell {M : Model} {A : Around} {E : Value → Shared → Prop} {s : Shared} {h₀ : Heap} {L : Addr} {m : Str → Option Value} {env : Env} {x : Str} {c : Addr} {o : Obj} {v₀ : Option Value} {v : Value} {own rest : Ledger} {Q : Unit → Shared → Prop} {news : Ledger}
    (F : Fr h₀ L s.heap m) (N : News h₀ L s.heap news) (hsub : ∀ p ∈ own ++ (c, o) :: rest, p ∈ news) (hnd : ((own ++ (c, o) :: rest).map (·.1)).Nodup) (hd : o.data = .cell v₀)
    (h : ∀ h' o', Fr h₀ L h' m → News h₀ L h' (own ++ (c, o') :: rest) → ((own ++ (c, o') :: rest).map (·.1)).Nodup → o'.data = .cell (some v) → Q () { s with heap := h' })
    (hk : env.scope.kind = .function := by rfl) (hx : env.kindOf x = some .cell := by rfl) (hc : env.cells.lookup x = some c := by rfl) :
    wpAny M A (storeName env x v) Q E s := by
  have N : News h₀ L s.heap (own ++ (c, o) :: rest) := fun p hp => N p (hsub p hp)
  have hmem := N (c, o) (List.mem_append_right _ (.head _))
  refine wpAny_storeName_cell hk hx hc ⟨o, hmem.1, hd⟩ fun h' hv hs => ?_
  obtain ⟨o', ho', hd'⟩ := hv
  have hn2 := hnd
  rw [List.map_append, List.map_cons, List.nodup_append] at hn2
  obtain ⟨_, q2, q3⟩ := hn2
  refine h h' o' ⟨F.ns.sameBut hs (Ne.symm hmem.2.1), fun b ob e => (hs.2 b (fun q => ?_)).trans (F.keep b ob e), F.above⟩ (N.setAt (fun p hp e => q3 p.1 (List.mem_map_of_mem hp) c (.head _) e) (fun p hp e => (List.nodup_cons.mp q2).1 (by have := List.mem_map_of_mem (f := (·.1)) hp; rw [e] at this; exact this)) hs ho') ?_ hd'
  · rw [q, hmem.2.2] at e; cases e
  · rw [List.map_append, List.map_cons] at hnd ⊢
    exact hnd
theorem ndrop1 {h₀ h : Heap} {L : Addr} {a b : Addr × Obj} {r : Ledger} (N : News h₀ L h (a :: b :: r)) : News h₀ L h (a :: r) := fun p hp => by
  rcases List.mem_cons.mp hp with rfl | hp
  · exact N _ (.head _)
  · exact N p (.tail _ (.tail _ hp))
theorem ndrop2 {h₀ h : Heap} {L : Addr} {a b c : Addr × Obj} {r : Ledger} (N : News h₀ L h (a :: b :: c :: r)) : News h₀ L h (a :: b :: r) := fun p hp => by
  rcases List.mem_cons.mp hp with rfl | hp
  · exact N _ (.head _)
  · rcases List.mem_cons.mp hp with rfl | hp
    · exact N _ (.tail _ (.head _))
    · exact N p (.tail _ (.tail _ (.tail _ hp)))
theorem ndrop0 {h₀ h : Heap} {L : Addr} {a : Addr × Obj} {r : Ledger} (N : News h₀ L h (a :: r)) : News h₀ L h r := fun p hp => N p (.tail _ hp)
theorem nd_drop0 {a : Addr × Obj} {r : Ledger} (h : ((a :: r).map (·.1)).Nodup) : (r.map (·.1)).Nodup := (List.nodup_cons.mp h).2
theorem nd_drop2 {a b c : Addr × Obj} {r : Ledger} (h : ((a :: b :: c :: r).map (·.1)).Nodup) : ((a :: b :: r).map (·.1)).Nodup := by
  simp only [List.map_cons, List.nodup_cons, List.mem_cons, not_or] at h ⊢
  exact ⟨⟨h.1.1, h.1.2.2⟩, h.2.1.2, h.2.2.2⟩
theorem nd_drop1 {a b : Addr × Obj} {r : Ledger} (h : ((a :: b :: r).map (·.1)).Nodup) : ((a :: r).map (·.1)).Nodup := by
  simp only [List.map_cons, List.nodup_cons, List.mem_cons, not_or] at h ⊢
  exact ⟨h.1.2, h.2.2⟩
theorem execs_append (l r : List Stmt) (env : Env) : execs (l ++ r) env = (execs l env >>= fun f => match f with | .next => execs r env | f => pure f) := by
  induction l with
  | nil => rfl
  | cons a l ih =>
    show (exec a env >>= fun f => match f with | .next => execs (l ++ r) env | f => pure f) = ((exec a env >>= fun f => match f with | .next => execs l env | f => pure f) >>= fun f => match f with | .next => execs r env | f => pure f)
    rw [ih]
    generalize exec a env = m
    generalize execs l env = m1
    generalize execs r env = m2
    show m.bind _ = (m.bind _).bind _
    rw [PySem.Sem.bind_assoc]
    congr 1
    funext f
    cases f <;> rfl
theorem chain {M : Model} {A : Around} {l r : List Stmt} {env : Env} {Mid : Shared → Prop} {Q : Flow → Shared → Prop} {E : Value → Shared → Prop} {s : Shared}
    (h : wpAny M A (execs l env) (fun f s' => f = .next ∧ Mid s') E s) (k : ∀ s', Mid s' → wpAny M A (execs r env) Q E s') : wpAny M A (execs (l ++ r) env) Q E s := by
  rw [execs_append]
  refine wpAny_bind (wpAny_mono h ?_ fun _ _ x => x)
  rintro f s' ⟨rfl, hm⟩
  exact k s' hm
theorem chain5 {M : Model} {A : Around} {a1 a2 a3 a4 a5 : Stmt} {r : List Stmt} {env : Env} (Mid : Shared → Prop) {Q : Flow → Shared → Prop} {E : Value → Shared → Prop} {s : Shared}
    (h : wpAny M A (execs [a1, a2, a3, a4, a5] env) (fun f s' => f = .next ∧ Mid s') E s) (k : ∀ s', Mid s' → wpAny M A (execs r env) Q E s') : wpAny M A (execs (a1 :: a2 :: a3 :: a4 :: a5 :: r) env) Q E s := chain (l := [a1, a2, a3, a4, a5]) h k
theorem chain1 {M : Model} {A : Around} {a1 : Stmt} {r : List Stmt} {env : Env} (Mid : Shared → Prop) {Q : Flow → Shared → Prop} {E : Value → Shared → Prop} {s : Shared}
    (h : wpAny M A (execs [a1] env) (fun f s' => f = .next ∧ Mid s') E s) (k : ∀ s', Mid s' → wpAny M A (execs r env) Q E s') : wpAny M A (execs (a1 :: r) env) Q E s := chain (l := [a1]) h k
theorem chain2 {M : Model} {A : Around} {a1 a2 : Stmt} {r : List Stmt} {env : Env} (Mid : Shared → Prop) {Q : Flow → Shared → Prop} {E : Value → Shared → Prop} {s : Shared}
    (h : wpAny M A (execs [a1, a2] env) (fun f s' => f = .next ∧ Mid s') E s) (k : ∀ s', Mid s' → wpAny M A (execs r env) Q E s') : wpAny M A (execs (a1 :: a2 :: r) env) Q E s := chain (l := [a1, a2]) h k
theorem chain3 {M : Model} {A : Around} {a1 a2 a3 : Stmt} {r : List Stmt} {env : Env} (Mid : Shared → Prop) {Q : Flow → Shared → Prop} {E : Value → Shared → Prop} {s : Shared}
    (h : wpAny M A (execs [a1, a2, a3] env) (fun f s' => f = .next ∧ Mid s') E s) (k : ∀ s', Mid s' → wpAny M A (execs r env) Q E s') : wpAny M A (execs (a1 :: a2 :: a3 :: r) env) Q E s := chain (l := [a1, a2, a3]) h k
abbrev lcells (L : Addr) (olast ostep oout otop oports oother oone : Obj) : Ledger := [(L + 1 + 6, olast), (L + 1 + 5, ostep), (L + 1 + 4, oout), (L + 1 + 3, otop), (L + 1 + 2, oports), (L + 1 + 1, oother), (L + 1, oone)]
noncomputable def tupOf (vs : List Value) (k : Nat) : Obj := { cls := .type "tuple", data := .seq vs.toArray k }
/-- after `out, strangers = ..` -/
inductive Mid3 (s : Shared) (L sa : Addr) (olast ostep : Obj) : Shared → Prop
  | mk (h' : Heap) (tk : Nat) (told tl pl hl ol sl : Addr) (oone oother oports otop oout : Obj) (one other : Int) (hvs ovs svs : List Value) (hs paid : List Int) (nh no ns : Nat) (t1 t2 t3 t4 t5 : Tok)
    (_ : 1 ≤ one)
    (_ : one ≤ 6)
    (_ : 1 ≤ other)
    (_ : other ≤ 7)
    (_ : oone.data = .cell (some (.int one t1)))
    (_ : oother.data = .cell (some (.int other t2)))
    (_ : oports.data = .cell (some (.ref pl)))
    (_ : otop.data = .cell (some (.int (one * other) t5)))
    (_ : oout.data = .cell (some (.ref ol)))
    (_ : IntsAre hvs hs)
    (_ : 1 ≤ hs.length)
    (_ : hs.length ≤ 4)
    (_ : (∀ x ∈ hs, 0 ≤ x ∧ x ≤ one * other))
    (_ : paid.Perm (paidL one other (one * other) hs))
    (_ : paid.Pairwise (· ≤ ·))
    (_ : IntsAre ovs (sldN ((one * other + 1).toNat + paid.length) (rangeKs 0 (one * other + 1).toNat) paid).1)
    (_ : IntsAre svs (sldN ((one * other + 1).toNat + paid.length) (rangeKs 0 (one * other + 1).toNat) paid).2)
    (_ : Fr s.heap L h' (fun y => if y = Str.ofString "strangers" then some (.ref sl) else if y = Str.ofString "held" then some (.ref hl) else if y = Str.ofString "told" then some (.ref told) else if y = Str.ofString "turns" then some (.ref tl) else if y = Str.ofString "script" then some (.ref sa) else none))
    (_ : News s.heap L h' ((sl, listOf svs.toArray ns) :: (ol, listOf ovs.toArray no) :: (hl, listOf hvs.toArray nh) :: (pl, listOf #[.int one t3, .int other t4] 2) :: lcells L olast ostep oout otop oports oother oone))
    (_ : (((sl, listOf svs.toArray ns) :: (ol, listOf ovs.toArray no) :: (hl, listOf hvs.toArray nh) :: (pl, listOf #[.int one t3, .int other t4] 2) :: lcells L olast ostep oout otop oports oother oone).map (·.1)).Nodup) :
    Mid3 s L sa olast ostep { s with heap := h', toks := tk }
/-- after `held` -/
inductive Mid2 (s : Shared) (L sa : Addr) (olast ostep oout : Obj) : Shared → Prop
  | mk (h' : Heap) (tk : Nat) (told tl pl hl : Addr) (oone oother oports otop : Obj) (one other : Int) (hvs : List Value) (hs : List Int) (nh : Nat) (t1 t2 t3 t4 t5 : Tok)
    (_ : 1 ≤ one)
    (_ : one ≤ 6)
    (_ : 1 ≤ other)
    (_ : other ≤ 7)
    (_ : oone.data = .cell (some (.int one t1)))
    (_ : oother.data = .cell (some (.int other t2)))
    (_ : oports.data = .cell (some (.ref pl)))
    (_ : otop.data = .cell (some (.int (one * other) t5)))
    (_ : IntsAre hvs hs)
    (_ : 1 ≤ hs.length)
    (_ : hs.length ≤ 4)
    (_ : (∀ x ∈ hs, 0 ≤ x ∧ x ≤ one * other))
    (_ : Fr s.heap L h' (fun y => if y = Str.ofString "held" then some (.ref hl) else if y = Str.ofString "told" then some (.ref told) else if y = Str.ofString "turns" then some (.ref tl) else if y = Str.ofString "script" then some (.ref sa) else none))
    (_ : News s.heap L h' ((hl, listOf hvs.toArray nh) :: (pl, listOf #[.int one t3, .int other t4] 2) :: lcells L olast ostep oout otop oports oother oone))
    (_ : (((hl, listOf hvs.toArray nh) :: (pl, listOf #[.int one t3, .int other t4] 2) :: lcells L olast ostep oout otop oports oother oone).map (·.1)).Nodup) :
    Mid2 s L sa olast ostep oout { s with heap := h', toks := tk }
/-- after the first five statements -/
inductive Mid1 (s : Shared) (L sa : Addr) (olast ostep oout otop oports : Obj) : Shared → Prop
  | mk (h' : Heap) (tk : Nat) (told q1 q2 tl : Addr) (oone oother : Obj) (one other S S3 : Int) (t1 t2 t3 t4 t5 t6 t7 t8 : Tok)
    (_ : 1 ≤ one)
    (_ : one ≤ 6)
    (_ : 1 ≤ other)
    (_ : other ≤ 7)
    (_ : oone.data = .cell (some (.int one t1)))
    (_ : oother.data = .cell (some (.int other t2)))
    (_ : Fr s.heap L h' (fun y => if y = Str.ofString "told" then some (.ref told) else if y = Str.ofString "turns" then some (.ref tl) else if y = Str.ofString "script" then some (.ref sa) else none))
    (_ : News s.heap L h' ((told, listOf #[.ref q1, .ref q2] 0) :: (q2, { cls := .type "tuple", data := .seq #[.str (Str.ofString "b") t3, .int other t4] }) :: (q1, { cls := .type "tuple", data := .seq #[.str (Str.ofString "a") t5, .int one t6] }) :: (tl, listOf #[.int S t7, .int S3 t8] 0) :: lcells L olast ostep oout otop oports oother oone))
    (_ : (((told, listOf #[.ref q1, .ref q2] 0) :: (q2, { cls := .type "tuple", data := .seq #[.str (Str.ofString "b") t3, .int other t4] }) :: (q1, { cls := .type "tuple", data := .seq #[.str (Str.ofString "a") t5, .int one t6] }) :: (tl, listOf #[.int S t7, .int S3 t8] 0) :: lcells L olast ostep oout otop oports oother oone).map (·.1)).Nodup) :
    Mid1 s L sa olast ostep oout otop oports { s with heap := h', toks := tk }
section
open Classical
theorem perm_4a {α : Type} (d a b c : α) (C : List α) : (d :: a :: b :: c :: C).Perm ([c, d] ++ (a :: b :: C)) := by (refine List.perm_iff_count.mpr fun a0 => ?_; simp only [List.count_cons, List.count_append, List.cons_append, List.nil_append, List.append_assoc, List.count_nil]; ac_rfl)
end
structure Room (A : Around) : Prop where
  h : ∀ env, (A.deeper env).units + 64 < cLine
theorem reads_pair {h₀ h : Heap} {L a : Addr} {news : Ledger} {x : Str} {n : Int} {t u : Tok} {k : Nat} (N : News h₀ L h news) (hm : (a, ({ cls := .type "tuple", data := .seq [Value.str x t, Value.int n u].toArray k } : Obj)) ∈ news) : Reads h (.ref a) (.tuple [.str x, .int n]) [] :=
  reads_tuple_at (N.get hm) rfl rfl (.cons (.str _ _) (.cons (.int _ _) .nil))
theorem reads_two {h₀ h : Heap} {L a b c : Addr} {news : Ledger} {k : Nat} {d e : PyData} (N : News h₀ L h news) (hm : (a, listOf [Value.ref b, Value.ref c].toArray k) ∈ news) (r1 : Reads h (.ref b) d []) (r2 : Reads h (.ref c) e []) : Reads h (.ref a) (.list [d, e]) [a] :=
  reads_list_at (N.get hm) rfl rfl (.cons r1 (.cons r2 .nil))
theorem told_ne {w : World} {A : Around} {E : Value → Shared → Prop} {s : Shared} {Q : Value → Shared → Prop} {h₀ : Heap} {L a1 b1 c1 a2 b2 c2 : Addr} {news : Ledger} {k1 k2 k3 k4 k5 k6 : Nat} {x y : Str} {n o : Int} {t1 t2 t3 t4 t5 t6 t7 t8 : Tok} (hu : A.units + 64 < cLine) (hx : PyData.strOk x = true) (hy : PyData.strOk y = true) (N : News h₀ L s.heap news)
    (m1 : (a1, listOf [Value.ref b1, Value.ref c1].toArray k1) ∈ news) (m2 : (b1, ({ cls := .type "tuple", data := .seq [Value.str x t1, Value.int n t2].toArray k2 } : Obj)) ∈ news) (m3 : (c1, ({ cls := .type "tuple", data := .seq [Value.str y t3, Value.int o t4].toArray k3 } : Obj)) ∈ news)
    (m4 : (a2, listOf [Value.ref b2, Value.ref c2].toArray k4) ∈ news) (m5 : (b2, ({ cls := .type "tuple", data := .seq [Value.str x t5, Value.int n t6].toArray k5 } : Obj)) ∈ news) (m6 : (c2, ({ cls := .type "tuple", data := .seq [Value.str y t7, Value.int o t8].toArray k6 } : Obj)) ∈ news)
    (h : Q (.bool false) s) : wpAny (model prg w) A (compareOp .NotEq (.ref a1) (.ref a2)) Q E s := by
  refine ne_dataH (reads_two N m1 (reads_pair N m2) (reads_pair N m3)) (reads_two N m4 (reads_pair N m5) (reads_pair N m6)) (by simp [SeqAt.shaped, PyData.canLay0, PyData.canLayAll0, PyData.depth, PyData.depthAll, hx, hy]) (by simp [SeqAt.shaped, PyData.canLay0, PyData.canLayAll0, PyData.depth, PyData.depthAll, hx, hy]) hu ?_
  have e : PyData.eqv (.list [.tuple [.str x, .int n], .tuple [.str y, .int o]]) (.list [.tuple [.str x, .int n], .tuple [.str y, .int o]]) = true := by
    simp [PyData.eqv, PyData.eqvAll]
  rw [e]; exact h
noncomputable def LtEnd (d : Addr) : Ledger → Prop
  | [] => True
  | [p] => p.1 < d
  | p :: q :: r => p.1 < d ∧ LtEnd d (q :: r)
theorem LtEnd.all {d : Addr} : ∀ (l : Ledger), LtEnd d l → ∀ p ∈ l, p.1 < d
  | [], _ => fun _ h => by cases h
  | [a], h => fun p hp => by rcases List.mem_singleton.mp hp with rfl; exact h
  | a :: b :: r, h => fun p hp => by
    rcases List.mem_cons.mp hp with rfl | hp
    · exact h.1
    · exact LtEnd.all (b :: r) h.2 p hp
theorem nodup_end {d : Addr} {o : Obj} {ps : Ledger} (nd : (ps.map (·.1)).Nodup) (h : LtEnd d ps) : (((d, o) :: ps).map (·.1)).Nodup := nodup_lt (LtEnd.all _ h) nd
theorem use_con0 {w : World} {p : Program} {loose : List Str} {mean : ExcName → Option Value} {mg mb : Str → Option Value} {h₀ : Heap} {A : Around} {need : Nat} {f : Value} {args : List Value} {pre rest : Ledger} {post : Value → Ledger → Prop} {env : Env} {L : Addr} {m : Str → Option Value} {s : Shared} {Q E : Value → Shared → Prop} {news : Ledger}
    (C : Con w f args need pre post) (G : Gd w p loose mean mg mb h₀ A [] 12) (hn : need ≤ 11) (F : Fr h₀ L s.heap m) (N : News h₀ L s.heap news) (hsub : ∀ p ∈ pre ++ rest, p ∈ news) (nd : ((pre ++ rest).map (·.1)).Nodup)
    (k : ∀ r h' tk' new, Fr h₀ L h' m → News h₀ L h' (new ++ rest) → ((new ++ rest).map (·.1)).Nodup → post r new → Q r { s with heap := h', toks := tk' })
    (hk : env.scope.kind ≠ .module := by intro h; cases h) (hf : env.frame = some L := by rfl) :
    wpAny (model prg w) (A.deeper env) (call f args) Q E s := by
  refine use_con (rest := rest) (frs := []) C ((G.deeper env).le hn) hk hf trivial F N (by rw [List.append_nil]; exact hsub) (by rw [List.append_nil]; exact nd) ?_
  intro r h' tk' new frs' SU Fs F' N' nd' hp
  cases frs' with
  | nil => rw [List.append_nil] at N' nd'; exact k r h' tk' new F' N' nd' hp
  | cons _ _ => exact False.elim SU
theorem pairs_rest {w : World} {A : Around} {h₀ : Heap} {L : Addr} {m : Str → Option Value} {env : Env} {x x₂ : Str} {pos : Pos} {scope : Scope} {cl : List (Str × Addr)} {s : Shared} {S : List (Addr × Obj) → Prop} {Fin : List Value → List (Addr × Obj) → Prop} {news : Ledger} {a b : Addr} {u1 v1 u2 v2 : Value} {k1 k2 : Nat}
    (m1 : (a, ({ cls := .type "tuple", data := .seq #[u1, v1] k1 } : Obj)) ∈ news) (m2 : (b, ({ cls := .type "tuple", data := .seq #[u2, v2] k2 } : Obj)) ∈ news) (hS : S news) (fin : Fin [v1, v2] news)
    (hk : ∀ C, (compEnvC scope cl C env).scope.kind = .function) (hx : ∀ C, (compEnvC scope cl C env).kindOf x₂ = some .local) (hd : (x₂ == ("__debug__" : Str)) = false) :
    LCp.CompRestP prg w A h₀ L m env (.Name x₂ pos) x x₂ scope cl s S (fun i v => (#[Value.ref a, Value.ref b] : Array Value)[i]? = some v) Fin 2 0 [] news := by
  refine LCp.CompRestP.succ fun v hv => ?_
  have e : v = .ref a := by simpa using hv.symm
  refine ⟨a, _, u1, v1, _, e, m1, rfl, rfl, ?_⟩
  intro I oI C oC D m₂ h tk E' hC _ hx2 F N off _
  refine wpAny_Name (wpAny_loadName_local (hk C) (hx C) (hC.ns (N (C, oC) (.tail _ (.head _))).1) hx2 ?_) hd
  refine LCg.CompEnd.intro F N news (fun p hp => hp) off hS ?_
  refine LCp.CompRestP.succ fun v hv => ?_
  have e : v = .ref b := by simpa using hv.symm
  refine ⟨b, _, u2, v2, _, e, m2, rfl, rfl, ?_⟩
  intro I oI C oC D m₂ h tk E' hC _ hx2 F N off _
  refine wpAny_Name (wpAny_loadName_local (hk C) (hx C) (hC.ns (N (C, oC) (.tail _ (.head _))).1) hx2 ?_) hd
  refine LCg.CompEnd.intro F N news (fun p hp => hp) off hS ?_
  exact LCp.CompRestP.zero fin
theorem off1_nd {D : Addr} {o : Obj} : ∀ {l : Ledger}, LCg.Off1 D l → (l.map (·.1)).Nodup → (((D, o) :: l).map (·.1)).Nodup := fun {l} h nd => by
  refine List.nodup_cons.mpr ⟨fun hm => ?_, nd⟩
  obtain ⟨p, hp, e⟩ := List.mem_map.mp hm
  clear nd hm
  induction l with
  | nil => cases hp
  | cons q r ih =>
    rcases List.mem_cons.mp hp with rfl | hp
    · exact h.1 e
    · exact ih h.2 hp
section
variable {w : World} {A : Around} {E : Value → Shared → Prop} {s : Shared} {h₀ : Heap} {L : Addr} {m : Str → Option Value} {news : Ledger} {env : Env}
/-- the source of a comprehension whose list is stored under a local name -/
noncomputable def CompSrcA (w : World) (A : Around) (env : Env) (scope : Scope) (cl : List (Str × Addr)) (x y : Str) (ifs : List Expr) (elt : Expr) (p : Value → Bool) (Fv : Value → Value → Prop) (Q : Flow → Shared → Prop) (it : Value) (s₂ : Shared) : Prop :=
  ∃ I fp wr n P St m, it = .ref I ∧ Walks prg w A I fp wr n P St ∧ n ≤ sizeLine ∧ St 0 s₂.heap ∧ (∀ b ∈ fp, b < s₂.heap.objs.size) ∧ env.locals ∉ wr ∧ s₂.heap.Ns env.locals m ∧
      QuietOnC prg w A env scope cl x ifs elt wr P p Fv s₂ ∧
      (∀ D h' tk ys (vs : List Value), s₂.heap.get? D = none → h'.IsList D ys → h'.PlainList D ys → vs.length = n → (∀ j v, vs[j]? = some v → P j v) → Paired Fv (vs.filter p) ys.toList →
        h'.Ns env.locals (fun z => if z = y then some (.ref D) else m z) → (∀ b o, b ≠ env.locals → b ∉ wr → s₂.heap.get? b = some o → h'.get? b = some o) → Q .next { s₂ with heap := h', toks := tk })
theorem assign_q {elt iter : Expr} {x y : Str} {px py : Pos} {ifs : List Expr} {scope : Scope} {cl : List (Str × Addr)} {pos spos : Pos} {Q : Flow → Shared → Prop} (p : Value → Bool) (Fv : Value → Value → Prop)
    (hsw : swapsWith (.ListComp elt [⟨.Name x px, iter, ifs, 0⟩] scope pos) (some (.Name y py)) spos.line env = pure true)
    (hclos : closureFor scope env = pure cl) (hcell : ∀ z ∈ scope.names, z.2 ≠ .cell) (hkind : scope.kind = .function)
    (hnames : ∀ z ∈ scope.names, z.2 = .local → scope.names.lookup z.1 = some .local) (hx : scope.names.lookup x = some .local)
    (hy : env.kindOf y = some .local) (hp : (env.scope.kind == .class || (env.scope.kind == .module && env.locals != env.globals)) = false)
    (h : wpAny (model prg w) A (eval iter env) (fun xv s₁ => Stop (wpAny (model prg w) A (pyIter xv) (CompSrcA w A env scope cl x y ifs elt p Fv Q) E s₁)) E s)
    (hs : ∀ x, foldedSetIterable iter env x = pure x := by intro _; rfl) :
    wpAny (model prg w) A (exec (.Assign [.Name y py] (.ListComp elt [⟨.Name x px, iter, ifs, 0⟩] scope pos) spos) env) Q E s :=
  wpAny_Assign_ListComp_free p Fv hsw hclos hcell hkind hnames hx hy hp h hs
theorem assign_seq {scope : Scope} {cl : List (Str × Addr)} {x y : Str} {ifs : List Expr} {elt : Expr} {p : Value → Bool} {Fv : Value → Value → Prop} {Q : Flow → Shared → Prop} {l : Addr} {vs : List Value} {k : Nat} {T : String}
    (hh : A.handled = none) (hL : env.locals = L) (F : Fr h₀ L s.heap m) (N : News h₀ L s.heap news) (hm : (l, ({ cls := .type T, data := .seq vs.toArray k } : Obj)) ∈ news) (hT : T = "list" ∨ T = "tuple") (hz : vs.length ≤ sizeLine)
    (tests : ∀ (C : Addr) (i : Nat) (v : Value) (s₃ : Shared) (m₃ : Str → Option Value) (E' : Value → Shared → Prop), vs[i]? = some v → Fr h₀ C s₃.heap m₃ → m₃ x = some v → News h₀ C s₃.heap news →
      wpAny (model prg w) A (forIn ifs true fun c r => if r = true then do let ok ← isTrue c (compEnvC scope cl C env) (eval c (compEnvC scope cl C env)); pure (ForInStep.yield ok) else pure (ForInStep.yield r))
        (fun ok s₄ => ok = p v ∧ Keeps s₃ s₄) E' s₃)
    (elts : ∀ (C : Addr) (i : Nat) (v : Value) (s₃ : Shared) (m₃ : Str → Option Value) (E' : Value → Shared → Prop), vs[i]? = some v → p v = true → Fr h₀ C s₃.heap m₃ → m₃ x = some v → News h₀ C s₃.heap news →
      wpAny (model prg w) A (eval elt (compEnvC scope cl C env)) (fun y s₄ => Fv v y ∧ Keeps s₃ s₄) E' s₃)
    (res : ∀ D h' tk ys n, Fr h₀ L h' (fun z => if z = y then some (.ref D) else m z) → News h₀ L h' ((D, listOf ys n) :: news) → (∀ p ∈ news, p.1 ≠ D) → Paired Fv (vs.filter p) ys.toList → Q .next { s with heap := h', toks := tk }) :
    wpAny (model prg w) A (pyIter (.ref l)) (CompSrcA w A env scope cl x y ifs elt p Fv Q) E s := by
  subst hL
  have hlt : l < s.heap.objs.size := Heap.lt_size (N _ hm).1
  have hLlt : env.locals < s.heap.objs.size := F.ns.lt
  have fin : ∀ (O : Obj) (St : Nat → Heap → Prop), O.isFreed = false → Walks prg w A s.heap.objs.size [s.heap.objs.size, l] [s.heap.objs.size] vs.toArray.size (fun i v => vs.toArray[i]? = some v) St → St 0 (s.heap.push O) →
      CompSrcA w A env scope cl x y ifs elt p Fv Q (.ref s.heap.objs.size) { s with heap := s.heap.push O } := by
    intro O St hO W hst
    refine ⟨s.heap.objs.size, _, _, vs.toArray.size, _, _, m, rfl, W, by simpa using hz, hst, ?_, (fun hm => Nat.ne_of_lt hLlt (List.mem_singleton.mp hm)), F.ns.push _, ⟨?_, ?_⟩, ?_⟩
    · intro b hb
      show b < (s.heap.push _).objs.size
      rw [push_size]
      rcases List.mem_cons.mp hb with rfl | hb
      · exact Nat.lt_succ_self _
      · rw [List.mem_singleton.mp hb]; exact Nat.lt_succ_of_lt hlt
    · rintro C i v s₃ m₃ E' hC hkv hn hmx hk _
      obtain ⟨F3, N3⟩ := news_comp (h := s₃.heap) F N rfl hC hn hk
      exact tests C i v s₃ m₃ E' (by simpa using hkv) F3 hmx N3
    · rintro C i v s₃ m₃ E' hC hkv hp hn hmx hk _
      obtain ⟨F3, N3⟩ := news_comp (h := s₃.heap) F N rfl hC hn hk
      exact elts C i v s₃ m₃ E' (by simpa using hkv) hp F3 hmx N3
    · intro D h' tk ys vs' hD hl hpl hlen hP hF hns hk
      have up : ∀ b o, b ≠ env.locals → s.heap.get? b = some o → h'.get? b = some o := fun b o hb e => hk b o hb (fun hm => by
        rw [List.mem_singleton.mp hm] at e
        exact Nat.lt_irrefl _ (Heap.lt_size e)) (Heap.get?_push_of_some _ e)
      have ne : ∀ b o, s.heap.get? b = some o → b ≠ D := fun b o e q => by
        rw [q] at e
        rw [Heap.get?_push_of_some _ e] at hD; cases hD
      have hL0 : h₀.get? env.locals = none := Heap.get?_none_of_le F.above
      obtain ⟨n, hl'⟩ := hpl
      have F3 : Fr h₀ env.locals h' (fun z => if z = y then some (.ref D) else m z) := ⟨hns, fun b o e => up b o (fun q => by rw [q, hL0] at e; cases e) (F.keep b o e), F.above⟩
      have N3 : News h₀ env.locals h' ((D, listOf ys n) :: news) := fun q hq => by
        rcases List.mem_cons.mp hq with rfl | hq
        · refine ⟨hl', fun e => ?_, ?_⟩
          · obtain ⟨oL, es, ep, hL', r⟩ := id F.ns
            exact ne _ _ hL' e.symm
          · cases q : h₀.get? D with
            | none => rfl
            | some o => exact absurd rfl (ne _ _ (F.keep _ _ q))
        · exact ⟨up _ _ (N q hq).2.1 (N q hq).1, (N q hq).2⟩
      refine res D h' tk ys n F3 N3 (fun q hq => ne _ _ (N q hq).1) ?_
      have e : vs' = vs := by
        refine List.ext_getElem? fun i => ?_
        by_cases hi : i < vs'.length
        · have := hP i vs'[i] (List.getElem?_eq_getElem hi)
          rw [List.getElem?_eq_getElem hi]; simpa using this.symm
        · rw [List.getElem?_eq_none (by exact (not_lt_n hi)), List.getElem?_eq_none (by simp at hlen; exact lin [_, _, _] [] [(1, (.n (.v 2) (.v 1))), (1, (.n (.v 0) (.v 2)))] 1 (.n (.v 0) (.v 1)) rfl (not_lt_n hi) (eq_b hlen))]
      rw [← e]; exact hF
  rcases hT with rfl | rfl
  · have hl : s.heap.IsList l vs.toArray := ⟨_, (N _ hm).1, rfl, _, rfl⟩
    exact wpAny_pyIter_list hl (fin _ _ rfl (Walks.list hh _ _ (Nat.ne_of_lt hlt) vs.toArray) ⟨⟨_, Heap.get?_push_size _ rfl, rfl, rfl⟩, hl.at fun o e => Heap.get?_push_of_some _ e⟩)
  · have hl : s.heap.IsTuple l vs.toArray := ⟨_, (N _ hm).1, rfl, _, rfl⟩
    exact wpAny_pyIter_tuple hl (fin _ _ rfl (Walks.tuple hh _ _ (Nat.ne_of_lt hlt) vs.toArray) ⟨⟨_, Heap.get?_push_size _ rfl, rfl, rfl⟩, ⟨_, Heap.get?_push_of_some _ (N _ hm).1, rfl, _, rfl⟩⟩)
end
end
section
theorem newFunctionEnv_around {M : Model} {A : Around} {E : Value → Shared → Prop} {s : Shared} {scope : Scope} {globals builtins : Addr} {cl : List (Str × Addr)} {qual : Str} {func : Option Addr} {code : Value} {env : Env} {Q : Env → Shared → Prop}
    (hQ : Q { scope, locals := s.heap.objs.size, globals, cells := cellsFrom (s.heap.objs.size + 1) scope.names cl, qual, func, code := env.code, frame := env.frame, builtins := env.builtins } { s with heap := pushCells (s.heap.push { cls := .type "dict", data := .dict #[] }) scope.names }) :
    wpAny M A (newFunctionEnv scope globals cl [] qual func code (some env) builtins) Q E s := by
  simp only [newFunctionEnv, Option.isSome_some, if_true]
  refine wpAny_bind (wpAny_alloc ?_)
  refine wpAny_bind (wpAny_layCells _ (fun name kind cells => by cases hkc : kind == NameKind.cell <;> simp [hkc]) _ _ _ _ ?_)
  rw [show ({ s with heap := s.heap.push { cls := .type "dict", data := .dict #[] } } : Shared).heap.objs.size = s.heap.objs.size + 1 from Heap.size_push ..]
  exact wpAny_bind (wpAny_pure (wpAny_pure hQ))
section
variable {w : World} {A : Around} {E : Value → Shared → Prop} {s : Shared} {h₀ : Heap} {L : Addr} {m : Str → Option Value} {news₀ : Ledger} {env : Env}
/-- the end of a turn of such a comprehension -/
noncomputable def CellEnd (h₀ : Heap) (L : Addr) (m : Str → Option Value) (s : Shared) (ck : Addr) (oc : Obj) (D : Addr) (ys : List Value) (I : Addr) (oI : Obj) (C : Addr) (oC : Obj) (R : List Value → Ledger → Prop) (y : Value) (s' : Shared) : Prop :=
  ∃ h' tk' news', s' = { s with heap := h', toks := tk' } ∧ Fr h₀ L h' m ∧ News h₀ L h' ((ck, oc) :: (D, LCg.lst ys) :: (I, oI) :: (C, oC) :: news') ∧
        (∀ p ∈ news', p.1 ≠ ck ∧ p.1 ≠ D ∧ p.1 ≠ I ∧ p.1 ≠ C) ∧ R (ys ++ [y]) news'
inductive CelI (s : Shared) (h₀ : Heap) (L : Addr) (m : Str → Option Value) (I D C ck : Addr) (oC : Obj) (n : Nat) (J : Nat → List Value → Ledger → Prop) (k : Nat) : Shared → Prop
  | mk (h' : Heap) (tk : Tok) (i : Nat) (ys : List Value) (oc : Obj) (v' : Option Value) (news : Ledger) (_ : i ≤ n) (_ : k = n + 1 - i) (_ : ys.length = i) (_ : IsRangeIter h' I (0 + (i : Nat) * 1) ((n : Int) - (i : Nat)) 1) (_ : oc.data = .cell v') (_ : Fr h₀ L h' m)
    (_ : News h₀ L h' ((ck, oc) :: (D, LCg.lst ys) :: (C, oC) :: news)) (_ : ∀ p ∈ news, p.1 ≠ ck ∧ p.1 ≠ D ∧ p.1 ≠ I ∧ p.1 ≠ C) (_ : J i ys news) : CelI s h₀ L m I D C ck oC n J k { s with heap := h', toks := tk }
theorem comp_cells {elt iter : Expr} {x : Str} {px : Pos} {scope : Scope} {cl : List (Str × Addr)} {pos : Pos} {r : Addr} {b : Int} {t u v : Tok} {RR : Value → Addr → Result → Shared → Prop}
    (J : Nat → List Value → Ledger → Prop) (hh : A.handled = none) (F : Fr h₀ L s.heap m) (N : News h₀ L s.heap news₀) (hr : IsRange s.heap r 0 b 1 t u v) (hb : -1000000 ≤ b ∧ b < 1000000)
    (hkind : scope.kind = .function) (hcf : ∀ k, cellsFrom k scope.names cl = (x, k) :: cl) (hpc : ∀ h, pushCells h scope.names = h.push { cls := .type "cell", data := .cell none })
    (hx : ∀ C k, (compEnvC scope ((x, k) :: cl) C env).kindOf x = some .cell)
    (hj : J 0 [] news₀)
    (turn : ∀ (i : Nat) tv ys news I oI C oC ck oc D h tk (E' : Value → Shared → Prop), i < b.toNat → J i ys news → oc.data = .cell (some (.int (i : Int) tv)) → Fr h₀ L h m → News h₀ L h ((ck, oc) :: (D, LCg.lst ys) :: (I, oI) :: (C, oC) :: news) →
      (∀ p ∈ news, p.1 ≠ ck ∧ p.1 ≠ D ∧ p.1 ≠ I ∧ p.1 ≠ C) →
      wpAny (model prg w) A (eval elt (compEnvC scope ((x, ck) :: cl) C env)) (CellEnd h₀ L m s ck oc D ys I oI C oC (J (i + 1))) E' { s with heap := h, toks := tk })
    (hRR : ∀ D C h tk m' ys news', Fr h₀ L h m → News h₀ L h ((D, LCg.lst ys) :: news') → (∀ p ∈ news', p.1 ≠ D) → h.Ns C m' → h₀.get? C = none → h₀.get? D = none → C ≠ L → D ≠ L → C ≠ D → (∀ p ∈ news', p.1 ≠ C) → J b.toNat ys news' → RR (.ref D) C (.ok .next) { s with heap := h, toks := tk }) :
    wpAny (model prg w) A (pyIter (.ref r)) (fun it s₂ => wpAny (model prg w) A (newList []) (fun acc s₃ => wpAny (model prg w) A (newFunctionEnv scope env.globals cl [] env.qual none .none (some env)) (fun cenv s₄ =>
      codeAny (model prg w) A (.compStart (.ListComp elt [⟨.Name x px, iter, [], 0⟩] scope pos) 0 it acc { cenv with scope := relabel scope env }) (RR acc cenv.locals) s₄) E s₃) E s₂) E s := by
  refine wpAny_pyIter_range hr (small_one (by omega) (by omega) (by omega) (by omega)) ?_
  have hn : Builtin.Range.rangeSize 0 b 1 = (b.toNat : Int) := by rw [rangeSize_nat]; simp
  rw [hn]
  refine wpAny_newObj_type (newFunctionEnv_around ?_)
  dsimp only
  rw [hcf, hpc]
  have W := Walks.range (prog := prg) (w := w) hh s.heap.objs.size 0 1 b.toNat
  obtain ⟨H4, I, D, C, ck, hI, hDe, hCe, hck, keep, gI, gD, gC, gck, e4⟩ : ∃ H4 I D C ck, s.heap.objs.size = I ∧ D = I + 1 ∧ C = I + 2 ∧ ck = I + 3 ∧ (∀ b o, s.heap.get? b = some o → Heap.get? H4 b = some o) ∧
      H4.get? I = some { cls := .type "range_iterator", data := .fields #[rawInt 0, rawInt (b.toNat : Int), rawInt 1] } ∧ H4.get? D = some (LCg.lst []) ∧ H4.get? C = some { cls := .type "dict", data := .dict #[] } ∧ H4.get? ck = some { cls := .type "cell", data := .cell none } ∧
      H4 = (((s.heap.push { cls := .type "range_iterator", data := .fields #[rawInt 0, rawInt (b.toNat : Int), rawInt 1] }).push { cls := .type "list", dict := none, data := .seq ([] : List Value).toArray }).push { cls := .type "dict", data := .dict #[] }).push { cls := .type "cell", data := .cell none } := by
    refine ⟨_, _, _, _, _, rfl, rfl, rfl, rfl, fun b o e => Heap.get?_push_of_some _ (Heap.get?_push_of_some _ (Heap.get?_push_of_some _ (Heap.get?_push_of_some _ e))), Heap.get?_push_of_some _ (Heap.get?_push_of_some _ (Heap.get?_push_of_some _ (Heap.get?_push_size _ rfl))), ?_, ?_, ?_, rfl⟩
    · have := Heap.get?_push_size (s.heap.push { cls := .type "range_iterator", data := .fields #[rawInt 0, rawInt (b.toNat : Int), rawInt 1] }) (o := { cls := .type "list", dict := none, data := .seq ([] : List Value).toArray }) rfl
      rw [Heap.size_push] at this
      exact Heap.get?_push_of_some _ (Heap.get?_push_of_some _ this)
    · have := Heap.get?_push_size ((s.heap.push { cls := .type "range_iterator", data := .fields #[rawInt 0, rawInt (b.toNat : Int), rawInt 1] }).push { cls := .type "list", dict := none, data := .seq ([] : List Value).toArray }) (o := { cls := .type "dict", data := .dict #[] }) rfl
      rw [Heap.size_push, Heap.size_push] at this
      exact Heap.get?_push_of_some _ this
    · have := Heap.get?_push_size (((s.heap.push { cls := .type "range_iterator", data := .fields #[rawInt 0, rawInt (b.toNat : Int), rawInt 1] }).push { cls := .type "list", dict := none, data := .seq ([] : List Value).toArray }).push { cls := .type "dict", data := .dict #[] }) (o := { cls := .type "cell", data := .cell none }) rfl
      rw [Heap.size_push, Heap.size_push, Heap.size_push] at this
      exact this
  rw [← e4]
  simp only [Heap.size_push, hI]
  rw [hI] at W
  have hDe' : I + 1 = D := hDe.symm
  have hCe' : I + 1 + 1 = C := by rw [hCe]
  have hck' : C + 1 = ck := by rw [hCe, hck]
  rw [hCe', hck', hDe']
  clear e4 hcf hpc
  have fresh₀ : ∀ a, I ≤ a → h₀.get? a = none := fun a ha => by
    cases e : h₀.get? a with
    | none => rfl
    | some o' => exact absurd (Nat.lt_of_lt_of_le (Heap.lt_size (F.keep a o' e)) (hI ▸ ha)) (Nat.lt_irrefl _)
  have hLlt : @LT.lt Nat _ L I := hI ▸ F.ns.lt
  have hI₀ := fresh₀ I (Nat.le_refl _)
  have hD₀ := fresh₀ D (by exact lin [_, _] [] [(1, (.n (.a (.v 0) (.k 1)) (.v 1)))] 1 (.n (.v 0) (.v 1)) rfl (eq_b hDe))
  have hC₀ := fresh₀ C (by exact lin [_, _] [] [(1, (.n (.a (.v 0) (.k 2)) (.v 1)))] 1 (.n (.v 0) (.v 1)) rfl (eq_b hCe))
  have hk₀ := fresh₀ ck (by exact lin [_, _] [] [(1, (.n (.a (.v 0) (.k 3)) (.v 1)))] 1 (.n (.v 0) (.v 1)) rfl (eq_b hck))
  have hIL : I ≠ L := by exact go_neb (hLlt)
  have hDL : D ≠ L := by exact go_neb (lin [_, _, _] [] [(1, (.n (.a (.v 2) (.k 1)) (.v 1))), (1, (.n (.a (.v 0) (.k 1)) (.v 2)))] 1 (.n (.a (.v 0) (.k 1)) (.v 1)) rfl (eq_b hDe) hLlt)
  have hCL : C ≠ L := by exact go_neb (lin [_, _, _] [] [(1, (.n (.a (.v 2) (.k 2)) (.v 1))), (1, (.n (.a (.v 0) (.k 1)) (.v 2)))] 1 (.n (.a (.v 0) (.k 1)) (.v 1)) rfl (eq_b hCe) hLlt)
  have hkL : ck ≠ L := by exact go_neb (lin [_, _, _] [] [(1, (.n (.a (.v 2) (.k 3)) (.v 1))), (1, (.n (.a (.v 0) (.k 1)) (.v 2)))] 1 (.n (.a (.v 0) (.k 1)) (.v 1)) rfl (eq_b hck) hLlt)
  have hnlt : ∀ p ∈ news₀, @LT.lt Nat _ p.1 I := fun p hp => hI ▸ Heap.lt_size (N p hp).1
  obtain ⟨oC, hoC, hnC⟩ : ∃ oC : Obj, H4.get? C = some oC ∧ LCg.NsObj oC (fun _ => none) := ⟨_, gC, #[], 0, rfl, by intro e he; simp at he, fun _ => rfl⟩
  have F4 : Fr h₀ L H4 m := F.keeps keep
  have loop : ∀ s₃ : Shared, s₃ = { s with heap := H4, toks := s.toks } →
      codeAny (model prg w) A (.compLoop (.ListComp elt [⟨.Name x px, iter, [], 0⟩] scope pos) 0 (.ref I) (.ref D) (compEnvC scope ((x, ck) :: cl) C env)) (RR (.ref D) C) s₃ := by
    rintro s₃ rfl
    refine codeAny_compLoop_list
      (CelI s h₀ L m I D C ck oC b.toNat J) ?_ (b.toNat + 1)
      (.mk H4 s.toks 0 [] { cls := .type "cell", data := .cell none } none news₀ (Nat.zero_le _) rfl rfl (by (show IsRangeIter _ _ _ _ _); simpa using gI) rfl F4 ?_ ?_ hj)
    · rintro k _ ⟨h', tk, i, ys, oc, v', news, hi, hk, hyl, hst, hoc, F', N', off, hJ⟩
      by_cases hlt : i < b.toNat
      · refine W.item i _ _ _ hlt hst fun vv h₂ tk₂ hP hst₂ hk₂ => ?_
        obtain ⟨tv, rfl⟩ := hP
        have F₂ := fr_keeps F' hIL hI₀ hk₂
        have N₂ := news_keeps N' (fun p hp => by
          rcases List.mem_cons.mp hp with rfl | hp
          · show ck ≠ I; exact go_neb (lin [_, _] [] [(1, (.n (.a (.v 0) (.k 3)) (.v 1)))] 1 (.n (.a (.v 0) (.k 1)) (.v 1)) rfl (eq_b hck))
          · rcases List.mem_cons.mp hp with rfl | hp
            · show D ≠ I; exact go_neb ((eq_b hDe))
            · rcases List.mem_cons.mp hp with rfl | hp
              · show C ≠ I; exact go_neb (lin [_, _] [] [(1, (.n (.a (.v 0) (.k 2)) (.v 1)))] 1 (.n (.a (.v 0) (.k 1)) (.v 1)) rfl (eq_b hCe))
              · exact (off p hp).2.2.1) hk₂
        have hcm := N₂ (ck, oc) (.head _)
        refine wpAny_assign_Name (wpAny_storeName_cell hkind (hx C ck) (by simp [compEnvC]) ⟨oc, hcm.1, hoc⟩ fun h₃ hc3 hs3 => ?_)
        obtain ⟨oc3, hoc3, hd3⟩ := hc3
        have e0 : (0 : Int) + (i : Nat) * 1 = (i : Int) := by omega
        rw [e0] at hd3
        obtain ⟨oI, ho⟩ : ∃ o, h₂.get? I = some o := ⟨_, hst₂⟩
        have F₃ : Fr h₀ L h₃ m := F₂.change hs3 hcm.2.1 hcm.2.2
        have N₃ : News h₀ L h₃ ((ck, oc3) :: (D, LCg.lst ys) :: (I, oI) :: (C, oC) :: news) := fun p hp => by
          rcases List.mem_cons.mp hp with rfl | hp
          · exact ⟨hoc3, hkL, hk₀⟩
          · rcases List.mem_cons.mp hp with rfl | hp
            · exact ⟨(hs3.2 _ (by show D ≠ ck; exact go_nea (lin [_, _, _] [] [(1, (.n (.v 0) (.a (.v 2) (.k 1)))), (1, (.n (.a (.v 2) (.k 3)) (.v 1)))] 1 (.n (.a (.v 0) (.k 1)) (.v 1)) rfl (eq_a hDe) (eq_b hck)))).trans (N₂ _ (.tail _ (.head _))).1, hDL, hD₀⟩
            · rcases List.mem_cons.mp hp with rfl | hp
              · exact ⟨(hs3.2 _ (by show I ≠ ck; exact go_nea (lin [_, _] [] [(1, (.n (.a (.v 0) (.k 3)) (.v 1)))] 1 (.n (.a (.v 0) (.k 1)) (.v 1)) rfl (eq_b hck)))).trans ho, hIL, hI₀⟩
              · rcases List.mem_cons.mp hp with rfl | hp
                · exact ⟨(hs3.2 _ (by show C ≠ ck; exact go_nea ((eq_a hck')))).trans (N₂ _ (.tail _ (.tail _ (.head _)))).1, hCL, hC₀⟩
                · have z := N₂ p (.tail _ (.tail _ (.tail _ hp)))
                  exact ⟨(hs3.2 _ (off p hp).1).trans z.1, z.2⟩
        refine wpAny_mono (turn i tv ys news I oI C oC ck oc3 D h₃ tk₂ _ hlt hJ hd3 F₃ N₃ off) (fun y s₄ h₄ => ?_) fun _ _ e => e
        obtain ⟨h₄, tk₄, news₄, rfl, F₄, N₄, off₄, J₄⟩ := h₄
        have zD := (N₄ (D, LCg.lst ys) (.tail _ (.head _))).1
        refine append_at (hsz := by show ys.toArray.size ≤ sizeLine; rw [List.size_toArray, hyl, sizeLine_eq]; omega) zD fun h₅ hs₅ hD₅ => ?_
        have hst₄ : IsRangeIter h₄ I (0 + ((i + 1 : Nat) : Int) * 1) ((b.toNat : Int) - ((i + 1 : Nat) : Int)) 1 := by
          have e1 := (N₄ (I, oI) (.tail _ (.tail _ (.head _)))).1
          have e2 : IsRangeIter h₂ I (0 + ((i + 1 : Nat) : Int) * 1) ((b.toNat : Int) - ((i + 1 : Nat) : Int)) 1 := hst₂
          exact e1.trans (ho.symm.trans e2)
        refine ⟨b.toNat + 1 - (i + 1), by exact lin [_, _, _, _, _] [] [(1, (.n (.v 2) (.v 1))), (1, (.n (.a (.v 3) (.k 1)) (.a (.v 2) (.v 4)))), (1, (.n (.a (.v 0) (.a (.v 4) (.k 1))) (.a (.v 3) (.k 1))))] 1 (.n (.a (.v 0) (.k 1)) (.v 1)) rfl (eq_b hk) (sub_b _ _) (sub_c (lin [_, _] [] [(1, (.n (.v 0) (.v 1)))] 1 (.n (.a (.v 0) (.k 1)) (.a (.v 1) (.k 1))) rfl hi)), .mk h₅ tk₄ (i + 1) (ys ++ [y]) oc3 _ news₄ hlt rfl (by rw [List.length_append, List.length_singleton, hyl]) ((hs₅.2 _ (by show I ≠ D; exact go_nea ((eq_b hDe)))).trans hst₄) hd3 (F₄.change hs₅ hDL hD₀) (fun p hp => ?_) off₄ J₄⟩
        rcases List.mem_cons.mp hp with rfl | hp
        · exact ⟨(hs₅.2 _ (by show ck ≠ D; exact go_neb (lin [_, _, _] [] [(1, (.n (.v 0) (.a (.v 2) (.k 1)))), (1, (.n (.a (.v 2) (.k 3)) (.v 1)))] 1 (.n (.a (.v 0) (.k 1)) (.v 1)) rfl (eq_a hDe) (eq_b hck)))).trans (N₄ _ (.head _)).1, hkL, hk₀⟩
        · rcases List.mem_cons.mp hp with rfl | hp
          · exact ⟨hD₅.trans (congrArg some (LCg.lst_snoc ys y)), hDL, hD₀⟩
          · rcases List.mem_cons.mp hp with rfl | hp
            · exact ⟨(hs₅.2 _ (by show C ≠ D; exact go_neb (lin [_, _, _] [] [(1, (.n (.v 0) (.a (.v 2) (.k 1)))), (1, (.n (.a (.v 2) (.k 2)) (.v 1)))] 1 (.n (.a (.v 0) (.k 1)) (.v 1)) rfl (eq_a hDe) (eq_b hCe)))).trans (N₄ _ (.tail _ (.tail _ (.tail _ (.head _))))).1, hCL, hC₀⟩
            · have z := N₄ p (.tail _ (.tail _ (.tail _ (.tail _ hp))))
              exact ⟨(hs₅.2 _ (off₄ p hp).2.1).trans z.1, z.2⟩
      · obtain rfl : i = b.toNat := by exact go_eq (hi) ((not_lt_n hlt))
        refine W.done _ _ _ hst fun h₂ tk₂ hk₂ => ?_
        have F₂ := fr_keeps F' hIL hI₀ hk₂
        have N₂ := news_keeps N' (fun p hp => by
          rcases List.mem_cons.mp hp with rfl | hp
          · show ck ≠ I; exact go_neb (lin [_, _] [] [(1, (.n (.a (.v 0) (.k 3)) (.v 1)))] 1 (.n (.a (.v 0) (.k 1)) (.v 1)) rfl (eq_b hck))
          · rcases List.mem_cons.mp hp with rfl | hp
            · show D ≠ I; exact go_neb ((eq_b hDe))
            · rcases List.mem_cons.mp hp with rfl | hp
              · show C ≠ I; exact go_neb (lin [_, _] [] [(1, (.n (.a (.v 0) (.k 2)) (.v 1)))] 1 (.n (.a (.v 0) (.k 1)) (.v 1)) rfl (eq_b hCe))
              · exact (off p hp).2.2.1) hk₂
        refine hRR D C h₂ tk₂ _ ys news F₂ (fun p hp => ?_) (fun p hp => (off p hp).2.1) (hnC.ns (N₂ (C, oC) (.tail _ (.tail _ (.head _)))).1) hC₀ hD₀ hCL hDL (show @Ne Nat C D by exact go_neb (lin [_, _, _] [] [(1, (.n (.v 0) (.a (.v 2) (.k 1)))), (1, (.n (.a (.v 2) (.k 2)) (.v 1)))] 1 (.n (.a (.v 0) (.k 1)) (.v 1)) rfl (eq_a hDe) (eq_b hCe))) (fun p hp => (off p hp).2.2.2) hJ
        rcases List.mem_cons.mp hp with rfl | hp
        · exact N₂ _ (.tail _ (.head _))
        · exact N₂ _ (.tail _ (.tail _ (.tail _ hp)))
    · intro p hp
      rcases List.mem_cons.mp hp with rfl | hp
      · exact ⟨gck, hkL, hk₀⟩
      · rcases List.mem_cons.mp hp with rfl | hp
        · exact ⟨gD, hDL, hD₀⟩
        · rcases List.mem_cons.mp hp with rfl | hp
          · exact ⟨hoC, hCL, hC₀⟩
          · exact ⟨keep _ _ (N p hp).1, (N p hp).2⟩
    · intro p hp
      have := hnlt p hp
      refine ⟨?_, ?_, ?_, ?_⟩ <;> (apply Nat.ne_of_lt; (first | exact lin [_, _, _] [] [(1, (.n (.a (.v 2) (.k 3)) (.v 1))), (1, (.n (.a (.v 0) (.k 1)) (.v 2)))] 1 (.n (.a (.v 0) (.k 1)) (.v 1)) rfl (eq_b hck) this | exact lin [_, _, _] [] [(1, (.n (.a (.v 2) (.k 1)) (.v 1))), (1, (.n (.a (.v 0) (.k 1)) (.v 2)))] 1 (.n (.a (.v 0) (.k 1)) (.v 1)) rfl (eq_b hDe) this | exact this | exact lin [_, _, _] [] [(1, (.n (.a (.v 2) (.k 2)) (.v 1))), (1, (.n (.a (.v 0) (.k 1)) (.v 2)))] 1 (.n (.a (.v 0) (.k 1)) (.v 1)) rfl (eq_b hCe) this | omega))
  exact codeAny_compStart_list (loop _ rfl) (W.self 0 _ _ _ (by (show IsRangeIter _ _ _ _ _); simpa using gI) (loop _ rfl))
noncomputable def CompTail (w : World) (A : Around) (E : Value → Shared → Prop) (env : Env) (scope : Scope) (cl : List (Str × Addr)) (e : Expr) (use : Option (Value → Sem Unit)) (Q : Value → Shared → Prop) (it : Value) (s₂ : Shared) : Prop :=
  wpAny (model prg w) A (newList []) (fun acc s₃ => wpAny (model prg w) A (newFunctionEnv scope env.globals cl [] env.qual none .none (some env)) (fun cenv s₄ =>
    codeAny (model prg w) A (.compStart e 0 it acc { cenv with scope := relabel scope env }) (compPost (model prg w) A E use Q acc cenv.locals) s₄) E s₃) E s₂
theorem assign_cells {elt iter : Expr} {x y : Str} {px py : Pos} {ifs : List Expr} {scope : Scope} {cl : List (Str × Addr)} {pos spos : Pos} {Q : Flow → Shared → Prop}
    (hsw : swapsWith (.ListComp elt [⟨.Name x px, iter, ifs, 0⟩] scope pos) (some (.Name y py)) spos.line env = pure true)
    (hclos : closureFor scope env = pure cl) (hkind : scope.kind = .function)
    (hnames : ∀ z ∈ scope.names, z.2 = .local → scope.names.lookup z.1 = some .local)
    (h : wpAny (model prg w) A (eval iter env) (fun xv s₁ => Stop (wpAny (model prg w) A (pyIter xv) (CompTail w A E env scope cl (.ListComp elt [⟨.Name x px, iter, ifs, 0⟩] scope pos) (some (assign (.Name y py) env)) (fun _ s' => Q .next s')) E s₁)) E s)
    (hs : ∀ x, foldedSetIterable iter env x = pure x := by intro _; rfl) :
    wpAny (model prg w) A (exec (.Assign [.Name y py] (.ListComp elt [⟨.Name x px, iter, ifs, 0⟩] scope pos) spos) env) Q E s := by
  rw [exec_Assign_Name_used _ _ _ _ hsw]
  refine wpAny_bind (wpAny_standAt (wpAny_bind ?_))
  show wpAny _ A (do let _ ← comprehension (.ListComp elt [⟨.Name x px, iter, ifs, 0⟩] scope pos) scope env _ (newList []) false (eval iter env) (some (assign (.Name y py) env))) _ _ s
  exact wpAny_bind (wpAny_mono (wpAny_comprehension_free (use := some (assign (.Name y py) env)) (Q := fun _ s' => Q .next s') rfl hs hclos hkind hnames
    (wpAny_mono h (fun xv s₁ h₁ => h₁) fun _ _ e => e)) (fun _ s' hq => wpAny_pure (wpAny_pure hq)) fun _ _ e => e)
theorem cells_range {elt iter : Expr} {x y : Str} {px py : Pos} {scope : Scope} {cl : List (Str × Addr)} {pos : Pos} {r : Addr} {b : Int} {t u v : Tok} {Q : Shared → Prop}
    (J : Nat → List Value → Ledger → Prop) (hh : A.handled = none) (hLe : env.locals = L) (F : Fr h₀ L s.heap m) (N : News h₀ L s.heap news₀) (hr : IsRange s.heap r 0 b 1 t u v) (hb : -1000000 ≤ b ∧ b < 1000000)
    (hkind : scope.kind = .function) (hcf : ∀ k, cellsFrom k scope.names cl = (x, k) :: cl) (hpc : ∀ h, pushCells h scope.names = h.push { cls := .type "cell", data := .cell none })
    (hx : ∀ C k, (compEnvC scope ((x, k) :: cl) C env).kindOf x = some .cell)
    (hy : env.kindOf y = some .local) (hp : (env.scope.kind == .class || (env.scope.kind == .module && env.locals != env.globals)) = false)
    (hj : J 0 [] news₀)
    (turn : ∀ (i : Nat) tv ys news I oI C oC ck oc D h tk (E' : Value → Shared → Prop), i < b.toNat → J i ys news → oc.data = .cell (some (.int (i : Int) tv)) → Fr h₀ L h m → News h₀ L h ((ck, oc) :: (D, LCg.lst ys) :: (I, oI) :: (C, oC) :: news) →
      (∀ p ∈ news, p.1 ≠ ck ∧ p.1 ≠ D ∧ p.1 ≠ I ∧ p.1 ≠ C) →
      wpAny (model prg w) A (eval elt (compEnvC scope ((x, ck) :: cl) C env)) (CellEnd h₀ L m s ck oc D ys I oI C oC (J (i + 1))) E' { s with heap := h, toks := tk })
    (res : ∀ D h tk ys news, Fr h₀ L h (fun z => if z = y then some (.ref D) else m z) → News h₀ L h ((D, LCg.lst ys) :: news) → (∀ p ∈ news, p.1 ≠ D) → J b.toNat ys news → Q { s with heap := h, toks := tk }) :
    wpAny (model prg w) A (pyIter (.ref r)) (CompTail w A E env scope cl (.ListComp elt [⟨.Name x px, iter, [], 0⟩] scope pos) (some (assign (.Name y py) env)) (fun _ s' => Q s')) E s := by
  subst hLe
  refine comp_cells (RR := fun acc C => compPost (model prg w) A E (some (assign (.Name y py) env)) (fun _ s' => Q s') acc C) J hh F N hr hb hkind hcf hpc hx hj turn ?_
  intro D C h' tk m' ys news' F' N' o1 hn hC₀ hD₀ hCL hDL hCD offC fin
  show wpAny _ A (assign (.Name y py) env (.ref D)) _ _ _
  refine wpAny_assign_Name (wpAny_storeName_local hy F'.ns (fun h₂ hn₂ hs₂ => ?_) hp)
  have hL₀ : h₀.get? env.locals = none := Heap.get?_none_of_le F'.above
  have F₂ : Fr h₀ env.locals h₂ (fun z => if z = y then some (.ref D) else m z) := ⟨hn₂, fun b o e => hs₂.extBut b o (fun q => by rw [q, hL₀] at e; cases e) (F'.keep b o e), F'.above⟩
  refine ⟨m', hn.sameBut hs₂ hCL, fun h'' hs'' => res D h'' _ ys news' (F₂.change hs'' hCL hC₀) (fun p hp => ?_) o1 fin⟩
  have z : h₂.get? p.1 = some p.2 := hs₂.extBut _ _ (N' p hp).2.1 (N' p hp).1
  refine ⟨hs''.extBut _ _ ?_ z, (N' p hp).2⟩
  rcases List.mem_cons.mp hp with rfl | hp
  · exact Ne.symm hCD
  · exact offC p hp
end
/-- between the turns of `due` -/
structure DueJ (mn : Int) (outs : List Int) (base : Ledger) (i : Nat) (ys : List Value) (news : Ledger) : Prop where
  ex : ∃ rds : List Rd, ys = rds.map (fun r => .ref r.t) ∧ rds.map (fun r => (r.b, r.gs)) = (List.range i).map (fun (k : Nat) => (true, outs.filter fun n => decide (n.fdiv mn = (k : Int)))) ∧ (∀ r ∈ rds, IntsAre r.gvs r.gs) ∧ news = base ++ rds.flatMap Rd.led
  nd : (news.map (·.1)).Nodup
theorem CellEnd.mk {h₀ : Heap} {L : Addr} {m : Str → Option Value} {s : Shared} {ck : Addr} {oc : Obj} {D : Addr} {ys : List Value} {I : Addr} {oI : Obj} {C : Addr} {oC : Obj} {R : List Value → Ledger → Prop} {y : Value} {h' : Heap} {tk' : Nat} {news' : Ledger}
    (F : Fr h₀ L h' m) (N : News h₀ L h' ((ck, oc) :: (D, LCg.lst ys) :: (I, oI) :: (C, oC) :: news')) (off : ∀ p ∈ news', p.1 ≠ ck ∧ p.1 ≠ D ∧ p.1 ≠ I ∧ p.1 ≠ C) (r : R (ys ++ [y]) news') :
    CellEnd h₀ L m s ck oc D ys I oI C oC R y { s with heap := h', toks := tk' } := ⟨h', tk', news', rfl, F, N, off, r⟩
theorem perm_due {α : Type} (a b c d e f : α) (B F : List α) : (a :: b :: c :: d :: e :: f :: (B ++ F)).Perm (c :: d :: e :: f :: (B ++ (F ++ [a, b]))) := by
  have h1 : (B ++ (F ++ [a, b])).Perm (a :: b :: (B ++ F)) := by
    rw [← List.append_assoc]
    exact List.perm_append_comm (l₂ := [a, b])
  have h2 := (((h1.cons f).cons e).cons d).cons c
  refine List.Perm.trans ?_ h2.symm
  have h3 := List.perm_append_comm (l₁ := [a, b]) (l₂ := [c, d, e, f])
  have := h3.append_right (B ++ F)
  simpa using this
theorem due_turn {mn : Int} {outs : List Int} {base : Ledger} {i : Nat} {rds : List Rd} {h₀ : Heap} {L : Addr} {m : Str → Option Value} {s : Shared} {ck : Addr} {oc : Obj} {D I : Addr} {oI : Obj} {C : Addr} {oC : Obj} {T G : Addr} {gvs : List Value} {h' : Heap} {tk' : Nat}
    (hrd : rds.map (fun r => (r.b, r.gs)) = (List.range i).map (fun (k : Nat) => (true, outs.filter fun n => decide (n.fdiv mn = (k : Int))))) (hra : ∀ r ∈ rds, IntsAre r.gvs r.gs) (ndJ : ((base ++ rds.flatMap Rd.led).map (·.1)).Nodup)
    (off : ∀ p ∈ base ++ rds.flatMap Rd.led, p.1 ≠ ck ∧ p.1 ≠ D ∧ p.1 ≠ I ∧ p.1 ≠ C) (F : Fr h₀ L h' m)
    (N : News h₀ L h' ((T, { cls := .type "tuple", data := .seq [.bool true, .ref G].toArray }) :: (G, { cls := .type "tuple", data := .seq gvs.toArray }) :: (ck, oc) :: (D, LCg.lst (rds.map fun r => .ref r.t)) :: (I, oI) :: (C, oC) :: (base ++ rds.flatMap Rd.led)))
    (lG : ∀ p ∈ (ck, oc) :: (D, LCg.lst (rds.map fun r => .ref r.t)) :: (I, oI) :: (C, oC) :: (base ++ rds.flatMap Rd.led), p.1 < G)
    (lT : ∀ p ∈ (G, ({ cls := .type "tuple", data := .seq gvs.toArray } : Obj)) :: (ck, oc) :: (D, LCg.lst (rds.map fun r => .ref r.t)) :: (I, oI) :: (C, oC) :: (base ++ rds.flatMap Rd.led), p.1 < T)
    (hg : IntsAre gvs (outs.filter fun n => decide (n.fdiv mn = (i : Int)))) :
    CellEnd h₀ L m s ck oc D (rds.map fun r => .ref r.t) I oI C oC (DueJ mn outs base (i + 1)) (.ref T) { s with heap := h', toks := tk' } := by
  have e1 : base ++ (rds ++ [(⟨T, G, true, gvs, outs.filter fun n => decide (n.fdiv mn = (i : Int))⟩ : Rd)]).flatMap Rd.led = base ++ (rds.flatMap Rd.led ++ [(T, { cls := .type "tuple", data := .seq [.bool true, .ref G].toArray }), (G, { cls := .type "tuple", data := .seq gvs.toArray })]) := by
    rw [List.flatMap_append]; rfl
  refine CellEnd.mk (news' := base ++ (rds ++ [(⟨T, G, true, gvs, outs.filter fun n => decide (n.fdiv mn = (i : Int))⟩ : Rd)]).flatMap Rd.led) F ?_ ?_ ⟨⟨rds ++ [⟨T, G, true, gvs, _⟩], ?_, ?_, ?_, rfl⟩, ?_⟩
  · rw [e1]; exact Mine.News.perm N (perm_due _ _ _ _ _ _ _ _)
  · rw [e1]
    have gt : ∀ q : Addr, (∀ p ∈ [(ck, oc), (D, LCg.lst (rds.map fun r => .ref r.t)), (I, oI), (C, oC)], p.1 < q) → q ≠ ck ∧ q ≠ D ∧ q ≠ I ∧ q ≠ C := fun q hq =>
      ⟨Nat.ne_of_gt (hq _ (.head _)), Nat.ne_of_gt (hq _ (.tail _ (.head _))), Nat.ne_of_gt (hq _ (.tail _ (.tail _ (.head _)))), Nat.ne_of_gt (hq _ (.tail _ (.tail _ (.tail _ (.head _)))))⟩
    have sub : ∀ p ∈ [(ck, oc), (D, LCg.lst (rds.map fun r => .ref r.t)), (I, oI), (C, oC)], p ∈ (ck, oc) :: (D, LCg.lst (rds.map fun r => .ref r.t)) :: (I, oI) :: (C, oC) :: (base ++ rds.flatMap Rd.led) := fun p hp => by
      have : (ck, oc) :: (D, LCg.lst (rds.map fun r => .ref r.t)) :: (I, oI) :: (C, oC) :: (base ++ rds.flatMap Rd.led) = [(ck, oc), (D, LCg.lst (rds.map fun r => .ref r.t)), (I, oI), (C, oC)] ++ (base ++ rds.flatMap Rd.led) := rfl
      rw [this]; exact List.mem_append_left _ hp
    intro p hp
    rw [← List.append_assoc] at hp
    rcases List.mem_append.mp hp with hp | hp
    · exact off p hp
    · rcases List.mem_cons.mp hp with rfl | hp
      · exact gt T fun p hp => lT p (.tail _ (sub p hp))
      · rcases List.mem_singleton.mp hp with rfl
        exact gt G fun p hp => lG p (sub p hp)
  · rw [List.map_append]; rfl
  · rw [List.map_append, hrd, List.range_succ, List.map_append]; rfl
  · intro r hr
    rcases List.mem_append.mp hr with hr | hr
    · exact hra r hr
    · rcases List.mem_singleton.mp hr with rfl
      exact hg
  · rw [e1]
    have n1 := nodup_lt (o := ({ cls := .type "tuple", data := .seq gvs.toArray } : Obj)) (fun p hp => lG p (.tail _ (.tail _ (.tail _ (.tail _ hp))))) ndJ
    have n2 := nodup_lt (d := T) (o := ({ cls := .type "tuple", data := .seq [.bool true, .ref G].toArray } : Obj)) (fun p hp => lT p (by
      rcases List.mem_cons.mp hp with rfl | hp
      · exact .head _
      · exact .tail _ (.tail _ (.tail _ (.tail _ (.tail _ hp)))))) n1
    refine nd_perm n2 ?_
    rw [← List.append_assoc]
    exact List.perm_append_comm (l₁ := [_, _])
/-- after `due` -/
inductive Mid4 (s : Shared) (L sa : Addr) (olast ostep : Obj) : Shared → Prop
  | mk (h' : Heap) (tk : Nat) (told tl pl hl ol sl dl : Addr) (oone oother oports otop oout : Obj) (one other : Int) (hvs ovs svs : List Value) (hs paid : List Int) (nh no ns : Nat) (rds : List Rd) (t1 t2 t3 t4 t5 : Tok)
    (_ : 1 ≤ one)
    (_ : one ≤ 6)
    (_ : 1 ≤ other)
    (_ : other ≤ 7)
    (_ : oone.data = .cell (some (.int one t1)))
    (_ : oother.data = .cell (some (.int other t2)))
    (_ : oports.data = .cell (some (.ref pl)))
    (_ : otop.data = .cell (some (.int (one * other) t5)))
    (_ : oout.data = .cell (some (.ref ol)))
    (_ : IntsAre hvs hs)
    (_ : 1 ≤ hs.length)
    (_ : hs.length ≤ 4)
    (_ : (∀ x ∈ hs, 0 ≤ x ∧ x ≤ one * other))
    (_ : paid.Perm (paidL one other (one * other) hs))
    (_ : paid.Pairwise (· ≤ ·))
    (_ : IntsAre ovs (sldL one other paid).1)
    (_ : IntsAre svs (sldL one other paid).2)
    (_ : rds.map (fun r => (r.b, r.gs)) = (List.range ((one * other).fdiv (min one other) + 2).toNat).map (fun (k : Nat) => (true, (sldL one other paid).1.filter fun n => decide (n.fdiv (min one other) = (k : Int)))))
    (_ : (∀ r ∈ rds, IntsAre r.gvs r.gs))
    (_ : Fr s.heap L h' (fun y => if y = Str.ofString "due" then some (.ref dl) else if y = Str.ofString "strangers" then some (.ref sl) else if y = Str.ofString "held" then some (.ref hl) else if y = Str.ofString "told" then some (.ref told) else if y = Str.ofString "turns" then some (.ref tl) else if y = Str.ofString "script" then some (.ref sa) else none))
    (_ : News s.heap L h' ((dl, LCg.lst (rds.map fun r => .ref r.t)) :: (sl, listOf svs.toArray ns) :: (ol, listOf ovs.toArray no) :: (hl, listOf hvs.toArray nh) :: (pl, listOf #[.int one t3, .int other t4] 2) :: (lcells L olast ostep oout otop oports oother oone ++ rds.flatMap Rd.led)))
    (_ : (((dl, LCg.lst (rds.map fun r => .ref r.t)) :: (sl, listOf svs.toArray ns) :: (ol, listOf ovs.toArray no) :: (hl, listOf hvs.toArray nh) :: (pl, listOf #[.int one t3, .int other t4] 2) :: (lcells L olast ostep oout otop oports oother oone ++ rds.flatMap Rd.led)).map (·.1)).Nodup) :
    Mid4 s L sa olast ostep { s with heap := h', toks := tk }
end
section
theorem perm_5 {α : Type} (a b c d e : α) (C : List α) : (a :: b :: c :: d :: e :: C).Perm ([d, e] ++ (a :: b :: c :: C)) := by
  have := (List.perm_append_comm (l₁ := [a, b, c]) (l₂ := [d, e])).append_right C
  simpa using this
/-- the data of a round -/
noncomputable def rdData (x : Bool × List Int) : PyData := .tuple [.bool x.1, .tuple (x.2.map PyData.int)]
noncomputable def rdsData (l : List (Bool × List Int)) : PyData := .list (.none :: l.map rdData)
theorem eqv_ints : ∀ ns : List Int, PyData.eqvAll (ns.map PyData.int) (ns.map PyData.int) = true := fun ns => by rw [ked_eqvAll]; simp
theorem eqv_rd (x : Bool × List Int) : PyData.eqv (rdData x) (rdData x) = true := by
  unfold rdData
  simp [PyData.eqv, PyData.eqvAll, eqv_ints]
theorem eqv_rds : ∀ l : List (Bool × List Int), PyData.eqvAll (l.map rdData) (l.map rdData) = true
  | [] => rfl
  | x :: r => by
    simp only [List.map_cons, PyData.eqvAll, eqv_rd, eqv_rds r, Bool.and_true]
theorem eqv_all (l : List (Bool × List Int)) : PyData.eqv (rdsData l) (rdsData l) = true := by
  unfold rdsData
  simp [PyData.eqv, PyData.eqvAll, eqv_rds]
theorem lay_rds : ∀ l : List (Bool × List Int), PyData.canLayAll0 (l.map rdData) = true
  | [] => rfl
  | x :: r => by simp [PyData.canLayAll0, PyData.canLay0, rdData, ke_canLayAll0, lay_rds r]
theorem depth_rds : ∀ l : List (Bool × List Int), PyData.depthAll (l.map rdData) ≤ 5
  | [] => by simp [PyData.depthAll]
  | x :: r => by
    have := depth_rds r
    simp [PyData.depthAll, PyData.depth, rdData, ke_depthAll]
    omega
theorem shaped_rds (l : List (Bool × List Int)) : SeqAt.shaped (rdsData l) = true := by
  have h1 := lay_rds l
  have h2 := depth_rds l
  unfold rdsData
  simp [SeqAt.shaped, PyData.canLay0, PyData.canLayAll0, PyData.depth, PyData.depthAll, h1]
  exact lin [_] [] [(1, (.n (.v 0) (.k 5)))] 1 (.n (.v 0) (.k 63)) rfl h2
theorem readsAll_ints {h : Heap} : ∀ {vs : List Value} {ns : List Int}, IntsAre vs ns → ReadsAll h vs (ns.map PyData.int) []
  | _, _, .nil => .nil
  | _, _, .cons k t r => .cons (.int _ _) (readsAll_ints r)
theorem reads_rd {h₀ h : Heap} {L : Addr} {news : Ledger} (N : News h₀ L h news) {r : Rd} (hsub : ∀ p ∈ r.led, p ∈ news) (hi : IntsAre r.gvs r.gs) : Reads h (.ref r.t) (rdData (r.b, r.gs)) [] :=
  reads_tuple_at (N.get (hsub _ (.head _))) rfl rfl (.cons (.bool _) (.cons (reads_tuple_at (N.get (hsub _ (.tail _ (.head _)))) rfl rfl (readsAll_ints hi)) .nil))
theorem reads_rdl {h₀ h : Heap} {L : Addr} {news : Ledger} (N : News h₀ L h news) : ∀ {rds : List Rd}, (∀ p ∈ rds.flatMap Rd.led, p ∈ news) → (∀ r ∈ rds, IntsAre r.gvs r.gs) → ReadsAll h (rds.map fun r => .ref r.t) ((rds.map fun r => (r.b, r.gs)).map rdData) []
  | [], _, _ => .nil
  | r :: rs, hs, hi => by
    refine ReadsAll.cons (as := []) (bs := []) (reads_rd N (fun p hp => hs p ?_) (hi r (.head _))) (reads_rdl N (fun p hp => hs p ?_) fun x hx => hi x (.tail _ hx))
    · rw [List.flatMap_cons]; exact List.mem_append_left _ hp
    · rw [List.flatMap_cons]; exact List.mem_append_right _ hp
theorem reads_rds {h₀ h : Heap} {L a : Addr} {news : Ledger} {n : Nat} {rds : List Rd} (N : News h₀ L h news) (hm : (a, listOf (Value.none :: rds.map fun r => .ref r.t).toArray n) ∈ news) (hsub : ∀ p ∈ rds.flatMap Rd.led, p ∈ news) (hi : ∀ r ∈ rds, IntsAre r.gvs r.gs) :
    Reads h (.ref a) (rdsData (rds.map fun r => (r.b, r.gs))) [a] :=
  reads_list_at (N.get hm) rfl rfl (ReadsAll.cons (as := []) .none (reads_rdl N hsub hi))
theorem rds_ne {w : World} {A : Around} {E : Value → Shared → Prop} {s : Shared} {Q : Value → Shared → Prop} {h₀ : Heap} {L a b : Addr} {news : Ledger} {n n' : Nat} {rds rds' : List Rd} (hu : A.units + 64 < cLine) (N : News h₀ L s.heap news)
    (m1 : (a, listOf (Value.none :: rds.map fun r => .ref r.t).toArray n) ∈ news) (s1 : ∀ p ∈ rds.flatMap Rd.led, p ∈ news) (i1 : ∀ r ∈ rds, IntsAre r.gvs r.gs)
    (m2 : (b, listOf (Value.none :: rds'.map fun r => .ref r.t).toArray n') ∈ news) (s2 : ∀ p ∈ rds'.flatMap Rd.led, p ∈ news) (i2 : ∀ r ∈ rds', IntsAre r.gvs r.gs)
    (e : (rds.map fun r => (r.b, r.gs)) = rds'.map fun r => (r.b, r.gs)) (h : Q (.bool false) s) : wpAny (model prg w) A (compareOp .NotEq (.ref a) (.ref b)) Q E s := by
  refine ne_dataH (reads_rds N m1 s1 i1) (reads_rds N m2 s2 i2) (shaped_rds _) (shaped_rds _) hu ?_
  rw [e, eqv_all]; exact h
/-- after the comparison of the rounds -/
inductive Mid5 (s : Shared) (L : Addr) (olast ostep : Obj) : Shared → Prop
  | mk (h' : Heap) (tk : Nat) (m : Str → Option Value) (pl : Addr) (oone oother oports otop oout : Obj) (one other : Int) (t1 t2 t3 t4 t5 : Tok)
    (_ : 1 ≤ one)
    (_ : one ≤ 6)
    (_ : 1 ≤ other)
    (_ : other ≤ 7)
    (_ : oone.data = .cell (some (.int one t1)))
    (_ : oother.data = .cell (some (.int other t2)))
    (_ : oports.data = .cell (some (.ref pl)))
    (_ : otop.data = .cell (some (.int (one * other) t5)))
    (_ : Fr s.heap L h' m)
    (_ : News s.heap L h' ((pl, listOf #[.int one t3, .int other t4] 2) :: lcells L olast ostep oout otop oports oother oone))
    (_ : (((pl, listOf #[.int one t3, .int other t4] 2) :: lcells L olast ostep oout otop oports oother oone).map (·.1)).Nodup) :
    Mid5 s L olast ostep { s with heap := h', toks := tk }
theorem nd_pick {a b c d e f : Addr × Obj} {X Y Z : Ledger} (h : ((a :: (X ++ (b :: c :: d :: e :: f :: (Y ++ Z)))).map (·.1)).Nodup) : ((c :: Y).map (·.1)).Nodup := by
  have hs : List.Sublist (c :: Y) (a :: (X ++ (b :: c :: d :: e :: f :: (Y ++ Z)))) := List.Sublist.cons _ (List.Sublist.trans (.cons _ (.cons₂ _ (.cons _ (.cons _ (.cons _ (List.sublist_append_left _ _)))))) (List.sublist_append_right X _))
  exact (hs.map (·.1)).nodup h
/-- after `bare, more = ..` -/
inductive Mid6 (s : Shared) (L : Addr) (olast ostep : Obj) : Shared → Prop
  | mk (h' : Heap) (tk : Nat) (m : Str → Option Value) (pl bl ml : Addr) (oone oother oports otop oout : Obj) (one other : Int) (bvs mvs : List Value) (dbl paid : List Int) (nb nm : Nat) (t1 t2 t3 t4 t5 : Tok)
    (_ : 1 ≤ one)
    (_ : one ≤ 6)
    (_ : 1 ≤ other)
    (_ : other ≤ 7)
    (_ : oone.data = .cell (some (.int one t1)))
    (_ : oother.data = .cell (some (.int other t2)))
    (_ : oports.data = .cell (some (.ref pl)))
    (_ : otop.data = .cell (some (.int (one * other) t5)))
    (_ : dbl.Perm (rangeKs 0 (one * other + 1).toNat ++ rangeKs 0 (one * other + 1).toNat))
    (_ : dbl.Pairwise (· ≤ ·))
    (_ : paid.Perm (paidL one other (one * other) [0]))
    (_ : paid.Pairwise (· ≤ ·))
    (_ : IntsAre bvs (sldN (dbl.length + paid.length) dbl paid).1)
    (_ : IntsAre mvs (sldN (dbl.length + paid.length) dbl paid).2)
    (_ : Fr s.heap L h' (fun y => if y = Str.ofString "more" then some (.ref ml) else if y = Str.ofString "bare" then some (.ref bl) else m y))
    (_ : News s.heap L h' ((ml, listOf mvs.toArray nm) :: (bl, listOf bvs.toArray nb) :: (pl, listOf #[.int one t3, .int other t4] 2) :: lcells L olast ostep oout otop oports oother oone))
    (_ : (((ml, listOf mvs.toArray nm) :: (bl, listOf bvs.toArray nb) :: (pl, listOf #[.int one t3, .int other t4] 2) :: lcells L olast ostep oout otop oports oother oone).map (·.1)).Nodup) :
    Mid6 s L olast ostep { s with heap := h', toks := tk }
end
section
section
variable {w : World} {A : Around} {E : Value → Shared → Prop} {s : Shared} {h₀ : Heap} {L : Addr} {m : Str → Option Value} {news : Ledger} {env : Env}
theorem comp_range {scope : Scope} {cl : List (Str × Addr)} {x : Str} {ifs : List Expr} {elt : Expr} {p : Value → Bool} {Fv : Value → Value → Prop} {Q : Value → Shared → Prop} {r : Addr} {a b : Int} {n : Nat} {t u v : Tok}
    (hh : A.handled = none) (F : Fr h₀ L s.heap m) (N : News h₀ L s.heap news) (hr : IsRange s.heap r a b 1 t u v) (hsmall : Builtin.Range.small a b 1 = true) (hn : Builtin.Range.rangeSize a b 1 = (n : Int)) (hz : n ≤ sizeLine)
    (tests : ∀ (C : Addr) (i : Nat) (k : Int) (tk : Tok) (s₃ : Shared) (m₃ : Str → Option Value) (E' : Value → Shared → Prop), k = a + (i : Int) → Fr h₀ C s₃.heap m₃ → m₃ x = some (.int k tk) → News h₀ C s₃.heap news →
      wpAny (model prg w) A (forIn ifs true fun c r => if r = true then do let ok ← isTrue c (compEnvC scope cl C env) (eval c (compEnvC scope cl C env)); pure (ForInStep.yield ok) else pure (ForInStep.yield r))
        (fun ok s₄ => ok = p (.int k tk) ∧ Keeps s₃ s₄) E' s₃)
    (elts : ∀ (C : Addr) (i : Nat) (k : Int) (tk : Tok) (s₃ : Shared) (m₃ : Str → Option Value) (E' : Value → Shared → Prop), k = a + (i : Int) → p (.int k tk) = true → Fr h₀ C s₃.heap m₃ → m₃ x = some (.int k tk) → News h₀ C s₃.heap news →
      wpAny (model prg w) A (eval elt (compEnvC scope cl C env)) (fun y s₄ => Fv (.int k tk) y ∧ Keeps s₃ s₄) E' s₃)
    (res : ∀ D h' tk ys vs nD, Fr h₀ L h' m → News h₀ L h' ((D, listOf ys nD) :: news) → (∀ p ∈ news, p.1 ≠ D) → IntsAre vs (rangeKs a n) → Paired Fv (vs.filter p) ys.toList → Q (.ref D) { s with heap := h', toks := tk }) :
    wpAny (model prg w) A (pyIter (.ref r)) (CompSrcQ w A env scope cl x ifs elt p Fv Q) E s := by
  refine wpAny_pyIter_range hr hsmall ?_
  rw [hn]
  have W := Walks.range (prog := prg) (w := w) hh s.heap.objs.size a 1 n
  have hO : ({ cls := .type "range_iterator", data := .fields #[rawInt a, rawInt (n : Int), rawInt 1] } : Obj).isFreed = false := rfl
  refine ⟨s.heap.objs.size, _, _, n, _, _, rfl, W, hz, ?_, ?_, ⟨?_, ?_⟩, ?_⟩
  · (show IsRangeIter _ _ _ _ _); simpa using Heap.get?_push_size s.heap (o := { cls := .type "range_iterator", data := .fields #[rawInt a, rawInt (n : Int), rawInt 1] }) rfl
  · intro b hb
    show b < (s.heap.push _).objs.size
    rw [push_size, List.mem_singleton.mp hb]
    exact Nat.lt_succ_self _
  · rintro C i v s₃ m₃ E' hC ⟨tk, rfl⟩ hn hmx hk _
    obtain ⟨F3, N3⟩ := news_comp (h := s₃.heap) F N rfl hC hn hk
    exact tests C i _ tk s₃ m₃ E' (by rw [Int.mul_one]) F3 hmx N3
  · rintro C i v s₃ m₃ E' hC ⟨tk, rfl⟩ hp hn hmx hk _
    obtain ⟨F3, N3⟩ := news_comp (h := s₃.heap) F N rfl hC hn hk
    exact elts C i _ tk s₃ m₃ E' (by rw [Int.mul_one]) hp F3 hmx N3
  · intro D h' tk ys vs' hD hl hpl hlen hP hF hk
    obtain ⟨F3, ⟨k, N3⟩, hne⟩ := comp_done F N hD hpl hO hk
    exact res D h' tk ys vs' k F3 N3 hne (kll_ints vs' a n hlen hP) hF
end
end
section
/-! plain law of the last part: the numbers that can't be paid, counted down from the last (Sylvester) -/
noncomputable def ins1 (x : Int) : List Int → List Int
  | [] => [x]
  | y :: l => if x ≤ y then x :: y :: l else y :: ins1 x l
noncomputable def isrt : List Int → List Int
  | [] => []
  | x :: l => ins1 x (isrt l)
theorem ins1_perm (x : Int) : ∀ l : List Int, (ins1 x l).Perm (x :: l)
  | [] => List.Perm.refl _
  | y :: l => by
    unfold ins1
    split
    · exact List.Perm.refl _
    · exact ((ins1_perm x l).cons y).trans (List.Perm.swap x y l)
theorem isrt_perm : ∀ l : List Int, (isrt l).Perm l
  | [] => List.Perm.refl _
  | x :: l => (ins1_perm x _).trans ((isrt_perm l).cons x)
theorem ins1_srt {x : Int} : ∀ {l : List Int}, l.Pairwise (· ≤ ·) → (ins1 x l).Pairwise (· ≤ ·)
  | [], _ => List.pairwise_singleton ..
  | y :: l, h => by
    obtain ⟨h1, h2⟩ := List.pairwise_cons.mp h
    unfold ins1
    split
    · rename_i q
      exact List.pairwise_cons.mpr ⟨fun z hz => by
        rcases List.mem_cons.mp hz with rfl | hz
        · exact q
        · exact Int.le_trans q (h1 z hz), h⟩
    · rename_i q
      refine List.pairwise_cons.mpr ⟨fun z hz => ?_, ins1_srt h2⟩
      rcases List.mem_cons.mp ((ins1_perm x l).mem_iff.mp hz) with rfl | hz
      · exact lin [] [_, _] [(1, (.i (.a (.v 0) (.k 1)) (.v 1)))] 1 (.i (.v 0) (.v 1)) rfl (not_le_i q)
      · exact h1 z hz
theorem isrt_srt : ∀ l : List Int, (isrt l).Pairwise (· ≤ ·)
  | [] => List.Pairwise.nil
  | _ :: l => ins1_srt (isrt_srt l)
theorem srt_eq : ∀ {l r : List Int}, l.Perm r → l.Pairwise (· ≤ ·) → r.Pairwise (· ≤ ·) → l = r
  | [], r, h, _, _ => (List.nil_perm.mp h).symm
  | a :: l, [], h, _, _ => absurd (List.perm_nil.mp h) (by simp)
  | a :: l, b :: r, h, hl, hr => by
    obtain ⟨l1, l2⟩ := List.pairwise_cons.mp hl
    obtain ⟨r1, r2⟩ := List.pairwise_cons.mp hr
    have e : a = b := by
      have m1 := h.mem_iff.mp (List.mem_cons_self (a := a) (l := l))
      have m2 := h.mem_iff.mpr (List.mem_cons_self (a := b) (l := r))
      rcases List.mem_cons.mp m1 with q | q
      · exact q
      · rcases List.mem_cons.mp m2 with q' | q'
        · exact q'.symm
        · have := r1 a q; have := l1 b q'; exact go_eqi (this) (‹b ≤ a›)
    subst e
    rw [srt_eq (List.Perm.cons_inv h) l2 r2]
theorem srt_is {l r : List Int} (h : l.Perm r) (hl : l.Pairwise (· ≤ ·)) : l = isrt r := srt_eq (h.trans (isrt_perm r).symm) hl (isrt_srt r)
/-- sorted_list_difference of two lists of ints -/
noncomputable def sldF (E A : List Int) : List Int × List Int := sldN (E.length + A.length) E A
noncomputable def bareF (p q : Int) : List Int × List Int := sldF (isrt (rangeKs 0 (p * q + 1).toNat ++ rangeKs 0 (p * q + 1).toNat)) (isrt (paidL p q (p * q) [0]))
noncomputable def stepL (p q : Int) : List Int := (rangeKs 1 p.toNat).filter fun k => decide (p.fmod k = 0) && decide (q.fmod k = 0)
noncomputable def lastF (p q M : Int) : Int := (p * q).fdiv M - p - q
noncomputable def gapsF (p q M : Int) : List Int := (bareF p q).1.filter fun n => decide (n > 0) && decide (n.fmod M = 0)
noncomputable def turnF (p q M : Int) : List Int := (gapsF p q M).reverse.map fun n => lastF p q M - n
noncomputable def rangeS (M : Int) (n : Nat) : List Int := (List.range n).map fun (i : Nat) => 0 + (i : Int) * M
noncomputable def multN (l M : Int) : Nat := if 0 < l then ((l - 1) / M + 1).toNat else 0
/-- what the last lines of the law ask -/
structure FinOK (p q M : Int) : Prop where
  m1 : 1 ≤ M
  m6 : M ≤ 6
  more : (bareF p q).2 = []
  few : (gapsF p q M).length ≤ 20
  lo : -20 ≤ lastF p q M
  hi : lastF p q M ≤ 42
  num : multN (lastF p q M + 1) M ≤ 43
  law : sldF (isrt (turnF p q M ++ turnF p q M)) (rangeS M (multN (lastF p q M + 1) M)) = ([], gapsF p q M)
theorem fin_all : ∀ p ∈ [1, 2, 3, 4, 5, 6], ∀ q ∈ [1, 2, 3, 4, 5, 6, 7], ∀ M ∈ stepL p q, (∀ a ∈ stepL p q, a ≤ M) →
    1 ≤ M ∧ M ≤ 6 ∧ (bareF p q).2 = [] ∧ (gapsF p q M).length ≤ 20 ∧ -20 ≤ lastF p q M ∧ lastF p q M ≤ 42 ∧ multN (lastF p q M + 1) M ≤ 43 ∧
    sldF (isrt (turnF p q M ++ turnF p q M)) (rangeS M (multN (lastF p q M + 1) M)) = ([], gapsF p q M) := by decide +kernel
theorem fin_law {p q M : Int} (hp1 : 1 ≤ p) (hp6 : p ≤ 6) (hq1 : 1 ≤ q) (hq7 : q ≤ 7) (hM : M ∈ stepL p q) (hx : ∀ a ∈ stepL p q, a ≤ M) : FinOK p q M := by
  obtain ⟨h1, h2, h3, h4, h5, h6, h7, h8⟩ := fin_all p (in6 hp1 hp6) q (in7 hq1 hq7) M hM hx
  exact ⟨h1, h2, h3, h4, h5, h6, h7, h8⟩
theorem stepL_ne {p q : Int} (hp1 : 1 ≤ p) : stepL p q ≠ [] := by
  intro e
  have : (1 : Int) ∈ stepL p q := by
    unfold stepL
    rw [List.mem_filter, mem_rangeKs']
    exact ⟨by exact ⟨by exact lin [] [] [] 1 (.i (.k 1) (.k 1)) rfl, by exact go_lti (lin [_] [_] [(1, (.i (.k 1) (.v 0))), (1, (.i (.v 0) (.n (.v 0))))] 1 (.i (.a (.k 1) (.k 1)) (.a (.k 1) (.n (.v 0)))) rfl hp1 (tn_a _))⟩, by simp [Int.fmod_one]⟩
  rw [e] at this
  cases this
end
section
theorem max_led {w : World} {A : Around} {E : Value → Shared → Prop} {s : Shared} {h₀ : Heap} {L l : Addr} {m : Str → Option Value} {news : Ledger} {vs : List Value} {n : Nat} {ns : List Int} {Q : Value → Shared → Prop} (hh : A.handled = none) (F : Fr h₀ L s.heap m) (N : News h₀ L s.heap news)
    (hm : (l, listOf vs.toArray n) ∈ news) (hi : IntsAre vs ns) (hne : ns ≠ [])
    (h : ∀ M h' (t : Tok) tk, M ∈ ns → (∀ a ∈ ns, a ≤ M) → Fr h₀ L h' m → News h₀ L h' news → Q (.int M t) { s with heap := h', toks := tk }) :
    wpAny (model prg w) A (call (.builtin "max") [.ref l]) Q E s := by
  have hl : s.heap.IsList l vs.toArray := ⟨_, (N _ hm).1, rfl, _, rfl⟩
  obtain ⟨xs, e⟩ := hi.allInts.items
  have hns : ns = xs.toList.map (·.1) := by
    rw [← hi.numsOf, ← nums_intItems, ← e]
  have hsz : 0 < xs.size := by
    have h3 : 0 < ns.length := List.length_pos_iff.mpr hne
    rw [hns, List.length_map, Array.length_toList] at h3; exact h3
  rw [e] at hl
  refine max_intList hh hl hsz fun v h' tk hv hk => ?_
  obtain ⟨t, rfl⟩ := intItems_at hv
  obtain ⟨h1, h2⟩ := argBest_gt (numAt xs) (xs.size - 1)
  refine h _ h' t tk ?_ (fun a ha => ?_) (F.grownK hk) (N.grown hk)
  · rw [hns, numAt_eq]; exact getD_mem (by rw [List.length_map, Array.length_toList]; exact lin [_, _, _] [] [(1, (.n (.v 0) (.v 2))), (1, (.n (.a (.v 2) (.k 1)) (.v 1)))] 1 (.n (.a (.v 0) (.k 1)) (.v 1)) rfl h1 (sub_c (lin [_] [] [(1, (.n (.a (.k 0) (.k 1)) (.v 0)))] 1 (.n (.k 1) (.v 0)) rfl hsz)))
  · rw [hns] at ha
    obtain ⟨j, hj, rfl⟩ := mem_getD ha
    rw [List.length_map, Array.length_toList] at hj
    rw [← numAt_eq]; exact h2 j (by exact lin [_, _, _] [] [(1, (.n (.a (.v 0) (.k 1)) (.v 2))), (1, (.n (.v 2) (.a (.v 1) (.k 1))))] 1 (.n (.v 0) (.v 1)) rfl hj (sub_b _ _))
theorem ints_step (M : Int) : ∀ (vs : List Value) (k : Nat), (∀ (j : Nat) (v : Value), vs[j]? = some v → ∃ t, v = .int (0 + ((k + j : Nat) : Int) * M) t) → IntsAre vs ((List.range' k vs.length).map fun (i : Nat) => 0 + (i : Int) * M)
  | [], _, _ => .nil
  | v :: vs, k, h => by
    rw [List.length_cons, List.range'_succ, List.map_cons]
    obtain ⟨t, e⟩ := h 0 v rfl
    rw [e]
    refine .cons _ t (ints_step M vs (k + 1) fun j u hu => ?_)
    obtain ⟨t', e'⟩ := h (j + 1) u hu
    exact ⟨t', by rw [e', show k + (j + 1) = k + 1 + j by exact go_eq (lin [_, _] [] [] 1 (.n (.a (.v 0) (.a (.v 1) (.k 1))) (.a (.a (.v 0) (.k 1)) (.v 1))) rfl) (lin [_, _] [] [] 1 (.n (.a (.a (.v 0) (.k 1)) (.v 1)) (.a (.v 0) (.a (.v 1) (.k 1)))) rfl)]⟩
theorem range_led {w : World} {A : Around} {E : Value → Shared → Prop} {s : Shared} {h₀ : Heap} {L r : Addr} {m : Str → Option Value} {news : Ledger} {b M : Int} {t₀ u₀ v₀ : Tok} {Q : Value → Shared → Prop} (hh : A.handled = none) (F : Fr h₀ L s.heap m) (N : News h₀ L s.heap news)
    (hr : IsRange s.heap r 0 b M t₀ u₀ v₀) (h1 : 1 ≤ M) (h6 : M ≤ 6) (hlo : -1000 ≤ b) (hhi : b ≤ 1000) (hn : multN b M ≤ 1000)
    (h : ∀ D us c h' tk, Fr h₀ L h' m → News h₀ L h' ((D, listOf (List.toArray us) c) :: news) → (∀ p ∈ news, p.1 < D) → IntsAre us (rangeS M (multN b M)) → Q (.ref D) { s with heap := h', toks := tk }) :
    wpAny (model prg w) A (call (.type "list") [.ref r]) Q E s := by
  have e : Builtin.Range.rangeSize 0 b M = (multN b M : Int) := by
    unfold Builtin.Range.rangeSize multN
    rw [if_pos (by exact go_lti (lin [] [_] [(1, (.i (.k 1) (.v 0)))] 1 (.i (.a (.k 0) (.k 1)) (.v 0)) rfl h1))]
    by_cases q : 0 < b
    · rw [if_pos q, if_pos q, Int.sub_zero]
      have : 0 ≤ (b - 1) / M := Int.ediv_nonneg (by exact lin [] [_] [(1, (.i (.a (.k 0) (.k 1)) (.v 0)))] 1 (.i (.k 0) (.s (.v 0) (.k 1))) rfl (lt_i q)) (by exact lin [] [_] [(1, (.i (.k 1) (.v 0)))] 1 (.i (.k 0) (.v 0)) rfl h1)
      exact go_eqi ((tn_a _)) ((tn_b (lin [] [_] [(1, (.i (.k 0) (.v 0)))] 1 (.i (.k 0) (.a (.v 0) (.k 1))) rfl this)))
    · rw [if_neg q, if_neg q]; rfl
  have hs : Builtin.Range.small 0 b M = true := by
    unfold Builtin.Range.small
    rw [e]
    simp only [Builtin.Range.rangeFitsLong, Bool.and_eq_true, Bool.or_eq_true, decide_eq_true_eq, beq_iff_eq]
    have : M > 0 := by exact go_lti (lin [] [_] [(1, (.i (.k 1) (.v 0)))] 1 (.i (.a (.k 0) (.k 1)) (.v 0)) rfl h1)
    simp only [this, if_true, Bool.and_eq_true, decide_eq_true_eq]
    omega
  refine call_list_range hh hr hs e (by omega) fun h' tk acc c hk hD hI => ?_
  have hD' : h'.get? s.heap.objs.size = some (listOf (List.toArray acc.toList) c) := by
    rw [Array.toArray_toList]
    exact hD
  refine h _ acc.toList c h' tk (F.keeps hk) (news_pushed F N hk hD' rfl) (fun p hp => Heap.lt_size (N p hp).1) ?_
  have := ints_step M acc.toList 0 fun j v hj => by
    obtain ⟨t, e⟩ := hI.2 j v (by rw [← hj, Array.getElem?_toList])
    exact ⟨t, by rw [e, Nat.zero_add]⟩
  rw [Array.length_toList, hI.1, ← List.range_eq_range'] at this
  exact this
theorem reads_ints {h₀ h : Heap} {L a : Addr} {news : Ledger} {vs : List Value} {ns : List Int} {k : Nat} (N : News h₀ L h news) (hm : (a, listOf vs.toArray k) ∈ news) (hi : IntsAre vs ns) : Reads h (.ref a) (.list (ns.map PyData.int)) [a] :=
  reads_list_at (N.get hm) rfl rfl (readsAll_ints hi)
theorem reads_duo {h₀ h : Heap} {L a b c : Addr} {news : Ledger} {k : Nat} {d e : PyData} {ab bb : List Addr} (N : News h₀ L h news) (hm : (a, ({ cls := .type "tuple", data := .seq [Value.ref b, Value.ref c].toArray k } : Obj)) ∈ news) (r1 : Reads h (.ref b) d ab) (r2 : Reads h (.ref c) e bb) : Reads h (.ref a) (.tuple [d, e]) (ab ++ bb) := by
  have := reads_tuple_at (N.get hm) rfl rfl (.cons r1 (.cons r2 .nil))
  simpa using this
/-- the last comparison of the law -/
theorem pair_eq {w : World} {A : Around} {E : Value → Shared → Prop} {s : Shared} {Q : Value → Shared → Prop} {h₀ : Heap} {L a b c a' b' c' : Addr} {news : Ledger} {k1 k2 k3 k4 k5 k6 : Nat} {us vs us' vs' : List Value} {ns ms : List Int} (hu : A.units + 64 < cLine) (N : News h₀ L s.heap news)
    (m1 : (a, ({ cls := .type "tuple", data := .seq [Value.ref b, Value.ref c].toArray k1 } : Obj)) ∈ news) (m2 : (b, listOf us.toArray k2) ∈ news) (m3 : (c, listOf vs.toArray k3) ∈ news)
    (m4 : (a', ({ cls := .type "tuple", data := .seq [Value.ref b', Value.ref c'].toArray k4 } : Obj)) ∈ news) (m5 : (b', listOf us'.toArray k5) ∈ news) (m6 : (c', listOf vs'.toArray k6) ∈ news)
    (i1 : IntsAre us ns) (i2 : IntsAre vs ms) (i3 : IntsAre us' ns) (i4 : IntsAre vs' ms) (h : Q (.bool true) s) : wpAny (model prg w) A (compareOp .Eq (.ref a) (.ref a')) Q E s := by
  have e : PyData.eqv (.tuple [.list (ns.map PyData.int), .list (ms.map PyData.int)]) (.tuple [.list (ns.map PyData.int), .list (ms.map PyData.int)]) = true := by
    simp [PyData.eqv, PyData.eqvAll, eqv_ints]
  have sh : SeqAt.shaped (.tuple [.list (ns.map PyData.int), .list (ms.map PyData.int)]) = true := by
    simp [SeqAt.shaped, PyData.canLay0, PyData.canLayAll0, PyData.depth, PyData.depthAll, ke_canLayAll0, ke_depthAll]
  refine eq_dataH (reads_duo N m1 (reads_ints N m2 i1) (reads_ints N m3 i2)) (reads_duo N m4 (reads_ints N m5 i3) (reads_ints N m6 i4)) sh sh hu ?_
  rw [e]; exact h
/-- what stands from `step` on -/
structure LastC (one other M : Int) (oone oother ostep : Obj) (mvs bvs : List Value) : Prop where
  a1 : 1 ≤ one
  a6 : one ≤ 6
  b1 : 1 ≤ other
  b7 : other ≤ 7
  c1 : ∃ t, oone.data = .cell (some (.int one t))
  c2 : ∃ t, oother.data = .cell (some (.int other t))
  c3 : ∃ t, ostep.data = .cell (some (.int M t))
  fin : FinOK one other M
  mv : mvs = []
  bv : IntsAre bvs (bareF one other).1
/-- after `step = ..` -/
inductive Mid7 (s : Shared) (L : Addr) (olast : Obj) : Shared → Prop
  | mk (h' : Heap) (tk : Nat) (m : Str → Option Value) (bl ml : Addr) (oone oother oports otop oout ostep : Obj) (one other M : Int) (bvs mvs : List Value) (nb nm : Nat) (t5 : Tok)
    (_ : LastC one other M oone oother ostep mvs bvs)
    (_ : otop.data = .cell (some (.int (one * other) t5)))
    (_ : Fr s.heap L h' (fun y => if y = Str.ofString "more" then some (.ref ml) else if y = Str.ofString "bare" then some (.ref bl) else m y))
    (_ : News s.heap L h' ((ml, listOf mvs.toArray nm) :: (bl, listOf bvs.toArray nb) :: lcells L olast ostep oout otop oports oother oone))
    (_ : (((ml, listOf mvs.toArray nm) :: (bl, listOf bvs.toArray nb) :: lcells L olast ostep oout otop oports oother oone).map (·.1)).Nodup) :
    Mid7 s L olast { s with heap := h', toks := tk }
/-- after `last = ..` -/
inductive Mid8 (s : Shared) (L : Addr) : Shared → Prop
  | mk (h' : Heap) (tk : Nat) (m : Str → Option Value) (bl ml : Addr) (oone oother oports otop oout ostep olast : Obj) (one other M : Int) (bvs mvs : List Value) (nb nm : Nat) (t5 : Tok)
    (_ : LastC one other M oone oother ostep mvs bvs)
    (_ : olast.data = .cell (some (.int (lastF one other M) t5)))
    (_ : Fr s.heap L h' (fun y => if y = Str.ofString "more" then some (.ref ml) else if y = Str.ofString "bare" then some (.ref bl) else m y))
    (_ : News s.heap L h' ((ml, listOf mvs.toArray nm) :: (bl, listOf bvs.toArray nb) :: lcells L olast ostep oout otop oports oother oone))
    (_ : (((ml, listOf mvs.toArray nm) :: (bl, listOf bvs.toArray nb) :: lcells L olast ostep oout otop oports oother oone).map (·.1)).Nodup) :
    Mid8 s L { s with heap := h', toks := tk }
/-- after `gaps = ..` -/
inductive Mid9 (s : Shared) (L : Addr) : Shared → Prop
  | mk (h' : Heap) (tk : Nat) (m : Str → Option Value) (gl bl ml : Addr) (oone oother oports otop oout ostep olast : Obj) (one other M : Int) (gvs bvs mvs : List Value) (ng nm : Nat) (t5 : Tok)
    (_ : LastC one other M oone oother ostep mvs bvs)
    (_ : olast.data = .cell (some (.int (lastF one other M) t5)))
    (_ : IntsAre gvs (gapsF one other M))
    (_ : Fr s.heap L h' (fun y => if y = Str.ofString "gaps" then some (.ref gl) else if y = Str.ofString "more" then some (.ref ml) else if y = Str.ofString "bare" then some (.ref bl) else m y))
    (_ : News s.heap L h' ((gl, listOf gvs.toArray ng) :: (ml, listOf mvs.toArray nm) :: lcells L olast ostep oout otop oports oother oone))
    (_ : (((gl, listOf gvs.toArray ng) :: (ml, listOf mvs.toArray nm) :: lcells L olast ostep oout otop oports oother oone).map (·.1)).Nodup) :
    Mid9 s L { s with heap := h', toks := tk }
/-- after `turned = ..` -/
inductive Mid10 (s : Shared) (L : Addr) : Shared → Prop
  | mk (h' : Heap) (tk : Nat) (m : Str → Option Value) (tl gl bl ml : Addr) (oone oother oports otop oout ostep olast : Obj) (one other M : Int) (tvs gvs bvs mvs : List Value) (nt ng nm : Nat) (t5 : Tok)
    (_ : LastC one other M oone oother ostep mvs bvs)
    (_ : olast.data = .cell (some (.int (lastF one other M) t5)))
    (_ : IntsAre gvs (gapsF one other M))
    (_ : IntsAre tvs (turnF one other M))
    (_ : Fr s.heap L h' (fun y => if y = Str.ofString "turned" then some (.ref tl) else if y = Str.ofString "gaps" then some (.ref gl) else if y = Str.ofString "more" then some (.ref ml) else if y = Str.ofString "bare" then some (.ref bl) else m y))
    (_ : News s.heap L h' ((tl, listOf tvs.toArray nt) :: (gl, listOf gvs.toArray ng) :: (ml, listOf mvs.toArray nm) :: lcells L olast ostep oout otop oports oother oone))
    (_ : (((tl, listOf tvs.toArray nt) :: (gl, listOf gvs.toArray ng) :: (ml, listOf mvs.toArray nm) :: lcells L olast ostep oout otop oports oother oone).map (·.1)).Nodup) :
    Mid10 s L { s with heap := h', toks := tk }
theorem bare_eq {p q : Int} {dbl paid : List Int} (hpd : dbl.Perm (rangeKs 0 (p * q + 1).toNat ++ rangeKs 0 (p * q + 1).toNat)) (hsd : dbl.Pairwise (· ≤ ·)) (hpp : paid.Perm (paidL p q (p * q) [0])) (hsp : paid.Pairwise (· ≤ ·)) : sldN (dbl.length + paid.length) dbl paid = bareF p q := by
  unfold bareF sldF
  rw [← srt_is hpd hsd, ← srt_is hpp hsp]
theorem bare_all : ∀ p ∈ [1, 2, 3, 4, 5, 6], ∀ q ∈ [1, 2, 3, 4, 5, 6, 7], (bareF p q).1.length ≤ 86 := by decide +kernel
theorem bare_len {p q : Int} (hp1 : 1 ≤ p) (hp6 : p ≤ 6) (hq1 : 1 ≤ q) (hq7 : q ≤ 7) : (bareF p q).1.length ≤ 86 := bare_all p (in6 hp1 hp6) q (in7 hq1 hq7)
end
section
section
set_option hygiene false in
local macro_rules | `(tactic| walk_at "compareOp NotEq ref ref") => `(tactic| with_reducible refine stop_p19 ?_)
set_option hygiene false in
local macro_rules | `(tactic| walk_at "compareOp Eq ref ref") => `(tactic| with_reducible refine stop_p20 ?_)
set_option hygiene false in
local macro_rules | `(tactic| walk_at "storeName") => `(tactic| with_reducible refine stop_p21 ?_)
set_option hygiene false in
local macro_rules | `(tactic| walk_at "storeName") => `(tactic| with_reducible refine stop_p22 ?_)
set_option hygiene false in
local macro_rules | `(tactic| walk_at "exec Assign cons ListComp") => `(tactic| with_reducible refine stop_p23 ?_)
set_option hygiene false in
local macro_rules | `(tactic| walk_at "exec Assign cons ListComp") => `(tactic| ((with_reducible refine idp_p3 ?_); refine wpAny_Assign_Name ?_ (by with_unfolding_all rfl)))
set_option hygiene false in
local macro_rules | `(tactic| walk_at "SrcLP") => `(tactic| refine stop_in ?_)
set_option hygiene false in
local macro_rules | `(tactic| walk_at "storeName") => `(tactic| with_reducible refine stop_p24 ?_)
set_option hygiene false in
local macro_rules | `(tactic| walk_at "storeName") => `(tactic| with_reducible refine stop_p25 ?_)
set_option hygiene false in
local macro_rules | `(tactic| walk_at "storeName") => `(tactic| with_reducible refine stop_p26 ?_)
set_option hygiene false in
local macro_rules | `(tactic| walk_at "storeName") => `(tactic| with_reducible refine stop_p27 ?_)
set_option hygiene false in
local macro_rules | `(tactic| walk_at "storeName") => `(tactic| with_reducible refine stop_p28 ?_)
set_option hygiene false in
local macro_rules | `(tactic| walk_at "call type:list") => `(tactic| with_reducible refine stop_p29 ?_)
set_option hygiene false in
local macro_rules | `(tactic| walk_at "call type:tuple") => `(tactic| with_reducible refine stop_p30 ?_)
set_option hygiene false in
local macro_rules | `(tactic| walk_at "binaryOp Mult ref int") => `(tactic| with_reducible refine stop_p31 ?_)
set_option hygiene false in
local macro_rules | `(tactic| walk_at "call builtin:sorted") => `(tactic| with_reducible refine stop_p32 ?_)
set_option hygiene false in
local macro_rules | `(tactic| walk_at "call builtin:max") => `(tactic| with_reducible refine stop_p33 ?_)
set_option hygiene false in
local macro_rules | `(tactic| walk_at "call builtin:sum") => `(tactic| with_reducible refine stop_p34 ?_)
theorem law_con (w : World) (sa : Addr) (vs : List Value) (xs : List Int) (hI : IntsAre vs xs) (hlen : xs.length ≤ 63) (p : Program) (loose : List Str) (mean : ExcName → Option Value) (mg mb : Str → Option Value) (A : Around) (s : Shared) (R : Result → Shared → Prop)
    (G : Gd w p loose mean mg mb s.heap A [] 12) (hl0 : s.heap.IsList sa vs.toArray)
    (ret : ∀ h' tk' new, St s.heap h' new → R (.ok (.ret (.bool true))) { s with heap := h', toks := tk' }) :
    codeAny (model prg w) A (.call (.ref 216) ⟨[.ref sa], []⟩) R s := by
  have X := G.X
  have hnd : A.handled = none := G.hn
  have T := G.T
  have kf : (Mine.hd.heap_39 w.params).In s.heap ∧ PySem.Challenge.rw_oy0269_01.row.prog = PySem.Challenge.rw_oy0269_01.row.prog := (by k_fill; exact ⟨X, rfl⟩)
  clear kf
  have hroom : Room A := ⟨fun env => by rw [units_deeper]; have := G.un; exact lin [_, _] [] [(1, (.n (.a (.a (.v 0) (.m 8 (.k 12))) (.k 1)) (.v 1)))] 1 (.n (.a (.a (.a (.v 0) (.k 3)) (.k 64)) (.k 1)) (.v 1)) rfl this⟩
  have S : St s.heap s.heap [] := ⟨fun _ _ h => h, Nat.le_refl _, fun _ h => (by cases h), .nil⟩
  k_dflt (refine' enterC G S ?ho ?hcd ?hb ?hl ?hn ?_ ?c1 ?c2 ?c3; (case ho => k_is); (case hcd => k_is); (case hb => exact BindsTo.of_eq rfl); (case hl => (intro n x hx; change x ∈ [(Str.ofString "script", Value.ref sa)] at hx; simp only [List.mem_cons, List.not_mem_nil, or_false] at hx; rcases hx with rfl; exact .inl rfl)); (case hn => decide); (case c1 => exact rfl); (case c2 => exact rfl); (case c3 => exact rfl))
  intro h₁ tk0 cells F N Y lt1 zP0 zE0 zK0 zO0
  generalize hL : s.heap.objs.size = L at *
  change CellsAre _ [(Str.ofString "last", L + 1 + 6), (Str.ofString "step", L + 1 + 5), (Str.ofString "out", L + 1 + 4), (Str.ofString "top", L + 1 + 3), (Str.ofString "ports", L + 1 + 2), (Str.ofString "other", L + 1 + 1), (Str.ofString "one", L + 1)] cells at Y
  obtain ⟨olast, ostep, oout, otop, oports, oother, oone, hlast, hstep, hout, htop, hports, hother, hone⟩ := CellsAre.seven Y
  change olast.data = .cell none at hlast
  change ostep.data = .cell none at hstep
  change oout.data = .cell none at hout
  change otop.data = .cell none at htop
  change oports.data = .cell none at hports
  change oother.data = .cell none at hother
  change oone.data = .cell none at hone
  clear Y
  dsimp only [List.cons_append, List.nil_append] at N
  clear lt1
  have F0 : Fr s.heap L h₁ (fun y => if y = Str.ofString "script" then some (.ref sa) else none) := fr_congr F (by intro y; rfl)
  clear F
  refine chain5 (Mid1 s L sa olast ostep oout otop oports) ?pa ?pb
  case pa =>
   --BEGIN pa
   k_steps
   rename Fr _ _ _ _ => F1
   rename News _ _ _ _ => N1
   refine stop_out (sumK hnd F1 N1 ⟨_, (N1 _ (.head _)).1, rfl, _, rfl⟩ (hI.pick (some 0) none (some 2)) ?_)
   clear N F0 F1 N1
   intro _ _ _ F1 N1
   generalize (pickNums xs (some 0) none (some 2)).sum = S0
   have nd0 : (([(L + 1 + 6, olast), (L + 1 + 5, ostep), (L + 1 + 4, oout), (L + 1 + 3, otop), (L + 1 + 2, oports), (L + 1 + 1, oother), (L + 1, oone)] : Ledger).map (·.1)).Nodup := by simp
   dsimp only
   k_steps
   refine stop_out (store_cell (own := [(L + 1 + 6, olast), (L + 1 + 5, ostep), (L + 1 + 4, oout), (L + 1 + 3, otop), (L + 1 + 2, oports), (L + 1 + 1, oother)]) (rest := []) F1 N1 (fun p hp => .tail _ hp) nd0 hone ?_)
   clear F1 N1 nd0 hone
   intro _ oone F1 N1 nd0 hone
   dsimp only [List.cons_append, List.nil_append] at N1 nd0
   obtain ⟨one, hone1, hone6, eone⟩ : ∃ one, 1 ≤ one ∧ one ≤ 6 ∧ 1 + (2 + S0).fmod 6 = one := ⟨_, by have := Int.fmod_nonneg_of_pos (2 + S0) (show (0 : Int) < 6 by decide); exact lin [] [_] [(1, (.i (.k 0) (.v 0)))] 1 (.i (.k 1) (.a (.k 1) (.v 0))) rfl this, by have := Int.fmod_lt_of_pos (2 + S0) (show (0 : Int) < 6 by decide); exact lin [] [_] [(1, (.i (.a (.v 0) (.k 1)) (.k 6)))] 1 (.i (.a (.k 1) (.v 0)) (.k 6)) rfl (lt_i this), rfl⟩
   rw [eone] at hone
   clear eone S0
   dsimp only at hone
   dsimp only
   k_steps
   clear F1 N1
   rename Fr _ _ _ _ => F1
   rename News _ _ _ _ => N1
   refine stop_out (sumK hnd F1 N1 ⟨_, (N1 _ (.head _)).1, rfl, _, rfl⟩ (hI.pick (some 1) none (some 2)) ?_)
   clear F1 N1
   intro _ _ _ F1 N1
   generalize (pickNums xs (some 1) none (some 2)).sum = S1
   dsimp only
   k_steps
   refine stop_out (store_cell (own := [(L + 1 + 6, olast), (L + 1 + 5, ostep), (L + 1 + 4, oout), (L + 1 + 3, otop), (L + 1 + 2, oports)]) (rest := [_]) F1 N1 (fun p hp => .tail _ hp) nd0 hother ?_)
   clear F1 N1 nd0 hother
   intro _ oother F1 N1 nd0 hother
   dsimp only [List.cons_append, List.nil_append] at N1 nd0
   obtain ⟨other, hother1, hother7, eother⟩ : ∃ other, 1 ≤ other ∧ other ≤ 7 ∧ 1 + (4 + S1).fmod 7 = other := ⟨_, by have := Int.fmod_nonneg_of_pos (4 + S1) (show (0 : Int) < 7 by decide); exact lin [] [_] [(1, (.i (.k 0) (.v 0)))] 1 (.i (.k 1) (.a (.k 1) (.v 0))) rfl this, by have := Int.fmod_lt_of_pos (4 + S1) (show (0 : Int) < 7 by decide); exact lin [] [_] [(1, (.i (.a (.v 0) (.k 1)) (.k 7)))] 1 (.i (.a (.k 1) (.v 0)) (.k 7)) rfl (lt_i this), rfl⟩
   rw [eother] at hother
   clear eother S1
   dsimp only at hother
   dsimp only
   k_steps
   refine stop_out (sumK hnd F1 N1 (hl0.at fun o e => F1.keep _ _ e) hI ?_)
   clear F1 N1
   intro _ _ _ F1 N1
   generalize xs.sum = S
   dsimp only
   k_steps
   rename Fr _ _ _ _ => F1
   rename News _ _ _ _ => N1
   refine stop_out (sumK hnd F1 N1 ⟨_, (N1 _ (.head _)).1, rfl, _, rfl⟩ (ns := List.take 3 xs) (by assumption) ?_)
   clear F1 N1
   intro _ _ _ F1 N1
   generalize (List.take 3 xs).sum = S3
   dsimp only
   k_steps
   rename Fr _ _ _ _ => F1
   rename News _ _ _ _ => N1
   rename _ ∧ _ => l1
   have N2 := (ndrop1 N1)
   have nd1 := nodup_end (o := listOf #[] 0) nd0 l1.2
   refine stop_out (use_con0 (reply_con w one S _ _ hone1 (by exact lin [] [_] [(1, (.i (.v 0) (.k 6)))] 1 (.i (.v 0) (.k 7)) rfl hone6)).con G (by decide) F1 N2 (fun p hp => hp) nd1 ?_)
   rintro _ _ _ _ F3 N3 nd3 ⟨rfl, t3, rfl⟩
   clear F1 N1 N2 nd1 l1
   dsimp only [List.nil_append] at N3 nd3
   dsimp only
   k_steps
   try clear F3 N3
   rename Fr _ _ _ _ => F1
   rename News _ _ _ _ => N1
   rename _ ∧ _ => l1
   have nd1 := nodup_end (o := listOf #[] 0) nd3 l1
   clear nd3 l1
   obtain ⟨r1, sep1, b0, b1, b2, b3, b4, P1⟩ := (rfacts hone1 (by exact lin [] [_] [(1, (.i (.v 0) (.k 6)))] 1 (.i (.v 0) (.k 7)) rfl hone6 : one ≤ 7) (a := (S.fdiv 4).fmod 3) (b := (S.fdiv 12).fmod 3) (c := S.fmod 4) (Int.fmod_nonneg_of_pos _ (by decide)) (Int.fmod_lt_of_pos _ (by decide)) (Int.fmod_nonneg_of_pos _ (by decide)) (Int.fmod_lt_of_pos _ (by decide)) (Int.fmod_nonneg_of_pos _ (by decide)) (Int.fmod_lt_of_pos _ (by decide))).p229
   refine stop_out (use_con0 (parse_con w _ _ _ _ _ _ _ _ _ _ _ _ _ _ P1).con G (by decide) F1 N1 (fun p hp => hp) nd1 ?_)
   clear P1
   rintro _ _ _ _ F3 N3 nd3 ⟨q1, u1, rfl, rfl⟩
   clear F1 N1 nd1
   dsimp only [List.cons_append, List.nil_append] at N3 nd3
   replace N3 := (ndrop1 N3)
   replace nd3 := nd_drop1 nd3
   dsimp only
   k_steps
   refine stop_out (use_con0 (reply_con w other S3 _ _ hother1 hother7).con G (by decide) F3 N3 (fun p hp => hp) nd3 ?_)
   clear F3 N3
   rintro _ _ _ _ F3 N3 nd3 ⟨rfl, t4, rfl⟩
   dsimp only [List.nil_append] at N3 nd3
   dsimp only
   k_steps
   try clear F3 N3
   rename Fr _ _ _ _ => F1
   rename News _ _ _ _ => N1
   rename _ ∧ _ => l1
   have nd1 := nodup_end (o := listOf #[] 0) nd3 l1
   clear nd3 l1
   obtain ⟨r2, sep2, c0, c1, c2, c3, c4, P2⟩ := (rfacts hother1 hother7 (a := (S3.fdiv 4).fmod 3) (b := (S3.fdiv 12).fmod 3) (c := S3.fmod 4) (Int.fmod_nonneg_of_pos _ (by decide)) (Int.fmod_lt_of_pos _ (by decide)) (Int.fmod_nonneg_of_pos _ (by decide)) (Int.fmod_lt_of_pos _ (by decide)) (Int.fmod_nonneg_of_pos _ (by decide)) (Int.fmod_lt_of_pos _ (by decide))).p229
   refine stop_out (use_con0 (parse_con w _ _ _ _ _ _ _ _ _ _ _ _ _ _ P2).con G (by decide) F1 N1 (fun p hp => hp) nd1 ?_)
   clear P2
   rintro _ _ _ _ F3 N3 nd3 ⟨q2, u2, rfl, rfl⟩
   clear F1 N1 nd1
   dsimp only [List.cons_append, List.nil_append] at N3 nd3
   replace N3 := (ndrop1 N3)
   replace nd3 := nd_drop1 nd3
   dsimp only
   k_steps
   rename Fr _ _ _ _ => F1
   rename News _ _ _ _ => N1
   rename_i l1a _ _ l1b _ _ l1c _ _ _ l1d
   refine stop_out (told_ne (hroom.h _) (by decide +kernel) (by decide +kernel) N1 (.tail _ (.tail _ (.tail _ (.head _)))) (.tail _ (.tail _ (.tail _ (.tail _ (.tail _ (.head _)))))) (.tail _ (.tail _ (.tail _ (.tail _ (.head _))))) (.head _) (.tail _ (.tail _ (.head _))) (.tail _ (.head _)) ?_)
   k_steps
   exact ⟨_, _, _, _, _, _, _, _, _, _, _, _, _, _, _, _, _, _, _, _, hone1, hone6, hother1, hother7, hone, hother, F1, (ndrop0 (ndrop0 (ndrop0 N1))), nodup_end nd3 l1a⟩
   --END pa
  case pb =>
   --BEGIN pb
   rintro s' ⟨h1, tk, told, q1, q2, tl, oone, oother, one, other, S, S3, t1, t2, t3, t4, t5, t6, t7, t8, hone1, hone6, hother1, hother7, hone, hother, F1, N1, nd1⟩
   refine chain3 (Mid2 s L sa olast ostep oout) ?pc ?pd
   case pc =>
    --BEGIN pc
    clear F0 N
    unfold lcells at N1 nd1
    k_steps
    refine stop_out (LCp.ListComp_P F1 (by with_unfolding_all rfl) (by decide) rfl (by decide) rfl rfl (by decide) ?_)
    k_steps
    refine stop_out (LCp.SrcLP.ledger hnd F1 N1 (.head _) (by show 2 ≤ sizeLine; decide) ?_)
    intro g
    refine pairs_rest (.tail _ (.tail _ (.head _))) (.tail _ (.head _)) (.inr ⟨_, .head _, rfl, _, rfl⟩) ?_ (fun _ => rfl) (fun _ => rfl) (by decide)
    intro pl hp tk2 F2 N2 o2
    have nd2 := off1_nd (o := LCg.lst [.int one t6, .int other t4]) o2 nd1
    clear F1 N1 nd1 o2
    replace N2 := (ndrop1 (ndrop1 (ndrop1 N2)))
    replace nd2 := nd_drop1 (nd_drop1 (nd_drop1 nd2))
    dsimp only
    k_steps
    refine stop_out (store_cell (own := [(pl, _), (tl, _), (L + 1 + 6, olast), (L + 1 + 5, ostep), (L + 1 + 4, oout), (L + 1 + 3, otop)]) (rest := [_, _]) F2 N2 (fun p hp => hp) nd2 hports ?_)
    clear F2 N2 nd2
    intro hp2 oports2 F2 N2 nd2 hports2
    dsimp only [List.cons_append, List.nil_append] at N2 nd2
    dsimp only
    k_steps
    refine stop_out (store_cell (own := [(pl, _), (tl, _), (L + 1 + 6, olast), (L + 1 + 5, ostep), (L + 1 + 4, oout)]) (rest := [_, _, _]) F2 N2 (fun p hp => hp) nd2 htop ?_)
    clear F2 N2 nd2
    intro hp3 otop2 F2 N2 nd2 htop2
    dsimp only [List.cons_append, List.nil_append] at N2 nd2
    clear htop hports otop oports
    dsimp only at htop2 ⊢
    k_steps
    refine stop_out (assign_q (cl := [(Str.ofString "top", L + 1 + 3)]) (intP fun _ => true) (intF fun n => n.fmod (one * other + 1)) (by with_unfolding_all rfl) ?_ (by decide) rfl (by decide) rfl rfl rfl ?_)
    · with_unfolding_all rfl
    k_steps
    rename Fr _ _ _ _ => F3
    rename News _ _ _ _ => N3
    rename IntsAre _ _ => hI3
    have hI4 : IntsAre _ (S :: List.take 3 xs) := hI3
    clear hI3
    have hz3 := hI4.length
    refine stop_out (assign_seq hnd rfl F3 N3 (.head _) (.inl rfl) (by rw [hz3, sizeLine_eq]; simp; exact lin [_, _] [] [(1, (.n (.k 2000) (.v 1))), (1, (.n (.v 0) (.k 3)))] 1 (.n (.v 0) (.v 1)) rfl (Nat.le_of_ble_eq_true rfl : 2000 ≤ 16777215) (Nat.min_le_left _ _)) ?_ ?_ ?_)
    · intro C j v s₃ m₃ E' hv F4 hm4 N4
      obtain ⟨x, tx, rfl, hx⟩ := hI4.at j v hv
      exact wpAny_tests_nil ⟨rfl, _, _, rfl, fun _ _ e => e⟩
    · intro C j v s₃ m₃ E' hv hpv F4 hm4 N4
      obtain ⟨x, tx, rfl, hx⟩ := hI4.at j v hv
      have N8 : News s.heap C s₃.heap [(L + 1 + 3, otop2)] := fun p hp => N4 p (by rw [List.mem_singleton.mp hp]; simp)
      clear N3 N4 F3
      have hpos : 0 < one * other := Int.mul_pos (by exact go_lti (lin [] [_] [(1, (.i (.k 1) (.v 0)))] 1 (.i (.a (.k 0) (.k 1)) (.v 0)) rfl hone1)) (by exact go_lti (lin [] [_] [(1, (.i (.k 1) (.v 0)))] 1 (.i (.a (.k 0) (.k 1)) (.v 0)) rfl hother1))
      have hne0 : one * other + 1 ≠ 0 := by exact go_nebi (lin [] [_] [(1, (.i (.a (.k 0) (.k 1)) (.v 0)))] 1 (.i (.a (.k 0) (.k 1)) (.a (.v 0) (.k 1))) rfl (lt_i hpos))
      k_steps
      · exact ⟨_, _, _, rfl, rfl⟩
      · exact ⟨_, _, rfl, fun _ _ e => e⟩
    · intro D h8 tk8 ys nD F8 N8 hne8 hPs
      have hY := paired_ints hI4 _ _ hPs
      have nd3 := nodup_ne (o := listOf ys nD) (fun p hp => hne8 p (.tail _ (.tail _ (.tail _ hp)))) nd2
      replace N8 := (ndrop1 (ndrop1 (ndrop1 N8)))
      refine cont_next (by assumption) (wpAny_execs_nil ?_)
      refine ⟨rfl, ?_⟩
      refine ⟨_, _, told, tl, pl, D, oone, oother, oports2, otop2, one, other, ys.toList, _, nD, t1, t2, t6, t4, _, hone1, hone6, hother1, hother7, hone, hother, hports2, htop2, hY, ?_, ?_, ?_, F8, (ndrop2 N8), nd_drop2 nd3⟩
      · simp
      · rw [List.length_map]
        refine Nat.le_trans (List.length_filter_le _ _) ?_
        have := List.length_take_le 3 xs
        rw [List.length_cons]; exact lin [_] [] [(1, (.n (.v 0) (.k 3)))] 1 (.n (.a (.v 0) (.k 1)) (.k 4)) rfl this
      · intro x hx
        obtain ⟨n, _, rfl⟩ := List.mem_map.mp hx
        have hp : 0 < one * other := Int.mul_pos (by exact go_lti (lin [] [_] [(1, (.i (.k 1) (.v 0)))] 1 (.i (.a (.k 0) (.k 1)) (.v 0)) rfl hone1)) (by exact go_lti (lin [] [_] [(1, (.i (.k 1) (.v 0)))] 1 (.i (.a (.k 0) (.k 1)) (.v 0)) rfl hother1))
        have h1 := Int.fmod_nonneg_of_pos n (show 0 < one * other + 1 by exact go_lti (lin [] [_] [(1, (.i (.a (.k 0) (.k 1)) (.v 0)))] 1 (.i (.a (.k 0) (.k 1)) (.a (.v 0) (.k 1))) rfl (lt_i hp)))
        have h2 := Int.fmod_lt_of_pos n (show 0 < one * other + 1 by exact go_lti (lin [] [_] [(1, (.i (.a (.k 0) (.k 1)) (.v 0)))] 1 (.i (.a (.k 0) (.k 1)) (.a (.v 0) (.k 1))) rfl (lt_i hp)))
        exact ⟨h1, by exact lin [] [_, _] [(1, (.i (.a (.v 0) (.k 1)) (.a (.v 1) (.k 1))))] 1 (.i (.v 0) (.v 1)) rfl (lt_i h2)⟩
    --END pc
   case pd =>
    --BEGIN pd
    clear hone hother hone1 hone6 hother1 hother7 F1 N1 nd1 S S3 t1 t2 t3 t4 t5 t6 t7 t8
    rintro s' ⟨h1, tk, told, tl, pl, hl, oone, oother, oports, otop, one, other, hvs, hs, nh, t1, t2, t3, t4, t5, hone1, hone6, hother1, hother7, hone, hother, hports, htop, hH, hh1, hh4, hhb, F1, N1, nd1⟩
    have hpos : 0 < one * other := Int.mul_pos (by exact go_lti (lin [] [_] [(1, (.i (.k 1) (.v 0)))] 1 (.i (.a (.k 0) (.k 1)) (.v 0)) rfl hone1)) (by exact go_lti (lin [] [_] [(1, (.i (.k 1) (.v 0)))] 1 (.i (.a (.k 0) (.k 1)) (.v 0)) rfl hother1))
    have hle : one * other ≤ 42 := Int.le_trans (Int.mul_le_mul_of_nonneg_right hone6 (by exact lin [] [_] [(1, (.i (.k 1) (.v 0)))] 1 (.i (.k 0) (.v 0)) rfl hother1)) (by exact lin [] [_] [(6, (.i (.v 0) (.k 7)))] 1 (.i (.m 6 (.v 0)) (.k 42)) rfl hother7)
    refine chain1 (Mid3 s L sa olast ostep) ?pe ?pf
    case pe =>
     --BEGIN pe
     unfold lcells at N1 nd1
     k_steps
     rename IsRange _ _ _ _ _ _ _ _ => hR
     rename Fr _ _ _ _ => F2
     rename News _ _ _ _ => N2
     have htn : (((one * other + 1).toNat : Nat) : Int) = one * other + 1 := Int.toNat_of_nonneg (by exact lin [] [_] [(1, (.i (.a (.k 0) (.k 1)) (.v 0)))] 1 (.i (.k 0) (.a (.v 0) (.k 1))) rfl (lt_i hpos))
     refine stop_out (kll_range hnd F2 N2 hR (small_one (by omega) (by omega) (by omega) (by omega)) (n := (one * other + 1).toNat) (by rw [rangeSize_nat]; simp) (by omega) ?_)
     intro rl rvs rc h3 tk3 F3 N3 lt3 hR3
     have nd3 := nodup_lt (o := listOf rvs.toArray rc) lt3 nd1
     clear hR F2 N2 lt3
     dsimp only
     k_steps
     have hpl : (paidL one other (one * other) hs).length < 128 := paid_len hone1 hone6 hother1 hother7 hh4 fun f hf => (hhb f hf).1
     refine stop_out (use_con0 (paid_con w hl pl hvs _ hs one other (one * other) nh 2 t5 hH (.cons _ _ (.cons _ _ .nil)) (by exact go_lti (lin [] [_] [(1, (.i (.k 1) (.v 0)))] 1 (.i (.a (.k 0) (.k 1)) (.v 0)) rfl hone1)) (by exact go_lti (lin [] [_] [(1, (.i (.k 1) (.v 0)))] 1 (.i (.a (.k 0) (.k 1)) (.v 0)) rfl hother1)) (by exact go_lti (lin [] [_] [(1, (.i (.v 0) (.k 6)))] 1 (.i (.a (.v 0) (.k 1)) (.k 10)) rfl hone6)) (by exact go_lti (lin [] [_] [(1, (.i (.v 0) (.k 7)))] 1 (.i (.a (.v 0) (.k 1)) (.k 10)) rfl hother7)) (by exact lin [] [_] [(1, (.i (.a (.k 0) (.k 1)) (.v 0)))] 1 (.i (.k 0) (.v 0)) rfl (lt_i hpos)) (by exact go_lti (lin [] [_] [(1, (.i (.v 0) (.k 42)))] 1 (.i (.a (.v 0) (.k 1)) (.k 50)) rfl hle)) (by exact lin [_] [] [(1, (.n (.v 0) (.k 4)))] 1 (.n (.a (.v 0) (.k 1)) (.k 64)) rfl hh4) hpl (fun f hf => ⟨(hhb f hf).1, by have := (hhb f hf).2; exact go_lti (lin [] [_, _] [(1, (.i (.v 1) (.k 42))), (1, (.i (.v 0) (.v 1)))] 1 (.i (.a (.v 0) (.k 1)) (.k 50)) rfl hle this)⟩)) G (by decide) F3 (Mine.News.perm N3 (List.perm_middle (l₁ := [_, _])).symm) (fun p hp => hp) (nd_perm nd3 (List.perm_middle (l₁ := [_, _])).symm) ?_)
     rintro _ h4 tk4 _ F4 N4 nd4 ⟨dl, dvs, paid, de, hI4, hpm4, hps4⟩
     dsimp only [List.cons_append, List.nil_append] at N4 nd4
     clear F3 N3 nd3
     dsimp only
     k_steps
     have hl4 : paid.length < 128 := by rw [hpm4.length_eq]; exact hpl
     refine stop_out (use_con0 (sld_con w rl dl rvs dvs _ _ rc de hR3 hI4 (by rw [rangeKs_length]; exact lin [_, _] [_] [(1, (.i (.v 0) (.k 42))), (1, (.i (.n (.v 0)) (.a (.v 0) (.k 1)))), (1, (.n (.k 2000) (.v 1)))] 1 (.n (.a (.v 0) (.k 1)) (.v 1)) rfl hle (eqi_a htn) (Nat.le_of_ble_eq_true rfl : 2000 ≤ 10000)) (by exact lin [_, _] [] [(1, (.n (.a (.v 0) (.k 1)) (.k 128))), (1, (.n (.k 2000) (.v 1)))] 1 (.n (.a (.v 0) (.k 1)) (.v 1)) rfl hl4 (Nat.le_of_ble_eq_true rfl : 2000 ≤ 10000))) G (by decide) F4 (Mine.News.perm N4 (perm_4a _ _ _ _ _)) (fun p hp => hp) (nd_perm nd4 (perm_4a _ _ _ _ _)) ?_)
     rintro _ h5 tk5 _ F5 N5 nd5 ⟨tt5, mm, um, mvs, uvs, nm, nu, hM, hU⟩
     rw [rangeKs_length] at hM hU
     dsimp only [List.cons_append, List.nil_append] at N5 nd5
     clear F4 N4 nd4
     dsimp only
     k_steps
     refine assign_Tuple_tuple hnd ⟨_, (N5 _ (.head _)).1, rfl, _, rfl⟩ rfl rfl fun h6 he => ?_
     have he' : ∀ b o, h5.get? b = some o → h6.get? b = some o := fun b o e => he b o (Nat.ne_of_lt (Heap.lt_size e)) e
     have F6 := F5.keeps he'
     have N6 := N5.grown he'
     refine assignInOrder_cons (wpAny_assign_Name ?_)
     replace N6 := (ndrop2 (ndrop2 (ndrop0 N6)))
     replace nd5 := nd_drop2 (nd_drop2 (nd_drop0 nd5))
     refine store_cell (own := [(um, _), (mm, _), (hl, _), (pl, _), (L + 1 + 6, olast), (L + 1 + 5, ostep)]) (rest := [_, _, _, _]) F6 N6 (fun p hp => hp) nd5 hout ?_
     clear F5 N5 F6 N6 nd5 he he'
     intro h7 oout2 F7 N7 nd7 hout2
     dsimp only [List.cons_append, List.nil_append] at N7 nd7
     refine assignInOrder_cons (wpAny_assign_Name ?_)
     k_steps
     rename Fr _ _ _ _ => F8
     rename News _ _ _ _ => N8
     exact ⟨_, _, told, tl, pl, hl, mm, um, oone, oother, oports, otop, oout2, one, other, hvs, mvs.toList, uvs.toList, hs, paid, nh, nm, nu, t1, t2, t3, t4, t5, hone1, hone6, hother1, hother7, hone, hother, hports, htop, hout2, hH, hh1, hh4, hhb, hpm4, hps4, hM, hU, F8, N8, nd7⟩
     --END pe
    case pf =>
     --BEGIN pf
     clear hone hother hports htop hpos hle hone1 hone6 hother1 hother7 F1 N1 nd1 hH hh1 hh4 hhb hvs hs t1 t2 t3 t4 t5
     rintro s' ⟨h1, tk, told, tl, pl, hl, ol, sl, oone, oother, oports, otop, oout, one, other, hvs, ovs, svs, hs, paid, nh, no, ns, t1, t2, t3, t4, t5, hone1, hone6, hother1, hother7, hone, hother, hports, htop, hout, hH, hh1, hh4, hhb, hpm, hps, hO, hS, F1, N1, nd1⟩
     have hpos : 0 < one * other := Int.mul_pos (by exact go_lti (lin [] [_] [(1, (.i (.k 1) (.v 0)))] 1 (.i (.a (.k 0) (.k 1)) (.v 0)) rfl hone1)) (by exact go_lti (lin [] [_] [(1, (.i (.k 1) (.v 0)))] 1 (.i (.a (.k 0) (.k 1)) (.v 0)) rfl hother1))
     have hle : one * other ≤ 42 := Int.le_trans (Int.mul_le_mul_of_nonneg_right hone6 (by exact lin [] [_] [(1, (.i (.k 1) (.v 0)))] 1 (.i (.k 0) (.v 0)) rfl hother1)) (by exact lin [] [_] [(6, (.i (.v 0) (.k 7)))] 1 (.i (.m 6 (.v 0)) (.k 42)) rfl hother7)
     unfold lcells at N1 nd1
     refine chain1 (Mid4 s L sa olast ostep) ?pg ?ph
     case pg =>
      --BEGIN pg
      k_steps
      refine stop_out (assign_cells (cl := [(Str.ofString "ports", L + 1 + 2), (Str.ofString "out", L + 1 + 4)]) (by with_unfolding_all rfl) (by with_unfolding_all rfl) rfl (by decide) ?_)
      k_steps
      refine stop_out (min_led hnd F1 N1 (.tail _ (.tail _ (.tail _ (.head _)))) (.cons _ _ (.cons _ _ .nil)) ?_)
      intro h2 t6 tk2 F2 N2 _
      clear F1 N1
      have hmn : 1 ≤ min one other := by omega
      have hmn0 : min one other ≠ 0 := by exact go_nebi (lin [] [_] [(1, (.i (.k 1) (.v 0)))] 1 (.i (.a (.k 0) (.k 1)) (.v 0)) rfl hmn)
      have hq0 : 0 ≤ (one * other).fdiv (min one other) := Int.fdiv_nonneg (by exact lin [] [_] [(1, (.i (.a (.k 0) (.k 1)) (.v 0)))] 1 (.i (.k 0) (.v 0)) rfl (lt_i hpos)) (by exact lin [] [_] [(1, (.i (.k 1) (.v 0)))] 1 (.i (.k 0) (.v 0)) rfl hmn)
      have hq1 : (one * other).fdiv (min one other) ≤ 42 := by
       rw [Int.fdiv_eq_ediv_of_nonneg _ (by exact lin [] [_] [(1, (.i (.k 1) (.v 0)))] 1 (.i (.k 0) (.v 0)) rfl hmn)]
       exact Int.le_trans (Int.ediv_le_self _ (by exact lin [] [_] [(1, (.i (.a (.k 0) (.k 1)) (.v 0)))] 1 (.i (.k 0) (.v 0)) rfl (lt_i hpos))) hle
      dsimp only
      k_steps
      rename IsRange _ _ _ _ _ _ _ _ => hR
      rename Fr _ _ _ _ => F3
      rename News _ _ _ _ => N3
      refine stop_out (cells_range (L := L) (A := A.deeper _) (b := (one * other).fdiv (min one other) + 2) (DueJ (min one other) (sldN ((one * other + 1).toNat + paid.length) (rangeKs 0 (one * other + 1).toNat) paid).1 _) hnd rfl F3 N3 hR (by omega) rfl (fun _ => rfl) (fun _ => rfl) (fun _ _ => rfl) rfl rfl ⟨⟨[], rfl, rfl, (fun _ h => by cases h), (List.append_nil _).symm⟩, nd1⟩ ?_ ?_)
      · have hOl : ovs.length ≤ 43 := by
          have := hO.length
          have h2 := sld_len1 ((one * other + 1).toNat + paid.length) (rangeKs 0 (one * other + 1).toNat) paid
          rw [rangeKs_length] at h2
          exact lin [_, _, _] [_] [(1, (.i (.v 0) (.k 42))), (1, (.n (.v 0) (.v 1))), (1, (.n (.v 1) (.v 2))), (1, (.i (.n (.v 2)) (.a (.v 0) (.k 1))))] 1 (.n (.v 0) (.k 43)) rfl hle (eq_a this) h2 (tn_b (lin [] [_] [(1, (.i (.a (.k 0) (.k 1)) (.v 0)))] 1 (.i (.k 0) (.a (.v 0) (.k 1))) rfl (lt_i hpos)))
        generalize (sldN ((one * other + 1).toNat + paid.length) (rangeKs 0 (one * other + 1).toNat) paid).1 = outs at *
        generalize (sldN ((one * other + 1).toNat + paid.length) (rangeKs 0 (one * other + 1).toNat) paid).2 = unx at *
        rintro i tv ys news I oI C oC ck oc D h tk E' hi ⟨⟨rds, rfl, hrd, hra, rfl⟩, ndJ⟩ hoc F4 N4 off
        clear F3 N3 hR
        dsimp only [List.cons_append, List.nil_append] at N4 off ndJ
        dsimp only
        k_steps
        refine stop_out (comp_q (cl := [(Str.ofString "ports", L + 1 + 2), (Str.ofString "k", ck)]) (intP fun n => decide (n.fdiv (min one other) = (i : Int))) (intF fun n => n) ?_ (by decide) rfl (by decide) rfl ?_)
        · with_unfolding_all rfl
        k_steps
        refine stop_out (comp_seq (vs := ovs) (k := no) (T := "list") hnd F4 N4 (.tail _ (.tail _ (.tail _ (.tail _ (.tail _ (.head _)))))) (.inl rfl) (by rw [sizeLine_eq]; exact lin [_, _] [] [(1, (.n (.v 0) (.k 43))), (1, (.n (.k 2000) (.v 1)))] 1 (.n (.v 0) (.v 1)) rfl hOl (Nat.le_of_ble_eq_true rfl : 2000 ≤ 16777216)) ?_ ?_ ?_)
        · intro C2 j v s₃ m₃ E2 hv F5 hm5 N5
          obtain ⟨x, tx, rfl, hx⟩ := hO.at j v hv
          clear F4 N4
          refine wpAny_tests_one ?_
          k_steps
          refine stop_out (min_led hnd F5 N5 (.tail _ (.tail _ (.tail _ (.tail _ (.tail _ (.tail _ (.tail _ (.head _)))))))) (.cons _ _ (.cons _ _ .nil)) ?_)
          intro h5 t7 tk5 F6 N6 hk6
          clear F5 N5
          k_steps
          exact ⟨_, _, rfl, hk6⟩
        · intro C2 j v s₃ m₃ E2 hv hpv F5 hm5 N5
          obtain ⟨x, tx, rfl, hx⟩ := hO.at j v hv
          clear F4 N4
          k_steps
          · exact ⟨_, _, _, rfl, rfl⟩
          · exact ⟨_, _, rfl, fun _ _ e => e⟩
        · intro D2 h20 tk20 ys nD F20 N20 hne20 hPs
          have hYs := paired_ints hO _ _ hPs
          rw [List.map_id'] at hYs
          clear F4 N4
          dsimp only
          k_steps
          have hyl : ys.size ≤ 16384 := by
            have h1 := hYs.length
            have h2 := hO.length
            have h3 := List.length_filter_le (fun n => decide (n.fdiv (min one other) = (i : Int))) outs
            have h4 : ys.toList.length = ys.size := by simp
            exact lin [_, _, _, _, _, _] [] [(1, (.n (.v 2) (.k 43))), (1, (.n (.v 3) (.v 4))), (1, (.n (.v 5) (.v 2))), (1, (.n (.v 4) (.v 5))), (1, (.n (.v 0) (.v 3))), (1, (.n (.k 2000) (.v 1)))] 1 (.n (.v 0) (.v 1)) rfl hOl (eq_a h1) (eq_b h2) h3 (eq_b h4) (Nat.le_of_ble_eq_true rfl : 2000 ≤ 16384)
          refine stop_out (kde_tupleOf F20 N20 ⟨_, (N20 _ (.head _)).1, rfl, _, rfl⟩ hyl rfl ?_)
          intro D3 h21 F21 N21 l21
          replace N21 := (ndrop1 N21)
          k_steps
          rename_i D4 h22 F22 N22 l22
          exact due_turn (base := [_, _, _, _, _, _, _, _, _, _, _]) hrd hra ndJ off F22 N22 (fun p hp => l21 p (.tail _ hp)) (by exact allLt_mem l22) hYs
      · intro D5 h30 tk30 ys5 news5 F30 N30 off30 hJ
        obtain ⟨⟨rds, rfl, hrd, hra, rfl⟩, ndJ⟩ := hJ
        k_steps
        exact ⟨_, _, told, tl, pl, hl, ol, sl, D5, oone, oother, oports, otop, oout, one, other, hvs, ovs, svs, hs, paid, nh, no, ns, rds, t1, t2, t3, t4, t5, hone1, hone6, hother1, hother7, hone, hother, hports, htop, hout, hH, hh1, hh4, hhb, hpm, hps, hO, hS, hrd, hra, F30, N30, nodup_ne off30 ndJ⟩
      --END pg
     case ph =>
      --BEGIN ph
      clear hone hother hports htop hout hpos hle hone1 hone6 hother1 hother7 F1 N1 nd1 hH hh1 hh4 hhb hpm hps hO hS hvs ovs svs hs paid t1 t2 t3 t4 t5
      rintro s' ⟨h1, tk, told, tl, pl, hl, ol, sl, dl, oone, oother, oports, otop, oout, one, other, hvs, ovs, svs, hs, paid, nh, no, ns, rds, t1, t2, t3, t4, t5, hone1, hone6, hother1, hother7, hone, hother, hports, htop, hout, hH, hh1, hh4, hhb, hpm, hps, hO, hS, hrd, hra, F1, N1, nd1⟩
      have hpos : 0 < one * other := Int.mul_pos (by exact go_lti (lin [] [_] [(1, (.i (.k 1) (.v 0)))] 1 (.i (.a (.k 0) (.k 1)) (.v 0)) rfl hone1)) (by exact go_lti (lin [] [_] [(1, (.i (.k 1) (.v 0)))] 1 (.i (.a (.k 0) (.k 1)) (.v 0)) rfl hother1))
      have hle : one * other ≤ 42 := Int.le_trans (Int.mul_le_mul_of_nonneg_right hone6 (by exact lin [] [_] [(1, (.i (.k 1) (.v 0)))] 1 (.i (.k 0) (.v 0)) rfl hother1)) (by exact lin [] [_] [(6, (.i (.v 0) (.k 7)))] 1 (.i (.m 6 (.v 0)) (.k 42)) rfl hother7)
      obtain ⟨q1, q2, q3⟩ := rounds_law hone1 hone6 hother1 hother7 hh1 hh4 hhb hpm hps
      rw [q1] at hS
      rw [← q3] at hrd
      cases hS
      simp only [lcells, List.cons_append, List.nil_append] at N1 nd1
      refine chain1 (Mid5 s L olast ostep) ?pi ?pj
      case pi =>
       --BEGIN pi
       k_steps
       rename Fr _ _ _ _ => F2
       rename News _ _ _ _ => N2
       refine stop_out (ke_ne_ints (xs := []) (ys := []) (ns := []) (ms := []) ⟨_, (N2 _ (.tail _ (.tail _ (.head _)))).1, rfl, _, rfl⟩ ⟨_, (N2 _ (.head _)).1, rfl, _, rfl⟩ .nil .nil (hroom.h _) ?_)
       replace N2 := (ndrop0 N2)
       rw [show (!decide (([] : List Int) = [])) = false from rfl]
       dsimp only
       k_steps
       have hP5 : ∀ (a b c d e : Addr × Obj) (C : Ledger), (a :: b :: c :: d :: e :: C).Perm ([d, e] ++ (a :: b :: c :: C)) := fun a b c d e C => perm_5 a b c d e C
       refine stop_out (use_con0 (rounds_con w hl pl hvs _ hs one other (one * other) nh 2 t5 hH (.cons _ _ (.cons _ _ .nil)) (by exact go_lti (lin [] [_] [(1, (.i (.k 1) (.v 0)))] 1 (.i (.a (.k 0) (.k 1)) (.v 0)) rfl hone1)) (by exact go_lti (lin [] [_] [(1, (.i (.k 1) (.v 0)))] 1 (.i (.a (.k 0) (.k 1)) (.v 0)) rfl hother1)) (by exact go_lti (lin [] [_] [(1, (.i (.v 0) (.k 6)))] 1 (.i (.a (.v 0) (.k 1)) (.k 10)) rfl hone6)) (by exact go_lti (lin [] [_] [(1, (.i (.v 0) (.k 7)))] 1 (.i (.a (.v 0) (.k 1)) (.k 10)) rfl hother7)) (by exact lin [] [_] [(1, (.i (.a (.k 0) (.k 1)) (.v 0)))] 1 (.i (.k 0) (.v 0)) rfl (lt_i hpos)) (by exact go_lti (lin [] [_] [(1, (.i (.v 0) (.k 42)))] 1 (.i (.a (.v 0) (.k 1)) (.k 50)) rfl hle)) (by exact lin [_] [] [(1, (.n (.v 0) (.k 4)))] 1 (.n (.a (.v 0) (.k 1)) (.k 64)) rfl hh4) q2).con G (by decide) F2 (Mine.News.perm N2 (hP5 _ _ _ _ _ _)) (fun p hp => hp) (nd_perm nd1 (hP5 _ _ _ _ _ _)) ?_)
       rintro _ h4 tk4 _ F4 N4 nd4 ⟨rl, rds2, n2, hrd2, hra2⟩
       simp only [List.cons_append, List.nil_append, List.append_assoc] at N4 nd4
       clear F2 N2 nd1 hP5
       dsimp only
       k_steps
       rename Fr _ _ _ _ => F5
       rename News _ _ _ _ => N5
       have hrl : rds.length ≤ 50 := by
         have := congrArg List.length hrd
         rw [List.length_map, List.length_map, List.length_range] at this
         have hq1 : (one * other).fdiv (min one other) ≤ 42 := by
           rw [Int.fdiv_eq_ediv_of_nonneg _ (by omega)]
           exact Int.le_trans (Int.ediv_le_self _ (by exact lin [] [_] [(1, (.i (.a (.k 0) (.k 1)) (.v 0)))] 1 (.i (.k 0) (.v 0)) rfl (lt_i hpos))) hle
         omega
       refine kmk_add_lit F5 N5 ⟨_, (N5 _ (.head _)).1, rfl, _, rfl⟩ ⟨_, (N5 _ (.tail _ (.tail _ (List.mem_append_right _ (.tail _ (.tail _ (.head _))))))).1, rfl, _, rfl⟩ rfl ?_ (by rw [sizeLine_eq]; simp; exact lin [_, _] [] [(1, (.n (.v 0) (.k 50))), (1, (.n (.k 2000) (.v 1)))] 1 (.n (.a (.k 1) (.v 0)) (.v 1)) rfl hrl (Nat.le_of_ble_eq_true rfl : 2000 ≤ 16777216))
       intro D6 h6 F6 N6 l6
       k_steps
       refine stop_out (rds_ne (rds := rds2) (rds' := rds) (hroom.h _) N6 (.tail _ (.tail _ (.head _))) (fun p hp => .tail _ (.tail _ (.tail _ (List.mem_append_left _ hp)))) hra2 (.head _) (fun p hp => .tail _ (.tail _ (.tail _ (List.mem_append_right _ (.tail _ (.tail _ (.tail _ (.tail _ (.tail _ (.tail _ (.tail _ (.tail _ (.tail _ (.tail _ (.tail _ (.tail _ hp)))))))))))))))) hra (hrd2.trans hrd.symm) ?_)
       clear F5 N5 q2 q3 hrd2 hrd l6
       have N7 : News s.heap L h6 ((pl, listOf #[.int one t3, .int other t4] 2) :: lcells L olast ostep oout otop oports oother oone) := fun p hp => by
         refine N6 p (.tail _ (.tail _ (.tail _ (List.mem_append_right _ (.tail _ ?_)))))
         rcases List.mem_cons.mp hp with rfl | hp
         · exact .head _
         · exact .tail _ (.tail _ (.tail _ (.tail _ (List.mem_append_left (bs := rds.flatMap Rd.led) hp))))
       have nd7 : (((pl, listOf #[.int one t3, .int other t4] 2) :: lcells L olast ostep oout otop oports oother oone).map (·.1)).Nodup := nd_pick (Y := [_, _, _, _, _, _, _]) nd4
       clear N6 nd4
       dsimp only
       k_steps
       exact ⟨_, _, _, pl, oone, oother, oports, otop, oout, one, other, t1, t2, t3, t4, t5, hone1, hone6, hother1, hother7, hone, hother, hports, htop, F6, N7, nd7⟩
       --END pi
      case pj =>
       --BEGIN pj
       clear hone hother hports htop hout hpos hle hone1 hone6 hother1 hother7 F1 N1 nd1 hH hh1 hh4 hhb hpm hps hO q1 q2 q3 hrd hra hvs ovs hs paid rds t1 t2 t3 t4 t5
       rintro s' ⟨h1, tk, m, pl, oone, oother, oports, otop, oout, one, other, t1, t2, t3, t4, t5, hone1, hone6, hother1, hother7, hone, hother, hports, htop, F1, N1, nd1⟩
       have hpos : 0 < one * other := Int.mul_pos (by exact go_lti (lin [] [_] [(1, (.i (.k 1) (.v 0)))] 1 (.i (.a (.k 0) (.k 1)) (.v 0)) rfl hone1)) (by exact go_lti (lin [] [_] [(1, (.i (.k 1) (.v 0)))] 1 (.i (.a (.k 0) (.k 1)) (.v 0)) rfl hother1))
       have hle : one * other ≤ 42 := Int.le_trans (Int.mul_le_mul_of_nonneg_right hone6 (by exact lin [] [_] [(1, (.i (.k 1) (.v 0)))] 1 (.i (.k 0) (.v 0)) rfl hother1)) (by exact lin [] [_] [(6, (.i (.v 0) (.k 7)))] 1 (.i (.m 6 (.v 0)) (.k 42)) rfl hother7)
       simp only [lcells] at N1 nd1
       refine chain1 (Mid6 s L olast ostep) ?pk ?pl
       case pk =>
        --BEGIN pk
        k_steps
        rename IsRange _ _ _ _ _ _ _ _ => hR
        rename Fr _ _ _ _ => F2
        rename News _ _ _ _ => N2
        have htn : (((one * other + 1).toNat : Nat) : Int) = one * other + 1 := Int.toNat_of_nonneg (by exact lin [] [_] [(1, (.i (.a (.k 0) (.k 1)) (.v 0)))] 1 (.i (.k 0) (.a (.v 0) (.k 1))) rfl (lt_i hpos))
        refine stop_out (kll_range hnd F2 N2 hR (small_one (by omega) (by omega) (by omega) (by omega)) (n := (one * other + 1).toNat) (by rw [rangeSize_nat]; simp) (by omega) ?_)
        intro rl rvs rc h3 tk3 F3 N3 lt3 hR3
        clear hR F2 N2
        dsimp only
        k_steps
        have hrl : rvs.length = (one * other + 1).toNat := by rw [hR3.length, rangeKs_length]
        refine stop_out (KMa.mul F3 N3 ⟨_, (N3 _ (.head _)).1, rfl, _, rfl⟩ (by decide) (by decide) (by rw [hrl]; simp; omega) (ws := rvs ++ rvs) (by simp [List.replicate]) ?_)
        intro D4 h4 F4 N4 lt4
        replace N4 := (ndrop1 N4)
        clear F3 N3
        dsimp only
        k_steps
        refine stop_out (sorted_big F4 N4 ⟨_, (N4 _ (.head _)).1, rfl, _, rfl⟩ (hR3.append hR3) (by rw [List.length_append, hrl]; exact lin [_] [_] [(2, (.i (.v 0) (.k 42))), (2, (.i (.n (.v 0)) (.a (.v 0) (.k 1))))] 1 (.n (.a (.a (.v 0) (.v 0)) (.k 1)) (.k 128)) rfl hle (eqi_a htn)) ?_)
        intro h5 vs5 ns5 e5 F5 N5 hI5 hpm5 hps5 lt5
        replace N5 := (ndrop1 N5)
        have nd5 := nodup_lt (o := listOf vs5.toArray e5) (fun p hp => lt5 p (.tail _ hp)) nd1
        clear F4 N4 lt4 lt3
        dsimp only
        k_steps
        rename Fr _ _ _ _ => F6
        rename News _ _ _ _ => N6
        rename _ ∧ _ => l6
        have nd6 := nodup_end (o := listOf #[Value.int 0 (tk3 + 1)] 0) nd5 l6
        have hpl : (paidL one other (one * other) [0]).length < 128 := paid_len hone1 hone6 hother1 hother7 (by decide) (fun f hf => by rw [List.mem_singleton.mp hf]; exact Int.le_refl _)
        refine stop_out (use_con0 (paid_con w _ pl [_] _ [0] one other (one * other) 0 2 t5 (.cons _ _ .nil) (.cons _ _ (.cons _ _ .nil)) (by exact go_lti (lin [] [_] [(1, (.i (.k 1) (.v 0)))] 1 (.i (.a (.k 0) (.k 1)) (.v 0)) rfl hone1)) (by exact go_lti (lin [] [_] [(1, (.i (.k 1) (.v 0)))] 1 (.i (.a (.k 0) (.k 1)) (.v 0)) rfl hother1)) (by exact go_lti (lin [] [_] [(1, (.i (.v 0) (.k 6)))] 1 (.i (.a (.v 0) (.k 1)) (.k 10)) rfl hone6)) (by exact go_lti (lin [] [_] [(1, (.i (.v 0) (.k 7)))] 1 (.i (.a (.v 0) (.k 1)) (.k 10)) rfl hother7)) (by exact lin [] [_] [(1, (.i (.a (.k 0) (.k 1)) (.v 0)))] 1 (.i (.k 0) (.v 0)) rfl (lt_i hpos)) (by exact go_lti (lin [] [_] [(1, (.i (.v 0) (.k 42)))] 1 (.i (.a (.v 0) (.k 1)) (.k 50)) rfl hle)) (by decide) hpl (fun f hf => by rw [List.mem_singleton.mp hf]; decide)) G (by decide) F6 (Mine.News.perm N6 (List.Perm.cons _ (List.Perm.swap _ _ _))) (fun p hp => hp) (nd_perm nd6 (List.Perm.cons _ (List.Perm.swap _ _ _))) ?_)
        rintro _ h7 tk7 _ F7 N7 nd7 ⟨dl, dvs, paid, de, hI7, hpm7, hps7⟩
        dsimp only [List.cons_append, List.nil_append] at N7 nd7
        clear F6 N6 nd6 l6 nd5
        dsimp only
        k_steps
        have hl7 : paid.length < 128 := by rw [hpm7.length_eq]; exact hpl
        have hl5 : ns5.length < 100 := by rw [hpm5.length_eq, List.length_append, rangeKs_length]; exact lin [_] [_] [(2, (.i (.v 0) (.k 42))), (2, (.i (.n (.v 0)) (.a (.v 0) (.k 1))))] 1 (.n (.a (.a (.v 0) (.v 0)) (.k 1)) (.k 100)) rfl hle (eqi_a htn)
        refine stop_out (use_con0 (sld_con w _ dl vs5 dvs _ _ e5 de hI5 hI7 (by exact lin [_, _] [] [(1, (.n (.a (.v 0) (.k 1)) (.k 100))), (1, (.n (.k 2000) (.v 1)))] 1 (.n (.a (.v 0) (.k 1)) (.v 1)) rfl hl5 (Nat.le_of_ble_eq_true rfl : 2000 ≤ 10000)) (by exact lin [_, _] [] [(1, (.n (.a (.v 0) (.k 1)) (.k 128))), (1, (.n (.k 2000) (.v 1)))] 1 (.n (.a (.v 0) (.k 1)) (.v 1)) rfl hl7 (Nat.le_of_ble_eq_true rfl : 2000 ≤ 10000))) G (by decide) F7 (Mine.News.perm N7 (perm_4a _ _ _ _ _)) (fun p hp => hp) (nd_perm nd7 (perm_4a _ _ _ _ _)) ?_)
        rintro _ h8 tk8 _ F8 N8 nd8 ⟨tt8, mm, um, mvs, uvs, nm, nu, hM, hU⟩
        dsimp only [List.cons_append, List.nil_append] at N8 nd8
        clear F7 N7 nd7
        dsimp only
        k_steps
        refine assign_Tuple_tuple hnd ⟨_, (N8 _ (.head _)).1, rfl, _, rfl⟩ rfl rfl fun h9 he => ?_
        have he' : ∀ b o, h8.get? b = some o → h9.get? b = some o := fun b o e => he b o (Nat.ne_of_lt (Heap.lt_size e)) e
        have F9 := F8.keeps he'
        have N9 := N8.grown he'
        clear F8 N8 he he'
        replace N9 := (ndrop2 (ndrop2 (ndrop2 (ndrop0 N9))))
        replace nd8 := nd_drop2 (nd_drop2 (nd_drop2 (nd_drop0 nd8)))
        refine assignInOrder_cons (wpAny_assign_Name ?_)
        k_steps
        rename Fr _ _ _ _ => F10
        rename News _ _ _ _ => N10
        exact ⟨_, _, m, pl, mm, um, oone, oother, oports, otop, oout, one, other, mvs.toList, uvs.toList, ns5, paid, nm, nu, t1, t2, t3, t4, t5, hone1, hone6, hother1, hother7, hone, hother, hports, htop, hpm5, hps5, hpm7, hps7, hM, hU, F10, N10, nd8⟩
        --END pk
       case pl =>
        --BEGIN pl
        clear hone hother hports htop hpos hle hone1 hone6 hother1 hother7 F1 N1 nd1 t1 t2 t3 t4 t5
        rintro s' ⟨h1, tk, m, pl, bl, ml, oone, oother, oports, otop, oout, one, other, bvs, mvs, dbl, paid, nb, nm, t1, t2, t3, t4, t5, hone1, hone6, hother1, hother7, hone, hother, hports, htop, hpd, hsd, hpp, hsp, hB, hM, F1, N1, nd1⟩
        have hpos : 0 < one * other := Int.mul_pos (by exact go_lti (lin [] [_] [(1, (.i (.k 1) (.v 0)))] 1 (.i (.a (.k 0) (.k 1)) (.v 0)) rfl hone1)) (by exact go_lti (lin [] [_] [(1, (.i (.k 1) (.v 0)))] 1 (.i (.a (.k 0) (.k 1)) (.v 0)) rfl hother1))
        have hle : one * other ≤ 42 := Int.le_trans (Int.mul_le_mul_of_nonneg_right hone6 (by exact lin [] [_] [(1, (.i (.k 1) (.v 0)))] 1 (.i (.k 0) (.v 0)) rfl hother1)) (by exact lin [] [_] [(6, (.i (.v 0) (.k 7)))] 1 (.i (.m 6 (.v 0)) (.k 42)) rfl hother7)
        rw [bare_eq hpd hsd hpp hsp] at hB hM
        clear hpd hsd hpp hsp dbl paid
        simp only [lcells] at N1 nd1
        replace N1 := (ndrop2 N1)
        replace nd1 := nd_drop2 nd1
        refine chain1 (Mid7 s L olast) ?pm ?pn
        case pm =>
         --BEGIN pm
         k_steps
         refine stop_out (comp_q (cl := [(Str.ofString "other", L + 1 + 1), (Str.ofString "one", L + 1)]) (intP fun k => decide (one.fmod k = 0) && decide (other.fmod k = 0)) (intF fun k => k) ?_ (by decide) rfl (by decide) rfl ?_)
         · with_unfolding_all rfl
         k_steps
         rename IsRange _ _ _ _ _ _ _ _ => hR
         rename Fr _ _ _ _ => F2
         rename News _ _ _ _ => N2
         refine stop_out (comp_range hnd F2 N2 hR (small_one (by omega) (by omega) (by omega) (by omega)) (n := one.toNat) (by rw [rangeSize_nat]; congr 1; exact go_eq (lin [_, _] [_] [(1, (.i (.v 0) (.n (.v 1)))), (1, (.i (.n (.v 0)) (.s (.a (.v 0) (.k 1)) (.k 1))))] 1 (.n (.v 0) (.v 1)) rfl (tn_a _) (tn_b (lin [] [_] [(1, (.i (.k 1) (.v 0)))] 1 (.i (.k 0) (.s (.a (.v 0) (.k 1)) (.k 1))) rfl hone1))) (lin [_, _] [_] [(1, (.i (.s (.a (.v 0) (.k 1)) (.k 1)) (.n (.v 1)))), (1, (.i (.n (.v 0)) (.v 0)))] 1 (.n (.v 0) (.v 1)) rfl (tn_a _) (tn_b (lin [] [_] [(1, (.i (.k 1) (.v 0)))] 1 (.i (.k 0) (.v 0)) rfl hone1)))) (by rw [sizeLine_eq]; exact lin [_, _] [_] [(1, (.i (.v 0) (.k 6))), (1, (.n (.k 2000) (.v 1))), (1, (.i (.n (.v 0)) (.v 0)))] 1 (.n (.v 0) (.v 1)) rfl hone6 (Nat.le_of_ble_eq_true rfl : 2000 ≤ 16777216) (tn_b (lin [] [_] [(1, (.i (.k 1) (.v 0)))] 1 (.i (.k 0) (.v 0)) rfl hone1))) ?_ ?_ ?_)
         · intro C i k tkk s₃ m₃ E' hk F3 hm3 N3
           clear F2 N2 hR
           have hk0 : k ≠ 0 := by exact go_nebi (lin [_] [_] [(1, (.i (.a (.k 1) (.n (.v 0))) (.v 0)))] 1 (.i (.a (.k 0) (.k 1)) (.v 0)) rfl (eqi_b hk))
           refine wpAny_tests_one ?_
           k_steps
           all_goals first
             | exact ⟨_, _, rfl, fun _ _ e => e⟩
             | ((show _ = (decide _ && decide _)); rw [decide_eq_false (by assumption)]; rfl)
             | ((show _ = (decide _ && decide _)); rw [decide_eq_true (by assumption), decide_eq_false (by assumption)]; rfl)
             | ((show _ = (decide _ && decide _)); rw [decide_eq_true (by assumption), decide_eq_true (by assumption)]; rfl)
         · intro C i k tkk s₃ m₃ E' hk hp F3 hm3 N3
           clear F2 N2 hR
           k_steps
           · exact ⟨_, _, _, rfl, rfl⟩
           · exact ⟨_, _, rfl, fun _ _ e => e⟩
         · intro D h8 tk8 ys vs8 nD F8 N8 hne8 hI8 hPs
           have hY := paired_ints hI8 _ _ hPs
           rw [List.map_id'] at hY
           change IntsAre ys.toList (stepL one other) at hY
           clear F2 N2 hR
           have nd8 := nodup_ne (o := listOf ys nD) hne8 nd1
           dsimp only
           k_steps
           refine stop_out (max_led hnd F8 N8 (vs := ys.toList) (.head _) hY (stepL_ne hone1) ?_)
           intro M h9 t9 tk9 hM1 hM2 F9 N9
           have fin := fin_law hone1 hone6 hother1 hother7 hM1 hM2
           rw [fin.more] at hM
           cases hM
           clear F8 N8 hY hM1 hM2
           dsimp only
           k_steps
           refine stop_out (store_cell (own := [(D, _), (ml, _), (bl, _), (L + 1 + 6, olast)]) (rest := [_, _, _, _, _]) F9 N9 (fun p hp => hp) nd8 hstep ?_)
           intro h10 ostep2 F10 N10 nd10 hstep2
           dsimp only [List.cons_append, List.nil_append] at N10 nd10
           clear F9 N9 nd8
           dsimp only
           k_steps
           exact ⟨_, _, m, bl, ml, oone, oother, oports, otop, oout, ostep2, one, other, M, bvs, [], nb, nm, t5, ⟨hone1, hone6, hother1, hother7, ⟨_, hone⟩, ⟨_, hother⟩, ⟨_, hstep2⟩, fin, rfl, hB⟩, htop, F10, (ndrop0 N10), nd_drop0 nd10⟩
         --END pm
        case pn =>
         --BEGIN pn
         clear hone hother hports htop hpos hle hone1 hone6 hother1 hother7 F1 N1 nd1 t1 t2 t3 t4 t5 hB hM hstep
         rintro s' ⟨h1, tk, m, bl, ml, oone, oother, oports, otop, oout, ostep, one, other, M, bvs, mvs, nb, nm, t5, C, htop, F1, N1, nd1⟩
         refine chain1 (Mid8 s L) ?po ?pp
         case po =>
          --BEGIN po
          obtain ⟨hone1, hone6, hother1, hother7, ⟨t1, hone⟩, ⟨t2, hother⟩, ⟨t3, hstep⟩, fin, hmv, hB⟩ := id C
          have hM1 := fin.m1
          have hM6 := fin.m6
          have hM0 : M ≠ 0 := by exact go_nebi (lin [] [_] [(1, (.i (.k 1) (.v 0)))] 1 (.i (.a (.k 0) (.k 1)) (.v 0)) rfl hM1)
          have hpos : 0 < one * other := Int.mul_pos (by exact go_lti (lin [] [_] [(1, (.i (.k 1) (.v 0)))] 1 (.i (.a (.k 0) (.k 1)) (.v 0)) rfl hone1)) (by exact go_lti (lin [] [_] [(1, (.i (.k 1) (.v 0)))] 1 (.i (.a (.k 0) (.k 1)) (.v 0)) rfl hother1))
          have hle : one * other ≤ 42 := Int.le_trans (Int.mul_le_mul_of_nonneg_right hone6 (by exact lin [] [_] [(1, (.i (.k 1) (.v 0)))] 1 (.i (.k 0) (.v 0)) rfl hother1)) (by exact lin [] [_] [(6, (.i (.v 0) (.k 7)))] 1 (.i (.m 6 (.v 0)) (.k 42)) rfl hother7)
          simp only [lcells] at N1 nd1
          k_steps
          refine stop_out (store_cell (own := [(ml, _), (bl, _)]) (rest := [_, _, _, _, _, _]) F1 N1 (fun p hp => hp) nd1 hlast ?_)
          intro h10 olast2 F10 N10 nd10 hlast2
          dsimp only [List.cons_append, List.nil_append] at N10 nd10
          clear F1 N1 nd1
          dsimp only
          k_steps
          exact ⟨_, _, m, bl, ml, oone, oother, oports, otop, oout, ostep, olast2, one, other, M, bvs, mvs, nb, nm, _, C, hlast2, F10, N10, nd10⟩
          --END po
         case pp =>
          --BEGIN pp
          clear htop F1 N1 nd1 C hlast t5
          rintro s' ⟨h1, tk, m, bl, ml, oone, oother, oports, otop, oout, ostep, olast, one, other, M, bvs, mvs, nb, nm, t5, C, hlast, F1, N1, nd1⟩
          refine chain1 (Mid9 s L) ?pq ?pr
          case pq =>
           --BEGIN pq
           obtain ⟨hone1, hone6, hother1, hother7, ⟨t1, hone⟩, ⟨t2, hother⟩, ⟨t3, hstep⟩, fin, hmv, hB⟩ := id C
           have hM1 := fin.m1
           have hM6 := fin.m6
           have hM0 : M ≠ 0 := by exact go_nebi (lin [] [_] [(1, (.i (.k 1) (.v 0)))] 1 (.i (.a (.k 0) (.k 1)) (.v 0)) rfl hM1)
           have hbl : bvs.length ≤ 86 := by
             have h1 := hB.length
             have h2 := bare_len hone1 hone6 hother1 hother7
             exact lin [_, _] [] [(1, (.n (.v 0) (.v 1))), (1, (.n (.v 1) (.k 86)))] 1 (.n (.v 0) (.k 86)) rfl (eq_a h1) h2
           simp only [lcells] at N1 nd1
           k_steps
           refine stop_out (assign_q (cl := [(Str.ofString "step", L + 1 + 5)]) (intP fun n => decide (n > 0) && decide (n.fmod M = 0)) (intF fun n => n) (by with_unfolding_all rfl) ?_ (by decide) rfl (by decide) rfl rfl rfl ?_)
           · with_unfolding_all rfl
           k_steps
           refine stop_out (assign_seq (vs := bvs) hnd rfl F1 N1 (.tail _ (.head _)) (.inl rfl) (by rw [sizeLine_eq]; exact lin [_, _] [] [(1, (.n (.v 0) (.k 86))), (1, (.n (.k 2000) (.v 1)))] 1 (.n (.v 0) (.v 1)) rfl hbl (Nat.le_of_ble_eq_true rfl : 2000 ≤ 16777216)) ?_ ?_ ?_)
           · intro C2 j v s₃ m₃ E' hv F4 hm4 N4
             obtain ⟨x, tx, rfl, hx⟩ := hB.at j v hv
             have N8 : News s.heap C2 s₃.heap [(L + 1 + 5, ostep)] := fun p hp => N4 p (by rw [List.mem_singleton.mp hp]; simp)
             clear F1 N1 N4
             refine wpAny_tests_one ?_
             k_steps
             all_goals first
               | exact ⟨_, _, rfl, fun _ _ e => e⟩
               | ((show _ = (decide _ && decide _)); rw [decide_eq_false (by assumption)]; rfl)
               | ((show _ = (decide _ && decide _)); rw [decide_eq_true (by assumption), decide_eq_false (by assumption)]; rfl)
               | ((show _ = (decide _ && decide _)); rw [decide_eq_true (by assumption), decide_eq_true (by assumption)]; rfl)
           · intro C2 j v s₃ m₃ E' hv hpv F4 hm4 N4
             obtain ⟨x, tx, rfl, hx⟩ := hB.at j v hv
             clear F1 N1
             k_steps
             · exact ⟨_, _, _, rfl, rfl⟩
             · exact ⟨_, _, rfl, fun _ _ e => e⟩
           · intro D h8 tk8 ys nD F8 N8 hne8 hPs
             have hY := paired_ints hB _ _ hPs
             rw [List.map_id'] at hY
             change IntsAre ys.toList (gapsF one other M) at hY
             have nd3 := nodup_ne (o := listOf ys nD) hne8 nd1
             refine cont_next (by assumption) (wpAny_execs_nil ?_)
             exact ⟨rfl, _, _, m, D, bl, ml, oone, oother, oports, otop, oout, ostep, olast, one, other, M, ys.toList, bvs, mvs, nD, nm, t5, C, hlast, hY, F8, (ndrop2 N8), nd_drop2 nd3⟩
           --END pq
          case pr =>
           --BEGIN pr
           clear F1 N1 nd1 C hlast t5
           rintro s' ⟨h1, tk, m, gl, bl, ml, oone, oother, oports, otop, oout, ostep, olast, one, other, M, gvs, bvs, mvs, ng, nm, t5, C, hlast, hG, F1, N1, nd1⟩
           refine chain1 (Mid10 s L) ?ps ?pt
           case ps =>
            --BEGIN ps
            obtain ⟨hone1, hone6, hother1, hother7, ⟨t1, hone⟩, ⟨t2, hother⟩, ⟨t3, hstep⟩, fin, hmv, hB⟩ := id C
            have hgl : gvs.length ≤ 20 := by rw [hG.length]; exact fin.few
            simp only [lcells] at N1 nd1
            k_steps
            refine stop_out (assign_q (cl := [(Str.ofString "last", L + 1 + 6)]) (intP fun _ => true) (intF fun n => lastF one other M - n) (by with_unfolding_all rfl) ?_ (by decide) rfl (by decide) rfl rfl rfl ?_)
            · with_unfolding_all rfl
            k_steps
            rename IntsAre _ (List.reverse _) => hR
            rename Fr _ _ _ _ => F2
            rename News _ _ _ _ => N2
            have hrl := hR.length
            rw [List.length_reverse] at hrl
            have hfew := fin.few
            refine stop_out (assign_seq hnd rfl F2 N2 (.head _) (.inl rfl) (by rw [sizeLine_eq]; exact lin [_, _, _] [] [(1, (.n (.v 0) (.v 2))), (1, (.n (.v 2) (.k 20))), (1, (.n (.k 2000) (.v 1)))] 1 (.n (.v 0) (.v 1)) rfl (eq_a hrl) hfew (Nat.le_of_ble_eq_true rfl : 2000 ≤ 16777216)) ?_ ?_ ?_)
            · intro C2 j v s₃ m₃ E' hv F4 hm4 N4
              obtain ⟨x, tx, rfl, hx⟩ := hR.at j v hv
              exact wpAny_tests_nil ⟨rfl, _, _, rfl, fun _ _ e => e⟩
            · intro C2 j v s₃ m₃ E' hv hpv F4 hm4 N4
              obtain ⟨x, tx, rfl, hx⟩ := hR.at j v hv
              have N8 : News s.heap C2 s₃.heap [(L + 1 + 6, olast)] := fun p hp => N4 p (by rw [List.mem_singleton.mp hp]; simp)
              clear F2 N2 N4
              k_steps
              · exact ⟨_, _, _, rfl, rfl⟩
              · exact ⟨_, _, rfl, fun _ _ e => e⟩
            · intro D h8 tk8 ys nD F8 N8 hne8 hPs
              have hY := paired_ints hR _ _ hPs
              rw [List.filter_eq_self.mpr (fun _ _ => rfl)] at hY
              change IntsAre ys.toList (turnF one other M) at hY
              have nd3 := nodup_ne (o := listOf ys nD) (fun p hp => hne8 p (.tail _ hp)) nd1
              refine cont_next (by assumption) (wpAny_execs_nil ?_)
              exact ⟨rfl, _, _, m, D, gl, bl, ml, oone, oother, oports, otop, oout, ostep, olast, one, other, M, ys.toList, gvs, bvs, mvs, nD, ng, nm, t5, C, hlast, hG, hY, F8, (ndrop1 N8), nd3⟩
            --END ps
           case pt =>
            --BEGIN pt
            clear F1 N1 nd1 C hlast hG t5
            rintro s' ⟨h1, tk, m, tl, gl, bl, ml, oone, oother, oports, otop, oout, ostep, olast, one, other, M, tvs, gvs, bvs, mvs, nt, ng, nm, t5, C, hlast, hG, hT, F1, N1, nd1⟩
            obtain ⟨hone1, hone6, hother1, hother7, ⟨t1, hone⟩, ⟨t2, hother⟩, ⟨t3, hstep⟩, fin, hmv, hB⟩ := id C
            subst hmv
            have hM1 := fin.m1
            have hM6 := fin.m6
            have hM0 : M ≠ 0 := by exact go_nebi (lin [] [_] [(1, (.i (.k 1) (.v 0)))] 1 (.i (.a (.k 0) (.k 1)) (.v 0)) rfl hM1)
            have hgl : gvs.length ≤ 20 := by rw [hG.length]; exact fin.few
            simp only [lcells] at N1 nd1
            k_steps
            have htl : tvs.length ≤ 20 := by rw [hT.length, turnF, List.length_map, List.length_reverse]; exact fin.few
            have flo := fin.lo
            have fhi := fin.hi
            have fnum := fin.num
            rename Fr _ _ _ _ => F2
            rename News _ _ _ _ => N2
            refine stop_out (ke_eq_ints (xs := []) (ys := []) (ns := []) (ms := []) ⟨_, (N2 _ (.tail _ (.tail _ (.tail _ (.head _))))).1, rfl, _, rfl⟩ ⟨_, (N2 _ (.head _)).1, rfl, _, rfl⟩ .nil .nil (hroom.h _) ?_)
            replace N2 := (ndrop0 N2)
            rw [show decide (([] : List Int) = []) = true from rfl]
            dsimp only
            k_steps
            refine stop_out (KMa.mul F2 N2 ⟨_, (N2 _ (.head _)).1, rfl, _, rfl⟩ (by decide) (by decide) (by simp; omega) (ws := tvs ++ tvs) (by simp [List.replicate]) ?_)
            intro D4 h4 F4 N4 lt4
            clear F2 N2 lt4
            dsimp only
            k_steps
            refine stop_out (sorted_big F4 N4 ⟨_, (N4 _ (.head _)).1, rfl, _, rfl⟩ (hT.append hT) (by rw [List.length_append]; exact lin [_] [] [(2, (.n (.v 0) (.k 20)))] 1 (.n (.a (.a (.v 0) (.v 0)) (.k 1)) (.k 128)) rfl htl) ?_)
            intro h5 vs5 ns5 e5 F5 N5 hI5 hpm5 hps5 lt5
            replace N5 := (ndrop1 N5)
            have nd5 := nodup_lt (o := listOf vs5.toArray e5) (fun p hp => lt5 p (.tail _ hp)) nd1
            clear F4 N4 lt5 nd1
            dsimp only
            k_steps
            rename IsRange _ _ _ _ _ _ _ _ => hR
            rename Fr _ _ _ _ => F6
            rename News _ _ _ _ => N6
            refine stop_out (range_led hnd F6 N6 hR hM1 hM6 (by exact lin [] [_] [(1, (.i (.g (.k 20)) (.v 0)))] 1 (.i (.g (.k 1000)) (.a (.v 0) (.k 1))) rfl flo) (by exact lin [] [_] [(1, (.i (.v 0) (.k 42)))] 1 (.i (.a (.v 0) (.k 1)) (.k 1000)) rfl fhi) (by exact lin [_] [] [(1, (.n (.v 0) (.k 43)))] 1 (.n (.v 0) (.k 1000)) rfl fnum) ?_)
            intro rl us rc h7 tk7 F7 N7 lt7 hR7
            have nd7 := nodup_lt (o := listOf us.toArray rc) lt7 nd5
            clear F6 N6 hR lt7 nd5
            dsimp only
            k_steps
            have e5l : ns5.length ≤ 40 := by rw [hpm5.length_eq, List.length_append, ← hT.length]; exact lin [_] [] [(2, (.n (.v 0) (.k 20)))] 1 (.n (.a (.v 0) (.v 0)) (.k 40)) rfl htl
            have e7l : (rangeS M (multN (lastF one other M + 1) M)).length ≤ 43 := by rw [rangeS, List.length_map, List.length_range]; exact fnum
            refine stop_out (use_con0 (sld_con w _ rl vs5 us _ _ e5 rc hI5 hR7 (by exact lin [_, _] [] [(1, (.n (.v 0) (.k 40))), (1, (.n (.k 2000) (.v 1)))] 1 (.n (.a (.v 0) (.k 1)) (.v 1)) rfl e5l (Nat.le_of_ble_eq_true rfl : 2000 ≤ 10000)) (by exact lin [_, _] [] [(1, (.n (.v 0) (.k 43))), (1, (.n (.k 2000) (.v 1)))] 1 (.n (.a (.v 0) (.k 1)) (.v 1)) rfl e7l (Nat.le_of_ble_eq_true rfl : 2000 ≤ 10000))) G (by decide) F7 (Mine.News.perm N7 (List.Perm.swap _ _ _)) (fun p hp => hp) (nd_perm nd7 (List.Perm.swap _ _ _)) ?_)
            rintro _ h8 tk8 _ F8 N8 nd8 ⟨tt8, mm, um, mvs8, uvs8, nm8, nu8, hMm, hUu⟩
            have e8 : sldN (ns5.length + (rangeS M (multN (lastF one other M + 1) M)).length) ns5 (rangeS M (multN (lastF one other M + 1) M)) = ([], gapsF one other M) := by
              rw [srt_is hpm5 hps5]; exact fin.law
            rw [e8] at hMm hUu
            dsimp only [List.cons_append, List.nil_append] at N8 nd8
            clear F7 N7 nd7
            dsimp only
            k_steps
            rename Fr _ _ _ _ => F9
            rename News _ _ _ _ => N9
            refine stop_out (pair_eq (hroom.h _) N9 (.tail _ (.tail _ (.head _))) (.tail _ (.tail _ (.tail _ (.tail _ (.head _))))) (.tail _ (.tail _ (.tail _ (.head _)))) (.head _) (.tail _ (.head _)) (.tail _ (.tail _ (.tail _ (.tail _ (.tail _ (.tail _ (.tail _ (.tail _ (.head _))))))))) hMm hUu .nil hG ?_)
            dsimp only
            k_steps
            exact ret _ _ [] (St.of_news F9 N9 (fun p hp => by cases hp) .nil)
            --END pt
           --END pr
          --END pp
         --END pn
        --END pl
       --END pj
      --END ph
     --END pf
    --END pd
   --END pb
end
end
section
theorem len63 {n : Nat} (h : ¬ ((63 : Nat) : Int) < (n : Int)) : n ≤ 63 := by omega
theorem room : callerA.depth + 12 < recursionLimit ∧ callerA.units + 8 * 12 < cLine := ⟨by decide, by decide⟩
theorem law_end {c : ClaimW} {cl : Str → Option Addr} {mean : ExcName → Option Value} {args : List WData} {w : World} {s₁ : Shared} {p : Program} {loose : List Str} {mg mb : Str → Option Value} {fa a : Addr} {vs : List Value} {xs : List Int}
    (KX : (Mine.hd.heap_39 w.params).In s₁.heap) (T : Top p loose mean mg mb s₁.heap) (hmg : mg (Str.ofString "law") = some (.ref fa)) (hL : s₁.heap.IsList a vs.toArray) (hI : IntsAre vs xs) (hlen : ¬ ((63 : Nat) : Int) < (xs.length : Int)) (hg : s₁.gens = #[])
    (hn : ∀ cls, c.raises args cls = false) (hp : c.post args (.bool true) args = true) :
    codeAny (model prg w) callerA (.call (.ref fa) ⟨[.ref a], []⟩) (GoodW c cl mean args s₁) s₁ := by
  have kf : (Mine.hd.heap_39 w.params).In s₁.heap ∧ PySem.Challenge.rw_oy0269_01.row.prog = PySem.Challenge.rw_oy0269_01.row.prog := (by k_fill; exact ⟨KX, rfl⟩)
  clear kf
  have e216 := mg_of (v := .ref 216) KX (Top.g T) (n := Str.ofString "law") (by k_is)
  have efa : (216 : Addr) = fa := by
    rw [e216] at hmg
    injection hmg with h
    injection h
  subst efa
  refine law_con w a vs xs hI (len63 hlen) p loose mean mg mb callerA s₁ _ ⟨KX, T, rfl, rfl, room.1, room.2⟩ hL ?_
  intro h' tk' new S'
  exact ⟨.inl ⟨.bool true, .bool true, [], rfl, hn, .bool true, hp, unshared_nil⟩, S'.keep, rfl, hg⟩
end
section
theorem fin_holds : PySem.Challenge.rw_oy0269_01.Holds := by
  w_on
  refine holds_law (by kernel_rfl) fun said => ?_
  refine holds_open (q := hd.view_39) (loose := [Str.ofString "_NodeInfo"]) (Xt := fun s => xlAt hd.view_39 [] s && recOk (RowW.records PySem.Challenge.rw_oy0269_01.row.toRowW) s) (XP := XL hd.view_39 []) (Yf := Hook.obs hk) (Ya := Hook.val hk) (YP := Hook.says hk) (N := 3888) hleft (Hook.of hk) (Hook.keeps hk) (fun s e => xl_of s (Bool.and_eq_true_iff.mp e).1) XL.keeps (by rfl) (by rfl) (by rfl) (fun s e => recFacts_of (Bool.and_eq_true_iff.mp e).2) (by rfl) (by first | assumption | decide +kernel) (by decide +kernel) ⟨rfl, rfl, rfl, rfl, rfl, by decide +kernel⟩ ?hw ?hc
  case hw => w_witness2
  case hc =>
    w_strict (
      k_fill
      intro w s₀ s₁ mg mb G Y fa o pm cd doc dV kV ho hd hcd hD hmg hg args vals as hpre hlay hrd hwl hlo
      have KX := kIn_of Y
      have X := (Ground.X G).1
      have V := (Ground.X G).2
      refine Ground.open G ?_
      intro T B D TE TW
      try (refine guard_noD D (by decide +kernel) ?_; clear D)
      wrow_args hpre hlay hrd hwl hlo
      refine enter_call ?_
      w_top on
      rename Heap.IsList _ _ _ => hL
      rename IntsAre _ _ => hI
      rename ¬ _ => hc
      clear hd hcd hD ho
      refine codeAny_mono (law_end KX T hmg hL hI hc hg ?_ ?_) (fun _ _ g => GoodW.toG g)
      · refine raisesW_false ?_
        wrow_none_raised
      · wrow_post)
end
end Mine
theorem PySem.Challenge.cw_oy0269_01_holds : PySem.Challenge.rw_oy0269_01.Holds :=
  Mine.fin_holds
