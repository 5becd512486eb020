import PyProof.Rows.All
import Wide.All
import OpenK.AllK
import Wide.FinOn
import Lean
import PySem.Challenge.RW_ux0030_01
set_option Elab.async false
set_option maxHeartbeats 8000000
set_option maxRecDepth 100000
set_option bootstrap.genMatcherCode false
set_option genSizeOfSpec false
local macro_rules | `(tactic| fail "d") => `(tactic| ((repeat' apply Prod.mk); all_goals first | exact default | exact PySem.W.aWorld 0 | exact ⟨default, #[], {}, 0, default⟩ | exact {} | exact fun _ => none | exact fun _ _ _ _ => none))
noncomputable def Mine.CleanT : Prop := ∀ (M : PySem.Model) (A : PySem.Around) (Q : Unit → PySem.Shared → Prop) (E : PySem.Value → PySem.Shared → Prop) (s : PySem.Shared), PySem.wpAny M A (pure ()) Q E s → PySem.wpAny M A (pure ()) Q E s

section
set_option genInjectivity false
set_option genSizeOf false
set_option genSizeOfSpec false
set_option bootstrap.genMatcherCode false
namespace Mine
inductive LX : Type
 | v (i : Nat) | n (k : Nat) | a (x y : LX) | m (k : Nat) (x : LX) | r (x : LX) (k : Nat) | s (x y : LX) | g (x : LX) | c (x : LX)
noncomputable def nAt (l : List Nat) : Nat → Nat := List.rec (fun _ => 0) (fun a _ ih i => Nat.rec a (fun j _ => ih j) i) l
noncomputable def iAt (l : List Int) : Nat → Int := List.rec (fun _ => 0) (fun a _ ih i => Nat.rec a (fun j _ => ih j) i) l
noncomputable def LX.d (x : List Nat) (e : LX) : Nat := LX.rec (fun i => nAt x i) (fun k => k) (fun _ _ a b => a + b) (fun k _ a => k * a) (fun _ k a => a * k) (fun _ _ _ _ => 0) (fun _ _ => 0) (fun _ a => a) e
noncomputable def LX.i (x : List Nat) (z : List Int) (e : LX) : Int := LX.rec (fun i => iAt z i) (fun k => (k : Int)) (fun _ _ a b => a + b) (fun k _ a => (k : Int) * a) (fun _ k a => a * (k : Int)) (fun _ _ a b => a - b) (fun _ a => - a) (fun e _ => (e.d x : Int)) e
noncomputable def atX (d : Prop) (l : List Prop) : Nat → Prop := List.rec (fun _ => d) (fun a _ ih i => Nat.rec a (fun j _ => ih j) i) l
noncomputable def atY {α : Type} (d : α) (l : List α) : Nat → α := List.rec (fun _ => d) (fun a _ ih i => Nat.rec a (fun j _ => ih j) i) l
noncomputable def cdX (x : List Nat) (z : List Int) (c : Nat × LX × LX) : Prop :=
 atX True [c.2.1.d x < c.2.2.d x, c.2.1.d x ≤ c.2.2.d x, c.2.1.d x = c.2.2.d x, ¬ c.2.1.d x < c.2.2.d x, ¬ c.2.1.d x ≤ c.2.2.d x, ¬ c.2.1.d x = c.2.2.d x,
  c.2.1.i x z < c.2.2.i x z, c.2.1.i x z ≤ c.2.2.i x z, c.2.1.i x z = c.2.2.i x z, ¬ c.2.1.i x z < c.2.2.i x z, ¬ c.2.1.i x z ≤ c.2.2.i x z, ¬ c.2.1.i x z = c.2.2.i x z, False] c.1
noncomputable def denX (x : List Nat) (z : List Int) (l : List (Nat × LX × LX)) (p : Prop) : Prop := List.rec p (fun c _ ih => cdX x z c → ih) l
noncomputable abbrev FX : Type := Int × List Int × List Int
noncomputable def addL (l : List Int) : List Int → List Int := List.rec (fun m => m) (fun a t ih m => List.rec (a :: t) (fun b u _ => (a + b) :: ih u) m) l
noncomputable def mulL (k : Int) (l : List Int) : List Int := List.rec [] (fun a _ ih => (k * a) :: ih) l
noncomputable def unitL (i : Nat) : List Int := Nat.rec [1] (fun _ ih => 0 :: ih) i
noncomputable def fadd (f g : FX) : FX := (f.1 + g.1, addL f.2.1 g.2.1, addL f.2.2 g.2.2)
noncomputable def fmul (k : Int) (f : FX) : FX := (k * f.1, mulL k f.2.1, mulL k f.2.2)
noncomputable def LX.fd (e : LX) : FX := LX.rec (fun i => (0, unitL i, [])) (fun k => ((k : Int), [], [])) (fun _ _ a b => fadd a b) (fun k _ a => fmul k a) (fun _ k a => fmul k a) (fun _ _ _ _ => (0, [], [])) (fun _ _ => (0, [], [])) (fun _ a => a) e
noncomputable def LX.fi (e : LX) : FX := LX.rec (fun i => (0, [], unitL i)) (fun k => ((k : Int), [], [])) (fun _ _ a b => fadd a b) (fun k _ a => fmul k a) (fun _ k a => fmul k a) (fun _ _ a b => fadd a (fmul (-1) b)) (fun _ a => fmul (-1) a) (fun e _ => e.fd) e
noncomputable def fles (p q : FX) : Bool × FX := (false, fadd (-1, [], []) (fadd q (fmul (-1) p)))
noncomputable def flec (b : Bool) (p q : FX) : Bool × FX := (b, fadd q (fmul (-1) p))
noncomputable def cfX (c : Nat × LX × LX) : Bool × FX :=
 atY (false, (0, [], [])) [fles c.2.1.fd c.2.2.fd, flec false c.2.1.fd c.2.2.fd, flec true c.2.1.fd c.2.2.fd, flec false c.2.2.fd c.2.1.fd, fles c.2.2.fd c.2.1.fd, (false, (0, [], [])),
  fles c.2.1.fi c.2.2.fi, flec false c.2.1.fi c.2.2.fi, flec true c.2.1.fi c.2.2.fi, flec false c.2.2.fi c.2.1.fi, fles c.2.2.fi c.2.1.fi, (false, (0, [], [])), (false, (-1, [], []))] c.1
noncomputable def leZ (l : List Int) : Bool := List.rec true (fun a _ ih => decide (a ≤ 0) && ih) l
noncomputable def isZ (l : List Int) : Bool := List.rec true (fun a _ ih => decide (a = 0) && ih) l
noncomputable def badX (f : FX) : Bool := decide (f.1 < 0) && (leZ f.2.1 && isZ f.2.2)
noncomputable def comX (l : List (Nat × LX × LX)) : List Int → FX → Bool := List.rec (fun _ f => badX f) (fun c _ ih ks f => List.rec (badX f) (fun k kt _ => ((cfX c).1 || decide (0 ≤ k)) && ih kt (fadd f (fmul k (cfX c).2))) ks) l
noncomputable def noX (b : Bool) (c : Nat × LX × LX) : Nat × LX × LX :=
 (atY 13 [3, 4, 4, 0, 1, 2, 9, 10, 10, 6, 7, 8] c.1, Bool.rec (c.2.2, c.2.1) c.2 b)
noncomputable def eqX (g : Nat × LX × LX) : Bool := atY false [false, false, true, false, false, false, false, false, true] g.1
noncomputable def chkX (l : List (Nat × LX × LX)) (g : Nat × LX × LX) (ks kt : List Int) : Bool :=
 comX (noX true g :: l) ks (0, [], []) && (Bool.rec true (comX (noX false g :: l) kt (0, [], [])) (eqX g))
-- soundness
theorem cga {a b c d : Int} (h : a = b) (k : c = d) : a + c = b + d := h ▸ k ▸ rfl
theorem cgs {a b c d : Int} (h : a = b) (k : c = d) : a - c = b - d := h ▸ k ▸ rfl
noncomputable def dotI (l : List Int) : List Int → Int := List.rec (fun _ => 0) (fun k _ ih x => List.rec 0 (fun a t _ => k * a + ih t) x) l
noncomputable def castL (x : List Nat) : List Int := List.rec [] (fun a _ ih => (a : Int) :: ih) x
noncomputable def evX (x z : List Int) (f : FX) : Int := f.1 + (dotI f.2.1 x + dotI f.2.2 z)
theorem dotI_add (l m x : List Int) : dotI (addL l m) x = dotI l x + dotI m x := by
 induction l generalizing m x with
 | nil => exact (Int.zero_add _).symm
 | cons a l ih =>
  cases m with
  | nil => exact (Int.add_zero _).symm
  | cons b m =>
   cases x with
   | nil => rfl
   | cons n x =>
    refine (cga (Int.add_mul a b n) (ih m x)).trans ?_
    exact (Int.add_assoc _ _ _).trans ((congrArg (a * n + ·) (Int.add_left_comm _ _ _)).trans (Int.add_assoc _ _ _).symm)
theorem dotI_mul (k : Int) (l x : List Int) : dotI (mulL k l) x = k * dotI l x := by
 induction l generalizing x with
 | nil => exact (Int.mul_zero _).symm
 | cons a l ih =>
  cases x with
  | nil => exact (Int.mul_zero _).symm
  | cons n x => exact (cga (Int.mul_assoc k a n) (ih x)).trans (Int.mul_add _ _ _).symm
theorem dotI_unit (i : Nat) (x : List Int) : dotI (unitL i) x = iAt x i := by
 induction i generalizing x with
 | zero =>
  cases x with
  | nil => rfl
  | cons n x => exact (Int.add_zero _).trans (Int.one_mul n)
 | succ i ih =>
  cases x with
  | nil => rfl
  | cons n x => exact (congrArg (· + _) (Int.zero_mul n)).trans ((Int.zero_add _).trans (ih x))
theorem castL_at (x : List Nat) (i : Nat) : iAt (castL x) i = (nAt x i : Int) := by
 induction x generalizing i with
 | nil => rfl
 | cons a x ih =>
  cases i with
  | zero => rfl
  | succ i => exact ih i
section
variable {x z : List Int}
theorem fadd_e (f g : FX) : evX x z (fadd f g) = evX x z f + evX x z g := by
 refine (congrArg (f.1 + g.1 + ·) (cga (dotI_add f.2.1 g.2.1 x) (dotI_add f.2.2 g.2.2 z))).trans ?_
 have sw : ∀ a b c d : Int, a + b + (c + d) = (a + c) + (b + d) := fun a b c d => (Int.add_assoc a b _).trans ((congrArg (a + ·) (Int.add_left_comm b c d)).trans (Int.add_assoc a c _).symm)
 exact (congrArg (f.1 + g.1 + ·) (sw _ _ _ _)).trans (sw _ _ _ _)
theorem fmul_e (k : Int) (f : FX) : evX x z (fmul k f) = k * evX x z f :=
 (congrArg (k * f.1 + ·) (cga (dotI_mul k f.2.1 x) (dotI_mul k f.2.2 z))).trans ((congrArg (k * f.1 + ·) (Int.mul_add _ _ _).symm).trans (Int.mul_add _ _ _).symm)
theorem fsub_e (f g : FX) : evX x z (fadd f (fmul (-1) g)) = evX x z f - evX x z g :=
 (fadd_e f _).trans (congrArg (evX x z f + ·) ((fmul_e (-1) g).trans (Int.neg_one_mul _)))
theorem fdec_e (f : FX) : evX x z (fadd (-1, [], []) f) = evX x z f - 1 := (fadd_e _ f).trans (Int.add_comm _ _)
end
section
variable {x : List Nat} {z : List Int}
theorem fd_e (e : LX) : evX (castL x) z e.fd = (e.d x : Int) := by
 induction e with
 | v i => exact (Int.zero_add _).trans ((Int.add_zero _).trans ((dotI_unit i _).trans (castL_at x i)))
 | n k => exact Int.add_zero _
 | a p q h1 h2 => exact (fadd_e _ _).trans (cga h1 h2)
 | m k p h => exact (fmul_e _ _).trans (congrArg ((k : Int) * ·) h)
 | r p k h => exact (fmul_e _ _).trans ((congrArg ((k : Int) * ·) h).trans (Int.mul_comm _ _))
 | s p q _ _ => rfl
 | g p _ => rfl
 | c p h => exact h
theorem fi_e (e : LX) : evX (castL x) z e.fi = e.i x z := by
 induction e with
 | v i => exact (Int.zero_add _).trans ((Int.zero_add _).trans (dotI_unit i z))
 | n k => exact Int.add_zero _
 | a p q h1 h2 => exact (fadd_e _ _).trans (cga h1 h2)
 | m k p h => exact (fmul_e _ _).trans (congrArg ((k : Int) * ·) h)
 | r p k h => exact (fmul_e _ _).trans ((congrArg ((k : Int) * ·) h).trans (Int.mul_comm _ _))
 | s p q h1 h2 => exact (fsub_e _ _).trans (cgs h1 h2)
 | g p h => exact (fmul_e _ _).trans ((congrArg ((-1 : Int) * ·) h).trans (Int.neg_one_mul _))
 | c p _ => exact fd_e p
noncomputable def sayX (x z : List Int) (f : Bool × FX) : Prop := 0 ≤ evX x z f.2 ∧ (f.1 = true → evX x z f.2 = 0)
theorem fles_e {p q : FX} {x z : List Int} (h : evX x z p < evX x z q) : sayX x z (fles p q) :=
 ⟨(fdec_e _).symm ▸ (fsub_e q p).symm ▸ Int.sub_nonneg_of_le (Int.le_sub_left_of_add_le h), nofun⟩
theorem flec_e {p q : FX} {x z : List Int} (h : evX x z p ≤ evX x z q) : sayX x z (flec false p q) := ⟨(fsub_e q p).symm ▸ Int.sub_nonneg_of_le h, nofun⟩
theorem fleq_e {p q : FX} {x z : List Int} (h : evX x z p = evX x z q) : sayX x z (flec true p q) :=
 have e : evX x z (fadd q (fmul (-1) p)) = 0 := (fsub_e q p).trans (Int.sub_eq_zero_of_eq h.symm)
 ⟨Int.le_of_eq e.symm, fun _ => e⟩
theorem cfX_e (c : Nat × LX × LX) (h : cdX x z c) : sayX (castL x) z (cfX c) := by
 obtain ⟨k, p, q⟩ := c
 have P := fd_e (x := x) (z := z) p
 have Q := fd_e (x := x) (z := z) q
 have R := fi_e (x := x) (z := z) p
 have S := fi_e (x := x) (z := z) q
 exact match k, h with
 | 0, h => fles_e (P ▸ Q ▸ Int.ofNat_lt.mpr h)
 | 1, h => flec_e (P ▸ Q ▸ Int.ofNat_le.mpr h)
 | 2, h => fleq_e (P ▸ Q ▸ congrArg Int.ofNat h)
 | 3, h => flec_e (P ▸ Q ▸ Int.ofNat_le.mpr (Nat.not_lt.mp h))
 | 4, h => fles_e (P ▸ Q ▸ Int.ofNat_lt.mpr (Nat.not_le.mp h))
 | 5, _ => ⟨Int.le_refl 0, nofun⟩
 | 6, h => fles_e (R ▸ S ▸ h)
 | 7, h => flec_e (R ▸ S ▸ h)
 | 8, h => fleq_e (R ▸ S ▸ h)
 | 9, h => flec_e (R ▸ S ▸ Int.not_lt.mp h)
 | 10, h => fles_e (R ▸ S ▸ Int.not_le.mp h)
 | 11, _ => ⟨Int.le_refl 0, nofun⟩
 | 12, h => absurd h id
 | _ + 13, _ => ⟨Int.le_refl 0, nofun⟩
theorem leZ_e (l : List Int) (x : List Nat) (h : leZ l = true) : dotI l (castL x) ≤ 0 := by
 induction l generalizing x with
 | nil => exact Int.le_refl 0
 | cons a l ih =>
  cases x with
  | nil => exact Int.le_refl 0
  | cons n x =>
   have h := (Bool.and_eq_true _ _).mp h
   exact Int.add_nonpos (Int.mul_nonpos_of_nonpos_of_nonneg (of_decide_eq_true h.1) (Int.natCast_nonneg n)) (ih x h.2)
theorem isZ_e (l x : List Int) (h : isZ l = true) : dotI l x = 0 := by
 induction l generalizing x with
 | nil => rfl
 | cons a l ih =>
  cases x with
  | nil => rfl
  | cons n x =>
   have h := (Bool.and_eq_true _ _).mp h
   exact (cga ((congrArg (· * n) (of_decide_eq_true h.1)).trans (Int.zero_mul n)) (ih x h.2)).trans (Int.zero_add 0)
theorem badX_e {f : FX} (h : badX f = true) : evX (castL x) z f < 0 := by
 have h := (Bool.and_eq_true _ _).mp h
 have h1 := (Bool.and_eq_true _ _).mp h.2
 exact Int.lt_of_le_of_lt (Int.add_le_add_left (Int.add_nonpos (leZ_e f.2.1 x h1.1) (Int.le_of_eq (isZ_e f.2.2 z h1.2))) f.1) ((Int.add_zero f.1).symm ▸ of_decide_eq_true h.1)
noncomputable def allX (x : List Nat) (z : List Int) (l : List (Nat × LX × LX)) : Prop := List.rec True (fun c _ ih => cdX x z c ∧ ih) l
theorem comX_e (l : List (Nat × LX × LX)) (ks : List Int) (f : FX) (hl : allX x z l) (h : comX l ks f = true) (hf : 0 ≤ evX (castL x) z f) : False := by
 induction l generalizing ks f with
 | nil => exact absurd hf (Int.not_le.mpr (badX_e h))
 | cons c l ih =>
  cases ks with
  | nil => exact absurd hf (Int.not_le.mpr (badX_e h))
  | cons k ks =>
   have h := (Bool.and_eq_true _ _).mp h
   refine ih ks _ hl.2 h.2 ?_
   rw [fadd_e, fmul_e]
   have hc := cfX_e _ hl.1
   refine Int.add_nonneg hf ?_
   rcases (Bool.or_eq_true _ _).mp h.1 with q | q
   ·rw [hc.2 q, Int.mul_zero]; exact Int.le_refl 0
   ·exact Int.mul_nonneg (of_decide_eq_true q) hc.1
theorem den_of {p : Prop} (l : List (Nat × LX × LX)) (h : allX x z l → p) : denX x z l p := by
 induction l with
 | nil => exact h trivial
 | cons c l ih => exact fun a => ih fun b => h ⟨a, b⟩
theorem no_e (g : Nat × LX × LX) (h : ¬ cdX x z g) : cdX x z (noX true g) ∨ (eqX g = true ∧ cdX x z (noX false g)) :=
 match g, h with
 | (0, _, _), h => .inl h
 | (1, _, _), h => .inl h
 | (2, _, _), h => (Nat.lt_or_gt_of_ne h).elim (fun k => .inr ⟨rfl, Nat.not_le.mpr k⟩) fun k => .inl (Nat.not_le.mpr k)
 | (3, _, _), h => .inl (Classical.byContradiction h)
 | (4, _, _), h => .inl (Classical.byContradiction h)
 | (5, _, _), h => .inl (Classical.byContradiction h)
 | (6, _, _), h => .inl h
 | (7, _, _), h => .inl h
 | (8, _, _), h => (Int.lt_or_gt_of_ne h).elim (fun k => .inr ⟨rfl, Int.not_le.mpr k⟩) fun k => .inl (Int.not_le.mpr k)
 | (9, _, _), h => .inl (Classical.byContradiction h)
 | (10, _, _), h => .inl (Classical.byContradiction h)
 | (11, _, _), h => .inl (Classical.byContradiction h)
 | (12, _, _), _ => .inl trivial
 | (_ + 13, _, _), _ => .inl trivial
end
theorem lsa (a b : Nat) : a ≤ a - b + b := (Nat.le_total b a).elim (fun h => Nat.le_of_eq (Nat.sub_add_cancel h).symm) fun h => Nat.le_trans h (Nat.le_add_left b _)
theorem triN {a b : Nat} {p : Prop} (h : a < b → p) (k : b < a → p) : a = b ∨ p :=
 (Nat.lt_trichotomy a b).elim (fun q => .inr (h q)) fun q => q.elim .inl fun q => .inr (k q)
theorem triI {a b : Int} {p : Prop} (h : a < b → p) (k : b < a → p) : a = b ∨ p :=
 (Int.lt_trichotomy a b).elim (fun q => .inr (h q)) fun q => q.elim .inl fun q => .inr (k q)
theorem lin (x : List Nat) (z : List Int) (l : List (Nat × LX × LX)) (g : Nat × LX × LX) (ks kt : List Int) (h : chkX l g ks kt = true) : denX x z l (cdX x z g) := by
 have h := (Bool.and_eq_true _ _).mp h
 refine den_of l fun hl => Classical.byContradiction fun n => ?_
 rcases no_e g n with k | ⟨e, k⟩
 ·exact comX_e (x := x) (z := z) (noX true g :: l) ks (0, [], []) (And.intro k hl) h.1 (Int.le_refl 0)
 ·have h2 := h.2
  rw [e] at h2
  exact comX_e (x := x) (z := z) (noX false g :: l) kt (0, [], []) (And.intro k hl) h2 (Int.le_refl 0)
end Mine
end
section
universe u0 u1 u2 u3 u4 u5
namespace Mine
theorem an2 {a0 a1 G : Prop} (h : a0 ∧ a1) (k : a0 → a1 → G) : G := k h.1 h.2
theorem an3 {a0 a1 a2 G : Prop} (h : a0 ∧ a1 ∧ a2) (k : a0 → a1 → a2 → G) : G := k h.1 h.2.1 h.2.2
theorem an4 {a0 a1 a2 a3 G : Prop} (h : a0 ∧ a1 ∧ a2 ∧ a3) (k : a0 → a1 → a2 → a3 → G) : G := k h.1 h.2.1 h.2.2.1 h.2.2.2
theorem an5 {a0 a1 a2 a3 a4 G : Prop} (h : a0 ∧ a1 ∧ a2 ∧ a3 ∧ a4) (k : a0 → a1 → a2 → a3 → a4 → G) : G := k h.1 h.2.1 h.2.2.1 h.2.2.2.1 h.2.2.2.2
theorem an6 {a0 a1 a2 a3 a4 a5 G : Prop} (h : a0 ∧ a1 ∧ a2 ∧ a3 ∧ a4 ∧ a5) (k : a0 → a1 → a2 → a3 → a4 → a5 → G) : G := k h.1 h.2.1 h.2.2.1 h.2.2.2.1 h.2.2.2.2.1 h.2.2.2.2.2
theorem an7 {a0 a1 a2 a3 a4 a5 a6 G : Prop} (h : a0 ∧ a1 ∧ a2 ∧ a3 ∧ a4 ∧ a5 ∧ a6) (k : a0 → a1 → a2 → a3 → a4 → a5 → a6 → G) : G := k h.1 h.2.1 h.2.2.1 h.2.2.2.1 h.2.2.2.2.1 h.2.2.2.2.2.1 h.2.2.2.2.2.2
theorem an8 {a0 a1 a2 a3 a4 a5 a6 a7 G : Prop} (h : a0 ∧ a1 ∧ a2 ∧ a3 ∧ a4 ∧ a5 ∧ a6 ∧ a7) (k : a0 → a1 → a2 → a3 → a4 → a5 → a6 → a7 → G) : G := k h.1 h.2.1 h.2.2.1 h.2.2.2.1 h.2.2.2.2.1 h.2.2.2.2.2.1 h.2.2.2.2.2.2.1 h.2.2.2.2.2.2.2
theorem an9 {a0 a1 a2 a3 a4 a5 a6 a7 a8 G : Prop} (h : a0 ∧ a1 ∧ a2 ∧ a3 ∧ a4 ∧ a5 ∧ a6 ∧ a7 ∧ a8) (k : a0 → a1 → a2 → a3 → a4 → a5 → a6 → a7 → a8 → G) : G := k h.1 h.2.1 h.2.2.1 h.2.2.2.1 h.2.2.2.2.1 h.2.2.2.2.2.1 h.2.2.2.2.2.2.1 h.2.2.2.2.2.2.2.1 h.2.2.2.2.2.2.2.2
theorem an11 {a0 a1 a2 a3 a4 a5 a6 a7 a8 a9 a10 G : Prop} (h : a0 ∧ a1 ∧ a2 ∧ a3 ∧ a4 ∧ a5 ∧ a6 ∧ a7 ∧ a8 ∧ a9 ∧ a10) (k : a0 → a1 → a2 → a3 → a4 → a5 → a6 → a7 → a8 → a9 → a10 → G) : G := k h.1 h.2.1 h.2.2.1 h.2.2.2.1 h.2.2.2.2.1 h.2.2.2.2.2.1 h.2.2.2.2.2.2.1 h.2.2.2.2.2.2.2.1 h.2.2.2.2.2.2.2.2.1 h.2.2.2.2.2.2.2.2.2.1 h.2.2.2.2.2.2.2.2.2.2
theorem ex1 {α0 : Sort u0} {P : α0 → Prop} {G : Prop} (h : ∃ x0, P x0) (k : ∀ x0, P x0 → G) : G := h.elim fun x0 h => k x0 h
theorem ex2 {α0 : Sort u0} {α1 : Sort u1} {P : α0 → α1 → Prop} {G : Prop} (h : ∃ x0 x1, P x0 x1) (k : ∀ x0 x1, P x0 x1 → G) : G := h.elim fun x0 h => h.elim fun x1 h => k x0 x1 h
theorem ex3 {α0 : Sort u0} {α1 : Sort u1} {α2 : Sort u2} {P : α0 → α1 → α2 → Prop} {G : Prop} (h : ∃ x0 x1 x2, P x0 x1 x2) (k : ∀ x0 x1 x2, P x0 x1 x2 → G) : G := h.elim fun x0 h => h.elim fun x1 h => h.elim fun x2 h => k x0 x1 x2 h
theorem ex4 {α0 : Sort u0} {α1 : Sort u1} {α2 : Sort u2} {α3 : Sort u3} {P : α0 → α1 → α2 → α3 → Prop} {G : Prop} (h : ∃ x0 x1 x2 x3, P x0 x1 x2 x3) (k : ∀ x0 x1 x2 x3, P x0 x1 x2 x3 → G) : G := h.elim fun x0 h => h.elim fun x1 h => h.elim fun x2 h => h.elim fun x3 h => k x0 x1 x2 x3 h
theorem ex5 {α0 : Sort u0} {α1 : Sort u1} {α2 : Sort u2} {α3 : Sort u3} {α4 : Sort u4} {P : α0 → α1 → α2 → α3 → α4 → Prop} {G : Prop} (h : ∃ x0 x1 x2 x3 x4, P x0 x1 x2 x3 x4) (k : ∀ x0 x1 x2 x3 x4, P x0 x1 x2 x3 x4 → G) : G := h.elim fun x0 h => h.elim fun x1 h => h.elim fun x2 h => h.elim fun x3 h => h.elim fun x4 h => k x0 x1 x2 x3 x4 h
theorem ex6 {α0 : Sort u0} {α1 : Sort u1} {α2 : Sort u2} {α3 : Sort u3} {α4 : Sort u4} {α5 : Sort u5} {P : α0 → α1 → α2 → α3 → α4 → α5 → Prop} {G : Prop} (h : ∃ x0 x1 x2 x3 x4 x5, P x0 x1 x2 x3 x4 x5) (k : ∀ x0 x1 x2 x3 x4 x5, P x0 x1 x2 x3 x4 x5 → G) : G := h.elim fun x0 h => h.elim fun x1 h => h.elim fun x2 h => h.elim fun x3 h => h.elim fun x4 h => h.elim fun x5 h => k x0 x1 x2 x3 x4 x5 h
end Mine
end
section
theorem Mine.clean_Top0 : Mine.CleanT := by
 intro M A Q E s h
 w_top off
 first
  | (walk1; fail_if_success skip)
  | exact h
open PySem PySem.W PyProof.Rows
namespace Mine
noncomputable def hd.view_39 : Program := by
 refine (?f : PySem.Challenge.pw_ux0030_01 = Program.mk (Module.mk [?a0, ?a1, ?a2, ?a3, ?a4, ?a5, ?a6, ?a7, ?a8, ?a9, ?a10, ?a11, ?a12, ?a13, ?a14, ?a15, ?a16, ?a17, ?a18, ?a19, ?a20, ?a21, ?a22, ?a23, ?a24] ?sc ?fa ?fi ?mo) ?ms ?ps ?ab ?ha ?gi → Program) ?h
 case h => exact rfl
 case f => exact fun _ => Program.mk (Module.mk [?a0, ?a1, ?a3, ?a4, ?a5, ?a7, ?a8, ?a9, ?a10, ?a12, ?a13, ?a14, ?a16, ?a17, ?a18, ?a19, ?a20, ?a21, ?a22, ?a23, ?a24] ?sc ?fa ?fi ?mo) ?ms ?ps ?ab ?ha ?gi
theorem head_apart {P Q : Prop} (_H : Hook) (_q : Q) (h : P) : P := h
section
local macro_rules | `(tactic| o_head $H) => `(tactic| refine head_apart (Q := True) $H ?hw ?hc)
local macro_rules | `(tactic| w_witness2) => `(tactic| exact trivial)
open_top hd for PySem.Challenge.rw_ux0030_01.row
end
end Mine
end
section
open PySem PySem.W PyProof.Rows
namespace Mine
noncomputable def heapAs : List Addr := [2, 3, 32, 34, 35, 37, 38, 39, 41, 42, 44, 45, 46, 48, 49, 51, 52, 53, 60, 61, 62, 63, 66, 73, 74, 75, 78, 85, 86, 87, 90, 92, 93, 95, 96, 100, 101, 105, 106, 114, 115, 117, 118, 120, 121, 122, 124, 125, 127, 128, 129, 131, 132, 134, 135, 136, 138, 139, 141, 142, 143, 146, 147, 148, 150, 151, 153, 154, 155, 157, 158, 160, 161, 162, 164, 165, 167, 168, 169, 170, 172, 173, 175, 176, 177, 180, 181, 182, 185, 186, 187, 189, 190, 192, 193, 194, 196, 197, 199, 200, 201, 204, 205, 206, 208, 209, 211, 212, 213, 215, 216, 218, 219, 220, 222, 223, 225, 226, 227, 228, 229, 230, 231, 234, 237, 238, 239, 241, 242, 244, 245, 246, 248, 249, 251, 252, 253, 255, 256, 258, 259, 260, 262, 263, 265, 266, 267, 270, 271, 272, 275, 276, 277, 280, 281, 282, 285, 286]
noncomputable abbrev HK : Hook := kHook hd.heap_1 heapAs (fun _ => by kernel_rfl)
noncomputable abbrev LOS : List PySem.Str := [Str.ofString "_name_disallowed_re", Str.ofString "_value_disallowed_re"]
noncomputable def runL (P : Program) (w : World) : Option Shared := openEnds treeTable P w 4006
theorem runL_self : runL = runL := rfl
noncomputable def seenL (V P : Program) (r : WRecords) (s : Shared) := openSeen V LOS (importedModules P.main.body) (fun s => xlAt V [] s && recOk r s) true s
theorem seenL_self : seenL = seenL := rfl
end Mine
lay_quick Mine.runL
lay_quick Mine.seenL
name_quick runQ for Mine.runL by Mine.runL_self
name_quick seenQ for Mine.seenL by Mine.seenL_self
namespace Mine
theorem leftQ_is (w : World) : (PySem.W.Fast.runQ PySem.Challenge.pw_ux0030_01 w).map (fun s => (PySem.W.Fast.seenQ hd.view_39 PySem.Challenge.pw_ux0030_01 PySem.Challenge.rw_ux0030_01.row.toRowW.records s, Hook.obs HK s)) = some (openGood hd.view_39 LOS, Hook.val HK w) := by
 kernel_rfl
theorem left : LeftO PySem.Challenge.rw_ux0030_01.row.toRowW.prog hd.view_39 LOS (fun s => xlAt hd.view_39 [] s && recOk PySem.Challenge.rw_ux0030_01.row.toRowW.records s) (Hook.obs HK) (Hook.val HK) 4006 := fun w => by
 show (runL PySem.Challenge.pw_ux0030_01 w).map (fun s => (seenL hd.view_39 PySem.Challenge.pw_ux0030_01 PySem.Challenge.rw_ux0030_01.row.toRowW.records s, Hook.obs HK s)) = _
 rw [PySem.W.Fast.runQ_eq, PySem.W.Fast.seenQ_eq]
 exact leftQ_is w
end Mine
end
section
open PySem PySem.W PyProof.Rows
namespace Mine
noncomputable abbrev PR : Program := PySem.Challenge.rw_ux0030_01.row.prog
noncomputable abbrev LO : List PySem.Str := looseW hd.view_39 [Str.ofString "_name_disallowed_re", Str.ofString "_value_disallowed_re"]
noncomputable def Au (_n : Nat) (p : Prop) : Prop := p
inductive AuOff : Prop
 | on
theorem Au.un (n : Nat) {p : Prop} (h : Au n p) (_ok : True := by (fail_if_success (have au_z : AuOff := by with_reducible assumption)); trivial) : p := h
theorem Au.mk (n : Nat) {p : Prop} (h : p) : Au n p := h
noncomputable abbrev Spc (w : World) (f : Addr) (n : Nat) (vs : List Value) (news : List (Addr × Obj)) (P : Value → List (Addr × Obj) → Prop) : Prop :=
 ∀ (mean : ExcName → Option Value) (mg mb : PySem.Str → Option Value) (dp un : Nat) (gd : Option (List Code)) (cn : PySem.Str) (cs : Scope) (a : Addr) (ccd : Value) (cl : List (PySem.Str × Addr)) (outer : List Env) (A₀ : Around) (base h₀ : Heap) (L : Addr) (m : PySem.Str → Option Value) (s : Shared) (Q E : Value → Shared → Prop),
  Below A₀ base outer h₀ → Fr h₀ L s.heap m → (hd.heap_1 w.params).In h₀ → News h₀ L s.heap news → Top hd.view_39 LO mean mg mb h₀ → cs.kind = .function →
  dp + n < recursionLimit → un + 8 * n < cLine →
  (∀ r news' h' tk', Fr h₀ L h' m → News h₀ L h' news' → P r news' → Q r { s with heap := h', toks := tk' }) →
  wpAny (model PR w) (ktrTop dp un gd cn cs L a ccd cl outer) (call (.ref f) vs) Q E s
noncomputable abbrev SpcK (w : World) (f : Addr) (n : Nat) (vs : List Value) (kw : List (PySem.Str × Value)) (news : List (Addr × Obj)) (P : Value → List (Addr × Obj) → Prop) : Prop :=
 ∀ (mean : ExcName → Option Value) (mg mb : PySem.Str → Option Value) (dp un : Nat) (gd : Option (List Code)) (cn : PySem.Str) (cs : Scope) (a : Addr) (ccd : Value) (cl : List (PySem.Str × Addr)) (outer : List Env) (A₀ : Around) (base h₀ : Heap) (L : Addr) (m : PySem.Str → Option Value) (s : Shared) (Q E : Value → Shared → Prop),
  Below A₀ base outer h₀ → Fr h₀ L s.heap m → (hd.heap_1 w.params).In h₀ → News h₀ L s.heap news → Top hd.view_39 LO mean mg mb h₀ → cs.kind = .function →
  dp + n < recursionLimit → un + 8 * n < cLine →
  (∀ r news' h' tk', Fr h₀ L h' m → News h₀ L h' news' → P r news' → Q r { s with heap := h', toks := tk' }) →
  wpAny (model PR w) (ktrTop dp un gd cn cs L a ccd cl outer) (call (.ref f) vs kw) Q E s
noncomputable def Grew (tl news news' : List (Addr × Obj)) : Prop := news' = tl ++ news ∧ ∀ q ∈ news, ∀ p ∈ tl, q.1 < p.1
theorem Grew.nil {news : List (Addr × Obj)} : Grew [] news news := ⟨rfl, fun _ _ _ h => nomatch h⟩
noncomputable abbrev RStr (news : List (Addr × Obj)) (x : PySem.Str) (r : Value) (news' : List (Addr × Obj)) : Prop := (∃ t, r = .str x t) ∧ news' = news
noncomputable abbrev RBool (news : List (Addr × Obj)) (b : Bool) (r : Value) (news' : List (Addr × Obj)) : Prop := r = .bool b ∧ news' = news
noncomputable abbrev tupOf (vs : List Value) : Obj := { cls := .type "tuple", data := .seq vs.toArray }
noncomputable abbrev RTup2 (news : List (Addr × Obj)) (x : PySem.Str) (n : Int) (r : Value) (news' : List (Addr × Obj)) : Prop :=
 ∃ q t1 t2, r = .ref q ∧ news' = (q, tupOf [.str x t1, .int n t2]) :: news ∧ ∀ p ∈ news, p.1 < q
end Mine
end
section
open PySem PySem.W PySem.Spec PySem.Calls PyProof.Rows
namespace Mine
@[irreducible] noncomputable def pick {α : Type} (d : α) (P : α → Prop) : α := Classical.epsilon (h := ⟨d⟩) fun x => ¬ P x
theorem pick_all {α : Type} {d : α} {P : α → Prop} (h : P (pick d P)) (x : α) : P x := by
 refine Classical.byContradiction fun hn => ?_
 have := Classical.epsilon_spec_aux ⟨d⟩ (fun x => ¬ P x) ⟨x, hn⟩
 unfold pick at h
 exact this h
theorem pick_use {α : Type} {c d : α} {P : α → Prop} (e : c = pick d P) (h : P c) (x : α) : P x := pick_all (e ▸ h) x
end Mine
end
section
open PySem PySem.W PySem.Spec PySem.Calls PyProof.Rows
namespace Mine
noncomputable def pk {α : Type} (d : Nonempty α) (P : α → Prop) : α := @Classical.epsilon α d fun x => ¬ P x
theorem pk_all {α : Type} {d : Nonempty α} {P : α → Prop} (h : P (pk d P)) (x : α) : P x := by
 refine Classical.byContradiction fun hn => ?_
 have := Classical.epsilon_spec_aux d (fun x => ¬ P x) ⟨x, hn⟩
 exact this h
theorem ne_pr {α β : Type} (a : Nonempty α) (b : Nonempty β) : Nonempty (α × β) := a.elim fun x => b.elim fun y => ⟨(x, y)⟩
theorem pk1 {α : Type} (d : Nonempty α) (P : α → Prop) (h : P (pk d P)) : ∀ x, P x := fun x => pk_all h x
noncomputable def c8 {A0 A1 A2 A3 A4 A5 A6 A7 : Type} (D : Nonempty (A0 × A1 × A2 × A3 × A4 × A5 × A6 × A7)) (P : A0 → A1 → A2 → A3 → A4 → A5 → A6 → A7 → Prop) : A0 × A1 × A2 × A3 × A4 × A5 × A6 × A7 := pk D (fun z => P z.1 z.2.1 z.2.2.1 z.2.2.2.1 z.2.2.2.2.1 z.2.2.2.2.2.1 z.2.2.2.2.2.2.1 z.2.2.2.2.2.2.2)
theorem pk8 {A0 A1 A2 A3 A4 A5 A6 A7 : Type} (D : Nonempty (A0 × A1 × A2 × A3 × A4 × A5 × A6 × A7)) (P : A0 → A1 → A2 → A3 → A4 → A5 → A6 → A7 → Prop) (h : P (c8 D P).1 (c8 D P).2.1 (c8 D P).2.2.1 (c8 D P).2.2.2.1 (c8 D P).2.2.2.2.1 (c8 D P).2.2.2.2.2.1 (c8 D P).2.2.2.2.2.2.1 (c8 D P).2.2.2.2.2.2.2) : ∀ x0 x1 x2 x3 x4 x5 x6 x7, P x0 x1 x2 x3 x4 x5 x6 x7 :=
 fun x0 x1 x2 x3 x4 x5 x6 x7 => pk_all (P := fun z => P z.1 z.2.1 z.2.2.1 z.2.2.2.1 z.2.2.2.2.1 z.2.2.2.2.2.1 z.2.2.2.2.2.2.1 z.2.2.2.2.2.2.2) h (x0, x1, x2, x3, x4, x5, x6, x7)
noncomputable def c4 {A0 A1 A2 A3 : Type} (D : Nonempty (A0 × A1 × A2 × A3)) (P : A0 → A1 → A2 → A3 → Prop) : A0 × A1 × A2 × A3 := pk D (fun z => P z.1 z.2.1 z.2.2.1 z.2.2.2)
theorem pk4 {A0 A1 A2 A3 : Type} (D : Nonempty (A0 × A1 × A2 × A3)) (P : A0 → A1 → A2 → A3 → Prop) (h : P (c4 D P).1 (c4 D P).2.1 (c4 D P).2.2.1 (c4 D P).2.2.2) : ∀ x0 x1 x2 x3, P x0 x1 x2 x3 :=
 fun x0 x1 x2 x3 => pk_all (P := fun z => P z.1 z.2.1 z.2.2.1 z.2.2.2) h (x0, x1, x2, x3)
noncomputable def c2 {A0 A1 : Type} (D : Nonempty (A0 × A1)) (P : A0 → A1 → Prop) : A0 × A1 := pk D (fun z => P z.1 z.2)
theorem pk2 {A0 A1 : Type} (D : Nonempty (A0 × A1)) (P : A0 → A1 → Prop) (h : P (c2 D P).1 (c2 D P).2) : ∀ x0 x1, P x0 x1 :=
 fun x0 x1 => pk_all (P := fun z => P z.1 z.2) h (x0, x1)
inductive CutMark : Prop
 | on
inductive Shut (p : Prop) : Prop
 | mk (h : p)
theorem Shut.un {p : Prop} (h : Shut p) : p := h.1
theorem ne_w : Nonempty World := ⟨aWorld 0⟩
end Mine
end
section
open PySem PySem.W PySem.Spec PySem.Calls PyProof.Rows
namespace Mine
theorem ar1 {n c R : Nat} (h : n + c < R := by with_reducible assumption) : n < R := Nat.lt_of_le_of_lt (Nat.le_add_right _ _) h
theorem ar2 {n a c R : Nat} (h : n + c < R := by with_reducible assumption) (e : Nat.ble a c = true := by decide) : n + a < R := Nat.lt_of_le_of_lt (Nat.add_le_add_left (Nat.le_of_ble_eq_true e) n) h
theorem arn {a b : Nat} (h : b < a) : a ≠ b := Nat.ne_of_gt h
theorem ars {a b : Nat} (h : a ≠ b) : a + 1 ≠ b + 1 := fun e => h (Nat.succ.inj e)
theorem ark (k : Nat) {n : Nat} (e : Nat.blt 0 k = true := by decide) : n + k ≠ n := Nat.ne_of_gt (Nat.lt_add_of_pos_right (Nat.le_of_ble_eq_true e))
theorem art {n m b : Nat} (k : n < m) (h : m < b := by with_reducible assumption) : n < b := Nat.lt_trans k h
theorem pjS {p q c : Prop} (k : q → c) : p ∧ q → c := fun h => k h.2
theorem ltc {a b z : Nat} {r : Prop} (k : z < b ∧ r → a < b) (h : z < b ∧ r := by with_reducible assumption) : a < b := k h
theorem nec {a b z : Nat} {r : Prop} (k : z ≠ b ∧ r → a ≠ b) (h : z ≠ b ∧ r := by with_reducible assumption) : a ≠ b := k h
theorem led {a M N : Nat} (h : a ≤ M) (e : Nat.ble M N = true := by decide) : a ≤ N := Nat.le_trans h (Nat.le_of_ble_eq_true e)
theorem arz {k : Nat} {a b : Int} (e : a ≤ b := by decide) : a ≤ (k : Int) + b := by exact lin [_] [_,_] [(7,.v 0,.v 1)] (7,.v 0,.a (.c (.v 0)) (.v 1)) [1,1] [] rfl e
theorem arR {a : Nat} (h : a < recursionLimit) : a < 1000 := h
theorem arC {a : Nat} (h : a < cLine) : a < 9900 := h
theorem aru {n a b R : Nat} (h : n + (a + b) < R) : n + a + b < R := Nat.add_assoc n a b ▸ h
theorem arN {a b : Nat} (h : a ≠ b) : a ≠ b := h
theorem arL {a b : Nat} (h : a < b) : a < b := h
end Mine
end
section
open PySem PySem.W PySem.Spec PySem.Calls PyProof.Rows
local macro_rules | `(tactic| fail "NE") => `(tactic| ((repeat' apply Mine.ne_pr); all_goals first | exact ⟨default⟩ | exact Mine.ne_w | exact ⟨⟨default, #[], {}, 0, default⟩⟩ | exact ⟨{}⟩ | exact ⟨fun _ => none⟩ | exact ⟨fun _ _ _ _ => none⟩ | exact ⟨fun _ _ => default⟩ | exact ⟨fun _ => default⟩))
local macro_rules | `(tactic| fail "CLb") => `(tactic| first | (with_reducible refine Mine.pk8 ?D ?P ?h; (case D => fail "NE"); with_reducible refine (?g : ∀ x0 x1 x2 x3 x4 x5 x6 x7, ?P x0 x1 x2 x3 x4 x5 x6 x7) (Mine.c8 ?D ?P).1 (Mine.c8 ?D ?P).2.1 (Mine.c8 ?D ?P).2.2.1 (Mine.c8 ?D ?P).2.2.2.1 (Mine.c8 ?D ?P).2.2.2.2.1 (Mine.c8 ?D ?P).2.2.2.2.2.1 (Mine.c8 ?D ?P).2.2.2.2.2.2.1 (Mine.c8 ?D ?P).2.2.2.2.2.2.2; intros x0 x1 x2 x3 x4 x5 x6 x7) | (with_reducible refine Mine.pk4 ?D ?P ?h; (case D => fail "NE"); with_reducible refine (?g : ∀ x0 x1 x2 x3, ?P x0 x1 x2 x3) (Mine.c4 ?D ?P).1 (Mine.c4 ?D ?P).2.1 (Mine.c4 ?D ?P).2.2.1 (Mine.c4 ?D ?P).2.2.2; intros x0 x1 x2 x3) | (with_reducible refine Mine.pk2 ?D ?P ?h; (case D => fail "NE"); with_reducible refine (?g : ∀ x0 x1, ?P x0 x1) (Mine.c2 ?D ?P).1 (Mine.c2 ?D ?P).2; intros x0 x1) | (with_reducible refine Mine.pk1 ?D ?P ?h; (case D => fail "NE"); with_reducible refine (?g : ∀ x, ?P x) (Mine.pk ?D ?P); intros x))
local macro_rules | `(tactic| fail "CLi") => `(tactic| first | (fail "CLb"; try fail "CLi") | (with_reducible intro _; try fail "CLi"))
local macro_rules | `(tactic| fail "CLj") => `(tactic| first | (fail "CLb"; try fail "CLi") | (with_reducible intro _; fail "CLj"))
local macro_rules | `(tactic| fail "CLr") => `(tactic| first | (rename_i x; have y : Mine.CutMark := x; clear y x) | (rename_i x; revert x; fail "CLr"))
local macro_rules | `(tactic| fail "CL") => `(tactic| (with_reducible show wpAny _ _ (execs _ _) _ _ _; fail "CLr"; fail "CLj"; have m : Mine.CutMark := .on))
local macro_rules | `(tactic| fail "CLm") => `(tactic| (have m : Mine.CutMark := .on))
local macro_rules | `(tactic| fail "CLn") => `(tactic| have m : Mine.CutMark := .on)
local macro_rules | `(tactic| k_fold) => `(tactic| skip)
local macro_rules | `(tactic| k_steps) => `(tactic| repeat' (first | fail "CL" | (k_unfold; (try dsimp only)) | (k_end; kc_close) | walk1 | (dsimp only; walk1) | (leave1; (try dsimp only)) | fail "no step"))
local macro_rules | `(tactic| k_in) => `(tactic| first | with_reducible assumption | k_in_fast | exact Frag.In.keeps (by k_asm) (Fr.keep (by k_asm)))
local macro_rules | `(tactic| fail "IL") => `(tactic| (with_unfolding_all refine' item_litK ?k1 ?k2 ?k3 ?k4 ?_ ?k6; (case k1 => is_list); (case k2 => decide); (case k3 => decide); (case k4 => rfl); (case k6 => with_unfolding_all rfl)))
local macro_rules | `(tactic| fail "PJ") => `(tactic| first | exact And.left | exact And.right | (refine Mine.pjS ?_; fail "PJ"))
local macro_rules | `(tactic| fail "ARu") => `(tactic| first | exact Mine.ar2 | (refine aru ?_; fail "ARu"))
local macro_rules | `(tactic| fail "ARl") => `(tactic| first | assumption | (refine Mine.ltc ?_; fail "PJ") | exact Mine.ar1 | fail "ARu" | (refine Mine.art ?_; fail "ARl"))
local macro_rules | `(tactic| fail "ARk") => `(tactic| first | exact Mine.ark 1 | exact Mine.ark 2 | exact Mine.ark 3 | exact Mine.ark 4 | exact Mine.ark 5 | exact Mine.ark 6)
local macro_rules | `(tactic| fail "ARs") => `(tactic| (refine Mine.ars ?_; first | fail "ARs" | fail "ARk" | (refine Ne.symm ?_; fail "ARk") | fail "ARn"))
local macro_rules | `(tactic| fail "ARn") => `(tactic| first | (refine Mine.arn ?_; fail "ARl") | (refine Nat.ne_of_lt ?_; fail "ARl") | assumption | (refine Mine.nec ?_; fail "PJ"))
local macro_rules | `(tactic| fail "AR") => `(tactic| with_reducible (first
 | exact Nat.zero_le _
 | decide
 | (refine Mine.arL ?_; first | fail "ARu" | (refine Mine.arR ?_; fail "ARu") | (refine Mine.arC ?_; fail "ARu") | fail "ARl")
 | (refine Mine.arN ?_; first | exact Nat.succ_ne_zero _ | fail "ARs" | fail "ARn" | (refine Ne.symm ?_; fail "ARn") | fail "ARk")
 | exact Nat.le_add_right _ 1
 | exact Nat.le_add_right _ 2
 | exact Mine.arz))
local macro_rules | `(tactic| fail "OW") => `(tactic| first | fail "AR" | omega +splitDisjunctions)
local macro_rules | `(tactic| fail "OL") => `(tactic| first | fail "AR" | (law_purse 20000 => lia) | omega +splitDisjunctions)
section
open PySem PySem.W PyProof.Rows
namespace Mine
open PySem.Builtin PySem.Builtin.Str
noncomputable def find4 (x y : PySem.Str) (i j : Int) : Int := match occurrences x y (fromIndex x.length i) (min (fromIndex x.length j) x.length) 1 with | k :: _ => (k : Int) | [] => -1
noncomputable def rfind4 (x y : PySem.Str) (i j : Int) : Int := match lastOccurrence x y (fromIndex x.length i) (min (fromIndex x.length j) x.length) with | some k => (k : Int) | none => -1
theorem gives_find4 (x y : PySem.Str) (i j : Int) (t u v v' : Tok) : Gives («str.find» ⟨[.str x t, .str y u, .int i v, .int j v'], []⟩) (.int (find4 x y i j)) := by
 show Gives (match occurrences x y (fromIndex x.length i) (min (fromIndex x.length j) x.length) 1 with | k :: _ => retInt k | [] => (do rule "str.find.not-found"; retInt (-1))) _
 unfold find4
 cases occurrences x y (fromIndex x.length i) (min (fromIndex x.length j) x.length) 1 with
 | nil => exact .rule (.of_eq rfl)
 | cons k _ => exact .of_eq rfl
theorem gives_rfind4 (x y : PySem.Str) (i j : Int) (t u v v' : Tok) : Gives («str.rfind» ⟨[.str x t, .str y u, .int i v, .int j v'], []⟩) (.int (rfind4 x y i j)) := by
 show Gives (match lastOccurrence x y (fromIndex x.length i) (min (fromIndex x.length j) x.length) with | some k => retInt k | none => (do rule "str.rfind.not-found"; retInt (-1))) _
 unfold rfind4
 cases lastOccurrence x y (fromIndex x.length i) (min (fromIndex x.length j) x.length) with
 | none => exact .rule (.of_eq rfl)
 | some k => exact .of_eq rfl
section
variable {prog : Program} {w : World} {A : Around} {E : Value → Shared → Prop} {s : Shared} {x y : PySem.Str} {t u v v' : Tok} {i j : Int} {Q : Value → Shared → Prop}
theorem call_find4 (hq : Q (.int (find4 x y i j) s.toks) { s with toks := s.toks + 1 }) : wpAny (model prog w) A (call (.builtin "str.find") [.str x t, .str y u, .int i v, .int j v']) Q E s :=
 call_gives F.slot_str_find (typeIs_str _ _ _) F.entry_str_find (F.args_str_find_4 _ _ _ _) (gives_find4 x y i j t u v v') hq
theorem call_rfind4 (hq : Q (.int (rfind4 x y i j) s.toks) { s with toks := s.toks + 1 }) : wpAny (model prog w) A (call (.builtin "str.rfind") [.str x t, .str y u, .int i v, .int j v']) Q E s :=
 call_gives F.slot_str_rfind (typeIs_str _ _ _) F.entry_str_rfind (F.args_str_rfind_4 _ _ _ _) (gives_rfind4 x y i j t u v v') hq
end
end Mine
end
section
open PySem PySem.W PyProof.Rows
namespace Mine
section
variable {prog : Program} {w : World} {A : Around} {E : Value → Shared → Prop} {s : Shared} {h₀ h h' : Heap} {L D : Addr} {m : PySem.Str → Option Value} {news news' rest : List (Addr × Obj)} {o o' : Obj} {x y : PySem.Str} {t u : Tok}
theorem delItem_K {its : Array Value} {n k : Nat} {i : Int} {Q : Unit → Shared → Prop} (F : Fr h₀ L s.heap m) (N : News h₀ L s.heap news) (U : Upd D (listOf its n) (listOf (its.eraseIdxIfInBounds k) (n + 1)) news news')
  (hk : seqIndex? i its.size = some k) (hsz : its.size ≤ 1000000) (hi : -1000000 ≤ i) (hi' : i ≤ 1000000)
  (h : ∀ h', Fr h₀ L h' m → News h₀ L h' news' → Q () { s with heap := h' }) : wpAny (model prog w) A (delItem (.ref D) (.int i u)) Q E s := by
 refine ex2 U.split fun pre post h9_17 => an4 h9_17 fun eq9_15 eq9_16 a b => ?_
 clear h9_17
 subst eq9_15
 subst eq9_16
 have z := N (D, listOf its n) (List.mem_append.mpr (.inr (.head _)))
 have hlt : k < its.size := by
  unfold seqIndex? at hk
  dsimp only at hk
  split at hk <;> split at hk <;> (first | (rename (_ && _) = true => hb; simp only [Bool.and_eq_true, decide_eq_true_eq] at hb; cases hk; (first | exact lin [_,_] [_] [(6,.v 0,.n 0),(8,.c (.v 0),.a (.v 0) (.c (.v 1)))] (0,.v 0,.v 1) [1,1,1] [] rfl (by assumption) (Int.toNat_of_nonneg (by exact lin [_] [_] [(7,.n 0,.a (.v 0) (.c (.v 0)))] (7,.n 0,.a (.v 0) (.c (.v 0))) [1,1] [] rfl hb.1)) | exact lin [_,_] [_] [(6,.v 0,.c (.v 0)),(8,.c (.v 1),.v 0)] (0,.v 1,.v 0) [1,1,1] [] rfl hb.2 (Int.toNat_of_nonneg (by exact lin [] [_] [(9,.v 0,.n 0)] (7,.n 0,.v 0) [1,1] [] rfl (by assumption))))) | cases hk)
 refine P.delItem_list (n := n) (items := its) z.1 (by simp only [Builtin.List.listFitsIndex, Bool.and_eq_true, decide_eq_true_eq]; exact ⟨lin [] [_] [(7,.g (.n 1000000),.v 0)] (7,.g (.n 9223372036854775808),.v 0) [1,1] [] rfl hi, lin [] [_] [(7,.v 0,.n 1000000)] (6,.v 0,.n 9223372036854775808) [1,1] [] rfl hi'⟩) hk ?_ (by rw [sizeLine_eq]; exact lin [_] [] [(1,.v 0,.n 1000000)] (1,.v 0,.n 16777216) [1,1] [] rfl hsz)
 have hs : Heap.SameBut D s.heap (s.heap.update D (Obj.mapSeq fun xs => xs.eraseIdxIfInBounds k)) := Heap.SameBut.update ..
 have e : (its.eraseIdxIfInBounds k).size ≠ its.size := by
  simp only [Array.eraseIdxIfInBounds, hlt, dif_pos, Array.size_eraseIdx]; exact lin [_,_] [] [(2,.a (.v 0) (.n 1),.v 1)] (5,.v 0,.v 1) [-1,1] [] rfl (Nat.sub_add_cancel (by exact lin [_,_] [] [(0,.v 0,.v 1)] (1,.n 1,.v 1) [1,1] [] rfl hlt))
 have ho : (s.heap.update D (Obj.mapSeq fun xs => xs.eraseIdxIfInBounds k)).get? D = some (listOf (its.eraseIdxIfInBounds k) (n + 1)) := by
  have e1 : Obj.mapSeq (fun xs => xs.eraseIdxIfInBounds k) (listOf its n) = listOf (its.eraseIdxIfInBounds k) (n + 1) := by
   show (⟨_, _, .seq _ (if (its.eraseIdxIfInBounds k).size == its.size then n else n + 1), _⟩ : Obj) = _
   rw [if_neg (by simpa using e)]
  rw [Heap.get?_update_self _ z.1 (by rw [e1]; rfl), e1]
 exact h _ (F.change hs z.2.1 z.2.2) (news_set N a b hs ho)
theorem item_K {value slice : PySem.Expr} {its : Array Value} {n k : Nat} {i : Int} {v : Value} {Q : Value → Shared → Prop} (N : News h₀ L s.heap news) (hm : (D, listOf its n) ∈ news)
  (hk : seqIndex? i its.size = some k) (hv : its[k]? = some v) (hi : -1000000 ≤ i) (hi' : i ≤ 1000000) (h : Q v s)
  (hs : subscripted slice false (.ref D) (.int i u) = operate [.ref D, .int i u] (getItem (.ref D) (.int i u)) := by with_unfolding_all rfl) :
  wpAny (model prog w) A (subscriptTail value slice (.ref D) (.int i u)) Q E s := by
 have hl : s.heap.IsList D its := ⟨_, (N _ hm).1, rfl, n, rfl⟩
 refine tail_any hl.typeIs slot_list_getitem.lookup ?_ hs
 by_cases h0 : 0 ≤ i
 ·refine wpAny_getItem_list hl h0 (by exact lin [] [_] [(7,.v 0,.n 1000000)] (6,.v 0,.n 9223372036854775808) [1,1] [] rfl hi') ?_ h
  have e : k = i.toNat := by
   unfold seqIndex? at hk
   dsimp only at hk
   split at hk <;> split at hk <;> (first | (rename (_ && _) = true => hb; simp only [Bool.and_eq_true, decide_eq_true_eq] at hb; cases hk; (first | exact lin [_,_] [_] [(7,.n 0,.v 0),(6,.v 0,.n 0)] (2,.v 0,.v 1) [0,1,1] [0,1,1] rfl h0 (by assumption) | exact lin [_] [] [] (2,.v 0,.v 0) [1] [1] rfl)) | cases hk)
  rw [← e]; exact hv
 ·have e : k = (i + its.size).toNat ∧ 0 ≤ i + its.size := by
   unfold seqIndex? at hk
   dsimp only at hk
   split at hk <;> split at hk <;> (first | (rename (_ && _) = true => hb; simp only [Bool.and_eq_true, decide_eq_true_eq] at hb; cases hk; (first | exact ⟨lin [_] [] [] (2,.v 0,.v 0) [1] [1] rfl , lin [_] [_] [(7,.n 0,.a (.v 0) (.c (.v 0)))] (7,.n 0,.a (.v 0) (.c (.v 0))) [1,1] [] rfl hb.1⟩ | exact ⟨lin [_,_] [_] [(10,.n 0,.v 0),(9,.v 0,.n 0)] (2,.v 0,.v 1) [0,1,1] [0,1,1] rfl h0 (by assumption), lin [_] [_] [(10,.n 0,.v 0),(9,.v 0,.n 0)] (7,.n 0,.a (.v 0) (.c (.v 0))) [0,1,1] [] rfl h0 (by assumption)⟩)) | cases hk)
  refine wpAny_getItem_list_neg hl (by exact lin [] [_] [(10,.n 0,.v 0)] (6,.v 0,.n 0) [1,1] [] rfl h0) (by exact lin [_] [_] [(7,.n 0,.a (.v 0) (.c (.v 0)))] (7,.g (.c (.v 0)),.v 0) [1,1] [] rfl e.2) (by exact lin [] [_] [(7,.g (.n 1000000),.v 0)] (7,.g (.n 9223372036854775808),.v 0) [1,1] [] rfl hi) ?_ h
  rw [← e.1]; exact hv
theorem split_K {ps : List PySem.Str} {Q : Value → Shared → Prop} (hF : Fr h₀ L s.heap m) (hN : News h₀ L s.heap news) (hs : Txt.split x y = ps) (hy : (y.length == 0) = false) (hsz : x.length ≤ 1000000)
  (h : ∀ D l h' k, l.map (·.1) = ps → Fr h₀ L h' m → News h₀ L h' ((D, listOf (strValues l).toArray 0) :: news) → (∀ p ∈ news, p.1 < D) → Q (.ref D) { s with heap := h', toks := k }) :
  wpAny (model prog w) A (call (.builtin "str.split") [.str x t, .str y u]) Q E s :=
 KSpl.split1 hF hN hy (fun D l h' k e _ F N l1 => h D l h' k (e.trans hs) F N l1) (by rw [sizeLine_eq]; exact lin [_] [] [(1,.v 0,.n 1000000)] (1,.a (.v 0) (.n 2),.n 16777216) [1,1] [] rfl hsz)
theorem strs_consM {l : List (PySem.Str × Tok)} {a : PySem.Str} {r : List PySem.Str} (e : l.map (·.1) = a :: r) : ∃ ta l', l = (a, ta) :: l' ∧ l'.map (·.1) = r := KSpl.cons_of e
theorem strs_snoc {l : List (PySem.Str × Tok)} {a : PySem.Str} {r : List PySem.Str} (e : l.map (·.1) = r ++ [a]) : ∃ l' ta, l = l' ++ [(a, ta)] ∧ l'.map (·.1) = r := by
 refine ex2 (List.map_eq_append_iff.mp e) fun l1 l2 h9_19 => an3 h9_19 fun eq9_18 h1 h2 => ?_
 clear h9_19
 subst eq9_18
 refine ex2 (strs_consM h2) fun ta l' h9_21 => an2 h9_21 fun eq9_20 h3 => ?_
 clear h9_21
 subst eq9_20
 obtain rfl := KSpl.nil_of h3
 exact ⟨l1, ta, rfl, h1⟩
theorem em_split {w0 w1 : PySem.Str} {mid : List PySem.Str} {Q : Value → Shared → Prop} (hF : Fr h₀ L s.heap m) (hN : News h₀ L s.heap news) (hs : Txt.split x y = w0 :: (mid ++ [w1])) (hy : (y.length == 0) = false) (hsz : x.length ≤ 1000) (hmid : mid.length ≤ 1000)
  (h : ∀ D lm t0 t1 h' k, lm.map (·.1) = mid → lm.length ≤ 1000 → Fr h₀ L h' m → News h₀ L h' ((D, listOf ((Value.str w0 t0 :: strValues lm) ++ [Value.str w1 t1]).toArray 0) :: news) → AllLt D news → Q (.ref D) { s with heap := h', toks := k }) :
  wpAny (model prog w) A (call (.builtin "str.split") [.str x t, .str y u]) Q E s := by
 refine split_K hF hN hs hy (by exact lin [_] [] [(1,.v 0,.n 1000)] (1,.v 0,.n 1000000) [1,1] [] rfl hsz) fun D l h' k e F N l1 => ?_
 refine ex2 (strs_consM e) fun t0 l' h9_23 => an2 h9_23 fun eq9_22 e1 => ?_
 clear h9_23
 subst eq9_22
 refine ex2 (strs_snoc e1) fun lm t1 h9_25 => an2 h9_25 fun eq9_24 e3 => ?_
 clear h9_25
 subst eq9_24
 refine h D lm t0 t1 h' k e3 (by rw [← List.length_map (f := fun x => x.1) (as := lm), e3]; exact hmid) F ?_ (allLt_of l1)
 have e2 : strValues ((w0, t0) :: (lm ++ [(w1, t1)])) = (Value.str w0 t0 :: strValues lm) ++ [Value.str w1 t1] := by simp [strValues]
 rw [← e2]; exact N
theorem len_KM {its : Array Value} {n : Nat} {Q : Value → Shared → Prop} (N : News h₀ L s.heap news) (hm : (D, listOf its n) ∈ news) (hsz : its.size ≤ 1000000) (h : Q (.int its.size (s.toks + 1)) { s with toks := s.toks + 1 + 1 }) :
  wpAny (model prog w) A (call (.builtin "len") [.ref D]) Q E s :=
 PySem.Calls.call_len_list ⟨_, (N _ hm).1, rfl, n, rfl⟩ (by exact lin [_] [] [(1,.v 0,.n 1000000)] (6,.c (.v 0),.n 9223372036854775808) [1,1] [] rfl hsz) h
theorem seqIndex_last (r : List Value) (v : Value) : seqIndex? (-1) (r ++ [v]).toArray.size = some r.length := by
 have e : (r ++ [v]).toArray.size = r.length + 1 := by simp
 rw [e]
 have h := seqIndex_back (i := -1) (n := r.length + 1) (by decide) (by exact lin [_] [] [] (7,.n 0,.a (.g (.n 1)) (.c (.a (.v 0) (.n 1)))) [1] [] rfl)
 rw [h]
 exact congrArg some (by exact lin [_,_] [] [(8,.c (.v 0),.a (.g (.n 1)) (.c (.a (.v 1) (.n 1))))] (2,.v 0,.v 1) [1,1] [1,-1] rfl (Int.toNat_of_nonneg (by exact lin [_] [] [] (7,.n 0,.a (.g (.n 1)) (.c (.a (.v 0) (.n 1)))) [1] [] rfl )))
theorem seqIndex_first (r : List Value) (v : Value) : seqIndex? 0 (v :: r).toArray.size = some 0 := by
 have h := seqIndex_at (i := 0) (n := (v :: r).toArray.size) (by decide) (by simp only [List.size_toArray, List.length_cons]; exact lin [_] [] [] (6,.n 0,.c (.a (.v 0) (.n 1))) [1] [] rfl)
 rw [h]
 rfl
theorem delItem_first {v : Value} {r : List Value} {n : Nat} {Q : Unit → Shared → Prop} (F : Fr h₀ L s.heap m) (N : News h₀ L s.heap news) (U : Upd D (listOf (v :: r).toArray n) (listOf r.toArray (n + 1)) news news')
  (hsz : r.length ≤ 10000) (h : ∀ h', Fr h₀ L h' m → News h₀ L h' news' → Q () { s with heap := h' }) : wpAny (model prog w) A (delItem (.ref D) (.int 0 u)) Q E s := by
 refine delItem_K (its := (v :: r).toArray) (n := n) (k := 0) F N ?_ (seqIndex_first r v) (by simp only [List.size_toArray, List.length_cons]; exact lin [_] [] [(1,.v 0,.n 10000)] (1,.a (.v 0) (.n 1),.n 1000000) [1,1] [] rfl hsz) (by decide) (by decide) h
 have e : (v :: r).toArray.eraseIdxIfInBounds 0 = r.toArray := by simp [Array.eraseIdxIfInBounds]
 rw [e]; exact U
theorem delItem_first2 {v z : Value} {r : List Value} {n : Nat} {Q : Unit → Shared → Prop} (F : Fr h₀ L s.heap m) (N : News h₀ L s.heap news) (U : Upd D (listOf ((v :: r) ++ [z]).toArray n) (listOf (r ++ [z]).toArray (n + 1)) news news')
  (hsz : r.length ≤ 1000) (h : ∀ h', Fr h₀ L h' m → News h₀ L h' news' → Q () { s with heap := h' }) : wpAny (model prog w) A (delItem (.ref D) (.int 0 u)) Q E s :=
 delItem_first (v := v) (r := r ++ [z]) F N U (by simp only [List.length_append, List.length_cons, List.length_nil]; exact lin [_] [] [(1,.v 0,.n 1000)] (1,.a (.v 0) (.a (.n 0) (.n 1)),.n 10000) [1,1] [] rfl hsz) h
theorem delItem_last {v : Value} {r : List Value} {n : Nat} {Q : Unit → Shared → Prop} (F : Fr h₀ L s.heap m) (N : News h₀ L s.heap news) (U : Upd D (listOf (r ++ [v]).toArray n) (listOf r.toArray (n + 1)) news news')
  (hsz : r.length ≤ 10000) (h : ∀ h', Fr h₀ L h' m → News h₀ L h' news' → Q () { s with heap := h' }) : wpAny (model prog w) A (delItem (.ref D) (.int (-1) u)) Q E s := by
 refine delItem_K (its := (r ++ [v]).toArray) (n := n) (k := r.length) F N ?_ (seqIndex_last r v) (by simp only [List.size_toArray, List.length_append, List.length_cons, List.length_nil]; exact lin [_] [] [(1,.v 0,.n 10000)] (1,.a (.v 0) (.a (.n 0) (.n 1)),.n 1000000) [1,1] [] rfl hsz) (by decide) (by decide) h
 have e : (r ++ [v]).toArray.eraseIdxIfInBounds r.length = r.toArray := by
  simp only [Array.eraseIdxIfInBounds, List.size_toArray, List.length_append, List.length_cons, List.length_nil]
  rw [dif_pos (by exact lin [_] [] [] (0,.v 0,.a (.v 0) (.a (.n 0) (.n 1))) [1] [] rfl)]
  simp [List.eraseIdx_append_of_length_le]
 rw [e]; exact U
theorem item_lastM {value slice : PySem.Expr} {v : Value} {r : List Value} {n : Nat} {Q : Value → Shared → Prop} (N : News h₀ L s.heap news) (hm : (D, listOf (r ++ [v]).toArray n) ∈ news) (h : Q v s)
  (hs : subscripted slice false (.ref D) (.int (-1) u) = operate [.ref D, .int (-1) u] (getItem (.ref D) (.int (-1) u)) := by with_unfolding_all rfl) :
  wpAny (model prog w) A (subscriptTail value slice (.ref D) (.int (-1) u)) Q E s :=
 item_K N hm (seqIndex_last r v) (by simp) (by decide) (by decide) h hs
theorem item_two {value slice : PySem.Expr} {v : Tok} {n : Nat} {i : Int} {Q : Value → Shared → Prop} (N : News h₀ L s.heap news) (hm : (D, listOf #[Value.str x t, Value.str y u] n) ∈ news) (h0 : 0 ≤ i) (h1 : i < 2) (h : ∀ tk, Q (.str (if i = 0 then x else y) tk) s)
  (hs : subscripted slice false (.ref D) (.int i v) = operate [.ref D, .int i v] (getItem (.ref D) (.int i v)) := by with_unfolding_all rfl) :
  wpAny (model prog w) A (subscriptTail value slice (.ref D) (.int i v)) Q E s := by
 by_cases hi : i = 0
 ·subst hi
  have h := h t
  rw [if_pos rfl] at h
  exact item_K N hm (k := 0) (seqIndex_at (by decide) (by simp)) rfl (by decide) (by decide) h hs
 ·have e : i = 1 := by exact (Int.lt_or_gt_of_ne hi).elim (fun q0 => lin [] [_] [(7,.n 0,.v 0),(6,.v 0,.n 2),(6,.v 0,.n 0)] (8,.v 0,.n 1) [1,0,1,0] [0,1,0,1] rfl h0 h1 q0) fun q0 => lin [] [_] [(6,.v 0,.n 2),(6,.n 0,.v 0)] (8,.v 0,.n 1) [1,1,0] [1,0,1] rfl h1 q0
  subst e
  have h := h u
  rw [if_neg hi] at h
  exact item_K N hm (k := 1) (seqIndex_at (by decide) (by simp)) rfl (by decide) (by decide) h hs
theorem item_twoB (B : Nat) {value slice : PySem.Expr} {v : Tok} {n : Nat} {i : Int} {Q : Value → Shared → Prop} (N : News h₀ L s.heap news) (hm : (D, listOf #[Value.str x t, Value.str y u] n) ∈ news) (h0 : 0 ≤ i) (h1 : i < 2) (hx : x.length ≤ B) (hy : y.length ≤ B)
  (h : ∀ z tk, z = (if i = 0 then x else y) → z.length ≤ B → Q (.str z tk) s)
  (hs : subscripted slice false (.ref D) (.int i v) = operate [.ref D, .int i v] (getItem (.ref D) (.int i v)) := by with_unfolding_all rfl) :
  wpAny (model prog w) A (subscriptTail value slice (.ref D) (.int i v)) Q E s :=
 item_two N hm h0 h1 (fun tk => h _ tk rfl (by split <;> assumption)) hs
theorem mul_B (B : Nat) {i : Int} {Q : Value → Shared → Prop} (hk : x.length = 1) (h0 : 0 ≤ i) (h1 : i < B) (hB : B ≤ 1000) (h : ∀ t' k, (Txt.mul x i).length ≤ B → Q (.str (Txt.mul x i) t') { s with toks := k }) :
  wpAny (model prog w) A (binaryOp .Mult (.str x t) (.int i u)) Q E s :=
 KXi.mul (n := 1) hk (by decide) (by exact lin [] [_] [(7,.n 0,.v 0)] (7,.g (.n 9223372036854775808),.v 0) [1,1] [] rfl h0) (by exact lin [_] [_] [(6,.v 0,.c (.v 0)),(1,.v 0,.n 1000)] (7,.v 0,.c (.n 1048576)) [1,1,1] [] rfl h1 hB) fun t' k _ h2 => h t' k (by have := h2 h0; omega)
theorem strInt_B {i : Int} {Q : Value → Shared → Prop} (h0 : 0 ≤ i) (h1 : i < 10 ^ 10) (h : ∀ t' k, (PySem.Str.ofString (toString i)).length ≤ 10 → Q (.str (PySem.Str.ofString (toString i)) t') { s with toks := k }) :
  wpAny (model prog w) A (call (.type "str") [.int i t]) Q E s :=
 P.str_of_int (by
  have e : i.natAbs.log2 < 34 := by
   by_cases hz : i.natAbs = 0
   ·rw [hz]; decide
   ·exact (Nat.log2_lt hz).mpr (by exact lin [_] [_] [(6,.v 0,.n 10000000000),(8,.c (.v 0),.v 0)] (0,.v 0,.n 17179869184) [1,1,1] [] rfl h1 (Int.natAbs_of_nonneg (by exact lin [] [_] [(7,.n 0,.v 0)] (7,.n 0,.v 0) [1,1] [] rfl h0)))
  exact lin [_] [] [(0,.v 0,.n 34)] (0,.v 0,.n 1920) [1,1] [] rfl e) (h _ _ (KT.len_num h0 h1))
end
end Mine
end
section
open PySem PySem.W PyProof.Rows
namespace Mine
theorem pa_re : PlainAttrs "re.Pattern" := ⟨⟨"object.__getattribute__", by rw [typeLookup_type, builtinLookup_eq_fast]; kernel_rfl, by decide +kernel⟩, by rw [typeLookup_type, builtinLookup_eq_fast]; kernel_rfl⟩
theorem slot_re_search : Slot "re.Pattern" "search" "re.Pattern.search" :=
 .of (owner := "re.Pattern") (n := "search") (by rw [typeLookup_type, builtinLookup_eq_fast]; kernel_rfl) (by decide +kernel) (by decide +kernel) (by decide +kernel)
  (by first | exact .inl (by decide +kernel) | exact .inr (by decide +kernel)) (by rw [isSubtype_type]; kernel_rfl)
theorem type_re_search : typeOf (.builtin "re.Pattern.search") = pure (.type "method_descriptor") := by show builtinType _ = _; rw [builtinType_eq_fast]; kernel_rfl
theorem entry_re_search : entryFor table "re.Pattern.search" = some Builtin.«re.Pattern.search» := entryFor_of_tree (by kernel_rfl)
theorem args_re_search (a b : Value) : argsOk "re.Pattern.search" ⟨[a, b], []⟩ := by
 unfold argsOk; kernel_rfl
end Mine
end
section
open PySem PySem.W PyProof.Rows
namespace Mine
open PySem.Builtin PySem.Builtin.Re PySem.Sre
noncomputable def codeN : Array Nat := #[14, 10, 4, 1, 1, 22, 0, 31, 16, 127, 0, 13, 7, 22, 0, 31, 16, 127, 0, 1]
noncomputable def codeV : Array Nat := #[14, 14, 4, 1, 1, 9, 4294966783, 0, 0, 2147483648, 0, 0, 0, 0, 0, 13, 11, 9, 4294966783, 0, 0, 2147483648, 0, 0, 0, 0, 0, 1]
theorem inSet_N (c : Nat) (h0 : 32 ≤ c) (h1 : c < 127) (seen : Sre.Seen) : ∃ seen', inSet codeN c codeN.size 5 true seen = .ok (false, seen') := by
 show ∃ seen', inSet codeN c (17 + 1 + 1 + 1) 5 true seen = .ok (false, seen')
 have e1 : (codeN.getD (5 + 1) 0 ≤ c && c ≤ codeN.getD (5 + 2) 0) = false := by
  show (decide (0 ≤ c) && decide (c ≤ 31)) = false
  simp; exact lin [_] [] [(1,.n 32,.v 0)] (0,.n 31,.v 0) [1,1] [] rfl h0
 have e2 : (c == codeN.getD (5 + 3 + 1) 0) = false := by
  show (c == 127) = false
  simp; exact lin [_] [] [(0,.v 0,.n 127)] (5,.v 0,.n 127) [-1,1] [] rfl h1
 have s3 : inSet codeN c (17 + 1) (5 + 3 + 2) true ((seen.add (codeN.getD (5 + 0) 0)).add (codeN.getD (5 + 3 + 0) 0)) = .ok (!true, ((seen.add (codeN.getD (5 + 0) 0)).add (codeN.getD (5 + 3 + 0) 0)).add (codeN.getD (5 + 3 + 2 + 0) 0)) := rfl
 have s2 : inSet codeN c (17 + 1 + 1) (5 + 3) true (seen.add (codeN.getD (5 + 0) 0)) = (if (c == codeN.getD (5 + 3 + 1) 0) = true then .ok (true, (seen.add (codeN.getD (5 + 0) 0)).add (codeN.getD (5 + 3 + 0) 0)) else inSet codeN c (17 + 1) (5 + 3 + 2) true ((seen.add (codeN.getD (5 + 0) 0)).add (codeN.getD (5 + 3 + 0) 0))) := rfl
 have s1 : inSet codeN c (17 + 1 + 1 + 1) 5 true seen = (if (codeN.getD (5 + 1) 0 ≤ c && c ≤ codeN.getD (5 + 2) 0) = true then .ok (true, seen.add (codeN.getD (5 + 0) 0)) else inSet codeN c (17 + 1 + 1) (5 + 3) true (seen.add (codeN.getD (5 + 0) 0))) := rfl
 rw [s1, e1, if_neg Bool.false_ne_true, s2, e2, if_neg Bool.false_ne_true, s3]
 exact ⟨_, rfl⟩
theorem inSet_V (c : Nat) (h0 : 32 ≤ c) (h1 : c < 127) (seen : Sre.Seen) : ∃ seen', inSet codeV c codeV.size 5 true seen = .ok (false, seen') := by
 show ∃ seen', inSet codeV c (26 + 1 + 1) 5 true seen = .ok (false, seen')
 have e1 : (c < 256 && (codeV.getD (5 + (1 + c / 32)) 0).testBit (c % 32)) = false := (by decide +kernel : ∀ c, c < 127 → 32 ≤ c → (decide (c < 256) && (codeV.getD (5 + (1 + c / 32)) 0).testBit (c % 32)) = false) c h1 h0
 have s1 : inSet codeV c (26 + 1 + 1) 5 true seen = (if (c < 256 && (codeV.getD (5 + (1 + c / 32)) 0).testBit (c % 32)) = true then .ok (true, seen.add (codeV.getD (5 + 0) 0)) else inSet codeV c (26 + 1) (5 + 9) true (seen.add (codeV.getD (5 + 0) 0))) := rfl
 have s2 : inSet codeV c (26 + 1) (5 + 9) true (seen.add (codeV.getD (5 + 0) 0)) = .ok (!true, (seen.add (codeV.getD (5 + 0) 0)).add (codeV.getD (5 + 9 + 0) 0)) := rfl
 rw [s1, e1, if_neg Bool.false_ne_true, s2]
 exact ⟨_, rfl⟩
noncomputable def Plain (x : PySem.Str) : Prop := ∀ c ∈ x.cps.toList, 32 ≤ c ∧ c < 127
theorem admitted_none {m : Sre.M} (hset : ∀ c, 32 ≤ c → c < 127 → ∀ seen, ∃ seen', inSet m.code c m.code.size 5 true seen = .ok (false, seen')) (hl : m.lim = m.text.size) (ht : ∀ c ∈ m.text.toList, 32 ≤ c ∧ c < 127) :
  ∀ (fuel s : Nat) (seen : Sre.Seen), ∃ seen', Sre.M.admitted m fuel s seen = .ok (none, seen')
 | 0, _, seen => ⟨seen, rfl⟩
 | fuel + 1, s, seen => by
  unfold Sre.M.admitted
  by_cases hs : s ≥ m.lim
  ·rw [if_pos hs]; exact ⟨_, rfl⟩
  ·rw [if_neg hs]
   have hlt : s < m.text.size := by exact lin [_,_,_] [] [(2,.v 0,.v 1),(4,.v 0,.v 2)] (0,.v 2,.v 1) [1,1,1] [] rfl hl hs
   have hmem : m.text.getD s 0 ∈ m.text.toList := by
    rw [Array.getD_eq_getD_getElem?, Array.getElem?_eq_getElem hlt]
    exact Array.getElem_mem_toList ..
   refine ex1 (hset _ (ht _ hmem).1 (ht _ hmem).2 seen) fun seen' e => ?_
   rw [e]
   exact admitted_none hset hl ht fuel (s + 1) seen'
theorem runFor_failed {m : Sre.M} (h1 : m.outcome = none) (h2 : m.answer = some false) (h3 : m.frames = []) : (m.runFor 4).outcome = some .failed := by
 have hs : m.step = { m with outcome := some .failed } := by
  unfold Sre.M.step
  rw [h1, h2, h3]
  rfl
 show (Sre.M.runFor (3 + 1) m).outcome = _
 unfold Sre.M.runFor
 rw [h1]
 show (Sre.M.runFor 3 m.step).outcome = _
 rw [hs]
 rfl
theorem attemptFrom_none {m : Sre.M} (hset : ∀ c, 32 ≤ c → c < 127 → ∀ seen, ∃ seen', inSet m.code c m.code.size 5 true seen = .ok (false, seen')) (hl : m.lim = m.text.size) (ht : ∀ c ∈ m.text.toList, 32 ≤ c ∧ c < 127) (hf : m.hasFirstSet = true) (h1 : m.outcome = none) (h3 : m.frames = []) (s : Nat) :
  (m.attemptFrom s true).outcome = none ∧ (m.attemptFrom s true).answer = some false ∧ (m.attemptFrom s true).frames = [] := by
 refine ex1 (admitted_none hset hl ht (m.lim + 1 - s) s m.seen) fun seen' e => ?_
 have e2 : m.attemptFrom s true = ({ m with seen := seen' } : Sre.M).say false := by
  unfold Sre.M.attemptFrom
  rw [hf, e]
  rfl
 rw [e2]
 exact ⟨h1, rfl, h3⟩
theorem forSearch_failed {code text : Array Nat} (hset : ∀ c, 32 ≤ c → c < 127 → ∀ seen, ∃ seen', inSet code c code.size 5 true seen = .ok (false, seen')) (ht : ∀ c ∈ text.toList, 32 ≤ c ∧ c < 127) (hf : ((match ops[code.getD 0 0]? with | some .INFO => true | _ => false) && code.getD 2 0 == 4) = true) :
  (forSearch code text 0 0 text.size false).outcome = none ∧ (forSearch code text 0 0 text.size false).answer = some false ∧ (forSearch code text 0 0 text.size false).frames = [] := by
 unfold forSearch
 dsimp only
 split
 ·exact ⟨rfl, rfl, rfl⟩
 ·refine attemptFrom_none hset ?_ ht ?_ ?_ ?_ 0
  ·rfl
  ·exact hf
  ·rfl
  ·rfl
end Mine
end
section
open PySem PySem.W PyProof.Rows
namespace Mine
open PySem.Builtin PySem.Builtin.Re PySem.Sre
section
variable {M : Model} {A : Around} {E : Value → Shared → Prop} {s : Shared}
theorem wpAny_rulesIf (c : Nat → Bool) (nm : Nat → String) {Q : PUnit → Shared → Prop} (h : Q ⟨⟩ s) : ∀ l : List Nat, wpAny M A (forIn l PUnit.unit fun i _ => (if c i = true then (do rule (nm i); pure (ForInStep.yield PUnit.unit)) else pure (ForInStep.yield PUnit.unit) : Sem (ForInStep PUnit))) Q E s
 | [] => by
  show wpAny M A (pure PUnit.unit) Q E s
  exact wpAny_pure h
 | i :: r => by
  rw [List.forIn_cons]
  refine wpAny_bind ?_
  split
  ·refine wpAny_bind (wpAny_rule (wpAny_pure ?_))
   exact wpAny_rulesIf c nm h r
  ·exact wpAny_pure (wpAny_rulesIf c nm h r)
theorem wpAny_reRunToEnd_failed {m : Sre.M} {Q : Option Sre.M → Shared → Prop} (h1 : m.outcome = none) (h2 : m.answer = some false) (h3 : m.frames = []) (h : Q none s) : wpAny M A (reRunToEnd m) Q E s := by
 have hr := runFor_failed h1 h2 h3
 have e : reDrive (2 ^ 64) m = pure (m.runFor 4) := by
  have e0 : (2 : Nat) ^ 64 = 18446744073709551615 + 1 := by decide
  rw [e0]
  show (if (m.runFor reTurnSteps).outcome.isSome = true then pure (m.runFor reTurnSteps) else _) = _
  rw [show reTurnSteps = 4 from rfl, hr]
  rfl
 unfold reRunToEnd
 refine wpAny_bind ?_
 rw [e]
 refine wpAny_pure (wpAny_bind ?_)
 refine wpAny_mono (wpAny_rulesIf (fun i => (m.runFor 4).seen.has i) (fun i => Sre.names.getD i "") (Q := fun _ s' => s' = s) rfl (List.range Sre.names.size)) (fun _ s' hs => ?_) (fun _ _ e => e)
 subst hs
 rw [hr]
 exact wpAny_pure h
end
section
variable {prog : Program} {w : World} {A : Around} {E : Value → Shared → Prop} {s : Shared}
structure PatAt (h : Heap) (p cl : Addr) (code : Array Nat) : Prop where
 pat : ∃ o fs, h.get? p = some o ∧ o.cls = .type "re.Pattern" ∧ o.data = .fields fs ∧ reRawNat (fs.getD 6 .none) = 0 ∧ reRawNat (fs.getD 2 .none) = 0 ∧ fs.getD 5 .none = .ref cl
 code : ∃ o cs n, h.get? cl = some o ∧ o.data = .seq cs n ∧ (cs.map reRawOf).map (·.toNat) = code
theorem search_none {p cl : Addr} {code : Array Nat} {x : PySem.Str} {t : Tok} {Q : Value → Shared → Prop} (hp : PatAt s.heap p cl code) (hset : ∀ c, 32 ≤ c → c < 127 → ∀ seen, ∃ seen', inSet code c code.size 5 true seen = .ok (false, seen'))
  (hf : ((match ops[code.getD 0 0]? with | some .INFO => true | _ => false) && code.getD 2 0 == 4) = true) (hx : Plain x) (hl : x.length ≤ 1000000) (h : Q .none s) :
  wpAny (model prog w) A (call (.builtin "re.Pattern.search") [.ref p, .str x t]) Q E s := by
 obtain ⟨⟨o, fs, ho, hc, hd, h6, h2, h5⟩, ⟨oc, cs, n, hoc, hdc, hcode⟩⟩ := hp
 refine wpAny_call (codeAny_call_builtin slot_re_search.plain entry_re_search (slot_re_search.check _ _ _ _ _ _ _ _ ⟨o, ho, hc⟩ (args_re_search _ _) ?_))
 have e1 : reNamed "re.Pattern.search" "search" ["string", "pos", "endpos"] 1 [.str x t] [] = pure [some (.str x t), none, none] := rfl
 show wpAny _ _ (reTarget "re.Pattern.search" "search" ⟨[.ref p, .str x t], []⟩ >>= fun t => reAnswer t (Sre.forSearch t.code t.text t.groups t.pos t.lim false)) _ _ s
 refine wpAny_bind ?_
 unfold reTarget
 dsimp only
 rw [e1]
 refine wpAny_bind (wpAny_pure ?_)
 refine wpAny_bind (wpAny_pure ?_)
 refine wpAny_bind (wpAny_pure ?_)
 refine wpAny_bind (wpAny_fieldsOf ho hd ?_)
 refine wpAny_bind (m := reTextOf _) (wpAny_bind (m := asStr? _) (wpAny_pure (wpAny_pure ?_)))
 dsimp only
 rw [h6, h5, h2]
 refine wpAny_bind (wpAny_pure ?_)
 refine wpAny_bind (m := reRawItems _) (wpAny_bind (wpAny_seqItems hoc hdc (wpAny_pure ?_)))
 refine wpAny_pure ?_
 dsimp only
 have hsz : x.cps.size ≤ 1000000 := hl
 have m1 : min (Int.toNat 0) x.cps.size = 0 := by show min 0 _ = 0; exact lin [_] [] [(2,.v 0,.n 0)] (2,.v 0,.n 0) [1,1] [1,-1] rfl (Nat.min_eq_left (by exact lin [_] [] [] (1,.n 0,.v 0) [1] [] rfl ))
 have m2 : min ((2 : Int) ^ 63 - 1).toNat x.cps.size = x.cps.size := Nat.min_eq_right (Nat.le_trans hsz (by decide))
 rw [m1, m2, show (some cs).getD #[] = cs from rfl, hcode]
 refine an3 (forSearch_failed (text := x.cps) hset hx hf) fun r1 r2 r3 => ?_
 unfold reAnswer
 refine wpAny_bind (wpAny_reRunToEnd_failed r1 r2 r3 ?_)
 exact wpAny_pure h
end
section
variable {M : Model} {A : Around} {E : Value → Shared → Prop} {s : Shared} {K : Frag} {h : Heap} {p cl : Addr} {o oc : Obj} {fs cs : Array Value} {n : Nat} {code : Array Nat}
theorem pat_K (X : K.In h) (hl : K.lookup p = some o) (hl2 : K.lookup cl = some oc) (hc : o.cls = .type "re.Pattern") (hd : o.data = .fields fs) (h6 : reRawNat (fs.getD 6 .none) = 0) (h2 : reRawNat (fs.getD 2 .none) = 0) (h5 : fs.getD 5 .none = .ref cl)
  (hd2 : oc.data = .seq cs n) (hcode : (cs.map reRawOf).map (·.toNat) = code) : PatAt h p cl code := ⟨⟨o, fs, X _ _ hl, hc, hd, h6, h2, h5⟩, ⟨oc, cs, n, X _ _ hl2, hd2, hcode⟩⟩
theorem re_method {pl : Sem Bool} {Q : Value × List Value → Shared → Prop} (X : K.In s.heap) (hl : K.lookup p = some o) (hc : o.cls = .type "re.Pattern") (hdn : o.dict = none) (h : Q (.builtin "re.Pattern.search", [.ref p]) s) :
  wpAny M A (getMethod (.ref p) "search" pl) Q E s :=
 getMethod_builtin ⟨o, X _ _ hl, hc⟩ pa_re slot_re_search type_re_search (fun a e => by cases e; exact ⟨o, X _ _ hl, hdn⟩) h
end
end Mine
end
section
open PySem PySem.W PyProof.Rows
namespace Mine
section
variable {prog : Program} {w : World} {A : Around} {E : Value → Shared → Prop} {s : Shared} {env : Env} {h₀ : Heap} {body : List Stmt} {Q : Flow → Shared → Prop}
theorem kt_list {elts : List PySem.Expr} {k : Nat} {tpos : Pos} {l : Addr} {vs : List Value} {nn : Nat} {m₀ : PySem.Str → Option Value} {news : List (Addr × Obj)} (J : Nat → (PySem.Str → Option Value) → List (Addr × Obj) → Prop)
  (hh : A.handled = none) (hl : (l, listOf vs.toArray nn) ∈ news) (F : Fr h₀ env.locals s.heap m₀) (N : News h₀ env.locals s.heap news) (hj : J 0 m₀ news)
  (turn : ∀ i v m₁ news₁ h tk own, vs[i]? = some v → OwnOff own (news₁.map (·.1)) → (l, listOf vs.toArray nn) ∈ news₁ → J i m₁ news₁ → Fr h₀ env.locals h m₁ → News h₀ env.locals h (news₁ ++ own) →
   wpAny (model prog w) A (assign (.Tuple elts k tpos) env v) (fun _ s₃ => wpAny (model prog w) A (execs body env) (InvPostG h₀ env.locals (fun m' nx => (l, listOf vs.toArray nn) ∈ nx ∧ J (i + 1) m' nx) own { s with heap := h, toks := tk } Q) E s₃) E { s with heap := h, toks := tk })
  (done : ∀ m₁ news₁ h tk, J vs.length m₁ news₁ → Fr h₀ env.locals h m₁ → News h₀ env.locals h news₁ → Q .next { s with heap := h, toks := tk }) :
  wpAny (model prog w) A (pyIter (.ref l)) (fun it s₂ => TurnsAt prog w A h₀ env (.Tuple elts k tpos) body Q E it s₂) E s := by
 have hol : s.heap.get? l = some (listOf vs.toArray nn) := (N _ hl).1
 have hls : s.heap.IsList l vs.toArray := ⟨_, hol, rfl, nn, rfl⟩
 have hlt : l < s.heap.objs.size := Heap.lt_size hol
 refine wpAny_pyIter_list hls ?_
 have W := Walks.list (prog := prog) (w := w) hh s.heap.objs.size l (Nat.ne_of_lt hlt) vs.toArray
 rw [show vs.toArray.size = vs.length by simp] at W
 have W' := KTurns.ofWalks (target := .Tuple elts k tpos) W (fun i v s' Q' E' st hQ' => by cases v <;> first | exact wpAny_letOwnedTupleGo_listiter st.1 hQ' | exact wpAny_pure hQ')
 have nI : h₀.get? s.heap.objs.size = none := next_is_new F
 refine ⟨_, _, _, vs.length, _, _, _, m₀, news, (fun i m nx => (l, listOf vs.toArray nn) ∈ nx ∧ J i m nx), rfl, W', ?_, ?_, ?_, ⟨⟨_, Heap.get?_push_size _ rfl, rfl, rfl⟩, hls.at fun o e => Heap.get?_push_of_some _ e⟩, F.push _, (fun p hp => ⟨Heap.get?_push_of_some _ (N p hp).1, (N p hp).2⟩), ⟨hl, hj⟩, ?_, ?_⟩
 ·intro hm
  simp only [List.mem_cons, List.not_mem_nil, or_false] at hm
  rcases hm with e | e
  ·exact absurd F.ns.lt (e ▸ Nat.lt_irrefl _)
  ·exact (N _ hl).2.1 e.symm
 ·intro b hb
  rw [List.mem_singleton.mp hb]
  exact nI
 ·intro p hp hI
  exact absurd (Heap.lt_size (N p hp).1) ((List.mem_singleton.mp hI) ▸ Nat.lt_irrefl _)
 ·rintro i v m₁ news₁ hh' tk' own hin hP ⟨hl₁, hJ⟩ hoff hown hget hfp hst F₁ N₁
  have hP' : vs[i]? = some v := by simpa using hP
  refine an2 (id hst) fun hn9_3 _ => ?_
  obtain ⟨oI, hoI, _⟩ := hn9_3
  have hIown : (s.heap.objs.size, oI) ∈ own.filter fun p => decide (p.1 = s.heap.objs.size) := List.mem_filter.mpr ⟨hfp _ (by simp) nI _ hoI, by simp⟩
  have hsep : OwnOff (own.filter fun p => decide (p.1 = s.heap.objs.size)) (news₁.map (·.1)) := by
   intro p hp b hb e
   refine ex1 (List.mem_map.mp hb) fun q h9_5 => an2 h9_5 fun hq eq9_4 => ?_
   clear h9_5
   subst eq9_4
   have h1 : p.1 = s.heap.objs.size := by simpa using (List.mem_filter.mp hp).2
   exact hoff q hq (List.mem_singleton.mpr (e ▸ h1))
  have N₂ : News h₀ env.locals hh' (news₁ ++ own.filter fun p => decide (p.1 = s.heap.objs.size)) := fun p hp => N₁ p ((List.mem_append.mp hp).elim (fun h => List.mem_append.mpr (.inr h)) fun h => List.mem_append.mpr (.inl (List.mem_filter.mp h).1))
  have hlo : hh'.get? l = some (listOf vs.toArray nn) := (N₁ _ (List.mem_append.mpr (.inr hl₁))).1
  refine wpAny_mono (turn i v m₁ news₁ hh' tk' _ hP' hsep hl₁ hJ F₁ N₂) (fun _ s₃ h₃ => wpAny_mono h₃ (fun f s₂ p => ?_) fun _ _ e => e) fun _ _ e => e
  have fin : InvEndG h₀ env.locals (fun m' nx => (l, listOf vs.toArray nn) ∈ nx ∧ J (i + 1) m' nx) (own.filter fun p => decide (p.1 = s.heap.objs.size)) { s with heap := hh', toks := tk' } s₂ →
    LoopStepU h₀ env.locals [s.heap.objs.size] own (fun m nx => (l, listOf vs.toArray nn) ∈ nx ∧ J (i + 1) m nx) { s with heap := hh', toks := tk' } .next s₂ := by
   intro hI9_1
   refine ex5 hI9_1 fun h' tk m' news' nx h9_6 => an7 h9_6 fun e F' N' hn ho ha hm => ?_
   clear h9_6
   try clear hI9_1
   refine ⟨rfl, h', tk, m', nx, e, F', fun p hp => ?_, fun p hp hq => ?_, hm⟩
   ·rcases List.mem_append.mp hp with h | h
    ·by_cases hI : p.1 = s.heap.objs.size
     ·exact N' p (ho p (List.mem_filter.mpr ⟨h, by simpa using hI⟩))
     ·have h1 : p.1 = l := by
       have := hown p h
       simp only [List.mem_cons, List.not_mem_nil, or_false] at this
       exact this.resolve_left hI
      have h2 : hh'.get? p.1 = some p.2 := hget p h
      rw [h1, hlo] at h2
      have h3 : p = (l, listOf vs.toArray nn) := Prod.ext h1 (Option.some.inj h2).symm
      rw [h3]
      exact N' _ (hn _ hm.1)
    ·exact N' p (hn p h)
   ·exact ha _ hIown p.1 (List.mem_map.mpr ⟨p, hp, rfl⟩) (List.mem_singleton.mp hq).symm
  cases f with
  | ret v => exact .ret p
  | brk => exact .brk p
  | next => exact .next (fin p)
  | cont => exact .cont (fin p)
 ·intro h' tk m' news' F' N' _ hI9_2
  refine an2 hI9_2 fun _ hJ => ?_
  try clear hI9_2
  exact done m' news' h' tk hJ F' N'
end
end Mine
end
section
open PySem PySem.W PySem.Spec PySem.Calls PyProof.Rows
namespace Mine
noncomputable def Hold (p : Prop) : Prop := p
theorem Hold.un {p : Prop} (h : Hold p) : p := h
theorem Hold.mk {p : Prop} (h : p) : Hold p := h
theorem cellOff {L : Nat} {l : List (Addr × Obj)} (h : AllLt L l) : ∀ p ∈ l, p.1 ≠ L + 1 := fun p hp => Nat.ne_of_lt (Nat.lt_succ_of_lt (ktn_ltOf h p hp))
section
variable {prog : Program} {w : World} {A : Around} {h₀ : Heap} {L : Addr} {m : PySem.Str → Option Value} {env : Env} {ct elt : PySem.Expr} {x : PySem.Str} {scope : Scope} {cl : List (PySem.Str × Addr)} {s : Shared} {S : List (Addr × Obj) → Prop} {P : Nat → Value → Prop} {Fin : List Value → List (Addr × Obj) → Prop} {news : List (Addr × Obj)}
theorem cr_T {n : Nat} (J : Nat → List Value → List (Addr × Obj) → Prop)
  (turn : ∀ i ys news v I oI C oC D m₂ h tk (E' : Value → Shared → Prop), i < n → P i v → J i ys news → LCg.NsObj oC m₂ → m₂ x = some v → Fr h₀ L h m → News h₀ L h ((I, oI) :: (C, oC) :: (D, LCg.lst ys) :: news) → LCg.Off3 I C D news → ((@Ne Nat I C) ∧ (@Ne Nat I D) ∧ (@Ne Nat C D)) →
   wpAny (model prog w) A (isTrue ct (compEnvC scope cl C env) (eval ct (compEnvC scope cl C env))) (fun ok s' => if ok = true then
    wpAny (model prog w) A (eval elt (compEnvC scope cl C env)) (LCg.CompEnd h₀ L m { s with heap := h, toks := tk } I oI C oC D (LCg.lst ys) S (fun y news' => J (i + 1) (ys ++ [y]) news')) E' s'
    else LCg.CompEnd h₀ L m { s with heap := h, toks := tk } I oI C oC D (LCg.lst ys) S (fun _ news' => J (i + 1) ys news') Value.none s') E' { s with heap := h, toks := tk })
  (start : J 0 [] news) (fin : ∀ ys news, J n ys news → Fin ys news) : LCt.CompRestT prog w A h₀ L m env ct elt x scope cl s S P Fin n 0 [] news := by
 have key : ∀ (j i : Nat) (ys : List Value) (news : List (Addr × Obj)), i + j = n → J i ys news → LCt.CompRestT prog w A h₀ L m env ct elt x scope cl s S P Fin j i ys news := by
  intro j
  induction j with
  | zero => intro i ys news hi hJ; exact LCt.CompRestT.zero (fin ys news ((show i = n by exact lin [_,_] [] [(2,.a (.v 0) (.n 0),.v 1)] (2,.v 0,.v 1) [1,1] [1,-1] rfl hi) ▸ hJ))
  | succ j ih =>
   intro i ys news hi hJ
   refine LCt.CompRestT.succ ?_
   intro v I oI C oC D m₂ h tk E' hv hC hx F N off ne
   refine wpAny_mono (turn i ys news v I oI C oC D m₂ h tk E' (by exact lin [_,_,_] [] [(2,.a (.v 0) (.a (.v 1) (.n 1)),.v 2)] (0,.v 0,.v 2) [1,1] [] rfl hi) hv hJ hC hx F N off ne) (fun ok s' hq => ?_) fun _ _ e => e
   cases ok with
   | true =>
    simp only [if_true] at hq ⊢
    refine wpAny_mono hq (fun y s₂ hr => ?_) fun _ _ e => e
    refine ex3 hr fun h' tk' nw h9_28 => an6 h9_28 fun e F' N' off' hS hr => ?_
    clear h9_28
    exact ⟨h', tk', nw, e, F', N', off', hS, ih (i + 1) _ _ (by exact lin [_,_,_] [] [(2,.a (.v 0) (.a (.v 1) (.n 1)),.v 2)] (2,.a (.a (.v 0) (.n 1)) (.v 1),.v 2) [1,1] [1,-1] rfl hi) hr⟩
   | false =>
    simp only [Bool.false_eq_true, if_false] at hq ⊢
    refine ex3 hq fun h' tk' nw h9_29 => an6 h9_29 fun e F' N' off' hS hr => ?_
    clear h9_29
    try clear hq
    exact ⟨h', tk', nw, e, F', N', off', hS, ih (i + 1) _ _ (by exact lin [_,_,_] [] [(2,.a (.v 0) (.a (.v 1) (.n 1)),.v 2)] (2,.a (.a (.v 0) (.n 1)) (.v 1),.v 2) [1,1] [1,-1] rfl hi) hr⟩
 exact key n 0 [] news (by exact lin [_] [] [] (2,.a (.n 0) (.v 0),.v 0) [1] [1] rfl) start
theorem cr_U {n : Nat} (J : Nat → List Value → List (Addr × Obj) → Prop)
  (turn : ∀ i ys news v I oI C oC D m₂ h tk (E' : Value → Shared → Prop), i < n → P i v → J i ys news → LCg.NsObj oC m₂ → m₂ x = some v → Fr h₀ L h m → News h₀ L h ((I, oI) :: (C, oC) :: (D, LCg.lst ys) :: news) → LCg.Off3 I C D news → ((@Ne Nat I C) ∧ (@Ne Nat I D) ∧ (@Ne Nat C D)) →
   wpAny (model prog w) A (eval elt (compEnvC scope cl C env)) (LCg.CompEnd h₀ L m { s with heap := h, toks := tk } I oI C oC D (LCg.lst ys) S (fun y news' => J (i + 1) (ys ++ [y]) news')) E' { s with heap := h, toks := tk })
  (start : J 0 [] news) (fin : ∀ ys news, J n ys news → Fin ys news) : LCg.CompRest prog w A h₀ L m env elt x scope cl s S P Fin n 0 [] news := by
 have key : ∀ (j i : Nat) (ys : List Value) (news : List (Addr × Obj)), i + j = n → J i ys news → LCg.CompRest prog w A h₀ L m env elt x scope cl s S P Fin j i ys news := by
  intro j
  induction j with
  | zero => intro i ys news hi hJ; exact LCg.CompRest.zero (fin ys news ((show i = n by exact lin [_,_] [] [(2,.a (.v 0) (.n 0),.v 1)] (2,.v 0,.v 1) [1,1] [1,-1] rfl hi) ▸ hJ))
  | succ j ih =>
   intro i ys news hi hJ
   refine LCg.CompRest.succ ?_
   intro v I oI C oC D m₂ h tk E' hv hC hx F N off ne
   refine wpAny_mono (turn i ys news v I oI C oC D m₂ h tk E' (by exact lin [_,_,_] [] [(2,.a (.v 0) (.a (.v 1) (.n 1)),.v 2)] (0,.v 0,.v 2) [1,1] [] rfl hi) hv hJ hC hx F N off ne) (fun y s₂ hr => ?_) fun _ _ e => e
   refine ex3 hr fun h' tk' nw h9_30 => an6 h9_30 fun e F' N' off' hS hr => ?_
   clear h9_30
   exact ⟨h', tk', nw, e, F', N', off', hS, ih (i + 1) _ _ (by exact lin [_,_,_] [] [(2,.a (.v 0) (.a (.v 1) (.n 1)),.v 2)] (2,.a (.a (.v 0) (.n 1)) (.v 1),.v 2) [1,1] [1,-1] rfl hi) hr⟩
 exact key n 0 [] news (by exact lin [_] [] [] (2,.a (.n 0) (.v 0),.v 0) [1] [1] rfl) start
theorem crK_T {n : Nat} (J : Nat → List Value → Prop)
  (turn : ∀ i ys v I oI C oC D m₂ h tk (E' : Value → Shared → Prop), i < n → P i v → J i ys → LCg.NsObj oC m₂ → m₂ x = some v → Fr h₀ L h m → News h₀ L h ((I, oI) :: (C, oC) :: (D, LCg.lst ys) :: news) → LCg.Off3 I C D news → ((@Ne Nat I C) ∧ (@Ne Nat I D) ∧ (@Ne Nat C D)) →
   wpAny (model prog w) A (isTrue ct (compEnvC scope cl C env) (eval ct (compEnvC scope cl C env))) (fun ok s' => if ok = true then
    wpAny (model prog w) A (eval elt (compEnvC scope cl C env)) (LCg.CompEnd h₀ L m { s with heap := h, toks := tk } I oI C oC D (LCg.lst ys) S (fun y news' => news' = news ∧ J (i + 1) (ys ++ [y]))) E' s'
    else LCg.CompEnd h₀ L m { s with heap := h, toks := tk } I oI C oC D (LCg.lst ys) S (fun _ news' => news' = news ∧ J (i + 1) ys) Value.none s') E' { s with heap := h, toks := tk })
  (start : J 0 []) (fin : ∀ ys, J n ys → Fin ys news) : LCt.CompRestT prog w A h₀ L m env ct elt x scope cl s S P Fin n 0 [] news :=
 cr_T (fun i ys nw => nw = news ∧ J i ys) (fun i ys nw v I oI C oC D m₂ h tk E' hi hv hJ hC hx F N off ne => by
  obtain ⟨rfl, hJ⟩ := hJ
  exact turn i ys v I oI C oC D m₂ h tk E' hi hv hJ hC hx F N off ne) ⟨rfl, start⟩ (fun ys nw h => h.1 ▸ fin ys h.2)
theorem crK_U {n : Nat} (J : Nat → List Value → Prop)
  (turn : ∀ i ys v I oI C oC D m₂ h tk (E' : Value → Shared → Prop), i < n → P i v → J i ys → LCg.NsObj oC m₂ → m₂ x = some v → Fr h₀ L h m → News h₀ L h ((I, oI) :: (C, oC) :: (D, LCg.lst ys) :: news) → LCg.Off3 I C D news → ((@Ne Nat I C) ∧ (@Ne Nat I D) ∧ (@Ne Nat C D)) →
   wpAny (model prog w) A (eval elt (compEnvC scope cl C env)) (LCg.CompEnd h₀ L m { s with heap := h, toks := tk } I oI C oC D (LCg.lst ys) S (fun y news' => news' = news ∧ J (i + 1) (ys ++ [y]))) E' { s with heap := h, toks := tk })
  (start : J 0 []) (fin : ∀ ys, J n ys → Fin ys news) : LCg.CompRest prog w A h₀ L m env elt x scope cl s S P Fin n 0 [] news :=
 cr_U (fun i ys nw => nw = news ∧ J i ys) (fun i ys nw v I oI C oC D m₂ h tk E' hi hv hJ hC hx F N off ne => by
  obtain ⟨rfl, hJ⟩ := hJ
  exact turn i ys v I oI C oC D m₂ h tk E' hi hv hJ hC hx F N off ne) ⟨rfl, start⟩ (fun ys nw h => h.1 ▸ fin ys h.2)
end
end Mine
end
section
open PySem PySem.W PySem.Spec PySem.Calls PyProof.Rows
namespace Mine
section
variable {prog : Program} {w : World} {A₀ A : Around} {s : Shared} {base h₀ : Heap} {L a : Addr} {m : PySem.Str → Option Value} {cn : PySem.Str} {cs : Scope} {ccd : Value} {news : List (Addr × Obj)} {K : Frag} {p : Program} {loose : List PySem.Str} {mean : ExcName → Option Value} {mg mb : PySem.Str → Option Value}
  {R : Result → Shared → Prop} {name qual : PySem.Str} {params : Arguments} {body : List Stmt} {scope : Scope} {dV kV doc pm cdv ct oc : Value} {an od : Option Addr} {osl : Array (Option Value)} {f : Addr} {args : Args} {binds : List (PySem.Str × Value)}
end
noncomputable def RngEnd (L : Addr) (J : Heap → (PySem.Str → Option Value) → List (Addr × Obj) → Prop) (I : Addr) (it : Obj) (s₁ s₂ : Shared) : Prop :=
 ∃ g h' tk m' nx, s₂ = { s₁ with heap := h', toks := tk } ∧ Fr g L h' m' ∧ News g L h' ((I, it) :: nx) ∧ (∀ p ∈ nx, p.1 ≠ I) ∧ J g m' nx
noncomputable def RngPost (L : Addr) (J : Heap → (PySem.Str → Option Value) → List (Addr × Obj) → Prop) (I : Addr) (it : Obj) (s₁ : Shared) (Q : Flow → Shared → Prop) (f : Flow) (s₂ : Shared) : Prop :=
 match f with
 | .ret v => Q (.ret v) s₂
 | .brk => Q .next s₂
 | _ => RngEnd L J I it s₁ s₂
noncomputable def AtB (prog : Program) (w : World) (A : Around) (env : Env) (target : PySem.Expr) (body : List Stmt) (Q : Flow → Shared → Prop) (E : Value → Shared → Prop) (it : Value) (s₂ : Shared) : Prop :=
 ∃ (I : Nat → Shared → Prop) (n : Nat), I n s₂ ∧ ∀ n s, I n s → wpAny (model prog w) A (pyNext it) (fun r s₁ => match r with
   | none => Q .next s₁
   | some v => wpAny (model prog w) A (letOwnedTupleGo target it v) (fun _ s₁' =>
     wpAny (model prog w) A (assign target env v) (fun _ s₂ => wpAny (model prog w) A (execs body env) (fun f s₃ => match f with
      | .next | .cont => ∃ m, m < n ∧ I m s₃
      | .brk => Q .next s₃
      | .ret v => Q (.ret v) s₃) E s₂) E s₁') E s₁) E s
section
variable {prog : Program} {w : World} {A : Around} {E : Value → Shared → Prop} {s : Shared} {env : Env} {body : List Stmt} {Q : Flow → Shared → Prop}
theorem For_B {target iter : PySem.Expr} {pos : Pos} {h₀ : Heap} {m : PySem.Str → Option Value} (_F : Fr h₀ env.locals s.heap m)
  (h : wpAny (model prog w) A (eval iter env) (fun xv s₁ => wpAny (model prog w) A (pyIter xv) (fun it s₂ => AtB prog w A env target body Q E it s₂) E s₁) E s)
  (hs : ∀ x, foldedSetIterable iter env x = pure x := by intro _; rfl)
  (hE : PassesOwn (model prog w) A env E := by passes_own) :
  wpAny (model prog w) A (exec (.For target iter body [] pos) env) Q E s := by
 refine wpAny_For (wpAny_mono h (fun xv s₁ h₁ => wpAny_mono h₁ (fun it s₂ h₂ => ?_) fun _ _ e => e) fun _ _ e => e) hs
 refine ex2 h₂ fun I n h9_49 => an2 h9_49 fun h0 turn => ?_
 clear h9_49
 try clear h₂
 refine codeAny_forLoop_any I (fun n s hI => wpAny_mono (turn n s hI) (fun r s₁ q => ?_) hE) n h0
 cases r with
 | none => exact wpAny_execs_nil q
 | some v =>
  refine wpAny_mono q (fun _ s₁' q' => wpAny_mono q' (fun _ s₂ q₂ => wpAny_mono q₂ (fun f s₃ q₃ => ?_) hE) hE) hE
  cases f <;> exact q₃
end
end Mine
end
section
open PySem PySem.W PySem.Spec PySem.Calls PyProof.Rows
namespace Mine
theorem memX {env : Env} {L b : Addr} {outer : List Env} (hf : env.frame = some L) (hm : b ∈ (env :: outer).filterMap (·.frame)) : b = L ∨ b ∈ outer.filterMap (·.frame) := by
 refine ex1 (List.mem_filterMap.mp hm) fun env' h9_33 => an2 h9_33 fun he hf' => ?_
 clear h9_33
 rcases List.mem_cons.mp he with rfl | he
 ·exact .inl (Option.some.inj (hf'.symm.trans hf))
 ·exact .inr (List.mem_filterMap.mpr ⟨env', he, hf'⟩)
section
variable {prog : Program} {w : World} {A₀ A : Around} {s : Shared} {base h₀ g₀ : Heap} {outer : List Env} {env : Env} {L : Addr} {m : PySem.Str → Option Value} {news : List (Addr × Obj)} {K : Frag} {p : Program} {loose : List PySem.Str} {mean : ExcName → Option Value} {mg mb : PySem.Str → Option Value}
  {R : Result → Shared → Prop} {name qual : PySem.Str} {params : Arguments} {body : List Stmt} {scope : Scope} {dV kV doc pm cdv ct oc : Value} {an od : Option Addr} {osl : Array (Option Value)} {f : Addr} {args : Args} {binds : List (PySem.Str × Value)}
theorem kts_enterX (B : Below A₀ base outer h₀) (F : Fr h₀ L s.heap m) (N : News h₀ L s.heap news) (hA : A.frames = some (env :: outer)) (hf : env.frame = some L) (hke : env.scope.kind = .function) :
  ∃ oL es ep, (hideAll s.heap (news.map (·.1))).get? L = some oL ∧ oL.data = .dict es ep ∧ (∀ h', h'.get? L = some oL → Heap.Ns h' L m) ∧ (∀ (sl : Array (Option Value)) h', h'.get? L = some { oL with slots := sl } → Heap.Ns h' L m) ∧
   h₀.StaysIn (hideAll s.heap (news.map (·.1))) ∧ Below A base (env :: outer) (hideAll s.heap (news.map (·.1))) := by
 refine an4 (groundX (R := fun _ _ => True) B F N hA hf hke) fun _ BG st _ => ?_
 refine ex3 F.ns fun oL es ep h9_34 => an4 h9_34 fun hL hLd hLk hLf => ?_
 clear h9_34
 have nL : L ∉ news.map (·.1) := fun q => by
  refine ex1 (List.mem_map.mp q) fun p h9_35 => an2 h9_35 fun hp e => ?_
  clear h9_35
  exact (N p hp).2.1 e
 have hLg := hideAll_get (news.map (·.1)) hL nL
 exact ⟨oL, es, ep, hLg, hLd, fun h' e => ⟨oL, es, ep, e, hLd, hLk, hLf⟩, fun sl h' e => ⟨_, es, ep, e, hLd, hLk, hLf⟩, st, BG⟩
theorem KtsDicts.pushX (D : KtsDicts (outer.filterMap (·.frame)) h₀) (F : Fr h₀ L s.heap m) (N : News h₀ L s.heap news) (hf : env.frame = some L) : KtsDicts ((env :: outer).filterMap (·.frame)) (hideAll s.heap (news.map (·.1))) := fun b hb => by
 have nm : ∀ b o, h₀.get? b = some o → b ∉ news.map (·.1) := fun b o e q => by
  refine ex1 (List.mem_map.mp q) fun p h9_37 => an2 h9_37 fun hp eq9_36 => ?_
  clear h9_37
  subst eq9_36
  rw [(N p hp).2.2] at e; cases e
 rcases memX hf hb with rfl | hb
 ·refine ex3 F.ns fun oL es ep h9_38 => an4 h9_38 fun hL hLd hLk hLf => ?_
  clear h9_38
  have nL : b ∉ news.map (·.1) := fun q => by
   refine ex1 (List.mem_map.mp q) fun p h9_39 => an2 h9_39 fun hp e => ?_
   clear h9_39
   exact (N p hp).2.1 e
  exact ⟨oL, es, ep, hideAll_get (news.map (·.1)) hL nL, hLd⟩
 ·refine ex3 (D b hb) fun o es' n' h9_40 => an2 h9_40 fun ho' hd' => ?_
  clear h9_40
  exact ⟨o, es', n', hideAll_get _ (F.keep b o ho') (nm b o ho'), hd'⟩
theorem leaveSX {g : Heap} {oL : Obj} {v : Value} {s' : Shared} (B : Below A₀ base outer h₀) (F : Fr h₀ L s.heap m) (_N : News h₀ L s.heap news) (XB : K.In base) (TB : Top p loose mean mg mb base) (D : KtsDicts (outer.filterMap (·.frame)) h₀)
  (T0 : KtsTurn (outer.filterMap (·.frame)) g₀ h₀) (hf : env.frame = some L) (hLg : g.get? L = some oL) (hN : ∀ h', h'.get? L = some oL → Heap.Ns h' L m) (hNs : ∀ (sl : Array (Option Value)) h', h'.get? L = some { oL with slots := sl } → Heap.Ns h' L m)
  (st : h₀.StaysIn g) (hl : LeaveS ((env :: outer).filterMap (·.frame)) A₀ base outer K p loose mean mg mb g₀ h₀ L m g R v s') : R (.ok (.ret v)) s' := by
 have nL₀ : h₀.get? L = none := kts_self F
 rcases hl with ⟨L', m', news', F', N', k⟩ | ⟨g', L', m', news', T', F', N', k⟩
 ·refine k ⟨hN _ (F'.keep _ _ hLg), fun b o e => F'.keep b o (st b o e), F.above⟩ fun p hp => ⟨(N' p hp).1, fun q => ?_, ?_⟩
  ·have := (N' p hp).2.2; rw [q, hLg] at this; cases this
  ·cases q : h₀.get? p.1 with
   | none => rfl
   | some o => have := (N' p hp).2.2; rw [st _ _ q] at this; cases this
 refine ex1 (T'.up hLg) fun sl hs => ?_
 obtain ⟨T₁, S₁⟩ := kts_turn_at (h := s'.heap) (fs := outer.filterMap (·.frame)) (g := h₀)
  (fun b hb => by
   refine an2 (B.frames.mem hb) fun _ h9_41 => ex1 h9_41 fun o h9_42 => an2 h9_42 fun ho' _ => ?_
   clear h9_42 h9_41
   exact ⟨o, ho'⟩)
  (fun b o e nmem => F'.keep b o (T'.other b o (st b o e) (fun q => by
   rcases memX hf q with z | z
   ·rw [z, nL₀] at e
    cases e
   ·exact nmem z)))
  (fun b o e hm => by
   refine ex1 (T'.up (st b o e)) fun sl' hs' => ?_
   exact ⟨sl', F'.keep _ _ hs'⟩)
 have B₃ : Below A₀ base outer (ktsHeap s'.heap (outer.filterMap (·.frame)) h₀) := ⟨B.stack, fun b o e => T₁.other b o (B.stays b o e) (fun hm => by
  rw [(B.frames.mem hm).1] at e
  cases e), B.frames.of_keeps fun b o e _ => by
  refine ex1 (T₁.up e) fun sl' hs' => ?_
  exact ⟨_, hs', rfl⟩⟩
 refine k _ (T0.trans T₁) ⟨hNs sl _ (F'.keep _ _ hs), S₁, by rw [T₁.size]; exact F.above⟩ (fun p hp => ⟨(N' p hp).1, fun q => ?_, ?_⟩) B₃ (XB.keeps B₃.stays) (TB.keeps B₃.stays) (D.turn T₁)
 ·have := (N' p hp).2.2; rw [q, hs] at this; cases this
 ·refine T₁.none_ _ ?_
  cases q : h₀.get? p.1 with
  | none => rfl
  | some o =>
   refine ex1 (T'.up (st _ _ q)) fun sl' hs' => ?_
   have := (N' p hp).2.2
   rw [hs'] at this
   cases this
end
noncomputable def parseK (r : PySem.Str) : Except Nat Int :=
 if (Txt.slice r none (some 3) != Str.ofString "229") = true then .error 0
 else if Txt.find r (Str.ofString "(") < 0 then .error 1
 else if Txt.find3 r (Str.ofString ")") (Txt.find r (Str.ofString "(") + 1) < 0 then .error 1
 else if (Txt.item r (Txt.find r (Str.ofString "(") + 1) != Txt.item r (Txt.find3 r (Str.ofString ")") (Txt.find r (Str.ofString "(") + 1) - 1)) = true then .error 1
 else match Txt.split (Txt.slice r (some (Txt.find r (Str.ofString "(") + 1)) (some (Txt.find3 r (Str.ofString ")") (Txt.find r (Str.ofString "(") + 1)))) (Txt.item r (Txt.find r (Str.ofString "(") + 1)) with
  | [_, _, _, p3, _] => match PySem.intText? p3 with | some n => .ok n | none => .error 2
  | _ => .error 1
noncomputable def EndIs (c : Nat) (r : PySem.Str) (cls : Value) (vs : List Value) : Prop :=
 match c with
 | 0 => cls = .ref 75 ∧ ∃ tk, vs = [.str r tk]
 | 1 => cls = .ref 87 ∧ ∃ tk, vs = [.str r tk]
 | _ => cls = .type "ValueError"
noncomputable def PEnd (c : Nat) (r : PySem.Str) (news : List (Addr × Obj)) (base G : Heap) (l : List Env) (e : Addr) (h : Heap) : Prop :=
 ∃ cls t vs news', RaisedS base G l e cls t vs news' h ∧ (∀ p ∈ news, p ∈ news') ∧ EndIs c r cls vs
noncomputable def BrOk (resp : PySem.Str) : Prop := Txt.find resp (Str.ofString "(") < 0 ∨ 0 ≤ Txt.find resp (Str.ofString "(") ∧ (Txt.find3 resp (Str.ofString ")") (Txt.find resp (Str.ofString "(") + 1) < 0 ∨ Txt.find resp (Str.ofString "(") + 1 ≤ Txt.find3 resp (Str.ofString ")") (Txt.find resp (Str.ofString "(") + 1) ∧ Txt.find3 resp (Str.ofString ")") (Txt.find resp (Str.ofString "(") + 1) < resp.length)
end Mine
end
section
open PySem PySem.W PySem.Spec PySem.Calls PyProof.Rows
namespace Mine
noncomputable def Called (Γ : PySem.Ctx) : Prop := (Γ.code :: Γ.below.map (·.1)).any Code.isCaller = true
noncomputable def CalledB (Γ : PySem.Ctx) : Prop := (Γ.below.map (·.1)).any Code.isCaller = true
theorem CalledB.up {Γ : PySem.Ctx} (h : CalledB Γ) : Called Γ := by
 unfold Called
 rw [List.any_cons, h, Bool.or_true]
theorem Called.enter {Γ : PySem.Ctx} (h : Called Γ) (c : Code) (hd : Option Value) (p : Pos) : CalledB (Γ.enter c hd p) := h
noncomputable def wpC {α : Type} (M : Model) (A : Around) (t : Sem α) (Q : α → Shared → Prop) (E : Value → Shared → Prop) (s : Shared) : Prop :=
 ∀ (Γ : PySem.Ctx) (p : Pos), Γ.In A → Called Γ → Sem.wp M Γ t (fun a _ s' => Q a s') (fun e _ s' => E e s') p s
noncomputable def codeC (M : Model) (A : Around) (c : Code) (R : Result → Shared → Prop) (s : Shared) : Prop :=
 ∀ (Γ : PySem.Ctx) (p : Pos), Γ.code = c → Γ.Below A → CalledB Γ → wpCode M Γ R p s
section
variable {α β : Type} {M : Model} {A : Around} {E : Value → Shared → Prop} {s : Shared}
theorem wpC.of {t : Sem α} {Q : α → Shared → Prop} (h : wpAny M A t Q E s) : wpC M A t Q E s := fun Γ p hΓ _ => h Γ p hΓ
theorem codeC.of {c : Code} {R : Result → Shared → Prop} (h : codeAny M A c R s) : codeC M A c R s := fun Γ p hc hΓ _ => h Γ p hc hΓ
theorem wpC_mono {t : Sem α} {Q Q' : α → Shared → Prop} {E' : Value → Shared → Prop} (h : wpC M A t Q E s)
  (hQ : ∀ a s, Q a s → Q' a s) (hE : ∀ e s, E e s → E' e s) : wpC M A t Q' E' s :=
 fun Γ p hΓ hC => Sem.wp_mono M Γ t (fun a _ s => hQ a s) (fun e _ s => hE e s) p s (h Γ p hΓ hC)
theorem wpC_pure {a : α} {Q : α → Shared → Prop} (h : Q a s) : wpC M A (pure a) Q E s := .of (wpAny_pure h)
theorem wpC_bind {m : Sem α} {f : α → Sem β} {Q : β → Shared → Prop} (h : wpC M A m (fun a s' => wpC M A (f a) Q E s') E s) :
  wpC M A (m >>= f) Q E s := fun Γ p hΓ hC => by
 rw [Sem.wp_bind']
 exact Sem.wp_mono M Γ m (fun a p' s' h' => h' Γ p' hΓ hC) (fun _ _ _ h' => h') p s (h Γ p hΓ hC)
theorem wpC_onRaise {m : Sem α} {k : Value → Sem Unit} {Q : α → Shared → Prop}
  (h : wpC M A m Q (fun e s' => wpAny M A (k e) (fun _ s'' => E e s'') E s') s) : wpC M A (m.onRaise k) Q E s := fun Γ p hΓ hC => by
 rw [Sem.wp_onRaise]
 exact Sem.wp_mono M Γ m (fun _ _ _ h' => h') (fun e p' s' h' => h' Γ p' hΓ) p s (h Γ p hΓ hC)
theorem wpC_holding {vs : List Value} {m : Sem α} {Q : α → Shared → Prop} (h : wpC M A m Q E s) : wpC M A (holding vs m) Q E s :=
 fun Γ p hΓ hC => by rw [Sem.wp_holding]; exact h Γ p hΓ hC
theorem wpC_standAt {pos : Pos} {Q : Unit → Shared → Prop} (h : Q () s) : wpC M A (standAt pos) Q E s := .of (wpAny_standAt h)
theorem codeC_mono {c : Code} {R R' : Result → Shared → Prop} (h : codeC M A c R s) (hR : ∀ r s, R r s → R' r s) : codeC M A c R' s :=
 fun Γ p hc hΓ hC => wpCode_mono hR (h Γ p hc hΓ hC)
theorem wpC_run {c : Code} {h : Option Value} {Q : Flow → Shared → Prop}
  (hc : codeC M (A.mark h) c (fun r s' => match r with | .ok f => Q f s' | .error e => E e s') s) (hnb : h ≠ some byPass := by intro x; cases x) :
  wpC M A (run c h) Q E s :=
 fun Γ p hΓ hC => by rw [Sem.wp_run]; exact hc _ p rfl (hΓ.enter c h p hnb) (hC.enter c h p)
theorem wpC_call {f : Value} {pos : List Value} {kw : List (PySem.Str × Value)} {Q : Value → Shared → Prop}
  (hc : codeC M A (.call f ⟨pos, kw⟩) (fun r s' => match r with | .ok (.ret v) => Q v s' | .ok _ => False | .error e => E e s') s) :
  wpC M A (call f pos kw) Q E s := fun Γ p hΓ hC => by
 show Sem.wp M Γ (runValue _) _ _ p s
 rw [Sem.wp_runValue]
 exact hc _ p rfl (hΓ.enter _ none p (by intro x; cases x)) (hC.enter _ none p)
theorem codeC_of_tree {c : Code} {R : Result → Shared → Prop}
  (h : wpC M (A.under c) (M.den c) (fun fin s' => match fin with | .done f => R (.ok f) s' | .again c' => c'.quiet = true ∧ codeC M A c' R s')
   (fun e s' => R (.error e) s') s) : codeC M A c R s := fun Γ p hc hΓ hC => by
 rw [wpCode_iff_wp, hc]
 refine Sem.wp_mono M Γ _ (fun fin p' s' h' => ?_) (fun _ _ _ h' => h') p s (h Γ p (hc ▸ hΓ.in) hC.up)
 cases fin with
 | done f => exact h'
 | again c' => exact ⟨h'.1, h'.2 (Γ.goto c') p' rfl (hΓ.goto c') hC⟩
theorem codeC_loop {c : Code} {R : Result → Shared → Prop} (hq : c.quiet = true) (I : Nat → Shared → Prop)
  (turn : ∀ n s, I n s → wpC M (A.under c) (M.den c)
   (fun fin s' => match fin with
    | .done f => R (.ok f) s'
    | .again c' => (c' = c ∧ ∃ m, m < n ∧ I m s') ∨ (c'.quiet = true ∧ codeC M A c' R s')) (fun e s' => R (.error e) s') s)
  (n : Nat) (h : I n s) : codeC M A c R s := by
 induction n using Nat.strongRecOn generalizing s with
 | ind n ih =>
  refine codeC_of_tree (wpC_mono (turn n s h) (fun fin s' hf => ?_) fun _ _ h' => h')
  cases fin with
  | done f => exact hf
  | again c' =>
   rcases hf with hR9_116 | hf
   ·refine an2 hR9_116 fun eq9_118 h9_119 => ex1 h9_119 fun m h9_120 => an2 h9_120 fun hm hI => ?_
    clear h9_120 h9_119
    try clear hR9_116
    subst eq9_118
    exact ⟨hq, ih m hm hI⟩
   ·exact hf
end
theorem thread_endsC {prog : Program} {w : World} {t : Sem Fin} {s : Shared} {R : Result → Shared → Prop} (hreg : s.asleep)
  (h : wpC (model prog w) callerA t (fun fin s' => ∃ f, fin = .done f ∧ (R (.ok f) s' ∧ leftWithCleanup s'.gens = false)) (fun e s' => R (.error e) s' ∧ leftWithCleanup s'.gens = false) s) :
  ∃ n r s' s'', schedN (denote table) prog w n (.single s ⟨t, .builtin "claim.caller" {}, default, []⟩) = .halted (outcomeOf r) s' ∧
   runN (denote table) prog w n s ⟨t, .builtin "claim.caller" {}, default, []⟩ = .halted (outcomeOf r) s' ∧ s'.forget = s''.forget ∧ R r s'' := by
 have h1 : Sem.wp (model prog w) ⟨.builtin "claim.caller" {}, none, none, [], none⟩ t (Sem.finPost (model prog w) ⟨.builtin "claim.caller" {}, none, none, [], none⟩ fun r s' => R r s' ∧ leftWithCleanup s'.gens = false)
   (fun e _ s' => R (.error e) s' ∧ leftWithCleanup s'.gens = false) default s := by
  refine Sem.wp_mono _ _ t (fun fin p' s' h' => ?_) (fun _ _ _ h' => h') default s (h _ default caller_in rfl)
  refine ex1 h' fun f h9_122 => an2 h9_122 fun eq9_121 hf => ?_
  clear h9_122
  try clear h'
  subst eq9_121
  exact hf
 refine ex4 (wp_halts_full (M := model prog w) (R := R) hreg h1) fun n r s₁ s₂ h9_123 => an4 h9_123 fun hs hn hfo hR => ?_
 clear h9_123
 exact ⟨n, r, s₂, s₁, hs, hn, hfo, hR⟩
end Mine
end
section
open PySem PySem.W PySem.Spec PySem.Calls PyProof.Rows
namespace Mine
theorem callFromC {c : ClaimW} {tree : List Value → Sem Fin} {w : World} {s : Shared} {free : Addr → Prop} {gens : Prop} {kept : Heap → Prop} (hz : s.asleep) (hgens : s.gens = #[])
  (hspec : ∀ args, c.pre args = true → WData.layableAll args = true → ∀ ord : List DictEntry → List DictEntry, (∀ l, (ord l).Perm l) →
   ∃ vs s₁, layAllW c.records (classAt s.heap) w.params ord args s = some (vs, s₁) ∧
    wpC (model c.prog w) callerA (tree vs) (fun fin s' => ∃ f, fin = .done f ∧ (c.Ends s args vs s₁ (.ok f) s' ∧ s'.os = s.os ∧ AllBare s'.gens ∧ kept s'.heap))
     (fun e s' => c.Ends s args vs s₁ (.error e) s' ∧ s'.os = s.os ∧ AllBare s'.gens ∧ kept s'.heap) s₁) :
  c.CallFrom (fun vs => ⟨tree vs, .builtin "claim.caller" {}, default, []⟩) w free gens kept s := by
 intro args hpre hlay ord hord
 refine ex2 (hspec args hpre hlay ord hord) fun vs s₁ h => an2 h fun hlaid hcode => ?_
 clear h
 have hal := layAllW_rest _ _ _ hlaid
 refine ex4 (thread_endsC (prog := c.prog) (w := w) (t := tree vs) (s := s₁)
  (R := fun r s' => c.Ends s args vs s₁ r s' ∧ s'.os = s.os ∧ kept s'.heap) (Shared.asleep_of_life hal.2.2.2 hz)
  (wpC_mono hcode (fun fin s' h => by
   exact ex1 h fun f h => an5 h fun e h1 h2 h3 h4 => ⟨f, e, ⟨h1, h2, h4⟩, leftWithCleanup_false_of_bare h3⟩) fun e s' h => by
   exact an4 h fun h1 h2 h3 h4 => ⟨⟨h1, h2, h4⟩, leftWithCleanup_false_of_bare h3⟩)) fun k r s' s'' h => an6 h fun hsched hrun hfo hcase hos hkp => ?_
 clear h
 have eh := (Shared.forget_eq hfo).1
 have eo := (Shared.forget_eq hfo).2.2.2.1
 have hlife : s'.heap.life = s.heap.life := (runN_life _ _ _ hrun).trans hal.2.2.2
 have hcase := hcase.congr eh
 rw [← eo] at hos
 rw [← eh] at hkp
 refine ⟨vs, s₁, hlaid, k, _, s', hsched, ?_, (fun _ i x hx => by rw [hgens] at hx; simp at hx), hkp, by rw [hlife], Shared.rest_eq hos⟩
 refine hcase.elim (fun h => ?_) fun h => ?_
 ·exact ex1 h fun v h => an6 h fun e d1 d2 d3 d4 d5 => .inl ⟨v, congrArg outcomeOf e, d1, d2, d3, fun b o y _ => d4 b o y, d5⟩
 ·exact ex3 h fun x ob cls h => an6 h fun e d1 d2 d3 d4 d5 => .inr ⟨x, ob, cls, congrArg outcomeOf e, d1, d2, d3, d4, fun b o y _ => d5 b o y⟩
noncomputable abbrev WalkCC (q : Program) (loose : List PySem.Str) (XP : (PySem.Str → Option Value) → Heap → Prop) (YP : World → Heap → Prop) (r : RowW) (d : DefRec) (kwd : List (PySem.Str × PySem.Expr)) : Prop :=
 ∀ (w : World) (s₀ s₁ : Shared) (mg mb : PySem.Str → Option Value), Ground q loose r.records XP w s₀ mg mb s₁.heap → YP w s₁.heap → ∀ (a : Addr) (o : Obj) (pm cd doc dV kV : Value), s₁.heap.get? a = some o →
  o.data = .func { docDef d.name d.params d.body d.scope pm cd doc with defaults := dV, kwdefaults := kV } → s₁.heap.CodeRec cd d.name → Dflts mg s₁.heap d.params kwd dV kV → mg d.name = some (.ref a) → s₁.gens = #[] →
  ∀ (args : List WData) (vals : List Value) (as : List Addr), r.claim.pre args = true → WData.layableAll args = true → ReadsAllW r.records (classAt s₀.heap) s₁.heap vals args as → WellAll w.params s₁.heap vals args → (∀ a ∈ as, (a == sysModules) = false) →
   wpC (model r.prog w) callerA (call (.ref a) vals) (fun v s' => GoodWG r.claim (classAt s₀.heap) (ExcName.means s₀.heap) args s₁ (.ok (.ret v)) s')
    (fun e s' => GoodWG r.claim (classAt s₀.heap) (ExcName.means s₀.heap) args s₁ (.error e) s') s₁
theorem holds_openCC {r : OpenRow} {q : Program} {loose : List PySem.Str} {Xt : Shared → Bool} {XP : (PySem.Str → Option Value) → Heap → Prop} {α : Type} {Yf : Shared → α} {Ya : World → α} {YP : World → Heap → Prop} {d : DefRec} {kwd : List (PySem.Str × PySem.Expr)} {N : Nat}
  (left : LeftO r.prog q loose Xt Yf Ya N) (hY : ∀ w s, Yf s = Ya w → YP w s.heap) (hYk : ∀ w h h', YP w h → (∀ b o, h.get? b = some o → h'.get? b = some o) → YP w h')
  (hX : ∀ s, Xt s = true → XP (s.heap.nsMap mainGlobals) s.heap) (hXk : ∀ mg h h', XP mg h → (∀ b o, h.get? b = some o → h'.get? b = some o) → XP mg h')
  (hdef : defOf q r.name = some (d, kwd)) (hp : r.prog.theDef r.name = some (d.params, d.body, d.scope)) (hk : kwWritten? d.params.kwonlyargs d.params.kw_defaults = some kwd) (hRf : ∀ s, Xt s = true → RecFacts r.records s.heap) (hwr : (!r.writes || r.records.isEmpty) = true)
  (k1 : r.wellSaid = true) (ok : (chainsOk q && opensWell r.prog && (frees r.toRowW && r.within.isEmpty)) = true) (hb : r.prog.bare) (hw : r.toRowW.promised)
  (walk : WalkCC q loose XP YP r.toRowW d kwd) : r.Holds := by
 refine an2 (Bool.and_eq_true_iff.mp ok) fun ok k5 => ?_
 refine an2 (Bool.and_eq_true_iff.mp ok) fun hch o1 => ?_
 refine an2 (Bool.and_eq_true_iff.mp k5) fun k5 k6 => ?_
 refine an5 (frees_parts k5) fun hsame hu ha hap hm => ?_
 refine ⟨k1, hw, ⟨hb, o1, by show r.toRowW.makers.map _ = []; rw [hm]; rfl⟩, hw.witness, fun w => ⟨(left.behind hX hch w).1, fun s' hs' => ?_⟩⟩
 refine ex1 ((left.behind (XP := fun mg h => XP mg h ∧ RecFacts r.records h) (fun s hs => ⟨hX s hs, hRf s hs⟩) hch w).2 s' hs') fun s₀ h9_124 => an3 h9_124 fun hf hg0 h9_125 => ex1 h9_125 fun s h9_126 => an6 h9_126 fun hT hz hgens hg G00 y => ?_
 clear h9_126 h9_125 h9_124
 have G0 : Ground q loose [] XP w s (s.heap.nsMap mainGlobals) (s.heap.nsMap builtinsNs) s.heap := ⟨G00.T, G00.B, G00.D, G00.TE, G00.TD, G00.W, G00.X.1, G00.cls, G00.has, G00.apart, G00.once, G00.K⟩
 have RF := G00.X.2
 have hgens : s.gens = #[] := Array.eq_empty_of_size_eq_zero (beq_iff_eq.mp hgens)
 have G : Ground q loose r.records XP w s _ _ s.heap := RF.ground G0
 refine ⟨s₀, hf, hg0, s, hT, fun n hn => ?_, RF.1, RF.2.1, ?_⟩
 ·obtain rfl : n = r.name := by split at hn <;> simp_all
  exact pinned_of_view hg G0 hdef hp hk
 refine callFromC (c := r.toRowW.claim) (tree := fun vs => do match ← nsGet mainNs r.name with
   | some f => do ret (← PySem.call f vs)
   | none => unsupported "claim.caller:no-such-global") hz hgens fun args hpre hlay ord hord => ?_
 refine ex1 (Option.isSome_iff_exists.mp (layAllW_isSome (P := w.params) (ord := ord) G.has args r.args s (pre_splitW hpre).1)) fun hn9_127 hlaid => ?_
 obtain ⟨vs, s₁⟩ := hn9_127
 have keeps := layAllW_keeps _ _ _ hlaid
 have hal := layAllW_rest _ _ _ hlaid
 refine ex1 (reads_layAllW hord _ _ _ hlaid hlay s₁.heap (fun _ _ e => e)) fun as h9_128 => an3 h9_128 fun hrd hin hold => ?_
 clear h9_128
 have L : Laid r.records w s s₁ args vs as := ⟨⟨ord, hord, hlaid⟩, hrd, hin, hold, keeps, hal.1.trans hgens, hal.2.2.1⟩
 have G₁ := G.keeps hXk keeps
 refine ex6 (G₁.fn hdef) fun a o pm cd doc dV h9_129 => ex1 h9_129 fun kV h9_130 => an5 h9_130 fun h1 h2 h3 h4 h5 => ?_
 clear h9_130 h9_129
 have h := walk w s s₁ _ _ G₁ (hYk _ _ _ (hY w s y) keeps) a o pm cd doc dV kV h2 h3 h4 h5 (defOf_name hdef ▸ h1) L.gens args vs as hpre hlay L.reads L.well (L.low G.low)
 have hi := ident_freeW hu ha hap
 have hwi : r.toRowW.claim.within = [] := List.isEmpty_iff.mp k6
 refine ⟨vs, s₁, hlaid, wpC_bind (.of (wpAny_nsGet G₁.T.g ?_))⟩
 rw [h1]
 refine wpC_bind (wpC_mono h (fun v s' g => wpC_pure ⟨_, rfl, have z := g.laid (c := r.toRowW.claim) hsame hwi hi L; ⟨z.1, z.2.1, z.2.2, fun q => ⟨namesKept_of hT hg r.keeps keeps g.2.1.old, noTable hwr q⟩⟩⟩) fun e s' g => have z := g.laid (c := r.toRowW.claim) hsame hwi hi L; ⟨z.1, z.2.1, z.2.2, fun q => ⟨namesKept_of hT hg r.keeps keeps g.2.1.old, noTable hwr q⟩⟩)
end Mine
end
section
open PySem PySem.W PyProof.Rows
namespace Mine
noncomputable def lookL (l : OpenLaw) : Bool := l.wellSaid
theorem lookL_self : lookL = lookL := rfl
end Mine
lay_quick Mine.lookL
name_quick lookQ for Mine.lookL by Mine.lookL_self
namespace Mine
theorem said : PySem.Challenge.rw_ux0030_01.wellSaid = true := by
 show lookL PySem.Challenge.rw_ux0030_01 = true
 rw [PySem.W.Fast.lookQ_eq]
 kernel_rfl
theorem hdC (walk : ∀ d kwd, defOf hd.view_39 PySem.Challenge.rw_ux0030_01.row.toRowW.name = some (d, kwd) → WalkCC hd.view_39 LOS (XL hd.view_39 []) (Hook.says HK) PySem.Challenge.rw_ux0030_01.row.toRowW d kwd) : PySem.Challenge.rw_ux0030_01.Holds := by
 w_on
 refine holds_law said fun said2 => ?_
 refine' holds_openCC (d := ?d) (kwd := ?k) left (Hook.of HK) (Hook.keeps HK) (fun s e => xl_of s (Bool.and_eq_true_iff.mp e).1) XL.keeps ?h1 ?h2 ?h3 (fun s e => recFacts_of (Bool.and_eq_true_iff.mp e).2) ?h4 (by assumption) ?h5 ⟨rfl, rfl, rfl, rfl, rfl, ?h6⟩ ?hw (walk ?d ?k ?h1)
 case h1 => with_unfolding_all rfl
 case h2 => rfl
 case h3 => rfl
 case h4 => rfl
 case h5 => decide +kernel
 case h6 => decide +kernel
 case hw => w_witness2
end Mine
end
section
set_option bootstrap.genMatcherCode false
namespace Mine
-- sums of lists: .v i a list, .n _ nothing, .a both, .m k x an element ahead
noncomputable def apD (es : List Nat) (ls : List (List Nat)) (e : LX) : List Nat := LX.rec (fun i => atY [] ls i) (fun _ => []) (fun _ _ a b => a ++ b) (fun k _ a => nAt es k :: a) (fun _ _ _ => []) (fun _ _ _ _ => []) (fun _ _ => []) (fun _ _ => []) e
noncomputable def flX (e : LX) : List (Bool × Nat) := LX.rec (fun i => [(true, i)]) (fun _ => []) (fun _ _ a b => List.rec b (fun c _ ih => c :: ih) a) (fun k _ a => (false, k) :: a) (fun _ _ _ => []) (fun _ _ _ _ => []) (fun _ _ => []) (fun _ _ => []) e
noncomputable def seX (es : List Nat) (ls : List (List Nat)) (l : List (Bool × Nat)) : List Nat := List.rec [] (fun c _ ih => Bool.rec (nAt es c.2 :: ih) (atY [] ls c.2 ++ ih) c.1) l
theorem seX_app (es : List Nat) (ls : List (List Nat)) (l m : List (Bool × Nat)) : seX es ls (List.rec m (fun c _ ih => c :: ih) l) = seX es ls l ++ seX es ls m := by
 induction l with
 | nil => rfl
 | cons c l ih =>
  obtain ⟨b, k⟩ := c
  cases b with
  | false => exact congrArg (nAt es k :: ·) ih
  | true => exact (congrArg (atY [] ls k ++ ·) ih).trans (List.append_assoc _ _ _).symm
theorem apD_eq (es : List Nat) (ls : List (List Nat)) (e : LX) : apD es ls e = seX es ls (flX e) := by
 induction e with
 | v i => exact (List.append_nil _).symm
 | n k => rfl
 | a x y h1 h2 => exact (congr (congrArg (· ++ ·) h1) h2).trans (seX_app es ls _ _).symm
 | m k x h => exact congrArg (nAt es k :: ·) h
 | r x k _ => rfl
 | s x y _ _ => rfl
 | g x _ => rfl
 | c x _ => rfl
theorem lapp (es : List Nat) (ls : List (List Nat)) (x y : LX) (h : flX x = flX y) : apD es ls x = apD es ls y :=
 (apD_eq es ls x).trans ((congrArg (seX es ls) h).trans (apD_eq es ls y).symm)
end Mine
end
section
open PySem PySem.W PyProof.Rows
namespace Mine
noncomputable def SV (vs : List Value) (ps : List PySem.Str) : Prop := ∃ l : List (PySem.Str × Tok), vs = strValues l ∧ l.map (·.1) = ps
theorem SV.len {vs : List Value} {ps : List PySem.Str} (h : SV vs ps) : vs.length = ps.length := by
 obtain ⟨l, rfl, rfl⟩ := h; simp [strValues]
theorem SV.get {vs : List Value} {ps : List PySem.Str} {i : Nat} {v : Value} (h : SV vs ps) (hv : vs[i]? = some v) : ∃ x t, v = .str x t ∧ ps[i]? = some x := by
 refine ex1 h fun l h9_9 => an2 h9_9 fun eq9_7 eq9_8 => ?_
 clear h9_9
 try clear h
 subst eq9_7
 subst eq9_8
 simp only [strValues, List.getElem?_map, Option.map_eq_some_iff] at hv ⊢
 refine ex1 hv fun p h9_11 => an2 h9_11 fun hp eq9_10 => ?_
 clear h9_11
 try clear hv
 subst eq9_10
 exact ⟨p.1, p.2, rfl, p, hp, rfl⟩
theorem SV.of {l : List (PySem.Str × Tok)} {ps : List PySem.Str} (h : l.map (·.1) = ps) : SV (strValues l) ps := ⟨l, rfl, h⟩
theorem SV.cons {vs : List Value} {ps : List PySem.Str} (x : PySem.Str) (t : Tok) (h : SV vs ps) : SV (.str x t :: vs) (x :: ps) := by
 obtain ⟨l, rfl, rfl⟩ := h; exact ⟨(x, t) :: l, by simp [strValues], rfl⟩
theorem SV.snoc {vs : List Value} {ps : List PySem.Str} (x : PySem.Str) (t : Tok) (h : SV vs ps) : SV (vs ++ [.str x t]) (ps ++ [x]) := by
 obtain ⟨l, rfl, rfl⟩ := h; exact ⟨l ++ [(x, t)], by simp [strValues], by simp⟩
noncomputable def scanTo (got : PySem.Str) (e : Int) : List PySem.Str → Int → Option Int
 | [], s => some s
 | w :: r, s => if find4 got w s e < 0 then none else scanTo got e r (find4 got w s e + w.length)
theorem scanTo_snoc (got : PySem.Str) (e : Int) (w : PySem.Str) : ∀ (ps : List PySem.Str) (s p : Int), scanTo got e ps s = some p → scanTo got e (ps ++ [w]) s = if find4 got w p e < 0 then none else some (find4 got w p e + w.length)
 | [], s, p, h => by cases h; rfl
 | x :: r, s, p, h => by
  unfold scanTo at h
  show (if find4 got x s e < 0 then none else scanTo got e (r ++ [w]) _) = _
  split at h
  ·cases h
  ·rename_i hx
   rw [if_neg hx]
   exact scanTo_snoc got e w r _ _ h
theorem scanTo_pre (got : PySem.Str) (e : Int) : ∀ (ps qs : List PySem.Str) (s : Int), scanTo got e ps s = none → scanTo got e (ps ++ qs) s = none
 | [], _, _, h => by cases h
 | x :: r, qs, s, h => by
  unfold scanTo at h
  show (if find4 got x s e < 0 then none else scanTo got e (r ++ qs) _) = _
  split at h
  ·rename_i hx; rw [if_pos hx]
  ·rename_i hx; rw [if_neg hx]; exact scanTo_pre got e r qs _ h
noncomputable def ematch (got w0 w1 : PySem.Str) (mid : List PySem.Str) : Bool :=
 if (((w0.length : Int) != 0) && !Txt.startswith got w0) = true then false
 else if (((w1.length : Int) != 0) && !Txt.endswith got w1) = true then false
 else if (got.length : Int) - w1.length < w0.length then false
 else (scanTo got (got.length - w1.length) ((if ((w0.length : Int) != 0) = true then [] else [w0]) ++ mid ++ (if ((w1.length : Int) != 0) = true then [] else [w1])) w0.length).isSome
noncomputable def EmJ (got : PySem.Str) (tg : Tok) (ps : List PySem.Str) (s0 e : Int) (nx0 : List (Addr × Obj)) (i : Nat) (m : PySem.Str → Option Value) (nx : List (Addr × Obj)) : Prop :=
 nx = nx0 ∧ m (Str.ofString "got") = some (.str got tg) ∧ (∃ te, m (Str.ofString "endpos") = some (.int e te)) ∧ ∃ p tp, m (Str.ofString "startpos") = some (.int p tp) ∧ scanTo got e (ps.take i) s0 = some p
theorem EmJ.open_ {got : PySem.Str} {tg : Tok} {ps : List PySem.Str} {s0 e : Int} {nx0 : List (Addr × Obj)} {i : Nat} {m : PySem.Str → Option Value} {nx : List (Addr × Obj)} (h : EmJ got tg ps s0 e nx0 i m nx) :
  nx = nx0 ∧ ∃ p tp te, scanTo got e (ps.take i) s0 = some p ∧ m = fun y => if y = Str.ofString "startpos" then some (.int p tp) else if y = Str.ofString "got" then some (.str got tg) else if y = Str.ofString "endpos" then some (.int e te) else m y := by
 refine an4 h fun h1 h2 hn9_12 h9_13 => ex2 h9_13 fun p tp h9_14 => an2 h9_14 fun h4 h5 => ?_
 clear h9_14 h9_13
 try clear h
 obtain ⟨te, h3⟩ := hn9_12
 refine ⟨h1, p, tp, te, h5, ?_⟩
 funext y
 by_cases a : y = Str.ofString "startpos"
 ·rw [if_pos a, a, h4]
 rw [if_neg a]
 by_cases b : y = Str.ofString "got"
 ·rw [if_pos b, b, h2]
 rw [if_neg b]
 by_cases c : y = Str.ofString "endpos"
 ·rw [if_pos c, c, h3]
 rw [if_neg c]
noncomputable def emPs (b0 b1 : Bool) (w0 w1 : PySem.Str) (mid : List PySem.Str) : List PySem.Str := (if b0 = true then [] else [w0]) ++ mid ++ (if b1 = true then [] else [w1])
theorem em_close {got w0 w1 : PySem.Str} {mid : List PySem.Str} {b0 b1 r : Bool} {s0 e : Int} (hb0 : ((w0.length : Int) != 0) = b0) (hb1 : ((w1.length : Int) != 0) = b1) (hs0 : s0 = w0.length) (he : e = got.length - w1.length)
  (h1 : b0 = true → Txt.startswith got w0 = true) (h2 : b1 = true → Txt.endswith got w1 = true) (h3 : ¬ e < s0) (h : (scanTo got e (emPs b0 b1 w0 w1 mid) s0).isSome = r) : ematch got w0 w1 mid = r := by
 subst hs0 he
 unfold ematch
 rw [hb0, hb1]
 rw [if_neg (by intro hh; simp only [Bool.and_eq_true, Bool.not_eq_true'] at hh; rw [h1 hh.1] at hh; cases hh.2),
  if_neg (by intro hh; simp only [Bool.and_eq_true, Bool.not_eq_true'] at hh; rw [h2 hh.1] at hh; cases hh.2), if_neg h3]
 exact h
theorem scan_fail {got : PySem.Str} {e s p : Int} {ps : List PySem.Str} {i : Nat} {x : PySem.Str} (h : scanTo got e (ps.take i) s = some p) (hx : ps[i]? = some x) (hf : find4 got x p e < 0) : (scanTo got e ps s).isSome = false := by
 have h1 : ps.take (i + 1) = ps.take i ++ [x] := by rw [List.take_add_one, hx]; rfl
 have h2 : scanTo got e (ps.take (i + 1)) s = none := by rw [h1, scanTo_snoc got e x _ _ _ h, if_pos hf]
 have h3 := scanTo_pre got e (ps.take (i + 1)) (ps.drop (i + 1)) s h2
 rw [List.take_append_drop] at h3
 rw [h3]; rfl
theorem scan_next {got : PySem.Str} {e s p : Int} {ps : List PySem.Str} {i : Nat} {x : PySem.Str} (h : scanTo got e (ps.take i) s = some p) (hx : ps[i]? = some x) (hf : ¬ find4 got x p e < 0) : scanTo got e (ps.take (i + 1)) s = some (find4 got x p e + x.length) := by
 have h1 : ps.take (i + 1) = ps.take i ++ [x] := by rw [List.take_add_one, hx]; rfl
 rw [h1, scanTo_snoc got e x _ _ _ h, if_neg hf]
theorem scan_done {got : PySem.Str} {e s p : Int} {ps : List PySem.Str} {n : Nat} (h : scanTo got e (ps.take n) s = some p) (hn : n = ps.length) : (scanTo got e ps s).isSome = true := by
 subst hn; rw [List.take_length] at h; rw [h]; rfl
theorem emPs_mem {b0 b1 : Bool} {w0 w1 x : PySem.Str} {mid : List PySem.Str} (h : x ∈ emPs b0 b1 w0 w1 mid) (h0 : w0.length ≤ 1000) (h1 : w1.length ≤ 1000) (hm : ∀ x ∈ mid, x.length ≤ 1000) : x.length ≤ 1000 := by
 unfold emPs at h
 simp only [List.mem_append] at h
 rcases h with (h | h) | h
 ·split at h
  ·cases h
  ·rw [List.mem_singleton.mp h]; exact h0
 ·exact hm _ h
 ·split at h
  ·cases h
  ·rw [List.mem_singleton.mp h]; exact h1
section
variable {lm : List (PySem.Str × Tok)} {w0 w1 : PySem.Str} {mid : List PySem.Str} (h : lm.map (·.1) = mid) (t0 t1 : Tok)
include h
end
end Mine
end
section
local macro_rules | `(tactic| omega) => `(tactic| fail "OW")
theorem Mine.clean_A3 : Mine.CleanT := by
 intro M A Q E s h
 w_top off
 first
  | (walk1; fail_if_success skip)
  | exact h
open PySem PySem.W PyProof.Rows
namespace Mine
theorem fill_A3 : hd.heap_1 = hd.heap_1 ∨ PySem.Challenge.rw_ux0030_01.Holds := by
 k_fill
 exact Or.inl rfl
inductive Jn (I : Shared → Prop) (Q : Flow → Shared → Prop) : Flow → Shared → Prop
 | nx {s : Shared} (h : I s) : Jn I Q .next s
 | re {v : Value} {s : Shared} (h : Q (.ret v) s) : Jn I Q (.ret v) s
section
variable {prog : Program} {w : World} {A : Around} {h₀ : Heap} {L D : Addr} {m : PySem.Str → Option Value} {s : Shared} {T : Addr × Obj} {news : List (Addr × Obj)} {got w0 w1 : PySem.Str} {tg t1 : Tok} {mid : List PySem.Str} {b0 b1 : Bool} {t : Sem Flow} {Q : Flow → Shared → Prop} {E : Value → Shared → Prop} {xs : Array Value} {n : Nat}
noncomputable def EmN (D : Addr) (got : PySem.Str) (tg : Tok) (e sp : Int) (m : PySem.Str → Option Value) : Prop :=
 m (Str.ofString "ws") = some (.ref D) ∧ m (Str.ofString "got") = some (.str got tg) ∧ (∃ te, m (Str.ofString "endpos") = some (.int e te)) ∧ ∃ ts, m (Str.ofString "startpos") = some (.int sp ts)
theorem EmN.open_ {e sp : Int} (h : EmN D got tg e sp m) : ∃ te ts, m = fun y => if y = Str.ofString "ws" then some (.ref D) else if y = Str.ofString "got" then some (.str got tg) else if y = Str.ofString "endpos" then some (.int e te) else if y = Str.ofString "startpos" then some (.int sp ts) else m y := by
 (revert h; revert D m got tg e sp; fail "CLi"; rename_i D m got tg e sp h; fail "CLm")
 obtain ⟨h1, h2, ⟨te, h3⟩, ts, h4⟩ := h
 refine ⟨te, ts, ?_⟩
 funext y
 by_cases a : y = Str.ofString "ws"
 ·rw [if_pos a, a, h1]
 rw [if_neg a]
 by_cases b : y = Str.ofString "got"
 ·rw [if_pos b, b, h2]
 rw [if_neg b]
 by_cases c : y = Str.ofString "endpos"
 ·rw [if_pos c, c, h3]
 rw [if_neg c]
 by_cases d : y = Str.ofString "startpos"
 ·rw [if_pos d, d, h4]
 rw [if_neg d]
noncomputable def EmI1 (h₀ : Heap) (L D : Addr) (T : Addr × Obj) (news : List (Addr × Obj)) (got w0 w1 : PySem.Str) (tg t1 : Tok) (mid : List PySem.Str) (b0 : Bool) (s s' : Shared) : Prop :=
 ∃ h k m r n sp, s' = { s with heap := h, toks := k } ∧ Fr h₀ L h m ∧ News h₀ L h (T :: (D, listOf (r ++ [Value.str w1 t1]).toArray n) :: news) ∧ EmN D got tg (got.length : Int) sp m ∧ sp = (w0.length : Int) ∧ SV r ((if b0 = true then [] else [w0]) ++ mid) ∧ r.length ≤ 2000 ∧ (b0 = true → Txt.startswith got w0 = true)
noncomputable def EmI2 (h₀ : Heap) (L D : Addr) (T : Addr × Obj) (news : List (Addr × Obj)) (got w0 w1 : PySem.Str) (tg : Tok) (mid : List PySem.Str) (b0 b1 : Bool) (sp : Int) (s s' : Shared) : Prop :=
 ∃ h k m vs n e, s' = { s with heap := h, toks := k } ∧ Fr h₀ L h m ∧ News h₀ L h (T :: (D, listOf (List.toArray vs) n) :: news) ∧ EmN D got tg e sp m ∧ e = (got.length : Int) - w1.length ∧ SV vs (emPs b0 b1 w0 w1 mid) ∧ (b1 = true → Txt.endswith got w1 = true)
theorem join_ {I : Shared → Prop} (h1 : wpAny (model prog w) A t (Jn I Q) E s) (h2 : ∀ s', I s' → Q .next s') : wpAny (model prog w) A t Q E s :=
 wpAny_mono h1 (fun fl s' q => match fl, q with
  | _, .nx i => h2 s' i
  | _, .re i => i) fun _ _ e => e
theorem em_join1 (_F : Fr h₀ L s.heap m) (_N : News h₀ L s.heap (T :: (D, listOf xs n) :: news)) (got w0 w1 : PySem.Str) (tg t1 : Tok) (mid : List PySem.Str) (b0 : Bool)
  (h1 : wpAny (model prog w) A t (Jn (EmI1 h₀ L D T news got w0 w1 tg t1 mid b0 s) Q) E s) (h2 : ∀ s', EmI1 h₀ L D T news got w0 w1 tg t1 mid b0 s s' → Q .next s') : wpAny (model prog w) A t Q E s := join_ h1 h2
theorem em_join2 (_F : Fr h₀ L s.heap m) (_N : News h₀ L s.heap (T :: (D, listOf xs n) :: news)) (got w0 w1 : PySem.Str) (tg : Tok) (mid : List PySem.Str) (b0 b1 : Bool) (sp : Int)
  (h1 : wpAny (model prog w) A t (Jn (EmI2 h₀ L D T news got w0 w1 tg mid b0 b1 sp s) Q) E s) (h2 : ∀ s', EmI2 h₀ L D T news got w0 w1 tg mid b0 b1 sp s s' → Q .next s') : wpAny (model prog w) A t Q E s := join_ h1 h2
end
noncomputable def Hold3 (p : Prop) : Prop := p
theorem Hold3.un {p : Prop} (h : Hold3 p) : p := h
theorem Hold3.mk {p : Prop} (h : p) : Hold3 p := h
local macro_rules | `(tactic| walk_at "exec If Name") => `(tactic| refine Hold3.un ?_)
local macro_rules | `(tactic| walk_at "exec For") => `(tactic| refine Hold3.un ?_)
local macro_rules | `(tactic| walk_at "Jn") => `(tactic| refine Jn.re ?_)
local macro_rules | `(tactic| walk_at "call builtin:str.split") => `(tactic| refine Hold3.un ?_)
local macro_rules | `(tactic| walk_at "call builtin:len") => `(tactic| ((with_reducible show wpAny _ _ (call _ [Value.ref _]) _ _ _); refine Hold3.un ?_))
local macro_rules | `(tactic| walk_at "truthy str") => `(tactic| refine Hold3.un ?_)
local macro_rules | `(tactic| walk_at "call builtin:str.find") => `(tactic| refine call_find4 ?_)
local macro_rules | `(tactic| walk_at "delItem ref int") => `(tactic| refine Hold3.un ?_)
local macro_rules | `(tactic| walk_at "subscriptTail Name UnaryOp ref int") => `(tactic| ((with_reducible show wpAny _ _ (subscriptTail _ _ _ (Value.int (-1) _)) _ _ _); refine Hold3.un ?_))
theorem em_spc (w : World) (want got : PySem.Str) (t t' : Tok) (news : List (Addr × Obj)) (w0 w1 : PySem.Str) (mid : List PySem.Str) 
  (hl : want.length ≤ 1000) (hl' : got.length ≤ 1000) (hmid : mid.length ≤ 1000) (hw0 : w0.length ≤ 1000) (hw1 : w1.length ≤ 1000) (b0 b1 : Bool) (hb0 : ((w0.length : Int) != 0) = b0) (hb1 : ((w1.length : Int) != 0) = b1) (hmx : ∀ x ∈ mid, x.length ≤ 1000) (hc : Txt.contains want (Str.ofString "...") = true) (hs : Txt.split want (Str.ofString "...") = w0 :: (mid ++ [w1])) :
  Spc w 45 1 [.str want t, .str got t'] news (RBool news (ematch got w0 w1 mid)) := by
 intro mean mg mb dp un gd cn cs a ccd cl outer A₀ base h₀ L m s Q E B F X N T hk hd hu hret
 refine wpAny_call ?_
 k_dflt cell_enter
 have hz0 : b0 = false → (w0.length : Int) = 0 := by rintro rfl; simpa using hb0
 have hz1 : b1 = false → (w1.length : Int) = 0 := by rintro rfl; simpa using hb1
 (rename_i zz0 zz1 zz2 zz3 zz4 zz5 zz6 zz7 zz8; revert hl hl' hmid hw0 hw1 hb0 hb1 hmx hc hs B F X N T hk hd hu hret zz3 zz4 zz5 zz6 zz7 zz8 hz0 hz1; revert w want got t t' news w0 w1 mid b0 b1 mean mg mb dp un gd cn cs a ccd cl outer A₀ base h₀ L m s Q E zz0 zz1 zz2; fail "CLi"; rename_i w want got t t' news w0 w1 mid b0 b1 mean mg mb dp un gd cn cs a ccd cl outer A₀ base h₀ L m s Q E zz0 zz1 zz2 hl hl' hmid hw0 hw1 hb0 hb1 hmx hc hs B F X N T hk hd hu hret zz3 zz4 zz5 zz6 zz7 zz8 hz0 hz1; fail "CLm")
 k_steps
 all_goals try (exfalso; unfold Txt.contains at hc; simp_all; done)
 refine Hold3.mk ?_
 refine em_split (by k_asm) (by k_asm) (by assumption) (by decide) (by assumption) (by assumption) ?_
 intro D lm t0 t1 h6 k9 hlm hlen F6 N6 l1
 (revert hlm hlen F6 N6 l1; revert D lm t0 t1 h6 k9; fail "CLi"; rename_i D lm t0 t1 h6 k9 hlm hlen F6 N6 l1; fail "CLm")
 k_steps
 refine Hold3.mk ?_
 rename News _ _ _ _ => N9
 refine len_KM N9 (List.Mem.head _) (by simp only [List.size_toArray, List.length_cons, List.length_append, List.length_nil, strValues, List.length_map]; omega) ?_
 k_steps
 all_goals try (exfalso; simp only [List.size_toArray, List.length_cons, List.length_append, List.length_nil] at *; omega)
 refine Hold3.mk ?_
 rename AllLt _ _ => l9
 rename News _ _ _ _ => N9
 rename Fr _ _ _ _ => F9
 refine em_join1 F9 N9 got w0 w1 t' t1 mid b0 ?_ ?_
 ·refine wpAny_If ?_
  k_steps
  refine Hold3.mk ?_
  refine KXt.truthy (by assumption) (by omega) ?_
  intro _
  cases b0
  ·have hz := hz0 rfl
   (rename_i zz0; revert hb0 hz0 hz; revert zz0; fail "CLi"; rename_i zz0 hb0 hz0 hz; fail "CLm")
   k_steps
   rename News _ _ _ _ => N9
   rename Fr _ _ _ _ => F9
   exact .nx ⟨_, _, _, Value.str w0 t0 :: strValues lm, _, _, rfl, F9, N9, ⟨rfl, rfl, ⟨_, rfl⟩, _, rfl⟩, hz.symm, by simpa using (SV.of hlm).cons w0 t0, by simp only [List.length_cons, strValues, List.length_map]; omega, nofun⟩
  ·(rename_i zz0; revert hb0 hz0; revert zz0; fail "CLi"; rename_i zz0 hb0 hz0; fail "CLm")
   k_steps
   ·refine Hold3.mk ?_
    rename News _ _ _ _ => N9
    rename Fr _ _ _ _ => F9
    refine delItem_first2 F9 N9 (Upd.tail (by k_ne) (Upd.head (fun p hp => Nat.ne_of_lt (ktn_ltOf l9 p hp)))) (by simp only [strValues, List.length_map]; omega) fun h' F' N' => ?_
    clear F9 N9
    (revert F' N'; revert h'; fail "CLi"; rename_i h' F' N'; fail "CLm")
    k_steps
    rename News _ _ _ _ => N9
    rename Fr _ _ _ _ => F9
    exact .nx ⟨_, _, _, strValues lm, _, _, rfl, F9, N9, ⟨rfl, rfl, ⟨_, rfl⟩, _, rfl⟩, rfl, by simpa using SV.of hlm, by simp only [strValues, List.length_map]; omega, fun _ => by assumption⟩
   ·refine hret _ _ _ _ (by k_asm) (cb_drop (by k_asm) (by ktd_sub)) ⟨?_, rfl⟩
    unfold ematch
    simp [*]
 ·intro s1 hI
  (revert hI; revert s1; fail "CLi"; rename_i s1 hI; fail "CLm")
  obtain ⟨h, k, m₁, r, n, sp, rfl, F1, N1, M, hsp, hr, hrl, hst⟩ := hI
  clear F9 N9
  (revert F1 N1 M hsp hr hrl hst; revert h k m₁ r n sp; fail "CLi"; rename_i h k m₁ r n sp F1 N1 M hsp hr hrl hst; fail "CLm")
  obtain ⟨te, ts, M1⟩ := M.open_
  rw [M1] at F1
  clear M1
  (revert F1; revert te ts; fail "CLi"; rename_i te ts F1; fail "CLm")
  k_steps
  refine Hold3.mk ?_
  rename News _ _ _ _ => N9
  refine item_lastM N9 (List.Mem.tail _ (List.Mem.head _)) ?_ (by with_unfolding_all rfl)
  k_steps
  refine Hold3.mk ?_
  rename News _ _ _ _ => N9
  rename Fr _ _ _ _ => F9
  refine em_join2 F9 N9 got w0 w1 t' mid b0 b1 sp ?_ ?_
  ·refine wpAny_If ?_
   k_steps
   refine Hold3.mk ?_
   refine KXt.truthy (by assumption) (by omega) ?_
   intro _
   cases b1
   ·have hz := hz1 rfl
    (rename_i zz0; revert hb1 hz1 hz; revert zz0; fail "CLi"; rename_i zz0 hb1 hz1 hz; fail "CLm")
    k_steps
    rename News _ _ _ _ => N9
    rename Fr _ _ _ _ => F9
    exact .nx ⟨_, _, _, r ++ [Value.str w1 t1], _, _, rfl, F9, N9, ⟨rfl, rfl, ⟨_, rfl⟩, _, rfl⟩, by omega, by simpa [emPs] using hr.snoc w1 t1, nofun⟩
   ·(rename_i zz0; revert hb1 hz1; revert zz0; fail "CLi"; rename_i zz0 hb1 hz1; fail "CLm")
    k_steps
    ·refine Hold3.mk ?_
     rename News _ _ _ _ => N9
     rename Fr _ _ _ _ => F9
     refine delItem_last F9 N9 (Upd.tail (by k_ne) (Upd.head (fun p hp => Nat.ne_of_lt (ktn_ltOf l9 p hp)))) (by omega) fun h' F' N' => ?_
     clear F9 N9
     (revert F' N'; revert h'; fail "CLi"; rename_i h' F' N'; fail "CLm")
     k_steps
     rename News _ _ _ _ => N9
     rename Fr _ _ _ _ => F9
     exact .nx ⟨_, _, _, r, _, _, rfl, F9, N9, ⟨rfl, rfl, ⟨_, rfl⟩, _, rfl⟩, rfl, by simpa [emPs] using hr, fun _ => by assumption⟩
    ·refine hret _ _ _ _ (by k_asm) (cb_drop (by k_asm) (by ktd_sub)) ⟨?_, rfl⟩
     unfold ematch
     rw [hb0, hb1]
     simp [*]
  ·intro s2 hI
   (revert hI; revert s2; fail "CLi"; rename_i s2 hI; fail "CLm")
   obtain ⟨h, k, m₂, vs, n, e, rfl, F2, N2, M2, he, hv, hen⟩ := hI
   clear F9 N9
   (revert F2 N2 M2 he hv hen; revert h k m₂ vs n e; fail "CLi"; rename_i h k m₂ vs n e F2 N2 M2 he hv hen; fail "CLm")
   obtain ⟨te, ts, M3⟩ := M2.open_
   rw [M3] at F2
   clear M3
   have hend : ∀ r, sp ≤ e → (scanTo got e (emPs b0 b1 w0 w1 mid) sp).isSome = r → ematch got w0 w1 mid = r := fun r hle h => em_close hb0 hb1 hsp he hst hen (Int.not_lt.mpr hle) h
   (revert F2 hend; revert te ts; fail "CLi"; rename_i te ts F2 hend; fail "CLm")
   k_steps
   ·refine hret _ _ _ _ (by k_asm) (cb_drop (by k_asm) (by ktd_sub)) ⟨?_, rfl⟩
    unfold ematch
    rw [hb0, hb1, if_neg (by intro hh; simp only [Bool.and_eq_true, Bool.not_eq_true'] at hh; rw [hst hh.1] at hh; cases hh.2), if_neg (by intro hh; simp only [Bool.and_eq_true, Bool.not_eq_true'] at hh; rw [hen hh.1] at hh; cases hh.2), if_pos (by omega)]
   ·refine Hold3.mk ?_
    have hle : sp ≤ e := by omega
    rename News _ _ _ _ => N9
    rename Fr _ _ _ _ => F9
    refine For_invVF F9 rfl rfl ?_
    fail "CLn"
    k_steps
    refine kdl_iter (vs := vs) (EmJ got t' (emPs b0 b1 w0 w1 mid) sp e _) rfl (List.Mem.tail _ (List.Mem.head _)) F9 N9 ⟨rfl, rfl, ⟨_, rfl⟩, _, _, rfl, rfl⟩ ?turn ?done
    case turn =>
     intro i v m₁ nx h tk own hv' hoff hmem hj F₁ N₁
     (revert hv' hoff hmem hj F₁ N₁; revert i v m₁ nx h tk own; fail "CLi"; rename_i i v m₁ nx h tk own hv' hoff hmem hj F₁ N₁; fail "CLm")
     obtain ⟨eo, p, tp, te, hsc, hm⟩ := hj.open_
     (have eo := eo.symm; subst eo)
     (revert hsc hm hoff hmem hj N₁ eo; revert p tp te; fail "CLi"; rename_i p tp te hsc hm hoff hmem hj N₁ eo; fail "CLm")
     obtain ⟨x, tx, rfl, hx⟩ := hv.get hv'
     have hxl := emPs_mem (List.mem_of_getElem? hx) hw0 hw1 hmx
     rw [hm] at F₁
     (revert hx hv' F₁ hxl; revert x tx; fail "CLi"; rename_i x tx hx hv' F₁ hxl; fail "CLm")
     k_steps
     ·exact hret _ _ _ _ (by k_asm) (cb_drop (by k_asm) (by ktd_sub)) ⟨congrArg Value.bool (hend _ hle (scan_fail hsc hx (by assumption))).symm, rfl⟩
     ·exact InvEndG.intro (by k_asm) (by k_asm) ⟨hmem, rfl, rfl, ⟨_, rfl⟩, _, _, rfl, scan_next hsc hx (by assumption)⟩ hoff (fun p hp => List.mem_append_left _ hp) (fun p hp => List.mem_append_right _ hp)
    case done =>
     intro m₁ nx h tk hj F₁ N₁
     (revert hj F₁ N₁; revert m₁ nx h tk; fail "CLi"; rename_i m₁ nx h tk hj F₁ N₁; fail "CLm")
     obtain ⟨eo, p, tp, te, hsc, hm⟩ := hj.open_
     (have eo := eo.symm; subst eo)
     (revert hsc hm hj N₁ eo; revert p tp te; fail "CLi"; rename_i p tp te hsc hm hj N₁ eo; fail "CLm")
     k_steps
     exact hret _ _ _ _ (by k_asm) (cb_drop (by k_asm) (by ktd_sub)) ⟨congrArg Value.bool (hend _ hle (scan_done hsc hv.len)).symm, rfl⟩
end Mine
end
section
open PySem PySem.W PyProof.Rows
namespace Mine
noncomputable def replyOf (ahead mark field zeros tail : PySem.Str) (c : Int) : PySem.Str :=
 Str.ofString "229 " ++ ahead ++ Str.ofString "(" ++ mark ++ field ++ mark ++ mark ++ zeros ++ Str.ofString (toString c) ++ mark ++ Str.ofString ")" ++ tail
noncomputable def replyS (c d : Int) : PySem.Str :=
 replyOf (if (d.fdiv 4).fmod 2 = 0 then Str.ofString "" else Str.ofString "ok) ") (Txt.item (Str.ofString "|!;x") (d.fmod 4)) (if (d.fdiv 8).fmod 2 = 0 then Str.ofString "" else Str.ofString "1")
  (Txt.mul (Str.ofString "0") ((d.fdiv 32).fmod 3)) (if (d.fdiv 16).fmod 2 = 0 then Str.ofString "" else Str.ofString ".(") c
end Mine
end
section
open PySem PySem.W PyProof.Rows
namespace Mine
inductive HIn (news : List (Addr × Obj)) : List Value → List (PySem.Str × PySem.Str) → Prop
 | nil : HIn news [] []
 | cons {q : Addr} {k v : PySem.Str} {tk tv : Tok} {vs : List Value} {hs : List (PySem.Str × PySem.Str)} : (q, tupOf [.str k tk, .str v tv]) ∈ news → HIn news vs hs → HIn news (.ref q :: vs) ((k, v) :: hs)
theorem HIn.mono {news news' : List (Addr × Obj)} (h : ∀ p ∈ news, p ∈ news') {vs : List Value} {hs : List (PySem.Str × PySem.Str)} (x : HIn news vs hs) : HIn news' vs hs := by
 induction x with
 | nil => exact .nil
 | cons m _ ih => exact .cons (h _ m) ih
theorem HIn.length {news : List (Addr × Obj)} {vs : List Value} {hs : List (PySem.Str × PySem.Str)} (x : HIn news vs hs) : vs.length = hs.length := by
 induction x with
 | nil => rfl
 | cons _ _ ih => simp [ih]
theorem HIn.get {news : List (Addr × Obj)} {vs : List Value} {hs : List (PySem.Str × PySem.Str)} (x : HIn news vs hs) : ∀ {i : Nat} {v : Value}, vs[i]? = some v → ∃ q k y tk tv, v = .ref q ∧ (q, tupOf [.str k tk, .str y tv]) ∈ news ∧ hs[i]? = some (k, y) := by
 induction x with
 | nil => intro i v h; cases h
 | cons m _ ih =>
  intro i v h
  cases i with
  | zero => cases h; exact ⟨_, _, _, _, _, rfl, m, rfl⟩
  | succ i => exact ih h
theorem HIn.append {news : List (Addr × Obj)} {vs ws : List Value} {hs ks : List (PySem.Str × PySem.Str)} (x : HIn news vs hs) (y : HIn news ws ks) : HIn news (vs ++ ws) (hs ++ ks) := by
 induction x with
 | nil => exact y
 | cons m _ ih => exact .cons m ih
noncomputable def hget (hs : List (PySem.Str × PySem.Str)) (n : PySem.Str) : Option PySem.Str := (hs.find? fun p => Txt.lower p.1 == n).map (·.2)
structure HdrAt (news : List (Addr × Obj)) (c d l : Addr) (vs : List Value) (n : Nat) (hs : List (PySem.Str × PySem.Str)) : Prop where
 inst : (c, instObj 229 d) ∈ news
 dict : ∃ hsh tk, (d, dictOf [⟨hsh, .str (Str.ofString "_headers") tk, .ref l⟩] 1) ∈ news
 list : (l, listOf vs.toArray n) ∈ news
 pairs : HIn news vs hs
 short : ∀ p ∈ hs, p.1.length ≤ 100 ∧ p.2.length ≤ 100
theorem hget_pre {hs : List (PySem.Str × PySem.Str)} {n : PySem.Str} {i : Nat} {k y : PySem.Str} (h : hget (hs.take i) n = none) (hx : hs[i]? = some (k, y)) :
  ((Txt.lower k == n) = true → hget hs n = some y) ∧ ((Txt.lower k == n) = false → hget (hs.take (i + 1)) n = none) := by
 have e1 : hs.take (i + 1) = hs.take i ++ [(k, y)] := by rw [List.take_add_one, hx]; rfl
 unfold hget at h ⊢
 rw [Option.map_eq_none_iff] at h
 refine ⟨fun hk => ?_, fun hk => ?_⟩
 ·have e2 : hs = (hs.take i ++ [(k, y)]) ++ hs.drop (i + 1) := by rw [← e1, List.take_append_drop]
  rw [e2, List.find?_append, List.find?_append, h]
  simp [hk]
 ·rw [e1, List.find?_append, h]
  simp [hk]
noncomputable def GetJ (lname : PySem.Str) (tn : Tok) (hs : List (PySem.Str × PySem.Str)) (nx0 : List (Addr × Obj)) (dfl : Value) (i : Nat) (m : PySem.Str → Option Value) (nx : List (Addr × Obj)) : Prop :=
 nx = nx0 ∧ m (Str.ofString "name") = some (.str lname tn) ∧ m (Str.ofString "default") = some dfl ∧ hget (hs.take i) lname = none
theorem GetJ.open_ {lname : PySem.Str} {tn : Tok} {hs : List (PySem.Str × PySem.Str)} {nx0 : List (Addr × Obj)} {dfl : Value} {i : Nat} {m : PySem.Str → Option Value} {nx : List (Addr × Obj)} (h : GetJ lname tn hs nx0 dfl i m nx) :
  nx = nx0 ∧ hget (hs.take i) lname = none ∧ m = fun y => if y = Str.ofString "name" then some (.str lname tn) else if y = Str.ofString "default" then some dfl else m y := by
 refine an4 h fun h1 h2 h3 h4 => ?_
 try clear h
 refine ⟨h1, h4, ?_⟩
 funext y
 by_cases a : y = Str.ofString "name"
 ·rw [if_pos a, a, h2]
 rw [if_neg a]
 by_cases b : y = Str.ofString "default"
 ·rw [if_pos b, b, h3]
 rw [if_neg b]
noncomputable def RGet (news : List (Addr × Obj)) (o : Option PySem.Str) (r : Value) (news' : List (Addr × Obj)) : Prop := news' = news ∧ ((o = none ∧ r = .none) ∨ ∃ y t, o = some y ∧ r = .str y t)
structure ClkAt (rest : List (Addr × Obj)) (c d l : Addr) : Prop where
 inst : (c, instObj 229 d) ∈ rest
 dict : ∃ hsh tk, (d, dictOf [⟨hsh, .str (Str.ofString "_headers") tk, .ref l⟩] 1) ∈ rest
 off : ∀ p ∈ rest, p.1 ≠ l
noncomputable def HShort (hs : List (PySem.Str × PySem.Str)) : Prop := ∀ p ∈ hs, p.1.length ≤ 100 ∧ p.2.length ≤ 100
theorem ClkAt.hdr {rest : List (Addr × Obj)} {c d l : Addr} (C : ClkAt rest c d l) {vs : List Value} {n : Nat} {hs : List (PySem.Str × PySem.Str)} (h : HIn rest vs hs) (hs' : HShort hs) : HdrAt ((l, listOf vs.toArray n) :: rest) c d l vs n hs :=
 ⟨.tail _ C.inst, let ⟨a, b, x⟩ := C.dict; ⟨a, b, .tail _ x⟩, .head _, h.mono fun _ hp => .tail _ hp, hs'⟩
noncomputable def RClk (rest core : List (Addr × Obj)) (l : Addr) (hs' : List (PySem.Str × PySem.Str)) (news' : List (Addr × Obj)) : Prop :=
 ∃ vs' n' tl, news' = (l, listOf vs'.toArray n') :: (tl ++ rest) ∧ HIn (tl ++ core) vs' hs' ∧ ∀ p ∈ tl, l < p.1 ∧ ∀ q ∈ rest, q.1 < p.1
noncomputable def hsetdefault (hs : List (PySem.Str × PySem.Str)) (x y : PySem.Str) : PySem.Str × List (PySem.Str × PySem.Str) :=
 match hget hs (Txt.lower x) with
 | none => (y, hs ++ [(x, y)])
 | some z => (z, hs)
theorem hsd_none {hs : List (PySem.Str × PySem.Str)} {x y : PySem.Str} (h : hget hs (Txt.lower x) = none) : hsetdefault hs x y = (y, hs ++ [(x, y)]) := by unfold hsetdefault; rw [h]
theorem hsd_some {hs : List (PySem.Str × PySem.Str)} {x y z : PySem.Str} (h : hget hs (Txt.lower x) = some z) : hsetdefault hs x y = (z, hs) := by unfold hsetdefault; rw [h]
theorem sd_end {rest core : List (Addr × Obj)} {l D : Addr} {vs : List Value} {n : Nat} {hs : List (PySem.Str × PySem.Str)} {x y : PySem.Str} {t u : Tok} (l9 : l < D ∧ AllLt D rest) (hp : HIn core vs hs) (e : hget hs (Txt.lower x) = none) :
  (∃ t', Value.str y u = .str (hsetdefault hs x y).1 t') ∧ RClk rest core l (hsetdefault hs x y).2 ((l, listOf (vs ++ [Value.ref D]).toArray (n + 1)) :: ([(D, tupOf [.str x t, .str y u])] ++ rest)) := by
 rw [hsd_none e]
 refine ⟨⟨u, rfl⟩, _, _, _, rfl, (hp.mono fun _ hp => List.mem_append_right _ hp).append (.cons (.head _) .nil), fun p hp => ?_⟩
 rw [List.mem_singleton.mp hp]
 exact ⟨l9.1, ktn_ltOf l9.2⟩
end Mine
end
section
local macro_rules | `(tactic| omega) => `(tactic| fail "OL")
theorem Mine.clean_A1 : Mine.CleanT := by
 intro M A Q E s h
 w_top off
 first
  | (walk1; fail_if_success skip)
  | exact h
open PySem PySem.W PyProof.Rows
namespace Mine
local macro_rules | `(tactic| walk_at "call builtin:str.find") => `(tactic| refine call_find4 ?_)
local macro_rules | `(tactic| walk_at "call builtin:str.rfind") => `(tactic| refine call_rfind4 ?_)
theorem strip_spc (w : World) (msg : PySem.Str) (t : Tok) (news : List (Addr × Obj)) (c : PySem.Str) (hl : msg.length ≤ 1000) (hf1 : Txt.find msg (Str.ofString "\n") = -1) (hf2 : find4 msg (Str.ofString ":") 0 msg.length = 4) (hf3 : rfind4 msg (Str.ofString ".") 0 4 = 2) (hf4 : Txt.slice msg (some 3) (some 4) = c) :
  Spc w 52 1 [.str msg t] news (RStr news c) := by
 intro mean mg mb dp un gd cn cs a ccd cl outer A₀ base h₀ L m s Q E B F X N T hk hd hu hret
 (revert hl hf1 hf2 hf3 hf4 B F X N T hk hd hu hret; revert w msg t news c mean mg mb dp un gd cn cs a ccd cl outer A₀ base h₀ L m s Q E; fail "CLi"; rename_i w msg t news c mean mg mb dp un gd cn cs a ccd cl outer A₀ base h₀ L m s Q E hl hf1 hf2 hf3 hf4 B F X N T hk hd hu hret; fail "CLm")
 refine wpAny_call ?_
 k_dflt cell_enter
 (rename_i zz0 zz1 zz2 zz3 zz4 zz5 zz6 zz7 zz8; revert zz3 zz4 zz5 zz6 zz7 zz8; revert zz0 zz1 zz2; fail "CLi"; rename_i zz0 zz1 zz2 zz3 zz4 zz5 zz6 zz7 zz8; fail "CLm")
 k_steps
 all_goals (
  rename (0 ≤ Txt.find _ _ ∧ _ ∨ _) => hr
  rw [hf1] at hr
  obtain ⟨h, _⟩ | ⟨_, rfl⟩ := hr
  ·exact absurd h (by decide)
  simp only [hf2, hf3, Int.reduceAdd, hf4] at *)
 all_goals first
  | (exfalso; omega)
  | exact hret _ _ _ _ (by k_asm) (cb_drop (by k_asm) (fun _ h => List.mem_cons_of_mem _ h)) ⟨⟨_, rfl⟩, rfl⟩
end Mine
end
section
local macro_rules | `(tactic| omega) => `(tactic| fail "OL")
theorem Mine.clean_A2 : Mine.CleanT := by
 intro M A Q E s h
 w_top off
 first
  | (walk1; fail_if_success skip)
  | exact h
open PySem PySem.W PyProof.Rows
namespace Mine
local macro_rules | `(tactic| walk_at "call builtin:len") => `(tactic| ((with_reducible show wpAny _ _ (call _ [Value.ref _]) _ _ _); refine Au.un 9 ?_))
local macro_rules | `(tactic| walk_at "subscriptTail Name Constant ref int") => `(tactic| refine Hold.un ?_)
local macro_rules | `(tactic| walk_at "subscriptTail Name Constant ref int") => `(tactic| fail "IL")
theorem five {l : List (PySem.Str × Tok)} (h : (l.length : Int) = 5) : ∃ a b c d e : PySem.Str × Tok, l = [a, b, c, d, e] := by
 match l, h with
 | [a, b, c, d, e], _ => exact ⟨a, b, c, d, e, rfl⟩
 | [], h => simp at h
 | [_], h => simp at h
 | [_, _], h => simp at h
 | [_, _, _], h => simp at h
 | [_, _, _, _], h => simp at h
 | _ :: _ :: _ :: _ :: _ :: _ :: r, h => simp only [List.length_cons] at h; omega
theorem notfive {l : List (PySem.Str × Tok)} {ps : List PySem.Str} (e : l.map (fun x => x.1) = ps) (h : (l.length : Int) ≠ 5) : (match ps with
  | [_, _, _, p3, _] => match PySem.intText? p3 with | some n => Except.ok n | none => Except.error 2
  | _ => (Except.error 1 : Except Nat Int)) = .error 1 := by
 have h2 : ps.length = l.length := by rw [← e, List.length_map]
 split
 ·simp only [List.length_cons, List.length_nil] at h2; omega
 ·rfl
local macro_rules | `(tactic| walk_at "subscriptTail") => `(tactic| ((with_reducible show wpAny _ _ (subscriptTail _ _ (Value.str _ _) (Value.int _ _)) _ _ _); refine Au.un 1 ?_))
theorem parse_all (w : World) (resp : PySem.Str) (t : Tok) (pa : Addr) (host : PySem.Str) (t1 : Tok) (v2 : Value) (news : List (Addr × Obj)) (hp : (pa, tupOf [Value.str host t1, v2]) ∈ news)
  (hl : resp.length ≤ 640) (hb : BrOk resp) (hV : parseK resp ≠ .error 2)
  (mean : ExcName → Option Value) (mg mb : PySem.Str → Option Value) (dp un : Nat) (gd : Option (List Code)) (cn : PySem.Str) (cs : Scope) (a : Addr) (ccd : Value) (cl : List (PySem.Str × Addr)) (outer : List Env) (A₀ : Around) (base h₀ : Heap) (L : Addr) (m : PySem.Str → Option Value) (s : Shared) (Q E : Value → Shared → Prop)
  (B : Below A₀ base outer h₀) (F : Fr h₀ L s.heap m) (X : (hd.heap_1 w.params).In h₀) (N : News h₀ L s.heap news) (T : Top hd.view_39 LO mean mg mb h₀) (hk : cs.kind = .function)
  (hd : dp + 1 < recursionLimit) (hu : un + 8 * 1 < cLine)
  (hN : ∀ n r news' h' tk', parseK resp = .ok n → Fr h₀ L h' m → News h₀ L h' news' → RTup2 news host n r news' → Q r { s with heap := h', toks := tk' })
  (hE : ∀ c g e h' tk', parseK resp = .error c → Fr h₀ L g m → PEnd c resp news base g (envX cn cs L a ccd cl :: outer) e h' → g.UpToSlots h' → E (.ref e) { s with heap := h', toks := tk' }) :
  wpAny (model PR w) (ktrTop dp un gd cn cs L a ccd cl outer) (call (.ref 96) [.str resp t, .ref pa]) Q E s := by
 unfold BrOk at hb
 have D := ktsDicts_nil (g := h₀)
 (revert hp hl hb hV B F X N T hk hd hu hN hE D; revert w resp t pa host t1 v2 news mean mg mb dp un gd cn cs a ccd cl outer A₀ base h₀ L m s Q E; fail "CLi"; rename_i w resp t pa host t1 v2 news mean mg mb dp un gd cn cs a ccd cl outer A₀ base h₀ L m s Q E hp hl hb hV B F X N T hk hd hu hN hE D; fail "CLm")
 refine wpAny_call ?_
 k_dflt cell_enter
 (rename_i zz0 zz1 zz2 zz3 zz4 zz5 zz6 zz7 zz8; revert zz3 zz4 zz5 zz6 zz7 zz8; revert zz0 zz1 zz2; fail "CLi"; rename_i zz0 zz1 zz2 zz3 zz4 zz5 zz6 zz7 zz8; fail "CLm")
 (k_steps; repeat' ((with_reducible refine Au.mk 9 ?_); (with_reducible rename (List.map _ _ = _) => hk9); (refine len_strs (News.isList (by assumption) (.head _)) (by have := len_le_of_split hk9; omega) ?_); (revert hk9; intro _); k_steps))
 ·rename RaisedS _ _ _ _ _ _ _ _ _ => S
  rename Heap.UpToSlots _ _ => U
  exact hE 0 _ _ _ _ (by unfold parseK; simp only [*, if_true]) (by assumption) ⟨_, _, _, _, S, fun _ h => h, rfl, _, rfl⟩ U
 ·rename RaisedS _ _ _ _ _ _ _ _ _ => S
  rename Heap.UpToSlots _ _ => U
  exact hE 1 _ _ _ _ (by unfold parseK; simp only [*, if_true, Bool.false_eq_true, if_false]) (by assumption) ⟨_, _, _, _, S, fun _ h => h, rfl, _, rfl⟩ U
 ·rename RaisedS _ _ _ _ _ _ _ _ _ => S
  rename Heap.UpToSlots _ _ => U
  exact hE 1 _ _ _ _ (by unfold parseK; simp only [*, if_true, Bool.false_eq_true, if_false]) (by assumption) ⟨_, _, _, _, S, fun _ h => h, rfl, _, rfl⟩ U
 ·rename RaisedS _ _ _ _ _ _ _ _ _ => S
  rename Heap.UpToSlots _ _ => U
  exact hE 1 _ _ _ _ (by unfold parseK; simp only [*, if_true, Bool.false_eq_true, if_false]) (by assumption) ⟨_, _, _, _, S, fun _ h => h, rfl, _, rfl⟩ U
 ·rename RaisedS _ _ _ _ _ _ _ _ _ => S
  rename Heap.UpToSlots _ _ => U
  rename (_ : Int) ≠ 5 => h5
  rename (List.map _ _ = Txt.split _ _) => e
  exact hE 1 _ _ _ _ (by unfold parseK; simp only [if_true, Bool.false_eq_true, if_false, *]; exact notfive e h5) (by assumption) ⟨_, _, _, _, S, fun p hp => .tail _ hp, rfl, _, rfl⟩ U
 rename (_ : Int) = 5 => h5
 obtain ⟨⟨a1, u1⟩, ⟨a2, u2⟩, ⟨a3, u3⟩, ⟨a4, u4⟩, ⟨a5, u5⟩, rfl⟩ := five h5
 rename News _ _ _ _ => N'
 simp only [strValues, List.map_cons, List.map_nil] at N'
 refine Hold.mk ?_
 refine item_tupleT (News.isTup N' (List.Mem.tail _ hp)) (by decide) (by decide) rfl rfl ?_
 (rename_i zz0 zz1 zz2 zz3; revert zz0 zz1 zz2 zz3 h5 N'; revert a1 u1 a2 u2 a3 u3 a4 u4 a5 u5; fail "CLi"; rename_i a1 u1 a2 u2 a3 u3 a4 u4 a5 u5 zz0 zz1 zz2 zz3 h5 N'; fail "CLm")
 (k_steps; repeat' ((with_reducible refine Au.mk 9 ?_); (with_reducible rename (List.map _ _ = _) => hk9); (refine len_strs (News.isList (by assumption) (.head _)) (by have := len_le_of_split hk9; omega) ?_); (revert hk9; intro _); k_steps))
 rename (List.map _ _ = Txt.split _ _) => e
 rename (∀ a ∈ List.map _ _, _ ≤ _) => hle
 rename ((Txt.slice resp (some _) (some _)).length ≤ _) => hle2
 simp only [List.map_cons, List.map_nil] at e hle
 have hl4 := hle a4 (.tail _ (.tail _ (.tail _ (.head _))))
 have hpk : parseK resp = match PySem.intText? a4 with | some n => .ok n | none => .error 2 := by
  unfold parseK
  revert e
  clear hle hN hE
  simp only [Bool.false_eq_true, if_false, *]
  intro e
  rw [← e]
  all_goals (try dsimp only)
  all_goals (cases PySem.intText? a4 <;> rfl)
 cases hi : PySem.intText? a4 with
 | none =>
  rw [hi] at hpk
  exact absurd hpk hV
 | some n =>
  rw [hi] at hpk
  refine KIN.call_text hi (by omega) ?_
  (revert e hle hl4 hpk hi; revert n; fail "CLi"; rename_i n e hle hl4 hpk hi; fail "CLm")
  k_steps
  rename _ ∧ AllLt _ _ => l1
  rename News _ _ _ _ => N9
  exact hN n _ _ _ _ hpk (by k_asm) (fun p hp => N9 p (by rcases List.mem_cons.mp hp with rfl | hp; exact .head _; exact .tail _ (.tail _ hp))) ⟨_, _, _, rfl, rfl, ktn_ltOf l1.2⟩
end Mine
end
section
local macro_rules | `(tactic| omega) => `(tactic| fail "OL")
theorem Mine.clean_A4 : Mine.CleanT := by
 intro M A Q E s h
 w_top off
 first
  | (walk1; fail_if_success skip)
  | exact h
open PySem PySem.W PyProof.Rows
namespace Mine
theorem li_0_A4 : (Str.ofString "229 ").length = 4 := by decide
theorem li_1_A4 : (Str.ofString "(").length = 1 := by decide
theorem li_2_A4 : (Str.ofString ")").length = 1 := by decide
local macro_rules | `(tactic| walk_at "subscriptTail") => `(tactic| ((with_reducible show wpAny _ _ (subscriptTail _ _ (Value.ref _) (Value.int _ _)) _ _ _); refine Au.un 4 ?_))
local macro_rules | `(tactic| walk_at "binaryOp Add str str") => `(tactic| refine Au.un 1 ?_)
local macro_rules | `(tactic| walk_at "binaryOp Mult str int") => `(tactic| refine Au.un 2 ?_)
local macro_rules | `(tactic| walk_at "call type:str") => `(tactic| refine Au.un 3 ?_)
theorem reply_spc (w : World) (c d : Int) (t t' : Tok) (news : List (Addr × Obj)) (hc : 0 ≤ c) (hc' : c < 10) (hd1 : -1000000 ≤ d) (hd2 : d ≤ 1000000)  :
  Spc w 245 1 [.int c t, .int d t'] news (RStr news (replyS c d)) := by
 intro mean mg mb dp un gd cn cs a ccd cl outer A₀ base h₀ L m s Q E B F X N T hk hd hu hret
 (revert hc hc' hd1 hd2 B F X N T hk hd hu hret; revert w c d t t' news mean mg mb dp un gd cn cs a ccd cl outer A₀ base h₀ L m s Q E; fail "CLi"; rename_i w c d t t' news mean mg mb dp un gd cn cs a ccd cl outer A₀ base h₀ L m s Q E hc hc' hd1 hd2 B F X N T hk hd hu hret; fail "CLm")
 refine wpAny_call ?_
 k_dflt cell_enter
 (rename_i zz0 zz1 zz2 zz3 zz4 zz5 zz6 zz7 zz8; revert zz3 zz4 zz5 zz6 zz7 zz8; revert zz0 zz1 zz2; fail "CLi"; rename_i zz0 zz1 zz2 zz3 zz4 zz5 zz6 zz7 zz8; fail "CLm")
 (k_steps; repeat' ((first | ((with_reducible refine Au.mk 1 ?_); ((k_here; refine KOpn.add (by ((try simp only [PySem.Str.length_append]); (try kopn_lits); (try simp only [li_0_A4, li_1_A4, li_2_A4]); omega)) ?_; intro t'z kz hlenz))) | ((with_reducible refine Au.mk 2 ?_); ((k_here; refine mul_B 3 (by decide) (fmod_lo _ (by decide)) (fmod_hi _ (by decide)) (by decide) ?_; intro t'z kz hmulz))) | ((with_reducible refine Au.mk 3 ?_); ((k_here; refine strInt_B (by omega) (by omega) ?_; intro t'z kz hstrz))) | ((with_reducible refine Au.mk 4 ?_); ((k_here; (with_reducible show wpAny _ _ (subscriptTail _ _ (Value.ref _) (Value.int _ _)) _ _ _); (with_reducible rename News _ _ _ _ => N9z); refine' item_twoB 4 N9z (List.Mem.head _) ?lo ?hi (by decide) (by decide) ?_ ?q; (case lo => exact fmod_lo _ (by decide)); (case hi => exact fmod_hi _ (by decide)); (case q => with_unfolding_all rfl); k_whole; intro zz tkz hzz hzlz)))) <;> k_steps))
 subst_vars
 exact hret _ _ _ _ (by k_asm) (cb_drop (by k_asm) (by ktd_sub)) ⟨⟨_, rfl⟩, rfl⟩
end Mine
end
section
theorem Mine.clean_A5 : Mine.CleanT := by
 intro M A Q E s h
 w_top off
 first
  | (walk1; fail_if_success skip)
  | exact h
open PySem PySem.W PyProof.Rows
namespace Mine
local macro_rules | `(tactic| walk_at "getMethod ref") => `(tactic| ((with_reducible show wpAny _ _ (getMethod (Value.ref _) (PySem.Str.ofString "search") _) _ _ _); refine Au.un 2 ?_))
local macro_rules | `(tactic| walk_at "call builtin:re.Pattern.search") => `(tactic| refine Au.un 1 ?_)
theorem conv_spc (w : World) (self : Value) (x : PySem.Str) (t : Tok) (b : Bool) (news : List (Addr × Obj)) (hx : Plain x) (hl : x.length ≤ 100000) :
  SpcK w 128 1 [self, .str x t] [(Str.ofString "name", .bool b)] news (fun r news' => r = .str x t ∧ news' = news) := by
 intro mean mg mb dp un gd cn cs a ccd cl outer A₀ base h₀ L m s Q E B F X N T hk hd hu hret
 refine wpAny_call ?_
 k_dflt cell_enter
 cases b
 ·(k_steps; repeat' ((first | ((with_reducible refine Au.mk 1 ?_); ((k_here; k_dflt (first | (refine' search_none (p := 106) (cl := 105) (code := codeV) ?P (fun c a b seen => inSet_V c a b seen) ?f ?x ?z ?_; (case P => (refine' pat_K ?X ?l ?l2 ?c ?d ?h6 ?h2 ?h5 ?d2 ?co; (case X => k_in); (case l => k_is); (case l2 => k_is); (case c => rfl); (case d => rfl); (case h6 => rfl); (case h2 => rfl); (case h5 => rfl); (case d2 => rfl); (case co => decide +kernel))); (case f => rfl); (case x => assumption); (case z => omega)) | (refine' search_none (p := 101) (cl := 100) (code := codeN) ?P (fun c a b seen => inSet_N c a b seen) ?f ?x ?z ?_; (case P => (refine' pat_K ?X ?l ?l2 ?c ?d ?h6 ?h2 ?h5 ?d2 ?co; (case X => k_in); (case l => k_is); (case l2 => k_is); (case c => rfl); (case d => rfl); (case h6 => rfl); (case h2 => rfl); (case h5 => rfl); (case d2 => rfl); (case co => decide +kernel))); (case f => rfl); (case x => assumption); (case z => omega)))))) | ((with_reducible refine Au.mk 2 ?_); ((k_here; (with_reducible show wpAny _ _ (getMethod (Value.ref _) (PySem.Str.ofString "search") _) _ _ _); k_dflt (refine' re_method ?X ?l ?c ?d ?_; (case X => k_in); (case l => k_is); (case c => rfl); (case d => rfl); k_whole))))) <;> k_steps))
  exact hret _ _ _ _ (by k_asm) (cb_drop (by k_asm) (by ktd_sub)) ⟨rfl, rfl⟩
 ·(k_steps; repeat' ((first | ((with_reducible refine Au.mk 1 ?_); ((k_here; k_dflt (first | (refine' search_none (p := 106) (cl := 105) (code := codeV) ?P (fun c a b seen => inSet_V c a b seen) ?f ?x ?z ?_; (case P => (refine' pat_K ?X ?l ?l2 ?c ?d ?h6 ?h2 ?h5 ?d2 ?co; (case X => k_in); (case l => k_is); (case l2 => k_is); (case c => rfl); (case d => rfl); (case h6 => rfl); (case h2 => rfl); (case h5 => rfl); (case d2 => rfl); (case co => decide +kernel))); (case f => rfl); (case x => assumption); (case z => omega)) | (refine' search_none (p := 101) (cl := 100) (code := codeN) ?P (fun c a b seen => inSet_N c a b seen) ?f ?x ?z ?_; (case P => (refine' pat_K ?X ?l ?l2 ?c ?d ?h6 ?h2 ?h5 ?d2 ?co; (case X => k_in); (case l => k_is); (case l2 => k_is); (case c => rfl); (case d => rfl); (case h6 => rfl); (case h2 => rfl); (case h5 => rfl); (case d2 => rfl); (case co => decide +kernel))); (case f => rfl); (case x => assumption); (case z => omega)))))) | ((with_reducible refine Au.mk 2 ?_); ((k_here; (with_reducible show wpAny _ _ (getMethod (Value.ref _) (PySem.Str.ofString "search") _) _ _ _); k_dflt (refine' re_method ?X ?l ?c ?d ?_; (case X => k_in); (case l => k_is); (case c => rfl); (case d => rfl); k_whole))))) <;> k_steps))
  exact hret _ _ _ _ (by k_asm) (cb_drop (by k_asm) (by ktd_sub)) ⟨rfl, rfl⟩
end Mine
end
section
local macro_rules | `(tactic| omega) => `(tactic| fail "OL")
theorem Mine.clean_A6 : Mine.CleanT := by
 intro M A Q E s h
 w_top off
 first
  | (walk1; fail_if_success skip)
  | exact h
open PySem PySem.W PyProof.Rows
namespace Mine
local macro_rules | `(tactic| walk_at "call ref") => `(tactic| refine Au.un 1 ?_)
local macro_rules | `(tactic| walk_at "exec For") => `(tactic| refine Hold.un ?_)
local macro_rules | `(tactic| walk_at "pyIter ref") => `(tactic| refine Hold.un ?_)
theorem get_spc (w : World) (c d l : Addr) (vs : List Value) (n : Nat) (hs : List (PySem.Str × PySem.Str)) (x : PySem.Str) (t : Tok) (news : List (Addr × Obj)) (H : HdrAt news c d l vs n hs) (hx : Plain (Txt.lower x)) (hl : x.length ≤ 100) :
  Spc w 176 2 [.ref c, .str x t] news (RGet news (hget hs (Txt.lower x))) := by
 obtain ⟨h1, ⟨hsh, dtk, h2⟩, h3, h4, h5⟩ := H
 intro mean mg mb dp un gd cn cs a ccd cl outer A₀ base h₀ L m s Q E B F X N T hk hd hu hret
 (revert hx hl h1 h3 h4 h5 h2 B F X N T hk hd hu hret; revert w c d l vs n hs x t news hsh dtk mean mg mb dp un gd cn cs a ccd cl outer A₀ base h₀ L m s Q E; fail "CLi"; rename_i w c d l vs n hs x t news hsh dtk mean mg mb dp un gd cn cs a ccd cl outer A₀ base h₀ L m s Q E hx hl h1 h3 h4 h5 h2 B F X N T hk hd hu hret; fail "CLm")
 refine wpAny_call ?_
 k_dflt (refine' code_def ?k1 ?k2 ?k3 ?k4 ?k5 ?kA ?kF ?kK ?k6 ?k7 ?k8 ?k9 ?kB ?_ ?c2 ?c3 ?c4 ?c5; (case kA => exact rfl); (case kF => exact rfl); (case kK => assumption); (case k1 => k_asm); (case k2 => k_asm); (case k3 => k_asm); (case k4 => k_asm); (case k5 => k_asm); (case k6 => k_is); (case k7 => k_is); (case k8 => ktr_room); (case k9 => first | exact BindsTo.of_eq rfl | exact binds_K (by k_in) rfl (by k_is) rfl rfl rfl); (case c5 => decide); (case kB => exact locs rfl); (case c2 => exact rfl); (case c3 => exact rfl); (case c4 => exact rfl); k_whole; intro g' L' h' FG' F' N' B' X' T'; (try dsimp only); (try k_lift B'); (try k_fold))
 (revert FG' F' N' B' X' T'; revert g' L' h'; fail "CLi"; rename_i g' L' h' FG' F' N' B' X' T'; fail "CLm")
 (k_steps; repeat' (((with_reducible refine Au.mk 1 ?_); ((k_here; k_dflt (refine' conv_spc _ _ _ _ _ _ ?hx ?hl _ _ _ _ _ _ _ _ _ _ _ _ _ _ _ _ _ _ _ _ ?B ?F ?X ?N ?T ?ck ?dd ?uu ?_; (case B => k_asm); (case F => k_asm); (case X => k_asm); (case N => k_asm); (case T => k_asm); (case ck => first | exact rfl | assumption); (case dd => ktr_room); (case uu => ktr_units); (case hx => assumption); (case hl => omega)); intro _ _ _ _ _ N9z e9z; obtain ⟨e9z, e8z⟩ := e9z; (have e9z := e9z.symm; subst e9z); (have e8z := e8z.symm; subst e8z); (try dsimp only); (try k_fold)))) <;> k_steps))
 refine Hold.mk ?_
 rename News _ _ _ _ => N9
 rename Fr _ _ _ _ => F9
 refine For_turns F9 ?_
 k_steps
 refine Hold.mk ?_
 refine kt_list (GetJ _ _ hs _ _) rfl (by k_mem) F9 N9 ⟨rfl, rfl, rfl, rfl⟩ ?turn ?done
 case turn =>
  intro i v m₁ nx h tk own hv hoff hmem hj F₁ N₁
  obtain ⟨eo, hsc, hm⟩ := hj.open_
  (have eo := eo.symm; subst eo)
  obtain ⟨q, k, y, tk1, tv1, rfl, hq, hx⟩ := h4.get hv
  have hkl := (h5 _ (List.mem_of_getElem? hx)).1
  rw [hm] at F₁
  (revert F₁ hsc hm hoff hmem hj N₁ eo hv hq hx hkl; revert i m₁ h tk own q k y tk1 tv1; fail "CLi"; rename_i i m₁ h tk own q k y tk1 tv1 F₁ hsc hm hoff hmem hj N₁ eo hv hq hx hkl; fail "CLm")
  k_steps
  ·exact hret _ _ _ _ (by k_asm) (cb_drop (by k_asm) (by ktd_sub)) ⟨rfl, .inr ⟨_, _, (hget_pre hsc hx).1 (by assumption), rfl⟩⟩
  ·exact InvEndG.intro (by k_asm) (by k_asm) ⟨hmem, rfl, rfl, rfl, (hget_pre hsc hx).2 (by assumption)⟩ hoff (fun p hp => List.mem_append_left _ hp) (fun p hp => List.mem_append_right _ hp)
 case done =>
  intro m₁ nx h tk hj F₁ N₁
  obtain ⟨eo, hsc, hm⟩ := hj.open_
  (have eo := eo.symm; subst eo)
  rw [hm] at F₁
  (revert F₁ hsc hm hj N₁ eo; revert m₁ h tk; fail "CLi"; rename_i m₁ h tk F₁ hsc hm hj N₁ eo; fail "CLm")
  k_steps
  rw [h4.length, List.take_length] at hsc
  exact hret _ _ _ _ (by k_asm) (cb_drop (by k_asm) (by ktd_sub)) ⟨rfl, .inl ⟨hsc, rfl⟩⟩
end Mine
end
section
local macro_rules | `(tactic| omega) => `(tactic| fail "OL")
theorem Mine.clean_A7 : Mine.CleanT := by
 intro M A Q E s h
 w_top off
 first
  | (walk1; fail_if_success skip)
  | exact h
open PySem PySem.W PyProof.Rows
namespace Mine
local macro_rules | `(tactic| k_all) => `(tactic| assumption)
local macro_rules | `(tactic| k_mem) => `(tactic| assumption)
local macro_rules | `(tactic| walk_at "call ref") => `(tactic| refine Au.un 1 ?_)
local macro_rules | `(tactic| walk_at "call builtin:list.append") => `(tactic| refine Hold.un ?_)
theorem setdefault_spc (w : World) (c d l : Addr) (vs : List Value) (n : Nat) (hs : List (PySem.Str × PySem.Str)) (x y : PySem.Str) (t u : Tok) (rest : List (Addr × Obj)) (C : ClkAt rest c d l) (core : List (Addr × Obj)) (hsub : ∀ p ∈ core, p ∈ rest) (hp : HIn core vs hs) (hsh : HShort hs) (hlen : hs.length ≤ 100)
  (hx : Plain (Txt.lower x)) (hx' : Plain x) (hy : Plain y) (hl : x.length ≤ 100) (hl' : y.length ≤ 100) :
  Spc w 219 3 [.ref c, .str x t, .str y u] ((l, listOf vs.toArray n) :: rest) (fun r news' => (∃ t', r = .str (hsetdefault hs x y).1 t') ∧ RClk rest core l (hsetdefault hs x y).2 news') := by
 have H := C.hdr (n := n) (hp.mono hsub) hsh
 obtain ⟨c1, ⟨hsh1, dtk, c2⟩, c3⟩ := C
 intro mean mg mb dp un gd cn cs a ccd cl outer A₀ base h₀ L m s Q E B F X N T hk hd hu hret
 (revert hsub hp hsh hlen hx hx' hy hl hl' H c1 c3 c2 B F X N T hk hd hu hret; revert w c d l vs n hs x y t u rest core hsh1 dtk mean mg mb dp un gd cn cs a ccd cl outer A₀ base h₀ L m s Q E; fail "CLi"; rename_i w c d l vs n hs x y t u rest core hsh1 dtk mean mg mb dp un gd cn cs a ccd cl outer A₀ base h₀ L m s Q E hsub hp hsh hlen hx hx' hy hl hl' H c1 c3 c2 B F X N T hk hd hu hret; fail "CLm")
 refine wpAny_call ?_
 k_dflt (refine' code_def ?k1 ?k2 ?k3 ?k4 ?k5 ?kA ?kF ?kK ?k6 ?k7 ?k8 ?k9 ?kB ?_ ?c2 ?c3 ?c4 ?c5; (case kA => exact rfl); (case kF => exact rfl); (case kK => assumption); (case k1 => k_asm); (case k2 => k_asm); (case k3 => k_asm); (case k4 => k_asm); (case k5 => k_asm); (case k6 => k_is); (case k7 => k_is); (case k8 => ktr_room); (case k9 => first | exact BindsTo.of_eq rfl | exact binds_K (by k_in) rfl (by k_is) rfl rfl rfl); (case c5 => decide); (case kB => exact locs rfl); (case c2 => exact rfl); (case c3 => exact rfl); (case c4 => exact rfl); k_whole; intro g' L' h' FG' F' N' B' X' T'; (try dsimp only); (try k_lift B'); (try k_fold))
 (revert FG' F' N' B' X' T'; revert g' L' h'; fail "CLi"; rename_i g' L' h' FG' F' N' B' X' T'; fail "CLm")
 (k_steps; repeat' (((with_reducible refine Au.mk 1 ?_); (first | ((k_here; k_dflt (refine' get_spc _ _ _ _ _ _ _ _ _ _ ?HH ?hx ?hl _ _ _ _ _ _ _ _ _ _ _ _ _ _ _ _ _ _ _ _ ?B ?F ?X ?N ?T ?ck ?dd ?uu ?_; (case B => k_asm); (case F => k_asm); (case X => k_asm); (case N => k_asm); (case T => k_asm); (case ck => first | exact rfl | assumption); (case dd => ktr_room); (case uu => ktr_units); (case HH => assumption); (case hx => assumption); (case hl => omega)); intro _ _ _ _ _ N9z e9z; obtain ⟨e8z, e9z⟩ := e9z; rw [e8z] at N9z; clear e8z; obtain ⟨e9az, e9z⟩ | ⟨z9z, t9z, e9az, e9z⟩ := e9z <;> (have e9z := e9z.symm; subst e9z) <;> (try dsimp only) <;> (try k_fold))) | ((k_here; k_dflt (refine' conv_spc _ _ _ _ _ _ ?hx ?hl _ _ _ _ _ _ _ _ _ _ _ _ _ _ _ _ _ _ _ _ ?B ?F ?X ?N ?T ?ck ?dd ?uu ?_; (case B => k_asm); (case F => k_asm); (case X => k_asm); (case N => k_asm); (case T => k_asm); (case ck => first | exact rfl | assumption); (case dd => ktr_room); (case uu => ktr_units); (case hx => assumption); (case hl => omega)); intro _ _ _ _ _ N9z e9z; obtain ⟨e9z, e8z⟩ := e9z; rw [e8z] at N9z; clear e8z; (have e9z := e9z.symm; subst e9z); (try dsimp only); (try k_fold))))) <;> k_steps))
 ·rename hget _ _ = _ => e9a
  rename News _ _ _ _ => N9
  rename Fr _ _ _ _ => F9
  rename l < _ ∧ AllLt _ rest => l9
  refine Hold.mk ?_
  refine append_K F9 N9 (Upd.tail ?_ (Upd.head c3)) ?_ ?_
  ·exact Nat.ne_of_gt l9.1
  ·intro h8 F8 N8
   rw [List.push_toArray] at N8
   clear N9 F9
   (rename_i zz0 zz1 zz2 zz3 zz4 zz5 zz6 zz7 zz8; revert zz3 e9z l9 F8 N8; revert zz0 zz1 zz2 zz4 zz5 zz6 zz7 zz8 h8; fail "CLi"; rename_i zz0 zz1 zz2 zz4 zz5 zz6 zz7 zz8 h8 zz3 e9z l9 F8 N8; fail "CLm")
   k_steps
   rename News _ _ _ _ => N7
   refine hret _ _ _ _ (by k_asm) (fun p hp => N7 p ?_) (sd_end (t := t) (n := n) l9 hp e9a)
   rcases List.mem_cons.mp hp with rfl | hp
   ·exact .tail _ (.head _)
   ·rcases List.mem_append.mp hp with hp | hp
    ·rw [List.mem_singleton.mp hp]; exact .head _
    ·exact .tail _ (.tail _ hp)
  ·rw [List.size_toArray, hp.length, sizeLine_eq]; omega
 ·rename hget _ _ = _ => e9a
  refine hret _ _ _ _ (by k_asm) (by k_asm) ⟨⟨_, (congrArg (fun z => Value.str z.1 _) (hsd_some e9a)).symm⟩, vs, n, [], rfl, ?_, fun _ h => nomatch h⟩
  rw [hsd_some e9a]
  exact hp
end Mine
end
section
open PySem PySem.W PySem.Spec PySem.Calls PyProof.Rows
namespace Mine
theorem bounds_all (n : Nat) : sliceBounds none none none n = (0, (n : Int), 1) := by
 simp [sliceBounds]
section
variable {prog : Program} {w : World} {A : Around} {E : Value → Shared → Prop} {s : Shared} {h₀ : Heap} {L : Addr} {m : PySem.Str → Option Value} {news news' : List (Addr × Obj)}
theorem setItem_all_raw {l sl D : Addr} {its ys : Array Value} {n k : Nat} {Q : Unit → Shared → Prop} (hl : s.heap.get? l = some (listOf its n)) (hD : s.heap.get? D = some (listOf ys k)) (hs : s.heap.IsSliceOf sl .none .none .none) (hne : l ≠ D) (hsz : its.size ≤ 10000) (hsz' : ys.size ≤ 10000)
  (h : ∀ h' n', h'.get? l = some (listOf ys n') → Heap.SameBut l s.heap h' → Q () { s with heap := h' }) : wpAny (model prog w) A (setItem (.ref l) (.ref sl) (.ref D)) Q E s := by
 refine ex1 (id hs) fun os h9_55 => an3 h9_55 fun hos hcs hds => ?_
 clear h9_55
 have hTs : s.TypeIs (.ref sl) "slice" := ⟨os, hos, hcs⟩
 have hTl : s.TypeIs (.ref l) "list" := ⟨_, hl, rfl⟩
 have hTD : s.TypeIs (.ref D) "list" := ⟨_, hD, rfl⟩
 unfold setItem
 try with_reducible refine wpAny_holding ?_
 first | refine wpAny_bind (wpAny_pure ?_) | skip
 refine wpAny_bind (wpAny_sequenceKey hTl (by decide) ?_)
 refine wpAny_bind (wpAny_callSpecial?_slot (name := Str.ofString "__setitem__") hTl slot_list_setitem
  (wpAny_call_entry slot_list_setitem hTl entry_list_setitem ?_ (args_list_setitem _ _ _)))
 show wpAny _ _ (Builtin.List.listSubscript? (.ref sl) >>= _) _ _ s
 refine wpAny_bind ?_
 unfold Builtin.List.listSubscript?
 refine wpAny_bind (wpAny_specialOf hTs slice_no_index ?_)
 simp only [Option.isNone_none, if_true]
 refine wpAny_pure ?_
 show wpAny _ _ (typeOf (.ref sl) >>= _) _ _ s
 refine wpAny_bind (wpAny_typeOf hTs ?_)
 rw [if_neg (by decide)]
 rw [listSliceParts_eq]
 refine wpAny_bind (wpAny_bind (wpAny_field hos hds (x := .none) rfl (wpAny_bind (wpAny_listPart .none ?_))))
 rw [if_neg (show ¬ ((rawPart none == rawInt 0) = true) from Bool.false_ne_true)]
 refine wpAny_bind (wpAny_field hos hds (x := .none) rfl (wpAny_bind (wpAny_listPart .none ?_)))
 refine wpAny_bind (wpAny_field hos hds (x := .none) rfl (wpAny_bind (wpAny_listPart .none (wpAny_pure ?_))))
 have hsame : Builtin.List.listSameRef (.ref l) (.ref D) = false := by
  show (l == D) = false
  simpa using hne
 simp only [hsame]
 rw [if_neg Bool.false_ne_true]
 refine wpAny_bind ?_
 unfold Builtin.List.listAllItems
 refine wpAny_bind (wpAny_typeOf hTD ?_)
 rw [if_pos (by decide)]
 unfold Builtin.List.listItems
 refine wpAny_bind (wpAny_seqItems hD rfl (wpAny_pure ?_))
 refine wpAny_bind (wpAny_bind (wpAny_seqItems hl rfl (wpAny_pure ?_)))
 refine wpAny_bind (wpAny_of_eq (sliceIndices_raw none none none its.size (by simp)) ?_)
 rw [bounds_all]
 dsimp only
 rw [if_pos (show ((1 : Int) == 1) = true from rfl)]
 refine wpAny_bind (wpAny_rule ?_)
 have hlong : ¬ (Builtin.List.listTooLong (its.size + ys.size) = true) := by
  simp only [Builtin.List.listTooLong, decide_eq_true_eq, sizeLine_eq]; exact lin [_,_] [] [(1,.v 0,.n 10000),(1,.v 1,.n 10000)] (3,.n 16777216,.a (.v 0) (.v 1)) [1,1,1] [] rfl hsz hsz'
 rw [if_neg hlong]
 have e1 : its.extract 0 (0 : Int).toNat ++ ys ++ its.extract (max (0 : Int) (its.size : Int)).toNat its.size = ys := by
  simp
 refine wpAny_bind ?_
 show wpAny _ _ (updateSeq l fun xs => xs.extract 0 (0 : Int).toNat ++ ys ++ xs.extract (max (0 : Int) (its.size : Int)).toNat xs.size) _ _ s
 refine wpAny_updateSeq hl rfl ?_ (by rw [sizeLine_eq]; exact lin [_] [] [(1,.v 0,.n 10000)] (1,.v 0,.n 16777216) [1,1] [] rfl hsz) (by rw [e1, sizeLine_eq]; exact lin [_] [] [(1,.v 0,.n 10000)] (1,.v 0,.a (.n 16777216) (.n 1)) [1,1] [] rfl hsz')
 refine wpAny_bind (wpAny_letGo ?_)
 have hd' : ∃ n', Obj.mapSeq (fun xs => xs.extract 0 (0 : Int).toNat ++ ys ++ xs.extract (max (0 : Int) (its.size : Int)).toNat xs.size) (listOf its n) = listOf ys n' := by
  unfold Obj.mapSeq W.listOf
  dsimp only
  rw [e1]
  exact ⟨_, rfl⟩
 refine ex1 hd' fun n' hd' => ?_
 refine wpAny_pure ⟨.none, rfl, wpAny_pure (h _ n' ?_ (Heap.SameBut.update ..))⟩
 rw [Heap.get?_update_self _ hl (by rw [hd']; rfl), hd']
theorem setItem_all {l D : Addr} {vs ys : List Value} {n k : Nat} {rest : List (Addr × Obj)} {Q : Unit → Shared → Prop} (F : Fr h₀ L s.heap m) (N : News h₀ L s.heap ((l, listOf vs.toArray n) :: rest)) (hD : (D, listOf ys.toArray k) ∈ rest) (hoff : ∀ p ∈ rest, p.1 ≠ l) (hsz : vs.length ≤ 10000) (hsz' : ys.length ≤ 10000)
  (h : ∀ h' n', Fr h₀ L h' m → News h₀ L h' ((l, listOf ys.toArray n') :: rest) → Q () { s with heap := h' }) :
  wpAny (model prog w) A (setItem (.ref l) (.ref s.heap.objs.size) (.ref D)) Q E { s with heap := s.heap.push { cls := .type "slice", data := .fields #[.none, .none, .none] } } := by
 have up : ∀ b o, s.heap.get? b = some o → (s.heap.push { cls := .type "slice", data := .fields #[.none, .none, .none] }).get? b = some o := fun b o e => Heap.get?_push_of_some _ e
 have F1 := F.keeps up
 have N1 := N.grown up
 have z := N1 _ (.head _)
 refine setItem_all_raw (n := n) (k := k) z.1 (N1 _ (.tail _ hD)).1 (Heap.IsSliceOf.new ..) (fun e => hoff _ hD e.symm) (by simpa using hsz) (by simpa using hsz') ?_
 intro h' n' e hs
 exact h h' n' (F1.change hs z.2.1 z.2.2) (news_set (pre := []) (post := rest) N1 (fun _ h => nomatch h) hoff hs e)
theorem setItem_del {l D C : Addr} {oC : Obj} {vs ys : List Value} {n : Nat} {rest : List (Addr × Obj)} {Q : Unit → Shared → Prop} (F : Fr h₀ L s.heap m) (N : News h₀ L s.heap ((D, LCg.lst ys) :: (C, oC) :: (l, listOf vs.toArray n) :: rest)) (a : l ≠ D) (b : C ≠ l) (hoff : ∀ p ∈ rest, p.1 ≠ l) (hsz : vs.length ≤ 10000) (hsz' : ys.length ≤ 10000)
  (h : ∀ h' n', Fr h₀ L h' m → News h₀ L h' ((l, listOf ys.toArray n') :: rest) → Q () { s with heap := h' }) :
  wpAny (model prog w) A (setItem (.ref l) (.ref s.heap.objs.size) (.ref D)) Q E { s with heap := s.heap.push { cls := .type "slice", data := .fields #[.none, .none, .none] } } := by
 refine setItem_all (vs := vs) (ys := ys) (n := n) (k := ys.length) (rest := (D, LCg.lst ys) :: (C, oC) :: rest) F (fun p hp => N p ?_) (.head _) ?_ hsz hsz' ?_
 ·rcases List.mem_cons.mp hp with rfl | hp
  ·exact .tail _ (.tail _ (.head _))
  ·rcases List.mem_cons.mp hp with rfl | hp
   ·exact .head _
   ·rcases List.mem_cons.mp hp with rfl | hp
    ·exact .tail _ (.head _)
    ·exact .tail _ (.tail _ (.tail _ hp))
 ·intro p hp
  rcases List.mem_cons.mp hp with rfl | hp
  ·exact Ne.symm a
  ·rcases List.mem_cons.mp hp with rfl | hp
   ·exact b
   ·exact hoff p hp
 ·intro h' n' F' N'
  refine h h' n' F' fun p hp => N' p ?_
  rcases List.mem_cons.mp hp with rfl | hp
  ·exact .head _
  ·exact .tail _ (.tail _ (.tail _ hp))
end
end Mine
end
section
local macro_rules | `(tactic| omega) => `(tactic| fail "OL")
theorem Mine.clean_A8 : Mine.CleanT := by
 intro M A Q E s h
 w_top off
 first
  | (walk1; fail_if_success skip)
  | exact h
open PySem PySem.W PyProof.Rows
namespace Mine
noncomputable def hdel (hs : List (PySem.Str × PySem.Str)) (x : PySem.Str) : List (PySem.Str × PySem.Str) := hs.filter fun p => Txt.lower p.1 != Txt.lower x
theorem hdel_put {rest : List (Addr × Obj)} {hs : List (PySem.Str × PySem.Str)} {i : Nat} {k y x : PySem.Str} {ys : List Value} {q : Addr} {t u : Tok} (h : hs[i]? = some (k, y)) (hne : (Txt.lower k != Txt.lower x) = true) (hJ : HIn rest ys (hdel (hs.take i) x)) (hm : (q, tupOf [.str k t, .str y u]) ∈ rest) :
  HIn rest (ys ++ [.ref q]) (hdel (hs.take (i + 1)) x) := by
 have e : hdel (hs.take (i + 1)) x = hdel (hs.take i) x ++ [(k, y)] := by
  unfold hdel
  rw [List.take_add_one, h, List.filter_append]
  simp [hne]
 rw [e]
 exact hJ.append (.cons hm .nil)
theorem hdel_no {rest : List (Addr × Obj)} {hs : List (PySem.Str × PySem.Str)} {i : Nat} {k y x : PySem.Str} {ys : List Value} (h : hs[i]? = some (k, y)) (hne : (Txt.lower k != Txt.lower x) = false) (hJ : HIn rest ys (hdel (hs.take i) x)) :
  HIn rest ys (hdel (hs.take (i + 1)) x) := by
 have e : hdel (hs.take (i + 1)) x = hdel (hs.take i) x := by
  unfold hdel
  rw [List.take_add_one, h, List.filter_append]
  simp [hne]
 rw [e]
 exact hJ
local macro_rules | `(tactic| k_all) => `(tactic| assumption)
local macro_rules | `(tactic| k_mem) => `(tactic| assumption)
local macro_rules | `(tactic| walk_at "call ref") => `(tactic| refine Au.un 1 ?_)
local macro_rules | `(tactic| walk_at "exec Assign cons ListComp") => `(tactic| (with_reducible refine wpAny_Assign_Subscript ?_ ?_; rotate_left; with_unfolding_all rfl))
local macro_rules | `(tactic| walk_at "storeName") => `(tactic| refine Au.un 2 ?_)
local macro_rules | `(tactic| walk_at "CompSrcT") => `(tactic| (refine Hold.un ?_))
theorem delitem_spc (w : World) (c d l : Addr) (vs : List Value) (n : Nat) (hs : List (PySem.Str × PySem.Str)) (x : PySem.Str) (t : Tok) (rest : List (Addr × Obj)) (C : ClkAt rest c d l) (core : List (Addr × Obj)) (hsub : ∀ p ∈ core, p ∈ rest) (hp : HIn core vs hs) (hsh : HShort hs) (hlen : hs.length ≤ 100)
  (hx : Plain (Txt.lower x)) (hl : (Txt.lower x).length ≤ 100) (hl0 : x.length ≤ 100) :
  Spc w 147 3 [.ref c, .str x t] ((l, listOf vs.toArray n) :: rest) (fun r news' => r = .none ∧ RClk rest core l (hdel hs x) news') := by
 have H := C.hdr (n := n) (hp.mono hsub) hsh
 obtain ⟨c1, ⟨hsh1, dtk, c2⟩, c3⟩ := C
 intro mean mg mb dp un gd cn cs a ccd cl outer A₀ base h₀ L m s Q E B F X N T hk hd hu hret
 (revert hsub hp hsh hlen hx hl hl0 H c1 c3 c2 B F X N T hk hd hu hret; revert w c d l vs n hs x t rest core hsh1 dtk mean mg mb dp un gd cn cs a ccd cl outer A₀ base h₀ L m s Q E; fail "CLi"; rename_i w c d l vs n hs x t rest core hsh1 dtk mean mg mb dp un gd cn cs a ccd cl outer A₀ base h₀ L m s Q E hsub hp hsh hlen hx hl hl0 H c1 c3 c2 B F X N T hk hd hu hret; fail "CLm")
 refine wpAny_call ?_
 k_dflt (refine' code_defC ?k1 ?k2 ?k3 ?k4 ?k5 ?kA ?kF ?kK ?k6 ?k7 ?k8 ?k9 ?kB ?kD ?_ ?c2 ?c3 ?c4; (case kA => exact rfl); (case kF => exact rfl); (case kK => assumption); (case k1 => k_asm); (case k2 => k_asm); (case k3 => k_asm); (case k4 => k_asm); (case k5 => k_asm); (case k6 => k_is); (case k7 => k_is); (case k8 => ktr_room); (case k9 => first | exact BindsTo.of_eq rfl | exact binds_K (by k_in) rfl (by k_is) rfl rfl rfl); (case kB => exact rfl); (case kD => decide +kernel); (case c2 => exact rfl); (case c3 => exact rfl); (case c4 => exact rfl); k_whole; intro g' L' h' tk' cells' FG' F' N' Y' B' X' T' l1; (try have l1 := allLt_of l1); k_cells Y'; (try simp only [List.cons_append, List.nil_append] at N'); (try dsimp only); (try k_lift B'); (try k_fold))
 (rename_i zz0 zz1 zz2; revert FG' F' B' X' T' zz0 l1 zz2 N'; revert g' L' h' tk' zz1; fail "CLi"; rename_i g' L' h' tk' zz1 FG' F' B' X' T' zz0 l1 zz2 N'; fail "CLm")
 (k_steps; repeat' ((first | ((with_reducible refine Au.mk 1 ?_); ((k_here; k_dflt (refine' conv_spc _ _ _ _ _ _ ?hx ?hl _ _ _ _ _ _ _ _ _ _ _ _ _ _ _ _ _ _ _ _ ?B ?F ?X ?N ?T ?ck ?dd ?uu ?_; (case B => k_asm); (case F => k_asm); (case X => k_asm); (case N => k_asm); (case T => k_asm); (case ck => first | exact rfl | assumption); (case dd => ktr_room); (case uu => ktr_units); (case hx => assumption); (case hl => omega)); intro _ _ _ _ _ N9z e9z; obtain ⟨e9z, e8z⟩ := e9z; rw [e8z] at N9z; clear e8z; (have e9z := e9z.symm; subst e9z); (try dsimp only); (try k_fold)))) | ((with_reducible refine Au.mk 2 ?_); ((k_here; k_dflt (refine' storeX_C ?F ?N ?c ?U ?d ?_ ?a ?b; (case a => rfl); (case b => rfl); (case F => k_asm); (case N => k_asm); (case c => rfl); (case U => exact UpdF.head (cellOff (by assumption))); (case d => k_asm); k_whole; intro h'z o'z F'z N'z d'z; (try dsimp only at N'z); (try k_sweep)))))) <;> k_steps))
 refine Hold.mk ?_
 k_dflt (refine LCt.CompSrcT.ledger (by rfl) (by k_asm) (by k_asm) (.tail _ (.head _)) ?size ?_)
 case size => rw [List.size_toArray, hp.length, sizeLine_eq]; omega
 intro g9
 refine crK_T (fun i ys => HIn core ys (hdel (hs.take i) x)) ?turn .nil ?fin
 case turn =>
  intro i ys v I oI C oC D m9 h9 tk9 E9 hi hv hJ hC hx9 F9 N9 off ne
  obtain ⟨q, k9, y9, t1, t2, rfl, hmem0, hsi⟩ := hp.get (by simpa using hv)
  have hmem := hsub _ hmem0
  have hkl := (hsh _ (List.mem_of_getElem? hsi)).1
  dsimp only at hkl
  (revert hi hJ hC F9 N9 off ne hv hx9 hmem0 hsi hmem hkl; revert g9 i ys I oI C oC D m9 h9 tk9 E9 q k9 y9 t1 t2; fail "CLi"; rename_i g9 i ys I oI C oC D m9 h9 tk9 E9 q k9 y9 t1 t2 hi hJ hC F9 N9 off ne hv hx9 hmem0 hsi hmem hkl; fail "CLm")
  k_steps
  ·rename (Txt.lower k9 != Txt.lower x) = true => hne
   refine LCg.CompEnd.intro (by k_asm) (by k_asm) _ (fun p hp => hp) off (.inr ⟨_, .tail _ (.head _), rfl, _, rfl⟩) ⟨rfl, hdel_put hsi hne hJ hmem0⟩
  ·rename (Txt.lower k9 != Txt.lower x) = false => hne
   refine LCg.CompEnd.intro (by k_asm) (by k_asm) _ (fun p hp => hp) off (.inr ⟨_, .tail _ (.head _), rfl, _, rfl⟩) ⟨rfl, hdel_no hsi hne hJ⟩
 case fin =>
  intro ys hJ
  rw [List.size_toArray, hp.length, List.take_length] at hJ
  have hyl : ys.length ≤ 10000 := by
   rw [hJ.length]
   exact Nat.le_trans (List.length_filter_le _ _) (by omega)
  (revert hJ hyl; revert g9 ys; fail "CLi"; rename_i g9 ys hJ hyl; fail "CLm")
  k_steps
  rename News _ _ _ _ => N3
  rename Fr _ _ _ _ => F3
  rename _ ∧ _ ∧ LCg.Off1 _ rest => o3
  rename AllLt _ _ => a3
  refine setItem_del F3 N3 o3.2.1 (Ne.symm (cellOff a3 _ (.head _))) c3 (by rw [hp.length]; omega) hyl ?_
  intro h4 n4 F4 N4
  clear N3 F3
  (rename_i zz0 zz1 zz2; revert o3 F4 N4; revert zz0 zz1 zz2 h4 n4; fail "CLi"; rename_i zz0 zz1 zz2 h4 n4 o3 F4 N4; fail "CLm")
  k_steps
  exact hret _ _ _ _ (by k_asm) (by k_asm) ⟨rfl, ys, n4, [], rfl, hJ, fun _ h => nomatch h⟩
end Mine
end
section
open PySem PySem.W PySem.Spec PySem.Calls PyProof.Rows
namespace Mine
section
variable {M : Model} {A : Around} {E : Value → Shared → Prop} {s : Shared} {K : Frag} {x C L f : Addr} {h₀ : Heap} {m : PySem.Str → Option Value} {ox : Obj} {od : Option Obj} {v y : Value}
theorem delItem_I {Q : Unit → Shared → Prop} (F : Fr h₀ L s.heap m) (X₀ : K.In h₀) (I : InstAt s.heap x ox C od) (hq : noSeq K C = true) (hs : findIn K (.ref C) "__delitem__" = some (some (.ref f))) (hf : isFn K (.ref f) = true)
  (h : wpAny M A (call (.ref f) [.ref x, v]) (fun _ s' => Q () s') E s) : wpAny M A (delItem (.ref x) v) Q E s := by
 have X := X₀.keeps F.keep
 unfold delItem sequenceKey
 refine wpAny_holding (wpAny_bind (wpAny_bind (I.type.here ?_)))
 refine wpAny_bind ((anyM_none X hq).here ?_)
 rw [if_pos (show (!false) = true from rfl)]
 exact wpAny_pure (wpAny_bind (special_fn X I hs (beq_iff_eq.mp hf) (wpAny_mono h (fun _ _ z => wpAny_pure z) fun _ _ z => z)))
theorem setItem_I {Q : Unit → Shared → Prop} (F : Fr h₀ L s.heap m) (X₀ : K.In h₀) (I : InstAt s.heap x ox C od) (hq : noSeq K C = true) (hs : findIn K (.ref C) "__setitem__" = some (some (.ref f))) (hf : isFn K (.ref f) = true)
  (h : wpAny M A (call (.ref f) [.ref x, v, y]) (fun _ s' => Q () s') E s) : wpAny M A (setItem (.ref x) v y) Q E s := by
 have X := X₀.keeps F.keep
 unfold setItem sequenceKey
 refine wpAny_holding (wpAny_bind (wpAny_bind (I.type.here ?_)))
 refine wpAny_bind ((anyM_none X hq).here ?_)
 rw [if_pos (show (!false) = true from rfl)]
 exact wpAny_pure (wpAny_bind (special_fn X I hs (beq_iff_eq.mp hf) (wpAny_mono h (fun _ _ z => wpAny_pure z) fun _ _ z => z)))
end
section
variable {prog : Program} {w : World} {A : Around} {E : Value → Shared → Prop} {s : Shared} {h₀ : Heap} {L : Addr} {m : PySem.Str → Option Value} {news : List (Addr × Obj)}
theorem addL_K {a b : Addr} {vs ws : List Value} {n k : Nat} {Q : Value → Shared → Prop} (F : Fr h₀ L s.heap m) (N : News h₀ L s.heap news) (ha : (a, listOf vs.toArray n) ∈ news) (hb : (b, listOf ws.toArray k) ∈ news) (hz : vs.length + ws.length ≤ 100000)
  (h : ∀ D h', Fr h₀ L h' m → News h₀ L h' ((D, listOf (vs ++ ws).toArray 0) :: news) → (∀ p ∈ news, p.1 < D) → Q (.ref D) { s with heap := h' }) : wpAny (model prog w) A (binaryOp .Add (.ref a) (.ref b)) Q E s :=
 kmk_add_lit F N ⟨_, (N _ ha).1, rfl, n, rfl⟩ ⟨_, (N _ hb).1, rfl, k, rfl⟩ rfl h (by rw [sizeLine_eq]; show vs.length + ws.length ≤ _; exact lin [_,_] [] [(1,.a (.v 0) (.v 1),.n 100000)] (1,.a (.v 0) (.v 1),.n 16777216) [1,1] [] rfl hz)
theorem join_L {D : Addr} {vs : List Value} {ys : List PySem.Str} {n : Nat} {x : PySem.Str} {t : Tok} {Q : Value → Shared → Prop} (N : News h₀ L s.heap news) (hD : (D, listOf vs.toArray n) ∈ news) (hi : StrsAre vs ys) (hok : (ys.map (·.length)).sum + ys.length * x.length ≤ 16777216)
  (h : ∀ t' k, Q (.str (Txt.join x ys) t') { s with toks := k }) : wpAny (model prog w) A (call (.builtin "str.join") [.str x t, .ref D]) Q E s :=
 join_list ⟨_, (N _ hD).1, rfl, n, rfl⟩ hi hok h
end
theorem StrsAre.app {vs ws : List Value} {xs ys : List PySem.Str} (a : StrsAre vs xs) (b : StrsAre ws ys) : StrsAre (vs ++ ws) (xs ++ ys) := by
 induction a with
 | nil => exact b
 | cons x t _ ih => exact .cons x t ih
theorem StrsAre.len {vs : List Value} {xs : List PySem.Str} (a : StrsAre vs xs) : vs.length = xs.length := by
 induction a with
 | nil => rfl
 | cons x t _ ih => simp [ih]
end Mine
end
section
open PySem PySem.W PyProof.Rows
namespace Mine
noncomputable def hline (p : PySem.Str × PySem.Str) : PySem.Str := p.1 ++ Str.ofString ": " ++ p.2
theorem hstr_size {hs : List (PySem.Str × PySem.Str)} (h : HShort hs) : ((hs.map hline).map (·.length)).sum ≤ 202 * hs.length := by
 induction hs with
 | nil => exact Nat.le_refl _
 | cons p r ih =>
  have h1 := h p (.head _)
  have h2 := ih fun q hq => h q (.tail _ hq)
  have e : (hline p).length = p.1.length + 2 + p.2.length := by show (p.1 ++ Str.ofString ": " ++ p.2).length = _; rw [PySem.Str.length_append, PySem.Str.length_append]; rfl
  simp only [List.map_cons, List.sum_cons, List.length_cons]
  rw [e]; exact lin [_,_,_,_] [] [(1,.v 0,.n 100),(1,.v 1,.n 100),(1,.v 2,.m 202 (.v 3))] (1,.a (.a (.a (.v 0) (.n 2)) (.v 1)) (.v 2),.m 202 (.a (.v 3) (.n 1))) [1,1,1,1] [] rfl h1.1 h1.2 h2
noncomputable def hstr (hs : List (PySem.Str × PySem.Str)) : PySem.Str := Txt.join (Str.ofString "\r\n") (hs.map hline ++ [(Str.ofString "" : PySem.Str), Str.ofString ""])
end Mine
end
section
theorem Mine.clean_A9 : Mine.CleanT := by
 intro M A Q E s h
 w_top off
 first
  | (walk1; fail_if_success skip)
  | exact h
open PySem PySem.W PyProof.Rows
namespace Mine
noncomputable def hset (hs : List (PySem.Str × PySem.Str)) (x y : PySem.Str) : List (PySem.Str × PySem.Str) := hdel hs x ++ [(x, y)]
local macro_rules | `(tactic| k_all) => `(tactic| assumption)
local macro_rules | `(tactic| k_mem) => `(tactic| assumption)
local macro_rules | `(tactic| walk_at "call ref") => `(tactic| refine Au.un 1 ?_)
local macro_rules | `(tactic| walk_at "delItem ref") => `(tactic| refine Au.un 2 ?_)
theorem ClkAt.grow {tl rest : List (Addr × Obj)} {c d l : Addr} (C : ClkAt rest c d l) (h : ∀ p ∈ tl, l < p.1 ∧ ∀ q ∈ rest, q.1 < p.1) : ClkAt (tl ++ rest) c d l :=
 ⟨List.mem_append_right _ C.inst, let ⟨a, b, x⟩ := C.dict; ⟨a, b, List.mem_append_right _ x⟩, fun p hp => by
  rcases List.mem_append.mp hp with hp | hp
  ·exact Nat.ne_of_gt (h p hp).1
  ·exact C.off p hp⟩
theorem HShort.del {hs : List (PySem.Str × PySem.Str)} (h : HShort hs) (x : PySem.Str) : HShort (hdel hs x) := fun p hp => h p (List.mem_filter.mp hp).1
theorem hdel_len (hs : List (PySem.Str × PySem.Str)) (x : PySem.Str) : (hdel hs x).length ≤ hs.length := List.length_filter_le _ _
theorem set_end {tl rest core : List (Addr × Obj)} {l D : Addr} {vs : List Value} {n : Nat} {hs : List (PySem.Str × PySem.Str)} {x y : PySem.Str} {t u : Tok} (l9 : l < D ∧ AllLt D (tl ++ rest)) (hlt : ∀ p ∈ tl, l < p.1 ∧ ∀ q ∈ rest, q.1 < p.1) (hp : HIn (tl ++ core) vs (hdel hs x)) :
  RClk rest core l (hset hs x y) ((l, listOf (vs ++ [Value.ref D]).toArray (n + 1)) :: ([(D, tupOf [.str x t, .str y u])] ++ (tl ++ rest))) := by
 refine ⟨vs ++ [Value.ref D], n + 1, [(D, tupOf [.str x t, .str y u])] ++ tl, by rw [List.append_assoc], ?_, fun p hp => ?_⟩
 ·rw [List.append_assoc]
  exact (hp.mono fun _ hp => List.mem_append_right _ hp).append (.cons (.head _) .nil)
 ·rcases List.mem_append.mp hp with hp | hp
  ·rw [List.mem_singleton.mp hp]
   exact ⟨l9.1, fun q hq => ktn_ltOf l9.2 _ (List.mem_append_right _ hq)⟩
  ·exact hlt p hp
noncomputable def A9c1_S := (by
 refine' ⟨_, ?f⟩
 case f =>
  intro hPA9c1 w c d l vs n hs x y t u rest C core hsub hp hsh hlen hx hx' hy hxl hl hl'
  intro mean mg mb dp un gd cn cs a ccd cl outer A₀ base h₀ L m s Q E B F X N T hk hd hu hret
  have c1 := C.inst
  obtain ⟨hsh0, dtk0, c0⟩ := C.dict
  revert C hsub hp hsh hlen hx hx' hy hxl hl hl' B F X N T hk hd hu hret c1 c0
  exact hPA9c1 w c d l vs n hs x y t u rest core mean mg mb dp un gd cn cs a ccd cl outer A₀ base h₀ L m s Q E hsh0 dtk0
 : Σ' (PA9c1 : _ → _ → _ → _ → _ → _ → _ → _ → _ → _ → _ → _ → _ → _ → _ → _ → _ → _ → _ → _ → _ → _ → _ → _ → _ → _ → _ → _ → _ → _ → _ → _ → _ → _ → _ → Prop), (∀ y0 y1 y2 y3 y4 y5 y6 y7 y8 y9 y10 y11 y12 y13 y14 y15 y16 y17 y18 y19 y20 y21 y22 y23 y24 y25 y26 y27 y28 y29 y30 y31 y32 y33 y34, PA9c1 y0 y1 y2 y3 y4 y5 y6 y7 y8 y9 y10 y11 y12 y13 y14 y15 y16 y17 y18 y19 y20 y21 y22 y23 y24 y25 y26 y27 y28 y29 y30 y31 y32 y33 y34) → ∀ (w : World) (c d l : Addr) (vs : List Value) (n : Nat) (hs : List (PySem.Str × PySem.Str)) (x y : PySem.Str) (t u : Tok) (rest : List (Addr × Obj)) (C : ClkAt rest c d l) (core : List (Addr × Obj)) (hsub : ∀ p ∈ core, p ∈ rest) (hp : HIn core vs hs) (hsh : HShort hs) (hlen : hs.length ≤ 100)
  (hx : Plain (Txt.lower x)) (hx' : Plain x) (hy : Plain y) (hxl : (Txt.lower x).length ≤ 100) (hl : x.length ≤ 100) (hl' : y.length ≤ 100), Spc w 142 4 [.ref c, .str x t, .str y u] ((l, listOf vs.toArray n) :: rest) (fun r news' => r = .none ∧ RClk rest core l (hset hs x y) news'))
noncomputable def A9c1_P := fun (y : (_ × _ × _ × _ × _ × _ × _ × _ × _ × _ × _ × _) × (_ × _ × _ × _ × _ × _ × _ × _ × _ × _ × _ × _) × (_ × _ × _ × _ × _ × _ × _ × _ × _ × _ × _)) => A9c1_S.1 y.1.1 y.1.2.1 y.1.2.2.1 y.1.2.2.2.1 y.1.2.2.2.2.1 y.1.2.2.2.2.2.1 y.1.2.2.2.2.2.2.1 y.1.2.2.2.2.2.2.2.1 y.1.2.2.2.2.2.2.2.2.1 y.1.2.2.2.2.2.2.2.2.2.1 y.1.2.2.2.2.2.2.2.2.2.2.1 y.1.2.2.2.2.2.2.2.2.2.2.2 y.2.1.1 y.2.1.2.1 y.2.1.2.2.1 y.2.1.2.2.2.1 y.2.1.2.2.2.2.1 y.2.1.2.2.2.2.2.1 y.2.1.2.2.2.2.2.2.1 y.2.1.2.2.2.2.2.2.2.1 y.2.1.2.2.2.2.2.2.2.2.1 y.2.1.2.2.2.2.2.2.2.2.2.1 y.2.1.2.2.2.2.2.2.2.2.2.2.1 y.2.1.2.2.2.2.2.2.2.2.2.2.2 y.2.2.1 y.2.2.2.1 y.2.2.2.2.1 y.2.2.2.2.2.1 y.2.2.2.2.2.2.1 y.2.2.2.2.2.2.2.1 y.2.2.2.2.2.2.2.2.1 y.2.2.2.2.2.2.2.2.2.1 y.2.2.2.2.2.2.2.2.2.2.1 y.2.2.2.2.2.2.2.2.2.2.2.1 y.2.2.2.2.2.2.2.2.2.2.2.2
noncomputable def A9c1_c := pick (by fail "d") A9c1_P
namespace A9c1
noncomputable def l := A9c1_c.1.2.2.2.1
noncomputable def n := A9c1_c.1.2.2.2.2.2.1
noncomputable def hs := A9c1_c.1.2.2.2.2.2.2.1
noncomputable def x := A9c1_c.1.2.2.2.2.2.2.2.1
noncomputable def y := A9c1_c.1.2.2.2.2.2.2.2.2.1
noncomputable def t := A9c1_c.1.2.2.2.2.2.2.2.2.2.1
noncomputable def u := A9c1_c.1.2.2.2.2.2.2.2.2.2.2.1
noncomputable def rest := A9c1_c.1.2.2.2.2.2.2.2.2.2.2.2
theorem body : A9c1_S.1 A9c1_c.1.1 A9c1_c.1.2.1 A9c1_c.1.2.2.1 l A9c1_c.1.2.2.2.2.1 n hs x y t u rest A9c1_c.2.1.1 A9c1_c.2.1.2.1 A9c1_c.2.1.2.2.1 A9c1_c.2.1.2.2.2.1 A9c1_c.2.1.2.2.2.2.1 A9c1_c.2.1.2.2.2.2.2.1 A9c1_c.2.1.2.2.2.2.2.2.1 A9c1_c.2.1.2.2.2.2.2.2.2.1 A9c1_c.2.1.2.2.2.2.2.2.2.2.1 A9c1_c.2.1.2.2.2.2.2.2.2.2.2.1 A9c1_c.2.1.2.2.2.2.2.2.2.2.2.2.1 A9c1_c.2.1.2.2.2.2.2.2.2.2.2.2.2 A9c1_c.2.2.1 A9c1_c.2.2.2.1 A9c1_c.2.2.2.2.1 A9c1_c.2.2.2.2.2.1 A9c1_c.2.2.2.2.2.2.1 A9c1_c.2.2.2.2.2.2.2.1 A9c1_c.2.2.2.2.2.2.2.2.1 A9c1_c.2.2.2.2.2.2.2.2.2.1 A9c1_c.2.2.2.2.2.2.2.2.2.2.1 A9c1_c.2.2.2.2.2.2.2.2.2.2.2.1 A9c1_c.2.2.2.2.2.2.2.2.2.2.2.2 := by
 intro C hsub hp hsh hlen hx hx' hy hxl hl hl' B F X N T hk hd hu hret c1 c0
 refine wpAny_call ?_
 k_dflt cell_enter
 (k_steps; repeat' ((first | ((with_reducible refine Au.mk 1 ?_); ((k_here; k_dflt (refine' delitem_spc _ _ _ _ _ _ _ _ _ _ ?C _ ?hsub ?hp ?hsh ?hlen ?hx ?hl ?hl0 _ _ _ _ _ _ _ _ _ _ _ _ _ _ _ _ _ _ _ _ ?B ?F ?X ?N ?T ?ck ?dd ?uu ?_; (case B => k_asm); (case F => k_asm); (case X => k_asm); (case N => k_asm); (case T => k_asm); (case ck => first | exact rfl | assumption); (case dd => ktr_room); (case uu => ktr_units); (case C => assumption); (case hsub => assumption); (case hp => assumption); (case hsh => assumption); (case hlen => assumption); (case hx => assumption); (case hl => omega); (case hl0 => omega)); intro r9z news9z h9z tk9z F9z N9z e9z; obtain ⟨e9z, e8z⟩ := e9z; subst e9z; (try dsimp only); (try k_fold); refine Hold.un ?_))) | ((with_reducible refine Au.mk 2 ?_); ((k_here; k_dflt (refine' delItem_I ?k1 ?k2 ?k3 ?k4 ?k5 ?k6 ?_; (case k1 => k_asm); (case k2 => k_asm); (case k3 => k_inst); (case k4 => k_is); (case k5 => k_is); (case k6 => k_is); k_whole))))) <;> k_steps))
 rename RClk _ _ _ _ _ => e9
 obtain ⟨vs', n', tl, rfl, hp', hlt⟩ := e9
 have C' := C.grow hlt
 have c2 := C'.inst
 obtain ⟨hsh1, dtk, c3⟩ := C'.dict
 have c4 := C'.off
 have hdl := hdel_len hs x
 have hdv := hp'.length
 clear c1 c0
 refine Hold.mk ?_
 (k_steps; repeat' (((with_reducible refine Au.mk 1 ?_); ((k_here; k_dflt (refine' conv_spc _ _ _ _ _ _ ?hx ?hl _ _ _ _ _ _ _ _ _ _ _ _ _ _ _ _ _ _ _ _ ?B ?F ?X ?N ?T ?ck ?dd ?uu ?_; (case B => k_asm); (case F => k_asm); (case X => k_asm); (case N => k_asm); (case T => k_asm); (case ck => first | exact rfl | assumption); (case dd => ktr_room); (case uu => ktr_units); (case hx => assumption); (case hl => omega)); intro r9z news9z h9z tk9z F9z N9z e9z; obtain ⟨e9z, e8z⟩ := e9z; rw [e8z] at N9z; clear e8z; subst e9z; (try dsimp only); (try k_fold)))) <;> k_steps))
 rename News _ _ _ _ => N7
 rename Fr _ _ _ _ => F7
 rename l < _ ∧ AllLt _ (tl ++ rest) => l9
 rw [List.push_toArray] at N7
 refine hret _ _ _ _ (by k_asm) (fun p hp => N7 p ?_) ⟨rfl, set_end (x := x) (y := y) (t := t) (u := u) (n := n') l9 hlt hp'⟩
 rcases List.mem_cons.mp hp with rfl | hp
 ·exact .tail _ (.head _)
 ·rcases List.mem_append.mp hp with hp | hp
  ·rw [List.mem_singleton.mp hp]; exact .head _
  ·exact .tail _ (.tail _ hp)
end A9c1
theorem setitem_spc (w : World) (c d l : Addr) (vs : List Value) (n : Nat) (hs : List (PySem.Str × PySem.Str)) (x y : PySem.Str) (t u : Tok) (rest : List (Addr × Obj)) (C : ClkAt rest c d l) (core : List (Addr × Obj)) (hsub : ∀ p ∈ core, p ∈ rest) (hp : HIn core vs hs) (hsh : HShort hs) (hlen : hs.length ≤ 100)
  (hx : Plain (Txt.lower x)) (hx' : Plain x) (hy : Plain y) (hxl : (Txt.lower x).length ≤ 100) (hl : x.length ≤ 100) (hl' : y.length ≤ 100) : Spc w 142 4 [.ref c, .str x t, .str y u] ((l, listOf vs.toArray n) :: rest) (fun r news' => r = .none ∧ RClk rest core l (hset hs x y) news') :=
 A9c1_S.2 (fun y0 y1 y2 y3 y4 y5 y6 y7 y8 y9 y10 y11 y12 y13 y14 y15 y16 y17 y18 y19 y20 y21 y22 y23 y24 y25 y26 y27 y28 y29 y30 y31 y32 y33 y34 => pick_use (P := A9c1_P) (c := A9c1_c) rfl A9c1.body ((y0, y1, y2, y3, y4, y5, y6, y7, y8, y9, y10, y11), (y12, y13, y14, y15, y16, y17, y18, y19, y20, y21, y22, y23), (y24, y25, y26, y27, y28, y29, y30, y31, y32, y33, y34))) w c d l vs n hs x y t u rest C core hsub hp hsh hlen hx hx' hy hxl hl hl'
end Mine
end
section
local macro_rules | `(tactic| omega) => `(tactic| fail "OL")
theorem Mine.clean_A10 : Mine.CleanT := by
 intro M A Q E s h
 w_top off
 first
  | (walk1; fail_if_success skip)
  | exact h
open PySem PySem.W PyProof.Rows
namespace Mine
local macro_rules | `(tactic| k_all) => `(tactic| assumption)
local macro_rules | `(tactic| k_mem) => `(tactic| assumption)
open Builtin Builtin.Str in
theorem pct_pair {k y : PySem.Str} {a t u : Tok} {b : Addr} (hk : k.length ≤ 100) (hy : y.length ≤ 100) :
  Meets («str.__mod__» ⟨[.str (.mk #[37, 115, 58, 32, 37, 115]) a, .ref b], []⟩) (fun _ R s => IsTup s.heap b #[.str k t, .str y u] ∧ ∀ t' j, R (.ok (.ret (.str (k ++ Str.ofString ": " ++ y) t'))) { s with toks := j }) := by
 apply KPt.meets_tup
 intro _ _ _ _ _ _ H _
 obtain ⟨O, G, C, N, D⟩ := H
 rw [KPt.entry_is_r]
 unfold percentFormat
 refine wpAny_bind (wpAny_isInstance (T := "tuple") ⟨O, G, C⟩ KPt.sub_tt (wpAny_bind (KPt.asStr_ref G D (wpAny_bind (KPt.fills_ref ⟨O, G, C⟩ ?_)))))
 intro _
 kpc_if
 refine wpAny_bind (wpAny_seqItems G D (wpAny_bind (wpAny_pure (wpAny_bind ?_))))
 rw [KPc.range_list]
 refine KPc.start ?_
 intro _ _
 iterate 3 (refine KPc.turn ?_; kpc_check; (repeat kpc_if); (first | refine wpAny_pure ?_ | (refine wpAny_bind (wpAny_holding ?_); (repeat kpc_if); kpt_conv; refine wpAny_pure (wpAny_pure ?_))); (first | refine KPc.after_add0 (by kpc_g) (by kpc_text) (by kpc_obj) ?_ | refine KPc.after_add (by kpc_g) (by kpc_text) (by kpc_obj) ?_ | refine KPc.after_str0 (by kpc_g) (by kpt_len) (by kpc_obj) ?_ | refine KPc.after_str (by kpc_g) (by kpt_len) (by kpc_obj) ?_); intro _ _)
 refine KPc.turn ?_; kpc_check; (repeat kpc_if); kpc_close
local macro_rules | `(tactic| walk_at "CompSrc") => `(tactic| (refine Hold.un ?_))
local macro_rules | `(tactic| walk_at "binaryOp Mod str ref") => `(tactic| (refine Hold.un ?_))
theorem hstr_spc (w : World) (c d l : Addr) (vs : List Value) (n : Nat) (hs : List (PySem.Str × PySem.Str)) (rest : List (Addr × Obj)) (C : ClkAt rest c d l) (core : List (Addr × Obj)) (hsub : ∀ p ∈ core, p ∈ rest) (hp : HIn core vs hs) (hsh : HShort hs) (hlen : hs.length ≤ 10) :
  Spc w 205 2 [.ref c] ((l, listOf vs.toArray n) :: rest) (RStr ((l, listOf vs.toArray n) :: rest) (hstr hs)) := by
 obtain ⟨c1, ⟨hsh1, dtk, c2⟩, c3⟩ := C
 intro mean mg mb dp un gd cn cs a ccd cl outer A₀ base h₀ L m s Q E B F X N T hk hd hu hret
 (revert hsub hp hsh hlen c1 c3 c2 B F X N T hk hd hu hret; revert w c d l vs n hs rest core hsh1 dtk mean mg mb dp un gd cn cs a ccd cl outer A₀ base h₀ L m s Q E; fail "CLi"; rename_i w c d l vs n hs rest core hsh1 dtk mean mg mb dp un gd cn cs a ccd cl outer A₀ base h₀ L m s Q E hsub hp hsh hlen c1 c3 c2 B F X N T hk hd hu hret; fail "CLm")
 refine wpAny_call ?_
 k_dflt cell_enter
 (rename_i zz0 zz1 zz2 zz3 zz4 zz5 zz6 zz7 zz8; revert zz3 zz4 zz5 zz6 zz7 zz8; revert zz0 zz1 zz2; fail "CLi"; rename_i zz0 zz1 zz2 zz3 zz4 zz5 zz6 zz7 zz8; fail "CLm")
 k_steps
 refine Hold.mk ?_
 k_dflt (refine LCg.CompSrc.ledger (by rfl) (by k_asm) (by k_asm) (.head _) ?size ?_)
 case size => rw [List.size_toArray, hp.length, sizeLine_eq]; omega
 intro g9
 refine crK_U (fun i ys => StrsAre ys ((hs.take i).map hline)) ?turn .nil ?fin
 case turn =>
  intro i ys v I oI C oC D m9 h9 tk9 E9 hi hv hJ hC hx9 F9 N9 off ne
  obtain ⟨q, k9, y9, t1, t2, rfl, hmem, hsi⟩ := (hp.mono hsub).get (by simpa using hv)
  have hkl := hsh _ (List.mem_of_getElem? hsi)
  obtain ⟨hkl, hyl⟩ := hkl
  dsimp only at hkl hyl
  (revert hi hJ hC F9 N9 off ne hv hx9 hmem hsi hkl hyl; revert g9 i ys I oI C oC D m9 h9 tk9 E9 q k9 y9 t1 t2; fail "CLi"; rename_i g9 i ys I oI C oC D m9 h9 tk9 E9 q k9 y9 t1 t2 hi hJ hC F9 N9 off ne hv hx9 hmem hsi hkl hyl; fail "CLm")
  k_steps
  refine Hold.mk ?_
  k_dflt (refine' KPt.mod_tuple ?N ?b ?F (pct_pair hkl hyl) ?_; (case N => k_asm); (case b => k_mem); (case F => kpt_eq))
  intro _ _
  k_steps
  refine LCg.CompEnd.intro (by k_asm) (by k_asm) _ (fun p hp => hp) off (.inr ⟨_, .head _, rfl, _, rfl⟩) ⟨rfl, ?_⟩
  rw [List.take_add_one, hsi, Option.toList_some, List.map_append]
  exact StrsAre.app hJ (.cons _ _ .nil)
 case fin =>
  intro ys hJ
  rw [List.size_toArray, hp.length, List.take_length] at hJ
  have hyl := StrsAre.len hJ
  rw [List.length_map] at hyl
  (revert hJ hyl; revert g9 ys; fail "CLi"; rename_i g9 ys hJ hyl; fail "CLm")
  k_steps
  rename News _ _ _ _ => N4
  refine join_L (ys := hs.map hline ++ [(Str.ofString "" : PySem.Str), Str.ofString ""]) N4 (.head _) (StrsAre.app (by assumption) (.cons _ _ (.cons _ _ .nil))) ?_ ?_
  ·have := hstr_size hsh
   rw [List.map_append, List.sum_append, List.length_append, List.length_map]
   have e1 : (Str.ofString "").length = 0 := rfl
   have e2 : (Str.ofString "\r\n").length = 2 := rfl
   simp only [List.map_cons, List.map_nil, List.sum_cons, List.sum_nil, List.length_cons, List.length_nil, e1, e2]
   omega
  intro t5 k5
  (rename_i zz0 zz1 zz2 zz3 zz4 zz5 zz6 zz7 zz8 zz9 zz10; revert zz3 zz6 zz7 zz8 zz10 N4; revert zz0 zz1 zz2 zz4 zz5 zz9 t5 k5; fail "CLi"; rename_i zz0 zz1 zz2 zz4 zz5 zz9 t5 k5 zz3 zz6 zz7 zz8 zz10 N4; fail "CLm")
  k_steps
  rename News _ _ _ _ => N9
  exact hret _ _ _ _ (by k_asm) (fun p hp => N9 p (.tail _ (.tail _ (.tail _ hp)))) ⟨⟨_, rfl⟩, rfl⟩
end Mine
end
section
open PySem PySem.W PySem.Spec PySem.Calls PyProof.Rows
namespace Mine
structure ReplyOk (r : PySem.Str) (n : Int) : Prop where
 len : r.length ≤ 100
 ex : ∃ mk p0 p1 p2 p3 p4 : PySem.Str, Txt.slice r none (some 3) = Str.ofString "229" ∧ 0 ≤ Txt.find r (Str.ofString "(") ∧ Txt.find r (Str.ofString "(") + 1 < Txt.find3 r (Str.ofString ")") (Txt.find r (Str.ofString "(") + 1) ∧
  Txt.find3 r (Str.ofString ")") (Txt.find r (Str.ofString "(") + 1) < r.length ∧ Txt.item r (Txt.find r (Str.ofString "(") + 1) = mk ∧ Txt.item r (Txt.find3 r (Str.ofString ")") (Txt.find r (Str.ofString "(") + 1) - 1) = mk ∧
  Txt.split (Txt.slice r (some (Txt.find r (Str.ofString "(") + 1)) (some (Txt.find3 r (Str.ofString ")") (Txt.find r (Str.ofString "(") + 1)))) mk = [p0, p1, p2, p3, p4] ∧
  (mk.length == 0) = false ∧ PySem.intText? p3 = some n ∧ p3.length ≤ 640
 small : 0 ≤ n ∧ n ≤ 1000
theorem ReplyOk.parse {r : PySem.Str} {n : Int} (R : ReplyOk r n) : parseK r = .ok n := by
 obtain ⟨_, ⟨mk, p0, p1, p2, p3, p4, h1, h2, h3, h3', h4, h5, h6, h7, h8, h9⟩, _⟩ := R
 unfold parseK
 rw [if_neg (by rw [h1]; simp), if_neg (by exact lin [] [_] [(7,.n 0,.v 0)] (9,.v 0,.n 0) [1,1] [] rfl h2), if_neg (by exact lin [] [_,_] [(7,.n 0,.v 0),(6,.a (.v 0) (.n 1),.v 1)] (9,.v 1,.n 0) [1,1,1] [] rfl h2 h3), h4, h5, if_neg (by simp), h6]
 dsimp only
 rw [h8]
theorem ReplyOk.br {r : PySem.Str} {n : Int} (R : ReplyOk r n) : BrOk r := by
 obtain ⟨_, ⟨mk, p0, p1, p2, p3, p4, h1, h2, h3, h3', h4, h5, h6, h7, h8, h9⟩, _⟩ := R
 exact .inr ⟨h2, .inr ⟨by exact lin [] [_,_] [(6,.a (.v 0) (.n 1),.v 1)] (7,.a (.v 0) (.n 1),.v 1) [1,1] [] rfl h3, by exact lin [_] [_] [(6,.v 0,.c (.v 0))] (6,.v 0,.c (.v 0)) [1,1] [] rfl h3'⟩⟩
theorem parse_ok (w : World) (resp : PySem.Str) (t : Tok) (pa : Addr) (host : PySem.Str) (t1 : Tok) (v2 : Value) (n : Int) (news : List (Addr × Obj)) (hp : (pa, tupOf [Value.str host t1, v2]) ∈ news) (R : ReplyOk resp n) :
  Spc w 96 1 [.str resp t, .ref pa] news (RTup2 news host n) := by
 intro mean mg mb dp un gd cn cs a ccd cl outer A₀ base h₀ L m s Q E B F X N T hk hd hu hret
 have hp1 := R.parse
 have hl := R.len
 refine parse_all w resp t pa host t1 v2 news hp (by exact lin [_] [] [(1,.v 0,.n 100)] (1,.v 0,.n 640) [1,1] [] rfl hl) R.br (by rw [hp1]; intro h; cases h) mean mg mb dp un gd cn cs a ccd cl outer A₀ base h₀ L m s Q E B F X N T hk hd hu ?_ ?_
 ·intro n' r news' h' tk' h1 h2 h3 h4
  rw [hp1] at h1
  cases h1
  exact hret r news' h' tk' h2 h3 h4
 ·intro c g e h' tk' h1
  rw [hp1] at h1
  cases h1
structure LineOk (line : PySem.Str) (h : PySem.Str) (n : Int) (r : PySem.Str) : Prop where
 len : line.length ≤ 200
 nl : Txt.find line (Str.ofString "\n") = -1
 col : find4 line (Str.ofString ":") 0 line.length = 4
 dot : rfind4 line (Str.ofString ".") 0 4 = 2
 one : Txt.lower (Txt.slice line (some 3) (some 4)) = h
 onel : (Txt.slice line (some 3) (some 4)).length ≤ 200
 at4 : Txt.find line (Str.ofString ": ") = 4
 rest : Txt.slice line (some 6) none = r
 reply : ReplyOk r n
theorem strip_ok (w : World) (line : PySem.Str) (t : Tok) (h : PySem.Str) (n : Int) (r : PySem.Str) (news : List (Addr × Obj)) (K : LineOk line h n r) :
  Spc w 52 1 [.str line t] news (RStr news (Txt.slice line (some 3) (some 4))) :=
 strip_spc w line t news _ (by have := K.len; exact lin [_] [] [(1,.v 0,.n 200)] (1,.v 0,.n 1000) [1,1] [] rfl this) K.nl K.col K.dot rfl
noncomputable abbrev ToldM := PySem.Str × Int × PySem.Str
inductive LinesOk : List PySem.Str → List ToldM → Prop
 | nil : LinesOk [] []
 | cons {line h n r ls ts} : LineOk line h n r → LinesOk ls ts → LinesOk (line :: ls) ((h, n, r) :: ts)
theorem LinesOk.at {ls : List PySem.Str} {ts : List ToldM} (x : LinesOk ls ts) : ∀ {i : Nat} {l : PySem.Str}, ls[i]? = some l → ∃ h n r, ts[i]? = some (h, n, r) ∧ LineOk l h n r := by
 induction x with
 | nil => intro i l h; cases h
 | cons a _ ih =>
  intro i l h
  cases i with
  | zero => cases h; exact ⟨_, _, _, rfl, a⟩
  | succ i => exact ih h
theorem LinesOk.length {ls : List PySem.Str} {ts : List ToldM} (x : LinesOk ls ts) : ls.length = ts.length := by
 induction x with
 | nil => rfl
 | cons _ _ ih => simp [ih]
inductive ToldIn (news : List (Addr × Obj)) : List Value → List ToldM → Prop
 | nil : ToldIn news [] []
 | cons {q h n r t1 t2 t3 vs ts} : (q, tupOf [.str h t1, .int n t2, .str r t3]) ∈ news → ToldIn news vs ts → ToldIn news (.ref q :: vs) ((h, n, r) :: ts)
theorem ToldIn.mono {news news' : List (Addr × Obj)} {vs : List Value} {ts : List ToldM} (h : ∀ p ∈ news, p ∈ news') (x : ToldIn news vs ts) : ToldIn news' vs ts := by
 induction x with
 | nil => exact .nil
 | cons m _ ih => exact .cons (h _ m) ih
theorem ToldIn.append {news : List (Addr × Obj)} {vs ws : List Value} {ts us : List ToldM} (x : ToldIn news vs ts) (y : ToldIn news ws us) : ToldIn news (vs ++ ws) (ts ++ us) := by
 induction x with
 | nil => exact y
 | cons m _ ih => exact .cons m ih
theorem ToldIn.length {news : List (Addr × Obj)} {vs : List Value} {ts : List ToldM} (x : ToldIn news vs ts) : vs.length = ts.length := by
 induction x with
 | nil => rfl
 | cons _ _ ih => simp [ih]
theorem ToldIn.get {news : List (Addr × Obj)} {vs : List Value} {ts : List ToldM} (x : ToldIn news vs ts) : ∀ {i : Nat} {v : Value}, vs[i]? = some v → ∃ q h n r t1 t2 t3, v = .ref q ∧ (q, tupOf [.str h t1, .int n t2, .str r t3]) ∈ news ∧ ts[i]? = some (h, n, r) := by
 induction x with
 | nil => intro i v h; cases h
 | cons m _ ih =>
  intro i v h
  cases i with
  | zero => cases h; exact ⟨_, _, _, _, _, _, _, rfl, m, rfl⟩
  | succ i => exact ih h
noncomputable def RHeard (news : List (Addr × Obj)) (ts : List ToldM) (r : Value) (news' : List (Addr × Obj)) : Prop :=
 ∃ D vs k tl, r = .ref D ∧ news' = (D, listOf vs.toArray k) :: (tl ++ news) ∧ ToldIn tl vs ts ∧ (∀ p ∈ (D, listOf vs.toArray k) :: tl, ∀ q ∈ news, q.1 < p.1) ∧ ∀ p ∈ tl, p.1 ≠ D
noncomputable def HeardJ (D l : Addr) (ol : Obj) (news : List (Addr × Obj)) (ts : List ToldM) (i : Nat) (m : PySem.Str → Option Value) (nx : List (Addr × Obj)) : Prop :=
 m (Str.ofString "told") = some (.ref D) ∧ ∃ vs k tl, nx = (D, listOf vs.toArray k) :: (l, ol) :: (tl ++ news) ∧ ToldIn tl vs (ts.take i) ∧ (∀ p ∈ tl, ∀ q ∈ news, q.1 < p.1) ∧ ∀ p ∈ (l, ol) :: (tl ++ news), p.1 ≠ D
theorem HeardJ.open_ {D l : Addr} {ol : Obj} {news : List (Addr × Obj)} {ts : List ToldM} {i : Nat} {m : PySem.Str → Option Value} {nx : List (Addr × Obj)} (h : HeardJ D l ol news ts i m nx) :
  (m = fun y => if y = Str.ofString "told" then some (.ref D) else m y) ∧ ∃ vs k tl, nx = (D, listOf vs.toArray k) :: (l, ol) :: (tl ++ news) ∧ ToldIn tl vs (ts.take i) ∧ (∀ p ∈ tl, ∀ q ∈ news, q.1 < p.1) ∧ ∀ p ∈ (l, ol) :: (tl ++ news), p.1 ≠ D := by
 refine an2 h fun h1 h2 => ?_
 try clear h
 refine ⟨?_, h2⟩
 funext y
 by_cases a : y = Str.ofString "told"
 ·rw [if_pos a, a, h1]
 rw [if_neg a]
theorem slice_but2 (vs : List Value) (x y : Value) : slicePick (vs ++ [x, y]).toArray none (some (-2)) none = vs.toArray := by
 have e : (vs ++ [x, y]).toArray.size = vs.length + 2 := by simp
 have hb : sliceBounds none (some (-2)) none (vs ++ [x, y]).toArray.size = sliceBounds (some ((0 : Nat) : Int)) (some ((vs.length : Nat) : Int)) none (vs ++ [x, y]).toArray.size := by
  rw [e]
  simp only [sliceBounds, Option.getD_none]
  simp
  have hn : (0 : Int) ≤ (vs.length : Int) := Int.natCast_nonneg _
  have h2 : (vs.length : Int) ≤ (vs.length : Int) + 2 := Int.le_add_of_nonneg_right (by decide)
  rw [if_neg (Int.not_lt.mpr hn), Int.min_eq_left (Int.le_trans hn h2), Int.max_self, Int.min_eq_left h2, show (-2 : Int) + ((vs.length : Int) + 2) = vs.length from lin [] [_] [] (8,.a (.g (.n 2)) (.a (.v 0) (.n 2)),.v 0) [1] [1] rfl, Int.min_eq_left h2]
  exact ⟨rfl, rfl⟩
 have h : slicePick (vs ++ [x, y]).toArray none (some (-2)) none = slicePick (vs ++ [x, y]).toArray (some ((0 : Nat) : Int)) (some ((vs.length : Nat) : Int)) none := by
  unfold slicePick
  rw [hb]
 rw [h, slicePick_run _ _ _ (by rw [e]; exact lin [_] [] [] (1,.v 0,.a (.v 0) (.n 2)) [1] [] rfl) (Nat.zero_le _)]
 simp
theorem strs_two {l : List (PySem.Str × Tok)} {a b : PySem.Str} {r : List PySem.Str} (e : l.map (·.1) = r ++ [a, b]) : ∃ l' ta tb, l = l' ++ [(a, ta), (b, tb)] ∧ l'.map (·.1) = r := by
 refine ex2 (List.map_eq_append_iff.mp e) fun l1 l2 h9_61 => an3 h9_61 fun eq9_60 h1 h2 => ?_
 clear h9_61
 subst eq9_60
 match l2, h2 with
 | [(a', ta), (b', tb)], h2 =>
  simp only [List.map_cons, List.map_nil, List.cons.injEq, and_true] at h2
  refine an2 h2 fun eq9_62 eq9_63 => ?_
  try clear h2
  subst eq9_62
  subst eq9_63
  exact ⟨l1, ta, tb, rfl, h1⟩
theorem slice_lines {l : List (PySem.Str × Tok)} {a b : PySem.Str} {r : List PySem.Str} (e : l.map (·.1) = r ++ [a, b]) : ∃ l', slicePick (strValues l).toArray none (some (-2)) none = (strValues l').toArray ∧ l'.map (·.1) = r := by
 refine ex3 (strs_two e) fun l' ta tb h9_65 => an2 h9_65 fun eq9_64 h => ?_
 clear h9_65
 subst eq9_64
 refine ⟨l', ?_, h⟩
 have : strValues (l' ++ [(a, ta), (b, tb)]) = strValues l' ++ [Value.str a ta, Value.str b tb] := by unfold strValues; simp
 rw [this, slice_but2]
theorem strValues_get {l : List (PySem.Str × Tok)} {r : List PySem.Str} (e : l.map (·.1) = r) {i : Nat} {v : Value} (h : (strValues l)[i]? = some v) : ∃ x t, v = .str x t ∧ r[i]? = some x := by
 unfold strValues at h
 rw [List.getElem?_map] at h
 refine ex1 (Option.map_eq_some_iff.mp h) fun hn9_66 h9_68 => an2 h9_68 fun hx eq9_67 => ?_
 clear h9_68
 subst eq9_67
 obtain ⟨x, t⟩ := hn9_66
 exact ⟨x, t, rfl, by rw [← e, List.getElem?_map, hx]; rfl⟩
theorem heard_start {h₀ h : Heap} {L l S D : Addr} {ol oS : Obj} {k : Nat} {news : List (Addr × Obj)} (N : News h₀ L h ((l, ol) :: (S, oS) :: (D, listOf #[] k) :: news)) : News h₀ L h ((D, listOf ([] : List Value).toArray k) :: (l, ol) :: ([] ++ news)) := fun p hp => N p (by
 rcases List.mem_cons.mp hp with rfl | hp
 ·exact .tail _ (.tail _ (.head _))
 ·rcases List.mem_cons.mp hp with rfl | hp
  ·exact .head _
  ·exact .tail _ (.tail _ (.tail _ hp)))
section
variable {prog : Program} {w : World} {A : Around} {E : Value → Shared → Prop} {s : Shared} {h₀ : Heap} {L : Addr} {m : PySem.Str → Option Value} {news : List (Addr × Obj)}
theorem cut2_K {value slice : PySem.Expr} {a : Addr} {l : List (PySem.Str × Tok)} {n : Nat} {r : List PySem.Str} {x y : PySem.Str} {u : Tok} {Q : Value → Shared → Prop} (F : Fr h₀ L s.heap m) (N : News h₀ L s.heap news) (hm : (a, listOf (strValues l).toArray n) ∈ news) (e : l.map (·.1) = r ++ [x, y]) (hsz : r.length ≤ 10000)
  (h : ∀ D l' h', l'.map (·.1) = r → Fr h₀ L h' m → News h₀ L h' ((D, listOf (strValues l').toArray 0) :: news) → (∀ p ∈ news, p.1 < D) → Q (.ref D) { s with heap := h' })
  (hs : subscripted slice false (.ref a) (.ref s.heap.objs.size) = operate [.ref s.heap.objs.size, .ref a] (getItem (.ref a) (.ref s.heap.objs.size)) := by with_unfolding_all rfl)
  (ht : ∀ r, letTemporaryGo value (.ref a) r = pure () := by intro _; with_unfolding_all rfl) :
  wpAny (model prog w) A (subscriptTail value slice (.ref a) (.ref s.heap.objs.size)) Q E { s with heap := s.heap.push { cls := .type "slice", data := .fields #[.none, .int (-2) u, .none] } } := by
 refine ex1 (slice_lines e) fun l' h9_69 => an2 h9_69 fun he hl' => ?_
 clear h9_69
 have hlen : l.length = r.length + 2 := by
  have := congrArg List.length e
  simpa using this
 refine slice_list F N ⟨_, (N _ hm).1, rfl, n, rfl⟩ .none (.int (-2) u) (fun h' F' N' => ?_) hs ht (by rw [List.size_toArray, sizeLine_eq]; unfold strValues; rw [List.length_map]; exact lin [_,_] [] [(1,.v 0,.n 10000),(2,.v 1,.a (.v 0) (.n 2))] (1,.v 1,.n 16777216) [1,1,1] [] rfl hsz hlen)
 rw [he] at N'
 exact h _ l' h' hl' F' N' fun p hp => Nat.lt_succ_of_lt (Heap.lt_size (N p hp).1)
end
section
variable {prog : Program} {w : World} {A : Around} {E : Value → Shared → Prop} {s : Shared} {h₀ : Heap} {news : List (Addr × Obj)} {env : Env} {x : PySem.Str} {body : List Stmt} {Q : Flow → Shared → Prop}
theorem heard_iter {l S D : Addr} {oS : Obj} {k nn : Nat} {vs : List Value} {m₀ : PySem.Str → Option Value} (ts : List ToldM) (hh : A.handled = none) (F : Fr h₀ env.locals s.heap m₀) (N : News h₀ env.locals s.heap ((l, listOf vs.toArray nn) :: (S, oS) :: (D, listOf #[] k) :: news))
  (hm : m₀ (Str.ofString "told") = some (.ref D)) (a : AllLt l ((S, oS) :: (D, listOf #[] k) :: news)) (b : ∀ p ∈ news, p.1 < D)
  (turn : ∀ (i : Nat) (v : Value) (m₁ : PySem.Str → Option Value) (us : List Value) (kk : Nat) (tl : List (Addr × Obj)) (h : Heap) (tk : Nat) (own : List (Addr × Obj)), vs[i]? = some v → OwnOff own (((D, listOf (List.toArray us) kk) :: (l, listOf vs.toArray nn) :: (tl ++ news)).map (·.1)) → ToldIn tl us (ts.take i) → (∀ p ∈ tl, ∀ q ∈ news, q.1 < p.1) → (∀ p ∈ (l, listOf vs.toArray nn) :: (tl ++ news), p.1 ≠ D) →
   Fr h₀ env.locals h (fun y => if y = x then some v else if y = Str.ofString "told" then some (.ref D) else m₁ y) → News h₀ env.locals h ((D, listOf (List.toArray us) kk) :: (l, listOf vs.toArray nn) :: (tl ++ news ++ own)) →
   wpAny (model prog w) A (execs body env) (InvPostG h₀ env.locals (fun m' nx => (l, listOf vs.toArray nn) ∈ nx ∧ HeardJ D l (listOf vs.toArray nn) news ts (i + 1) m' nx) own { s with heap := h, toks := tk } Q) E { s with heap := h, toks := tk })
  (done : ∀ (m₁ : PySem.Str → Option Value) (us : List Value) (kk : Nat) (tl : List (Addr × Obj)) (h : Heap) (tk : Nat), ToldIn tl us (ts.take vs.length) → (∀ p ∈ tl, ∀ q ∈ news, q.1 < p.1) → (∀ p ∈ (l, listOf vs.toArray nn) :: (tl ++ news), p.1 ≠ D) → Fr h₀ env.locals h (fun y => if y = Str.ofString "told" then some (.ref D) else m₁ y) → News h₀ env.locals h ((D, listOf (List.toArray us) kk) :: (l, listOf vs.toArray nn) :: (tl ++ news)) → Q .next { s with heap := h, toks := tk }) :
  wpAny (model prog w) A (pyIter (.ref l)) (fun it s₂ => LoopAtV prog w A h₀ env x body Q E it s₂) E s := by
 refine kdl_iter (HeardJ D l (listOf vs.toArray nn) news ts) hh (.tail _ (.head _)) F (heard_start N) ⟨hm, [], k, [], rfl, .nil, (fun _ h => nomatch h), ?_⟩ ?_ ?_
 ·intro p hp
  rcases List.mem_cons.mp hp with rfl | hp
  ·exact Nat.ne_of_gt a.2.1
  ·exact Nat.ne_of_lt (b p hp)
 ·intro i v m₁ nx h tk own hv hoff hmem hj F₁ N₁
  refine an2 hj.open_ fun hm h9_71 => ex3 h9_71 fun us kk tl h9_72 => an4 h9_72 fun eq9_70 hT hlt hno => ?_
  clear h9_72 h9_71
  subst eq9_70
  rw [hm] at F₁
  exact turn i v m₁ us kk tl h tk own hv hoff hT hlt hno F₁ N₁
 ·intro m₁ nx h tk hj F₁ N₁
  refine an2 hj.open_ fun hm h9_74 => ex3 h9_74 fun us kk tl h9_75 => an4 h9_75 fun eq9_73 hT hlt hno => ?_
  clear h9_75 h9_74
  subst eq9_73
  rw [hm] at F₁
  exact done m₁ us kk tl h tk hT hlt hno F₁ N₁
end
section
variable {prog : Program} {w : World} {A : Around} {E : Value → Shared → Prop} {s : Shared} {h₀ : Heap} {L : Addr} {m : PySem.Str → Option Value} {news : List (Addr × Obj)}
theorem heard_app {S R q P D : Addr} {oS oR oq oP : Obj} {us : List Value} {kk : Nat} {rest : List (Addr × Obj)} {Q : Value → Shared → Prop} (F : Fr h₀ L s.heap m)
  (N : News h₀ L s.heap ((S, oS) :: (R, oR) :: (q, oq) :: (P, oP) :: (D, listOf us.toArray kk) :: rest))
  (l3 : AllLt S ((R, oR) :: (q, oq) :: (P, oP) :: (D, listOf us.toArray kk) :: rest)) (l2 : AllLt R ((q, oq) :: (P, oP) :: (D, listOf us.toArray kk) :: rest)) (l1 : AllLt q ((P, oP) :: (D, listOf us.toArray kk) :: rest)) (l0 : AllLt P ((D, listOf us.toArray kk) :: rest))
  (hno : ∀ p ∈ rest, p.1 ≠ D) (hus : us.length ≤ 10000)
  (h : ∀ h', Fr h₀ L h' m → News h₀ L h' ((S, oS) :: (D, listOf (us ++ [Value.ref S]).toArray (kk + 1)) :: rest) → (∀ p ∈ (D, listOf us.toArray kk) :: rest, p.1 < S) → Q .none { s with heap := h' }) :
  wpAny (model prog w) A (call (.builtin "list.append") [.ref D, .ref S]) Q E s := by
 refine append_K F N (Upd.tail (Nat.ne_of_gt l3.2.2.2.1) (Upd.tail (Nat.ne_of_gt l2.2.2.1) (Upd.tail (Nat.ne_of_gt l1.2.1) (Upd.tail (Nat.ne_of_gt l0.1) (Upd.head hno))))) (fun h' F' N' => h h' F' (fun p hp => ?_) fun p hp => ktn_ltOf l3 p (.tail _ (.tail _ (.tail _ hp)))) (by rw [List.size_toArray, sizeLine_eq]; exact lin [_] [] [(1,.v 0,.n 10000)] (1,.v 0,.n 16777216) [1,1] [] rfl hus)
 rw [List.push_toArray] at N'
 refine N' p ?_
 rcases List.mem_cons.mp hp with rfl | hp
 ·exact .head _
 ·exact .tail _ (.tail _ (.tail _ (.tail _ hp)))
theorem heard_end {S D l : Addr} {ol : Obj} {us : List Value} {kk i : Nat} {tl own : List (Addr × Obj)} {ts : List ToldM} {hh r : PySem.Str} {n : Int} {t1 t2 t3 : Tok} {s₁ : Shared} {h' : Heap} {tk : Nat}
  (F : Fr h₀ L h' m) (hm : m (Str.ofString "told") = some (.ref D)) (N : News h₀ L h' ((S, tupOf [.str hh t1, .int n t2, .str r t3]) :: (D, listOf (us ++ [Value.ref S]).toArray (kk + 1)) :: (l, ol) :: (tl ++ news ++ own)))
  (l3 : ∀ p ∈ (D, listOf us.toArray kk) :: (l, ol) :: (tl ++ news ++ own), p.1 < S) (hT : ToldIn tl us (ts.take i)) (htx : ts[i]? = some (hh, n, r)) (hlt : ∀ p ∈ tl, ∀ q ∈ news, q.1 < p.1) (hno : ∀ p ∈ (l, ol) :: (tl ++ news), p.1 ≠ D) (hoff : OwnOff own (((D, listOf us.toArray kk) :: (l, ol) :: (tl ++ news)).map (·.1))) :
  InvEndG h₀ L (fun m' nx => (l, ol) ∈ nx ∧ HeardJ D l ol news ts (i + 1) m' nx) own s₁ { s₁ with heap := h', toks := tk } := by
 have hlS : ∀ p ∈ (l, ol) :: (tl ++ news ++ own), p.1 < S := fun p hp => l3 p (.tail _ hp)
 have hD : D < S := l3 _ (.head _)
 refine InvEndG.intro (nx := (D, listOf (us ++ [Value.ref S]).toArray (kk + 1)) :: (l, ol) :: (((S, tupOf [.str hh t1, .int n t2, .str r t3]) :: tl) ++ news)) F N ⟨.tail _ (.head _), hm, us ++ [.ref S], kk + 1, _, rfl, ?_, ?_, ?_⟩ ?_ ?_ ?_
 ·rw [List.take_add_one, htx]
  exact (hT.mono fun _ hp => .tail _ hp).append (.cons (.head _) .nil)
 ·intro p hp q hq
  rcases List.mem_cons.mp hp with rfl | hp
  ·exact hlS q (.tail _ (List.mem_append_left _ (List.mem_append_right _ hq)))
  ·exact hlt p hp q hq
 ·intro p hp
  rcases List.mem_cons.mp hp with rfl | hp
  ·exact hno _ (.head _)
  ·rcases List.mem_cons.mp hp with rfl | hp
   ·exact Nat.ne_of_gt hD
   ·exact hno p (.tail _ hp)
 ·intro p hp b hb
  simp only [List.map_cons, List.map_append, List.cons_append, List.mem_cons, List.mem_append] at hb
  rcases hb with rfl | rfl | rfl | hb
  ·exact hoff p hp _ (by simp)
  ·exact hoff p hp _ (by simp)
  ·exact Nat.ne_of_lt (hlS p (.tail _ (List.mem_append_right _ hp)))
  ·exact hoff p hp b (by simp only [List.map_cons, List.map_append, List.mem_cons, List.mem_append]; exact .inr (.inr hb))
 ·intro p hp
  simp only [List.cons_append, List.mem_cons, List.mem_append] at hp ⊢
  rcases hp with hp | hp | hp | hp | hp
  ·exact .inr (.inl hp)
  ·exact .inr (.inr (.inl hp))
  ·exact .inl hp
  ·exact .inr (.inr (.inr (.inl (.inl hp))))
  ·exact .inr (.inr (.inr (.inl (.inr hp))))
 ·intro p hp
  exact .tail _ (.tail _ (.tail _ (List.mem_append_right _ hp)))
end
theorem heard_off {D l : Addr} {od ol : Obj} {tl news own : List (Addr × Obj)} (hno : ∀ p ∈ (l, ol) :: (tl ++ news), p.1 ≠ D) (hoff : OwnOff own (((D, od) :: (l, ol) :: (tl ++ news)).map (·.1))) : ∀ p ∈ (l, ol) :: (tl ++ news ++ own), p.1 ≠ D := fun p hp => by
 rcases List.mem_cons.mp hp with rfl | hp
 ·exact hno _ (.head _)
 ·rcases List.mem_append.mp hp with hp | hp
  ·exact hno p (.tail _ hp)
  ·exact hoff p hp _ (by simp)
theorem heard_done {h₀ h : Heap} {L D l : Addr} {od ol : Obj} {tl news : List (Addr × Obj)} (N : News h₀ L h ((D, od) :: (l, ol) :: (tl ++ news))) : News h₀ L h ((D, od) :: (tl ++ news)) := fun p hp => N p (by
 rcases List.mem_cons.mp hp with rfl | hp
 ·exact .head _
 ·exact .tail _ (.tail _ hp))
theorem heard_fresh {D : Addr} {od : Obj} {tl news : List (Addr × Obj)} (a : ∀ p ∈ news, p.1 < D) (b : ∀ p ∈ tl, ∀ q ∈ news, q.1 < p.1) : ∀ p ∈ (D, od) :: tl, ∀ q ∈ news, q.1 < p.1 := fun p hp => by
 rcases List.mem_cons.mp hp with rfl | hp
 ·exact a
 ·exact b p hp
theorem strValues_len {l : List (PySem.Str × Tok)} {lines : List PySem.Str} {ts : List ToldM} (e : l.map (·.1) = lines) (h : LinesOk lines ts) : (strValues l).length = ts.length := by
 unfold strValues
 rw [List.length_map, ← h.length, ← e, List.length_map]
end Mine
end
section
local macro_rules | `(tactic| omega) => `(tactic| fail "OL")
theorem Mine.clean_A11 : Mine.CleanT := by
 intro M A Q E s h
 w_top off
 first
  | (walk1; fail_if_success skip)
  | exact h
open PySem PySem.W PyProof.Rows
namespace Mine
local macro_rules | `(tactic| walk_at "subscriptTail Name Slice ref ref") => `(tactic| refine Au.un 3 ?_)
local macro_rules | `(tactic| walk_at "call builtin:str.split") => `(tactic| refine Au.un 1 ?_)
local macro_rules | `(tactic| walk_at "pyIter ref") => `(tactic| (refine Hold.un ?_))
local macro_rules | `(tactic| walk_at "call ref") => `(tactic| refine Au.un 2 ?_)
local macro_rules | `(tactic| walk_at "exec For") => `(tactic| (refine Hold.un ?_))
theorem heard_spc (w : World) (clock : PySem.Str) (t : Tok) (lines : List PySem.Str) (e1 e2 : PySem.Str) (news : List (Addr × Obj)) (hcl : clock.length ≤ 3000) (hsp : Txt.split clock (Str.ofString "\r\n") = lines ++ [e1, e2]) (hll : lines.length ≤ 10) (ts : List ToldM) (hts : LinesOk lines ts) :
  Spc w 252 3 [.str clock t] news (RHeard news ts) := by
 intro mean mg mb dp un gd cn cs a ccd cl outer A₀ base h₀ L m s Q E B F X N T hk hd hu hret
 (revert hcl hsp hll hts B F X N T hk hd hu hret; revert w clock t lines e1 e2 news ts mean mg mb dp un gd cn cs a ccd cl outer A₀ base h₀ L m s Q E; fail "CLi"; rename_i w clock t lines e1 e2 news ts mean mg mb dp un gd cn cs a ccd cl outer A₀ base h₀ L m s Q E hcl hsp hll hts B F X N T hk hd hu hret; fail "CLm")
 refine wpAny_call ?_
 k_dflt cell_enter
 (rename_i zz0 zz1 zz2 zz3 zz4 zz5 zz6 zz7 zz8; revert zz3 zz4 zz5 zz6 zz7 zz8; revert zz0 zz1 zz2; fail "CLi"; rename_i zz0 zz1 zz2 zz3 zz4 zz5 zz6 zz7 zz8; fail "CLm")
 k_steps
 refine Hold.mk ?_
 rename Fr _ _ _ _ => F9
 refine For_invVF F9 rfl rfl ?_
 (k_steps; repeat' ((first | ((with_reducible refine Au.mk 1 ?_); ((k_here; k_dflt (refine' split_K ?F ?N ?s ?y ?z ?_; (case F => k_asm); (case N => k_asm); (case s => assumption); (case y => decide); (case z => omega); k_whole; intro D'z l'z h'z k'z e'z F'z N'z l1'z; (try have l2'z := allLt_of l1'z))))) | ((with_reducible refine Au.mk 3 ?_); (first | ((k_here; (with_reducible rename News _ _ _ _ => N9z); k_dflt (refine' cut2_K ?F N9z (List.Mem.head _) ?e ?z ?_; (case F => k_asm); (case e => assumption); (case z => omega); k_whole; intro D'z l'z h'z e'z F'z N'z l1'z; (try have l2'z := allLt_of l1'z)))) | (have auoff := AuOff.on; walk1 <;> clear auoff)))) <;> k_steps))
 refine Hold.mk ?_
 rename List.map _ _ = lines => hl'
 rename News _ _ _ _ => N9
 rename Fr _ _ _ _ => F9
 have hvl := strValues_len hl' hts
 refine heard_iter ts rfl F9 N9 rfl (by assumption) (by assumption) ?turn ?done
 case turn =>
  intro i v m₁ us kk tl h tk own hv hoff hT hlt hno F₁ N₁
  obtain ⟨line, tx, rfl, hx⟩ := strValues_get hl' hv
  obtain ⟨hh, n, r, htx, K⟩ := hts.at hx
  have K1 := K.len
  have K2 := K.at4
  have K3 := K.rest
  have K4 := K.one
  have e9 : Txt.slice line (some (Txt.find line (Str.ofString ": ") + 2)) none = r := by rw [K2]; exact K3
  have K5 : ReplyOk (Txt.slice line (some (Txt.find line (Str.ofString ": ") + 2)) none) n := e9 ▸ K.reply
  have K6 := K.onel
  clear N9 F9
  (rename_i zz0 zz1 zz2 zz3 zz4; revert e'z F'z N9z zz3 zz4 hl' l1'z l2'z hvl hoff hT hlt hno N₁ hx hv F₁ htx K K1 K2 K3 K4 e9 K5 K6; revert zz0 zz1 zz2 k'z D'z l'z h'z i m₁ us kk tl h tk own line tx hh n r; fail "CLi"; rename_i zz0 zz1 zz2 k'z D'z l'z h'z i m₁ us kk tl h tk own line tx hh n r e'z F'z N9z zz3 zz4 hl' l1'z l2'z hvl hoff hT hlt hno N₁ hx hv F₁ htx K K1 K2 K3 K4 e9 K5 K6; fail "CLm")
  (k_steps; repeat' (((with_reducible refine Au.mk 2 ?_); (first | ((k_here; k_dflt (refine' parse_ok _ _ _ _ _ _ _ _ _ ?hp ?R _ _ _ _ _ _ _ _ _ _ _ _ _ _ _ _ _ _ _ _ ?B ?F ?X ?N ?T ?ck ?dd ?uu ?_; (case B => k_asm); (case F => k_asm); (case X => k_asm); (case N => k_asm); (case T => k_asm); (case ck => first | exact rfl | assumption); (case dd => ktr_room); (case uu => ktr_units); (case hp => k_mem); (case R => assumption)); intro _ _ _ _ _ N9z e9z; obtain ⟨q9z, u9z, u8z, e9z, e8z, l9z⟩ := e9z; rw [e8z] at N9z; clear e8z; (have e9z := e9z.symm; subst e9z); (try have l9z := allLt_of l9z); (try dsimp only); (try k_fold))) | ((k_here; k_dflt (refine' strip_ok _ _ _ _ _ _ _ ?K _ _ _ _ _ _ _ _ _ _ _ _ _ _ _ _ _ _ _ _ ?B ?F ?X ?N ?T ?ck ?dd ?uu ?_; (case B => k_asm); (case F => k_asm); (case X => k_asm); (case N => k_asm); (case T => k_asm); (case ck => first | exact rfl | assumption); (case dd => ktr_room); (case uu => ktr_units); (case K => assumption)); intro _ _ _ _ _ N9z e9z; obtain ⟨⟨t9z, e9z⟩, e8z⟩ := e9z; rw [e8z] at N9z; clear e8z; (have e9z := e9z.symm; subst e9z); (try dsimp only); (try k_fold))))) <;> k_steps))
  ·exfalso; omega
  rename News _ _ _ _ => N5
  rename Fr _ _ _ _ => F5
  refine heard_app F5 N5 (by assumption) (by assumption) (by assumption) (by assumption) (heard_off hno hoff) (by rw [hT.length, List.length_take]; have := hts.length; omega) ?_
  intro h6 F6 N6 lS
  rw [K4, e9] at N6
  clear F5 N5
  (rename_i zz0 zz1 zz2 zz3 zz4 zz5 zz6 zz7 zz8 zz9 zz10 zz11 zz12 zz13 zz14 zz15 zz16 zz17; revert zz3 zz4 zz7 zz11 e9z l9z zz14 zz17 F6 N6 lS; revert zz0 zz1 zz2 t9z zz5 zz6 zz8 zz9 zz10 q9z u9z u8z zz12 zz13 zz15 zz16 h6; fail "CLi"; rename_i zz0 zz1 zz2 t9z zz5 zz6 zz8 zz9 zz10 q9z u9z u8z zz12 zz13 zz15 zz16 h6 zz3 zz4 zz7 zz11 e9z l9z zz14 zz17 F6 N6 lS; fail "CLm")
  k_steps
  exact heard_end (by k_asm) rfl (by k_asm) (by assumption) hT htx hlt hno hoff
 case done =>
  intro m₁ us kk tl h tk hT hlt hno F₁ N₁
  rw [hvl, List.take_length] at hT
  clear N9 F9
  (rename_i zz0 zz1 zz2 zz3 zz4; revert e'z F'z N9z zz3 zz4 hl' l1'z l2'z hvl hT hlt hno F₁ N₁; revert zz0 zz1 zz2 k'z D'z l'z h'z m₁ us kk tl h tk; fail "CLi"; rename_i zz0 zz1 zz2 k'z D'z l'z h'z m₁ us kk tl h tk e'z F'z N9z zz3 zz4 hl' l1'z l2'z hvl hT hlt hno F₁ N₁; fail "CLm")
  k_steps
  exact hret _ _ _ _ (by k_asm) (heard_done (by k_asm)) ⟨_, us, kk, tl, rfl, rfl, hT, heard_fresh (by assumption) hlt, fun p hp => hno p (.tail _ (List.mem_append_left _ hp))⟩
end Mine
end
section
open PySem PySem.W PySem.Spec PySem.Calls PyProof.Rows
namespace Mine
noncomputable def combos1 (a mk : PySem.Str) : List (PySem.Str × PySem.Str × PySem.Str × PySem.Str × PySem.Str) :=
 [Str.ofString "", Str.ofString "1"].flatMap fun f => [Txt.mul (Str.ofString "0") 0, Txt.mul (Str.ofString "0") 1, Txt.mul (Str.ofString "0") 2].flatMap fun z => [Str.ofString "", Str.ofString ".("].map fun t => (a, mk, f, z, t)
noncomputable def combos : List (PySem.Str × PySem.Str × PySem.Str × PySem.Str × PySem.Str) :=
 [Str.ofString "", Str.ofString "ok) "].flatMap fun a => [Txt.item (Str.ofString "|!;x") 0, Txt.item (Str.ofString "|!;x") 1, Txt.item (Str.ofString "|!;x") 2, Txt.item (Str.ofString "|!;x") 3].flatMap fun mk => combos1 a mk
theorem fm3 (x : Int) : x.fmod 3 = 0 ∨ x.fmod 3 = 1 ∨ x.fmod 3 = 2 := by rw [Int.fmod_eq_emod_of_nonneg _ (by decide)]; exact triI (fun zq0 => False.elim (lin [] [_] [(6,.v 0,.n 0),(7,.n 0,.v 0)] (12,.n 0,.n 0) [0,1,1] [] rfl zq0 (Int.emod_nonneg _ (by decide)))) fun zq0 => triI (fun zq1 => lin [] [_] [(6,.n 0,.v 0),(6,.v 0,.n 1)] (8,.v 0,.n 2) [1,0,1] [0,1,1] rfl zq0 zq1) fun zq1 => lin [] [_] [(6,.n 1,.v 0),(6,.v 0,.n 3)] (8,.v 0,.n 2) [1,0,1] [1,1,0] rfl zq1 (Int.emod_lt_of_pos _ (by decide))
theorem fm4 (x : Int) : x.fmod 4 = 0 ∨ x.fmod 4 = 1 ∨ x.fmod 4 = 2 ∨ x.fmod 4 = 3 := by rw [Int.fmod_eq_emod_of_nonneg _ (by decide)]; exact triI (fun zq0 => False.elim (lin [] [_] [(6,.v 0,.n 0),(7,.n 0,.v 0)] (12,.n 0,.n 0) [0,1,1] [] rfl zq0 (Int.emod_nonneg _ (by decide)))) fun zq0 => triI (fun zq1 => False.elim (lin [] [_] [(6,.n 0,.v 0),(6,.v 0,.n 1)] (12,.n 0,.n 0) [0,1,1] [] rfl zq0 zq1)) fun zq1 => triI (fun zq2 => lin [] [_] [(6,.n 1,.v 0),(6,.v 0,.n 2)] (8,.v 0,.n 3) [1,0,1] [0,1,1] rfl zq1 zq2) fun zq2 => lin [] [_] [(6,.n 2,.v 0),(6,.v 0,.n 4)] (8,.v 0,.n 3) [1,0,1] [1,1,0] rfl zq2 (Int.emod_lt_of_pos _ (by decide))
theorem reply_combo (c d : Int) : ∃ q ∈ combos, replyS c d = replyOf q.1 q.2.1 q.2.2.1 q.2.2.2.1 q.2.2.2.2 c := by
 unfold replyS combos combos1
 simp only [List.mem_flatMap, List.mem_map]
 refine ⟨⟨_, _, _, _, _⟩, ⟨if (d.fdiv 4).fmod 2 = 0 then Str.ofString "" else Str.ofString "ok) ", ?_, Txt.item (Str.ofString "|!;x") (d.fmod 4), ?_, if (d.fdiv 8).fmod 2 = 0 then Str.ofString "" else Str.ofString "1", ?_, Txt.mul (Str.ofString "0") ((d.fdiv 32).fmod 3), ?_, if (d.fdiv 16).fmod 2 = 0 then Str.ofString "" else Str.ofString ".(", ?_, rfl⟩, rfl⟩
 ·split <;> simp
 ·rcases fm4 d with e | e | e | e <;> rw [e] <;> simp
 ·split <;> simp
 ·rcases fm3 (d.fdiv 32) with e | e | e <;> rw [e] <;> simp
 ·split <;> simp
end Mine
end
section
open PySem PySem.W PySem.Spec PySem.Calls PyProof.Rows
namespace Mine
noncomputable def Ltr (h : PySem.Str) : Prop := h = Str.ofString "a" ∨ h = Str.ofString "b" ∨ h = Str.ofString "c"
noncomputable def nmA (odd : Int) (h : PySem.Str) : PySem.Str := if odd = 0 then Str.ofString "at." ++ h else Str.ofString "At." ++ Txt.upper h
noncomputable def nmB (odd : Int) (h : PySem.Str) : PySem.Str := if odd = 0 then Str.ofString "at." ++ h else Str.ofString "AT." ++ Txt.upper h
noncomputable def atSM (h : PySem.Str) : PySem.Str := Str.ofString "at." ++ h
noncomputable def NmOk (nm h : PySem.Str) : Prop := nm = atSM h ∨ nm = Str.ofString "At." ++ Txt.upper h ∨ nm = Str.ofString "AT." ++ Txt.upper h
theorem nmA_ok (odd : Int) (h : PySem.Str) : NmOk (nmA odd h) h := by
 unfold nmA
 split
 ·exact .inl rfl
 ·exact .inr (.inl rfl)
theorem nmB_ok (odd : Int) (h : PySem.Str) : NmOk (nmB odd h) h := by
 unfold nmB
 split
 ·exact .inl rfl
 ·exact .inr (.inr rfl)
structure EntOk (p : PySem.Str × PySem.Str) (t : ToldM) : Prop where
 key : Txt.lower p.1 = atSM t.1
 val : p.2 = t.2.2
 ltr : Ltr t.1
 rep : ReplyOk p.2 t.2.1
 plain : Plain p.2
 keyl : p.1.length = 4
 nm : NmOk p.1 t.1
inductive Clk : List (PySem.Str × PySem.Str) → List ToldM → Prop
 | nil : Clk [] []
 | cons {p t hs ts} : EntOk p t → Clk hs ts → Clk (p :: hs) (t :: ts)
theorem Clk.length {hs : List (PySem.Str × PySem.Str)} {ts : List ToldM} (x : Clk hs ts) : hs.length = ts.length := by
 induction x with
 | nil => rfl
 | cons _ _ ih => simp [ih]
theorem Clk.short {hs : List (PySem.Str × PySem.Str)} {ts : List ToldM} (x : Clk hs ts) : HShort hs := by
 induction x with
 | nil => exact fun _ h => nomatch h
 | cons a _ ih =>
  intro p hp
  rcases List.mem_cons.mp hp with rfl | hp
  ·exact ⟨by rw [a.keyl]; decide, a.rep.len⟩
  ·exact ih p hp
theorem Clk.append {hs ks : List (PySem.Str × PySem.Str)} {ts us : List ToldM} (x : Clk hs ts) (y : Clk ks us) : Clk (hs ++ ks) (ts ++ us) := by
 induction x with
 | nil => exact y
 | cons a _ ih => exact .cons a ih
noncomputable def tget (ts : List ToldM) (h : PySem.Str) : Option ToldM := ts.find? fun t => t.1 == h
noncomputable def tdel (ts : List ToldM) (h : PySem.Str) : List ToldM := ts.filter fun t => t.1 != h
noncomputable def evH (ts : List ToldM) (t : ToldM) : List ToldM := match tget ts t.1 with
 | none => ts ++ [t]
 | some o => if o.2.1 < t.2.1 then tdel ts t.1 ++ [t] else ts
noncomputable def ownCount (ts : List ToldM) (x : PySem.Str) : Int := match tget ts x with
 | none => 1
 | some o => o.2.1 + 1
noncomputable def evOwn (ts : List ToldM) (x : PySem.Str) (d : Int) : List ToldM := tdel ts x ++ [(x, ownCount ts x, replyS (ownCount ts x) d)]
noncomputable def event (ts heard : List ToldM) (x : PySem.Str) (d : Int) : List ToldM := evOwn (heard.foldl evH ts) x d
theorem at_inj {h k : PySem.Str} (hh : Ltr h) (hk : Ltr k) : (atSM h == atSM k) = (h == k) := by
 rcases hh with rfl | rfl | rfl <;> rcases hk with rfl | rfl | rfl <;> decide +kernel
theorem nmA_facts {h : PySem.Str} {odd : Int} (hh : Ltr h) : Txt.lower (nmA odd h) = atSM h ∧ (nmA odd h).length = 4 ∧ Plain (nmA odd h) ∧ Plain (atSM h) ∧ (atSM h).length = 4 := by
 unfold nmA
 rcases hh with rfl | rfl | rfl <;> split <;> refine ⟨by decide +kernel, by decide +kernel, ?_, ?_, by decide +kernel⟩ <;> unfold Plain <;> decide +kernel
theorem nmB_facts {h : PySem.Str} {odd : Int} (hh : Ltr h) : Txt.lower (nmB odd h) = atSM h ∧ (nmB odd h).length = 4 ∧ Plain (nmB odd h) := by
 unfold nmB
 rcases hh with rfl | rfl | rfl <;> split <;> refine ⟨by decide +kernel, by decide +kernel, ?_⟩ <;> unfold Plain <;> decide +kernel
theorem nmC_facts {h : PySem.Str} (hh : Ltr h) : Txt.lower (Str.ofString "AT." ++ h) = atSM h ∧ (Str.ofString "AT." ++ h).length = 4 := by
 rcases hh with rfl | rfl | rfl <;> exact ⟨by decide +kernel, by decide +kernel⟩
theorem Clk.hget {hs : List (PySem.Str × PySem.Str)} {ts : List ToldM} (x : Clk hs ts) {h : PySem.Str} (hh : Ltr h) :
  (Mine.hget hs (atSM h) = none ∧ tget ts h = none) ∨ ∃ t, tget ts h = some t ∧ Mine.hget hs (atSM h) = some t.2.2 ∧ ReplyOk t.2.2 t.2.1 ∧ Plain t.2.2 ∧ t ∈ ts := by
 induction x with
 | nil => exact .inl ⟨rfl, rfl⟩
 | @cons p t hs ts a _ ih =>
  unfold Mine.hget tget at ih ⊢
  rw [List.find?_cons, List.find?_cons, a.key, at_inj a.ltr hh]
  cases e : (t.1 == h) with
  | true => exact .inr ⟨t, rfl, by rw [← a.val]; rfl, a.val ▸ a.rep, a.val ▸ a.plain, .head _⟩
  | false =>
   rcases ih with hR9_57 | hR9_56
   ·refine an2 hR9_57 fun h1 h2 => ?_
    try clear hR9_57
    exact .inl ⟨h1, h2⟩
   ·refine ex1 hR9_56 fun t' h9_93 => an5 h9_93 fun h1 h2 h3 h4 h5 => ?_
    clear h9_93
    try clear hR9_56
    exact .inr ⟨t', h1, h2, h3, h4, .tail _ h5⟩
theorem Clk.del {hs : List (PySem.Str × PySem.Str)} {ts : List ToldM} (x : Clk hs ts) {h nm : PySem.Str} (hh : Ltr h) (hn : Txt.lower nm = atSM h) : Clk (hdel hs nm) (tdel ts h) := by
 unfold hdel tdel
 rw [hn]
 induction x with
 | nil => exact .nil
 | @cons p t hs ts a _ ih =>
  rw [List.filter_cons, List.filter_cons]
  have e : (Txt.lower p.1 != atSM h) = (t.1 != h) := by
   show (!(Txt.lower p.1 == atSM h)) = !(t.1 == h)
   rw [a.key, at_inj a.ltr hh]
  rw [e]
  cases (t.1 != h) with
  | true => exact .cons a ih
  | false => exact ih
theorem Clk.set {hs : List (PySem.Str × PySem.Str)} {ts : List ToldM} (x : Clk hs ts) {h nm y : PySem.Str} {n : Int} (hh : Ltr h) (hn : Txt.lower nm = atSM h) (hl : nm.length = 4) (hr : ReplyOk y n) (hp : Plain y) (hm : NmOk nm h) : Clk (hset hs nm y) (tdel ts h ++ [(h, n, y)]) :=
 (x.del hh hn).append (.cons ⟨hn, rfl, hh, hr, hp, hl, hm⟩ .nil)
noncomputable def HearOk (t : ToldM) : Prop := Ltr t.1 ∧ ReplyOk t.2.2 t.2.1 ∧ Plain t.2.2
theorem evH_len (ts : List ToldM) (t : ToldM) : (evH ts t).length ≤ ts.length + 1 := by
 unfold evH
 split
 ·simp
 ·split
  ·have : (tdel ts t.1).length ≤ ts.length := List.length_filter_le _ _
   rw [List.length_append]; simp only [List.length_cons, List.length_nil]; exact lin [_,_] [] [(1,.v 0,.v 1)] (1,.a (.v 0) (.a (.n 0) (.n 1)),.a (.v 1) (.n 1)) [1,1] [] rfl this
  ·exact lin [_] [] [] (1,.v 0,.a (.v 0) (.n 1)) [1] [] rfl
theorem fold_len (us : List ToldM) : ∀ ts : List ToldM, (us.foldl evH ts).length ≤ ts.length + us.length := by
 induction us with
 | nil => intro ts; exact Nat.le_refl _
 | cons u us ih =>
  intro ts
  have h1 := ih (evH ts u)
  have h2 := evH_len ts u
  simp only [List.foldl_cons, List.length_cons]; exact lin [_,_,_,_] [] [(1,.v 0,.a (.v 1) (.v 2)),(1,.v 1,.a (.v 3) (.n 1))] (1,.v 0,.a (.v 3) (.a (.v 2) (.n 1))) [1,1,1] [] rfl h1 h2
noncomputable def sdT (ts : List ToldM) (t : ToldM) : List ToldM := match tget ts t.1 with | none => ts ++ [t] | some _ => ts
noncomputable def sdM (ts : List ToldM) (t : ToldM) : Int := match tget ts t.1 with | none => t.2.1 | some o => o.2.1
theorem sd_clk {hs : List (PySem.Str × PySem.Str)} {ts : List ToldM} (K : Clk hs ts) {h nm y : PySem.Str} {n : Int} (hh : Ltr h) (hn : Txt.lower nm = atSM h) (hl : nm.length = 4) (hr : ReplyOk y n) (hp : Plain y) (hm : NmOk nm h) :
  ReplyOk (hsetdefault hs nm y).1 (sdM ts (h, n, y)) ∧ Clk (hsetdefault hs nm y).2 (sdT ts (h, n, y)) := by
 unfold hsetdefault sdM sdT
 rw [hn]
 rcases K.hget hh with hR9_59 | hR9_58
 ·refine an2 hR9_59 fun h1 h2 => ?_
  try clear hR9_59
  rw [h1, h2]
  exact ⟨hr, K.append (.cons ⟨hn, rfl, hh, hr, hp, hl, hm⟩ .nil)⟩
 ·refine ex1 hR9_58 fun t h9_94 => an5 h9_94 fun h1 h2 h3 _ _ => ?_
  clear h9_94
  try clear hR9_58
  rw [h1, h2]
  exact ⟨h3, K⟩
theorem evH_sd (ts : List ToldM) (t : ToldM) : evH ts t = if sdM ts t < t.2.1 then tdel (sdT ts t) t.1 ++ [t] else sdT ts t := by
 unfold evH sdM sdT
 cases e : tget ts t.1 with
 | none => simp
 | some o => rfl
theorem sdT_len (ts : List ToldM) (t : ToldM) : (sdT ts t).length ≤ ts.length + 1 := by
 unfold sdT
 split
 ·simp
 ·exact lin [_] [] [] (1,.v 0,.a (.v 0) (.n 1)) [1] [] rfl
theorem fold_step {ts heard : List ToldM} {i : Nat} {t : ToldM} (h : heard[i]? = some t) : (heard.take (i + 1)).foldl evH ts = evH ((heard.take i).foldl evH ts) t := by
 rw [List.take_add_one, h, List.foldl_append]
 rfl
end Mine
end
section
open PySem PySem.W PySem.Spec PySem.Calls PyProof.Rows
namespace Mine
noncomputable def EvNames (c : Addr) (x : PySem.Str) (tx : Tok) (dd : Int) (td : Tok) (odd : Int) (to : Tok) (m : PySem.Str → Option Value) : Prop :=
 m (Str.ofString "clock") = some (.ref c) ∧ m (Str.ofString "host") = some (.str x tx) ∧ m (Str.ofString "dress") = some (.int dd td) ∧ m (Str.ofString "odd") = some (.int odd to)
theorem EvNames.open_ {c : Addr} {x : PySem.Str} {tx : Tok} {dd : Int} {td : Tok} {odd : Int} {to : Tok} {m : PySem.Str → Option Value} (h : EvNames c x tx dd td odd to m) :
  m = fun y => if y = Str.ofString "clock" then some (.ref c) else if y = Str.ofString "host" then some (.str x tx) else if y = Str.ofString "dress" then some (.int dd td) else if y = Str.ofString "odd" then some (.int odd to) else m y := by
 refine an4 h fun h1 h2 h3 h4 => ?_
 try clear h
 funext y
 by_cases a : y = Str.ofString "clock"
 ·rw [if_pos a, a, h1]
 rw [if_neg a]
 by_cases a : y = Str.ofString "host"
 ·rw [if_pos a, a, h2]
 rw [if_neg a]
 by_cases a : y = Str.ofString "dress"
 ·rw [if_pos a, a, h3]
 rw [if_neg a]
 by_cases a : y = Str.ofString "odd"
 ·rw [if_pos a, a, h4]
 rw [if_neg a]
noncomputable def EvLed (rest core : List (Addr × Obj)) (l : Addr) (cur : List ToldM) (nx : List (Addr × Obj)) : Prop :=
 ∃ hs', RClk rest core l hs' nx ∧ Clk hs' cur
noncomputable def EvJ (c l : Addr) (rest core : List (Addr × Obj)) (x : PySem.Str) (tx : Tok) (dd : Int) (td : Tok) (odd : Int) (to : Tok) (ts heard : List ToldM) (i : Nat) (m : PySem.Str → Option Value) (nx : List (Addr × Obj)) : Prop :=
 EvNames c x tx dd td odd to m ∧ EvLed rest core l ((heard.take i).foldl evH ts) nx
section
variable {prog : Program} {w : World} {A : Around} {E : Value → Shared → Prop} {s : Shared} {h₀ : Heap} {env : Env} {body : List Stmt} {Q : Flow → Shared → Prop}
theorem event_iter {elts : List PySem.Expr} {kk : Nat} {tpos : Pos} {c d l H : Addr} {n k : Nat} {vs us : List Value} {hs : List (PySem.Str × PySem.Str)} {m₀ : PySem.Str → Option Value} {rest core : List (Addr × Obj)} {x : PySem.Str} {tx : Tok} {dd : Int} {td : Tok} {odd : Int} {to : Tok} {ts heard : List ToldM}
  (hh : A.handled = none) (F : Fr h₀ env.locals s.heap m₀) (N : News h₀ env.locals s.heap ((l, listOf vs.toArray n) :: rest)) (hH : (H, listOf us.toArray k) ∈ rest) (C : ClkAt rest c d l) (hp : HIn core vs hs) (K : Clk hs ts) (hT : ToldIn rest us heard)
  (hm : EvNames c x tx dd td odd to m₀)
  (turn : ∀ (i : Nat) (q : Addr) (hl : PySem.Str) (cnt : Int) (r : PySem.Str) (t1 t2 t3 : Tok) (m₁ : PySem.Str → Option Value) (vs' : List Value) (n' : Nat) (hs' : List (PySem.Str × PySem.Str)) (tl : List (Addr × Obj)) (h : Heap) (tk : Nat) (own : List (Addr × Obj)),
   (q, tupOf [.str hl t1, .int cnt t2, .str r t3]) ∈ tl ++ rest ++ own → heard[i]? = some (hl, cnt, r) → OwnOff own (((l, listOf vs'.toArray n') :: (tl ++ rest)).map (·.1)) → HIn (tl ++ core) vs' hs' → (∀ p ∈ tl, l < p.1 ∧ ∀ q ∈ rest, q.1 < p.1) → ClkAt (tl ++ rest ++ own) c d l → Clk hs' ((heard.take i).foldl evH ts) →
   Fr h₀ env.locals h (fun y => if y = Str.ofString "clock" then some (.ref c) else if y = Str.ofString "host" then some (.str x tx) else if y = Str.ofString "dress" then some (.int dd td) else if y = Str.ofString "odd" then some (.int odd to) else m₁ y) →
   News h₀ env.locals h ((l, listOf vs'.toArray n') :: (tl ++ rest ++ own)) →
   wpAny (model prog w) A (assign (.Tuple elts kk tpos) env (.ref q)) (fun _ s₃ => wpAny (model prog w) A (execs body env) (InvPostG h₀ env.locals (fun m' nx => (H, listOf us.toArray k) ∈ nx ∧ EvJ c l rest core x tx dd td odd to ts heard (i + 1) m' nx) own { s with heap := h, toks := tk } Q) E s₃) E { s with heap := h, toks := tk })
  (done : ∀ (m₁ : PySem.Str → Option Value) (vs' : List Value) (n' : Nat) (hs' : List (PySem.Str × PySem.Str)) (tl : List (Addr × Obj)) (h : Heap) (tk : Nat), HIn (tl ++ core) vs' hs' → (∀ p ∈ tl, l < p.1 ∧ ∀ q ∈ rest, q.1 < p.1) → ClkAt (tl ++ rest) c d l → Clk hs' (heard.foldl evH ts) →
   Fr h₀ env.locals h (fun y => if y = Str.ofString "clock" then some (.ref c) else if y = Str.ofString "host" then some (.str x tx) else if y = Str.ofString "dress" then some (.int dd td) else if y = Str.ofString "odd" then some (.int odd to) else m₁ y) →
   News h₀ env.locals h ((l, listOf vs'.toArray n') :: (tl ++ rest)) → Q .next { s with heap := h, toks := tk }) :
  wpAny (model prog w) A (pyIter (.ref H)) (fun it s₂ => TurnsAt prog w A h₀ env (.Tuple elts kk tpos) body Q E it s₂) E s := by
 refine kt_list (EvJ c l rest core x tx dd td odd to ts heard) hh (.tail _ hH) F N ⟨hm, hs, ⟨vs, n, [], rfl, hp, fun _ h => nomatch h⟩, K⟩ ?_ ?_
 ·intro i v m₁ nx h tk own hv hoff hmem hj F₁ N₁
  refine an2 hj fun hm h9_83 => ex1 h9_83 fun hs' h9_84 => an2 h9_84 fun hn9_82 K' => ?_
  clear h9_84 h9_83
  try clear hj
  obtain ⟨vs', n', tl, rfl, hp', hlt⟩ := hn9_82
  rw [hm.open_] at F₁
  refine ex6 (hT.get hv) fun q hl cnt r t1 t2 h9_86 => ex1 h9_86 fun t3 h9_87 => an3 h9_87 fun eq9_85 hq hx => ?_
  clear h9_87 h9_86
  subst eq9_85
  have C' : ClkAt (tl ++ rest ++ own) c d l := by
   have C1 := C.grow hlt
   refine ⟨List.mem_append_left _ C1.inst, let ⟨a, b, z⟩ := C1.dict; ⟨a, b, List.mem_append_left _ z⟩, fun p hp => ?_⟩
   rcases List.mem_append.mp hp with hp | hp
   ·exact C1.off p hp
   ·exact hoff p hp _ (by simp)
  exact turn i q hl cnt r t1 t2 t3 m₁ vs' n' hs' tl h tk own (List.mem_append_left _ (List.mem_append_right _ hq)) hx hoff hp' hlt C' K' F₁ N₁
 ·intro m₁ nx h tk hj F₁ N₁
  refine an2 hj fun hm h9_89 => ex1 h9_89 fun hs' h9_90 => an2 h9_90 fun hn9_88 K' => ?_
  clear h9_90 h9_89
  try clear hj
  obtain ⟨vs', n', tl, rfl, hp', hlt⟩ := hn9_88
  rw [hm.open_] at F₁
  rw [hT.length, List.take_length] at K'
  exact done m₁ vs' n' hs' tl h tk hp' hlt (C.grow hlt) K' F₁ N₁
end
theorem event_end {h₀ h' : Heap} {L : Addr} {m : PySem.Str → Option Value} {c l H : Addr} {k n' n2 i : Nat} {us vs' vs2 : List Value} {rest core own tl tl2 X : List (Addr × Obj)} {x : PySem.Str} {tx : Tok} {dd : Int} {td : Tok} {odd : Int} {to : Tok} {ts heard : List ToldM} {hs2 : List (PySem.Str × PySem.Str)} {s₁ : Shared} {tk : Nat}
  (F : Fr h₀ L h' m) (hm : EvNames c x tx dd td odd to m) (N : News h₀ L h' X) (hX : ∀ p ∈ (l, listOf vs2.toArray n2) :: (tl2 ++ (tl ++ rest ++ own)), p ∈ X) (hH : (H, listOf us.toArray k) ∈ rest) (hp2 : HIn (tl2 ++ (tl ++ core)) vs2 hs2)
  (hlt : ∀ p ∈ tl, l < p.1 ∧ ∀ q ∈ rest, q.1 < p.1) (hlt2 : ∀ p ∈ tl2, l < p.1 ∧ ∀ q ∈ tl ++ rest ++ own, q.1 < p.1) (hoff : OwnOff own (((l, listOf vs'.toArray n') :: (tl ++ rest)).map (·.1))) (K : Clk hs2 ((heard.take (i + 1)).foldl evH ts)) :
  InvEndG h₀ L (fun m' nx => (H, listOf us.toArray k) ∈ nx ∧ EvJ c l rest core x tx dd td odd to ts heard (i + 1) m' nx) own s₁ { s₁ with heap := h', toks := tk } := by
 refine InvEndG.intro (nx := (l, listOf vs2.toArray n2) :: ((tl2 ++ tl) ++ rest)) F N ⟨.tail _ (List.mem_append_right _ hH), hm, hs2, ⟨vs2, n2, tl2 ++ tl, rfl, by rw [List.append_assoc]; exact hp2, ?_⟩, K⟩ ?_ ?_ ?_
 ·intro p hp
  rcases List.mem_append.mp hp with hp | hp
  ·exact ⟨(hlt2 p hp).1, fun q hq => (hlt2 p hp).2 q (List.mem_append_left _ (List.mem_append_right _ hq))⟩
  ·exact hlt p hp
 ·intro p hp b hb
  simp only [List.map_cons, List.map_append, List.mem_cons, List.mem_append] at hb
  rcases hb with rfl | (hb | hb) | hb
  ·exact hoff p hp _ (by simp)
  ·refine ex1 (List.mem_map.mp hb) fun z h9_92 => an2 h9_92 fun hz eq9_91 => ?_
   clear h9_92
   subst eq9_91
   exact Nat.ne_of_lt ((hlt2 z hz).2 p (List.mem_append_right _ hp))
  ·exact hoff p hp b (by simp only [List.map_cons, List.map_append, List.mem_cons, List.mem_append]; exact .inr (.inl hb))
  ·exact hoff p hp b (by simp only [List.map_cons, List.map_append, List.mem_cons, List.mem_append]; exact .inr (.inr hb))
 ·intro p hp
  refine hX p ?_
  simp only [List.mem_cons, List.mem_append] at hp ⊢
  rcases hp with hp | (hp | hp) | hp
  ·exact .inl hp
  ·exact .inr (.inl hp)
  ·exact .inr (.inr (.inl (.inl hp)))
  ·exact .inr (.inr (.inl (.inr hp)))
 ·intro p hp
  exact hX p (.tail _ (List.mem_append_right _ (List.mem_append_right _ hp)))
end Mine
end
section
open PySem PySem.W PySem.Spec PySem.Calls PyProof.Rows PySem.Builtin PySem.Builtin.Str
namespace Mine
open StrLaws
noncomputable def cs (x : PySem.Str) : List Nat := x.cps.toList
theorem cs_len (x : PySem.Str) : (cs x).length = x.length := by unfold cs; simp [Str.length]
theorem cs_app (x y : PySem.Str) : cs (x ++ y) = cs x ++ cs y := by unfold cs; rw [Str.cps_append]; simp
theorem cs_inj {x y : PySem.Str} (h : cs x = cs y) : x = y := Str.ext' (Array.toList_inj.mp h)
theorem at_iff (X y : PySem.Str) (hi k : Nat) : At X y hi k ↔ k + (cs y).length ≤ hi ∧ ((cs X).drop k).take (cs y).length = cs y := by
 unfold At
 rw [subAt_eq, cs_len]
 constructor
 ·rintro ⟨a, b⟩; exact ⟨a, beq_iff_eq.mp b⟩
 ·rintro ⟨a, b⟩; exact ⟨a, beq_iff_eq.mpr b⟩
theorem at_char {X y : PySem.Str} {hi k c0 : Nat} {y' : List Nat} (hy : cs y = c0 :: y') (h : At X y hi k) : (cs X)[k]? = some c0 := by
 have h2 := ((at_iff X y hi k).mp h).2
 rw [hy] at h2
 have h3 : (((cs X).drop k).take (c0 :: y').length)[0]? = some c0 := by rw [h2]; rfl
 rw [List.getElem?_take_of_lt (by simp), List.getElem?_drop] at h3
 simpa using h3
theorem split_chain (y X : PySem.Str) {c0 : Nat} {y' : List Nat} (hy : cs y = c0 :: y') : ∀ (qs : List PySem.Str) (p : PySem.Str) (a : Nat) (cuts : List Nat) (f : Nat), (∀ q ∈ p :: qs, c0 ∉ cs q) →
  (cs X).drop a = cs (Str.join y (p :: qs)) → a ≤ (cs X).length → ChainG X y X.length a cuts f → (∀ k, f ≤ k → ¬ At X y X.length k) → partsFrom X y.length a cuts = p :: qs
 | [], p, a, cuts, f, hfree, hd, ha, hG, hn => by
  have hno : ∀ k, a ≤ k → ¬ At X y X.length k := fun k hk h => by
   have h1 := at_char hy h
   have e : (cs X)[k]? = ((cs X).drop a)[k - a]? := by rw [List.getElem?_drop]; congr 1; exact lin [_,_,_] [] [(2,.a (.v 0) (.v 1),.v 2)] (2,.v 2,.a (.v 1) (.v 0)) [1,-1] [1,1] rfl (Nat.sub_add_cancel (by exact lin [_,_] [] [(1,.v 0,.v 1)] (1,.v 0,.v 1) [1,1] [] rfl hk))
   rw [e, hd] at h1
   exact hfree p (.head _) (List.mem_of_getElem? h1)
  cases cuts with
  | nil =>
   show [strSub X a X.length] = [p]
   congr 1
   apply cs_inj
   show (strSub X a X.length).cps.toList = _
   rw [strSub_toList]
   show ((cs X).drop a).take (X.length - a) = cs p
   rw [List.take_of_length_le (by rw [List.length_drop, cs_len]; exact Nat.le_refl _), hd]
   rfl
  | cons c r => exact absurd hG.2.1 (hno c hG.1)
 | q :: qs, p, a, cuts, f, hfree, hd, ha, hG, hn => by
  have hd' : (cs X).drop a = cs p ++ (cs y ++ cs (Str.join y (q :: qs))) := by
   rw [hd]
   show cs (p ++ y ++ Str.join y (q :: qs)) = _
   rw [cs_app, cs_app, List.append_assoc]
  have hlenX : (cs X).length = a + ((cs p).length + ((cs y).length + (cs (Str.join y (q :: qs))).length)) := by
   have := congrArg List.length hd'
   rw [List.length_drop, List.length_append, List.length_append] at this
   exact lin [_,_,_,_,_,_] [] [(2,.v 0,.a (.v 1) (.a (.v 2) (.v 3))),(2,.a (.v 0) (.v 4),.v 5)] (2,.v 5,.a (.v 4) (.a (.v 1) (.a (.v 2) (.v 3)))) [1,1,-1] [1,-1,1] rfl this (Nat.sub_add_cancel (by exact lin [_,_] [] [(1,.v 0,.v 1)] (1,.v 0,.v 1) [1,1] [] rfl ha))
  have hat : At X y X.length (a + (cs p).length) := by
   rw [at_iff]
   refine ⟨by rw [← cs_len X, hlenX]; exact lin [_,_,_,_] [] [] (1,.a (.a (.v 0) (.v 1)) (.v 2),.a (.v 0) (.a (.v 1) (.a (.v 2) (.v 3)))) [1] [] rfl, ?_⟩
   rw [← List.drop_drop, hd', List.drop_left, List.take_left]
  have hno : ∀ k, a ≤ k → k < a + (cs p).length → ¬ At X y X.length k := fun k hk hk2 h => by
   have h1 := at_char hy h
   have e : (cs X)[k]? = ((cs X).drop a)[k - a]? := by rw [List.getElem?_drop]; congr 1; exact lin [_,_,_] [] [(2,.a (.v 0) (.v 1),.v 2)] (2,.v 2,.a (.v 1) (.v 0)) [1,-1] [1,1] rfl (Nat.sub_add_cancel (by exact lin [_,_] [] [(1,.v 0,.v 1)] (1,.v 0,.v 1) [1,1] [] rfl hk))
   rw [e, hd', List.getElem?_append_left (by exact lin [_,_,_,_] [] [(0,.v 0,.a (.v 1) (.v 2)),(2,.a (.v 3) (.v 1),.v 0)] (0,.v 3,.v 2) [1,1,1] [] rfl hk2 (Nat.sub_add_cancel (by exact lin [_,_] [] [(1,.v 0,.v 1)] (1,.v 0,.v 1) [1,1] [] rfl hk)))] at h1
   exact hfree p (.head _) (List.mem_of_getElem? h1)
  cases cuts with
  | nil =>
   have ef : f = a := hG
   exact absurd hat (hn _ (by exact lin [_,_,_] [] [(2,.v 0,.v 1)] (1,.v 0,.a (.v 1) (.v 2)) [1,1] [] rfl ef))
  | cons c r =>
   refine an4 hG fun g1 g2 g3 g4 => ?_
   try clear hG
   have ec : c = a + (cs p).length := by
    rcases Nat.lt_trichotomy c (a + (cs p).length) with h | h | h
    ·exact absurd g2 (hno c g1 h)
    ·exact h
    ·exact absurd hat (g3 _ (by exact lin [_,_] [] [] (1,.v 0,.a (.v 0) (.v 1)) [1] [] rfl) h)
   subst ec
   show strSub X a (a + (cs p).length) :: partsFrom X y.length (a + (cs p).length + y.length) r = p :: q :: qs
   have ih := split_chain y X hy qs q (a + (cs p).length + y.length) r f (fun z hz => hfree z (.tail _ hz)) (by
    rw [← List.drop_drop, ← List.drop_drop, hd', List.drop_left, ← cs_len y, List.drop_left]) (by rw [hlenX, ← cs_len y]; exact lin [_,_,_,_] [] [] (1,.a (.a (.v 0) (.v 1)) (.v 2),.a (.v 0) (.a (.v 1) (.a (.v 2) (.v 3)))) [1] [] rfl) g4 hn
   rw [ih]
   congr 1
   apply cs_inj
   show (strSub X a _).cps.toList = _
   rw [strSub_toList]
   show ((cs X).drop a).take (a + (cs p).length - a) = cs p
   rw [hd', Nat.add_sub_cancel_left, List.take_left]
theorem split_join {y : PySem.Str} {c0 : Nat} {y' : List Nat} (hy : cs y = c0 :: y') {p : PySem.Str} {qs : List PySem.Str} (hfree : ∀ q ∈ p :: qs, c0 ∉ cs q) (hk : strKind y ≤ 0 ∨ ¬ strKind (Str.join y (p :: qs)) < strKind y) :
  Txt.split (Str.join y (p :: qs)) y = p :: qs := by
 obtain ⟨f, hG, hn⟩ := occ_tight (Str.join y (p :: qs)) y (by rw [← cs_len, hy]; simp)
 have key := split_chain y (Str.join y (p :: qs)) hy qs p 0 _ f hfree rfl (Nat.zero_le _) hG hn
 have hone : occurrences (Str.join y (p :: qs)) y 0 (Str.join y (p :: qs)).length ((Str.join y (p :: qs)).length + 1) = [] → [Str.join y (p :: qs)] = p :: qs := fun e => by
  rw [e] at key
  have key' : [strSub (Str.join y (p :: qs)) 0 (Str.join y (p :: qs)).length] = p :: qs := key
  rw [sub_whole] at key'
  exact key'
 unfold Txt.split
 split
 ·rename_i hc
  rw [Bool.or_eq_true, decide_eq_true_eq, decide_eq_true_eq] at hc
  rcases hc with h | h
  ·cases ho : occurrences (Str.join y (p :: qs)) y 0 (Str.join y (p :: qs)).length ((Str.join y (p :: qs)).length + 1) with
   | nil => exact hone ho
   | cons c r =>
    rw [ho] at hG
    have := hG.2.1.1
    exact False.elim (lin [_,_,_] [] [(0,.v 0,.v 1),(1,.a (.v 2) (.v 1),.v 0)] (12,.n 0,.n 0) [0,1,1] [] rfl h this)
  ·rcases hk with hk | hk
   ·exact False.elim (lin [_,_] [] [(0,.v 0,.v 1),(1,.v 1,.n 0)] (12,.n 0,.n 0) [0,1,1] [] rfl h hk)
   ·exact absurd h hk
 ·split
  ·rename_i he
   exact hone (List.isEmpty_iff.mp he)
  ·rw [partsBetween_eq]
   exact key
end Mine
end
section
open PySem PySem.W PySem.Spec PySem.Calls PyProof.Rows PySem.Builtin PySem.Builtin.Str
namespace Mine
open StrLaws
theorem occ_head_hi (x y : PySem.Str) (lo hi limit : Nat) (hl : 1 ≤ limit) :
  (occurrences x y lo hi limit = [] ∧ ∀ i, lo ≤ i → ¬ At x y hi i) ∨ ∃ i r, occurrences x y lo hi limit = i :: r ∧ lo ≤ i ∧ At x y hi i ∧ ∀ k, lo ≤ k → k < i → ¬ At x y hi k := by
 rw [occ_eq]
 rcases occ_first x y hi limit hl (List.range' lo (hi + 1 - lo)) lo (fun i h => (List.mem_range'_1.mp h).1) with hR9_77 | hR9_76
 ·refine an2 hR9_77 fun h0 hn => ?_
  try clear hR9_77
  exact .inl ⟨by rw [h0], fun i h1 h2 => hn i (List.mem_range'_1.mpr ⟨h1, by have := h2.1; exact lin [_,_,_,_,_] [] [(1,.a (.v 0) (.v 1),.v 2),(1,.a (.v 2) (.n 1),.a (.v 3) (.v 4))] (0,.v 0,.a (.v 4) (.v 3)) [1,1,1] [] rfl this (lsa _ _)⟩) h2⟩
 ·refine ex3 hR9_76 fun pre a post h9_95 => an4 h9_95 fun e h0 ha hn => ?_
  clear h9_95
  try clear hR9_76
  have hs := range'_split_from e
  generalize (forIn (List.range' lo (hi + 1 - lo)) ((#[] : Array Nat), lo) (occBody x y hi limit)).run.fst = arr at h0
  obtain ⟨l⟩ := arr
  cases l with
  | nil => simp at h0
  | cons b t =>
   have hb : b = a := by simpa using h0
   subst hb
   exact .inr ⟨b, t, rfl, hs.1, ha, fun k h1 h2 => hn k (hs.2 k h1 h2)⟩
theorem occ_none_hi {x y : PySem.Str} {lo hi limit : Nat} (hl : 1 ≤ limit) (h : ∀ i, lo ≤ i → ¬ At x y hi i) : occurrences x y lo hi limit = [] := by
 rcases occ_head_hi x y lo hi limit hl with hR9_79 | hR9_78
 ·refine an2 hR9_79 fun e _ => ?_
  try clear hR9_79
  exact e
 ·refine ex2 hR9_78 fun i r h9_96 => an4 h9_96 fun _ h1 h2 _ => ?_
  clear h9_96
  try clear hR9_78
  exact absurd h2 (h i h1)
theorem occ_at_hi {x y : PySem.Str} {lo hi limit k : Nat} (hl : 1 ≤ limit) (hk : lo ≤ k) (hA : At x y hi k) (h : ∀ i, lo ≤ i → i < k → ¬ At x y hi i) : ∃ r, occurrences x y lo hi limit = k :: r := by
 rcases occ_head_hi x y lo hi limit hl with hR9_81 | hR9_80
 ·refine an2 hR9_81 fun _ e => ?_
  try clear hR9_81
  exact absurd hA (e k hk)
 ·refine ex2 hR9_80 fun i r h9_97 => an4 h9_97 fun e h1 h2 h3 => ?_
  clear h9_97
  try clear hR9_80
  rcases Nat.lt_trichotomy i k with q | q | q
  ·exact absurd h2 (h i h1 q)
  ·subst q; exact ⟨r, e⟩
  ·exact absurd hA (h3 k hk q)
theorem find_no {x y : PySem.Str} (h : ∀ i, ¬ At x y x.length i) : Txt.find x y = -1 := by
 unfold Txt.find
 rw [occ_none_hi (Nat.le_refl 1) fun i _ => h i]
theorem find_at {x y : PySem.Str} {k : Nat} (hA : At x y x.length k) (h : ∀ i, i < k → ¬ At x y x.length i) : Txt.find x y = (k : Int) := by
 unfold Txt.find
 refine ex1 (occ_at_hi (limit := 1) (Nat.le_refl 1) (Nat.zero_le k) hA fun i _ hi => h i hi) fun r e => ?_
 rw [e]
theorem at_no {x y : PySem.Str} {c0 : Nat} {y' : List Nat} (hy : cs y = c0 :: y') (h : c0 ∉ cs x) {hi i : Nat} : ¬ At x y hi i := fun hA => h (List.mem_of_getElem? (at_char hy hA))
theorem at_pre {x y : PySem.Str} {c0 : Nat} {y' a b : List Nat} (hy : cs y = c0 :: y') (hx : cs x = a ++ b) (h : c0 ∉ a) {hi i : Nat} (hi' : i < a.length) : ¬ At x y hi i := fun hA => by
 have h1 := at_char hy hA
 rw [hx, List.getElem?_append_left hi'] at h1
 exact h (List.mem_of_getElem? h1)
theorem at_here {x y : PySem.Str} {a b : List Nat} (hx : cs x = a ++ (cs y ++ b)) {hi : Nat} (hh : a.length + (cs y).length ≤ hi) : At x y hi a.length := by
 rw [at_iff]
 refine ⟨hh, ?_⟩
 rw [hx, List.drop_left, List.take_left]
theorem fromIndex_nat (n k : Nat) : fromIndex n (k : Int) = k := by
 show (max 0 (if ((k : Nat) : Int) < 0 then ((k : Nat) : Int) + (n : Int) else ((k : Nat) : Int))).toNat = k
 rw [if_neg (by exact lin [_] [] [] (9,.c (.v 0),.n 0) [1] [] rfl), Int.max_eq_right (Int.natCast_nonneg k)]; exact Int.toNat_natCast k
theorem last_at {x y : PySem.Str} {hi k : Nat} (hA : At x y hi k) (h : ∀ i, i ≠ k → ¬ At x y hi i) : lastOccurrence x y 0 hi = some k := by
 rw [last_eq]
 have z := last_run x y hi (List.range' 0 (hi + 1 - 0)) [] none (fun _ h => nomatch h) (fun _ h => nomatch h) (List.pairwise_lt_range' ..)
 have hk : k ∈ List.range' 0 (hi + 1 - 0) := List.mem_range'_1.mpr ⟨Nat.zero_le _, by have := hA.1; exact lin [_,_,_,_] [] [(1,.a (.v 0) (.v 1),.v 2),(2,.a (.v 3) (.n 0),.a (.v 2) (.n 1))] (0,.v 0,.a (.n 0) (.v 3)) [1,1,-1] [] rfl this (Nat.sub_add_cancel (by exact lin [_] [] [] (1,.n 0,.a (.v 0) (.n 1)) [1] [] rfl ))⟩
 generalize (forIn (List.range' 0 (hi + 1 - 0)) none (lastBody x y hi)).run = st at z
 cases st with
 | none => exact absurd hA (z k hk)
 | some a =>
  by_cases e : a = k
  ·rw [e]
  ·exact absurd z.1 (h a e)
theorem nm_cs {nm h : PySem.Str} (x : NmOk nm h) (hh : Ltr h) : ∃ u v z, cs nm = [u, v, 46, z] ∧ (u ≠ 58 ∧ v ≠ 58 ∧ z ≠ 58) ∧ (u ≠ 46 ∧ v ≠ 46 ∧ z ≠ 46) ∧ (65 ≤ u ∧ u < 127) ∧ (65 ≤ v ∧ v < 127) ∧ (65 ≤ z ∧ z < 127) ∧ Txt.lower ⟨#[z]⟩ = h := by
 rcases x with rfl | rfl | rfl <;> rcases hh with rfl | rfl | rfl
 ·exact ⟨97, 116, 97, by decide +kernel, by decide, by decide, by decide, by decide, by decide, by decide +kernel⟩
 ·exact ⟨97, 116, 98, by decide +kernel, by decide, by decide, by decide, by decide, by decide, by decide +kernel⟩
 ·exact ⟨97, 116, 99, by decide +kernel, by decide, by decide, by decide, by decide, by decide, by decide +kernel⟩
 ·exact ⟨65, 116, 65, by decide +kernel, by decide, by decide, by decide, by decide, by decide, by decide +kernel⟩
 ·exact ⟨65, 116, 66, by decide +kernel, by decide, by decide, by decide, by decide, by decide, by decide +kernel⟩
 ·exact ⟨65, 116, 67, by decide +kernel, by decide, by decide, by decide, by decide, by decide, by decide +kernel⟩
 ·exact ⟨65, 84, 65, by decide +kernel, by decide, by decide, by decide, by decide, by decide, by decide +kernel⟩
 ·exact ⟨65, 84, 66, by decide +kernel, by decide, by decide, by decide, by decide, by decide, by decide +kernel⟩
 ·exact ⟨65, 84, 67, by decide +kernel, by decide, by decide, by decide, by decide, by decide, by decide +kernel⟩
theorem line_cs (nm y : PySem.Str) : cs (nm ++ Str.ofString ": " ++ y) = cs nm ++ ([58, 32] ++ cs y) := by
 rw [cs_app, cs_app, List.append_assoc]
 rfl
theorem line_ok {nm h y : PySem.Str} {n : Int} (x : NmOk nm h) (hh : Ltr h) (hr : ReplyOk y n) (hp : Plain y) : LineOk (nm ++ Str.ofString ": " ++ y) h n y := by
 refine ex3 (nm_cs x hh) fun u v z h9_100 => an7 h9_100 fun hn hn9_98 hn9_99 c1 c2 c3 hz => ?_
 clear h9_100
 obtain ⟨a1, a2, a3⟩ := hn9_98
 obtain ⟨b1, b2, b3⟩ := hn9_99
 have hx := line_cs nm y
 rw [hn] at hx
 generalize nm ++ Str.ofString ": " ++ y = X at hx
 have hlen : (cs X).length = 6 + (cs y).length := by rw [hx]; simp; exact lin [_] [] [] (2,.a (.a (.a (.a (.a (.a (.v 0) (.n 1)) (.n 1)) (.n 1)) (.n 1)) (.n 1)) (.n 1),.a (.n 6) (.v 0)) [1] [1] rfl
 have hXl : X.length = 6 + y.length := by rw [← cs_len, hlen, cs_len]
 have hyl := hr.len
 have h58 : (58 : Nat) ∉ [u, v, 46, z] := by
  simp only [List.mem_cons, List.not_mem_nil, or_false, not_or]
  exact ⟨Ne.symm a1, Ne.symm a2, by decide, Ne.symm a3⟩
 refine ⟨by exact lin [_,_] [] [(2,.v 0,.a (.n 6) (.v 1)),(1,.v 1,.n 100)] (1,.v 0,.n 200) [1,1,1] [] rfl hXl hyl, ?_, ?_, ?_, ?_, ?_, ?_, ?_, hr⟩
 ·refine find_no fun i => at_no (c0 := 10) (y' := []) rfl ?_
  rw [hx]
  intro hm
  rcases List.mem_append.mp hm with hm | hm
  ·simp only [List.mem_cons, List.not_mem_nil, or_false] at hm
   exact hm.elim (fun zq0 => lin [_] [] [(1,.n 65,.v 0),(2,.n 10,.v 0)] (12,.n 0,.n 0) [0,1,-1] [] rfl c1.1 zq0) fun zq0 => zq0.elim (fun zq1 => lin [_] [] [(1,.n 65,.v 0),(2,.n 10,.v 0)] (12,.n 0,.n 0) [0,1,-1] [] rfl c2.1 zq1) fun zq1 => zq1.elim (fun zq2 => lin [] [] [(2,.n 10,.n 46)] (12,.n 0,.n 0) [0,-1] [] rfl zq2) fun zq2 => lin [_] [] [(1,.n 65,.v 0),(2,.n 10,.v 0)] (12,.n 0,.n 0) [0,1,-1] [] rfl c3.1 zq2
  ·rcases List.mem_append.mp hm with hm | hm
   ·simp at hm
   ·have := hp 10 hm
    exact lin [] [] [(1,.n 32,.n 10)] (12,.n 0,.n 0) [0,1] [] rfl this.1
 ·unfold find4
  have e1 : fromIndex X.length 0 = 0 := fromIndex_nat _ 0
  rw [e1, fromIndex_nat, Nat.min_self]
  obtain ⟨r, e⟩ := occ_at_hi (x := X) (y := Str.ofString ":") (lo := 0) (hi := X.length) (limit := 1) (k := 4) (Nat.le_refl 1) (Nat.zero_le _)
   (at_here (a := [u, v, 46, z]) (b := 32 :: cs y) hx (by show 4 + 1 ≤ _; exact lin [_,_] [] [(2,.v 0,.a (.n 6) (.v 1))] (1,.a (.n 4) (.n 1),.v 0) [1,-1] [] rfl hXl)) (fun i _ hi => at_pre (a := [u, v, 46, z]) (y' := []) rfl hx h58 (by simpa using hi))
  rw [e]
  rfl
 ·unfold rfind4
  have e1 : fromIndex X.length 0 = 0 := fromIndex_nat _ 0
  have e2 : fromIndex X.length 4 = 4 := fromIndex_nat _ 4
  have e3 : min 4 X.length = 4 := by exact lin [_] [] [(2,.v 0,.n 4)] (2,.v 0,.n 4) [1,1] [1,-1] rfl (Nat.min_eq_left (by exact lin [_,_] [] [(2,.v 0,.a (.n 6) (.v 1))] (1,.n 4,.v 0) [1,-1] [] rfl hXl))
  rw [e1, e2, e3]
  rw [last_at (k := 2) (at_here (a := [u, v]) (b := z :: ([58, 32] ++ cs y)) hx (by show 2 + 1 ≤ 4; exact lin [] [] [] (1,.a (.n 2) (.n 1),.n 4) [1] [] rfl)) ?_]
  ·rfl
  ·intro i hi hA
   have h1 := at_char (y' := []) (c0 := 46) rfl hA
   have h2 : i + 1 ≤ 4 := hA.1
   rw [hx] at h1
   match i, hi, h2, h1 with
   | 0, _, _, h1 => exact b1 (by simpa using h1)
   | 1, _, _, h1 => exact b2 (by simpa using h1)
   | 3, _, _, h1 => exact b3 (by simpa using h1)
 ·have e := sliceText_plain (x := X) (i := 3) (j := 4) ⟨by decide, by decide, by show (4 : Int) ≤ (cs X).length; exact lin [_,_] [] [(2,.v 0,.a (.n 6) (.v 1))] (7,.n 4,.c (.v 0)) [1,-1] [] rfl hlen⟩
  show Txt.lower (sliceText X (some 3) (some 4)) = h
  rw [e, ← hz]
  congr 2
  show (((cs X).drop 3).take 1).toArray = #[z]
  rw [hx]
  rfl
 ·have e := sliceText_plain (x := X) (i := 3) (j := 4) ⟨by decide, by decide, by show (4 : Int) ≤ (cs X).length; exact lin [_,_] [] [(2,.v 0,.a (.n 6) (.v 1))] (7,.n 4,.c (.v 0)) [1,-1] [] rfl hlen⟩
  show (sliceText X (some 3) (some 4)).length ≤ 200
  rw [e]
  show (((cs X).drop 3).take 1).toArray.size ≤ 200
  rw [List.size_toArray, List.length_take]
  exact lin [_] [] [(1,.v 0,.n 1)] (1,.v 0,.n 200) [1,1] [] rfl (Nat.min_le_left _ _)
 ·exact find_at (k := 4) (at_here (a := [u, v, 46, z]) (b := cs y) hx (by show 4 + 2 ≤ _; exact lin [_,_] [] [(2,.v 0,.a (.n 6) (.v 1))] (1,.a (.n 4) (.n 2),.v 0) [1,-1] [] rfl hXl)) (fun i hi => at_pre (a := [u, v, 46, z]) (c0 := 58) (y' := [32]) rfl hx h58 (by simpa using hi))
 ·have e := sliceText_from (x := X) (i := 6) ⟨by decide, by show (6 : Int) ≤ (cs X).length; exact lin [_,_] [] [(2,.v 0,.a (.n 6) (.v 1))] (7,.n 6,.c (.v 0)) [1,-1] [] rfl hlen⟩
  show sliceText X (some 6) none = y
  rw [e]
  apply cs_inj
  show (((cs X).drop 6).take (((cs X).length : Int) - 6).toNat) = cs y
  rw [List.take_of_length_le (by rw [List.length_drop]; exact lin [_,_,_] [] [(2,.a (.v 0) (.n 6),.v 1),(8,.c (.v 2),.s (.c (.v 1)) (.n 6))] (1,.v 0,.v 2) [1,1,-1] [] rfl (Nat.sub_add_cancel (by exact lin [_,_] [] [(2,.v 0,.a (.n 6) (.v 1))] (1,.n 6,.v 0) [1,-1] [] rfl hlen)) (Int.toNat_of_nonneg (by exact lin [_,_] [] [(2,.v 0,.a (.n 6) (.v 1))] (7,.n 0,.s (.c (.v 0)) (.n 6)) [1,-1] [] rfl hlen))), hx]
  rfl
theorem Clk.lines {hs : List (PySem.Str × PySem.Str)} {ts : List ToldM} (x : Clk hs ts) : LinesOk (hs.map hline) ts := by
 induction x with
 | nil => exact .nil
 | @cons p t hs ts a _ ih =>
  have z := line_ok a.nm a.ltr a.rep a.plain
  rw [a.val] at z
  obtain ⟨t1, t2, t3⟩ := t
  refine .cons ?_ ih
  unfold hline
  rw [a.val]
  exact z
theorem kind_ge (x : PySem.Str) : ¬ PySem.Builtin.Str.strKind x < 1 := by
 unfold PySem.Builtin.Str.strKind
 split
 ·exact lin [] [] [] (3,.n 1,.n 1) [1] [] rfl
 ·split <;> (first | exact lin [] [] [] (3,.n 2,.n 1) [1] [] rfl | exact lin [] [] [] (3,.n 4,.n 1) [1] [] rfl)
theorem line_no13 {p : PySem.Str × PySem.Str} {t : ToldM} (a : EntOk p t) : 13 ∉ cs (hline p) := by
 refine ex3 (nm_cs a.nm a.ltr) fun u v z h9_101 => an7 h9_101 fun hn _ _ c1 c2 c3 _ => ?_
 clear h9_101
 intro hm
 have hx := line_cs p.1 p.2
 rw [hn] at hx
 have hm' : 13 ∈ cs (p.1 ++ Str.ofString ": " ++ p.2) := hm
 rw [hx] at hm'
 rcases List.mem_append.mp hm' with hm | hm
 ·simp only [List.mem_cons, List.not_mem_nil, or_false] at hm
  omega
 ·rcases List.mem_append.mp hm with hm | hm
  ·simp at hm
  ·have := a.plain 13 hm
   exact lin [] [] [(1,.n 32,.n 13)] (12,.n 0,.n 0) [0,1] [] rfl this.1
theorem Clk.no13 {hs : List (PySem.Str × PySem.Str)} {ts : List ToldM} (x : Clk hs ts) : ∀ q ∈ hs.map hline ++ [(Str.ofString "" : PySem.Str), Str.ofString ""], 13 ∉ cs q := by
 induction x with
 | nil =>
  intro q hq
  have e : q = Str.ofString "" := by
   rcases List.mem_cons.mp hq with rfl | hq
   ·rfl
   ·exact List.mem_singleton.mp hq
  rw [e]
  decide +kernel
 | cons a _ ih =>
  intro q hq
  rcases List.mem_cons.mp hq with rfl | hq
  ·exact line_no13 a
  ·exact ih q hq
theorem Clk.split {hs : List (PySem.Str × PySem.Str)} {ts : List ToldM} (x : Clk hs ts) : Txt.split (hstr hs) (Str.ofString "\r\n") = hs.map hline ++ [Str.ofString "", Str.ofString ""] := by
 have hno := x.no13
 unfold hstr
 rw [show Txt.join (Str.ofString "\r\n") (hs.map hline ++ [(Str.ofString "" : PySem.Str), Str.ofString ""]) = Str.join (Str.ofString "\r\n") (hs.map hline ++ [(Str.ofString "" : PySem.Str), Str.ofString ""]) from glued_eq_join _ _]
 cases e : hs.map hline ++ [(Str.ofString "" : PySem.Str), Str.ofString ""] with
 | nil => simp at e
 | cons p qs =>
  rw [e] at hno
  exact split_join (c0 := 13) (y' := [10]) rfl hno (.inr (by have : PySem.Builtin.Str.strKind (Str.ofString "\r\n") = 1 := (by decide +kernel); rw [this]; exact kind_ge _))
end Mine
end
section
open PySem PySem.W PySem.Spec PySem.Calls PyProof.Rows PySem.Builtin PySem.Builtin.Str
namespace Mine
open StrLaws
theorem charAt_nat (x : PySem.Str) {k : Nat} (h : k < x.length) : Txt.charAt x (k : Int) = (cs x)[k]? := by
 unfold Txt.charAt
 have h9 := seqIndex_at (i := (k : Int)) (n := x.length) (by exact lin [_] [] [] (7,.n 0,.c (.v 0)) [1] [] rfl) (by exact lin [_,_] [] [(0,.v 0,.v 1)] (6,.c (.v 0),.c (.v 1)) [1,1] [] rfl h)
 rw [h9]
 show x.cps[k]? = x.cps.toList[k]?
 simp
theorem item_cs (x : PySem.Str) {k : Nat} (h : k < x.length) : cs (Txt.item x (k : Int)) = [((cs x)[k]?).getD 0] := by
 unfold Txt.item
 rw [charAt_nat x h]
 rfl
noncomputable def mkS (l : List Nat) : PySem.Str := ⟨l.toArray⟩
theorem cs_mk (l : List Nat) : cs (mkS l) = l := rfl
theorem mk_len (l : List Nat) : (mkS l).length = l.length := by rw [← cs_len]; rfl
structure Rep (y : PySem.Str) (m : Nat) (A F Z T : List Nat) : Prop where
 eq : cs y = [50, 50, 57, 32] ++ A ++ (40 :: ([m] ++ F ++ [m, m] ++ Z ++ [m])) ++ (41 :: T)
 mkq : m = 124 ∨ m = 33 ∨ m = 59 ∨ m = 120
 ha : A = [] ∨ A = [111, 107, 41, 32]
 hf : F = [] ∨ F = [49]
 hz : ∀ c ∈ Z, 48 ≤ c ∧ c < 58
 hzl : Z.length ≤ 3
 hzn : PySem.intText? (mkS (Z ++ [113])) = none
 ht : T = [] ∨ T = [46, 40]
theorem dig7 {c : Int} (h0 : 1 ≤ c) (h1 : c ≤ 7) : ∃ n : Nat, cs (Str.ofString (toString c)) = [n] ∧ 49 ≤ n ∧ n ≤ 55 ∧ ∀ l ∈ ([[], [48], [48, 48]] : List (List Nat)), PySem.intText? (mkS (l ++ [n])) = some c ∧ PySem.intText? (mkS (l ++ [n] ++ [113])) = none := by
 have : c = 1 ∨ c = 2 ∨ c = 3 ∨ c = 4 ∨ c = 5 ∨ c = 6 ∨ c = 7 := by exact triI (fun zq0 => False.elim (lin [] [_] [(7,.n 1,.v 0),(6,.v 0,.n 1)] (12,.n 0,.n 0) [0,1,1] [] rfl h0 zq0)) fun zq0 => triI (fun zq1 => False.elim (lin [] [_] [(6,.n 1,.v 0),(6,.v 0,.n 2)] (12,.n 0,.n 0) [0,1,1] [] rfl zq0 zq1)) fun zq1 => triI (fun zq2 => False.elim (lin [] [_] [(6,.n 2,.v 0),(6,.v 0,.n 3)] (12,.n 0,.n 0) [0,1,1] [] rfl zq1 zq2)) fun zq2 => triI (fun zq3 => False.elim (lin [] [_] [(6,.n 3,.v 0),(6,.v 0,.n 4)] (12,.n 0,.n 0) [0,1,1] [] rfl zq2 zq3)) fun zq3 => triI (fun zq4 => False.elim (lin [] [_] [(6,.n 4,.v 0),(6,.v 0,.n 5)] (12,.n 0,.n 0) [0,1,1] [] rfl zq3 zq4)) fun zq4 => triI (fun zq5 => lin [] [_] [(7,.v 0,.n 7),(6,.n 5,.v 0),(6,.v 0,.n 6)] (8,.v 0,.n 7) [1,1,0,0] [0,0,1,1] rfl h1 zq4 zq5) fun zq5 => lin [] [_] [(7,.v 0,.n 7),(6,.n 6,.v 0)] (8,.v 0,.n 7) [1,1,0] [1,0,1] rfl h1 zq5
 rcases this with rfl | rfl | rfl | rfl | rfl | rfl | rfl
 ·exact ⟨49, by decide +kernel⟩
 ·exact ⟨50, by decide +kernel⟩
 ·exact ⟨51, by decide +kernel⟩
 ·exact ⟨52, by decide +kernel⟩
 ·exact ⟨53, by decide +kernel⟩
 ·exact ⟨54, by decide +kernel⟩
 ·exact ⟨55, by decide +kernel⟩
theorem rep_of {q : PySem.Str × PySem.Str × PySem.Str × PySem.Str × PySem.Str} (hq : q ∈ combos) {c : Int} (h0 : 1 ≤ c) (h1 : c ≤ 7) : ∃ m A F Z T, Rep (replyOf q.1 q.2.1 q.2.2.1 q.2.2.2.1 q.2.2.2.2 c) m A F Z T ∧ PySem.intText? (mkS Z) = some c := by
 unfold combos combos1 at hq
 simp only [List.mem_flatMap, List.mem_map] at hq
 refine ex1 hq fun a h9_187 => an2 h9_187 fun ha h9_188 => ex1 h9_188 fun mk h9_189 => an2 h9_189 fun hm h9_190 => ex1 h9_190 fun f h9_191 => an2 h9_191 fun hf h9_192 => ex1 h9_192 fun z h9_193 => an2 h9_193 fun hz h9_194 => ex1 h9_194 fun t h9_195 => an2 h9_195 fun ht eq9_186 => ?_
 clear h9_195 h9_194 h9_193 h9_192 h9_191 h9_190 h9_189 h9_188 h9_187
 try clear hq
 subst eq9_186
 obtain ⟨n, hn, n0, n1, hv⟩ := dig7 h0 h1
 have hmk : ∃ m, cs mk = [m] ∧ (m = 124 ∨ m = 33 ∨ m = 59 ∨ m = 120) := by
  simp only [List.mem_cons, List.not_mem_nil, or_false] at hm
  rcases hm with rfl | rfl | rfl | rfl
  ·exact ⟨124, by decide +kernel, by decide⟩
  ·exact ⟨33, by decide +kernel, by decide⟩
  ·exact ⟨59, by decide +kernel, by decide⟩
  ·exact ⟨120, by decide +kernel, by decide⟩
 refine ex1 hmk fun m h9_197 => an2 h9_197 fun hmk hm' => ?_
 clear h9_197
 have hzz : cs z = [] ∨ cs z = [48] ∨ cs z = [48, 48] := by
  simp only [List.mem_cons, List.not_mem_nil, or_false] at hz
  rcases hz with rfl | rfl | rfl
  ·exact .inl (by decide +kernel)
  ·exact .inr (.inl (by decide +kernel))
  ·exact .inr (.inr (by decide +kernel))
 have hv := hv (cs z) (by rcases hzz with e | e | e <;> rw [e] <;> simp)
 refine ⟨m, cs a, cs f, cs z ++ [n], cs t, ⟨?_, hm', ?_, ?_, ?_, ?_, hv.2, ?_⟩, hv.1⟩
 ·unfold replyOf
  simp only [cs_app, hmk, hn]
  show [50, 50, 57, 32] ++ cs a ++ [40] ++ [m] ++ cs f ++ [m] ++ [m] ++ cs z ++ [n] ++ [m] ++ [41] ++ cs t = _
  exact lapp [_,_,_,_,_,_,_] [_,_,_,_] (.a (.a (.a (.a (.a (.a (.a (.a (.a (.a (.a (.m 0 (.m 0 (.m 1 (.m 2 (.n 0))))) (.v 0)) (.m 3 (.n 0))) (.m 4 (.n 0))) (.v 1)) (.m 4 (.n 0))) (.m 4 (.n 0))) (.v 2)) (.m 5 (.n 0))) (.m 4 (.n 0))) (.m 6 (.n 0))) (.v 3)) (.a (.a (.a (.m 0 (.m 0 (.m 1 (.m 2 (.n 0))))) (.v 0)) (.m 3 (.a (.a (.a (.a (.m 4 (.n 0)) (.v 1)) (.m 4 (.m 4 (.n 0)))) (.a (.v 2) (.m 5 (.n 0)))) (.m 4 (.n 0))))) (.m 6 (.v 3))) rfl
 ·simp only [List.mem_cons, List.not_mem_nil, or_false] at ha
  rcases ha with rfl | rfl
  ·exact .inl (by decide +kernel)
  ·exact .inr (by decide +kernel)
 ·simp only [List.mem_cons, List.not_mem_nil, or_false] at hf
  rcases hf with rfl | rfl
  ·exact .inl (by decide +kernel)
  ·exact .inr (by decide +kernel)
 ·intro x hx
  rcases hzz with e | e | e <;> rw [e] at hx <;> simp at hx <;> (first | exact ⟨lin [_,_] [] [(1,.n 49,.v 0),(2,.v 1,.v 0)] (1,.n 48,.v 1) [1,1,-1] [] rfl n0 hx, lin [_,_] [] [(1,.v 0,.n 55),(2,.v 1,.v 0)] (0,.v 1,.n 58) [1,1,1] [] rfl n1 hx⟩ | exact ⟨hx.elim (fun q0 => lin [_] [] [(2,.v 0,.n 48)] (1,.n 48,.v 0) [1,-1] [] rfl q0) fun q0 => lin [_,_] [] [(1,.n 49,.v 0),(2,.v 1,.v 0)] (1,.n 48,.v 1) [1,1,-1] [] rfl n0 q0, hx.elim (fun q0 => lin [_] [] [(2,.v 0,.n 48)] (0,.v 0,.n 58) [1,1] [] rfl q0) fun q0 => lin [_,_] [] [(1,.v 0,.n 55),(2,.v 1,.v 0)] (0,.v 1,.n 58) [1,1,1] [] rfl n1 q0⟩)
 ·rcases hzz with e | e | e <;> rw [e] <;> simp
 ·simp only [List.mem_cons, List.not_mem_nil, or_false] at ht
  rcases ht with rfl | rfl
  ·exact .inl (by decide +kernel)
  ·exact .inr (by decide +kernel)
theorem rep_replyV {c d : Int} (h0 : 1 ≤ c) (h1 : c ≤ 7) : ∃ m A F Z T, Rep (replyS c d) m A F Z T ∧ PySem.intText? (mkS Z) = some c := by
 refine ex1 (reply_combo c d) fun q h9_198 => an2 h9_198 fun hq e => ?_
 clear h9_198
 rw [e]
 exact rep_of hq h0 h1
theorem rep_reply {c d : Int} (h0 : 1 ≤ c) (h1 : c ≤ 6) : ∃ m A F Z T, Rep (replyS c d) m A F Z T :=
 ex5 (rep_replyV h0 (Int.le_trans h1 (by decide))) fun m A F Z T h => ⟨m, A, F, Z, T, h.1⟩
section
variable {r : PySem.Str}
theorem find_brk {P S : List Nat} (h : cs r = P ++ 40 :: S) (hn : 40 ∉ P) : Txt.find r (Str.ofString "(") = (P.length : Int) :=
 find_at (at_here (x := r) (y := Str.ofString "(") (a := P) (b := S) h (by rw [← cs_len, h, show (cs (Str.ofString "(")).length = 1 from rfl]; simp)) fun i hi => at_pre (a := P) (c0 := 40) (y' := []) rfl h hn hi
theorem find_nobrk (hn : 40 ∉ cs r) : Txt.find r (Str.ofString "(") = -1 := find_no fun i => at_no (c0 := 40) (y' := []) rfl hn
theorem at_ge {x y : PySem.Str} {c0 : Nat} {y' a b : List Nat} (hy : cs y = c0 :: y') (hx : cs x = a ++ b) (h : c0 ∉ b) {hi i : Nat} (hi' : a.length ≤ i) : ¬ At x y hi i := fun hA => by
 have h1 := at_char hy hA
 rw [hx, List.getElem?_append_right hi'] at h1
 exact h (List.mem_of_getElem? h1)
theorem find3_no {P S : List Nat} (h : cs r = P ++ S) (hn : 41 ∉ S) : Txt.find3 r (Str.ofString ")") (P.length : Int) = -1 := by
 unfold Txt.find3
 rw [fromIndex_nat, occ_none_hi (Nat.le_refl 1) fun i hi => at_ge (c0 := 41) (y' := []) rfl h hn hi]
theorem find3_yes {P Q S : List Nat} (h : cs r = P ++ (Q ++ 41 :: S)) (hn : 41 ∉ Q) : Txt.find3 r (Str.ofString ")") (P.length : Int) = ((P.length + Q.length : Nat) : Int) := by
 have h' : cs r = (P ++ Q) ++ 41 :: S := by rw [h, List.append_assoc]
 have hA : At r (Str.ofString ")") r.length (P.length + Q.length) := by
  have := at_here (x := r) (y := Str.ofString ")") (a := P ++ Q) (b := S) h' (hi := r.length) (by rw [← cs_len, h', show (cs (Str.ofString ")")).length = 1 from rfl]; simp; exact lin [_,_,_] [] [] (1,.a (.a (.v 0) (.v 1)) (.n 1),.a (.v 0) (.a (.v 1) (.a (.v 2) (.n 1)))) [1] [] rfl)
  rwa [List.length_append] at this
 unfold Txt.find3
 rw [fromIndex_nat]
 obtain ⟨t, e⟩ := occ_at_hi (limit := 1) (Nat.le_refl 1) (Nat.le_add_right P.length Q.length) hA fun i h0 h1 hA' => by
  have h2 := at_char (c0 := 41) (y' := []) rfl hA'
  rw [h', List.getElem?_append_left (by rw [List.length_append]; exact h1), List.getElem?_append_right h0] at h2
  exact hn (List.mem_of_getElem? h2)
 rw [e]
theorem item_of {k : Nat} {c : Nat} (h : (cs r)[k]? = some c) : Txt.item r (k : Int) = mkS [c] := by
 apply cs_inj
 have hl : k < (cs r).length := (List.getElem?_eq_some_iff.mp h).1
 rw [item_cs _ (by rw [← cs_len]; exact hl), h]
 rfl
theorem cut_of {P Q S : List Nat} (h : cs r = P ++ (Q ++ S)) : Txt.slice r (some (P.length : Int)) (some ((P.length + Q.length : Nat) : Int)) = mkS Q := by
 have hl : (cs r).length = P.length + (Q.length + S.length) := by rw [h]; simp
 have e := sliceText_plain (x := r) (i := (P.length : Int)) (j := ((P.length + Q.length : Nat) : Int)) ⟨by exact lin [_] [] [] (7,.n 0,.c (.v 0)) [1] [] rfl, by exact lin [_,_] [] [] (7,.c (.v 0),.c (.a (.v 0) (.v 1))) [1] [] rfl, by show _ ≤ ((cs r).length : Int); exact lin [_,_,_,_] [] [(2,.v 0,.a (.v 1) (.a (.v 2) (.v 3)))] (7,.c (.a (.v 1) (.v 2)),.c (.v 0)) [1,-1] [] rfl hl⟩
 show sliceText r _ _ = _
 rw [e]
 apply cs_inj
 show ((cs r).drop P.length).take (((P.length + Q.length : Nat) : Int) - (P.length : Int)).toNat = Q
 rw [h, List.drop_left, show (((P.length + Q.length : Nat) : Int) - (P.length : Int)).toNat = Q.length by exact lin [_,_,_] [] [(8,.c (.v 0),.s (.c (.a (.v 1) (.v 2))) (.c (.v 1)))] (2,.v 0,.v 2) [1,1] [1,-1] rfl (Int.toNat_of_nonneg (by exact lin [_,_] [] [] (7,.n 0,.s (.c (.a (.v 0) (.v 1))) (.c (.v 0))) [1] [] rfl )), List.take_left]
theorem brk_at {G Q T : List Nat} {m z : Nat} (h : cs r = [50, 50, 57] ++ G ++ (40 :: (m :: Q)) ++ (41 :: T)) (hG : 40 ∉ G) (hQ : 41 ∉ m :: Q) (hz : (m :: Q).getLast? = some z) {k j : Nat}
  (hk : k = ([50, 50, 57] ++ G ++ [40]).length) (hj : j = k + (m :: Q).length) :
  Txt.slice r none (some 3) = Str.ofString "229" ∧ Txt.find r (Str.ofString "(") + 1 = (k : Int) ∧ Txt.find3 r (Str.ofString ")") (k : Int) = (j : Int) ∧ Txt.item r (k : Int) = mkS [m] ∧ Txt.item r ((j : Int) - 1) = mkS [z] ∧ Txt.slice r (some (k : Int)) (some (j : Int)) = mkS (m :: Q) := by
 subst hj hk
 have h1 : cs r = ([50, 50, 57] ++ G) ++ 40 :: ((m :: Q) ++ 41 :: T) := by rw [h]; exact lapp [_,_,_,_,_] [_,_,_] (.a (.a (.a (.m 0 (.m 0 (.m 1 (.n 0)))) (.v 0)) (.m 2 (.m 3 (.v 1)))) (.m 4 (.v 2))) (.a (.a (.m 0 (.m 0 (.m 1 (.n 0)))) (.v 0)) (.m 2 (.a (.m 3 (.v 1)) (.m 4 (.v 2))))) rfl
 have h2 : cs r = ([50, 50, 57] ++ G ++ [40]) ++ ((m :: Q) ++ 41 :: T) := by rw [h]; exact lapp [_,_,_,_,_] [_,_,_] (.a (.a (.a (.m 0 (.m 0 (.m 1 (.n 0)))) (.v 0)) (.m 2 (.m 3 (.v 1)))) (.m 4 (.v 2))) (.a (.a (.a (.m 0 (.m 0 (.m 1 (.n 0)))) (.v 0)) (.m 2 (.n 0))) (.a (.m 3 (.v 1)) (.m 4 (.v 2)))) rfl
 have f0 : Txt.slice r none (some 3) = Str.ofString "229" := by
  have e := sliceText_to (x := r) (j := 3) ⟨by decide, by show (3 : Int) ≤ ((cs r).length : Int); rw [h]; simp; exact lin [_,_,_] [] [] (7,.n 3,.a (.a (.a (.a (.c (.v 0)) (.a (.a (.a (.c (.v 1)) (.a (.c (.v 2)) (.n 1))) (.n 1)) (.n 1))) (.n 1)) (.n 1)) (.n 1)) [1] [] rfl⟩
  show sliceText r none (some 3) = _
  rw [e]
  apply cs_inj
  show ((cs r).drop 0).take 3 = _
  rw [h]; rfl
 have f1 := find_brk h1 (by simp [hG])
 have e1 : Txt.find r (Str.ofString "(") + 1 = (([50, 50, 57] ++ G ++ [40]).length : Int) := by rw [f1]; simp
 have f2 := find3_yes h2 hQ
 have f3 := cut_of h2
 have hk : (cs r)[([50, 50, 57] ++ G ++ [40]).length]? = some m := by rw [h2, List.getElem?_append_right (Nat.le_refl _), Nat.sub_self]; rfl
 have f4 := item_of hk
 have e5 : ((([50, 50, 57] ++ G ++ [40]).length + (m :: Q).length : Nat) : Int) - 1 = ((([50, 50, 57] ++ G ++ [40]).length + Q.length : Nat) : Int) := by rw [List.length_cons]; exact lin [_,_] [] [] (8,.s (.c (.a (.v 0) (.a (.v 1) (.n 1)))) (.n 1),.c (.a (.v 0) (.v 1))) [1] [1] rfl
 have hk2 : (cs r)[([50, 50, 57] ++ G ++ [40]).length + Q.length]? = some z := by
  rw [h2, List.getElem?_append_right (by exact lin [_,_] [] [] (1,.v 0,.a (.v 0) (.v 1)) [1] [] rfl), Nat.add_sub_cancel_left, List.getElem?_append_left (by simp)]
  rw [List.getLast?_eq_getElem?] at hz
  simpa using hz
 have f5 := item_of hk2
 rw [e5]
 exact ⟨f0, e1, f2, f4, f5, f3⟩
theorem parse_at {G Q T : List Nat} {m : Nat} (h : cs r = [50, 50, 57] ++ G ++ (40 :: (m :: Q)) ++ (41 :: T)) (hG : 40 ∉ G) (hQ : 41 ∉ m :: Q) :
  parseK r = if (m :: Q).getLast? ≠ some m then .error 1 else match Txt.split (mkS (m :: Q)) (mkS [m]) with
   | [_, _, _, p3, _] => match PySem.intText? p3 with | some n => .ok n | none => .error 2
   | _ => .error 1 := by
 obtain ⟨z, hz⟩ : ∃ z, (m :: Q).getLast? = some z := ⟨(m :: Q).getLast (by simp), List.getLast?_eq_some_getLast (by simp)⟩
 obtain ⟨f0, e1, f2, f4, f5, f3⟩ := brk_at h hG hQ hz rfl rfl
 have e0 : ¬ Txt.find r (Str.ofString "(") < 0 := by simp only [List.length_append, List.length_cons, List.length_nil] at e1; exact lin [_] [_] [(8,.a (.v 0) (.n 1),.c (.a (.a (.a (.a (.a (.n 0) (.n 1)) (.n 1)) (.n 1)) (.v 0)) (.a (.n 0) (.n 1))))] (9,.v 0,.n 0) [1,-1] [] rfl e1
 unfold parseK
 rw [if_neg (by rw [f0]; simp), if_neg e0, e1, f2, if_neg (by exact lin [_,_] [] [] (9,.c (.a (.v 0) (.v 1)),.n 0) [1] [] rfl), f4, f5, hz, f3]
 by_cases hq : z = m
 ·subst hq
  rw [if_neg (by simp), if_neg (by simp)]
  all_goals rfl
 ·have hne : (mkS [m] != mkS [z]) = true := by
   rw [bne_iff_ne]
   intro q
   have q := congrArg cs q
   simp only [cs_mk, List.cons.injEq, and_true] at q
   exact hq q.symm
  rw [if_pos hne, if_pos (by simpa using hq)]
theorem rok_at {G Q T : List Nat} {m : Nat} (h : cs r = [50, 50, 57] ++ G ++ (40 :: (m :: Q)) ++ (41 :: T)) (hG : 40 ∉ G) (hQ : 41 ∉ m :: Q) (hz : (m :: Q).getLast? = some m) {p0 p1 p2 p3 p4 : PySem.Str}
  (hs : Txt.split (mkS (m :: Q)) (mkS [m]) = [p0, p1, p2, p3, p4]) {n : Int} (hp : PySem.intText? p3 = some n) (h3 : p3.length ≤ 640) (hr : r.length ≤ 100) (h0 : 0 ≤ n ∧ n ≤ 1000) : ReplyOk r n := by
 obtain ⟨f0, e1, f2, f4, f5, f3⟩ := brk_at h hG hQ hz rfl rfl
 have hl : r.length = ([50, 50, 57] ++ G ++ [40]).length + (m :: Q).length + (T.length + 1) := by
  rw [← cs_len, h]; simp only [List.length_append, List.length_cons, List.length_nil]; exact lin [_,_,_] [] [] (2,.a (.a (.a (.a (.a (.a (.n 0) (.n 1)) (.n 1)) (.n 1)) (.v 0)) (.a (.a (.v 1) (.n 1)) (.n 1))) (.a (.v 2) (.n 1)),.a (.a (.a (.a (.a (.a (.a (.n 0) (.n 1)) (.n 1)) (.n 1)) (.v 0)) (.a (.n 0) (.n 1))) (.a (.v 1) (.n 1))) (.a (.v 2) (.n 1))) [1] [1] rfl
 have hk : ([50, 50, 57] ++ G ++ [40]).length = G.length + 4 := by simp only [List.length_append, List.length_cons, List.length_nil]; exact lin [_] [] [] (2,.a (.a (.a (.a (.a (.n 0) (.n 1)) (.n 1)) (.n 1)) (.v 0)) (.a (.n 0) (.n 1)),.a (.v 0) (.n 4)) [1] [1] rfl
 have hq : (m :: Q).length = Q.length + 1 := rfl
 refine ⟨hr, ⟨mkS [m], p0, p1, p2, p3, p4, f0, ?_, ?_, ?_, ?_, ?_, ?_, rfl, hp, h3⟩, h0⟩
 ·exact lin [_,_] [_] [(8,.a (.v 0) (.n 1),.c (.v 0)),(2,.v 0,.a (.v 1) (.n 4))] (7,.n 0,.v 0) [1,-1,-1] [] rfl e1 hk
 ·rw [e1, f2]; exact lin [_,_,_] [] [(2,.v 0,.a (.v 1) (.n 1))] (6,.c (.v 2),.c (.a (.v 2) (.v 0))) [1,-1] [] rfl hq
 ·rw [e1, f2]; exact lin [_,_,_,_] [] [(2,.v 0,.a (.a (.v 1) (.v 2)) (.a (.v 3) (.n 1)))] (6,.c (.a (.v 1) (.v 2)),.c (.v 0)) [1,-1] [] rfl hl
 ·rw [e1, f4]
 ·rw [e1, f2, f5]
 ·rw [e1, f2, f3, hs]
end
theorem last_m {m : Nat} {Q : List Nat} : (m :: (Q ++ [m])).getLast? = some m := by rw [← List.cons_append, List.getLast?_append]; rfl
theorem kind1 {m : Nat} (h : m = 124 ∨ m = 33 ∨ m = 59 ∨ m = 120) : strKind (mkS [m]) = 1 := by
 rcases h with rfl | rfl | rfl | rfl <;> decide +kernel
theorem split_mk {m : Nat} (h : m = 124 ∨ m = 33 ∨ m = 59 ∨ m = 120) {p : PySem.Str} {qs : List PySem.Str} (hf : ∀ q ∈ p :: qs, m ∉ cs q) {l : List Nat} (hl : l = cs (Str.join (mkS [m]) (p :: qs))) : Txt.split (mkS l) (mkS [m]) = p :: qs := by
 have e : mkS l = Str.join (mkS [m]) (p :: qs) := cs_inj (by rw [cs_mk, hl])
 rw [e]
 exact split_join (c0 := m) (y' := []) rfl hf (.inr (by rw [kind1 h]; exact kind_ge _))
theorem cs_nil : cs (mkS []) = [] := rfl
theorem join_cons (y p q : PySem.Str) (r : List PySem.Str) : cs (Str.join y (p :: q :: r)) = cs p ++ (cs y ++ cs (Str.join y (q :: r))) := by
 show cs (p ++ y ++ Str.join y (q :: r)) = _
 rw [cs_app, cs_app, List.append_assoc]
theorem join_oneM (y p : PySem.Str) : cs (Str.join y [p]) = cs p := rfl
section
variable {y : PySem.Str} {m : Nat} {A F Z T : List Nat}
noncomputable def bdy (m : Nat) (F Z : List Nat) : List Nat := [m] ++ F ++ [m, m] ++ Z ++ [m]
theorem Rep.zch (R : Rep y m A F Z T) {c : Nat} (h : c < 48 ∨ 58 ≤ c) : c ∉ Z := fun q => by have := R.hz c q; exact h.elim (fun zq0 => lin [_] [] [(1,.n 48,.v 0),(0,.v 0,.n 48)] (12,.n 0,.n 0) [0,1,1] [] rfl this.1 zq0) fun zq0 => lin [_] [] [(0,.v 0,.n 58),(1,.n 58,.v 0)] (12,.n 0,.n 0) [0,1,1] [] rfl this.2 zq0
theorem Rep.no40 (R : Rep y m A F Z T) : 40 ∉ ([32] ++ A) := by rcases R.ha with h | h <;> rw [h] <;> decide
theorem Rep.f41 (R : Rep y m A F Z T) : 41 ∉ F := by rcases R.hf with h | h <;> rw [h] <;> decide
theorem Rep.fm (R : Rep y m A F Z T) : m ∉ F := by rcases R.hf with h | h <;> rw [h] <;> rcases R.mkq with e | e | e | e <;> rw [e] <;> decide
theorem Rep.zm (R : Rep y m A F Z T) : m ∉ Z := R.zch (by rcases R.mkq with e | e | e | e <;> rw [e] <;> decide)
theorem Rep.m41 (R : Rep y m A F Z T) : 41 ≠ m ∧ 40 ≠ m ∧ 113 ≠ m ∧ 13 ≠ m ∧ 50 ≠ m := by have := R.mkq; exact ⟨this.elim (fun q0 => lin [_] [] [(2,.v 0,.n 124)] (5,.n 41,.v 0) [-1,-1] [] rfl q0) fun q0 => q0.elim (fun q1 => lin [_] [] [(2,.v 0,.n 33)] (5,.n 41,.v 0) [1,1] [] rfl q1) fun q1 => q1.elim (fun q2 => lin [_] [] [(2,.v 0,.n 59)] (5,.n 41,.v 0) [-1,-1] [] rfl q2) fun q2 => lin [_] [] [(2,.v 0,.n 120)] (5,.n 41,.v 0) [-1,-1] [] rfl q2, ⟨this.elim (fun q0 => lin [_] [] [(2,.v 0,.n 124)] (5,.n 40,.v 0) [-1,-1] [] rfl q0) fun q0 => q0.elim (fun q1 => lin [_] [] [(2,.v 0,.n 33)] (5,.n 40,.v 0) [1,1] [] rfl q1) fun q1 => q1.elim (fun q2 => lin [_] [] [(2,.v 0,.n 59)] (5,.n 40,.v 0) [-1,-1] [] rfl q2) fun q2 => lin [_] [] [(2,.v 0,.n 120)] (5,.n 40,.v 0) [-1,-1] [] rfl q2, ⟨this.elim (fun q0 => lin [_] [] [(2,.v 0,.n 124)] (5,.n 113,.v 0) [-1,-1] [] rfl q0) fun q0 => q0.elim (fun q1 => lin [_] [] [(2,.v 0,.n 33)] (5,.n 113,.v 0) [1,1] [] rfl q1) fun q1 => q1.elim (fun q2 => lin [_] [] [(2,.v 0,.n 59)] (5,.n 113,.v 0) [1,1] [] rfl q2) fun q2 => lin [_] [] [(2,.v 0,.n 120)] (5,.n 113,.v 0) [-1,-1] [] rfl q2, ⟨this.elim (fun q0 => lin [_] [] [(2,.v 0,.n 124)] (5,.n 13,.v 0) [-1,-1] [] rfl q0) fun q0 => q0.elim (fun q1 => lin [_] [] [(2,.v 0,.n 33)] (5,.n 13,.v 0) [-1,-1] [] rfl q1) fun q1 => q1.elim (fun q2 => lin [_] [] [(2,.v 0,.n 59)] (5,.n 13,.v 0) [-1,-1] [] rfl q2) fun q2 => lin [_] [] [(2,.v 0,.n 120)] (5,.n 13,.v 0) [-1,-1] [] rfl q2, this.elim (fun q0 => lin [_] [] [(2,.v 0,.n 124)] (5,.n 50,.v 0) [-1,-1] [] rfl q0) fun q0 => q0.elim (fun q1 => lin [_] [] [(2,.v 0,.n 33)] (5,.n 50,.v 0) [1,1] [] rfl q1) fun q1 => q1.elim (fun q2 => lin [_] [] [(2,.v 0,.n 59)] (5,.n 50,.v 0) [-1,-1] [] rfl q2) fun q2 => lin [_] [] [(2,.v 0,.n 120)] (5,.n 50,.v 0) [-1,-1] [] rfl q2⟩⟩⟩⟩
theorem Rep.am (R : Rep y m A F Z T) : m ∉ A := by rcases R.ha with h | h <;> rw [h] <;> rcases R.mkq with e | e | e | e <;> rw [e] <;> decide
theorem Rep.mem41 (R : Rep y m A F Z T) : 41 ∉ bdy m F Z := by
 unfold bdy
 have h := R.m41.1
 simp only [List.mem_append, List.mem_cons, List.not_mem_nil, or_false, not_or]
 exact ⟨⟨⟨⟨h, R.f41⟩, h, h⟩, R.zch (by decide)⟩, h⟩
theorem Rep.mem40 (R : Rep y m A F Z T) : 40 ∉ bdy m F Z := by
 unfold bdy
 have h := R.m41.2.1
 have hf : 40 ∉ F := by rcases R.hf with h | h <;> rw [h] <;> decide
 simp only [List.mem_append, List.mem_cons, List.not_mem_nil, or_false, not_or]
 exact ⟨⟨⟨⟨h, hf⟩, h, h⟩, R.zch (by decide)⟩, h⟩
theorem Rep.plainY (R : Rep y m A F Z T) : Plain y ∧ y.length ≤ 30 := by
 have hA : (∀ c ∈ A, 32 ≤ c ∧ c < 127) ∧ A.length ≤ 4 := by rcases R.ha with h | h <;> rw [h] <;> decide
 have hF : (∀ c ∈ F, 32 ≤ c ∧ c < 127) ∧ F.length ≤ 1 := by rcases R.hf with h | h <;> rw [h] <;> decide
 have hT : (∀ c ∈ T, 32 ≤ c ∧ c < 127) ∧ T.length ≤ 2 := by rcases R.ht with h | h <;> rw [h] <;> decide
 have hm : 32 ≤ m ∧ m < 127 := by rcases R.mkq with h | h | h | h <;> rw [h] <;> decide
 have hzl := R.hzl
 constructor
 ·intro c hc
  have hc : c ∈ cs y := hc
  rw [R.eq] at hc
  simp only [List.mem_append, List.mem_cons, List.not_mem_nil, or_false] at hc
  rcases hc with (((rfl | rfl | rfl | rfl) | h) | rfl | (((rfl | h) | rfl | rfl) | h) | rfl) | rfl | h
  all_goals first | exact hm | exact hA.1 c h | exact hF.1 c h | exact hT.1 c h | (have := R.hz c h; exact ⟨lin [_] [] [(1,.n 48,.v 0)] (1,.n 32,.v 0) [1,1] [] rfl this.1, lin [_] [] [(0,.v 0,.n 58)] (0,.v 0,.n 127) [1,1] [] rfl this.2⟩) | decide
 ·rw [← cs_len, R.eq]
  simp only [List.length_append, List.length_cons, List.length_nil]
  exact lin [_,_,_,_] [] [(1,.v 0,.n 4),(1,.v 1,.n 1),(1,.v 2,.n 2),(1,.v 3,.n 3)] (1,.a (.a (.a (.a (.a (.a (.a (.n 0) (.n 1)) (.n 1)) (.n 1)) (.n 1)) (.v 0)) (.a (.a (.a (.a (.a (.a (.n 0) (.n 1)) (.v 1)) (.a (.a (.n 0) (.n 1)) (.n 1))) (.v 3)) (.a (.n 0) (.n 1))) (.n 1))) (.a (.v 2) (.n 1)),.n 30) [1,1,1,1,1] [] rfl hA.2 hF.2 hT.2 hzl
theorem Rep.ok (R : Rep y m A F Z T) {n : Int} (hn : PySem.intText? (mkS Z) = some n) (h0 : 0 ≤ n ∧ n ≤ 1000) : ReplyOk y n := by
 have hzl := R.hzl
 refine rok_at (G := [32] ++ A) (m := m) (Q := F ++ [m, m] ++ Z ++ [m]) (T := T) (by rw [R.eq]; simp) R.no40 R.mem41 last_m (split_mk R.mkq (p := mkS []) (qs := [mkS F, mkS [], mkS Z, mkS []]) ?_ (by simp [join_cons, join_oneM, cs_mk])) hn (by rw [mk_len]; exact lin [_] [] [(1,.v 0,.n 3)] (1,.v 0,.n 640) [1,1] [] rfl hzl) (Nat.le_trans R.plainY.2 (by decide)) h0
 intro q hq
 simp only [List.mem_cons, List.not_mem_nil, or_false] at hq
 rcases hq with rfl | rfl | rfl | rfl | rfl
 all_goals first | exact R.fm | exact R.zm | (rw [cs_nil]; simp)
end
theorem reply_ok {c d : Int} (h0 : 1 ≤ c) (h1 : c ≤ 7) : ReplyOk (replyS c d) c ∧ Plain (replyS c d) :=
 ex5 (rep_replyV h0 h1) fun _ _ _ _ _ h => ⟨h.1.ok h.2 (by exact ⟨lin [] [_] [(7,.n 1,.v 0)] (7,.n 0,.v 0) [1,1] [] rfl h0, lin [] [_] [(7,.v 0,.n 7)] (7,.v 0,.n 1000) [1,1] [] rfl h1⟩), h.1.plainY.1⟩
end Mine
end
section
local macro_rules | `(tactic| omega) => `(tactic| fail "OL")
theorem Mine.clean_A12 : Mine.CleanT := by
 intro M A Q E s h
 w_top off
 first
  | (walk1; fail_if_success skip)
  | exact h
open PySem PySem.W PyProof.Rows
namespace Mine
theorem li_0_A12 : (Str.ofString "at.").length = 3 := by decide
theorem li_1_A12 : (Str.ofString "At.").length = 3 := by decide
theorem li_2_A12 : (Str.ofString "AT.").length = 3 := by decide
local macro_rules | `(tactic| k_all) => `(tactic| assumption)
local macro_rules | `(tactic| k_mem) => `(tactic| assumption)
local macro_rules | `(tactic| walk_at "exec For") => `(tactic| (refine Hold.un ?_))
local macro_rules | `(tactic| walk_at "subscriptTail") => `(tactic| ((with_reducible show wpAny _ _ (subscriptTail _ _ (Value.ref _) (Value.int _ _)) _ _ _); refine Au.un 4 ?_))
local macro_rules | `(tactic| walk_at "call ref") => `(tactic| refine Au.un 2 ?_)
local macro_rules | `(tactic| walk_at "binaryOp Add str str") => `(tactic| refine Au.un 1 ?_)
local macro_rules | `(tactic| walk_at "setItem ref") => `(tactic| refine Au.un 3 ?_)
theorem ev_out {rest core tl : List (Addr × Obj)} {l : Addr} {hs : List (PySem.Str × PySem.Str)} {news' : List (Addr × Obj)} (e : RClk (tl ++ rest) (tl ++ core) l hs news') (hlt : ∀ p ∈ tl, l < p.1 ∧ ∀ q ∈ rest, q.1 < p.1) : RClk rest core l hs news' := by
 obtain ⟨vs, n, tl2, rfl, hp, hl2⟩ := e
 refine ⟨vs, n, tl2 ++ tl, by rw [List.append_assoc], by rw [List.append_assoc]; exact hp, fun p hp => ?_⟩
 rcases List.mem_append.mp hp with hp | hp
 ·exact ⟨(hl2 p hp).1, fun q hq => (hl2 p hp).2 q (List.mem_append_right _ hq)⟩
 ·exact hlt p hp
theorem news_drop {h₀ h : Heap} {L : Addr} {p : Addr × Obj} {r : List (Addr × Obj)} (N : News h₀ L h (p :: r)) : News h₀ L h r := fun q hq => N q (.tail _ hq)
theorem Ltr.len {h : PySem.Str} (x : Ltr h) : h.length = 1 := by rcases x with rfl | rfl | rfl <;> decide
theorem Ltr.upl {h : PySem.Str} (x : Ltr h) : (Txt.upper h).length = 1 := by rcases x with rfl | rfl | rfl <;> decide +kernel
theorem Ltr.n1 {h : PySem.Str} (x : Ltr h) : (Str.ofString "at." ++ h).length ≤ 10 ∧ (Str.ofString "At." ++ Txt.upper h).length ≤ 10 ∧ (Str.ofString "AT." ++ Txt.upper h).length ≤ 10 ∧ (Str.ofString "AT." ++ h).length ≤ 10 := by
 rcases x with rfl | rfl | rfl <;> decide +kernel
theorem event_spc (w : World) (c d l H : Addr) (vs : List Value) (n : Nat) (hs : List (PySem.Str × PySem.Str)) (ts : List ToldM) (us : List Value) (k : Nat) (heard : List ToldM) (x : PySem.Str) (tx : Tok) (dd : Int) (td : Tok) (odd : Int) (to : Tok)
  (rest core : List (Addr × Obj)) (C : ClkAt rest c d l) (hsub : ∀ p ∈ core, p ∈ rest) (hp : HIn core vs hs) (K : Clk hs ts) (hH : (H, listOf us.toArray k) ∈ rest) (hT : ToldIn rest us heard) (hh : ∀ t ∈ heard, HearOk t) (hx : Ltr x)
  (h0 : 0 ≤ dd) (h1 : dd ≤ 1000000) (ho : 0 ≤ odd) (ho1 : odd ≤ 1) (hl : ts.length ≤ 10) (hl2 : heard.length ≤ 10) (hb : ∀ t ∈ heard.foldl evH ts, 0 ≤ t.2.1 ∧ t.2.1 ≤ 6) :
  Spc w 266 6 [.ref c, .str x tx, .ref H, .int dd td, .int odd to] ((l, listOf vs.toArray n) :: rest) (fun r news' => r = .none ∧ EvLed rest core l (event ts heard x dd) news') := by
 intro mean mg mb dp un gd cn cs a ccd cl outer A₀ base h₀ L m s Q E B F X N T hk hd hu hret
 (revert C hsub hp K hH hT hh hx h0 h1 ho ho1 hl hl2 hb B F X N T hk hd hu hret; revert w c d l H vs n hs ts us k heard x tx dd td odd to rest core mean mg mb dp un gd cn cs a ccd cl outer A₀ base h₀ L m s Q E; fail "CLi"; rename_i w c d l H vs n hs ts us k heard x tx dd td odd to rest core mean mg mb dp un gd cn cs a ccd cl outer A₀ base h₀ L m s Q E C hsub hp K hH hT hh hx h0 h1 ho ho1 hl hl2 hb B F X N T hk hd hu hret; fail "CLm")
 refine wpAny_call ?_
 k_dflt cell_enter
 (rename_i zz0 zz1 zz2 zz3 zz4 zz5 zz6 zz7 zz8; revert zz3 zz4 zz5 zz6 zz7 zz8; revert zz0 zz1 zz2; fail "CLi"; rename_i zz0 zz1 zz2 zz3 zz4 zz5 zz6 zz7 zz8; fail "CLm")
 k_steps
 refine Hold.mk ?_
 rename Fr _ _ _ _ => F9
 rename News _ _ _ _ => N9
 refine For_turns F9 ?_
 k_steps
 refine event_iter rfl F9 N9 hH C hp K hT ⟨rfl, rfl, rfl, rfl⟩ ?turn ?done
 case turn =>
  intro i q hl' cnt r t1 t2 t3 m₁ vs' n' hs' tl h tk own hq hx9 hoff hp' hlt C' K' F₁ N₁
  clear N9 F9
  obtain ⟨g1, g2, g3⟩ := hh _ (List.mem_of_getElem? hx9)
  dsimp only at g1 g2 g3
  have gl := g1.len
  have gu := g1.upl
  obtain ⟨n1, n2, n3, n4⟩ := g1.n1
  obtain ⟨f1, f2, f3, f4, f5⟩ := nmA_facts (odd := odd) g1
  have f6 : Plain (Txt.lower (nmA odd hl')) := f1 ▸ f4
  have f10 : (Txt.lower (nmA odd hl')).length ≤ 100 := by rw [f1, f5]; decide
  have f7 := K'.short
  have f8 := K'.length
  have f9 := fold_len (heard.take i) ts
  have fi : (heard.take i).length ≤ heard.length := (by rw [List.length_take]; (first | exact lin [_,_] [] [(1,.v 0,.v 1)] (1,.v 0,.v 1) [1,1] [] rfl (Nat.min_le_right _ _) | omega))
  have fs := sd_clk K' g1 f1 f2 g2 g3 (nmA_ok odd hl')
  have fr := g2.len
  have fsub : ∀ p ∈ tl ++ core, p ∈ tl ++ rest ++ own := fun p hp => by
   rcases List.mem_append.mp hp with hp | hp
   ·exact List.mem_append_left _ (List.mem_append_left _ hp)
   ·exact List.mem_append_left _ (List.mem_append_right _ (hsub p hp))
  (revert hq hx9 hoff hp' hlt C' K' F₁ N₁ g1 g2 g3 gl gu n1 n2 n3 n4 f1 f2 f3 f4 f5 f6 f10 f7 f8 f9 fi fs fr fsub; revert i q hl' cnt r t1 t2 t3 m₁ vs' n' hs' tl h tk own; fail "CLi"; rename_i i q hl' cnt r t1 t2 t3 m₁ vs' n' hs' tl h tk own hq hx9 hoff hp' hlt C' K' F₁ N₁ g1 g2 g3 gl gu n1 n2 n3 n4 f1 f2 f3 f4 f5 f6 f10 f7 f8 f9 fi fs fr fsub; fail "CLm")
  (k_steps; repeat' ((first | ((with_reducible refine Au.mk 1 ?_); ((k_here; refine KOpn.add (by ((try simp only [PySem.Str.length_append]); (try kopn_lits); (try simp only [li_0_A12, li_1_A12, li_2_A12]); (first | exact lin [_] [] [(2,.v 0,.n 1)] (1,.a (.n 3) (.v 0),.n 16777216) [1,1] [] rfl gl | exact lin [_] [] [(2,.v 0,.n 1)] (1,.a (.n 3) (.v 0),.n 16777216) [1,1] [] rfl gu | omega))) ?_; intro t'z kz hlenz))) | ((with_reducible refine Au.mk 4 ?_); ((k_here; (with_reducible show wpAny _ _ (subscriptTail _ _ (Value.ref _) (Value.int _ _)) _ _ _); (with_reducible rename News _ _ _ _ => N9z); refine' item_twoB 10 N9z (List.Mem.head _) ?lo ?hi (by assumption) (by assumption) ?_ ?q; (case lo => (first | exact lin [] [_] [(7,.n 0,.v 0)] (7,.n 0,.v 0) [1,1] [] rfl ho | omega)); (case hi => (first | exact lin [] [_] [(7,.v 0,.n 1)] (6,.v 0,.n 2) [1,1] [] rfl ho1 | omega)); (case q => with_unfolding_all rfl); k_whole; intro zz tkz hzz hzlz; refine Hold.un ?_)))) <;> k_steps))
  refine Hold.mk ?_
  rename _ = ite _ _ _ => hz
  replace hz : _ = nmA odd hl' := hz
  subst hz
  rename News _ _ _ _ => N3
  have N4 := news_drop N3
  clear N3
  have c1' := C'.inst
  obtain ⟨hsh0, dtk0, c0'⟩ := C'.dict
  (rename_i zz0 zz1 zz2 zz3 zz4 zz5 zz6 zz7; revert zz2 zz3 hlenz zz6 zz7 hzlz N4 c1' c0'; revert zz0 zz1 t'z kz zz4 zz5 tkz hsh0 dtk0; fail "CLi"; rename_i zz0 zz1 t'z kz zz4 zz5 tkz hsh0 dtk0 zz2 zz3 hlenz zz6 zz7 hzlz N4 c1' c0'; fail "CLm")
  (k_steps; repeat' (((with_reducible refine Au.mk 2 ?_); ((k_here; k_dflt (refine' setdefault_spc _ _ _ _ _ _ _ _ _ _ _ _ ?C _ ?hsub ?hp ?hsh ?hlen ?hx ?hx1 ?hy ?hl ?hl1 _ _ _ _ _ _ _ _ _ _ _ _ _ _ _ _ _ _ _ _ ?B ?F ?X ?N ?T ?ck ?dd ?uu ?_; (case B => k_asm); (case F => k_asm); (case X => k_asm); (case N => k_asm); (case T => k_asm); (case ck => first | exact rfl | assumption); (case dd => ktr_room); (case uu => ktr_units); (case C => assumption); (case hsub => assumption); (case hp => assumption); (case hsh => assumption); (case hlen => (first | exact lin [_,_,_,_,_] [] [(1,.v 0,.n 10),(1,.v 1,.n 10),(2,.v 2,.v 3),(1,.v 3,.a (.v 0) (.v 4)),(1,.v 4,.v 1)] (1,.v 2,.n 100) [1,1,1,1,1,1] [] rfl hl hl2 f8 f9 fi | omega)); (case hx => assumption); (case hx1 => assumption); (case hy => assumption); (case hl => (first | exact lin [_] [] [(2,.v 0,.n 4)] (1,.v 0,.n 100) [1,1] [] rfl f2 | omega)); (case hl1 => (first | exact lin [_] [] [(1,.v 0,.n 100)] (1,.v 0,.n 100) [1,1] [] rfl fr | omega))); intro _ _ _ _ _ N9z e9z; obtain ⟨⟨t9z, e9z⟩, e8z⟩ := e9z; (have e9z := e9z.symm; subst e9z); (try dsimp only); (try k_fold); refine Hold.un ?_))) <;> k_steps))
  refine Hold.mk ?_
  rename RClk _ _ _ _ _ => e8
  obtain ⟨vs2, n2, tl2, rfl, hp2, hlt2⟩ := e8
  have C2 := C'.grow hlt2
  have c2' := C2.inst
  obtain ⟨hsh2, dtk2, c02⟩ := C2.dict
  obtain ⟨fs1, fs2⟩ := fs
  have fs3 := fs2.short
  have fs4 := fs2.length
  have fs5 := sdT_len ((heard.take i).foldl evH ts) (hl', cnt, r)
  have fs6 := fs1.small
  have gs := g2.small
  have fx := fs2.set g1 f1 f2 g2 g3 (nmA_ok odd hl')
  have fsub2 : ∀ p ∈ tl2 ++ (tl ++ core), p ∈ tl2 ++ (tl ++ rest ++ own) := fun p hp => by
   rcases List.mem_append.mp hp with hp | hp
   ·exact List.mem_append_left _ hp
   ·exact List.mem_append_right _ (fsub p hp)
  clear c1' c0'
  (rename_i zz0 zz1 zz2; revert zz2 e9z N9z hp2 hlt2 C2 c2' c02 fs1 fs2 fs3 fs4 fs5 fs6 gs fx fsub2; revert zz0 zz1 t9z vs2 n2 tl2 hsh2 dtk2; fail "CLi"; rename_i zz0 zz1 t9z vs2 n2 tl2 hsh2 dtk2 zz2 e9z N9z hp2 hlt2 C2 c2' c02 fs1 fs2 fs3 fs4 fs5 fs6 gs fx fsub2; fail "CLm")
  (k_steps; repeat' ((first | ((with_reducible refine Au.mk 2 ?_); ((k_here; k_dflt (refine' parse_ok _ _ _ _ _ _ _ _ _ ?hp ?R _ _ _ _ _ _ _ _ _ _ _ _ _ _ _ _ _ _ _ _ ?B ?F ?X ?N ?T ?ck ?dd ?uu ?_; (case B => k_asm); (case F => k_asm); (case X => k_asm); (case N => k_asm); (case T => k_asm); (case ck => first | exact rfl | assumption); (case dd => ktr_room); (case uu => ktr_units); (case hp => exact List.Mem.head _); (case R => assumption)); intro _ _ _ _ _ N9z e9z; obtain ⟨q9z, u9z, u8z, e9z, e8z, l9z⟩ := e9z; rw [e8z] at N9z; clear e8z; (have e9z := e9z.symm; subst e9z); (try have l9z := allLt_of l9z); (try dsimp only); (try k_fold)))) | ((with_reducible refine Au.mk 3 ?_); ((k_here; k_dflt (refine' setItem_I ?k1 ?k2 ?k3 ?k4 ?k5 ?k6 ?_; (case k1 => k_asm); (case k2 => k_asm); (case k3 => k_inst); (case k4 => k_is); (case k5 => k_is); (case k6 => k_is); k_whole); refine Hold.un ?_))) | ((with_reducible refine Au.mk 4 ?_); (have auoff := AuOff.on; walk1 <;> clear auoff))) <;> k_steps))
  ·refine Hold.mk ?_
   rename sdM _ _ < cnt => hcmp
   rename News _ _ _ _ => N5
   have N6 := news_drop (news_drop N5)
   clear N5
   fail "CLn"
   (k_steps; repeat' (((with_reducible refine Au.mk 2 ?_); ((k_here; k_dflt (refine' setitem_spc _ _ _ _ _ _ _ _ _ _ _ _ ?C _ ?hsub ?hp ?hsh ?hlen ?hx ?hx1 ?hy ?hxl ?hl ?hl1 _ _ _ _ _ _ _ _ _ _ _ _ _ _ _ _ _ _ _ _ ?B ?F ?X ?N ?T ?ck ?dd ?uu ?_; (case B => k_asm); (case F => k_asm); (case X => k_asm); (case N => k_asm); (case T => k_asm); (case ck => first | exact rfl | assumption); (case dd => ktr_room); (case uu => ktr_units); (case C => assumption); (case hsub => assumption); (case hp => assumption); (case hsh => assumption); (case hlen => (first | exact lin [_,_,_,_,_,_] [] [(1,.v 0,.n 10),(1,.v 1,.n 10),(1,.v 2,.a (.v 0) (.v 3)),(1,.v 3,.v 1),(2,.v 4,.v 5),(1,.v 5,.a (.v 2) (.n 1))] (1,.v 4,.n 100) [1,1,1,1,1,1,1] [] rfl hl hl2 f9 fi fs4 fs5 | omega)); (case hx => assumption); (case hx1 => assumption); (case hy => assumption); (case hxl => assumption); (case hl => (first | exact lin [_] [] [(2,.v 0,.n 4)] (1,.v 0,.n 100) [1,1] [] rfl f2 | omega)); (case hl1 => (first | exact lin [_] [] [(1,.v 0,.n 100)] (1,.v 0,.n 100) [1,1] [] rfl fr | omega))); intro _ _ _ _ _ N9z e9z; obtain ⟨e9z, e8z⟩ := e9z; (have e9z := e9z.symm; subst e9z); (try dsimp only); (try k_fold); refine Hold.un ?_))) <;> k_steps))
   refine Hold.mk ?_
   rename RClk _ _ _ (hset _ _ _) _ => e7
   obtain ⟨vs3, n3, tl3, rfl, hp3, hlt3⟩ := e7
   (rename_i zz0 zz1 zz2; revert zz2 e9z N9z hp3 hlt3; revert zz0 zz1 vs3 n3 tl3; fail "CLi"; rename_i zz0 zz1 vs3 n3 tl3 zz2 e9z N9z hp3 hlt3; fail "CLm")
   k_steps
   refine event_end (tl2 := tl3 ++ tl2) (vs2 := vs3) (n2 := n3) (by k_asm) ⟨rfl, rfl, rfl, rfl⟩ (by k_asm) (fun p hp => by rw [List.append_assoc] at hp; exact hp) hH (by rw [List.append_assoc]; exact hp3) hlt (fun p hp => ?_) hoff (by rw [fold_step hx9, evH_sd, if_pos hcmp]; exact fx)
   rcases List.mem_append.mp hp with hp | hp
   ·exact ⟨(hlt3 p hp).1, fun q hq => (hlt3 p hp).2 q (List.mem_append_right _ hq)⟩
   ·exact hlt2 p hp
  ·rename ¬ sdM _ _ < cnt => hcmp
   exact event_end (tl2 := tl2) (vs2 := vs2) (n2 := n2) (by k_asm) ⟨rfl, rfl, rfl, rfl⟩ (by k_asm) (fun p hp => .tail _ (.tail _ hp)) hH hp2 hlt hlt2 hoff (by rw [fold_step hx9, evH_sd, if_neg hcmp]; exact fs2)
 case done =>
  intro m₁ vs' n' hs' tl h tk hp' hlt C' K' F₁ N₁
  clear N9 F9
  obtain ⟨f1, f2⟩ := nmC_facts hx
  obtain ⟨e1, e2, e3⟩ := nmB_facts (odd := odd) hx
  obtain ⟨n1, n2, n3, n4⟩ := hx.n1
  have gl := hx.len
  have gu := hx.upl
  have f4 : Plain (atSM x) := (nmA_facts (odd := odd) hx).2.2.2.1
  have f6 : Plain (Txt.lower (Str.ofString "AT." ++ x)) := f1 ▸ f4
  have f7 := K'.short
  have f8 := K'.length
  have f9 := fold_len heard ts
  have c1' := C'.inst
  obtain ⟨hsh0, dtk0, c0'⟩ := C'.dict
  have fsub : ∀ p ∈ tl ++ core, p ∈ tl ++ rest := fun p hp => by
   rcases List.mem_append.mp hp with hp | hp
   ·exact List.mem_append_left _ hp
   ·exact List.mem_append_right _ (hsub p hp)
  have HG := C'.hdr (n := n') (hp'.mono fsub) f7
  have n5 : (Str.ofString "AT." ++ x).length ≤ 100 := by (first | exact lin [_] [] [(2,.v 0,.n 4)] (1,.v 0,.n 100) [1,1] [] rfl f2 | omega)
  have fdel := K'.del hx e1
  have e4 : (nmB odd x).length ≤ 100 := by (first | exact lin [_] [] [(2,.v 0,.n 4)] (1,.v 0,.n 100) [1,1] [] rfl e2 | omega)
  have e5 : Plain (Txt.lower (nmB odd x)) := e1 ▸ f4
  have e6 : (Txt.lower (nmB odd x)).length ≤ 100 := by rw [e1, (nmA_facts (odd := odd) hx).2.2.2.2]; decide
  (revert hp' hlt C' K' F₁ N₁ f1 f2 e1 e2 e3 n1 n2 n3 n4 gl gu f4 f6 f7 f8 f9 c1' c0' fsub HG n5 fdel e4 e5 e6; revert m₁ vs' n' hs' tl h tk hsh0 dtk0; fail "CLi"; rename_i m₁ vs' n' hs' tl h tk hsh0 dtk0 hp' hlt C' K' F₁ N₁ f1 f2 e1 e2 e3 n1 n2 n3 n4 gl gu f4 f6 f7 f8 f9 c1' c0' fsub HG n5 fdel e4 e5 e6; fail "CLm")
  (k_steps; repeat' ((first | ((with_reducible refine Au.mk 1 ?_); ((k_here; refine KOpn.add (by ((try simp only [PySem.Str.length_append]); (try kopn_lits); (try simp only [li_0_A12, li_1_A12, li_2_A12]); (first | exact lin [_] [] [(2,.v 0,.n 1)] (1,.a (.n 3) (.v 0),.n 16777216) [1,1] [] rfl gl | omega))) ?_; intro t'z kz hlenz))) | ((with_reducible refine Au.mk 2 ?_); ((k_here; k_dflt (refine' get_spc _ _ _ _ _ _ _ _ _ _ ?HH ?hx ?hl _ _ _ _ _ _ _ _ _ _ _ _ _ _ _ _ _ _ _ _ ?B ?F ?X ?N ?T ?ck ?dd ?uu ?_; (case B => k_asm); (case F => k_asm); (case X => k_asm); (case N => k_asm); (case T => k_asm); (case ck => first | exact rfl | assumption); (case dd => ktr_room); (case uu => ktr_units); (case HH => assumption); (case hx => assumption); (case hl => (first | exact lin [_] [] [(1,.v 0,.n 100)] (1,.v 0,.n 100) [1,1] [] rfl n5 | omega))); intro _ _ _ _ _ N9z e9z; obtain ⟨e8z, e9z⟩ := e9z; rw [e8z] at N9z; clear e8z; obtain ⟨e9az, e9z⟩ | ⟨z9z, t9z, e9az, e9z⟩ := e9z <;> (have e9z := e9z.symm; subst e9z) <;> (try dsimp only) <;> (try k_fold) <;> refine Hold.un ?_)))) <;> k_steps))
  ·refine Hold.mk ?_
   rename hget _ _ = none => hg
   rw [f1] at hg
   have ht : tget (heard.foldl evH ts) x = none := by
    rcases K'.hget hx with ⟨_, z⟩ | ⟨t, _, z, _⟩
    ·exact z
    ·rw [hg] at z; cases z
   have hc : ownCount (heard.foldl evH ts) x = 1 := by unfold ownCount; rw [ht]
   obtain ⟨r1, r2⟩ := reply_ok (c := 1) (d := dd) (by decide) (by decide)
   have r3 := r1.len
   (rename_i zz0 zz1 zz2 zz3; revert hlenz zz3 N9z hg e9z ht hc r1 r2 r3; revert t'z kz zz0 zz1 zz2; fail "CLi"; rename_i t'z kz zz0 zz1 zz2 hlenz zz3 N9z hg e9z ht hc r1 r2 r3; fail "CLm")
   (k_steps; repeat' ((first | ((with_reducible refine Au.mk 1 ?_); ((k_here; refine KOpn.add (by ((try simp only [PySem.Str.length_append]); (try kopn_lits); (try simp only [li_0_A12, li_1_A12, li_2_A12]); (first | exact lin [_] [] [(2,.v 0,.n 1)] (1,.a (.n 3) (.v 0),.n 16777216) [1,1] [] rfl gl | exact lin [_] [] [(2,.v 0,.n 1)] (1,.a (.n 3) (.v 0),.n 16777216) [1,1] [] rfl gu | omega))) ?_; intro t'z kz hlenz))) | ((with_reducible refine Au.mk 2 ?_); ((k_here; k_dflt (refine' reply_spc _ _ _ _ _ _ ?c0 ?c1 ?d0 ?d1 _ _ _ _ _ _ _ _ _ _ _ _ _ _ _ _ _ _ _ _ ?B ?F ?X ?N ?T ?ck ?dd ?uu ?_; (case B => k_asm); (case F => k_asm); (case X => k_asm); (case N => k_asm); (case T => k_asm); (case ck => first | exact rfl | assumption); (case dd => ktr_room); (case uu => ktr_units); (case c0 => (first | decide | omega)); (case c1 => (first | decide | omega)); (case d0 => (first | exact lin [] [_] [(7,.n 0,.v 0)] (7,.g (.n 1000000),.v 0) [1,1] [] rfl h0 | omega)); (case d1 => (first | exact lin [] [_] [(7,.v 0,.n 1000000)] (7,.v 0,.n 1000000) [1,1] [] rfl h1 | omega))); intro _ _ _ _ _ N9z e9z; obtain ⟨⟨t9z, e9z⟩, e8z⟩ := e9z; rw [e8z] at N9z; clear e8z; (have e9z := e9z.symm; subst e9z); (try dsimp only); (try k_fold)))) | ((with_reducible refine Au.mk 4 ?_); ((k_here; (with_reducible show wpAny _ _ (subscriptTail _ _ (Value.ref _) (Value.int _ _)) _ _ _); (with_reducible rename News _ _ _ _ => N9z); refine' item_twoB 10 N9z (List.Mem.head _) ?lo ?hi (by assumption) (by assumption) ?_ ?q; (case lo => (first | exact lin [] [_] [(7,.n 0,.v 0)] (7,.n 0,.v 0) [1,1] [] rfl ho | omega)); (case hi => (first | exact lin [] [_] [(7,.v 0,.n 1)] (6,.v 0,.n 2) [1,1] [] rfl ho1 | omega)); (case q => with_unfolding_all rfl); k_whole; intro zz tkz hzz hzlz; refine Hold.un ?_)))) <;> k_steps))
   refine Hold.mk ?_
   rename _ = ite _ _ _ => hz
   replace hz : _ = nmB odd x := hz
   subst hz
   rename News _ _ _ _ => N3
   have N4 := news_drop (news_drop N3)
   clear N3
   (rename_i zz0 zz1 zz2 zz3 zz4 zz5 zz6 zz7 zz8 zz9 zz10; revert e9z zz5 zz6 hlenz zz9 zz10 hzlz N4; revert zz0 zz1 zz2 t9z zz3 zz4 t'z kz zz7 zz8 tkz; fail "CLi"; rename_i zz0 zz1 zz2 t9z zz3 zz4 t'z kz zz7 zz8 tkz e9z zz5 zz6 hlenz zz9 zz10 hzlz N4; fail "CLm")
   (k_steps; repeat' (((with_reducible refine Au.mk 3 ?_); ((k_here; k_dflt (refine' setItem_I ?k1 ?k2 ?k3 ?k4 ?k5 ?k6 ?_; (case k1 => k_asm); (case k2 => k_asm); (case k3 => k_inst); (case k4 => k_is); (case k5 => k_is); (case k6 => k_is); k_whole); refine Hold.un ?_))) <;> k_steps))
   refine Hold.mk ?_
   (k_steps; repeat' (((with_reducible refine Au.mk 2 ?_); ((k_here; k_dflt (refine' setitem_spc _ _ _ _ _ _ _ _ _ _ _ _ ?C _ ?hsub ?hp ?hsh ?hlen ?hx ?hx1 ?hy ?hxl ?hl ?hl1 _ _ _ _ _ _ _ _ _ _ _ _ _ _ _ _ _ _ _ _ ?B ?F ?X ?N ?T ?ck ?dd ?uu ?_; (case B => k_asm); (case F => k_asm); (case X => k_asm); (case N => k_asm); (case T => k_asm); (case ck => first | exact rfl | assumption); (case dd => ktr_room); (case uu => ktr_units); (case C => assumption); (case hsub => assumption); (case hp => assumption); (case hsh => assumption); (case hlen => (first | exact lin [_,_,_,_] [] [(1,.v 0,.n 10),(1,.v 1,.n 10),(2,.v 2,.v 3),(1,.v 3,.a (.v 0) (.v 1))] (1,.v 2,.n 100) [1,1,1,1,1] [] rfl hl hl2 f8 f9 | omega)); (case hx => assumption); (case hx1 => assumption); (case hy => assumption); (case hxl => assumption); (case hl => (first | exact lin [_] [] [(1,.v 0,.n 100)] (1,.v 0,.n 100) [1,1] [] rfl e4 | omega)); (case hl1 => (first | exact lin [_] [] [(1,.v 0,.n 100)] (1,.v 0,.n 100) [1,1] [] rfl r3 | omega))); intro _ _ _ _ _ N9z e9z; obtain ⟨e9z, e8z⟩ := e9z; (have e9z := e9z.symm; subst e9z); (try dsimp only); (try k_fold); refine Hold.un ?_))) <;> k_steps))
   refine Hold.mk ?_
   rename RClk _ _ _ (hset _ _ _) _ => e7
   (rename_i zz0 zz1 zz2 zz3; revert zz3 N9z e7 e9z; revert zz0 zz1 zz2; fail "CLi"; rename_i zz0 zz1 zz2 zz3 N9z e7 e9z; fail "CLm")
   k_steps
   exact hret _ _ _ _ (by k_asm) (by assumption) ⟨rfl, _, ev_out e7 hlt, by unfold event evOwn; rw [hc]; exact K'.set hx e1 e2 r1 r2 (nmB_ok odd x)⟩
  ·refine Hold.mk ?_
   rename hget _ _ = some _ => hg
   rw [f1] at hg
   rcases K'.hget hx with ⟨z, _⟩ | ⟨⟨o1, o2, o3⟩, ht, z, z1, z2, z3⟩
   ·rw [hg] at z; cases z
   rw [hg] at z
   cases z
   dsimp only at z1 z2
   have hc : ownCount (heard.foldl evH ts) x = o2 + 1 := by unfold ownCount; rw [ht]
   have hb1 := hb _ z3
   dsimp only at hb1
   obtain ⟨r1, r2⟩ := reply_ok (c := o2 + 1) (d := dd) (by (first | exact lin [] [_] [(7,.n 0,.v 0)] (7,.n 1,.a (.v 0) (.n 1)) [1,1] [] rfl hb1.1 | omega)) (by (first | exact lin [] [_] [(7,.v 0,.n 6)] (7,.a (.v 0) (.n 1),.n 7) [1,1] [] rfl hb1.2 | omega))
   have r3 := r1.len
   have z4 := z1.len
   (rename_i zz0 zz1 zz2 zz3; revert hlenz zz3 N9z ht z1 z2 z3 hg e9z hc hb1 r1 r2 r3 z4; revert t'z kz zz0 zz1 zz2 t9z o1 o2 o3; fail "CLi"; rename_i t'z kz zz0 zz1 zz2 t9z o1 o2 o3 hlenz zz3 N9z ht z1 z2 z3 hg e9z hc hb1 r1 r2 r3 z4; fail "CLm")
   (k_steps; repeat' ((first | ((with_reducible refine Au.mk 1 ?_); ((k_here; refine KOpn.add (by ((try simp only [PySem.Str.length_append]); (try kopn_lits); (try simp only [li_0_A12, li_1_A12, li_2_A12]); (first | exact lin [_] [] [(2,.v 0,.n 1)] (1,.a (.n 3) (.v 0),.n 16777216) [1,1] [] rfl gl | exact lin [_] [] [(2,.v 0,.n 1)] (1,.a (.n 3) (.v 0),.n 16777216) [1,1] [] rfl gu | omega))) ?_; intro t'z kz hlenz))) | ((with_reducible refine Au.mk 2 ?_); (first | ((k_here; k_dflt (refine' reply_spc _ _ _ _ _ _ ?c0 ?c1 ?d0 ?d1 _ _ _ _ _ _ _ _ _ _ _ _ _ _ _ _ _ _ _ _ ?B ?F ?X ?N ?T ?ck ?dd ?uu ?_; (case B => k_asm); (case F => k_asm); (case X => k_asm); (case N => k_asm); (case T => k_asm); (case ck => first | exact rfl | assumption); (case dd => ktr_room); (case uu => ktr_units); (case c0 => (first | exact lin [] [_] [(7,.n 0,.v 0)] (7,.n 0,.a (.v 0) (.n 1)) [1,1] [] rfl hb1.1 | omega)); (case c1 => (first | exact lin [] [_] [(7,.v 0,.n 6)] (6,.a (.v 0) (.n 1),.n 10) [1,1] [] rfl hb1.2 | omega)); (case d0 => (first | exact lin [] [_] [(7,.n 0,.v 0)] (7,.g (.n 1000000),.v 0) [1,1] [] rfl h0 | omega)); (case d1 => (first | exact lin [] [_] [(7,.v 0,.n 1000000)] (7,.v 0,.n 1000000) [1,1] [] rfl h1 | omega))); intro _ _ _ _ _ N9z e9z; obtain ⟨⟨t9z, e9z⟩, e8z⟩ := e9z; rw [e8z] at N9z; clear e8z; (have e9z := e9z.symm; subst e9z); (try dsimp only); (try k_fold))) | ((k_here; k_dflt (refine' parse_ok _ _ _ _ _ _ _ _ _ ?hp ?R _ _ _ _ _ _ _ _ _ _ _ _ _ _ _ _ _ _ _ _ ?B ?F ?X ?N ?T ?ck ?dd ?uu ?_; (case B => k_asm); (case F => k_asm); (case X => k_asm); (case N => k_asm); (case T => k_asm); (case ck => first | exact rfl | assumption); (case dd => ktr_room); (case uu => ktr_units); (case hp => exact List.Mem.head _); (case R => assumption)); intro _ _ _ _ _ N9z e9z; obtain ⟨q9z, u9z, u8z, e9z, e8z, l9z⟩ := e9z; rw [e8z] at N9z; clear e8z; (have e9z := e9z.symm; subst e9z); (try have l9z := allLt_of l9z); (try dsimp only); (try k_fold))))) | ((with_reducible refine Au.mk 4 ?_); (first | ((k_here; (with_reducible show wpAny _ _ (subscriptTail _ _ (Value.ref _) (Value.int _ _)) _ _ _); (with_reducible rename News _ _ _ _ => N9z); refine' item_twoB 10 N9z (List.Mem.head _) ?lo ?hi (by assumption) (by assumption) ?_ ?q; (case lo => (first | exact lin [] [_] [(7,.n 0,.v 0)] (7,.n 0,.v 0) [1,1] [] rfl ho | omega)); (case hi => (first | exact lin [] [_] [(7,.v 0,.n 1)] (6,.v 0,.n 2) [1,1] [] rfl ho1 | omega)); (case q => with_unfolding_all rfl); k_whole; intro zz tkz hzz hzlz; refine Hold.un ?_)) | (have auoff := AuOff.on; walk1 <;> clear auoff)))) <;> k_steps))
   refine Hold.mk ?_
   rename _ = ite _ _ _ => hz
   replace hz : _ = nmB odd x := hz
   subst hz
   rename News _ _ _ _ => N3
   have N4 := news_drop (news_drop (news_drop (news_drop N3)))
   clear N3
   (rename_i zz0 zz1 zz2 zz3 zz4 zz5 zz6 zz7 zz8 zz9 zz10; revert e9z zz5 zz6 hlenz zz9 zz10 hzlz N4; revert zz0 zz1 zz2 t9z zz3 zz4 t'z kz zz7 zz8 tkz; fail "CLi"; rename_i zz0 zz1 zz2 t9z zz3 zz4 t'z kz zz7 zz8 tkz e9z zz5 zz6 hlenz zz9 zz10 hzlz N4; fail "CLm")
   (k_steps; repeat' (((with_reducible refine Au.mk 3 ?_); ((k_here; k_dflt (refine' setItem_I ?k1 ?k2 ?k3 ?k4 ?k5 ?k6 ?_; (case k1 => k_asm); (case k2 => k_asm); (case k3 => k_inst); (case k4 => k_is); (case k5 => k_is); (case k6 => k_is); k_whole); refine Hold.un ?_))) <;> k_steps))
   refine Hold.mk ?_
   (k_steps; repeat' (((with_reducible refine Au.mk 2 ?_); ((k_here; k_dflt (refine' setitem_spc _ _ _ _ _ _ _ _ _ _ _ _ ?C _ ?hsub ?hp ?hsh ?hlen ?hx ?hx1 ?hy ?hxl ?hl ?hl1 _ _ _ _ _ _ _ _ _ _ _ _ _ _ _ _ _ _ _ _ ?B ?F ?X ?N ?T ?ck ?dd ?uu ?_; (case B => k_asm); (case F => k_asm); (case X => k_asm); (case N => k_asm); (case T => k_asm); (case ck => first | exact rfl | assumption); (case dd => ktr_room); (case uu => ktr_units); (case C => assumption); (case hsub => assumption); (case hp => assumption); (case hsh => assumption); (case hlen => (first | exact lin [_,_,_,_] [] [(1,.v 0,.n 10),(1,.v 1,.n 10),(2,.v 2,.v 3),(1,.v 3,.a (.v 0) (.v 1))] (1,.v 2,.n 100) [1,1,1,1,1] [] rfl hl hl2 f8 f9 | omega)); (case hx => assumption); (case hx1 => assumption); (case hy => assumption); (case hxl => assumption); (case hl => (first | exact lin [_] [] [(1,.v 0,.n 100)] (1,.v 0,.n 100) [1,1] [] rfl e4 | omega)); (case hl1 => (first | exact lin [_] [] [(1,.v 0,.n 100)] (1,.v 0,.n 100) [1,1] [] rfl r3 | omega))); intro _ _ _ _ _ N9z e9z; obtain ⟨e9z, e8z⟩ := e9z; (have e9z := e9z.symm; subst e9z); (try dsimp only); (try k_fold); refine Hold.un ?_))) <;> k_steps))
   refine Hold.mk ?_
   rename RClk _ _ _ (hset _ _ _) _ => e7
   (rename_i zz0 zz1 zz2 zz3; revert zz3 N9z e7 e9z; revert zz0 zz1 zz2; fail "CLi"; rename_i zz0 zz1 zz2 zz3 N9z e7 e9z; fail "CLm")
   k_steps
   exact hret _ _ _ _ (by k_asm) (by assumption) ⟨rfl, _, ev_out e7 hlt, by unfold event evOwn; rw [hc]; exact K'.set hx e1 e2 r1 r2 (nmB_ok odd x)⟩
end Mine
end
section
open PySem PySem.W PySem.Spec PySem.Calls PyProof.Rows
namespace Mine
theorem slice_take (vs : List Value) (k : Nat) : slicePick vs.toArray none (some (k : Int)) none = (vs.take k).toArray := by
 have e : vs.toArray.size = vs.length := by simp
 have hb : sliceBounds none (some (k : Int)) none vs.toArray.size = sliceBounds (some ((0 : Nat) : Int)) (some ((min k vs.length : Nat) : Int)) none vs.toArray.size := by
  rw [e]
  simp only [sliceBounds, Option.getD_none]
  simp
  have hz : ∀ j : Nat, ¬ (j : Int) < 0 := fun j => Int.not_lt.mpr (Int.natCast_nonneg j)
  rw [if_neg (hz _), if_neg (hz _), Int.min_eq_left (Int.natCast_nonneg _), Int.max_self]
  refine ⟨rfl, ?_⟩
  rcases Nat.le_total k vs.length with h | h
  ·rw [Nat.min_eq_left h]
  ·rw [Nat.min_eq_right h, Int.min_eq_right (Int.ofNat_le.mpr h), Int.min_self]
 have h : slicePick vs.toArray none (some (k : Int)) none = slicePick vs.toArray (some ((0 : Nat) : Int)) (some ((min k vs.length : Nat) : Int)) none := by
  unfold slicePick
  rw [hb]
 rw [h, slicePick_run _ _ _ (by rw [e]; exact lin [_,_] [] [(1,.v 0,.v 1)] (1,.v 0,.v 1) [1,1] [] rfl (Nat.min_le_right _ _)) (Nat.zero_le _)]
 simp only [List.drop_zero, Nat.sub_zero]
 congr 1
 rcases Nat.le_total k vs.length with h | h
 ·rw [Nat.min_eq_left h]
 ·rw [Nat.min_eq_right h, List.take_of_length_le h, List.take_of_length_le (Nat.le_refl _)]
theorem slice_drop (vs : List Value) (k : Nat) (hk : k ≤ vs.length) : slicePick vs.toArray (some (k : Int)) none none = (vs.drop k).toArray := by
 have e : vs.toArray.size = vs.length := by simp
 have hb : sliceBounds (some (k : Int)) none none vs.toArray.size = sliceBounds (some (k : Int)) (some ((vs.length : Nat) : Int)) none vs.toArray.size := by
  rw [e]
  simp only [sliceBounds, Option.getD_none]
  simp
  split <;> (first | exact lin [_] [_] [(6,.c (.v 0),.n 0)] (8,.c (.v 0),.v 0) [0,1] [0,1] rfl (by assumption) | rw [Int.min_self, Int.max_eq_right (Int.natCast_nonneg _)])
 have h : slicePick vs.toArray (some (k : Int)) none none = slicePick vs.toArray (some (k : Int)) (some ((vs.length : Nat) : Int)) none := by
  unfold slicePick
  rw [hb]
 rw [h, slicePick_run _ _ _ (by rw [e]; exact lin [_] [] [] (1,.v 0,.v 0) [1] [] rfl) hk]
 congr 1
 exact List.take_of_length_le (by simp)
section
variable {prog : Program} {w : World} {A : Around} {E : Value → Shared → Prop} {s : Shared} {h₀ : Heap} {L : Addr} {m : PySem.Str → Option Value} {news : List (Addr × Obj)}
theorem cutTo_K {value slice : PySem.Expr} {a : Addr} {vs : List Value} {k : Nat} {u : Tok} {Q : Value → Shared → Prop} (F : Fr h₀ L s.heap m) (N : News h₀ L s.heap news) (hm : s.heap.IsList a vs.toArray) (hsz : vs.length ≤ 10000)
  (h : ∀ D h', Fr h₀ L h' m → News h₀ L h' ((D, listOf (vs.take k).toArray 0) :: news) → (∀ p ∈ news, p.1 < D) → Q (.ref D) { s with heap := h' })
  (hs : subscripted slice false (.ref a) (.ref s.heap.objs.size) = operate [.ref s.heap.objs.size, .ref a] (getItem (.ref a) (.ref s.heap.objs.size)) := by with_unfolding_all rfl)
  (ht : ∀ r, letTemporaryGo value (.ref a) r = pure () := by intro _; with_unfolding_all rfl) :
  wpAny (model prog w) A (subscriptTail value slice (.ref a) (.ref s.heap.objs.size)) Q E { s with heap := s.heap.push { cls := .type "slice", data := .fields #[.none, .int (k : Int) u, .none] } } := by
 refine slice_list F N hm .none (.int (k : Int) u) (fun h' F' N' => ?_) hs ht (by rw [List.size_toArray, sizeLine_eq]; exact lin [_] [] [(1,.v 0,.n 10000)] (1,.v 0,.n 16777216) [1,1] [] rfl hsz)
 rw [slice_take] at N'
 exact h _ h' F' N' fun p hp => Nat.lt_succ_of_lt (Heap.lt_size (N p hp).1)
theorem cutFrom_K {value slice : PySem.Expr} {a : Addr} {vs : List Value} {k : Nat} {u : Tok} {Q : Value → Shared → Prop} (F : Fr h₀ L s.heap m) (N : News h₀ L s.heap news) (hm : s.heap.IsList a vs.toArray) (hk : k ≤ vs.length) (hsz : vs.length ≤ 10000)
  (h : ∀ D h', Fr h₀ L h' m → News h₀ L h' ((D, listOf (vs.drop k).toArray 0) :: news) → (∀ p ∈ news, p.1 < D) → Q (.ref D) { s with heap := h' })
  (hs : subscripted slice false (.ref a) (.ref s.heap.objs.size) = operate [.ref s.heap.objs.size, .ref a] (getItem (.ref a) (.ref s.heap.objs.size)) := by with_unfolding_all rfl)
  (ht : ∀ r, letTemporaryGo value (.ref a) r = pure () := by intro _; with_unfolding_all rfl) :
  wpAny (model prog w) A (subscriptTail value slice (.ref a) (.ref s.heap.objs.size)) Q E { s with heap := s.heap.push { cls := .type "slice", data := .fields #[.int (k : Int) u, .none, .none] } } := by
 refine slice_list F N hm (.int (k : Int) u) .none (fun h' F' N' => ?_) hs ht (by rw [List.size_toArray, sizeLine_eq]; exact lin [_] [] [(1,.v 0,.n 10000)] (1,.v 0,.n 16777216) [1,1] [] rfl hsz)
 rw [slice_drop _ _ hk] at N'
 exact h _ h' F' N' fun p hp => Nat.lt_succ_of_lt (Heap.lt_size (N p hp).1)
end
theorem list_up {h₀ g h : Heap} {L L' : Addr} {m m' : PySem.Str → Option Value} {a : Addr} {its : Array Value} (x : Fr h₀ L g m) (y : Fr g L' h m') (l : h₀.IsList a its) : h.IsList a its :=
 (l.at fun o e => x.keep a o e).at fun o e => y.keep a o e
theorem num_drop {h₀ h : Heap} {L : Addr} {p a b c d : Addr × Obj} {r : List (Addr × Obj)} (N : News h₀ L h (p :: a :: b :: c :: d :: r)) : News h₀ L h (p :: r) := fun q hq => N q (by
 rcases List.mem_cons.mp hq with rfl | hq
 ·exact .head _
 ·exact .tail _ (.tail _ (.tail _ (.tail _ (.tail _ hq)))))
noncomputable def RNums (news : List (Addr × Obj)) (r : Value) (news' : List (Addr × Obj)) : Prop :=
 ∃ D us ks, r = .ref D ∧ news' = (D, listOf (List.toArray us) 0) :: news ∧ IntsAre us ks ∧ ks.length = 6 ∧ (∀ k ∈ ks, 0 ≤ k ∧ k < 1000000) ∧ ∀ p ∈ news, p.1 < D
end Mine
end
section
local macro_rules | `(tactic| omega) => `(tactic| fail "OL")
theorem Mine.clean_A13 : Mine.CleanT := by
 intro M A Q E s h
 w_top off
 first
  | (walk1; fail_if_success skip)
  | exact h
open PySem PySem.W PyProof.Rows
namespace Mine
local macro_rules | `(tactic| walk_at "binaryOp Add ref ref") => `(tactic| (refine Hold.un ?_))
local macro_rules | `(tactic| walk_at "CompSrc") => `(tactic| (refine Hold.un ?_))
local macro_rules | `(tactic| walk_at "call builtin:len") => `(tactic| ((with_reducible show wpAny _ _ (call (Value.builtin "len") [Value.ref _]) _ _ _); refine Au.un 1 ?_))
local macro_rules | `(tactic| walk_at "exec Assign cons ListComp") => `(tactic| refine Au.un 2 ?_)
local macro_rules | `(tactic| walk_at "subscriptTail") => `(tactic| (refine Hold.un ?_))
theorem numbers_spc (w : World) (ns : List Int) (vs : List Value) (sc : Addr) (hi : IntsAre vs ns) (hlen : ns.length ≤ 63) (news : List (Addr × Obj))
  (mean : ExcName → Option Value) (mg mb : PySem.Str → Option Value) (dp un : Nat) (gd : Option (List Code)) (cn : PySem.Str) (cs : Scope) (a : Addr) (ccd : Value) (cl : List (PySem.Str × Addr)) (outer : List Env) (A₀ : Around) (base h₀ : Heap) (L : Addr) (m : PySem.Str → Option Value) (s : Shared) (Q E : Value → Shared → Prop)
  (B : Below A₀ base outer h₀) (F : Fr h₀ L s.heap m) (X : (hd.heap_1 w.params).In h₀) (N : News h₀ L s.heap news) (T : Top hd.view_39 LO mean mg mb h₀) (hk : cs.kind = .function)
  (hd : dp + 2 < recursionLimit) (hu : un + 8 * 2 < cLine) (hL : h₀.IsList sc vs.toArray)
  (hret : ∀ r news' h' tk', Fr h₀ L h' m → News h₀ L h' news' → RNums news r news' → Q r { s with heap := h', toks := tk' }) :
  wpAny (model PR w) (ktrTop dp un gd cn cs L a ccd cl outer) (call (.ref 238) [.ref sc]) Q E s := by
 (revert hi hlen B F X N T hk hd hu hL hret; revert w ns vs sc news mean mg mb dp un gd cn cs a ccd cl outer A₀ base h₀ L m s Q E; fail "CLi"; rename_i w ns vs sc news mean mg mb dp un gd cn cs a ccd cl outer A₀ base h₀ L m s Q E hi hlen B F X N T hk hd hu hL hret; fail "CLm")
 refine wpAny_call ?_
 k_dflt cell_enter
 (rename_i zz0 zz1 zz2 zz3 zz4 zz5 zz6 zz7 zz8; revert zz3 zz4 zz5 zz6 zz7 zz8; revert zz0 zz1 zz2; fail "CLi"; rename_i zz0 zz1 zz2 zz3 zz4 zz5 zz6 zz7 zz8; fail "CLm")
 (k_steps; repeat' (((with_reducible refine Au.mk 2 ?_); ((k_here; lcg_calm; k_dflt (refine LCg.Assign_ListComp_U (F₀ := by k_asm) (by rfl) (by with_unfolding_all rfl) (by with_unfolding_all rfl) (by decide) (by rfl) (by decide) (by rfl) (by rfl) (by rfl) ?_)))) <;> k_steps))
 refine Hold.mk ?_
 rename News _ _ _ _ => N9
 rename Fr _ _ _ _ => F9
 refine cutTo_K (vs := vs) (k := 6) F9 N9 (list_up (by assumption) F9 hL) (by rw [hi.length]; omega) ?_
 intro D1 h1 F1 N1 l1
 clear N9 F9
 (revert F1 N1 l1; revert D1 h1; fail "CLi"; rename_i D1 h1 F1 N1 l1; fail "CLm")
 k_steps
 refine Hold.mk ?_
 k_dflt (refine LCg.CompSrc.ledger (by rfl) (by k_asm) (by k_asm) (.head _) ?size ?_)
 case size => rw [List.size_toArray, List.length_take, sizeLine_eq]; omega
 intro g9
 refine crK_U (fun i ys => ∃ ks : List Int, IntsAre ys ks ∧ ks.length = i ∧ ∀ k ∈ ks, 0 ≤ k ∧ k < 1000000) ?turn ⟨[], .nil, rfl, fun _ h => nomatch h⟩ ?fin
 case turn =>
  intro i ys v I oI C oC D m9 h9 tk9 E9 hi9 hv hJ hC hx9 F9 N9 off ne
  obtain ⟨ks, hk1, hk2, hk3⟩ := hJ
  obtain ⟨z, tz, rfl, hz⟩ := IntsAre.at (hi.take 6) i v (by simpa using hv)
  (revert hi9 hC F9 N9 off ne hk1 hk2 hk3 hz hv hx9; revert g9 i ys I oI C oC D m9 h9 tk9 E9 ks z tz; fail "CLi"; rename_i g9 i ys I oI C oC D m9 h9 tk9 E9 ks z tz hi9 hC F9 N9 off ne hk1 hk2 hk3 hz hv hx9; fail "CLm")
  k_steps
  refine LCg.CompEnd.intro (by k_asm) (by k_asm) _ (fun p hp => hp) off (.inr ⟨_, .head _, rfl, _, rfl⟩) ⟨rfl, ks ++ [_], hk1.append (.cons _ _ .nil), by rw [List.length_append, hk2]; rfl, fun k hk => ?_⟩
  rcases List.mem_append.mp hk with hk | hk
  ·exact hk3 k hk
  ·rw [List.mem_singleton.mp hk]
   exact ⟨fmod_lo _ (by decide), fmod_hi _ (by decide)⟩
 case fin =>
  intro ys hJ
  obtain ⟨ks, hk1, hk2, hk3⟩ := hJ
  rw [List.size_toArray, List.length_take] at hk2
  have hk4 := hk1.length
  (revert hk1 hk2 hk3 hk4; revert g9 ys ks; fail "CLi"; rename_i g9 ys ks hk1 hk2 hk3 hk4; fail "CLm")
  (k_steps; repeat' (((with_reducible refine Au.mk 1 ?_); ((k_here; (with_reducible show wpAny _ _ (call (Value.builtin "len") [Value.ref _]) _ _ _); (with_reducible rename News _ _ _ _ => N9z); refine' len_KM N9z (List.Mem.tail _ (List.Mem.head _)) ?z ?_; (case z => (simp only [List.size_toArray]; omega)); k_whole))) <;> k_steps))
  refine Hold.mk ?_
  rename News _ _ _ _ => N5
  rename Fr _ _ _ _ => F5
  refine kba_turn (value' := PySem.Expr.Name (PySem.Str.ofString "_") ⟨0, 0, 0, 0⟩) (fun _ => rfl) ?_
  refine cutFrom_K (vs := [_, _, _, _, _, _]) (k := ys.toArray.size) F5 N5 ⟨_, (N5 _ (.head _)).1, rfl, _, rfl⟩ (by rw [List.size_toArray]; simp only [List.length_cons, List.length_nil]; omega) (by simp only [List.length_cons, List.length_nil]; omega) ?_
  intro D2 h2 F2 N2 l2
  clear N5 F5
  (rename_i zz0 zz1 zz2; revert zz2 F2 N2 l2; revert zz0 zz1 D2 h2; fail "CLi"; rename_i zz0 zz1 D2 h2 zz2 F2 N2 l2; fail "CLm")
  k_steps
  refine Hold.mk ?_
  refine addL_K (vs := ys) (n := ys.length) F2 N2 (.tail _ (.tail _ (.head _))) (.head _) (by rw [List.length_drop]; simp only [List.length_cons, List.length_nil]; omega) ?_
  intro D3 h3 F3 N3 l3
  clear N2 F2
  (revert F3 N3 l3; revert D3 h3; fail "CLi"; rename_i D3 h3 F3 N3 l3; fail "CLm")
  k_steps
  rename News _ _ _ _ => N7
  refine hret _ _ _ _ (by k_asm) (num_drop N7) ⟨_, _, ks ++ ([0, 1, 5, 9, 145, 16427] : List Int).drop ys.toArray.size, rfl, rfl, hk1.append (IntsAre.drop (.cons _ _ (.cons _ _ (.cons _ _ (.cons _ _ (.cons _ _ (.cons _ _ .nil)))))) _), ?_, ?_, ?_⟩
  ·rw [List.length_append, List.length_drop, List.size_toArray]; simp only [List.length_cons, List.length_nil]; omega
  ·intro k hk
   rcases List.mem_append.mp hk with hk | hk
   ·exact hk3 k hk
   ·have := List.mem_of_mem_drop hk
    simp only [List.mem_cons, List.not_mem_nil, or_false] at this
    omega
  ·exact fun p hp => l3 p (.tail _ (.tail _ (.tail _ (.tail _ hp))))
end Mine
end
section
theorem Mine.clean_A14 : Mine.CleanT := by
 intro M A Q E s h
 w_top off
 first
  | (walk1; fail_if_success skip)
  | exact h
open PySem PySem.W PyProof.Rows
namespace Mine
local macro_rules | `(tactic| walk_at "call builtin:str.split") => `(tactic| (refine Hold.un ?_))
theorem em0_spc (w : World) (want got : PySem.Str) (t t' : Tok) (news : List (Addr × Obj)) (hl : want.length ≤ 1000) (hl' : got.length ≤ 1000) (hc : Txt.contains want (Str.ofString "...") = false) :
  Spc w 45 1 [.str want t, .str got t'] news (RBool news (want == got)) := by
 intro mean mg mb dp un gd cn cs a ccd cl outer A₀ base h₀ L m s Q E B F X N T hk hd hu hret
 refine wpAny_call ?_
 k_dflt cell_enter
 k_steps
 ·exact hret _ _ _ _ (by k_asm) (by k_asm) ⟨rfl, rfl⟩
 ·exfalso
  (unfold Txt.contains at hc; simp_all; done)
end Mine
end
section
open PySem PySem.W PyProof.Rows
namespace Mine
noncomputable def tcnt (ts : List ToldM) (y : PySem.Str) : Int := match tget ts y with | none => 0 | some o => o.2.1
noncomputable def PosM (ts : List ToldM) : Prop := ∀ t ∈ ts, 1 ≤ t.2.1
theorem tget_some {ts : List ToldM} {y : PySem.Str} {o : ToldM} (h : tget ts y = some o) : o ∈ ts ∧ o.1 = y := by
 unfold tget at h
 exact ⟨List.mem_of_find?_eq_some h, by simpa using List.find?_some h⟩
theorem tget_none {ts : List ToldM} {y : PySem.Str} (h : tget ts y = none) : ∀ t ∈ ts, t.1 ≠ y := by
 unfold tget at h
 intro t ht e
 have := List.find?_eq_none.mp h t ht
 simp [e] at this
theorem tget_app (ts us : List ToldM) (y : PySem.Str) : tget (ts ++ us) y = (tget ts y).or (tget us y) := by
 unfold tget; rw [List.find?_append]
theorem tget_one (t : ToldM) (y : PySem.Str) : tget [t] y = if t.1 = y then some t else none := by
 unfold tget
 by_cases h : t.1 = y
 ·rw [if_pos h]; simp [h]
 ·rw [if_neg h]; simp [h]
theorem tget_del (ts : List ToldM) (x y : PySem.Str) : tget (tdel ts x) y = if x = y then none else tget ts y := by
 unfold tget tdel
 induction ts with
 | nil => simp
 | cons t ts ih =>
  rw [List.filter_cons]
  by_cases hx : t.1 = x
  ·have e : (t.1 != x) = false := by simp [hx]
   rw [if_neg (by rw [e]; decide), ih]
   by_cases hy : x = y
   ·rw [if_pos hy, if_pos hy]
   ·rw [if_neg hy, if_neg hy, List.find?_cons]
    have e2 : (t.1 == y) = false := by rw [hx]; simp [hy]
    rw [e2]
  ·have e : (t.1 != x) = true := by simp [hx]
   rw [if_pos e, List.find?_cons]
   by_cases h1 : t.1 = y
   ·have e2 : (t.1 == y) = true := by simp [h1]
    have hn : ¬ x = y := fun q => hx (h1.trans q.symm)
    rw [e2, if_neg hn, List.find?_cons, e2]
   ·have e2 : (t.1 == y) = false := by simp [h1]
    rw [e2, ih, List.find?_cons, e2]
theorem tcnt_nonneg {ts : List ToldM} (h : PosM ts) (y : PySem.Str) : 0 ≤ tcnt ts y := by
 unfold tcnt
 split
 ·exact Int.le_refl _
 ·rename_i o e
  have := h o (tget_some e).1
  exact lin [] [_] [(7,.n 1,.v 0)] (7,.n 0,.v 0) [1,1] [] rfl this
theorem tcnt_evH {ts : List ToldM} (hp : PosM ts) (t : ToldM) (ht : 1 ≤ t.2.1) (y : PySem.Str) : tcnt (evH ts t) y = if t.1 = y then max (tcnt ts y) t.2.1 else tcnt ts y := by
 unfold evH
 cases e : tget ts t.1 with
 | none =>
  dsimp only
  unfold tcnt
  rw [tget_app, tget_one]
  by_cases h : t.1 = y
  ·rw [← h, e]
   simp only [if_true, Option.none_or]
   exact lin [] [_,_] [(8,.v 0,.v 1)] (8,.v 1,.v 0) [1,-1] [1,1] rfl (Int.max_eq_right (by exact lin [] [_] [(7,.n 1,.v 0)] (7,.n 0,.v 0) [1,1] [] rfl ht))
  ·rw [if_neg h, if_neg h, Option.or_none]
 | some o =>
  dsimp only
  by_cases hc : o.2.1 < t.2.1
  ·rw [if_pos hc]
   unfold tcnt
   rw [tget_app, tget_del, tget_one]
   by_cases h : t.1 = y
   ·rw [if_pos h, if_pos h, if_pos h, ← h, e]
    simp only [Option.none_or]
    exact lin [] [_,_] [(8,.v 0,.v 1)] (8,.v 1,.v 0) [1,-1] [1,1] rfl (Int.max_eq_right (by exact lin [] [_,_] [(6,.v 0,.v 1)] (7,.v 0,.v 1) [1,1] [] rfl hc))
   ·rw [if_neg h, if_neg h, if_neg h, Option.or_none]
  ·rw [if_neg hc]
   by_cases h : t.1 = y
   ·rw [if_pos h]
    unfold tcnt
    rw [← h, e]
    dsimp only
    exact lin [] [_,_] [(8,.v 0,.v 1)] (8,.v 1,.v 0) [1,-1] [1,1] rfl (Int.max_eq_left (by exact lin [] [_,_] [(9,.v 0,.v 1)] (7,.v 1,.v 0) [1,1] [] rfl hc))
   ·rw [if_neg h]
theorem pos_evH {ts : List ToldM} (hp : PosM ts) (t : ToldM) (ht : 1 ≤ t.2.1) : PosM (evH ts t) := by
 unfold evH
 have one : ∀ l : List ToldM, (∀ z ∈ l, z ∈ ts) → PosM (l ++ [t]) := fun l hl z hz => by
  rcases List.mem_append.mp hz with hz | hz
  ·exact hp z (hl z hz)
  ·rw [List.mem_singleton.mp hz]; exact ht
 split
 ·exact one ts fun _ h => h
 ·split
  ·exact one _ fun z hz => (List.mem_filter.mp hz).1
  ·exact hp
noncomputable def Distinct (ts : List ToldM) : Prop := ts.Pairwise fun a b => a.1 ≠ b.1
theorem tcnt_fold : ∀ (heard : List ToldM) {ts : List ToldM}, PosM ts → PosM heard → Distinct heard → ∀ y, tcnt (heard.foldl evH ts) y = max (tcnt ts y) (tcnt heard y)
 | [], ts, hp, _, _, y => by
  have := tcnt_nonneg hp y
  show tcnt ts y = max (tcnt ts y) 0
  exact lin [] [_,_] [(8,.v 0,.v 1)] (8,.v 1,.v 0) [1,-1] [1,1] rfl (Int.max_eq_left (by exact lin [] [_] [(7,.n 0,.v 0)] (7,.n 0,.v 0) [1,1] [] rfl this))
 | t :: r, ts, hp, hq, hd, y => by
  have ht : 1 ≤ t.2.1 := hq t (.head _)
  have hr : PosM r := fun z hz => hq z (.tail _ hz)
  obtain ⟨d1, d2⟩ := List.pairwise_cons.mp hd
  rw [List.foldl_cons, tcnt_fold r (pos_evH hp t ht) hr d2 y, tcnt_evH hp t ht y]
  have hn := tcnt_nonneg hp y
  by_cases h : t.1 = y
  ·have q : (t.1 == y) = true := by simp [h]
   have e1 : tcnt (t :: r) y = t.2.1 := by unfold tcnt tget; rw [List.find?_cons, q]
   have e2 : tcnt r y = 0 := by
    unfold tcnt
    cases e : tget r y with
    | none => rfl
    | some o => obtain ⟨a, b⟩ := tget_some e; exact absurd (h.trans b.symm) (d1 o a)
   rw [if_pos h, e1, e2]; omega
  ·have q : (t.1 == y) = false := by simp [h]
   have e1 : tcnt (t :: r) y = tcnt r y := by unfold tcnt tget; rw [List.find?_cons, q]
   rw [if_neg h, e1]
theorem tcnt_own (ts : List ToldM) (x y : PySem.Str) (d : Int) : tcnt (evOwn ts x d) y = if x = y then tcnt ts x + 1 else tcnt ts y := by
 unfold evOwn
 unfold tcnt
 rw [tget_app, tget_del, tget_one]
 by_cases h : x = y
 ·rw [if_pos h, if_pos h, if_pos h]
  simp only [Option.none_or]
  unfold ownCount
  cases tget ts x <;> rfl
 ·rw [if_neg h, if_neg h, if_neg h, Option.or_none]
end Mine
end
section
open PySem PySem.W PyProof.Rows
namespace Mine
structure Fit (B : Int) (ts : List ToldM) : Prop where
 dist : Distinct ts
 pos : PosM ts
 top : ∀ t ∈ ts, t.2.1 ≤ B
 ok : ∀ t ∈ ts, HearOk t
theorem Fit.nil (B : Int) : Fit B [] := ⟨List.Pairwise.nil, fun _ h => (nomatch h), fun _ h => (nomatch h), fun _ h => (nomatch h)⟩
theorem Fit.up {B B' : Int} (h : B ≤ B') {ts : List ToldM} (x : Fit B ts) : Fit B' ts := ⟨x.dist, x.pos, fun t ht => Int.le_trans (x.top t ht) h, x.ok⟩
theorem Fit.snoc {B : Int} {ts : List ToldM} (x : Fit B ts) {t : ToldM} (hn : ∀ z ∈ ts, z.1 ≠ t.1) (h1 : 1 ≤ t.2.1) (h2 : t.2.1 ≤ B) (h3 : HearOk t) : Fit B (ts ++ [t]) := by
 refine ⟨List.pairwise_append.mpr ⟨x.dist, List.pairwise_singleton _ _, fun a ha b hb => by rw [List.mem_singleton.mp hb]; exact hn a ha⟩, ?_, ?_, ?_⟩ <;> intro z hz <;>
  rcases List.mem_append.mp hz with hz | hz
 ·exact x.pos z hz
 ·rw [List.mem_singleton.mp hz]; exact h1
 ·exact x.top z hz
 ·rw [List.mem_singleton.mp hz]; exact h2
 ·exact x.ok z hz
 ·rw [List.mem_singleton.mp hz]; exact h3
theorem Fit.del {B : Int} {ts : List ToldM} (x : Fit B ts) (y : PySem.Str) : Fit B (tdel ts y) ∧ ∀ z ∈ tdel ts y, z.1 ≠ y := by
 unfold tdel
 refine ⟨⟨x.dist.sublist List.filter_sublist, fun t ht => x.pos t (List.mem_filter.mp ht).1, fun t ht => x.top t (List.mem_filter.mp ht).1, fun t ht => x.ok t (List.mem_filter.mp ht).1⟩, fun z hz => ?_⟩
 have := (List.mem_filter.mp hz).2
 simpa using this
theorem Fit.evH {B : Int} {ts : List ToldM} (x : Fit B ts) {t : ToldM} (h1 : 1 ≤ t.2.1) (h2 : t.2.1 ≤ B) (h3 : HearOk t) : Fit B (Mine.evH ts t) := by
 unfold Mine.evH
 split
 ·rename_i e
  exact x.snoc (tget_none e) h1 h2 h3
 ·split
  ·exact (x.del t.1).1.snoc (x.del t.1).2 h1 h2 h3
  ·exact x
theorem Fit.fold {B : Int} : ∀ (heard : List ToldM) {ts : List ToldM}, Fit B ts → Fit B heard → Fit B (heard.foldl Mine.evH ts)
 | [], _, x, _ => x
 | t :: r, ts, x, y => by
  rw [List.foldl_cons]
  exact Fit.fold r (x.evH (y.pos t (.head _)) (y.top t (.head _)) (y.ok t (.head _))) ⟨(List.pairwise_cons.mp y.dist).2, fun z hz => y.pos z (.tail _ hz), fun z hz => y.top z (.tail _ hz), fun z hz => y.ok z (.tail _ hz)⟩
theorem ownCount_le {B : Int} (hB : 0 ≤ B) {ts : List ToldM} (x : Fit B ts) (y : PySem.Str) : 1 ≤ ownCount ts y ∧ ownCount ts y ≤ B + 1 := by
 unfold ownCount
 split
 ·exact ⟨lin [] [] [] (7,.n 1,.n 1) [1] [] rfl , lin [] [_] [(7,.n 0,.v 0)] (7,.n 1,.a (.v 0) (.n 1)) [1,1] [] rfl hB⟩
 ·rename_i o e
  have h := (tget_some e).1
  have h1 := x.pos o h
  have h2 := x.top o h
  exact ⟨lin [] [_] [(7,.n 1,.v 0)] (7,.n 1,.a (.v 0) (.n 1)) [1,1] [] rfl h1, lin [] [_,_] [(7,.v 0,.v 1)] (7,.a (.v 0) (.n 1),.a (.v 1) (.n 1)) [1,1] [] rfl h2⟩
theorem Fit.event {B : Int} (hB : 0 ≤ B) (hB6 : B ≤ 6) {ts heard : List ToldM} (x : Fit B ts) (y : Fit B heard) {h : PySem.Str} (hh : Ltr h) (d : Int) : Fit (B + 1) (Mine.event ts heard h d) := by
 unfold Mine.event evOwn
 have f := x.fold heard y
 refine an2 (ownCount_le hB f h) fun c1 c2 => ?_
 refine an2 (reply_ok (c := ownCount (heard.foldl Mine.evH ts) h) (d := d) c1 (by exact lin [] [_,_] [(7,.v 0,.n 6),(7,.v 1,.a (.v 0) (.n 1))] (7,.v 1,.n 7) [1,1,1] [] rfl hB6 c2)) fun r1 r2 => ?_
 exact ((f.up (by (exact lin [] [_] [] (7,.v 0,.a (.v 0) (.n 1)) [1] [] rfl) : B ≤ B + 1)).del h).1.snoc ((f.up (by (exact lin [] [_] [] (7,.v 0,.a (.v 0) (.n 1)) [1] [] rfl) : B ≤ B + 1)).del h).2 c1 c2 ⟨hh, r1, r2⟩
theorem event_last (ts heard : List ToldM) (h : PySem.Str) (d : Int) : ∃ l n r, event ts heard h d = l ++ [(h, n, r)] := ⟨_, _, _, rfl⟩
theorem Fit.len {B : Int} {ts : List ToldM} (x : Fit B ts) : ts.length ≤ 3 := by
 have key : ∀ l : List PySem.Str, l.Nodup → (∀ h ∈ l, Ltr h) → l.length ≤ 3 := by
  intro l hn hl
  have hs : l ⊆ [Str.ofString "a", Str.ofString "b", Str.ofString "c"] := fun h hm => by
   rcases hl h hm with rfl | rfl | rfl <;> simp
  exact (hn.length_le_of_subset hs)
 have e : ts.length = (ts.map (·.1)).length := (List.length_map ..).symm
 rw [e]
 refine key _ ?_ fun h hm => ?_
 ·exact List.pairwise_map.mpr x.dist
 ·refine ex1 (List.mem_map.mp hm) fun t h9_110 => an2 h9_110 fun ht eq9_109 => ?_
  clear h9_110
  subst eq9_109
  exact (x.ok t ht).1
theorem tcnt_event {B : Int} {ts heard : List ToldM} (x : Fit B ts) (y : Fit B heard) (h z : PySem.Str) (d : Int) :
  tcnt (event ts heard h d) z = if h = z then max (tcnt ts h) (tcnt heard h) + 1 else max (tcnt ts z) (tcnt heard z) := by
 unfold event
 rw [tcnt_own, tcnt_fold heard x.pos y.pos y.dist, tcnt_fold heard x.pos y.pos y.dist]
end Mine
end
section
namespace Mine
structure Past {α : Type} (H : Nat → α) (src : Nat → Option Nat) (P : Nat → Nat → Prop) : Prop where
 step : ∀ i k, P i k ↔ i = k ∨ (i < k ∧ ∃ j, j < k ∧ (H j = H k ∨ src k = some j) ∧ P i j)
variable {α : Type} [DecidableEq α] {H : Nat → α} {src : Nat → Option Nat} {P : Nat → Nat → Prop}
theorem Past.refl (x : Past H src P) (k : Nat) : P k k := (x.step k k).mpr (.inl rfl)
theorem Past.le (x : Past H src P) {i k : Nat} (h : P i k) : i ≤ k := by
 rcases (x.step i k).mp h with rfl | h
 ·exact Nat.le_refl _
 ·exact Nat.le_of_lt h.1
theorem Past.trans (x : Past H src P) : ∀ k i j, P i j → P j k → P i k := by
 intro k
 induction k using Nat.strongRecOn with
 | ind k ih =>
  intro i j hij hjk
  rcases (x.step j k).mp hjk with rfl | hR9_102
  ·exact hij
  ·refine an2 hR9_102 fun h1 h9_105 => ex1 h9_105 fun j' h9_106 => an3 h9_106 fun h2 h3 h4 => ?_
   clear h9_106 h9_105
   try clear hR9_102
   exact (x.step i k).mpr (.inr ⟨Nat.lt_of_le_of_lt (x.le hij) h1, j', h2, h3, ih j' h2 i j hij h4⟩)
theorem Past.pre (x : Past H src P) : ∀ k i i', P i k → i' < i → H i' = H i → P i' k := by
 intro k
 induction k using Nat.strongRecOn with
 | ind k ih =>
  intro i i' hik hlt hH
  rcases (x.step i k).mp hik with rfl | hR9_103
  ·exact (x.step i' i).mpr (.inr ⟨hlt, i', hlt, .inl hH, x.refl i'⟩)
  ·refine an2 hR9_103 fun h1 h9_107 => ex1 h9_107 fun j' h9_108 => an3 h9_108 fun h2 h3 h4 => ?_
   clear h9_108 h9_107
   try clear hR9_103
   exact (x.step i' k).mpr (.inr ⟨Nat.lt_trans hlt h1, j', h2, h3, ih j' h2 i i' h4 hlt hH⟩)
noncomputable def cntA {α : Type} [DecidableEq α] (H : Nat → α) (A : Nat → Bool) (y : α) : Nat → Nat
 | 0 => 0
 | n + 1 => cntA H A y n + (if H n = y ∧ A n = true then 1 else 0)
noncomputable def rank {α : Type} [DecidableEq α] (H : Nat → α) (i : Nat) : Nat := cntA H (fun _ => true) (H i) i
theorem cntA_le {A : Nat → Bool} {y : α} : ∀ n, cntA H A y n ≤ cntA H (fun _ => true) y n
 | 0 => Nat.le_refl _
 | n + 1 => by
  have := cntA_le (A := A) (y := y) n
  unfold cntA
  by_cases h : H n = y
  ·by_cases a : A n = true
   ·rw [if_pos ⟨h, a⟩, if_pos ⟨h, rfl⟩]; exact lin [_,_] [] [(1,.v 0,.v 1)] (1,.a (.v 0) (.n 1),.a (.v 1) (.n 1)) [1,1] [] rfl this
   ·rw [if_neg (fun q => a q.2), if_pos ⟨h, rfl⟩]; exact lin [_,_] [] [(1,.v 0,.v 1)] (1,.a (.v 0) (.n 0),.a (.v 1) (.n 1)) [1,1] [] rfl this
  ·rw [if_neg (fun q => h q.1), if_neg (fun q => h q.1)]; exact lin [_,_] [] [(1,.v 0,.v 1)] (1,.a (.v 0) (.n 0),.a (.v 1) (.n 0)) [1,1] [] rfl this
theorem cntA_mono {A : Nat → Bool} {y : α} {m : Nat} : ∀ n, m ≤ n → cntA H A y m ≤ cntA H A y n
 | 0, h => by rw [Nat.le_zero.mp h]; exact Nat.le_refl _
 | n + 1, h => by
  rcases Nat.lt_or_eq_of_le h with h | rfl
  ·have := cntA_mono (A := A) (y := y) n (Nat.le_of_lt_succ h)
   show _ ≤ cntA H A y n + _
   exact lin [_,_,_] [] [(1,.v 0,.v 1)] (1,.v 0,.a (.v 1) (.v 2)) [1,1] [] rfl this
  ·exact Nat.le_refl _
theorem first_part {A : Nat → Bool} {y : α} (hA : ∀ i i', A i = true → i' < i → H i' = H i → A i' = true) : ∀ n i, i < n → H i = y → (A i = true ↔ rank H i < cntA H A y n)
 | 0, i, h, _ => absurd h (Nat.not_lt_zero _)
 | n + 1, i, h, hy => by
  have full : ∀ m, m ≤ n → (∀ i', i' < m → H i' = y → A i' = true) → cntA H A y m = cntA H (fun _ => true) y m := by
   intro m
   induction m with
   | zero => intro _ _; rfl
   | succ m ih =>
    intro hm hall
    have e := ih (by exact lin [_,_] [] [(1,.a (.v 0) (.n 1),.v 1)] (1,.v 0,.v 1) [1,1] [] rfl hm) fun i' hi' => hall i' (by exact lin [_,_] [] [(0,.v 0,.v 1)] (0,.v 0,.a (.v 1) (.n 1)) [1,1] [] rfl hi')
    unfold cntA
    rw [e]
    by_cases q : H m = y
    ·rw [if_pos ⟨q, hall m (Nat.lt_succ_self _) q⟩, if_pos ⟨q, rfl⟩]
    ·rw [if_neg (fun z => q z.1), if_neg (fun z => q z.1)]
  rcases Nat.lt_or_eq_of_le (Nat.le_of_lt_succ h) with hi | rfl
  ·have ih := first_part hA n i hi hy
   unfold cntA
   by_cases q : H n = y ∧ A n = true
   ·rw [if_pos q]
    have ha : A i = true := hA n i q.2 hi (by rw [hy, q.1])
    exact ⟨fun z => by have := ih.mp z; exact lin [_,_] [] [(0,.v 0,.v 1)] (0,.v 0,.a (.v 1) (.n 1)) [1,1] [] rfl this, fun _ => ha⟩
   ·rw [if_neg q]; exact ih
  ·unfold cntA rank
   rw [hy]
   by_cases a : A i = true
   ·rw [if_pos ⟨rfl, a⟩]
    have e := full i (Nat.le_refl _) fun i' hi' hy' => hA i i' a hi' (by rw [hy', hy])
    rw [e]
    exact ⟨fun _ => by exact lin [_] [] [] (0,.v 0,.a (.v 0) (.n 1)) [1] [] rfl, fun _ => a⟩
   ·rw [if_neg (fun q => a q.2)]
    have := cntA_le (H := H) (A := A) (y := y) i
    exact ⟨fun z => absurd z a, fun z => by exact False.elim (lin [_,_] [] [(1,.v 0,.v 1),(0,.v 1,.a (.v 0) (.n 0))] (12,.n 0,.n 0) [0,1,1] [] rfl this z)⟩
theorem cnt_union {A B : Nat → Bool} {y : α} {n : Nat} (hA : ∀ i i', A i = true → i' < i → H i' = H i → A i' = true) (hB : ∀ i i', B i = true → i' < i → H i' = H i → B i' = true) :
  cntA H (fun i => A i || B i) y n = max (cntA H A y n) (cntA H B y n) := by
 have cong : ∀ (C D : Nat → Bool) m, (∀ i, i < m → H i = y → C i = D i) → cntA H C y m = cntA H D y m := by
  intro C D m
  induction m with
  | zero => intro _; rfl
  | succ m ih =>
   intro h
   unfold cntA
   rw [ih fun i hi => h i (by exact lin [_,_] [] [(0,.v 0,.v 1)] (0,.v 0,.a (.v 1) (.n 1)) [1,1] [] rfl hi)]
   by_cases q : H m = y
   ·rw [h m (Nat.lt_succ_self _) q]
   ·rw [if_neg (fun z => q z.1), if_neg (fun z => q z.1)]
 rcases Nat.le_total (cntA H A y n) (cntA H B y n) with h | h
 ·rw [Nat.max_eq_right h]
  refine cong _ _ n fun i hi hy => ?_
  have a := first_part (y := y) hA n i hi hy
  have b := first_part (y := y) hB n i hi hy
  cases ea : A i with
  | false => rfl
  | true => have := b.mpr (by have := a.mp ea; exact lin [_,_,_] [] [(1,.v 0,.v 1),(0,.v 2,.v 0)] (0,.v 2,.v 1) [1,1,1] [] rfl h this); rw [this]; rfl
 ·rw [Nat.max_eq_left h]
  refine cong _ _ n fun i hi hy => ?_
  have a := first_part (y := y) hA n i hi hy
  have b := first_part (y := y) hB n i hi hy
  cases eb : B i with
  | false => simp
  | true => have := a.mpr (by have := b.mp eb; exact lin [_,_,_] [] [(1,.v 0,.v 1),(0,.v 2,.v 0)] (0,.v 2,.v 1) [1,1,1] [] rfl h this); rw [this]; rfl
theorem cntA_cong {C D : Nat → Bool} {y : α} : ∀ m, (∀ i, i < m → H i = y → C i = D i) → cntA H C y m = cntA H D y m
 | 0, _ => rfl
 | m + 1, h => by
  unfold cntA
  rw [cntA_cong m fun i hi => h i (Nat.lt_succ_of_lt hi)]
  by_cases q : H m = y
  ·rw [h m (Nat.lt_succ_self _) q]
  ·rw [if_neg (fun z => q z.1), if_neg (fun z => q z.1)]
theorem cntA_stop {A : Nat → Bool} {y : α} {m : Nat} (h : ∀ i, m ≤ i → A i = false) : ∀ n, m ≤ n → cntA H A y n = cntA H A y m
 | 0, hn => by rw [Nat.le_zero.mp hn]
 | n + 1, hn => by
  rcases Nat.lt_or_eq_of_le hn with hn | rfl
  ·show cntA H A y n + _ = _
   rw [cntA_stop h n (Nat.le_of_lt_succ hn), if_neg (fun z => by have := h n (Nat.le_of_lt_succ hn); rw [this] at z; cases z.2), Nat.add_zero]
  ·rfl
theorem cntA_false {y : α} : ∀ n, cntA H (fun _ => false) y n = 0
 | 0 => rfl
 | n + 1 => by show cntA H _ y n + _ = 0; rw [cntA_false n]; simp
end Mine
end
section
open PySem PySem.W PyProof.Rows
namespace Mine
noncomputable def lastOf (H : Nat → PySem.Str) (x : PySem.Str) : Nat → Option Nat
 | 0 => none
 | k + 1 => if H k = x then some k else lastOf H x k
theorem lastOf_some {H : Nat → PySem.Str} {x : PySem.Str} : ∀ {k j : Nat}, lastOf H x k = some j → j < k ∧ H j = x ∧ ∀ i, i < k → H i = x → i ≤ j
 | 0, _, h => by cases h
 | k + 1, j, h => by
  unfold lastOf at h
  by_cases q : H k = x
  ·rw [if_pos q] at h
   cases h
   exact ⟨Nat.lt_succ_self _, q, fun i hi _ => Nat.le_of_lt_succ hi⟩
  ·rw [if_neg q] at h
   refine an3 (lastOf_some h) fun a b c => ?_
   refine ⟨Nat.lt_succ_of_lt a, b, fun i hi hx => ?_⟩
   rcases Nat.lt_or_eq_of_le (Nat.le_of_lt_succ hi) with h | rfl
   ·exact c i h hx
   ·exact absurd hx q
theorem lastOf_none {H : Nat → PySem.Str} {x : PySem.Str} : ∀ {k : Nat}, lastOf H x k = none → ∀ i, i < k → H i ≠ x
 | 0, _, i, hi => absurd hi (Nat.not_lt_zero _)
 | k + 1, h, i, hi => by
  unfold lastOf at h
  by_cases q : H k = x
  ·rw [if_pos q] at h; cases h
  ·rw [if_neg q] at h
   rcases Nat.lt_or_eq_of_le (Nat.le_of_lt_succ hi) with h' | rfl
   ·exact lastOf_none h i h'
   ·exact q
noncomputable def tAt (T : Nat → List ToldM) : Option Nat → List ToldM
 | none => []
 | some j => T j
structure RunOf (n : Nat) (H : Nat → PySem.Str) (src : Nat → Option Nat) (P : Nat → Nat → Bool) (T : Nat → List ToldM) : Prop where
 past : Past H src (fun i k => P i k = true)
 srclt : ∀ k s, src k = some s → s < k
 ltr : ∀ k, k < n → Ltr (H k)
 ev : ∀ k, k < n → ∃ d, T k = event (tAt T (lastOf H (H k) k)) (tAt T (src k)) (H k) d
variable {n : Nat} {H : Nat → PySem.Str} {src : Nat → Option Nat} {P : Nat → Nat → Bool} {T : Nat → List ToldM}
theorem RunOf.fit (r : RunOf n H src P T) (hn : n ≤ 6) : ∀ k, k < n → Fit ((k : Int) + 1) (T k) := by
 intro k
 induction k using Nat.strongRecOn with
 | ind k ih =>
  intro hk
  refine ex1 (r.ev k hk) fun d e => ?_
  have f1 : Fit (k : Int) (tAt T (lastOf H (H k) k)) := by
   cases q : lastOf H (H k) k with
   | none => exact Fit.nil _
   | some j =>
    have hj := (lastOf_some q).1
    exact (ih j hj (by exact lin [_,_,_] [] [(0,.v 0,.v 1),(0,.v 2,.v 0)] (0,.v 2,.v 1) [1,1,1] [] rfl hk hj)).up (by exact lin [_,_] [] [(0,.v 0,.v 1)] (7,.a (.c (.v 0)) (.n 1),.c (.v 1)) [1,1] [] rfl hj)
  have f2 : Fit (k : Int) (tAt T (src k)) := by
   cases q : src k with
   | none => exact Fit.nil _
   | some j =>
    have hj := r.srclt k j q
    exact (ih j hj (by exact lin [_,_,_] [] [(0,.v 0,.v 1),(0,.v 2,.v 0)] (0,.v 2,.v 1) [1,1,1] [] rfl hk hj)).up (by exact lin [_,_] [] [(0,.v 0,.v 1)] (7,.a (.c (.v 0)) (.n 1),.c (.v 1)) [1,1] [] rfl hj)
  rw [e]
  exact f1.event (by exact lin [_] [] [] (7,.n 0,.c (.v 0)) [1] [] rfl) (by exact lin [_,_] [] [(1,.v 0,.n 6),(0,.v 1,.v 0)] (7,.c (.v 1),.n 6) [1,1,1] [] rfl hn hk) f2 (r.ltr k hk) d
theorem RunOf.count (r : RunOf n H src P T) (hn : n ≤ 6) : ∀ k, k < n → ∀ y, tcnt (T k) y = (cntA H (fun i => P i k) y (k + 1) : Nat) := by
 have p := r.past
 intro k
 induction k using Nat.strongRecOn with
 | ind k ih =>
  intro hk y
  refine ex1 (r.ev k hk) fun d e => ?_
  have fits : ∀ o : Option Nat, (∀ j, o = some j → j < k) → Fit (k : Int) (tAt T o) := fun o ho => by
   cases o with
   | none => exact Fit.nil _
   | some j => have hj := ho j rfl; exact (r.fit hn j (by exact lin [_,_,_] [] [(0,.v 0,.v 1),(0,.v 2,.v 0)] (0,.v 2,.v 1) [1,1,1] [] rfl hk hj)).up (by exact lin [_,_] [] [(0,.v 0,.v 1)] (7,.a (.c (.v 0)) (.n 1),.c (.v 1)) [1,1] [] rfl hj)
  have hl : ∀ j, lastOf H (H k) k = some j → j < k := fun j q => (lastOf_some q).1
  have hs : ∀ j, src k = some j → j < k := fun j q => r.srclt k j q
  let A (o : Option Nat) : Nat → Bool := fun i => match o with | none => false | some j => P i j
  have cA : ∀ (o : Option Nat), (∀ j, o = some j → j < k) → ∀ z, tcnt (tAt T o) z = (cntA H (A o) z k : Nat) := fun o ho z => by
   cases o with
   | none => show (0 : Int) = _; rw [show cntA H (A none) z k = 0 from cntA_false k]; rfl
   | some j =>
    have hj := ho j rfl
    show tcnt (T j) z = _
    rw [ih j hj (by exact lin [_,_,_] [] [(0,.v 0,.v 1),(0,.v 2,.v 0)] (0,.v 2,.v 1) [1,1,1] [] rfl hk hj) z]
    congr 1
    symm
    refine cntA_stop (fun i hi => ?_) k (by exact lin [_,_] [] [(0,.v 0,.v 1)] (1,.a (.v 0) (.n 1),.v 1) [1,1] [] rfl hj)
    cases q : A (some j) i with
    | false => rfl
    | true => have := p.le (show P i j = true from q); omega
  have pA : ∀ o : Option Nat, ∀ i i', A o i = true → i' < i → H i' = H i → A o i' = true := fun o i i' h1 h2 h3 => by
   cases o with
   | none => cases h1
   | some j => exact p.pre j i i' h1 h2 h3
  have eq : ∀ i, i < k → P i k = (A (lastOf H (H k) k) i || A (src k) i) := fun i hi => by
   rw [Bool.eq_iff_iff, Bool.or_eq_true]
   constructor
   ·intro h
    rcases (p.step i k).mp h with rfl | hR9_104
    ·exact False.elim (lin [_] [] [(0,.v 0,.v 0)] (12,.n 0,.n 0) [0,1] [] rfl hi)
    ·refine an2 hR9_104 fun _ h9_113 => ex1 h9_113 fun j h9_114 => an3 h9_114 fun h1 h2 h3 => ?_
     clear h9_114 h9_113
     try clear hR9_104
     rcases h2 with h2 | h2
     ·left
      cases q : lastOf H (H k) k with
      | none => exact absurd h2 (lastOf_none q j h1)
      | some l =>
       refine an3 (lastOf_some q) fun a b c => ?_
       show P i l = true
       have hjl := c j h1 h2
       rcases Nat.lt_or_eq_of_le hjl with h | rfl
       ·exact p.trans l i j h3 (p.pre l l j (p.refl l) h (by rw [h2, b]))
       ·exact h3
     ·right
      rw [h2]
      exact h3
   ·rintro (h | h)
    ·cases q : lastOf H (H k) k with
     | none => rw [q] at h; cases h
     | some l =>
      rw [q] at h
      refine an3 (lastOf_some q) fun a b c => ?_
      exact (p.step i k).mpr (.inr ⟨hi, l, a, .inl b, h⟩)
    ·cases q : src k with
     | none => rw [q] at h; cases h
     | some l =>
      rw [q] at h
      exact (p.step i k).mpr (.inr ⟨hi, l, hs l q, .inr q, h⟩)
  have key : ∀ z, cntA H (fun i => P i k) z k = max (cntA H (A (lastOf H (H k) k)) z k) (cntA H (A (src k)) z k) := fun z => by
   rw [cntA_cong (D := fun i => A (lastOf H (H k) k) i || A (src k) i) k fun i hi _ => eq i hi]
   exact cnt_union (pA _) (pA _)
  have hkk : P k k = true := p.refl k
  rw [e, tcnt_event (fits _ hl) (fits _ hs)]
  show _ = ((cntA H (fun i => P i k) y k + (if H k = y ∧ P k k = true then 1 else 0) : Nat) : Int)
  rw [key y]
  by_cases q : H k = y
  ·rw [if_pos q, if_pos ⟨q, hkk⟩, cA _ hl, cA _ hs, q]
   omega
  ·rw [if_neg q, if_neg (fun z => q z.1), cA _ hl, cA _ hs]
   omega
theorem RunOf.known (r : RunOf n H src P T) (hn : n ≤ 6) {i k : Nat} (hi : i < n) (hk : k < n) : P i k = true ↔ tcnt (T i) (H i) ≤ tcnt (T k) (H i) := by
 have p := r.past
 have up : ∀ m, m < n → cntA H (fun j => P j m) (H i) n = cntA H (fun j => P j m) (H i) (m + 1) := fun m hm =>
  cntA_stop (fun j hj => by
   cases q : P j m with
   | false => rfl
   | true => have := p.le (show P j m = true from q); omega) n (by exact lin [_,_] [] [(0,.v 0,.v 1)] (1,.a (.v 0) (.n 1),.v 1) [1,1] [] rfl hm)
 have f1 := first_part (H := H) (A := fun j => P j k) (y := H i) (fun a b h1 h2 h3 => p.pre k a b h1 h2 h3) n i hi rfl
 have e1 : cntA H (fun j => P j i) (H i) (i + 1) = rank H i + 1 := by
  show cntA H (fun j => P j i) (H i) i + (if H i = H i ∧ P i i = true then 1 else 0) = _
  rw [if_pos ⟨rfl, p.refl i⟩, cntA_cong (D := fun _ => true) i fun j hj hy => p.pre i i j (p.refl i) hj hy]
  rfl
 rw [r.count hn i hi, r.count hn k hk, e1, ← up k hk]
 rw [show (P i k = true) = ((fun j => P j k) i = true) from rfl, f1]
 exact ⟨fun q0 => lin [_,_] [] [(0,.v 0,.v 1)] (7,.c (.a (.v 0) (.n 1)),.c (.v 1)) [1,1] [] rfl q0, fun q0 => lin [_,_] [] [(7,.c (.a (.v 0) (.n 1)),.c (.v 1))] (0,.v 0,.v 1) [1,1] [] rfl q0⟩
theorem RunOf.known_all (r : RunOf n H src P T) (hn : n ≤ 6) {i k : Nat} (hi : i < n) (hk : k < n) : P i k = true ↔ ∀ y, tcnt (T i) y ≤ tcnt (T k) y := by
 have p := r.past
 refine ⟨fun h y => ?_, fun h => (r.known hn hi hk).mpr (h _)⟩
 rw [r.count hn i hi, r.count hn k hk]
 have hik := p.le (show P i k = true from h)
 have mono : ∀ m, cntA H (fun j => P j i) y m ≤ cntA H (fun j => P j k) y m := by
  intro m
  induction m with
  | zero => exact Nat.le_refl _
  | succ m ih =>
   show cntA H (fun j => P j i) y m + _ ≤ cntA H (fun j => P j k) y m + _
   by_cases q : H m = y ∧ P m i = true
   ·rw [if_pos q, if_pos ⟨q.1, p.trans k m i q.2 h⟩]; exact lin [_,_] [] [(1,.v 0,.v 1)] (1,.a (.v 0) (.n 1),.a (.v 1) (.n 1)) [1,1] [] rfl ih
   ·rw [if_neg q]; exact lin [_,_,_] [] [(1,.v 0,.v 1)] (1,.a (.v 0) (.n 0),.a (.v 1) (.v 2)) [1,1] [] rfl ih
 have h1 := mono (i + 1)
 have h2 := cntA_mono (H := H) (A := fun j => P j k) (y := y) (m := i + 1) (k + 1) (by exact lin [_,_] [] [(1,.v 0,.v 1)] (1,.a (.v 0) (.n 1),.a (.v 1) (.n 1)) [1,1] [] rfl hik)
 exact lin [_,_,_] [] [(1,.v 0,.v 1),(1,.v 1,.v 2)] (7,.c (.v 0),.c (.v 2)) [1,1,1] [] rfl h1 h2
end Mine
end
section
open PySem PySem.W PySem.Spec PySem.Calls PyProof.Rows PySem.Builtin PySem.Builtin.Str
namespace Mine
open StrLaws
noncomputable def dblM : List Nat → List Nat
 | [] => []
 | c :: r => c :: c :: dblM r
theorem dbl_len : ∀ l, (dblM l).length = 2 * l.length
 | [] => rfl
 | c :: r => by show (dblM r).length + 1 + 1 = 2 * (r.length + 1); rw [dbl_len r]; exact lin [_] [] [] (2,.a (.a (.m 2 (.v 0)) (.n 1)) (.n 1),.m 2 (.a (.v 0) (.n 1))) [1] [1] rfl
theorem dbl_get (l : List Nat) (p : Nat) : (dblM l)[2 * p]? = l[p]? ∧ (dblM l)[2 * p + 1]? = l[p]? := by
 induction l generalizing p with
 | nil => simp [dblM]
 | cons c r ih =>
  cases p with
  | zero => exact ⟨rfl, rfl⟩
  | succ p =>
   rw [show 2 * (p + 1) = 2 * p + 1 + 1 by (exact lin [_] [] [] (2,.m 2 (.a (.v 0) (.n 1)),.a (.a (.m 2 (.v 0)) (.n 1)) (.n 1)) [1] [1] rfl)]
   exact ih p
theorem at_dd {X y : PySem.Str} {g : List Nat} {c hi k : Nat} (hX : cs X = dblM g) (hy : cs y = [c, c]) : At X y hi k ↔ k + 2 ≤ hi ∧ (dblM g)[k]? = some c ∧ (dblM g)[k + 1]? = some c := by
 rw [at_iff, hX, hy]
 show k + 2 ≤ hi ∧ ((dblM g).drop k).take 2 = [c, c] ↔ _
 refine and_congr_right fun _ => ?_
 generalize dblM g = l
 rw [show l[k]? = (l.drop k)[0]? by simp, show l[k + 1]? = (l.drop k)[1]? by simp]
 match l.drop k with
 | [] => simp
 | [a] => simp
 | a :: b :: r => simp
theorem find4_no {X y : PySem.Str} {lo hi : Nat} (hh : hi ≤ X.length) (h : ∀ k, lo ≤ k → ¬ At X y hi k) : find4 X y (lo : Int) (hi : Int) = -1 := by
 unfold find4
 rw [fromIndex_nat, fromIndex_nat, Nat.min_eq_left hh, occ_none_hi (Nat.le_refl 1) h]
theorem find4_at {X y : PySem.Str} {lo hi k : Nat} (hh : hi ≤ X.length) (hk : lo ≤ k) (hA : At X y hi k) (h : ∀ i, lo ≤ i → i < k → ¬ At X y hi i) : find4 X y (lo : Int) (hi : Int) = (k : Int) := by
 unfold find4
 refine ex1 (occ_at_hi (limit := 1) (Nat.le_refl 1) hk hA h) fun r e => ?_
 rw [fromIndex_nat, fromIndex_nat, Nat.min_eq_left hh, e]
theorem find4_skip {X y : PySem.Str} {lo hi : Nat} (hh : hi ≤ X.length) (h0 : ¬ At X y hi lo) (h1 : ¬ At X y hi (lo + 1)) : find4 X y (lo : Int) (hi : Int) = find4 X y ((lo + 2 : Nat) : Int) (hi : Int) := by
 have cases3 : ∀ k, lo ≤ k → k = lo ∨ k = lo + 1 ∨ lo + 2 ≤ k := fun k _ => by exact triN (fun q0 => False.elim (lin [_,_] [] [(1,.v 0,.v 1),(0,.v 1,.v 0)] (12,.n 0,.n 0) [0,1,1] [] rfl (by assumption) q0)) fun q0 => triN (fun q1 => lin [_,_] [] [(0,.v 0,.v 1),(0,.v 1,.a (.v 0) (.n 1))] (1,.a (.v 0) (.n 2),.v 1) [0,1,1] [] rfl q0 q1) fun q1 => lin [_,_] [] [(0,.a (.v 0) (.n 1),.v 1)] (1,.a (.v 0) (.n 2),.v 1) [1,1] [] rfl q1
 rcases occ_head_hi X y (lo + 2) hi 1 (Nat.le_refl 1) with hR9_112 | hR9_111
 ·refine an2 hR9_112 fun _ hn => ?_
  try clear hR9_112
  rw [find4_no hh hn, find4_no hh fun k hk hA => by
   rcases cases3 k hk with rfl | rfl | q
   ·exact h0 hA
   ·exact h1 hA
   ·exact hn k q hA]
 ·refine ex2 hR9_111 fun k r h9_117 => an4 h9_117 fun _ a b c => ?_
  clear h9_117
  try clear hR9_111
  rw [find4_at hh a b c, find4_at hh (by exact lin [_,_] [] [(1,.a (.v 0) (.n 2),.v 1)] (1,.v 0,.v 1) [1,1] [] rfl a) b fun i hi1 hi2 hA => by
   rcases cases3 i hi1 with rfl | rfl | q
   ·exact h0 hA
   ·exact h1 hA
   ·exact c i q hi2 hA]
noncomputable def dd (c : Nat) : PySem.Str := ⟨#[c, c]⟩
theorem scan_sub {X : PySem.Str} {g : List Nat} (hX : cs X = dblM g) {q : Nat} (hq : q ≤ g.length) : ∀ (m p : Nat) (ds : List Nat), p + m = q → (scanTo X ((2 * q : Nat) : Int) (ds.map dd) ((2 * p : Nat) : Int)).isSome = ds.isSublist ((g.take q).drop p) := by
 have hXl : X.length = 2 * g.length := by rw [← cs_len, hX, dbl_len]
 intro m
 induction m with
 | zero =>
  intro p ds hp
  cases ds with
  | nil => simp [scanTo]
  | cons d ds =>
   have e : (g.take q).drop p = [] := by rw [List.drop_eq_nil_iff, List.length_take]; exact lin [_,_,_] [] [(2,.a (.v 0) (.n 0),.v 1),(2,.v 2,.v 1)] (1,.v 2,.v 0) [1,-1,1] [] rfl hp (Nat.min_eq_left (by exact lin [_,_] [] [(1,.v 0,.v 1)] (1,.v 0,.v 1) [1,1] [] rfl hq))
   rw [e]
   show (if find4 X (dd d) _ _ < 0 then none else _).isSome = false
   rw [find4_no (by exact lin [_,_,_] [] [(1,.v 0,.v 1),(2,.v 2,.m 2 (.v 1))] (1,.m 2 (.v 0),.v 2) [1,2,-1] [] rfl hq hXl) fun k hk hA => by have := hA.1; have e2 : (dd d).length = 2 := rfl; exact lin [_,_,_,_] [] [(2,.a (.v 0) (.n 0),.v 1),(1,.m 2 (.v 0),.v 2),(1,.a (.v 2) (.v 3),.m 2 (.v 1)),(2,.v 3,.n 2)] (12,.n 0,.n 0) [0,-2,1,1,-1] [] rfl hp hk this e2]
   rfl
 | succ m ih =>
  intro p ds hp
  have hpl : p < g.length := by exact lin [_,_,_,_] [] [(1,.v 0,.v 1),(2,.a (.v 2) (.a (.v 3) (.n 1)),.v 0)] (0,.v 2,.v 1) [1,1,1] [] rfl hq hp
  have e : (g.take q).drop p = g[p] :: (g.take q).drop (p + 1) := by
   rw [List.drop_eq_getElem_cons (by rw [List.length_take]; exact lin [_,_,_,_] [] [(2,.a (.v 0) (.a (.v 1) (.n 1)),.v 2),(2,.v 3,.v 2)] (0,.v 0,.v 3) [1,1,-1] [] rfl hp (Nat.min_eq_left (by exact lin [_,_] [] [(1,.v 0,.v 1)] (1,.v 0,.v 1) [1,1] [] rfl hq)))]
   simp
  cases ds with
  | nil => simp [scanTo]
  | cons d ds =>
   have hg := dbl_get g p
   rw [List.getElem?_eq_getElem hpl] at hg
   rw [e]
   by_cases h : d = g[p]
   ·have hA : At X (dd d) (2 * q) (2 * p) := (at_dd hX rfl).mpr ⟨by exact lin [_,_,_] [] [(2,.a (.v 0) (.a (.v 1) (.n 1)),.v 2)] (1,.a (.m 2 (.v 0)) (.n 2),.m 2 (.v 2)) [1,2] [] rfl hp, by rw [hg.1, h], by rw [hg.2, h]⟩
    show (if find4 X (dd d) _ _ < 0 then none else scanTo X _ (ds.map dd) (find4 X (dd d) _ _ + (dd d).length)).isSome = _
    rw [find4_at (by exact lin [_,_,_] [] [(1,.v 0,.v 1),(2,.v 2,.m 2 (.v 1))] (1,.m 2 (.v 0),.v 2) [1,2,-1] [] rfl hq hXl) (Nat.le_refl _) hA fun i h1 h2 => by (exact False.elim (lin [_,_] [] [(1,.m 2 (.v 0),.v 1),(0,.v 1,.m 2 (.v 0))] (12,.n 0,.n 0) [0,1,1] [] rfl h1 h2))]
    rw [if_neg (by exact lin [_] [] [] (9,.c (.m 2 (.v 0)),.n 0) [1] [] rfl)]
    have e3 : ((2 * p : Nat) : Int) + ((dd d).length : Int) = ((2 * (p + 1) : Nat) : Int) := by show ((2 * p : Nat) : Int) + ((2 : Nat) : Int) = _; exact lin [_] [] [] (8,.a (.c (.m 2 (.v 0))) (.c (.n 2)),.c (.m 2 (.a (.v 0) (.n 1)))) [1] [1] rfl
    rw [e3, ih (p + 1) ds (by exact lin [_,_,_] [] [(2,.a (.v 0) (.a (.v 1) (.n 1)),.v 2)] (2,.a (.a (.v 0) (.n 1)) (.v 1),.v 2) [1,1] [1,-1] rfl hp)]
    simp [List.isSublist, h]
   ·have n0 : ¬ At X (dd d) (2 * q) (2 * p) := fun hA => by
     have := ((at_dd hX rfl).mp hA).2.1
     rw [hg.1] at this
     exact h (Option.some.inj this).symm
    have n1 : ¬ At X (dd d) (2 * q) (2 * p + 1) := fun hA => by
     have := ((at_dd hX rfl).mp hA).2.1
     rw [hg.2] at this
     exact h (Option.some.inj this).symm
    have e4 : scanTo X ((2 * q : Nat) : Int) ((d :: ds).map dd) ((2 * p : Nat) : Int) = scanTo X ((2 * q : Nat) : Int) ((d :: ds).map dd) ((2 * (p + 1) : Nat) : Int) := by
     show (if find4 X (dd d) _ _ < 0 then none else _) = (if find4 X (dd d) _ _ < 0 then none else _)
     rw [find4_skip (by exact lin [_,_,_] [] [(1,.v 0,.v 1),(2,.v 2,.m 2 (.v 1))] (1,.m 2 (.v 0),.v 2) [1,2,-1] [] rfl hq hXl) n0 n1, show 2 * p + 2 = 2 * (p + 1) by (exact lin [_] [] [] (2,.a (.m 2 (.v 0)) (.n 2),.m 2 (.a (.v 0) (.n 1))) [1] [1] rfl)]
    rw [e4, ih (p + 1) (d :: ds) (by exact lin [_,_,_] [] [(2,.a (.v 0) (.a (.v 1) (.n 1)),.v 2)] (2,.a (.a (.v 0) (.n 1)) (.v 1),.v 2) [1,1] [1,-1] rfl hp)]
    simp [List.isSublist, h]
end Mine
end
section
open PySem PySem.W PyProof.Rows
namespace Mine
noncomputable def word (i j k : Nat) : List Nat := List.replicate i 97 ++ (List.replicate j 98 ++ List.replicate k 99)
theorem word_count (i j k : Nat) : (word i j k).count 97 = i ∧ (word i j k).count 98 = j ∧ (word i j k).count 99 = k := by
 unfold word
 simp [List.count_append, List.count_replicate]
theorem word_sub (i j k i' j' k' : Nat) : List.Sublist (word i j k) (word i' j' k') ↔ i ≤ i' ∧ j ≤ j' ∧ k ≤ k' := by
 constructor
 ·intro h
  refine an3 (word_count i j k) fun a1 a2 a3 => ?_
  refine an3 (word_count i' j' k') fun b1 b2 b3 => ?_
  have h1 := h.count_le 97
  have h2 := h.count_le 98
  have h3 := h.count_le 99
  exact ⟨lin [_,_,_,_] [] [(2,.v 0,.v 1),(2,.v 2,.v 3),(1,.v 0,.v 2)] (1,.v 1,.v 3) [1,-1,1,1] [] rfl a1 b1 h1, ⟨lin [_,_,_,_] [] [(2,.v 0,.v 1),(2,.v 2,.v 3),(1,.v 0,.v 2)] (1,.v 1,.v 3) [1,-1,1,1] [] rfl a2 b2 h2, lin [_,_,_,_] [] [(2,.v 0,.v 1),(2,.v 2,.v 3),(1,.v 0,.v 2)] (1,.v 1,.v 3) [1,-1,1,1] [] rfl a3 b3 h3⟩⟩
 ·intro hI9_115
  refine an3 hI9_115 fun h1 h2 h3 => ?_
  try clear hI9_115
  exact ((List.replicate_sublist_replicate 97).mpr h1).append (((List.replicate_sublist_replicate 98).mpr h2).append ((List.replicate_sublist_replicate 99).mpr h3))
theorem word_isSub (i j k i' j' k' : Nat) : (word i j k).isSublist (word i' j' k') = decide (i ≤ i' ∧ j ≤ j' ∧ k ≤ k') := by
 rw [Bool.eq_iff_iff, decide_eq_true_iff, ← word_sub]
 exact List.isSublist_iff_sublist
end Mine
end
section
open PySem PySem.W PySem.Spec PySem.Calls PyProof.Rows PySem.Builtin PySem.Builtin.Str
namespace Mine
noncomputable def replace1 (x y z : PySem.Str) : PySem.Str :=
 if (occurrences x y 0 x.length 1).isEmpty = true then x else glued z (partsBetween x (occurrences x y 0 x.length 1) y.length)
theorem gives_replace1 (x y z : PySem.Str) (t u v c : Tok) (h0 : (u == 0 || v == 0) = false) (huv : (u == v) = false) (hyz : (y == z) = false) (hy : (y.length == 0) = false) (hl : tooLong (x.length + (occurrences x y 0 x.length 1).length * z.length) = false) :
  Gives («str.replace» ⟨[.str x t, .str y u, .str z v, .int 1 c], []⟩) (if (occurrences x y 0 x.length 1).isEmpty = true then .val (.str x t) else .str (glued z (partsBetween x (occurrences x y 0 x.length 1) y.length))) := by
 show Gives (if ((occurrences x y 0 x.length 1).isEmpty || (y.length == 0 && z.length == 0)) = true then (do rule "str.replace.nothing"; ret (.str x t)) else
     (do
       let same ← isSame (.str y u) (.str z v)
       if same = true then (do rule "str.replace.old-is-new"; ret (.str x t)) else
       if tooLong (x.length + (occurrences x y 0 x.length 1).length * z.length) = true then unsupported "str.replace:memory" else
       retStr (glued z (partsBetween x (occurrences x y 0 x.length 1) y.length)))) _
 rw [hy, Bool.false_and, Bool.or_false, isSame_str_other y z u v h0 huv hyz, hl]
 cases (occurrences x y 0 x.length 1).isEmpty
 ·exact .of_eq rfl
 ·exact .rule (.of_eq rfl)
theorem occ_one {x y : PySem.Str} {k : Nat} {r : List Nat} (h : occurrences x y 0 x.length 1 = k :: r) : r = [] := by
 have hn : (occurrences x y 0 x.length 1).length ≤ 1 := StrLaws.occ_length_le x y 0 x.length 1
 rw [h, List.length_cons] at hn
 exact List.eq_nil_of_length_eq_zero (by exact lin [_] [] [(1,.a (.v 0) (.n 1),.n 1)] (2,.v 0,.n 0) [1,1] [1,0] rfl hn)
theorem glued_one (x y z : PySem.Str) (k : Nat) : cs (glued z (partsBetween x [k] y.length)) = (cs x).take k ++ (cs z ++ (cs x).drop (k + y.length)) := by
 rw [StrLaws.glued_eq_join, StrLaws.partsBetween_eq]
 show cs (strSub x 0 k ++ z ++ strSub x (k + y.length) x.length) = _
 rw [cs_app, cs_app, List.append_assoc]
 congr 1
 ·show (strSub x 0 k).cps.toList = _
  rw [StrLaws.strSub_toList]
  rfl
 ·congr 1
  show (strSub x (k + y.length) x.length).cps.toList = _
  rw [StrLaws.strSub_toList]
  exact List.take_of_length_le (by rw [List.length_drop]; show (cs x).length - _ ≤ _; rw [cs_len]; exact Nat.le_refl _)
theorem replace1_at {x y z : PySem.Str} {k : Nat} (hA : StrLaws.At x y x.length k) (h : ∀ i, i < k → ¬ StrLaws.At x y x.length i) : cs (replace1 x y z) = (cs x).take k ++ (cs z ++ (cs x).drop (k + y.length)) := by
 refine ex1 (occ_at_hi (limit := 1) (Nat.le_refl 1) (Nat.zero_le k) hA fun i _ hi => h i hi) fun r e => ?_
 have hr := occ_one e
 subst hr
 unfold replace1
 rw [e]
 exact glued_one x y z k
section
variable {prog : Program} {w : World} {A : Around} {E : Value → Shared → Prop} {s : Shared} {x y z : PySem.Str} {t u v c : Tok} {Q : Value → Shared → Prop}
theorem call_replace1 (hu : u ≠ 0) (hv : v ≠ 0) (huv : u ≠ v) (hyz : (y == z) = false) (hy : (y.length == 0) = false) (hx : x.length ≤ 10000) (hz : z.length ≤ 1000)
  (hq : ∀ t' k, s.toks ≤ k → Q (.str (replace1 x y z) t') { s with toks := k }) : wpAny (model prog w) A (call (.builtin "str.replace") [.str x t, .str y u, .str z v, .int 1 c]) Q E s := by
 have hn : (occurrences x y 0 x.length 1).length ≤ 1 := StrLaws.occ_length_le x y 0 x.length 1
 have hm : (occurrences x y 0 x.length 1).length * z.length ≤ z.length := by
  have := Nat.mul_le_mul_right z.length hn
  exact lin [_,_] [] [(1,.v 0,.m 1 (.v 1))] (1,.v 0,.v 1) [1,1] [] rfl this
 have hl : tooLong (x.length + (occurrences x y 0 x.length 1).length * z.length) = false := by
  unfold tooLong
  rw [sizeLine_eq]
  exact decide_eq_false (by exact lin [_,_,_] [] [(1,.v 0,.n 10000),(1,.v 1,.n 1000),(1,.v 2,.v 1)] (3,.n 16777216,.a (.v 0) (.v 2)) [1,1,1,1] [] rfl hx hz hm)
 refine call_gives F.slot_str_replace (typeIs_str _ _ _) F.entry_str_replace (F.args_str_replace_4 _ _ _ _) (gives_replace1 x y z t u v c (by simp [hu, hv]) (by simp [huv]) hyz hy hl) ?_
 unfold replace1 at hq
 cases hc : (occurrences x y 0 x.length 1).isEmpty
 ·rw [hc] at hq
  simp only [Bool.false_eq_true, if_false] at hq ⊢
  refine ⟨?_, hq _ _ (Nat.le_succ _)⟩
  cases ho : occurrences x y 0 x.length 1 with
  | nil => rw [ho] at hc; cases hc
  | cons k r =>
   have hr := occ_one ho
   subst hr
   rw [← cs_len, glued_one, List.length_append, List.length_append, List.length_take, List.length_drop, cs_len, cs_len, sizeLine_eq]
   exact lin [_,_,_,_] [] [(1,.v 0,.n 10000),(1,.v 1,.n 1000),(1,.v 2,.v 0),(1,.v 3,.v 0)] (1,.a (.v 2) (.a (.v 1) (.v 3)),.n 16777216) [1,2,1,1,1] [] rfl hx hz (Nat.min_le_right _ _) (Nat.sub_le _ _)
 ·rw [hc] at hq
  simp only [if_true] at hq ⊢
  exact hq t s.toks (Nat.le_refl _)
theorem add_new {x y : PySem.Str} {t u : Tok} {Q : Value → Shared → Prop} (hx : (x.length == 0) = false) (hy : (y.length == 0) = false) (hs : x.length + y.length ≤ 100000) (h : Q (.str (x ++ y) s.toks) { s with toks := s.toks + 1 }) :
  wpAny (model prog w) A (binaryOp .Add (.str x t) (.str y u)) Q E s := by
 refine P.add_str ?_
 rw [hx, hy]
 simp only [Bool.false_eq_true, if_false]
 exact ⟨by rw [Str.length_append, sizeLine_eq]; exact lin [_,_] [] [(1,.a (.v 0) (.v 1),.n 100000)] (1,.a (.v 0) (.v 1),.n 16777216) [1,1] [] rfl hs, h⟩
end
end Mine
end
section
open PySem PySem.W PySem.Spec PySem.Calls PyProof.Rows PySem.Builtin PySem.Builtin.Str
namespace Mine
end Mine
end
section
open PySem PySem.W PyProof.Rows PySem.Builtin PySem.Builtin.Str
namespace Mine
theorem starts_dd {X : PySem.Str} {g : List Nat} {c : Nat} (hX : cs X = dblM g) : Txt.startswith X (dd c) = decide (g.head? = some c) := by
 rw [Bool.eq_iff_iff, decide_eq_true_iff]
 have hXl : X.length = 2 * g.length := by rw [← cs_len, hX, dbl_len]
 have hd : (dd c).length = 2 := rfl
 have key : Txt.startswith X (dd c) = true ↔ StrLaws.At X (dd c) X.length 0 := by
  unfold Txt.startswith StrLaws.At
  simp
 rw [key, at_dd hX rfl, hXl]
 cases g with
 | nil => simp [dblM]
 | cons a r => simp [dblM]; omega
theorem ends_dd {X : PySem.Str} {g : List Nat} {c : Nat} (hX : cs X = dblM g) : Txt.endswith X (dd c) = decide (g.getLast? = some c) := by
 rw [Bool.eq_iff_iff, decide_eq_true_iff]
 have hXl : X.length = 2 * g.length := by rw [← cs_len, hX, dbl_len]
 have hd : (dd c).length = 2 := rfl
 rw [List.getLast?_eq_getElem?]
 cases hg : g.length with
 | zero =>
  have e : g = [] := List.eq_nil_of_length_eq_zero hg
  subst e
  unfold Txt.endswith
  rw [hXl, hd]
  simp
 | succ n =>
  have key : Txt.endswith X (dd c) = true ↔ StrLaws.At X (dd c) X.length (2 * n) := by
   unfold Txt.endswith StrLaws.At
   rw [hXl, hd, hg]
   have e : 2 * (n + 1) - 2 = 2 * n := by exact lin [_,_] [] [(2,.a (.v 0) (.n 2),.m 2 (.a (.v 1) (.n 1)))] (2,.v 0,.m 2 (.v 1)) [1,1] [1,-1] rfl (Nat.sub_add_cancel (by exact lin [_] [] [] (1,.n 2,.m 2 (.a (.v 0) (.n 1))) [1] [] rfl ))
   rw [e]
   simp
   intro _
   exact ⟨fun q0 => lin [_] [] [] (1,.a (.m 2 (.v 0)) (.n 2),.m 2 (.a (.v 0) (.n 1))) [1] [] rfl , fun q0 => lin [_] [] [] (1,.n 2,.m 2 (.a (.v 0) (.n 1))) [1] [] rfl ⟩
  rw [key, at_dd hX rfl, hXl, hg, (dbl_get g n).1, (dbl_get g n).2]
  simp
  omega
end Mine
end
section
open PySem PySem.W PySem.Spec PySem.Calls PyProof.Rows
namespace Mine
section
variable {α β : Type} {M : Model} {A : Around} {E : Value → Shared → Prop} {s : Shared} {env : Env}
theorem wpC_bind_no {m : Sem α} {f : α → Sem β} {Q : β → Shared → Prop} (h : wpC M A m (fun _ _ => False) E s) : wpC M A (m >>= f) Q E s :=
 wpC_bind (wpC_mono h (fun _ _ x => x.elim) fun _ _ e => e)
theorem wpC_execs_cons {st rest} {Q : Flow → Shared → Prop}
  (h : wpC M A (exec st env) (fun f s' => match f with | .next => wpC M A (execs rest env) Q E s' | f => Q f s') E s) :
  wpC M A (execs (st :: rest) env) Q E s := fun Γ p hΓ hC => by
 rw [execs_cons, Sem.wp_bind']
 refine Sem.wp_mono M Γ _ (fun f p' s' h' => ?_) (fun _ _ _ h' => h') _ _ (h Γ p hΓ hC)
 cases f <;> first | exact h' Γ p' hΓ hC | exact h'
theorem wp_execs_app {Γ : PySem.Ctx} {rest : List Stmt} {Q : Flow → Pos → Shared → Prop} {E : Value → Pos → Shared → Prop} : ∀ (pre : List Stmt) {p : Pos} {s : Shared},
  Sem.wp M Γ (execs pre env) (fun f p' s' => match f with | .next => Sem.wp M Γ (execs rest env) Q E p' s' | f => Q f p' s') E p s → Sem.wp M Γ (execs (pre ++ rest) env) Q E p s
 | [], _, _, h => h
 | st :: pre, p, s, h => by
  rw [List.cons_append, execs_cons, Sem.wp_bind']
  rw [execs_cons, Sem.wp_bind'] at h
  refine Sem.wp_mono M Γ _ (fun f p' s' h' => ?_) (fun _ _ _ h' => h') _ _ h
  cases f with
  | next => exact wp_execs_app pre h'
  | brk => exact h'
  | cont => exact h'
  | ret v => exact h'
theorem wpC_pre {pre rest : List Stmt} {Q : Flow → Shared → Prop}
  (h : wpAny M A (execs pre env) (fun f s' => match f with | .next => wpC M A (execs rest env) Q E s' | f => Q f s') E s) :
  wpC M A (execs (pre ++ rest) env) Q E s := fun Γ p hΓ hC => by
 refine wp_execs_app pre (Sem.wp_mono M Γ _ (fun f p' s' h' => ?_) (fun _ _ _ h' => h') _ _ (h Γ p hΓ))
 cases f <;> first | exact h' Γ p' hΓ hC | exact h'
theorem wpC_take (n : Nat) {l : List Stmt} {Q : Flow → Shared → Prop}
  (h : wpAny M A (execs (l.take n) env) (fun f s' => match f with | .next => wpC M A (execs (l.drop n) env) Q E s' | f => Q f s') E s) :
  wpC M A (execs l env) Q E s := by
 have h' := wpC_pre h
 rwa [List.take_append_drop] at h'
theorem wpC_If {test body orelse pos} {Q : Flow → Shared → Prop}
  (h : wpC M A (isTrue test env (eval test env)) (fun b s₂ => if b then wpC M A (execs body env) Q E s₂ else wpC M A (execs orelse env) Q E s₂) E s) :
  wpC M A (exec (.If test body orelse pos) env) Q E s := fun Γ p hΓ hC => by
 simp only [exec_If, Sem.wp_bind', Sem.wp_cmd_standAt]
 refine Sem.wp_mono M Γ _ (fun b p₂ s₂ h₂ => ?_) (fun _ _ _ h' => h') _ _ (h Γ _ hΓ hC)
 cases b <;> exact h₂ Γ p₂ hΓ hC
theorem isTrueC_and {x rest pos whole} {Q : Bool → Shared → Prop}
  (h : wpC M A (isTrue x env (eval x env)) (fun c s' => if c then wpC M A (isTrue (.BoolOp .And rest pos) env whole) Q E s' else Q false s') E s) :
  wpC M A (isTrue (.BoolOp .And (x :: rest) pos) env whole) Q E s := by
 show wpC M A (do
  match BoolOp.And, ← isTrue x env (eval x env) with
  | .And, false => pure false
  | .Or, true => pure true
  | _, _ => allTrue .And rest env) Q E s
 refine wpC_bind (wpC_mono h (fun c s' h' => ?_) fun _ _ x => x)
 cases c with
 | false => exact wpC_pure (by simpa using h')
 | true => simp only [if_true] at h'; exact h'
theorem isTrueC_not {x pos whole} {Q : Bool → Shared → Prop} (h : wpC M A (isTrue x env (eval x env)) (fun c s' => Q (!c) s') E s) :
  wpC M A (isTrue (.UnaryOp .Not x pos) env whole) Q E s := by
 show wpC M A (do return !(← isTrue x env (eval x env))) Q E s
 exact wpC_bind (wpC_mono h (fun c s' h' => wpC_pure h') fun _ _ x => x)
theorem isTrueC_call {f : PySem.Expr} {args : List PySem.Expr} {kws : List Keyword} {pos : Pos} {Q : Bool → Shared → Prop}
  (h : wpC M A (eval (.Call f args kws pos) env) (fun v s₁ => wpAny M A (truthy v) Q E s₁) E s) :
  wpC M A (isTrue (.Call f args kws pos) env (eval (.Call f args kws pos) env)) Q E s := by
 show wpC M A (do
  let v ← eval (.Call f args kws pos) env
  standAt pos
  holding [v] (truthy v)) Q E s
 exact wpC_bind (wpC_mono h (fun v s₁ h₁ => wpC_bind (wpC_standAt (wpC_holding (.of h₁)))) fun _ _ x => x)
theorem wpC_Assign_Name {x pos' value pos} {Q : Flow → Shared → Prop}
  (h : wpC M A (eval value env) (fun v s₁ => wpAny M A (storeName env x v) (fun _ => Q .next) E s₁) E s)
  (hs : swapsWith value (some (.Name x pos')) pos.line env = pure false := by rfl) :
  wpC M A (exec (.Assign [.Name x pos'] value pos) env) Q E s := fun Γ p hΓ hC => by
 simp only [exec_Assign_Name env x pos' value pos hs, Sem.wp_bind', Sem.wp_cmd_standAt, Sem.wp_bindName, Sem.wp_pure']
 exact Sem.wp_mono M Γ _ (fun v _ s₁ h₁ => h₁ Γ _ hΓ) (fun _ _ _ h' => h') _ _ (h Γ _ hΓ hC)
theorem wpC_Expr_no {e pos} {Q : Flow → Shared → Prop} (h : wpC M A (eval e env) (fun _ _ => False) E s)
  (hi : interactive env = false := by rfl) (hs : swapsWith e none pos.line env = pure false := by rfl) :
  wpC M A (exec (.Expr e pos) env) Q E s := by
 rw [exec_Expr env e pos hi hs]
 exact wpC_bind (wpC_standAt (wpC_bind_no h))
theorem evalC_Call_Name {id : PySem.Str} {p pos : Pos} {args : List PySem.Expr} {keywords : List Keyword} {Q : Value → Shared → Prop}
  (h : wpAny M A (eval (.Name id p) env) (fun f s₁ => wpC M A (callWith pos f [] (backTo pos (starEach args env)) (backToKw pos (keywordEach keywords env))) Q E s₁) E s) :
  wpC M A (eval (.Call (.Name id p) args keywords pos) env) Q E s := by
 rw [arm_eval_Call_Name']
 exact wpC_bind (.of h)
theorem evalC_BinOp_no {l op r pos} {Q : Value → Shared → Prop} (h : wpC M A (eval l env) (fun _ _ => False) E s) : wpC M A (eval (.BinOp l op r pos) env) Q E s := by
 rw [arm_eval_BinOp]
 exact wpC_bind_no h
theorem evalArgsC {f : Value} {x : Sem Value} {rest : List (Bool × Sem Value)} {Q : Args → Shared → Prop}
  (h : wpC M A (spliced ((false, x) :: rest)) (fun vs s' => Q ⟨vs, []⟩ s') E s) : wpC M A (evalArgs f true ((false, x) :: rest) []) Q E s := by
 unfold evalArgs
 show wpC M A (spliced ((false, x) :: rest) >>= _) Q E s
 refine wpC_bind (wpC_mono h (fun vs s' h' => ?_) fun _ _ x => x)
 refine wpC_holding ?_
 exact wpC_bind (wpC_pure (wpC_bind (wpC_pure (wpC_pure h'))))
theorem evalArgsC_no {f : Value} {x : Sem Value} {rest : List (Bool × Sem Value)} {Q : Args → Shared → Prop}
  (h : wpC M A x (fun _ _ => False) E s) : wpC M A (evalArgs f true ((false, x) :: rest) []) Q E s := by
 refine evalArgsC ?_
 rw [spliced]
 exact wpC_bind_no h
theorem callWithC_no {pos : Pos} {f : Value} {first : List Value} {x : Sem Value} {rest : List (Bool × Sem Value)} {Q : Value → Shared → Prop}
  (h : wpC M A x (fun _ _ => False) E s) : wpC M A (callWith pos f first ((false, x) :: rest) []) Q E s := by
 unfold callWith
 exact wpC_bind_no (wpC_holding (evalArgsC_no h))
theorem callWithC_def {pos : Pos} {f : Addr} {o : Obj} {fd : FuncData} {e : PySem.Expr} {rest : List PySem.Expr} {Q : Value → Shared → Prop} (hdat : o.data = .func fd)
  (h : wpAny M A (spliced (backTo pos (starEach (e :: rest) env))) (fun vs s₁ => s₁.heap.get? f = some o ∧ wpC M A (call (.ref f) vs) Q E s₁) E s)
  (he : starEach (e :: rest) env = (false, eval e env) :: starEach rest env := by rfl) :
  wpC M A (callWith pos (.ref f) [] (backTo pos (starEach (e :: rest) env)) []) Q E s := by
 rw [he] at h ⊢
 unfold callWith
 refine wpC_bind (wpC_holding (.of (evalArgs_plain (wpAny_mono h (fun vs s₁ h₁ => wpC_bind (wpC_standAt ?_)) fun _ _ x => x))))
 have tail : ∀ {t : Sem Value}, wpC M A t Q E s₁ → wpC M A (t >>= fun r => holding [r] point >>= fun _ => pure r) Q E s₁ :=
  fun ht => wpC_bind (wpC_mono ht (fun r s₂ hr => wpC_bind (wpC_holding (.of (wpAny_point (wpC_pure hr))))) fun _ _ x => x)
 have keepC : ∀ {t : Sem Value} {vs : List Value}, wpC M A t Q E s₁ → wpC M A (t.keep vs) Q E s₁ := fun ht Γ p hΓ hC => by
  have := ht Γ p hΓ hC
  first | exact (Sem.wp_keep ..).mpr this | (rw [Sem.wp_keep]; exact this) | exact wpC_holding ht Γ p hΓ hC
 refine wpC_bind (m := keeperOf (.ref f)) ?_
 unfold keeperOf
 refine wpC_bind (.of (wpAny_load h₁.1 ?_))
 rw [hdat]
 refine wpC_pure ?_
 generalize (List.any _ _ || List.any _ _) = b
 cases b
 ·dsimp only
  split
  ·exact tail h₁.2
  ·exact tail (by unfold callMarked; exact keepC h₁.2)
 ·exact tail (by unfold callMarked; exact keepC h₁.2)
end
end Mine
end
section
open PySem PySem.W PySem.Spec PySem.Calls PyProof.Rows
namespace Mine
section
variable {α : Type} {M : Model} {A : Around} {E : Value → Shared → Prop} {s : Shared} {env : Env}
theorem MethodCallC_ {o : PySem.Expr} {name : PySem.Str} {apos pos : Pos} {args : List PySem.Expr} {pl : Sem Bool} {Q : Value → Shared → Prop}
  (h : wpAny M A (eval o env) (fun ov s₁ => wpAny M A (getMethod ov name pl) (fun fx s₂ => wpC M A (callWith pos fx.1 fx.2 (backTo pos (starEach args env)) []) Q E s₂) E s₁) E s)
  (he : eval (.Call (.Attribute o name apos) args [] pos) env = (do
   let ov ← eval o env
   standAt apos.atName
   let (f, first) ← holding [ov] (getMethod ov name pl)
   callWith pos f first (backTo pos (starEach args env)) []) := by rfl) :
  wpC M A (eval (.Call (.Attribute o name apos) args [] pos) env) Q E s := by
 rw [he]
 exact wpC_bind (.of (wpAny_mono h (fun ov s₁ h₁ => wpC_bind (.of (wpAny_standAt (wpC_bind (wpC_holding (.of h₁)))))) fun _ _ x => x))
theorem wpC_attempt {m : Sem α} {Q : Except Value α → Shared → Prop} (h : wpC M A m (fun a => Q (.ok a)) (fun e => Q (.error e)) s) :
  wpC M A m.attempt Q E s := fun Γ p hΓ hC => by rw [Sem.wp_attempt]; exact h Γ p hΓ hC
theorem wpC_runOwn {c : Code} {h : Option Value} {Q : Flow → Shared → Prop}
  (hc : codeC M (A.mark h) c (fun r s' => match r with | .ok f => Q f s' | .error e => cameBackBy M A env E e s') s) (hnb : h ≠ some byPass := by intro x; cases x) :
  wpC M A (runOwn c env h) Q E s := by
 unfold runOwn
 exact wpC_onRaise (wpC_run hc hnb)
end
section
variable {prog : Program} {w : World} {A : Around} {E : Value → Shared → Prop} {s : Shared} {env : Env}
theorem wpC_Try {body orelse : List Stmt} {h₀ : ExceptHandler} {hs : List ExceptHandler} {pos : Pos} {Q : Flow → Shared → Prop}
  (h : wpC (model prog w) A (execs body env) (fun f s₁ => match f with | .next => wpAny (model prog w) A (execs orelse env) Q E s₁ | f => Q f s₁)
   (fun e s₁ => wpAny (model prog w) A (noteFrame e env) (fun _ s₂ => wpAny (model prog w) A (setFlight e none) (fun _ s₃ => wpAny (model prog w) A (handleBy e env (h₀ :: hs)) Q E s₃) E s₂) E s₁) s) :
  wpC (model prog w) A (exec (.Try body (h₀ :: hs) orelse [] pos) env) Q E s := by
 rw [arm_exec_Try]
 refine wpC_bind (wpC_standAt ?_)
 unfold tryStmt
 simp only [List.isEmpty_nil, if_true, List.isEmpty_cons, Bool.false_and, Bool.false_eq_true, if_false]
 refine wpC_bind (wpC_attempt (wpC_mono h (fun f s₁ h₁ => ?_) fun e s₁ h₁ => ?_))
 ·cases f <;> first | exact .of h₁ | exact wpC_pure h₁
 ·exact wpC_bind (.of (wpAny_mono h₁ (fun _ _ h₂ => wpC_bind (.of (wpAny_mono h₂ (fun _ _ h₃ => .of h₃) fun _ _ x => x))) fun _ _ x => x))
theorem wpC_For {target iter body pos} {Q : Flow → Shared → Prop}
  (h : wpAny (model prog w) A (eval iter env) (fun x s₁ => wpAny (model prog w) A (pyIter x) (fun it s₂ =>
   codeC (model prog w) A (.forLoop target it body [] env) (fun r s' => match r with | .ok f => Q f s' | .error e => cameBackBy (model prog w) A env E e s') s₂) E s₁) E s)
  (hs : ∀ x, foldedSetIterable iter env x = pure x := by intro _; rfl) :
  wpC (model prog w) A (exec (.For target iter body [] pos) env) Q E s := by
 rw [exec_For]
 refine wpC_bind (wpC_standAt (wpC_bind (.of (wpAny_mono h (fun x s₁ h₁ => wpC_bind ?_) fun _ _ h' => h'))))
 rw [hs x]
 refine wpC_pure (wpC_bind (wpC_standAt (wpC_bind (wpC_holding (.of (wpAny_mono h₁ (fun it s₂ h₂ => wpC_runOwn h₂) fun _ _ h' => h'))))))
theorem codeC_forLoop {R : Result → Shared → Prop} {target it body} (I : Nat → Shared → Prop)
  (turn : ∀ n s, I n s → wpAny (model prog w) A (pyNext it) (fun r s₁ => match r with
   | none => R (.ok .next) s₁
   | some v => wpAny (model prog w) A (letOwnedTupleGo target it v) (fun _ s₁' =>
     wpAny (model prog w) A (assign target env v) (fun _ s₂ => wpC (model prog w) A (execs body env) (fun f s₃ => match f with
      | .next | .cont => ∃ m, m < n ∧ I m s₃
      | .brk => R (.ok .next) s₃
      | .ret v => R (.ok (.ret v)) s₃) (notedBy (model prog w) A env fun e s' => R (.error e) s') s₂) (notedBy (model prog w) A env fun e s' => R (.error e) s') s₁') (notedBy (model prog w) A env fun e s' => R (.error e) s') s₁) (notedBy (model prog w) A env fun e s' => R (.error e) s') s)
  (n : Nat) (h : I n s) : codeC (model prog w) A (.forLoop target it body [] env) R s := by
 refine codeC_loop rfl I (fun n s hI => ?_) n h
 show wpC _ A ((forTurn target it body [] env).onRaise (fun x => do noteFrame x env; theTreesLotGoes x)) _ _ s
 have noted : ∀ {m : Sem Fin} {Q : Fin → Shared → Prop} {E : Value → Shared → Prop} {s : Shared}, wpC (model prog w) A m Q (notedBy (model prog w) A env E) s → wpC (model prog w) A (m.onRaise fun x => do noteFrame x env; theTreesLotGoes x) Q E s :=
  fun h => wpC_onRaise (wpC_mono h (fun _ _ q => q) fun _ _ hx => wpAny_bind (wpAny_mono hx (fun _ _ e => wpAny_theTreesLotGoes e) fun _ _ e => e))
 refine noted ?_
 simp only [forTurn]
 refine wpC_bind (wpC_standAt (wpC_bind (wpC_onRaise (.of (wpAny_mono (turn n s hI) (fun r s₁ h₁ => ?_) fun _ _ h' => wpAny_standAt h')))))
 cases r with
 | none => exact wpC_pure (.inr ⟨rfl, .of (codeAny_block (wpAny_execs_nil h₁))⟩)
 | some v =>
  refine wpC_bind (.of (wpAny_mono h₁ (fun _ s₁' h₁' => ?_) fun _ _ h' => h'))
  refine wpC_bind (.of (wpAny_mono h₁' (fun _ s₂ h₂ => wpC_bind (wpC_mono h₂ (fun f s₃ h₃ => ?_) fun _ _ h' => h')) fun _ _ h' => h'))
  cases f with
  | next => exact wpC_pure (.inl ⟨rfl, h₃⟩)
  | cont => exact wpC_pure (.inl ⟨rfl, h₃⟩)
  | brk => exact wpC_pure h₃
  | ret v => exact wpC_pure h₃
noncomputable def AtC (prog : Program) (w : World) (A : Around) (env : Env) (target : PySem.Expr) (body : List Stmt) (Q : Flow → Shared → Prop) (E : Value → Shared → Prop) (it : Value) (s₂ : Shared) : Prop :=
 ∃ (I : Nat → Shared → Prop) (n : Nat), I n s₂ ∧ ∀ n s, I n s → wpAny (model prog w) A (pyNext it) (fun r s₁ => match r with
   | none => Q .next s₁
   | some v => wpAny (model prog w) A (letOwnedTupleGo target it v) (fun _ s₁' =>
     wpAny (model prog w) A (assign target env v) (fun _ s₂ => wpC (model prog w) A (execs body env) (fun f s₃ => match f with
      | .next | .cont => ∃ m, m < n ∧ I m s₃
      | .brk => Q .next s₃
      | .ret v => Q (.ret v) s₃) E s₂) E s₁') E s₁) E s
theorem For_C {target iter : PySem.Expr} {pos : Pos} {body : List Stmt} {Q : Flow → Shared → Prop} {h₀ : Heap} {m : PySem.Str → Option Value} (_F : Fr h₀ env.locals s.heap m)
  (h : wpAny (model prog w) A (eval iter env) (fun xv s₁ => wpAny (model prog w) A (pyIter xv) (fun it s₂ => AtC prog w A env target body Q E it s₂) E s₁) E s)
  (hs : ∀ x, foldedSetIterable iter env x = pure x := by intro _; rfl)
  (hE : PassesOwn (model prog w) A env E := by passes_own) :
  wpC (model prog w) A (exec (.For target iter body [] pos) env) Q E s := by
 refine wpC_For (wpAny_mono h (fun xv s₁ h₁ => wpAny_mono h₁ (fun it s₂ h₂ => ?_) fun _ _ e => e) fun _ _ e => e) hs
 refine ex2 h₂ fun I n h9_135 => an2 h9_135 fun h0 turn => ?_
 clear h9_135
 try clear h₂
 refine codeC_forLoop I (fun n s hI => wpAny_mono (turn n s hI) (fun r s₁ q => ?_) hE) n h0
 cases r with
 | none => exact q
 | some v =>
  refine wpAny_mono q (fun _ s₁' q' => wpAny_mono q' (fun _ s₂ q₂ => wpC_mono q₂ (fun f s₃ q₃ => ?_) hE) hE) hE
  cases f <;> exact q₃
theorem For_first {target iter : PySem.Expr} {pos : Pos} {body : List Stmt} {Q : Flow → Shared → Prop} {h₀ : Heap} {m : PySem.Str → Option Value} (_F : Fr h₀ env.locals s.heap m)
  (h : wpAny (model prog w) A (eval iter env) (fun xv s₁ => wpAny (model prog w) A (pyIter xv) (fun it s₂ => wpAny (model prog w) A (pyNext it) (fun r s₃ => match r with
   | none => False
   | some v => wpAny (model prog w) A (letOwnedTupleGo target it v) (fun _ s₄ => wpAny (model prog w) A (assign target env v) (fun _ s₅ => wpC (model prog w) A (execs body env) (fun _ _ => False) E s₅) E s₄) E s₃) E s₂) E s₁) E s)
  (hs : ∀ x, foldedSetIterable iter env x = pure x := by intro _; rfl)
  (hE : PassesOwn (model prog w) A env E := by passes_own) :
  wpC (model prog w) A (exec (.For target iter body [] pos) env) Q E s := by
 refine For_C _F (wpAny_mono h (fun xv s₁ h₁ => wpAny_mono h₁ (fun it s₂ h₂ => ⟨fun _ s' => s' = s₂, 0, rfl, fun n s' e => ?_⟩) fun _ _ e => e) fun _ _ e => e) hs hE
 subst e
 refine wpAny_mono h₂ (fun r s₃ h₃ => ?_) fun _ _ e => e
 cases r with
 | none => exact h₃.elim
 | some v => exact wpAny_mono h₃ (fun _ s₄ h₄ => wpAny_mono h₄ (fun _ s₅ h₅ => wpC_mono h₅ (fun _ _ x => x.elim) fun _ _ e => e) fun _ _ e => e) fun _ _ e => e
theorem codeC_call_function {R : Result → Shared → Prop} {a : Addr} {args : Args} {o : Obj} {fd : FuncData} {body : List Stmt} (hroom : A.depth < recursionLimit)
  (ho : s.heap.get? a = some o) (hd' : o.data = .func fd) (hco : fd.scope.isCoroutine = false) (hgen : fd.scope.isGenerator = false) (hbody : fd.body = .stmts body) (hcd : s.heap.CodeRec fd.code fd.qualname)
  (h : wpAny (model prog w) A.in1 (bindArgs fd args) (fun binds s₁ =>
   wpAny (model prog w) A.in1 (newFunctionEnv fd.scope fd.globals fd.closure binds (fd.qualname ++ ".<locals>.") (some a) fd.code none fd.builtins)
    (fun env s₂ => s₂.heap.NoLimit ∧ codeC (model prog w) A (.func body env) R s₂) (fun e s' => R (.error e) s') s₁) (fun e s' => R (.error e) s') s) :
  codeC (model prog w) A (.call (.ref a) args) R s := by
 refine codeC_of_tree (.of ?_)
 show wpAny _ A.in1 (callAny (.ref a) args) _ _ s
 simp only [callAny]
 refine wpAny_bind (wpAny_load ho ?_)
 refine ex4 hcd fun c oc vs tq h9_136 => an4 h9_136 fun hc hoc hdc hq => ?_
 clear h9_136
 try clear hcd
 simp only [hd', callFunction, hco, hgen, hbody, hc]
 rw [hc] at h
 refine wpAny_bind (m := field (.ref c) 1) (wpAny_field hoc hdc hq (wpAny_bind (wpAny_pure ?_)))
 exact wpAny_bind (wpAny_mono h (fun binds s₁ h₁ => wpAny_bind (wpAny_mono h₁ (fun env s₂ h₂ => wpAny_bind (wpAny_enterFrame h₂.1 hroom
  (wpAny_pure (And.intro rfl h₂.2)))) fun _ _ h' => h')) fun _ _ h' => h')
theorem codeC_func {R : Result → Shared → Prop} {body env}
  (h : wpC (model prog w) (A.deeper env) (execs body env) (fun f s' => R (.ok (.ret (match f with | .ret v => v | _ => .none))) s')
   (fun e s' => wpAny (model prog w) (A.deeper env) (leaving env e) (fun _ s'' => R (.error e) s'') (fun e' s'' => R (.error e') s'') s') s) :
  codeC (model prog w) A (.func body env) R s := by
 refine codeC_of_tree ?_
 show wpC _ (A.deeper env) (do point; match ← (execs body env).onRaise (leaving env) with | .ret v => ret v | _ => ret .none) _ _ s
 refine wpC_bind (.of (wpAny_point (wpC_bind ?_)))
 have onR : ∀ {m : Sem Flow} {k : Value → Sem Unit} {Q : Flow → Shared → Prop} {E : Value → Shared → Prop} {s : Shared}, wpC (model prog w) (A.deeper env) m Q (fun e s' => wpAny (model prog w) (A.deeper env) (k e) (fun _ s'' => E e s'') (fun e' s'' => E e' s'') s') s → wpC (model prog w) (A.deeper env) (m.onRaise k) Q E s := fun h => wpC_onRaise h
 refine onR (wpC_mono h (fun f s' h' => ?_) fun _ _ h' => h')
 cases f <;> exact wpC_pure h'
end
end Mine
end
section
open PySem PySem.W PySem.Spec PySem.Calls PyProof.Rows
namespace Mine
section
variable {prog : Program} {w : World} {A₀ A : Around} {s : Shared} {base h₀ g₀ : Heap} {outer : List Env} {env : Env} {L : Addr} {m : PySem.Str → Option Value} {news : List (Addr × Obj)} {K : Frag} {p : Program} {loose : List PySem.Str} {mean : ExcName → Option Value} {mg mb : PySem.Str → Option Value}
  {R : Result → Shared → Prop} {name qual : PySem.Str} {params : Arguments} {body : List Stmt} {scope : Scope} {dV kV doc pm cdv ct oc : Value} {an od : Option Addr} {osl : Array (Option Value)} {f : Addr} {args : Args} {binds : List (PySem.Str × Value)}
theorem codeC_call_def {o : Obj} {fd : FuncData} {body : List Stmt} 
  (hroom : A.depth < recursionLimit) (ho : s.heap.get? f = some o) (hdata : o.data = .func fd) (hlim : s.heap.NoLimit) (hcd : s.heap.CodeRec fd.code fd.qualname)
  (hbody : fd.body = .stmts body) (hbind : BindsTo s fd args binds)
  (hcell : ∀ x ∈ fd.scope.names, x.2 ≠ .cell) (hloc : ∀ x ∈ binds, fd.scope.names.lookup x.1 = some .local)
  (h : ∀ h₀, h₀.Ns s.heap.objs.size (fun x => binds.reverse.lookup x) → (∀ b o, s.heap.get? b = some o → h₀.get? b = some o) →
   wpC (model prog w) (A.deeper (callEnv fd s.heap.objs.size f)) (execs body (callEnv fd s.heap.objs.size f)) (fun f s' => R (.ok (.ret (match f with | .ret v => v | _ => .none))) s')
    (fun e s' => wpAny (model prog w) (A.deeper (callEnv fd s.heap.objs.size f)) (leaving (callEnv fd s.heap.objs.size f) e) (fun _ s'' => R (.error e) s'') (fun e' s'' => R (.error e') s'') s')
    { s with heap := h₀, toks := s.toks + binds.length })
  (hco : fd.scope.isCoroutine = false) (hgen : fd.scope.isGenerator = false) (hk : fd.scope.kind = .function) :
  codeC (model prog w) A (.call (.ref f) args) R s := by
 refine codeC_call_function hroom ho hdata hco hgen hbody hcd (hbind _ _ _ _ ?_)
 refine wpAny_newFunctionEnv hcell hloc (fun h₀ hns₀ hsb₀ => ⟨hlim.fresh _ hsb₀, codeC_func (h h₀ hns₀ fun b o e => ?_)⟩) hk
 exact hsb₀.extBut b o (Nat.ne_of_lt (Heap.lt_size e)) (Heap.get?_push_of_some _ e)
theorem code_defCX (B : Below A₀ base outer h₀) (F : Fr h₀ L s.heap m) (X₀ : K.In h₀) (N : News h₀ L s.heap news) (T : Top p loose mean mg mb h₀) (hA : A.frames = some (env :: outer)) (hf : env.frame = some L) (hke : env.scope.kind = .function)
  (ho : K.lookup f = some ⟨oc, od, .func (fnOf name qual params body scope dV kV doc pm an cdv ct), osl⟩) (hcd : codeIn K cdv qual = true) (hroom : A.depth < recursionLimit)
  (hbind : BindsTo s (fnOf name qual params body scope dV kV doc pm an cdv ct) args binds) (hloc : ∀ y ∈ binds, scope.names.lookup y.1 = some .local)
  (h : ∀ g L' h₁, Fr h₀ L g m → Fr g L' h₁ (fun y => binds.reverse.lookup y) → News g L' h₁ news → Below A base (env :: outer) g → K.In g → Top p loose mean mg mb g →
   wpC (model prog w) (A.deeper (envOf qual scope L' f cdv)) (execs body (envOf qual scope L' f cdv)) (fun _ _ => False)
    (fun e s' => wpAny (model prog w) (A.deeper (envOf qual scope L' f cdv)) (leaving (envOf qual scope L' f cdv) e) (fun _ s'' => R (.error e) s'') (fun e' s'' => R (.error e') s'') s')
    { s with heap := h₁, toks := s.toks + binds.length })
  (hco : scope.isCoroutine = false) (hgen : scope.isGenerator = false) (hk : scope.kind = .function)
  (hcell : ∀ x ∈ scope.names, x.2 ≠ .cell) : codeC (model prog w) A (.call (.ref f) args) R s := by
 have X := X₀.keeps F.keep
 refine an4 (groundX (R := fun _ _ => True) B F N hA hf hke) fun FG BG st _ => ?_
 refine codeC_call_def (fd := fnOf name qual params body scope dV kV doc pm an cdv ct) (body := body) (binds := binds) hroom (X _ _ ho) rfl (T.nolimit.keeps F.keep) (codeRec_of X hcd) rfl hbind hcell hloc (fun h₁ hns hk₁ => ?_) hco hgen hk
 exact wpC_mono (h _ s.heap.objs.size h₁ FG ⟨hns, fun b o e => hk₁ b o (of_hideAll _ e), Nat.le_of_eq (hideAll_size _ _)⟩
  (fun p hp => ⟨hk₁ _ _ (N p hp).1, Nat.ne_of_lt (Heap.lt_size (N p hp).1), hideAll_none _ (List.mem_map_of_mem hp)⟩) BG (X₀.keeps st) (T.keeps st)) (fun _ _ x => x.elim) fun _ _ y => y
theorem code_defSXC (B : Below A₀ base outer h₀) (F : Fr h₀ L s.heap m) (X₀ : K.In h₀) (N : News h₀ L s.heap news) (T : Top p loose mean mg mb h₀) (XB : K.In base) (TB : Top p loose mean mg mb base) (D : KtsDicts (outer.filterMap (·.frame)) h₀)
  (T0 : KtsTurn (outer.filterMap (·.frame)) g₀ h₀) (hA : A.frames = some (env :: outer)) (hf : env.frame = some L) (hke : env.scope.kind = .function)
  (ho : K.lookup f = some ⟨oc, od, .func (fnOf name qual params body scope dV kV doc pm an cdv ct), osl⟩) (hcd : codeIn K cdv qual = true) (hroom : A.depth < recursionLimit)
  (hbind : BindsTo s (fnOf name qual params body scope dV kV doc pm an cdv ct) args binds) (hloc : ∀ y ∈ binds, scope.names.lookup y.1 = some .local)
  (h : ∀ g L' h₁, Fr h₀ L g m → Fr g L' h₁ (fun y => binds.reverse.lookup y) → News g L' h₁ news → Below A base (env :: outer) g → K.In g → Top p loose mean mg mb g → KtsDicts ((env :: outer).filterMap (·.frame)) g →
   wpC (model prog w) (A.deeper (envOf qual scope L' f cdv)) (execs body (envOf qual scope L' f cdv))
    (fun fl s' => LeaveS ((env :: outer).filterMap (·.frame)) A₀ base outer K p loose mean mg mb g₀ h₀ L m g R (match fl with | .ret v => v | _ => .none) s')
    (fun e s' => wpAny (model prog w) (A.deeper (envOf qual scope L' f cdv)) (leaving (envOf qual scope L' f cdv) e) (fun _ s'' => R (.error e) s'') (fun e' s'' => R (.error e') s'') s')
    { s with heap := h₁, toks := s.toks + binds.length })
  (hco : scope.isCoroutine = false) (hgen : scope.isGenerator = false) (hk : scope.kind = .function)
  (hcell : ∀ x ∈ scope.names, x.2 ≠ .cell) : codeC (model prog w) A (.call (.ref f) args) R s := by
 have X := X₀.keeps F.keep
 refine codeC_call_def (fd := fnOf name qual params body scope dV kV doc pm an cdv ct) (body := body) (binds := binds) hroom (X _ _ ho) rfl (T.nolimit.keeps F.keep) (codeRec_of X hcd) rfl hbind hcell hloc (fun h₁ hns hk₁ => ?_) hco hgen hk
 refine ex3 (kts_enterX B F N hA hf hke) fun oL es ep h9_134 => an6 h9_134 fun hLg hLd hN hNs st B₂ => ?_
 clear h9_134
 refine wpC_mono (h _ s.heap.objs.size h₁ ⟨hN _ hLg, st, F.above⟩ ⟨hns, fun b o e => hk₁ b o (of_hideAll _ e), Nat.le_of_eq (hideAll_size _ _)⟩
  (fun p hp => ⟨hk₁ _ _ (N p hp).1, Nat.ne_of_lt (Heap.lt_size (N p hp).1), hideAll_none _ (List.mem_map_of_mem hp)⟩) B₂ (X₀.keeps st) (T.keeps st) (KtsDicts.pushX D F N hf)) (fun fl s' hl => ?_) fun _ _ y => y
 exact leaveSX B F N XB TB D T0 hf hLg hN hNs st hl
end
end Mine
end
section
open PySem PySem.W PySem.Spec PySem.Calls PyProof.Rows PySem.NumText
namespace Mine
theorem int_new_eq (x : PySem.Str) (u : Tok) : Builtin.«int.__new__» ⟨[.type "int", .str x u], []⟩ = ((int_private% "intFromObject") (.str x u) >>= fun v => ret v) := by
 have f1 := F.conv_sub_int
 have f2 := F.madeHere_int
 unfold Builtin.«int.__new__»
 have f0 : isType (.type "int") = pure true := rfl
 simp only [f0, f1, f2, pure_bind]
 rfl
theorem int_obj_eq (x : PySem.Str) (u : Tok) : (int_private% "intFromObject") (.str x u) = (int_private% "intFromText") (.str x u) (numTextOf x) 10 := by
 have e1 : callSpecial? (.str x u) "__int__" = pure none := by
  unfold callSpecial? specialOf
  show ((pure (Value.type "str") >>= fun t => typeLookup t "__int__") >>= _) = _
  rw [pure_bind, KIN.str_int, pure_bind]
 have e2 : specialOf (.str x u) "__index__" = pure none := by
  unfold specialOf
  show (pure (Value.type "str") >>= fun t => typeLookup t "__index__") = _
  rw [pure_bind, KIN.str_idx]
 have e3 : specialOf (.str x u) "__trunc__" = pure none := by
  unfold specialOf
  show (pure (Value.type "str") >>= fun t => typeLookup t "__trunc__") = _
  rw [pure_bind, KIN.str_trunc]
 show (callSpecial? (.str x u) "__int__" >>= _) = _
 rw [e1, pure_bind]
 show (specialOf (.str x u) "__index__" >>= _) = _
 rw [e2, pure_bind]
 show (specialOf (.str x u) "__trunc__" >>= _) = _
 rw [e3, pure_bind]
 rfl
theorem type_call_eq (x : PySem.Str) (u : Tok) : ∃ k, Builtin.«type.__call__» ⟨[.type "int", .str x u], []⟩ = (holding [.builtin "int.__new__"] (call (.builtin "int.__new__") [.type "int", .str x u] []) >>= k) := by
 have ft := F.called_int
 refine ex2 ft.mro fun c tl hmro => ?_
 have h1 := ft.notType
 have h2 := ft.canCreate
 have h3 := ft.made
 have h4 := F.typeCall_int_1 (.str x u)
 unfold Builtin.«type.__call__»
 simp only [h1, h2, h3, h4, hmro, pure_bind]
 exact ⟨_, rfl⟩
section
variable {α : Type} {M : Model} {A : Around} {E : Value → Shared → Prop} {s : Shared}
theorem wpC_mark {own : List String} {e : Value} {Q : Unit → Shared → Prop} (h : Q () s) : wpC M A (markTheRefusal own e) Q E s := fun Γ p _ hC => by
 unfold markTheRefusal
 rw [Sem.wp_bind']
 show Sem.wp M Γ (if pythonCodeMadeTheCall own (((Γ.code, p) :: Γ.below).map (·.1)) = true then _ else _) _ _ p s
 have hn : pythonCodeMadeTheCall own (((Γ.code, p) :: Γ.below).map (·.1)) = false := by
  have hc : (Γ.code :: Γ.below.map (·.1)).any Code.isCaller = true := hC
  show (!((Γ.code :: Γ.below.map (·.1)).any Code.isCaller) && _ && _) = false
  rw [hc]
  rfl
 rw [hn, if_neg Bool.false_ne_true]
 exact h
end
section
variable {prog : Program} {w : World} {A : Around} {E : Value → Shared → Prop} {s : Shared} {x : PySem.Str} {u : Tok}
theorem intFromTextC {Q : Value → Shared → Prop} (hn : PySem.intText? x = none) (hl : x.length ≤ 640) (hx : ∀ c ∈ x.cps.toList, c < 16 ^ 8) (hA : A.handled = none)
  (h : ∀ h' tk e vs, Heap.MadeExc s.heap h' e "ValueError" vs → E (.ref e) { s with heap := h', toks := tk }) :
  wpC (model prog w) A ((int_private% "intFromText") (.str x u) (numTextOf x) 10) Q E s := by
 have hs : (numSeenOf x).length ≤ 640 := Nat.le_trans (seen_length x) hl
 have hbad : (int_private% "readNumeral") 0 10 (numSeenOf x) = int_private% "Numeral.invalid" ∨ ∃ i, (int_private% "readNumeral") 0 10 (numSeenOf x) = (int_private% "Numeral.value") i ∧ ¬ ((numSeenOf x).length == (numTextOf x).length) = true := by
  rcases read0 x hs with hR9_132 | hR9_131
  ·refine ex1 hR9_132 fun m h9_161 => an2 h9_161 fun h1 _ => ?_
   clear h9_161
   try clear hR9_132
   rw [hn] at h1; cases h1
  ·refine an2 hR9_131 fun _ h2 => ?_
   try clear hR9_131
   exact h2
 have tail : wpC (model prog w) A (do
   let shown ← pyRepr (.str x u)
   let refusal ← newExc (.type "ValueError") [← mkStr (((s!"invalid literal for int() with base {10}: " : String) ++ ⟨shown.cps.extract 0 200⟩ : PySem.Str))]
   markTheRefusal ["int.__new__"] refusal
   (raiseNew refusal : Sem Value)) Q E s := by
  have z1 : (reprText x).length ≤ sizeLine := by
   have := StrLaws.reprText_len x hx
   rw [sizeLine_eq]; exact lin [_,_] [] [(1,.v 0,.n 640),(1,.v 1,.a (.m 10 (.v 0)) (.n 2))] (1,.v 1,.n 16777216) [1,10,1] [] rfl hl this
  have z2 : (Str.ofString (toString "invalid literal for int() with base " ++ toString 10 ++ toString ": ") ++ (⟨(reprText x).cps.extract 0 200⟩ : PySem.Str)).length ≤ sizeLine := by
   rw [Str.length_append, sizeLine_eq]
   have h1 : (Str.ofString (toString "invalid literal for int() with base " ++ toString 10 ++ toString ": ")).length ≤ 100 := by decide +kernel
   have h2 : (⟨(reprText x).cps.extract 0 200⟩ : PySem.Str).length ≤ 200 := by
    show ((reprText x).cps.extract 0 200).size ≤ 200
    rw [Array.size_extract]; exact lin [_,_] [] [(2,.a (.v 0) (.n 0),.v 1),(1,.v 1,.n 200)] (1,.v 0,.n 200) [1,1,1] [] rfl (Nat.sub_add_cancel (by exact lin [_] [] [] (1,.n 0,.v 0) [1] [] rfl )) (Nat.min_le_left _ _)
   exact lin [_,_] [] [(1,.v 0,.n 100),(1,.v 1,.n 200)] (1,.a (.v 0) (.v 1),.n 16777216) [1,1,1] [] rfl h1 h2
  refine wpC_bind (.of (wpAny_pyRepr_str (wpC_bind (.of (wpAny_mkStr (wpC_bind (.of (wpAny_newExc_plain plainExc_ValueError (fun h' e hm => ?_) ?_))) z2))) z1))
  ·exact wpC_bind (wpC_mark (.of (wpAny_raiseNew_none hA (h _ _ _ _ hm))))
  ·rw [sizeLine_eq]; simp
 show wpC _ A (ite ((numSeenOf x).length ≤ 640) _ _) Q E s
 rw [if_pos hs]
 refine wpC_bind (wpC_pure ?_)
 dsimp only
 rcases hbad with e | hR9_133
 ·rw [e]
  exact wpC_bind (wpC_pure (wpC_bind (.of (wpAny_rule (wpC_bind (wpC_pure tail))))))
 ·refine ex1 hR9_133 fun i h9_162 => an2 h9_162 fun e hne => ?_
  clear h9_162
  try clear hR9_133
  rw [e]
  dsimp only
  rw [if_neg hne]
  exact wpC_bind (.of (wpAny_rule (wpC_bind (wpC_pure tail))))
theorem codeC_builtin {R : Result → Shared → Prop} {id : String} {args : Args} {b : Builtin} (hb : entryFor table id = some b)
  (h : wpC (model prog w) (A.under (.builtin id args)) (b args) (fun fin s' => match fin with | .done f => R (.ok f) s' | .again c' => c'.quiet = true ∧ codeC (model prog w) A c' R s') (fun e s' => R (.error e) s') s) :
  codeC (model prog w) A (.builtin id args) R s := by
 refine codeC_of_tree ?_
 show wpC _ _ (match entryFor table id with | some b => b args | none => unsupported ((withoutEnding? id "#data").getD id)) _ _ s
 rw [hb]; exact h
theorem codeC_call_builtin {R : Result → Shared → Prop} {id : String} {args : Args} (hq : (Code.builtin id args).quiet = true)
  (h : wpC (model prog w) A.in1 (checkBuiltinCall id args) (fun _ s₁ => codeC (model prog w) A (.builtin id args) R s₁) (fun e s' => R (.error e) s') s) :
  codeC (model prog w) A (.call (.builtin id) args) R s := by
 refine codeC_of_tree ?_
 show wpC _ A.in1 (do checkBuiltinCall id args; again (.builtin id args)) _ _ s
 exact wpC_bind (wpC_mono h (fun _ s₁ h₁ => wpC_pure (And.intro hq h₁)) fun _ _ h' => h')
theorem codeC_call_type {R : Result → Shared → Prop} {T : String} {args : List Value} (h : codeC (model prog w) A (.builtin "type.__call__" ⟨.type T :: args, []⟩) R s) :
  codeC (model prog w) A (.call (.type T) ⟨args, []⟩) R s := by
 refine codeC_of_tree ?_
 show wpC _ _ (callAny (.type T) _) _ _ _
 exact wpC_pure ⟨Code.quiet_builtin _ (by decide +kernel), h⟩
theorem call_int_bad {Q : Value → Shared → Prop} (hn : PySem.intText? x = none) (hl : x.length ≤ 640) (hx : ∀ c ∈ x.cps.toList, c < 16 ^ 8) (hA : A.handled = none)
  (h : ∀ h' tk e vs, Heap.MadeExc s.heap h' e "ValueError" vs → E (.ref e) { s with heap := h', toks := tk }) :
  wpC (model prog w) A (call (.type "int") [.str x u]) Q E s := by
 refine wpC_call (codeC_call_type (codeC_builtin F.entry_type_call ?_))
 rw [Around.under_plain (weight_type_call_type "int" [.str x u] []) (units_type_call_type "int" [.str x u] [])]
 refine ex1 (type_call_eq x u) fun k hk => ?_
 rw [hk]
 refine wpC_bind_no (wpC_holding (wpC_call (codeC_call_builtin (plainId_quiet F.called_int.plain _) (.of (wpAny_of_eq (F.newCall_int_1 (.str x u)) (codeC_builtin F.entry_int_new ?_))))))
 rw [Around.under_plainId F.called_int.plain]
 rw [int_new_eq, int_obj_eq]
 exact wpC_bind_no (intFromTextC hn hl hx hA h)
end
section
variable {M : Model} {A : Around} {E : Value → Shared → Prop} {s : Shared} {env : Env}
theorem callWithC_type1 {pos : Pos} {T : String} {e : PySem.Expr} {Q : Value → Shared → Prop} (h : wpAny M A (eval e env) (fun v s₁ => wpC M A (call (.type T) [v]) Q E s₁) E s)
  (he : starEach [e] env = [(false, eval e env)] := by rfl) : wpC M A (callWith pos (.type T) [] (backTo pos (starEach [e] env)) []) Q E s := by
 have h2 : wpAny M A (spliced (backTo pos (starEach [e] env))) (fun vs s₁ => wpC M A (call (.type T) vs) Q E s₁) E s := args_cons (wpAny_mono h (fun v s₁ h₁ => args_nil h₁) fun _ _ x => x) he
 rw [he] at h2 ⊢
 unfold callWith
 refine wpC_bind (wpC_holding (.of (evalArgs_plain (wpAny_mono h2 (fun vs s₁ h₁ => wpC_bind (wpC_standAt ?_)) fun _ _ x => x))))
 refine wpC_bind (wpC_pure ?_)
 have tail : ∀ {t : Sem Value}, wpC M A t Q E s₁ → wpC M A (t >>= fun r => holding [r] point >>= fun _ => pure r) Q E s₁ :=
  fun ht => wpC_bind (wpC_mono ht (fun r s₂ hr => wpC_bind (wpC_holding (.of (wpAny_point (wpC_pure hr))))) fun _ _ x => x)
 exact tail h₁
theorem callWithC_K {K : Frag} {g : Heap} {pos : Pos} {f : Addr} {oc : Value} {od : Option Addr} {osl : Array (Option Value)} {fd : FuncData} {e : PySem.Expr} {rest : List PySem.Expr} {Q : Value → Shared → Prop} (X : K.In g) (ho : K.lookup f = some ⟨oc, od, .func fd, osl⟩)
  (h : wpAny M A (spliced (backTo pos (starEach (e :: rest) env))) (fun vs s₁ => g.StaysIn s₁.heap ∧ wpC M A (call (.ref f) vs) Q E s₁) E s)
  (he : starEach (e :: rest) env = (false, eval e env) :: starEach rest env := by rfl) :
  wpC M A (callWith pos (.ref f) [] (backTo pos (starEach (e :: rest) env)) []) Q E s :=
 callWithC_def (o := ⟨oc, od, .func fd, osl⟩) (fd := fd) rfl (wpAny_mono h (fun vs s₁ h₁ => ⟨h₁.1 _ _ (X _ _ ho), h₁.2⟩) fun _ _ x => x) he
end
end Mine
end
section
local macro_rules | `(tactic| omega) => `(tactic| fail "OL")
theorem Mine.clean_A16 : Mine.CleanT := by
 intro M A Q E s h
 w_top off
 first
  | (walk1; fail_if_success skip)
  | exact h
open PySem PySem.W PyProof.Rows
namespace Mine
local macro_rules | `(tactic| walk_at "call builtin:len") => `(tactic| ((with_reducible show wpAny _ _ (call _ [Value.ref _]) _ _ _); refine Au.un 9 ?_))
local macro_rules | `(tactic| walk_at "subscriptTail Name Constant ref int") => `(tactic| refine Hold.un ?_)
local macro_rules | `(tactic| walk_at "subscriptTail Name Constant ref int") => `(tactic| fail "IL")
local macro_rules | `(tactic| walk_at "subscriptTail") => `(tactic| ((with_reducible show wpAny _ _ (subscriptTail _ _ (Value.str _ _) (Value.int _ _)) _ _ _); refine Au.un 1 ?_))
theorem parse_v (w : World) (resp : PySem.Str) (t : Tok) (pa : Addr) (host : PySem.Str) (t1 : Tok) (v2 : Value) (news : List (Addr × Obj)) (hp : (pa, tupOf [Value.str host t1, v2]) ∈ news)
  (hl : resp.length ≤ 640) (hb : BrOk resp) (hk2 : parseK resp = .error 2)
  (hp3 : ∀ a b c p3 e, Txt.split (Txt.slice resp (some (Txt.find resp (Str.ofString "(") + 1)) (some (Txt.find3 resp (Str.ofString ")") (Txt.find resp (Str.ofString "(") + 1)))) (Txt.item resp (Txt.find resp (Str.ofString "(") + 1)) = [a, b, c, p3, e] → ∀ x ∈ p3.cps.toList, x < 16 ^ 8)
  (mean : ExcName → Option Value) (mg mb : PySem.Str → Option Value) (dp un : Nat) (gd : Option (List Code)) (cn : PySem.Str) (cs : Scope) (a : Addr) (ccd : Value) (cl : List (PySem.Str × Addr)) (outer : List Env) (A₀ : Around) (base h₀ : Heap) (L : Addr) (m : PySem.Str → Option Value) (s : Shared) (Q E : Value → Shared → Prop)
  (B : Below A₀ base outer h₀) (F : Fr h₀ L s.heap m) (X : (hd.heap_1 w.params).In h₀) (N : News h₀ L s.heap news) (T : Top hd.view_39 LO mean mg mb h₀) (hk : cs.kind = .function)
  (hd : dp + 1 < recursionLimit) (hu : un + 8 * 1 < cLine)
  (hE : ∀ g e h' tk', Fr h₀ L g m → PEnd 2 resp news base g (envX cn cs L a ccd cl :: outer) e h' → g.UpToSlots h' → E (.ref e) { s with heap := h', toks := tk' }) :
  wpC (model PR w) (ktrTop dp un gd cn cs L a ccd cl outer) (call (.ref 96) [.str resp t, .ref pa]) Q E s := by
 unfold BrOk at hb
 have D := ktsDicts_nil (g := h₀)
 (revert hp hl hb hk2 hp3 B F X N T hk hd hu hE D; revert w resp t pa host t1 v2 news mean mg mb dp un gd cn cs a ccd cl outer A₀ base h₀ L m s Q E; fail "CLi"; rename_i w resp t pa host t1 v2 news mean mg mb dp un gd cn cs a ccd cl outer A₀ base h₀ L m s Q E hp hl hb hk2 hp3 B F X N T hk hd hu hE D; fail "CLm")
 refine wpC_call ?_
 k_dflt (refine' code_defCX ?k1 ?k2 ?k3 ?k4 ?k5 ?kA ?kF ?kK ?k6 ?k7 ?k8 ?k9 ?kB ?_ ?c2 ?c3 ?c4 ?c5; (case kA => exact rfl); (case kF => exact rfl); (case kK => first | exact rfl | assumption); (case k1 => k_asm); (case k2 => k_asm); (case k3 => k_asm); (case k4 => k_asm); (case k5 => k_asm); (case k6 => k_is); (case k7 => k_is); (case k8 => ktr_room); (case k9 => first | exact BindsTo.of_eq rfl | exact binds_K (by k_in) rfl (by k_is) rfl rfl rfl); (case c5 => decide); (case kB => exact locs rfl); (case c2 => exact rfl); (case c3 => exact rfl); (case c4 => exact rfl); k_whole; intro g' L' h' FG' F' N' B' X' T'; (try dsimp only); (try k_lift B'); (try k_fold))
 refine wpC_take 9 ?_
 dsimp only [List.take, List.drop]
 (revert FG' F' N' B' X' T'; revert g' L' h'; fail "CLi"; rename_i g' L' h' FG' F' N' B' X' T'; fail "CLm")
 (k_steps; repeat' ((with_reducible refine Au.mk 9 ?_); (with_reducible rename (List.map _ _ = _) => hk9); (refine len_strs (News.isList (by assumption) (.head _)) (by have := len_le_of_split hk9; omega) ?_); (revert hk9; intro _); k_steps))
 ·exfalso
  have hq : parseK resp = .error 0 := by unfold parseK; simp only [*, if_true]
  rw [hq] at hk2; cases hk2
 ·exfalso
  have hq : parseK resp = .error 1 := by clear hk2; unfold parseK; simp only [*, if_true, Bool.false_eq_true, if_false]
  rw [hq] at hk2; cases hk2
 ·exfalso
  have hq : parseK resp = .error 1 := by clear hk2; unfold parseK; simp only [*, if_true, Bool.false_eq_true, if_false]
  rw [hq] at hk2; cases hk2
 ·exfalso
  have hq : parseK resp = .error 1 := by clear hk2; unfold parseK; simp only [*, if_true, Bool.false_eq_true, if_false]
  rw [hq] at hk2; cases hk2
 ·exfalso
  rename (_ : Int) ≠ 5 => h5
  rename (List.map _ _ = Txt.split _ _) => e
  have hq : parseK resp = .error 1 := by clear hk2; unfold parseK; simp only [Bool.false_eq_true, if_false, *]; exact notfive e h5
  rw [hq] at hk2; cases hk2
 rename (_ : Int) = 5 => h5
 obtain ⟨⟨a1, u1⟩, ⟨a2, u2⟩, ⟨a3, u3⟩, ⟨a4, u4⟩, ⟨a5, u5⟩, rfl⟩ := five h5
 rename News _ _ _ _ => N'
 simp only [strValues, List.map_cons, List.map_nil] at N'
 rename (List.map _ _ = Txt.split _ _) => e
 rename (∀ a ∈ List.map _ _, _ ≤ _) => hle
 rename ((Txt.slice resp (some _) (some _)).length ≤ _) => hle2
 simp only [List.map_cons, List.map_nil] at e hle
 have hl4 := hle a4 (.tail _ (.tail _ (.tail _ (.head _))))
 have hx4 := hp3 _ _ _ _ _ e.symm
 have hpk : parseK resp = match PySem.intText? a4 with | some n => .ok n | none => .error 2 := by
  unfold parseK
  revert e
  clear hle hE hk2 hp3
  simp only [Bool.false_eq_true, if_false, *]
  intro e
  rw [← e]
  all_goals (try dsimp only)
  all_goals (cases PySem.intText? a4 <;> rfl)
 have hi : PySem.intText? a4 = none := by
  cases hi : PySem.intText? a4 with
  | none => rfl
  | some n => rw [hi, hk2] at hpk; cases hpk
 clear e hle hpk
 refine Hold.mk ?_
 refine item_tupleT (News.isTup N' (List.Mem.tail _ hp)) (by decide) (by decide) rfl rfl ?_
 (rename_i zz0 zz1; revert zz0 zz1 h5 N' hl4 hx4 hi; revert a1 u1 a2 u2 a3 u3 a4 u4 a5 u5; fail "CLi"; rename_i a1 u1 a2 u2 a3 u3 a4 u4 a5 u5 zz0 zz1 h5 N' hl4 hx4 hi; fail "CLm")
 (k_steps; repeat' ((with_reducible refine Au.mk 9 ?_); (with_reducible rename (List.map _ _ = _) => hk9); (refine len_strs (News.isList (by assumption) (.head _)) (by have := len_le_of_split hk9; omega) ?_); (revert hk9; intro _); k_steps))
 show wpC _ _ (execs _ _) _ _ _
 refine wpC_execs_cons (wpC_Assign_Name (evalC_Call_Name ?_))
 (k_steps; repeat' ((with_reducible refine Au.mk 9 ?_); (with_reducible rename (List.map _ _ = _) => hk9); (refine len_strs (News.isList (by assumption) (.head _)) (by have := len_le_of_split hk9; omega) ?_); (revert hk9; intro _); k_steps))
 refine callWithC_type1 ?_
 (k_steps; repeat' ((with_reducible refine Au.mk 9 ?_); (with_reducible rename (List.map _ _ = _) => hk9); (refine len_strs (News.isList (by assumption) (.head _)) (by have := len_le_of_split hk9; omega) ?_); (revert hk9; intro _); k_steps))
 refine call_int_bad hi (by omega) hx4 rfl ?_
 intro h9 tk9 e9 vs9 hm9
 (revert hm9; revert h9 tk9 e9 vs9; fail "CLi"; rename_i h9 tk9 e9 vs9 hm9; fail "CLm")
 (k_steps; repeat' ((with_reducible refine Au.mk 9 ?_); (with_reducible rename (List.map _ _ = _) => hk9); (refine len_strs (News.isList (by assumption) (.head _)) (by have := len_le_of_split hk9; omega) ?_); (revert hk9; intro _); k_steps))
 rename RaisedS _ _ _ _ _ _ _ _ _ => S
 rename Heap.UpToSlots _ _ => U
 exact hE _ _ _ _ (by assumption) ⟨_, _, _, _, S, fun p hp => .tail _ hp, rfl⟩ U
theorem parse_x (w : World) (c : Nat) (resp : PySem.Str) (t : Tok) (pa : Addr) (host : PySem.Str) (t1 : Tok) (v2 : Value) (news : List (Addr × Obj)) (hp : (pa, tupOf [Value.str host t1, v2]) ∈ news)
  (hl : resp.length ≤ 640) (hb : BrOk resp) (hk2 : parseK resp = .error c)
  (hp3 : ∀ a b c p3 e, Txt.split (Txt.slice resp (some (Txt.find resp (Str.ofString "(") + 1)) (some (Txt.find3 resp (Str.ofString ")") (Txt.find resp (Str.ofString "(") + 1)))) (Txt.item resp (Txt.find resp (Str.ofString "(") + 1)) = [a, b, c, p3, e] → ∀ x ∈ p3.cps.toList, x < 16 ^ 8)
  (mean : ExcName → Option Value) (mg mb : PySem.Str → Option Value) (dp un : Nat) (gd : Option (List Code)) (cn : PySem.Str) (cs : Scope) (a : Addr) (ccd : Value) (cl : List (PySem.Str × Addr)) (outer : List Env) (A₀ : Around) (base h₀ : Heap) (L : Addr) (m : PySem.Str → Option Value) (s : Shared) (Q E : Value → Shared → Prop)
  (B : Below A₀ base outer h₀) (F : Fr h₀ L s.heap m) (X : (hd.heap_1 w.params).In h₀) (N : News h₀ L s.heap news) (T : Top hd.view_39 LO mean mg mb h₀) (hk : cs.kind = .function)
  (hd : dp + 1 < recursionLimit) (hu : un + 8 * 1 < cLine)
  (hE : ∀ g e h' tk', Fr h₀ L g m → PEnd c resp news base g (envX cn cs L a ccd cl :: outer) e h' → g.UpToSlots h' → E (.ref e) { s with heap := h', toks := tk' }) :
  wpC (model PR w) (ktrTop dp un gd cn cs L a ccd cl outer) (call (.ref 96) [.str resp t, .ref pa]) Q E s := by
 by_cases h2 : c = 2
 ·subst h2
  exact parse_v w resp t pa host t1 v2 news hp hl hb hk2 hp3 mean mg mb dp un gd cn cs a ccd cl outer A₀ base h₀ L m s Q E B F X N T hk hd hu hE
 ·refine .of (parse_all w resp t pa host t1 v2 news hp hl hb (by rw [hk2]; intro h; cases h; exact h2 rfl) mean mg mb dp un gd cn cs a ccd cl outer A₀ base h₀ L m s Q E B F X N T hk hd hu ?_ ?_)
  ·intro n r news' h' tk' h1
   rw [hk2] at h1
   cases h1
  ·intro c' g e h' tk' h1
   rw [hk2] at h1
   cases h1
   exact hE g e h' tk'
end Mine
end
section
open PySem PySem.W PySem.Spec PySem.Calls PyProof.Rows
namespace Mine
structure LineQ (line : PySem.Str) (h : PySem.Str) (r : PySem.Str) : Prop where
 len : line.length ≤ 200
 nl : Txt.find line (Str.ofString "\n") = -1
 col : find4 line (Str.ofString ":") 0 line.length = 4
 dot : rfind4 line (Str.ofString ".") 0 4 = 2
 one : Txt.lower (Txt.slice line (some 3) (some 4)) = h
 onel : (Txt.slice line (some 3) (some 4)).length ≤ 200
 at4 : Txt.find line (Str.ofString ": ") = 4
 rest : Txt.slice line (some 6) none = r
section
variable {prog : Program} {w : World} {A : Around} {E : Value → Shared → Prop} {s : Shared} {h₀ : Heap} {L : Addr} {m : PySem.Str → Option Value} {news : List (Addr × Obj)}
theorem iter_first {l : Addr} {v : Value} {vs : List Value} {n : Nat} {Q : Value → Option Value → Shared → Prop} (hh : A.handled = none) (F : Fr h₀ L s.heap m) (N : News h₀ L s.heap news) (hl : (l, listOf (v :: vs).toArray n) ∈ news)
  (h : ∀ it h' tk, Fr h₀ L h' m → News h₀ L h' news → Q it (some v) { s with heap := h', toks := tk }) :
  wpAny (model prog w) A (pyIter (.ref l)) (fun it s₂ => wpAny (model prog w) A (pyNext it) (Q it) E s₂) E s := by
 have hol : s.heap.get? l = some (listOf (v :: vs).toArray n) := (N _ hl).1
 have hls : s.heap.IsList l (v :: vs).toArray := ⟨_, hol, rfl, n, rfl⟩
 have hlt : l < s.heap.objs.size := Heap.lt_size hol
 refine wpAny_pyIter_list hls ?_
 have W := Walks.list (prog := prog) (w := w) hh s.heap.objs.size l (Nat.ne_of_lt hlt) (v :: vs).toArray
 refine W.item 0 _ _ _ (by simp) ⟨⟨_, Heap.get?_push_size _ rfl, rfl, rfl⟩, hls.at fun o e => Heap.get?_push_of_some _ e⟩ fun v' h₁ tk₁ hP _ hk₁ => ?_
 have hv : v' = v := by
  have : (v :: vs).toArray[0]? = some v' := hP
  simpa using this.symm
 subst hv
 have hne : ∀ b o, s.heap.get? b = some o → b ∉ [s.heap.objs.size] := fun b o e hb => by
  rw [List.mem_singleton.mp hb] at e
  exact absurd (Heap.lt_size e) (Nat.lt_irrefl _)
 have keep : ∀ b o, s.heap.get? b = some o → h₁.get? b = some o := fun b o e => hk₁ b o (hne b o e) (Heap.get?_push_of_some _ e)
 exact h _ h₁ tk₁ ⟨F.ns.at' fun o e => keep _ o e, fun b o e => keep b o (F.keep b o e), F.above⟩ fun p hp => ⟨keep _ _ (N p hp).1, (N p hp).2⟩
end
end Mine
end
section
local macro_rules | `(tactic| omega) => `(tactic| fail "OL")
theorem Mine.clean_A17 : Mine.CleanT := by
 intro M A Q E s h
 w_top off
 first
  | (walk1; fail_if_success skip)
  | exact h
open PySem PySem.W PyProof.Rows
namespace Mine
theorem stripQ (w : World) (line : PySem.Str) (t : Tok) (h : PySem.Str) (r : PySem.Str) (news : List (Addr × Obj)) (K : LineQ line h r) :
  Spc w 52 1 [.str line t] news (RStr news (Txt.slice line (some 3) (some 4))) :=
 strip_spc w line t news _ (by have := K.len; omega) K.nl K.col K.dot rfl
local macro_rules | `(tactic| walk_at "subscriptTail Name Slice ref ref") => `(tactic| refine Au.un 3 ?_)
local macro_rules | `(tactic| walk_at "call builtin:str.split") => `(tactic| refine Au.un 1 ?_)
local macro_rules | `(tactic| walk_at "pyIter ref") => `(tactic| (refine Hold.un ?_))
local macro_rules | `(tactic| walk_at "call ref") => `(tactic| refine Au.un 2 ?_)
theorem heard_x (w : World) (c : Nat) (clock : PySem.Str) (t : Tok) (line : PySem.Str) (lines : List PySem.Str) (h r : PySem.Str) (e1 e2 : PySem.Str) (news : List (Addr × Obj)) (hcl : clock.length ≤ 3000) (hsp : Txt.split clock (Str.ofString "\r\n") = (line :: lines) ++ [e1, e2]) (hll : lines.length ≤ 10) (K : LineQ line h r)
  (hb : BrOk r) (hk2 : parseK r = .error c)
  (hp3 : ∀ a b c p3 e, Txt.split (Txt.slice r (some (Txt.find r (Str.ofString "(") + 1)) (some (Txt.find3 r (Str.ofString ")") (Txt.find r (Str.ofString "(") + 1)))) (Txt.item r (Txt.find r (Str.ofString "(") + 1)) = [a, b, c, p3, e] → ∀ x ∈ p3.cps.toList, x < 16 ^ 8)
  (mean : ExcName → Option Value) (mg mb : PySem.Str → Option Value) (dp un : Nat) (gd : Option (List Code)) (cn : PySem.Str) (cs : Scope) (a : Addr) (ccd : Value) (cl : List (PySem.Str × Addr)) (outer : List Env) (A₀ : Around) (base h₀ : Heap) (L : Addr) (m : PySem.Str → Option Value) (s : Shared) (Q E : Value → Shared → Prop)
  (B : Below A₀ base outer h₀) (F : Fr h₀ L s.heap m) (X : (hd.heap_1 w.params).In h₀) (N : News h₀ L s.heap news) (T : Top hd.view_39 LO mean mg mb h₀) (hk : cs.kind = .function)
  (hd : dp + 3 < recursionLimit) (hu : un + 8 * 3 < cLine)
  (hE : ∀ g e h' tk', Fr h₀ L g m → PEnd c r news base g (envX cn cs L a ccd cl :: outer) e h' → g.UpToSlots h' → E (.ref e) { s with heap := h', toks := tk' }) :
  wpC (model PR w) (ktrTop dp un gd cn cs L a ccd cl outer) (call (.ref 252) [.str clock t]) Q E s := by
 have D := ktsDicts_nil (g := h₀)
 obtain ⟨ls, hls⟩ : ∃ ls, ls = line :: lines := ⟨_, rfl⟩
 rw [← hls] at hsp
 have hll' : ls.length ≤ 11 := by rw [hls, List.length_cons]; omega
 (revert hcl hll K hb hk2 hp3 B F X N T hk hd hu hE D hsp hls hll'; revert w c clock t line lines h r e1 e2 news mean mg mb dp un gd cn cs a ccd cl outer A₀ base h₀ L m s Q E ls; fail "CLi"; rename_i w c clock t line lines h r e1 e2 news mean mg mb dp un gd cn cs a ccd cl outer A₀ base h₀ L m s Q E ls hcl hll K hb hk2 hp3 B F X N T hk hd hu hE D hsp hls hll'; fail "CLm")
 refine wpC_call ?_
 k_dflt (refine' code_defCX ?k1 ?k2 ?k3 ?k4 ?k5 ?kA ?kF ?kK ?k6 ?k7 ?k8 ?k9 ?kB ?_ ?c2 ?c3 ?c4 ?c5; (case kA => exact rfl); (case kF => exact rfl); (case kK => assumption); (case k1 => k_asm); (case k2 => k_asm); (case k3 => k_asm); (case k4 => k_asm); (case k5 => k_asm); (case k6 => k_is); (case k7 => k_is); (case k8 => ktr_room); (case k9 => first | exact BindsTo.of_eq rfl | exact binds_K (by k_in) rfl (by k_is) rfl rfl rfl); (case c5 => decide); (case kB => exact locs rfl); (case c2 => exact rfl); (case c3 => exact rfl); (case c4 => exact rfl); k_whole; intro g' L' h' FG' F' N' B' X' T'; (try dsimp only); (try k_lift B'); (try k_fold))
 refine wpC_take 1 ?_
 dsimp only [List.take, List.drop]
 (revert FG' F' N' B' X' T'; revert g' L' h'; fail "CLi"; rename_i g' L' h' FG' F' N' B' X' T'; fail "CLm")
 k_steps
 show wpC _ _ (execs _ _) _ _ _
 rename Fr _ _ _ _ => F9
 refine wpC_execs_cons (For_first F9 ?_)
 (k_steps; repeat' ((first | ((with_reducible refine Au.mk 1 ?_); ((k_here; k_dflt (refine' split_K ?F ?N ?s ?y ?z ?_; (case F => k_asm); (case N => k_asm); (case s => assumption); (case y => decide); (case z => omega); k_whole; intro D'z l'z h'z k'z e'z F'z N'z l1'z; (try have l2'z := allLt_of l1'z))))) | ((with_reducible refine Au.mk 3 ?_); (first | ((k_here; (with_reducible rename News _ _ _ _ => N9z); k_dflt (refine' cut2_K ?F N9z (List.Mem.head _) ?e ?z ?_; (case F => k_asm); (case e => assumption); (case z => omega); k_whole; intro D'z l'z h'z e'z F'z N'z l1'z; (try have l2'z := allLt_of l1'z)))) | (have auoff := AuOff.on; walk1 <;> clear auoff)))) <;> k_steps))
 refine Hold.mk ?_
 rename List.map _ _ = ls => hl'
 rename News _ _ _ _ => N9
 rename Fr _ _ _ _ => F9
 rw [hls] at hl'
 obtain ⟨tx, l9, rfl, hl9⟩ := strs_consM hl'
 have e9 : strValues ((line, tx) :: l9) = Value.str line tx :: strValues l9 := rfl
 rw [e9] at N9
 refine' iter_first (l := _) (v := Value.str line tx) (vs := strValues l9) ?hh ?F ?N ?hl ?_
 case hh => rfl
 case F => exact F9
 case N => exact N9
 case hl => exact .head _
 intro it5 h5 tk5 F5 N5
 clear F9 N9
 have K1 := K.len
 have K2 := K.at4
 have K3 := K.rest
 have K6 := K.onel
 have e9 : Txt.slice line (some (Txt.find line (Str.ofString ": ") + 2)) none = r := by rw [K2]; exact K3
 show wpAny _ _ (pure ()) _ _ _
 refine wpAny_pure ?_
 (rename_i zz0 zz1 zz2 zz3 zz4; revert e'z F'z N9z zz2 zz3 l1'z l2'z hl9 hl' zz4 F5 N5 K1 K2 K3 K6 e9; revert zz0 l'z zz1 k'z D'z h'z tx l9 it5 h5 tk5; fail "CLi"; rename_i zz0 l'z zz1 k'z D'z h'z tx l9 it5 h5 tk5 e'z F'z N9z zz2 zz3 l1'z l2'z hl9 hl' zz4 F5 N5 K1 K2 K3 K6 e9; fail "CLm")
 k_steps
 refine wpC_take 1 ?_
 dsimp only [List.take, List.drop]
 (rename_i zz0 zz1 zz2; revert zz1 zz2; revert zz0; fail "CLi"; rename_i zz0 zz1 zz2; fail "CLm")
 k_steps
 ·exfalso; omega
 show wpC _ _ (execs _ _) _ _ _
 refine wpC_execs_cons (wpC_Expr_no (MethodCallC_ ?_))
 k_steps
 refine callWithC_no (x := eval _ _) (rest := []) ?_
 refine evalC_BinOp_no (evalC_Call_Name ?_)
 k_steps
 refine' callWithC_K ?X ?ho ?_
 case X => assumption
 case ho => k_is
 (k_steps; repeat' (((with_reducible refine Au.mk 2 ?_); ((k_here; k_dflt (refine' stripQ _ _ _ _ _ _ ?K _ _ _ _ _ _ _ _ _ _ _ _ _ _ _ _ _ _ _ _ ?B ?F ?X ?N ?T ?ck ?dd ?uu ?_; (case B => k_asm); (case F => k_asm); (case X => k_asm); (case N => k_asm); (case T => k_asm); (case ck => first | exact rfl | assumption); (case dd => ktr_room); (case uu => ktr_units); (case K => assumption)); intro _ _ _ _ _ N9z e9z; obtain ⟨⟨t9z, e9z⟩, e8z⟩ := e9z; rw [e8z] at N9z; clear e8z; (have e9z := e9z.symm; subst e9z); (try dsimp only); (try k_fold)))) <;> k_steps))
 ·rename Fr _ _ _ _ => F9
  exact F9.keep
 with_reducible rename ((Txt.slice line (some _) none).length ≤ _) => hsl
 rw [e9] at hsl ⊢
 k_dflt (refine' parse_x _ _ _ _ _ _ _ _ _ ?hp ?hl hb hk2 hp3 _ _ _ _ _ _ _ _ _ _ _ _ _ _ _ _ _ _ _ _ ?B ?F ?X ?N ?T ?ck ?dd ?uu ?_; (case B => k_asm); (case F => k_asm); (case X => k_asm); (case N => k_asm); (case T => k_asm); (case ck => first | exact rfl | assumption); (case dd => ktr_room); (case uu => ktr_units); (case hp => k_mem); (case hl => omega))
 intro g5 e5 h5 tk5 F5 P5 U5
 obtain ⟨cls5, t5, vs5, news5, S5, sub5, end5⟩ := P5
 (rename_i zz0 zz1 zz2 zz3 zz4 zz5 zz6 zz7 zz8; revert e9z zz3 zz6 zz7 zz8 F5 U5 S5 sub5 end5; revert zz0 zz1 zz2 t9z zz4 zz5 g5 e5 h5 tk5 cls5 t5 vs5 news5; fail "CLi"; rename_i zz0 zz1 zz2 t9z zz4 zz5 g5 e5 h5 tk5 cls5 t5 vs5 news5 e9z zz3 zz6 zz7 zz8 F5 U5 S5 sub5 end5; fail "CLm")
 k_steps
 rename RaisedS _ _ (envX cn cs L a ccd cl :: outer) _ _ _ _ _ _ => S
 rename Heap.UpToSlots _ _ => U
 exact hE _ _ _ _ (by assumption) ⟨_, _, _, _, S, fun p hp => sub5 p (.tail _ (.tail _ (.tail _ (.tail _ hp)))), end5⟩ U
end Mine
end
section
open PySem PySem.W PySem.Spec PySem.Calls PyProof.Rows
open Builtin Builtin.Str Builtin.BaseException Builtin.Exceptions
namespace Mine
noncomputable def OwnExc (h : Heap) (e C : Addr) (t0 : Addr) : Prop := ∃ o vs, h.get? e = some o ∧ o.cls = .ref C ∧ o.data = .fields vs ∧ vs[0]? = some (.ref t0)
section
variable {prog : Program} {w : World} {A : Around} {E : Value → Shared → Prop} {s : Shared} {e t0 C : Addr} {K : Frag} {g : Heap}
theorem bexcArgs_own {M : Model} {items : List Value} {Q : Value × List Value → Shared → Prop} (x : OwnExc s.heap e C t0) (ht : s.heap.TupAt t0 items) (hq : Q (.ref t0, items) s) :
  wpAny M A (bexcArgs (.ref e)) Q E s := by
 refine ex2 x fun o vs h9_140 => an4 h9_140 fun ho _ hd h0 => ?_
 clear h9_140
 try clear x
 refine ex2 ht fun ot k h9_141 => an3 h9_141 fun hto _ htd => ?_
 clear h9_141
 try clear ht
 unfold bexcArgs
 refine wpAny_bind (wpAny_field ho hd h0 (wpAny_bind (wpAny_seqItems hto htd ?_)))
 have : items.toArray.toList = items := by simp
 show wpAny M A (pure (Value.ref t0, items.toArray.toList)) Q E s
 rw [this]; exact wpAny_pure hq
theorem bexcStr_own {m : PySem.Str} {tk : Tok} {Q : Fin → Shared → Prop} (x : OwnExc s.heap e C t0) (ht : s.heap.TupAt t0 [.str m tk]) (hq : Q (.done (.ret (.str m tk))) s) :
  wpAny (model prog w) A (Builtin.«BaseException.__str__» ⟨[.ref e], []⟩) Q E s := by
 unfold Builtin.«BaseException.__str__»
 repeat (first | with_reducible refine bexcArgs_own x ht ?_ | wp_step)
 exact hq
theorem typeOf_own {M : Model} {Q : Value → Shared → Prop} (x : OwnExc s.heap e C t0) (hq : Q (.ref C) s) : wpAny M A (typeOf (.ref e)) Q E s := by
 refine ex2 x fun o vs h9_142 => an3 h9_142 fun ho hc _ => ?_
 clear h9_142
 try clear x
 simp only [typeOf]
 exact wpAny_bind (wpAny_load ho (wpAny_pure (hc ▸ hq)))
theorem check_own {M : Model} {Q : Unit → Shared → Prop} (X : K.In s.heap) (hs : subIn K (.ref C) (.type "BaseException") = some true) (x : OwnExc s.heap e C t0) (hq : Q () s) :
  wpAny M A (checkBuiltinCall "BaseException.__str__" ⟨[.ref e], []⟩) Q E s := by
 have hk : builtinKind "BaseException.__str__" = some .slot := by decide +kernel
 have hp : splitId "BaseException.__str__" = some ("BaseException", "__str__") := by decide +kernel
 have ha := F.args_bexc_str (.ref e)
 simp only [checkBuiltinCall, hk, hp]
 refine wpAny_bind ?_
 simp only [isInstance]
 refine wpAny_bind (typeOf_own x ((looks_subIn (M := M) X hs).here ?_))
 simp only [Bool.not_true, Bool.false_eq_true, if_false]
 cases hsig : Manifest.signature? "BaseException.__str__" with
 | none => exact wpAny_pure hq
 | some sig =>
  simp only [argsOk, hsig] at ha
  have h2 : Bind.checkArgs "BaseException.__str__" sig ⟨[.ref e], []⟩ = pure () := ha
  show wpAny M A (Bind.checkArgs "BaseException.__str__" sig ⟨[.ref e], []⟩) Q E s
  rw [h2]; exact wpAny_pure hq
theorem strOf_own (hu : A.units < cLine) (X : K.In s.heap) (hs : subIn K (.ref C) (.type "BaseException") = some true) (hf : findIn K (.ref C) "__str__" = some (some (.builtin "BaseException.__str__"))) {m : PySem.Str} {tk : Tok} {Q : Value → Shared → Prop}
  (x : OwnExc s.heap e C t0) (ht : s.heap.TupAt t0 [.str m tk]) (hq : Q (.str m tk) s) : wpAny (model prog w) A (Builtin.Str.strOf (.ref e)) Q E s := by
 unfold Builtin.Str.strOf
 rw [show isExactStr (.ref e) = false from rfl]
 refine wpAny_bind (m := cRoomFor _ _) (wpAny_cRoomFor hu ?_)
 refine wpAny_bind (m := callSpecial? (.ref e) (Str.ofString "__str__")) ?_
 unfold callSpecial? specialOf
 refine wpAny_bind (wpAny_bind (typeOf_own x ((looks_findIn (M := model prog w) X hf).here ?_)))
 dsimp only
 refine wpAny_holding (wpAny_bind (wpAny_of_eq (F.excStr_Exception.str.bind _) ?_))
 refine wpAny_bind (wpAny_call (codeAny_call_builtin F.excStr_Exception.str.plain F.entry_bexc_str (check_own X hs x (bexcStr_own x ht ?_))))
 exact wpAny_pure (wpAny_pure hq)
theorem str_own (hu : A.units + 2 < cLine) (X : K.In s.heap) (hs : subIn K (.ref C) (.type "BaseException") = some true) (hf : findIn K (.ref C) "__str__" = some (some (.builtin "BaseException.__str__"))) {m : PySem.Str} {tk : Tok} {Q : Value → Shared → Prop}
  (x : OwnExc s.heap e C t0) (ht : s.heap.TupAt t0 [.str m tk]) (hq : Q (.str m tk) s) : wpAny (model prog w) A (call (.type "str") [.ref e]) Q E s :=
 callType_new F.called_str (by decide) (F.typeCall_str_1 _) (F.newCall_str_1 _) (fun obj => F.args_object_init_2 obj _) F.entry_str_new
  (meets_str_new (S := fun A' R s' => A'.units + 1 < cLine ∧ K.In s'.heap ∧ OwnExc s'.heap e C t0 ∧ s'.heap.TupAt t0 [.str m tk] ∧ R (.ok (.ret (.str m tk))) s')
   fun _ _ A' _ _ hq => strOf_own (A := A'.in1) hq.1 hq.2.1 hs hf hq.2.2.1 hq.2.2.2.1 hq.2.2.2.2)
  ⟨(show A.units + 1 + 1 < cLine from hu), X, x, ht, typeIs_str _ _ _, hq⟩
theorem str_gotO {h₀ : Heap} {L : Addr} {news : List (Addr × Obj)} {m : PySem.Str} {tk : Tok} {Q : Value → Shared → Prop} (hu : A.units + 2 < cLine) (X : K.In s.heap) (hs : subIn K (.ref C) (.type "BaseException") = some true) (hf : findIn K (.ref C) "__str__" = some (some (.builtin "BaseException.__str__")))
  (N : News h₀ L s.heap news) (G : Got news e t0 (.ref C) [.str m tk]) (hq : Q (.str m tk) s) : wpAny (model prog w) A (call (.type "str") [.ref e]) Q E s := by
 refine ex4 G fun oe ot ws nt h9_143 => an7 h9_143 fun he ht hc hd h0 htc htd => ?_
 clear h9_143
 try clear G
 exact str_own hu X hs hf ⟨oe, ws, (N _ he).1, hc, hd, h0⟩ ⟨ot, nt, (N _ ht).1, htc, htd⟩ hq
end
end Mine
end
section
open PySem PySem.W PySem.Spec PySem.Calls PyProof.Rows
namespace Mine
structure MkOk (mk : PySem.Str) : Prop where
 one : mk.length = 1
 h1 : (mk ++ Str.ofString ")" == mk ++ Str.ofString "q") = false
 h2 : (mk ++ Str.ofString ")" == mk ++ Str.ofString "q)") = false
 h3 : (Str.ofString "(" == Str.ofString "(" ++ mk) = false
 h4 : (mk ++ mk == mk) = false
 h5 : (mk ++ Str.ofString ")" == Str.ofString "q" ++ (mk ++ Str.ofString ")")) = false
noncomputable def spoils (x mk : PySem.Str) : List PySem.Str :=
 [replace1 x (Str.ofString "229") (Str.ofString "227"), replace1 x (Str.ofString "(") (Str.ofString ""), replace1 x (mk ++ Str.ofString ")") (mk ++ Str.ofString "q"), replace1 x (mk ++ Str.ofString ")") (mk ++ Str.ofString "q)"),
  replace1 x (Str.ofString "(") (Str.ofString "(" ++ mk), replace1 x (mk ++ mk) mk, replace1 x (mk ++ Str.ofString ")") (Str.ofString "q" ++ (mk ++ Str.ofString ")"))]
structure RefOk (clock mk : PySem.Str) (way : Int) (odd : PySem.Str) (line : PySem.Str) (lines : List PySem.Str) (h r : PySem.Str) (c : Nat) : Prop where
 len : clock.length ≤ 2000
 f0 : 0 ≤ Txt.find clock (Str.ofString "(")
 f1 : Txt.find clock (Str.ofString "(") + 1 < clock.length
 mkat : Txt.item clock (Txt.find clock (Str.ofString "(") + 1) = mk
 mkok : MkOk mk
 oddat : (spoils clock mk)[way.toNat]? = some odd
 olen : odd.length ≤ 3000
 o1 : Txt.find odd (Str.ofString ": ") = 4
 o2 : 0 ≤ Txt.find odd (Str.ofString "\r\n")
 o3 : Txt.slice odd (some 6) (some (Txt.find odd (Str.ofString "\r\n"))) = r
 sp : ∃ e1 e2, Txt.split odd (Str.ofString "\r\n") = (line :: lines) ++ [e1, e2]
 ll : lines.length ≤ 10
 lineq : LineQ line h r
 br : BrOk r
 par : parseK r = .error c
 cls : (way = 0 ∧ c = 0) ∨ (0 < way ∧ way < 6 ∧ c = 1) ∨ (way = 6 ∧ c = 2)
 p3 : ∀ a b c p3 e, Txt.split (Txt.slice r (some (Txt.find r (Str.ofString "(") + 1)) (some (Txt.find3 r (Str.ofString ")") (Txt.find r (Str.ofString "(") + 1)))) (Txt.item r (Txt.find r (Str.ofString "(") + 1)) = [a, b, c, p3, e] → ∀ x ∈ p3.cps.toList, x < 16 ^ 8
section
variable {prog : Program} {w : World} {A : Around} {E : Value → Shared → Prop} {s : Shared} {h₀ : Heap} {L D : Addr} {news : List (Addr × Obj)}
theorem item_pick {value slice : PySem.Expr} {vs : List Value} {ps : List PySem.Str} {n : Nat} {i : Int} {u : Tok} {Q : Value → Shared → Prop} (N : News h₀ L s.heap news) (hm : (D, listOf vs.toArray n) ∈ news) (hv : SV vs ps) (h0 : 0 ≤ i) (h1 : i < ps.length) (hl : ps.length ≤ 10000)
  (h : ∀ x tk, ps[i.toNat]? = some x → Q (.str x tk) s)
  (hs : subscripted slice false (.ref D) (.int i u) = operate [.ref D, .int i u] (getItem (.ref D) (.int i u)) := by with_unfolding_all rfl) :
  wpAny (model prog w) A (subscriptTail value slice (.ref D) (.int i u)) Q E s := by
 have hlen := hv.len
 have hlt : i.toNat < vs.length := by exact lin [_,_,_] [_] [(6,.v 0,.c (.v 0)),(2,.v 1,.v 0),(8,.c (.v 2),.v 0)] (0,.v 2,.v 1) [1,1,-1,1] [] rfl h1 hlen (Int.toNat_of_nonneg (by exact lin [] [_] [(7,.n 0,.v 0)] (7,.n 0,.v 0) [1,1] [] rfl h0))
 refine ex2 (hv.get (List.getElem?_eq_getElem hlt)) fun x tk h9_139 => an2 h9_139 fun e hx => ?_
 clear h9_139
 refine item_K N hm (k := i.toNat) (v := .str x tk) ?_ ?_ (by exact lin [] [_] [(7,.n 0,.v 0)] (7,.g (.n 1000000),.v 0) [1,1] [] rfl h0) (by exact lin [_] [_] [(6,.v 0,.c (.v 0)),(1,.v 0,.n 10000)] (7,.v 0,.n 1000000) [1,1,1] [] rfl h1 hl) (h x tk hx) hs
 ·have h9 := seqIndex_at (i := i) (n := vs.toArray.size) h0 (by rw [List.size_toArray]; exact lin [_,_] [_] [(6,.v 0,.c (.v 0)),(2,.v 1,.v 0)] (6,.v 0,.c (.v 1)) [1,1,-1] [] rfl h1 hlen)
  rw [h9]
 ·rw [← e]; simp
end
end Mine
end
section
open PySem PySem.W PySem.Spec PySem.Calls PyProof.Rows
namespace Mine
section
variable {prog : Program} {w : World} {A₀ A : Around} {s : Shared} {base h₀ : Heap} {L a : Addr} {m : PySem.Str → Option Value} {cn : PySem.Str} {cs : Scope} {ccd : Value} {news : List (Addr × Obj)} {K : Frag} {p : Program} {loose : List PySem.Str} {mean : ExcName → Option Value} {mg mb : PySem.Str → Option Value}
  {R : Result → Shared → Prop} {name qual : PySem.Str} {params : Arguments} {body : List Stmt} {scope : Scope} {dV kV doc pm cdv ct oc : Value} {an od : Option Addr} {osl : Array (Option Value)} {f : Addr} {args : Args} {binds : List (PySem.Str × Value)}
theorem code_defSC0C (B : Below A₀ base [] h₀) (F : Fr h₀ L s.heap m) (X₀ : K.In h₀) (N : News h₀ L s.heap news) (T : Top p loose mean mg mb h₀) (hA : A.frames = some [envOf cn cs L a ccd])
  (ho : K.lookup f = some ⟨oc, od, .func (fnOf name qual params body scope dV kV doc pm an cdv ct), osl⟩) (hcd : codeIn K cdv qual = true) (hroom : A.depth < recursionLimit)
  (hbind : BindsTo s (fnOf name qual params body scope dV kV doc pm an cdv ct) args binds) (hkind : (binds.all fun y => scope.names.lookup y.1 == some .local || scope.names.lookup y.1 == some .cell) = true)
  (hnd : ((cellsFrom 0 scope.names []).map (·.1)).Nodup)
  (h : ∀ g L' h₁ tk cells, Fr h₀ L g m → Fr g L' h₁ (bindL (envOfC qual scope L' f cdv).kindOf binds fun _ => none) → News g L' h₁ (cells ++ news) →
   CellsAre (bindC (envOfC qual scope L' f cdv).kindOf binds fun _ => none) (cellsFrom (L' + 1) scope.names []) cells → Below A base [envOf cn cs L a ccd] g → K.In g → Top p loose mean mg mb g → KtsDicts ([envOf cn cs L a ccd].filterMap (·.frame)) g → (∀ p ∈ news, p.1 < L') →
   wpC (model prog w) (A.deeper (envOfC qual scope L' f cdv)) (execs body (envOfC qual scope L' f cdv))
    (fun fl s' => LeaveS0 ([envOf cn cs L a ccd].filterMap (·.frame)) h₀ L m g R (match fl with | .ret v => v | _ => .none) s')
    (fun e s' => wpAny (model prog w) (A.deeper (envOfC qual scope L' f cdv)) (leaving (envOfC qual scope L' f cdv) e) (fun _ s'' => R (.error e) s'') (fun e' s'' => R (.error e') s'') s')
    { s with heap := h₁, toks := tk })
  (hck : cs.kind = .function) (hco : scope.isCoroutine = false) (hgen : scope.isGenerator = false) (hk : scope.kind = .function) : codeC (model prog w) A (.call (.ref f) args) R s := by
 have X := X₀.keeps F.keep
 refine ex3 (kts_enter B F N hA hck) fun oL es ep h9_144 => an6 h9_144 fun hLg hLd hN hNs st B₂ => ?_
 clear h9_144
 refine codeC_call_function hroom (X _ _ ho) rfl hco hgen rfl (codeRec_of X hcd) (hbind _ _ _ _ ?_)
 refine wpAny_newFunctionEnv_cells hk (kindsX hkind _) fun env' he s' x => ?_
 subst he
 refine ⟨(T.nolimit.keeps F.keep).keeps x.toInCall.keep, codeC_func ?_⟩
 refine ex2 x.done fun h₁ tk h9_146 => an2 h9_146 fun eq9_145 _ => ?_
 clear h9_146
 subst eq9_145
 have hk₁ := x.toInCall.keep
 refine ex1 (Cl.news (h₀ := s.heap) (Nat.le_refl _) fun n c hm => ⟨x.cell n c (lookup_of_mem_nodup (cellsFrom_names scope.names 0 (s.heap.objs.size + 1) [] [] rfl ▸ hnd) hm), x.above n c hm⟩) fun cells h9_147 => an2 h9_147 fun NC Y => ?_
 clear h9_147
 refine wpC_mono (h _ s.heap.objs.size h₁ tk cells ⟨hN _ hLg, st, F.above⟩ ⟨x.toInCall.ns, fun b o e => hk₁ b o (of_hideAll _ e), Nat.le_of_eq (hideAll_size _ _)⟩ (fun p hp => ?_) Y B₂ (X₀.keeps st) (T.keeps st) (fun b hb => by
   rcases kts_mem hb with rfl | z
   ·exact ⟨oL, es, ep, hLg, hLd⟩
   ·simp at z) (fun p hp => Heap.lt_size (N p hp).1)) (fun fl s' hl => ?_) fun _ _ y => y
 ·rcases List.mem_append.mp hp with hp | hp
  ·refine ⟨(NC p hp).1, (NC p hp).2.1, ?_⟩
   cases q : (hideAll s.heap (news.map (·.1))).get? p.1 with
   | none => rfl
   | some o => have := of_hideAll _ q; rw [(NC p hp).2.2] at this; cases this
  ·exact ⟨hk₁ _ _ (N p hp).1, Nat.ne_of_lt (Heap.lt_size (N p hp).1), hideAll_none _ (List.mem_map_of_mem hp)⟩
 refine ex4 hl fun g' L' m' news' h9_148 => an4 h9_148 fun T' F' N' k => ?_
 clear h9_148
 try clear hl
 have nL₀ : h₀.get? L = none := kts_self F
 refine ex1 (T'.up hLg) fun sl hs => ?_
 refine k ⟨hNs sl _ (F'.keep _ _ hs), fun b o e => F'.keep b o (T'.other b o (st b o e) (fun q => by
  rcases kts_mem q with z | z
  ·rw [z, nL₀] at e
   cases e
  ·simp at z)), F.above⟩ fun p hp => ⟨(N' p hp).1, fun q => ?_, ?_⟩
 ·have := (N' p hp).2.2; rw [q, hs] at this; cases this
 ·cases q : h₀.get? p.1 with
  | none => rfl
  | some o =>
   refine ex1 (T'.up (st _ _ q)) fun sl' hs' => ?_
   have := (N' p hp).2.2
   rw [hs'] at this
   cases this
end
section
variable {prog : Program} {w : World} {A : Around} {E : Value → Shared → Prop} {s : Shared} {env : Env} {body : List Stmt} {Q : Flow → Shared → Prop}
theorem iter_rangeC {h₀ : Heap} (top : Nat) {x : PySem.Str} {px : Pos} {r : Addr} {t₀ u₀ v₀ : Tok} {n : Nat} {m₀ : PySem.Str → Option Value} {news : List (Addr × Obj)} (J : Heap → Nat → (PySem.Str → Option Value) → List (Addr × Obj) → Prop)
  (hh : A.handled = none) (hr : IsRange s.heap r 0 (n : Int) 1 t₀ u₀ v₀) (hsmall : Builtin.Range.small 0 (n : Int) 1 = true) (hn : Builtin.Range.rangeSize 0 (n : Int) 1 = (n : Int)) (F : Fr h₀ env.locals s.heap m₀) (N : News h₀ env.locals s.heap news)
  (htop : top < s.heap.objs.size) (hJ : J h₀ 0 m₀ news)
  (turn : ∀ i g m₁ nx I t h tk, i < n → @LT.lt Nat _ top I → J g i m₁ nx → (∀ p ∈ nx, p.1 ≠ I) → Fr g env.locals h m₁ → News g env.locals h ((I, itR ((i + 1 : Nat) : Int) ((n : Int) - ((i + 1 : Nat) : Int))) :: nx) →
   wpAny (model prog w) A (assign (.Name x px) env (.int (i : Int) t)) (fun _ s₂ => wpC (model prog w) A (execs body env)
    (RngPost env.locals (fun g' m' nx' => J g' (i + 1) m' nx') I (itR ((i + 1 : Nat) : Int) ((n : Int) - ((i + 1 : Nat) : Int))) { s with heap := h, toks := tk } Q) E s₂) E { s with heap := h, toks := tk })
  (done : ∀ g m' nx h tk, J g n m' nx → Fr g env.locals h m' → News g env.locals h nx → Q .next { s with heap := h, toks := tk }) :
  wpAny (model prog w) A (pyIter (.ref r)) (fun it s₂ => AtC prog w A env (.Name x px) body Q E it s₂) E s := by
 refine wpAny_pyIter_range hr hsmall ?_
 generalize hI : s.heap.objs.size = I
 have W : Walks prog w A I [I] [I] n (fun i v => ∃ t, v = .int ((0 : Int) + i * 1) t) (fun i h => IsRangeIter h I ((0 : Int) + (i : Nat) * 1) ((n : Int) - (i : Nat)) 1) := Walks.range hh I 0 1 n
 have hnI : ∀ p ∈ news, p.1 ≠ I := fun p hp e => absurd (Heap.lt_size (N p hp).1) (by rw [e, hI]; exact Nat.lt_irrefl _)
 have hLI : env.locals ≠ I := fun e => absurd F.ns.lt (by rw [e, hI]; exact Nat.lt_irrefl _)
 refine ⟨fun k s' => ∃ g h' tk m' nx i, s' = { s with heap := h', toks := tk } ∧ IsRangeIter h' I ((0 : Int) + (i : Nat) * 1) ((n : Int) - (i : Nat)) 1 ∧ Fr g env.locals h' m' ∧ News g env.locals h' nx ∧ (∀ p ∈ nx, p.1 ≠ I) ∧ g.get? I = none ∧ J g i m' nx ∧ i ≤ n ∧ k = n + 1 - i, n + 1, ?_, ?_⟩
 ·refine ⟨h₀, _, _, m₀, news, 0, rfl, ?_, F.push _, (fun p hp => ⟨Heap.get?_push_of_some _ (N p hp).1, (N p hp).2⟩), hnI, ?_, hJ, Nat.zero_le _, rfl⟩
  ·show IsRangeIter _ _ _ _ _
   rw [hn, ← hI]
   simpa using Heap.get?_push_size _ rfl
  ·rw [← hI]; exact next_is_new F
 intro k s' hI9_137
 refine ex6 hI9_137 fun g h' tk m' nx i h9_151 => an9 h9_151 fun eq9_149 hst F' N' hne hgI hj hi eq9_150 => ?_
 clear h9_151
 try clear hI9_137
 subst eq9_149
 subst eq9_150
 have next : ∀ h₁ : Heap, (∀ b o, b ∉ [I] → h'.get? b = some o → h₁.get? b = some o) → Fr g env.locals h₁ m' ∧ News g env.locals h₁ nx := fun h₁ hk₁ =>
  ⟨⟨F'.ns.at' fun o e => hk₁ _ o (by simpa using hLI) e, fun b o e => hk₁ b o (fun q => by rw [List.mem_singleton.mp q, hgI] at e; cases e) (F'.keep b o e), F'.above⟩, fun p hp => ⟨hk₁ _ _ (by simpa using hne p hp) (N' p hp).1, (N' p hp).2⟩⟩
 by_cases hlt : i < n
 ·refine W.item i _ _ _ hlt hst fun v h₁ tk₁ hP hst₁ hk₁ => ?_
  refine an2 (next h₁ hk₁) fun F₁ N₁ => ?_
  refine ex1 hP fun t eq9_152 => ?_
  try clear hP
  subst eq9_152
  have e1 : (0 : Int) + (i : Int) * 1 = (i : Int) := by exact lin [_] [] [] (8,.a (.n 0) (.r (.c (.v 0)) 1),.c (.v 0)) [1] [1] rfl
  have e2 : (0 : Int) + ((i + 1 : Nat) : Int) * 1 = ((i + 1 : Nat) : Int) := by exact lin [_] [] [] (8,.a (.n 0) (.r (.c (.a (.v 0) (.n 1))) 1),.c (.a (.v 0) (.n 1))) [1] [1] rfl
  dsimp only
  rw [e1]
  have hst₂ : h₁.get? I = some (itR ((i + 1 : Nat) : Int) ((n : Int) - ((i + 1 : Nat) : Int))) := by
   have q : IsRangeIter h₁ I ((0 : Int) + ((i + 1 : Nat) : Int) * 1) ((n : Int) - ((i + 1 : Nat) : Int)) 1 := hst₁
   rw [e2] at q
   exact q
  have N₂ : News g env.locals h₁ ((I, itR ((i + 1 : Nat) : Int) ((n : Int) - ((i + 1 : Nat) : Int))) :: nx) := fun p hp => by
   rcases List.mem_cons.mp hp with rfl | hp
   ·exact ⟨hst₂, fun e => hLI e.symm, hgI⟩
   ·exact N₁ p hp
  unfold letOwnedTupleGo
  refine wpAny_pure (wpAny_mono (turn i g m' nx I t h₁ tk₁ hlt (hI ▸ htop) hj hne F₁ N₂) (fun _ s₂ q => wpC_mono q (fun f s₃ q₃ => ?_) fun _ _ e => e) fun _ _ e => e)
  have fin : RngEnd env.locals (fun g' m' nx' => J g' (i + 1) m' nx') I (itR ((i + 1 : Nat) : Int) ((n : Int) - ((i + 1 : Nat) : Int))) { s with heap := h₁, toks := tk₁ } s₃ →
    ∃ k, k < n + 1 - i ∧ ∃ g h' tk m' nx i, s₃ = { s with heap := h', toks := tk } ∧ IsRangeIter h' I ((0 : Int) + (i : Nat) * 1) ((n : Int) - (i : Nat)) 1 ∧ Fr g env.locals h' m' ∧ News g env.locals h' nx ∧ (∀ p ∈ nx, p.1 ≠ I) ∧ g.get? I = none ∧ J g i m' nx ∧ i ≤ n ∧ k = n + 1 - i := by
   intro hI9_138
   refine ex5 hI9_138 fun g' h' tk m' nx' h9_153 => an5 h9_153 fun e F' N' hne' hj' => ?_
   clear h9_153
   try clear hI9_138
   refine ⟨n + 1 - (i + 1), by exact lin [_,_,_,_] [] [(2,.a (.v 0) (.a (.v 1) (.n 1)),.a (.v 2) (.n 1)),(2,.a (.v 3) (.v 1),.a (.v 2) (.n 1))] (0,.v 0,.v 3) [1,1,-1] [] rfl (Nat.sub_add_cancel (by exact lin [_,_] [] [(0,.v 0,.v 1)] (1,.a (.v 0) (.n 1),.a (.v 1) (.n 1)) [1,1] [] rfl hlt)) (Nat.sub_add_cancel (by exact lin [_,_] [] [(0,.v 0,.v 1)] (1,.v 0,.a (.v 1) (.n 1)) [1,1] [] rfl hlt)), g', h', tk, m', nx', i + 1, e, ?_, F', (fun p hp => N' p (.tail _ hp)), hne', (N' _ (.head _)).2.2, hj', hlt, rfl⟩
   show IsRangeIter _ _ _ _ _
   rw [e2]
   exact (N' _ (.head _)).1
  cases f with
  | ret v => exact q₃
  | brk => exact q₃
  | next => exact fin q₃
  | cont => exact fin q₃
 ·have hin : i = n := by exact lin [_,_] [] [(1,.v 0,.v 1),(3,.v 0,.v 1)] (2,.v 0,.v 1) [1,1,0] [1,0,1] rfl hi hlt
  subst hin
  refine W.done _ _ _ hst fun h₁ tk₁ hk₁ => ?_
  refine an2 (next h₁ hk₁) fun F₁ N₁ => ?_
  exact done g m' nx h₁ tk₁ hj F₁ N₁
end
end Mine
end
section
local macro_rules | `(tactic| omega) => `(tactic| fail "OL")
theorem Mine.clean_A18 : Mine.CleanT := by
 intro M A Q E s h
 w_top off
 first
  | (walk1; fail_if_success skip)
  | exact h
open PySem PySem.W PyProof.Rows
namespace Mine
theorem beq0 {n : Nat} (h : n ≠ 0) : (n == 0) = false := by simpa using h
local macro_rules | `(tactic| walk_at "subscriptTail") => `(tactic| ((with_reducible show wpAny _ _ (subscriptTail _ _ (Value.str _ _) (Value.int _ _)) _ _ _); refine Au.un 5 ?_))
local macro_rules | `(tactic| walk_at "binaryOp Add str str") => `(tactic| refine Au.un 1 ?_)
local macro_rules | `(tactic| walk_at "call builtin:str.replace") => `(tactic| refine Au.un 2 ?_)
local macro_rules | `(tactic| walk_at "subscriptTail") => `(tactic| refine Au.un 5 ?_)
local macro_rules | `(tactic| walk_at "call type:str") => `(tactic| ((with_reducible show wpAny _ _ (call (Value.type "str") [Value.ref _]) _ _ _); refine Au.un 3 ?_))
local macro_rules | `(tactic| walk_at "execs cons") => `(tactic| refine Au.un 4 ?_)
theorem refused_spc (w : World) (clock mk : PySem.Str) (t : Tok) (way : Int) (tw : Tok) (odd line : PySem.Str) (lines : List PySem.Str) (h r : PySem.Str) (c : Nat) (R : RefOk clock mk way odd line lines h r c) (news : List (Addr × Obj))
  (mean : ExcName → Option Value) (mg mb : PySem.Str → Option Value) (dp un : Nat) (gd : Option (List Code)) (cn : PySem.Str) (cs : Scope) (a : Addr) (ccd : Value) (cl : List (PySem.Str × Addr)) (outer : List Env) (A₀ : Around) (base h₀ g₀ : Heap) (L : Addr) (m : PySem.Str → Option Value) (s : Shared) (Q E : Value → Shared → Prop)
  (B : Below A₀ base outer h₀) (F : Fr h₀ L s.heap m) (X : (hd.heap_1 w.params).In h₀) (N : News h₀ L s.heap news) (T : Top hd.view_39 LO mean mg mb h₀) (hk : cs.kind = .function)
  (hd : dp + 6 < recursionLimit) (hu : un + 8 * 6 < cLine)
  (XB : (Mine.hd.heap_1 w.params).In base) (TB : Top Mine.hd.view_39 LO mean mg mb base) (D : KtsDicts (outer.filterMap (·.frame)) h₀) (T0 : KtsTurn (outer.filterMap (·.frame)) g₀ h₀)
  (hret : ∀ h₀' h' tk', KtsTurn (outer.filterMap (·.frame)) g₀ h₀' → Fr h₀' L h' m → News h₀' L h' news → Below A₀ base outer h₀' → (Mine.hd.heap_1 w.params).In h₀' → Top Mine.hd.view_39 LO mean mg mb h₀' → KtsDicts (outer.filterMap (·.frame)) h₀' → Q (.bool true) { s with heap := h', toks := tk' }) :
  wpC (model PR w) (ktrTop dp un gd cn cs L a ccd cl outer) (call (.ref 259) [.str clock t, .int way tw]) Q E s := by
 obtain ⟨hcl, hf, hf2, hmk, ⟨hm1, m1, m2, m3, m4, m5⟩, hodd, holen, ho1, ho2, ho3, ⟨e1, e2, hsp⟩, hll, hK, hbr, hpar, hcls, hp3⟩ := R
 have h0 : 0 ≤ way := by omega
 have h1 : way < 7 := by omega
 subst hmk
 (revert B F X N T hk hd hu XB TB D T0 hret hcl hf hf2 holen ho1 ho2 ho3 hll hK hbr hpar hcls hp3 hsp h0 h1 hodd hm1 m1 m2 m3 m4 m5; revert w clock t way tw odd line lines h r c news mean mg mb dp un gd cn cs a ccd cl outer A₀ base h₀ g₀ L m s Q E e1 e2; fail "CLi"; rename_i w clock t way tw odd line lines h r c news mean mg mb dp un gd cn cs a ccd cl outer A₀ base h₀ g₀ L m s Q E e1 e2 B F X N T hk hd hu XB TB D T0 hret hcl hf hf2 holen ho1 ho2 ho3 hll hK hbr hpar hcls hp3 hsp h0 h1 hodd hm1 m1 m2 m3 m4 m5; fail "CLm")
 refine wpC_call ?_
 k_dflt (refine' code_defSXC ?k1 ?k2 ?k3 ?k4 ?k5 ?XB ?TB ?D ?T0 ?kA ?kF ?kK ?k6 ?k7 ?k8 ?k9 ?kB ?_ ?c2 ?c3 ?c4 ?c5; (case kA => exact rfl); (case kF => exact rfl); (case kK => assumption); (case k1 => k_asm); (case k2 => k_asm); (case k3 => k_asm); (case k4 => k_asm); (case k5 => k_asm); (case XB => assumption); (case TB => assumption); (case D => assumption); (case T0 => assumption); (case k6 => k_is); (case k7 => k_is); (case k8 => ktr_room); (case k9 => first | exact BindsTo.of_eq rfl | exact binds_K (by k_in) rfl (by k_is) rfl rfl rfl); (case c5 => decide); (case kB => exact locs rfl); (case c2 => exact rfl); (case c3 => exact rfl); (case c4 => exact rfl); k_whole; intro g' L' h' FG' F' N' B' X' T' D'; (try dsimp only); (try k_lift B'); (try k_fold))
 refine wpC_take 4 ?_
 dsimp only [List.take, List.drop]
 (revert FG' F' N' B' X' T' D'; revert g' L' h'; fail "CLi"; rename_i g' L' h' FG' F' N' B' X' T' D'; fail "CLm")
 (k_steps; repeat' ((first | ((with_reducible refine Au.mk 1 ?_); ((k_here; (refine' add_new ?x ?y ?z ?_; (case x => first | decide +kernel | exact beq0 (by first | omega | (simp only [Str.length_append]; (try kopn_lits); omega))); (case y => first | decide +kernel | exact beq0 (by first | omega | (simp only [Str.length_append]; (try kopn_lits); omega))); (case z => ((try simp only [Str.length_append]); (try kopn_lits); omega)))))) | ((with_reducible refine Au.mk 2 ?_); ((k_here; (refine' call_replace1 ?u ?v ?uv ?yz ?y ?x ?z ?_; (case u => ((try dsimp only); (show @Ne Nat _ _); omega)); (case v => ((try dsimp only); (show @Ne Nat _ _); omega)); (case uv => ((try dsimp only); (show @Ne Nat _ _); omega)); (case yz => first | assumption | decide +kernel); (case y => first | decide +kernel | exact beq0 (by (simp only [Str.length_append]; (try kopn_lits); omega))); (case x => omega); (case z => first | decide +kernel | omega | (simp only [Str.length_append]; (try kopn_lits); omega))); intro t9z k9z hk9z; (try dsimp only at hk9z)))) | ((with_reducible refine Au.mk 4 ?_); ((k_here; (with_reducible refine wpAny_execs_cons ?_); (try dsimp only)))) | ((with_reducible refine Au.mk 5 ?_); (((with_reducible show wpAny _ _ (subscriptTail _ _ (Value.ref _) (Value.int _ _)) _ _ _); refine Hold.un ?_)))) <;> k_steps))
 ·exfalso; omega
 refine Hold.mk ?_
 rename News _ _ _ _ => N9
 refine item_pick (ps := spoils clock _) N9 (.head _) ⟨[(_, _), (_, _), (_, _), (_, _), (_, _), (_, _), (_, _)], rfl, rfl⟩ h0 (by show way < 7; exact h1) (by show 7 ≤ 10000; decide) ?_
 intro x9 tk9 hx9
 rw [hodd] at hx9
 cases hx9
 (rename_i zz0 zz1 zz2 zz3 zz4 zz5 zz6 zz7 zz8 zz9 zz10 zz11 zz12 zz13 zz14 zz15 zz16 zz17 zz18 zz19 zz20 zz21; revert zz2 zz5 zz8 zz11 zz14 zz17 hk9z zz20 N9 zz21; revert zz0 zz1 zz3 zz4 zz6 zz7 zz9 zz10 zz12 zz13 zz15 zz16 t9z k9z zz18 zz19 tk9; fail "CLi"; rename_i zz0 zz1 zz3 zz4 zz6 zz7 zz9 zz10 zz12 zz13 zz15 zz16 t9z k9z zz18 zz19 tk9 zz2 zz5 zz8 zz11 zz14 zz17 hk9z zz20 N9 zz21; fail "CLm")
 (k_steps; repeat' (((with_reducible refine Au.mk 4 ?_); ((k_here; (with_reducible refine wpAny_execs_cons ?_); (try dsimp only)))) <;> k_steps))
 ·exfalso; omega
 ·exfalso; omega
 show wpC _ _ (execs _ _) _ _ _
 refine wpC_execs_cons (wpC_Try (wpC_execs_cons (wpC_Expr_no (evalC_Call_Name ?_))))
 k_steps
 refine' callWithC_K ?X ?ho ?_
 case X => assumption
 case ho => k_is
 k_steps
 ·rename Fr _ _ _ _ => F9
  exact F9.keep
 k_dflt (refine' heard_x _ c odd _ line lines h r e1 e2 _ holen hsp hll hK hbr hpar hp3 _ _ _ _ _ _ _ _ _ _ _ _ _ _ _ _ _ _ _ _ ?B ?F ?X ?N ?T ?ck ?dd ?uu ?_; (case B => k_asm); (case F => k_asm); (case X => k_asm); (case N => k_asm); (case T => k_asm); (case ck => first | exact rfl | assumption); (case dd => ktr_room); (case uu => ktr_units))
 intro g5 e5 h5 tk5 F5 P5 U5
 obtain ⟨cls5, t5, vs5, news5, S5, sub5, end5⟩ := P5
 rcases hcls with ⟨rfl, rfl⟩ | ⟨hw1, hw2, rfl⟩ | ⟨rfl, rfl⟩
 ·obtain ⟨rfl, tk7, rfl⟩ := end5
  (rename_i zz0; revert U5 sub5 h0 h1 hodd zz2 zz0 F5 hpar S5; revert g5 e5 h5 tk5 t5 news5 tk7; fail "CLi"; rename_i g5 e5 h5 tk5 t5 news5 tk7 U5 sub5 h0 h1 hodd zz2 zz0 F5 hpar S5; fail "CLm")
  (k_steps; repeat' ((first | ((with_reducible refine Au.mk 3 ?_); ((k_here; (with_reducible show wpAny _ _ (call (Value.type "str") [Value.ref _]) _ _ _); k_dflt (refine' str_gotO ?u ?X ?s ?f ?N ?G ?_; (case G => assumption); (case N => assumption); (case u => first | ktr_units | units_room | k_units); (case X => k_in); (case s => k_is); (case f => k_is))))) | ((with_reducible refine Au.mk 4 ?_); ((k_here; (with_reducible refine wpAny_execs_cons ?_); (try dsimp only))))) <;> k_steps))
  have e9 : (r == Txt.slice odd (some (Txt.find odd (Str.ofString ": ") + 2)) (some (Txt.find odd (Str.ofString "\r\n")))) = true := by
   rw [ho1]
   show (r == Txt.slice odd (some 6) _) = true
   rw [ho3]
   exact beq_self_eq_true r
  rw [e9]
  rename News _ _ _ news5 => N9
  exact hret _ _ _ (by assumption) (by assumption) (fun p hp => N9 p (sub5 p (.tail _ hp))) (by assumption) (by assumption) (by assumption) (by assumption)
 ·obtain ⟨rfl, tk7, rfl⟩ := end5
  (revert F5 U5 sub5 hw1 hw2 hpar S5; revert g5 e5 h5 tk5 t5 news5 tk7; fail "CLi"; rename_i g5 e5 h5 tk5 t5 news5 tk7 F5 U5 sub5 hw1 hw2 hpar S5; fail "CLm")
  (k_steps; repeat' ((first | ((with_reducible refine Au.mk 3 ?_); ((k_here; (with_reducible show wpAny _ _ (call (Value.type "str") [Value.ref _]) _ _ _); k_dflt (refine' str_gotO ?u ?X ?s ?f ?N ?G ?_; (case G => assumption); (case N => assumption); (case u => first | ktr_units | units_room | k_units); (case X => k_in); (case s => k_is); (case f => k_is))))) | ((with_reducible refine Au.mk 4 ?_); ((k_here; (with_reducible refine wpAny_execs_cons ?_); (try dsimp only))))) <;> k_steps))
  all_goals try (exfalso; omega)
  have e9 : (r == Txt.slice odd (some (Txt.find odd (Str.ofString ": ") + 2)) (some (Txt.find odd (Str.ofString "\r\n")))) = true := by
   rw [ho1]
   show (r == Txt.slice odd (some 6) _) = true
   rw [ho3]
   exact beq_self_eq_true r
  rw [e9]
  rename News _ _ _ news5 => N9
  exact hret _ _ _ (by assumption) (by assumption) (fun p hp => N9 p (sub5 p (.tail _ hp))) (by assumption) (by assumption) (by assumption) (by assumption)
 ·obtain rfl := end5
  (rename_i zz0; revert U5 sub5 h0 h1 hodd zz2 zz0 F5 hpar S5; revert g5 e5 h5 tk5 t5 vs5 news5; fail "CLi"; rename_i g5 e5 h5 tk5 t5 vs5 news5 U5 sub5 h0 h1 hodd zz2 zz0 F5 hpar S5; fail "CLm")
  (k_steps; repeat' (((with_reducible refine Au.mk 4 ?_); ((k_here; (with_reducible refine wpAny_execs_cons ?_); (try dsimp only)))) <;> k_steps))
  show Q (.bool true) _
  rename News _ _ _ news5 => N9
  exact hret _ _ _ (by assumption) (by assumption) (fun p hp => N9 p (sub5 p (.tail _ hp))) (by assumption) (by assumption) (by assumption) (by assumption)
end Mine
end
section
local macro_rules | `(tactic| omega) => `(tactic| fail "OL")
theorem Mine.clean_A19 : Mine.CleanT := by
 intro M A Q E s h
 w_top off
 first
  | (walk1; fail_if_success skip)
  | exact h
open PySem PySem.W PyProof.Rows
namespace Mine
noncomputable def RHdr (news : List (Addr × Obj)) (r : Value) (news' : List (Addr × Obj)) : Prop :=
 ∃ x d l hsh tk, r = .ref x ∧ news' = (l, listOf (List.toArray []) 0) :: (x, instObj 229 d) :: (d, dictOf [⟨hsh, .str (Str.ofString "_headers") tk, .ref l⟩] 1) :: news ∧ (∀ p ∈ news, p.1 < d) ∧ d < x ∧ x < l
local macro_rules | `(tactic| walk_at "exec For") => `(tactic| (refine Hold.un ?_))
local macro_rules | `(tactic| walk_at "call ref") => `(tactic| refine Au.un 1 ?_)
theorem headers_spc (w : World) (news : List (Addr × Obj)) : Spc w 229 2 [] news (RHdr news) := by
 intro mean mg mb dp un gd cn cs a ccd cl outer A₀ base h₀ L m s Q E B F X N T hk hd hu hret
 (revert B F X N T hk hd hu hret; revert w news mean mg mb dp un gd cn cs a ccd cl outer A₀ base h₀ L m s Q E; fail "CLi"; rename_i w news mean mg mb dp un gd cn cs a ccd cl outer A₀ base h₀ L m s Q E B F X N T hk hd hu hret; fail "CLm")
 (k_steps; repeat' (((with_reducible refine Au.mk 1 ?_); ((k_here; k_dflt (refine' call_cls ?k1 ?k2 ?k3 ?k4 ?k5 ?k6 ?_; (case k1 => k_asm); (case k2 => k_asm); (case k3 => k_asm); (case k4 => k_is); (case k5 => k_is); (case k6 => k_is); k_whole; intro x'z d'z h'z F'z N'z l1z l2z; (try k_lt l1z); (try k_lt2 l2z); (try k_sweep)); k_dflt (refine' code_def ?k1 ?k2 ?k3 ?k4 ?k5 ?kA ?kF ?kK ?k6 ?k7 ?k8 ?k9 ?kB ?_ ?c2 ?c3 ?c4 ?c5; (case kA => exact rfl); (case kF => exact rfl); (case kK => first | exact rfl | assumption); (case k1 => k_asm); (case k2 => k_asm); (case k3 => k_asm); (case k4 => k_asm); (case k5 => k_asm); (case k6 => k_is); (case k7 => k_is); (case k8 => ktr_room); (case k9 => first | exact BindsTo.of_eq rfl | exact binds_K (by k_in) rfl (by k_is) rfl rfl rfl); (case c5 => decide); (case kB => exact locs rfl); (case c2 => exact rfl); (case c3 => exact rfl); (case c4 => exact rfl); k_whole; intro g'z L'z h'z FG'z F'z N'z B'z X'z T'z; (try dsimp only); (try k_lift B'z); (try k_fold))))) <;> k_steps))
 refine Hold.mk ?_
 rename Fr _ _ _ _ => F9
 rename News _ _ _ _ => N9
 refine For_turns F9 ?_
 k_steps
 refine kt_list (vs := []) (fun _ m' nx => m' = _ ∧ nx = _) rfl (.head _) F9 N9 ⟨rfl, rfl⟩ (fun i v _ _ _ _ _ hv => nomatch hv) ?_
 rintro m₁ nx h tk ⟨rfl, rfl⟩ F₁ N₁
 clear F9 N9
 (revert F₁ N₁; revert h tk; fail "CLi"; rename_i h tk F₁ N₁; fail "CLm")
 k_steps
 rename News _ _ _ _ => N5
 rename _ ∧ _ ∧ AllLt _ _ => l9
 exact hret _ _ _ _ (by k_asm) N5 ⟨_, _, _, _, _, rfl, rfl, by assumption, by assumption, l9.1⟩
end Mine
end
section
open PySem PySem.W PyProof.Rows
namespace Mine
section
variable (ns : List Int)
noncomputable def rN (k : Nat) : Int := ns.getD k 0
noncomputable def rHost (k : Nat) : Int := (rN ns k).fmod 3
noncomputable def rRest (k : Nat) : Int := (rN ns k).fdiv 3
noncomputable def rSrc (k : Nat) : Int := (rRest ns k).fmod ((k : Int) + 1)
noncomputable def rRest2 (k : Nat) : Int := (rRest ns k).fdiv ((k : Int) + 1)
noncomputable def rWay (k : Nat) : Int := (rRest2 ns k).fmod 16 - 9
noncomputable def rDress (k : Nat) : Int := (rRest2 ns k).fdiv 16
noncomputable def rH (k : Nat) : PySem.Str := Txt.item (Str.ofString "abc") (rHost ns k)
noncomputable def rHear (k : Nat) : Option Nat := if rSrc ns k < k ∧ rWay ns k < 0 then some (rSrc ns k).toNat else none
end
section
variable (H : Nat → PySem.Str) (src : Nat → Option Nat) (dr : Nat → Int)
noncomputable def evAt (T : Nat → List ToldM) (k : Nat) : List ToldM := event (tAt T (lastOf H (H k) k)) (tAt T (src k)) (H k) (dr k)
noncomputable def runTn : Nat → Nat → List ToldM
 | 0, _ => []
 | n + 1, j => if j = n then evAt H src dr (runTn n) n else runTn n j
noncomputable def pastAt (P : Nat → Nat → Bool) (k i : Nat) : Bool := i == k || (decide (i < k) && (List.range k).any fun j => (H j == H k || src k == some j) && P i j)
noncomputable def runPn : Nat → Nat → Nat → Bool
 | 0, _, _ => false
 | n + 1, i, j => if j = n then pastAt H src (runPn n) n i else runPn n i j
variable {H src dr}
theorem runTn_eq : ∀ {n j : Nat}, j < n → runTn H src dr n j = runTn H src dr (j + 1) j
 | 0, _, h => absurd h (Nat.not_lt_zero _)
 | n + 1, j, h => by
  rcases Nat.lt_or_eq_of_le (Nat.le_of_lt_succ h) with h | rfl
  ·rw [show runTn H src dr (n + 1) j = if j = n then evAt H src dr (runTn H src dr n) n else runTn H src dr n j from rfl, if_neg (Nat.ne_of_lt h)]
   exact runTn_eq h
  ·rfl
theorem runPn_eq : ∀ {n i j : Nat}, j < n → runPn H src n i j = runPn H src (j + 1) i j
 | 0, _, _, h => absurd h (Nat.not_lt_zero _)
 | n + 1, i, j, h => by
  rcases Nat.lt_or_eq_of_le (Nat.le_of_lt_succ h) with h | rfl
  ·rw [show runPn H src (n + 1) i j = if j = n then pastAt H src (runPn H src n) n i else runPn H src n i j from rfl, if_neg (Nat.ne_of_lt h)]
   exact runPn_eq h
  ·rfl
theorem tAt_cong {T T' : Nat → List ToldM} {o : Option Nat} (h : ∀ j, o = some j → T j = T' j) : tAt T o = tAt T' o := by
 cases o with
 | none => rfl
 | some j => exact h j rfl
theorem runT_ev (hs : ∀ k s, src k = some s → s < k) (k : Nat) : runTn H src dr (k + 1) k = evAt H src dr (fun j => runTn H src dr (j + 1) j) k := by
 rw [show runTn H src dr (k + 1) k = if k = k then evAt H src dr (runTn H src dr k) k else runTn H src dr k k from rfl, if_pos rfl]
 unfold evAt
 rw [tAt_cong (T' := fun j => runTn H src dr (j + 1) j) fun j e => runTn_eq (lastOf_some e).1, tAt_cong (T' := fun j => runTn H src dr (j + 1) j) (o := src k) fun j e => runTn_eq (hs k j e)]
theorem any_cong {l : List Nat} {p q : Nat → Bool} (h : ∀ x ∈ l, p x = q x) : l.any p = l.any q := by
 induction l with
 | nil => rfl
 | cons a r ih => rw [List.any_cons, List.any_cons, h a (.head _), ih fun x hx => h x (.tail _ hx)]
theorem runP_at (k i : Nat) : runPn H src (k + 1) i k = pastAt H src (fun i j => runPn H src (j + 1) i j) k i := by
 rw [show runPn H src (k + 1) i k = if k = k then pastAt H src (runPn H src k) k i else runPn H src k i k from rfl, if_pos rfl]
 unfold pastAt
 rw [any_cong fun x hx => by rw [runPn_eq (List.mem_range.mp hx)]]
end
section
variable (ns : List Int)
noncomputable def rT (j : Nat) : List ToldM := runTn (rH ns) (rHear ns) (rDress ns) (j + 1) j
noncomputable def rP (i j : Nat) : Bool := runPn (rH ns) (rHear ns) (j + 1) i j
noncomputable def pastL (k : Nat) : List Int := ((List.range k).filter fun i => rP ns i k).map (fun i : Nat => (i : Int)) ++ [(k : Int)]
noncomputable def rClk (x : PySem.Str) (k : Nat) : List ToldM := tAt (rT ns) (lastOf (rH ns) x k)
noncomputable def rHosts : Nat → PySem.Str
 | 0 => Str.ofString ""
 | k + 1 => rHosts k ++ rH ns k
end
section
variable {ns : List Int}
theorem rSrc_lo (k : Nat) : 0 ≤ rSrc ns k ∧ rSrc ns k < (k : Int) + 1 := ⟨fmod_lo _ (by exact lin [_] [] [] (6,.n 0,.a (.c (.v 0)) (.n 1)) [1] [] rfl), fmod_hi _ (by exact lin [_] [] [] (6,.n 0,.a (.c (.v 0)) (.n 1)) [1] [] rfl)⟩
theorem rHear_lt (k s : Nat) (h : rHear ns k = some s) : s < k := by
 unfold rHear at h
 split at h
 ·rename_i q
  cases h
  have := rSrc_lo (ns := ns) k
  exact lin [_,_] [_] [(6,.v 0,.c (.v 0)),(8,.c (.v 1),.v 0)] (0,.v 1,.v 0) [1,1,1] [] rfl q.1 (Int.toNat_of_nonneg (by exact lin [] [_] [(7,.n 0,.v 0)] (7,.n 0,.v 0) [1,1] [] rfl this.1))
 ·cases h
theorem rT_ev (k : Nat) : rT ns k = event (rClk ns (rH ns k) k) (tAt (rT ns) (rHear ns k)) (rH ns k) (rDress ns k) := runT_ev rHear_lt k
theorem rP_at (k i : Nat) : rP ns i k = (i == k || (decide (i < k) && (List.range k).any fun j => (rH ns j == rH ns k || rHear ns k == some j) && rP ns i j)) := runP_at k i
theorem host_le (k : Nat) : 0 ≤ rHost ns k ∧ rHost ns k < 3 := ⟨fmod_lo _ (by decide), fmod_hi _ (by decide)⟩
theorem rH_ltr (k : Nat) : Ltr (rH ns k) := by
 have h := host_le (ns := ns) k
 have e : rHost ns k = 0 ∨ rHost ns k = 1 ∨ rHost ns k = 2 := by exact triI (fun q0 => False.elim (lin [] [_] [(7,.n 0,.v 0),(6,.v 0,.n 0)] (12,.n 0,.n 0) [0,1,1] [] rfl h.1 q0)) fun q0 => triI (fun q1 => lin [] [_] [(6,.v 0,.n 3),(6,.n 0,.v 0),(6,.v 0,.n 1)] (8,.v 0,.n 2) [1,1,0,0] [0,0,1,1] rfl h.2 q0 q1) fun q1 => lin [] [_] [(6,.v 0,.n 3),(6,.n 1,.v 0)] (8,.v 0,.n 2) [1,1,0] [1,0,1] rfl h.2 q1
 unfold rH
 rcases e with e | e | e <;> rw [e]
 ·exact .inl (by decide +kernel)
 ·exact .inr (.inl (by decide +kernel))
 ·exact .inr (.inr (by decide +kernel))
theorem rPast : Past (rH ns) (rHear ns) (fun i k => rP ns i k = true) := ⟨fun i k => by
 rw [rP_at]
 simp only [Bool.or_eq_true, beq_iff_eq, Bool.and_eq_true, decide_eq_true_eq, List.any_eq_true, List.mem_range]
 try exact Iff.rfl⟩
theorem rRun : RunOf 6 (rH ns) (rHear ns) (rP ns) (rT ns) := ⟨rPast, rHear_lt, fun k _ => rH_ltr k, fun k _ => ⟨_, rT_ev k⟩⟩
theorem rClk_step (x : PySem.Str) (k : Nat) : rClk ns x (k + 1) = if rH ns k = x then rT ns k else rClk ns x k := by
 unfold rClk
 show tAt _ (if rH ns k = x then some k else lastOf (rH ns) x k) = _
 split <;> rfl
noncomputable def Drs (ts : List ToldM) : Prop := ∀ t ∈ ts, ∃ d, t.2.2 = replyS t.2.1 d
theorem Drs.evH {ts : List ToldM} (x : Drs ts) {t : ToldM} (h : ∃ d, t.2.2 = replyS t.2.1 d) : Drs (evH ts t) := by
 unfold Mine.evH
 split
 ·intro z hz
  rcases List.mem_append.mp hz with hz | hz
  ·exact x z hz
  ·rw [List.mem_singleton.mp hz]; exact h
 ·split
  ·intro z hz
   rcases List.mem_append.mp hz with hz | hz
   ·exact x z (List.mem_filter.mp hz).1
   ·rw [List.mem_singleton.mp hz]; exact h
  ·exact x
theorem Drs.fold : ∀ (us : List ToldM) {ts : List ToldM}, Drs ts → Drs us → Drs (us.foldl Mine.evH ts)
 | [], _, x, _ => x
 | t :: r, _, x, y => Drs.fold r (x.evH (y t (.head _))) fun z hz => y z (.tail _ hz)
theorem Drs.event {ts us : List ToldM} (x : Drs ts) (y : Drs us) (h : PySem.Str) (d : Int) : Drs (event ts us h d) := by
 unfold Mine.event evOwn
 intro z hz
 rcases List.mem_append.mp hz with hz | hz
 ·exact x.fold us y z (List.mem_filter.mp hz).1
 ·rw [List.mem_singleton.mp hz]; exact ⟨d, rfl⟩
theorem rT_drs (k : Nat) : Drs (rT ns k) := by
 induction k using Nat.strongRecOn with
 | ind k ih =>
  rw [rT_ev]
  have key : ∀ o : Option Nat, (∀ j, o = some j → j < k) → Drs (tAt (rT ns) o) := fun o h => by
   cases o with
   | none => exact fun _ h => nomatch h
   | some j => exact ih j (h j rfl)
  exact (key _ fun j e => (lastOf_some e).1).event (key _ fun j e => rHear_lt k j e) _ _
theorem rClk_fit {x : PySem.Str} {k : Nat} (hk : k ≤ 6) : Fit (k : Int) (rClk ns x k) := by
 unfold rClk
 cases e : lastOf (rH ns) x k with
 | none => exact Fit.nil _
 | some j =>
  have h := (lastOf_some e).1
  exact (rRun.fit (by decide) j (by exact lin [_,_] [] [(1,.v 0,.n 6),(0,.v 1,.v 0)] (0,.v 1,.n 6) [1,1,1] [] rfl hk h)).up (by exact lin [_,_] [] [(0,.v 0,.v 1)] (7,.a (.c (.v 0)) (.n 1),.c (.v 1)) [1,1] [] rfl h)
theorem rHear_fit {k : Nat} (hk : k ≤ 6) : Fit (k : Int) (tAt (rT ns) (rHear ns k)) := by
 cases e : rHear ns k with
 | none => exact Fit.nil _
 | some j =>
  have h := rHear_lt k j e
  exact (rRun.fit (by decide) j (by exact lin [_,_] [] [(1,.v 0,.n 6),(0,.v 1,.v 0)] (0,.v 1,.n 6) [1,1,1] [] rfl hk h)).up (by exact lin [_,_] [] [(0,.v 0,.v 1)] (7,.a (.c (.v 0)) (.n 1),.c (.v 1)) [1,1] [] rfl h)
theorem rHosts_len (k : Nat) : (rHosts ns k).length = k := by
 induction k with
 | zero => rfl
 | succ k ih =>
  show (rHosts ns k ++ rH ns k).length = _
  rw [Str.length_append, ih]
  have : (rH ns k).length = 1 := by rcases rH_ltr (ns := ns) k with h | h | h <;> rw [h] <;> rfl
  exact lin [_,_] [] [(2,.v 0,.n 1)] (2,.a (.v 1) (.v 0),.a (.v 1) (.n 1)) [1,1] [1,-1] rfl this
end
end Mine
end
section
open PySem PySem.W PySem.Spec PySem.Calls PyProof.Rows
namespace Mine
structure ClkF (x d l : Nat → Addr) (cv : Nat → List ToldM) (CL R : List (Addr × Obj)) : Prop where
 cl : ∃ (v : Nat → List Value) (n : Nat → Nat) (hs : Nat → List (PySem.Str × PySem.Str)), CL = [(l 0, listOf (v 0).toArray (n 0)), (l 1, listOf (v 1).toArray (n 1)), (l 2, listOf (v 2).toArray (n 2))] ∧ ∀ i, i < 3 → HIn R (v i) (hs i) ∧ Clk (hs i) (cv i)
 inst : ∀ i, i < 3 → (x i, instObj 229 (d i)) ∈ R
 dict : ∀ i, i < 3 → ∃ hsh tk, (d i, dictOf [⟨hsh, .str (Str.ofString "_headers") tk, .ref (l i)⟩] 1) ∈ R
 off : ∀ i, i < 3 → ∀ p ∈ R, p.1 ≠ l i
 ord : @LT.lt Nat _ (l 0) (l 1) ∧ @LT.lt Nat _ (l 1) (l 2)
structure RunF (ns : List Int) (nu C : Addr) (nC : Nat) (nvs : List Value) (nn : Nat) (x : Nat → Addr) (k j : Nat) (os ps : List Value) (R : List (Addr × Obj)) : Prop where
 num : (nu, listOf nvs.toArray nn) ∈ R
 clk : (C, listOf (List.toArray [Value.ref (x 0), Value.ref (x 1), Value.ref (x 2)]) nC) ∈ R
 tl : os.length = k
 told : ∀ i, i < k → ∃ q us n, os[i]? = some (.ref q) ∧ (q, listOf (List.toArray us) n) ∈ R ∧ ToldIn R us (rT ns i)
 pl : ps.length = j
 past : ∀ i, i < j → ∃ q us n, ps[i]? = some (.ref q) ∧ (q, listOf (List.toArray us) n) ∈ R ∧ IntsAre us (pastL ns i)
noncomputable def TextF (ns : List Int) (xs : List Value) (k : Nat) : Prop := xs.length = k ∧ ∀ i, i < k → ∃ hs t, xs[i]? = some (.str (hstr hs) t) ∧ Clk hs (rT ns i)
theorem RunF.mono {ns : List Int} {nu C : Addr} {nC : Nat} {nvs : List Value} {nn : Nat} {x : Nat → Addr} {k j : Nat} {os ps : List Value} {R R' : List (Addr × Obj)} (h : ∀ p ∈ R, p ∈ R') (F : RunF ns nu C nC nvs nn x k j os ps R) : RunF ns nu C nC nvs nn x k j os ps R' :=
 ⟨h _ F.num, h _ F.clk, F.tl, fun i hi => let ⟨q, us, n, a, b, c⟩ := F.told i hi; ⟨q, us, n, a, h _ b, c.mono h⟩, F.pl, fun i hi => let ⟨q, us, n, a, b, c⟩ := F.past i hi; ⟨q, us, n, a, h _ b, c⟩⟩
theorem RunF.addTold {ns : List Int} {nu C : Addr} {nC : Nat} {nvs : List Value} {nn : Nat} {x : Nat → Addr} {k j : Nat} {os ps : List Value} {R : List (Addr × Obj)} (F : RunF ns nu C nC nvs nn x k j os ps R) {q : Addr} {us : List Value} {n : Nat} (h : (q, listOf (List.toArray us) n) ∈ R) (hT : ToldIn R us (rT ns k)) :
  RunF ns nu C nC nvs nn x (k + 1) j (os ++ [.ref q]) ps R := by
 refine ⟨F.num, F.clk, by rw [List.length_append, F.tl]; rfl, fun i hi => ?_, F.pl, F.past⟩
 rcases Nat.lt_or_eq_of_le (Nat.le_of_lt_succ hi) with hi | rfl
 ·refine ex3 (F.told i hi) fun q' us' n' h9_154 => an3 h9_154 fun a b c => ?_
  clear h9_154
  exact ⟨q', us', n', by rw [List.getElem?_append_left (by rw [F.tl]; exact hi)]; exact a, b, c⟩
 ·exact ⟨q, us, n, by rw [List.getElem?_append_right (by rw [F.tl]; exact Nat.le_refl _), F.tl]; simp, h, hT⟩
theorem RunF.addPast {ns : List Int} {nu C : Addr} {nC : Nat} {nvs : List Value} {nn : Nat} {x : Nat → Addr} {k j : Nat} {os ps : List Value} {R : List (Addr × Obj)} (F : RunF ns nu C nC nvs nn x k j os ps R) {q : Addr} {us : List Value} {n : Nat} (h : (q, listOf (List.toArray us) n) ∈ R) (hT : IntsAre us (pastL ns j)) :
  RunF ns nu C nC nvs nn x k (j + 1) os (ps ++ [.ref q]) R := by
 refine ⟨F.num, F.clk, F.tl, F.told, by rw [List.length_append, F.pl]; rfl, fun i hi => ?_⟩
 rcases Nat.lt_or_eq_of_le (Nat.le_of_lt_succ hi) with hi | rfl
 ·refine ex3 (F.past i hi) fun q' us' n' h9_155 => an3 h9_155 fun a b c => ?_
  clear h9_155
  exact ⟨q', us', n', by rw [List.getElem?_append_left (by rw [F.pl]; exact hi)]; exact a, b, c⟩
 ·exact ⟨q, us, n, by rw [List.getElem?_append_right (by rw [F.pl]; exact Nat.le_refl _), F.pl]; simp, h, hT⟩
theorem TextF.add {ns : List Int} {xs : List Value} {k : Nat} (F : TextF ns xs k) {hs : List (PySem.Str × PySem.Str)} {t : Tok} (K : Clk hs (rT ns k)) : TextF ns (xs ++ [.str (hstr hs) t]) (k + 1) := by
 refine ⟨by rw [List.length_append, F.1]; rfl, fun i hi => ?_⟩
 rcases Nat.lt_or_eq_of_le (Nat.le_of_lt_succ hi) with hi | rfl
 ·refine ex2 (F.2 i hi) fun hs' t' h9_156 => an2 h9_156 fun a b => ?_
  clear h9_156
  exact ⟨hs', t', by rw [List.getElem?_append_left (by rw [F.1]; exact hi)]; exact a, b⟩
 ·exact ⟨hs, t, by rw [List.getElem?_append_right (by rw [F.1]; exact Nat.le_refl _), F.1]; simp, K⟩
noncomputable def NewIn (tl news : List (Addr × Obj)) : Prop := ∀ p ∈ tl, ∀ q ∈ news, @LT.lt Nat _ q.1 p.1
theorem NewIn.off {tl E W : List (Addr × Obj)} (h : NewIn tl (E ++ W)) {a : Addr} {o : Obj} (ha : (a, o) ∈ E) (hW : ∀ p ∈ W, p.1 ≠ a) : ∀ p ∈ W ++ tl, p.1 ≠ a := fun p hp => by
 rcases List.mem_append.mp hp with hp | hp
 ·exact hW p hp
 ·exact Nat.ne_of_gt (h p hp _ (List.mem_append_left _ ha))
theorem ClkF.grow {x d l : Nat → Addr} {cv : Nat → List ToldM} {CL R tl E : List (Addr × Obj)} (F : ClkF x d l cv CL R) (h : NewIn tl (E ++ (CL ++ R))) : ClkF x d l cv CL (tl ++ R) := by
 obtain ⟨⟨v, n, hs, e, hv⟩, F2, F3, F4, F5⟩ := F
 have up : ∀ p ∈ R, p ∈ tl ++ R := fun p hp => List.mem_append_right _ hp
 refine ⟨⟨v, n, hs, e, fun i hi => ⟨(hv i hi).1.mono up, (hv i hi).2⟩⟩, fun i hi => up _ (F2 i hi), fun i hi => let ⟨a, b, c⟩ := F3 i hi; ⟨a, b, up _ c⟩, fun i hi p hp => ?_, F5⟩
 rcases List.mem_append.mp hp with hp | hp
 ·have hl : ∃ o, (l i, o) ∈ CL := by
   rw [e]
   match i, hi with
   | 0, _ => exact ⟨_, .head _⟩
   | 1, _ => exact ⟨_, .tail _ (.head _)⟩
   | 2, _ => exact ⟨_, .tail _ (.tail _ (.head _))⟩
  refine ex1 hl fun o ho => ?_
  try clear hl
  exact Nat.ne_of_gt (h p hp _ (List.mem_append_right _ (List.mem_append_left _ ho)))
 ·exact F4 i hi p hp
theorem led_grow {h₀ h : Heap} {L : Addr} {tl E CL R : List (Addr × Obj)} (N : News h₀ L h (tl ++ (E ++ (CL ++ R)))) : News h₀ L h (E ++ (CL ++ (tl ++ R))) := fun p hp => N p (by
 simp only [List.mem_append] at hp ⊢
 rcases hp with hp | hp | hp | hp
 ·exact .inr (.inl hp)
 ·exact .inr (.inr (.inl hp))
 ·exact .inl hp
 ·exact .inr (.inr (.inr hp)))
theorem off_grow {tl E CL R : List (Addr × Obj)} (h : NewIn tl (E ++ (CL ++ R))) {a : Addr} {o : Obj} (ha : (a, o) ∈ E) (hW : ∀ p ∈ CL ++ R, p.1 ≠ a) : ∀ p ∈ CL ++ (tl ++ R), p.1 ≠ a := fun p hp => by
 simp only [List.mem_append] at hp
 rcases hp with hp | hp | hp
 ·exact hW p (List.mem_append_left _ hp)
 ·exact Nat.ne_of_gt (h p hp _ (List.mem_append_left _ ha))
 ·exact hW p (List.mem_append_right _ hp)
theorem ClkF.pick {x d l : Nat → Addr} {cv : Nat → List ToldM} {CL R E : List (Addr × Obj)} (F : ClkF x d l cv CL R) {i : Nat} (hi : i < 3) (hE : ∀ p ∈ E, ∀ q ∈ CL, p.1 ≠ q.1) :
  ∃ vs n hs CL', (∀ p ∈ (l i, listOf (List.toArray vs) n) :: (CL' ++ (E ++ R)), p ∈ E ++ (CL ++ R)) ∧ HIn R vs hs ∧ Clk hs (cv i) ∧ ClkAt (CL' ++ (E ++ R)) (x i) (d i) (l i) ∧ (∀ q ∈ CL', q ∈ CL) ∧
   ∀ vs' n' hs' tl ts', HIn (tl ++ R) vs' hs' → Clk hs' ts' → (∀ p ∈ tl, l i < p.1 ∧ ∀ q ∈ CL' ++ (E ++ R), q.1 < p.1) →
    ∃ CL'', ClkF x d l (fun j => if j = i then ts' else cv j) CL'' (tl ++ R) ∧ (∀ p ∈ CL'', p ∈ (l i, listOf (List.toArray vs') n') :: CL') ∧ ∀ p ∈ CL'', ∃ o, (p.1, o) ∈ CL := by
 obtain ⟨⟨v, n, hs, rfl, hv⟩, F2, F3, F4, o1, o2⟩ := F
 have n01 : l 0 ≠ l 1 := Nat.ne_of_lt o1
 have n12 : l 1 ≠ l 2 := Nat.ne_of_lt o2
 have n02 : l 0 ≠ l 2 := Nat.ne_of_lt (Nat.lt_trans o1 o2)
 have hE' : ∀ p ∈ E, p.1 ≠ l 0 ∧ p.1 ≠ l 1 ∧ p.1 ≠ l 2 := fun p hp => ⟨hE p hp _ (.head _), hE p hp _ (.tail _ (.head _)), hE p hp _ (.tail _ (.tail _ (.head _)))⟩
 have up : ∀ {CL'}, ∀ p ∈ R, p ∈ CL' ++ (E ++ R) := fun p hp => List.mem_append_right _ (List.mem_append_right _ hp)
 have core : ∀ (vs' : List Value) (n' : Nat) (hs' : List (PySem.Str × PySem.Str)) (tl : List (Addr × Obj)) (ts' : List ToldM) (CL' : List (Addr × Obj)), HIn (tl ++ R) vs' hs' → Clk hs' ts' → (∀ p ∈ tl, l i < p.1 ∧ ∀ q ∈ CL' ++ (E ++ R), q.1 < p.1) → (∀ j, j < 3 → j ≠ i → ∃ o, (l j, o) ∈ CL') →
   ClkF x d l (fun j => if j = i then ts' else cv j) [(l 0, listOf (List.toArray (if 0 = i then vs' else v 0)) (if 0 = i then n' else n 0)), (l 1, listOf (List.toArray (if 1 = i then vs' else v 1)) (if 1 = i then n' else n 1)), (l 2, listOf (List.toArray (if 2 = i then vs' else v 2)) (if 2 = i then n' else n 2))] (tl ++ R) := by
  intro vs' n' hs' tl ts' CL' h1 h2 h3 h4
  have ups : ∀ p ∈ R, p ∈ tl ++ R := fun p hp => List.mem_append_right _ hp
  refine ⟨⟨fun j => if j = i then vs' else v j, fun j => if j = i then n' else n j, fun j => if j = i then hs' else hs j, rfl, fun j hj => ?_⟩, fun j hj => ups _ (F2 j hj), fun j hj => let ⟨a, b, c⟩ := F3 j hj; ⟨a, b, ups _ c⟩, fun j hj p hp => ?_, o1, o2⟩
  ·by_cases q : j = i
   ·simp only [if_pos q]; exact ⟨h1, h2⟩
   ·simp only [if_neg q]; exact ⟨(hv j hj).1.mono ups, (hv j hj).2⟩
  ·rcases List.mem_append.mp hp with hp | hp
   ·by_cases q : j = i
    ·subst q; exact Nat.ne_of_gt (h3 p hp).1
    ·refine ex1 (h4 j hj q) fun o ho => ?_
     exact Nat.ne_of_gt ((h3 p hp).2 _ (List.mem_append_left _ ho))
   ·exact F4 j hj p hp
 match i, hi with
 | 0, _ =>
  refine ⟨v 0, n 0, hs 0, [(l 1, listOf (v 1).toArray (n 1)), (l 2, listOf (v 2).toArray (n 2))], ?_, (hv 0 (by decide)).1, (hv 0 (by decide)).2, ⟨up _ (F2 0 (by decide)), ?_, ?_⟩, ?_, ?_⟩
  ·intro p hp; simp only [List.mem_append, List.mem_cons, List.not_mem_nil, or_false] at hp ⊢
   rcases hp with hp | (hp | hp) | hp | hp
   ·exact .inr (.inl (.inl hp))
   ·exact .inr (.inl (.inr (.inl hp)))
   ·exact .inr (.inl (.inr (.inr hp)))
   ·exact .inl hp
   ·exact .inr (.inr hp)
  ·obtain ⟨a, b, c⟩ := F3 0 (by decide); exact ⟨a, b, up _ c⟩
  ·intro p hp; simp only [List.mem_append, List.mem_cons, List.not_mem_nil, or_false] at hp
   rcases hp with (rfl | rfl) | hp | hp
   ·exact n01.symm
   ·exact n02.symm
   ·exact (hE' p hp).1
   ·exact F4 0 (by decide) p hp
  ·intro q hq; simp only [List.mem_cons, List.not_mem_nil, or_false] at hq ⊢
   exact .inr hq
  ·intro vs' n' hs' tl ts' h1 h2 h3
   refine ⟨_, core vs' n' hs' tl ts' _ h1 h2 h3 ?_, ?_, ?_⟩
   ·intro j hj q
    match j, hj, q with
    | 0, _, q => exact absurd rfl q
    | 1, _, _ => exact ⟨_, .head _⟩
    | 2, _, _ => exact ⟨_, .tail _ (.head _)⟩
   ·intro p hp; exact hp
   ·intro p hp; simp only [List.mem_cons, List.not_mem_nil, or_false] at hp ⊢
    rcases hp with rfl | rfl | rfl
    ·exact ⟨_, .inl rfl⟩
    ·exact ⟨_, .inr (.inl rfl)⟩
    ·exact ⟨_, .inr (.inr rfl)⟩
 | 1, _ =>
  refine ⟨v 1, n 1, hs 1, [(l 0, listOf (v 0).toArray (n 0)), (l 2, listOf (v 2).toArray (n 2))], ?_, (hv 1 (by decide)).1, (hv 1 (by decide)).2, ⟨up _ (F2 1 (by decide)), ?_, ?_⟩, ?_, ?_⟩
  ·intro p hp; simp only [List.mem_append, List.mem_cons, List.not_mem_nil, or_false] at hp ⊢
   rcases hp with hp | (hp | hp) | hp | hp
   ·exact .inr (.inl (.inr (.inl hp)))
   ·exact .inr (.inl (.inl hp))
   ·exact .inr (.inl (.inr (.inr hp)))
   ·exact .inl hp
   ·exact .inr (.inr hp)
  ·obtain ⟨a, b, c⟩ := F3 1 (by decide); exact ⟨a, b, up _ c⟩
  ·intro p hp; simp only [List.mem_append, List.mem_cons, List.not_mem_nil, or_false] at hp
   rcases hp with (rfl | rfl) | hp | hp
   ·exact n01
   ·exact n12.symm
   ·exact (hE' p hp).2.1
   ·exact F4 1 (by decide) p hp
  ·intro q hq; simp only [List.mem_cons, List.not_mem_nil, or_false] at hq ⊢
   rcases hq with hq | hq
   ·exact .inl hq
   ·exact .inr (.inr hq)
  ·intro vs' n' hs' tl ts' h1 h2 h3
   refine ⟨_, core vs' n' hs' tl ts' _ h1 h2 h3 ?_, ?_, ?_⟩
   ·intro j hj q
    match j, hj, q with
    | 0, _, _ => exact ⟨_, .head _⟩
    | 1, _, q => exact absurd rfl q
    | 2, _, _ => exact ⟨_, .tail _ (.head _)⟩
   ·intro p hp; simp only [List.mem_cons, List.not_mem_nil, or_false] at hp ⊢
    rcases hp with rfl | rfl | rfl
    ·exact .inr (.inl rfl)
    ·exact .inl rfl
    ·exact .inr (.inr rfl)
   ·intro p hp; simp only [List.mem_cons, List.not_mem_nil, or_false] at hp ⊢
    rcases hp with rfl | rfl | rfl
    ·exact ⟨_, .inl rfl⟩
    ·exact ⟨_, .inr (.inl rfl)⟩
    ·exact ⟨_, .inr (.inr rfl)⟩
 | 2, _ =>
  refine ⟨v 2, n 2, hs 2, [(l 0, listOf (v 0).toArray (n 0)), (l 1, listOf (v 1).toArray (n 1))], ?_, (hv 2 (by decide)).1, (hv 2 (by decide)).2, ⟨up _ (F2 2 (by decide)), ?_, ?_⟩, ?_, ?_⟩
  ·intro p hp; simp only [List.mem_append, List.mem_cons, List.not_mem_nil, or_false] at hp ⊢
   rcases hp with hp | (hp | hp) | hp | hp
   ·exact .inr (.inl (.inr (.inr hp)))
   ·exact .inr (.inl (.inl hp))
   ·exact .inr (.inl (.inr (.inl hp)))
   ·exact .inl hp
   ·exact .inr (.inr hp)
  ·obtain ⟨a, b, c⟩ := F3 2 (by decide); exact ⟨a, b, up _ c⟩
  ·intro p hp; simp only [List.mem_append, List.mem_cons, List.not_mem_nil, or_false] at hp
   rcases hp with (rfl | rfl) | hp | hp
   ·exact n02
   ·exact n12
   ·exact (hE' p hp).2.2
   ·exact F4 2 (by decide) p hp
  ·intro q hq; simp only [List.mem_cons, List.not_mem_nil, or_false] at hq ⊢
   rcases hq with hq | hq
   ·exact .inl hq
   ·exact .inr (.inl hq)
  ·intro vs' n' hs' tl ts' h1 h2 h3
   refine ⟨_, core vs' n' hs' tl ts' _ h1 h2 h3 ?_, ?_, ?_⟩
   ·intro j hj q
    match j, hj, q with
    | 0, _, _ => exact ⟨_, .head _⟩
    | 1, _, _ => exact ⟨_, .tail _ (.head _)⟩
    | 2, _, q => exact absurd rfl q
   ·intro p hp; simp only [List.mem_cons, List.not_mem_nil, or_false] at hp ⊢
    rcases hp with rfl | rfl | rfl
    ·exact .inr (.inl rfl)
    ·exact .inr (.inr rfl)
    ·exact .inl rfl
   ·intro p hp; simp only [List.mem_cons, List.not_mem_nil, or_false] at hp ⊢
    rcases hp with rfl | rfl | rfl
    ·exact ⟨_, .inl rfl⟩
    ·exact ⟨_, .inr (.inl rfl)⟩
    ·exact ⟨_, .inr (.inr rfl)⟩
noncomputable def chain : List (PySem.Str × Value) → (PySem.Str → Option Value) → PySem.Str → Option Value
 | [], m => m
 | (n, v) :: r, m => fun y => if y = n then some v else chain r m y
theorem chain_open {m : PySem.Str → Option Value} : ∀ {l : List (PySem.Str × Value)}, (∀ p ∈ l, m p.1 = some p.2) → m = chain l m
 | [], _ => rfl
 | (n, v) :: r, h => by
  have ih := chain_open (m := m) fun p hp => h p (.tail _ hp)
  funext y
  show m y = if y = n then some v else chain r m y
  by_cases q : y = n
  ·rw [if_pos q, q]; exact h _ (.head _)
  ·rw [if_neg q]; exact congrFun ih y
end Mine
end
section
open PySem PySem.W PySem.Spec PySem.Calls PyProof.Rows
namespace Mine
theorem offLt {l : List (Addr × Obj)} {c L : Nat} (h : AllLt L l) (hc : L ≤ c) : ∀ p ∈ l, p.1 ≠ c := fun p hp => Nat.ne_of_lt (Nat.lt_of_lt_of_le (ktn_ltOf h p hp) hc)
noncomputable def OffWM (B X O P : Addr) (W : List (Addr × Obj)) : Prop := ∀ p ∈ W, ∀ a ∈ [B + 1, B + 1 + 1, B + 1 + 1 + 1, B + 1 + 1 + 1 + 1, B + 1 + 1 + 1 + 1 + 1, B + 1 + 1 + 1 + 1 + 1 + 1, X, O, P], p.1 ≠ a
noncomputable def ltrI (i : Nat) : PySem.Str := Txt.item (Str.ofString "abc") (i : Int)
noncomputable def RunNames (nu C X O : Addr) (m : PySem.Str → Option Value) : Prop :=
 m (Str.ofString "numbers") = some (.ref nu) ∧ m (Str.ofString "clocks") = some (.ref C) ∧ m (Str.ofString "texts") = some (.ref X) ∧ m (Str.ofString "told") = some (.ref O)
theorem RunNames.open_ {nu C X O : Addr} {m : PySem.Str → Option Value} (h : RunNames nu C X O m) :
  m = fun y => if y = Str.ofString "numbers" then some (.ref nu) else if y = Str.ofString "clocks" then some (.ref C) else if y = Str.ofString "texts" then some (.ref X) else if y = Str.ofString "told" then some (.ref O) else m y := by
 refine an4 h fun h1 h2 h3 h4 => ?_
 try clear h
 exact chain_open (l := [(Str.ofString "numbers", .ref nu), (Str.ofString "clocks", .ref C), (Str.ofString "texts", .ref X), (Str.ofString "told", .ref O)]) (by
  intro p hp
  simp only [List.mem_cons, List.not_mem_nil, or_false] at hp
  rcases hp with rfl | rfl | rfl | rfl <;> assumption)
noncomputable abbrev RunLed (B X O P : Addr) (oY oW oS oK oP oH : Obj) (ps : List Value) (nP : Nat) (os : List Value) (nO : Nat) (xs : List Value) (nX : Nat) (W : List (Addr × Obj)) : List (Addr × Obj) :=
 (B + 1 + 1 + 1 + 1 + 1 + 1, oY) :: (B + 1 + 1 + 1 + 1 + 1, oW) :: (B + 1 + 1 + 1 + 1, oS) :: (B + 1 + 1 + 1, oK) :: (B + 1 + 1, oP) :: (B + 1, oH) :: (P, listOf (List.toArray ps) nP) :: (O, listOf (List.toArray os) nO) :: (X, listOf (List.toArray xs) nX) :: W
structure RunG (ns : List Int) (B nu C X O P : Addr) (nC : Nat) (nvs : List Value) (nn : Nat) (x d l : Nat → Addr) (k : Nat) (oP oH : Obj) (ps os xs : List Value) (CL R : List (Addr × Obj)) : Prop where
 hH : ∃ tH, oH.data = .cell (some (.str (rHosts ns k) tH))
 hP : oP.data = .cell (some (.ref P))
 clk : ClkF x d l (fun i => rClk ns (ltrI i) k) CL R
 run : RunF ns nu C nC nvs nn x k k os ps R
 txt : TextF ns xs k
 off : OffWM B X O P (CL ++ R)
noncomputable def RunJ (BF : Heap → Prop) (ns : List Int) (B nu C X O P : Addr) (nC : Nat) (nvs : List Value) (nn : Nat) (x d l : Nat → Addr) (g : Heap) (k : Nat) (m : PySem.Str → Option Value) (nx : List (Addr × Obj)) : Prop :=
 BF g ∧ RunNames nu C X O m ∧ ∃ oY oW oS oK oP oH ps nP os nO xs nX CL R, nx = RunLed B X O P oY oW oS oK oP oH ps nP os nO xs nX (CL ++ R) ∧ (∃ v, oY.data = .cell v) ∧ (∃ v, oW.data = .cell v) ∧ (∃ v, oS.data = .cell v) ∧ (∃ v, oK.data = .cell v) ∧
  RunG ns B nu C X O P nC nvs nn x d l k oP oH ps os xs CL R
section
variable {prog : Program} {w : World} {A : Around} {E : Value → Shared → Prop} {s : Shared} {h₀ : Heap} {env : Env} {body : List Stmt} {Q : Flow → Shared → Prop}
noncomputable def pick3 (a b c : Addr) (i : Nat) : Addr := [a, b, c].getD i 0
theorem run_iter {px : PySem.Pos} {kn : PySem.Str} {r : Addr} {t₀ u₀ v₀ : Tok} {m₀ : PySem.Str → Option Value} (BF : Heap → Prop) (ns : List Int) {B nu C X O P x0 x1 x2 d0 d1 d2 l0 l1 l2 : Addr} {nC nn : Nat} {nvs : List Value} {nP nO nX n0 n1 n2 : Nat} {oY oW oS oK oP oH : Obj} {tp : Addr × Obj} {news : List (Addr × Obj)}
  {y0 y1 y2 : Int} {z0 z1 z2 : Tok} {tH : Tok} {vY vW vS vK : Option Value}
  (hh : A.handled = none) (hr : IsRange s.heap r 0 (6 : Int) 1 t₀ u₀ v₀) (F : Fr h₀ env.locals s.heap m₀)
  (N : News h₀ env.locals s.heap (tp :: (P, listOf #[] nP) :: (O, listOf #[] nO) :: (X, listOf #[] nX) :: (C, listOf #[Value.ref x0, Value.ref x1, Value.ref x2] nC) :: (l2, listOf #[] n2) :: (x2, instObj 229 d2) :: (d2, dictOf [⟨y2, .str (Str.ofString "_headers") z2, .ref l2⟩] 1) ::
   (l1, listOf #[] n1) :: (x1, instObj 229 d1) :: (d1, dictOf [⟨y1, .str (Str.ofString "_headers") z1, .ref l1⟩] 1) :: (l0, listOf #[] n0) :: (x0, instObj 229 d0) :: (d0, dictOf [⟨y0, .str (Str.ofString "_headers") z0, .ref l0⟩] 1) ::
   (B + 1 + 1 + 1 + 1 + 1 + 1, oY) :: (B + 1 + 1 + 1 + 1 + 1, oW) :: (B + 1 + 1 + 1 + 1, oS) :: (B + 1 + 1 + 1, oK) :: (B + 1 + 1, oP) :: (B + 1, oH) :: news))
  (hm : RunNames nu C X O m₀) (hnu : (nu, listOf nvs.toArray nn) ∈ news) (hBF : BF h₀) (hB : ∀ p ∈ news, p.1 < B)
  (eH : oH.data = .cell (some (.str (Str.ofString "") tH))) (eP : oP.data = .cell (some (.ref P))) (eY : oY.data = .cell vY) (eW : oW.data = .cell vW) (eS : oS.data = .cell vS) (eK : oK.data = .cell vK)
  (q0 : @LT.lt Nat _ (B + 6) d0 ∧ @LT.lt Nat _ d0 x0 ∧ @LT.lt Nat _ x0 l0) (q1 : @LT.lt Nat _ l0 d1 ∧ @LT.lt Nat _ d1 x1 ∧ @LT.lt Nat _ x1 l1) (q2 : @LT.lt Nat _ l1 d2 ∧ @LT.lt Nat _ d2 x2 ∧ @LT.lt Nat _ x2 l2) (q3 : @LT.lt Nat _ l2 C ∧ @LT.lt Nat _ C X ∧ @LT.lt Nat _ X O ∧ @LT.lt Nat _ O P)
  (turn : ∀ (k : Nat) (g : Heap) (m₁ : PySem.Str → Option Value) (oY oW oS oK oP oH : Obj) (vY vW vS vK : Option Value) (tH : Tok) (ps : List Value) (nP : Nat) (os : List Value) (nO : Nat) (xs : List Value) (nX : Nat) (CL R : List (Addr × Obj)) (I : Addr) (t : Tok) (h : Heap) (tk : Nat), k < 6 → @LT.lt Nat _ P I → (@LT.lt Nat _ (B + 6) X ∧ @LT.lt Nat _ X O ∧ @LT.lt Nat _ O P) → BF g →
   oY.data = .cell vY → oW.data = .cell vW → oS.data = .cell vS → oK.data = .cell vK → oP.data = .cell (some (.ref P)) → oH.data = .cell (some (.str (rHosts ns k) tH)) →
   ClkF (pick3 x0 x1 x2) (pick3 d0 d1 d2) (pick3 l0 l1 l2) (fun i => rClk ns (ltrI i) k) CL R → RunF ns nu C nC nvs nn (pick3 x0 x1 x2) k k os ps R → TextF ns xs k → OffWM B X O P (CL ++ R) → (∀ p ∈ CL ++ R, p.1 ≠ I) →
   Fr g env.locals h (fun y => if y = Str.ofString "numbers" then some (.ref nu) else if y = Str.ofString "clocks" then some (.ref C) else if y = Str.ofString "texts" then some (.ref X) else if y = Str.ofString "told" then some (.ref O) else m₁ y) →
   News g env.locals h ((I, itR ((k + 1 : Nat) : Int) ((6 : Nat) - ((k + 1 : Nat) : Int))) :: RunLed B X O P oY oW oS oK oP oH ps nP os nO xs nX (CL ++ R)) →
   wpAny (model prog w) A (assign (.Name kn px) env (.int (k : Int) t)) (fun _ s₂ => wpC (model prog w) A (execs body env)
    (RngPost env.locals (fun g' m' nx' => RunJ BF ns B nu C X O P nC nvs nn (pick3 x0 x1 x2) (pick3 d0 d1 d2) (pick3 l0 l1 l2) g' (k + 1) m' nx') I (itR ((k + 1 : Nat) : Int) ((6 : Nat) - ((k + 1 : Nat) : Int))) { s with heap := h, toks := tk } Q) E s₂) E { s with heap := h, toks := tk })
  (done : ∀ (g : Heap) (m₁ : PySem.Str → Option Value) (oY oW oS oK oP oH : Obj) (tH : Tok) (ps : List Value) (nP : Nat) (os : List Value) (nO : Nat) (xs : List Value) (nX : Nat) (CL R : List (Addr × Obj)) (h : Heap) (tk : Nat), BF g →
   oP.data = .cell (some (.ref P)) → oH.data = .cell (some (.str (rHosts ns 6) tH)) → RunF ns nu C nC nvs nn (pick3 x0 x1 x2) 6 6 os ps R →
   Fr g env.locals h (fun y => if y = Str.ofString "numbers" then some (.ref nu) else if y = Str.ofString "clocks" then some (.ref C) else if y = Str.ofString "texts" then some (.ref X) else if y = Str.ofString "told" then some (.ref O) else m₁ y) →
   News g env.locals h (RunLed B X O P oY oW oS oK oP oH ps nP os nO xs nX (CL ++ R)) → Q .next { s with heap := h, toks := tk }) :
  wpAny (model prog w) A (pyIter (.ref r)) (fun it s₂ => AtC prog w A env (.Name kn px) body Q E it s₂) E s := by
 have hP : s.heap.get? P = some _ := (N _ (.tail _ (.head _))).1
 have hPs : @LT.lt Nat _ P s.heap.objs.size := Heap.lt_size hP
 refine iter_rangeC (n := 6) (h₀ := h₀) (m₀ := m₀) P (news := RunLed B X O P oY oW oS oK oP oH [] nP [] nO [] nX ([(l0, listOf (List.toArray []) n0), (l1, listOf (List.toArray []) n1), (l2, listOf (List.toArray []) n2)] ++
   ((C, listOf (List.toArray [Value.ref x0, Value.ref x1, Value.ref x2]) nC) :: (x2, instObj 229 d2) :: (d2, dictOf [⟨y2, .str (Str.ofString "_headers") z2, .ref l2⟩] 1) :: (x1, instObj 229 d1) :: (d1, dictOf [⟨y1, .str (Str.ofString "_headers") z1, .ref l1⟩] 1) :: (x0, instObj 229 d0) :: (d0, dictOf [⟨y0, .str (Str.ofString "_headers") z0, .ref l0⟩] 1) :: news)))
  (fun g k m nx => RunJ BF ns B nu C X O P nC nvs nn (pick3 x0 x1 x2) (pick3 d0 d1 d2) (pick3 l0 l1 l2) g k m nx) hh hr (by decide) (by decide) F ?_ hPs ?_ ?_ ?_
 ·refine fun p hp => N p ((?_ : List.Subset _ _) hp)
  iterate 19 (refine List.cons_subset.mpr ⟨?_, ?_⟩; · (repeat (first | exact List.Mem.head _ | refine List.Mem.tail _ ?_)))
  exact fun p hp => by (iterate 20 (refine List.Mem.tail _ ?_)); exact hp
 ·refine ⟨hBF, hm, oY, oW, oS, oK, oP, oH, [], nP, [], nO, [], nX, _, _, rfl, ⟨_, eY⟩, ⟨_, eW⟩, ⟨_, eS⟩, ⟨_, eK⟩, ⟨⟨_, eH⟩, eP, ⟨⟨fun _ => [], pick3 n0 n1 n2, fun _ => [], rfl, fun i _ => ⟨.nil, ?_⟩⟩, ?_, ?_, ?_, ?_⟩, ⟨?_, .head _, rfl, fun _ h => absurd h (Nat.not_lt_zero _), rfl, fun _ h => absurd h (Nat.not_lt_zero _)⟩, ⟨rfl, fun _ h => absurd h (Nat.not_lt_zero _)⟩, ?_⟩⟩
  ·exact .nil
  ·intro i hi
   match i, hi with
   | 0, _ => exact .tail _ (.tail _ (.tail _ (.tail _ (.tail _ (.head _)))))
   | 1, _ => exact .tail _ (.tail _ (.tail _ (.head _)))
   | 2, _ => exact .tail _ (.head _)
  ·intro i hi
   match i, hi with
   | 0, _ => exact ⟨_, _, .tail _ (.tail _ (.tail _ (.tail _ (.tail _ (.tail _ (.head _))))))⟩
   | 1, _ => exact ⟨_, _, .tail _ (.tail _ (.tail _ (.tail _ (.head _))))⟩
   | 2, _ => exact ⟨_, _, .tail _ (.tail _ (.head _))⟩
  ·intro i hi p hp
   have key : ∀ a : Nat, (a = l0 ∨ a = l1 ∨ a = l2) → p.1 ≠ a := by
    intro a ha
    simp only [List.mem_cons] at hp
    rcases hp with rfl | rfl | rfl | rfl | rfl | rfl | rfl | hp
    all_goals first
     | (have := hB p hp; have z : @LT.lt Nat _ p.1 B := this; show @Ne Nat _ _; exact ha.elim (fun zq0 => lin [_,_,_,_,_,_] [] [(0,.a (.v 0) (.n 6),.v 1),(0,.v 1,.v 2),(0,.v 2,.v 3),(0,.v 4,.v 0),(2,.v 5,.v 3)] (5,.v 4,.v 5) [-1,1,1,1,1,-1] [] rfl q0.1 q0.2.1 q0.2.2 z zq0) fun zq0 => zq0.elim (fun zq1 => lin [_,_,_,_,_,_,_,_,_] [] [(0,.a (.v 0) (.n 6),.v 1),(0,.v 1,.v 2),(0,.v 2,.v 3),(0,.v 3,.v 4),(0,.v 4,.v 5),(0,.v 5,.v 6),(0,.v 7,.v 0),(2,.v 8,.v 6)] (5,.v 7,.v 8) [-1,1,1,1,1,1,1,1,-1] [] rfl q0.1 q0.2.1 q0.2.2 q1.1 q1.2.1 q1.2.2 z zq1) fun zq1 => lin [_,_,_,_,_,_,_,_,_,_,_,_] [] [(0,.a (.v 0) (.n 6),.v 1),(0,.v 1,.v 2),(0,.v 2,.v 3),(0,.v 3,.v 4),(0,.v 4,.v 5),(0,.v 5,.v 6),(0,.v 6,.v 7),(0,.v 7,.v 8),(0,.v 8,.v 9),(0,.v 10,.v 0),(2,.v 11,.v 9)] (5,.v 10,.v 11) [-1,1,1,1,1,1,1,1,1,1,1,-1] [] rfl q0.1 q0.2.1 q0.2.2 q1.1 q1.2.1 q1.2.2 q2.1 q2.2.1 q2.2.2 z zq1)
     | (show @Ne Nat _ _; (try dsimp only); (first | exact ha.elim (fun q0 => lin [_,_,_,_,_,_,_,_,_] [] [(0,.v 0,.v 1),(0,.v 1,.v 2),(0,.v 2,.v 3),(0,.v 3,.v 4),(0,.v 4,.v 5),(0,.v 5,.v 6),(0,.v 6,.v 7),(2,.v 8,.v 0)] (5,.v 7,.v 8) [1,1,1,1,1,1,1,1,1] [] rfl q1.1 q1.2.1 q1.2.2 q2.1 q2.2.1 q2.2.2 q3.1 q0) fun q0 => q0.elim (fun q1 => lin [_,_,_,_,_,_] [] [(0,.v 0,.v 1),(0,.v 1,.v 2),(0,.v 2,.v 3),(0,.v 3,.v 4),(2,.v 5,.v 0)] (5,.v 4,.v 5) [1,1,1,1,1,1] [] rfl q2.1 q2.2.1 q2.2.2 q3.1 q1) fun q1 => lin [_,_,_] [] [(0,.v 0,.v 1),(2,.v 2,.v 0)] (5,.v 1,.v 2) [1,1,1] [] rfl q3.1 q1 | exact ha.elim (fun q0 => lin [_,_,_,_,_,_,_] [] [(0,.v 0,.v 1),(0,.v 1,.v 2),(0,.v 2,.v 3),(0,.v 3,.v 4),(0,.v 4,.v 5),(2,.v 6,.v 0)] (5,.v 5,.v 6) [1,1,1,1,1,1,1] [] rfl q1.1 q1.2.1 q1.2.2 q2.1 q2.2.1 q0) fun q0 => q0.elim (fun q1 => lin [_,_,_,_] [] [(0,.v 0,.v 1),(0,.v 1,.v 2),(2,.v 3,.v 0)] (5,.v 2,.v 3) [1,1,1,1] [] rfl q2.1 q2.2.1 q1) fun q1 => lin [_,_,_] [] [(0,.v 0,.v 1),(2,.v 2,.v 1)] (5,.v 0,.v 2) [-1,1,-1] [] rfl q2.2.2 q1 | exact ha.elim (fun q0 => lin [_,_,_,_,_,_] [] [(0,.v 0,.v 1),(0,.v 1,.v 2),(0,.v 2,.v 3),(0,.v 3,.v 4),(2,.v 5,.v 0)] (5,.v 4,.v 5) [1,1,1,1,1,1] [] rfl q1.1 q1.2.1 q1.2.2 q2.1 q0) fun q0 => q0.elim (fun q1 => lin [_,_,_] [] [(0,.v 0,.v 1),(2,.v 2,.v 0)] (5,.v 1,.v 2) [1,1,1] [] rfl q2.1 q1) fun q1 => lin [_,_,_,_] [] [(0,.v 0,.v 1),(0,.v 1,.v 2),(2,.v 3,.v 2)] (5,.v 0,.v 3) [-1,1,1,-1] [] rfl q2.2.1 q2.2.2 q1 | (first | exact ha.elim (fun zq0 => lin [_,_,_,_] [] [(0,.v 0,.v 1),(0,.v 1,.v 2),(2,.v 3,.v 0)] (5,.v 2,.v 3) [1,1,1,1] [] rfl q1.1 q1.2.1 zq0) fun zq0 => zq0.elim (fun zq1 => lin [_,_,_] [] [(0,.v 0,.v 1),(2,.v 2,.v 1)] (5,.v 0,.v 2) [-1,1,-1] [] rfl q1.2.2 zq1) fun zq1 => lin [_,_,_,_,_,_] [] [(0,.v 0,.v 1),(0,.v 1,.v 2),(0,.v 2,.v 3),(0,.v 3,.v 4),(2,.v 5,.v 4)] (5,.v 0,.v 5) [-1,1,1,1,1,-1] [] rfl q1.2.2 q2.1 q2.2.1 q2.2.2 zq1 | exact ha.elim (fun zq0 => lin [_,_,_] [] [(0,.v 0,.v 1),(2,.v 2,.v 0)] (5,.v 1,.v 2) [1,1,1] [] rfl q1.1 zq0) fun zq0 => zq0.elim (fun zq1 => lin [_,_,_,_] [] [(0,.v 0,.v 1),(0,.v 1,.v 2),(2,.v 3,.v 2)] (5,.v 0,.v 3) [-1,1,1,-1] [] rfl q1.2.1 q1.2.2 zq1) fun zq1 => lin [_,_,_,_,_,_,_] [] [(0,.v 0,.v 1),(0,.v 1,.v 2),(0,.v 2,.v 3),(0,.v 3,.v 4),(0,.v 4,.v 5),(2,.v 6,.v 5)] (5,.v 0,.v 6) [-1,1,1,1,1,1,-1] [] rfl q1.2.1 q1.2.2 q2.1 q2.2.1 q2.2.2 zq1 | exact ha.elim (fun zq0 => lin [_,_,_] [] [(0,.v 0,.v 1),(2,.v 2,.v 1)] (5,.v 0,.v 2) [-1,1,-1] [] rfl q0.2.2 zq0) fun zq0 => zq0.elim (fun zq1 => lin [_,_,_,_,_,_] [] [(0,.v 0,.v 1),(0,.v 1,.v 2),(0,.v 2,.v 3),(0,.v 3,.v 4),(2,.v 5,.v 4)] (5,.v 0,.v 5) [-1,1,1,1,1,-1] [] rfl q0.2.2 q1.1 q1.2.1 q1.2.2 zq1) fun zq1 => lin [_,_,_,_,_,_,_,_,_] [] [(0,.v 0,.v 1),(0,.v 1,.v 2),(0,.v 2,.v 3),(0,.v 3,.v 4),(0,.v 4,.v 5),(0,.v 5,.v 6),(0,.v 6,.v 7),(2,.v 8,.v 7)] (5,.v 0,.v 8) [-1,1,1,1,1,1,1,1,-1] [] rfl q0.2.2 q1.1 q1.2.1 q1.2.2 q2.1 q2.2.1 q2.2.2 zq1 | exact ha.elim (fun zq0 => lin [_,_,_,_] [] [(0,.v 0,.v 1),(0,.v 1,.v 2),(2,.v 3,.v 2)] (5,.v 0,.v 3) [-1,1,1,-1] [] rfl q0.2.1 q0.2.2 zq0) fun zq0 => zq0.elim (fun zq1 => lin [_,_,_,_,_,_,_] [] [(0,.v 0,.v 1),(0,.v 1,.v 2),(0,.v 2,.v 3),(0,.v 3,.v 4),(0,.v 4,.v 5),(2,.v 6,.v 5)] (5,.v 0,.v 6) [-1,1,1,1,1,1,-1] [] rfl q0.2.1 q0.2.2 q1.1 q1.2.1 q1.2.2 zq1) fun zq1 => lin [_,_,_,_,_,_,_,_,_,_] [] [(0,.v 0,.v 1),(0,.v 1,.v 2),(0,.v 2,.v 3),(0,.v 3,.v 4),(0,.v 4,.v 5),(0,.v 5,.v 6),(0,.v 6,.v 7),(0,.v 7,.v 8),(2,.v 9,.v 8)] (5,.v 0,.v 9) [-1,1,1,1,1,1,1,1,1,-1] [] rfl q0.2.1 q0.2.2 q1.1 q1.2.1 q1.2.2 q2.1 q2.2.1 q2.2.2 zq1)))
   match i, hi with
   | 0, _ => exact key _ (.inl rfl)
   | 1, _ => exact key _ (.inr (.inl rfl))
   | 2, _ => exact key _ (.inr (.inr rfl))
  ·show @LT.lt Nat _ l0 l1 ∧ @LT.lt Nat _ l1 l2
   exact ⟨lin [_,_,_,_] [] [(0,.v 0,.v 1),(0,.v 1,.v 2),(0,.v 2,.v 3)] (0,.v 0,.v 3) [1,1,1,1] [] rfl q1.1 q1.2.1 q1.2.2, lin [_,_,_,_] [] [(0,.v 0,.v 1),(0,.v 1,.v 2),(0,.v 2,.v 3)] (0,.v 0,.v 3) [1,1,1,1] [] rfl q2.1 q2.2.1 q2.2.2⟩
  ·exact .tail _ (.tail _ (.tail _ (.tail _ (.tail _ (.tail _ (.tail _ hnu))))))
  ·intro p hp a ha
   simp only [List.mem_cons, List.mem_append, List.not_mem_nil, or_false] at hp ha
   have bd : @LT.lt Nat _ p.1 B ∨ (@LT.lt Nat _ (B + 6) p.1 ∧ @LT.lt Nat _ p.1 X) := by
    rcases hp with (rfl | rfl | rfl) | rfl | rfl | rfl | rfl | rfl | rfl | rfl | hp
    all_goals first
     | (exact .inl (hB p hp))
     | (right; (try dsimp only); (first | exact ⟨lin [_,_,_,_] [] [(0,.a (.v 0) (.n 6),.v 1),(0,.v 1,.v 2),(0,.v 2,.v 3)] (0,.a (.v 0) (.n 6),.v 3) [1,1,1,1] [] rfl q0.1 q0.2.1 q0.2.2, lin [_,_,_,_,_,_,_,_,_] [] [(0,.v 0,.v 1),(0,.v 1,.v 2),(0,.v 2,.v 3),(0,.v 3,.v 4),(0,.v 4,.v 5),(0,.v 5,.v 6),(0,.v 6,.v 7),(0,.v 7,.v 8)] (0,.v 0,.v 8) [1,1,1,1,1,1,1,1,1] [] rfl q1.1 q1.2.1 q1.2.2 q2.1 q2.2.1 q2.2.2 q3.1 q3.2.1⟩ | exact ⟨lin [_,_,_,_,_,_,_] [] [(0,.a (.v 0) (.n 6),.v 1),(0,.v 1,.v 2),(0,.v 2,.v 3),(0,.v 3,.v 4),(0,.v 4,.v 5),(0,.v 5,.v 6)] (0,.a (.v 0) (.n 6),.v 6) [1,1,1,1,1,1,1] [] rfl q0.1 q0.2.1 q0.2.2 q1.1 q1.2.1 q1.2.2, lin [_,_,_,_,_,_] [] [(0,.v 0,.v 1),(0,.v 1,.v 2),(0,.v 2,.v 3),(0,.v 3,.v 4),(0,.v 4,.v 5)] (0,.v 0,.v 5) [1,1,1,1,1,1] [] rfl q2.1 q2.2.1 q2.2.2 q3.1 q3.2.1⟩ | exact ⟨lin [_,_,_,_,_,_,_,_,_,_] [] [(0,.a (.v 0) (.n 6),.v 1),(0,.v 1,.v 2),(0,.v 2,.v 3),(0,.v 3,.v 4),(0,.v 4,.v 5),(0,.v 5,.v 6),(0,.v 6,.v 7),(0,.v 7,.v 8),(0,.v 8,.v 9)] (0,.a (.v 0) (.n 6),.v 9) [1,1,1,1,1,1,1,1,1,1] [] rfl q0.1 q0.2.1 q0.2.2 q1.1 q1.2.1 q1.2.2 q2.1 q2.2.1 q2.2.2, lin [_,_,_] [] [(0,.v 0,.v 1),(0,.v 1,.v 2)] (0,.v 0,.v 2) [1,1,1] [] rfl q3.1 q3.2.1⟩ | exact ⟨lin [_,_,_,_,_,_,_,_,_,_,_] [] [(0,.a (.v 0) (.n 6),.v 1),(0,.v 1,.v 2),(0,.v 2,.v 3),(0,.v 3,.v 4),(0,.v 4,.v 5),(0,.v 5,.v 6),(0,.v 6,.v 7),(0,.v 7,.v 8),(0,.v 8,.v 9),(0,.v 9,.v 10)] (0,.a (.v 0) (.n 6),.v 10) [1,1,1,1,1,1,1,1,1,1,1] [] rfl q0.1 q0.2.1 q0.2.2 q1.1 q1.2.1 q1.2.2 q2.1 q2.2.1 q2.2.2 q3.1, lin [_,_] [] [(0,.v 0,.v 1)] (0,.v 0,.v 1) [1,1] [] rfl q3.2.1⟩ | exact ⟨lin [_,_,_,_,_,_,_,_,_] [] [(0,.a (.v 0) (.n 6),.v 1),(0,.v 1,.v 2),(0,.v 2,.v 3),(0,.v 3,.v 4),(0,.v 4,.v 5),(0,.v 5,.v 6),(0,.v 6,.v 7),(0,.v 7,.v 8)] (0,.a (.v 0) (.n 6),.v 8) [1,1,1,1,1,1,1,1,1] [] rfl q0.1 q0.2.1 q0.2.2 q1.1 q1.2.1 q1.2.2 q2.1 q2.2.1, lin [_,_,_,_] [] [(0,.v 0,.v 1),(0,.v 1,.v 2),(0,.v 2,.v 3)] (0,.v 0,.v 3) [1,1,1,1] [] rfl q2.2.2 q3.1 q3.2.1⟩ | exact ⟨lin [_,_,_,_,_,_,_,_] [] [(0,.a (.v 0) (.n 6),.v 1),(0,.v 1,.v 2),(0,.v 2,.v 3),(0,.v 3,.v 4),(0,.v 4,.v 5),(0,.v 5,.v 6),(0,.v 6,.v 7)] (0,.a (.v 0) (.n 6),.v 7) [1,1,1,1,1,1,1,1] [] rfl q0.1 q0.2.1 q0.2.2 q1.1 q1.2.1 q1.2.2 q2.1, lin [_,_,_,_,_] [] [(0,.v 0,.v 1),(0,.v 1,.v 2),(0,.v 2,.v 3),(0,.v 3,.v 4)] (0,.v 0,.v 4) [1,1,1,1,1] [] rfl q2.2.1 q2.2.2 q3.1 q3.2.1⟩ | exact ⟨lin [_,_,_,_,_,_] [] [(0,.a (.v 0) (.n 6),.v 1),(0,.v 1,.v 2),(0,.v 2,.v 3),(0,.v 3,.v 4),(0,.v 4,.v 5)] (0,.a (.v 0) (.n 6),.v 5) [1,1,1,1,1,1] [] rfl q0.1 q0.2.1 q0.2.2 q1.1 q1.2.1, lin [_,_,_,_,_,_,_] [] [(0,.v 0,.v 1),(0,.v 1,.v 2),(0,.v 2,.v 3),(0,.v 3,.v 4),(0,.v 4,.v 5),(0,.v 5,.v 6)] (0,.v 0,.v 6) [1,1,1,1,1,1,1] [] rfl q1.2.2 q2.1 q2.2.1 q2.2.2 q3.1 q3.2.1⟩ | exact ⟨lin [_,_,_,_,_] [] [(0,.a (.v 0) (.n 6),.v 1),(0,.v 1,.v 2),(0,.v 2,.v 3),(0,.v 3,.v 4)] (0,.a (.v 0) (.n 6),.v 4) [1,1,1,1,1] [] rfl q0.1 q0.2.1 q0.2.2 q1.1, lin [_,_,_,_,_,_,_,_] [] [(0,.v 0,.v 1),(0,.v 1,.v 2),(0,.v 2,.v 3),(0,.v 3,.v 4),(0,.v 4,.v 5),(0,.v 5,.v 6),(0,.v 6,.v 7)] (0,.v 0,.v 7) [1,1,1,1,1,1,1,1] [] rfl q1.2.1 q1.2.2 q2.1 q2.2.1 q2.2.2 q3.1 q3.2.1⟩ | exact ⟨lin [_,_,_] [] [(0,.a (.v 0) (.n 6),.v 1),(0,.v 1,.v 2)] (0,.a (.v 0) (.n 6),.v 2) [1,1,1] [] rfl q0.1 q0.2.1, lin [_,_,_,_,_,_,_,_,_,_] [] [(0,.v 0,.v 1),(0,.v 1,.v 2),(0,.v 2,.v 3),(0,.v 3,.v 4),(0,.v 4,.v 5),(0,.v 5,.v 6),(0,.v 6,.v 7),(0,.v 7,.v 8),(0,.v 8,.v 9)] (0,.v 0,.v 9) [1,1,1,1,1,1,1,1,1,1] [] rfl q0.2.2 q1.1 q1.2.1 q1.2.2 q2.1 q2.2.1 q2.2.2 q3.1 q3.2.1⟩ | exact ⟨lin [_,_] [] [(0,.a (.v 0) (.n 6),.v 1)] (0,.a (.v 0) (.n 6),.v 1) [1,1] [] rfl q0.1, lin [_,_,_,_,_,_,_,_,_,_,_] [] [(0,.v 0,.v 1),(0,.v 1,.v 2),(0,.v 2,.v 3),(0,.v 3,.v 4),(0,.v 4,.v 5),(0,.v 5,.v 6),(0,.v 6,.v 7),(0,.v 7,.v 8),(0,.v 8,.v 9),(0,.v 9,.v 10)] (0,.v 0,.v 10) [1,1,1,1,1,1,1,1,1,1,1] [] rfl q0.2.1 q0.2.2 q1.1 q1.2.1 q1.2.2 q2.1 q2.2.1 q2.2.2 q3.1 q3.2.1⟩))
   rcases ha with rfl | rfl | rfl | rfl | rfl | rfl | rfl | rfl | rfl <;> (show @Ne Nat _ _; (first | exact bd.elim (fun zq0 => lin [_,_] [] [(0,.v 0,.v 1)] (5,.v 0,.a (.v 1) (.n 1)) [-1,1] [] rfl zq0) fun zq0 => lin [_,_] [] [(0,.a (.v 0) (.n 6),.v 1)] (5,.v 1,.a (.v 0) (.n 1)) [1,1] [] rfl zq0.1 | exact bd.elim (fun zq0 => lin [_,_] [] [(0,.v 0,.v 1)] (5,.v 0,.a (.a (.v 1) (.n 1)) (.n 1)) [-1,1] [] rfl zq0) fun zq0 => lin [_,_] [] [(0,.a (.v 0) (.n 6),.v 1)] (5,.v 1,.a (.a (.v 0) (.n 1)) (.n 1)) [1,1] [] rfl zq0.1 | exact bd.elim (fun zq0 => lin [_,_] [] [(0,.v 0,.v 1)] (5,.v 0,.a (.a (.a (.v 1) (.n 1)) (.n 1)) (.n 1)) [-1,1] [] rfl zq0) fun zq0 => lin [_,_] [] [(0,.a (.v 0) (.n 6),.v 1)] (5,.v 1,.a (.a (.a (.v 0) (.n 1)) (.n 1)) (.n 1)) [1,1] [] rfl zq0.1 | exact bd.elim (fun zq0 => lin [_,_] [] [(0,.v 0,.v 1)] (5,.v 0,.a (.a (.a (.a (.v 1) (.n 1)) (.n 1)) (.n 1)) (.n 1)) [-1,1] [] rfl zq0) fun zq0 => lin [_,_] [] [(0,.a (.v 0) (.n 6),.v 1)] (5,.v 1,.a (.a (.a (.a (.v 0) (.n 1)) (.n 1)) (.n 1)) (.n 1)) [1,1] [] rfl zq0.1 | exact bd.elim (fun zq0 => lin [_,_] [] [(0,.v 0,.v 1)] (5,.v 0,.a (.a (.a (.a (.a (.v 1) (.n 1)) (.n 1)) (.n 1)) (.n 1)) (.n 1)) [-1,1] [] rfl zq0) fun zq0 => lin [_,_] [] [(0,.a (.v 0) (.n 6),.v 1)] (5,.v 1,.a (.a (.a (.a (.a (.v 0) (.n 1)) (.n 1)) (.n 1)) (.n 1)) (.n 1)) [1,1] [] rfl zq0.1 | exact bd.elim (fun zq0 => lin [_,_] [] [(0,.v 0,.v 1)] (5,.v 0,.a (.a (.a (.a (.a (.a (.v 1) (.n 1)) (.n 1)) (.n 1)) (.n 1)) (.n 1)) (.n 1)) [-1,1] [] rfl zq0) fun zq0 => lin [_,_] [] [(0,.a (.v 0) (.n 6),.v 1)] (5,.v 1,.a (.a (.a (.a (.a (.a (.v 0) (.n 1)) (.n 1)) (.n 1)) (.n 1)) (.n 1)) (.n 1)) [1,1] [] rfl zq0.1 | exact bd.elim (fun zq0 => lin [_,_,_,_,_,_,_,_,_,_,_,_,_] [] [(0,.a (.v 0) (.n 6),.v 1),(0,.v 1,.v 2),(0,.v 2,.v 3),(0,.v 3,.v 4),(0,.v 4,.v 5),(0,.v 5,.v 6),(0,.v 6,.v 7),(0,.v 7,.v 8),(0,.v 8,.v 9),(0,.v 9,.v 10),(0,.v 10,.v 11),(0,.v 12,.v 0)] (5,.v 12,.v 11) [-1,1,1,1,1,1,1,1,1,1,1,1,1] [] rfl q0.1 q0.2.1 q0.2.2 q1.1 q1.2.1 q1.2.2 q2.1 q2.2.1 q2.2.2 q3.1 q3.2.1 zq0) fun zq0 => lin [_,_] [] [(0,.v 0,.v 1)] (5,.v 0,.v 1) [-1,1] [] rfl zq0.2 | exact bd.elim (fun zq0 => lin [_,_,_,_,_,_,_,_,_,_,_,_,_,_] [] [(0,.a (.v 0) (.n 6),.v 1),(0,.v 1,.v 2),(0,.v 2,.v 3),(0,.v 3,.v 4),(0,.v 4,.v 5),(0,.v 5,.v 6),(0,.v 6,.v 7),(0,.v 7,.v 8),(0,.v 8,.v 9),(0,.v 9,.v 10),(0,.v 10,.v 11),(0,.v 11,.v 12),(0,.v 13,.v 0)] (5,.v 13,.v 12) [-1,1,1,1,1,1,1,1,1,1,1,1,1,1] [] rfl q0.1 q0.2.1 q0.2.2 q1.1 q1.2.1 q1.2.2 q2.1 q2.2.1 q2.2.2 q3.1 q3.2.1 q3.2.2.1 zq0) fun zq0 => lin [_,_,_] [] [(0,.v 0,.v 1),(0,.v 2,.v 0)] (5,.v 2,.v 1) [-1,1,1] [] rfl q3.2.2.1 zq0.2 | exact bd.elim (fun zq0 => lin [_,_,_,_,_,_,_,_,_,_,_,_,_,_,_] [] [(0,.a (.v 0) (.n 6),.v 1),(0,.v 1,.v 2),(0,.v 2,.v 3),(0,.v 3,.v 4),(0,.v 4,.v 5),(0,.v 5,.v 6),(0,.v 6,.v 7),(0,.v 7,.v 8),(0,.v 8,.v 9),(0,.v 9,.v 10),(0,.v 10,.v 11),(0,.v 11,.v 12),(0,.v 12,.v 13),(0,.v 14,.v 0)] (5,.v 14,.v 13) [-1,1,1,1,1,1,1,1,1,1,1,1,1,1,1] [] rfl q0.1 q0.2.1 q0.2.2 q1.1 q1.2.1 q1.2.2 q2.1 q2.2.1 q2.2.2 q3.1 q3.2.1 q3.2.2.1 q3.2.2.2 zq0) fun zq0 => lin [_,_,_,_] [] [(0,.v 0,.v 1),(0,.v 1,.v 2),(0,.v 3,.v 0)] (5,.v 3,.v 2) [-1,1,1,1] [] rfl q3.2.2.1 q3.2.2.2 zq0.2))
 ·rintro i g m₁ nx I t h tk hi hI ⟨hbf, hm', oY, oW, oS, oK, oP, oH, ps, nP, os, nO, xs, nX, CL, R, rfl, ⟨vY, eY⟩, ⟨vW, eW⟩, ⟨vS, eS⟩, ⟨vK, eK⟩, G⟩ hne F' N'
  obtain ⟨⟨tH, hH⟩, hP', G1, G2, G3, G4⟩ := G
  rw [hm'.open_] at F'
  exact turn i g m₁ oY oW oS oK oP oH vY vW vS vK tH ps nP os nO xs nX CL R I t h tk hi hI (by exact ⟨lin [_,_,_,_,_,_,_,_,_,_,_,_] [] [(0,.a (.v 0) (.n 6),.v 1),(0,.v 1,.v 2),(0,.v 2,.v 3),(0,.v 3,.v 4),(0,.v 4,.v 5),(0,.v 5,.v 6),(0,.v 6,.v 7),(0,.v 7,.v 8),(0,.v 8,.v 9),(0,.v 9,.v 10),(0,.v 10,.v 11)] (0,.a (.v 0) (.n 6),.v 11) [1,1,1,1,1,1,1,1,1,1,1,1] [] rfl q0.1 q0.2.1 q0.2.2 q1.1 q1.2.1 q1.2.2 q2.1 q2.2.1 q2.2.2 q3.1 q3.2.1, ⟨lin [_,_] [] [(0,.v 0,.v 1)] (0,.v 0,.v 1) [1,1] [] rfl q3.2.2.1, lin [_,_] [] [(0,.v 0,.v 1)] (0,.v 0,.v 1) [1,1] [] rfl q3.2.2.2⟩⟩) hbf eY eW eS eK hP' hH G1 G2 G3 G4 (fun p hp => hne p (.tail _ (.tail _ (.tail _ (.tail _ (.tail _ (.tail _ (.tail _ (.tail _ (.tail _ hp)))))))))) F' N'
 ·rintro g m₁ nx h tk ⟨hbf, hm', oY, oW, oS, oK, oP, oH, ps, nP, os, nO, xs, nX, CL, R, rfl, _, _, _, _, G⟩ F' N'
  obtain ⟨⟨tH, hH⟩, hP', G1, G2, G3, G4⟩ := G
  rw [hm'.open_] at F'
  exact done g m₁ oY oW oS oK oP oH tH ps nP os nO xs nX CL R h tk hbf hP' hH G2 F' N'
end
end Mine
end
section
open PySem PySem.W PySem.Spec PySem.Calls PyProof.Rows
namespace Mine
section
variable {prog : Program} {w : World} {A : Around} {E : Value → Shared → Prop} {s : Shared} {h₀ : Heap} {L D : Addr} {m : PySem.Str → Option Value} {news : List (Addr × Obj)} {u : Tok}
theorem item_atM {value slice : PySem.Expr} {vs : List Value} {n k : Nat} {i : Int} {v : Value} {Q : Value → Shared → Prop} (N : News h₀ L s.heap news) (hm : (D, listOf vs.toArray n) ∈ news) (hik : i = (k : Int)) (hv : vs[k]? = some v) (hl : vs.length ≤ 10000) (h : Q v s)
  (hs : subscripted slice false (.ref D) (.int i u) = operate [.ref D, .int i u] (getItem (.ref D) (.int i u)) := by with_unfolding_all rfl) :
  wpAny (model prog w) A (subscriptTail value slice (.ref D) (.int i u)) Q E s := by
 have hlt : k < vs.length := (List.getElem?_eq_some_iff.mp hv).1
 refine item_K N hm (k := k) (v := v) ?_ ?_ (by exact lin [_] [_] [(8,.v 0,.c (.v 0))] (7,.g (.n 1000000),.v 0) [1,-1] [] rfl hik) (by exact lin [_,_] [_] [(8,.v 0,.c (.v 0)),(1,.v 1,.n 10000),(0,.v 0,.v 1)] (7,.v 0,.n 1000000) [1,1,1,1] [] rfl hik hl hlt) h hs
 ·have h9 := seqIndex_at (i := i) (n := vs.toArray.size) (by exact lin [_] [_] [(8,.v 0,.c (.v 0))] (7,.n 0,.v 0) [1,-1] [] rfl hik) (by rw [List.size_toArray]; exact lin [_,_] [_] [(8,.v 0,.c (.v 0)),(0,.v 0,.v 1)] (6,.v 0,.c (.v 1)) [1,1,1] [] rfl hik hlt)
  rw [h9, hik]; rfl
 ·simpa using hv
theorem ints_rN {nvs : List Value} {ns : List Int} (hi : IntsAre nvs ns) {k : Nat} (hk : k < ns.length) : ∃ t, nvs[k]? = some (.int (rN ns k) t) := by
 induction hi generalizing k with
 | nil => exact absurd hk (Nat.not_lt_zero _)
 | cons n t h ih =>
  cases k with
  | zero => exact ⟨t, rfl⟩
  | succ k => exact ih (Nat.lt_of_succ_lt_succ hk)
theorem item_num {value slice : PySem.Expr} {nvs : List Value} {ns : List Int} {nn k : Nat} {Q : Value → Shared → Prop} (N : News h₀ L s.heap news) (hm : (D, listOf nvs.toArray nn) ∈ news) (hi : IntsAre nvs ns) (hl : ns.length = 6) (hk : k < 6)
  (h : ∀ t, Q (.int (rN ns k) t) s)
  (hs : subscripted slice false (.ref D) (.int (k : Int) u) = operate [.ref D, .int (k : Int) u] (getItem (.ref D) (.int (k : Int) u)) := by with_unfolding_all rfl) :
  wpAny (model prog w) A (subscriptTail value slice (.ref D) (.int (k : Int) u)) Q E s := by
 refine ex1 (ints_rN hi (k := k) (by exact lin [_,_] [] [(2,.v 0,.n 6),(0,.v 1,.n 6)] (0,.v 1,.v 0) [1,-1,1] [] rfl hl hk)) fun t ht => ?_
 exact item_atM N hm rfl ht (by have := hi.length; exact lin [_,_] [] [(2,.v 0,.n 6),(2,.v 1,.v 0)] (1,.v 1,.n 10000) [1,1,1] [] rfl hl this) (h t) hs
end
end Mine
end
section
open PySem PySem.W PySem.Spec PySem.Calls PyProof.Rows
namespace Mine
theorem wpC_cut {M : Model} {A : Around} {E : Value → Shared → Prop} {s : Shared} {env : Env} {st : Stmt} {rest : List Stmt} {Q : Flow → Shared → Prop} (Mid : Shared → Prop) (h : wpC M A (exec st env) (fun f s' => f = .next ∧ Mid s') E s) (h2 : ∀ s', Mid s' → wpC M A (execs rest env) Q E s') :
  wpC M A (execs (st :: rest) env) Q E s := wpC_execs_cons (wpC_mono h (by rintro f s' ⟨rfl, hm⟩; exact h2 s' hm) fun _ _ x => x)
noncomputable def MidNames (ns : List Int) (k : Nat) (q nu C X O : Addr) (m : PySem.Str → Option Value) : Prop :=
 (∃ t, m (Str.ofString "host") = some (.int (rHost ns k) t)) ∧ (∃ t, m (Str.ofString "rest") = some (.int (rRest2 ns k) t)) ∧ m (Str.ofString "heard") = some (.ref q) ∧ RunNames nu C X O m
theorem MidNames.open_ {ns : List Int} {k : Nat} {q nu C X O : Addr} {m : PySem.Str → Option Value} (h : MidNames ns k q nu C X O m) : ∃ t1 t2,
  m = fun y => if y = Str.ofString "host" then some (.int (rHost ns k) t1) else if y = Str.ofString "rest" then some (.int (rRest2 ns k) t2) else if y = Str.ofString "heard" then some (.ref q) else if y = Str.ofString "numbers" then some (.ref nu) else if y = Str.ofString "clocks" then some (.ref C) else if y = Str.ofString "texts" then some (.ref X) else if y = Str.ofString "told" then some (.ref O) else m y := by
 refine an7 h fun hn9_163 hn9_164 a3 h1 h2 h3 h4 => ?_
 try clear h
 obtain ⟨t1, a1⟩ := hn9_163
 obtain ⟨t2, a2⟩ := hn9_164
 refine ⟨t1, t2, ?_⟩
 exact chain_open (l := [(Str.ofString "host", .int (rHost ns k) t1), (Str.ofString "rest", .int (rRest2 ns k) t2), (Str.ofString "heard", .ref q), (Str.ofString "numbers", .ref nu), (Str.ofString "clocks", .ref C), (Str.ofString "texts", .ref X), (Str.ofString "told", .ref O)]) (by
  intro p hp
  simp only [List.mem_cons, List.not_mem_nil, or_false] at hp
  rcases hp with rfl | rfl | rfl | rfl | rfl | rfl | rfl <;> assumption)
noncomputable def RunMid (BF : Heap → Prop) (ns : List Int) (B nu C X O P : Addr) (nC : Nat) (nvs : List Value) (nn : Nat) (x d l : Nat → Addr) (k : Nat) (I : Addr) (it : Obj) (L : Addr) (s₁ s₂ : Shared) : Prop :=
 ∃ (g h : Heap) (tk : Nat) (m : PySem.Str → Option Value) (oY oW oS oK oP oH : Obj) (vY : Option Value) (tW tS tK tH : Tok) (ps : List Value) (nP : Nat) (os : List Value) (nO : Nat) (xs : List Value) (nX : Nat) (CL R : List (Addr × Obj)) (q : Addr) (us : List Value) (nq : Nat),
  s₂ = { s₁ with heap := h, toks := tk } ∧ BF g ∧ Fr g L h m ∧ MidNames ns k q nu C X O m ∧ News g L h ((I, it) :: RunLed B X O P oY oW oS oK oP oH ps nP os nO xs nX (CL ++ R)) ∧
  oY.data = .cell vY ∧ oW.data = .cell (some (.int (rWay ns k) tW)) ∧ oS.data = .cell (some (.int (rSrc ns k) tS)) ∧ oK.data = .cell (some (.int (k : Int) tK)) ∧ oP.data = .cell (some (.ref P)) ∧ oH.data = .cell (some (.str (rHosts ns k) tH)) ∧
  ClkF x d l (fun i => rClk ns (ltrI i) k) CL R ∧ RunF ns nu C nC nvs nn x k k os ps R ∧ TextF ns xs k ∧ OffWM B X O P (CL ++ R) ∧ (∀ p ∈ CL ++ R, p.1 ≠ I) ∧ (q, listOf (List.toArray us) nq) ∈ R ∧ ToldIn R us (tAt (rT ns) (rHear ns k))
theorem allLt_mem {d : Nat} {l : List (Addr × Obj)} (h : AllLt d l) : ∀ p ∈ l, @LT.lt Nat _ p.1 d := ktn_ltOf h
theorem mid_none {BF : Heap → Prop} {ns : List Int} {B nu C X O P : Addr} {nC : Nat} {nvs : List Value} {nn : Nat} {x d l : Nat → Addr} {k : Nat} {I : Addr} {it : Obj} {L : Addr} {s₁ : Shared} {g h : Heap} {tk : Nat} {m : PySem.Str → Option Value} {oY oW oS oK oP oH : Obj} {vY : Option Value} {tW tS tK tH : Tok} {ps : List Value} {nP : Nat} {os : List Value} {nO : Nat} {xs : List Value} {nX : Nat} {CL R : List (Addr × Obj)} {q : Addr} {p1 p2 p3 : Addr × Obj}
  (hbf : BF g) (F : Fr g L h m) (hm : MidNames ns k q nu C X O m) (N : News g L h (p1 :: (q, listOf #[] 0) :: p2 :: p3 :: (I, it) :: RunLed B X O P oY oW oS oK oP oH ps nP os nO xs nX (CL ++ R)))
  (hq : AllLt q (p2 :: p3 :: (I, it) :: RunLed B X O P oY oW oS oK oP oH ps nP os nO xs nX (CL ++ R)))
  (eY : oY.data = .cell vY) (eW : oW.data = .cell (some (.int (rWay ns k) tW))) (eS : oS.data = .cell (some (.int (rSrc ns k) tS))) (eK : oK.data = .cell (some (.int (k : Int) tK))) (eP : oP.data = .cell (some (.ref P))) (eH : oH.data = .cell (some (.str (rHosts ns k) tH)))
  (G1 : ClkF x d l (fun i => rClk ns (ltrI i) k) CL R) (G2 : RunF ns nu C nC nvs nn x k k os ps R) (G3 : TextF ns xs k) (G4 : OffWM B X O P (CL ++ R)) (G5 : ∀ p ∈ CL ++ R, p.1 ≠ I) (hn : rHear ns k = none) :
  RunMid BF ns B nu C X O P nC nvs nn x d l k I it L s₁ { s₁ with heap := h, toks := tk } := by
 have hnew : NewIn [(q, listOf #[] 0)] (((I, it) :: RunLed B X O P oY oW oS oK oP oH ps nP os nO xs nX []) ++ (CL ++ R)) := fun p hp r hr => by
  rw [List.mem_singleton.mp hp]
  exact allLt_mem hq r (.tail _ (.tail _ hr))
 refine ⟨g, h, tk, m, oY, oW, oS, oK, oP, oH, vY, tW, tS, tK, tH, ps, nP, os, nO, xs, nX, CL, [(q, listOf #[] 0)] ++ R, q, [], 0, rfl, hbf, F, hm, ?_, eY, eW, eS, eK, eP, eH, G1.grow hnew, G2.mono fun p hp => List.mem_append_right _ hp, G3, ?_, ?_, .head _, ?_⟩
 ·exact led_grow (E := (I, it) :: RunLed B X O P oY oW oS oK oP oH ps nP os nO xs nX []) fun p hp => N p (by
   rcases List.mem_append.mp hp with hp | hp
   ·rw [List.mem_singleton.mp hp]; exact .tail _ (.head _)
   ·exact .tail _ (.tail _ (.tail _ (.tail _ hp))))
 ·intro p hp a ha
  have key : ∀ o, (a, o) ∈ ((I, it) :: RunLed B X O P oY oW oS oK oP oH ps nP os nO xs nX []) → p.1 ≠ a := fun o ho => off_grow hnew ho (fun r hr => G4 r hr a ha) p hp
  simp only [List.mem_cons, List.not_mem_nil, or_false] at ha
  rcases ha with rfl | rfl | rfl | rfl | rfl | rfl | rfl | rfl | rfl
  ·exact key oH (by repeat (first | exact List.Mem.head _ | refine List.Mem.tail _ ?_))
  ·exact key oP (by repeat (first | exact List.Mem.head _ | refine List.Mem.tail _ ?_))
  ·exact key oK (by repeat (first | exact List.Mem.head _ | refine List.Mem.tail _ ?_))
  ·exact key oS (by repeat (first | exact List.Mem.head _ | refine List.Mem.tail _ ?_))
  ·exact key oW (by repeat (first | exact List.Mem.head _ | refine List.Mem.tail _ ?_))
  ·exact key oY (by repeat (first | exact List.Mem.head _ | refine List.Mem.tail _ ?_))
  ·exact key (listOf (List.toArray xs) nX) (by repeat (first | exact List.Mem.head _ | refine List.Mem.tail _ ?_))
  ·exact key (listOf (List.toArray os) nO) (by repeat (first | exact List.Mem.head _ | refine List.Mem.tail _ ?_))
  ·exact key (listOf (List.toArray ps) nP) (by repeat (first | exact List.Mem.head _ | refine List.Mem.tail _ ?_))
 ·exact off_grow hnew (.head _) G5
 ·rw [hn]; exact .nil
theorem mid_some {BF : Heap → Prop} {ns : List Int} {B nu C X O P : Addr} {nC : Nat} {nvs : List Value} {nn : Nat} {x d l : Nat → Addr} {k : Nat} {I : Addr} {it : Obj} {L : Addr} {s₁ : Shared} {g h : Heap} {tk : Nat} {m : PySem.Str → Option Value} {oY oW oS oK oP oH : Obj} {vY : Option Value} {tW tS tK tH : Tok} {ps : List Value} {nP : Nat} {os : List Value} {nO : Nat} {xs : List Value} {nX : Nat} {CL R : List (Addr × Obj)} {q : Addr} {us : List Value} {nq j : Nat} {p1 p2 p3 p4 : Addr × Obj}
  (hbf : BF g) (F : Fr g L h m) (hm : MidNames ns k q nu C X O m) (N : News g L h (p1 :: p2 :: p3 :: p4 :: (I, it) :: RunLed B X O P oY oW oS oK oP oH ps nP os nO xs nX (CL ++ R)))
  (eY : oY.data = .cell vY) (eW : oW.data = .cell (some (.int (rWay ns k) tW))) (eS : oS.data = .cell (some (.int (rSrc ns k) tS))) (eK : oK.data = .cell (some (.int (k : Int) tK))) (eP : oP.data = .cell (some (.ref P))) (eH : oH.data = .cell (some (.str (rHosts ns k) tH)))
  (G1 : ClkF x d l (fun i => rClk ns (ltrI i) k) CL R) (G2 : RunF ns nu C nC nvs nn x k k os ps R) (G3 : TextF ns xs k) (G4 : OffWM B X O P (CL ++ R)) (G5 : ∀ p ∈ CL ++ R, p.1 ≠ I) (hq : (q, listOf (List.toArray us) nq) ∈ R) (hT : ToldIn R us (rT ns j)) (hn : rHear ns k = some j) :
  RunMid BF ns B nu C X O P nC nvs nn x d l k I it L s₁ { s₁ with heap := h, toks := tk } :=
 ⟨g, h, tk, m, oY, oW, oS, oK, oP, oH, vY, tW, tS, tK, tH, ps, nP, os, nO, xs, nX, CL, R, q, us, nq, rfl, hbf, F, hm, fun p hp => N p (.tail _ (.tail _ (.tail _ (.tail _ hp)))), eY, eW, eS, eK, eP, eH, G1, G2, G3, G4, G5, hq, by rw [hn]; exact hT⟩
theorem name4 {h₀ h : Heap} {L P O X C : Addr} {tp : Addr × Obj} {oP oO oX oC : Obj} {r : List (Addr × Obj)} (_ : News h₀ L h (tp :: (P, oP) :: (O, oO) :: (X, oX) :: (C, oC) :: r)) : ∃ P' O' X' C' : Addr, P' = P ∧ O' = O ∧ X' = X ∧ C' = C := ⟨_, _, _, _, rfl, rfl, rfl, rfl⟩
noncomputable def RunBF (K : Frag) (p : Program) (loose : List PySem.Str) (mean : ExcName → Option Value) (mg mb : PySem.Str → Option Value) (cn : PySem.Str) (cs : Scope) (L a : Addr) (ccd : Value) (A₀ : Around) (base g₀ g : Heap) : Prop :=
 KtsTurn ([envOf cn cs L a ccd].filterMap (·.frame)) g₀ g ∧ Below A₀ base [envOf cn cs L a ccd] g ∧ K.In g ∧ Top p loose mean mg mb g ∧ KtsDicts ([envOf cn cs L a ccd].filterMap (·.frame)) g
theorem ClkF.congr {x d l : Nat → Addr} {cv cv' : Nat → List ToldM} {CL R : List (Addr × Obj)} (F : ClkF x d l cv CL R) (h : ∀ i, i < 3 → cv i = cv' i) : ClkF x d l cv' CL R := by
 obtain ⟨⟨v, n, hs, e, hv⟩, F2, F3, F4, F5⟩ := F
 exact ⟨⟨v, n, hs, e, fun i hi => ⟨(hv i hi).1, h i hi ▸ (hv i hi).2⟩⟩, F2, F3, F4, F5⟩
theorem ev_led {h₀ h : Heap} {L a : Addr} {o : Obj} {E CL' CL'' tl R : List (Addr × Obj)} (N : News h₀ L h ((a, o) :: (tl ++ (CL' ++ (E ++ R))))) (hC : ∀ p ∈ CL'', p ∈ (a, o) :: CL') : News h₀ L h (E ++ (CL'' ++ (tl ++ R))) := fun p hp => N p (by
 simp only [List.mem_append, List.mem_cons] at hp hC ⊢
 rcases hp with hp | hp | hp | hp
 ·exact .inr (.inr (.inr (.inl hp)))
 ·rcases hC p hp with hp | hp
  ·exact .inl hp
  ·exact .inr (.inr (.inl hp))
 ·exact .inr (.inl hp)
 ·exact .inr (.inr (.inr (.inr hp))))
theorem ev_off {E CL CL' CL'' tl R : List (Addr × Obj)} {a : Addr} {o : Obj} (ha : (a, o) ∈ E) (hC : ∀ p ∈ CL'', ∃ o, (p.1, o) ∈ CL) (hW : ∀ p ∈ CL ++ R, p.1 ≠ a) (ht : ∀ p ∈ tl, ∀ q ∈ CL' ++ (E ++ R), q.1 < p.1) : ∀ p ∈ CL'' ++ (tl ++ R), p.1 ≠ a := fun p hp => by
 simp only [List.mem_append] at hp
 rcases hp with hp | hp | hp
 ·refine ex1 (hC p hp) fun o ho => ?_
  exact hW (p.1, o) (List.mem_append_left _ ho)
 ·exact Nat.ne_of_gt (ht p hp _ (List.mem_append_right _ (List.mem_append_left _ ha)))
 ·exact hW p (List.mem_append_right _ hp)
theorem run_hE {B X O P I : Addr} {it : Obj} {oY oW oS oK oP oH : Obj} {ps : List Value} {nP : Nat} {os : List Value} {nO : Nat} {xs : List Value} {nX : Nat} {CL R : List (Addr × Obj)} (G4 : OffWM B X O P (CL ++ R)) (G5 : ∀ p ∈ CL ++ R, p.1 ≠ I) :
  ∀ p ∈ (I, it) :: RunLed B X O P oY oW oS oK oP oH ps nP os nO xs nX [], ∀ q ∈ CL, p.1 ≠ q.1 := fun p hp q hq => by
 have h1 := G4 q (List.mem_append_left _ hq)
 have h2 := G5 q (List.mem_append_left _ hq)
 simp only [List.mem_cons, List.not_mem_nil, or_false] at hp
 rcases hp with rfl | rfl | rfl | rfl | rfl | rfl | rfl | rfl | rfl | rfl
 ·exact Ne.symm h2
 all_goals exact Ne.symm (h1 _ (by repeat (first | exact List.Mem.head _ | refine List.Mem.tail _ ?_)))
theorem run_off {B X O P I : Addr} {it : Obj} {oY oW oS oK oP oH : Obj} {ps : List Value} {nP : Nat} {os : List Value} {nO : Nat} {xs : List Value} {nX : Nat} {W W' : List (Addr × Obj)} (h : ∀ a o, (a, o) ∈ (I, it) :: RunLed B X O P oY oW oS oK oP oH ps nP os nO xs nX [] → (∀ p ∈ W, p.1 ≠ a) → ∀ p ∈ W', p.1 ≠ a) (G4 : OffWM B X O P W) (G5 : ∀ p ∈ W, p.1 ≠ I) :
  OffWM B X O P W' ∧ ∀ p ∈ W', p.1 ≠ I := by
 refine ⟨fun p hp a ha => ?_, h I it (.head _) G5⟩
 have hW : ∀ r ∈ W, r.1 ≠ a := fun r hr => G4 r hr a ha
 simp only [List.mem_cons, List.not_mem_nil, or_false] at ha
 rcases ha with rfl | rfl | rfl | rfl | rfl | rfl | rfl | rfl | rfl
 ·exact h _ oH (by repeat (first | exact List.Mem.head _ | refine List.Mem.tail _ ?_)) hW p hp
 ·exact h _ oP (by repeat (first | exact List.Mem.head _ | refine List.Mem.tail _ ?_)) hW p hp
 ·exact h _ oK (by repeat (first | exact List.Mem.head _ | refine List.Mem.tail _ ?_)) hW p hp
 ·exact h _ oS (by repeat (first | exact List.Mem.head _ | refine List.Mem.tail _ ?_)) hW p hp
 ·exact h _ oW (by repeat (first | exact List.Mem.head _ | refine List.Mem.tail _ ?_)) hW p hp
 ·exact h _ oY (by repeat (first | exact List.Mem.head _ | refine List.Mem.tail _ ?_)) hW p hp
 ·exact h _ (listOf (List.toArray xs) nX) (by repeat (first | exact List.Mem.head _ | refine List.Mem.tail _ ?_)) hW p hp
 ·exact h _ (listOf (List.toArray os) nO) (by repeat (first | exact List.Mem.head _ | refine List.Mem.tail _ ?_)) hW p hp
 ·exact h _ (listOf (List.toArray ps) nP) (by repeat (first | exact List.Mem.head _ | refine List.Mem.tail _ ?_)) hW p hp
theorem pick_get {x : Nat → Addr} {i : Nat} (h : i < 3) : [Value.ref (x 0), Value.ref (x 1), Value.ref (x 2)][i]? = some (.ref (x i)) := by
 match i, h with
 | 0, _ => rfl
 | 1, _ => rfl
 | 2, _ => rfl
theorem item_app {x y : PySem.Str} {k : Nat} (hx : x.length = k) (hy : y.length = 1) : Txt.item (x ++ y) (k : Int) = y := by
 refine cs_inj ?_
 rw [item_cs _ (by rw [Str.length_append]; exact lin [_,_,_] [] [(2,.v 0,.v 1),(2,.v 2,.n 1)] (0,.v 1,.a (.v 0) (.v 2)) [1,-1,-1] [] rfl hx hy), cs_app, List.getElem?_append_right (by rw [cs_len, hx]; exact Nat.le_refl _), cs_len, hx, Nat.sub_self]
 have hl : (cs y).length = 1 := by rw [cs_len]; exact hy
 match cs y, hl with
 | [c], _ => rfl
theorem ltrI_host {ns : List Int} {k : Nat} : ltrI (rHost ns k).toNat = rH ns k := by
 unfold ltrI rH
 rw [Int.toNat_of_nonneg (host_le k).1]
theorem ltrI_inj {i j : Nat} (hi : i < 3) (hj : j < 3) (h : ltrI i = ltrI j) : i = j := by
 match i, hi, j, hj with
 | 0, _, 0, _ => rfl
 | 1, _, 1, _ => rfl
 | 2, _, 2, _ => rfl
 | 0, _, 1, _ => exact absurd h (by decide +kernel)
 | 0, _, 2, _ => exact absurd h (by decide +kernel)
 | 1, _, 0, _ => exact absurd h (by decide +kernel)
 | 1, _, 2, _ => exact absurd h (by decide +kernel)
 | 2, _, 0, _ => exact absurd h (by decide +kernel)
 | 2, _, 1, _ => exact absurd h (by decide +kernel)
theorem clk_step {ns : List Int} {k i : Nat} (hi : i < 3) : (if i = (rHost ns k).toNat then rT ns k else rClk ns (ltrI i) k) = rClk ns (ltrI i) (k + 1) := by
 have hh := host_le (ns := ns) k
 rw [rClk_step]
 by_cases q : i = (rHost ns k).toNat
 ·rw [if_pos q, if_pos (by rw [q, ltrI_host])]
 ·rw [if_neg q, if_neg (fun z => q (ltrI_inj hi (by exact lin [_] [_] [(6,.v 0,.n 3),(8,.c (.v 0),.v 0)] (0,.v 0,.n 3) [1,1,1] [] rfl hh.2 (Int.toNat_of_nonneg (by exact lin [] [_] [(7,.n 0,.v 0)] (7,.n 0,.v 0) [1,1] [] rfl hh.1))) (by rw [ltrI_host, z])))]
theorem div_up (a : Int) (ha : 0 ≤ a) (b : Int) (hb : 0 < b) : 0 ≤ a.fdiv b ∧ a.fdiv b ≤ a := by
 rw [Int.fdiv_eq_ediv_of_nonneg _ (by exact lin [] [_] [(6,.n 0,.v 0)] (7,.n 0,.v 0) [1,1] [] rfl hb)]
 exact ⟨Int.ediv_nonneg ha (by exact lin [] [_] [(6,.n 0,.v 0)] (7,.n 0,.v 0) [1,1] [] rfl hb), Int.ediv_le_self _ ha⟩
theorem dress_le {ns : List Int} (hnb : ∀ x ∈ ns, 0 ≤ x ∧ x < 1000000) {k : Nat} (hk : k < ns.length) : 0 ≤ rDress ns k ∧ rDress ns k ≤ 1000000 := by
 have h0 : 0 ≤ rN ns k ∧ rN ns k < 1000000 := by
  unfold rN
  rw [List.getD_eq_getElem?_getD, List.getElem?_eq_getElem hk]
  exact hnb _ (List.getElem_mem hk)
 have h1 := div_up (rN ns k) h0.1 3 (by decide)
 have h2 := div_up (rRest ns k) h1.1 ((k : Int) + 1) (by exact lin [_] [] [] (6,.n 0,.a (.c (.v 0)) (.n 1)) [1] [] rfl)
 have h3 := div_up (rRest2 ns k) h2.1 16 (by decide)
 unfold rDress
 unfold rRest2 at h3 ⊢
 unfold rRest at h2 h3 ⊢
 exact ⟨lin [] [_] [(7,.n 0,.v 0)] (7,.n 0,.v 0) [1,1] [] rfl h3.1, lin [] [_,_,_,_] [(6,.v 0,.n 1000000),(7,.v 1,.v 0),(7,.v 2,.v 1),(7,.v 3,.v 2)] (7,.v 3,.n 1000000) [1,1,1,1,1] [] rfl h0.2 h1.2 h2.2 h3.2⟩
theorem join_len (y : PySem.Str) : ∀ l : List PySem.Str, (cs (Str.join y l)).length ≤ (l.map (·.length)).sum + l.length * y.length
 | [] => by show ([] : List Nat).length ≤ _; simp
 | [p] => by
  show (cs p).length ≤ _
  rw [cs_len]; simp
 | p :: q :: r => by
  have ih := join_len y (q :: r)
  have e : Str.join y (p :: q :: r) = p ++ y ++ Str.join y (q :: r) := rfl
  rw [e, cs_app, cs_app, List.length_append, List.length_append, cs_len, cs_len]
  simp only [List.map_cons, List.sum_cons, List.length_cons, Nat.add_mul, Nat.one_mul] at ih ⊢
  exact lin [_,_,_,_,_,_] [] [(1,.v 0,.a (.a (.v 1) (.v 2)) (.a (.v 3) (.v 4)))] (1,.a (.a (.v 5) (.v 4)) (.v 0),.a (.a (.v 5) (.a (.v 1) (.v 2))) (.a (.a (.v 3) (.v 4)) (.v 4))) [1,1] [] rfl ih
theorem hstr_len {hs : List (PySem.Str × PySem.Str)} (h : HShort hs) (h3 : hs.length ≤ 3) : (hstr hs).length ≤ 1000 := by
 have h1 := hstr_size h
 have h2 := join_len (Str.ofString "\r\n") (hs.map hline ++ [(Str.ofString "" : PySem.Str), Str.ofString ""])
 unfold hstr
 rw [show Txt.join (Str.ofString "\r\n") (hs.map hline ++ [(Str.ofString "" : PySem.Str), Str.ofString ""]) = Str.join (Str.ofString "\r\n") (hs.map hline ++ [(Str.ofString "" : PySem.Str), Str.ofString ""]) from StrLaws.glued_eq_join _ _, ← cs_len]
 refine Nat.le_trans h2 ?_
 have e2 : (Str.ofString "\r\n").length = 2 := rfl
 have e3 : (Str.ofString "").length = 0 := rfl
 simp only [List.map_append, List.sum_append, List.map_cons, List.map_nil, List.sum_cons, List.sum_nil, List.length_append, List.length_map, List.length_cons, List.length_nil, e2, e3]
 exact lin [_,_] [] [(1,.v 0,.n 3),(1,.v 1,.m 202 (.v 0))] (1,.a (.a (.v 1) (.a (.n 0) (.a (.n 0) (.n 0)))) (.r (.a (.v 0) (.a (.a (.n 0) (.n 1)) (.n 1))) 2),.n 1000) [1,204,1] [] rfl h3 h1
noncomputable abbrev RunE (I : Addr) (it : Obj) (B X O P : Addr) (oY oW oS oK oP oH : Obj) (ps : List Value) (nP : Nat) (os : List Value) (nO : Nat) (xs : List Value) (nX : Nat) : List (Addr × Obj) := (I, it) :: RunLed B X O P oY oW oS oK oP oH ps nP os nO xs nX []
theorem ClkF.pickN {x d l : Nat → Addr} {cv : Nat → List ToldM} {CL R : List (Addr × Obj)} {B X O P I : Addr} {it : Obj} {oY oW oS oK oP oH : Obj} {ps : List Value} {nP : Nat} {os : List Value} {nO : Nat} {xs : List Value} {nX : Nat} {h₀ h : Heap} {L : Addr} (F : ClkF x d l cv CL R)
  (N : News h₀ L h ((I, it) :: RunLed B X O P oY oW oS oK oP oH ps nP os nO xs nX (CL ++ R))) {i : Nat} (hi : i < 3) (G4 : OffWM B X O P (CL ++ R)) (G5 : ∀ p ∈ CL ++ R, p.1 ≠ I) :
  ∃ vs n hs CL', News h₀ L h ((l i, listOf (List.toArray vs) n) :: (CL' ++ (RunE I it B X O P oY oW oS oK oP oH ps nP os nO xs nX ++ R))) ∧ (∀ p ∈ R, p ∈ CL' ++ (RunE I it B X O P oY oW oS oK oP oH ps nP os nO xs nX ++ R)) ∧ HIn R vs hs ∧ Clk hs (cv i) ∧ ClkAt (CL' ++ (RunE I it B X O P oY oW oS oK oP oH ps nP os nO xs nX ++ R)) (x i) (d i) (l i) ∧
   ∀ h' vs' n' hs' tl ts', News h₀ L h' ((l i, listOf (List.toArray vs') n') :: (tl ++ (CL' ++ (RunE I it B X O P oY oW oS oK oP oH ps nP os nO xs nX ++ R)))) → HIn (tl ++ R) vs' hs' → Clk hs' ts' → (∀ p ∈ tl, l i < p.1 ∧ ∀ q ∈ CL' ++ (RunE I it B X O P oY oW oS oK oP oH ps nP os nO xs nX ++ R), q.1 < p.1) →
    ∃ CL'' R', News h₀ L h' ((I, it) :: RunLed B X O P oY oW oS oK oP oH ps nP os nO xs nX (CL'' ++ R')) ∧ ClkF x d l (fun j => if j = i then ts' else cv j) CL'' R' ∧ (∀ p ∈ R, p ∈ R') ∧ OffWM B X O P (CL'' ++ R') ∧ ∀ p ∈ CL'' ++ R', p.1 ≠ I := by
 refine ex4 (F.pick (E := RunE I it B X O P oY oW oS oK oP oH ps nP os nO xs nX) hi (run_hE G4 G5)) fun vs n hs CL' h9_165 => an6 h9_165 fun m1 m2 m3 m4 m5 m6 => ?_
 clear h9_165
 refine ⟨vs, n, hs, CL', fun p hp => N p (m1 p hp), fun p hp => List.mem_append_right _ (List.mem_append_right _ hp), m2, m3, m4, ?_⟩
 intro h' vs' n' hs' tl ts' N' a1 a2 a3
 refine ex1 (m6 vs' n' hs' tl ts' a1 a2 a3) fun CL'' h9_166 => an3 h9_166 fun c1 c2 c3 => ?_
 clear h9_166
 refine an2 (run_off (I := I) (it := it) (oY := oY) (oW := oW) (oS := oS) (oK := oK) (oP := oP) (oH := oH) (ps := ps) (nP := nP) (os := os) (nO := nO) (xs := xs) (nX := nX) (W' := CL'' ++ (tl ++ R)) (fun a o ha hW => ev_off ha c3 hW fun p hp => (a3 p hp).2) G4 G5) fun o1 o2 => ?_
 exact ⟨CL'', tl ++ R, ev_led N' c2, c1, fun p hp => List.mem_append_right _ hp, o1, o2⟩
theorem run_grow {x d l : Nat → Addr} {cv : Nat → List ToldM} {CL R tl : List (Addr × Obj)} {B X O P I : Addr} {it : Obj} {oY oW oS oK oP oH : Obj} {ps : List Value} {nP : Nat} {os : List Value} {nO : Nat} {xs : List Value} {nX : Nat} {h₀ h : Heap} {L : Addr} (F : ClkF x d l cv CL R)
  (N : News h₀ L h (tl ++ ((I, it) :: RunLed B X O P oY oW oS oK oP oH ps nP os nO xs nX (CL ++ R)))) (hn : NewIn tl ((I, it) :: RunLed B X O P oY oW oS oK oP oH ps nP os nO xs nX (CL ++ R))) (G4 : OffWM B X O P (CL ++ R)) (G5 : ∀ p ∈ CL ++ R, p.1 ≠ I) :
  News h₀ L h ((I, it) :: RunLed B X O P oY oW oS oK oP oH ps nP os nO xs nX (CL ++ (tl ++ R))) ∧ ClkF x d l cv CL (tl ++ R) ∧ OffWM B X O P (CL ++ (tl ++ R)) ∧ ∀ p ∈ CL ++ (tl ++ R), p.1 ≠ I := by
 have hn' : NewIn tl (RunE I it B X O P oY oW oS oK oP oH ps nP os nO xs nX ++ (CL ++ R)) := hn
 refine an2 (run_off (I := I) (it := it) (oY := oY) (oW := oW) (oS := oS) (oK := oK) (oP := oP) (oH := oH) (ps := ps) (nP := nP) (os := os) (nO := nO) (xs := xs) (nX := nX) (W' := CL ++ (tl ++ R)) (fun a o ha hW => off_grow hn' ha hW) G4 G5) fun o1 o2 => ?_
 exact ⟨led_grow (E := RunE I it B X O P oY oW oS oK oP oH ps nP os nO xs nX) N, F.grow hn', o1, o2⟩
theorem OffWM.all {B X O P : Addr} {W : List (Addr × Obj)} (h : OffWM B X O P W) : (∀ p ∈ W, p.1 ≠ B + 1) ∧ (∀ p ∈ W, p.1 ≠ B + 1 + 1) ∧ (∀ p ∈ W, p.1 ≠ B + 1 + 1 + 1) ∧ (∀ p ∈ W, p.1 ≠ B + 1 + 1 + 1 + 1) ∧ (∀ p ∈ W, p.1 ≠ B + 1 + 1 + 1 + 1 + 1) ∧ (∀ p ∈ W, p.1 ≠ B + 1 + 1 + 1 + 1 + 1 + 1) ∧ (∀ p ∈ W, p.1 ≠ X) ∧ (∀ p ∈ W, p.1 ≠ O) ∧ (∀ p ∈ W, p.1 ≠ P) := by
 refine ⟨?_, ?_, ?_, ?_, ?_, ?_, ?_, ?_, ?_⟩ <;> intro p hp <;> exact h p hp _ (by simp)
end Mine
end
section
open PySem PySem.W PySem.Spec PySem.Calls PyProof.Rows PySem.Builtin PySem.Builtin.Str
namespace Mine
noncomputable def wd (ts : List ToldM) : List Nat := word (tcnt ts (Str.ofString "a")).toNat (tcnt ts (Str.ofString "b")).toNat (tcnt ts (Str.ofString "c")).toNat
noncomputable def lc (h : PySem.Str) : Nat := (cs h).headD 0
theorem Ltr.cs {h : PySem.Str} (x : Ltr h) : cs h = [lc h] ∧ (lc h = 97 ∨ lc h = 98 ∨ lc h = 99) := by
 rcases x with rfl | rfl | rfl
 ·exact ⟨by decide +kernel, .inl (by decide +kernel)⟩
 ·exact ⟨by decide +kernel, .inr (.inl (by decide +kernel))⟩
 ·exact ⟨by decide +kernel, .inr (.inr (by decide +kernel))⟩
theorem word_len (i j k : Nat) : (word i j k).length = i + j + k := by
 unfold word
 simp only [List.length_append, List.length_replicate]
 exact lin [_,_,_] [] [] (2,.a (.v 0) (.a (.v 1) (.v 2)),.a (.a (.v 0) (.v 1)) (.v 2)) [1] [1] rfl
theorem count_h (ts : List ToldM) {h : PySem.Str} (x : Ltr h) (hp : 0 ≤ tcnt ts h) : ((wd ts).count (lc h) : Int) = tcnt ts h := by
 unfold wd
 refine an3 (word_count (tcnt ts (Str.ofString "a")).toNat (tcnt ts (Str.ofString "b")).toNat (tcnt ts (Str.ofString "c")).toNat) fun a1 a2 a3 => ?_
 rcases x with rfl | rfl | rfl
 ·rw [show lc (Str.ofString "a") = 97 by decide +kernel, a1]; exact lin [_] [_] [(8,.c (.v 0),.v 0)] (8,.c (.v 0),.v 0) [1,1] [1,-1] rfl (Int.toNat_of_nonneg (by exact lin [] [_] [(7,.n 0,.v 0)] (7,.n 0,.v 0) [1,1] [] rfl hp))
 ·rw [show lc (Str.ofString "b") = 98 by decide +kernel, a2]; exact lin [_] [_] [(8,.c (.v 0),.v 0)] (8,.c (.v 0),.v 0) [1,1] [1,-1] rfl (Int.toNat_of_nonneg (by exact lin [] [_] [(7,.n 0,.v 0)] (7,.n 0,.v 0) [1,1] [] rfl hp))
 ·rw [show lc (Str.ofString "c") = 99 by decide +kernel, a3]; exact lin [_] [_] [(8,.c (.v 0),.v 0)] (8,.c (.v 0),.v 0) [1,1] [1,-1] rfl (Int.toNat_of_nonneg (by exact lin [] [_] [(7,.n 0,.v 0)] (7,.n 0,.v 0) [1,1] [] rfl hp))
section
variable {ns : List Int}
noncomputable def rW (ns : List Int) (k : Nat) : List Nat := wd (rT ns k)
theorem cnt_nn {k : Nat} (hk : k < 6) (y : PySem.Str) : 0 ≤ tcnt (rT ns k) y := tcnt_nonneg ((rRun (ns := ns)).fit (by decide) k hk).pos y
theorem rW_sub {i k : Nat} (hi : i < 6) (hk : k < 6) : (rW ns i).isSublist (rW ns k) = rP ns i k := by
 unfold rW wd
 rw [word_isSub, Bool.eq_iff_iff, decide_eq_true_iff, (rRun (ns := ns)).known_all (by decide) hi hk]
 have e := (rRun (ns := ns)).fit (by decide) i hi
 constructor
 ·rintro ⟨h1, h2, h3⟩ y
  by_cases hy : Ltr y
  ·have n1 := cnt_nn (ns := ns) hk (Str.ofString "a")
   have n2 := cnt_nn (ns := ns) hk (Str.ofString "b")
   have n3 := cnt_nn (ns := ns) hk (Str.ofString "c")
   rcases hy with rfl | rfl | rfl <;> (first | exact lin [_,_] [_,_] [(1,.v 0,.v 1),(7,.v 0,.c (.v 0)),(8,.c (.v 1),.v 1)] (7,.v 0,.v 1) [1,1,1,1] [] rfl h1 (Int.self_le_toNat _) (Int.toNat_of_nonneg (by exact lin [] [_] [(7,.n 0,.v 0)] (7,.n 0,.v 0) [1,1] [] rfl n1)) | exact lin [_,_] [_,_] [(1,.v 0,.v 1),(7,.v 0,.c (.v 0)),(8,.c (.v 1),.v 1)] (7,.v 0,.v 1) [1,1,1,1] [] rfl h2 (Int.self_le_toNat _) (Int.toNat_of_nonneg (by exact lin [] [_] [(7,.n 0,.v 0)] (7,.n 0,.v 0) [1,1] [] rfl n2)) | exact lin [_,_] [_,_] [(1,.v 0,.v 1),(7,.v 0,.c (.v 0)),(8,.c (.v 1),.v 1)] (7,.v 0,.v 1) [1,1,1,1] [] rfl h3 (Int.self_le_toNat _) (Int.toNat_of_nonneg (by exact lin [] [_] [(7,.n 0,.v 0)] (7,.n 0,.v 0) [1,1] [] rfl n3)))
  ·have h0 : tcnt (rT ns i) y = 0 := by
    unfold tcnt
    cases q : tget (rT ns i) y with
    | none => rfl
    | some o =>
     refine an2 (tget_some q) fun m1 m2 => ?_
     exact absurd (m2 ▸ (e.ok o m1).1) hy
   rw [h0]
   exact cnt_nn hk y
 ·intro h
  have h1 := h (Str.ofString "a")
  have h2 := h (Str.ofString "b")
  have h3 := h (Str.ofString "c")
  exact ⟨Int.toNat_le_toNat h1, Int.toNat_le_toNat h2, Int.toNat_le_toNat h3⟩
theorem rep_isSub (n c : Nat) (l : List Nat) : (List.replicate n c).isSublist l = decide (n ≤ l.count c) := by
 rw [Bool.eq_iff_iff, decide_eq_true_iff, List.isSublist_iff_sublist]
 exact List.replicate_sublist_iff
theorem rW_own {i k : Nat} (hi : i < 6) (hk : k < 6) : (List.replicate ((rW ns i).count (lc (rH ns i))) (lc (rH ns i))).isSublist (rW ns k) = rP ns i k := by
 rw [rep_isSub, Bool.eq_iff_iff, decide_eq_true_iff, (rRun (ns := ns)).known (by decide) hi hk]
 have h1 := count_h (rT ns i) (rH_ltr (ns := ns) i) (cnt_nn hi _)
 have h2 := count_h (rT ns k) (rH_ltr (ns := ns) i) (cnt_nn hk _)
 unfold rW
 exact ⟨fun q0 => lin [_,_] [_,_] [(8,.c (.v 0),.v 0),(8,.c (.v 1),.v 1),(1,.v 0,.v 1)] (7,.v 0,.v 1) [1,-1,1,1] [] rfl h1 h2 q0, fun q0 => lin [_,_] [_,_] [(8,.c (.v 0),.v 0),(8,.c (.v 1),.v 1),(7,.v 0,.v 1)] (1,.v 0,.v 1) [1,1,-1,1] [] rfl h1 h2 q0⟩
end
end Mine
end
section
open PySem PySem.W PySem.Spec PySem.Calls PyProof.Rows PySem.Builtin PySem.Builtin.Str
namespace Mine
open StrLaws
noncomputable def dots : PySem.Str := Str.ofString "..."
noncomputable def emp : PySem.Str := Str.ofString ""
noncomputable def prt (f b : Bool) (ds : List Nat) : List PySem.Str := (if f then [emp] else []) ++ (ds.map dd ++ (if b then [emp] else []))
theorem prt_free {f b : Bool} {ds : List Nat} (h : ∀ c ∈ ds, c ≠ 46) : ∀ q ∈ prt f b ds, 46 ∉ cs q := by
 intro q hq hm
 unfold prt at hq
 simp only [List.mem_append] at hq
 have he : (46 : Nat) ∉ cs emp := by decide +kernel
 rcases hq with hq | hq | hq
 ·cases f
  ·cases hq
  ·rw [List.mem_singleton.mp hq] at hm; exact he hm
 ·refine ex1 (List.mem_map.mp hq) fun c h9_168 => an2 h9_168 fun hc eq9_167 => ?_
  clear h9_168
  subst eq9_167
  have : (46 : Nat) ∈ [c, c] := hm
  simp only [List.mem_cons, List.not_mem_nil, or_false, or_self] at this
  exact h c hc this.symm
 ·cases b
  ·cases hq
  ·rw [List.mem_singleton.mp hq] at hm; exact he hm
theorem split_dots {p : PySem.Str} {qs : List PySem.Str} (h : ∀ q ∈ p :: qs, 46 ∉ cs q) : Txt.split (Str.join dots (p :: qs)) dots = p :: qs :=
 split_join (c0 := 46) (y' := [46, 46]) rfl h (.inr (by have : PySem.Builtin.Str.strKind dots = 1 := (by decide +kernel); rw [this]; exact kind_ge _))
theorem contains_at {x y : PySem.Str} {k : Nat} (h : At x y x.length k) : Txt.contains x y = true := by
 unfold Txt.contains
 rcases occ_head_hi x y 0 x.length 1 (Nat.le_refl 1) with hR9_158 | hR9_157
 ·refine an2 hR9_158 fun _ e => ?_
  try clear hR9_158
  exact absurd h (e k (Nat.zero_le _))
 ·refine ex2 hR9_157 fun i r h9_169 => an2 h9_169 fun e _ => ?_
  clear h9_169
  try clear hR9_157
  rw [e]; rfl
theorem contains_no {x y : PySem.Str} (h : ∀ k, ¬ At x y x.length k) : Txt.contains x y = false := by
 unfold Txt.contains
 rw [occ_none_hi (Nat.le_refl 1) fun i _ => h i]
 rfl
theorem contains_join {y p q : PySem.Str} {r : List PySem.Str} : Txt.contains (Str.join y (p :: q :: r)) y = true := by
 have e : cs (Str.join y (p :: q :: r)) = cs p ++ (cs y ++ cs (Str.join y (q :: r))) := by
  show cs (p ++ y ++ Str.join y (q :: r)) = _
  rw [cs_app, cs_app, List.append_assoc]
 refine contains_at (at_here e ?_)
 rw [← cs_len, e, List.length_append, List.length_append]
 exact lin [_,_,_] [] [] (1,.a (.v 0) (.v 1),.a (.v 0) (.a (.v 1) (.v 2))) [1] [] rfl
theorem at_emp {x : PySem.Str} {hi k : Nat} (h : k ≤ hi) : At x emp hi k := by
 rw [at_iff]
 have e : cs emp = [] := by decide +kernel
 rw [e]
 exact ⟨by simpa using h, rfl⟩
theorem find_emp {x : PySem.Str} {lo hi : Nat} (hh : hi ≤ x.length) (h : lo ≤ hi) : find4 x emp (lo : Int) (hi : Int) = (lo : Int) :=
 find4_at hh (Nat.le_refl _) (at_emp h) fun i h1 h2 => by exact False.elim (lin [_,_] [] [(1,.v 0,.v 1),(0,.v 1,.v 0)] (12,.n 0,.n 0) [0,1,1] [] rfl h1 h2)
theorem scan_le {X : PySem.Str} {hi : Nat} (hh : hi ≤ X.length) : ∀ (ps : List PySem.Str) {s : Nat} {p : Int}, s ≤ hi → scanTo X (hi : Int) ps (s : Int) = some p → ∃ q : Nat, p = (q : Int) ∧ q ≤ hi
 | [], s, p, hs, h => by cases h; exact ⟨s, rfl, hs⟩
 | w :: r, s, p, hs, h => by
  unfold scanTo at h
  rcases occ_head_hi X w s hi 1 (Nat.le_refl 1) with hR9_160 | hR9_159
  ·refine an2 hR9_160 fun _ hn => ?_
   try clear hR9_160
   rw [find4_no hh hn, if_pos (by decide)] at h; cases h
  ·refine ex2 hR9_159 fun k t h9_170 => an4 h9_170 fun _ a b c => ?_
   clear h9_170
   try clear hR9_159
   rw [find4_at hh a b c, if_neg (by exact lin [_] [] [] (9,.c (.v 0),.n 0) [1] [] rfl)] at h
   have hb := b.1
   exact scan_le hh r (s := k + w.length) (by exact lin [_,_,_] [] [(1,.a (.v 0) (.v 1),.v 2)] (1,.a (.v 0) (.v 1),.v 2) [1,1] [] rfl hb) (by rw [← h]; congr 1)
theorem scan_snoc_emp {X : PySem.Str} {hi s : Nat} (hh : hi ≤ X.length) (hs : s ≤ hi) (ps : List PySem.Str) : (scanTo X (hi : Int) (ps ++ [emp]) (s : Int)).isSome = (scanTo X (hi : Int) ps (s : Int)).isSome := by
 cases e : scanTo X (hi : Int) ps (s : Int) with
 | none => rw [scanTo_pre X _ ps [emp] _ e]
 | some p =>
  refine ex1 (scan_le hh ps hs e) fun q h9_172 => an2 h9_172 fun eq9_171 hq => ?_
  clear h9_172
  subst eq9_171
  rw [scanTo_snoc X _ emp _ _ _ e, find_emp hh hq, if_neg (by exact lin [_] [] [] (9,.c (.v 0),.n 0) [1] [] rfl)]
  rfl
theorem scan_cons_emp {X : PySem.Str} {hi s : Nat} (hh : hi ≤ X.length) (hs : s ≤ hi) (ps : List PySem.Str) : scanTo X (hi : Int) (emp :: ps) (s : Int) = scanTo X (hi : Int) ps (s : Int) := by
 show (if find4 X emp _ _ < 0 then none else scanTo X _ ps (find4 X emp _ _ + emp.length)) = _
 rw [find_emp hh hs, if_neg (by exact lin [_] [] [] (9,.c (.v 0),.n 0) [1] [] rfl)]
 have e : ((emp.length : Nat) : Int) = 0 := by decide +kernel
 rw [e, Int.add_zero]
noncomputable def emL (f b : Bool) (ds g : List Nat) : Bool := (f || decide (ds.head? = g.head?)) && (b || decide (ds.getLast? = g.getLast?)) && ds.isSublist g
theorem scan0 {X : PySem.Str} {g : List Nat} (hX : cs X = dblM g) (p q : Nat) (hp : p ≤ q) (hq : q ≤ g.length) (ds : List Nat) : (scanTo X ((2 * q : Nat) : Int) (ds.map dd) ((2 * p : Nat) : Int)).isSome = ds.isSublist ((g.take q).drop p) :=
 scan_sub hX hq (q - p) p ds (by exact lin [_,_,_] [] [(2,.a (.v 0) (.v 1),.v 2)] (2,.a (.v 1) (.v 0),.v 2) [1,1] [1,-1] rfl (Nat.sub_add_cancel (by exact lin [_,_] [] [(1,.v 0,.v 1)] (1,.v 0,.v 1) [1,1] [] rfl hp)))
theorem em_tt {X : PySem.Str} {g ds : List Nat} (hX : cs X = dblM g) : ematch X emp emp (ds.map dd) = ds.isSublist g := by
 have hXl : X.length = 2 * g.length := by rw [← cs_len, hX, dbl_len]
 have e0 : ((emp.length : Nat) : Int) = 0 := by decide +kernel
 have s0 := scan0 hX 0 g.length (Nat.zero_le _) (Nat.le_refl _) ds
 rw [List.take_length, List.drop_zero] at s0
 unfold ematch
 rw [e0]
 simp only [bne_self_eq_false, Bool.false_and, Bool.false_eq_true, if_false]
 rw [if_neg (by exact lin [_] [] [] (9,.s (.c (.v 0)) (.n 0),.n 0) [1] [] rfl), ← s0]
 have e1 : (X.length : Int) - 0 = ((2 * g.length : Nat) : Int) := by exact lin [_,_] [] [(2,.v 0,.m 2 (.v 1))] (8,.s (.c (.v 0)) (.n 0),.c (.m 2 (.v 1))) [1,1] [1,-1] rfl hXl
 rw [e1]
 show (scanTo X _ (emp :: (ds.map dd ++ [emp])) ((0 : Nat) : Int)).isSome = _
 rw [scan_cons_emp (by exact lin [_,_] [] [(2,.v 0,.m 2 (.v 1))] (1,.m 2 (.v 1),.v 0) [1,-1] [] rfl hXl) (by exact lin [_] [] [] (1,.n 0,.m 2 (.v 0)) [1] [] rfl), scan_snoc_emp (by exact lin [_,_] [] [(2,.v 0,.m 2 (.v 1))] (1,.m 2 (.v 1),.v 0) [1,-1] [] rfl hXl) (by exact lin [_] [] [] (1,.n 0,.m 2 (.v 0)) [1] [] rfl)]
theorem sub_cons {a : Nat} {ds g : List Nat} : (a :: ds).isSublist (a :: g) = ds.isSublist g := by simp [List.isSublist]
theorem sub_snoc {a : Nat} {ds g : List Nat} : (ds ++ [a]).isSublist (g ++ [a]) = ds.isSublist g := by
 rw [Bool.eq_iff_iff, List.isSublist_iff_sublist, List.isSublist_iff_sublist]
 exact List.append_sublist_append_right [a]
theorem em_ft {X : PySem.Str} {g ds : List Nat} {a : Nat} (hX : cs X = dblM g) (hg : g ≠ []) : ematch X (dd a) emp (ds.map dd) = (decide (some a = g.head?) && (a :: ds).isSublist g) := by
 have hXl : X.length = 2 * g.length := by rw [← cs_len, hX, dbl_len]
 have e0 : ((emp.length : Nat) : Int) = 0 := by decide +kernel
 have e2 : (((dd a).length : Nat) : Int) = 2 := rfl
 unfold ematch
 rw [e0, e2, starts_dd hX]
 have c2 : ((2 : Int) != 0) = true := by decide
 simp only [c2, Bool.true_and, bne_self_eq_false, Bool.false_and, Bool.false_eq_true, if_false, if_true]
 match g, hg with
 | x :: g', _ =>
  by_cases h : x = a
  ·subst h
   have s0 := scan0 hX 1 (g'.length + 1) (by exact lin [_] [] [] (1,.n 1,.a (.v 0) (.n 1)) [1] [] rfl) (Nat.le_refl _) ds
   have et : (x :: g').take (g'.length + 1) = x :: g' := List.take_of_length_le (Nat.le_refl _)
   rw [et] at s0
   simp only [List.head?_cons, decide_true, Bool.not_true, Bool.false_eq_true, if_false, Bool.true_and]
   rw [List.length_cons] at hXl
   rw [if_neg (by exact lin [_,_] [] [(2,.v 0,.m 2 (.a (.v 1) (.n 1)))] (9,.s (.c (.v 0)) (.n 0),.n 2) [1,-1] [] rfl hXl), sub_cons]
   have s1 : (scanTo X ((2 * (g'.length + 1) : Nat) : Int) (ds.map dd) ((2 * 1 : Nat) : Int)).isSome = ds.isSublist g' := s0
   rw [← s1]
   have e1 : (X.length : Int) - 0 = ((2 * (g'.length + 1) : Nat) : Int) := by exact lin [_,_] [] [(2,.v 0,.m 2 (.a (.v 1) (.n 1)))] (8,.s (.c (.v 0)) (.n 0),.c (.m 2 (.a (.v 1) (.n 1)))) [1,1] [1,-1] rfl hXl
   rw [e1]
   show (scanTo X _ (ds.map dd ++ [emp]) ((2 * 1 : Nat) : Int)).isSome = _
   rw [scan_snoc_emp (by exact lin [_,_] [] [(2,.v 0,.m 2 (.a (.v 1) (.n 1)))] (1,.m 2 (.a (.v 1) (.n 1)),.v 0) [1,-1] [] rfl hXl) (by exact lin [_] [] [] (1,.m 2 (.n 1),.m 2 (.a (.v 0) (.n 1))) [1] [] rfl)]
  ·have h1 : ¬ (some x = some a) := fun z => h (Option.some.inj z)
   have h2 : ¬ (some a = some x) := fun z => h (Option.some.inj z).symm
   simp [h1, h2]
theorem em_tf {X : PySem.Str} {g ds : List Nat} {a : Nat} (hX : cs X = dblM g) (hg : g ≠ []) : ematch X emp (dd a) (ds.map dd) = (decide (some a = g.getLast?) && (ds ++ [a]).isSublist g) := by
 have hXl : X.length = 2 * g.length := by rw [← cs_len, hX, dbl_len]
 have e0 : ((emp.length : Nat) : Int) = 0 := by decide +kernel
 have e2 : (((dd a).length : Nat) : Int) = 2 := rfl
 unfold ematch
 rw [e0, e2, ends_dd hX]
 have c2 : ((2 : Int) != 0) = true := by decide
 simp only [c2, Bool.true_and, bne_self_eq_false, Bool.false_and, Bool.false_eq_true, if_false, if_true]
 obtain ⟨g', x, rfl⟩ : ∃ g' x, g = g' ++ [x] := ⟨g.dropLast, g.getLast hg, (List.dropLast_concat_getLast hg).symm⟩
 rw [List.getLast?_concat]
 have hl : (g' ++ [x]).length = g'.length + 1 := by simp
 rw [hl] at hXl
 by_cases h : x = a
 ·subst h
  have s0 := scan0 hX 0 g'.length (by exact lin [_] [] [] (1,.n 0,.v 0) [1] [] rfl) (by rw [hl]; exact lin [_] [] [] (1,.v 0,.a (.v 0) (.n 1)) [1] [] rfl) ds
  have et : (g' ++ [x]).take g'.length = g' := List.take_left
  rw [et, List.drop_zero] at s0
  simp only [decide_true, Bool.not_true, Bool.false_eq_true, if_false, Bool.true_and]
  rw [if_neg (by exact lin [_,_] [] [(2,.v 0,.m 2 (.a (.v 1) (.n 1)))] (9,.s (.c (.v 0)) (.n 2),.n 0) [1,-1] [] rfl hXl), sub_snoc, ← s0]
  have e1 : (X.length : Int) - 2 = ((2 * g'.length : Nat) : Int) := by exact lin [_,_] [] [(2,.v 0,.m 2 (.a (.v 1) (.n 1)))] (8,.s (.c (.v 0)) (.n 2),.c (.m 2 (.v 1))) [1,1] [1,-1] rfl hXl
  rw [e1]
  show (scanTo X _ (emp :: (ds.map dd ++ [])) ((0 : Nat) : Int)).isSome = _
  rw [List.append_nil, scan_cons_emp (by exact lin [_,_] [] [(2,.v 0,.m 2 (.a (.v 1) (.n 1)))] (1,.m 2 (.v 1),.v 0) [1,-1] [] rfl hXl) (by exact lin [_] [] [] (1,.n 0,.m 2 (.v 0)) [1] [] rfl)]
 ·have h1 : ¬ (some x = some a) := fun z => h (Option.some.inj z)
  have h2 : ¬ (some a = some x) := fun z => h (Option.some.inj z).symm
  simp [h1, h2]
theorem em_ff {X : PySem.Str} {g ds : List Nat} {a z : Nat} (hX : cs X = dblM g) (hg : g ≠ []) : ematch X (dd a) (dd z) (ds.map dd) = (decide (some a = g.head?) && decide (some z = g.getLast?) && (a :: (ds ++ [z])).isSublist g) := by
 have hXl : X.length = 2 * g.length := by rw [← cs_len, hX, dbl_len]
 have e2 : (((dd a).length : Nat) : Int) = 2 := rfl
 have e3 : (((dd z).length : Nat) : Int) = 2 := rfl
 unfold ematch
 rw [e2, e3, starts_dd hX, ends_dd hX]
 have c2 : ((2 : Int) != 0) = true := by decide
 simp only [c2, Bool.true_and, if_true]
 obtain ⟨g', y, rfl⟩ : ∃ g' x, g = g' ++ [x] := ⟨g.dropLast, g.getLast hg, (List.dropLast_concat_getLast hg).symm⟩
 rw [List.getLast?_concat]
 have hl : (g' ++ [y]).length = g'.length + 1 := by simp
 rw [hl] at hXl
 match g' with
 | [] =>
  have h0 : (a :: (ds ++ [z])).isSublist [y] = false := by
   rw [Bool.eq_false_iff]
   intro h
   have := (List.isSublist_iff_sublist.mp h).length_le
   simp at this
  have hl0 : ([] : List Nat).length = 0 := rfl
  rw [List.nil_append, h0, Bool.and_false]
  split
  ·rfl
  split
  ·rfl
  rw [if_pos (by rw [hl0] at hXl; exact lin [_] [] [(2,.v 0,.m 2 (.a (.n 0) (.n 1)))] (6,.s (.c (.v 0)) (.n 2),.n 2) [1,1] [] rfl hXl)]
 | x :: g2 =>
  have hl2 : (x :: g2).length = g2.length + 1 := rfl
  rw [hl2] at hXl
  by_cases h : x = a
  ·subst h
   by_cases k : y = z
   ·subst k
    have s0 := scan0 hX 1 (g2.length + 1) (by exact lin [_] [] [] (1,.n 1,.a (.v 0) (.n 1)) [1] [] rfl) (by simp) ds
    have et : ((x :: g2) ++ [y]).take (g2.length + 1) = x :: g2 := List.take_left (l₁ := x :: g2)
    rw [et] at s0
    simp only [List.cons_append, List.head?_cons, decide_true, Bool.not_true, Bool.false_eq_true, if_false, Bool.true_and]
    rw [if_neg (by exact lin [_,_] [] [(2,.v 0,.m 2 (.a (.a (.v 1) (.n 1)) (.n 1)))] (9,.s (.c (.v 0)) (.n 2),.n 2) [1,-1] [] rfl hXl), sub_cons, sub_snoc]
    have s1 : (scanTo X ((2 * (g2.length + 1) : Nat) : Int) (ds.map dd) ((2 * 1 : Nat) : Int)).isSome = ds.isSublist g2 := s0
    rw [← s1]
    have e1 : (X.length : Int) - 2 = ((2 * (g2.length + 1) : Nat) : Int) := by exact lin [_,_] [] [(2,.v 0,.m 2 (.a (.a (.v 1) (.n 1)) (.n 1)))] (8,.s (.c (.v 0)) (.n 2),.c (.m 2 (.a (.v 1) (.n 1)))) [1,1] [1,-1] rfl hXl
    rw [e1]
    show (scanTo X _ (ds.map dd ++ []) ((2 * 1 : Nat) : Int)).isSome = _
    rw [List.append_nil]
   ·have h1 : ¬ (some y = some z) := fun q => k (Option.some.inj q)
    have h2 : ¬ (some z = some y) := fun q => k (Option.some.inj q).symm
    simp [h1, h2]
  ·have h1 : ¬ (some x = some a) := fun z => h (Option.some.inj z)
   have h2 : ¬ (some a = some x) := fun z => h (Option.some.inj z).symm
   simp [h1, h2]
end Mine
end
section
open PySem PySem.W PySem.Spec PySem.Calls PyProof.Rows PySem.Builtin PySem.Builtin.Str
namespace Mine
theorem snoc_of {ds : List Nat} (h : ds ≠ []) : ∃ l z, ds = l ++ [z] := ⟨ds.dropLast, ds.getLast h, (List.dropLast_concat_getLast h).symm⟩
theorem em_parts {X : PySem.Str} {g ds : List Nat} (hX : cs X = dblM g) (hg : g ≠ []) (hd : ds ≠ []) (f b : Bool) (hl : 2 ≤ (prt f b ds).length) :
  ∃ (w0 w1 : PySem.Str) (ms : List Nat), prt f b ds = w0 :: (ms.map dd ++ [w1]) ∧ ematch X w0 w1 (ms.map dd) = emL f b ds g ∧ w0.length ≤ 2 ∧ w1.length ≤ 2 ∧ ms.length ≤ ds.length := by
 have le0 : emp.length ≤ 2 := by decide +kernel
 have le2 : ∀ c, (dd c).length ≤ 2 := fun c => Nat.le_refl 2
 cases f with
 | true =>
  cases b with
  | true =>
   refine ⟨emp, emp, ds, rfl, ?_, le0, le0, Nat.le_refl _⟩
   rw [em_tt hX]; simp [emL]
  | false =>
   refine ex2 (snoc_of hd) fun l z eq9_177 => ?_
   subst eq9_177
   refine ⟨emp, dd z, l, by unfold prt; simp, ?_, le0, le2 z, by simp⟩
   rw [em_tf hX hg]; unfold emL; rw [List.getLast?_concat]; simp
 | false =>
  cases b with
  | true =>
   match ds, hd with
   | a :: l, _ =>
    refine ⟨dd a, emp, l, rfl, ?_, le2 a, le0, by simp⟩
    rw [em_ft hX hg]; unfold emL; simp only [List.head?_cons, Bool.false_or, Bool.true_or, Bool.and_true]
    congr
  | false =>
   match ds, hd with
   | a :: l, _ =>
    by_cases hl0 : l = []
    ·subst hl0
     exact absurd hl (by unfold prt; simp)
    ·refine ex2 (snoc_of hl0) fun l' z eq9_178 => ?_
     subst eq9_178
     refine ⟨dd a, dd z, l', by unfold prt; simp, ?_, le2 a, le2 z, by simp; exact lin [_] [] [] (1,.v 0,.a (.a (.v 0) (.n 1)) (.n 1)) [1] [] rfl⟩
     rw [em_ff hX hg]
     unfold emL
     have e : (a :: (l' ++ [z])).getLast? = some z := by rw [show a :: (l' ++ [z]) = (a :: l') ++ [z] from rfl, List.getLast?_concat]
     rw [e]
     simp only [List.head?_cons, Bool.false_or, Bool.true_or, Bool.and_true]
     congr
theorem em_want (w : World) (want got : PySem.Str) (t t' : Tok) (news : List (Addr × Obj)) (f b : Bool) (ds g : List Nat) (hw : want = Str.join dots (prt f b ds)) (hX : cs got = dblM g) (hg : g ≠ []) (hd : ds ≠ []) (hc : ∀ c ∈ ds, c ≠ 46) (hl : 2 ≤ (prt f b ds).length) (h1 : want.length ≤ 1000) (h2 : got.length ≤ 1000) (h3 : ds.length ≤ 1000) :
  Spc w 45 1 [.str want t, .str got t'] news (RBool news (emL f b ds g)) := by
 refine ex3 (em_parts hX hg hd f b hl) fun w0 w1 ms h9_179 => an5 h9_179 fun e hv l0 l1 lm => ?_
 clear h9_179
 rw [← hv]
 refine em_spc w want got t t' news w0 w1 (ms.map dd) h1 h2 (by rw [List.length_map]; exact lin [_,_] [] [(1,.v 0,.n 1000),(1,.v 1,.v 0)] (1,.v 1,.n 1000) [1,1,1] [] rfl h3 lm) (by exact lin [_] [] [(1,.v 0,.n 2)] (1,.v 0,.n 1000) [1,1] [] rfl l0) (by exact lin [_] [] [(1,.v 0,.n 2)] (1,.v 0,.n 1000) [1,1] [] rfl l1) _ _ rfl rfl (fun x hx => ?_) ?_ ?_
 ·refine ex1 (List.mem_map.mp hx) fun c h9_181 => an2 h9_181 fun _ eq9_180 => ?_
  clear h9_181
  subst eq9_180
  show 2 ≤ 1000
  decide
 ·rw [hw, e]
  cases hm : ms.map dd ++ [w1] with
  | nil => simp at hm
  | cons q r => exact contains_join
 ·rw [hw, e]
  exact split_dots (e ▸ prt_free hc)
theorem em_one (w : World) (c : Nat) (got : PySem.Str) (t t' : Tok) (news : List (Addr × Obj)) (g : List Nat) (hX : cs got = dblM g) (hc : c ≠ 46) (h2 : got.length ≤ 1000) :
  Spc w 45 1 [.str (dd c) t, .str got t'] news (RBool news (decide (g = [c]))) := by
 have e : (dd c == got) = decide (g = [c]) := by
  rw [Bool.eq_iff_iff, beq_iff_eq, decide_eq_true_iff]
  constructor
  ·intro h
   have h9 : cs (dd c) = dblM g := by rw [h]; exact hX
   have hl : (cs (dd c)).length = 2 := rfl
   have := congrArg List.length h9
   rw [dbl_len, hl] at this
   match g, this with
   | [x], _ =>
    have : [c, c] = [x, x] := h9
    rw [(List.cons.inj this).1]
  ·intro h
   refine cs_inj ?_
   rw [hX, h]; rfl
 rw [← e]
 refine em0_spc w _ _ t t' news (by show 2 ≤ 1000; decide) h2 ?_
 refine contains_no fun k hA => ?_
 have := ((StrLaws.At.eq_1 ..).mp hA).1
 have e1 : (dd c).length = 2 := rfl
 have e2 : (Str.ofString "...").length = 3 := rfl
 exact lin [_,_,_] [] [(1,.a (.v 0) (.v 1),.v 2),(2,.v 2,.n 2),(2,.v 1,.n 3)] (12,.n 0,.n 0) [0,1,1,-1] [] rfl this e1 e2
theorem join_front (l : List PySem.Str) (hl : l ≠ []) : dots ++ Str.join dots l = Str.join dots (emp :: l) := by
 match l, hl with
 | p :: r, _ =>
  refine cs_inj ?_
  show _ = cs (emp ++ dots ++ Str.join dots (p :: r))
  rw [cs_app, cs_app, cs_app]
  rfl
theorem join_back : ∀ (l : List PySem.Str), l ≠ [] → Str.join dots l ++ dots = Str.join dots (l ++ [emp])
 | [], h => absurd rfl h
 | [p], _ => by
  refine cs_inj ?_
  show cs (p ++ dots) = cs (p ++ dots ++ emp)
  rw [cs_app, cs_app, cs_app]
  have : cs emp = [] := by decide +kernel
  rw [this, List.append_nil]
 | p :: q :: r, _ => by
  have ih := join_back (q :: r) (by simp)
  refine cs_inj ?_
  show cs (p ++ dots ++ Str.join dots (q :: r) ++ dots) = cs (p ++ dots ++ Str.join dots (q :: (r ++ [emp])))
  have ih : Str.join dots (q :: r) ++ dots = Str.join dots (q :: (r ++ [emp])) := ih
  rw [← ih]
  simp only [cs_app, List.append_assoc]
theorem want_text (f b : Bool) (ds : List Nat) (hd : ds ≠ []) : (if f then dots else emp) ++ Txt.join dots (ds.map dd) ++ (if b then dots else emp) = Str.join dots (prt f b ds) := by
 have e0 : ∀ x : PySem.Str, emp ++ x = x := fun x => cs_inj (by rw [cs_app, show cs emp = [] by decide +kernel]; rfl)
 have e1 : ∀ x : PySem.Str, x ++ emp = x := fun x => cs_inj (by rw [cs_app, show cs emp = [] by decide +kernel, List.append_nil])
 have hm : ds.map dd ≠ [] := by simpa using hd
 rw [show Txt.join dots (ds.map dd) = Str.join dots (ds.map dd) from StrLaws.glued_eq_join _ _]
 unfold prt
 cases f <;> cases b <;> simp only [if_true, Bool.false_eq_true, if_false, e0, e1, List.nil_append, List.append_nil, List.cons_append]
 ·rw [join_back _ hm]
 ·rw [join_front _ hm]
 ·rw [join_front _ hm, join_back _ (by simp)]
  rfl
theorem trail_text (ds : List Nat) (hd : ds ≠ []) : dots ++ Str.join emp (ds.map fun c => dd c ++ dots) = Str.join dots (prt true true ds) := by
 have key : ∀ (ds : List Nat), ds ≠ [] → cs (Str.join emp (ds.map fun c => dd c ++ dots)) = cs (Str.join dots (ds.map dd)) ++ cs dots := by
  intro ds
  induction ds with
  | nil => intro h; exact absurd rfl h
  | cons a r ih =>
   intro _
   cases r with
   | nil => show cs (dd a ++ dots) = _; rw [cs_app]; rfl
   | cons b r =>
    have ih := ih (by simp)
    show cs (dd a ++ dots ++ emp ++ Str.join emp ((b :: r).map fun c => dd c ++ dots)) = cs (dd a ++ dots ++ Str.join dots ((b :: r).map dd)) ++ _
    rw [cs_app, ih]
    have : cs emp = [] := by decide +kernel
    simp only [cs_app, this, List.append_nil, List.append_assoc]
 have hm : ds.map dd ≠ [] := by simpa using hd
 refine cs_inj ?_
 rw [cs_app, key ds hd, ← cs_app, join_back _ hm, ← cs_app, join_front _ (by simp)]
 rfl
end Mine
end
section
open PySem PySem.W PySem.Spec PySem.Calls PyProof.Rows PySem.Builtin PySem.Builtin.Str
namespace Mine
open StrLaws
theorem parts_mem {X : PySem.Str} {n : Nat} : ∀ {cuts : List Nat} {a : Nat} {q : PySem.Str}, q ∈ partsFrom X n a cuts → ∀ c ∈ cs q, c ∈ cs X
 | [], a, q, hq, c, hc => by
  rw [List.mem_singleton.mp hq] at hc
  have hc : c ∈ (strSub X a X.length).cps.toList := hc
  rw [strSub_toList] at hc
  exact List.mem_of_mem_drop (List.mem_of_mem_take hc)
 | k :: r, a, q, hq, c, hc => by
  rcases List.mem_cons.mp hq with rfl | hq
  ·have hc : c ∈ (strSub X a k).cps.toList := hc
   rw [strSub_toList] at hc
   exact List.mem_of_mem_drop (List.mem_of_mem_take hc)
  ·exact parts_mem hq c hc
theorem split_mem {x y q : PySem.Str} (hq : q ∈ Txt.split x y) : ∀ c ∈ cs q, c ∈ cs x := by
 unfold Txt.split at hq
 split at hq
 ·rw [List.mem_singleton.mp hq]; exact fun _ h => h
 ·split at hq
  ·rw [List.mem_singleton.mp hq]; exact fun _ h => h
  ·rw [partsBetween_eq] at hq
   exact parts_mem hq
theorem slice_mem {x : PySem.Str} {l u : Option Int} : ∀ c ∈ cs (Txt.slice x l u), c ∈ cs x := by
 intro c hc
 have hc : c ∈ cs (sliceText x l u) := hc
 unfold sliceText at hc
 split at hc
 ·exact hc
 ·have hc : c ∈ (strSliceIndices l u 1 x.length).filterMap (x.cps[·]?) := hc
  refine ex1 (List.mem_filterMap.mp hc) fun i h9_183 => an2 h9_183 fun _ hi => ?_
  clear h9_183
  have : (cs x)[i]? = some c := by rw [← hi]; unfold cs; simp
  exact List.mem_of_getElem? this
theorem find_ge {x y : PySem.Str} : Txt.find x y < 0 ∨ ∃ k : Nat, Txt.find x y = (k : Int) ∧ k + y.length ≤ x.length := by
 unfold Txt.find
 rcases occ_head_hi x y 0 x.length 1 (Nat.le_refl 1) with hR9_174 | hR9_173
 ·refine an2 hR9_174 fun e _ => ?_
  try clear hR9_174
  rw [e]; exact .inl (by decide)
 ·refine ex2 hR9_173 fun i r h9_184 => an4 h9_184 fun e _ h _ => ?_
  clear h9_184
  try clear hR9_173
  rw [e]; exact .inr ⟨i, rfl, h.1⟩
theorem find3_geM {x y : PySem.Str} {k : Nat} : Txt.find3 x y (k : Int) < 0 ∨ ∃ i : Nat, Txt.find3 x y (k : Int) = (i : Int) ∧ k ≤ i ∧ i + y.length ≤ x.length := by
 unfold Txt.find3
 rw [fromIndex_nat]
 rcases occ_head_hi x y k x.length 1 (Nat.le_refl 1) with hR9_176 | hR9_175
 ·refine an2 hR9_176 fun e _ => ?_
  try clear hR9_176
  rw [e]; exact .inl (by decide)
 ·refine ex2 hR9_175 fun i r h9_185 => an4 h9_185 fun e h0 h _ => ?_
  clear h9_185
  try clear hR9_175
  rw [e]; exact .inr ⟨i, rfl, h0, h.1⟩
theorem br_ok (r : PySem.Str) : BrOk r := by
 unfold BrOk
 rcases find_ge (x := r) (y := Str.ofString "(") with h | ⟨k, e, h⟩
 ·exact .inl h
 ·refine .inr ⟨by exact lin [_] [_] [(8,.v 0,.c (.v 0))] (7,.n 0,.v 0) [1,-1] [] rfl e, ?_⟩
  have hl : (Str.ofString ")" : PySem.Str).length = 1 := by decide +kernel
  have e2 : Txt.find r (Str.ofString "(") + 1 = ((k + 1 : Nat) : Int) := by exact lin [_] [_] [(8,.v 0,.c (.v 0))] (8,.a (.v 0) (.n 1),.c (.a (.v 0) (.n 1))) [1,1] [1,-1] rfl e
  rw [e2]
  rcases find3_geM (x := r) (y := Str.ofString ")") (k := k + 1) with h | ⟨i, e, h0, h⟩
  ·exact .inl h
  ·exact .inr ⟨by exact lin [_,_] [_] [(8,.v 0,.c (.v 0)),(1,.a (.v 1) (.n 1),.v 0)] (7,.c (.a (.v 1) (.n 1)),.v 0) [1,-1,1] [] rfl e h0, by exact lin [_,_,_] [_] [(2,.v 0,.n 1),(8,.v 0,.c (.v 1)),(1,.a (.v 1) (.v 0),.v 2)] (6,.v 0,.c (.v 2)) [1,-1,1,1] [] rfl hl e h⟩
theorem p3_ok {r : PySem.Str} (h : Plain r) : ∀ a b c p3 e, Txt.split (Txt.slice r (some (Txt.find r (Str.ofString "(") + 1)) (some (Txt.find3 r (Str.ofString ")") (Txt.find r (Str.ofString "(") + 1)))) (Txt.item r (Txt.find r (Str.ofString "(") + 1)) = [a, b, c, p3, e] → ∀ x ∈ p3.cps.toList, x < 16 ^ 8 := by
 intro a b c p3 e hs x hx
 have h1 : x ∈ cs r := slice_mem x (split_mem (x := Txt.slice r _ _) (q := p3) (by rw [hs]; simp) x hx)
 have hq := h x h1
 exact lin [_] [] [(0,.v 0,.n 127)] (0,.v 0,.n 4294967296) [1,1] [] rfl hq.2
end Mine
end
section
open PySem PySem.W PySem.Spec PySem.Calls PyProof.Rows PySem.Builtin PySem.Builtin.Str
namespace Mine
open StrLaws
noncomputable def nmL : List Nat := [97, 98, 99, 116, 65, 66, 67, 84, 46]
theorem nm_mem {nm h : PySem.Str} (x : NmOk nm h) (hh : Ltr h) : ∀ c ∈ cs nm, c ∈ nmL := by
 rcases x with rfl | rfl | rfl <;> rcases hh with rfl | rfl | rfl <;> decide +kernel
section
variable {y : PySem.Str} {m : Nat} {A F Z T : List Nat}
noncomputable def spl (w m : Nat) (A F Z T : List Nat) : List Nat := match w with
 | 0 => [50, 50, 55, 32] ++ A ++ (40 :: bdy m F Z) ++ (41 :: T)
 | 1 => [50, 50, 57, 32] ++ A ++ bdy m F Z ++ (41 :: T)
 | 2 => [50, 50, 57, 32] ++ A ++ (40 :: bdy m F Z) ++ (113 :: T)
 | 3 => [50, 50, 57, 32] ++ A ++ (40 :: bdy m F Z) ++ (113 :: 41 :: T)
 | 4 => [50, 50, 57, 32] ++ A ++ (40 :: m :: bdy m F Z) ++ (41 :: T)
 | 5 => [50, 50, 57, 32] ++ A ++ (40 :: ([m] ++ F ++ [m] ++ Z ++ [m])) ++ (41 :: T)
 | _ => [50, 50, 57, 32] ++ A ++ (40 :: ([m] ++ F ++ [m, m] ++ Z ++ [113] ++ [m])) ++ (41 :: T)
theorem par0 (R : Rep y m A F Z T) : parseK (mkS (spl 0 m A F Z T)) = .error 0 := by
 have f0 : Txt.slice (mkS (spl 0 m A F Z T)) none (some 3) = Str.ofString "227" := by
  have e := sliceText_to (x := mkS (spl 0 m A F Z T)) (j := 3) ⟨by decide, by show (3 : Int) ≤ ((spl 0 m A F Z T).length : Int); unfold spl; simp; exact lin [_,_,_] [] [] (7,.n 3,.a (.a (.a (.a (.a (.c (.v 0)) (.a (.a (.c (.v 1)) (.a (.c (.v 2)) (.n 1))) (.n 1))) (.n 1)) (.n 1)) (.n 1)) (.n 1)) [1] [] rfl⟩
  show sliceText (mkS (spl 0 m A F Z T)) none (some 3) = _
  rw [e]
  apply cs_inj
  rfl
 unfold parseK
 rw [f0, if_pos (by decide +kernel)]
theorem head3 {l : List Nat} : ∀ {x : PySem.Str}, cs x = [50, 50, 57] ++ l → (Txt.slice x none (some 3) != Str.ofString "229") = false := by
 intro x hx
 have e := sliceText_to (x := x) (j := 3) ⟨by decide, by show (3 : Int) ≤ ((cs x).length : Int); rw [hx]; simp; exact lin [_] [] [] (7,.n 3,.a (.a (.a (.c (.v 0)) (.n 1)) (.n 1)) (.n 1)) [1] [] rfl⟩
 have e2 : Txt.slice x none (some 3) = Str.ofString "229" := by
  show sliceText x none (some 3) = _
  rw [e]
  apply cs_inj
  show ((cs x).drop 0).take 3 = _
  rw [hx]; rfl
 rw [e2]; decide +kernel
theorem par1 (R : Rep y m A F Z T) : parseK (mkS (spl 1 m A F Z T)) = .error 1 := by
 have h3 := head3 (x := mkS (spl 1 m A F Z T)) (l := [32] ++ A ++ bdy m F Z ++ (41 :: T)) (by show spl 1 m A F Z T = _; unfold spl; exact lapp [_,_,_,_,_] [_,_,_,_] (.m 0 (.a (.a (.a (.m 0 (.m 1 (.m 2 (.n 0)))) (.v 0)) (.m 3 (.a (.a (.a (.a (.n 0) (.v 1)) (.m 3 (.m 3 (.n 0)))) (.v 2)) (.m 3 (.n 0))))) (.m 4 (.v 3)))) (.a (.m 0 (.m 0 (.m 1 (.n 0)))) (.a (.a (.a (.m 2 (.n 0)) (.v 0)) (.m 3 (.a (.a (.a (.a (.n 0) (.v 1)) (.m 3 (.m 3 (.n 0)))) (.v 2)) (.m 3 (.n 0))))) (.m 4 (.v 3)))) rfl)
 have no : 40 ∉ [50, 50, 57, 32] ++ A ++ bdy m F Z ++ [41] := by
  have h1 := R.no40
  have h2 := R.mem40
  simp only [List.mem_append, List.mem_cons, List.not_mem_nil, or_false, not_or] at h1 ⊢
  exact ⟨⟨⟨⟨by decide, by decide, by decide, by decide⟩, h1.2⟩, h2⟩, by decide⟩
 unfold parseK
 rw [h3, if_neg (by decide)]
 rcases R.ht with e | e
 ·have e1 := find_nobrk (r := mkS (spl 1 m A F Z T)) (by rw [cs_mk, e]; exact no)
  rw [e1, if_pos (by decide)]
 ·have hx : cs (mkS (spl 1 m A F Z T)) = ([50, 50, 57, 32] ++ A ++ bdy m F Z ++ [41, 46]) ++ 40 :: [] := by rw [cs_mk, e]; unfold spl; exact lapp [_,_,_,_,_,_,_] [_,_,_] (.m 0 (.a (.a (.a (.m 0 (.m 1 (.m 2 (.n 0)))) (.v 0)) (.m 3 (.a (.a (.a (.a (.n 0) (.v 1)) (.m 3 (.m 3 (.n 0)))) (.v 2)) (.m 3 (.n 0))))) (.m 4 (.m 5 (.m 6 (.n 0)))))) (.a (.a (.a (.a (.m 0 (.m 0 (.m 1 (.m 2 (.n 0))))) (.v 0)) (.m 3 (.a (.a (.a (.a (.n 0) (.v 1)) (.m 3 (.m 3 (.n 0)))) (.v 2)) (.m 3 (.n 0))))) (.m 4 (.m 5 (.n 0)))) (.m 6 (.n 0))) rfl
  have e1 := find_brk hx (by
   intro q
   rcases List.mem_append.mp q with q | q
   ·exact no (List.mem_append_left _ q)
   ·simp at q)
  have e2 := find3_no (r := mkS (spl 1 m A F Z T)) (P := ([50, 50, 57, 32] ++ A ++ bdy m F Z ++ [41, 46]) ++ [40]) (S := []) (by rw [hx]; exact lapp [_,_,_,_,_,_,_] [_,_,_] (.a (.a (.a (.a (.m 0 (.m 0 (.m 1 (.m 2 (.n 0))))) (.v 0)) (.m 3 (.a (.a (.a (.a (.n 0) (.v 1)) (.m 3 (.m 3 (.n 0)))) (.v 2)) (.m 3 (.n 0))))) (.m 4 (.m 5 (.n 0)))) (.m 6 (.n 0))) (.a (.a (.a (.a (.a (.m 0 (.m 0 (.m 1 (.m 2 (.n 0))))) (.v 0)) (.m 3 (.a (.a (.a (.a (.n 0) (.v 1)) (.m 3 (.m 3 (.n 0)))) (.v 2)) (.m 3 (.n 0))))) (.m 4 (.m 5 (.n 0)))) (.m 6 (.n 0))) (.n 0)) rfl) (by simp)
  have e3 : ((([50, 50, 57, 32] ++ A ++ bdy m F Z ++ [41, 46]).length : Nat) : Int) + 1 = (((([50, 50, 57, 32] ++ A ++ bdy m F Z ++ [41, 46]) ++ [40]).length : Nat) : Int) := by rw [List.length_append (bs := [40])]; simp
  rw [e1, if_neg (by exact lin [_] [] [] (9,.c (.v 0),.n 0) [1] [] rfl), e3, e2, if_pos (by decide)]
theorem par2 (R : Rep y m A F Z T) : parseK (mkS (spl 2 m A F Z T)) = .error 1 := by
 have h3 := head3 (x := mkS (spl 2 m A F Z T)) (l := [32] ++ A ++ (40 :: bdy m F Z) ++ (113 :: T)) (by show spl 2 m A F Z T = _; unfold spl; exact lapp [_,_,_,_,_,_] [_,_,_,_] (.m 0 (.a (.a (.a (.m 0 (.m 1 (.m 2 (.n 0)))) (.v 0)) (.m 3 (.m 4 (.a (.a (.a (.a (.n 0) (.v 1)) (.m 4 (.m 4 (.n 0)))) (.v 2)) (.m 4 (.n 0)))))) (.m 5 (.v 3)))) (.a (.m 0 (.m 0 (.m 1 (.n 0)))) (.a (.a (.a (.m 2 (.n 0)) (.v 0)) (.m 3 (.m 4 (.a (.a (.a (.a (.n 0) (.v 1)) (.m 4 (.m 4 (.n 0)))) (.v 2)) (.m 4 (.n 0)))))) (.m 5 (.v 3)))) rfl)
 have hx : cs (mkS (spl 2 m A F Z T)) = ([50, 50, 57, 32] ++ A) ++ 40 :: (bdy m F Z ++ (113 :: T)) := by rw [cs_mk]; unfold spl; exact lapp [_,_,_,_,_,_] [_,_,_,_] (.m 0 (.a (.a (.a (.m 0 (.m 1 (.m 2 (.n 0)))) (.v 0)) (.m 3 (.m 4 (.a (.a (.a (.a (.n 0) (.v 1)) (.m 4 (.m 4 (.n 0)))) (.v 2)) (.m 4 (.n 0)))))) (.m 5 (.v 3)))) (.a (.a (.m 0 (.m 0 (.m 1 (.m 2 (.n 0))))) (.v 0)) (.m 3 (.a (.m 4 (.a (.a (.a (.a (.n 0) (.v 1)) (.m 4 (.m 4 (.n 0)))) (.v 2)) (.m 4 (.n 0)))) (.m 5 (.v 3))))) rfl
 have e1 := find_brk hx (by have := R.no40; simp at this ⊢; exact this)
 have e2 := find3_no (r := mkS (spl 2 m A F Z T)) (P := ([50, 50, 57, 32] ++ A) ++ [40]) (S := bdy m F Z ++ (113 :: T)) (by rw [hx]; exact lapp [_,_,_,_,_,_] [_,_,_,_] (.a (.a (.m 0 (.m 0 (.m 1 (.m 2 (.n 0))))) (.v 0)) (.m 3 (.a (.m 4 (.a (.a (.a (.a (.n 0) (.v 1)) (.m 4 (.m 4 (.n 0)))) (.v 2)) (.m 4 (.n 0)))) (.m 5 (.v 3))))) (.a (.a (.a (.m 0 (.m 0 (.m 1 (.m 2 (.n 0))))) (.v 0)) (.m 3 (.n 0))) (.a (.m 4 (.a (.a (.a (.a (.n 0) (.v 1)) (.m 4 (.m 4 (.n 0)))) (.v 2)) (.m 4 (.n 0)))) (.m 5 (.v 3)))) rfl) (by
  intro q
  rcases List.mem_append.mp q with q | q
  ·exact R.mem41 q
  ·rcases R.ht with e | e <;> rw [e] at q <;> simp at q)
 have e3 : ((([50, 50, 57, 32] ++ A).length : Nat) : Int) + 1 = (((([50, 50, 57, 32] ++ A) ++ [40]).length : Nat) : Int) := by rw [List.length_append (bs := [40])]; simp
 unfold parseK
 rw [h3, if_neg (by decide), e1, if_neg (by exact lin [_] [] [] (9,.c (.v 0),.n 0) [1] [] rfl), e3, e2, if_pos (by decide)]
theorem par3 (R : Rep y m A F Z T) : parseK (mkS (spl 3 m A F Z T)) = .error 1 := by
 have h := parse_at (r := mkS (spl 3 m A F Z T)) (G := [32] ++ A) (m := m) (Q := F ++ [m, m] ++ Z ++ [m] ++ [113]) (T := T) (by rw [cs_mk]; unfold spl bdy; exact lapp [_,_,_,_,_,_,_] [_,_,_,_] (.m 0 (.a (.a (.a (.m 0 (.m 1 (.m 2 (.n 0)))) (.v 0)) (.m 3 (.a (.a (.a (.a (.m 4 (.n 0)) (.v 1)) (.m 4 (.m 4 (.n 0)))) (.v 2)) (.m 4 (.n 0))))) (.m 5 (.m 6 (.v 3))))) (.a (.a (.a (.m 0 (.m 0 (.m 1 (.n 0)))) (.a (.m 2 (.n 0)) (.v 0))) (.m 3 (.m 4 (.a (.a (.a (.a (.v 1) (.m 4 (.m 4 (.n 0)))) (.v 2)) (.m 4 (.n 0))) (.m 5 (.n 0)))))) (.m 6 (.v 3))) rfl) R.no40 (by
  have h1 := R.mem41
  unfold bdy at h1
  simp only [List.mem_append, List.mem_cons, List.not_mem_nil, or_false, not_or] at h1 ⊢
  exact ⟨h1.1.1.1.1, ⟨⟨⟨h1.1.1.1.2, h1.1.1.2⟩, h1.1.2⟩, h1.2⟩, by decide⟩)
 rw [h, if_pos (by
  have e : (m :: (F ++ [m, m] ++ Z ++ [m] ++ [113])).getLast? = some 113 := by
   rw [← List.cons_append, List.getLast?_append]; rfl
  rw [e]
  intro q
  exact R.m41.2.2.1 (Option.some.inj q))]
theorem par4 (R : Rep y m A F Z T) : parseK (mkS (spl 4 m A F Z T)) = .error 1 := by
 have h := parse_at (r := mkS (spl 4 m A F Z T)) (G := [32] ++ A) (m := m) (Q := [m] ++ F ++ [m, m] ++ Z ++ [m]) (T := T) (by rw [cs_mk]; unfold spl bdy; exact lapp [_,_,_,_,_,_] [_,_,_,_] (.m 0 (.a (.a (.a (.m 0 (.m 1 (.m 2 (.n 0)))) (.v 0)) (.m 3 (.m 4 (.a (.a (.a (.a (.m 4 (.n 0)) (.v 1)) (.m 4 (.m 4 (.n 0)))) (.v 2)) (.m 4 (.n 0)))))) (.m 5 (.v 3)))) (.a (.a (.a (.m 0 (.m 0 (.m 1 (.n 0)))) (.a (.m 2 (.n 0)) (.v 0))) (.m 3 (.m 4 (.a (.a (.a (.a (.m 4 (.n 0)) (.v 1)) (.m 4 (.m 4 (.n 0)))) (.v 2)) (.m 4 (.n 0)))))) (.m 5 (.v 3))) rfl) R.no40 (by
  have h1 := R.mem41
  have h2 := R.m41.1
  unfold bdy at h1
  rw [List.mem_cons, not_or]
  exact ⟨h2, h1⟩)
 rw [h, if_neg (by rw [last_m]; simp), split_mk R.mkq (p := mkS []) (qs := [mkS [], mkS F, mkS [], mkS Z, mkS []]) (by
  intro q hq
  simp only [List.mem_cons, List.not_mem_nil, or_false] at hq
  rcases hq with rfl | rfl | rfl | rfl | rfl | rfl
  all_goals first | exact R.fm | exact R.zm | (rw [cs_nil]; simp)) (by simp [join_cons, join_oneM, cs_mk])]
theorem par5 (R : Rep y m A F Z T) : parseK (mkS (spl 5 m A F Z T)) = .error 1 := by
 have h := parse_at (r := mkS (spl 5 m A F Z T)) (G := [32] ++ A) (m := m) (Q := F ++ [m] ++ Z ++ [m]) (T := T) (by rw [cs_mk]; unfold spl; exact lapp [_,_,_,_,_,_] [_,_,_,_] (.m 0 (.a (.a (.a (.m 0 (.m 1 (.m 2 (.n 0)))) (.v 0)) (.m 3 (.a (.a (.a (.a (.m 4 (.n 0)) (.v 1)) (.m 4 (.n 0))) (.v 2)) (.m 4 (.n 0))))) (.m 5 (.v 3)))) (.a (.a (.a (.m 0 (.m 0 (.m 1 (.n 0)))) (.a (.m 2 (.n 0)) (.v 0))) (.m 3 (.m 4 (.a (.a (.a (.v 1) (.m 4 (.n 0))) (.v 2)) (.m 4 (.n 0)))))) (.m 5 (.v 3))) rfl) R.no40 (by
  have h1 := R.mem41
  unfold bdy at h1
  simp only [List.mem_append, List.mem_cons, List.not_mem_nil, or_false, not_or] at h1 ⊢
  exact ⟨h1.1.1.1.1, ⟨⟨h1.1.1.1.2, h1.2⟩, h1.1.2⟩, h1.2⟩)
 rw [h, if_neg (by rw [last_m]; simp), split_mk R.mkq (p := mkS []) (qs := [mkS F, mkS Z, mkS []]) (by
  intro q hq
  simp only [List.mem_cons, List.not_mem_nil, or_false] at hq
  rcases hq with rfl | rfl | rfl | rfl
  all_goals first | exact R.fm | exact R.zm | (rw [cs_nil]; simp)) (by simp [join_cons, join_oneM, cs_mk])]
theorem par6 (R : Rep y m A F Z T) : parseK (mkS (spl 6 m A F Z T)) = .error 2 := by
 have h := parse_at (r := mkS (spl 6 m A F Z T)) (G := [32] ++ A) (m := m) (Q := F ++ [m, m] ++ Z ++ [113] ++ [m]) (T := T) (by rw [cs_mk]; unfold spl; exact lapp [_,_,_,_,_,_,_] [_,_,_,_] (.m 0 (.a (.a (.a (.m 0 (.m 1 (.m 2 (.n 0)))) (.v 0)) (.m 3 (.a (.a (.a (.a (.a (.m 4 (.n 0)) (.v 1)) (.m 4 (.m 4 (.n 0)))) (.v 2)) (.m 5 (.n 0))) (.m 4 (.n 0))))) (.m 6 (.v 3)))) (.a (.a (.a (.m 0 (.m 0 (.m 1 (.n 0)))) (.a (.m 2 (.n 0)) (.v 0))) (.m 3 (.m 4 (.a (.a (.a (.a (.v 1) (.m 4 (.m 4 (.n 0)))) (.v 2)) (.m 5 (.n 0))) (.m 4 (.n 0)))))) (.m 6 (.v 3))) rfl) R.no40 (by
  have h1 := R.mem41
  unfold bdy at h1
  simp only [List.mem_append, List.mem_cons, List.not_mem_nil, or_false, not_or] at h1 ⊢
  exact ⟨h1.1.1.1.1, ⟨⟨⟨h1.1.1.1.2, h1.1.1.2⟩, h1.1.2⟩, by decide⟩, h1.2⟩)
 rw [h, if_neg (by rw [last_m]; simp), split_mk R.mkq (p := mkS []) (qs := [mkS F, mkS [], mkS (Z ++ [113]), mkS []]) (by
  intro q hq
  simp only [List.mem_cons, List.not_mem_nil, or_false] at hq
  rcases hq with rfl | rfl | rfl | rfl | rfl
  all_goals first | exact R.fm | (rw [cs_nil]; simp; done) | (rw [cs_mk]; simp only [List.mem_append, List.mem_singleton, not_or]; exact ⟨R.zm, fun q => R.m41.2.2.1 q.symm⟩)) (by simp [join_cons, join_oneM, cs_mk])]
 dsimp only
 rw [R.hzn]
theorem Rep.plain (R : Rep y m A F Z T) : ∀ w, Plain (mkS (spl w m A F Z T)) ∧ (spl w m A F Z T).length ≤ 30 := by
 have hA : (∀ c ∈ A, 32 ≤ c ∧ c < 127) ∧ A.length ≤ 4 := by rcases R.ha with h | h <;> rw [h] <;> decide
 have hF : (∀ c ∈ F, 32 ≤ c ∧ c < 127) ∧ F.length ≤ 1 := by rcases R.hf with h | h <;> rw [h] <;> decide
 have hZ : ∀ c ∈ Z, 32 ≤ c ∧ c < 127 := fun c hc => by have := R.hz c hc; exact ⟨lin [_] [] [(1,.n 48,.v 0)] (1,.n 32,.v 0) [1,1] [] rfl this.1, lin [_] [] [(0,.v 0,.n 58)] (0,.v 0,.n 127) [1,1] [] rfl this.2⟩
 have hT : (∀ c ∈ T, 32 ≤ c ∧ c < 127) ∧ T.length ≤ 2 := by rcases R.ht with h | h <;> rw [h] <;> decide
 have hm : 32 ≤ m ∧ m < 127 := by have := R.mkq; exact ⟨this.elim (fun q0 => lin [_] [] [(2,.v 0,.n 124)] (1,.n 32,.v 0) [1,-1] [] rfl q0) fun q0 => q0.elim (fun q1 => lin [_] [] [(2,.v 0,.n 33)] (1,.n 32,.v 0) [1,-1] [] rfl q1) fun q1 => q1.elim (fun q2 => lin [_] [] [(2,.v 0,.n 59)] (1,.n 32,.v 0) [1,-1] [] rfl q2) fun q2 => lin [_] [] [(2,.v 0,.n 120)] (1,.n 32,.v 0) [1,-1] [] rfl q2, this.elim (fun q0 => lin [_] [] [(2,.v 0,.n 124)] (0,.v 0,.n 127) [1,1] [] rfl q0) fun q0 => q0.elim (fun q1 => lin [_] [] [(2,.v 0,.n 33)] (0,.v 0,.n 127) [1,1] [] rfl q1) fun q1 => q1.elim (fun q2 => lin [_] [] [(2,.v 0,.n 59)] (0,.v 0,.n 127) [1,1] [] rfl q2) fun q2 => lin [_] [] [(2,.v 0,.n 120)] (0,.v 0,.n 127) [1,1] [] rfl q2⟩
 have hzl := R.hzl
 intro w
 constructor
 ·intro c hc
  have hc : c ∈ spl w m A F Z T := hc
  have key : c = 50 ∨ c = 55 ∨ c = 57 ∨ c = 32 ∨ c = 40 ∨ c = 41 ∨ c = 113 ∨ c = m ∨ c ∈ A ∨ c ∈ F ∨ c ∈ Z ∨ c ∈ T := by
   unfold spl bdy at hc
   split at hc <;> simp only [List.mem_append, List.mem_cons, List.not_mem_nil, or_false] at hc <;> grind
  rcases key with rfl | rfl | rfl | rfl | rfl | rfl | rfl | rfl | h | h | h | h
  all_goals first | exact hm | exact hA.1 c h | exact hF.1 c h | exact hZ c h | exact hT.1 c h | decide
 ·have h1 := hA.2
  have h2 := hF.2
  have h3 := hT.2
  unfold spl bdy
  split <;> simp only [List.length_append, List.length_cons, List.length_nil] <;> omega
end
end Mine
end
section
open PySem PySem.W PySem.Spec PySem.Calls PyProof.Rows PySem.Builtin PySem.Builtin.Str
namespace Mine
open StrLaws
noncomputable def crlf : PySem.Str := Str.ofString "\r\n"
noncomputable def endS : List PySem.Str := [Str.ofString "", Str.ofString ""]
theorem crlf_cs : cs crlf = [13, 10] := by decide +kernel
noncomputable def aft (hs : List (PySem.Str × PySem.Str)) : List Nat := [13, 10] ++ cs (Str.join crlf (hs.map hline ++ endS))
theorem join_hd (p : PySem.Str) (l : List PySem.Str) (hl : l ≠ []) : cs (Str.join crlf (p :: l)) = cs p ++ ([13, 10] ++ cs (Str.join crlf l)) := by
 cases l with
 | nil => exact absurd rfl hl
 | cons q r => rw [join_cons, crlf_cs]
theorem app_end (l : List PySem.Str) : l ++ endS ≠ [] := by unfold endS; simp
theorem hstr_cs (p : PySem.Str × PySem.Str) (hs : List (PySem.Str × PySem.Str)) : cs (hstr (p :: hs)) = cs p.1 ++ ([58, 32] ++ cs p.2) ++ aft hs := by
 have e : hstr (p :: hs) = Str.join crlf (hline p :: (hs.map hline ++ endS)) := glued_eq_join _ _
 rw [e, join_hd _ _ (app_end _), show hline p = p.1 ++ Str.ofString ": " ++ p.2 from rfl, line_cs]
 rfl
theorem mk_ok {m : Nat} (h : m = 124 ∨ m = 33 ∨ m = 59 ∨ m = 120) : MkOk (mkS [m]) := by
 rcases h with rfl | rfl | rfl | rfl <;> exact ⟨by decide +kernel, by decide +kernel, by decide +kernel, by decide +kernel, by decide +kernel, by decide +kernel⟩
theorem lineq_ok {nm h y : PySem.Str} (x : NmOk nm h) (hh : Ltr h) (hyl : y.length ≤ 100) (hp : Plain y) : LineQ (nm ++ Str.ofString ": " ++ y) h y := by
 refine ex3 (nm_cs x hh) fun u v z h9_223 => an7 h9_223 fun hn hn9_221 hn9_222 c1 c2 c3 hz => ?_
 clear h9_223
 obtain ⟨a1, a2, a3⟩ := hn9_221
 obtain ⟨b1, b2, b3⟩ := hn9_222
 have hx := line_cs nm y
 rw [hn] at hx
 generalize nm ++ Str.ofString ": " ++ y = X at hx
 have hlen : (cs X).length = 6 + (cs y).length := by rw [hx]; simp; exact lin [_] [] [] (2,.a (.a (.a (.a (.a (.a (.v 0) (.n 1)) (.n 1)) (.n 1)) (.n 1)) (.n 1)) (.n 1),.a (.n 6) (.v 0)) [1] [1] rfl
 have hXl : X.length = 6 + y.length := by rw [← cs_len, hlen, cs_len]
 have h58 : (58 : Nat) ∉ [u, v, 46, z] := by
  simp only [List.mem_cons, List.not_mem_nil, or_false, not_or]
  exact ⟨Ne.symm a1, Ne.symm a2, by decide, Ne.symm a3⟩
 refine ⟨by exact lin [_,_] [] [(1,.v 0,.n 100),(2,.v 1,.a (.n 6) (.v 0))] (1,.v 1,.n 200) [1,1,1] [] rfl hyl hXl, ?_, ?_, ?_, ?_, ?_, ?_, ?_⟩
 ·refine find_no fun i => at_no (c0 := 10) (y' := []) rfl ?_
  rw [hx]
  intro hm
  rcases List.mem_append.mp hm with hm | hm
  ·simp only [List.mem_cons, List.not_mem_nil, or_false] at hm
   exact hm.elim (fun zq0 => lin [_] [] [(1,.n 65,.v 0),(2,.n 10,.v 0)] (12,.n 0,.n 0) [0,1,-1] [] rfl c1.1 zq0) fun zq0 => zq0.elim (fun zq1 => lin [_] [] [(1,.n 65,.v 0),(2,.n 10,.v 0)] (12,.n 0,.n 0) [0,1,-1] [] rfl c2.1 zq1) fun zq1 => zq1.elim (fun zq2 => lin [] [] [(2,.n 10,.n 46)] (12,.n 0,.n 0) [0,-1] [] rfl zq2) fun zq2 => lin [_] [] [(1,.n 65,.v 0),(2,.n 10,.v 0)] (12,.n 0,.n 0) [0,1,-1] [] rfl c3.1 zq2
  ·rcases List.mem_append.mp hm with hm | hm
   ·simp at hm
   ·have := hp 10 hm
    exact lin [] [] [(1,.n 32,.n 10)] (12,.n 0,.n 0) [0,1] [] rfl this.1
 ·unfold find4
  have e1 : fromIndex X.length 0 = 0 := fromIndex_nat _ 0
  rw [e1, fromIndex_nat, Nat.min_self]
  obtain ⟨r, e⟩ := occ_at_hi (x := X) (y := Str.ofString ":") (lo := 0) (hi := X.length) (limit := 1) (k := 4) (Nat.le_refl 1) (Nat.zero_le _)
   (at_here (a := [u, v, 46, z]) (b := 32 :: cs y) hx (by show 4 + 1 ≤ _; exact lin [_,_] [] [(2,.v 0,.a (.n 6) (.v 1))] (1,.a (.n 4) (.n 1),.v 0) [1,-1] [] rfl hXl)) (fun i _ hi => at_pre (a := [u, v, 46, z]) (y' := []) rfl hx h58 (by simpa using hi))
  rw [e]
  rfl
 ·unfold rfind4
  have e1 : fromIndex X.length 0 = 0 := fromIndex_nat _ 0
  have e2 : fromIndex X.length 4 = 4 := fromIndex_nat _ 4
  have e3 : min 4 X.length = 4 := by exact lin [_] [] [(2,.v 0,.n 4)] (2,.v 0,.n 4) [1,1] [1,-1] rfl (Nat.min_eq_left (by exact lin [_,_] [] [(2,.v 0,.a (.n 6) (.v 1))] (1,.n 4,.v 0) [1,-1] [] rfl hXl))
  rw [e1, e2, e3]
  rw [last_at (k := 2) (at_here (a := [u, v]) (b := z :: ([58, 32] ++ cs y)) hx (by show 2 + 1 ≤ 4; exact lin [] [] [] (1,.a (.n 2) (.n 1),.n 4) [1] [] rfl)) ?_]
  ·rfl
  ·intro i hi hA
   have h1 := at_char (y' := []) (c0 := 46) rfl hA
   have h2 : i + 1 ≤ 4 := hA.1
   rw [hx] at h1
   match i, hi, h2, h1 with
   | 0, _, _, h1 => exact b1 (by simpa using h1)
   | 1, _, _, h1 => exact b2 (by simpa using h1)
   | 3, _, _, h1 => exact b3 (by simpa using h1)
 ·have e := sliceText_plain (x := X) (i := 3) (j := 4) ⟨by decide, by decide, by show (4 : Int) ≤ (cs X).length; exact lin [_,_] [] [(2,.v 0,.a (.n 6) (.v 1))] (7,.n 4,.c (.v 0)) [1,-1] [] rfl hlen⟩
  show Txt.lower (sliceText X (some 3) (some 4)) = h
  rw [e, ← hz]
  congr 2
  show (((cs X).drop 3).take 1).toArray = #[z]
  rw [hx]
  rfl
 ·have e := sliceText_plain (x := X) (i := 3) (j := 4) ⟨by decide, by decide, by show (4 : Int) ≤ (cs X).length; exact lin [_,_] [] [(2,.v 0,.a (.n 6) (.v 1))] (7,.n 4,.c (.v 0)) [1,-1] [] rfl hlen⟩
  show (sliceText X (some 3) (some 4)).length ≤ 200
  rw [e]
  show (((cs X).drop 3).take 1).toArray.size ≤ 200
  rw [List.size_toArray, List.length_take]
  exact lin [_] [] [(1,.v 0,.n 1)] (1,.v 0,.n 200) [1,1] [] rfl (Nat.min_le_left _ _)
 ·exact find_at (k := 4) (at_here (a := [u, v, 46, z]) (b := cs y) hx (by show 4 + 2 ≤ _; exact lin [_,_] [] [(2,.v 0,.a (.n 6) (.v 1))] (1,.a (.n 4) (.n 2),.v 0) [1,-1] [] rfl hXl)) (fun i hi => at_pre (a := [u, v, 46, z]) (c0 := 58) (y' := [32]) rfl hx h58 (by simpa using hi))
 ·have e := sliceText_from (x := X) (i := 6) ⟨by decide, by show (6 : Int) ≤ (cs X).length; exact lin [_,_] [] [(2,.v 0,.a (.n 6) (.v 1))] (7,.n 6,.c (.v 0)) [1,-1] [] rfl hlen⟩
  show sliceText X (some 6) none = y
  rw [e]
  apply cs_inj
  show (((cs X).drop 6).take (((cs X).length : Int) - 6).toNat) = cs y
  rw [List.take_of_length_le (by rw [List.length_drop]; exact lin [_,_,_] [] [(2,.a (.v 0) (.n 6),.v 1),(8,.c (.v 2),.s (.c (.v 1)) (.n 6))] (1,.v 0,.v 2) [1,1,-1] [] rfl (Nat.sub_add_cancel (by exact lin [_,_] [] [(2,.v 0,.a (.n 6) (.v 1))] (1,.n 6,.v 0) [1,-1] [] rfl hlen)) (Int.toNat_of_nonneg (by exact lin [_,_] [] [(2,.v 0,.a (.n 6) (.v 1))] (7,.n 0,.s (.c (.v 0)) (.n 6)) [1,-1] [] rfl hlen))), hx]
  rfl
section
variable {p : PySem.Str × PySem.Str} {t : ToldM} {hs : List (PySem.Str × PySem.Str)} {ts : List ToldM} {m : Nat} {A F Z T : List Nat}
theorem nm_no {nm h : PySem.Str} (x : NmOk nm h) (hh : Ltr h) {c : Nat} (hc : c ∉ nmL) : c ∉ cs nm := fun q => hc (nm_mem x hh c q)
theorem ref_mk (K : Clk (p :: hs) (t :: ts)) (R : Rep p.2 m A F Z T) (hl : hs.length ≤ 2) {odd : PySem.Str} {way : Int} {c : Nat} {rl : List Nat} (hodd : cs odd = cs p.1 ++ ([58, 32] ++ rl) ++ aft hs)
  (hat : (spoils (hstr (p :: hs)) (mkS [m]))[way.toNat]? = some odd) (hpl : Plain (mkS rl)) (hrl : rl.length ≤ 100) (hpar : parseK (mkS rl) = .error c) (hcls : (way = 0 ∧ c = 0) ∨ (0 < way ∧ way < 6 ∧ c = 1) ∨ (way = 6 ∧ c = 2)) :
  ∃ mk odd line lines h r c, RefOk (hstr (p :: hs)) mk way odd line lines h r c := by
 have hno13 : ∀ q ∈ (p.1 ++ Str.ofString ": " ++ mkS rl) :: (hs.map hline ++ endS), 13 ∉ cs q := by
  cases K with
  | cons a K2 =>
   intro q hq
   rcases List.mem_cons.mp hq with rfl | hq
   ·rw [line_cs]
    intro z
    rcases List.mem_append.mp z with z | z
    ·exact nm_no a.nm a.ltr (by decide) z
    ·rcases List.mem_append.mp z with z | z
     ·simp at z
     ·have := hpl 13 z; exact lin [] [] [(1,.n 32,.n 13)] (12,.n 0,.n 0) [0,1] [] rfl this.1
   ·exact K2.no13 q hq
 have hshort := K.short
 cases K with
 | cons a K2 =>
  refine ex3 (nm_cs a.nm a.ltr) fun u v z h9_224 => an7 h9_224 fun hn _ _ _ _ _ _ => ?_
  clear h9_224
  have hnl : (cs p.1).length = 4 := by rw [hn]; rfl
  have hX := hstr_cs p hs
  rw [R.eq] at hX
  have hP : cs (hstr (p :: hs)) = (cs p.1 ++ [58, 32] ++ [50, 50, 57, 32] ++ A) ++ 40 :: (m :: (F ++ [m, m] ++ Z ++ [m] ++ (41 :: T) ++ aft hs)) := by rw [hX]; exact lapp [_,_,_,_,_,_,_,_,_] [_,_,_,_,_,_] (.a (.a (.v 0) (.a (.m 0 (.m 1 (.n 0))) (.a (.a (.a (.m 2 (.m 2 (.m 3 (.m 1 (.n 0))))) (.v 1)) (.m 4 (.a (.a (.a (.a (.m 5 (.n 0)) (.v 2)) (.m 5 (.m 5 (.n 0)))) (.v 3)) (.m 5 (.n 0))))) (.m 6 (.v 4))))) (.m 7 (.a (.m 8 (.n 0)) (.v 5)))) (.a (.a (.a (.a (.v 0) (.m 0 (.m 1 (.n 0)))) (.m 2 (.m 2 (.m 3 (.m 1 (.n 0)))))) (.v 1)) (.m 4 (.m 5 (.a (.a (.a (.a (.a (.v 2) (.m 5 (.m 5 (.n 0)))) (.v 3)) (.m 5 (.n 0))) (.m 6 (.v 4))) (.m 7 (.a (.m 8 (.n 0)) (.v 5))))))) rfl
  have hA40 : 40 ∉ cs p.1 ++ [58, 32] ++ [50, 50, 57, 32] ++ A := by
   have h1 := R.no40
   have h2 := nm_no a.nm a.ltr (c := 40) (by decide)
   simp only [List.mem_append, List.mem_cons, List.not_mem_nil, or_false, not_or] at h1 ⊢
   exact ⟨⟨⟨h2, by decide, by decide⟩, by decide, by decide, by decide, by decide⟩, h1.2⟩
  have f1 := find_brk hP hA40
  have hclen := hstr_len hshort (by rw [List.length_cons]; exact lin [_] [] [(1,.v 0,.n 2)] (1,.a (.v 0) (.n 1),.n 3) [1,1] [] rfl hl)
  have hl1 : (cs p.1 ++ [58, 32] ++ [50, 50, 57, 32] ++ A).length + 1 < (hstr (p :: hs)).length := by
   rw [← cs_len, hP]; simp only [List.length_append, List.length_cons, List.length_nil]; exact lin [_,_,_,_,_,_] [] [] (0,.a (.a (.a (.a (.v 0) (.a (.a (.n 0) (.n 1)) (.n 1))) (.a (.a (.a (.a (.n 0) (.n 1)) (.n 1)) (.n 1)) (.n 1))) (.v 1)) (.n 1),.a (.a (.a (.a (.v 0) (.a (.a (.n 0) (.n 1)) (.n 1))) (.a (.a (.a (.a (.n 0) (.n 1)) (.n 1)) (.n 1)) (.n 1))) (.v 1)) (.a (.a (.a (.a (.a (.a (.a (.v 2) (.a (.a (.n 0) (.n 1)) (.n 1))) (.v 3)) (.a (.n 0) (.n 1))) (.a (.v 4) (.n 1))) (.v 5)) (.n 1)) (.n 1))) [1] [] rfl
  have hol : (cs odd).length ≤ 1200 := by
   have e1 := congrArg List.length hX
   have e2 := congrArg List.length hodd
   rw [cs_len] at e1
   simp only [List.length_append, List.length_cons, List.length_nil] at e1 e2
   exact lin [_,_,_,_,_,_,_,_,_] [] [(1,.v 0,.n 100),(1,.v 1,.n 1000),(2,.v 1,.a (.a (.v 2) (.a (.a (.a (.n 0) (.n 1)) (.n 1)) (.a (.a (.a (.a (.a (.a (.a (.n 0) (.n 1)) (.n 1)) (.n 1)) (.n 1)) (.v 3)) (.a (.a (.a (.a (.a (.a (.n 0) (.n 1)) (.v 4)) (.a (.a (.n 0) (.n 1)) (.n 1))) (.v 5)) (.a (.n 0) (.n 1))) (.n 1))) (.a (.v 6) (.n 1))))) (.v 7)),(2,.v 8,.a (.a (.v 2) (.a (.a (.a (.n 0) (.n 1)) (.n 1)) (.v 0))) (.v 7))] (1,.v 8,.n 1200) [1,1,1,-1,1] [] rfl hrl hclen e1 e2
  have hoj : odd = Str.join crlf ((p.1 ++ Str.ofString ": " ++ mkS rl) :: (hs.map hline ++ endS)) := by
   apply cs_inj
   rw [hodd, join_hd _ _ (app_end _), line_cs]
   rfl
  have ho6 : cs odd = (cs p.1 ++ [58, 32]) ++ (rl ++ aft hs) := by rw [hodd]; exact lapp [_,_,_,_] [_,_,_] (.a (.a (.v 0) (.a (.m 0 (.m 1 (.n 0))) (.v 1))) (.m 2 (.a (.m 3 (.n 0)) (.v 2)))) (.a (.a (.v 0) (.m 0 (.m 1 (.n 0)))) (.a (.v 1) (.m 2 (.a (.m 3 (.n 0)) (.v 2))))) rfl
  have hfr : Txt.find odd (Str.ofString "\r\n") = (((cs p.1 ++ [58, 32]).length + rl.length : Nat) : Int) := by
   have hh : cs odd = (cs p.1 ++ [58, 32] ++ rl) ++ (cs crlf ++ cs (Str.join crlf (hs.map hline ++ endS))) := by rw [hodd, crlf_cs]; unfold aft; exact lapp [_,_,_,_] [_,_,_] (.a (.a (.v 0) (.a (.m 0 (.m 1 (.n 0))) (.v 1))) (.a (.m 2 (.m 3 (.n 0))) (.v 2))) (.a (.a (.a (.v 0) (.m 0 (.m 1 (.n 0)))) (.v 1)) (.a (.m 2 (.m 3 (.n 0))) (.v 2))) rfl
   have hz := find_at (x := odd) (y := crlf) (k := (cs p.1 ++ [58, 32] ++ rl).length) (at_here (a := cs p.1 ++ [58, 32] ++ rl) hh (by rw [← cs_len, hh]; simp only [List.length_append]; exact lin [_,_,_,_,_] [] [] (1,.a (.a (.a (.v 0) (.v 1)) (.v 2)) (.v 3),.a (.a (.a (.v 0) (.v 1)) (.v 2)) (.a (.v 3) (.v 4))) [1] [] rfl)) (fun i hi => at_pre (a := cs p.1 ++ [58, 32] ++ rl) (c0 := 13) (y' := [10]) crlf_cs hh (by
    have h1 := hno13 _ (.head _)
    rw [line_cs] at h1
    rw [cs_mk] at h1
    simpa using h1) hi)
   rw [show (Str.ofString "\r\n") = crlf from rfl, hz]
   congr 1
   simp only [List.length_append]
  refine ⟨mkS [m], odd, _, hs.map hline, t.1, mkS rl, c, ⟨by exact lin [_] [] [(1,.v 0,.n 1000)] (1,.v 0,.n 2000) [1,1] [] rfl hclen, by rw [f1]; exact lin [_] [] [] (7,.n 0,.c (.v 0)) [1] [] rfl, by rw [f1]; exact lin [_,_] [] [(0,.a (.v 0) (.n 1),.v 1)] (6,.a (.c (.v 0)) (.n 1),.c (.v 1)) [1,1] [] rfl hl1, ?_, mk_ok R.mkq, hat, by rw [← cs_len]; exact lin [_] [] [(1,.v 0,.n 1200)] (1,.v 0,.n 3000) [1,1] [] rfl hol, ?_, by rw [hfr]; exact lin [_,_] [] [] (7,.n 0,.c (.a (.v 0) (.v 1))) [1] [] rfl, ?_, ⟨Str.ofString "", Str.ofString "", ?_⟩, by rw [List.length_map]; exact lin [_] [] [(1,.v 0,.n 2)] (1,.v 0,.n 10) [1,1] [] rfl hl, lineq_ok a.nm a.ltr (by rw [mk_len]; exact hrl) hpl, br_ok _, hpar, hcls, p3_ok hpl⟩⟩
  ·rw [f1]
   have e : ((cs p.1 ++ [58, 32] ++ [50, 50, 57, 32] ++ A).length : Int) + 1 = (((cs p.1 ++ [58, 32] ++ [50, 50, 57, 32] ++ A).length + 1 : Nat) : Int) := by exact lin [_] [] [] (8,.a (.c (.v 0)) (.n 1),.c (.a (.v 0) (.n 1))) [1] [1] rfl
   rw [e]
   refine item_of ?_
   rw [hP, List.getElem?_append_right (by exact lin [_] [] [] (1,.v 0,.a (.v 0) (.n 1)) [1] [] rfl), Nat.add_sub_cancel_left]
   rfl
  ·have hz := find_at (x := odd) (y := Str.ofString ": ") (k := (cs p.1).length) (at_here (a := cs p.1) (b := rl ++ aft hs) (by rw [ho6]; exact lapp [_,_,_,_] [_,_,_] (.a (.a (.v 0) (.m 0 (.m 1 (.n 0)))) (.a (.v 1) (.m 2 (.a (.m 3 (.n 0)) (.v 2))))) (.a (.v 0) (.a (.m 0 (.m 1 (.n 0))) (.a (.v 1) (.m 2 (.a (.m 3 (.n 0)) (.v 2)))))) rfl) (by rw [← cs_len, ho6]; simp only [List.length_append, show (cs (Str.ofString ": ")).length = 2 from rfl, List.length_cons, List.length_nil]; exact lin [_,_,_] [] [] (1,.a (.v 0) (.n 2),.a (.a (.v 0) (.a (.a (.n 0) (.n 1)) (.n 1))) (.a (.v 1) (.v 2))) [1] [] rfl)) (fun i hi => at_pre (a := cs p.1) (c0 := 58) (y' := [32]) (b := [58, 32] ++ (rl ++ aft hs)) rfl (by rw [ho6]; exact lapp [_,_,_,_] [_,_,_] (.a (.a (.v 0) (.m 0 (.m 1 (.n 0)))) (.a (.v 1) (.m 2 (.a (.m 3 (.n 0)) (.v 2))))) (.a (.v 0) (.a (.m 0 (.m 1 (.n 0))) (.a (.v 1) (.m 2 (.a (.m 3 (.n 0)) (.v 2)))))) rfl) (nm_no a.nm a.ltr (by decide)) hi)
   rw [hz, hnl]; rfl
  ·rw [hfr]
   have e := cut_of ho6
   have e6 : ((cs p.1 ++ [58, 32]).length : Int) = 6 := by rw [List.length_append, hnl]; rfl
   rw [e6] at e
   exact e
  ·rw [hoj]
   have hz := split_join (y := crlf) (c0 := 13) (y' := [10]) crlf_cs hno13 (.inr (by have : strKind crlf = 1 := (by decide +kernel); rw [this]; exact kind_ge _))
   rw [show (Str.ofString "\r\n") = crlf from rfl, hz]
   rfl
theorem two_no {x y : PySem.Str} {c0 c1 : Nat} {W1 W2 S : List Nat} (hy : cs y = [c0, c1]) (hx : cs x = W1 ++ W2 ++ (c0 :: S)) (h0 : c0 ∉ W1) (h1 : c1 ∉ W2) (hne : c1 ≠ c0) {hi i : Nat} (hi' : i < (W1 ++ W2).length) : ¬ At x y hi i := fun hA => by
 have h2 := ((at_iff x y hi i).mp hA).2
 have g0 := at_char hy hA
 have g1 : (cs x)[i + 1]? = some c1 := by
  rw [hy] at h2
  have h3 : (((cs x).drop i).take [c0, c1].length)[1]? = some c1 := by rw [h2]; rfl
  rw [List.getElem?_take_of_lt (by simp), List.getElem?_drop] at h3
  simpa using h3
 rw [hx] at g0 g1
 have hge : W1.length ≤ i := by
  rcases Nat.lt_or_ge i W1.length with q | q
  ·rw [List.append_assoc, List.getElem?_append_left q] at g0
   exact absurd (List.mem_of_getElem? g0) h0
  ·exact q
 rw [List.length_append] at hi'
 rcases Nat.lt_or_eq_of_le (show i + 1 ≤ W1.length + W2.length by exact lin [_,_,_] [] [(0,.v 0,.a (.v 1) (.v 2))] (1,.a (.v 0) (.n 1),.a (.v 1) (.v 2)) [1,1] [] rfl hi') with q | q
 ·rw [List.append_assoc, List.getElem?_append_right (by exact lin [_,_] [] [(1,.v 0,.v 1)] (1,.v 0,.a (.v 1) (.n 1)) [1,1] [] rfl hge), List.getElem?_append_left (by exact lin [_,_,_,_] [] [(0,.a (.v 0) (.n 1),.a (.v 1) (.v 2)),(2,.a (.v 3) (.v 1),.a (.v 0) (.n 1))] (0,.v 3,.v 2) [1,1,1] [] rfl q (Nat.sub_add_cancel (by exact lin [_,_] [] [(1,.v 0,.v 1)] (1,.v 0,.a (.v 1) (.n 1)) [1,1] [] rfl hge)))] at g1
  exact h1 (List.mem_of_getElem? g1)
 ·rw [List.getElem?_append_right (by rw [List.length_append]; exact lin [_,_,_] [] [(2,.a (.v 0) (.n 1),.a (.v 1) (.v 2))] (1,.a (.v 1) (.v 2),.a (.v 0) (.n 1)) [1,-1] [] rfl q), List.length_append, q, Nat.sub_self] at g1
  exact hne (by simpa using g1.symm)
theorem rep1 {x old new : PySem.Str} {P S : List Nat} (hx : cs x = P ++ (cs old ++ S)) (h : ∀ i, i < P.length → ¬ At x old x.length i) : cs (replace1 x old new) = P ++ (cs new ++ S) := by
 rw [replace1_at (at_here hx (by rw [← cs_len, hx]; simp only [List.length_append]; exact lin [_,_,_] [] [] (1,.a (.v 0) (.v 1),.a (.v 0) (.a (.v 1) (.v 2))) [1] [] rfl)) h, hx, List.take_left, ← cs_len, ← List.drop_drop, List.drop_left, List.drop_left]
theorem ref_ok {hs : List (PySem.Str × PySem.Str)} {ts : List ToldM} {way : Int} (K : Clk hs ts) (D : Drs ts) (hb : ∀ t ∈ ts, 1 ≤ t.2.1 ∧ t.2.1 ≤ 6) (hne : ts ≠ []) (hl : ts.length ≤ 3) (h0 : 0 ≤ way) (h7 : way < 7) :
  ∃ mk odd line lines h r c, RefOk (hstr hs) mk way odd line lines h r c := by
 have hlen := K.length
 cases K with
 | nil => exact absurd rfl hne
 | @cons p t hs ts a K2 =>
  refine ex1 (D t (.head _)) fun d hd => ?_
  refine an2 (hb t (.head _)) fun b0 b1 => ?_
  refine ex5 (rep_reply (d := d) b0 b1) fun m A F Z T R => ?_
  rw [← hd, ← a.val] at R
  have hX := hstr_cs p hs
  rw [R.eq] at hX
  have hl2 : hs.length ≤ 2 := by simp only [List.length_cons] at hlen hl; exact lin [_,_] [] [(1,.a (.v 0) (.n 1),.n 3),(2,.a (.v 1) (.n 1),.a (.v 0) (.n 1))] (1,.v 1,.n 2) [1,1,1] [] rfl hl hlen
  have nm := fun {c : Nat} (hc : c ∉ nmL) => nm_no a.nm a.ltr hc
  have hpl := R.plain
  have hm := R.mkq
  have hA : A = [] ∨ A = [111, 107, 41, 32] := R.ha
  have hm41 := R.m41
  have pm : m ∉ cs p.1 ++ [58, 32] ++ [50, 50, 57, 32] ++ A ++ [40] := by
   have h2 : m ∉ cs p.1 := nm (by rcases hm with e | e | e | e <;> rw [e] <;> decide)
   have h3 := R.am
   simp only [List.mem_append, List.mem_cons, List.not_mem_nil, or_false, not_or]
   refine ⟨⟨⟨⟨h2, ?_, ?_⟩, ?_, ?_, ?_, ?_⟩, h3⟩, ?_⟩ <;> (rcases hm with e | e | e | e <;> rw [e] <;> decide)
  have p40 : 40 ∉ cs p.1 ++ [58, 32] ++ [50, 50, 57, 32] ++ A := by
   have h1 := R.no40
   have h2 : 40 ∉ cs p.1 := nm (by decide)
   simp only [List.mem_append, List.mem_cons, List.not_mem_nil, or_false, not_or] at h1 ⊢
   exact ⟨⟨⟨h2, by decide, by decide⟩, by decide, by decide, by decide, by decide⟩, h1.2⟩
  have b41 : 41 ∉ [m] ++ F ++ [m, m] ++ Z := by
   have h1 := R.mem41
   unfold bdy at h1
   intro q
   exact h1 (List.mem_append_left _ q)
  have xe : ∀ i, i < ((cs p.1 ++ [58, 32] ++ [50, 50, 57, 32] ++ A ++ [40]) ++ ([m] ++ F ++ [m, m] ++ Z)).length → ¬ At (hstr (p :: hs)) (mkS [m] ++ Str.ofString ")") (hstr (p :: hs)).length i := fun i hi =>
   two_no (c0 := m) (c1 := 41) (W1 := cs p.1 ++ [58, 32] ++ [50, 50, 57, 32] ++ A ++ [40]) (W2 := [m] ++ F ++ [m, m] ++ Z) (S := (41 :: T) ++ aft hs) (by rw [cs_app]; rfl) (by rw [hX]; exact lapp [_,_,_,_,_,_,_,_,_] [_,_,_,_,_,_] (.a (.a (.v 0) (.a (.m 0 (.m 1 (.n 0))) (.a (.a (.a (.m 2 (.m 2 (.m 3 (.m 1 (.n 0))))) (.v 1)) (.m 4 (.a (.a (.a (.a (.m 5 (.n 0)) (.v 2)) (.m 5 (.m 5 (.n 0)))) (.v 3)) (.m 5 (.n 0))))) (.m 6 (.v 4))))) (.m 7 (.a (.m 8 (.n 0)) (.v 5)))) (.a (.a (.a (.a (.a (.a (.v 0) (.m 0 (.m 1 (.n 0)))) (.m 2 (.m 2 (.m 3 (.m 1 (.n 0)))))) (.v 1)) (.m 4 (.n 0))) (.a (.a (.a (.m 5 (.n 0)) (.v 2)) (.m 5 (.m 5 (.n 0)))) (.v 3))) (.m 5 (.a (.m 6 (.v 4)) (.m 7 (.a (.m 8 (.n 0)) (.v 5)))))) rfl) pm b41 hm41.1 hi
  have xd : cs (hstr (p :: hs)) = ((cs p.1 ++ [58, 32] ++ [50, 50, 57, 32] ++ A ++ [40]) ++ ([m] ++ F ++ [m, m] ++ Z)) ++ (cs (mkS [m] ++ Str.ofString ")") ++ (T ++ aft hs)) := by rw [hX, cs_app]; exact lapp [_,_,_,_,_,_,_,_,_] [_,_,_,_,_,_] (.a (.a (.v 0) (.a (.m 0 (.m 1 (.n 0))) (.a (.a (.a (.m 2 (.m 2 (.m 3 (.m 1 (.n 0))))) (.v 1)) (.m 4 (.a (.a (.a (.a (.m 5 (.n 0)) (.v 2)) (.m 5 (.m 5 (.n 0)))) (.v 3)) (.m 5 (.n 0))))) (.m 6 (.v 4))))) (.m 7 (.a (.m 8 (.n 0)) (.v 5)))) (.a (.a (.a (.a (.a (.a (.v 0) (.m 0 (.m 1 (.n 0)))) (.m 2 (.m 2 (.m 3 (.m 1 (.n 0)))))) (.v 1)) (.m 4 (.n 0))) (.a (.a (.a (.m 5 (.n 0)) (.v 2)) (.m 5 (.m 5 (.n 0)))) (.v 3))) (.a (.a (.m 5 (.n 0)) (.m 6 (.n 0))) (.a (.v 4) (.m 7 (.a (.m 8 (.n 0)) (.v 5)))))) rfl
  have hw : way = 0 ∨ way = 1 ∨ way = 2 ∨ way = 3 ∨ way = 4 ∨ way = 5 ∨ way = 6 := by exact triI (fun q0 => False.elim (lin [] [_] [(7,.n 0,.v 0),(6,.v 0,.n 0)] (12,.n 0,.n 0) [0,1,1] [] rfl h0 q0)) fun q0 => triI (fun q1 => False.elim (lin [] [_] [(6,.n 0,.v 0),(6,.v 0,.n 1)] (12,.n 0,.n 0) [0,1,1] [] rfl q0 q1)) fun q1 => triI (fun q2 => False.elim (lin [] [_] [(6,.n 1,.v 0),(6,.v 0,.n 2)] (12,.n 0,.n 0) [0,1,1] [] rfl q1 q2)) fun q2 => triI (fun q3 => False.elim (lin [] [_] [(6,.n 2,.v 0),(6,.v 0,.n 3)] (12,.n 0,.n 0) [0,1,1] [] rfl q2 q3)) fun q3 => triI (fun q4 => False.elim (lin [] [_] [(6,.n 3,.v 0),(6,.v 0,.n 4)] (12,.n 0,.n 0) [0,1,1] [] rfl q3 q4)) fun q4 => triI (fun q5 => lin [] [_] [(6,.v 0,.n 7),(6,.n 4,.v 0),(6,.v 0,.n 5)] (8,.v 0,.n 6) [1,1,0,0] [0,0,1,1] rfl h7 q4 q5) fun q5 => lin [] [_] [(6,.v 0,.n 7),(6,.n 5,.v 0)] (8,.v 0,.n 6) [1,1,0] [1,0,1] rfl h7 q5
  rcases hw with rfl | rfl | rfl | rfl | rfl | rfl | rfl
  ·refine ref_mk (odd := replace1 (hstr (p :: hs)) (Str.ofString "229") (Str.ofString "227")) (.cons a K2) R hl2 (rl := spl 0 m A F Z T) ?_ rfl (hpl 0).1 (by have := (hpl 0).2; exact lin [_] [] [(1,.v 0,.n 30)] (1,.v 0,.n 100) [1,1] [] rfl this) (par0 R) (.inl ⟨rfl, rfl⟩)
   rw [rep1 (P := cs p.1 ++ [58, 32]) (S := [32] ++ A ++ (40 :: bdy m F Z) ++ (41 :: T) ++ aft hs) (by rw [hX]; unfold bdy; exact lapp [_,_,_,_,_,_,_,_,_] [_,_,_,_,_,_] (.a (.a (.v 0) (.a (.m 0 (.m 1 (.n 0))) (.a (.a (.a (.m 2 (.m 2 (.m 3 (.m 1 (.n 0))))) (.v 1)) (.m 4 (.a (.a (.a (.a (.m 5 (.n 0)) (.v 2)) (.m 5 (.m 5 (.n 0)))) (.v 3)) (.m 5 (.n 0))))) (.m 6 (.v 4))))) (.m 7 (.a (.m 8 (.n 0)) (.v 5)))) (.a (.a (.v 0) (.m 0 (.m 1 (.n 0)))) (.a (.m 2 (.m 2 (.m 3 (.n 0)))) (.a (.a (.a (.a (.m 1 (.n 0)) (.v 1)) (.m 4 (.a (.a (.a (.a (.m 5 (.n 0)) (.v 2)) (.m 5 (.m 5 (.n 0)))) (.v 3)) (.m 5 (.n 0))))) (.m 6 (.v 4))) (.m 7 (.a (.m 8 (.n 0)) (.v 5)))))) rfl) (fun i hi => at_pre (a := cs p.1 ++ [58, 32]) (c0 := 50) (y' := [50, 57]) (b := [50, 50, 57, 32] ++ A ++ (40 :: bdy m F Z) ++ (41 :: T) ++ aft hs) rfl (by rw [hX]; unfold bdy; exact lapp [_,_,_,_,_,_,_,_,_] [_,_,_,_,_,_] (.a (.a (.v 0) (.a (.m 0 (.m 1 (.n 0))) (.a (.a (.a (.m 2 (.m 2 (.m 3 (.m 1 (.n 0))))) (.v 1)) (.m 4 (.a (.a (.a (.a (.m 5 (.n 0)) (.v 2)) (.m 5 (.m 5 (.n 0)))) (.v 3)) (.m 5 (.n 0))))) (.m 6 (.v 4))))) (.m 7 (.a (.m 8 (.n 0)) (.v 5)))) (.a (.a (.v 0) (.m 0 (.m 1 (.n 0)))) (.a (.a (.a (.a (.m 2 (.m 2 (.m 3 (.m 1 (.n 0))))) (.v 1)) (.m 4 (.a (.a (.a (.a (.m 5 (.n 0)) (.v 2)) (.m 5 (.m 5 (.n 0)))) (.v 3)) (.m 5 (.n 0))))) (.m 6 (.v 4))) (.m 7 (.a (.m 8 (.n 0)) (.v 5))))) rfl) (by
    have h2 : 50 ∉ cs p.1 := nm (by decide)
    simp [h2]) hi)]
   unfold spl
   exact lapp [_,_,_,_,_,_,_,_,_] [_,_,_,_,_,_] (.a (.a (.v 0) (.m 0 (.m 1 (.n 0)))) (.a (.m 2 (.m 2 (.m 3 (.n 0)))) (.a (.a (.a (.a (.m 1 (.n 0)) (.v 1)) (.m 4 (.m 5 (.a (.a (.a (.a (.n 0) (.v 2)) (.m 5 (.m 5 (.n 0)))) (.v 3)) (.m 5 (.n 0)))))) (.m 6 (.v 4))) (.m 7 (.a (.m 8 (.n 0)) (.v 5)))))) (.a (.a (.v 0) (.a (.m 0 (.m 1 (.n 0))) (.m 2 (.a (.a (.a (.m 2 (.m 3 (.m 1 (.n 0)))) (.v 1)) (.m 4 (.m 5 (.a (.a (.a (.a (.n 0) (.v 2)) (.m 5 (.m 5 (.n 0)))) (.v 3)) (.m 5 (.n 0)))))) (.m 6 (.v 4)))))) (.m 7 (.a (.m 8 (.n 0)) (.v 5)))) rfl
  ·refine ref_mk (odd := replace1 (hstr (p :: hs)) (Str.ofString "(") (Str.ofString "")) (.cons a K2) R hl2 (rl := spl 1 m A F Z T) ?_ rfl (hpl 1).1 (by have := (hpl 1).2; exact lin [_] [] [(1,.v 0,.n 30)] (1,.v 0,.n 100) [1,1] [] rfl this) (par1 R) (.inr (.inl ⟨by decide, by decide, rfl⟩))
   rw [rep1 (P := cs p.1 ++ [58, 32] ++ [50, 50, 57, 32] ++ A) (S := bdy m F Z ++ (41 :: T) ++ aft hs) (by rw [hX]; unfold bdy; exact lapp [_,_,_,_,_,_,_,_,_] [_,_,_,_,_,_] (.a (.a (.v 0) (.a (.m 0 (.m 1 (.n 0))) (.a (.a (.a (.m 2 (.m 2 (.m 3 (.m 1 (.n 0))))) (.v 1)) (.m 4 (.a (.a (.a (.a (.m 5 (.n 0)) (.v 2)) (.m 5 (.m 5 (.n 0)))) (.v 3)) (.m 5 (.n 0))))) (.m 6 (.v 4))))) (.m 7 (.a (.m 8 (.n 0)) (.v 5)))) (.a (.a (.a (.a (.v 0) (.m 0 (.m 1 (.n 0)))) (.m 2 (.m 2 (.m 3 (.m 1 (.n 0)))))) (.v 1)) (.a (.m 4 (.n 0)) (.a (.a (.a (.a (.a (.a (.m 5 (.n 0)) (.v 2)) (.m 5 (.m 5 (.n 0)))) (.v 3)) (.m 5 (.n 0))) (.m 6 (.v 4))) (.m 7 (.a (.m 8 (.n 0)) (.v 5)))))) rfl) (fun i hi => at_pre (a := cs p.1 ++ [58, 32] ++ [50, 50, 57, 32] ++ A) (c0 := 40) (y' := []) (b := 40 :: bdy m F Z ++ (41 :: T) ++ aft hs) rfl (by rw [hX]; unfold bdy; exact lapp [_,_,_,_,_,_,_,_,_] [_,_,_,_,_,_] (.a (.a (.v 0) (.a (.m 0 (.m 1 (.n 0))) (.a (.a (.a (.m 2 (.m 2 (.m 3 (.m 1 (.n 0))))) (.v 1)) (.m 4 (.a (.a (.a (.a (.m 5 (.n 0)) (.v 2)) (.m 5 (.m 5 (.n 0)))) (.v 3)) (.m 5 (.n 0))))) (.m 6 (.v 4))))) (.m 7 (.a (.m 8 (.n 0)) (.v 5)))) (.a (.a (.a (.a (.v 0) (.m 0 (.m 1 (.n 0)))) (.m 2 (.m 2 (.m 3 (.m 1 (.n 0)))))) (.v 1)) (.a (.a (.m 4 (.a (.a (.a (.a (.m 5 (.n 0)) (.v 2)) (.m 5 (.m 5 (.n 0)))) (.v 3)) (.m 5 (.n 0)))) (.m 6 (.v 4))) (.m 7 (.a (.m 8 (.n 0)) (.v 5))))) rfl) p40 hi)]
   unfold spl
   exact lapp [_,_,_,_,_,_,_,_] [_,_,_,_,_,_] (.a (.a (.a (.a (.v 0) (.m 0 (.m 1 (.n 0)))) (.m 2 (.m 2 (.m 3 (.m 1 (.n 0)))))) (.v 1)) (.a (.n 0) (.a (.a (.m 4 (.a (.a (.a (.a (.n 0) (.v 2)) (.m 4 (.m 4 (.n 0)))) (.v 3)) (.m 4 (.n 0)))) (.m 5 (.v 4))) (.m 6 (.a (.m 7 (.n 0)) (.v 5)))))) (.a (.a (.v 0) (.a (.m 0 (.m 1 (.n 0))) (.m 2 (.a (.a (.a (.m 2 (.m 3 (.m 1 (.n 0)))) (.v 1)) (.m 4 (.a (.a (.a (.a (.n 0) (.v 2)) (.m 4 (.m 4 (.n 0)))) (.v 3)) (.m 4 (.n 0))))) (.m 5 (.v 4)))))) (.m 6 (.a (.m 7 (.n 0)) (.v 5)))) rfl
  ·refine ref_mk (odd := replace1 (hstr (p :: hs)) (mkS [m] ++ Str.ofString ")") (mkS [m] ++ Str.ofString "q")) (.cons a K2) R hl2 (rl := spl 2 m A F Z T) ?_ rfl (hpl 2).1 (by have := (hpl 2).2; exact lin [_] [] [(1,.v 0,.n 30)] (1,.v 0,.n 100) [1,1] [] rfl this) (par2 R) (.inr (.inl ⟨by decide, by decide, rfl⟩))
   rw [rep1 xd xe, cs_app]
   unfold spl bdy
   exact lapp [_,_,_,_,_,_,_,_,_] [_,_,_,_,_,_] (.a (.a (.a (.a (.a (.a (.v 0) (.m 0 (.m 1 (.n 0)))) (.m 2 (.m 2 (.m 3 (.m 1 (.n 0)))))) (.v 1)) (.m 4 (.n 0))) (.a (.a (.a (.m 5 (.n 0)) (.v 2)) (.m 5 (.m 5 (.n 0)))) (.v 3))) (.a (.a (.m 5 (.n 0)) (.m 6 (.n 0))) (.a (.v 4) (.m 7 (.a (.m 8 (.n 0)) (.v 5)))))) (.a (.a (.v 0) (.a (.m 0 (.m 1 (.n 0))) (.m 2 (.a (.a (.a (.m 2 (.m 3 (.m 1 (.n 0)))) (.v 1)) (.m 4 (.a (.a (.a (.a (.m 5 (.n 0)) (.v 2)) (.m 5 (.m 5 (.n 0)))) (.v 3)) (.m 5 (.n 0))))) (.m 6 (.v 4)))))) (.m 7 (.a (.m 8 (.n 0)) (.v 5)))) rfl
  ·refine ref_mk (odd := replace1 (hstr (p :: hs)) (mkS [m] ++ Str.ofString ")") (mkS [m] ++ Str.ofString "q)")) (.cons a K2) R hl2 (rl := spl 3 m A F Z T) ?_ rfl (hpl 3).1 (by have := (hpl 3).2; exact lin [_] [] [(1,.v 0,.n 30)] (1,.v 0,.n 100) [1,1] [] rfl this) (par3 R) (.inr (.inl ⟨by decide, by decide, rfl⟩))
   rw [rep1 xd xe, cs_app]
   unfold spl bdy
   exact lapp [_,_,_,_,_,_,_,_,_,_] [_,_,_,_,_,_] (.a (.a (.a (.a (.a (.a (.v 0) (.m 0 (.m 1 (.n 0)))) (.m 2 (.m 2 (.m 3 (.m 1 (.n 0)))))) (.v 1)) (.m 4 (.n 0))) (.a (.a (.a (.m 5 (.n 0)) (.v 2)) (.m 5 (.m 5 (.n 0)))) (.v 3))) (.a (.a (.m 5 (.n 0)) (.m 6 (.m 7 (.n 0)))) (.a (.v 4) (.m 8 (.a (.m 9 (.n 0)) (.v 5)))))) (.a (.a (.v 0) (.a (.m 0 (.m 1 (.n 0))) (.m 2 (.a (.a (.a (.m 2 (.m 3 (.m 1 (.n 0)))) (.v 1)) (.m 4 (.a (.a (.a (.a (.m 5 (.n 0)) (.v 2)) (.m 5 (.m 5 (.n 0)))) (.v 3)) (.m 5 (.n 0))))) (.m 6 (.m 7 (.v 4))))))) (.m 8 (.a (.m 9 (.n 0)) (.v 5)))) rfl
  ·refine ref_mk (odd := replace1 (hstr (p :: hs)) (Str.ofString "(") (Str.ofString "(" ++ mkS [m])) (.cons a K2) R hl2 (rl := spl 4 m A F Z T) ?_ rfl (hpl 4).1 (by have := (hpl 4).2; exact lin [_] [] [(1,.v 0,.n 30)] (1,.v 0,.n 100) [1,1] [] rfl this) (par4 R) (.inr (.inl ⟨by decide, by decide, rfl⟩))
   rw [rep1 (P := cs p.1 ++ [58, 32] ++ [50, 50, 57, 32] ++ A) (S := bdy m F Z ++ (41 :: T) ++ aft hs) (by rw [hX]; unfold bdy; exact lapp [_,_,_,_,_,_,_,_,_] [_,_,_,_,_,_] (.a (.a (.v 0) (.a (.m 0 (.m 1 (.n 0))) (.a (.a (.a (.m 2 (.m 2 (.m 3 (.m 1 (.n 0))))) (.v 1)) (.m 4 (.a (.a (.a (.a (.m 5 (.n 0)) (.v 2)) (.m 5 (.m 5 (.n 0)))) (.v 3)) (.m 5 (.n 0))))) (.m 6 (.v 4))))) (.m 7 (.a (.m 8 (.n 0)) (.v 5)))) (.a (.a (.a (.a (.v 0) (.m 0 (.m 1 (.n 0)))) (.m 2 (.m 2 (.m 3 (.m 1 (.n 0)))))) (.v 1)) (.a (.m 4 (.n 0)) (.a (.a (.a (.a (.a (.a (.m 5 (.n 0)) (.v 2)) (.m 5 (.m 5 (.n 0)))) (.v 3)) (.m 5 (.n 0))) (.m 6 (.v 4))) (.m 7 (.a (.m 8 (.n 0)) (.v 5)))))) rfl) (fun i hi => at_pre (a := cs p.1 ++ [58, 32] ++ [50, 50, 57, 32] ++ A) (c0 := 40) (y' := []) (b := 40 :: bdy m F Z ++ (41 :: T) ++ aft hs) rfl (by rw [hX]; unfold bdy; exact lapp [_,_,_,_,_,_,_,_,_] [_,_,_,_,_,_] (.a (.a (.v 0) (.a (.m 0 (.m 1 (.n 0))) (.a (.a (.a (.m 2 (.m 2 (.m 3 (.m 1 (.n 0))))) (.v 1)) (.m 4 (.a (.a (.a (.a (.m 5 (.n 0)) (.v 2)) (.m 5 (.m 5 (.n 0)))) (.v 3)) (.m 5 (.n 0))))) (.m 6 (.v 4))))) (.m 7 (.a (.m 8 (.n 0)) (.v 5)))) (.a (.a (.a (.a (.v 0) (.m 0 (.m 1 (.n 0)))) (.m 2 (.m 2 (.m 3 (.m 1 (.n 0)))))) (.v 1)) (.a (.a (.m 4 (.a (.a (.a (.a (.m 5 (.n 0)) (.v 2)) (.m 5 (.m 5 (.n 0)))) (.v 3)) (.m 5 (.n 0)))) (.m 6 (.v 4))) (.m 7 (.a (.m 8 (.n 0)) (.v 5))))) rfl) p40 hi), cs_app]
   unfold spl
   exact lapp [_,_,_,_,_,_,_,_,_] [_,_,_,_,_,_] (.a (.a (.a (.a (.v 0) (.m 0 (.m 1 (.n 0)))) (.m 2 (.m 2 (.m 3 (.m 1 (.n 0)))))) (.v 1)) (.a (.a (.m 4 (.n 0)) (.m 5 (.n 0))) (.a (.a (.m 5 (.a (.a (.a (.a (.n 0) (.v 2)) (.m 5 (.m 5 (.n 0)))) (.v 3)) (.m 5 (.n 0)))) (.m 6 (.v 4))) (.m 7 (.a (.m 8 (.n 0)) (.v 5)))))) (.a (.a (.v 0) (.a (.m 0 (.m 1 (.n 0))) (.m 2 (.a (.a (.a (.m 2 (.m 3 (.m 1 (.n 0)))) (.v 1)) (.m 4 (.m 5 (.m 5 (.a (.a (.a (.a (.n 0) (.v 2)) (.m 5 (.m 5 (.n 0)))) (.v 3)) (.m 5 (.n 0))))))) (.m 6 (.v 4)))))) (.m 7 (.a (.m 8 (.n 0)) (.v 5)))) rfl
  ·refine ref_mk (odd := replace1 (hstr (p :: hs)) (mkS [m] ++ mkS [m]) (mkS [m])) (.cons a K2) R hl2 (rl := spl 5 m A F Z T) ?_ rfl (hpl 5).1 (by have := (hpl 5).2; exact lin [_] [] [(1,.v 0,.n 30)] (1,.v 0,.n 100) [1,1] [] rfl this) (par5 R) (.inr (.inl ⟨by decide, by decide, rfl⟩))
   have e : cs (mkS [m] ++ mkS [m]) = [m, m] := by rw [cs_app]; rfl
   rcases R.hf with hF | hF
   ·rw [rep1 (P := cs p.1 ++ [58, 32] ++ [50, 50, 57, 32] ++ A ++ [40]) (S := [m] ++ Z ++ [m] ++ (41 :: T) ++ aft hs) (by rw [hX, e, hF]; exact lapp [_,_,_,_,_,_,_,_,_] [_,_,_,_,_] (.a (.a (.v 0) (.a (.m 0 (.m 1 (.n 0))) (.a (.a (.a (.m 2 (.m 2 (.m 3 (.m 1 (.n 0))))) (.v 1)) (.m 4 (.a (.a (.a (.a (.m 5 (.n 0)) (.n 0)) (.m 5 (.m 5 (.n 0)))) (.v 2)) (.m 5 (.n 0))))) (.m 6 (.v 3))))) (.m 7 (.a (.m 8 (.n 0)) (.v 4)))) (.a (.a (.a (.a (.a (.v 0) (.m 0 (.m 1 (.n 0)))) (.m 2 (.m 2 (.m 3 (.m 1 (.n 0)))))) (.v 1)) (.m 4 (.n 0))) (.a (.m 5 (.m 5 (.n 0))) (.a (.a (.a (.a (.m 5 (.n 0)) (.v 2)) (.m 5 (.n 0))) (.m 6 (.v 3))) (.m 7 (.a (.m 8 (.n 0)) (.v 4)))))) rfl) (fun i hi => at_pre (a := cs p.1 ++ [58, 32] ++ [50, 50, 57, 32] ++ A ++ [40]) (c0 := m) (y' := [m]) (b := m :: m :: m :: (Z ++ [m] ++ (41 :: T) ++ aft hs)) e (by rw [hX, hF]; exact lapp [_,_,_,_,_,_,_,_,_] [_,_,_,_,_] (.a (.a (.v 0) (.a (.m 0 (.m 1 (.n 0))) (.a (.a (.a (.m 2 (.m 2 (.m 3 (.m 1 (.n 0))))) (.v 1)) (.m 4 (.a (.a (.a (.a (.m 5 (.n 0)) (.n 0)) (.m 5 (.m 5 (.n 0)))) (.v 2)) (.m 5 (.n 0))))) (.m 6 (.v 3))))) (.m 7 (.a (.m 8 (.n 0)) (.v 4)))) (.a (.a (.a (.a (.a (.v 0) (.m 0 (.m 1 (.n 0)))) (.m 2 (.m 2 (.m 3 (.m 1 (.n 0)))))) (.v 1)) (.m 4 (.n 0))) (.m 5 (.m 5 (.m 5 (.a (.a (.a (.v 2) (.m 5 (.n 0))) (.m 6 (.v 3))) (.m 7 (.a (.m 8 (.n 0)) (.v 4)))))))) rfl) pm hi)]
    unfold spl
    rw [hF]
    exact lapp [_,_,_,_,_,_,_,_,_] [_,_,_,_,_] (.a (.a (.a (.a (.a (.v 0) (.m 0 (.m 1 (.n 0)))) (.m 2 (.m 2 (.m 3 (.m 1 (.n 0)))))) (.v 1)) (.m 4 (.n 0))) (.a (.m 5 (.n 0)) (.a (.a (.a (.a (.m 5 (.n 0)) (.v 2)) (.m 5 (.n 0))) (.m 6 (.v 3))) (.m 7 (.a (.m 8 (.n 0)) (.v 4)))))) (.a (.a (.v 0) (.a (.m 0 (.m 1 (.n 0))) (.m 2 (.a (.a (.a (.m 2 (.m 3 (.m 1 (.n 0)))) (.v 1)) (.m 4 (.a (.a (.a (.a (.m 5 (.n 0)) (.n 0)) (.m 5 (.n 0))) (.v 2)) (.m 5 (.n 0))))) (.m 6 (.v 3)))))) (.m 7 (.a (.m 8 (.n 0)) (.v 4)))) rfl
   ·rw [rep1 (P := (cs p.1 ++ [58, 32] ++ [50, 50, 57, 32] ++ A ++ [40]) ++ [m, 49]) (S := Z ++ [m] ++ (41 :: T) ++ aft hs) (by rw [hX, e, hF]; exact lapp [_,_,_,_,_,_,_,_,_,_] [_,_,_,_,_] (.a (.a (.v 0) (.a (.m 0 (.m 1 (.n 0))) (.a (.a (.a (.m 2 (.m 2 (.m 3 (.m 1 (.n 0))))) (.v 1)) (.m 4 (.a (.a (.a (.a (.m 5 (.n 0)) (.m 6 (.n 0))) (.m 5 (.m 5 (.n 0)))) (.v 2)) (.m 5 (.n 0))))) (.m 7 (.v 3))))) (.m 8 (.a (.m 9 (.n 0)) (.v 4)))) (.a (.a (.a (.a (.a (.a (.v 0) (.m 0 (.m 1 (.n 0)))) (.m 2 (.m 2 (.m 3 (.m 1 (.n 0)))))) (.v 1)) (.m 4 (.n 0))) (.m 5 (.m 6 (.n 0)))) (.a (.m 5 (.m 5 (.n 0))) (.a (.a (.a (.v 2) (.m 5 (.n 0))) (.m 7 (.v 3))) (.m 8 (.a (.m 9 (.n 0)) (.v 4)))))) rfl) (fun i hi => ?_)]
    ·unfold spl
     rw [hF]
     exact lapp [_,_,_,_,_,_,_,_,_,_] [_,_,_,_,_] (.a (.a (.a (.a (.a (.a (.v 0) (.m 0 (.m 1 (.n 0)))) (.m 2 (.m 2 (.m 3 (.m 1 (.n 0)))))) (.v 1)) (.m 4 (.n 0))) (.m 5 (.m 6 (.n 0)))) (.a (.m 5 (.n 0)) (.a (.a (.a (.v 2) (.m 5 (.n 0))) (.m 7 (.v 3))) (.m 8 (.a (.m 9 (.n 0)) (.v 4)))))) (.a (.a (.v 0) (.a (.m 0 (.m 1 (.n 0))) (.m 2 (.a (.a (.a (.m 2 (.m 3 (.m 1 (.n 0)))) (.v 1)) (.m 4 (.a (.a (.a (.a (.m 5 (.n 0)) (.m 6 (.n 0))) (.m 5 (.n 0))) (.v 2)) (.m 5 (.n 0))))) (.m 7 (.v 3)))))) (.m 8 (.a (.m 9 (.n 0)) (.v 4)))) rfl
    ·intro hA
     have h2 := ((at_iff _ _ _ i).mp hA).2
     have g0 := at_char e hA
     have g1 : (cs (hstr (p :: hs)))[i + 1]? = some m := by
      rw [e] at h2
      have h3 : (((cs (hstr (p :: hs))).drop i).take [m, m].length)[1]? = some m := by rw [h2]; rfl
      rw [List.getElem?_take_of_lt (by simp), List.getElem?_drop] at h3
      simpa using h3
     have hx2 : cs (hstr (p :: hs)) = (cs p.1 ++ [58, 32] ++ [50, 50, 57, 32] ++ A ++ [40]) ++ (m :: 49 :: m :: m :: (Z ++ [m] ++ (41 :: T) ++ aft hs)) := by rw [hX, hF]; exact lapp [_,_,_,_,_,_,_,_,_,_] [_,_,_,_,_] (.a (.a (.v 0) (.a (.m 0 (.m 1 (.n 0))) (.a (.a (.a (.m 2 (.m 2 (.m 3 (.m 1 (.n 0))))) (.v 1)) (.m 4 (.a (.a (.a (.a (.m 5 (.n 0)) (.m 6 (.n 0))) (.m 5 (.m 5 (.n 0)))) (.v 2)) (.m 5 (.n 0))))) (.m 7 (.v 3))))) (.m 8 (.a (.m 9 (.n 0)) (.v 4)))) (.a (.a (.a (.a (.a (.v 0) (.m 0 (.m 1 (.n 0)))) (.m 2 (.m 2 (.m 3 (.m 1 (.n 0)))))) (.v 1)) (.m 4 (.n 0))) (.m 5 (.m 6 (.m 5 (.m 5 (.a (.a (.a (.v 2) (.m 5 (.n 0))) (.m 7 (.v 3))) (.m 8 (.a (.m 9 (.n 0)) (.v 4))))))))) rfl
     rw [hx2] at g0 g1
     generalize cs p.1 ++ [58, 32] ++ [50, 50, 57, 32] ++ A ++ [40] = W at *
     have hge : W.length ≤ i := by
      rcases Nat.lt_or_ge i W.length with q | q
      ·rw [List.getElem?_append_left q] at g0
       exact absurd (List.mem_of_getElem? g0) pm
      ·exact q
     rw [List.length_append] at hi
     have hi : i < W.length + 2 := hi
     rw [List.getElem?_append_right hge] at g0
     rw [List.getElem?_append_right (by exact lin [_,_] [] [(1,.v 0,.v 1)] (1,.v 0,.a (.v 1) (.n 1)) [1,1] [] rfl hge)] at g1
     have hc : i = W.length ∨ i = W.length + 1 := by exact triN (fun q0 => lin [_,_] [] [(1,.v 0,.v 1),(0,.v 1,.a (.v 0) (.n 2)),(0,.v 1,.v 0)] (2,.v 1,.a (.v 0) (.n 1)) [1,0,1,0] [0,1,0,1] rfl hge hi q0) fun q0 => lin [_,_] [] [(0,.v 0,.a (.v 1) (.n 2)),(0,.v 1,.v 0)] (2,.v 0,.a (.v 1) (.n 1)) [1,1,0] [1,0,1] rfl hi q0
     rcases hc with rfl | rfl
     ·rw [Nat.add_sub_cancel_left] at g1
      have g1 : 49 = m := by simpa using g1
      exact hm.elim (fun zq0 => lin [_] [] [(2,.n 49,.v 0),(2,.v 0,.n 124)] (12,.n 0,.n 0) [0,-1,-1] [] rfl g1 zq0) fun zq0 => zq0.elim (fun zq1 => lin [_] [] [(2,.n 49,.v 0),(2,.v 0,.n 33)] (12,.n 0,.n 0) [0,1,1] [] rfl g1 zq1) fun zq1 => zq1.elim (fun zq2 => lin [_] [] [(2,.n 49,.v 0),(2,.v 0,.n 59)] (12,.n 0,.n 0) [0,-1,-1] [] rfl g1 zq2) fun zq2 => lin [_] [] [(2,.n 49,.v 0),(2,.v 0,.n 120)] (12,.n 0,.n 0) [0,-1,-1] [] rfl g1 zq2
     ·rw [Nat.add_sub_cancel_left] at g0
      have g0 : 49 = m := by simpa using g0
      exact hm.elim (fun zq0 => lin [_] [] [(2,.n 49,.v 0),(2,.v 0,.n 124)] (12,.n 0,.n 0) [0,-1,-1] [] rfl g0 zq0) fun zq0 => zq0.elim (fun zq1 => lin [_] [] [(2,.n 49,.v 0),(2,.v 0,.n 33)] (12,.n 0,.n 0) [0,1,1] [] rfl g0 zq1) fun zq1 => zq1.elim (fun zq2 => lin [_] [] [(2,.n 49,.v 0),(2,.v 0,.n 59)] (12,.n 0,.n 0) [0,-1,-1] [] rfl g0 zq2) fun zq2 => lin [_] [] [(2,.n 49,.v 0),(2,.v 0,.n 120)] (12,.n 0,.n 0) [0,-1,-1] [] rfl g0 zq2
  ·refine ref_mk (odd := replace1 (hstr (p :: hs)) (mkS [m] ++ Str.ofString ")") (Str.ofString "q" ++ (mkS [m] ++ Str.ofString ")"))) (.cons a K2) R hl2 (rl := spl 6 m A F Z T) ?_ rfl (hpl 6).1 (by have := (hpl 6).2; exact lin [_] [] [(1,.v 0,.n 30)] (1,.v 0,.n 100) [1,1] [] rfl this) (par6 R) (.inr (.inr ⟨rfl, rfl⟩))
   rw [rep1 xd xe, cs_app, cs_app]
   unfold spl
   exact lapp [_,_,_,_,_,_,_,_,_,_] [_,_,_,_,_,_] (.a (.a (.a (.a (.a (.a (.v 0) (.m 0 (.m 1 (.n 0)))) (.m 2 (.m 2 (.m 3 (.m 1 (.n 0)))))) (.v 1)) (.m 4 (.n 0))) (.a (.a (.a (.m 5 (.n 0)) (.v 2)) (.m 5 (.m 5 (.n 0)))) (.v 3))) (.a (.a (.m 6 (.n 0)) (.a (.m 5 (.n 0)) (.m 7 (.n 0)))) (.a (.v 4) (.m 8 (.a (.m 9 (.n 0)) (.v 5)))))) (.a (.a (.v 0) (.a (.m 0 (.m 1 (.n 0))) (.m 2 (.a (.a (.a (.m 2 (.m 3 (.m 1 (.n 0)))) (.v 1)) (.m 4 (.a (.a (.a (.a (.a (.m 5 (.n 0)) (.v 2)) (.m 5 (.m 5 (.n 0)))) (.v 3)) (.m 6 (.n 0))) (.m 5 (.n 0))))) (.m 7 (.v 4)))))) (.m 8 (.a (.m 9 (.n 0)) (.v 5)))) rfl
end
end Mine
end
section
open PySem PySem.W PySem.Spec PySem.Calls PyProof.Rows
namespace Mine
noncomputable def wayB (ns : List Int) (k i : Nat) : Bool := rH ns i == rH ns k || rHear ns k == some i
noncomputable def wayL (ns : List Int) (k i : Nat) : List Int := ((List.range i).filter (wayB ns k)).map fun j : Nat => (j : Int)
theorem wayL_succ (ns : List Int) (k i : Nat) : wayL ns k (i + 1) = if wayB ns k i = true then wayL ns k i ++ [(i : Int)] else wayL ns k i := by
 unfold wayL
 rw [List.range_succ, List.filter_append, List.map_append]
 by_cases h : wayB ns k i = true
 ·rw [if_pos h]; simp [h]
 ·rw [if_neg h]; simp [h]
theorem way_yes {ns : List Int} {k i : Nat} {ys : List Value} {t : Tok} {z : Int} (hz : z = (i : Int)) (hb : wayB ns k i = true) (h : IntsAre ys (wayL ns k i)) : IntsAre (ys ++ [.int z t]) (wayL ns k (i + 1)) := by
 rw [wayL_succ, if_pos hb, hz]
 exact h.append (.cons _ _ .nil)
theorem way_no {ns : List Int} {k i : Nat} {ys : List Value} (hb : ¬ wayB ns k i = true) (h : IntsAre ys (wayL ns k i)) : IntsAre ys (wayL ns k (i + 1)) := by
 rw [wayL_succ, if_neg hb]; exact h
theorem item_pre {x y : PySem.Str} {k : Nat} (h : k < x.length) : Txt.item (x ++ y) (k : Int) = Txt.item x (k : Int) := by
 refine cs_inj ?_
 rw [item_cs _ (by rw [Str.length_append]; exact lin [_,_,_] [] [(0,.v 0,.v 1)] (0,.v 0,.a (.v 1) (.v 2)) [1,1] [] rfl h), item_cs _ h, cs_app, List.getElem?_append_left (by rw [cs_len]; exact h)]
theorem item_hosts {ns : List Int} : ∀ {n i : Nat}, i < n → Txt.item (rHosts ns n) (i : Int) = rH ns i
 | 0, _, h => absurd h (Nat.not_lt_zero _)
 | n + 1, i, h => by
  show Txt.item (rHosts ns n ++ rH ns n) _ = _
  rcases Nat.lt_or_eq_of_le (Nat.le_of_lt_succ h) with h | rfl
  ·rw [item_pre (by rw [rHosts_len]; exact h)]; exact item_hosts h
  ·exact item_app (rHosts_len _) (by rcases rH_ltr (ns := ns) i with h | h | h <;> rw [h] <;> rfl)
theorem wayB_src {ns : List Int} {k i : Nat} (hi : i < k) (h1 : rSrc ns k = (i : Int)) (h2 : rWay ns k < 0) : wayB ns k i = true := by
 unfold wayB rHear
 rw [if_pos ⟨by exact lin [_,_] [_] [(0,.v 0,.v 1),(8,.v 0,.c (.v 0))] (6,.v 0,.c (.v 1)) [1,1,1] [] rfl hi h1, h2⟩, h1]
 simp
theorem wayB_eq {ns : List Int} {k i : Nat} (h : (rH ns i == rH ns k) = true) : wayB ns k i = true := by
 unfold wayB
 rw [h]; rfl
theorem wayB_no {ns : List Int} {k i : Nat} (h : ¬ (rH ns i == rH ns k) = true) (h2 : ¬ rSrc ns k = (i : Int) ∨ ¬ rWay ns k < 0) : ¬ wayB ns k i = true := by
 unfold wayB rHear
 intro q
 simp only [Bool.or_eq_true] at q
 rcases q with q | q
 ·exact h q
 ·split at q
  ·rename_i z
   have hs := rSrc_lo (ns := ns) k
   have : (rSrc ns k).toNat = i := by simpa using q
   rcases h2 with h2 | h2
   ·exact h2 (by exact lin [_,_] [_] [(2,.v 0,.v 1),(8,.c (.v 0),.v 0)] (8,.v 0,.c (.v 1)) [1,1,-1] [1,-1,1] rfl this (Int.toNat_of_nonneg (by exact lin [] [_] [(7,.n 0,.v 0)] (7,.n 0,.v 0) [1,1] [] rfl hs.1)))
   ·exact h2 z.2
  ·simp at q
end Mine
end
section
open PySem PySem.W PySem.Spec PySem.Calls PyProof.Rows
namespace Mine
section
variable {prog : Program} {w : World} {A : Around} {E : Value → Shared → Prop} {s : Shared} {h₀ : Heap} {L : Addr} {m : PySem.Str → Option Value} {env : Env}
theorem newEnv_one {scope : Scope} {cl : List (PySem.Str × Addr)} {x : PySem.Str} {Q : Env → Shared → Prop}
  (hcf : ∀ n, cellsFrom n scope.names cl = (x, n) :: cl) (hpc : ∀ h, pushCells h scope.names = h.push { cls := .type "cell", data := .cell none })
  (h : Q { scope, locals := s.heap.objs.size, globals := env.globals, cells := (x, s.heap.objs.size + 1) :: cl, qual := env.qual, func := none, code := env.code, frame := env.frame, builtins := env.builtins }
   { s with heap := (s.heap.push { cls := .type "dict", data := .dict #[] }).push { cls := .type "cell", data := .cell none } }) :
  wpAny (model prog w) A (newFunctionEnv scope env.globals cl [] env.qual none .none (some env)) Q E s := by
 simp only [newFunctionEnv, Option.isSome_some, if_true]
 refine wpAny_bind (wpAny_alloc ?_)
 refine wpAny_bind (wpAny_layCells _ (fun name kind cells => by cases hkc : kind == NameKind.cell <;> simp [hkc]) _ _ _ _ ?_)
 rw [hcf, hpc]
 rw [show ({ s with heap := s.heap.push { cls := .type "dict", data := .dict #[] } } : Shared).heap.objs.size = s.heap.objs.size + 1 from Heap.size_push ..]
 simp only [List.forIn_nil]
 exact wpAny_bind (wpAny_pure (wpAny_pure h))
noncomputable def CEnd (h₀ : Heap) (L : Addr) (m : PySem.Str → Option Value) (s₁ : Shared) (led : List (Addr × Obj)) (J : Prop) (s₂ : Shared) : Prop :=
 ∃ h' tk, s₂ = { s₁ with heap := h', toks := tk } ∧ Fr h₀ L h' m ∧ News h₀ L h' led ∧ J
noncomputable def SrcC (prog : Program) (w : World) (A : Around) (h₀ : Heap) (L : Addr) (m : PySem.Str → Option Value) (env : Env) (ct elt : PySem.Expr) (x : PySem.Str) (scope : Scope) (cl : List (PySem.Str × Addr)) (Q : Value → Shared → Prop) (xv : Value) (s₁ : Shared) : Prop :=
 ∃ (r : Addr) (t u v : Tok) (n : Nat) (news : List (Addr × Obj)) (J : Nat → List Value → Prop), xv = .ref r ∧ A.handled = none ∧ Fr h₀ L s₁.heap m ∧ News h₀ L s₁.heap news ∧
   IsRange s₁.heap r 0 (n : Int) 1 t u v ∧ Builtin.Range.small 0 (n : Int) 1 = true ∧ Builtin.Range.rangeSize 0 (n : Int) 1 = (n : Int) ∧ n ≤ sizeLine ∧ J 0 [] ∧
   (∀ (g : Heap) (i : Nat) (ys : List Value) (I : Addr) (oI : Obj) (C : Addr) (oC : Obj) (cc : Addr) (oc : Obj) (D : Addr) (hh : Heap) (tk : Nat) (t : Tok) (E' : Value → Shared → Prop), i < n → J i ys → oc.data = .cell (some (.int (i : Int) t)) → Fr h₀ L hh m →
    News h₀ L hh ((cc, oc) :: (C, oC) :: (D, LCg.lst ys) :: (I, oI) :: news) → (∀ p ∈ news, p.1 < I) → (@LT.lt Nat _ I D ∧ @LT.lt Nat _ D C ∧ @LT.lt Nat _ C cc) →
    wpAny (model prog w) A (isTrue ct (compEnvC scope ((x, cc) :: cl) C env) (eval ct (compEnvC scope ((x, cc) :: cl) C env))) (fun ok s' => if ok = true then
     wpAny (model prog w) A (eval elt (compEnvC scope ((x, cc) :: cl) C env)) (fun y s'' => CEnd h₀ L m { s₁ with heap := g } ((cc, oc) :: (C, oC) :: (D, LCg.lst ys) :: (I, oI) :: news) (J (i + 1) (ys ++ [y])) s'') E' s'
     else CEnd h₀ L m { s₁ with heap := g } ((cc, oc) :: (C, oC) :: (D, LCg.lst ys) :: (I, oI) :: news) (J (i + 1) ys) s') E' { s₁ with heap := hh, toks := tk }) ∧
   (∀ (ys : List Value) (D : Addr) (hh : Heap) (tk : Nat), J n ys → Fr h₀ L hh m → News h₀ L hh ((D, LCg.lst ys) :: news) → (∀ p ∈ news, p.1 < D) → Q (.ref D) { s₁ with heap := hh, toks := tk })end
noncomputable def CCa_S := (by
 refine' ⟨_, ?f⟩
 case f =>
  intro hPCCa prog w A E s h₀ L m env ct elt iter x px scope cl pos Q _F₀ hclos hcf hpc hkind hnames hx h hs
  revert _F₀ hclos hcf hpc hkind hnames hx h hs
  exact hPCCa prog w A E s h₀ L m env ct elt iter x px scope cl pos Q
 : Σ' (PCCa : _ → _ → _ → _ → _ → _ → _ → _ → _ → _ → _ → _ → _ → _ → _ → _ → _ → _ → Prop), (∀ y0 y1 y2 y3 y4 y5 y6 y7 y8 y9 y10 y11 y12 y13 y14 y15 y16 y17, PCCa y0 y1 y2 y3 y4 y5 y6 y7 y8 y9 y10 y11 y12 y13 y14 y15 y16 y17) → ∀ (prog : Program) (w : World) (A : Around) (E : Value → Shared → Prop) (s : Shared) (h₀ : Heap) (L : Addr) (m : PySem.Str → Option Value) (env : Env) (ct elt iter : PySem.Expr) (x : PySem.Str) (px : PySem.Pos) (scope : Scope) (cl : List (PySem.Str × Addr)) (pos : PySem.Pos) (Q : Value → Shared → Prop) (_F₀ : Fr h₀ L s.heap m)
  (hclos : closureFor scope env = pure cl) (hcf : ∀ n, cellsFrom n scope.names cl = (x, n) :: cl) (hpc : ∀ h, pushCells h scope.names = h.push { cls := .type "cell", data := .cell none })
  (hkind : scope.kind = .function) (hnames : ∀ y ∈ scope.names, y.2 = .local → scope.names.lookup y.1 = some .local) (hx : ∀ C cc, Env.kindOf (compEnvC scope ((x, cc) :: cl) C env) x = some .cell)
  (h : wpAny (model prog w) A (eval iter env) (SrcC prog w A h₀ L m env ct elt x scope cl Q) E s)
  (hs : ∀ x, foldedSetIterable iter env x = pure x), wpAny (model prog w) A (eval (.ListComp elt [⟨.Name x px, iter, [ct], 0⟩] scope pos) env) Q E s)
noncomputable def CCa_P := fun (y : (_ × _ × _ × _ × _ × _ × _ × _ × _ × _ × _ × _) × (_ × _ × _ × _ × _ × _)) => CCa_S.1 y.1.1 y.1.2.1 y.1.2.2.1 y.1.2.2.2.1 y.1.2.2.2.2.1 y.1.2.2.2.2.2.1 y.1.2.2.2.2.2.2.1 y.1.2.2.2.2.2.2.2.1 y.1.2.2.2.2.2.2.2.2.1 y.1.2.2.2.2.2.2.2.2.2.1 y.1.2.2.2.2.2.2.2.2.2.2.1 y.1.2.2.2.2.2.2.2.2.2.2.2 y.2.1 y.2.2.1 y.2.2.2.1 y.2.2.2.2.1 y.2.2.2.2.2.1 y.2.2.2.2.2.2
noncomputable def CCa_c := pick (by fail "d") CCa_P
namespace CCa
noncomputable def prog := CCa_c.1.1
noncomputable def w := CCa_c.1.2.1
noncomputable def A := CCa_c.1.2.2.1
noncomputable def E := CCa_c.1.2.2.2.1
noncomputable def h₀ := CCa_c.1.2.2.2.2.2.1
noncomputable def L := CCa_c.1.2.2.2.2.2.2.1
noncomputable def m := CCa_c.1.2.2.2.2.2.2.2.1
noncomputable def env := CCa_c.1.2.2.2.2.2.2.2.2.1
noncomputable def ct := CCa_c.1.2.2.2.2.2.2.2.2.2.1
noncomputable def elt := CCa_c.1.2.2.2.2.2.2.2.2.2.2.1
noncomputable def iter := CCa_c.1.2.2.2.2.2.2.2.2.2.2.2
noncomputable def x := CCa_c.2.1
noncomputable def px := CCa_c.2.2.1
noncomputable def scope := CCa_c.2.2.2.1
noncomputable def cl := CCa_c.2.2.2.2.1
noncomputable def pos := CCa_c.2.2.2.2.2.1
noncomputable def Q := CCa_c.2.2.2.2.2.2
noncomputable def CCb_S := (by
 refine' ⟨_, ?f⟩
 case f =>
  intro hPCCb 
  intro _F₀ hclos hcf hpc hkind hnames hx h hs
  rw [eval_ListComp]
  refine wpAny_comprehension_free (use := none) rfl hs hclos hkind hnames (wpAny_mono h (fun xv s₁ h₁ => ?_) fun _ _ e => e)
  refine ex6 h₁ fun r t u v n news h9_202 => ex1 h9_202 fun J h9_203 => an11 h9_203 fun eq9_201 hh F N hr hsm hn hsz hJ turn done => ?_
  clear h9_203 h9_202
  try clear h₁
  subst eq9_201
  refine wpAny_pyIter_range hr hsm ?_
  rw [hn]
  generalize hI : s₁.heap.objs.size = I
  have W : Walks prog w A I [I] [I] n (fun i v => ∃ t, v = .int ((0 : Int) + i * 1) t) (fun i h => IsRangeIter h I ((0 : Int) + (i : Nat) * 1) ((n : Int) - (i : Nat)) 1) := Walks.range hh I 0 1 n
  have hIs : (s₁.heap.push { cls := .type "range_iterator", data := .fields #[rawInt 0, rawInt (n : Int), rawInt 1] }).objs.size = I + 1 := by rw [Heap.size_push, hI]
  generalize hH : s₁.heap.push { cls := .type "range_iterator", data := .fields #[rawInt 0, rawInt (n : Int), rawInt 1] } = H at hIs ⊢
  have up0 : ∀ b o, s₁.heap.get? b = some o → H.get? b = some o := fun b o e => hH ▸ Heap.get?_push_of_some _ e
  have it0 : IsRangeIter H I ((0 : Int) + ((0 : Nat) : Int) * 1) ((n : Int) - ((0 : Nat) : Int)) 1 := by
   show IsRangeIter _ _ _ _ _
   rw [← hH, ← hI]
   simpa using Heap.get?_push_size _ rfl
  refine wpAny_newObj_type ?_
  dsimp only
  rw [hIs]
  generalize hG : H.push { cls := .type "list", dict := none, data := .seq ([] : List Value).toArray } = G
  have hGs : G.objs.size = I + 1 + 1 := by rw [← hG, Heap.size_push, hIs]
  have up1 : ∀ b o, H.get? b = some o → G.get? b = some o := fun b o e => hG ▸ Heap.get?_push_of_some _ e
  have l1 : G.get? (I + 1) = some (LCg.lst []) := by rw [← hG, ← hIs]; exact Heap.get?_push_size _ rfl
  refine newEnv_one hcf hpc ?_
  dsimp only
  rw [hGs]
  generalize hK : (G.push { cls := .type "dict", data := .dict #[] }).push { cls := .type "cell", data := .cell none } = K
  have hKs : (G.push { cls := .type "dict", data := .dict #[] }).objs.size = I + 1 + 1 + 1 := by rw [Heap.size_push, hGs]
  have up2 : ∀ b o, G.get? b = some o → K.get? b = some o := fun b o e => hK ▸ Heap.get?_push_of_some _ (Heap.get?_push_of_some _ e)
  have ns2 : K.Ns (I + 1 + 1) fun _ => none := by
   have z := Heap.Ns.new G (.type "dict")
   rw [hGs] at z
   exact z.keeps fun b o e => hK ▸ Heap.get?_push_of_some _ e
  have c2 : K.get? (I + 1 + 1 + 1) = some { cls := .type "cell", data := .cell none } := by rw [← hK, ← hKs]; exact Heap.get?_push_size _ rfl
  refine ex1 (LCg.ns_obj ns2) fun oC h9_204 => an2 h9_204 fun eC nsC => ?_
  clear h9_204
  revert _F₀ hclos hcf hpc hkind hnames hx h hs hh F N hr hsm hn hsz hJ turn done hI W hH hIs up0 it0 hG hGs up1 l1 hK hKs up2 ns2 c2 eC nsC
  exact hPCCb s₁ r t u v n news J I H G K oC
 : Σ' (PCCb : _ → _ → _ → _ → _ → _ → _ → _ → _ → _ → _ → _ → _ → Prop), (∀ y0 y1 y2 y3 y4 y5 y6 y7 y8 y9 y10 y11 y12, PCCb y0 y1 y2 y3 y4 y5 y6 y7 y8 y9 y10 y11 y12) → CCa_S.1 prog w A E CCa_c.1.2.2.2.2.1 h₀ L m env ct elt iter x px scope cl pos Q)
noncomputable def CCb_P := fun (y : (_ × _ × _ × _ × _ × _ × _ × _ × _ × _ × _ × _) × (_)) => CCb_S.1 y.1.1 y.1.2.1 y.1.2.2.1 y.1.2.2.2.1 y.1.2.2.2.2.1 y.1.2.2.2.2.2.1 y.1.2.2.2.2.2.2.1 y.1.2.2.2.2.2.2.2.1 y.1.2.2.2.2.2.2.2.2.1 y.1.2.2.2.2.2.2.2.2.2.1 y.1.2.2.2.2.2.2.2.2.2.2.1 y.1.2.2.2.2.2.2.2.2.2.2.2 y.2
noncomputable def CCb_c := pick (by fail "d") CCb_P
namespace CCb
noncomputable def s₁ := CCb_c.1.1
noncomputable def t := CCb_c.1.2.2.1
noncomputable def v := CCb_c.1.2.2.2.2.1
noncomputable def n := CCb_c.1.2.2.2.2.2.1
noncomputable def news := CCb_c.1.2.2.2.2.2.2.1
noncomputable def J := CCb_c.1.2.2.2.2.2.2.2.1
noncomputable def I := CCb_c.1.2.2.2.2.2.2.2.2.1
noncomputable def K := CCb_c.1.2.2.2.2.2.2.2.2.2.2.2
noncomputable def oC := CCb_c.2
noncomputable def CCc_S := (by
 refine' ⟨_, ?f⟩
 case f =>
  intro hPCCc 
  intro _F₀ hclos hcf hpc hkind hnames hx h hs hh F N hr hsm hn hsz hJ turn done hI W hH hIs up0 it0 hG hGs up1 l1 hK hKs up2 ns2 c2 eC nsC
  have fresh : ∀ a, I ≤ a → h₀.get? a = none := fun a ha => by
   cases e : h₀.get? a with
   | none => rfl
   | some o' => exact absurd (Heap.lt_size (F.keep a o' e)) (by rw [hI]; exact Nat.not_lt.mpr ha)
  have hLI : @LT.lt Nat _ L I := by have := F.ns.lt; rw [hI] at this; exact this
  have hnI : ∀ p ∈ news, p.1 < I := fun p hp => hI ▸ Heap.lt_size (N p hp).1
  have loop : codeAny (model prog w) A (.compLoop (.ListComp elt [⟨.Name x px, iter, [ct], 0⟩] scope pos) 0 (.ref I) (.ref (I + 1)) (compEnvC scope ((x, I + 1 + 1 + 1) :: cl) (I + 1 + 1) env))
    (compPost (model prog w) A E none Q (.ref (I + 1)) (I + 1 + 1)) { s₁ with heap := K } := by
   refine codeAny_compLoop_tests (fun k s' => ∃ h' tk i ys oc vc, s' = { s₁ with heap := h', toks := tk } ∧ i ≤ n ∧ k = n + 1 - i ∧ ys.length ≤ i ∧ IsRangeIter h' I ((0 : Int) + (i : Nat) * 1) ((n : Int) - (i : Nat)) 1 ∧ Fr h₀ L h' m ∧
    News h₀ L h' ((I + 1 + 1 + 1, oc) :: (I + 1 + 1, oC) :: (I + 1, LCg.lst ys) :: news) ∧ oc.data = .cell vc ∧ J i ys) ?_ (n + 1)
    ⟨K, _, 0, [], { cls := .type "cell", data := .cell none }, none, rfl, Nat.zero_le _, rfl, Nat.le_refl _, W.frame _ _ _ it0 (fun b _ o e => up2 b o (up1 b o e)), F.keeps fun b o e => up2 b o (up1 b o (up0 b o e)), ?_, rfl, hJ⟩
   ·intro k s' hI9_182
    refine ex6 hI9_182 fun h' tk i ys oc vc h9_207 => an9 h9_207 fun eq9_205 hi eq9_206 hyl hst F' N' hoc hj => ?_
    clear h9_207
    try clear hI9_182
    subst eq9_205
    subst eq9_206
    revert _F₀ hclos hcf hpc hkind hnames hx h hs hh F N hr hsm hn hsz hJ turn done hI W hH hIs up0 it0 hG hGs up1 l1 hK hKs up2 ns2 c2 eC nsC fresh hLI hnI i hi hyl hst F' N' hoc hj
    exact hPCCc h' tk ys oc vc
   ·intro p hp
    simp only [List.mem_cons] at hp
    rcases hp with rfl | rfl | rfl | hp
    ·exact ⟨c2, by show @Ne Nat _ _; exact lin [_,_] [] [(0,.v 0,.v 1)] (5,.a (.a (.a (.v 1) (.n 1)) (.n 1)) (.n 1),.v 0) [1,1] [] rfl hLI, fresh _ (by exact lin [_] [] [] (1,.v 0,.a (.a (.a (.v 0) (.n 1)) (.n 1)) (.n 1)) [1] [] rfl)⟩
    ·exact ⟨eC, by show @Ne Nat _ _; exact lin [_,_] [] [(0,.v 0,.v 1)] (5,.a (.a (.v 1) (.n 1)) (.n 1),.v 0) [1,1] [] rfl hLI, fresh _ (by exact lin [_] [] [] (1,.v 0,.a (.a (.v 0) (.n 1)) (.n 1)) [1] [] rfl)⟩
    ·exact ⟨up2 _ _ l1, by show @Ne Nat _ _; exact lin [_,_] [] [(0,.v 0,.v 1)] (5,.a (.v 1) (.n 1),.v 0) [1,1] [] rfl hLI, fresh _ (by exact lin [_] [] [] (1,.v 0,.a (.v 0) (.n 1)) [1] [] rfl)⟩
    ·have z := N p hp
     exact ⟨up2 _ _ (up1 _ _ (up0 _ _ z.1)), z.2⟩
  refine codeAny_compStart_list loop (W.self 0 _ _ _ (W.frame _ _ _ it0 (fun b _ o e => up2 b o (up1 b o e))) loop)
 : Σ' (PCCc : _ → _ → _ → _ → _ → Prop), (∀ y0 y1 y2 y3 y4, PCCc y0 y1 y2 y3 y4) → CCb_S.1 s₁ CCb_c.1.2.1 t CCb_c.1.2.2.2.1 v n news J I CCb_c.1.2.2.2.2.2.2.2.2.2.1 CCb_c.1.2.2.2.2.2.2.2.2.2.2.1 K oC)
noncomputable def CCc_P := fun (y : (_ × _ × _ × _ × _)) => CCc_S.1 y.1 y.2.1 y.2.2.1 y.2.2.2.1 y.2.2.2.2
noncomputable def CCc_c := pick (by fail "d") CCc_P
namespace CCc
noncomputable def ys := CCc_c.2.2.1
noncomputable def oc := CCc_c.2.2.2.1
noncomputable def vc := CCc_c.2.2.2.2
noncomputable def CCd_S := (by
 refine' ⟨_, ?f⟩
 case f =>
  intro hPCCd 
  intro _F₀ hclos hcf hpc hkind hnames hx h hs hh F N hr hsm hn hsz hJ turn done hI W hH hIs up0 it0 hG hGs up1 l1 hK hKs up2 ns2 c2 eC nsC fresh hLI hnI i hi hyl hst F' N' hoc hj
  by_cases hlt : i < n
  ·refine W.item i _ _ _ hlt hst fun v h₂ tk₂ hP hst₂ hk₂ => ?_
   refine ex1 hP fun t eq9_208 => ?_
   try clear hP
   subst eq9_208
   have e1 : (0 : Int) + (i : Int) * 1 = (i : Int) := by exact lin [_] [] [] (8,.a (.n 0) (.r (.c (.v 0)) 1),.c (.v 0)) [1] [1] rfl
   have e2 : (0 : Int) + ((i + 1 : Nat) : Int) * 1 = ((i + 1 : Nat) : Int) := by exact lin [_] [] [] (8,.a (.n 0) (.r (.c (.a (.v 0) (.n 1))) 1),.c (.a (.v 0) (.n 1))) [1] [1] rfl
   dsimp only
   rw [e1]
   have F₂ : Fr h₀ L h₂ m := LCg.fr_but F' hk₂ (Nat.ne_of_lt hLI) (fresh I (Nat.le_refl _))
   have offI : ∀ p ∈ (I + 1 + 1 + 1, oc) :: (I + 1 + 1, oC) :: (I + 1, LCg.lst ys) :: news, p.1 ≠ I := fun p hp => by
    simp only [List.mem_cons] at hp
    rcases hp with rfl | rfl | rfl | hp
    ·show @Ne Nat _ _; dsimp only; exact lin [_] [] [] (5,.a (.a (.a (.v 0) (.n 1)) (.n 1)) (.n 1),.v 0) [1] [] rfl
    ·show @Ne Nat _ _; dsimp only; exact lin [_] [] [] (5,.a (.a (.v 0) (.n 1)) (.n 1),.v 0) [1] [] rfl
    ·show @Ne Nat _ _; dsimp only; exact lin [_] [] [] (5,.a (.v 0) (.n 1),.v 0) [1] [] rfl
    ·exact Nat.ne_of_lt (hnI p hp)
   have N₂ := LCg.news_but N' hk₂ offI
   refine wpAny_assign_Name (wpAny_storeName_cell (v₀ := vc) (by simp [compEnvC, relabel, hkind]) (hx _ _) (by simp [compEnvC]) ⟨oc, (N₂ _ (.head _)).1, hoc⟩ fun h₃ hc₃ hs₃ => ?_)
   refine ex1 hc₃ fun oc' h9_209 => an2 h9_209 fun ec' dc' => ?_
   clear h9_209
   try clear hc₃
   revert _F₀ hclos hcf hpc hkind hnames hx h hs hh F N hr hsm hn hsz hJ turn done hI W hH hIs up0 it0 hG hGs up1 l1 hK hKs up2 ns2 c2 eC nsC fresh hLI hnI hi hyl hst F' N' hoc hj hlt hst₂ hk₂ e1 e2 F₂ offI N₂ hs₃ ec' dc'
   exact hPCCd i h₂ tk₂ t h₃ oc'
  ·obtain rfl : i = n := Nat.le_antisymm hi (Nat.not_lt.mp hlt)
   refine W.done _ _ _ hst fun h₂ tk₂ hk₂ => ?_
   have F₂ : Fr h₀ L h₂ m := LCg.fr_but F' hk₂ (Nat.ne_of_lt hLI) (fresh I (Nat.le_refl _))
   have offI : ∀ p ∈ (I + 1 + 1 + 1, oc) :: (I + 1 + 1, oC) :: (I + 1, LCg.lst ys) :: news, p.1 ≠ I := fun p hp => by
    simp only [List.mem_cons] at hp
    rcases hp with rfl | rfl | rfl | hp
    ·show @Ne Nat _ _; dsimp only; exact lin [_] [] [] (5,.a (.a (.a (.v 0) (.n 1)) (.n 1)) (.n 1),.v 0) [1] [] rfl
    ·show @Ne Nat _ _; dsimp only; exact lin [_] [] [] (5,.a (.a (.v 0) (.n 1)) (.n 1),.v 0) [1] [] rfl
    ·show @Ne Nat _ _; dsimp only; exact lin [_] [] [] (5,.a (.v 0) (.n 1),.v 0) [1] [] rfl
    ·exact Nat.ne_of_lt (hnI p hp)
   have N₂ := LCg.news_but N' hk₂ offI
   refine ⟨_, nsC.ns (N₂ (I + 1 + 1, oC) (.tail _ (.head _))).1, fun h'' hs'' => ?_⟩
   have hCN : h₀.get? (I + 1 + 1) = none := fresh _ (by exact lin [_] [] [] (1,.v 0,.a (.a (.v 0) (.n 1)) (.n 1)) [1] [] rfl)
   have hCL : (I + 1 + 1 : Nat) ≠ L := by exact lin [_,_] [] [(0,.v 0,.v 1)] (5,.a (.a (.v 1) (.n 1)) (.n 1),.v 0) [1,1] [] rfl hLI
   refine done ys (I + 1) h'' tk₂ hj (F₂.change hs'' hCL hCN) (fun p hp => ?_) (fun p hp => Nat.lt_succ_of_lt (hnI p hp))
   rcases List.mem_cons.mp hp with rfl | hp
   ·have z := N₂ (I + 1, LCg.lst ys) (.tail _ (.tail _ (.head _)))
    exact ⟨hs''.extBut _ _ (by show @Ne Nat _ _; exact lin [_] [] [] (5,.a (.v 0) (.n 1),.a (.a (.v 0) (.n 1)) (.n 1)) [-1] [] rfl) z.1, z.2⟩
   ·have z := N₂ p (.tail _ (.tail _ (.tail _ hp)))
    have q : @LT.lt Nat _ p.1 I := hnI p hp
    exact ⟨hs''.extBut _ _ (by show @Ne Nat _ _; exact lin [_,_] [] [(0,.v 0,.v 1)] (5,.v 0,.a (.a (.v 1) (.n 1)) (.n 1)) [-1,1] [] rfl q) z.1, z.2⟩
 : Σ' (PCCd : _ → _ → _ → _ → _ → _ → Prop), (∀ y0 y1 y2 y3 y4 y5, PCCd y0 y1 y2 y3 y4 y5) → CCc_S.1 CCc_c.1 CCc_c.2.1 ys oc vc)
noncomputable def CCd_P := fun (y : (_ × _ × _ × _ × _ × _)) => CCd_S.1 y.1 y.2.1 y.2.2.1 y.2.2.2.1 y.2.2.2.2.1 y.2.2.2.2.2
noncomputable def CCd_c := pick (by fail "d") CCd_P
namespace CCd
noncomputable def i := CCd_c.1
noncomputable def tk₂ := CCd_c.2.2.1
noncomputable def t := CCd_c.2.2.2.1
noncomputable def h₃ := CCd_c.2.2.2.2.1
noncomputable def oc' := CCd_c.2.2.2.2.2
theorem body : CCd_S.1 i CCd_c.2.1 tk₂ t h₃ oc' := by
 intro _F₀ hclos hcf hpc hkind hnames hx h hs hh F N hr hsm hn hsz hJ turn done hI W hH hIs up0 it0 hG hGs up1 l1 hK hKs up2 ns2 c2 eC nsC fresh hLI hnI hi hyl hst F' N' hoc hj hlt hst₂ hk₂ e1 e2 F₂ offI N₂ hs₃ ec' dc'
 have hcN : h₀.get? (I + 1 + 1 + 1) = none := fresh _ (by exact lin [_] [] [] (1,.v 0,.a (.a (.a (.v 0) (.n 1)) (.n 1)) (.n 1)) [1] [] rfl)
 have hcL : (I + 1 + 1 + 1 : Nat) ≠ L := by exact lin [_,_] [] [(0,.v 0,.v 1)] (5,.a (.a (.a (.v 1) (.n 1)) (.n 1)) (.n 1),.v 0) [1,1] [] rfl hLI
 have F₃ : Fr h₀ L h₃ m := F₂.change hs₃ hcL hcN
 have hst₃ : IsRangeIter h₃ I ((0 : Int) + ((i + 1 : Nat) : Int) * 1) ((n : Int) - ((i + 1 : Nat) : Int)) 1 := W.frame (i + 1) _ _ hst₂ fun b hb o e => hs₃.extBut b o (by rw [List.mem_singleton.mp hb]; show @Ne Nat _ _; exact lin [_] [] [] (5,.v 0,.a (.a (.a (.v 0) (.n 1)) (.n 1)) (.n 1)) [-1] [] rfl) e
 have N₃ : News h₀ L h₃ ((I + 1 + 1 + 1, oc') :: (I + 1 + 1, oC) :: (I + 1, LCg.lst ys) :: news) := fun p hp => by
  rcases List.mem_cons.mp hp with rfl | hp
  ·exact ⟨ec', hcL, hcN⟩
  ·have z := N₂ p (.tail _ hp)
   refine ⟨hs₃.extBut _ _ ?_ z.1, z.2⟩
   rcases List.mem_cons.mp hp with rfl | hp
   ·show @Ne Nat _ _; dsimp only; exact lin [_] [] [] (5,.a (.a (.v 0) (.n 1)) (.n 1),.a (.a (.a (.v 0) (.n 1)) (.n 1)) (.n 1)) [-1] [] rfl
   ·rcases List.mem_cons.mp hp with rfl | hp
    ·show @Ne Nat _ _; dsimp only; exact lin [_] [] [] (5,.a (.v 0) (.n 1),.a (.a (.a (.v 0) (.n 1)) (.n 1)) (.n 1)) [-1] [] rfl
    ·have := hnI p hp; have z : @LT.lt Nat _ p.1 I := this; show @Ne Nat _ _; exact lin [_,_] [] [(0,.v 0,.v 1)] (5,.v 0,.a (.a (.a (.v 1) (.n 1)) (.n 1)) (.n 1)) [-1,1] [] rfl z
 obtain ⟨oI, eI⟩ : ∃ o, h₃.get? I = some o := ⟨_, hst₃⟩
 have N₄ : News h₀ L h₃ ((I + 1 + 1 + 1, oc') :: (I + 1 + 1, oC) :: (I + 1, LCg.lst ys) :: (I, oI) :: news) := fun p hp => by
  simp only [List.mem_cons] at hp
  rcases hp with hp | hp | hp | rfl | hp
  ·exact N₃ p (by rw [hp]; exact .head _)
  ·exact N₃ p (by rw [hp]; exact .tail _ (.head _))
  ·exact N₃ p (by rw [hp]; exact .tail _ (.tail _ (.head _)))
  ·exact ⟨eI, Nat.ne_of_gt hLI, fresh I (Nat.le_refl _)⟩
  ·exact N₃ p (.tail _ (.tail _ (.tail _ hp)))
 have back : ∀ (h₅ : Heap), News h₀ L h₅ ((I + 1 + 1 + 1, oc') :: (I + 1 + 1, oC) :: (I + 1, LCg.lst ys) :: (I, oI) :: news) → IsRangeIter h₅ I ((0 : Int) + ((i + 1 : Nat) : Int) * 1) ((n : Int) - ((i + 1 : Nat) : Int)) 1 ∧ News h₀ L h₅ ((I + 1 + 1 + 1, oc') :: (I + 1 + 1, oC) :: (I + 1, LCg.lst ys) :: news) := fun h₅ N₅ => by
  refine ⟨?_, fun p hp => N₅ p ?_⟩
  ·have z := (N₅ (I, oI) (.tail _ (.tail _ (.tail _ (.head _))))).1
   rw [← eI] at z
   show h₅.get? I = _
   rw [z]
   exact hst₃
  ·simp only [List.mem_cons] at hp ⊢
   rcases hp with hp | hp | hp | hp
   ·exact .inl hp
   ·exact .inr (.inl hp)
   ·exact .inr (.inr (.inl hp))
   ·exact .inr (.inr (.inr (.inr hp)))
 refine wpAny_tests_one ?_
 refine wpAny_mono (turn K i ys I oI (I + 1 + 1) oC (I + 1 + 1 + 1) oc' (I + 1) h₃ tk₂ t _ hlt hj dc' F₃ N₄ hnI ⟨by exact lin [_] [] [] (0,.v 0,.a (.v 0) (.n 1)) [1] [] rfl, by exact lin [_] [] [] (0,.a (.v 0) (.n 1),.a (.a (.v 0) (.n 1)) (.n 1)) [1] [] rfl, by exact lin [_] [] [] (0,.a (.a (.v 0) (.n 1)) (.n 1),.a (.a (.a (.v 0) (.n 1)) (.n 1)) (.n 1)) [1] [] rfl⟩) (fun ok s₄ h₄ => ?_) fun _ _ e => e
 cases ok with
 | true =>
  simp only [if_true] at h₄ ⊢
  refine wpAny_mono h₄ (fun y s₅ h₅ => ?_) fun _ _ e => e
  obtain ⟨h₅, tk₅, rfl, F₅, N₅, j₅⟩ := h₅
  obtain ⟨it₅, N₅'⟩ := back h₅ N₅
  have zD := (N₅' (I + 1, LCg.lst ys) (.tail _ (.tail _ (.head _)))).1
  refine append_at (hsz := by show ys.toArray.size ≤ sizeLine; rw [List.size_toArray]; exact Nat.le_trans (Nat.le_trans hyl hi) hsz) zD fun h₆ hs₆ hD₆ => ?_
  have hDN : h₀.get? (I + 1) = none := fresh _ (by exact lin [_] [] [] (1,.v 0,.a (.v 0) (.n 1)) [1] [] rfl)
  have hDL : (I + 1 : Nat) ≠ L := by exact lin [_,_] [] [(0,.v 0,.v 1)] (5,.a (.v 1) (.n 1),.v 0) [1,1] [] rfl hLI
  refine ⟨n + 1 - (i + 1), by exact lin [_,_,_,_] [] [(2,.a (.v 0) (.a (.v 1) (.n 1)),.a (.v 2) (.n 1)),(2,.a (.v 3) (.v 1),.a (.v 2) (.n 1))] (0,.v 0,.v 3) [1,1,-1] [] rfl (Nat.sub_add_cancel (by exact lin [_,_] [] [(0,.v 0,.v 1)] (1,.a (.v 0) (.n 1),.a (.v 1) (.n 1)) [1,1] [] rfl hlt)) (Nat.sub_add_cancel (by exact lin [_,_] [] [(0,.v 0,.v 1)] (1,.v 0,.a (.v 1) (.n 1)) [1,1] [] rfl hlt)), h₆, tk₅, i + 1, ys ++ [y], oc', _, rfl, hlt, rfl, by rw [List.length_append, List.length_singleton]; exact lin [_,_] [] [(1,.v 0,.v 1)] (1,.a (.v 0) (.n 1),.a (.v 1) (.n 1)) [1,1] [] rfl hyl, W.frame (i + 1) _ _ it₅ (fun b hb o e => hs₆.extBut b o (by rw [List.mem_singleton.mp hb]; show @Ne Nat _ _; exact lin [_] [] [] (5,.v 0,.a (.v 0) (.n 1)) [-1] [] rfl) e), F₅.change hs₆ hDL hDN, fun p hp => ?_, dc', j₅⟩
  simp only [List.mem_cons] at hp
  rcases hp with rfl | rfl | rfl | hp
  ·have z := N₅' (I + 1 + 1 + 1, oc') (.head _)
   exact ⟨hs₆.extBut _ _ (by show @Ne Nat _ _; exact lin [_] [] [] (5,.a (.a (.a (.v 0) (.n 1)) (.n 1)) (.n 1),.a (.v 0) (.n 1)) [1] [] rfl) z.1, z.2⟩
  ·have z := N₅' (I + 1 + 1, oC) (.tail _ (.head _))
   exact ⟨hs₆.extBut _ _ (by show @Ne Nat _ _; exact lin [_] [] [] (5,.a (.a (.v 0) (.n 1)) (.n 1),.a (.v 0) (.n 1)) [1] [] rfl) z.1, z.2⟩
  ·exact ⟨hD₆.trans (congrArg some (LCg.lst_snoc ys y)), hDL, hDN⟩
  ·have z := N₅' p (.tail _ (.tail _ (.tail _ hp)))
   have q : @LT.lt Nat _ p.1 I := hnI p hp
   exact ⟨hs₆.extBut _ _ (by show @Ne Nat _ _; exact lin [_,_] [] [(0,.v 0,.v 1)] (5,.v 0,.a (.v 1) (.n 1)) [-1,1] [] rfl q) z.1, z.2⟩
 | false =>
  simp only [Bool.false_eq_true, if_false] at h₄ ⊢
  refine ex2 h₄ fun h₅ tk₅ h9_213 => an4 h9_213 fun eq9_212 F₅ N₅ j₅ => ?_
  clear h9_213
  try clear h₄
  subst eq9_212
  refine an2 (back h₅ N₅) fun it₅ N₅' => ?_
  exact ⟨n + 1 - (i + 1), by exact lin [_,_,_,_] [] [(2,.a (.v 0) (.a (.v 1) (.n 1)),.a (.v 2) (.n 1)),(2,.a (.v 3) (.v 1),.a (.v 2) (.n 1))] (0,.v 0,.v 3) [1,1,-1] [] rfl (Nat.sub_add_cancel (by exact lin [_,_] [] [(0,.v 0,.v 1)] (1,.a (.v 0) (.n 1),.a (.v 1) (.n 1)) [1,1] [] rfl hlt)) (Nat.sub_add_cancel (by exact lin [_,_] [] [(0,.v 0,.v 1)] (1,.v 0,.a (.v 1) (.n 1)) [1,1] [] rfl hlt)), h₅, tk₅, i + 1, ys, oc', _, rfl, hlt, rfl, Nat.le_succ_of_le hyl, it₅, F₅, N₅', dc', j₅⟩
end CCd
theorem body : CCc_S.1 CCc_c.1 CCc_c.2.1 ys oc vc :=
 CCd_S.2 (fun y0 y1 y2 y3 y4 y5 => pick_use (P := CCd_P) (c := CCd_c) rfl CCd.body ((y0, y1, y2, y3, y4, y5))) 
end CCc
theorem body : CCb_S.1 s₁ CCb_c.1.2.1 t CCb_c.1.2.2.2.1 v n news J I CCb_c.1.2.2.2.2.2.2.2.2.2.1 CCb_c.1.2.2.2.2.2.2.2.2.2.2.1 K oC :=
 CCc_S.2 (fun y0 y1 y2 y3 y4 => pick_use (P := CCc_P) (c := CCc_c) rfl CCc.body ((y0, y1, y2, y3, y4))) 
end CCb
theorem body : CCa_S.1 prog w A E CCa_c.1.2.2.2.2.1 h₀ L m env ct elt iter x px scope cl pos Q :=
 CCb_S.2 (fun y0 y1 y2 y3 y4 y5 y6 y7 y8 y9 y10 y11 y12 => pick_use (P := CCb_P) (c := CCb_c) rfl CCb.body ((y0, y1, y2, y3, y4, y5, y6, y7, y8, y9, y10, y11), (y12))) 
end CCa
theorem ListComp_Cx (prog : Program) (w : World) (A : Around) (E : Value → Shared → Prop) (s : Shared) (h₀ : Heap) (L : Addr) (m : PySem.Str → Option Value) (env : Env) (ct elt iter : PySem.Expr) (x : PySem.Str) (px : PySem.Pos) (scope : Scope) (cl : List (PySem.Str × Addr)) (pos : PySem.Pos) (Q : Value → Shared → Prop) (_F₀ : Fr h₀ L s.heap m)
  (hclos : closureFor scope env = pure cl) (hcf : ∀ n, cellsFrom n scope.names cl = (x, n) :: cl) (hpc : ∀ h, pushCells h scope.names = h.push { cls := .type "cell", data := .cell none })
  (hkind : scope.kind = .function) (hnames : ∀ y ∈ scope.names, y.2 = .local → scope.names.lookup y.1 = some .local) (hx : ∀ C cc, Env.kindOf (compEnvC scope ((x, cc) :: cl) C env) x = some .cell)
  (h : wpAny (model prog w) A (eval iter env) (SrcC prog w A h₀ L m env ct elt x scope cl Q) E s)
  (hs : ∀ x, foldedSetIterable iter env x = pure x) : wpAny (model prog w) A (eval (.ListComp elt [⟨.Name x px, iter, [ct], 0⟩] scope pos) env) Q E s :=
 CCa_S.2 (fun y0 y1 y2 y3 y4 y5 y6 y7 y8 y9 y10 y11 y12 y13 y14 y15 y16 y17 => pick_use (P := CCa_P) (c := CCa_c) rfl CCa.body ((y0, y1, y2, y3, y4, y5, y6, y7, y8, y9, y10, y11), (y12, y13, y14, y15, y16, y17))) prog w A E s h₀ L m env ct elt iter x px scope cl pos Q _F₀ hclos hcf hpc hkind hnames hx h hs
section
variable {prog : Program} {w : World} {A : Around} {E : Value → Shared → Prop} {s : Shared} {h₀ : Heap} {L : Addr} {m : PySem.Str → Option Value} {env : Env}
theorem ListComp_C {ct elt iter : PySem.Expr} {x : PySem.Str} {px : PySem.Pos} {scope : Scope} {cl : List (PySem.Str × Addr)} {pos : PySem.Pos} {Q : Value → Shared → Prop} (_F₀ : Fr h₀ L s.heap m)
  (hclos : closureFor scope env = pure cl) (hcf : ∀ n, cellsFrom n scope.names cl = (x, n) :: cl) (hpc : ∀ h, pushCells h scope.names = h.push { cls := .type "cell", data := .cell none })
  (hkind : scope.kind = .function) (hnames : ∀ y ∈ scope.names, y.2 = .local → scope.names.lookup y.1 = some .local) (hx : ∀ C cc, Env.kindOf (compEnvC scope ((x, cc) :: cl) C env) x = some .cell)
  (h : wpAny (model prog w) A (eval iter env) (SrcC prog w A h₀ L m env ct elt x scope cl Q) E s)
  (hs : ∀ x, foldedSetIterable iter env x = pure x := by intro _; rfl) :
  wpAny (model prog w) A (eval (.ListComp elt [⟨.Name x px, iter, [ct], 0⟩] scope pos) env) Q E s :=
 ListComp_Cx prog w A E s h₀ L m env ct elt iter x px scope cl pos Q _F₀ hclos hcf hpc hkind hnames hx h hs
end
end Mine
end
section
open PySem PySem.W PySem.Spec PySem.Calls PyProof.Rows
namespace Mine
noncomputable def preL (ns : List Int) (k i : Nat) : List Int := ((List.range i).filter fun i => rP ns i k).map fun j : Nat => (j : Int)
theorem preL_succ (ns : List Int) (k i : Nat) : preL ns k (i + 1) = if rP ns i k = true then preL ns k i ++ [(i : Int)] else preL ns k i := by
 unfold preL
 rw [List.range_succ, List.filter_append, List.map_append]
 by_cases h : rP ns i k = true
 ·rw [if_pos h]; simp [h]
 ·rw [if_neg h]; simp [h]
theorem pastL_eq (ns : List Int) (k : Nat) : pastL ns k = preL ns k k ++ [(k : Int)] := rfl
theorem past_mem {ns : List Int} {i j : Nat} : (pastL ns j).any (· == (i : Int)) = rP ns i j := by
 rw [Bool.eq_iff_iff, List.any_eq_true]
 unfold pastL
 constructor
 ·intro hI9_199
  refine ex1 hI9_199 fun x h9_214 => an2 h9_214 fun hx e => ?_
  clear h9_214
  try clear hI9_199
  have e : x = (i : Int) := by simpa using e
  subst e
  rcases List.mem_append.mp hx with h | h
  ·refine ex1 (List.mem_map.mp h) fun a h9_215 => an2 h9_215 fun ha e => ?_
   clear h9_215
   have e : a = i := by exact lin [_,_] [] [(8,.c (.v 0),.c (.v 1))] (2,.v 0,.v 1) [1,1] [1,-1] rfl e
   subst e
   exact (List.mem_filter.mp ha).2
  ·have e : i = j := by have := List.mem_singleton.mp h; exact lin [_,_] [] [(8,.c (.v 0),.c (.v 1))] (2,.v 0,.v 1) [1,1] [1,-1] rfl this
   rw [e, rP_at]
   simp
 ·intro h
  refine ⟨(i : Int), ?_, by simp⟩
  by_cases e : i = j
  ·rw [e]; exact List.mem_append_right _ (by simp)
  ·refine List.mem_append_left _ (List.mem_map.mpr ⟨i, List.mem_filter.mpr ⟨List.mem_range.mpr ?_, h⟩, rfl⟩)
   rw [rP_at] at h
   simp only [Bool.or_eq_true, beq_iff_eq, Bool.and_eq_true, decide_eq_true_eq] at h
   rcases h with h | h
   ·exact absurd h e
   ·exact h.1
theorem wayL_get {ns : List Int} {k i : Nat} {z : Int} (h : (wayL ns k k)[i]? = some z) : ∃ j : Nat, z = (j : Int) ∧ j < k := by
 refine ex1 (List.mem_map.mp (List.mem_of_getElem? h)) fun a h9_217 => an2 h9_217 fun ha eq9_216 => ?_
 clear h9_217
 subst eq9_216
 exact ⟨a, rfl, List.mem_range.mp (List.mem_filter.mp ha).1⟩
theorem ints_getM {vs : List Value} {zs : List Int} (h : IntsAre vs zs) : ∀ {i : Nat} {v : Value}, vs[i]? = some v → ∃ z t, v = .int z t ∧ zs[i]? = some z := by
 induction h with
 | nil => intro i v h; cases h
 | cons n t _ ih =>
  intro i v h
  cases i with
  | zero => cases h; exact ⟨_, _, rfl, rfl⟩
  | succ i => exact ih h
noncomputable def seeL (ns : List Int) (k i j : Nat) : List Int := ((wayL ns k k).take j).filter fun z => rP ns i z.toNat
theorem see_yes {ns : List Int} {k i j : Nat} {z : Int} {ys : List Value} {t : Tok} (hz : (wayL ns k k)[j]? = some z) (hb : rP ns i z.toNat = true) (h : IntsAre ys (seeL ns k i j)) : IntsAre (ys ++ [.int z t]) (seeL ns k i (j + 1)) := by
 unfold seeL at h ⊢
 rw [List.take_add_one, hz, List.filter_append]
 have : (([z] : List Int).filter fun z => rP ns i z.toNat) = [z] := by simp [hb]
 rw [show (some z).toList = [z] from rfl, this]
 exact h.append (.cons _ _ .nil)
theorem see_no {ns : List Int} {k i j : Nat} {z : Int} {ys : List Value} (hz : (wayL ns k k)[j]? = some z) (hb : ¬ rP ns i z.toNat = true) (h : IntsAre ys (seeL ns k i j)) : IntsAre ys (seeL ns k i (j + 1)) := by
 unfold seeL at h ⊢
 rw [List.take_add_one, hz, List.filter_append]
 have : (([z] : List Int).filter fun z => rP ns i z.toNat) = [] := by simp [hb]
 rw [show (some z).toList = [z] from rfl, this, List.append_nil]
 exact h
theorem see_all {ns : List Int} {k i : Nat} (hi : i < k) : (!decide (seeL ns k i (wayL ns k k).length = [])) = rP ns i k := by
 unfold seeL
 rw [List.take_length, rP_at]
 have e1 : (i == k) = false := by simp; exact lin [_,_] [] [(0,.v 0,.v 1)] (5,.v 0,.v 1) [-1,1] [] rfl hi
 have e2 : decide (i < k) = true := decide_eq_true hi
 rw [e1, e2, Bool.false_or, Bool.true_and, Bool.eq_iff_iff, List.any_eq_true]
 simp only [Bool.not_eq_true', decide_eq_false_iff_not, Bool.and_eq_true, List.mem_range]
 constructor
 ·intro hne
  refine ex1 (List.exists_mem_of_ne_nil _ hne) fun z hz => ?_
  refine an2 (List.mem_filter.mp hz) fun h1 h2 => ?_
  refine ex1 (List.mem_map.mp h1) fun a h9_219 => an2 h9_219 fun ha eq9_218 => ?_
  clear h9_219
  subst eq9_218
  refine an2 (List.mem_filter.mp ha) fun h3 h4 => ?_
  exact ⟨a, List.mem_range.mp h3, h4, h2⟩
 ·intro hI9_200
  refine ex1 hI9_200 fun a h9_220 => an3 h9_220 fun h3 h4 h2 => ?_
  clear h9_220
  try clear hI9_200
  exact List.ne_nil_of_mem (a := (a : Int)) (List.mem_filter.mpr ⟨List.mem_map.mpr ⟨a, List.mem_filter.mpr ⟨List.mem_range.mpr h3, h4⟩, rfl⟩, h2⟩)
theorem pre_yes {ns : List Int} {k i : Nat} {ys : List Value} {t : Tok} (hb : rP ns i k = true) (h : IntsAre ys (preL ns k i)) : IntsAre (ys ++ [.int (i : Int) t]) (preL ns k (i + 1)) := by
 rw [preL_succ, if_pos hb]
 exact h.append (.cons _ _ .nil)
theorem pre_no {ns : List Int} {k i : Nat} {ys : List Value} (hb : ¬ rP ns i k = true) (h : IntsAre ys (preL ns k i)) : IntsAre ys (preL ns k (i + 1)) := by
 rw [preL_succ, if_neg hb]; exact h
theorem pre_len (ns : List Int) (k i : Nat) : (preL ns k i).length ≤ i := by
 unfold preL
 rw [List.length_map]
 exact Nat.le_trans (List.length_filter_le _ _) (by simp)
theorem way_len (ns : List Int) (k i : Nat) : (wayL ns k i).length ≤ i := by
 unfold wayL
 rw [List.length_map]
 exact Nat.le_trans (List.length_filter_le _ _) (by simp)
end Mine
end
section
open PySem PySem.W PySem.Spec PySem.Calls PyProof.Rows
namespace Mine
theorem news_1of {h₀ h : Heap} {L a : Addr} {o : Obj} {r : List (Addr × Obj)} (N : News h₀ L h ((a, o) :: r)) : h.get? a = some o := (N _ (.head _)).1
theorem news_2of {h₀ h : Heap} {L a : Addr} {o : Obj} {p : Addr × Obj} {r : List (Addr × Obj)} (N : News h₀ L h (p :: (a, o) :: r)) : h.get? a = some o := (N _ (.tail _ (.head _))).1
theorem isl_of {h : Heap} {a : Addr} {vs : List Value} (n : Nat) (e : h.get? a = some (listOf vs.toArray n)) : h.IsList a vs.toArray := ⟨_, e, rfl, n, rfl⟩
theorem news_skip3 {h₀ h : Heap} {L : Addr} {p a b c : Addr × Obj} {r : List (Addr × Obj)} (N : News h₀ L h (p :: a :: b :: c :: r)) : News h₀ L h ([p] ++ r) := fun q hq => N q (by
 rcases List.mem_cons.mp hq with rfl | hq
 ·exact .head _
 ·exact .tail _ (.tail _ (.tail _ (.tail _ hq))))
theorem lt_skip3 {D : Addr} {p a b c : Addr × Obj} {r : List (Addr × Obj)} (hp : p.1 = D) (h : ∀ q ∈ a :: b :: c :: r, q.1 < D) : ∀ x ∈ [p], ∀ q ∈ r, q.1 < x.1 := fun x hx q hq => by
 rw [List.mem_singleton.mp hx, hp]
 exact h q (.tail _ (.tail _ (.tail _ hq)))
theorem led_ne {B X O P I : Addr} {oY oW oS oK oP oH : Obj} {ps : List Value} {nP : Nat} {os : List Value} {nO : Nat} {xs : List Value} {nX : Nat} {W : List (Addr × Obj)} (q : @LT.lt Nat _ (B + 6) X ∧ @LT.lt Nat _ X O ∧ @LT.lt Nat _ O P) (hPI : @LT.lt Nat _ P I) (G5 : ∀ p ∈ W, p.1 ≠ I) :
  ∀ p ∈ RunLed B X O P oY oW oS oK oP oH ps nP os nO xs nX W, p.1 ≠ I := fun p hp => by
 simp only [List.mem_cons] at hp
 rcases hp with rfl | rfl | rfl | rfl | rfl | rfl | rfl | rfl | rfl | hp
 all_goals first
  | exact G5 p hp
  | (show @Ne Nat _ _; (try dsimp only); (first | exact lin [_,_,_,_,_] [] [(0,.a (.v 0) (.n 6),.v 1),(0,.v 1,.v 2),(0,.v 2,.v 3),(0,.v 3,.v 4)] (5,.a (.a (.a (.a (.a (.a (.v 0) (.n 1)) (.n 1)) (.n 1)) (.n 1)) (.n 1)) (.n 1),.v 4) [-1,1,1,1,1] [] rfl q.1 q.2.1 q.2.2 hPI | exact lin [_,_,_,_,_] [] [(0,.a (.v 0) (.n 6),.v 1),(0,.v 1,.v 2),(0,.v 2,.v 3),(0,.v 3,.v 4)] (5,.a (.a (.a (.a (.a (.v 0) (.n 1)) (.n 1)) (.n 1)) (.n 1)) (.n 1),.v 4) [-1,1,1,1,1] [] rfl q.1 q.2.1 q.2.2 hPI | exact lin [_,_,_,_,_] [] [(0,.a (.v 0) (.n 6),.v 1),(0,.v 1,.v 2),(0,.v 2,.v 3),(0,.v 3,.v 4)] (5,.a (.a (.a (.a (.v 0) (.n 1)) (.n 1)) (.n 1)) (.n 1),.v 4) [-1,1,1,1,1] [] rfl q.1 q.2.1 q.2.2 hPI | exact lin [_,_,_,_,_] [] [(0,.a (.v 0) (.n 6),.v 1),(0,.v 1,.v 2),(0,.v 2,.v 3),(0,.v 3,.v 4)] (5,.a (.a (.a (.v 0) (.n 1)) (.n 1)) (.n 1),.v 4) [-1,1,1,1,1] [] rfl q.1 q.2.1 q.2.2 hPI | exact lin [_,_,_,_,_] [] [(0,.a (.v 0) (.n 6),.v 1),(0,.v 1,.v 2),(0,.v 2,.v 3),(0,.v 3,.v 4)] (5,.a (.a (.v 0) (.n 1)) (.n 1),.v 4) [-1,1,1,1,1] [] rfl q.1 q.2.1 q.2.2 hPI | exact lin [_,_,_,_,_] [] [(0,.a (.v 0) (.n 6),.v 1),(0,.v 1,.v 2),(0,.v 2,.v 3),(0,.v 3,.v 4)] (5,.a (.v 0) (.n 1),.v 4) [-1,1,1,1,1] [] rfl q.1 q.2.1 q.2.2 hPI | exact lin [_,_] [] [(0,.v 0,.v 1)] (5,.v 0,.v 1) [-1,1] [] rfl hPI | exact lin [_,_,_] [] [(0,.v 0,.v 1),(0,.v 1,.v 2)] (5,.v 0,.v 2) [-1,1,1] [] rfl q.2.2 hPI | exact lin [_,_,_,_] [] [(0,.v 0,.v 1),(0,.v 1,.v 2),(0,.v 2,.v 3)] (5,.v 0,.v 3) [-1,1,1,1] [] rfl q.2.1 q.2.2 hPI))
noncomputable def RRun (ns : List Int) (r : Value) (news' : List (Addr × Obj)) : Prop :=
 ∃ (Rl O P : Addr) (tH : Tok) (n1 nO nP : Nat) (os ps : List Value), r = .ref Rl ∧ (Rl, listOf (List.toArray [Value.ref O, .str (rHosts ns 6) tH, .ref P]) n1) ∈ news' ∧ (O, listOf (List.toArray os) nO) ∈ news' ∧ (P, listOf (List.toArray ps) nP) ∈ news' ∧
  os.length = 6 ∧ ps.length = 6 ∧ (∀ i, i < 6 → ∃ q us n, os[i]? = some (.ref q) ∧ (q, listOf (List.toArray us) n) ∈ news' ∧ ToldIn news' us (rT ns i)) ∧ (∀ i, i < 6 → ∃ q us n, ps[i]? = some (.ref q) ∧ (q, listOf (List.toArray us) n) ∈ news' ∧ IntsAre us (pastL ns i))
theorem run_back {ns : List Int} {nu C B X O P Rl : Addr} {nC nn n1 : Nat} {nvs : List Value} {x : Nat → Addr} {tH : Tok} {oY oW oS oK oP oH : Obj} {ps : List Value} {nP : Nat} {os : List Value} {nO : Nat} {xs : List Value} {nX : Nat} {CL R : List (Addr × Obj)} (G2 : RunF ns nu C nC nvs nn x 6 6 os ps R) :
  RRun ns (.ref Rl) ((Rl, listOf (List.toArray [Value.ref O, .str (rHosts ns 6) tH, .ref P]) n1) :: RunLed B X O P oY oW oS oK oP oH ps nP os nO xs nX (CL ++ R)) := by
 have up : ∀ p ∈ R, p ∈ (Rl, listOf (List.toArray [Value.ref O, .str (rHosts ns 6) tH, .ref P]) n1) :: RunLed B X O P oY oW oS oK oP oH ps nP os nO xs nX (CL ++ R) := fun p hp => by simp [hp]
 refine ⟨Rl, O, P, tH, n1, nO, nP, os, ps, rfl, .head _, by simp, by simp, G2.tl, G2.pl, fun i hi => ?_, fun i hi => ?_⟩
 ·refine ex3 (G2.told i hi) fun q us n h9_227 => an3 h9_227 fun a b c => ?_
  clear h9_227
  exact ⟨q, us, n, a, up _ b, c.mono up⟩
 ·refine ex3 (G2.past i hi) fun q us n h9_228 => an3 h9_228 fun a b c => ?_
  clear h9_228
  exact ⟨q, us, n, a, up _ b, c⟩
end Mine
end
section
local macro_rules | `(tactic| omega) => `(tactic| fail "OL")
theorem Mine.clean_B1 : Mine.CleanT := by
 intro M A Q E s h
 w_top off
 first
  | (walk1; fail_if_success skip)
  | exact h
open PySem PySem.W PyProof.Rows
namespace Mine
local macro_rules | `(tactic| k_all) => `(tactic| exact offLt (by assumption) (by omega))
local macro_rules | `(tactic| k_all) => `(tactic| assumption)
local macro_rules | `(tactic| k_mem) => `(tactic| assumption)
local macro_rules | `(tactic| walk_at "subscriptTail") => `(tactic| ((with_reducible show wpAny _ _ (subscriptTail _ _ (Value.ref _) (Value.int _ _)) _ _ _); refine Au.un 2 ?_))
local macro_rules | `(tactic| walk_at "subscriptTail") => `(tactic| ((with_reducible show wpAny _ _ (subscriptTail _ _ (Value.ref _) (Value.int (Nat.cast _) _)) _ _ _); refine Au.un 2 ?_))
local macro_rules | `(tactic| walk_at "CompSrcT") => `(tactic| (refine Hold.un ?_))
local macro_rules | `(tactic| walk_at "eval ListComp") => `(tactic| (refine Hold.un ?_))
local macro_rules | `(tactic| walk_at "SrcC") => `(tactic| (refine Hold.un ?_))
local macro_rules | `(tactic| walk_at "compareOp In int ref") => `(tactic| (refine Hold.un ?_))
local macro_rules | `(tactic| walk_at "compareOp NotEq ref ref") => `(tactic| (refine Hold.un ?_))
local macro_rules | `(tactic| walk_at "pyIter ref") => `(tactic| (refine Hold.un ?_))
local macro_rules | `(tactic| walk_at "call ref") => `(tactic| refine Au.un 1 ?_)
local macro_rules | `(tactic| walk_at "call type:str") => `(tactic| refine Hold.un ?_)
local macro_rules | `(tactic| walk_at "binaryOp Add ref ref") => `(tactic| refine Hold.un ?_)
theorem run_spc (w : World) (nu : Addr) (nvs : List Value) (nn : Nat) (ns : List Int) (news : List (Addr × Obj)) (hnu : (nu, listOf nvs.toArray nn) ∈ news) (hni : IntsAre nvs ns) (hnl : ns.length = 6) (hnb : ∀ x ∈ ns, 0 ≤ x ∧ x < 1000000)
  (mean : ExcName → Option Value) (mg mb : PySem.Str → Option Value) (dp un : Nat) (gd : Option (List Code)) (cn : PySem.Str) (cs : Scope) (a : Addr) (ccd : Value) (A₀ : Around) (base h₀ : Heap) (L : Addr) (m : PySem.Str → Option Value) (s : Shared) (Q E : Value → Shared → Prop)
  (B : Below A₀ base [] h₀) (F : Fr h₀ L s.heap m) (X : (hd.heap_1 w.params).In h₀) (N : News h₀ L s.heap news) (T : Top hd.view_39 LO mean mg mb h₀) (hk : cs.kind = .function)
  (hd : dp + 8 < recursionLimit) (hu : un + 8 * 16 < cLine)
  (XB : (Mine.hd.heap_1 w.params).In base) (TB : Top Mine.hd.view_39 LO mean mg mb base)
  (hret : ∀ r news' h' tk', Fr h₀ L h' m → News h₀ L h' news' → RRun ns r news' → Q r { s with heap := h', toks := tk' }) :
  wpC (model PR w) (ktrTop dp un gd cn cs L a ccd [] []) (call (.ref 271) [.ref nu]) Q E s := by
 (revert hnu hni hnl hnb B F X N T hk hd hu XB TB hret; revert w nu nvs nn ns news mean mg mb dp un gd cn cs a ccd A₀ base h₀ L m s Q E; fail "CLi"; rename_i w nu nvs nn ns news mean mg mb dp un gd cn cs a ccd A₀ base h₀ L m s Q E hnu hni hnl hnb B F X N T hk hd hu XB TB hret; fail "CLm")
 refine wpC_call ?_
 k_dflt (refine' code_defSC0C ?k1 ?k2 ?k3 ?k4 ?k5 ?kA ?k6 ?k7 ?k8 ?k9 ?kB ?kD ?_ ?kK ?c2 ?c3 ?c4; (case kA => exact rfl); (case kK => first | exact rfl | assumption); (case k1 => k_asm); (case k2 => k_asm); (case k3 => k_asm); (case k4 => k_asm); (case k5 => k_asm); (case k6 => k_is); (case k7 => k_is); (case k8 => ktr_room); (case k9 => first | exact BindsTo.of_eq rfl | exact binds_K (by k_in) rfl (by k_is) rfl rfl rfl); (case kB => exact rfl); (case kD => decide +kernel); (case c2 => exact rfl); (case c3 => exact rfl); (case c4 => exact rfl); k_whole; intro g' L' h' tk' cells' FG' F' N' Y' B' X' T' D' l1; (try have l1 := allLt_of l1); k_cells Y'; (try simp only [List.cons_append, List.nil_append] at N'); (try dsimp only); (try k_lift B'); (try k_fold))
 refine wpC_take 1 ?_
 dsimp only [List.take, List.drop]
 (rename_i zz0 zz1 zz2 zz3 zz4 zz5 zz6 zz7 zz8 zz9 zz10 zz11 zz12; revert FG' F' B' X' T' D' zz0 l1 zz7 zz8 zz9 zz10 zz11 zz12 N'; revert g' L' h' tk' zz1 zz2 zz3 zz4 zz5 zz6; fail "CLi"; rename_i g' L' h' tk' zz1 zz2 zz3 zz4 zz5 zz6 FG' F' B' X' T' D' zz0 l1 zz7 zz8 zz9 zz10 zz11 zz12 N'; fail "CLm")
 k_steps
 refine Au.mk 1 ?_
 (k_here; k_dflt (refine' headers_spc _ _ _ _ _ _ _ _ _ _ _ _ _ _ _ _ _ _ _ _ _ _ ?B ?F ?X ?N ?T ?ck ?dd ?uu ?_; (case B => k_asm); (case F => k_asm); (case X => k_asm); (case N => k_asm); (case T => k_asm); (case ck => first | exact rfl | assumption); (case dd => ktr_room); (case uu => ktr_units)); intro _ _ _ _ _ N9z e9z; obtain ⟨x0, d0, l0, y9z, z9z, e9z, e8z, j9z, j8z, j7z⟩ := e9z; (have e9z := e9z.symm; subst e9z); (have e8z := e8z.symm; subst e8z); (try k_lt j9z); (try k_lt2 j8z); (try k_lt2 j7z); (try dsimp only); (try k_fold))
 (rename_i zz0 zz1 zz2; revert zz2 e9z N9z e8z j9z j8z j7z; revert zz0 zz1 x0 d0 l0 y9z z9z; fail "CLi"; rename_i zz0 zz1 x0 d0 l0 y9z z9z zz2 e9z N9z e8z j9z j8z j7z; fail "CLm")
 k_steps
 refine Au.mk 1 ?_
 (k_here; k_dflt (refine' headers_spc _ _ _ _ _ _ _ _ _ _ _ _ _ _ _ _ _ _ _ _ _ _ ?B ?F ?X ?N ?T ?ck ?dd ?uu ?_; (case B => k_asm); (case F => k_asm); (case X => k_asm); (case N => k_asm); (case T => k_asm); (case ck => first | exact rfl | assumption); (case dd => ktr_room); (case uu => ktr_units)); intro _ _ _ _ _ N9z e9z; obtain ⟨x1, d1, l1, y9z, z9z, e9z, e8z, j9z, j8z, j7z⟩ := e9z; (have e9z := e9z.symm; subst e9z); (have e8z := e8z.symm; subst e8z); (try k_lt j9z); (try k_lt2 j8z); (try k_lt2 j7z); (try dsimp only); (try k_fold))
 (rename_i zz0 zz1 zz2; revert zz2 e9z N9z e8z j9z j8z j7z; revert zz0 zz1 x1 d1 l1 y9z z9z; fail "CLi"; rename_i zz0 zz1 x1 d1 l1 y9z z9z zz2 e9z N9z e8z j9z j8z j7z; fail "CLm")
 k_steps
 refine Au.mk 1 ?_
 (k_here; k_dflt (refine' headers_spc _ _ _ _ _ _ _ _ _ _ _ _ _ _ _ _ _ _ _ _ _ _ ?B ?F ?X ?N ?T ?ck ?dd ?uu ?_; (case B => k_asm); (case F => k_asm); (case X => k_asm); (case N => k_asm); (case T => k_asm); (case ck => first | exact rfl | assumption); (case dd => ktr_room); (case uu => ktr_units)); intro _ _ _ _ _ N9z e9z; obtain ⟨x2, d2, l2, y9z, z9z, e9z, e8z, j9z, j8z, j7z⟩ := e9z; (have e9z := e9z.symm; subst e9z); (have e8z := e8z.symm; subst e8z); (try k_lt j9z); (try k_lt2 j8z); (try k_lt2 j7z); (try dsimp only); (try k_fold))
 (rename_i zz0 zz1 zz2; revert zz2 e9z N9z e8z j9z j8z j7z; revert zz0 zz1 x2 d2 l2 y9z z9z; fail "CLi"; rename_i zz0 zz1 x2 d2 l2 y9z z9z zz2 e9z N9z e8z j9z j8z j7z; fail "CLm")
 k_steps
 rename News _ _ _ _ => N9
 obtain ⟨P, O, X, C, rfl, rfl, rfl, rfl⟩ := name4 N9
 (rename_i zz0 zz1 zz2 zz3 zz4 zz5 zz6; revert zz0 zz1 zz2 zz3 zz4 zz5 zz6 N9; revert P O X C; fail "CLi"; rename_i P O X C zz0 zz1 zz2 zz3 zz4 zz5 zz6 N9; fail "CLm")
 show wpC _ _ (execs _ _) _ _ _
 rename Fr _ _ _ _ => F9
 refine wpC_execs_cons (For_C F9 ?_)
 k_steps
 refine Hold.mk ?_
 rename IsRange _ _ _ _ _ _ _ _ => hr9
 rename Fr _ _ _ _ => F9
 rename News _ _ _ _ => N9
 refine run_iter (RunBF (Mine.hd.heap_1 w.params) Mine.hd.view_39 LO mean mg mb cn cs L a ccd (ktrTop dp un gd cn cs L a ccd [] []) base g') ns rfl hr9 F9 N9 ⟨rfl, rfl, rfl, rfl⟩ hnu ⟨KtsTurn.refl, by assumption, by assumption, by assumption, by assumption⟩ (by assumption) (by assumption) (by assumption) (by assumption) (by assumption) (by assumption) (by assumption) ⟨by omega, by assumption, by assumption⟩ ⟨by omega, by assumption, by assumption⟩ ⟨by omega, by assumption, by assumption⟩ ⟨by omega, by omega, by omega, by omega⟩ ?turn ?done
 case turn =>
  have hdu : dp + 8 < recursionLimit ∧ un + 8 * 16 < cLine := ⟨hd, hu⟩
  revert hdu
  clear F9 N9 hr9
  repeat (rename @LT.lt Nat _ _ _ ∧ _ => z9; clear z9)
  repeat (rename @LT.lt Nat _ _ _ => z9; clear z9)
  rintro ⟨hd, hu⟩ k g m₁ oY oW oS oK oP oH vY vW vS vK tH ps nP os nO xs nX CL R I t h tk hk6 hPI ⟨q1, q2, q3⟩ ⟨T0, BB, BX, BT, BD⟩ eY eW eS eK eP eH G1 G2 G3 G4 G5 F1 N1
  have hnm : (nu, listOf nvs.toArray nn) ∈ CL ++ R := List.mem_append_right _ G2.num
  (rename_i zz0 zz1 zz2 zz3 zz4 zz5; revert zz5 hd hu hk6 hPI q1 q2 q3 T0 BB BX BT BD eY eW eS eK eP eH G1 G2 G3 G4 G5 F1 N1 hnm; revert zz0 zz1 zz2 zz3 zz4 k g m₁ oY oW oS oK oP oH vY vW vS vK tH ps nP os nO xs nX CL R I t h tk; fail "CLi"; rename_i zz0 zz1 zz2 zz3 zz4 k g m₁ oY oW oS oK oP oH vY vW vS vK tH ps nP os nO xs nX CL R I t h tk zz5 hd hu hk6 hPI q1 q2 q3 T0 BB BX BT BD eY eW eS eK eP eH G1 G2 G3 G4 G5 F1 N1 hnm; fail "CLm")
  obtain ⟨f1, f2, f3, f4, f5, f6, f7, f8, f9⟩ := G4.all
  fail "CLn"
  k_steps
  refine wpC_take 3 ?_
  dsimp only [List.take, List.drop]
  (rename_i zz0 zz1 zz2 zz3 zz4; revert zz2 zz3 zz4; revert zz0 zz1; fail "CLi"; rename_i zz0 zz1 zz2 zz3 zz4; fail "CLm")
  (k_steps; repeat' (((with_reducible refine Au.mk 2 ?_); ((k_here; (with_reducible show wpAny _ _ (subscriptTail _ _ (Value.ref _) (Value.int (Nat.cast _) _)) _ _ _); k_dflt (refine' item_num ?N ?m ?i ?l ?k ?_; (case N => k_asm); (case m => k_mem); (case i => assumption); (case l => assumption); (case k => assumption)); intro tk9z; (try dsimp only)))) <;> k_steps))
  show wpC _ _ (execs _ _) _ _ _
  refine wpC_cut (RunMid (RunBF (Mine.hd.heap_1 w.params) Mine.hd.view_39 LO mean mg mb cn cs L a ccd (ktrTop dp un gd cn cs L a ccd [] []) base g') ns L' nu C X O P 0 nvs nn (pick3 x0 x1 x2) (pick3 d0 d1 d2) (pick3 l0 l1 l2) k I (itR ((k + 1 : Nat) : Int) ((6 : Nat) - ((k + 1 : Nat) : Int))) L' s) ?mid ?rest
  case mid =>
   have hs1 : 0 ≤ rSrc ns k := (rSrc_lo k).1
   fail "CLn"
   refine wpC_If (.of ?_)
   k_steps
   ·rename_i c1 c2
    have c1 : rSrc ns k < (k : Int) := c1
    have c2 : rWay ns k < 0 := c2
    fail "CLn"
    obtain ⟨q, us, nq, a1, a2, a3⟩ := G2.told (rSrc ns k).toNat (by (first | exact lin [_,_] [_] [(6,.v 0,.c (.v 0)),(8,.c (.v 1),.v 0)] (0,.v 1,.v 0) [1,1,1] [] rfl c1 (Int.toNat_of_nonneg (by exact lin [] [_] [(7,.n 0,.v 0)] (7,.n 0,.v 0) [1,1] [] rfl hs1)) | omega))
    have hol := G2.tl
    refine .of ?_
    (revert a1 a2 a3 hol; revert q us nq; fail "CLi"; rename_i q us nq a1 a2 a3 hol; fail "CLm")
    (k_steps; repeat' (((with_reducible refine Au.mk 2 ?_); ((k_here; (with_reducible show wpAny _ _ (subscriptTail _ _ (Value.ref _) (Value.int _ _)) _ _ _); refine Hold.un ?_))) <;> k_steps))
    refine Hold.mk ?_
    rename News _ _ _ _ => N9
    refine item_atM (k := (rSrc ns k).toNat) N9 (by k_mem) (show rSrc ns k = _ by (first | exact lin [_] [_] [(8,.c (.v 0),.v 0)] (8,.v 0,.c (.v 0)) [1,-1] [1,1] rfl (Int.toNat_of_nonneg (by exact lin [] [_] [(7,.n 0,.v 0)] (7,.n 0,.v 0) [1,1] [] rfl hs1)) | omega)) a1 (by (first | exact lin [_,_] [] [(0,.v 0,.n 6),(2,.v 1,.v 0)] (1,.v 1,.n 10000) [1,1,1] [] rfl hk6 hol | omega)) ?_
    k_steps
    rename News _ _ _ _ => N9
    exact mid_some ⟨T0, BB, BX, BT, BD⟩ (by k_asm) ⟨⟨_, rfl⟩, ⟨_, rfl⟩, rfl, rfl, rfl, rfl, rfl⟩ N9 eY (by assumption) (by assumption) (by assumption) eP eH G1 G2 G3 G4 G5 a2 a3 (by unfold rHear; rw [if_pos ⟨c1, c2⟩])
   ·rename_i c1 c2
    have c1 : rSrc ns k < (k : Int) := c1
    have c2 : ¬ rWay ns k < 0 := c2
    refine wpC_execs_cons (wpC_If (isTrueC_and (.of ?_)))
    fail "CLn"
    k_steps
    refine isTrueC_and (isTrueC_not (isTrueC_call (evalC_Call_Name ?_)))
    k_steps
    refine' callWithC_K ?X ?ho ?_
    case X => assumption
    case ho => k_is
    obtain ⟨ghs, gt, a1, a2⟩ := G3.2 (rSrc ns k).toNat (by (first | exact lin [_,_] [_] [(6,.v 0,.c (.v 0)),(8,.c (.v 1),.v 0)] (0,.v 1,.v 0) [1,1,1] [] rfl c1 (Int.toNat_of_nonneg (by exact lin [] [_] [(7,.n 0,.v 0)] (7,.n 0,.v 0) [1,1] [] rfl hs1)) | omega))
    have hol := G3.1
    (revert a1 a2 hol; revert ghs gt; fail "CLi"; rename_i ghs gt a1 a2 hol; fail "CLm")
    (k_steps; repeat' (((with_reducible refine Au.mk 2 ?_); ((k_here; (with_reducible show wpAny _ _ (subscriptTail _ _ (Value.ref _) (Value.int _ _)) _ _ _); refine Hold.un ?_))) <;> k_steps))
    ·refine Hold.mk ?_
     rename News _ _ _ _ => N9
     refine item_atM (k := (rSrc ns k).toNat) N9 (by k_mem) (show rSrc ns k = _ by (first | exact lin [_] [_] [(8,.c (.v 0),.v 0)] (8,.v 0,.c (.v 0)) [1,-1] [1,1] rfl (Int.toNat_of_nonneg (by exact lin [] [_] [(7,.n 0,.v 0)] (7,.n 0,.v 0) [1,1] [] rfl hs1)) | omega)) a1 (by (first | exact lin [_,_] [] [(0,.v 0,.n 6),(2,.v 1,.v 0)] (1,.v 1,.n 10000) [1,1,1] [] rfl hk6 hol | omega)) ?_
     k_steps
     ·rename Fr _ _ _ _ => F9
      exact F9.keep
     have hft := (rRun (ns := ns)).fit (by decide) (rSrc ns k).toNat (by omega)
     have hfm := fmod_hi (rRest2 ns k) (show (0 : Int) < 16 by decide)
     fail "CLn"
     obtain ⟨mk, odd, line, lines, hh, rr, cc, RO⟩ := ref_ok (way := rWay ns k) a2 (rT_drs _) (fun t ht => ⟨hft.pos t ht, by have := hft.top t ht; omega⟩) (by rw [rT_ev]; obtain ⟨_, _, _, e⟩ := event_last (rClk ns (rH ns (rSrc ns k).toNat) (rSrc ns k).toNat) (tAt (rT ns) (rHear ns (rSrc ns k).toNat)) (rH ns (rSrc ns k).toNat) (rDress ns (rSrc ns k).toNat); rw [e]; simp) hft.len (by (first | exact lin [] [_] [(9,.v 0,.n 0)] (7,.n 0,.v 0) [1,1] [] rfl c2 | omega)) (show (rRest2 ns k).fmod 16 - 9 < 7 by (first | exact lin [] [_] [(6,.v 0,.n 16)] (6,.s (.v 0) (.n 9),.n 7) [1,1] [] rfl hfm | omega))
     k_dflt (refine' refused_spc _ _ _ _ _ _ _ _ _ _ _ _ RO _ _ _ _ _ _ _ _ _ _ _ _ _ _ _ _ _ _ _ _ _ _ ?B ?F ?X ?N ?T ?ck ?dd ?uu ?XB ?TB ?D ?T0 ?_; (case B => k_asm); (case F => k_asm); (case X => k_asm); (case N => k_asm); (case T => k_asm); (case ck => first | exact rfl | assumption); (case dd => ktr_room); (case uu => ktr_units); (case XB => assumption); (case TB => assumption); (case D => assumption); (case T0 => assumption))
     intro g9 h9 tk9 T9 F9 N9 B9 X9 Y9 D9
     (revert RO T9 F9 N9 B9 X9 Y9 D9; revert mk odd line lines hh rr cc g9 h9 tk9; fail "CLi"; rename_i mk odd line lines hh rr cc g9 h9 tk9 RO T9 F9 N9 B9 X9 Y9 D9; fail "CLm")
     k_steps
     refine .of ?_
     k_steps
     show wpC _ _ (execs _ _) _ _ _
     refine .of ?_
     k_steps
     rename News _ _ _ _ => N9
     exact mid_none ⟨T9, B9, X9, Y9, D9⟩ (by k_asm) ⟨⟨_, rfl⟩, ⟨_, rfl⟩, rfl, rfl, rfl, rfl, rfl⟩ N9 (by assumption) eY (by assumption) (by assumption) (by assumption) eP eH G1 G2 G3 G4 G5 (by unfold rHear; rw [if_neg (fun z => c2 z.2)])
   ·rename_i c1
    have c1 : ¬ rSrc ns k < (k : Int) := c1
    refine wpC_execs_cons (wpC_If (isTrueC_and (.of ?_)))
    fail "CLn"
    k_steps
    refine .of ?_
    k_steps
    show wpC _ _ (execs _ _) _ _ _
    refine .of ?_
    k_steps
    rename News _ _ _ _ => N9
    exact mid_none ⟨T0, BB, BX, BT, BD⟩ (by k_asm) ⟨⟨_, rfl⟩, ⟨_, rfl⟩, rfl, rfl, rfl, rfl, rfl⟩ N9 (by assumption) eY (by assumption) (by assumption) (by assumption) eP eH G1 G2 G3 G4 G5 (by unfold rHear; rw [if_neg (fun z => c1 z.1)])
  case rest =>
   clear F1 N1
   repeat (rename @LT.lt Nat _ _ _ ∧ _ => z9; clear z9)
   clear hnm f1 f2 f3 f4 f5 f6 f7 f8 f9 G1 G2 G3 G4 G5 T0 BB BX BT BD eY eW eS eK eP eH
   intro s' hI9
   (revert hI9; revert s'; fail "CLi"; rename_i s' hI9; fail "CLm")
   obtain ⟨g, h, tk, m, oY, oW, oS, oK, oP, oH, vY, tW, tS, tK, tH, ps, nP, os, nO, xs, nX, CL, R, q, us, nq, rfl, ⟨T0, BB, BX, BT, BD⟩, F1, hm, N1, eY, eW, eS, eK, eP, eH, G1, G2, G3, G4, G5, hq, hT⟩ := hI9
   (revert T0 BB BX BT BD F1 hm N1 eY eW eS eK eP eH G1 G2 G3 G4 G5 hq hT; revert g h tk m oY oW oS oK oP oH vY tW tS tK tH ps nP os nO xs nX CL R q us nq; fail "CLi"; rename_i g h tk m oY oW oS oK oP oH vY tW tS tK tH ps nP os nO xs nX CL R q us nq T0 BB BX BT BD F1 hm N1 eY eW eS eK eP eH G1 G2 G3 G4 G5 hq hT; fail "CLm")
   obtain ⟨t1, t2, hm⟩ := hm.open_
   rw [hm] at F1
   clear hm
   have hclk : (C, listOf (List.toArray [Value.ref (pick3 x0 x1 x2 0), Value.ref (pick3 x0 x1 x2 1), Value.ref (pick3 x0 x1 x2 2)]) 0) ∈ CL ++ R := List.mem_append_right _ G2.clk
   (revert F1 hclk; revert t1 t2; fail "CLi"; rename_i t1 t2 F1 hclk; fail "CLm")
   obtain ⟨f1, f2, f3, f4, f5, f6, f7, f8, f9⟩ := G4.all
   have hh0 := (host_le (ns := ns) k).1
   have hh1 := (host_le (ns := ns) k).2
   have hhl := rHosts_len (ns := ns) k
   obtain ⟨i, hi⟩ : ∃ i, i = (rHost ns k).toNat := ⟨_, rfl⟩
   have hi3 : i < 3 := by (first | exact lin [_,_] [_] [(6,.v 0,.n 3),(2,.v 0,.v 1),(8,.c (.v 1),.v 0)] (0,.v 0,.n 3) [1,1,1,1] [] rfl hh1 hi (Int.toNat_of_nonneg (by exact lin [] [_] [(7,.n 0,.v 0)] (7,.n 0,.v 0) [1,1] [] rfl hh0)) | omega)
   have hii : rHost ns k = (i : Int) := by (first | exact lin [_,_] [_] [(2,.v 0,.v 1),(8,.c (.v 1),.v 0)] (8,.v 0,.c (.v 0)) [1,-1,-1] [1,1,1] rfl hi (Int.toNat_of_nonneg (by exact lin [] [_] [(7,.n 0,.v 0)] (7,.n 0,.v 0) [1,1] [] rfl hh0)) | omega)
   have hLt := rH_ltr (ns := ns) k
   have hLl := hLt.len
   have e1 : Txt.item (rHosts ns k ++ rH ns k) (k : Int) = rH ns k := item_app hhl hLl
   have hft := rClk_fit (ns := ns) (x := rH ns k) (k := k) (by (first | exact lin [_] [] [(0,.v 0,.n 6)] (1,.v 0,.n 6) [1,1] [] rfl hk6 | omega))
   have hhf := rHear_fit (ns := ns) (k := k) (by (first | exact lin [_] [] [(0,.v 0,.n 6)] (1,.v 0,.n 6) [1,1] [] rfl hk6 | omega))
   have hdr := dress_le hnb (k := k) (by (first | exact lin [_,_] [] [(2,.v 0,.n 6),(0,.v 1,.n 6)] (0,.v 1,.v 0) [1,-1,1] [] rfl hnl hk6 | omega))
   have ho1 := fmod_lo (k : Int) (show (0 : Int) < 2 by decide)
   have ho2 := fmod_hi (k : Int) (show (0 : Int) < 2 by decide)
   (revert f1 f2 f3 f4 f5 f6 f7 f8 f9 hh0 hh1 hhl hi hi3 hii hLt hLl e1 hft hhf hdr ho1 ho2; revert i; fail "CLi"; rename_i i f1 f2 f3 f4 f5 f6 f7 f8 f9 hh0 hh1 hhl hi hi3 hii hLt hLl e1 hft hhf hdr ho1 ho2; fail "CLm")
   refine .of ?_
   (k_steps; repeat' (((with_reducible refine Au.mk 2 ?_); ((k_here; (with_reducible show wpAny _ _ (subscriptTail _ _ (Value.ref _) (Value.int _ _)) _ _ _); refine Hold.un ?_))) <;> k_steps))
   refine Hold.mk ?_
   rename News _ _ _ _ => N9
   refine item_atM N9 (by k_mem) hii (pick_get hi3) (by simp) ?_
   k_steps
   have e2 : Txt.item (rHosts ns k ++ Txt.item (Str.ofString "abc") (rHost ns k)) (k : Int) = rH ns k := e1
   rw [e2]
   rename News _ _ _ _ => N9
   fail "CLn"
   obtain ⟨vs, n, hs, CL', N10, upR, m2, m3, m4, m5⟩ := G1.pickN N9 hi3 G4 G5
   clear N9
   have e3 : rClk ns (ltrI i) k = rClk ns (rH ns k) k := by rw [hi, ltrI_host]
   have m3 : Clk hs (rClk ns (rH ns k) k) := e3 ▸ m3
   have hfo := hft.fold _ hhf
   k_dflt (refine' event_spc w _ _ _ _ vs n hs (rClk ns (rH ns k) k) us nq (tAt (rT ns) (rHear ns k)) (rH ns k) _ _ _ _ _ _ R m4 upR m2 m3 (upR _ hq) (hT.mono upR) hhf.ok hLt hdr.1 hdr.2 ho1 (by (first | exact lin [] [_] [(6,.v 0,.n 2)] (7,.v 0,.n 1) [1,1] [] rfl ho2 | omega)) (by have := hft.len; (first | exact lin [_] [] [(1,.v 0,.n 3)] (1,.v 0,.n 10) [1,1] [] rfl this | omega)) (by have := hhf.len; (first | exact lin [_] [] [(1,.v 0,.n 3)] (1,.v 0,.n 10) [1,1] [] rfl this | omega)) (fun t ht => ⟨by have := hfo.pos t ht; (first | exact lin [] [_] [(7,.n 1,.v 0)] (7,.n 0,.v 0) [1,1] [] rfl this | omega), by have := hfo.top t ht; (first | exact lin [_] [_] [(0,.v 0,.n 6),(7,.v 0,.c (.v 0))] (7,.v 0,.n 6) [1,1,1] [] rfl hk6 this | omega)⟩) _ _ _ _ _ _ _ _ _ _ _ _ _ _ _ _ _ _ _ _ ?B ?F ?X ?N ?T ?ck ?dd ?uu ?_; (case B => k_asm); (case F => k_asm); (case X => k_asm); (case N => k_asm); (case T => k_asm); (case ck => first | exact rfl | assumption); (case dd => ktr_room); (case uu => ktr_units))
   intro r9 news9 h9 tk9 F9 N9 e9
   (rename_i zz0; revert N10 upR m2 zz0 m4 m5 e3 m3 hfo F9 N9 e9; revert vs n hs CL' r9 news9 h9 tk9; fail "CLi"; rename_i vs n hs CL' r9 news9 h9 tk9 N10 upR m2 zz0 m4 m5 e3 m3 hfo F9 N9 e9; fail "CLm")
   obtain ⟨e9, hs', ⟨vs', n', tl, e8, a1, a3⟩, a2⟩ := e9
   (have e9 := e9.symm; subst e9)
   (have e8 := e8.symm; subst e8)
   (revert a2 a1 a3 e9 N9 e8; revert hs' vs' n' tl; fail "CLi"; rename_i hs' vs' n' tl a2 a1 a3 e9 N9 e8; fail "CLm")
   obtain ⟨CL2, R2, N11, G1', up2, G4', G5'⟩ := m5 _ vs' n' hs' tl _ N9 a1 a2 a3
   clear N9 N10
   rw [← rT_ev] at a2 G1'
   have G1' := G1'.congr (cv' := fun j => rClk ns (ltrI j) (k + 1)) fun j hj => by rw [hi]; exact clk_step hj
   have G2' := G2.mono up2
   clear G1 G2 G4 G5 f1 f2 f3 f4 f5 f6 f7 f8 f9 m2 m3 m4 m5 upR hclk hq hT a1 a3
   have hclk : (C, listOf (List.toArray [Value.ref (pick3 x0 x1 x2 0), Value.ref (pick3 x0 x1 x2 1), Value.ref (pick3 x0 x1 x2 2)]) 0) ∈ CL2 ++ R2 := List.mem_append_right _ G2'.clk
   (rename_i zz0; revert N11 zz0 up2 G4' G5' G1' G2' hclk; revert CL2 R2; fail "CLi"; rename_i CL2 R2 N11 zz0 up2 G4' G5' G1' G2' hclk; fail "CLm")
   (k_steps; repeat' (((with_reducible refine Au.mk 2 ?_); ((k_here; (with_reducible show wpAny _ _ (subscriptTail _ _ (Value.ref _) (Value.int _ _)) _ _ _); refine Hold.un ?_))) <;> k_steps))
   refine Hold.mk ?_
   rename News _ _ _ _ => N9
   refine item_atM N9 (by k_mem) hii (pick_get hi3) (by simp) ?_
   obtain ⟨vs, n, hs, CL', N10, upR, m2, m3, m4, m5⟩ := G1'.pickN N9 hi3 G4' G5'
   clear N9
   have c1' := m4.inst
   (revert N10 upR m2 m3 m4 m5 c1'; revert vs n hs CL'; fail "CLi"; rename_i vs n hs CL' N10 upR m2 m3 m4 m5 c1'; fail "CLm")
   obtain ⟨hsh0, dtk0, c0'⟩ := m4.dict
   (revert c0'; revert hsh0 dtk0; fail "CLi"; rename_i hsh0 dtk0 c0'; fail "CLm")
   k_steps
   refine Hold.mk ?_
   k_dflt (refine' kso_call ?k1 ?k2 ?k3 ?k4 ?k5 ?_; (case k1 => ktr_units); (case k2 => exact Frag.In.keeps BX (Fr.keep (by k_asm))); (case k3 => k_inst); (case k4 => k_is); (case k5 => k_is))
   (try dsimp only); (try k_fold)
   have hft2 := (rRun (ns := ns)).fit (by decide) k hk6
   have hcl := hstr_len m3.short (by rw [m3.length, ← clk_step hi3, if_pos hi]; exact hft2.len)
   k_dflt (refine' hstr_spc w _ _ _ vs n hs _ m4 R2 upR m2 m3.short (by rw [m3.length, ← clk_step hi3, if_pos hi]; have := hft2.len; (first | exact lin [_] [] [(1,.v 0,.n 3)] (1,.v 0,.n 10) [1,1] [] rfl this | omega)) _ _ _ _ _ _ _ _ _ _ _ _ _ _ _ _ _ _ _ _ ?B ?F ?X ?N ?T ?ck ?dd ?uu ?_; (case B => k_asm); (case F => k_asm); (case X => k_asm); (case N => k_asm); (case T => k_asm); (case ck => first | exact rfl | assumption); (case dd => ktr_room); (case uu => ktr_units))
   intro r9 news9 h9 tk9 F9 N9 e9
   (revert hft2 hcl F9 N9 e9; revert r9 news9 h9 tk9; fail "CLi"; rename_i r9 news9 h9 tk9 hft2 hcl F9 N9 e9; fail "CLm")
   obtain ⟨⟨t9, e9⟩, e8⟩ := e9
   (have e9 := e9.symm; subst e9)
   (have e8 := e8.symm; subst e8)
   (revert e9 N9 e8; revert t9; fail "CLi"; rename_i t9 e9 N9 e8; fail "CLm")
   obtain ⟨CL3, R3, N11, G1, up3, G4, G5⟩ := m5 _ vs n hs [] _ N9 m2 m3 (fun _ h => nomatch h)
   clear N9 N10
   have G1 := G1.congr (cv' := fun j => rClk ns (ltrI j) (k + 1)) fun j hj => by by_cases z : j = i <;> simp only [z, if_true, if_false]
   have G2 := G2'.mono up3
   have m3 : Clk hs (rT ns k) := by rw [← clk_step hi3, if_pos hi] at m3; exact m3
   clear G1' G2' G4' G5' m2 m4 m5 upR hclk c1' c0'
   have hxl := G3.1
   have hol := G2.tl
   have hpl := G2.pl
   (rename_i zz0; revert N11 zz0 up3 G4 G5 G1 G2 m3 hxl hol hpl; revert CL3 R3; fail "CLi"; rename_i CL3 R3 N11 zz0 up3 G4 G5 G1 G2 m3 hxl hol hpl; fail "CLm")
   obtain ⟨f1, f2, f3, f4, f5, f6, f7, f8, f9⟩ := G4.all
   fail "CLn"
   show StrBack _ _ _
   unfold StrBack
   (try dsimp only)
   (k_steps; repeat' (((with_reducible refine Au.mk 2 ?_); ((k_here; (with_reducible show wpAny _ _ (subscriptTail _ _ (Value.ref _) (Value.int _ _)) _ _ _); refine Hold.un ?_))) <;> k_steps))
   refine Hold.mk ?_
   rename News _ _ _ _ => N9
   simp only [List.push_toArray] at N9
   refine item_atM (vs := xs ++ [Value.str (hstr hs) t9]) (k := k) (v := Value.str (hstr hs) t9) N9 (by k_mem) rfl (by rw [List.getElem?_append_right (by (first | exact lin [_,_] [] [(2,.v 0,.v 1)] (1,.v 0,.v 1) [1,1] [] rfl hxl | omega)), hxl, Nat.sub_self]; rfl) (by rw [List.length_append, hxl]; show k + 1 ≤ 10000; (first | exact lin [_] [] [(0,.v 0,.n 6)] (1,.a (.v 0) (.n 1),.n 10000) [1,1] [] rfl hk6 | omega)) ?_
   fail "CLn"
   k_steps
   have hml : hs.length ≤ 3 := by rw [m3.length]; exact hft2.len
   k_dflt (refine' heard_spc w (hstr hs) _ (hs.map hline) _ _ _ (by (first | exact lin [_] [] [(1,.v 0,.n 1000)] (1,.v 0,.n 3000) [1,1] [] rfl hcl | omega)) m3.split (by rw [List.length_map]; (first | exact lin [_] [] [(1,.v 0,.n 3)] (1,.v 0,.n 10) [1,1] [] rfl hml | omega)) _ m3.lines _ _ _ _ _ _ _ _ _ _ _ _ _ _ _ _ _ _ _ _ ?B ?F ?X ?N ?T ?ck ?dd ?uu ?_; (case B => k_asm); (case F => k_asm); (case X => k_asm); (case N => k_asm); (case T => k_asm); (case ck => first | exact rfl | assumption); (case dd => ktr_room); (case uu => ktr_units))
   intro r9 news9 h9 tk9 F9 N9 e9
   (revert hml F9 N9 e9; revert r9 news9 h9 tk9; fail "CLi"; rename_i r9 news9 h9 tk9 hml F9 N9 e9; fail "CLm")
   obtain ⟨D, us2, kk, tl, e9, e8, hT2, hlt2, hno2⟩ := e9
   (have e9 := e9.symm; subst e9)
   (have e8 := e8.symm; subst e8)
   (revert hT2 hlt2 hno2 e9 N9 e8; revert D us2 kk tl; fail "CLi"; rename_i D us2 kk tl hT2 hlt2 hno2 e9 N9 e8; fail "CLm")
   obtain ⟨N12, G1', G4', G5'⟩ := run_grow (tl := (D, listOf (List.toArray us2) kk) :: tl) G1 N9 hlt2 G4 G5
   have G2' := G2.mono fun p hp => List.mem_append_right ((D, listOf (List.toArray us2) kk) :: tl) hp
   have hD2 : (D, listOf (List.toArray us2) kk) ∈ ((D, listOf (List.toArray us2) kk) :: tl) ++ R3 := .head _
   have hT3 : ToldIn (((D, listOf (List.toArray us2) kk) :: tl) ++ R3) us2 (rT ns k) := hT2.mono fun p hp => List.mem_append_left R3 (List.mem_cons_of_mem (D, listOf (List.toArray us2) kk) hp)
   have G3' := G3.add (t := t9) m3
   clear N9 hT2 hlt2 hno2 G1 G2 G4 G5 f1 f2 f3 f4 f5 f6 f7 f8 f9 m3
   revert N12 G1' G2' G4' G5' hD2 hT3
   generalize ((D, listOf (List.toArray us2) kk) :: tl) ++ R3 = R4
   intro N12 G1 G4 G5 G2 hD2 hT3
   (revert G3' N12 G1 G4 G5 G2 hD2 hT3; revert R4; fail "CLi"; rename_i R4 G3' N12 G1 G4 G5 G2 hD2 hT3; fail "CLm")
   obtain ⟨f1, f2, f3, f4, f5, f6, f7, f8, f9⟩ := G4.all
   fail "CLn"
   k_steps
   refine Hold.mk ?_
   k_dflt (refine LCt.ListComp_T (F₀ := by k_asm) (by with_unfolding_all rfl) (by decide) (by rfl) (by decide) (by rfl) ?_)
   k_steps
   refine Hold.mk ?_
   k_dflt (refine LCt.CompSrcT.range (n := k) (by rfl) (by k_asm) (by k_asm) (by assumption) (small_one (by decide) (by decide) (by (first | exact lin [_] [] [] (7,.g (.n 4611686018427387904),.c (.v 0)) [1] [] rfl | omega)) (by (first | exact lin [_] [] [(0,.v 0,.n 6)] (6,.c (.v 0),.n 4611686018427387904) [1,1] [] rfl hk6 | omega))) (rangeSize_nat _ _) (by rw [sizeLine_eq]; (first | exact lin [_] [] [(0,.v 0,.n 6)] (1,.v 0,.n 16777216) [1,1] [] rfl hk6 | omega)) ?_)
   intro g9
   refine crK_T (fun i ys => IntsAre ys (wayL ns k i)) ?turn .nil ?fin
   case turn =>
    rintro i' ys v I' oI C' oC D' m9 h9 tk9 E9 hi9 ⟨tv, rfl⟩ hJ hC hx9 F9 N9 off ne
    have e10 : Txt.item (rHosts ns k ++ Txt.item (Str.ofString "abc") (rHost ns k)) (i' : Int) = rH ns i' := item_hosts (n := k + 1) (by (first | exact lin [_,_] [] [(0,.v 0,.v 1)] (0,.v 0,.a (.v 1) (.n 1)) [1,1] [] rfl hi9 | omega))
    (rename_i zz0 zz1 zz2 zz3 zz4 zz5 zz6 zz7 zz8; revert zz5 zz6 zz7 zz8 hi9 hJ hC hx9 F9 N9 off ne e10; revert zz0 zz1 zz2 zz3 zz4 g9 i' ys I' oI C' oC D' m9 h9 tk9 E9 tv; fail "CLi"; rename_i zz0 zz1 zz2 zz3 zz4 g9 i' ys I' oI C' oC D' m9 h9 tk9 E9 tv zz5 zz6 zz7 zz8 hi9 hJ hC hx9 F9 N9 off ne e10; fail "CLm")
    k_steps
    ·rename_i e
     rw [Int.zero_add, e10, e2] at e
     exact LCg.CompEnd.intro (by k_asm) (by k_asm) _ (fun p hp => hp) off trivial ⟨rfl, way_yes (Int.zero_add _) (wayB_eq e) hJ⟩
    ·rename_i e c1 c2
     exact LCg.CompEnd.intro (by k_asm) (by k_asm) _ (fun p hp => hp) off trivial ⟨rfl, way_yes (Int.zero_add _) (wayB_src hi9 (by (first | exact lin [_] [_] [(8,.a (.n 0) (.c (.v 0)),.v 0)] (8,.v 0,.c (.v 0)) [1,-1] [1,1] rfl c1 | omega)) c2) hJ⟩
    ·rename_i e c1 c2
     rw [Int.zero_add, e10, e2] at e
     exact LCg.CompEnd.intro (by k_asm) (by k_asm) _ (fun p hp => hp) off trivial ⟨rfl, way_no (wayB_no (by rw [e]; decide) (.inr c2)) hJ⟩
    ·rename_i e c1
     rw [Int.zero_add, e10, e2] at e
     exact LCg.CompEnd.intro (by k_asm) (by k_asm) _ (fun p hp => hp) off trivial ⟨rfl, way_no (wayB_no (by rw [e]; decide) (.inl (by (first | exact (Int.lt_or_gt_of_ne c1).elim (fun q0 => lin [_] [_] [(6,.a (.n 0) (.c (.v 0)),.v 0)] (11,.v 0,.c (.v 0)) [1,1] [] rfl q0) fun q0 => lin [_] [_] [(6,.v 0,.a (.n 0) (.c (.v 0)))] (11,.v 0,.c (.v 0)) [-1,1] [] rfl q0 | omega)))) hJ⟩
   case fin =>
    intro ys hJ
    (rename_i zz0 zz1 zz2 zz3 zz4 zz5 zz6 zz7 zz8; revert zz5 zz6 zz7 zz8 hJ; revert zz0 zz1 zz2 zz3 zz4 g9 ys; fail "CLi"; rename_i zz0 zz1 zz2 zz3 zz4 g9 ys zz5 zz6 zz7 zz8 hJ; fail "CLm")
    k_steps
    refine Hold.mk ?_
    k_dflt (refine ListComp_C (by k_asm) (by with_unfolding_all rfl) (fun _ => rfl) (fun _ => rfl) (by rfl) (by decide) (fun _ _ => rfl) ?_)
    k_steps
    refine Hold.mk ?_
    refine ⟨_, _, _, _, k, _, fun i ys => IntsAre ys (preL ns k i), rfl, rfl, by k_asm, by k_asm, by assumption, small_one (by decide) (by decide) (by (first | exact lin [_] [] [] (7,.g (.n 4611686018427387904),.c (.v 0)) [1] [] rfl | omega)) (by (first | exact lin [_] [] [(0,.v 0,.n 6)] (6,.c (.v 0),.n 4611686018427387904) [1,1] [] rfl hk6 | omega)), rangeSize_nat _ _, (by rw [sizeLine_eq]; (first | exact lin [_] [] [(0,.v 0,.n 6)] (1,.v 0,.n 16777216) [1,1] [] rfl hk6 | omega)), .nil, ?turn2, ?fin2⟩
    case turn2 =>
     intro g9 i zs I9 oI9 C9 oC9 cc9 oc9 D9 hh9 tk9 t9 E9 hi9 hJ2 hoc9 F9 N9 hlt9 ho9
     (rename_i zz0 zz1 zz2 zz3 zz4 zz5 zz6 zz7 zz8; revert zz5 zz6 zz7 zz8 hi9 hJ2 hoc9 F9 N9 hlt9 ho9; revert zz0 zz1 zz2 zz3 zz4 g9 i zs I9 oI9 C9 oC9 cc9 oc9 D9 hh9 tk9 t9 E9; fail "CLi"; rename_i zz0 zz1 zz2 zz3 zz4 g9 i zs I9 oI9 C9 oC9 cc9 oc9 D9 hh9 tk9 t9 E9 zz5 zz6 zz7 zz8 hi9 hJ2 hoc9 F9 N9 hlt9 ho9; fail "CLm")
     obtain ⟨o1, o2, o3⟩ := ho9
     fail "CLn"
     k_steps
     refine Hold.mk ?_
     k_dflt (refine LCt.ListComp_T (F₀ := by k_asm) (by with_unfolding_all rfl) (by decide) (by rfl) (by decide) (by rfl) ?_)
     k_steps
     refine Hold.mk ?_
     have hwl : ys.length = (wayL ns k k).length := hJ.length
     have hwk := way_len ns k k
     refine LCt.CompSrcT.ledger (its := ys.toArray) (k := ys.length) (by rfl) (by k_asm) (by k_asm) (.tail _ (.tail _ (.tail _ (.tail _ (.head _))))) (by rw [sizeLine_eq, List.size_toArray]; (first | exact lin [_,_,_] [] [(0,.v 0,.n 6),(2,.v 1,.v 2),(1,.v 2,.v 0)] (1,.v 1,.n 16777216) [1,1,1,1] [] rfl hk6 hwl hwk | omega)) ?_
     intro g8
     refine crK_T (fun j zs2 => IntsAre zs2 (seeL ns k i j)) ?turn3 .nil ?fin3
     case turn3 =>
      intro j zs2 v I2 oI2 C2 oC2 D2 m9 h8 tk8 E8 hj8 hv8 hJ3 hC8 hx8 F8 N8 off8 ne8
      (revert hwl hwk hj8 hv8 hJ3 hC8 hx8 F8 N8 off8 ne8; revert g8 j zs2 v I2 oI2 C2 oC2 D2 m9 h8 tk8 E8; fail "CLi"; rename_i g8 j zs2 v I2 oI2 C2 oC2 D2 m9 h8 tk8 E8 hwl hwk hj8 hv8 hJ3 hC8 hx8 F8 N8 off8 ne8; fail "CLm")
      obtain ⟨z, t8, rfl, hz8⟩ := ints_getM hJ (show ys[j]? = some v by simpa using hv8)
      (revert hz8 hv8 hx8; revert z t8; fail "CLi"; rename_i z t8 hz8 hv8 hx8; fail "CLm")
      obtain ⟨jn, rfl, hjk⟩ := wayL_get hz8
      (revert hjk hz8 hv8 hx8; revert jn; fail "CLi"; rename_i jn hjk hz8 hv8 hx8; fail "CLm")
      obtain ⟨q8, us8, n8, a1, a2, a3⟩ := G2.past jn hjk
      have a4 : (q8, listOf (List.toArray us8) n8) ∈ CL3 ++ R4 := List.mem_append_right _ a2
      have a5 := G2.pl
      (revert a1 a2 a3 a4 a5; revert q8 us8 n8; fail "CLi"; rename_i q8 us8 n8 a1 a2 a3 a4 a5; fail "CLm")
      (k_steps; repeat' (((with_reducible refine Au.mk 2 ?_); ((k_here; (with_reducible show wpAny _ _ (subscriptTail _ _ (Value.ref _) (Value.int _ _)) _ _ _); refine Hold.un ?_))) <;> k_steps))
      refine Hold.mk ?_
      rename News _ _ _ _ => N8
      refine item_atM (k := jn) N8 (by k_mem) rfl a1 (by (first | exact lin [_,_] [] [(0,.v 0,.n 6),(2,.v 1,.v 0)] (1,.v 1,.n 10000) [1,1,1] [] rfl hk6 hpl | omega)) ?_
      k_steps
      refine Hold.mk ?_
      rename News _ _ _ _ => N8
      refine in_list_ints (isl_of n8 (N8 (q8, listOf (List.toArray us8) n8) (by k_mem)).1) a3 ?_
      rw [past_mem]
      k_steps
      ·exact LCg.CompEnd.intro (by k_asm) (by k_asm) _ (fun p hp => hp) off8 (.inr ⟨_, .tail _ (.tail _ (.tail _ (.tail _ (.head _)))), rfl, _, rfl⟩) ⟨rfl, see_yes hz8 (by have e9 : rP ns i jn = true := (by assumption); exact e9) hJ3⟩
      ·exact LCg.CompEnd.intro (by k_asm) (by k_asm) _ (fun p hp => hp) off8 (.inr ⟨_, .tail _ (.tail _ (.tail _ (.tail _ (.head _)))), rfl, _, rfl⟩) ⟨rfl, see_no hz8 (by have e9 : rP ns i jn = false := (by assumption); exact fun q9 => Bool.noConfusion (e9.symm.trans q9)) hJ3⟩
     case fin3 =>
      intro zs2 hJ3
      (revert hwl hwk hJ3; revert g8 zs2; fail "CLi"; rename_i g8 zs2 hwl hwk hJ3; fail "CLm")
      k_steps
      refine Hold.mk ?_
      rename News _ _ _ _ => N8
      refine ne_intsK (isl_of zs2.length (news_2of N8)) hJ3 (isl_of (vs := []) 0 (news_1of N8)) .nil (by first | ktr_units | units_room | k_units) ?_
      rw [show ys.toArray.size = (wayL ns k k).length by rw [List.size_toArray]; exact hwl, see_all hi9]
      (rename_i zz0 zz1 zz2 zz3 zz4 zz5 zz6 zz7; revert zz3 zz6 N8 zz7; revert zz0 zz1 zz2 zz4 zz5; fail "CLi"; rename_i zz0 zz1 zz2 zz4 zz5 zz3 zz6 N8 zz7; fail "CLm")
      k_steps
      ·rename Fr _ _ _ _ => F7
       rename News _ _ _ _ => N7
       exact ⟨_, _, rfl, F7, fun p hp => N7 p (.tail _ (.tail _ hp)), pre_yes (by assumption) hJ2⟩
      ·rename Fr _ _ _ _ => F7
       rename News _ _ _ _ => N7
       exact ⟨_, _, rfl, F7, fun p hp => N7 p (.tail _ (.tail _ hp)), pre_no (by have e9 : rP ns i k = false := (by assumption); exact fun q9 => Bool.noConfusion (e9.symm.trans q9)) hJ2⟩
    case fin2 =>
     intro zs D9 hh9 tk9 hJ2 F9 N9 hlt9
     have l9 := allLt_of hlt9
     (rename_i zz0 zz1 zz2 zz3 zz4 zz5 zz6 zz7 zz8; revert zz5 zz6 zz7 zz8 hJ2 F9 N9 hlt9 l9; revert zz0 zz1 zz2 zz3 zz4 zs D9 hh9 tk9; fail "CLi"; rename_i zz0 zz1 zz2 zz3 zz4 zs D9 hh9 tk9 zz5 zz6 zz7 zz8 hJ2 F9 N9 hlt9 l9; fail "CLm")
     k_steps
     refine Hold.mk ?_
     rename Fr _ _ _ _ => F8
     rename News _ _ _ _ => N8
     refine addL_K (vs := zs) (n := zs.length) (ws := [_]) F8 N8 (.tail _ (.head _)) (.head _) (by rw [hJ2.length]; have := pre_len ns k k; simp; (first | exact lin [_,_] [] [(0,.v 0,.n 6),(1,.v 1,.v 0)] (1,.v 1,.n 99999) [1,1,1] [] rfl hk6 this | omega)) ?_
     intro D8 h8 F8' N8' hlt8
     simp only [List.push_toArray] at N8' hlt8
     have N7 := news_skip3 N8'
     have hlt7 := lt_skip3 (p := (D8, listOf (List.toArray (zs ++ [Value.int (k : Int) tK])) 0)) rfl hlt8
     clear F8 N8 N8' hlt8 hlt9 l9
     have G2' := G2.addTold hD2 hT3
     clear G2
     (rename_i zz0 zz1 zz2; revert zz2 F8' N7 hlt7 G2'; revert zz0 zz1 D8 h8; fail "CLi"; rename_i zz0 zz1 D8 h8 zz2 F8' N7 hlt7 G2'; fail "CLm")
     obtain ⟨N12, G1', G4', G5'⟩ := run_grow G1 N7 hlt7 G4 G5
     have G2 := (G2'.mono fun p hp => List.mem_append_right [(D8, listOf (List.toArray (zs ++ [Value.int (k : Int) tK])) 0)] hp).addPast (.head _) (pastL_eq ns k ▸ hJ2.append (.cons _ _ .nil))
     clear N7 hlt7 f1 f2 f3 f4 f5 f6 f7 f8 f9 G1 G4 G5 G2'
     fail "CLn"
     obtain ⟨f1, f2, f3, f4, f5, f6, f7, f8, f9⟩ := G4'.all
     fail "CLn"
     k_steps
     rename Fr _ _ _ _ => F8
     rename News _ _ _ _ => N8
     simp only [List.push_toArray] at N8
     rename _ = Data.cell (some (Value.str (rHosts ns k ++ _) _)) => eH9
     rename _ = Data.cell (some (Value.ref _)) => eY9
     exact ⟨g, _, _, _, _, rfl, F8, N8, led_ne ⟨q1, q2, q3⟩ hPI G5', ⟨T0, BB, BX, BT, BD⟩, ⟨rfl, rfl, rfl, rfl⟩, _, _, _, _, _, _, _, _, _, _, _, _, _, _, rfl, ⟨_, eY9⟩, ⟨_, eW⟩, ⟨_, eS⟩, ⟨_, eK⟩, ⟨_, eH9⟩, eP, G1', G2, G3', G4'⟩
 case done =>
  clear F9 N9 hr9
  intro g m₁ oY oW oS oK oP oH tH ps nP os nO xs nX CL R h tk hBF eP eH G2 F1 N1
  (rename_i zz0 zz1 zz2 zz3 zz4 zz5; revert zz5 hBF eP eH G2 F1 N1; revert zz0 zz1 zz2 zz3 zz4 g m₁ oY oW oS oK oP oH tH ps nP os nO xs nX CL R h tk; fail "CLi"; rename_i zz0 zz1 zz2 zz3 zz4 g m₁ oY oW oS oK oP oH tH ps nP os nO xs nX CL R h tk zz5 hBF eP eH G2 F1 N1; fail "CLm")
  obtain ⟨T0, BB, BX, BT, BD⟩ := hBF
  refine .of ?_
  fail "CLn"
  k_steps
  rename Fr _ _ _ _ => F8
  rename News _ _ _ _ => N8
  exact hret _ _ _ _ F8 N8 (run_back G2)
end Mine
end
section
open PySem PySem.W PySem.Spec PySem.Calls PyProof.Rows
namespace Mine
section
variable {prog : Program} {w : World} {A : Around} {E : Value → Shared → Prop} {R : Result → Shared → Prop} {s : Shared}
noncomputable abbrev comp2 (elt tgt1 iter1 tgt2 iter2 ct : PySem.Expr) (scope : Scope) (pos : PySem.Pos) : PySem.Expr := .ListComp elt [⟨tgt1, iter1, [], 0⟩, ⟨tgt2, iter2, [ct], 0⟩] scope pos
theorem turn2_0 (elt tgt1 iter1 tgt2 iter2 ct : PySem.Expr) (scope : Scope) (pos : PySem.Pos) (it acc : Value) (env : Env) :
  compTurn (comp2 elt tgt1 iter1 tgt2 iter2 ct scope pos) 0 it acc env = (do
   standAt iter1.pos
   match ← pyNext it with
   | none => pure (.done .next)
   | some v =>
    letOwnedTupleGo tgt1 it v
    assign tgt1 env v
    let x ← eval iter2 env
    standAt iter2.pos
    let x ← foldedSetIterable iter2 env x
    let _ ← runOwn (.compStart (comp2 elt tgt1 iter1 tgt2 iter2 ct scope pos) 1 (← holding [x] (pyIter x)) acc env) env
    again (.compLoop (comp2 elt tgt1 iter1 tgt2 iter2 ct scope pos) 0 it acc env)) := by rfl
theorem turn2_1 (elt tgt1 iter1 tgt2 iter2 ct : PySem.Expr) (scope : Scope) (pos : PySem.Pos) (it acc : Value) (env : Env) :
  compTurn (comp2 elt tgt1 iter1 tgt2 iter2 ct scope pos) 1 it acc env = (do
   standAt iter2.pos
   match ← pyNext it with
   | none => pure (.done .next)
   | some v =>
    letOwnedTupleGo tgt2 it v
    assign tgt2 env v
    let mut ok := true
    for c in [ct] do
     if ok then ok ← isTrue c env (eval c env)
    if ok then
     (do let _ ← call (.builtin "list.append") [acc, ← eval elt env])
    again (.compLoop (comp2 elt tgt1 iter1 tgt2 iter2 ct scope pos) 1 it acc env)) := by rfl
theorem loop2_1 {elt tgt1 iter1 tgt2 iter2 ct : PySem.Expr} {scope : Scope} {pos : PySem.Pos} {it acc : Value} {env : Env} (I : Nat → Shared → Prop)
  (turn : ∀ n s, I n s → wpAny (model prog w) A (pyNext it) (fun r s₁ => match r with
   | none => R (.ok .next) s₁
   | some v => wpAny (model prog w) A (letOwnedTupleGo tgt2 it v) (fun _ s₁' => wpAny (model prog w) A (assign tgt2 env v) (fun _ s₂ =>
     wpAny (model prog w) A (isTrue ct env (eval ct env)) (fun ok s₃ =>
      if ok = true then wpAny (model prog w) A (eval elt env) (fun x s₄ =>
       wpAny (model prog w) A (call (.builtin "list.append") [acc, x]) (fun _ s₅ => ∃ m, m < n ∧ I m s₅) (notedBy (model prog w) A env fun e s' => R (.error e) s') s₄) (notedBy (model prog w) A env fun e s' => R (.error e) s') s₃
      else ∃ m, m < n ∧ I m s₃) (notedBy (model prog w) A env fun e s' => R (.error e) s') s₂) (notedBy (model prog w) A env fun e s' => R (.error e) s') s₁') (notedBy (model prog w) A env fun e s' => R (.error e) s') s₁) (notedBy (model prog w) A env fun e s' => R (.error e) s') s)
  (n : Nat) (h : I n s) : codeAny (model prog w) A (.compLoop (comp2 elt tgt1 iter1 tgt2 iter2 ct scope pos) 1 it acc env) R s := by
 refine codeAny_loop rfl I (fun n s hI => ?_) n h
 show wpAny _ A ((compTurn (comp2 elt tgt1 iter1 tgt2 iter2 ct scope pos) 1 it acc env).onRaise (fun x => do noteFrame x env; theTreesLotGoes x)) _ _ s
 refine wpAny_noted ?_
 rw [turn2_1]
 refine wpAny_bind (wpAny_standAt (wpAny_bind (wpAny_mono (turn n s hI) (fun r s₁ h₁ => ?_) fun _ _ h' => h')))
 cases r with
 | none => exact wpAny_pure h₁
 | some v =>
  refine wpAny_bind (wpAny_mono h₁ (fun _ s₁' h₁' => wpAny_bind (wpAny_mono h₁' (fun _ s₂ h₂ => wpAny_bind (wpAny_mono (wpAny_tests_one h₂) (fun ok s₃ h₃ => ?_) fun _ _ h' => h')) fun _ _ h' => h')) fun _ _ h' => h')
  cases ok with
  | false => exact wpAny_pure ⟨rfl, h₃⟩
  | true => exact wpAny_bind (wpAny_bind (wpAny_mono h₃ (fun x s₄ h₄ => wpAny_bind (wpAny_mono h₄ (fun _ s₅ h₅ => wpAny_pure (wpAny_pure ⟨rfl, h₅⟩)) fun _ _ h' => h')) fun _ _ h' => h'))
theorem start2_1 {elt tgt1 iter1 tgt2 iter2 ct : PySem.Expr} {scope : Scope} {pos : PySem.Pos} {it acc : Value} {env : Env}
  (h0 : codeAny (model prog w) A (.compLoop (comp2 elt tgt1 iter1 tgt2 iter2 ct scope pos) 1 it acc env) R s)
  (h : wpAny (model prog w) A (pyIter it) (fun it' s' => codeAny (model prog w) A (.compLoop (comp2 elt tgt1 iter1 tgt2 iter2 ct scope pos) 1 it' acc env) R s')
   (notedBy (model prog w) A env fun x s' => R (.error x) s') s) :
  codeAny (model prog w) A (.compStart (comp2 elt tgt1 iter1 tgt2 iter2 ct scope pos) 1 it acc env) R s := by
 refine codeAny_of_tree ?_
 show wpAny _ _ ((compStart (comp2 elt tgt1 iter1 tgt2 iter2 ct scope pos) 1 it acc env).onRaise (fun x => do noteFrame x env; standAt theWindowsPlace)) _ _ s
 refine wpAny_notedAt ?_
 unfold compStart
 show wpAny _ _ (ask >>= _) _ _ s
 refine wpAny_bind (wpAny_askSetting (wpAny_ite ?_))
 split
 ·first
   | exact wpAny_bind (wpAny_pure (wpAny_pure (And.intro rfl h0)))
   | exact wpAny_pure (And.intro rfl h0)
 ·first
   | exact wpAny_bind (wpAny_rule (wpAny_bind (wpAny_standAt (wpAny_bind (wpAny_mono h (fun it' s' h' => wpAny_pure (And.intro rfl h')) fun _ _ x => x)))))
   | (refine wpAny_bind (wpAny_rule ?_); show wpAny _ _ (standAt iter2.pos >>= _) _ _ s; exact wpAny_bind (wpAny_standAt (wpAny_bind (wpAny_mono h (fun it' s' h' => wpAny_pure (And.intro rfl h')) fun _ _ x => x))))
theorem loop2_0 {elt tgt1 iter1 tgt2 iter2 ct : PySem.Expr} {scope : Scope} {pos : PySem.Pos} {it acc : Value} {env : Env} (I : Nat → Shared → Prop)
  (turn : ∀ n s, I n s → wpAny (model prog w) A (pyNext it) (fun r s₁ => match r with
   | none => R (.ok .next) s₁
   | some v => wpAny (model prog w) A (letOwnedTupleGo tgt1 it v) (fun _ s₁' => wpAny (model prog w) A (assign tgt1 env v) (fun _ s₂ =>
     wpAny (model prog w) A (eval iter2 env) (fun xv s₃ => wpAny (model prog w) A (pyIter xv) (fun it2 s₄ =>
      codeAny (model prog w) A (.compStart (comp2 elt tgt1 iter1 tgt2 iter2 ct scope pos) 1 it2 acc env) (fun r s' => match r with | .ok _ => ∃ m, m < n ∧ I m s' | .error e => cameBackBy (model prog w) A env (notedBy (model prog w) A env fun e s' => R (.error e) s') e s') s₄)
      (notedBy (model prog w) A env fun e s' => R (.error e) s') s₃) (notedBy (model prog w) A env fun e s' => R (.error e) s') s₂) (notedBy (model prog w) A env fun e s' => R (.error e) s') s₁') (notedBy (model prog w) A env fun e s' => R (.error e) s') s₁) (notedBy (model prog w) A env fun e s' => R (.error e) s') s)
  (n : Nat) (h : I n s) (hs : ∀ x, foldedSetIterable iter2 env x = pure x) : codeAny (model prog w) A (.compLoop (comp2 elt tgt1 iter1 tgt2 iter2 ct scope pos) 0 it acc env) R s := by
 refine codeAny_loop rfl I (fun n s hI => ?_) n h
 show wpAny _ A ((compTurn (comp2 elt tgt1 iter1 tgt2 iter2 ct scope pos) 0 it acc env).onRaise (fun x => do noteFrame x env; theTreesLotGoes x)) _ _ s
 refine wpAny_noted ?_
 rw [turn2_0]
 refine wpAny_bind (wpAny_standAt (wpAny_bind (wpAny_mono (turn n s hI) (fun r s₁ h₁ => ?_) fun _ _ h' => h')))
 cases r with
 | none => exact wpAny_pure h₁
 | some v =>
  refine wpAny_bind (wpAny_mono h₁ (fun _ s₁' h₁' => wpAny_bind (wpAny_mono h₁' (fun _ s₂ h₂ => wpAny_bind (wpAny_mono h₂ (fun xv s₃ h₃ => wpAny_bind (wpAny_standAt (wpAny_bind (wpAny_of_eq (hs xv) (wpAny_bind (wpAny_holding (wpAny_mono h₃ (fun it2 s₄ h₄ => ?_) fun _ _ h' => h'))))))) fun _ _ h' => h')) fun _ _ h' => h')) fun _ _ h' => h')
  refine wpAny_bind (wpAny_runOwn (codeAny_mono h₄ fun r s' hr => ?_))
  cases r with
  | ok f => exact wpAny_pure ⟨rfl, hr⟩
  | error e => exact hr
end
end Mine
end
section
open PySem PySem.W PySem.Spec PySem.Calls PyProof.Rows
namespace Mine
section
variable {prog : Program} {w : World} {A : Around} {E : Value → Shared → Prop} {s : Shared} {h₀ : Heap} {L : Addr} {m : PySem.Str → Option Value} {env : Env}
noncomputable def Src2 (prog : Program) (w : World) (A : Around) (h₀ : Heap) (L : Addr) (m : PySem.Str → Option Value) (env : Env) (ct elt iter2 : PySem.Expr) (x a b c : PySem.Str) (scope : Scope) (cl : List (PySem.Str × Addr)) (Q : Value → Shared → Prop) (xv : Value) (s₁ : Shared) : Prop :=
 ∃ (xs : PySem.Str) (tx : Tok) (news : List (Addr × Obj)) (q : Addr) (us : List Value) (nq : Nat) (J : Nat → Nat → List Value → Prop), xv = .str xs tx ∧ xs.cps.all (· < 128) = true ∧ A.handled = none ∧ Fr h₀ L s₁.heap m ∧ News h₀ L s₁.heap news ∧ (q, listOf us.toArray nq) ∈ news ∧
  xs.cps.size ≤ 100 ∧ us.length ≤ 100 ∧ (∀ i j ys, J i j ys → ys.length ≤ 100 * i + j) ∧ J 0 0 [] ∧
  (∀ v ∈ us, ∃ p v1 v2 v3, v = Value.ref p ∧ (p, tupOf [v1, v2, v3]) ∈ news) ∧
  (∀ (g : Heap) (i : Nat) (ys : List Value) (I : Addr) (oI : Obj) (C : Addr) (oC : Obj) (D : Addr) (hh : Heap) (tk : Nat) (v : Value) (m₂ : PySem.Str → Option Value) (E' : Value → Shared → Prop), i < xs.cps.size → SignAt xs i v → LCg.NsObj oC m₂ → m₂ x = some v → Fr h₀ L hh m →
   News h₀ L hh ((I, oI) :: (C, oC) :: (D, LCg.lst ys) :: news) → LCg.Off3 I C D news → ((@Ne Nat I C) ∧ (@Ne Nat I D) ∧ (@Ne Nat C D)) →
   wpAny (model prog w) A (eval iter2 (compEnvC scope cl C env)) (fun yv s' => yv = .ref q ∧ CEnd h₀ L m { s₁ with heap := g } ((I, oI) :: (C, oC) :: (D, LCg.lst ys) :: news) True s') E' { s₁ with heap := hh, toks := tk }) ∧
  (∀ (g : Heap) (i j : Nat) (ys : List Value) (I2 : Addr) (oI2 : Obj) (I : Addr) (oI : Obj) (C : Addr) (oC : Obj) (D : Addr) (hh : Heap) (tk : Nat) (v : Value) (p : Addr) (v1 v2 v3 : Value) (m₂ : PySem.Str → Option Value) (E' : Value → Shared → Prop), i < xs.cps.size → SignAt xs i v → us[j]? = some (Value.ref p) → (p, tupOf [v1, v2, v3]) ∈ news → J i j ys →
   LCg.NsObj oC m₂ → m₂ x = some v → m₂ a = some v1 → m₂ b = some v2 → m₂ c = some v3 → Fr h₀ L hh m → News h₀ L hh ((I2, oI2) :: (I, oI) :: (C, oC) :: (D, LCg.lst ys) :: news) → LCg.Off3 I C D news → ((@Ne Nat I C) ∧ (@Ne Nat I D) ∧ (@Ne Nat C D)) →
   wpAny (model prog w) A (isTrue ct (compEnvC scope cl C env) (eval ct (compEnvC scope cl C env))) (fun ok s' => if ok = true then
    wpAny (model prog w) A (eval elt (compEnvC scope cl C env)) (fun y s'' => CEnd h₀ L m { s₁ with heap := g } ((I2, oI2) :: (I, oI) :: (C, oC) :: (D, LCg.lst ys) :: news) (J i (j + 1) (ys ++ [y])) s'') E' s'
    else CEnd h₀ L m { s₁ with heap := g } ((I2, oI2) :: (I, oI) :: (C, oC) :: (D, LCg.lst ys) :: news) (J i (j + 1) ys) s') E' { s₁ with heap := hh, toks := tk }) ∧
  (∀ i ys, i < xs.cps.size → J i us.length ys → J (i + 1) 0 ys) ∧
  (∀ (ys : List Value) (D : Addr) (hh : Heap) (tk : Nat), J xs.cps.size 0 ys → Fr h₀ L hh m → News h₀ L hh ((D, LCg.lst ys) :: news) → (∀ p ∈ news, p.1 < D) → Q (.ref D) { s₁ with heap := hh, toks := tk })
end
noncomputable def LCa_S := (by
 refine' ⟨_, ?f⟩
 case f =>
  intro hPLCa prog w A E s h₀ L m env ct elt iter1 iter2 x a b c px pa pb pc tp kt scope cl pos Q _F₀ hclos hcell hkind hnames hx ha hb hc hd h hs hs2
  revert _F₀ hclos hcell hkind hnames hx ha hb hc hd h hs hs2
  exact hPLCa prog w A E s h₀ L m env ct elt iter1 iter2 x a b c px pa pb pc tp kt scope cl pos Q
 : Σ' (PLCa : _ → _ → _ → _ → _ → _ → _ → _ → _ → _ → _ → _ → _ → _ → _ → _ → _ → _ → _ → _ → _ → _ → _ → _ → _ → _ → _ → Prop), (∀ y0 y1 y2 y3 y4 y5 y6 y7 y8 y9 y10 y11 y12 y13 y14 y15 y16 y17 y18 y19 y20 y21 y22 y23 y24 y25 y26, PLCa y0 y1 y2 y3 y4 y5 y6 y7 y8 y9 y10 y11 y12 y13 y14 y15 y16 y17 y18 y19 y20 y21 y22 y23 y24 y25 y26) → ∀ (prog : Program) (w : World) (A : Around) (E : Value → Shared → Prop) (s : Shared) (h₀ : Heap) (L : Addr) (m : PySem.Str → Option Value) (env : Env) (ct elt iter1 iter2 : PySem.Expr) (x a b c : PySem.Str) (px pa pb pc tp : PySem.Pos) (kt : Nat) (scope : Scope) (cl : List (PySem.Str × Addr)) (pos : PySem.Pos) (Q : Value → Shared → Prop) (_F₀ : Fr h₀ L s.heap m)
  (hclos : closureFor scope env = pure cl) (hcell : ∀ y ∈ scope.names, y.2 ≠ .cell) (hkind : scope.kind = .function) (hnames : ∀ y ∈ scope.names, y.2 = .local → scope.names.lookup y.1 = some .local)
  (hx : scope.names.lookup x = some .local) (ha : scope.names.lookup a = some .local) (hb : scope.names.lookup b = some .local) (hc : scope.names.lookup c = some .local) (hd : x ≠ a ∧ x ≠ b ∧ x ≠ c ∧ a ≠ b ∧ a ≠ c ∧ b ≠ c)
  (h : wpAny (model prog w) A (eval iter1 env) (Src2 prog w A h₀ L m env ct elt iter2 x a b c scope cl Q) E s)
  (hs : ∀ x, foldedSetIterable iter1 env x = pure x) (hs2 : ∀ C x, foldedSetIterable iter2 (compEnvC scope cl C env) x = pure x), wpAny (model prog w) A (eval (comp2 elt (.Name x px) iter1 (.Tuple [.Name a pa, .Name b pb, .Name c pc] kt tp) iter2 ct scope pos) env) Q E s)
noncomputable def LCa_P := fun (y : (_ × _ × _ × _ × _ × _ × _ × _ × _ × _ × _ × _) × (_ × _ × _ × _ × _ × _ × _ × _ × _ × _ × _ × _) × (_ × _ × _)) => LCa_S.1 y.1.1 y.1.2.1 y.1.2.2.1 y.1.2.2.2.1 y.1.2.2.2.2.1 y.1.2.2.2.2.2.1 y.1.2.2.2.2.2.2.1 y.1.2.2.2.2.2.2.2.1 y.1.2.2.2.2.2.2.2.2.1 y.1.2.2.2.2.2.2.2.2.2.1 y.1.2.2.2.2.2.2.2.2.2.2.1 y.1.2.2.2.2.2.2.2.2.2.2.2 y.2.1.1 y.2.1.2.1 y.2.1.2.2.1 y.2.1.2.2.2.1 y.2.1.2.2.2.2.1 y.2.1.2.2.2.2.2.1 y.2.1.2.2.2.2.2.2.1 y.2.1.2.2.2.2.2.2.2.1 y.2.1.2.2.2.2.2.2.2.2.1 y.2.1.2.2.2.2.2.2.2.2.2.1 y.2.1.2.2.2.2.2.2.2.2.2.2.1 y.2.1.2.2.2.2.2.2.2.2.2.2.2 y.2.2.1 y.2.2.2.1 y.2.2.2.2
noncomputable def LCa_c := pick (by fail "d") LCa_P
namespace LCa
noncomputable def prog := LCa_c.1.1
noncomputable def w := LCa_c.1.2.1
noncomputable def A := LCa_c.1.2.2.1
noncomputable def E := LCa_c.1.2.2.2.1
noncomputable def h₀ := LCa_c.1.2.2.2.2.2.1
noncomputable def L := LCa_c.1.2.2.2.2.2.2.1
noncomputable def m := LCa_c.1.2.2.2.2.2.2.2.1
noncomputable def env := LCa_c.1.2.2.2.2.2.2.2.2.1
noncomputable def ct := LCa_c.1.2.2.2.2.2.2.2.2.2.1
noncomputable def elt := LCa_c.1.2.2.2.2.2.2.2.2.2.2.1
noncomputable def iter1 := LCa_c.1.2.2.2.2.2.2.2.2.2.2.2
noncomputable def iter2 := LCa_c.2.1.1
noncomputable def x := LCa_c.2.1.2.1
noncomputable def a := LCa_c.2.1.2.2.1
noncomputable def b := LCa_c.2.1.2.2.2.1
noncomputable def c := LCa_c.2.1.2.2.2.2.1
noncomputable def px := LCa_c.2.1.2.2.2.2.2.1
noncomputable def pa := LCa_c.2.1.2.2.2.2.2.2.1
noncomputable def pb := LCa_c.2.1.2.2.2.2.2.2.2.1
noncomputable def pc := LCa_c.2.1.2.2.2.2.2.2.2.2.1
noncomputable def tp := LCa_c.2.1.2.2.2.2.2.2.2.2.2.1
noncomputable def kt := LCa_c.2.1.2.2.2.2.2.2.2.2.2.2.1
noncomputable def scope := LCa_c.2.1.2.2.2.2.2.2.2.2.2.2.2
noncomputable def cl := LCa_c.2.2.1
noncomputable def pos := LCa_c.2.2.2.1
noncomputable def Q := LCa_c.2.2.2.2
noncomputable def LCb_S := (by
 refine' ⟨_, ?f⟩
 case f =>
  intro hPLCb 
  intro _F₀ hclos hcell hkind hnames hx ha hb hc hd h hs hs2
  rw [eval_ListComp]
  refine wpAny_comprehension_free (use := none) rfl hs hclos hkind hnames (wpAny_mono h (fun xv s₁ h₁ => ?_) fun _ _ e => e)
  obtain ⟨xs, tx, news, q, us, nq, J, rfl, hasc, hh, F, N, hq, hxs, hus, hJl, hJ0, htr, hit2, turn, next, done⟩ := h₁
  refine wpAny_pyIter_ascii hasc ?_
  generalize hI : s₁.heap.objs.size = I
  have W := Walks.strAscii (prog := prog) (w := w) hh I xs tx
  generalize hH : s₁.heap.push { cls := .type "str_ascii_iterator", data := .fields #[.str xs tx, .int 0 0] } = H
  have hst0 : H.IsStrIter I "str_ascii_iterator" xs tx 0 := by
   rw [← hH, ← hI]
   exact ⟨_, Heap.get?_push_size _ rfl, rfl, rfl⟩
  have hHs : H.objs.size = I + 1 := by rw [← hH, Heap.size_push, hI]
  have up0 : ∀ b o, s₁.heap.get? b = some o → H.get? b = some o := fun b o e => hH ▸ Heap.get?_push_of_some _ e
  have fresh : ∀ b, I ≤ b → h₀.get? b = none := fun b hb => by
   cases e : h₀.get? b with
   | none => rfl
   | some o' => exact absurd (Heap.lt_size (F.keep b o' e)) (by rw [hI]; exact Nat.not_lt.mpr hb)
  have hLI : @LT.lt Nat _ L I := by have := F.ns.lt; rw [hI] at this; exact this
  have hnI : ∀ p ∈ news, p.1 < I := fun p hp => hI ▸ Heap.lt_size (N p hp).1
  refine wpAny_newObj_type ?_
  dsimp only
  rw [hHs]
  generalize hG : H.push { cls := .type "list", dict := none, data := .seq ([] : List Value).toArray } = G
  have hGs : G.objs.size = I + 1 + 1 := by rw [← hG, Heap.size_push, hHs]
  have up1 : ∀ b o, H.get? b = some o → G.get? b = some o := fun b o e => hG ▸ Heap.get?_push_of_some _ e
  have l1 : G.get? (I + 1) = some (LCg.lst []) := by rw [← hG, ← hHs]; exact Heap.get?_push_size _ rfl
  revert _F₀ hclos hcell hkind hnames hx ha hb hc hd h hs hs2 hasc hh F N hq hxs hus hJl hJ0 htr hit2 turn next done hI W hH hst0 hHs up0 fresh hLI hnI hG hGs up1 l1
  exact hPLCb s₁ xs tx news q us nq J I H G
 : Σ' (PLCb : _ → _ → _ → _ → _ → _ → _ → _ → _ → _ → _ → Prop), (∀ y0 y1 y2 y3 y4 y5 y6 y7 y8 y9 y10, PLCb y0 y1 y2 y3 y4 y5 y6 y7 y8 y9 y10) → LCa_S.1 prog w A E LCa_c.1.2.2.2.2.1 h₀ L m env ct elt iter1 iter2 x a b c px pa pb pc tp kt scope cl pos Q)
noncomputable def LCb_P := fun (y : (_ × _ × _ × _ × _ × _ × _ × _ × _ × _ × _)) => LCb_S.1 y.1 y.2.1 y.2.2.1 y.2.2.2.1 y.2.2.2.2.1 y.2.2.2.2.2.1 y.2.2.2.2.2.2.1 y.2.2.2.2.2.2.2.1 y.2.2.2.2.2.2.2.2.1 y.2.2.2.2.2.2.2.2.2.1 y.2.2.2.2.2.2.2.2.2.2
noncomputable def LCb_c := pick (by fail "d") LCb_P
namespace LCb
noncomputable def s₁ := LCb_c.1
noncomputable def xs := LCb_c.2.1
noncomputable def tx := LCb_c.2.2.1
noncomputable def news := LCb_c.2.2.2.1
noncomputable def q := LCb_c.2.2.2.2.1
noncomputable def us := LCb_c.2.2.2.2.2.1
noncomputable def nq := LCb_c.2.2.2.2.2.2.1
noncomputable def J := LCb_c.2.2.2.2.2.2.2.1
noncomputable def I := LCb_c.2.2.2.2.2.2.2.2.1
noncomputable def H := LCb_c.2.2.2.2.2.2.2.2.2.1
noncomputable def G := LCb_c.2.2.2.2.2.2.2.2.2.2
noncomputable def LCc_S := (by
 refine' ⟨_, ?f⟩
 case f =>
  intro hPLCc 
  intro _F₀ hclos hcell hkind hnames hx ha hb hc hd h hs hs2 hasc hh F N hq hxs hus hJl hJ0 htr hit2 turn next done hI W hH hst0 hHs up0 fresh hLI hnI hG hGs up1 l1
  refine wpAny_newFunctionEnv hcell (by intro y hy; simp at hy) (fun h₁ hns₁ hsb₁ => ?_) hkind
  dsimp only at hns₁ hsb₁ ⊢
  rw [hGs] at hns₁ hsb₁ ⊢
  have up2 : ∀ b o, G.get? b = some o → h₁.get? b = some o := fun b o e => hsb₁.extBut b o (by have := Heap.lt_size e; rw [hGs] at this; exact Nat.ne_of_lt this) (Heap.get?_push_of_some _ e)
  have up : ∀ b o, s₁.heap.get? b = some o → h₁.get? b = some o := fun b o e => up2 b o (up1 b o (up0 b o e))
  have off0 : ∀ j, @LT.lt Nat _ I j → ∀ J : Nat, J = I ∨ J = I + 1 ∨ J = I + 1 + 1 → ∀ p ∈ news, p.1 ≠ J := fun j _ J hJ p hp => by
   have z : @LT.lt Nat _ p.1 I := hnI p hp
   show @Ne Nat _ _
   exact hJ.elim (fun q0 => lin [_,_,_] [] [(0,.v 0,.v 1),(2,.v 2,.v 1)] (5,.v 0,.v 2) [-1,1,-1] [] rfl z q0) fun q0 => q0.elim (fun q1 => lin [_,_,_] [] [(0,.v 0,.v 1),(2,.v 2,.a (.v 1) (.n 1))] (5,.v 0,.v 2) [-1,1,-1] [] rfl z q1) fun q1 => lin [_,_,_] [] [(0,.v 0,.v 1),(2,.v 2,.a (.a (.v 1) (.n 1)) (.n 1))] (5,.v 0,.v 2) [-1,1,-1] [] rfl z q1
  have off3 : LCg.Off3 I (I + 1 + 1) (I + 1) news := LCg.Off3.of fun p hp => by
   have z : @LT.lt Nat _ p.1 I := hnI p hp
   refine ⟨?_, ?_, ?_⟩ <;> (show @Ne Nat _ _; (first | exact lin [_,_] [] [(0,.v 0,.v 1)] (5,.v 0,.v 1) [-1,1] [] rfl z | exact lin [_,_] [] [(0,.v 0,.v 1)] (5,.v 0,.a (.a (.v 1) (.n 1)) (.n 1)) [-1,1] [] rfl z | exact lin [_,_] [] [(0,.v 0,.v 1)] (5,.v 0,.a (.v 1) (.n 1)) [-1,1] [] rfl z))
  have hne : (@Ne Nat I (I + 1 + 1)) ∧ (@Ne Nat I (I + 1)) ∧ (@Ne Nat (I + 1 + 1) (I + 1)) := by refine ⟨?_, ?_, ?_⟩ <;> (first | exact lin [_] [] [] (5,.v 0,.a (.a (.v 0) (.n 1)) (.n 1)) [-1] [] rfl | exact lin [_] [] [] (5,.v 0,.a (.v 0) (.n 1)) [-1] [] rfl | exact lin [_] [] [] (5,.a (.a (.v 0) (.n 1)) (.n 1),.a (.v 0) (.n 1)) [1] [] rfl)
  have fr_to : ∀ {h h' : Heap} {b : Addr}, Fr h₀ L h m → (∀ c o, c ≠ b → h.get? c = some o → h'.get? c = some o) → @LT.lt Nat _ L b → I ≤ b → Fr h₀ L h' m := fun {h h' b} F₁ hk hlt hge =>
   ⟨F₁.ns.at' fun o e => hk _ o (Nat.ne_of_lt hlt) e, fun c o e => hk c o (fun q => by rw [q, fresh b hge] at e; cases e) (F₁.keep c o e), F₁.above⟩
  have loop : ∀ tk₀, codeAny (model prog w) A (.compLoop (comp2 elt (.Name x px) iter1 (.Tuple [.Name a pa, .Name b pb, .Name c pc] kt tp) iter2 ct scope pos) 0 (.ref I) (.ref (I + 1)) (compEnvC scope cl (I + 1 + 1) env))
    (compPost (model prog w) A E none Q (.ref (I + 1)) (I + 1 + 1)) { s₁ with heap := h₁, toks := tk₀ } := fun tk₀ => by
   refine loop2_0 (fun k s' => ∃ h' tk i ys oC mC, s' = { s₁ with heap := h', toks := tk } ∧ i ≤ xs.cps.size ∧ k = xs.cps.size + 1 - i ∧ h'.IsStrIter I "str_ascii_iterator" xs tx i ∧ Fr h₀ L h' m ∧
    News h₀ L h' ((I + 1 + 1, oC) :: (I + 1, LCg.lst ys) :: news) ∧ LCg.NsObj oC mC ∧ J i 0 ys) ?_ (xs.cps.size + 1) ?_ (hs2 _)
   ·rintro k s' ⟨h', tk, i, ys, oC, mC, rfl, hi, rfl, hst, F', N', hC', hj⟩
    revert _F₀ hclos hcell hkind hnames hx ha hb hc hd h hs hs2 hasc hh F N hq hxs hus hJl hJ0 htr hit2 turn next done hI W hH hst0 hHs up0 fresh hLI hnI hG hGs up1 l1 hns₁ hsb₁ up2 up off0 off3 hne fr_to i hi hst F' N' hC' hj
    exact hPLCc h₁ tk₀ h' tk ys oC mC
   ·obtain ⟨oC, eC, nsC⟩ := LCg.ns_obj hns₁
    refine ⟨h₁, tk₀, 0, [], oC, _, rfl, Nat.zero_le _, rfl, W.frame 0 _ _ hst0 (fun b _ o e => up2 b o (up1 b o e)), F.keeps up, ?_, nsC, hJ0⟩
    intro p hp
    simp only [List.mem_cons] at hp
    rcases hp with rfl | rfl | hp
    ·exact ⟨eC, by show @Ne Nat _ _; exact lin [_,_] [] [(0,.v 0,.v 1)] (5,.a (.a (.v 1) (.n 1)) (.n 1),.v 0) [1,1] [] rfl hLI, fresh _ (by exact lin [_] [] [] (1,.v 0,.a (.a (.v 0) (.n 1)) (.n 1)) [1] [] rfl)⟩
    ·exact ⟨up2 _ _ l1, by show @Ne Nat _ _; exact lin [_,_] [] [(0,.v 0,.v 1)] (5,.a (.v 1) (.n 1),.v 0) [1,1] [] rfl hLI, fresh _ (by exact lin [_] [] [] (1,.v 0,.a (.v 0) (.n 1)) [1] [] rfl)⟩
    ·have z := N p hp
     exact ⟨up _ _ z.1, z.2⟩
  exact codeAny_compStart_list (loop _) (W.self 0 _ _ _ (W.frame 0 _ _ hst0 (fun b _ o e => up2 b o (up1 b o e))) (loop _))
 : Σ' (PLCc : _ → _ → _ → _ → _ → _ → _ → Prop), (∀ y0 y1 y2 y3 y4 y5 y6, PLCc y0 y1 y2 y3 y4 y5 y6) → LCb_S.1 s₁ xs tx news q us nq J I H G)
noncomputable def LCc_P := fun (y : (_ × _ × _ × _ × _ × _ × _)) => LCc_S.1 y.1 y.2.1 y.2.2.1 y.2.2.2.1 y.2.2.2.2.1 y.2.2.2.2.2.1 y.2.2.2.2.2.2
noncomputable def LCc_c := pick (by fail "d") LCc_P
namespace LCc
noncomputable def h' := LCc_c.2.2.1
noncomputable def tk := LCc_c.2.2.2.1
noncomputable def ys := LCc_c.2.2.2.2.1
noncomputable def oC := LCc_c.2.2.2.2.2.1
noncomputable def mC := LCc_c.2.2.2.2.2.2
noncomputable def LCd_S := (by
 refine' ⟨_, ?f⟩
 case f =>
  intro hPLCd 
  intro _F₀ hclos hcell hkind hnames hx ha hb hc hd h hs hs2 hasc hh F N hq hxs hus hJl hJ0 htr hit2 turn next done hI W hH hst0 hHs up0 fresh hLI hnI hG hGs up1 l1 hns₁ hsb₁ up2 up off0 off3 hne fr_to i hi hst F' N' hC' hj
  by_cases hlt : i < xs.cps.size
  ·refine W.item i _ _ _ hlt hst fun v h₂ tk₂ hP hst₂ hk₂ => ?_
   have F₂ : Fr h₀ L h₂ m := LCg.fr_but F' hk₂ (Nat.ne_of_lt hLI) (fresh I (Nat.le_refl _))
   have offI : ∀ p ∈ (I + 1 + 1, oC) :: (I + 1, LCg.lst ys) :: news, p.1 ≠ I := fun p hp => by
    simp only [List.mem_cons] at hp
    rcases hp with rfl | rfl | hp
    ·show @Ne Nat _ _; dsimp only; exact lin [_] [] [] (5,.a (.a (.v 0) (.n 1)) (.n 1),.v 0) [1] [] rfl
    ·show @Ne Nat _ _; dsimp only; exact lin [_] [] [] (5,.a (.v 0) (.n 1),.v 0) [1] [] rfl
    ·exact Nat.ne_of_lt (hnI p hp)
   have N₂ := LCg.news_but N' hk₂ offI
   dsimp only
   refine wpAny_pure ?_
   refine wpAny_assign_Name (wpAny_storeName_local (lookup_relabel_local hx) (hC'.ns (N₂ _ (.head _)).1) (fun h₃ hn₃ hs₃ => ?_) (by simp [compEnvC, relabel, hkind]))
   have hs₃ : Heap.SameBut (I + 1 + 1) h₂ h₃ := hs₃
   obtain ⟨oC₃, eC₃, hC₃⟩ := LCg.ns_obj hn₃
   have eC₃ : h₃.get? (I + 1 + 1) = some oC₃ := eC₃
   have hCL : (I + 1 + 1 : Nat) ≠ L := by exact lin [_,_] [] [(0,.v 0,.v 1)] (5,.a (.a (.v 1) (.n 1)) (.n 1),.v 0) [1,1] [] rfl hLI
   have hCf : h₀.get? (I + 1 + 1) = none := fresh _ (by exact lin [_] [] [] (1,.v 0,.a (.a (.v 0) (.n 1)) (.n 1)) [1] [] rfl)
   have F₃ : Fr h₀ L h₃ m := F₂.change hs₃ hCL hCf
   have hst₃ : h₃.IsStrIter I "str_ascii_iterator" xs tx (i + 1) := W.frame (i + 1) _ _ hst₂ fun b hb o e => hs₃.extBut b o (by rw [List.mem_singleton.mp hb]; show @Ne Nat _ _; exact lin [_] [] [] (5,.v 0,.a (.a (.v 0) (.n 1)) (.n 1)) [-1] [] rfl) e
   obtain ⟨oI, eI, cI, dI⟩ := hst₃
   have N₃ : News h₀ L h₃ ((I, oI) :: (I + 1 + 1, oC₃) :: (I + 1, LCg.lst ys) :: news) := fun p hp => by
    rcases List.mem_cons.mp hp with rfl | hp
    ·exact ⟨eI, Nat.ne_of_gt hLI, fresh I (Nat.le_refl _)⟩
    rcases List.mem_cons.mp hp with rfl | hp
    ·exact ⟨eC₃, hCL, hCf⟩
    ·have z := N₂ p (.tail _ hp)
     refine ⟨hs₃.extBut _ _ ?_ z.1, z.2⟩
     rcases List.mem_cons.mp hp with rfl | hp
     ·show @Ne Nat _ _; dsimp only; exact lin [_] [] [] (5,.a (.v 0) (.n 1),.a (.a (.v 0) (.n 1)) (.n 1)) [-1] [] rfl
     ·have z : @LT.lt Nat _ p.1 I := hnI p hp
      show @Ne Nat _ _; exact lin [_,_] [] [(0,.v 0,.v 1)] (5,.v 0,.a (.a (.v 1) (.n 1)) (.n 1)) [-1,1] [] rfl z
   refine wpAny_mono (hit2 H i ys I oI (I + 1 + 1) oC₃ (I + 1) h₃ _ v _ _ hlt hP hC₃ (if_pos rfl) F₃ N₃ off3 hne) (fun yv s₄ h₄ => ?_) fun _ _ e => e
   obtain ⟨rfl, h₄, tk₄, rfl, F₄, N₄, _⟩ := h₄
   have hq₄ : h₄.get? q = some (listOf us.toArray nq) := (N₄ _ (.tail _ (.tail _ (.tail _ hq)))).1
   have hls : h₄.IsList q us.toArray := ⟨_, hq₄, rfl, nq, rfl⟩
   refine wpAny_pyIter_list hls ?_
   generalize hI2 : ({ s₁ with heap := h₄, toks := tk₄ } : Shared).heap.objs.size = I2
   have hI2 : h₄.objs.size = I2 := hI2
   have hq2 : @LT.lt Nat _ q I2 := hI2 ▸ Heap.lt_size hq₄
   have hC2 : @LT.lt Nat _ (I + 1 + 1) I2 := hI2 ▸ Heap.lt_size (N₄ _ (.tail _ (.head _))).1
   have W2 := Walks.list (prog := prog) (w := w) hh I2 q (Nat.ne_of_lt hq2) us.toArray
   have fresh2 : h₀.get? I2 = none := fresh _ (by exact lin [_,_] [] [(0,.a (.a (.v 0) (.n 1)) (.n 1),.v 1)] (1,.v 0,.v 1) [1,1] [] rfl hC2)
   have hL2 : @Ne Nat L I2 := by exact lin [_,_,_] [] [(0,.v 0,.v 1),(0,.a (.a (.v 1) (.n 1)) (.n 1),.v 2)] (5,.v 0,.v 2) [-1,1,1] [] rfl hLI hC2
   show codeAny (model prog w) A (.compStart (comp2 elt (.Name x px) iter1 (.Tuple [.Name a pa, .Name b pb, .Name c pc] kt tp) iter2 ct scope pos) 1 (.ref I2) (.ref (I + 1)) (compEnvC scope cl (I + 1 + 1) env)) _ { s₁ with heap := h₄.push { cls := .type "list_iterator", data := .fields #[.ref q, .int 0 0] }, toks := tk₄ }
   generalize hH4 : h₄.push { cls := .type "list_iterator", data := .fields #[.ref q, .int 0 0] } = H4
   have up4 : ∀ b o, h₄.get? b = some o → H4.get? b = some o := fun b o e => hH4 ▸ Heap.get?_push_of_some _ e
   have st4 : H4.IsListIter I2 q 0 ∧ H4.IsList q us.toArray := by
    refine ⟨?_, hls.at fun o e => up4 _ _ e⟩
    rw [← hH4, ← hI2]
    exact ⟨_, Heap.get?_push_size _ rfl, rfl, rfl⟩
   have loop1 : ∀ R1 : Result → Shared → Prop, (∀ s', (∃ m', m' < xs.cps.size + 1 - i ∧ ∃ h' tk i ys oC mC, s' = { s₁ with heap := h', toks := tk } ∧ i ≤ xs.cps.size ∧ m' = xs.cps.size + 1 - i ∧ h'.IsStrIter I "str_ascii_iterator" xs tx i ∧ Fr h₀ L h' m ∧
      News h₀ L h' ((I + 1 + 1, oC) :: (I + 1, LCg.lst ys) :: news) ∧ LCg.NsObj oC mC ∧ J i 0 ys) → R1 (.ok .next) s') →
     codeAny (model prog w) A (.compLoop (comp2 elt (.Name x px) iter1 (.Tuple [.Name a pa, .Name b pb, .Name c pc] kt tp) iter2 ct scope pos) 1 (.ref I2) (.ref (I + 1)) (compEnvC scope cl (I + 1 + 1) env)) R1 { s₁ with heap := H4, toks := tk₄ } := by
    intro R1 hR1
    refine loop2_1 (fun k s' => ∃ h' tk j ys oC mC, s' = { s₁ with heap := h', toks := tk } ∧ j ≤ us.length ∧ k = us.length + 1 - j ∧ (h'.IsListIter I2 q j ∧ h'.IsList q us.toArray) ∧ Fr h₀ L h' m ∧
     News h₀ L h' ((I, oI) :: (I + 1 + 1, oC) :: (I + 1, LCg.lst ys) :: news) ∧ LCg.NsObj oC mC ∧ mC x = some v ∧ J i j ys) ?_ (us.length + 1)
     ⟨H4, tk₄, 0, ys, oC₃, _, rfl, Nat.zero_le _, rfl, st4, F₄.keeps up4, fun p hp => ⟨up4 _ _ (N₄ p hp).1, (N₄ p hp).2⟩, hC₃, if_pos rfl, hj⟩
    rintro k s' ⟨h', tk, j, ys, oC, mC, rfl, hju, rfl, hst', F', N', hC', hmx, hj'⟩
    rename_i xq0LCd xq1LCd xq2LCd xq3LCd xq4LCd xq5LCd xq6LCd
    revert _F₀ hclos hcell hkind hnames hx ha hb hc hd h hs hs2 hasc hh F N hq hxs hus hJl hJ0 htr hit2 turn next done hI W hH hst0 hHs up0 fresh hLI hnI hG hGs up1 l1 hns₁ hsb₁ up2 up off0 off3 hne fr_to hi hst xq0LCd xq1LCd xq2LCd hj hlt hP hst₂ hk₂ F₂ offI N₂ hn₃ xq3LCd hs₃ xq4LCd hC₃ eC₃ hCL hCf F₃ eI cI dI N₃ F₄ N₄ xq5LCd hq₄ hls xq6LCd hI2 hq2 hC2 W2 fresh2 hL2 hH4 up4 st4 hR1 j hju hst' F' N' hC' hmx hj'
    exact hPLCd i v h₂ tk₂ h₃ oC₃ oI h₄ tk₄ I2 H4 R1 h' tk ys oC mC
   exact start2_1 (loop1 _ fun _ h => h) (W2.self 0 _ _ _ st4 (loop1 _ fun _ h => h))
  ·obtain rfl : i = xs.cps.size := Nat.le_antisymm hi (Nat.not_lt.mp hlt)
   refine W.done _ _ _ hst fun h₂ tk₂ hk₂ => ?_
   have F₂ : Fr h₀ L h₂ m := LCg.fr_but F' hk₂ (Nat.ne_of_lt hLI) (fresh I (Nat.le_refl _))
   have offI : ∀ p ∈ (I + 1 + 1, oC) :: (I + 1, LCg.lst ys) :: news, p.1 ≠ I := fun p hp => by
    simp only [List.mem_cons] at hp
    rcases hp with rfl | rfl | hp
    ·show @Ne Nat _ _; dsimp only; exact lin [_] [] [] (5,.a (.a (.v 0) (.n 1)) (.n 1),.v 0) [1] [] rfl
    ·show @Ne Nat _ _; dsimp only; exact lin [_] [] [] (5,.a (.v 0) (.n 1),.v 0) [1] [] rfl
    ·exact Nat.ne_of_lt (hnI p hp)
   have N₂ := LCg.news_but N' hk₂ offI
   refine ⟨_, hC'.ns (N₂ _ (.head _)).1, fun h'' hs'' => ?_⟩
   refine done ys (I + 1) h'' tk₂ hj (F₂.change hs'' (by show @Ne Nat _ _; exact lin [_,_] [] [(0,.v 0,.v 1)] (5,.a (.a (.v 1) (.n 1)) (.n 1),.v 0) [1,1] [] rfl hLI) (fresh _ (by exact lin [_] [] [] (1,.v 0,.a (.a (.v 0) (.n 1)) (.n 1)) [1] [] rfl))) (fun p hp => ?_) (fun p hp => Nat.lt_succ_of_lt (hnI p hp))
   have z := N₂ p (.tail _ hp)
   refine ⟨hs''.extBut _ _ ?_ z.1, z.2⟩
   rcases List.mem_cons.mp hp with rfl | hp
   ·show @Ne Nat _ _; dsimp only; exact lin [_] [] [] (5,.a (.v 0) (.n 1),.a (.a (.v 0) (.n 1)) (.n 1)) [-1] [] rfl
   ·have z : @LT.lt Nat _ p.1 I := hnI p hp
    show @Ne Nat _ _; exact lin [_,_] [] [(0,.v 0,.v 1)] (5,.v 0,.a (.a (.v 1) (.n 1)) (.n 1)) [-1,1] [] rfl z
 : Σ' (PLCd : _ → _ → _ → _ → _ → _ → _ → _ → _ → _ → _ → _ → _ → _ → _ → _ → _ → Prop), (∀ y0 y1 y2 y3 y4 y5 y6 y7 y8 y9 y10 y11 y12 y13 y14 y15 y16, PLCd y0 y1 y2 y3 y4 y5 y6 y7 y8 y9 y10 y11 y12 y13 y14 y15 y16) → LCc_S.1 LCc_c.1 LCc_c.2.1 h' tk ys oC mC)
noncomputable def LCd_P := fun (y : (_ × _ × _ × _ × _ × _ × _ × _ × _ × _ × _ × _) × (_ × _ × _ × _ × _)) => LCd_S.1 y.1.1 y.1.2.1 y.1.2.2.1 y.1.2.2.2.1 y.1.2.2.2.2.1 y.1.2.2.2.2.2.1 y.1.2.2.2.2.2.2.1 y.1.2.2.2.2.2.2.2.1 y.1.2.2.2.2.2.2.2.2.1 y.1.2.2.2.2.2.2.2.2.2.1 y.1.2.2.2.2.2.2.2.2.2.2.1 y.1.2.2.2.2.2.2.2.2.2.2.2 y.2.1 y.2.2.1 y.2.2.2.1 y.2.2.2.2.1 y.2.2.2.2.2
noncomputable def LCd_c := pick (by fail "d") LCd_P
namespace LCd
noncomputable def i := LCd_c.1.1
noncomputable def v := LCd_c.1.2.1
noncomputable def oI := LCd_c.1.2.2.2.2.2.2.1
noncomputable def I2 := LCd_c.1.2.2.2.2.2.2.2.2.2.1
noncomputable def H4 := LCd_c.1.2.2.2.2.2.2.2.2.2.2.1
noncomputable def ys := LCd_c.2.2.2.1
noncomputable def oC := LCd_c.2.2.2.2.1
noncomputable def mC := LCd_c.2.2.2.2.2
noncomputable def LCe_S := (by
 refine' ⟨_, ?f⟩
 case f =>
  intro hPLCe 
  intro _F₀ hclos hcell hkind hnames hx ha hb hc hd h hs hs2 hasc hh F N hq hxs hus hJl hJ0 htr hit2 turn next done hI W hH hst0 hHs up0 fresh hLI hnI hG hGs up1 l1 hns₁ hsb₁ up2 up off0 off3 hne fr_to hi hst xq0LCd xq1LCd xq2LCd hj hlt hP hst₂ hk₂ F₂ offI N₂ hn₃ xq3LCd hs₃ xq4LCd hC₃ eC₃ hCL hCf F₃ eI cI dI N₃ F₄ N₄ xq5LCd hq₄ hls xq6LCd hI2 hq2 hC2 W2 fresh2 hL2 hH4 up4 st4 hR1 j hju hst' F' N' hC' hmx hj'
  have offL : ∀ b : Nat, I2 ≤ b → ∀ p ∈ (I, oI) :: (I + 1 + 1, oC) :: (I + 1, LCg.lst ys) :: news, p.1 ≠ b := fun b hb p hp => by
   simp only [List.mem_cons] at hp
   rcases hp with rfl | rfl | rfl | hp
   ·show @Ne Nat _ _; dsimp only; exact lin [_,_,_] [] [(0,.a (.a (.v 0) (.n 1)) (.n 1),.v 1),(1,.v 1,.v 2)] (5,.v 0,.v 2) [-1,1,1] [] rfl hC2 hb
   ·show @Ne Nat _ _; dsimp only; exact lin [_,_,_] [] [(0,.a (.a (.v 0) (.n 1)) (.n 1),.v 1),(1,.v 1,.v 2)] (5,.a (.a (.v 0) (.n 1)) (.n 1),.v 2) [-1,1,1] [] rfl hC2 hb
   ·show @Ne Nat _ _; dsimp only; exact lin [_,_,_] [] [(0,.a (.a (.v 0) (.n 1)) (.n 1),.v 1),(1,.v 1,.v 2)] (5,.a (.v 0) (.n 1),.v 2) [-1,1,1] [] rfl hC2 hb
   ·have z : @LT.lt Nat _ p.1 I := hnI p hp
    show @Ne Nat _ _; exact lin [_,_,_,_] [] [(0,.a (.a (.v 0) (.n 1)) (.n 1),.v 1),(1,.v 1,.v 2),(0,.v 3,.v 0)] (5,.v 3,.v 2) [-1,1,1,1] [] rfl hC2 hb z
  by_cases hjl : j < us.length
  ·refine W2.item j _ _ _ (by rw [List.size_toArray]; exact hjl) hst' fun v2 h₅ tk₅ hv2 hst₅ hk₅ => ?_
   have hv2 : us[j]? = some v2 := by simpa using hv2
   obtain ⟨p, w1, w2, w3, rfl, hp⟩ := htr v2 (List.mem_of_getElem? hv2)
   have F₅ : Fr h₀ L h₅ m := LCg.fr_but F' hk₅ hL2 fresh2
   have N₅ := LCg.news_but N' hk₅ (offL I2 (Nat.le_refl _))
   have htp : IsTup h₅ p #[w1, w2, w3] := ⟨_, (N₅ (p, tupOf [w1, w2, w3]) (.tail _ (.tail _ (.tail _ hp)))).1, rfl, _, rfl⟩
   dsimp only
   rename_i xq0LCe
   revert _F₀ hclos hcell hkind hnames hx ha hb hc hd h hs hs2 hasc hh F N hq hxs hus hJl hJ0 htr hit2 turn next done hI W hH hst0 hHs up0 fresh hLI hnI hG hGs up1 l1 hns₁ hsb₁ up2 up off0 off3 hne fr_to hi hst xq0LCd xq1LCd xq2LCd hj hlt hP hst₂ hk₂ F₂ offI N₂ hn₃ xq3LCd hs₃ xq4LCd hC₃ eC₃ hCL hCf F₃ eI cI dI N₃ F₄ N₄ xq5LCd hq₄ hls xq6LCd hI2 hq2 hC2 W2 fresh2 hL2 hH4 up4 st4 hR1 hju hst' F' N' hC' hmx hj' offL hjl hst₅ hk₅ hp xq0LCe hv2 F₅ N₅ htp
   exact hPLCe j h₅ tk₅ p w1 w2 w3
  ·obtain rfl : j = us.length := Nat.le_antisymm hju (Nat.not_lt.mp hjl)
   refine W2.done _ _ _ (by rw [List.size_toArray]; exact hst') fun h₅ tk₅ hk₅ => ?_
   have F₅ : Fr h₀ L h₅ m := LCg.fr_but F' hk₅ hL2 fresh2
   have N₅ := LCg.news_but N' hk₅ (offL I2 (Nat.le_refl _))
   exact hR1 _ ⟨xs.cps.size + 1 - (i + 1), by exact lin [_,_,_,_] [] [(2,.a (.v 0) (.a (.v 1) (.n 1)),.a (.v 2) (.n 1)),(2,.a (.v 3) (.v 1),.a (.v 2) (.n 1))] (0,.v 0,.v 3) [1,1,-1] [] rfl (Nat.sub_add_cancel (by exact lin [_,_] [] [(0,.v 0,.v 1)] (1,.a (.v 0) (.n 1),.a (.v 1) (.n 1)) [1,1] [] rfl hlt)) (Nat.sub_add_cancel (by exact lin [_,_] [] [(0,.v 0,.v 1)] (1,.v 0,.a (.v 1) (.n 1)) [1,1] [] rfl hlt)), h₅, tk₅, i + 1, ys, oC, mC, rfl, hlt, rfl, ⟨oI, (N₅ _ (.head _)).1, cI, dI⟩, F₅, fun p hp => N₅ p (.tail _ hp), hC', next i ys hlt hj'⟩
 : Σ' (PLCe : _ → _ → _ → _ → _ → _ → _ → Prop), (∀ y0 y1 y2 y3 y4 y5 y6, PLCe y0 y1 y2 y3 y4 y5 y6) → LCd_S.1 i v LCd_c.1.2.2.1 LCd_c.1.2.2.2.1 LCd_c.1.2.2.2.2.1 LCd_c.1.2.2.2.2.2.1 oI LCd_c.1.2.2.2.2.2.2.2.1 LCd_c.1.2.2.2.2.2.2.2.2.1 I2 H4 LCd_c.1.2.2.2.2.2.2.2.2.2.2.2 LCd_c.2.1 LCd_c.2.2.1 ys oC mC)
noncomputable def LCe_P := fun (y : (_ × _ × _ × _ × _ × _ × _)) => LCe_S.1 y.1 y.2.1 y.2.2.1 y.2.2.2.1 y.2.2.2.2.1 y.2.2.2.2.2.1 y.2.2.2.2.2.2
noncomputable def LCe_c := pick (by fail "d") LCe_P
namespace LCe
noncomputable def j := LCe_c.1
noncomputable def h₅ := LCe_c.2.1
noncomputable def p := LCe_c.2.2.2.1
noncomputable def w1 := LCe_c.2.2.2.2.1
noncomputable def w2 := LCe_c.2.2.2.2.2.1
noncomputable def w3 := LCe_c.2.2.2.2.2.2
noncomputable def LCf_S := (by
 refine' ⟨_, ?f⟩
 case f =>
  intro hPLCf 
  intro _F₀ hclos hcell hkind hnames hx ha hb hc hd h hs hs2 hasc hh F N hq hxs hus hJl hJ0 htr hit2 turn next done hI W hH hst0 hHs up0 fresh hLI hnI hG hGs up1 l1 hns₁ hsb₁ up2 up off0 off3 hne fr_to hi hst xq0LCd xq1LCd xq2LCd hj hlt hP hst₂ hk₂ F₂ offI N₂ hn₃ xq3LCd hs₃ xq4LCd hC₃ eC₃ hCL hCf F₃ eI cI dI N₃ F₄ N₄ xq5LCd hq₄ hls xq6LCd hI2 hq2 hC2 W2 fresh2 hL2 hH4 up4 st4 hR1 hju hst' F' N' hC' hmx hj' offL hjl hst₅ hk₅ hp xq0LCe hv2 F₅ N₅ htp
  refine wpAny_letOwnedTupleGo_listiter hst₅.1 ?_
  refine assign_Tuple_tuple hh htp rfl rfl fun h₆ he => ?_
  have he' : ∀ b o, h₅.get? b = some o → h₆.get? b = some o := fun b o e => he b o (Nat.ne_of_lt (Heap.lt_size e)) e
  have N₆ : News h₀ L h₆ ((I, oI) :: (I + 1 + 1, oC) :: (I + 1, LCg.lst ys) :: news) := fun p hp => ⟨he' _ _ (N₅ p hp).1, (N₅ p hp).2⟩
  refine assignInOrder_cons (wpAny_assign_Name (wpAny_storeName_local (lookup_relabel_local ha) (hC'.ns (N₆ _ (.tail _ (.head _))).1) (fun h₇ hn₇ hs₇ => ?_) (by simp [compEnvC, relabel, hkind])))
  refine assignInOrder_cons (wpAny_assign_Name (wpAny_storeName_local (lookup_relabel_local hb) hn₇ (fun h₈ hn₈ hs₈ => ?_) (by simp [compEnvC, relabel, hkind])))
  refine assignInOrder_cons (wpAny_assign_Name (wpAny_storeName_local (lookup_relabel_local hc) hn₈ (fun h₉ hn₉ hs₉ => ?_) (by simp [compEnvC, relabel, hkind])))
  refine assignInOrder_nil ?_
  have old : ∀ b o, b ≠ (I + 1 + 1 : Nat) → h₅.get? b = some o → h₉.get? b = some o := fun b o hb e => hs₉.extBut b o hb (hs₈.extBut b o hb (hs₇.extBut b o hb (he' b o e)))
  obtain ⟨oC₉, eC₉, hC₉⟩ := LCg.ns_obj hn₉
  have eC₉ : h₉.get? (I + 1 + 1) = some oC₉ := eC₉
  have F₉ : Fr h₀ L h₉ m := (((F₅.keeps he').change hs₇ hCL hCf).change hs₈ hCL hCf).change hs₉ hCL hCf
  have hst₉ : h₉.IsListIter I2 q (j + 1) ∧ h₉.IsList q us.toArray := W2.frame (j + 1) _ _ hst₅ fun b hb o e => old b o (by
   simp only [List.mem_cons, List.not_mem_nil, or_false] at hb
   rcases hb with rfl | rfl
   ·show @Ne Nat _ _; exact lin [_,_] [] [(0,.a (.a (.v 0) (.n 1)) (.n 1),.v 1)] (5,.v 1,.a (.a (.v 0) (.n 1)) (.n 1)) [1,1] [] rfl hC2
   ·have z : @LT.lt Nat _ _ I := hnI _ hq
    show @Ne Nat _ _; exact lin [_,_] [] [(0,.v 0,.v 1)] (5,.v 0,.a (.a (.v 1) (.n 1)) (.n 1)) [-1,1] [] rfl z) e
  obtain ⟨⟨oI2, eI2, cI2, dI2⟩, hlq⟩ := id hst₉
  have N₉ : News h₀ L h₉ ((I2, oI2) :: (I, oI) :: (I + 1 + 1, oC₉) :: (I + 1, LCg.lst ys) :: news) := fun p hp => by
   simp only [List.mem_cons] at hp
   rcases hp with rfl | rfl | rfl | rfl | hp
   ·exact ⟨eI2, fun e => hL2 e.symm, fresh2⟩
   ·have z := N₅ (I, oI) (.head _)
    exact ⟨old _ _ (by show @Ne Nat _ _; exact lin [_] [] [] (5,.v 0,.a (.a (.v 0) (.n 1)) (.n 1)) [-1] [] rfl) z.1, z.2⟩
   ·exact ⟨eC₉, hCL, hCf⟩
   ·have z := N₅ (I + 1, LCg.lst ys) (.tail _ (.tail _ (.head _)))
    exact ⟨old _ _ (by show @Ne Nat _ _; exact lin [_] [] [] (5,.a (.v 0) (.n 1),.a (.a (.v 0) (.n 1)) (.n 1)) [-1] [] rfl) z.1, z.2⟩
   ·have z := N₅ p (.tail _ (.tail _ (.tail _ hp)))
    have y : @LT.lt Nat _ p.1 I := hnI p hp
    exact ⟨old _ _ (by show @Ne Nat _ _; exact lin [_,_] [] [(0,.v 0,.v 1)] (5,.v 0,.a (.a (.v 1) (.n 1)) (.n 1)) [-1,1] [] rfl y) z.1, z.2⟩
  rename_i xq0LCf
  revert _F₀ hclos hcell hkind hnames hx ha hb hc hd h hs hs2 hasc hh F N hq hxs hus hJl hJ0 htr hit2 turn next done hI W hH hst0 hHs up0 fresh hLI hnI hG hGs up1 l1 hns₁ hsb₁ up2 up off0 off3 hne fr_to hi hst xq0LCd xq1LCd xq2LCd hj hlt hP hst₂ hk₂ F₂ offI N₂ hn₃ xq3LCd hs₃ xq4LCd hC₃ eC₃ hCL hCf F₃ eI cI dI N₃ F₄ N₄ xq5LCd hq₄ hls xq6LCd hI2 hq2 hC2 W2 fresh2 hL2 hH4 up4 st4 hR1 hju hst' F' N' hC' hmx hj' offL hjl hst₅ hk₅ hp xq0LCe hv2 F₅ N₅ htp he he' N₆ hn₇ hs₇ hn₈ hs₈ hn₉ hs₉ old xq0LCf hC₉ eC₉ F₉ hst₉ hlq eI2 cI2 dI2 N₉
  exact hPLCf h₆ h₇ h₈ h₉ oC₉ oI2
 : Σ' (PLCf : _ → _ → _ → _ → _ → _ → Prop), (∀ y0 y1 y2 y3 y4 y5, PLCf y0 y1 y2 y3 y4 y5) → LCe_S.1 j h₅ LCe_c.2.2.1 p w1 w2 w3)
noncomputable def LCf_P := fun (y : (_ × _ × _ × _ × _ × _)) => LCf_S.1 y.1 y.2.1 y.2.2.1 y.2.2.2.1 y.2.2.2.2.1 y.2.2.2.2.2
noncomputable def LCf_c := pick (by fail "d") LCf_P
namespace LCf
noncomputable def h₆ := LCf_c.1
noncomputable def h₉ := LCf_c.2.2.2.1
noncomputable def oC₉ := LCf_c.2.2.2.2.1
noncomputable def oI2 := LCf_c.2.2.2.2.2
theorem body : LCf_S.1 h₆ LCf_c.2.1 LCf_c.2.2.1 h₉ oC₉ oI2 := by
 intro _F₀ hclos hcell hkind hnames hx ha hb hc hd h hs hs2 hasc hh F N hq hxs hus hJl hJ0 htr hit2 turn next done hI W hH hst0 hHs up0 fresh hLI hnI hG hGs up1 l1 hns₁ hsb₁ up2 up off0 off3 hne fr_to hi hst xq0LCd xq1LCd xq2LCd hj hlt hP hst₂ hk₂ F₂ offI N₂ hn₃ xq3LCd hs₃ xq4LCd hC₃ eC₃ hCL hCf F₃ eI cI dI N₃ F₄ N₄ xq5LCd hq₄ hls xq6LCd hI2 hq2 hC2 W2 fresh2 hL2 hH4 up4 st4 hR1 hju hst' F' N' hC' hmx hj' offL hjl hst₅ hk₅ hp xq0LCe hv2 F₅ N₅ htp he he' N₆ hn₇ hs₇ hn₈ hs₈ hn₉ hs₉ old xq0LCf hC₉ eC₉ F₉ hst₉ hlq eI2 cI2 dI2 N₉
 refine wpAny_mono (turn H4 i j ys I2 oI2 I oI (I + 1 + 1) oC₉ (I + 1) h₉ _ v p w1 w2 w3 _ _ hlt hP hv2 hp hj' hC₉ (by simp [hd]; exact hmx) (by simp [hd]) (by simp [hd]) (by simp) F₉ N₉ off3 hne) (fun ok s₅ h₅ => ?_) fun _ _ e => e
 have back : ∀ hz, News h₀ L hz ((I2, oI2) :: (I, oI) :: (I + 1 + 1, oC₉) :: (I + 1, LCg.lst ys) :: news) → (hz.IsListIter I2 q (j + 1) ∧ hz.IsList q us.toArray) ∧ News h₀ L hz ((I, oI) :: (I + 1 + 1, oC₉) :: (I + 1, LCg.lst ys) :: news) := fun hz Nz =>
  ⟨⟨⟨oI2, (Nz _ (.head _)).1, cI2, dI2⟩, ⟨_, (Nz (q, listOf us.toArray nq) (.tail _ (.tail _ (.tail _ (.tail _ hq))))).1, rfl, nq, rfl⟩⟩, fun p hp => Nz p (.tail _ hp)⟩
 have hmx9 : (fun y => if y = c then some w3 else if y = b then some w2 else if y = a then some w1 else mC y) x = some v := by simp [hd]; exact hmx
 cases ok with
 | true =>
  simp only [if_true] at h₅ ⊢
  refine wpAny_mono h₅ (fun y s₆ h₆ => ?_) fun _ _ e => e
  obtain ⟨hz, tkz, rfl, Fz, Nz, jz⟩ := h₆
  obtain ⟨stz, Nz'⟩ := back hz Nz
  have zD := (Nz' (I + 1, LCg.lst ys) (.tail _ (.tail _ (.head _)))).1
  have hyl := hJl i j ys hj'
  refine append_at (hsz := by show ys.toArray.size ≤ sizeLine; rw [List.size_toArray, sizeLine_eq]; exact lin [_,_,_,_,_] [] [(1,.v 0,.n 100),(1,.v 1,.n 100),(0,.v 2,.v 0),(0,.v 3,.v 1),(1,.v 4,.a (.m 100 (.v 2)) (.v 3))] (1,.v 4,.n 16777216) [1,100,1,100,1,1] [] rfl hxs hus hlt hjl hyl) zD fun hy hsy hDy => ?_
  have hDL : (I + 1 : Nat) ≠ L := by exact lin [_,_] [] [(0,.v 0,.v 1)] (5,.a (.v 1) (.n 1),.v 0) [1,1] [] rfl hLI
  have hDf : h₀.get? (I + 1) = none := fresh _ (by exact lin [_] [] [] (1,.v 0,.a (.v 0) (.n 1)) [1] [] rfl)
  refine ⟨us.length + 1 - (j + 1), by exact lin [_,_,_,_] [] [(2,.a (.v 0) (.a (.v 1) (.n 1)),.a (.v 2) (.n 1)),(2,.a (.v 3) (.v 1),.a (.v 2) (.n 1))] (0,.v 0,.v 3) [1,1,-1] [] rfl (Nat.sub_add_cancel (by exact lin [_,_] [] [(0,.v 0,.v 1)] (1,.a (.v 0) (.n 1),.a (.v 1) (.n 1)) [1,1] [] rfl hjl)) (Nat.sub_add_cancel (by exact lin [_,_] [] [(0,.v 0,.v 1)] (1,.v 0,.a (.v 1) (.n 1)) [1,1] [] rfl hjl)), hy, tkz, j + 1, ys ++ [y], oC₉, _, rfl, hjl, rfl, W2.frame (j + 1) _ _ stz (fun b hb o e => hsy.extBut b o (by
   simp only [List.mem_cons, List.not_mem_nil, or_false] at hb
   rcases hb with rfl | rfl
   ·show @Ne Nat _ _; exact lin [_,_] [] [(0,.a (.a (.v 0) (.n 1)) (.n 1),.v 1)] (5,.v 1,.a (.v 0) (.n 1)) [1,1] [] rfl hC2
   ·have z : @LT.lt Nat _ _ I := hnI _ hq
    show @Ne Nat _ _; exact lin [_,_] [] [(0,.v 0,.v 1)] (5,.v 0,.a (.v 1) (.n 1)) [-1,1] [] rfl z) e), Fz.change hsy hDL hDf, fun p hp => ?_, hC₉, hmx9, jz⟩
  simp only [List.mem_cons] at hp
  rcases hp with rfl | rfl | rfl | hp
  ·have z := Nz' (I, oI) (.head _)
   exact ⟨hsy.extBut _ _ (by show @Ne Nat _ _; exact lin [_] [] [] (5,.v 0,.a (.v 0) (.n 1)) [-1] [] rfl) z.1, z.2⟩
  ·have z := Nz' (I + 1 + 1, oC₉) (.tail _ (.head _))
   exact ⟨hsy.extBut _ _ (by show @Ne Nat _ _; exact lin [_] [] [] (5,.a (.a (.v 0) (.n 1)) (.n 1),.a (.v 0) (.n 1)) [1] [] rfl) z.1, z.2⟩
  ·exact ⟨hDy.trans (congrArg some (LCg.lst_snoc ys y)), hDL, hDf⟩
  ·have z := Nz' p (.tail _ (.tail _ (.tail _ hp)))
   have y : @LT.lt Nat _ p.1 I := hnI p hp
   exact ⟨hsy.extBut _ _ (by show @Ne Nat _ _; exact lin [_,_] [] [(0,.v 0,.v 1)] (5,.v 0,.a (.v 1) (.n 1)) [-1,1] [] rfl y) z.1, z.2⟩
 | false =>
  simp only [Bool.false_eq_true, if_false] at h₅ ⊢
  obtain ⟨hz, tkz, rfl, Fz, Nz, jz⟩ := h₅
  obtain ⟨stz, Nz'⟩ := back hz Nz
  exact ⟨us.length + 1 - (j + 1), by exact lin [_,_,_,_] [] [(2,.a (.v 0) (.a (.v 1) (.n 1)),.a (.v 2) (.n 1)),(2,.a (.v 3) (.v 1),.a (.v 2) (.n 1))] (0,.v 0,.v 3) [1,1,-1] [] rfl (Nat.sub_add_cancel (by exact lin [_,_] [] [(0,.v 0,.v 1)] (1,.a (.v 0) (.n 1),.a (.v 1) (.n 1)) [1,1] [] rfl hjl)) (Nat.sub_add_cancel (by exact lin [_,_] [] [(0,.v 0,.v 1)] (1,.v 0,.a (.v 1) (.n 1)) [1,1] [] rfl hjl)), hz, tkz, j + 1, ys, oC₉, _, rfl, hjl, rfl, stz, Fz, Nz', hC₉, hmx9, jz⟩
end LCf
theorem body : LCe_S.1 j h₅ LCe_c.2.2.1 p w1 w2 w3 :=
 LCf_S.2 (fun y0 y1 y2 y3 y4 y5 => pick_use (P := LCf_P) (c := LCf_c) rfl LCf.body ((y0, y1, y2, y3, y4, y5))) 
end LCe
theorem body : LCd_S.1 i v LCd_c.1.2.2.1 LCd_c.1.2.2.2.1 LCd_c.1.2.2.2.2.1 LCd_c.1.2.2.2.2.2.1 oI LCd_c.1.2.2.2.2.2.2.2.1 LCd_c.1.2.2.2.2.2.2.2.2.1 I2 H4 LCd_c.1.2.2.2.2.2.2.2.2.2.2.2 LCd_c.2.1 LCd_c.2.2.1 ys oC mC :=
 LCe_S.2 (fun y0 y1 y2 y3 y4 y5 y6 => pick_use (P := LCe_P) (c := LCe_c) rfl LCe.body ((y0, y1, y2, y3, y4, y5, y6))) 
end LCd
theorem body : LCc_S.1 LCc_c.1 LCc_c.2.1 h' tk ys oC mC :=
 LCd_S.2 (fun y0 y1 y2 y3 y4 y5 y6 y7 y8 y9 y10 y11 y12 y13 y14 y15 y16 => pick_use (P := LCd_P) (c := LCd_c) rfl LCd.body ((y0, y1, y2, y3, y4, y5, y6, y7, y8, y9, y10, y11), (y12, y13, y14, y15, y16))) 
end LCc
theorem body : LCb_S.1 s₁ xs tx news q us nq J I H G :=
 LCc_S.2 (fun y0 y1 y2 y3 y4 y5 y6 => pick_use (P := LCc_P) (c := LCc_c) rfl LCc.body ((y0, y1, y2, y3, y4, y5, y6))) 
end LCb
theorem body : LCa_S.1 prog w A E LCa_c.1.2.2.2.2.1 h₀ L m env ct elt iter1 iter2 x a b c px pa pb pc tp kt scope cl pos Q :=
 LCb_S.2 (fun y0 y1 y2 y3 y4 y5 y6 y7 y8 y9 y10 => pick_use (P := LCb_P) (c := LCb_c) rfl LCb.body ((y0, y1, y2, y3, y4, y5, y6, y7, y8, y9, y10))) 
end LCa
theorem ListComp_2x (prog : Program) (w : World) (A : Around) (E : Value → Shared → Prop) (s : Shared) (h₀ : Heap) (L : Addr) (m : PySem.Str → Option Value) (env : Env) (ct elt iter1 iter2 : PySem.Expr) (x a b c : PySem.Str) (px pa pb pc tp : PySem.Pos) (kt : Nat) (scope : Scope) (cl : List (PySem.Str × Addr)) (pos : PySem.Pos) (Q : Value → Shared → Prop) (_F₀ : Fr h₀ L s.heap m)
  (hclos : closureFor scope env = pure cl) (hcell : ∀ y ∈ scope.names, y.2 ≠ .cell) (hkind : scope.kind = .function) (hnames : ∀ y ∈ scope.names, y.2 = .local → scope.names.lookup y.1 = some .local)
  (hx : scope.names.lookup x = some .local) (ha : scope.names.lookup a = some .local) (hb : scope.names.lookup b = some .local) (hc : scope.names.lookup c = some .local) (hd : x ≠ a ∧ x ≠ b ∧ x ≠ c ∧ a ≠ b ∧ a ≠ c ∧ b ≠ c)
  (h : wpAny (model prog w) A (eval iter1 env) (Src2 prog w A h₀ L m env ct elt iter2 x a b c scope cl Q) E s)
  (hs : ∀ x, foldedSetIterable iter1 env x = pure x) (hs2 : ∀ C x, foldedSetIterable iter2 (compEnvC scope cl C env) x = pure x) : wpAny (model prog w) A (eval (comp2 elt (.Name x px) iter1 (.Tuple [.Name a pa, .Name b pb, .Name c pc] kt tp) iter2 ct scope pos) env) Q E s :=
 LCa_S.2 (fun y0 y1 y2 y3 y4 y5 y6 y7 y8 y9 y10 y11 y12 y13 y14 y15 y16 y17 y18 y19 y20 y21 y22 y23 y24 y25 y26 => pick_use (P := LCa_P) (c := LCa_c) rfl LCa.body ((y0, y1, y2, y3, y4, y5, y6, y7, y8, y9, y10, y11), (y12, y13, y14, y15, y16, y17, y18, y19, y20, y21, y22, y23), (y24, y25, y26))) prog w A E s h₀ L m env ct elt iter1 iter2 x a b c px pa pb pc tp kt scope cl pos Q _F₀ hclos hcell hkind hnames hx ha hb hc hd h hs hs2
section
variable {prog : Program} {w : World} {A : Around} {E : Value → Shared → Prop} {s : Shared} {h₀ : Heap} {L : Addr} {m : PySem.Str → Option Value} {env : Env}
theorem ListComp_2 {ct elt iter1 iter2 : PySem.Expr} {x a b c : PySem.Str} {px pa pb pc tp : PySem.Pos} {kt : Nat} {scope : Scope} {cl : List (PySem.Str × Addr)} {pos : PySem.Pos} {Q : Value → Shared → Prop} (_F₀ : Fr h₀ L s.heap m)
  (hclos : closureFor scope env = pure cl) (hcell : ∀ y ∈ scope.names, y.2 ≠ .cell) (hkind : scope.kind = .function) (hnames : ∀ y ∈ scope.names, y.2 = .local → scope.names.lookup y.1 = some .local)
  (hx : scope.names.lookup x = some .local) (ha : scope.names.lookup a = some .local) (hb : scope.names.lookup b = some .local) (hc : scope.names.lookup c = some .local) (hd : x ≠ a ∧ x ≠ b ∧ x ≠ c ∧ a ≠ b ∧ a ≠ c ∧ b ≠ c)
  (h : wpAny (model prog w) A (eval iter1 env) (Src2 prog w A h₀ L m env ct elt iter2 x a b c scope cl Q) E s)
  (hs : ∀ x, foldedSetIterable iter1 env x = pure x := by intro _; rfl) (hs2 : ∀ C x, foldedSetIterable iter2 (compEnvC scope cl C env) x = pure x := by intro _ _; rfl) :
  wpAny (model prog w) A (eval (comp2 elt (.Name x px) iter1 (.Tuple [.Name a pa, .Name b pb, .Name c pc] kt tp) iter2 ct scope pos) env) Q E s :=
 ListComp_2x prog w A E s h₀ L m env ct elt iter1 iter2 x a b c px pa pb pc tp kt scope cl pos Q _F₀ hclos hcell hkind hnames hx ha hb hc hd h hs hs2
end
end Mine
end
section
open PySem PySem.W PySem.Spec PySem.Calls PyProof.Rows PySem.Builtin PySem.Builtin.Str
namespace Mine
open StrLaws
noncomputable def empS : PySem.Str := Str.ofString ""
noncomputable def wordT (ts : List ToldM) : PySem.Str := mkS (wd ts)
theorem join_flat : ∀ l : List PySem.Str, cs (Txt.join empS l) = l.flatMap cs := by
 intro l
 show cs (glued empS l) = _
 rw [glued_eq_join]
 have key : ∀ l : List PySem.Str, cs (Str.join empS l) = l.flatMap cs := by
  intro l
  induction l with
  | nil => rfl
  | cons p r ih =>
   cases r with
   | nil => show cs p = _; simp
   | cons q r =>
    show cs (p ++ empS ++ Str.join empS (q :: r)) = _
    rw [cs_app, cs_app, ih]
    rw [show cs empS = [] by decide +kernel, List.append_nil]
    rfl
 exact key l
noncomputable def wlist (x : PySem.Str) (ts : List ToldM) : List PySem.Str := (ts.filter fun t => t.1 == x).map fun t => Txt.mul x t.2.1
theorem cs_mul {x : PySem.Str} (hx : Ltr x) (n : Int) : cs (Txt.mul x n) = List.replicate n.toNat (lc x) := by
 have e : x = ⟨#[lc x]⟩ := cs_inj (by rw [hx.cs.1]; rfl)
 have h := mul_one_list (lc x) n
 rw [← e] at h
 exact h
theorem wlist_no {x : PySem.Str} {ts : List ToldM} (h : ∀ t ∈ ts, t.1 ≠ x) : wlist x ts = [] := by
 unfold wlist
 rw [List.filter_eq_nil_iff.mpr (by intro t ht; simpa using h t ht)]
 rfl
theorem wlist_flat {x : PySem.Str} (hx : Ltr x) : ∀ {ts : List ToldM}, Distinct ts → (wlist x ts).flatMap cs = List.replicate (tcnt ts x).toNat (lc x)
 | [], _ => rfl
 | t :: r, hd => by
  refine an2 (List.pairwise_cons.mp hd) fun h1 h2 => ?_
  by_cases e : t.1 = x
  ·have hr : wlist x r = [] := wlist_no fun z hz q => h1 z hz (by rw [e, q])
   have e1 : wlist x (t :: r) = Txt.mul x t.2.1 :: wlist x r := by unfold wlist; rw [List.filter_cons, if_pos (by simpa using e)]; rfl
   have e2 : tcnt (t :: r) x = t.2.1 := by unfold tcnt tget; rw [List.find?_cons, show (t.1 == x) = true by simpa using e]
   rw [e1, hr, e2, List.flatMap_cons, List.flatMap_nil, List.append_nil, cs_mul hx]
  ·have e1 : wlist x (t :: r) = wlist x r := by unfold wlist; rw [List.filter_cons, if_neg (by simpa using e)]
   have e2 : tcnt (t :: r) x = tcnt r x := by unfold tcnt tget; rw [List.find?_cons, show (t.1 == x) = false by simpa using e]
   rw [e1, e2]
   exact wlist_flat hx h2
theorem word_one {ts : List ToldM} (hd : Distinct ts) : Txt.join empS ([Str.ofString "a", Str.ofString "b", Str.ofString "c"].flatMap fun x => wlist x ts) = wordT ts := by
 apply cs_inj
 rw [join_flat]
 have ha := wlist_flat (x := Str.ofString "a") (.inl rfl) hd
 have hb := wlist_flat (x := Str.ofString "b") (.inr (.inl rfl)) hd
 have hc := wlist_flat (x := Str.ofString "c") (.inr (.inr rfl)) hd
 simp only [List.flatMap_cons, List.flatMap_nil, List.append_nil, List.flatMap_append, ha, hb, hc]
 show _ = wd ts
 unfold wd word
 rw [show lc (Str.ofString "a") = 97 by decide +kernel, show lc (Str.ofString "b") = 98 by decide +kernel, show lc (Str.ofString "c") = 99 by decide +kernel]
theorem lc_inj {a b : PySem.Str} (ha : Ltr a) (hb : Ltr b) (h : lc a = lc b) : a = b := cs_inj (by rw [ha.cs.1, hb.cs.1, h])
theorem rising_le : ∀ (l : List PySem.Str) (p : PySem.Str), (∀ x ∈ p :: l, Ltr x) → risingS p l = true → ((p :: l).map lc).Pairwise (· ≤ ·)
 | [], p, _, _ => by simp
 | x :: r, p, hl, h => by
  have h' : (!ltCps x.cps.toList p.cps.toList && risingS x r) = true := h
  refine an2 (Bool.and_eq_true_iff.mp h') fun h1 h2 => ?_
  have ih := rising_le r x (fun y hy => hl y (.tail _ hy)) h2
  have hpx : lc p ≤ lc x := by
   have e1 : x.cps.toList = [lc x] := (hl x (.tail _ (.head _))).cs.1
   have e2 : p.cps.toList = [lc p] := (hl p (.head _)).cs.1
   rw [e1, e2, ltCps_eq] at h1
   have h3 : ¬ ([lc x] < [lc p]) := by simpa using h1
   rcases Nat.lt_or_ge (lc x) (lc p) with q | q
   ·exact absurd (List.Lex.rel q) h3
   ·exact q
  rw [List.map_cons, List.pairwise_cons]
  refine ⟨fun z hz => ?_, ih⟩
  rw [List.map_cons] at hz
  rcases List.mem_cons.mp hz with rfl | hz
  ·exact hpx
  ·exact Nat.le_trans hpx (List.rel_of_pairwise_cons (by rw [List.map_cons] at ih; exact ih) hz)
theorem sorted_le {l : List PySem.Str} (hl : ∀ x ∈ l, Ltr x) (h : sortedS l = true) : (l.map lc).Pairwise (· ≤ ·) := by
 cases l with
 | nil => simp
 | cons p r => exact rising_le r p hl h
theorem word_sorted (i j k : Nat) : (word i j k).Pairwise (· ≤ ·) := by
 unfold word
 simp only [List.pairwise_append, List.mem_append, List.mem_replicate]
 refine ⟨List.pairwise_replicate.mpr (.inr (Nat.le_refl _)), ⟨List.pairwise_replicate.mpr (.inr (Nat.le_refl _)), List.pairwise_replicate.mpr (.inr (Nat.le_refl _)), ?_⟩, ?_⟩
 ·rintro a ⟨_, rfl⟩ b ⟨_, rfl⟩; exact lin [] [] [] (1,.n 98,.n 99) [1] [] rfl
 ·rintro a ⟨_, rfl⟩ b (⟨_, rfl⟩ | ⟨_, rfl⟩) <;> (first | exact lin [] [] [] (1,.n 97,.n 98) [1] [] rfl | exact lin [] [] [] (1,.n 97,.n 99) [1] [] rfl)
theorem cnt_list {H : Nat → PySem.Str} (hH : ∀ i, Ltr (H i)) {y : PySem.Str} (hy : Ltr y) (A : Nat → Bool) : ∀ n, (((List.range n).filter A).map fun i => lc (H i)).count (lc y) = cntA H A y n
 | 0 => rfl
 | n + 1 => by
  rw [List.range_succ, List.filter_append, List.map_append, List.count_append, cnt_list hH hy A n]
  show _ = cntA H A y n + _
  congr 1
  by_cases hA : A n = true
  ·rw [show [n].filter A = [n] by simp [hA]]
   by_cases e : H n = y
   ·have e2 : lc (H n) = lc y := by rw [e]
    rw [if_pos ⟨e, hA⟩]; simp [e2]
   ·rw [if_neg (fun q => e q.1)]
    have : lc (H n) ≠ lc y := fun q => e (lc_inj (hH n) hy q)
    simp [this]
  ·rw [show [n].filter A = [] by simp [hA], if_neg (fun q => hA q.2)]
   rfl
section
variable {ns : List Int}
noncomputable def pastN (ns : List Int) (k : Nat) : List Nat := (List.range k).filter (fun i => rP ns i k) ++ [k]
theorem pastN_eq (k : Nat) : pastN ns k = (List.range (k + 1)).filter fun i => rP ns i k := by
 unfold pastN
 rw [List.range_succ, List.filter_append]
 have : rP ns k k = true := by rw [rP_at]; simp
 simp [this]
theorem pastL_map (k : Nat) : pastL ns k = (pastN ns k).map fun i : Nat => (i : Int) := by
 unfold pastL pastN
 rw [List.map_append]; rfl
theorem word_two {k : Nat} (hk : k < 6) {ss : List PySem.Str} (hp : ss.Perm ((pastN ns k).map (rH ns))) (h : sortedS ss = true) : Txt.join empS ss = wordT (rT ns k) := by
 have hl : ∀ x ∈ ss, Ltr x := fun x hx => by
  refine ex1 (List.mem_map.mp (hp.mem_iff.mp hx)) fun i h9_232 => an2 h9_232 fun _ eq9_231 => ?_
  clear h9_232
  subst eq9_231
  exact rH_ltr i
 apply cs_inj
 rw [join_flat]
 have e1 : ss.flatMap cs = ss.map lc := by
  clear hp h
  induction ss with
  | nil => rfl
  | cons x r ih =>
   rw [List.flatMap_cons, List.map_cons, ih fun y hy => hl y (.tail _ hy), (hl x (.head _)).cs.1]
   rfl
 rw [e1]
 refine List.Perm.eq_of_pairwise (le := (· ≤ ·)) (fun a b _ _ h1 h2 => Nat.le_antisymm h1 h2) (sorted_le hl h) (word_sorted _ _ _) ?_
 have hp2 : (ss.map lc).Perm ((pastN ns k).map fun i => lc (rH ns i)) := by
  have := hp.map lc
  rwa [List.map_map] at this
 refine hp2.trans (List.perm_iff_count.mpr fun c => ?_)
 rw [pastN_eq]
 have key : ∀ y, Ltr y → (((List.range (k + 1)).filter fun i => rP ns i k).map fun i => lc (rH ns i)).count (lc y) = (wd (rT ns k)).count (lc y) := fun y hy => by
  rw [cnt_list (H := rH ns) (fun i => rH_ltr i) hy]
  have h1 := (rRun (ns := ns)).count (by decide) k hk y
  have h2 := count_h (rT ns k) hy (cnt_nn hk y)
  exact lin [_,_] [_] [(8,.v 0,.c (.v 0)),(8,.c (.v 1),.v 0)] (2,.v 0,.v 1) [1,-1,-1] [1,1,1] rfl h1 h2
 by_cases hc : c = 97 ∨ c = 98 ∨ c = 99
 ·rcases hc with rfl | rfl | rfl
  ·have := key (Str.ofString "a") (.inl rfl)
   rwa [show lc (Str.ofString "a") = 97 by decide +kernel] at this
  ·have := key (Str.ofString "b") (.inr (.inl rfl))
   rwa [show lc (Str.ofString "b") = 98 by decide +kernel] at this
  ·have := key (Str.ofString "c") (.inr (.inr rfl))
   rwa [show lc (Str.ofString "c") = 99 by decide +kernel] at this
 ·rw [List.count_eq_zero.mpr ?_, List.count_eq_zero.mpr ?_]
  ·show c ∉ wd (rT ns k)
   unfold wd word
   simp only [List.mem_append, List.mem_replicate]
   intro h
   refine absurd ?_ (show ¬(c = 97 ∨ c = 98 ∨ c = 99) by assumption)
   rcases h with h | h | h
   ·exact .inl h.2
   ·exact .inr (.inl h.2)
   ·exact .inr (.inr h.2)
  ·intro hm
   refine ex1 (List.mem_map.mp hm) fun i h9_233 => an2 h9_233 fun _ e => ?_
   clear h9_233
   have h5 := (rH_ltr (ns := ns) i).cs.2
   exact absurd (show c = 97 ∨ c = 98 ∨ c = 99 from e ▸ h5) (by assumption)
theorem own_last (k : Nat) : ∃ l n r, rT ns k = l ++ [(rH ns k, n, r)] := by
 rw [rT_ev]
 refine ex3 (event_last (rClk ns (rH ns k) k) (tAt (rT ns) (rHear ns k)) (rH ns k) (rDress ns k)) fun l n r e => ?_
 exact ⟨l, n, r, e⟩
end
end Mine
end
section
open PySem PySem.W PySem.Spec PySem.Calls PyProof.Rows
namespace Mine
section
variable {prog : Program} {w : World} {A : Around} {E : Value → Shared → Prop} {s : Shared} {env : Env} {body : List Stmt} {Q : Flow → Shared → Prop}
theorem iter_rangeT {h₀ : Heap} (top : Nat) {x : PySem.Str} {px : PySem.Pos} {r : Addr} {t₀ u₀ v₀ : Tok} {n : Nat} {m₀ : PySem.Str → Option Value} {news : List (Addr × Obj)} (J : Heap → Nat → (PySem.Str → Option Value) → List (Addr × Obj) → Prop)
  (hh : A.handled = none) (hr : IsRange s.heap r 0 (n : Int) 1 t₀ u₀ v₀) (hsmall : Builtin.Range.small 0 (n : Int) 1 = true) (hn : Builtin.Range.rangeSize 0 (n : Int) 1 = (n : Int)) (F : Fr h₀ env.locals s.heap m₀) (N : News h₀ env.locals s.heap news)
  (ht : @LT.lt Nat _ top s.heap.objs.size) (hJ : J h₀ 0 m₀ news)
  (turn : ∀ i g m₁ nx I t h tk, i < n → @LT.lt Nat _ top I → J g i m₁ nx → (∀ p ∈ nx, p.1 ≠ I) → Fr g env.locals h m₁ → News g env.locals h ((I, itR ((i + 1 : Nat) : Int) ((n : Int) - ((i + 1 : Nat) : Int))) :: nx) →
   wpAny (model prog w) A (assign (.Name x px) env (.int (i : Int) t)) (fun _ s₂ => wpAny (model prog w) A (execs body env)
    (RngPost env.locals (fun g' m' nx' => J g' (i + 1) m' nx') I (itR ((i + 1 : Nat) : Int) ((n : Int) - ((i + 1 : Nat) : Int))) { s with heap := h, toks := tk } Q) E s₂) E { s with heap := h, toks := tk })
  (done : ∀ g m' nx h tk, J g n m' nx → Fr g env.locals h m' → News g env.locals h nx → Q .next { s with heap := h, toks := tk }) :
  wpAny (model prog w) A (pyIter (.ref r)) (fun it s₂ => AtB prog w A env (.Name x px) body Q E it s₂) E s := by
 refine wpAny_pyIter_range hr hsmall ?_
 generalize hI : s.heap.objs.size = I at ht ⊢
 have W : Walks prog w A I [I] [I] n (fun i v => ∃ t, v = .int ((0 : Int) + i * 1) t) (fun i h => IsRangeIter h I ((0 : Int) + (i : Nat) * 1) ((n : Int) - (i : Nat)) 1) := Walks.range hh I 0 1 n
 have hnI : ∀ p ∈ news, p.1 ≠ I := fun p hp e => absurd (Heap.lt_size (N p hp).1) (by rw [e, hI]; exact Nat.lt_irrefl _)
 have hLI : env.locals ≠ I := fun e => absurd F.ns.lt (by rw [e, hI]; exact Nat.lt_irrefl _)
 refine ⟨fun k s' => ∃ g h' tk m' nx i, s' = { s with heap := h', toks := tk } ∧ IsRangeIter h' I ((0 : Int) + (i : Nat) * 1) ((n : Int) - (i : Nat)) 1 ∧ Fr g env.locals h' m' ∧ News g env.locals h' nx ∧ (∀ p ∈ nx, p.1 ≠ I) ∧ g.get? I = none ∧ J g i m' nx ∧ i ≤ n ∧ k = n + 1 - i, n + 1, ?_, ?_⟩
 ·refine ⟨h₀, _, _, m₀, news, 0, rfl, ?_, F.push _, (fun p hp => ⟨Heap.get?_push_of_some _ (N p hp).1, (N p hp).2⟩), hnI, ?_, hJ, Nat.zero_le _, rfl⟩
  ·show IsRangeIter _ _ _ _ _
   rw [hn, ← hI]
   simpa using Heap.get?_push_size _ rfl
  ·rw [← hI]; exact next_is_new F
 intro k s' hI9_229
 refine ex6 hI9_229 fun g h' tk m' nx i h9_261 => an9 h9_261 fun eq9_259 hst F' N' hne hgI hj hi eq9_260 => ?_
 clear h9_261
 try clear hI9_229
 subst eq9_259
 subst eq9_260
 have next : ∀ h₁ : Heap, (∀ b o, b ∉ [I] → h'.get? b = some o → h₁.get? b = some o) → Fr g env.locals h₁ m' ∧ News g env.locals h₁ nx := fun h₁ hk₁ =>
  ⟨⟨F'.ns.at' fun o e => hk₁ _ o (by simpa using hLI) e, fun b o e => hk₁ b o (fun q => by rw [List.mem_singleton.mp q, hgI] at e; cases e) (F'.keep b o e), F'.above⟩, fun p hp => ⟨hk₁ _ _ (by simpa using hne p hp) (N' p hp).1, (N' p hp).2⟩⟩
 by_cases hlt : i < n
 ·refine W.item i _ _ _ hlt hst fun v h₁ tk₁ hP hst₁ hk₁ => ?_
  refine an2 (next h₁ hk₁) fun F₁ N₁ => ?_
  refine ex1 hP fun t eq9_262 => ?_
  try clear hP
  subst eq9_262
  have e1 : (0 : Int) + (i : Int) * 1 = (i : Int) := by exact lin [_] [] [] (8,.a (.n 0) (.r (.c (.v 0)) 1),.c (.v 0)) [1] [1] rfl
  have e2 : (0 : Int) + ((i + 1 : Nat) : Int) * 1 = ((i + 1 : Nat) : Int) := by exact lin [_] [] [] (8,.a (.n 0) (.r (.c (.a (.v 0) (.n 1))) 1),.c (.a (.v 0) (.n 1))) [1] [1] rfl
  dsimp only
  rw [e1]
  have hst₂ : h₁.get? I = some (itR ((i + 1 : Nat) : Int) ((n : Int) - ((i + 1 : Nat) : Int))) := by
   have q : IsRangeIter h₁ I ((0 : Int) + ((i + 1 : Nat) : Int) * 1) ((n : Int) - ((i + 1 : Nat) : Int)) 1 := hst₁
   rw [e2] at q
   exact q
  have N₂ : News g env.locals h₁ ((I, itR ((i + 1 : Nat) : Int) ((n : Int) - ((i + 1 : Nat) : Int))) :: nx) := fun p hp => by
   rcases List.mem_cons.mp hp with rfl | hp
   ·exact ⟨hst₂, fun e => hLI e.symm, hgI⟩
   ·exact N₁ p hp
  unfold letOwnedTupleGo
  refine wpAny_pure (wpAny_mono (turn i g m' nx I t h₁ tk₁ hlt ht hj hne F₁ N₂) (fun _ s₂ q => wpAny_mono q (fun f s₃ q₃ => ?_) fun _ _ e => e) fun _ _ e => e)
  have fin : RngEnd env.locals (fun g' m' nx' => J g' (i + 1) m' nx') I (itR ((i + 1 : Nat) : Int) ((n : Int) - ((i + 1 : Nat) : Int))) { s with heap := h₁, toks := tk₁ } s₃ →
    ∃ k, k < n + 1 - i ∧ ∃ g h' tk m' nx i, s₃ = { s with heap := h', toks := tk } ∧ IsRangeIter h' I ((0 : Int) + (i : Nat) * 1) ((n : Int) - (i : Nat)) 1 ∧ Fr g env.locals h' m' ∧ News g env.locals h' nx ∧ (∀ p ∈ nx, p.1 ≠ I) ∧ g.get? I = none ∧ J g i m' nx ∧ i ≤ n ∧ k = n + 1 - i := by
   intro hI9_230
   refine ex5 hI9_230 fun g' h' tk m' nx' h9_263 => an5 h9_263 fun e F' N' hne' hj' => ?_
   clear h9_263
   try clear hI9_230
   refine ⟨n + 1 - (i + 1), by exact lin [_,_,_,_] [] [(2,.a (.v 0) (.a (.v 1) (.n 1)),.a (.v 2) (.n 1)),(2,.a (.v 3) (.v 1),.a (.v 2) (.n 1))] (0,.v 0,.v 3) [1,1,-1] [] rfl (Nat.sub_add_cancel (by exact lin [_,_] [] [(0,.v 0,.v 1)] (1,.a (.v 0) (.n 1),.a (.v 1) (.n 1)) [1,1] [] rfl hlt)) (Nat.sub_add_cancel (by exact lin [_,_] [] [(0,.v 0,.v 1)] (1,.v 0,.a (.v 1) (.n 1)) [1,1] [] rfl hlt)), g', h', tk, m', nx', i + 1, e, ?_, F', (fun p hp => N' p (.tail _ hp)), hne', (N' _ (.head _)).2.2, hj', hlt, rfl⟩
   show IsRangeIter _ _ _ _ _
   rw [e2]
   exact (N' _ (.head _)).1
  cases f with
  | ret v => exact q₃
  | brk => exact q₃
  | next => exact fin q₃
  | cont => exact fin q₃
 ·have hin : i = n := by exact lin [_,_] [] [(1,.v 0,.v 1),(3,.v 0,.v 1)] (2,.v 0,.v 1) [1,1,0] [1,0,1] rfl hi hlt
  subst hin
  refine W.done _ _ _ hst fun h₁ tk₁ hk₁ => ?_
  refine an2 (next h₁ hk₁) fun F₁ N₁ => ?_
  exact done g m' nx h₁ tk₁ hj F₁ N₁
noncomputable abbrev WLed (B W : Addr) (oK oH oT : Obj) (ws : List Value) (nw : Nat) (R : List (Addr × Obj)) : List (Addr × Obj) := (W, listOf (List.toArray ws) nw) :: (B + 1 + 1 + 1, oK) :: (B + 1 + 1, oH) :: (B + 1, oT) :: R
noncomputable def wTexts (ns : List Int) (k : Nat) : List PySem.Str := (List.range k).map fun i => wordT (rT ns i)
theorem wTexts_succ (ns : List Int) (k : Nat) : wTexts ns (k + 1) = wTexts ns k ++ [wordT (rT ns k)] := by
 unfold wTexts
 rw [List.range_succ, List.map_append]; rfl
noncomputable def WNames (W P : Addr) (m : PySem.Str → Option Value) : Prop := m (Str.ofString "words") = some (.ref W) ∧ m (Str.ofString "pasts") = some (.ref P)
theorem WNames.open_ {W P : Addr} {m : PySem.Str → Option Value} (h : WNames W P m) : m = fun y => if y = Str.ofString "words" then some (.ref W) else if y = Str.ofString "pasts" then some (.ref P) else m y := by
 refine an2 h fun h1 h2 => ?_
 try clear h
 exact chain_open (l := [(Str.ofString "words", .ref W), (Str.ofString "pasts", .ref P)]) (by
  intro p hp
  simp only [List.mem_cons, List.not_mem_nil, or_false] at hp
  rcases hp with rfl | rfl <;> assumption)
noncomputable def WJ (ns : List Int) (g₀ : Heap) (B W P : Addr) (oH oT : Obj) (news : List (Addr × Obj)) (g : Heap) (k : Nat) (m : PySem.Str → Option Value) (nx : List (Addr × Obj)) : Prop :=
 g = g₀ ∧ WNames W P m ∧ ∃ oK vK ws nw, nx = WLed B W oK oH oT ws nw news ∧ oK.data = .cell vK ∧ StrsAre ws (wTexts ns k)
theorem words_iter {px : PySem.Pos} {kn : PySem.Str} {r : Addr} {t₀ u₀ v₀ : Tok} {m₀ : PySem.Str → Option Value} {g₀ : Heap} (ns : List Int) {B W P : Addr} {oK oH oT : Obj} {vK : Option Value} {nw : Nat} {news : List (Addr × Obj)}
  (hh : A.handled = none) (hr : IsRange s.heap r 0 (6 : Int) 1 t₀ u₀ v₀) (F : Fr g₀ env.locals s.heap m₀) (N : News g₀ env.locals s.heap (WLed B W oK oH oT [] nw news)) (hm : WNames W P m₀) (eK : oK.data = .cell vK) (hlt : @LT.lt Nat _ (B + 3) W ∧ AllLt W news)
  (turn : ∀ (k : Nat) (m₁ : PySem.Str → Option Value) (oK : Obj) (vK : Option Value) (ws : List Value) (nw : Nat) (I : Addr) (t : Tok) (h : Heap) (tk : Nat), k < 6 → @LT.lt Nat _ W I → (∀ p ∈ (B + 1 + 1 + 1, oK) :: (B + 1 + 1, oH) :: (B + 1, oT) :: news, p.1 ≠ W) → oK.data = .cell vK → StrsAre ws (wTexts ns k) → (∀ p ∈ WLed B W oK oH oT ws nw news, p.1 ≠ I) →
   Fr g₀ env.locals h (fun y => if y = Str.ofString "words" then some (.ref W) else if y = Str.ofString "pasts" then some (.ref P) else m₁ y) → News g₀ env.locals h ((I, itR ((k + 1 : Nat) : Int) ((6 : Nat) - ((k + 1 : Nat) : Int))) :: WLed B W oK oH oT ws nw news) →
   wpAny (model prog w) A (assign (.Name kn px) env (.int (k : Int) t)) (fun _ s₂ => wpAny (model prog w) A (execs body env)
    (RngPost env.locals (fun g' m' nx' => WJ ns g₀ B W P oH oT news g' (k + 1) m' nx') I (itR ((k + 1 : Nat) : Int) ((6 : Nat) - ((k + 1 : Nat) : Int))) { s with heap := h, toks := tk } Q) E s₂) E { s with heap := h, toks := tk })
  (done : ∀ (m₁ : PySem.Str → Option Value) (oK : Obj) (ws : List Value) (nw : Nat) (h : Heap) (tk : Nat), StrsAre ws (wTexts ns 6) →
   Fr g₀ env.locals h (fun y => if y = Str.ofString "words" then some (.ref W) else if y = Str.ofString "pasts" then some (.ref P) else m₁ y) → News g₀ env.locals h (WLed B W oK oH oT ws nw news) → Q .next { s with heap := h, toks := tk }) :
  wpAny (model prog w) A (pyIter (.ref r)) (fun it s₂ => AtB prog w A env (.Name kn px) body Q E it s₂) E s := by
 refine iter_rangeT (n := 6) W (fun g k m nx => WJ ns g₀ B W P oH oT news g k m nx) hh hr (by decide) (by decide) F N (Heap.lt_size (N _ (.head _)).1) ⟨rfl, hm, oK, vK, [], nw, rfl, eK, .nil⟩ ?_ ?_
 ·rintro i g m₁ nx I t h tk hi hI ⟨rfl, hm', oK, vK, ws, nw, rfl, eK, hw⟩ hne F' N'
  rw [hm'.open_] at F'
  refine turn i m₁ oK vK ws nw I t h tk hi hI (fun p hp => ?_) eK hw hne F' N'
  simp only [List.mem_cons] at hp
  rcases hp with rfl | rfl | rfl | hp
  ·show @Ne Nat _ _; dsimp only; exact lin [_,_] [] [(0,.a (.v 0) (.n 3),.v 1)] (5,.a (.a (.a (.v 0) (.n 1)) (.n 1)) (.n 1),.v 1) [-1,1] [] rfl hlt.1
  ·show @Ne Nat _ _; dsimp only; exact lin [_,_] [] [(0,.a (.v 0) (.n 3),.v 1)] (5,.a (.a (.v 0) (.n 1)) (.n 1),.v 1) [-1,1] [] rfl hlt.1
  ·show @Ne Nat _ _; dsimp only; exact lin [_,_] [] [(0,.a (.v 0) (.n 3),.v 1)] (5,.a (.v 0) (.n 1),.v 1) [-1,1] [] rfl hlt.1
  ·exact Nat.ne_of_lt (ktn_ltOf hlt.2 p hp)
 ·rintro g m₁ nx h tk ⟨rfl, hm', oK, vK, ws, nw, rfl, eK, hw⟩ F' N'
  rw [hm'.open_] at F'
  exact done m₁ oK ws nw h tk hw F' N'
end
noncomputable def abcL : List PySem.Str := [Str.ofString "a", Str.ofString "b", Str.ofString "c"]
noncomputable def emW (ts : List ToldM) (i j : Nat) : List PySem.Str := ((abcL.take i).flatMap fun x => wlist x ts) ++ wlist (abcL.getD i empS) (ts.take j)
theorem wlist_len (x : PySem.Str) (ts : List ToldM) : (wlist x ts).length ≤ ts.length := by
 unfold wlist
 rw [List.length_map]
 exact List.length_filter_le _ _
theorem emW_next {ts : List ToldM} {i : Nat} (hi : i < 3) : emW ts i ts.length = emW ts (i + 1) 0 := by
 unfold emW
 rw [List.take_length, List.take_zero, show wlist (abcL.getD (i + 1) empS) [] = [] from rfl, List.append_nil]
 match i, hi with
 | 0, _ => simp [abcL]
 | 1, _ => simp [abcL]
 | 2, _ => simp [abcL]
theorem emW_len {ts : List ToldM} (h3 : ts.length ≤ 3) (i j : Nat) : (emW ts i j).length ≤ 100 * i + j := by
 unfold emW
 have h1 := wlist_len (abcL.getD i empS) (ts.take j)
 rw [List.length_take] at h1
 have ha := wlist_len (Str.ofString "a") ts
 have hb := wlist_len (Str.ofString "b") ts
 have hc := wlist_len (Str.ofString "c") ts
 rw [List.length_append]
 have h2 : ((abcL.take i).flatMap fun x => wlist x ts).length ≤ 100 * i := by
  match i with
  | 0 => simp
  | 1 => simp [abcL]; exact lin [_,_] [] [(1,.v 0,.n 3),(1,.v 1,.v 0)] (1,.v 1,.n 100) [1,1,1] [] rfl h3 ha
  | 2 => simp [abcL]; exact lin [_,_,_] [] [(1,.v 0,.n 3),(1,.v 1,.v 0),(1,.v 2,.v 0)] (1,.a (.v 1) (.v 2),.n 200) [1,2,1,1] [] rfl h3 ha hb
  | n + 3 => simp [abcL]; exact lin [_,_,_,_,_] [] [(1,.v 0,.n 3),(1,.v 1,.v 0),(1,.v 2,.v 0),(1,.v 3,.v 0)] (1,.a (.v 1) (.a (.v 2) (.v 3)),.m 100 (.a (.v 4) (.n 3))) [1,3,1,1,1] [] rfl h3 ha hb hc
 exact lin [_,_,_,_,_] [] [(1,.v 0,.v 1),(1,.v 2,.m 100 (.v 3)),(1,.v 1,.v 4)] (1,.a (.v 2) (.v 0),.a (.m 100 (.v 3)) (.v 4)) [1,1,1,1] [] rfl h1 h2 (Nat.min_le_left _ _)
theorem wlist_snoc {x : PySem.Str} {ts : List ToldM} {j : Nat} {t : ToldM} (h : ts[j]? = some t) : wlist x (ts.take (j + 1)) = wlist x (ts.take j) ++ (if (t.1 == x) = true then [Txt.mul x t.2.1] else []) := by
 unfold wlist
 rw [List.take_add_one, h, List.filter_append, List.map_append]
 congr 1
 by_cases e : (t.1 == x) = true
 ·rw [if_pos e]; simp [e]
 ·rw [if_neg e]; simp [e]
theorem emW_yes {ts : List ToldM} {i j : Nat} {t : ToldM} {ys : List Value} {tk : Tok} (h : ts[j]? = some t) (e : (t.1 == abcL.getD i empS) = true) (hJ : StrsAre ys (emW ts i j)) : StrsAre (ys ++ [.str (Txt.mul (abcL.getD i empS) t.2.1) tk]) (emW ts i (j + 1)) := by
 unfold emW at hJ ⊢
 rw [wlist_snoc h, if_pos e, ← List.append_assoc]
 exact StrsAre.app hJ (.cons _ _ .nil)
theorem emW_no {ts : List ToldM} {i j : Nat} {t : ToldM} {ys : List Value} (h : ts[j]? = some t) (e : ¬ (t.1 == abcL.getD i empS) = true) (hJ : StrsAre ys (emW ts i j)) : StrsAre ys (emW ts i (j + 1)) := by
 unfold emW at hJ ⊢
 rw [wlist_snoc h, if_neg e, List.append_nil]
 exact hJ
theorem emW_all (ts : List ToldM) : emW ts 3 0 = [Str.ofString "a", Str.ofString "b", Str.ofString "c"].flatMap fun x => wlist x ts := by
 unfold emW
 rw [List.take_zero, show wlist (abcL.getD 3 empS) [] = [] from rfl, List.append_nil]
 rfl
theorem sign_abc {i : Nat} {v : Value} (h : SignAt (Str.ofString "abc") i v) : ∃ u, v = .str (abcL.getD i empS) u ∧ Ltr (abcL.getD i empS) := by
 refine ex2 h fun c u h9_265 => an2 h9_265 fun h1 eq9_264 => ?_
 clear h9_265
 try clear h
 subst eq9_264
 have hc : (Str.ofString "abc" : PySem.Str).cps = #[97, 98, 99] := by decide +kernel
 rw [hc] at h1
 match i, h1 with
 | 0, h1 => exact ⟨u, by have : c = 97 := (by simpa using h1.symm); subst this; exact congrArg (fun x => Value.str x u) (cs_inj (by decide +kernel)), .inl rfl⟩
 | 1, h1 => exact ⟨u, by have : c = 98 := (by simpa using h1.symm); subst this; exact congrArg (fun x => Value.str x u) (cs_inj (by decide +kernel)), .inr (.inl rfl)⟩
 | 2, h1 => exact ⟨u, by have : c = 99 := (by simpa using h1.symm); subst this; exact congrArg (fun x => Value.str x u) (cs_inj (by decide +kernel)), .inr (.inr rfl)⟩
 | n + 3, h1 => simp at h1
theorem told_mem {news : List (Addr × Obj)} {us : List Value} {ts : List ToldM} (h : ToldIn news us ts) : ∀ v ∈ us, ∃ p v1 v2 v3, v = Value.ref p ∧ (p, tupOf [v1, v2, v3]) ∈ news := fun v hv => by
 refine ex1 (List.mem_iff_getElem?.mp hv) fun i hi => ?_
 refine ex6 (h.get hi) fun q _ _ _ _ _ h9_267 => ex1 h9_267 fun _ h9_268 => an3 h9_268 fun eq9_266 hm _ => ?_
 clear h9_268 h9_267
 subst eq9_266
 exact ⟨q, _, _, _, rfl, hm⟩
theorem told_at {news : List (Addr × Obj)} {us : List Value} {ts : List ToldM} {h₀ h : Heap} {L p : Addr} {v1 v2 v3 : Value} {j : Nat} (hT : ToldIn news us ts) (N : News h₀ L h news) (hj : us[j]? = some (Value.ref p)) (hm : (p, tupOf [v1, v2, v3]) ∈ news) :
  ∃ t t1 t2 t3, ts[j]? = some t ∧ v1 = .str t.1 t1 ∧ v2 = .int t.2.1 t2 ∧ v3 = .str t.2.2 t3 := by
 refine ex6 (hT.get hj) fun q l n r t1 t2 h9_269 => ex1 h9_269 fun t3 h9_270 => an3 h9_270 fun e hm' ht => ?_
 clear h9_270 h9_269
 obtain rfl : p = q := by simpa using e
 have e1 := (N _ hm).1
 have e2 := (N _ hm').1
 rw [e1] at e2
 have e3 : tupOf [v1, v2, v3] = tupOf [.str l t1, .int n t2, .str r t3] := Option.some.inj e2
 have e4 : [v1, v2, v3] = [.str l t1, .int n t2, .str r t3] := by
  have := congrArg Obj.data e3
  simpa [tupOf] using this
 simp only [List.cons.injEq, and_true] at e4
 refine an3 e4 fun eq9_271 eq9_272 eq9_273 => ?_
 try clear e4
 subst eq9_271
 subst eq9_272
 subst eq9_273
 exact ⟨_, _, _, _, ht, rfl, rfl, rfl⟩
theorem pastL_get {ns : List Int} {k i : Nat} {z : Int} (h : (pastL ns k)[i]? = some z) : ∃ j : Nat, z = (j : Int) ∧ j ≤ k ∧ (pastN ns k)[i]? = some j := by
 rw [pastL_map, List.getElem?_map] at h
 refine ex1 (Option.map_eq_some_iff.mp h) fun j h9_275 => an2 h9_275 fun hj eq9_274 => ?_
 clear h9_275
 subst eq9_274
 refine ⟨j, rfl, ?_, hj⟩
 have hm := List.mem_of_getElem? hj
 unfold pastN at hm
 rcases List.mem_append.mp hm with hm | hm
 ·exact Nat.le_of_lt (List.mem_range.mp (List.mem_filter.mp hm).1)
 ·exact Nat.le_of_eq (List.mem_singleton.mp hm)
theorem pastL_len (ns : List Int) (k : Nat) : (pastL ns k).length ≤ k + 1 := by
 rw [pastL_eq, List.length_append]
 have := pre_len ns k k
 simp; exact lin [_,_] [] [(1,.v 0,.v 1)] (1,.v 0,.v 1) [1,1] [] rfl this
theorem pastN_len (ns : List Int) (k : Nat) : (pastN ns k).length = (pastL ns k).length := by rw [pastL_map, List.length_map]
theorem host_snoc {ns : List Int} {ys : List Value} {i j : Nat} {t : Tok} {x : PySem.Str} {l : List Nat} (hx : x = rH ns j) (hj : l[i]? = some j) (h : StrsAre ys ((l.take i).map (rH ns))) : StrsAre (ys ++ [.str x t]) ((l.take (i + 1)).map (rH ns)) := by
 rw [List.take_add_one, hj, Option.toList_some, List.map_append, hx]
 exact StrsAre.app h (.cons _ _ .nil)
theorem sum_map_constM {l : List PySem.Str} (h : ∀ x ∈ l, x.length ≤ 10) : (l.map (·.length)).sum ≤ 10 * l.length := by
 induction l with
 | nil => simp
 | cons a r ih =>
  have h1 := h a (.head _)
  have h2 := ih fun x hx => h x (.tail _ hx)
  simp only [List.map_cons, List.sum_cons, List.length_cons]
  exact lin [_,_,_] [] [(1,.v 0,.n 10),(1,.v 1,.m 10 (.v 2))] (1,.a (.v 0) (.v 1),.m 10 (.a (.v 2) (.n 1))) [1,1,1] [] rfl h1 h2
theorem wordT_len {ns : List Int} {k : Nat} (hk : k < 6) : (wordT (rT ns k)).length ≤ 100 := by
 have hf := (rRun (ns := ns)).fit (by decide) k hk
 have key : ∀ y, tcnt (rT ns k) y ≤ 6 := fun y => by
  unfold tcnt
  cases q : tget (rT ns k) y with
  | none => decide
  | some o => have := hf.top o (tget_some q).1; show o.2.1 ≤ 6; exact lin [_] [_] [(0,.v 0,.n 6),(7,.v 0,.a (.c (.v 0)) (.n 1))] (7,.v 0,.n 6) [1,1,1] [] rfl hk this
 have ha := key (Str.ofString "a")
 have hb := key (Str.ofString "b")
 have hc := key (Str.ofString "c")
 unfold wordT
 rw [mk_len]
 unfold wd
 rw [word_len]
 exact Nat.le_trans (Nat.add_le_add (Nat.add_le_add (Int.toNat_le.mpr ha) (Int.toNat_le.mpr hb)) (Int.toNat_le.mpr hc)) (by decide)
theorem emW_sum {ns : List Int} {k : Nat} (hk : k < 6) : (([Str.ofString "a", Str.ofString "b", Str.ofString "c"].flatMap fun x => wlist x (rT ns k)).map (·.length)).sum + ([Str.ofString "a", Str.ofString "b", Str.ofString "c"].flatMap fun x => wlist x (rT ns k)).length * (Str.ofString "" : PySem.Str).length ≤ 16777216 := by
 have hf := (rRun (ns := ns)).fit (by decide) k hk
 have h3 := emW_len hf.len 3 0
 rw [emW_all] at h3
 have hm : ∀ x ∈ ([Str.ofString "a", Str.ofString "b", Str.ofString "c"].flatMap fun x => wlist x (rT ns k)), x.length ≤ 10 := fun x hx => by
  refine ex1 (List.mem_flatMap.mp hx) fun y h9_276 => an2 h9_276 fun hy hx => ?_
  clear h9_276
  unfold wlist at hx
  refine ex1 (List.mem_map.mp hx) fun t h9_278 => an2 h9_278 fun ht eq9_277 => ?_
  clear h9_278
  subst eq9_277
  have hL : Ltr y := by
   simp only [List.mem_cons, List.not_mem_nil, or_false] at hy
   exact hy
  have := hf.top t (List.mem_filter.mp ht).1
  rw [← cs_len, cs_mul hL, List.length_replicate]
  exact Int.toNat_le.mpr (by exact lin [_] [_] [(0,.v 0,.n 6),(7,.v 0,.a (.c (.v 0)) (.n 1))] (7,.v 0,.c (.n 10)) [1,1,1] [] rfl hk this)
 have := sum_map_constM hm
 have e : (Str.ofString "" : PySem.Str).length = 0 := rfl
 rw [e]
 exact lin [_,_] [] [(1,.v 0,.a (.m 100 (.n 3)) (.n 0)),(1,.v 1,.m 10 (.v 0))] (1,.a (.v 1) (.r (.v 0) 0),.n 16777216) [1,10,1] [] rfl h3 this
theorem told_last {news : List (Addr × Obj)} {t : ToldM} : ∀ {l : List ToldM} {us : List Value} {ts : List ToldM}, ToldIn news us ts → ts = l ++ [t] → ∃ us0 p t1 t2 t3, us = us0 ++ [Value.ref p] ∧ (p, tupOf [.str t.1 t1, .int t.2.1 t2, .str t.2.2 t3]) ∈ news
 | [], us, ts, h, e => by
  subst e
  cases h with
  | cons m h' =>
   cases h'
   exact ⟨[], _, _, _, _, rfl, m⟩
 | a :: l, us, ts, h, e => by
  subst e
  cases h with
  | cons m h' =>
   refine ex5 (told_last h' rfl) fun us0 p t1 t2 t3 h9_280 => an2 h9_280 fun eq9_279 hm => ?_
   clear h9_280
   subst eq9_279
   exact ⟨_ :: us0, p, t1, t2, t3, rfl, hm⟩
theorem wled_ne {B W I : Addr} {oK oK' oH oT : Obj} {ws ws' : List Value} {nw nw' : Nat} {R : List (Addr × Obj)} (h : ∀ p ∈ WLed B W oK oH oT ws nw R, p.1 ≠ I) : ∀ p ∈ WLed B W oK' oH oT ws' nw' R, p.1 ≠ I := fun p hp => by
 simp only [List.mem_cons] at hp
 rcases hp with rfl | rfl | rfl | rfl | hp
 ·exact h (W, listOf (List.toArray ws) nw) (.head _)
 ·exact h (_, oK) (.tail _ (.head _))
 ·exact h _ (.tail _ (.tail _ (.head _)))
 ·exact h _ (.tail _ (.tail _ (.tail _ (.head _))))
 ·exact h p (.tail _ (.tail _ (.tail _ (.tail _ hp))))
theorem news_skip3b {h₀ h : Heap} {L : Addr} {a b c : Addr × Obj} {r : List (Addr × Obj)} (N : News h₀ L h (a :: b :: c :: r)) : News h₀ L h r := fun q hq => N q (.tail _ (.tail _ (.tail _ hq)))
end Mine
end
section
local macro_rules | `(tactic| omega) => `(tactic| fail "OW")
theorem Mine.clean_B2 : Mine.CleanT := by
 intro M A Q E s h
 w_top off
 first
  | (walk1; fail_if_success skip)
  | exact h
open PySem PySem.W PyProof.Rows
namespace Mine
local macro_rules | `(tactic| k_all) => `(tactic| exact offLt (by assumption) (by omega))
local macro_rules | `(tactic| k_all) => `(tactic| assumption)
local macro_rules | `(tactic| k_mem) => `(tactic| assumption)
local macro_rules | `(tactic| walk_at "exec For") => `(tactic| (refine Hold.un ?_))
local macro_rules | `(tactic| walk_at "subscriptTail") => `(tactic| ((with_reducible show wpAny _ _ (subscriptTail _ _ (Value.ref _) (Value.int (Nat.cast _) _)) _ _ _); refine Au.un 1 ?_))
local macro_rules | `(tactic| walk_at "subscriptTail") => `(tactic| ((with_reducible show wpAny _ _ (subscriptTail _ _ (Value.ref _) (Value.int (-1) _)) _ _ _); refine Au.un 1 ?_))
local macro_rules | `(tactic| walk_at "Src2") => `(tactic| (refine Hold.un ?_))
local macro_rules | `(tactic| walk_at "CompSrc") => `(tactic| (refine Hold.un ?_))
local macro_rules | `(tactic| walk_at "eval ListComp") => `(tactic| (refine Hold.un ?_))
local macro_rules | `(tactic| walk_at "pyIter ref") => `(tactic| (refine Hold.un ?_))
local macro_rules | `(tactic| walk_at "call builtin:sorted") => `(tactic| (refine Hold.un ?_))
local macro_rules | `(tactic| walk_at "call builtin:str.join") => `(tactic| (refine Hold.un ?_))
noncomputable def RWords (ns : List Int) (news : List (Addr × Obj)) (r : Value) (news' : List (Addr × Obj)) : Prop :=
 ∃ D k ws, r = .ref D ∧ (D, listOf (List.toArray ws) k) ∈ news' ∧ StrsAre ws ((List.range 6).map fun i => wordT (rT ns i)) ∧ ∀ p ∈ news, p ∈ news'
theorem words_spc (w : World) (ns : List Int) (O P : Addr) (nO nP : Nat) (os ps : List Value) (tH : Tok) (news : List (Addr × Obj)) (hO : (O, listOf (List.toArray os) nO) ∈ news) (hP : (P, listOf (List.toArray ps) nP) ∈ news) (ho : os.length = 6) (hp : ps.length = 6)
  (h1 : ∀ i, i < 6 → ∃ q us n, os[i]? = some (Value.ref q) ∧ (q, listOf (List.toArray us) n) ∈ news ∧ ToldIn news us (rT ns i))
  (h2 : ∀ i, i < 6 → ∃ q us n, ps[i]? = some (Value.ref q) ∧ (q, listOf (List.toArray us) n) ∈ news ∧ IntsAre us (pastL ns i)) :
  Spc w 276 4 [.ref O, .str (rHosts ns 6) tH, .ref P] news (RWords ns news) := by
 intro mean mg mb dp un gd cn cs a ccd cl outer A₀ base h₀ L m s Q E B F X N T hk hd hu hret
 (revert hO hP ho hp h1 h2 B F X N T hk hd hu hret; revert w ns O P nO nP os ps tH news mean mg mb dp un gd cn cs a ccd cl outer A₀ base h₀ L m s Q E; fail "CLi"; rename_i w ns O P nO nP os ps tH news mean mg mb dp un gd cn cs a ccd cl outer A₀ base h₀ L m s Q E hO hP ho hp h1 h2 B F X N T hk hd hu hret; fail "CLm")
 refine wpAny_call ?_
 k_dflt (refine' code_defC ?k1 ?k2 ?k3 ?k4 ?k5 ?kA ?kF ?kK ?k6 ?k7 ?k8 ?k9 ?kB ?kD ?_ ?c2 ?c3 ?c4; (case kA => exact rfl); (case kF => exact rfl); (case kK => first | exact rfl | assumption); (case k1 => k_asm); (case k2 => k_asm); (case k3 => k_asm); (case k4 => k_asm); (case k5 => k_asm); (case k6 => k_is); (case k7 => k_is); (case k8 => ktr_room); (case k9 => first | exact BindsTo.of_eq rfl | exact binds_K (by k_in) rfl (by k_is) rfl rfl rfl); (case kB => exact rfl); (case kD => decide +kernel); (case c2 => exact rfl); (case c3 => exact rfl); (case c4 => exact rfl); k_whole; intro g' L' h' tk' cells' FG' F' N' Y' B' X' T' l1; (try have l1 := allLt_of l1); k_cells Y'; (try simp only [List.cons_append, List.nil_append] at N'); (try dsimp only); (try k_lift B'); (try k_fold))
 (rename_i zz0 zz1 zz2 zz3 zz4 zz5 zz6; revert FG' F' B' X' T' zz0 l1 zz4 zz5 zz6 N'; revert g' L' h' tk' zz1 zz2 zz3; fail "CLi"; rename_i g' L' h' tk' zz1 zz2 zz3 FG' F' B' X' T' zz0 l1 zz4 zz5 zz6 N'; fail "CLm")
 k_steps
 refine Hold.mk ?_
 rename Fr _ _ _ _ => F9
 refine For_B F9 ?_
 k_steps
 refine Hold.mk ?_
 rename IsRange _ _ _ _ _ _ _ _ => hr9
 rename Fr _ _ _ _ => F9
 rename News _ _ _ _ => N9
 refine words_iter ns rfl hr9 F9 N9 ⟨rfl, rfl⟩ (by assumption) (by rename @LT.lt Nat _ _ _ ∧ _ => l8; exact ⟨l8.1, l8.2.2.2⟩) ?turn ?done
 case turn =>
  clear F9 N9 hr9
  intro k m₁ oK vK ws nw I t h tk hk6 hWI hW eK hws hne F1 N1
  obtain ⟨q, us, nq, a1, a2, a3⟩ := h1 k hk6
  obtain ⟨q', us', nq', b1, b2, b3⟩ := h2 k hk6
  obtain ⟨l0, n0, r0, e0⟩ := own_last (ns := ns) k
  obtain ⟨us0, p0, u1, u2, u3, rfl, hm0⟩ := told_last a3 e0
  have hwl : ws.length = k := by rw [StrsAre.len hws]; unfold wTexts; simp
  (rename_i zz0 zz1 zz2 zz3 zz4 zz5; revert zz5 hk6 hWI hW eK hws hne F1 N1 a1 b1 b2 b3 e0 hm0 a2 a3 hwl; revert zz0 zz1 zz2 zz3 zz4 k m₁ oK vK ws nw I t h tk q nq q' us' nq' l0 n0 r0 us0 p0 u1 u2 u3; fail "CLi"; rename_i zz0 zz1 zz2 zz3 zz4 k m₁ oK vK ws nw I t h tk q nq q' us' nq' l0 n0 r0 us0 p0 u1 u2 u3 zz5 hk6 hWI hW eK hws hne F1 N1 a1 b1 b2 b3 e0 hm0 a2 a3 hwl; fail "CLm")
  k_steps
  refine Hold.mk ?_
  k_dflt (refine ListComp_2 (by k_asm) (by with_unfolding_all rfl) (by decide) (by rfl) (by decide) (by rfl) (by rfl) (by rfl) (by rfl) (by decide) ?_)
  k_steps
  refine Hold.mk ?_
  have hft := (rRun (ns := ns)).fit (by decide) k hk6
  have hl3 := hft.len
  have hul := a3.length
  rename Fr _ _ _ _ => F9
  rename News _ _ _ _ => N9
  refine ⟨_, _, _, q, _, nq, fun i j ys => StrsAre ys (emW (rT ns k) i j), rfl, by decide +kernel, rfl, F9, N9, .tail _ (.tail _ (.tail _ (.tail _ (.tail _ a2)))), by decide +kernel, by (first | exact lin [_,_] [] [(1,.v 0,.n 3),(2,.v 1,.v 0)] (1,.v 1,.n 100) [1,1,1] [] rfl hl3 hul | omega), fun i j ys hJ => by rw [StrsAre.len hJ]; exact emW_len hl3 i j, .nil, fun v hv => ?mem, ?it2, ?turn, fun i ys hi hJ => by rw [hul] at hJ; exact emW_next (show i < 3 from hi) ▸ hJ, ?fin⟩
  case mem =>
   obtain ⟨p, v1, v2, v3, e, hm⟩ := told_mem a3 v hv
   exact ⟨p, v1, v2, v3, e, .tail _ (.tail _ (.tail _ (.tail _ (.tail _ hm))))⟩
  case it2 =>
   intro g i ys I9 oI9 C9 oC9 D9 hh tk9 v m9 E9 hi hv hC hx F8 N8 off ne
   (revert hft hl3 hul hi hv hC hx F8 N8 off ne; revert g i ys I9 oI9 C9 oC9 D9 hh tk9 v m9 E9; fail "CLi"; rename_i g i ys I9 oI9 C9 oC9 D9 hh tk9 v m9 E9 hft hl3 hul hi hv hC hx F8 N8 off ne; fail "CLm")
   (k_steps; repeat' (((with_reducible refine Au.mk 1 ?_); ((k_here; (with_reducible show wpAny _ _ (subscriptTail _ _ (Value.ref _) (Value.int (Nat.cast _) _)) _ _ _); refine Hold.un ?_))) <;> k_steps))
   refine Hold.mk ?_
   rename News _ _ _ _ => N7
   refine item_atM (k := k) N7 (by k_mem) rfl a1 (by (first | exact lin [_] [] [(2,.v 0,.n 6)] (1,.v 0,.n 10000) [1,1] [] rfl ho | omega)) ?_
   exact ⟨rfl, _, _, rfl, by k_asm, by k_asm, trivial⟩
  case turn =>
   intro g i j ys I2 oI2 I9 oI9 C9 oC9 D9 hh tk9 v p v1 v2 v3 m9 E9 hi hv hj hp hJ hC hx ha hb hc F8 N8 off ne
   obtain ⟨u9, rfl, hlt⟩ := sign_abc hv
   obtain ⟨t9, t1, t2, t3, ht9, rfl, rfl, rfl⟩ := told_at (a3.mono fun p hp => .tail _ (.tail _ (.tail _ (.tail _ (.tail _ hp))))) N9 hj hp
   have hok := hft.ok t9 (List.mem_of_getElem? ht9)
   have hps := hft.pos t9 (List.mem_of_getElem? ht9)
   have htp := hft.top t9 (List.mem_of_getElem? ht9)
   have hl1 : (abcL.getD i empS).length = 1 := by rw [← cs_len, (Ltr.cs hlt).1]; rfl
   have hl2 : t9.1.length = 1 := by rw [← cs_len, (Ltr.cs hok.1).1]; rfl
   (revert hft hl3 hul hi hj hJ hC F8 N8 off ne hlt hv hx ht9 ha hb hc hp hok hps htp hl1 hl2; revert g i j ys I2 oI2 I9 oI9 C9 oC9 D9 hh tk9 p m9 E9 u9 t9 t1 t2 t3; fail "CLi"; rename_i g i j ys I2 oI2 I9 oI9 C9 oC9 D9 hh tk9 p m9 E9 u9 t9 t1 t2 t3 hft hl3 hul hi hj hJ hC F8 N8 off ne hlt hv hx ht9 ha hb hc hp hok hps htp hl1 hl2; fail "CLm")
   k_steps
   ·exact ⟨_, _, rfl, by k_asm, by k_asm, emW_yes ht9 (by assumption) hJ⟩
   ·exact ⟨_, _, rfl, by k_asm, by k_asm, emW_no ht9 (by have e9 : (t9.1 == abcL.getD i empS) = false := (by assumption); rw [e9]; decide) hJ⟩
  case fin =>
   intro ys D9 hh tk9 hJ F8 N8 hlt8
   have l8 := allLt_of hlt8
   have hJ : StrsAre ys (emW (rT ns k) 3 0) := hJ
   rw [emW_all] at hJ
   have hwo := word_one hft.dist
   have hwl2 : (wordT (rT ns k)).length ≤ 100 := wordT_len hk6
   (rename_i zz0; revert hft hl3 hul zz0 F8 N8 hlt8 l8 hJ hwo hwl2; revert ys D9 hh tk9; fail "CLi"; rename_i ys D9 hh tk9 hft hl3 hul zz0 F8 N8 hlt8 l8 hJ hwo hwl2; fail "CLm")
   k_steps
   refine Hold.mk ?_
   rename News _ _ _ _ => N7
   refine join_L N7 (.head _) hJ ?jok ?_
   case jok => exact emW_sum hk6
   intro t5 k5
   rw [show Txt.join (Str.ofString "") _ = wordT (rT ns k) from hwo]
   (revert t5 k5; fail "CLi"; rename_i t5 k5; fail "CLm")
   k_steps
   refine Hold.mk ?_
   k_dflt (refine LCg.ListComp_U (F₀ := by k_asm) (by with_unfolding_all rfl) (by decide) (by rfl) (by decide) (by rfl) ?_)
   (k_steps; repeat' (((with_reducible refine Au.mk 1 ?_); ((k_here; (with_reducible show wpAny _ _ (subscriptTail _ _ (Value.ref _) (Value.int (Nat.cast _) _)) _ _ _); refine Hold.un ?_))) <;> k_steps))
   refine Hold.mk ?_
   rename News _ _ _ _ => N7
   refine item_atM (k := k) N7 (by k_mem) rfl b1 (by (first | exact lin [_] [] [(2,.v 0,.n 6)] (1,.v 0,.n 10000) [1,1] [] rfl hp | omega)) ?_
   k_steps
   refine Hold.mk ?_
   have hpl := pastL_len ns k
   have hul2 : us'.length = (pastL ns k).length := b3.length
   k_dflt (refine LCg.CompSrc.ledger (by rfl) (by k_asm) (by k_asm) (.tail _ (.tail _ (.tail _ (.tail _ (.tail _ (.tail _ b2)))))) ?size ?_)
   case size => rw [List.size_toArray, sizeLine_eq]; (first | exact lin [_,_,_] [] [(0,.v 0,.n 6),(1,.v 1,.a (.v 0) (.n 1)),(2,.v 2,.v 1)] (1,.v 2,.n 16777216) [1,1,1,1] [] rfl hk6 hpl hul2 | omega)
   intro g7
   refine crK_U (fun i ys => StrsAre ys (((pastN ns k).take i).map (rH ns))) ?t5 .nil ?f5
   case t5 =>
    intro i ys5 v I5 oI5 C5 oC5 D5 m5 h5 tk5 E5 hi5 hv5 hJ5 hC5 hx5 F5 N5 off5 ne5
    obtain ⟨z, t5, rfl, hz⟩ := ints_getM b3 (show us'[i]? = some v by simpa using hv5)
    obtain ⟨jn, rfl, hjk, hjn⟩ := pastL_get hz
    have hh6 := rHosts_len (ns := ns) 6
    (revert hpl hul2 hi5 hJ5 hC5 F5 N5 off5 ne5 hz hv5 hx5 hjk hjn hh6; revert g7 i ys5 I5 oI5 C5 oC5 D5 m5 h5 tk5 E5 t5 jn; fail "CLi"; rename_i g7 i ys5 I5 oI5 C5 oC5 D5 m5 h5 tk5 E5 t5 jn hpl hul2 hi5 hJ5 hC5 F5 N5 off5 ne5 hz hv5 hx5 hjk hjn hh6; fail "CLm")
    k_steps
    exact LCg.CompEnd.intro (by k_asm) (by k_asm) _ (fun p hp => hp) off5 (.inr ⟨_, .tail _ (.tail _ (.tail _ (.tail _ (.tail _ (.tail _ b2))))), rfl, _, rfl⟩) ⟨rfl, host_snoc (item_hosts (by (first | exact lin [_,_] [] [(0,.v 0,.n 6),(1,.v 1,.v 0)] (0,.v 1,.n 6) [1,1,1] [] rfl hk6 hjk | omega))) hjn hJ5⟩
   case f5 =>
    intro ys5 hJ5
    rw [List.size_toArray, hul2, ← pastN_len, List.take_length] at hJ5
    have hyl5 := StrsAre.len hJ5
    rw [List.length_map, pastN_len] at hyl5
    (revert hpl hul2 hJ5 hyl5; revert g7 ys5; fail "CLi"; rename_i g7 ys5 hpl hul2 hJ5 hyl5; fail "CLm")
    k_steps
    refine Hold.mk ?_
    rename Fr _ _ _ _ => F5
    rename News _ _ _ _ => N5
    refine sorted_N_str F5 N5 (isl_of ys5.length (news_1of N5)) hJ5 (by (first | exact lin [_,_,_] [] [(0,.v 0,.n 6),(1,.v 1,.a (.v 0) (.n 1)),(2,.v 2,.v 1)] (0,.v 2,.n 64) [1,1,1,1] [] rfl hk6 hpl hyl5 | omega)) ?_
    intro h6 vs6 ss6 e6 F6 N6 S6 p6 s6
    have hsl6 := p6.length_eq
    rw [List.length_map, pastN_len] at hsl6
    (rename_i zz0 zz1 zz2 zz3; revert F5 N5 zz3 F6 N6 S6 p6 s6 hsl6; revert zz0 zz1 zz2 h6 vs6 ss6 e6; fail "CLi"; rename_i zz0 zz1 zz2 h6 vs6 ss6 e6 F5 N5 zz3 F6 N6 S6 p6 s6 hsl6; fail "CLm")
    k_steps
    refine Hold.mk ?_
    refine join_L (n := e6) N6 (.head _) S6 ?jok2 ?_
    case jok2 =>
     have hm : ∀ x ∈ ss6, x.length ≤ 10 := fun x hx => by
      obtain ⟨y, _, rfl⟩ := List.mem_map.mp (p6.mem_iff.mp hx)
      rw [← cs_len, (rH_ltr (ns := ns) y).cs.1]
      show 1 ≤ 10
      decide
     have := sum_map_constM hm
     have e : (Str.ofString "" : PySem.Str).length = 0 := rfl
     rw [e]
     (first | exact lin [_,_,_,_] [] [(0,.v 0,.n 6),(1,.v 1,.a (.v 0) (.n 1)),(2,.v 2,.v 1),(1,.v 3,.m 10 (.v 2))] (1,.a (.v 3) (.r (.v 2) 0),.n 16777216) [1,10,10,10,1] [] rfl hk6 hpl hsl6 this | omega)
    intro t6 k6
    rw [show Txt.join (Str.ofString "") _ = wordT (rT ns k) from word_two hk6 p6 s6]
    have hh6 := rHosts_len (ns := ns) 6
    (revert hh6; revert t6 k6; fail "CLi"; rename_i t6 k6 hh6; fail "CLm")
    (k_steps; repeat' (((with_reducible refine Au.mk 1 ?_); ((k_here; (with_reducible show wpAny _ _ (subscriptTail _ _ (Value.ref _) (Value.int (Nat.cast _) _)) _ _ _); refine Hold.un ?_))) <;> k_steps))
    ·rename (_ != _) = true => e9
     simp at e9
    refine Hold.mk ?_
    rename News _ _ _ _ => N7
    refine item_atM (k := k) N7 (by k_mem) rfl a1 (by (first | exact lin [_] [] [(2,.v 0,.n 6)] (1,.v 0,.n 10000) [1,1] [] rfl ho | omega)) ?_
    (k_steps; repeat' (((with_reducible refine Au.mk 1 ?_); ((k_here; (with_reducible show wpAny _ _ (subscriptTail _ _ (Value.ref _) (Value.int (-1) _)) _ _ _); refine Hold.un ?_))) <;> k_steps))
    refine Hold.mk ?_
    rename News _ _ _ _ => N7
    refine item_lastM (r := us0) N7 (by k_mem) ?_
    k_steps
    ·rename (_ != _) = true => e9
     rw [item_hosts hk6] at e9
     simp at e9
    rename Fr _ _ _ _ => F8
    rename News _ _ _ _ => N8
    have N9 := news_skip3b N8
    refine append_K F8 N9 (Upd.tail (Nat.ne_of_gt hWI) (Upd.head fun p hp => by
     rcases List.mem_cons.mp hp with rfl | hp
     ·exact hW (_, oK) (.head _)
     ·exact hW p (.tail _ hp))) ?_ (by rw [List.size_toArray, sizeLine_eq]; (first | exact lin [_,_] [] [(0,.v 0,.n 6),(2,.v 1,.v 0)] (1,.v 1,.n 16777216) [1,1,1] [] rfl hk6 hwl | omega))
    intro h9 F7 N7
    rw [List.push_toArray] at N7
    (revert N9 F7 N7; revert h9; fail "CLi"; rename_i h9 N9 F7 N7; fail "CLm")
    k_steps
    exact ⟨_, _, _, _, _, rfl, F7, N7, wled_ne hne, rfl, ⟨rfl, rfl⟩, _, _, _, _, rfl, (by assumption), wTexts_succ ns k ▸ StrsAre.app hws (.cons _ _ .nil)⟩
 case done =>
  clear F9 N9 hr9
  intro m₁ oK ws nw h tk hws F1 N1
  (rename_i zz0 zz1 zz2 zz3 zz4 zz5; revert zz5 hws F1 N1; revert zz0 zz1 zz2 zz3 zz4 m₁ oK ws nw h tk; fail "CLi"; rename_i zz0 zz1 zz2 zz3 zz4 m₁ oK ws nw h tk zz5 hws F1 N1; fail "CLm")
  k_steps
  rename Fr _ _ _ _ => F8
  rename News _ _ _ _ => N8
  exact hret _ _ _ _ F8 N8 ⟨_, _, ws, rfl, .head _, hws, fun p hp => .tail _ (.tail _ (.tail _ (.tail _ hp)))⟩
end Mine
end
section
open PySem PySem.W PySem.Spec PySem.Calls PyProof.Rows PySem.Builtin PySem.Builtin.Str
namespace Mine
open StrLaws
noncomputable def matchB (f b : Bool) (ds g : List Nat) : Bool := if 2 ≤ (prt f b ds).length then emL f b ds g else decide (g = ds)
theorem prt_len (f b : Bool) (ds : List Nat) : (prt f b ds).length = (if f then 1 else 0) + ds.length + (if b then 1 else 0) := by
 unfold prt
 cases f <;> cases b <;> simp <;> (exact lin [_] [] [] (2,.a (.v 0) (.n 1),.a (.n 1) (.v 0)) [1] [1] rfl)
theorem em_any (w : World) (want got : PySem.Str) (t t' : Tok) (news : List (Addr × Obj)) (f b : Bool) (ds g : List Nat) (hw : want = Str.join dots (prt f b ds)) (hX : cs got = dblM g) (hg : g ≠ []) (hd : ds ≠ []) (hc : ∀ c ∈ ds, c ≠ 46) (h1 : want.length ≤ 1000) (h2 : got.length ≤ 1000) (h3 : ds.length ≤ 1000) :
  Spc w 45 1 [.str want t, .str got t'] news (RBool news (matchB f b ds g)) := by
 by_cases hl : 2 ≤ (prt f b ds).length
 ·unfold matchB
  rw [if_pos hl]
  exact em_want w want got t t' news f b ds g hw hX hg hd hc hl h1 h2 h3
 ·unfold matchB
  rw [if_neg hl]
  rw [prt_len] at hl
  match ds, hd with
  | [c], _ =>
   cases f <;> cases b <;> simp at hl
   have e : want = dd c := hw
   subst e
   exact em_one w c got t t' news g hX (hc c (.head _)) h2
  | c :: c' :: r, _ => simp at hl; exact False.elim (lin [_,_,_] [] [(0,.a (.a (.v 0) (.a (.a (.v 1) (.n 1)) (.n 1))) (.v 2),.n 2)] (12,.n 0,.n 0) [0,1] [] rfl hl)
theorem match_own {g : List Nat} : matchB false false g g = true := by
 unfold matchB
 split
 ·unfold emL
  simp [List.isSublist_iff_sublist]
 ·simp
theorem match_tt {ds g : List Nat} : matchB true true ds g = ds.isSublist g := by
 unfold matchB
 rw [if_pos (by rw [prt_len]; simp)]
 unfold emL
 simp
theorem rev_sub {g : List Nat} (hs : g.Pairwise (· ≤ ·)) : g.reverse.isSublist g = decide (g.head? = g.getLast?) := by
 rw [Bool.eq_iff_iff, List.isSublist_iff_sublist, decide_eq_true_iff]
 constructor
 ·intro h
  have e := h.eq_of_length (by simp)
  have : g.reverse.head? = g.head? := by rw [e]
  rw [List.head?_reverse] at this
  exact this.symm
 ·intro h
  have hall : ∀ x ∈ g, some x = g.head? := by
   intro x hx
   cases g with
   | nil => cases hx
   | cons a r =>
    have h1 : a ≤ x := by
     rcases List.mem_cons.mp hx with rfl | hx
     ·exact Nat.le_refl _
     ·exact List.rel_of_pairwise_cons hs hx
    have hlast : (a :: r).getLast? = some a := by rw [← h]; rfl
    refine ex2 (snoc_of (ds := a :: r) (by simp)) fun l z e => ?_
    obtain rfl : z = a := by
     rw [e, List.getLast?_concat] at hlast
     exact Option.some.inj hlast
    have h2 : x ≤ z := by
     rw [e] at hx hs
     rcases List.mem_append.mp hx with hx | hx
     ·exact (List.pairwise_append.mp hs).2.2 x hx z (by simp)
     ·exact Nat.le_of_eq (List.mem_singleton.mp hx)
    exact congrArg some (Nat.le_antisymm h2 h1)
  have e : g.reverse = g := by
   cases g with
   | nil => rfl
   | cons a r =>
    have hr : (a :: r) = List.replicate (a :: r).length a := List.eq_replicate_iff.mpr ⟨rfl, fun b hb => by simpa using hall b hb⟩
    rw [hr, List.reverse_replicate]
  rw [e]
  exact List.Sublist.refl _
section
variable {ns : List Int}
theorem rP_le {i k : Nat} (h : rP ns i k = true) : i ≤ k := by
 rw [rP_at] at h
 simp only [Bool.or_eq_true, beq_iff_eq, Bool.and_eq_true, decide_eq_true_eq] at h
 rcases h with h | h
 ·exact Nat.le_of_eq h
 ·exact Nat.le_of_lt h.1
theorem rW_sorted (k : Nat) : (rW ns k).Pairwise (· ≤ ·) := word_sorted _ _ _
theorem match_due {i k : Nat} (hi : i < 6) (hk : k < 6) (hne : i ≠ k) (f b : Bool) :
  matchB f b (rW ns i) (rW ns k) = (rP ns i k && ((f || decide ((rW ns i).head? = (rW ns k).head?)) && (b || decide ((rW ns i).getLast? = (rW ns k).getLast?))) && (decide (1 < (rW ns i).length) || (f || b))) := by
 unfold matchB
 rw [prt_len]
 by_cases h : 2 ≤ (if f = true then 1 else 0) + (rW ns i).length + (if b = true then 1 else 0)
 ·rw [if_pos h]
  unfold emL
  rw [rW_sub hi hk]
  by_cases hP : rP ns i k = true
  ·rw [hP]
   have h3 : (decide (1 < (rW ns i).length) || (f || b)) = true := by
    cases f <;> cases b <;> simp at h ⊢
    exact lin [_] [] [(1,.n 2,.v 0)] (0,.n 1,.v 0) [1,1] [] rfl h
   rw [h3]
   simp
  ·have hP : rP ns i k = false := by simpa using hP
   rw [hP]; simp
 ·rw [if_neg h]
  have hl : (decide (1 < (rW ns i).length) || (f || b)) = false ∨ (rW ns i).length = 0 := by
   generalize (rW ns i).length = len at h
   cases f <;> cases b
   ·left
    have h : ¬ 2 ≤ 0 + len + 0 := h
    rw [decide_eq_false (by exact lin [_] [] [(4,.n 2,.a (.a (.n 0) (.v 0)) (.n 0))] (3,.n 1,.v 0) [1,1] [] rfl h)]; rfl
   ·right
    have h : ¬ 2 ≤ 0 + len + 1 := h
    exact lin [_] [] [(4,.n 2,.a (.a (.n 0) (.v 0)) (.n 1))] (2,.v 0,.n 0) [1,1] [1,0] rfl h
   ·right
    have h : ¬ 2 ≤ 1 + len + 0 := h
    exact lin [_] [] [(4,.n 2,.a (.a (.n 1) (.v 0)) (.n 0))] (2,.v 0,.n 0) [1,1] [1,0] rfl h
   ·right
    have h : ¬ 2 ≤ 1 + len + 1 := h
    exact lin [_] [] [(4,.n 2,.a (.a (.n 1) (.v 0)) (.n 1))] (2,.v 0,.n 0) [1,1] [1,0] rfl h
  have hno : ¬ rW ns k = rW ns i := by
   intro e
   have h1 := rW_sub (ns := ns) hi hk
   have h2 := rW_sub (ns := ns) hk hi
   rw [e] at h1 h2
   have hr : (rW ns i).isSublist (rW ns i) = true := List.isSublist_iff_sublist.mpr (List.Sublist.refl _)
   rw [hr] at h1 h2
   have g1 := rP_le h1.symm
   have g2 := rP_le h2.symm
   first | exact absurd (Nat.le_antisymm g1 g2) (by assumption) | exact absurd (Nat.le_antisymm g2 g1) (by assumption)
  rw [decide_eq_false hno]
  rcases hl with hl | hl
  ·rw [hl]; simp
  ·have hP : rP ns i k = false ∨ rP ns i k = true := by cases rP ns i k <;> simp
   have h1 := rW_own (ns := ns) hi hi
   have hself : rP ns i i = true := by rw [rP_at]; simp
   rw [hself] at h1
   exfalso
   have hc := count_h (rT ns i) (rH_ltr (ns := ns) i) (cnt_nn hi _)
   have hz : (rW ns i).count (lc (rH ns i)) = 0 := by rw [List.length_eq_zero_iff.mp hl]; rfl
   unfold rW at hz
   rw [hz] at hc
   have hk9 := (rRun (ns := ns)).known (by decide) hi hi
   refine ex3 (own_last (ns := ns) i) fun l n r e => ?_
   have hpos := (rRun (ns := ns)).fit (by decide) i hi
   have hm : (rH ns i, n, r) ∈ rT ns i := by rw [e]; simp
   have h1n := hpos.pos _ hm
   have : tcnt (rT ns i) (rH ns i) ≠ 0 := by
    unfold tcnt
    cases q : tget (rT ns i) (rH ns i) with
    | none =>
     unfold tget at q
     have := List.find?_eq_none.mp q _ hm
     simp at this
    | some o =>
     have := hpos.pos o (tget_some q).1
     show o.2.1 ≠ 0
     exact lin [] [_] [(7,.n 1,.v 0)] (11,.v 0,.n 0) [1,1] [] rfl this
   exact this hc.symm
theorem rW_len {k : Nat} (hk : k < 6) : 1 ≤ (rW ns k).count (lc (rH ns k)) ∧ (rW ns k).length ≤ 18 := by
 have hpos := (rRun (ns := ns)).fit (by decide) k hk
 constructor
 ·have hc := count_h (rT ns k) (rH_ltr (ns := ns) k) (cnt_nn hk _)
  refine ex3 (own_last (ns := ns) k) fun l n r e => ?_
  have hm : (rH ns k, n, r) ∈ rT ns k := by rw [e]; simp
  have : 1 ≤ tcnt (rT ns k) (rH ns k) := by
   unfold tcnt
   cases q : tget (rT ns k) (rH ns k) with
   | none =>
    unfold tget at q
    have := List.find?_eq_none.mp q _ hm
    simp at this
   | some o => exact hpos.pos o (tget_some q).1
  unfold rW
  exact lin [_] [_] [(8,.c (.v 0),.v 0),(7,.n 1,.v 0)] (1,.n 1,.v 0) [1,-1,1] [] rfl hc this
 ·have key : ∀ y, tcnt (rT ns k) y ≤ 6 := fun y => by
   unfold tcnt
   cases q : tget (rT ns k) y with
   | none => decide
   | some o => have := hpos.top o (tget_some q).1; show o.2.1 ≤ 6; exact lin [_] [_] [(0,.v 0,.n 6),(7,.v 0,.a (.c (.v 0)) (.n 1))] (7,.v 0,.n 6) [1,1,1] [] rfl hk this
  have ha := key (Str.ofString "a")
  have hb := key (Str.ofString "b")
  have hc := key (Str.ofString "c")
  unfold rW wd
  rw [word_len]
  exact Nat.le_trans (Nat.add_le_add (Nat.add_le_add (Int.toNat_le.mpr ha) (Int.toNat_le.mpr hb)) (Int.toNat_le.mpr hc)) (by decide)
theorem rW_ne {k : Nat} (hk : k < 6) : rW ns k ≠ [] := fun e => by
 have := (rW_len (ns := ns) hk).1
 rw [e] at this
 simp at this
theorem rW_mem {k c : Nat} (h : c ∈ rW ns k) : c = 97 ∨ c = 98 ∨ c = 99 := by
 unfold rW wd word at h
 simp only [List.mem_append, List.mem_replicate] at h
 exact triN (fun q0 => triN (fun q1 => h.elim (fun q2 => lin [_] [] [(0,.v 0,.n 97),(2,.v 0,.n 97)] (2,.v 0,.n 99) [1,1,0] [0,1,-1] rfl q0 q2.2) fun q2 => q2.elim (fun q3 => lin [_] [] [(0,.v 0,.n 97),(2,.v 0,.n 98)] (2,.v 0,.n 99) [1,1,0] [0,1,-1] rfl q0 q3.2) fun q3 => lin [_] [] [(0,.v 0,.n 97),(2,.v 0,.n 99)] (2,.v 0,.n 99) [1,1,0] [1,0,-1] rfl q0 q3.2) fun q1 => lin [_] [] [(0,.v 0,.n 97),(0,.n 98,.v 0)] (2,.v 0,.n 99) [1,1,0] [1,0,1] rfl q0 q1) fun q0 => triN (fun q1 => lin [_] [] [(0,.n 97,.v 0),(0,.v 0,.n 98)] (2,.v 0,.n 99) [1,0,1] [0,1,1] rfl q0 q1) fun q1 => h.elim (fun q2 => lin [_] [] [(0,.n 97,.v 0),(2,.v 0,.n 97)] (2,.v 0,.n 99) [1,0,1] [0,1,1] rfl q0 q2.2) fun q2 => q2.elim (fun q3 => lin [_] [] [(0,.n 98,.v 0),(2,.v 0,.n 98)] (2,.v 0,.n 99) [1,0,1] [1,1,0] rfl q1 q3.2) fun q3 => lin [_] [] [(0,.n 98,.v 0),(2,.v 0,.n 99)] (2,.v 0,.n 99) [1,0,1] [1,1,0] rfl q1 q3.2
end
end Mine
end
section
open PySem PySem.W PySem.Spec PySem.Calls PyProof.Rows PySem.Builtin PySem.Builtin.Str
namespace Mine
open StrLaws
theorem flat_cong {f g : Nat → List Nat} : ∀ {l : List Nat}, (∀ x ∈ l, f x = g x) → l.flatMap f = l.flatMap g
 | [], _ => rfl
 | a :: r, h => by rw [List.flatMap_cons, List.flatMap_cons, h a (.head _), flat_cong fun x hx => h x (.tail _ hx)]
theorem fold_app : ∀ (l : List (Array Nat)) (acc : Array Nat), (l.foldl (· ++ ·) acc).toList = acc.toList ++ (l.map (·.toList)).flatten
 | [], acc => by simp
 | a :: r, acc => by
  rw [List.foldl_cons, fold_app r]
  simp
theorem cs_mulG (x : PySem.Str) {n : Int} (h0 : 0 ≤ n) : cs (Txt.mul x n) = (List.replicate n.toNat (cs x)).flatten := by
 unfold Txt.mul
 by_cases h1 : n < 1
 ·rw [if_pos h1]
  have : n.toNat = 0 := by exact lin [_] [_] [(6,.v 0,.n 1),(8,.c (.v 0),.v 0)] (2,.v 0,.n 0) [1,1,1] [1,0,0] rfl h1 (Int.toNat_of_nonneg (by exact lin [] [_] [(7,.n 0,.v 0)] (7,.n 0,.v 0) [1,1] [] rfl h0))
  rw [this]
  show cs PySem.Str.empty = []
  decide +kernel
 ·rw [if_neg h1]
  by_cases h2 : (n == 1 || x.length == 0) = true
  ·rw [if_pos h2]
   rw [Bool.or_eq_true] at h2
   rcases h2 with h2 | h2
   ·have : n.toNat = 1 := by (have : n = 1 := by simpa using h2); exact lin [_] [_] [(8,.v 0,.n 1),(8,.c (.v 0),.v 0)] (2,.v 0,.n 1) [1,1,1] [1,-1,-1] rfl this (Int.toNat_of_nonneg (by exact lin [] [_] [(8,.v 0,.n 1)] (7,.n 0,.v 0) [1,-1] [] rfl this))
    rw [this]; simp
   ·have hz : cs x = [] := List.eq_nil_of_length_eq_zero (by rw [cs_len]; simpa using h2)
    rw [hz]
    generalize n.toNat = k
    induction k with
    | zero => rfl
    | succ k ih => rw [List.replicate_succ, List.flatten_cons, ← ih]; rfl
  ·rw [if_neg h2]
   show (List.foldl (· ++ ·) #[] (List.replicate n.toNat x.cps)).toList = _
   rw [fold_app]
   simp [cs]
theorem join_map {f : Nat → PySem.Str} (ds : List Nat) : cs (Str.join emp (ds.map f)) = ds.flatMap fun c => cs (f c) := by
 have h := join_flat (ds.map f)
 have e : cs (Str.join emp (ds.map f)) = cs (Txt.join empS (ds.map f)) := by
  show _ = cs (PySem.Builtin.Str.glued empS (ds.map f))
  rw [StrLaws.glued_eq_join]; rfl
 rw [e, h, List.flatMap_map]
theorem got_text (ds : List Nat) : cs (Txt.join empS (ds.map dd)) = dblM ds := by
 rw [join_flat, List.flatMap_map]
 induction ds with
 | nil => rfl
 | cons a r ih => rw [List.flatMap_cons, ih]; rfl
theorem rep_flat (c n : Nat) (l : List Nat) : (List.replicate n c).flatMap (fun _ => l) = (List.replicate n l).flatten := by
 induction n with
 | zero => rfl
 | succ n ih => rw [List.replicate_succ, List.replicate_succ, List.flatMap_cons, List.flatten_cons, ih]
theorem turned_text (a b c : Nat) (h : List.replicate c 99 ++ (List.replicate b 98 ++ List.replicate a 97) ≠ []) :
  dots ++ Txt.join empS [Txt.mul (Str.ofString "cc" ++ dots) c, Txt.mul (Str.ofString "bb" ++ dots) b, Txt.mul (Str.ofString "aa" ++ dots) a] = Str.join dots (prt true true (List.replicate c 99 ++ (List.replicate b 98 ++ List.replicate a 97))) := by
 rw [← trail_text _ h]
 apply cs_inj
 rw [cs_app, cs_app]
 congr 1
 rw [join_map, join_flat]
 simp only [List.flatMap_cons, List.flatMap_nil, List.append_nil, List.flatMap_append]
 rw [cs_mulG _ (by exact lin [_] [] [] (7,.n 0,.c (.v 0)) [1] [] rfl), cs_mulG _ (by exact lin [_] [] [] (7,.n 0,.c (.v 0)) [1] [] rfl), cs_mulG _ (by exact lin [_] [] [] (7,.n 0,.c (.v 0)) [1] [] rfl)]
 have hr : ∀ n x (y : PySem.Str), cs y = cs (dd x) → (List.replicate n x).flatMap (fun c => cs (dd c ++ dots)) = (List.replicate n (cs (y ++ dots))).flatten := fun n x y e => by
  rw [← rep_flat x]
  refine flat_cong fun z hz => ?_
  rw [(List.mem_replicate.mp hz).2, cs_app, cs_app, e]
 rw [hr c 99 (Str.ofString "cc") (by decide +kernel), hr b 98 (Str.ofString "bb") (by decide +kernel), hr a 97 (Str.ofString "aa") (by decide +kernel)]
 simp
theorem letter_text {h : PySem.Str} (hx : Ltr h) (n : Nat) (hn : 1 ≤ n) : dots ++ Txt.mul (Txt.mul h 2 ++ dots) n = Str.join dots (prt true true (List.replicate n (lc h))) := by
 rw [← trail_text _ (by rw [ne_eq, List.replicate_eq_nil_iff]; exact lin [_] [] [(1,.n 1,.v 0)] (5,.v 0,.n 0) [1,1] [] rfl hn)]
 apply cs_inj
 rw [cs_app, cs_app]
 congr 1
 rw [join_map, cs_mulG _ (by exact lin [_] [] [(1,.n 1,.v 0)] (7,.n 0,.c (.v 0)) [1,1] [] rfl hn)]
 have e : cs (Txt.mul h 2) = cs (dd (lc h)) := by
  rw [cs_mul hx]; rfl
 have : (List.replicate n (lc h)).flatMap (fun c => cs (dd c ++ dots)) = (List.replicate n (cs (Txt.mul h 2 ++ dots))).flatten := by
  rw [← rep_flat (lc h)]
  refine flat_cong fun z hz => ?_
  rw [(List.mem_replicate.mp hz).2, cs_app, cs_app, e]
 rw [this]
 simp
theorem rev_word (a b c : Nat) : (word a b c).reverse = List.replicate c 99 ++ (List.replicate b 98 ++ List.replicate a 97) := by
 unfold word
 simp
theorem count_dd (ds : List Nat) (c : Nat) : (ds.map dd).count (dd c) = ds.count c := by
 induction ds with
 | nil => rfl
 | cons a r ih =>
  rw [List.map_cons, List.count_cons, List.count_cons, ih]
  congr 1
  have : (dd a == dd c) = (a == c) := by
   rw [Bool.eq_iff_iff, beq_iff_eq, beq_iff_eq]
   constructor
   ·intro h
    have := congrArg cs h
    have : [a, a] = [c, c] := this
    exact (List.cons.inj this).1
   ·intro h; rw [h]
  rw [this]
theorem dd_eq (a c : Nat) : (dd a == dd c) = decide (a = c) := by
 rw [Bool.eq_iff_iff, beq_iff_eq, decide_eq_true_iff]
 constructor
 ·intro h
  have := congrArg cs h
  have : [a, a] = [c, c] := this
  exact (List.cons.inj this).1
 ·intro h; rw [h]
theorem count_in (k : PySem.Str) : ∀ ys : List PySem.Str, PySem.Spec.countIn (.str k) (ys.map PyData.str) = ((ys.count k : Nat) : Int)
 | [] => rfl
 | y :: r => by
  have ih := count_in k r
  rw [List.map_cons, PySem.Spec.countIn, ih, List.count_cons]
  have e : PySem.Spec.same (.str y) (.str k) = (y == k) := by
   rw [Bool.eq_iff_iff]
   simp only [PySem.Spec.same, beq_iff_eq]
  rw [e]
  split <;> (first | exact lin [_] [] [] (8,.a (.n 1) (.c (.v 0)),.c (.a (.v 0) (.n 1))) [1] [1] rfl | exact lin [_] [] [] (8,.a (.n 0) (.c (.v 0)),.c (.a (.v 0) (.n 0))) [1] [1] rfl)
theorem count_dds {x : PySem.Str} {c : Nat} (hx : x = dd c) (ds : List Nat) : PySem.Spec.countIn (.str x) ((ds.map dd).map PyData.str) = ((ds.count c : Nat) : Int) := by
 rw [hx, count_in, count_dd]
noncomputable def turnL (ds : List Nat) : List PySem.Str := [Txt.mul (Str.ofString "cc" ++ dots) ((ds.count 99 : Nat) : Int), Txt.mul (Str.ofString "bb" ++ dots) ((ds.count 98 : Nat) : Int), Txt.mul (Str.ofString "aa" ++ dots) ((ds.count 97 : Nat) : Int)]
theorem turn_all {ns : List Int} {k : Nat} (hne : rW ns k ≠ []) : dots ++ Txt.join empS (turnL (rW ns k)) = Str.join dots (prt true true (rW ns k).reverse) := by
 refine an3 (word_count (tcnt (rT ns k) (Str.ofString "a")).toNat (tcnt (rT ns k) (Str.ofString "b")).toNat (tcnt (rT ns k) (Str.ofString "c")).toNat) fun a1 a2 a3 => ?_
 have h := turned_text ((rW ns k).count 97) ((rW ns k).count 98) ((rW ns k).count 99)
 have e : (rW ns k).reverse = List.replicate ((rW ns k).count 99) 99 ++ (List.replicate ((rW ns k).count 98) 98 ++ List.replicate ((rW ns k).count 97) 97) := by
  show (wd (rT ns k)).reverse = List.replicate ((wd (rT ns k)).count 99) 99 ++ (List.replicate ((wd (rT ns k)).count 98) 98 ++ List.replicate ((wd (rT ns k)).count 97) 97)
  unfold wd
  rw [a1, a2, a3, rev_word]
 rw [e]
 exact h (by rw [← e]; simpa using hne)
theorem turn_len {ns : List Int} {k : Nat} (hl : (rW ns k).length ≤ 18) : ∀ x ∈ turnL (rW ns k), x.length ≤ 100 := by
 intro x hx
 have hm : ∀ c, (rW ns k).count c ≤ 18 := fun c => Nat.le_trans List.count_le_length hl
 have key : ∀ (y : PySem.Str) (n : Nat), y.length = 5 → n ≤ 18 → (Txt.mul y (n : Int)).length ≤ 100 := fun y n hy hn => by
  rw [← cs_len, cs_mulG _ (by exact lin [_] [] [] (7,.n 0,.c (.v 0)) [1] [] rfl), List.length_flatten, List.map_replicate, List.sum_replicate_nat, cs_len, hy]
  have : ((n : Int)).toNat = n := by omega
  rw [this]; exact lin [_] [] [(1,.v 0,.n 18)] (1,.r (.v 0) 5,.n 100) [1,5] [] rfl hn
 unfold turnL at hx
 simp only [List.mem_cons, List.not_mem_nil, or_false] at hx
 rcases hx with rfl | rfl | rfl
 ·exact key _ _ (by decide +kernel) (hm _)
 ·exact key _ _ (by decide +kernel) (hm _)
 ·exact key _ _ (by decide +kernel) (hm _)
theorem turn_jok {ns : List Int} {k : Nat} (hl : (rW ns k).length ≤ 18) : ((turnL (rW ns k)).map (·.length)).sum + (turnL (rW ns k)).length * (Str.ofString "" : PySem.Str).length ≤ 16777216 := by
 have h := turn_len (ns := ns) (k := k) hl
 unfold turnL at h ⊢
 have e : (Str.ofString "" : PySem.Str).length = 0 := rfl
 simp only [List.map_cons, List.map_nil, List.sum_cons, List.sum_nil, List.length_cons, List.length_nil, e]
 have h1 := h _ (.head _)
 have h2 := h _ (.tail _ (.head _))
 have h3 := h _ (.tail _ (.tail _ (.head _)))
 exact lin [_,_,_] [] [(1,.v 0,.n 100),(1,.v 1,.n 100),(1,.v 2,.n 100)] (1,.a (.a (.v 0) (.a (.v 1) (.a (.v 2) (.n 0)))) (.r (.a (.a (.a (.n 0) (.n 1)) (.n 1)) (.n 1)) 0),.n 16777216) [1,1,1,1] [] rfl h1 h2 h3
theorem turn_jlen {ns : List Int} {k : Nat} (hl : (rW ns k).length ≤ 18) : (Txt.join (Str.ofString "") (turnL (rW ns k))).length ≤ 300 := by
 have h := turn_len (ns := ns) (k := k) hl
 rw [← cs_len, show cs (Txt.join (Str.ofString "") (turnL (rW ns k))) = (turnL (rW ns k)).flatMap cs from join_flat _]
 unfold turnL at h ⊢
 simp only [List.flatMap_cons, List.flatMap_nil, List.length_append, List.length_nil, cs_len]
 have h1 := h _ (.head _)
 have h2 := h _ (.tail _ (.head _))
 have h3 := h _ (.tail _ (.tail _ (.head _)))
 exact lin [_,_,_] [] [(1,.v 0,.n 100),(1,.v 1,.n 100),(1,.v 2,.n 100)] (1,.a (.v 0) (.a (.v 1) (.a (.v 2) (.n 0))),.n 300) [1,1,1,1] [] rfl h1 h2 h3
end Mine
end
section
open PySem PySem.W PySem.Spec PySem.Calls PyProof.Rows
namespace Mine
section
variable {prog : Program} {w : World} {A : Around} {E : Value → Shared → Prop} {s : Shared} {env : Env} {body : List Stmt} {Q : Flow → Shared → Prop}
noncomputable abbrev KLed (B : Addr) (oO oK : Obj) (R : List (Addr × Obj)) : List (Addr × Obj) := (B + 1 + 1, oO) :: (B + 1, oK) :: R
noncomputable def KNames (W P : Addr) (hS : PySem.Str) (tH : Tok) (m : PySem.Str → Option Value) : Prop := m (Str.ofString "words") = some (.ref W) ∧ m (Str.ofString "hosts") = some (.str hS tH) ∧ m (Str.ofString "pasts") = some (.ref P)
theorem KNames.open_ {W P : Addr} {hS : PySem.Str} {tH : Tok} {m : PySem.Str → Option Value} (h : KNames W P hS tH m) : m = fun y => if y = Str.ofString "words" then some (.ref W) else if y = Str.ofString "hosts" then some (.str hS tH) else if y = Str.ofString "pasts" then some (.ref P) else m y := by
 refine an3 h fun h1 h2 h3 => ?_
 try clear h
 exact chain_open (l := [(Str.ofString "words", .ref W), (Str.ofString "hosts", .str hS tH), (Str.ofString "pasts", .ref P)]) (by
  intro p hp
  simp only [List.mem_cons, List.not_mem_nil, or_false] at hp
  rcases hp with rfl | rfl | rfl <;> assumption)
noncomputable def KJ (g₀ : Heap) (B W P : Addr) (hS : PySem.Str) (tH : Tok) (news : List (Addr × Obj)) (g : Heap) (_k : Nat) (m : PySem.Str → Option Value) (nx : List (Addr × Obj)) : Prop :=
 g = g₀ ∧ KNames W P hS tH m ∧ ∃ oO vO oK vK, nx = KLed B oO oK news ∧ oO.data = .cell vO ∧ oK.data = .cell vK
theorem known_iter {px : PySem.Pos} {kn : PySem.Str} {r : Addr} {t₀ u₀ v₀ : Tok} {m₀ : PySem.Str → Option Value} {g₀ : Heap} {B W P : Addr} {hS : PySem.Str} {tH : Tok} {oO oK : Obj} {vO vK : Option Value} {news : List (Addr × Obj)}
  (hh : A.handled = none) (hr : IsRange s.heap r 0 (6 : Int) 1 t₀ u₀ v₀) (F : Fr g₀ env.locals s.heap m₀) (N : News g₀ env.locals s.heap (KLed B oO oK news)) (hm : KNames W P hS tH m₀) (eO : oO.data = .cell vO) (eK : oK.data = .cell vK)
  (turn : ∀ (k : Nat) (m₁ : PySem.Str → Option Value) (oO oK : Obj) (vO vK : Option Value) (I : Addr) (t : Tok) (h : Heap) (tk : Nat), k < 6 → @LT.lt Nat _ (B + 1 + 1) I → oO.data = .cell vO → oK.data = .cell vK → (∀ p ∈ news, p.1 ≠ I) →
   Fr g₀ env.locals h (fun y => if y = Str.ofString "words" then some (.ref W) else if y = Str.ofString "hosts" then some (.str hS tH) else if y = Str.ofString "pasts" then some (.ref P) else m₁ y) → News g₀ env.locals h ((I, itR ((k + 1 : Nat) : Int) ((6 : Nat) - ((k + 1 : Nat) : Int))) :: KLed B oO oK news) →
   wpAny (model prog w) A (assign (.Name kn px) env (.int (k : Int) t)) (fun _ s₂ => wpAny (model prog w) A (execs body env)
    (RngPost env.locals (fun g' m' nx' => KJ g₀ B W P hS tH news g' (k + 1) m' nx') I (itR ((k + 1 : Nat) : Int) ((6 : Nat) - ((k + 1 : Nat) : Int))) { s with heap := h, toks := tk } Q) E s₂) E { s with heap := h, toks := tk })
  (done : ∀ (m₁ : PySem.Str → Option Value) (oO oK : Obj) (h : Heap) (tk : Nat),
   Fr g₀ env.locals h (fun y => if y = Str.ofString "words" then some (.ref W) else if y = Str.ofString "hosts" then some (.str hS tH) else if y = Str.ofString "pasts" then some (.ref P) else m₁ y) → News g₀ env.locals h (KLed B oO oK news) → Q .next { s with heap := h, toks := tk }) :
  wpAny (model prog w) A (pyIter (.ref r)) (fun it s₂ => AtB prog w A env (.Name kn px) body Q E it s₂) E s := by
 refine iter_rangeT (n := 6) (B + 1 + 1) (fun g k m nx => KJ g₀ B W P hS tH news g k m nx) hh hr (by decide) (by decide) F N (Heap.lt_size (N _ (.head _)).1) ⟨rfl, hm, oO, vO, oK, vK, rfl, eO, eK⟩ ?_ ?_
 ·rintro i g m₁ nx I t h tk hi hI ⟨rfl, hm', oO, vO, oK, vK, rfl, eO, eK⟩ hne F' N'
  rw [hm'.open_] at F'
  exact turn i m₁ oO oK vO vK I t h tk hi hI eO eK (fun p hp => hne p (.tail _ (.tail _ hp))) F' N'
 ·rintro g m₁ nx h tk ⟨rfl, hm', oO, vO, oK, vK, rfl, eO, eK⟩ F' N'
  rw [hm'.open_] at F'
  exact done m₁ oO oK h tk F' N'
end
end Mine
end
section
open PySem PySem.W PySem.Spec PySem.Calls PyProof.Rows
namespace Mine
theorem own_text (ds : List Nat) : Txt.join (Str.ofString "...") (ds.map dd) = Str.join dots (prt false false ds) := by
 unfold prt
 simp only [Bool.false_eq_true, if_false, List.nil_append, List.append_nil]
 exact StrLaws.glued_eq_join _ _
theorem own_jok {ds : List Nat} (hl : ds.length ≤ 18) : ((ds.map dd).map (·.length)).sum + (ds.map dd).length * (Str.ofString "..." : PySem.Str).length ≤ 16777216 := by
 have := sum_map_constM (l := ds.map dd) fun x hx => by
  refine ex1 (List.mem_map.mp hx) fun c h9_282 => an2 h9_282 fun _ eq9_281 => ?_
  clear h9_282
  subst eq9_281
  show 2 ≤ 10
  decide
 have e : (Str.ofString "..." : PySem.Str).length = 3 := by decide +kernel
 rw [List.length_map] at this ⊢
 rw [e]
 exact lin [_,_] [] [(1,.v 0,.n 18),(1,.v 1,.m 10 (.v 0))] (1,.a (.v 1) (.r (.v 0) 3),.n 16777216) [1,13,1] [] rfl hl this
theorem own_jlen {ds : List Nat} (hl : ds.length ≤ 18) : (Txt.join (Str.ofString "...") (ds.map dd)).length ≤ 300 := by
 have h := StrLaws.join_length_le (Str.ofString "...") (ds.map dd)
 rw [← StrLaws.glued_eq_join] at h
 have := sum_map_constM (l := ds.map dd) fun x hx => by
  refine ex1 (List.mem_map.mp hx) fun c h9_284 => an2 h9_284 fun _ eq9_283 => ?_
  clear h9_284
  subst eq9_283
  show 2 ≤ 10
  decide
 have e : (Str.ofString "..." : PySem.Str).length = 3 := by decide +kernel
 rw [List.length_map] at this
 rw [List.length_map, e] at h
 refine Nat.le_trans h ?_
 exact lin [_,_] [] [(1,.v 0,.n 18),(1,.v 1,.m 10 (.v 0))] (1,.a (.v 1) (.r (.v 0) 3),.n 300) [1,13,1] [] rfl hl this
theorem got_jok {ds : List Nat} (hl : ds.length ≤ 18) : ((ds.map dd).map (·.length)).sum + (ds.map dd).length * (Str.ofString "" : PySem.Str).length ≤ 16777216 := by
 have := sum_map_constM (l := ds.map dd) fun x hx => by
  refine ex1 (List.mem_map.mp hx) fun c h9_286 => an2 h9_286 fun _ eq9_285 => ?_
  clear h9_286
  subst eq9_285
  show 2 ≤ 10
  decide
 have e : (Str.ofString "" : PySem.Str).length = 0 := rfl
 rw [List.length_map] at this ⊢
 rw [e]
 exact lin [_,_] [] [(1,.v 0,.n 18),(1,.v 1,.m 10 (.v 0))] (1,.a (.v 1) (.r (.v 0) 0),.n 16777216) [1,10,1] [] rfl hl this
theorem strs_get {vs : List Value} {xs : List PySem.Str} (h : StrsAre vs xs) : ∀ {i : Nat} {x : PySem.Str}, xs[i]? = some x → ∃ t, vs[i]? = some (.str x t) := by
 induction h with
 | nil => intro i x h; cases h
 | cons y t _ ih =>
  intro i x h
  cases i with
  | zero => cases h; exact ⟨t, rfl⟩
  | succ i => exact ih h
theorem strs_end {vs : List Value} {xs : List PySem.Str} (h : StrsAre vs xs) {x : PySem.Str} (hx : xs.getLast? = some x) : ∃ t, vs.getLast? = some (.str x t) := by
 rw [List.getLast?_eq_getElem?] at hx ⊢
 rw [StrsAre.len h]
 exact strs_get h hx
section
variable {prog : Program} {w : World} {A : Around} {E : Value → Shared → Prop} {s : Shared} {h₀ : Heap} {L D : Addr} {news : List (Addr × Obj)} {u : Tok}
theorem item_end {value slice : PySem.Expr} {v : Value} {vs : List Value} {n : Nat} {Q : Value → Shared → Prop} (N : News h₀ L s.heap news) (hm : (D, listOf vs.toArray n) ∈ news) (hv : vs.getLast? = some v) (h : Q v s)
  (hs : subscripted slice false (.ref D) (.int (-1) u) = operate [.ref D, .int (-1) u] (getItem (.ref D) (.int (-1) u)) := by with_unfolding_all rfl) :
  wpAny (model prog w) A (subscriptTail value slice (.ref D) (.int (-1) u)) Q E s := by
 obtain ⟨r, e⟩ : ∃ r, vs = r ++ [v] := by
  cases vs with
  | nil => cases hv
  | cons a l =>
   refine ⟨(a :: l).dropLast, ?_⟩
   have := List.dropLast_concat_getLast (l := a :: l) (by simp)
   rw [List.getLast?_eq_some_getLast (by simp)] at hv
   rw [← Option.some.inj hv]
   exact this.symm
 subst e
 exact item_lastM N hm h hs
end
theorem ends_of {ds : List Nat} (h : ds ≠ []) : ∃ a z, ds[0]? = some a ∧ ds.head? = some a ∧ ds.getLast? = some z ∧ (ds.map dd)[0]? = some (dd a) ∧ (ds.map dd).getLast? = some (dd z) := by
 cases ds with
 | nil => exact absurd rfl h
 | cons a r =>
  refine ⟨a, (a :: r).getLast (by simp), rfl, rfl, List.getLast?_eq_some_getLast (by simp), rfl, ?_⟩
  rw [List.getLast?_map, List.getLast?_eq_some_getLast (by simp)]
  rfl
theorem no46 {ns : List Int} {k : Nat} : ∀ c ∈ rW ns k, c ≠ 46 := fun c hc => by have := rW_mem hc; exact this.elim (fun q0 => lin [_] [] [(2,.v 0,.n 97)] (5,.v 0,.n 46) [1,-1] [] rfl q0) fun q0 => q0.elim (fun q1 => lin [_] [] [(2,.v 0,.n 98)] (5,.v 0,.n 46) [1,-1] [] rfl q1) fun q1 => lin [_] [] [(2,.v 0,.n 99)] (5,.v 0,.n 46) [1,-1] [] rfl q1
theorem no46r {ns : List Int} {k : Nat} : ∀ c ∈ (rW ns k).reverse, c ≠ 46 := fun c hc => no46 c (List.mem_reverse.mp hc)
theorem turned_is {ns : List Int} {k : Nat} {a z : Nat} (ha : (rW ns k).head? = some a) (hz : (rW ns k).getLast? = some z) : matchB true true (rW ns k).reverse (rW ns k) = (dd a == dd z) := by
 rw [match_tt, rev_sub (rW_sorted k), ha, hz, dd_eq]
 simp
noncomputable def otherL (k i : Nat) : List Int := ((List.range i).filter fun j => j != k).map fun j : Nat => (j : Int)
theorem other_yes {k i : Nat} {ys : List Value} {t : Tok} (h : i ≠ k) (hJ : IntsAre ys (otherL k i)) : IntsAre (ys ++ [.int (i : Int) t]) (otherL k (i + 1)) := by
 unfold otherL at hJ ⊢
 rw [List.range_succ, List.filter_append, List.map_append]
 have : [i].filter (fun j => j != k) = [i] := by simp [h]
 rw [this]
 exact hJ.append (.cons _ _ .nil)
theorem other_no {k i : Nat} {ys : List Value} (h : i = k) (hJ : IntsAre ys (otherL k i)) : IntsAre ys (otherL k (i + 1)) := by
 unfold otherL at hJ ⊢
 rw [List.range_succ, List.filter_append, List.map_append]
 have : [i].filter (fun j => j != k) = [] := by simp [h]
 rw [this]
 simpa using hJ
theorem other_get {k n i : Nat} {z : Int} (h : (otherL k n)[i]? = some z) : ∃ j : Nat, z = (j : Int) ∧ j < n ∧ j ≠ k := by
 refine ex1 (List.mem_map.mp (List.mem_of_getElem? h)) fun a h9_288 => an2 h9_288 fun ha eq9_287 => ?_
 clear h9_288
 subst eq9_287
 refine an2 (List.mem_filter.mp ha) fun h1 h2 => ?_
 exact ⟨a, rfl, List.mem_range.mp h1, by simpa using h2⟩
end Mine
end
section
open PySem PySem.W PySem.Spec PySem.Calls PyProof.Rows
namespace Mine
theorem dots3 {x : PySem.Str} {n : Nat} (h : x.length ≤ n) : (Str.ofString "..." ++ x).length ≤ 3 + n := by
 rw [Str.length_append]
 have e : (Str.ofString "..." : PySem.Str).length = 3 := by decide +kernel
 exact lin [_,_,_] [] [(1,.v 0,.v 1),(2,.v 2,.n 3)] (1,.a (.v 2) (.v 0),.a (.n 3) (.v 1)) [1,1,1] [] rfl h e
theorem other_yesZ {k i : Nat} {ys : List Value} {t : Tok} {z : Int} (hz : z = (i : Int)) (h : i ≠ k) (hJ : IntsAre ys (otherL k i)) : IntsAre (ys ++ [.int z t]) (otherL k (i + 1)) := hz ▸ other_yes h hJ
section
variable {prog : Program} {w : World} {A : Around} {E : Value → Shared → Prop} {s : Shared} {env : Env} {Q : Flow → Shared → Prop}
noncomputable def MidB (h₀ : Heap) (L : Addr) (m : PySem.Str → Option Value) (news : List (Addr × Obj)) (x : PySem.Str) (b : Bool) (s₁ s₂ : Shared) : Prop :=
 ∃ h tk, s₂ = { s₁ with heap := h, toks := tk } ∧ Fr h₀ L h (fun y => if y = x then some (.bool b) else m y) ∧ News h₀ L h news
theorem exec_cutB {h₀ : Heap} {m : PySem.Str → Option Value} {news : List (Addr × Obj)} {st : Stmt} (_F : Fr h₀ env.locals s.heap m) (_N : News h₀ env.locals s.heap news) (x : PySem.Str) (b : Bool)
  (h : wpAny (model prog w) A (exec st env) (fun f s' => f = .next ∧ MidB h₀ env.locals m news x b s s') E s)
  (h2 : ∀ h tk, Fr h₀ env.locals h (fun y => if y = x then some (.bool b) else m y) → News h₀ env.locals h news → Q .next { s with heap := h, toks := tk }) :
  wpAny (model prog w) A (exec st env) Q E s :=
 wpAny_mono h (by rintro f s' ⟨rfl, h, tk, rfl, F, N⟩; exact h2 h tk F N) fun _ _ e => e
end
noncomputable def KiNames (W P : Addr) (hS : PySem.Str) (tH : Tok) (got : PySem.Str) (tg : Tok) (m : PySem.Str → Option Value) : Prop := m (Str.ofString "words") = some (.ref W) ∧ m (Str.ofString "hosts") = some (.str hS tH) ∧ m (Str.ofString "pasts") = some (.ref P) ∧ m (Str.ofString "got") = some (.str got tg)
theorem KiNames.open_ {W P : Addr} {hS : PySem.Str} {tH : Tok} {got : PySem.Str} {tg : Tok} {m : PySem.Str → Option Value} (h : KiNames W P hS tH got tg m) : m = fun y => if y = Str.ofString "words" then some (.ref W) else if y = Str.ofString "hosts" then some (.str hS tH) else if y = Str.ofString "pasts" then some (.ref P) else if y = Str.ofString "got" then some (.str got tg) else m y := by
 refine an4 h fun h1 h2 h3 h4 => ?_
 try clear h
 exact chain_open (l := [(Str.ofString "words", .ref W), (Str.ofString "hosts", .str hS tH), (Str.ofString "pasts", .ref P), (Str.ofString "got", .str got tg)]) (by
  intro p hp
  simp only [List.mem_cons, List.not_mem_nil, or_false] at hp
  rcases hp with rfl | rfl | rfl | rfl <;> assumption)
noncomputable def KiJ (W P : Addr) (hS : PySem.Str) (tH : Tok) (got : PySem.Str) (tg : Tok) (nx0 : List (Addr × Obj)) (_i : Nat) (m : PySem.Str → Option Value) (nx : List (Addr × Obj)) : Prop := nx = nx0 ∧ KiNames W P hS tH got tg m
theorem ofs_dots {c : Prop} [Decidable c] : (if c then Str.ofString "..." else Str.ofString "") = (if decide c = true then dots else emp) := by
 by_cases h : c <;> simp [h] <;> rfl
theorem dots_len : dots.length = 3 := by decide +kernel
theorem emp_len : emp.length = 0 := by decide +kernel
theorem mul2 {h : PySem.Str} (hx : Ltr h) : Txt.mul h 2 = dd (lc h) := cs_inj (by rw [cs_mul hx]; rfl)
theorem match_letter {ns : List Int} {i k : Nat} (hi : i < 6) (hk : k < 6) : matchB true true (List.replicate ((rW ns i).count (lc (rH ns i))) (lc (rH ns i))) (rW ns k) = rP ns i k := by
 rw [match_tt, rW_own hi hk]
theorem want_text2 (f b : Bool) (ds : List Nat) (hd : ds ≠ []) : (if f = true then dots else emp) ++ Txt.join (Str.ofString "...") (ds.map dd) ++ (if b = true then dots else emp) = Str.join dots (prt f b ds) := want_text f b ds hd
theorem mul_len {h : PySem.Str} (hx : Ltr h) {n : Nat} (hn : n ≤ 18) : (Txt.mul (Txt.mul h 2 ++ Str.ofString "...") (n : Int)).length ≤ 90 := by
 rw [← cs_len, cs_mulG _ (by exact lin [_] [] [] (7,.n 0,.c (.v 0)) [1] [] rfl), List.length_flatten, List.map_replicate, List.sum_replicate_nat, cs_len, Str.length_append, mul2 hx]
 have e1 : ((n : Int)).toNat = n := by omega
 have e2 : (Str.ofString "..." : PySem.Str).length = 3 := by decide +kernel
 have e3 : (dd (lc h)).length = 2 := rfl
 rw [e1, e2, e3]
 omega
theorem no46rep {h : PySem.Str} (hx : Ltr h) {n : Nat} : ∀ c ∈ List.replicate n (lc h), c ≠ 46 := fun c hc => by
 have := hx.cs.2
 rw [(List.mem_replicate.mp hc).2]
 exact this.elim (fun q0 => lin [_] [] [(2,.v 0,.n 97)] (5,.v 0,.n 46) [1,-1] [] rfl q0) fun q0 => q0.elim (fun q1 => lin [_] [] [(2,.v 0,.n 98)] (5,.v 0,.n 46) [1,-1] [] rfl q1) fun q1 => lin [_] [] [(2,.v 0,.n 99)] (5,.v 0,.n 46) [1,-1] [] rfl q1
end Mine
namespace Mine
section
variable {prog : Program} {w : World} {A : Around} {E : Value → Shared → Prop} {s : Shared} {h₀ : Heap} {L D : Addr} {news : List (Addr × Obj)} {t u : Tok}
theorem item_dots {value slice : PySem.Expr} {v : Tok} {n : Nat} {i : Int} {Q : Value → Shared → Prop} (N : News h₀ L s.heap news) (hm : (D, listOf #[Value.str (Str.ofString "...") t, Value.str (Str.ofString "") u] n) ∈ news) (h0 : 0 ≤ i) (h1 : i < 2)
  (h : ∀ (f : Bool) (x : PySem.Str) tk, x = (if f = true then dots else emp) → x.length ≤ 3 → Q (.str x tk) s)
  (hs : subscripted slice false (.ref D) (.int i v) = operate [.ref D, .int i v] (getItem (.ref D) (.int i v)) := by with_unfolding_all rfl) :
  wpAny (model prog w) A (subscriptTail value slice (.ref D) (.int i v)) Q E s :=
 item_two N hm h0 h1 (fun tk => by
  rw [ofs_dots]
  refine h _ _ tk rfl ?_
  have e1 := dots_len
  have e2 := emp_len
  split <;> omega) hs
theorem midB_of {m : PySem.Str → Option Value} {x : PySem.Str} {b b' : Bool} {h : Heap} {tk : Nat} {s₁ : Shared} (F : Fr h₀ L h (fun y => if y = x then some (.bool b') else m y)) (N : News h₀ L h news) (e : b' = b) : MidB h₀ L m news x b s₁ { s₁ with heap := h, toks := tk } :=
 ⟨h, tk, rfl, e ▸ F, N⟩
end
theorem fb_yes {f : Bool} {x : PySem.Str} (hx : x = (if f = true then dots else emp)) (h : (x != Str.ofString "") = true) : f = true := by
 cases f
 ·subst hx; exact absurd h (by decide +kernel)
 ·rfl
theorem fb_no {f : Bool} {x : PySem.Str} (hx : x = (if f = true then dots else emp)) (h : (x != Str.ofString "") = false) : f = false := by
 cases f
 ·rfl
 ·subst hx; exact absurd h (by decide +kernel)
theorem fb2 {f b : Bool} {x y : PySem.Str} (hx : x = (if f = true then dots else emp)) (hy : y = (if b = true then dots else emp)) : (x ++ y != Str.ofString "") = (f || b) := by
 subst hx hy
 cases f <;> cases b <;> decide +kernel
end Mine
namespace Mine
theorem due_is {ns : List Int} {j k : Nat} (hj : j < 6) (hk : k < 6) (hne : j ≠ k) (f b : Bool) {a z a2 z2 : Nat} (y2 : (rW ns j).head? = some a2) (x2 : (rW ns k).head? = some a) (y3 : (rW ns j).getLast? = some z2) (x3 : (rW ns k).getLast? = some z) :
  matchB f b (rW ns j) (rW ns k) = (rP ns j k && ((f || dd a2 == dd a) && (b || dd z2 == dd z)) && (decide (1 < (rW ns j).length) || (f || b))) := by
 rw [match_due hj hk hne, y2, x2, y3, x3, dd_eq, dd_eq]
 simp only [Option.some.injEq]
theorem fb3 {x y J : PySem.Str} {n : Nat} (hx : x.length ≤ 3) (hy : y.length ≤ 3) (hJ : J.length ≤ n) (hn : n ≤ 900) : (x ++ J ++ y).length ≤ 1000 := by
 rw [Str.length_append, Str.length_append]; omega
theorem news_drop1 {h₀ h : Heap} {L : Addr} {a : Addr × Obj} {r : List (Addr × Obj)} (N : News h₀ L h (a :: r)) : News h₀ L h r := fun p hp => N p (.tail _ hp)
theorem news_drop3 {h₀ h : Heap} {L : Addr} {a b c : Addr × Obj} {r : List (Addr × Obj)} (N : News h₀ L h (a :: b :: c :: r)) : News h₀ L h r := fun p hp => N p (.tail _ (.tail _ (.tail _ hp)))
theorem kled_ne {B I : Addr} {oO oK : Obj} {R : List (Addr × Obj)} (h : @LT.lt Nat _ (B + 1 + 1) I) (hn : ∀ p ∈ R, p.1 ≠ I) : ∀ p ∈ KLed B oO oK R, p.1 ≠ I := fun p hp => by
 simp only [List.mem_cons] at hp
 rcases hp with rfl | rfl | hp
 ·show @Ne Nat _ _; dsimp only; omega
 ·show @Ne Nat _ _; dsimp only; omega
 ·exact hn p hp
theorem dots_len3 : (Str.ofString "..." : PySem.Str).length = 3 := by decide +kernel
end Mine
end
section
local macro_rules | `(tactic| omega) => `(tactic| fail "OW")
theorem Mine.clean_B3 : Mine.CleanT := by
 intro M A Q E s h
 w_top off
 first
  | (walk1; fail_if_success skip)
  | exact h
open PySem PySem.W PyProof.Rows
namespace Mine
theorem li_0_B3 : (Str.ofString "...").length = 3 := by decide
local macro_rules | `(tactic| walk_at "ite") => `(tactic| first | refine ite_pos (by with_reducible assumption) ?_ | refine ite_neg (by with_reducible assumption) ?_ | refine ite_isFalse (by with_reducible assumption) ?_)
local macro_rules | `(tactic| k_all) => `(tactic| exact offLt (by assumption) (by omega))
local macro_rules | `(tactic| k_all) => `(tactic| assumption)
local macro_rules | `(tactic| k_mem) => `(tactic| assumption)
local macro_rules | `(tactic| walk_at "exec For") => `(tactic| (refine Hold.un ?_))
local macro_rules | `(tactic| walk_at "subscriptTail") => `(tactic| ((with_reducible show wpAny _ _ (subscriptTail _ _ (Value.ref _) (Value.int _ _)) _ _ _); refine Au.un 4 ?_))
local macro_rules | `(tactic| walk_at "CompSrc") => `(tactic| (refine Hold.un ?_))
local macro_rules | `(tactic| walk_at "CompSrcT") => `(tactic| (refine Hold.un ?_))
local macro_rules | `(tactic| walk_at "eval ListComp") => `(tactic| (refine Hold.un ?_))
local macro_rules | `(tactic| walk_at "pyIter ref") => `(tactic| (refine Hold.un ?_))
local macro_rules | `(tactic| walk_at "call builtin:list.count") => `(tactic| (refine Hold.un ?_))
local macro_rules | `(tactic| walk_at "call builtin:str.join") => `(tactic| (refine Hold.un ?_))
local macro_rules | `(tactic| walk_at "binaryOp Add str str") => `(tactic| refine Au.un 1 ?_)
local macro_rules | `(tactic| walk_at "getMethod ref") => `(tactic| ((with_reducible show wpAny _ _ (getMethod (Value.ref _) (PySem.Str.ofString "count") _) _ _ _); refine Au.un 3 ?_))
local macro_rules | `(tactic| walk_at "call ref") => `(tactic| (refine Hold.un ?_))
local macro_rules | `(tactic| walk_at "call builtin:len") => `(tactic| (refine Hold.un ?_))
local macro_rules | `(tactic| walk_at "compareOp In int ref") => `(tactic| (refine Hold.un ?_))
local macro_rules | `(tactic| walk_at "exec Assign cons BoolOp") => `(tactic| (refine Hold.un ?_))
local macro_rules | `(tactic| walk_at "binaryOp Mult str int") => `(tactic| ((with_reducible show wpAny _ _ (binaryOp Operator.Mult (Value.str (HAppend.hAppend (Txt.mul _ _) _) _) (Value.int _ _)) _ _ _); refine Au.un 2 ?_))
theorem known_spc (w : World) (ns : List Int) (W P : Addr) (nW nP : Nat) (ws ps : List Value) (tH : Tok) (news : List (Addr × Obj)) (hW : (W, listOf (List.toArray ws) nW) ∈ news) (hP : (P, listOf (List.toArray ps) nP) ∈ news) (hw : ws.length = 6) (hp : ps.length = 6)
  (h1 : ∀ i, i < 6 → ∃ q us n, ws[i]? = some (Value.ref q) ∧ (q, listOf (List.toArray us) n) ∈ news ∧ StrsAre us ((rW ns i).map dd))
  (h2 : ∀ i, i < 6 → ∃ q us n, ps[i]? = some (Value.ref q) ∧ (q, listOf (List.toArray us) n) ∈ news ∧ IntsAre us (pastL ns i)) :
  Spc w 281 6 [.ref W, .str (rHosts ns 6) tH, .ref P] news (fun r _ => r = .bool true) := by
 intro mean mg mb dp un gd cn cs a ccd cl outer A₀ base h₀ L m s Q E B F X N T hk hd hu hret
 (revert hW hP hw hp h1 h2 B F X N T hk hd hu hret; revert w ns W P nW nP ws ps tH news mean mg mb dp un gd cn cs a ccd cl outer A₀ base h₀ L m s Q E; fail "CLi"; rename_i w ns W P nW nP ws ps tH news mean mg mb dp un gd cn cs a ccd cl outer A₀ base h₀ L m s Q E hW hP hw hp h1 h2 B F X N T hk hd hu hret; fail "CLm")
 refine wpAny_call ?_
 k_dflt (refine' code_defC ?k1 ?k2 ?k3 ?k4 ?k5 ?kA ?kF ?kK ?k6 ?k7 ?k8 ?k9 ?kB ?kD ?_ ?c2 ?c3 ?c4; (case kA => exact rfl); (case kF => exact rfl); (case kK => first | exact rfl | assumption); (case k1 => k_asm); (case k2 => k_asm); (case k3 => k_asm); (case k4 => k_asm); (case k5 => k_asm); (case k6 => k_is); (case k7 => k_is); (case k8 => ktr_room); (case k9 => first | exact BindsTo.of_eq rfl | exact binds_K (by k_in) rfl (by k_is) rfl rfl rfl); (case kB => exact rfl); (case kD => decide +kernel); (case c2 => exact rfl); (case c3 => exact rfl); (case c4 => exact rfl); k_whole; intro g' L' h' tk' cells' FG' F' N' Y' B' X' T' l1; (try have l1 := allLt_of l1); k_cells Y'; (try simp only [List.cons_append, List.nil_append] at N'); (try dsimp only); (try k_lift B'); (try k_fold))
 (rename_i zz0 zz1 zz2 zz3 zz4; revert FG' F' B' X' T' zz0 l1 zz3 zz4 N'; revert g' L' h' tk' zz1 zz2; fail "CLi"; rename_i g' L' h' tk' zz1 zz2 FG' F' B' X' T' zz0 l1 zz3 zz4 N'; fail "CLm")
 k_steps
 refine Hold.mk ?_
 rename Fr _ _ _ _ => F9
 refine For_B F9 ?_
 k_steps
 refine Hold.mk ?_
 rename IsRange _ _ _ _ _ _ _ _ => hr9
 rename Fr _ _ _ _ => F9
 rename News _ _ _ _ => N9
 refine known_iter rfl hr9 F9 N9 ⟨rfl, rfl, rfl⟩ (by assumption) (by assumption) ?turn ?done
 case turn =>
  clear F9 N9 hr9
  intro k m₁ oO oK vO vK I t h tk hk6 hI eO eK hne F1 N1
  obtain ⟨q, us, nq, a1, a2, a3⟩ := h1 k hk6
  obtain ⟨q', us', nq', b1, b2, b3⟩ := h2 k hk6
  obtain ⟨hc1, hl18⟩ := rW_len (ns := ns) hk6
  have hne0 := rW_ne (ns := ns) hk6
  have hul : us.length = (rW ns k).length := by rw [StrsAre.len a3, List.length_map]
  have hXc := got_text (rW ns k)
  have hXl : (Txt.join (Str.ofString "") ((rW ns k).map dd)).length ≤ 100 := by
   rw [← cs_len, show Mine.cs (Txt.join (Str.ofString "") ((rW ns k).map dd)) = dblM (rW ns k) from hXc, dbl_len]; (first | exact lin [_] [] [(1,.v 0,.n 18)] (1,.m 2 (.v 0),.n 100) [1,2] [] rfl hl18 | omega)
  (rename_i zz0 zz1 zz2 zz3 zz4 zz5; revert zz5 hk6 hI eO eK hne F1 N1 a1 a2 a3 b1 b2 b3 hc1 hl18 hne0 hul hXc hXl; revert zz0 zz1 zz2 zz3 zz4 k m₁ oO oK vO vK I t h tk q us nq q' us' nq'; fail "CLi"; rename_i zz0 zz1 zz2 zz3 zz4 k m₁ oO oK vO vK I t h tk q us nq q' us' nq' zz5 hk6 hI eO eK hne F1 N1 a1 a2 a3 b1 b2 b3 hc1 hl18 hne0 hul hXc hXl; fail "CLm")
  (k_steps; repeat' (((with_reducible refine Au.mk 4 ?_); ((k_here; (with_reducible show wpAny _ _ (subscriptTail _ _ (Value.ref _) (Value.int _ _)) _ _ _); refine Hold.un ?_))) <;> k_steps))
  refine Hold.mk ?_
  rename News _ _ _ _ => N7
  refine item_atM (k := k) N7 (by k_mem) rfl a1 (by (first | exact lin [_] [] [(2,.v 0,.n 6)] (1,.v 0,.n 10000) [1,1] [] rfl hw | omega)) ?_
  (k_steps; repeat' (((with_reducible refine Au.mk 4 ?_); ((k_here; (with_reducible show wpAny _ _ (subscriptTail _ _ (Value.ref _) (Value.int _ _)) _ _ _); refine Hold.un ?_))) <;> k_steps))
  refine Hold.mk ?_
  rename News _ _ _ _ => N7
  refine item_atM (k := k) N7 (by k_mem) rfl a1 (by (first | exact lin [_] [] [(2,.v 0,.n 6)] (1,.v 0,.n 10000) [1,1] [] rfl hw | omega)) ?_
  k_steps
  refine Hold.mk ?_
  rename News _ _ _ _ => N7
  refine join_L N7 (by k_mem) a3 ?jok ?_
  case jok => exact got_jok hl18
  intro t5 k5
  have hXc : Mine.cs (Txt.join (Str.ofString "") ((rW ns k).map dd)) = dblM (rW ns k) := hXc
  generalize Txt.join (Str.ofString "") ((rW ns k).map dd) = got at hXl hXc ⊢
  (revert hXl hXc; revert t5 k5 got; fail "CLi"; rename_i t5 k5 got hXl hXc; fail "CLm")
  k_steps
  refine Hold.mk ?_
  k_dflt (refine LCg.ListComp_U (F₀ := by k_asm) (by with_unfolding_all rfl) (by decide) (by rfl) (by decide) (by rfl) ?_)
  k_steps
  refine Hold.mk ?_
  k_dflt (refine LCg.CompSrc.ledger (by rfl) (by k_asm) (by k_asm) (.head _) (by rw [sizeLine_eq]; show 3 ≤ 16777216; decide) ?_)
  intro g7
  refine crK_U (fun i ys => StrsAre ys ((turnL (rW ns k)).take i)) ?tc .nil ?fc
  case tc =>
   intro i ys v I5 oI5 C5 oC5 D5 m5 h5 tk5 E5 hi5 hv5 hJ5 hC5 hx5 F5 N5 off5 ne5
   have hi5 : i < 3 := hi5
   have hct : ∀ c, (rW ns k).count c ≤ 18 := fun c => Nat.le_trans List.count_le_length hl18
   have hc9 := hct 99
   have hc8 := hct 98
   have hc7 := hct 97
   match i, hi5, hv5, hJ5 with
   | 0, _, hv5, hJ5 =>
    obtain ⟨u5, rfl⟩ : ∃ u5, v = .str (Str.ofString "cc") u5 := ⟨_, (Option.some.inj hv5).symm⟩
    (rename_i zz0 zz1 zz2 zz3 zz4 zz5 zz6 zz7 zz8; revert zz2 zz3 zz4 zz5 hC5 F5 N5 off5 ne5 zz6 hct hc9 hc8 hc7 zz7 hJ5 hi5 zz8 hx5 hv5; revert zz0 zz1 g7 i ys I5 oI5 C5 oC5 D5 m5 h5 tk5 E5 u5; fail "CLi"; rename_i zz0 zz1 g7 i ys I5 oI5 C5 oC5 D5 m5 h5 tk5 E5 u5 zz2 zz3 zz4 zz5 hC5 F5 N5 off5 ne5 zz6 hct hc9 hc8 hc7 zz7 hJ5 hi5 zz8 hx5 hv5; fail "CLm")
    (k_steps; repeat' ((first | ((with_reducible refine Au.mk 1 ?_); ((k_here; refine KOpn.add (by ((try simp only [PySem.Str.length_append]); (try kopn_lits); (try simp only [li_0_B3]); (first | decide | omega))) ?_; intro t'z kz hlenz))) | ((with_reducible refine Au.mk 3 ?_); ((k_here; (with_reducible show wpAny _ _ (getMethod (Value.ref _) (PySem.Str.ofString "count") _) _ _ _); k_dflt (refine' listMethod_K ?N ?m PySem.F.slot_list_count PySem.F.type_list_count ?_; (case N => k_asm); (case m => k_mem)))))) <;> k_steps))
    refine Hold.mk ?_
    rename News _ _ _ _ => N7
    refine count_list_strs (isl_of nq (N7 (q, listOf (List.toArray us) nq) (by k_mem)).1) a3 ?_
    rw [count_dds (c := 99) (cs_inj (by decide +kernel))]
    (rename_i zz0; revert zz0 hlenz; revert t'z kz; fail "CLi"; rename_i t'z kz zz0 hlenz; fail "CLm")
    k_steps
    exact LCg.CompEnd.intro (by k_asm) (by k_asm) _ (fun p hp => hp) off5 (.inr ⟨_, .head _, rfl, _, rfl⟩) ⟨rfl, StrsAre.app hJ5 (.cons _ _ .nil)⟩
   | 1, _, hv5, hJ5 =>
    obtain ⟨u5, rfl⟩ : ∃ u5, v = .str (Str.ofString "bb") u5 := ⟨_, (Option.some.inj hv5).symm⟩
    (rename_i zz0 zz1 zz2 zz3 zz4 zz5 zz6 zz7 zz8; revert zz2 zz3 zz4 zz5 hC5 F5 N5 off5 ne5 zz6 hct hc9 hc8 hc7 zz7 hJ5 hi5 zz8 hx5 hv5; revert zz0 zz1 g7 i ys I5 oI5 C5 oC5 D5 m5 h5 tk5 E5 u5; fail "CLi"; rename_i zz0 zz1 g7 i ys I5 oI5 C5 oC5 D5 m5 h5 tk5 E5 u5 zz2 zz3 zz4 zz5 hC5 F5 N5 off5 ne5 zz6 hct hc9 hc8 hc7 zz7 hJ5 hi5 zz8 hx5 hv5; fail "CLm")
    (k_steps; repeat' ((first | ((with_reducible refine Au.mk 1 ?_); ((k_here; refine KOpn.add (by ((try simp only [PySem.Str.length_append]); (try kopn_lits); (try simp only [li_0_B3]); (first | decide | omega))) ?_; intro t'z kz hlenz))) | ((with_reducible refine Au.mk 3 ?_); ((k_here; (with_reducible show wpAny _ _ (getMethod (Value.ref _) (PySem.Str.ofString "count") _) _ _ _); k_dflt (refine' listMethod_K ?N ?m PySem.F.slot_list_count PySem.F.type_list_count ?_; (case N => k_asm); (case m => k_mem)))))) <;> k_steps))
    refine Hold.mk ?_
    rename News _ _ _ _ => N7
    refine count_list_strs (isl_of nq (N7 (q, listOf (List.toArray us) nq) (by k_mem)).1) a3 ?_
    rw [count_dds (c := 98) (cs_inj (by decide +kernel))]
    (rename_i zz0; revert zz0 hlenz; revert t'z kz; fail "CLi"; rename_i t'z kz zz0 hlenz; fail "CLm")
    k_steps
    exact LCg.CompEnd.intro (by k_asm) (by k_asm) _ (fun p hp => hp) off5 (.inr ⟨_, .head _, rfl, _, rfl⟩) ⟨rfl, StrsAre.app hJ5 (.cons _ _ .nil)⟩
   | 2, _, hv5, hJ5 =>
    obtain ⟨u5, rfl⟩ : ∃ u5, v = .str (Str.ofString "aa") u5 := ⟨_, (Option.some.inj hv5).symm⟩
    (rename_i zz0 zz1 zz2 zz3 zz4 zz5 zz6 zz7 zz8; revert zz2 zz3 zz4 zz5 hC5 F5 N5 off5 ne5 zz6 hct hc9 hc8 hc7 zz7 hJ5 hi5 zz8 hx5 hv5; revert zz0 zz1 g7 i ys I5 oI5 C5 oC5 D5 m5 h5 tk5 E5 u5; fail "CLi"; rename_i zz0 zz1 g7 i ys I5 oI5 C5 oC5 D5 m5 h5 tk5 E5 u5 zz2 zz3 zz4 zz5 hC5 F5 N5 off5 ne5 zz6 hct hc9 hc8 hc7 zz7 hJ5 hi5 zz8 hx5 hv5; fail "CLm")
    (k_steps; repeat' ((first | ((with_reducible refine Au.mk 1 ?_); ((k_here; refine KOpn.add (by ((try simp only [PySem.Str.length_append]); (try kopn_lits); (try simp only [li_0_B3]); (first | decide | omega))) ?_; intro t'z kz hlenz))) | ((with_reducible refine Au.mk 3 ?_); ((k_here; (with_reducible show wpAny _ _ (getMethod (Value.ref _) (PySem.Str.ofString "count") _) _ _ _); k_dflt (refine' listMethod_K ?N ?m PySem.F.slot_list_count PySem.F.type_list_count ?_; (case N => k_asm); (case m => k_mem)))))) <;> k_steps))
    refine Hold.mk ?_
    rename News _ _ _ _ => N7
    refine count_list_strs (isl_of nq (N7 (q, listOf (List.toArray us) nq) (by k_mem)).1) a3 ?_
    rw [count_dds (c := 97) (cs_inj (by decide +kernel))]
    (rename_i zz0; revert zz0 hlenz; revert t'z kz; fail "CLi"; rename_i t'z kz zz0 hlenz; fail "CLm")
    k_steps
    exact LCg.CompEnd.intro (by k_asm) (by k_asm) _ (fun p hp => hp) off5 (.inr ⟨_, .head _, rfl, _, rfl⟩) ⟨rfl, StrsAre.app hJ5 (.cons _ _ .nil)⟩
  case fc =>
   intro ys5 hJ5
   have hJ5 : StrsAre ys5 (turnL (rW ns k)) := hJ5
   have htl := turn_jlen (ns := ns) (k := k) hl18
   have hta := turn_all (ns := ns) hne0
   (rename_i zz0 zz1 zz2 zz3 zz4 zz5; revert zz2 zz3 zz4 zz5 hJ5 htl hta; revert zz0 zz1 g7 ys5; fail "CLi"; rename_i zz0 zz1 g7 ys5 zz2 zz3 zz4 zz5 hJ5 htl hta; fail "CLm")
   k_steps
   refine Hold.mk ?_
   rename News _ _ _ _ => N7
   refine join_L N7 (.head _) hJ5 ?jok2 ?_
   case jok2 => exact turn_jok hl18
   intro t6 k6
   (rename_i zz0 zz1 zz2 zz3 zz4; revert zz3 N7 zz4; revert zz0 zz1 zz2 t6 k6; fail "CLi"; rename_i zz0 zz1 zz2 t6 k6 zz3 N7 zz4; fail "CLm")
   (k_steps; repeat' (((with_reducible refine Au.mk 1 ?_); ((k_here; refine KOpn.add (by ((try simp only [PySem.Str.length_append]); (try kopn_lits); (try simp only [li_0_B3]); (first | exact lin [_] [] [(1,.v 0,.n 300)] (1,.a (.n 3) (.v 0),.n 16777216) [1,1] [] rfl htl | omega))) ?_; intro t'z kz hlenz))) <;> k_steps))
   refine Hold.mk ?_
   rename News _ _ _ _ => N7
   refine join_L N7 (by k_mem) a3 ?jok3 ?_
   case jok3 => exact own_jok hl18
   intro t7 k7
   have hol := own_jlen hl18
   obtain ⟨av, zv, z1, z2, z3, z4, z5⟩ := ends_of hne0
   (revert hol z1 z2 z3 z4 z5; revert t7 k7 av zv; fail "CLi"; rename_i t7 k7 av zv hol z1 z2 z3 z4 z5; fail "CLm")
   k_steps
   refine Hold.mk ?_
   k_dflt (refine' em_any w _ _ _ _ _ false false (rW ns k) (rW ns k) (own_text _) hXc hne0 hne0 no46 (by (first | exact lin [_] [] [(1,.v 0,.n 300)] (1,.v 0,.n 1000) [1,1] [] rfl hol | omega)) (by (first | exact lin [_] [] [(1,.v 0,.n 100)] (1,.v 0,.n 1000) [1,1] [] rfl hXl | omega)) (by (first | exact lin [_] [] [(1,.v 0,.n 18)] (1,.v 0,.n 1000) [1,1] [] rfl hl18 | omega)) _ _ _ _ _ _ _ _ _ _ _ _ _ _ _ _ _ _ _ _ ?B ?F ?X ?N ?T ?ck ?dd ?uu ?_; (case B => k_asm); (case F => k_asm); (case X => k_asm); (case N => k_asm); (case T => k_asm); (case ck => first | exact rfl | assumption); (case dd => ktr_room); (case uu => ktr_units))
   intro r9 news9 h9 tk9 F9 N9 e9
   obtain ⟨e9, e8⟩ := e9
   rw [match_own] at e9
   (have e9 := e9.symm; subst e9)
   (have e8 := e8.symm; subst e8)
   (revert F9 e9 N9 e8; revert h9 tk9; fail "CLi"; rename_i h9 tk9 F9 e9 N9 e8; fail "CLm")
   k_steps
   refine Hold.mk ?_
   k_dflt (refine' em_any w _ _ _ _ _ true true (rW ns k).reverse (rW ns k) hta hXc hne0 (by simpa using hne0) no46r (Nat.le_trans (dots3 htl) (by decide)) (by (first | exact lin [_] [] [(1,.v 0,.n 100)] (1,.v 0,.n 1000) [1,1] [] rfl hXl | omega)) (by rw [List.length_reverse]; (first | exact lin [_] [] [(1,.v 0,.n 18)] (1,.v 0,.n 1000) [1,1] [] rfl hl18 | omega)) _ _ _ _ _ _ _ _ _ _ _ _ _ _ _ _ _ _ _ _ ?B ?F ?X ?N ?T ?ck ?dd ?uu ?_; (case B => k_asm); (case F => k_asm); (case X => k_asm); (case N => k_asm); (case T => k_asm); (case ck => first | exact rfl | assumption); (case dd => ktr_room); (case uu => ktr_units))
   intro r9 news9 h9 tk9 F9 N9 e9
   obtain ⟨e9, e8⟩ := e9
   rw [turned_is z2 z3] at e9
   (have e9 := e9.symm; subst e9)
   (have e8 := e8.symm; subst e8)
   obtain ⟨tt1, z6⟩ := strs_get a3 z4
   obtain ⟨tt2, z7⟩ := strs_end a3 z5
   (revert F9 e9 N9 e8 z6 z7; revert h9 tk9 tt1 tt2; fail "CLi"; rename_i h9 tk9 tt1 tt2 F9 e9 N9 e8 z6 z7; fail "CLm")
   (k_steps; repeat' (((with_reducible refine Au.mk 4 ?_); ((k_here; (with_reducible show wpAny _ _ (subscriptTail _ _ (Value.ref _) (Value.int _ _)) _ _ _); refine Hold.un ?_))) <;> k_steps))
   refine Hold.mk ?_
   rename News _ _ _ _ => N7
   refine item_atM (k := 0) N7 (by k_mem) rfl z6 (by (first | exact lin [_,_] [] [(1,.v 0,.n 18),(2,.v 1,.v 0)] (1,.v 1,.n 10000) [1,1,1] [] rfl hl18 hul | omega)) ?_
   (k_steps; repeat' (((with_reducible refine Au.mk 4 ?_); ((k_here; (with_reducible show wpAny _ _ (subscriptTail _ _ (Value.ref _) (Value.int _ _)) _ _ _); refine Hold.un ?_))) <;> k_steps))
   refine Hold.mk ?_
   rename News _ _ _ _ => N7
   refine item_end N7 (by k_mem) z7 ?_
   k_steps
   ·exfalso
    rename (_ != _) = true => e9
    simp at e9
   ·refine Hold.mk ?_
    rename Fr _ _ _ _ => F9
    rename News _ _ _ _ => N9
    have N6 := news_drop3 N9
    clear N9 hta htl hol hJ5
    refine For_invVF F9 rfl rfl ?_
    fail "CLn"
    k_steps
    refine Hold.mk ?_
    k_dflt (refine LCt.ListComp_T (F₀ := by k_asm) (by with_unfolding_all rfl) (by decide) (by rfl) (by decide) (by rfl) ?_)
    k_steps
    refine Hold.mk ?_
    k_dflt (refine LCt.CompSrcT.range (n := 6) (by rfl) (by k_asm) (by k_asm) (by assumption) (by decide) (by decide) (by rw [sizeLine_eq]; decide) ?_)
    intro g8
    refine crK_T (fun j zs => IntsAre zs (otherL k j)) ?to .nil ?fo
    case to =>
     rintro j' zs v I6 oI6 C6 oC6 D6 m6 h6 tk6 E6 hj6 ⟨tv, rfl⟩ hJ6 hC6 hx6 F6 N6 off6 ne6
     (rename_i zz0 zz1 zz2 zz3 zz4 zz5 zz6 zz7 zz8; revert zz5 zz6 zz7 zz8 hj6 hJ6 hC6 hx6 F6 N6 off6 ne6; revert zz0 zz1 zz2 zz3 zz4 g8 j' zs I6 oI6 C6 oC6 D6 m6 h6 tk6 E6 tv; fail "CLi"; rename_i zz0 zz1 zz2 zz3 zz4 g8 j' zs I6 oI6 C6 oC6 D6 m6 h6 tk6 E6 tv zz5 zz6 zz7 zz8 hj6 hJ6 hC6 hx6 F6 N6 off6 ne6; fail "CLm")
     k_steps
     ·refine LCg.CompEnd.intro (by k_asm) (by k_asm) _ (fun p hp => hp) off6 trivial ⟨rfl, other_yesZ (Int.zero_add _) (by (first | exact (Int.lt_or_gt_of_ne (by assumption)).elim (fun q0 => lin [_,_] [] [(6,.a (.n 0) (.c (.v 0)),.c (.v 1))] (5,.v 0,.v 1) [-1,1] [] rfl q0) fun q0 => lin [_,_] [] [(6,.c (.v 0),.a (.n 0) (.c (.v 1)))] (5,.v 1,.v 0) [1,1] [] rfl q0 | omega)) hJ6⟩
     ·refine LCg.CompEnd.intro (by k_asm) (by k_asm) _ (fun p hp => hp) off6 trivial ⟨rfl, other_no (by (first | exact lin [_,_] [] [(8,.a (.n 0) (.c (.v 0)),.c (.v 1))] (2,.v 0,.v 1) [1,1] [1,-1] rfl (by assumption) | omega)) hJ6⟩
    case fo =>
     intro ys6 hJ6
     (rename_i zz0 zz1 zz2 zz3 zz4 zz5 zz6 zz7 zz8; revert zz5 zz6 zz7 zz8 hJ6; revert zz0 zz1 zz2 zz3 zz4 g8 ys6; fail "CLi"; rename_i zz0 zz1 zz2 zz3 zz4 g8 ys6 zz5 zz6 zz7 zz8 hJ6; fail "CLm")
     k_steps
     refine Hold.mk ?_
     rename Fr _ _ _ _ => F9
     rename News _ _ _ _ => N9
     refine kdl_iter (KiJ W P (rHosts ns 6) tH got _ _) rfl (.head _) F9 N9 ⟨rfl, rfl, rfl, rfl, rfl⟩ ?turn6 ?done6
     case done6 =>
      rintro m1 nx h tk ⟨rfl, hm⟩ F1 N1
      rw [hm.open_] at F1
      (rename_i zz0 zz1 zz2 zz3; revert F9 N9 zz3 hm F1 N1; revert zz0 zz1 zz2 m1 h tk; fail "CLi"; rename_i zz0 zz1 zz2 m1 h tk F9 N9 zz3 hm F1 N1; fail "CLm")
      k_steps
      rename Fr _ _ _ _ => F7
      rename News _ _ _ _ => N7
      exact ⟨_, _, _, _, _, rfl, F7, news_drop1 N7, kled_ne hI hne, rfl, ⟨rfl, rfl, rfl⟩, _, _, _, _, rfl, (by assumption), (by assumption)⟩
     case turn6 =>
      rintro i v m1 nx h tk own hv hoff hmem ⟨rfl, hm⟩ F1 N1
      rw [hm.open_] at F1
      obtain ⟨z, t8, rfl, hz⟩ := ints_getM hJ6 hv
      obtain ⟨jn, rfl, hj6, hjk⟩ := other_get hz
      obtain ⟨q2, us2, n2, c1, c2, c3⟩ := h1 jn hj6
      obtain ⟨hd1, hd18⟩ := rW_len (ns := ns) hj6
      have hdne := rW_ne (ns := ns) hj6
      obtain ⟨a2v, z2v, y1, y2, y3, y4, y5⟩ := ends_of hdne
      obtain ⟨tt3, y6⟩ := strs_get c3 y4
      obtain ⟨tt4, y7⟩ := strs_end c3 y5
      have g1 := List.mem_append_left own hW
      have g2 := List.mem_append_left own hP
      have g3 := List.mem_append_left own a2
      have g4 := List.mem_append_left own b2
      have g5 := List.mem_append_left own c2
      simp only [List.cons_append] at N1
      (rename_i zz0 zz1 zz2 zz3; revert F9 N9 zz3 hm hoff hmem N1 hz hv F1 hj6 hjk c1 c2 c3 hd1 hd18 hdne y1 y2 y3 y4 y5 y6 y7 g1 g2 g3 g4 g5; revert zz0 zz1 zz2 i m1 h tk own t8 jn q2 us2 n2 a2v z2v tt3 tt4; fail "CLi"; rename_i zz0 zz1 zz2 i m1 h tk own t8 jn q2 us2 n2 a2v z2v tt3 tt4 F9 N9 zz3 hm hoff hmem N1 hz hv F1 hj6 hjk c1 c2 c3 hd1 hd18 hdne y1 y2 y3 y4 y5 y6 y7 g1 g2 g3 g4 g5; fail "CLm")
      (k_steps; repeat' (((with_reducible refine Au.mk 4 ?_); ((k_here; (with_reducible show wpAny _ _ (subscriptTail _ _ (Value.ref _) (Value.int _ _)) _ _ _); refine Hold.un ?_))) <;> k_steps))
      refine Hold.mk ?_
      rename News _ _ _ _ => N7
      refine item_atM (k := jn) N7 (by k_mem) rfl c1 (by (first | exact lin [_] [] [(2,.v 0,.n 6)] (1,.v 0,.n 10000) [1,1] [] rfl hw | omega)) ?_
      (k_steps; repeat' (((with_reducible refine Au.mk 4 ?_); ((k_here; (with_reducible show wpAny _ _ (subscriptTail _ _ (Value.ref _) (Value.int _ _)) _ _ _); refine Hold.un ?_))) <;> k_steps))
      refine Hold.mk ?_
      rename News _ _ _ _ => N7
      refine item_atM (k := k) N7 (by k_mem) rfl b1 (by (first | exact lin [_] [] [(2,.v 0,.n 6)] (1,.v 0,.n 10000) [1,1] [] rfl hp | omega)) ?_
      k_steps
      refine Hold.mk ?_
      rename News _ _ _ _ => N7
      refine in_list_ints (isl_of nq' (N7 (q', listOf (List.toArray us') nq') (by k_mem)).1) b3 ?_
      rw [past_mem]
      (k_steps; repeat' (((with_reducible refine Au.mk 4 ?_); ((k_here; (with_reducible show wpAny _ _ (subscriptTail _ _ (Value.ref _) (Value.int _ _)) _ _ _); refine Hold.un ?_))) <;> k_steps))
      refine Hold.mk ?_
      rename News _ _ _ _ => N7
      refine item_dots N7 (.head _) (fmod_lo _ (by decide)) (fmod_hi _ (by decide)) ?_
      intro f xf t9 hxf hxfl
      (rename_i zz0 zz1 zz2 zz3; revert zz2 N7 zz3 hxf hxfl; revert zz0 zz1 f xf t9; fail "CLi"; rename_i zz0 zz1 f xf t9 zz2 N7 zz3 hxf hxfl; fail "CLm")
      (k_steps; repeat' (((with_reducible refine Au.mk 4 ?_); ((k_here; (with_reducible show wpAny _ _ (subscriptTail _ _ (Value.ref _) (Value.int _ _)) _ _ _); refine Hold.un ?_))) <;> k_steps))
      refine Hold.mk ?_
      rename News _ _ _ _ => N7
      refine item_dots N7 (.head _) (fmod_lo _ (by decide)) (fmod_hi _ (by decide)) ?_
      intro b xb t10 hxb hxbl
      (rename_i zz0 zz1 zz2 zz3; revert zz2 N7 zz3 hxb hxbl; revert zz0 zz1 b xb t10; fail "CLi"; rename_i zz0 zz1 b xb t10 zz2 N7 zz3 hxb hxbl; fail "CLm")
      k_steps
      refine Hold.mk ?_
      rename Fr _ _ _ _ => F9
      rename News _ _ _ _ => N9
      refine exec_cutB F9 N9 (Str.ofString "alike") ((f || (dd a2v == dd av)) && (b || (dd z2v == dd zv))) ?al ?_
      case al =>
       refine wpAny_Assign_Name ?_
       (k_steps; repeat' (((with_reducible refine Au.mk 4 ?_); ((k_here; (with_reducible show wpAny _ _ (subscriptTail _ _ (Value.ref _) (Value.int _ _)) _ _ _); refine Hold.un ?_))) <;> k_steps))
       ·rename Fr _ _ _ _ => F7
        rename News _ _ _ _ => N7
        rename (xb != _) = true => q2
        rename (xf != _) = true => q1
        exact midB_of F7 N7 (by rw [q2, fb_yes hxf q1, fb_yes hxb q2]; rfl)
       ·rename (xb != _) = false => q2
        rename (xf != _) = true => q1
        refine Hold.mk ?_
        rename News _ _ _ _ => N7
        refine item_end N7 (by k_mem) y7 ?_
        fail "CLn"
        (k_steps; repeat' (((with_reducible refine Au.mk 4 ?_); ((k_here; (with_reducible show wpAny _ _ (subscriptTail _ _ (Value.ref _) (Value.int _ _)) _ _ _); refine Hold.un ?_))) <;> k_steps))
        refine Hold.mk ?_
        rename News _ _ _ _ => N7
        refine item_end N7 (by k_mem) z7 ?_
        k_steps
        rename Fr _ _ _ _ => F7
        rename News _ _ _ _ => N7
        exact midB_of F7 N7 (by rw [fb_yes hxf q1, fb_no hxb q2]; simp)
       ·rename (xf != _) = false => q1
        refine Hold.mk ?_
        rename News _ _ _ _ => N7
        refine item_atM (k := 0) N7 (by k_mem) rfl y6 (by rw [StrsAre.len c3, List.length_map]; (first | exact lin [_] [] [(1,.v 0,.n 18)] (1,.v 0,.n 10000) [1,1] [] rfl hd18 | omega)) ?_
        fail "CLn"
        (k_steps; repeat' (((with_reducible refine Au.mk 4 ?_); ((k_here; (with_reducible show wpAny _ _ (subscriptTail _ _ (Value.ref _) (Value.int _ _)) _ _ _); refine Hold.un ?_))) <;> k_steps))
        refine Hold.mk ?_
        rename News _ _ _ _ => N7
        refine item_atM (k := 0) N7 (by k_mem) rfl z6 (by (first | exact lin [_,_] [] [(1,.v 0,.n 18),(2,.v 1,.v 0)] (1,.v 1,.n 10000) [1,1,1] [] rfl hl18 hul | omega)) ?_
        (k_steps; repeat' (((with_reducible refine Au.mk 4 ?_); ((k_here; (with_reducible show wpAny _ _ (subscriptTail _ _ (Value.ref _) (Value.int _ _)) _ _ _); refine Hold.un ?_))) <;> k_steps))
        ·rename (xb != _) = true => q3
         rename (dd a2v == dd av) = true => q2
         rename Fr _ _ _ _ => F7
         rename News _ _ _ _ => N7
         exact midB_of F7 N7 (by rw [q3, q2, fb_yes hxb q3]; simp)
        ·rename (xb != _) = false => q3
         rename (dd a2v == dd av) = true => q2
         refine Hold.mk ?_
         rename News _ _ _ _ => N7
         refine item_end N7 (by k_mem) y7 ?_
         fail "CLn"
         (k_steps; repeat' (((with_reducible refine Au.mk 4 ?_); ((k_here; (with_reducible show wpAny _ _ (subscriptTail _ _ (Value.ref _) (Value.int _ _)) _ _ _); refine Hold.un ?_))) <;> k_steps))
         refine Hold.mk ?_
         rename News _ _ _ _ => N7
         refine item_end N7 (by k_mem) z7 ?_
         k_steps
         rename Fr _ _ _ _ => F7
         rename News _ _ _ _ => N7
         exact midB_of F7 N7 (by rw [q2, fb_no hxb q3]; simp)
        ·rename (dd a2v == dd av) = false => q2
         rename Fr _ _ _ _ => F7
         rename News _ _ _ _ => N7
         exact midB_of F7 N7 (by rw [q2, fb_no hxf q1]; simp)
      clear F9 N9
      intro h9 tk9 F9 N9
      (revert F9 N9; revert h9 tk9; fail "CLi"; rename_i h9 tk9 F9 N9; fail "CLm")
      k_steps
      refine Hold.mk ?_
      rename Fr _ _ _ _ => F9
      rename News _ _ _ _ => N9
      refine exec_cutB F9 N9 (Str.ofString "due") (rP ns jn k && ((f || (dd a2v == dd av)) && (b || (dd z2v == dd zv))) && (decide (1 < (rW ns jn).length) || (f || b))) ?du ?_
      case du =>
       refine wpAny_Assign_Name ?_
       k_steps
       ·refine Hold.mk ?_
        rename News _ _ _ _ => N7
        refine len_KM (its := List.toArray us2) (n := n2) N7 (by k_mem) (by rw [List.size_toArray, StrsAre.len c3, List.length_map]; (first | exact lin [_] [] [(1,.v 0,.n 18)] (1,.v 0,.n 1000000) [1,1] [] rfl hd18 | omega)) ?_
        rw [List.size_toArray, StrsAre.len c3, List.length_map]
        (k_steps; repeat' (((with_reducible refine Au.mk 1 ?_); ((k_here; refine KOpn.add (by ((try simp only [PySem.Str.length_append]); (try kopn_lits); (try simp only [li_0_B3]); (first | exact lin [_,_] [] [(1,.v 0,.n 3),(1,.v 1,.n 3)] (1,.a (.v 0) (.v 1),.n 16777216) [1,1,1] [] rfl hxfl hxbl | omega))) ?_; intro t'z kz hlenz))) <;> k_steps))
        ·exact True.intro
        ·rename rP ns jn k = true => q1
         rename ((f || _) && (b || _)) = true => q2
         rename (1 : Int) < _ => q3
         rename Fr _ _ _ _ => F7
         rename News _ _ _ _ => N7
         exact midB_of F7 N7 (by rw [q1, q2, decide_eq_true q3, decide_eq_true (show 1 < (rW ns jn).length by (first | exact lin [_] [] [(6,.n 1,.c (.v 0))] (0,.n 1,.v 0) [1,1] [] rfl q3 | omega))]; rfl)
        ·exact True.intro
        ·rename rP ns jn k = true => q1
         rename ((f || _) && (b || _)) = true => q2
         rename ¬ (1 : Int) < _ => q3
         rename Fr _ _ _ _ => F7
         rename News _ _ _ _ => N7
         exact midB_of F7 N7 (by rw [q1, q2, fb2 hxf hxb, decide_eq_false (show ¬ 1 < (rW ns jn).length by (first | exact lin [_] [] [(9,.n 1,.c (.v 0))] (3,.n 1,.v 0) [1,1] [] rfl q3 | omega))]; simp)
       ·rename ((f || _) && (b || _)) = false => q2
        rename Fr _ _ _ _ => F7
        rename News _ _ _ _ => N7
        exact midB_of F7 N7 (by rw [q2]; simp)
       ·rename rP ns jn k = false => q1
        rename Fr _ _ _ _ => F7
        rename News _ _ _ _ => N7
        exact midB_of F7 N7 (by rw [q1]; simp)
      clear F9 N9
      intro h9 tk9 F9 N9
      (revert F9 N9; revert h9 tk9; fail "CLi"; rename_i h9 tk9 F9 N9; fail "CLm")
      k_steps
      refine Hold.mk ?_
      rename News _ _ _ _ => N7
      refine join_L N7 (by k_mem) c3 ?jok4 ?_
      case jok4 => exact own_jok hd18
      intro t11 k11
      have hol2 := own_jlen hd18
      (revert hol2; revert t11 k11; fail "CLi"; rename_i t11 k11 hol2; fail "CLm")
      (k_steps; repeat' (((with_reducible refine Au.mk 1 ?_); ((k_here; refine KOpn.add (by ((try simp only [PySem.Str.length_append]); (try kopn_lits); (try simp only [li_0_B3]); (first | exact lin [_,_] [] [(1,.v 0,.n 3),(1,.v 1,.n 300)] (1,.a (.v 0) (.v 1),.n 16777216) [1,1,1] [] rfl hxfl hol2 | exact lin [_,_,_] [] [(1,.v 0,.n 3),(1,.v 1,.n 3),(1,.v 2,.n 300)] (1,.a (.a (.v 0) (.v 2)) (.v 1),.n 16777216) [1,1,1,1] [] rfl hxfl hxbl hol2 | omega))) ?_; intro t'z kz hlenz))) <;> k_steps))
      refine Hold.mk ?_
      k_dflt (refine' em_any w _ _ _ _ _ f b (rW ns jn) (rW ns k) (by rw [hxf, hxb]; exact want_text2 f b _ hdne) hXc hne0 hdne no46 (fb3 hxfl hxbl hol2 (by decide)) (by (first | exact lin [_] [] [(1,.v 0,.n 100)] (1,.v 0,.n 1000) [1,1] [] rfl hXl | omega)) (by (first | exact lin [_] [] [(1,.v 0,.n 18)] (1,.v 0,.n 1000) [1,1] [] rfl hd18 | omega)) _ _ _ _ _ _ _ _ _ _ _ _ _ _ _ _ _ _ _ _ ?B ?F ?X ?N ?T ?ck ?dd ?uu ?_; (case B => k_asm); (case F => k_asm); (case X => k_asm); (case N => k_asm); (case T => k_asm); (case ck => first | exact rfl | assumption); (case dd => ktr_room); (case uu => ktr_units))
      intro r9 news9 h9 tk9 F9 N9 e9
      obtain ⟨e9, e8⟩ := e9
      rw [due_is hj6 hk6 hjk f b y2 z2 y3 z3] at e9
      (have e9 := e9.symm; subst e9)
      (have e8 := e8.symm; subst e8)
      have hh6 := rHosts_len (ns := ns) 6
      have hHL := rH_ltr (ns := ns) jn
      have hHl : (rH ns jn).length = 1 := by rw [← cs_len, hHL.cs.1]; rfl
      have hml : (Txt.mul (rH ns jn) 2).length = 2 := by rw [mul2 hHL]; rfl
      have hct : (rW ns jn).count (lc (rH ns jn)) ≤ 18 := Nat.le_trans List.count_le_length hd18
      (rename_i zz0 zz1 zz2; revert zz2 hlenz F9 e9 N9 e8 hh6 hHL hHl hml hct; revert zz0 zz1 t'z kz h9 tk9; fail "CLi"; rename_i zz0 zz1 t'z kz h9 tk9 zz2 hlenz F9 e9 N9 e8 hh6 hHL hHl hml hct; fail "CLm")
      (k_steps; repeat' ((first | ((with_reducible refine Au.mk 1 ?_); (have auoff := AuOff.on; walk1 <;> clear auoff)) | ((with_reducible refine Au.mk 3 ?_); ((k_here; (with_reducible show wpAny _ _ (getMethod (Value.ref _) (PySem.Str.ofString "count") _) _ _ _); k_dflt (refine' listMethod_K ?N ?m PySem.F.slot_list_count PySem.F.type_list_count ?_; (case N => k_asm); (case m => k_mem)))))) <;> k_steps))
      ·exfalso
       rename (_ != _) = true => e9
       simp at e9
      refine Hold.mk ?_
      have hm2 : (Txt.mul (Txt.item (rHosts ns 6) (jn : Int)) 2).length = 2 := by rw [item_hosts hj6]; exact hml
      have hm3 : (Txt.mul (Txt.mul (Txt.item (rHosts ns 6) (jn : Int)) 2 ++ Str.ofString "...") (((rW ns jn).count (lc (rH ns jn)) : Nat) : Int)).length ≤ 90 := by rw [item_hosts hj6]; exact mul_len hHL hct
      rename News _ _ _ _ => N7
      refine count_list_strs (isl_of n2 (N7 (q2, listOf (List.toArray us2) n2) (by k_mem)).1) c3 ?_
      rw [count_dds (c := lc (rH ns jn)) (by rw [item_hosts hj6]; exact mul2 hHL)]
      (rename_i zz0 zz1 zz2 zz3 zz4 zz5 zz6 zz7 zz8 zz9; revert zz0 zz1 zz6 zz7 hm2 hm3; revert zz2 zz3 zz4 zz5 zz8 zz9; fail "CLi"; rename_i zz2 zz3 zz4 zz5 zz8 zz9 zz0 zz1 zz6 zz7 hm2 hm3; fail "CLm")
      (k_steps; repeat' (((with_reducible refine Au.mk 2 ?_); ((k_here; (with_reducible show wpAny _ _ (binaryOp Operator.Mult (Value.str (HAppend.hAppend (Txt.mul _ _) _) _) (Value.int _ _)) _ _ _); refine Hold.un ?_))) <;> k_steps))
      refine Hold.mk ?_
      refine SB.mul (mulOk_of 16 1048576 (by rw [Str.length_append, hm2, dots_len3]; decide) (by (first | exact lin [_] [] [(1,.v 0,.n 18)] (7,.c (.v 0),.c (.n 1048576)) [1,1] [] rfl hct | omega)) (by (first | exact lin [_] [] [(1,.n 1,.v 0)] (7,.g (.n 9223372036854775808),.c (.v 0)) [1,1] [] rfl hd1 | omega)) (by decide) (by decide)) ?_
      intro t12 k12
      (revert t12 k12; fail "CLi"; rename_i t12 k12; fail "CLm")
      (k_steps; repeat' (((with_reducible refine Au.mk 1 ?_); ((k_here; refine KOpn.add (by ((try simp only [PySem.Str.length_append]); (try kopn_lits); (try simp only [li_0_B3]); (first | exact lin [_] [] [(1,.v 0,.n 90)] (1,.a (.n 3) (.v 0),.n 16777216) [1,1] [] rfl hm3 | omega))) ?_; intro t'z kz hlenz))) <;> k_steps))
      refine Hold.mk ?_
      rw [item_hosts hj6]
      k_dflt (refine' em_any w _ _ _ _ _ true true (List.replicate ((rW ns jn).count (lc (rH ns jn))) (lc (rH ns jn))) (rW ns k) (letter_text hHL _ hd1) hXc hne0 (by rw [ne_eq, List.replicate_eq_nil_iff]; (first | exact lin [_] [] [(1,.n 1,.v 0)] (5,.v 0,.n 0) [1,1] [] rfl hd1 | omega)) (no46rep hHL) (Nat.le_trans (dots3 (mul_len hHL hct)) (by decide)) (by (first | exact lin [_] [] [(1,.v 0,.n 100)] (1,.v 0,.n 1000) [1,1] [] rfl hXl | omega)) (by rw [List.length_replicate]; (first | exact lin [_] [] [(1,.v 0,.n 18)] (1,.v 0,.n 1000) [1,1] [] rfl hct | omega)) _ _ _ _ _ _ _ _ _ _ _ _ _ _ _ _ _ _ _ _ ?B ?F ?X ?N ?T ?ck ?dd ?uu ?_; (case B => k_asm); (case F => k_asm); (case X => k_asm); (case N => k_asm); (case T => k_asm); (case ck => first | exact rfl | assumption); (case dd => ktr_room); (case uu => ktr_units))
      intro r9 news9 h9 tk9 F9 N9 e9
      obtain ⟨e9, e8⟩ := e9
      rw [match_letter hj6 hk6] at e9
      (have e9 := e9.symm; subst e9)
      (have e8 := e8.symm; subst e8)
      (revert hlenz F9 e9 N9 e8; revert t'z kz h9 tk9; fail "CLi"; rename_i t'z kz h9 tk9 hlenz F9 e9 N9 e8; fail "CLm")
      k_steps
      ·exfalso
       rename (_ != _) = true => e9
       simp at e9
      exact InvEndG.intro (by k_asm) (by k_asm) ⟨hmem, rfl, rfl, rfl, rfl, rfl⟩ hoff (fun p hp => .tail _ (.tail _ (.tail _ (.tail _ (List.mem_append_left own hp))))) (fun p hp => .tail _ (.tail _ (.tail _ (.tail _ (List.mem_append_right (_ :: _ :: _ :: _ :: news) hp)))))
 case done =>
  clear F9 N9 hr9
  intro m₁ oO oK h tk F1 N1
  (rename_i zz0 zz1 zz2 zz3 zz4 zz5; revert zz5 F1 N1; revert zz0 zz1 zz2 zz3 zz4 m₁ oO oK h tk; fail "CLi"; rename_i zz0 zz1 zz2 zz3 zz4 m₁ oO oK h tk zz5 F1 N1; fail "CLm")
  k_steps
  rename Fr _ _ _ _ => F8
  rename News _ _ _ _ => N8
  exact hret _ _ _ _ F8 N8 rfl
end Mine
end
end
section
open PySem PySem.W PySem.Spec PySem.Calls PyProof.Rows
namespace Mine
theorem enter_callC {M : Model} {A : Around} {s : Shared} {f : Value} {pos : List Value} {c : ClaimW} {cl : PySem.Str → Option Addr} {mean : ExcName → Option Value} {args : List WData} {s₁ : Shared}
  (h : codeC M A (.call f ⟨pos, []⟩) (GoodWG c cl mean args s₁) s) : wpC M A (PySem.call f pos) (fun v s' => GoodWG c cl mean args s₁ (.ok (.ret v)) s') (fun e s' => GoodWG c cl mean args s₁ (.error e) s') s :=
 wpC_call (codeC_mono h fun res s' g => by rcases g.1 with ⟨v, _, _, rfl, _⟩ | ⟨e, _, _, rfl, _⟩ <;> exact g)
theorem call_fullC {prog : Program} {w : World} {A : Around} {R : Result → Shared → Prop} {s : Shared} {name : PySem.Str} {params : Arguments} {body : List Stmt} {scope : Scope}
  {dV kV pm cd doc : Value} {a : Addr} {o : Obj} {args : Args} {binds : List (PySem.Str × Value)}
  (hroom : A.depth < recursionLimit) (ho : s.heap.get? a = some o) (hdata : o.data = .func { docDef name params body scope pm cd doc with defaults := dV, kwdefaults := kV }) (hlim : s.heap.NoLimit) (hcd : s.heap.CodeRec cd name)
  (hbind : BindsTo s { docDef name params body scope pm cd doc with defaults := dV, kwdefaults := kV } args binds)
  (hloc : ∀ x ∈ binds, scope.names.lookup x.1 = some .local)
  (h : ∀ h₁, Fr s.heap s.heap.objs.size h₁ (fun x => binds.reverse.lookup x) →
   wpC (model prog w) (A.deeper (envOf name scope s.heap.objs.size a cd)) (execs body (envOf name scope s.heap.objs.size a cd))
    (fun f s' => R (.ok (.ret (match f with | .ret v => v | _ => .none))) s')
    (fun e s' => wpAny (model prog w) (A.deeper (envOf name scope s.heap.objs.size a cd)) (leaving (envOf name scope s.heap.objs.size a cd) e)
     (fun _ s'' => R (.error e) s'') (fun e' s'' => R (.error e') s'') s')
    { s with heap := h₁, toks := s.toks + binds.length })
  (hco : scope.isCoroutine = false := by rfl) (hgen : scope.isGenerator = false := by rfl) (hk : scope.kind = .function := by rfl)
  (hcell : ∀ x ∈ scope.names, x.2 ≠ .cell := by decide) :
  codeC (model prog w) A (.call (.ref a) args) R s :=
 codeC_call_def hroom ho hdata hlim hcd rfl hbind hcell hloc (fun h₁ hns hkeep => h h₁ ⟨hns, hkeep, Nat.le_refl _⟩) hco hgen hk
end Mine
end
section
open PySem PySem.W PySem.Spec PySem.Calls PyProof.Rows
namespace Mine
section
variable {prog : Program} {w : World} {A : Around} {E : Value → Shared → Prop} {s : Shared} {h₀ : Heap} {L : Addr} {m : PySem.Str → Option Value} {env : Env}
noncomputable def SrcS (prog : Program) (w : World) (A : Around) (h₀ : Heap) (L : Addr) (m : PySem.Str → Option Value) (env : Env) (elt : PySem.Expr) (x : PySem.Str) (scope : Scope) (cl : List (PySem.Str × Addr)) (Q : Value → Shared → Prop) (xv : Value) (s₁ : Shared) : Prop :=
 ∃ (xs : PySem.Str) (tx : Tok) (news : List (Addr × Obj)), xv = .str xs tx ∧ xs.cps.all (· < 128) = true ∧ A.handled = none ∧ Fr h₀ L s₁.heap m ∧ News h₀ L s₁.heap news ∧ xs.cps.size ≤ sizeLine ∧
  ∀ g : Heap, LCg.CompRest prog w A h₀ L m env elt x scope cl { s₁ with heap := g } (fun _ => True) (fun i v => i < xs.cps.size ∧ SignAt xs i v) (LCg.FinE h₀ L m { s₁ with heap := g } Q) xs.cps.size 0 [] news
theorem str_walks {I : Addr} (hh : A.handled = none) (xs : PySem.Str) (tx : Tok) : Walks prog w A I [I] [I] xs.cps.size (fun i v => i < xs.cps.size ∧ SignAt xs i v) (fun i h => h.IsStrIter I "str_ascii_iterator" xs tx i) :=
 (Walks.strAscii hh I xs tx).bound
theorem ListComp_S {elt iter : PySem.Expr} {x : PySem.Str} {px : PySem.Pos} {scope : Scope} {cl : List (PySem.Str × Addr)} {pos : PySem.Pos} {Q : Value → Shared → Prop} (_F₀ : Fr h₀ L s.heap m)
  (hclos : closureFor scope env = pure cl) (hcell : ∀ y ∈ scope.names, y.2 ≠ .cell) (hkind : scope.kind = .function)
  (hnames : ∀ y ∈ scope.names, y.2 = .local → scope.names.lookup y.1 = some .local) (hx : scope.names.lookup x = some .local)
  (h : wpAny (model prog w) A (eval iter env) (SrcS prog w A h₀ L m env elt x scope cl Q) E s)
  (hs : ∀ x, foldedSetIterable iter env x = pure x := by intro _; rfl) :
  wpAny (model prog w) A (eval (.ListComp elt [⟨.Name x px, iter, [], 0⟩] scope pos) env) Q E s := by
 rw [eval_ListComp]
 refine wpAny_comprehension_free (use := none) rfl hs hclos hkind hnames (wpAny_mono h (fun xv s₁ h₁ => ?_) fun _ _ e => e)
 refine ex3 h₁ fun xs tx news h9_290 => an7 h9_290 fun eq9_289 hasc hh F N hsz R => ?_
 clear h9_290
 try clear h₁
 subst eq9_289
 refine wpAny_pyIter_ascii hasc ?_
 have up : ∀ b o, s₁.heap.get? b = some o → (s₁.heap.push { cls := .type "str_ascii_iterator", data := .fields #[.str xs tx, .int 0 0] }).get? b = some o := fun b o e => Heap.get?_push_of_some _ e
 refine LCg.block_U (str_walks hh xs tx) hsz (fun i h st => by obtain ⟨o, e, _⟩ := st; exact ⟨o, e⟩) (fun i h h' o nw st e e' _ _ _ => by
   refine ex1 st fun o' h9_291 => an2 h9_291 fun e1 e2 => ?_
   clear h9_291
   try clear st
   rw [e] at e1
   cases e1
   exact ⟨_, e', e2⟩) hcell hkind hx ⟨_, Heap.get?_push_size _ rfl, rfl, rfl⟩ (fun b hb => ?_)
  (F.keeps up) (N.grown up) (Nat.ne_of_lt F.ns.lt) (next_is_new F) (fun p hp => Nat.ne_of_lt (Heap.lt_size (N p hp).1)) trivial (R _) ?_
 ·rw [List.mem_singleton.mp hb]
  show s₁.heap.objs.size < (s₁.heap.push _).objs.size
  rw [Heap.size_push]; exact Nat.lt_succ_self _
 ·intro D C h tk m' ys news' F' N' o1 hn hC₀ hD₀ hCL hDL hCD offC fin
  refine ⟨m', hn, fun h'' hs'' => fin D h'' tk (F'.change hs'' hCL hC₀) (fun p hp => ?_) o1⟩
  refine ⟨hs''.extBut _ _ ?_ (N' p hp).1, (N' p hp).2⟩
  rcases List.mem_cons.mp hp with rfl | hp
  ·exact Ne.symm hCD
  ·exact offC p hp
end
end Mine
end
section
open PySem PySem.W PySem.Spec PySem.Calls PyProof.Rows
namespace Mine
theorem strs_carried {vs : List Value} {xs : List PySem.Str} (h : StrsAre vs xs) : CarriedAll vs (xs.map PyData.str) := by
 induction h with
 | nil => exact .nil
 | cons x t _ ih => exact .cons (.str x t) ih
theorem strs_shaped {xs : List PySem.Str} (h : xs.all PyData.strOk = true) : SeqAt.shaped (.list (xs.map PyData.str)) = true := by
 simp [SeqAt.shaped, PyData.canLay0, PyData.depth, canLayAll_strs', depthAll_strs', h]
section
variable {prog : Program} {w : World} {A : Around} {E : Value → Shared → Prop} {s : Shared}
theorem ne_strs_nil {a b : Addr} {vs : List Value} {xs : List PySem.Str} {Q : Value → Shared → Prop} (hl : s.heap.IsList a vs.toArray) (hi : StrsAre vs xs) (hl' : s.heap.IsList b ([] : List Value).toArray) (hx : xs.all PyData.strOk = true) (hn : xs ≠ []) (hu : A.units + 64 < cLine)
  (h : Q (.bool true) s) : wpAny (model prog w) A (compareOp .NotEq (.ref a) (.ref b)) Q E s :=
 ne_dataH (reads_newData hl (strs_carried hi)) (reads_newData hl' (ds := []) .nil) (strs_shaped hx) rfl hu (by
  cases xs with
  | nil => exact absurd rfl hn
  | cons x r => simpa [PyData.eqv, PyData.eqvAll] using h)
end
section
variable {ns : List Int}
theorem words_ok : (wTexts ns 6).all PyData.strOk = true := by
 rw [List.all_eq_true]
 intro x hx
 refine ex1 (List.mem_map.mp hx) fun i h9_293 => an2 h9_293 fun _ eq9_292 => ?_
 clear h9_293
 subst eq9_292
 unfold PyData.strOk
 rw [Array.all_eq_true_iff_forall_mem]
 intro c hc
 have : c ∈ rW ns i := by
  have : c ∈ cs (wordT (rT ns i)) := Array.mem_toList_iff.mpr hc
  exact this
 have := rW_mem this
 simp only [decide_eq_true_eq]
 exact this.elim (fun q0 => lin [_] [] [(2,.v 0,.n 97)] (0,.v 0,.n 1114112) [1,1] [] rfl q0) fun q0 => q0.elim (fun q1 => lin [_] [] [(2,.v 0,.n 98)] (0,.v 0,.n 1114112) [1,1] [] rfl q1) fun q1 => lin [_] [] [(2,.v 0,.n 99)] (0,.v 0,.n 1114112) [1,1] [] rfl q1
theorem words_ne : wTexts ns 6 ≠ [] := fun e => by
 have := congrArg List.length e
 unfold wTexts at this
 simp at this
theorem word_ascii (i : Nat) : (wordT (rT ns i)).cps.all (· < 128) = true := by
 rw [Array.all_eq_true_iff_forall_mem]
 intro c hc
 have : c ∈ rW ns i := by
  have : c ∈ cs (wordT (rT ns i)) := Array.mem_toList_iff.mpr hc
  exact this
 have := rW_mem this
 simp only [decide_eq_true_eq]
 exact this.elim (fun q0 => lin [_] [] [(2,.v 0,.n 97)] (0,.v 0,.n 128) [1,1] [] rfl q0) fun q0 => q0.elim (fun q1 => lin [_] [] [(2,.v 0,.n 98)] (0,.v 0,.n 128) [1,1] [] rfl q1) fun q1 => lin [_] [] [(2,.v 0,.n 99)] (0,.v 0,.n 128) [1,1] [] rfl q1
theorem word_size (i : Nat) : (wordT (rT ns i)).cps.size = (rW ns i).length := by
 show (rW ns i).toArray.size = _
 simp
theorem sign_word {i k : Nat} {v : Value} (h : SignAt (wordT (rT ns k)) i v) : ∃ c u, (rW ns k)[i]? = some c ∧ v = .str ⟨#[c]⟩ u := by
 refine ex2 h fun c u h9_295 => an2 h9_295 fun h1 eq9_294 => ?_
 clear h9_295
 try clear h
 subst eq9_294
 refine ⟨c, u, ?_, rfl⟩
 have : (rW ns k).toArray[i]? = some c := h1
 simpa using this
theorem mul_one (c : Nat) : Txt.mul (⟨#[c]⟩ : PySem.Str) 2 = dd c := cs_inj (by rw [cs_mulG _ (by decide)]; rfl)
noncomputable def ddL (ns : List Int) (k i : Nat) : List PySem.Str := ((rW ns k).take i).map dd
theorem dd_snoc {k i c : Nat} {ys : List Value} {t : Tok} {x : PySem.Str} (hc : (rW ns k)[i]? = some c) (hx : x = dd c) (h : StrsAre ys (ddL ns k i)) : StrsAre (ys ++ [.str x t]) (ddL ns k (i + 1)) := by
 unfold ddL at h ⊢
 rw [List.take_add_one, hc, List.map_append, hx]
 exact StrsAre.app h (.cons _ _ .nil)
theorem ddL_all (k : Nat) : ddL ns k (wordT (rT ns k)).cps.size = (rW ns k).map dd := by
 unfold ddL
 rw [word_size, List.take_length]
theorem words_at {ws : List Value} (h : StrsAre ws (wTexts ns 6)) {i : Nat} {v : Value} (hv : ws[i]? = some v) : i < 6 ∧ ∃ t, v = .str (wordT (rT ns i)) t := by
 have hl := StrsAre.len h
 have h6 : (wTexts ns 6).length = 6 := by unfold wTexts; simp
 have hi : i < 6 := by
  refine ex1 (List.getElem?_eq_some_iff.mp hv) fun q _ => ?_
  exact lin [_,_,_] [] [(2,.v 0,.v 1),(2,.v 1,.n 6),(0,.v 2,.v 0)] (0,.v 2,.n 6) [1,1,1,1] [] rfl hl h6 q
 obtain ⟨t, ht⟩ := strs_get h (i := i) (x := wordT (rT ns i)) (by unfold wTexts; simp [hi])
 rw [hv] at ht
 cases ht
 exact ⟨hi, t, rfl⟩
noncomputable def DJ (ns : List Int) (N0 : List (Addr × Obj)) (i : Nat) (ys : List Value) (nw : List (Addr × Obj)) : Prop :=
 (∀ p ∈ N0, p ∈ nw) ∧ ys.length = i ∧ ∀ j, j < i → ∃ q us n, ys[j]? = some (Value.ref q) ∧ (q, listOf (List.toArray us) n) ∈ nw ∧ StrsAre us ((rW ns j).map dd)
theorem DJ.nil (N0 : List (Addr × Obj)) : DJ ns N0 0 [] N0 := ⟨fun _ h => h, rfl, fun _ h => absurd h (Nat.not_lt_zero _)⟩
theorem DJ.snoc {N0 nw : List (Addr × Obj)} {i : Nat} {ys us : List Value} {D : Addr} {n : Nat} (h : DJ ns N0 i ys nw) (hu : StrsAre us ((rW ns i).map dd)) : DJ ns N0 (i + 1) (ys ++ [.ref D]) ((D, listOf (List.toArray us) n) :: nw) := by
 refine an3 h fun h1 h2 h3 => ?_
 try clear h
 refine ⟨fun p hp => .tail _ (h1 p hp), by rw [List.length_append, h2]; rfl, fun j hj => ?_⟩
 by_cases e : j = i
 ·subst e
  refine ⟨D, us, n, ?_, .head _, hu⟩
  rw [List.getElem?_append_right (by exact lin [_,_] [] [(2,.v 0,.v 1)] (1,.v 0,.v 1) [1,1] [] rfl h2), h2, Nat.sub_self]
  rfl
 ·refine ex3 (h3 j (by exact (Nat.lt_or_gt_of_ne e).elim (fun q0 => lin [_,_] [] [(0,.v 0,.v 1)] (0,.v 0,.v 1) [1,1] [] rfl q0) fun q0 => lin [_,_] [] [(0,.v 0,.a (.v 1) (.n 1)),(0,.v 1,.v 0)] (0,.v 0,.v 1) [0,1,1] [] rfl hj q0)) fun q us' n' h9_296 => an3 h9_296 fun a b c => ?_
  clear h9_296
  exact ⟨q, us', n', by rw [List.getElem?_append_left (by exact (Nat.lt_or_gt_of_ne e).elim (fun q0 => lin [_,_,_] [] [(2,.v 0,.v 1),(0,.v 2,.v 1)] (0,.v 2,.v 0) [1,-1,1] [] rfl h2 q0) fun q0 => lin [_,_,_] [] [(0,.v 0,.a (.v 1) (.n 1)),(0,.v 1,.v 0)] (0,.v 0,.v 2) [0,1,1] [] rfl hj q0)]; exact a, .tail _ b, c⟩
theorem off3_snoc {I C D D' : Addr} {oI oC oD o : Obj} {nw : List (Addr × Obj)} (h : LCg.Off3 I C D nw) (o1 : LCg.Off1 D' ((I, oI) :: (C, oC) :: (D, oD) :: nw)) : LCg.Off3 I C D ((D', o) :: nw) := by
 refine an4 o1 fun a b c _ => ?_
 try clear o1
 exact ⟨⟨Ne.symm a, Ne.symm b, Ne.symm c⟩, h⟩
end
end Mine
end
section
theorem Mine.clean_B4 : Mine.CleanT := by
 intro M A Q E s h
 w_top off
 first
  | (walk1; fail_if_success skip)
  | exact h
open PySem PySem.W PyProof.Rows
namespace Mine
theorem hdD {d : DefRec} {kwd : List (PySem.Str × PySem.Expr)} (h : defOf hd.view_39 PySem.Challenge.rw_ux0030_01.row.toRowW.name = some (d, kwd)) (walk : WalkCC hd.view_39 LOS (XL hd.view_39 []) (Hook.says HK) PySem.Challenge.rw_ux0030_01.row.toRowW d kwd) : PySem.Challenge.rw_ux0030_01.Holds :=
 hdC fun d' kwd' e => by
  cases Option.some.inj (e.symm.trans h)
  exact walk
local macro_rules | `(tactic| k_all) => `(tactic| exact offLt (by assumption) (by omega))
local macro_rules | `(tactic| k_all) => `(tactic| assumption)
local macro_rules | `(tactic| k_mem) => `(tactic| assumption)
local macro_rules | `(tactic| walk_at "call ref") => `(tactic| (refine Hold.un ?_))
local macro_rules | `(tactic| walk_at "compareOp Eq ref ref") => `(tactic| (refine Hold.un ?_))
local macro_rules | `(tactic| walk_at "compareOp NotEq ref ref") => `(tactic| (refine Hold.un ?_))
local macro_rules | `(tactic| walk_at "subscriptTail") => `(tactic| (k_here; (with_reducible show wpAny _ _ (subscriptTail _ _ (Value.ref _) (Value.int _ _)) _ _ _); refine Hold.un ?_))
local macro_rules | `(tactic| walk_at "CompSrc") => `(tactic| (refine Hold.un ?_))
local macro_rules | `(tactic| walk_at "SrcS") => `(tactic| (refine Hold.un ?_))
local macro_rules | `(tactic| walk_at "eval ListComp") => `(tactic| (refine Hold.un ?_))
local macro_rules | `(tactic| walk_at "binaryOp Mult str int") => `(tactic| (refine Hold.un ?_))
noncomputable def B4c1_S := (by
 refine' ⟨_, ?f⟩
 case f =>
  intro hPB4c1 
  refine' hdD (d := ?d) (kwd := ?k) ?h1 ?walk
  case h1 => with_unfolding_all rfl
  case walk =>
   intro w s₀ s₁ mg mb G Y fa o pm cd doc dV kV ho hd hcd hD hmg hg args vals as hpre hlay hrd hwl hlo
   have KX := kIn_of Y
   have X := (Ground.X G).1
   have V := (Ground.X G).2
   refine Ground.open G ?_
   intro T B D TE TW
   refine ex2 (bmod_of_top T) fun _ _ M => ?_
   wrow_args hpre hlay hrd hwl hlo
   refine enter_callC ?_
   w_top on
   refine codeC_mono ?_ (fun _ _ g => GoodW.toG g)
   have K0 := below_caller (Top.heap T)
   have he := Dflts.none hD rfl
   subst he
   refine call_fullC (by decide) ho hd (Top.nolimit T) hcd (BindsTo.of_eq rfl) (locs rfl) fun h₁ F => ?_
   w_binds F
   have N0 := (News.nil : News _ _ _ []).at F
   clear hd hD hmg hcd ho
   k_drop
   rename_i xq0B4c1 xq1B4c1 xq2B4c1 xq3B4c1 xq4B4c1 xq5B4c1 xq6B4c1 xq7B4c1 xq8B4c1 xq9B4c1 xq10B4c1 xq11B4c1 xq12B4c1 xq13B4c1 xq14B4c1 xq15B4c1 xq16B4c1 xq17B4c1 xq18B4c1 xq19B4c1 xq20B4c1
   revert G Y hg KX X V T B D TE TW M xq3B4c1 xq4B4c1 xq5B4c1 xq6B4c1 xq7B4c1 xq13B4c1 xq14B4c1 xq15B4c1 xq16B4c1 xq17B4c1 xq18B4c1 xq19B4c1 xq20B4c1 K0 F N0
   exact hPB4c1 w s₀ s₁ mg mb fa o pm cd doc kV xq0B4c1 xq1B4c1 xq2B4c1 xq8B4c1 xq9B4c1 xq10B4c1 xq11B4c1 xq12B4c1 h₁
 : Σ' (PB4c1 : _ → _ → _ → _ → _ → _ → _ → _ → _ → _ → _ → _ → _ → _ → _ → _ → _ → _ → _ → _ → Prop), (∀ y0 y1 y2 y3 y4 y5 y6 y7 y8 y9 y10 y11 y12 y13 y14 y15 y16 y17 y18 y19, PB4c1 y0 y1 y2 y3 y4 y5 y6 y7 y8 y9 y10 y11 y12 y13 y14 y15 y16 y17 y18 y19) → PySem.Challenge.rw_ux0030_01.Holds)
noncomputable def B4c1_P := fun (y : (_ × _ × _ × _ × _ × _ × _ × _ × _ × _ × _ × _) × (_ × _ × _ × _ × _ × _ × _ × _)) => B4c1_S.1 y.1.1 y.1.2.1 y.1.2.2.1 y.1.2.2.2.1 y.1.2.2.2.2.1 y.1.2.2.2.2.2.1 y.1.2.2.2.2.2.2.1 y.1.2.2.2.2.2.2.2.1 y.1.2.2.2.2.2.2.2.2.1 y.1.2.2.2.2.2.2.2.2.2.1 y.1.2.2.2.2.2.2.2.2.2.2.1 y.1.2.2.2.2.2.2.2.2.2.2.2 y.2.1 y.2.2.1 y.2.2.2.1 y.2.2.2.2.1 y.2.2.2.2.2.1 y.2.2.2.2.2.2.1 y.2.2.2.2.2.2.2.1 y.2.2.2.2.2.2.2.2
noncomputable def B4c1_c := pick (by fail "d") B4c1_P
namespace B4c1
noncomputable def w := B4c1_c.1.1
noncomputable def B4c2_S := (by
 refine' ⟨_, ?f⟩
 case f =>
  intro hPB4c2 
  intro G Y hg KX X V T B D TE TW M xq3B4c1 xq4B4c1 xq5B4c1 xq6B4c1 xq7B4c1 xq13B4c1 xq14B4c1 xq15B4c1 xq16B4c1 xq17B4c1 xq18B4c1 xq19B4c1 xq20B4c1 K0 F N0
  (try k_fold)
  refine wpC_execs_cons (wpC_Assign_Name (evalC_Call_Name ?_))
  k_steps
  refine' callWithC_K ?X ?ho ?_
  case X => assumption
  case ho => k_is
  k_steps
  refine Hold.mk ?_
  rename IntsAre _ _ => hi9
  rename Heap.IsList _ _ _ => hl9
  k_dflt (refine' numbers_spc w _ _ _ hi9 (by exact lin [_] [] [(9,.c (.n 63),.c (.v 0))] (1,.v 0,.n 63) [1,1] [] rfl xq19B4c1) [] _ _ _ _ _ _ _ _ _ _ _ _ _ _ _ _ _ _ _ _ ?B ?F ?X ?N ?T ?ck ?dd ?uu hl9 ?_; (case B => k_asm); (case F => k_asm); (case X => k_asm); (case N => k_asm); (case T => k_asm); (case ck => first | exact rfl | assumption); (case dd => ktr_room); (case uu => ktr_units))
  intro r9 news9 h9 tk9 F9 N9 e9
  obtain ⟨D9, us9, ks9, rfl, rfl, hi9, hl9, hb9, hlt9⟩ := e9
  rename_i xq0B4c2 xq1B4c2
  revert G Y hg KX X V T B D TE TW M xq3B4c1 xq4B4c1 xq5B4c1 xq6B4c1 xq7B4c1 xq0B4c2 xq14B4c1 xq15B4c1 xq16B4c1 xq1B4c2 xq18B4c1 xq19B4c1 xq20B4c1 K0 F N0 F9 N9 hi9 hl9 hb9 hlt9
  exact hPB4c2 h9 tk9 D9 us9 ks9
 : Σ' (PB4c2 : _ → _ → _ → _ → _ → Prop), (∀ y0 y1 y2 y3 y4, PB4c2 y0 y1 y2 y3 y4) → B4c1_S.1 w B4c1_c.1.2.1 B4c1_c.1.2.2.1 B4c1_c.1.2.2.2.1 B4c1_c.1.2.2.2.2.1 B4c1_c.1.2.2.2.2.2.1 B4c1_c.1.2.2.2.2.2.2.1 B4c1_c.1.2.2.2.2.2.2.2.1 B4c1_c.1.2.2.2.2.2.2.2.2.1 B4c1_c.1.2.2.2.2.2.2.2.2.2.1 B4c1_c.1.2.2.2.2.2.2.2.2.2.2.1 B4c1_c.1.2.2.2.2.2.2.2.2.2.2.2 B4c1_c.2.1 B4c1_c.2.2.1 B4c1_c.2.2.2.1 B4c1_c.2.2.2.2.1 B4c1_c.2.2.2.2.2.1 B4c1_c.2.2.2.2.2.2.1 B4c1_c.2.2.2.2.2.2.2.1 B4c1_c.2.2.2.2.2.2.2.2)
noncomputable def B4c2_P := fun (y : (_ × _ × _ × _ × _)) => B4c2_S.1 y.1 y.2.1 y.2.2.1 y.2.2.2.1 y.2.2.2.2
noncomputable def B4c2_c := pick (by fail "d") B4c2_P
namespace B4c2
noncomputable def h9 := B4c2_c.1
noncomputable def tk9 := B4c2_c.2.1
noncomputable def D9 := B4c2_c.2.2.1
noncomputable def us9 := B4c2_c.2.2.2.1
noncomputable def ks9 := B4c2_c.2.2.2.2
noncomputable def B4c3_S := (by
 refine' ⟨_, ?f⟩
 case f =>
  intro hPB4c3 
  intro G Y hg KX X V T B D TE TW M xq3B4c1 xq4B4c1 xq5B4c1 xq6B4c1 xq7B4c1 xq0B4c2 xq14B4c1 xq15B4c1 xq16B4c1 xq1B4c2 xq18B4c1 xq19B4c1 xq20B4c1 K0 F N0 F9 N9 hi9 hl9 hb9 hlt9
  k_steps
  ·exact F9.keep
  k_dflt (refine' run_spc w D9 us9 _ ks9 _ (.head _) hi9 hl9 hb9 _ _ _ _ _ _ _ _ _ _ _ _ _ _ _ _ _ _ ?B ?F ?X ?N ?T ?ck ?dd ?uu ?XB ?TB ?_; (case B => k_asm); (case F => k_asm); (case X => k_asm); (case N => k_asm); (case T => k_asm); (case ck => first | exact rfl | assumption); (case dd => ktr_room); (case uu => ktr_units); (case XB => assumption); (case TB => assumption))
  intro r9 news9 h9 tk9 F9 N9 e9
  refine ex6 e9 fun Rl O P tH n1 nO h9_32 => ex3 h9_32 fun nP os9 ps9 h9_33 => an8 h9_33 fun eq9_31 m1 m2 m3 hol hpl hto hpa => ?_
  clear h9_33 h9_32
  try clear e9
  subst eq9_31
  rename_i xq0B4c3 xq1B4c3
  revert G Y hg KX X V T B D TE TW M xq3B4c1 xq4B4c1 xq5B4c1 xq6B4c1 xq7B4c1 xq0B4c2 xq14B4c1 xq15B4c1 xq16B4c1 xq1B4c2 xq18B4c1 xq19B4c1 xq20B4c1 K0 F N0 xq0B4c3 xq1B4c3 hi9 hl9 hb9 hlt9 F9 N9 m1 m2 m3 hol hpl hto hpa
  exact hPB4c3 news9 h9 tk9 Rl O P tH n1 nO nP os9 ps9
 : Σ' (PB4c3 : _ → _ → _ → _ → _ → _ → _ → _ → _ → _ → _ → _ → Prop), (∀ y0 y1 y2 y3 y4 y5 y6 y7 y8 y9 y10 y11, PB4c3 y0 y1 y2 y3 y4 y5 y6 y7 y8 y9 y10 y11) → B4c2_S.1 h9 tk9 D9 us9 ks9)
noncomputable def B4c3_P := fun (y : (_ × _ × _ × _ × _ × _ × _ × _ × _ × _ × _ × _)) => B4c3_S.1 y.1 y.2.1 y.2.2.1 y.2.2.2.1 y.2.2.2.2.1 y.2.2.2.2.2.1 y.2.2.2.2.2.2.1 y.2.2.2.2.2.2.2.1 y.2.2.2.2.2.2.2.2.1 y.2.2.2.2.2.2.2.2.2.1 y.2.2.2.2.2.2.2.2.2.2.1 y.2.2.2.2.2.2.2.2.2.2.2
noncomputable def B4c3_c := pick (by fail "d") B4c3_P
namespace B4c3
noncomputable def news9 := B4c3_c.1
noncomputable def h9 := B4c3_c.2.1
noncomputable def tk9 := B4c3_c.2.2.1
noncomputable def Rl := B4c3_c.2.2.2.1
noncomputable def O := B4c3_c.2.2.2.2.1
noncomputable def P := B4c3_c.2.2.2.2.2.1
noncomputable def tH := B4c3_c.2.2.2.2.2.2.1
noncomputable def n1 := B4c3_c.2.2.2.2.2.2.2.1
noncomputable def nO := B4c3_c.2.2.2.2.2.2.2.2.1
noncomputable def nP := B4c3_c.2.2.2.2.2.2.2.2.2.1
noncomputable def os9 := B4c3_c.2.2.2.2.2.2.2.2.2.2.1
noncomputable def ps9 := B4c3_c.2.2.2.2.2.2.2.2.2.2.2
noncomputable def B4c4_S := (by
 refine' ⟨_, ?f⟩
 case f =>
  intro hPB4c4 
  intro G Y hg KX X V T B D TE TW M xq3B4c1 xq4B4c1 xq5B4c1 xq6B4c1 xq7B4c1 xq0B4c2 xq14B4c1 xq15B4c1 xq16B4c1 xq1B4c2 xq18B4c1 xq19B4c1 xq20B4c1 K0 F N0 xq0B4c3 xq1B4c3 hi9 hl9 hb9 hlt9 F9 N9 m1 m2 m3 hol hpl hto hpa
  k_steps
  refine wpC.of ?_
  k_steps
  refine Hold.mk ?_
  rename News _ _ _ _ => N7
  refine SeqAt.eq_list_lengthsAt (isl_of n1 (N7 (Rl, listOf (List.toArray [Value.ref O, .str (rHosts ks9 6) tH, .ref P]) n1) (by k_mem)).1) (isl_of (vs := []) 0 (news_1of N7)) (by rfl) (by first | ktr_units | units_room | k_units) ?_
  k_steps
  refine Hold.mk ?_
  rename News _ _ _ _ => N7
  refine item_atM (k := 0) N7 (by k_mem) rfl rfl (by show 3 ≤ 10000; decide) ?_
  k_steps
  refine Hold.mk ?_
  rename News _ _ _ _ => N7
  refine item_atM (k := 1) N7 (by k_mem) rfl rfl (by show 3 ≤ 10000; decide) ?_
  k_steps
  refine Hold.mk ?_
  rename News _ _ _ _ => N7
  refine item_atM (k := 2) N7 (by k_mem) rfl rfl (by show 3 ≤ 10000; decide) ?_
  k_steps
  refine Hold.mk ?_
  rename News _ _ _ _ => N7
  have N8 := news_drop1 N7
  clear N7
  k_dflt (refine' words_spc w ks9 O P nO nP os9 ps9 tH news9 m2 m3 hol hpl hto hpa _ _ _ _ _ _ _ _ _ _ _ _ _ _ _ _ _ _ _ _ ?B ?F ?X ?N ?T ?ck ?dd ?uu ?_; (case B => k_asm); (case F => k_asm); (case X => k_asm); (case N => k_asm); (case T => k_asm); (case ck => first | exact rfl | assumption); (case dd => ktr_room); (case uu => ktr_units))
  intro r9 news8 h9 tk9 F9 N9 e9
  refine ex3 e9 fun Wd kW ws h9_35 => an4 h9_35 fun eq9_34 mW hws hsub => ?_
  clear h9_35
  try clear e9
  subst eq9_34
  have hws : StrsAre ws (wTexts ks9 6) := hws
  have hwl : ws.length = 6 := by rw [StrsAre.len hws]; unfold wTexts; simp
  have m1 := hsub _ m1
  have m3 := hsub _ m3
  rename_i xq0B4c4 xq1B4c4 xq2B4c4 xq3B4c4 xq4B4c4 xq5B4c4 xq6B4c4 xq7B4c4 xq8B4c4
  revert G Y hg KX X V T B D TE TW M xq3B4c1 xq4B4c1 xq5B4c1 xq6B4c1 xq7B4c1 xq0B4c2 xq14B4c1 xq15B4c1 xq16B4c1 xq1B4c2 xq18B4c1 xq19B4c1 xq20B4c1 K0 F N0 xq0B4c3 xq1B4c3 hi9 hl9 hb9 hlt9 xq0B4c4 m2 xq1B4c4 hol hpl hto hpa xq6B4c4 xq7B4c4 N8 F9 N9 mW xq8B4c4 hsub hws hwl m1 m3
  exact hPB4c4 xq2B4c4 xq3B4c4 xq4B4c4 xq5B4c4 tk news8 h9 tk9 Wd kW ws
 : Σ' (PB4c4 : _ → _ → _ → _ → _ → _ → _ → _ → _ → _ → _ → Prop), (∀ y0 y1 y2 y3 y4 y5 y6 y7 y8 y9 y10, PB4c4 y0 y1 y2 y3 y4 y5 y6 y7 y8 y9 y10) → B4c3_S.1 news9 h9 tk9 Rl O P tH n1 nO nP os9 ps9)
noncomputable def B4c4_P := fun (y : (_ × _ × _ × _ × _ × _ × _ × _ × _ × _ × _)) => B4c4_S.1 y.1 y.2.1 y.2.2.1 y.2.2.2.1 y.2.2.2.2.1 y.2.2.2.2.2.1 y.2.2.2.2.2.2.1 y.2.2.2.2.2.2.2.1 y.2.2.2.2.2.2.2.2.1 y.2.2.2.2.2.2.2.2.2.1 y.2.2.2.2.2.2.2.2.2.2
noncomputable def B4c4_c := pick (by fail "d") B4c4_P
namespace B4c4
noncomputable def news8 := B4c4_c.2.2.2.2.2.1
noncomputable def h9 := B4c4_c.2.2.2.2.2.2.1
noncomputable def tk9 := B4c4_c.2.2.2.2.2.2.2.1
noncomputable def Wd := B4c4_c.2.2.2.2.2.2.2.2.1
noncomputable def kW := B4c4_c.2.2.2.2.2.2.2.2.2.1
noncomputable def ws := B4c4_c.2.2.2.2.2.2.2.2.2.2
noncomputable def B4c5_S := (by
 refine' ⟨_, _, ?f⟩
 case f =>
  intro hPB4c5 hPB4c7 
  intro G Y hg KX X V T B D TE TW M xq3B4c1 xq4B4c1 xq5B4c1 xq6B4c1 xq7B4c1 xq0B4c2 xq14B4c1 xq15B4c1 xq16B4c1 xq1B4c2 xq18B4c1 xq19B4c1 xq20B4c1 K0 F N0 xq0B4c3 xq1B4c3 hi9 hl9 hb9 hlt9 xq0B4c4 m2 xq1B4c4 hol hpl hto hpa xq6B4c4 xq7B4c4 N8 F9 N9 mW xq8B4c4 hsub hws hwl m1 m3
  k_steps
  refine Hold.mk ?_
  rename News _ _ _ _ => N7
  refine ne_strs_nil (isl_of kW (N7 (Wd, listOf (List.toArray ws) kW) (by k_mem)).1) hws (isl_of (vs := []) 0 (news_1of N7)) words_ok words_ne (by first | ktr_units | units_room | k_units) ?_
  k_steps
  refine Hold.mk ?_
  rename News _ _ _ _ => N7
  have N8 := news_drop1 N7
  clear N7
  k_dflt (refine LCg.ListComp_U (F₀ := by k_asm) (by with_unfolding_all rfl) (by decide) (by rfl) (by decide) (by rfl) ?_)
  k_steps
  refine Hold.mk ?_
  k_dflt (refine LCg.CompSrc.ledger (its := List.toArray ws) (k := kW) (by rfl) (by k_asm) (by k_asm) mW (by rw [sizeLine_eq, List.size_toArray]; exact lin [_] [] [(2,.v 0,.n 6)] (1,.v 0,.n 16777216) [1,1] [] rfl hwl) ?_)
  intro g7
  refine cr_U (fun i ys nw => DJ ks9 news8 i ys nw) ?tc (DJ.nil _) ?fc
  case tc =>
   intro i ys nw v I5 oI5 C5 oC5 D5 m5 h5 tk5 E5 hi5 hv5 hJ5 hC5 hx5 F5 N5 off5 ne5
   refine an2 (words_at hws (show ws[i]? = some v by simpa using hv5)) fun hi6 h9_37 => ex1 h9_37 fun t5 eq9_36 => ?_
   clear h9_37
   subst eq9_36
   have hwz := (rW_len (ns := ks9) hi6).2
   rename_i xq0B4c5 xq1B4c5 xq2B4c5 xq3B4c5 xq4B4c5
   revert G Y hg KX X V T B D TE TW M xq3B4c1 xq4B4c1 xq5B4c1 xq6B4c1 xq7B4c1 xq0B4c2 xq14B4c1 xq15B4c1 xq16B4c1 xq1B4c2 xq18B4c1 xq19B4c1 xq20B4c1 K0 F N0 xq0B4c3 xq1B4c3 hi9 hl9 hb9 hlt9 xq0B4c4 m2 xq1B4c4 hol hpl hto hpa xq7B4c4 mW xq8B4c4 hsub hws hwl m1 m3 xq3B4c5 xq4B4c5 N8 hi5 hJ5 hC5 F5 N5 off5 ne5 hi6 hv5 hx5 hwz
   exact hPB4c5 xq0B4c5 tk xq1B4c5 xq2B4c5 g7 i ys nw I5 oI5 C5 oC5 D5 m5 h5 tk5 E5 t5
  case fc =>
   intro ys nw hJ5
   rw [List.size_toArray, hwl] at hJ5
   refine an3 hJ5 fun j1 j2 j3 => ?_
   try clear hJ5
   have m1 := j1 _ m1
   have m3 := j1 _ m3
   k_steps
   refine Hold.mk ?_
   rename News _ _ _ _ => N7
   refine item_atM (k := 1) N7 (by k_mem) rfl rfl (by show 3 ≤ 10000; decide) ?_
   k_steps
   refine Hold.mk ?_
   rename News _ _ _ _ => N7
   refine item_atM (k := 2) N7 (by k_mem) rfl rfl (by show 3 ≤ 10000; decide) ?_
   k_steps
   refine Hold.mk ?_
   rename News _ _ _ _ => N7
   have N8 : News _ _ _ ((_, listOf (List.toArray ys) ys.length) :: nw) := N7
   clear N7
   k_dflt (refine' known_spc w ks9 _ P ys.length nP ys ps9 tH _ (.head _) (.tail _ m3) j2 hpl (fun i hi => ?a1) (fun i hi => ?a2) _ _ _ _ _ _ _ _ _ _ _ _ _ _ _ _ _ _ _ _ ?B ?F ?X ?N ?T ?ck ?dd ?uu ?_; (case B => k_asm); (case F => k_asm); (case X => k_asm); (case N => k_asm); (case T => k_asm); (case ck => first | exact rfl | assumption); (case dd => ktr_room); (case uu => ktr_units))
   case a1 =>
    refine ex3 (j3 i hi) fun q us n h9_38 => an3 h9_38 fun x1 x2 x3 => ?_
    clear h9_38
    exact ⟨q, us, n, x1, .tail _ x2, x3⟩
   case a2 =>
    refine ex3 (hpa i hi) fun q us n h9_39 => an3 h9_39 fun x1 x2 x3 => ?_
    clear h9_39
    exact ⟨q, us, n, x1, .tail _ (j1 _ (hsub _ x2)), x3⟩
   intro r9 news7 h9 tk9 F9 N9 e9
   subst e9
   rename_i xq0B4c7 xq1B4c7 xq2B4c7 xq3B4c7 xq4B4c7 xq5B4c7 xq6B4c7 xq7B4c7 xq8B4c7 xq9B4c7 xq10B4c7 xq11B4c7 xq12B4c7
   revert G Y hg KX X V T B D TE TW M xq3B4c1 xq4B4c1 xq5B4c1 xq6B4c1 xq7B4c1 xq0B4c2 xq14B4c1 xq15B4c1 xq16B4c1 xq1B4c2 xq18B4c1 xq19B4c1 xq20B4c1 K0 F N0 xq0B4c3 xq1B4c3 hi9 hl9 hb9 hlt9 xq0B4c4 m2 xq1B4c4 hol hpl hto hpa xq7B4c4 mW xq8B4c4 hsub hws hwl xq0B4c7 xq1B4c7 xq5B4c7 xq6B4c7 xq7B4c7 j1 j2 j3 m1 m3 xq11B4c7 xq12B4c7 N8 F9 N9
   exact hPB4c7 xq2B4c7 tk xq3B4c7 xq4B4c7 g7 ys nw xq8B4c7 xq9B4c7 xq10B4c7 news7 h9 tk9
 : Σ' (PB4c5 : _ → _ → _ → _ → _ → _ → _ → _ → _ → _ → _ → _ → _ → _ → _ → _ → _ → _ → Prop) (PB4c7 : _ → _ → _ → _ → _ → _ → _ → _ → _ → _ → _ → _ → _ → Prop), (∀ y0 y1 y2 y3 y4 y5 y6 y7 y8 y9 y10 y11 y12 y13 y14 y15 y16 y17, PB4c5 y0 y1 y2 y3 y4 y5 y6 y7 y8 y9 y10 y11 y12 y13 y14 y15 y16 y17) → (∀ y0 y1 y2 y3 y4 y5 y6 y7 y8 y9 y10 y11 y12, PB4c7 y0 y1 y2 y3 y4 y5 y6 y7 y8 y9 y10 y11 y12) → B4c4_S.1 B4c4_c.1 B4c4_c.2.1 B4c4_c.2.2.1 B4c4_c.2.2.2.1 B4c4_c.2.2.2.2.1 news8 h9 tk9 Wd kW ws)
noncomputable def B4c5_P := fun (y : (_ × _ × _ × _ × _ × _ × _ × _ × _ × _ × _ × _) × (_ × _ × _ × _ × _ × _)) => B4c5_S.1 y.1.1 y.1.2.1 y.1.2.2.1 y.1.2.2.2.1 y.1.2.2.2.2.1 y.1.2.2.2.2.2.1 y.1.2.2.2.2.2.2.1 y.1.2.2.2.2.2.2.2.1 y.1.2.2.2.2.2.2.2.2.1 y.1.2.2.2.2.2.2.2.2.2.1 y.1.2.2.2.2.2.2.2.2.2.2.1 y.1.2.2.2.2.2.2.2.2.2.2.2 y.2.1 y.2.2.1 y.2.2.2.1 y.2.2.2.2.1 y.2.2.2.2.2.1 y.2.2.2.2.2.2
noncomputable def B4c5_c := pick (by fail "d") B4c5_P
namespace B4c5
noncomputable def i := B4c5_c.1.2.2.2.2.2.1
noncomputable def nw := B4c5_c.1.2.2.2.2.2.2.2.1
noncomputable def B4c6_S := (by
 refine' ⟨_, ?f⟩
 case f =>
  intro hPB4c6 
  intro G Y hg KX X V T B D TE TW M xq3B4c1 xq4B4c1 xq5B4c1 xq6B4c1 xq7B4c1 xq0B4c2 xq14B4c1 xq15B4c1 xq16B4c1 xq1B4c2 xq18B4c1 xq19B4c1 xq20B4c1 K0 F N0 xq0B4c3 xq1B4c3 hi9 hl9 hb9 hlt9 xq0B4c4 m2 xq1B4c4 hol hpl hto hpa xq7B4c4 mW xq8B4c4 hsub hws hwl m1 m3 xq3B4c5 xq4B4c5 N8 hi5 hJ5 hC5 F5 N5 off5 ne5 hi6 hv5 hx5 hwz
  k_steps
  refine Hold.mk ?_
  k_dflt (refine ListComp_S (by k_asm) (by with_unfolding_all rfl) (by decide) (by rfl) (by decide) (by rfl) ?_)
  k_steps
  refine Hold.mk ?_
  refine ⟨_, _, _, rfl, word_ascii i, rfl, by k_asm, by k_asm, by rw [word_size, sizeLine_eq]; exact lin [_] [] [(1,.v 0,.n 18)] (1,.v 0,.n 16777216) [1,1] [] rfl hwz, fun g8 => crK_U (fun j zs => StrsAre zs (ddL ks9 i j)) ?ti .nil ?fi⟩
  case ti =>
   intro j zs v I6 oI6 C6 oC6 D6 m6 h6 tk6 E6 hj6 hv6 hJ6 hC6 hx6 F6 N6 off6 ne6
   refine ex2 (sign_word hv6.2) fun c u6 h9_41 => an2 h9_41 fun hc6 eq9_40 => ?_
   clear h9_41
   subst eq9_40
   revert G Y hg KX X V T B D TE TW M xq3B4c1 xq4B4c1 xq5B4c1 xq6B4c1 xq7B4c1 xq0B4c2 xq14B4c1 xq15B4c1 xq16B4c1 xq1B4c2 xq18B4c1 xq19B4c1 xq20B4c1 K0 F N0 xq0B4c3 xq1B4c3 hi9 hl9 hb9 hlt9 xq0B4c4 m2 xq1B4c4 hol hpl hto hpa xq7B4c4 mW xq8B4c4 hsub hws hwl m1 m3 xq3B4c5 xq4B4c5 N8 hi5 hJ5 hC5 F5 N5 off5 ne5 hi6 hv5 hx5 hwz hj6 hJ6 hC6 F6 N6 off6 ne6 hc6 hv6 hx6
   exact hPB4c6 g8 j zs I6 oI6 C6 oC6 D6 m6 h6 tk6 E6 c u6
  case fi =>
   intro zs hJ6
   rw [ddL_all] at hJ6
   intro D6 h6 tk6 F6 N6 o6
   exact LCg.CompEnd.intro F6 N6 ((D6, LCg.lst zs) :: nw) (fun p hp => by
    simp only [List.mem_cons] at hp ⊢
    rcases hp with h | h | h | h | h <;> simp [h]) (off3_snoc off5 o6) (.inr ⟨_, .tail _ (hJ5.1 _ mW), rfl, _, rfl⟩) (DJ.snoc (n := zs.length) hJ5 hJ6)
 : Σ' (PB4c6 : _ → _ → _ → _ → _ → _ → _ → _ → _ → _ → _ → _ → _ → _ → Prop), (∀ y0 y1 y2 y3 y4 y5 y6 y7 y8 y9 y10 y11 y12 y13, PB4c6 y0 y1 y2 y3 y4 y5 y6 y7 y8 y9 y10 y11 y12 y13) → B4c5_S.1 B4c5_c.1.1 B4c5_c.1.2.1 B4c5_c.1.2.2.1 B4c5_c.1.2.2.2.1 B4c5_c.1.2.2.2.2.1 i B4c5_c.1.2.2.2.2.2.2.1 nw B4c5_c.1.2.2.2.2.2.2.2.2.1 B4c5_c.1.2.2.2.2.2.2.2.2.2.1 B4c5_c.1.2.2.2.2.2.2.2.2.2.2.1 B4c5_c.1.2.2.2.2.2.2.2.2.2.2.2 B4c5_c.2.1 B4c5_c.2.2.1 B4c5_c.2.2.2.1 B4c5_c.2.2.2.2.1 B4c5_c.2.2.2.2.2.1 B4c5_c.2.2.2.2.2.2)
noncomputable def B4c6_P := fun (y : (_ × _ × _ × _ × _ × _ × _ × _ × _ × _ × _ × _) × (_ × _)) => B4c6_S.1 y.1.1 y.1.2.1 y.1.2.2.1 y.1.2.2.2.1 y.1.2.2.2.2.1 y.1.2.2.2.2.2.1 y.1.2.2.2.2.2.2.1 y.1.2.2.2.2.2.2.2.1 y.1.2.2.2.2.2.2.2.2.1 y.1.2.2.2.2.2.2.2.2.2.1 y.1.2.2.2.2.2.2.2.2.2.2.1 y.1.2.2.2.2.2.2.2.2.2.2.2 y.2.1 y.2.2
noncomputable def B4c6_c := pick (by fail "d") B4c6_P
namespace B4c6
noncomputable def c := B4c6_c.2.1
theorem body : B4c6_S.1 B4c6_c.1.1 B4c6_c.1.2.1 B4c6_c.1.2.2.1 B4c6_c.1.2.2.2.1 B4c6_c.1.2.2.2.2.1 B4c6_c.1.2.2.2.2.2.1 B4c6_c.1.2.2.2.2.2.2.1 B4c6_c.1.2.2.2.2.2.2.2.1 B4c6_c.1.2.2.2.2.2.2.2.2.1 B4c6_c.1.2.2.2.2.2.2.2.2.2.1 B4c6_c.1.2.2.2.2.2.2.2.2.2.2.1 B4c6_c.1.2.2.2.2.2.2.2.2.2.2.2 c B4c6_c.2.2 := by
 intro G Y hg KX X V T B D TE TW M xq3B4c1 xq4B4c1 xq5B4c1 xq6B4c1 xq7B4c1 xq0B4c2 xq14B4c1 xq15B4c1 xq16B4c1 xq1B4c2 xq18B4c1 xq19B4c1 xq20B4c1 K0 F N0 xq0B4c3 xq1B4c3 hi9 hl9 hb9 hlt9 xq0B4c4 m2 xq1B4c4 hol hpl hto hpa xq7B4c4 mW xq8B4c4 hsub hws hwl m1 m3 xq3B4c5 xq4B4c5 N8 hi5 hJ5 hC5 F5 N5 off5 ne5 hi6 hv5 hx5 hwz hj6 hJ6 hC6 F6 N6 off6 ne6 hc6 hv6 hx6
 k_steps
 refine Hold.mk ?_
 refine SB.mul (mulOk_of 16 1048576 (by show 1 ≤ 16; decide) (by decide) (by decide) (by decide) (by decide)) ?_
 intro t12 k12
 k_steps
 exact LCg.CompEnd.intro (by k_asm) (by k_asm) _ (fun p hp => hp) off6 trivial ⟨rfl, dd_snoc hc6 (mul_one c) hJ6⟩
end B4c6
theorem body : B4c5_S.1 B4c5_c.1.1 B4c5_c.1.2.1 B4c5_c.1.2.2.1 B4c5_c.1.2.2.2.1 B4c5_c.1.2.2.2.2.1 i B4c5_c.1.2.2.2.2.2.2.1 nw B4c5_c.1.2.2.2.2.2.2.2.2.1 B4c5_c.1.2.2.2.2.2.2.2.2.2.1 B4c5_c.1.2.2.2.2.2.2.2.2.2.2.1 B4c5_c.1.2.2.2.2.2.2.2.2.2.2.2 B4c5_c.2.1 B4c5_c.2.2.1 B4c5_c.2.2.2.1 B4c5_c.2.2.2.2.1 B4c5_c.2.2.2.2.2.1 B4c5_c.2.2.2.2.2.2 :=
 B4c6_S.2 (fun y0 y1 y2 y3 y4 y5 y6 y7 y8 y9 y10 y11 y12 y13 => pick_use (P := B4c6_P) (c := B4c6_c) rfl B4c6.body ((y0, y1, y2, y3, y4, y5, y6, y7, y8, y9, y10, y11), (y12, y13))) 
end B4c5
noncomputable def B4c7_P := fun (y : (_ × _ × _ × _ × _ × _ × _ × _ × _ × _ × _ × _) × (_)) => B4c5_S.2.1 y.1.1 y.1.2.1 y.1.2.2.1 y.1.2.2.2.1 y.1.2.2.2.2.1 y.1.2.2.2.2.2.1 y.1.2.2.2.2.2.2.1 y.1.2.2.2.2.2.2.2.1 y.1.2.2.2.2.2.2.2.2.1 y.1.2.2.2.2.2.2.2.2.2.1 y.1.2.2.2.2.2.2.2.2.2.2.1 y.1.2.2.2.2.2.2.2.2.2.2.2 y.2
noncomputable def B4c7_c := pick (by fail "d") B4c7_P
namespace B4c7
theorem body : B4c5_S.2.1 B4c7_c.1.1 B4c7_c.1.2.1 B4c7_c.1.2.2.1 B4c7_c.1.2.2.2.1 B4c7_c.1.2.2.2.2.1 B4c7_c.1.2.2.2.2.2.1 B4c7_c.1.2.2.2.2.2.2.1 B4c7_c.1.2.2.2.2.2.2.2.1 B4c7_c.1.2.2.2.2.2.2.2.2.1 B4c7_c.1.2.2.2.2.2.2.2.2.2.1 B4c7_c.1.2.2.2.2.2.2.2.2.2.2.1 B4c7_c.1.2.2.2.2.2.2.2.2.2.2.2 B4c7_c.2 := by
 intro G Y hg KX X V T B D TE TW M xq3B4c1 xq4B4c1 xq5B4c1 xq6B4c1 xq7B4c1 xq0B4c2 xq14B4c1 xq15B4c1 xq16B4c1 xq1B4c2 xq18B4c1 xq19B4c1 xq20B4c1 K0 F N0 xq0B4c3 xq1B4c3 hi9 hl9 hb9 hlt9 xq0B4c4 m2 xq1B4c4 hol hpl hto hpa xq7B4c4 mW xq8B4c4 hsub hws hwl xq0B4c7 xq1B4c7 xq5B4c7 xq6B4c7 xq7B4c7 j1 j2 j3 m1 m3 xq11B4c7 xq12B4c7 N8 F9 N9
 k_steps
end B4c7
theorem body : B4c4_S.1 B4c4_c.1 B4c4_c.2.1 B4c4_c.2.2.1 B4c4_c.2.2.2.1 B4c4_c.2.2.2.2.1 news8 h9 tk9 Wd kW ws :=
 B4c5_S.2.2 (fun y0 y1 y2 y3 y4 y5 y6 y7 y8 y9 y10 y11 y12 y13 y14 y15 y16 y17 => pick_use (P := B4c5_P) (c := B4c5_c) rfl B4c5.body ((y0, y1, y2, y3, y4, y5, y6, y7, y8, y9, y10, y11), (y12, y13, y14, y15, y16, y17))) (fun y0 y1 y2 y3 y4 y5 y6 y7 y8 y9 y10 y11 y12 => pick_use (P := B4c7_P) (c := B4c7_c) rfl B4c7.body ((y0, y1, y2, y3, y4, y5, y6, y7, y8, y9, y10, y11), (y12))) 
end B4c4
theorem body : B4c3_S.1 news9 h9 tk9 Rl O P tH n1 nO nP os9 ps9 :=
 B4c4_S.2 (fun y0 y1 y2 y3 y4 y5 y6 y7 y8 y9 y10 => pick_use (P := B4c4_P) (c := B4c4_c) rfl B4c4.body ((y0, y1, y2, y3, y4, y5, y6, y7, y8, y9, y10))) 
end B4c3
theorem body : B4c2_S.1 h9 tk9 D9 us9 ks9 :=
 B4c3_S.2 (fun y0 y1 y2 y3 y4 y5 y6 y7 y8 y9 y10 y11 => pick_use (P := B4c3_P) (c := B4c3_c) rfl B4c3.body ((y0, y1, y2, y3, y4, y5, y6, y7, y8, y9, y10, y11))) 
end B4c2
theorem body : B4c1_S.1 w B4c1_c.1.2.1 B4c1_c.1.2.2.1 B4c1_c.1.2.2.2.1 B4c1_c.1.2.2.2.2.1 B4c1_c.1.2.2.2.2.2.1 B4c1_c.1.2.2.2.2.2.2.1 B4c1_c.1.2.2.2.2.2.2.2.1 B4c1_c.1.2.2.2.2.2.2.2.2.1 B4c1_c.1.2.2.2.2.2.2.2.2.2.1 B4c1_c.1.2.2.2.2.2.2.2.2.2.2.1 B4c1_c.1.2.2.2.2.2.2.2.2.2.2.2 B4c1_c.2.1 B4c1_c.2.2.1 B4c1_c.2.2.2.1 B4c1_c.2.2.2.2.1 B4c1_c.2.2.2.2.2.1 B4c1_c.2.2.2.2.2.2.1 B4c1_c.2.2.2.2.2.2.2.1 B4c1_c.2.2.2.2.2.2.2.2 :=
 B4c2_S.2 (fun y0 y1 y2 y3 y4 => pick_use (P := B4c2_P) (c := B4c2_c) rfl B4c2.body ((y0, y1, y2, y3, y4))) 
end B4c1
theorem law_walk : PySem.Challenge.rw_ux0030_01.Holds :=
 B4c1_S.2 (fun y0 y1 y2 y3 y4 y5 y6 y7 y8 y9 y10 y11 y12 y13 y14 y15 y16 y17 y18 y19 => pick_use (P := B4c1_P) (c := B4c1_c) rfl B4c1.body ((y0, y1, y2, y3, y4, y5, y6, y7, y8, y9, y10, y11), (y12, y13, y14, y15, y16, y17, y18, y19))) 
end Mine
end
theorem PySem.Challenge.cw_ux0030_01_holds : PySem.Challenge.rw_ux0030_01.Holds :=
 Mine.law_walk
