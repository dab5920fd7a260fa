import PyProof.Rows.All
import Wide.All
import OpenK.AllK
import Wide.FinOn
import KE.KLam
import KE.KSuperObj
import KE.KDictList
import KE.KNest
import Lean
import PySem.Challenge.RW_wz0014_01
set_option Elab.async false
set_option maxRecDepth 100000
set_option linter.all false
set_option maxHeartbeats 0
set_option tactic.hygienic false
namespace Mine
open PySem PySem.Calls PyProof.Rows
set_option genSizeOf false in
set_option genInjectivity false in
inductive LX where
  | N (k : Nat) | V (i : Nat) | A (x y : LX) | M (k : Nat) (x : LX) | R (x : LX) (k : Nat)
set_option genSizeOf false in
set_option genInjectivity false in
inductive LC where
  | L (k : Nat) (x y : LX) | T (k : Nat) (x y : LX) | E (k : Nat) (x y : LX) | Q (k : Nat) (x y : LX) | NL (k : Nat) (x y : LX) | NT (k : Nat) (x y : LX) | F
noncomputable def LX.nt (l : List Nat) : Nat → Nat := List.rec (fun _ => 0) (fun a _ f i => Nat.rec a (fun j _ => f j) i) l
noncomputable def LX.ev (c : List Nat) (e : LX) : Nat := LX.rec (fun k => k) (fun i => LX.nt c i) (fun _ _ a b => a + b) (fun k _ a => k * a) (fun _ k a => a * k) e
noncomputable def LX.dot (l : List Nat) : List Nat → Nat := List.rec (fun _ => 0) (fun k _ f c => List.rec 0 (fun x xs _ => k * x + f xs) c) l
noncomputable def LX.add (l : List Nat) : List Nat → List Nat := List.rec (fun b => b) (fun k ks f b => List.rec (k :: ks) (fun j js _ => (k + j) :: f js) b) l
noncomputable def LX.sc (k : Nat) (l : List Nat) : List Nat := List.rec [] (fun x _ r => (k * x) :: r) l
noncomputable def LX.un (i : Nat) : List Nat := Nat.rec [1] (fun _ r => 0 :: r) i
noncomputable def LX.co (e : LX) : List Nat := LX.rec (fun k => [k]) (fun i => 0 :: LX.un i) (fun _ _ a b => LX.add a b) (fun k _ a => LX.sc k a) (fun _ k a => LX.sc k a) e
noncomputable def LC.den (c : List Nat) (g : LC) : Prop := LC.rec (fun _ x y => LX.ev c x ≤ LX.ev c y) (fun _ x y => LX.ev c x < LX.ev c y) (fun _ x y => LX.ev c x = LX.ev c y) (fun _ x y => LX.ev c x = LX.ev c y)
  (fun _ x y => ¬ LX.ev c x ≤ LX.ev c y) (fun _ x y => ¬ LX.ev c x < LX.ev c y) False g
noncomputable def LC.lo (g : LC) : List Nat := LC.rec (fun k x _ => LX.sc k (LX.co x)) (fun k x _ => LX.sc k (LX.add [1] (LX.co x))) (fun k x _ => LX.sc k (LX.co x)) (fun k _ y => LX.sc k (LX.co y))
  (fun k _ y => LX.sc k (LX.add [1] (LX.co y))) (fun k _ y => LX.sc k (LX.co y)) [0] g
noncomputable def LC.hi (g : LC) : List Nat := LC.rec (fun k _ y => LX.sc k (LX.co y)) (fun k _ y => LX.sc k (LX.co y)) (fun k _ y => LX.sc k (LX.co y)) (fun k x _ => LX.sc k (LX.co x))
  (fun k x _ => LX.sc k (LX.co x)) (fun k x _ => LX.sc k (LX.co x)) [1] g
noncomputable def LC.ng (g : LC) : LC := LC.rec (fun k x y => .NL k x y) (fun k x y => .NT k x y) (fun _ x _ => .L 0 x x) (fun _ x _ => .L 0 x x) (fun _ x _ => .L 0 x x) (fun _ x _ => .L 0 x x) (.L 0 (.N 0) (.N 0)) g
noncomputable def LX.geq (l r : List Nat) : Bool := List.rec (fun _ => true) (fun k _ f l => List.rec (and (Nat.beq k 0) (f [])) (fun j js _ => and (Nat.ble k j) (f js)) l) r l
noncomputable def LC.imp (c : List Nat) (g : Prop) (hs : List LC) : Prop := List.rec g (fun h _ r => LC.den c h → r) hs
noncomputable def LC.chk (hs : List LC) : List Nat → List Nat → Bool := List.rec (fun u t => LX.geq u (LX.add [1] t)) (fun h _ f u t => f (LX.add u (LC.lo h)) (LX.add t (LC.hi h))) hs
theorem LX.dot_add (a : List Nat) : ∀ (b c : List Nat), LX.dot (LX.add a b) c = LX.dot a c + LX.dot b c := by
  induction a with
  | nil => exact fun b c => (Nat.zero_add _).symm
  | cons k ks ih =>
    intro b c
    cases b with
    | nil => rfl
    | cons j js =>
      cases c with
      | nil => rfl
      | cons x xs =>
        show (k + j) * x + LX.dot (LX.add ks js) xs = (k * x + LX.dot ks xs) + (j * x + LX.dot js xs)
        rw [ih js xs, Nat.add_mul, Nat.add_assoc, Nat.add_assoc, Nat.add_left_comm (j * x)]
theorem LX.dot_sc (k : Nat) (a : List Nat) : ∀ (c : List Nat), LX.dot (LX.sc k a) c = k * LX.dot a c := by
  induction a with
  | nil => exact fun _ => rfl
  | cons x xs ih =>
    intro c
    cases c with
    | nil => rfl
    | cons y ys =>
      show k * x * y + LX.dot (LX.sc k xs) ys = k * (x * y + LX.dot xs ys)
      rw [ih ys, Nat.mul_add, Nat.mul_assoc]
theorem LX.dot_un (i : Nat) : ∀ (c : List Nat), LX.dot (LX.un i) c = LX.nt c i := by
  induction i with
  | zero =>
    intro c
    cases c with
    | nil => rfl
    | cons x xs => exact Nat.one_mul x
  | succ i ih =>
    intro c
    cases c with
    | nil => rfl
    | cons x xs =>
      show 0 * x + LX.dot (LX.un i) xs = LX.nt xs i
      rw [Nat.zero_mul, Nat.zero_add, ih xs]
theorem LX.dot_co (c : List Nat) (e : LX) : LX.dot (LX.co e) (1 :: c) = LX.ev c e := by
  induction e with
  | N k => exact Nat.mul_one k
  | V i =>
    show 0 * 1 + LX.dot (LX.un i) c = LX.nt c i
    rw [Nat.zero_mul, Nat.zero_add, LX.dot_un]
  | A x y ix iy =>
    show LX.dot (LX.add (LX.co x) (LX.co y)) _ = LX.ev c x + LX.ev c y
    rw [LX.dot_add, ix, iy]
  | M k x ix =>
    show LX.dot (LX.sc k (LX.co x)) _ = k * LX.ev c x
    rw [LX.dot_sc, ix]
  | R x k ix =>
    show LX.dot (LX.sc k (LX.co x)) _ = LX.ev c x * k
    rw [LX.dot_sc, ix, Nat.mul_comm]
theorem LX.two (c : List Nat) (k : Nat) (x y : LX) (h : LX.ev c x ≤ LX.ev c y) : LX.dot (LX.sc k (LX.co x)) (1 :: c) ≤ LX.dot (LX.sc k (LX.co y)) (1 :: c) := by
  rw [LX.dot_sc, LX.dot_sc, LX.dot_co, LX.dot_co]; exact Nat.mul_le_mul_left _ h
theorem LX.two' (c : List Nat) (k : Nat) (x y : LX) (h : LX.ev c x < LX.ev c y) : LX.dot (LX.sc k (LX.add [1] (LX.co x))) (1 :: c) ≤ LX.dot (LX.sc k (LX.co y)) (1 :: c) := by
  rw [LX.dot_sc, LX.dot_sc, LX.dot_add, LX.dot_co, LX.dot_co]; exact Nat.mul_le_mul_left _ (Nat.le_trans (Nat.le_of_eq (Nat.add_comm 1 _)) h)
theorem LC.ok (c : List Nat) (g : LC) : LC.den c g → LX.dot (LC.lo g) (1 :: c) ≤ LX.dot (LC.hi g) (1 :: c) :=
  LC.rec (fun k x y h => LX.two c k x y h) (fun k x y h => LX.two' c k x y h) (fun k x y h => LX.two c k x y (Nat.le_of_eq h)) (fun k x y h => LX.two c k y x (Nat.le_of_eq (Eq.symm h)))
    (fun k x y h => LX.two' c k y x (Nat.lt_of_not_le h)) (fun k x y h => LX.two c k y x (Nat.le_of_not_lt h)) (fun h => h.elim) g
theorem LC.den_ng (c : List Nat) (g : LC) : (LC.den c (LC.ng g) → False) → LC.den c g :=
  LC.rec (motive := fun g => (LC.den c (LC.ng g) → False) → LC.den c g) (fun _ _ _ h => Classical.byContradiction h) (fun _ _ _ h => Classical.byContradiction h)
    (fun _ x _ h => (h (Nat.le_refl (LX.ev c x))).elim) (fun _ x _ h => (h (Nat.le_refl (LX.ev c x))).elim) (fun _ x _ h => (h (Nat.le_refl (LX.ev c x))).elim) (fun _ x _ h => (h (Nat.le_refl (LX.ev c x))).elim) (fun h => h (Nat.le_refl 0)) g
theorem LX.nil_geq (r : List Nat) (c : List Nat) : LX.geq [] r = true → LX.dot r c = 0 := by
  induction r generalizing c with
  | nil => exact fun _ => rfl
  | cons k ks ih =>
    intro h
    have h := (Bool.and_eq_true _ _).mp h
    cases c with
    | nil => rfl
    | cons x xs =>
      show k * x + LX.dot ks xs = 0
      rw [Nat.eq_of_beq_eq_true h.1, ih xs h.2, Nat.zero_mul]
theorem LX.dot_geq (r : List Nat) : ∀ (l c : List Nat), LX.geq l r = true → LX.dot r c ≤ LX.dot l c := by
  induction r with
  | nil => exact fun _ _ _ => Nat.zero_le _
  | cons k ks ih =>
    intro l c h
    cases l with
    | nil => rw [LX.nil_geq _ c h]; exact Nat.zero_le _
    | cons j js =>
      cases c with
      | nil => exact Nat.zero_le _
      | cons x xs =>
        have h := (Bool.and_eq_true _ _).mp h
        exact Nat.add_le_add (Nat.mul_le_mul_right _ (Nat.le_of_ble_eq_true h.1)) (ih js xs h.2)
theorem LC.run (c : List Nat) (g : Prop) (hs : List LC) : ∀ (u t : List Nat), LC.chk hs u t = true → (g ∨ LX.dot u (1 :: c) ≤ LX.dot t (1 :: c)) → LC.imp c g hs := by
  induction hs with
  | nil =>
    intro u t ck le
    refine le.elim id fun le => ?_
    have h := LX.dot_geq _ _ (1 :: c) ck
    rw [LX.dot_add] at h
    exact absurd (Nat.le_trans h le) (by rw [Nat.add_comm]; exact Nat.not_succ_le_self _)
  | cons h hs ih => exact fun u t ck le d => ih _ _ ck (le.imp_right fun le => by rw [LX.dot_add, LX.dot_add]; exact Nat.add_le_add le (LC.ok c h d))
theorem lin (c : List Nat) (hs : List LC) (g : LC) (ck : LC.chk hs (LC.lo (LC.ng g)) (LC.hi (LC.ng g)) = true) : LC.imp c (LC.den c g) hs :=
  LC.run c _ hs _ _ ck (Classical.byCases .inl fun n => .inr (LC.ok c _ (Classical.byContradiction fun q => n (LC.den_ng c g q))))
theorem el0x2 {P1 P2 : Prop} {C : Prop} (h : P1 ∧ P2) (k : P1 → P2 → C) : C := by obtain ⟨h1, h2⟩ := h; exact k h1 h2
theorem el0x3 {P1 P2 P3 : Prop} {C : Prop} (h : P1 ∧ P2 ∧ P3) (k : P1 → P2 → P3 → C) : C := by obtain ⟨h1, h2, h3⟩ := h; exact k h1 h2 h3
theorem el0x4 {P1 P2 P3 P4 : Prop} {C : Prop} (h : P1 ∧ P2 ∧ P3 ∧ P4) (k : P1 → P2 → P3 → P4 → C) : C := by obtain ⟨h1, h2, h3, h4⟩ := h; exact k h1 h2 h3 h4
theorem el0x6 {P1 P2 P3 P4 P5 P6 : Prop} {C : Prop} (h : P1 ∧ P2 ∧ P3 ∧ P4 ∧ P5 ∧ P6) (k : P1 → P2 → P3 → P4 → P5 → P6 → C) : C := by obtain ⟨h1, h2, h3, h4, h5, h6⟩ := h; exact k h1 h2 h3 h4 h5 h6
theorem el0x7 {P1 P2 P3 P4 P5 P6 P7 : Prop} {C : Prop} (h : P1 ∧ P2 ∧ P3 ∧ P4 ∧ P5 ∧ P6 ∧ P7) (k : P1 → P2 → P3 → P4 → P5 → P6 → P7 → C) : C := by obtain ⟨h1, h2, h3, h4, h5, h6, h7⟩ := h; exact k h1 h2 h3 h4 h5 h6 h7
theorem el1x1 {α : Type} {P1 : α → Prop} {C : Prop} (h : ∃ (a : α), P1 a) (k : ∀ (a : α), P1 a → C) : C := by obtain ⟨a, h1⟩ := h; exact k a h1
theorem el1x2 {α : Type} {P1 P2 : α → Prop} {C : Prop} (h : ∃ (a : α), P1 a ∧ P2 a) (k : ∀ (a : α), P1 a → P2 a → C) : C := by obtain ⟨a, h1, h2⟩ := h; exact k a h1 h2
theorem el1x3 {α : Type} {P1 P2 P3 : α → Prop} {C : Prop} (h : ∃ (a : α), P1 a ∧ P2 a ∧ P3 a) (k : ∀ (a : α), P1 a → P2 a → P3 a → C) : C := by obtain ⟨a, h1, h2, h3⟩ := h; exact k a h1 h2 h3
theorem el1x4 {α : Type} {P1 P2 P3 P4 : α → Prop} {C : Prop} (h : ∃ (a : α), P1 a ∧ P2 a ∧ P3 a ∧ P4 a) (k : ∀ (a : α), P1 a → P2 a → P3 a → P4 a → C) : C := by obtain ⟨a, h1, h2, h3, h4⟩ := h; exact k a h1 h2 h3 h4
theorem el1x5 {α : Type} {P1 P2 P3 P4 P5 : α → Prop} {C : Prop} (h : ∃ (a : α), P1 a ∧ P2 a ∧ P3 a ∧ P4 a ∧ P5 a) (k : ∀ (a : α), P1 a → P2 a → P3 a → P4 a → P5 a → C) : C := by obtain ⟨a, h1, h2, h3, h4, h5⟩ := h; exact k a h1 h2 h3 h4 h5
theorem el2x1 {α β : Type} {P1 : α → β → Prop} {C : Prop} (h : ∃ (a : α) (b : β), P1 a b) (k : ∀ (a : α) (b : β), P1 a b → C) : C := by obtain ⟨a, b, h1⟩ := h; exact k a b h1
theorem el2x10 {α β : Type} {P1 P2 P3 P4 P5 P6 P7 P8 P9 P10 : α → β → Prop} {C : Prop} (h : ∃ (a : α) (b : β), P1 a b ∧ P2 a b ∧ P3 a b ∧ P4 a b ∧ P5 a b ∧ P6 a b ∧ P7 a b ∧ P8 a b ∧ P9 a b ∧ P10 a b) (k : ∀ (a : α) (b : β), P1 a b → P2 a b → P3 a b → P4 a b → P5 a b → P6 a b → P7 a b → P8 a b → P9 a b → P10 a b → C) : C := by obtain ⟨a, b, h1, h2, h3, h4, h5, h6, h7, h8, h9, h10⟩ := h; exact k a b h1 h2 h3 h4 h5 h6 h7 h8 h9 h10
theorem el2x2 {α β : Type} {P1 P2 : α → β → Prop} {C : Prop} (h : ∃ (a : α) (b : β), P1 a b ∧ P2 a b) (k : ∀ (a : α) (b : β), P1 a b → P2 a b → C) : C := by obtain ⟨a, b, h1, h2⟩ := h; exact k a b h1 h2
theorem el2x3 {α β : Type} {P1 P2 P3 : α → β → Prop} {C : Prop} (h : ∃ (a : α) (b : β), P1 a b ∧ P2 a b ∧ P3 a b) (k : ∀ (a : α) (b : β), P1 a b → P2 a b → P3 a b → C) : C := by obtain ⟨a, b, h1, h2, h3⟩ := h; exact k a b h1 h2 h3
theorem el2x4 {α β : Type} {P1 P2 P3 P4 : α → β → Prop} {C : Prop} (h : ∃ (a : α) (b : β), P1 a b ∧ P2 a b ∧ P3 a b ∧ P4 a b) (k : ∀ (a : α) (b : β), P1 a b → P2 a b → P3 a b → P4 a b → C) : C := by obtain ⟨a, b, h1, h2, h3, h4⟩ := h; exact k a b h1 h2 h3 h4
theorem el2x5 {α β : Type} {P1 P2 P3 P4 P5 : α → β → Prop} {C : Prop} (h : ∃ (a : α) (b : β), P1 a b ∧ P2 a b ∧ P3 a b ∧ P4 a b ∧ P5 a b) (k : ∀ (a : α) (b : β), P1 a b → P2 a b → P3 a b → P4 a b → P5 a b → C) : C := by obtain ⟨a, b, h1, h2, h3, h4, h5⟩ := h; exact k a b h1 h2 h3 h4 h5
theorem el2x9 {α β : Type} {P1 P2 P3 P4 P5 P6 P7 P8 P9 : α → β → Prop} {C : Prop} (h : ∃ (a : α) (b : β), P1 a b ∧ P2 a b ∧ P3 a b ∧ P4 a b ∧ P5 a b ∧ P6 a b ∧ P7 a b ∧ P8 a b ∧ P9 a b) (k : ∀ (a : α) (b : β), P1 a b → P2 a b → P3 a b → P4 a b → P5 a b → P6 a b → P7 a b → P8 a b → P9 a b → C) : C := by obtain ⟨a, b, h1, h2, h3, h4, h5, h6, h7, h8, h9⟩ := h; exact k a b h1 h2 h3 h4 h5 h6 h7 h8 h9
theorem el3x2 {α β γ : Type} {P1 P2 : α → β → γ → Prop} {C : Prop} (h : ∃ (a : α) (b : β) (c : γ), P1 a b c ∧ P2 a b c) (k : ∀ (a : α) (b : β) (c : γ), P1 a b c → P2 a b c → C) : C := by obtain ⟨a, b, c, h1, h2⟩ := h; exact k a b c h1 h2
theorem el3x3 {α β γ : Type} {P1 P2 P3 : α → β → γ → Prop} {C : Prop} (h : ∃ (a : α) (b : β) (c : γ), P1 a b c ∧ P2 a b c ∧ P3 a b c) (k : ∀ (a : α) (b : β) (c : γ), P1 a b c → P2 a b c → P3 a b c → C) : C := by obtain ⟨a, b, c, h1, h2, h3⟩ := h; exact k a b c h1 h2 h3
theorem el3x4 {α β γ : Type} {P1 P2 P3 P4 : α → β → γ → Prop} {C : Prop} (h : ∃ (a : α) (b : β) (c : γ), P1 a b c ∧ P2 a b c ∧ P3 a b c ∧ P4 a b c) (k : ∀ (a : α) (b : β) (c : γ), P1 a b c → P2 a b c → P3 a b c → P4 a b c → C) : C := by obtain ⟨a, b, c, h1, h2, h3, h4⟩ := h; exact k a b c h1 h2 h3 h4
theorem el3x5 {α β γ : Type} {P1 P2 P3 P4 P5 : α → β → γ → Prop} {C : Prop} (h : ∃ (a : α) (b : β) (c : γ), P1 a b c ∧ P2 a b c ∧ P3 a b c ∧ P4 a b c ∧ P5 a b c) (k : ∀ (a : α) (b : β) (c : γ), P1 a b c → P2 a b c → P3 a b c → P4 a b c → P5 a b c → C) : C := by obtain ⟨a, b, c, h1, h2, h3, h4, h5⟩ := h; exact k a b c h1 h2 h3 h4 h5
theorem el3x6 {α β γ : Type} {P1 P2 P3 P4 P5 P6 : α → β → γ → Prop} {C : Prop} (h : ∃ (a : α) (b : β) (c : γ), P1 a b c ∧ P2 a b c ∧ P3 a b c ∧ P4 a b c ∧ P5 a b c ∧ P6 a b c) (k : ∀ (a : α) (b : β) (c : γ), P1 a b c → P2 a b c → P3 a b c → P4 a b c → P5 a b c → P6 a b c → C) : C := by obtain ⟨a, b, c, h1, h2, h3, h4, h5, h6⟩ := h; exact k a b c h1 h2 h3 h4 h5 h6
theorem el4x10 {α β γ δ : Type} {P1 P2 P3 P4 P5 P6 P7 P8 P9 P10 : α → β → γ → δ → Prop} {C : Prop} (h : ∃ (a : α) (b : β) (c : γ) (d : δ), P1 a b c d ∧ P2 a b c d ∧ P3 a b c d ∧ P4 a b c d ∧ P5 a b c d ∧ P6 a b c d ∧ P7 a b c d ∧ P8 a b c d ∧ P9 a b c d ∧ P10 a b c d) (k : ∀ (a : α) (b : β) (c : γ) (d : δ), P1 a b c d → P2 a b c d → P3 a b c d → P4 a b c d → P5 a b c d → P6 a b c d → P7 a b c d → P8 a b c d → P9 a b c d → P10 a b c d → C) : C := by obtain ⟨a, b, c, d, h1, h2, h3, h4, h5, h6, h7, h8, h9, h10⟩ := h; exact k a b c d h1 h2 h3 h4 h5 h6 h7 h8 h9 h10
theorem el4x2 {α β γ δ : Type} {P1 P2 : α → β → γ → δ → Prop} {C : Prop} (h : ∃ (a : α) (b : β) (c : γ) (d : δ), P1 a b c d ∧ P2 a b c d) (k : ∀ (a : α) (b : β) (c : γ) (d : δ), P1 a b c d → P2 a b c d → C) : C := by obtain ⟨a, b, c, d, h1, h2⟩ := h; exact k a b c d h1 h2
theorem el4x3 {α β γ δ : Type} {P1 P2 P3 : α → β → γ → δ → Prop} {C : Prop} (h : ∃ (a : α) (b : β) (c : γ) (d : δ), P1 a b c d ∧ P2 a b c d ∧ P3 a b c d) (k : ∀ (a : α) (b : β) (c : γ) (d : δ), P1 a b c d → P2 a b c d → P3 a b c d → C) : C := by obtain ⟨a, b, c, d, h1, h2, h3⟩ := h; exact k a b c d h1 h2 h3
theorem el4x4 {α β γ δ : Type} {P1 P2 P3 P4 : α → β → γ → δ → Prop} {C : Prop} (h : ∃ (a : α) (b : β) (c : γ) (d : δ), P1 a b c d ∧ P2 a b c d ∧ P3 a b c d ∧ P4 a b c d) (k : ∀ (a : α) (b : β) (c : γ) (d : δ), P1 a b c d → P2 a b c d → P3 a b c d → P4 a b c d → C) : C := by obtain ⟨a, b, c, d, h1, h2, h3, h4⟩ := h; exact k a b c d h1 h2 h3 h4
theorem el4x7 {α β γ δ : Type} {P1 P2 P3 P4 P5 P6 P7 : α → β → γ → δ → Prop} {C : Prop} (h : ∃ (a : α) (b : β) (c : γ) (d : δ), P1 a b c d ∧ P2 a b c d ∧ P3 a b c d ∧ P4 a b c d ∧ P5 a b c d ∧ P6 a b c d ∧ P7 a b c d) (k : ∀ (a : α) (b : β) (c : γ) (d : δ), P1 a b c d → P2 a b c d → P3 a b c d → P4 a b c d → P5 a b c d → P6 a b c d → P7 a b c d → C) : C := by obtain ⟨a, b, c, d, h1, h2, h3, h4, h5, h6, h7⟩ := h; exact k a b c d h1 h2 h3 h4 h5 h6 h7
theorem el4x9 {α β γ δ : Type} {P1 P2 P3 P4 P5 P6 P7 P8 P9 : α → β → γ → δ → Prop} {C : Prop} (h : ∃ (a : α) (b : β) (c : γ) (d : δ), P1 a b c d ∧ P2 a b c d ∧ P3 a b c d ∧ P4 a b c d ∧ P5 a b c d ∧ P6 a b c d ∧ P7 a b c d ∧ P8 a b c d ∧ P9 a b c d) (k : ∀ (a : α) (b : β) (c : γ) (d : δ), P1 a b c d → P2 a b c d → P3 a b c d → P4 a b c d → P5 a b c d → P6 a b c d → P7 a b c d → P8 a b c d → P9 a b c d → C) : C := by obtain ⟨a, b, c, d, h1, h2, h3, h4, h5, h6, h7, h8, h9⟩ := h; exact k a b c d h1 h2 h3 h4 h5 h6 h7 h8 h9
theorem in0x3 {P1 P2 P3 : Prop}  (h1 : P1) (h2 : P2) (h3 : P3) : P1 ∧ P2 ∧ P3 := ⟨h1, h2, h3⟩
theorem in0x4 {P1 P2 P3 P4 : Prop}  (h1 : P1) (h2 : P2) (h3 : P3) (h4 : P4) : P1 ∧ P2 ∧ P3 ∧ P4 := ⟨h1, h2, h3, h4⟩
theorem in0x5 {P1 P2 P3 P4 P5 : Prop}  (h1 : P1) (h2 : P2) (h3 : P3) (h4 : P4) (h5 : P5) : P1 ∧ P2 ∧ P3 ∧ P4 ∧ P5 := ⟨h1, h2, h3, h4, h5⟩
theorem in1x2 {α : Type} {P1 P2 : α → Prop} (a : α) (h1 : P1 a) (h2 : P2 a) : ∃ (a : α), P1 a ∧ P2 a := ⟨a, h1, h2⟩
theorem in1x3 {α : Type} {P1 P2 P3 : α → Prop} (a : α) (h1 : P1 a) (h2 : P2 a) (h3 : P3 a) : ∃ (a : α), P1 a ∧ P2 a ∧ P3 a := ⟨a, h1, h2, h3⟩
theorem in1x4 {α : Type} {P1 P2 P3 P4 : α → Prop} (a : α) (h1 : P1 a) (h2 : P2 a) (h3 : P3 a) (h4 : P4 a) : ∃ (a : α), P1 a ∧ P2 a ∧ P3 a ∧ P4 a := ⟨a, h1, h2, h3, h4⟩
theorem in2x1 {α β : Type} {P1 : α → β → Prop} (a : α) (b : β) (h1 : P1 a b) : ∃ (a : α) (b : β), P1 a b := ⟨a, b, h1⟩
theorem in2x10 {α β : Type} {P1 P2 P3 P4 P5 P6 P7 P8 P9 P10 : α → β → Prop} (a : α) (b : β) (h1 : P1 a b) (h2 : P2 a b) (h3 : P3 a b) (h4 : P4 a b) (h5 : P5 a b) (h6 : P6 a b) (h7 : P7 a b) (h8 : P8 a b) (h9 : P9 a b) (h10 : P10 a b) : ∃ (a : α) (b : β), P1 a b ∧ P2 a b ∧ P3 a b ∧ P4 a b ∧ P5 a b ∧ P6 a b ∧ P7 a b ∧ P8 a b ∧ P9 a b ∧ P10 a b := ⟨a, b, h1, h2, h3, h4, h5, h6, h7, h8, h9, h10⟩
theorem in2x2 {α β : Type} {P1 P2 : α → β → Prop} (a : α) (b : β) (h1 : P1 a b) (h2 : P2 a b) : ∃ (a : α) (b : β), P1 a b ∧ P2 a b := ⟨a, b, h1, h2⟩
theorem in2x3 {α β : Type} {P1 P2 P3 : α → β → Prop} (a : α) (b : β) (h1 : P1 a b) (h2 : P2 a b) (h3 : P3 a b) : ∃ (a : α) (b : β), P1 a b ∧ P2 a b ∧ P3 a b := ⟨a, b, h1, h2, h3⟩
theorem in2x4 {α β : Type} {P1 P2 P3 P4 : α → β → Prop} (a : α) (b : β) (h1 : P1 a b) (h2 : P2 a b) (h3 : P3 a b) (h4 : P4 a b) : ∃ (a : α) (b : β), P1 a b ∧ P2 a b ∧ P3 a b ∧ P4 a b := ⟨a, b, h1, h2, h3, h4⟩
theorem in2x5 {α β : Type} {P1 P2 P3 P4 P5 : α → β → Prop} (a : α) (b : β) (h1 : P1 a b) (h2 : P2 a b) (h3 : P3 a b) (h4 : P4 a b) (h5 : P5 a b) : ∃ (a : α) (b : β), P1 a b ∧ P2 a b ∧ P3 a b ∧ P4 a b ∧ P5 a b := ⟨a, b, h1, h2, h3, h4, h5⟩
theorem in2x6 {α β : Type} {P1 P2 P3 P4 P5 P6 : α → β → Prop} (a : α) (b : β) (h1 : P1 a b) (h2 : P2 a b) (h3 : P3 a b) (h4 : P4 a b) (h5 : P5 a b) (h6 : P6 a b) : ∃ (a : α) (b : β), P1 a b ∧ P2 a b ∧ P3 a b ∧ P4 a b ∧ P5 a b ∧ P6 a b := ⟨a, b, h1, h2, h3, h4, h5, h6⟩
theorem in3x2 {α β γ : Type} {P1 P2 : α → β → γ → Prop} (a : α) (b : β) (c : γ) (h1 : P1 a b c) (h2 : P2 a b c) : ∃ (a : α) (b : β) (c : γ), P1 a b c ∧ P2 a b c := ⟨a, b, c, h1, h2⟩
theorem in3x3 {α β γ : Type} {P1 P2 P3 : α → β → γ → Prop} (a : α) (b : β) (c : γ) (h1 : P1 a b c) (h2 : P2 a b c) (h3 : P3 a b c) : ∃ (a : α) (b : β) (c : γ), P1 a b c ∧ P2 a b c ∧ P3 a b c := ⟨a, b, c, h1, h2, h3⟩
theorem in3x4 {α β γ : Type} {P1 P2 P3 P4 : α → β → γ → Prop} (a : α) (b : β) (c : γ) (h1 : P1 a b c) (h2 : P2 a b c) (h3 : P3 a b c) (h4 : P4 a b c) : ∃ (a : α) (b : β) (c : γ), P1 a b c ∧ P2 a b c ∧ P3 a b c ∧ P4 a b c := ⟨a, b, c, h1, h2, h3, h4⟩
theorem in3x6 {α β γ : Type} {P1 P2 P3 P4 P5 P6 : α → β → γ → Prop} (a : α) (b : β) (c : γ) (h1 : P1 a b c) (h2 : P2 a b c) (h3 : P3 a b c) (h4 : P4 a b c) (h5 : P5 a b c) (h6 : P6 a b c) : ∃ (a : α) (b : β) (c : γ), P1 a b c ∧ P2 a b c ∧ P3 a b c ∧ P4 a b c ∧ P5 a b c ∧ P6 a b c := ⟨a, b, c, h1, h2, h3, h4, h5, h6⟩
theorem in3x7 {α β γ : Type} {P1 P2 P3 P4 P5 P6 P7 : α → β → γ → Prop} (a : α) (b : β) (c : γ) (h1 : P1 a b c) (h2 : P2 a b c) (h3 : P3 a b c) (h4 : P4 a b c) (h5 : P5 a b c) (h6 : P6 a b c) (h7 : P7 a b c) : ∃ (a : α) (b : β) (c : γ), P1 a b c ∧ P2 a b c ∧ P3 a b c ∧ P4 a b c ∧ P5 a b c ∧ P6 a b c ∧ P7 a b c := ⟨a, b, c, h1, h2, h3, h4, h5, h6, h7⟩
theorem in4x10 {α β γ δ : Type} {P1 P2 P3 P4 P5 P6 P7 P8 P9 P10 : α → β → γ → δ → Prop} (a : α) (b : β) (c : γ) (d : δ) (h1 : P1 a b c d) (h2 : P2 a b c d) (h3 : P3 a b c d) (h4 : P4 a b c d) (h5 : P5 a b c d) (h6 : P6 a b c d) (h7 : P7 a b c d) (h8 : P8 a b c d) (h9 : P9 a b c d) (h10 : P10 a b c d) : ∃ (a : α) (b : β) (c : γ) (d : δ), P1 a b c d ∧ P2 a b c d ∧ P3 a b c d ∧ P4 a b c d ∧ P5 a b c d ∧ P6 a b c d ∧ P7 a b c d ∧ P8 a b c d ∧ P9 a b c d ∧ P10 a b c d := ⟨a, b, c, d, h1, h2, h3, h4, h5, h6, h7, h8, h9, h10⟩
theorem in4x2 {α β γ δ : Type} {P1 P2 : α → β → γ → δ → Prop} (a : α) (b : β) (c : γ) (d : δ) (h1 : P1 a b c d) (h2 : P2 a b c d) : ∃ (a : α) (b : β) (c : γ) (d : δ), P1 a b c d ∧ P2 a b c d := ⟨a, b, c, d, h1, h2⟩
theorem in4x4 {α β γ δ : Type} {P1 P2 P3 P4 : α → β → γ → δ → Prop} (a : α) (b : β) (c : γ) (d : δ) (h1 : P1 a b c d) (h2 : P2 a b c d) (h3 : P3 a b c d) (h4 : P4 a b c d) : ∃ (a : α) (b : β) (c : γ) (d : δ), P1 a b c d ∧ P2 a b c d ∧ P3 a b c d ∧ P4 a b c d := ⟨a, b, c, d, h1, h2, h3, h4⟩
theorem in4x5 {α β γ δ : Type} {P1 P2 P3 P4 P5 : α → β → γ → δ → Prop} (a : α) (b : β) (c : γ) (d : δ) (h1 : P1 a b c d) (h2 : P2 a b c d) (h3 : P3 a b c d) (h4 : P4 a b c d) (h5 : P5 a b c d) : ∃ (a : α) (b : β) (c : γ) (d : δ), P1 a b c d ∧ P2 a b c d ∧ P3 a b c d ∧ P4 a b c d ∧ P5 a b c d := ⟨a, b, c, d, h1, h2, h3, h4, h5⟩
theorem in4x7 {α β γ δ : Type} {P1 P2 P3 P4 P5 P6 P7 : α → β → γ → δ → Prop} (a : α) (b : β) (c : γ) (d : δ) (h1 : P1 a b c d) (h2 : P2 a b c d) (h3 : P3 a b c d) (h4 : P4 a b c d) (h5 : P5 a b c d) (h6 : P6 a b c d) (h7 : P7 a b c d) : ∃ (a : α) (b : β) (c : γ) (d : δ), P1 a b c d ∧ P2 a b c d ∧ P3 a b c d ∧ P4 a b c d ∧ P5 a b c d ∧ P6 a b c d ∧ P7 a b c d := ⟨a, b, c, d, h1, h2, h3, h4, h5, h6, h7⟩
theorem in4x9 {α β γ δ : Type} {P1 P2 P3 P4 P5 P6 P7 P8 P9 : α → β → γ → δ → Prop} (a : α) (b : β) (c : γ) (d : δ) (h1 : P1 a b c d) (h2 : P2 a b c d) (h3 : P3 a b c d) (h4 : P4 a b c d) (h5 : P5 a b c d) (h6 : P6 a b c d) (h7 : P7 a b c d) (h8 : P8 a b c d) (h9 : P9 a b c d) : ∃ (a : α) (b : β) (c : γ) (d : δ), P1 a b c d ∧ P2 a b c d ∧ P3 a b c d ∧ P4 a b c d ∧ P5 a b c d ∧ P6 a b c d ∧ P7 a b c d ∧ P8 a b c d ∧ P9 a b c d := ⟨a, b, c, d, h1, h2, h3, h4, h5, h6, h7, h8, h9⟩
theorem in6x5 {α β γ δ ε ζ : Type} {P1 P2 P3 P4 P5 : α → β → γ → δ → ε → ζ → Prop} (a : α) (b : β) (c : γ) (d : δ) (e : ε) (f : ζ) (h1 : P1 a b c d e f) (h2 : P2 a b c d e f) (h3 : P3 a b c d e f) (h4 : P4 a b c d e f) (h5 : P5 a b c d e f) : ∃ (a : α) (b : β) (c : γ) (d : δ) (e : ε) (f : ζ), P1 a b c d e f ∧ P2 a b c d e f ∧ P3 a b c d e f ∧ P4 a b c d e f ∧ P5 a b c d e f := ⟨a, b, c, d, e, f, h1, h2, h3, h4, h5⟩
theorem in7x3 {α β γ δ ε ζ η : Type} {P1 P2 P3 : α → β → γ → δ → ε → ζ → η → Prop} (a : α) (b : β) (c : γ) (d : δ) (e : ε) (f : ζ) (g : η) (h1 : P1 a b c d e f g) (h2 : P2 a b c d e f g) (h3 : P3 a b c d e f g) : ∃ (a : α) (b : β) (c : γ) (d : δ) (e : ε) (f : ζ) (g : η), P1 a b c d e f g ∧ P2 a b c d e f g ∧ P3 a b c d e f g := ⟨a, b, c, d, e, f, g, h1, h2, h3⟩
theorem gm (i : Nat) {α : Type} {l : List α} {x : α} (h : l[i]? = some x) : x ∈ l := List.mem_of_getElem? h
theorem zm (i : Nat) {α β : Type} {l : List α} {m : List β} {a : α} {b : β} (h : l[i]? = some a) (h' : m[i]? = some b) : (a, b) ∈ l.zip m := gm i ((List.getElem?_zip_eq_some (z := (a, b))).mpr ⟨h, h'⟩)
theorem lcons {α : Type} {n : Nat} {C : Prop} {l : List α} (h : l.length = n + 1) (k : ∀ a r, l = a :: r → r.length = n → C) : C := by
  cases l with
  | nil => exact Nat.noConfusion h
  | cons a r => exact k a r rfl (Nat.succ.inj h)
theorem el4x5 {α β γ δ : Type} {P1 P2 P3 P4 P5 : α → β → γ → δ → Prop} {C : Prop} (h : ∃ (a : α) (b : β) (c : γ) (d : δ), P1 a b c d ∧ P2 a b c d ∧ P3 a b c d ∧ P4 a b c d ∧ P5 a b c d) (k : ∀ (a : α) (b : β) (c : γ) (d : δ), P1 a b c d → P2 a b c d → P3 a b c d → P4 a b c d → P5 a b c d → C) : C := by obtain ⟨a, b, c, d, h1, h2, h3, h4, h5⟩ := h; exact k a b c d h1 h2 h3 h4 h5
inductive PV where
  | none | bool (b : Bool) | int (i : Int) | str (x : Str)
  | list (l : List PV) | tuple (l : List PV)
  | dI (l : List (Int × Int)) | dS (l : List (Str × Int))
  | rng (a b c : Int)
  | inst (C : Addr) (a : Str) (d : PV)
  | view (items : Bool) (l : List (Int × Int))
  | raw (v : Value)
abbrev PMap := Addr → Option Obj
noncomputable def Sub (P : PMap) (h : Heap) : Prop := ∀ a o, P a = some o → h.get? a = some o
noncomputable def PMap.le (P P' : PMap) : Prop := ∀ a o, P a = some o → P' a = some o
theorem PMap.le_refl (P : PMap) : PMap.le P P := fun _ _ e => e
theorem PMap.le.trans {P Q R : PMap} (x : PMap.le P Q) (y : PMap.le Q R) : PMap.le P R := fun a o e => y a o (x a o e)
noncomputable def Keep (h h' : Heap) : Prop := ∀ b o, h.get? b = some o → h'.get? b = some o
theorem Keep.refl (h : Heap) : Keep h h := fun _ _ e => e
theorem Keep.trans {h h' h'' : Heap} (x : Keep h h') (y : Keep h' h'') : Keep h h'' := fun a o e => y a o (x a o e)
theorem Sub.keep {P : PMap} {h h' : Heap} (x : Sub P h) (y : Keep h h') : Sub P h' := fun a o e => y a o (x a o e)
section
variable (prog : Program) (w : World)
noncomputable def kvI : (Int × Value) → (Int × Int) → Prop := fun kv p => kv.1 = p.1 ∧ ∃ t, kv.2 = .int p.2 t
noncomputable def kvS : (Str × Value) → (Str × Int) → Prop := fun kv p => kv.1 = p.1 ∧ ∃ t, kv.2 = .int p.2 t
mutual
inductive Rp (P : PMap) : Value → PV → Prop
  | none : Rp P .none .none
  | bool (b : Bool) : Rp P (.bool b) (.bool b)
  | int (i : Int) (t : Tok) : Rp P (.int i t) (.int i)
  | str (x : Str) (t : Tok) : Rp P (.str x t) (.str x)
  | list {a : Addr} {vs : Array Value} {n : Nat} {l : List PV} : P a = some { cls := .type "list", data := .seq vs n } → RpL P vs.toList l → Rp P (.ref a) (.list l)
  | tuple {a : Addr} {vs : Array Value} {n : Nat} {l : List PV} : P a = some { cls := .type "tuple", data := .seq vs n } → RpL P vs.toList l → Rp P (.ref a) (.tuple l)
  | dI {a : Addr} {o : Obj} {kvs : List (Int × Value)} {l : List (Int × Int)} : P a = some o → o.IsDictOf (intKind prog w) kvs → Paired kvI kvs l → (a == sysModules) = false → Rp P (.ref a) (.dI l)
  | dS {a : Addr} {o : Obj} {kvs : List (Str × Value)} {l : List (Str × Int)} : P a = some o → o.IsDictOf (strKind prog w) kvs → Paired kvS kvs l → (a == sysModules) = false → Rp P (.ref a) (.dS l)
  | rng {r : Addr} {a b c : Int} {t u v : Tok} : P r = some { cls := .type "range", data := .fields #[.int a t, .int b u, .int c v] } → Rp P (.ref r) (.rng a b c)
  | inst {x d C : Addr} {o od : Obj} {es : Array DictEntry} {ep : Nat} {a : Str} {v : Value} {pv : PV} : P x = some o → o.cls = .ref C → (∀ c, o.data ≠ .cls c) → o.dict = some d → d ≠ x → P d = some od → od.data = .dict es ep → StrKeys es → UniqKeys es →
      (∀ y, nsFind es y = if y = a then some v else none) → Rp P v pv → Rp P (.ref x) (.inst C a pv)
  | view {x d : Addr} {o : Obj} {b : Bool} {kvs : List (Int × Value)} {l : List (Int × Int)} : P x = some { cls := .type (if b then "dict_items" else "dict_values"), data := .fields #[.ref d] } → P d = some o → o.IsDictOf (intKind prog w) kvs → Paired kvI kvs l → Rp P (.ref x) (.view b l)
  | raw (v : Value) : Rp P v (.raw v)
inductive RpL (P : PMap) : List Value → List PV → Prop
  | nil : RpL P [] []
  | cons {v : Value} {vs : List Value} {d : PV} {ds : List PV} : Rp P v d → RpL P vs ds → RpL P (v :: vs) (d :: ds)
end
end
section
variable {prog : Program} {w : World} {P P' : PMap}
theorem Rp.mono (hs : PMap.le P P') {v : Value} {d : PV} (r : Rp prog w P v d) : Rp prog w P' v d :=
  Rp.rec (motive_1 := fun v d _ => Rp prog w P' v d) (motive_2 := fun vs ds _ => RpL prog w P' vs ds) .none .bool .int .str (fun h _ ih => .list (hs _ _ h) ih) (fun h _ ih => .tuple (hs _ _ h) ih) (fun h c d r => .dI (hs _ _ h) c d r) (fun h c d r => .dS (hs _ _ h) c d r)
    (fun h => .rng (hs _ _ h)) (fun h c n e f g k s u m _ ih => .inst (hs _ _ h) c n e f (hs _ _ g) k s u m ih) (fun h g d p => .view (hs _ _ h) (hs _ _ g) d p) .raw .nil (fun _ _ a b => .cons a b) r
theorem RpL.mono (hs : PMap.le P P') {v : List Value} {d : List PV} (r : RpL prog w P v d) : RpL prog w P' v d :=
  RpL.rec (motive_1 := fun v d _ => Rp prog w P' v d) (motive_2 := fun vs ds _ => RpL prog w P' vs ds) .none .bool .int .str (fun h _ ih => .list (hs _ _ h) ih) (fun h _ ih => .tuple (hs _ _ h) ih) (fun h c d r => .dI (hs _ _ h) c d r) (fun h c d r => .dS (hs _ _ h) c d r)
    (fun h => .rng (hs _ _ h)) (fun h c n e f g k s u m _ ih => .inst (hs _ _ h) c n e f (hs _ _ g) k s u m ih) (fun h g d p => .view (hs _ _ h) (hs _ _ g) d p) .raw .nil (fun _ _ a b => .cons a b) r
noncomputable def RpI (prog : Program) (w : World) (P : PMap) (v : Value) (d : PV) : Prop := PV.casesOn (motive_1 := fun _ => Prop) d (v = .none) (fun b => v = .bool b) (fun i => ∃ t, v = .int i t) (fun x => ∃ t, v = .str x t)
  (fun l => ∃ a vs n, v = .ref a ∧ P a = some { cls := .type "list", data := .seq vs n } ∧ RpL prog w P vs.toList l) (fun l => ∃ a vs n, v = .ref a ∧ P a = some { cls := .type "tuple", data := .seq vs n } ∧ RpL prog w P vs.toList l)
  (fun l => ∃ a o kvs, v = .ref a ∧ P a = some o ∧ o.IsDictOf (intKind prog w) kvs ∧ Paired kvI kvs l ∧ (a == sysModules) = false) (fun l => ∃ a o kvs, v = .ref a ∧ P a = some o ∧ o.IsDictOf (strKind prog w) kvs ∧ Paired kvS kvs l ∧ (a == sysModules) = false)
  (fun a b c => ∃ r t u q, v = .ref r ∧ P r = some { cls := .type "range", data := .fields #[.int a t, .int b u, .int c q] })
  (fun C a pv => ∃ x d o od es ep u, v = .ref x ∧ P x = some o ∧ o.cls = .ref C ∧ (∀ c, o.data ≠ .cls c) ∧ o.dict = some d ∧ d ≠ x ∧ P d = some od ∧ od.data = .dict es ep ∧ StrKeys es ∧ UniqKeys es ∧ (∀ y, nsFind es y = if y = a then some u else none) ∧ Rp prog w P u pv)
  (fun b l => ∃ x d o kvs, v = .ref x ∧ P x = some { cls := .type (if b then "dict_items" else "dict_values"), data := .fields #[.ref d] } ∧ P d = some o ∧ o.IsDictOf (intKind prog w) kvs ∧ Paired kvI kvs l) (fun u => u = v)
noncomputable def RpLI (prog : Program) (w : World) (P : PMap) (vs : List Value) (ds : List PV) : Prop := List.rec (vs = []) (fun d ds _ => ∃ v us, vs = v :: us ∧ Rp prog w P v d ∧ RpL prog w P us ds) ds
theorem Rp.inv {v : Value} {d : PV} (r : Rp prog w P v d) : RpI prog w P v d :=
  Rp.casesOn (motive_1 := fun v d _ => RpI prog w P v d) r rfl (fun _ => rfl) (fun _ t => ⟨t, rfl⟩) (fun _ t => ⟨t, rfl⟩) (fun h r => ⟨_, _, _, rfl, h, r⟩) (fun h r => ⟨_, _, _, rfl, h, r⟩)
    (fun h c d r => ⟨_, _, _, rfl, h, c, d, r⟩) (fun h c d r => ⟨_, _, _, rfl, h, c, d, r⟩) (fun h => ⟨_, _, _, _, rfl, h⟩) (fun h c n e f g k s u m r => ⟨_, _, _, _, _, _, _, rfl, h, c, n, e, f, g, k, s, u, m, r⟩) (fun h g d p => ⟨_, _, _, _, rfl, h, g, d, p⟩) (fun _ => rfl)
theorem RpL.inv {vs : List Value} {ds : List PV} (r : RpL prog w P vs ds) : RpLI prog w P vs ds :=
  RpL.casesOn (motive_2 := fun vs ds _ => RpLI prog w P vs ds) r rfl (fun r rs => ⟨_, _, rfl, r, rs⟩)
section
variable {v : Value} {vs : List Value} {C : Prop}
theorem Rp.int_el {i : Int} (h : Rp prog w P v (.int i)) (k : ∀ t, v = .int i t → C) : C := Exists.elim h.inv k
theorem Rp.str_el {x : Str} (h : Rp prog w P v (.str x)) (k : ∀ t, v = .str x t → C) : C := Exists.elim h.inv k
theorem Rp.bool_inv {b : Bool} (h : Rp prog w P v (.bool b)) : v = .bool b := h.inv
theorem Rp.raw_inv {u : Value} (h : Rp prog w P v (.raw u)) : u = v := h.inv
theorem RpL.nil_inv (h : RpL prog w P vs []) : vs = [] := h.inv
theorem RpL.cons_el {d : PV} {ds : List PV} (h : RpL prog w P vs (d :: ds)) (k : ∀ v us, vs = v :: us → Rp prog w P v d → RpL prog w P us ds → C) : C := el2x3 h.inv k
theorem RpL.el1 {d : PV} (h : RpL prog w P vs [d]) (k : ∀ v, vs = [v] → Rp prog w P v d → C) : C := RpL.cons_el h fun _ _ e r rs => k _ (RpL.nil_inv rs ▸ e) r
theorem RpL.el2 {d d' : PV} (h : RpL prog w P vs [d, d']) (k : ∀ v v', vs = [v, v'] → Rp prog w P v d → Rp prog w P v' d' → C) : C := RpL.cons_el h fun _ _ e r rs => RpL.el1 rs fun _ e' r' => k _ _ (e' ▸ e) r r'
theorem RpL.el3 {d d' d'' : PV} (h : RpL prog w P vs [d, d', d'']) (k : ∀ v v' v'', vs = [v, v', v''] → Rp prog w P v d → Rp prog w P v' d' → Rp prog w P v'' d'' → C) : C := RpL.cons_el h fun _ _ e r rs => RpL.el2 rs fun _ _ e' r' r'' => k _ _ _ (e' ▸ e) r r' r''
theorem Rp.list_inv {l : List PV} (r : Rp prog w P v (.list l)) : ∃ a vs k, v = .ref a ∧ P a = some { cls := .type "list", data := .seq vs k } ∧ RpL prog w P vs.toList l := r.inv
theorem Rp.tuple_inv {l : List PV} (r : Rp prog w P v (.tuple l)) : ∃ a vs k, v = .ref a ∧ P a = some { cls := .type "tuple", data := .seq vs k } ∧ RpL prog w P vs.toList l := r.inv
end
theorem no1 {α : Type} {a : α} {C : Prop} (h : none = some a) : C := Option.noConfusion rfl (heq_of_eq h)
theorem no2 {α : Type} {a : α} {C : Prop} (h : some a = none) : C := no1 h.symm
theorem no3 {C : Prop} (h : false = true) : C := absurd h Bool.false_ne_true
theorem RpL.length {vs : List Value} {ds : List PV} (h : RpL prog w P vs ds) : vs.length = ds.length := by
  induction ds generalizing vs with
  | nil => rw [h.nil_inv]; rfl
  | cons d ds ih => refine h.cons_el fun v us e _ rs => ?_; rw [e, List.length_cons, List.length_cons, ih rs]
theorem RpL.get {vs : List Value} {ds : List PV} (h : RpL prog w P vs ds) {k : Nat} {d : PV} (hk : ds[k]? = some d) : ∃ v, vs[k]? = some v ∧ Rp prog w P v d := by
  induction ds generalizing vs k with
  | nil => exact no1 hk
  | cons a ds ih =>
    refine h.cons_el fun v us e r rs => ?_; subst e
    cases k with
    | zero => have hk := Option.some.inj hk; subst hk; exact ⟨v, rfl, r⟩
    | succ k => exact ih rs hk
theorem RpL.get' {vs : List Value} {ds : List PV} (h : RpL prog w P vs ds) {k : Nat} {v : Value} (hk : vs[k]? = some v) : ∃ d, ds[k]? = some d ∧ Rp prog w P v d := by
  induction ds generalizing vs k with
  | nil => rw [h.nil_inv] at hk; exact no1 hk
  | cons a ds ih =>
    refine h.cons_el fun u us e r rs => ?_; subst e
    cases k with
    | zero => have hk := Option.some.inj hk; subst hk; exact ⟨a, rfl, r⟩
    | succ k => exact ih rs hk
theorem RpL.append {vs us : List Value} {ds es : List PV} (h : RpL prog w P vs ds) (k : RpL prog w P us es) : RpL prog w P (vs ++ us) (ds ++ es) := by
  induction ds generalizing vs with
  | nil => rw [h.nil_inv]; exact k
  | cons d ds ih => refine h.cons_el fun v us' e r rs => ?_; rw [e]; exact .cons r (ih rs)
theorem RpL.one {v : Value} {d : PV} (h : Rp prog w P v d) : RpL prog w P [v] [d] := .cons h .nil
end
noncomputable def NsP (P : PMap) (a : Addr) (m : Str → Option Value) : Prop := ∃ o es ep, P a = some o ∧ o.data = .dict es ep ∧ StrKeys es ∧ ∀ name, nsFind es name = m name
theorem NsP.ns {P : PMap} {a : Addr} {m : Str → Option Value} {h : Heap} (x : NsP P a m) (s : Sub P h) : h.Ns a m := let ⟨o, es, ep, e, r⟩ := x; (in3x2 o es ep (s _ _ e) r)
structure GC where
  mg : Str → Option Value
  mb : Str → Option Value
  K : PMap
structure GOk (G : GC) : Prop where
  g : NsP G.K mainGlobals G.mg
  b : NsP G.K builtinsNs G.mb
  lim : ∃ mc, NsP G.K cStatics mc ∧ mc "sys.recursionlimit" = none
  mods : ∃ o, G.K sysModules = some o
noncomputable def VarAt (h : Heap) (env : Env) (x : Str) (v : Value) : Prop :=
  (env.kindOf x = some .local ∧ ∃ m, h.Ns env.locals m ∧ m x = some v) ∨
  ((env.kindOf x = some .cell ∨ (env.kindOf x = some .free ∧ (x == ("__classdict__" : Str)) = false)) ∧ ∃ c, env.cells.lookup x = some c ∧ h.IsCell c (some v))
theorem VarAt.keep {h h' : Heap} {env : Env} {x : Str} {v : Value} (y : VarAt h env x v) (k : Keep h h') : VarAt h' env x v :=
  y.imp (fun ⟨a, m, n, e⟩ => ⟨a, m, n.keeps k, e⟩) (fun ⟨a, c, e, n⟩ => ⟨a, c, e, n.keeps k⟩)
abbrev Sto := List (Str × Option PV)
abbrev Scp := List (Str × NameKind)
structure Room (n : Nat) (A : Around) : Prop where
  hd : A.handled = none
  dp : A.depth + n < recursionLimit
  un : A.units + 80 + 10 * n < cLine
structure Act (env : Env) (h : Heap) : Prop where
  kind : env.scope.kind = .function
  ns : ∃ m, h.Ns env.locals m
  cell : ∀ x c, (x, c) ∈ env.cells → ∃ v, h.IsCell c v
  apart : env.cells.Pairwise fun x y => x.2 ≠ y.2
  offL : ∀ x c, (x, c) ∈ env.cells → c ≠ env.locals
theorem Act.keep {env : Env} {h h' : Heap} (a : Act env h) (k : Keep h h') : Act env h' :=
  ⟨a.kind, let ⟨m, n⟩ := a.ns; ⟨m, n.keeps k⟩, fun x c hx => let ⟨v, n⟩ := a.cell x c hx; ⟨v, n.keeps k⟩, a.apart, a.offL⟩
noncomputable def Off (P : PMap) (env : Env) : Prop := P env.locals = none ∧ ∀ p ∈ env.cells, P p.2 = none
noncomputable def Grew (P P' : PMap) (h : Heap) : Prop := ∀ a o, P' a = some o → P a = some o ∨ h.get? a = none
theorem Grew.refl (P : PMap) (h : Heap) : Grew P P h := fun _ _ e => .inl e
theorem Grew.none {P P' : PMap} {h : Heap} (g : Grew P P' h) {a : Addr} {o : Obj} (e : h.get? a = some o) (n : P a = none) : P' a = none := by
  cases q : P' a with
  | none => rfl
  | some o' =>
    rcases g a o' q with x | x
    · rw [n] at x; cases x
    · rw [e] at x; cases x
theorem Grew.trans {P P' P'' : PMap} {h h' : Heap} (g : Grew P P' h) (g' : Grew P' P'' h') (k : Keep h h') : Grew P P'' h := fun a o e => by
  rcases g' a o e with x | x
  · exact g a o x
  · refine .inr ?_
    cases q : h.get? a with
    | none => rfl
    | some o' => rw [k a o' q] at x; cases x
theorem Off.grow {P P' : PMap} {env : Env} {h : Heap} (x : Off P env) (a : Act env h) (g : Grew P P' h) : Off P' env := by
  refine ⟨?_, fun p hp => ?_⟩
  · (refine el4x2 (a.ns) ?_; intro m o es ep ho _)
    exact g.none ho x.1
  · (refine el2x2 (a.cell p.1 p.2 hp) ?_; intro v o ho _)
    exact g.none ho (x.2 p hp)
noncomputable def Ends (prog : Program) (w : World) (P : PMap) (s : Shared) (v : Value) (pv : PV) (s' : Shared) : Prop :=
  ∃ h' tk P', s' = { s with heap := h', toks := tk } ∧ Keep s.heap h' ∧ PMap.le P P' ∧ Sub P' h' ∧ Grew P P' s.heap ∧ Rp prog w P' v pv
structure Cx (prog : Program) (w : World) (G : GC) (n : Nat) (A : Around) (P : PMap) (env : Env) (sc : Scp) (σ : Sto) (s : Shared) : Prop where
  ok : GOk G
  base : PMap.le G.K P
  sub : Sub P s.heap
  act : Act env s.heap
  off : Off P env
  glob : env.globals = mainGlobals
  blt : env.builtins = builtinsNs
  kl : ∀ x k, (x, k) ∈ sc → env.kindOf x = some k ∨ (k = .free ∧ env.kindOf x = some .cell)
  vars : ∀ x pv, (x, some pv) ∈ σ → (x == ("__debug__" : Str)) = false ∧ ∃ v, VarAt s.heap env x v ∧ Rp prog w P v pv
  room : Room n A
section
variable {prog : Program} {w : World} {G : GC} {n : Nat} {A : Around} {P P' : PMap} {env : Env} {sc : Scp} {σ : Sto} {s s' : Shared}
theorem Cx.next (C : Cx prog w G n A P env sc σ s) {h' : Heap} {tk : Nat} (k : Keep s.heap h') (l : PMap.le P P') (b : Sub P' h') (f : Grew P P' s.heap) : Cx prog w G n A P' env sc σ { s with heap := h', toks := tk } :=
  ⟨C.ok, C.base.trans l, b, C.act.keep k, C.off.grow C.act f, C.glob, C.blt, C.kl, fun x pv hx => let ⟨d, v, y, r⟩ := C.vars x pv hx; ⟨d, v, y.keep k, r.mono l⟩, C.room⟩
theorem Ends.now {v : Value} {pv : PV} (hs : Sub P s.heap) (r : Rp prog w P v pv) : Ends prog w P s v pv s := (in3x6 s.heap s.toks P rfl (Keep.refl _) (PMap.le_refl _) hs (fun _ _ e => .inl e) r)
theorem Ends.tok {v : Value} {pv : PV} (hs : Sub P s.heap) (r : Rp prog w P v pv) (tk : Nat) : Ends prog w P s v pv { s with toks := tk } := (in3x6 s.heap tk P rfl (Keep.refl _) (PMap.le_refl _) hs (fun _ _ e => .inl e) r)
theorem Ends.back {v : Value} {pv : PV} {h₁ : Heap} {tk₁ : Nat} {P₁ : PMap} (k : Keep s.heap h₁) (l : PMap.le P P₁) (f : Grew P P₁ s.heap)
    (e : Ends prog w P₁ { s with heap := h₁, toks := tk₁ } v pv s') : Ends prog w P s v pv s' := by
  (refine el3x6 e ?_; clear e; intro h' tk P' hZ; subst hZ; intro k' l' b' f' r)
  exact (in3x6 h' tk P' rfl (k.trans k') (l.trans l') b' (f.trans f' k) r)
end
structure Den (prog : Program) (w : World) (G : GC) (n : Nat) (sc : Scp) (σ : Sto) (e : Expr) (pv : PV) : Prop where
  run : ∀ (A : Around) (P : PMap) (env : Env) (s : Shared), Cx prog w G n A P env sc σ s → wpAny (model prog w) A (eval e env) (fun v s' => Ends prog w P s v pv s') (fun _ _ => False) s
structure DenT (prog : Program) (w : World) (G : GC) (n : Nat) (sc : Scp) (σ : Sto) (e : Expr) (b : Bool) : Prop where
  run : ∀ (A : Around) (P : PMap) (env : Env) (s : Shared), Cx prog w G n A P env sc σ s → wpAny (model prog w) A (isTrue e env (eval e env))
    (fun v s' => v = b ∧ Ends prog w P s .none .none s') (fun _ _ => False) s
section
variable {prog : Program} {w : World} {G : GC} {n : Nat} {sc : Scp} {σ : Sto}
theorem Den.go {e : Expr} {pv : PV} {A : Around} {P : PMap} {env : Env} {s : Shared} {Q : Value → Shared → Prop} (D : Den prog w G n sc σ e pv) (C : Cx prog w G n A P env sc σ s)
    (h : ∀ v h' tk P', Cx prog w G n A P' env sc σ { s with heap := h', toks := tk } → Keep s.heap h' → PMap.le P P' → Grew P P' s.heap → Rp prog w P' v pv → Q v { s with heap := h', toks := tk }) :
    wpAny (model prog w) A (eval e env) Q (fun _ _ => False) s := by
  refine wpAny_mono (D.run A P env s C) (fun v s' E => ?_) fun _ _ x => x
  (refine el3x6 E ?_; clear E; intro h' tk P' hZ; subst hZ; intro k l b f r)
  exact h v h' tk P' (C.next k l b f) k l f r
theorem DenT.go {e : Expr} {b : Bool} {A : Around} {P : PMap} {env : Env} {s : Shared} {Q : Bool → Shared → Prop} (D : DenT prog w G n sc σ e b) (C : Cx prog w G n A P env sc σ s)
    (h : ∀ h' tk P', Cx prog w G n A P' env sc σ { s with heap := h', toks := tk } → Keep s.heap h' → PMap.le P P' → Grew P P' s.heap → Q b { s with heap := h', toks := tk }) :
    wpAny (model prog w) A (isTrue e env (eval e env)) Q (fun _ _ => False) s := by
  refine wpAny_mono (D.run A P env s C) (fun v s' E => ?_) fun _ _ x => x
  (refine el0x2 E ?_; clear E; intro hZ; subst hZ; intro hZ; refine el3x6 hZ ?_; clear hZ; intro h' tk P' hZ; subst hZ; intro k l b f r)
  exact h h' tk P' (C.next k l b f) k l f
theorem den_var {x : Str} {p : Pos} {pv : PV} (h : (x, some pv) ∈ σ) : Den prog w G n sc σ (.Name x p) pv := .mk fun A P env s C => by
  (refine el0x2 (C.vars x pv h) ?_; intro hd hZ; refine el1x2 hZ ?_; clear hZ; intro v y r)
  refine wpAny_Name ?_ hd
  rcases y with ⟨hk, m, hn, hv⟩ | ⟨hk | ⟨hk, hc⟩, c, hl, hv⟩
  · exact wpAny_loadName_local C.act.kind hk hn hv (Ends.now C.sub r)
  · exact wpAny_loadName_cell C.act.kind hk hl hv (Ends.now C.sub r)
  · exact wpAny_loadName_free C.act.kind hk hl hv (Ends.now C.sub r) hc
theorem den_int {i : Int} {k : Nat} {p : Pos} : Den prog w G n sc σ (.Constant (.int i) k p) (.int i) := .mk fun _ _ _ s C => wpAny_Constant_int (Ends.tok C.sub (.int i _) _)
theorem den_str {x : Str} {k : Nat} {p : Pos} : Den prog w G n sc σ (.Constant (.str x) k p) (.str x) := .mk fun _ _ _ s C => wpAny_Constant_str (Ends.tok C.sub (.str x _) _)
theorem den_bool {b : Bool} {k : Nat} {p : Pos} : Den prog w G n sc σ (.Constant (.bool b) k p) (.bool b) := .mk fun _ _ _ s C => wpAny_Constant_bool (Ends.now C.sub (.bool b))
theorem den_bin {l r : Expr} {op : Operator} {p : Pos} {a b c : PV} (dl : Den prog w G n sc σ l a) (dr : Den prog w G n sc σ r b)
    (h : ∀ (A : Around) (P : PMap) (env : Env) (s : Shared) (u v : Value), Cx prog w G n A P env sc σ s → Rp prog w P u a → Rp prog w P v b → wpAny (model prog w) A (binaryOp op u v) (fun v s' => Ends prog w P s v c s') (fun _ _ => False) s) :
    Den prog w G n sc σ (.BinOp l op r p) c := .mk fun A P env s C => by
  refine wpAny_BinOp (dl.go C fun u h₁ t₁ P₁ C₁ k₁ l₁ f₁ r₁ => dr.go C₁ fun v h₂ t₂ P₂ C₂ k₂ l₂ f₂ r₂ => ?_)
  exact wpAny_mono (h A P₂ env _ u v C₂ (r₁.mono l₂) r₂) (fun _ _ e => Ends.back k₁ l₁ f₁ (Ends.back (s := { s with heap := h₁, toks := t₁ }) k₂ l₂ f₂ e)) fun _ _ x => x
theorem den_add {l r : Expr} {p : Pos} {a b : Int} (dl : Den prog w G n sc σ l (.int a)) (dr : Den prog w G n sc σ r (.int b)) : Den prog w G n sc σ (.BinOp l .Add r p) (.int (a + b)) :=
  den_bin dl dr fun A P env s u v C ru rv => by
    (refine Rp.int_el ru ?_; clear ru; intro _ h; subst h); (refine Rp.int_el rv ?_; clear rv; intro _ h; subst h); exact PySem.P.add_int (Ends.tok C.sub (.int _ _) _)
theorem den_sub {l r : Expr} {p : Pos} {a b : Int} (dl : Den prog w G n sc σ l (.int a)) (dr : Den prog w G n sc σ r (.int b)) : Den prog w G n sc σ (.BinOp l .Sub r p) (.int (a - b)) :=
  den_bin dl dr fun A P env s u v C ru rv => by
    (refine Rp.int_el ru ?_; clear ru; intro _ h; subst h); (refine Rp.int_el rv ?_; clear rv; intro _ h; subst h); exact PySem.P.sub_int (Ends.tok C.sub (.int _ _) _)
theorem den_mod {l r : Expr} {p : Pos} {a b : Int} (dl : Den prog w G n sc σ l (.int a)) (dr : Den prog w G n sc σ r (.int b)) (hb : b ≠ 0) : Den prog w G n sc σ (.BinOp l .Mod r p) (.int (a.fmod b)) :=
  den_bin dl dr fun A P env s u v C ru rv => by
    (refine Rp.int_el ru ?_; clear ru; intro _ h; subst h); (refine Rp.int_el rv ?_; clear rv; intro _ h; subst h); exact mod_int' hb (Ends.tok C.sub (.int _ _) _)
end
noncomputable def tupMakers : List String := ["enumerate", "zip", "dict_itemiterator", "dict_reverseitemiterator", "odict_iterator", "itertools.zip_longest", "itertools.pairwise"]
noncomputable def plainIter (o : Obj) : Prop := ∃ n, o.cls = .type n ∧ tupMakers.contains n = false
structure Itr (prog : Program) (w : World) (P : PMap) (I : Addr) (items : List PV) (St : Nat → Heap → Prop) : Prop where
  frame : ∀ i h h', St i h → (∀ o, h.get? I = some o → h'.get? I = some o) → Sub P h' → St i h'
  item : ∀ (A : Around) (i : Nat) (d : PV) (s : Shared) (Q : Option Value → Shared → Prop) (E : Value → Shared → Prop), A.handled = none → items[i]? = some d → St i s.heap →
    (∀ v h' tk, Rp prog w P v d → St (i + 1) h' → (∀ b o, b ≠ I → s.heap.get? b = some o → h'.get? b = some o) → Q (some v) { s with heap := h', toks := tk }) → wpAny (model prog w) A (pyNext (.ref I)) Q E s
  done : ∀ (A : Around) (s : Shared) (Q : Option Value → Shared → Prop) (E : Value → Shared → Prop), A.handled = none → St items.length s.heap →
    (∀ h' tk, (∀ b o, b ≠ I → s.heap.get? b = some o → h'.get? b = some o) → Q none { s with heap := h', toks := tk }) → wpAny (model prog w) A (pyNext (.ref I)) Q E s
  self : ∀ (A : Around) (i : Nat) (s : Shared) (Q : Value → Shared → Prop) (E : Value → Shared → Prop), A.handled = none → St i s.heap → Q (.ref I) s → wpAny (model prog w) A (pyIter (.ref I)) Q E s
  cls : ∀ i h, St i h → ∃ o, h.get? I = some o ∧ plainIter o
noncomputable def Iters (prog : Program) (w : World) (v : Value) (P : PMap) (items : List PV) : Prop :=
  ∀ (A : Around) (s : Shared) (Q : Value → Shared → Prop) (E : Value → Shared → Prop), A.handled = none → Sub P s.heap →
    (∀ o St, Itr prog w P s.heap.objs.size items St → St 0 (s.heap.push o) → Q (.ref s.heap.objs.size) { s with heap := s.heap.push o }) → wpAny (model prog w) A (pyIter v) Q E s
section
variable {prog : Program} {w : World} {P : PMap}
theorem Itr.of {I : Addr} {fp : List Addr} {items : List PV} {Pr : Nat → Value → Prop} {St : Nat → Heap → Prop}
    (W : ∀ A : Around, A.handled = none → Walks prog w A I fp [I] items.length Pr St) (hf : ∀ b ∈ fp, b = I ∨ (P b).isSome = true)
    (hP : ∀ i v d, Pr i v → items[i]? = some d → Rp prog w P v d) (hc : ∀ i h, St i h → ∃ o, h.get? I = some o ∧ plainIter o) (hsub : ∀ i h, St i h → ∀ b ∈ fp, b ≠ I → ∀ o, h.get? b = some o → P b = some o) :
    Itr prog w P I items St where
  frame := fun i h h' st k b => (W { handled := none } rfl).frame i h h' st fun a ha o e => by
    by_cases q : a = I
    · subst q; exact k o e
    · exact b a o (hsub i h st a ha q o e)
  item := fun A i d s Q E hh hi st hQ => by
    refine (W A hh).item i s Q E (by rcases List.getElem?_eq_some_iff.mp hi with ⟨h, _⟩; exact h) st fun v h' tk pv st' k => hQ v h' tk (hP i v d pv hi) st' fun b o hb e => k b o (by simpa using hb) e
  done := fun A s Q E hh st hQ => (W A hh).done s Q E st fun h' tk k => hQ h' tk fun b o hb e => k b o (by simpa using hb) e
  self := fun A i s Q E hh st hQ => (W A hh).self i s Q E st hQ
  cls := hc
theorem iters_list {v : Value} {l : List PV} (r : Rp prog w P v (.list l)) : Iters prog w v P l := fun A s Q E hh hs hQ => by
  (refine el3x3 (Rp.list_inv r) ?_; clear r; intro a vs k hZ hp hl; subst hZ)
  let o : Obj := { cls := .type "list", data := .seq vs k }
  have hL : s.heap.IsList a vs := (in1x3 o (hs a o hp) rfl ⟨ k, rfl⟩)
  have hlt : a < s.heap.objs.size := Heap.lt_size (hs a o hp)
  have hne : a ≠ s.heap.objs.size := Nat.ne_of_lt hlt
  have hlen : vs.size = l.length := by have := hl.length; simpa using this
  refine wpAny_pyIter_list hL (hQ _ (fun i h => (h.IsListIter s.heap.objs.size a i ∧ h.IsList a vs) ∧ h.get? a = some o) ?_ ⟨⟨(in1x3 _ (Heap.get?_push_size _ rfl) rfl rfl), hL.push _⟩, Heap.get?_push_of_some _ (hs a o hp)⟩)
  have W0 := fun (A : Around) (hh : A.handled = none) => Walks.list (prog := prog) (w := w) (A := A) hh s.heap.objs.size a hne vs
  refine Itr.of (fp := [s.heap.objs.size, a]) (Pr := fun i v => vs[i]? = some v) (fun A hh => hlen ▸ ⟨(W0 A hh).sub, fun i h h' st k => ⟨(W0 A hh).frame i h h' st.1 k, k a (by simp) o st.2⟩,
    fun i s' Q E hi st hQ => (W0 A hh).item i s' Q E hi st.1 fun v h' tk pv st' k => hQ v h' tk pv ⟨st', k a o (by simpa using hne) st.2⟩ k, fun s' Q E st hQ => (W0 A hh).done s' Q E st.1 hQ, fun i s' Q E st hQ => (W0 A hh).self i s' Q E st.1 hQ⟩) ?_ ?_ ?_ ?_
  · intro b hb; simp at hb; rcases hb with rfl | rfl
    · exact .inl rfl
    · exact .inr (by rw [hp]; rfl)
  · intro i v d e1 e2
    (refine el1x2 (hl.get e2) ?_; intro v' e3 r)
    have : some v = some v' := by rw [← e1, ← e3]; simp
    (have h := Option.some.inj this; clear this; subst h); exact r
  · rintro i h ⟨⟨⟨o', ho', hc', _⟩, _⟩, _⟩; exact (in1x2 o' ho' ⟨ _, hc', by decide⟩)
  · intro i h st b hb hbI o' e
    simp at hb
    rcases hb with rfl | rfl
    · exact absurd rfl hbI
    · rw [st.2] at e; (have h := Option.some.inj e; clear e; subst h); exact hp
noncomputable def rngItems (a b c : Int) : List PV := (List.range (Builtin.Range.rangeSize a b c).toNat).map fun i => .int (a + (i : Nat) * c)
theorem iters_rng {v : Value} {a b c : Int} (r : Rp prog w P v (.rng a b c)) (hsm : Builtin.Range.small a b c = true) (h0 : 0 ≤ Builtin.Range.rangeSize a b c) : Iters prog w v P (rngItems a b c) := fun A s Q E hh hs hQ => by
  (refine el4x2 (Rp.inv r) ?_; clear r; intro r t u v hZ hp; subst hZ)
  have hR : IsRange s.heap r a b c t u v := hs _ _ hp
  have hlen : (rngItems a b c).length = (Builtin.Range.rangeSize a b c).toNat := by simp [rngItems]
  refine wpAny_pyIter_range hR hsm (hQ _ _ (Itr.of (fp := [s.heap.objs.size]) (fun A hh => Walks.range (prog := prog) (w := w) (A := A) hh s.heap.objs.size a c (rngItems a b c).length) ?_ ?_ ?_ ?_) ?_)
  · intro b hb; simp at hb; exact .inl hb
  · rintro i v d ⟨t, rfl⟩ e2
    simp only [rngItems, List.getElem?_map, Option.map_eq_some_iff] at e2
    (refine el1x2 e2 ?_; clear e2; intro j hj hZ; subst hZ)
    have : j = i := by
      rw [List.getElem?_range] at hj
      · exact (Option.some.inj hj).symm
      · rcases List.getElem?_eq_some_iff.mp hj with ⟨h, _⟩; simpa using h
    subst this
    exact .int _ _
  · intro i h st; exact (in1x2 _ st ⟨ _, rfl, by decide⟩)
  · intro i h st b hb hbI o e; simp at hb; exact absurd hb hbI
  · show IsRangeIter _ _ _ _ _
    have e1 : a + ((0 : Nat) : Int) * c = a := by simp
    have e2 : ((rngItems a b c).length : Int) - ((0 : Nat) : Int) = Builtin.Range.rangeSize a b c := by rw [hlen]; simp; lia
    rw [e1, e2]; exact Heap.get?_push_size _ rfl
theorem iters_str {v : Value} {x : Str} (r : Rp prog w P v (.str x)) : Iters prog w v P (x.cps.toList.map fun c => .str ⟨#[c]⟩) := fun A s Q E hh hs hQ => by
  (refine Rp.str_el r ?_; clear r; intro t hZ; subst hZ)
  have go : ∀ (o : Obj) (ty : String) (St : Nat → Heap → Prop), (St = fun i h => h.IsStrIter s.heap.objs.size ty x t i) → tupMakers.contains ty = false → (∀ A' : Around, A'.handled = none → Walks prog w A' s.heap.objs.size [s.heap.objs.size] [s.heap.objs.size] x.cps.size (SignAt x) St) → St 0 (s.heap.push o) →
      Q (.ref s.heap.objs.size) { s with heap := s.heap.push o } := by
    rintro o ty St hSt hty W h0
    have hl : (x.cps.toList.map fun c => PV.str ⟨#[c]⟩).length = x.cps.size := by simp
    refine hQ o St (Itr.of (fp := [s.heap.objs.size]) (Pr := SignAt x) (fun A hh => hl.symm ▸ W A hh) ?_ ?_ ?_ ?_) h0
    · intro b hb; simp at hb; exact .inl hb
    · rintro i v d ⟨c, u, hc, rfl⟩ e2
      simp only [List.getElem?_map, Option.map_eq_some_iff] at e2
      (refine el1x2 e2 ?_; clear e2; intro c' hc' hZ; subst hZ)
      have : some c = some c' := by rw [← hc, ← hc']; simp
      (have h := Option.some.inj this; clear this; subst h); exact .str _ _
    · intro i h st; rw [hSt] at st; (refine el1x3 st ?_; clear st; intro o' ho' hcl _); exact (in1x2 o' ho' ⟨ _, hcl, hty⟩)
    · intro i h st b hb hbI o e; simp at hb; exact absurd hb hbI
  cases ha : x.cps.all (· < 128)
  · exact wpAny_pyIter_wide ha (go _ _ _ rfl (by decide) (fun A' hA => Walks.strWide hA _ x t) (in1x3 _ (Heap.get?_push_size _ rfl) rfl rfl))
  · exact wpAny_pyIter_ascii ha (go _ _ _ rfl (by decide) (fun A' hA => Walks.strAscii hA _ x t) (in1x3 _ (Heap.get?_push_size _ rfl) rfl rfl))
end
noncomputable def Tch (env : Env) (xs : List Str) (a : Addr) : Prop := a = env.locals ∨ ∃ x ∈ xs, env.cells.lookup x = some a
noncomputable def KeepT (env : Env) (xs : List Str) (h h' : Heap) : Prop := ∀ b o, h.get? b = some o → ∃ o', h'.get? b = some o' ∧ (¬ Tch env xs b → o' = o)
theorem KeepT.of {env : Env} {xs : List Str} {h h' : Heap} (k : Keep h h') : KeepT env xs h h' := fun b o e => (in1x2 o (k b o e) (fun _ => rfl))
theorem KeepT.get {env : Env} {xs : List Str} {h h' : Heap} (k : KeepT env xs h h') {b : Addr} {o : Obj} (e : h.get? b = some o) (n : ¬ Tch env xs b) : h'.get? b = some o := by
  (refine el1x2 (k b o e) ?_; intro o' e' q)
  rw [e', q n]
theorem KeepT.trans {env : Env} {xs : List Str} {h h' h'' : Heap} (x : KeepT env xs h h') (y : KeepT env xs h' h'') : KeepT env xs h h'' := fun b o e => by
  (refine el1x2 (x b o e) ?_; intro o' e' q)
  (refine el1x2 (y b o' e') ?_; intro o'' e'' q')
  exact (in1x2 o'' e'' (fun n => (q' n).trans (q n)))
theorem KeepT.mono {env : Env} {xs ys : List Str} {h h' : Heap} (x : KeepT env xs h h') (s : ∀ z ∈ xs, z ∈ ys) : KeepT env ys h h' :=
  fun b o e => let ⟨o', e', q⟩ := x b o e; (in1x2 o' e' (fun n => q fun t => n (t.imp id fun ⟨z, hz, e⟩ => (in1x2 z (s z hz) e))))
noncomputable def KeepX (W : List Addr) (h h' : Heap) : Prop := ∀ b o, h.get? b = some o → ∃ o', h'.get? b = some o' ∧ (b ∉ W → o' = o)
theorem KeepX.of {W : List Addr} {h h' : Heap} (k : Keep h h') : KeepX W h h' := fun b o e => (in1x2 o (k b o e) (fun _ => rfl))
theorem KeepX.keep {h h' : Heap} (k : KeepX [] h h') : Keep h h' := fun b o e => by
  (refine el1x2 (k b o e) ?_; intro o' e' q)
  rw [e', q (by simp)]
theorem KeepX.get {W : List Addr} {h h' : Heap} (k : KeepX W h h') {b : Addr} {o : Obj} (e : h.get? b = some o) (n : b ∉ W) : h'.get? b = some o := by
  (refine el1x2 (k b o e) ?_; intro o' e' q)
  rw [e', q n]
theorem KeepX.trans {W : List Addr} {h h' h'' : Heap} (x : KeepX W h h') (y : KeepX W h' h'') : KeepX W h h'' := fun b o e => by
  (refine el1x2 (x b o e) ?_; intro o' e' q)
  (refine el1x2 (y b o' e') ?_; intro o'' e'' q')
  exact (in1x2 o'' e'' (fun n => (q' n).trans (q n)))
noncomputable def Own (env : Env) (x : Str) : Prop := env.kindOf x = some .local ∨ (env.kindOf x = some .cell ∧ ∃ c, env.cells.lookup x = some c)
theorem store_ok {M : Model} {A : Around} {E : Value → Shared → Prop} {env : Env} {s : Shared} {x : Str} {v : Value} {Q : Unit → Shared → Prop} (a : Act env s.heap) (hx : Own env x)
    (h : ∀ h' tk, Act env h' → VarAt h' env x v → (∀ y u, y ≠ x → VarAt s.heap env y u → VarAt h' env y u) → KeepT env [x] s.heap h' → (∃ loc, Tch env [x] loc ∧ Heap.SameBut loc s.heap h') → Q () { s with heap := h', toks := tk }) :
    wpAny M A (storeName env x v) Q E s := by
  (refine el1x1 (a.ns) ?_; intro m hm)
  rcases hx with hk | ⟨hk, c, hc⟩
  · refine wpAny_storeName_local hk hm (fun h' hn hs => h h' _ ⟨a.kind, ⟨_, hn⟩, fun y c hy => ?_, a.apart, a.offL⟩ (.inl ⟨hk, _, hn, by simp⟩) (fun y u hyx hv => ?_) (fun b o e => if q : b = env.locals then let ⟨o', _, _, e', _⟩ := hn; (in1x2 o' (q ▸ e') (fun n => absurd (.inl q) n)) else (in1x2 o (hs.extBut b o q e) (fun _ => rfl))) (in1x2 _ (.inl rfl) hs))
      (by rw [a.kind]; rfl)
    · (refine el1x1 (a.cell y c hy) ?_; intro v' hv')
      exact ⟨v', hv'.sameBut hs (a.offL y c hy)⟩
    · rcases hv with ⟨hk', m', hm', hu⟩ | ⟨hk', c', hc', hu⟩
      · refine .inl ⟨hk', _, hn, ?_⟩
        have : m y = m' y := by
          (refine el3x4 hm ?_; clear hm; intro o es ep e1 e2 _ e3)
          (refine el3x4 hm' ?_; clear hm'; intro o' es' ep' f1 f2 _ f3)
          rw [e1] at f1; (have h := Option.some.inj f1; clear f1; subst h)
          rw [e2] at f2; cases f2
          rw [← e3 y, ← f3 y]
        simp only [hyx, if_false, this, hu]
      · exact .inr ⟨hk', c', hc', hu.sameBut hs (a.offL y c' (mem_of_lookup hc'))⟩
  · (refine el1x1 (a.cell x c (mem_of_lookup hc)) ?_; intro v₀ hv₀)
    have hLc : env.locals ≠ c := fun e => a.offL x c (mem_of_lookup hc) e.symm
    refine wpAny_storeName_cell a.kind hk hc hv₀ fun h' hv hs => ?_
    have := h h' s.toks ⟨a.kind, ⟨m, hm.sameBut hs hLc⟩, fun y c' hy => ?_, a.apart, a.offL⟩ (.inr ⟨.inl hk, c, hc, hv⟩) (fun y u hyx hw => ?_) (fun b o e => if q : b = c then let ⟨o', e', _⟩ := hv; (in1x2 o' (q ▸ e') (fun n => absurd (.inr (in1x2 x (by simp) (q ▸ hc))) n)) else (in1x2 o (hs.extBut b o q e) (fun _ => rfl))) (in1x2 c (.inr (in1x2 x (by simp) hc)) hs)
    · exact this
    · by_cases q : c' = c
      · subst q; exact ⟨_, hv⟩
      · (refine el1x1 (a.cell y c' hy) ?_; intro v' hv')
        exact ⟨v', hv'.sameBut hs q⟩
    · rcases hw with ⟨hk', m', hm', hu⟩ | ⟨hk', c', hc', hu⟩
      · exact .inl ⟨hk', m', hm'.sameBut hs hLc, hu⟩
      · refine .inr ⟨hk', c', hc', hu.sameBut hs fun q => hyx ?_⟩
        subst q
        exact name_of_addr a.apart (mem_of_lookup hc') (mem_of_lookup hc)
noncomputable def Turned (x : Str) (pv : PV) (σ σ' : Sto) : Prop := ∀ y q, (y, some q) ∈ σ' → (y = x ∧ q = pv) ∨ (y ≠ x ∧ (y, some q) ∈ σ)
section
variable {prog : Program} {w : World} {G : GC} {n : Nat} {A : Around} {P P' : PMap} {env : Env} {sc : Scp} {σ σ' : Sto} {s s' : Shared}
theorem Sub.off {P : PMap} {h h' : Heap} {env : Env} {xs : List Str} (b : Sub P h) (o : Off P env) (k : KeepT env xs h h') : Sub P h' := fun a ob e => k.get (b a ob e) fun t => by
  rcases t with q | ⟨x, _, hc⟩
  · rw [q, o.1] at e; exact no1 e
  · have := o.2 (x, a) (mem_of_lookup hc); rw [this] at e; exact no1 e
theorem Cx.store {x : Str} {v : Value} {pv : PV} {Q : Unit → Shared → Prop} {E : Value → Shared → Prop} (C : Cx prog w G n A P env sc σ s) (hx : Own env x) (hd : (x == ("__debug__" : Str)) = false) (T : Turned x pv σ σ') (r : Rp prog w P v pv)
    (h : ∀ h' tk, Cx prog w G n A P env sc σ' { s with heap := h', toks := tk } → KeepT env [x] s.heap h' → (∃ loc, Tch env [x] loc ∧ Heap.SameBut loc s.heap h') → Q () { s with heap := h', toks := tk }) :
    wpAny (model prog w) A (storeName env x v) Q E s := by
  refine store_ok C.act hx fun h' tk a y z k sb => h h' tk ⟨C.ok, C.base, C.sub.off C.off k, a, C.off, C.glob, C.blt, C.kl, fun u q hu => ?_, C.room⟩ k sb
  rcases T u q hu with ⟨rfl, rfl⟩ | ⟨hne, hu⟩
  · exact ⟨hd, v, y, r⟩
  · (refine el0x2 (C.vars u q hu) ?_; intro d hZ; refine el1x2 hZ ?_; clear hZ; intro v' y' r')
    exact ⟨d, v', z u v' hne y', r'⟩
theorem Cx.sub' (C : Cx prog w G n A P env sc σ s) (h : ∀ p ∈ σ', p ∈ σ) : Cx prog w G n A P env sc σ' s := ⟨C.ok, C.base, C.sub, C.act, C.off, C.glob, C.blt, C.kl, fun x pv hx => C.vars x pv (h _ hx), C.room⟩
structure Asg (prog : Program) (w : World) (G : GC) (n : Nat) (sc : Scp) (xs : List Str) (target : Expr) (σ : Sto) (d : PV) (σ' : Sto) : Prop where
  run : ∀ (A : Around) (P : PMap) (env : Env) (s : Shared) (v : Value) (Q : Unit → Shared → Prop), Cx prog w G n A P env sc σ s → (∀ x ∈ xs, Own env x) → Rp prog w P v d →
    (∀ h' tk P', Cx prog w G n A P' env sc σ' { s with heap := h', toks := tk } → KeepT env xs s.heap h' → PMap.le P P' → Grew P P' s.heap → Q () { s with heap := h', toks := tk }) →
    wpAny (model prog w) A (assign target env v) Q (fun _ _ => False) s
theorem asg_name {x : Str} {p : Pos} {d : PV} (hd : (x == ("__debug__" : Str)) = false) (T : Turned x d σ σ') : Asg prog w G n sc [x] (.Name x p) σ d σ' := .mk fun A P env s v Q C ho r h =>
  wpAny_assign_Name (C.store (ho x (by simp)) hd T r fun h' tk C' k _ => h h' tk P C' k (PMap.le_refl _) (Grew.refl _ _))
theorem asg_nameX {xs : List Str} {x : Str} {p : Pos} {d : PV} (hx : x ∈ xs) (hd : (x == ("__debug__" : Str)) = false) (T : Turned x d σ σ') : Asg prog w G n sc xs (.Name x p) σ d σ' := .mk fun A P env s v Q C ho r h =>
  wpAny_assign_Name (C.store (ho x hx) hd T r fun h' tk C' k _ => h h' tk P C' (k.mono fun _ hz => List.mem_singleton.mp hz ▸ hx) (PMap.le_refl _) (Grew.refl _ _))
end
theorem cellsFrom_append : ∀ (names : List (Str × NameKind)) (n : Nat) (acc : List (Str × Addr)), cellsFrom n names acc = cellsFrom n names [] ++ acc
  | [], _, _ => rfl
  | (y, k) :: r, n, acc => by
    unfold cellsFrom
    split
    · rw [cellsFrom_append r (n + 1) ((y, n) :: acc), cellsFrom_append r (n + 1) [(y, n)]]; simp
    · exact cellsFrom_append r n acc
theorem cellsFrom_mem : ∀ (names : List (Str × NameKind)) (n : Nat) (x : Str) (c : Addr), (x, c) ∈ cellsFrom n names [] → (x, NameKind.cell) ∈ names ∧ n ≤ c
  | [], _, _, _, h => by cases h
  | (y, k) :: r, n, x, c, h => by
    unfold cellsFrom at h
    split at h
    · rename_i hk
      rw [cellsFrom_append] at h
      rcases List.mem_append.mp h with h | h
      · (refine el0x2 (cellsFrom_mem r (n + 1) x c h) ?_; intro h1 h2)
        exact ⟨List.mem_cons_of_mem _ h1, by exact lin [_, _] [.L 1 (.A (.V 0) (.N 1)) (.V 1)] (.L 1 (.V 0) (.V 1)) rfl h2⟩
      · simp at h; (refine el0x2 h ?_; clear h; intro hZ; subst hZ; intro hZ; subst hZ)
        have : k = .cell := by simpa using hk
        subst this
        exact ⟨by simp, Nat.le_refl _⟩
    · (refine el0x2 (cellsFrom_mem r n x c h) ?_; intro h1 h2)
      exact ⟨List.mem_cons_of_mem _ h1, h2⟩
noncomputable def cloF (env : Env) : List (Str × NameKind) → List (Str × Addr) → List (Str × Addr)
  | [], acc => acc
  | (y, k) :: r, acc => if k == .free then cloF env r ((y, (env.cells.lookup y).getD 0) :: acc) else cloF env r acc
theorem forIn_clo {env : Env} (f : Str × NameKind → List (Str × Addr) → Sem (ForInStep (List (Str × Addr))))
    (hf : ∀ name kind cs, f (name, kind) cs = if kind == .free then (do let a ← cellOf env name; pure (.yield ((name, a) :: cs))) else pure (.yield cs)) :
    ∀ (names : List (Str × NameKind)) (acc : List (Str × Addr)), (∀ x, (x, NameKind.free) ∈ names → ∃ c, env.cells.lookup x = some c) → forIn names acc f = (pure (cloF env names acc) : Sem _)
  | [], acc, _ => by rw [List.forIn_nil]; rfl
  | (y, k) :: r, acc, h => by
    have hr : ∀ x, (x, NameKind.free) ∈ r → ∃ c, env.cells.lookup x = some c := fun x hx => h x (List.mem_cons_of_mem _ hx)
    rw [List.forIn_cons, hf]
    unfold cloF
    cases hk : k == NameKind.free with
    | true =>
      have : k = .free := by simpa using hk
      subst this
      (refine el1x1 (h y (by simp)) ?_; intro c hc)
      have e : cellOf env y = pure c := by unfold cellOf; rw [hc]
      rw [if_pos rfl, if_pos rfl, e, hc]
      show (forIn r ((y, c) :: acc) f : Sem _) = _
      exact forIn_clo f hf r _ hr
    | false =>
      rw [if_neg Bool.false_ne_true, if_neg Bool.false_ne_true]
      show (forIn r acc f : Sem _) = _
      exact forIn_clo f hf r _ hr
theorem closureFor_eq {scope : Scope} {env : Env} (h : ∀ x, (x, NameKind.free) ∈ scope.names → ∃ c, env.cells.lookup x = some c) : closureFor scope env = pure (cloF env scope.names []) := by
  simp only [closureFor]
  rw [forIn_clo (env := env) _ (fun name kind cs => by
    cases hk : kind == NameKind.free
    · simp
    · simp) scope.names [] h]
  rfl
theorem cloF_mem {env : Env} : ∀ (names : List (Str × NameKind)) (acc : List (Str × Addr)) (x : Str) (c : Addr), (x, c) ∈ cloF env names acc → (x, c) ∈ acc ∨ ((x, NameKind.free) ∈ names ∧ c = (env.cells.lookup x).getD 0)
  | [], _, _, _, h => .inl h
  | (y, k) :: r, acc, x, c, h => by
    unfold cloF at h
    split at h
    · rename_i hk
      have : k = .free := by simpa using hk
      subst this
      rcases cloF_mem r _ x c h with h | ⟨h, e⟩
      · rcases List.mem_cons.mp h with h | h
        · cases h; exact .inr ⟨by simp, rfl⟩
        · exact .inl h
      · exact .inr ⟨List.mem_cons_of_mem _ h, e⟩
    · rcases cloF_mem r _ x c h with h | ⟨h, e⟩
      · exact .inl h
      · exact .inr ⟨List.mem_cons_of_mem _ h, e⟩
theorem cloF_has {env : Env} : ∀ (names : List (Str × NameKind)) (acc : List (Str × Addr)) (x : Str), ((x, NameKind.free) ∈ names ∨ (∃ c, (x, c) ∈ acc)) → ∃ c, (x, c) ∈ cloF env names acc
  | [], _, x, h => h.elim (fun h => by cases h) id
  | (y, k) :: r, acc, x, h => by
    unfold cloF
    split
    · rename_i hk
      refine cloF_has r _ x ?_
      rcases h with h | ⟨c, h⟩
      · rcases List.mem_cons.mp h with h | h
        · cases h; exact .inr ⟨_, List.mem_cons_self⟩
        · exact .inl h
      · exact .inr ⟨c, List.mem_cons_of_mem _ h⟩
    · rename_i hk
      refine cloF_has r _ x ?_
      rcases h with h | h
      · rcases List.mem_cons.mp h with h | h
        · cases h; exact absurd (beq_self_eq_true _) hk
        · exact .inl h
      · exact .inr h
theorem lookup_of_has {α : Type} : ∀ {l : List (Str × α)} {x : Str} {c : α}, (x, c) ∈ l → ∃ c', l.lookup x = some c'
  | (k, v) :: r, x, c, h => by
    rw [List.lookup_cons]
    cases hb : x == k with
    | true => exact ⟨v, rfl⟩
    | false =>
      rcases List.mem_cons.mp h with h | h
      · cases h; simp at hb
      · exact lookup_of_has h
theorem cloF_names {env : Env} : ∀ (names : List (Str × NameKind)) (acc : List (Str × Addr)), (names.map (·.1)).Nodup → (∀ x c, (x, c) ∈ acc → x ∉ names.map (·.1)) → (acc.map (·.1)).Nodup → ((cloF env names acc).map (·.1)).Nodup
  | [], _, _, _, h => h
  | (y, k) :: r, acc, hn, ha, h => by
    rw [List.map_cons, List.nodup_cons] at hn
    unfold cloF
    split
    · refine cloF_names r _ hn.2 (fun x c hx => ?_) ?_
      · rcases List.mem_cons.mp hx with e | hx
        · cases e; exact hn.1
        · intro q; exact ha x c hx (List.mem_cons_of_mem _ q)
      · rw [List.map_cons, List.nodup_cons]
        refine ⟨fun q => ?_, h⟩
        (refine el1x2 (List.mem_map.mp q) ?_; intro p hp e)
        exact ha p.1 p.2 hp (by rw [e]; simp)
    · exact cloF_names r _ hn.2 (fun x c hx q => ha x c hx (List.mem_cons_of_mem _ q)) h
theorem lookup_nodup {α : Type} : ∀ {l : List (Str × α)} {x : Str} {c : α}, (l.map (·.1)).Nodup → (x, c) ∈ l → l.lookup x = some c
  | (k, v) :: r, x, c, hn, h => by
    rw [List.map_cons, List.nodup_cons] at hn
    rw [List.lookup_cons]
    rcases List.mem_cons.mp h with h' | h'
    · cases h'; simp
    · have hm : x ∈ r.map (·.1) := List.mem_map.mpr (in1x2 ((x, c)) h' rfl)
      have : (x == k) = false := by
        rw [beq_eq_false_iff_ne]
        intro e; rw [e] at hm
        exact hn.1 hm
      rw [this]; exact lookup_nodup hn.2 h'
noncomputable def blockEnv (scope : Scope) (env : Env) (C : Addr) (cl : List (Str × Addr)) : Env :=
  { scope := relabel scope env, locals := C, globals := env.globals, cells := cellsFrom (C + 1) scope.names cl, qual := env.qual, func := none, code := env.code, frame := env.frame, builtins := env.builtins }
theorem wpAny_newBlockEnv {M : Model} {A : Around} {E : Value → Shared → Prop} {s : Shared} {scope : Scope} {env : Env} {cl : List (Str × Addr)} {Q : Env → Shared → Prop}
    (hQ : ∀ cenv, { cenv with scope := relabel scope env } = blockEnv scope env s.heap.objs.size cl → cenv.locals = s.heap.objs.size →
      Q cenv { s with heap := pushCells (s.heap.push { cls := .type "dict", data := .dict #[] }) scope.names }) :
    wpAny M A (newFunctionEnv scope env.globals cl [] env.qual none .none (some env)) Q E s := by
  simp only [newFunctionEnv, Option.isSome_some, if_true]
  refine wpAny_bind (wpAny_alloc ?_)
  refine wpAny_bind (wpAny_layCells _ (fun name kind cells => by cases hkc : kind == NameKind.cell <;> simp [hkc]) _ _ _ _ ?_)
  rw [show ({ s with heap := s.heap.push { cls := .type "dict", data := .dict #[] } } : Shared).heap.objs.size = s.heap.objs.size + 1 from Heap.size_push ..]
  refine wpAny_bind ?_
  rw [List.forIn_nil]
  exact wpAny_pure (wpAny_pure (hQ _ rfl rfl))
section
variable {prog : Program} {w : World} {G : GC} {n : Nat} {A : Around} {P P' : PMap} {env : Env} {sc : Scp} {σ σ' τ : Sto} {s s' : Shared}
inductive Cap (σ : Sto) (sc : Scp) : List (Str × NameKind) → Sto → Prop
  | nil : Cap σ sc [] []
  | free {x : Str} {pv : PV} {r : List (Str × NameKind)} {τ : Sto} : (x, some pv) ∈ σ → ((x, NameKind.cell) ∈ sc ∨ (x, NameKind.free) ∈ sc) → Cap σ sc r τ → Cap σ sc ((x, .free) :: r) ((x, some pv) :: τ)
  | skip {x : Str} {k : NameKind} {r : List (Str × NameKind)} {τ : Sto} : k ≠ .free → Cap σ sc r τ → Cap σ sc ((x, k) :: r) τ
theorem Cap.mem {names : List (Str × NameKind)} (c : Cap σ sc names τ) : ∀ x pv, (x, some pv) ∈ τ → (x, some pv) ∈ σ ∧ (x, NameKind.free) ∈ names := by
  induction c with
  | nil => intro x pv h; cases h
  | free h1 _ _ ih =>
    intro x pv h
    rcases List.mem_cons.mp h with h | h
    · cases h; exact ⟨h1, by simp⟩
    · exact ⟨(ih x pv h).1, List.mem_cons_of_mem _ (ih x pv h).2⟩
  | skip _ _ ih => intro x pv h; exact ⟨(ih x pv h).1, List.mem_cons_of_mem _ (ih x pv h).2⟩
theorem Cap.all {names : List (Str × NameKind)} (c : Cap σ sc names τ) : ∀ x, (x, NameKind.free) ∈ names → ∃ pv, (x, some pv) ∈ σ ∧ ((x, NameKind.cell) ∈ sc ∨ (x, NameKind.free) ∈ sc) := by
  induction c with
  | nil => intro x h; cases h
  | free h1 h2 _ ih =>
    intro x h
    rcases List.mem_cons.mp h with h | h
    · cases h; exact (in1x2 _ h1 h2)
    · exact ih x h
  | skip hk _ ih =>
    intro x h
    rcases List.mem_cons.mp h with h | h
    · cases h; exact absurd rfl hk
    · exact ih x h
theorem Cap.cells {names : List (Str × NameKind)} (c : Cap σ sc names τ) (C : Cx prog w G n A P env sc σ s) : ∀ x, (x, NameKind.free) ∈ names → ∃ c, env.cells.lookup x = some c := fun x h => by
  (refine el1x2 (c.all x h) ?_; intro pv h1 h2)
  (refine el0x2 (C.vars x pv h1) ?_; intro _ hZ; refine el1x2 hZ ?_; clear hZ; intro v y _)
  rcases y with ⟨hk, _⟩ | ⟨_, c, hc, _⟩
  · exfalso
    rcases h2 with h2 | h2
    · rcases C.kl x _ h2 with q | ⟨q, _⟩
      · rw [hk] at q; cases q
      · cases q
    · rcases C.kl x _ h2 with q | ⟨_, q⟩
      · rw [hk] at q; cases q
      · rw [hk] at q; cases q
  · exact ⟨c, hc⟩
theorem lookup_mapk (g : Str → NameKind → NameKind) (x : Str) : ∀ (l : List (Str × NameKind)), (l.map fun p => (p.1, g p.1 p.2)).lookup x = (l.lookup x).map (g x)
  | [] => rfl
  | (y, k) :: r => by
    rw [List.map_cons, List.lookup_cons, List.lookup_cons]
    cases hb : x == y with
    | true => rw [beq_iff_eq.mp hb]; rfl
    | false => exact lookup_mapk g x r
theorem relabel_lookup (scope : Scope) (env : Env) (x : Str) :
    (relabel scope env).names.lookup x = (scope.names.lookup x).map fun k => if (k == NameKind.free && env.scope.kind == ScopeKind.function && env.kindOf x == some NameKind.cell) = true then NameKind.cell else k := by
  rw [← lookup_mapk (fun n k => if (k == NameKind.free && env.scope.kind == ScopeKind.function && env.kindOf n == some NameKind.cell) = true then NameKind.cell else k)]
  unfold relabel
  congr 1
  apply List.map_congr_left
  rintro ⟨y, k⟩ _
  dsimp only
  split <;> rfl
theorem relabel_kind {scope : Scope} {env : Env} (hn : (scope.names.map (·.1)).Nodup) {x : Str} {k : NameKind} (h : (x, k) ∈ scope.names) :
    (relabel scope env).names.lookup x = some k ∨ (k = .free ∧ (relabel scope env).names.lookup x = some .cell) := by
  rw [relabel_lookup, lookup_nodup hn h, Option.map_some]
  split
  · rename_i hc
    simp only [Bool.and_eq_true, beq_iff_eq] at hc
    exact .inr ⟨hc.1.1, rfl⟩
  · exact .inl rfl
theorem Cap.block {scope : Scope} (c : Cap σ sc scope.names τ) (C : Cx prog w G n A P env sc σ s) (hn : (scope.names.map (·.1)).Nodup) (hk : scope.kind = .function) :
    Cx prog w G n A P (blockEnv scope env s.heap.objs.size (cloF env scope.names [])) scope.names τ { s with heap := pushCells (s.heap.push { cls := .type "dict", data := .dict #[] }) scope.names } ∧
    (∀ x, (x, NameKind.local) ∈ scope.names ∨ (x, NameKind.cell) ∈ scope.names → Own (blockEnv scope env s.heap.objs.size (cloF env scope.names [])) x) ∧
    (∀ x a, (x, NameKind.local) ∈ scope.names ∨ (x, NameKind.cell) ∈ scope.names → (blockEnv scope env s.heap.objs.size (cloF env scope.names [])).cells.lookup x = some a → s.heap.get? a = none) := by
  have hcl := c.cells C
  have keep : Keep s.heap (pushCells (s.heap.push { cls := .type "dict", data := .dict #[] }) scope.names) := fun b o e => pushCells_keeps _ _ b o (Heap.get?_push_of_some _ e)
  have fresh : ∀ a, s.heap.objs.size ≤ a → s.heap.get? a = none := fun a ha => by
    cases q : s.heap.get? a with
    | none => rfl
    | some o => exact absurd (Heap.lt_size q) (Nat.not_lt.mpr ha)
  have Pfresh : ∀ a, s.heap.objs.size ≤ a → P a = none := fun a ha => by
    cases q : P a with
    | none => rfl
    | some o => have := C.sub a o q; rw [fresh a ha] at this; exact no1 this
  have ok := cellsFrom_ok scope.names (s.heap.push { cls := .type "dict", data := .dict #[] }) (s.heap.objs.size + 1) [] ⟨fun _ _ hm => (nomatch hm), List.Pairwise.nil⟩ (by rw [Heap.size_push]; exact Nat.le_refl _)
  rw [Heap.size_push] at ok
  have eqc : (blockEnv scope env s.heap.objs.size (cloF env scope.names [])).cells = cellsFrom (s.heap.objs.size + 1) scope.names [] ++ cloF env scope.names [] := by
    show cellsFrom _ _ _ = _; rw [cellsFrom_append]
  have clo : ∀ x c, (x, c) ∈ cloF env scope.names [] → (x, NameKind.free) ∈ scope.names ∧ env.cells.lookup x = some c := fun x c h => by
    rcases cloF_mem _ _ x c h with h | ⟨h, e⟩
    · cases h
    · (refine el1x1 (hcl x h) ?_; intro c' hc')
      rw [hc'] at e
      exact ⟨h, e ▸ hc'⟩
  have below : ∀ x c, (x, c) ∈ cloF env scope.names [] → c < s.heap.objs.size := fun x c h => by
    (refine el1x1 (C.act.cell x c (mem_of_lookup (clo x c h).2)) ?_; intro v hv)
    exact hv.lt
  have two : ∀ x k k', (x, k) ∈ scope.names → (x, k') ∈ scope.names → k = k' := fun x k k' h h' => by
    have := lookup_nodup hn h; rw [lookup_nodup hn h'] at this; exact (Option.some.inj this).symm
  have lookB : ∀ x, (x, NameKind.free) ∈ scope.names → ∃ c, env.cells.lookup x = some c ∧ (blockEnv scope env s.heap.objs.size (cloF env scope.names [])).cells.lookup x = some c := fun x h => by
    (refine el1x1 (cloF_has (env := env) scope.names [] x (.inl h)) ?_; intro c hc)
    (refine el0x2 (clo x c hc) ?_; intro hf hl)
    refine (in1x2 c hl ?_)
    (refine el1x1 (lookup_of_has (l := (blockEnv scope env s.heap.objs.size (cloF env scope.names [])).cells) (x := x) (c := c) (by rw [eqc]; exact List.mem_append_right _ hc)) ?_; intro c' hc')
    have hm := mem_of_lookup hc'
    rw [eqc] at hm
    rcases List.mem_append.mp hm with hm | hm
    · have := two x _ _ (cellsFrom_mem _ _ x c' hm).1 h; cases this
    · rw [hc', ← hl, (clo x c' hm).2]
  have ownc : ∀ x, (x, NameKind.cell) ∈ scope.names → ∃ c, (blockEnv scope env s.heap.objs.size (cloF env scope.names [])).cells.lookup x = some c ∧ s.heap.objs.size + 1 ≤ c := fun x h => by
    have h1 := PySem.W.cellsFrom_some (x := x) scope.names (s.heap.objs.size + 1) [] (.inl (lookup_nodup hn h))
    (refine el1x1 (Option.isSome_iff_exists.mp h1) ?_; intro c hc)
    (refine el1x1 (lookup_of_has (l := (blockEnv scope env s.heap.objs.size (cloF env scope.names [])).cells) (x := x) (c := c) (by rw [eqc]; exact List.mem_append_left _ (mem_of_lookup hc))) ?_; intro c' hc')
    refine (in1x2 c' hc' ?_)
    have hm := mem_of_lookup hc'
    rw [eqc] at hm
    rcases List.mem_append.mp hm with hm | hm
    · exact (cellsFrom_mem _ _ x c' hm).2
    · have := two x _ _ (clo x c' hm).1 h; cases this
  refine (in0x3 ⟨C.ok, C.base, C.sub.keep keep, ⟨hk, ⟨_, (Heap.Ns.new s.heap (.type "dict")).keeps (pushCells_keeps _ _)⟩, fun x c hx => ?_, ?_, fun x c hx => ?_⟩, ⟨Pfresh _ (Nat.le_refl _), fun p hp => ?_⟩, C.glob, C.blt, fun x k hx => relabel_kind hn hx, fun x pv hx => ?_, C.room⟩ (fun x hx => ?_) (fun x a hx ha => ?_))
  · rw [eqc] at hx
    rcases List.mem_append.mp hx with hx | hx
    · exact ⟨_, (ok.empty x c hx).1⟩
    · (refine el1x1 (C.act.cell x c (mem_of_lookup (clo x c hx).2)) ?_; intro v hv)
      exact ⟨v, hv.keeps keep⟩
  · rw [eqc, List.pairwise_append]
    refine (in0x3 ok.apart ?_ (fun p hp q hq => ?_))
    · have hnn := cloF_names (env := env) scope.names [] hn (fun _ _ h => by cases h) List.nodup_nil
      have hall : ∀ p ∈ cloF env scope.names [], env.cells.lookup p.1 = some p.2 := fun p hp => (clo p.1 p.2 hp).2
      rw [List.Nodup, List.pairwise_map] at hnn
      refine List.Pairwise.imp_of_mem (fun {p q} hp hq hne e => hne ?_) hnn
      exact name_of_addr C.act.apart (mem_of_lookup (hall p hp)) (e ▸ mem_of_lookup (hall q hq))
    · have h1 := (cellsFrom_mem _ _ p.1 p.2 hp).2
      have h2 := below q.1 q.2 hq
      exact Nat.ne_of_gt (Nat.lt_of_lt_of_le h2 (Nat.le_of_succ_le h1))
  · show c ≠ s.heap.objs.size
    rw [eqc] at hx
    rcases List.mem_append.mp hx with hx | hx
    · exact Nat.ne_of_gt (cellsFrom_mem _ _ x c hx).2
    · exact Nat.ne_of_lt (below x c hx)
  · rw [eqc] at hp
    rcases List.mem_append.mp hp with hp | hp
    · exact Pfresh _ (Nat.le_of_succ_le (cellsFrom_mem _ _ p.1 p.2 hp).2)
    · exact C.off.2 p (mem_of_lookup (clo p.1 p.2 hp).2)
  · (refine el0x2 (c.mem x pv hx) ?_; intro h1 h2)
    (refine el0x2 (C.vars x pv h1) ?_; intro hd hZ; refine el1x2 hZ ?_; clear hZ; intro v y r)
    refine ⟨hd, v, ?_, r⟩
    (refine el1x2 (lookB x h2) ?_; intro a ha hb)
    rcases y with ⟨hk', _⟩ | ⟨hk', a', ha', hv⟩
    · exfalso
      (refine el1x2 (c.all x h2) ?_; intro _ _ h3)
      rcases h3 with h3 | h3
      · rcases C.kl x _ h3 with q | ⟨q, _⟩
        · rw [hk'] at q; cases q
        · cases q
      · rcases C.kl x _ h3 with q | ⟨_, q⟩
        · rw [hk'] at q; cases q
        · rw [hk'] at q; cases q
    · rw [ha] at ha'; (have h := Option.some.inj ha'; clear ha'; subst h)
      refine .inr ⟨?_, a, hb, hv.keeps keep⟩
      rcases relabel_kind (env := env) hn h2 with q | ⟨_, q⟩
      · refine .inr ⟨q, ?_⟩
        rcases hk' with hk' | ⟨_, hk'⟩
        · exfalso
          have : (relabel scope env).names.lookup x = some .cell := by
            rw [relabel_lookup, lookup_nodup hn h2, Option.map_some]
            simp [C.act.kind, hk']
          have q' : (relabel scope env).names.lookup x = some .free := q
          rw [this] at q'; cases q'
        · exact hk'
      · exact .inl q
  · rcases hx with hx | hx
    · rcases relabel_kind (env := env) hn hx with q | ⟨q, _⟩
      · exact .inl q
      · cases q
    · rcases relabel_kind (env := env) hn hx with q | ⟨q, _⟩
      · exact .inr ⟨q, let ⟨c, hc, _⟩ := ownc x hx; ⟨c, hc⟩⟩
      · cases q
  · rcases hx with hx | hx
    · exfalso
      have hm := mem_of_lookup ha
      rw [eqc] at hm
      rcases List.mem_append.mp hm with hm | hm
      · have := two x _ _ (cellsFrom_mem _ _ x a hm).1 hx; cases this
      · have := two x _ _ (clo x a hm).1 hx; cases this
    · (refine el1x2 (ownc x hx) ?_; intro c' hc' hle)
      rw [ha] at hc'; (have h := Option.some.inj hc'; clear hc'; subst h)
      exact fresh _ (Nat.le_of_succ_le hle)
end
theorem letOwned_ok {M : Model} {A : Around} {E : Value → Shared → Prop} {s : Shared} {target : Expr} {I : Addr} {v : Value} {Q : Unit → Shared → Prop} (hI : ∃ o, s.heap.get? I = some o ∧ plainIter o) (h : Q () s) :
    wpAny M A (letOwnedTupleGo target (.ref I) v) Q E s := by
  (refine el1x2 hI ?_; clear hI; intro o ho hZ; refine el1x2 hZ ?_; clear hZ; intro c hc hn)
  have key : ∀ a : Addr, wpAny M A (do
      let o ← load I
      match o.cls, o.data with
      | .type n, .fields vs =>
        if tupMakers.contains n && vs[0]? == some (rawInt a) then
          rule "for.unpacks-the-owned-tuple"
          updateField I 0 .none
      | _, _ => pure () : Sem Unit) Q E s := fun a => by
    refine wpAny_bind (wpAny_load ho ?_)
    rw [hc]
    cases o.data <;> first | exact wpAny_pure h | skip
    dsimp only
    rw [hn, Bool.false_and, if_neg Bool.false_ne_true]
    exact wpAny_pure h
  cases target <;> first | exact wpAny_pure h | skip
  · cases v <;> first | exact wpAny_pure h | exact key _
  · cases v <;> first | exact wpAny_pure h | exact key _
section
variable {prog : Program} {w : World} {G : GC} {n : Nat} {A : Around} {P P' : PMap} {env : Env} {sc : Scp} {σ σ' τ : Sto} {s s' : Shared}
theorem Act.nextX {T : List Addr} {h h' : Heap} (a : Act env h) (k : KeepX T h h') (hL : env.locals ∉ T) (hc : ∀ p ∈ env.cells, p.2 ∉ T) : Act env h' :=
  ⟨a.kind, let ⟨m, o, es, ep, e, r⟩ := a.ns; (in4x2 m o es ep (k.get e hL) r), fun x c hx => let ⟨v, o, e, r⟩ := a.cell x c hx; (in2x2 v o (k.get e (hc _ hx)) r), a.apart, a.offL⟩
theorem VarAt.nextX {T : List Addr} {h h' : Heap} {x : Str} {v : Value} (y : VarAt h env x v) (k : KeepX T h h') (hL : env.locals ∉ T) (hc : ∀ p ∈ env.cells, p.2 ∉ T) : VarAt h' env x v :=
  y.imp (fun ⟨a, m, ⟨o, es, ep, e, r⟩, q⟩ => ⟨a, m, (in3x2 o es ep (k.get e hL) r), q⟩) (fun ⟨a, c, e, o, ho, r⟩ => ⟨a, c, e, o, k.get ho (hc _ (mem_of_lookup e)), r⟩)
theorem Cx.nextX (C : Cx prog w G n A P env sc σ s) {T : List Addr} {h' : Heap} {tk : Nat} (k : KeepX T s.heap h') (hL : env.locals ∉ T) (hc : ∀ p ∈ env.cells, p.2 ∉ T) (l : PMap.le P P') (b : Sub P' h') (f : Grew P P' s.heap) :
    Cx prog w G n A P' env sc σ { s with heap := h', toks := tk } :=
  ⟨C.ok, C.base.trans l, b, C.act.nextX k hL hc, C.off.grow C.act f, C.glob, C.blt, C.kl, fun x pv hx => let ⟨d, v, y, r⟩ := C.vars x pv hx; ⟨d, v, y.nextX k hL hc, r.mono l⟩, C.room⟩
theorem Grew.transX {P P' P'' : PMap} {h h' : Heap} {W : List Addr} (g : Grew P P' h) (g' : Grew P' P'' h') (k : KeepX W h h') : Grew P P'' h := fun a o e => by
  rcases g' a o e with x | x
  · exact g a o x
  · refine .inr ?_
    cases q : h.get? a with
    | none => rfl
    | some o' => (refine el1x2 (k a o' q) ?_; intro o'' e' _); rw [e'] at x; exact no2 x
noncomputable def Ex (h h' : Heap) : Prop := ∀ a o, h.get? a = some o → ∃ o', h'.get? a = some o'
theorem Ex.trans {h h' h'' : Heap} (x : Ex h h') (y : Ex h' h'') : Ex h h'' := fun a o e => let ⟨o', e'⟩ := x a o e; y a o' e'
theorem KeepX.ex {W : List Addr} {h h' : Heap} (k : KeepX W h h') : Ex h h' := fun a o e => let ⟨o', e', _⟩ := k a o e; ⟨o', e'⟩
theorem KeepT.ex {xs : List Str} {h h' : Heap} (k : KeepT env xs h h') : Ex h h' := fun a o e => let ⟨o', e', _⟩ := k a o e; ⟨o', e'⟩
theorem Grew.transE {P P' P'' : PMap} {h h' : Heap} (g : Grew P P' h) (g' : Grew P' P'' h') (k : Ex h h') : Grew P P'' h := fun a o e => by
  rcases g' a o e with x | x
  · exact g a o x
  · refine .inr ?_
    cases q : h.get? a with
    | none => rfl
    | some o' => (refine el1x1 (k a o' q) ?_; intro o'' e'); rw [e'] at x; exact no2 x
noncomputable def Ifs (prog : Program) (w : World) (G : GC) (n : Nat) (sc : Scp) (σ : Sto) (ifs : List Expr) (b : Bool) : Prop := (ifs = [] ∧ b = true) ∨ ∃ c, ifs = [c] ∧ DenT prog w G n sc σ c b
theorem Ifs.run {E : Value → Shared → Prop} {ifs : List Expr} {b : Bool} {Q : Bool → Shared → Prop} (D : Ifs prog w G n sc σ ifs b) (C : Cx prog w G n A P env sc σ s)
    (h : ∀ h' tk P', Cx prog w G n A P' env sc σ { s with heap := h', toks := tk } → Keep s.heap h' → PMap.le P P' → Grew P P' s.heap → Q b { s with heap := h', toks := tk }) :
    wpAny (model prog w) A (forIn ifs true fun c r => if r = true then do let ok ← isTrue c env (eval c env); pure (ForInStep.yield ok) else pure (ForInStep.yield r)) Q E s := by
  rcases D with ⟨rfl, rfl⟩ | ⟨c, rfl, d⟩
  · exact wpAny_tests_nil (h s.heap s.toks P C (Keep.refl _) (PMap.le_refl _) (Grew.refl _ _))
  · exact wpAny_tests_one (wpAny_mono (d.go C h) (fun _ _ x => x) fun _ _ f => f.elim)
noncomputable def coll (b : Nat → Bool) (y : Nat → PV) (k : Nat) : List PV := ((List.range k).filter b).map y
theorem coll_succ (b : Nat → Bool) (y : Nat → PV) (k : Nat) : coll b y (k + 1) = coll b y k ++ (if b k then [y k] else []) := by
  unfold coll
  rw [List.range_succ, List.filter_append, List.map_append]
  cases h : b k <;> simp [h]
theorem coll_length (b : Nat → Bool) (y : Nat → PV) (k : Nat) : (coll b y k).length ≤ k := by
  unfold coll; rw [List.length_map]
  exact Nat.le_trans (List.length_filter_le _ _) (by simp)
end
noncomputable def PMap.put (P : PMap) (a : Addr) (o : Obj) : PMap := fun b => if b = a then some o else P b
theorem PMap.put_self (P : PMap) (a : Addr) (o : Obj) : P.put a o a = some o := by simp [PMap.put]
theorem PMap.put_le {P : PMap} {a : Addr} {o : Obj} (n : P a = none) : PMap.le P (P.put a o) := fun b ob e => by
  have : b ≠ a := fun q => by rw [q, n] at e; exact no1 e
  simp [PMap.put, this, e]
theorem PMap.put_sub {P : PMap} {a : Addr} {o : Obj} {h : Heap} (s : Sub P h) (e : h.get? a = some o) : Sub (P.put a o) h := fun b ob q => by
  by_cases hb : b = a
  · subst hb; simp [PMap.put] at q; rw [e, q]
  · simp [PMap.put, hb] at q; exact s b ob q
theorem PMap.put_grew {P P' : PMap} {a : Addr} {o : Obj} {h : Heap} (g : Grew P P' h) (n : h.get? a = none) : Grew P (P'.put a o) h := fun b ob q => by
  by_cases hb : b = a
  · subst hb; exact .inr n
  · simp [PMap.put, hb] at q; exact g b ob q
theorem neA {a b : Nat} (h : a ≠ b) : @Ne Addr a b := h
theorem fresh_size {h : Heap} {a : Addr} (ha : h.objs.size ≤ a) : h.get? a = none := by
  cases q : h.get? a with
  | none => rfl
  | some o => exact absurd (Heap.lt_size q) (Nat.not_lt.mpr ha)
theorem Sub.fresh {P : PMap} {h : Heap} (s : Sub P h) {a : Addr} (n : h.get? a = none) : P a = none := by
  cases q : P a with
  | none => rfl
  | some o => have := s a o q; rw [n] at this; exact no1 this
theorem Keep.push (h : Heap) (o : Obj) : Keep h (h.push o) := fun _ _ e => Heap.get?_push_of_some _ e
theorem coll_filter {α : Type} (p : α → Bool) (g : α → PV) (l : List α) : ∀ k, k ≤ l.length → coll (fun j => ((l[j]?).map p).getD false) (fun j => ((l[j]?).map g).getD .none) k = ((l.take k).filter p).map g
  | 0, _ => by simp [coll]
  | k + 1, h => by
    rw [coll_succ, coll_filter p g l k (by exact lin [_, _] [.L 1 (.A (.V 0) (.N 1)) (.V 1)] (.L 1 (.V 0) (.V 1)) rfl h), List.take_add_one, List.filter_append, List.map_append]
    have hd : l[k]? = some l[k] := List.getElem?_eq_getElem (by exact lin [_, _] [.L 1 (.A (.V 0) (.N 1)) (.V 1)] (.T 1 (.V 0) (.V 1)) rfl h)
    rw [hd]
    simp only [Option.map_some, Option.getD_some, Option.toList_some]
    cases hp : p l[k] <;> simp [hp]
section
variable {prog : Program} {w : World} {G : GC} {n : Nat} {sc : Scp} {σ τ : Sto}
noncomputable def Its (prog : Program) (w : World) (pv : PV) (l : List PV) : Prop := ∀ (P : PMap) (v : Value), Rp prog w P v pv → Iters prog w v P l
theorem its_list {l : List PV} : Its prog w (.list l) l := fun _ _ r => iters_list r
theorem its_str {x : Str} : Its prog w (.str x) (x.cps.toList.map fun c => .str ⟨#[c]⟩) := fun _ _ r => iters_str r
theorem its_rng {a b c : Int} (h : Builtin.Range.small a b c = true) (h0 : 0 ≤ Builtin.Range.rangeSize a b c) : Its prog w (.rng a b c) (rngItems a b c) := fun _ _ r => iters_rng r h h0
end
section
variable {prog : Program} {w : World} {G : GC} {n : Nat} {A : Around} {P P' : PMap} {env : Env} {sc : Scp} {σ σ' τ : Sto} {s s' : Shared} {ρ : Type} {K : PMap → ρ → Obj → Prop}
structure CSk (K : PMap → ρ → Obj → Prop) (prog : Program) (w : World) (G : GC) (n : Nat) (A : Around) (P₀ : PMap) (h₀ : Heap) (W : List Addr) (cenv : Env) (sc : Scp) (xs : List Str) (D : Addr) (P : PMap) (σ : Sto) (res : ρ) (s : Shared) : Prop where
  cx : Cx prog w G n A P cenv sc σ s
  le : PMap.le P₀ P
  grew : Grew P₀ P h₀
  keep : KeepX W h₀ s.heap
  offD : P D = none
  dL : D ≠ cenv.locals
  dc : ∀ p ∈ cenv.cells, p.2 ≠ D
  acc : ∃ o, s.heap.get? D = some o ∧ K P res o
  mono : ∀ P P' r o, PMap.le P P' → K P r o → K P' r o
  wL : cenv.locals ∉ W
  wc : ∀ p ∈ cenv.cells, p.2 ∉ W
  wD : D ∉ W
  fL : h₀.get? cenv.locals = none
  fc : ∀ x ∈ xs, ∀ a, cenv.cells.lookup x = some a → h₀.get? a = none
  fD : h₀.get? D = none
section
variable {P₀ : PMap} {h₀ : Heap} {W : List Addr} {cenv : Env} {xs : List Str} {D : Addr} {res : ρ}
theorem CSk.move (c : CSk K prog w G n A P₀ h₀ W cenv sc xs D P σ res s) {T : List Addr} {h' : Heap} {tk : Nat} (k : KeepX T s.heap h') (hL : cenv.locals ∉ T) (hc : ∀ p ∈ cenv.cells, p.2 ∉ T) (hD : D ∉ T) (hT : ∀ a ∈ T, a ∈ W ∨ h₀.get? a = none)
    (l : PMap.le P P') (b : Sub P' h') (f : Grew P P' s.heap) : CSk K prog w G n A P₀ h₀ W cenv sc xs D P' σ res { s with heap := h', toks := tk } := by
  (refine el1x2 (c.acc) ?_; intro ob hyd hr)
  refine ⟨c.cx.nextX k hL hc l b f, c.le.trans l, c.grew.transX f c.keep, fun a o e => ?_, f.none hyd c.offD, c.dL, c.dc, (in1x2 ob (k.get hyd hD) (c.mono _ _ _ _ l hr)), c.mono, c.wL, c.wc, c.wD, c.fL, c.fc, c.fD⟩
  (refine el1x2 (c.keep a o e) ?_; intro o' e' q)
  (refine el1x2 (k a o' e') ?_; intro o'' e'' q')
  refine (in1x2 o'' e'' (fun hn => ?_))
  by_cases ha : a ∈ T
  · rcases hT a ha with x | x
    · exact absurd x hn
    · rw [e] at x; exact no2 x
  · exact (q' ha).trans (q hn)
theorem CSk.asg (c : CSk K prog w G n A P₀ h₀ W cenv sc xs D P σ res s) {h' : Heap} {tk : Nat} (C : Cx prog w G n A P' cenv sc σ' { s with heap := h', toks := tk }) (k : KeepT cenv xs s.heap h') (l : PMap.le P P') (f : Grew P P' s.heap) :
    CSk K prog w G n A P₀ h₀ W cenv sc xs D P' σ' res { s with heap := h', toks := tk } := by
  (refine el1x2 (c.acc) ?_; intro ob hyd hr)
  have nD : ¬ Tch cenv xs D := fun t => by
    rcases t with q | ⟨x, _, q⟩
    · exact c.dL q
    · exact c.dc (x, D) (mem_of_lookup q) rfl
  have kx : KeepX W h₀ s.heap := c.keep
  have gx : Grew P₀ P' h₀ := fun a o e => by
    rcases f a o e with x | x
    · exact c.grew a o x
    · refine .inr ?_
      cases q : h₀.get? a with
      | none => rfl
      | some o' => (refine el1x2 (c.keep a o' q) ?_; intro o'' e' _); rw [e'] at x; exact no2 x
  refine ⟨C, c.le.trans l, gx, fun a o e => ?_, f.none hyd c.offD, c.dL, c.dc, (in1x2 ob (k.get hyd nD) (c.mono _ _ _ _ l hr)), c.mono, c.wL, c.wc, c.wD, c.fL, c.fc, c.fD⟩
  (refine el1x2 (c.keep a o e) ?_; intro o' e' q)
  (refine el1x2 (k a o' e') ?_; intro o'' e'' q')
  refine (in1x2 o'' e'' (fun hn => (q' fun t => ?_).trans (q hn)))
  rcases t with r | ⟨x, hx, r⟩
  · rw [r, c.fL] at e; exact no1 e
  · rw [c.fc x hx a r] at e; exact no1 e
theorem CSk.weak (c : CSk K prog w G n A P₀ h₀ W cenv sc xs D P σ res s) (h : ∀ p ∈ σ', p ∈ σ) : CSk K prog w G n A P₀ h₀ W cenv sc xs D P σ' res s :=
  ⟨c.cx.sub' h, c.le, c.grew, c.keep, c.offD, c.dL, c.dc, c.acc, c.mono, c.wL, c.wc, c.wD, c.fL, c.fc, c.fD⟩
noncomputable def TurnIs (e : Expr) (d : Nat) (target iter : Expr) (ifs : List Expr) (acc : Value) (cenv : Env) (act : Sem Unit) : Prop := ∀ it, compTurn e d it acc cenv = (do
      standAt iter.pos
      match ← pyNext it with
      | none => pure (.done .next)
      | some v =>
        letOwnedTupleGo target it v
        assign target cenv v
        let mut ok := true
        for c in ifs do
          if ok then ok ← isTrue c cenv (eval c cenv)
        if ok then act
        again (.compLoop e d it acc cenv))
theorem loopK {R : Result → Shared → Prop} {e target iter : Expr} {d : Nat} {ifs : List Expr} {act : Sem Unit} {I : Addr} {items : List PV} {P₁ : PMap} {St : Nat → Heap → Prop} {X : Nat → Heap → Prop} {σt : Nat → Sto} {b : Nat → Bool} {rs : Nat → ρ}
    (ht : TurnIs e d target iter ifs (.ref D) cenv act)
    (hden : ∀ (it : Value) (Q : Fin → Shared → Prop) (E : Value → Shared → Prop) (s : Shared), wpAny (model prog w) A ((compTurn e d it (.ref D) cenv).onRaise (fun x => do noteFrame x cenv; theTreesLotGoes x)) Q E s →
      wpAny (model prog w) (A.under (.compLoop e d it (.ref D) cenv)) ((model prog w).den (.compLoop e d it (.ref D) cenv)) Q E s)
    (It : Itr prog w P₁ I items St) (hI0 : h₀.get? I = none) (hIL : I ≠ cenv.locals) (hIc : ∀ p ∈ cenv.cells, p.2 ≠ I) (hID : I ≠ D) (hIW : I ∉ W)
    (hown : ∀ x ∈ xs, Own cenv x)
    (hA : ∀ j d, items[j]? = some d → Asg prog w G n sc xs target τ d (σt j)) (hσ : ∀ j, ∀ p ∈ τ, p ∈ σt j)
    (hT : ∀ j d, items[j]? = some d → Ifs prog w G n sc (σt j) ifs (b j))
    (hX : ∀ j h h', X j h → (∀ a ∈ W, ∀ o, h.get? a = some o → h'.get? a = some o) → X j h')
    (h0 : ∀ j d, items[j]? = some d → b j = false → rs (j + 1) = rs j ∧ ∀ h, X j h → X (j + 1) h)
    (hE : ∀ j d, items[j]? = some d → b j = true → ∀ P s, CSk K prog w G n A P₀ h₀ W cenv sc xs D P (σt j) (rs j) s → X j s.heap → wpAny (model prog w) A act
      (fun _ s' => ∃ h' tk P', s' = { s with heap := h', toks := tk } ∧ CSk K prog w G n A P₀ h₀ W cenv sc xs D P' (σt j) (rs (j + 1)) s' ∧ X (j + 1) h' ∧ PMap.le P P' ∧ Grew P P' s.heap ∧
        (∀ a o, s.heap.get? a = some o → ∃ o', h'.get? a = some o' ∧ (a ≠ D → ¬ Tch cenv xs a → a ∉ W → o' = o))) (fun _ _ => False) s)
    (c : CSk K prog w G n A P₀ h₀ W cenv sc xs D P τ (rs 0) s) (h1 : PMap.le P₁ P) (hPI : P I = none) (st : St 0 s.heap) (x0 : X 0 s.heap)
    (hR : ∀ P' h' tk, CSk K prog w G n A P₀ h₀ W cenv sc xs D P' τ (rs items.length) { s with heap := h', toks := tk } → X items.length h' → PMap.le P P' → Grew P P' s.heap →
      (∀ a o, s.heap.get? a = some o → a ≠ I → ∃ o', h'.get? a = some o' ∧ (a ≠ D → ¬ Tch cenv xs a → a ∉ W → o' = o)) → R (.ok .next) { s with heap := h', toks := tk }) :
    codeAny (model prog w) A (.compLoop e d (.ref I) (.ref D) cenv) R s := by
  have hh := c.cx.room.hd
  refine codeAny_loop rfl (fun k s' => ∃ P' h' tk j, s' = { s with heap := h', toks := tk } ∧ CSk K prog w G n A P₀ h₀ W cenv sc xs D P' τ (rs j) s' ∧ X j h' ∧ PMap.le P P' ∧ Grew P P' s.heap ∧ St j h' ∧ j ≤ items.length ∧ k = items.length + 1 - j ∧ P' I = none ∧ (h'.get? I).isSome = true ∧
      (∀ a o, s.heap.get? a = some o → ∃ o', h'.get? a = some o' ∧ (a ≠ I → a ≠ D → ¬ Tch cenv xs a → a ∉ W → o' = o))) (fun k s' hI => ?_) (items.length + 1)
    ⟨P, s.heap, s.toks, 0, rfl, c, x0, PMap.le_refl _, Grew.refl _ _, st, Nat.zero_le _, rfl, hPI, (let ⟨o, ho, _⟩ := It.cls 0 _ st; by rw [ho]; rfl), fun a o e => (in1x2 o e (fun _ _ _ _ => rfl))⟩
  obtain ⟨P', h', tk, j, rfl, c', x', l', g', st', hj, rfl, hPI', hIs, kk⟩ := hI
  refine hden _ _ _ _ ?_
  refine wpAny_noted (wpAny_mono (Q := _) (E := fun _ _ => False) ?_ (fun _ _ q => q) fun _ _ f => f.elim)
  rw [ht]
  have nIc : ∀ p ∈ cenv.cells, p.2 ∉ [I] := fun p hp q => hIc p hp (by simpa using q)
  have nIL : cenv.locals ∉ [I] := fun q => hIL (List.mem_singleton.mp q).symm
  have nID : D ∉ [I] := fun q => hID (List.mem_singleton.mp q).symm
  have nTI : ¬ Tch cenv xs I := fun t => by
    rcases t with q | ⟨x, _, q⟩
    · exact hIL q
    · exact hIc (x, I) (mem_of_lookup q) rfl
  refine wpAny_bind (wpAny_standAt (wpAny_bind ?_))
  by_cases hlt : j < items.length
  · have hd : items[j]? = some items[j] := List.getElem?_eq_getElem hlt
    refine It.item A j items[j] _ _ _ hh hd st' fun v h₁ tk₁ r₁ st₁ k₁ => ?_
    have kI : KeepX [I] h' h₁ := fun a o e => by
      by_cases q : a = I
      · subst q; (refine el1x2 (It.cls _ _ st₁) ?_; intro o' ho' _); exact (in1x2 o' ho' (fun n => absurd (by simp) n))
      · exact (in1x2 o (k₁ a o q e) (fun _ => rfl))
    have b₁ : Sub P' h₁ := fun a o e => by
      have : a ≠ I := fun q => by rw [q, hPI'] at e; exact no1 e
      exact k₁ a o this (c'.cx.sub a o e)
    have c₁ := c'.move (tk := tk₁) kI nIL nIc nID (fun a ha => .inr (by simp at ha; rw [ha]; exact hI0)) (PMap.le_refl _) b₁ (Grew.refl _ _)
    refine wpAny_bind (letOwned_ok (It.cls _ _ st₁) (wpAny_bind ?_))
    refine (hA j _ hd).run A P' cenv _ v _ c₁.cx hown (r₁.mono (h1.trans l')) fun h₂ tk₂ P₂ C₂ k₂ l₂ g₂ => ?_
    have c₂ := c₁.asg C₂ k₂ l₂ g₂
    have hI₂ : ∀ o, h₁.get? I = some o → h₂.get? I = some o := fun o e => k₂.get e nTI
    have st₂ : St (j + 1) h₂ := It.frame _ _ _ st₁ hI₂ fun a o e => c₂.cx.sub a o (l₂ a o (l' a o (h1 a o e)))
    have PI₂ : P₂ I = none := by
      (refine el1x2 (It.cls _ _ st₁) ?_; intro o' ho' _)
      exact g₂.none ho' hPI'
    have x₂ : X j h₂ := hX j _ _ x' fun a ha o e => k₂.get (k₁ a o (fun q => hIW (q ▸ ha)) e) fun t => by
      rcases t with q | ⟨x, _, q⟩
      · exact c.wL (q ▸ ha)
      · exact c.wc (x, a) (mem_of_lookup q) ha
    refine wpAny_bind ((hT j _ hd).run c₂.cx fun h₃ tk₃ P₃ C₃ k₃ l₃ g₃ => ?_)
    have c₃ := c₂.move (tk := tk₃) (KeepX.of (W := []) k₃) (by simp) (by simp) (by simp) (by simp) l₃ C₃.sub g₃
    have st₃ : St (j + 1) h₃ := It.frame _ _ _ st₂ (fun o e => k₃ I o e) fun a o e => C₃.sub a o (l₃ a o (l₂ a o (l' a o (h1 a o e))))
    have x₃ : X j h₃ := hX j _ _ x₂ fun a _ o e => k₃ a o e
    have PI₃ : P₃ I = none := by
      (refine el1x2 (It.cls _ _ st₂) ?_; intro o' ho' _)
      exact g₃.none ho' PI₂
    have kk₃ : ∀ a o, s.heap.get? a = some o → ∃ o', h₃.get? a = some o' ∧ (a ≠ I → a ≠ D → ¬ Tch cenv xs a → a ∉ W → o' = o) := fun a o e => by
      (refine el1x2 (kk a o e) ?_; intro o1 e1 q1)
      (refine el1x2 (kI a o1 e1) ?_; intro o2 e2 q2)
      (refine el1x2 (k₂ a o2 e2) ?_; intro o3 e3 q3)
      exact (in1x2 o3 (k₃ a o3 e3) (fun n1 n2 n3 n4 => (q3 n3).trans ((q2 (by simpa using n1)).trans (q1 n1 n2 n3 n4))))
    have ex₃ : Ex s.heap h₃ := fun a o e => let ⟨o', e', _⟩ := kk₃ a o e; ⟨o', e'⟩
    have exH : Ex s.heap h' := fun a o e => let ⟨o', e', _⟩ := kk a o e; ⟨o', e'⟩
    have g₃' : Grew P P₃ s.heap := (g'.transE g₂ (exH.trans kI.ex)).transE g₃ (exH.trans (kI.ex.trans k₂.ex))
    cases hb : b j with
    | false =>
      refine wpAny_pure ⟨rfl, items.length + 1 - (j + 1), by lia, P₃, h₃, tk₃, j + 1, rfl, ?_, (h0 j _ hd hb).2 _ x₃, ((l'.trans l₂).trans l₃), g₃', st₃, hlt, rfl, PI₃, ?_, kk₃⟩
      · rw [(h0 j _ hd hb).1]; exact c₃.weak (hσ j)
      · (refine el1x2 (It.cls _ _ st₃) ?_; intro o' ho' _); rw [ho']; rfl
    | true =>
      simp only [if_true]
      refine wpAny_bind (wpAny_mono (hE j _ hd hb P₃ _ c₃ x₃) (fun u s₄ h₄ => ?_) fun _ _ f => f.elim)
      (refine el3x6 h₄ ?_; clear h₄; intro h₄ tk₄ P₄ hZ; subst hZ; intro c₄ x₄ l₄ g₄ k₄)
      have hI₄ : ∀ o, h₃.get? I = some o → h₄.get? I = some o := fun o e => by
        (refine el1x2 (k₄ I o e) ?_; intro o' e' q)
        rw [e', q hID nTI hIW]
      have st₄ : St (j + 1) h₄ := It.frame _ _ _ st₃ hI₄ fun a o e => c₄.cx.sub a o (l₄ a o (l₃ a o (l₂ a o (l' a o (h1 a o e)))))
      have PI₄ : P₄ I = none := by
        (refine el1x2 (It.cls _ _ st₃) ?_; intro o' ho' _)
        exact g₄.none ho' PI₃
      refine wpAny_pure ⟨rfl, items.length + 1 - (j + 1), by lia, P₄, h₄, tk₄, j + 1, rfl, c₄.weak (hσ j), x₄, (((l'.trans l₂).trans l₃).trans l₄), g₃'.transE g₄ ex₃, st₄, hlt, rfl, PI₄, ?_, ?_⟩
      · (refine el1x2 (It.cls _ _ st₄) ?_; intro o' ho' _); rw [ho']; rfl
      · intro a o e
        (refine el1x2 (kk₃ a o e) ?_; intro o3 e3 q3)
        (refine el1x2 (k₄ a o3 e3) ?_; intro o4 e4 q4)
        exact (in1x2 o4 e4 (fun n1 n2 n3 n4 => (q4 n2 n3 n4).trans (q3 n1 n2 n3 n4)))
  · have hj' : j = items.length := by exact Nat.le_antisymm (lin [_, _] [.L 1 (.V 0) (.V 1)] (.L 1 (.V 0) (.V 1)) rfl hj) (lin [_, _] [.NT 1 (.V 0) (.V 1)] (.L 1 (.V 1) (.V 0)) rfl hlt)
    subst hj'
    refine It.done A _ _ _ hh st' fun h₁ tk₁ k₁ => ?_
    have b₁ : Sub P' h₁ := fun a o e => by
      have : a ≠ I := fun q => by rw [q, hPI'] at e; exact no1 e
      exact k₁ a o this (c'.cx.sub a o e)
    have C := c'.cx
    have c₁ : CSk K prog w G n A P₀ h₀ W cenv sc xs D P' τ (rs items.length) { s with heap := h₁, toks := tk₁ } := by
      (refine el1x2 (c'.acc) ?_; intro ob hz hr)
      refine ⟨⟨C.ok, C.base, b₁, ⟨C.act.kind, ?_, fun x a hx => ?_, C.act.apart, C.act.offL⟩, C.off, C.glob, C.blt, C.kl, fun x pv hx => ?_, C.room⟩, c'.le, c'.grew, fun a o e => ?_, c'.offD, c'.dL, c'.dc, (in1x2 ob (k₁ _ _ hID.symm hz) hr), c'.mono, c'.wL, c'.wc, c'.wD, c'.fL, c'.fc, c'.fD⟩
      · (refine el4x2 (C.act.ns) ?_; intro m o es ep e r); exact (in4x2 m o es ep (k₁ _ _ hIL.symm e) r)
      · (refine el2x2 (C.act.cell x a hx) ?_; intro v o e r); exact (in2x2 v o (k₁ _ _ (hIc _ hx) e) r)
      · (refine el0x2 (C.vars x pv hx) ?_; intro hd hZ; refine el1x2 hZ ?_; clear hZ; intro v y r)
        exact ⟨hd, v, y.imp (fun ⟨a, m, ⟨o, es, ep, e, r⟩, q⟩ => ⟨a, m, (in3x2 o es ep (k₁ _ _ hIL.symm e) r), q⟩) (fun ⟨a, c, e, o, ho, r⟩ => ⟨a, c, e, o, k₁ _ _ (hIc _ (mem_of_lookup e)) ho, r⟩), r⟩
      · (refine el1x2 (c'.keep a o e) ?_; intro o' e' q)
        have : a ≠ I := fun z => by rw [z, hI0] at e; exact no1 e
        exact (in1x2 o' (k₁ a o' this e') q)
    refine wpAny_pure (hR P' h₁ tk₁ c₁ (hX _ _ _ x' fun a ha o e => k₁ a o (fun q => hIW (q ▸ ha)) e) l' g' fun a o e ha => ?_)
    (refine el1x2 (kk a o e) ?_; intro o' e' q)
    exact (in1x2 o' (k₁ a o' ha e') (fun n2 n3 n4 => q ha n2 n3 n4))
noncomputable def LK (prog : Program) (w : World) (P : PMap) (r : List PV) (o : Obj) : Prop := ∃ ys k, o = { cls := .type "list", data := .seq ys k } ∧ RpL prog w P ys.toList r
theorem LK.mono {P P' : PMap} {r : List PV} {o : Obj} (l : PMap.le P P') (h : LK prog w P r o) : LK prog w P' r o := let ⟨ys, k, e, r⟩ := h; (in2x2 ys k e (r.mono l))
theorem CSk.acc' {r r' : ρ} (c : CSk K prog w G n A P₀ h₀ W cenv sc xs D P σ r s) {o' : Obj} {h' : Heap} {tk : Nat} (hs : ∀ b o, b ≠ D → s.heap.get? b = some o → h'.get? b = some o) (ho : h'.get? D = some o') (hk : K P r' o') : CSk K prog w G n A P₀ h₀ W cenv sc xs D P σ r' { s with heap := h', toks := tk } := by
  have kx : KeepX [D] s.heap h' := fun a o e => by
    by_cases q : a = D
    · subst q; exact (in1x2 _ ho (fun n => absurd (by simp) n))
    · exact (in1x2 o (hs a o q e) (fun _ => rfl))
  have b : Sub P h' := fun a o e => by
    have : a ≠ D := fun q => by rw [q, c.offD] at e; exact no1 e
    exact hs a o this (c.cx.sub a o e)
  have hL : cenv.locals ∉ [D] := fun q => c.dL (List.mem_singleton.mp q).symm
  have hc : ∀ p ∈ cenv.cells, p.2 ∉ [D] := fun p hp q => c.dc p hp (by simpa using q)
  refine ⟨(c.cx.nextX kx hL hc (PMap.le_refl _) b (Grew.refl _ _)), c.le, c.grew, fun a o e => ?_, c.offD, c.dL, c.dc, (in1x2 o' ho hk), c.mono, c.wL, c.wc, c.wD, c.fL, c.fc, c.fD⟩
  (refine el1x2 (c.keep a o e) ?_; intro o1 e1 q)
  have : a ≠ D := fun q => by rw [q, c.fD] at e; exact no1 e
  exact (in1x2 o1 (hs a o1 this e1) q)
theorem CSk.emitW {act : Sem Value} {res : List PV} {pv : PV} {X : Heap → Prop} (c : CSk (LK prog w) prog w G n A P₀ h₀ W cenv sc xs D P σ res s)
    (hd : wpAny (model prog w) A act (fun v s' => ∃ h' tk P', s' = { s with heap := h', toks := tk } ∧ KeepX W s.heap h' ∧ PMap.le P P' ∧ Sub P' h' ∧ Grew P P' s.heap ∧ Rp prog w P' v pv ∧ X h') (fun _ _ => False) s)
    (hsz : res.length ≤ sizeLine) (hX : ∀ h h', X h → (∀ a ∈ W, ∀ o, h.get? a = some o → h'.get? a = some o) → X h') :
    wpAny (model prog w) A (do let _ ← call (.builtin "list.append") [.ref D, ← act])
      (fun _ s' => ∃ h' tk P', s' = { s with heap := h', toks := tk } ∧ CSk (LK prog w) prog w G n A P₀ h₀ W cenv sc xs D P' σ (res ++ [pv]) s' ∧ X h' ∧ PMap.le P P' ∧ Grew P P' s.heap ∧
        (∀ a o, s.heap.get? a = some o → ∃ o', h'.get? a = some o' ∧ (a ≠ D → ¬ Tch cenv xs a → a ∉ W → o' = o))) (fun _ _ => False) s := by
  refine wpAny_bind (wpAny_mono hd (fun v s' q => ?_) fun _ _ x => x)
  obtain ⟨h₁, t₁, P₁, rfl, k₁, l₁, b₁, f₁, r₁, x⟩ := q
  have c₁ := c.move (tk := t₁) k₁ c.wL c.wc c.wD (fun _ h => .inl h) l₁ b₁ f₁
  (refine el1x2 (c₁.acc) ?_; intro ob hob hZ; refine el2x2 hZ ?_; clear hZ; intro ys k hZ; subst hZ; intro hr)
  have hl := hr.length
  refine wpAny_bind (wpAny_list_append_plain (hsz := by have : ys.size = res.length := by simpa using hl
                                                        exact lin [_, _, _] [.L 1 (.V 0) (.V 1), .E 1 (.V 2) (.V 0)] (.L 1 (.V 2) (.V 1)) rfl hsz this) ⟨k, hob⟩ fun h' hy' hs => wpAny_pure ?_)
  (refine el1x1 hy' ?_; clear hy'; intro k' hy')
  have c₂ := c₁.acc' (tk := t₁) (fun b o hb e => hs.extBut b o hb e) hy' (r' := res ++ [pv]) (in2x2 _ k' rfl (by rw [Array.toList_push]; exact hr.append (.one r₁)))
  refine (in3x6 h' t₁ P₁ rfl c₂ (hX _ _ x fun a ha o e => hs.extBut a o (fun q => c.wD (q ▸ ha)) e) l₁ f₁ (fun a o e => ?_))
  (refine el1x2 (k₁ a o e) ?_; intro o' e' q')
  by_cases q : a = D
  · subst q; exact (in1x2 _ hy' (fun n => absurd rfl n))
  · exact (in1x2 o' (hs.extBut a o' q e') (fun _ _ n => q' n))
theorem CSk.emit {elt : Expr} {res : List PV} {pv : PV} (c : CSk (LK prog w) prog w G n A P₀ h₀ W cenv sc xs D P σ res s) (hd : Den prog w G n sc σ elt pv) (hsz : res.length ≤ sizeLine) (X : Heap → Prop) (hX : ∀ h h', X h → (∀ a ∈ W, ∀ o, h.get? a = some o → h'.get? a = some o) → X h') (x : X s.heap) :
    wpAny (model prog w) A (do let _ ← call (.builtin "list.append") [.ref D, ← eval elt cenv])
      (fun _ s' => ∃ h' tk P', s' = { s with heap := h', toks := tk } ∧ CSk (LK prog w) prog w G n A P₀ h₀ W cenv sc xs D P' σ (res ++ [pv]) s' ∧ X h' ∧ PMap.le P P' ∧ Grew P P' s.heap ∧
        (∀ a o, s.heap.get? a = some o → ∃ o', h'.get? a = some o' ∧ (a ≠ D → ¬ Tch cenv xs a → a ∉ W → o' = o))) (fun _ _ => False) s :=
  c.emitW (hd.go c.cx fun v h₁ t₁ P₁ C₁ k₁ l₁ f₁ r₁ => (in3x7 h₁ t₁ P₁ rfl (KeepX.of k₁) l₁ C₁.sub f₁ r₁ (hX _ _ x fun a _ o e => k₁ a o e))) hsz hX
end
end
section
variable {prog : Program} {w : World} {G : GC} {n : Nat} {sc : Scp} {σ τ : Sto}
theorem coreK {α : Type} {ρ : Type} {K : PMap → ρ → Obj → Prop} {e : Expr} {gs : List Comprehension} {rs : Nat → ρ} {newAcc first : Sem Value} {act : Addr → Env → Sem Unit} {out : ρ → PV} {A : Around} {P : PMap} {env : Env} {s : Shared} {Q : Value → Shared → Prop} {use : Option (Value → Sem Unit)} {iter target : Expr} {ifs : List Expr} {scope : Scope} {pos : Pos} {src : PV}
    {enc : α → PV} {l : List α} {xs : List Str} {p : α → Bool} {σt : α → Sto} {W : List Addr} {X : Nat → Heap → Prop}
    (hcl : clausesOf e = ⟨target, iter, ifs, 0⟩ :: gs) (hfirst : first = eval iter env)
    (hnew : ∀ (s : Shared) (Q : Value → Shared → Prop), (∀ o, o.isFreed = false → (∀ P, K P (rs 0) o) → Q (.ref s.heap.objs.size) { s with heap := s.heap.push o }) → wpAny (model prog w) A newAcc Q (fun _ _ => False) s)
    (hmono : ∀ P P' r o, PMap.le P P' → K P r o → K P' r o)
    (hturn : ∀ D cenv, TurnIs e 0 target iter ifs (.ref D) cenv (act D cenv))
    (hden : ∀ (D : Addr) (cenv : Env) (it : Value) (Q : Fin → Shared → Prop) (E : Value → Shared → Prop) (s : Shared), wpAny (model prog w) A ((compTurn e 0 it (.ref D) cenv).onRaise (fun x => do noteFrame x cenv; theTreesLotGoes x)) Q E s →
      wpAny (model prog w) (A.under (.compLoop e 0 it (.ref D) cenv)) ((model prog w).den (.compLoop e 0 it (.ref D) cenv)) Q E s)
    (hstart : ∀ (D I : Addr) (cenv : Env) (R : Result → Shared → Prop) (s : Shared), codeAny (model prog w) A (.compLoop e 0 (.ref I) (.ref D) cenv) R s → wpAny (model prog w) A (pyIter (.ref I)) (fun it' s' => codeAny (model prog w) A (.compLoop e 0 it' (.ref D) cenv) R s') (notedBy (model prog w) A cenv fun x s' => R (.error x) s') s →
      codeAny (model prog w) A (.compStart e 0 (.ref I) (.ref D) cenv) R s)
    (hfin : ∀ P D o r, K P r o → D ≠ sysModules → P D = none → Rp prog w (P.put D o) (.ref D) (out r))
    (di : Den prog w G n sc σ iter src) (hi : Its prog w src (l.map enc)) (hn : (scope.names.map (·.1)).Nodup) (hk : scope.kind = .function) (hc : Cap σ sc scope.names τ)
    (hxs : ∀ x ∈ xs, (x, NameKind.local) ∈ scope.names ∨ (x, NameKind.cell) ∈ scope.names)
    (hA : ∀ d ∈ l, Asg prog w G n scope.names xs target τ (enc d) (σt d)) (hσ : ∀ d, ∀ q ∈ τ, q ∈ σt d)
    (hT : ∀ d ∈ l, Ifs prog w G n scope.names (σt d) ifs (p d))
    (hX : ∀ j h h', X j h → (∀ a ∈ W, ∀ o, h.get? a = some o → h'.get? a = some o) → X j h')
    (h0 : ∀ j d, l[j]? = some d → p d = false → rs (j + 1) = rs j ∧ ∀ h, X j h → X (j + 1) h)
    (hE : ∀ j d, l[j]? = some d → p d = true → ∀ P₀ h₀ cenv D P' s, PMap.le P P₀ → CSk K prog w G n A P₀ h₀ W cenv scope.names xs D P' (σt d) (rs j) s → (∀ x ∈ xs, Own cenv x) → X j s.heap → (∀ a ∈ W, P' a = none) → wpAny (model prog w) A (act D cenv)
      (fun _ s' => ∃ h' tk P'', s' = { s with heap := h', toks := tk } ∧ CSk K prog w G n A P₀ h₀ W cenv scope.names xs D P'' (σt d) (rs (j + 1)) s' ∧ X (j + 1) h' ∧ PMap.le P' P'' ∧ Grew P' P'' s.heap ∧
        (∀ a o, s.heap.get? a = some o → ∃ o', h'.get? a = some o' ∧ (a ≠ D → ¬ Tch cenv xs a → a ∉ W → o' = o))) (fun _ _ => False) s)
    (C : Cx prog w G n A P env sc σ s) (x0 : X 0 s.heap) (hWc : ∀ q ∈ env.cells, q.2 ∉ W) (hWe : ∀ a ∈ W, (s.heap.get? a).isSome = true) (hWP : ∀ a ∈ W, P a = none)
    (hQ : ∀ v h' tk P', KeepX W s.heap h' → PMap.le P P' → Sub P' h' → Grew P P' s.heap → Rp prog w P' v (out (rs l.length)) → X l.length h' → use = none → Q v { s with heap := h', toks := tk })
    (hU : ∀ u v h' tk P' c, KeepX W s.heap h' → PMap.le P P' → Sub P' h' → Grew P P' s.heap → Rp prog w P' v (out (rs l.length)) → X l.length h' → use = some u → s.heap.get? c = none → P' c = none → (∃ m, h'.Ns c m) →
      wpAny (model prog w) A (u v) (fun _ s'' => ∃ m, s''.heap.Ns c m ∧ ∀ h'', Heap.SameBut c s''.heap h'' → Q .none { s'' with heap := h'' }) (fun _ _ => False) { s with heap := h', toks := tk })
    (hs : ∀ env x, foldedSetIterable iter env x = pure x := by intro _ _; rfl) :
    wpAny (model prog w) A (comprehension e scope env pos newAcc false first use) Q (fun _ _ => False) s := by
  subst hfirst
  refine wpAny_comprehension_free (cl := cloF env scope.names []) hcl (hs env) (closureFor_eq (hc.cells C)) hk (fun x hx e => lookup_nodup hn (by obtain ⟨y, k⟩ := x; dsimp only at e; subst e; exact hx)) ?_
  refine di.go C fun v h₁ tk₁ P₁ C₁ k₁ l₁ g₁ r₁ => ?_
  refine hi P₁ v r₁ A _ _ _ C.room.hd C₁.sub fun o St It st0 => ?_
  dsimp only at It st0 ⊢
  refine hnew _ _ fun oA hoA hKA => ?_
  dsimp only
  generalize hH2 : h₁.push o = h₂ at st0 ⊢
  generalize hH3 : h₂.push oA = h₃
  have k12 : Keep h₁ h₂ := hH2 ▸ Keep.push _ _
  have k23 : Keep h₂ h₃ := hH3 ▸ Keep.push _ _
  have z2 : h₂.objs.size = h₁.objs.size + 1 := by rw [← hH2, Heap.size_push]
  have z3 : h₃.objs.size = h₁.objs.size + 2 := by rw [← hH3, Heap.size_push, z2]
  have C₃ : Cx prog w G n A P₁ env sc σ { s with heap := h₃, toks := tk₁ } := C₁.next (k12.trans k23) (PMap.le_refl _) (C₁.sub.keep (k12.trans k23)) (Grew.refl _ _)
  (refine el0x3 (hc.block C₃ hn hk) ?_; intro CB hown hfc)
  refine wpAny_newBlockEnv fun cenv hce hcl => ?_
  dsimp only at hce hcl CB hown hfc ⊢
  rw [hce, hcl]
  generalize hBE : blockEnv scope env h₃.objs.size (cloF env scope.names []) = be at CB hown hfc ⊢
  have hbl : be.locals = h₃.objs.size := by rw [← hBE]; rfl
  generalize hH4 : pushCells (h₃.push { cls := .type "dict", data := .dict #[] }) scope.names = h₄ at CB ⊢
  have k34 : Keep h₃ h₄ := hH4 ▸ fun b o e => pushCells_keeps _ _ b o (Heap.get?_push_of_some _ e)
  have k14 : Keep h₁ h₄ := (k12.trans k23).trans k34
  have f1 : ∀ a, h₁.objs.size ≤ a → h₁.get? a = none := fun a ha => fresh_size ha
  have Wlt : ∀ a ∈ W, @LT.lt Nat _ a h₁.objs.size := fun a ha => by
    (refine el1x1 (Option.isSome_iff_exists.mp (hWe a ha)) ?_; intro o' ho')
    exact Heap.lt_size (k₁ a o' ho')
  have cellq : ∀ q ∈ be.cells, (∃ x, env.cells.lookup x = some q.2) ∨ @LE.le Nat _ (h₃.objs.size + 1) q.2 := fun q hq => by
    rw [← hBE] at hq
    have eqc : (blockEnv scope env h₃.objs.size (cloF env scope.names [])).cells = cellsFrom (h₃.objs.size + 1) scope.names [] ++ cloF env scope.names [] := by
      show cellsFrom _ _ _ = _; rw [cellsFrom_append]
    rw [eqc] at hq
    rcases List.mem_append.mp hq with hq | hq
    · exact .inr (cellsFrom_mem _ _ q.1 q.2 hq).2
    · rcases cloF_mem _ _ q.1 q.2 hq with hq | ⟨hq, e⟩
      · cases hq
      · (refine el1x1 (hc.cells C q.1 hq) ?_; intro c hc')
        rw [hc'] at e
        exact .inl ⟨q.1, by rw [e]; exact hc'⟩
  have cellge : ∀ q ∈ be.cells, @LT.lt Nat _ q.2 h₁.objs.size ∨ @LE.le Nat _ (h₃.objs.size + 1) q.2 := fun q hq => by
    rcases cellq q hq with ⟨x, hx⟩ | h
    · (refine el1x1 (C₁.act.cell x q.2 (mem_of_lookup hx)) ?_; intro v hv)
      exact .inl hv.lt
    · exact .inr h
  have hacc : h₄.get? h₂.objs.size = some oA := k34 _ _ (hH3 ▸ Heap.get?_push_size _ hoA)
  have hDn : P₁ h₂.objs.size = none := C₁.sub.fresh (f1 _ (by exact lin [_, _] [.Q 1 (.V 0) (.A (.V 1) (.N 1))] (.L 1 (.V 1) (.V 0)) rfl z2))
  have hIn : P₁ h₁.objs.size = none := C₁.sub.fresh (f1 _ (Nat.le_refl _))
  have cst : CSk K prog w G n A P₁ h₁ W be scope.names xs h₂.objs.size P₁ τ (rs 0) { s with heap := h₄, toks := tk₁ } :=
    ⟨CB, PMap.le_refl _, Grew.refl _ _, KeepX.of k14, hDn, by rw [hbl]; exact neA (by exact fun q => lin [_, _, _] [.E 1 (.V 0) (.A (.V 1) (.N 1)), .Q 1 (.V 2) (.A (.V 1) (.N 2)), .Q 1 (.V 0) (.V 2)] .F rfl z2 z3 q), fun q hq => neA (by rcases cellge q hq with x | x <;> lia), (in1x2 _ hacc (hKA _)), hmono,
      fun q => by have := Wlt _ q; rw [hbl] at this; exact lin [_, _] [.Q 1 (.V 0) (.A (.V 1) (.N 2)), .T 1 (.V 0) (.V 1)] .F rfl z3 this, fun q hq hW => by
        rcases cellq q hq with ⟨x, hx⟩ | h
        · exact hWc _ (mem_of_lookup hx) hW
        · have := Wlt _ hW; exact lin [_, _, _] [.Q 1 (.V 0) (.A (.V 1) (.N 2)), .L 1 (.A (.V 0) (.N 1)) (.V 2), .T 1 (.V 2) (.V 1)] .F rfl z3 h this, fun q => by have := Wlt _ q; exact lin [_, _] [.Q 1 (.V 0) (.A (.V 1) (.N 1)), .T 1 (.V 0) (.V 1)] .F rfl z2 this, f1 _ (by rw [hbl]; exact lin [_, _] [.Q 1 (.V 0) (.A (.V 1) (.N 2))] (.L 1 (.V 1) (.V 0)) rfl z3),
      fun x hx a ha => by
        have := hfc x a (hxs x hx) ha
        cases q : h₁.get? a with
        | none => rfl
        | some o' => (have := (k12.trans k23) a o' q; rename_i tt; rw [this] at tt; exact no2 tt), f1 _ (by exact lin [_, _] [.Q 1 (.V 0) (.A (.V 1) (.N 1))] (.L 1 (.V 1) (.V 0)) rfl z2)⟩
  have st4 : St 0 h₄ := It.frame _ _ _ st0 (fun o e => k34 _ _ (k23 _ _ e)) (C₁.sub.keep k14)
  have loop : codeAny (model prog w) A (.compLoop e 0 (.ref h₁.objs.size) (.ref h₂.objs.size) be)
      (compPost (model prog w) A (fun _ _ => False) use Q (.ref h₂.objs.size) h₃.objs.size) { s with heap := h₄, toks := tk₁ } := by
    refine loopK (X := X) (rs := rs) (σt := fun j => ((l[j]?).map σt).getD τ) (b := fun j => ((l[j]?).map p).getD false) (P₀ := P₁) (h₀ := h₁) (W := W) (xs := xs) (items := l.map enc) (hturn _ _) (hden _ _)
      It (f1 _ (Nat.le_refl _)) (by rw [hbl]; exact neA (by exact fun q => lin [_, _] [.Q 1 (.V 0) (.A (.V 1) (.N 2)), .Q 1 (.V 1) (.V 0)] .F rfl z3 q)) (fun q hq => neA (by rcases cellge q hq with x | x <;> lia)) (neA (by exact fun q => lin [_, _] [.Q 1 (.V 0) (.A (.V 1) (.N 1)), .Q 1 (.V 1) (.V 0)] .F rfl z2 q)) (fun q => by have := Wlt _ q; exact lin [_] [.T 1 (.V 0) (.V 0)] .F rfl this) (fun x hx => hown x (hxs x hx)) (fun j d hd => ?_) (fun j q hq => ?_) (fun j d hd => ?_) hX (fun j d hd hb => ?_) (fun j d hd hb P' s' c' x' => ?_) cst (PMap.le_refl _) hIn st4 (hX _ _ _ x0 fun a _ o e => k14 a o (k₁ a o e)) fun P' h' tk c' x' l' g' kk => ?_
    · rw [List.getElem?_map, Option.map_eq_some_iff] at hd
      (refine el1x2 hd ?_; clear hd; intro a ha hZ; subst hZ)
      rw [ha]; exact hA a (List.mem_of_getElem? ha)
    · cases hd : l[j]? with
      | none => exact hq
      | some d => exact hσ d q hq
    · rw [List.getElem?_map, Option.map_eq_some_iff] at hd
      (refine el1x2 hd ?_; clear hd; intro a ha hZ; subst hZ)
      rw [ha]; exact hT a (List.mem_of_getElem? ha)
    · rw [List.getElem?_map, Option.map_eq_some_iff] at hd
      (refine el1x2 hd ?_; clear hd; intro a ha hZ; subst hZ)
      rw [ha] at hb
      exact h0 j a ha hb
    · rw [List.getElem?_map, Option.map_eq_some_iff] at hd
      (refine el1x2 hd ?_; clear hd; intro a ha hZ; subst hZ)
      rw [ha] at hb c' ⊢
      exact hE j a ha hb _ _ be _ P' s' l₁ c' (fun x hx => hown x (hxs x hx)) x' fun a ha => by
        (refine el1x1 (Option.isSome_iff_exists.mp (hWe a ha)) ?_; intro o' ho')
        exact c'.grew.none (k₁ _ _ ho') (g₁.none ho' (hWP a ha))
    · rw [List.length_map] at c' x'
      (refine el1x1 (c'.cx.act.ns) ?_; intro m hm)
      rw [hbl] at hm
      (refine el1x2 (c'.acc) ?_; intro oz hz hr)
      have DC : @Ne Addr h₂.objs.size h₃.objs.size := neA (by exact fun q => lin [_, _, _] [.E 1 (.V 0) (.A (.V 1) (.N 1)), .Q 1 (.V 2) (.A (.V 1) (.N 2)), .Q 1 (.V 0) (.V 2)] .F rfl z2 z3 q)
      have hDP : P' h₂.objs.size = none := c'.offD
      have CP : P' h₃.objs.size = none := hbl ▸ c'.cx.off.1
      have main : ∀ h'', (∀ b o, b ≠ h₃.objs.size → h'.get? b = some o → h''.get? b = some o) → (KeepX W s.heap h'') ∧ Sub (P'.put h₂.objs.size oz) h'' := fun h'' hs => by
        refine ⟨(KeepX.of k₁).trans fun a o e => ?_, PMap.put_sub (fun a o e => hs _ _ (fun q => by rw [q, CP] at e; exact no1 e) (c'.cx.sub a o e)) (hs _ _ DC hz)⟩
        have : a ≠ h₃.objs.size := fun q => by rw [q, f1 _ (by exact lin [_, _] [.Q 1 (.V 0) (.A (.V 1) (.N 2))] (.L 1 (.V 1) (.V 0)) rfl z3)] at e; exact no1 e
        (refine el1x2 (c'.keep a o e) ?_; intro o' e' q)
        exact (in1x2 o' (hs _ _ this e') q)
      have lput : PMap.le P (P'.put h₂.objs.size oz) := (l₁.trans c'.le).trans (PMap.put_le hDP)
      have gput : Grew P (P'.put h₂.objs.size oz) s.heap := g₁.trans (PMap.put_grew c'.grew (f1 _ (by exact lin [_, _] [.Q 1 (.V 0) (.A (.V 1) (.N 1))] (.L 1 (.V 1) (.V 0)) rfl z2))) k₁
      have rput : Rp prog w (P'.put h₂.objs.size oz) (.ref h₂.objs.size) (out (rs l.length)) := hfin _ _ _ _ hr (fun q => by (refine el1x1 (C.ok.mods) ?_; intro om hm); have := C₁.sub _ _ (C₁.base _ _ hm); rw [← q, f1 _ (by exact lin [_, _] [.Q 1 (.V 0) (.A (.V 1) (.N 1))] (.L 1 (.V 1) (.V 0)) rfl z2)] at this; exact no1 this) hDP
      have xx : ∀ h'', (∀ b o, b ≠ h₃.objs.size → h'.get? b = some o → h''.get? b = some o) → X l.length h'' := fun h'' hs => hX _ _ _ x' fun a ha o e => hs a o (fun q => by have := Wlt _ ha; rw [q] at this; exact lin [_, _] [.Q 1 (.V 0) (.A (.V 1) (.N 2)), .T 1 (.V 0) (.V 1)] .F rfl z3 this) e
      cases use with
      | none =>
        refine (in1x2 m hm (fun h'' hs => ?_))
        (refine el0x2 (main h'' fun b o hb e => hs.extBut b o hb e) ?_; intro m1 m2)
        exact hQ _ h'' tk _ m1 lput m2 gput rput (xx h'' fun b o hb e => hs.extBut b o hb e) rfl
      | some u =>
        (refine el0x2 (main h' fun b o hb e => e) ?_; intro m1 m2)
        refine hU u _ h' tk _ h₃.objs.size m1 lput m2 gput rput (xx h' fun b o hb e => e) rfl ?_ ?_ ⟨m, hm⟩
        · cases q : s.heap.get? h₃.objs.size with
          | none => rfl
          | some o' => have := k₁ _ _ q; rw [f1 _ (by exact lin [_, _] [.Q 1 (.V 0) (.A (.V 1) (.N 2))] (.L 1 (.V 1) (.V 0)) rfl z3)] at this; exact no1 this
        · simp only [PMap.put, if_neg DC.symm, CP]
  exact hstart _ _ _ _ _ loop (It.self A 0 _ _ _ C.room.hd st4 loop)
end
section
variable {prog : Program} {w : World} {G : GC} {n : Nat} {sc : Scp} {σ τ : Sto}
theorem comp_core {α : Type} {A : Around} {P : PMap} {env : Env} {s : Shared} {Q : Value → Shared → Prop} {use : Option (Value → Sem Unit)} {elt iter target : Expr} {ifs : List Expr} {scope : Scope} {pos : Pos} {src : PV}
    {enc : α → PV} {l : List α} {xs : List Str} {p : α → Bool} {g : α → PV} {σt : α → Sto} {W : List Addr} {X : Nat → Heap → Prop}
    (di : Den prog w G n sc σ iter src) (hi : Its prog w src (l.map enc)) (hn : (scope.names.map (·.1)).Nodup) (hk : scope.kind = .function) (hc : Cap σ sc scope.names τ)
    (hxs : ∀ x ∈ xs, (x, NameKind.local) ∈ scope.names ∨ (x, NameKind.cell) ∈ scope.names)
    (hA : ∀ d ∈ l, Asg prog w G n scope.names xs target τ (enc d) (σt d)) (hσ : ∀ d, ∀ q ∈ τ, q ∈ σt d)
    (hT : ∀ d ∈ l, Ifs prog w G n scope.names (σt d) ifs (p d))
    (hX : ∀ j h h', X j h → (∀ a ∈ W, ∀ o, h.get? a = some o → h'.get? a = some o) → X j h')
    (hX0 : ∀ j d h, l[j]? = some d → p d = false → X j h → X (j + 1) h)
    (hE : ∀ j d, l[j]? = some d → p d = true → ∀ A P' cenv s, PMap.le P P' → Cx prog w G n A P' cenv scope.names (σt d) s → X j s.heap → (∀ a ∈ W, P' a = none) → wpAny (model prog w) A (eval elt cenv)
      (fun v s' => ∃ h' tk P'', s' = { s with heap := h', toks := tk } ∧ KeepX W s.heap h' ∧ PMap.le P' P'' ∧ Sub P'' h' ∧ Grew P' P'' s.heap ∧ Rp prog w P'' v (g d) ∧ X (j + 1) h') (fun _ _ => False) s)
    (hsz : l.length ≤ sizeLine) (C : Cx prog w G n A P env sc σ s) (x0 : X 0 s.heap) (hWL : env.locals ∉ W) (hWc : ∀ q ∈ env.cells, q.2 ∉ W) (hWe : ∀ a ∈ W, (s.heap.get? a).isSome = true) (hWP : ∀ a ∈ W, P a = none)
    (hQ : ∀ v h' tk P', KeepX W s.heap h' → PMap.le P P' → Sub P' h' → Grew P P' s.heap → Rp prog w P' v (.list ((l.filter p).map g)) → X l.length h' → use = none → Q v { s with heap := h', toks := tk })
    (hU : ∀ u v h' tk P' c, KeepX W s.heap h' → PMap.le P P' → Sub P' h' → Grew P P' s.heap → Rp prog w P' v (.list ((l.filter p).map g)) → X l.length h' → use = some u → s.heap.get? c = none → P' c = none → (∃ m, h'.Ns c m) →
      wpAny (model prog w) A (u v) (fun _ s'' => ∃ m, s''.heap.Ns c m ∧ ∀ h'', Heap.SameBut c s''.heap h'' → Q .none { s'' with heap := h'' }) (fun _ _ => False) { s with heap := h', toks := tk })
    (hs : ∀ env x, foldedSetIterable iter env x = pure x := by intro _ _; rfl) :
    wpAny (model prog w) A (comprehension (.ListComp elt [⟨target, iter, ifs, 0⟩] scope pos) scope env (firstIterPos [⟨target, iter, ifs, 0⟩] pos) (newList []) (firstAsync [⟨target, iter, ifs, 0⟩]) (firstIter [⟨target, iter, ifs, 0⟩] env) use) Q (fun _ _ => False) s := by
  refine coreK (K := LK prog w) (rs := fun j => ((l.take j).filter p).map g) (out := .list) (p := p) (σt := σt) (W := W) (X := X) (gs := []) (xs := xs)
    (act := fun D cenv => (do let _ ← call (.builtin "list.append") [.ref D, ← eval elt cenv]))
    rfl rfl (fun s Q h => wpAny_newObj_type (hd := by size_fits) (h _ rfl fun P => (in2x2 _ _ rfl (.nil)))) (fun _ _ _ _ l k => k.mono l) (fun D cenv it => by rfl) (fun _ _ _ _ _ _ h => h)
    (fun D I cenv R s h0 h => codeAny_compStart_list h0 h) (fun P D o r k nd hD => by
      (refine el2x2 k ?_; clear k; intro ys kk hZ; subst hZ; intro hr)
      exact .list (PMap.put_self _ _ _) (hr.mono (PMap.put_le hD))) di hi hn hk hc hxs hA hσ hT hX (fun j d hd hb => ⟨?_, fun h => hX0 j d h hd hb⟩)
    (fun j d hd hb P₀ h₀ cenv D P' s lo c hown x hWn => ?_) C x0 hWc hWe hWP (fun v h' tk P' k l b gr r => ?_) (fun u v h' tk P' c k l b gr r => ?_) hs
  · rw [List.take_add_one, hd, Option.toList_some, List.filter_append, List.map_append, List.filter_cons_of_neg (by rw [hb]; exact Bool.false_ne_true), List.filter_nil, List.map_nil, List.append_nil]
  · have hj : j < l.length := (List.getElem?_eq_some_iff.mp hd).1
    have e : ((l.take (j + 1)).filter p).map g = ((l.take j).filter p).map g ++ [g d] := by
      rw [List.take_add_one, hd, Option.toList_some, List.filter_append, List.map_append, List.filter_cons_of_pos hb, List.filter_nil, List.map_cons, List.map_nil]
    rw [e]
    have hz : (((l.take j).filter p).map g).length ≤ sizeLine := by
      rw [List.length_map]; exact Nat.le_trans (List.length_filter_le _ _) (Nat.le_trans (List.length_take_le _ _) (Nat.le_trans (Nat.le_of_lt hj) hsz))
    exact c.emitW (hE j d hd hb A P' cenv s (lo.trans c.le) c.cx x hWn) hz (hX _)
  · rw [List.take_length] at r; exact hQ v h' tk P' k l b gr r
  · rw [List.take_length] at r; exact hU u v h' tk P' c k l b gr r
theorem den_compG {α : Type} {elt iter target : Expr} {ifs : List Expr} {scope : Scope} {pos : Pos} {src : PV} {enc : α → PV} {l : List α} {xs : List Str} {p : α → Bool} {g : α → PV} {σt : α → Sto}
    (di : Den prog w G n sc σ iter src) (hi : Its prog w src (l.map enc)) (hn : (scope.names.map (·.1)).Nodup) (hk : scope.kind = .function) (hc : Cap σ sc scope.names τ)
    (hxs : ∀ x ∈ xs, (x, NameKind.local) ∈ scope.names ∨ (x, NameKind.cell) ∈ scope.names)
    (hA : ∀ d ∈ l, Asg prog w G n scope.names xs target τ (enc d) (σt d)) (hσ : ∀ d, ∀ q ∈ τ, q ∈ σt d)
    (hT : ∀ d ∈ l, Ifs prog w G n scope.names (σt d) ifs (p d))
    (hE : ∀ d ∈ l, p d = true → Den prog w G n scope.names (σt d) elt (g d)) (hsz : l.length ≤ sizeLine)
    (hs : ∀ env x, foldedSetIterable iter env x = pure x := by intro _ _; rfl) :
    Den prog w G n sc σ (.ListComp elt [⟨target, iter, ifs, 0⟩] scope pos) (.list ((l.filter p).map g)) := .mk fun A P env s C => by
  rw [eval_ListComp]
  refine comp_core (use := none) (W := []) (X := fun _ _ => True) di hi hn hk hc hxs hA hσ hT (fun _ _ _ _ _ => trivial) (fun _ _ _ _ _ _ => trivial) (fun j d hd hb A P' env' s' _ C' _ _ => ?_) hsz C trivial (by simp) (by simp) (by simp) (by simp)
    (fun v h' tk P' k l b gr r _ _ => (in3x6 h' tk P' rfl k.keep l b gr r)) (fun _ _ _ _ _ _ _ _ _ _ _ _ e => by exact no1 e) hs
  exact (hE d (List.mem_of_getElem? hd) hb).go C' fun v h' tk P'' C'' k l f r => (in3x7 h' tk P'' rfl (KeepX.of k) l C''.sub f r trivial)
end
section
variable {prog : Program} {w : World} {G : GC} {n : Nat} {sc : Scp} {σ τ : Sto} {P : PMap} {s : Shared}
theorem Ends.pushed {o : Obj} {pv : PV} {tk : Nat} (b : Sub P s.heap) (ho : o.isFreed = false) (r : Rp prog w (P.put s.heap.objs.size o) (.ref s.heap.objs.size) pv) :
    Ends prog w P s (.ref s.heap.objs.size) pv { s with heap := s.heap.push o, toks := tk } :=
  have n : P s.heap.objs.size = none := b.fresh (fresh_size (Nat.le_refl _))
  (in3x6 _ tk (P.put s.heap.objs.size o) rfl (Keep.push _ _) (PMap.put_le n) (PMap.put_sub (b.keep (Keep.push _ _)) (Heap.get?_push_size _ ho)) (PMap.put_grew (Grew.refl _ _) (fresh_size (Nat.le_refl _))) r)
theorem Ends.pushedL {vs : Array Value} {k : Nat} {l : List PV} {tk : Nat} (b : Sub P s.heap) (h : RpL prog w P vs.toList l) :
    Ends prog w P s (.ref s.heap.objs.size) (.list l) { s with heap := s.heap.push { cls := .type "list", data := .seq vs k }, toks := tk } :=
  Ends.pushed b rfl (.list (PMap.put_self _ _ _) (h.mono (PMap.put_le (b.fresh (fresh_size (Nat.le_refl _))))))
theorem Ends.pushedT {vs : Array Value} {k : Nat} {l : List PV} {tk : Nat} (b : Sub P s.heap) (h : RpL prog w P vs.toList l) :
    Ends prog w P s (.ref s.heap.objs.size) (.tuple l) { s with heap := s.heap.push { cls := .type "tuple", data := .seq vs k }, toks := tk } :=
  Ends.pushed b rfl (.tuple (PMap.put_self _ _ _) (h.mono (PMap.put_le (b.fresh (fresh_size (Nat.le_refl _))))))
theorem Sub.isList {h : Heap} (b : Sub P h) {a : Addr} {vs : Array Value} {k : Nat} (e : P a = some { cls := .type "list", data := .seq vs k }) : h.IsList a vs := (in1x3 _ (b _ _ e) rfl ⟨ k, rfl⟩)
theorem Sub.isTuple {h : Heap} (b : Sub P h) {a : Addr} {vs : Array Value} {k : Nat} (e : P a = some { cls := .type "tuple", data := .seq vs k }) : h.IsTuple a vs := (in1x3 _ (b _ _ e) rfl ⟨ k, rfl⟩)
theorem den_mul {l r : Expr} {p : Pos} {a b : Int} (dl : Den prog w G n sc σ l (.int a)) (dr : Den prog w G n sc σ r (.int b)) (ha : a.natAbs < 2 ^ 64) (hb : b.natAbs < 2 ^ 64) : Den prog w G n sc σ (.BinOp l .Mult r p) (.int (a * b)) :=
  den_bin dl dr fun A P env s u v C ru rv => by
    (refine Rp.int_el ru ?_; clear ru; intro _ h; subst h); (refine Rp.int_el rv ?_; clear rv; intro _ h; subst h)
    exact PySem.P.mul_int (Ends.tok C.sub (.int _ _) _) (mulOk_of_bits (intBits_le ha) (intBits_le hb) (by decide))
theorem den_fdiv {l r : Expr} {p : Pos} {a b : Int} (dl : Den prog w G n sc σ l (.int a)) (dr : Den prog w G n sc σ r (.int b)) (hb : b ≠ 0) (hb' : b.natAbs < 1073741824) : Den prog w G n sc σ (.BinOp l .FloorDiv r p) (.int (a.fdiv b)) :=
  den_bin dl dr fun A P env s u v C ru rv => by
    (refine Rp.int_el ru ?_; clear ru; intro _ h; subst h); (refine Rp.int_el rv ?_; clear rv; intro _ h; subst h)
    exact floordiv_int hb (Ends.tok C.sub (.int _ _) _) (.inl (PyProof.noPylong_small hb'))
theorem den_pow {l r : Expr} {p : Pos} {a b : Int} (dl : Den prog w G n sc σ l (.int a)) (dr : Den prog w G n sc σ r (.int b)) (ha : a.natAbs < 2 ^ 64) (hb : 0 ≤ b) (hb' : b ≤ 1000000) : Den prog w G n sc σ (.BinOp l .Pow r p) (.int (a ^ b.toNat)) :=
  den_bin dl dr fun A P env s u v C ru rv => by
    (refine Rp.int_el ru ?_; clear ru; intro _ h; subst h); (refine Rp.int_el rv ?_; clear rv; intro _ h; subst h)
    exact pow_int_small hb hb' ha (Ends.tok C.sub (.int _ _) _)
theorem den_subB {l r : Expr} {p : Pos} {a b : Bool} (dl : Den prog w G n sc σ l (.bool a)) (dr : Den prog w G n sc σ r (.bool b)) : Den prog w G n sc σ (.BinOp l .Sub r p) (.int (b2i a - b2i b)) :=
  den_bin dl dr fun A P env s u v C ru rv => by
    (have h := Rp.bool_inv ru; clear ru; subst h); (have h := Rp.bool_inv rv; clear rv; subst h)
    exact sub_bool (Ends.tok C.sub (.int _ _) _)
theorem den_neg {e : Expr} {p : Pos} {a : Int} (d : Den prog w G n sc σ e (.int a)) : Den prog w G n sc σ (.UnaryOp .USub e p) (.int (-a)) := .mk fun A P env s C =>
  wpAny_UnaryOp (d.go C fun v h₁ t₁ P₁ C₁ k₁ l₁ f₁ r₁ => by
    (refine Rp.int_el r₁ ?_; clear r₁; intro _ h; subst h); exact PySem.P.neg_int (Ends.back k₁ l₁ f₁ (Ends.tok C₁.sub (.int _ _) _)))
theorem den_cmp {l r : Expr} {op : CmpOp} {p : Pos} {a b c : PV} (dl : Den prog w G n sc σ l a) (dr : Den prog w G n sc σ r b)
    (h : ∀ (A : Around) (P : PMap) (env : Env) (s : Shared) (u v : Value), Cx prog w G n A P env sc σ s → Rp prog w P u a → Rp prog w P v b → wpAny (model prog w) A (compareOp op u v) (fun v s' => Ends prog w P s v c s') (fun _ _ => False) s)
    (hm : behindInMarks op r = false := by with_unfolding_all rfl) :
    Den prog w G n sc σ (.Compare l [op] [r] p) c := .mk fun A P env s C => by
  refine wpAny_Compare1 (dl.go C fun u h₁ t₁ P₁ C₁ k₁ l₁ f₁ r₁ => dr.go C₁ fun v h₂ t₂ P₂ C₂ k₂ l₂ f₂ r₂ => ?_) hm
  exact wpAny_mono (h A P₂ env _ u v C₂ (r₁.mono l₂) r₂) (fun _ _ e => Ends.back k₁ l₁ f₁ (Ends.back (s := { s with heap := h₁, toks := t₁ }) k₂ l₂ f₂ e)) fun _ _ x => x
noncomputable def Cmp (prog : Program) (w : World) (op : CmpOp) (a b : PV) (c : Bool) : Prop :=
  ∀ (A : Around) (P : PMap) (s : Shared) (u v : Value) (Q : Value → Shared → Prop), A.handled = none → A.units + 80 < cLine → Sub P s.heap → Rp prog w P u a → Rp prog w P v b → (∀ tk, Q (.bool c) { s with toks := tk }) → wpAny (model prog w) A (compareOp op u v) Q (fun _ _ => False) s
theorem den_cmpB {l r : Expr} {op : CmpOp} {p : Pos} {a b : PV} {c : Bool} (dl : Den prog w G n sc σ l a) (dr : Den prog w G n sc σ r b) (h : Cmp prog w op a b c) (hm : behindInMarks op r = false := by with_unfolding_all rfl) :
    Den prog w G n sc σ (.Compare l [op] [r] p) (.bool c) :=
  den_cmp dl dr (fun A P env s u v C ru rv => h A P s u v _ C.room.hd (by have := C.room.un; exact lin [_, _, _] [.T 1 (.A (.A (.V 0) (.N 80)) (.M 10 (.V 1))) (.V 2)] (.T 1 (.A (.V 0) (.N 80)) (.V 2)) rfl this) C.sub ru rv fun tk => Ends.tok C.sub (.bool c) tk) hm
theorem dent_cmp {l r : Expr} {op : CmpOp} {p : Pos} {a b : PV} {c : Bool} (dl : Den prog w G n sc σ l a) (dr : Den prog w G n sc σ r b) (h : Cmp prog w op a b c) (hm : behindInMarks op r = false := by with_unfolding_all rfl) :
    DenT prog w G n sc σ (.Compare l [op] [r] p) c := .mk fun A P env s C => by
  refine wpAny_isTrue_Compare1 (dl.go C fun u h₁ t₁ P₁ C₁ k₁ l₁ f₁ r₁ => dr.go C₁ fun v h₂ t₂ P₂ C₂ k₂ l₂ f₂ r₂ => ?_) hm
  exact h A P₂ _ u v _ C₂.room.hd (by have := C₂.room.un; exact lin [_, _, _] [.T 1 (.A (.A (.V 0) (.N 80)) (.M 10 (.V 1))) (.V 2)] (.T 1 (.A (.V 0) (.N 80)) (.V 2)) rfl this) C₂.sub (r₁.mono l₂) r₂ fun tk => wpAny_truthy_bool ⟨rfl, Ends.back k₁ l₁ f₁ (Ends.back (s := { s with heap := h₁, toks := t₁ }) k₂ l₂ f₂ (Ends.tok C₂.sub .none tk))⟩
theorem cmp_eqI {a b : Int} : Cmp prog w .Eq (.int a) (.int b) (a == b) := fun _ _ _ _ _ _ _ _ _ ru rv h => by (refine Rp.int_el ru ?_; clear ru; intro _ h; subst h); (refine Rp.int_el rv ?_; clear rv; intro _ h; subst h); exact PySem.P.eq_int (h _)
theorem cmp_neI {a b : Int} : Cmp prog w .NotEq (.int a) (.int b) (a != b) := fun _ _ _ _ _ _ _ _ _ ru rv h => by (refine Rp.int_el ru ?_; clear ru; intro _ h; subst h); (refine Rp.int_el rv ?_; clear rv; intro _ h; subst h); exact PySem.P.ne_int (h _)
theorem cmp_ltI {a b : Int} : Cmp prog w .Lt (.int a) (.int b) (decide (a < b)) := fun _ _ _ _ _ _ _ _ _ ru rv h => by (refine Rp.int_el ru ?_; clear ru; intro _ h; subst h); (refine Rp.int_el rv ?_; clear rv; intro _ h; subst h); exact PySem.P.lt_int (h _)
theorem cmp_gtI {a b : Int} : Cmp prog w .Gt (.int a) (.int b) (decide (a > b)) := fun _ _ _ _ _ _ _ _ _ ru rv h => by (refine Rp.int_el ru ?_; clear ru; intro _ h; subst h); (refine Rp.int_el rv ?_; clear rv; intro _ h; subst h); exact PySem.P.gt_int (h _)
theorem cmp_geI {a b : Int} : Cmp prog w .GtE (.int a) (.int b) (decide (a ≥ b)) := fun _ _ _ _ _ _ _ _ _ ru rv h => by (refine Rp.int_el ru ?_; clear ru; intro _ h; subst h); (refine Rp.int_el rv ?_; clear rv; intro _ h; subst h); exact PySem.P.ge_int (h _)
theorem cmp_inS {x y : Str} : Cmp prog w .In (.str y) (.str x) (Txt.contains x y) := fun _ _ _ _ _ _ _ _ _ ru rv h => by (refine Rp.str_el ru ?_; clear ru; intro _ h; subst h); (refine Rp.str_el rv ?_; clear rv; intro _ h; subst h); exact PySem.P.in_str (h _)
mutual
noncomputable def PV.py : PV → PyData
  | .none => .none
  | .bool b => .bool b
  | .int i => .int i
  | .str x => .str x
  | .list l => .list (PV.pys l)
  | .tuple l => .tuple (PV.pys l)
  | .dI _ => .none
  | .dS _ => .none
  | .rng _ _ _ => .none
  | .inst _ _ _ => .none
  | .view _ _ => .none
  | .raw _ => .none
noncomputable def PV.pys : List PV → List PyData
  | [] => []
  | x :: r => PV.py x :: PV.pys r
end
mutual
noncomputable def PV.flat : PV → Bool
  | .none => true
  | .bool _ => true
  | .int _ => true
  | .str _ => true
  | .list l => PV.flats l
  | .tuple l => PV.flats l
  | .dI _ => false
  | .dS _ => false
  | .rng _ _ _ => false
  | .inst _ _ _ => false
  | .view _ _ => false
  | .raw _ => false
noncomputable def PV.flats : List PV → Bool
  | [] => true
  | x :: r => PV.flat x && PV.flats r
end
theorem Rp.reads {h : Heap} (b : Sub P h) {v : Value} {d : PV} (r : Rp prog w P v d) : d.flat = true → ∃ as, Reads h v d.py as :=
  Rp.rec (motive_1 := fun v d _ => d.flat = true → ∃ as, Reads h v d.py as) (motive_2 := fun vs ds _ => PV.flats ds = true → ∃ as, ReadsAll h vs (PV.pys ds) as)
    (fun _ => ⟨[], .none⟩) (fun b _ => ⟨[], .bool b⟩) (fun i t _ => ⟨[], .int i t⟩) (fun x t _ => ⟨[], .str x t⟩)
    (fun e _ ih f => (ih f).elim fun _ ha => ⟨_, .list (b _ _ e) rfl rfl ha⟩) (fun e _ ih f => (ih f).elim fun _ ha => ⟨_, .tuple (b _ _ e) rfl rfl ha⟩)
    (fun _ _ _ _ f => no3 f) (fun _ _ _ _ f => no3 f) (fun _ f => no3 f) (fun _ _ _ _ _ _ _ _ _ _ _ _ f => no3 f) (fun _ _ _ _ f => no3 f) (fun _ f => no3 f)
    (fun _ => ⟨[], .nil⟩) (fun _ _ ih ihs f => (ih ((Bool.and_eq_true _ _).mp f).1).elim fun _ ha => (ihs ((Bool.and_eq_true _ _).mp f).2).elim fun _ hb => ⟨_, .cons ha hb⟩) r
noncomputable def PV.okd (d : PV) : Bool := d.flat && SeqAt.shaped d.py
noncomputable def PV.eqv (a b : PV) : Bool := PyData.eqv a.py b.py
theorem cmp_eq {a b : PV} (ha : a.okd = true) (hb : b.okd = true) : Cmp prog w .Eq a b (a.eqv b) := fun A P s u v Q hh hu hs ru rv h => by
  simp only [PV.okd, Bool.and_eq_true] at ha hb
  (refine el1x1 (ru.reads hs ha.1) ?_; intro as ra)
  (refine el1x1 (rv.reads hs hb.1) ?_; intro bs rb)
  exact SeqAt.compareEq_shaped ra rb ha.2 hb.2 (by exact lin [_, _] [.T 1 (.A (.V 0) (.N 80)) (.V 1)] (.T 1 (.A (.V 0) (.N 64)) (.V 1)) rfl hu) (h _)
theorem cmp_ne {a b : PV} (ha : a.okd = true) (hb : b.okd = true) : Cmp prog w .NotEq a b (!a.eqv b) := fun A P s u v Q hh hu hs ru rv h => by
  simp only [PV.okd, Bool.and_eq_true] at ha hb
  (refine el1x1 (ru.reads hs ha.1) ?_; intro as ra)
  (refine el1x1 (rv.reads hs hb.1) ?_; intro bs rb)
  exact SeqAt.compareNe_shaped ra rb ha.2 hb.2 (by exact lin [_, _] [.T 1 (.A (.V 0) (.N 80)) (.V 1)] (.T 1 (.A (.V 0) (.N 64)) (.V 1)) rfl hu) (h _)
theorem dent_bool {e : Expr} {b : Bool} (d : Den prog w G n sc σ e (.bool b)) (he : ∀ env (t : Sem Value), isTrue e env t = (do let v ← t; standAt e.pos; holding [v] (truthy v)) := by intros; rfl) : DenT prog w G n sc σ e b := .mk fun A P env s C => by
  rw [he]
  refine wpAny_bind (d.go C fun v h₁ t₁ P₁ C₁ k₁ l₁ f₁ r₁ => ?_)
  (have h := Rp.bool_inv r₁; clear r₁; subst h)
  exact wpAny_bind (wpAny_standAt (wpAny_holding (wpAny_truthy_bool ⟨rfl, Ends.back k₁ l₁ f₁ (Ends.now C₁.sub .none)⟩)))
theorem dent_not {e : Expr} {p : Pos} {b : Bool} (d : DenT prog w G n sc σ e b) : DenT prog w G n sc σ (.UnaryOp .Not e p) (!b) := .mk fun A P env s C =>
  wpAny_isTrue_Not (wpAny_mono (d.run A P env s C) (fun v s' h => ⟨by rw [h.1], h.2⟩) fun _ _ x => x)
theorem dent_or {e f : Expr} {p : Pos} {a b : Bool} (d : DenT prog w G n sc σ e a) (d' : a = false → DenT prog w G n sc σ f b) : DenT prog w G n sc σ (.BoolOp .Or [e, f] p) (a || b) := .mk fun A P env s C => by
  refine isTrue_or (d.go C fun h₁ t₁ P₁ C₁ k₁ l₁ f₁ => ?_)
  cases a with
  | true => exact ⟨rfl, Ends.back k₁ l₁ f₁ (Ends.now C₁.sub .none)⟩
  | false =>
    refine isTrue_or ((d' rfl).go C₁ fun h₂ t₂ P₂ C₂ k₂ l₂ f₂ => ?_)
    have e := Ends.back k₁ l₁ f₁ (Ends.back (s := { s with heap := h₁, toks := t₁ }) k₂ l₂ f₂ (Ends.now (prog := prog) (w := w) (v := .none) (pv := .none) C₂.sub .none))
    cases b with
    | true => exact ⟨rfl, e⟩
    | false => exact isTrue_or_nil ⟨rfl, e⟩
theorem dent_and {e f : Expr} {p : Pos} {a b : Bool} (d : DenT prog w G n sc σ e a) (d' : a = true → DenT prog w G n sc σ f b) : DenT prog w G n sc σ (.BoolOp .And [e, f] p) (a && b) := .mk fun A P env s C => by
  refine isTrue_and (d.go C fun h₁ t₁ P₁ C₁ k₁ l₁ f₁ => ?_)
  cases a with
  | false => exact ⟨rfl, Ends.back k₁ l₁ f₁ (Ends.now C₁.sub .none)⟩
  | true =>
    refine isTrue_and ((d' rfl).go C₁ fun h₂ t₂ P₂ C₂ k₂ l₂ f₂ => ?_)
    have e := Ends.back k₁ l₁ f₁ (Ends.back (s := { s with heap := h₁, toks := t₁ }) k₂ l₂ f₂ (Ends.now (prog := prog) (w := w) (v := .none) (pv := .none) C₂.sub .none))
    cases b with
    | false => exact ⟨rfl, e⟩
    | true => exact isTrue_and_nil ⟨rfl, e⟩
theorem den_if {t e f : Expr} {p : Pos} {b : Bool} {x : PV} (d : DenT prog w G n sc σ t b) (de : b = true → Den prog w G n sc σ e x) (df : b = false → Den prog w G n sc σ f x) : Den prog w G n sc σ (.IfExp t e f p) x := .mk fun A P env s C => by
  refine wpAny_IfExp (d.go C fun h₁ t₁ P₁ C₁ k₁ l₁ f₁ => ?_)
  cases b with
  | true => exact wpAny_mono ((de rfl).run A P₁ env _ C₁) (fun _ _ e => Ends.back k₁ l₁ f₁ e) fun _ _ x => x
  | false => exact wpAny_mono ((df rfl).run A P₁ env _ C₁) (fun _ _ e => Ends.back k₁ l₁ f₁ e) fun _ _ x => x
structure Dens (prog : Program) (w : World) (G : GC) (n : Nat) (sc : Scp) (σ : Sto) (es : List Expr) (ds : List PV) : Prop where
  run : ∀ (A : Around) (P : PMap) (env : Env) (s : Shared) (pos : Pos) (Q : List Value → Shared → Prop), Cx prog w G n A P env sc σ s →
    (∀ vs h' tk P', Cx prog w G n A P' env sc σ { s with heap := h', toks := tk } → Keep s.heap h' → PMap.le P P' → Grew P P' s.heap → RpL prog w P' vs ds → Q vs { s with heap := h', toks := tk }) →
    wpAny (model prog w) A (spliced (backTo pos (starEach es env))) Q (fun _ _ => False) s
theorem dens_nil : Dens prog w G n sc σ [] [] := .mk fun A P env s pos Q C h => spliced_nil (h [] s.heap s.toks P C (Keep.refl _) (PMap.le_refl _) (Grew.refl _ _) .nil)
theorem dens_cons {e : Expr} {es : List Expr} {d : PV} {ds : List PV} (de : Den prog w G n sc σ e d) (des : Dens prog w G n sc σ es ds)
    (he : ∀ env, starEach (e :: es) env = (false, eval e env) :: starEach es env := by intro _; rfl) : Dens prog w G n sc σ (e :: es) (d :: ds) := .mk fun A P env s pos Q C h => by
  rw [he]
  show wpAny _ _ (spliced ((false, eval e env) :: backTo pos (starEach es env))) _ _ _
  refine spliced_cons (de.go C fun v h₁ t₁ P₁ C₁ k₁ l₁ f₁ r₁ => des.run A P₁ env _ pos _ C₁ fun vs h₂ t₂ P₂ C₂ k₂ l₂ f₂ r₂ => ?_)
  exact h (v :: vs) h₂ t₂ P₂ C₂ (k₁.trans k₂) (l₁.trans l₂) (f₁.trans f₂ k₁) (.cons (r₁.mono l₂) r₂)
theorem den_list {es : List Expr} {ds : List PV} {p : Pos} (d : Dens prog w G n sc σ es ds) (hz : ds.length ≤ sizeLine) : Den prog w G n sc σ (.List es p) (.list ds) := .mk fun A P env s C =>
  List_ (d.run A P env s p _ C fun vs h' tk P' C' k l f r => wpAny_newObj_type (Ends.back k l f (Ends.pushedL (tk := tk) C'.sub (by simpa using r))) (by show vs.toArray.size ≤ sizeLine; rw [List.size_toArray, r.length]; exact hz))
theorem den_tuple {es : List Expr} {ds : List PV} {k : Nat} {p : Pos} (d : Dens prog w G n sc σ es ds) (hz : ds.length ≤ sizeLine) : Den prog w G n sc σ (.Tuple es k p) (.tuple ds) := .mk fun A P env s C =>
  Tuple_ (d.run A P env s p _ C fun vs h' tk P' C' k l f r => wpAny_newObj_type (Ends.back k l f (Ends.pushedT (tk := tk) C'.sub (by simpa using r))) (by show vs.toArray.size ≤ sizeLine; rw [List.size_toArray, r.length]; exact hz))
end
section
variable {prog : Program} {w : World} {G : GC} {n : Nat} {sc : Scp} {σ τ : Sto} {P : PMap} {s : Shared}
theorem den_addS {l r : Expr} {p : Pos} {x y : Str} (dl : Den prog w G n sc σ l (.str x)) (dr : Den prog w G n sc σ r (.str y)) (hz : x.length + y.length ≤ sizeLine) : Den prog w G n sc σ (.BinOp l .Add r p) (.str (x ++ y)) :=
  den_bin dl dr fun A P env s u v C ru rv => by
    (refine Rp.str_el ru ?_; clear ru; intro _ h; subst h); (refine Rp.str_el rv ?_; clear rv; intro _ h; subst h); exact SB.add (fun t k => Ends.tok C.sub (.str _ _) _) hz
theorem mulOk_small {x : Str} {i : Int} (hx : x.length ≤ 16) (hlo : 0 ≤ i) (hhi : i ≤ 1048576) : MulOk x i := by
  refine (in0x3 ?_ (fun h1 _ h => ?_) (fun h1 _ => ?_))
  · have a : ¬ i < -(2 ^ 63) := by lia
    have b : ¬ i ≥ 2 ^ 63 := by lia
    rw [decide_eq_false a, decide_eq_false b]; rfl
  · have h2 : (2 ^ 63 - 1) / i ≥ 16 := by
      apply Int.le_ediv_of_mul_le (by lia)
      lia
    have : (x.length : Int) ≤ 16 := by exact_mod_cast hx
    lia
  · unfold Builtin.Str.tooLong
    have : x.length * i.toNat ≤ 16 * 1048576 := Nat.mul_le_mul hx (by lia)
    simp [sizeLine]; omega
theorem den_mulS {l r : Expr} {p : Pos} {x : Str} {i : Int} (dl : Den prog w G n sc σ l (.str x)) (dr : Den prog w G n sc σ r (.int i)) (hx : x.length ≤ 16) (hlo : 0 ≤ i) (hhi : i ≤ 1048576) : Den prog w G n sc σ (.BinOp l .Mult r p) (.str (Txt.mul x i)) :=
  den_bin dl dr fun A P env s u v C ru rv => by
    (refine Rp.str_el ru ?_; clear ru; intro _ h; subst h); (refine Rp.int_el rv ?_; clear rv; intro _ h; subst h); exact SB.mul (mulOk_small hx hlo hhi) fun t k => Ends.tok C.sub (.str _ _) _
theorem den_addL {l r : Expr} {p : Pos} {x y : List PV} (dl : Den prog w G n sc σ l (.list x)) (dr : Den prog w G n sc σ r (.list y)) (hz : x.length + y.length ≤ sizeLine) : Den prog w G n sc σ (.BinOp l .Add r p) (.list (x ++ y)) :=
  den_bin dl dr fun A P env s u v C ru rv => by
    (refine el3x3 (ru.list_inv) ?_; intro a vs k hZ; subst hZ; intro ea ra)
    (refine el3x3 (rv.list_inv) ?_; intro b us j hZ; subst hZ; intro eb rb)
    have la := ra.length; have lb := rb.length
    refine concat_meets (in1x2 _ (C.sub _ _ ea) rfl) (in1x2 _ (C.sub _ _ eb) rfl) noFill_list_add seq_list_add PySem.F.slot_list_add PySem.F.entry_list_add (PySem.F.args_list_add_2 _ _)
      (list_addW a b vs us k j none none #[] #[] (by simp only [Array.length_toList] at la lb; exact lin [_, _, _, _, _] [.L 1 (.A (.V 0) (.V 1)) (.V 2), .E 1 (.V 3) (.V 0), .E 1 (.V 4) (.V 1)] (.L 1 (.A (.V 3) (.V 4)) (.V 2)) rfl hz la lb)) (in0x3 (C.sub _ _ ea) (C.sub _ _ eb) ?_)
    exact Ends.pushedL (tk := s.toks) C.sub (by rw [Array.toList_append]; exact ra.append rb)
theorem RpL.replicate {vs : List Value} {ds : List PV} (h : RpL prog w P vs ds) : ∀ k, RpL prog w P (List.replicate k vs).flatten (List.replicate k ds).flatten
  | 0 => .nil
  | k + 1 => by rw [List.replicate_succ, List.replicate_succ, List.flatten_cons, List.flatten_cons]; exact h.append (RpL.replicate h k)
theorem foldl_append_flatten (l : List (Array Value)) : ∀ acc : Array Value, (l.foldl (fun x1 x2 => x1 ++ x2) acc).toList = acc.toList ++ (l.map Array.toList).flatten := by
  induction l with
  | nil => intro acc; simp
  | cons x l ih => intro acc; rw [List.foldl_cons, ih]; simp
theorem den_mulL {l r : Expr} {p : Pos} {x : List PV} {i : Int} (dl : Den prog w G n sc σ l (.list x)) (dr : Den prog w G n sc σ r (.int i)) (hlo : 0 ≤ i) (hhi : i < 2 ^ 63) (hz : x.length * i.toNat ≤ 2 ^ 24) :
    Den prog w G n sc σ (.BinOp l .Mult r p) (.list (List.replicate i.toNat x).flatten) :=
  den_bin dl dr fun A P env s u v C ru rv => by
    (refine el3x3 (ru.list_inv) ?_; intro a vs k hZ; subst hZ; intro ea ra)
    cases rv with
    | int _ t =>
    have hl := C.sub _ _ ea
    have la := ra.length
    have sz : vs.size = x.length := by simpa using la
    have hz' : vs.size * i.toNat ≤ 2 ^ 24 := by rw [sz]; exact hz
    refine wpAny_binaryOp_repeat_ref (T := "list") (U := "int") (by decide) (in1x2 _ hl rfl) (fun s' => typeIs_int s' i t) noFill_list_mul F.fills_int_mul F.slot_int_rmul repeat_list F.slot_int_index.lookup
      (call_meets F.slot_int_rmul (typeIs_int s i t) F.entry_int_rmul (F.args_int_rmul_2 _ _) (int___rmul___int_list i t a vs k)
        (in0x4 hl rfl (in1x2 _ hl rfl) (call_meets F.slot_list_mul (in1x2 _ hl rfl) F.entry_list_mul (F.args_list_mul_2 _ _)
          (AutoListH.list___mul___list_int_3 a vs k i t (by simp [Builtin.List.listFitsIndex]; lia) (by omega) (by simp [Builtin.List.listTooLong, sizeLine]; omega))
          ⟨hl, Ends.pushedL (tk := s.toks) C.sub ?_⟩)))
    rw [foldl_append_flatten]
    by_cases he : vs.isEmpty = true
    · have : vs.toList = [] := by simpa using he
      rw [this] at ra; cases ra
      rw [if_pos he]
      have : (List.replicate i.toNat ([] : List PV)).flatten = [] := by simp
      rw [this]; exact .nil
    · rw [if_neg he, List.map_replicate]; exact ra.replicate _
theorem den_item {value slice : Expr} {p : Pos} {l : List PV} {i : Int} {d : PV} (dv : Den prog w G n sc σ value (.list l)) (di : Den prog w G n sc σ slice (.int i)) (h0 : 0 ≤ i) (hhi : i < 2 ^ 63) (hd : l[i.toNat]? = some d)
    (hs : ∀ a t, subscripted slice false (.ref a) (.int i t) = operate [.ref a, .int i t] (getItem (.ref a) (.int i t)) := by intros; with_unfolding_all rfl) : Den prog w G n sc σ (.Subscript value slice p) d := .mk fun A P env s C => by
  refine Subscript_ (dv.go C fun u h₁ t₁ P₁ C₁ k₁ l₁ f₁ r₁ => di.go C₁ fun v h₂ t₂ P₂ C₂ k₂ l₂ f₂ r₂ => ?_)
  (refine el3x3 (r₁.list_inv) ?_; intro a vs k hZ; subst hZ; intro ea ra)
  (refine Rp.int_el r₂ ?_; clear r₂; intro _ h; subst h)
  (refine el1x2 (ra.get hd) ?_; intro x hx rx)
  have hL := C₂.sub.isList (l₂ _ _ ea)
  refine PyProof.Rows.tail_any hL.typeIs slot_list_getitem.lookup (wpAny_getItem_list hL h0 hhi (by simpa using hx) ?_) (hs _ _)
  exact Ends.back k₁ l₁ f₁ (Ends.back (s := { s with heap := h₁, toks := t₁ }) k₂ l₂ f₂ (Ends.now C₂.sub (rx.mono l₂)))
theorem den_itemT {value slice : Expr} {p : Pos} {l : List PV} {i : Int} {d : PV} (dv : Den prog w G n sc σ value (.tuple l)) (di : Den prog w G n sc σ slice (.int i)) (h0 : 0 ≤ i) (hhi : i < 2 ^ 63) (hd : l[i.toNat]? = some d)
    (hs : ∀ a t, subscripted slice false (.ref a) (.int i t) = operate [.ref a, .int i t] (getItem (.ref a) (.int i t)) := by intros; with_unfolding_all rfl) : Den prog w G n sc σ (.Subscript value slice p) d := .mk fun A P env s C => by
  refine Subscript_ (dv.go C fun u h₁ t₁ P₁ C₁ k₁ l₁ f₁ r₁ => di.go C₁ fun v h₂ t₂ P₂ C₂ k₂ l₂ f₂ r₂ => ?_)
  (refine el3x3 (r₁.tuple_inv) ?_; intro a vs k hZ; subst hZ; intro ea ra)
  (refine Rp.int_el r₂ ?_; clear r₂; intro _ h; subst h)
  (refine el1x2 (ra.get hd) ?_; intro x hx rx)
  have hL : IsTup { s with heap := h₂, toks := t₂ }.heap a vs := C₂.sub.isTuple (l₂ _ _ ea)
  have hlt : i.toNat < vs.size := by
    have := (List.getElem?_eq_some_iff.mp hd).1
    have := ra.length; simp only [Array.length_toList] at this; lia
  have hj : seqIndex? i vs.size = some i.toNat := by
    unfold seqIndex?
    simp only [show ¬ i < 0 by lia, if_false]
    have h1 : (i.toNat : Int) = i := Int.toNat_of_nonneg h0
    have h2 : i < (vs.size : Int) := by lia
    simp [h0, h2]
  refine PyProof.Rows.tail_any (Heap.IsTuple.typeIs (s := { s with heap := h₂, toks := t₂ }) hL) slot_tuple_getitem.lookup (getItem_tuple hL (by lia) hhi hj (by simpa using hx) ?_) (hs _ _)
  exact Ends.back k₁ l₁ f₁ (Ends.back (s := { s with heap := h₁, toks := t₁ }) k₂ l₂ f₂ (Ends.now C₂.sub (rx.mono l₂)))
noncomputable def DenP (prog : Program) (w : World) (G : GC) (n : Nat) (sc : Scp) (σ : Sto) : Option Expr → Option Int → Prop
  | none, none => True
  | some e, some i => Den prog w G n sc σ e (.int i)
  | _, _ => False
theorem denP_none : DenP prog w G n sc σ none none := trivial
theorem denP_some {e : Expr} {i : Int} (d : Den prog w G n sc σ e (.int i)) : DenP prog w G n sc σ (some e) (some i) := d
theorem DenP.go {e : Option Expr} {i : Option Int} {A : Around} {P : PMap} {env : Env} {s : Shared} {Q : Value → Shared → Prop} (D : DenP prog w G n sc σ e i) (C : Cx prog w G n A P env sc σ s)
    (h : ∀ v h' tk P', Cx prog w G n A P' env sc σ { s with heap := h', toks := tk } → Keep s.heap h' → PMap.le P P' → Grew P P' s.heap → IsPart v i → Q v { s with heap := h', toks := tk }) :
    wpAny (model prog w) A (evalPart e env) Q (fun _ _ => False) s := by
  cases e with
  | none =>
    cases i with
    | none => rw [evalPart_none]; exact wpAny_pure (h .none s.heap s.toks P C (Keep.refl _) (PMap.le_refl _) (Grew.refl _ _) .none)
    | some i => cases D
  | some e =>
    cases i with
    | none => cases D
    | some i =>
      rw [evalPart_some]
      exact Den.go D C fun v h' tk P' C' k l f r => h v h' tk P' C' k l f (by (refine Rp.int_el r ?_; clear r; intro _ h; subst h); exact .int _ _)
noncomputable def pickL (l : List PV) (lo hi st : Option Int) : List PV := (sliceRange (sliceBounds lo hi st l.length).1 (sliceBounds lo hi st l.length).2.1 (sliceBounds lo hi st l.length).2.2).filterMap (l[·]?)
theorem RpL.places {vs : List Value} {ds : List PV} (h : RpL prog w P vs ds) : ∀ js : List Nat, RpL prog w P (js.filterMap (vs[·]?)) (js.filterMap (ds[·]?))
  | [] => .nil
  | j :: js => by
    have ih := RpL.places h js
    cases hd : ds[j]? with
    | some d =>
      (refine el1x2 (h.get hd) ?_; intro v hv r)
      simp only [List.filterMap_cons, hd, hv]
      exact .cons r ih
    | none =>
      have hv : vs[j]? = none := by
        rw [List.getElem?_eq_none_iff] at hd ⊢
        rw [h.length]; exact hd
      simp only [List.filterMap_cons, hd, hv]
      exact ih
theorem den_slice {value : Expr} {lower upper step : Option Expr} {p p' : Pos} {l : List PV} {lo hi st : Option Int} (dv : Den prog w G n sc σ value (.list l)) (dl : DenP prog w G n sc σ lower lo) (du : DenP prog w G n sc σ upper hi) (dk : DenP prog w G n sc σ step st)
    (h0 : st ≠ some 0) (hz : l.length ≤ sizeLine) : Den prog w G n sc σ (.Subscript value (.Slice lower upper step p') p) (.list (pickL l lo hi st)) := .mk fun A P env s C => by
  refine Subscript_ (dv.go C fun u h₁ t₁ P₁ C₁ k₁ l₁ f₁ r₁ => wpAny_Slice (dl.go C₁ fun vl h₂ t₂ P₂ C₂ k₂ l₂ f₂ pl => du.go C₂ fun vu h₃ t₃ P₃ C₃ k₃ l₃ f₃ pu => dk.go C₃ fun vk h₄ t₄ P₄ C₄ k₄ l₄ f₄ pk => ?_))
  (refine el3x3 (r₁.list_inv) ?_; intro a vs k hZ; subst hZ; intro ea ra)
  have l14 : PMap.le P₁ P₄ := (l₂.trans l₃).trans l₄
  have hL := C₄.sub.isList (l14 _ _ ea)
  have sz : vs.size = l.length := by have := ra.length; simpa using this
  have hL' : (h₄.push { cls := .type "slice", data := .fields #[vl, vu, vk] }).IsList a vs := hL.push _
  have fin : ∀ ops, subscripted (.Slice lower upper step p') false (.ref a) (.ref h₄.objs.size) = operate ops (getItem (.ref a) (.ref h₄.objs.size)) →
      wpAny (model prog w) A (subscriptTail value (.Slice lower upper step p') (.ref a) (.ref h₄.objs.size)) (fun v s' => Ends prog w P s v (.list (pickL l lo hi st)) s') (fun _ _ => False) { s with heap := h₄.push { cls := .type "slice", data := .fields #[vl, vu, vk] }, toks := t₄ } := fun ops hs => by
    refine PyProof.Rows.tail_any (Heap.IsList.typeIs (s := { s with heap := h₄.push { cls := .type "slice", data := .fields #[vl, vu, vk] }, toks := t₄ }) hL') slot_list_getitem.lookup (wpAny_getItem_list_slice hL' (Heap.IsSliceOf.new ..) pl pu pk h0 ?_ (by exact lin [_, _, _] [.L 1 (.V 0) (.V 1), .E 1 (.V 2) (.V 0)] (.L 1 (.V 2) (.V 1)) rfl hz sz)) hs
    have b' : Sub P₄ (h₄.push { cls := .type "slice", data := .fields #[vl, vu, vk] }) := C₄.sub.keep (Keep.push _ _)
    refine Ends.back k₁ l₁ f₁ (Ends.back (s := { s with heap := h₁, toks := t₁ }) k₂ l₂ f₂ (Ends.back (s := { s with heap := h₂, toks := t₂ }) k₃ l₃ f₃ (Ends.back (s := { s with heap := h₃, toks := t₃ }) k₄ l₄ f₄
      (Ends.back (s := { s with heap := h₄, toks := t₄ }) (Keep.push _ _) (PMap.le_refl _) (Grew.refl _ _) (Ends.pushedL (tk := t₄) b' ?_)))))
    unfold slicePick pickL
    rw [sz]
    have := (ra.mono l14).places (sliceRange (sliceBounds lo hi st l.length).1 (sliceBounds lo hi st l.length).2.1 (sliceBounds lo hi st l.length).2.2)
    simpa using this
  cases step with
  | none => exact fin _ (by with_unfolding_all rfl)
  | some e => exact fin _ (by with_unfolding_all rfl)
theorem den_sliceS {value : Expr} {upper : Expr} {p p' : Pos} {x : Str} {j : Int} (dv : Den prog w G n sc σ value (.str x)) (du : Den prog w G n sc σ upper (.int j)) (hz : x.length ≤ sizeLine) :
    Den prog w G n sc σ (.Subscript value (.Slice none (some upper) none p') p) (.str (Txt.slice x none (some j))) := .mk fun A P env s C => by
  refine Subscript_ (dv.go C fun u h₁ t₁ P₁ C₁ k₁ l₁ f₁ r₁ => wpAny_Slice ?_)
  rw [evalPart_none, evalPart_some]
  refine wpAny_pure (du.go C₁ fun vu h₂ t₂ P₂ C₂ k₂ l₂ f₂ r₂ => ?_)
  refine wpAny_pure ?_
  (refine Rp.str_el r₁ ?_; clear r₁; intro _ h; subst h); (refine Rp.int_el r₂ ?_; clear r₂; intro _ h; subst h)
  refine tail_of_ItemOn (SBH.sliceItem_ns (s := { s with heap := h₂, toks := t₂ }) (P := Keep h₂) (fun h ob k => k.trans (Keep.push _ _)) (Keep.refl _) (fun h' t' k kk => ?_) hz) (by with_unfolding_all rfl) (by intro _; cases value <;> with_unfolding_all rfl)
  exact Ends.back k₁ l₁ f₁ (Ends.back (s := { s with heap := h₁, toks := t₁ }) k₂ l₂ f₂ (Ends.back (s := { s with heap := h₂, toks := t₂ }) kk (PMap.le_refl _) (Grew.refl _ _) (Ends.now (C₂.sub.keep kk) (.str _ _))))
end
section
variable {prog : Program} {w : World} {G : GC} {n : Nat} {A : Around} {P P' : PMap} {env : Env} {sc : Scp} {σ σ' : Sto} {s s' : Shared}
theorem Room.deeper {A : Around} {env : Env} (r : Room (n + 1) A) : Room n (A.deeper env) := ⟨r.hd, by have := r.dp; show A.depth + 1 + n < _; exact lin [_, _, _] [.T 1 (.A (.V 0) (.A (.V 1) (.N 1))) (.V 2)] (.T 1 (.A (.A (.V 0) (.N 1)) (.V 1)) (.V 2)) rfl this, by have := r.un; show A.units + 3 + 80 + 10 * n < _; exact lin [_, _, _] [.T 1 (.A (.A (.V 0) (.N 80)) (.M 10 (.A (.V 1) (.N 1)))) (.V 2)] (.T 1 (.A (.A (.A (.V 0) (.N 3)) (.N 80)) (.M 10 (.V 1))) (.V 2)) rfl this⟩
theorem den_glob {x : Str} {p : Pos} {v : Value} {pv : PV} (hs : (x, NameKind.globalImplicit) ∈ sc) (hv : G.mg x = some v) (r : Rp prog w G.K v pv) (hd : (x == ("__debug__" : Str)) = false := by decide) : Den prog w G n sc σ (.Name x p) pv := .mk fun A P env s C => by
  refine Name_function_global C.act.kind ((C.kl x _ hs).elim id fun h => by cases h.1) (loadGlobal_global (mg := G.mg) (C.glob ▸ C.ok.g.ns (fun a o e => C.sub a o (C.base a o e))) hv ?_) hd
  exact Ends.now C.sub (r.mono C.base)
theorem den_blt {x : Str} {p : Pos} {v : Value} (hs : (x, NameKind.globalImplicit) ∈ sc) (hm : G.mg x = none) (hv : G.mb x = some v) (hd : (x == ("__debug__" : Str)) = false := by decide) : Den prog w G n sc σ (.Name x p) (.raw v) := .mk fun A P env s C => by
  have b : Sub G.K s.heap := fun a o e => C.sub a o (C.base a o e)
  refine Name_function_global C.act.kind ((C.kl x _ hs).elim id fun h => by cases h.1) (loadGlobal_builtin (mg := G.mg) (mb := G.mb) (C.glob ▸ C.ok.g.ns b) hm (C.blt ▸ C.ok.b.ns b) hv ?_) hd
  exact Ends.now C.sub (.raw v)
noncomputable def Con (prog : Program) (w : World) (G : GC) (n : Nat) (f : Value) (ds : List PV) (r : PV) : Prop :=
  ∀ (A : Around) (P : PMap) (s : Shared) (vs : List Value), GOk G → PMap.le G.K P → Sub P s.heap → Room n A → RpL prog w P vs ds → wpAny (model prog w) A (call f vs) (fun v s' => Ends prog w P s v r s') (fun _ _ => False) s
theorem Dens.go0 {es : List Expr} {ds : List PV} {pos : Pos} {f : Value} {Q : Args → Shared → Prop} (hne : ∃ e r, es = e :: r) (d : Dens prog w G n sc σ es ds) (hst : ∀ env, ∀ e r, es = e :: r → ∃ x rest, backTo pos (starEach (e :: r) env) = (false, x) :: rest) (C : Cx prog w G n A P env sc σ s)
    (h : ∀ vs h' tk P', Cx prog w G n A P' env sc σ { s with heap := h', toks := tk } → Keep s.heap h' → PMap.le P P' → Grew P P' s.heap → RpL prog w P' vs ds → Q ⟨vs, []⟩ { s with heap := h', toks := tk }) :
    wpAny (model prog w) A (evalArgs f true (backTo pos (starEach es env)) []) Q (fun _ _ => False) s := by
  (refine el2x1 hne ?_; clear hne; intro e r hZ; subst hZ)
  have := d.run A P env s pos (fun vs s' => Q ⟨vs, []⟩ s') C h
  (refine el2x1 (hst env e r rfl) ?_; intro x rest hx)
  rw [hx] at this ⊢
  exact evalArgs_plain this
theorem evalArgs_none {f : Value} {Q : Args → Shared → Prop} (h : Q ⟨[], []⟩ s) : wpAny (model prog w) A (evalArgs f true [] []) Q (fun _ _ => False) s := by
  unfold evalArgs
  show wpAny _ _ (spliced [] >>= _) _ _ _
  refine wpAny_bind (spliced_nil ?_)
  refine wpAny_bind (wpAny_pure ?_)
  refine wpAny_holding ?_
  exact wpAny_bind (wpAny_pure (wpAny_bind (wpAny_pure (wpAny_pure h))))
structure Argd (prog : Program) (w : World) (G : GC) (n : Nat) (sc : Scp) (σ : Sto) (es : List Expr) (ds : List PV) : Prop where
  run : ∀ (A : Around) (P : PMap) (env : Env) (s : Shared) (pos : Pos) (f : Value) (Q : Args → Shared → Prop), Cx prog w G n A P env sc σ s →
    (∀ vs h' tk P', Cx prog w G n A P' env sc σ { s with heap := h', toks := tk } → Keep s.heap h' → PMap.le P P' → Grew P P' s.heap → RpL prog w P' vs ds → Q ⟨vs, []⟩ { s with heap := h', toks := tk }) →
    (backTo pos (starEach es env)).any (·.1) = false ∧ wpAny (model prog w) A (evalArgs f true (backTo pos (starEach es env)) []) Q (fun _ _ => False) s
theorem argd_nil : Argd prog w G n sc σ [] [] := .mk fun A P env s pos f Q C h => ⟨rfl, evalArgs_none (h [] s.heap s.toks P C (Keep.refl _) (PMap.le_refl _) (Grew.refl _ _) .nil)⟩
theorem argd_cons {e : Expr} {es : List Expr} {ds : List PV} (d : Dens prog w G n sc σ (e :: es) ds)
    (hst : ∀ pos env, ∃ x rest, backTo pos (starEach (e :: es) env) = (false, x) :: rest ∧ rest.any (·.1) = false := by intro _ _; exact ⟨_, _, rfl, rfl⟩) : Argd prog w G n sc σ (e :: es) ds := .mk fun A P env s pos f Q C h => by
  (refine el2x2 (hst pos env) ?_; intro x rest hx hr)
  refine ⟨by rw [hx]; simpa using hr, ?_⟩
  exact d.go0 (in2x1 e es rfl) (fun env' e' r' q => by cases q; (refine el2x2 (hst pos env') ?_; intro x rest hx _); exact (in2x1 x rest hx)) C h
theorem den_call {id : Str} {p pos : Pos} {es : List Expr} {ds : List PV} {f : Value} {r : PV} (df : Den prog w G n sc σ (.Name id p) (.raw f)) (da : Argd prog w G n sc σ es ds) (c : Con prog w G n f ds r)
    (hf : (∃ b, f = .builtin b) ∨ (∃ T, f = .type T) ∨ ∃ a o fd, f = .ref a ∧ G.K a = some o ∧ o.data = .func fd) : Den prog w G n sc σ (.Call (.Name id p) es [] pos) r := .mk fun A P env s C => by
  refine wpAny_Call_Name_kw (df.go C fun u h₁ t₁ P₁ C₁ k₁ l₁ f₁ r₁ => ?_)
  (have h := Rp.raw_inv r₁; clear r₁; subst h)
  have fin : ∀ vs h₂ t₂ P₂, Cx prog w G n A P₂ env sc σ { s with heap := h₂, toks := t₂ } → Keep h₁ h₂ → PMap.le P₁ P₂ → Grew P₁ P₂ h₁ → RpL prog w P₂ vs ds →
      wpAny (model prog w) A (call f vs) (fun v s' => Ends prog w P s v r s') (fun _ _ => False) { s with heap := h₂, toks := t₂ } := fun vs h₂ t₂ P₂ C₂ k₂ l₂ f₂ r₂ =>
    wpAny_mono (c A P₂ _ vs C₂.ok C₂.base C₂.sub C₂.room r₂) (fun _ _ e => Ends.back k₁ l₁ f₁ (Ends.back (s := { s with heap := h₁, toks := t₁ }) k₂ l₂ f₂ e)) fun _ _ x => x
  rcases hf with ⟨b, rfl⟩ | ⟨T, rfl⟩ | ⟨a, o, fd, rfl, ho, hfd⟩
  · (refine el0x2 (da.run A P₁ env _ pos (.builtin b) (fun x s₂ => wpAny (model prog w) A (call (.builtin b) ([] ++ x.pos) x.kw) (fun v s' => Ends prog w P s v r s') (fun _ _ => False) s₂) C₁ fin) ?_; intro h1 h2)
    exact callWith_builtin h1 h2
  · (refine el0x2 (da.run A P₁ env _ pos (.type T) (fun x s₂ => wpAny (model prog w) A (call (.type T) ([] ++ x.pos) x.kw) (fun v s' => Ends prog w P s v r s') (fun _ _ => False) s₂) C₁ fin) ?_; intro h1 h2)
    exact PyProof.Rows.callWith_type h1 h2
  · obtain ⟨h1, h2⟩ := da.run A P₁ env _ pos (.ref a) (fun x s₂ => (s₂.heap.get? a = some o ∧ o.data = .func fd) ∧ wpAny (model prog w) A (call (.ref a) ([] ++ x.pos) x.kw) (fun v s' => Ends prog w P s v r s') (fun _ _ => False) s₂) C₁
      fun vs h₂ t₂ P₂ C₂ k₂ l₂ f₂ r₂ => ⟨⟨C₂.sub a o (C₂.base a o ho), hfd⟩, fin vs h₂ t₂ P₂ C₂ k₂ l₂ f₂ r₂⟩
    exact callWith_function h2
end
structure Fn (prog : Program) (w : World) (G : GC) (n : Nat) (A : Around) (W V : Addr → Prop) (s₀ : Shared) (P₀ : PMap) (env : Env) (sc : Scp) (xs : List Str) (M X P : PMap) (σ : Sto) (s : Shared) : Prop where
  cx : Cx prog w G n A P env sc σ s
  sh : ∃ h tk, s = { s₀ with heap := h, toks := tk }
  le : PMap.le P₀ P
  grew : ∀ a o, P a = some o → P₀ a = some o ∨ V a ∨ s₀.heap.get? a = none
  keep : ∀ b o, s₀.heap.get? b = some o → ∃ o', s.heap.get? b = some o' ∧ (¬ W b → ¬ V b → o' = o)
  muo : Sub M s.heap
  mux : Sub X s.heap
  offM : Off M env
  offX : Off X env
  disM : ∀ a o, M a = some o → P a = none
  disX : ∀ a o, X a = some o → P a = none
  disY : ∀ a o, M a = some o → X a = none
  wM : ∀ a o, M a = some o → V a ∨ s₀.heap.get? a = none
  wX : ∀ a o, X a = some o → W a ∨ s₀.heap.get? a = none
  own : ∀ x ∈ xs, Own env x ∧ (x == ("__debug__" : Str)) = false
  wE : W env.locals ∨ s₀.heap.get? env.locals = none
  wC : ∀ x ∈ xs, ∀ a, env.cells.lookup x = some a → W a ∨ s₀.heap.get? a = none
  kx : ∀ x k, (x, k) ∈ sc → env.kindOf x = some k
  nd : xs.Nodup
  bk : env.blockKind = .function
section
variable {prog : Program} {w : World} {G : GC} {n : Nat} {A : Around} {W V : Addr → Prop} {s₀ : Shared} {P₀ : PMap} {env : Env} {sc : Scp} {xs : List Str} {M X P M' X' P' : PMap} {σ σ' : Sto} {s s' : Shared}
theorem Fn.noTch (F : Fn prog w G n A W V s₀ P₀ env sc xs M X P σ s) {a : Addr} {o : Obj} (h : P a = some o ∨ M a = some o ∨ X a = some o) : ¬ Tch env xs a := fun t => by
  have : P a = none ∧ M a = none ∧ X a = none := by
    rcases t with rfl | ⟨x, _, hx⟩
    · exact (in0x3 (F.cx.off.1) (F.offM.1) (F.offX.1))
    · exact (in0x3 (F.cx.off.2 _ (mem_of_lookup hx)) (F.offM.2 _ (mem_of_lookup hx)) (F.offX.2 _ (mem_of_lookup hx)))
  rcases h with h | h | h
  · rw [this.1] at h; exact no1 h
  · rw [this.2.1] at h; exact no1 h
  · rw [this.2.2] at h; exact no1 h
theorem Fn.move (F : Fn prog w G n A W V s₀ P₀ env sc xs M X P σ s) {h' : Heap} {tk : Nat} (k : Keep s.heap h') (l : PMap.le P P') (b : Sub P' h') (g : Grew P P' s.heap) : Fn prog w G n A W V s₀ P₀ env sc xs M X P' σ { s with heap := h', toks := tk } where
  cx := F.cx.next k l b g
  sh := let ⟨h, t, e⟩ := F.sh; (in2x1 h' tk (by rw [e]))
  le := F.le.trans l
  grew := fun a o e => by
    rcases g a o e with x | x
    · exact F.grew a o x
    · refine .inr (.inr ?_)
      cases q : s₀.heap.get? a with
      | none => rfl
      | some o' => (refine el1x2 (F.keep a o' q) ?_; intro o'' e' _); rw [e'] at x; exact no2 x
  keep := fun a o e => let ⟨o', e', q⟩ := F.keep a o e; (in1x2 o' (k a o' e') q)
  muo := F.muo.keep k
  mux := F.mux.keep k
  offM := F.offM
  offX := F.offX
  disM := fun a o e => g.none (F.muo a o e) (F.disM a o e)
  disX := fun a o e => g.none (F.mux a o e) (F.disX a o e)
  disY := F.disY
  wM := F.wM
  wX := F.wX
  own := F.own
  wE := F.wE
  wC := F.wC
  kx := F.kx
  nd := F.nd
  bk := F.bk
theorem Fn.weak (F : Fn prog w G n A W V s₀ P₀ env sc xs M X P σ s) (h : ∀ p ∈ σ', p ∈ σ) : Fn prog w G n A W V s₀ P₀ env sc xs M X P σ' s :=
  { F with cx := F.cx.sub' h }
theorem Fn.stored (F : Fn prog w G n A W V s₀ P₀ env sc xs M X P σ s) {h' : Heap} {tk : Nat} (C : Cx prog w G n A P' env sc σ' { s with heap := h', toks := tk }) (k : KeepT env xs s.heap h') (l : PMap.le P P') (g : Grew P P' s.heap) : Fn prog w G n A W V s₀ P₀ env sc xs M X P' σ' { s with heap := h', toks := tk } where
  cx := C
  sh := let ⟨h, t, e⟩ := F.sh; (in2x1 h' tk (by rw [e]))
  le := F.le.trans l
  grew := fun a o e => by
    rcases g a o e with x | x
    · exact F.grew a o x
    · refine .inr (.inr ?_)
      cases q : s₀.heap.get? a with
      | none => rfl
      | some o' => (refine el1x2 (F.keep a o' q) ?_; intro o'' e' _); rw [e'] at x; exact no2 x
  keep := fun a o e => by
    (refine el1x2 (F.keep a o e) ?_; intro o' e' q)
    (refine el1x2 (k a o' e') ?_; intro o'' e'' q')
    refine (in1x2 o'' e'' (fun n1 n2 => (q' fun t => ?_).trans (q n1 n2)))
    rcases t with r | ⟨x, hx, r⟩
    · subst r; rcases F.wE with x | x
      · exact n1 x
      · rw [x] at e; exact no1 e
    · rcases F.wC x hx a r with x | x
      · exact n1 x
      · rw [x] at e; exact no1 e
  muo := fun a o e => k.get (F.muo a o e) (F.noTch (.inr (.inl e)))
  mux := fun a o e => k.get (F.mux a o e) (F.noTch (.inr (.inr e)))
  offM := F.offM
  offX := F.offX
  disM := fun a o e => g.none (F.muo a o e) (F.disM a o e)
  disX := fun a o e => g.none (F.mux a o e) (F.disX a o e)
  disY := F.disY
  wM := F.wM
  wX := F.wX
  own := F.own
  wE := F.wE
  wC := F.wC
  kx := F.kx
  nd := F.nd
  bk := F.bk
theorem Fn.turn (F : Fn prog w G n A W V s₀ P₀ env sc xs M X P σ s) {a : Addr} {o o' : Obj} {h' : Heap} {tk : Nat} (e : M a = some o) (e' : h'.get? a = some o') (hb : ∀ b ob, b ≠ a → s.heap.get? b = some ob → h'.get? b = some ob) :
    Fn prog w G n A W V s₀ P₀ env sc xs (M.put a o') X P σ { s with heap := h', toks := tk } := by
  have nP : P a = none := F.disM a o e
  have nX : X a = none := F.disY a o e
  have kx : KeepX [a] s.heap h' := fun b ob q => by
    by_cases hh : b = a
    · subst hh; exact (in1x2 o' e' (fun z => absurd (by simp) z))
    · exact (in1x2 ob (hb b ob hh q) (fun _ => rfl))
  have nL : env.locals ∉ [a] := fun q => by rw [List.mem_singleton.mp q |>.symm, F.offM.1] at e; exact no1 e
  have nC : ∀ p ∈ env.cells, p.2 ∉ [a] := fun p hp q => by rw [List.mem_singleton.mp q |>.symm, F.offM.2 p hp] at e; exact no1 e
  refine { F with cx := F.cx.nextX kx nL nC (PMap.le_refl _) (fun b ob q => hb b ob (fun z => by rw [z, nP] at q; exact no1 q) (F.cx.sub b ob q)) (Grew.refl _ _), sh := let ⟨h, t, z⟩ := F.sh; (in2x1 h' tk (by rw [z])), keep := fun b ob q => ?_, muo := fun b ob q => ?_, mux := fun b ob q => hb b ob (fun z => by rw [z, nX] at q; exact no1 q) (F.mux b ob q), offM := ?_, disM := fun b ob q => ?_, disY := fun b ob q => ?_, wM := fun b ob q => ?_ }
  · (refine el1x2 (F.keep b ob q) ?_; intro o1 e1 q1)
    (refine el1x2 (kx b o1 e1) ?_; intro o2 e2 q2)
    refine (in1x2 o2 e2 (fun n1 n2 => (q2 fun z => ?_).trans (q1 n1 n2)))
    rw [List.mem_singleton.mp z] at q n2
    rcases F.wM a o e with x | x
    · exact n2 x
    · rw [x] at q; exact no1 q
  · by_cases z : b = a
    · subst z; simp [PMap.put] at q; rw [e', q]
    · simp [PMap.put, z] at q; exact hb b ob z (F.muo b ob q)
  · refine ⟨?_, fun p hp => ?_⟩
    · have : env.locals ≠ a := fun z => nL (by simp [z])
      simp [PMap.put, this, F.offM.1]
    · have : p.2 ≠ a := fun z => nC p hp (by simp [z])
      simp [PMap.put, this, F.offM.2 p hp]
  · by_cases z : b = a
    · subst z; exact nP
    · simp [PMap.put, z] at q; exact F.disM b ob q
  · by_cases z : b = a
    · subst z; exact nX
    · simp [PMap.put, z] at q; exact F.disY b ob q
  · by_cases z : b = a
    · subst z; exact F.wM b o e
    · simp [PMap.put, z] at q; exact F.wM b ob q
theorem Fn.take (F : Fn prog w G n A W V s₀ P₀ env sc xs M X P σ s) {a : Addr} {o : Obj} {h' : Heap} {tk : Nat} (k : Keep s.heap h') (e : s.heap.get? a = none) (e' : h'.get? a = some o) :
    Fn prog w G n A W V s₀ P₀ env sc xs (M.put a o) X P σ { s with heap := h', toks := tk } := by
  have F' := F.move (tk := tk) k (PMap.le_refl _) (F.cx.sub.keep k) (Grew.refl _ _)
  have nP : P a = none := F.cx.sub.fresh e
  have nX : X a = none := F.mux.fresh e
  refine { F' with muo := PMap.put_sub F'.muo e', offM := ?_, disM := fun b ob q => ?_, disY := fun b ob q => ?_, wM := fun b ob q => ?_ }
  · refine ⟨?_, fun p hp => ?_⟩
    · have : env.locals ≠ a := fun z => by (refine el4x2 (F.cx.act.ns) ?_; intro m o1 es ep ho _); rw [z, e] at ho; exact no1 ho
      simp [PMap.put, this, F.offM.1]
    · have : p.2 ≠ a := fun z => by (refine el2x2 (F.cx.act.cell p.1 p.2 hp) ?_; intro v o1 ho _); rw [z, e] at ho; exact no1 ho
      simp [PMap.put, this, F.offM.2 p hp]
  · by_cases z : b = a
    · subst z; exact nP
    · simp [PMap.put, z] at q; exact F.disM b ob q
  · by_cases z : b = a
    · subst z; exact nX
    · simp [PMap.put, z] at q; exact F.disY b ob q
  · by_cases z : b = a
    · subst z
      refine .inr ?_
      cases q' : s₀.heap.get? b with
      | none => rfl
      | some o' => (refine el1x2 (F.keep b o' q') ?_; intro o'' e'' _); rw [e] at e''; exact no1 e''
    · simp [PMap.put, z] at q; exact F.wM b ob q
noncomputable def PMap.del (P : PMap) (a : Addr) : PMap := fun b => if b = a then none else P b
theorem Fn.freeze (F : Fn prog w G n A W V s₀ P₀ env sc xs M X P σ s) {a : Addr} {o : Obj} (e : M a = some o) : Fn prog w G n A W V s₀ P₀ env sc xs (M.del a) X (P.put a o) σ s := by
  have nP : P a = none := F.disM a o e
  have ll : PMap.le P (P.put a o) := PMap.put_le nP
  have C := F.cx
  refine { F with cx := ⟨C.ok, C.base.trans ll, PMap.put_sub C.sub (F.muo a o e), C.act, ⟨?_, fun p hp => ?_⟩, C.glob, C.blt, C.kl, fun x pv hx => let ⟨d, v, y, r⟩ := C.vars x pv hx; ⟨d, v, y, r.mono ll⟩, C.room⟩, le := F.le.trans ll, grew := fun b ob q => ?_, muo := fun b ob q => ?_, offM := ⟨?_, fun p hp => ?_⟩, disM := fun b ob q => ?_, disX := fun b ob q => ?_, disY := fun b ob q => ?_, wM := fun b ob q => ?_ }
  · have : env.locals ≠ a := fun z => by rw [← z, F.offM.1] at e; exact no1 e
    simp [PMap.put, this, C.off.1]
  · have : p.2 ≠ a := fun z => by rw [← z, F.offM.2 p hp] at e; exact no1 e
    simp [PMap.put, this, C.off.2 p hp]
  · by_cases z : b = a
    · subst z; exact .inr (F.wM b o e)
    · simp [PMap.put, z] at q; exact F.grew b ob q
  · by_cases z : b = a
    · simp [PMap.del, z] at q
    · simp [PMap.del, z] at q; exact F.muo b ob q
  · simp [PMap.del, F.offM.1]
  · simp [PMap.del, F.offM.2 p hp]
  · by_cases z : b = a
    · simp [PMap.del, z] at q
    · simp [PMap.del, z] at q; simp [PMap.put, z]; exact F.disM b ob q
  · by_cases z : b = a
    · subst z; rw [F.disY b o e] at q; exact no1 q
    · simp [PMap.put, z]; exact F.disX b ob q
  · by_cases z : b = a
    · simp [PMap.del, z] at q
    · simp [PMap.del, z] at q; exact F.disY b ob q
  · by_cases z : b = a
    · simp [PMap.del, z] at q
    · simp [PMap.del, z] at q; exact F.wM b ob q
theorem Fn.outer (F : Fn prog w G n A W V s₀ P₀ env sc xs M X P σ s) {h' : Heap} {tk : Nat} (k : ∀ b o, s.heap.get? b = some o → ∃ o', h'.get? b = some o' ∧ (X b = none → o' = o)) (l : PMap.le P P') (b : Sub P' h') (g : Grew P P' s.heap)
    (mx : Sub X' h') (dx : ∀ a o, X' a = some o → (X a).isSome = true ∨ (s.heap.get? a = none ∧ P' a = none)) : Fn prog w G n A W V s₀ P₀ env sc xs M X' P' σ { s with heap := h', toks := tk } := by
  have C := F.cx
  have kv : ∀ {a : Addr} {o : Obj}, s.heap.get? a = some o → X a = none → h'.get? a = some o := fun {a o} e n => by (refine el1x2 (k a o e) ?_; intro o' e' q); rw [e', q n]
  refine { F with cx := ⟨C.ok, C.base.trans l, b, ⟨C.act.kind, ?_, fun x c hx => ?_, C.act.apart, C.act.offL⟩, C.off.grow C.act g, C.glob, C.blt, C.kl, fun x pv hx => ?_, C.room⟩, sh := let ⟨h, t, z⟩ := F.sh; (in2x1 h' tk (by rw [z])), le := F.le.trans l, grew := fun a o e => ?_, keep := fun a o e => ?_, muo := fun a o e => kv (F.muo a o e) (F.disY a o e), mux := mx, offX := ⟨?_, fun p hp => ?_⟩, disM := fun a o e => g.none (F.muo a o e) (F.disM a o e), disX := fun a o e => ?_, disY := fun a o e => ?_, wX := fun a o e => ?_ }
  · (refine el4x2 (C.act.ns) ?_; intro m o es ep e r); exact (in4x2 m o es ep (kv e F.offX.1) r)
  · (refine el2x2 (C.act.cell x c hx) ?_; intro v o e r); exact (in2x2 v o (kv e (F.offX.2 _ hx)) r)
  · (refine el0x2 (C.vars x pv hx) ?_; intro d hZ; refine el1x2 hZ ?_; clear hZ; intro v y r)
    exact ⟨d, v, y.imp (fun ⟨a, m, ⟨o, es, ep, e, r⟩, q⟩ => ⟨a, m, (in3x2 o es ep (kv e F.offX.1) r), q⟩) (fun ⟨a, c, e, o, ho, r⟩ => ⟨a, c, e, o, kv ho (F.offX.2 _ (mem_of_lookup e)), r⟩), r.mono l⟩
  · rcases g a o e with x | x
    · exact F.grew a o x
    · refine .inr (.inr ?_)
      cases q : s₀.heap.get? a with
      | none => rfl
      | some o' => (refine el1x2 (F.keep a o' q) ?_; intro o'' e' _); rw [e'] at x; exact no2 x
  · (refine el1x2 (F.keep a o e) ?_; intro o' e' q)
    (refine el1x2 (k a o' e') ?_; intro o'' e'' q')
    refine (in1x2 o'' e'' (fun n1 n2 => (q' ?_).trans (q n1 n2)))
    cases z : X a with
    | none => rfl
    | some oz => rcases F.wX a oz z with x | x
                 · exact absurd x n1
                 · rw [x] at e; exact no1 e
  · cases q : X' env.locals with
    | none => rfl
    | some o => rcases dx _ o q with z | z
                · rw [F.offX.1] at z; exact no3 z
                · (refine el4x2 (C.act.ns) ?_; intro m o1 es ep ho _); rw [z.1] at ho; exact no1 ho
  · cases q : X' p.2 with
    | none => rfl
    | some o => rcases dx _ o q with z | z
                · rw [F.offX.2 p hp] at z; exact no3 z
                · (refine el2x2 (C.act.cell p.1 p.2 hp) ?_; intro v o1 ho _); rw [z.1] at ho; exact no1 ho
  · rcases dx a o e with z | z
    · (refine el1x1 (Option.isSome_iff_exists.mp z) ?_; intro oz hz)
      exact g.none (F.mux a oz hz) (F.disX a oz hz)
    · exact z.2
  · cases q : X' a with
    | none => rfl
    | some o1 => rcases dx a o1 q with z | z
                 · rw [F.disY a o e] at z; exact no3 z
                 · have := F.muo a o e; rw [z.1] at this; exact no1 this
  · rcases dx a o e with z | z
    · (refine el1x1 (Option.isSome_iff_exists.mp z) ?_; intro oz hz)
      exact F.wX a oz hz
    · refine .inr ?_
      cases q : s₀.heap.get? a with
      | none => rfl
      | some o' => (refine el1x2 (F.keep a o' q) ?_; intro o'' e' _); rw [z.1] at e'; exact no1 e'
theorem Fn.back {W' V' : Addr → Prop} {M₁ X₁ P₁ : PMap} {σ₁ : Sto} {s₁ : Shared} (F : Fn prog w G n A W V s₀ P₀ env sc xs M₁ X₁ P₁ σ₁ s₁)
    (hW : ∀ a, W' a → (X₁ a).isSome = true ∨ Tch env xs a) (hV : ∀ a, V' a → (M₁ a).isSome = true) (F' : Fn prog w G n A W' V' s₁ P₁ env sc xs M X P σ s) : Fn prog w G n A W V s₀ P₀ env sc xs M X P σ s := by
  have Vd : ∀ a, V' a → V a ∨ s₀.heap.get? a = none := fun a h => by (refine el1x1 (Option.isSome_iff_exists.mp (hV a h)) ?_; intro o ho); exact F.wM a o ho
  have Wd : ∀ a, W' a → W a ∨ s₀.heap.get? a = none := fun a h => by
    rcases hW a h with h | rfl | ⟨x, hx, h⟩
    · (refine el1x1 (Option.isSome_iff_exists.mp h) ?_; intro o ho); exact F.wX a o ho
    · exact F.wE
    · exact F.wC x hx a h
  have back : ∀ a, s₁.heap.get? a = none → s₀.heap.get? a = none := fun a h => by
    cases q : s₀.heap.get? a with
    | none => rfl
    | some o' => (refine el1x2 (F.keep a o' q) ?_; intro o'' e' _); rw [e'] at h; exact no2 h
  refine { F' with sh := ?_, le := F.le.trans F'.le, grew := fun a o e => ?_, keep := fun a o e => ?_, wM := fun a o e => ?_, wX := fun a o e => ?_, wE := F.wE, wC := F.wC }
  · (refine el2x1 (F.sh) ?_; intro h t hZ; subst hZ)
    (refine el2x1 (F'.sh) ?_; intro h' t' hZ; subst hZ)
    exact (in2x1 h' t' rfl)
  · rcases F'.grew a o e with x | x | x
    · exact F.grew a o x
    · exact .inr (Vd a x)
    · exact .inr (.inr (back a x))
  · (refine el1x2 (F.keep a o e) ?_; intro o' e' q)
    (refine el1x2 (F'.keep a o' e') ?_; intro o'' e'' q')
    refine (in1x2 o'' e'' (fun n1 n2 => (q' (fun h => ?_) fun h => ?_).trans (q n1 n2)))
    · rcases Wd a h with x | x
      · exact n1 x
      · rw [x] at e; exact no1 e
    · rcases Vd a h with x | x
      · exact n2 x
      · rw [x] at e; exact no1 e
  · rcases F'.wM a o e with x | x
    · exact Vd a x
    · exact .inr (back a x)
  · rcases F'.wX a o e with x | x
    · exact Wd a x
    · exact .inr (back a x)
end
noncomputable def Df (K : PMap) (ps : Arguments) (body : List Stmt) (scope : Scope) (a : Addr) : Prop :=
  ∃ o fd, K a = some o ∧ o.data = .func fd ∧ fd.params = ps ∧ fd.body = .stmts body ∧ fd.scope = scope ∧ fd.globals = mainGlobals ∧ fd.builtins = builtinsNs ∧ fd.closure = [] ∧ fd.defaults = .none ∧
    ∃ c oc vs t, fd.code = .ref c ∧ K c = some oc ∧ oc.data = .fields vs ∧ vs[1]? = some (.str fd.qualname t)
noncomputable def BindsP (ps : Arguments) (names : List Str) : Prop := ∀ (fd : FuncData) (vs : List Value), fd.params = ps → fd.defaults = .none → vs.length = names.length → bindArgs fd ⟨vs, []⟩ = pure (names.zip vs)
theorem bindL_skip {kindOf : Str → Option NameKind} {x : Str} : ∀ (binds : List (Str × Value)) (m : Str → Option Value), x ∉ binds.map (·.1) → bindL kindOf binds m x = m x
  | [], m, _ => rfl
  | (y, v) :: r, m, h => by
    unfold bindL
    rw [bindL_skip r _ (fun q => h (List.mem_cons_of_mem _ q))]
    have : x ≠ y := fun q => h (by simp [q])
    split
    · simp [this]
    · rfl
theorem bindL_at {kindOf : Str → Option NameKind} {x : Str} {v : Value} : ∀ (binds : List (Str × Value)) (m : Str → Option Value), (binds.map (·.1)).Nodup → (x, v) ∈ binds → kindOf x = some .local → bindL kindOf binds m x = some v
  | (y, u) :: r, m, hn, h, hk => by
    rw [List.map_cons, List.nodup_cons] at hn
    unfold bindL
    rcases List.mem_cons.mp h with h | h
    · cases h
      rw [bindL_skip r _ hn.1, if_pos hk]; simp
    · exact bindL_at r _ hn.2 h hk
theorem bindC_skip {kindOf : Str → Option NameKind} {x : Str} : ∀ (binds : List (Str × Value)) (m : Str → Option Value), x ∉ binds.map (·.1) → bindC kindOf binds m x = m x
  | [], m, _ => rfl
  | (y, v) :: r, m, h => by
    unfold bindC
    rw [bindC_skip r _ (fun q => h (List.mem_cons_of_mem _ q))]
    have : x ≠ y := fun q => h (by simp [q])
    split
    · rfl
    · simp [this]
theorem bindC_at {kindOf : Str → Option NameKind} {x : Str} {v : Value} : ∀ (binds : List (Str × Value)) (m : Str → Option Value), (binds.map (·.1)).Nodup → (x, v) ∈ binds → kindOf x = some .cell → bindC kindOf binds m x = some v
  | (y, u) :: r, m, hn, h, hk => by
    rw [List.map_cons, List.nodup_cons] at hn
    unfold bindC
    rcases List.mem_cons.mp h with h | h
    · cases h
      rw [bindC_skip r _ hn.1, if_neg (by rw [hk]; decide)]; simp
    · exact bindC_at r _ hn.2 h hk
noncomputable def retOf : Flow → Value
  | .ret v => v
  | _ => .none
noncomputable def PMap.none : PMap := fun _ => Option.none
theorem zip_mem {names : List Str} {ds : List PV} {vs : List Value} {P : PMap} {prog : Program} {w : World} (rs : RpL prog w P vs ds) : ∀ {x : Str} {pv : PV}, (x, some pv) ∈ names.zip (ds.map some) → ∃ v, (x, v) ∈ names.zip vs ∧ Rp prog w P v pv := by
  induction names generalizing ds vs with
  | nil => intro x pv h; simp at h
  | cons y ys ih =>
    intro x pv h
    cases rs with
    | nil => simp at h
    | cons r rs =>
      rw [List.map_cons, List.zip_cons_cons] at h
      rcases List.mem_cons.mp h with h | h
      · cases h; exact (in1x2 _ (by simp) r)
      · (refine el1x2 (ih rs h) ?_; intro v hv r')
        exact (in1x2 v (by rw [List.zip_cons_cons]; exact List.mem_cons_of_mem _ hv) r')
theorem zip_names {names : List Str} {vs : List Value} (h : vs.length = names.length) : (names.zip vs).map (·.1) = names := by
  induction names generalizing vs with
  | nil => rfl
  | cons y ys ih => cases vs with
    | nil => simp at h
    | cons v vs => simp at h; rw [List.zip_cons_cons, List.map_cons, ih h]
noncomputable def fnOk (sc : Scope) (names xs : List Str) : Bool :=
  decide (sc.names.map (·.1)).Nodup && decide names.Nodup && decide xs.Nodup && decide (∀ x ∈ names, (x, NameKind.local) ∈ sc.names ∨ (x, NameKind.cell) ∈ sc.names) &&
  decide (∀ x ∈ xs, ((x, NameKind.local) ∈ sc.names ∨ (x, NameKind.cell) ∈ sc.names) ∧ (x == ("__debug__" : Str)) = false) && decide (∀ x ∈ names, x ∈ xs)
structure Run (prog : Program) (w : World) (A : Around) (env : Env) (b : List Stmt) (Q : Flow → Shared → Prop) (s : Shared) : Prop where
  run : wpAny (model prog w) A (execs b env) Q (fun _ _ => False) s
structure Called (prog : Program) (w : World) (A : Around) (f : Value) (vs : List Value) (Q : Value → Shared → Prop) (s : Shared) : Prop where
  c : codeAny (model prog w) A (.call f ⟨vs, []⟩) (fun r s' => match r with | .ok (.ret v) => Q v s' | .ok _ => False | .error e => False) s
theorem Called.call {prog : Program} {w : World} {A : Around} {f : Value} {vs : List Value} {Q : Value → Shared → Prop} {s : Shared} (h : Called prog w A f vs Q s) : wpAny (model prog w) A (PySem.call f vs) Q (fun _ _ => False) s := wpAny_call h.c
section
variable {prog : Program} {w : World} {G : GC} {n : Nat} {A : Around} {P : PMap} {s : Shared}
theorem enterE {ps : Arguments} {body : List Stmt} {scope : Scope} {a : Addr} {X : PMap} {ds : List PV} {vs : List Value} {names extra : List Str} {Q : Value → Shared → Prop}
    (D : Df G.K ps body scope a) (bp : BindsP ps names) (hfn : fnOk scope names (names ++ extra) = true) (hlen : ds.length = names.length) (hko : scope.isCoroutine = false) (hge : scope.isGenerator = false) (hkd : scope.kind = .function)
    (hok : GOk G) (hb : PMap.le G.K P) (b : Sub P s.heap) (r : Room (n + 1) A) (rs : RpL prog w P vs ds) (bX : Sub X s.heap) (dX : ∀ a o, X a = some o → P a = none)
    (h : ∀ env s₁, (∃ o fd, G.K a = some o ∧ o.data = .func fd ∧ env.code = fd.code) → Fn prog w G n (A.deeper env) (fun a => (X a).isSome = true) (fun _ => False) s P env scope.names (names ++ extra) PMap.none X P ((names ++ extra).zip (ds.map some ++ extra.map fun _ => Option.none)) s₁ →
      Run prog w (A.deeper env) env body (fun f s' => Q (retOf f) s') s₁) :
    Called prog w A (.ref a) vs Q s := by
  simp only [fnOk, Bool.and_eq_true, decide_eq_true_eq] at hfn
  (refine el0x2 hfn ?_; clear hfn; intro hZ; refine el0x2 hZ ?_; clear hZ; intro hZ; refine el0x2 hZ ?_; clear hZ; intro hZ; refine el0x2 hZ ?_; clear hZ; intro hZ; refine el0x2 hZ ?_; clear hZ; intro hsn hnn; intro hxn; intro hpl; intro hxs; intro hpx)
  (refine el2x10 D ?_; clear D; intro o fd ho hfd hp hbd hsc hg hbl hcl hdf hZ; refine el4x4 hZ ?_; clear hZ; intro c oc cvs t hc hoc hcd hcv)
  have bK : Sub G.K s.heap := fun a o e => b a o (hb a o e)
  have hvl : vs.length = names.length := rs.length.trans hlen
  have hzn := zip_names hvl
  have hlim : s.heap.NoLimit := let ⟨mc, x, y⟩ := hok.lim; (in1x2 mc (x.ns bK) y)
  have fsz : ∀ a, s.heap.objs.size ≤ a → s.heap.get? a = none := fun a ha => fresh_size ha
  have Psz : ∀ a, s.heap.objs.size ≤ a → P a = none := fun a ha => b.fresh (fsz a ha)
  have Xsz : ∀ a, s.heap.objs.size ≤ a → X a = none := fun a ha => bX.fresh (fsz a ha)
  subst hsc
  have two : ∀ {x k k'}, (x, k) ∈ fd.scope.names → (x, k') ∈ fd.scope.names → k = k' := fun h h' => by
    have := lookup_nodup hsn h; rw [lookup_nodup hsn h'] at this; exact (Option.some.inj this).symm
  have celC : ∀ x, (x, NameKind.cell) ∈ fd.scope.names → ((cellsFrom (s.heap.objs.size + 1) fd.scope.names []).lookup x).isSome = true := fun x hx =>
    PySem.W.cellsFrom_some (x := x) fd.scope.names (s.heap.objs.size + 1) [] (.inl (lookup_nodup hsn hx))
  refine .mk (codeAny_call_cells (o := o) (fd := fd) (body := body) (binds := names.zip vs) (by have := r.dp; exact lin [_, _, _] [.T 1 (.A (.V 0) (.A (.V 1) (.N 1))) (.V 2)] (.T 1 (.V 0) (.V 2)) rfl this) (bK _ _ ho) hfd hlim (in4x4 c oc cvs t hc (bK _ _ hoc) hcd hcv) hbd (bp fd vs hp hdf hvl) hcl (fun x hx => ?_) (fun s₁ I => ?_) hko hge hkd)
  · have hxn : x.1 ∈ names := by rw [← hzn]; exact List.mem_map.mpr (in1x2 x hx rfl)
    rcases hpl _ hxn with q | q
    · exact .inl (lookup_nodup hsn q)
    · exact .inr ⟨lookup_nodup hsn q, celC _ q⟩
  · generalize hE : callEnvC fd s.heap.objs.size a = env at I ⊢
    have eL : env.locals = s.heap.objs.size := by rw [← hE]; rfl
    have eC : env.cells = cellsFrom (s.heap.objs.size + 1) fd.scope.names [] := by rw [← hE]; rfl
    have eS : env.scope = fd.scope := by rw [← hE]; rfl
    have eK : ∀ x k, (x, k) ∈ fd.scope.names → env.kindOf x = some k := fun x k hx => by
      show env.scope.names.lookup x = some k; rw [eS]; exact lookup_nodup hsn hx
    have cge : ∀ p ∈ env.cells, s.heap.objs.size + 1 ≤ p.2 := fun p hp => by rw [eC] at hp; exact (cellsFrom_mem _ _ p.1 p.2 hp).2
    refine wpAny_mono (h env s₁ (in2x3 o fd ho hfd (by rw [← hE]; rfl)) ?_).run (fun f s' q => by cases f <;> exact q) fun _ _ q => q.elim
    have cellx : ∀ x c, (x, c) ∈ env.cells → env.cells.lookup x = some c := fun x c hx => by
      (refine el1x1 (lookup_of_has hx) ?_; intro c' hc')
      have hm := mem_of_lookup hc'
      rw [eC] at hx hm hc'
      have : ∀ (l : List (Str × NameKind)) (k : Nat), (l.map (·.1)).Nodup → ∀ x c, (x, c) ∈ cellsFrom k l [] → (cellsFrom k l []).lookup x = some c := by
        intro l
        induction l with
        | nil => intro k _ x c h; cases h
        | cons p l ih =>
          obtain ⟨y, kd⟩ := p
          intro k hn x c h
          rw [List.map_cons, List.nodup_cons] at hn
          unfold cellsFrom at h ⊢
          split
          · rename_i hk
            rw [if_pos hk] at h
            rw [cellsFrom_append] at h ⊢
            rcases List.mem_append.mp h with h1 | h1
            · have hne : (x == y) = false := by
                rw [beq_eq_false_iff_ne]; intro q; subst q
                exact hn.1 (List.mem_map.mpr (in1x2 ((x, .cell)) ((cellsFrom_mem _ _ x c h1).1) rfl))
              rw [List.lookup_append, ih _ hn.2 x c h1]; rfl
            · simp at h1; (refine el0x2 h1 ?_; clear h1; intro hZ; subst hZ; intro hZ; subst hZ)
              rw [List.lookup_append]
              have : (cellsFrom (c + 1) l []).lookup x = none := by
                cases q : (cellsFrom (c + 1) l []).lookup x with
                | none => rfl
                | some c2 => exact absurd (List.mem_map.mpr (in1x2 ((x, .cell)) ((cellsFrom_mem _ _ x c2 (mem_of_lookup q)).1) rfl)) hn.1
              rw [this]; simp
          · rename_i hk
            rw [if_neg hk] at h
            exact ih _ hn.2 x c h
      rw [eC]
      exact this _ _ hsn x c hx
    have act : Act env s₁.heap := ⟨by rw [eS]; exact hkd, ⟨_, I.toInCall.ns⟩, fun x c hx => ⟨_, I.cell x c (cellx x c hx)⟩, I.apart, fun x c hx q => by have := cge _ hx; rw [q, eL] at this; exact absurd this (Nat.not_succ_le_self _)⟩
    refine ⟨⟨hok, hb, b.keep I.toInCall.keep, act, ⟨by rw [eL]; exact Psz _ (Nat.le_refl _), fun p hp => Psz _ (Nat.le_of_succ_le (cge p hp))⟩, by rw [← hE]; exact hg, by rw [← hE]; exact hbl, fun x k hx => .inl (eK x k hx), fun x pv hx => ?_, r.deeper⟩, I.toInCall.same, PMap.le_refl _, fun a o e => .inl e, fun a o e => (in1x2 o (I.toInCall.keep a o e) (fun _ _ => rfl)), (fun a o e => nomatch (show (Option.none : Option Obj) = some o from e)), bX.keep I.toInCall.keep,
      ⟨rfl, fun _ _ => rfl⟩, ⟨by rw [eL]; exact Xsz _ (Nat.le_refl _), fun p hp => Xsz _ (Nat.le_of_succ_le (cge p hp))⟩, (fun a o e => nomatch (show (Option.none : Option Obj) = some o from e)), dX, (fun a o e => nomatch (show (Option.none : Option Obj) = some o from e)), (fun a o e => nomatch (show (Option.none : Option Obj) = some o from e)), fun a o e => .inl (by rw [e]; rfl), fun x hx => ⟨?_, (hxs x hx).2⟩, .inr (by rw [eL]; exact fsz _ (Nat.le_refl _)), fun x hx a ha => .inr (fsz _ (Nat.le_of_succ_le (cge _ (mem_of_lookup ha)))), eK, hxn, by show (if env.scope.kind.isAnnotationScope then _ else _) = _; rw [eS, hkd]; rfl⟩
    · rw [List.zip_append (by rw [List.length_map, hlen])] at hx
      have hx : (x, some pv) ∈ names.zip (ds.map some) := by
        rcases List.mem_append.mp hx with hx | hx
        · exact hx
        · have := (List.of_mem_zip hx).2
          simp at this
      (refine el1x2 (zip_mem rs hx) ?_; intro v hv rv)
      have hxn : x ∈ names := by rw [← hzn]; exact List.mem_map.mpr (in1x2 _ hv rfl)
      refine ⟨(hxs x (hpx x hxn)).2, v, ?_, rv⟩
      rcases hpl x hxn with q | q
      · exact .inl ⟨eK _ _ q, _, I.toInCall.ns, bindL_at _ _ (by rw [hzn]; exact hnn) hv (eK _ _ q)⟩
      · (refine el1x1 (Option.isSome_iff_exists.mp (celC x q)) ?_; intro c hc)
        refine .inr ⟨.inl (eK _ _ q), c, by rw [eC]; exact hc, ?_⟩
        have := I.cell x c (by rw [eC]; exact hc)
        rwa [bindC_at _ _ (by rw [hzn]; exact hnn) hv (eK _ _ q)] at this
    · rcases (hxs x hx).1 with q | q
      · exact .inl (eK _ _ q)
      · (refine el1x1 (Option.isSome_iff_exists.mp (celC x q)) ?_; intro c hc)
        exact .inr ⟨eK _ _ q, c, by rw [eC]; exact hc⟩
theorem enterC {ps : Arguments} {body : List Stmt} {scope : Scope} {a : Addr} {X : PMap} {ds : List PV} {vs : List Value} {names extra : List Str} {Q : Value → Shared → Prop}
    (D : Df G.K ps body scope a) (bp : BindsP ps names) (hfn : fnOk scope names (names ++ extra) = true) (hlen : ds.length = names.length) (hko : scope.isCoroutine = false) (hge : scope.isGenerator = false) (hkd : scope.kind = .function)
    (hok : GOk G) (hb : PMap.le G.K P) (b : Sub P s.heap) (r : Room (n + 1) A) (rs : RpL prog w P vs ds) (bX : Sub X s.heap) (dX : ∀ a o, X a = some o → P a = none)
    (h : ∀ env s₁, Fn prog w G n (A.deeper env) (fun a => (X a).isSome = true) (fun _ => False) s P env scope.names (names ++ extra) PMap.none X P ((names ++ extra).zip (ds.map some ++ extra.map fun _ => Option.none)) s₁ →
      Run prog w (A.deeper env) env body (fun f s' => Q (retOf f) s') s₁) :
    Called prog w A (.ref a) vs Q s := enterE D bp hfn hlen hko hge hkd hok hb b r rs bX dX fun env s₁ _ F => h env s₁ F
theorem enter {ps : Arguments} {body : List Stmt} {scope : Scope} {a : Addr} {X : PMap} {ds : List PV} {vs : List Value} {names extra : List Str} {Q : Value → Shared → Prop}
    (D : Df G.K ps body scope a) (bp : BindsP ps names) (hfn : fnOk scope names (names ++ extra) = true) (hlen : ds.length = names.length) (hko : scope.isCoroutine = false) (hge : scope.isGenerator = false) (hkd : scope.kind = .function)
    (hok : GOk G) (hb : PMap.le G.K P) (b : Sub P s.heap) (r : Room (n + 1) A) (rs : RpL prog w P vs ds) (bX : Sub X s.heap) (dX : ∀ a o, X a = some o → P a = none)
    (h : ∀ env s₁, Fn prog w G n (A.deeper env) (fun a => (X a).isSome = true) (fun _ => False) s P env scope.names (names ++ extra) PMap.none X P ((names ++ extra).zip (ds.map some ++ extra.map fun _ => Option.none)) s₁ →
      Run prog w (A.deeper env) env body (fun f s' => Q (retOf f) s') s₁) :
    wpAny (model prog w) A (call (.ref a) vs) Q (fun _ _ => False) s := (enterC D bp hfn hlen hko hge hkd hok hb b r rs bX dX h).call
end
inductive SetAt {α : Type} : List α → Nat → α → List α → Prop
  | here {a b : α} {r : List α} : SetAt (a :: r) 0 b (b :: r)
  | there {a b : α} {r r' : List α} {i : Nat} : SetAt r i b r' → SetAt (a :: r) (i + 1) b (a :: r')
theorem SetAt.get {α : Type} {l l' : List α} {i : Nat} {b : α} (h : SetAt l i b l') : l'[i]? = some b ∧ ∀ j, j ≠ i → l'[j]? = l[j]? := by
  induction h with
  | here => exact ⟨rfl, fun j hj => by cases j with | zero => exact absurd rfl hj | succ j => rfl⟩
  | there _ ih => exact ⟨ih.1, fun j hj => by cases j with | zero => rfl | succ j => exact ih.2 j (fun q => hj (by rw [q]))⟩
theorem zip_get {α β : Type} : ∀ {l : List α} {m : List β} {a : α} {b : β}, (a, b) ∈ l.zip m → ∃ j : Nat, l[j]? = some a ∧ m[j]? = some b
  | [], _, a, b, h => by simp at h
  | _ :: _, [], a, b, h => by simp at h
  | x :: l, y :: m, a, b, h => by
    rw [List.zip_cons_cons] at h
    rcases List.mem_cons.mp h with h | h
    · cases h; exact (in1x2 (0) rfl rfl)
    · (refine el1x2 (zip_get h) ?_; intro j h1 h2)
      exact (in1x2 (j + 1) h1 h2)
theorem mem_zip_of {α β : Type} : ∀ {l : List α} {m : List β} {a : α} {b : β} {j : Nat}, l[j]? = some a → m[j]? = some b → (a, b) ∈ l.zip m
  | [], _, a, b, j, h, _ => by simp at h
  | _ :: _, [], a, b, j, _, h => by simp at h
  | x :: l, y :: m, a, b, 0, h, h' => by cases h; (have h := Option.some.inj h'; clear h'; subst h); simp
  | x :: l, y :: m, a, b, j + 1, h, h' => by rw [List.zip_cons_cons]; exact List.mem_cons_of_mem _ (mem_zip_of (j := j) h h')
theorem turned_zip {xs : List Str} (hn : xs.Nodup) {vals vals' : List (Option PV)} {i : Nat} {x : Str} {pv : PV} (hx : xs[i]? = some x) (h : SetAt vals i (some pv) vals') : Turned x pv (xs.zip vals) (xs.zip vals') := fun y q hy => by
  (refine el1x2 (zip_get hy) ?_; intro j h1 h2)
  (refine el0x2 (h.get) ?_; intro g1 g2)
  by_cases hj : j = i
  · subst hj
    rw [hx] at h1; (have h := Option.some.inj h1; clear h1; subst h)
    rw [g1] at h2; cases h2
    exact .inl ⟨rfl, rfl⟩
  · refine .inr ⟨fun e => hj ?_, mem_zip_of h1 (by rw [← g2 j hj]; exact h2)⟩
    subst e
    obtain ⟨l1, e1⟩ := List.getElem?_eq_some_iff.mp h1
    obtain ⟨l2, e2⟩ := List.getElem?_eq_some_iff.mp hx
    exact (List.getElem_inj hn).mp (e1.trans e2.symm)
section
variable {prog : Program} {w : World} {G : GC} {n : Nat} {A : Around} {W V : Addr → Prop} {s₀ : Shared} {P₀ : PMap} {env : Env} {sc : Scp} {xs : List Str} {M X P M' X' P' : PMap} {σ σ' τ : Sto} {s s' : Shared}
theorem Fn.evald {e : Expr} {pv : PV} {Q : Value → Shared → Prop} (F : Fn prog w G n A W V s₀ P₀ env sc xs M X P σ s) (D : Den prog w G n sc σ e pv)
    (h : ∀ v s' P', Fn prog w G n A W V s₀ P₀ env sc xs M X P' σ s' → PMap.le P P' → Keep s.heap s'.heap → Rp prog w P' v pv → Q v s') : wpAny (model prog w) A (eval e env) Q (fun _ _ => False) s :=
  D.go F.cx fun v h' tk P' C k l f r => h v _ P' (F.move k l C.sub f) l k r
theorem Fn.test {e : Expr} {b : Bool} {Q : Bool → Shared → Prop} (F : Fn prog w G n A W V s₀ P₀ env sc xs M X P σ s) (D : DenT prog w G n sc σ e b)
    (h : ∀ s' P', Fn prog w G n A W V s₀ P₀ env sc xs M X P' σ s' → PMap.le P P' → Q b s') : wpAny (model prog w) A (isTrue e env (eval e env)) Q (fun _ _ => False) s :=
  D.go F.cx fun h' tk P' C k l f => h _ P' (F.move k l C.sub f) l
theorem Fn.store {x : Str} {v : Value} {pv : PV} {Q : Unit → Shared → Prop} (F : Fn prog w G n A W V s₀ P₀ env sc xs M X P σ s) (hx : x ∈ xs) (T : Turned x pv σ σ') (r : Rp prog w P v pv)
    (h : ∀ s', Fn prog w G n A W V s₀ P₀ env sc xs M X P σ' s' → Q () s') : wpAny (model prog w) A (storeName env x v) Q (fun _ _ => False) s :=
  F.cx.store (F.own x hx).1 (F.own x hx).2 T r fun h' tk C k _ => h _ (F.stored C (k.mono (by simpa using hx)) (PMap.le_refl _) (Grew.refl _ _))
theorem st_assign {x : Str} {e : Expr} {p p' : Pos} {pv : PV} {Q : Flow → Shared → Prop} (F : Fn prog w G n A W V s₀ P₀ env sc xs M X P σ s) (D : Den prog w G n sc σ e pv) (hx : x ∈ xs) (T : Turned x pv σ σ')
    (h : ∀ s' P', Fn prog w G n A W V s₀ P₀ env sc xs M X P' σ' s' → PMap.le P P' → Q .next s')
    (hs : swapsWith e (some (.Name x p')) p.line env = pure false) : wpAny (model prog w) A (exec (.Assign [.Name x p'] e p) env) Q (fun _ _ => False) s :=
  wpAny_Assign_Name (F.evald D fun v s' P' F' l k r => F'.store hx T r fun s'' F'' => h s'' P' F'' l) hs
theorem st_ret {e : Expr} {p : Pos} {pv : PV} {Q : Flow → Shared → Prop} (F : Fn prog w G n A W V s₀ P₀ env sc xs M X P σ s) (D : Den prog w G n sc σ e pv)
    (h : ∀ v s' P', Fn prog w G n A W V s₀ P₀ env sc xs M X P' σ s' → PMap.le P P' → Rp prog w P' v pv → Q (.ret v) s') : wpAny (model prog w) A (exec (.Return (some e) p) env) Q (fun _ _ => False) s :=
  wpAny_Return_some (F.evald D fun v s' P' F' l k r => h v s' P' F' l r)
theorem st_if {e : Expr} {p : Pos} {b : Bool} {body orelse : List Stmt} {Q : Flow → Shared → Prop} (F : Fn prog w G n A W V s₀ P₀ env sc xs M X P σ s) (D : DenT prog w G n sc σ e b)
    (h : ∀ s' P', Fn prog w G n A W V s₀ P₀ env sc xs M X P' σ s' → PMap.le P P' → wpAny (model prog w) A (execs (if b then body else orelse) env) Q (fun _ _ => False) s') : wpAny (model prog w) A (exec (.If e body orelse p) env) Q (fun _ _ => False) s :=
  wpAny_If (F.test D fun s' P' F' l => (by have := h s' P' F' l; cases b <;> exact this : if b then wpAny (model prog w) A (execs body env) Q (fun _ _ => False) s' else wpAny (model prog w) A (execs orelse env) Q (fun _ _ => False) s'))
theorem st_cons {st : Stmt} {rest : List Stmt} {Q : Flow → Shared → Prop} (h : wpAny (model prog w) A (exec st env) (fun f s' => match f with | .next => wpAny (model prog w) A (execs rest env) Q (fun _ _ => False) s' | f => Q f s') (fun _ _ => False) s) :
    wpAny (model prog w) A (execs (st :: rest) env) Q (fun _ _ => False) s := wpAny_execs_cons h
theorem st_nil {Q : Flow → Shared → Prop} (h : Q .next s) : wpAny (model prog w) A (execs [] env) Q (fun _ _ => False) s := wpAny_execs_nil h
theorem Fn.ends {v : Value} {pv : PV} (F : Fn prog w G n A (fun a => (PMap.none a).isSome = true) (fun _ => False) s₀ P₀ env sc xs M X P σ s) (r : Rp prog w P v pv) : Ends prog w P₀ s₀ v pv s := by
  (refine el2x1 (F.sh) ?_; intro h t hZ; subst hZ)
  exact ⟨h, t, P, rfl, fun b o e => by (refine el1x2 (F.keep b o e) ?_; intro o' e' q); rw [e', q (fun z => by exact no3 z) fun z => z], F.le, F.cx.sub, fun a o e => by
    rcases F.grew a o e with x | x | x
    · exact .inl x
    · exact x.elim
    · exact .inr x, r⟩
theorem Fn.drop (F : Fn prog w G n A W V s₀ P₀ env sc xs M X P σ s) {c : Addr} {h' : Heap} (hs : Heap.SameBut c s.heap h') (nP : P c = none) (nM : M c = none) (nX : X c = none) (nL : env.locals ≠ c) (nC : ∀ p ∈ env.cells, p.2 ≠ c) (n0 : s₀.heap.get? c = none) :
    Fn prog w G n A W V s₀ P₀ env sc xs M X P σ { s with heap := h' } := by
  have C := F.cx
  have kv : ∀ {a : Addr} {o : Obj}, a ≠ c → s.heap.get? a = some o → h'.get? a = some o := fun h e => hs.extBut _ _ h e
  have ne : ∀ {Z : PMap} {a : Addr} {o : Obj}, Z c = none → Z a = some o → a ≠ c := fun n e q => by rw [q, n] at e; exact no1 e
  refine { F with cx := ⟨C.ok, C.base, fun a o e => kv (ne nP e) (C.sub a o e), ⟨C.act.kind, ?_, fun x a hx => ?_, C.act.apart, C.act.offL⟩, C.off, C.glob, C.blt, C.kl, fun x pv hx => ?_, C.room⟩, sh := let ⟨h, t, z⟩ := F.sh; (in2x1 h' t (by rw [z])), keep := fun a o e => ?_, muo := fun a o e => kv (ne nM e) (F.muo a o e), mux := fun a o e => kv (ne nX e) (F.mux a o e) }
  · (refine el4x2 (C.act.ns) ?_; intro m o es ep e r); exact (in4x2 m o es ep (kv nL e) r)
  · (refine el2x2 (C.act.cell x a hx) ?_; intro v o e r); exact (in2x2 v o (kv (nC _ hx) e) r)
  · (refine el0x2 (C.vars x pv hx) ?_; intro d hZ; refine el1x2 hZ ?_; clear hZ; intro v y r)
    exact ⟨d, v, y.imp (fun ⟨a, m, ⟨o, es, ep, e, r⟩, q⟩ => ⟨a, m, (in3x2 o es ep (kv nL e) r), q⟩) (fun ⟨a, c, e, o, ho, r⟩ => ⟨a, c, e, o, kv (nC _ (mem_of_lookup e)) ho, r⟩), r⟩
  · (refine el1x2 (F.keep a o e) ?_; intro o' e' q)
    exact (in1x2 o' (kv (fun z => by rw [z, n0] at e; exact no1 e) e') q)
theorem st_assign_comp {α : Type} {x : Str} {p p' : Pos} {elt iter target : Expr} {ifs : List Expr} {scope : Scope} {pos : Pos} {src : PV} {enc : α → PV} {l : List α} {ys : List Str} {pr : α → Bool} {g : α → PV} {σt : α → Sto} {Q : Flow → Shared → Prop}
    (F : Fn prog w G n A W V s₀ P₀ env sc xs M X P σ s) (di : Den prog w G n sc σ iter src) (hi : Its prog w src (l.map enc)) (hn : (scope.names.map (·.1)).Nodup) (hk : scope.kind = .function) (hc : Cap σ sc scope.names τ)
    (hxs : ∀ x ∈ ys, (x, NameKind.local) ∈ scope.names ∨ (x, NameKind.cell) ∈ scope.names)
    (hA : ∀ d ∈ l, Asg prog w G n scope.names ys target τ (enc d) (σt d)) (hσ : ∀ d, ∀ q ∈ τ, q ∈ σt d)
    (hT : ∀ d ∈ l, Ifs prog w G n scope.names (σt d) ifs (pr d))
    (hE : ∀ d ∈ l, pr d = true → Den prog w G n scope.names (σt d) elt (g d)) (hsz : l.length ≤ sizeLine)
    (hx : x ∈ xs) (T : Turned x (.list ((l.filter pr).map g)) σ σ')
    (h : ∀ s' P', Fn prog w G n A W V s₀ P₀ env sc xs M X P' σ' s' → PMap.le P P' → Q .next s')
    (hsw : swapsWith (.ListComp elt [⟨target, iter, ifs, 0⟩] scope pos) (some (.Name x p')) p.line env = pure true)
    (hs : ∀ env x, foldedSetIterable iter env x = pure x := by intro _ _; rfl) : wpAny (model prog w) A (exec (.Assign [.Name x p'] (.ListComp elt [⟨target, iter, ifs, 0⟩] scope pos) p) env) Q (fun _ _ => False) s := by
  rw [exec_Assign_Name_used (hs := hsw)]
  refine wpAny_bind (wpAny_standAt (wpAny_bind ?_))
  show wpAny _ _ (comprehension (.ListComp elt [⟨target, iter, ifs, 0⟩] scope pos) scope env (firstIterPos [⟨target, iter, ifs, 0⟩] pos) (newList []) (firstAsync [⟨target, iter, ifs, 0⟩]) (firstIter [⟨target, iter, ifs, 0⟩] env) (some (assign (.Name x p') env)) >>= fun _ => pure ()) _ _ _
  refine wpAny_bind ?_
  refine comp_core (g := g) (use := some (assign (.Name x p') env)) (W := []) (X := fun _ _ => True) di hi hn hk hc hxs hA hσ hT (fun _ _ _ _ _ => trivial) (fun _ _ _ _ _ _ => trivial) (fun j d hd hb A P' env' s' _ C' _ _ => ?_) hsz F.cx trivial (by simp) (by simp) (by simp) (by simp)
    (fun _ _ _ _ _ _ _ _ _ _ e => by exact no2 e) (fun u v h' tk P' c k l b gr r _ e hcn hcP hm => ?_) hs
  · exact (hE d (List.mem_of_getElem? hd) hb).go C' fun v h' tk P'' C'' k l f r => (in3x7 h' tk P'' rfl (KeepX.of k) l C''.sub f r trivial)
  · (have h := Option.some.inj e; clear e; subst h)
    have F' := F.move (tk := tk) k.keep l b gr
    (refine el1x1 hm ?_; clear hm; intro m hm)
    have nT : ¬ Tch env [x] c := fun t => by
      rcases t with q | ⟨z, _, q⟩
      · (refine el4x2 (F.cx.act.ns) ?_; intro m' o es ep ho _); rw [← q, hcn] at ho; exact no1 ho
      · (refine el2x2 (F.cx.act.cell z c (mem_of_lookup q)) ?_; intro v o ho _); rw [hcn] at ho; exact no1 ho
    refine wpAny_assign_Name (F'.cx.store (F.own x hx).1 (F.own x hx).2 T r fun h'' tk' C'' k'' _ => ?_)
    (refine el3x2 hm ?_; clear hm; intro o es ep ho hr)
    have ho' := k''.get ho nT
    refine (in1x2 m (in3x2 o es ep ho' hr) (fun h3 hs3 => wpAny_pure (wpAny_pure ?_)))
    have F'' := F'.stored C'' (k''.mono (by simpa using hx)) (PMap.le_refl _) (Grew.refl _ _)
    refine h _ _ (F''.drop hs3 hcP ?_ ?_ ?_ ?_ ?_) l
    · cases q : M c with
      | none => rfl
      | some o => have := F.muo c o q; rw [hcn] at this; exact no1 this
    · cases q : X c with
      | none => rfl
      | some o => have := F.mux c o q; rw [hcn] at this; exact no1 this
    · intro q; (refine el4x2 (F.cx.act.ns) ?_; intro m' o es ep ho _); rw [q, hcn] at ho; exact no1 ho
    · intro p hp q; (refine el2x2 (F.cx.act.cell p.1 p.2 hp) ?_; intro v o ho _); rw [q, hcn] at ho; exact no1 ho
    · cases q : s₀.heap.get? c with
      | none => rfl
      | some o => (refine el1x2 (F.keep c o q) ?_; intro o' e' _); rw [hcn] at e'; exact no1 e'
end
section
variable {prog : Program} {w : World} {G : GC} {n : Nat} {A : Around} {W V : Addr → Prop} {s₀ : Shared} {P₀ : PMap} {env : Env} {sc : Scp} {xs : List Str} {M X P M' X' P' : PMap} {σ σ' τ : Sto} {s s' : Shared}
theorem Fn.stray (F : Fn prog w G n A W V s₀ P₀ env sc xs M X P σ s) {c : Addr} {h' : Heap} {tk : Nat} (hb : ∀ b o, b ≠ c → s.heap.get? b = some o → h'.get? b = some o) (nP : P c = none) (nM : M c = none) (nX : X c = none) (nL : env.locals ≠ c) (nC : ∀ p ∈ env.cells, p.2 ≠ c) (n0 : s₀.heap.get? c = none) :
    Fn prog w G n A W V s₀ P₀ env sc xs M X P σ { s with heap := h', toks := tk } := by
  have C := F.cx
  have kv : ∀ {a : Addr} {o : Obj}, a ≠ c → s.heap.get? a = some o → h'.get? a = some o := fun h e => hb _ _ h e
  have ne : ∀ {Z : PMap} {a : Addr} {o : Obj}, Z c = none → Z a = some o → a ≠ c := fun n e q => by rw [q, n] at e; exact no1 e
  refine { F with cx := ⟨C.ok, C.base, fun a o e => kv (ne nP e) (C.sub a o e), ⟨C.act.kind, ?_, fun x a hx => ?_, C.act.apart, C.act.offL⟩, C.off, C.glob, C.blt, C.kl, fun x pv hx => ?_, C.room⟩, sh := let ⟨h, t, z⟩ := F.sh; (in2x1 h' tk (by rw [z])), keep := fun a o e => ?_, muo := fun a o e => kv (ne nM e) (F.muo a o e), mux := fun a o e => kv (ne nX e) (F.mux a o e) }
  · (refine el4x2 (C.act.ns) ?_; intro m o es ep e r); exact (in4x2 m o es ep (kv nL e) r)
  · (refine el2x2 (C.act.cell x a hx) ?_; intro v o e r); exact (in2x2 v o (kv (nC _ hx) e) r)
  · (refine el0x2 (C.vars x pv hx) ?_; intro d hZ; refine el1x2 hZ ?_; clear hZ; intro v y r)
    exact ⟨d, v, y.imp (fun ⟨a, m, ⟨o, es, ep, e, r⟩, q⟩ => ⟨a, m, (in3x2 o es ep (kv nL e) r), q⟩) (fun ⟨a, c, e, o, ho, r⟩ => ⟨a, c, e, o, kv (nC _ (mem_of_lookup e)) ho, r⟩), r⟩
  · (refine el1x2 (F.keep a o e) ?_; intro o' e' q)
    exact (in1x2 o' (kv (fun z => by rw [z, n0] at e; exact no1 e) e') q)
theorem Fn.self (F : Fn prog w G n A W V s₀ P₀ env sc xs M X P σ s) : Fn prog w G n A (fun a => (X a).isSome = true ∨ Tch env xs a) (fun a => (M a).isSome = true) s P env sc xs M X P σ s :=
  { F with sh := (in2x1 s.heap s.toks rfl), le := PMap.le_refl _, grew := fun a o e => .inl e, keep := fun b o e => (in1x2 o e (fun _ _ => rfl)), wM := fun a o e => .inl (by rw [e]; rfl), wX := fun a o e => .inl (.inl (by rw [e]; rfl)), wE := .inl (.inr (.inl rfl)), wC := fun x hx a ha => .inl (.inr (.inr (in1x2 x hx ha))) }
theorem st_forB {α β : Type} {target iter : Expr} {body : List Stmt} {pos : Pos} {src : PV} {enc : α → PV} {items : List α} {Q : Flow → Shared → Prop} {σs σt : Nat → β → Sto} {I : Nat → β → PMap → PMap → PMap → Prop} {b₀ : β} {R : PMap → PMap → PMap → Value → Prop}
    (F : Fn prog w G n A W V s₀ P₀ env sc xs M X P (σs 0 b₀) s) (di : Den prog w G n sc (σs 0 b₀) iter src) (hi : Its prog w src (items.map enc))
    (hI : ∀ j b M X P P', PMap.le P P' → I j b M X P → I j b M X P') (i0 : I 0 b₀ M X P)
    (hA : ∀ j a b, items[j]? = some a → Asg prog w G n sc xs target (σs j b) (enc a) (σt j b))
    (hB : ∀ j a b, items[j]? = some a → ∀ W' V' s₁ P₁ M X P s, Fn prog w G n A W' V' s₁ P₁ env sc xs M X P (σt j b) s → I j b M X P → wpAny (model prog w) A (execs body env) (fun f s' => match f with
      | .next | .cont => ∃ b' M' X' P', Fn prog w G n A W' V' s₁ P₁ env sc xs M' X' P' (σs (j + 1) b') s' ∧ I (j + 1) b' M' X' P'
      | .brk => False
      | .ret v => ∃ M' X' P', Fn prog w G n A W' V' s₁ P₁ env sc xs M' X' P' [] s' ∧ R M' X' P' v) (fun _ _ => False) s)
    (hQ : ∀ b' M' X' P' s', Fn prog w G n A W V s₀ P₀ env sc xs M' X' P' (σs items.length b') s' → I items.length b' M' X' P' → PMap.le P P' → Q .next s')
    (hR : ∀ M' X' P' s' v, Fn prog w G n A W V s₀ P₀ env sc xs M' X' P' [] s' → R M' X' P' v → PMap.le P P' → Q (.ret v) s')
    (hs : ∀ x, foldedSetIterable iter env x = pure x := by intro _; rfl) : wpAny (model prog w) A (exec (.For target iter body [] pos) env) Q (fun _ _ => False) s := by
  have hh := F.cx.room.hd
  refine wpAny_For (F.evald di fun v s₁ P₁ F₁ l₁ k₁ r₁ => ?_) hs
  refine hi P₁ v r₁ A s₁ _ _ hh F₁.cx.sub fun o St It st0 => ?_
  generalize hIa : s₁.heap.objs.size = Ia at It ⊢
  have fI : s₁.heap.get? Ia = none := fresh_size (by rw [← hIa]; exact Nat.le_refl _)
  have F₂ := F₁.move (tk := s₁.toks) (Keep.push s₁.heap o) (PMap.le_refl _) (F₁.cx.sub.keep (Keep.push _ _)) (Grew.refl _ _)
  have nL : env.locals ≠ Ia := fun q => by (refine el4x2 (F₁.cx.act.ns) ?_; intro m o' es ep ho _); rw [q, fI] at ho; exact no1 ho
  have nC : ∀ p ∈ env.cells, p.2 ≠ Ia := fun p hp q => by (refine el2x2 (F₁.cx.act.cell p.1 p.2 hp) ?_; intro v o' ho _); rw [q, fI] at ho; exact no1 ho
  have n0 : s₀.heap.get? Ia = none := by
    cases q : s₀.heap.get? Ia with
    | none => rfl
    | some o' => (refine el1x2 (F₁.keep Ia o' q) ?_; intro o'' e' _); rw [fI] at e'; exact no1 e'
  have nT : ¬ Tch env xs Ia := fun t => by
    rcases t with q | ⟨x, _, q⟩
    · exact nL q.symm
    · exact nC _ (mem_of_lookup q) rfl
  refine codeAny_loop' rfl (fun k s' => ∃ j b' M' X' P', Fn prog w G n A W V s₀ P₀ env sc xs M' X' P' (σs j b') s' ∧ I j b' M' X' P' ∧ St j s'.heap ∧ PMap.le P₁ P' ∧ j ≤ items.length ∧ k = items.length + 1 - j ∧ P' Ia = none ∧ M' Ia = none ∧ X' Ia = none) (fun k s' hJ => ?_) (items.length + 1)
    ⟨0, b₀, M, X, P₁, F₂, hI 0 _ _ _ _ _ l₁ i0, st0, PMap.le_refl _, Nat.zero_le _, rfl, F₁.cx.sub.fresh fI, F₁.muo.fresh fI, F₁.mux.fresh fI⟩
  obtain ⟨j, b₃, M₃, X₃, P₃, F₃, i₃, st₃, l₃, hj, rfl, pI, mI, xI⟩ := hJ
  show wpAny _ A ((forTurn target (.ref Ia) body [] env).onRaise (fun x => do noteFrame x env; theTreesLotGoes x)) _ _ s'
  refine wpAny_noted (wpAny_mono (Q := _) (E := fun _ _ => False) ?_ (fun _ _ q => q) fun _ _ f => f.elim)
  simp only [forTurn]
  by_cases hlt : j < items.length
  · have hd : items[j]? = some items[j] := List.getElem?_eq_getElem hlt
    have hd' : (items.map enc)[j]? = some (enc items[j]) := by rw [List.getElem?_map, hd]; rfl
    refine wpAny_bind (wpAny_standAt (wpAny_bind (wpAny_onRaise (It.item A j _ s' _ _ hh hd' st₃ fun v h₄ tk₄ r₄ st₄ k₄ => ?_))))
    have F₄ := F₃.stray (tk := tk₄) k₄ pI mI xI nL nC n0
    (refine el1x2 (It.cls _ _ st₄) ?_; intro oI hoI _)
    refine wpAny_bind (letOwned_ok (It.cls _ _ st₄) (wpAny_bind ?_))
    refine (hA j _ b₃ hd).run A P₃ env _ v _ F₄.cx (fun x hx => (F₄.own x hx).1) (r₄.mono l₃) fun h₅ tk₅ P₅ C₅ k₅ l₅ g₅ => wpAny_bind ?_
    have S₅ := F₄.self.stored C₅ k₅ l₅ g₅
    refine wpAny_mono (hB j _ b₃ hd _ _ _ _ _ _ _ _ S₅ (hI j _ _ _ _ _ l₅ i₃)) (fun f s₆ h₆ => ?_) fun _ _ q => q.elim
    have fin : ∀ M₆ X₆ P₆ τ, Fn prog w G n A (fun a => (X₃ a).isSome = true ∨ Tch env xs a) (fun a => (M₃ a).isSome = true) { s' with heap := h₄, toks := tk₄ } P₃ env sc xs M₆ X₆ P₆ τ s₆ →
        Fn prog w G n A W V s₀ P₀ env sc xs M₆ X₆ P₆ τ s₆ ∧ St (j + 1) s₆.heap ∧ P₆ Ia = none ∧ M₆ Ia = none ∧ X₆ Ia = none := fun M₆ X₆ P₆ τ F₆ => by
      have nW : ¬ ((X₃ Ia).isSome = true ∨ Tch env xs Ia) := fun q => q.elim (fun q => by rw [xI] at q; exact no3 q) nT
      have nV : ¬ ((M₃ Ia).isSome = true) := fun q => by rw [mI] at q; exact no3 q
      refine (in0x5 (F₄.back (fun a h => h) (fun a h => h) F₆) (It.frame _ _ _ st₄ (fun o' e => ?_) (fun a o' e => F₆.cx.sub a o' (F₆.le a o' (l₃ a o' e)))) ?_ ?_ ?_)
      · (refine el1x2 (F₆.keep Ia o' e) ?_; intro o'' e'' q)
        rw [e'', q nW nV]
      · cases q : P₆ Ia with
        | none => rfl
        | some o' => rcases F₆.grew Ia o' q with x | x | x
                     · rw [pI] at x; exact no1 x
                     · exact absurd x nV
                     · rw [show ({ s' with heap := h₄, toks := tk₄ } : Shared).heap.get? Ia = some oI from hoI] at x; exact no2 x
      · cases q : M₆ Ia with
        | none => rfl
        | some o' => rcases F₆.wM Ia o' q with x | x
                     · exact absurd x nV
                     · rw [show ({ s' with heap := h₄, toks := tk₄ } : Shared).heap.get? Ia = some oI from hoI] at x; exact no2 x
      · cases q : X₆ Ia with
        | none => rfl
        | some o' => rcases F₆.wX Ia o' q with x | x
                     · exact absurd x nW
                     · rw [show ({ s' with heap := h₄, toks := tk₄ } : Shared).heap.get? Ia = some oI from hoI] at x; exact no2 x
    have nxt : (∃ b' M' X' P', Fn prog w G n A (fun a => (X₃ a).isSome = true ∨ Tch env xs a) (fun a => (M₃ a).isSome = true) { s' with heap := h₄, toks := tk₄ } P₃ env sc xs M' X' P' (σs (j + 1) b') s₆ ∧ I (j + 1) b' M' X' P') →
        ∃ m, m < items.length + 1 - j ∧ ∃ j b' M' X' P', Fn prog w G n A W V s₀ P₀ env sc xs M' X' P' (σs j b') s₆ ∧ I j b' M' X' P' ∧ St j s₆.heap ∧ PMap.le P₁ P' ∧ j ≤ items.length ∧ m = items.length + 1 - j ∧ P' Ia = none ∧ M' Ia = none ∧ X' Ia = none := by
      rintro ⟨b₆, M₆, X₆, P₆, F₆, i₆⟩
      obtain ⟨F₇, st₇, a1, a2, a3⟩ := fin _ _ _ _ F₆
      exact (in1x2 (items.length + 1 - (j + 1)) (by lia) ⟨ j + 1, b₆, M₆, X₆, P₆, F₇, i₆, st₇, l₃.trans F₆.le, hlt, rfl, a1, a2, a3⟩)
    cases f with
    | next => exact wpAny_pure (.inl ⟨rfl, nxt h₆⟩)
    | cont => exact wpAny_pure (.inl ⟨rfl, nxt h₆⟩)
    | brk => exact h₆.elim
    | ret u =>
      (refine el3x2 h₆ ?_; clear h₆; intro M₆ X₆ P₆ F₆ r₆)
      exact wpAny_pure (hR M₆ X₆ P₆ s₆ u (fin _ _ _ _ F₆).1 r₆ ((l₁.trans l₃).trans F₆.le))
  · have hj' : j = items.length := by exact Nat.le_antisymm (lin [_, _] [.L 1 (.V 0) (.V 1)] (.L 1 (.V 0) (.V 1)) rfl hj) (lin [_, _] [.NT 1 (.V 0) (.V 1)] (.L 1 (.V 1) (.V 0)) rfl hlt)
    subst hj'
    have hl : (items.map enc).length = items.length := by simp
    refine wpAny_bind (wpAny_standAt (wpAny_bind (wpAny_onRaise (It.done A s' _ _ hh (hl ▸ st₃) fun h₄ tk₄ k₄ => ?_))))
    have F₄ := F₃.stray (tk := tk₄) k₄ pI mI xI nL nC n0
    exact wpAny_pure (.inr ⟨rfl, codeAny_block (wpAny_execs_nil (hQ b₃ M₃ X₃ P₃ _ F₄ i₃ (l₁.trans l₃)))⟩)
theorem st_for {α : Type} {target iter : Expr} {body : List Stmt} {pos : Pos} {src : PV} {enc : α → PV} {items : List α} {Q : Flow → Shared → Prop} {σs σt : Nat → Sto} {I : Nat → PMap → PMap → PMap → Prop} {R : PMap → PMap → PMap → Value → Prop}
    (F : Fn prog w G n A W V s₀ P₀ env sc xs M X P (σs 0) s) (di : Den prog w G n sc (σs 0) iter src) (hi : Its prog w src (items.map enc))
    (hI : ∀ j M X P P', PMap.le P P' → I j M X P → I j M X P') (i0 : I 0 M X P)
    (hA : ∀ j a, items[j]? = some a → Asg prog w G n sc xs target (σs j) (enc a) (σt j))
    (hB : ∀ j a, items[j]? = some a → ∀ W' V' s₁ P₁ M X P s, Fn prog w G n A W' V' s₁ P₁ env sc xs M X P (σt j) s → I j M X P → wpAny (model prog w) A (execs body env) (fun f s' => match f with
      | .next | .cont => ∃ M' X' P', Fn prog w G n A W' V' s₁ P₁ env sc xs M' X' P' (σs (j + 1)) s' ∧ I (j + 1) M' X' P'
      | .brk => False
      | .ret v => ∃ M' X' P', Fn prog w G n A W' V' s₁ P₁ env sc xs M' X' P' [] s' ∧ R M' X' P' v) (fun _ _ => False) s)
    (hQ : ∀ M' X' P' s', Fn prog w G n A W V s₀ P₀ env sc xs M' X' P' (σs items.length) s' → I items.length M' X' P' → PMap.le P P' → Q .next s')
    (hR : ∀ M' X' P' s' v, Fn prog w G n A W V s₀ P₀ env sc xs M' X' P' [] s' → R M' X' P' v → PMap.le P P' → Q (.ret v) s')
    (hs : ∀ x, foldedSetIterable iter env x = pure x := by intro _; rfl) : wpAny (model prog w) A (exec (.For target iter body [] pos) env) Q (fun _ _ => False) s :=
  st_forB (β := Unit) (b₀ := ()) (σs := fun j _ => σs j) (σt := fun j _ => σt j) (I := fun j _ => I j) (R := R) F di hi (fun j _ => hI j) i0 (fun j a _ h => hA j a h)
    (fun j a _ h W' V' s₁ P₁ M X P s F i => wpAny_mono (hB j a h W' V' s₁ P₁ M X P s F i) (fun f s' q => match f, q with
      | .next, q => ⟨(), q⟩
      | .cont, q => ⟨(), q⟩
      | .ret _, q => q) fun _ _ q => q) (fun _ => hQ) hR hs
end
section
variable {prog : Program} {w : World} {G : GC} {n : Nat} {P : PMap}
theorem intsAre {vs : List Value} {ns : List Int} (r : RpL prog w P vs (ns.map .int)) : IntsAre vs ns := by
  induction ns generalizing vs with
  | nil => rw [RpL.nil_inv r]; exact .nil
  | cons a l ih => (refine RpL.cons_el r ?_; clear r; intro _ _ hZ h r; subst hZ); (refine Rp.int_el h ?_; clear h; intro _ h; subst h); exact .cons _ _ (ih r)
theorem boolsAre {vs : List Value} {bs : List Bool} (r : RpL prog w P vs (bs.map .bool)) {i : Nat} {v : Value} (h : vs[i]? = some v) : ∃ b, bs[i]? = some b ∧ v = .bool b := by
  (refine el1x2 (r.get' h) ?_; intro d hd r)
  rw [List.getElem?_map, Option.map_eq_some_iff] at hd
  (refine el1x2 hd ?_; clear hd; intro b hb hZ; subst hZ)
  (have h := Rp.bool_inv r; clear r; subst h); exact (in1x2 b hb rfl)
theorem Ends.grown {s : Shared} {v : Value} {pv : PV} {h' : Heap} {tk : Nat} (b : Sub P s.heap) (k : ∀ a o, s.heap.get? a = some o → h'.get? a = some o) (r : Rp prog w P v pv) : Ends prog w P s v pv { s with heap := h', toks := tk } :=
  (in3x6 h' tk P rfl k (PMap.le_refl _) (b.keep k) (Grew.refl _ _) r)
theorem con_len {l : List PV} (hz : (l.length : Int) < 2 ^ 63) : Con prog w G n (.builtin "len") [.list l] (.int l.length) := fun A P s vs ok le b rm rs => by
  (refine RpL.el1 rs ?_; clear rs; intro _ h r; subst h)
  (refine el3x3 (r.list_inv) ?_; intro a vs k hZ; subst hZ; intro e rl)
  have hsz : vs.size = l.length := by have := rl.length; simpa using this
  refine call_len_list (b.isList e) (by rw [hsz]; exact hz) ?_
  rw [hsz]; exact Ends.tok b (.int _ _) _
theorem con_range1 {c : Int} : Con prog w G n (.type "range") [.int c] (.rng 0 c 1) := fun A P s vs ok le b rm rs => by
  (refine RpL.el1 rs ?_; clear rs; intro _ h r; subst h)
  (refine Rp.int_el r ?_; clear r; intro _ h; subst h)
  exact call_range_1 (Ends.pushed b rfl (.rng (PMap.put_self _ _ _)))
theorem con_range2 {a c : Int} : Con prog w G n (.type "range") [.int a, .int c] (.rng a c 1) := fun A P s vs ok le b rm rs => by
  (refine RpL.el2 rs ?_; clear rs; intro _ _ h r r'; subst h)
  (refine Rp.int_el r ?_; clear r; intro _ h; subst h); (refine Rp.int_el r' ?_; clear r'; intro _ h; subst h)
  exact call_range_2 (Ends.pushed b rfl (.rng (PMap.put_self _ _ _)))
theorem con_range3 {a c d : Int} (hd : d ≠ 0) (hd' : d.natAbs < 1073741824) : Con prog w G n (.type "range") [.int a, .int c, .int d] (.rng a c d) := fun A P s vs ok le b rm rs => by
  (refine RpL.el3 rs ?_; clear rs; intro _ _ _ h r r' r''; subst h)
  (refine Rp.int_el r ?_; clear r; intro _ h; subst h); (refine Rp.int_el r' ?_; clear r'; intro _ h; subst h); (refine Rp.int_el r'' ?_; clear r''; intro _ h; subst h)
  exact call_range_3 hd (Ends.pushed b rfl (.rng (PMap.put_self _ _ _))) (.inl (PyProof.noPylong_small hd'))
theorem con_sum {ns : List Int} : Con prog w G n (.builtin "sum") [.list (ns.map .int)] (.int ns.sum) := fun A P s vs ok le b rm rs => by
  (refine RpL.el1 rs ?_; clear rs; intro _ h r; subst h)
  (refine el3x3 (r.list_inv) ?_; intro a vs k hZ; subst hZ; intro e rl)
  have hi := intsAre rl
  (refine el1x1 (hi.allInts.items) ?_; intro xs ex)
  have hns : ns = xs.toList.map (·.1) := by rw [← hi.numsOf, ← nums_intItems, ← ex]
  have hl := b.isList e
  have ev : vs = intItems xs := by simpa using ex
  rw [ev] at hl
  refine sum_intListG rm.hd hl fun h' tk t' hk => ?_
  rw [preSum_eq, ← hns, List.take_of_length_le (by rw [hns]; simp)]
  exact Ends.grown b hk (.int _ _)
theorem con_min {ns : List Int} {m : Int} (hm : m ∈ ns) (hle : ∀ a ∈ ns, m ≤ a) : Con prog w G n (.builtin "min") [.list (ns.map .int)] (.int m) := fun A P s vs ok le b rm rs => by
  (refine RpL.el1 rs ?_; clear rs; intro _ h r; subst h)
  (refine el3x3 (r.list_inv) ?_; intro a vs k hZ; subst hZ; intro e rl)
  have hi := intsAre rl
  (refine el1x1 (hi.allInts.items) ?_; intro xs ex)
  have hns : ns = xs.toList.map (·.1) := by rw [← hi.numsOf, ← nums_intItems, ← ex]
  have hl := b.isList e
  have ev : vs = intItems xs := by simpa using ex
  rw [ev] at hl
  have hsz : 0 < xs.size := by
    have h3 := List.length_pos_of_mem hm; rw [hns, List.length_map, Array.length_toList] at h3; exact h3
  refine min_intList rm.hd hl hsz fun v h' tk hv hk => ?_
  (refine el1x1 (intItems_at hv) ?_; intro t hZ; subst hZ)
  (refine el0x2 (argBest_lt (numAt xs) (xs.size - 1)) ?_; intro h1 h2)
  have e1 : numAt xs (argBest (fun i j => decide (numAt xs i < numAt xs j)) (xs.size - 1)) = m := by
    apply Int.le_antisymm
    · rw [hns] at hm
      (refine el1x2 (mem_getD hm) ?_; intro j hj hZ; subst hZ)
      rw [List.length_map, Array.length_toList] at hj
      rw [← numAt_eq xs j]; exact h2 j (by lia)
    · apply hle
      rw [hns, numAt_eq]; exact getD_mem (by rw [List.length_map, Array.length_toList]; lia)
  rw [e1]; exact Ends.grown b hk (.int _ _)
theorem con_max {ns : List Int} {m : Int} (hm : m ∈ ns) (hle : ∀ a ∈ ns, a ≤ m) : Con prog w G n (.builtin "max") [.list (ns.map .int)] (.int m) := fun A P s vs ok le b rm rs => by
  (refine RpL.el1 rs ?_; clear rs; intro _ h r; subst h)
  (refine el3x3 (r.list_inv) ?_; intro a vs k hZ; subst hZ; intro e rl)
  have hi := intsAre rl
  (refine el1x1 (hi.allInts.items) ?_; intro xs ex)
  have hns : ns = xs.toList.map (·.1) := by rw [← hi.numsOf, ← nums_intItems, ← ex]
  have hl := b.isList e
  have ev : vs = intItems xs := by simpa using ex
  rw [ev] at hl
  have hsz : 0 < xs.size := by
    have h3 := List.length_pos_of_mem hm; rw [hns, List.length_map, Array.length_toList] at h3; exact h3
  refine max_intList rm.hd hl hsz fun v h' tk hv hk => ?_
  (refine el1x1 (intItems_at hv) ?_; intro t hZ; subst hZ)
  (refine el0x2 (argBest_gt (numAt xs) (xs.size - 1)) ?_; intro h1 h2)
  have e1 : numAt xs (argBest (fun i j => decide (numAt xs i > numAt xs j)) (xs.size - 1)) = m := by
    apply Int.le_antisymm
    · apply hle
      rw [hns, numAt_eq]; exact getD_mem (by rw [List.length_map, Array.length_toList]; lia)
    · rw [hns] at hm
      (refine el1x2 (mem_getD hm) ?_; intro j hj hZ; subst hZ)
      rw [List.length_map, Array.length_toList] at hj
      rw [← numAt_eq xs j]; exact h2 j (by lia)
  rw [e1]; exact Ends.grown b hk (.int _ _)
theorem con_all {bs : List Bool} : Con prog w G n (.builtin "all") [.list (bs.map .bool)] (.bool (bs.all id)) := fun A P s vs ok le b rm rs => by
  (refine RpL.el1 rs ?_; clear rs; intro _ h r; subst h)
  (refine el3x3 (r.list_inv) ?_; intro a vs k hZ; subst hZ; intro e rl)
  have hl := b.isList e
  have hlt := Heap.lt_size (b _ _ e)
  refine call_all_walk (wpAny_pyIter_list hl ⟨s.heap.objs.size, [s.heap.objs.size, a], [s.heap.objs.size], vs.size, _, _, fun i => (bs[i]?).getD true, rfl, Walks.list (A := A.in1) rm.hd _ a (Nat.ne_of_lt hlt) vs, ⟨(in1x3 _ (Heap.get?_push_size _ rfl) rfl rfl), hl.push _⟩, fun i v s' Q' E' hP hQ => ?_, fun h' tk hk => ?_⟩)
  · (refine el1x2 (boolsAre rl (i := i) (v := v) (by simpa using hP)) ?_; intro b e hZ; subst hZ)
    simp only [e, Option.getD_some] at hQ
    exact wpAny_truthy_bool hQ
  · have hz : vs.size = bs.length := by have := rl.length; simpa using this
    have e1 : (List.range vs.size).all (fun i => (bs[i]?).getD true) = bs.all id := by
      rw [hz, Bool.eq_iff_iff, List.all_eq_true, List.all_eq_true]
      constructor
      · intro h x hx
        obtain ⟨i, hi, rfl⟩ := List.mem_iff_getElem.mp hx
        have := h i (by simpa using hi)
        rw [List.getElem?_eq_getElem hi] at this; simpa using this
      · intro h i hi
        have hi' : i < bs.length := by simpa using hi
        rw [List.getElem?_eq_getElem hi']
        exact h _ (List.getElem_mem hi')
    rw [e1]
    exact Ends.grown b (fun x o e => hk x o (by simp; exact Nat.ne_of_lt (Heap.lt_size e)) (Heap.get?_push_of_some _ e)) (.bool _)
theorem con_isBool {b : Bool} : Con prog w G n (.builtin "isinstance") [.bool b, .raw (.type "bool")] (.bool true) := fun A P s vs ok le bb rm rs => by
  (refine RpL.el2 rs ?_; clear rs; intro _ _ h r r'; subst h)
  (have h := Rp.bool_inv r; clear r; subst h); (have h := Rp.raw_inv r'; clear r'; subst h)
  exact IsiPair.bool_bool (Ends.now bb (.bool _))
theorem con_intTuple {i : Int} : Con prog w G n (.builtin "isinstance") [.int i, .raw (.type "tuple")] (.bool false) := fun A P s vs ok le bb rm rs => by
  (refine RpL.el2 rs ?_; clear rs; intro _ _ h r r'; subst h)
  (refine Rp.int_el r ?_; clear r; intro _ h; subst h); (have h := Rp.raw_inv r'; clear r'; subst h)
  exact IsiPair.int_tuple (Ends.tok bb (.bool _) _)
end
section
variable {prog : Program} {w : World} {G : GC} {n : Nat} {sc : Scp} {σ : Sto} {P : PMap}
noncomputable def Meth (prog : Program) (w : World) (pv : PV) (name : Str) (id : String) : Prop :=
  ∀ (A : Around) (P : PMap) (v : Value) (s : Shared) (pl : Sem Bool) (Q : Value × List Value → Shared → Prop), Sub P s.heap → Rp prog w P v pv → Q (.builtin id, [v]) s → wpAny (model prog w) A (getMethod v name pl) Q (fun _ _ => False) s
theorem attrCall_eq {o : Expr} {name : Str} {apos pos : Pos} {es : List Expr} {env : Env} (hb : attributeBase o name env (eval o env) = eval o env) (hf : methodCallForm es.length (backTo pos (starEach es env)) [] = true) (hp : (apos.endLine == pos.line) = true) :
    eval (.Call (.Attribute o name apos) es [] pos) env = (do
      let ov ← eval o env
      standAt apos.atName
      let (f, first) ← holding [ov] (getMethod ov name (do return (← importBound o env).getD true))
      callWith pos f first (backTo pos (starEach es env)) []) := by
  show (do
      let ov ← attributeBase o name env (eval o env)
      standAt apos.atName
      methodCall o name apos pos env ov (es.length + 0) (backTo pos (starEach es env)) []) = _
  rw [hb]
  congr 1; funext ov
  congr 1; funext _
  unfold methodCall calleeOf methodCallPos
  rw [Nat.add_zero, hf, hp]
  simp only [if_true, Bool.not_true, Bool.false_or, pure_bind]
theorem den_method {o : Expr} {name : Str} {apos pos : Pos} {es : List Expr} {id : String} {pvo r : PV} {ds : List PV} (d : Den prog w G n sc σ o pvo) (hm : Meth prog w pvo name id) (da : Argd prog w G n sc σ es ds) (c : Con prog w G n (.builtin id) (pvo :: ds) r)
    (hb : ∀ env t, attributeBase o name env t = t := by intros; rfl) (hf : ∀ env, methodCallForm es.length (backTo pos (starEach es env)) [] = true := by intros; rfl) (hp : (apos.endLine == pos.line) = true := by rfl) : Den prog w G n sc σ (.Call (.Attribute o name apos) es [] pos) r := .mk fun A P env s C => by
  refine MethodCall_ (d.go C fun u h₁ t₁ P₁ C₁ k₁ l₁ f₁ r₁ => hm A P₁ u _ _ _ C₁.sub r₁ ?_) (attrCall_eq (hb env _) (hf env) hp)
  obtain ⟨h1, h2⟩ := da.run A P₁ env _ pos (.builtin id) (fun x s₂ => wpAny (model prog w) A (call (.builtin id) ([u] ++ x.pos) x.kw) (fun v s' => Ends prog w P s v r s') (fun _ _ => False) s₂) C₁
    fun vs h₂ t₂ P₂ C₂ k₂ l₂ f₂ r₂ => wpAny_mono (c A P₂ _ (u :: vs) C₂.ok C₂.base C₂.sub C₂.room (.cons (r₁.mono l₂) r₂)) (fun _ _ e => Ends.back k₁ l₁ f₁ (Ends.back (s := { s with heap := h₁, toks := t₁ }) k₂ l₂ f₂ e)) fun _ _ x => x
  exact callWith_builtin h1 h2
theorem meth_list {name : Str} {id : String} {l : List PV} (slot : Slot "list" name id) (hty : typeOf (.builtin id) = pure (.type "method_descriptor")) : Meth prog w (.list l) name id := fun A P v s pl Q b r h => by
  (refine el3x3 (r.list_inv) ?_; intro a vs k hZ; subst hZ; intro e _)
  exact getMethod_builtin (Heap.IsList.typeIs (s := s) (b.isList e)) F.plainAttrs_list slot hty (fun x hx => by (have h := Value.ref.inj hx; clear hx; subst h); exact (in1x2 _ (b _ _ e) rfl)) h
theorem meth_count {x : Str} : Meth prog w (.str x) "count" "str.count" := fun A P v s pl Q b r h => by (refine Rp.str_el r ?_; clear r; intro _ h; subst h); exact GM.count h
theorem meth_join {x : Str} : Meth prog w (.str x) "join" "str.join" := fun A P v s pl Q b r h => by (refine Rp.str_el r ?_; clear r; intro _ h; subst h); exact GM.join h
theorem eqAt_items {A : Around} {s : Shared} {vs : Array Value} {ds : List PV} {x : Value} {dx : PV} (b : Sub P s.heap) (r : RpL prog w P vs.toList ds) (rx : Rp prog w P x dx) (hd : ∀ d ∈ ds, d.okd = true) (hx : dx.okd = true) (hu : A.units + 80 < cLine) :
    ∃ e : Value → Bool, (∀ y, y ∈ vs → SeqAt.EqAt A.in1 s y x (e y)) ∧ ∀ i (h : i < vs.size) (h' : i < ds.length), e vs[i] = ds[i].eqv dx := by
  classical
  refine (in1x2 (fun y => decide (∃ d ∈ ds, Rp prog w P y d ∧ d.eqv dx = true)) (fun y hy => ?_) (fun i h h' => ?_))
  · obtain ⟨i, hi, rfl⟩ := Array.mem_iff_getElem.mp hy
    have key : ∀ d, d ∈ ds → Rp prog w P vs[i] d → SeqAt.EqAt A.in1 s vs[i] x (d.eqv dx) := fun d hd' rd => by
      have ok := hd d hd'
      simp only [PV.okd, Bool.and_eq_true] at ok hx
      (refine el1x1 (rd.reads b ok.1) ?_; intro as ra)
      (refine el1x1 (rx.reads b hx.1) ?_; intro bs rb)
      exact SeqAt.eqAt_reads _ _ A.in1 s _ _ as bs ra rb (SeqAt.canLay_of_shaped ok.2) (SeqAt.canLay_of_shaped hx.2) (SeqAt.room_of_shaped ok.2 (by show A.units + 1 + 64 < _; exact lin [_, _] [.T 1 (.A (.V 0) (.N 80)) (.V 1)] (.T 1 (.A (.A (.V 0) (.N 1)) (.N 64)) (.V 1)) rfl hu))
    (refine el1x2 (r.get' (k := i) (v := vs[i]) (by simp [hi])) ?_; intro d hdi rd)
    have hdm := List.mem_of_getElem? hdi
    by_cases q : ∃ d ∈ ds, Rp prog w P vs[i] d ∧ d.eqv dx = true
    · (refine el1x3 q ?_; clear q; intro d' m' r' e')
      have := key d' m' r'
      rw [e'] at this
      simpa [show (∃ d ∈ ds, Rp prog w P vs[i] d ∧ d.eqv dx = true) from (in1x3 d' m' r' e')] using this
    · have := key d hdm rd
      have e' : d.eqv dx = false := by
        cases z : d.eqv dx with
        | false => rfl
        | true => exact absurd (in1x3 d hdm rd z) q
      rw [e'] at this
      simpa [q] using this
  · (refine el1x2 (r.get' (k := i) (v := vs[i]) (by simp [h])) ?_; intro d hdi rd)
    have hdi' : d = ds[i] := by rw [List.getElem?_eq_getElem h'] at hdi; exact (Option.some.inj hdi).symm
    cases z : ds[i].eqv dx with
    | true => simp only [decide_eq_true_eq]; exact (in1x3 (ds[i]) (List.getElem_mem h') (hdi' ▸ rd) z)
    | false =>
      simp only [decide_eq_false_iff_not]
      rintro ⟨d', m', r', e'⟩
      have f1 : d'.flat = true := by have := hd d' m'; simp only [PV.okd, Bool.and_eq_true] at this; exact this.1
      have f2 : d.flat = true := by have := hd d (List.mem_of_getElem? hdi); simp only [PV.okd, Bool.and_eq_true] at this; exact this.1
      have e2 : d'.eqv dx = d.eqv dx := by
        (refine el1x1 (r'.reads b f1) ?_; intro as ra)
        (refine el1x1 (rd.reads b f2) ?_; intro bs rb)
        unfold PV.eqv; rw [(Reads.unique ra _ _ rb).1]
      rw [e2, hdi', z] at e'; exact no3 e'
theorem countP_index {α β : Type} (p : α → Bool) (q : β → Bool) : ∀ (l : List α) (m : List β), l.length = m.length → (∀ i (h : i < l.length) (h' : i < m.length), p l[i] = q m[i]) → l.countP p = m.countP q
  | [], [], _, _ => rfl
  | a :: l, b :: m, h, e => by
    have e0 := e 0 (by simp) (by simp)
    simp only [List.getElem_cons_zero] at e0
    rw [List.countP_cons, List.countP_cons, e0, countP_index p q l m (by simpa using h) fun i h1 h2 => by have := e (i + 1) (by simpa using h1) (by simpa using h2); rw [List.getElem_cons_succ, List.getElem_cons_succ] at this; exact this]
theorem con_count {l : List PV} {d : PV} (hl : ∀ x ∈ l, x.okd = true) (hd : d.okd = true) : Con prog w G n (.builtin "list.count") [.list l, d] (.int (l.countP fun x => x.eqv d)) := fun A P s vs ok le b rm rs => by
  (refine RpL.el2 rs ?_; clear rs; intro _ _ h r r'; subst h)
  (refine el3x3 (r.list_inv) ?_; intro a vs k hZ; subst hZ; intro e rl)
  (refine el1x2 (eqAt_items (A := A) (s := s) b rl r' hl hd (by have := rm.un; exact lin [_, _, _] [.T 1 (.A (.A (.V 0) (.N 80)) (.M 10 (.V 1))) (.V 2)] (.T 1 (.A (.V 0) (.N 80)) (.V 2)) rfl this)) ?_; intro f h1 h2)
  refine call_meets PySem.F.slot_list_count (in1x2 _ (b _ _ e) rfl) PySem.F.entry_list_count (PySem.F.args_list_count_2 _ _) (SeqAt.list_countAt a vs k none #[] _ f) (in0x3 (b _ _ e) h1 ?_)
  have hz : vs.toList.length = l.length := rl.length
  rw [countP_index f (fun x => x.eqv d) vs.toList l hz fun i h h' => by simpa using h2 i (by simpa using h) h']
  exact Ends.tok b (.int _ _) _
theorem con_index {l : List PV} {d : PV} {j : Nat} (hl : ∀ x ∈ l, x.okd = true) (hd : d.okd = true) (hj : j < l.length) (hit : l[j].eqv d = true) (hno : ∀ m (hm : m < l.length), m < j → l[m].eqv d = false) (hz : l.length < 2 ^ 62) :
    Con prog w G n (.builtin "list.index") [.list l, d] (.int j) := fun A P s vs ok le b rm rs => by
  (refine RpL.el2 rs ?_; clear rs; intro _ _ h r r'; subst h)
  (refine el3x3 (r.list_inv) ?_; intro a vs k hZ; subst hZ; intro e rl)
  (refine el1x2 (eqAt_items (A := A) (s := s) b rl r' hl hd (by have := rm.un; exact lin [_, _, _] [.T 1 (.A (.A (.V 0) (.N 80)) (.M 10 (.V 1))) (.V 2)] (.T 1 (.A (.V 0) (.N 80)) (.V 2)) rfl this)) ?_; intro f h1 h2)
  have hz' : vs.size = l.length := by have := rl.length; simpa using this
  refine call_meets PySem.F.slot_list_index (in1x2 _ (b _ _ e) rfl) PySem.F.entry_list_index (PySem.F.args_list_index_2 _ _) (SeqAt.list_indexAt a vs k none #[] _ f j (by lia) (by lia) (by rw [h2 j (by omega) hj]; exact hit) fun m hm hmj => by rw [h2 m hm (by exact lin [_, _, _] [.T 1 (.V 0) (.V 1), .T 1 (.V 2) (.V 0)] (.T 1 (.V 2) (.V 1)) rfl hj hmj)]; exact hno m (by exact lin [_, _, _] [.T 1 (.V 0) (.V 1), .T 1 (.V 2) (.V 0)] (.T 1 (.V 2) (.V 1)) rfl hj hmj) hmj) (in0x3 (b _ _ e) h1 ?_)
  exact Ends.tok b (.int _ _) _
theorem con_strcount {x y : Str} : Con prog w G n (.builtin "str.count") [.str x, .str y] (.int (Txt.count x y)) := fun A P s vs ok le b rm rs => by
  (refine RpL.el2 rs ?_; clear rs; intro _ _ h r r'; subst h)
  (refine Rp.str_el r ?_; clear r; intro _ h; subst h); (refine Rp.str_el r' ?_; clear r'; intro _ h; subst h)
  exact SC.count (Ends.tok b (.int _ _) _)
theorem strsAre {vs : List Value} {ys : List Str} (r : RpL prog w P vs (ys.map .str)) : StrsAre vs ys := by
  induction ys generalizing vs with
  | nil => rw [RpL.nil_inv r]; exact .nil
  | cons a l ih => (refine RpL.cons_el r ?_; clear r; intro _ _ hZ h r; subst hZ); (refine Rp.str_el h ?_; clear h; intro _ h; subst h); exact .cons _ _ (ih r)
theorem con_join {x : Str} {ys : List Str} (hok : (ys.map (·.length)).sum + ys.length * x.length ≤ 16777216) : Con prog w G n (.builtin "str.join") [.str x, .list (ys.map .str)] (.str (Txt.join x ys)) := fun A P s vs ok le b rm rs => by
  (refine RpL.el2 rs ?_; clear rs; intro _ _ h r r'; subst h)
  (refine Rp.str_el r ?_; clear r; intro _ h; subst h)
  (refine el3x3 (r'.list_inv) ?_; intro a vs k hZ; subst hZ; intro e rl)
  exact join_list (b.isList e) (strsAre rl) hok fun t' k => Ends.tok b (.str _ _) _
theorem pys_any (d : PV) : ∀ l : List PV, (PV.pys l).any (fun y => PyData.eqv y d.py) = l.any fun x => x.eqv d
  | [] => by unfold PV.pys; rfl
  | a :: l => by unfold PV.pys; rw [List.any_cons, List.any_cons, pys_any d l]; rfl
end
noncomputable def compOk (sc : Scope) (x : Str) (ns : List Str) : Bool :=
  decide (sc.names.map (·.1)).Nodup && decide (sc.kind = .function) && decide ((x, NameKind.local) ∈ sc.names ∨ (x, NameKind.cell) ∈ sc.names) && (x == ("__debug__" : Str)) == false && decide (x ∉ ns)
theorem turned_push {x : Str} {pv : PV} {τ : Sto} (h : x ∉ τ.map (·.1)) : Turned x pv τ ((x, some pv) :: τ) := fun y q hy => by
  rcases List.mem_cons.mp hy with e | e
  · cases e; exact .inl ⟨rfl, rfl⟩
  · exact .inr ⟨fun q => h (by subst q; exact List.mem_map.mpr (in1x2 _ e rfl)), e⟩
section
variable {prog : Program} {w : World} {G : GC} {n : Nat} {sc : Scp} {σ τ : Sto}
theorem den_if1 {α : Type} (enc : α → PV) (l : List α) (p : α → Bool) (g : α → PV) (ns : List Str) {elt iter : Expr} {x : Str} {px : Pos} {ifs : List Expr} {scope : Scope} {pos : Pos} {src : PV}
    (di : Den prog w G n sc σ iter src) (hi : Its prog w src (l.map enc)) (hc : Cap σ sc scope.names τ) (hT : ∀ d ∈ l, Ifs prog w G n scope.names ((x, some (enc d)) :: τ) ifs (p d))
    (hE : ∀ d ∈ l, p d = true → Den prog w G n scope.names ((x, some (enc d)) :: τ) elt (g d)) (hsz : l.length ≤ sizeLine) (hns : τ.map (·.1) = ns) (hok : compOk scope x ns = true)
    (hs : ∀ env x, foldedSetIterable iter env x = pure x := by intro _ _; rfl) : Den prog w G n sc σ (.ListComp elt [⟨.Name x px, iter, ifs, 0⟩] scope pos) (.list ((l.filter p).map g)) := by
  simp only [compOk, Bool.and_eq_true, decide_eq_true_eq, beq_iff_eq] at hok
  (refine el0x2 hok ?_; clear hok; intro hZ; refine el0x2 hZ ?_; clear hZ; intro hZ; refine el0x2 hZ ?_; clear hZ; intro hZ; refine el0x2 hZ ?_; clear hZ; intro h1 h2; intro h3; intro h4; intro h5)
  exact den_compG (xs := [x]) (σt := fun d => (x, some (enc d)) :: τ) di hi h1 h2 hc (fun y hy => by simp at hy; subst hy; exact h3) (fun d _ => asg_name h4 (turned_push (by rw [hns]; exact h5))) (fun d q hq => List.mem_cons_of_mem _ hq) hT hE hsz hs
theorem den_for1 {α : Type} (enc : α → PV) (l : List α) (g : α → PV) (ns : List Str) {elt iter : Expr} {x : Str} {px : Pos} {scope : Scope} {pos : Pos} {src : PV}
    (di : Den prog w G n sc σ iter src) (hi : Its prog w src (l.map enc)) (hc : Cap σ sc scope.names τ)
    (hE : ∀ d ∈ l, Den prog w G n scope.names ((x, some (enc d)) :: τ) elt (g d)) (hsz : l.length ≤ sizeLine) (hns : τ.map (·.1) = ns) (hok : compOk scope x ns = true)
    (hs : ∀ env x, foldedSetIterable iter env x = pure x := by intro _ _; rfl) : Den prog w G n sc σ (.ListComp elt [⟨.Name x px, iter, [], 0⟩] scope pos) (.list (l.map g)) := by
  have := den_if1 enc l (fun _ => true) g ns (px := px) (pos := pos) di hi hc (fun d _ => .inl ⟨rfl, rfl⟩) (fun d hd _ => hE d hd) hsz hns hok hs
  rwa [List.filter_eq_self.mpr (fun _ _ => rfl)] at this
end
section
variable {prog : Program} {w : World} {G : GC} {n : Nat} {A : Around} {W V : Addr → Prop} {s₀ : Shared} {P₀ : PMap} {env : Env} {sc : Scp} {xs : List Str} {M X P : PMap} {σ σ' τ : Sto} {s : Shared}
theorem st_assign_if1 {α : Type} (enc : α → PV) (l : List α) (p : α → Bool) (g : α → PV) (ns : List Str) {z : Str} {pz pa : Pos} {elt iter : Expr} {x : Str} {px : Pos} {ifs : List Expr} {scope : Scope} {pos : Pos} {src : PV} {Q : Flow → Shared → Prop}
    (F : Fn prog w G n A W V s₀ P₀ env sc xs M X P σ s) (di : Den prog w G n sc σ iter src) (hi : Its prog w src (l.map enc)) (hc : Cap σ sc scope.names τ) (hT : ∀ d ∈ l, Ifs prog w G n scope.names ((x, some (enc d)) :: τ) ifs (p d))
    (hE : ∀ d ∈ l, p d = true → Den prog w G n scope.names ((x, some (enc d)) :: τ) elt (g d)) (hsz : l.length ≤ sizeLine) (hns : τ.map (·.1) = ns) (hok : compOk scope x ns = true)
    (hz : z ∈ xs) (hk : (z, NameKind.local) ∈ sc) (hsw : (pz.line == pos.line && !(scope.names.any fun (n, k) => n == z && (k == .local || k == .cell))) = true) (T : Turned z (.list ((l.filter p).map g)) σ σ')
    (h : ∀ s' P', Fn prog w G n A W V s₀ P₀ env sc xs M X P' σ' s' → PMap.le P P' → Q .next s')
    (hs : ∀ env x, foldedSetIterable iter env x = pure x := by intro _ _; rfl) : wpAny (model prog w) A (exec (.Assign [.Name z pz] (.ListComp elt [⟨.Name x px, iter, ifs, 0⟩] scope pos) pa) env) Q (fun _ _ => False) s := by
  simp only [compOk, Bool.and_eq_true, decide_eq_true_eq, beq_iff_eq] at hok
  (refine el0x2 hok ?_; clear hok; intro hZ; refine el0x2 hZ ?_; clear hZ; intro hZ; refine el0x2 hZ ?_; clear hZ; intro hZ; refine el0x2 hZ ?_; clear hZ; intro h1 h2; intro h3; intro h4; intro h5)
  refine st_assign_comp (ys := [x]) (σt := fun d => (x, some (enc d)) :: τ) F di hi h1 h2 hc (fun y hy => by simp at hy; subst hy; exact h3) (fun d _ => asg_name h4 (turned_push (by rw [hns]; exact h5))) (fun d q hq => List.mem_cons_of_mem _ hq) hT hE hsz hz T h ?_ hs
  show (pure (env.blockKind == .function && env.kindOf z == some .local && pz.line == pos.line && !(scope.names.any fun (n, k) => n == z && (k == .local || k == .cell))) : Sem Bool) = pure true
  rw [F.bk, F.kx _ _ hk]
  rw [Bool.and_eq_true] at hsw
  simp only [hsw.1, hsw.2]; rfl
theorem st_assign_for1 {α : Type} (enc : α → PV) (l : List α) (g : α → PV) (ns : List Str) {z : Str} {pz pa : Pos} {elt iter : Expr} {x : Str} {px : Pos} {scope : Scope} {pos : Pos} {src : PV} {Q : Flow → Shared → Prop}
    (F : Fn prog w G n A W V s₀ P₀ env sc xs M X P σ s) (di : Den prog w G n sc σ iter src) (hi : Its prog w src (l.map enc)) (hc : Cap σ sc scope.names τ)
    (hE : ∀ d ∈ l, Den prog w G n scope.names ((x, some (enc d)) :: τ) elt (g d)) (hsz : l.length ≤ sizeLine) (hns : τ.map (·.1) = ns) (hok : compOk scope x ns = true)
    (hz : z ∈ xs) (hk : (z, NameKind.local) ∈ sc) (hsw : (pz.line == pos.line && !(scope.names.any fun (n, k) => n == z && (k == .local || k == .cell))) = true) (T : Turned z (.list (l.map g)) σ σ')
    (h : ∀ s' P', Fn prog w G n A W V s₀ P₀ env sc xs M X P' σ' s' → PMap.le P P' → Q .next s')
    (hs : ∀ env x, foldedSetIterable iter env x = pure x := by intro _ _; rfl) : wpAny (model prog w) A (exec (.Assign [.Name z pz] (.ListComp elt [⟨.Name x px, iter, [], 0⟩] scope pos) pa) env) Q (fun _ _ => False) s := by
  refine st_assign_if1 enc l (fun _ => true) g ns F di hi hc (fun d _ => .inl ⟨rfl, rfl⟩) (fun d hd _ => hE d hd) hsz hns hok hz hk hsw ?_ h hs
  rwa [List.filter_eq_self.mpr (fun _ _ => rfl)]
theorem noSwap_cell {z : Str} {pz : Pos} {ln : Nat} {elt : Expr} {gens : List Comprehension} {scope : Scope} {pos : Pos} (F : Fn prog w G n A W V s₀ P₀ env sc xs M X P σ s) (hk : (z, NameKind.cell) ∈ sc) :
    swapsWith (.ListComp elt gens scope pos) (some (.Name z pz)) ln env = pure false := by
  show (pure (env.blockKind == .function && env.kindOf z == some .local && pz.line == pos.line && !(scope.names.any fun (n, k) => n == z && (k == .local || k == .cell))) : Sem Bool) = pure false
  rw [F.kx _ _ hk, show (some NameKind.cell == some NameKind.local) = false from rfl, Bool.and_false]; rfl
end
section
variable {prog : Program} {w : World} {G : GC} {n : Nat} {A : Around} {W V : Addr → Prop} {s₀ : Shared} {P₀ : PMap} {env : Env} {sc : Scp} {xs : List Str} {M X P : PMap} {σ σ' τ : Sto} {s : Shared} {rest : List Stmt} {Q : Flow → Shared → Prop}
noncomputable def Then (prog : Program) (w : World) (A : Around) (env : Env) (rest : List Stmt) (Q : Flow → Shared → Prop) (f : Flow) (s' : Shared) : Prop := match f with
  | .next => wpAny (model prog w) A (execs rest env) Q (fun _ _ => False) s'
  | f => Q f s'
theorem then_next (h : Run prog w A env rest Q s) : Then prog w A env rest Q .next s := h.run
theorem then_ret {v : Value} (h : Q (.ret v) s) : Then prog w A env rest Q (.ret v) s := h
theorem then_cont (h : Q .cont s) : Then prog w A env rest Q .cont s := h
theorem sc_of {st : Stmt} (h : wpAny (model prog w) A (exec st env) (Then prog w A env rest Q) (fun _ _ => False) s) : Run prog w A env (st :: rest) Q s :=
  .mk <| st_cons (wpAny_mono h (fun f s' q => by cases f <;> exact q) fun _ _ q => q)
theorem sc_nil (h : Q .next s) : Run prog w A env [] Q s := .mk (st_nil h)
theorem sc_assign {x : Str} {e : Expr} {p p' : Pos} {pv : PV} (F : Fn prog w G n A W V s₀ P₀ env sc xs M X P σ s) (D : Den prog w G n sc σ e pv) (hs : swapsWith e (some (.Name x p')) p.line env = pure false) (hx : x ∈ xs) (T : Turned x pv σ σ')
    (h : ∀ s' P', Fn prog w G n A W V s₀ P₀ env sc xs M X P' σ' s' → PMap.le P P' → Run prog w A env rest Q s') : Run prog w A env (.Assign [.Name x p'] e p :: rest) Q s :=
  sc_of (st_assign F D hx T (fun s' P' F l => then_next (h s' P' F l)) hs)
theorem sc_ret {e : Expr} {p : Pos} {pv : PV} (F : Fn prog w G n A W V s₀ P₀ env sc xs M X P σ s) (D : Den prog w G n sc σ e pv)
    (h : ∀ v s' P', Fn prog w G n A W V s₀ P₀ env sc xs M X P' σ s' → PMap.le P P' → Rp prog w P' v pv → Q (.ret v) s') : Run prog w A env (.Return (some e) p :: rest) Q s :=
  sc_of (st_ret F D fun v s' P' F l r => then_ret (h v s' P' F l r))
theorem sc_skip {e : Expr} {p : Pos} {body : List Stmt} (F : Fn prog w G n A W V s₀ P₀ env sc xs M X P σ s) (D : DenT prog w G n sc σ e false)
    (h : ∀ s' P', Fn prog w G n A W V s₀ P₀ env sc xs M X P' σ s' → PMap.le P P' → Run prog w A env rest Q s') : Run prog w A env (.If e body [] p :: rest) Q s :=
  sc_of (st_if F D fun s' P' F l => st_nil (then_next (h s' P' F l)))
theorem sc_if {e : Expr} {p : Pos} {b : Bool} {body orelse : List Stmt} (F : Fn prog w G n A W V s₀ P₀ env sc xs M X P σ s) (D : DenT prog w G n sc σ e b)
    (ht : b = true → ∀ s' P', Fn prog w G n A W V s₀ P₀ env sc xs M X P' σ s' → PMap.le P P' → Run prog w A env body (Then prog w A env rest Q) s')
    (hf : b = false → ∀ s' P', Fn prog w G n A W V s₀ P₀ env sc xs M X P' σ s' → PMap.le P P' → Run prog w A env orelse (Then prog w A env rest Q) s') : Run prog w A env (.If e body orelse p :: rest) Q s :=
  sc_of (st_if F D fun s' P' F l => by cases b with
    | true => exact (ht rfl s' P' F l).run
    | false => exact (hf rfl s' P' F l).run)
theorem sc_assign_for1 {α : Type} (enc : α → PV) (l : List α) (g : α → PV) (ns : List Str) {z : Str} {pz pa : Pos} {elt iter : Expr} {x : Str} {px : Pos} {scope : Scope} {pos : Pos} {src : PV}
    (F : Fn prog w G n A W V s₀ P₀ env sc xs M X P σ s) (di : Den prog w G n sc σ iter src) (hi : Its prog w src (l.map enc)) (hc : Cap σ sc scope.names τ)
    (hE : ∀ d ∈ l, Den prog w G n scope.names ((x, some (enc d)) :: τ) elt (g d)) (hsz : l.length ≤ sizeLine) (hns : τ.map (·.1) = ns) (hok : compOk scope x ns = true)
    (hz : z ∈ xs) (hk : (z, NameKind.local) ∈ sc) (hsw : (pz.line == pos.line && !(scope.names.any fun (n, k) => n == z && (k == .local || k == .cell))) = true) (T : Turned z (.list (l.map g)) σ σ')
    (h : ∀ s' P', Fn prog w G n A W V s₀ P₀ env sc xs M X P' σ' s' → PMap.le P P' → Run prog w A env rest Q s')
    (hs : ∀ env x, foldedSetIterable iter env x = pure x := by intro _ _; rfl) : Run prog w A env (.Assign [.Name z pz] (.ListComp elt [⟨.Name x px, iter, [], 0⟩] scope pos) pa :: rest) Q s :=
  sc_of (st_assign_for1 enc l g ns F di hi hc hE hsz hns hok hz hk hsw T (fun s' P' F l => then_next (h s' P' F l)) hs)
theorem sc_for {α : Type} {target iter : Expr} {body : List Stmt} {pos : Pos} {src : PV} (enc : α → PV) (items : List α) (σs σt : Nat → Sto) (I : Nat → PMap → PMap → PMap → Prop) (R : PMap → PMap → PMap → Value → Prop)
    (F : Fn prog w G n A W V s₀ P₀ env sc xs M X P (σs 0) s) (di : Den prog w G n sc (σs 0) iter src) (hi : Its prog w src (items.map enc))
    (hI : ∀ j M X P P', PMap.le P P' → I j M X P → I j M X P') (i0 : I 0 M X P)
    (hA : ∀ j a, items[j]? = some a → Asg prog w G n sc xs target (σs j) (enc a) (σt j))
    (hB : ∀ j a, items[j]? = some a → ∀ W' V' s₁ P₁ M X P s, Fn prog w G n A W' V' s₁ P₁ env sc xs M X P (σt j) s → I j M X P → Run prog w A env body (fun f s' => match f with
      | .next | .cont => ∃ M' X' P', Fn prog w G n A W' V' s₁ P₁ env sc xs M' X' P' (σs (j + 1)) s' ∧ I (j + 1) M' X' P'
      | .brk => False
      | .ret v => ∃ M' X' P', Fn prog w G n A W' V' s₁ P₁ env sc xs M' X' P' [] s' ∧ R M' X' P' v) s)
    (hQ : ∀ M' X' P' s', Fn prog w G n A W V s₀ P₀ env sc xs M' X' P' (σs items.length) s' → I items.length M' X' P' → PMap.le P P' → Run prog w A env rest Q s')
    (hR : ∀ M' X' P' s' v, Fn prog w G n A W V s₀ P₀ env sc xs M' X' P' [] s' → R M' X' P' v → PMap.le P P' → Q (.ret v) s')
    (hs : ∀ x, foldedSetIterable iter env x = pure x := by intro _; rfl) : Run prog w A env (.For target iter body [] pos :: rest) Q s :=
  sc_of (st_for F di hi hI i0 hA (fun j a h W' V' s₁ P₁ M X P s F i => (hB j a h W' V' s₁ P₁ M X P s F i).run) (fun M' X' P' s' F i l => then_next (hQ M' X' P' s' F i l)) (fun M' X' P' s' v F i l => then_ret (hR M' X' P' s' v F i l)) hs)
end
section
variable {prog : Program} {w : World} {G : GC} {n : Nat} {A : Around} {W V : Addr → Prop} {s₀ : Shared} {P₀ : PMap} {env : Env} {sc : Scp} {xs : List Str} {M X P : PMap} {σ σ' τ : Sto} {s : Shared} {rest : List Stmt} {Q : Flow → Shared → Prop}
inductive Nms : List Expr → List PV → Sto → Sto → List Str → Prop
  | nil {σ : Sto} : Nms [] [] σ σ []
  | cons {x : Str} {p : Pos} {d : PV} {ts : List Expr} {ds : List PV} {σ σ₁ σ₂ : Sto} {ys : List Str} : (x == ("__debug__" : Str)) = false → Turned x d σ σ₁ → Nms ts ds σ₁ σ₂ ys → Nms (.Name x p :: ts) (d :: ds) σ σ₂ (x :: ys)
theorem Nms.each {ts : List Expr} {ds : List PV} {ys : List Str} (h : Nms ts ds σ σ' ys) : (assignEach ts env).length = ds.length ∧ (assignEach ts env).findIdx? (·.1) = none := by
  induction h with
  | nil => exact ⟨rfl, rfl⟩
  | @cons x p d ts ds _ _ _ ys _ _ _ ih =>
    have e : assignEach (.Name x p :: ts) env = (false, assign (.Name x p) env) :: assignEach ts env := rfl
    rw [e]
    refine ⟨by simp [ih.1], ?_⟩
    rw [List.findIdx?_cons, ih.2]; rfl
theorem Nms.run {ts : List Expr} {ds : List PV} {ys : List Str} (h : Nms ts ds σ σ' ys) : ∀ (P : PMap) (s : Shared) (vs : List Value) (Q : Unit → Shared → Prop), Cx prog w G n A P env sc σ s → (∀ y ∈ ys, Own env y) → RpL prog w P vs ds →
    (∀ h' tk, Cx prog w G n A P env sc σ' { s with heap := h', toks := tk } → KeepT env ys s.heap h' → Q () { s with heap := h', toks := tk }) → wpAny (model prog w) A (assignInOrder ((assignEach ts env).map (·.2)) vs) Q (fun _ _ => False) s := by
  induction h with
  | nil => intro P s vs Q C ho r h; (have h := RpL.nil_inv r; clear r; subst h); exact wpAny_pure (h s.heap s.toks C (KeepT.of (Keep.refl _)))
  | @cons x p d ts ds _ _ _ ys hd T _ ih =>
    intro P s vs Q C ho r h
    (refine RpL.cons_el r ?_; clear r; intro v vs hZ r rs; subst hZ)
    have e : assignEach (.Name x p :: ts) env = (false, assign (.Name x p) env) :: assignEach ts env := rfl
    rw [e]
    show wpAny _ _ (do holding vs (assign (.Name x p) env v); assignInOrder ((assignEach ts env).map (·.2)) vs) _ _ _
    refine wpAny_bind (wpAny_holding (wpAny_assign_Name (C.store (ho x (by simp)) hd T r fun h' tk C' k _ => ?_)))
    refine ih P _ vs Q C' (fun y hy => ho y (List.mem_cons_of_mem _ hy)) rs fun h'' tk' C'' k' => ?_
    exact h h'' tk' C'' ((k.mono (by simp)).trans (k'.mono fun z hz => List.mem_cons_of_mem _ hz))
theorem Keep.ofExt {h h' : Heap} (k : Heap.ExtBut h.objs.size h h') : Keep h h' := fun a o e => k a o (Nat.ne_of_lt (Heap.lt_size e)) e
theorem asg_names {ts : List Expr} {ds : List PV} {ys : List Str} {k : Nat} {pos : Pos} (h : Nms ts ds σ σ' ys) (hs : ∀ y ∈ ys, y ∈ xs) : Asg prog w G n sc xs (.Tuple ts k pos) σ (.tuple ds) σ' := .mk fun A P env s v Q C ho r hQ => by
  (refine el3x3 (r.tuple_inv) ?_; intro a vs kk hZ; subst hZ; intro e rl)
  have hT := C.sub.isTuple e
  have hE := h.each (env := env)
  rw [assign_Tuple]
  refine wpAny_bind (wpAny_standAt ?_)
  refine wpAny_unpack_tuple C.room.hd hT (by rw [hE.1]; have := rl.length; simp only [Array.length_toList] at this; exact this.symm) hE.2 fun h' kx => ?_
  have kp := Keep.ofExt kx
  have C' := C.next (tk := s.toks) kp (PMap.le_refl _) (C.sub.keep kp) (Grew.refl _ _)
  exact h.run P _ vs.toList _ C' (fun y hy => ho y (hs y hy)) rl fun h'' tk C'' k'' => hQ h'' tk P C'' ((KeepT.of kp).trans (k''.mono hs)) (PMap.le_refl _) (Grew.refl _ _)
theorem sc_names {ts : List Expr} {ds : List PV} {ys : List Str} {k : Nat} {e : Expr} {p p' : Pos} (F : Fn prog w G n A W V s₀ P₀ env sc xs M X P σ s) (D : Den prog w G n sc σ e (.tuple ds)) (N : Nms ts ds σ σ' ys) (hy : ∀ y ∈ ys, y ∈ xs)
    (hs : swapsWithSole [.Tuple ts k p'] e p.line env = pure false) (hw : swappedStores [.Tuple ts k p'] e env = pure none)
    (h : ∀ s' P', Fn prog w G n A W V s₀ P₀ env sc xs M X P' σ' s' → PMap.le P P' → Run prog w A env rest Q s') : Run prog w A env (.Assign [.Tuple ts k p'] e p :: rest) Q s :=
  sc_of (Assign_Tuple (F.evald D fun v s' P' F' l _ r => (asg_names (xs := xs) N hy).run A P' env s' v _ F'.cx (fun x hx => (F'.own x hx).1) r fun h' tk P'' C'' k'' l'' g'' => then_next (h _ _ (F'.stored C'' k'' l'' g'') (l.trans l''))) hs hw)
theorem sc_names_swap {ts : List Expr} {ds : List PV} {k : Nat} {e : Expr} {p p' : Pos} {names : List Str} (F : Fn prog w G n A W V s₀ P₀ env sc xs M X P σ s) (D : Den prog w G n sc σ e (.tuple ds)) (hn : names.length = ds.length)
    (N : ∀ (P : PMap) (s : Shared) (vs : List Value) (Q : Unit → Shared → Prop), Fn prog w G n A W V s₀ P₀ env sc xs M X P σ s → RpL prog w P vs ds → (∀ s', Fn prog w G n A W V s₀ P₀ env sc xs M X P σ' s' → Q () s') → wpAny (model prog w) A (assignInOrder (names.reverse.map fun n => bindName env n) vs.reverse) Q (fun _ _ => False) s)
    (hs : swapsWithSole [.Tuple ts k p'] e p.line env = pure false) (hw : swappedStores [.Tuple ts k p'] e env = pure (some names))
    (h : ∀ s' P', Fn prog w G n A W V s₀ P₀ env sc xs M X P' σ' s' → PMap.le P P' → Run prog w A env rest Q s') : Run prog w A env (.Assign [.Tuple ts k p'] e p :: rest) Q s :=
  sc_of (Assign_Tuple_swapped (F.evald D fun v s' P' F' l _ r => by
    (refine el3x3 (r.tuple_inv) ?_; intro a vs kk hZ; subst hZ; intro e rl)
    have hT := F'.cx.sub.isTuple e
    have hz : names.length = vs.size := by have := rl.length; simp only [Array.length_toList] at this; exact Nat.le_antisymm (lin [_, _, _] [.E 1 (.V 0) (.V 1), .Q 1 (.V 2) (.V 1)] (.L 1 (.V 0) (.V 2)) rfl hn this) (lin [_, _, _] [.Q 1 (.V 0) (.V 1), .E 1 (.V 2) (.V 1)] (.L 1 (.V 2) (.V 0)) rfl hn this)
    rw [hz]
    refine wpAny_unpackItems_tuple F'.cx.room.hd hT fun h' kx => ?_
    have kp := Keep.ofExt kx
    have F'' := F'.move (tk := s'.toks) kp (PMap.le_refl _) (F'.cx.sub.keep kp) (Grew.refl _ _)
    exact N P' _ vs.toList _ F'' rl fun s3 F3 => then_next (h _ _ F3 l)) hs hw)
theorem swap2 {x y : Str} {d e : PV} {σ₁ : Sto} (hx : x ∈ xs) (hy : y ∈ xs) (T : Turned y e σ σ₁) (T' : Turned x d σ₁ σ') : ∀ (P : PMap) (s : Shared) (vs : List Value) (Q : Unit → Shared → Prop), Fn prog w G n A W V s₀ P₀ env sc xs M X P σ s → RpL prog w P vs [d, e] → (∀ s', Fn prog w G n A W V s₀ P₀ env sc xs M X P σ' s' → Q () s') → wpAny (model prog w) A (assignInOrder ([x, y].reverse.map fun n => bindName env n) vs.reverse) Q (fun _ _ => False) s := fun P s vs Q F r h => by
  (refine RpL.el2 r ?_; clear r; intro v u hZ r r'; subst hZ)
  show wpAny _ _ (do holding [v] (bindName env y u); assignInOrder [bindName env x] [v]) _ _ _
  refine wpAny_bind (wpAny_holding (bindName_ (F.store hy T r' fun s₁ F₁ => ?_)))
  show wpAny _ _ (do holding [] (bindName env x v); assignInOrder [] []) _ _ _
  exact wpAny_bind (wpAny_holding (bindName_ (F₁.store hx T' r fun s₂ F₂ => wpAny_pure (h s₂ F₂))))
noncomputable def envS (sc : Scp) : Env := { scope := { kind := .function, names := sc, isGenerator := false, isCoroutine := false }, locals := 0, globals := 0, cells := [] }
theorem sw_env2 {x y : Str} {px py p p' : Pos} {k k' : Nat} {vs : List Expr} (e e' : Env) (h : e.blockKind = e'.blockKind) (hx : e.kindOf x = e'.kindOf x) (hy : e.kindOf y = e'.kindOf y) :
    swappedStores [.Tuple [.Name x px, .Name y py] k p] (.Tuple vs k' p') e = swappedStores [.Tuple [.Name x px, .Name y py] k p] (.Tuple vs k' p') e' := by
  unfold swappedStores
  dsimp only
  rw [h]
  generalize hN : List.filterMap _ [Expr.Name x px, Expr.Name y py] = N
  generalize hM : List.filterMap _ [Expr.Name x px, Expr.Name y py] = M
  have q : N = M := by rw [← hN, ← hM]; dsimp only [List.filterMap]; rw [hx, hy]
  rw [q]
theorem sw_env3 {x y z : Str} {px py pz p p' : Pos} {k k' : Nat} {vs : List Expr} (e e' : Env) (h : e.blockKind = e'.blockKind) (hx : e.kindOf x = e'.kindOf x) (hy : e.kindOf y = e'.kindOf y) (hz : e.kindOf z = e'.kindOf z) :
    swappedStores [.Tuple [.Name x px, .Name y py, .Name z pz] k p] (.Tuple vs k' p') e = swappedStores [.Tuple [.Name x px, .Name y py, .Name z pz] k p] (.Tuple vs k' p') e' := by
  unfold swappedStores
  dsimp only
  rw [h]
  generalize hN : List.filterMap _ [Expr.Name x px, Expr.Name y py, Expr.Name z pz] = N
  generalize hM : List.filterMap _ [Expr.Name x px, Expr.Name y py, Expr.Name z pz] = M
  have q : N = M := by rw [← hN, ← hM]; dsimp only [List.filterMap]; rw [hx, hy, hz]
  rw [q]
theorem swp2 {x y : Str} {kx ky : NameKind} {px py p p' : Pos} {k k' : Nat} {vs : List Expr} {r : Sem (Option (List Str))} (F : Fn prog w G n A W V s₀ P₀ env sc xs M X P σ s) (hx : (x, kx) ∈ sc) (hy : (y, ky) ∈ sc)
    (h : swappedStores [.Tuple [.Name x px, .Name y py] k p] (.Tuple vs k' p') (envS [(x, kx), (y, ky)]) = r) (q : (envS [(x, kx), (y, ky)]).kindOf x = some kx ∧ (envS [(x, kx), (y, ky)]).kindOf y = some ky := by exact ⟨rfl, rfl⟩) :
    swappedStores [.Tuple [.Name x px, .Name y py] k p] (.Tuple vs k' p') env = r :=
  (sw_env2 _ _ F.bk ((F.kx _ _ hx).trans q.1.symm) ((F.kx _ _ hy).trans q.2.symm)).trans h
theorem swp3 {x y z : Str} {kx ky kz : NameKind} {px py pz p p' : Pos} {k k' : Nat} {vs : List Expr} {r : Sem (Option (List Str))} (F : Fn prog w G n A W V s₀ P₀ env sc xs M X P σ s) (hx : (x, kx) ∈ sc) (hy : (y, ky) ∈ sc) (hz : (z, kz) ∈ sc)
    (h : swappedStores [.Tuple [.Name x px, .Name y py, .Name z pz] k p] (.Tuple vs k' p') (envS [(x, kx), (y, ky), (z, kz)]) = r)
    (q : (envS [(x, kx), (y, ky), (z, kz)]).kindOf x = some kx ∧ (envS [(x, kx), (y, ky), (z, kz)]).kindOf y = some ky ∧ (envS [(x, kx), (y, ky), (z, kz)]).kindOf z = some kz := by exact ⟨rfl, rfl, rfl⟩) :
    swappedStores [.Tuple [.Name x px, .Name y py, .Name z pz] k p] (.Tuple vs k' p') env = r :=
  (sw_env3 _ _ F.bk ((F.kx _ _ hx).trans q.1.symm) ((F.kx _ _ hy).trans q.2.1.symm) ((F.kx _ _ hz).trans q.2.2.symm)).trans h
end
noncomputable def iN (k : Nat) : PV := .int (k : Int)
noncomputable def rowV (r : List Nat) : PV := .list (r.map iN)
section
variable {prog : Program} {w : World} {G : GC} {n : Nat} {sc : Scp} {σ : Sto}
theorem dens1 {e : Expr} {d : PV} (h : Den prog w G n sc σ e d) (he : ∀ env, starEach [e] env = (false, eval e env) :: starEach [] env := by intro _; rfl) : Dens prog w G n sc σ [e] [d] := dens_cons h dens_nil he
theorem dens2 {e e' : Expr} {d d' : PV} (h : Den prog w G n sc σ e d) (h' : Den prog w G n sc σ e' d') (he : ∀ env, starEach [e, e'] env = (false, eval e env) :: starEach [e'] env := by intro _; rfl) (he' : ∀ env, starEach [e'] env = (false, eval e' env) :: starEach [] env := by intro _; rfl) : Dens prog w G n sc σ [e, e'] [d, d'] := dens_cons h (dens_cons h' dens_nil he') he
theorem dens3 {e e' e'' : Expr} {d d' d'' : PV} (h : Den prog w G n sc σ e d) (h' : Den prog w G n sc σ e' d') (h'' : Den prog w G n sc σ e'' d'') (he : ∀ env, starEach [e, e', e''] env = (false, eval e env) :: starEach [e', e''] env := by intro _; rfl)
    (he' : ∀ env, starEach [e', e''] env = (false, eval e' env) :: starEach [e''] env := by intro _; rfl) (he'' : ∀ env, starEach [e''] env = (false, eval e'' env) :: starEach [] env := by intro _; rfl) : Dens prog w G n sc σ [e, e', e''] [d, d', d''] := dens_cons h (dens_cons h' (dens_cons h'' dens_nil he'') he') he
theorem argd1 {e : Expr} {d : PV} (h : Den prog w G n sc σ e d) (he : ∀ env, starEach [e] env = (false, eval e env) :: starEach [] env := by intro _; rfl) (hst : ∀ pos env, ∃ x rest, backTo pos (starEach [e] env) = (false, x) :: rest ∧ rest.any (·.1) = false := by intro _ _; exact ⟨_, _, rfl, rfl⟩) : Argd prog w G n sc σ [e] [d] := argd_cons (dens1 h he) hst
theorem argd2 {e e' : Expr} {d d' : PV} (h : Den prog w G n sc σ e d) (h' : Den prog w G n sc σ e' d') (he : ∀ env, starEach [e, e'] env = (false, eval e env) :: starEach [e'] env := by intro _; rfl) (he' : ∀ env, starEach [e'] env = (false, eval e' env) :: starEach [] env := by intro _; rfl)
    (hst : ∀ pos env, ∃ x rest, backTo pos (starEach [e, e'] env) = (false, x) :: rest ∧ rest.any (·.1) = false := by intro _ _; exact ⟨_, _, rfl, rfl⟩) : Argd prog w G n sc σ [e, e'] [d, d'] := argd_cons (dens2 h h' he he') hst
theorem argd3 {e e' e'' : Expr} {d d' d'' : PV} (h : Den prog w G n sc σ e d) (h' : Den prog w G n sc σ e' d') (h'' : Den prog w G n sc σ e'' d'') (he : ∀ env, starEach [e, e', e''] env = (false, eval e env) :: starEach [e', e''] env := by intro _; rfl)
    (he' : ∀ env, starEach [e', e''] env = (false, eval e' env) :: starEach [e''] env := by intro _; rfl) (he'' : ∀ env, starEach [e''] env = (false, eval e'' env) :: starEach [] env := by intro _; rfl)
    (hst : ∀ pos env, ∃ x rest, backTo pos (starEach [e, e', e''] env) = (false, x) :: rest ∧ rest.any (·.1) = false := by intro _ _; exact ⟨_, _, rfl, rfl⟩) : Argd prog w G n sc σ [e, e', e''] [d, d', d''] := argd_cons (dens3 h h' h'' he he' he'') hst
theorem turned_pushN {x : Str} {pv : PV} {τ : Sto} (ns : List Str) (hn : τ.map (·.1) = ns) (h : x ∉ ns) : Turned x pv τ ((x, some pv) :: τ) := turned_push (by rw [hn]; exact h)
theorem cmp_eqN {a b : Nat} : Cmp prog w .Eq (iN a) (iN b) (a == b) := by
  have e : ((a : Int) == (b : Int)) = (a == b) := by rw [Bool.eq_iff_iff, beq_iff_eq, beq_iff_eq]; lia
  have := cmp_eqI (prog := prog) (w := w) (a := (a : Int)) (b := (b : Int))
  rw [e] at this; exact this
theorem den_as {e : Expr} {a b : PV} (h : a = b) (d : Den prog w G n sc σ e a) : Den prog w G n sc σ e b := h ▸ d
theorem den_nat {i : Nat} {k : Nat} {p : Pos} : Den prog w G n sc σ (.Constant (.int (i : Int)) k p) (iN i) := den_int
theorem den_addN {l r : Expr} {p : Pos} {a b : Nat} (dl : Den prog w G n sc σ l (iN a)) (dr : Den prog w G n sc σ r (iN b)) : Den prog w G n sc σ (.BinOp l .Add r p) (iN (a + b)) := den_as (by simp [iN]) (den_add dl dr)
theorem den_mulN {l r : Expr} {p : Pos} {a b : Nat} (dl : Den prog w G n sc σ l (iN a)) (dr : Den prog w G n sc σ r (iN b)) (ha : a < 2 ^ 64) (hb : b < 2 ^ 64) : Den prog w G n sc σ (.BinOp l .Mult r p) (iN (a * b)) := den_as (by simp [iN]) (den_mul dl dr (by simpa using ha) (by simpa using hb))
theorem den_modN {l r : Expr} {p : Pos} {a b : Nat} (dl : Den prog w G n sc σ l (iN a)) (dr : Den prog w G n sc σ r (iN b)) (hb : 0 < b) : Den prog w G n sc σ (.BinOp l .Mod r p) (iN (a % b)) := den_as (by simp only [iN]; rw [Int.fmod_eq_emod_of_nonneg _ (by lia)]; simp) (den_mod dl dr (by lia))
theorem den_divN {l r : Expr} {p : Pos} {a b : Nat} (dl : Den prog w G n sc σ l (iN a)) (dr : Den prog w G n sc σ r (iN b)) (hb : 0 < b) (hb' : b < 1073741824) : Den prog w G n sc σ (.BinOp l .FloorDiv r p) (iN (a / b)) := den_as (by simp only [iN]; rw [Int.fdiv_eq_ediv_of_nonneg _ (by lia)]; simp) (den_fdiv dl dr (by lia) (by simpa using hb'))
theorem den_powN {l r : Expr} {p : Pos} {a b : Nat} (dl : Den prog w G n sc σ l (iN a)) (dr : Den prog w G n sc σ r (iN b)) (ha : a < 2 ^ 64) (hb : b ≤ 1000000) : Den prog w G n sc σ (.BinOp l .Pow r p) (iN (a ^ b)) := den_as (by simp [iN]) (den_pow dl dr (by simpa using ha) (by lia) (by lia))
theorem den_itemN {value slice : Expr} {p : Pos} {l : List PV} {i : Nat} {d : PV} (dv : Den prog w G n sc σ value (.list l)) (di : Den prog w G n sc σ slice (iN i)) (hhi : i < 2 ^ 63) (hd : l[i]? = some d)
    (hs : ∀ a t, subscripted slice false (.ref a) (.int (i : Int) t) = operate [.ref a, .int (i : Int) t] (getItem (.ref a) (.int (i : Int) t)) := by intros; with_unfolding_all rfl) : Den prog w G n sc σ (.Subscript value slice p) d := den_item dv di (by lia) (by lia) (by simpa using hd) hs
theorem den_itemTN {value slice : Expr} {p : Pos} {l : List PV} {i : Nat} {d : PV} (dv : Den prog w G n sc σ value (.tuple l)) (di : Den prog w G n sc σ slice (iN i)) (hhi : i < 2 ^ 63) (hd : l[i]? = some d)
    (hs : ∀ a t, subscripted slice false (.ref a) (.int (i : Int) t) = operate [.ref a, .int (i : Int) t] (getItem (.ref a) (.int (i : Int) t)) := by intros; with_unfolding_all rfl) : Den prog w G n sc σ (.Subscript value slice p) d := den_itemT dv di (by lia) (by lia) (by simpa using hd) hs
theorem its_range {b : Nat} (hb : b < 2 ^ 31) : Its prog w (.rng 0 (b : Int) 1) ((List.range b).map iN) := by
  have h0 : Builtin.Range.rangeSize 0 (b : Int) 1 = b := by rw [rangeSize_one]; split <;> lia
  have := its_rng (prog := prog) (w := w) (a := 0) (b := (b : Int)) (c := 1) (by unfold Builtin.Range.small Builtin.Range.rangeFitsLong; rw [h0]; simp; lia) (by rw [h0]; lia)
  unfold rngItems at this
  rw [h0] at this
  have e : (fun i : Nat => PV.int (0 + (i : Int) * 1)) = iN := by funext i; simp [iN]
  rw [e] at this
  simpa using this
theorem its_range2 {a b : Nat} (hb : b < 2 ^ 31) (ha : a ≤ b) : Its prog w (.rng (a : Int) (b : Int) 1) (((List.range (b - a)).map (a + ·)).map iN) := by
  have h0 : Builtin.Range.rangeSize (a : Int) (b : Int) 1 = ((b - a : Nat) : Int) := by rw [rangeSize_one]; split <;> lia
  have := its_rng (prog := prog) (w := w) (a := (a : Int)) (b := (b : Int)) (c := 1) (by unfold Builtin.Range.small Builtin.Range.rangeFitsLong; rw [h0]; simp; lia) (by rw [h0]; lia)
  unfold rngItems at this
  rw [h0] at this
  rw [List.map_map]
  have e : (fun i : Nat => PV.int ((a : Int) + (i : Int) * 1)) = (iN ∘ (a + ·)) := by funext i; simp [iN]
  rw [e] at this
  simpa using this
theorem con_lenM {α : Type} {enc : α → PV} {l : List α} (hz : l.length < 2 ^ 62) : Con prog w G n (.builtin "len") [.list (l.map enc)] (iN l.length) := by
  have := con_len (prog := prog) (w := w) (G := G) (n := n) (l := l.map enc) (by simp; lia)
  simpa [iN] using this
theorem con_rangeN {b : Nat} : Con prog w G n (.type "range") [iN b] (.rng 0 (b : Int) 1) := con_range1
theorem con_range2N {a b : Nat} : Con prog w G n (.type "range") [iN a, iN b] (.rng (a : Int) (b : Int) 1) := con_range2
theorem con_sumN {l : List Nat} : Con prog w G n (.builtin "sum") [.list (l.map iN)] (iN l.sum) := by
  have := con_sum (prog := prog) (w := w) (G := G) (n := n) (ns := l.map Int.ofNat)
  rw [List.map_map] at this
  have e : (l.map Int.ofNat).sum = (l.sum : Int) := by
    clear this
    induction l with
    | nil => rfl
    | cons a l ih => simp [ih]
  rw [e] at this
  exact this
end
theorem eqv_int {a b : Int} : (PV.int a).eqv (.int b) = (a == b) := by unfold PV.eqv PV.py PyData.eqv; rfl
theorem eqv_bool {a b : Bool} : (PV.bool a).eqv (.bool b) = (a == b) := by unfold PV.eqv PV.py PyData.eqv; rfl
theorem eqv_iN {a b : Nat} : (iN a).eqv (iN b) = (a == b) := by
  unfold iN; rw [eqv_int, Bool.eq_iff_iff, beq_iff_eq, beq_iff_eq]; lia
theorem eqv_str {a b : Str} : (PV.str a).eqv (.str b) = (a == b) := by unfold PV.eqv PV.py PyData.eqv; rfl
theorem eqvAll_map {α : Type} [BEq α] {enc : α → PV} : ∀ (l m : List α), (∀ a ∈ l, ∀ b ∈ m, (enc a).eqv (enc b) = (a == b)) → PyData.eqvAll (PV.pys (l.map enc)) (PV.pys (m.map enc)) = (l == m)
  | [], [], _ => by simp only [List.map_nil, PV.pys, PyData.eqvAll]; rfl
  | [], _ :: _, _ => by simp only [List.map_nil, List.map_cons, PV.pys, PyData.eqvAll]; rfl
  | _ :: _, [], _ => by simp only [List.map_nil, List.map_cons, PV.pys, PyData.eqvAll]; rfl
  | a :: l, b :: m, h => by
    have h1 := h a (by simp) b (by simp)
    have h2 := eqvAll_map l m fun x hx y hy => h x (List.mem_cons_of_mem _ hx) y (List.mem_cons_of_mem _ hy)
    simp only [List.map_cons, PV.pys, PyData.eqvAll]
    rw [h2]
    unfold PV.eqv at h1
    rw [h1]; rfl
theorem eqv_list {α : Type} [BEq α] {enc : α → PV} {l m : List α} (h : ∀ a ∈ l, ∀ b ∈ m, (enc a).eqv (enc b) = (a == b)) : (PV.list (l.map enc)).eqv (.list (m.map enc)) = (l == m) := by
  unfold PV.eqv; simp only [PV.py, PyData.eqv]; exact eqvAll_map l m h
theorem eqv_row {l m : List Nat} : (rowV l).eqv (rowV m) = (l == m) := eqv_list fun _ _ _ _ => eqv_iN
noncomputable def PV.okk (k : Nat) (d : PV) : Prop := d.flat = true ∧ d.py.canLay0 = true ∧ d.py.depth ≤ k
theorem PV.okk.okd {k : Nat} {d : PV} (h : PV.okk k d) (hk : k ≤ 64) : d.okd = true := by
  unfold PV.okd SeqAt.shaped
  rw [h.1, h.2.1, decide_eq_true (Nat.le_trans h.2.2 hk)]; rfl
theorem okk_int {i : Int} : PV.okk 0 (.int i) := (in0x3 rfl rfl (Nat.le_refl _))
theorem okk_iN {i : Nat} : PV.okk 0 (iN i) := okk_int
theorem okk_bool {b : Bool} : PV.okk 0 (.bool b) := (in0x3 rfl rfl (Nat.le_refl _))
theorem okk_str {x : Str} (h : PyData.strOk x = true) : PV.okk 0 (.str x) := (in0x3 rfl h (Nat.le_refl _))
theorem okk_list {k : Nat} : ∀ {l : List PV}, (∀ x ∈ l, PV.okk k x) → PV.okk (k + 1) (.list l) := fun {l} h => by
  have : PV.flats l = true ∧ PyData.canLayAll0 (PV.pys l) = true ∧ PyData.depthAll (PV.pys l) ≤ k := by
    induction l with
    | nil => exact (in0x3 rfl rfl (Nat.zero_le _))
    | cons a l ih =>
      have h1 := h a (by simp)
      have h2 := ih fun x hx => h x (List.mem_cons_of_mem _ hx)
      refine (in0x3 ?_ ?_ ?_)
      · unfold PV.flats; rw [h1.1, h2.1]; rfl
      · unfold PV.pys PyData.canLayAll0; rw [h1.2.1, h2.2.1]; rfl
      · unfold PV.pys PyData.depthAll; exact Nat.max_le.mpr ⟨h1.2.2, h2.2.2⟩
  refine (in0x3 ?_ ?_ ?_)
  · unfold PV.flat; exact this.1
  · unfold PV.py PyData.canLay0; exact this.2.1
  · unfold PV.py PyData.depth; exact Nat.succ_le_succ this.2.2
theorem okk_listM {α : Type} {k : Nat} {enc : α → PV} {l : List α} (h : ∀ a ∈ l, PV.okk k (enc a)) : PV.okk (k + 1) (.list (l.map enc)) := okk_list fun x hx => by
  (refine el1x2 (List.mem_map.mp hx) ?_; intro a ha hZ; subst hZ); exact h a ha
theorem okk_row {l : List Nat} : PV.okk 1 (rowV l) := okk_listM fun _ _ => okk_iN
section
variable {prog : Program} {w : World} {G : GC} {n : Nat} {sc : Scp} {σ : Sto}
theorem cmp_eqM {α : Type} [BEq α] {enc : α → PV} {k : Nat} {l m : List α} (hk : k ≤ 63) (h1 : ∀ a ∈ l, PV.okk k (enc a)) (h2 : ∀ a ∈ m, PV.okk k (enc a)) (h : ∀ a ∈ l, ∀ b ∈ m, (enc a).eqv (enc b) = (a == b)) : Cmp prog w .Eq (.list (l.map enc)) (.list (m.map enc)) (l == m) := by
  rw [← eqv_list h]; exact cmp_eq ((okk_listM h1).okd (by exact lin [_] [.L 1 (.V 0) (.N 63)] (.L 1 (.A (.V 0) (.N 1)) (.N 64)) rfl hk)) ((okk_listM h2).okd (by exact lin [_] [.L 1 (.V 0) (.N 63)] (.L 1 (.A (.V 0) (.N 1)) (.N 64)) rfl hk))
theorem cmp_neM {α : Type} [BEq α] {enc : α → PV} {k : Nat} {l m : List α} (hk : k ≤ 63) (h1 : ∀ a ∈ l, PV.okk k (enc a)) (h2 : ∀ a ∈ m, PV.okk k (enc a)) (h : ∀ a ∈ l, ∀ b ∈ m, (enc a).eqv (enc b) = (a == b)) : Cmp prog w .NotEq (.list (l.map enc)) (.list (m.map enc)) (l != m) := by
  have e : (l != m) = !(PV.list (l.map enc)).eqv (.list (m.map enc)) := by rw [eqv_list h]; rfl
  rw [e]; exact cmp_ne ((okk_listM h1).okd (by exact lin [_] [.L 1 (.V 0) (.N 63)] (.L 1 (.A (.V 0) (.N 1)) (.N 64)) rfl hk)) ((okk_listM h2).okd (by exact lin [_] [.L 1 (.V 0) (.N 63)] (.L 1 (.A (.V 0) (.N 1)) (.N 64)) rfl hk))
theorem con_countN {l : List Nat} {d : Nat} : Con prog w G n (.builtin "list.count") [.list (l.map iN), iN d] (iN (l.count d)) := by
  have := con_count (prog := prog) (w := w) (G := G) (n := n) (l := l.map iN) (d := iN d) (fun x hx => by (refine el1x2 (List.mem_map.mp hx) ?_; intro a _ hZ; subst hZ); exact okk_iN.okd (by exact lin [] [] (.L 1 (.N 0) (.N 64)) rfl)) (okk_iN.okd (by exact lin [] [] (.L 1 (.N 0) (.N 64)) rfl))
  have e : (l.map iN).countP (fun x => x.eqv (iN d)) = l.count d := by
    rw [List.countP_map, List.count]
    congr 1; funext x; exact eqv_iN
  rw [e] at this; exact this
end
section
variable {prog : Program} {w : World} {G : GC} {n : Nat} {A : Around} {sc : Scp} {σ τ : Sto}
theorem compStart_list {elt : Expr} {g : Comprehension} {d : Nat} {gens : List Comprehension} {scope : Scope} {pos : Pos} {it acc : Value} {env : Env} {R : Result → Shared → Prop} {s : Shared} (hg : gens[d]? = some g) (ha : (g.is_async != 0) = false)
    (h0 : codeAny (model prog w) A (.compLoop (.ListComp elt gens scope pos) d it acc env) R s)
    (h : wpAny (model prog w) A (pyIter it) (fun it' s' => codeAny (model prog w) A (.compLoop (.ListComp elt gens scope pos) d it' acc env) R s') (notedBy (model prog w) A env fun x s' => R (.error x) s') s) :
    codeAny (model prog w) A (.compStart (.ListComp elt gens scope pos) d it acc env) R s := by
  refine codeAny_of_tree ?_
  show wpAny _ _ ((compStart (.ListComp elt gens scope pos) d it acc env).onRaise (fun x => do noteFrame x env; standAt theWindowsPlace)) _ _ s
  refine wpAny_notedAt ?_
  unfold compStart
  have e1 : (clausesOf (.ListComp elt gens scope pos))[d]? = some g := hg
  rw [e1]
  simp only [Option.elim, ha, Bool.false_eq_true, if_false]
  refine wpAny_bind (wpAny_askSetting (wpAny_ite ?_))
  split
  · first
      | exact wpAny_bind (wpAny_pure (wpAny_pure (And.intro rfl h0)))
      | exact wpAny_pure (And.intro rfl h0)
  · first
      | exact wpAny_bind (wpAny_rule (wpAny_bind (wpAny_standAt (wpAny_bind (wpAny_mono h (fun it' s' h' => wpAny_pure (And.intro rfl h')) fun _ _ x => x)))))
      | (refine wpAny_bind (wpAny_rule ?_); exact wpAny_bind (wpAny_standAt (wpAny_bind (wpAny_mono h (fun it' s' h' => wpAny_pure (And.intro rfl h')) fun _ _ x => x))))
theorem Grew.mono' {P P' : PMap} {h h' : Heap} (g : Grew P P' h') (k : Keep h h') : Grew P P' h := fun a o e => by
  rcases g a o e with x | x
  · exact .inl x
  · refine .inr ?_
    cases q : h.get? a with
    | none => rfl
    | some o' => rw [k a o' q] at x; exact no2 x
theorem nest_run {α : Type} {elt target₁ iter₁ target iter : Expr} {ifs₁ ifs : List Expr} {scope : Scope} {pos : Pos} {src : PV} {enc : α → PV} {l : List α} {xs : List Str} {p : α → Bool} {g : α → PV} {σt : α → Sto} {P₀ P : PMap} {h₀ : Heap} {cenv : Env} {D : Addr} {res : List PV} {s : Shared}
    (c : CSk (LK prog w) prog w G n A P₀ h₀ [] cenv sc xs D P τ res s) (hown : ∀ x ∈ xs, Own cenv x)
    (di : Den prog w G n sc τ iter src) (hi : Its prog w src (l.map enc))
    (hA : ∀ d ∈ l, Asg prog w G n sc xs target τ (enc d) (σt d)) (hσ : ∀ d, ∀ q ∈ τ, q ∈ σt d) (hT : ∀ d ∈ l, Ifs prog w G n sc (σt d) ifs (p d)) (hE : ∀ d ∈ l, p d = true → Den prog w G n sc (σt d) elt (g d)) (hsz : res.length + l.length ≤ sizeLine)
    (hs : ∀ env x, foldedSetIterable iter env x = pure x := by intro _ _; rfl) :
    wpAny (model prog w) A (do
        let x ← eval iter cenv
        standAt iter.pos
        let x ← foldedSetIterable iter cenv x
        let _ ← runOwn (.compStart (.ListComp elt [⟨target₁, iter₁, ifs₁, 0⟩, ⟨target, iter, ifs, 0⟩] scope pos) 1 (← holding [x] (pyIter x)) (.ref D) cenv) cenv)
      (fun _ s' => ∃ h' tk P', s' = { s with heap := h', toks := tk } ∧ CSk (LK prog w) prog w G n A P₀ h₀ [] cenv sc xs D P' τ (res ++ (l.filter p).map g) s' ∧ True ∧ PMap.le P P' ∧ Grew P P' s.heap ∧
        (∀ a o, s.heap.get? a = some o → ∃ o', h'.get? a = some o' ∧ (a ≠ D → ¬ Tch cenv xs a → a ∉ ([] : List Addr) → o' = o))) (fun _ _ => False) s := by
  refine wpAny_bind (di.go c.cx fun v h₁ tk₁ P₁ C₁ k₁ l₁ g₁ r₁ => wpAny_bind (wpAny_standAt (wpAny_bind (wpAny_of_eq (hs cenv v) (wpAny_bind (wpAny_holding ?_))))))
  have c₁ := c.move (tk := tk₁) (KeepX.of (W := []) k₁) (by simp) (by simp) (by simp) (by simp) l₁ C₁.sub g₁
  refine hi P₁ v r₁ A _ _ _ C₁.room.hd C₁.sub fun o St It st0 => ?_
  dsimp only at It st0 ⊢
  have f1 : h₁.get? h₁.objs.size = none := fresh_size (Nat.le_refl _)
  have c₂ := c₁.move (tk := tk₁) (KeepX.of (W := []) (Keep.push h₁ o)) (by simp) (by simp) (by simp) (by simp) (PMap.le_refl _) (C₁.sub.keep (Keep.push _ _)) (Grew.refl _ _)
  (refine el1x2 (c₁.acc) ?_; intro ob hob _)
  have nIL : h₁.objs.size ≠ cenv.locals := fun q => by (refine el4x2 (C₁.act.ns) ?_; intro m o1 es ep ho _); rw [← q] at ho; rw [f1] at ho; exact no1 ho
  have nIc : ∀ p ∈ cenv.cells, p.2 ≠ h₁.objs.size := fun p hp q => by (refine el2x2 (C₁.act.cell p.1 p.2 hp) ?_; intro v o1 ho _); rw [q, f1] at ho; exact no1 ho
  have nID : h₁.objs.size ≠ D := fun q => by rw [← q, f1] at hob; exact no1 hob
  have n0 : h₀.get? h₁.objs.size = none := by
    cases q : h₀.get? h₁.objs.size with
    | none => rfl
    | some o1 => (refine el1x2 (c₁.keep _ o1 q) ?_; intro o2 e2 _); rw [f1] at e2; exact no1 e2
  have loop : codeAny (model prog w) A (.compLoop (.ListComp elt [⟨target₁, iter₁, ifs₁, 0⟩, ⟨target, iter, ifs, 0⟩] scope pos) 1 (.ref h₁.objs.size) (.ref D) cenv)
      (fun r s' => match r with
        | .ok f => wpAny (model prog w) A (pure () : Sem Unit) (fun _ s' => ∃ h' tk P', s' = { s with heap := h', toks := tk } ∧ CSk (LK prog w) prog w G n A P₀ h₀ [] cenv sc xs D P' τ (res ++ (l.filter p).map g) s' ∧ True ∧ PMap.le P P' ∧ Grew P P' s.heap ∧
            (∀ a o, s.heap.get? a = some o → ∃ o', h'.get? a = some o' ∧ (a ≠ D → ¬ Tch cenv xs a → a ∉ ([] : List Addr) → o' = o))) (fun _ _ => False) s'
        | .error e => cameBackBy (model prog w) A cenv (fun _ _ => False) e s') { s with heap := h₁.push o, toks := tk₁ } := by
    refine loopK (K := LK prog w) (X := fun _ _ => True) (rs := fun j => res ++ coll (fun j => ((l[j]?).map p).getD false) (fun j => ((l[j]?).map g).getD .none) j) (σt := fun j => ((l[j]?).map σt).getD τ) (b := fun j => ((l[j]?).map p).getD false) (P₀ := P₀) (h₀ := h₀) (W := []) (xs := xs) (items := l.map enc) (target := target) (iter := iter) (ifs := ifs)
      (act := (do let _ ← call (.builtin "list.append") [.ref D, ← eval elt cenv])) (fun it => by rfl) (fun it Q E s h => h)
      It n0 nIL nIc nID (by simp) hown (fun j d hd => ?_) (fun j q hq => ?_) (fun j d hd => ?_) (fun _ _ _ _ _ => trivial) (fun j d hd hb => ?_) (fun j d hd hb P' s' c' x' => ?_) (by simpa [coll] using c₂) (PMap.le_refl _) (C₁.sub.fresh f1) st0 trivial fun P' h' tk c' x' l' g' kk => ?_
    · rw [List.getElem?_map, Option.map_eq_some_iff] at hd
      (refine el1x2 hd ?_; clear hd; intro a ha hZ; subst hZ)
      rw [ha]; exact hA a (List.mem_of_getElem? ha)
    · cases hd : l[j]? with
      | none => exact hq
      | some d => exact hσ d q hq
    · rw [List.getElem?_map, Option.map_eq_some_iff] at hd
      (refine el1x2 hd ?_; clear hd; intro a ha hZ; subst hZ)
      rw [ha]; exact hT a (List.mem_of_getElem? ha)
    · refine ⟨?_, fun _ _ => trivial⟩
      rw [coll_succ, hb]; simp
    · rw [List.getElem?_map, Option.map_eq_some_iff] at hd
      (refine el1x2 hd ?_; clear hd; intro a ha hZ; subst hZ)
      have hlt : j < l.length := (List.getElem?_eq_some_iff.mp ha).1
      have hcl := coll_length (fun j => ((l[j]?).map p).getD false) (fun j => ((l[j]?).map g).getD .none) j
      have hb' := hb
      rw [coll_succ, hb, if_pos rfl, ← List.append_assoc]
      rw [ha] at hb' c' ⊢
      exact c'.emit (hE a (List.mem_of_getElem? ha) hb') (by rw [List.length_append]; exact lin [_, _, _, _, _] [.L 1 (.A (.V 0) (.V 1)) (.V 2), .T 1 (.V 3) (.V 1), .L 1 (.V 4) (.V 3)] (.L 1 (.A (.V 0) (.V 4)) (.V 2)) rfl hsz hlt hcl) (fun _ => True) (fun _ _ _ _ => trivial) trivial
    · rw [List.length_map, coll_filter p g l l.length (Nat.le_refl _), List.take_length] at c'
      refine wpAny_pure (in3x6 h' tk P' rfl c' trivial (l₁.trans l') (g₁.trans (g'.mono' (Keep.push h₁ o)) k₁) (fun a oa e => ?_))
      have ea := k₁ a oa e
      have na : a ≠ h₁.objs.size := Nat.ne_of_lt (Heap.lt_size ea)
      (refine el1x2 (kk a oa (Heap.get?_push_of_some _ ea) na) ?_; intro o' e' q)
      exact (in1x2 o' e' q)
  refine wpAny_bind (wpAny_runOwn ?_)
  exact compStart_list (g := ⟨target, iter, ifs, 0⟩) rfl rfl loop (It.self A 0 _ _ _ C₁.room.hd st0 loop)
end
theorem flatMap_len {α β : Type} (f : α → List β) (m : Nat) : ∀ l : List α, (∀ a ∈ l, (f a).length ≤ m) → (l.flatMap f).length ≤ l.length * m
  | [], _ => by simp
  | a :: l, h => by
    have h1 := h a (by simp)
    have h2 := flatMap_len f m l fun b hb => h b (List.mem_cons_of_mem _ hb)
    rw [List.flatMap_cons, List.length_append, List.length_cons, Nat.succ_mul]; exact lin [_, _, _, _] [.L 1 (.V 0) (.V 1), .L 1 (.V 2) (.V 3)] (.L 1 (.A (.V 0) (.V 2)) (.A (.V 3) (.V 1))) rfl h1 h2
theorem flatMap_take {α β : Type} (f : α → List β) (l : List α) {j : Nat} {d : α} (h : l[j]? = some d) : (l.take (j + 1)).flatMap f = (l.take j).flatMap f ++ f d := by
  rw [List.take_add_one, h, List.flatMap_append]; simp
section
variable {prog : Program} {w : World} {G : GC} {n : Nat} {A : Around} {W V : Addr → Prop} {s₀ : Shared} {P₀ : PMap} {env : Env} {sc : Scp} {xs : List Str} {M X P : PMap} {σ σ' τ : Sto} {s : Shared} {rest : List Stmt} {Q : Flow → Shared → Prop}
theorem use_store {x : Str} {pz : Pos} {v : Value} {pv : PV} {Q : Value → Shared → Prop} {h' : Heap} {tk : Nat} {P' : PMap} {c : Addr} (F : Fn prog w G n A W V s₀ P₀ env sc xs M X P σ s) (k : KeepX [] s.heap h') (l : PMap.le P P') (b : Sub P' h') (gr : Grew P P' s.heap) (r : Rp prog w P' v pv) (hx : x ∈ xs) (T : Turned x pv σ σ')
    (hcn : s.heap.get? c = none) (hcP : P' c = none) (hm : ∃ m, h'.Ns c m) (h : ∀ s', Fn prog w G n A W V s₀ P₀ env sc xs M X P' σ' s' → Q .none s') :
    wpAny (model prog w) A (assign (.Name x pz) env v) (fun _ s'' => ∃ m, s''.heap.Ns c m ∧ ∀ h'', Heap.SameBut c s''.heap h'' → Q .none { s'' with heap := h'' }) (fun _ _ => False) { s with heap := h', toks := tk } := by
  have F' := F.move (tk := tk) k.keep l b gr
  (refine el1x1 hm ?_; clear hm; intro m hm)
  have nT : ¬ Tch env [x] c := fun t => by
    rcases t with q | ⟨z, _, q⟩
    · (refine el4x2 (F.cx.act.ns) ?_; intro m' o es ep ho _); rw [← q, hcn] at ho; exact no1 ho
    · (refine el2x2 (F.cx.act.cell z c (mem_of_lookup q)) ?_; intro v o ho _); rw [hcn] at ho; exact no1 ho
  refine wpAny_assign_Name (F'.cx.store (F.own x hx).1 (F.own x hx).2 T r fun h'' tk' C'' k'' _ => ?_)
  (refine el3x2 hm ?_; clear hm; intro o es ep ho hr)
  have ho' := k''.get ho nT
  refine (in1x2 m (in3x2 o es ep ho' hr) (fun h3 hs3 => ?_))
  have F'' := F'.stored C'' (k''.mono (by simpa using hx)) (PMap.le_refl _) (Grew.refl _ _)
  refine h _ (F''.drop hs3 hcP ?_ ?_ ?_ ?_ ?_)
  · cases q : M c with
    | none => rfl
    | some o => have := F.muo c o q; rw [hcn] at this; exact no1 this
  · cases q : X c with
    | none => rfl
    | some o => have := F.mux c o q; rw [hcn] at this; exact no1 this
  · intro q; (refine el4x2 (F.cx.act.ns) ?_; intro m' o es ep ho _); rw [q, hcn] at ho; exact no1 ho
  · intro p hp q; (refine el2x2 (F.cx.act.cell p.1 p.2 hp) ?_; intro v o ho _); rw [q, hcn] at ho; exact no1 ho
  · cases q : s₀.heap.get? c with
    | none => rfl
    | some o => (refine el1x2 (F.keep c o q) ?_; intro o' e' _); rw [hcn] at e'; exact no1 e'
theorem turn2 {elt target iter target2 iter2 : Expr} {ifs ifs2 : List Expr} {scope : Scope} {pos : Pos} (it : Value) (D : Addr) (cenv : Env) :
    compTurn (.ListComp elt [⟨target, iter, ifs, 0⟩, ⟨target2, iter2, ifs2, 0⟩] scope pos) 0 it (.ref D) cenv = (do
      standAt iter.pos
      match ← pyNext it with
      | none => pure (.done .next)
      | some v =>
        letOwnedTupleGo target it v
        assign target cenv v
        let mut ok := true
        for c in ifs do
          if ok then ok ← isTrue c cenv (eval c cenv)
        if ok then (do
          let u ← eval iter2 cenv
          standAt iter2.pos
          let u ← foldedSetIterable iter2 cenv u
          let _ ← runOwn (.compStart (.ListComp elt [⟨target, iter, ifs, 0⟩, ⟨target2, iter2, ifs2, 0⟩] scope pos) 1 (← holding [u] (pyIter u)) (.ref D) cenv) cenv)
        again (.compLoop (.ListComp elt [⟨target, iter, ifs, 0⟩, ⟨target2, iter2, ifs2, 0⟩] scope pos) 0 it (.ref D) cenv)) := by
  unfold compTurn
  simp only [List.getElem?_cons_zero, List.getElem?_cons_succ, bind_assoc, pure_bind]
  rfl
theorem sc_assign_for2 {α β : Type} (enc : α → PV) (l : List α) (enc2 : β → PV) (l2 : α → List β) (p2 : α → β → Bool) (g : α → β → PV) (m : Nat) (ns : List Str) {z : Str} {pz pa : Pos} {elt iter iter2 : Expr} {x y : Str} {px py : Pos} {ifs2 : List Expr} {scope : Scope} {pos : Pos} {src : PV} {src2 : α → PV}
    (F : Fn prog w G n A W V s₀ P₀ env sc xs M X P σ s) (di : Den prog w G n sc σ iter src) (hi : Its prog w src (l.map enc)) (hc : Cap σ sc scope.names τ)
    (di2 : ∀ d ∈ l, Den prog w G n scope.names ((x, some (enc d)) :: τ) iter2 (src2 d)) (hi2 : ∀ d ∈ l, Its prog w (src2 d) ((l2 d).map enc2))
    (hT : ∀ d ∈ l, ∀ e ∈ l2 d, Ifs prog w G n scope.names ((y, some (enc2 e)) :: (x, some (enc d)) :: τ) ifs2 (p2 d e))
    (hE : ∀ d ∈ l, ∀ e ∈ l2 d, p2 d e = true → Den prog w G n scope.names ((y, some (enc2 e)) :: (x, some (enc d)) :: τ) elt (g d e))
    (hm : ∀ d ∈ l, (l2 d).length ≤ m) (hsz : (l.length + 1) * m ≤ sizeLine) (hns : τ.map (·.1) = ns) (hok : compOk scope x ns = true) (hok2 : compOk scope y (x :: ns) = true)
    (hz : z ∈ xs) (hk : (z, NameKind.local) ∈ sc) (hsw : (pz.line == pos.line && !(scope.names.any fun (n, k) => n == z && (k == .local || k == .cell))) = true) (T : Turned z (.list (l.flatMap fun d => ((l2 d).filter (p2 d)).map (g d))) σ σ')
    (h : ∀ s' P', Fn prog w G n A W V s₀ P₀ env sc xs M X P' σ' s' → PMap.le P P' → Run prog w A env rest Q s')
    (hs : ∀ env x, foldedSetIterable iter env x = pure x := by intro _ _; rfl) (hs2 : ∀ env x, foldedSetIterable iter2 env x = pure x := by intro _ _; rfl) :
    Run prog w A env (.Assign [.Name z pz] (.ListComp elt [⟨.Name x px, iter, [], 0⟩, ⟨.Name y py, iter2, ifs2, 0⟩] scope pos) pa :: rest) Q s := by
  simp only [compOk, Bool.and_eq_true, decide_eq_true_eq, beq_iff_eq] at hok hok2
  (refine el0x2 hok ?_; clear hok; intro hZ; refine el0x2 hZ ?_; clear hZ; intro hZ; refine el0x2 hZ ?_; clear hZ; intro hZ; refine el0x2 hZ ?_; clear hZ; intro h1 h2; intro h3; intro h4; intro h5)
  (refine el0x2 hok2 ?_; clear hok2; intro hZ; refine el0x2 hZ ?_; clear hZ; intro hZ; refine el0x2 hZ ?_; clear hZ; intro _ h3'; intro h4'; intro h5')
  have hsw' : swapsWith (.ListComp elt [⟨.Name x px, iter, [], 0⟩, ⟨.Name y py, iter2, ifs2, 0⟩] scope pos) (some (.Name z pz)) pa.line env = pure true := by
    show (pure (env.blockKind == .function && env.kindOf z == some .local && pz.line == pos.line && !(scope.names.any fun (n, k) => n == z && (k == .local || k == .cell))) : Sem Bool) = pure true
    rw [F.bk, F.kx _ _ hk]
    rw [Bool.and_eq_true] at hsw
    simp only [hsw.1, hsw.2]; rfl
  refine sc_of ?_
  rw [exec_Assign_Name_used (hs := hsw')]
  refine wpAny_bind (wpAny_standAt (wpAny_bind ?_))
  show wpAny _ _ (comprehension (.ListComp elt [⟨.Name x px, iter, [], 0⟩, ⟨.Name y py, iter2, ifs2, 0⟩] scope pos) scope env (firstIterPos [⟨.Name x px, iter, [], 0⟩, ⟨.Name y py, iter2, ifs2, 0⟩] pos) (newList []) false (eval iter env) (some (assign (.Name z pz) env)) >>= fun _ => pure ()) _ _ _
  refine wpAny_bind ?_
  refine coreK (K := LK prog w) (rs := fun j => (l.take j).flatMap fun d => ((l2 d).filter (p2 d)).map (g d)) (out := .list) (p := fun _ => true) (xs := [x, y]) (σt := fun d => (x, some (enc d)) :: τ) (W := []) (X := fun _ _ => True) (gs := [⟨.Name y py, iter2, ifs2, 0⟩])
    (act := fun D cenv => (do
        let u ← eval iter2 cenv
        standAt iter2.pos
        let u ← foldedSetIterable iter2 cenv u
        let _ ← runOwn (.compStart (.ListComp elt [⟨.Name x px, iter, [], 0⟩, ⟨.Name y py, iter2, ifs2, 0⟩] scope pos) 1 (← holding [u] (pyIter u)) (.ref D) cenv) cenv))
    rfl rfl (fun s Q h => wpAny_newObj_type (hd := by size_fits) (h _ rfl fun P => (in2x2 _ _ rfl (.nil)))) (fun _ _ _ _ l k => k.mono l) (fun D cenv it => turn2 it D cenv) (fun _ _ _ _ _ _ h => h)
    (fun D I cenv R s h0 h => compStart_list rfl rfl h0 h) (fun P D o r k nd hD => by
      (refine el2x2 k ?_; clear k; intro ys kk hZ; subst hZ; intro hr)
      exact .list (PMap.put_self _ _ _) (hr.mono (PMap.put_le hD))) di hi h1 h2 hc (fun u hu => ?_) (fun d _ => ?_) (fun d q hq => List.mem_cons_of_mem _ hq) (fun d _ => .inl ⟨rfl, rfl⟩) (fun _ _ _ _ _ => trivial) (fun j d hd hb => by cases hb)
    (fun j d hd hb P₀ h₀ cenv D P s _ c hown _ _ => ?_) F.cx trivial (by simp) (by simp) (by simp) (fun _ _ _ _ _ _ _ _ _ _ e => by exact no2 e) (fun u v h' tk P' c k l b gr r _ e hcn hcP hm => ?_) hs
  · simp at hu
    rcases hu with rfl | rfl
    · exact h3
    · exact h3'
  · exact .mk fun A P env s v Q C ho r hQ => (asg_name h4 (turned_push (by rw [hns]; exact h5))).run A P env s v Q C (fun u hu => ho u (by simp at hu; simp [hu])) r fun h' tk P' C' k => hQ h' tk P' C' (k.mono (by simp))
  · have hdl := List.mem_of_getElem? hd
    have hjl : j < l.length := (List.getElem?_eq_some_iff.mp hd).1
    have hmm : ((l.take j).flatMap fun d => ((l2 d).filter (p2 d)).map (g d)).length ≤ (l.take j).length * m := flatMap_len _ m _ fun a ha => by
      rw [List.length_map]; exact Nat.le_trans (List.length_filter_le _ _) (hm a (List.mem_of_mem_take ha))
    have hbd : ((l.take j).flatMap fun d => ((l2 d).filter (p2 d)).map (g d)).length + (l2 d).length ≤ sizeLine := by
      have e1 : (l.take j).length ≤ l.length := by simp; lia
      have e2 := Nat.mul_le_mul_right m e1
      have e3 := hm d hdl
      have e4 : (l.length + 1) * m = l.length * m + m := Nat.succ_mul _ _
      exact lin [_, _, _, _, _, _, _] [.L 1 (.V 0) (.V 1), .L 1 (.V 2) (.V 3), .L 1 (.V 3) (.V 4), .L 1 (.V 5) (.V 6), .Q 1 (.V 0) (.A (.V 4) (.V 6))] (.L 1 (.A (.V 2) (.V 5)) (.V 1)) rfl hsz hmm e2 e3 e4
    refine wpAny_mono (nest_run (res := _) (σt := fun e => (y, some (enc2 e)) :: (x, some (enc d)) :: τ) c hown (di2 d hdl) (hi2 d hdl) (fun e he => .mk fun A P env s v Q C ho r hQ => (asg_name h4' (turned_push (by rw [List.map_cons, hns]; exact h5'))).run A P env s v Q C (fun u hu => ho u (by simp at hu; simp [hu])) r fun h' tk P' C' k => hQ h' tk P' C' (k.mono (by simp)))
      (fun e q hq => List.mem_cons_of_mem _ hq) (hT d hdl) (hE d hdl) hbd hs2) (fun _ s' h => ?_) fun _ _ q => q
    rw [flatMap_take _ l hd]
    exact h
  · (have h := Option.some.inj e; clear e; subst h)
    rw [List.take_length] at r
    refine use_store (Q := fun _ s' => wpAny (model prog w) A (pure ()) (fun a s' => wpAny (model prog w) A (pure Flow.next) (Then prog w A env rest Q) (fun _ _ => False) s') (fun _ _ => False) s') F k l b gr r hz T hcn hcP hm fun s' F' => ?_
    exact wpAny_pure (wpAny_pure (then_next (h s' P' F' l)))
end
noncomputable def tx (l : List Nat) : Str := ⟨l.toArray⟩
theorem tx_append (a b : List Nat) : tx a ++ tx b = tx (a ++ b) := by show Str.append _ _ = _; unfold Str.append tx; simp
theorem tx_len (a : List Nat) : (tx a).length = a.length := by unfold tx Str.length; simp
theorem tx_inj {a b : List Nat} : tx a = tx b ↔ a = b := ⟨fun h => by unfold tx at h; injection h with h; simpa using h, fun h => by rw [h]⟩
theorem tx_beq (a b : List Nat) : (tx a == tx b) = (a == b) := by rw [Bool.eq_iff_iff, beq_iff_eq, beq_iff_eq]; exact tx_inj
theorem subAt_one (l : List Nat) (c i : Nat) : Builtin.Str.subAt (tx l) (tx [c]) i = (l[i]? == some c) := by
  unfold Builtin.Str.subAt tx Str.length
  rw [Bool.eq_iff_iff, beq_iff_eq, beq_iff_eq]
  simp only [List.extract_toArray, List.size_toArray, List.length_cons, List.length_nil]
  rw [← Array.toList_inj]
  simp only [List.extract_eq_take_drop]
  constructor
  · intro h
    have := congrArg (·[0]?) h
    simpa using this
  · intro h
    obtain ⟨hi, e⟩ := List.getElem?_eq_some_iff.mp h
    have : (l.drop i).take 1 = [l[i]] := by rw [List.take_one, List.head?_drop, h]; simp [e]
    simpa [this] using e
theorem occ_from (l : List Nat) (c limit : Nat) : ∀ (m k : Nat) (acc : Array Nat) (free : Nat), k + m = l.length + 1 → free ≤ k →
    (forIn (m := Id) (List.range' k m) (acc, free) (StrLaws.occBody (tx l) (tx [c]) l.length limit)).run.fst.toList.length = acc.size + min (limit - acc.size) ((l.drop k).count c) := by
  intro m
  induction m with
  | zero => intro k acc free h hf; rw [show List.range' k 0 = [] from rfl]; simp [List.forIn_nil]; have : l.drop k = [] := List.drop_eq_nil_of_le (by exact lin [_, _] [.Q 1 (.A (.V 0) (.N 0)) (.A (.V 1) (.N 1))] (.L 1 (.V 1) (.V 0)) rfl h); rw [this]; simp
  | succ m ih =>
    intro k acc free h hf
    rw [List.range'_succ, List.forIn_cons]
    unfold StrLaws.occBody
    have hl : (tx [c]).length = 1 := rfl
    rw [subAt_one, hl]
    by_cases hk : k < l.length
    · have hd : l.drop k = l[k] :: l.drop (k + 1) := List.drop_eq_getElem_cons hk
      have he : l[k]? = some l[k] := List.getElem?_eq_getElem hk
      rw [he]
      by_cases hc : l[k] = c
      · by_cases hs : acc.size < limit
        · rw [if_pos ⟨⟨⟨hs, hf⟩, by exact lin [_, _] [.T 1 (.V 0) (.V 1)] (.L 1 (.A (.V 0) (.N 1)) (.V 1)) rfl hk⟩, by simp [hc]⟩]
          have := ih (k + 1) (acc.push k) (k + 1) (by exact Nat.le_antisymm (lin [_, _, _] [.E 1 (.A (.V 0) (.A (.V 1) (.N 1))) (.A (.V 2) (.N 1))] (.L 1 (.A (.A (.V 0) (.N 1)) (.V 1)) (.A (.V 2) (.N 1))) rfl h) (lin [_, _, _] [.Q 1 (.A (.V 0) (.A (.V 1) (.N 1))) (.A (.V 2) (.N 1))] (.L 1 (.A (.V 2) (.N 1)) (.A (.A (.V 0) (.N 1)) (.V 1))) rfl h)) (Nat.le_refl _)
          unfold StrLaws.occBody at this
          simp only [hl] at this
          simp only [pure_bind]
          refine this.trans ?_
          rw [hd, List.count_cons, Array.size_push]; simp [hc]; lia
        · rw [if_neg (fun q => hs q.1.1.1)]
          have := ih (k + 1) acc free (by exact Nat.le_antisymm (lin [_, _, _] [.E 1 (.A (.V 0) (.A (.V 1) (.N 1))) (.A (.V 2) (.N 1))] (.L 1 (.A (.A (.V 0) (.N 1)) (.V 1)) (.A (.V 2) (.N 1))) rfl h) (lin [_, _, _] [.Q 1 (.A (.V 0) (.A (.V 1) (.N 1))) (.A (.V 2) (.N 1))] (.L 1 (.A (.V 2) (.N 1)) (.A (.A (.V 0) (.N 1)) (.V 1))) rfl h)) (by exact lin [_, _] [.L 1 (.V 0) (.V 1)] (.L 1 (.V 0) (.A (.V 1) (.N 1))) rfl hf)
          unfold StrLaws.occBody at this
          simp only [hl] at this
          simp only [pure_bind]
          refine this.trans ?_
          have : limit - acc.size = 0 := by lia
          rw [this]; simp
      · rw [if_neg (fun q => by have := q.2; simp at this; exact hc this)]
        have := ih (k + 1) acc free (by exact Nat.le_antisymm (lin [_, _, _] [.E 1 (.A (.V 0) (.A (.V 1) (.N 1))) (.A (.V 2) (.N 1))] (.L 1 (.A (.A (.V 0) (.N 1)) (.V 1)) (.A (.V 2) (.N 1))) rfl h) (lin [_, _, _] [.Q 1 (.A (.V 0) (.A (.V 1) (.N 1))) (.A (.V 2) (.N 1))] (.L 1 (.A (.V 2) (.N 1)) (.A (.A (.V 0) (.N 1)) (.V 1))) rfl h)) (by exact lin [_, _] [.L 1 (.V 0) (.V 1)] (.L 1 (.V 0) (.A (.V 1) (.N 1))) rfl hf)
        unfold StrLaws.occBody at this
        simp only [hl] at this
        simp only [pure_bind]
        refine this.trans ?_
        rw [hd, List.count_cons]; simp [hc]
    · rw [if_neg (fun q => by have := q.1.2; exact lin [_, _] [.NT 1 (.V 0) (.V 1), .L 1 (.A (.V 0) (.N 1)) (.V 1)] .F rfl hk q.1.2)]
      have := ih (k + 1) acc free (by exact Nat.le_antisymm (lin [_, _, _] [.E 1 (.A (.V 0) (.A (.V 1) (.N 1))) (.A (.V 2) (.N 1))] (.L 1 (.A (.A (.V 0) (.N 1)) (.V 1)) (.A (.V 2) (.N 1))) rfl h) (lin [_, _, _] [.Q 1 (.A (.V 0) (.A (.V 1) (.N 1))) (.A (.V 2) (.N 1))] (.L 1 (.A (.V 2) (.N 1)) (.A (.A (.V 0) (.N 1)) (.V 1))) rfl h)) (by exact lin [_, _] [.L 1 (.V 0) (.V 1)] (.L 1 (.V 0) (.A (.V 1) (.N 1))) rfl hf)
      unfold StrLaws.occBody at this
      simp only [hl] at this
      simp only [pure_bind]
      refine this.trans ?_
      have e1 : l.drop k = [] := List.drop_eq_nil_of_le (by exact lin [_, _] [.NT 1 (.V 0) (.V 1)] (.L 1 (.V 1) (.V 0)) rfl hk)
      have e2 : l.drop (k + 1) = [] := List.drop_eq_nil_of_le (by exact lin [_, _] [.NT 1 (.V 0) (.V 1)] (.L 1 (.V 1) (.A (.V 0) (.N 1))) rfl hk)
      rw [e1, e2]
theorem occ_len (l : List Nat) (c limit : Nat) : (Builtin.Str.occurrences (tx l) (tx [c]) 0 (tx l).length limit).length = min limit (l.count c) := by
  rw [StrLaws.occ_eq, tx_len]
  have := occ_from l c limit (l.length + 1) 0 #[] 0 (by exact Nat.le_antisymm (lin [_] [] (.L 1 (.A (.N 0) (.A (.V 0) (.N 1))) (.A (.V 0) (.N 1))) rfl) (lin [_] [] (.L 1 (.A (.V 0) (.N 1)) (.A (.N 0) (.A (.V 0) (.N 1)))) rfl)) (Nat.le_refl _)
  simpa using this
theorem tx_count (l : List Nat) (c : Nat) : Txt.count (tx l) (tx [c]) = ((l.count c : Nat) : Int) := by
  unfold Txt.count
  rw [occ_len, tx_len]
  have := List.count_le_length (a := c) (l := l)
  rw [Nat.min_eq_right (by exact lin [_, _] [.L 1 (.V 0) (.V 1)] (.L 1 (.V 0) (.A (.V 1) (.N 1))) rfl this)]
theorem tx_contains (l : List Nat) (c : Nat) : Txt.contains (tx l) (tx [c]) = l.contains c := by
  unfold Txt.contains
  have h := occ_len l c 1
  cases hc : l.contains c with
  | true =>
    have : 0 < l.count c := List.count_pos_iff.mpr (by simpa using hc)
    rw [Nat.min_eq_left (by exact lin [_] [.T 1 (.N 0) (.V 0)] (.L 1 (.N 1) (.V 0)) rfl this)] at h
    cases q : Builtin.Str.occurrences (tx l) (tx [c]) 0 (tx l).length 1 with
    | nil => rw [q] at h; cases h
    | cons => rfl
  | false =>
    have : l.count c = 0 := List.count_eq_zero.mpr (by simpa using hc)
    rw [this] at h
    have := List.length_eq_zero_iff.mp (h.trans rfl)
    rw [this]; rfl
theorem tx_join (ys : List (List Nat)) : Txt.join (tx []) (ys.map tx) = tx ys.flatten := by
  show Builtin.Str.glued (tx []) (ys.map tx) = _
  rw [StrLaws.glued_eq_join]
  induction ys with
  | nil => rfl
  | cons a l ih =>
    cases l with
    | nil => show tx a = _; simp
    | cons b l =>
      have : Str.join (tx []) ((a :: b :: l).map tx) = tx a ++ tx [] ++ Str.join (tx []) ((b :: l).map tx) := rfl
      rw [this, ih, tx_append, tx_append]; simp
theorem tx_init (l : List Nat) : Txt.slice (tx l) none (some (-1)) = tx l.dropLast := by
  by_cases h : l = []
  · subst h; decide +kernel
  · have hl : 0 < l.length := List.length_pos_iff.mpr h
    have := slice_closes_to_neg (x := tx l) (j := -1) (k := -1 + ((tx l).length : Int)) (by lia) (by rw [tx_len]; lia) rfl
    rw [beq_iff_eq] at this
    rw [this, tx_len]
    unfold tx
    simp [List.dropLast_eq_take]
    congr 1; lia
section
variable {prog : Program} {w : World} {G : GC} {n : Nat} {A : Around} {W V : Addr → Prop} {s₀ : Shared} {P₀ : PMap} {env : Env} {sc : Scp} {xs : List Str} {M X P : PMap} {σ σ' τ : Sto} {s : Shared} {rest : List Stmt} {Q : Flow → Shared → Prop}
noncomputable def sV (l : List Nat) : PV := .str (tx l)
theorem load_ok {M : Model} {x : Str} {pv : PV} {Q : Value → Shared → Prop} {E : Value → Shared → Prop} (C : Cx prog w G n A P env sc σ s) (h : (x, some pv) ∈ σ) (hQ : ∀ v, Rp prog w P v pv → Q v s) : wpAny M A (loadName env x) Q E s := by
  (refine el0x2 (C.vars x pv h) ?_; intro hd hZ; refine el1x2 hZ ?_; clear hZ; intro v y r)
  rcases y with ⟨hk, m, hn, hv⟩ | ⟨hk | ⟨hk, hc⟩, c, hl, hv⟩
  · exact wpAny_loadName_local C.act.kind hk hn hv (hQ v r)
  · exact wpAny_loadName_cell C.act.kind hk hl hv (hQ v r)
  · exact wpAny_loadName_free C.act.kind hk hl hv (hQ v r) hc
theorem sc_aug {x : Str} {e : Expr} {op : Operator} {p p' : Pos} {a b c : PV} (F : Fn prog w G n A W V s₀ P₀ env sc xs M X P σ s) (hv : (x, some a) ∈ σ) (D : Den prog w G n sc σ e b)
    (ho : ∀ (P : PMap) (s : Shared) (u v : Value) (Q : Value → Shared → Prop), Rp prog w P u a → Rp prog w P v b → (∀ r tk, Rp prog w P r c → Q r { s with toks := tk }) → wpAny (model prog w) A (inplaceOp op u v) Q (fun _ _ => False) s)
    (hx : x ∈ xs) (T : Turned x c σ σ') (h : ∀ s' P', Fn prog w G n A W V s₀ P₀ env sc xs M X P' σ' s' → PMap.le P P' → Run prog w A env rest Q s') : Run prog w A env (.AugAssign (.Name x p') op e p :: rest) Q s :=
  sc_of (wpAny_AugAssign_Name (load_ok F.cx hv fun u ru => F.evald D fun v s' P' F' l k r => ho P' s' u v _ (ru.mono l) r fun z tk rz =>
    (F'.move (tk := tk) (Keep.refl _) (PMap.le_refl _) F'.cx.sub (Grew.refl _ _)).store hx T rz fun s'' F'' => then_next (h s'' P' F'' l)))
theorem aug_int {a b : Int} : ∀ (P : PMap) (s : Shared) (u v : Value) (Q : Value → Shared → Prop), Rp prog w P u (.int a) → Rp prog w P v (.int b) → (∀ r tk, Rp prog w P r (.int (a + b)) → Q r { s with toks := tk }) → wpAny (model prog w) A (inplaceOp .Add u v) Q (fun _ _ => False) s := fun P s u v Q ru rv h => by
  (refine Rp.int_el ru ?_; clear ru; intro _ h; subst h); (refine Rp.int_el rv ?_; clear rv; intro _ h; subst h); exact PySem.P.iadd_int (h _ _ (.int _ _))
theorem aug_str {a b : Str} (hz : a.length + b.length ≤ sizeLine) : ∀ (P : PMap) (s : Shared) (u v : Value) (Q : Value → Shared → Prop), Rp prog w P u (.str a) → Rp prog w P v (.str b) → (∀ r tk, Rp prog w P r (.str (a ++ b)) → Q r { s with toks := tk }) → wpAny (model prog w) A (inplaceOp .Add u v) Q (fun _ _ => False) s := fun P s u v Q ru rv h => by
  (refine Rp.str_el ru ?_; clear ru; intro _ h; subst h); (refine Rp.str_el rv ?_; clear rv; intro _ h; subst h); exact SB.iadd (fun t k => h _ _ (.str _ _)) hz
theorem den_addT {l r : Expr} {p : Pos} {x y : List Nat} (dl : Den prog w G n sc σ l (sV x)) (dr : Den prog w G n sc σ r (sV y)) (hz : x.length + y.length ≤ sizeLine) : Den prog w G n sc σ (.BinOp l .Add r p) (sV (x ++ y)) :=
  den_as (by unfold sV; rw [tx_append]) (den_addS dl dr (by rw [tx_len, tx_len]; exact hz))
theorem eqv_sV {a b : List Nat} : (sV a).eqv (sV b) = (a == b) := by unfold sV; rw [eqv_str, tx_beq]
theorem okk_sV {a : List Nat} (h : ∀ c ∈ a, c < 0x110000) : PV.okk 0 (sV a) := okk_str (by unfold PyData.strOk tx; simpa using h)
theorem Fn.weak' (F : Fn prog w G n A W V s₀ P₀ env sc xs M X P σ s) (h : ∀ x pv, (x, some pv) ∈ σ' → (x, some pv) ∈ σ) : Fn prog w G n A W V s₀ P₀ env sc xs M X P σ' s :=
  have C := F.cx
  { F with cx := ⟨C.ok, C.base, C.sub, C.act, C.off, C.glob, C.blt, C.kl, fun x pv hx => C.vars x pv (h x pv hx), C.room⟩ }
theorem Fn.forget {vals : List (Option PV)} (k m : Nat) (F : Fn prog w G n A W V s₀ P₀ env sc xs M X P (xs.zip vals) s) : Fn prog w G n A W V s₀ P₀ env sc xs M X P (xs.zip (vals.take k ++ List.replicate m none)) s :=
  F.weak' fun x pv hx => by
    (refine el1x2 (zip_get hx) ?_; intro j h1 h2)
    refine mem_zip_of h1 ?_
    rw [List.getElem?_append] at h2
    split at h2
    · rw [List.getElem?_take] at h2; split at h2
      · exact h2
      · exact no1 h2
    · rw [List.getElem?_replicate] at h2; split at h2 <;> simp at h2
theorem den_txt {x : Str} {k : Nat} {p : Pos} (l : List Nat) (h : x = tx l) : Den prog w G n sc σ (.Constant (.str x) k p) (sV l) := by subst h; exact den_str
theorem its_txt {l : List Nat} : Its prog w (sV l) (l.map fun c => sV [c]) := by
  have := its_str (prog := prog) (w := w) (x := tx l)
  exact this
theorem con_joinT {ys : List (List Nat)} (h : (ys.map (·.length)).sum ≤ 16777216) : Con prog w G n (.builtin "str.join") [sV [], .list (ys.map sV)] (sV ys.flatten) := by
  have := con_join (prog := prog) (w := w) (G := G) (n := n) (x := tx []) (ys := ys.map tx) (by
    rw [List.map_map, tx_len]
    have e : ((fun x => x.length) ∘ tx) = fun y : List Nat => y.length := by funext y; exact tx_len y
    rw [e]; simpa using h)
  rw [tx_join, List.map_map] at this
  exact this
theorem cmp_inT {l : List Nat} {c : Nat} : Cmp prog w .In (sV [c]) (sV l) (l.contains c) := by rw [← tx_contains]; exact cmp_inS
theorem den_k (i : Nat) {k : Nat} {p : Pos} : Den prog w G n sc σ (.Constant (.int (i : Int)) k p) (iN i) := den_int
theorem aug_txt {a b : List Nat} (hz : a.length + b.length ≤ sizeLine) : ∀ (P : PMap) (s : Shared) (u v : Value) (Q : Value → Shared → Prop), Rp prog w P u (sV a) → Rp prog w P v (sV b) → (∀ r tk, Rp prog w P r (sV (a ++ b)) → Q r { s with toks := tk }) → wpAny (model prog w) A (inplaceOp .Add u v) Q (fun _ _ => False) s := fun P s u v Q ru rv h =>
  aug_str (by rw [tx_len, tx_len]; exact hz) P s u v Q ru rv fun r tk k => h r tk (by unfold sV; rw [← tx_append]; exact k)
theorem cmp_eqT {a b : List Nat} : Cmp prog w .Eq (sV a) (sV b) (a == b) := fun A P s u v Q hh hu hs ru rv h => by
  unfold sV at ru rv
  (refine Rp.str_el ru ?_; clear ru; intro _ h; subst h); (refine Rp.str_el rv ?_; clear rv; intro _ h; subst h)
  exact PySem.P.eq_str (h s.toks)
end
theorem Room.new {n : Nat} {A : Around} {C : Addr} {rest : List Value} (r : Room (n + 1) A) : Room n (A.under (.builtin "type.__call__" ⟨.ref C :: rest, []⟩)) := by
  have hw : Code.weight (.builtin "type.__call__" ⟨.ref C :: rest, []⟩) ≤ 1 := by rw [show Code.weight (.builtin "type.__call__" ⟨.ref C :: rest, []⟩) = 1 from by rfl]; exact Nat.le_refl _
  have hu : Code.cUnits (.builtin "type.__call__" ⟨.ref C :: rest, []⟩) ≤ 10 := by rw [show Code.cUnits (.builtin "type.__call__" ⟨.ref C :: rest, []⟩) = 1 from by rfl]; exact lin [] [] (.L 1 (.N 1) (.N 10)) rfl
  refine ⟨r.hd, ?_, ?_⟩
  · have := r.dp; show A.depth + _ + n < _; exact lin [_, _, _, _] [.L 1 (.V 0) (.N 1), .T 1 (.A (.V 1) (.A (.V 2) (.N 1))) (.V 3)] (.T 1 (.A (.A (.V 1) (.V 0)) (.V 2)) (.V 3)) rfl hw this
  · have := r.un; show A.units + _ + 80 + 10 * n < _; exact lin [_, _, _, _] [.L 1 (.V 0) (.N 10), .T 1 (.A (.A (.V 1) (.N 80)) (.M 10 (.A (.V 2) (.N 1)))) (.V 3)] (.T 1 (.A (.A (.A (.V 1) (.V 0)) (.N 80)) (.M 10 (.V 2))) (.V 3)) rfl hu this
noncomputable def ClsF (K : PMap) (C : Addr) (mN : Str → Option Value) : Prop :=
  (∃ (nm q : Str) (N : Addr) (bs : List Value) (sn : List Str) (sub : List Value) (col : Option Bool) (dd : Option Addr) (k0 k1 k2 k3 k5 : Option Value), K C = some (excClassObj nm q C N bs [.type "object"] true sn sub false col dd k0 k1 k2 k3 k5 "object.__new__") ∧ NsP K N mN) ∧
  mN "__getattribute__" = none ∧ mN "__getattr__" = none ∧ mN "__setattr__" = none
noncomputable def InsM (X : PMap) (x dx C : Addr) (mA : Str → Option Value) : Prop := ∃ ox od es ep, X x = some ox ∧ ox.cls = .ref C ∧ (∀ c, ox.data ≠ .cls c) ∧ ox.dict = some dx ∧ dx ≠ x ∧ X dx = some od ∧ od.data = .dict es ep ∧ StrKeys es ∧ UniqKeys es ∧ ∀ n, nsFind es n = mA n
theorem InsM.inst {X : PMap} {x dx C : Addr} {mA : Str → Option Value} {h : Heap} (i : InsM X x dx C mA) (s : Sub X h) : h.Inst x C mA := by
  (refine el4x10 i ?_; clear i; intro ox od es ep hx hc hn hd hne hdx hdd hk hu hf)
  exact (in1x4 ox (s _ _ hx) hc hn (.inr (in1x3 dx hd hne ⟨ od, es, ep, s _ _ hdx, hdd, hk, hu, hf⟩)))
section
variable {prog : Program} {w : World} {G : GC} {n : Nat} {A : Around} {W V : Addr → Prop} {s₀ : Shared} {P₀ : PMap} {env : Env} {sc : Scp} {xs : List Str} {M X P : PMap} {σ σ' τ : Sto} {s : Shared} {rest : List Stmt} {Q : Flow → Shared → Prop}
theorem instAt {v : Value} {C : Addr} {a : Str} {d : PV} {h : Heap} (r : Rp prog w P v (.inst C a d)) (b : Sub P h) : ∃ x u, v = .ref x ∧ Rp prog w P u d ∧ h.Inst x C (fun y => if y = a then some u else none) := by
  obtain ⟨x, d, o, od, es, ep, u, rfl, h1, c, n, e, f, g, k, s, q, m, r⟩ := r.inv
  exact (in2x3 _ _ rfl r ⟨ _, b _ _ h1, c, n, .inr (in1x3 _ e f ⟨ _, _, _, b _ _ g, k, s, q, m⟩)⟩)
theorem den_attr {x a : Str} {xp pos : Pos} {C : Addr} {d : PV} {mN : Str → Option Value} (c : ClsF G.K C mN) (D : Den prog w G n sc σ (.Name x xp) (.inst C a d)) (hna : mN a = none) (hB : typeLookup (.type "object") a = pure none) (hh : ∀ P v, Rp prog w P v d → handedOut v = pure v) :
    Den prog w G n sc σ (.Attribute (.Name x xp) a pos) d := .mk fun A P env s C => by
  refine Attribute_Name_ (D.go C fun u h₁ t₁ P₁ C₁ k₁ l₁ f₁ r₁ => ?_)
  (refine el2x3 (instAt r₁ C₁.sub) ?_; intro y v hZ; subst hZ; intro rv I)
  (refine el0x4 c ?_; clear c; intro hZ; obtain ⟨nm, q, N, bs, sn, sub, col, dd, k0, k1, k2, k3, k5, hC, hN⟩ := hZ; intro n1 n2 n3)
  have bK : Sub G.K h₁ := fun a o e => C₁.sub a o (C₁.base a o e)
  exact load_attr (bK _ _ hC) (hN.ns bK) n1 hna hB I (by simp) (hh _ _ rv) (Ends.back k₁ l₁ f₁ (Ends.tok C₁.sub rv _))
theorem den_imethod {o : Expr} {name a : Str} {apos pos : Pos} {es : List Expr} {C f : Addr} {of : Obj} {fd : FuncData} {d r : PV} {ds : List PV} {mN : Str → Option Value} (c : ClsF G.K C mN) (D : Den prog w G n sc σ o (.inst C a d)) (hf : mN name = some (.ref f)) (hfo : G.K f = some of) (hfc : of.cls = .type "function") (hfd : of.data = .func fd)
    (hna : name ≠ a) (hB : typeLookup (.type "object") name = pure none) (da : Argd prog w G n sc σ es ds) (cc : Con prog w G n (.ref f) (.inst C a d :: ds) r)
    (hb : ∀ env t, attributeBase o name env t = t := by intros; rfl) (hm : ∀ env, methodCallForm es.length (backTo pos (starEach es env)) [] = true := by intros; rfl) (hp : (apos.endLine == pos.line) = true := by rfl) : Den prog w G n sc σ (.Call (.Attribute o name apos) es [] pos) r := .mk fun A P env s C => by
  refine MethodCall_ (D.go C fun u h₁ t₁ P₁ C₁ k₁ l₁ f₁ r₁ => ?_) (attrCall_eq (hb env _) (hm env) hp)
  (refine el2x3 (instAt r₁ C₁.sub) ?_; intro x v hZ; subst hZ; intro rv I)
  obtain ⟨⟨nm, q, N, bs, sn, sub, col, dd, k0, k1, k2, k3, k5, hC, hN⟩, n1, n2, n3⟩ := c
  have bK : Sub G.K h₁ := fun a o e => C₁.sub a o (C₁.base a o e)
  refine method_of (bK _ _ hC) (hN.ns bK) n1 n2 hf (bK _ _ hfo) hfc hB I (by simp [hna]) ?_
  obtain ⟨h1, h2⟩ := da.run A P₁ env _ pos (.ref f) (fun x' s₂ => (s₂.heap.get? f = some of ∧ of.data = .func fd) ∧ wpAny (model prog w) A (call (.ref f) ([.ref x] ++ x'.pos) x'.kw) (fun v s' => Ends prog w P s v r s') (fun _ _ => False) s₂) C₁
    fun vs h₂ t₂ P₂ C₂ k₂ l₂ f₂ r₂ => ⟨⟨C₂.sub f of (C₂.base f of hfo), hfd⟩, wpAny_mono (cc A P₂ _ (.ref x :: vs) C₂.ok C₂.base C₂.sub C₂.room (.cons (r₁.mono l₂) r₂)) (fun _ _ e => Ends.back k₁ l₁ f₁ (Ends.back (s := { s with heap := h₁, toks := t₁ }) k₂ l₂ f₂ e)) fun _ _ x => x⟩
  exact callWith_function h2
theorem sc_setattr {x a : Str} {xp ap pos : Pos} {e : Expr} {C xa dx : Addr} {pv : PV} {mN mA : Str → Option Value} {ns : List Str} (F : Fn prog w G n A W V s₀ P₀ env sc xs M X P σ s) (c : ClsF G.K C mN) (D : Den prog w G n sc σ e pv) (hx : (x, some (.raw (.ref xa))) ∈ σ) (hI : InsM X xa dx C mA) (hna : mN a = none) (hB : typeLookup (.type "object") a = pure none)
    (hC : G.K C ≠ none) (hw : Within mA ns) (hz : ns.length ≤ 1000) (hs : swapsWith e (some (.Attribute (.Name x xp) a ap)) pos.line env = pure false)
    (h : ∀ s' P' v od', Fn prog w G n A W V s₀ P₀ env sc xs M (X.put dx od') P' σ s' → PMap.le P P' → Rp prog w P' v pv → InsM (X.put dx od') xa dx C (fun y => if y = a then some v else mA y) → Run prog w A env rest Q s') :
    Run prog w A env (.Assign [.Attribute (.Name x xp) a ap] e pos :: rest) Q s :=
  sc_of (plainObj_wpAny_Assign_Attribute (hs := hs) (F.evald D fun v s₁ P₁ F₁ l₁ k₁ r₁ => F₁.evald (den_var hx) fun ov s₂ P₂ F₂ l₂ k₂ r₂ => by
    (have h := Rp.raw_inv r₂; clear r₂; subst h)
    have I := hI.inst F₂.mux
    have hI' := hI
    (refine el4x10 hI' ?_; clear hI'; intro ox od es ep hxx hc hn hd hne hdx hdd hk hu hf)
    (refine el0x4 c ?_; clear c; intro hZ; obtain ⟨nm, q, N, bs, sn, sub, col, dd, k0, k1, k2, k3, k5, hCC, hN⟩ := hZ; intro n1 n2 n3)
    have bK : Sub G.K s₂.heap := fun a o e => F₂.cx.sub a o (F₂.cx.base a o e)
    have hxC : xa ≠ C := fun q => by rw [q] at hxx; have := F₂.disX _ _ hxx; have := F₂.cx.base _ _ hCC; simp_all
    refine store_attr (ns := ns) PySem.F.store_object (bK _ _ hCC) (hN.ns bK) n3 hna hB hxC I (fun h' tk' I' hkeep hself => ?_) hw (by unfold sizeLine; exact lin [_] [.L 1 (.V 0) (.N 1000)] (.L 1 (.V 0) (.N 16777216)) rfl hz)
    (refine el1x5 (hself ox (F₂.mux _ _ hxx)) ?_; intro o₁ hx₁ hc₁ hd₁ hs₁ hdi)
    have e₁ : o₁ = ox := by
      have := hdi dx hd
      obtain ⟨a1, a2, a3, a4⟩ := o₁; obtain ⟨b1, b2, b3, b4⟩ := ox
      simp only at hc₁ hd₁ hs₁ this hd
      rw [hc₁, hd₁, hs₁, this, hd]
    subst e₁
    (refine el1x4 I' ?_; clear I'; intro o' ho' hc' hn' hd')
    rw [hx₁] at ho'; (have h := Option.some.inj ho'; clear ho'; subst h)
    rcases hd' with ⟨hdn, _⟩ | ⟨d', hd', hne', od', es', ep', hod', hdd', hk', hu', hf'⟩
    · rw [hd] at hdn; exact no2 hdn
    rw [hd] at hd'; (have h := Option.some.inj hd'; clear hd'; subst h)
    have kk : ∀ b o, s₂.heap.get? b = some o → b ≠ dx → h'.get? b = some o := fun b o e hb => by
      by_cases q : b = xa
      · subst q; rw [F₂.mux _ _ hxx] at e; (have h := Option.some.inj e; clear e; subst h); exact hx₁
      · exact hkeep b o q (fun o₀ dy h₀ hdy => by rw [F₂.mux _ _ hxx] at h₀; (have h := Option.some.inj h₀; clear h₀; subst h); rw [hd] at hdy; (have h := Option.some.inj hdy; clear hdy; subst h); exact hb) e
    have nPd : P₂ dx = none := F₂.disX _ _ hdx
    have F₃ := F₂.outer (X' := X.put dx od') (tk := tk') (h' := h') (fun b o e => by
      by_cases q : b = dx
      · subst q; exact (in1x2 od' hod' (fun z => by rw [hdx] at z; exact no2 z))
      · exact (in1x2 o (kk b o e q) (fun _ => rfl))) (PMap.le_refl _) (fun b o e => kk b o (F₂.cx.sub b o e) fun q => by rw [q, nPd] at e; exact no1 e) (Grew.refl _ _)
      (fun b o e => by
        by_cases q : b = dx
        · subst q; simp [PMap.put] at e; rw [← e]; exact hod'
        · simp [PMap.put, q] at e; exact kk b o (F₂.mux _ _ e) q)
      (fun b o e => by
        by_cases q : b = dx
        · subst q; exact .inl (by rw [hdx]; rfl)
        · simp [PMap.put, q] at e; exact .inl (by rw [e]; rfl))
    refine then_next (h _ P₂ v od' F₃ (l₁.trans l₂) (r₁.mono l₂) (in4x10 o₁ od' es' ep' ?_ hc hn hd hne (PMap.put_self _ _ _) hdd' hk' hu' hf'))
    simp [PMap.put, hne.symm, hxx]))
end
section
variable {M : Model} {A : Around} {E : Value → Shared → Prop} {s : Shared}
theorem callWith_class {pos : Pos} {a : Addr} {o : Obj} {cd : ClassData} {first : List Value} {args : List (Bool × Sem Value)} {Q : Value → Shared → Prop} (hplain : args.any (·.1) = false)
    (h : wpAny M A (evalArgs (.ref a) true args []) (fun x s₁ => (s₁.heap.get? a = some o ∧ o.cls = .type "type" ∧ o.data = .cls cd) ∧ wpAny M A (call (.ref a) (first ++ x.pos) x.kw) Q E s₁) E s) :
    wpAny M A (callWith pos (.ref a) first args []) Q E s := by
  unfold callWith
  refine wpAny_bind (wpAny_holding (wpAny_mono h (fun x s₁ h₁ => wpAny_bind (wpAny_standAt ?_)) fun _ _ x => x))
  have tail : ∀ {t : Sem Value}, wpAny M A t Q E s₁ → wpAny M A (t >>= fun r => holding [r] point >>= fun _ => pure r) Q E s₁ :=
    fun ht => wpAny_bind (wpAny_mono ht (fun r s₂ hr => wpAny_bind (wpAny_holding (wpAny_point (wpAny_pure hr)))) fun _ _ x => x)
  simp only [hplain, List.any_nil, Bool.or_false]
  refine wpAny_bind (m := keeperOf (.ref a)) ?_
  unfold keeperOf
  refine wpAny_bind (wpAny_load h₁.1.1 ?_)
  rw [h₁.1.2.2]
  refine wpAny_bind (wpAny_specialOf (T := "type") (in1x2 o (h₁.1.1) (h₁.1.2.1)) F.lookup_type_call ?_)
  rw [show (some (Value.builtin "type.__call__") == some (Value.builtin "type.__call__")) = true from by decide]
  refine wpAny_pure ?_
  exact tail h₁.2
end
section
variable {κ : Type} [DecidableEq κ]
noncomputable def getK (l : List (κ × Int)) (k : κ) : Option Int := (l.find? fun p => p.1 = k).map (·.2)
noncomputable def putK (l : List (κ × Int)) (k : κ) (v : Int) : List (κ × Int) := if l.any (fun p => p.1 = k) then l.map (fun p => if p.1 = k then (p.1, v) else p) else l ++ [(k, v)]
noncomputable def eqvK (a b : List (κ × Int)) : Bool := a.length == b.length && a.all fun p => getK b p.1 == some p.2
noncomputable def kvR : (κ × Value) → (κ × Int) → Prop := fun kv p => kv.1 = p.1 ∧ ∃ t, kv.2 = .int p.2 t
theorem paired_len {α β : Type} {F : α → β → Prop} : ∀ {l : List α} {m : List β}, Paired F l m → l.length = m.length
  | _, _, .nil => rfl
  | _, _, .cons _ r => by simp [paired_len r]
theorem valueAt_paired : ∀ {kvs : List (κ × Value)} {l : List (κ × Int)}, Paired kvR kvs l → ∀ k, (∃ i t, getK l k = some i ∧ valueAt kvs k = some (.int i t)) ∨ (getK l k = none ∧ valueAt kvs k = none)
  | _, _, .nil, k => .inr ⟨rfl, rfl⟩
  | _, _, @Paired.cons _ _ _ a b kvs l h r, k => by
    (refine el0x2 h ?_; clear h; intro e hZ; refine el1x1 hZ ?_; clear hZ; intro t ev)
    have ih := valueAt_paired r k
    unfold getK valueAt at ih ⊢
    by_cases hk : b.1 = k
    · refine .inl (in2x2 (b.2) t ?_ ?_)
      · rw [List.find?_cons_of_pos (by simpa using hk)]; rfl
      · rw [List.find?_cons_of_pos (by simpa [e] using hk)]; simp [ev]
    · rw [List.find?_cons_of_neg (by simpa using hk), List.find?_cons_of_neg (by simpa [e] using hk)]
      exact ih
theorem any_paired : ∀ {kvs : List (κ × Value)} {l : List (κ × Int)}, Paired kvR kvs l → ∀ k, kvs.any (fun kv => kv.1 = k) = l.any (fun p => p.1 = k)
  | _, _, .nil, k => rfl
  | _, _, .cons h r, k => by rw [List.any_cons, List.any_cons, any_paired r k, h.1]
theorem map_paired : ∀ {kvs : List (κ × Value)} {l : List (κ × Int)}, Paired kvR kvs l → ∀ (k : κ) (v : Int) (t : Tok), Paired kvR (kvs.map fun kv => if kv.1 = k then (kv.1, .int v t) else kv) (l.map fun p => if p.1 = k then (p.1, v) else p)
  | _, _, .nil, _, _, _ => .nil
  | _, _, .cons h r, k, v, t => by
    refine .cons ?_ (map_paired r k v t)
    (refine el0x2 h ?_; clear h; intro e hZ; refine el1x1 hZ ?_; clear hZ; intro t' ev)
    dsimp only
    rw [e]
    split
    · exact ⟨rfl, t, rfl⟩
    · exact ⟨e, t', ev⟩
theorem stored_paired {kvs : List (κ × Value)} {l : List (κ × Int)} (h : Paired kvR kvs l) (k : κ) (v : Int) (t : Tok) : Paired kvR (stored kvs k (.int v t)) (putK l k v) := by
  unfold stored putK
  rw [any_paired h k]
  split
  · exact map_paired h k v t
  · exact h.snoc ⟨rfl, t, rfl⟩
theorem putK_len (l : List (κ × Int)) (k : κ) (v : Int) : (putK l k v).length ≤ l.length + 1 := by unfold putK; split <;> simp
theorem keq_hits {A : Around} {s : Shared} {kb : List (κ × Value)} {lb : List (κ × Int)} (hb : Paired kvR kb lb) : ∀ {ka : List (κ × Value)} {la : List (κ × Int)}, Paired kvR ka la → (la.all fun p => getK lb p.1 == some p.2) = true → PySem.W.KeqHits A s kb ka true
  | _, _, .nil, _ => .nil
  | _, _, @Paired.cons _ _ _ a b ka la h r, hall => by
    rw [List.all_cons, Bool.and_eq_true, beq_iff_eq] at hall
    (refine el0x2 h ?_; clear h; intro e hZ; refine el1x1 hZ ?_; clear hZ; intro t ev)
    obtain ⟨ak, av⟩ := a
    simp only at e ev
    subst e ev
    rcases valueAt_paired hb b.1 with ⟨i, u, g, hv⟩ | ⟨g, _⟩
    · rw [hall.1] at g; (have h := Option.some.inj g; clear g; subst h)
      have := PySem.W.KeqHits.hit (A := A) (s := s) (v := .int b.2 t) hv (SeqAt.EqAt.int_int b.2 t b.2 u) (keq_hits hb r hall.2)
      rw [beq_self_eq_true, Bool.and_self] at this
      exact this
    · rw [hall.1] at g; exact no2 g
theorem eqvK_refl {l : List (κ × Int)} (hn : (l.map (·.1)).Nodup) : eqvK l l = true := by
  unfold eqvK
  rw [beq_self_eq_true, Bool.true_and, List.all_eq_true]
  intro p hp
  rw [beq_iff_eq]
  unfold getK
  induction l with
  | nil => cases hp
  | cons a l ih =>
    rw [List.map_cons, List.nodup_cons] at hn
    rcases List.mem_cons.mp hp with rfl | hp
    · rw [List.find?_cons_of_pos (by simp)]; rfl
    · have : ¬ a.1 = p.1 := fun e => hn.1 (by rw [e]; exact List.mem_map.mpr (in1x2 p hp rfl))
      rw [List.find?_cons_of_neg (by simpa using this)]
      exact ih hn.2 hp
end
section
variable {prog : Program} {w : World} {G : GC} {n : Nat} {A : Around} {P : PMap} {s : Shared} {sc : Scp} {σ : Sto}
theorem Rp.dI_inv {v : Value} {l : List (Int × Int)} (r : Rp prog w P v (.dI l)) : ∃ a o kvs, v = .ref a ∧ P a = some o ∧ o.IsDictOf (intKind prog w) kvs ∧ Paired kvR kvs l ∧ (a == sysModules) = false := by
  exact r.inv
theorem Rp.dS_inv {v : Value} {l : List (Str × Int)} (r : Rp prog w P v (.dS l)) : ∃ a o kvs, v = .ref a ∧ P a = some o ∧ o.IsDictOf (strKind prog w) kvs ∧ Paired kvR kvs l ∧ (a == sysModules) = false := by
  exact r.inv
theorem cmp_neD {a b : List (Int × Int)} (h : eqvK a b = true) : Cmp prog w .NotEq (.dI a) (.dI b) false := fun A P s u v Q hh hu hs ru rv hq => by
  (refine el3x5 (ru.dI_inv) ?_; intro x ox ka hZ; subst hZ; intro hx dx px mx)
  (refine el3x5 (rv.dI_inv) ?_; intro y oy kb hZ; subst hZ; intro hy dy py my)
  unfold eqvK at h
  rw [Bool.and_eq_true, beq_iff_eq] at h
  refine PySem.W.keq_ne (knd := intKind prog w) (r := true) mx my (Heap.dictOf_iff.mpr (in1x2 ox (hs _ _ hx) dx)) (Heap.dictOf_iff.mpr (in1x2 oy (hs _ _ hy) dy)) (by exact lin [_, _] [.T 1 (.A (.V 0) (.N 80)) (.V 1)] (.T 1 (.V 0) (.V 1)) rfl hu) (fun _ => keq_hits py px h.2) ?_
  have : ka.length = kb.length := by rw [paired_len px, paired_len py, h.1]
  rw [this, beq_self_eq_true]
  exact hq s.toks
theorem pairs_any {prog' : Program} {w' : World} : ∀ {es : List DictEntry} {kvs : List (Int × Value)}, Pairs (intKind prog w) es kvs → Pairs (intKind prog' w') es kvs
  | _, _, .nil => .nil
  | _, _, .cons a b r => .cons a b (pairs_any r)
theorem isDict_any {prog' : Program} {w' : World} {o : Obj} {kvs : List (Int × Value)} (h : o.IsDictOf (intKind prog w) kvs) : o.IsDictOf (intKind prog' w') kvs := by
  (refine el2x5 h ?_; clear h; intro es ep a b c d e)
  exact (in2x5 es ep a b c (pairs_any d) e)
theorem eqAt_dict {u v : Value} {a b : List (Int × Int)} (h : eqvK a b = true) (hs : Sub P s.heap) (ru : Rp prog w P u (.dI a)) (rv : Rp prog w P v (.dI b)) (hu : A.units < cLine) : SeqAt.EqAt A s u v true := by
  (refine el3x5 (ru.dI_inv) ?_; intro x ox ka hZ; subst hZ; intro hx dx px mx)
  (refine el3x5 (rv.dI_inv) ?_; intro y oy kb hZ; subst hZ; intro hy dy py my)
  by_cases hne : x = y
  · subst hne; exact SeqAt.EqAt.same _
  · refine SeqAt.EqAt.of_refs hne fun prog' w' E Q hq => ?_
    unfold eqvK at h
    rw [Bool.and_eq_true, beq_iff_eq] at h
    have := PySem.W.keq_eq (prog := prog') (w := w') (A := A) (E := E) (Q := Q) (knd := intKind prog' w') (r := true) mx my (Heap.dictOf_iff.mpr (in1x2 ox (hs _ _ hx) (isDict_any dx))) (Heap.dictOf_iff.mpr (in1x2 oy (hs _ _ hy) (isDict_any dy))) hu (fun _ => keq_hits py px h.2) (by
      have : ka.length = kb.length := by rw [paired_len px, paired_len py, h.1]
      rw [this, beq_self_eq_true]; exact hq)
    exact this
theorem cmp_neLD {a : List (List (Int × Int))} (h : ∀ l ∈ a, (l.map (·.1)).Nodup) : Cmp prog w .NotEq (.list (a.map .dI)) (.list (a.map .dI)) false := fun A P s u v Q hh hu hs ru rv hq => by
  (refine el3x3 (ru.list_inv) ?_; intro x vs kx hZ; subst hZ; intro hx rx)
  (refine el3x3 (rv.list_inv) ?_; intro y us ky hZ; subst hZ; intro hy ry)
  have l1 := rx.length; have l2 := ry.length
  simp only [Array.length_toList, List.length_map] at l1 l2
  have := SeqAt.RcNeAt.lists (A := A) (s := s) (e := fun _ => true) (hs.isList hx) (hs.isList hy) (by exact Nat.le_antisymm (lin [_, _, _] [.E 1 (.V 0) (.V 1), .Q 1 (.V 2) (.V 1)] (.L 1 (.V 0) (.V 2)) rfl l1 l2) (lin [_, _, _] [.Q 1 (.V 0) (.V 1), .E 1 (.V 2) (.V 1)] (.L 1 (.V 2) (.V 0)) rfl l1 l2)) (by exact lin [_, _] [.T 1 (.A (.V 0) (.N 80)) (.V 1)] (.T 1 (.V 0) (.V 1)) rfl hu) (fun j h1 h2 => by
    have hj : j < a.length := by exact lin [_, _, _] [.E 1 (.V 0) (.V 1), .T 1 (.V 2) (.V 0)] (.T 1 (.V 2) (.V 1)) rfl l1 h1
    have e : (a.map PV.dI)[j]? = some (.dI a[j]) := by rw [List.getElem?_map, List.getElem?_eq_getElem hj]; rfl
    (refine el1x2 (rx.get e) ?_; intro v1 e1 r1)
    (refine el1x2 (ry.get e) ?_; intro v2 e2 r2)
    have g1 : vs[j] = v1 := by rw [Array.getElem?_toList, Array.getElem?_eq_getElem h1] at e1; exact Option.some.inj e1
    have g2 : us[j] = v2 := by rw [Array.getElem?_toList, Array.getElem?_eq_getElem h2] at e2; exact Option.some.inj e2
    rw [g1, g2]
    exact eqAt_dict (eqvK_refl (h _ (List.getElem_mem hj))) hs r1 r2 (by show A.units + 1 < _; exact lin [_, _] [.T 1 (.A (.V 0) (.N 80)) (.V 1)] (.T 1 (.A (.V 0) (.N 1)) (.V 1)) rfl hu))
  have e : (!(List.range vs.size).all fun _ => true) = false := by simp
  rw [e] at this
  exact this prog w _ _ (hq s.toks)
theorem meth_dict {name : Str} {id : String} {l : List (Int × Int)} (slot : Slot "dict" name id) (hty : typeOf (.builtin id) = pure (.type "method_descriptor")) : Meth prog w (.dI l) name id := fun A P v s pl Q b r h => by
  (refine el3x5 (r.dI_inv) ?_; intro a o kvs hZ; subst hZ; intro e d p m)
  (refine el2x2 d ?_; clear d; intro es ep hZ; refine el0x3 hZ ?_; clear hZ; intro hc hdn hsl; intro _)
  exact getMethod_builtin (in1x2 o (b _ _ e) hc) PySem.F.plainAttrs_dict slot hty (fun x hx => by (have h := Value.ref.inj hx; clear hx; subst h); exact (in1x2 o (b _ _ e) hdn)) h
theorem meth_dictS {name : Str} {id : String} {l : List (Str × Int)} (slot : Slot "dict" name id) (hty : typeOf (.builtin id) = pure (.type "method_descriptor")) : Meth prog w (.dS l) name id := fun A P v s pl Q b r h => by
  (refine el3x5 (r.dS_inv) ?_; intro a o kvs hZ; subst hZ; intro e d p m)
  (refine el2x2 d ?_; clear d; intro es ep hZ; refine el0x3 hZ ?_; clear hZ; intro hc hdn hsl; intro _)
  exact getMethod_builtin (in1x2 o (b _ _ e) hc) PySem.F.plainAttrs_dict slot hty (fun x hx => by (have h := Value.ref.inj hx; clear hx; subst h); exact (in1x2 o (b _ _ e) hdn)) h
theorem con_items {l : List (Int × Int)} : Con prog w G n (.builtin "dict.items") [.dI l] (.view true l) := fun A P s vs ok le b rm rs => by
  (refine RpL.el1 rs ?_; clear rs; intro _ h r; subst h)
  (refine el3x5 (r.dI_inv) ?_; intro a o kvs hZ; subst hZ; intro e d p m)
  have hD : s.heap.DictOf (intKind prog w) a kvs := Heap.dictOf_iff.mpr (in1x2 o (b _ _ e) d)
  refine call_meetsIn PySem.F.slot_dict_items hD.typeIs PySem.F.entry_dict_items (PySem.F.args_dict_items_1 _) (meets_dict_items (intKind prog w) a m) ⟨⟨kvs, hD⟩, ?_⟩
  exact Ends.pushed (tk := s.toks) b rfl (.view (PMap.put_self _ _ _) (PMap.put_le (b.fresh (fresh_size (Nat.le_refl _))) _ _ e) d p)
theorem con_values {l : List (Int × Int)} : Con prog w G n (.builtin "dict.values") [.dI l] (.view false l) := fun A P s vs ok le b rm rs => by
  (refine RpL.el1 rs ?_; clear rs; intro _ h r; subst h)
  (refine el3x5 (r.dI_inv) ?_; intro a o kvs hZ; subst hZ; intro e d p m)
  have hD : s.heap.DictOf (intKind prog w) a kvs := Heap.dictOf_iff.mpr (in1x2 o (b _ _ e) d)
  refine call_meetsIn PySem.F.slot_dict_values hD.typeIs PySem.F.entry_dict_values (PySem.F.args_dict_values_1 _) (meets_dict_values (intKind prog w) a m) ⟨⟨kvs, hD⟩, ?_⟩
  exact Ends.pushed (tk := s.toks) b rfl (.view (PMap.put_self _ _ _) (PMap.put_le (b.fresh (fresh_size (Nat.le_refl _))) _ _ e) d p)
theorem con_dictCopy {l : List (Int × Int)} (hz : l.length ≤ 1000) : Con prog w G n (.type "dict") [.dI l] (.dI l) := fun A P s vs ok le b rm rs => by
  (refine RpL.el1 rs ?_; clear rs; intro _ h r; subst h)
  (refine el3x5 (r.dI_inv) ?_; intro a o kvs hZ; subst hZ; intro e d p m)
  have hD : s.heap.DictOf (intKind prog w) a kvs := Heap.dictOf_iff.mpr (in1x2 o (b _ _ e) d)
  have hl := paired_len p
  refine kt_call_dict m hD (by unfold sizeLine; exact lin [_, _] [.L 1 (.V 0) (.N 1000), .E 1 (.V 1) (.V 0)] (.L 1 (.V 1) (.N 16777216)) rfl hz hl) fun h' hD' hs => ?_
  (refine el1x2 (Heap.dictOf_iff.mp hD') ?_; intro o' ho' d')
  have kk : ∀ b o, s.heap.get? b = some o → h'.get? b = some o := fun b o e => hs.extBut b o (Nat.ne_of_lt (Heap.lt_size e)) (Heap.get?_push_of_some _ e)
  have fz : s.heap.get? s.heap.objs.size = none := fresh_size (Nat.le_refl _)
  have nz : P s.heap.objs.size = none := b.fresh fz
  refine (in3x6 h' s.toks (P.put s.heap.objs.size o') rfl kk (PMap.put_le nz) (PMap.put_sub (b.keep kk) ho') (PMap.put_grew (Grew.refl _ _) fz) (.dI (PMap.put_self _ _ _) d' p ?_))
  (refine el1x1 (ok.mods) ?_; intro om hm)
  have := Heap.lt_size (b _ _ (le _ _ hm))
  simp only [beq_eq_false_iff_ne]
  exact Nat.ne_of_gt this
theorem its_values {l : List (Int × Int)} : Its prog w (.view false l) (l.map fun p => .int p.2) := fun P v r A s Q E hh hs hQ => by
  (refine el4x5 (Rp.inv r) ?_; clear r; intro x d o kvs hZ hx hd ho hp; subst hZ)
  have hV : s.heap.IsValuesView x d := (in1x3 _ (hs _ _ hx) rfl rfl)
  have hD : s.heap.DictOf (intKind prog w) d kvs := Heap.dictOf_iff.mpr (in1x2 o (hs _ _ hd) ho)
  (refine el2x5 ho ?_; clear ho; intro es ep hex hdat hk hpr hn)
  have hAt : s.heap.DictAt (intKind prog w) d kvs ep := (in2x6 o es (hs _ _ hd) hex hdat hk hpr hn)
  have hne : d ≠ s.heap.objs.size := Nat.ne_of_lt (Heap.lt_size (hs _ _ hd))
  have hlen : (l.map fun p => PV.int p.2).length = kvs.length := by rw [List.length_map, paired_len hp]
  refine wpAny_pyIter_values hV hAt (hQ _ (fun i h => (h.IsValIter s.heap.objs.size d i kvs.length ep ∧ h.DictAt (intKind prog w) d kvs ep) ∧ h.get? d = some o) ?_ ⟨⟨(in1x3 _ (Heap.get?_push_size _ rfl) rfl rfl), o, es, Heap.get?_push_of_some _ (hs _ _ hd), hex, hdat, hk, hpr, hn⟩, Heap.get?_push_of_some _ (hs _ _ hd)⟩)
  have W0 := fun (A : Around) (hh : A.handled = none) => Walks.dictValues (knd := intKind prog w) (prog := prog) (w := w) (A := A) hh s.heap.objs.size d hne kvs ep
  refine Itr.of (fp := [s.heap.objs.size, d]) (Pr := fun i v => ∃ k, kvs[i]? = some (k, v)) (fun A hh => ⟨(W0 A hh).sub, fun i h h' st k => ⟨(W0 A hh).frame i h h' st.1 k, k d (by simp) o st.2⟩,
    fun i s' Q E hi st hQ => (W0 A hh).item i s' Q E (hlen ▸ hi) st.1 fun v h' tk pv st' k => hQ v h' tk pv ⟨st', k d o (by simpa using hne) st.2⟩ k, fun s' Q E st hQ => (W0 A hh).done s' Q E (by have := st.1; rw [hlen] at this; exact this) hQ, fun i s' Q E st hQ => (W0 A hh).self i s' Q E st.1 hQ⟩) ?_ ?_ ?_ ?_
  · intro b hb; simp at hb; rcases hb with rfl | rfl
    · exact .inl rfl
    · exact .inr (by rw [hd]; rfl)
  · rintro i v dd ⟨k, e1⟩ e2
    rw [List.getElem?_map, Option.map_eq_some_iff] at e2
    (refine el1x2 e2 ?_; clear e2; intro p hpp hZ; subst hZ)
    have : ∀ {kvs : List (Int × Value)} {l : List (Int × Int)} {i : Nat}, Paired kvI kvs l → kvs[i]? = some (k, v) → l[i]? = some p → ∃ t, v = .int p.2 t := by
      intro kvs l i h
      induction h generalizing i with
      | nil => intro e; simp at e
      | cons h r ih =>
        intro e1 e2
        cases i with
        | zero => simp at e1 e2; subst e2; subst e1; exact h.2
        | succ i => exact ih (by simpa using e1) (by simpa using e2)
    (refine el1x1 (this hp e1 hpp) ?_; intro t hZ; subst hZ)
    exact .int _ _
  · rintro i h ⟨⟨⟨o', ho', hc', _⟩, _⟩, _⟩; exact (in1x2 o' ho' ⟨ _, hc', by decide⟩)
  · intro i h st b hb hbI o' e
    simp at hb
    rcases hb with rfl | rfl
    · exact absurd rfl hbI
    · rw [st.2] at e; (have h := Option.some.inj e; clear e; subst h); exact hd
end
section
variable {prog : Program} {w : World} {G : GC} {n : Nat} {A : Around} {W V : Addr → Prop} {s₀ : Shared} {P₀ : PMap} {env : Env} {sc : Scp} {xs : List Str} {M X P : PMap} {σ σ' τ : Sto} {s : Shared} {rest : List Stmt} {Q : Flow → Shared → Prop}
theorem fresh_mods (ok : GOk G) (le : PMap.le G.K P) (b : Sub P s.heap) : (s.heap.objs.size == sysModules) = false := by
  (refine el1x1 (ok.mods) ?_; intro om hm)
  have := Heap.lt_size (b _ _ (le _ _ hm))
  simp only [beq_eq_false_iff_ne]
  exact Nat.ne_of_gt this
set_option tactic.hygienic true in
theorem den_dict1 {e e' : Expr} {pos : Pos} {k v : Int} (d : Den prog w G n sc σ e (.int k)) (d' : Den prog w G n sc σ e' (.int v)) : Den prog w G n sc σ (.Dict [some e] [e'] pos) (.dI [(k, v)]) := .mk fun A P env s C => by
  refine wpAny_Dict_pairs (knd := intKind prog w) (pairs := [(eval e env, (do let x ← eval e' env; standAt pos; pure x : Sem Value))]) rfl (by simp) (by simp) ?_
  have k₀ : Keep s.heap (s.heap.push { cls := .type "dict", data := .dict #[] }) := Keep.push _ _
  have C₀ := C.next (tk := s.toks) k₀ (PMap.le_refl _) (C.sub.keep k₀) (Grew.refl _ _)
  refine wpAny_bind (d.go C₀ fun u h₁ t₁ P₁ C₁ k₁ l₁ f₁ r₁ => wpAny_bind (wpAny_holding (wpAny_bind (d'.go C₁ fun u' h₂ t₂ P₂ C₂ k₂ l₂ f₂ r₂ => wpAny_bind (wpAny_standAt (wpAny_pure (wpAny_bind (wpAny_holding (wpAny_pure (wpAny_pure ?_))))))))))
  (refine Rp.int_el r₁ ?_; clear r₁; intro _ h; subst h); (refine Rp.int_el r₂ ?_; clear r₂; intro _ h; subst h)
  have fz : s.heap.get? s.heap.objs.size = none := fresh_size (Nat.le_refl _)
  have hd0 : (s.heap.push { cls := .type "dict", data := .dict #[] }).get? s.heap.objs.size = some { cls := .type "dict", data := .dict #[] } := Heap.get?_push_size _ rfl
  have hd2 : h₂.get? s.heap.objs.size = some { cls := .type "dict", data := .dict #[] } := k₂ _ _ (k₁ _ _ hd0)
  rename_i t t'
  refine (in1x3 ([(k, .int v t')]) (in0x3 (by simp [intKind, Value.isInt]) rfl trivial) (in3x6 _ (#[]) _ hd2 (in0x3 rfl rfl rfl) rfl (by intro e he; simp at he) (.nil) List.nodup_nil) (fun h' hD hs => ?_))
  (refine el1x2 (Heap.dictOf_iff.mp hD) ?_; intro o' ho' d')
  have g2 : Grew P P₂ s.heap := (f₁.trans f₂ k₁).mono' k₀
  have nz : P₂ s.heap.objs.size = none := by
    have n0 : P s.heap.objs.size = none := C.sub.fresh fz
    have n1 : P₁ s.heap.objs.size = none := f₁.none hd0 n0
    exact f₂.none (k₁ _ _ hd0) n1
  have kk : ∀ b o, s.heap.get? b = some o → h'.get? b = some o := fun b o e => hs.extBut b o (Nat.ne_of_lt (Heap.lt_size e)) (k₂ _ _ (k₁ _ _ (k₀ _ _ e)))
  have b' : Sub P₂ h' := fun a o e => by
    have : a ≠ s.heap.objs.size := fun q => by rw [q, nz] at e; exact no1 e
    exact hs.extBut a o this (C₂.sub a o e)
  exact (in3x6 h' _ (P₂.put s.heap.objs.size o') rfl kk ((l₁.trans l₂).trans (PMap.put_le nz)) (PMap.put_sub b' ho') (PMap.put_grew g2 fz) (.dI (PMap.put_self _ _ _) d' (.cons ⟨rfl, t', rfl⟩ .nil) (fresh_mods C.ok C.base C.sub)))
noncomputable def MDict (prog : Program) (w : World) (M : PMap) (a : Addr) (l : List (Int × Int)) : Prop := ∃ o kvs, M a = some o ∧ o.IsDictOf (intKind prog w) kvs ∧ Paired kvR kvs l ∧ (a == sysModules) = false
theorem sc_dict0 {σ' : Addr → Sto} {x : Str} {p p' pp : Pos} (F : Fn prog w G n A W V s₀ P₀ env sc xs M X P σ s) (hx : x ∈ xs) (T : ∀ a, Turned x (.raw (.ref a)) σ (σ' a))
    (h : ∀ a o s', Fn prog w G n A W V s₀ P₀ env sc xs (M.put a o) X P (σ' a) s' → MDict prog w (M.put a o) a [] → Run prog w A env rest Q s') :
    Run prog w A env (.Assign [.Name x p'] (.Dict [] [] pp) p :: rest) Q s :=
  sc_of (wpAny_Assign_Name (wpAny_Dict_empty (by
    have fz : s.heap.get? s.heap.objs.size = none := fresh_size (Nat.le_refl _)
    have F₁ := F.take (tk := s.toks) (Keep.push s.heap { cls := .type "dict", data := .dict #[] }) fz (Heap.get?_push_size _ rfl)
    exact F₁.store hx (T s.heap.objs.size) (.raw _) fun s' F₂ => then_next (h _ _ s' F₂ (in2x4 _ ([]) (PMap.put_self _ _ _) (in2x5 (#[]) _ (in0x3 rfl rfl rfl) rfl (by intro e he; simp at he) (.nil) List.nodup_nil) (.nil) (fresh_mods F.cx.ok F.cx.base F.cx.sub))))) rfl)
theorem MDict.at {a : Addr} {l : List (Int × Int)} (m : MDict prog w M a l) (F : Fn prog w G n A W V s₀ P₀ env sc xs M X P σ s) : ∃ o kvs, M a = some o ∧ s.heap.DictOf (intKind prog w) a kvs ∧ Paired kvR kvs l ∧ (a == sysModules) = false := by
  (refine el2x4 m ?_; clear m; intro o kvs h d p m)
  exact (in2x4 o kvs h (Heap.dictOf_iff.mpr (in1x2 o (F.muo _ _ h) d)) p m)
theorem setM {a : Addr} {l : List (Int × Int)} {k v : Int} {t u : Tok} {Q : Unit → Shared → Prop} (F : Fn prog w G n A W V s₀ P₀ env sc xs M X P σ s) (m : MDict prog w M a l) (hz : l.length ≤ 1000)
    (h : ∀ o s', Fn prog w G n A W V s₀ P₀ env sc xs (M.put a o) X P σ s' → MDict prog w (M.put a o) a (putK l k v) → Q () s') : wpAny (model prog w) A (setItem (.ref a) (.int k t) (.int v u)) Q (fun _ _ => False) s := by
  (refine el2x4 (m.at F) ?_; intro o kvs ho hD hp hm)
  have hl := paired_len hp
  refine wpAny_setItem_pairs (knd := intKind prog w) (k := k) (by simp [intKind, Value.isInt]) hD (fun h' hD' hs => ?_) (by unfold sizeLine; exact lin [_, _] [.L 1 (.V 0) (.N 1000), .E 1 (.V 1) (.V 0)] (.L 1 (.V 1) (.N 16777216)) rfl hz hl)
  (refine el1x2 (Heap.dictOf_iff.mp hD') ?_; intro o' ho' d')
  have F' := F.turn (tk := s.toks + 1) ho ho' (fun b ob hb e => hs.extBut b ob hb e)
  exact h o' _ F' (in2x4 o' _ (PMap.put_self _ _ _) d' (stored_paired hp k v u) hm)
theorem sc_setM {a : Addr} {l : List (Int × Int)} {k v : Int} {o i value : Expr} {p' pos : Pos} (F : Fn prog w G n A W V s₀ P₀ env sc xs M X P σ s) (m : MDict prog w M a l) (hz : l.length ≤ 1000) (Do : Den prog w G n sc σ o (.raw (.ref a))) (Di : Den prog w G n sc σ i (.int k)) (Dv : Den prog w G n sc σ value (.int v))
    (hs : swapsWith value (some (.Subscript o i p')) pos.line env = pure false)
    (h : ∀ ob s' P', Fn prog w G n A W V s₀ P₀ env sc xs (M.put a ob) X P' σ s' → PMap.le P P' → MDict prog w (M.put a ob) a (putK l k v) → Run prog w A env rest Q s') :
    Run prog w A env (.Assign [.Subscript o i p'] value pos :: rest) Q s :=
  sc_of (wpAny_Assign_Subscript (hs := hs) (F.evald Dv fun vv s₁ P₁ F₁ l₁ k₁ r₁ => F₁.evald Do fun ov s₂ P₂ F₂ l₂ k₂ r₂ => F₂.evald Di fun iv s₃ P₃ F₃ l₃ k₃ r₃ => by
    (refine Rp.int_el r₁ ?_; clear r₁; intro _ h; subst h); (have h := Rp.raw_inv r₂; clear r₂; subst h); (refine Rp.int_el r₃ ?_; clear r₃; intro _ h; subst h)
    exact setM F₃ m hz fun ob s' F' m' => then_next (h ob s' P₃ F' ((l₁.trans l₂).trans l₃) m')))
theorem sc_augM {a : Addr} {l : List (Int × Int)} {k v old : Int} {o value : Expr} {x : Str} {px p' pos : Pos} (F : Fn prog w G n A W V s₀ P₀ env sc xs M X P σ s) (m : MDict prog w M a l) (hz : l.length ≤ 1000) (hold : getK l k = some old) (Do : Den prog w G n sc σ o (.raw (.ref a))) (Di : Den prog w G n sc σ (.Name x px) (.int k)) (Dv : Den prog w G n sc σ value (.int v))
    (h : ∀ ob s' P', Fn prog w G n A W V s₀ P₀ env sc xs (M.put a ob) X P' σ s' → PMap.le P P' → MDict prog w (M.put a ob) a (putK l k (old + v)) → Run prog w A env rest Q s') :
    Run prog w A env (.AugAssign (.Subscript o (.Name x px) p') .Add value pos :: rest) Q s :=
  sc_of (wpAny_AugAssign_Subscript (F.evald Do fun ov s₁ P₁ F₁ l₁ k₁ r₁ => F₁.evald Di fun iv s₂ P₂ F₂ l₂ k₂ r₂ => by
    (have h := Rp.raw_inv r₁; clear r₁; subst h); (refine Rp.int_el r₂ ?_; clear r₂; intro _ h; subst h)
    (refine el2x4 (m.at F₂) ?_; intro ob kvs ho hD hp hm)
    rcases valueAt_paired hp k with ⟨i, u, g, hv⟩ | ⟨g, _⟩
    · rw [hold] at g; (have h := Option.some.inj g; clear g; subst h)
      refine wpAny_getItem_of (knd := intKind prog w) (k := k) (by simp [intKind, Value.isInt]) hD.mapOf hv ?_
      have F₂' := F₂.move (tk := s₂.toks + 1) (Keep.refl _) (PMap.le_refl _) F₂.cx.sub (Grew.refl _ _)
      refine F₂'.evald Dv fun vv s₃ P₃ F₃ l₃ k₃ r₃ => ?_
      (refine Rp.int_el r₃ ?_; clear r₃; intro _ h; subst h)
      refine PySem.P.iadd_int ?_
      have F₄ := F₃.move (tk := s₃.toks + 1) (Keep.refl _) (PMap.le_refl _) F₃.cx.sub (Grew.refl _ _)
      exact setM F₄ m hz fun ob s' F' m' => then_next (h ob s' P₃ F' ((l₁.trans l₂).trans l₃) m')
    · rw [hold] at g; exact no2 g))
theorem sc_ifInM {a : Addr} {l : List (Int × Int)} {k : Int} {e o : Expr} {p p' : Pos} {body orelse : List Stmt} (F : Fn prog w G n A W V s₀ P₀ env sc xs M X P σ s) (m : MDict prog w M a l) (De : Den prog w G n sc σ e (.int k)) (Do : Den prog w G n sc σ o (.raw (.ref a)))
    (hmk : behindInMarks .In o = false)
    (ht : (getK l k).isSome = true → ∀ s' P', Fn prog w G n A W V s₀ P₀ env sc xs M X P' σ s' → PMap.le P P' → Run prog w A env body (Then prog w A env rest Q) s')
    (hf : (getK l k).isSome = false → ∀ s' P', Fn prog w G n A W V s₀ P₀ env sc xs M X P' σ s' → PMap.le P P' → Run prog w A env orelse (Then prog w A env rest Q) s') : Run prog w A env (.If (.Compare e [.In] [o] p') body orelse p :: rest) Q s :=
  sc_of (wpAny_If (wpAny_isTrue_Compare1 (F.evald De fun kv s₁ P₁ F₁ l₁ k₁ r₁ => F₁.evald Do fun ov s₂ P₂ F₂ l₂ k₂ r₂ => by
    (refine Rp.int_el r₁ ?_; clear r₁; intro _ h; subst h); (have h := Rp.raw_inv r₂; clear r₂; subst h)
    (refine el2x4 (m.at F₂) ?_; intro ob kvs ho hD hp hm)
    have e1 : (valueAt kvs k).isSome = (getK l k).isSome := by
      rcases valueAt_paired hp k with ⟨i, u, g, hv⟩ | ⟨g, hv⟩ <;> rw [g, hv] <;> rfl
    refine wpAny_in_of (knd := intKind prog w) (k := k) (by simp [intKind, Value.isInt]) hm hD.mapOf ?_
    rw [e1]
    refine wpAny_truthy_bool ?_
    have F₃ := F₂.move (tk := s₂.toks + 1) (Keep.refl _) (PMap.le_refl _) F₂.cx.sub (Grew.refl _ _)
    cases hg : (getK l k).isSome with
    | true => exact (ht hg _ P₂ F₃ (l₁.trans l₂)).run
    | false => exact (hf hg _ P₂ F₃ (l₁.trans l₂)).run) hmk))
end
section
variable {prog : Program} {w : World} {G : GC} {n : Nat} {A : Around} {W V : Addr → Prop} {s₀ : Shared} {P₀ : PMap} {env : Env} {sc : Scp} {xs : List Str} {M X P : PMap} {σ σ' τ : Sto} {s : Shared} {rest : List Stmt} {Q : Flow → Shared → Prop}
theorem sc_for_items {ts : List Expr} {tk : Nat} {tp : Pos} {iter : Expr} {body : List Stmt} {pos : Pos} (l : List (Int × Int)) (σs σt : Nat → Sto) (I : Nat → PMap → PMap → PMap → Prop)
    (F : Fn prog w G n A W V s₀ P₀ env sc xs M X P (σs 0) s) (di : Den prog w G n sc (σs 0) iter (.view true l))
    (hI : ∀ j M X P P', PMap.le P P' → I j M X P → I j M X P') (i0 : I 0 M X P)
    (hA : ∀ j p, l[j]? = some p → Asg prog w G n sc xs (.Tuple ts tk tp) (σs j) (.tuple [.int p.1, .int p.2]) (σt j))
    (hB : ∀ j p, l[j]? = some p → ∀ W' V' s₁ P₁ M X P s, Fn prog w G n A W' V' s₁ P₁ env sc xs M X P (σt j) s → I j M X P → Run prog w A env body (fun f s' => match f with
      | .next | .cont => ∃ M' X' P', Fn prog w G n A W' V' s₁ P₁ env sc xs M' X' P' (σs (j + 1)) s' ∧ I (j + 1) M' X' P'
      | .brk => False
      | .ret v => False) s)
    (hQ : ∀ M' X' P' s', Fn prog w G n A W V s₀ P₀ env sc xs M' X' P' (σs l.length) s' → I l.length M' X' P' → PMap.le P P' → Run prog w A env rest Q s')
    (hs : ∀ x, foldedSetIterable iter env x = pure x := by intro _; rfl) : Run prog w A env (.For (.Tuple ts tk tp) iter body [] pos :: rest) Q s := by
  have hh := F.cx.room.hd
  refine sc_of (wpAny_For (F.evald di fun v s₁ P₁ F₁ l₁ k₁ r₁ => ?_) hs)
  cases r₁ with
  | @view x d o _ kvs _ hx hd ho hp =>
  have hV : s₁.heap.IsItemsView x d := (in1x3 _ (F₁.cx.sub _ _ hx) rfl rfl)
  (refine el2x5 ho ?_; clear ho; intro es ep hex hdat hk hpr hn)
  have hAt : ∀ {h : Heap}, h.get? d = some o → h.DictAt (intKind prog w) d kvs ep := fun e => (in2x6 o es e hex hdat hk hpr hn)
  refine wpAny_pyIter_items hV (hAt (F₁.cx.sub _ _ hd)) ?_
  have hlen : kvs.length = l.length := paired_len hp
  generalize hIa : s₁.heap.objs.size = Ia
  have fI : s₁.heap.get? Ia = none := fresh_size (by rw [← hIa]; exact Nat.le_refl _)
  have F₂ := F₁.move (tk := s₁.toks) (Keep.push s₁.heap { cls := .type "dict_itemiterator", data := .fields #[.none, .bool false, .ref d, .int 0 0, .int kvs.length 0, .int ep 0, .none, .none] }) (PMap.le_refl _) (F₁.cx.sub.keep (Keep.push _ _)) (Grew.refl _ _)
  have st0 : IsItemIter (s₁.heap.push { cls := .type "dict_itemiterator", data := .fields #[.none, .bool false, .ref d, .int 0 0, .int kvs.length 0, .int ep 0, .none, .none] }) Ia d 0 kvs.length ep .none .none := by rw [← hIa]; exact Heap.get?_push_size _ rfl
  have nL : env.locals ≠ Ia := fun q => by (refine el4x2 (F₁.cx.act.ns) ?_; intro m o' es ep ho _); rw [q, fI] at ho; exact no1 ho
  have nC : ∀ p ∈ env.cells, p.2 ≠ Ia := fun p hp q => by (refine el2x2 (F₁.cx.act.cell p.1 p.2 hp) ?_; intro v o' ho _); rw [q, fI] at ho; exact no1 ho
  have n0 : s₀.heap.get? Ia = none := by
    cases q : s₀.heap.get? Ia with
    | none => rfl
    | some o' => (refine el1x2 (F₁.keep Ia o' q) ?_; intro o'' e' _); rw [fI] at e'; exact no1 e'
  have nT : ¬ Tch env xs Ia := fun t => by
    rcases t with q | ⟨x, _, q⟩
    · exact nL q.symm
    · exact nC _ (mem_of_lookup q) rfl
  have ndI : d ≠ Ia := fun q => by have := F₁.cx.sub _ _ hd; rw [q, fI] at this; exact no1 this
  refine codeAny_loop' rfl (fun k s' => ∃ j M' X' P' ok ov, Fn prog w G n A W V s₀ P₀ env sc xs M' X' P' (σs j) s' ∧ I j M' X' P' ∧ IsItemIter s'.heap Ia d j kvs.length ep ok ov ∧ PMap.le P₁ P' ∧ j ≤ l.length ∧ k = l.length + 1 - j ∧ P' Ia = none ∧ M' Ia = none ∧ X' Ia = none) (fun k s' hJ => ?_) (l.length + 1)
    ⟨0, M, X, P₁, .none, .none, F₂, hI 0 _ _ _ _ l₁ i0, st0, PMap.le_refl _, Nat.zero_le _, rfl, F₁.cx.sub.fresh fI, F₁.muo.fresh fI, F₁.mux.fresh fI⟩
  obtain ⟨j, M₃, X₃, P₃, ok, ov, F₃, i₃, st₃, l₃, hj, rfl, pI, mI, xI⟩ := hJ
  show wpAny _ A ((forTurn (.Tuple ts tk tp) (.ref Ia) body [] env).onRaise (fun x => do noteFrame x env; theTreesLotGoes x)) _ _ s'
  refine wpAny_noted (wpAny_mono (Q := _) (E := fun _ _ => False) ?_ (fun _ _ q => q) fun _ _ f => f.elim)
  simp only [forTurn]
  have hd₃ : s'.heap.get? d = some o := F₃.cx.sub _ _ (l₃ _ _ hd)
  by_cases hlt : j < l.length
  · have hp' : l[j]? = some l[j] := List.getElem?_eq_getElem hlt
    have hkv : ∃ t, kvs[j]? = some ((l[j]).1, .int (l[j]).2 t) := by
      have : ∀ {kvs : List (Int × Value)} {l : List (Int × Int)} {j : Nat} {p : Int × Int}, Paired kvI kvs l → l[j]? = some p → ∃ t, kvs[j]? = some (p.1, .int p.2 t) := by
        intro kvs l j p h
        induction h generalizing j with
        | nil => intro e; simp at e
        | @cons a b _ _ h r ih =>
          intro e
          cases j with
          | zero =>
            simp at e; subst e
            (refine el0x2 h ?_; clear h; intro e1 hZ; refine el1x1 hZ ?_; clear hZ; intro t e2)
            exact ⟨t, by obtain ⟨a1, a2⟩ := a; simp only at e1 e2; subst e1 e2; rfl⟩
          | succ j => (refine el1x1 (ih (by simpa using e)) ?_; intro t ht); exact ⟨t, by simpa using ht⟩
      exact this hp hp'
    (refine el1x1 hkv ?_; clear hkv; intro t hkv)
    refine wpAny_bind (wpAny_standAt (wpAny_bind (wpAny_onRaise (wpAny_pyNext_items_item st₃ (hAt hd₃) hkv fun key h₄ hkey heo ht₄ hz₄ hk₄ => ?_))))
    refine wpAny_bind (wpAny_letOwnedTupleGo_items heo fun h₅ he₅ hs₅ => wpAny_bind ?_)
    have hk : ∃ u, key = .int (l[j]).1 u := by
      cases key <;> simp [intKind, Value.isInt] at hkey
      subst hkey; exact ⟨_, rfl⟩
    (refine el1x1 hk ?_; clear hk; intro u hZ; subst hZ)
    have fz : s'.heap.get? s'.heap.objs.size = none := fresh_size (Nat.le_refl _)
    have nzI : s'.heap.objs.size ≠ Ia := fun q => by rw [q] at fz; rw [st₃] at fz; exact no2 fz
    have hb₅ : ∀ b o, b ≠ Ia → s'.heap.get? b = some o → h₅.get? b = some o := fun b o hb e => hs₅.extBut b o hb (hk₄ b o hb e)
    have F₄ := F₃.stray (tk := s'.toks) hb₅ pI mI xI nL nC n0
    have hT₅ : h₅.get? s'.heap.objs.size = some { cls := .type "tuple", data := .seq #[.int (l[j]).1 u, .int (l[j]).2 t] } := hs₅.extBut _ _ nzI ht₄
    have nP : P₃ s'.heap.objs.size = none := F₃.cx.sub.fresh fz
    have ff : ∀ {a : Addr} {ob : Obj}, M₃ a = some ob → a ≠ s'.heap.objs.size := fun e q => by have := F₃.muo _ _ e; rw [q, fz] at this; exact no1 this
    have fx : ∀ {a : Addr} {ob : Obj}, X₃ a = some ob → a ≠ s'.heap.objs.size := fun e q => by have := F₃.mux _ _ e; rw [q, fz] at this; exact no1 this
    have s0n : s₀.heap.get? s'.heap.objs.size = none := by
      cases q : s₀.heap.get? s'.heap.objs.size with
      | none => rfl
      | some o' => (refine el1x2 (F₃.keep _ o' q) ?_; intro o'' e' _); rw [fz] at e'; exact no1 e'
    have F₅ : Fn prog w G n A W V s₀ P₀ env sc xs M₃ X₃ (P₃.put s'.heap.objs.size { cls := .type "tuple", data := .seq #[.int (l[j]).1 u, .int (l[j]).2 t] }) (σs j) { s' with heap := h₅, toks := s'.toks } := by
      have C := F₄.cx
      have ll : PMap.le P₃ (P₃.put s'.heap.objs.size { cls := .type "tuple", data := .seq #[.int (l[j]).1 u, .int (l[j]).2 t] }) := PMap.put_le nP
      refine { F₄ with cx := ⟨C.ok, C.base.trans ll, PMap.put_sub C.sub hT₅, C.act, ⟨?_, fun p hp => ?_⟩, C.glob, C.blt, C.kl, fun x pv hx => let ⟨d, v, y, r⟩ := C.vars x pv hx; ⟨d, v, y, r.mono ll⟩, C.room⟩, le := F₄.le.trans ll, grew := fun b ob q => ?_, disM := fun b ob q => ?_, disX := fun b ob q => ?_ }
      · have : env.locals ≠ s'.heap.objs.size := fun z => by (refine el4x2 (F₃.cx.act.ns) ?_; intro m o' es ep ho _); rw [z, fz] at ho; exact no1 ho
        simp [PMap.put, this, C.off.1]
      · have : p.2 ≠ s'.heap.objs.size := fun z => by (refine el2x2 (F₃.cx.act.cell p.1 p.2 hp) ?_; intro v o' ho _); rw [z, fz] at ho; exact no1 ho
        simp [PMap.put, this, C.off.2 p hp]
      · by_cases z : b = s'.heap.objs.size
        · subst z; exact .inr (.inr s0n)
        · simp [PMap.put, z] at q; exact F₄.grew b ob q
      · simp [PMap.put, ff q, F₄.disM b ob q]
      · simp [PMap.put, fx q, F₄.disX b ob q]
    have rT : Rp prog w (P₃.put s'.heap.objs.size { cls := .type "tuple", data := .seq #[.int (l[j]).1 u, .int (l[j]).2 t] }) (.ref s'.heap.objs.size) (.tuple [.int (l[j]).1, .int (l[j]).2]) := .tuple (PMap.put_self _ _ _) (.cons (.int _ _) (.cons (.int _ _) .nil))
    have pI₅ : (P₃.put s'.heap.objs.size { cls := .type "tuple", data := .seq #[.int (l[j]).1 u, .int (l[j]).2 t] }) Ia = none := by simp [PMap.put, Ne.symm nzI, pI]
    refine (hA j _ hp').run A _ env _ _ _ F₅.cx (fun x hx => (F₅.own x hx).1) rT fun h₆ tk₆ P₆ C₆ k₆ l₆ g₆ => wpAny_bind ?_
    have S₆ := F₅.self.stored C₆ k₆ l₆ g₆
    refine wpAny_mono (hB j _ hp' _ _ _ _ _ _ _ _ S₆ (hI j _ _ _ _ l₆ (hI j _ _ _ _ (PMap.put_le nP) i₃))).run (fun f s₇ h₇ => ?_) fun _ _ q => q.elim
    have nxt : (∃ M' X' P', Fn prog w G n A (fun a => (X₃ a).isSome = true ∨ Tch env xs a) (fun a => (M₃ a).isSome = true) { s' with heap := h₅, toks := s'.toks } (P₃.put s'.heap.objs.size { cls := .type "tuple", data := .seq #[.int (l[j]).1 u, .int (l[j]).2 t] }) env sc xs M' X' P' (σs (j + 1)) s₇ ∧ I (j + 1) M' X' P') →
        ∃ m, m < l.length + 1 - j ∧ ∃ j M' X' P' ok ov, Fn prog w G n A W V s₀ P₀ env sc xs M' X' P' (σs j) s₇ ∧ I j M' X' P' ∧ IsItemIter s₇.heap Ia d j kvs.length ep ok ov ∧ PMap.le P₁ P' ∧ j ≤ l.length ∧ m = l.length + 1 - j ∧ P' Ia = none ∧ M' Ia = none ∧ X' Ia = none := by
      rintro ⟨M₇, X₇, P₇, F₇, i₇⟩
      have nW : ¬ ((X₃ Ia).isSome = true ∨ Tch env xs Ia) := fun q => q.elim (fun q => by rw [xI] at q; exact no3 q) nT
      have nV : ¬ ((M₃ Ia).isSome = true) := fun q => by rw [mI] at q; exact no3 q
      have hI₅ : ({ s' with heap := h₅, toks := s'.toks } : Shared).heap.get? Ia = some { cls := .type "dict_itemiterator", dict := none, data := .fields #[.none, .bool false, .ref d, .int ((j + 1 : Nat) : Int) 0, .int kvs.length 0, .int ep 0, .int (l[j]).1 u, .int (l[j]).2 t], slots := #[] } := he₅
      refine (in1x2 (l.length + 1 - (j + 1)) (by lia) ⟨ j + 1, M₇, X₇, P₇, .int (l[j]).1 u, .int (l[j]).2 t, F₅.back (fun a h => h) (fun a h => h) F₇, i₇, ?_, l₃.trans ((PMap.put_le nP).trans F₇.le), hlt, rfl, ?_, ?_, ?_⟩)
      · show s₇.heap.get? Ia = _
        (refine el1x2 (F₇.keep Ia _ hI₅) ?_; intro o'' e'' q)
        rw [e'', q nW nV]
      · cases q : P₇ Ia with
        | none => rfl
        | some o' => rcases F₇.grew Ia o' q with x | x | x
                     · rw [pI₅] at x; exact no1 x
                     · exact absurd x nV
                     · rw [hI₅] at x; exact no2 x
      · cases q : M₇ Ia with
        | none => rfl
        | some o' => rcases F₇.wM Ia o' q with x | x
                     · exact absurd x nV
                     · rw [hI₅] at x; exact no2 x
      · cases q : X₇ Ia with
        | none => rfl
        | some o' => rcases F₇.wX Ia o' q with x | x
                     · exact absurd x nW
                     · rw [hI₅] at x; exact no2 x
    cases f with
    | next => exact wpAny_pure (.inl ⟨rfl, nxt h₇⟩)
    | cont => exact wpAny_pure (.inl ⟨rfl, nxt h₇⟩)
    | brk => exact h₇.elim
    | ret u => exact h₇.elim
  · have hj' : j = l.length := by exact Nat.le_antisymm (lin [_, _] [.L 1 (.V 0) (.V 1)] (.L 1 (.V 0) (.V 1)) rfl hj) (lin [_, _] [.NT 1 (.V 0) (.V 1)] (.L 1 (.V 1) (.V 0)) rfl hlt)
    subst hj'
    have hkn : kvs[l.length]? = none := by rw [List.getElem?_eq_none_iff]; exact lin [_, _] [.E 1 (.V 0) (.V 1)] (.L 1 (.V 0) (.V 1)) rfl hlen
    refine wpAny_bind (wpAny_standAt (wpAny_bind (wpAny_onRaise (wpAny_pyNext_items_end hh st₃ (hAt hd₃) hkn fun h₄ k₄ => ?_))))
    have F₄ := F₃.stray (tk := s'.toks) (fun b o hb e => k₄ b o hb e) pI mI xI nL nC n0
    exact wpAny_pure (.inr ⟨rfl, codeAny_block (wpAny_execs_nil (then_next (hQ M₃ X₃ P₃ _ F₄ i₃ (l₁.trans l₃))))⟩)
end
theorem clipAt_nat (n a : Nat) : clipAt n (a : Int) = min a n := by
  have h := clipAt_cast n (a : Int)
  rw [if_neg (by lia)] at h
  lia
theorem drop_take_min {α : Type} (l : List α) (a b : Nat) : (l.drop (min a l.length)).take (min b l.length - min a l.length) = (l.drop a).take (b - a) := by
  by_cases ha : a ≤ l.length
  · rw [Nat.min_eq_left ha]
    by_cases hb : b ≤ l.length
    · rw [Nat.min_eq_left hb]
    · rw [Nat.min_eq_right (by exact lin [_, _] [.NL 1 (.V 0) (.V 1)] (.L 1 (.V 1) (.V 0)) rfl hb), List.take_of_length_le (by simp), List.take_of_length_le (by simp; lia)]
  · have e1 : l.drop (min a l.length) = [] := List.drop_eq_nil_of_le (by lia)
    have e2 : l.drop a = [] := List.drop_eq_nil_of_le (by exact lin [_, _] [.NL 1 (.V 0) (.V 1)] (.L 1 (.V 1) (.V 0)) rfl ha)
    rw [e1, e2]; simp
theorem pickL_nat (l : List PV) (a b : Nat) : pickL l (some (a : Int)) (some (b : Int)) none = (l.drop a).take (b - a) := by
  unfold pickL
  rw [sliceBounds_plain]
  simp only [sliceRange_one, Option.elim, clipAt_nat]
  have := pick_run l.toArray (min a l.length) (min b l.length - min a l.length)
  simp only [List.getElem?_toArray] at this
  rw [this, drop_take_min]
theorem pickL_to (l : List PV) (b : Nat) : pickL l none (some (b : Int)) none = l.take b := by
  unfold pickL
  rw [sliceBounds_plain]
  simp only [sliceRange_one, Option.elim, clipAt_nat]
  have := pick_run l.toArray 0 (min b l.length - 0)
  simp only [List.getElem?_toArray] at this
  rw [this]
  simp
theorem rng2size (n : Nat) : Builtin.Range.rangeSize 0 (n : Int) 2 = (((n + 1) / 2 : Nat) : Int) := by
  unfold Builtin.Range.rangeSize
  rw [if_pos (by decide)]
  split <;> lia
theorem rngItems2 (n : Nat) : rngItems 0 (n : Int) 2 = (List.range ((n + 1) / 2)).map fun i => iN (2 * i) := by
  unfold rngItems
  rw [rng2size, Int.toNat_natCast]
  congr 1; funext i
  unfold iN; congr 1; lia
section
variable {prog : Program} {w : World}
theorem its_range_step2 {n : Nat} (hn : n < 2 ^ 30) : Its prog w (.rng 0 (n : Int) 2) ((List.range ((n + 1) / 2)).map fun i => iN (2 * i)) := by
  have h := rng2size n
  rw [← rngItems2]
  refine its_rng ?_ (by rw [h]; lia)
  unfold Builtin.Range.small Builtin.Range.rangeFitsLong; rw [h]; simp; lia
end
noncomputable def EndsX (prog : Program) (w : World) (X P : PMap) (s : Shared) (v : Value) (pv : PV) (Post : PMap → PMap → Prop) (s' : Shared) : Prop :=
  ∃ h' tk P' X', s' = { s with heap := h', toks := tk } ∧ (∀ b o, s.heap.get? b = some o → ∃ o', h'.get? b = some o' ∧ (X b = none → o' = o)) ∧ PMap.le P P' ∧ Sub P' h' ∧ Grew P P' s.heap ∧ Sub X' h' ∧
    (∀ a o, X' a = some o → (X a).isSome = true ∨ (s.heap.get? a = none ∧ P' a = none)) ∧ Rp prog w P' v pv ∧ Post X' P'
section
variable {prog : Program} {w : World} {G : GC} {n : Nat} {A : Around} {W V : Addr → Prop} {s₀ : Shared} {P₀ : PMap} {env : Env} {sc : Scp} {xs : List Str} {M X X₀ P : PMap} {σ σ' τ : Sto} {s : Shared} {rest : List Stmt}
theorem Fn.endsX {v : Value} {pv : PV} {Post : PMap → PMap → Prop} (F : Fn prog w G n A (fun a => (X₀ a).isSome = true) (fun _ => False) s₀ P₀ env sc xs M X P σ s) (r : Rp prog w P v pv) (hp : Post X P) : EndsX prog w X₀ P₀ s₀ v pv Post s := by
  (refine el2x1 (F.sh) ?_; intro h t hZ; subst hZ)
  refine (in4x9 h t P X rfl (fun b o e => ?_) F.le F.cx.sub (fun a o e => ?_) F.mux (fun a o e => ?_) r hp)
  · (refine el1x2 (F.keep b o e) ?_; intro o' e' q)
    exact (in1x2 o' e' (fun z => q (fun y => by rw [z] at y; exact no3 y) fun y => y))
  · rcases F.grew a o e with x | x | x
    · exact .inl x
    · exact x.elim
    · exact .inr x
  · rcases F.wX a o e with x | x
    · exact .inl x
    · exact .inr ⟨x, F.disX a o e⟩
theorem Fn.behind {v : Value} {pv : PV} {Post : PMap → PMap → Prop} {s' : Shared} (F : Fn prog w G n A W V s₀ P₀ env sc xs M X P σ s) (e : EndsX prog w X P s v pv Post s') : ∃ X' P', Fn prog w G n A W V s₀ P₀ env sc xs M X' P' σ s' ∧ PMap.le P P' ∧ Rp prog w P' v pv ∧ Post X' P' ∧ (∀ a o, X' a = some o → (X a).isSome = true ∨ s.heap.get? a = none) := by
  (refine el4x9 e ?_; clear e; intro h' tk P' X' hZ; subst hZ; intro k l b g mx dx r p)
  exact (in2x5 X' P' (F.outer k l b g mx dx) l r p (fun a o e => (dx a o e).imp id (·.1)))
theorem getX {x dx C : Addr} {a : Str} {v : Value} {mN mA : Str → Option Value} {Q : Value → Shared → Prop} (F : Fn prog w G n A W V s₀ P₀ env sc xs M X P σ s) (c : ClsF G.K C mN) (hI : InsM X x dx C mA) (hna : mN a = none) (hB : typeLookup (.type "object") a = pure none) (hv : mA a = some v) (hh : handedOut v = pure v)
    (h : ∀ s', Fn prog w G n A W V s₀ P₀ env sc xs M X P σ s' → s'.heap = s.heap → Q v s') : wpAny (model prog w) A (getAttr (.ref x) a true) Q (fun _ _ => False) s := by
  have I := hI.inst F.mux
  (refine el0x4 c ?_; clear c; intro hZ; obtain ⟨nm, q, N, bs, sn, sub, col, dd, k0, k1, k2, k3, k5, hC, hN⟩ := hZ; intro n1 n2 n3)
  have bK : Sub G.K s.heap := fun a o e => F.cx.sub a o (F.cx.base a o e)
  exact load_attr (bK _ _ hC) (hN.ns bK) n1 hna hB I hv hh (h _ (F.move (tk := s.toks + 1) (Keep.refl _) (PMap.le_refl _) F.cx.sub (Grew.refl _ _)) rfl)
theorem setX {xa dx C : Addr} {a : Str} {v : Value} {mN mA : Str → Option Value} {ns : List Str} {Q : Unit → Shared → Prop} (F : Fn prog w G n A W V s₀ P₀ env sc xs M X P σ s) (c : ClsF G.K C mN) (hI : InsM X xa dx C mA) (hna : mN a = none) (hB : typeLookup (.type "object") a = pure none) (hw : Within mA ns) (hz : ns.length ≤ 1000)
    (h : ∀ s' od', Fn prog w G n A W V s₀ P₀ env sc xs M (X.put dx od') P σ s' → InsM (X.put dx od') xa dx C (fun y => if y = a then some v else mA y) → Q () s') : wpAny (model prog w) A (setAttr (.ref xa) a v) Q (fun _ _ => False) s := by
  have I := hI.inst F.mux
  have hI' := hI
  (refine el4x10 hI' ?_; clear hI'; intro ox od es ep hxx hc hn hd hne hdx hdd hk hu hf)
  obtain ⟨⟨nm, q, N, bs, sn, sub, col, dd, k0, k1, k2, k3, k5, hCC, hN⟩, n1, n2, n3⟩ := c
  have bK : Sub G.K s.heap := fun a o e => F.cx.sub a o (F.cx.base a o e)
  have hxC : xa ≠ C := fun q => by rw [q] at hxx; have := F.disX _ _ hxx; have := F.cx.base _ _ hCC; simp_all
  refine store_attr (ns := ns) PySem.F.store_object (bK _ _ hCC) (hN.ns bK) n3 hna hB hxC I (fun h' tk' I' hkeep hself => ?_) hw (by unfold sizeLine; exact lin [_] [.L 1 (.V 0) (.N 1000)] (.L 1 (.V 0) (.N 16777216)) rfl hz)
  (refine el1x5 (hself ox (F.mux _ _ hxx)) ?_; intro o₁ hx₁ hc₁ hd₁ hs₁ hdi)
  have e₁ : o₁ = ox := by
    have := hdi dx hd
    obtain ⟨a1, a2, a3, a4⟩ := o₁; obtain ⟨b1, b2, b3, b4⟩ := ox
    simp only at hc₁ hd₁ hs₁ this hd
    rw [hc₁, hd₁, hs₁, this, hd]
  subst e₁
  (refine el1x4 I' ?_; clear I'; intro o' ho' hc' hn' hd')
  rw [hx₁] at ho'; (have h := Option.some.inj ho'; clear ho'; subst h)
  rcases hd' with ⟨hdn, _⟩ | ⟨d', hd', hne', od', es', ep', hod', hdd', hk', hu', hf'⟩
  · rw [hd] at hdn; exact no2 hdn
  rw [hd] at hd'; (have h := Option.some.inj hd'; clear hd'; subst h)
  have kk : ∀ b o, s.heap.get? b = some o → b ≠ dx → h'.get? b = some o := fun b o e hb => by
    by_cases q : b = xa
    · subst q; rw [F.mux _ _ hxx] at e; (have h := Option.some.inj e; clear e; subst h); exact hx₁
    · exact hkeep b o q (fun o₀ dy h₀ hdy => by rw [F.mux _ _ hxx] at h₀; (have h := Option.some.inj h₀; clear h₀; subst h); rw [hd] at hdy; (have h := Option.some.inj hdy; clear hdy; subst h); exact hb) e
  have nPd : P dx = none := F.disX _ _ hdx
  have F₃ := F.outer (X' := X.put dx od') (tk := tk') (h' := h') (fun b o e => by
    by_cases q : b = dx
    · subst q; exact (in1x2 od' hod' (fun z => by rw [hdx] at z; exact no2 z))
    · exact (in1x2 o (kk b o e q) (fun _ => rfl))) (PMap.le_refl _) (fun b o e => kk b o (F.cx.sub b o e) fun q => by rw [q, nPd] at e; exact no1 e) (Grew.refl _ _)
    (fun b o e => by
      by_cases q : b = dx
      · subst q; simp [PMap.put] at e; rw [← e]; exact hod'
      · simp [PMap.put, q] at e; exact kk b o (F.mux _ _ e) q)
    (fun b o e => by
      by_cases q : b = dx
      · subst q; exact .inl (by rw [hdx]; rfl)
      · simp [PMap.put, q] at e; exact .inl (by rw [e]; rfl))
  refine h _ od' F₃ (in4x10 o₁ od' es' ep' ?_ hc hn hd hne (PMap.put_self _ _ _) hdd' hk' hu' hf')
  simp [PMap.put, hne.symm, hxx]
theorem Fn.turnX (F : Fn prog w G n A W V s₀ P₀ env sc xs M X P σ s) {a : Addr} {o o' : Obj} {h' : Heap} {tk : Nat} (e : X a = some o) (e' : h'.get? a = some o') (hb : ∀ b ob, b ≠ a → s.heap.get? b = some ob → h'.get? b = some ob) : Fn prog w G n A W V s₀ P₀ env sc xs M (X.put a o') P σ { s with heap := h', toks := tk } := by
  have nP : P a = none := F.disX a o e
  exact F.outer (fun b ob q => by
    by_cases z : b = a
    · subst z; exact (in1x2 o' e' (fun y => by rw [e] at y; exact no2 y))
    · exact (in1x2 ob (hb b ob z q) (fun _ => rfl))) (PMap.le_refl _) (fun b ob q => hb b ob (fun z => by rw [z, nP] at q; exact no1 q) (F.cx.sub b ob q)) (Grew.refl _ _)
    (fun b ob q => by
      by_cases z : b = a
      · subst z; simp [PMap.put] at q; rw [← q]; exact e'
      · simp [PMap.put, z] at q; exact hb b ob z (F.mux b ob q))
    (fun b ob q => by
      by_cases z : b = a
      · subst z; exact .inl (by rw [e]; rfl)
      · simp [PMap.put, z] at q; exact .inl (by rw [q]; rfl))
theorem InsM.put {x dx C b : Addr} {o : Obj} {mA : Str → Option Value} (i : InsM X x dx C mA) (hx : b ≠ x) (hd : b ≠ dx) : InsM (X.put b o) x dx C mA := by
  (refine el4x7 i ?_; clear i; intro ox od es ep h1 h2 h3 h4 h5 h6 h7)
  exact (in4x7 ox od es ep (by simp [PMap.put, Ne.symm hx, h1]) h2 h3 h4 h5 (by simp [PMap.put, Ne.symm hd, h6]) h7)
end
noncomputable def part (i : Nat) : Arguments × List Stmt × Scope := match PySem.Challenge.pw_wz0014_01.main.body[i]? with
  | some (.FunctionDef _ ps b _ _ _ sc _ _ _) => (ps, b, sc)
  | _ => default
noncomputable def pm (i : Nat) : Arguments := (part i).1
noncomputable def bd (i : Nat) : List Stmt := (part i).2.1
noncomputable def sp (i : Nat) : Scope := (part i).2.2
section
variable {prog : Program} {w : World} {G : GC} {n : Nat}
theorem con_iseof {a : Addr} {t : Tok} {i : Int} (D : Df G.K (pm 60) (bd 60) (sp 60) a) (hE : G.mg "ENDMARKER" = some (.int 0 t)) : Con prog w G (n + 1) (.ref a) [.int i] (.bool (i == 0)) := fun A P s vs ok le b rm rs => by
  refine enter (X := PMap.none) (names := ["x"]) (extra := []) D (fun fd vs h1 h2 h3 => ?_) (by decide +kernel) rfl rfl rfl rfl ok le b rm rs (fun a o e => nomatch e) (fun a o e => nomatch e) (fun env s₁ F => ?_)
  · (refine el1x1 (List.length_eq_one_iff.mp h3) ?_; intro v hZ; subst hZ)
    obtain ⟨_⟩ := fd; subst h1; subst h2; rfl
  · exact sc_ret F (den_cmpB (den_var (zm 0 rfl rfl)) (den_glob (gm 1 rfl) hE (.int _ _)) cmp_eqI) fun v s' P' F' l r => F'.ends r
theorem bind1 {ps : Arguments} {x : Str} (h : ∀ (fd : FuncData) (v : Value), fd.params = ps → fd.defaults = .none → bindArgs fd ⟨[v], []⟩ = pure [(x, v)]) : BindsP ps [x] := fun fd vs h1 h2 h3 => by
  (refine el1x1 (List.length_eq_one_iff.mp h3) ?_; intro v hZ; subst hZ)
  exact h fd v h1 h2
theorem bind2 {ps : Arguments} {x y : Str} (h : ∀ (fd : FuncData) (u v : Value), fd.params = ps → fd.defaults = .none → bindArgs fd ⟨[u, v], []⟩ = pure [(x, u), (y, v)]) : BindsP ps [x, y] := fun fd vs h1 h2 h3 => by
  (refine lcons h3 fun u r e h4 => ?_); subst e; (refine lcons h4 fun v r e h5 => ?_); subst e; have e := List.length_eq_zero_iff.mp h5; clear h5; subst e; exact h fd u v h1 h2
theorem con_isterm {a : Addr} {t : Tok} {i : Int} (D : Df G.K (pm 58) (bd 58) (sp 58) a) (hE : G.mg "NT_OFFSET" = some (.int 256 t)) : Con prog w G (n + 1) (.ref a) [.int i] (.bool (decide (i < 256))) := fun A P s vs ok le b rm rs => by
  refine enter (X := PMap.none) (names := ["x"]) (extra := []) D (bind1 fun fd v h1 h2 => ?_) (by decide +kernel) rfl rfl rfl rfl ok le b rm rs (fun a o e => nomatch e) (fun a o e => nomatch e) (fun env s₁ F => ?_)
  · obtain ⟨_⟩ := fd; subst h1; subst h2; rfl
  · exact sc_ret F (den_cmpB (den_var (zm 0 rfl rfl)) (den_glob (gm 1 rfl) hE (.int _ _)) cmp_ltI) fun v s' P' F' l r => F'.ends r
theorem con_isnon {a : Addr} {t : Tok} {i : Int} (D : Df G.K (pm 59) (bd 59) (sp 59) a) (hE : G.mg "NT_OFFSET" = some (.int 256 t)) : Con prog w G (n + 1) (.ref a) [.int i] (.bool (decide (i ≥ 256))) := fun A P s vs ok le b rm rs => by
  refine enter (X := PMap.none) (names := ["x"]) (extra := []) D (bind1 fun fd v h1 h2 => ?_) (by decide +kernel) rfl rfl rfl rfl ok le b rm rs (fun a o e => nomatch e) (fun a o e => nomatch e) (fun env s₁ F => ?_)
  · obtain ⟨_⟩ := fd; subst h1; subst h2; rfl
  · exact sc_ret F (den_cmpB (den_var (zm 0 rfl rfl)) (den_glob (gm 1 rfl) hE (.int _ _)) cmp_geI) fun v s' P' F' l r => F'.ends r
noncomputable def Gf (G : GC) (x : Str) (i : Nat) : Prop := ∃ a, G.mg x = some (.ref a) ∧ Df G.K (pm i) (bd i) (sp i) a
theorem Gf.den {sc : Scp} {σ : Sto} {x : Str} {i : Nat} {p pos : Pos} {es : List Expr} {ds : List PV} {r : PV} (h : Gf G x i) (hs : (x, NameKind.globalImplicit) ∈ sc) (da : Argd prog w G n sc σ es ds) (c : ∀ a, Df G.K (pm i) (bd i) (sp i) a → Con prog w G n (.ref a) ds r) (hd : (x == ("__debug__" : Str)) = false) :
    Den prog w G n sc σ (.Call (.Name x p) es [] pos) r := by
  (refine el1x2 h ?_; clear h; intro a hm D)
  have D' := D
  (refine el2x3 D' ?_; clear D'; intro o fd ho hfd _)
  exact den_call (den_glob hs hm (.raw _) hd) da (c a D) (.inr (.inr (in3x3 a o fd rfl ho hfd)))
noncomputable def Gb (G : GC) (x : Str) (v : Value) : Prop := G.mg x = none ∧ G.mb x = some v
theorem Gb.call {sc : Scp} {σ : Sto} {x : Str} {id : String} {p pos : Pos} {es : List Expr} {ds : List PV} {r : PV} (h : Gb G x (.builtin id)) (hs : (x, NameKind.globalImplicit) ∈ sc) (da : Argd prog w G n sc σ es ds) (c : Con prog w G n (.builtin id) ds r) (hd : (x == ("__debug__" : Str)) = false) :
    Den prog w G n sc σ (.Call (.Name x p) es [] pos) r := den_call (den_blt hs h.1 h.2 hd) da c (.inl ⟨_, rfl⟩)
theorem Gb.callT {sc : Scp} {σ : Sto} {x : Str} {T : String} {p pos : Pos} {es : List Expr} {ds : List PV} {r : PV} (h : Gb G x (.type T)) (hs : (x, NameKind.globalImplicit) ∈ sc) (da : Argd prog w G n sc σ es ds) (c : Con prog w G n (.type T) ds r) (hd : (x == ("__debug__" : Str)) = false) :
    Den prog w G n sc σ (.Call (.Name x p) es [] pos) r := den_call (den_blt hs h.1 h.2 hd) da c (.inr (.inl ⟨_, rfl⟩))
noncomputable def kindOf3 (i : Int) : Nat := if i == 0 then 0 else if i < 256 then 1 else 2
theorem con_kind {a : Addr} {t u : Tok} {i : Int} (D : Df G.K (pm 64) (bd 64) (sp 64) a) (h0 : 0 ≤ i) (hE : G.mg "ENDMARKER" = some (.int 0 t)) (hN : G.mg "NT_OFFSET" = some (.int 256 u)) (g1 : Gf G "ISEOF" 60) (g2 : Gf G "ISTERMINAL" 58) (g3 : Gf G "ISNONTERMINAL" 59)
    (b1 : Gb G "all" (.builtin "all")) (b2 : Gb G "isinstance" (.builtin "isinstance")) (b3 : Gb G "bool" (.type "bool")) : Con prog w G (n + 2) (.ref a) [.int i] (.int (kindOf3 i)) := fun A P s vs ok le b rm rs => by
  refine enter (X := PMap.none) (names := ["symbol"]) (extra := ["told"]) D (bind1 fun fd v h1 h2 => ?_) (by decide +kernel) rfl rfl rfl rfl ok le b rm rs (fun a o e => nomatch e) (fun a o e => nomatch e) (fun env s₁ F => ?_)
  · obtain ⟨_⟩ := fd; subst h1; subst h2; rfl
  · refine sc_assign F (den_list (dens_cons (g1.den (gm 2 rfl) (argd_cons (dens_cons (den_var (zm 0 rfl rfl)) dens_nil)) (fun a D => con_iseof D hE) (by decide +kernel)) (dens_cons (g2.den (gm 3 rfl) (argd_cons (dens_cons (den_var (zm 0 rfl rfl)) dens_nil)) (fun a D => con_isterm D hN) (by decide +kernel)) (dens_cons (g3.den (gm 4 rfl) (argd_cons (dens_cons (den_var (zm 0 rfl rfl)) dens_nil)) (fun a D => con_isnon D hN) (by decide +kernel)) dens_nil))) (by simp [sizeLine]))
      rfl (gm 1 rfl) (turned_zip F.nd (i := 1) rfl (.there .here)) (fun s₂ P₂ F l₂ => ?_)
    refine sc_skip F (dent_not (b := true) (dent_bool (b1.call (gm 5 rfl) (argd_cons (dens_cons (den_for1 PV.bool [i == 0, decide (i < 256), decide (i ≥ 256)] (fun _ => PV.bool true) [] (τ := []) (den_var (zm 1 rfl rfl)) its_list (.skip (by decide) (.skip (by decide) (.skip (by decide) (.skip (by decide) .nil))))
      (fun d _ => b2.call (gm 2 rfl) (argd_cons (dens_cons (den_var List.mem_cons_self) (dens_cons (den_blt (gm 3 rfl) b3.1 b3.2 (by decide +kernel)) dens_nil))) con_isBool (by decide +kernel)) (by simp [sizeLine]) rfl (by decide +kernel)) dens_nil)) (con_all (bs := [true, true, true])) (by decide +kernel)))) (fun s₃ P₃ F l₃ => ?_)
    have hz : ∀ x ∈ [[true, true, false], [false, true, false], [false, false, true]], PV.okk 1 (PV.list (x.map PV.bool)) := fun x _ => okk_listM fun _ _ => okk_bool
    have hq : ∀ x y : List Bool, (PV.list (x.map PV.bool)).eqv (.list (y.map PV.bool)) = (x == y) := fun x y => eqv_list fun _ _ _ _ => eqv_bool
    have hD : Con prog w G (n + 1) (.builtin "list.index") [.list ([[true, true, false], [false, true, false], [false, false, true]].map fun x => PV.list (x.map PV.bool)), .list ([i == 0, decide (i < 256), decide (i ≥ 256)].map PV.bool)] (.int (kindOf3 i)) := by
      refine con_index (fun x hx => ?_) ((okk_listM fun _ _ => okk_bool).okd (k := 1) (by exact lin [] [] (.L 1 (.N 1) (.N 64)) rfl)) (by unfold kindOf3; simp; split <;> (try split) <;> omega) ?_ ?_ (by simp)
      · (refine el1x2 (List.mem_map.mp hx) ?_; intro y hy hZ; subst hZ)
        exact (hz y hy).okd (by exact lin [] [] (.L 1 (.N 1) (.N 64)) rfl)
      · by_cases c1 : i = 0
        · subst c1; rfl
        · by_cases c2 : i < 256
          · have : kindOf3 i = 1 := by unfold kindOf3; simp [c1, c2]
            simp only [this]
            have : [i == 0, decide (i < 256), decide (i ≥ 256)] = [false, true, false] := by simp [c1, c2]
            rw [this]; rfl
          · have : kindOf3 i = 2 := by unfold kindOf3; simp [c1, c2]
            simp only [this]
            have : [i == 0, decide (i < 256), decide (i ≥ 256)] = [false, false, true] := by simp [c1, c2]; lia
            rw [this]; rfl
      · intro m hm hlt
        by_cases c1 : i = 0
        · subst c1; exact absurd hlt (by simp [kindOf3])
        · by_cases c2 : i < 256
          · have h1 : kindOf3 i = 1 := by unfold kindOf3; simp [c1, c2]
            have : [i == 0, decide (i < 256), decide (i ≥ 256)] = [false, true, false] := by simp [c1, c2]
            rw [this]
            obtain rfl : m = 0 := by exact Nat.le_antisymm (lin [_, _] [.T 1 (.V 0) (.V 1), .E 1 (.V 1) (.N 1)] (.L 1 (.V 0) (.N 0)) rfl hlt h1) (lin [_] [] (.L 1 (.N 0) (.V 0)) rfl)
            rfl
          · have h1 : kindOf3 i = 2 := by unfold kindOf3; simp [c1, c2]
            have : [i == 0, decide (i < 256), decide (i ≥ 256)] = [false, false, true] := by simp [c1, c2]; lia
            rw [this]
            obtain rfl | rfl : m = 0 ∨ m = 1 := by lia
            · rfl
            · rfl
    exact sc_ret F (den_method
      (den_list (dens_cons (den_list (dens_cons den_bool (dens_cons den_bool (dens_cons den_bool dens_nil))) (by simp [sizeLine])) (dens_cons (den_list (dens_cons den_bool (dens_cons den_bool (dens_cons den_bool dens_nil))) (by simp [sizeLine])) (dens_cons (den_list (dens_cons den_bool (dens_cons den_bool (dens_cons den_bool dens_nil))) (by simp [sizeLine])) dens_nil))) (by simp [sizeLine]))
      (meth_list PySem.F.slot_list_index PySem.F.type_list_index) (argd_cons (dens_cons (den_var (zm 1 rfl rfl)) dens_nil)) hD) fun v s' P' F' l r => F'.ends r
noncomputable def digits (b size k : Nat) : List Nat := (List.range size).map fun i => k / b ^ i % b
noncomputable def tally (b : Nat) (r : List Nat) : List Nat := (List.range b).map fun x => r.count x
noncomputable def rowsOf (b : Nat) (fs : List Nat) : List (List Nat) := ((List.range (b ^ fs.length)).map (digits b fs.length)).filter fun r => tally b r == tally b fs
theorem con_rows {a : Addr} {b : Nat} {fs : List Nat} (D : Df G.K (pm 65) (bd 65) (sp 65) a) (hb : 0 < b) (hb' : b ≤ 3) (hf : fs.length ≤ 6) (hp : b ^ fs.length ≤ 1000) (b1 : Gb G "range" (.type "range")) (b2 : Gb G "len" (.builtin "len")) :
    Con prog w G (n + 1) (.ref a) [rowV fs, iN b] (.list ((rowsOf b fs).map rowV)) := fun A P s vs ok le bb rm rs => by
  have hsz : (1000 : Nat) ≤ sizeLine := by unfold sizeLine; exact lin [] [] (.L 1 (.N 1000) (.N 16777216)) rfl
  refine enter (X := PMap.none) (names := ["first", "base"]) (extra := ["counts", "size", "rows"]) D (bind2 fun fd u v h1 h2 => ?_) (by decide +kernel) rfl rfl rfl rfl ok le bb rm rs (fun a o e => nomatch e) (fun a o e => nomatch e) (fun env s₁ F => ?_)
  · obtain ⟨_⟩ := fd; subst h1; subst h2; rfl
  · refine sc_names (ys := ["counts", "size"]) F (den_tuple (dens2 (den_for1 iN (List.range b) (fun x => iN (fs.count x)) ["first"] (b1.callT (gm 5 rfl) (argd1 (den_var (zm 1 rfl rfl))) con_rangeN (by decide +kernel)) (its_range (by exact lin [_] [.L 1 (.V 0) (.N 3)] (.T 1 (.V 0) (.N 2147483648)) rfl hb')) (.skip (by decide) (.skip (by decide) (.free (zm 0 rfl rfl) (.inl (gm 0 rfl)) .nil)))
        (fun d hd => den_method (den_var (gm 1 rfl)) (meth_list PySem.F.slot_list_count PySem.F.type_list_count) (argd1 (den_var (gm 0 rfl))) con_countN) (by simp; exact lin [_, _] [.L 1 (.V 0) (.N 3), .L 1 (.N 1000) (.V 1)] (.L 1 (.V 0) (.V 1)) rfl hb' hsz) rfl (by decide +kernel)) (b2.call (gm 6 rfl) (argd1 (den_var (zm 0 rfl rfl))) (con_lenM (by exact lin [_] [.L 1 (.V 0) (.N 6)] (.T 1 (.V 0) (.N 4611686018427387904)) rfl hf)) (by decide +kernel))) (by simp [sizeLine]))
      (.cons (by decide +kernel) (turned_zip F.nd (i := 2) rfl (.there (.there .here))) (.cons (by decide +kernel) (turned_zip F.nd (i := 3) rfl (.there (.there (.there .here)))) .nil)) (by decide +kernel) rfl (swp2 F (gm 2 rfl) (gm 3 rfl) rfl) (fun s₂ P₂ F l₂ => ?_)
    have hpow : ∀ i, i ∈ List.range fs.length → b ^ i < 1073741824 := fun i hi => by
      have h1 : i ≤ 6 := by have := List.mem_range.mp hi; exact lin [_, _] [.L 1 (.V 0) (.N 6), .T 1 (.V 1) (.V 0)] (.L 1 (.V 1) (.N 6)) rfl hf this
      exact Nat.lt_of_le_of_lt (Nat.pow_le_pow_left hb' i) (Nat.lt_of_le_of_lt (Nat.pow_le_pow_right (by exact lin [] [] (.T 1 (.N 0) (.N 3)) rfl) h1) (by decide))
    refine sc_assign_for1 iN (List.range (b ^ fs.length)) (fun k => rowV (digits b fs.length k)) ["base", "size"] F (b1.callT (gm 5 rfl) (argd1 (den_powN (den_var (zm 1 rfl rfl)) (den_var (zm 3 rfl rfl)) (by exact lin [_] [.L 1 (.V 0) (.N 3)] (.T 1 (.V 0) (.N 18446744073709551616)) rfl hb') (by exact lin [_] [.L 1 (.V 0) (.N 6)] (.L 1 (.V 0) (.N 1000000)) rfl hf))) con_rangeN (by decide +kernel)) (its_range (by exact lin [_] [.L 1 (.V 0) (.N 1000)] (.T 1 (.V 0) (.N 2147483648)) rfl hp)) (.skip (by decide) (.skip (by decide) (.skip (by decide) (.free (zm 1 rfl rfl) (.inl (gm 1 rfl)) (.free (zm 3 rfl rfl) (.inl (gm 3 rfl)) .nil)))))
      (fun k hk => den_as (by unfold rowV digits; rw [List.map_map]; rfl) (den_for1 iN (List.range fs.length) (fun i => iN (k / b ^ i % b)) ["base", "number"] (b1.callT (gm 2 rfl) (argd1 (den_var (gm 2 rfl))) con_rangeN (by decide +kernel)) (its_range (by exact lin [_] [.L 1 (.V 0) (.N 6)] (.T 1 (.V 0) (.N 2147483648)) rfl hf)) (.skip (by decide) (.skip (by decide) (.free (gm 1 rfl) (.inr (gm 3 rfl)) (.free (gm 0 rfl) (.inl (gm 1 rfl)) .nil))))
        (fun i hi => den_modN (den_divN (den_var (gm 2 rfl)) (den_powN (den_var (gm 1 rfl)) (den_var (gm 0 rfl)) (by exact lin [_] [.L 1 (.V 0) (.N 3)] (.T 1 (.V 0) (.N 18446744073709551616)) rfl hb') (by have := List.mem_range.mp hi; exact lin [_, _] [.L 1 (.V 0) (.N 6), .T 1 (.V 1) (.V 0)] (.L 1 (.V 1) (.N 1000000)) rfl hf this)) (Nat.pow_pos hb) (hpow i hi)) (den_var (gm 1 rfl)) hb) (by simp; exact lin [_, _] [.L 1 (.V 0) (.N 6), .L 1 (.N 1000) (.V 1)] (.L 1 (.V 0) (.V 1)) rfl hf hsz) rfl (by decide +kernel))) (by simp; exact lin [_, _] [.L 1 (.V 0) (.N 1000), .L 1 (.N 1000) (.V 1)] (.L 1 (.V 0) (.V 1)) rfl hp hsz) rfl (by decide +kernel) (gm 4 rfl) (gm 4 rfl) (by decide +kernel) (turned_zip F.nd (i := 4) rfl (.there (.there (.there (.there .here))))) (fun s₃ P₃ F l₃ => ?_)
    refine sc_ret F (den_as (by unfold rowsOf; rw [List.filter_map, List.map_map]; rfl) (den_if1 (fun k => rowV (digits b fs.length k)) (List.range (b ^ fs.length)) (fun k => tally b (digits b fs.length k) == tally b fs) (fun k => rowV (digits b fs.length k)) ["base", "counts"] (den_var (zm 4 rfl rfl)) its_list (.skip (by decide) (.skip (by decide) (.skip (by decide) (.free (zm 1 rfl rfl) (.inl (gm 1 rfl)) (.free (zm 2 rfl rfl) (.inl (gm 2 rfl)) .nil)))))
      (fun k hk => .inr (in1x2 _ rfl (dent_cmp (den_for1 iN (List.range b) (fun x => iN ((digits b fs.length k).count x)) ["row"] (b1.callT (gm 2 rfl) (argd1 (den_var (gm 1 rfl))) con_rangeN (by decide +kernel)) (its_range (by exact lin [_] [.L 1 (.V 0) (.N 3)] (.T 1 (.V 0) (.N 2147483648)) rfl hb')) (.skip (by decide) (.skip (by decide) (.free (gm 0 rfl) (.inl (gm 1 rfl)) .nil)))
        (fun x hx => den_method (den_var (gm 1 rfl)) (meth_list PySem.F.slot_list_count PySem.F.type_list_count) (argd1 (den_var (gm 0 rfl))) con_countN) (by simp; exact lin [_, _] [.L 1 (.V 0) (.N 3), .L 1 (.N 1000) (.V 1)] (.L 1 (.V 0) (.V 1)) rfl hb' hsz) rfl (by decide +kernel)) (den_var (gm 2 rfl)) ?_))) (fun k hk _ => (den_var (gm 0 rfl))) (by simp; exact lin [_, _] [.L 1 (.V 0) (.N 1000), .L 1 (.N 1000) (.V 1)] (.L 1 (.V 0) (.V 1)) rfl hp hsz) rfl (by decide +kernel))) fun v s' P' F' l r => F'.ends r
    have := cmp_eqM (prog := prog) (w := w) (enc := iN) (k := 0) (l := tally b (digits b fs.length k)) (m := tally b fs) (by exact lin [] [] (.L 1 (.N 0) (.N 63)) rfl) (fun _ _ => okk_iN) (fun _ _ => okk_iN) fun _ _ _ _ => eqv_iN
    unfold tally at this
    rw [List.map_map, List.map_map] at this
    exact this
end
section
variable {prog : Program} {w : World} {G : GC} {n : Nat}
noncomputable def sgn (S : List (List Int)) (a b : Nat) : Int := ((S[a]?).bind (·[b]?)).getD 0
noncomputable def signsV (S : List (List Int)) : PV := .list (S.map fun r => .list (r.map .int))
noncomputable def pairV (p : Nat × Nat) : PV := .tuple [iN p.1, iN p.2]
noncomputable def fallsOf (S : List (List Int)) (row : List Nat) : List (Nat × Nat) :=
  (List.range row.length).flatMap fun j => ((List.range j).filter fun i => sgn S (row.getD i 0) (row.getD j 0) == 1).map fun i => (i, j)
noncomputable def fallN (S : List (List Int)) (row : List Nat) : Nat := (fallsOf S row).length
noncomputable def majN (S : List (List Int)) (row : List Nat) : Nat := (((fallsOf S row).filter fun p => p.1 + 1 == p.2).map (·.2)).sum
theorem con_falls {a : Addr} {b : Nat} {S : List (List Int)} {row : List Nat} (D : Df G.K (pm 66) (bd 66) (sp 66) a) (hS : S.length = b) (hS' : ∀ r ∈ S, r.length = b) (hr : ∀ x ∈ row, x < b) (hb : b ≤ 3) (hlen : row.length ≤ 6)
    (b1 : Gb G "range" (.type "range")) (b2 : Gb G "len" (.builtin "len")) (b3 : Gb G "sum" (.builtin "sum")) :
    Con prog w G (n + 1) (.ref a) [rowV row, signsV S] (.tuple [iN (fallN S row), iN (majN S row)]) := fun A P s vs ok le bb rm rs => by
  have hsz : (1000 : Nat) ≤ sizeLine := by unfold sizeLine; exact lin [] [] (.L 1 (.N 1000) (.N 16777216)) rfl
  have hfl : (fallsOf S row).length ≤ 36 := by
    have := flatMap_len (fun j => ((List.range j).filter fun i => sgn S (row.getD i 0) (row.getD j 0) == 1).map fun i => (i, j)) 6 (List.range row.length) fun j hj => by
      rw [List.length_map]; refine Nat.le_trans (List.length_filter_le _ _) ?_
      have := List.mem_range.mp hj; simp; exact lin [_, _] [.L 1 (.V 0) (.N 6), .T 1 (.V 1) (.V 0)] (.L 1 (.V 1) (.N 6)) rfl hlen this
    rw [List.length_range] at this
    unfold fallsOf
    have : row.length * 6 ≤ 36 := by exact lin [_] [.L 6 (.V 0) (.N 6)] (.L 1 (.R (.V 0) 6) (.N 36)) rfl hlen
    lia
  have hrow : ∀ i, i < row.length → row[i]? = some (row.getD i 0) ∧ row.getD i 0 < b := fun i hi => by
    have e : row[i]? = some row[i] := List.getElem?_eq_getElem hi
    refine ⟨by rw [List.getD_eq_getElem?_getD, e]; rfl, ?_⟩
    rw [List.getD_eq_getElem?_getD, e]; exact hr _ (List.getElem_mem hi)
  have hrowV : ∀ i, i < row.length → (row.map iN)[i]? = some (iN (row.getD i 0)) := fun i hi => by rw [List.getElem?_map, (hrow i hi).1]; rfl
  refine enter (X := PMap.none) (names := ["row", "signs"]) (extra := ["pairs"]) D (bind2 fun fd u v h1 h2 => ?_) (by decide +kernel) rfl rfl rfl rfl ok le bb rm rs (fun a o e => nomatch e) (fun a o e => nomatch e) (fun env s₁ F => ?_)
  · obtain ⟨_⟩ := fd; subst h1; subst h2; rfl
  · refine sc_assign_for2 iN (List.range row.length) iN (fun j => List.range j) (fun j i => sgn S (row.getD i 0) (row.getD j 0) == 1) (fun j i => pairV (i, j)) 6 ["row", "signs"] F (b1.callT (gm 3 rfl) (argd1 (b2.call (gm 4 rfl) (argd1 (den_var (zm 0 rfl rfl))) (con_lenM (by exact lin [_] [.L 1 (.V 0) (.N 6)] (.T 1 (.V 0) (.N 4611686018427387904)) rfl hlen)) (by decide +kernel))) con_rangeN (by decide +kernel)) (its_range (by exact lin [_] [.L 1 (.V 0) (.N 6)] (.T 1 (.V 0) (.N 2147483648)) rfl hlen)) (.skip (by decide) (.skip (by decide) (.skip (by decide) (.skip (by decide) (.free (zm 0 rfl rfl) (.inl (gm 0 rfl)) (.free (zm 1 rfl rfl) (.inl (gm 1 rfl)) .nil))))))
      (fun j hj => b1.callT (gm 3 rfl) (argd1 (den_var (gm 0 rfl))) con_rangeN (by decide +kernel)) (fun j hj => its_range (by have := List.mem_range.mp hj; exact lin [_, _] [.L 1 (.V 0) (.N 6), .T 1 (.V 1) (.V 0)] (.T 1 (.V 1) (.N 2147483648)) rfl hlen this)) (fun j hj i hi => ?_) (fun j hj i hi _ => den_tuple (dens2 (den_var (gm 0 rfl)) (den_var (gm 1 rfl))) (by simp; exact lin [_] [.L 1 (.N 1000) (.V 0)] (.L 1 (.N 2) (.V 0)) rfl hsz)) (fun j hj => by have := List.mem_range.mp hj; simp; exact lin [_, _] [.L 1 (.V 0) (.N 6), .T 1 (.V 1) (.V 0)] (.L 1 (.V 1) (.N 6)) rfl hlen this) (by simp; exact lin [_, _] [.L 6 (.V 0) (.N 6), .L 1 (.N 1000) (.V 1)] (.L 1 (.R (.A (.V 0) (.N 1)) 6) (.V 1)) rfl hlen hsz) rfl (by decide +kernel) (by decide +kernel) (gm 2 rfl) (gm 2 rfl) (by decide +kernel) (turned_zip F.nd (i := 2) rfl (.there (.there .here))) (fun s₂ P₂ F l₂ => ?_)
    · have hj' := List.mem_range.mp hj
      have hi' := List.mem_range.mp hi
      have hii : i < row.length := by exact lin [_, _, _] [.T 1 (.V 0) (.V 1), .T 1 (.V 2) (.V 0)] (.T 1 (.V 2) (.V 1)) rfl hj' hi'
      (refine el0x2 (hrow i hii) ?_; intro e1 l1)
      (refine el0x2 (hrow j hj') ?_; intro e2 l2)
      have es : S[row.getD i 0]? = some S[row.getD i 0] := List.getElem?_eq_getElem (by exact lin [_, _, _] [.Q 1 (.V 0) (.V 1), .T 1 (.V 2) (.V 1)] (.T 1 (.V 2) (.V 0)) rfl hS l1)
      have ls : (S[row.getD i 0]).length = b := hS' _ (List.getElem_mem _)
      have et : (S[row.getD i 0])[row.getD j 0]? = some (S[row.getD i 0])[row.getD j 0] := List.getElem?_eq_getElem (by exact lin [_, _, _] [.T 1 (.V 0) (.V 1), .Q 1 (.V 2) (.V 1)] (.T 1 (.V 0) (.V 2)) rfl l2 ls)
      have ev : sgn S (row.getD i 0) (row.getD j 0) = (S[row.getD i 0])[row.getD j 0] := by unfold sgn; rw [es]; simp only [Option.bind_some]; rw [et]; rfl
      rw [ev]
      exact .inr (in1x2 _ rfl (dent_cmp (den_itemN (den_itemN (den_var (gm 3 rfl)) (den_itemN (den_var (gm 2 rfl)) (den_var (gm 0 rfl)) (by exact lin [_, _] [.L 1 (.V 0) (.N 6), .T 1 (.V 1) (.V 0)] (.T 1 (.V 1) (.N 9223372036854775808)) rfl hlen hii) (hrowV i hii)) (by exact lin [_, _] [.L 1 (.V 0) (.N 3), .T 1 (.V 1) (.V 0)] (.T 1 (.V 1) (.N 9223372036854775808)) rfl hb l1) (by rw [List.getElem?_map, es]; rfl)) (den_itemN (den_var (gm 2 rfl)) (den_var (gm 1 rfl)) (by exact lin [_, _] [.L 1 (.V 0) (.N 6), .T 1 (.V 1) (.V 0)] (.T 1 (.V 1) (.N 9223372036854775808)) rfl hlen hj') (hrowV j hj')) (by exact lin [_, _] [.L 1 (.V 0) (.N 3), .T 1 (.V 1) (.V 0)] (.T 1 (.V 1) (.N 9223372036854775808)) rfl hb l2) (by rw [List.getElem?_map, et]; rfl)) den_int cmp_eqI))
    · have hd : (List.range row.length).flatMap (fun d => ((List.range d).filter (fun i => sgn S (row.getD i 0) (row.getD d 0) == 1)).map fun i => pairV (i, d)) = (fallsOf S row).map pairV := by
        unfold fallsOf; rw [List.map_flatMap]; congr 1; funext j; rw [List.map_map]; rfl
      rw [hd] at F
      refine sc_ret F (den_tuple (dens2 (b2.call (gm 4 rfl) (argd1 (den_var (zm 2 rfl rfl))) (con_lenM (by exact lin [_] [.L 1 (.V 0) (.N 36)] (.T 1 (.V 0) (.N 4611686018427387904)) rfl hfl)) (by decide +kernel)) (b3.call (gm 5 rfl) (argd1 (den_as ?_ (den_compG (enc := pairV) (l := fallsOf S row) (p := fun p => p.1 + 1 == p.2) (g := fun p => iN p.2) (xs := ["i", "j"]) (σt := fun p => [("j", some (iN p.2)), ("i", some (iN p.1))]) (den_var (zm 2 rfl rfl)) its_list (by decide +kernel) rfl (.skip (by decide) (.skip (by decide) (.skip (by decide) .nil))) (by decide +kernel)
        (fun p hp => asg_names (.cons (by decide +kernel) (turned_pushN [] rfl (by decide +kernel)) (.cons (by decide +kernel) (turned_pushN ["i"] rfl (by decide +kernel)) .nil)) (by decide +kernel)) (fun p q hq => nomatch hq) (fun p hp => .inr (in1x2 _ rfl (dent_cmp (den_addN (den_var (gm 1 rfl)) den_nat) (den_var (gm 0 rfl)) ?_))) (fun p hp _ => (den_var (gm 0 rfl))) (by exact lin [_, _] [.L 1 (.N 1000) (.V 0), .L 1 (.V 1) (.N 36)] (.L 1 (.V 1) (.V 0)) rfl hsz hfl)))) con_sumN (by decide +kernel))) (by simp; exact lin [_] [.L 1 (.N 1000) (.V 0)] (.L 1 (.N 2) (.V 0)) rfl hsz)) fun v s' P' F' l r => F'.ends r
      · rw [List.map_map]; rfl
      · exact cmp_eqN
end
noncomputable def styleAt (cell i : Nat) : Nat := cell / 20 ^ (i % 5) % 20
noncomputable def quotedAt (t : Nat) : Bool := t % 2 == 1
noncomputable def fullAt (t : Nat) : Bool := t / 2 % 2 == 1
noncomputable def needOf (t : Nat) : List Nat := if quotedAt t then [34, 92] else [92, 32, 9, 10, 13]
noncomputable def markOf (t : Nat) : List Nat := if quotedAt t then [34] else []
noncomputable def gapOf (t : Nat) : List Nat := [[32], [9], [10], [13], if quotedAt t then [] else [10, 32]].getD (t / 4) []
noncomputable def escOf (t c : Nat) : List Nat := if fullAt t || (needOf t).contains c then [92, c] else [c]
noncomputable def pieceOf (t : Nat) (w : List Nat) : List Nat := markOf t ++ (w.map (escOf t)).flatten ++ markOf t ++ gapOf t
noncomputable def textTo (words : List (List Nat)) (cell j : Nat) : List Nat := (List.range j).flatMap fun i => pieceOf (styleAt cell i) (words.getD i [])
theorem piece_len (t : Nat) (w : List Nat) (h : w.length ≤ 8) : (pieceOf t w).length ≤ 24 := by
  have h1 : (markOf t).length ≤ 1 := by unfold markOf; split <;> simp
  have h2 : (gapOf t).length ≤ 2 := by
    unfold gapOf
    rcases t / 4 with _ | _ | _ | _ | _ | k <;> simp <;> (try split) <;> simp
  have h3 : ((w.map (escOf t)).flatten).length ≤ w.length * 2 := by
    have := flatMap_len (escOf t) 2 w fun c _ => by unfold escOf; split <;> simp
    rwa [List.flatMap_def] at this
  unfold pieceOf
  simp only [List.length_append]; exact lin [_, _, _, _] [.L 2 (.V 0) (.N 8), .L 2 (.V 1) (.N 1), .L 1 (.V 2) (.N 2), .L 1 (.V 3) (.R (.V 0) 2)] (.L 1 (.A (.A (.A (.V 1) (.V 3)) (.V 1)) (.V 2)) (.N 24)) rfl h h1 h2 h3
theorem textTo_succ (words : List (List Nat)) (cell j : Nat) : textTo words cell (j + 1) = textTo words cell j ++ pieceOf (styleAt cell j) (words.getD j []) := by
  unfold textTo; rw [List.range_succ, List.flatMap_append]; simp
theorem textTo_len (words : List (List Nat)) (cell j : Nat) (h : ∀ w ∈ words, w.length ≤ 8) : (textTo words cell j).length ≤ j * 24 := by
  have := flatMap_len (fun i => pieceOf (styleAt cell i) (words.getD i [])) 24 (List.range j) fun i _ => piece_len _ _ (by
    rw [List.getD_eq_getElem?_getD]
    cases q : words[i]? with
    | none => simp
    | some v => exact h _ (List.mem_of_getElem? q))
  simpa [textTo] using this
section
variable {prog : Program} {w : World} {G : GC} {n : Nat}
theorem con_text {a : Addr} {words : List (List Nat)} {cell : Nat} (D : Df G.K (pm 62) (bd 62) (sp 62) a) (hw : ∀ v ∈ words, v.length ≤ 8) (hl : words.length ≤ 20)
    (b1 : Gb G "range" (.type "range")) (b2 : Gb G "len" (.builtin "len")) :
    Con prog w G (n + 1) (.ref a) [.list (words.map sV), iN cell] (sV (textTo words cell words.length).dropLast) := fun A P s vs ok le bb rm rs => by
  have hsz : (1000 : Nat) ≤ sizeLine := by unfold sizeLine; exact lin [] [] (.L 1 (.N 1000) (.N 16777216)) rfl
  refine enter (X := PMap.none) (names := ["words", "cell"]) (extra := ["text", "i", "style", "quoted", "full", "need", "mark", "gap"]) D (bind2 fun fd u v h1 h2 => ?_) (by decide +kernel) rfl rfl rfl rfl ok le bb rm rs (fun a o e => nomatch e) (fun a o e => nomatch e) (fun env s₁ F => ?_)
  · obtain ⟨_⟩ := fd; subst h1; subst h2; rfl
  · refine sc_assign F (den_txt [] (by decide +kernel)) rfl (gm 2 rfl) (turned_zip F.nd (i := 2) rfl (.there (.there .here))) (fun s₂ P₂ F l₂ => ?_)
    refine sc_for iN (List.range words.length) (fun j => ((["words", "cell"] : List Str) ++ (["text", "i", "style", "quoted", "full", "need", "mark", "gap"] : List Str)).zip [some (.list (words.map sV)), some (iN cell), some (sV (textTo words cell j)), none, none, none, none, none, none, none])
      (fun j => ((["words", "cell"] : List Str) ++ (["text", "i", "style", "quoted", "full", "need", "mark", "gap"] : List Str)).zip [some (.list (words.map sV)), some (iN cell), some (sV (textTo words cell j)), some (iN j), none, none, none, none, none, none]) (fun _ _ _ _ => True) (fun _ _ _ _ => False)
      F (b1.callT (gm 10 rfl) (argd1 (b2.call (gm 11 rfl) (argd1 (den_var (zm 0 rfl rfl))) (con_lenM (by exact lin [_] [.L 1 (.V 0) (.N 20)] (.T 1 (.V 0) (.N 4611686018427387904)) rfl hl)) (by decide +kernel))) con_rangeN (by decide +kernel)) (its_range (by exact lin [_] [.L 1 (.V 0) (.N 20)] (.T 1 (.V 0) (.N 2147483648)) rfl hl)) (fun _ _ _ _ _ _ _ => trivial) trivial (fun j i hj => ?_) (fun j i hj W' V' s₁ P₁ M X P s F _ => ?_) (fun M' X' P' s' F _ l => ?_) (fun _ _ _ _ _ _ h => h.elim)
    · have : i = j := by rw [List.getElem?_range (by have := (List.getElem?_eq_some_iff.mp hj).1; simpa using this)] at hj; exact (Option.some.inj hj).symm
      subst this
      exact .mk fun A P env s v Q C ho r hQ => (asg_name (by decide +kernel) (turned_zip F.nd (i := 3) rfl (.there (.there (.there .here))))).run A P env s v Q C (fun x hx => ho x (by simp at hx; subst hx; exact (gm 3 rfl))) r fun h' tk P' C' k => hQ h' tk P' C' (k.mono (fun z hz => by simp at hz; subst hz; exact (gm 3 rfl)))
    · have hi : i = j := by rw [List.getElem?_range (by have := (List.getElem?_eq_some_iff.mp hj).1; simpa using this)] at hj; exact (Option.some.inj hj).symm
      have hjl : j < words.length := by have := (List.getElem?_eq_some_iff.mp hj).1; simpa using this
      subst hi
      have hpow : 20 ^ (i % 5) < 1073741824 := Nat.lt_of_le_of_lt (Nat.pow_le_pow_right (by exact lin [] [] (.T 1 (.N 0) (.N 20)) rfl) (show i % 5 ≤ 4 by lia)) (by decide)
      have hst : styleAt cell i < 20 := Nat.mod_lt _ (by exact lin [] [] (.T 1 (.N 0) (.N 20)) rfl)
      have hwd : (words.map sV)[i]? = some (sV (words.getD i [])) := by
        rw [List.getElem?_map, List.getD_eq_getElem?_getD, List.getElem?_eq_getElem hjl]; rfl
      have hwl : (words.getD i []).length ≤ 8 := by
        rw [List.getD_eq_getElem?_getD, List.getElem?_eq_getElem hjl]; exact hw _ (List.getElem_mem hjl)
      refine sc_assign F (pv := iN (styleAt cell i)) (den_modN (den_divN (den_var (zm 1 rfl rfl)) (den_powN (den_k 20) (den_modN (den_var (zm 3 rfl rfl)) (den_k 5) (by exact lin [] [] (.T 1 (.N 0) (.N 5)) rfl)) (by exact lin [] [] (.T 1 (.N 20) (.N 18446744073709551616)) rfl) (by lia)) (Nat.pow_pos (by exact lin [] [] (.T 1 (.N 0) (.N 20)) rfl)) hpow) (den_k 20) (by exact lin [] [] (.T 1 (.N 0) (.N 20)) rfl)) rfl (gm 4 rfl) (turned_zip F.nd (i := 4) rfl (.there (.there (.there (.there .here))))) (fun s₂ P₂ F l₂ => ?_)
      refine sc_names (ys := ["quoted", "full"]) F (ds := [.bool (quotedAt (styleAt cell i)), .bool (fullAt (styleAt cell i))]) (den_tuple (dens2 (den_cmpB (den_modN (den_var (zm 4 rfl rfl)) (den_k 2) (by exact lin [] [] (.T 1 (.N 0) (.N 2)) rfl)) (den_k 1) cmp_eqN) (den_cmpB (den_modN (den_divN (den_var (zm 4 rfl rfl)) (den_k 2) (by exact lin [] [] (.T 1 (.N 0) (.N 2)) rfl) (by exact lin [] [] (.T 1 (.N 2) (.N 1073741824)) rfl)) (den_k 2) (by exact lin [] [] (.T 1 (.N 0) (.N 2)) rfl)) (den_k 1) cmp_eqN)) (by simp; exact lin [_] [.L 1 (.N 1000) (.V 0)] (.L 1 (.N 2) (.V 0)) rfl hsz))
        (.cons (by decide +kernel) (turned_zip F.nd (i := 5) rfl (.there (.there (.there (.there (.there .here)))))) (.cons (by decide +kernel) (turned_zip F.nd (i := 6) rfl (.there (.there (.there (.there (.there (.there .here))))))) .nil)) (by decide +kernel) rfl (swp2 F (gm 5 rfl) (gm 6 rfl) rfl) (fun s₃ P₃ F l₃ => ?_)
      refine sc_assign F (pv := sV (needOf (styleAt cell i))) (den_if (dent_bool (den_var (zm 5 rfl rfl))) (fun h => den_as (by unfold needOf; rw [h]; rfl) (den_txt [34, 92] (by decide +kernel))) (fun h => den_as (by unfold needOf; rw [h]; rfl) (den_txt [92, 32, 9, 10, 13] (by decide +kernel)))) rfl (gm 7 rfl) (turned_zip F.nd (i := 7) rfl (.there (.there (.there (.there (.there (.there (.there .here)))))))) (fun s₄ P₄ F l₄ => ?_)
      refine sc_names_swap (names := ["mark", "gap"]) F (ds := [sV (markOf (styleAt cell i)), sV (gapOf (styleAt cell i))]) (den_tuple (dens2 (den_if (dent_bool (den_var (zm 5 rfl rfl))) (fun h => den_as (by unfold markOf; rw [h]; rfl) (den_txt [34] (by decide +kernel))) (fun h => den_as (by unfold markOf; rw [h]; rfl) (den_txt [] (by decide +kernel))))
        (den_itemTN (l := [sV [32], sV [9], sV [10], sV [13], sV (if quotedAt (styleAt cell i) then [] else [10, 32])]) (den_tuple (dens_cons (den_txt [32] (by decide +kernel)) (dens_cons (den_txt [9] (by decide +kernel)) (dens_cons (den_txt [10] (by decide +kernel)) (dens_cons (den_txt [13] (by decide +kernel)) (dens_cons (den_if (dent_bool (den_var (zm 5 rfl rfl))) (fun h => den_as (by rw [h]; rfl) (den_txt [] (by decide +kernel))) (fun h => den_as (by rw [h]; rfl) (den_txt [10, 32] (by decide +kernel)))) dens_nil))))) (by simp; exact lin [_] [.L 1 (.N 1000) (.V 0)] (.L 1 (.N 5) (.V 0)) rfl hsz))
          (den_divN (den_var (zm 4 rfl rfl)) (den_k 4) (by exact lin [] [] (.T 1 (.N 0) (.N 4)) rfl) (by exact lin [] [] (.T 1 (.N 4) (.N 1073741824)) rfl)) (by lia) ?_)) (by simp; exact lin [_] [.L 1 (.N 1000) (.V 0)] (.L 1 (.N 2) (.V 0)) rfl hsz)) rfl (swap2 (gm 8 rfl) (gm 9 rfl) (turned_zip F.nd (i := 9) rfl (.there (.there (.there (.there (.there (.there (.there (.there (.there .here)))))))))) (turned_zip F.nd (i := 8) rfl (.there (.there (.there (.there (.there (.there (.there (.there .here)))))))))) rfl
        (swp2 F (gm 8 rfl) (gm 9 rfl) rfl) (fun s₅ P₅ F l₅ => ?_)
      · unfold gapOf
        have : styleAt cell i / 4 < 5 := by lia
        generalize styleAt cell i / 4 = q at this
        rcases q with _ | _ | _ | _ | _ | q <;> first | rfl | lia
      · have hel := fun c => (show (escOf (styleAt cell i) c).length ≤ 2 by unfold escOf; split <;> simp)
        have hjl : (((words.getD i []).map (escOf (styleAt cell i))).map (·.length)).sum ≤ 16 := by
          have := flatMap_len (escOf (styleAt cell i)) 2 (words.getD i []) fun c _ => hel c
          rw [List.flatMap_def, List.length_flatten] at this
          change (List.map List.length _).sum ≤ 16
          exact lin [_, _] [.L 2 (.V 0) (.N 8), .L 1 (.V 1) (.R (.V 0) 2)] (.L 1 (.V 1) (.N 16)) rfl hwl this
        have hjf : (((words.getD i []).map (escOf (styleAt cell i))).flatten).length ≤ 16 := by rw [List.length_flatten]; exact hjl
        have hml : (markOf (styleAt cell i)).length ≤ 1 := by unfold markOf; split <;> simp
        have hpl := piece_len (styleAt cell i) (words.getD i []) hwl
        have htl := textTo_len words cell i hw
        have hgl : (gapOf (styleAt cell i)).length ≤ 24 := by unfold pieceOf at hpl; simp only [List.length_append] at hpl; exact lin [_, _, _] [.L 1 (.A (.A (.A (.V 0) (.V 1)) (.V 0)) (.V 2)) (.N 24)] (.L 1 (.V 2) (.N 24)) rfl hpl
        refine sc_aug F (zm 2 rfl rfl) (den_addT (den_addT (den_addT (den_var (zm 8 rfl rfl)) (den_method (den_txt [] (by decide +kernel)) meth_join (argd1 (den_as (by rw [List.map_map]; rfl) (den_for1 (fun c => sV [c]) (words.getD i []) (fun c => sV (escOf (styleAt cell i) c)) ["full", "need"] (den_itemN (den_var (zm 0 rfl rfl)) (den_var (zm 3 rfl rfl)) (by lia) hwd) its_txt (.skip (by decide) (.skip (by decide) (.free (zm 6 rfl rfl) (.inl (gm 6 rfl)) (.free (zm 7 rfl rfl) (.inl (gm 7 rfl)) .nil))))
          (fun c hc => den_if (dent_or (dent_bool (den_var (gm 1 rfl))) (fun _ => dent_cmp (den_var (gm 0 rfl)) (den_var (gm 2 rfl)) cmp_inT)) (fun h => den_as (by unfold escOf; rw [h]; rfl) (den_addT (den_txt [92] (by decide +kernel)) (den_var (gm 0 rfl)) (by simp; exact lin [_] [.L 1 (.N 1000) (.V 0)] (.L 1 (.N 2) (.V 0)) rfl hsz))) (fun h => den_as (by unfold escOf; rw [h]; rfl) (den_var (gm 0 rfl)))) (by exact lin [_, _] [.L 1 (.N 1000) (.V 0), .L 1 (.V 1) (.N 8)] (.L 1 (.V 1) (.V 0)) rfl hsz hwl) rfl (by decide +kernel)))) (con_joinT (ys := (words.getD i []).map (escOf (styleAt cell i))) (by exact lin [_] [.L 1 (.V 0) (.N 16)] (.L 1 (.V 0) (.N 16777216)) rfl hjl))) (by exact lin [_, _, _] [.L 1 (.N 1000) (.V 0), .L 1 (.V 1) (.N 16), .L 1 (.V 2) (.N 1)] (.L 1 (.A (.V 2) (.V 1)) (.V 0)) rfl hsz hjf hml)) (den_var (zm 8 rfl rfl)) (by simp only [List.length_append]; exact lin [_, _, _] [.L 1 (.N 1000) (.V 0), .L 1 (.V 1) (.N 16), .L 2 (.V 2) (.N 1)] (.L 1 (.A (.A (.V 2) (.V 1)) (.V 2)) (.V 0)) rfl hsz hjf hml)) (den_var (zm 9 rfl rfl)) (by simp only [List.length_append]; exact lin [_, _, _, _] [.L 1 (.N 1000) (.V 0), .L 1 (.V 1) (.N 16), .L 2 (.V 2) (.N 1), .L 1 (.V 3) (.N 24)] (.L 1 (.A (.A (.A (.V 2) (.V 1)) (.V 2)) (.V 3)) (.V 0)) rfl hsz hjf hml hgl))
          (aug_txt (by unfold pieceOf at hpl; lia)) (gm 2 rfl) (turned_zip F.nd (i := 2) rfl (.there (.there .here))) (fun s₆ P₆ F l₆ => sc_nil (in3x2 M X P₆ ?_ trivial))
        have := F.forget 3 7
        rw [textTo_succ]
        exact this
    · rw [List.length_range] at F
      refine sc_ret F (den_as (by unfold sV; rw [tx_init]) (den_sliceS (den_var (zm 2 rfl rfl)) (den_neg den_int) ?_)) fun v s' P' F' l r => F'.ends r
      have htl := textTo_len words cell words.length hw
      rw [tx_len]; exact lin [_, _, _] [.L 24 (.V 0) (.N 20), .L 1 (.N 1000) (.V 1), .L 1 (.V 2) (.R (.V 0) 24)] (.L 1 (.V 2) (.V 1)) rfl hl hsz htl
end
noncomputable def cpart (i j : Nat) : Arguments × List Stmt × Scope := match PySem.Challenge.pw_wz0014_01.main.body[i]? with
  | some (.ClassDef _ _ _ b _ _ _ _ _ _ _) => (match b[j]? with
    | some (.FunctionDef _ ps b _ _ _ sc _ _ _) => (ps, b, sc)
    | _ => default)
  | _ => default
noncomputable def cpm (i j : Nat) : Arguments := (cpart i j).1
noncomputable def cbd (i j : Nat) : List Stmt := (cpart i j).2.1
noncomputable def csp (i j : Nat) : Scope := (cpart i j).2.2
noncomputable def Mf (K : PMap) (mN : Str → Option Value) (x : Str) (i j : Nat) (f : Addr) : Prop := mN x = some (.ref f) ∧ Df K (cpm i j) (cbd i j) (csp i j) f ∧ ∀ o, K f = some o → o.cls = .type "function"
section
variable {prog : Program} {w : World} {G : GC} {n : Nat}
theorem newInst {A : Around} {P : PMap} {s : Shared} {C f : Addr} {mN : Str → Option Value} {args : List Value} {i j : Nat} {Q : Value → Shared → Prop} (c : ClsF G.K C mN) (m : Mf G.K mN "__init__" i j f) (hb : PMap.le G.K P) (b : Sub P s.heap)
    (hq : ∀ h' x dx X, InsM X x dx C (fun _ => none) → Sub X h' → (∀ a o, X a = some o → a = x ∨ a = dx) → Keep s.heap h' → s.heap.get? x = none → s.heap.get? dx = none → x ≠ dx →
      wpAny (model prog w) (A.under (.builtin "type.__call__" ⟨.ref C :: args, []⟩)) (call (.ref f) (.ref x :: args)) (fun r s' => r = .none ∧ Q (.ref x) s') (fun _ _ => False) { s with heap := h' }) :
    wpAny (model prog w) A (call (.ref C) args) Q (fun _ _ => False) s := by
  obtain ⟨hp, g, d, t, os⟩ := s
  (refine el0x4 c ?_; clear c; intro hZ; obtain ⟨nm, q, N, bs, sn, sub, col, dd, k0, k1, k2, k3, k5, hC, hN⟩ := hZ; intro n1 n2 n3)
  have bK : Sub G.K hp := fun a o e => b a o (hb a o e)
  (refine el0x3 m ?_; clear m; intro m1 hZ; refine el2x3 hZ ?_; clear hZ; intro of fd hof hfd _; intro m3)
  refine wpAny_call_obj_init PySem.F.objNew (bK _ _ hC) (hN.ns bK) m1 (bK _ _ hof) (m3 _ hof) fun h' x dx mo => ?_
  obtain ⟨hkeep, hnx, hnd, ⟨ox, hox, hoc, hon, hd⟩, hdict, _⟩ := mo
  have e := hdict ox hox
  rcases hd with ⟨hdn, _⟩ | ⟨d', hd', hne, od, es, ep, hod, hdd, hk, hu, hf⟩
  · rw [e] at hdn; exact no2 hdn
  rw [e] at hd'; (have h := Option.some.inj hd'; clear hd'; subst h)
  refine hq h' x dx ((PMap.none.put x ox).put dx od) (in4x10 ox od es ep ?_ hoc hon e hne (PMap.put_self _ _ _) hdd hk hu hf) (fun a o q => ?_) (fun a o q => ?_) hkeep hnx hnd hne.symm
  · simp [PMap.put, hne.symm]
  · by_cases z : a = dx
    · subst z; simp [PMap.put] at q; rw [← q]; exact hod
    · by_cases y : a = x
      · subst y; simp [PMap.put, z] at q; rw [← q]; exact hox
      · simp [PMap.put, z, y, PMap.none] at q
  · by_cases z : a = dx
    · exact .inr z
    · by_cases y : a = x
      · exact .inl y
      · simp [PMap.put, z, y, PMap.none] at q
theorem con_tupleComp {C f : Addr} {mN : Str → Option Value} {d : List PV} (c : ClsF G.K C mN) (m : Mf G.K mN "__init__" 1 0 f) (hna : mN "comp_select_list" = none) : Con prog w G (n + 2) (.ref C) [.list d] (.inst C "comp_select_list" (.list d)) := fun A P s vs ok le bb rm rs => by
  have hCn : G.K C ≠ none := by obtain ⟨⟨nm, q, N, bs, sn, sub, col, dd, k0, k1, k2, k3, k5, hC, hN⟩, _⟩ := c; rw [hC]; simp
  refine newInst c m le bb fun h' x dx X iX bX dX kp nx nd hne => ?_
  have xsz : P x = none := bb.fresh nx
  have dsz : P dx = none := bb.fresh nd
  have rx : RpL prog w P (.ref x :: vs) [.raw (.ref x), .list d] := .cons (.raw _) rs
  refine enter (X := X) (names := ["self", "comp_select_list"]) (extra := []) m.2.1 (bind2 fun fd u v h1 h2 => ?_) (by decide +kernel) rfl rfl rfl rfl ok le (s := { s with heap := h' }) (bb.keep kp) rm.new rx bX (fun a o e => by rcases dX a o e with rfl | rfl <;> assumption) (fun env s₁ F => ?_)
  · obtain ⟨_⟩ := fd; subst h1; subst h2; rfl
  · refine sc_setattr (ns := []) F c (den_var (zm 1 rfl rfl)) (zm 0 rfl rfl) iX hna (by rw [typeLookup_type, builtinLookup_eq_fast]; kernel_rfl) hCn (fun y h => absurd rfl h) (by simp) rfl (fun s₂ P₂ v od F l r iX' => sc_nil ⟨rfl, ?_⟩)
    (refine el4x10 iX' ?_; clear iX'; intro ox od' es ep hx hc hn hd hdn hdx hdd hk hu hf)
    simp [PMap.put] at hdx; subst hdx
    have hxo : (X.put dx od) x = some ox := hx
    have hxn : P₂ x = none := F.disX x _ hxo
    have hdn' : P₂ dx = none := F.disX dx od (PMap.put_self _ _ _)
    (refine el2x1 (F.sh) ?_; intro h₂ t₂ e₂)
    have hgx : s₂.heap.get? x = some ox := F.mux x _ hxo
    have hgd : s₂.heap.get? dx = some od := F.mux dx _ (PMap.put_self _ _ _)
    have hPx : (P₂.put x ox) dx = none := by simp [PMap.put, hne.symm, hdn']
    refine (in3x6 s₂.heap s₂.toks ((P₂.put x ox).put dx od) (by rw [e₂]) (fun a o e => ?_) (l.trans ((PMap.put_le hxn).trans (PMap.put_le hPx))) (PMap.put_sub (PMap.put_sub F.cx.sub hgx) hgd) (fun a o e => ?_) ?_)
    · (refine el1x2 (F.keep a o (kp a o e)) ?_; intro o' e' q)
      refine (q (fun z => ?_) fun z => z) ▸ e'
      (refine el1x1 (Option.isSome_iff_exists.mp z) ?_; intro oz hz)
      rcases dX a oz hz with rfl | rfl
      · rw [nx] at e; exact no1 e
      · rw [nd] at e; exact no1 e
    · by_cases z : a = dx
      · subst z; exact .inr nd
      · by_cases y : a = x
        · subst y; exact .inr nx
        · simp [PMap.put, z, y] at e
          rcases F.grew a o e with q | q | q
          · exact .inl q
          · exact q.elim
          · refine .inr ?_
            cases q' : s.heap.get? a with
            | none => rfl
            | some o' => have := kp a o' q'; rw [show ({ s with heap := h' } : Shared).heap.get? a = h'.get? a from rfl] at q; rw [q] at this; exact no1 this
    · refine .inst (x := x) (d := dx) (o := ox) (od := od) ?_ hc hn hd hdn (PMap.put_self _ _ _) hdd hk hu (fun y => hf y) (r.mono ((PMap.put_le hxn).trans (PMap.put_le hPx)))
      simp [PMap.put, hne]
end
noncomputable def cmpL : List (Nat × Int) → List Nat → List Nat → Int
  | [], _, _ => 0
  | (i, d) :: ds, l, r => if l.getD i 0 < r.getD i 0 then -d else if l.getD i 0 > r.getD i 0 then d else cmpL ds l r
noncomputable def dirV (p : Nat × Int) : PV := .tuple [iN p.1, .int p.2]
noncomputable def tupV (l : List Nat) : PV := .tuple (l.map iN)
section
variable {prog : Program} {w : World} {G : GC} {n : Nat}
theorem cmp_ltN {a b : Nat} : Cmp prog w .Lt (iN a) (iN b) (decide (a < b)) := by
  have := cmp_ltI (prog := prog) (w := w) (a := (a : Int)) (b := (b : Int))
  rw [show decide ((a : Int) < (b : Int)) = decide (a < b) by simp] at this; exact this
theorem cmp_gtN {a b : Nat} : Cmp prog w .Gt (iN a) (iN b) (decide (a > b)) := by
  have := cmp_gtI (prog := prog) (w := w) (a := (a : Int)) (b := (b : Int))
  rw [show decide ((a : Int) > (b : Int)) = decide (a > b) by simp] at this; exact this
theorem con_compare {C f : Addr} {mN : Str → Option Value} {ds : List (Nat × Int)} {ls rr : List Nat} (c : ClsF G.K C mN) (m : Mf G.K mN "compare" 1 1 f) (hna : mN "comp_select_list" = none) (hi : ∀ p ∈ ds, p.1 < ls.length ∧ p.1 < rr.length) (hz : ds.length ≤ 100) (hl : ls.length ≤ 100) (hr : rr.length ≤ 100) :
    Con prog w G (n + 1) (.ref f) [.inst C "comp_select_list" (.list (ds.map dirV)), tupV ls, tupV rr] (.int (cmpL ds ls rr)) := fun A P s vs ok le bb rm rs => by
  refine enter (X := PMap.none) (names := ["self", "left", "right"]) (extra := ["index", "direction", "l", "r"]) m.2.1 (fun fd vs h1 h2 h3 => ?_) (by decide +kernel) rfl rfl rfl rfl ok le bb rm rs (fun a o e => nomatch e) (fun a o e => nomatch e) (fun env s₁ F => ?_)
  · (refine lcons h3 fun u r e h4 => ?_); subst e; (refine lcons h4 fun v r e h5 => ?_); subst e; (refine lcons h5 fun y r e h6 => ?_); subst e; have e := List.length_eq_zero_iff.mp h6; clear h6; subst e; obtain ⟨_⟩ := fd; subst h1; subst h2; rfl
  · refine sc_for dirV ds (fun j => ((["self", "left", "right"] : List Str) ++ (["index", "direction", "l", "r"] : List Str)).zip [some (.inst C "comp_select_list" (.list (ds.map dirV))), some (tupV ls), some (tupV rr), none, none, none, none])
      (fun j => ((["self", "left", "right"] : List Str) ++ (["index", "direction", "l", "r"] : List Str)).zip [some (.inst C "comp_select_list" (.list (ds.map dirV))), some (tupV ls), some (tupV rr), some (iN ((ds[j]?).map (·.1) |>.getD 0)), some (.int ((ds[j]?).map (·.2) |>.getD 0)), none, none])
      (fun j _ _ _ => cmpL ds ls rr = cmpL (ds.drop j) ls rr) (fun _ _ P v => Rp prog w P v (.int (cmpL ds ls rr)))
      F (den_attr c (den_var (zm 0 rfl rfl)) hna (by rw [typeLookup_type, builtinLookup_eq_fast]; kernel_rfl) (fun P v r => by (refine el3x2 (r.list_inv) ?_; intro a _ _ hZ; subst hZ; intro _); rfl)) its_list (fun _ _ _ _ _ _ h => h) (by simp) (fun j p hj => ?_) (fun j p hj W' V' s₁ P₁ M X P s F hI => ?_) (fun M' X' P' s' F hI l => ?_) (fun M' X' P' s' v F r l => ?_)
    · refine asg_names (.cons (by decide +kernel) (turned_zip F.nd (i := 3) rfl (.there (.there (.there .here)))) (.cons (by decide +kernel) (turned_zip F.nd (i := 4) rfl ?_) .nil)) (by decide +kernel)
      rw [hj]
      exact (.there (.there (.there (.there .here))))
    · have hp := List.mem_of_getElem? hj
      (refine el0x2 (hi p hp) ?_; intro i1 i2)
      have e1 : (ls.map iN)[p.1]? = some (iN (ls.getD p.1 0)) := by rw [List.getElem?_map, List.getD_eq_getElem?_getD, List.getElem?_eq_getElem i1]; rfl
      have e2 : (rr.map iN)[p.1]? = some (iN (rr.getD p.1 0)) := by rw [List.getElem?_map, List.getD_eq_getElem?_getD, List.getElem?_eq_getElem i2]; rfl
      have hd : ds.drop j = p :: ds.drop (j + 1) := by
        obtain ⟨hlt, e⟩ := List.getElem?_eq_some_iff.mp hj
        rw [List.drop_eq_getElem_cons hlt, e]
      rw [hd] at hI
      obtain ⟨pi, pd⟩ := p
      rw [hj] at F
      refine sc_assign F (den_itemTN (den_var (zm 1 rfl rfl)) (den_var (zm 3 rfl rfl)) (by show pi < _; simp only at i1; exact lin [_, _] [.L 1 (.V 0) (.N 100), .T 1 (.V 1) (.V 0)] (.T 1 (.V 1) (.N 9223372036854775808)) rfl hl i1) e1) rfl (gm 5 rfl) (turned_zip F.nd (i := 5) rfl (.there (.there (.there (.there (.there .here)))))) (fun s₂ P₂ F l₂ => ?_)
      refine sc_assign F (den_itemTN (den_var (zm 2 rfl rfl)) (den_var (zm 3 rfl rfl)) (by show pi < _; simp only at i2; exact lin [_, _] [.L 1 (.V 0) (.N 100), .T 1 (.V 1) (.V 0)] (.T 1 (.V 1) (.N 9223372036854775808)) rfl hl i1) e2) rfl (gm 6 rfl) (turned_zip F.nd (i := 6) rfl (.there (.there (.there (.there (.there (.there .here))))))) (fun s₃ P₃ F l₃ => ?_)
      refine sc_if F (dent_cmp (den_var (zm 5 rfl rfl)) (den_var (zm 6 rfl rfl)) cmp_ltN) (fun h s₄ P₄ F l₄ => ?_) (fun h s₄ P₄ F l₄ => sc_nil (then_next ?_))
      · refine sc_ret F (den_neg (den_var (zm 4 rfl rfl))) fun v s' P' F' l r => then_ret (in3x2 M X P' (F'.weak (fun _ h => nomatch h)) ?_)
        rw [hI, cmpL, if_pos (by simpa using h)]; exact r
      · refine sc_if F (dent_cmp (den_var (zm 5 rfl rfl)) (den_var (zm 6 rfl rfl)) cmp_gtN) (fun h' s₅ P₅ F l₅ => ?_) (fun h' s₅ P₅ F l₅ => sc_nil (then_next (sc_nil (in3x2 M X P₅ (F.forget 3 4) ?_))))
        · refine sc_ret F (den_var (zm 4 rfl rfl)) fun v s' P' F' l r => then_ret (in3x2 M X P' (F'.weak (fun _ h => nomatch h)) ?_)
          rw [hI, cmpL, if_neg (by simpa using h), if_pos (by simpa using h')]; exact r
        · rw [hI, cmpL, if_neg (by simpa using h), if_neg (by simpa using h')]
    · refine sc_ret F (den_as ?_ (den_k 0)) fun v s' P' F' l r => F'.ends r
      rw [hI, List.drop_length]; rfl
    · exact F.ends r
end
abbrev Dct := List (Int × Int)
noncomputable def put1 (d : Dct) (p : Int × Int) : Dct := putK d p.1 p.2
noncomputable def add1 (d : Dct) (p : Int × Int) : Dct := match getK d p.1 with
  | some old => putK d p.1 (old + p.2)
  | none => putK d p.1 p.2
theorem add1_hit {d : Dct} {p : Int × Int} {old : Int} (h : getK d p.1 = some old) : add1 d p = putK d p.1 (old + p.2) := by unfold add1; rw [h]
theorem add1_miss {d : Dct} {p : Int × Int} (h : getK d p.1 = none) : add1 d p = putK d p.1 p.2 := by unfold add1; rw [h]
noncomputable def addC (t s : Dct) : Dct := s.foldl add1 (t.foldl put1 [])
theorem put1_len (d : Dct) (p : Int × Int) : (put1 d p).length ≤ d.length + 1 := putK_len _ _ _
theorem add1_len (d : Dct) (p : Int × Int) : (add1 d p).length ≤ d.length + 1 := by unfold add1; split <;> exact putK_len _ _ _
theorem foldl_len (f : Dct → Int × Int → Dct) (hf : ∀ d p, (f d p).length ≤ d.length + 1) : ∀ (l : Dct) (d : Dct), (l.foldl f d).length ≤ d.length + l.length
  | [], d => by simp
  | a :: l, d => by
    have := foldl_len f hf l (f d a)
    have := hf d a
    rw [List.foldl_cons, List.length_cons]; lia
theorem addC_len (t s : Dct) : (addC t s).length ≤ t.length + s.length := by
  unfold addC
  have h1 := foldl_len put1 put1_len t []
  have h2 := foldl_len add1 add1_len s (t.foldl put1 [])
  simp at h1; exact lin [_, _, _, _] [.L 1 (.V 0) (.A (.V 1) (.V 2)), .L 1 (.V 1) (.V 3)] (.L 1 (.V 0) (.A (.V 3) (.V 2))) rfl h2 h1
theorem foldl_take (f : Dct → Int × Int → Dct) (l : Dct) (d : Dct) {j : Nat} {p : Int × Int} (h : l[j]? = some p) : (l.take (j + 1)).foldl f d = f ((l.take j).foldl f d) p := by
  rw [List.take_add_one, h, List.foldl_append]; rfl
noncomputable def twos {α : Type} (ts : List α) : List (List α) := (List.range ((ts.length + 1) / 2)).map fun i => (ts.drop (2 * i)).take 2
noncomputable def join2 (p : List Dct) : Dct := match p with
  | [a, b] => addC a b
  | a :: _ => a
  | [] => []
noncomputable def halve (ts : List Dct) : List Dct := (twos ts).map join2
noncomputable def tallyD (vs : List Int) : Dct := (halve (halve (halve (halve (halve (vs.map fun v => [(v, 1)])))))).headD []
section
variable {prog : Program} {w : World} {G : GC} {n : Nat}
theorem con_countCalls {a : Addr} {l : Dct} (D : Df G.K (pm 3) (bd 3) (sp 3) a) : Con prog w G (n + 1) (.ref a) [.dI l] (.int (l.map (·.2)).sum) := fun A P s vs ok le bb rm rs => by
  refine enter (X := PMap.none) (names := ["callers"]) (extra := ["nc", "calls"]) D (bind1 fun fd v h1 h2 => ?_) (by decide +kernel) rfl rfl rfl rfl ok le bb rm rs (fun a o e => nomatch e) (fun a o e => nomatch e) (fun env s₁ F => ?_)
  · obtain ⟨_⟩ := fd; subst h1; subst h2; rfl
  · refine sc_assign F den_int rfl (gm 1 rfl) (turned_zip F.nd (i := 1) rfl (.there .here)) (fun s₂ P₂ F l₂ => ?_)
    refine sc_for (fun p : Int × Int => .int p.2) l (fun j => ((["callers"] : List Str) ++ (["nc", "calls"] : List Str)).zip [some (.dI l), some (.int ((l.take j).map (·.2)).sum), none]) (fun j => ((["callers"] : List Str) ++ (["nc", "calls"] : List Str)).zip [some (.dI l), some (.int ((l.take j).map (·.2)).sum), some (.int ((l[j]?).map (·.2) |>.getD 0))]) (fun _ _ _ _ => True) (fun _ _ _ _ => False)
      F (den_method (den_var (zm 0 rfl rfl)) (meth_dict PySem.F.slot_dict_values PySem.F.type_dict_values) argd_nil con_values) its_values (fun _ _ _ _ _ _ _ => trivial) trivial (fun j p hj => ?_) (fun j p hj W' V' s₁ P₁ M X P s F _ => ?_) (fun M' X' P' s' F _ l' => ?_) (fun _ _ _ _ _ _ h => h.elim)
    · rw [hj]
      exact .mk fun A P env s v Q C ho r hQ => (asg_name (by decide +kernel) (turned_zip (by decide +kernel) (i := 2) rfl (.there (.there .here)))).run A P env s v Q C (fun x hx => ho x (by simp at hx; subst hx; exact (gm 2 rfl))) r fun h' tk P' C' k => hQ h' tk P' C' (k.mono (fun z hz => by simp at hz; subst hz; exact (gm 2 rfl)))
    · rw [hj] at F
      refine sc_aug F (zm 1 rfl rfl) (den_var (zm 2 rfl rfl)) aug_int (gm 1 rfl) (turned_zip F.nd (i := 1) rfl (.there .here)) (fun s₆ P₆ F l₆ => sc_nil (in3x2 M X P₆ ?_ trivial))
      have := F.forget 2 1
      rw [List.take_add_one, hj, List.map_append, List.sum_append]
      simpa using this
    · rw [List.take_length] at F
      exact sc_ret F (den_var (zm 1 rfl rfl)) fun v s' P' F' l r => F'.ends r
theorem con_addCallers {a : Addr} {t s' : Dct} (D : Df G.K (pm 2) (bd 2) (sp 2) a) (hz : t.length + s'.length ≤ 900) (b1 : Gb G "isinstance" (.builtin "isinstance")) (b2 : Gb G "tuple" (.type "tuple")) : Con prog w G (n + 1) (.ref a) [.dI t, .dI s'] (.dI (addC t s')) := fun A P s vs ok le bb rm rs => by
  refine enter (X := PMap.none) (names := ["target", "source"]) (extra := ["new_callers", "func", "caller"]) D (bind2 fun fd u v h1 h2 => ?_) (by decide +kernel) rfl rfl rfl rfl ok le bb rm rs (fun a o e => nomatch e) (fun a o e => nomatch e) (fun env s₁ F => ?_)
  · obtain ⟨_⟩ := fd; subst h1; subst h2; rfl
  · refine sc_dict0 F (gm 2 rfl) (fun a => (turned_zip F.nd (i := 2) rfl (.there (.there .here)))) (fun d od s₂ F m₂ => ?_)
    refine sc_for_items t (fun j => ((["target", "source"] : List Str) ++ (["new_callers", "func", "caller"] : List Str)).zip [some (.dI t), some (.dI s'), some (.raw (.ref d)), none, none]) (fun j => ((["target", "source"] : List Str) ++ (["new_callers", "func", "caller"] : List Str)).zip [some (.dI t), some (.dI s'), some (.raw (.ref d)), some (.int ((t[j]?).map (·.1) |>.getD 0)), some (.int ((t[j]?).map (·.2) |>.getD 0))])
      (fun j M _ _ => MDict prog w M d ((t.take j).foldl put1 [])) F (den_method (den_var (zm 0 rfl rfl)) (meth_dict PySem.F.slot_dict_items PySem.F.type_dict_items) argd_nil con_items) (fun _ _ _ _ _ _ h => h) m₂ (fun j p hj => ?_) (fun j p hj W' V' s₁ P₁ M X P s F hI => ?_) (fun M' X' P' s₃ F m₃ l₃ => ?_)
    · rw [hj]
      exact asg_names (.cons (by decide +kernel) (turned_zip (by decide +kernel) (i := 3) rfl (.there (.there (.there .here)))) (.cons (by decide +kernel) (turned_zip (by decide +kernel) (i := 4) rfl (.there (.there (.there (.there .here))))) .nil)) (by decide +kernel)
    · rw [hj] at F
      have hl := foldl_len put1 put1_len (t.take j) []
      simp at hl
      refine sc_setM F hI (by lia) (den_var (zm 2 rfl rfl)) (den_var (zm 3 rfl rfl)) (den_var (zm 4 rfl rfl)) rfl (fun ob s₂ P₂ F l₂ m' => sc_nil (in3x2 _ X P₂ (F.forget 3 2) ?_))
      show MDict prog w _ d ((t.take (j + 1)).foldl put1 [])
      rw [foldl_take _ _ _ hj]; exact m'
    · rw [List.take_length] at m₃
      have hl₀ := foldl_len put1 put1_len t []
      refine sc_for_items s' (fun j => ((["target", "source"] : List Str) ++ (["new_callers", "func", "caller"] : List Str)).zip [some (.dI t), some (.dI s'), some (.raw (.ref d)), none, none]) (fun j => ((["target", "source"] : List Str) ++ (["new_callers", "func", "caller"] : List Str)).zip [some (.dI t), some (.dI s'), some (.raw (.ref d)), some (.int ((s'[j]?).map (·.1) |>.getD 0)), some (.int ((s'[j]?).map (·.2) |>.getD 0))])
        (fun j M _ _ => MDict prog w M d ((s'.take j).foldl add1 (t.foldl put1 []))) F (den_method (den_var (zm 1 rfl rfl)) (meth_dict PySem.F.slot_dict_items PySem.F.type_dict_items) argd_nil con_items) (fun _ _ _ _ _ _ h => h) m₃ (fun j p hj => ?_) (fun j p hj W' V' s₁ P₁ M X P s F hI => ?_) (fun M' X' P' s₃ F m₃ l₃ => ?_)
      · rw [hj]
        exact asg_names (.cons (by decide +kernel) (turned_zip (by decide +kernel) (i := 3) rfl (.there (.there (.there .here)))) (.cons (by decide +kernel) (turned_zip (by decide +kernel) (i := 4) rfl (.there (.there (.there (.there .here))))) .nil)) (by decide +kernel)
      · rw [hj] at F
        have hl := foldl_len add1 add1_len (s'.take j) (t.foldl put1 [])
        simp at hl hl₀
        have hfin : ∀ (M : PMap) (D' : Dct), MDict prog w M d D' → D' = add1 ((s'.take j).foldl add1 (t.foldl put1 [])) p → MDict prog w M d ((s'.take (j + 1)).foldl add1 (t.foldl put1 [])) := fun M D' m e => by rw [foldl_take _ _ _ hj, ← e]; exact m
        refine sc_ifInM F hI (den_var (zm 3 rfl rfl)) (den_var (zm 2 rfl rfl)) rfl (fun h s₂ P₂ F l₂ => ?_) (fun h s₂ P₂ F l₂ => ?_)
        · (refine el1x1 (Option.isSome_iff_exists.mp h) ?_; intro old ho)
          refine sc_if F (b := false) (dent_bool (b1.call (gm 5 rfl) (argd2 (den_var (zm 4 rfl rfl)) (den_blt (gm 6 rfl) b2.1 b2.2 (by decide +kernel))) con_intTuple (by decide +kernel))) (fun h => nomatch h) (fun _ s₃ P₃ F l₃ => ?_)
          refine sc_augM F hI (by lia) ho (den_var (zm 2 rfl rfl)) (den_var (zm 3 rfl rfl)) (den_var (zm 4 rfl rfl)) (fun ob s₄ P₄ F l₄ m' => sc_nil (then_next (sc_nil (then_next (sc_nil (in3x2 _ X P₄ (F.forget 3 2) (hfin _ _ m' ?_)))))))
          simp only [Option.map_some, Option.getD_some] at ho ⊢
          exact (add1_hit ho).symm
        · refine sc_setM F hI (by lia) (den_var (zm 2 rfl rfl)) (den_var (zm 3 rfl rfl)) (den_var (zm 4 rfl rfl)) rfl (fun ob s₃ P₃ F l₃ m' => sc_nil (then_next (sc_nil (in3x2 _ X P₃ (F.forget 3 2) (hfin _ _ m' ?_)))))
          simp only [Option.map_some, Option.getD_some, Option.isSome_eq_false_iff, Option.isNone_iff_eq_none] at h ⊢
          exact (add1_miss h).symm
      · rw [List.take_length] at m₃
        refine sc_ret F (den_var (zm 2 rfl rfl)) fun v s' P' F' l r => ?_
        (have h := Rp.raw_inv r; clear r; subst h)
        (refine el2x4 m₃ ?_; clear m₃; intro o kvs ho hd hp hm)
        exact (F'.freeze ho).ends (.dI (PMap.put_self _ _ _) hd hp hm)
end
theorem putK_keys {κ : Type} [DecidableEq κ] (l : List (κ × Int)) (k : κ) (v : Int) (h : (l.map (·.1)).Nodup) : ((putK l k v).map (·.1)).Nodup := by
  unfold putK
  split
  · have : (l.map fun p => if p.1 = k then (p.1, v) else p).map (·.1) = l.map (·.1) := by
      rw [List.map_map]; apply List.map_congr_left; intro p _; simp only [Function.comp]; split <;> rfl
    rw [this]; exact h
  · rename_i hn
    rw [List.map_append, List.nodup_append]
    refine (in0x3 h (by simp) ?_)
    intro a ha b hb
    simp at hb; subst hb
    intro e; subst e
    (refine el1x2 (List.mem_map.mp ha) ?_; intro p hp hZ; subst hZ)
    exact hn (List.any_eq_true.mpr (in1x2 p hp (by simp)))
theorem put1_keys (d : Dct) (p : Int × Int) (h : (d.map (·.1)).Nodup) : ((put1 d p).map (·.1)).Nodup := putK_keys _ _ _ h
theorem add1_keys (d : Dct) (p : Int × Int) (h : (d.map (·.1)).Nodup) : ((add1 d p).map (·.1)).Nodup := by unfold add1; split <;> exact putK_keys _ _ _ h
theorem foldl_keys (f : Dct → Int × Int → Dct) (hf : ∀ d p, (d.map (·.1)).Nodup → ((f d p).map (·.1)).Nodup) : ∀ (l : Dct) (d : Dct), (d.map (·.1)).Nodup → ((l.foldl f d).map (·.1)).Nodup
  | [], _, h => h
  | a :: l, d, h => foldl_keys f hf l _ (hf _ _ h)
theorem addC_keys (t s : Dct) : ((addC t s).map (·.1)).Nodup := foldl_keys _ add1_keys _ _ (foldl_keys _ put1_keys _ _ List.nodup_nil)
theorem twos_mem {α : Type} {ts : List α} {p : List α} (h : p ∈ twos ts) : (∃ a b, p = [a, b] ∧ a ∈ ts ∧ b ∈ ts) ∨ ∃ a, p = [a] ∧ a ∈ ts := by
  unfold twos at h
  (refine el1x2 (List.mem_map.mp h) ?_; intro i hi hZ; subst hZ)
  have hlt : 2 * i < ts.length := by have := List.mem_range.mp hi; lia
  rw [List.drop_eq_getElem_cons hlt]
  by_cases h2 : 2 * i + 1 < ts.length
  · rw [List.drop_eq_getElem_cons h2]
    exact .inl (in2x3 _ _ rfl (List.getElem_mem _) (List.getElem_mem _))
  · rw [List.drop_eq_nil_of_le (by exact lin [_, _] [.NT 1 (.A (.M 2 (.V 0)) (.N 1)) (.V 1)] (.L 1 (.V 1) (.A (.M 2 (.V 0)) (.N 1))) rfl h2)]
    exact .inr (in1x2 _ rfl (List.getElem_mem _))
noncomputable def tabs (vs : List Int) : Nat → List Dct
  | 0 => vs.map fun v => [(v, 1)]
  | j + 1 => halve (tabs vs j)
theorem tabs_ok (vs : List Int) (h1 : 1 ≤ vs.length) (h2 : vs.length ≤ 32) : ∀ j, 1 ≤ (tabs vs j).length ∧ (tabs vs j).length ≤ 32 ∧ ∀ d ∈ tabs vs j, d.length ≤ 2 ^ j ∧ (d.map (·.1)).Nodup
  | 0 => ⟨by simpa [tabs] using h1, by simpa [tabs] using h2, fun d hd => by
      (refine el1x2 (List.mem_map.mp hd) ?_; intro v _ hZ; subst hZ)
      simp⟩
  | j + 1 => by
    (refine el0x3 (tabs_ok vs h1 h2 j) ?_; intro i1 i2 i3)
    have hl : (tabs vs (j + 1)).length = ((tabs vs j).length + 1) / 2 := by simp [tabs, halve, twos]
    refine (in0x3 (by lia) (by lia) (fun d hd => ?_))
    (refine el1x2 (List.mem_map.mp hd) ?_; intro p hp hZ; subst hZ)
    rw [Nat.pow_succ]
    rcases twos_mem hp with ⟨a, b, rfl, ha, hb⟩ | ⟨a, rfl, ha⟩
    · have := addC_len a b
      have g1 := (i3 a ha).1; have g2 := (i3 b hb).1
      exact ⟨by show (addC a b).length ≤ _; exact lin [_, _, _, _] [.L 1 (.V 0) (.A (.V 1) (.V 2)), .L 1 (.V 1) (.V 3), .L 1 (.V 2) (.V 3)] (.L 1 (.V 0) (.R (.V 3) 2)) rfl this g1 g2, addC_keys a b⟩
    · have g1 := i3 a ha
      exact ⟨by show a.length ≤ _; exact lin [_, _] [.L 1 (.V 0) (.V 1)] (.L 1 (.V 0) (.R (.V 1) 2)) rfl g1.1, g1.2⟩
theorem tallyD_eq (vs : List Int) : tallyD vs = (tabs vs 5).headD [] := rfl
section
variable {prog : Program} {w : World} {G : GC} {n : Nat}
theorem con_count' {a : Addr} {vs : List Int} (D : Df G.K (pm 67) (bd 67) (sp 67) a) (h1 : 1 ≤ vs.length) (h2 : vs.length ≤ 32) (b1 : Gb G "range" (.type "range")) (b2 : Gb G "len" (.builtin "len")) (b3 : Gb G "dict" (.type "dict")) (b4 : Gb G "isinstance" (.builtin "isinstance")) (b5 : Gb G "tuple" (.type "tuple")) (g : Gf G "add_callers" 2) :
    Con prog w G (n + 2) (.ref a) [.list (vs.map .int)] (.dI (tallyD vs)) := fun A P s us ok le bb rm rs => by
  have hsz : (1000 : Nat) ≤ sizeLine := by unfold sizeLine; exact lin [] [] (.L 1 (.N 1000) (.N 16777216)) rfl
  refine enter (X := PMap.none) (names := ["values"]) (extra := ["tables", "turn", "kept", "pairs", "grown"]) D (bind1 fun fd v h1 h2 => ?_) (by decide +kernel) rfl rfl rfl rfl ok le bb rm rs (fun a o e => nomatch e) (fun a o e => nomatch e) (fun env s₁ F => ?_)
  · obtain ⟨_⟩ := fd; subst h1; subst h2; rfl
  · refine sc_assign F (pv := .list ((tabs vs 0).map .dI)) (den_as (by unfold tabs; rw [List.map_map]; rfl) (den_for1 PV.int vs (fun v => .dI [(v, 1)]) [] (τ := []) (den_var (zm 0 rfl rfl)) its_list (.skip (by decide) (.skip (by decide) .nil)) (fun v hv => den_dict1 (den_var (gm 0 rfl)) den_int) (by exact lin [_, _] [.L 1 (.V 0) (.N 32), .L 1 (.N 1000) (.V 1)] (.L 1 (.V 0) (.V 1)) rfl h2 hsz) rfl (by decide +kernel))) (noSwap_cell F (gm 1 rfl)) (gm 1 rfl) (turned_zip F.nd (i := 1) rfl (.there .here)) (fun s₂ P₂ F l₂ => ?_)
    refine sc_for iN (List.range 5) (fun j => ((["values"] : List Str) ++ (["tables", "turn", "kept", "pairs", "grown"] : List Str)).zip [some (.list (vs.map .int)), some (.list ((tabs vs j).map .dI)), none, none, none, none]) (fun j => ((["values"] : List Str) ++ (["tables", "turn", "kept", "pairs", "grown"] : List Str)).zip [some (.list (vs.map .int)), some (.list ((tabs vs j).map .dI)), some (iN ((List.range 5)[j]?.getD 0)), none, none, none]) (fun _ _ _ _ => True) (fun _ _ _ _ => False)
      F (b1.callT (gm 6 rfl) (argd1 (den_k 5)) con_rangeN (by decide +kernel)) (its_range (by exact lin [] [] (.T 1 (.N 5) (.N 2147483648)) rfl)) (fun _ _ _ _ _ _ _ => trivial) trivial (fun j i hj => ?_) (fun j i hj W' V' s₁ P₁ M X P s F _ => ?_) (fun M' X' P' s' F _ l => ?_) (fun _ _ _ _ _ _ h => h.elim)
    · rw [hj]
      exact .mk fun A P env s v Q C ho r hQ => (asg_name (by decide +kernel) (turned_zip (by decide +kernel) (i := 2) rfl (.there (.there .here)))).run A P env s v Q C (fun x hx => ho x (by simp at hx; subst hx; exact (gm 2 rfl))) r fun h' tk P' C' k => hQ h' tk P' C' (k.mono (fun z hz => by simp at hz; subst hz; exact (gm 2 rfl)))
    · have hj5 : j < 5 := by have := (List.getElem?_eq_some_iff.mp hj).1; simpa using this
      (refine el0x3 (tabs_ok vs h1 h2 j) ?_; intro o1 o2 o3)
      have hpw : 2 ^ j ≤ 16 := Nat.le_trans (Nat.pow_le_pow_right (by exact lin [] [] (.T 1 (.N 0) (.N 2)) rfl) (show j ≤ 4 by exact lin [_] [.T 1 (.V 0) (.N 5)] (.L 1 (.V 0) (.N 4)) rfl hj5)) (by decide)
      generalize hts : tabs vs j = ts at F o1 o2 o3
      refine sc_names_swap (names := ["kept", "pairs"]) F (ds := [.list (ts.map .dI), .list ((twos ts).map fun p => .list (p.map .dI))]) (den_tuple (dens2 (den_for1 PV.dI ts (fun d => .dI d) [] (τ := []) (den_var (zm 1 rfl rfl)) its_list (.skip (by decide) (.skip (by decide) (.skip (by decide) .nil))) (fun d hd => b3.callT (gm 2 rfl) (argd1 (den_var (gm 0 rfl))) (con_dictCopy (by have := (o3 d hd).1; exact lin [_, _] [.L 1 (.V 0) (.N 16), .L 1 (.V 1) (.V 0)] (.L 1 (.V 1) (.N 1000)) rfl hpw this)) (by decide +kernel)) (by exact lin [_, _] [.L 1 (.N 1000) (.V 0), .L 1 (.V 1) (.N 32)] (.L 1 (.V 1) (.V 0)) rfl hsz o2) rfl (by decide +kernel))
        (den_as ?_ (den_for1 (fun i => iN (2 * i)) (List.range ((ts.length + 1) / 2)) (fun i => .list (((ts.map PV.dI).drop (2 * i)).take 2)) ["tables"] (b1.callT (gm 6 rfl) (argd3 (den_k 0) (b2.call (gm 7 rfl) (argd1 (den_var (zm 1 rfl rfl))) (con_lenM (by exact lin [_] [.L 1 (.V 0) (.N 32)] (.T 1 (.V 0) (.N 4611686018427387904)) rfl o2)) (by decide +kernel)) (den_k 2)) (con_range3 (by decide) (by decide)) (by decide +kernel)) (its_range_step2 (by exact lin [_] [.L 1 (.V 0) (.N 32)] (.T 1 (.V 0) (.N 1073741824)) rfl o2)) (.skip (by decide) (.skip (by decide) (.free (zm 1 rfl rfl) (.inl (gm 1 rfl)) .nil)))
          (fun i hi => den_as (by rw [pickL_nat]; congr 2; lia) (den_slice (den_var (gm 1 rfl)) (denP_some (den_var (gm 0 rfl))) (denP_some (den_addN (den_var (gm 0 rfl)) (den_k 2))) denP_none (by simp) (by simp; exact lin [_, _] [.L 1 (.N 1000) (.V 0), .L 1 (.V 1) (.N 32)] (.L 1 (.V 1) (.V 0)) rfl hsz o2))) (by simp; lia) rfl (by decide +kernel)))) (by simp; exact lin [_] [.L 1 (.N 1000) (.V 0)] (.L 1 (.N 2) (.V 0)) rfl hsz)) rfl (swap2 (gm 3 rfl) (gm 4 rfl) (turned_zip F.nd (i := 4) rfl (.there (.there (.there (.there .here))))) (turned_zip F.nd (i := 3) rfl (.there (.there (.there .here))))) rfl
        (swp2 F (gm 3 rfl) (gm 4 rfl) rfl) (fun s₃ P₃ F l₃ => ?_)
      · unfold twos; rw [List.map_map]; congr 1; apply List.map_congr_left; intro i _
        simp only [Function.comp, List.map_take, List.map_drop]
      · refine sc_assign_for1 (fun p : List Dct => .list (p.map .dI)) (twos ts) (fun p => .dI (join2 p)) [] (τ := []) F (den_var (zm 4 rfl rfl)) its_list (.skip (by decide) (.skip (by decide) (.skip (by decide) (.skip (by decide) .nil))))
          (fun p hp => ?_) (by simp [twos]; lia) rfl (by decide +kernel) (gm 5 rfl) (gm 5 rfl) (by decide +kernel) (turned_zip F.nd (i := 5) rfl (.there (.there (.there (.there (.there .here)))))) (fun s₄ P₄ F l₄ => ?_)
        · rcases twos_mem hp with ⟨a, b, rfl, ha, hb⟩ | ⟨a, rfl, ha⟩
          · refine den_if (b := true) (dent_cmp (b2.call (gm 2 rfl) (argd1 (den_var (gm 0 rfl))) (con_lenM (by simp)) (by decide +kernel)) (den_k 2) cmp_eqN) (fun _ => ?_) (fun h => nomatch h)
            exact g.den (gm 3 rfl) (argd2 (den_itemN (den_var (gm 0 rfl)) (den_k 0) (by exact lin [] [] (.T 1 (.N 0) (.N 9223372036854775808)) rfl) rfl) (den_itemN (den_var (gm 0 rfl)) (den_k 1) (by exact lin [] [] (.T 1 (.N 1) (.N 9223372036854775808)) rfl) rfl)) (fun a' D' => con_addCallers D' (by have := (o3 a ha).1; have := (o3 b hb).1; lia) b4 b5) (by decide +kernel)
          · refine den_if (b := false) (dent_cmp (b2.call (gm 2 rfl) (argd1 (den_var (gm 0 rfl))) (con_lenM (by simp)) (by decide +kernel)) (den_k 2) cmp_eqN) (fun h => nomatch h) (fun _ => ?_)
            exact den_itemN (den_var (gm 0 rfl)) (den_k 0) (by exact lin [] [] (.T 1 (.N 0) (.N 9223372036854775808)) rfl) rfl
        · refine sc_skip F (dent_cmp (den_var (zm 1 rfl rfl)) (den_var (zm 3 rfl rfl)) (cmp_neLD fun d hd => (o3 d hd).2)) (fun s₅ P₅ F l₅ => ?_)
          refine sc_assign F (den_var (zm 5 rfl rfl)) rfl (gm 1 rfl) (turned_zip F.nd (i := 1) rfl (.there .here)) (fun s₆ P₆ F l₆ => sc_nil (in3x2 M X P₆ ?_ trivial))
          have := F.forget 2 4
          have e : (twos ts).map (fun p => PV.dI (join2 p)) = (tabs vs (j + 1)).map PV.dI := by show _ = (halve (tabs vs j)).map PV.dI; rw [hts]; unfold halve; rw [List.map_map]; rfl
          rw [e] at this
          exact this
    · (refine el0x3 (tabs_ok vs h1 h2 5) ?_; intro o1 o2 o3)
      refine sc_ret F (den_itemN (d := .dI (tallyD vs)) (den_var (zm 1 rfl rfl)) (den_k 0) (by exact lin [] [] (.T 1 (.N 0) (.N 9223372036854775808)) rfl) ?_) fun v s' P' F' l r => F'.ends r
      rw [tallyD_eq]
      show ((tabs vs 5).map PV.dI)[0]? = _
      cases q : tabs vs 5 with
      | nil => rw [q] at o1; simp at o1
      | cons d r => rfl
end
noncomputable def lam (i j : Nat) : Arguments × Expr × Scope := match (bd i)[j]? with
  | some (.Assign _ (.Lambda ps e sc _) _) => (ps, e, sc)
  | _ => default
noncomputable def ReadP (P : PMap) (st rf cell S : Addr) : Prop :=
  (∃ ost ods ds es ep, P st = some ost ∧ ost.cls = .type "function" ∧ (∃ fd, ost.data = .func fd) ∧ ost.dict = some ds ∧ P ds = some ods ∧ ods.data = .dict es ep ∧ StrKeys es ∧ ∀ y, nsFind es y = if y = "read" then some (.ref rf) else none) ∧
  (∃ orf fd, P rf = some orf ∧ orf.data = .func fd ∧ fd.params = (lam 63 2).1 ∧ fd.body = .expr (lam 63 2).2.1 ∧ fd.scope = (lam 63 2).2.2 ∧ fd.globals = mainGlobals ∧ fd.builtins = builtinsNs ∧ fd.closure = [(("signs" : Str), cell)] ∧ fd.defaults = .none ∧
    ∃ c oc vs t, fd.code = .ref c ∧ P c = some oc ∧ oc.data = .fields vs ∧ vs[1]? = some (.str fd.qualname t)) ∧
  (∃ oc, P cell = some oc ∧ oc.data = .cell (some (.ref S)))
theorem ReadP.mono {P P' : PMap} {st rf cell S : Addr} (r : ReadP P st rf cell S) (l : PMap.le P P') : ReadP P' st rf cell S := by
  obtain ⟨⟨ost, ods, ds, es, ep, h1, h2, h3, h4, h5, h6⟩, ⟨orf, fd, g1, g2, g3, g4, g5, g6, g7, g8, g9, c, oc, vs, t, k1, k2, k3⟩, ⟨oc', m1, m2⟩⟩ := r
  exact (in0x3 ⟨ost, ods, ds, es, ep, l _ _ h1, h2, h3, h4, l _ _ h5, h6⟩ (in2x10 orf fd (l _ _ g1) g2 g3 g4 g5 g6 g7 g8 g9 ⟨ c, oc, vs, t, k1, l _ _ k2, k3⟩) (in1x2 oc' (l _ _ m1) m2))
section
variable {prog : Program} {w : World} {G : GC} {n : Nat} {A : Around} {P : PMap} {s : Shared}
theorem evalArgs_none' {A : Around} {E : Value → Shared → Prop} {s : Shared} {M : Model} {f : Value} {Q : Args → Shared → Prop} (h : Q ⟨[], []⟩ s) : wpAny M A (evalArgs f true [] []) Q E s := by
  unfold evalArgs
  show wpAny _ _ (spliced [] >>= _) _ _ _
  refine wpAny_bind (spliced_nil ?_)
  refine wpAny_bind (wpAny_pure ?_)
  refine wpAny_holding ?_
  exact wpAny_bind (wpAny_pure (wpAny_bind (wpAny_pure (wpAny_pure h))))
theorem call_read {st rf cell S : Addr} {vs : Array Value} {k : Nat} {v : Value} {Q : Value → Shared → Prop} (R : ReadP P st rf cell S) (ok : GOk G) (le : PMap.le G.K P) (b : Sub P s.heap) (rm : Room (n + 1) A) (hS : s.heap.get? S = some { cls := .type "list", data := .seq vs k }) (hPS : P S = none) (hz : vs.size ≤ 10000)
    (h0 : vs.size = 0 → ∀ h' tk t, Keep s.heap h' → Q (.str (tx []) t) { s with heap := h', toks := tk })
    (h1 : ∀ u, vs[vs.size - 1]? = some u → ∀ h' tk vs' k', vs'.toList = vs.toList.dropLast → h'.get? S = some { cls := .type "list", data := .seq vs' k' } → (∀ a o, a ≠ S → s.heap.get? a = some o → h'.get? a = some o) → Q u { s with heap := h', toks := tk }) :
    wpAny (model prog w) A (call (.ref rf) [v]) Q (fun _ _ => False) s := by
  (refine el0x3 R ?_; clear R; intro _ hZ; refine el2x10 hZ ?_; clear hZ; intro orf fd g1 g2 g3 g4 g5 g6 g7 g8 g9 hZ; refine el4x4 hZ ?_; clear hZ; intro c oc cvs t k1 k2 k3 k4; intro hZ; refine el1x2 hZ ?_; clear hZ; intro occ m1 m2)
  have bK : Sub G.K s.heap := fun a o e => b a o (le a o e)
  have hlim : s.heap.NoLimit := let ⟨mc, x, y⟩ := ok.lim; (in1x2 mc (x.ns bK) y)
  have hsc : ∀ x ∈ (lam 63 2).2.2.names, x.2 ≠ .cell := by decide +kernel
  have hloc : (lam 63 2).2.2.names.lookup ("size" : Str) = some .local := by decide +kernel
  have hbind : bindArgs fd ⟨[v], []⟩ = pure [(("size" : Str), v)] := by obtain ⟨_⟩ := fd; subst g3; subst g9; rfl
  refine wpAny_call (PySem.W.kla_callFunE (by have := rm.dp; exact lin [_, _, _] [.T 1 (.A (.V 0) (.A (.V 1) (.N 1))) (.V 2)] (.T 1 (.V 0) (.V 2)) rfl this) (b _ _ g1) g2 (by rw [g5]; rfl) (by rw [g5]; rfl) g4 (in4x4 c oc cvs t k1 (b _ _ k2) k3 k4) ?_)
  rw [hbind, g8, g5]
  refine wpAny_pure (wpAny_newFunctionEnv hsc (fun x hx => by simp at hx; subst hx; exact hloc) (fun h₁ hn hs => ⟨?_, PySem.W.kla_codeExpr ?_⟩) rfl)
  · exact hlim.fresh _ hs
  · have kp : Keep s.heap h₁ := fun a o e => hs.extBut a o (Nat.ne_of_lt (Heap.lt_size e)) (Heap.get?_push_of_some _ e)
    have hS₁ := kp _ _ hS
    have hcell : h₁.IsCell cell (some (.ref S)) := (in1x2 occ (kp _ _ (b _ _ m1)) m2)
    generalize hE : newEnv (lam 63 2).2.2 s.heap.objs.size fd.globals [(("signs" : Str), cell)] (fd.qualname ++ ".<locals>.") (some rf) fd.code none fd.builtins = env
    have eS : env.scope = (lam 63 2).2.2 := by rw [← hE]; rfl
    have eC : env.cells.lookup ("signs" : Str) = some cell := by rw [← hE]; rfl
    have eK : env.kindOf "signs" = some .free := by show env.scope.names.lookup _ = _; rw [eS]; decide +kernel
    have eF : env.scope.kind = .function := by rw [eS]; rfl
    have hL : s.heap.IsList S vs := (in1x3 _ hS rfl ⟨ k, rfl⟩)
    have nm : ∀ (pos : Pos) (s' : Shared) (Q : Value → Shared → Prop) (E : Value → Shared → Prop), s'.heap.IsCell cell (some (.ref S)) → Q (.ref S) s' → wpAny (model prog w) (A.deeper env) (eval (.Name "signs" pos) env) Q E s' := fun pos s' Q E hc hq =>
      wpAny_Name (wpAny_loadName_free eF eK eC hc hq (by decide +kernel)) (by decide +kernel)
    refine wpAny_IfExp (wpAny_bind (nm _ _ _ _ hcell (wpAny_bind (wpAny_standAt (wpAny_holding (wpAny_truthy_list (items := vs) (in1x3 _ hS₁ rfl ⟨ k, rfl⟩) (by lia) ?_))))))
    by_cases hv : vs.size = 0
    · have he : vs.isEmpty = true := by simpa [Array.isEmpty] using hv
      rw [he]
      refine wpAny_Constant_str ?_
      exact h0 hv h₁ _ _ kp
    · have he : vs.isEmpty = false := by simpa [Array.isEmpty] using hv
      rw [he]
      have hlt : vs.size - 1 < vs.size := by lia
      have hu : vs[vs.size - 1]? = some vs[vs.size - 1] := Array.getElem?_eq_getElem hlt
      refine MethodCall_ (nm _ _ _ _ hcell (getMethod_builtin (T := "list") (in1x2 _ hS₁ rfl) PySem.F.plainAttrs_list PySem.F.slot_list_pop PySem.F.type_list_pop (fun x hx => by (have h := Value.ref.inj hx; clear hx; subst h); exact (in1x2 _ hS₁ rfl)) (callWith_builtin rfl (evalArgs_none' ?_)))) (attrCall_eq rfl rfl rfl)
      refine call_meets PySem.F.slot_list_pop (in1x2 _ hS₁ rfl) PySem.F.entry_list_pop (PySem.F.args_list_pop_1 _) (MeetsSeq.list_pop_last S vs k _ hu (by unfold sizeLine; exact lin [_] [.L 1 (.V 0) (.N 10000)] (.L 1 (.V 0) (.N 16777216)) rfl hz)) ⟨hS₁, ?_⟩
      have hme : Obj.mapSeq (fun xs => xs.eraseIdxIfInBounds (vs.size - 1)) { cls := .type "list", data := .seq vs k } = { cls := .type "list", data := .seq (vs.eraseIdxIfInBounds (vs.size - 1)) (if (vs.eraseIdxIfInBounds (vs.size - 1)).size == vs.size then k else k + 1) } := by rfl
      have hg : (h₁.update S (Obj.mapSeq fun xs => xs.eraseIdxIfInBounds (vs.size - 1))).get? S = some { cls := .type "list", data := .seq (vs.eraseIdxIfInBounds (vs.size - 1)) (if (vs.eraseIdxIfInBounds (vs.size - 1)).size == vs.size then k else k + 1) } := by
        rw [Heap.get?_update_self _ hS₁ (by rw [hme]; rfl), hme]
      have hdl : (vs.eraseIdxIfInBounds (vs.size - 1)).toList = vs.toList.dropLast := by
        obtain ⟨l⟩ := vs
        simp only [List.eraseIdxIfInBounds_toArray, List.size_toArray]
        rw [List.dropLast_eq_take, List.eraseIdx_eq_take_drop_succ]
        have : l.length ≠ 0 := hv
        rw [show l.length - 1 + 1 = l.length by lia, List.drop_length, List.append_nil]
      exact h1 _ hu _ _ _ _ hdl hg (fun a o ha e => (Heap.SameBut.update ..).extBut a o ha (kp a o e))
end
section
open Builtin Builtin.ObjectAttr
theorem fn_ga : Slot "function" "__getattribute__" "object.__getattribute__" :=
  .of (owner := "object") (n := "__getattribute__") (by rw [typeLookup_type, builtinLookup_eq_fast]; kernel_rfl) (by decide +kernel) (by decide +kernel) (by decide +kernel)
    (by first | exact .inl (by decide +kernel) | exact .inr (by decide +kernel)) (by rw [isSubtype_type]; kernel_rfl)
theorem fn_nogetattr : typeLookup (.type "function") "__getattr__" = pure none := by rw [typeLookup_type, builtinLookup_eq_fast]; kernel_rfl
theorem fn_noread : typeLookup (.type "function") "read" = pure none := by rw [typeLookup_type, builtinLookup_eq_fast]; kernel_rfl
theorem ga_args (a b : Value) : argsOk "object.__getattribute__" ⟨[a, b], []⟩ := by unfold argsOk; kernel_rfl
section
variable {prog : Program} {w : World} {A : Around} {E : Value → Shared → Prop} {s : Shared}
set_option tactic.hygienic true in
theorem fn_entry {h : Heap} {g : Array GenState} {d : Drawn} {t : Nat} {os : OsState} {tk : Tok} {st ds rf : Addr} {ost : Obj} {m : Str → Option Value} {Q : Fin → Shared → Prop} (hst : h.get? st = some ost) (hc : ost.cls = .type "function") (hnc : ∀ c, ost.data ≠ .cls c) (hd : ost.dict = some ds) (hns : h.Ns ds m) (hm : m "read" = some (.ref rf))
    (hq : Q (.done (.ret (.ref rf))) ⟨h, g, d, t, os⟩) : wpAny (model prog w) A (Builtin.«object.__getattribute__» ⟨[.ref st, .str "read" tk], []⟩) Q E ⟨h, g, d, t, os⟩ := by
  have f1 := fn_noread
  unfold Builtin.«object.__getattribute__»
  repeat (first | (with_reducible refine wpAny_loadPart_at hst ?_; rw [hc]) | rw [f1] | wp_step)
  split
  · rename_i c hcd
    exact absurd hcd (hnc c)
  unfold instanceDict
  repeat (first | (with_reducible refine wpAny_loadPart_at hst ?_; rw [hc]) | wp_step)
  rw [hd]
  repeat (first | (with_reducible refine wpAny_nsGet hns ?_; rw [hm]) | wp_step)
  exact hq
theorem fn_getMethod {st ds rf : Addr} {ost : Obj} {m : Str → Option Value} {pl : Sem Bool} {Q : Value × List Value → Shared → Prop} (hst : s.heap.get? st = some ost) (hc : ost.cls = .type "function") (hnc : ∀ c, ost.data ≠ .cls c) (hd : ost.dict = some ds) (hns : s.heap.Ns ds m) (hm : m "read" = some (.ref rf))
    (h : Q (.ref rf, []) { s with toks := s.toks + 1 }) : wpAny (model prog w) A (getMethod (.ref st) "read" pl) Q E s := by
  have hT : s.TypeIs (.ref st) "function" := (in1x2 ost hst hc)
  have hcan := PySem.F.canon_object_ga
  unfold getMethod
  refine wpAny_bind (wpAny_specialOf hT fn_ga.lookup ?_)
  show wpAny _ A (if (Manifest.canonical "object.__getattribute__" != "object.__getattribute__") = true then _ else _) Q E s
  rw [hcan, if_neg Bool.false_ne_true]
  refine wpAny_bind (wpAny_specialOf hT fn_nogetattr ?_)
  show wpAny _ A (if (none : Option Value).isSome = true then _ else _) Q E s
  rw [if_neg (by simp)]
  refine wpAny_bind (wpAny_specialOf hT fn_noread ?_)
  show wpAny _ A (do return (← getAttr (.ref st) "read", [])) Q E s
  refine wpAny_bind ?_
  unfold getAttr
  refine wpAny_bind (wpAny_mkText ?_)
  unfold getAttrBy
  refine wpAny_holding (wpAny_bind (wpAny_typeOf (T := "function") (in1x2 ost hst hc) ?_))
  rw [fn_ga.lookup]
  refine wpAny_bind (wpAny_pure ?_)
  show wpAny _ A (getAttrByItsOwn (.ref st) (.str "read" s.toks) (.type "function") (.builtin "object.__getattribute__") true false) _ E _
  unfold getAttrByItsOwn
  show wpAny _ A (do
    let before ← (pure none : Sem (Option Value))
    match ← (holding before.toList (boundAndCalled (.builtin "object.__getattribute__") (.ref st) (.str "read" s.toks))).attempt with
    | .ok v => handedOut v
    | .error e => getattributeRaised (.ref st) (.str "read" s.toks) (.type "function") e before true false) _ E _
  refine wpAny_bind (wpAny_pure (wpAny_bind (wpAny_attempt (wpAny_holding ?_))))
  unfold boundAndCalled
  rw [fn_ga.bind]
  refine wpAny_bind (wpAny_pure ?_)
  obtain ⟨hp, g, d, t, os⟩ := s
  refine wpAny_call_entry fn_ga (in1x2 ost hst hc) PySem.F.entry_object_getattribute (fn_entry hst hc hnc hd hns hm ?_) (ga_args _ _)
  exact (in1x2 _ rfl (wpAny_pure (wpAny_pure h)))
end
end
structure LexA where
  x : Addr
  dx : Addr
  B : Addr
  S : Addr
  st : Addr
  rf : Addr
  cell : Addr
  C : Addr
  T : Addr
noncomputable def wsp : List Nat := [10, 9, 13, 32]
noncomputable def lexM (L : LexA) (ln : Int) (t u : Tok) (y : Str) : Option Value :=
  if y = "lineno" then some (.int ln t) else if y = "pushback" then some (.ref L.B) else if y = "whitespace" then some (.str (tx wsp) u) else if y = "instream" then some (.ref L.st) else none
structure TabX (L : LexA) (X : PMap) : Prop where
  t : ∃ ps, X L.T = some { cls := .none, data := .fields ps }
  s : L.T ≠ L.S
  b : L.T ≠ L.B
  d : L.T ≠ L.dx
theorem TabX.put {L : LexA} {X : PMap} {a : Addr} {o : Obj} (h : TabX L X) (ne : L.T ≠ a) : TabX L (X.put a o) := ⟨let ⟨ps, e⟩ := h.t; ⟨ps, by simp [PMap.put, ne, e]⟩, h.s, h.b, h.d⟩
structure LexX (prog : Program) (w : World) (L : LexA) (X P : PMap) (pb : List (List Nat)) (rest : List Nat) (ln : Int) : Prop where
  ins : ∃ t u mA, InsM X L.x L.dx L.C mA ∧ ∀ y, mA y = lexM L ln t u y
  pbl : ∃ vs k, X L.B = some { cls := .type "list", data := .seq vs k } ∧ RpL prog w P vs.toList (pb.map sV)
  sgn : ∃ vs k, X L.S = some { cls := .type "list", data := .seq vs k } ∧ RpL prog w P vs.toList (rest.reverse.map fun c => sV [c])
  rd : ReadP P L.st L.rf L.cell L.S
  n1 : L.S ≠ L.B
  n2 : L.S ≠ L.x
  n3 : L.S ≠ L.dx
  n4 : L.B ≠ L.x
  n5 : L.B ≠ L.dx
  tb : TabX L X
structure LexC (G : GC) (L : LexA) (mN : Str → Option Value) (fR fG fP : Addr) : Prop where
  c : ClsF G.K L.C mN
  r : Mf G.K mN "_read_char" 5 1 fR
  g : Mf G.K mN "get_token" 5 2 fG
  p : Mf G.K mN "push_token" 5 3 fP
  a1 : mN "lineno" = none
  a2 : mN "pushback" = none
  a3 : mN "whitespace" = none
  a4 : mN "instream" = none
theorem ob_lineno : typeLookup (.type "object") "lineno" = pure none := by rw [typeLookup_type, builtinLookup_eq_fast]; kernel_rfl
theorem ob_pushback : typeLookup (.type "object") "pushback" = pure none := by rw [typeLookup_type, builtinLookup_eq_fast]; kernel_rfl
theorem ob_whitespace : typeLookup (.type "object") "whitespace" = pure none := by rw [typeLookup_type, builtinLookup_eq_fast]; kernel_rfl
theorem ob_instream : typeLookup (.type "object") "instream" = pure none := by rw [typeLookup_type, builtinLookup_eq_fast]; kernel_rfl
theorem ob_read_char : typeLookup (.type "object") "_read_char" = pure none := by rw [typeLookup_type, builtinLookup_eq_fast]; kernel_rfl
theorem ob_get_token : typeLookup (.type "object") "get_token" = pure none := by rw [typeLookup_type, builtinLookup_eq_fast]; kernel_rfl
theorem ob_push_token : typeLookup (.type "object") "push_token" = pure none := by rw [typeLookup_type, builtinLookup_eq_fast]; kernel_rfl
theorem lexM_get {L : LexA} {ln : Int} {t u : Tok} : lexM L ln t u "lineno" = some (.int ln t) ∧ lexM L ln t u "pushback" = some (.ref L.B) ∧ lexM L ln t u "whitespace" = some (.str (tx wsp) u) ∧ lexM L ln t u "instream" = some (.ref L.st) ∧ lexM L ln t u "_read_char" = none ∧ lexM L ln t u "get_token" = none ∧ lexM L ln t u "push_token" = none := by
  have e1 : ("pushback" : Str) ≠ "lineno" := by decide +kernel
  have e2 : ("whitespace" : Str) ≠ "lineno" ∧ ("whitespace" : Str) ≠ "pushback" := by decide +kernel
  have e3 : ("instream" : Str) ≠ "lineno" ∧ ("instream" : Str) ≠ "pushback" ∧ ("instream" : Str) ≠ "whitespace" := by decide +kernel
  have e4 : ("_read_char" : Str) ≠ "lineno" ∧ ("_read_char" : Str) ≠ "pushback" ∧ ("_read_char" : Str) ≠ "whitespace" ∧ ("_read_char" : Str) ≠ "instream" := by decide +kernel
  have e5 : ("get_token" : Str) ≠ "lineno" ∧ ("get_token" : Str) ≠ "pushback" ∧ ("get_token" : Str) ≠ "whitespace" ∧ ("get_token" : Str) ≠ "instream" := by decide +kernel
  have e6 : ("push_token" : Str) ≠ "lineno" ∧ ("push_token" : Str) ≠ "pushback" ∧ ("push_token" : Str) ≠ "whitespace" ∧ ("push_token" : Str) ≠ "instream" := by decide +kernel
  unfold lexM
  exact ⟨by rw [if_pos rfl], by rw [if_neg e1, if_pos rfl], by rw [if_neg e2.1, if_neg e2.2, if_pos rfl], by rw [if_neg e3.1, if_neg e3.2.1, if_neg e3.2.2, if_pos rfl],
    by rw [if_neg e4.1, if_neg e4.2.1, if_neg e4.2.2.1, if_neg e4.2.2.2], by rw [if_neg e5.1, if_neg e5.2.1, if_neg e5.2.2.1, if_neg e5.2.2.2], by rw [if_neg e6.1, if_neg e6.2.1, if_neg e6.2.2.1, if_neg e6.2.2.2]⟩
theorem lexM_within {L : LexA} {ln : Int} {t u : Tok} {mA : Str → Option Value} (h : ∀ y, mA y = lexM L ln t u y) : Within mA ["lineno", "pushback", "whitespace", "instream"] := fun y hy => by
  rw [h] at hy
  unfold lexM at hy
  by_cases h1 : y = "lineno"
  · simp [h1]
  · by_cases h2 : y = "pushback"
    · simp [h2]
    · by_cases h3 : y = "whitespace"
      · simp [h3]
      · by_cases h4 : y = "instream"
        · simp [h4]
        · rw [if_neg h1, if_neg h2, if_neg h3, if_neg h4] at hy; exact absurd rfl hy
theorem lexM_line {L : LexA} {ln ln' : Int} {t t' u : Tok} {mA : Str → Option Value} (h : ∀ y, mA y = lexM L ln t u y) : ∀ y, (if y = ("lineno" : Str) then some (Value.int ln' t') else mA y) = lexM L ln' t' u y := fun y => by
  by_cases h1 : y = "lineno"
  · rw [if_pos h1]; unfold lexM; rw [if_pos h1]
  · rw [if_neg h1, h]; unfold lexM; rw [if_neg h1, if_neg h1]
section
variable {prog : Program} {w : World} {G : GC} {n : Nat} {A : Around} {L : LexA} {X P P' : PMap} {pb : List (List Nat)} {rest : List Nat} {ln : Int}
theorem LexX.mono (h : LexX prog w L X P pb rest ln) (l : PMap.le P P') : LexX prog w L X P' pb rest ln :=
  ⟨h.ins, let ⟨vs, k, e, r⟩ := h.pbl; (in2x2 vs k e (r.mono l)), let ⟨vs, k, e, r⟩ := h.sgn; (in2x2 vs k e (r.mono l)), h.rd.mono l, h.n1, h.n2, h.n3, h.n4, h.n5, h.tb⟩
noncomputable def rdOne (rest : List Nat) : List Nat := rest.take 1
noncomputable def lnOne (rest : List Nat) : Int := if rest.take 1 = [10] then 1 else 0
theorem rc_code {mN : Str → Option Value} {fR fG fP : Addr} {s : Shared} (Lc : LexC G L mN fR fG fP) (ok : GOk G) (le : PMap.le G.K P) (b : Sub P s.heap) (rm : Room (n + 2) A) (bX : Sub X s.heap) (dX : ∀ a o, X a = some o → P a = none) (h : LexX prog w L X P pb rest ln) (hz : rest.length ≤ 10000) :
    Called prog w A (.ref fR) [.ref L.x] (fun v s' => EndsX prog w X P s v (sV (rdOne rest)) (fun X' P' => LexX prog w L X' P' pb (rest.drop 1) (ln + lnOne rest)) s') s := by
  refine enterC (X := X) (names := ["self"]) (extra := ["ch"]) Lc.r.2.1 (bind1 fun fd v h1 h2 => ?_) (by decide +kernel) rfl rfl rfl rfl ok le b rm (ds := [.raw (.ref L.x)]) (.cons (.raw _) .nil) bX dX (fun env s₁ F => ?_)
  · obtain ⟨_⟩ := fd; subst h1; subst h2; rfl
  · (refine el3x2 (h.ins) ?_; intro t u mA hI hA)
    (refine el0x7 (@lexM_get L ln t u) ?_; intro g1 g2 g3 g4 g5 g6 g7)
    have tail : ∀ (X₁ P₁ : PMap) (s₁ : Shared), Fn prog w G (n + 1) (A.deeper env) (fun a => (X a).isSome = true) (fun _ => False) s P env (csp 5 1).names (([("self" : Str)] : List Str) ++ ([("ch" : Str)] : List Str)) PMap.none X₁ P₁ ((([("self" : Str)] : List Str) ++ ([("ch" : Str)] : List Str)).zip [some (.raw (.ref L.x)), some (sV (rdOne rest))]) s₁ →
        LexX prog w L X₁ P₁ pb (rest.drop 1) ln → Run prog w (A.deeper env) env ((cbd 5 1).drop 1) (fun f s' => EndsX prog w X P s (retOf f) (sV (rdOne rest)) (fun X' P' => LexX prog w L X' P' pb (rest.drop 1) (ln + lnOne rest)) s') s₁ := by
      intro X₁ P₁ s₁ F h₁
      (refine el3x2 (h₁.ins) ?_; intro t u mA hI hA)
      (refine el0x7 (@lexM_get L ln t u) ?_; intro g1 g2 g3 g4 g5 g6 g7)
      refine sc_if F (dent_cmp (den_var (zm 1 rfl rfl)) (den_txt [10] (by decide +kernel)) cmp_eqT) (fun hb s₂ P₂ F l₂ => ?_) (fun hb s₂ P₂ F l₂ => sc_nil (then_next ?_))
      · have hl : lnOne rest = 1 := by unfold lnOne; rw [if_pos (by simpa [rdOne] using hb)]
        refine sc_of (wpAny_AugAssign_AttributeAny (F.evald (den_var (zm 0 rfl rfl)) fun v s₃ P₃ F₃ l₃ k₃ r₃ => ?_))
        (have h := Rp.raw_inv r₃; clear r₃; subst h)
        refine getX F₃ Lc.c hI Lc.a1 ob_lineno (by rw [hA]; exact g1) rfl fun s₄ F₄ _ => F₄.evald den_int fun v s₅ P₅ F₅ l₅ k₅ r₅ => ?_
        (refine Rp.int_el r₅ ?_; clear r₅; intro _ h; subst h)
        refine PySem.P.iadd_int ?_
        have F₆ := F₅.move (tk := s₅.toks + 1) (Keep.refl _) (PMap.le_refl _) F₅.cx.sub (Grew.refl _ _)
        refine setX F₆ Lc.c hI Lc.a1 ob_lineno (lexM_within hA) (by simp) fun s₇ od' F₇ hI' => then_next (sc_nil (then_next ?_))
        (refine el2x2 (h₁.pbl) ?_; intro bvs bk hB hbr)
        (refine el2x2 (h₁.sgn) ?_; intro svs sk hS hsr)
        have ll : PMap.le P₁ P₅ := (l₂.trans l₃).trans l₅
        refine sc_ret F₇ (den_var (zm 1 rfl rfl)) fun v s' P' F' l r => F'.endsX r ⟨(in3x2 s₅.toks u _ hI' (by rw [hl]; exact lexM_line hA)), (in2x2 bvs bk ?_ ((hbr.mono ll).mono l)), (in2x2 svs sk ?_ ((hsr.mono ll).mono l)), (h₁.rd.mono ll).mono l, h₁.n1, h₁.n2, h₁.n3, h₁.n4, h₁.n5, h₁.tb.put h₁.tb.d⟩
        · simp [PMap.put, h₁.n5, hB]
        · simp [PMap.put, h₁.n3, hS]
      · have hl : lnOne rest = 0 := by unfold lnOne; rw [if_neg (by simpa [rdOne] using hb)]
        exact sc_ret F (den_var (zm 1 rfl rfl)) fun v s' P' F' l r => F'.endsX r (by rw [hl, Int.add_zero]; exact (h₁.mono l₂).mono l)
    refine sc_of (wpAny_Assign_Name (MethodCall_ (Attribute_Name_ (F.evald (den_var (zm 0 rfl rfl)) fun v s₂ P₂ F₂ l₂ k₂ r₂ => ?_)) (attrCall_eq rfl rfl rfl)) rfl)
    (have h := Rp.raw_inv r₂; clear r₂; subst h)
    refine getX F₂ Lc.c hI Lc.a4 ob_instream (by rw [hA]; exact g4) rfl fun s₃ F₃ _ => ?_
    have h₂ := h.mono l₂
    obtain ⟨⟨ost, ods, ds, es, ep, p1, p2, ⟨fd0, p3⟩, p4, p5, p6, p7, p8⟩, ⟨orf, fd, q1, q2, _⟩, _⟩ := h₂.rd
    have bs := F₃.cx.sub
    refine fn_getMethod (bs _ _ p1) p2 (fun c hc => by rw [p3] at hc; cases hc) p4 (in3x4 ods es ep (bs _ _ p5) p6 p7 p8) (if_pos rfl) ?_
    have F₄ := F₃.move (tk := s₃.toks + 1) (Keep.refl _) (PMap.le_refl _) F₃.cx.sub (Grew.refl _ _)
    refine callWith_function (o := orf) (fd := fd) ?_
    refine evalArgs_plain (spliced_cons (F₄.evald (den_k 1) fun v s₅ P₅ F₅ l₅ k₅ r₅ => spliced_nil ⟨⟨F₅.cx.sub _ _ (l₅ _ _ q1), q2⟩, ?_⟩))
    have h₅ := h₂.mono l₅
    (refine el2x2 (h₅.sgn) ?_; intro vs k hS hvs)
    have hvl := hvs.length
    simp only [Array.length_toList, List.length_map, List.length_reverse] at hvl
    refine call_read (v := v) h₅.rd F₅.cx.ok F₅.cx.base F₅.cx.sub F₅.cx.room (F₅.mux _ _ hS) (F₅.disX _ _ hS) (by exact lin [_, _] [.L 1 (.V 0) (.N 10000), .E 1 (.V 1) (.V 0)] (.L 1 (.V 1) (.N 10000)) rfl hz hvl) (fun h0 h' tk t' k' => ?_) (fun uu hu h' tk vs' k' hdl hS' kk => ?_)
    · have hr : rest = [] := List.length_eq_zero_iff.mp (by exact Nat.le_antisymm (lin [_, _] [.Q 1 (.V 0) (.V 1), .E 1 (.V 0) (.N 0)] (.L 1 (.V 1) (.N 0)) rfl hvl h0) (lin [_] [] (.L 1 (.N 0) (.V 0)) rfl))
      subst hr
      have F₆ := F₅.move (tk := tk) k' (PMap.le_refl _) (F₅.cx.sub.keep k') (Grew.refl _ _)
      exact F₆.store (pv := sV (rdOne [])) (gm 1 rfl) (turned_zip F.nd (i := 1) rfl (.there .here)) (.str _ _) fun s₇ F₇ => then_next (tail _ _ _ F₇ (h₅.mono (PMap.le_refl _)))
    · have hrl : rest ≠ [] := fun e => by subst e; rw [List.length_nil] at hvl; have := (Array.getElem?_eq_some_iff.mp hu).1; exact lin [_, _] [.E 1 (.V 0) (.N 0), .T 1 (.V 1) (.V 0)] .F rfl hvl this
      (refine el2x1 (List.exists_cons_of_ne_nil hrl) ?_; intro c r hZ; subst hZ)
      have F₆ := F₅.turnX (tk := tk) hS hS' kk
      have hlast : Rp prog w P₅ uu (sV [c]) := by
        have e : ((c :: r).reverse.map fun c => sV [c])[vs.size - 1]? = some (sV [c]) := by
          rw [List.getElem?_map]
          have : vs.size - 1 = r.reverse.length := by simp at hvl ⊢; lia
          rw [this, List.reverse_cons, List.getElem?_append_right (Nat.le_refl _), Nat.sub_self]; rfl
        (refine el1x2 (hvs.get e) ?_; intro v' hv' rv')
        rw [Array.getElem?_toList] at hv'
        rw [hu] at hv'; (have h := Option.some.inj hv'; clear hv'; subst h); exact rv'
      have hdrop : RpL prog w P₅ vs'.toList (r.reverse.map fun c => sV [c]) := by
        rw [hdl]
        have : ∀ {vs : List Value} {ds : List PV}, RpL prog w P₅ vs ds → RpL prog w P₅ vs.dropLast ds.dropLast := by
          intro vs ds h
          induction h using RpL.rec (motive_1 := fun _ _ _ => True) with
          | nil => exact .nil
          | cons h r ih1 ih => cases r with
            | nil => exact .nil
            | cons h' r' => exact .cons h ih
          | _ => trivial
        have := this hvs
        rwa [List.reverse_cons, List.map_append, List.map_cons, List.map_nil, List.dropLast_concat] at this
      have hI' := hI.put (o := { cls := .type "list", data := .seq vs' k' }) h₅.n2 h₅.n3
      (refine el2x2 (h₅.pbl) ?_; intro bvs bk hB hbr)
      refine F₆.store (pv := sV (rdOne (c :: r))) (gm 1 rfl) (turned_zip F.nd (i := 1) rfl (.there .here)) hlast fun s₇ F₇ => then_next (tail _ _ _ F₇ ⟨(in3x2 t u mA hI' hA), (in2x2 bvs bk ?_ hbr), (in2x2 vs' k' (PMap.put_self _ _ _) hdrop), h₅.rd, h₅.n1, h₅.n2, h₅.n3, h₅.n4, h₅.n5, h₅.tb.put h₅.tb.s⟩)
      simp [PMap.put, Ne.symm h₅.n1, hB]
theorem rc_call {mN : Str → Option Value} {fR fG fP : Addr} {s : Shared} (Lc : LexC G L mN fR fG fP) (ok : GOk G) (le : PMap.le G.K P) (b : Sub P s.heap) (rm : Room (n + 2) A) (bX : Sub X s.heap) (dX : ∀ a o, X a = some o → P a = none) (h : LexX prog w L X P pb rest ln) (hz : rest.length ≤ 10000) :
    wpAny (model prog w) A (call (.ref fR) [.ref L.x]) (fun v s' => EndsX prog w X P s v (sV (rdOne rest)) (fun X' P' => LexX prog w L X' P' pb (rest.drop 1) (ln + lnOne rest)) s') (fun _ _ => False) s := (rc_code Lc ok le b rm bX dX h hz).call
end
section
open Builtin Builtin.ObjectAttr
theorem fn_noset : typeLookup (.type "function") "__set__" = pure none := by rw [typeLookup_type, builtinLookup_eq_fast]; kernel_rfl
theorem fn_nodelete : typeLookup (.type "function") "__delete__" = pure none := by rw [typeLookup_type, builtinLookup_eq_fast]; kernel_rfl
section
variable {prog : Program} {w : World} {A : Around} {E : Value → Shared → Prop} {h : Heap} {g : Array GenState} {d : Drawn} {t : Nat} {os : OsState}
variable {nm q : Str} {C N x f : Addr} {bs : List Value} {sn : List Str} {sub : List Value} {ab : Bool} {col : Option Bool} {dd : Option Addr} {k0 k1 k2 k3 k5 : Option Value} {newId : String} {mN mA : Str → Option Value} {name : Str} {v : Value}
set_option tactic.hygienic true in
theorem bound_entry {tk : Tok} {of : Obj} {Q : Fin → Shared → Prop}
    (hC : h.get? C = some (excClassObj nm q C N bs [.type "object"] true sn sub ab col dd k0 k1 k2 k3 k5 newId)) (hn : h.Ns N mN) (hf : mN name = some (.ref f)) (hng : mN "__getattr__" = none) (hfo : h.get? f = some of) (hfc : of.cls = .type "function")
    (hB : typeLookup (.type "object") name = pure none) {o : Obj} {dx : Addr} (hx : h.get? x = some o) (hc : o.cls = .ref C) (hnc : ∀ c, o.data ≠ .cls c) (hdx : o.dict = some dx) (hns : h.Ns dx mA) (hv : mA name = none) (hcp : (["__module__", "__name__", "__qualname__", "__doc__", "__annotations__"] : List Str).contains name = false)
    (hq : Q (.done (.ret (.ref h.objs.size))) ⟨h.push { cls := .type "method", data := .fields #[.ref f, .ref x] }, g, d, t, os⟩) :
    wpAny (model prog w) A (Builtin.«proto.getattr_hooked» ⟨[.ref x, .str name tk], []⟩) Q E ⟨h, g, d, t, os⟩ := by
  have hTf : (⟨h, g, d, t, os⟩ : Shared).TypeIs (.ref f) "function" := (in1x2 _ hfo hfc)
  have hlk := PySem.F.ks_slot_function_get.lookup
  unfold Builtin.«proto.getattr_hooked»
  repeat (first | (with_reducible refine wpAny_loadPart_at hx ?_; rw [hc]) | (with_reducible refine wpAny_typeLookup_exc hC hn PySem.F.mro_object hB ?_; rw [hf]) | (with_reducible refine wpAny_specialOf hTf hlk ?_) | (with_reducible refine wpAny_specialOf hTf fn_noset ?_) | (with_reducible refine wpAny_specialOf hTf fn_nodelete ?_) | wp_step)
  split
  · rename_i c hcd
    exact absurd hcd (hnc c)
  unfold instanceDict
  repeat (first | (with_reducible refine wpAny_loadPart_at hx ?_; rw [hc]) | (with_reducible refine wpAny_loadPart_at hC ?_) | wp_step)
  rw [hdx]
  repeat (first | (with_reducible refine wpAny_nsGet hns ?_; rw [hv]) | wp_step)
  rw [if_neg (by rw [hcp]; exact Bool.false_ne_true)]
  repeat (first | (with_reducible refine wpAny_typeLookup_exc hC hn PySem.F.mro_object PySem.F.lk_object_getattr ?_; rw [hng]) | (with_reducible refine wpAny_call_entry PySem.F.ks_slot_function_get hTf PySem.F.ks_entry_function_get ?_ (PySem.F.ks_getArgs_function _ _ _)) | (with_reducible refine (in1x2 _ rfl ?_)) | wp_step | dsimp only)
  all_goals exact hq
theorem bound_attr {expr : Bool} {of : Obj} {Q : Value → Shared → Prop}
    (hC : h.get? C = some (excClassObj nm q C N bs [.type "object"] true sn sub ab col dd k0 k1 k2 k3 k5 newId)) (hn : h.Ns N mN) (hf : mN name = some (.ref f)) (hng : mN "__getattr__" = none) (hna : mN "__getattribute__" = none) (hfo : h.get? f = some of) (hfc : of.cls = .type "function")
    (hB : typeLookup (.type "object") name = pure none) {o : Obj} {dx : Addr} (hx : h.get? x = some o) (hc : o.cls = .ref C) (hnc : ∀ c, o.data ≠ .cls c) (hdx : o.dict = some dx) (hns : h.Ns dx mA) (hv : mA name = none) (hcp : (["__module__", "__name__", "__qualname__", "__doc__", "__annotations__"] : List Str).contains name = false)
    (hq : Q (.ref h.objs.size) ⟨h.push { cls := .type "method", data := .fields #[.ref f, .ref x] }, g, d, t + 1, os⟩) : wpAny (model prog w) A (getAttr (.ref x) name expr) Q E ⟨h, g, d, t, os⟩ := by
  unfold getAttr getAttrBy
  repeat (first | (with_reducible refine wpAny_loadPart_at hx ?_; rw [hc]) | (with_reducible refine wpAny_typeLookup_exc hC hn PySem.F.mro_object PySem.F.lk_object_ga ?_; rw [hna]) | wp_step)
  show wpAny _ _ ((runValue (.builtin "proto.getattr_hooked" ⟨[.ref x, .str name t], []⟩)).onRaise (noteIf true (.ref x) (.str name t))) _ _ _
  refine wpAny_onRaise (wpAny_runValue (codeAny_builtin PySem.F.plainObj_entry_getattr_hooked (bound_entry hC hn hf hng hfo hfc hB hx hc hnc hdx hns hv hcp ?_)))
  exact wpAny_pure hq
end
section
variable {prog : Program} {w : World} {G : GC} {n : Nat} {A : Around} {W V : Addr → Prop} {s₀ : Shared} {P₀ : PMap} {env : Env} {sc : Scp} {xs : List Str} {M X P : PMap} {σ : Sto} {s : Shared}
theorem boundX {x dx C f : Addr} {i j : Nat} {name : Str} {mN mA : Str → Option Value} {Q : Value → Shared → Prop} (F : Fn prog w G n A W V s₀ P₀ env sc xs M X P σ s) (c : ClsF G.K C mN) (m : Mf G.K mN name i j f) (hI : InsM X x dx C mA) (hB : typeLookup (.type "object") name = pure none) (hv : mA name = none)
    (hcp : (["__module__", "__name__", "__qualname__", "__doc__", "__annotations__"] : List Str).contains name = false)
    (h : ∀ s' b P', Fn prog w G n A W V s₀ P₀ env sc xs M X P' σ s' → PMap.le P P' → P' b = some { cls := .type "method", data := .fields #[.ref f, .ref x] } → Q (.ref b) s') : wpAny (model prog w) A (getAttr (.ref x) name true) Q (fun _ _ => False) s := by
  (refine el4x10 hI ?_; clear hI; intro ox od es ep h1 h2 h3 h4 h5 h6 h7 h8 h9 h10)
  (refine el0x4 c ?_; clear c; intro hZ; obtain ⟨nm, q, N, bs, sn, sub, col, dd, k0, k1, k2, k3, k5, hC, hN⟩ := hZ; intro n1 n2 n3)
  (refine el0x3 m ?_; clear m; intro m1 hZ; refine el2x3 hZ ?_; clear hZ; intro of fd hof hfd _; intro m3)
  have bK : Sub G.K s.heap := fun a o e => F.cx.sub a o (F.cx.base a o e)
  obtain ⟨hp, g, d, t, os⟩ := s
  have fz : hp.get? hp.objs.size = none := fresh_size (Nat.le_refl _)
  have nz : P hp.objs.size = none := F.cx.sub.fresh fz
  have kp : Keep hp (hp.push { cls := .type "method", data := .fields #[.ref f, .ref x] }) := Keep.push _ _
  refine bound_attr (bK _ _ hC) (hN.ns bK) m1 n2 n1 (bK _ _ hof) (m3 _ hof) hB (F.mux _ _ h1) h2 h3 h4 (in3x4 od es ep (F.mux _ _ h6) h7 h8 h10) hv hcp ?_
  exact h _ _ _ (F.move (tk := t + 1) kp (PMap.put_le nz) (PMap.put_sub (F.cx.sub.keep kp) (Heap.get?_push_size _ rfl)) (PMap.put_grew (Grew.refl _ _) fz)) (PMap.put_le nz) (PMap.put_self _ _ _)
end
end
section
open Builtin
theorem it_entry : entryFor table "iter" = some Builtin.«iter» := entryFor_of_fast (by kernel_rfl)
theorem it_kind : builtinKind "iter" = none := by decide +kernel
theorem it_plain : plainId "iter" = true := by decide +kernel
theorem it_args (a b : Value) : argsOk "iter" ⟨[a, b], []⟩ := by unfold argsOk; kernel_rfl
theorem md_call : typeLookup (.type "method") "__call__" = pure (some (.builtin "method.__call__")) := by rw [typeLookup_type, builtinLookup_eq_fast]; kernel_rfl
theorem ci_next : Slot "callable_iterator" "__next__" "callable_iterator.__next__" :=
  .of (owner := "callable_iterator") (n := "__next__") (by rw [typeLookup_type, builtinLookup_eq_fast]; kernel_rfl) (by decide +kernel) (by decide +kernel) (by decide +kernel)
    (by first | exact .inl (by decide +kernel) | exact .inr (by decide +kernel)) (by rw [isSubtype_type]; kernel_rfl)
theorem ci_iter : Slot "callable_iterator" "__iter__" "callable_iterator.__iter__" :=
  .of (owner := "callable_iterator") (n := "__iter__") (by rw [typeLookup_type, builtinLookup_eq_fast]; kernel_rfl) (by decide +kernel) (by decide +kernel) (by decide +kernel)
    (by first | exact .inl (by decide +kernel) | exact .inr (by decide +kernel)) (by rw [isSubtype_type]; kernel_rfl)
theorem ci_entry_next : entryFor table "callable_iterator.__next__" = some Builtin.«callable_iterator.__next__» := entryFor_of_tree (by kernel_rfl)
theorem ci_args_next (a : Value) : argsOk "callable_iterator.__next__" ⟨[a], []⟩ := by unfold argsOk; kernel_rfl
theorem ci_args_iter (a : Value) : argsOk "callable_iterator.__iter__" ⟨[a], []⟩ := by unfold argsOk; kernel_rfl
end
section
open Builtin
section
variable {prog : Program} {w : World} {A : Around} {E : Value → Shared → Prop} {h : Heap} {g : Array GenState} {d : Drawn} {t : Nat} {os : OsState} {s : Shared}
theorem wpAny_callBorrowed {M : Model} {f : Value} {pos : List Value} {Q : Value → Shared → Prop}
    (hc : codeAny M A (.call f ⟨pos, []⟩) (fun r s' => match r with | .ok (.ret v) => Q v s' | .ok _ => False | .error e => E e s') s) : wpAny M A (callBorrowed f pos) Q E s := fun Γ p hΓ => by
  unfold callBorrowed
  unfold Sem.wp
  refine wpCode_mono (fun r s' h' => ?_) (hc _ p rfl (hΓ.enter (.call f ⟨pos, []⟩) none p (by intro x; exact no1 x)))
  cases r with
  | ok v => cases v <;> first | exact h'.elim | (unfold Sem.wp; exact h')
  | error e => unfold Sem.wp; exact h'
theorem iter_call {b f : Addr} {x : Value} {e : Str} {tk : Tok} {Q : Value → Shared → Prop} (hb : h.get? b = some { cls := .type "method", data := .fields #[.ref f, x] })
    (hq : Q (.ref h.objs.size) ⟨h.push { cls := .type "callable_iterator", data := .fields #[.ref b, .str e tk, .bool false] }, g, d, t, os⟩) :
    wpAny (model prog w) A (call (.builtin "iter") [.ref b, .str e tk]) Q E ⟨h, g, d, t, os⟩ := by
  have hT : (⟨h, g, d, t, os⟩ : Shared).TypeIs (.ref b) "method" := (in1x2 _ hb rfl)
  refine call_function_entry it_kind it_plain it_entry (it_args _ _) ?_
  unfold Builtin.«iter»
  refine wpAny_bind (m := someArgs _ _ _ _) (wpAny_of_eq (a := [.ref b, .str e tk]) rfl ?_)
  refine wpAny_bind (wpAny_specialOf hT md_call ?_)
  repeat (first | wp_step)
  exact (in1x2 _ rfl hq)
theorem borrows_method {b f : Addr} {x : Value} {o : Obj} {fd : FuncData} {Q : Bool → Shared → Prop} (hb : s.heap.get? b = some { cls := .type "method", data := .fields #[.ref f, x] }) (hf : s.heap.get? f = some o) (hd : o.data = .func fd) (hq : Q true s) :
    wpAny (model prog w) A (borrowsExactly (.ref b)) Q E s := by
  unfold borrowsExactly
  refine wpAny_bind (wpAny_load hb ?_)
  refine wpAny_bind (wpAny_load hf ?_)
  rw [hd]
  exact wpAny_pure hq
structure CallIt (s : Shared) (it b f : Addr) (x : Value) (e : Str) (tk : Tok) : Prop where
  i : s.heap.get? it = some { cls := .type "callable_iterator", data := .fields #[.ref b, .str e tk, .bool false] }
  b : s.heap.get? b = some { cls := .type "method", data := .fields #[.ref f, x] }
  f : ∃ o fd, s.heap.get? f = some o ∧ o.data = .func fd
theorem isSubtype_stop' : isSubtype (.type "StopIteration") (.type "StopIteration") = pure true := by rw [isSubtype_type]; kernel_rfl
theorem next_call {it b f : Addr} {x : Value} {e : Str} {tk : Tok} {Q : Option Value → Shared → Prop} (hh : A.handled = none) (hi : CallIt s it b f x e tk)
    (hc : Called prog w A.in1 (.ref f) [x] (fun v s' => CallIt s' it b f x e tk ∧ ∃ y u, v = .str y u ∧ (y ≠ e → Q (some v) s') ∧ (y = e → ∀ h', Heap.ExtBut it s'.heap h' → h'.get? it = some { cls := .type "callable_iterator", data := .fields #[.none, .none, .bool true] } → Q none { s' with heap := h' })) s) :
    wpAny (model prog w) A (pyNext (.ref it)) Q E s := by
  have hT : s.TypeIs (.ref it) "callable_iterator" := (in1x2 _ hi.i rfl)
  (refine el2x2 (hi.f) ?_; intro o fd ho hd)
  unfold pyNext
  refine wpAny_bind (wpAny_attempt (wpAny_callSpecial?_slot (name := Str.ofString "__next__") hT ci_next
    (wpAny_call_entry ci_next hT ci_entry_next ?_ (ci_args_next _))))
  show wpAny _ _ (field (.ref it) 2 >>= _) _ _ s
  refine wpAny_bind (wpAny_field hi.i rfl (x := .bool false) rfl ?_)
  rw [if_neg (show ¬ ((Value.bool false == Value.bool true) = true) by decide +kernel)]
  refine wpAny_bind (m := field _ _) (wpAny_field hi.i rfl (x := .ref b) rfl ?_)
  have hbr : ∀ {s' : Shared} {A : Around} {E : Value → Shared → Prop} {Q : Bool → Shared → Prop}, CallIt s' it b f x e tk → Q true s' → wpAny (model prog w) A (borrowsExactly (.ref b)) Q E s' := by
    intro s' A E Q hi' hq
    (refine el2x2 (hi'.f) ?_; intro o fd ho hd)
    exact borrows_method hi'.b ho hd hq
  refine wpAny_bind (wpAny_attempt ?_)
  unfold callOutOfASlot
  refine wpAny_bind (hbr hi ?_)
  rw [if_pos rfl]
  refine wpAny_callBorrowed (ks_codeAny_call_bound hi.b ?_)
  refine codeAny_mono hc.c fun r s' q => ?_
  obtain ⟨v, rfl⟩ : ∃ v, r = .ok (.ret v) := by
    cases r with
    | error e => exact q.elim
    | ok fl => cases fl <;> first | exact ⟨_, rfl⟩ | exact q.elim
  (refine el0x2 q ?_; clear q; intro hi' hZ; refine el2x3 hZ ?_; clear hZ; intro y u hZ; subst hZ; intro h1 h2)
  show wpAny _ _ (field (.ref it) 2 >>= _) _ _ s'
  refine wpAny_bind (wpAny_field hi'.i rfl (x := .bool false) rfl ?_)
  rw [if_neg (show ¬ ((Value.bool false == Value.bool true) = true) by decide +kernel)]
  refine wpAny_bind (m := field _ _) (wpAny_field hi'.i rfl (x := .str e tk) rfl ?_)
  refine wpAny_bind (wpAny_holding (wpAny_eqBool_str ?_))
  by_cases hy : y = e
  · rw [show decide (e = y) = true from decide_eq_true hy.symm]
    rw [if_neg (show ¬ ((!true) = true) by decide)]
    refine wpAny_bind (wpAny_rule (wpAny_bind ?_))
    show wpAny _ _ (field (.ref it) 0 >>= _) _ _ s'
    refine wpAny_bind (wpAny_field hi'.i rfl (x := .ref b) rfl ?_)
    refine wpAny_bind (m := slotLetsGo _ _ _) ?_
    unfold slotLetsGo
    refine wpAny_bind (hbr hi' ?_)
    rw [if_pos rfl]
    refine wpAny_pure ?_
    refine wpAny_bind (m := setField _ _ _) (wpAny_setField hi'.i rfl (by simp) ?_)
    refine wpAny_bind (m := setField _ _ _) (wpAny_setField (Heap.get?_update_self _ hi'.i (Obj.isFreed_of_fields (Obj.data_mapFields rfl _))) (Obj.data_mapFields rfl _) (by simp) ?_)
    refine wpAny_setField (Heap.get?_update_self _ (Heap.get?_update_self _ hi'.i (Obj.isFreed_of_fields (Obj.data_mapFields rfl _))) (Obj.isFreed_of_fields (Obj.data_mapFields (Obj.data_mapFields rfl _) _))) (Obj.data_mapFields (Obj.data_mapFields rfl _) _) (by simp) ?_
    show wpAny _ _ (newExc (.type "StopIteration") [] >>= _) _ _ _
    refine wpAny_bind ?_
    simp only [newExc, newTuple]
    refine wpAny_bind (wpAny_newObj_type ?_ (by size_fits))
    refine wpAny_bind (m := firstArgMember _ _) (wpAny_of_eq (a := Value.none) (by first | rfl | (simp only [firstArgMember]; rfl)) ?_)
    refine wpAny_newObj_type ?_ (by size_fits)
    simp only [raiseNew]
    refine wpAny_bind (wpAny_handled ?_)
    first | rw [show A.in1.handled = none from hh] | rw [hh]
    refine wpAny_bind (wpAny_pure (wpAny_throw ?_))
    refine wpAny_bind (wpAny_isInstance (T := "StopIteration") (b := true) (in1x2 _ (Heap.get?_push_size _ rfl) rfl) isSubtype_stop' ?_)
    refine wpAny_pure (h2 hy _ ?_ ?_)
    · exact ((((Heap.SameBut.update ..).trans (Heap.SameBut.update ..)).trans (Heap.SameBut.update ..)).extBut.push _).push _
    · have e1 := Heap.get?_update_self (fun o => o.mapFields fun x => x.setIfInBounds 0 .none) hi'.i (Obj.isFreed_of_fields (Obj.data_mapFields rfl _))
      have e2 := Heap.get?_update_self (fun o => o.mapFields fun x => x.setIfInBounds 1 .none) e1 (Obj.isFreed_of_fields (Obj.data_mapFields (Obj.data_mapFields rfl _) _))
      have e3 := Heap.get?_update_self (fun o => o.mapFields fun x => x.setIfInBounds 2 (.bool true)) e2 (Obj.isFreed_of_fields (Obj.data_mapFields (Obj.data_mapFields (Obj.data_mapFields rfl _) _) _))
      exact (Heap.get?_push_of_some _ (Heap.get?_push_of_some _ e3))
  · rw [show decide (e = y) = false from decide_eq_false fun q => hy q.symm]
    exact wpAny_pure (in1x2 _ rfl (wpAny_pure (h1 hy)))
theorem next_dead {it : Addr} {Q : Option Value → Shared → Prop} (hh : A.handled = none) (hi : s.heap.get? it = some { cls := .type "callable_iterator", data := .fields #[.none, .none, .bool true] })
    (hq : ∀ h', Keep s.heap h' → Q none { s with heap := h' }) : wpAny (model prog w) A (pyNext (.ref it)) Q E s := by
  have hT : s.TypeIs (.ref it) "callable_iterator" := (in1x2 _ hi rfl)
  unfold pyNext
  refine wpAny_bind (wpAny_attempt (wpAny_callSpecial?_slot (name := Str.ofString "__next__") hT ci_next
    (wpAny_call_entry ci_next hT ci_entry_next ?_ (ci_args_next _))))
  show wpAny _ _ (field (.ref it) 2 >>= _) _ _ s
  refine wpAny_bind (wpAny_field hi rfl (x := .bool true) rfl ?_)
  rw [if_pos (show ((Value.bool true == Value.bool true) = true) by decide +kernel)]
  refine wpAny_bind (wpAny_rule (wpAny_bind ?_))
  show wpAny _ _ (newExc (.type "StopIteration") [] >>= _) _ _ _
  refine wpAny_bind ?_
  simp only [newExc, newTuple]
  refine wpAny_bind (wpAny_newObj_type ?_ (by size_fits))
  refine wpAny_bind (m := firstArgMember _ _) (wpAny_of_eq (a := Value.none) (by first | rfl | (simp only [firstArgMember]; rfl)) ?_)
  refine wpAny_newObj_type ?_ (by size_fits)
  simp only [raiseNew]
  refine wpAny_bind (wpAny_handled ?_)
  first | rw [show A.in1.handled = none from hh] | rw [hh]
  refine wpAny_bind (wpAny_pure (wpAny_throw ?_))
  refine wpAny_bind (wpAny_isInstance (T := "StopIteration") (b := true) (in1x2 _ (Heap.get?_push_size _ rfl) rfl) isSubtype_stop' ?_)
  exact wpAny_pure (hq _ ((Keep.push _ _).trans (Keep.push _ _)))
end
end
section
open Builtin
theorem Room.in1 {n : Nat} {A : Around} (r : Room (n + 1) A) : Room n A.in1 := ⟨r.hd, by have := r.dp; show A.depth + n < _; exact lin [_, _, _] [.T 1 (.A (.V 0) (.A (.V 1) (.N 1))) (.V 2)] (.T 1 (.A (.V 0) (.V 1)) (.V 2)) rfl this, by have := r.un; show A.units + 1 + 80 + 10 * n < _; exact lin [_, _, _] [.T 1 (.A (.A (.V 0) (.N 80)) (.M 10 (.A (.V 1) (.N 1)))) (.V 2)] (.T 1 (.A (.A (.A (.V 0) (.N 1)) (.N 80)) (.M 10 (.V 1))) (.V 2)) rfl this⟩
structure FIt (M P : PMap) (L : LexA) (fR it b : Addr) (live : Bool) : Prop where
  m : P b = some { cls := .type "method", data := .fields #[.ref fR, .ref L.x] }
  i : ∃ tk, M it = some { cls := .type "callable_iterator", data := if live then .fields #[.ref b, .str (tx []) tk, .bool false] else .fields #[.none, .none, .bool true] }
theorem FIt.mono {M P P' : PMap} {L : LexA} {fR it b : Addr} {live : Bool} (h : FIt M P L fR it b live) (l : PMap.le P P') : FIt M P' L fR it b live := ⟨l _ _ h.m, h.i⟩
section
variable {prog : Program} {w : World} {G : GC} {n : Nat} {A : Around} {W V : Addr → Prop} {s₀ : Shared} {P₀ : PMap} {env : Env} {sc : Scp} {xs : List Str} {M X P : PMap} {σ : Sto} {s : Shared} {L : LexA} {pb : List (List Nat)} {rest : List Nat} {ln : Int}
noncomputable def nextOf (live : Bool) (rest : List Nat) : Option Nat := if live then rest.head? else none
theorem next_lex {mN : Str → Option Value} {fR fG fP it b : Addr} {live : Bool} {Q : Option Value → Shared → Prop} (F : Fn prog w G (n + 3) A W V s₀ P₀ env sc xs M X P σ s) (Lc : LexC G L mN fR fG fP) (h : LexX prog w L X P pb rest ln) (hz : rest.length ≤ 10000) (hi : FIt M P L fR it b live)
    (hs : ∀ c r, live = true → rest = c :: r → ∀ s' X' P' v, Fn prog w G (n + 3) A W V s₀ P₀ env sc xs M X' P' σ s' → PMap.le P P' → Rp prog w P' v (sV [c]) → LexX prog w L X' P' pb r (ln + lnOne [c]) → FIt M P' L fR it b true → Q (some v) s')
    (hn : nextOf live rest = none → ∀ s' M' X' P', Fn prog w G (n + 3) A W V s₀ P₀ env sc xs M' X' P' σ s' → PMap.le P P' → LexX prog w L X' P' pb rest ln → FIt M' P' L fR it b false → (∀ a, a ≠ it → M' a = M a) → Q none s') :
    wpAny (model prog w) A (pyNext (.ref it)) Q (fun _ _ => False) s := by
  have hh := F.cx.room.hd
  obtain ⟨hm, tk, hM⟩ := hi
  have bK : Sub G.K s.heap := fun a o e => F.cx.sub a o (F.cx.base a o e)
  cases live with
  | false =>
    refine next_dead hh (F.muo _ _ hM) fun h' k => ?_
    exact hn rfl _ M X P (F.move (tk := s.toks) k (PMap.le_refl _) (F.cx.sub.keep k) (Grew.refl _ _)) (PMap.le_refl _) h ⟨hm, tk, hM⟩ fun _ _ => rfl
  | true =>
    have hfn : ∃ o fd, G.K fR = some o ∧ o.data = .func fd := by
      (refine el2x3 (Lc.r.2.1) ?_; intro o fd ho hfd _)
      exact (in2x2 o fd ho hfd)
    (refine el2x2 hfn ?_; clear hfn; intro of fd hof hfd)
    have ci : ∀ {s' : Shared} {M' X' P' : PMap}, Fn prog w G (n + 3) A W V s₀ P₀ env sc xs M X' P' σ s' → PMap.le P P' → CallIt s' it b fR (.ref L.x) (tx []) tk := fun F' l =>
      ⟨F'.muo _ _ hM, F'.cx.sub _ _ (l _ _ hm), of, fd, F'.cx.sub _ _ (F'.cx.base _ _ hof), hfd⟩
    refine next_call (x := .ref L.x) (e := tx []) (tk := tk) hh (ci (M' := M) F (PMap.le_refl _)) ?_
    have rc := rc_code (n := n) Lc F.cx.ok F.cx.base F.cx.sub (Room.in1 F.cx.room) F.mux F.disX h hz
    refine ⟨codeAny_mono rc.c fun r s' q => ?_⟩
    obtain ⟨v, rfl⟩ : ∃ v, r = .ok (.ret v) := by
      cases r with
      | error e => exact q.elim
      | ok fl => cases fl <;> first | exact ⟨_, rfl⟩ | exact q.elim
    (refine el2x5 (F.behind q) ?_; intro X' P' F' l r lx _)
    refine ⟨ci (M' := M) F' l, ?_⟩
    unfold sV at r
    (refine Rp.str_el r ?_; clear r; intro u hZ; subst hZ)
    refine (in2x3 _ u rfl (fun ne => ?_) (fun eq h' hx hself => ?_))
    · cases rest with
      | nil => exact absurd rfl ne
      | cons c r => exact hs c r rfl rfl _ X' P' _ F' l (.str _ _) lx ⟨l _ _ hm, tk, hM⟩
    · cases rest with
      | nil =>
        have F₂ := F'.turn (tk := s'.toks) hM hself (fun b ob ne e => hx b ob ne e)
        have : ln + lnOne [] = ln := by show ln + 0 = ln; lia
        rw [this] at lx
        exact hn rfl _ _ X' P' F₂ l lx ⟨l _ _ hm, tk, PMap.put_self _ _ _⟩ fun a ha => if_neg ha
      | cons c r => exact absurd (tx_inj.mp eq) (by simp [rdOne])
end
end
section
open Builtin
theorem ci_entry_iter : entryFor table "callable_iterator.__iter__" = some Builtin.«dict_keyiterator.__iter__» :=
  entryFor_alias (id' := "dict_keyiterator.__iter__") (by kernel_rfl) rfl (by decide +kernel) (by kernel_rfl)
noncomputable def ForQ (N : Shared → Prop) (Q : Flow → Shared → Prop) : Flow → Shared → Prop := fun f s => match f with
  | .next | .cont => N s
  | .brk => False
  | .ret v => Q (.ret v) s
theorem forQ_next {N : Shared → Prop} {Q : Flow → Shared → Prop} {s : Shared} (h : N s) : ForQ N Q .next s := h
theorem forQ_cont {N : Shared → Prop} {Q : Flow → Shared → Prop} {s : Shared} (h : N s) : ForQ N Q .cont s := h
section
variable {prog : Program} {w : World} {G : GC} {n : Nat} {A : Around} {W V : Addr → Prop} {s₀ : Shared} {P₀ : PMap} {env : Env} {sc : Scp} {xs : List Str} {M X P : PMap} {σ : Sto} {s : Shared} {L : LexA} {pb : List (List Nat)} {rest : List Nat} {ln : Int} {rs : List Stmt} {Q : Flow → Shared → Prop}
theorem pyIter_ci {E : Value → Shared → Prop} {it : Addr} {o : Obj} {Q : Value → Shared → Prop} (ho : s.heap.get? it = some o) (hc : o.cls = .type "callable_iterator") (h : Q (.ref it) s) : wpAny (model prog w) A (pyIter (.ref it)) Q E s := by
  have hT : s.TypeIs (.ref it) "callable_iterator" := (in1x2 _ ho hc)
  refine wpAny_pyIter_slot hT ci_iter (wpAny_call_entry ci_iter hT ci_entry_iter ?_ (ci_args_iter _))
  show wpAny _ _ (ret (.ref it)) _ _ s
  exact wpAny_pure (in1x2 _ rfl ⟨ "callable_iterator", _, hT, ci_next.lookup, h⟩)
noncomputable def live1 (b : Bool) : Nat := if b then 1 else 0
structure Walk (prog : Program) (w : World) (G : GC) (n : Nat) (A : Around) (W V : Addr → Prop) (s₀ : Shared) (P₀ : PMap) (env : Env) (sc : Scp) (xs : List Str) (L : LexA) (fR it b : Addr) (pb : List (List Nat)) (σ : Sto) (rest : List Nat) (ln : Int) (live : Bool) (M X P : PMap) (s : Shared) : Prop where
  F : Fn prog w G (n + 3) A W V s₀ P₀ env sc xs M X P σ s
  x : LexX prog w L X P pb rest ln
  i : FIt M P L fR it b live
theorem sc_forS {mN : Str → Option Value} {fR fG fP it b : Addr} {x : Str} {tp : Pos} {iter : Expr} {body : List Stmt} {pos : Pos} {α : Type} {live : Bool} {acc : α} (σs : α → Sto) (σt : α → Nat → Sto) (I : List Nat → Int → Bool → α → Prop)
    (Z : Walk prog w G n A W V s₀ P₀ env sc xs L fR it b pb (σs acc) rest ln live M X P s) (Lc : LexC G L mN fR fG fP) (hz : rest.length ≤ 10000)
    (di : ∀ acc, Den prog w G (n + 3) sc (σs acc) iter (.raw (.ref it))) (hx : x ∈ xs) (hT : ∀ acc c, Turned x (sV [c]) (σs acc) (σt acc c)) (i0 : I rest ln live acc)
    (hB : ∀ c r ln acc M X P s, I (c :: r) ln true acc → Walk prog w G n A W V s₀ P₀ env sc xs L fR it b pb (σt acc c) r (ln + lnOne [c]) true M X P s →
      Run prog w A env body (ForQ (fun s' => ∃ rest' ln' live' acc' M' X' P', rest'.length + live1 live' < r.length + 2 ∧ I rest' ln' live' acc' ∧ Walk prog w G n A W V s₀ P₀ env sc xs L fR it b pb (σs acc') rest' ln' live' M' X' P' s') Q) s)
    (hQ : ∀ rest ln live acc M X P s, I rest ln live acc → nextOf live rest = none → Walk prog w G n A W V s₀ P₀ env sc xs L fR it b pb (σs acc) rest ln false M X P s → Run prog w A env rs Q s)
    (hs : ∀ x, foldedSetIterable iter env x = pure x := by intro _; rfl) : Run prog w A env (.For (.Name x tp) iter body [] pos :: rs) Q s := by
  have hh := Z.F.cx.room.hd
  refine sc_of (wpAny_For (Z.F.evald (di acc) fun v s₁ P₁ F₁ l₁ k₁ r₁ => ?_) hs)
  (have h := Rp.raw_inv r₁; clear r₁; subst h)
  (refine el1x1 (Z.i.i) ?_; intro tk hM)
  refine pyIter_ci (F₁.muo _ _ hM) rfl ?_
  refine codeAny_loop' rfl (fun k s' => ∃ rest' ln' live' acc' M' X' P', k = rest'.length + live1 live' ∧ rest'.length ≤ 10000 ∧ I rest' ln' live' acc' ∧ Walk prog w G n A W V s₀ P₀ env sc xs L fR it b pb (σs acc') rest' ln' live' M' X' P' s') (fun k s' hJ => ?_) (rest.length + live1 live)
    ⟨rest, ln, live, acc, M, X, P₁, rfl, hz, i0, F₁, Z.x.mono l₁, Z.i.mono l₁⟩
  obtain ⟨rest', ln', live', acc', M', X', P', rfl, hz', i', Z'⟩ := hJ
  (refine el1x1 (Z'.i.i) ?_; intro tk' hM')
  show wpAny _ A ((forTurn (.Name x tp) (.ref it) body [] env).onRaise (fun x => do noteFrame x env; theTreesLotGoes x)) _ _ s'
  refine wpAny_noted (wpAny_mono (Q := _) (E := fun _ _ => False) ?_ (fun _ _ q => q) fun _ _ f => f.elim)
  simp only [forTurn]
  refine wpAny_bind (wpAny_standAt (wpAny_bind (wpAny_onRaise (wpAny_mono (E := fun _ _ => False) (next_lex Z'.F Lc Z'.x hz' Z'.i (fun c r hl hr s₂ X₂ P₂ v F₂ l₂ r₂ x₂ i₂ => ?_) (fun hn s₂ M₂ X₂ P₂ F₂ l₂ x₂ i₂ _ => ?_)) (fun _ _ q => q) fun _ _ q => q.elim))))
  · subst hl; subst hr
    (refine el1x1 (i₂.i) ?_; intro tk₂ hM₂)
    refine wpAny_bind (letOwned_ok (in1x2 _ (F₂.muo _ _ hM₂) ⟨ _, rfl, by decide +kernel⟩) (wpAny_bind (wpAny_assign_Name ?_)))
    refine wpAny_mono (E := fun _ _ => False) (F₂.store hx (hT acc' c) r₂ fun s₃ F₃ => ?_) (fun _ _ q => q) fun _ _ q => q.elim
    refine wpAny_bind (wpAny_mono (hB c r ln' acc' _ _ _ _ i' ⟨F₃, x₂, i₂⟩).run (fun f s₄ q => ?_) fun _ _ q => q.elim)
    have nxt : (∃ rest' ln' live' acc' M' X' P', rest'.length + live1 live' < r.length + 2 ∧ I rest' ln' live' acc' ∧ Walk prog w G n A W V s₀ P₀ env sc xs L fR it b pb (σs acc') rest' ln' live' M' X' P' s₄) → ∃ m, m < (c :: r).length + live1 true ∧
        ∃ rest' ln' live' acc' M' X' P', m = rest'.length + live1 live' ∧ rest'.length ≤ 10000 ∧ I rest' ln' live' acc' ∧ Walk prog w G n A W V s₀ P₀ env sc xs L fR it b pb (σs acc') rest' ln' live' M' X' P' s₄ := by
      rintro ⟨rest', ln', live', acc', M', X', P', hl, i, Z⟩
      exact (in1x2 _ hl ⟨ rest', ln', live', acc', M', X', P', rfl, by simp only [List.length_cons] at hz'; unfold live1 at hl; split at hl <;> omega, i, Z⟩)
    cases f with
    | next => exact wpAny_pure (.inl ⟨rfl, nxt q⟩)
    | cont => exact wpAny_pure (.inl ⟨rfl, nxt q⟩)
    | brk => exact q.elim
    | ret u => exact wpAny_pure (then_ret q)
  · exact wpAny_pure (.inr ⟨rfl, codeAny_block (wpAny_execs_nil (then_next (hQ rest' ln' live' acc' _ _ _ _ i' hn ⟨F₂, x₂, i₂⟩)))⟩)
end
end
section
open Builtin
section
variable {prog : Program} {w : World} {G : GC} {n : Nat} {A : Around} {W V : Addr → Prop} {s₀ : Shared} {P₀ : PMap} {env : Env} {sc : Scp} {xs : List Str} {M X P : PMap} {σ σ' : Sto} {s : Shared} {L : LexA} {pb : List (List Nat)} {rest : List Nat} {ln : Int} {rs : List Stmt} {Q : Flow → Shared → Prop}
theorem sc_ifWs {mN : Str → Option Value} {fR fG fP : Addr} {ex : Expr} {y : Str} {yp ap p p' : Pos} {c : Nat} {body orelse : List Stmt} (F : Fn prog w G n A W V s₀ P₀ env sc xs M X P σ s) (Lc : LexC G L mN fR fG fP) (h : LexX prog w L X P pb rest ln)
    (De : Den prog w G n sc σ ex (sV [c])) (Do : Den prog w G n sc σ (.Name y yp) (.raw (.ref L.x)))
    (ht : wsp.contains c = true → ∀ s' P', Fn prog w G n A W V s₀ P₀ env sc xs M X P' σ s' → PMap.le P P' → Run prog w A env body (Then prog w A env rs Q) s')
    (hf : wsp.contains c = false → ∀ s' P', Fn prog w G n A W V s₀ P₀ env sc xs M X P' σ s' → PMap.le P P' → Run prog w A env orelse (Then prog w A env rs Q) s')
    (hmk : behindInMarks .In (.Attribute (.Name y yp) "whitespace" ap) = false := by with_unfolding_all rfl) : Run prog w A env (.If (.Compare ex [.In] [.Attribute (.Name y yp) "whitespace" ap] p') body orelse p :: rs) Q s :=
  sc_of (wpAny_If (wpAny_isTrue_Compare1 (F.evald De fun kv s₁ P₁ F₁ l₁ k₁ r₁ => Attribute_Name_ (F₁.evald Do fun ov s₂ P₂ F₂ l₂ k₂ r₂ => by
    (have h := Rp.raw_inv r₂; clear r₂; subst h)
    (refine el3x2 (h.ins) ?_; intro t u mA hI hA)
    (refine el0x7 (@lexM_get L ln t u) ?_; intro g1 g2 g3 g4 g5 g6 g7)
    refine getX F₂ Lc.c hI Lc.a3 ob_whitespace (by rw [hA]; exact g3) rfl fun s₃ F₃ _ => ?_
    refine cmp_inT (prog := prog) (w := w) (l := wsp) (c := c) A P₂ s₃ kv (.str (tx wsp) u) _ F₃.cx.room.hd (by have := F₃.cx.room.un; exact lin [_, _, _] [.T 1 (.A (.A (.V 0) (.N 80)) (.M 10 (.V 1))) (.V 2)] (.T 1 (.A (.V 0) (.N 80)) (.V 2)) rfl this) F₃.cx.sub (r₁.mono l₂) (.str _ _) fun tk => wpAny_truthy_bool ?_
    have F₄ := F₃.move (tk := tk) (Keep.refl _) (PMap.le_refl _) F₃.cx.sub (Grew.refl _ _)
    cases hg : wsp.contains c with
    | true => exact (ht hg _ P₂ F₄ (l₁.trans l₂)).run
    | false => exact (hf hg _ P₂ F₄ (l₁.trans l₂)).run)) hmk))
theorem sc_readCh {mN : Str → Option Value} {fR fG fP : Addr} {x y : Str} {xp yp ap cp p : Pos} (F : Fn prog w G (n + 2) A W V s₀ P₀ env sc xs M X P σ s) (Lc : LexC G L mN fR fG fP) (h : LexX prog w L X P pb rest ln) (hz : rest.length ≤ 10000)
    (Do : Den prog w G (n + 2) sc σ (.Name y yp) (.raw (.ref L.x))) (hx : x ∈ xs) (T : Turned x (sV (rdOne rest)) σ σ')
    (hq : ∀ s' X' P', Fn prog w G (n + 2) A W V s₀ P₀ env sc xs M X' P' σ' s' → PMap.le P P' → LexX prog w L X' P' pb (rest.drop 1) (ln + lnOne rest) → Run prog w A env rs Q s')
    (hs : swapsWith (.Call (.Attribute (.Name y yp) "_read_char" ap) [] [] cp) (some (.Name x xp)) p.line env = pure false := by rfl)
    (hb : ∀ env t, attributeBase (.Name y yp) "_read_char" env t = t := by intros; rfl) (hm : ∀ env, methodCallForm 0 (backTo cp (starEach [] env)) [] = true := by intros; rfl) (hp : (ap.endLine == cp.line) = true := by rfl) :
    Run prog w A env (.Assign [.Name x xp] (.Call (.Attribute (.Name y yp) "_read_char" ap) [] [] cp) p :: rs) Q s := by
  refine sc_of (wpAny_Assign_Name (MethodCall_ (F.evald Do fun v s₂ P₂ F₂ l₂ k₂ r₂ => ?_) (attrCall_eq (hb env _) (hm env) hp)) hs)
  (have h := Rp.raw_inv r₂; clear r₂; subst h)
  have h₂ := h.mono l₂
  (refine el3x2 (h₂.ins) ?_; intro t u mA hI hA)
  (refine el0x7 (@lexM_get L ln t u) ?_; intro g1 g2 g3 g4 g5 g6 g7)
  have Lr := Lc.r
  (refine el0x4 (Lc.c) ?_; intro hZ; obtain ⟨nm, q, N, bs, sn, sub, col, dd, k0, k1, k2, k3, k5, hC, hN⟩ := hZ; intro n1 n2 n3)
  (refine el0x3 Lr ?_; clear Lr; intro m1 hZ; refine el2x3 hZ ?_; clear hZ; intro of fd hof hfd _; intro m3)
  have bK : Sub G.K s₂.heap := fun a o e => F₂.cx.sub a o (F₂.cx.base a o e)
  refine method_of (bK _ _ hC) (hN.ns bK) n1 n2 m1 (bK _ _ hof) (m3 _ hof) ob_read_char (hI.inst F₂.mux) (by rw [hA]; exact g5) ?_
  refine callWith_function (o := of) (fd := fd) ?_
  refine evalArgs_none' ?_
  refine ⟨⟨bK _ _ hof, hfd⟩, ?_⟩
  refine wpAny_mono (rc_call (n := n) Lc F₂.cx.ok F₂.cx.base F₂.cx.sub F₂.cx.room F₂.mux F₂.disX h₂ hz) (fun v s₃ e => ?_) fun _ _ q => q.elim
  (refine el2x5 (F₂.behind e) ?_; intro X' P' F₃ l₃ r₃ lx _)
  exact F₃.store hx T r₃ fun s₄ F₄ => then_next (hq s₄ X' P' F₄ (l₂.trans l₃) lx)
end
end
section
open Builtin
noncomputable def tokG (p : Nat → Prop) [DecidablePred p] (acc : List Nat) (l : List Nat) : List Nat × List Nat :=
  List.rec (motive := fun _ => List Nat → Bool → List Nat × List Nat) (fun acc _ => (acc, [])) (fun c r ih acc e => if e = true then ih (acc ++ [c]) false else if p c then (acc, r) else if c = 92 then ih acc true else ih (acc ++ [c]) false) l acc false
theorem tokG_cons (p : Nat → Prop) [DecidablePred p] (acc : List Nat) (c : Nat) (r : List Nat) : tokG p acc (c :: r) = if p c then (acc, r) else if c = 92 then tokG p (acc ++ r.take 1) (r.drop 1) else tokG p (acc ++ [c]) r := by
  cases r with
  | nil =>
    show (if p c then (acc, []) else if c = 92 then (acc, []) else (acc ++ [c], [])) = if p c then (acc, []) else if c = 92 then (acc ++ [], []) else (acc ++ [c], [])
    rw [List.append_nil]
  | cons d r => rfl
noncomputable def tokQ (acc l : List Nat) : List Nat × List Nat := tokG (· = 34) acc l
noncomputable def tokW (acc l : List Nat) : List Nat × List Nat := tokG (fun c => wsp.contains c = true) acc l
noncomputable def tokO (l : List Nat) : List Nat × List Nat :=
  List.rec ([], []) (fun c r ih => if wsp.contains c = true then ih else if c = 34 then tokQ [] r else if c = 92 then tokW (r.take 1) (r.drop 1) else tokW [c] r) l
theorem tokQ_cons (acc : List Nat) (c : Nat) (r : List Nat) : tokQ acc (c :: r) = if c = 34 then (acc, r) else if c = 92 then tokQ (acc ++ r.take 1) (r.drop 1) else tokQ (acc ++ [c]) r := tokG_cons _ acc c r
theorem tokW_cons (acc : List Nat) (c : Nat) (r : List Nat) : tokW acc (c :: r) = if wsp.contains c = true then (acc, r) else if c = 92 then tokW (acc ++ r.take 1) (r.drop 1) else tokW (acc ++ [c]) r := tokG_cons _ acc c r
theorem tokO_cons (c : Nat) (r : List Nat) : tokO (c :: r) = if wsp.contains c = true then tokO r else if c = 34 then tokQ [] r else if c = 92 then tokW (r.take 1) (r.drop 1) else tokW [c] r := rfl
noncomputable def tot (ln : Int) (rest : List Nat) : Int := ln + ((rest.count 10 : Nat) : Int)
theorem tot_drop (ln : Int) (r : List Nat) : tot (ln + lnOne r) (r.drop 1) = tot ln r := by
  cases r with
  | nil => simp [tot, lnOne]
  | cons c r =>
    unfold tot lnOne
    by_cases h : c = 10
    · subst h; simp; lia
    · have h' : ¬ (10 = c) := fun q => h q.symm
      simp [h, List.count_cons]
theorem tot_step (ln : Int) (c : Nat) (r : List Nat) : tot (ln + lnOne [c]) r = tot ln (c :: r) := tot_drop ln (c :: r)
section
variable {prog : Program} {w : World} {G : GC} {n : Nat} {A : Around} {W V : Addr → Prop} {s₀ : Shared} {P₀ X₀ : PMap} {env : Env} {M X P : PMap} {σ σ' : Sto} {s : Shared} {L : LexA} {pb : List (List Nat)} {rest : List Nat} {ln : Int} {rs : List Stmt} {Q : Flow → Shared → Prop}
theorem sc_continue {p : Pos} (h : Q .cont s) : Run prog w A env (.Continue p :: rs) Q s := sc_of (wpAny_Continue (then_cont h))
noncomputable def gtN : List Str := (["self"] : List Str) ++ (["token", "fiter", "ch"] : List Str)
noncomputable def gtS (L : LexA) (it : Addr) (acc : List Nat) : Sto := gtN.zip [some (.raw (.ref L.x)), some (sV acc), some (.raw (.ref it)), none]
noncomputable def gtT (L : LexA) (it : Addr) (acc c : List Nat) : Sto := gtN.zip [some (.raw (.ref L.x)), some (sV acc), some (.raw (.ref it)), some (sV c)]
theorem gt_add {it : Addr} {acc c : List Nat} {p p' p'' : Pos} (hz : acc.length + c.length ≤ 20000) (F : Fn prog w G n A W V s₀ P₀ env (csp 5 2).names gtN M X P (gtT L it acc c) s)
    (h : ∀ s' P', Fn prog w G n A W V s₀ P₀ env (csp 5 2).names gtN M X P' (gtS L it (acc ++ c)) s' → PMap.le P P' → Run prog w A env rs Q s') :
    Run prog w A env (.AugAssign (.Name "token" p) .Add (.Name "ch" p') p'' :: rs) Q s :=
  sc_aug F (zm 1 rfl rfl) (den_var (zm 3 rfl rfl)) (aug_txt (by unfold sizeLine; exact lin [_, _] [.L 1 (.A (.V 0) (.V 1)) (.N 20000)] (.L 1 (.A (.V 0) (.V 1)) (.N 16777216)) rfl hz)) (gm 1 rfl) (turned_zip F.nd (i := 1) rfl (.there .here)) fun s' P' F l => h s' P' (F.forget 3 1) l
theorem gt_esc {mN : Str → Option Value} {fR fG fP it b : Addr} {acc r : List Nat} {c : Nat} {ex : Expr} {p1 p2 p3 p4 p5 p6 : Pos} (Lc : LexC G L mN fR fG fP) (hz : r.length ≤ 10000)
    (Z : Walk prog w G n A W V s₀ P₀ env (csp 5 2).names gtN L fR it b pb (gtT L it acc [c]) r ln true M X P s) (D : DenT prog w G (n + 3) (csp 5 2).names (gtT L it acc [c]) ex ([c] == [92]))
    (h : ∀ r' ch ln' s' X' P', tot ln' r' = tot ln r → r' = (if c = 92 then r.drop 1 else r) → ch = (if c = 92 then r.take 1 else [c]) → Walk prog w G n A W V s₀ P₀ env (csp 5 2).names gtN L fR it b pb (gtT L it acc ch) r' ln' true M X' P' s' → Run prog w A env rs Q s')
    (hs : swapsWith (.Call (.Attribute (.Name "self" p2) "_read_char" p3) [] [] p4) (some (.Name "ch" p1)) p5.line env = pure false := by rfl)
    (hb : ∀ env t, attributeBase (.Name "self" p2) "_read_char" env t = t := by intros; rfl) (hm : ∀ env, methodCallForm 0 (backTo p4 (starEach [] env)) [] = true := by intros; rfl) (hp : (p3.endLine == p4.line) = true := by rfl) :
    Run prog w A env (.If ex [.Assign [.Name "ch" p1] (.Call (.Attribute (.Name "self" p2) "_read_char" p3) [] [] p4) p5] [] p6 :: rs) Q s := by
  refine sc_if Z.F D (fun hq s₂ P₂ F l => ?_) (fun hq s₂ P₂ F l => sc_nil (then_next ?_))
  · have hc : c = 92 := by simpa using hq
    refine sc_readCh (n := n + 1) F Lc (Z.x.mono l) hz (den_var (zm 0 rfl rfl)) (gm 3 rfl) (σ' := gtT L it acc (rdOne r)) (turned_zip F.nd (i := 3) rfl (.there (.there (.there .here)))) (fun s₃ X₃ P₃ F₃ l₃ x₃ => sc_nil (then_next ?_)) hs hb hm hp
    exact h (r.drop 1) (rdOne r) _ _ _ _ (tot_drop ln r) (by rw [if_pos hc]) (by rw [if_pos hc]; rfl) ⟨F₃, x₃, (Z.i.mono l).mono l₃⟩
  · have hc : ¬ c = 92 := by simpa using hq
    exact h r [c] _ _ _ _ rfl (by rw [if_neg hc]) (by rw [if_neg hc]) ⟨F, Z.x.mono l, Z.i.mono l⟩
theorem gt_loop {mN : Str → Option Value} {fR fG fP it b : Addr} (Lc : LexC G L mN fR fG fP) (hz : rest.length ≤ 10000)
    (Z : Walk prog w G n A (fun a => (X₀ a).isSome = true) (fun _ => False) s₀ P₀ env (csp 5 2).names gtN L fR it b pb (gtS L it []) rest ln true M X P s) :
    Run prog w A env ((cbd 5 2).drop 3) (fun f s' => EndsX prog w X₀ P₀ s₀ (retOf f) (sV (tokO rest).1) (fun X' P' => ∃ ln', tot ln' (tokO rest).2 = tot ln rest ∧ LexX prog w L X' P' pb (tokO rest).2 ln') s') s := by
  have hT : ∀ acc (c : Nat), Turned ("ch" : Str) (sV [c]) (gtS L it acc) (gtT L it acc [c]) := fun acc c => by
    have F := Z.F
    exact (turned_zip F.nd (i := 3) rfl (.there (.there (.there .here))))
  refine sc_forS (x := "ch") (α := List Nat) (gtS L it) (fun acc c => gtT L it acc [c]) (fun rest' ln' live acc => tot ln' rest' = tot ln rest ∧ acc.length + rest'.length ≤ 10000 ∧ ((live = true ∧ acc = [] ∧ tokO rest' = tokO rest) ∨ (live = false ∧ (acc, rest') = tokO rest)))
    Z Lc hz (fun acc => (den_var (zm 2 rfl rfl))) (gm 3 rfl) hT (in0x3 rfl (by simpa using hz) (.inl (in0x3 rfl rfl rfl))) (fun c r ln₁ acc M X P s hi Z => ?_) (fun rest' ln₁ live acc M X P s hi hn Z => ?_)
  · (refine el0x3 hi ?_; clear hi; intro ht0 hl hi)
    rw [← tot_step] at ht0
    rcases hi with ⟨_, rfl, hto⟩ | ⟨h, _⟩
    · rw [List.length_nil, Nat.zero_add, List.length_cons] at hl
      refine sc_ifWs Z.F Lc Z.x (den_var (zm 3 rfl rfl)) (den_var (zm 0 rfl rfl)) (fun hc s₂ P₂ F l₂ => ?_) (fun hc s₂ P₂ F l₂ => sc_nil (then_next ?_))
      · refine sc_continue (then_cont (forQ_cont ?_))
        have F' := F.forget (vals := [some (.raw (.ref L.x)), some (sV []), some (.raw (.ref it)), some (sV [c])]) 3 1
        exact (in7x3 r _ true ([]) M X P₂ (by unfold live1; simp) (in0x3 ht0 (by simp; exact lin [_] [.L 1 (.A (.V 0) (.N 1)) (.N 10000)] (.L 1 (.V 0) (.N 10000)) rfl hl) (.inl (in0x3 rfl rfl (by rw [← hto]; conv => rhs; rw [tokO_cons, if_pos hc])))) ⟨ F', Z.x.mono l₂, Z.i.mono l₂⟩)
      · refine sc_if F (dent_cmp (den_var (zm 3 rfl rfl)) (den_txt [34] (by decide +kernel)) cmp_eqT) (fun hq s₃ P₃ F l₃ => ?_) (fun hq s₃ P₃ F l₃ => ?_)
        · have hq' : c = 34 := by simpa using hq
          have htq : tokQ [] r = tokO rest := by rw [← hto]; conv => rhs; rw [tokO_cons, if_neg (by rw [hc]; exact Bool.false_ne_true), if_pos hq']
          have F' := F.forget (vals := [some (.raw (.ref L.x)), some (sV []), some (.raw (.ref it)), some (sV [c])]) 3 1
          refine sc_forS (x := "ch") (α := List Nat) (acc := []) (gtS L it) (fun acc c => gtT L it acc [c]) (fun rest' ln' live acc => live = true ∧ acc.length + rest'.length ≤ 10000 ∧ tot ln' rest' = tot ln rest ∧ tokQ acc rest' = tokO rest)
            ⟨F', (Z.x.mono l₂).mono l₃, (Z.i.mono l₂).mono l₃⟩ Lc (by exact lin [_] [.L 1 (.A (.V 0) (.N 1)) (.N 10000)] (.L 1 (.V 0) (.N 10000)) rfl hl) (fun acc => (den_var (zm 2 rfl rfl))) (gm 3 rfl) hT (in0x4 rfl (by simp; exact lin [_] [.L 1 (.A (.V 0) (.N 1)) (.N 10000)] (.L 1 (.V 0) (.N 10000)) rfl hl) ht0 htq) (fun c r ln₂ acc M X P s hi Z => ?_) (fun rest' ln₂ live acc M X P s hi hn Z => ?_)
          · (refine el0x4 hi ?_; clear hi; intro _ hl ht2 ht)
            rw [← tot_step] at ht2
            rw [List.length_cons] at hl
            refine sc_if Z.F (dent_cmp (den_var (zm 3 rfl rfl)) (den_txt [34] (by decide +kernel)) cmp_eqT) (fun hq s₄ P₄ F l₄ => ?_) (fun hq s₄ P₄ F l₄ => ?_)
            · have e : (acc, r) = tokO rest := by rw [← ht, tokQ_cons, if_pos (by simpa using hq)]
              rw [← e]
              exact sc_ret F (den_var (zm 1 rfl rfl)) fun v s' P' F' l r => F'.endsX r (in1x2 _ ht2 ((Z.x.mono l₄).mono l))
            · refine gt_esc Lc (by exact lin [_, _] [.L 1 (.A (.V 0) (.A (.V 1) (.N 1))) (.N 10000)] (.L 1 (.V 1) (.N 10000)) rfl hl) ⟨F, Z.x.mono l₄, Z.i.mono l₄⟩ (dent_cmp (den_var (zm 3 rfl rfl)) (den_txt [92] (by decide +kernel)) cmp_eqT) (fun r' ch ln' s₅ X₅ P₅ ht1 hr hch Z₅ => sc_nil (then_next ?_))
              have e : tokQ (acc ++ ch) r' = tokO rest := by
                rw [← ht, hr, hch]; conv => rhs; rw [tokQ_cons, if_neg (by simpa using hq)]
                split <;> rfl
              have hl' : ch.length + r'.length ≤ r.length + 1 := by rw [hr, hch]; split <;> simp <;> omega
              refine gt_add (by exact lin [_, _, _, _] [.L 1 (.A (.V 0) (.A (.V 1) (.N 1))) (.N 10000), .L 1 (.A (.V 2) (.V 3)) (.A (.V 1) (.N 1))] (.L 1 (.A (.V 0) (.V 2)) (.N 20000)) rfl hl hl') Z₅.F fun s₆ P₆ F₆ l₆ => sc_nil (forQ_next (in7x3 r' ln' true (acc ++ ch) _ _ _ ?_ (in0x4 rfl (by rw [List.length_append]; exact lin [_, _, _, _] [.L 1 (.A (.V 0) (.A (.V 1) (.N 1))) (.N 10000), .L 1 (.A (.V 2) (.V 3)) (.A (.V 1) (.N 1))] (.L 1 (.A (.A (.V 0) (.V 2)) (.V 3)) (.N 10000)) rfl hl hl') (ht1.trans ht2) e) ⟨ F₆, Z₅.x.mono l₆, Z₅.i.mono l₆⟩))
              have : r'.length ≤ r.length := by rw [hr]; split <;> simp
              unfold live1; simp; exact lin [_, _] [.L 1 (.V 0) (.V 1)] (.T 1 (.V 0) (.A (.V 1) (.N 1))) rfl this
          · (refine el0x4 hi ?_; clear hi; intro hZ; subst hZ; intro hl ht2 ht)
            cases rest' with
            | cons a l => exact no2 hn
            | nil =>
              have e : (acc, ([] : List Nat)) = tokO rest := by rw [← ht]; rfl
              exact sc_nil (then_next (sc_nil (forQ_next (in7x3 ([]) ln₂ false acc _ _ _ (by unfold live1; simp) (in0x3 ht2 (by simpa using hl) (.inr ⟨rfl, e⟩)) Z))))
        · have hq' : ¬ c = 34 := by simpa using hq
          refine gt_esc Lc (by exact lin [_] [.L 1 (.A (.V 0) (.N 1)) (.N 10000)] (.L 1 (.V 0) (.N 10000)) rfl hl) ⟨F, (Z.x.mono l₂).mono l₃, (Z.i.mono l₂).mono l₃⟩ (dent_cmp (den_var (zm 3 rfl rfl)) (den_txt [92] (by decide +kernel)) cmp_eqT) (fun r' ch ln' s₅ X₅ P₅ ht1 hr hch Z₅ => ?_)
          have htw : tokW ch r' = tokO rest := by
            rw [← hto, hr, hch]; conv => rhs; rw [tokO_cons, if_neg (by rw [hc]; exact Bool.false_ne_true), if_neg hq']
            split <;> rfl
          have hl' : ch.length + r'.length ≤ r.length + 1 := by rw [hr, hch]; split <;> simp <;> omega
          have hrr : r'.length ≤ r.length := by rw [hr]; split <;> simp
          refine gt_add (acc := []) (by simp; exact lin [_, _, _] [.L 1 (.A (.V 0) (.N 1)) (.N 10000), .L 1 (.A (.V 1) (.V 2)) (.A (.V 0) (.N 1))] (.L 1 (.V 1) (.N 20000)) rfl hl hl') Z₅.F fun s₆ P₆ F₆ l₆ => ?_
          refine sc_forS (x := "ch") (α := List Nat) (acc := [] ++ ch) (gtS L it) (fun acc c => gtT L it acc [c]) (fun rest' ln' live acc => live = true ∧ acc.length + rest'.length ≤ 10000 ∧ tot ln' rest' = tot ln rest ∧ tokW acc rest' = tokO rest)
            ⟨F₆, Z₅.x.mono l₆, Z₅.i.mono l₆⟩ Lc (by exact lin [_, _, _] [.L 1 (.A (.V 0) (.N 1)) (.N 10000), .L 1 (.A (.V 1) (.V 2)) (.A (.V 0) (.N 1))] (.L 1 (.V 2) (.N 10000)) rfl hl hl') (fun acc => (den_var (zm 2 rfl rfl))) (gm 3 rfl) hT (in0x4 rfl (by simp; exact lin [_, _, _] [.L 1 (.A (.V 0) (.N 1)) (.N 10000), .L 1 (.A (.V 1) (.V 2)) (.A (.V 0) (.N 1))] (.L 1 (.A (.V 1) (.V 2)) (.N 10000)) rfl hl hl') (ht1.trans ht0) htw) (fun c r ln₂ acc M X P s hi Z => ?_) (fun rest' ln₂ live acc M X P s hi hn Z => ?_)
          · (refine el0x4 hi ?_; clear hi; intro _ hl ht2 ht)
            rw [← tot_step] at ht2
            rw [List.length_cons] at hl
            refine sc_ifWs Z.F Lc Z.x (den_var (zm 3 rfl rfl)) (den_var (zm 0 rfl rfl)) (fun hq s₄ P₄ F l₄ => ?_) (fun hq s₄ P₄ F l₄ => ?_)
            · have e : (acc, r) = tokO rest := by rw [← ht, tokW_cons, if_pos hq]
              rw [← e]
              exact sc_ret F (den_var (zm 1 rfl rfl)) fun v s' P' F' l r => F'.endsX r (in1x2 _ ht2 ((Z.x.mono l₄).mono l))
            · refine gt_esc Lc (by exact lin [_, _] [.L 1 (.A (.V 0) (.A (.V 1) (.N 1))) (.N 10000)] (.L 1 (.V 1) (.N 10000)) rfl hl) ⟨F, Z.x.mono l₄, Z.i.mono l₄⟩ (dent_cmp (den_var (zm 3 rfl rfl)) (den_txt [92] (by decide +kernel)) cmp_eqT) (fun r' ch ln' s₅ X₅ P₅ ht1 hr hch Z₅ => sc_nil (then_next ?_))
              have e : tokW (acc ++ ch) r' = tokO rest := by
                rw [← ht, hr, hch]; conv => rhs; rw [tokW_cons, if_neg (by rw [hq]; exact Bool.false_ne_true)]
                split <;> rfl
              have hl' : ch.length + r'.length ≤ r.length + 1 := by rw [hr, hch]; split <;> simp <;> omega
              refine gt_add (by exact lin [_, _, _, _] [.L 1 (.A (.V 0) (.A (.V 1) (.N 1))) (.N 10000), .L 1 (.A (.V 2) (.V 3)) (.A (.V 1) (.N 1))] (.L 1 (.A (.V 0) (.V 2)) (.N 20000)) rfl hl hl') Z₅.F fun s₆ P₆ F₆ l₆ => sc_nil (forQ_next (in7x3 r' ln' true (acc ++ ch) _ _ _ ?_ (in0x4 rfl (by rw [List.length_append]; exact lin [_, _, _, _] [.L 1 (.A (.V 0) (.A (.V 1) (.N 1))) (.N 10000), .L 1 (.A (.V 2) (.V 3)) (.A (.V 1) (.N 1))] (.L 1 (.A (.A (.V 0) (.V 2)) (.V 3)) (.N 10000)) rfl hl hl') (ht1.trans ht2) e) ⟨ F₆, Z₅.x.mono l₆, Z₅.i.mono l₆⟩))
              have : r'.length ≤ r.length := by rw [hr]; split <;> simp
              unfold live1; simp; exact lin [_, _] [.L 1 (.V 0) (.V 1)] (.T 1 (.V 0) (.A (.V 1) (.N 1))) rfl this
          · (refine el0x4 hi ?_; clear hi; intro hZ; subst hZ; intro hl ht2 ht)
            cases rest' with
            | cons a l => exact no2 hn
            | nil =>
              have e : (acc, ([] : List Nat)) = tokO rest := by rw [← ht]; rfl
              exact sc_nil (then_next (sc_nil (forQ_next (in7x3 ([]) ln₂ false acc _ _ _ (by unfold live1; simp) (in0x3 ht2 (by simpa using hl) (.inr ⟨rfl, e⟩)) Z))))
    · cases h
  · have e : (acc, rest') = tokO rest := by
      rcases hi.2.2 with ⟨rfl, rfl, h⟩ | ⟨rfl, h⟩
      · cases rest' with
        | nil => rw [← h]; rfl
        | cons a l => exact no2 hn
      · exact h
    rw [← e]
    have h1 := hi.1
    exact sc_ret Z.F (den_var (zm 1 rfl rfl)) fun v s' P' F' l r => F'.endsX r (in1x2 _ h1 (Z.x.mono l))
end
end
section
open Builtin
section
variable {prog : Program} {w : World} {G : GC} {n : Nat} {A : Around} {W V : Addr → Prop} {s₀ : Shared} {P₀ X₀ : PMap} {env : Env} {M X P : PMap} {σ σ' : Sto} {s : Shared} {L : LexA} {pb : List (List Nat)} {rest : List Nat} {ln : Int} {rs : List Stmt} {Q : Flow → Shared → Prop}
noncomputable def gtI (L : LexA) : Sto := gtN.zip [some (.raw (.ref L.x)), some (sV []), none, none]
theorem gt_iter {mN : Str → Option Value} {fR fG fP : Addr} {k : Nat} {x1 : Str} {p1 p2 p3 p4 p5 p6 p7 : Pos} (Lc : LexC G L mN fR fG fP) (bi : Gb G "iter" (.builtin "iter"))
    (F : Fn prog w G (n + 3) A W V s₀ P₀ env (csp 5 2).names gtN M X P (gtI L) s) (h : LexX prog w L X P pb rest ln) (hx1 : x1 = tx [])
    (hq : ∀ s' it b M' P', Walk prog w G n A W V s₀ P₀ env (csp 5 2).names gtN L fR it b pb (gtS L it []) rest ln true M' X P' s' → Run prog w A env rs Q s')
    (hs : swapsWith (.Call (.Name "iter" p2) [.Attribute (.Name "self" p3) "_read_char" p4, .Constant (.str x1) k p5] [] p6) (some (.Name "fiter" p1)) p7.line env = pure false := by rfl) :
    Run prog w A env (.Assign [.Name "fiter" p1] (.Call (.Name "iter" p2) [.Attribute (.Name "self" p3) "_read_char" p4, .Constant (.str x1) k p5] [] p6) p7 :: rs) Q s := by
  refine sc_of (wpAny_Assign_Name (wpAny_Call_Name_kw (F.evald (den_blt (x := "iter") (v := .builtin "iter") (gm 4 rfl) bi.1 bi.2 (by decide +kernel)) fun v s₁ P₁ F₁ l₁ k₁ r₁ => ?_)) hs)
  (have h := Rp.raw_inv r₁; clear r₁; subst h)
  refine callWith_builtin rfl ?_
  refine evalArgs_plain (spliced_cons (Attribute_Name_ (F₁.evald (den_var (zm 0 rfl rfl)) fun v s₂ P₂ F₂ l₂ k₂ r₂ => ?_)))
  (have h := Rp.raw_inv r₂; clear r₂; subst h)
  (refine el3x2 (h.ins) ?_; intro t u mA hI hA)
  (refine el0x7 (@lexM_get L ln t u) ?_; intro g1 g2 g3 g4 g5 g6 g7)
  refine boundX F₂ Lc.c Lc.r hI ob_read_char (by rw [hA]; exact g5) (by decide +kernel) fun s₃ b P₃ F₃ l₃ hPb => ?_
  refine spliced_cons (F₃.evald (den_txt [] hx1) fun v s₄ P₄ F₄ l₄ k₄ r₄ => ?_)
  unfold sV at r₄
  cases r₄ with
  | str y tk =>
  refine spliced_nil ?_
  have hb := F₄.cx.sub _ _ (l₄ _ _ hPb)
  have ll := ((l₁.trans l₂).trans l₃).trans l₄
  have fz : s₄.heap.get? s₄.heap.objs.size = none := fresh_size (Nat.le_refl _)
  refine wpAny_mono (E := fun _ _ => False) (iter_call (h := s₄.heap) (g := s₄.gens) (d := s₄.drawn) (t := s₄.toks) (os := s₄.os) hb (Q := _) ?_) (fun _ _ q => q) fun _ _ q => q.elim
  have F₅ := F₄.take (tk := s₄.toks) (Keep.push s₄.heap { cls := .type "callable_iterator", data := .fields #[.ref b, .str (tx []) tk, .bool false] }) fz (Heap.get?_push_size _ rfl)
  exact F₅.store (pv := .raw (.ref s₄.heap.objs.size)) (σ' := gtS L s₄.heap.objs.size []) (gm 2 rfl) (turned_zip F.nd (i := 2) rfl (.there (.there .here))) (.raw _) fun s₆ F₆ => then_next (hq s₆ _ b _ _ ⟨F₆, h.mono ll, ⟨l₄ _ _ hPb, tk, PMap.put_self _ _ _⟩⟩)
theorem gt_tail {mN : Str → Option Value} {fR fG fP : Addr} (Lc : LexC G L mN fR fG fP) (bi : Gb G "iter" (.builtin "iter")) (hz : rest.length ≤ 10000)
    (F : Fn prog w G (n + 3) A (fun a => (X₀ a).isSome = true) (fun _ => False) s₀ P₀ env (csp 5 2).names gtN M X P (gtN.zip [some (.raw (.ref L.x)), none, none, none]) s) (h : LexX prog w L X P pb rest ln) :
    Run prog w A env ((cbd 5 2).drop 1) (fun f s' => EndsX prog w X₀ P₀ s₀ (retOf f) (sV (tokO rest).1) (fun X' P' => ∃ ln', tot ln' (tokO rest).2 = tot ln rest ∧ LexX prog w L X' P' pb (tokO rest).2 ln') s') s := by
  refine sc_assign F (den_txt [] (by decide +kernel)) rfl (gm 1 rfl) (σ' := gtI L) (turned_zip F.nd (i := 1) rfl (.there .here)) (fun s₂ P₂ F l₂ => ?_)
  exact gt_iter Lc bi F (h.mono l₂) (by decide +kernel) (fun s' it b M' P' Z => gt_loop Lc hz Z)
end
end
section
open Builtin
noncomputable def gtOf (pb : List (List Nat)) (rest : List Nat) : List Nat × List (List Nat) × List Nat := match pb with
  | [] => ((tokO rest).1, [], (tokO rest).2)
  | t :: r => (t, r, rest)
section
variable {prog : Program} {w : World} {G : GC} {n : Nat} {A : Around} {W V : Addr → Prop} {s₀ : Shared} {P₀ X₀ : PMap} {env : Env} {M X P : PMap} {σ σ' : Sto} {s : Shared} {L : LexA} {pb : List (List Nat)} {rest : List Nat} {ln : Int} {rs : List Stmt} {Q : Flow → Shared → Prop}
theorem gt_call {mN : Str → Option Value} {fR fG fP : Addr} (Lc : LexC G L mN fR fG fP) (bi : Gb G "iter" (.builtin "iter")) (ok : GOk G) (le : PMap.le G.K P) (b : Sub P s.heap) (rm : Room (n + 4) A) (bX : Sub X s.heap) (dX : ∀ a o, X a = some o → P a = none)
    (h : LexX prog w L X P pb rest ln) (hz : rest.length ≤ 10000) (hpb : pb.length ≤ 10000) :
    wpAny (model prog w) A (call (.ref fG) [.ref L.x]) (fun v s' => EndsX prog w X P s v (sV (gtOf pb rest).1) (fun X' P' => ∃ ln', tot ln' (gtOf pb rest).2.2 = tot ln rest ∧ LexX prog w L X' P' (gtOf pb rest).2.1 (gtOf pb rest).2.2 ln') s') (fun _ _ => False) s := by
  refine enter (X := X) (names := ["self"]) (extra := ["token", "fiter", "ch"]) Lc.g.2.1 (bind1 fun fd v h1 h2 => ?_) (by decide +kernel) rfl rfl rfl rfl ok le b rm (ds := [.raw (.ref L.x)]) (.cons (.raw _) .nil) bX dX (fun env s₁ F => ?_)
  · obtain ⟨_⟩ := fd; subst h1; subst h2; rfl
  · (refine el3x2 (h.ins) ?_; intro t u mA hI hA)
    (refine el0x7 (@lexM_get L ln t u) ?_; intro g1 g2 g3 g4 g5 g6 g7)
    (refine el2x2 (h.pbl) ?_; intro bvs bk hB hbr)
    have hbl := hbr.length
    rw [Array.length_toList, List.length_map] at hbl
    refine sc_of (wpAny_If (wpAny_bind (Attribute_Name_ (F.evald (den_var (zm 0 rfl rfl)) fun v s₂ P₂ F₂ l₂ k₂ r₂ => ?_))))
    (have h := Rp.raw_inv r₂; clear r₂; subst h)
    refine getX F₂ Lc.c hI Lc.a2 ob_pushback (by rw [hA]; exact g2) rfl fun s₃ F₃ _ => ?_
    refine wpAny_bind (wpAny_standAt (wpAny_holding (wpAny_truthy_list (items := bvs) (in1x3 _ (F₃.mux _ _ hB) rfl ⟨ bk, rfl⟩) (by lia) ?_)))
    have F₃ := F₃.move (tk := s₃.toks + 1 + 1) (Keep.refl _) (PMap.le_refl _) F₃.cx.sub (Grew.refl _ _)
    cases pb with
    | nil =>
      have he : bvs.isEmpty = true := by simpa [Array.isEmpty] using hbl
      rw [he, if_neg (show ¬ ((!true) = true) by decide)]
      refine Run.run ?_
      exact sc_nil (then_next (gt_tail Lc bi hz F₃ (h.mono l₂)))
    | cons tw pr =>
      have hlt : 0 < bvs.size := by rw [hbl]; simp
      have he : bvs.isEmpty = false := by
        cases q : bvs.isEmpty with
        | false => rfl
        | true => simp at q; subst q; simp at hlt
      rw [he, if_pos (show ((!false) = true) by decide)]
      have hu : bvs[0]? = some bvs[0] := Array.getElem?_eq_getElem hlt
      refine Run.run ?_
      refine sc_of (wpAny_Return_some (MethodCall_ (Attribute_Name_ (F₃.evald (den_var (zm 0 rfl rfl)) fun v s₄ P₄ F₄ l₄ k₄ r₄ => ?_)) (attrCall_eq rfl rfl rfl)))
      (have h := Rp.raw_inv r₄; clear r₄; subst h)
      refine getX F₄ Lc.c hI Lc.a2 ob_pushback (by rw [hA]; exact g2) rfl fun s₅ F₅ _ => ?_
      have hS := F₅.mux _ _ hB
      refine getMethod_builtin (T := "list") (in1x2 _ hS rfl) PySem.F.plainAttrs_list PySem.F.slot_list_pop PySem.F.type_list_pop (fun x hx => by (have h := Value.ref.inj hx; clear hx; subst h); exact (in1x2 _ hS rfl)) (callWith_builtin rfl ?_)
      refine evalArgs_plain (spliced_cons (F₅.evald (den_k 0) fun v s₆ P₆ F₆ l₆ k₆ r₆ => spliced_nil ?_))
      cases r₆ with
      | int i tk =>
      have hS₆ := F₆.mux _ _ hB
      refine call_meets PySem.F.slot_list_pop (in1x2 _ hS₆ rfl) PySem.F.entry_list_pop (PySem.F.args_list_pop_2 _ _) (MeetsSeq.list_pop_at L.B bvs bk 0 _ 0 _ (by decide +kernel) (seqIndex_of (by lia) (by lia)) hu (by unfold sizeLine; exact lin [_, _] [.L 1 (.V 0) (.N 10000), .E 1 (.V 1) (.V 0)] (.L 1 (.V 1) (.N 16777216)) rfl hpb hbl)) ⟨hS₆, ?_⟩
      have hme : Obj.mapSeq (fun xs => xs.eraseIdxIfInBounds 0) { cls := .type "list", data := .seq bvs bk } = { cls := .type "list", data := .seq (bvs.eraseIdxIfInBounds 0) (if (bvs.eraseIdxIfInBounds 0).size == bvs.size then bk else bk + 1) } := by rfl
      have hg : (s₆.heap.update L.B (Obj.mapSeq fun xs => xs.eraseIdxIfInBounds 0)).get? L.B = some { cls := .type "list", data := .seq (bvs.eraseIdxIfInBounds 0) (if (bvs.eraseIdxIfInBounds 0).size == bvs.size then bk else bk + 1) } := by
        rw [Heap.get?_update_self _ hS₆ (by rw [hme]; rfl), hme]
      have hdl : (bvs.eraseIdxIfInBounds 0).toList = bvs.toList.tail := by
        obtain ⟨l⟩ := bvs
        cases l with
        | nil => rfl
        | cons a l => simp
      have ll := (l₂.trans l₄).trans l₆
      have hbr' := hbr.mono ll
      have F₇ := F₆.turnX (tk := s₆.toks) hB hg (fun a o ha e => (Heap.SameBut.update ..).extBut a o ha e)
      have hI' := hI.put (o := { cls := .type "list", data := .seq (bvs.eraseIdxIfInBounds 0) (if (bvs.eraseIdxIfInBounds 0).size == bvs.size then bk else bk + 1) }) h.n4 h.n5
      have h₆ := h.mono ll
      (refine el2x2 (h₆.sgn) ?_; intro svs sk hSs hsr)
      have hh : Rp prog w P₆ bvs[0] (sV tw) ∧ RpL prog w P₆ bvs.toList.tail (pr.map sV) := by
        obtain ⟨l⟩ := bvs
        cases l with
        | nil => simp at hlt
        | cons a l => 
          rw [List.map_cons] at hbr'
          cases hbr' with
          | cons r1 r2 => exact ⟨r1, r2⟩
      show EndsX prog w X P s _ _ _ _
      refine F₇.endsX hh.1 (in1x2 ln rfl ⟨ (in3x2 t u mA hI' hA), (in2x2 _ _ (PMap.put_self _ _ _) (by rw [hdl]; exact hh.2)), (in2x2 svs sk ?_ hsr), h₆.rd, h.n1, h.n2, h.n3, h.n4, h.n5, h.tb.put h.tb.b⟩)
      simp [PMap.put, h.n1, hSs]
end
end
section
open Builtin
section
variable {prog : Program} {w : World} {G : GC} {n : Nat} {A : Around} {W V : Addr → Prop} {s₀ : Shared} {P₀ X₀ : PMap} {env : Env} {M X P : PMap} {σ σ' : Sto} {s : Shared} {L : LexA} {pb : List (List Nat)} {rest : List Nat} {ln : Int} {rs : List Stmt} {Q : Flow → Shared → Prop}
theorem pt_call {mN : Str → Option Value} {fR fG fP : Addr} {v : Value} {tw : List Nat} (Lc : LexC G L mN fR fG fP) (ok : GOk G) (le : PMap.le G.K P) (b : Sub P s.heap) (rm : Room (n + 1) A) (bX : Sub X s.heap) (dX : ∀ a o, X a = some o → P a = none)
    (h : LexX prog w L X P pb rest ln) (hpb : pb.length ≤ 10000) (rv : Rp prog w P v (sV tw)) :
    wpAny (model prog w) A (call (.ref fP) [.ref L.x, v]) (fun v s' => EndsX prog w X P s v .none (fun X' P' => LexX prog w L X' P' (pb ++ [tw]) rest ln) s') (fun _ _ => False) s := by
  refine enter (X := X) (names := ["self", "token"]) (extra := []) Lc.p.2.1 (bind2 fun fd u v h1 h2 => ?_) (by decide +kernel) rfl rfl rfl rfl ok le b rm (ds := [.raw (.ref L.x), sV tw]) (.cons (.raw _) (.cons rv .nil)) bX dX (fun env s₁ F => ?_)
  · obtain ⟨_⟩ := fd; subst h1; subst h2; rfl
  · (refine el3x2 (h.ins) ?_; intro t u mA hI hA)
    (refine el0x7 (@lexM_get L ln t u) ?_; intro g1 g2 g3 g4 g5 g6 g7)
    (refine el2x2 (h.pbl) ?_; intro bvs bk hB hbr)
    have hbl := hbr.length
    rw [Array.length_toList, List.length_map] at hbl
    refine sc_of (wpAny_Expr_any (MethodCall_ (Attribute_Name_ (F.evald (den_var (zm 0 rfl rfl)) fun v s₄ P₄ F₄ l₄ k₄ r₄ => ?_)) (attrCall_eq rfl rfl rfl)) (hi := by first | (unfold interactive; rw [F.bk]; rfl) | (unfold interactive; rw [F.cx.act.kind]; rfl)))
    (have h := Rp.raw_inv r₄; clear r₄; subst h)
    refine getX F₄ Lc.c hI Lc.a2 ob_pushback (by rw [hA]; exact g2) rfl fun s₅ F₅ _ => ?_
    have hS := F₅.mux _ _ hB
    refine getMethod_builtin (T := "list") (in1x2 _ hS rfl) PySem.F.plainAttrs_list PySem.slot_list_append PySem.F.type_list_append (fun x hx => by (have h := Value.ref.inj hx; clear hx; subst h); exact (in1x2 _ hS rfl)) (callWith_builtin rfl ?_)
    refine evalArgs_plain (spliced_cons (F₅.evald (den_var (zm 1 rfl rfl)) fun v s₆ P₆ F₆ l₆ k₆ r₆ => spliced_nil ?_))
    have hS₆ := F₆.mux _ _ hB
    have ll := l₄.trans l₆
    refine call_meets slot_list_append (in1x2 _ hS₆ rfl) entry_list_append (args_list_append _ _) (AutoListH.list_append_list_val_0 L.B bvs bk v (by unfold sizeLine; exact lin [_, _] [.L 1 (.V 0) (.N 10000), .E 1 (.V 1) (.V 0)] (.L 1 (.V 1) (.N 16777216)) rfl hpb hbl)) ⟨hS₆, ?_⟩
    have hme : Obj.mapSeq (fun xs => xs.push v) { cls := .type "list", data := .seq bvs bk } = { cls := .type "list", data := .seq (bvs.push v) (if (bvs.push v).size == bvs.size then bk else bk + 1) } := by rfl
    have hg : (s₆.heap.update L.B (Obj.mapSeq fun xs => xs.push v)).get? L.B = some { cls := .type "list", data := .seq (bvs.push v) (if (bvs.push v).size == bvs.size then bk else bk + 1) } := by
      rw [Heap.get?_update_self _ hS₆ (by rw [hme]; rfl), hme]
    have hbr' := hbr.mono ll
    have F₇ := F₆.turnX (tk := s₆.toks) hB hg (fun a o ha e => (Heap.SameBut.update ..).extBut a o ha e)
    have hI' := hI.put (o := { cls := .type "list", data := .seq (bvs.push v) (if (bvs.push v).size == bvs.size then bk else bk + 1) }) h.n4 h.n5
    have h₆ := h.mono ll
    (refine el2x2 (h₆.sgn) ?_; intro svs sk hSs hsr)
    show Then _ _ _ _ _ _ _ _
    refine then_next (sc_nil ?_)
    show EndsX prog w X P s _ _ _ _
    refine F₇.endsX .none ⟨(in3x2 t u mA hI' hA), (in2x2 _ _ (PMap.put_self _ _ _) ?_), (in2x2 svs sk ?_ hsr), h₆.rd, h.n1, h.n2, h.n3, h.n4, h.n5, h.tb.put h.tb.b⟩
    · have : ∀ {vs : List Value} {ds : List PV}, RpL prog w P₆ vs ds → RpL prog w P₆ (vs ++ [v]) (ds ++ [sV tw]) := by
        intro vs ds h
        induction h using RpL.rec (motive_1 := fun _ _ _ => True) with
        | nil => exact .cons r₆ .nil
        | cons h r ih1 ih => exact .cons h ih
        | _ => trivial
      rw [Array.toList_push, List.map_append]
      exact this hbr'
    · simp [PMap.put, h.n1, hSs]
end
end
section
open Builtin
section
variable {prog : Program} {w : World} {G : GC} {n : Nat} {A : Around} {W V : Addr → Prop} {s₀ : Shared} {P₀ X₀ : PMap} {env : Env} {sc : Scp} {xs : List Str} {M X P : PMap} {σ σ' : Sto} {s : Shared} {L : LexA} {pb : List (List Nat)} {rest : List Nat} {ln : Int} {rs : List Stmt} {Q : Flow → Shared → Prop}
theorem gt_eval {mN : Str → Option Value} {fR fG fP : Addr} {y : Str} {yp ap cp : Pos} {Q : Value → Shared → Prop} (F : Fn prog w G (n + 4) A W V s₀ P₀ env sc xs M X P σ s) (Lc : LexC G L mN fR fG fP) (bi : Gb G "iter" (.builtin "iter")) (h : LexX prog w L X P pb rest ln) (hz : rest.length ≤ 10000) (hpb : pb.length ≤ 10000)
    (Do : Den prog w G (n + 4) sc σ (.Name y yp) (.raw (.ref L.x)))
    (hq : ∀ v s' X' P' ln', Fn prog w G (n + 4) A W V s₀ P₀ env sc xs M X' P' σ s' → PMap.le P P' → Rp prog w P' v (sV (gtOf pb rest).1) → tot ln' (gtOf pb rest).2.2 = tot ln rest → LexX prog w L X' P' (gtOf pb rest).2.1 (gtOf pb rest).2.2 ln' → Q v s')
    (hb : ∀ env t, attributeBase (.Name y yp) "get_token" env t = t := by intros; rfl) (hm : ∀ env, methodCallForm 0 (backTo cp (starEach [] env)) [] = true := by intros; rfl) (hp : (ap.endLine == cp.line) = true := by rfl) :
    wpAny (model prog w) A (eval (.Call (.Attribute (.Name y yp) "get_token" ap) [] [] cp) env) Q (fun _ _ => False) s := by
  refine MethodCall_ (F.evald Do fun v s₂ P₂ F₂ l₂ k₂ r₂ => ?_) (attrCall_eq (hb env _) (hm env) hp)
  (have h := Rp.raw_inv r₂; clear r₂; subst h)
  have h₂ := h.mono l₂
  (refine el3x2 (h₂.ins) ?_; intro t u mA hI hA)
  (refine el0x7 (@lexM_get L ln t u) ?_; intro g1 g2 g3 g4 g5 g6 g7)
  have Lr := Lc.g
  (refine el0x4 (Lc.c) ?_; intro hZ; obtain ⟨nm, q, N, bs, sn, sub, col, dd, k0, k1, k2, k3, k5, hC, hN⟩ := hZ; intro n1 n2 n3)
  (refine el0x3 Lr ?_; clear Lr; intro m1 hZ; refine el2x3 hZ ?_; clear hZ; intro of fd hof hfd _; intro m3)
  have bK : Sub G.K s₂.heap := fun a o e => F₂.cx.sub a o (F₂.cx.base a o e)
  refine method_of (bK _ _ hC) (hN.ns bK) n1 n2 m1 (bK _ _ hof) (m3 _ hof) ob_get_token (hI.inst F₂.mux) (by rw [hA]; exact g6) ?_
  refine callWith_function (o := of) (fd := fd) ?_
  refine evalArgs_none' ?_
  refine ⟨⟨bK _ _ hof, hfd⟩, ?_⟩
  refine wpAny_mono (gt_call (n := n) Lc bi F₂.cx.ok F₂.cx.base F₂.cx.sub F₂.cx.room F₂.mux F₂.disX h₂ hz hpb) (fun v s₃ e => ?_) fun _ _ q => q.elim
  (refine el2x5 (F₂.behind e) ?_; intro X' P' F₃ l₃ r₃ hZ; refine el1x2 hZ ?_; clear hZ; intro ln' ht lx; intro _)
  exact hq v s₃ X' P' ln' F₃ (l₂.trans l₃) r₃ ht lx
theorem sc_get {mN : Str → Option Value} {fR fG fP : Addr} {x y : Str} {xp yp ap cp p : Pos} (F : Fn prog w G (n + 4) A W V s₀ P₀ env sc xs M X P σ s) (Lc : LexC G L mN fR fG fP) (bi : Gb G "iter" (.builtin "iter")) (h : LexX prog w L X P pb rest ln) (hz : rest.length ≤ 10000) (hpb : pb.length ≤ 10000)
    (Do : Den prog w G (n + 4) sc σ (.Name y yp) (.raw (.ref L.x))) (hx : x ∈ xs) (T : Turned x (sV (gtOf pb rest).1) σ σ')
    (hq : ∀ s' X' P' ln', Fn prog w G (n + 4) A W V s₀ P₀ env sc xs M X' P' σ' s' → PMap.le P P' → tot ln' (gtOf pb rest).2.2 = tot ln rest → LexX prog w L X' P' (gtOf pb rest).2.1 (gtOf pb rest).2.2 ln' → Run prog w A env rs Q s')
    (hs : swapsWith (.Call (.Attribute (.Name y yp) "get_token" ap) [] [] cp) (some (.Name x xp)) p.line env = pure false := by rfl)
    (hb : ∀ env t, attributeBase (.Name y yp) "get_token" env t = t := by intros; rfl) (hm : ∀ env, methodCallForm 0 (backTo cp (starEach [] env)) [] = true := by intros; rfl) (hp : (ap.endLine == cp.line) = true := by rfl) :
    Run prog w A env (.Assign [.Name x xp] (.Call (.Attribute (.Name y yp) "get_token" ap) [] [] cp) p :: rs) Q s :=
  sc_of (wpAny_Assign_Name (gt_eval F Lc bi h hz hpb Do (fun v s' X' P' ln' F' l r ht lx => F'.store hx T r fun s₄ F₄ => then_next (hq s₄ X' P' ln' F₄ l ht lx)) hb hm hp) hs)
theorem sc_push {mN : Str → Option Value} {fR fG fP : Addr} {y : Str} {yp ap cp p : Pos} {e : Expr} {tw : List Nat} (F : Fn prog w G (n + 1) A W V s₀ P₀ env sc xs M X P σ s) (Lc : LexC G L mN fR fG fP) (h : LexX prog w L X P pb rest ln) (hpb : pb.length ≤ 10000)
    (Do : Den prog w G (n + 1) sc σ (.Name y yp) (.raw (.ref L.x))) (da : Argd prog w G (n + 1) sc σ [e] [sV tw])
    (hq : ∀ s' X' P', Fn prog w G (n + 1) A W V s₀ P₀ env sc xs M X' P' σ s' → PMap.le P P' → LexX prog w L X' P' (pb ++ [tw]) rest ln → Run prog w A env rs Q s')
    (hs : swapsWith (.Call (.Attribute (.Name y yp) "push_token" ap) [e] [] cp) none p.line env = pure false := by rfl)
    (hb : ∀ env t, attributeBase (.Name y yp) "push_token" env t = t := by intros; rfl) (hm : ∀ env, methodCallForm 1 (backTo cp (starEach [e] env)) [] = true := by intros; rfl) (hp : (ap.endLine == cp.line) = true := by rfl) :
    Run prog w A env (.Expr (.Call (.Attribute (.Name y yp) "push_token" ap) [e] [] cp) p :: rs) Q s := by
  refine sc_of (wpAny_Expr_any (MethodCall_ (F.evald Do fun v s₂ P₂ F₂ l₂ k₂ r₂ => ?_) (attrCall_eq (hb env _) (hm env) hp)) (hi := by unfold interactive; rw [F.cx.act.kind]; rfl) (hs := hs))
  (have h := Rp.raw_inv r₂; clear r₂; subst h)
  have h₂ := h.mono l₂
  (refine el3x2 (h₂.ins) ?_; intro t u mA hI hA)
  (refine el0x7 (@lexM_get L ln t u) ?_; intro g1 g2 g3 g4 g5 g6 g7)
  have Lr := Lc.p
  (refine el0x4 (Lc.c) ?_; intro hZ; obtain ⟨nm, q, N, bs, sn, sub, col, dd, k0, k1, k2, k3, k5, hC, hN⟩ := hZ; intro n1 n2 n3)
  (refine el0x3 Lr ?_; clear Lr; intro m1 hZ; refine el2x3 hZ ?_; clear hZ; intro of fd hof hfd _; intro m3)
  have bK : Sub G.K s₂.heap := fun a o e => F₂.cx.sub a o (F₂.cx.base a o e)
  refine method_of (bK _ _ hC) (hN.ns bK) n1 n2 m1 (bK _ _ hof) (m3 _ hof) ob_push_token (hI.inst F₂.mux) (by rw [hA]; exact g7) ?_
  obtain ⟨a1, a2⟩ := da.run A P₂ env _ cp (.ref fP) (fun x' s₃ => (s₃.heap.get? fP = some of ∧ of.data = .func fd) ∧ wpAny (model prog w) A (call (.ref fP) ([.ref L.x] ++ x'.pos) x'.kw) (fun _ s' => Then prog w A env rs Q .next s') (fun _ _ => False) s₃) F₂.cx
    fun vs h₃ t₃ P₃ C₃ k₃ l₃ f₃ r₃ => by
      have F₃ := F₂.move (tk := t₃) k₃ l₃ C₃.sub f₃
      cases r₃ with
      | cons r1 r2 =>
        (have h := RpL.nil_inv r2; clear r2; subst h)
        refine ⟨⟨C₃.sub _ _ (C₃.base _ _ hof), hfd⟩, ?_⟩
        refine wpAny_mono (pt_call (n := n) Lc F₃.cx.ok F₃.cx.base F₃.cx.sub F₃.cx.room F₃.mux F₃.disX (h₂.mono l₃) hpb r1) (fun v s₄ e => ?_) fun _ _ q => q.elim
        (refine el2x5 (F₃.behind e) ?_; intro X' P' F₄ l₄ r₄ lx _)
        exact then_next (hq s₄ X' P' F₄ ((l₂.trans l₃).trans l₄) lx)
  exact callWith_function a2
end
end
section
open Builtin
section
variable {prog : Program} {w : World} {G : GC} {n : Nat} {A : Around} {W V : Addr → Prop} {s₀ : Shared} {P₀ X₀ : PMap} {env : Env} {sc : Scp} {xs : List Str} {M X P : PMap} {σ σ' : Sto} {s : Shared} {rest : List Stmt} {Q : Flow → Shared → Prop}
theorem sc_setnew {x a : Str} {xp ap lp pos : Pos} {C xa dx : Addr} {mN mA : Str → Option Value} {ns : List Str} (F : Fn prog w G n A W V s₀ P₀ env sc xs M X P σ s) (c : ClsF G.K C mN) (hx : (x, some (.raw (.ref xa))) ∈ σ) (hI : InsM X xa dx C mA) (hna : mN a = none) (hB : typeLookup (.type "object") a = pure none)
    (hw : Within mA ns) (hz : ns.length ≤ 1000) (hs : swapsWith (.List [] lp) (some (.Attribute (.Name x xp) a ap)) pos.line env = pure false)
    (h : ∀ s' P' B od', Fn prog w G n A W V s₀ P₀ env sc xs M ((X.put B { cls := .type "list", data := .seq #[] }).put dx od') P' σ s' → PMap.le P P' → X B = none → P' B = none → B ≠ xa → B ≠ dx → InsM ((X.put B { cls := .type "list", data := .seq #[] }).put dx od') xa dx C (fun y => if y = a then some (.ref B) else mA y) → Run prog w A env rest Q s') :
    Run prog w A env (.Assign [.Attribute (.Name x xp) a ap] (.List [] lp) pos :: rest) Q s := by
  refine sc_of (plainObj_wpAny_Assign_Attribute (hs := hs) (wpAny_List (spliced_nil ⟨by simp, ?_⟩)))
  generalize hBe : s.heap.objs.size = B
  have fz : s.heap.get? B = none := by rw [← hBe]; exact fresh_size (Nat.le_refl _)
  have nX : X B = none := F.mux.fresh fz
  have nP : P B = none := F.cx.sub.fresh fz
  have kp := Keep.push s.heap { cls := .type "list", data := .seq #[] }
  have hBv : (s.heap.push { cls := .type "list", data := .seq #[] }).get? B = some { cls := .type "list", data := .seq #[] } := by rw [← hBe]; exact Heap.get?_push_size _ rfl
  (refine el4x10 (id hI) ?_; intro ox od es ep hxx hc hn hd hne hdx hdd hk hu hf)
  have nx : B ≠ xa := fun q => by rw [q] at nX; rw [nX] at hxx; exact no1 hxx
  have nd : B ≠ dx := fun q => by rw [q] at nX; rw [nX] at hdx; exact no1 hdx
  have F₁ := F.outer (X' := X.put B { cls := .type "list", data := .seq #[] }) (tk := s.toks) (fun b o e => (in1x2 o (kp b o e) (fun _ => rfl))) (PMap.le_refl _) (F.cx.sub.keep kp) (Grew.refl _ _)
    (PMap.put_sub (F.mux.keep kp) hBv) (fun a o e => by
      by_cases q : a = B
      · subst q; exact .inr ⟨fz, nP⟩
      · exact .inl (by simp [PMap.put, q] at e; rw [e]; rfl))
  have hI₁ := hI.put (o := { cls := .type "list", data := .seq #[] }) nx nd
  refine F₁.evald (den_var hx) fun ov s₂ P₂ F₂ l₂ k₂ r₂ => ?_
  (have h := Rp.raw_inv r₂; clear r₂; subst h)
  exact setX F₂ c hI₁ hna hB hw hz fun s₃ od' F₃ hI₃ => then_next (h s₃ P₂ B od' F₃ l₂ nX (F₂.disX _ _ (PMap.put_self _ _ _)) nx nd hI₃)
end
end
section
open Builtin
section
variable {prog : Program} {w : World} {G : GC} {n : Nat}
theorem lex_init {A : Around} {P : PMap} {s : Shared} {C f : Addr} {mN : Str → Option Value} {st : Addr} {Q : Value → Shared → Prop} (c : ClsF G.K C mN) (m : Mf G.K mN "__init__" 5 0 f) (a1 : mN "lineno" = none) (a2 : mN "pushback" = none) (a3 : mN "whitespace" = none) (a4 : mN "instream" = none)
    (ok : GOk G) (le : PMap.le G.K P) (bb : Sub P s.heap) (rm : Room (n + 2) A)
    (hq : ∀ s' x dx B t u mA X' P' h' tk, s' = { s with heap := h', toks := tk } → PMap.le P P' → Sub P' h' → Grew P P' s.heap → Keep s.heap h' → Sub X' h' → (∀ a o, X' a = some o → s.heap.get? a = none ∧ P' a = none) → InsM X' x dx C mA →
      (∀ y, mA y = if y = ("lineno" : Str) then some (.int 1 t) else if y = ("pushback" : Str) then some (.ref B) else if y = ("whitespace" : Str) then some (.str (tx wsp) u) else if y = ("instream" : Str) then some (.ref st) else none) → X' B = some { cls := .type "list", data := .seq #[] } → B ≠ x → B ≠ dx → Q (.ref x) s') :
    wpAny (model prog w) A (call (.ref C) [.ref st]) Q (fun _ _ => False) s := by
  have hCn : G.K C ≠ none := by (refine el0x2 c ?_; clear c; intro hZ; obtain ⟨nm, q, N, bs, sn, sub, col, dd, k0, k1, k2, k3, k5, hC, hN⟩ := hZ; intro _); rw [hC]; simp
  refine newInst c m le bb fun h' x dx X iX bX dX kp nx nd hne => ?_
  have xsz : P x = none := bb.fresh nx
  have dsz : P dx = none := bb.fresh nd
  refine enter (X := X) (names := ["self", "fp"]) (extra := []) m.2.1 (bind2 fun fd u v h1 h2 => ?_) (by decide +kernel) rfl rfl rfl rfl ok le (s := { s with heap := h' }) (bb.keep kp) rm.new (ds := [.raw (.ref x), .raw (.ref st)]) (.cons (.raw _) (.cons (.raw _) .nil)) bX (fun a o e => by rcases dX a o e with rfl | rfl <;> assumption) (fun env s₁ F => ?_)
  · obtain ⟨_⟩ := fd; subst h1; subst h2; rfl
  · refine sc_setattr (ns := []) F c den_int (zm 0 rfl rfl) iX a1 ob_lineno hCn (fun y h => absurd rfl h) (by simp) rfl (fun s₂ P₂ v₂ od₂ F l₂ r₂ i₂ => ?_)
    refine sc_setattr (ns := ["lineno"]) F c (den_var (zm 1 rfl rfl)) (zm 0 rfl rfl) i₂ a4 ob_instream hCn (fun y h => by by_cases q : y = ("lineno" : Str) <;> simp_all) (by simp) rfl (fun s₃ P₃ v₃ od₃ F l₃ r₃ i₃ => ?_)
    refine sc_setattr (ns := ["lineno", "instream"]) F c (den_txt wsp (by decide +kernel)) (zm 0 rfl rfl) i₃ a3 ob_whitespace hCn (fun y h => by by_cases q : y = ("lineno" : Str) <;> by_cases q' : y = ("instream" : Str) <;> simp_all) (by simp) rfl (fun s₄ P₄ v₄ od₄ F l₄ r₄ i₄ => ?_)
    refine sc_setnew (ns := ["lineno", "instream", "whitespace"]) F c (zm 0 rfl rfl) i₄ a2 ob_pushback (fun y h => by by_cases q : y = ("lineno" : Str) <;> by_cases q' : y = ("instream" : Str) <;> by_cases q'' : y = ("whitespace" : Str) <;> simp_all) (by simp) rfl (fun s₅ P₅ B od₅ F l₅ nX nP nBx nBd i₅ => sc_nil ?_)
    cases r₂ with
    | int i tk₂ =>
    unfold sV at r₄
    (have h := Rp.raw_inv r₃; clear r₃; subst h)
    cases r₄ with
    | str yy tk₄ =>
    refine ⟨rfl, ?_⟩
    have old : ∀ a, h'.get? a = none → s.heap.get? a = none := fun a e => by
      cases q : s.heap.get? a with
      | none => rfl
      | some o => rw [kp a o q] at e; exact no2 e
    have xn : ∀ a, (X a).isSome = true → s.heap.get? a = none := fun a e => by
      (refine el1x1 (Option.isSome_iff_exists.mp e) ?_; intro o ho)
      rcases dX a o ho with rfl | rfl <;> assumption
    (refine el2x1 (F.sh) ?_; intro hh tkk e)
    subst e
    refine hq _ x dx B tk₂ tk₄ _ _ P₅ hh tkk rfl F.le F.cx.sub (fun a o e => ?_) (fun a o e => ?_) F.mux (fun a o e => ⟨?_, F.disX a o e⟩) i₅ (fun y => ?_) (by simp [PMap.put, nBd]) nBx nBd
    rotate_left 3
    · have n1 : ¬ ("lineno" : Str) = "pushback" := (by decide +kernel)
      have n2 : ¬ ("lineno" : Str) = "whitespace" := (by decide +kernel)
      have n3 : ¬ ("lineno" : Str) = "instream" := (by decide +kernel)
      by_cases h1 : y = ("lineno" : Str)
      · rw [h1, if_neg n1, if_neg n2, if_neg n3, if_pos rfl, if_pos rfl]
      · by_cases h2 : y = ("pushback" : Str) <;> by_cases h3 : y = ("whitespace" : Str) <;> by_cases h4 : y = ("instream" : Str) <;> simp only [h1, h2, h3, h4, if_true, if_false] <;> simp_all
    · rcases F.grew a o e with q | q | q
      · exact .inl q
      · exact q.elim
      · exact .inr (old a q)
    · (refine el1x2 (F.keep a o (kp a o e)) ?_; intro o' e' q)
      rw [e', q (fun z => by rw [xn a z] at e; exact no1 e) (fun z => z)]
    · rcases F.wX a o e with q | q
      · exact xn a q
      · exact old a q
end
end
section
open Builtin Builtin.ObjectAttr
theorem fn_sa : Slot "function" "__setattr__" "object.__setattr__" :=
  .of (owner := "object") (n := "__setattr__") (by rw [typeLookup_type, builtinLookup_eq_fast]; kernel_rfl) (by decide +kernel) (by decide +kernel) (by decide +kernel)
    (by first | exact .inl (by decide +kernel) | exact .inr (by decide +kernel)) (by rw [isSubtype_type]; kernel_rfl)
theorem fn_mro : mroOf (.type "function") = pure [.type "function", .type "object"] := by kernel_rfl
theorem fn_passes (self : Value) : refuseLoop self "__setattr__" [.type "function", .type "object"] = pure () := by kernel_rfl
theorem sa_args (a b c : Value) : argsOk "object.__setattr__" ⟨[a, b, c], []⟩ := by unfold argsOk; kernel_rfl
section
variable {prog : Program} {w : World} {A : Around} {E : Value → Shared → Prop}
theorem fnset_entry {h : Heap} {g : Array GenState} {d : Drawn} {t : Nat} {os : OsState} {tk : Tok} {st : Addr} {ost : Obj} {v : Value} {Q : Fin → Shared → Prop} (hst : h.get? st = some ost) (hc : ost.cls = .type "function") (hnc : ∀ c, ost.data ≠ .cls c) (hd : ost.dict = none)
    (hq : ∀ h' tk' ds, h.get? ds = none → h'.get? st = some { ost with dict := some ds } → (∃ od es ep, h'.get? ds = some od ∧ od.data = .dict es ep ∧ StrKeys es ∧ ∀ y, nsFind es y = if y = ("read" : Str) then some v else none) → (∀ b o, b ≠ st → h.get? b = some o → h'.get? b = some o) → Q (.done (.ret .none)) ⟨h', g, d, tk', os⟩) :
    wpAny (model prog w) A (Builtin.«object.__setattr__» ⟨[.ref st, .str "read" tk, v], []⟩) Q E ⟨h, g, d, t, os⟩ := by
  have f1 := fn_noread
  have f2 := fn_mro
  have hpass := fn_passes (.ref st)
  unfold Builtin.«object.__setattr__»
  repeat (first | rw [refuse_eq] | rw [hpass] | (with_reducible refine wpAny_loadPart_at hst ?_; rw [hc]) | rw [f2] | rw [f1] | wp_step)
  rw [hd, if_neg (by decide +kernel)]
  split
  · rename_i hcd; exact no1 hcd
  split
  · rename_i c hcd; exact absurd hcd (hnc c)
  · have hx₁ : (h.push { cls := .type "dict", data := .dict #[] }).get? st = some ost := Heap.get?_push_of_some _ hst
    have hxs : st ≠ h.objs.size := Nat.ne_of_lt (Heap.lt_size hst)
    refine wpAny_bind (wpAny_alloc' ?_)
    refine wpAny_bind (wpAny_update' hx₁ ?_)
    have hdm : dictMade (.type "function") st h.objs.size = pure (some h.objs.size) := by
      have : finalisedInACycleAlone "function" = false := by decide +kernel
      unfold dictMade
      simp only [this]
      rfl
    rw [show (({ heap := h, gens := g, drawn := d, toks := t, os := os } : Shared).heap.objs.size : Addr) = h.objs.size from rfl, hdm]
    refine wpAny_pure ?_
    have hgd : ((h.push { cls := .type "dict", data := .dict #[] }).update st fun o => { cls := o.cls, dict := some h.objs.size, data := o.data, slots := o.slots }).get? h.objs.size
        = some { cls := .type "dict", data := .dict #[] } :=
      (Heap.get?_update_ne _ _ _ _ hxs.symm).trans (Heap.get?_push_at rfl rfl)
    have hnd : ((h.push { cls := .type "dict", data := .dict #[] }).update st fun o => { cls := o.cls, dict := some h.objs.size, data := o.data, slots := o.slots }).Ns h.objs.size (fun _ => none) :=
      (in3x4 _ (#[]) _ hgd rfl (fun e he => absurd he (by simp)) (fun _ => rfl))
    show wpAny _ _ (storeInDict h.objs.size (.str "read" tk) "read" v) _ _ _
    unfold storeInDict newKeyGuard
    refine wpAny_bind (wpAny_pure (wpAny_bind (wpAny_nsSet1 (Heap.Ns1.of_empty hnd) fun h' hn' hs => ?_)))
    (refine el3x3 (hn'.count (Within.cons ("read" : Str) v Within.nil)) ?_; intro oD esD epD hoD hdD hcD)
    refine wpAny_bind (wpAny_lookBehind hoD (by rw [hdD]; exact pastItsLine_dict (Nat.le_trans hcD (by rw [List.length_cons, List.length_nil, sizeLine_eq]; exact lin [] [] (.L 1 (.N 1) (.N 16777217)) rfl))) ?_)
    refine wpAny_pure ?_
    refine hq h' _ h.objs.size (fresh_size (Nat.le_refl _)) ?_ ?_ (fun b ob hbx hb => ?_)
    · refine (hs.2 st hxs).trans (Heap.get?_update_self _ hx₁ ?_)
      have hfr := (Heap.get?_some_iff.mp hst).2
      obtain ⟨oc, od, odt, osl⟩ := ost
      cases odt <;> first | rfl | exact hfr
    · (refine el3x5 hn' ?_; clear hn'; intro o' es ep e1 e2 e3 eu e4)
      exact (in3x4 o' es ep e1 e2 e3 (fun y => by rw [e4 y]))
    · exact (hs.2 b (Nat.ne_of_lt (Heap.lt_size hb))).trans ((Heap.get?_update_ne _ _ _ _ hbx).trans (Heap.get?_push_of_some _ hb))
theorem fn_set {s : Shared} {st : Addr} {ost : Obj} {v : Value} {Q : Unit → Shared → Prop} (hst : s.heap.get? st = some ost) (hc : ost.cls = .type "function") (hnc : ∀ c, ost.data ≠ .cls c) (hd : ost.dict = none)
    (hq : ∀ h' tk' ds, s.heap.get? ds = none → h'.get? st = some { ost with dict := some ds } → (∃ od es ep, h'.get? ds = some od ∧ od.data = .dict es ep ∧ StrKeys es ∧ ∀ y, nsFind es y = if y = ("read" : Str) then some v else none) → (∀ b o, b ≠ st → s.heap.get? b = some o → h'.get? b = some o) → Q () { s with heap := h', toks := tk' }) :
    wpAny (model prog w) A (setAttr (.ref st) "read" v) Q E s := by
  obtain ⟨h, g, d, t, os⟩ := s
  have hT : ∀ t', (⟨h, g, d, t', os⟩ : Shared).TypeIs (.ref st) "function" := fun _ => (in1x2 _ hst hc)
  unfold setAttr
  refine wpAny_bind (wpAny_mkText (wpAny_bind ?_))
  refine wpAny_callSpecial?_slot (name := Str.ofString "__setattr__") (hT _) fn_sa (wpAny_call_entry fn_sa (hT _) PySem.F.entry_object_setattr (fnset_entry hst hc hnc hd fun h' tk' ds h1 h2 h3 h4 => ?_) (sa_args _ _ _))
  exact (in1x2 _ rfl (wpAny_pure (hq h' tk' ds h1 h2 h3 h4)))
end
end
section
open Builtin
abbrev lobj (vs : Array Value) (k : Nat) : Obj := { cls := .type "list", data := .seq vs k }
structure DenO (prog : Program) (w : World) (G : GC) (n : Nat) (sc : Scp) (σ : Sto) (e : Expr) (l : List PV) : Prop where
  run : ∀ (A : Around) (P : PMap) (env : Env) (s : Shared) (Q : Value → Shared → Prop), Cx prog w G n A P env sc σ s →
    (∀ a vs k h' tk P', Cx prog w G n A P' env sc σ { s with heap := h', toks := tk } → Keep s.heap h' → PMap.le P P' → Grew P P' s.heap → s.heap.get? a = none → P' a = none → h'.get? a = some (lobj vs k) → RpL prog w P' vs.toList l → Q (.ref a) { s with heap := h', toks := tk }) →
    wpAny (model prog w) A (eval e env) Q (fun _ _ => False) s
section
variable {prog : Program} {w : World} {G : GC} {n : Nat} {A : Around} {W V : Addr → Prop} {s₀ : Shared} {P₀ X₀ : PMap} {env : Env} {sc : Scp} {xs : List Str} {M X P X' P' : PMap} {σ σ' : Sto} {s : Shared} {rest : List Stmt} {Q : Flow → Shared → Prop}
theorem deno_list {es : List Expr} {ds : List PV} {p : Pos} (d : Dens prog w G n sc σ es ds) (hz : ds.length ≤ sizeLine) : DenO prog w G n sc σ (.List es p) ds := .mk fun A P env s Q C hQ =>
  List_ (d.run A P env s p _ C fun vs h' tk P' C' k l f r => wpAny_newObj_type (by
    have fz : h'.get? h'.objs.size = none := fresh_size (Nat.le_refl _)
    have kp := Keep.push h' (lobj vs.toArray 0)
    refine hQ h'.objs.size vs.toArray 0 _ tk P' (C'.next (tk := tk) kp (PMap.le_refl _) (C'.sub.keep kp) (Grew.refl _ _)) (k.trans kp) l f ?_ (C'.sub.fresh fz) (Heap.get?_push_size _ rfl) (by simpa using r)
    cases q : s.heap.get? h'.objs.size with
    | none => rfl
    | some o => rw [k _ _ q] at fz; exact no2 fz) (by show vs.toArray.size ≤ sizeLine; rw [List.size_toArray, r.length]; exact hz))
theorem deno_slice {value : Expr} {lower upper step : Option Expr} {p p' : Pos} {l : List PV} {lo hi st : Option Int} (dv : Den prog w G n sc σ value (.list l)) (dl : DenP prog w G n sc σ lower lo) (du : DenP prog w G n sc σ upper hi) (dk : DenP prog w G n sc σ step st)
    (h0 : st ≠ some 0) (hz : l.length ≤ sizeLine) : DenO prog w G n sc σ (.Subscript value (.Slice lower upper step p') p) (pickL l lo hi st) := .mk fun A P env s Q C hQ => by
  refine Subscript_ (dv.go C fun u h₁ t₁ P₁ C₁ k₁ l₁ f₁ r₁ => wpAny_Slice (dl.go C₁ fun vl h₂ t₂ P₂ C₂ k₂ l₂ f₂ pl => du.go C₂ fun vu h₃ t₃ P₃ C₃ k₃ l₃ f₃ pu => dk.go C₃ fun vk h₄ t₄ P₄ C₄ k₄ l₄ f₄ pk => ?_))
  (refine el3x3 (r₁.list_inv) ?_; intro a vs k hZ; subst hZ; intro ea ra)
  have l14 : PMap.le P₁ P₄ := (l₂.trans l₃).trans l₄
  have hL := C₄.sub.isList (l14 _ _ ea)
  have sz : vs.size = l.length := by have := ra.length; simpa using this
  have hL' : (h₄.push { cls := .type "slice", data := .fields #[vl, vu, vk] }).IsList a vs := hL.push _
  have fin : ∀ ops, subscripted (.Slice lower upper step p') false (.ref a) (.ref h₄.objs.size) = operate ops (getItem (.ref a) (.ref h₄.objs.size)) →
      wpAny (model prog w) A (subscriptTail value (.Slice lower upper step p') (.ref a) (.ref h₄.objs.size)) Q (fun _ _ => False) { s with heap := h₄.push { cls := .type "slice", data := .fields #[vl, vu, vk] }, toks := t₄ } := fun ops hs => by
    refine PyProof.Rows.tail_any (Heap.IsList.typeIs (s := { s with heap := h₄.push { cls := .type "slice", data := .fields #[vl, vu, vk] }, toks := t₄ }) hL') slot_list_getitem.lookup (wpAny_getItem_list_slice hL' (Heap.IsSliceOf.new ..) pl pu pk h0 ?_ (by exact lin [_, _, _] [.L 1 (.V 0) (.V 1), .E 1 (.V 2) (.V 0)] (.L 1 (.V 2) (.V 1)) rfl hz sz)) hs
    have k14 : Keep s.heap h₄ := ((k₁.trans k₂).trans k₃).trans k₄
    have kp : Keep h₄ (h₄.push { cls := .type "slice", data := .fields #[vl, vu, vk] }) := Keep.push _ _
    generalize hh : h₄.push { cls := .type "slice", data := .fields #[vl, vu, vk] } = h₅ at *
    have kp' := Keep.push h₅ (lobj (slicePick vs lo hi st) 0)
    have fz : h₅.get? h₅.objs.size = none := fresh_size (Nat.le_refl _)
    have kk : Keep s.heap h₅ := k14.trans kp
    refine hQ h₅.objs.size _ 0 _ t₄ P₄ (C₄.next (tk := t₄) (kp.trans kp') (PMap.le_refl _) (C₄.sub.keep (kp.trans kp')) (Grew.refl _ _)) (kk.trans kp') (((l₁.trans l₂).trans l₃).trans l₄) (((f₁.trans f₂ k₁).trans f₃ (k₁.trans k₂)).trans f₄ ((k₁.trans k₂).trans k₃)) ?_ ((C₄.sub.keep kp).fresh fz) (Heap.get?_push_size _ rfl) ?_
    · cases q : s.heap.get? h₅.objs.size with
      | none => rfl
      | some o => rw [kk _ _ q] at fz; exact no2 fz
    · unfold slicePick pickL
      rw [sz]
      have := (ra.mono l14).places (sliceRange (sliceBounds lo hi st l.length).1 (sliceBounds lo hi st l.length).2.1 (sliceBounds lo hi st l.length).2.2)
      simpa using this
  cases step with
  | none => exact fin _ (by with_unfolding_all rfl)
  | some e => exact fin _ (by with_unfolding_all rfl)
theorem Fn.evaldO {e : Expr} {l : List PV} {Q : Value → Shared → Prop} (F : Fn prog w G n A W V s₀ P₀ env sc xs M X P σ s) (D : DenO prog w G n sc σ e l)
    (h : ∀ a vs k s' P', Fn prog w G n A W V s₀ P₀ env sc xs (M.put a (lobj vs k)) X P' σ s' → PMap.le P P' → Keep s.heap s'.heap → M a = none → P' a = none → RpL prog w P' vs.toList l → Q (.ref a) s') : wpAny (model prog w) A (eval e env) Q (fun _ _ => False) s :=
  D.run A P env s _ F.cx fun a vs k h' tk P' C' kp l f e nP e' r => by
    have nM : M a = none := F.muo.fresh e
    have nX : X a = none := F.mux.fresh e
    have F' := F.move (tk := tk) kp l C'.sub f
    have F'' : Fn prog w G n A W V s₀ P₀ env sc xs (M.put a (lobj vs k)) X P' σ { s with heap := h', toks := tk } := by
      refine { F' with muo := PMap.put_sub F'.muo e', offM := ?_, disM := fun b ob q => ?_, disY := fun b ob q => ?_, wM := fun b ob q => ?_ }
      · refine ⟨?_, fun p hp => ?_⟩
        · have : env.locals ≠ a := fun z => by (refine el4x2 (F.cx.act.ns) ?_; intro m o1 es ep ho _); rw [z, e] at ho; exact no1 ho
          simp [PMap.put, this, F.offM.1]
        · have : p.2 ≠ a := fun z => by (refine el2x2 (F.cx.act.cell p.1 p.2 hp) ?_; intro v o1 ho _); rw [z, e] at ho; exact no1 ho
          simp [PMap.put, this, F.offM.2 p hp]
      · by_cases z : b = a
        · subst z; exact nP
        · simp [PMap.put, z] at q; exact F'.disM b ob q
      · by_cases z : b = a
        · subst z; exact nX
        · simp [PMap.put, z] at q; exact F.disY b ob q
      · by_cases z : b = a
        · subst z
          refine .inr ?_
          cases q' : s₀.heap.get? b with
          | none => rfl
          | some o' => (refine el1x2 (F.keep b o' q') ?_; intro o'' e'' _); rw [e] at e''; exact no1 e''
        · simp [PMap.put, z] at q; exact F.wM b ob q
    exact h a vs k _ P' F'' l kp nM nP r
theorem Fn.adopt (F : Fn prog w G n A W V s₀ P₀ env sc xs M X P σ s) {a : Addr} {o : Obj} (e : s.heap.get? a = some o) (h0 : s₀.heap.get? a = none) (nP : P a = none) (nX : X a = none) (nL : env.locals ≠ a) (nC : ∀ p ∈ env.cells, p.2 ≠ a) :
    Fn prog w G n A W V s₀ P₀ env sc xs (M.put a o) X P σ s := by
  refine { F with muo := PMap.put_sub F.muo e, offM := ⟨by simp [PMap.put, nL, F.offM.1], fun p hp => by simp [PMap.put, nC p hp, F.offM.2 p hp]⟩, disM := fun b ob q => ?_, disY := fun b ob q => ?_, wM := fun b ob q => ?_ }
  · by_cases z : b = a
    · subst z; exact nP
    · simp [PMap.put, z] at q; exact F.disM b ob q
  · by_cases z : b = a
    · subst z; exact nX
    · simp [PMap.put, z] at q; exact F.disY b ob q
  · by_cases z : b = a
    · subst z; exact .inr h0
    · simp [PMap.put, z] at q; exact F.wM b ob q
theorem Fn.apart (F : Fn prog w G n A W V s₀ P₀ env sc xs M X P σ s) {a : Addr} (e : s.heap.get? a = none) : s₀.heap.get? a = none ∧ P a = none ∧ M a = none ∧ X a = none ∧ env.locals ≠ a ∧ ∀ p ∈ env.cells, p.2 ≠ a := by
  refine ⟨?_, F.cx.sub.fresh e, F.muo.fresh e, F.mux.fresh e, fun z => ?_, fun p hp z => ?_⟩
  · cases q' : s₀.heap.get? a with
    | none => rfl
    | some o' => (refine el1x2 (F.keep a o' q') ?_; intro o'' e'' _); rw [e] at e''; exact no1 e''
  · (refine el4x2 (F.cx.act.ns) ?_; intro m o1 es ep ho _); rw [z, e] at ho; exact no1 ho
  · (refine el2x2 (F.cx.act.cell p.1 p.2 hp) ?_; intro v o1 ho _); rw [z, e] at ho; exact no1 ho
theorem Fn.endsJ {X' P' : PMap} {v : Value} {pv : PV} {Post : PMap → PMap → Prop} (F : Fn prog w G n A (fun a => (X₀ a).isSome = true) (fun _ => False) s₀ P₀ env sc xs M X P σ s)
    (hX : ∀ a o, X' a = some o → X a = some o ∨ M a = some o) (hl : PMap.le P P') (hP : ∀ a o, P' a = some o → P a = some o ∨ (s₀.heap.get? a = none ∧ s.heap.get? a = some o ∧ X' a = none)) (r : Rp prog w P' v pv) (hp : Post X' P') : EndsX prog w X₀ P₀ s₀ v pv Post s := by
  (refine el2x1 (F.sh) ?_; intro h tk e)
  refine (in4x9 s.heap s.toks P' X' (by rw [e]) (fun b o e => ?_) (F.le.trans hl) (fun a o e => ?_) (fun a o e => ?_) (fun a o e => ?_) (fun a o e => ?_) r hp)
  · (refine el1x2 (F.keep b o e) ?_; intro o' e' q)
    exact (in1x2 o' e' (fun n => q (fun z => by rw [n] at z; exact no3 z) fun z => z))
  · rcases hP a o e with q | q
    · exact F.cx.sub a o q
    · exact q.2.1
  · rcases hP a o e with q | q
    · rcases F.grew a o q with z | z | z
      · exact .inl z
      · exact z.elim
      · exact .inr z
    · exact .inr q.1
  · rcases hX a o e with q | q
    · exact F.mux a o q
    · exact F.muo a o q
  · have np : P a = none := by
      rcases hX a o e with q | q
      · exact F.disX a o q
      · exact F.disM a o q
    have np' : P' a = none := by
      cases z : P' a with
      | none => rfl
      | some o' =>
        rcases hP a o' z with q | q
        · rw [np] at q; exact no1 q
        · rw [q.2.2] at e; exact no1 e
    rcases hX a o e with q | q
    · rcases F.wX a o q with z | z
      · exact .inl z
      · exact .inr ⟨z, np'⟩
    · rcases F.wM a o q with z | z
      · exact z.elim
      · exact .inr ⟨z, np'⟩
end
end
section
open PySem.W Builtin
theorem filterMap_places {α : Type} (l : List α) : ∀ (js : List Nat), (∀ j ∈ js, j < l.length) → (js.filterMap (l[·]?)).map some = js.map (l[·]?)
  | [], _ => rfl
  | j :: js, h => by
    have hj := h j (by simp)
    have e : l[j]? = some l[j] := List.getElem?_eq_getElem hj
    rw [List.filterMap_cons, e]
    simp only [List.map_cons]
    rw [filterMap_places l js fun i hi => h i (List.mem_cons_of_mem _ hi), e]
theorem pickL_rev (l : List PV) : pickL l none none (some (-1)) = l.reverse := by
  have h : (sliceRange (sliceBounds none none (some (-1)) l.length).1 (sliceBounds none none (some (-1)) l.length).2.1 (sliceBounds none none (some (-1)) l.length).2.2) = (List.range l.length).map fun k => l.length - 1 - k := by
    have e1 : sliceBounds none none (some (-1)) l.length = ((l.length : Int) - 1, -1, -1) := by simp [sliceBounds]
    rw [e1]
    unfold sliceRange
    have hc : (if (-1 : Int) > 0 then (if ((l.length : Int) - 1) < -1 then (-1 - ((l.length : Int) - 1) + -1 - 1) / -1 else 0) else (if ((l.length : Int) - 1) > -1 then (((l.length : Int) - 1) - -1 - -1 - 1) / (- -1) else 0)) = (l.length : Int) := by
      rw [if_neg (by decide), show (- -1 : Int) = 1 from rfl, Int.ediv_one]
      split <;> lia
    simp only
    rw [hc, Int.toNat_natCast]
    apply List.map_congr_left
    intro k hk
    have := List.mem_range.mp hk
    lia
  unfold pickL
  rw [h]
  have hb : ∀ j ∈ (List.range l.length).map (fun k => l.length - 1 - k), j < l.length := fun j hj => by
    (refine el1x2 (List.mem_map.mp hj) ?_; intro k hk hZ; subst hZ)
    have := List.mem_range.mp hk
    lia
  have e := filterMap_places l _ hb
  have inj : ∀ {a b : List PV}, a.map some = b.map some → a = b := fun {a b} h => by
    have := congrArg (List.filterMap id) h
    simpa [List.filterMap_map] using this
  apply inj
  rw [e]
  apply List.ext_getElem?
  intro i
  rw [List.map_map, List.getElem?_map, List.getElem?_map]
  by_cases hi : i < l.length
  · rw [List.getElem?_range hi, List.getElem?_reverse hi]
    simp only [Option.map_some, Function.comp]
    rw [List.getElem?_eq_getElem (by lia)]
    rfl
  · rw [List.getElem?_eq_none (by simpa using hi), List.getElem?_eq_none (by simpa using hi)]; rfl
section
variable {prog : Program} {w : World} {G : GC} {n : Nat} {A : Around} {W V : Addr → Prop} {s₀ : Shared} {P₀ X₀ : PMap} {env : Env} {sc : Scp} {xs : List Str} {M X P X' P' : PMap} {σ σ' : Sto} {s : Shared} {rest : List Stmt} {Q : Flow → Shared → Prop}
theorem signs_rp {x : List Nat} {vs : List Value} {P : PMap} (hl : vs.length = x.length) (h : ∀ j v, vs[j]? = some v → SignAt (tx x) j v) : RpL prog w P vs (x.map fun c => sV [c]) := by
  induction vs generalizing x with
  | nil => cases x with
    | nil => exact .nil
    | cons a x => simp at hl
  | cons v vs ih => cases x with
    | nil => simp at hl
    | cons a x =>
      refine .cons ?_ (ih (by simpa using hl) fun j u hj => ?_)
      · (refine el2x2 (h 0 v rfl) ?_; intro c u hc hZ; subst hZ)
        have : a = c := by simpa [tx] using hc
        subst this
        exact .str _ _
      · (refine el2x2 (h (j + 1) u (by simpa using hj)) ?_; intro c t hc hZ; subst hZ)
        exact (in2x2 c t (by simpa [tx] using hc) rfl)
theorem con_listText {x : List Nat} (hz : x.length ≤ sizeLine) : Con prog w G n (.type "list") [sV x] (.list (x.map fun c => sV [c])) := fun A P s vs ok le bb rm rs => by
  cases rs with
  | cons r rs =>
    (have h := RpL.nil_inv rs; clear rs; subst h)
    unfold sV at r
    (refine Rp.str_el r ?_; clear r; intro t hZ; subst hZ)
    refine call_list_str rm.hd _ _ (fun h' tk acc c' hk hD hacc => ?_) (by simpa [tx] using hz)
    have fz : s.heap.get? s.heap.objs.size = none := fresh_size (Nat.le_refl _)
    have nP : P s.heap.objs.size = none := bb.fresh fz
    have hr : RpL prog w P acc.toList (x.map fun c => sV [c]) := signs_rp (by have := hacc.1; simpa [tx] using this) fun j v hj => hacc.2 j v (by simpa using hj)
    exact (in3x6 h' tk (P.put _ _) rfl hk (PMap.put_le nP) (PMap.put_sub (bb.keep hk) hD) (PMap.put_grew (Grew.refl _ _) fz) (.list (PMap.put_self _ _ _) (hr.mono (PMap.put_le nP))))
theorem lam_eval {T c : Addr} {ps : Array Value} {params : Arguments} {body : Expr} {scope : Scope} {pos : Pos} {clos : List (Str × Addr)} {Q : Value → Shared → Prop} (F : Fn prog w G n A W V s₀ P₀ env sc xs M X P σ s) (hT : X T = some (tabObj ps)) (hcode : env.code = .ref c) (hC : ∀ h, Sub G.K h → CodeHd h c T) (hB : ∀ h, Sub G.K h → h.BuiltinsAt G.mg T)
    (ht : TriplesOk ps.toList) (hnf : codeAmong pos ps.toList = none) (hdef : defaultsOf params env = ([], [])) (hcl : closureFor scope env = pure clos) (hgT : mainGlobals ≠ T)
    (h : ∀ f c' ctv oc ob X' s' P', ob = kla_obj "<lambda>" (env.qual ++ "<lambda>") params body scope clos ((G.mg "__name__").getD .none) c' ctv → X' = X.put T (tabObj (ps ++ #[rawInt pos.line, rawInt pos.col, .ref c'])) → Fn prog w G n A W V s₀ P₀ env sc xs M X' P' σ s' → PMap.le P P' → Keep s.heap s'.heap ∨ True → P' c' = some oc → (∃ vs t, oc.data = .fields vs ∧ vs[1]? = some (.str (env.qual ++ "<lambda>") t)) →
      s'.heap.get? f = some ob → s.heap.get? f = none → f ≠ c' → P' f = none → f ≠ T → Q (.ref f) s') : wpAny (model prog w) A (eval (.Lambda params body scope pos) env) Q (fun _ _ => False) s := by
  have bK : Sub G.K s.heap := fun a o e => F.cx.sub a o (F.cx.base a o e)
  refine kla_eval hdef (kla_makeFunction hcl F.cx.glob (F.cx.ok.g.ns bK) hcode (hC _ bK) (F.mux _ _ hT) ht hnf hgT (hB _ bK) fun c' ctv h' tk hx hge hlt hrec htab => ?_)
  (refine el4x4 hrec ?_; clear hrec; intro c₁ oc vs t hc₁ hoc hdc hq)
  obtain rfl : c' = c₁ := by injection hc₁
  have nP : P T = none := F.disX _ _ hT
  have fc : s.heap.get? c' = none := fresh_size hge
  have ncP : P c' = none := F.cx.sub.fresh fc
  have ncT : c' ≠ T := fun q => by have := F.mux _ _ hT; rw [← q, fc] at this; exact no1 this
  have fz : h'.get? h'.objs.size = none := fresh_size (Nat.le_refl _)
  have kp := Keep.push h' (kla_obj "<lambda>" (env.qual ++ "<lambda>") params body scope clos ((G.mg "__name__").getD .none) c' ctv)
  have ff : s.heap.get? h'.objs.size = none := by
    cases q : s.heap.get? h'.objs.size with
    | none => rfl
    | some o =>
      by_cases z : h'.objs.size = T
      · rw [z, htab] at fz; exact no2 fz
      · have := hx _ _ z q; rw [this] at fz; exact no2 fz
  have nfc : h'.objs.size ≠ c' := Nat.ne_of_gt hlt
  have nfT : h'.objs.size ≠ T := fun q => by rw [q, htab] at fz; exact no2 fz
  refine h h'.objs.size c' ctv oc _ _ _ (P.put c' oc) rfl rfl (F.outer (X' := X.put T _) (tk := tk) (fun b o e => ?_) (PMap.put_le ncP) (PMap.put_sub (fun b o e => ?_) (kp _ _ hoc)) (PMap.put_grew (Grew.refl _ _) fc) (fun b o e => ?_) (fun b o e => ?_)) (PMap.put_le ncP) (.inr trivial) (PMap.put_self _ _ _) (in2x2 vs t hdc hq) (Heap.get?_push_size _ rfl) ff nfc (by simp [PMap.put, nfc]; exact F.cx.sub.fresh ff) nfT
  · by_cases z : b = T
    · subst z; exact (in1x2 _ (kp _ _ htab) (fun n => by rw [hT] at n; exact no2 n))
    · exact (in1x2 o (kp _ _ (hx b o z e)) (fun _ => rfl))
  · have z : b ≠ T := fun z => by rw [z, nP] at e; exact no1 e
    exact kp _ _ (hx b o z (F.cx.sub b o e))
  · by_cases z : b = T
    · subst z; simp [PMap.put] at e; rw [← e]; exact kp _ _ htab
    · simp [PMap.put, z] at e; exact kp _ _ (hx b o z (F.mux b o e))
  · by_cases z : b = T
    · subst z; exact .inl (by rw [hT]; rfl)
    · simp [PMap.put, z] at e; exact .inl (by rw [e]; rfl)
end
end
section
open PySem.W Builtin
noncomputable def PMap.over (Y X : PMap) : PMap := fun a => match Y a with | some o => some o | none => X a
theorem PMap.over_some {Y X : PMap} {a : Addr} {o : Obj} (h : PMap.over Y X a = some o) : Y a = some o ∨ (Y a = Option.none ∧ X a = some o) := by
  unfold PMap.over at h
  cases q : Y a with
  | some o' => simp only [q] at h; exact .inl h
  | none => simp only [q] at h; exact .inr ⟨rfl, h⟩
theorem PMap.over_left {Y X : PMap} {a : Addr} {o : Obj} (h : Y a = some o) : PMap.over Y X a = some o := by unfold PMap.over; simp only [h]
theorem PMap.over_right {Y X : PMap} {a : Addr} (h : Y a = Option.none) : PMap.over Y X a = X a := by unfold PMap.over; simp only [h]
theorem PMap.over_none {Y X : PMap} {a : Addr} (h : PMap.over Y X a = Option.none) : Y a = Option.none := by
  unfold PMap.over at h
  cases q : Y a with
  | some o' => simp only [q] at h; exact no2 h
  | none => rfl
section
variable {prog : Program} {w : World} {G : GC} {n : Nat}
theorem varRef {A : Around} {P : PMap} {env : Env} {sc : Scp} {σ : Sto} {s : Shared} {x : Str} {S : Addr} (C : Cx prog w G n A P env sc σ s) (h : (x, some (.raw (.ref S))) ∈ σ) (hk : env.kindOf x = some .cell) : ∃ c oc, env.cells.lookup x = some c ∧ s.heap.get? c = some oc ∧ oc.data = .cell (some (.ref S)) := by
  (refine el0x2 (C.vars x _ h) ?_; intro _ hZ; refine el1x2 hZ ?_; clear hZ; intro v y r)
  (have h := Rp.raw_inv r; clear r; subst h)
  rcases y with ⟨hk', _⟩ | ⟨_, c, hc, o, ho, hd⟩
  · rw [hk] at hk'; cases hk'
  · exact (in2x3 c o hc ho hd)
structure LexF (G : GC) (T C : Addr) (mN : Str → Option Value) (fI fR fG fP : Addr) : Prop where
  cls : G.mg "_netrclex" = some (.ref C)
  c : ClsF G.K C mN
  i : Mf G.K mN "__init__" 5 0 fI
  r : Mf G.K mN "_read_char" 5 1 fR
  g : Mf G.K mN "get_token" 5 2 fG
  p : Mf G.K mN "push_token" 5 3 fP
  a1 : mN "lineno" = none
  a2 : mN "pushback" = none
  a3 : mN "whitespace" = none
  a4 : mN "instream" = none
  maker : ∃ a, G.mg "_law_lexer" = some (.ref a) ∧ Df G.K (pm 63) (bd 63) (sp 63) a ∧ ∃ o fd c, G.K a = some o ∧ o.data = .func fd ∧ fd.code = .ref c ∧ ∀ h, Sub G.K h → CodeHd h c T
  bm : ∀ h, Sub G.K h → h.BuiltinsAt G.mg T
  gT : mainGlobals ≠ T
  bl : Gb G "list" (.type "list")
  bi : Gb G "iter" (.builtin "iter")
theorem LexF.lc {T C : Addr} {mN : Str → Option Value} {fI fR fG fP : Addr} (H : LexF G T C mN fI fR fG fP) {L : LexA} (h : L.C = C) : LexC G L mN fR fG fP := by
  subst h; exact ⟨H.c, H.r, H.g, H.p, H.a1, H.a2, H.a3, H.a4⟩
theorem lexer_call {A : Around} {P X : PMap} {s : Shared} {T C a : Addr} {mN : Str → Option Value} {fI fR fG fP : Addr} {l : List Nat} {v : Value} (H : LexF G T C mN fI fR fG fP) (ha : G.mg "_law_lexer" = some (.ref a)) (hT : X T = some (tabObj #[])) (ok : GOk G) (le : PMap.le G.K P) (bb : Sub P s.heap) (rm : Room (n + 3) A) (bX : Sub X s.heap) (dX : ∀ a o, X a = some o → P a = none)
    (rv : Rp prog w P v (sV l)) (hz : l.length ≤ 10000) :
    wpAny (model prog w) A (call (.ref a) [v]) (fun v s' => ∃ L : LexA, L.C = C ∧ L.T = T ∧ EndsX prog w X P s v (.raw (.ref L.x)) (fun X' P' => LexX prog w L X' P' [] l 1) s') (fun _ _ => False) s := by
  (refine el1x3 (H.maker) ?_; intro a' ha' D hZ; refine el3x4 hZ ?_; clear hZ; intro o₁ fd₁ cc ho₁ hfd₁ hcc hC)
  obtain rfl : a = a' := by rw [ha] at ha'; injection ha' with q; injection q
  have hsz : (10000 : Nat) ≤ sizeLine := by unfold sizeLine; exact lin [] [] (.L 1 (.N 10000) (.N 16777216)) rfl
  refine Called.call (enterE (X := X) (names := ["text"]) (extra := ["stream", "signs"]) D (bind1 fun fd v h1 h2 => ?_) (by decide +kernel) rfl rfl rfl rfl ok le bb rm (ds := [sV l]) (.cons rv .nil) bX dX (fun env s₁ hE F => ?_))
  · obtain ⟨_⟩ := fd; subst h1; subst h2; rfl
  · (refine el2x3 hE ?_; clear hE; intro o₂ fd₂ ho₂ hfd₂ hEc)
    have hcode : env.code = .ref cc := by
      rw [hEc]; rw [ho₁] at ho₂; (have h := Option.some.inj ho₂; clear ho₂; subst h); rw [hfd₁] at hfd₂; cases hfd₂; exact hcc
    refine sc_of (wpAny_Assign_Name (F.evaldO (deno_slice (l := l.map fun c => sV [c]) (lo := none) (hi := none) (st := some (-1)) (H.bl.callT (gm 3 rfl) (argd1 (den_var (zm 0 rfl rfl))) (con_listText (by exact lin [_, _] [.L 1 (.V 0) (.N 10000), .L 1 (.N 10000) (.V 1)] (.L 1 (.V 0) (.V 1)) rfl hz hsz)) (by decide +kernel)) denP_none denP_none (denP_some (den_neg den_int)) (by decide) (by simp; exact lin [_, _] [.L 1 (.V 0) (.N 10000), .L 1 (.N 10000) (.V 1)] (.L 1 (.V 0) (.V 1)) rfl hz hsz)) fun S vs k s₂ P₂ F₂ l₂ k₂ nM nP r₂ => ?_) rfl)
    refine F₂.store (pv := .raw (.ref S)) (gm 2 rfl) (turned_zip F.nd (i := 2) rfl (.there (.there .here))) (.raw _) fun s₃ F₃ => then_next ?_
    rw [pickL_rev] at r₂
    have hMS : (PMap.none.put S (lobj vs k)) S = some (lobj vs k) := PMap.put_self _ _ _
    have dL : ∀ (i : Nat), defaultsOf (lam 63 1).1 env = ([], []) := fun _ => rfl
    refine sc_of (wpAny_Assign_Name (lam_eval (T := T) (ps := #[]) F₃ hT hcode hC H.bm trivial rfl (dL 0) (closureFor_eq fun x hx => nomatch hx) H.gT fun f c₁ ct₁ oc₁ o₁' X₁ s₄ P₄ hO₁ hX₁ F₄ l₄ _ hc₁ hq₁ hf hf₀ nfc nfP nfT => ?_) rfl)
    (refine el0x6 (F₃.apart hf₀) ?_; intro q0 qP qM qX qL qC)
    have F₅ := F₄.adopt hf q0 nfP (by rw [hX₁]; simp [PMap.put, nfT, qX]) qL qC
    refine F₅.store (pv := .raw (.ref f)) (gm 1 rfl) (turned_zip F.nd (i := 1) rfl (.there .here)) (.raw _) fun s₅ F₆ => then_next ?_
    have nSf : S ≠ f := fun q => by rw [← q] at qM; rw [hMS] at qM; exact no2 qM
    have hkC : env.kindOf "signs" = some .cell := F₆.kx _ _ (gm 2 rfl)
    (refine el2x3 (varRef F₆.cx (x := "signs") (S := S) (zm 2 rfl rfl) hkC) ?_; intro cl ocl hcl hgcl hdcl)
    have hclos : closureFor (lam 63 2).2.2 env = pure [(("signs" : Str), cl)] := by
      rw [closureFor_eq]
      · show pure [(("signs" : Str), (env.cells.lookup ("signs" : Str)).getD 0)] = _
        rw [hcl]; rfl
      · intro x hx
        have hx' : x = ("signs" : Str) := by
          have : ∀ y ∈ (lam 63 2).2.2.names, y.2 = NameKind.free → y.1 = ("signs" : Str) := by decide +kernel
          exact this _ hx rfl
        subst hx'; exact ⟨cl, hcl⟩
    refine sc_of (plainObj_wpAny_Assign_Attribute (hs := rfl) (lam_eval (T := T) F₆ ((congrFun hX₁ T).trans (PMap.put_self _ _ _)) hcode hC H.bm (show TriplesOk [_, _, _] from trivial) rfl (by rfl) hclos H.gT fun rf c₂ ct₂ oc₂ o₂' Xb s₆ P₆ hO₂ hXb F₇ l₆ _ hc₂ hq₂ hrf hrf₀ nrc nrP nrT => ?_))
    (refine el0x6 (F₆.apart hrf₀) ?_; intro p0 pP pM pX pL pC)
    have nfr : f ≠ rf := fun q => by rw [← q] at pM; rw [PMap.put_self] at pM; exact no2 pM
    have nSr : S ≠ rf := fun q => by rw [← q] at pM; simp [PMap.put, nSf] at pM
    have F₇ := F₇.adopt hrf p0 nrP (by rw [hXb]; simp [PMap.put, nrT]; exact pX) pL pC
    refine F₇.evald (den_var (zm 1 rfl rfl)) fun ov s₇ P₇ F₈ l₇ k₇ r₇ => ?_
    (have h := Rp.raw_inv r₇; clear r₇; subst h)
    have hMf := F₈.muo f o₁' (by simp [PMap.put, nfr])
    refine fn_set hMf (by rw [hO₁]) (fun c q => by rw [hO₁] at q; cases q) (by rw [hO₁]) fun h₈ t₈ ds hds₀ hst hds hoth => ?_
    (refine el3x4 hds ?_; clear hds; intro od es ep hod hdd hdk hdf)
    (refine el0x6 (F₈.apart hds₀) ?_; intro z0 zP zM zX zL zC)
    have nfd : f ≠ ds := fun q => by rw [← q] at zM; simp [PMap.put, nfr] at zM
    have nrd : rf ≠ ds := fun q => by rw [← q] at zM; simp [PMap.put] at zM
    have nSd : S ≠ ds := fun q => by rw [← q] at zM; simp [PMap.put, nSf, nSr] at zM
    have F₉ := F₈.turn (a := f) (o := o₁') (tk := t₈) (by simp [PMap.put, nfr]) hst hoth
    have F₉ := F₉.adopt hod z0 zP zX zL zC
    refine then_next ?_
    (refine el0x4 (id H.c) ?_; intro hZ; obtain ⟨nm, q, N, bs, sn, sub, col, dd, k0, k1, k2, k3, k5, hCC, hN⟩ := hZ; intro n1 n2 n3)
    refine sc_of (wpAny_Return_some (wpAny_Call_Name_kw (F₉.evald (den_glob (gm 4 rfl) H.cls (.raw _) (by decide +kernel)) fun v₁ sa Pa Fa la ka ra => ?_)))
    (have h := Rp.raw_inv ra; clear ra; subst h)
    refine callWith_class (o := _) (cd := _) rfl (evalArgs_plain (spliced_cons (Fa.evald (den_var (zm 1 rfl rfl)) fun v₂ sb Pb Fb lb kb rb => spliced_nil ⟨(in0x3 (Fb.cx.sub _ _ (Fb.cx.base _ _ hCC)) rfl rfl), ?_⟩)))
    (have h := Rp.raw_inv rb; clear rb; subst h)
    refine lex_init H.c H.i H.a1 H.a2 H.a3 H.a4 Fb.cx.ok Fb.cx.base Fb.cx.sub Fb.cx.room fun s' x dx B t u mA X' P' h' tk hs' lP sP gP kP sX fX iX hA hB nBx nBd => ?_
    subst hs'
    generalize hMb : ((((PMap.none.put S (lobj vs k)).put f _).put rf _).put f _).put ds od = Mb at Fb
    obtain ⟨ps₂, mT⟩ : ∃ ps, Xb T = some (tabObj ps) := ⟨_, by rw [hXb]; exact PMap.put_self _ _ _⟩
    have mS : Mb S = some (lobj vs k) := by rw [← hMb]; simp [PMap.put, nSd, nSf, nSr]
    have mf := show Mb f = some { o₁' with dict := some ds } by rw [← hMb]; simp [PMap.put, nfd]
    have mr := show Mb rf = some o₂' by rw [← hMb]; simp [PMap.put, nrd, Ne.symm nfr]
    have md : Mb ds = some od := by rw [← hMb]; exact PMap.put_self _ _ _
    have Fz := Fb.outer (X' := X'.over Xb) (tk := tk) (fun b o e => (in1x2 o (kP b o e) (fun _ => rfl))) lP sP gP
      (fun b o e => by
        rcases PMap.over_some e with q | q
        · exact sX b _ q
        · exact kP b o (Fb.mux b o q.2))
      (fun b o e => by
        rcases PMap.over_some e with q | q
        · exact .inr (fX b _ q)
        · exact .inl (by rw [q.2]; rfl))
    have offX' : ∀ {b o}, Mb b = some o → X' b = none := fun {b o} e => PMap.over_none (Fz.disY b o e)
    have hcl' : env.cells.lookup ("signs" : Str) = some cl := hcl
    have hclm := mem_of_lookup hcl'
    (refine el2x3 (varRef Fz.cx (x := "signs") (S := S) (zm 2 rfl rfl) hkC) ?_; intro cl₂ oc₃ hcl₂ hg₃ hd₃)
    obtain rfl : cl = cl₂ := by rw [hcl'] at hcl₂; injection hcl₂
    have Pcl : P' cl = none := Fz.cx.off.2 _ hclm
    have Mcl : Mb cl = none := Fz.offM.2 _ hclm
    have Xcl : X' cl = none := PMap.over_none (Fz.offX.2 _ hclm)
    have ncf : cl ≠ f := fun q => by rw [q, mf] at Mcl; exact no2 Mcl
    have ncd : cl ≠ ds := fun q => by rw [q, md] at Mcl; exact no2 Mcl
    have ncr : cl ≠ rf := fun q => by rw [q, mr] at Mcl; exact no2 Mcl
    have ncS : cl ≠ S := fun q => by rw [q, mS] at Mcl; exact no2 Mcl
    have l0 := PMap.put_le (o := oc₃) Pcl
    have nf1 : (P'.put cl oc₃) f = none := by simp [PMap.put, Ne.symm ncf]; exact Fz.disM _ _ mf
    obtain ⟨fo, hfo⟩ : ∃ fo, Mb f = some fo := ⟨_, mf⟩
    obtain ⟨ro, hro⟩ : ∃ ro, Mb rf = some ro := ⟨_, mr⟩
    have l1 := PMap.put_le (o := fo) nf1
    have nd1 : ((P'.put cl oc₃).put f fo) ds = none := by simp [PMap.put, Ne.symm ncd, Ne.symm nfd]; exact Fz.disM _ _ md
    have l2 := PMap.put_le (o := od) nd1
    have nr1 : (((P'.put cl oc₃).put f fo).put ds od) rf = none := by simp [PMap.put, Ne.symm ncr, Ne.symm nfr, nrd]; exact Fz.disM _ _ mr
    have l3 := PMap.put_le (o := ro) nr1
    have ll := ((l0.trans l1).trans l2).trans l3
    generalize hPz : (((P'.put cl oc₃).put f fo).put ds od).put rf ro = Pz at ll l3
    have zr : Pz rf = some ro := by rw [← hPz]; exact PMap.put_self _ _ _
    have zd : Pz ds = some od := by rw [← hPz]; simp [PMap.put, Ne.symm nrd]
    have zf : Pz f = some fo := by rw [← hPz]; simp [PMap.put, nfr, nfd]
    have zc : Pz cl = some oc₃ := by rw [← hPz]; simp [PMap.put, ncr, ncd, ncf]
    have own0 : ∀ {b o}, Mb b = some o → s.heap.get? b = none := fun {b o} e => by
      rcases Fz.wM b o e with q | q
      · exact q.elim
      · exact q
    have hTs := bX _ _ hT
    have nT : ∀ {b : Addr}, s.heap.get? b = none → b ≠ T := fun {b} e q => by rw [q, hTs] at e; exact no2 e
    have hXT : X' T = none := by
      cases q : X' T with
      | none => rfl
      | some o => have := (fX T _ q).1; rw [Fb.mux _ _ mT] at this; exact no2 this
    have nTS : T ≠ S := fun q => nT (own0 mS) q.symm
    have cl0 : s.heap.get? cl = none := by
      rcases Fz.wC ("signs" : Str) (gm 2 rfl) cl hcl' with q | q
      · have q' : (X cl).isSome = true := q
        rw [F.offX.2 _ hclm] at q'; exact no3 q'
      · exact q
    refine (in1x3 ⟨x, dx, B, S, f, rf, cl, C, T⟩ rfl rfl (Fz.endsJ (X' := X'.over ((PMap.none.put T (tabObj ps₂)).put S (lobj vs k))) (P' := Pz) (fun b o e => ?_) ll (fun b o e => ?_) (.raw _) ⟨(in3x2 t u mA ?_ (fun y => ?_)), (in2x2 (#[]) (0) ?_ (.nil)), (in2x2 vs k ?_ ?_), ?_, ?_, ?_, ?_, nBx, nBd, ⟨⟨ps₂, ?_⟩, nTS, ?_, ?_⟩⟩))
    · rcases PMap.over_some e with q | q
      · exact .inl (PMap.over_left q)
      · by_cases z : b = S
        · subst z
          have e2 := q.2
          rw [PMap.put_self] at e2; (have h := Option.some.inj e2; clear e2; subst h)
          exact .inr mS
        · by_cases z2 : b = T
          · subst z2
            have e2 := q.2
            simp [PMap.put, z] at e2
            subst e2
            exact .inl (by rw [PMap.over_right hXT]; exact mT)
          · have := q.2; simp [PMap.put, z, z2, PMap.none] at this
    · have ov : ∀ {b : Addr}, X' b = none → b ≠ S → s.heap.get? b = none → X'.over ((PMap.none.put T (tabObj ps₂)).put S (lobj vs k)) b = none := fun {b} h1 h2 h3 => by rw [PMap.over_right h1]; simp [PMap.put, h2, nT h3, PMap.none]
      rw [← hPz] at e
      by_cases z1 : b = rf
      · subst z1; rw [PMap.put_self] at e; (have h := Option.some.inj e; clear e; subst h)
        exact .inr (in0x3 (own0 mr) (Fz.muo _ _ hro) (ov (offX' mr) (Ne.symm nSr) (own0 mr)))
      · by_cases z2 : b = ds
        · subst z2; simp [PMap.put, z1] at e; subst e
          exact .inr (in0x3 (own0 md) (Fz.muo _ _ md) (ov (offX' md) (Ne.symm nSd) (own0 md)))
        · by_cases z3 : b = f
          · subst z3; simp [PMap.put, z1, z2] at e; subst e
            exact .inr (in0x3 (own0 mf) (Fz.muo _ _ hfo) (ov (offX' mf) (Ne.symm nSf) (own0 mf)))
          · by_cases z4 : b = cl
            · subst z4; simp [PMap.put, z1, z2, z3] at e; subst e
              exact .inr (in0x3 cl0 hg₃ (ov Xcl ncS cl0))
            · simp [PMap.put, z1, z2, z3, z4] at e; exact .inl e
    · (refine el4x10 iX ?_; clear iX; intro ox od' es' ep' h1 h2 h3 h4 h5 h6 h7 h8 h9 h10)
      exact (in4x10 ox od' es' ep' (PMap.over_left h1) h2 h3 h4 h5 (PMap.over_left h6) h7 h8 h9 h10)
    · rw [hA y]; rfl
    · exact PMap.over_left hB
    · show X'.over ((PMap.none.put T (tabObj ps₂)).put S (lobj vs k)) S = _
      rw [PMap.over_right (offX' mS)]; exact PMap.put_self _ _ _
    · rw [List.map_reverse]
      exact r₂.mono (((((((l₄.trans l₆).trans l₇).trans la).trans lb).trans lP).trans ll))
    · have e1 := Option.some.inj (hfo.symm.trans mf)
      have e2 := Option.some.inj (hro.symm.trans mr)
      subst e1; subst e2; subst hO₁; subst hO₂
      (refine el2x2 hq₂ ?_; clear hq₂; intro vs₂ t₂ hd₂ hv₂)
      exact (in0x3 ⟨_, od, ds, es, ep, zf, rfl, ⟨_, rfl⟩, rfl, zd, hdd, hdk, hdf⟩ (in2x10 _ _ zr rfl rfl rfl rfl rfl rfl rfl rfl ⟨ c₂, oc₂, vs₂, t₂, rfl, ll _ _ (lP _ _ (lb _ _ (la _ _ (l₇ _ _ hc₂)))), hd₂, hv₂⟩) (in1x2 oc₃ zc hd₃))
    · intro q; have := offX' mS; rw [show S = B from q] at this; rw [hB] at this; exact no2 this
    · intro q; have := offX' mS; (refine el4x7 iX ?_; clear iX; intro ox od' es' ep' h1 h2 h3 h4 h5 h6 _); rw [show S = x from q, h1] at this; exact no2 this
    · intro q; have := offX' mS; (refine el4x7 iX ?_; clear iX; intro ox od' es' ep' h1 h2 h3 h4 h5 h6 _); rw [show S = dx from q, h6] at this; exact no2 this
    · show X'.over ((PMap.none.put T (tabObj ps₂)).put S (lobj vs k)) T = _
      rw [PMap.over_right hXT]; simp [PMap.put, nTS]
    · intro q; rw [show T = B from q, hB] at hXT; exact no2 hXT
    · intro q; (refine el4x7 iX ?_; clear iX; intro ox od' es' ep' h1 h2 h3 h4 h5 h6 _); rw [show T = dx from q, h6] at hXT; exact no2 hXT
end
end
section
open Builtin
section
variable {prog : Program} {w : World} {G : GC} {n : Nat} {A : Around} {W V : Addr → Prop} {s₀ : Shared} {P₀ : PMap} {env : Env} {sc : Scp} {xs : List Str} {M X P M' X' P' : PMap} {σ σ' τ : Sto} {s s' : Shared} {rest : List Stmt} {Q : Flow → Shared → Prop}
noncomputable def TurnQ (N : Shared → Prop) (R : Value → Shared → Prop) : Flow → Shared → Prop := fun f s => match f with
  | .next | .cont => N s
  | .brk => False
  | .ret v => R v s
theorem turn_next {N : Shared → Prop} {R : Value → Shared → Prop} {s : Shared} (h : N s) : TurnQ N R .next s := h
theorem sc_forB {α β : Type} {x : Str} {tp : Pos} {iter : Expr} {body : List Stmt} {pos : Pos} {src : PV} (enc : α → PV) (items : List α) (σs σt : Nat → β → Sto) (I : Nat → β → PMap → PMap → PMap → Prop) (R : PMap → PMap → PMap → Value → Prop) (b₀ : β)
    (F : Fn prog w G n A W V s₀ P₀ env sc xs M X P (σs 0 b₀) s) (di : Den prog w G n sc (σs 0 b₀) iter src) (hi : Its prog w src (items.map enc))
    (hI : ∀ j b M X P P', PMap.le P P' → I j b M X P → I j b M X P') (i0 : I 0 b₀ M X P) (hx : x ∈ xs)
    (hA : ∀ j a b, items[j]? = some a → Turned x (enc a) (σs j b) (σt j b))
    (hB : ∀ j a b, items[j]? = some a → ∀ W' V' s₁ P₁ M X P s, Fn prog w G n A W' V' s₁ P₁ env sc xs M X P (σt j b) s → I j b M X P → Run prog w A env body (TurnQ
      (fun s' => ∃ b' M' X' P', Fn prog w G n A W' V' s₁ P₁ env sc xs M' X' P' (σs (j + 1) b') s' ∧ I (j + 1) b' M' X' P')
      (fun v s' => ∃ M' X' P', Fn prog w G n A W' V' s₁ P₁ env sc xs M' X' P' [] s' ∧ R M' X' P' v)) s)
    (hQ : ∀ b' M' X' P' s', Fn prog w G n A W V s₀ P₀ env sc xs M' X' P' (σs items.length b') s' → I items.length b' M' X' P' → PMap.le P P' → Run prog w A env rest Q s')
    (hR : ∀ M' X' P' s' v, Fn prog w G n A W V s₀ P₀ env sc xs M' X' P' [] s' → R M' X' P' v → PMap.le P P' → Q (.ret v) s')
    (hs : ∀ x, foldedSetIterable iter env x = pure x := by intro _; rfl) : Run prog w A env (.For (.Name x tp) iter body [] pos :: rest) Q s :=
  sc_of (st_forB F di hi hI i0 (fun j a b h => asg_nameX hx (F.own x hx).2 (hA j a b h)) (fun j a b h W' V' s₁ P₁ M X P s F i => wpAny_mono (hB j a b h W' V' s₁ P₁ M X P s F i).run (fun f s' q => by cases f <;> exact q) fun _ _ q => q) (fun b M' X' P' s' F i l => then_next (hQ b M' X' P' s' F i l)) (fun M' X' P' s' v F i l => then_ret (hR M' X' P' s' v F i l)) hs)
noncomputable def MList (prog : Program) (w : World) (M P : PMap) (a : Addr) (l : List PV) : Prop := ∃ vs k, M a = some (lobj vs k) ∧ RpL prog w P vs.toList l
theorem MList.mono {a : Addr} {l : List PV} (h : MList prog w M P a l) (lp : PMap.le P P') : MList prog w M P' a l := let ⟨vs, k, e, r⟩ := h; (in2x2 vs k e (r.mono lp))
theorem MList.keep {a : Addr} {l : List PV} (h : MList prog w M P a l) {M' : PMap} (e : M' a = M a) (lp : PMap.le P P') : MList prog w M' P' a l := let ⟨vs, k, e', r⟩ := h; (in2x2 vs k (e.trans e') (r.mono lp))
theorem sc_new {σ' : Addr → Sto} {x : Str} {es : List Expr} {ds : List PV} {p p' pp : Pos} (F : Fn prog w G n A W V s₀ P₀ env sc xs M X P σ s) (D : Dens prog w G n sc σ es ds) (hz : ds.length ≤ sizeLine) (hx : x ∈ xs) (T : ∀ a, Turned x (.raw (.ref a)) σ (σ' a))
    (h : ∀ a o s' P', Fn prog w G n A W V s₀ P₀ env sc xs (M.put a o) X P' (σ' a) s' → PMap.le P P' → M a = none → MList prog w (M.put a o) P' a ds → Run prog w A env rest Q s')
    (hs : swapsWith (.List es pp) (some (.Name x p')) p.line env = pure false := by rfl) :
    Run prog w A env (.Assign [.Name x p'] (.List es pp) p :: rest) Q s :=
  sc_of (wpAny_Assign_Name (F.evaldO (deno_list D hz) fun a vs k s₂ P₂ F₂ l₂ k₂ nM nP r₂ => F₂.store (pv := .raw (.ref a)) hx (T a) (.raw _) fun s₃ F₃ => then_next (h a _ s₃ P₂ F₃ l₂ nM (in2x2 vs k (PMap.put_self _ _ _) r₂))) hs)
theorem sc_append {a : Addr} {l : List PV} {d : PV} {o e : Expr} {ap cp p : Pos} (F : Fn prog w G n A W V s₀ P₀ env sc xs M X P σ s) (m : MList prog w M P a l) (hz : l.length ≤ 10000) (Do : Den prog w G n sc σ o (.raw (.ref a))) (De : Den prog w G n sc σ e d)
    (h : ∀ ob s' P', Fn prog w G n A W V s₀ P₀ env sc xs (M.put a ob) X P' σ s' → PMap.le P P' → MList prog w (M.put a ob) P' a (l ++ [d]) → Run prog w A env rest Q s')
    (hb : ∀ env t, attributeBase o "append" env t = t := by intros; rfl) (hm : ∀ env, methodCallForm 1 (backTo cp (starEach [e] env)) [] = true := by intros; rfl) (hp : (ap.endLine == cp.line) = true := by rfl)
    (he : ∀ env, starEach [e] env = (false, eval e env) :: starEach [] env := by intro _; rfl)
    (hs : swapsWith (.Call (.Attribute o "append" ap) [e] [] cp) none p.line env = pure false := by rfl) :
    Run prog w A env (.Expr (.Call (.Attribute o "append" ap) [e] [] cp) p :: rest) Q s := by
  refine sc_of (wpAny_Expr_any (MethodCall_ (F.evald Do fun v s₂ P₂ F₂ l₂ k₂ r₂ => ?_) (attrCall_eq (hb env _) (hm env) hp)) (hi := by unfold interactive; rw [F.cx.act.kind]; rfl) (hs := hs))
  (have h := Rp.raw_inv r₂; clear r₂; subst h)
  (refine el2x2 m ?_; clear m; intro vs k hM hr)
  have hS := F₂.muo _ _ hM
  have hl := hr.length
  rw [Array.length_toList] at hl
  refine getMethod_builtin (T := "list") (in1x2 _ hS rfl) PySem.F.plainAttrs_list PySem.slot_list_append PySem.F.type_list_append (fun x hx => by (have h := Value.ref.inj hx; clear hx; subst h); exact (in1x2 _ hS rfl)) (callWith_builtin (by rw [he]; rfl) ?_)
  rw [he]
  refine evalArgs_plain (spliced_cons (F₂.evald De fun v s₃ P₃ F₃ l₃ k₃ r₃ => spliced_nil ?_))
  have hS₃ := F₃.muo _ _ hM
  refine call_meets slot_list_append (in1x2 _ hS₃ rfl) entry_list_append (args_list_append _ _) (AutoListH.list_append_list_val_0 a vs k v (by unfold sizeLine; exact lin [_, _] [.L 1 (.V 0) (.N 10000), .E 1 (.V 1) (.V 0)] (.L 1 (.V 1) (.N 16777216)) rfl hz hl)) ⟨hS₃, ?_⟩
  have hme : Obj.mapSeq (fun xs => xs.push v) (lobj vs k) = lobj (vs.push v) (if (vs.push v).size == vs.size then k else k + 1) := by rfl
  have hg : (s₃.heap.update a (Obj.mapSeq fun xs => xs.push v)).get? a = some (lobj (vs.push v) (if (vs.push v).size == vs.size then k else k + 1)) := by
    rw [Heap.get?_update_self _ hS₃ (by rw [hme]; rfl), hme]
  have F₄ := F₃.turn (tk := s₃.toks) hM hg (fun b o hb e => (Heap.SameBut.update ..).extBut b o hb e)
  show Then _ _ _ _ _ _ _ _
  exact then_next (h _ _ P₃ F₄ (l₂.trans l₃) (in2x2 _ _ (PMap.put_self _ _ _) (by rw [Array.toList_push]; exact ((hr.mono l₂).mono l₃).append (.one r₃))))
theorem Cx.borrow {a : Addr} {vs : Array Value} {k : Nat} {l : List PV} {x : Str} (C : Cx prog w G n A P env sc σ s) (hS : s.heap.get? a = some (lobj vs k)) (nP : P a = none) (r : RpL prog w P vs.toList l) (hx : (x, some (.raw (.ref a))) ∈ σ) (T : Turned x (.list l) σ σ') :
    Cx prog w G n A (P.put a (lobj vs k)) env sc σ' s := by
  have ll : PMap.le P (P.put a (lobj vs k)) := PMap.put_le nP
  have nL : env.locals ≠ a := fun z => by
    (refine el4x3 (C.act.ns) ?_; intro m o1 es ep ho hd _); rw [z, hS] at ho; (have h := Option.some.inj ho; clear ho; subst h); cases hd
  have nC : ∀ p ∈ env.cells, p.2 ≠ a := fun p hp z => by
    (refine el2x2 (C.act.cell p.1 p.2 hp) ?_; intro v o1 ho hd); rw [z, hS] at ho; (have h := Option.some.inj ho; clear ho; subst h); cases hd
  refine ⟨C.ok, C.base.trans ll, PMap.put_sub C.sub hS, C.act, ⟨by simp [PMap.put, nL, C.off.1], fun p hp => by simp [PMap.put, nC p hp, C.off.2 p hp]⟩, C.glob, C.blt, C.kl, fun y q hy => ?_, C.room⟩
  rcases T y q hy with ⟨rfl, rfl⟩ | ⟨_, h⟩
  · (refine el0x2 (C.vars _ _ hx) ?_; intro d hZ; refine el1x2 hZ ?_; clear hZ; intro v y' r')
    (have h := Rp.raw_inv r'; clear r'; subst h)
    exact ⟨d, _, y', .list (PMap.put_self _ _ _) (r.mono ll)⟩
  · (refine el0x2 (C.vars _ _ h) ?_; intro d hZ; refine el1x2 hZ ?_; clear hZ; intro v y' r')
    exact ⟨d, v, y', r'.mono ll⟩
theorem Fn.testB {a : Addr} {l : List PV} {x : Str} {e : Expr} {b : Bool} {Q : Bool → Shared → Prop} (F : Fn prog w G n A W V s₀ P₀ env sc xs M X P σ s) (m : MList prog w M P a l) (hx : (x, some (.raw (.ref a))) ∈ σ) (T : Turned x (.list l) σ σ') (D : DenT prog w G n sc σ' e b)
    (h : ∀ s', Fn prog w G n A W V s₀ P₀ env sc xs M X P σ s' → Q b s') : wpAny (model prog w) A (isTrue e env (eval e env)) Q (fun _ _ => False) s := by
  (refine el2x2 m ?_; clear m; intro vs k hM hr)
  refine D.go (F.cx.borrow (F.muo _ _ hM) (F.disM _ _ hM) hr hx T) fun h' tk P' C' k' l' g' => ?_
  exact h _ (F.move k' (PMap.le_refl _) (F.cx.sub.keep k') (Grew.refl _ _))
theorem Fn.recast {x : Str} {v : Value} {pv : PV} (F : Fn prog w G n A W V s₀ P₀ env sc xs M X P σ s) (hx : (x, some (.raw v)) ∈ σ) (r : Rp prog w P v pv) (T : Turned x pv σ σ') : Fn prog w G n A W V s₀ P₀ env sc xs M X P σ' s := by
  have C := F.cx
  refine { F with cx := ⟨C.ok, C.base, C.sub, C.act, C.off, C.glob, C.blt, C.kl, fun y q hy => ?_, C.room⟩ }
  rcases T y q hy with ⟨rfl, rfl⟩ | ⟨_, h⟩
  · (refine el0x2 (C.vars _ _ hx) ?_; intro d hZ; refine el1x2 hZ ?_; clear hZ; intro u y' r')
    (have h := Rp.raw_inv r'; clear r'; subst h)
    exact ⟨d, _, y', r⟩
  · exact C.vars _ _ h
theorem Fn.freezeL {a : Addr} {l : List PV} {x : Str} (F : Fn prog w G n A W V s₀ P₀ env sc xs M X P σ s) (m : MList prog w M P a l) (hx : (x, some (.raw (.ref a))) ∈ σ) (T : Turned x (.list l) σ σ') :
    ∃ P', Fn prog w G n A W V s₀ P₀ env sc xs (M.del a) X P' σ' s ∧ PMap.le P P' ∧ Rp prog w P' (.ref a) (.list l) := by
  (refine el2x2 m ?_; clear m; intro vs k hM hr)
  have ll : PMap.le P (P.put a (lobj vs k)) := PMap.put_le (F.disM _ _ hM)
  exact (in1x3 _ ((F.freeze hM).recast hx (.list (PMap.put_self _ _ _) (hr.mono ll)) T) ll (.list (PMap.put_self _ _ _) (hr.mono ll)))
end
end
section
open Builtin
section
variable {prog : Program} {w : World} {G : GC} {n : Nat} {A : Around} {W V : Addr → Prop} {s₀ : Shared} {P₀ : PMap} {env : Env} {sc : Scp} {xs : List Str} {M X P M' X' P' : PMap} {σ σ' τ : Sto} {s s' : Shared} {rest : List Stmt} {Q : Flow → Shared → Prop}
abbrev DctS := List (Str × Int)
theorem con_getS {l : DctS} {k : Str} {d : Int} : Con prog w G n (.builtin "dict.get") [.dS l, .str k, .int d] (.int ((getK l k).getD d)) := fun A P s vs ok le b rm rs => by
  (refine RpL.el3 rs ?_; clear rs; intro _ _ _ h r r' r''; subst h)
  (refine el3x5 (r.dS_inv) ?_; intro a o kvs hZ; subst hZ; intro e dd p m)
  (refine Rp.str_el r' ?_; clear r'; intro t h; subst h); (refine Rp.int_el r'' ?_; clear r''; intro u h; subst h)
  have hD : s.heap.DictOf (strKind prog w) a kvs := Heap.dictOf_iff.mpr (in1x2 o (b _ _ e) dd)
  refine call_meetsIn PySem.F.slot_dict_get hD.typeIs PySem.F.entry_dict_get (PySem.F.args_dict_get_3 _ _ _) (meets_dict_get_default (strKind prog w) (k := k) a (by simp [PySem.strKind, Value.isStrOf]) m (.int d u)) (in1x2 _ hD.mapOf ?_)
  rcases valueAt_paired p k with ⟨i, t', g, hv⟩ | ⟨g, hv⟩
  · rw [hv, g]; exact Ends.tok b (.int _ _) _
  · rw [hv, g]; exact Ends.tok b (.int _ _) _
theorem den_itemS {value slice : Expr} {p : Pos} {l : DctS} {k : Str} {i : Int} (dv : Den prog w G n sc σ value (.dS l)) (di : Den prog w G n sc σ slice (.str k)) (hk : getK l k = some i)
    (hs : ∀ a t, subscripted slice false (.ref a) (.str k t) = operate [.ref a, .str k t] (getItem (.ref a) (.str k t)) := by intros; with_unfolding_all rfl) : Den prog w G n sc σ (.Subscript value slice p) (.int i) := .mk fun A P env s C => by
  refine Subscript_ (dv.go C fun u h₁ t₁ P₁ C₁ k₁ l₁ f₁ r₁ => di.go C₁ fun v h₂ t₂ P₂ C₂ k₂ l₂ f₂ r₂ => ?_)
  (refine el3x5 (r₁.dS_inv) ?_; intro a o kvs hZ; subst hZ; intro e dd p m)
  (refine Rp.str_el r₂ ?_; clear r₂; intro t h; subst h)
  have hD : h₂.DictOf (strKind prog w) a kvs := Heap.dictOf_iff.mpr (in1x2 o (C₂.sub _ _ (l₂ _ _ e)) dd)
  rcases valueAt_paired p k with ⟨j, t', g, hv⟩ | ⟨g, hv⟩
  · rw [hk] at g; (have h := Option.some.inj g; clear g; subst h)
    refine PyProof.Rows.tail_any (Heap.DictOf.typeIs (s := { s with heap := h₂, toks := t₂ }) hD) slot_dict_getitem.lookup (wpAny_getItem_of (knd := strKind prog w) (k := k) (by simp [PySem.strKind, Value.isStrOf]) (Heap.DictOf.mapOf (h := h₂) hD) hv ?_) (hs _ _)
    exact Ends.back k₁ l₁ f₁ (Ends.back (s := { s with heap := h₁, toks := t₁ }) k₂ l₂ f₂ (Ends.tok (s := { s with heap := h₂, toks := t₂ }) C₂.sub (.int _ _) _))
  · rw [hk] at g; exact no2 g
theorem sc_tup {ts es : List Expr} {ys : List Str} {k k' : Nat} {p p' p'' : Pos} (hy : ∀ y ∈ ys, y ∈ xs)
    (h : wpAny (model prog w) A (spliced (backTo p'' (starEach es env))) (fun vs s' => ∃ M' X' P' ds σ₁ σ', Fn prog w G n A W V s₀ P₀ env sc xs M' X' P' σ₁ s' ∧ RpL prog w P' vs ds ∧ ds.length ≤ 10 ∧ Nms ts ds σ₁ σ' ys ∧
      ∀ s'' P'', Fn prog w G n A W V s₀ P₀ env sc xs M' X' P'' σ' s'' → PMap.le P' P'' → Run prog w A env rest Q s'') (fun _ _ => False) s)
    (hs : swapsWithSole [.Tuple ts k p'] (.Tuple es k' p'') p.line env = pure false) (hw : swappedStores [.Tuple ts k p'] (.Tuple es k' p'') env = pure none) : Run prog w A env (.Assign [.Tuple ts k p'] (.Tuple es k' p'') p :: rest) Q s := by
  refine sc_of (Assign_Tuple (Tuple_ (wpAny_mono h (fun vs s' q => ?_) fun _ _ q => q)) hs hw)
  obtain ⟨M', X', P', ds, σ₁, σ', F, r, hl, N, hr⟩ := q
  have hz := r.length
  refine wpAny_newObj_type ?_ (by show vs.toArray.size ≤ sizeLine; rw [List.size_toArray, hz]; unfold sizeLine; exact lin [_] [.L 1 (.V 0) (.N 10)] (.L 1 (.V 0) (.N 16777216)) rfl hl)
  have fz : s'.heap.get? s'.heap.objs.size = none := fresh_size (Nat.le_refl _)
  have nz : P' s'.heap.objs.size = none := F.cx.sub.fresh fz
  have kp := Keep.push s'.heap { cls := .type "tuple", data := .seq vs.toArray 0 }
  have F₂ := F.move (tk := s'.toks) kp (PMap.put_le nz) (PMap.put_sub (F.cx.sub.keep kp) (Heap.get?_push_size _ rfl)) (PMap.put_grew (Grew.refl _ _) fz)
  have rt : Rp prog w (P'.put s'.heap.objs.size { cls := .type "tuple", data := .seq vs.toArray 0 }) (.ref s'.heap.objs.size) (.tuple ds) := .tuple (PMap.put_self _ _ _) (by simpa using r.mono (PMap.put_le nz))
  exact (asg_names (xs := xs) N hy).run A _ env _ _ _ F₂.cx (fun x hx => (F₂.own x hx).1) rt fun h' tk P'' C'' k'' l'' g'' => then_next (hr _ _ (F₂.stored C'' k'' l'' g'') ((PMap.put_le nz).trans l''))
theorem sc_tupS {ts es : List Expr} {names : List Str} {k k' : Nat} {p p' p'' : Pos}
    (h : wpAny (model prog w) A (spliced (backTo p'' (starEach es env))) (fun vs s' => vs.length = names.length ∧ names.length ≤ 10 ∧ ∃ M' X' P' σ₁, Fn prog w G n A W V s₀ P₀ env sc xs M' X' P' σ₁ s' ∧
      ∀ s'' P'', Fn prog w G n A W V s₀ P₀ env sc xs M' X' P'' σ₁ s'' → PMap.le P' P'' → wpAny (model prog w) A (assignInOrder (names.reverse.map fun n => bindName env n) vs.reverse) (fun _ s3 => Run prog w A env rest Q s3) (fun _ _ => False) s'') (fun _ _ => False) s)
    (hs : swapsWithSole [.Tuple ts k p'] (.Tuple es k' p'') p.line env = pure false) (hw : swappedStores [.Tuple ts k p'] (.Tuple es k' p'') env = pure (some names)) : Run prog w A env (.Assign [.Tuple ts k p'] (.Tuple es k' p'') p :: rest) Q s := by
  refine sc_of (Assign_Tuple_swapped (Tuple_ (wpAny_mono h (fun vs s' q => ?_) fun _ _ q => q)) hs hw)
  (refine el0x3 q ?_; clear q; intro hl hz hZ; refine el4x2 hZ ?_; clear hZ; intro M' X' P' σ₁ F hr)
  refine wpAny_newObj_type ?_ (by show vs.toArray.size ≤ sizeLine; rw [List.size_toArray, hl]; unfold sizeLine; exact lin [_] [.L 1 (.V 0) (.N 10)] (.L 1 (.V 0) (.N 16777216)) rfl hz)
  have fz : s'.heap.get? s'.heap.objs.size = none := fresh_size (Nat.le_refl _)
  have kp := Keep.push s'.heap { cls := .type "tuple", data := .seq vs.toArray 0 }
  have F₂ := F.move (tk := s'.toks) kp (PMap.le_refl _) (F.cx.sub.keep kp) (Grew.refl _ _)
  have hT : (s'.heap.push { cls := .type "tuple", data := .seq vs.toArray 0 }).IsTuple s'.heap.objs.size vs.toArray := (in1x3 _ (Heap.get?_push_size _ rfl) rfl ⟨ 0, rfl⟩)
  rw [show names.length = vs.toArray.size by rw [List.size_toArray, hl]]
  refine wpAny_unpackItems_tuple F₂.cx.room.hd hT fun h' kx => ?_
  have kp' := Keep.ofExt kx
  have F₃ := F₂.move (tk := s'.toks) kp' (PMap.le_refl _) (F₂.cx.sub.keep kp') (Grew.refl _ _)
  exact wpAny_mono (hr _ P' F₃ (PMap.le_refl _)) (fun _ s3 q => then_next q) fun _ _ q => q
theorem swap3' {x y z : Str} {u v t : Value} {d e f : PV} {σ₁ σ₂ : Sto} {R : Unit → Shared → Prop} (F : Fn prog w G n A W V s₀ P₀ env sc xs M X P σ s) (hx : x ∈ xs) (hy : y ∈ xs) (hz : z ∈ xs) (T : Turned z f σ σ₁) (T' : Turned y e σ₁ σ₂) (T'' : Turned x d σ₂ σ') (ru : Rp prog w P u d) (rv : Rp prog w P v e) (rt : Rp prog w P t f)
    (h : ∀ s', Fn prog w G n A W V s₀ P₀ env sc xs M X P σ' s' → R () s') :
    wpAny (model prog w) A (assignInOrder ([x, y, z].reverse.map fun n => bindName env n) [u, v, t].reverse) R (fun _ _ => False) s := by
  show wpAny _ _ (do holding [v, u] (bindName env z t); assignInOrder [bindName env y, bindName env x] [v, u]) _ _ _
  refine wpAny_bind (wpAny_holding (bindName_ (F.store hz T rt fun s₁ F₁ => ?_)))
  show wpAny _ _ (do holding [u] (bindName env y v); assignInOrder [bindName env x] [u]) _ _ _
  refine wpAny_bind (wpAny_holding (bindName_ (F₁.store hy T' rv fun s₂ F₂ => ?_)))
  show wpAny _ _ (do holding [] (bindName env x u); assignInOrder [] []) _ _ _
  exact wpAny_bind (wpAny_holding (bindName_ (F₂.store hx T'' ru fun s₃ F₃ => wpAny_pure (h s₃ F₃))))
end
end
section
open Builtin
inductive TokM where
  | w (x : Nat) | m (k : Nat) | z
noncomputable def TokM.wd (words marks : List (List Nat)) : TokM → List Nat
  | .w x => words.getD x []
  | .m k => marks.getD k []
  | .z => [122]
noncomputable def TokM.kd : TokM → Nat
  | .w _ => 1
  | .m _ => 2
  | .z => 0
noncomputable def toksQ : Nat → List (List Nat) → List TokM
  | _, [] => []
  | k, r :: rs => r.map .w ++ .m k :: toksQ (k + 1) rs
structure StM where
  told : List (List Nat)
  row : List Nat
  left : List Int
noncomputable def stM (lefts : List Int) (s : StM) : TokM → StM
  | .w x => ⟨s.told, s.row ++ [x], s.left⟩
  | .m k => ⟨s.told ++ [s.row], [], s.left ++ [lefts.getD k 0]⟩
  | .z => s
theorem fold_row (lefts : List Int) : ∀ (r : List Nat) (s : StM), (r.map TokM.w).foldl (stM lefts) s = ⟨s.told, s.row ++ r, s.left⟩
  | [], s => by simp
  | x :: r, s => by rw [List.map_cons, List.foldl_cons, fold_row lefts r]; simp [stM]
theorem fold_toksQ (lefts : List Int) : ∀ (rs : List (List Nat)) (k : Nat) (t : List (List Nat)) (l : List Int), (toksQ k rs).foldl (stM lefts) ⟨t, [], l⟩ = ⟨t ++ rs, [], l ++ (List.range' k rs.length).map fun i => lefts.getD i 0⟩
  | [], k, t, l => by simp [toksQ]
  | r :: rs, k, t, l => by
    rw [toksQ, List.foldl_append, fold_row, List.foldl_cons]
    show (toksQ (k + 1) rs).foldl (stM lefts) ⟨t ++ [[] ++ r], [], l ++ [lefts.getD k 0]⟩ = _
    rw [fold_toksQ lefts rs]
    simp [List.range'_succ]
theorem toksQ_append (a b : List (List Nat)) : ∀ k, toksQ k (a ++ b) = toksQ k a ++ toksQ (k + a.length) b := by
  induction a with
  | nil => intro k; simp [toksQ]
  | cons r rs ih => intro k; simp [toksQ, ih]; congr 1; exact Nat.le_antisymm (lin [_, _] [] (.L 1 (.A (.A (.V 0) (.N 1)) (.V 1)) (.A (.V 0) (.A (.V 1) (.N 1)))) rfl) (lin [_, _] [] (.L 1 (.A (.V 0) (.A (.V 1) (.N 1))) (.A (.A (.V 0) (.N 1)) (.V 1))) rfl)
theorem toksQ_len {sz : Nat} : ∀ (rs : List (List Nat)) (k : Nat), (∀ r ∈ rs, r.length = sz) → (toksQ k rs).length = rs.length * (1 + sz)
  | [], _, _ => by simp [toksQ]
  | r :: rs, k, h => by
    rw [toksQ, List.length_append, List.length_map, List.length_cons, toksQ_len rs (k + 1) fun r hr => h r (List.mem_cons_of_mem _ hr), h r (by simp), List.length_cons, Nat.add_mul]
    exact Nat.le_antisymm (lin [_, _] [] (.L 1 (.A (.V 0) (.A (.V 1) (.N 1))) (.A (.V 1) (.M 1 (.A (.N 1) (.V 0))))) rfl) (lin [_, _] [] (.L 1 (.A (.V 0) (.M 1 (.A (.N 1) (.V 1)))) (.A (.V 1) (.A (.V 0) (.N 1)))) rfl)
theorem toksQ_mem {t : TokM} : ∀ (rs : List (List Nat)) (k : Nat), t ∈ toksQ k rs → (∃ x r, t = .w x ∧ r ∈ rs ∧ x ∈ r) ∨ (∃ i, t = .m i ∧ i < k + rs.length)
  | [], _, h => by simp [toksQ] at h
  | r :: rs, k, h => by
    rw [toksQ] at h
    rcases List.mem_append.mp h with h | h
    · (refine el1x2 (List.mem_map.mp h) ?_; intro x hx hZ; subst hZ)
      exact .inl (in2x3 x r rfl (by simp) hx)
    · rcases List.mem_cons.mp h with h | h
      · exact .inr (in1x2 k h (by simp))
      · rcases toksQ_mem rs (k + 1) h with ⟨x, r', e, hr, hx⟩ | ⟨i, e, hi⟩
        · exact .inl (in2x3 x r' e (List.mem_cons_of_mem _ hr) hx)
        · exact .inr (in1x2 i e (by rw [List.length_cons]; exact lin [_, _, _] [.T 1 (.V 0) (.A (.A (.V 1) (.N 1)) (.V 2))] (.T 1 (.V 0) (.A (.V 1) (.A (.V 2) (.N 1)))) rfl hi))
theorem fold_len (lefts : List Int) : ∀ (l : List TokM) (s : StM), (l.foldl (stM lefts) s).told.length ≤ s.told.length + l.length ∧ (l.foldl (stM lefts) s).row.length ≤ s.row.length + l.length ∧ (l.foldl (stM lefts) s).left.length ≤ s.left.length + l.length
  | [], s => by simp
  | t :: l, s => by
    have h := fold_len lefts l (stM lefts s t)
    rw [List.foldl_cons, List.length_cons]
    have e : (stM lefts s t).told.length ≤ s.told.length + 1 ∧ (stM lefts s t).row.length ≤ s.row.length + 1 ∧ (stM lefts s t).left.length ≤ s.left.length + 1 := by
      cases t <;> simp [stM]
    exact ⟨lin [_, _, _, _] [.L 1 (.V 0) (.A (.V 1) (.V 2)), .L 1 (.V 1) (.A (.V 3) (.N 1))] (.L 1 (.V 0) (.A (.V 3) (.A (.V 2) (.N 1)))) rfl h.1 e.1, ⟨lin [_, _, _, _] [.L 1 (.V 0) (.A (.V 1) (.V 2)), .L 1 (.V 1) (.A (.V 3) (.N 1))] (.L 1 (.V 0) (.A (.V 3) (.A (.V 2) (.N 1)))) rfl h.2.1 e.2.1, lin [_, _, _, _] [.L 1 (.V 0) (.A (.V 1) (.V 2)), .L 1 (.V 1) (.A (.V 3) (.N 1))] (.L 1 (.V 0) (.A (.V 3) (.A (.V 2) (.N 1)))) rfl h.2.2 e.2.2⟩⟩
theorem gt_line {words marks : List (List Nat)} {Q : List TokM} {rest rest2 : List Nat} (hz : tokO rest = ([122], rest2)) {j : Nat} (hj : j ≤ Q.length) :
    ∃ t, (Q ++ [.z])[j]? = some t ∧ gtOf ((Q.map (TokM.wd words marks)).drop j) (if j ≤ Q.length then rest else rest2) = (t.wd words marks, (Q.map (TokM.wd words marks)).drop (j + 1), if j + 1 ≤ Q.length then rest else rest2) := by
  rw [if_pos hj]
  by_cases h : j < Q.length
  · refine (in1x2 (Q[j]) (by rw [List.getElem?_append_left h, List.getElem?_eq_getElem h]) ?_)
    rw [List.drop_eq_getElem_cons (by simpa using h), if_pos (show j + 1 ≤ Q.length from h)]
    simp [gtOf]
  · obtain rfl : j = Q.length := by exact Nat.le_antisymm (lin [_, _] [.L 1 (.V 0) (.V 1)] (.L 1 (.V 0) (.V 1)) rfl hj) (lin [_, _] [.NT 1 (.V 0) (.V 1)] (.L 1 (.V 1) (.V 0)) rfl h)
    refine (in1x2 (.z) (by rw [List.getElem?_append_right (Nat.le_refl _), Nat.sub_self]; rfl) ?_)
    rw [List.drop_eq_nil_of_le (by simp), List.drop_eq_nil_of_le (by simp), if_neg (by exact fun q => lin [_] [.L 1 (.A (.V 0) (.N 1)) (.V 0)] .F rfl q)]
    show ((tokO rest).1, [], (tokO rest).2) = _
    rw [hz]; rfl
theorem range_at {n j a : Nat} (h : (List.range n)[j]? = some a) : a = j ∧ j < n := by
  obtain ⟨hj, e⟩ := List.getElem?_eq_some_iff.mp h
  simp at e hj; exact ⟨Nat.le_antisymm (lin [_, _] [.Q 1 (.V 0) (.V 1)] (.L 1 (.V 1) (.V 0)) rfl e) (lin [_, _] [.E 1 (.V 0) (.V 1)] (.L 1 (.V 0) (.V 1)) rfl e), lin [_, _] [.T 1 (.V 0) (.V 1)] (.T 1 (.V 0) (.V 1)) rfl hj⟩
end
section
open Builtin
structure MarkH (rows words marks : List (List Nat)) (kinds symbols : DctS) (lefts : List Int) (sz : Nat) : Prop where
  r1 : 1 ≤ rows.length
  r2 : rows.length ≤ 32
  rl : ∀ r ∈ rows, r.length = sz
  s2 : sz ≤ 6
  s1 : 1 ≤ sz
  rw : ∀ r ∈ rows, ∀ x ∈ r, x < words.length
  wn : words.length ≤ 10
  ml : marks.length = rows.length
  ll : lefts.length = rows.length
  kw : ∀ x, x < words.length → getK kinds (tx (words.getD x [])) = some 1
  km : ∀ k, k < rows.length → getK kinds (tx (marks.getD k [])) = some 2 ∧ getK symbols (tx (marks.getD k [])) = some (256 + lefts.getD k 0)
  kz : getK kinds (tx [122]) = none
  nd : words.Nodup
  ok : ∀ v ∈ words, ∀ c ∈ v, c < 0x110000
section
variable {prog : Program} {w : World} {G : GC} {n : Nat}
theorem con_indexW {words : List (List Nat)} {x : Nat} (hx : x < words.length) (nd : words.Nodup) (ok : ∀ v ∈ words, ∀ c ∈ v, c < 0x110000) (hz : words.length ≤ 10) :
    Con prog w G n (.builtin "list.index") [.list (words.map sV), sV (words.getD x [])] (iN x) := by
  have e : words.getD x [] = words[x] := by rw [List.getD_eq_getElem?_getD, List.getElem?_eq_getElem hx]; rfl
  rw [e]
  have hok : ∀ v ∈ words, (sV v).okd = true := fun v hv => (okk_sV (ok v hv)).okd (by exact lin [] [] (.L 1 (.N 0) (.N 64)) rfl)
  refine con_index (j := x) (fun y hy => ?_) (hok _ (List.getElem_mem hx)) (by simpa using hx) ?_ ?_ (by simp; exact lin [_] [.L 1 (.V 0) (.N 10)] (.T 1 (.V 0) (.N 4611686018427387904)) rfl hz)
  · (refine el1x2 (List.mem_map.mp hy) ?_; intro v hv hZ; subst hZ)
    exact hok v hv
  · rw [List.getElem_map, eqv_sV]; simp
  · intro m hm hlt
    rw [List.getElem_map, eqv_sV]
    have hm' : m < words.length := by simpa using hm
    simp only [beq_eq_false_iff_ne]
    intro q
    have := (List.nodup_iff_pairwise_ne.mp nd)
    rw [List.pairwise_iff_getElem] at this
    exact this m x hm' hx hlt q
noncomputable def mkN : List Str := (["lexer", "rows", "words", "marks", "kinds", "symbols"] : List Str) ++ (["k", "word", "told", "row", "left", "step", "kind"] : List Str)
noncomputable def mkS (L : LexA) (rows words marks : List (List Nat)) (kinds symbols : DctS) (k wd told row left step kind : Option PV) : Sto :=
  mkN.zip [some (.raw (.ref L.x)), some (.list (rows.map rowV)), some (.list (words.map sV)), some (.list (marks.map sV)), some (.dS kinds), some (.dS symbols), k, wd, told, row, left, step, kind]
set_option tactic.hygienic true in
theorem marked_call {A : Around} {P X : PMap} {s : Shared} {T C a : Addr} {mN : Str → Option Value} {fI fR fG fP : Addr} {L : LexA} {rest rest2 : List Nat} {ln : Int} {vs : List Value} {rows words marks : List (List Nat)} {kinds symbols : DctS} {lefts : List Int} {sz : Nat}
    (H : LexF G T C mN fI fR fG fP) (hLC : L.C = C) (D : Df G.K (pm 68) (bd 68) (sp 68) a) (K : MarkH rows words marks kinds symbols lefts sz)
    (b1 : Gb G "range" (.type "range")) (b2 : Gb G "len" (.builtin "len")) (b3 : Gb G "dict" (.type "dict")) (b4 : Gb G "isinstance" (.builtin "isinstance")) (b5 : Gb G "tuple" (.type "tuple")) (g : Gf G "add_callers" 2) (gc : Gf G "_law_count" 67)
    (ok : GOk G) (le : PMap.le G.K P) (bb : Sub P s.heap) (rm : Room (n + 5) A) (bX : Sub X s.heap) (dX : ∀ a o, X a = some o → P a = none) (lx : LexX prog w L X P [] rest ln) (hz : tokO rest = ([122], rest2)) (hrest : rest.length ≤ 10000)
    (rv : RpL prog w P vs [.raw (.ref L.x), .list (rows.map rowV), .list (words.map sV), .list (marks.map sV), .dS kinds, .dS symbols]) :
    wpAny (model prog w) A (call (.ref a) vs) (fun v s' => EndsX prog w X P s v (.dI (tallyD lefts)) (fun X' P' => ∃ ln', tot ln' rest2 = tot ln rest ∧ LexX prog w L X' P' [] rest2 ln') s') (fun _ _ => False) s := by
  have Lc := H.lc hLC
  have hsz : (10000 : Nat) ≤ sizeLine := by unfold sizeLine; exact lin [] [] (.L 1 (.N 10000) (.N 16777216)) rfl
  have hr1 := K.r1
  have hr2 := K.r2
  have hs2 := K.s2
  have hs1 := K.s1
  have hwn := K.wn
  have hml := K.ml
  have hll := K.ll
  have hQl : (toksQ 0 rows).length = rows.length * (1 + sz) := toksQ_len rows 0 K.rl
  have hQ : (toksQ 0 rows).length ≤ 224 := by
    rw [hQl]; exact Nat.mul_le_mul hr2 (by exact lin [_] [.L 1 (.V 0) (.N 6)] (.L 1 (.A (.N 1) (.V 0)) (.N 7)) rfl hs2 : 1 + sz ≤ 7)
  refine enter (X := X) (names := ["lexer", "rows", "words", "marks", "kinds", "symbols"]) (extra := ["k", "word", "told", "row", "left", "step", "kind"]) D (fun fd vs h1 h2 h3 => ?_) (by decide +kernel) rfl rfl rfl rfl ok le bb rm rv bX dX (fun env s₁ F => ?_)
  · (refine lcons h3 fun _ r e h4 => ?_); subst e; (refine lcons h4 fun _ r e h5 => ?_); subst e; (refine lcons h5 fun _ r e h6 => ?_); subst e; (refine lcons h6 fun _ r e h7 => ?_); subst e; (refine lcons h7 fun _ r e h8 => ?_); subst e; (refine lcons h8 fun _ r e h9 => ?_); subst e; have e := List.length_eq_zero_iff.mp h9; clear h9; subst e; obtain ⟨_⟩ := fd; subst h1; subst h2; rfl
  · refine sc_forB iN (List.range rows.length) (fun j (_ : Unit) => mkS L rows words marks kinds symbols none none none none none none none) (fun j _ => mkS L rows words marks kinds symbols (some (iN j)) none none none none none none)
      (fun j _ M X P => LexX prog w L X P ((toksQ 0 (rows.take j)).map (TokM.wd words marks)) rest ln) (fun _ _ _ _ => False) ()
      F (b1.callT (gm 13 rfl) (argd1 (b2.call (gm 14 rfl) (argd1 (den_var (zm 1 rfl rfl))) (con_lenM (by exact lin [_] [.L 1 (.V 0) (.N 32)] (.T 1 (.V 0) (.N 4611686018427387904)) rfl hr2)) (by decide +kernel))) con_rangeN (by decide +kernel)) (its_range (by exact lin [_] [.L 1 (.V 0) (.N 32)] (.T 1 (.V 0) (.N 2147483648)) rfl hr2)) (fun j _ M X P P' l h => h.mono l) (by simpa [toksQ] using lx) (gm 6 rfl) (fun j a _ hj => ?_) (fun j a _ hj W' V' s₁ P₁ M X P s F hI => ?_) (fun _ M₁ X₁ P₁ s₁ F hI l₁ => ?_) (fun _ _ _ _ _ _ h => h.elim)
    · (refine el0x2 (range_at hj) ?_; intro hZ; subst hZ; intro _)
      exact (turned_zip F.nd (i := 6) rfl (.there (.there (.there (.there (.there (.there .here)))))))
    · (refine el0x2 (range_at hj) ?_; intro hZ; subst hZ; intro hjl)
      have hrow : rows[a]? = some rows[a] := List.getElem?_eq_getElem hjl
      have hmem : rows[a] ∈ rows := List.getElem_mem hjl
      have hrl := K.rl _ hmem
      have hmk : (marks.map sV)[a]? = some (sV (marks.getD a [])) := by
        rw [List.getElem?_map, List.getD_eq_getElem?_getD, List.getElem?_eq_getElem (by exact lin [_, _, _] [.Q 1 (.V 0) (.V 1), .T 1 (.V 2) (.V 1)] (.T 1 (.V 2) (.V 0)) rfl hml hjl)]; rfl
      have htk : toksQ 0 (rows.take (a + 1)) = toksQ 0 (rows.take a) ++ (rows[a].map TokM.w ++ [TokM.m a]) := by
        rw [List.take_add_one, hrow, Option.toList_some, toksQ_append]
        have : (rows.take a).length = a := by simp; lia
        rw [this, Nat.zero_add]; rfl
      have htl : (toksQ 0 (rows.take a)).length ≤ 224 := by
        rw [toksQ_len (sz := sz) _ 0 fun r hr => K.rl r (List.mem_of_mem_take hr)]
        exact Nat.mul_le_mul (show (rows.take a).length ≤ 32 by rw [List.length_take]; lia) (by exact lin [_] [.L 1 (.V 0) (.N 6)] (.L 1 (.A (.N 1) (.V 0)) (.N 7)) rfl hs2 : 1 + sz ≤ 7)
      refine sc_forB sV (((rows[a].map TokM.w) ++ [TokM.m a]).map (TokM.wd words marks)) (fun j (_ : Unit) => mkS L rows words marks kinds symbols (some (iN a)) none none none none none none) (fun j _ => mkS L rows words marks kinds symbols (some (iN a)) (((((rows[a].map TokM.w) ++ [TokM.m a]).map (TokM.wd words marks))[j]?).map sV) none none none none none)
        (fun j _ M X P => LexX prog w L X P ((toksQ 0 (rows.take a)).map (TokM.wd words marks) ++ (((rows[a].map TokM.w) ++ [TokM.m a]).map (TokM.wd words marks)).take j) rest ln) (fun _ _ _ _ => False) ()
        F (den_as ?_ (den_addL (den_for1 iN rows[a] (fun x => sV (words.getD x [])) ["words"] (den_itemN (d := rowV rows[a]) (den_var (zm 1 rfl rfl)) (den_var (zm 6 rfl rfl)) (by exact lin [_, _] [.L 1 (.V 0) (.N 32), .T 1 (.V 1) (.V 0)] (.T 1 (.V 1) (.N 9223372036854775808)) rfl hr2 hjl) (by rw [List.getElem?_map, hrow]; rfl)) its_list (.skip (by decide) (.skip (by decide) (.free (zm 2 rfl rfl) (.inl (gm 2 rfl)) .nil))) (fun x hx => den_itemN (den_var (gm 1 rfl)) (den_var (gm 0 rfl)) (by have := K.rw _ hmem x hx; exact lin [_, _] [.L 1 (.V 0) (.N 10), .T 1 (.V 1) (.V 0)] (.T 1 (.V 1) (.N 9223372036854775808)) rfl hwn this) (by rw [List.getElem?_map, List.getD_eq_getElem?_getD, List.getElem?_eq_getElem (K.rw _ hmem x hx)]; rfl)) (by exact lin [_, _, _] [.L 1 (.N 10000) (.V 0), .L 1 (.V 1) (.N 6), .E 1 (.V 2) (.V 1)] (.L 1 (.V 2) (.V 0)) rfl hsz hs2 hrl) rfl (by decide +kernel)) (den_list (dens1 (den_itemN (den_var (zm 3 rfl rfl)) (den_var (zm 6 rfl rfl)) (by exact lin [_, _] [.L 1 (.V 0) (.N 32), .T 1 (.V 1) (.V 0)] (.T 1 (.V 1) (.N 9223372036854775808)) rfl hr2 hjl) hmk)) (by simp; exact lin [_] [.L 1 (.N 10000) (.V 0)] (.L 1 (.N 1) (.V 0)) rfl hsz)) (by simp; exact lin [_, _, _] [.L 1 (.N 10000) (.V 0), .L 1 (.V 1) (.N 6), .E 1 (.V 2) (.V 1)] (.L 1 (.A (.V 2) (.N 1)) (.V 0)) rfl hsz hs2 hrl))) its_list
        (fun j _ M X P P' l h => h.mono l) (by simpa using hI) (gm 7 rfl) (fun j b _ hj => ?_) (fun j b _ hj W' V' s₁ P₁ M X P s F hI => ?_) (fun _ M₁ X₁ P₁ s₁ F hI l₁ => ?_) (fun _ _ _ _ _ _ h => h.elim)
      · simp [TokM.wd]
      · rw [hj]; exact (turned_zip F.nd (i := 7) rfl (.there (.there (.there (.there (.there (.there (.there .here))))))))
      · rw [hj] at F
        refine sc_push (tw := b) F Lc hI (by simp; lia) (den_var (zm 0 rfl rfl)) (argd1 (den_var (zm 7 rfl rfl))) (fun s' X' P' F' l lx => sc_nil (turn_next (in4x2 (()) M X' P' (F'.forget 7 6) ?_)))
        rw [List.take_add_one, hj]
        simpa using lx
      · refine sc_nil (turn_next (in4x2 (()) M₁ X₁ P₁ (F.forget 6 7) ?_))
        rw [List.take_length, ← List.map_append, ← htk] at hI
        exact hI
    · rw [List.length_range, List.take_length] at hI
      refine sc_tupS (names := ["told", "row", "left"]) (spliced_cons (F.evaldO (deno_list dens_nil (by simp)) fun ta vt kt s₂ P₂ F₂ l₂ k₂ nt pt rt => spliced_cons (F₂.evaldO (deno_list dens_nil (by simp)) fun ra vr kr s₃ P₃ F₃ l₃ k₃ nr pr rr => spliced_cons (F₃.evaldO (deno_list dens_nil (by simp)) fun la vl kl s₄ P₄ F₄ l₄ k₄ nl pl rl => spliced_nil
        (in0x3 rfl (by decide) ⟨ _, _, _, _, F₄, fun s'' P'' F'' l'' => swap3' F'' (gm 8 rfl) (gm 9 rfl) (gm 10 rfl) (turned_zip F.nd (i := 10) rfl (.there (.there (.there (.there (.there (.there (.there (.there (.there (.there .here))))))))))) (turned_zip F.nd (i := 9) rfl (.there (.there (.there (.there (.there (.there (.there (.there (.there .here)))))))))) (turned_zip F.nd (i := 8) rfl (.there (.there (.there (.there (.there (.there (.there (.there .here))))))))) (.raw _) (.raw _) (.raw _) fun s₅ F₅ => ?_⟩))))) rfl (swp3 F (gm 8 rfl) (gm 9 rfl) (gm 10 rfl) rfl)
      have n1 : ra ≠ ta := fun q => by rw [q, PMap.put_self] at nr; exact no2 nr
      have n2 : la ≠ ra := fun q => by rw [q, PMap.put_self] at nl; exact no2 nl
      have n3 : la ≠ ta := fun q => by rw [q] at nl; simp [PMap.put, Ne.symm n1] at nl
      have mt : MList prog w (((M₁.put ta (lobj vt kt)).put ra (lobj vr kr)).put la (lobj vl kl)) P'' ta [] := (in2x2 vt kt (by simp [PMap.put, Ne.symm n1, Ne.symm n3]) (((rt.mono l₃).mono l₄).mono l''))
      have mr : MList prog w (((M₁.put ta (lobj vt kt)).put ra (lobj vr kr)).put la (lobj vl kl)) P'' ra [] := (in2x2 vr kr (by simp [PMap.put, Ne.symm n2]) ((rr.mono l₄).mono l''))
      have ml : MList prog w (((M₁.put ta (lobj vt kt)).put ra (lobj vr kr)).put la (lobj vl kl)) P'' la [] := (in2x2 vl kl (PMap.put_self _ _ _) (rl.mono l''))
      have lx₅ := (((hI.mono l₂).mono l₃).mono l₄).mono l''
      generalize ((M₁.put ta (lobj vt kt)).put ra (lobj vr kr)).put la (lobj vl kl) = M₅ at F₅ mt mr ml
      clear F₂ F₃ F₄ nt nr nl
      have h0r : 0 < rows.length := hr1
      have hrow0 : (rows.map rowV)[0]? = some (rowV rows[0]) := by rw [List.getElem?_map, List.getElem?_eq_getElem h0r]; rfl
      have hlen0 : rows[0].length = sz := K.rl _ (List.getElem_mem h0r)
      have F := F₅
      refine sc_forB iN (List.range (rows.length * (1 + rows[0].length) + 1)) (fun j ra => mkS L rows words marks kinds symbols none (match j with | 0 => none | j + 1 => ((toksQ 0 rows ++ [TokM.z])[j]?).map fun t => sV (t.wd words marks)) (some (.raw (.ref ta))) (some (.raw (.ref ra))) (some (.raw (.ref la))) none none)
        (fun j ra => mkS L rows words marks kinds symbols none (match j with | 0 => none | j + 1 => ((toksQ 0 rows ++ [TokM.z])[j]?).map fun t => sV (t.wd words marks)) (some (.raw (.ref ta))) (some (.raw (.ref ra))) (some (.raw (.ref la))) (some (iN j)) none)
        (fun j ra M X P => ∃ ln' S, tot ln' (if j ≤ (toksQ 0 rows).length then rest else rest2) = tot ln rest ∧ LexX prog w L X P (((toksQ 0 rows).map (TokM.wd words marks)).drop j) (if j ≤ (toksQ 0 rows).length then rest else rest2) ln' ∧ S = ((toksQ 0 rows ++ [TokM.z]).take j).foldl (stM lefts) ⟨[], [], []⟩ ∧
          MList prog w M P ta (S.told.map rowV) ∧ MList prog w M P ra (S.row.map iN) ∧ MList prog w M P la (S.left.map .int) ∧ ra ≠ ta ∧ la ≠ ra ∧ la ≠ ta) (fun _ _ _ _ => False) ra
        F (b1.callT (gm 13 rfl) (argd1 (den_addN (den_mulN (b2.call (gm 14 rfl) (argd1 (den_var (zm 1 rfl rfl))) (con_lenM (by exact lin [_] [.L 1 (.V 0) (.N 32)] (.T 1 (.V 0) (.N 4611686018427387904)) rfl hr2)) (by decide +kernel)) (den_addN (den_k 1) (b2.call (gm 14 rfl) (argd1 (den_itemN (d := rowV rows[0]) (den_var (zm 1 rfl rfl)) (den_k 0) (by exact lin [] [] (.T 1 (.N 0) (.N 9223372036854775808)) rfl) hrow0)) (con_lenM (by exact lin [_, _] [.L 1 (.V 0) (.N 6), .E 1 (.V 1) (.V 0)] (.T 1 (.V 1) (.N 4611686018427387904)) rfl hs2 hlen0)) (by decide +kernel))) (by exact lin [_] [.L 1 (.V 0) (.N 32)] (.T 1 (.V 0) (.N 18446744073709551616)) rfl hr2) (by exact lin [_, _] [.L 1 (.V 0) (.N 6), .E 1 (.V 1) (.V 0)] (.T 1 (.A (.N 1) (.V 1)) (.N 18446744073709551616)) rfl hs2 hlen0)) (den_k 1))) con_rangeN (by decide +kernel)) (its_range (by rw [hlen0, ← hQl]; exact lin [_] [.L 1 (.V 0) (.N 224)] (.T 1 (.A (.V 0) (.N 1)) (.N 2147483648)) rfl hQ))
        (fun j ra M X P P' l h => ?_) ⟨ln, ⟨[], [], []⟩, by rw [if_pos (Nat.zero_le _)], by rw [if_pos (Nat.zero_le _)]; exact lx₅, rfl, mt, mr, ml, n1, n2, n3⟩ (gm 11 rfl) (fun j a ra hj => ?_) (fun j a ra hj W' V' s₁ P₁ M X P s F hI => ?_) (fun ra M₁ X₁ P₁ s₁ F hI l₁ => ?_) (fun _ _ _ _ _ _ h => h.elim)
      · obtain ⟨ln', S, h1, h2, h3, h4, h5, h6, h7⟩ := h
        exact ⟨ln', S, h1, h2.mono l, h3, h4.mono l, h5.mono l, h6.mono l, h7⟩
      · (refine el0x2 (range_at hj) ?_; intro hZ; subst hZ; intro _)
        exact (turned_zip F.nd (i := 11) rfl (.there (.there (.there (.there (.there (.there (.there (.there (.there (.there (.there .here))))))))))))
      · (refine el0x2 (range_at hj) ?_; intro hZ; subst hZ; intro hjl)
        rw [hlen0, ← hQl] at hjl
        (refine el2x9 hI ?_; clear hI; intro ln₁ S ht₁ lx₁ hS mt mr ml n1 n2 n3)
        (refine el1x2 (gt_line (words := words) (marks := marks) hz (Q := toksQ 0 rows) (j := a) (by exact lin [_, _] [.T 1 (.V 0) (.A (.V 1) (.N 1))] (.L 1 (.V 0) (.V 1)) rfl hjl)) ?_; intro t ht hg)
        have hfl := fold_len lefts ((toksQ 0 rows ++ [TokM.z]).take a) ⟨[], [], []⟩
        rw [← hS] at hfl
        have hal : ((toksQ 0 rows ++ [TokM.z]).take a).length ≤ a := by rw [List.length_take]; lia
        simp only [List.length_nil, Nat.zero_add] at hfl
        have hS' : ((toksQ 0 rows ++ [TokM.z]).take (a + 1)).foldl (stM lefts) ⟨[], [], []⟩ = stM lefts S t := by
          rw [List.take_add_one, ht, Option.toList_some, List.foldl_append, ← hS]; rfl
        have hrl : (if a ≤ (toksQ 0 rows).length then rest else rest2).length ≤ 10000 := by rw [if_pos (by exact lin [_, _] [.T 1 (.V 0) (.A (.V 1) (.N 1))] (.L 1 (.V 0) (.V 1)) rfl hjl)]; exact hrest
        refine sc_get F Lc H.bi lx₁ hrl (by simp; exact lin [_, _] [.L 1 (.V 0) (.N 224)] (.L 1 (.V 0) (.A (.N 10000) (.V 1))) rfl hQ) (den_var (zm 0 rfl rfl)) (gm 7 rfl) (turned_zip F.nd (i := 7) rfl (.there (.there (.there (.there (.there (.there (.there .here)))))))) (fun s' X' P' ln' F' l htot lx' => ?_)
        rw [hg] at F' htot lx'
        have htot := htot.trans ht₁
        have mt := mt.mono l
        have mr := mr.mono l
        have ml := ml.mono l
        have F := F'
        have hkd : (PV.int ((getK kinds (tx (t.wd words marks))).getD ((0 : Nat) : Int))) = iN t.kd := by
          have htm := List.mem_of_getElem? ht
          rcases List.mem_append.mp htm with q | q
          · rcases toksQ_mem _ _ q with ⟨x, r, rfl, hr, hx⟩ | ⟨i, rfl, hi⟩
            · rw [show TokM.wd words marks (.w x) = words.getD x [] from rfl, K.kw x (K.rw r hr x hx)]; rfl
            · rw [show TokM.wd words marks (.m i) = marks.getD i [] from rfl, (K.km i (by exact lin [_, _] [.T 1 (.V 0) (.A (.N 0) (.V 1))] (.T 1 (.V 0) (.V 1)) rfl hi)).1]; rfl
          · simp at q; subst q
            rw [show TokM.wd words marks .z = [122] from rfl, K.kz]; rfl
        refine sc_assign F (pv := iN t.kd) (den_as hkd (den_method (den_var (zm 4 rfl rfl)) (meth_dictS PySem.F.slot_dict_get PySem.F.type_dict_get) (argd2 (den_var (zm 7 rfl rfl)) (den_k 0)) con_getS)) rfl (gm 12 rfl) (turned_zip F.nd (i := 12) rfl (.there (.there (.there (.there (.there (.there (.there (.there (.there (.there (.there (.there .here))))))))))))) (fun s₂ P₂ F l₂ => ?_)
        have lx' := lx'.mono l₂
        have mt := mt.mono l₂
        have mr := mr.mono l₂
        have ml := ml.mono l₂
        have htw : (((toksQ 0 rows ++ [TokM.z])[a]?).map fun t => sV (t.wd words marks)) = some (sV (t.wd words marks)) := by rw [ht]; rfl
        cases t with
        | w x =>
          refine sc_if F (b := true) (dent_cmp (den_var (zm 12 rfl rfl)) (den_k 1) cmp_eqN) (fun _ s₃ P₃ F l₃ => ?_) (fun h => nomatch h)
          have hx : x < words.length := by
            rcases List.mem_append.mp (List.mem_of_getElem? ht) with q | q
            · rcases toksQ_mem _ _ q with ⟨x', r, e, hr, hx⟩ | ⟨i, e, hi⟩
              · cases e; exact K.rw r hr x hx
              · cases e
            · simp at q
          refine sc_append (d := iN x) F (mr.mono l₃) (by simp; exact lin [_, _, _, _] [.L 1 (.V 0) (.N 224), .T 1 (.V 1) (.A (.V 0) (.N 1)), .L 1 (.V 2) (.V 1), .L 1 (.V 3) (.V 2)] (.L 1 (.V 3) (.N 10000)) rfl hQ hjl hal hfl.2.1) (den_var (zm 9 rfl rfl)) (den_method (den_var (zm 2 rfl rfl)) (meth_list PySem.F.slot_list_index PySem.F.type_list_index) (argd1 (den_var (zm 7 rfl rfl))) (con_indexW hx K.nd K.ok K.wn)) (fun ob s₄ P₄ F l₄ m₄ => sc_nil (then_next (sc_nil (turn_next (in4x2 ra (M.put ra ob) X' P₄ ?_ ⟨ ln', _, htot, (lx'.mono l₃).mono l₄, hS'.symm, ?_, ?_, ?_, n1, n2, n3⟩)))))
          · show Fn prog w G _ _ _ _ _ _ _ _ _ _ _ _ (mkS L rows words marks kinds symbols none (((toksQ 0 rows ++ [TokM.z])[a]?).map fun t => sV (t.wd words marks)) _ _ _ _ _) _
            rw [htw]; exact F.forget 11 2
          · exact ((mt.mono l₃).mono l₄).keep (by simp [PMap.put, Ne.symm n1]) (PMap.le_refl _)
          · simpa [stM] using m₄
          · exact ((ml.mono l₃).mono l₄).keep (by simp [PMap.put, n2]) (PMap.le_refl _)
        | m k =>
          have hk : k < rows.length := by
            rcases List.mem_append.mp (List.mem_of_getElem? ht) with q | q
            · rcases toksQ_mem _ _ q with ⟨x', r, e, hr, hx⟩ | ⟨i, e, hi⟩
              · cases e
              · cases e; exact lin [_, _] [.T 1 (.V 0) (.A (.N 0) (.V 1))] (.T 1 (.V 0) (.V 1)) rfl hi
            · simp at q
          refine sc_if F (b := false) (dent_cmp (den_var (zm 12 rfl rfl)) (den_k 1) cmp_eqN) (fun h => nomatch h) (fun _ s₃ P₃ F l₃ => ?_)
          refine sc_if F (b := true) (dent_cmp (den_var (zm 12 rfl rfl)) (den_k 2) cmp_eqN) (fun _ s₄ P₄ F l₄ => ?_) (fun h => nomatch h)
          refine sc_append (d := .int (lefts.getD k 0)) F ((ml.mono l₃).mono l₄) (by simp; exact lin [_, _, _, _] [.L 1 (.V 0) (.N 224), .T 1 (.V 1) (.A (.V 0) (.N 1)), .L 1 (.V 2) (.V 1), .L 1 (.V 3) (.V 2)] (.L 1 (.V 3) (.N 10000)) rfl hQ hjl hal hfl.2.2) (den_var (zm 10 rfl rfl)) (den_as (by congr 1; lia) (den_sub (den_itemS (den_var (zm 5 rfl rfl)) (den_var (zm 7 rfl rfl)) (K.km k hk).2) den_int)) (fun ob s₅ P₅ F l₅ m₅ => ?_)
          have mr₅ := (((mr.mono l₃).mono l₄).mono l₅).keep (M' := M.put la ob) (by simp [PMap.put, Ne.symm n2]) (PMap.le_refl _)
          (refine el1x3 (F.freezeL mr₅ (x := "row") (zm 9 rfl rfl) (turned_zip F.nd (i := 9) rfl (.there (.there (.there (.there (.there (.there (.there (.there (.there .here))))))))))) ?_; intro P₆ F₆ l₆ r₆)
          have F := F₆
          have mt₆ := ((((mt.mono l₃).mono l₄).mono l₅).mono l₆).keep (M' := (M.put la ob).del ra) (by simp [PMap.put, PMap.del, Ne.symm n1, Ne.symm n3]) (PMap.le_refl _)
          refine sc_append (d := rowV S.row) F mt₆ (by simp; exact lin [_, _, _, _] [.L 1 (.V 0) (.N 224), .T 1 (.V 1) (.A (.V 0) (.N 1)), .L 1 (.V 2) (.V 1), .L 1 (.V 3) (.V 2)] (.L 1 (.V 3) (.N 10000)) rfl hQ hjl hal hfl.1) (den_var (zm 8 rfl rfl)) (den_var (zm 9 rfl rfl)) (fun ob₂ s₇ P₇ F l₇ m₇ => ?_)
          refine sc_new F dens_nil (by simp) (gm 9 rfl) (fun a => (turned_zip F.nd (i := 9) rfl (.there (.there (.there (.there (.there (.there (.there (.there (.there .here))))))))))) (fun ra' ob₃ s₈ P₈ F l₈ nr' m₈ => sc_nil (then_next (sc_nil (then_next (sc_nil (turn_next (in4x2 ra' ((((M.put la ob).del ra).put ta ob₂).put ra' ob₃) X' P₈ ?_ ⟨ ln', _, htot, ?_, hS'.symm, ?_, ?_, ?_, ?_, ?_, n3⟩)))))))
          · show Fn prog w G _ _ _ _ _ _ _ _ _ _ _ _ (mkS L rows words marks kinds symbols none (((toksQ 0 rows ++ [TokM.z])[a]?).map fun t => sV (t.wd words marks)) _ _ _ _ _) _
            rw [htw]; exact F.forget 11 2
          · exact (((((lx'.mono l₃).mono l₄).mono l₅).mono l₆).mono l₇).mono l₈
          · have hne : ta ≠ ra' := fun q => by rw [← q, PMap.put_self] at nr'; exact no2 nr'
            have := m₇.keep (M' := ((((M.put la ob).del ra).put ta ob₂).put ra' ob₃)) (by simp [PMap.put, hne]) l₈
            simpa [stM] using this
          · exact m₈
          · have hne : la ≠ ra' := fun q => by
              rw [← q] at nr'
              (refine el2x2 m₅ ?_; clear m₅; intro vs kk e _)
              rw [PMap.put_self] at e
              simp [PMap.put, PMap.del, n2, n3] at nr'
            have := m₅.keep (M' := ((((M.put la ob).del ra).put ta ob₂).put ra' ob₃)) (by simp [PMap.put, PMap.del, n2, n3, hne]) ((l₆.trans l₇).trans l₈)
            simpa [stM] using this
          · exact fun q => by rw [q, PMap.put_self] at nr'; exact no2 nr'
          · exact fun q => by rw [← q] at nr'; simp [PMap.put, PMap.del, n2, n3] at nr'
        | z =>
          refine sc_if F (b := false) (dent_cmp (den_var (zm 12 rfl rfl)) (den_k 1) cmp_eqN) (fun h => nomatch h) (fun _ s₃ P₃ F l₃ => ?_)
          refine sc_if F (b := false) (dent_cmp (den_var (zm 12 rfl rfl)) (den_k 2) cmp_eqN) (fun h => nomatch h) (fun _ s₄ P₄ F l₄ => ?_)
          refine sc_nil (then_next (sc_nil (then_next (sc_nil (turn_next (in4x2 ra M X' P₄ ?_ ⟨ ln', _, htot, (lx'.mono l₃).mono l₄, hS'.symm, (mt.mono l₃).mono l₄, (mr.mono l₃).mono l₄, (ml.mono l₃).mono l₄, n1, n2, n3⟩))))))
          show Fn prog w G _ _ _ _ _ _ _ _ _ _ _ _ (mkS L rows words marks kinds symbols none (((toksQ 0 rows ++ [TokM.z])[a]?).map fun t => sV (t.wd words marks)) _ _ _ _ _) _
          rw [htw]; exact F.forget 11 2
      · (refine el2x9 hI ?_; clear hI; intro ln₁ S ht₁ lx₁ hS mt mr ml n1 n2 n3)
        rw [List.length_range, hlen0, ← hQl] at ht₁ lx₁ hS F
        rw [if_neg (by exact fun q => lin [_] [.L 1 (.A (.V 0) (.N 1)) (.V 0)] .F rfl q)] at ht₁ lx₁
        rw [List.drop_eq_nil_of_le (by simp)] at lx₁
        have hlefts : (List.range' 0 rows.length).map (fun i => lefts.getD i 0) = lefts := by
          rw [← hll, ← List.range_eq_range']
          apply List.ext_getElem
          · simp
          · intro i h1 h2
            rw [List.getElem_map, List.getElem_range, List.getD_eq_getElem?_getD, List.getElem?_eq_getElem h2]; rfl
        rw [List.take_of_length_le (by simp), List.foldl_append, fold_toksQ, hlefts] at hS
        obtain rfl : S = ⟨rows, [], lefts⟩ := by rw [hS]; simp [stM]
        have hlast : (toksQ 0 rows ++ [TokM.z])[(toksQ 0 rows).length]? = some .z := by rw [List.getElem?_append_right (Nat.le_refl _), Nat.sub_self]; rfl
        simp only [hlast, Option.map_some] at F
        (refine el1x3 (F.freezeL mt (x := "told") (zm 8 rfl rfl) (turned_zip F.nd (i := 8) rfl (.there (.there (.there (.there (.there (.there (.there (.there .here)))))))))) ?_; intro P₂ F₂ l₂ r₂)
        have ml₂ := (ml.mono l₂).keep (M' := M₁.del ta) (by simp [PMap.del, n3]) (PMap.le_refl _)
        have F := F₂
        (refine el1x3 (F.freezeL ml₂ (x := "left") (zm 10 rfl rfl) (turned_zip F.nd (i := 10) rfl (.there (.there (.there (.there (.there (.there (.there (.there (.there (.there .here)))))))))))) ?_; intro P₃ F₃ l₃ r₃)
        have F := F₃
        have hcmp : Cmp prog w .Eq (.list (rows.map rowV)) (.list (rows.map rowV)) true := by
          have := cmp_eqM (prog := prog) (w := w) (enc := rowV) (k := 1) (l := rows) (m := rows) (by exact lin [] [] (.L 1 (.N 1) (.N 63)) rfl) (fun _ _ => okk_row) (fun _ _ => okk_row) fun _ _ _ _ => eqv_row
          simpa using this
        exact sc_ret F (den_if (b := true) (dent_and (a := true) (b := true) (dent_cmp (den_var (zm 8 rfl rfl)) (den_var (zm 1 rfl rfl)) hcmp) (fun _ => dent_cmp (den_var (zm 7 rfl rfl)) (den_txt [122] (by decide +kernel)) cmp_eqT)) (fun _ => gc.den (gm 15 rfl) (argd1 (den_var (zm 10 rfl rfl))) (fun a D => con_count' (vs := lefts) D (by exact lin [_, _] [.L 1 (.N 1) (.V 0), .Q 1 (.V 1) (.V 0)] (.L 1 (.N 1) (.V 1)) rfl hr1 hll) (by exact lin [_, _] [.L 1 (.V 0) (.N 32), .E 1 (.V 1) (.V 0)] (.L 1 (.V 1) (.N 32)) rfl hr2 hll) b1 b2 b3 b4 b5 g) (by decide +kernel)) (fun h => nomatch h)) fun v s' P' F' l r => F'.endsX r (in1x2 _ ht₁ (((lx₁.mono l₂).mono l₃).mono l))
end
end
section
open Builtin
section
variable {prog : Program} {w : World} {A : Around} {E : Value → Shared → Prop} {s : Shared}
theorem extend_range_code {R : Result → Shared → Prop} {r : Addr} {a b c : Int} {t u v : Tok} {n : Nat} {items : Array Value} (hh : A.handled = none) (hr : IsRange s.heap r a b c t u v) (hsmall : Builtin.Range.small a b c = true)
    (hn : Builtin.Range.rangeSize a b c = n) (hlen : items.size + n ≤ 50000) (S : Addr) (res : Value) (c₀ : Nat) (hS : s.heap.get? S = some (lobj items c₀))
    (hR : ∀ h' tk acc' c', (∀ b o, b ≠ S → s.heap.get? b = some o → h'.get? b = some o) → h'.get? S = some (lobj acc' c') →
      ItemsOf (fun i v => (i < items.size ∧ items[i]? = some v) ∨ (items.size ≤ i ∧ ∃ t, v = .int (a + ((i - items.size : Nat) : Int) * c) t)) acc' (items.size + n) → R (.ok (.ret res)) { s with heap := h', toks := tk }) :
    wpAny (model prog w) A.in1 (Builtin.List.listExtendWith (.ref S) (.ref r) res)
      (fun fin s' => match fin with | .done f => R (.ok f) s' | .again c' => c'.quiet = true ∧ codeAny (model prog w) A c' R s') (fun e s' => R (.error e) s') s := by
  have hSr : S ≠ r := fun e => by rw [e, hr] at hS; simp at hS
  have hSlt : S < s.heap.objs.size := Heap.lt_size hS
  have hSI : S ≠ s.heap.objs.size := Nat.ne_of_lt hSlt
  have hSf : S ∉ [s.heap.objs.size] := fun hm => hSI (List.mem_singleton.mp hm)
  have W0 := (Walks.range (prog := prog) (w := w) (A := A.in1) hh s.heap.objs.size a c n).toS
  have W : WalksS prog w A.in1 s.heap.objs.size [s.heap.objs.size] [s.heap.objs.size] (fun a b => b = a) (items.size + n)
      (fun i v => (i < items.size ∧ items[i]? = some v) ∨ (items.size ≤ i ∧ ∃ t, v = .int (a + ((i - items.size : Nat) : Int) * c) t))
      (fun i s' => items.size ≤ i ∧ IsRangeIter s'.heap s.heap.objs.size (a + ((i - items.size : Nat) : Int) * c) ((n : Int) - ((i - items.size : Nat) : Int)) c) := by
    refine ⟨W0.sub, W0.grefl, W0.gtrans, fun i s' h' tk st ht k => ⟨st.1, W0.frame (i - items.size) s' h' tk st.2 ht k⟩, fun i s' Q E hi st hQ => ?_, fun s' Q E st hQ => ?_, fun i s' Q E st hQ => W0.self (i - items.size) s' Q E st.2 hQ⟩
    · have h1 := st.1
      refine W0.item (i - items.size) s' Q E (by lia) st.2 fun v s'' hp hst hm => hQ v s'' (.inr ⟨st.1, hp⟩) ⟨by exact lin [_, _] [.L 1 (.V 0) (.V 1)] (.L 1 (.V 0) (.A (.V 1) (.N 1))) rfl st.1, ?_⟩ hm
      rw [show i + 1 - items.size = i - items.size + 1 by lia]
      exact hst
    · have := st.2
      rw [Nat.add_sub_cancel_left] at this
      exact W0.done s' Q E this hQ
  have key : ∀ (h : Heap) (c₁ tk : Nat), IsRangeIter h s.heap.objs.size (a + ((0 : Nat) : Int) * c) ((n : Int) - ((0 : Nat) : Int)) c → (∀ b o, b ≠ S → s.heap.get? b = some o → h.get? b = some o) →
      h.get? S = some (lobj items c₁) → codeAny (model prog w) A (.builtin "list.extend.loop" ⟨[.ref S, .ref s.heap.objs.size, res], []⟩) R { s with heap := h, toks := tk } := by
    intro h c₁ tk hit hk hS₁
    refine codeAny_extend_loopS W (by rw [sizeLine_eq]; exact lin [_, _] [.L 1 (.A (.V 0) (.V 1)) (.N 50000)] (.L 1 (.A (.V 0) (.V 1)) (.N 16777216)) rfl hlen) S hSf res n items.size _ items c₁ (by lia) (by exact lin [_, _] [] (.L 1 (.V 0) (.A (.V 0) (.V 1))) rfl) ⟨Nat.le_refl _, by rw [Nat.sub_self]; exact hit⟩ hS₁ ⟨rfl, fun j v hj => .inl ⟨(Array.getElem?_eq_some_iff.mp hj).1, hj⟩⟩ fun s' acc' c' hm hS' hacc => ?_
    rw [Moved.eq_with hm]
    refine hR s'.heap s'.toks acc' c' (fun b o hb e => hm.heap b o (fun hmem => ?_) (hk b o hb e)) hS' hacc
    rcases List.mem_cons.mp hmem with e' | hmem
    · exact hb e'
    · exact absurd (Heap.lt_size e) (by rw [List.mem_singleton.mp hmem]; exact Nat.lt_irrefl _)
  unfold Builtin.List.listExtendWith
  refine wpAny_bind (wpAny_typeOf (T := "range") (in1x2 _ hr rfl) ?_)
  have h1 : Builtin.List.listSameRef (.ref S) (.ref r) = false := by simp [Builtin.List.listSameRef, hSr]
  have h2 : (Value.type "range" == Value.type "list") = false := by decide
  have h3 : (Value.type "range" == Value.type "tuple") = false := by decide
  simp only [h1, h2, h3, Bool.or_false, Bool.false_eq_true, if_false]
  refine wpAny_bind (wpAny_pyIter_range hr hsmall ?_)
  refine wpAny_bind (wpAny_holding (wpAny_hint_range (n := n) (Heap.get?_push_of_some _ hr) hn (by exact lin [_, _] [.L 1 (.A (.V 0) (.V 1)) (.N 50000)] (.L 1 (.V 1) (.N 16777216)) rfl hlen) ?_))
  have hit₁ : IsRangeIter (s.heap.push { cls := .type "range_iterator", data := .fields #[rawInt a, rawInt (Builtin.Range.rangeSize a b c), rawInt c] }) s.heap.objs.size (a + ((0 : Nat) : Int) * c) ((n : Int) - ((0 : Nat) : Int)) c := by
    show IsRangeIter _ _ _ _ _; rw [hn]; simpa using Heap.get?_push_size _ rfl
  have hS₁ := Heap.get?_push_of_some { cls := .type "range_iterator", data := .fields #[rawInt a, rawInt (Builtin.Range.rangeSize a b c), rawInt c] } hS
  refine wpAny_ite_split (fun _ => ?_) (fun _ => wpAny_pure ⟨plainId_quiet F.plain_extend_loop _, key _ c₀ _ hit₁ (fun b o _ e => Heap.get?_push_of_some _ e) hS₁⟩)
  refine wpAny_bind (wpAny_rule ?_)
  refine wpAny_bind ?_
  show wpAny _ _ (updateSeq S (·.push .none) >>= fun _ => updateSeq S (·.pop)) _ _ _
  have hsl : (100000 : Nat) ≤ sizeLine := by rw [sizeLine_eq]; exact lin [] [] (.L 1 (.N 100000) (.N 16777216)) rfl
  refine wpAny_bind (wpAny_updateSeq (hz := by exact lin [_, _, _] [.L 1 (.A (.V 0) (.V 1)) (.N 50000), .L 1 (.N 100000) (.V 2)] (.L 1 (.V 0) (.V 2)) rfl hlen hsl) (_hz' := by rw [Array.size_push]; exact lin [_, _, _] [.L 1 (.A (.V 0) (.V 1)) (.N 50000), .L 1 (.N 100000) (.V 2)] (.L 1 (.A (.V 0) (.N 1)) (.A (.V 2) (.N 1))) rfl hlen hsl) hS₁ rfl ?_)
  have hS₂ := Heap.get?_update_self (Obj.mapSeq (·.push Value.none)) hS₁ rfl
  refine wpAny_updateSeq (hz := by rw [Array.size_push]; exact lin [_, _, _] [.L 1 (.A (.V 0) (.V 1)) (.N 50000), .L 1 (.N 100000) (.V 2)] (.L 1 (.A (.V 0) (.N 1)) (.V 2)) rfl hlen hsl) (_hz' := by rw [Array.size_pop, Array.size_push]; lia) hS₂ rfl ?_
  have hS₃ := Heap.get?_update_self (Obj.mapSeq (·.pop)) hS₂ rfl
  obtain ⟨c', hS₄⟩ : ∃ c', (((s.heap.push { cls := .type "range_iterator", data := .fields #[rawInt a, rawInt (Builtin.Range.rangeSize a b c), rawInt c] }).update S (Obj.mapSeq (·.push Value.none))).update S (Obj.mapSeq (·.pop))).get? S = some (lobj items c') := by
    have hp : ((items.push Value.none).pop) = items := by simp
    have e : Obj.mapSeq (·.pop) (Obj.mapSeq (·.push Value.none) (lobj items c₀)) = lobj ((items.push Value.none).pop) (if ((items.push Value.none).pop).size == (items.push Value.none).size then (if (items.push Value.none).size == items.size then c₀ else c₀ + 1) else (if (items.push Value.none).size == items.size then c₀ else c₀ + 1) + 1) := rfl
    exact ⟨_, hS₃.trans (by rw [e, hp])⟩
  refine wpAny_pure ⟨plainId_quiet F.plain_extend_loop _, key _ c' _ ?_ (fun b o hb e => ?_) hS₄⟩
  · exact (Heap.get?_update_other _ _ hSI).trans ((Heap.get?_update_other _ _ hSI).trans hit₁)
  · exact (Heap.get?_update_other _ _ (Ne.symm hb)).trans ((Heap.get?_update_other _ _ (Ne.symm hb)).trans (Heap.get?_push_of_some _ e))
theorem call_extend_range {Q : Value → Shared → Prop} {r : Addr} {a b c : Int} {t u v : Tok} {n : Nat} {items : Array Value} (hh : A.handled = none) (hr : IsRange s.heap r a b c t u v) (hsmall : Builtin.Range.small a b c = true)
    (hn : Builtin.Range.rangeSize a b c = n) (hlen : items.size + n ≤ 50000) (S : Addr) (c₀ : Nat) (hS : s.heap.get? S = some (lobj items c₀))
    (hR : ∀ h' tk acc' c', (∀ b o, b ≠ S → s.heap.get? b = some o → h'.get? b = some o) → h'.get? S = some (lobj acc' c') →
      ItemsOf (fun i v => (i < items.size ∧ items[i]? = some v) ∨ (items.size ≤ i ∧ ∃ t, v = .int (a + ((i - items.size : Nat) : Int) * c) t)) acc' (items.size + n) → Q .none { s with heap := h', toks := tk }) :
    wpAny (model prog w) A (call (.builtin "list.extend") [.ref S, .ref r]) Q E s := by
  refine wpAny_call (codeAny_call_builtin PySem.F.slot_list_extend.plain PySem.F.entry_list_extend (PySem.F.slot_list_extend.check _ _ _ _ _ _ _ _ (in1x2 _ hS rfl) (PySem.F.args_list_extend_2 _ _) ?_))
  exact extend_range_code (R := fun r s' => match r with | .ok (.ret v) => Q v s' | .ok _ => False | .error e => E e s') hh hr hsmall hn hlen S .none c₀ hS hR
end
section
variable {prog : Program} {w : World} {G : GC} {n : Nat} {A : Around} {W V : Addr → Prop} {s₀ : Shared} {P₀ : PMap} {env : Env} {sc : Scp} {xs : List Str} {M X P M' X' P' : PMap} {σ σ' τ : Sto} {s s' : Shared} {rest : List Stmt} {Q : Flow → Shared → Prop}
theorem sc_extend {a : Addr} {l m : List PV} {o e : Expr} {ap cp p : Pos} (F : Fn prog w G n A W V s₀ P₀ env sc xs M X P σ s) (mm : MList prog w M P a l) (hz : l.length + m.length ≤ 10000) (Do : Den prog w G n sc σ o (.raw (.ref a))) (De : Den prog w G n sc σ e (.list m))
    (h : ∀ ob s' P', Fn prog w G n A W V s₀ P₀ env sc xs (M.put a ob) X P' σ s' → PMap.le P P' → MList prog w (M.put a ob) P' a (l ++ m) → Run prog w A env rest Q s')
    (hb : ∀ env t, attributeBase o "extend" env t = t := by intros; rfl) (hm : ∀ env, methodCallForm 1 (backTo cp (starEach [e] env)) [] = true := by intros; rfl) (hp : (ap.endLine == cp.line) = true := by rfl)
    (he : ∀ env, starEach [e] env = (false, eval e env) :: starEach [] env := by intro _; rfl)
    (hs : swapsWith (.Call (.Attribute o "extend" ap) [e] [] cp) none p.line env = pure false := by rfl) :
    Run prog w A env (.Expr (.Call (.Attribute o "extend" ap) [e] [] cp) p :: rest) Q s := by
  refine sc_of (wpAny_Expr_any (MethodCall_ (F.evald Do fun v s₂ P₂ F₂ l₂ k₂ r₂ => ?_) (attrCall_eq (hb env _) (hm env) hp)) (hi := by unfold interactive; rw [F.cx.act.kind]; rfl) (hs := hs))
  (have h := Rp.raw_inv r₂; clear r₂; subst h)
  (refine el2x2 mm ?_; clear mm; intro vs k hM hr)
  have hS := F₂.muo _ _ hM
  have hl := hr.length
  rw [Array.length_toList] at hl
  refine getMethod_builtin (T := "list") (in1x2 _ hS rfl) PySem.F.plainAttrs_list PySem.F.slot_list_extend PySem.F.type_list_extend (fun x hx => by (have h := Value.ref.inj hx; clear hx; subst h); exact (in1x2 _ hS rfl)) (callWith_builtin (by rw [he]; rfl) ?_)
  rw [he]
  refine evalArgs_plain (spliced_cons (F₂.evald De fun v s₃ P₃ F₃ l₃ k₃ r₃ => spliced_nil ?_))
  (refine el3x3 (r₃.list_inv) ?_; intro b us k' hZ; subst hZ; intro hb rb)
  have hl' := rb.length
  rw [Array.length_toList] at hl'
  have hS₃ := F₃.muo _ _ hM
  have hbg := F₃.cx.sub _ _ hb
  have hsl : (100000 : Nat) ≤ sizeLine := by unfold sizeLine; exact lin [] [] (.L 1 (.N 100000) (.N 16777216)) rfl
  have hmz : Manifest.find? "x" = Manifest.find? "x" := rfl
  refine call_meets PySem.F.slot_list_extend (in1x2 _ hS₃ rfl) PySem.F.entry_list_extend (PySem.F.args_list_extend_2 _ _) (AutoSeq1.list_extend_list_list_0 a vs k b us k' (extend_door (by exact lin [_, _, _, _, _] [.L 1 (.A (.V 0) (.V 1)) (.N 10000), .E 1 (.V 2) (.V 0), .E 1 (.V 3) (.V 1), .L 1 (.N 100000) (.V 4)] (.L 1 (.A (.V 2) (.V 3)) (.V 4)) rfl hz hl hl' hsl)) (by exact lin [_, _, _, _] [.L 1 (.A (.V 0) (.V 1)) (.N 10000), .E 1 (.V 2) (.V 0), .L 1 (.N 100000) (.V 3)] (.L 1 (.V 2) (.V 3)) rfl hz hl hsl) (by exact lin [_, _, _, _, _] [.L 1 (.A (.V 0) (.V 1)) (.N 10000), .E 1 (.V 2) (.V 0), .E 1 (.V 3) (.V 1), .L 1 (.N 100000) (.V 4)] (.L 1 (.A (.V 2) (.V 3)) (.A (.V 4) (.N 1))) rfl hz hl hl' hsl)) (in0x3 hS₃ hbg ?_)
  have hme : Obj.mapSeq (fun x => x ++ us) (lobj vs k) = lobj (vs ++ us) (if (vs ++ us).size == vs.size then k else k + 1) := by rfl
  have hg : (s₃.heap.update a (Obj.mapSeq fun x => x ++ us)).get? a = some (lobj (vs ++ us) (if (vs ++ us).size == vs.size then k else k + 1)) := by
    rw [Heap.get?_update_self _ hS₃ (by rw [hme]; rfl), hme]
  have F₄ := F₃.turn (tk := s₃.toks) hM hg (fun b o hb e => (Heap.SameBut.update ..).extBut b o hb e)
  show Then _ _ _ _ _ _ _ _
  exact then_next (h _ _ P₃ F₄ (l₂.trans l₃) (in2x2 _ _ (PMap.put_self _ _ _) (by rw [Array.toList_append]; exact ((hr.mono l₂).mono l₃).append rb)))
theorem sc_extendR {a : Addr} {l : List PV} {lo hi st : Int} {m : Nat} {o e : Expr} {ap cp p : Pos} (F : Fn prog w G n A W V s₀ P₀ env sc xs M X P σ s) (mm : MList prog w M P a l) (hz : l.length + m ≤ 10000) (Do : Den prog w G n sc σ o (.raw (.ref a))) (De : Den prog w G n sc σ e (.rng lo hi st))
    (hsm : Builtin.Range.small lo hi st = true) (hn : Builtin.Range.rangeSize lo hi st = m)
    (h : ∀ ob s' P', Fn prog w G n A W V s₀ P₀ env sc xs (M.put a ob) X P' σ s' → PMap.le P P' → MList prog w (M.put a ob) P' a (l ++ (List.range m).map fun i => .int (lo + (i : Nat) * st)) → Run prog w A env rest Q s')
    (hb : ∀ env t, attributeBase o "extend" env t = t := by intros; rfl) (hm : ∀ env, methodCallForm 1 (backTo cp (starEach [e] env)) [] = true := by intros; rfl) (hp : (ap.endLine == cp.line) = true := by rfl)
    (he : ∀ env, starEach [e] env = (false, eval e env) :: starEach [] env := by intro _; rfl)
    (hs : swapsWith (.Call (.Attribute o "extend" ap) [e] [] cp) none p.line env = pure false := by rfl) :
    Run prog w A env (.Expr (.Call (.Attribute o "extend" ap) [e] [] cp) p :: rest) Q s := by
  refine sc_of (wpAny_Expr_any (MethodCall_ (F.evald Do fun v s₂ P₂ F₂ l₂ k₂ r₂ => ?_) (attrCall_eq (hb env _) (hm env) hp)) (hi := by unfold interactive; rw [F.cx.act.kind]; rfl) (hs := hs))
  (have h := Rp.raw_inv r₂; clear r₂; subst h)
  (refine el2x2 mm ?_; clear mm; intro vs k hM hr)
  have hS := F₂.muo _ _ hM
  have hl := hr.length
  rw [Array.length_toList] at hl
  refine getMethod_builtin (T := "list") (in1x2 _ hS rfl) PySem.F.plainAttrs_list PySem.F.slot_list_extend PySem.F.type_list_extend (fun x hx => by (have h := Value.ref.inj hx; clear hx; subst h); exact (in1x2 _ hS rfl)) (callWith_builtin (by rw [he]; rfl) ?_)
  rw [he]
  refine evalArgs_plain (spliced_cons (F₂.evald De fun v s₃ P₃ F₃ l₃ k₃ r₃ => spliced_nil ?_))
  cases r₃ with
  | @rng r _ _ _ t u v hr' =>
  have hS₃ := F₃.muo _ _ hM
  refine call_extend_range F₃.cx.room.hd (F₃.cx.sub _ _ hr') hsm hn (by exact lin [_, _, _] [.L 1 (.A (.V 0) (.V 1)) (.N 10000), .E 1 (.V 2) (.V 0)] (.L 1 (.A (.V 2) (.V 1)) (.N 50000)) rfl hz hl) a k hS₃ fun h' tk acc c' kk hg hacc => ?_
  have F₄ := F₃.turn (tk := tk) hM hg kk
  show Then _ _ _ _ _ _ _ _
  refine then_next (h _ _ P₃ F₄ (l₂.trans l₃) (in2x2 _ _ (PMap.put_self _ _ _) ?_))
  have hr₃ := (hr.mono l₂).mono l₃
  have gen : ∀ (ws : List Value) (ds : List PV), ws.length = ds.length → (∀ (i : Nat) v, ws[i]? = some v → ∀ d, ds[i]? = some d → Rp prog w P₃ v d) → RpL prog w P₃ ws ds := by
    intro ws
    induction ws with
    | nil => intro ds hl _; cases ds with
      | nil => exact .nil
      | cons d ds => simp at hl
    | cons v ws ih => intro ds hl hp; cases ds with
      | nil => simp at hl
      | cons d ds => exact .cons (hp 0 v rfl d rfl) (ih ds (by simpa using hl) fun i v hv d hd => hp (i + 1) v (by simpa using hv) d (by simpa using hd))
  refine gen _ _ (by have := hacc.1; simp; exact Nat.le_antisymm (lin [_, _, _, _] [.E 1 (.V 0) (.V 1), .E 1 (.V 2) (.A (.V 0) (.V 3))] (.L 1 (.V 2) (.A (.V 1) (.V 3))) rfl hl this) (lin [_, _, _, _] [.Q 1 (.V 0) (.V 1), .Q 1 (.V 2) (.A (.V 0) (.V 3))] (.L 1 (.A (.V 1) (.V 3)) (.V 2)) rfl hl this)) fun i v hv d hd => ?_
  rw [Array.getElem?_toList] at hv
  rcases hacc.2 i v hv with ⟨h1, h2⟩ | ⟨h1, t', rfl⟩
  · rw [List.getElem?_append_left (by exact lin [_, _, _] [.E 1 (.V 0) (.V 1), .T 1 (.V 2) (.V 0)] (.T 1 (.V 2) (.V 1)) rfl hl h1)] at hd
    (refine el1x2 (hr₃.get hd) ?_; intro v' hv' rv')
    rw [Array.getElem?_toList, h2] at hv'
    (have h := Option.some.inj hv'; clear hv'; subst h); exact rv'
  · rw [List.getElem?_append_right (by exact lin [_, _, _] [.Q 1 (.V 0) (.V 1), .L 1 (.V 0) (.V 2)] (.L 1 (.V 1) (.V 2)) rfl hl h1), List.getElem?_map, Option.map_eq_some_iff] at hd
    (refine el1x2 hd ?_; clear hd; intro j hj hZ; subst hZ)
    (refine el0x2 (range_at hj) ?_; intro hZ; subst hZ; intro _)
    rw [← hl]
    exact .int _ _
end
end
section
open Builtin
section
variable {prog : Program} {w : World} {G : GC} {n : Nat} {A : Around} {W V : Addr → Prop} {s₀ : Shared} {P₀ : PMap} {env : Env} {sc : Scp} {xs : List Str} {M X P M' X' P' : PMap} {σ σ' τ : Sto} {s s' : Shared} {rs : List Stmt} {Q : Flow → Shared → Prop}
theorem EndsX.back {v : Value} {pv : PV} {Post : PMap → PMap → Prop} {h₁ : Heap} {tk₁ : Nat} {P₁ : PMap} (k : Keep s.heap h₁) (l : PMap.le P P₁) (f : Grew P P₁ s.heap)
    (e : EndsX prog w X P₁ { s with heap := h₁, toks := tk₁ } v pv Post s') : EndsX prog w X P s v pv Post s' := by
  (refine el4x9 e ?_; clear e; intro h' tk P' X' hZ; subst hZ; intro k' l' b' f' m' d' r p)
  refine (in4x9 h' tk P' X' rfl (fun b o e => k' b o (k b o e)) (l.trans l') b' (f.trans f' k) m' (fun a o e => ?_) r p)
  rcases d' a o e with q | ⟨q, q'⟩
  · exact .inl q
  · refine .inr ⟨?_, q'⟩
    cases z : s.heap.get? a with
    | none => rfl
    | some o' => have := k a o' z; rw [show ({ s with heap := h₁, toks := tk₁ } : Shared).heap.get? a = h₁.get? a from rfl] at q; rw [q] at this; exact no1 this
theorem gt_evalC {mN : Str → Option Value} {fR fG fP : Addr} {L : LexA} {pb : List (List Nat)} {rest : List Nat} {ln : Int} {y : Str} {yp ap cp : Pos} (C : Cx prog w G (n + 4) A P env sc σ s) (mux : Sub X s.heap) (dX : ∀ a o, X a = some o → P a = none) (Lc : LexC G L mN fR fG fP) (bi : Gb G "iter" (.builtin "iter")) (h : LexX prog w L X P pb rest ln) (hz : rest.length ≤ 10000) (hpb : pb.length ≤ 10000)
    (Do : Den prog w G (n + 4) sc σ (.Name y yp) (.raw (.ref L.x)))
    (hb : ∀ env t, attributeBase (.Name y yp) "get_token" env t = t := by intros; rfl) (hm : ∀ env, methodCallForm 0 (backTo cp (starEach [] env)) [] = true := by intros; rfl) (hp : (ap.endLine == cp.line) = true := by rfl) :
    wpAny (model prog w) A (eval (.Call (.Attribute (.Name y yp) "get_token" ap) [] [] cp) env) (fun v s' => EndsX prog w X P s v (sV (gtOf pb rest).1) (fun X' P' => ∃ ln', tot ln' (gtOf pb rest).2.2 = tot ln rest ∧ LexX prog w L X' P' (gtOf pb rest).2.1 (gtOf pb rest).2.2 ln') s') (fun _ _ => False) s := by
  refine MethodCall_ (Do.go C fun v h₂ t₂ P₂ C₂ k₂ l₂ f₂ r₂ => ?_) (attrCall_eq (hb env _) (hm env) hp)
  (have h := Rp.raw_inv r₂; clear r₂; subst h)
  have h₂ := h.mono l₂
  obtain ⟨t, u, mA, hI, hA⟩ := h₂.ins
  obtain ⟨g1, g2, g3, g4, g5, g6, g7⟩ := @lexM_get L ln t u
  have Lr := Lc.g
  obtain ⟨⟨nm, q, N, bs, sn, sub, col, dd, k0, k1, k2, k3, k5, hC, hN⟩, n1, n2, n3⟩ := Lc.c
  (refine el0x3 Lr ?_; clear Lr; intro m1 hZ; refine el2x3 hZ ?_; clear hZ; intro of fd hof hfd _; intro m3)
  have bK : Sub G.K _ := fun a o e => C₂.sub a o (C₂.base a o e)
  have mux₂ := mux.keep k₂
  have dX₂ : ∀ a o, X a = some o → P₂ a = none := fun a o e => f₂.none (mux a o e) (dX a o e)
  refine method_of (bK _ _ hC) (hN.ns bK) n1 n2 m1 (bK _ _ hof) (m3 _ hof) ob_get_token (hI.inst mux₂) (by rw [hA]; exact g6) ?_
  refine callWith_function (o := of) (fd := fd) ?_
  refine evalArgs_none' ?_
  refine ⟨⟨bK _ _ hof, hfd⟩, ?_⟩
  exact wpAny_mono (gt_call (n := n) (s := { s with heap := _, toks := t₂ }) Lc bi C₂.ok C₂.base C₂.sub C₂.room mux₂ dX₂ h₂ hz hpb) (fun v s₃ e => EndsX.back k₂ l₂ f₂ e) fun _ _ q => q.elim
noncomputable def LexA.foot (L : LexA) : List Addr := [L.x, L.dx, L.B, L.S, L.T]
theorem rpl_strs {P P' : PMap} {vs : List Value} {l : List (List Nat)} (h : RpL prog w P vs (l.map sV)) : RpL prog w P' vs (l.map sV) := by
  induction l generalizing vs with
  | nil => cases h; exact .nil
  | cons a l ih => cases h with
    | cons r rs =>
      refine .cons ?_ (ih rs)
      unfold sV at r
      (refine Rp.str_el r ?_; clear r; intro _ h; subst h); exact .str _ _
theorem LexX.cut {L : LexA} {X P P' : PMap} {pb : List (List Nat)} {rest : List Nat} {ln : Int} (h : LexX prog w L X P pb rest ln) (rd : ReadP P' L.st L.rf L.cell L.S) {Y : PMap} (hY : ∀ a ∈ L.foot, Y a = X a) : LexX prog w L Y P' pb rest ln := by
  obtain ⟨⟨t, u, mA, ⟨ox, od, es, ep, h1, h2, h3, h4, h5, h6, h7⟩, hA⟩, ⟨vs, k, e1, r1⟩, ⟨vs', k', e2, r2⟩, _, n1, n2, n3, n4, n5, ⟨⟨ps, e3⟩, t1, t2, t3⟩⟩ := h
  refine ⟨(in3x2 t u mA (in4x7 ox od es ep ((hY _ (by simp [LexA.foot])).trans h1) h2 h3 h4 h5 ((hY _ (by simp [LexA.foot])).trans h6) h7) hA), (in2x2 vs k ((hY _ (by simp [LexA.foot])).trans e1) (rpl_strs r1)), (in2x2 vs' k' ((hY _ (by simp [LexA.foot])).trans e2) ?_), rd, n1, n2, n3, n4, n5, ⟨⟨ps, (hY _ (by simp [LexA.foot])).trans e3⟩, t1, t2, t3⟩⟩
  have e : ∀ l : List Nat, (l.map fun c => sV [c]) = (l.map fun c => [c]).map sV := fun l => by rw [List.map_map]; rfl
  rw [e] at r2 ⊢
  exact rpl_strs r2
theorem LexX.has {L : LexA} {X P : PMap} {pb : List (List Nat)} {rest : List Nat} {ln : Int} (h : LexX prog w L X P pb rest ln) : ∀ a ∈ L.foot, (X a).isSome = true := by
  obtain ⟨⟨t, u, mA, ⟨ox, od, es, ep, h1, h2, h3, h4, h5, h6, h7⟩, hA⟩, ⟨vs, k, e1, r1⟩, ⟨vs', k', e2, r2⟩, _, _, _, _, _, _, ⟨⟨ps, e3⟩, _⟩⟩ := h
  intro a ha
  simp only [LexA.foot, List.mem_cons, List.not_mem_nil, or_false] at ha
  rcases ha with rfl | rfl | rfl | rfl | rfl
  · rw [h1]; rfl
  · rw [h6]; rfl
  · rw [e1]; rfl
  · rw [e2]; rfl
  · rw [e3]; rfl
theorem Fn.toks {mN : Str → Option Value} {fR fG fP : Addr} {L : LexA} {ln : Int} {γ : Type} {enc : γ → PV} {items : List γ} {toks : List (List Nat)} {pbs : Nat → List (List Nat)} {rests : Nat → List Nat} {y x : Str} {px yp ap cp pos : Pos} {iter : Expr} {scope : Scope} {src : PV} {ns : List Str} {Q : Value → Shared → Prop}
    (F : Fn prog w G (n + 4) A W V s₀ P₀ env sc xs M X P σ s) (Lc : LexC G L mN fR fG fP) (bi : Gb G "iter" (.builtin "iter")) (h : LexX prog w L X P (pbs 0) (rests 0) ln)
    (hl : toks.length = items.length) (hz : ∀ j, (rests j).length ≤ 10000 ∧ (pbs j).length ≤ 10000) (hg : ∀ j t, toks[j]? = some t → gtOf (pbs j) (rests j) = (t, pbs (j + 1), rests (j + 1)))
    (di : Den prog w G (n + 4) sc σ iter src) (hi : Its prog w src (items.map enc)) (hc : Cap σ sc scope.names τ) (hy : (y, some (.raw (.ref L.x))) ∈ τ) (hsz : items.length ≤ 1000) (hns : τ.map (·.1) = ns) (hok : compOk scope x ns = true)
    (hQ : ∀ v s' X' P' ln', Fn prog w G (n + 4) A W V s₀ P₀ env sc xs M X' P' σ s' → PMap.le P P' → Rp prog w P' v (.list (toks.map sV)) → tot ln' (rests toks.length) = tot ln (rests 0) → LexX prog w L X' P' (pbs toks.length) (rests toks.length) ln' → Q v s')
    (hb : ∀ env t, attributeBase (.Name y yp) "get_token" env t = t := by intros; rfl) (hm : ∀ env, methodCallForm 0 (backTo cp (starEach [] env)) [] = true := by intros; rfl) (hp : (ap.endLine == cp.line) = true := by rfl)
    (hs : ∀ env x, foldedSetIterable iter env x = pure x := by intro _ _; rfl) :
    wpAny (model prog w) A (eval (.ListComp (.Call (.Attribute (.Name y yp) "get_token" ap) [] [] cp) [⟨.Name x px, iter, [], 0⟩] scope pos) env) Q (fun _ _ => False) s := by
  simp only [compOk, Bool.and_eq_true, decide_eq_true_eq, beq_iff_eq] at hok
  (refine el0x2 hok ?_; clear hok; intro hZ; refine el0x2 hZ ?_; clear hZ; intro hZ; refine el0x2 hZ ?_; clear hZ; intro hZ; refine el0x2 hZ ?_; clear hZ; intro k1 k2; intro k3; intro k4; intro k5)
  have hT : ∀ pv, Turned x pv τ ((x, some pv) :: τ) := fun pv => turned_push (by rw [hns]; exact k5)
  have hsl : (1000 : Nat) ≤ sizeLine := by unfold sizeLine; exact lin [] [] (.L 1 (.N 1000) (.N 16777216)) rfl
  have foot : ∀ a ∈ L.foot, ∃ o, X a = some o := fun a ha => Option.isSome_iff_exists.mp (h.has a ha)
  have zl : (items.zip toks).length = items.length := by rw [List.length_zip, hl, Nat.min_self]
  have zf : (items.zip toks).map (fun q => enc q.1) = items.map enc := by
    rw [show (fun q : γ × List Nat => enc q.1) = enc ∘ Prod.fst from rfl, ← List.map_map, List.map_fst_zip (by exact lin [_, _] [.Q 1 (.V 0) (.V 1)] (.L 1 (.V 1) (.V 0)) rfl hl)]
  have zs : (items.zip toks).map (fun q => sV q.2) = toks.map sV := by
    rw [show (fun q : γ × List Nat => sV q.2) = sV ∘ Prod.snd from rfl, ← List.map_map, List.map_snd_zip (by exact lin [_, _] [.E 1 (.V 0) (.V 1)] (.L 1 (.V 0) (.V 1)) rfl hl)]
  rw [eval_ListComp]
  refine comp_core (α := γ × List Nat) (use := none) (enc := fun q => enc q.1) (l := items.zip toks) (xs := [x]) (p := fun _ => true) (g := fun q => sV q.2) (σt := fun q => (x, some (enc q.1)) :: τ) (W := L.foot)
    (X := fun j h => ∃ Xm ln', Sub Xm h ∧ (∀ a o, Xm a = some o → a ∈ L.foot) ∧ tot ln' (rests j) = tot ln (rests 0) ∧ LexX prog w L Xm P (pbs j) (rests j) ln')
    di (by rw [zf]; exact hi) k1 k2 hc (by simpa using k3) (fun d hd => asg_name (by simpa using k4) (hT _)) (fun d q hq => List.mem_cons_of_mem _ hq) (fun d hd => .inl ⟨rfl, rfl⟩) (fun j h h' hx kk => ?_) (fun j d h hd hf => nomatch hf) (fun j d hd _ A' P' cenv s' lP C' hx hW => ?_) (by exact lin [_, _, _] [.L 1 (.V 0) (.N 1000), .L 1 (.N 1000) (.V 1), .E 1 (.V 2) (.V 0)] (.L 1 (.V 2) (.V 1)) rfl hsz hsl zl) F.cx ?_ ?_ ?_ ?_ ?_ ?_ (fun _ _ _ _ _ _ _ _ _ _ _ _ e => by exact no1 e) hs
  · (refine el2x4 hx ?_; clear hx; intro Xm ln' h1 h2 h3 h4)
    exact (in2x4 Xm ln' (fun a o e => kk a (h2 a o e) o (h1 a o e)) h2 h3 h4)
  · (refine el2x4 hx ?_; clear hx; intro Xm ln' h1 h2 h3 h4)
    have ht : toks[j]? = some d.2 := by
      have : (items.zip toks)[j]? = some (d.1, d.2) := hd
      rw [List.getElem?_zip_eq_some] at this
      exact this.2
    have hgj := hg j d.2 ht
    (refine el0x2 (hz j) ?_; intro z1 z2)
    refine wpAny_mono (gt_evalC (n := n) C' h1 (fun a o e => hW a (h2 a o e)) Lc bi (h4.mono lP) z1 z2 (den_var (List.mem_cons_of_mem _ hy)) hb hm hp) (fun v s'' e => ?_) fun _ _ q => q.elim
    rw [hgj] at e
    (refine el4x9 e ?_; clear e; intro h' tk P'' X'' hZ; subst hZ; intro kk l'' b'' g'' m'' d'' r'' hZ; refine el1x2 hZ ?_; clear hZ; intro ln'' ht'' lx'')
    refine (in3x7 h' tk P'' rfl (fun b o e => ?_) l'' b'' g'' r'' ⟨ fun a => if a ∈ L.foot then X'' a else none, ln'', fun a o e => ?_, fun a o e => ?_, ht''.trans h3, lx''.cut h4.rd fun a ha => if_pos ha⟩)
    · (refine el1x2 (kk b o e) ?_; intro o' e' q)
      refine (in1x2 o' e' (fun nb => q ?_))
      cases z : Xm b with
      | none => rfl
      | some oz => exact absurd (h2 b oz z) nb
    · by_cases ha : a ∈ L.foot
      · simp only [ha, if_true] at e; exact m'' a o e
      · simp only [ha, if_false] at e; exact no1 e
    · by_cases ha : a ∈ L.foot
      · exact ha
      · simp only [ha, if_false] at e; exact no1 e
  · refine (in2x4 (fun a => if a ∈ L.foot then X a else none) ln (fun a o e => ?_) (fun a o e => ?_) rfl (h.cut h.rd fun a ha => if_pos ha))
    · by_cases ha : a ∈ L.foot
      · simp only [ha, if_true] at e; exact F.mux a o e
      · simp only [ha, if_false] at e; exact no1 e
    · by_cases ha : a ∈ L.foot
      · exact ha
      · simp only [ha, if_false] at e; exact no1 e
  · intro q
    (refine el1x1 (foot _ q) ?_; intro o ho)
    rw [F.offX.1] at ho; exact no1 ho
  · intro p hp q
    (refine el1x1 (foot _ q) ?_; intro o ho)
    rw [F.offX.2 p hp] at ho; exact no1 ho
  · intro a ha
    (refine el1x1 (foot _ ha) ?_; intro o ho)
    rw [F.mux _ _ ho]; rfl
  · intro a ha
    (refine el1x1 (foot _ ha) ?_; intro o ho)
    exact F.disX _ _ ho
  · intro v h' tk P' kk l' b' g' r' hx _
    (refine el2x4 hx ?_; clear hx; intro Xm ln' h1 h2 h3 h4)
    rw [zl, ← hl] at h3 h4
    have nP : ∀ a ∈ L.foot, P' a = none := fun a ha => by
      (refine el1x1 (foot a ha) ?_; intro o ho)
      exact g'.none (F.mux _ _ ho) (F.disX _ _ ho)
    have F' := F.outer (X' := fun a => if a ∈ L.foot then Xm a else X a) (P' := P') (tk := tk) (fun b o e => ?_) l' b' g' (fun a o e => ?_) (fun a o e => ?_)
    · refine hQ v _ _ P' ln' F' l' ?_ h3 ((h4.mono l').cut (h4.rd.mono l') fun a ha => if_pos ha)
      have : (List.map (fun q : γ × List Nat => sV q.2) (List.filter (fun _ => true) (items.zip toks))) = toks.map sV := by rw [List.filter_eq_self.mpr fun _ _ => rfl]; exact zs
      rw [this] at r'; exact r'
    · (refine el1x2 (kk b o e) ?_; intro o' e' q)
      exact ⟨o', e', fun nb => q fun hm => by (refine el1x1 (foot b hm) ?_; intro oz hz); rw [nb] at hz; exact no1 hz⟩
    · by_cases ha : a ∈ L.foot
      · simp only [ha, if_true] at e; exact h1 a o e
      · simp only [ha, if_false] at e
        (refine el1x2 (kk a o (F.mux a o e)) ?_; intro o' e' q)
        rw [e', q ha]
    · by_cases ha : a ∈ L.foot
      · (refine el1x1 (foot a ha) ?_; intro oz hz)
        exact .inl (by rw [hz]; rfl)
      · simp only [ha, if_false] at e; exact .inl (by rw [e]; rfl)
end
end
section
open Builtin
noncomputable def rotN (r : List Nat) (t : Nat) : List Nat := ((r ++ r).drop t).take r.length
noncomputable def turnsOf (r : List Nat) : List Nat := ((List.range r.length).map (1 + ·)).filter fun t => rotN r t == r
noncomputable def manyN (r : List Nat) : Nat := (turnsOf r).headD 1
noncomputable def stepsN (n d : Nat) : List Nat := (List.range ((n + d - 1) / d)).map (· * d)
noncomputable def ringF (s : List (List Nat) × List Nat) (r : List Nat) : List (List Nat) × List Nat :=
  if s.1.contains r then s else (s.1 ++ (List.range (manyN r)).map (rotN r), s.2 ++ stepsN r.length (r.length / manyN r))
noncomputable def ringsOf (rows : List (List Nat)) : List Nat := (rows.foldl ringF ([], [])).2
theorem turns_full (r : List Nat) (h : 1 ≤ r.length) : r.length ∈ turnsOf r := by
  unfold turnsOf
  rw [List.mem_filter]
  refine ⟨List.mem_map.mpr (in1x2 (r.length - 1) (List.mem_range.mpr (by lia)) (by lia)), ?_⟩
  simp [rotN]
theorem turns_bd {r : List Nat} {t : Nat} (h : t ∈ turnsOf r) : 1 ≤ t ∧ t ≤ r.length := by
  unfold turnsOf at h
  (refine el0x2 (List.mem_filter.mp h) ?_; intro h _)
  (refine el1x2 (List.mem_map.mp h) ?_; intro i hi hZ; subst hZ)
  have := List.mem_range.mp hi
  exact ⟨lin [_] [] (.L 1 (.N 1) (.A (.N 1) (.V 0))) rfl, lin [_, _] [.T 1 (.V 0) (.V 1)] (.L 1 (.A (.N 1) (.V 0)) (.V 1)) rfl this⟩
theorem many_mem (r : List Nat) (h : 1 ≤ r.length) : manyN r ∈ turnsOf r := by
  unfold manyN
  have := turns_full r h
  cases q : turnsOf r with
  | nil => rw [q] at this; cases this
  | cons a l => simp
theorem many_le (r : List Nat) : ∀ t ∈ turnsOf r, manyN r ≤ t := by
  have hp : (turnsOf r).Pairwise (· < ·) := by
    unfold turnsOf
    refine List.Pairwise.filter _ ?_
    rw [List.pairwise_map]
    exact List.Pairwise.imp (fun h => by exact lin [_, _] [.T 1 (.V 0) (.V 1)] (.T 1 (.A (.N 1) (.V 0)) (.A (.N 1) (.V 1))) rfl h) List.pairwise_lt_range
  unfold manyN
  intro t ht
  cases q : turnsOf r with
  | nil => rw [q] at ht; cases ht
  | cons a l =>
    rw [q] at ht hp
    rcases List.mem_cons.mp ht with rfl | ht
    · exact Nat.le_refl _
    · exact Nat.le_of_lt ((List.pairwise_cons.mp hp).1 t ht)
theorem rng_div : ∀ n < 7, ∀ d < 7, 0 < d → Builtin.Range.rangeSize 0 ((n : Nat) : Int) ((d : Nat) : Int) = (((n + d - 1) / d : Nat) : Int) := by decide +kernel
theorem rng_small : ∀ n < 7, ∀ d < 7, Builtin.Range.small 0 ((n : Nat) : Int) ((d : Nat) : Int) = true := by decide +kernel
noncomputable def lineN (r : List Nat) (j : Nat) : List Nat := ((r ++ r ++ r).drop j).take r.length
theorem line_get (r : List Nat) {j : Nat} (h : j < 2 * r.length) : ∃ x, (r ++ r)[j]? = some x ∧ x ∈ r ∧ lineN r j = x :: (lineN r j).tail ∧ lineN r (j + 1) = (lineN r j).tail ++ [x] := by
  have h1 : j < (r ++ r).length := by simp; exact lin [_, _] [.T 1 (.V 0) (.M 2 (.V 1))] (.T 1 (.V 0) (.A (.V 1) (.V 1))) rfl h
  have hx : (r ++ r)[j]? = some (r ++ r)[j] := List.getElem?_eq_getElem h1
  have h3 : j < (r ++ r ++ r).length := by simp; exact lin [_, _] [.T 1 (.V 0) (.M 2 (.V 1))] (.T 1 (.V 0) (.A (.V 1) (.A (.V 1) (.V 1)))) rfl h
  have e3 : (r ++ r ++ r)[j] = (r ++ r)[j] := List.getElem_append_left h1
  have hn : 0 < r.length := by exact lin [_, _] [.T 1 (.V 0) (.M 2 (.V 1))] (.T 2 (.N 0) (.V 1)) rfl h
  obtain ⟨k, hk⟩ : ∃ k, r.length = k + 1 := ⟨r.length - 1, by lia⟩
  have e4 : (r ++ r ++ r)[j + r.length]? = some (r ++ r)[j] := by
    rw [List.append_assoc, List.getElem?_append_right (by exact lin [_, _] [] (.L 1 (.V 0) (.A (.V 1) (.V 0))) rfl), Nat.add_sub_cancel, hx]
  refine (in1x4 ((r ++ r)[j]) hx ?_ ?_ ?_)
  · have := List.getElem_mem h1
    rcases List.mem_append.mp this with q | q <;> exact q
  · unfold lineN
    rw [List.drop_eq_getElem_cons h3, hk, List.take_succ_cons, List.tail_cons, e3]
  · unfold lineN
    rw [List.drop_eq_getElem_cons h3, hk, List.take_succ_cons, List.tail_cons, List.take_add_one, List.getElem?_drop]
    rw [show j + 1 + k = j + r.length by exact Nat.le_antisymm (lin [_, _, _] [.Q 1 (.V 0) (.A (.V 1) (.N 1))] (.L 1 (.A (.A (.V 2) (.N 1)) (.V 1)) (.A (.V 2) (.V 0))) rfl hk) (lin [_, _, _] [.E 1 (.V 0) (.A (.V 1) (.N 1))] (.L 1 (.A (.V 2) (.V 0)) (.A (.A (.V 2) (.N 1)) (.V 1))) rfl hk), e4]
    rfl
theorem line_zero (r : List Nat) : lineN r 0 = r := by unfold lineN; rw [List.drop_zero, List.append_assoc, List.take_left']; rfl
theorem line_end (r : List Nat) : lineN r (2 * r.length) = r := by
  unfold lineN
  rw [show 2 * r.length = (r ++ r).length by simp; exact Nat.le_antisymm (lin [_] [] (.L 1 (.M 2 (.V 0)) (.A (.V 0) (.V 0))) rfl) (lin [_] [] (.L 1 (.A (.V 0) (.V 0)) (.M 2 (.V 0))) rfl), List.drop_left']
  · exact List.take_length
  · rfl
theorem line_len (r : List Nat) {j : Nat} : (lineN r j).length ≤ r.length := by unfold lineN; rw [List.length_take]; lia
theorem tot_inj {a b : Int} {r : List Nat} (h : tot a r = tot b r) : a = b := by unfold tot at h; lia
section
variable {prog : Program} {w : World} {G : GC} {n : Nat} {A : Around} {W V : Addr → Prop} {s₀ : Shared} {P₀ : PMap} {env : Env} {sc : Scp} {xs : List Str} {M X P M' X' P' : PMap} {σ σ' τ : Sto} {s s' : Shared} {rest : List Stmt} {Q : Flow → Shared → Prop}
theorem cmp_notInM {α : Type} [BEq α] {enc : α → PV} {k : Nat} {l : List α} {d : α} (hk : k ≤ 62) (h1 : ∀ a ∈ l, PV.okk k (enc a)) (h2 : PV.okk k (enc d)) (h : ∀ a ∈ l, (enc a).eqv (enc d) = (d == a)) : Cmp prog w .NotIn (enc d) (.list (l.map enc)) (!l.contains d) := fun A P s u v Q hh hu b ru rv hq => by
  have hl : (PV.list (l.map enc)).okd = true := (okk_listM h1).okd (by exact lin [_] [.L 1 (.V 0) (.N 62)] (.L 1 (.A (.V 0) (.N 1)) (.N 64)) rfl hk)
  have hd : (enc d).okd = true := h2.okd (by exact lin [_] [.L 1 (.V 0) (.N 62)] (.L 1 (.V 0) (.N 64)) rfl hk)
  (refine el1x1 (ru.reads b (by simp only [PV.okd, Bool.and_eq_true] at hd; exact hd.1)) ?_; intro as ra)
  (refine el1x1 (rv.reads b (by simp only [PV.okd, Bool.and_eq_true] at hl; exact hl.1)) ?_; intro bs rb)
  simp only [PV.okd, Bool.and_eq_true] at hl hd
  have hl' := hl.2
  unfold PV.py at rb hl'
  refine SeqAt.notIn_list_reads rb ra (by have := SeqAt.canLay_of_shaped hl'; simpa [PyData.canLay0] using this) (SeqAt.canLay_of_shaped hd.2) (room_in_shaped hd.2 (by exact lin [_, _] [.T 1 (.A (.V 0) (.N 80)) (.V 1)] (.T 1 (.A (.V 0) (.N 65)) (.V 1)) rfl hu)) ?_
  rw [pys_any (enc d) (l.map enc)]
  have e : ∀ m : List α, (∀ a ∈ m, (enc a).eqv (enc d) = (d == a)) → (m.map enc).any (fun x => x.eqv (enc d)) = m.contains d := by
    intro m
    induction m with
    | nil => intro _; rfl
    | cons a m ih => intro hm; rw [List.map_cons, List.any_cons, List.contains_cons, hm a (by simp), ih fun x hx => hm x (List.mem_cons_of_mem _ hx)]
  rw [e l h]; exact hq s.toks
theorem sc_ifB {a : Addr} {l : List PV} {x : Str} {e : Expr} {b : Bool} {body orelse : List Stmt} {p : Pos} (F : Fn prog w G n A W V s₀ P₀ env sc xs M X P σ s) (m : MList prog w M P a l) (hx : (x, some (.raw (.ref a))) ∈ σ) (T : Turned x (.list l) σ σ') (D : DenT prog w G n sc σ' e b)
    (ht : b = true → ∀ s', Fn prog w G n A W V s₀ P₀ env sc xs M X P σ s' → Run prog w A env body (Then prog w A env rest Q) s')
    (hf : b = false → ∀ s', Fn prog w G n A W V s₀ P₀ env sc xs M X P σ s' → Run prog w A env orelse (Then prog w A env rest Q) s') : Run prog w A env (.If e body orelse p :: rest) Q s :=
  sc_of (wpAny_If (F.testB m hx T D fun s' F' => by
    cases b with
    | true => exact (ht rfl s' F').run
    | false => exact (hf rfl s' F').run))
end
end
section
open Builtin
structure RingH (rows words : List (List Nat)) (sz : Nat) : Prop where
  r1 : 1 ≤ rows.length
  r2 : rows.length ≤ 32
  rl : ∀ r ∈ rows, r.length = sz
  s2 : sz ≤ 6
  s1 : 1 ≤ sz
  rw : ∀ r ∈ rows, ∀ x ∈ r, x < words.length
  wn : words.length ≤ 10
  nd : words.Nodup
  ok : ∀ v ∈ words, ∀ c ∈ v, c < 0x110000
noncomputable def rgN : List Str := (["lexer", "rows", "words"] : List Str) ++ (["seen", "left", "size", "row", "told", "spelt", "word", "step", "many"] : List Str)
noncomputable def rgS (L : LexA) (rows words : List (List Nat)) (seen left size row told spelt word step many : Option PV) : Sto :=
  rgN.zip [some (.raw (.ref L.x)), some (.list (rows.map rowV)), some (.list (words.map sV)), seen, left, size, row, told, spelt, word, step, many]
theorem ringF_len (rows : List (List Nat)) (sz : Nat) (hs : sz ≤ 6) (hs1 : 1 ≤ sz) : ∀ (s : List (List Nat) × List Nat), (∀ r ∈ rows, r.length = sz) → (rows.foldl ringF s).1.length ≤ s.1.length + rows.length * 12 ∧ (rows.foldl ringF s).2.length ≤ s.2.length + rows.length * 12 := by
  induction rows with
  | nil => intro s _; simp
  | cons r rs ih =>
    intro s h
    rw [List.foldl_cons]
    have h1 := ih (ringF s r) fun r hr => h r (List.mem_cons_of_mem _ hr)
    have hr := h r (by simp)
    have hm := turns_bd (many_mem r (by exact lin [_, _] [.L 1 (.N 1) (.V 0), .Q 1 (.V 1) (.V 0)] (.L 1 (.N 1) (.V 1)) rfl hs1 hr))
    have h2 : (ringF s r).1.length ≤ s.1.length + 12 ∧ (ringF s r).2.length ≤ s.2.length + 12 := by
      unfold ringF
      split
      · exact ⟨lin [_] [] (.L 1 (.V 0) (.A (.V 0) (.N 12))) rfl, lin [_] [] (.L 1 (.V 0) (.A (.V 0) (.N 12))) rfl⟩
      · simp only [List.length_append, List.length_map, List.length_range, stepsN]
        have hd : (r.length + r.length / manyN r - 1) / (r.length / manyN r) ≤ 12 := by
          have := Nat.div_le_self (r.length + r.length / manyN r - 1) (r.length / manyN r)
          have := Nat.div_le_self r.length (manyN r)
          lia
        exact ⟨lin [_, _, _, _] [.L 1 (.V 0) (.N 6), .E 1 (.V 1) (.V 0), .L 1 (.V 2) (.V 1)] (.L 1 (.A (.V 3) (.V 2)) (.A (.V 3) (.N 12))) rfl hs hr hm.2, lin [_, _] [.L 1 (.V 0) (.N 12)] (.L 1 (.A (.V 1) (.V 0)) (.A (.V 1) (.N 12))) rfl hd⟩
    rw [List.length_cons]
    exact ⟨lin [_, _, _, _] [.L 1 (.V 0) (.A (.V 1) (.R (.V 2) 12)), .L 1 (.V 1) (.A (.V 3) (.N 12))] (.L 1 (.V 0) (.A (.V 3) (.R (.A (.V 2) (.N 1)) 12))) rfl h1.1 h2.1, lin [_, _, _, _] [.L 1 (.V 0) (.A (.V 1) (.R (.V 2) 12)), .L 1 (.V 1) (.A (.V 3) (.N 12))] (.L 1 (.V 0) (.A (.V 3) (.R (.A (.V 2) (.N 1)) 12))) rfl h1.2 h2.2⟩
section
variable {prog : Program} {w : World} {G : GC} {n : Nat}
theorem rings_call {A : Around} {P X : PMap} {s : Shared} {T C a : Addr} {mN : Str → Option Value} {fI fR fG fP : Addr} {L : LexA} {rest : List Nat} {ln : Int} {vs : List Value} {rows words : List (List Nat)} {sz : Nat}
    (H : LexF G T C mN fI fR fG fP) (hLC : L.C = C) (D : Df G.K (pm 69) (bd 69) (sp 69) a) (K : RingH rows words sz)
    (b1 : Gb G "range" (.type "range")) (b2 : Gb G "len" (.builtin "len")) (b3 : Gb G "min" (.builtin "min"))
    (ok : GOk G) (le : PMap.le G.K P) (bb : Sub P s.heap) (rm : Room (n + 5) A) (bX : Sub X s.heap) (dX : ∀ a o, X a = some o → P a = none) (lx : LexX prog w L X P [] rest ln) (hrest : rest.length ≤ 10000)
    (rv : RpL prog w P vs [.raw (.ref L.x), .list (rows.map rowV), .list (words.map sV)]) :
    wpAny (model prog w) A (call (.ref a) vs) (fun v s' => EndsX prog w X P s v (rowV (ringsOf rows)) (fun X' P' => LexX prog w L X' P' [] rest ln) s') (fun _ _ => False) s := by
  have Lc := H.lc hLC
  have hsl : (10000 : Nat) ≤ sizeLine := by unfold sizeLine; exact lin [] [] (.L 1 (.N 10000) (.N 16777216)) rfl
  have hr1 := K.r1
  have hr2 := K.r2
  have hs2 := K.s2
  have hs1 := K.s1
  have hwn := K.wn
  refine enter (X := X) (names := ["lexer", "rows", "words"]) (extra := ["seen", "left", "size", "row", "told", "spelt", "word", "step", "many"]) D (fun fd vs h1 h2 h3 => ?_) (by decide +kernel) rfl rfl rfl rfl ok le bb rm rv bX dX (fun env s₁ F => ?_)
  · (refine lcons h3 fun _ r e h4 => ?_); subst e; (refine lcons h4 fun _ r e h5 => ?_); subst e; (refine lcons h5 fun _ r e h6 => ?_); subst e; have e := List.length_eq_zero_iff.mp h6; clear h6; subst e; obtain ⟨_⟩ := fd; subst h1; subst h2; rfl
  · have h0r : 0 < rows.length := hr1
    have hrow0 : (rows.map rowV)[0]? = some (rowV rows[0]) := by rw [List.getElem?_map, List.getElem?_eq_getElem h0r]; rfl
    have hlen0 : rows[0].length = sz := K.rl _ (List.getElem_mem h0r)
    refine sc_tup (ys := ["seen", "left", "size"]) (by decide +kernel) (spliced_cons (F.evaldO (deno_list dens_nil (by simp)) fun sa va ka s₂ P₂ F₂ l₂ k₂ nm₂ np₂ r₂ => spliced_cons (F₂.evaldO (deno_list dens_nil (by simp)) fun la vb kb s₃ P₃ F₃ l₃ k₃ nm₃ np₃ r₃ =>
      spliced_cons (F₃.evald (b2.call (gm 12 rfl) (argd1 (den_itemN (d := rowV rows[0]) (den_var (zm 1 rfl rfl)) (den_k 0) (by exact lin [] [] (.T 1 (.N 0) (.N 9223372036854775808)) rfl) hrow0)) (con_lenM (by exact lin [_, _] [.L 1 (.V 0) (.N 6), .E 1 (.V 1) (.V 0)] (.T 1 (.V 1) (.N 4611686018427387904)) rfl hs2 hlen0)) (by decide +kernel)) fun v s₄ P₄ F₄ l₄ k₄ r₄ => spliced_nil (in6x5 _ _ _ ([.raw (.ref sa), .raw (.ref la), iN rows[0].length]) _ (rgS L rows words (some (.raw (.ref sa))) (some (.raw (.ref la))) (some (iN rows[0].length)) none none none none none none) F₄ (.cons (.raw _) (.cons (.raw _) (.cons r₄ .nil))) (by simp) (.cons (by decide +kernel) (turned_zip F.nd (i := 3) rfl (.there (.there (.there .here)))) (.cons (by decide +kernel) (turned_zip F.nd (i := 4) rfl (.there (.there (.there (.there .here))))) (.cons (by decide +kernel) (turned_zip F.nd (i := 5) rfl (.there (.there (.there (.there (.there .here)))))) .nil))) (fun s₅ P₅ F₅ l₅ => ?_)))))) rfl (swp3 F (gm 3 rfl) (gm 4 rfl) (gm 5 rfl) rfl)
    have n1 : la ≠ sa := fun q => by rw [q, PMap.put_self] at nm₃; exact no2 nm₃
    have ms : MList prog w ((PMap.none.put sa (lobj va ka)).put la (lobj vb kb)) P₅ sa [] := (in2x2 va ka (by simp [PMap.put, Ne.symm n1]) (((r₂.mono l₃).mono l₄).mono l₅))
    have ml : MList prog w ((PMap.none.put sa (lobj va ka)).put la (lobj vb kb)) P₅ la [] := (in2x2 vb kb (PMap.put_self _ _ _) ((r₃.mono l₄).mono l₅))
    have lx₅ := (((lx.mono l₂).mono l₃).mono l₄).mono l₅
    generalize ((PMap.none.put sa (lobj va ka)).put la (lobj vb kb)) = M₅ at F₅ ms ml
    clear F₂ F₃ F₄ nm₂ nm₃
    have F := F₅
    rw [hlen0] at F
    refine sc_forB rowV rows (fun j (_ : Unit) => rgS L rows words (some (.raw (.ref sa))) (some (.raw (.ref la))) (some (iN sz)) none none none none none none) (fun j _ => rgS L rows words (some (.raw (.ref sa))) (some (.raw (.ref la))) (some (iN sz)) ((rows[j]?).map rowV) none none none none none)
      (fun j _ M X P => LexX prog w L X P [] rest ln ∧ MList prog w M P sa (((rows.take j).foldl ringF ([], [])).1.map rowV) ∧ MList prog w M P la (((rows.take j).foldl ringF ([], [])).2.map iN)) (fun _ _ _ _ => False) ()
      F (den_var (zm 1 rfl rfl)) its_list (fun j _ M X P P' l h => (in0x3 (h.1.mono l) (h.2.1.mono l) (h.2.2.mono l))) (in0x3 lx₅ ms ml) (gm 6 rfl) (fun j a _ hj => ?_) (fun j row _ hj W' V' s₁ P₁ M X P s F hI => ?_) (fun _ M₁ X₁ P₁ s₁ F hI l₁ => ?_) (fun _ _ _ _ _ _ h => h.elim)
    · rw [hj]; exact (turned_zip F.nd (i := 6) rfl (.there (.there (.there (.there (.there (.there .here)))))))
    · rw [hj] at F
      (refine el0x3 hI ?_; clear hI; intro lx ms ml)
      have hmem : row ∈ rows := List.mem_of_getElem? hj
      have hrl := K.rl _ hmem
      have hjl : j < rows.length := (List.getElem?_eq_some_iff.mp hj).1
      have hfl := ringF_len (rows.take j) sz hs2 hs1 ([], []) fun r hr => K.rl r (List.mem_of_mem_take hr)
      have htj : (rows.take j).length ≤ 32 := by rw [List.length_take]; lia
      simp only [List.length_nil, Nat.zero_add] at hfl
      have hSn : (rows.take (j + 1)).foldl ringF ([], []) = ringF ((rows.take j).foldl ringF ([], [])) row := by
        rw [List.take_add_one, hj, Option.toList_some, List.foldl_append]; rfl
      generalize hS : (rows.take j).foldl ringF ([], []) = S at ms ml hfl hSn
      have hbnd : ∀ x ∈ row, x < words.length := K.rw _ hmem
      have hwd : ∀ x ∈ row, (words.map sV)[x]? = some (sV (words.getD x [])) := fun x hx => by
        rw [List.getElem?_map, List.getD_eq_getElem?_getD, List.getElem?_eq_getElem (hbnd x hx)]; rfl
      refine sc_ifB (l := S.1.map rowV) (x := "seen") (b := !S.1.contains row) F ms (zm 3 rfl rfl) (turned_zip F.nd (i := 3) rfl (.there (.there (.there .here)))) (dent_cmp (den_var (zm 6 rfl rfl)) (den_var (zm 3 rfl rfl)) (cmp_notInM (k := 1) (by exact lin [] [] (.L 1 (.N 1) (.N 62)) rfl) (fun _ _ => okk_row) okk_row fun a _ => by rw [eqv_row, Bool.beq_comm])) (fun hb s₂ F => ?_) (fun hb s₂ F => ?_)
      · have hnc : S.1.contains row = false := by simpa using hb
        refine sc_tup (ys := ["told", "spelt"]) (by decide +kernel) (spliced_cons (F.evaldO (deno_list dens_nil (by simp)) fun ta vt kt s₃ P₃ F₃ l₃ k₃ nm₃ np₃ r₃ => spliced_cons (F₃.evald (den_for1 iN row (fun x => sV (words.getD x [])) ["words"] (den_var (zm 6 rfl rfl)) its_list (.skip (by decide) (.skip (by decide) (.free (zm 2 rfl rfl) (.inl (gm 2 rfl)) .nil))) (fun x hx => den_itemN (den_var (gm 1 rfl)) (den_var (gm 0 rfl)) (by have := hbnd x hx; exact lin [_, _] [.L 1 (.V 0) (.N 10), .T 1 (.V 1) (.V 0)] (.T 1 (.V 1) (.N 9223372036854775808)) rfl hwn this) (hwd x hx)) (by exact lin [_, _, _] [.L 1 (.N 10000) (.V 0), .L 1 (.V 1) (.N 6), .E 1 (.V 2) (.V 1)] (.L 1 (.V 2) (.V 0)) rfl hsl hs2 hrl) rfl (by decide +kernel)) fun v s₄ P₄ F₄ l₄ k₄ r₄ =>
          spliced_nil (in6x5 _ _ _ ([.raw (.ref ta), .list (row.map fun x => sV (words.getD x []))]) _ (rgS L rows words (some (.raw (.ref sa))) (some (.raw (.ref la))) (some (iN sz)) (some (rowV row)) (some (.raw (.ref ta))) (some (.list (row.map fun x => sV (words.getD x [])))) none none none) F₄ (.cons (.raw _) (.cons r₄ .nil)) (by simp) (.cons (by decide +kernel) (turned_zip F.nd (i := 7) rfl (.there (.there (.there (.there (.there (.there (.there .here)))))))) (.cons (by decide +kernel) (turned_zip F.nd (i := 8) rfl (.there (.there (.there (.there (.there (.there (.there (.there .here))))))))) .nil)) (fun s₅ P₅ F₅ l₅ => ?_))))) rfl (swp2 F (gm 7 rfl) (gm 8 rfl) rfl)
        have nts : ta ≠ sa := fun q => by (refine el2x2 ms ?_; clear ms; intro vs k e _); rw [← q, nm₃] at e; exact no1 e
        have ntl : ta ≠ la := fun q => by (refine el2x2 ml ?_; clear ml; intro vs k e _); rw [← q, nm₃] at e; exact no1 e
        have ll := (l₃.trans l₄).trans l₅
        have mt : MList prog w (M.put ta (lobj vt kt)) P₅ ta [] := (in2x2 vt kt (PMap.put_self _ _ _) ((r₃.mono l₄).mono l₅))
        have ms := ms.keep (M' := M.put ta (lobj vt kt)) (by simp [PMap.put, Ne.symm nts]) ll
        have ml := ml.keep (M' := M.put ta (lobj vt kt)) (by simp [PMap.put, Ne.symm ntl]) ll
        have lx := lx.mono ll
        generalize M.put ta (lobj vt kt) = M₅ at F₅ mt ms ml
        clear F₃ F₄ nm₃
        have F := F₅
        refine sc_forB sV (row.map fun x => words.getD x []) (fun j (_ : Unit) => rgS L rows words (some (.raw (.ref sa))) (some (.raw (.ref la))) (some (iN sz)) (some (rowV row)) (some (.raw (.ref ta))) (some (.list (row.map fun x => sV (words.getD x [])))) none none none)
          (fun j _ => rgS L rows words (some (.raw (.ref sa))) (some (.raw (.ref la))) (some (iN sz)) (some (rowV row)) (some (.raw (.ref ta))) (some (.list (row.map fun x => sV (words.getD x [])))) (((row.map fun x => words.getD x [])[j]?).map sV) none none)
          (fun j _ M X P => LexX prog w L X P ((row.map fun x => words.getD x []).take j) rest ln ∧ MList prog w M P ta [] ∧ MList prog w M P sa (S.1.map rowV) ∧ MList prog w M P la (S.2.map iN)) (fun _ _ _ _ => False) ()
          F (den_as (by rw [List.map_map]; rfl) (den_var (zm 8 rfl rfl))) its_list (fun j _ M X P P' l h => (in0x4 (h.1.mono l) (h.2.1.mono l) (h.2.2.1.mono l) (h.2.2.2.mono l))) (in0x4 lx mt ms ml) (gm 9 rfl) (fun j b _ hj => ?_) (fun j b _ hj W' V' s₁ P₁ M X P s F hI => ?_) (fun _ M₆ X₆ P₆ s₆ F hI l₆ => ?_) (fun _ _ _ _ _ _ h => h.elim)
        · rw [hj]; exact (turned_zip F.nd (i := 9) rfl (.there (.there (.there (.there (.there (.there (.there (.there (.there .here))))))))))
        · rw [hj] at F
          (refine el0x4 hI ?_; clear hI; intro lx mt ms ml)
          refine sc_push (tw := b) F Lc lx (by simp; lia) (den_var (zm 0 rfl rfl)) (argd1 (den_var (zm 9 rfl rfl))) (fun s' X' P' F' l lx => sc_nil (turn_next (in4x5 (()) M X' P' (F'.forget 9 3) ?_ (mt.mono l) (ms.mono l) (ml.mono l))))
          rw [List.take_add_one, hj]
          exact lx
        · rw [show (row.map fun x => words.getD x []).length = row.length by simp, show row.length = (row.map fun x => words.getD x []).length by simp, List.take_length] at hI
          (refine el0x4 hI ?_; clear hI; intro lx mt ms ml)
          have hwl : ∀ (r : List Nat), (∀ x ∈ r, x ∈ row) → r.length ≤ 10 → True := fun _ _ _ => trivial
          refine sc_forB iN (List.range (2 * sz)) (fun j (_ : Unit) => rgS L rows words (some (.raw (.ref sa))) (some (.raw (.ref la))) (some (iN sz)) (some (rowV row)) (some (.raw (.ref ta))) (some (.list (row.map fun x => sV (words.getD x [])))) none none none)
            (fun j _ => rgS L rows words (some (.raw (.ref sa))) (some (.raw (.ref la))) (some (iN sz)) (some (rowV row)) (some (.raw (.ref ta))) (some (.list (row.map fun x => sV (words.getD x [])))) none (some (iN j)) none)
            (fun j _ M X P => LexX prog w L X P ((lineN row j).map fun x => words.getD x []) rest ln ∧ MList prog w M P ta (((row ++ row).take j).map iN) ∧ MList prog w M P sa (S.1.map rowV) ∧ MList prog w M P la (S.2.map iN)) (fun _ _ _ _ => False) ()
            F (b1.callT (gm 13 rfl) (argd1 (den_mulN (den_k 2) (den_var (zm 5 rfl rfl)) (by exact lin [] [] (.T 1 (.N 2) (.N 18446744073709551616)) rfl) (by exact lin [_] [.L 1 (.V 0) (.N 6)] (.T 1 (.V 0) (.N 18446744073709551616)) rfl hs2))) con_rangeN (by decide +kernel)) (its_range (by exact lin [_] [.L 2 (.V 0) (.N 6)] (.T 1 (.M 2 (.V 0)) (.N 2147483648)) rfl hs2)) (fun j _ M X P P' l h => (in0x4 (h.1.mono l) (h.2.1.mono l) (h.2.2.1.mono l) (h.2.2.2.mono l))) (in0x4 (by rw [line_zero]; exact lx) mt ms ml) (gm 10 rfl) (fun j b _ hj => ?_) (fun j b _ hj W' V' s₁ P₁ M X P s F hI => ?_) (fun _ M₇ X₇ P₇ s₇ F hI l₇ => ?_) (fun _ _ _ _ _ _ h => h.elim)
          · (refine el0x2 (range_at hj) ?_; intro hZ; subst hZ; intro _)
            exact (turned_zip F.nd (i := 10) rfl (.there (.there (.there (.there (.there (.there (.there (.there (.there (.there .here)))))))))))
          · (refine el0x2 (range_at hj) ?_; intro hZ; subst hZ; intro hjl)
            (refine el0x4 hI ?_; clear hI; intro lx mt ms ml)
            (refine el1x4 (line_get row (j := b) (by exact lin [_, _, _] [.Q 2 (.V 0) (.V 1), .T 1 (.V 2) (.M 2 (.V 1))] (.T 1 (.V 2) (.M 2 (.V 0))) rfl hrl hjl)) ?_; intro x hx hxr hl1 hl2)
            have hll := line_len row (j := b)
            have htl := line_len row (j := b + 1)
            rw [hl1] at lx
            refine sc_get F Lc H.bi lx hrest (by rw [List.length_map, ← hl1]; exact lin [_, _, _] [.L 1 (.V 0) (.N 6), .E 1 (.V 1) (.V 0), .L 1 (.V 2) (.V 1)] (.L 1 (.V 2) (.N 10000)) rfl hs2 hrl hll) (den_var (zm 0 rfl rfl)) (gm 9 rfl) (σ' := rgS L rows words (some (.raw (.ref sa))) (some (.raw (.ref la))) (some (iN sz)) (some (rowV row)) (some (.raw (.ref ta))) (some (.list (row.map fun x => sV (words.getD x [])))) (some (sV (words.getD x []))) (some (iN b)) none) (turned_zip F.nd (i := 9) rfl (.there (.there (.there (.there (.there (.there (.there (.there (.there .here)))))))))) (fun s' X' P' ln' F l htot lx => ?_)
            have hln : ln' = ln := tot_inj htot
            rw [hln] at lx
            have mt := mt.mono l
            refine sc_append (d := iN x) F mt (by rw [List.length_map, List.length_take]; lia) (den_var (zm 7 rfl rfl)) (den_method (den_var (zm 2 rfl rfl)) (meth_list PySem.F.slot_list_index PySem.F.type_list_index) (argd1 (den_var (zm 9 rfl rfl))) (con_indexW (hbnd x hxr) K.nd K.ok K.wn)) (fun ob s₄ P₄ F l₄ m₄ => ?_)
            refine sc_push (tw := words.getD x []) F Lc (lx.mono l₄) (by show (List.map (fun x => words.getD x []) _).length ≤ _; rw [List.length_map, List.length_tail]; lia) (den_var (zm 0 rfl rfl)) (argd1 (den_var (zm 9 rfl rfl))) (fun s' X' P' F' l₅ lx => sc_nil (turn_next (in4x5 (()) _ X' P' (F'.forget 9 3) ?_ ?_ ?_ ?_)))
            · rw [hl2, List.map_append]; exact lx
            · rw [List.take_add_one, hx, Option.toList_some, List.map_append]
              exact m₄.mono l₅
            · exact (((ms.mono l).mono l₄).mono l₅).keep (by simp [PMap.put, Ne.symm nts]) (PMap.le_refl _)
            · exact (((ml.mono l).mono l₄).mono l₅).keep (by simp [PMap.put, Ne.symm ntl]) (PMap.le_refl _)
          · rw [List.length_range, ← hrl, line_end, List.take_of_length_le (by simp; exact lin [_] [] (.L 1 (.A (.V 0) (.V 0)) (.M 2 (.V 0))) rfl)] at hI
            (refine el0x4 hI ?_; clear hI; intro lx mt ms ml)
            (refine el1x3 (F.freezeL mt (x := "told") (zm 7 rfl rfl) (turned_zip F.nd (i := 7) rfl (.there (.there (.there (.there (.there (.there (.there .here))))))))) ?_; intro P₈ F₈ l₈ _)
            have ms := (ms.mono l₈).keep (M' := M₇.del ta) (by simp [PMap.del, Ne.symm nts]) (PMap.le_refl _)
            have ml := (ml.mono l₈).keep (M' := M₇.del ta) (by simp [PMap.del, Ne.symm ntl]) (PMap.le_refl _)
            have lx := lx.mono l₈
            have F := F₈
            have hc1 : Cmp prog w .NotEq (.list ((row ++ row).map iN)) (.list (row.map iN ++ row.map iN)) false := by
              have := cmp_neM (prog := prog) (w := w) (enc := iN) (k := 0) (l := row ++ row) (m := row ++ row) (by exact lin [] [] (.L 1 (.N 0) (.N 63)) rfl) (fun _ _ => okk_iN) (fun _ _ => okk_iN) fun _ _ _ _ => eqv_iN
              rw [← List.map_append]
              simpa using this
            refine sc_of (wpAny_If (isTrue_or (F.test (dent_cmp (den_var (zm 7 rfl rfl)) (den_addL (den_var (zm 6 rfl rfl)) (den_var (zm 6 rfl rfl)) (by simp; exact lin [_, _, _] [.L 1 (.N 10000) (.V 0), .L 2 (.V 1) (.N 6), .E 2 (.V 2) (.V 1)] (.L 1 (.A (.V 2) (.V 2)) (.V 0)) rfl hsl hs2 hrl)) hc1) fun s₉ P₉ F₉ l₉ => isTrue_or (wpAny_isTrue_Compare1 (F₉.toks (γ := Nat) (enc := iN) (items := row) (toks := row.map fun x => words.getD x []) (pbs := fun j => (row.map fun x => words.getD x []).drop j) (rests := fun _ => rest) (ns := ["lexer"]) (τ := [("lexer", some (.raw (.ref L.x)))])
              Lc H.bi (lx.mono l₉) (by simp) (fun j => ⟨hrest, by simp; exact lin [_, _, _] [.L 1 (.V 0) (.N 6), .E 1 (.V 1) (.V 0)] (.L 1 (.V 1) (.A (.N 10000) (.V 2))) rfl hs2 hrl⟩) (fun j t ht => ?_) (den_var (zm 6 rfl rfl)) its_list (.skip (by decide) (.skip (by decide) (.free (zm 0 rfl rfl) (.inl (gm 0 rfl)) .nil))) (by simp) (by exact lin [_, _] [.L 1 (.V 0) (.N 6), .E 1 (.V 1) (.V 0)] (.L 1 (.V 1) (.N 1000)) rfl hs2 hrl) rfl (by decide +kernel) (fun v sa' Xa Pa lna Fa lla ra ta' lxa => ?_)) rfl))))
            · obtain ⟨h1, h2⟩ := List.getElem?_eq_some_iff.mp ht
              show gtOf ((row.map fun x => words.getD x []).drop j) rest = (t, (row.map fun x => words.getD x []).drop (j + 1), rest)
              rw [List.drop_eq_getElem_cons h1, h2]; rfl
            · have hln : lna = ln := tot_inj ta'
              rw [hln] at lxa
              rw [show (row.map fun x => words.getD x []).length = row.length by simp, show row.length = (row.map fun x => words.getD x []).length by simp, List.drop_length] at lxa
              refine Fa.evald (den_var (zm 8 rfl rfl)) fun v' sb Pb Fb lb kb rb => ?_
              have hc2 : Cmp prog w .NotEq (.list ((row.map fun x => words.getD x []).map sV)) (.list (row.map fun x => sV (words.getD x []))) false := by
                have := cmp_neM (prog := prog) (w := w) (enc := sV) (k := 0) (l := row.map fun x => words.getD x []) (m := row.map fun x => words.getD x []) (by exact lin [] [] (.L 1 (.N 0) (.N 63)) rfl) (fun a ha => okk_sV (by
                  (refine el1x2 (List.mem_map.mp ha) ?_; intro x hx hZ; subst hZ)
                  have hb := hbnd x hx
                  rw [List.getD_eq_getElem?_getD, List.getElem?_eq_getElem hb]
                  exact K.ok _ (List.getElem_mem hb))) (fun a ha => okk_sV (by
                  (refine el1x2 (List.mem_map.mp ha) ?_; intro x hx hZ; subst hZ)
                  have hb := hbnd x hx
                  rw [List.getD_eq_getElem?_getD, List.getElem?_eq_getElem hb]
                  exact K.ok _ (List.getElem_mem hb))) fun _ _ _ _ => eqv_sV
                rw [bne_self_eq_false, List.map_map] at this
                rw [List.map_map]
                exact this
              refine hc2 _ Pb _ v v' _ Fb.cx.room.hd (by have := Fb.cx.room.un; exact lin [_, _, _] [.T 1 (.A (.A (.V 0) (.N 80)) (.M 10 (.A (.V 1) (.N 4)))) (.V 2)] (.T 1 (.A (.V 0) (.N 80)) (.V 2)) rfl this) Fb.cx.sub (ra.mono lb) rb fun tk => wpAny_truthy_bool ?_
              have Fc := Fb.move (tk := tk) (Keep.refl _) (PMap.le_refl _) Fb.cx.sub (Grew.refl _ _)
              refine isTrue_or_nil ?_
              refine Run.run (b := []) (sc_nil (then_next ?_))
              have lx := lxa.mono lb
              have l9b := (l₉.trans lla).trans lb
              have ms := ms.mono l9b
              have ml := ml.mono l9b
              have F := Fc
              have hmm := many_mem row (by exact lin [_, _] [.L 1 (.N 1) (.V 0), .Q 1 (.V 1) (.V 0)] (.L 1 (.N 1) (.V 1)) rfl hs1 hrl)
              have hmb := turns_bd hmm
              subst hrl
              have hsl2 : ∀ t, pickL ((row ++ row).map iN) (some ((t : Nat) : Int)) (some ((t + row.length : Nat) : Int)) none = (rotN row t).map iN := fun t => by
                rw [pickL_nat, Nat.add_sub_cancel_left]; unfold rotN; rw [List.map_take, List.map_drop]
              have hdd : 0 < row.length / manyN row := Nat.div_pos hmb.2 (by exact lin [_] [.L 1 (.N 1) (.V 0)] (.T 1 (.N 0) (.V 0)) rfl hmb.1)
              have hdl : row.length / manyN row ≤ row.length := Nat.div_le_self _ _
              have hml : (row.length + row.length / manyN row - 1) / (row.length / manyN row) ≤ 12 := by
                have := Nat.div_le_self (row.length + row.length / manyN row - 1) (row.length / manyN row)
                lia
              refine sc_assign F (pv := iN (manyN row)) (b3.call (gm 14 rfl) (argd1 (den_as (a := .list ((turnsOf row).map iN)) (b := .list (((turnsOf row).map (fun t : Nat => (t : Int))).map .int)) (by rw [List.map_map]; rfl)
                (den_if1 iN ((List.range row.length).map (1 + ·)) (fun t => rotN row t == row) iN ["row", "size", "told"] (b1.callT (gm 13 rfl) (argd2 (den_k 1) (den_addN (den_var (zm 5 rfl rfl)) (den_k 1))) con_range2N (by decide +kernel)) (its_range2 (a := 1) (b := row.length + 1) (by exact lin [_] [.L 1 (.V 0) (.N 6)] (.T 1 (.A (.V 0) (.N 1)) (.N 2147483648)) rfl hs2) (by exact lin [_] [] (.L 1 (.N 1) (.A (.V 0) (.N 1))) rfl)) (.skip (by decide) (.skip (by decide) (.free (zm 6 rfl rfl) (.inl (gm 6 rfl)) (.free (zm 5 rfl rfl) (.inl (gm 5 rfl)) (.free (zm 7 rfl rfl) (.inl (gm 7 rfl)) .nil)))))
                  (fun t ht => .inr (in1x2 _ rfl (dent_cmp (den_as (congrArg PV.list (hsl2 t)) (den_slice (den_var (gm 3 rfl)) (denP_some (den_var (gm 0 rfl))) (denP_some (den_addN (den_var (gm 0 rfl)) (den_var (gm 2 rfl)))) denP_none (by simp) (by simp; exact lin [_, _] [.L 1 (.N 10000) (.V 0), .L 2 (.V 1) (.N 6)] (.L 1 (.A (.V 1) (.V 1)) (.V 0)) rfl hsl hs2))) (den_var (gm 1 rfl)) (cmp_eqM (enc := iN) (k := 0) (by exact lin [] [] (.L 1 (.N 0) (.N 63)) rfl) (fun _ _ => okk_iN) (fun _ _ => okk_iN) fun _ _ _ _ => eqv_iN)))) (fun t ht _ => (den_var (gm 0 rfl))) (by simp; exact lin [_, _] [.L 1 (.N 10000) (.V 0), .L 1 (.V 1) (.N 6)] (.L 1 (.V 1) (.V 0)) rfl hsl hs2) rfl (by decide +kernel)))) (con_min (m := ((manyN row : Nat) : Int)) (List.mem_map.mpr (in1x2 _ hmm rfl)) (fun a ha => by
                    (refine el1x2 (List.mem_map.mp ha) ?_; intro t ht hZ; subst hZ)
                    have := many_le row t ht
                    lia)) (by decide +kernel)) rfl (gm 11 rfl) (turned_zip F.nd (i := 11) rfl (.there (.there (.there (.there (.there (.there (.there (.there (.there (.there (.there .here)))))))))))) (fun s₂ P₂ F l₂ => ?_)
              refine sc_extend (l := S.1.map rowV) (m := (List.range (manyN row)).map fun t => rowV (rotN row t)) F (ms.mono l₂) (by simp; exact lin [_, _, _, _] [.L 12 (.V 0) (.N 32), .L 1 (.V 1) (.R (.V 0) 12), .L 1 (.V 2) (.V 3), .L 1 (.V 3) (.N 6)] (.L 1 (.A (.V 1) (.V 2)) (.N 10000)) rfl htj hfl.1 hmb.2 hs2) (den_var (zm 3 rfl rfl)) (den_for1 iN (List.range (manyN row)) (fun t => rowV (rotN row t)) ["size", "told"] (b1.callT (gm 13 rfl) (argd1 (den_var (zm 11 rfl rfl))) con_rangeN (by decide +kernel)) (its_range (by exact lin [_, _] [.L 1 (.V 0) (.V 1), .L 1 (.V 1) (.N 6)] (.T 1 (.V 0) (.N 2147483648)) rfl hmb.2 hs2)) (.skip (by decide) (.skip (by decide) (.free (zm 5 rfl rfl) (.inl (gm 5 rfl)) (.free (zm 7 rfl rfl) (.inl (gm 7 rfl)) .nil))))
                (fun t ht => den_as (congrArg PV.list (hsl2 t)) (den_slice (den_var (gm 2 rfl)) (denP_some (den_var (gm 0 rfl))) (denP_some (den_addN (den_var (gm 0 rfl)) (den_var (gm 1 rfl)))) denP_none (by simp) (by simp; exact lin [_, _] [.L 1 (.N 10000) (.V 0), .L 2 (.V 1) (.N 6)] (.L 1 (.A (.V 1) (.V 1)) (.V 0)) rfl hsl hs2))) (by simp; exact lin [_, _, _] [.L 1 (.N 10000) (.V 0), .L 1 (.V 1) (.V 2), .L 1 (.V 2) (.N 6)] (.L 1 (.V 1) (.V 0)) rfl hsl hmb.2 hs2) rfl (by decide +kernel)) (fun ob s₃ P₃ F l₃ m₃ => ?_)
              have ml₃ := ((ml.mono l₂).mono l₃).keep (M' := (M₇.del ta).put sa ob) (by simp [PMap.put, n1]) (PMap.le_refl _)
              refine sc_extendR (l := S.2.map iN) (lo := ((0 : Nat) : Int)) (hi := ((row.length : Nat) : Int)) (st := ((row.length / manyN row : Nat) : Int)) (m := (row.length + row.length / manyN row - 1) / (row.length / manyN row)) F ml₃ (by simp; exact lin [_, _, _] [.L 12 (.V 0) (.N 32), .L 1 (.V 1) (.R (.V 0) 12), .L 1 (.V 2) (.N 12)] (.L 1 (.A (.V 1) (.V 2)) (.N 10000)) rfl htj hfl.2 hml) (den_var (zm 4 rfl rfl)) (b1.callT (gm 13 rfl) (argd3 (den_k 0) (den_var (zm 5 rfl rfl)) (den_divN (den_var (zm 5 rfl rfl)) (den_var (zm 11 rfl rfl)) (by exact lin [_] [.L 1 (.N 1) (.V 0)] (.T 1 (.N 0) (.V 0)) rfl hmb.1) (by exact lin [_, _] [.L 1 (.V 0) (.V 1), .L 1 (.V 1) (.N 6)] (.T 1 (.V 0) (.N 1073741824)) rfl hmb.2 hs2))) (con_range3 (by lia) (by lia)) (by decide +kernel))
                (rng_small _ (by exact lin [_] [.L 1 (.V 0) (.N 6)] (.T 1 (.V 0) (.N 7)) rfl hs2) _ (by exact lin [_, _] [.L 1 (.V 0) (.N 6), .L 1 (.V 1) (.V 0)] (.T 1 (.V 1) (.N 7)) rfl hs2 hdl)) (rng_div _ (by exact lin [_] [.L 1 (.V 0) (.N 6)] (.T 1 (.V 0) (.N 7)) rfl hs2) _ (by exact lin [_, _] [.L 1 (.V 0) (.N 6), .L 1 (.V 1) (.V 0)] (.T 1 (.V 1) (.N 7)) rfl hs2 hdl) hdd) (fun ob₂ s₄ P₄ F l₄ m₄ => sc_nil (then_next (sc_nil (turn_next (in4x4 (()) (((M₇.del ta).put sa ob).put la ob₂) _ P₄ (F.forget 6 6) ?_ ?_ ?_)))))
              · exact ((lx.mono l₂).mono l₃).mono l₄
              · rw [hSn]; unfold ringF; rw [if_neg (by rw [hnc]; exact Bool.false_ne_true)]
                have := m₃.keep (M' := (((M₇.del ta).put sa ob).put la ob₂)) (by simp [PMap.put, Ne.symm n1]) l₄
                rw [List.map_append, List.map_map]
                exact this
              · rw [hSn]; unfold ringF; rw [if_neg (by rw [hnc]; exact Bool.false_ne_true)]
                rw [List.map_append]
                unfold stepsN
                rw [List.map_map]
                have e : (iN ∘ fun x => x * (row.length / manyN row)) = fun i : Nat => PV.int (((0 : Nat) : Int) + (i : Nat) * ((row.length / manyN row : Nat) : Int)) := by
                  funext i; simp [iN, Int.natCast_mul]
                rw [e]
                exact m₄
      · have hnc : S.1.contains row = true := by simpa using hb
        refine sc_nil (then_next (sc_nil (turn_next (in4x4 (()) M X P (F.forget 6 6) lx ?_ ?_))))
        · rw [hSn]; unfold ringF; rw [if_pos hnc]; exact ms
        · rw [hSn]; unfold ringF; rw [if_pos hnc]; exact ml
    · (refine el0x3 hI ?_; clear hI; intro lx ms ml)
      rw [List.take_length] at ml
      (refine el1x3 (F.freezeL ml (x := "left") (zm 4 rfl rfl) (turned_zip F.nd (i := 4) rfl (.there (.there (.there (.there .here)))))) ?_; intro P₃ F₃ l₃ r₃)
      exact sc_ret F₃ (den_var (zm 4 rfl rfl)) fun v s' P' F' l r => F'.endsX r ((lx.mono l₃).mono l)
end
end
section
open PySem.W Builtin
section
variable {prog : Program} {w : World} {G : GC} {n : Nat} {A : Around} {W V : Addr → Prop} {s₀ : Shared} {P₀ : PMap} {env : Env} {sc : Scp} {xs : List Str} {M X P M' X' P' : PMap} {σ σ' τ : Sto} {s s' : Shared} {rs : List Stmt} {Q : Flow → Shared → Prop}
noncomputable def DK {κ : Type} [DecidableEq κ] (knd : PySem.KeyKind prog w κ) (P : PMap) (r : List (κ × Int)) (o : Obj) : Prop := ∃ kvs, o.IsDictOf knd kvs ∧ Paired kvR kvs r
theorem den_dcomp {κ α : Type} [DecidableEq κ] (knd : PySem.KeyKind prog w κ) (out : List (κ × Int) → PV) (keyV : κ → PV) (enc : α → PV) (l : List α) (kf : α → κ) (g : α → Int) (ns : List Str)
    (hout : ∀ P D o kvs r, P D = some o → o.IsDictOf knd kvs → Paired kvR kvs r → (D == sysModules) = false → Rp prog w P (.ref D) (out r)) (hkey : ∀ P v k, Rp prog w P v (keyV k) → knd.is k v = true)
    {kx vx iter : Expr} {x : Str} {px : Pos} {scope : Scope} {pos : Pos} {src : PV}
    (di : Den prog w G n sc σ iter src) (hi : Its prog w src (l.map enc)) (hc : Cap σ sc scope.names τ)
    (hK : ∀ d ∈ l, Den prog w G n scope.names ((x, some (enc d)) :: τ) kx (keyV (kf d))) (hV : ∀ d ∈ l, Den prog w G n scope.names ((x, some (enc d)) :: τ) vx (.int (g d))) (hsz : l.length ≤ 1000) (hns : τ.map (·.1) = ns) (hok : compOk scope x ns = true)
    (hs : ∀ env x, foldedSetIterable iter env x = pure x := by intro _ _; rfl) :
    Den prog w G n sc σ (.DictComp kx vx [⟨.Name x px, iter, [], 0⟩] scope pos) (out (l.foldl (fun d a => putK d (kf a) (g a)) [])) := .mk fun A P env s C => by
  simp only [compOk, Bool.and_eq_true, decide_eq_true_eq, beq_iff_eq] at hok
  (refine el0x2 hok ?_; clear hok; intro hZ; refine el0x2 hZ ?_; clear hZ; intro hZ; refine el0x2 hZ ?_; clear hZ; intro hZ; refine el0x2 hZ ?_; clear hZ; intro k1 k2; intro k3; intro k4; intro k5)
  have hT : ∀ pv, Turned x pv τ ((x, some pv) :: τ) := fun pv => turned_push (by rw [hns]; exact k5)
  have hlen : ∀ (m : List α) (d : List (κ × Int)), (m.foldl (fun d a => putK d (kf a) (g a)) d).length ≤ d.length + m.length := by
    intro m
    induction m with
    | nil => intro d; simp
    | cons a m ih => intro d; rw [List.foldl_cons, List.length_cons]; have := ih (putK d (kf a) (g a)); have := putK_len d (kf a) (g a); lia
  show wpAny _ A (comprehension (.DictComp kx vx [⟨.Name x px, iter, [], 0⟩] scope pos) scope env (firstIterPos [⟨.Name x px, iter, [], 0⟩] pos) newDict (firstAsync [⟨.Name x px, iter, [], 0⟩]) (firstIter [⟨.Name x px, iter, [], 0⟩] env)) _ _ s
  refine coreK (ρ := List (κ × Int)) (K := DK knd) (use := none) (rs := fun j => (l.take j).foldl (fun d a => putK d (kf a) (g a)) []) (out := out) (W := []) (X := fun _ _ => True) (xs := [x]) (p := fun _ => true) (σt := fun d => (x, some (enc d)) :: τ)
    (act := fun D cenv => (do
            let kv ← eval kx cenv
            let vv ← holding [kv] (eval vx cenv)
            standAt { kx.pos with endLine := vx.pos.endLine, endCol := vx.pos.endCol }
            holding [kv, vv] (dictSet D kv vv)))
    rfl rfl (fun s Q h => wpAny_newObj_type (hd := by size_fits) (h _ rfl fun P => (in1x2 ([]) (in2x5 (#[]) (0) (in0x3 rfl rfl rfl) rfl (fun _ he => by simp at he) Pairs.nil List.nodup_nil) (.nil)))) (fun _ _ _ _ _ k => k) (fun D cenv it => compTurn_dict _ _ _ _ _ _ _ _ _ _) (fun _ _ _ _ _ _ h => h)
    (fun D I cenv R s h0 h => codeAny_compStart_dict h0 h) (fun P D o r k nd hD => by
      (refine el1x2 k ?_; clear k; intro kvs hk hp)
      exact hout _ _ o kvs r (PMap.put_self _ _ _) hk hp (by rw [beq_eq_false_iff_ne]; exact nd)) di hi k1 k2 hc (by simpa using k3) (fun d hd => asg_name (by simpa using k4) (hT _)) (fun d q hq => List.mem_cons_of_mem _ hq) (fun d hd => .inl ⟨rfl, rfl⟩) (fun _ _ _ _ _ => trivial) (fun j d hd hb => nomatch hb)
    (fun j d hd _ P₀ h₀ cenv D P s _ c hown _ _ => ?_) C trivial (by simp) (by simp) (by simp) (fun v h' tk P' k l' b gr r _ _ => (in3x6 h' tk P' rfl k.keep l' b gr (by rw [List.take_length] at r; exact r))) (fun _ _ _ _ _ _ _ _ _ _ _ _ e => by exact no1 e) hs
  have hdl := List.mem_of_getElem? hd
  refine wpAny_bind ((hK d hdl).go c.cx fun kv h₁ t₁ P₁ C₁ k₁ l₁ f₁ r₁ => ?_)
  refine wpAny_bind (wpAny_holding ((hV d hdl).go C₁ fun vv h₂ t₂ P₂ C₂ k₂ l₂ f₂ r₂ => ?_))
  refine wpAny_bind (wpAny_standAt (wpAny_holding ?_))
  have c₁ := c.move (tk := t₁) (KeepX.of (W := []) k₁) (by simp) (by simp) (by simp) (by simp) l₁ C₁.sub f₁
  have c₂ := c₁.move (tk := t₂) (KeepX.of (W := []) k₂) (by simp) (by simp) (by simp) (by simp) l₂ C₂.sub f₂
  (refine el1x2 (c₂.acc) ?_; intro ob hob hZ; refine el1x2 hZ ?_; clear hZ; intro kvs hk hp)
  cases r₂ with
  | int i tk =>
  have hl := paired_len hp
  have hl2 := hlen (l.take j) []
  have hl3 : (l.take j).length ≤ 1000 := by rw [List.length_take]; lia
  simp only [List.length_nil] at hl2
  refine wpAny_dictSet_pairs (knd := knd) (k := kf d) (hkey _ _ _ r₁) (Heap.dictOf_iff.mpr (in1x2 ob hob hk)) (fun h' hD' hs' => ?_) (by unfold sizeLine; exact lin [_, _, _] [.E 1 (.V 0) (.V 1), .L 1 (.V 1) (.A (.N 0) (.V 2)), .L 1 (.V 2) (.N 1000)] (.L 1 (.V 0) (.N 16777216)) rfl hl hl2 hl3)
  (refine el1x2 (Heap.dictOf_iff.mp hD') ?_; intro o' ho' d')
  have c₃ := c₂.acc' (tk := t₂ + 1) (fun b o hb e => hs'.extBut b o hb e) ho' (r' := putK ((l.take j).foldl (fun d a => putK d (kf a) (g a)) []) (kf d) (g d)) (in1x2 _ d' (stored_paired hp _ _ _))
  refine (in3x6 h' (t₂ + 1) P₂ rfl ?_ trivial (l₁.trans l₂) (f₁.trans f₂ k₁) (fun a o e => ?_))
  · have e : (l.take (j + 1)).foldl (fun d a => putK d (kf a) (g a)) [] = putK ((l.take j).foldl (fun d a => putK d (kf a) (g a)) []) (kf d) (g d) := by
      rw [List.take_add_one, hd, Option.toList_some, List.foldl_append]; rfl
    simp only [e]
    exact c₃
  · by_cases q : a = D
    · subst q; exact (in1x2 _ ho' (fun n => absurd rfl n))
    · exact (in1x2 o (hs'.extBut a o q (k₂ a o (k₁ a o e))) (fun _ _ _ => rfl))
theorem den_dcompI {α : Type} (enc : α → PV) (l : List α) (kf g : α → Int) (ns : List Str) {kx vx iter : Expr} {x : Str} {px : Pos} {scope : Scope} {pos : Pos} {src : PV}
    (di : Den prog w G n sc σ iter src) (hi : Its prog w src (l.map enc)) (hc : Cap σ sc scope.names τ)
    (hK : ∀ d ∈ l, Den prog w G n scope.names ((x, some (enc d)) :: τ) kx (.int (kf d))) (hV : ∀ d ∈ l, Den prog w G n scope.names ((x, some (enc d)) :: τ) vx (.int (g d))) (hsz : l.length ≤ 1000) (hns : τ.map (·.1) = ns) (hok : compOk scope x ns = true)
    (hs : ∀ env x, foldedSetIterable iter env x = pure x := by intro _ _; rfl) :
    Den prog w G n sc σ (.DictComp kx vx [⟨.Name x px, iter, [], 0⟩] scope pos) (.dI (l.foldl (fun d a => putK d (kf a) (g a)) [])) :=
  den_dcomp (PySem.intKind prog w) .dI .int enc l kf g ns (fun P D o kvs r h1 h2 h3 h4 => .dI h1 h2 h3 h4) (fun P v k r => by (refine Rp.int_el r ?_; clear r; intro _ h; subst h); simp [PySem.intKind, Value.isInt]) di hi hc hK hV hsz hns hok hs
theorem den_dcompS {α : Type} (enc : α → PV) (l : List α) (kf : α → Str) (g : α → Int) (ns : List Str) {kx vx iter : Expr} {x : Str} {px : Pos} {scope : Scope} {pos : Pos} {src : PV}
    (di : Den prog w G n sc σ iter src) (hi : Its prog w src (l.map enc)) (hc : Cap σ sc scope.names τ)
    (hK : ∀ d ∈ l, Den prog w G n scope.names ((x, some (enc d)) :: τ) kx (.str (kf d))) (hV : ∀ d ∈ l, Den prog w G n scope.names ((x, some (enc d)) :: τ) vx (.int (g d))) (hsz : l.length ≤ 1000) (hns : τ.map (·.1) = ns) (hok : compOk scope x ns = true)
    (hs : ∀ env x, foldedSetIterable iter env x = pure x := by intro _ _; rfl) :
    Den prog w G n sc σ (.DictComp kx vx [⟨.Name x px, iter, [], 0⟩] scope pos) (.dS (l.foldl (fun d a => putK d (kf a) (g a)) [])) :=
  den_dcomp (PySem.strKind prog w) .dS .str enc l kf g ns (fun P D o kvs r h1 h2 h3 h4 => .dS h1 h2 h3 h4) (fun P v k r => by (refine Rp.str_el r ?_; clear r; intro _ h; subst h); simp [PySem.strKind, Value.isStrOf]) di hi hc hK hV hsz hns hok hs
theorem deno_listDict {l : DctS} {x : Str} {p pos : Pos} {e : Expr} (bl : Gb G x (.type "list")) (hs : (x, NameKind.globalImplicit) ∈ sc) (D : Den prog w G n sc σ e (.dS l)) (hd : (x == ("__debug__" : Str)) = false) (hz : l.length ≤ 1000)
    (hst : ∀ env, starEach [e] env = (false, eval e env) :: starEach [] env := by intro _; rfl) :
    DenO prog w G n sc σ (.Call (.Name x p) [e] [] pos) (l.map fun q => .str q.1) := .mk fun A P env s Q C hQ => by
  refine wpAny_Call_Name_kw ((den_blt (x := x) (v := .type "list") hs bl.1 bl.2 hd).go C fun v h₁ t₁ P₁ C₁ k₁ l₁ f₁ r₁ => ?_)
  (have h := Rp.raw_inv r₁; clear r₁; subst h)
  refine PyProof.Rows.callWith_type (by rw [hst]; rfl) ?_
  rw [hst]
  refine evalArgs_plain (spliced_cons (D.go C₁ fun v h₂ t₂ P₂ C₂ k₂ l₂ f₂ r₂ => spliced_nil ?_))
  obtain ⟨a, o, kvs, rfl, ea, dd, pr, m⟩ := r₂.dS_inv
  obtain ⟨es, ep, hex, hdat, hk, hpr, hn⟩ := dd
  have hAt : h₂.DictAt (PySem.strKind prog w) a kvs ep := (in2x6 o es (C₂.sub _ _ ea) hex hdat hk hpr hn)
  have hl := paired_len pr
  refine kdl_call (kdl_dict (knd := PySem.strKind prog w) (kvs := kvs) (ep := ep) m) C₂.room.hd hAt (by unfold sizeLine; exact lin [_, _] [.L 1 (.V 0) (.N 1000), .E 1 (.V 1) (.V 0)] (.L 1 (.V 1) (.N 16777216)) rfl hz hl) fun h' tk acc' c' hkk hS hacc => ?_
  have fz : h₂.get? h₂.objs.size = none := fresh_size (Nat.le_refl _)
  refine hQ h₂.objs.size acc' c' h' tk P₂ (C₂.next (tk := tk) hkk (PMap.le_refl _) (C₂.sub.keep hkk) (Grew.refl _ _)) ((k₁.trans k₂).trans hkk) (l₁.trans l₂) (f₁.trans f₂ k₁) ?_ (C₂.sub.fresh fz) hS ?_
  · cases q : s.heap.get? h₂.objs.size with
    | none => rfl
    | some o => rw [k₂ _ _ (k₁ _ _ q)] at fz; exact no2 fz
  · have gen : ∀ (kvs : List (Str × Value)) (l : DctS) (vs : List Value), Paired kvR kvs l → vs.length = kvs.length → (∀ (j : Nat) v, vs[j]? = some v → ∃ k x, kvs[j]? = some (k, x) ∧ (PySem.strKind prog w).is k v = true) → RpL prog w P₂ vs (l.map fun q => .str q.1) := by
      intro kvs l vs hp
      induction hp generalizing vs with
      | nil => intro hl _; cases vs with
        | nil => exact .nil
        | cons v vs => simp at hl
      | cons h r ih => intro hl hv; cases vs with
        | nil => simp at hl
        | cons v vs =>
          refine .cons ?_ (ih vs (by simpa using hl) fun j u hj => by simpa using hv (j + 1) u (by simpa using hj))
          (refine el2x2 (hv 0 v rfl) ?_; intro k x e his)
          simp only [List.getElem?_cons_zero, Option.some.injEq] at e
          have hk1 := h.1
          rw [e] at hk1
          (refine el1x1 (Value.isStrOf_shape his) ?_; intro t hZ; subst hZ)
          simp only at hk1 ⊢
          rw [← hk1]
          exact .str _ _
    exact gen kvs l _ pr (by simpa using hacc.1) fun j v hj => hacc.2 j v (by rw [← Array.getElem?_toList]; exact hj)
theorem den_callC {x : Str} {p pos : Pos} {es : List Expr} {ds : List PV} {C : Addr} {mN : Str → Option Value} {r : PV} (c : ClsF G.K C mN) (df : Den prog w G n sc σ (.Name x p) (.raw (.ref C))) (da : Argd prog w G n sc σ es ds) (cc : Con prog w G n (.ref C) ds r) :
    Den prog w G n sc σ (.Call (.Name x p) es [] pos) r := .mk fun A P env s Cx₀ => by
  refine wpAny_Call_Name_kw (df.go Cx₀ fun v h₁ t₁ P₁ C₁ k₁ l₁ f₁ r₁ => ?_)
  (have h := Rp.raw_inv r₁; clear r₁; subst h)
  (refine el0x4 c ?_; clear c; intro hZ; obtain ⟨nm, q, N, bs, sn, sub, col, dd, k0, k1, k2, k3, k5, hC', hN⟩ := hZ; intro n1 n2 n3)
  obtain ⟨oC, cd, hC, hoc, hcd⟩ : ∃ o cd, G.K C = some o ∧ o.cls = Value.type "type" ∧ o.data = Data.cls cd := (in2x3 _ _ hC' rfl rfl)
  obtain ⟨a1, a2⟩ := da.run A P₁ env _ pos (.ref C) (fun x' s₃ => (s₃.heap.get? C = some oC ∧ oC.cls = Value.type "type" ∧ oC.data = Data.cls cd) ∧ wpAny (model prog w) A (call (.ref C) ([] ++ x'.pos) x'.kw) (fun v s' => Ends prog w P s v r s') (fun _ _ => False) s₃) C₁
    fun vs h₃ t₃ P₃ C₃ k₃ l₃ f₃ r₃ => by
      refine ⟨(in0x3 (C₃.sub _ _ (C₃.base _ _ hC)) hoc hcd), ?_⟩
      exact wpAny_mono (cc A P₃ _ vs C₃.ok C₃.base C₃.sub C₃.room r₃) (fun v s₄ e => Ends.back k₁ l₁ f₁ (Ends.back (s := { s with heap := h₁, toks := t₁ }) k₃ l₃ f₃ e)) fun _ _ q => q
  exact callWith_class a1 a2
end
end
section
open PySem.W Builtin
open AutoSeq1 (wpAny_loadPart')
theorem rich_lt {prog : Program} {w : World} {A : Around} {E : Value → Shared → Prop} {s : Shared} {a b : Int} {t u : Tok} {Q : Value → Shared → Prop} (h : Q (.bool (decide (a < b))) s) : wpAny (model prog w) A (richCompare .Lt (.int a t) (.int b u)) Q E s := PySem.P.lt_int h
theorem tup_lt (l b : Addr) (n n2 : Nat) (x y z v : Int) (t1 t2 t3 t4 : Tok) :
    Meets (Builtin.«tuple.__lt__» ⟨[.ref l, .ref b], []⟩)
      (fun A R s => s.heap.get? l = some { cls := .type "tuple", data := .seq #[.int x t1, .int y t2] n } ∧ s.heap.get? b = some { cls := .type "tuple", data := .seq #[.int z t3, .int v t4] n2 } ∧
        ∀ tk, R (.ok (.ret (.bool (decide (x < z ∨ (x = z ∧ y < v)))))) { s with toks := tk }) :=
  .of_wp fun prog w A R s h => by
    obtain ⟨hp, g, d, tk, os⟩ := s; (refine el0x3 h ?_; clear h; intro hl hb h)
    have f2 := AutoSeq1.sub_tuple_tuple
    wp_walk using wpAny_loadPart' hl, wpAny_loadPart' hb, wpAny_eqBool_int
    by_cases h1 : x = z
    · subst h1
      rw [if_neg (by simp)]
      wp_walk using wpAny_eqBool_int
      by_cases h2 : y = v
      · subst h2
        rw [if_neg (by simp)]
        wp_walk using wpAny_eqBool_int
        have e : decide (x < x ∨ (x = x ∧ y < y)) = false := by simp
        have := h tk
        rw [e] at this
        exact (in1x2 _ rfl this)
      · rw [if_pos (by simpa using h2)]
        wp_walk using rich_lt
        have e : decide (x < x ∨ (x = x ∧ y < v)) = decide (y < v) := by simp
        have := h tk
        rw [e] at this
        exact (in1x2 _ rfl this)
    · rw [if_pos (by simpa using h1)]
      wp_walk using rich_lt
      have e : decide (x < z ∨ (x = z ∧ y < v)) = decide (x < z) := by simp [h1]
      have := h tk
      rw [e] at this
      exact (in1x2 _ rfl this)
theorem rich_gt {prog : Program} {w : World} {A : Around} {E : Value → Shared → Prop} {s : Shared} {a b : Int} {t u : Tok} {Q : Value → Shared → Prop} (h : Q (.bool (decide (a > b))) s) : wpAny (model prog w) A (richCompare .Gt (.int a t) (.int b u)) Q E s := PySem.P.gt_int h
theorem tup_gt (l b : Addr) (n n2 : Nat) (x y z v : Int) (t1 t2 t3 t4 : Tok) :
    Meets (Builtin.«tuple.__gt__» ⟨[.ref l, .ref b], []⟩)
      (fun A R s => s.heap.get? l = some { cls := .type "tuple", data := .seq #[.int x t1, .int y t2] n } ∧ s.heap.get? b = some { cls := .type "tuple", data := .seq #[.int z t3, .int v t4] n2 } ∧
        ∀ tk, R (.ok (.ret (.bool (decide (x > z ∨ (x = z ∧ y > v)))))) { s with toks := tk }) :=
  .of_wp fun prog w A R s h => by
    obtain ⟨hp, g, d, tk, os⟩ := s; (refine el0x3 h ?_; clear h; intro hl hb h)
    have f2 := AutoSeq1.sub_tuple_tuple
    wp_walk using wpAny_loadPart' hl, wpAny_loadPart' hb, wpAny_eqBool_int
    by_cases h1 : x = z
    · subst h1
      rw [if_neg (by simp)]
      wp_walk using wpAny_eqBool_int
      by_cases h2 : y = v
      · subst h2
        rw [if_neg (by simp)]
        wp_walk using wpAny_eqBool_int
        have e : decide (x > x ∨ (x = x ∧ y > y)) = false := by simp
        have := h tk
        rw [e] at this
        exact (in1x2 _ rfl this)
      · rw [if_pos (by simpa using h2)]
        wp_walk using rich_gt
        have e : decide (x > x ∨ (x = x ∧ y > v)) = decide (y > v) := by simp
        have := h tk
        rw [e] at this
        exact (in1x2 _ rfl this)
    · rw [if_pos (by simpa using h1)]
      wp_walk using rich_gt
      have e : decide (x > z ∨ (x = z ∧ y > v)) = decide (x > z) := by simp [h1]
      have := h tk
      rw [e] at this
      exact (in1x2 _ rfl this)
section
variable {prog : Program} {w : World}
theorem pair_inv {P : PMap} {u : Value} {a b : Int} (r : Rp prog w P u (.tuple [.int a, .int b])) : ∃ l n t1 t2, u = .ref l ∧ P l = some { cls := .type "tuple", data := .seq #[.int a t1, .int b t2] n } := by
  (refine el3x3 (r.tuple_inv) ?_; intro l vs n hZ; subst hZ; intro e rs)
  obtain ⟨vs⟩ := vs
  (refine RpL.el2 rs ?_; clear rs; intro _ _ h r1 r2; subst h)
  (refine Rp.int_el r1 ?_; clear r1; intro _ h; subst h); (refine Rp.int_el r2 ?_; clear r2; intro _ h; subst h)
  exact (in4x2 l n _ _ rfl e)
theorem cmp_ltP {a b c d : Int} : Cmp prog w .Lt (.tuple [.int a, .int b]) (.tuple [.int c, .int d]) (decide (a < c ∨ (a = c ∧ b < d))) := fun A P s u v Q hh hu bs ru rv hq => by
  (refine el4x2 (pair_inv ru) ?_; intro l n t1 t2 hZ; subst hZ; intro e1)
  (refine el4x2 (pair_inv rv) ?_; intro m n2 t3 t4 hZ; subst hZ; intro e2)
  exact richCompare_meets_room (op := .Lt) (in1x2 _ (bs _ _ e1) rfl) (in1x2 _ (bs _ _ e2) rfl) PySem.F.slot_tuple_lt PySem.F.entry_tuple_lt (PySem.F.args_tuple_lt_2 _ _) (tup_lt l m n n2 a b c d t1 t2 t3 t4) (in0x3 (bs _ _ e1) (bs _ _ e2) (fun tk => ⟨nofun, hq tk⟩)) (by exact lin [_, _] [.T 1 (.A (.V 0) (.N 80)) (.V 1)] (.T 1 (.V 0) (.V 1)) rfl hu)
theorem cmp_gtP {a b c d : Int} : Cmp prog w .Gt (.tuple [.int a, .int b]) (.tuple [.int c, .int d]) (decide (a > c ∨ (a = c ∧ b > d))) := fun A P s u v Q hh hu bs ru rv hq => by
  (refine el4x2 (pair_inv ru) ?_; intro l n t1 t2 hZ; subst hZ; intro e1)
  (refine el4x2 (pair_inv rv) ?_; intro m n2 t3 t4 hZ; subst hZ; intro e2)
  exact richCompare_meets_room (op := .Gt) (in1x2 _ (bs _ _ e1) rfl) (in1x2 _ (bs _ _ e2) rfl) PySem.F.slot_tuple_gt PySem.F.entry_tuple_gt (PySem.F.args_tuple_gt_2 _ _) (tup_gt l m n n2 a b c d t1 t2 t3 t4) (in0x3 (bs _ _ e1) (bs _ _ e2) (fun tk => ⟨nofun, hq tk⟩)) (by exact lin [_, _] [.T 1 (.A (.V 0) (.N 80)) (.V 1)] (.T 1 (.V 0) (.V 1)) rfl hu)
end
end
section
open Builtin
theorem mul_tx (l : List Nat) (k : Nat) : Txt.mul (tx l) ((k : Nat) : Int) = tx (List.replicate k l).flatten := by
  have e : (⟨(List.replicate k (tx l).cps).foldl (· ++ ·) #[]⟩ : Str) = tx (List.replicate k l).flatten := by
    unfold tx
    congr 1
    apply Array.toList_inj.mp
    have : ∀ (m : Nat) (acc : Array Nat), ((List.replicate m l.toArray).foldl (· ++ ·) acc).toList = acc.toList ++ (List.replicate m l).flatten := by
      intro m
      induction m with
      | zero => intro acc; simp
      | succ m ih => intro acc; rw [List.replicate_succ, List.foldl_cons, ih, List.replicate_succ, List.flatten_cons]; simp
    rw [this]; simp
  unfold Txt.mul
  by_cases h0 : k = 0
  · subst h0; rfl
  · rw [if_neg (by lia)]
    split
    · rename_i h
      rw [← e]
      simp only [Bool.or_eq_true, beq_iff_eq] at h
      rcases h with h | h
      · obtain rfl : k = 1 := by lia
        simp [tx]
      · have hl : l = [] := by rw [tx_len] at h; exact List.length_eq_zero_iff.mp h
        subst hl
        rw [e]
        have : (List.replicate k ([] : List Nat)).flatten = [] := by
          induction k with
          | zero => rfl
          | succ k ih => rw [List.replicate_succ, List.flatten_cons]; simp
        rw [this]
    · rw [show ((k : Nat) : Int).toNat = k by simp]; exact e
section
variable {prog : Program} {w : World} {G : GC} {n : Nat} {A : Around} {W V : Addr → Prop} {s₀ : Shared} {P₀ : PMap} {env : Env} {sc : Scp} {xs : List Str} {M X P M' X' P' : PMap} {σ σ' τ : Sto} {s s' : Shared} {rs : List Stmt} {Q : Flow → Shared → Prop}
theorem Fn.grow (F : Fn prog w G n A W V s₀ P₀ env sc xs M X P σ s) (l : PMap.le P P') (b : Sub P' s.heap) (g : ∀ c o, P' c = some o → P c = some o ∨ (s₀.heap.get? c = none ∧ M c = none ∧ X c = none ∧ env.locals ≠ c ∧ ∀ p ∈ env.cells, p.2 ≠ c)) : Fn prog w G n A W V s₀ P₀ env sc xs M X P' σ s := by
  have C := F.cx
  have nn : ∀ {c : Addr}, P c = none → (M c ≠ none ∨ X c ≠ none ∨ env.locals = c ∨ ∃ p ∈ env.cells, p.2 = c) → P' c = none := fun {c} h1 h2 => by
    cases q : P' c with
    | none => rfl
    | some o =>
      rcases g c o q with z | ⟨z1, z2, z3, z4, z5⟩
      · rw [h1] at z; exact no1 z
      · rcases h2 with y | y | y | ⟨p, hp, y⟩
        · exact absurd z2 y
        · exact absurd z3 y
        · exact absurd y z4
        · exact absurd y (z5 p hp)
  refine { F with cx := ⟨C.ok, C.base.trans l, b, C.act, ⟨nn C.off.1 (.inr (.inr (.inl rfl))), fun p hp => nn (C.off.2 p hp) (.inr (.inr (.inr (in1x2 p hp rfl))))⟩, C.glob, C.blt, C.kl, fun x pv hx => let ⟨d, v, y, r⟩ := C.vars x pv hx; ⟨d, v, y, r.mono l⟩, C.room⟩, le := F.le.trans l, grew := fun c o e => ?_, disM := fun c o e => nn (F.disM c o e) (.inl (by rw [e]; simp)), disX := fun c o e => nn (F.disX c o e) (.inr (.inl (by rw [e]; simp))) }
  rcases g c o e with z | z
  · exact F.grew c o z
  · exact .inr (.inr z.1)
theorem pop_evalC {a : Addr} {vs : Array Value} {k : Nat} {l : List (List Nat)} {i : Nat} {t : List Nat} {y : Str} {yp ap cp : Pos} {e : Expr} {τ' : Sto} {Q : Value → Shared → Prop} (C : Cx prog w G n A P env sc τ s) (hS : s.heap.get? a = some (lobj vs k)) (nP : P a = none) (r : RpL prog w P vs.toList (l.map sV)) (hx : (y, some (.raw (.ref a))) ∈ τ) (T : Turned y (.list (l.map sV)) τ τ')
    (De : Den prog w G n sc τ' e (iN i)) (ht : l[i]? = some t) (hz : l.length ≤ 1000)
    (hq : ∀ v h' tk vs' k', Cx prog w G n A P env sc τ { s with heap := h', toks := tk } → (∀ b o, b ≠ a → s.heap.get? b = some o → h'.get? b = some o) → h'.get? a = some (lobj vs' k') → RpL prog w P vs'.toList ((l.eraseIdx i).map sV) → Rp prog w P v (sV t) → Sub P h' → Q v { s with heap := h', toks := tk })
    (hb : ∀ env t, attributeBase (.Name y yp) "pop" env t = t := by intros; rfl) (hm : ∀ env, methodCallForm 1 (backTo cp (starEach [e] env)) [] = true := by intros; rfl) (hp : (ap.endLine == cp.line) = true := by rfl)
    (he : ∀ env, starEach [e] env = (false, eval e env) :: starEach [] env := by intro _; rfl) :
    wpAny (model prog w) A (eval (.Call (.Attribute (.Name y yp) "pop" ap) [e] [] cp) env) Q (fun _ _ => False) s := by
  refine MethodCall_ ((den_var hx).go C fun v h₁ t₁ P₁ C₁ k₁ l₁ f₁ r₁ => ?_) (attrCall_eq (hb env _) (hm env) hp)
  (have h := Rp.raw_inv r₁; clear r₁; subst h)
  have C₁ : Cx prog w G n A P env sc τ { s with heap := h₁, toks := t₁ } := C.next k₁ (PMap.le_refl _) (C.sub.keep k₁) (Grew.refl _ _)
  have hS₁ := k₁ _ _ hS
  refine getMethod_builtin (T := "list") (in1x2 _ hS₁ rfl) PySem.F.plainAttrs_list PySem.F.slot_list_pop PySem.F.type_list_pop (fun x hx => by (have h := Value.ref.inj hx; clear hx; subst h); exact (in1x2 _ hS₁ rfl)) (callWith_builtin (by rw [he]; rfl) ?_)
  rw [he]
  refine evalArgs_plain (spliced_cons (De.go (C₁.borrow hS₁ nP r hx T) fun v h₂ t₂ P₂ C₂ k₂ l₂ f₂ r₂ => spliced_nil ?_))
  have C₃ : Cx prog w G n A P env sc τ { s with heap := h₂, toks := t₂ } := C₁.next k₂ (PMap.le_refl _) (C₁.sub.keep k₂) (Grew.refl _ _)
  have hS₂ := k₂ _ _ hS₁
  have hl := r.length
  rw [Array.length_toList, List.length_map] at hl
  have hi : i < l.length := (List.getElem?_eq_some_iff.mp ht).1
  unfold iN at r₂
  (refine Rp.int_el r₂ ?_; clear r₂; intro tk h; subst h)
  have hu : vs[i]? = some vs[i] := Array.getElem?_eq_getElem (by exact lin [_, _, _] [.Q 1 (.V 0) (.V 1), .T 1 (.V 2) (.V 1)] (.T 1 (.V 2) (.V 0)) rfl hl hi)
  have hzz : vs.size ≤ sizeLine := by unfold sizeLine; exact lin [_, _] [.L 1 (.V 0) (.N 1000), .E 1 (.V 1) (.V 0)] (.L 1 (.V 1) (.N 16777216)) rfl hz hl
  generalize hui : vs[i] = u at hu
  generalize hj : ((i : Nat) : Int) = j
  have hfit : Builtin.List.listFitsIndex j = true := fitsIndex_of (by lia) (Int.lt_of_lt_of_le (show j < 1000 by lia) (by decide))
  have hidx : seqIndex? j vs.size = some i := by rw [seqIndex_of (by lia) (by lia)]; congr 1; lia
  have hmeets := MeetsSeq.list_pop_at a vs k j tk i u hfit hidx hu hzz
  refine call_meets PySem.F.slot_list_pop (in1x2 _ hS₂ rfl) PySem.F.entry_list_pop (PySem.F.args_list_pop_2 _ _) hmeets ⟨hS₂, ?_⟩
  have hme : Obj.mapSeq (fun xs => xs.eraseIdxIfInBounds i) (lobj vs k) = lobj (vs.eraseIdxIfInBounds i) (if (vs.eraseIdxIfInBounds i).size == vs.size then k else k + 1) := by rfl
  have hg : (h₂.update a (Obj.mapSeq fun xs => xs.eraseIdxIfInBounds i)).get? a = some (lobj (vs.eraseIdxIfInBounds i) (if (vs.eraseIdxIfInBounds i).size == vs.size then k else k + 1)) := by
    rw [Heap.get?_update_self _ hS₂ (by rw [hme]; rfl), hme]
  have hdl : (vs.eraseIdxIfInBounds i).toList = vs.toList.eraseIdx i := by
    obtain ⟨l⟩ := vs
    simp
  have ho : ∀ b o, b ≠ a → h₂.get? b = some o → (h₂.update a (Obj.mapSeq fun xs => xs.eraseIdxIfInBounds i)).get? b = some o := fun b o hb e => (Heap.SameBut.update ..).extBut b o hb e
  have nL : env.locals ∉ [a] := fun q => by
    simp at q
    (refine el4x3 (C.act.ns) ?_; intro m o1 es ep ho hd _); rw [q, hS] at ho; (have h := Option.some.inj ho; clear ho; subst h); cases hd
  have nC : ∀ p ∈ env.cells, p.2 ∉ [a] := fun p hp q => by
    simp at q
    (refine el2x2 (C.act.cell p.1 p.2 hp) ?_; intro v o1 ho hd); rw [q, hS] at ho; (have h := Option.some.inj ho; clear ho; subst h); cases hd
  have bs : Sub P (h₂.update a (Obj.mapSeq fun xs => xs.eraseIdxIfInBounds i)) := fun b o e => ho b o (fun q => by rw [q, nP] at e; exact no1 e) (C₃.sub b o e)
  have C₄ := C₃.nextX (T := [a]) (tk := t₂) (h' := h₂.update a (Obj.mapSeq fun xs => xs.eraseIdxIfInBounds i)) (fun b o e => by
    by_cases q : b = a
    · subst q; exact (in1x2 _ hg (fun z => absurd (by simp) z))
    · exact (in1x2 o (ho b o q e) (fun _ => rfl))) nL nC (PMap.le_refl _) bs (Grew.refl _ _)
  refine hq _ _ _ _ _ C₄ (fun b o hb e => ho b o hb (k₂ _ _ (k₁ _ _ e))) hg ?_ ?_ bs
  · rw [hdl]
    have : ∀ (l : List (List Nat)) (vs : List Value) (i : Nat), RpL prog w P vs (l.map sV) → RpL prog w P (vs.eraseIdx i) ((l.eraseIdx i).map sV) := by
      intro l
      induction l with
      | nil => intro vs i h; cases h; exact .nil
      | cons b l ih => intro vs i h; cases h with
        | cons h r => cases i with
          | zero => exact r
          | succ i => exact .cons h (ih _ i r)
    exact this l _ i r
  · (refine el1x2 (r.get (k := i) (d := sV t) (by rw [List.getElem?_map, ht]; rfl)) ?_; intro v' hv' rv')
    rw [Array.getElem?_toList, hu] at hv'
    (have h := Option.some.inj hv'; clear hv'; subst h); exact rv'
theorem Fn.pops {a : Addr} {γ : Type} {enc : γ → PV} {items : List γ} {toks : List (List Nat)} {ls : Nat → List (List Nat)} {ix : γ → List (List Nat) → Nat} {y x : Str} {px yp ap cp pos : Pos} {iter e : Expr} {scope : Scope} {src : PV} {ns : List Str} {τ' : γ → List (List Nat) → Sto} {Q : Value → Shared → Prop}
    (F : Fn prog w G n A W V s₀ P₀ env sc xs M X P σ s) (m : MList prog w M P a ((ls 0).map sV))
    (hl : toks.length = items.length) (hz : ∀ j, (ls j).length ≤ 1000) (hg : ∀ j d t, items[j]? = some d → toks[j]? = some t → (ls j)[ix d (ls j)]? = some t ∧ ls (j + 1) = (ls j).eraseIdx (ix d (ls j)))
    (di : Den prog w G n sc σ iter src) (hi : Its prog w src (items.map enc)) (hc : Cap σ sc scope.names τ) (hy : (y, some (.raw (.ref a))) ∈ τ) (hτ : ∀ d l, Turned y (.list (l.map sV)) ((x, some (enc d)) :: τ) (τ' d l)) (De : ∀ j d, items[j]? = some d → Den prog w G n scope.names (τ' d (ls j)) e (iN (ix d (ls j))))
    (hsz : items.length ≤ 1000) (hns : τ.map (·.1) = ns) (hok : compOk scope x ns = true)
    (hQ : ∀ v s' ob P', Fn prog w G n A W V s₀ P₀ env sc xs (M.put a ob) X P' σ s' → PMap.le P P' → Rp prog w P' v (.list (toks.map sV)) → MList prog w (M.put a ob) P' a ((ls toks.length).map sV) → Q v s')
    (hb : ∀ env t, attributeBase (.Name y yp) "pop" env t = t := by intros; rfl) (hm : ∀ env, methodCallForm 1 (backTo cp (starEach [e] env)) [] = true := by intros; rfl) (hp : (ap.endLine == cp.line) = true := by rfl)
    (he : ∀ env, starEach [e] env = (false, eval e env) :: starEach [] env := by intro _; rfl)
    (hs : ∀ env x, foldedSetIterable iter env x = pure x := by intro _ _; rfl) :
    wpAny (model prog w) A (eval (.ListComp (.Call (.Attribute (.Name y yp) "pop" ap) [e] [] cp) [⟨.Name x px, iter, [], 0⟩] scope pos) env) Q (fun _ _ => False) s := by
  simp only [compOk, Bool.and_eq_true, decide_eq_true_eq, beq_iff_eq] at hok
  (refine el0x2 hok ?_; clear hok; intro hZ; refine el0x2 hZ ?_; clear hZ; intro hZ; refine el0x2 hZ ?_; clear hZ; intro hZ; refine el0x2 hZ ?_; clear hZ; intro k1 k2; intro k3; intro k4; intro k5)
  have hT : ∀ pv, Turned x pv τ ((x, some pv) :: τ) := fun pv => turned_push (by rw [hns]; exact k5)
  have hsl : (1000 : Nat) ≤ sizeLine := by unfold sizeLine; exact lin [] [] (.L 1 (.N 1000) (.N 16777216)) rfl
  (refine el2x2 m ?_; clear m; intro vs0 kk0 hM hr0)
  have zl : (items.zip toks).length = items.length := by rw [List.length_zip, hl, Nat.min_self]
  have zf : (items.zip toks).map (fun q => enc q.1) = items.map enc := by
    rw [show (fun q : γ × List Nat => enc q.1) = enc ∘ Prod.fst from rfl, ← List.map_map, List.map_fst_zip (by exact lin [_, _] [.Q 1 (.V 0) (.V 1)] (.L 1 (.V 1) (.V 0)) rfl hl)]
  have zs : (items.zip toks).map (fun q => sV q.2) = toks.map sV := by
    rw [show (fun q : γ × List Nat => sV q.2) = sV ∘ Prod.snd from rfl, ← List.map_map, List.map_snd_zip (by exact lin [_, _] [.E 1 (.V 0) (.V 1)] (.L 1 (.V 0) (.V 1)) rfl hl)]
  rw [eval_ListComp]
  refine comp_core (α := γ × List Nat) (use := none) (enc := fun q => enc q.1) (l := items.zip toks) (xs := [x]) (p := fun _ => true) (g := fun q => sV q.2) (σt := fun q => (x, some (enc q.1)) :: τ) (W := [a])
    (X := fun j h => ∃ vs k, h.get? a = some (lobj vs k) ∧ RpL prog w P vs.toList ((ls j).map sV))
    di (by rw [zf]; exact hi) k1 k2 hc (by simpa using k3) (fun d hd => asg_name (by simpa using k4) (hT _)) (fun d q hq => List.mem_cons_of_mem _ hq) (fun d hd => .inl ⟨rfl, rfl⟩) (fun j h h' hx kk => ?_) (fun j d h hd hf => nomatch hf) (fun j d hd _ A' P' cenv s' lP C' hx hW => ?_) (by exact lin [_, _, _] [.L 1 (.V 0) (.N 1000), .L 1 (.N 1000) (.V 1), .E 1 (.V 2) (.V 0)] (.L 1 (.V 2) (.V 1)) rfl hsz hsl zl) F.cx (in2x2 vs0 kk0 (F.muo _ _ hM) hr0) ?_ ?_ ?_ ?_ ?_ (fun _ _ _ _ _ _ _ _ _ _ _ _ e => by exact no1 e) hs
  · (refine el2x2 hx ?_; clear hx; intro vs k h1 h2)
    exact (in2x2 vs k (kk a (by simp) _ h1) h2)
  · (refine el2x2 hx ?_; clear hx; intro vs k h1 h2)
    have hdd : (items.zip toks)[j]? = some (d.1, d.2) := hd
    rw [List.getElem?_zip_eq_some] at hdd
    (refine el0x2 (hg j d.1 d.2 hdd.1 hdd.2) ?_; intro g1 g2)
    refine pop_evalC C' h1 (hW a (by simp)) (rpl_strs h2) (List.mem_cons_of_mem _ hy) (hτ d.1 (ls j)) (De j d.1 hdd.1) g1 (hz j) (fun v h' tk vs' k' C'' ho hg' rl rv bs => ?_) hb hm hp he
    refine (in3x7 h' tk P' rfl (fun b o e => ?_) (PMap.le_refl _) bs (Grew.refl _ _) rv ⟨ vs', k', hg', by rw [g2]; exact rpl_strs rl⟩)
    by_cases q : b = a
    · subst q; exact (in1x2 _ hg' (fun z => absurd (by simp) z))
    · exact (in1x2 o (ho b o q e) (fun _ => rfl))
  · intro q; simp at q
    have := F.offM.1; rw [q, hM] at this; exact no2 this
  · intro p hp q; simp at q
    have := F.offM.2 p hp; rw [q, hM] at this; exact no2 this
  · intro b hb; simp at hb; subst hb; rw [F.muo _ _ hM]; rfl
  · intro b hb; simp at hb; subst hb; exact F.disM _ _ hM
  · intro v h' tk P' kk l' b' g' r' hx _
    (refine el2x2 hx ?_; clear hx; intro vs k h1 h2)
    rw [zl, ← hl] at h2
    have : (List.map (fun q : γ × List Nat => sV q.2) (List.filter (fun _ => true) (items.zip toks))) = toks.map sV := by rw [List.filter_eq_self.mpr fun _ _ => rfl]; exact zs
    rw [this] at r'
    have F₁ := F.turn (tk := tk) (h' := h') hM h1 (fun b ob hb e => by
      (refine el1x2 (kk b ob e) ?_; intro o' e' q)
      rw [e', q (by simpa using hb)])
    have F₂ := F₁.grow l' b' (fun c o e => by
      rcases g' c o e with q | q
      · exact .inl q
      · (refine el0x6 (F.apart q) ?_; intro a1 a2 a3 a4 a5 a6)
        have hca : c ≠ a := fun z => by rw [z, F.muo _ _ hM] at q; exact no2 q
        exact .inr (in0x5 a1 (by simp [PMap.put, hca, a3]) a4 a5 a6))
    exact hQ v _ _ P' F₂ l' r' (in2x2 vs k (PMap.put_self _ _ _) (rpl_strs h2))
end
end
section
open Builtin
noncomputable def pickG {α : Type} (l : List α) (lo hi st : Option Int) : List α := (sliceRange (sliceBounds lo hi st l.length).1 (sliceBounds lo hi st l.length).2.1 (sliceBounds lo hi st l.length).2.2).filterMap (l[·]?)
theorem pickL_map {α : Type} (f : α → PV) (l : List α) (lo hi st : Option Int) : pickL (l.map f) lo hi st = (pickG l lo hi st).map f := by
  unfold pickL pickG
  rw [List.length_map, List.map_filterMap]
  congr 1
  funext j
  rw [List.getElem?_map]
theorem sliceRange_len (a b c : Int) : (sliceRange a b c).length ≤ (max (b - a) (a - b)).toNat := by
  unfold sliceRange
  rw [List.length_map, List.length_range]
  by_cases hc : c > 0
  · simp only [hc, if_true]
    by_cases h : a < b
    · simp only [h, if_true]
      have : (b - a + c - 1) / c ≤ b - a := by
        refine Int.ediv_le_of_le_mul hc ?_
        have h1 : 1 ≤ b - a := by lia
        have : (b - a) * 1 ≤ (b - a) * c := Int.mul_le_mul_of_nonneg_left (by lia) (by lia)
        have h3 : (b - a - 1) * 1 ≤ (b - a - 1) * c := Int.mul_le_mul_of_nonneg_left (by lia) (by lia)
        have h4 : (b - a) * c = (b - a - 1) * c + c := by rw [Int.sub_mul (b - a) 1 c]; lia
        lia
      lia
    · simp only [h, if_false]; lia
  · simp only [hc, if_false]
    by_cases h : a > b
    · simp only [h, if_true]
      by_cases h0 : c = 0
      · subst h0; simp
      · have hc' : 0 < -c := by lia
        have : (a - b - c - 1) / (-c) ≤ a - b := by
          refine Int.ediv_le_of_le_mul hc' ?_
          have h3 : (a - b - 1) * 1 ≤ (a - b - 1) * (-c) := Int.mul_le_mul_of_nonneg_left (by lia) (by lia)
          have h4 : (a - b) * (-c) = (a - b - 1) * (-c) + (-c) := by rw [Int.sub_mul (a - b) 1 (-c)]; lia
          lia
        lia
    · simp only [h, if_false]; lia
theorem pickG_len {α : Type} (l : List α) (i : Nat) : (pickG l (some ((i : Nat) : Int)) none (some 6)).length ≤ l.length := by
  unfold pickG
  refine Nat.le_trans (List.length_filterMap_le _ _) (Nat.le_trans (sliceRange_len _ _ _) ?_)
  simp [sliceBounds]
  split <;> lia
noncomputable def ownN : List Nat := [0, 123, 50, 155, 6, 2717780]
noncomputable def partN (ns : List Int) (i : Nat) : List Int := pickG (ns.take 60) (some ((i : Nat) : Int)) none (some 6)
noncomputable def cellN (ns : List Int) (i : Nat) : Nat := ownN.getD i 0 + ((partN ns i).map fun x => (x.fmod 1000000).toNat).sum
theorem sum_cast : ∀ l : List Int, ((l.map fun x => x.fmod 1000000).sum) = (((l.map fun x => (x.fmod 1000000).toNat).sum : Nat) : Int)
  | [] => rfl
  | x :: l => by
    rw [List.map_cons, List.sum_cons, sum_cast l, List.map_cons, List.sum_cons]
    have : 0 ≤ x.fmod 1000000 := by rw [Int.fmod_eq_emod_of_nonneg _ (by decide)]; exact Int.emod_nonneg _ (by decide)
    lia
theorem sum_bd : ∀ l : List Int, ((l.map fun x => (x.fmod 1000000).toNat).sum) ≤ l.length * 1000000
  | [] => by simp
  | x :: l => by
    rw [List.map_cons, List.sum_cons, List.length_cons]
    have h1 := sum_bd l
    have h2 : x.fmod 1000000 < 1000000 := by rw [Int.fmod_eq_emod_of_nonneg _ (by decide)]; exact Int.emod_lt_of_pos _ (by decide)
    lia
theorem cell_bd (ns : List Int) (i : Nat) : cellN ns i < 100000000 := by
  unfold cellN
  have h1 := sum_bd (partN ns i)
  have h2 : (partN ns i).length ≤ 60 := Nat.le_trans (pickG_len _ _) (by rw [List.length_take]; lia)
  have h3 : ownN.getD i 0 ≤ 2717780 := by
    unfold ownN
    rcases i with _ | _ | _ | _ | _ | _ | i <;> simp
  exact lin [_, _, _] [.L 1 (.V 0) (.R (.V 1) 1000000), .L 1000000 (.V 1) (.N 60), .L 1 (.V 2) (.N 2717780)] (.T 1 (.A (.V 2) (.V 0)) (.N 100000000)) rfl h1 h2 h3
noncomputable def szN (k : Nat) : Nat := [4, 4, 5, 6].getD k 0
noncomputable def bsN (k : Nat) : Nat := [2, 3, 2, 2].getD k 0
noncomputable def wayN (c : Nat) (k : Nat) : Int := 1 - ((c / k % 2 : Nat) : Int) * 2
noncomputable def lwN : List Str := (["script"] : List Str) ++ (["own", "cells", "size", "base", "ways", "signs", "comp", "drawn", "words", "numbers", "first", "text", "lexer", "rows", "names", "values", "kinds", "order", "falls", "symbols", "marks", "taken", "marked", "rings", "majors", "keys"] : List Str)
structure LawG (G : GC) (T C CT : Addr) (mN mT : Str → Option Value) (fI fR fG fP fTI fTC : Addr) : Prop where
  lex : LexF G T C mN fI fR fG fP
  tcls : G.mg "TupleComp" = some (.ref CT)
  tc : ClsF G.K CT mT
  ti : Mf G.K mT "__init__" 1 0 fTI
  tm : Mf G.K mT "compare" 1 1 fTC
  ta : mT "comp_select_list" = none
  hE : ∃ t, G.mg "ENDMARKER" = some (.int 0 t)
  hN : ∃ t, G.mg "NT_OFFSET" = some (.int 256 t)
  g58 : Gf G "ISTERMINAL" 58
  g59 : Gf G "ISNONTERMINAL" 59
  g60 : Gf G "ISEOF" 60
  g2 : Gf G "add_callers" 2
  g3 : Gf G "count_calls" 3
  g62 : Gf G "_law_text" 62
  g64 : Gf G "_law_kind" 64
  g65 : Gf G "_law_rows" 65
  g66 : Gf G "_law_falls" 66
  g67 : Gf G "_law_count" 67
  g68 : Gf G "_law_marked" 68
  g69 : Gf G "_law_rings" 69
  range : Gb G "range" (.type "range")
  list : Gb G "list" (.type "list")
  dict : Gb G "dict" (.type "dict")
  tuple : Gb G "tuple" (.type "tuple")
  bool : Gb G "bool" (.type "bool")
  len : Gb G "len" (.builtin "len")
  sum : Gb G "sum" (.builtin "sum")
  max : Gb G "max" (.builtin "max")
  min : Gb G "min" (.builtin "min")
  all : Gb G "all" (.builtin "all")
  isin : Gb G "isinstance" (.builtin "isinstance")
section
variable {prog : Program} {w : World} {G : GC} {n : Nat} {A : Around} {W V : Addr → Prop} {s₀ : Shared} {P₀ : PMap} {env : Env} {M X P : PMap} {s : Shared} {Q : Flow → Shared → Prop}
variable {T C CT : Addr} {mN mT : Str → Option Value} {fI fR fG fP fTI fTC : Addr}
theorem law_1 {ns : List Int} (H : LawG G T C CT mN mT fI fR fG fP fTI fTC) (hns : ns.length ≤ 1000)
    (F : Fn prog w G n A W V s₀ P₀ env (sp 70).names lwN M X P (lwN.zip (some (.list (ns.map .int)) :: List.replicate 26 none)) s)
    (h : ∀ s' P', Fn prog w G n A W V s₀ P₀ env (sp 70).names lwN M X P' (lwN.zip ([some (.list (ns.map .int)), some (rowV ownN), some (rowV ((List.range 6).map (cellN ns))), some (iN (szN (cellN ns 0 % 4))), some (iN (bsN (cellN ns 0 % 4))), some (.tuple [.int (wayN (cellN ns 0) 4), .int (wayN (cellN ns 0) 8)])] ++ List.replicate 21 none)) s' → PMap.le P P' → Run prog w A env ((bd 70).drop 4) Q s') :
    Run prog w A env (bd 70) Q s := by
  have hsl : (10000 : Nat) ≤ sizeLine := by unfold sizeLine; exact lin [] [] (.L 1 (.N 10000) (.N 16777216)) rfl
  refine sc_assign F (pv := rowV ownN) (den_list (dens_cons (den_k 0) (dens_cons (den_k 123) (dens_cons (den_k 50) (dens_cons (den_k 155) (dens_cons (den_k 6) (dens_cons (den_k 2717780) dens_nil)))))) (by show 6 ≤ sizeLine; exact lin [_] [.L 1 (.N 10000) (.V 0)] (.L 1 (.N 6) (.V 0)) rfl hsl)) rfl (gm 1 rfl) (turned_zip F.nd (i := 1) rfl (.there .here)) (fun s₂ P₂ F l₂ => ?_)
  refine sc_assign F (pv := rowV ((List.range 6).map (cellN ns))) (den_as (by unfold rowV; rw [List.map_map]; rfl) (den_for1 iN (List.range 6) (fun i => iN (cellN ns i)) ["own", "script"] (H.range.callT (gm 27 rfl) (argd1 (den_k 6)) con_rangeN (by decide +kernel)) (its_range (by exact lin [] [] (.T 1 (.N 6) (.N 2147483648)) rfl)) (.skip (by decide) (.skip (by decide) (.skip (by decide) (.free (zm 1 rfl rfl) (.inl (gm 1 rfl)) (.free (zm 0 rfl rfl) (.inl (gm 0 rfl)) .nil))))) (fun i hi => ?_) (by simp; exact lin [_] [.L 1 (.N 10000) (.V 0)] (.L 1 (.N 6) (.V 0)) rfl hsl) rfl (by decide +kernel))) (noSwap_cell F (gm 2 rfl)) (gm 2 rfl) (turned_zip F.nd (i := 2) rfl (.there (.there .here))) (fun s₃ P₃ F l₃ => ?_)
  · have hi' := List.mem_range.mp hi
    have e1 : (ownN.map iN)[i]? = some (iN (ownN.getD i 0)) := by
      rw [List.getElem?_map, List.getD_eq_getElem?_getD, List.getElem?_eq_getElem (by simp [ownN]; exact lin [_] [.T 1 (.V 0) (.N 6)] (.T 1 (.V 0) (.N 6)) rfl hi')]; rfl
    have hpl : (pickG (ns.take 60) (some ((i : Nat) : Int)) none (some 6)).length ≤ 60 := Nat.le_trans (pickG_len _ _) (by rw [List.length_take]; lia)
    refine den_as (a := .int (((ownN.getD i 0 : Nat) : Int) + ((partN ns i).map fun x => x.fmod 1000000).sum)) (by rw [sum_cast]; unfold cellN iN; congr 1) (den_add (den_itemN (den_var (gm 1 rfl)) (den_var (gm 0 rfl)) (by exact lin [_] [.T 1 (.V 0) (.N 6)] (.T 1 (.V 0) (.N 9223372036854775808)) rfl hi') e1)
      (H.sum.call (gm 2 rfl) (argd1 (den_as (a := .list ((partN ns i).map fun x => .int (x.fmod 1000000))) (by rw [List.map_map]; rfl) (den_for1 PV.int (partN ns i) (fun x => .int (x.fmod 1000000)) [] (τ := []) (den_as (congrArg PV.list (pickL_map PV.int (ns.take 60) (some ((i : Nat) : Int)) none (some 6))) (den_slice (den_as (congrArg PV.list (by rw [show some (60 : Int) = some ((60 : Nat) : Int) from rfl, pickL_to, ← List.map_take])) (den_slice (den_var (gm 2 rfl)) denP_none (denP_some den_int) denP_none (by simp) (by simp; exact lin [_, _] [.L 1 (.V 0) (.N 1000), .L 1 (.N 10000) (.V 1)] (.L 1 (.V 0) (.V 1)) rfl hns hsl))) (denP_some (den_var (gm 0 rfl))) denP_none (denP_some den_int) (by simp) (by simp; lia))) its_list (.skip (by decide) (.skip (by decide) .nil)) (fun x hx => den_mod (den_var (gm 0 rfl)) den_int (by decide)) (Nat.le_trans hpl (by exact lin [_] [.L 1 (.N 10000) (.V 0)] (.L 1 (.N 60) (.V 0)) rfl hsl)) rfl (by decide +kernel)))) (con_sum (ns := (partN ns i).map fun x => x.fmod 1000000)) (by decide +kernel)))
  · have hc0 := cell_bd ns 0
    have hk : cellN ns 0 % 4 < 4 := Nat.mod_lt _ (by exact lin [] [] (.T 1 (.N 0) (.N 4)) rfl)
    refine sc_names (ys := ["size", "base"]) (ds := [iN (szN (cellN ns 0 % 4)), iN (bsN (cellN ns 0 % 4))]) F (den_itemTN (l := [.tuple [iN 4, iN 2], .tuple [iN 4, iN 3], .tuple [iN 5, iN 2], .tuple [iN 6, iN 2]])
      (den_tuple (dens_cons (den_tuple (dens2 (den_k 4) (den_k 2)) (by simp; exact lin [_] [.L 1 (.N 10000) (.V 0)] (.L 1 (.N 2) (.V 0)) rfl hsl)) (dens_cons (den_tuple (dens2 (den_k 4) (den_k 3)) (by simp; exact lin [_] [.L 1 (.N 10000) (.V 0)] (.L 1 (.N 2) (.V 0)) rfl hsl)) (dens_cons (den_tuple (dens2 (den_k 5) (den_k 2)) (by simp; exact lin [_] [.L 1 (.N 10000) (.V 0)] (.L 1 (.N 2) (.V 0)) rfl hsl)) (dens_cons (den_tuple (dens2 (den_k 6) (den_k 2)) (by simp; exact lin [_] [.L 1 (.N 10000) (.V 0)] (.L 1 (.N 2) (.V 0)) rfl hsl)) dens_nil)))) (by simp; exact lin [_] [.L 1 (.N 10000) (.V 0)] (.L 1 (.N 4) (.V 0)) rfl hsl))
      (den_modN (den_itemN (d := iN (cellN ns 0)) (den_var (zm 2 rfl rfl)) (den_k 0) (by exact lin [] [] (.T 1 (.N 0) (.N 9223372036854775808)) rfl) rfl) (den_k 4) (by exact lin [] [] (.T 1 (.N 0) (.N 4)) rfl)) (by exact lin [_] [.T 1 (.V 0) (.N 4)] (.T 1 (.V 0) (.N 9223372036854775808)) rfl hk) ?_) (.cons (by decide +kernel) (turned_zip F.nd (i := 3) rfl (.there (.there (.there .here)))) (.cons (by decide +kernel) (turned_zip F.nd (i := 4) rfl (.there (.there (.there (.there .here))))) .nil)) (by decide +kernel) rfl rfl (fun s₄ P₄ F l₄ => ?_)
    · generalize cellN ns 0 % 4 = k at hk
      rcases k with _ | _ | _ | _ | k <;> first | rfl | lia
    · refine sc_assign F (pv := .tuple [.int (wayN (cellN ns 0) 4), .int (wayN (cellN ns 0) 8)]) (den_tuple (dens2 (den_sub den_int (den_mulN (den_modN (den_divN (den_itemN (d := iN (cellN ns 0)) (den_var (zm 2 rfl rfl)) (den_k 0) (by exact lin [] [] (.T 1 (.N 0) (.N 9223372036854775808)) rfl) rfl) (den_k 4) (by exact lin [] [] (.T 1 (.N 0) (.N 4)) rfl) (by exact lin [] [] (.T 1 (.N 4) (.N 1073741824)) rfl)) (den_k 2) (by exact lin [] [] (.T 1 (.N 0) (.N 2)) rfl)) (den_k 2) (by lia) (by decide))) (den_sub den_int (den_mulN (den_modN (den_divN (den_itemN (d := iN (cellN ns 0)) (den_var (zm 2 rfl rfl)) (den_k 0) (by exact lin [] [] (.T 1 (.N 0) (.N 9223372036854775808)) rfl) rfl) (den_k 8) (by exact lin [] [] (.T 1 (.N 0) (.N 8)) rfl) (by exact lin [] [] (.T 1 (.N 8) (.N 1073741824)) rfl)) (den_k 2) (by exact lin [] [] (.T 1 (.N 0) (.N 2)) rfl)) (den_k 2) (by lia) (by decide)))) (by simp; exact lin [_] [.L 1 (.N 10000) (.V 0)] (.L 1 (.N 2) (.V 0)) rfl hsl)) rfl (gm 5 rfl) (turned_zip F.nd (i := 5) rfl (.there (.there (.there (.there (.there .here)))))) (fun s₅ P₅ F l₅ => ?_)
      exact h s₅ P₅ F (((l₂.trans l₃).trans l₄).trans l₅)
end
end
section
open Builtin
noncomputable def ett : List (List Nat × Nat) := [([33], 54), ([33, 61], 28), ([37], 24), ([37, 61], 40), ([38], 19), ([38, 61], 41), ([40], 7), ([41], 8), ([42], 16), ([42, 42], 35), ([42, 42, 61], 46), ([42, 61], 38), ([43], 14), ([43, 61], 36), ([44], 12), ([45], 15), ([45, 61], 37), ([45, 62], 51), ([46], 23), ([46, 46, 46], 52), ([47], 17), ([47, 47], 47), ([47, 47, 61], 48), ([47, 61], 39), ([58], 11), ([58, 61], 53), ([59], 13), ([60], 20), ([60, 60], 33), ([60, 60, 61], 44), ([60, 61], 29), ([61], 22), ([61, 61], 27), ([62], 21), ([62, 61], 30), ([62, 62], 34), ([62, 62, 61], 45), ([64], 49), ([64, 61], 50), ([91], 9), ([93], 10), ([94], 32), ([94, 61], 43), ([123], 25), ([124], 18), ([124, 61], 42), ([125], 26), ([126], 31)]
noncomputable def ettD : DctS := ett.map fun q => (tx q.1, ((q.2 : Nat) : Int))
noncomputable def opsN : List (List Nat) := ett.map (·.1)
noncomputable def numOf (d : List Nat) : Nat := ((ett.find? fun q => q.1 == d).map (·.2)).getD 0
noncomputable def sufN : List (List Nat) := [[], [32, 98], [34, 10], [92]]
theorem ops_ok : opsN.length = 48 ∧ ∀ d ∈ opsN, 1 ≤ d.length ∧ d.length ≤ 3 ∧ 7 ≤ numOf d ∧ numOf d ≤ 54 ∧ (∀ c ∈ d, c < 128) := by decide +kernel
theorem get_tx (d : List Nat) : ∀ l : List (List Nat × Nat), getK (l.map fun q => (tx q.1, ((q.2 : Nat) : Int))) (tx d) = ((l.find? fun q => q.1 == d).map (·.2)).map fun n : Nat => (n : Int)
  | [] => rfl
  | q :: l => by
    unfold getK
    rw [List.map_cons, List.find?_cons, List.find?_cons]
    by_cases h : q.1 = d
    · subst h; simp
    · have h1 : ¬ tx q.1 = tx d := fun e => h (tx_inj.mp e)
      have h2 : (q.1 == d) = false := by simpa using h
      simp only [h1, decide_false, h2]
      exact get_tx d l
theorem get_ett {d : List Nat} (h : d ∈ opsN) : getK ettD (tx d) = some ((numOf d : Nat) : Int) := by
  unfold ettD numOf
  rw [get_tx]
  have : ∀ d ∈ opsN, (ett.find? fun q => q.1 == d).isSome = true := by decide +kernel
  (refine el1x1 (Option.isSome_iff_exists.mp (this d h)) ?_; intro x hx)
  rw [hx]; rfl
noncomputable def lsN (cs : List Nat) (j : Nat) : List (List Nat) := (cs.take j).foldl (fun l d => l.eraseIdx (d % 48 % l.length)) opsN
noncomputable def drawnN (cs : List Nat) : List (List Nat) := (List.range cs.length).map fun j => (lsN cs j).getD (cs.getD j 0 % 48 % (lsN cs j).length) []
theorem ls_succ (cs : List Nat) (j : Nat) {d : Nat} (h : cs[j]? = some d) : lsN cs (j + 1) = (lsN cs j).eraseIdx (d % 48 % (lsN cs j).length) := by
  unfold lsN
  rw [List.take_add_one, h, Option.toList_some, List.foldl_append]; rfl
theorem ls_len (cs : List Nat) (hc : cs.length ≤ 3) : ∀ j, 45 ≤ (lsN cs j).length ∧ (lsN cs j).length ≤ 48 ∧ (lsN cs j).length ≥ 48 - j := by
  intro j
  have h0 : opsN.length = 48 := ops_ok.1
  have gen : ∀ (m : List Nat) (l : List (List Nat)), m.length ≤ l.length → ((m.foldl (fun l d => l.eraseIdx (d % 48 % l.length)) l).length ≤ l.length ∧ (m.foldl (fun l d => l.eraseIdx (d % 48 % l.length)) l).length ≥ l.length - m.length) := by
    intro m
    induction m with
    | nil => intro l _; simp
    | cons d m ih =>
      intro l hl
      rw [List.length_cons] at hl
      have hlt : d % 48 % l.length < l.length := Nat.mod_lt _ (by exact lin [_, _] [.L 1 (.A (.V 0) (.N 1)) (.V 1)] (.T 1 (.N 0) (.V 1)) rfl hl)
      have e : (l.eraseIdx (d % 48 % l.length)).length = l.length - 1 := by rw [List.length_eraseIdx, if_pos hlt]
      have := ih (l.eraseIdx (d % 48 % l.length)) (by lia)
      rw [List.foldl_cons, List.length_cons]
      lia
  have h := gen (cs.take j) opsN (by rw [List.length_take, h0]; lia)
  have hl : (cs.take j).length ≤ 3 := by rw [List.length_take]; lia
  have hl' : (cs.take j).length ≤ j := by rw [List.length_take]; lia
  unfold lsN
  lia
theorem ls_sub (cs : List Nat) : ∀ j, ∀ d ∈ lsN cs j, d ∈ opsN := by
  intro j
  have gen : ∀ (m : List Nat) (l : List (List Nat)), ∀ d ∈ m.foldl (fun l d => l.eraseIdx (d % 48 % l.length)) l, d ∈ l := by
    intro m
    induction m with
    | nil => intro l d h; exact h
    | cons c m ih => intro l d h; exact List.mem_of_mem_eraseIdx (ih _ d h)
  exact gen _ _
theorem drawn_mem (cs : List Nat) (hc : cs.length ≤ 3) {d : List Nat} (h : d ∈ drawnN cs) : d ∈ opsN := by
  unfold drawnN at h
  (refine el1x2 (List.mem_map.mp h) ?_; intro j hj hZ; subst hZ)
  (refine el0x3 (ls_len cs hc j) ?_; intro l1 _ _)
  have hlt : cs.getD j 0 % 48 % (lsN cs j).length < (lsN cs j).length := Nat.mod_lt _ (by exact lin [_] [.L 1 (.N 45) (.V 0)] (.T 1 (.N 0) (.V 0)) rfl l1)
  rw [List.getD_eq_getElem?_getD, List.getElem?_eq_getElem hlt]
  exact ls_sub cs j _ (List.getElem_mem hlt)
noncomputable def wordsN (b : Nat) (drawn : List (List Nat)) (c : Nat → Nat) : List (List Nat) := (List.range b).map fun k => drawn.getD k [] ++ sufN.getD (c (1 + k) / 48 % 4) []
theorem suf_ok (k : Nat) : (sufN.getD (k % 4) []).length ≤ 2 ∧ (∀ c ∈ sufN.getD (k % 4) [], c < 128) ∧ sufN[k % 4]? = some (sufN.getD (k % 4) []) := by
  have : k % 4 < 4 := Nat.mod_lt _ (by exact lin [] [] (.T 1 (.N 0) (.N 4)) rfl)
  generalize k % 4 = j at this
  have : ∀ j < 4, (sufN.getD j []).length ≤ 2 ∧ (∀ c ∈ sufN.getD j [], c < 128) ∧ sufN[j]? = some (sufN.getD j []) := by decide +kernel
  exact this j (by assumption)
theorem words_ok {b : Nat} {drawn : List (List Nat)} {c : Nat → Nat} (hd : ∀ d ∈ drawn, d ∈ opsN) (hl : drawn.length = b) : ∀ v ∈ wordsN b drawn c, v.length ≤ 8 ∧ ∀ x ∈ v, x < 128 := by
  intro v hv
  unfold wordsN at hv
  (refine el1x2 (List.mem_map.mp hv) ?_; intro k hk hZ; subst hZ)
  have hk' : k < drawn.length := by have := List.mem_range.mp hk; exact lin [_, _, _] [.Q 1 (.V 0) (.V 1), .T 1 (.V 2) (.V 1)] (.T 1 (.V 2) (.V 0)) rfl hl this
  have e : drawn.getD k [] = drawn[k] := by rw [List.getD_eq_getElem?_getD, List.getElem?_eq_getElem hk']; rfl
  have h1 := ops_ok.2 _ (hd _ (List.getElem_mem hk'))
  have h2 := suf_ok (c (1 + k) / 48)
  rw [e]
  refine ⟨by rw [List.length_append]; exact lin [_, _] [.L 1 (.V 0) (.N 3), .L 1 (.V 1) (.N 2)] (.L 1 (.A (.V 0) (.V 1)) (.N 8)) rfl h1.2.1 h2.1, fun x hx => ?_⟩
  rcases List.mem_append.mp hx with q | q
  · exact h1.2.2.2.2 x q
  · exact h2.2.1 x q
theorem digit_lt {b sz k x : Nat} (hb : 0 < b) (h : x ∈ digits b sz k) : x < b := by
  unfold digits at h
  (refine el1x2 (List.mem_map.mp h) ?_; intro i _ hZ; subst hZ)
  exact Nat.mod_lt _ hb
theorem digits_len (b sz k : Nat) : (digits b sz k).length = sz := by simp [digits]
section
variable {prog : Program} {w : World} {G : GC} {n : Nat}
theorem den_text_con {a : Addr} {words : List (List Nat)} {cell k : Nat} (D : Df G.K (pm 62) (bd 62) (sp 62) a) (b1 : Gb G "range" (.type "range")) (b2 : Gb G "len" (.builtin "len")) (hw : ∀ v ∈ words, v.length ≤ 8) (hl : words.length ≤ 20) (hk : words.length = k) :
    Con prog w G (n + 1) (.ref a) [.list (words.map sV), iN cell] (sV (textTo words cell k).dropLast) := by
  subst hk; exact con_text D hw hl b1 b2
end
section
variable {prog : Program} {w : World} {G : GC} {n : Nat} {A : Around} {W V : Addr → Prop} {s₀ : Shared} {P₀ : PMap} {env : Env} {M X P : PMap} {s : Shared} {Q : Flow → Shared → Prop}
variable {T C CT : Addr} {mN mT : Str → Option Value} {fI fR fG fP fTI fTC : Addr}
noncomputable def pre2 (ns : List Int) (c : Nat → Nat) (sz b : Nat) (w0 w1 : Int) : List (Option PV) := [some (.list (ns.map .int)), some (rowV ownN), some (rowV ((List.range 6).map c)), some (iN sz), some (iN b), some (.tuple [.int w0, .int w1])]
theorem law_2 {ns : List Int} {c : Nat → Nat} {sz b : Nat} {w0 w1 : Int} (H : LawG G T C CT mN mT fI fR fG fP fTI fTC) (hett : ∃ v, G.mg "EXACT_TOKEN_TYPES" = some v ∧ Rp prog w G.K v (.dS ettD)) (hc : ∀ i, c i < 100000000) (hs1 : 4 ≤ sz) (hs2 : sz ≤ 6) (hb1 : 2 ≤ b) (hb2 : b ≤ 3)
    (F : Fn prog w G (n + 2) A W V s₀ P₀ env (sp 70).names lwN M X P (lwN.zip (pre2 ns c sz b w0 w1 ++ List.replicate 21 none)) s)
    (h : ∀ s' P' M' cs drawn words first sa, cs = (List.range b).map (fun k => c (1 + k)) → drawn = drawnN cs → words = wordsN b drawn c → first = digits b sz (c 4) →
      Fn prog w G (n + 2) A W V s₀ P₀ env (sp 70).names lwN M' X P' (lwN.zip (pre2 ns c sz b w0 w1 ++ [some (.raw (.ref sa)), some (.inst CT "comp_select_list" (.list ([(1, w0), (0, w1)].map dirV))), some (.list (drawn.map sV)), some (.list (words.map sV)), some (rowV (drawn.map numOf)), some (rowV first),
        some (sV (textTo (first.map (fun x => words.getD x []) ++ [[122]]) (c 5) (sz + 1)).dropLast)] ++ List.replicate 14 none)) s' → PMap.le P P' → Run prog w A env ((bd 70).drop 9) Q s') :
    Run prog w A env ((bd 70).drop 4) Q s := by
  have hsl : (10000 : Nat) ≤ sizeLine := by unfold sizeLine; exact lin [] [] (.L 1 (.N 10000) (.N 16777216)) rfl
  (refine el1x2 hett ?_; clear hett; intro ev hev rev)
  have hetl : ettD.length ≤ 1000 := by rw [ettD, List.length_map]; exact Nat.le_trans (by decide) (by exact lin [] [] (.L 1 (.N 48) (.N 1000)) rfl : 48 ≤ 1000)
  have hcell : ∀ i, i < 6 → (((List.range 6).map c).map iN)[i]? = some (iN (c i)) := fun i hi => by
    rw [List.map_map, List.getElem?_map, List.getElem?_range hi]; rfl
  refine sc_tup (ys := ["signs", "comp"]) (by decide +kernel) (spliced_cons (F.evaldO (deno_listDict H.list (gm 28 rfl) (den_glob (gm 29 rfl) hev rev (by decide +kernel)) (by decide +kernel) hetl) fun sa va ka s₂ P₂ F₂ l₂ k₂ nM nP r₂ => spliced_cons (F₂.evald (den_callC H.tc (den_glob (gm 30 rfl) H.tcls (.raw _) (by decide +kernel)) (argd1 (den_list (ds := [(1, w0), (0, w1)].map dirV) (dens2 (den_tuple (dens2 (den_k 1) (den_itemTN (d := .int w0) (den_var (zm 5 rfl rfl)) (den_k 0) (by exact lin [] [] (.T 1 (.N 0) (.N 9223372036854775808)) rfl) rfl)) (by simp; exact lin [_] [.L 1 (.N 10000) (.V 0)] (.L 1 (.N 2) (.V 0)) rfl hsl)) (den_tuple (dens2 (den_k 0) (den_itemTN (d := .int w1) (den_var (zm 5 rfl rfl)) (den_k 1) (by exact lin [] [] (.T 1 (.N 1) (.N 9223372036854775808)) rfl) rfl)) (by simp; exact lin [_] [.L 1 (.N 10000) (.V 0)] (.L 1 (.N 2) (.V 0)) rfl hsl))) (by simp; exact lin [_] [.L 1 (.N 10000) (.V 0)] (.L 1 (.N 2) (.V 0)) rfl hsl))) (con_tupleComp H.tc H.ti H.ta)) fun v s₃ P₃ F₃ l₃ k₃ r₃ => spliced_nil
    (in6x5 _ _ _ ([.raw (.ref sa), .inst CT "comp_select_list" (.list ([(1, w0), (0, w1)].map dirV))]) _ (lwN.zip (pre2 ns c sz b w0 w1 ++ [some (.raw (.ref sa)), some (.inst CT "comp_select_list" (.list ([(1, w0), (0, w1)].map dirV)))] ++ List.replicate 19 none)) F₃ (.cons (.raw _) (.cons r₃ .nil)) (by simp) (.cons (by decide +kernel) (turned_zip F.nd (i := 6) rfl (.there (.there (.there (.there (.there (.there .here))))))) (.cons (by decide +kernel) (turned_zip F.nd (i := 7) rfl (.there (.there (.there (.there (.there (.there (.there .here)))))))) .nil)) (fun s₄ P₄ F₄ l₄ => ?_))))) rfl (swp2 F (gm 6 rfl) (gm 7 rfl) rfl)
  have ms : MList prog w (M.put sa (lobj va ka)) P₄ sa ((lsN ((List.range b).map fun k => c (1 + k)) 0).map sV) := (in2x2 va ka (PMap.put_self _ _ _) (by
    have e : (ettD.map fun q => PV.str q.1) = (lsN ((List.range b).map fun k => c (1 + k)) 0).map sV := by
      show (List.map _ (List.map _ ett)) = List.map sV (ett.map (·.1))
      rw [List.map_map, List.map_map]; rfl
    rw [← e]; exact (r₂.mono l₃).mono l₄))
  have ll := (l₂.trans l₃).trans l₄
  generalize M.put sa (lobj va ka) = M₄ at F₄ ms
  clear F₂ F₃ nM
  have F := F₄
  generalize hcs : (List.range b).map (fun k => c (1 + k)) = cs at ms
  have hcl : cs.length = b := by rw [← hcs]; simp
  have hsrc : pickL (((List.range 6).map c).map iN) (some ((1 : Nat) : Int)) (some ((1 + b : Nat) : Int)) none = cs.map iN := by
    rw [pickL_nat, Nat.add_sub_cancel_left, ← hcs]
    obtain rfl | rfl : b = 2 ∨ b = 3 := by lia
    · rfl
    · rfl
  refine sc_of (wpAny_Assign_Name (F.pops (a := sa) (γ := Nat) (enc := iN) (items := cs) (toks := drawnN cs) (ls := lsN cs) (ix := fun d l => d % 48 % l.length) (ns := ["signs"]) (τ := [("signs", some (.raw (.ref sa)))]) (τ' := fun d l => [("cell", some (iN d)), ("signs", some (.list (l.map sV)))])
    ms (by simp [drawnN]) (fun j => by have := ls_len cs (by exact lin [_, _] [.L 1 (.V 0) (.N 3), .E 1 (.V 1) (.V 0)] (.L 1 (.V 1) (.N 3)) rfl hb2 hcl) j; exact lin [_] [.L 1 (.V 0) (.N 48)] (.L 1 (.V 0) (.N 1000)) rfl this.2.1) (fun j d t hd ht => ?_) (den_as (congrArg PV.list hsrc) (den_slice (den_var (zm 2 rfl rfl)) (denP_some (den_k 1)) (denP_some (den_addN (den_k 1) (den_var (zm 4 rfl rfl)))) denP_none (by simp) (by simp; exact lin [_] [.L 1 (.N 10000) (.V 0)] (.L 1 (.N 6) (.V 0)) rfl hsl))) its_list (.skip (by decide) (.skip (by decide) (.skip (by decide) (.free (zm 6 rfl rfl) (.inl (gm 6 rfl)) .nil)))) (by simp) (fun d l => ?_) (fun j d hd => ?_) (by exact lin [_, _] [.L 1 (.V 0) (.N 3), .E 1 (.V 1) (.V 0)] (.L 1 (.V 1) (.N 1000)) rfl hb2 hcl) rfl (by decide +kernel) (fun v s₅ ob P₅ F₅ l₅ r₅ m₅ => ?_)) (noSwap_cell F (gm 8 rfl)))
  · have hj : j < cs.length := (List.getElem?_eq_some_iff.mp hd).1
    have e : cs.getD j 0 = d := by rw [List.getD_eq_getElem?_getD, hd]; rfl
    unfold drawnN at ht
    rw [List.getElem?_map, List.getElem?_range hj] at ht
    simp only [Option.map_some, Option.some.injEq] at ht
    have hlt : d % 48 % (lsN cs j).length < (lsN cs j).length := Nat.mod_lt _ (by have := ls_len cs (by exact lin [_, _] [.L 1 (.V 0) (.N 3), .E 1 (.V 1) (.V 0)] (.L 1 (.V 1) (.N 3)) rfl hb2 hcl) j; exact lin [_] [.L 1 (.N 45) (.V 0)] (.T 1 (.N 0) (.V 0)) rfl this.1)
    refine ⟨?_, ls_succ cs j hd⟩
    rw [← ht, e, List.getD_eq_getElem?_getD, List.getElem?_eq_getElem hlt]; rfl
  · intro y q hq
    simp only [List.mem_cons, List.not_mem_nil, or_false, Prod.mk.injEq] at hq
    rcases hq with ⟨rfl, e⟩ | ⟨rfl, e⟩
    · exact .inr ⟨(by decide +kernel), by simp [e]⟩
    · exact .inl ⟨rfl, by injection e⟩
  · have := ls_len cs (by exact lin [_, _] [.L 1 (.V 0) (.N 3), .E 1 (.V 1) (.V 0)] (.L 1 (.V 1) (.N 3)) rfl hb2 hcl) j
    exact den_modN (den_modN (den_var (gm 0 rfl)) (den_k 48) (by exact lin [] [] (.T 1 (.N 0) (.N 48)) rfl)) (H.len.call (gm 2 rfl) (argd1 (den_var (gm 1 rfl))) (con_lenM (by exact lin [_] [.L 1 (.V 0) (.N 48)] (.T 1 (.V 0) (.N 4611686018427387904)) rfl this.2.1)) (by decide +kernel)) (by exact lin [_] [.L 1 (.N 45) (.V 0)] (.T 1 (.N 0) (.V 0)) rfl this.1)
  refine F₅.store (gm 8 rfl) (turned_zip F.nd (i := 8) rfl (.there (.there (.there (.there (.there (.there (.there (.there .here))))))))) r₅ fun s₆ F₆ => then_next ?_
  have F := F₆
  have hdl : (drawnN cs).length = b := by simp [drawnN, hcl]
  have hdm : ∀ d ∈ drawnN cs, d ∈ opsN := fun d hd => drawn_mem cs (by exact lin [_, _] [.L 1 (.V 0) (.N 3), .E 1 (.V 1) (.V 0)] (.L 1 (.V 1) (.N 3)) rfl hb2 hcl) hd
  generalize hdr : drawnN cs = drawn at F hdl hdm
  refine sc_assign F (pv := .list ((wordsN b drawn c).map sV)) (den_as (by unfold wordsN; rw [List.map_map]; rfl) (den_for1 iN (List.range b) (fun k => sV (drawn.getD k [] ++ sufN.getD (c (1 + k) / 48 % 4) [])) ["cells", "drawn"] (H.range.callT (gm 27 rfl) (argd1 (den_var (zm 4 rfl rfl))) con_rangeN (by decide +kernel)) (its_range (by exact lin [_] [.L 1 (.V 0) (.N 3)] (.T 1 (.V 0) (.N 2147483648)) rfl hb2)) (.skip (by decide) (.skip (by decide) (.free (zm 2 rfl rfl) (.inl (gm 2 rfl)) (.free (zm 8 rfl rfl) (.inl (gm 8 rfl)) .nil)))) (fun k hk => ?_) (by simp; exact lin [_, _] [.L 1 (.V 0) (.N 3), .L 1 (.N 10000) (.V 1)] (.L 1 (.V 0) (.V 1)) rfl hb2 hsl) rfl (by decide +kernel))) (noSwap_cell F (gm 9 rfl)) (gm 9 rfl) (turned_zip F.nd (i := 9) rfl (.there (.there (.there (.there (.there (.there (.there (.there (.there .here)))))))))) (fun s₇ P₇ F l₇ => ?_)
  · have hk' := List.mem_range.mp hk
    have e1 : (drawn.map sV)[k]? = some (sV (drawn.getD k [])) := by
      rw [List.getElem?_map, List.getD_eq_getElem?_getD, List.getElem?_eq_getElem (by exact lin [_, _, _] [.Q 1 (.V 0) (.V 1), .T 1 (.V 2) (.V 1)] (.T 1 (.V 2) (.V 0)) rfl hdl hk')]; rfl
    have e2 := suf_ok (c (1 + k) / 48)
    have h1 := ops_ok.2 _ (hdm _ (List.getElem_mem (show k < drawn.length by exact lin [_, _, _] [.Q 1 (.V 0) (.V 1), .T 1 (.V 2) (.V 1)] (.T 1 (.V 2) (.V 0)) rfl hdl hk')))
    have e3 : drawn.getD k [] = drawn[k]'(by exact lin [_, _, _] [.Q 1 (.V 0) (.V 1), .T 1 (.V 2) (.V 1)] (.T 1 (.V 2) (.V 0)) rfl hdl hk') := by rw [List.getD_eq_getElem?_getD, List.getElem?_eq_getElem (by exact lin [_, _, _] [.Q 1 (.V 0) (.V 1), .T 1 (.V 2) (.V 1)] (.T 1 (.V 2) (.V 0)) rfl hdl hk')]; rfl
    refine den_addT (den_itemN (den_var (gm 2 rfl)) (den_var (gm 0 rfl)) (by exact lin [_, _] [.L 1 (.V 0) (.N 3), .T 1 (.V 1) (.V 0)] (.T 1 (.V 1) (.N 9223372036854775808)) rfl hb2 hk') e1) (den_itemTN (l := sufN.map sV) (den_tuple (dens_cons (den_txt [] (by decide +kernel)) (dens_cons (den_txt [32, 98] (by decide +kernel)) (dens_cons (den_txt [34, 10] (by decide +kernel)) (dens_cons (den_txt [92] (by decide +kernel)) dens_nil)))) (by show 4 ≤ sizeLine; exact lin [_] [.L 1 (.N 10000) (.V 0)] (.L 1 (.N 4) (.V 0)) rfl hsl)) (den_modN (den_divN (den_itemN (d := iN (c (1 + k))) (den_var (gm 1 rfl)) (den_addN (den_k 1) (den_var (gm 0 rfl))) (by exact lin [_, _] [.L 1 (.V 0) (.N 3), .T 1 (.V 1) (.V 0)] (.T 1 (.A (.N 1) (.V 1)) (.N 9223372036854775808)) rfl hb2 hk') (hcell _ (by exact lin [_, _] [.L 1 (.V 0) (.N 3), .T 1 (.V 1) (.V 0)] (.T 1 (.A (.N 1) (.V 1)) (.N 6)) rfl hb2 hk'))) (den_k 48) (by exact lin [] [] (.T 1 (.N 0) (.N 48)) rfl) (by exact lin [] [] (.T 1 (.N 48) (.N 1073741824)) rfl)) (den_k 4) (by exact lin [] [] (.T 1 (.N 0) (.N 4)) rfl)) (by have : c (1 + k) / 48 % 4 < 4 := Nat.mod_lt _ (by exact lin [] [] (.T 1 (.N 0) (.N 4)) rfl); exact lin [_] [.T 1 (.V 0) (.N 4)] (.T 1 (.V 0) (.N 9223372036854775808)) rfl this) (by rw [List.getElem?_map, e2.2.2]; rfl)) ?_
    rw [e3]; lia
  have hwo := words_ok (c := c) hdm hdl
  have hwl : (wordsN b drawn c).length = b := by simp [wordsN]
  generalize hwd : wordsN b drawn c = words at F hwo hwl
  have hfl : (digits b sz (c 4)).length = sz := digits_len _ _ _
  have hfb : ∀ x ∈ digits b sz (c 4), x < b := fun x hx => digit_lt (by exact lin [_] [.L 1 (.N 2) (.V 0)] (.T 1 (.N 0) (.V 0)) rfl hb1) hx
  refine sc_names (ys := ["numbers", "first"]) (ds := [rowV (drawn.map numOf), rowV (digits b sz (c 4))]) F (den_tuple (dens2 (den_as (by unfold rowV; rw [List.map_map]; rfl) (den_for1 sV drawn (fun d => iN (numOf d)) [] (τ := []) (den_var (zm 8 rfl rfl)) its_list (.skip (by decide) (.skip (by decide) (.skip (by decide) .nil))) (fun d hd => den_itemS (den_glob (gm 2 rfl) hev rev (by decide +kernel)) (den_var (gm 0 rfl)) (get_ett (hdm d hd))) (by exact lin [_, _, _] [.L 1 (.V 0) (.N 3), .L 1 (.N 10000) (.V 1), .E 1 (.V 2) (.V 0)] (.L 1 (.V 2) (.V 1)) rfl hb2 hsl hdl) rfl (by decide +kernel)))
    (den_as (by unfold rowV digits; rw [List.map_map]; rfl) (den_for1 iN (List.range sz) (fun i => iN (c 4 / b ^ i % b)) ["base", "cells"] (H.range.callT (gm 27 rfl) (argd1 (den_var (zm 3 rfl rfl))) con_rangeN (by decide +kernel)) (its_range (by exact lin [_] [.L 1 (.V 0) (.N 6)] (.T 1 (.V 0) (.N 2147483648)) rfl hs2)) (.skip (by decide) (.skip (by decide) (.free (zm 4 rfl rfl) (.inl (gm 4 rfl)) (.free (zm 2 rfl rfl) (.inl (gm 2 rfl)) .nil)))) (fun i hi => ?_) (by simp; exact lin [_, _] [.L 1 (.V 0) (.N 6), .L 1 (.N 10000) (.V 1)] (.L 1 (.V 0) (.V 1)) rfl hs2 hsl) rfl (by decide +kernel)))) (by simp; exact lin [_] [.L 1 (.N 10000) (.V 0)] (.L 1 (.N 2) (.V 0)) rfl hsl)) (.cons (by decide +kernel) (turned_zip F.nd (i := 10) rfl (.there (.there (.there (.there (.there (.there (.there (.there (.there (.there .here))))))))))) (.cons (by decide +kernel) (turned_zip F.nd (i := 11) rfl (.there (.there (.there (.there (.there (.there (.there (.there (.there (.there (.there .here)))))))))))) .nil)) (by decide +kernel) rfl (swp2 F (gm 10 rfl) (gm 11 rfl) rfl) (fun s₈ P₈ F l₈ => ?_)
  · have hi' := List.mem_range.mp hi
    have hpw : b ^ i < 1073741824 := Nat.lt_of_le_of_lt (Nat.pow_le_pow_left hb2 i) (Nat.lt_of_le_of_lt (Nat.pow_le_pow_right (by exact lin [] [] (.T 1 (.N 0) (.N 3)) rfl) (show i ≤ 6 by exact lin [_, _] [.L 1 (.V 0) (.N 6), .T 1 (.V 1) (.V 0)] (.L 1 (.V 1) (.N 6)) rfl hs2 hi')) (by decide))
    have := hc 4
    exact den_modN (den_divN (den_itemN (d := iN (c 4)) (den_var (gm 2 rfl)) (den_k 4) (by exact lin [] [] (.T 1 (.N 4) (.N 9223372036854775808)) rfl) (hcell 4 (by exact lin [] [] (.T 1 (.N 4) (.N 6)) rfl))) (den_powN (den_var (gm 1 rfl)) (den_var (gm 0 rfl)) (by exact lin [_] [.L 1 (.V 0) (.N 3)] (.T 1 (.V 0) (.N 18446744073709551616)) rfl hb2) (by exact lin [_, _] [.L 1 (.V 0) (.N 6), .T 1 (.V 1) (.V 0)] (.L 1 (.V 1) (.N 1000000)) rfl hs2 hi')) (Nat.pow_pos (by exact lin [_] [.L 1 (.N 2) (.V 0)] (.T 1 (.N 0) (.V 0)) rfl hb1)) hpw) (den_var (gm 1 rfl)) (by exact lin [_] [.L 1 (.N 2) (.V 0)] (.T 1 (.N 0) (.V 0)) rfl hb1)
  generalize hft : digits b sz (c 4) = first at F hfl hfb
  have hwx : ∀ x ∈ first, (words.map sV)[x]? = some (sV (words.getD x [])) := fun x hx => by
    rw [List.getElem?_map, List.getD_eq_getElem?_getD, List.getElem?_eq_getElem (by have := hfb x hx; exact lin [_, _, _] [.Q 1 (.V 0) (.V 1), .T 1 (.V 2) (.V 1)] (.T 1 (.V 2) (.V 0)) rfl hwl this)]; rfl
  have h5 := hc 5
  refine sc_assign F (pv := sV (textTo (first.map (fun x => words.getD x []) ++ [[122]]) (c 5) (sz + 1)).dropLast) (H.g62.den (gm 31 rfl) (argd2 (den_as (b := .list ((first.map (fun x => words.getD x []) ++ [[122]]).map sV)) (by rw [List.map_append, List.map_map]; rfl) (den_addL (den_for1 iN first (fun x => sV (words.getD x [])) ["words"] (den_var (zm 11 rfl rfl)) its_list (.skip (by decide) (.skip (by decide) (.free (zm 9 rfl rfl) (.inl (gm 9 rfl)) .nil))) (fun x hx => den_itemN (den_var (gm 1 rfl)) (den_var (gm 0 rfl)) (by have := hfb x hx; exact lin [_, _] [.L 1 (.V 0) (.N 3), .T 1 (.V 1) (.V 0)] (.T 1 (.V 1) (.N 9223372036854775808)) rfl hb2 this) (hwx x hx)) (by exact lin [_, _, _] [.L 1 (.V 0) (.N 6), .L 1 (.N 10000) (.V 1), .E 1 (.V 2) (.V 0)] (.L 1 (.V 2) (.V 1)) rfl hs2 hsl hfl) rfl (by decide +kernel)) (den_list (dens1 (den_txt [122] (by decide +kernel))) (by simp; exact lin [_] [.L 1 (.N 10000) (.V 0)] (.L 1 (.N 1) (.V 0)) rfl hsl)) (by simp; exact lin [_, _, _] [.L 1 (.V 0) (.N 6), .L 1 (.N 10000) (.V 1), .E 1 (.V 2) (.V 0)] (.L 1 (.A (.V 2) (.N 1)) (.V 1)) rfl hs2 hsl hfl)))
    (den_itemN (d := iN (c 5)) (den_var (zm 2 rfl rfl)) (den_k 5) (by exact lin [] [] (.T 1 (.N 5) (.N 9223372036854775808)) rfl) (hcell 5 (by exact lin [] [] (.T 1 (.N 5) (.N 6)) rfl)))) (fun a D => den_text_con D H.range H.len (by
      intro v hv
      rcases List.mem_append.mp hv with q | q
      · (refine el1x2 (List.mem_map.mp q) ?_; intro x hx hZ; subst hZ)
        rw [List.getD_eq_getElem?_getD, List.getElem?_eq_getElem (show x < words.length by have := hfb x hx; exact lin [_, _, _] [.Q 1 (.V 0) (.V 1), .T 1 (.V 2) (.V 1)] (.T 1 (.V 2) (.V 0)) rfl hwl this)]
        exact (hwo _ (List.getElem_mem _)).1
      · simp at q; subst q; simp) (by simp; exact lin [_, _] [.L 1 (.V 0) (.N 6), .E 1 (.V 1) (.V 0)] (.L 1 (.V 1) (.N 19)) rfl hs2 hfl) (by simp; exact Nat.le_antisymm (lin [_, _] [.E 1 (.V 0) (.V 1)] (.L 1 (.V 0) (.V 1)) rfl hfl) (lin [_, _] [.Q 1 (.V 0) (.V 1)] (.L 1 (.V 1) (.V 0)) rfl hfl))) (by decide +kernel)) rfl (gm 12 rfl) (turned_zip F.nd (i := 12) rfl (.there (.there (.there (.there (.there (.there (.there (.there (.there (.there (.there (.there .here))))))))))))) (fun s₉ P₉ F l₉ => ?_)
  exact h s₉ P₉ _ cs drawn words first sa hcs.symm hdr.symm hwd.symm hft.symm F ((((ll.trans l₅).trans l₇).trans l₈).trans l₉)
end
end
section
open Builtin
noncomputable def mxN (l : List Nat) : Nat := l.foldl Nat.max 0
theorem mx_le : ∀ (l : List Nat) (m : Nat), m ≤ l.foldl Nat.max m ∧ ∀ a ∈ l, a ≤ l.foldl Nat.max m
  | [], m => ⟨Nat.le_refl _, fun a h => nomatch h⟩
  | x :: l, m => by
    rw [List.foldl_cons]
    (refine el0x2 (mx_le l (Nat.max m x)) ?_; intro h1 h2)
    refine ⟨Nat.le_trans (Nat.le_max_left m x) h1, fun a ha => ?_⟩
    rcases List.mem_cons.mp ha with rfl | ha
    · exact Nat.le_trans (Nat.le_max_right m a) h1
    · exact h2 a ha
theorem mx_mem : ∀ (l : List Nat) (m : Nat), l.foldl Nat.max m = m ∨ l.foldl Nat.max m ∈ l
  | [], m => .inl rfl
  | x :: l, m => by
    rw [List.foldl_cons]
    rcases mx_mem l (Nat.max m x) with h | h
    · rw [h]
      by_cases hx : x ≤ m
      · exact .inl (Nat.max_eq_left hx)
      · exact .inr (by rw [show Nat.max m x = x from Nat.max_eq_right (by exact lin [_, _] [.NL 1 (.V 0) (.V 1)] (.L 1 (.V 1) (.V 0)) rfl hx)]; simp)
    · exact .inr (List.mem_cons_of_mem _ h)
theorem mxN_mem {l : List Nat} (h : 1 ≤ l.length) (h1 : ∀ x ∈ l, 1 ≤ x) : mxN l ∈ l := by
  rcases mx_mem l 0 with q | q
  · exfalso
    (refine el2x1 (List.exists_cons_of_ne_nil (by intro e; subst e; simp at h : l ≠ [])) ?_; intro a r hZ; subst hZ)
    have := (mx_le (a :: r) 0).2 a (by simp)
    have := h1 a (by simp)
    lia
  · exact q
noncomputable def valuesN (nums : List Nat) (sz : Nat) : List Nat := nums.map (fun x => x + 255 - mxN nums) ++ (List.range sz).map (256 + ·)
noncomputable def kindsN (nums : List Nat) (sz : Nat) : List Nat := ([0] ++ nums ++ valuesN nums sz).map fun x => kindOf3 ((x : Nat) : Int)
theorem kinds_eq {nums : List Nat} {b sz : Nat} (hl : nums.length = b) (hr : ∀ x ∈ nums, 7 ≤ x ∧ x ≤ 54) : kindsN nums sz = [0] ++ List.replicate (2 * b) 1 ++ List.replicate sz 2 := by
  have k1 : ∀ x : Nat, 1 ≤ x → x < 256 → kindOf3 ((x : Nat) : Int) = 1 := fun x h1 h2 => by
    unfold kindOf3
    rw [if_neg (by simp; exact fun q => lin [_] [.L 1 (.N 1) (.V 0), .E 1 (.V 0) (.N 0)] .F rfl h1 q), if_pos (by lia)]
  have k2 : ∀ x : Nat, 256 ≤ x → kindOf3 ((x : Nat) : Int) = 2 := fun x h1 => by
    unfold kindOf3
    rw [if_neg (by simp; exact fun q => lin [_] [.L 1 (.N 256) (.V 0), .E 1 (.V 0) (.N 0)] .F rfl h1 q), if_neg (by lia)]
  have rep : ∀ {α : Type} (l : List α) (f : α → Nat) (k : Nat), (∀ x ∈ l, f x = k) → l.map f = List.replicate l.length k := by
    intro α l f k h
    induction l with
    | nil => rfl
    | cons a l ih => rw [List.map_cons, h a (by simp), ih fun x hx => h x (List.mem_cons_of_mem _ hx), List.length_cons, List.replicate_succ]
  unfold kindsN valuesN
  rw [List.map_append, List.map_append, List.map_append, List.map_map, List.map_map]
  have e1 : nums.map (fun x => kindOf3 ((x : Nat) : Int)) = List.replicate nums.length 1 := rep nums _ 1 fun x hx => k1 x (by have := hr x hx; exact lin [_] [.L 1 (.N 7) (.V 0)] (.L 1 (.N 1) (.V 0)) rfl this.1) (by have := hr x hx; exact lin [_] [.L 1 (.V 0) (.N 54)] (.T 1 (.V 0) (.N 256)) rfl this.2)
  have e2 : nums.map ((fun x : Nat => kindOf3 ((x : Nat) : Int)) ∘ fun x => x + 255 - mxN nums) = List.replicate nums.length 1 := rep nums _ 1 fun x hx => k1 (x + 255 - mxN nums) (by
    have h1 := hr x hx
    have h2 := (mx_le nums 0).2 x hx
    have h3 : mxN nums ≤ 54 := by
      have := mxN_mem (l := nums) (by cases nums with | nil => cases hx | cons a l => simp) fun y hy => by have := hr y hy; exact lin [_] [.L 1 (.N 7) (.V 0)] (.L 1 (.N 1) (.V 0)) rfl this.1
      exact (hr _ this).2
    lia) (by
    have h1 := hr x hx
    have h2 : x ≤ mxN nums := (mx_le nums 0).2 x hx
    lia)
  have e3 : (List.range sz).map ((fun x : Nat => kindOf3 ((x : Nat) : Int)) ∘ fun x => 256 + x) = List.replicate (List.range sz).length 2 := rep (List.range sz) _ 2 fun x hx => k2 (256 + x) (by exact lin [_] [] (.L 1 (.N 256) (.A (.N 256) (.V 0))) rfl)
  rw [e1, e2, e3, List.length_range, hl, show 2 * b = b + b by exact Nat.le_antisymm (lin [_] [] (.L 1 (.M 2 (.V 0)) (.A (.V 0) (.V 0))) rfl) (lin [_] [] (.L 1 (.A (.V 0) (.V 0)) (.M 2 (.V 0))) rfl), ← List.replicate_append_replicate]
  simp only [List.append_assoc]
  rfl
noncomputable def hashN (k : Nat) : List Nat := List.replicate k 35
theorem hash_mul (k : Nat) : Txt.mul (tx [35]) ((k : Nat) : Int) = tx (hashN k) := by
  rw [mul_tx]
  congr 1
  unfold hashN
  induction k with
  | zero => rfl
  | succ k ih => rw [List.replicate_succ, List.flatten_cons, ih, List.replicate_succ]; rfl
theorem flat_one {α : Type} (a : α) : ∀ k, (List.replicate k [a]).flatten = List.replicate k a
  | 0 => rfl
  | k + 1 => by rw [List.replicate_succ, List.flatten_cons, flat_one a k, List.replicate_succ]; rfl
end
section
open PySem.W Builtin
structure LexOk (text : List Nat) (ws : List (List Nat)) (rests : Nat → List Nat) : Prop where
  z : rests 0 = text
  s : ∀ j w, ws[j]? = some w → tokO (rests j) = (w, rests (j + 1))
  e : rests ws.length = []
  b : ∀ j, (rests j).length ≤ 10000
noncomputable def pre3 (ns : List Int) (c : Nat → Nat) (sz b : Nat) (w0 w1 : Int) (sa CT : Addr) (drawn words : List (List Nat)) (nums first text : List Nat) : List (Option PV) :=
  pre2 ns c sz b w0 w1 ++ [some (.raw (.ref sa)), some (.inst CT "comp_select_list" (.list ([(1, w0), (0, w1)].map dirV))), some (.list (drawn.map sV)), some (.list (words.map sV)), some (rowV nums), some (rowV first), some (sV text)]
noncomputable def namesN (words : List (List Nat)) (sz : Nat) : List (List Nat) := words ++ (List.range sz).map fun k => hashN (1 + k)
section
variable {prog : Program} {w : World} {G : GC} {n : Nat} {A : Around} {W V : Addr → Prop} {s₀ : Shared} {P₀ : PMap} {env : Env} {M X P : PMap} {s : Shared} {Q : Flow → Shared → Prop}
variable {T C CT : Addr} {mN mT : Str → Option Value} {fI fR fG fP fTI fTC : Addr}
theorem den_rows_con {a : Addr} {b : Nat} {fs : List Nat} (D : Df G.K (pm 65) (bd 65) (sp 65) a) (b1 : Gb G "range" (.type "range")) (b2 : Gb G "len" (.builtin "len")) (hb : 0 < b) (hb' : b ≤ 3) (hf : fs.length ≤ 6) : Con prog w G (n + 1) (.ref a) [rowV fs, iN b] (.list ((rowsOf b fs).map rowV)) :=
  con_rows D hb hb' hf (Nat.le_trans (Nat.pow_le_pow_left hb' _) (Nat.le_trans (Nat.pow_le_pow_right (by exact lin [] [] (.T 1 (.N 0) (.N 3)) rfl) hf) (by decide))) b1 b2
theorem law_3 {ns : List Int} {c : Nat → Nat} {sz b : Nat} {w0 w1 : Int} {sa : Addr} {drawn words : List (List Nat)} {nums first text : List Nat} {rests : Nat → List Nat} (H : LawG G T C CT mN mT fI fR fG fP fTI fTC) (hs1 : 4 ≤ sz) (hs2 : sz ≤ 6) (hb1 : 2 ≤ b) (hb2 : b ≤ 3)
    (hwl : words.length = b) (hwo : ∀ v ∈ words, v.length ≤ 8 ∧ ∀ x ∈ v, x < 128) (hnl : nums.length = b) (hnr : ∀ x ∈ nums, 7 ≤ x ∧ x ≤ 54) (hfl : first.length = sz) (hfb : ∀ x ∈ first, x < b) (htl : text.length ≤ 1000) (hlex : LexOk text (first.map (fun x => words.getD x []) ++ [[122], []]) rests)
    (hT : X T = some (tabObj #[]))
    (F : Fn prog w G (n + 5) A W V s₀ P₀ env (sp 70).names lwN M X P (lwN.zip (pre3 ns c sz b w0 w1 sa CT drawn words nums first text ++ List.replicate 14 none)) s)
    (h : ∀ s' X' P' L ln, L.C = C → L.T = T → LexX prog w L X' P' [] (rests sz) ln → tot ln (rests sz) = tot 1 text → 
      Fn prog w G (n + 5) A W V s₀ P₀ env (sp 70).names lwN M X' P' (lwN.zip (pre3 ns c sz b w0 w1 sa CT drawn words nums first text ++ [some (.raw (.ref L.x)), some (.list ((rowsOf b first).map rowV)), some (.list ((namesN words sz).map sV)), some (rowV (valuesN nums sz)), some (rowV (kindsN nums sz))] ++ List.replicate 9 none)) s' → PMap.le P P' → Run prog w A env ((bd 70).drop 13) Q s') :
    Run prog w A env ((bd 70).drop 9) Q s := by
  have hsl : (10000 : Nat) ≤ sizeLine := by unfold sizeLine; exact lin [] [] (.L 1 (.N 10000) (.N 16777216)) rfl
  (refine el1x3 (id H.lex.maker) ?_; intro lf hlf hDf hZ; refine el3x4 hZ ?_; clear hZ; intro o₁ fd₁ cc ho₁ hfd₁ hcc hC)
  have hwx : ∀ x ∈ first, (words.map sV)[x]? = some (sV (words.getD x [])) := fun x hx => by
    rw [List.getElem?_map, List.getD_eq_getElem?_getD, List.getElem?_eq_getElem (by have := hfb x hx; exact lin [_, _, _] [.Q 1 (.V 0) (.V 1), .T 1 (.V 2) (.V 1)] (.T 1 (.V 2) (.V 0)) rfl hwl this)]; rfl
  refine sc_tup (G := G) (n := n + 5) (W := W) (V := V) (s₀ := s₀) (P₀ := P₀) (sc := (sp 70).names) (xs := lwN) (ys := ["lexer", "rows", "names"]) (by decide +kernel) (spliced_cons (wpAny_Call_Name_kw (F.evald (den_glob (gm 32 rfl) hlf (.raw _) (by decide +kernel)) fun v s₁ P₁ F₁ l₁ k₁ r₁ => ?_))) rfl (swp3 F (gm 13 rfl) (gm 14 rfl) (gm 15 rfl) rfl)
  (have h := Rp.raw_inv r₁; clear r₁; subst h)
  refine callWith_function (o := o₁) (fd := fd₁) (evalArgs_plain (spliced_cons (F₁.evald (den_var (zm 12 rfl rfl)) fun v s₂ P₂ F₂ l₂ k₂ r₂ => spliced_nil ⟨⟨F₂.cx.sub _ _ (F₂.cx.base _ _ ho₁), hfd₁⟩, ?_⟩)))
  refine wpAny_mono (lexer_call (n := n + 2) H.lex hlf hT F₂.cx.ok F₂.cx.base F₂.cx.sub F₂.cx.room F₂.mux F₂.disX r₂ (by exact lin [_] [.L 1 (.V 0) (.N 1000)] (.L 1 (.V 0) (.N 10000)) rfl htl)) (fun v s₃ e => ?_) fun _ _ q => q.elim
  (refine el1x3 e ?_; clear e; intro L hLC hLT e)
  (refine el2x5 (F₂.behind e) ?_; intro X₃ P₃ F₃ l₃ r₃ lx₃ _)
  have F := F₃
  refine spliced_cons (F.evald (H.g65.den (gm 33 rfl) (argd2 (den_var (zm 11 rfl rfl)) (den_var (zm 4 rfl rfl))) (fun a D => den_rows_con D H.range H.len (by exact lin [_] [.L 1 (.N 2) (.V 0)] (.T 1 (.N 0) (.V 0)) rfl hb1) hb2 (by exact lin [_, _] [.L 1 (.V 0) (.N 6), .E 1 (.V 1) (.V 0)] (.L 1 (.V 1) (.N 6)) rfl hs2 hfl)) (by decide +kernel)) fun v' s₄ P₄ F₄ l₄ k₄ r₄ => ?_)
  have F := F₄
  refine spliced_cons (F.evald (den_as (b := .list ((namesN words sz).map sV)) (by unfold namesN; rw [List.map_append, List.map_map]; rfl) (den_addL (den_var (zm 9 rfl rfl)) (den_for1 iN (List.range sz) (fun k => sV (hashN (1 + k))) [] (τ := []) (H.range.callT (gm 27 rfl) (argd1 (den_var (zm 3 rfl rfl))) con_rangeN (by decide +kernel)) (its_range (by exact lin [_] [.L 1 (.V 0) (.N 6)] (.T 1 (.V 0) (.N 2147483648)) rfl hs2)) (.skip (by decide) (.skip (by decide) .nil))
    (fun k hk => den_as (by unfold sV; rw [← hash_mul]) (den_mulS (den_txt [35] (by decide +kernel)) (den_addN (den_k 1) (den_var (gm 0 rfl))) (by simp [tx_len]) (by lia) (by have := List.mem_range.mp hk; lia))) (by simp; exact lin [_, _] [.L 1 (.V 0) (.N 6), .L 1 (.N 10000) (.V 1)] (.L 1 (.V 0) (.V 1)) rfl hs2 hsl) rfl (by decide +kernel)) (by simp; exact lin [_, _, _, _] [.L 1 (.V 0) (.N 6), .L 1 (.V 1) (.N 3), .E 1 (.V 2) (.V 1), .L 1 (.N 10000) (.V 3)] (.L 1 (.A (.V 2) (.V 0)) (.V 3)) rfl hs2 hb2 hwl hsl))) fun v'' s₅ P₅ F₅ l₅ k₅ r₅ => spliced_nil
    (in6x5 _ _ _ ([.raw (.ref L.x), .list ((rowsOf b first).map rowV), .list ((namesN words sz).map sV)]) _ (lwN.zip (pre3 ns c sz b w0 w1 sa CT drawn words nums first text ++ [some (.raw (.ref L.x)), some (.list ((rowsOf b first).map rowV)), some (.list ((namesN words sz).map sV))] ++ List.replicate 11 none)) F₅ (.cons ((r₃.mono l₄).mono l₅) (.cons (r₄.mono l₅) (.cons r₅ .nil))) (by simp) (.cons (by decide +kernel) (turned_zip F.nd (i := 13) rfl (.there (.there (.there (.there (.there (.there (.there (.there (.there (.there (.there (.there (.there .here)))))))))))))) (.cons (by decide +kernel) (turned_zip F.nd (i := 14) rfl (.there (.there (.there (.there (.there (.there (.there (.there (.there (.there (.there (.there (.there (.there .here))))))))))))))) (.cons (by decide +kernel) (turned_zip F.nd (i := 15) rfl (.there (.there (.there (.there (.there (.there (.there (.there (.there (.there (.there (.there (.there (.there (.there .here)))))))))))))))) .nil))) (fun s₆ P₆ F₆ l₆ => ?_)))
  have lx := ((lx₃.mono l₄).mono l₅).mono l₆
  have ll := ((((l₁.trans l₂).trans l₃).trans l₄).trans l₅).trans l₆
  clear F₁ F₂ F₃ F₄ F₅ F
  have F := F₆
  have hmm := mxN_mem (l := nums) (by exact lin [_, _] [.L 1 (.N 2) (.V 0), .Q 1 (.V 1) (.V 0)] (.L 1 (.N 1) (.V 1)) rfl hb1 hnl) fun x hx => by have := hnr x hx; exact lin [_] [.L 1 (.N 7) (.V 0)] (.L 1 (.N 1) (.V 0)) rfl this.1
  have hmr := hnr _ hmm
  refine sc_assign F (pv := rowV (valuesN nums sz)) (den_as (by unfold rowV valuesN; rw [List.map_append, List.map_map, List.map_map]; rfl) (den_addL (den_for1 iN nums (fun x => iN (x + 255 - mxN nums)) ["numbers"] (den_var (zm 10 rfl rfl)) its_list (.skip (by decide) (.skip (by decide) (.skip (by decide) (.free (zm 10 rfl rfl) (.inl (gm 10 rfl)) .nil))))
    (fun x hx => den_as (a := .int (((x + 255 : Nat) : Int) - ((mxN nums : Nat) : Int))) (by unfold iN; congr 1; have := (mx_le nums 0).2 x hx; lia) (den_sub (den_addN (den_var (gm 0 rfl)) (den_k 255)) (H.max.call (gm 2 rfl) (argd1 (den_as (b := .list ((nums.map fun x : Nat => (x : Int)).map .int)) (by unfold rowV; rw [List.map_map]; rfl) (den_var (gm 1 rfl)))) (con_max (m := ((mxN nums : Nat) : Int)) (List.mem_map.mpr (in1x2 _ hmm rfl)) (fun a ha => by
      (refine el1x2 (List.mem_map.mp ha) ?_; intro y hy hZ; subst hZ)
      have := (mx_le nums 0).2 y hy
      show ((y : Nat) : Int) ≤ ((mxN nums : Nat) : Int)
      unfold mxN; lia)) (by decide +kernel)))) (by exact lin [_, _, _] [.L 1 (.V 0) (.N 3), .E 1 (.V 1) (.V 0), .L 1 (.N 10000) (.V 2)] (.L 1 (.V 1) (.V 2)) rfl hb2 hnl hsl) rfl (by decide +kernel))
    (den_for1 iN (List.range sz) (fun k => iN (256 + k)) [] (τ := []) (H.range.callT (gm 27 rfl) (argd1 (den_var (zm 3 rfl rfl))) con_rangeN (by decide +kernel)) (its_range (by exact lin [_] [.L 1 (.V 0) (.N 6)] (.T 1 (.V 0) (.N 2147483648)) rfl hs2)) (.skip (by decide) (.skip (by decide) .nil)) (fun k hk => den_addN (den_k 256) (den_var (gm 0 rfl))) (by simp; exact lin [_, _] [.L 1 (.V 0) (.N 6), .L 1 (.N 10000) (.V 1)] (.L 1 (.V 0) (.V 1)) rfl hs2 hsl) rfl (by decide +kernel)) (by simp; exact lin [_, _, _, _] [.L 1 (.V 0) (.N 6), .L 1 (.V 1) (.N 3), .E 1 (.V 2) (.V 1), .L 1 (.N 10000) (.V 3)] (.L 1 (.A (.V 2) (.V 0)) (.V 3)) rfl hs2 hb2 hnl hsl))) rfl (gm 16 rfl) (turned_zip F.nd (i := 16) rfl (.there (.there (.there (.there (.there (.there (.there (.there (.there (.there (.there (.there (.there (.there (.there (.there .here))))))))))))))))) (fun s₇ P₇ F l₇ => ?_)
  have hvl : (valuesN nums sz).length ≤ 10 := by unfold valuesN; simp; exact lin [_, _, _] [.L 1 (.V 0) (.N 6), .L 1 (.V 1) (.N 3), .E 1 (.V 2) (.V 1)] (.L 1 (.A (.V 2) (.V 0)) (.N 10)) rfl hs2 hb2 hnl
  (refine el1x1 (H.hE) ?_; intro tE hE)
  obtain ⟨tN, hN⟩ := H.hN
  refine sc_assign F (pv := rowV (kindsN nums sz)) (den_as (by unfold rowV kindsN; rw [List.map_map]; rfl) (den_for1 iN ([0] ++ nums ++ valuesN nums sz) (fun x => iN (kindOf3 ((x : Nat) : Int))) [] (τ := []) (den_as (by rw [List.map_append, List.map_append]; rfl) (den_addL (den_addL (den_list (dens1 (den_k 0)) (by simp; exact lin [_] [.L 1 (.N 10000) (.V 0)] (.L 1 (.N 1) (.V 0)) rfl hsl)) (den_var (zm 10 rfl rfl)) (by simp; exact lin [_, _, _] [.L 1 (.V 0) (.N 3), .E 1 (.V 1) (.V 0), .L 1 (.N 10000) (.V 2)] (.L 1 (.A (.N 1) (.V 1)) (.V 2)) rfl hb2 hnl hsl)) (den_var (zm 16 rfl rfl)) (by simp; exact lin [_, _, _, _] [.L 1 (.V 0) (.N 3), .E 1 (.V 1) (.V 0), .L 1 (.N 10000) (.V 2), .L 1 (.V 3) (.N 10)] (.L 1 (.A (.A (.V 1) (.N 1)) (.V 3)) (.V 2)) rfl hb2 hnl hsl hvl))) its_list (.skip (by decide) (.skip (by decide) (.skip (by decide) .nil)))
    (fun x hx => H.g64.den (gm 2 rfl) (argd1 (den_var (gm 0 rfl))) (fun a D => con_kind (n := n + 3) D (by lia) hE hN H.g60 H.g58 H.g59 H.all H.isin H.bool) (by decide +kernel)) (by simp; exact lin [_, _, _, _] [.L 1 (.V 0) (.N 3), .E 1 (.V 1) (.V 0), .L 1 (.N 10000) (.V 2), .L 1 (.V 3) (.N 10)] (.L 1 (.A (.A (.V 1) (.V 3)) (.N 1)) (.V 2)) rfl hb2 hnl hsl hvl) rfl (by decide +kernel))) (noSwap_cell F (gm 17 rfl)) (gm 17 rfl) (turned_zip F.nd (i := 17) rfl (.there (.there (.there (.there (.there (.there (.there (.there (.there (.there (.there (.there (.there (.there (.there (.there (.there .here)))))))))))))))))) (fun s₈ P₈ F l₈ => ?_)
  have lx := (lx.mono l₇).mono l₈
  have ll := (ll.trans l₇).trans l₈
  rw [← hlex.z] at lx
  have hbw : ∀ a ∈ first.map (fun x => words.getD x []), ∀ c ∈ a, c < 0x110000 := fun a ha => by
    (refine el1x2 (List.mem_map.mp ha) ?_; intro x hx hZ; subst hZ)
    rw [List.getD_eq_getElem?_getD, List.getElem?_eq_getElem (show x < words.length by have := hfb x hx; exact lin [_, _, _] [.Q 1 (.V 0) (.V 1), .T 1 (.V 2) (.V 1)] (.T 1 (.V 2) (.V 0)) rfl hwl this)]
    intro c hc
    have := (hwo _ (List.getElem_mem (show x < words.length by have := hfb x hx; exact lin [_, _, _] [.Q 1 (.V 0) (.V 1), .T 1 (.V 2) (.V 1)] (.T 1 (.V 2) (.V 0)) rfl hwl this))).2 c hc
    exact lin [_] [.T 1 (.V 0) (.N 128)] (.T 1 (.V 0) (.N 1114112)) rfl this
  have hc2 : Cmp prog w .NotEq (.list ((first.map fun x => words.getD x []).map sV)) (.list (first.map fun x => sV (words.getD x []))) false := by
    have := cmp_neM (prog := prog) (w := w) (enc := sV) (k := 0) (l := first.map fun x => words.getD x []) (m := first.map fun x => words.getD x []) (by exact lin [] [] (.L 1 (.N 0) (.N 63)) rfl) (fun a ha => okk_sV (hbw a ha)) (fun a ha => okk_sV (hbw a ha)) fun _ _ _ _ => eqv_sV
    rw [bne_self_eq_false, List.map_map] at this
    rw [List.map_map]
    exact this
  have hc3 : Cmp prog w .NotEq (rowV (kindsN nums sz)) (.list ([iN 0] ++ List.replicate (2 * b) (iN 1) ++ List.replicate sz (iN 2))) false := by
    have := cmp_neM (prog := prog) (w := w) (enc := iN) (k := 0) (l := kindsN nums sz) (m := kindsN nums sz) (by exact lin [] [] (.L 1 (.N 0) (.N 63)) rfl) (fun _ _ => okk_iN) (fun _ _ => okk_iN) fun _ _ _ _ => eqv_iN
    rw [bne_self_eq_false] at this
    have e : (kindsN nums sz).map iN = [iN 0] ++ List.replicate (2 * b) (iN 1) ++ List.replicate sz (iN 2) := by rw [kinds_eq hnl hnr]; simp
    rw [← e]
    exact this
  refine sc_of (wpAny_If (isTrue_or (wpAny_isTrue_Compare1 (F.toks (γ := Nat) (enc := iN) (items := first) (toks := first.map fun x => words.getD x []) (pbs := fun _ => []) (rests := rests) (ns := ["lexer"]) (τ := [("lexer", some (.raw (.ref L.x)))])
    (H.lex.lc hLC) H.lex.bi lx (by simp) (fun j => ⟨hlex.b j, by simp⟩) (fun j t ht => ?_) (den_var (zm 11 rfl rfl)) its_list (.skip (by decide) (.skip (by decide) (.free (zm 13 rfl rfl) (.inl (gm 13 rfl)) .nil))) (by simp) (by exact lin [_, _] [.L 1 (.V 0) (.N 6), .E 1 (.V 1) (.V 0)] (.L 1 (.V 1) (.N 1000)) rfl hs2 hfl) rfl (by decide +kernel) (fun v sa' Xa Pa lna Fa lla ra ta' lxa => ?_)) rfl)))
  · have := hlex.s j t (by rw [List.getElem?_append_left (List.getElem?_eq_some_iff.mp ht).1]; exact ht)
    show ((tokO (rests j)).1, [], (tokO (rests j)).2) = _
    rw [this]
  · have hfm : (first.map fun x => words.getD x []).length = sz := by simp [hfl]
    rw [hfm] at ta' lxa
    have F := Fa
    refine F.evald (den_for1 iN first (fun x => sV (words.getD x [])) ["words"] (den_var (zm 11 rfl rfl)) its_list (.skip (by decide) (.skip (by decide) (.free (zm 9 rfl rfl) (.inl (gm 9 rfl)) .nil))) (fun x hx => den_itemN (den_var (gm 1 rfl)) (den_var (gm 0 rfl)) (by have := hfb x hx; exact lin [_, _] [.L 1 (.V 0) (.N 3), .T 1 (.V 1) (.V 0)] (.T 1 (.V 1) (.N 9223372036854775808)) rfl hb2 this) (hwx x hx)) (by exact lin [_, _, _] [.L 1 (.V 0) (.N 6), .E 1 (.V 1) (.V 0), .L 1 (.N 10000) (.V 2)] (.L 1 (.V 1) (.V 2)) rfl hs2 hfl hsl) rfl (by decide +kernel)) fun v' sb Pb Fb lb kb rb => ?_
    refine hc2 _ Pb _ v v' _ Fb.cx.room.hd (by have := Fb.cx.room.un; exact lin [_, _, _] [.T 1 (.A (.A (.V 0) (.N 80)) (.M 10 (.A (.A (.V 1) (.N 1)) (.N 4)))) (.V 2)] (.T 1 (.A (.V 0) (.N 80)) (.V 2)) rfl this) Fb.cx.sub (ra.mono lb) rb fun tk => wpAny_truthy_bool ?_
    have Fc := Fb.move (tk := tk) (Keep.refl _) (PMap.le_refl _) Fb.cx.sub (Grew.refl _ _)
    have F := Fc
    refine isTrue_or (F.test (dent_cmp (den_var (zm 17 rfl rfl)) (den_addL (den_addL (den_list (dens1 (den_k 0)) (by simp; exact lin [_] [.L 1 (.N 10000) (.V 0)] (.L 1 (.N 1) (.V 0)) rfl hsl)) (den_as (a := .list (List.replicate (((2 * b : Nat) : Int)).toNat [iN 1]).flatten) (b := .list (List.replicate (2 * b) (iN 1))) (by rw [show (((2 * b : Nat) : Int)).toNat = 2 * b from Int.toNat_natCast _, flat_one]) (den_mulL (den_list (dens1 (den_k 1)) (by simp; exact lin [_] [.L 1 (.N 10000) (.V 0)] (.L 1 (.N 1) (.V 0)) rfl hsl)) (den_mulN (den_k 2) (den_var (zm 4 rfl rfl)) (by decide) (by exact lin [_] [.L 1 (.V 0) (.N 3)] (.T 1 (.V 0) (.N 18446744073709551616)) rfl hb2)) (by lia) (by lia) (by simp; lia))) (by simp; exact lin [_, _] [.L 2 (.V 0) (.N 3), .L 1 (.N 10000) (.V 1)] (.L 1 (.A (.N 1) (.M 2 (.V 0))) (.V 1)) rfl hb2 hsl)) (den_as (a := .list (List.replicate (((sz : Nat) : Int)).toNat [iN 2]).flatten) (b := .list (List.replicate sz (iN 2))) (by rw [show (((sz : Nat) : Int)).toNat = sz from Int.toNat_natCast _, flat_one]) (den_mulL (den_list (dens1 (den_k 2)) (by simp; exact lin [_] [.L 1 (.N 10000) (.V 0)] (.L 1 (.N 1) (.V 0)) rfl hsl)) (den_var (zm 3 rfl rfl)) (by lia) (by lia) (by simp; exact lin [_] [.L 1 (.V 0) (.N 6)] (.L 1 (.V 0) (.N 16777216)) rfl hs2))) (by simp; exact lin [_, _, _] [.L 1 (.V 0) (.N 6), .L 2 (.V 1) (.N 3), .L 1 (.N 10000) (.V 2)] (.L 1 (.A (.A (.M 2 (.V 1)) (.N 1)) (.V 0)) (.V 2)) rfl hs2 hb2 hsl)) hc3) fun s₉ P₉ F₉ l₉ => isTrue_or_nil ?_)
    refine Run.run (b := []) (sc_nil (then_next ?_))
    exact h s₉ Xa P₉ L lna hLC hLT ((lxa.mono lb).mono l₉) (ta'.trans (by rw [hlex.z])) F₉ (((ll.trans lla).trans lb).trans l₉)
end
end
section
open PySem.W Builtin
theorem getK_put {κ : Type} [DecidableEq κ] (d : List (κ × Int)) (k k' : κ) (v : Int) : getK (putK d k v) k' = if k = k' then some v else getK d k' := by
  unfold putK
  by_cases ha : d.any (fun p => p.1 = k) = true
  · rw [if_pos ha]
    induction d with
    | nil => simp at ha
    | cons p d ih =>
      unfold getK at ih ⊢
      rw [List.map_cons, List.find?_cons, List.find?_cons]
      by_cases h1 : p.1 = k
      · subst h1
        by_cases h2 : p.1 = k'
        · subst h2; simp
        · simp only [if_true, h2, decide_false, if_false]
          by_cases h3 : d.any (fun q => q.1 = p.1) = true
          · have := ih h3; simp only [h2, if_false] at this; exact this
          · have e : (d.map fun q => if q.1 = p.1 then (q.1, v) else q) = d := by
              have : ∀ q ∈ d, (if q.1 = p.1 then (q.1, v) else q) = q := fun q hq => by
                rw [if_neg]; intro z; exact h3 (List.any_eq_true.mpr (in1x2 q hq (by simpa using z)))
              conv => rhs; rw [← List.map_id d]
              exact List.map_congr_left fun q hq => by simpa using this q hq
            rw [e]
      · have ha' : d.any (fun p => p.1 = k) = true := by simpa [h1] using ha
        rw [if_neg h1]
        by_cases h2 : p.1 = k'
        · subst h2; simp only [decide_true, Option.map_some]; rw [if_neg (fun z => h1 z.symm)]
        · simp only [h2, decide_false]; exact ih ha'
  · rw [if_neg ha]
    unfold getK
    rw [List.find?_append]
    have hn : ∀ q ∈ d, ¬ q.1 = k := fun q hq z => ha (List.any_eq_true.mpr (in1x2 q hq (by simpa using z)))
    by_cases h : k = k'
    · subst h
      have : d.find? (fun p => decide (p.1 = k)) = none := by rw [List.find?_eq_none]; intro q hq; simpa using hn q hq
      rw [this]; simp
    · simp [h]
theorem getK_table {κ : Type} [DecidableEq κ] (nm : Nat → κ) (g : Nat → Int) : ∀ (N : Nat) (i : Nat), (∀ a < N, ∀ b < N, nm a = nm b → a = b) → i < N → getK ((List.range N).foldl (fun d k => putK d (nm k) (g k)) []) (nm i) = some (g i)
  | 0, i, _, h => by lia
  | N + 1, i, hd, h => by
    rw [List.range_succ, List.foldl_append, List.foldl_cons, List.foldl_nil, getK_put]
    by_cases hi : N = i
    · subst hi; rw [if_pos rfl]
    · rw [if_neg (fun e => hi (hd N (by exact lin [_] [] (.T 1 (.V 0) (.A (.V 0) (.N 1))) rfl) i h e))]
      exact getK_table nm g N i (fun a ha b hb => hd a (by exact lin [_, _] [.T 1 (.V 0) (.V 1)] (.T 1 (.V 0) (.A (.V 1) (.N 1))) rfl ha) b (by exact lin [_, _] [.T 1 (.V 0) (.V 1)] (.T 1 (.V 0) (.A (.V 1) (.N 1))) rfl hb)) (by lia)
theorem getK_table_none {κ : Type} [DecidableEq κ] (nm : Nat → κ) (g : Nat → Int) (k : κ) : ∀ (N : Nat), (∀ a < N, nm a ≠ k) → getK ((List.range N).foldl (fun d k => putK d (nm k) (g k)) []) k = none
  | 0, _ => rfl
  | N + 1, hd => by
    rw [List.range_succ, List.foldl_append, List.foldl_cons, List.foldl_nil, getK_put, if_neg (hd N (by exact lin [_] [] (.T 1 (.V 0) (.A (.V 0) (.N 1))) rfl))]
    exact getK_table_none nm g k N fun a ha => hd a (by exact lin [_, _] [.T 1 (.V 0) (.V 1)] (.T 1 (.V 0) (.A (.V 1) (.N 1))) rfl ha)
theorem ops_head : ∀ d ∈ opsN, ∃ c r, d = c :: r ∧ c ≠ 35 ∧ c ≠ 122 ∧ c ≠ 34 ∧ wsp.contains c = false ∧ c ≠ 92 := by
  have : ∀ d ∈ opsN, (match d with | c :: r => decide (c ≠ 35 ∧ c ≠ 122 ∧ c ≠ 34 ∧ wsp.contains c = false ∧ c ≠ 92) | [] => false) = true := by decide +kernel
  intro d hd
  have h := this d hd
  cases d with
  | nil => exact no3 h
  | cons c r => exact (in2x2 c r rfl (by simpa using h))
theorem ops_cut : ∀ d ∈ opsN, ∀ k < 4, (d ++ sufN.getD k []).takeWhile (fun c => c != 32 && c != 34 && c != 92) = d := by decide +kernel
theorem ops_nodup : opsN.Nodup := by decide +kernel
theorem nums_inj : (opsN.map numOf).Nodup := by decide +kernel
theorem num_inj {a b : List Nat} (ha : a ∈ opsN) (hb : b ∈ opsN) (h : numOf a = numOf b) : a = b := by
  have := nums_inj
  rw [List.Nodup, List.pairwise_map] at this
  obtain ⟨i, hi, rfl⟩ := List.getElem_of_mem ha
  obtain ⟨j, hj, rfl⟩ := List.getElem_of_mem hb
  rw [List.pairwise_iff_getElem] at this
  rcases Nat.lt_trichotomy i j with q | q | q
  · exact absurd h (this i j hi hj q)
  · subst q; rfl
  · exact absurd h.symm (this j i hj hi q)
theorem ls_nodup (cs : List Nat) : ∀ j, (lsN cs j).Nodup := by
  intro j
  have gen : ∀ (m : List Nat) (l : List (List Nat)), l.Nodup → (m.foldl (fun l d => l.eraseIdx (d % 48 % l.length)) l).Nodup := by
    intro m
    induction m with
    | nil => intro l h; exact h
    | cons c m ih => intro l h; exact ih _ (List.Nodup.sublist (List.eraseIdx_sublist _ _) h)
  exact gen _ _ ops_nodup
theorem ls_mono (cs : List Nat) {i j : Nat} (h : i ≤ j) : ∀ d ∈ lsN cs j, d ∈ lsN cs i := by
  have gen : ∀ (m : List Nat) (l : List (List Nat)), ∀ d ∈ m.foldl (fun l d => l.eraseIdx (d % 48 % l.length)) l, d ∈ l := by
    intro m
    induction m with
    | nil => intro l d h; exact h
    | cons c m ih => intro l d h; exact List.mem_of_mem_eraseIdx (ih _ d h)
  intro d hd
  unfold lsN at hd ⊢
  have e : cs.take j = cs.take i ++ (cs.drop i).take (j - i) := by
    have := List.take_add (l := cs) (i := i) (j := j - i)
    rw [show i + (j - i) = j by lia] at this
    exact this
  rw [e, List.foldl_append] at hd
  exact gen _ _ d hd
theorem drawn_nodup (cs : List Nat) (hc : cs.length ≤ 3) : (drawnN cs).Nodup := by
  unfold drawnN
  rw [List.Nodup, List.pairwise_map]
  refine List.Pairwise.imp_of_mem (fun {i j} hi hj hij e => ?_) List.pairwise_lt_range
  have hi' := List.mem_range.mp hi
  have hj' := List.mem_range.mp hj
  (refine el0x3 (ls_len cs hc i) ?_; intro l1 _ _)
  (refine el0x3 (ls_len cs hc j) ?_; intro l2 _ _)
  have hlt : cs.getD i 0 % 48 % (lsN cs i).length < (lsN cs i).length := Nat.mod_lt _ (by exact lin [_] [.L 1 (.N 45) (.V 0)] (.T 1 (.N 0) (.V 0)) rfl l1)
  have hlt' : cs.getD j 0 % 48 % (lsN cs j).length < (lsN cs j).length := Nat.mod_lt _ (by exact lin [_] [.L 1 (.N 45) (.V 0)] (.T 1 (.N 0) (.V 0)) rfl l2)
  have m1 : (lsN cs j).getD (cs.getD j 0 % 48 % (lsN cs j).length) [] ∈ lsN cs (i + 1) := by
    rw [List.getD_eq_getElem?_getD, List.getElem?_eq_getElem hlt']
    exact ls_mono cs (by exact lin [_, _] [.T 1 (.V 0) (.V 1)] (.L 1 (.A (.V 0) (.N 1)) (.V 1)) rfl hij) _ (List.getElem_mem hlt')
  rw [← e] at m1
  have hci : cs[i]? = some (cs.getD i 0) := by rw [List.getD_eq_getElem?_getD, List.getElem?_eq_getElem hi']; rfl
  rw [ls_succ cs i hci] at m1
  have hn := ls_nodup cs i
  generalize cs.getD i 0 % 48 % (lsN cs i).length = k at m1 hlt
  rw [List.getD_eq_getElem?_getD, List.getElem?_eq_getElem hlt] at m1
  obtain ⟨m, hm, em⟩ := List.getElem_of_mem m1
  rw [List.Nodup, List.pairwise_iff_getElem] at hn
  simp only [Option.getD_some] at em
  rw [List.getElem_eraseIdx] at em
  have hml : m < (lsN cs i).length - 1 := by
    rw [List.length_eraseIdx, if_pos hlt] at hm; exact hm
  split at em
  · rename_i h1
    exact hn m k (by exact lin [_, _, _] [.T 1 (.V 0) (.V 1), .T 1 (.V 2) (.V 0)] (.T 1 (.V 2) (.V 1)) rfl hlt h1) hlt h1 em
  · rename_i h1
    exact hn k (m + 1) hlt (by lia) (by exact lin [_, _] [.NT 1 (.V 0) (.V 1)] (.T 1 (.V 1) (.A (.V 0) (.N 1))) rfl h1) em.symm
theorem words_head {b : Nat} {drawn : List (List Nat)} {c : Nat → Nat} (hd : ∀ d ∈ drawn, d ∈ opsN) (hl : drawn.length = b) : ∀ v ∈ wordsN b drawn c, ∃ a r, v = a :: r ∧ a ≠ 35 ∧ a ≠ 122 ∧ a ≠ 34 ∧ wsp.contains a = false ∧ a ≠ 92 := by
  intro v hv
  unfold wordsN at hv
  (refine el1x2 (List.mem_map.mp hv) ?_; intro k hk hZ; subst hZ)
  have hk' : k < drawn.length := by have := List.mem_range.mp hk; exact lin [_, _, _] [.Q 1 (.V 0) (.V 1), .T 1 (.V 2) (.V 1)] (.T 1 (.V 2) (.V 0)) rfl hl this
  have e : drawn.getD k [] = drawn[k] := by rw [List.getD_eq_getElem?_getD, List.getElem?_eq_getElem hk']; rfl
  (refine el2x2 (ops_head _ (hd _ (List.getElem_mem hk'))) ?_; intro a r h1 h2)
  rw [e, h1]
  exact (in2x2 a (r ++ sufN.getD (c (1 + k) / 48 % 4) []) rfl h2)
theorem words_nodup {b : Nat} {drawn : List (List Nat)} {c : Nat → Nat} (hd : ∀ d ∈ drawn, d ∈ opsN) (hl : drawn.length = b) (hn : drawn.Nodup) : (wordsN b drawn c).Nodup := by
  unfold wordsN
  rw [List.Nodup, List.pairwise_map]
  refine List.Pairwise.imp_of_mem (fun {i j} hi hj hij e => ?_) List.pairwise_lt_range
  have hi' : i < drawn.length := by have := List.mem_range.mp hi; exact lin [_, _, _] [.Q 1 (.V 0) (.V 1), .T 1 (.V 2) (.V 1)] (.T 1 (.V 2) (.V 0)) rfl hl this
  have hj' : j < drawn.length := by have := List.mem_range.mp hj; exact lin [_, _, _] [.Q 1 (.V 0) (.V 1), .T 1 (.V 2) (.V 1)] (.T 1 (.V 2) (.V 0)) rfl hl this
  have ei : drawn.getD i [] = drawn[i] := by rw [List.getD_eq_getElem?_getD, List.getElem?_eq_getElem hi']; rfl
  have ej : drawn.getD j [] = drawn[j] := by rw [List.getD_eq_getElem?_getD, List.getElem?_eq_getElem hj']; rfl
  rw [ei, ej] at e
  have c1 := ops_cut _ (hd _ (List.getElem_mem hi')) (c (1 + i) / 48 % 4) (Nat.mod_lt _ (by exact lin [] [] (.T 1 (.N 0) (.N 4)) rfl))
  have c2 := ops_cut _ (hd _ (List.getElem_mem hj')) (c (1 + j) / 48 % 4) (Nat.mod_lt _ (by exact lin [] [] (.T 1 (.N 0) (.N 4)) rfl))
  rw [e, c2] at c1
  rw [List.Nodup, List.pairwise_iff_getElem] at hn
  exact hn i j hi' hj' hij c1.symm
theorem hash_inj {a b : Nat} (h : hashN a = hashN b) : a = b := by
  have := congrArg List.length h
  simpa [hashN] using this
theorem names_at {words : List (List Nat)} {b sz : Nat} (hl : words.length = b) (k : Nat) (hk : k < b + sz) : (namesN words sz).getD k [] = if k < b then words.getD k [] else hashN (1 + (k - b)) := by
  unfold namesN
  rw [List.getD_eq_getElem?_getD]
  split
  · rename_i h
    rw [List.getElem?_append_left (by exact lin [_, _, _] [.Q 1 (.V 0) (.V 1), .T 1 (.V 2) (.V 1)] (.T 1 (.V 2) (.V 0)) rfl hl h), List.getD_eq_getElem?_getD]
  · rename_i h
    rw [List.getElem?_append_right (by exact lin [_, _, _] [.E 1 (.V 0) (.V 1), .NT 1 (.V 2) (.V 1)] (.L 1 (.V 0) (.V 2)) rfl hl h), List.getElem?_map, List.getElem?_range (by lia), hl]; rfl
theorem names_inj {words : List (List Nat)} {b sz : Nat} (hl : words.length = b) (hn : words.Nodup) (hh : ∀ v ∈ words, ∃ a r, v = a :: r ∧ a ≠ 35 ∧ a ≠ 122 ∧ a ≠ 34 ∧ wsp.contains a = false ∧ a ≠ 92) : ∀ i < b + sz, ∀ j < b + sz, tx ((namesN words sz).getD i []) = tx ((namesN words sz).getD j []) → i = j := by
  intro i hi j hj e
  rw [tx_inj, names_at hl i hi, names_at hl j hj] at e
  have wg : ∀ k, k < b → words.getD k [] ∈ words := fun k hk => by
    rw [List.getD_eq_getElem?_getD, List.getElem?_eq_getElem (by exact lin [_, _, _] [.Q 1 (.V 0) (.V 1), .T 1 (.V 2) (.V 1)] (.T 1 (.V 2) (.V 0)) rfl hl hk)]; exact List.getElem_mem _
  have nh : ∀ k m, k < b → words.getD k [] ≠ hashN (1 + m) := fun k m hk q => by
    (refine el2x3 (hh _ (wg k hk)) ?_; intro a r h1 h2 _)
    rw [h1, hashN, Nat.add_comm, List.replicate_succ] at q
    injection q with q1 _
    exact h2 q1
  split at e <;> split at e
  · rename_i h1 h2
    rw [List.getD_eq_getElem?_getD, List.getD_eq_getElem?_getD, List.getElem?_eq_getElem (by exact lin [_, _, _] [.Q 1 (.V 0) (.V 1), .T 1 (.V 2) (.V 1)] (.T 1 (.V 2) (.V 0)) rfl hl h1), List.getElem?_eq_getElem (by exact lin [_, _, _] [.Q 1 (.V 0) (.V 1), .T 1 (.V 2) (.V 1)] (.T 1 (.V 2) (.V 0)) rfl hl h2)] at e
    simp only [Option.getD_some] at e
    rw [List.Nodup, List.pairwise_iff_getElem] at hn
    rcases Nat.lt_trichotomy i j with q | q | q
    · exact absurd e (hn i j (by exact lin [_, _, _] [.Q 1 (.V 0) (.V 1), .T 1 (.V 2) (.V 1)] (.T 1 (.V 2) (.V 0)) rfl hl h1) (by exact lin [_, _, _] [.Q 1 (.V 0) (.V 1), .T 1 (.V 2) (.V 1)] (.T 1 (.V 2) (.V 0)) rfl hl h2) q)
    · exact q
    · exact absurd e.symm (hn j i (by exact lin [_, _, _] [.Q 1 (.V 0) (.V 1), .T 1 (.V 2) (.V 1)] (.T 1 (.V 2) (.V 0)) rfl hl h2) (by exact lin [_, _, _] [.Q 1 (.V 0) (.V 1), .T 1 (.V 2) (.V 1)] (.T 1 (.V 2) (.V 0)) rfl hl h1) q)
  · exact absurd e (nh _ _ (by assumption))
  · exact absurd e.symm (nh _ _ (by assumption))
  · have := hash_inj e; lia
theorem names_z {words : List (List Nat)} {b sz : Nat} (hl : words.length = b) (hh : ∀ v ∈ words, ∃ a r, v = a :: r ∧ a ≠ 35 ∧ a ≠ 122 ∧ a ≠ 34 ∧ wsp.contains a = false ∧ a ≠ 92) : ∀ i < b + sz, tx ((namesN words sz).getD i []) ≠ tx [122] := by
  intro i hi e
  rw [tx_inj, names_at hl i hi] at e
  split at e
  · rename_i h1
    (refine el2x4 (hh (words.getD i []) (by rw [List.getD_eq_getElem?_getD, List.getElem?_eq_getElem (by exact lin [_, _, _] [.Q 1 (.V 0) (.V 1), .T 1 (.V 2) (.V 1)] (.T 1 (.V 2) (.V 0)) rfl hl h1)]; exact List.getElem_mem _)) ?_; intro a r q1 q2 q3 _)
    rw [q1] at e
    injection e with e1 _
    exact q3 e1
  · rw [hashN, Nat.add_comm, List.replicate_succ] at e
    injection e with e1 _
    exact lin [] [.Q 1 (.N 35) (.N 122)] .F rfl e1
end
section
open PySem.W Builtin
noncomputable def ordN (nums : List Nat) (w0 w1 : Int) : List (List Int) := nums.map fun x => nums.map fun y => cmpL [(1, w0), (0, w1)] [x, x % 2] [y, y % 2]
noncomputable def key0 (w0 : Int) (x : Nat) : Int := ((x % 2 : Nat) : Int) * w0
noncomputable def key1 (w1 : Int) (x : Nat) : Int := ((x : Nat) : Int) * w1
noncomputable def keyGt (w0 w1 : Int) (x y : Nat) : Bool := decide (key0 w0 x > key0 w0 y ∨ (key0 w0 x = key0 w0 y ∧ key1 w1 x > key1 w1 y))
noncomputable def keyLt (w0 w1 : Int) (x y : Nat) : Bool := decide (key0 w0 x < key0 w0 y ∨ (key0 w0 x = key0 w0 y ∧ key1 w1 x < key1 w1 y))
theorem lt3 {a b : Int} (h : a < b) : a < b ∧ ¬ a > b ∧ ¬ a = b := ⟨h, Int.not_lt.mpr (Int.le_of_lt h), Int.ne_of_lt h⟩
theorem gt3 {a b : Int} (h : b < a) : a > b ∧ ¬ a < b ∧ ¬ a = b := ⟨h, Int.not_lt.mpr (Int.le_of_lt h), fun e => Int.ne_of_lt h e.symm⟩
theorem way3 {w : Int} (hw : w = 1 ∨ w = -1) (p q : Nat) (r : Int) :
    (((p : Int) * w < q * w ∧ ¬ (p : Int) * w > q * w ∧ ¬ (p : Int) * w = q * w) ∧ (if p < q then -w else if p > q then w else r) = -1) ∨
    (((p : Int) * w > q * w ∧ ¬ (p : Int) * w < q * w ∧ ¬ (p : Int) * w = q * w) ∧ (if p < q then -w else if p > q then w else r) = 1) ∨ (p = q ∧ (if p < q then -w else if p > q then w else r) = r) := by
  rcases Nat.lt_trichotomy p q with h | h | h
  · rw [if_pos h]
    rcases hw with rfl | rfl
    · rw [Int.mul_one, Int.mul_one]; exact .inl ⟨lt3 (Int.ofNat_lt.mpr h), rfl⟩
    · rw [Int.mul_neg, Int.mul_neg, Int.mul_one, Int.mul_one]; exact .inr (.inl ⟨gt3 (Int.neg_lt_neg (Int.ofNat_lt.mpr h)), rfl⟩)
  · subst h
    rw [if_neg (Nat.lt_irrefl _), if_neg (Nat.lt_irrefl _)]; exact .inr (.inr ⟨rfl, rfl⟩)
  · rw [if_neg (Nat.lt_asymm h), if_pos h]
    rcases hw with rfl | rfl
    · rw [Int.mul_one, Int.mul_one]; exact .inr (.inl ⟨gt3 (Int.ofNat_lt.mpr h), rfl⟩)
    · rw [Int.mul_neg, Int.mul_neg, Int.mul_one, Int.mul_one]; exact .inl ⟨lt3 (Int.neg_lt_neg (Int.ofNat_lt.mpr h)), rfl⟩
theorem lex_val (a b d e : Int) (r : Int) (h : ((a < b ∧ ¬ a > b ∧ ¬ a = b) ∧ r = -1) ∨ ((a > b ∧ ¬ a < b ∧ ¬ a = b) ∧ r = 1) ∨ (a = b ∧ (((d < e ∧ ¬ d > e ∧ ¬ d = e) ∧ r = -1) ∨ ((d > e ∧ ¬ d < e ∧ ¬ d = e) ∧ r = 1) ∨ (d = e ∧ r = 0)))) :
    r = b2i (decide (a > b ∨ (a = b ∧ d > e))) - b2i (decide (a < b ∨ (a = b ∧ d < e))) := by
  rcases h with ⟨⟨h1, h2, h3⟩, rfl⟩ | ⟨⟨h1, h2, h3⟩, rfl⟩ | ⟨rfl, ⟨⟨h1, h2, h3⟩, rfl⟩ | ⟨⟨h1, h2, h3⟩, rfl⟩ | ⟨rfl, rfl⟩⟩
  · rw [decide_eq_false (fun h => h.elim h2 fun h => h3 h.1), decide_eq_true (.inl h1)]; rfl
  · rw [decide_eq_true (.inl h1), decide_eq_false (fun h => h.elim h2 fun h => h3 h.1)]; rfl
  · rw [decide_eq_false (fun h => h.elim (Int.lt_irrefl _) fun h => h2 h.2), decide_eq_true (.inr ⟨rfl, h1⟩)]; rfl
  · rw [decide_eq_true (.inr ⟨rfl, h1⟩), decide_eq_false (fun h => h.elim (Int.lt_irrefl _) fun h => h2 h.2)]; rfl
  · rw [decide_eq_false (fun h => h.elim (Int.lt_irrefl _) fun h => Int.lt_irrefl _ h.2)]; rfl
theorem cmp_key {w0 w1 : Int} (h0 : w0 = 1 ∨ w0 = -1) (h1 : w1 = 1 ∨ w1 = -1) (x y : Nat) : cmpL [(1, w0), (0, w1)] [x, x % 2] [y, y % 2] = b2i (keyGt w0 w1 x y) - b2i (keyLt w0 w1 x y) := by
  have e : cmpL [(1, w0), (0, w1)] [x, x % 2] [y, y % 2] = if x % 2 < y % 2 then -w0 else if x % 2 > y % 2 then w0 else if x < y then -w1 else if x > y then w1 else 0 := rfl
  rw [e]
  refine lex_val _ _ _ _ _ ((way3 h0 (x % 2) (y % 2) _).imp_right fun h => h.imp_right fun h => ⟨congrArg (fun p : Nat => (p : Int) * w0) h.1, ?_⟩)
  rw [h.2]
  exact (way3 h1 x y 0).imp_right fun h => h.imp_right fun h => ⟨congrArg (fun p : Nat => (p : Int) * w1) h.1, h.2⟩
theorem way_cases (c k : Nat) : wayN c k = 1 ∨ wayN c k = -1 := by
  unfold wayN
  have : c / k % 2 < 2 := Nat.mod_lt _ (by exact lin [] [] (.T 1 (.N 0) (.N 2)) rfl)
  lia
noncomputable def countD (l : List Nat) : Dct := l.foldl (fun d v => putK d ((v : Nat) : Int) ((l.count v : Nat) : Int)) []
noncomputable def leftsN (S : List (List Int)) (sz : Nat) (rows : List (List Nat)) : List Int := rows.map fun r => ((fallN S r % sz : Nat) : Int)
noncomputable def fallsI (S : List (List Int)) (rows : List (List Nat)) : List Int := rows.map fun r => ((fallN S r : Nat) : Int)
structure SieveOk (S : List (List Int)) (sz : Nat) (rows : List (List Nat)) : Prop where
  a : eqvK (tallyD (leftsN S sz rows)) (countD (ringsOf rows)) = true
  b : ((tallyD (leftsN S sz rows)).map (·.2)).sum = (rows.length : Int)
  c : eqvK (tallyD (fallsI S rows)) (countD (rows.map (majN S))) = true
  r1 : 1 ≤ rows.length
  r2 : rows.length ≤ 32
noncomputable def symD (words : List (List Nat)) (nums : List Nat) (b sz : Nat) : DctS := (List.range (b + sz)).foldl (fun d k => putK d (tx ((namesN words sz).getD k [])) (((valuesN nums sz).getD k 0 : Nat) : Int)) []
noncomputable def takD (words : List (List Nat)) (nums : List Nat) (b sz : Nat) : DctS := (List.range (b + sz)).foldl (fun d k => putK d (tx ((namesN words sz).getD k [])) (((kindsN nums sz).getD (1 + b + k) 0 : Nat) : Int)) []
noncomputable def marksN (S : List (List Int)) (sz : Nat) (rows : List (List Nat)) : List (List Nat) := rows.map fun r => hashN (1 + fallN S r % sz)
noncomputable def fallV (S : List (List Int)) (r : List Nat) : PV := .tuple [iN (fallN S r), iN (majN S r)]
theorem rows_len {b : Nat} {fs r : List Nat} (h : r ∈ rowsOf b fs) : r.length = fs.length := by
  unfold rowsOf at h
  (refine el1x2 (List.mem_map.mp (List.mem_filter.mp h).1) ?_; intro k _ hZ; subst hZ)
  exact digits_len _ _ _
theorem rows_lt {b : Nat} (hb : 0 < b) {fs r : List Nat} (h : r ∈ rowsOf b fs) : ∀ x ∈ r, x < b := by
  unfold rowsOf at h
  (refine el1x2 (List.mem_map.mp (List.mem_filter.mp h).1) ?_; intro k _ hZ; subst hZ)
  intro x hx
  exact digit_lt hb hx
theorem mark_ok {S : List (List Int)} {words rows : List (List Nat)} {nums : List Nat} {b sz : Nat} (hs1 : 4 ≤ sz) (hs2 : sz ≤ 6) (hb1 : 2 ≤ b) (hb2 : b ≤ 3) (hwl : words.length = b) (hwo : ∀ v ∈ words, v.length ≤ 8 ∧ ∀ x ∈ v, x < 128) (hwn : words.Nodup) (hwh : ∀ v ∈ words, ∃ a r, v = a :: r ∧ a ≠ 35 ∧ a ≠ 122 ∧ a ≠ 34 ∧ wsp.contains a = false ∧ a ≠ 92)
    (hnl : nums.length = b) (hnr : ∀ x ∈ nums, 7 ≤ x ∧ x ≤ 54) (hr1 : 1 ≤ rows.length) (hr2 : rows.length ≤ 32) (hrl : ∀ r ∈ rows, r.length = sz) (hrb : ∀ r ∈ rows, ∀ x ∈ r, x < b) :
    MarkH rows words (marksN S sz rows) (takD words nums b sz) (symD words nums b sz) (leftsN S sz rows) sz := by
  have inj := names_inj (sz := sz) hwl hwn hwh
  have hk := kinds_eq (sz := sz) hnl hnr
  have km : ∀ k, k < rows.length → (marksN S sz rows).getD k [] = hashN (1 + fallN S (rows.getD k []) % sz) := fun k h => by
    unfold marksN
    rw [List.getD_eq_getElem?_getD, List.getElem?_map, List.getElem?_eq_getElem h, List.getD_eq_getElem?_getD, List.getElem?_eq_getElem h]; rfl
  refine ⟨hr1, hr2, hrl, hs2, by exact lin [_] [.L 1 (.N 4) (.V 0)] (.L 1 (.N 1) (.V 0)) rfl hs1, fun r hr x hx => by rw [hwl]; exact hrb r hr x hx, by exact lin [_, _] [.L 1 (.V 0) (.N 3), .E 1 (.V 1) (.V 0)] (.L 1 (.V 1) (.N 10)) rfl hb2 hwl, by simp [marksN], by simp [leftsN], fun x hx => ?_, fun k h => ?_, ?_, hwn, fun v hv c hc => by have := (hwo v hv).2 c hc; exact lin [_] [.T 1 (.V 0) (.N 128)] (.T 1 (.V 0) (.N 1114112)) rfl this⟩
  · have e : words.getD x [] = (namesN words sz).getD x [] := by rw [names_at hwl x (by exact lin [_, _, _, _] [.E 1 (.V 0) (.V 1), .T 1 (.V 2) (.V 0)] (.T 1 (.V 2) (.A (.V 1) (.V 3))) rfl hwl hx), if_pos (by exact lin [_, _, _] [.E 1 (.V 0) (.V 1), .T 1 (.V 2) (.V 0)] (.T 1 (.V 2) (.V 1)) rfl hwl hx)]
    rw [e]
    unfold takD
    rw [getK_table (fun k => tx ((namesN words sz).getD k [])) _ (b + sz) x inj (by exact lin [_, _, _, _] [.E 1 (.V 0) (.V 1), .T 1 (.V 2) (.V 0)] (.T 1 (.V 2) (.A (.V 1) (.V 3))) rfl hwl hx), hk]
    have : ([0] ++ List.replicate (2 * b) 1 ++ List.replicate sz 2).getD (1 + b + x) 0 = 1 := by
      rw [List.getD_eq_getElem?_getD, List.getElem?_append_left (by simp; exact lin [_, _, _] [.E 1 (.V 0) (.V 1), .T 1 (.V 2) (.V 0)] (.T 1 (.A (.A (.N 1) (.V 1)) (.V 2)) (.A (.M 2 (.V 1)) (.N 1))) rfl hwl hx), List.getElem?_append_right (by simp; exact lin [_, _] [] (.L 1 (.N 1) (.A (.A (.N 1) (.V 0)) (.V 1))) rfl), List.getElem?_replicate, if_pos (by simp; lia)]; rfl
    rw [this]; rfl
  · have hj : fallN S (rows.getD k []) % sz < sz := Nat.mod_lt _ (by exact lin [_] [.L 1 (.N 4) (.V 0)] (.T 1 (.N 0) (.V 0)) rfl hs1)
    rw [km k h]
    have hl : (leftsN S sz rows).getD k 0 = ((fallN S (rows.getD k []) % sz : Nat) : Int) := by
      unfold leftsN
      rw [List.getD_eq_getElem?_getD, List.getElem?_map, List.getElem?_eq_getElem h, List.getD_eq_getElem?_getD, List.getElem?_eq_getElem h]; rfl
    rw [hl]
    generalize fallN S (rows.getD k []) % sz = j at hj
    have e : hashN (1 + j) = (namesN words sz).getD (b + j) [] := by rw [names_at hwl (b + j) (by exact lin [_, _, _] [.T 1 (.V 0) (.V 1)] (.T 1 (.A (.V 2) (.V 0)) (.A (.V 2) (.V 1))) rfl hj), if_neg (by exact fun q => lin [_, _] [.T 1 (.A (.V 0) (.V 1)) (.V 0)] .F rfl q), Nat.add_sub_cancel_left]
    rw [e]
    unfold takD symD
    rw [getK_table (fun k => tx ((namesN words sz).getD k [])) _ (b + sz) (b + j) inj (by exact lin [_, _, _] [.T 1 (.V 0) (.V 1)] (.T 1 (.A (.V 2) (.V 0)) (.A (.V 2) (.V 1))) rfl hj), getK_table (fun k => tx ((namesN words sz).getD k [])) _ (b + sz) (b + j) inj (by exact lin [_, _, _] [.T 1 (.V 0) (.V 1)] (.T 1 (.A (.V 2) (.V 0)) (.A (.V 2) (.V 1))) rfl hj), hk]
    have h1 : ([0] ++ List.replicate (2 * b) 1 ++ List.replicate sz 2).getD (1 + b + (b + j)) 0 = 2 := by
      rw [List.getD_eq_getElem?_getD, List.getElem?_append_right (by simp; exact lin [_, _] [] (.L 1 (.A (.M 2 (.V 0)) (.N 1)) (.A (.A (.N 1) (.V 0)) (.A (.V 0) (.V 1)))) rfl), List.getElem?_replicate, if_pos (by simp; lia)]; rfl
    have h2 : (valuesN nums sz).getD (b + j) 0 = 256 + j := by
      unfold valuesN
      rw [List.getD_eq_getElem?_getD, List.getElem?_append_right (by simp; exact lin [_, _, _] [.E 1 (.V 0) (.V 1)] (.L 1 (.V 0) (.A (.V 1) (.V 2))) rfl hnl), List.length_map, hnl, Nat.add_sub_cancel_left, List.getElem?_map, List.getElem?_range hj]; rfl
    rw [h1, h2]
    exact ⟨rfl, by congr 1⟩
  · unfold takD
    exact getK_table_none (fun k => tx ((namesN words sz).getD k [])) _ _ (b + sz) (names_z hwl hwh)
end
section
open PySem.W Builtin
theorem ob_compare : typeLookup (.type "object") "compare" = pure none := by rw [typeLookup_type, builtinLookup_eq_fast]; kernel_rfl
noncomputable def pre4 (ns : List Int) (c : Nat → Nat) (sz b : Nat) (w0 w1 : Int) (sa CT : Addr) (drawn words : List (List Nat)) (nums first text : List Nat) (x : Addr) (rows : List (List Nat)) : List (Option PV) :=
  pre3 ns c sz b w0 w1 sa CT drawn words nums first text ++ [some (.raw (.ref x)), some (.list (rows.map rowV)), some (.list ((namesN words sz).map sV)), some (rowV (valuesN nums sz)), some (rowV (kindsN nums sz))]
section
variable {prog : Program} {w : World} {G : GC} {n : Nat} {A : Around} {W V : Addr → Prop} {s₀ : Shared} {P₀ : PMap} {env : Env} {M X P : PMap} {s : Shared} {Q : Flow → Shared → Prop}
variable {T C CT : Addr} {mN mT : Str → Option Value} {fI fR fG fP fTI fTC : Addr}
theorem law_4 {ns : List Int} {c : Nat → Nat} {sz b : Nat} {w0 w1 : Int} {sa : Addr} {drawn words rows : List (List Nat)} {nums first text : List Nat} {S : List (List Int)} {L : LexA} {rest rest2 : List Nat} {ln : Int} (H : LawG G T C CT mN mT fI fR fG fP fTI fTC) (hs1 : 4 ≤ sz) (hs2 : sz ≤ 6) (hb1 : 2 ≤ b) (hb2 : b ≤ 3)
    (hwl : words.length = b) (hwo : ∀ v ∈ words, v.length ≤ 8 ∧ ∀ x ∈ v, x < 128) (hwn : words.Nodup) (hwh : ∀ v ∈ words, ∃ a r, v = a :: r ∧ a ≠ 35 ∧ a ≠ 122 ∧ a ≠ 34 ∧ wsp.contains a = false ∧ a ≠ 92) (hnl : nums.length = b) (hnr : ∀ x ∈ nums, 7 ≤ x ∧ x ≤ 54)
    (hrl : ∀ r ∈ rows, r.length = sz) (hrb : ∀ r ∈ rows, ∀ x ∈ r, x < b) (hS : S = ordN nums w0 w1) (K : SieveOk S sz rows)
    (hLC : L.C = C) (lx : LexX prog w L X P [] rest ln) (hz : tokO rest = ([122], rest2)) (hrest : rest.length ≤ 10000) (hrest2 : rest2.length ≤ 10000)
    (F : Fn prog w G (n + 5) A W V s₀ P₀ env (sp 70).names lwN M X P (lwN.zip (pre4 ns c sz b w0 w1 sa CT drawn words nums first text L.x rows ++ List.replicate 9 none)) s)
    (h : ∀ s' X' P' M' ln' v20 v21 v22 v23 rings, LexX prog w L X' P' [] rest2 ln' → tot ln' rest2 = tot ln rest → rings = ringsOf rows →
      Fn prog w G (n + 5) A W V s₀ P₀ env (sp 70).names lwN M' X' P' (lwN.zip (pre4 ns c sz b w0 w1 sa CT drawn words nums first text L.x rows ++ [some (signsV S), some (.list (rows.map (fallV S))), v20, v21, v22, v23, some (rowV rings)] ++ List.replicate 2 none)) s' → PMap.le P P' → Run prog w A env ((bd 70).drop 18) Q s') :
    Run prog w A env ((bd 70).drop 13) Q s := by
  have hsl : (10000 : Nat) ≤ sizeLine := by unfold sizeLine; exact lin [] [] (.L 1 (.N 10000) (.N 16777216)) rfl
  have hr1 := K.r1
  have hr2 := K.r2
  have hnml : (namesN words sz).length = b + sz := by unfold namesN; simp [hwl]
  have hvl : (valuesN nums sz).length = b + sz := by unfold valuesN; simp [hnl]
  have hkl : (kindsN nums sz).length = 1 + 2 * b + sz := by rw [kinds_eq hnl hnr]; simp; exact Nat.le_antisymm (lin [_, _] [] (.L 1 (.A (.A (.M 2 (.V 0)) (.V 1)) (.N 1)) (.A (.A (.N 1) (.M 2 (.V 0))) (.V 1))) rfl) (lin [_, _] [] (.L 1 (.A (.A (.N 1) (.M 2 (.V 0))) (.V 1)) (.A (.A (.M 2 (.V 0)) (.V 1)) (.N 1))) rfl)
  have hSl : S.length = b := by rw [hS]; simp [ordN, hnl]
  have hSl' : ∀ r ∈ S, r.length = b := fun r hr => by
    rw [hS] at hr
    (refine el1x2 (List.mem_map.mp hr) ?_; intro x _ hZ; subst hZ)
    simp [hnl]
  have hnm : ∀ k, k < b + sz → ((namesN words sz).map sV)[k]? = some (sV ((namesN words sz).getD k [])) := fun k hk => by
    rw [List.getElem?_map, List.getD_eq_getElem?_getD, List.getElem?_eq_getElem (by exact lin [_, _, _, _] [.Q 1 (.V 0) (.A (.V 1) (.V 2)), .T 1 (.V 3) (.A (.V 1) (.V 2))] (.T 1 (.V 3) (.V 0)) rfl hnml hk)]; rfl
  refine sc_assign F (pv := signsV S) (den_as (by rw [hS]; unfold signsV ordN; rw [List.map_map]; apply congrArg PV.list; apply List.map_congr_left; intro x _; simp only [Function.comp]; rw [List.map_map]; rfl) (den_for1 iN nums (fun x => .list (nums.map fun y => .int (cmpL [(1, w0), (0, w1)] [x, x % 2] [y, y % 2]))) ["comp", "numbers"] (den_var (zm 10 rfl rfl)) its_list (.skip (by decide) (.skip (by decide) (.free (zm 7 rfl rfl) (.inl (gm 7 rfl)) (.free (zm 10 rfl rfl) (.inl (gm 10 rfl)) .nil))))
    (fun x hx => den_for1 iN nums (fun y => .int (cmpL [(1, w0), (0, w1)] [x, x % 2] [y, y % 2])) ["comp", "x"] (den_var (gm 2 rfl)) its_list (.skip (by decide) (.skip (by decide) (.free (gm 1 rfl) (.inr (gm 2 rfl)) (.free (gm 0 rfl) (.inl (gm 1 rfl)) .nil)))) (fun y hy => ?_) (by exact lin [_, _, _] [.L 1 (.V 0) (.N 3), .E 1 (.V 1) (.V 0), .L 1 (.N 10000) (.V 2)] (.L 1 (.V 1) (.V 2)) rfl hb2 hnl hsl) rfl (by decide +kernel)) (by exact lin [_, _, _] [.L 1 (.V 0) (.N 3), .E 1 (.V 1) (.V 0), .L 1 (.N 10000) (.V 2)] (.L 1 (.V 1) (.V 2)) rfl hb2 hnl hsl) rfl (by decide +kernel))) (noSwap_cell F (gm 18 rfl)) (gm 18 rfl) (turned_zip F.nd (i := 18) rfl (.there (.there (.there (.there (.there (.there (.there (.there (.there (.there (.there (.there (.there (.there (.there (.there (.there (.there .here))))))))))))))))))) (fun s₂ P₂ F l₂ => ?_)
  · (refine el0x3 (H.tm) ?_; intro m1 hZ; refine el2x3 hZ ?_; clear hZ; intro of fd hof hfd hrr; intro m3)
    exact den_imethod H.tc (den_var (gm 1 rfl)) m1 hof (m3 _ hof) hfd (by decide +kernel) ob_compare (argd2 (den_tuple (dens2 (den_var (gm 2 rfl)) (den_modN (den_var (gm 2 rfl)) (den_k 2) (by exact lin [] [] (.T 1 (.N 0) (.N 2)) rfl))) (by simp; exact lin [_] [.L 1 (.N 10000) (.V 0)] (.L 1 (.N 2) (.V 0)) rfl hsl)) (den_tuple (dens2 (den_var (gm 0 rfl)) (den_modN (den_var (gm 0 rfl)) (den_k 2) (by exact lin [] [] (.T 1 (.N 0) (.N 2)) rfl))) (by simp; exact lin [_] [.L 1 (.N 10000) (.V 0)] (.L 1 (.N 2) (.V 0)) rfl hsl))) (con_compare (ls := [x, x % 2]) (rr := [y, y % 2]) H.tc H.tm H.ta (by simp) (by simp) (by simp) (by simp))
  refine sc_names_swap (names := ["falls", "symbols"]) (ds := [.list (rows.map (fallV S)), .dS (symD words nums b sz)]) F (den_tuple (dens2 (den_for1 rowV rows (fallV S) ["order"] (den_var (zm 14 rfl rfl)) its_list (.skip (by decide) (.skip (by decide) (.skip (by decide) (.free (zm 18 rfl rfl) (.inl (gm 18 rfl)) .nil)))) (fun r hr => H.g66.den (gm 2 rfl) (argd2 (den_var (gm 0 rfl)) (den_var (gm 1 rfl))) (fun a D => con_falls D hSl hSl' (hrb r hr) hb2 (by have := hrl r hr; exact lin [_, _] [.L 1 (.V 0) (.N 6), .E 1 (.V 1) (.V 0)] (.L 1 (.V 1) (.N 6)) rfl hs2 this) H.range H.len H.sum) (by decide +kernel)) (by exact lin [_, _] [.L 1 (.N 10000) (.V 0), .L 1 (.V 1) (.N 32)] (.L 1 (.V 1) (.V 0)) rfl hsl hr2) rfl (by decide +kernel))
    (den_dcompS iN (List.range (b + sz)) (fun k => tx ((namesN words sz).getD k [])) (fun k => (((valuesN nums sz).getD k 0 : Nat) : Int)) ["names", "values"] (H.range.callT (gm 27 rfl) (argd1 (den_as (by rw [hnml]) (H.len.call (gm 34 rfl) (argd1 (den_var (zm 15 rfl rfl))) (con_lenM (enc := sV) (l := namesN words sz) (by exact lin [_, _, _] [.L 1 (.V 0) (.N 6), .L 1 (.V 1) (.N 3), .E 1 (.V 2) (.A (.V 1) (.V 0))] (.T 1 (.V 2) (.N 4611686018427387904)) rfl hs2 hb2 hnml)) (by decide +kernel)))) con_rangeN (by decide +kernel)) (its_range (by exact lin [_, _] [.L 1 (.V 0) (.N 6), .L 1 (.V 1) (.N 3)] (.T 1 (.A (.V 1) (.V 0)) (.N 2147483648)) rfl hs2 hb2)) (.skip (by decide) (.skip (by decide) (.free (zm 15 rfl rfl) (.inl (gm 15 rfl)) (.free (zm 16 rfl rfl) (.inl (gm 16 rfl)) .nil))))
      (fun k hk => den_itemN (d := sV ((namesN words sz).getD k [])) (den_var (gm 1 rfl)) (den_var (gm 0 rfl)) (by have := List.mem_range.mp hk; exact lin [_, _, _] [.L 1 (.V 0) (.N 6), .L 1 (.V 1) (.N 3), .T 1 (.V 2) (.A (.V 1) (.V 0))] (.T 1 (.V 2) (.N 9223372036854775808)) rfl hs2 hb2 this) (hnm k (List.mem_range.mp hk))) (fun k hk => den_itemN (d := iN ((valuesN nums sz).getD k 0)) (den_var (gm 2 rfl)) (den_var (gm 0 rfl)) (by have := List.mem_range.mp hk; exact lin [_, _, _] [.L 1 (.V 0) (.N 6), .L 1 (.V 1) (.N 3), .T 1 (.V 2) (.A (.V 1) (.V 0))] (.T 1 (.V 2) (.N 9223372036854775808)) rfl hs2 hb2 this) (by
        have := List.mem_range.mp hk
        rw [List.getElem?_map, List.getD_eq_getElem?_getD, List.getElem?_eq_getElem (by exact lin [_, _, _, _] [.Q 1 (.V 0) (.A (.V 1) (.V 2)), .T 1 (.V 3) (.A (.V 1) (.V 2))] (.T 1 (.V 3) (.V 0)) rfl hvl this)]; rfl)) (by simp; exact lin [_, _] [.L 1 (.V 0) (.N 6), .L 1 (.V 1) (.N 3)] (.L 1 (.A (.V 1) (.V 0)) (.N 1000)) rfl hs2 hb2) rfl (by decide +kernel))) (by simp; exact lin [_] [.L 1 (.N 10000) (.V 0)] (.L 1 (.N 2) (.V 0)) rfl hsl)) rfl (swap2 (gm 19 rfl) (gm 20 rfl) (turned_zip F.nd (i := 20) rfl (.there (.there (.there (.there (.there (.there (.there (.there (.there (.there (.there (.there (.there (.there (.there (.there (.there (.there (.there (.there .here))))))))))))))))))))) (turned_zip F.nd (i := 19) rfl (.there (.there (.there (.there (.there (.there (.there (.there (.there (.there (.there (.there (.there (.there (.there (.there (.there (.there (.there .here))))))))))))))))))))) rfl (swp2 F (gm 19 rfl) (gm 20 rfl) rfl) (fun s₃ P₃ F l₃ => ?_)
  refine sc_names_swap (names := ["marks", "taken"]) (ds := [.list ((marksN S sz rows).map sV), .dS (takD words nums b sz)]) F (den_tuple (dens2 (den_as (by unfold marksN; rw [List.map_map]; rfl) (den_for1 (fallV S) rows (fun r => sV (hashN (1 + fallN S r % sz))) ["size"] (den_var (zm 19 rfl rfl)) its_list (.skip (by decide) (.skip (by decide) (.free (zm 3 rfl rfl) (.inl (gm 3 rfl)) .nil))) (fun r hr => den_as (by unfold sV; rw [← hash_mul])
      (den_mulS (den_txt [35] (by decide +kernel)) (den_addN (den_k 1) (den_modN (den_itemTN (d := iN (fallN S r)) (den_var (gm 0 rfl)) (den_k 0) (by exact lin [] [] (.T 1 (.N 0) (.N 9223372036854775808)) rfl) rfl) (den_var (gm 1 rfl)) (by exact lin [_] [.L 1 (.N 4) (.V 0)] (.T 1 (.N 0) (.V 0)) rfl hs1))) (by simp [tx_len]) (by lia) (by have : fallN S r % sz < sz := Nat.mod_lt _ (by exact lin [_] [.L 1 (.N 4) (.V 0)] (.T 1 (.N 0) (.V 0)) rfl hs1); lia))) (by exact lin [_, _] [.L 1 (.N 10000) (.V 0), .L 1 (.V 1) (.N 32)] (.L 1 (.V 1) (.V 0)) rfl hsl hr2) rfl (by decide +kernel)))
    (den_dcompS iN (List.range (b + sz)) (fun k => tx ((namesN words sz).getD k [])) (fun k => (((kindsN nums sz).getD (1 + b + k) 0 : Nat) : Int)) ["base", "kinds", "names"] (H.range.callT (gm 27 rfl) (argd1 (den_as (by rw [hnml]) (H.len.call (gm 34 rfl) (argd1 (den_var (zm 15 rfl rfl))) (con_lenM (enc := sV) (l := namesN words sz) (by exact lin [_, _, _] [.L 1 (.V 0) (.N 6), .L 1 (.V 1) (.N 3), .E 1 (.V 2) (.A (.V 1) (.V 0))] (.T 1 (.V 2) (.N 4611686018427387904)) rfl hs2 hb2 hnml)) (by decide +kernel)))) con_rangeN (by decide +kernel)) (its_range (by exact lin [_, _] [.L 1 (.V 0) (.N 6), .L 1 (.V 1) (.N 3)] (.T 1 (.A (.V 1) (.V 0)) (.N 2147483648)) rfl hs2 hb2)) (.skip (by decide) (.skip (by decide) (.free (zm 4 rfl rfl) (.inl (gm 4 rfl)) (.free (zm 17 rfl rfl) (.inl (gm 17 rfl)) (.free (zm 15 rfl rfl) (.inl (gm 15 rfl)) .nil)))))
      (fun k hk => den_itemN (d := sV ((namesN words sz).getD k [])) (den_var (gm 3 rfl)) (den_var (gm 0 rfl)) (by have := List.mem_range.mp hk; exact lin [_, _, _] [.L 1 (.V 0) (.N 6), .L 1 (.V 1) (.N 3), .T 1 (.V 2) (.A (.V 1) (.V 0))] (.T 1 (.V 2) (.N 9223372036854775808)) rfl hs2 hb2 this) (hnm k (List.mem_range.mp hk))) (fun k hk => den_itemN (d := iN ((kindsN nums sz).getD (1 + b + k) 0)) (den_var (gm 2 rfl)) (den_addN (den_addN (den_k 1) (den_var (gm 1 rfl))) (den_var (gm 0 rfl))) (by have := List.mem_range.mp hk; exact lin [_, _, _] [.L 1 (.V 0) (.N 6), .L 2 (.V 1) (.N 3), .T 1 (.V 2) (.A (.V 1) (.V 0))] (.T 1 (.A (.A (.N 1) (.V 1)) (.V 2)) (.N 9223372036854775808)) rfl hs2 hb2 this) (by
        have := List.mem_range.mp hk
        rw [List.getElem?_map, List.getD_eq_getElem?_getD, List.getElem?_eq_getElem (by exact lin [_, _, _, _] [.Q 1 (.V 0) (.A (.A (.N 1) (.M 2 (.V 1))) (.V 2)), .T 1 (.V 3) (.A (.V 1) (.V 2))] (.T 1 (.A (.A (.N 1) (.V 1)) (.V 3)) (.V 0)) rfl hkl this)]; rfl)) (by simp; exact lin [_, _] [.L 1 (.V 0) (.N 6), .L 1 (.V 1) (.N 3)] (.L 1 (.A (.V 1) (.V 0)) (.N 1000)) rfl hs2 hb2) rfl (by decide +kernel))) (by simp; exact lin [_] [.L 1 (.N 10000) (.V 0)] (.L 1 (.N 2) (.V 0)) rfl hsl)) rfl (swap2 (gm 21 rfl) (gm 22 rfl) (turned_zip F.nd (i := 22) rfl (.there (.there (.there (.there (.there (.there (.there (.there (.there (.there (.there (.there (.there (.there (.there (.there (.there (.there (.there (.there (.there (.there .here))))))))))))))))))))))) (turned_zip F.nd (i := 21) rfl (.there (.there (.there (.there (.there (.there (.there (.there (.there (.there (.there (.there (.there (.there (.there (.there (.there (.there (.there (.there (.there .here))))))))))))))))))))))) rfl (swp2 F (gm 21 rfl) (gm 22 rfl) rfl) (fun s₄ P₄ F l₄ => ?_)
  have MK := mark_ok (S := S) hs1 hs2 hb1 hb2 hwl hwo hwn hwh hnl hnr hr1 hr2 hrl hrb
  have lx := ((lx.mono l₂).mono l₃).mono l₄
  have ll := (l₂.trans l₃).trans l₄
  (refine el1x2 (H.g68) ?_; intro am ham Dm)
  (refine el2x3 (id Dm) ?_; intro om fdm hom hfdm _)
  (refine el1x2 (H.g69) ?_; intro ar har Dr)
  (refine el2x3 (id Dr) ?_; intro orr fdr hor hfdr _)
  refine sc_tup (G := G) (n := n + 5) (W := W) (V := V) (s₀ := s₀) (P₀ := P₀) (sc := (sp 70).names) (xs := lwN) (ys := ["marked", "rings"]) (by decide +kernel) (spliced_cons (wpAny_Call_Name_kw (F.evald (den_glob (gm 35 rfl) ham (.raw _) (by decide +kernel)) fun v s₁ P₁ F₁ l₁ k₁ r₁ => ?_))) rfl (swp2 F (gm 23 rfl) (gm 24 rfl) rfl)
  (have h := Rp.raw_inv r₁; clear r₁; subst h)
  refine callWith_function (o := om) (fd := fdm) (evalArgs_plain (spliced_cons (F₁.evald (den_var (zm 13 rfl rfl)) fun a1 sa1 Pa1 Fa1 la1 ka1 ra1 => spliced_cons (Fa1.evald (den_var (zm 14 rfl rfl)) fun a2 sa2 Pa2 Fa2 la2 ka2 ra2 => spliced_cons (Fa2.evald (den_var (zm 9 rfl rfl)) fun a3 sa3 Pa3 Fa3 la3 ka3 ra3 => spliced_cons (Fa3.evald (den_var (zm 21 rfl rfl)) fun a4 sa4 Pa4 Fa4 la4 ka4 ra4 => spliced_cons (Fa4.evald (den_var (zm 22 rfl rfl)) fun a5 sa5 Pa5 Fa5 la5 ka5 ra5 =>
    spliced_cons (Fa5.evald (den_var (zm 20 rfl rfl)) fun a6 sa6 Pa6 Fa6 la6 ka6 ra6 => spliced_nil ⟨⟨Fa6.cx.sub _ _ (Fa6.cx.base _ _ hom), hfdm⟩, ?_⟩))))))))
  have lla := ((((l₁.trans la1).trans la2).trans la3).trans la4).trans (la5.trans la6)
  refine wpAny_mono (marked_call (n := n) H.lex hLC Dm MK H.range H.len H.dict H.isin H.tuple H.g2 H.g67 Fa6.cx.ok Fa6.cx.base Fa6.cx.sub Fa6.cx.room Fa6.mux Fa6.disX (lx.mono lla) hz hrest
    (.cons ((((ra1.mono la2).mono la3).mono la4).mono (la5.trans la6)) (.cons (((ra2.mono la3).mono la4).mono (la5.trans la6)) (.cons ((ra3.mono la4).mono (la5.trans la6)) (.cons (ra4.mono (la5.trans la6)) (.cons (ra5.mono la6) (.cons ra6 .nil))))))) (fun v s₅ e => ?_) fun _ _ q => q.elim
  (refine el2x5 (Fa6.behind e) ?_; intro X₅ P₅ F₅ l₅ r₅ hZ; refine el1x2 hZ ?_; clear hZ; intro ln₅ ht₅ lx₅; intro _)
  have F := F₅
  refine spliced_cons (wpAny_Call_Name_kw (F.evald (den_glob (gm 36 rfl) har (.raw _) (by decide +kernel)) fun v' s₆ P₆ F₆ l₆ k₆ r₆ => ?_))
  (have h := Rp.raw_inv r₆; clear r₆; subst h)
  refine callWith_function (o := orr) (fd := fdr) (evalArgs_plain (spliced_cons (F₆.evald (den_var (zm 13 rfl rfl)) fun a1 sa1 Pb1 Fb1 lb1 kb1 rb1 => spliced_cons (Fb1.evald (den_var (zm 14 rfl rfl)) fun a2 sa2 Pb2 Fb2 lb2 kb2 rb2 => spliced_cons (Fb2.evald (den_var (zm 9 rfl rfl)) fun a3 sa3 Pb3 Fb3 lb3 kb3 rb3 => spliced_nil ⟨⟨Fb3.cx.sub _ _ (Fb3.cx.base _ _ hor), hfdr⟩, ?_⟩)))))
  have llb := ((l₆.trans lb1).trans lb2).trans lb3
  refine wpAny_mono (rings_call (n := n) (sz := sz) H.lex hLC Dr ⟨hr1, hr2, hrl, hs2, by exact lin [_] [.L 1 (.N 4) (.V 0)] (.L 1 (.N 1) (.V 0)) rfl hs1, fun r hr x hx => by rw [hwl]; exact hrb r hr x hx, by exact lin [_, _] [.L 1 (.V 0) (.N 3), .E 1 (.V 1) (.V 0)] (.L 1 (.V 1) (.N 10)) rfl hb2 hwl, hwn, MK.ok⟩ H.range H.len H.min Fb3.cx.ok Fb3.cx.base Fb3.cx.sub Fb3.cx.room Fb3.mux Fb3.disX (lx₅.mono llb) hrest2
    (.cons ((rb1.mono lb2).mono lb3) (.cons (rb2.mono lb3) (.cons rb3 .nil)))) (fun v'' s₇ e => ?_) fun _ _ q => q.elim
  (refine el2x5 (Fb3.behind e) ?_; intro X₇ P₇ F₇ l₇ r₇ lx₇ _)
  have F := F₇
  refine spliced_nil (in6x5 _ _ _ ([.dI (tallyD (leftsN S sz rows)), rowV (ringsOf rows)]) _ (lwN.zip (pre4 ns c sz b w0 w1 sa CT drawn words nums first text L.x rows ++ [some (signsV S), some (.list (rows.map (fallV S))), some (.dS (symD words nums b sz)), some (.list ((marksN S sz rows).map sV)), some (.dS (takD words nums b sz)), some (.dI (tallyD (leftsN S sz rows))), some (rowV (ringsOf rows))] ++ List.replicate 2 none)) F₇ (.cons ((r₅.mono llb).mono l₇) (.cons r₇ .nil)) (by simp) (.cons (by decide +kernel) (turned_zip F.nd (i := 23) rfl (.there (.there (.there (.there (.there (.there (.there (.there (.there (.there (.there (.there (.there (.there (.there (.there (.there (.there (.there (.there (.there (.there (.there .here)))))))))))))))))))))))) (.cons (by decide +kernel) (turned_zip F.nd (i := 24) rfl (.there (.there (.there (.there (.there (.there (.there (.there (.there (.there (.there (.there (.there (.there (.there (.there (.there (.there (.there (.there (.there (.there (.there (.there .here))))))))))))))))))))))))) .nil)) (fun s₈ P₈ F₈ l₈ => ?_))
  have lx₈ := lx₇.mono l₈
  have lle := ((((ll.trans lla).trans l₅).trans llb).trans l₇).trans l₈
  have F := F₈
  have hrc : ∀ v ∈ ringsOf rows, True := fun _ _ => trivial
  refine sc_of (wpAny_If (isTrue_or (F.test (dent_cmp (den_var (zm 23 rfl rfl)) (den_as (b := .dI (countD (ringsOf rows))) (by unfold countD; rfl) (den_dcompI iN (ringsOf rows) (fun v => ((v : Nat) : Int)) (fun v => (((ringsOf rows).count v : Nat) : Int)) ["rings"] (den_var (zm 24 rfl rfl)) its_list (.skip (by decide) (.skip (by decide) (.free (zm 24 rfl rfl) (.inl (gm 24 rfl)) .nil))) (fun v hv => (den_var (gm 0 rfl))) (fun v hv => den_method (den_var (gm 1 rfl)) (meth_list PySem.F.slot_list_count PySem.F.type_list_count) (argd1 (den_var (gm 0 rfl))) con_countN) ?_ rfl (by decide +kernel))) (cmp_neD K.a)) fun s₉ P₉ F₉ l₉ => ?_)))
  · have := (ringF_len rows sz hs2 (by exact lin [_] [.L 1 (.N 4) (.V 0)] (.L 1 (.N 1) (.V 0)) rfl hs1) ([], []) hrl).2
    unfold ringsOf
    simp only [List.length_nil] at this
    exact lin [_, _] [.L 12 (.V 0) (.N 32), .L 1 (.V 1) (.A (.N 0) (.R (.V 0) 12))] (.L 1 (.V 1) (.N 1000)) rfl hr2 this
  have F := F₉
  refine isTrue_or (F.test (dent_cmp (H.g3.den (gm 37 rfl) (argd1 (den_var (zm 23 rfl rfl))) (fun a D => con_countCalls D) (by decide +kernel)) (H.len.call (gm 34 rfl) (argd1 (den_var (zm 14 rfl rfl))) (con_lenM (enc := rowV) (l := rows) (by exact lin [_] [.L 1 (.V 0) (.N 32)] (.T 1 (.V 0) (.N 4611686018427387904)) rfl hr2)) (by decide +kernel)) (c := false) ?_) fun s₁₀ P₁₀ F₁₀ l₁₀ => isTrue_or_nil ?_)
  · have := cmp_neI (prog := prog) (w := w) (a := ((tallyD (leftsN S sz rows)).map (·.2)).sum) (b := ((rows.length : Nat) : Int))
    rw [K.b, bne_self_eq_false] at this
    rw [K.b]
    exact this
  · refine Run.run (b := []) (sc_nil (then_next ?_))
    exact h s₁₀ X₇ P₁₀ _ ln₅ _ _ _ _ (ringsOf rows) ((lx₈.mono l₉).mono l₁₀) ht₅ rfl F₁₀ ((lle.trans l₉).trans l₁₀)
end
end
section
open PySem.W Builtin
noncomputable def keyPV (w0 w1 : Int) (x : Nat) : PV := .tuple [.int (key0 w0 x), .int (key1 w1 x)]
section
variable {prog : Program} {w : World} {G : GC} {n : Nat} {A : Around} {W V : Addr → Prop} {s₀ : Shared} {P₀ : PMap} {env : Env} {M X P : PMap} {s : Shared} {Q : Flow → Shared → Prop}
variable {T C CT : Addr} {mN mT : Str → Option Value} {fI fR fG fP fTI fTC : Addr}
theorem law_5 {ns : List Int} {c : Nat → Nat} {sz b : Nat} {w0 w1 : Int} {sa : Addr} {drawn words rows : List (List Nat)} {nums first text rings : List Nat} {S : List (List Int)} {L : LexA} {rest : List Nat} {ln : Int} {v20 v21 v22 v23 : Option PV} (H : LawG G T C CT mN mT fI fR fG fP fTI fTC) (hb1 : 2 ≤ b) (hb2 : b ≤ 3)
    (hw0 : w0 = 1 ∨ w0 = -1) (hw1 : w1 = 1 ∨ w1 = -1) (hnl : nums.length = b) (hnr : ∀ x ∈ nums, 7 ≤ x ∧ x ≤ 54) (hS : S = ordN nums w0 w1) (K : SieveOk S sz rows) (htl : text.length ≤ 1000)
    (hLC : L.C = C) (lx : LexX prog w L X P [] rest ln) (hz : tokO rest = ([], [])) (hrest : rest.length ≤ 10000) (htot : tot ln rest = tot 1 text)
    (F : Fn prog w G (n + 5) A W V s₀ P₀ env (sp 70).names lwN M X P (lwN.zip (pre4 ns c sz b w0 w1 sa CT drawn words nums first text L.x rows ++ [some (signsV S), some (.list (rows.map (fallV S))), v20, v21, v22, v23, some (rowV rings)] ++ List.replicate 2 none)) s)
    (h : ∀ s' M' X' P' σ', Fn prog w G (n + 5) A W V s₀ P₀ env (sp 70).names lwN M' X' P' σ' s' → TabX L X' → Q (.ret (.bool true)) s') :
    Run prog w A env ((bd 70).drop 18) Q s := by
  have hsl : (10000 : Nat) ≤ sizeLine := by unfold sizeLine; exact lin [] [] (.L 1 (.N 10000) (.N 16777216)) rfl
  have hr1 := K.r1
  have hr2 := K.r2
  refine sc_assign F (pv := rowV (rows.map (majN S))) (den_as (by unfold rowV; rw [List.map_map]; rfl) (den_for1 (fallV S) rows (fun r => iN (majN S r)) [] (τ := []) (den_var (zm 19 rfl rfl)) its_list (.skip (by decide) (.skip (by decide) .nil)) (fun r hr => den_itemTN (d := iN (majN S r)) (den_var (gm 0 rfl)) (den_k 1) (by exact lin [] [] (.T 1 (.N 1) (.N 9223372036854775808)) rfl) rfl) (by exact lin [_, _] [.L 1 (.N 10000) (.V 0), .L 1 (.V 1) (.N 32)] (.L 1 (.V 1) (.V 0)) rfl hsl hr2) rfl (by decide +kernel))) (noSwap_cell F (gm 25 rfl)) (gm 25 rfl) (turned_zip F.nd (i := 25) rfl (.there (.there (.there (.there (.there (.there (.there (.there (.there (.there (.there (.there (.there (.there (.there (.there (.there (.there (.there (.there (.there (.there (.there (.there (.there .here)))))))))))))))))))))))))) (fun s₂ P₂ F l₂ => ?_)
  refine sc_skip F (dent_cmp (H.g67.den (gm 38 rfl) (argd1 (den_as (b := .list ((fallsI S rows).map .int)) (by unfold fallsI; rw [List.map_map]; rfl) (den_for1 (fallV S) rows (fun r => iN (fallN S r)) [] (τ := []) (den_var (zm 19 rfl rfl)) its_list (.skip (by decide) (.skip (by decide) .nil)) (fun r hr => den_itemTN (d := iN (fallN S r)) (den_var (gm 0 rfl)) (den_k 0) (by exact lin [] [] (.T 1 (.N 0) (.N 9223372036854775808)) rfl) rfl) (by exact lin [_, _] [.L 1 (.N 10000) (.V 0), .L 1 (.V 1) (.N 32)] (.L 1 (.V 1) (.V 0)) rfl hsl hr2) rfl (by decide +kernel)))) (fun a D => con_count' D (by simp [fallsI]; exact lin [_] [.L 1 (.N 1) (.V 0)] (.L 1 (.N 1) (.V 0)) rfl hr1) (by simp [fallsI]; exact lin [_] [.L 1 (.V 0) (.N 32)] (.L 1 (.V 0) (.N 32)) rfl hr2) H.range H.len H.dict H.isin H.tuple H.g2) (by decide +kernel))
    (den_as (b := .dI (countD (rows.map (majN S)))) (by unfold countD; rfl) (den_dcompI iN (rows.map (majN S)) (fun v => ((v : Nat) : Int)) (fun v => (((rows.map (majN S)).count v : Nat) : Int)) ["majors"] (den_var (zm 25 rfl rfl)) its_list (.skip (by decide) (.skip (by decide) (.free (zm 25 rfl rfl) (.inl (gm 25 rfl)) .nil))) (fun v hv => (den_var (gm 0 rfl))) (fun v hv => den_method (den_var (gm 1 rfl)) (meth_list PySem.F.slot_list_count PySem.F.type_list_count) (argd1 (den_var (gm 0 rfl))) con_countN) (by simp; exact lin [_] [.L 1 (.V 0) (.N 32)] (.L 1 (.V 0) (.N 1000)) rfl hr2) rfl (by decide +kernel))) (cmp_neD K.c)) (fun s₃ P₃ F l₃ => ?_)
  have wb : ∀ {v : Int}, (v = 1 ∨ v = -1) → v.natAbs < 2 ^ 64 := fun h => by rcases h with rfl | rfl <;> decide
  refine sc_assign F (pv := .list (nums.map (keyPV w0 w1))) (den_for1 iN nums (keyPV w0 w1) ["ways"] (den_var (zm 10 rfl rfl)) its_list (.skip (by decide) (.skip (by decide) (.free (zm 5 rfl rfl) (.inl (gm 5 rfl)) .nil))) (fun x hx => den_tuple (dens2 (den_mul (den_modN (den_var (gm 0 rfl)) (den_k 2) (by exact lin [] [] (.T 1 (.N 0) (.N 2)) rfl)) (den_itemTN (d := .int w0) (den_var (gm 1 rfl)) (den_k 0) (by exact lin [] [] (.T 1 (.N 0) (.N 9223372036854775808)) rfl) rfl) (by have : x % 2 < 2 := Nat.mod_lt _ (by exact lin [] [] (.T 1 (.N 0) (.N 2)) rfl); lia) (wb hw0)) (den_mul (den_var (gm 0 rfl)) (den_itemTN (d := .int w1) (den_var (gm 1 rfl)) (den_k 1) (by exact lin [] [] (.T 1 (.N 1) (.N 9223372036854775808)) rfl) rfl) (by have := hnr x hx; lia) (wb hw1))) (by simp; exact lin [_] [.L 1 (.N 10000) (.V 0)] (.L 1 (.N 2) (.V 0)) rfl hsl)) (by exact lin [_, _, _] [.L 1 (.V 0) (.N 3), .E 1 (.V 1) (.V 0), .L 1 (.N 10000) (.V 2)] (.L 1 (.V 1) (.V 2)) rfl hb2 hnl hsl) rfl (by decide +kernel)) (noSwap_cell F (gm 26 rfl)) (gm 26 rfl) (turned_zip F.nd (i := 26) rfl (.there (.there (.there (.there (.there (.there (.there (.there (.there (.there (.there (.there (.there (.there (.there (.there (.there (.there (.there (.there (.there (.there (.there (.there (.there (.there .here))))))))))))))))))))))))))) (fun s₄ P₄ F l₄ => ?_)
  have hcmp : Cmp prog w .NotEq (signsV S) (.list (nums.map fun x => .list (nums.map fun y => .int (b2i (keyGt w0 w1 x y) - b2i (keyLt w0 w1 x y))))) false := by
    have := cmp_neM (prog := prog) (w := w) (enc := fun r : List Int => PV.list (r.map .int)) (k := 1) (l := S) (m := S) (by exact lin [] [] (.L 1 (.N 1) (.N 63)) rfl) (fun r _ => okk_listM fun _ _ => okk_int) (fun r _ => okk_listM fun _ _ => okk_int) fun a _ b _ => eqv_list fun _ _ _ _ => eqv_int
    rw [bne_self_eq_false] at this
    have e : S.map (fun r : List Int => PV.list (r.map .int)) = nums.map fun x => .list (nums.map fun y => .int (b2i (keyGt w0 w1 x y) - b2i (keyLt w0 w1 x y))) := by
      rw [hS]; unfold ordN; rw [List.map_map]; apply List.map_congr_left; intro x _
      simp only [Function.comp]; rw [List.map_map]; apply congrArg PV.list; apply List.map_congr_left; intro y _
      simp only [Function.comp]; rw [cmp_key hw0 hw1]
    rw [← e]
    exact this
  refine sc_skip F (dent_cmp (den_var (zm 18 rfl rfl)) (den_for1 (keyPV w0 w1) nums (fun x => .list (nums.map fun y => .int (b2i (keyGt w0 w1 x y) - b2i (keyLt w0 w1 x y)))) ["keys"] (den_var (zm 26 rfl rfl)) its_list (.skip (by decide) (.skip (by decide) (.free (zm 26 rfl rfl) (.inl (gm 26 rfl)) .nil)))
    (fun x hx => den_for1 (keyPV w0 w1) nums (fun y => .int (b2i (keyGt w0 w1 x y) - b2i (keyLt w0 w1 x y))) ["one"] (den_var (gm 1 rfl)) its_list (.skip (by decide) (.skip (by decide) (.free (gm 0 rfl) (.inl (gm 1 rfl)) .nil))) (fun y hy => den_subB (den_cmpB (den_var (gm 1 rfl)) (den_var (gm 0 rfl)) cmp_gtP) (den_cmpB (den_var (gm 1 rfl)) (den_var (gm 0 rfl)) cmp_ltP)) (by exact lin [_, _, _] [.L 1 (.V 0) (.N 3), .E 1 (.V 1) (.V 0), .L 1 (.N 10000) (.V 2)] (.L 1 (.V 1) (.V 2)) rfl hb2 hnl hsl) rfl (by decide +kernel)) (by exact lin [_, _, _] [.L 1 (.V 0) (.N 3), .E 1 (.V 1) (.V 0), .L 1 (.N 10000) (.V 2)] (.L 1 (.V 1) (.V 2)) rfl hb2 hnl hsl) rfl (by decide +kernel)) hcmp) (fun s₅ P₅ F l₅ => ?_)
  have lx := (((lx.mono l₂).mono l₃).mono l₄).mono l₅
  have Lc := H.lex.lc hLC
  refine sc_of (wpAny_Return_some (BoolOp_and (wpAny_Compare1 (gt_eval F Lc H.lex.bi lx hrest (by simp) (den_var (zm 13 rfl rfl)) fun v s₆ X₆ P₆ ln₆ F₆ l₆ r₆ ht₆ lx₆ => ?_))))
  have hg : gtOf [] rest = ([], [], []) := by show ((tokO rest).1, [], (tokO rest).2) = _; rw [hz]
  rw [hg] at r₆ ht₆ lx₆
  refine F₆.evald (den_txt [] (by decide +kernel)) fun v' s₇ P₇ F₇ l₇ k₇ r₇ => ?_
  refine cmp_eqT (prog := prog) (w := w) (a := []) (b := []) _ P₇ s₇ v v' _ F₇.cx.room.hd (by have := F₇.cx.room.un; exact lin [_, _, _] [.T 1 (.A (.A (.V 0) (.N 80)) (.M 10 (.A (.A (.V 1) (.N 1)) (.N 4)))) (.V 2)] (.T 1 (.A (.V 0) (.N 80)) (.V 2)) rfl this) F₇.cx.sub (r₆.mono l₇) r₇ fun tk => wpAny_truthy_bool ?_
  rw [if_pos (by rfl : (([] : List Nat) == []) = true)]
  have F₈ := F₇.move (tk := tk) (Keep.refl _) (PMap.le_refl _) F₇.cx.sub (Grew.refl _ _)
  have lx₇ := lx₆.mono l₇
  refine BoolOp_one (wpAny_Compare1 (Attribute_Name_ (F₈.evald (den_var (zm 13 rfl rfl)) fun ov s₉ P₉ F₉ l₉ k₉ r₉ => ?_)))
  (have h := Rp.raw_inv r₉; clear r₉; subst h)
  have lx₉ := lx₇.mono l₉
  (refine el3x2 (lx₉.ins) ?_; intro t u mA hI hA)
  (refine el0x7 (@lexM_get L ln₆ t u) ?_; intro g1 g2 g3 g4 g5 g6 g7)
  refine getX F₉ Lc.c hI Lc.a1 ob_lineno (by rw [hA]; exact g1) rfl fun s₁₀ F₁₀ _ => ?_
  refine F₁₀.evald (den_add (den_int (i := 1)) (den_method (den_as (by rfl) (den_var (zm 12 rfl rfl))) meth_count (argd1 (den_txt [10] (by decide +kernel))) (con_strcount (x := tx text) (y := tx [10])))) fun rv s₁₁ P₁₁ F₁₁ l₁₁ k₁₁ r₁₁ => ?_
  have hln : ln₆ = 1 + ((text.count 10 : Nat) : Int) := by
    have := ht₆.trans htot
    unfold tot at this
    simpa using this
  rw [tx_count, ← hln] at r₁₁
  (refine Rp.int_el r₁₁ ?_; clear r₁₁; intro _ h; subst h)
  refine PySem.P.eq_int ?_
  rw [beq_self_eq_true]
  exact then_ret (h _ _ _ _ _ F₁₁ lx₉.tb)
end
end
theorem tokO_ws (w R : List Nat) (h : ∀ c ∈ w, wsp.contains c = true) : tokO (w ++ R) = tokO R := by
  induction w with
  | nil => rfl
  | cons c w ih => rw [List.cons_append, tokO_cons, if_pos (h c (by simp)), ih fun x hx => h x (List.mem_cons_of_mem _ hx)]
theorem esc_cases (t c : Nat) : (escOf t c = [92, c]) ∨ (escOf t c = [c] ∧ (needOf t).contains c = false) := by
  unfold escOf
  by_cases h : (fullAt t || (needOf t).contains c) = true
  · rw [if_pos h]; exact .inl rfl
  · rw [if_neg h]
    simp only [Bool.or_eq_true, not_or] at h
    exact .inr ⟨rfl, by simpa using h.2⟩
theorem need_q {t : Nat} (h : quotedAt t = true) : needOf t = [34, 92] := by unfold needOf; rw [if_pos h]
theorem need_b {t : Nat} (h : quotedAt t = false) : needOf t = [92, 32, 9, 10, 13] := by unfold needOf; rw [h]; rfl
theorem wsp_92 : wsp.contains 92 = false := by decide
theorem wsp_34 : wsp.contains 34 = false := by decide
theorem wsp_of {c : Nat} (h : ([92, 32, 9, 10, 13] : List Nat).contains c = false) : wsp.contains c = false ∧ c ≠ 92 := by
  simp [wsp] at h ⊢; lia
theorem esc_Q {t : Nat} (hq : quotedAt t = true) : ∀ (v acc R : List Nat), tokQ acc ((v.map (escOf t)).flatten ++ R) = tokQ (acc ++ v) R
  | [], acc, R => by simp
  | c :: v, acc, R => by
    rw [List.map_cons, List.flatten_cons, List.append_assoc]
    rcases esc_cases t c with e | ⟨e, hn⟩
    · rw [e]
      show tokQ acc (92 :: c :: (_ ++ R)) = _
      rw [tokQ_cons, if_neg (by decide), if_pos rfl]
      show tokQ (acc ++ [c]) ((v.map (escOf t)).flatten ++ R) = _
      rw [esc_Q hq v (acc ++ [c]) R, List.append_assoc]; rfl
    · rw [e]
      rw [need_q hq] at hn
      simp at hn
      show tokQ acc (c :: (_ ++ R)) = _
      rw [tokQ_cons, if_neg hn.1, if_neg hn.2, esc_Q hq v (acc ++ [c]) R, List.append_assoc]; rfl
theorem esc_W {t : Nat} (hq : quotedAt t = false) : ∀ (v acc R : List Nat), tokW acc ((v.map (escOf t)).flatten ++ R) = tokW (acc ++ v) R
  | [], acc, R => by simp
  | c :: v, acc, R => by
    rw [List.map_cons, List.flatten_cons, List.append_assoc]
    rcases esc_cases t c with e | ⟨e, hn⟩
    · rw [e]
      show tokW acc (92 :: c :: (_ ++ R)) = _
      rw [tokW_cons, if_neg (by rw [wsp_92]; exact Bool.false_ne_true), if_pos rfl]
      show tokW (acc ++ [c]) ((v.map (escOf t)).flatten ++ R) = _
      rw [esc_W hq v (acc ++ [c]) R, List.append_assoc]; rfl
    · rw [e]
      rw [need_b hq] at hn
      (refine el0x2 (wsp_of hn) ?_; intro h1 h2)
      show tokW acc (c :: (_ ++ R)) = _
      rw [tokW_cons, if_neg (by rw [h1]; exact Bool.false_ne_true), if_neg h2, esc_W hq v (acc ++ [c]) R, List.append_assoc]; rfl
theorem esc_O {t : Nat} (hq : quotedAt t = false) {a : Nat} (h1 : a ≠ 34) (h2 : wsp.contains a = false) (h3 : a ≠ 92) (r R : List Nat) : tokO (((a :: r).map (escOf t)).flatten ++ R) = tokW (a :: r) R := by
  rw [List.map_cons, List.flatten_cons, List.append_assoc]
  rcases esc_cases t a with e | ⟨e, hn⟩
  · rw [e]
    show tokO (92 :: a :: (_ ++ R)) = _
    rw [tokO_cons, if_neg (by rw [wsp_92]; exact Bool.false_ne_true), if_neg (by decide), if_pos rfl]
    show tokW [a] ((r.map (escOf t)).flatten ++ R) = _
    rw [esc_W hq r [a] R]; rfl
  · rw [e]
    show tokO (a :: (_ ++ R)) = _
    rw [tokO_cons, if_neg (by rw [h2]; exact Bool.false_ne_true), if_neg h1, if_neg h3, esc_W hq r [a] R]; rfl
noncomputable def loOf (t : Nat) : List Nat := if quotedAt t then gapOf t else (gapOf t).drop 1
theorem gap_ws : ∀ t < 20, (∀ c ∈ gapOf t, wsp.contains c = true) ∧ (quotedAt t = false → gapOf t ≠ []) := by decide +kernel
theorem lo_ws {t : Nat} (h : t < 20) : ∀ c ∈ loOf t, wsp.contains c = true := by
  intro c hc
  unfold loOf at hc
  split at hc
  · exact (gap_ws t h).1 c hc
  · exact (gap_ws t h).1 c (List.mem_of_mem_drop hc)
theorem piece_read {t : Nat} (ht : t < 20) {a : Nat} (h1 : a ≠ 34) (h2 : wsp.contains a = false) (h3 : a ≠ 92) (r R : List Nat) : tokO (pieceOf t (a :: r) ++ R) = (a :: r, loOf t ++ R) := by
  (refine el0x2 (gap_ws t ht) ?_; intro g1 g2)
  unfold pieceOf loOf
  cases hq : quotedAt t with
  | true =>
    have hm : markOf t = [34] := by unfold markOf; rw [hq]; rfl
    rw [hm]
    simp only [List.append_assoc, List.cons_append, List.nil_append]
    rw [tokO_cons, if_neg (by rw [wsp_34]; exact Bool.false_ne_true), if_pos rfl, esc_Q hq, tokQ_cons, if_pos rfl]
    simp
  | false =>
    have hm : markOf t = [] := by unfold markOf; rw [hq]; rfl
    rw [hm]
    simp only [List.append_assoc, List.nil_append]
    rw [esc_O hq h1 h2 h3]
    (refine el2x1 (List.exists_cons_of_ne_nil (g2 hq)) ?_; intro g gr hg)
    rw [hg, List.cons_append, tokW_cons, if_pos (g1 g (by rw [hg]; simp))]
    simp
theorem last_all : ∀ t < 20, tokO ((pieceOf t [122]).dropLast) = ([122], []) := by decide +kernel
theorem last_read {t : Nat} (ht : t < 20) : tokO ((pieceOf t [122]).dropLast) = ([122], []) := last_all t ht
theorem piece_ne (t : Nat) (a : Nat) (r : List Nat) : pieceOf t (a :: r) ≠ [] := by
  unfold pieceOf
  rcases esc_cases t a with e | ⟨e, _⟩ <;> simp [e]
noncomputable def tailN (ws : List (List Nat)) (cell m j : Nat) : List Nat := ((List.range' j (m - j)).flatMap fun i => pieceOf (styleAt cell i) (ws.getD i [])) ++ (pieceOf (styleAt cell m) [122]).dropLast
noncomputable def restN (ws : List (List Nat)) (cell m : Nat) : Nat → List Nat
  | 0 => tailN ws cell m 0
  | j + 1 => if j < m then loOf (styleAt cell j) ++ tailN ws cell m (j + 1) else []
theorem style_lt (cell i : Nat) : styleAt cell i < 20 := Nat.mod_lt _ (by exact lin [] [] (.T 1 (.N 0) (.N 20)) rfl)
theorem lex_ok {ws : List (List Nat)} {cell m : Nat} (hl : ws.length = m) (hm : m ≤ 10) (hw : ∀ v ∈ ws, v.length ≤ 8 ∧ ∃ a r, v = a :: r ∧ a ≠ 34 ∧ wsp.contains a = false ∧ a ≠ 92) :
    LexOk (textTo (ws ++ [[122]]) cell (m + 1)).dropLast (ws ++ [[122], []]) (restN ws cell m) := by
  have hstep : ∀ j < m, tailN ws cell m j = pieceOf (styleAt cell j) (ws.getD j []) ++ tailN ws cell m (j + 1) := fun j hj => by
    unfold tailN
    rw [show m - j = (m - (j + 1)) + 1 by lia, List.range'_succ, List.flatMap_cons, List.append_assoc]
  have hread : ∀ j, j < m → tokO (tailN ws cell m j) = (ws.getD j [], loOf (styleAt cell j) ++ tailN ws cell m (j + 1)) := fun j hj => by
    rw [hstep j hj]
    have hmem : ws.getD j [] ∈ ws := by rw [List.getD_eq_getElem?_getD, List.getElem?_eq_getElem (by exact lin [_, _, _] [.Q 1 (.V 0) (.V 1), .T 1 (.V 2) (.V 1)] (.T 1 (.V 2) (.V 0)) rfl hl hj)]; exact List.getElem_mem _
    (refine el0x2 (hw _ hmem) ?_; intro _ hZ; refine el2x4 hZ ?_; clear hZ; intro a r e h1 h2 h3)
    rw [e]
    exact piece_read (style_lt _ _) h1 h2 h3 r _
  have hlast : tokO (tailN ws cell m m) = ([122], []) := by
    unfold tailN
    rw [Nat.sub_self]
    exact last_read (style_lt _ _)
  have hlen : ∀ j, (tailN ws cell m j).length ≤ 24 * 11 := fun j => by
    unfold tailN
    rw [List.length_append, List.length_dropLast]
    have h1 := flatMap_len (fun i => pieceOf (styleAt cell i) (ws.getD i [])) 24 (List.range' j (m - j)) fun i _ => piece_len _ _ (by
      rw [List.getD_eq_getElem?_getD]
      cases q : ws[i]? with
      | none => simp
      | some v => exact (hw _ (List.mem_of_getElem? q)).1)
    have h2 := piece_len (styleAt cell m) [122] (by simp)
    rw [List.length_range'] at h1
    have : (m - j) * 24 ≤ 240 := by lia
    lia
  have hlo : ∀ t, (loOf t).length ≤ 2 := fun t => by
    unfold loOf
    have h2 : (gapOf t).length ≤ 2 := by
      unfold gapOf
      rcases t / 4 with _ | _ | _ | _ | _ | k <;> simp <;> (try split) <;> simp
    split
    · exact h2
    · rw [List.length_drop]; lia
  refine ⟨?_, fun j w hj => ?_, ?_, fun j => ?_⟩
  · show tailN ws cell m 0 = _
    rw [textTo_succ, List.getD_eq_getElem?_getD, List.getElem?_append_right (by exact lin [_, _] [.E 1 (.V 0) (.V 1)] (.L 1 (.V 0) (.V 1)) rfl hl), hl, Nat.sub_self]
    show _ = (_ ++ pieceOf (styleAt cell m) [122]).dropLast
    rw [List.dropLast_append_of_ne_nil (piece_ne _ _ _)]
    unfold tailN textTo
    rw [Nat.sub_zero, ← List.range_eq_range']
    congr 1
    rw [List.flatMap_def, List.flatMap_def]
    congr 1
    apply List.map_congr_left
    intro i hi
    have := List.mem_range.mp hi
    rw [List.getD_eq_getElem?_getD, List.getD_eq_getElem?_getD, List.getElem?_append_left (by exact lin [_, _, _] [.Q 1 (.V 0) (.V 1), .T 1 (.V 2) (.V 1)] (.T 1 (.V 2) (.V 0)) rfl hl this)]
  · have hjl : j < m + 2 := by
      have := (List.getElem?_eq_some_iff.mp hj).1
      simp at this; exact lin [_, _, _] [.E 1 (.V 0) (.V 1), .T 1 (.V 2) (.A (.V 0) (.N 2))] (.T 1 (.V 2) (.A (.V 1) (.N 2))) rfl hl this
    have rd : j ≤ m → tokO (restN ws cell m j) = tokO (tailN ws cell m j) := fun h => by
      cases j with
      | zero => rfl
      | succ i =>
        show tokO (if i < m then _ else _) = _
        rw [if_pos (by exact lin [_, _] [.L 1 (.A (.V 0) (.N 1)) (.V 1)] (.T 1 (.V 0) (.V 1)) rfl h), tokO_ws _ _ (lo_ws (style_lt _ _))]
    by_cases h1 : j < m
    · rw [rd (by exact lin [_, _] [.T 1 (.V 0) (.V 1)] (.L 1 (.V 0) (.V 1)) rfl h1), hread j h1]
      rw [List.getElem?_append_left (by exact lin [_, _, _] [.Q 1 (.V 0) (.V 1), .T 1 (.V 2) (.V 1)] (.T 1 (.V 2) (.V 0)) rfl hl h1)] at hj
      show _ = (w, if j < m then _ else _)
      rw [if_pos h1, List.getD_eq_getElem?_getD, hj]; rfl
    · rw [List.getElem?_append_right (by exact lin [_, _, _] [.E 1 (.V 0) (.V 1), .NT 1 (.V 2) (.V 1)] (.L 1 (.V 0) (.V 2)) rfl hl h1), hl] at hj
      by_cases h2 : j = m
      · subst h2
        rw [Nat.sub_self] at hj
        simp at hj; subst hj
        rw [rd (Nat.le_refl _), hlast]
        show _ = (_, if j < j then _ else _)
        rw [if_neg (by exact fun q => lin [_] [.T 1 (.V 0) (.V 0)] .F rfl q)]
      · obtain rfl : j = m + 1 := by lia
        rw [show m + 1 - m = 1 by lia] at hj
        simp at hj; subst hj
        show tokO (if m < m then _ else _) = (_, if m + 1 < m then _ else _)
        rw [if_neg (by exact fun q => lin [_] [.T 1 (.V 0) (.V 0)] .F rfl q), if_neg (by exact fun q => lin [_] [.T 1 (.A (.V 0) (.N 1)) (.V 0)] .F rfl q)]; rfl
  · rw [List.length_append, hl]
    show (if m + 1 < m then _ else _) = _
    rw [if_neg (by exact fun q => lin [_] [.T 1 (.A (.V 0) (.N 1)) (.V 0)] .F rfl q)]
  · cases j with
    | zero => exact Nat.le_trans (hlen 0) (by exact lin [] [] (.L 1 (.N 264) (.N 10000)) rfl)
    | succ i =>
      show (if i < m then _ else _ : List Nat).length ≤ _
      split
      · rw [List.length_append]
        have := hlen (i + 1)
        have := hlo (styleAt cell i)
        lia
      · simp
noncomputable def rowsT (b sz : Nat) (t : List Nat) : List (List Nat) := ((List.range (b ^ sz)).map (digits b sz)).filter fun r => tally b r == t
noncomputable def sg (p : Bool) : Int := if p then 1 else -1
noncomputable def sg2 (p : Bool) : List (List Int) := [[0, sg p], [-sg p, 0]]
noncomputable def sg3 (p q r : Bool) : List (List Int) := [[0, sg p, sg q], [-sg p, 0, sg r], [-sg q, -sg r, 0]]
noncomputable def chk (S : List (List Int)) (sz : Nat) (rows : List (List Nat)) : Bool :=
  eqvK (tallyD (leftsN S sz rows)) (countD (ringsOf rows)) && decide (((tallyD (leftsN S sz rows)).map (·.2)).sum = (rows.length : Int)) && eqvK (tallyD (fallsI S rows)) (countD (rows.map (majN S))) && decide (1 ≤ rows.length) && decide (rows.length ≤ 32)
theorem chk_ok {S : List (List Int)} {sz : Nat} {rows : List (List Nat)} (h : chk S sz rows = true) : SieveOk S sz rows := by
  unfold chk at h
  simp only [Bool.and_eq_true, decide_eq_true_eq] at h
  exact ⟨h.1.1.1.1, h.1.1.1.2, h.1.1.2, h.1.2, h.2⟩
theorem sieve24 : ∀ p : Bool, ∀ a < 5, chk (sg2 p) 4 (rowsT 2 4 [a, 4 - a]) = true := by decide +kernel
theorem sieve25 : ∀ p : Bool, ∀ a < 6, chk (sg2 p) 5 (rowsT 2 5 [a, 5 - a]) = true := by decide +kernel
theorem sieve26 : ∀ p : Bool, ∀ a < 7, chk (sg2 p) 6 (rowsT 2 6 [a, 6 - a]) = true := by decide +kernel
theorem sieve34 : ∀ p q r : Bool, ((p && r && !q) || (!p && !r && q)) = false → ∀ a < 5, ∀ c < 5, a + c ≤ 4 → chk (sg3 p q r) 4 (rowsT 3 4 [a, c, 4 - a - c]) = true := by decide +kernel
theorem count2 : ∀ l : List Nat, (∀ x ∈ l, x < 2) → l.count 0 + l.count 1 = l.length
  | [], _ => rfl
  | x :: l, h => by
    have ih := count2 l fun y hy => h y (List.mem_cons_of_mem _ hy)
    have hx := h x (by simp)
    rw [List.count_cons, List.count_cons, List.length_cons]
    obtain rfl | rfl : x = 0 ∨ x = 1 := by lia
    · simp; exact Nat.le_antisymm (lin [_, _, _] [.E 1 (.A (.V 0) (.V 1)) (.V 2)] (.L 1 (.A (.A (.V 0) (.N 1)) (.V 1)) (.A (.V 2) (.N 1))) rfl ih) (lin [_, _, _] [.Q 1 (.A (.V 0) (.V 1)) (.V 2)] (.L 1 (.A (.V 2) (.N 1)) (.A (.A (.V 0) (.N 1)) (.V 1))) rfl ih)
    · simp; exact Nat.le_antisymm (lin [_, _, _] [.E 1 (.A (.V 0) (.V 1)) (.V 2)] (.L 1 (.A (.V 0) (.A (.V 1) (.N 1))) (.A (.V 2) (.N 1))) rfl ih) (lin [_, _, _] [.Q 1 (.A (.V 0) (.V 1)) (.V 2)] (.L 1 (.A (.V 2) (.N 1)) (.A (.V 0) (.A (.V 1) (.N 1)))) rfl ih)
theorem count3 : ∀ l : List Nat, (∀ x ∈ l, x < 3) → l.count 0 + l.count 1 + l.count 2 = l.length
  | [], _ => rfl
  | x :: l, h => by
    have ih := count3 l fun y hy => h y (List.mem_cons_of_mem _ hy)
    have hx := h x (by simp)
    rw [List.count_cons, List.count_cons, List.count_cons, List.length_cons]
    obtain rfl | rfl | rfl : x = 0 ∨ x = 1 ∨ x = 2 := by lia
    · simp; exact Nat.le_antisymm (lin [_, _, _, _] [.E 1 (.A (.A (.V 0) (.V 1)) (.V 2)) (.V 3)] (.L 1 (.A (.A (.A (.V 0) (.N 1)) (.V 1)) (.V 2)) (.A (.V 3) (.N 1))) rfl ih) (lin [_, _, _, _] [.Q 1 (.A (.A (.V 0) (.V 1)) (.V 2)) (.V 3)] (.L 1 (.A (.V 3) (.N 1)) (.A (.A (.A (.V 0) (.N 1)) (.V 1)) (.V 2))) rfl ih)
    · simp; exact Nat.le_antisymm (lin [_, _, _, _] [.E 1 (.A (.A (.V 0) (.V 1)) (.V 2)) (.V 3)] (.L 1 (.A (.A (.V 0) (.A (.V 1) (.N 1))) (.V 2)) (.A (.V 3) (.N 1))) rfl ih) (lin [_, _, _, _] [.Q 1 (.A (.A (.V 0) (.V 1)) (.V 2)) (.V 3)] (.L 1 (.A (.V 3) (.N 1)) (.A (.A (.V 0) (.A (.V 1) (.N 1))) (.V 2))) rfl ih)
    · simp; exact Nat.le_antisymm (lin [_, _, _, _] [.E 1 (.A (.A (.V 0) (.V 1)) (.V 2)) (.V 3)] (.L 1 (.A (.A (.V 0) (.V 1)) (.A (.V 2) (.N 1))) (.A (.V 3) (.N 1))) rfl ih) (lin [_, _, _, _] [.Q 1 (.A (.A (.V 0) (.V 1)) (.V 2)) (.V 3)] (.L 1 (.A (.V 3) (.N 1)) (.A (.A (.V 0) (.V 1)) (.A (.V 2) (.N 1)))) rfl ih)
theorem rows_eq (b : Nat) (fs : List Nat) : rowsOf b fs = rowsT b fs.length (tally b fs) := rfl
section
variable {w0 w1 : Int} (h0 : w0 = 1 ∨ w0 = -1) (h1 : w1 = 1 ∨ w1 = -1)
include h0 h1
theorem cmp_self (x : Nat) : cmpL [(1, w0), (0, w1)] [x, x % 2] [x, x % 2] = 0 := by
  rw [cmp_key h0 h1]
  exact Int.sub_self _
omit h0 in
theorem key_ne {x y : Nat} (hne : x ≠ y) : key1 w1 x ≠ key1 w1 y := fun e => hne (Int.ofNat.inj (Int.eq_of_mul_eq_mul_right (show w1 ≠ 0 by rcases h1 with rfl | rfl <;> decide) e))
omit h0 h1 in
theorem key_lt (x y : Nat) : keyLt w0 w1 x y = keyGt w0 w1 y x := decide_eq_decide.mpr ⟨Or.imp_right (And.imp_left Eq.symm), Or.imp_right (And.imp_left Eq.symm)⟩
omit h0 in
theorem key_not {x y : Nat} (hne : x ≠ y) : keyGt w0 w1 y x = !keyGt w0 w1 x y := by
  have hk := key_ne h1 hne
  unfold keyGt
  rcases Int.lt_trichotomy (key0 w0 x) (key0 w0 y) with h | h | h
  · rw [decide_eq_true (.inl h), decide_eq_false (fun q => q.elim (Int.not_lt.mpr (Int.le_of_lt h)) fun q => Int.ne_of_lt h q.1)]; rfl
  · rcases Int.lt_or_gt_of_ne hk with k | k
    · rw [decide_eq_true (.inr ⟨h.symm, k⟩), decide_eq_false (fun q => q.elim (fun q => Int.ne_of_lt q h.symm) fun q => Int.not_lt.mpr (Int.le_of_lt k) q.2)]; rfl
    · rw [decide_eq_true (p := key0 w0 x > key0 w0 y ∨ _) (.inr ⟨h, k⟩), decide_eq_false (fun q => q.elim (fun q => Int.ne_of_lt q h) fun q => Int.not_lt.mpr (Int.le_of_lt k) q.2)]; rfl
  · rw [decide_eq_true (p := key0 w0 x > key0 w0 y ∨ _) (.inl h), decide_eq_false (fun q => q.elim (Int.not_lt.mpr (Int.le_of_lt h)) fun q => Int.ne_of_lt h q.1)]; rfl
omit h0 in
theorem key_tri {x y : Nat} (hne : x ≠ y) : keyLt w0 w1 x y = !keyGt w0 w1 x y ∧ keyLt w0 w1 y x = keyGt w0 w1 x y ∧ keyGt w0 w1 y x = keyLt w0 w1 x y :=
  (in0x3 ((key_lt x y).trans (key_not h1 hne)) (key_lt y x) (key_lt x y).symm)
theorem cmp_up {x y : Nat} (hne : x ≠ y) : cmpL [(1, w0), (0, w1)] [x, x % 2] [y, y % 2] = sg (keyGt w0 w1 x y) := by
  rw [cmp_key h0 h1, (key_tri h1 hne).1]
  cases keyGt w0 w1 x y <;> rfl
theorem cmp_down {x y : Nat} (hne : x ≠ y) : cmpL [(1, w0), (0, w1)] [y, y % 2] [x, x % 2] = -sg (keyGt w0 w1 x y) := by
  (refine el0x3 (key_tri (w0 := w0) h1 hne) ?_; intro t1 t2 t3)
  rw [cmp_key h0 h1, t3, t2, t1]
  cases keyGt w0 w1 x y <;> rfl
omit h0 h1 in
theorem key_tr {x y z : Nat} (h : keyGt w0 w1 x y = true) (h' : keyGt w0 w1 y z = true) : keyGt w0 w1 x z = true := by
  refine decide_eq_true ?_
  rcases of_decide_eq_true h with a | ⟨a, a'⟩ <;> rcases of_decide_eq_true h' with b | ⟨b, b'⟩
  · exact .inl (Int.lt_trans b a)
  · exact .inl (b ▸ a)
  · exact .inl (a ▸ b)
  · exact .inr ⟨a.trans b, Int.lt_trans b' a'⟩
omit h0 in
theorem key_trans {x y z : Nat} (hxy : x ≠ y) (hxz : x ≠ z) (hyz : y ≠ z) : ((keyGt w0 w1 x y && keyGt w0 w1 y z && !keyGt w0 w1 x z) || (!keyGt w0 w1 x y && !keyGt w0 w1 y z && keyGt w0 w1 x z)) = false := by
  have t := key_tr (w0 := w0) (w1 := w1) (x := x) (y := y) (z := z)
  have u := key_tr (w0 := w0) (w1 := w1) (x := z) (y := y) (z := x)
  rw [key_not h1 hyz, key_not h1 hxy, key_not h1 hxz] at u
  revert t u
  cases keyGt w0 w1 x y <;> cases keyGt w0 w1 y z <;> cases keyGt w0 w1 x z <;> intro t u <;> first | rfl | exact (t rfl rfl).symm | exact (u rfl rfl).symm
theorem ord2 {x y : Nat} (hne : x ≠ y) : ordN [x, y] w0 w1 = sg2 (keyGt w0 w1 x y) := by
  unfold ordN sg2
  simp only [List.map_cons, List.map_nil]
  rw [cmp_self h0 h1, cmp_self h0 h1, cmp_up h0 h1 hne, cmp_down h0 h1 hne]
theorem ord3 {x y z : Nat} (hxy : x ≠ y) (hxz : x ≠ z) (hyz : y ≠ z) : ordN [x, y, z] w0 w1 = sg3 (keyGt w0 w1 x y) (keyGt w0 w1 x z) (keyGt w0 w1 y z) := by
  unfold ordN sg3
  simp only [List.map_cons, List.map_nil]
  rw [cmp_self h0 h1, cmp_self h0 h1, cmp_self h0 h1, cmp_up h0 h1 hxy, cmp_down h0 h1 hxy, cmp_up h0 h1 hxz, cmp_down h0 h1 hxz, cmp_up h0 h1 hyz, cmp_down h0 h1 hyz]
theorem sieve_all {nums first : List Nat} {k : Nat} (hk : k < 4) (hnl : nums.length = bsN k) (hnn : nums.Nodup) (hfl : first.length = szN k) (hfb : ∀ x ∈ first, x < bsN k) : SieveOk (ordN nums w0 w1) (szN k) (rowsOf (bsN k) first) := by
  rw [rows_eq, hfl]
  have two : ∀ sz, first.length = sz → (∀ x ∈ first, x < 2) → nums.length = 2 → (∀ p : Bool, ∀ a < sz + 1, chk (sg2 p) sz (rowsT 2 sz [a, sz - a]) = true) → SieveOk (ordN nums w0 w1) sz (rowsT 2 sz (tally 2 first)) := fun sz hf hb hn hc => by
    obtain ⟨x, y, rfl⟩ : ∃ x y, nums = [x, y] := by
      match nums, hn with
      | [x, y], _ => exact (in2x1 x y rfl)
    have hne : x ≠ y := by simpa using hnn
    have ht : tally 2 first = [first.count 0, first.count 1] := rfl
    have hcc := count2 first hb
    rw [ord2 h0 h1 hne, ht, show first.count 1 = sz - first.count 0 by lia]
    exact chk_ok (hc _ _ (by exact lin [_, _, _, _] [.E 1 (.V 0) (.V 1), .E 1 (.A (.V 2) (.V 3)) (.V 0)] (.T 1 (.V 2) (.A (.V 1) (.N 1))) rfl hf hcc))
  rcases k with _ | _ | _ | _ | k
  · exact two 4 hfl hfb hnl sieve24
  · obtain ⟨x, y, z, rfl⟩ : ∃ x y z, nums = [x, y, z] := by
      match nums, hnl with
      | [x, y, z], _ => exact ⟨x, y, z, rfl⟩
    have hne : (x ≠ y ∧ x ≠ z) ∧ y ≠ z := by simpa using hnn
    have hcc := count3 first hfb
    have hf : first.length = 4 := hfl
    show SieveOk _ 4 (rowsT 3 4 (tally 3 first))
    have ht : tally 3 first = [first.count 0, first.count 1, first.count 2] := rfl
    rw [ord3 h0 h1 hne.1.1 hne.1.2 hne.2, ht, show first.count 2 = 4 - first.count 0 - first.count 1 by lia]
    exact chk_ok (sieve34 _ _ _ (key_trans h1 hne.1.1 hne.1.2 hne.2) _ (by exact lin [_, _, _, _] [.E 1 (.A (.A (.V 0) (.V 1)) (.V 2)) (.V 3), .E 1 (.V 3) (.N 4)] (.T 1 (.V 0) (.N 5)) rfl hcc hf) _ (by exact lin [_, _, _, _] [.E 1 (.A (.A (.V 0) (.V 1)) (.V 2)) (.V 3), .E 1 (.V 3) (.N 4)] (.T 1 (.V 1) (.N 5)) rfl hcc hf) (by exact lin [_, _, _, _] [.E 1 (.A (.A (.V 0) (.V 1)) (.V 2)) (.V 3), .E 1 (.V 3) (.N 4)] (.L 1 (.A (.V 0) (.V 1)) (.N 4)) rfl hcc hf))
  · exact two 5 hfl hfb hnl sieve25
  · exact two 6 hfl hfb hnl sieve26
  · lia
end
section
open PySem.W Builtin
section
variable {prog : Program} {w : World} {G : GC} {n : Nat} {A : Around} {P X : PMap} {s : Shared}
variable {T C CT : Addr} {mN mT : Str → Option Value} {fI fR fG fP fTI fTC : Addr}
theorem law_call {a : Addr} {v : Value} {ns : List Int} (H : LawG G T C CT mN mT fI fR fG fP fTI fTC) (hett : ∃ v, G.mg "EXACT_TOKEN_TYPES" = some v ∧ Rp prog w G.K v (.dS ettD)) (D : Df G.K (pm 70) (bd 70) (sp 70) a) (hns : ns.length ≤ 1000)
    (ok : GOk G) (le : PMap.le G.K P) (bb : Sub P s.heap) (rm : Room (n + 6) A) (bX : Sub X s.heap) (dX : ∀ a o, X a = some o → P a = none) (hT : X T = some (tabObj #[])) (rv : Rp prog w P v (.list (ns.map .int))) :
    wpAny (model prog w) A (call (.ref a) [v]) (fun v s' => EndsX prog w X P s v (.bool true) (fun X' _ => ∃ ps, X' T = some (tabObj ps)) s') (fun _ _ => False) s := by
  refine enter (X := X) (names := ["script"]) (extra := ["own", "cells", "size", "base", "ways", "signs", "comp", "drawn", "words", "numbers", "first", "text", "lexer", "rows", "names", "values", "kinds", "order", "falls", "symbols", "marks", "taken", "marked", "rings", "majors", "keys"]) D (bind1 fun fd v h1 h2 => ?_) (by decide +kernel) rfl rfl rfl rfl ok le bb rm (.cons rv .nil) bX dX (fun env s₁ F => ?_)
  · obtain ⟨_⟩ := fd; subst h1; subst h2; rfl
  have hk : cellN ns 0 % 4 < 4 := Nat.mod_lt _ (by exact lin [] [] (.T 1 (.N 0) (.N 4)) rfl)
  have hsz : ∀ k < 4, 4 ≤ szN k ∧ szN k ≤ 6 ∧ 2 ≤ bsN k ∧ bsN k ≤ 3 := by decide
  (refine el0x4 (hsz _ hk) ?_; intro z1 z2 z3 z4)
  have hw0 := way_cases (cellN ns 0) 4
  have hw1 := way_cases (cellN ns 0) 8
  refine law_1 (n := n + 5) H hns F fun s₂ P₂ F₂ l₂ => ?_
  refine law_2 (n := n + 3) H hett (cell_bd ns) z1 z2 z3 z4 F₂ fun s₃ P₃ M₃ cs drawn words first sa hcs hdr hwd hft F₃ l₃ => ?_
  have hcl : cs.length = bsN (cellN ns 0 % 4) := by rw [hcs]; simp
  have hdl : drawn.length = bsN (cellN ns 0 % 4) := by rw [hdr]; simp [drawnN, hcl]
  have hdm : ∀ d ∈ drawn, d ∈ opsN := by rw [hdr]; exact fun d hd => drawn_mem cs (by exact lin [_, _] [.L 1 (.V 0) (.N 3), .E 1 (.V 1) (.V 0)] (.L 1 (.V 1) (.N 3)) rfl z4 hcl) hd
  have hdn : drawn.Nodup := by rw [hdr]; exact drawn_nodup cs (by exact lin [_, _] [.L 1 (.V 0) (.N 3), .E 1 (.V 1) (.V 0)] (.L 1 (.V 1) (.N 3)) rfl z4 hcl)
  have hwl : words.length = bsN (cellN ns 0 % 4) := by rw [hwd]; simp [wordsN]
  have hwo : ∀ v ∈ words, v.length ≤ 8 ∧ ∀ x ∈ v, x < 128 := by rw [hwd]; exact words_ok hdm hdl
  have hwn : words.Nodup := by rw [hwd]; exact words_nodup hdm hdl hdn
  have hwh : ∀ v ∈ words, ∃ a r, v = a :: r ∧ a ≠ 35 ∧ a ≠ 122 ∧ a ≠ 34 ∧ wsp.contains a = false ∧ a ≠ 92 := by rw [hwd]; exact words_head hdm hdl
  have hfl : first.length = szN (cellN ns 0 % 4) := by rw [hft]; exact digits_len _ _ _
  have hfb : ∀ x ∈ first, x < bsN (cellN ns 0 % 4) := by rw [hft]; exact fun x hx => digit_lt (by exact lin [_] [.L 1 (.N 2) (.V 0)] (.T 1 (.N 0) (.V 0)) rfl z3) hx
  have hnl : (drawn.map numOf).length = bsN (cellN ns 0 % 4) := by rw [List.length_map]; exact hdl
  have hnr : ∀ x ∈ drawn.map numOf, 7 ≤ x ∧ x ≤ 54 := fun x hx => by
    (refine el1x2 (List.mem_map.mp hx) ?_; intro d hd hZ; subst hZ)
    have := ops_ok.2 d (hdm d hd)
    exact ⟨this.2.2.1, this.2.2.2.1⟩
  have hnn : (drawn.map numOf).Nodup := by
    rw [List.Nodup, List.pairwise_map]
    exact List.Pairwise.imp_of_mem (fun {x y} hx hy hne e => hne (num_inj (hdm x hx) (hdm y hy) e)) hdn
  have hgw : ∀ x ∈ first, words.getD x [] ∈ words := fun x hx => by
    rw [List.getD_eq_getElem?_getD, List.getElem?_eq_getElem (show x < words.length by have := hfb x hx; exact lin [_, _, _] [.Q 1 (.V 0) (.V 1), .T 1 (.V 2) (.V 1)] (.T 1 (.V 2) (.V 0)) rfl hwl this)]
    exact List.getElem_mem _
  have hlex := lex_ok (ws := first.map fun x => words.getD x []) (cell := cellN ns 5) (m := szN (cellN ns 0 % 4)) (by rw [List.length_map]; exact hfl) (by exact lin [_] [.L 1 (.V 0) (.N 6)] (.L 1 (.V 0) (.N 10)) rfl z2) (fun v hv => by
    (refine el1x2 (List.mem_map.mp hv) ?_; intro x hx hZ; subst hZ)
    obtain ⟨a, r, e, h1, h2, h3, h4, h5⟩ := hwh _ (hgw x hx)
    exact ⟨(hwo _ (hgw x hx)).1, a, r, e, h3, h4, h5⟩)
  have htl : ((textTo (first.map (fun x => words.getD x []) ++ [[122]]) (cellN ns 5) (szN (cellN ns 0 % 4) + 1)).dropLast).length ≤ 1000 := by
    rw [List.length_dropLast]
    have := textTo_len (first.map (fun x => words.getD x []) ++ [[122]]) (cellN ns 5) (szN (cellN ns 0 % 4) + 1) (fun v hv => by
      rcases List.mem_append.mp hv with q | q
      · (refine el1x2 (List.mem_map.mp q) ?_; intro x hx hZ; subst hZ)
        exact (hwo _ (hgw x hx)).1
      · simp at q; subst q; simp)
    have : (szN (cellN ns 0 % 4) + 1) * 24 ≤ 168 := by exact lin [_] [.L 24 (.V 0) (.N 6)] (.L 1 (.R (.A (.V 0) (.N 1)) 24) (.N 168)) rfl z2
    lia
  generalize textTo (first.map (fun x => words.getD x []) ++ [[122]]) (cellN ns 5) (szN (cellN ns 0 % 4) + 1) = tt at F₃ hlex htl
  generalize tt.dropLast = text at F₃ hlex htl
  generalize restN (first.map fun x => words.getD x []) (cellN ns 5) (szN (cellN ns 0 % 4)) = rests at hlex
  have K := sieve_all hw0 hw1 hk hnl hnn hfl hfb
  have hfm : (first.map fun x => words.getD x []).length = szN (cellN ns 0 % 4) := by rw [List.length_map]; exact hfl
  have q1 := hlex.s (szN (cellN ns 0 % 4)) [122] (by rw [List.getElem?_append_right (by exact lin [_, _] [.E 1 (.V 0) (.V 1)] (.L 1 (.V 0) (.V 1)) rfl hfm), hfm, Nat.sub_self]; rfl)
  have q2 := hlex.s (szN (cellN ns 0 % 4) + 1) [] (by rw [List.getElem?_append_right (by exact lin [_, _] [.E 1 (.V 0) (.V 1)] (.L 1 (.V 0) (.A (.V 1) (.N 1))) rfl hfm), hfm, show szN (cellN ns 0 % 4) + 1 - szN (cellN ns 0 % 4) = 1 by lia]; rfl)
  have q3 : rests (szN (cellN ns 0 % 4) + 1 + 1) = [] := by
    have := hlex.e
    rw [List.length_append, hfm] at this
    exact this
  rw [q3] at q2
  refine law_3 (n := n) (rests := rests) H z1 z2 z3 z4 hwl hwo hnl hnr hfl hfb htl hlex hT (show Fn prog w G (n + 5) _ _ _ _ _ _ _ _ _ _ _ (lwN.zip (pre3 ns (cellN ns) (szN (cellN ns 0 % 4)) (bsN (cellN ns 0 % 4)) (wayN (cellN ns 0) 4) (wayN (cellN ns 0) 8) sa CT drawn words (drawn.map numOf) first text ++ List.replicate 14 none)) _ from F₃) fun s₄ X₄ P₄ L ln hLC hLT lx ht F₄ l₄ => ?_
  refine law_4 (n := n) (rows := rowsOf (bsN (cellN ns 0 % 4)) first) H z1 z2 z3 z4 hwl hwo hwn hwh hnl hnr (fun r hr => (rows_len hr).trans hfl) (fun r hr => rows_lt (by exact lin [_] [.L 1 (.N 2) (.V 0)] (.T 1 (.N 0) (.V 0)) rfl z3) hr) rfl K hLC lx q1 (hlex.b _) (hlex.b _) (show Fn prog w G (n + 5) _ _ _ _ _ _ _ _ _ _ _ (lwN.zip (pre4 ns (cellN ns) (szN (cellN ns 0 % 4)) (bsN (cellN ns 0 % 4)) (wayN (cellN ns 0) 4) (wayN (cellN ns 0) 8) sa CT drawn words (drawn.map numOf) first text L.x (rowsOf (bsN (cellN ns 0 % 4)) first) ++ List.replicate 9 none)) _ from F₄)
    fun s₅ X₅ P₅ M₅ ln₅ v20 v21 v22 v23 rings lx₅ ht₅ hrg F₅ l₅ => ?_
  exact law_5 (n := n) H z3 z4 hw0 hw1 hnl hnr rfl K htl hLC lx₅ q2 (hlex.b _) (ht₅.trans ht) F₅ fun s' M' X' P' σ' F' tb => F'.endsX (.bool true) (hLT ▸ tb.t)
end
end
section
open PySem.W PySem.W.X PySem.Builtin
noncomputable def offT (h : Heap) (T : Addr) : PMap := fun a => if a = T then none else h.get? a
theorem offT_get {h : Heap} {T a : Addr} {o : Obj} (e : h.get? a = some o) (n : (a == T) = false) : offT h T a = some o := by
  unfold offT; rw [if_neg (by simpa using n)]; exact e
theorem offT_sub {h : Heap} {T : Addr} : Sub (offT h T) h := fun a o e => by
  unfold offT at e; split at e
  · exact no1 e
  · exact e
noncomputable def fdOf (o : Obj) : Option FuncData := match o.data with | .func fd => some fd | _ => none
noncomputable def fdK (K : Frag) (a : Addr) : Option FuncData := (K.lookup a).bind fdOf
noncomputable def nmOf (v : Option Value) : Option Str := match v with | some (.str q _) => some q | _ => none
noncomputable def vsOf (o : Obj) : Option (Array Value) := match o.data with | .fields vs => some vs | _ => none
noncomputable def codeNm (K : Frag) (c : Value) : Option Str := match c with
  | .ref c => ((K.lookup c).bind vsOf).bind fun vs => nmOf vs[1]?
  | _ => none
noncomputable def tup (K : Frag) (fd : FuncData) := (fd.params, fd.body, fd.scope, fd.globals, fd.builtins, fd.closure, fd.defaults, fd.code, codeNm K fd.code == some fd.qualname)
noncomputable def FnE (K : Frag) (a c : Addr) (p : Arguments × List Stmt × Scope) : Prop := (fdK K a).map (tup K) = some (p.1, .stmts p.2.1, p.2.2, mainGlobals, builtinsNs, [], .none, .ref c, true)
set_option tactic.hygienic true in
theorem df_of {K : Frag} {h : Heap} {T a c : Addr} {p : Arguments × List Stmt × Scope} (X : K.In h) (e : FnE K a c p) (n1 : (a == T) = false) (n2 : (c == T) = false) : Df (offT h T) p.1 p.2.1 p.2.2 a := by
  unfold FnE fdK at e
  cases q : K.lookup a with
  | none => rw [q] at e; exact no1 e
  | some o =>
    rw [q] at e
    simp only [Option.bind_some] at e
    cases q2 : fdOf o with
    | none => rw [q2] at e; exact no1 e
    | some fd =>
      rw [q2] at e
      have e := Option.some.inj e
      simp only [tup, Prod.mk.injEq] at e
      obtain ⟨h1, h2, h3, h4, h5, h6, h7, h8, h9⟩ := e
      have hd : o.data = .func fd := by
        unfold fdOf at q2
        split at q2
        · rename_i x e9; (have h := Option.some.inj q2; clear q2; subst h); exact e9
        · exact no1 q2
      rw [h8] at h9
      simp only [codeNm] at h9
      cases q3 : K.lookup c with
      | none => rw [q3] at h9; simp at h9
      | some oc =>
        rw [q3] at h9
        simp only [Option.bind_some] at h9
        cases q4 : vsOf oc with
        | none => rw [q4] at h9; simp at h9
        | some vs =>
          rw [q4] at h9
          simp only [Option.bind_some, beq_iff_eq] at h9
          have hv : oc.data = .fields vs := by
            unfold vsOf at q4
            split at q4
            · rename_i x e9; (have h := Option.some.inj q4; clear q4; subst h); exact e9
            · exact no1 q4
          obtain ⟨t, ht⟩ : ∃ t, vs[1]? = some (.str fd.qualname t) := by
            unfold nmOf at h9
            split at h9
            · rename_i q t e; (have h := Option.some.inj h9; clear h9; subst h); exact ⟨t, e⟩
            · exact no1 h9
          exact (in2x10 o fd (offT_get (X _ _ q) n1) hd h1 h2 h3 h4 h5 h6 h7 ⟨ c, oc, vs, t, h8, offT_get (X _ _ q3) n2, hv, ht⟩)
noncomputable def esK (K : Frag) (a : Addr) : Array DictEntry := match K.lookup a with
  | some ⟨_, _, .dict es _, _⟩ => es
  | _ => #[]
noncomputable def nsK (K : Frag) (a : Addr) : Str → Option Value := nsFind (esK K a)
noncomputable def strKeyB (e : DictEntry) : Bool := match e.key with | .str .. => true | _ => false
noncomputable def isDictB (o : Obj) : Bool := match o.data with | .dict .. => true | _ => false
theorem es_of {K : Frag} {a : Addr} (e : (K.lookup a).any isDictB = true) : ∃ o ep, K.lookup a = some o ∧ o.data = .dict (esK K a) ep := by
  unfold esK
  cases q : K.lookup a with
  | none => rw [q] at e; exact no3 e
  | some o =>
    rw [q] at e
    obtain ⟨c, d, dt, sl⟩ := o
    cases dt with
    | dict es n => exact (in2x2 _ n rfl rfl)
    | _ => exact no3 e
set_option tactic.hygienic true in
theorem nsp_of {K : Frag} {h : Heap} {T a : Addr} (X : K.In h) (e : (K.lookup a).any isDictB = true) (k : (esK K a).toList.all strKeyB = true) (n : (a == T) = false) : NsP (offT h T) a (nsK K a) := by
  (refine el2x2 (es_of e) ?_; intro o ep ho hd)
  refine (in3x4 o _ ep (offT_get (X _ _ ho) n) hd (fun e he => ?_) (fun _ => rfl))
  have := List.all_eq_true.mp k e (by simpa using he)
  unfold strKeyB at this
  split at this
  · rename_i n t q; exact (in2x1 n t q)
  · exact no3 this
theorem ns_eq {K : Frag} {h : Heap} {a : Addr} {m : Str → Option Value} (X : K.In h) (N : h.Ns a m) (e : (K.lookup a).any isDictB = true) (x : Str) : m x = nsK K a x := by
  (refine el3x4 N ?_; clear N; intro o es ep ho hd _ hf)
  (refine el2x2 (es_of e) ?_; intro o' ep' ho' hd')
  have := X _ _ ho'
  rw [ho] at this; (have h := Option.some.inj this; clear this; subst h)
  rw [hd] at hd'
  injection hd' with h1 _
  rw [← hf x, h1]; rfl
theorem nsp_off {h : Heap} {T a : Addr} {m : Str → Option Value} (N : h.Ns a m) (n : (a == T) = false) : NsP (offT h T) a m :=
  let ⟨o, es, ep, ho, r⟩ := N; (in3x2 o es ep (offT_get ho n) r)
theorem cls_of {K : Frag} {h : Heap} {T C N : Addr} {nm q : Str} {bs : List Value} {k0 k1 k2 k3 k5 : Option Value} (X : K.In h) (n1 : (C == T) = false) (n2 : (N == T) = false)
    (e : K.lookup C = some (excClassObj nm q C N bs [.type "object"] true [] [] false none none k0 k1 k2 k3 k5 "object.__new__")) (e1 : (K.lookup N).any isDictB = true) (k : (esK K N).toList.all strKeyB = true)
    (a1 : nsK K N "__getattribute__" = none) (a2 : nsK K N "__getattr__" = none) (a3 : nsK K N "__setattr__" = none) : ClsF (offT h T) C (nsK K N) :=
  (in0x4 ⟨nm, q, N, bs, [], [], none, none, k0, k1, k2, k3, k5, offT_get (X _ _ e) n1, nsp_of X e1 k n2⟩ a1 a2 a3)
theorem mf_of {K : Frag} {h : Heap} {T N a c : Addr} {x : Str} {i j : Nat} (X : K.In h) (e0 : nsK K N x = some (.ref a)) (e : FnE K a c (cpart i j)) (e2 : (K.lookup a).map (·.cls) = some (.type "function")) (n1 : (a == T) = false) (n2 : (c == T) = false) : Mf (offT h T) (nsK K N) x i j a := by
  refine (in0x3 e0 (df_of X e n1 n2) (fun o ho => ?_))
  cases q : K.lookup a with
  | none => rw [q] at e2; exact no1 e2
  | some o' =>
    rw [q] at e2
    rw [offT_get (X _ _ q) n1] at ho
    (have h := Option.some.inj ho; clear ho; subst h)
    exact Option.some.inj e2
noncomputable def tkOf (v : Value) : Tok := match v with | .str _ t => t | .int _ t => t | _ => 0
noncomputable def entF (w : World) (p : (List Nat × Nat) × DictEntry) : DictEntry := ⟨hashStr w (tx p.1.1), .str (tx p.1.1) (tkOf p.2.key), .int ((p.1.2 : Nat) : Int) (tkOf p.2.val)⟩
theorem ett_rep {prog : Program} {w : World} {P : PMap} {a : Addr} {o : Obj} {z : List ((List Nat × Nat) × DictEntry)} {ep : Nat} (hP : P a = some o) (hx : o.ExactDict) (hd : o.data = .dict (z.map (entF w)).toArray ep)
    (hz : z.map (fun p => (tx p.1.1, ((p.1.2 : Nat) : Int))) = ettD) (ha : (a == sysModules) = false) : Rp prog w P (.ref a) (.dS ettD) := by
  refine .dS (kvs := z.map fun p => (tx p.1.1, .int ((p.1.2 : Nat) : Int) (tkOf p.2.val))) hP (in2x5 _ ep hx hd (fun e he => ?_) ?_ ?_) ?_ ha
  · (refine el1x2 (List.mem_map.mp (List.mem_toArray.mp he)) ?_; intro p _ hZ; subst hZ)
    exact (in1x2 (tx p.1.1) (strKind_is _ _ _ _) rfl)
  · show Pairs _ (z.map (entF w)) _
    clear hz hd
    induction z with
    | nil => exact .nil
    | cons p z ih => exact .cons (strKind_is _ _ _ _) rfl ih
  · have e : (z.map fun p => ((tx p.1.1, Value.int ((p.1.2 : Nat) : Int) (tkOf p.2.val)) : Str × Value)).map (·.1) = ettD.map (·.1) := by
      rw [← hz, List.map_map, List.map_map]; rfl
    rw [e]
    decide +kernel
  · rw [← hz]
    clear hz hd
    induction z with
    | nil => exact .nil
    | cons p z ih => exact .cons ⟨rfl, _, rfl⟩ ih
end
section
open PySem.W PySem.W.X PySem.Builtin
noncomputable def vsK (K : Frag) (c : Addr) : Array Value := (((K.lookup c).bind vsOf)).getD #[]
structure HeapOk (w : World) (K : Frag) : Prop where
  d0 : (K.lookup mainGlobals).any isDictB = true
  d1 : (K.lookup 37).any isDictB = true ∧ (esK K 37).toList.all strKeyB = true
  d2 : (K.lookup 93).any isDictB = true ∧ (esK K 93).toList.all strKeyB = true
  n49 : nsK K mainGlobals "add_callers" = some (.ref 49)
  f49 : FnE K 49 48 (part 2)
  n56 : nsK K mainGlobals "count_calls" = some (.ref 56)
  f56 : FnE K 56 55 (part 3)
  n108 : nsK K mainGlobals "ISTERMINAL" = some (.ref 108)
  f108 : FnE K 108 107 (part 58)
  n115 : nsK K mainGlobals "ISNONTERMINAL" = some (.ref 115)
  f115 : FnE K 115 114 (part 59)
  n122 : nsK K mainGlobals "ISEOF" = some (.ref 122)
  f122 : FnE K 122 121 (part 60)
  n127 : nsK K mainGlobals "_law_text" = some (.ref 127)
  f127 : FnE K 127 126 (part 62)
  n134 : nsK K mainGlobals "_law_lexer" = some (.ref 134)
  f134 : FnE K 134 133 (part 63)
  n139 : nsK K mainGlobals "_law_kind" = some (.ref 139)
  f139 : FnE K 139 138 (part 64)
  n144 : nsK K mainGlobals "_law_rows" = some (.ref 144)
  f144 : FnE K 144 143 (part 65)
  n149 : nsK K mainGlobals "_law_falls" = some (.ref 149)
  f149 : FnE K 149 148 (part 66)
  n154 : nsK K mainGlobals "_law_count" = some (.ref 154)
  f154 : FnE K 154 153 (part 67)
  n159 : nsK K mainGlobals "_law_marked" = some (.ref 159)
  f159 : FnE K 159 158 (part 68)
  n164 : nsK K mainGlobals "_law_rings" = some (.ref 164)
  f164 : FnE K 164 163 (part 69)
  n169 : nsK K mainGlobals "law" = some (.ref 169)
  f169 : FnE K 169 168 (part 70)
  n28 : nsK K 37 "__init__" = some (.ref 28)
  f28 : FnE K 28 27 (cpart 1 0)
  k28 : (K.lookup 28).map (·.cls) = some (.type "function")
  n35 : nsK K 37 "compare" = some (.ref 35)
  f35 : FnE K 35 34 (cpart 1 1)
  k35 : (K.lookup 35).map (·.cls) = some (.type "function")
  n70 : nsK K 93 "__init__" = some (.ref 70)
  f70 : FnE K 70 69 (cpart 5 0)
  k70 : (K.lookup 70).map (·.cls) = some (.type "function")
  n77 : nsK K 93 "_read_char" = some (.ref 77)
  f77 : FnE K 77 76 (cpart 5 1)
  k77 : (K.lookup 77).map (·.cls) = some (.type "function")
  n84 : nsK K 93 "get_token" = some (.ref 84)
  f84 : FnE K 84 83 (cpart 5 2)
  k84 : (K.lookup 84).map (·.cls) = some (.type "function")
  n91 : nsK K 93 "push_token" = some (.ref 91)
  f91 : FnE K 91 90 (cpart 5 3)
  k91 : (K.lookup 91).map (·.cls) = some (.type "function")
  c1 : K.lookup 38 = some (excClassObj "TupleComp" "TupleComp" 38 37 [.type "object"] [.type "object"] true [] [] false none none none none (some (.str "TupleComp" 189)) (some (.str "TupleComp" 197)) (some (.bool true)) "object.__new__")
  c2 : K.lookup 94 = some (excClassObj "_netrclex" "_netrclex" 94 93 [.type "object"] [.type "object"] true [] [] false none none none none (some (.str "_netrclex" 253)) (some (.str "_netrclex" 261)) (some (.bool true)) "object.__new__")
  m1 : nsK K mainGlobals "TupleComp" = some (.ref 38)
  m2 : nsK K mainGlobals "_netrclex" = some (.ref 94)
  m3 : nsK K mainGlobals "ENDMARKER" = some (.int 0 313)
  m4 : nsK K mainGlobals "NT_OFFSET" = some (.int 256 411)
  m5 : nsK K mainGlobals "EXACT_TOKEN_TYPES" = some (.ref 99)
  m6 : nsK K mainGlobals "__builtins__" = some (.ref 4)
  a1 : ∀ x ∈ ["__getattribute__", "__getattr__", "__setattr__", "comp_select_list"], nsK K 37 (Str.ofString x) = none
  a2 : ∀ x ∈ ["__getattribute__", "__getattr__", "__setattr__", "lineno", "pushback", "whitespace", "instream"], nsK K 93 (Str.ofString x) = none
  b0 : ∀ x ∈ ["range", "list", "dict", "tuple", "bool", "len", "sum", "max", "min", "all", "isinstance", "iter"], nsK K mainGlobals (Str.ofString x) = none
  o1 : (K.lookup sysModules).isSome = true
  o4 : K.lookup 4 = some { cls := .type "module", dict := some builtinsNs, data := .plain }
  o129 : K.lookup 129 = some (tabObj #[])
  h1 : (K.lookup 133).map (·.cls) = some (.type "code")
  h2 : (K.lookup 133).map (·.data) = some (.fields (vsK K 133))
  h3 : (vsK K 133)[11]? = some (.ref 129)
  h4 : (vsK K 133).getD 11 .none = .ref 129
  h5 : (vsK K 133).getD 18 .none = .str "/claim/cut.py" 546
  h6 : (vsK K 133).getD 7 .none = .int 3 0
  h7 : (vsK K 133).getD 9 .none = .bool true
  h8 : (vsK K 133).getD 10 .none = .int 181 0
  e1 : (K.lookup 99).map (fun o => (o.cls, o.dict, o.slots)) = some (.type "dict", none, #[])
  e2 : (K.lookup 99).any isDictB = true
  e3 : (esK K 99) = ((ett.zip (esK K 99).toList).map (entF w)).toArray
  e4 : (ett.zip (esK K 99).toList).map (fun p => (tx p.1.1, ((p.1.2 : Nat) : Int))) = ettD
section
variable {prog : Program} {w : World} {K : Frag} {h : Heap} {mg mb : Str → Option Value}
theorem boot_b : bootBuiltins "range" = some (.type "range") ∧ bootBuiltins "list" = some (.type "list") ∧ bootBuiltins "dict" = some (.type "dict") ∧ bootBuiltins "tuple" = some (.type "tuple") ∧ bootBuiltins "bool" = some (.type "bool") ∧ bootBuiltins "len" = some (.builtin "len") ∧ bootBuiltins "sum" = some (.builtin "sum") ∧ bootBuiltins "max" = some (.builtin "max") ∧ bootBuiltins "min" = some (.builtin "min") ∧ bootBuiltins "all" = some (.builtin "all") ∧ bootBuiltins "isinstance" = some (.builtin "isinstance") ∧ bootBuiltins "iter" = some (.builtin "iter") := ⟨by kernel_rfl, by kernel_rfl, by kernel_rfl, by kernel_rfl, by kernel_rfl, by kernel_rfl, by kernel_rfl, by kernel_rfl, by kernel_rfl, by kernel_rfl, by kernel_rfl, by kernel_rfl⟩
theorem law_good (X : K.In h) (O : HeapOk w K) (Tg : h.Ns mainGlobals mg) (Tb : ∀ x : Str, x ≠ "__name__" → mb x = bootBuiltins x) :
    LawG ⟨mg, mb, offT h 129⟩ 129 94 38 (nsK K 93) (nsK K 37) 70 77 84 91 28 35 := by
  have mgE := ns_eq X Tg O.d0
  have G : ∀ {x : Str} {v : Option Value}, nsK K mainGlobals x = v → mg x = v := fun e => (mgE _).trans e
  have B : ∀ (x : String) {v : Value}, x ∈ ["range", "list", "dict", "tuple", "bool", "len", "sum", "max", "min", "all", "isinstance", "iter"] → bootBuiltins (Str.ofString x) = some v → Str.ofString x ≠ "__name__" → Gb ⟨mg, mb, offT h 129⟩ (Str.ofString x) v := fun x v hx e ne => ⟨G (O.b0 x hx), (Tb _ ne).trans e⟩
  obtain ⟨q0, q1, q2, q3, q4, q5, q6, q7, q8, q9, q10, q11⟩ := boot_b
  have C2 : ClsF (offT h 129) 94 (nsK K 93) := cls_of X rfl rfl O.c2 O.d2.1 O.d2.2 (O.a2 _ (by decide)) (O.a2 _ (by decide)) (O.a2 _ (by decide))
  have C1 : ClsF (offT h 129) 38 (nsK K 37) := cls_of X rfl rfl O.c1 O.d1.1 O.d1.2 (O.a1 _ (by decide)) (O.a1 _ (by decide)) (O.a1 _ (by decide))
  have cd : ∀ h', Sub (offT h 129) h' → CodeHd h' 133 129 := fun h' hs => by
    have h1 := O.h1
    have h2 := O.h2
    cases q : K.lookup 133 with
    | none => rw [q] at h1; exact no1 h1
    | some oc =>
      rw [q] at h1 h2
      exact ⟨oc, _, _, _, _, _, _, _, _, hs _ _ (offT_get (X _ _ q) rfl), Option.some.inj h1, Option.some.inj h2, O.h3, O.h4, O.h5, O.h6, O.h7, O.h8, by decide⟩
  have mk : ∃ o fd c, (offT h 129) 134 = some o ∧ o.data = .func fd ∧ fd.code = .ref c ∧ ∀ h', Sub (offT h 129) h' → CodeHd h' c 129 := by
    have e := O.f134
    unfold FnE fdK at e
    cases q : K.lookup 134 with
    | none => rw [q] at e; exact no1 e
    | some o =>
      rw [q] at e
      simp only [Option.bind_some] at e
      cases q2 : fdOf o with
      | none => rw [q2] at e; exact no1 e
      | some fd =>
        rw [q2] at e
        have e := Option.some.inj e
        simp only [tup, Prod.mk.injEq] at e
        have hd : o.data = .func fd := by
          unfold fdOf at q2
          split at q2
          · rename_i x e9; (have h := Option.some.inj q2; clear q2; subst h); exact e9
          · exact no1 q2
        exact (in3x4 o fd (133) (offT_get (X _ _ q) rfl) hd (e.2.2.2.2.2.2.2.1) cd)
  have lexF : LexF ⟨mg, mb, offT h 129⟩ 129 94 (nsK K 93) 70 77 84 91 := { cls := G O.m2, c := C2, i := mf_of X O.n70 O.f70 O.k70 rfl rfl, r := mf_of X O.n77 O.f77 O.k77 rfl rfl, g := mf_of X O.n84 O.f84 O.k84 rfl rfl, p := mf_of X O.n91 O.f91 O.k91 rfl rfl, a1 := O.a2 _ (by decide), a2 := O.a2 _ (by decide), a3 := O.a2 _ (by decide), a4 := O.a2 _ (by decide), maker := (in1x3 (134) (G O.n134) (df_of X O.f134 rfl rfl) mk), bm := fun h' hs => ⟨4, { cls := .type "module", dict := some builtinsNs, data := .plain }, G O.m6, by decide, by decide, by decide, hs _ _ (show (offT h 129) 4 = _ from offT_get (X _ _ O.o4) rfl), rfl, rfl, rfl⟩, gT := by decide, bl := B "list" (by decide) q1 (by decide), bi := B "iter" (by decide) q11 (by decide) }
  exact { lex := lexF, tcls := G O.m1, tc := C1, ti := mf_of X O.n28 O.f28 O.k28 rfl rfl, tm := mf_of X O.n35 O.f35 O.k35 rfl rfl, ta := O.a1 _ (by decide), hE := ⟨313, G O.m3⟩, hN := ⟨411, G O.m4⟩, g58 := (in1x2 (108) (G O.n108) (df_of X O.f108 rfl rfl)), g59 := (in1x2 (115) (G O.n115) (df_of X O.f115 rfl rfl)), g60 := (in1x2 (122) (G O.n122) (df_of X O.f122 rfl rfl)), g2 := (in1x2 (49) (G O.n49) (df_of X O.f49 rfl rfl)), g3 := (in1x2 (56) (G O.n56) (df_of X O.f56 rfl rfl)), g62 := (in1x2 (127) (G O.n127) (df_of X O.f127 rfl rfl)), g64 := (in1x2 (139) (G O.n139) (df_of X O.f139 rfl rfl)), g65 := (in1x2 (144) (G O.n144) (df_of X O.f144 rfl rfl)), g66 := (in1x2 (149) (G O.n149) (df_of X O.f149 rfl rfl)), g67 := (in1x2 (154) (G O.n154) (df_of X O.f154 rfl rfl)), g68 := (in1x2 (159) (G O.n159) (df_of X O.f159 rfl rfl)), g69 := (in1x2 (164) (G O.n164) (df_of X O.f164 rfl rfl)), range := B "range" (by decide) q0 (by decide), list := B "list" (by decide) q1 (by decide), dict := B "dict" (by decide) q2 (by decide), tuple := B "tuple" (by decide) q3 (by decide), bool := B "bool" (by decide) q4 (by decide), len := B "len" (by decide) q5 (by decide), sum := B "sum" (by decide) q6 (by decide), max := B "max" (by decide) q7 (by decide), min := B "min" (by decide) q8 (by decide), all := B "all" (by decide) q9 (by decide), isin := B "isinstance" (by decide) q10 (by decide) }
theorem ett_good (X : K.In h) (O : HeapOk w K) : Rp prog w (offT h 129) (.ref 99) (.dS ettD) := by
  (refine el2x2 (es_of O.e2) ?_; intro o ep ho hd)
  have hx := O.e1
  rw [ho] at hx
  have hx := Option.some.inj hx
  simp only [Prod.mk.injEq] at hx
  exact ett_rep (offT_get (X _ _ ho) rfl) (in0x3 (hx.1) (hx.2.1) (hx.2.2)) (by rw [hd, ← O.e3]) O.e4 rfl
end
end
section
open PySem.W PySem.W.X PySem.Builtin
section
variable {prog : Program} {w : World} {K : Frag} {mg mb : Str → Option Value} {s : Shared}
theorem post_ok (l : List Int) : PySem.Challenge.rw_wz0014_01.row.claim.post [ofPy (PyData.list (List.map PyData.int l))] (WData.bool true) [ofPy (PyData.list (List.map PyData.int l))] = true := by
  wrow_post
theorem heap_of {h : Heap} (X : K.In h) (O : HeapOk w K) : HeapOk w K := O
theorem rpl_ints {P : PMap} {vs : List Value} {ns : List Int} (h : IntsAre vs ns) : RpL prog w P vs (ns.map .int) := by
  induction h with
  | nil => exact .nil
  | cons _ _ _ ih => exact .cons (.int _ _) ih
theorem old_good {h h' : Heap} {X' : PMap} {c : Addr} {o : Obj} {vs ps : Array Value} (hT : h.get? 129 = some (tabObj #[])) (k : ∀ b o, h.get? b = some o → ∃ o', h'.get? b = some o' ∧ ((PMap.none.put 129 (tabObj #[])) b = none → o' = o)) (e : h'.get? 129 = some (tabObj ps))
    (h1 : h.get? c = some o) (h2 : o.cls = .type "code") (h3 : o.data = .fields vs) (h4 : vs[11]? = some (.ref 129)) : OldK h h' := by
  refine ⟨fun b o e' => ?_, fun b o e => let ⟨o', h, _⟩ := k b o e; ⟨o', h⟩⟩
  by_cases z : b = 129
  · subst z
    rw [hT] at e'; (have h := Option.some.inj e'; clear e'; subst h)
    exact .inr (.inl (in0x3 (in3x4 c _ vs h1 h2 h3 h4) rfl ⟨ #[], ps, rfl, by rw [e]; simp⟩))
  · (refine el1x2 (k b o e') ?_; intro o' h q)
    rw [q (by simp [PMap.put, z, PMap.none])] at h
    exact .inl h
theorem law_done {vs : List Value} {ns : List Int} (X : K.In s.heap) (O : HeapOk w K) (Tg : s.heap.Ns mainGlobals mg) (Tb : s.heap.Ns builtinsNs mb) (Tbb : ∀ x : Str, x ≠ "__name__" → mb x = bootBuiltins x) (Tl : s.heap.NoLimit)
    (hI : IntsAre vs ns) (hl : s.heap.get? 170 = some { cls := .type "list", data := .seq vs.toArray }) (hn : ns.length ≤ 1000) :
    wpAny (model prog w) callerA (call (.ref 169) [.ref 170]) (fun v s' => v = .bool true ∧ OldK s.heap s'.heap ∧ s'.os = s.os ∧ s'.gens = s.gens) (fun _ _ => False) s := by
  have hT := X _ _ O.o129
  have ok : GOk ⟨mg, mb, offT s.heap 129⟩ := ⟨nsp_off Tg rfl, nsp_off Tb rfl, let ⟨mc, a, b⟩ := Tl; (in1x2 mc (nsp_off a rfl) b), by
    (refine el1x1 (Option.isSome_iff_exists.mp O.o1) ?_; intro o ho)
    exact ⟨o, show (offT s.heap 129) sysModules = _ from offT_get (X _ _ ho) rfl⟩⟩
  refine wpAny_mono (law_call (n := 0) (X := PMap.none.put 129 (tabObj #[])) (P := offT s.heap 129) (law_good X O Tg Tbb) (in1x2 (.ref 99) ((ns_eq X Tg O.d0 _).trans O.m5) (ett_good X O)) (df_of X O.f169 rfl rfl) hn ok (PMap.le_refl _) offT_sub ⟨rfl, by decide, by decide⟩ (fun a o e => ?_) (fun a o e => ?_) (PMap.put_self _ _ _)
    (.list (offT_get hl rfl) (rpl_ints hI))) (fun v s' e => ?_) fun _ _ q => q.elim
  · by_cases z : a = 129
    · subst z; rw [PMap.put_self] at e; (have h := Option.some.inj e; clear e; subst h); exact hT
    · simp [PMap.put, z, PMap.none] at e
  · by_cases z : a = 129
    · subst z; unfold offT; rw [if_pos rfl]
    · simp [PMap.put, z, PMap.none] at e
  · (refine el4x9 e ?_; clear e; intro h' tk P' X' hZ; subst hZ; intro k l b g mx dx r hZ; refine el1x1 hZ ?_; clear hZ; intro ps e)
    (have h := Rp.bool_inv r; clear r; subst h)
    refine (in0x4 rfl ?_ rfl rfl)
    have h1 := O.h1
    have h2 := O.h2
    cases q : K.lookup 133 with
    | none => rw [q] at h1; exact no1 h1
    | some oc =>
      rw [q] at h1 h2
      exact old_good (X' := X') hT k (mx _ _ e) (X _ _ q) (Option.some.inj h1) (Option.some.inj h2) O.h3
end
end
end Mine
set_option tactic.hygienic true
open PySem PySem.W PySem.W.X PySem.W.ZRun PyProof.Rows
namespace Mine.top
theorem tw16104615914030681952 : True := trivial
theorem tw8025738503920905074 : True := trivial
theorem tw8657480035899644758 : True := trivial
theorem tw9272544492142499777 : True := trivial
theorem tw8237333600419904120 : True := trivial
theorem tw427420600052151026 : True := trivial
theorem tw7444641836354208208 : True := trivial
theorem tw15286249088069653756 : True := trivial
theorem tw12415523145999629524 : True := trivial
theorem tw15095372191486117680 : True := trivial
theorem tw1157947924193174020 : True := trivial
theorem tw10657950659306570408 : True := trivial
theorem tw2220570432770164149 : True := trivial
theorem tw7671549972530922468 : True := trivial
theorem tw97580500277827492 : True := trivial
theorem tw2377541652452675900 : True := trivial
theorem tw17620759639134147866 : True := trivial
theorem tw3254097082911018636 : True := trivial
theorem tw6662652255960138227 : True := trivial
theorem tw16054190913257422852 : True := trivial
theorem tw15245507539482535896 : True := trivial
theorem tw17219337458794519322 : True := trivial
theorem tw15877122091014420850 : True := trivial
theorem tw12080426169559351053 : True := trivial
theorem tw13799840507378627052 : True := trivial
theorem tw15113937058982081365 : True := trivial
theorem tw7531421383381892973 : True := trivial
theorem tw14724332232928298890 : True := trivial
theorem tw4940147422707163885 : True := trivial
theorem tw8072261117183424962 : True := trivial
theorem tw53344730913325255 : True := trivial
theorem tw10797620697341660853 : True := trivial
theorem tw6572447435987645144 : True := trivial
theorem tw14399976873020721970 : True := trivial
theorem tw5915399644114372684 : True := trivial
theorem tw7743179893348639699 : True := trivial
theorem tw14747140909534839006 : True := trivial
theorem tw4828031223510198475 : True := trivial
theorem tw3712731000106771831 : True := trivial
theorem tw11141966352661209427 : True := trivial
theorem tw9919435345466941130 : True := trivial
theorem tw8973803690348224638 : True := trivial
theorem tw16453443671601555132 : True := trivial
theorem tw10987319290404115282 : True := trivial
theorem tw16719718919923625709 : True := trivial
theorem tw16878204669230926818 : True := trivial
theorem tw13420762306968818387 : True := trivial
theorem tw104434173382791472 : True := trivial
theorem tw1430007082597545163 : True := trivial
theorem tw10195997230039290492 : True := trivial
theorem tw325888073979701587 : True := trivial
theorem tw16550210197400561554 : True := trivial
theorem tw2506305409684761478 : True := trivial
theorem tw2665807947273092163 : True := trivial
theorem tw2847958352784047137 : True := trivial
theorem tw1601500998369573665 : True := trivial
theorem tw15740088241188596515 : True := trivial
theorem tw8140125068956082859 : True := trivial
theorem tw7600245330811189008 : True := trivial
theorem tw18367679650794681301 : True := trivial
theorem tw16415559393655328363 : True := trivial
theorem tw9523839732342829001 : True := trivial
theorem tw4835499133494076262 : True := trivial
theorem tw9951221954081769418 : True := trivial
theorem tw1833847959688406909 : True := trivial
theorem tw15747197079522102443 : True := trivial
theorem tw11199532085631943738 : True := trivial
theorem tw9843447840031818808 : True := trivial
theorem tw2683898200743741643 : True := trivial
theorem tw1843344800811705456 : True := trivial
theorem tw1638113669730673903 : True := trivial
theorem tw5860347150701562758 : True := trivial
theorem tw13710211086531791108 : True := trivial
theorem tw7250933059871147345 : True := trivial
theorem tw13983857475226248213 : True := trivial
theorem tw146815374380898660 : True := trivial
theorem tw3474246075231452896 : True := trivial
theorem tw18237780215024852062 : True := trivial
theorem tw13068111086705522682 : True := trivial
theorem tw11520865232209809239 : True := trivial
theorem tw12166907935582030026 : True := trivial
theorem tw9739860059890490050 : True := trivial
theorem tw13307591127769906961 : True := trivial
theorem tw3337584539547039419 : True := trivial
theorem tw6505410396798821541 : True := trivial
theorem tw1068965626710143233 : True := trivial
theorem tw9233335307524088747 : True := trivial
theorem tw12105128591322288922 : True := trivial
theorem tw381845443943030031 : True := trivial
theorem tw6487610083215253720 : True := trivial
theorem tw11466170419677230873 : True := trivial
theorem tw7386116660499605909 : True := trivial
theorem tw11240886729373846589 : True := trivial
theorem tw7198060816514059695 : True := trivial
theorem tw9166809390415177425 : True := trivial
theorem tw6176384092110617959 : True := trivial
theorem tw76412952228603488 : True := trivial
theorem tw16821654228018055803 : True := trivial
theorem tw8729362747519067210 : True := trivial
theorem tw196536941598035525 : True := trivial
theorem tw2581206410525282061 : True := trivial
theorem tw9743097575036673082 : True := trivial
theorem tw5938664839603501006 : True := trivial
theorem tw16800595933775061595 : True := trivial
theorem tw4248626170254925996 : True := trivial
theorem tw13290321428070320777 : True := trivial
theorem tw18177719399980262173 : True := trivial
theorem tw2758071753971750899 : True := trivial
theorem tw8410488445778877200 : True := trivial
theorem tw17542608870123051758 : True := trivial
theorem tw3422688185749166683 : True := trivial
theorem tw9442318146202087700 : True := trivial
theorem tw4076138812419527698 : True := trivial
theorem tw9227057690007400460 : True := trivial
theorem tw13802547742096326172 : True := trivial
theorem tw13294644589562898135 : True := trivial
theorem tw4526881389914513428 : True := trivial
theorem tw3315250197877816394 : True := trivial
theorem tw11467158513710699916 : True := trivial
theorem tw14544212217232164504 : True := trivial
theorem tw17953984050398360512 : True := trivial
theorem tw11334203419191126389 : True := trivial
theorem tw3976154599441133093 : True := trivial
theorem tw4597200072644226624 : True := trivial
theorem tw11845233108574324481 : True := trivial
theorem tw4784893810139332661 : True := trivial
theorem tw15188630647176887538 : True := trivial
theorem tw6624316729101989866 : True := trivial
theorem tw15254643099363442306 : True := trivial
theorem tw14632489290957082403 : True := trivial
theorem tw10548783162686979305 : True := trivial
theorem tw14142502885225118848 : True := trivial
theorem tw1291508964198565346 : True := trivial
theorem tw13326734554550294991 : True := trivial
theorem tw12703300379282745167 : True := trivial
theorem tw13090165191389475591 : True := trivial
theorem tw11203750815551599093 : True := trivial
theorem tw14697636140705633519 : True := trivial
theorem tw8212240652046128837 : True := trivial
theorem tw10008474027749305400 : True := trivial
theorem tw13001836021917841797 : True := trivial
theorem tw7313339093194340965 : True := trivial
theorem tw17795014544551873601 : True := trivial
theorem tw7172198522750732291 : True := trivial
theorem tw9195894827357321740 : True := trivial
theorem tw18371284783138465269 : True := trivial
theorem tw3195522803047326042 : True := trivial
theorem tw11443710868159068359 : True := trivial
theorem tw6189502492464219833 : True := trivial
theorem tw8311017846404947139 : True := trivial
theorem tw9953747333497923681 : True := trivial
theorem tw283044589724301 : True := trivial
theorem tw18245740138792012028 : True := trivial
theorem tw501154541418245514 : True := trivial
theorem tw6042063481754889096 : True := trivial
theorem tw10510093454237375763 : True := trivial
theorem tw12718909917080609646 : True := trivial
theorem tw3261557481417251176 : True := trivial
end Mine.top
set_option Elab.async true in
set_option maxRecDepth 100000 in
set_option maxHeartbeats 0 in
theorem Mine.top : PySem.Challenge.rw_wz0014_01.Holds := by
  w_on; o_law; z_head; (case hw => w_witness2)
  k_fill
  intro w s₀ s₁ mg mb G y fa o pm cd doc dV kV ho hd hcd hD hmg hg args vals as L hpre hlay hrd hwl hlo
  z_open y L KX ZH ZN ZT
  refine Ground.open G ?_
  intro T B D TE TW
  wrow_args hpre hlay hrd hwl hlo
  obtain ⟨hat, hsz⟩ := script_at L
  rw [ZN] at hat hsz
  subst hat
  clear B D TE TW hsz ZH ZT
  have O := Mine.heap_of KX (w := w) (by
    constructor
    all_goals first
      | (unfold Mine.FnE; kernel_rfl)
      | kernel_rfl
      | (exact ⟨by kernel_rfl, by kernel_rfl⟩)
      | (simp only [List.forall_mem_cons, List.not_mem_nil, false_implies, implies_true, and_true]; (repeat' apply And.intro) <;> kernel_rfl))
  have hfa := hmg.symm.trans ((Mine.ns_eq KX T.g O.d0 _).trans O.n169)
  have hfa := Value.ref.inj (Option.some.inj hfa)
  subst hfa
  rename_i hc _ _ hL _ _
  have hO := script_obj L (by assumption)
  refine wpAny_mono (Mine.law_done KX O T.g T.b T.builtins T.nolimit (by assumption) hO (by omega)) (fun v s' e => ?_) fun _ _ q => q.elim
  obtain ⟨rfl, e1, e2, e3⟩ := e
  refine ⟨.inl ⟨_, .bool true, [], rfl, fun cls => ?_, .bool true, ?_, fun _ => ⟨List.nodup_nil, fun a h => nomatch h⟩⟩, e1, e2, AllBare.of_eq (e3.trans hg)⟩
  · rfl
  · exact Mine.post_ok _
theorem PySem.Challenge.cw_wz0014_01_holds : PySem.Challenge.rw_wz0014_01.Holds :=
  Mine.top
